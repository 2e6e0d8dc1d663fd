import PyProof.Rows.All
import Wide.All
import OpenK.AllK
import Wide.FinOn
import PyProof.FString5
import PyProof.Draws
import PyProof.NeKinds
import PyProof.ExcStrAll.AssertionError
import PyProof.ExcStrAll.IndexError
import PyProof.ExcStrCall
import PyProof.StrOps2
import PyProof.ListIndexNeg
import PyProof.ZipIter
import PyProof.Rows.CatchHere
import PyProof.Rows.FStr
import PyProof.Rows.StrDouble
import PyProof.SumAny
import PyProof.Rows.StrFin3
import Wide.WTab
import KE.BitLaws
import KE.KxBytes
import KE.IntBitsLaws
import KE.KBytesWalk
import KE.KBytesAny
import KE.LcTurns
import KE.KItemsList
import KE.KSortTup
import KE.KxPercentT
import PySem.Challenge.RW_oy0193_01
open And renaming right->Er,left->Kb,intro->Sq
open Array renaming toList_inj->sb,length_toList->vw,getElem?_eq_getElem->A0,getElem?_eq_none->Es,toList_push->Et,getD->Kc,getD_eq_getD_getElem?->Kd,getElem?_eq_some_iff->Ke,size_extract->Kf,size_push->Kg,toList_setIfInBounds->Kh,getElem?_toList->Sr,map->Ss,replicate->Su,toList_pop->Sv
open Array.Perm renaming refl->aib
open Bool renaming false_eq_true->fi,and_eq_true->mH,false_ne_true->tv,not_true->vx,not_eq_true'->Ki,and_false->Sw,or_eq_true->Sx,or_eq_true_iff->Sy,true_and->Sz
open Decidable renaming em->Kj
open Eq renaming symm->SA
open Except renaming ok->xG
open ForInStep renaming yield->Kk
open Int renaming natCast_nonneg->fG,ofNat_lt->i1,ofNat->kz,toNat_natCast->lH,not_lt->q8,le_trans->tw,zero_add->tx,ofNat_le->vy,fmod_eq_emod_of_nonneg->xH,toNat->xI,add_comm->Eu,fdiv_eq_ediv_of_nonneg->Ev,le_refl->Ew,add_assoc->Kl,add_le_add_right->Km,add_zero->Kn,mul_nonneg->Ko,mul_zero->Kp,add_nonneg->SD,eq_ofNat_of_zero_le->SE,le_of_lt->SF,lt_of_le_of_lt->SG,mul_le_mul_of_nonneg_left->SH,mul_one->SI,natCast_mul->SJ,not_le->SK,ofNat_inj->SM,one_mul->SN,sub_nonneg_of_le->SO
open LE renaming le->Kq
open LT renaming lt->gm
open List renaming lookup_cons->c1,mem_cons->dw,map_map->dY,nodup_cons->d',map_cons->ef,mem_map_of_mem->eT,range->e7,mem_append->fC,length_map->gz,map_append->gA,length_append->gJ,mem_cons_of_mem->gQ,map_congr_left->gZ,getElem?_eq_getElem->hT,getD_eq_getElem?_getD->i2,length_cons->i3,length_set->jm,flatten_cons->jH,mem_append_right->jI,all_eq_true->kA,getElem?_eq_some_iff->kB,map_id->kC,mem_map->kD,append_assoc->k8,mem_append_left->k9,getElem?_map->lI,mem_filter->lJ,not_mem_nil->lK,size_toArray->mI,count_append->nf,map->ob,perm_iff_count->oc,count_cons->pk,mem_range->pl,mem_singleton->pn,not_lt->po,perm_append_comm->pp,filter_cons->qm,flatten_append->qn,mem_of_getElem?->qo,length_nil->q9,map_nil->q_,nodup_append->q',toArray->rb,drop_of_length_le->sc,filterMap_cons->sd,pairwise_cons->se,flatMap_cons->tz,foldl->tA,getElem_of_mem->vz,replicate->vA,take_of_length_le->vB,all_cons->xJ,drop_eq_getElem_cons->xL,getElem_mem->xM,nil_append->xN,append_nil->A1,filterMap->A2,forIn_cons->A3,forIn_nil->A4,lookup->A5,sum_cons->A6,take_succ_eq_append_getElem->A7,append_eq_nil_iff->Ex,cons_append->Ey,getElem?_append_left->Ez,getElem_inj->EA,getElem_map->EB,head?_cons->EC,lookup_cons_self->ED,lt_asymm->EE,mem_filterMap->EF,mem_or_eq_of_mem_set->EG,of_mem_zip->EH,take_length->EI,all_toArray->Kt,dropLast_eq_take->Kv,filter_eq_self->Kw,getElem?_eq_none->Kx,getLast?_eq_getElem?->Ky,isEmpty_nil->Kz,le_antisymm->KA,lt_irrefl->KC,zipIdx_cons->KD,append_of_mem->SR,cons_ne_nil->SS,drop_zero->SU,flatMap_append->SV,flatMap_map->SW,flatten_nil->SX,forIn_toArray->SY,getElem?_of_mem->S0,le_trans->S1,length_filter_le->S2,length_range->S3,length_replicate->S4,lt_trans->S5,map_eq_cons_iff->S6,mem_flatten->S7,mem_of_mem_take->S8,nil_perm->S9,nil_sublist->S_,nodup_range->S',pairwise_map->Ta,pairwise_singleton->Tb,perm_append_singleton->Tc,perm_singleton->Td,range'->Te,range'_eq_map_range->Tf,range'_succ->Tg,set_set->Th,sum_append->Ti,take_succ_cons->Tj,zipIdx_nil->Tk,zip_cons_cons->Tl
open List.Pairwise renaming imp_of_mem->aic
open List.Perm renaming append_left->Kr,swap->Ks,cons->SP
open List.Sublist renaming refl->SQ,append->aid
open List.cons renaming injEq->xK,inj->Ku
open Nat renaming le_trans->cu,lt_trans->dR,le_refl->eF,zero_le->eL,not_lt->fv,le_of_lt->gv,ne_of_gt->gR,lt_of_lt_of_le->g',sub_le->hh,mod_lt->hy,ne_of_lt->hA,lt_of_le_of_lt->h_,le_of_eq->j9,lt_succ_of_lt->kE,lt_succ_self->kF,sub_add_cancel->k_,lt_irrefl->lL,succ_pos->l7,zero_add->ng,le_of_lt_succ->od,le_succ->pq,div_one->qp,le_add_right->qq,beq->rc,mod_eq_of_lt->rf,not_lt_zero->rg,lt_succ_of_le->tB,min_le_left->tC,mul_comm->tE,not_le->tF,add_le_add->vC,add_right_comm->vD,le_add_left->vE,min_eq_right->vF,mul_le_mul_left->vG,reduceAdd->vH,add_zero->xO,min_eq_left->xP,one_pos->xQ,add_comm->A8,add_sub_cancel'->A9,div_le_self->A_,div_mul_le_self->A',eq_or_lt_of_le->Ba,le_of_sub_eq_zero->Bb,le_total->Bc,lt_of_le_of_ne->Bd,mul_one->Be,pos_of_ne_zero->Bf,pow_zero->Bg,sub_lt->Bh,add_le_add_right->EJ,add_mul->EK,le_antisymm->EL,le_of_succ_le->EM,lt_add_of_pos_right->EN,lt_of_not_le->EO,lt_of_succ_lt->EP,min_le_right->EQ,mul_add_mod->ER,mul_assoc->ES,mul_le_mul_right->ET,mul_lt_mul_of_pos_right->EU,reduceDiv->EV,reduceMod->EW,reduceMul->EX,reduceSub->EY,zero_mul->EZ,add_le_add_left->KG,cast->KH,le_of_not_lt->KI,le_sub_one_of_lt->KJ,le_zero->KL,lt_or_ge->KN,mul_mod_mul_right->KO,pow_le_pow_right->KP,pred_le_pred->KQ,sub_pos_of_lt->KR,sub_zero->KS,two_pos->KU,le_succ_of_le->Tm,lt_min->Tn,lt_or_eq_of_le->To,lt_sub_of_add_lt->Tp,max_le->Tq,mod_mul->Tr,mul_add_div->Ts,pos_iff_ne_zero->Tt,pow_pos->Tu,pred->Tv,strongRecOn->Tw,sub_le_sub_left->Tx,sub_le_sub_right->Tz,sub_lt_left_of_lt_add->TA,sub_lt_sub_right->TB,sub_pos_iff_lt->TC,succ_mul->TD,zero_lt_of_lt->TF
open Nat.succ renaming inj->sf
open Ne renaming symm->iB
open Option renaming elim->xR,isSome_none->Bi,getD_some->TG,isNone_some->TH,isSome_iff_exists->TJ
open Option.some renaming inj->rh,injEq->E0
open PUnit renaming unit->TK
open Prod.mk renaming injEq->TL
open PyProof renaming noPylong_of_log2->aiA,noPylong_small->aiB
open PyProof.Rows renaming seqObj->f4,subB->oe,tail_any->og,subscriptTail->ri,get?_update_seq->tG,Subscript_->vI,isSubtype_of_subB->vJ,SortKind->xS,StrsAre->xT,envOfC->xU,pairsOf->xV,IntsAre->Bj,isTrue_plain->Bk,listUpdate_at->Bl,List_->E1,isTrue_or->E3,listItems_at->E4,seqEpoch_at->E5,Assign_Tuple->KV,Tuple_->KW,bubble->KY,joinParts_cons->KZ,keyKind'->K0,keyLt'->K1,bubble_perm->TM,evalArgs_nil3->TN,isTrue_and->TO,keyLt'_oneType->TP,list_sort_plain->TQ,lt_str->TR,mirror_perm->TS,JoinedStr_many->aie,add_int->aif,add_str->aig,and_int->aih,eq_int->aii,floordiv_int->aij,formatField_str->aik,ge_int->ail,getItem_str->aim,getItem_tuple->ain,gt_int->aio,is_bool_none->aip,isnot_none_none->aiq,isnot_str_none->air,len_str->ais,lt_int->ait,mod_int->aiu,mul_int->aiv,neg_int->aiw,or_int->aix,pow_int->aiy,sub_int->aiz
open PyProof.Rows.SortSt renaming mk'->E2
open PySem renaming Addr->ah,Value->an,Shared->aq,Str->ay,wpAny->az,wpAny_bind->aM,Expr->a',Heap->bo,Pos->bp,Around->br,Env->bB,Obj->bJ,execs->bY,eval->b1,wpAny_pure->b6,Keeps->cS,Stmt->cT,World->c4,cLine->c7,call->df,mainGlobals->dh,wpAny_execs_nil->dq,rawInt->dG,Tok->dN,recursionLimit->d3,wpAny_execs_cons->eH,starEach->eV,wpAny_mono->fe,Flow->fj,backTo->fk,compEnvC->fD,callWith->fH,Builtin->fX,model->gn,wpAny_of_eq->g4,wpAny_holding->ib,bootBuiltins->iD,swapsWith->iE,wpAny_field->iF,Scope->jn,attributeBase->jK,backToKw->j_,keywordEach->j',Program->kG,behindInMarks->kH,builtinLookup_eq_fast->la,codeAny->lb,typeLookup_type->lc,argsOk->lM,wpAny_Assign_Name->lN,binaryOp->l9,sizeLine_eq->l_,wpAny_call_entry->l',IsPart->mK,byteArr->mN,holding->mO,Sem->ni,assign->nl,table->nn,typeOf->np,wpAny_loadPart'->nq,sizeLine->ol,wpAny_assign_Name->om,wpAny_rule->oo,Fin->pt,FuncData->pu,Result->pw,compareOp->pA,foldedSetIterable->pB,isSubtype_type->pC,wpAny_seqItems->pD,Slot->qs,field->qu,callerA->rj,cellsFrom->rk,closureFor->rl,entryFor->rm,evalOpt->rn,valueOrNone->ro,entryFor_of_tree->sh,pyNext->si,standAt->sj,wpAny_ite->sk,wpAny_newTuple->sl,again->tL,assignInOrder->tM,codeAny_builtin->tN,handleBy->tO,isSubtype->tP,isTrue->tQ,plainId_quiet->tS,truthy->tT,typeIs_str->tU,wpAny_Return_some->tV,wpAny_newObj_type->tX,wpAny_standAt->tY,Meets->vM,builtinsNs->vS,compTurn->vT,newTuple->vU,seqIndex?->vV,signature?_of->vW,sliceBounds->vX,slot_list_getitem->vY,typeLookup->vZ,wpAny_newList->v0,wpAny_setField_rec->v1,wpAny_specialOf->v2,wpAny_updateSeq->v3,Call_method1->xX,ExceptHandler->xZ,bindC->x8,bindL->x9,builtinType->x_,builtinType_eq_fast->x',clipAt->ya,letOwnedTupleGo->yb,noteFrame->yc,pyIter->yd,updateSeq->ye,wpAny_If->yf,wpAny_callSpecial?_slot->yg,wpAny_nextOf_list_item->yh,wpAny_pyIter_list->yi,wpAny_storeName_local->yj,Model->Bp,leaving->Bs,newList->Bt,plainExc_IndexError->Bu,rule->Bv,slicePick->Bw,sliceRange_one->Bx,wpAny_truthy_bool->By,Call_method0->E9,InCallC->Fa,IsRange->Fb,NameKind->Fd,data2->Fu,denote->Fv,doubtfulMember->Fw,getItem->Fx,newFields->Fy,seqItems?->Fz,setFlight->FA,storeName->FC,wpAny_Constant_str->FD,wpAny_assign_Tuple->FE,wpAny_letGo->FF,wpAny_mkInt->FG,wpAny_onRaise->FH,BindsTo->K3,Comprehension->K8,ExcName->K9,IsEnum->Ld,IsRangeIter->Lf,bindArgs->Lr,clausesOf->Ls,clipAt_nat->Lu,codeAny_call_builtin->Lv,codeAny_forLoop_any->Lw,evalArgs->Lx,list_getitem_lookup->Ly,newObj->Lz,preSum->LA,rangeSize_one->LB,rawPart->LC,relabel->LD,richCompare->LF,setItem->LG,spliced->LH,subscripted->LI,wpAny_BinOp->LJ,wpAny_Constant_int->LK,wpAny_For->LL,wpAny_call->LM,wpAny_fieldsOf->LN,wpAny_getItem_list->LO,wpAny_getItem_list_slice->LP,wpAny_mkStr->LQ,PlainAttrs->Ui,callType_new->Ux,call_range_1->Uy,checkBuiltinCall->Uz,clipAt_neg->UA,codeAny_call_function->UB,codeAny_func->UC,codeAny_of_tree->UD,concat_meets->UE,defaultsOf->UF,exec_Assign_Name_used->UG,firstArgMember->UH,fitsIndex_of->UI,intBits_le_iff->UJ,interactive->UK,loadIfAlive->UL,noFill_list_add->UM,richCompare_meets_room->UN,selfAndSome->UO,seq_list_add->UP,sliceRange->UQ,slot_list_setitem->UR,swappedStores->US,swapsWithSole->UT,wpAny_Assert_holds->UU,wpAny_Assign_Subscript->UV,wpAny_Constant_bool->UW,wpAny_Expr_any->UX,wpAny_IfExp->UY,wpAny_attempt->UZ,wpAny_callSpecialIfBound?_slot->U0,wpAny_comprehension_free->U1,wpAny_handleBy_builtin_as->U2,wpAny_isInstance->U3,wpAny_items_nil->U4,wpAny_listSubscript_int->U5,wpAny_list_append_plain->U6,wpAny_newFunctionEnv_cells->U7,wpAny_nextOf_list_end->U8,wpAny_seqItemAt->U9,wpAny_sequenceKey->U_,wpAny_setField->U',wpAny_typeOf->Va
open PySem.Around renaming under_plainId->vK,in1_units->E6,frames_deeper->K2,deeper->TU
open PySem.AutoSeq1 renaming sub_list_list->aiC,sub_tuple_tuple->aiD
open PySem.BindsTo renaming of_defaults->aiE,of_eq->aiF
open PySem.Builtin renaming bitAnd->Bm,bitOr->E8,divisionGoesByPylong->T4
open PySem.Builtin.Bytes renaming sliced->K4,sliceParts->TV,subscript?->TX,payload->aiG
open PySem.Builtin.Int renaming intBits->sg
open PySem.Builtin.List renaming listExtendWith->E7,listFitsIndex->TY,listItems->TZ,listSameRef->T0,listSubscript?->T1,listLengthHint->aiH,listTouch->aiI,listUpdate->aiJ
open PySem.Builtin.Range renaming rangeSize->K5,small->K6,rangeFitsLong->T2,rangeFields->aiK
open PySem.Builtin.SmallTypes renaming nextOf->pr,ownedTupleIsFree->xW,ownedTupleHandOut->T3
open PySem.Builtin.Str renaming subAt->aiL
open PySem.Calls renaming spliced_cons->g0,spliced_nil->jJ,evalArgs_plain->k',callWith_function->vL,Name_function_global->T5
open PySem.Code renaming compLoop->xY,compStart->K7
open PySem.F renaming plain_extend_loop->E_,args_list_add_2->T6,entry_extend_loop->T7,entry_list_add->T8,slot_list_add->T9,slot_list_lt->T_,slot_str_lt->Ua,args_list_init_2->aiM,args_list_lt_2->aiN,args_str_lt_2->aiO,called_list->aiP,entry_list_init->aiQ,entry_list_lt->aiR,entry_str_lt->aiS,excStr_AssertionError->aiT,excStr_IndexError->aiU,typeCall_list_1->aiV
open PySem.Heap renaming get?_push_of_some->eu,get?_push_size->f_,get?_none_of_le->iC,lt_size->iL,SameBut->mJ,size_push->nh,get?_update_self->x0,ExtBut->Bn,MadeExc->Bo,get?_update_other->E',FlyingW->K_,IsList->La,get?_push_ne->Ue
open PySem.Heap.FunFrames renaming cons->Ub
open PySem.Heap.IsList renaming typeIs->oh,push->Lb
open PySem.Heap.IsSliceOf renaming new->Lc
open PySem.Heap.SameBut renaming update->pv,refl->Uc
open PySem.Heap.UpToSlots renaming of_keeps->Ud
open PySem.IntMulOk renaming of_left->Uf,of_right->aiW
open PySem.IsRange renaming new->Le
open PySem.Manifest renaming find?->Fc,owners->Ug,sig_re_Match->aiX,sig_re_Pattern->aiY
open PySem.Obj renaming mapSeq->gw,data_mapFields->Uh
open PySem.P renaming mul_str->Lg,ord_of_char->aiZ,truthy_str->ai0
open PySem.PyData renaming strOk->qr,canLayAll0->Fe,depthAll->Ff,eqv->Fg,eqvAll->Lh,list->Uj
open PySem.SeqAt renaming eqv_refl->Lj,compareEq_reads->Uk,compareNe_reads->Ul,eqAt_reads->Um
open PySem.SeqAt.RcNeAt renaming lists->ai1
open PySem.Shared renaming heap->Lk
open PySem.Sre renaming Seen->fO,forSearch->i4,Frame->nj,M->px,header->Fh,run->Un
open PySem.Str renaming ofString->ia,length->vN,length_append->Bq,empty->Fi,join->Fj,mk->Uo
open PySem.StrLaws renaming glued_eq_join->Up,join_length_le->ai2
open PySem.Txt renaming join->mL,slice->pz,lstrip->vO,startswith->Fk,rstrip->Ll
open PySem.Unicode renaming isSpace->ai3
open PySem.Value renaming none->gB,bool->mM,ref->nk,type->oi,builtin->Fl,bytes->Fm,int->Lm,notImplemented->Uq
open PySem.W renaming tabObj->cb,nsIn->dF,hideAll->dJ,hideAll_get->ei,of_hideAll->fc,hideAll_none->fP,kas_sort->l8,KasT->oj,kas_rev->qt,kas_bin->tJ,kas_place->tK,CodeHd->vP,kas_desc->vQ,kas_tail3->vR,kas_asc->x6,kas_count->x7,kas_descPart->Br,codeIn->Fs,typeIs_bytes->Ft,GrownAll->Lo,kas_item->Lq,cellsFrom_some->Uu,codeRec_of->Uv
open PySem.W.FB renaming slot_bytes_getitem->Ln
open PySem.W.KBw renaming IsBytesIter->tH,iter_typeIs->Fn,pyIter_bytes->Fo,slot_next->Fp,args_next->Ur,entry_next->Us
open PySem.W.KBy renaming ite_no->Fq
open PySem.W.KF renaming slot_mem->Lp,args_mem->ai4,entry_mem->ai5,slot_mset->ai6
open PySem.W.KasT renaming ret->x5
open PySem.W.KatTups renaming cons->ai7,nil->ai8
open PySem.W.Looks renaming of_pure->Ut
open PySem.Walks renaming list->Uw
open String renaming ofList->Vb
open UInt8 renaming ofNat->Bz
open PySem PySem.W PyProof.Rows PySem.Calls
set_option Elab.async false
set_option maxRecDepth 100000
set_option linter.all false
set_option tactic.hygienic false
noncomputable def Mine.TopQ.q.tw9413928994352173828:Program:=PySem.Challenge.pw_oy0193_01
theorem Mine.TopQ.q.te9413928994352173828:PySem.Challenge.pw_oy0193_01=Mine.TopQ.q.tw9413928994352173828:=rfl
set_option Elab.async true in
theorem Mine.TopQ.q:Function.const Program true PySem.Challenge.pw_oy0193_01=true:=by k_qdec
theorem Mine.TopQ.q1:True:=trivial
set_option maxHeartbeats 8000000 in
open_top Mine.TopH.hd for PySem.Challenge.rw_oy0193_01
noncomputable section
namespace Mine.Tactic
def tR:Lean.Syntax:=(Lean.Unhygienic.run `(Lean.Parser.Tactic.tacticSeq|rfl)).raw
def tD:Lean.Syntax:=(Lean.Unhygienic.run `(Lean.Parser.Tactic.tacticSeq|decide)).raw
def tI:Lean.Syntax:=(Lean.Unhygienic.run `(Lean.Parser.Tactic.tacticSeq|intro _;rfl)).raw
def tW:Lean.Syntax:=(Lean.Unhygienic.run `(Lean.Parser.Tactic.tacticSeq|with_unfolding_all rfl)).raw
section
variable{a4 d9:Type}[BEq a4][LawfulBEq a4]{a b:a4}{d bO:d9}{l:List (a4×d9)}
theorem lk(e:((a,d)::l).lookup b=some bO):(b=a/\d=bO)\/(b≠a/\l.lookup b=some bO):=by
 rw[c1]at e
 cases B:b==a with
 |true=>rw[B]at e;exact .inl ⟨eq_of_beq B,rh e⟩
 |false=>rw[B]at e;exact .inr ⟨ne_of_beq_false B,e⟩
theorem acP{e:d9}(B:((a,d)::l).lookup b=some e):((a,d)::(a,bO)::l).lookup b=some e:=by
 rcases lk B with⟨rfl,rfl⟩|⟨a_,B⟩
 .exact ED
 .rw[c1,beq_false_of_ne a_,c1,beq_false_of_ne a_]
  exact B
theorem Ds(e:((a,d)::l).lookup b=none):b≠a/\l.lookup b=none:=by
 rw[c1]at e
 cases B:b==a with
 |true=>rw[B]at e;exact nomatch e
 |false=>rw[B]at e;exact⟨ne_of_beq_false B,e⟩
end
theorem I_{a4 d9:Type}(ao:a4->Option d9){a b:a4}{N:d9}{P:Prop}(m:a=b)(B:ao b=none)(e:ao a=some N):P:=nomatch B.symm.trans ((congrArg ao m).symm.trans e)
theorem s3{a4:Type}{a b:a4}{l:List a4}(B:b∈a::l):a=b\/b∈l:=(dw.mp B).imp_left SA
@[elab_as_elim] theorem H {a4:Sort _} {a b:a4} {P:a4->Prop} (B:a=b) (k:P b):P a:=B▸k
@[elab_as_elim] theorem b' {a4:Sort _} {a b:a4} {P:a4->Prop} (B:b=a) (k:P b):P a:=B▸k
@[elab_as_elim] theorem dQ {a4 d9:Type} {ao:a4->d9} {l:List a4} {b:d9} {P:d9->Prop} (B:b∈l.map ao) (k:∀a,a∈l->P (ao a)):P b:=by
 obtain⟨a,m,rfl⟩:=kD.mp B
 exact k a m
@[elab_as_elim] theorem d2 {a4:Type} {a b:a4} {l:List a4} {P:a4->Prop} (B:b∈a::l) (k:P a) (jb:b∈l->P b):P b:=by
 rcases s3 B with rfl|B
 .exact k
 .exact jb B
theorem d8{cJ:Prop}{dm:Prop}{g:Prop}(B:cJ/\dm)(k:cJ->dm->g):g:=k B.1 B.2
theorem bH{dj:Sort _}{cJ:dj->Prop}{g:Prop}(B:∃bD,cJ bD)(k:∀bD,cJ bD->g):g:=B.elim k
theorem fb{cJ:Prop}{dm:Prop}{d4:Prop}{g:Prop}(B:cJ/\dm/\d4)(k:cJ->dm->d4->g):g:=d8 B.2 (k B.1)
theorem ahf{dj:Sort _}{cJ:Prop}{dm:dj->Prop}{g:Prop}(B:cJ/\(∃bD,dm bD))(k:cJ->∀bD,dm bD->g):g:=bH B.2 (k B.1)
theorem cm{dj:Sort _}{cJ:dj->Prop}{dm:dj->Prop}{g:Prop}(B:∃bD,cJ bD/\dm bD)(k:∀bD,cJ bD->dm bD->g):g:=B.elim λD B=>d8 B (k D)
theorem jF{dj:Sort _}{fw:Sort _}{cJ:dj->fw->Prop}{g:Prop}(B:∃bD,∃cW,cJ bD cW)(k:∀bD,∀cW,cJ bD cW->g):g:=B.elim λD B=>bH B (k D)
theorem q7{cJ:Prop}{dm:Prop}{d4:Prop}{P3:Prop}{g:Prop}(B:cJ/\dm/\d4/\P3)(k:cJ->dm->d4->P3->g):g:=fb B.2 (k B.1)
theorem ahe{dj:Sort _}{cJ:Prop}{dm:Prop}{d4:dj->Prop}{g:Prop}(B:cJ/\dm/\(∃bD,d4 bD))(k:cJ->dm->∀bD,d4 bD->g):g:=ahf B.2 (k B.1)
theorem jl{dj:Sort _}{cJ:Prop}{dm:dj->Prop}{d4:dj->Prop}{g:Prop}(B:cJ/\(∃bD,dm bD/\d4 bD))(k:cJ->∀bD,dm bD->d4 bD->g):g:=cm B.2 (k B.1)
theorem ahg{dj:Sort _}{fw:Sort _}{cJ:Prop}{dm:dj->fw->Prop}{g:Prop}(B:cJ/\(∃bD,∃cW,dm bD cW))(k:cJ->∀bD,∀cW,dm bD cW->g):g:=jF B.2 (k B.1)
theorem iA{dj:Sort _}{cJ:dj->Prop}{dm:dj->Prop}{d4:dj->Prop}{g:Prop}(B:∃bD,cJ bD/\dm bD/\d4 bD)(k:∀bD,cJ bD->dm bD->d4 bD->g):g:=B.elim λD B=>fb B (k D)
theorem jG{dj:Sort _}{fw:Sort _}{cJ:dj->fw->Prop}{dm:dj->fw->Prop}{g:Prop}(B:∃bD,∃cW,cJ bD cW/\dm bD cW)(k:∀bD,∀cW,cJ bD cW->dm bD cW->g):g:=B.elim λD B=>cm B (k D)
theorem xB{dj:Sort _}{fw:Sort _}{ma:Sort _}{cJ:dj->fw->ma->Prop}{g:Prop}(B:∃bD,∃cW,∃f9,cJ bD cW f9)(k:∀bD,∀cW,∀f9,cJ bD cW f9->g):g:=B.elim λD B=>jF B (k D)
theorem xz{cJ:Prop}{dm:Prop}{d4:Prop}{P3:Prop}{sq:Prop}{g:Prop}(B:cJ/\dm/\d4/\P3/\sq)(k:cJ->dm->d4->P3->sq->g):g:=q7 B.2 (k B.1)
theorem fW{dj:Sort _}{cJ:Prop}{dm:Prop}{d4:dj->Prop}{P3:dj->Prop}{g:Prop}(B:cJ/\dm/\(∃bD,d4 bD/\P3 bD))(k:cJ->dm->∀bD,d4 bD->P3 bD->g):g:=jl B.2 (k B.1)
theorem El{dj:Sort _}{fw:Sort _}{cJ:Prop}{dm:Prop}{d4:dj->fw->Prop}{g:Prop}(B:cJ/\dm/\(∃bD,∃cW,d4 bD cW))(k:cJ->dm->∀bD,∀cW,d4 bD cW->g):g:=ahg B.2 (k B.1)
theorem Se{dj:Sort _}{fw:Sort _}{cJ:Prop}{dm:dj->fw->Prop}{d4:dj->fw->Prop}{g:Prop}(B:cJ/\(∃bD,∃cW,dm bD cW/\d4 bD cW))(k:cJ->∀bD,∀cW,dm bD cW->d4 bD cW->g):g:=jG B.2 (k B.1)
theorem ahh{dj:Sort _}{fw:Sort _}{ma:Sort _}{cJ:Prop}{dm:dj->fw->ma->Prop}{g:Prop}(B:cJ/\(∃bD,∃cW,∃f9,dm bD cW f9))(k:cJ->∀bD,∀cW,∀f9,dm bD cW f9->g):g:=xB B.2 (k B.1)
theorem vt{dj:Sort _}{cJ:dj->Prop}{dm:dj->Prop}{d4:dj->Prop}{P3:dj->Prop}{g:Prop}(B:∃bD,cJ bD/\dm bD/\d4 bD/\P3 bD)(k:∀bD,cJ bD->dm bD->d4 bD->P3 bD->g):g:=B.elim λD B=>q7 B (k D)
theorem pi{dj:Sort _}{fw:Sort _}{cJ:dj->Prop}{dm:dj->Prop}{d4:dj->fw->Prop}{g:Prop}(B:∃bD,cJ bD/\dm bD/\(∃cW,d4 bD cW))(k:∀bD,cJ bD->dm bD->∀cW,d4 bD cW->g):g:=B.elim λD B=>ahe B (k D)
theorem l6{dj:Sort _}{fw:Sort _}{cJ:dj->fw->Prop}{dm:dj->fw->Prop}{d4:dj->fw->Prop}{g:Prop}(B:∃bD,∃cW,cJ bD cW/\dm bD cW/\d4 bD cW)(k:∀bD,∀cW,cJ bD cW->dm bD cW->d4 bD cW->g):g:=B.elim λD B=>iA B (k D)
theorem n'{dj:Sort _}{fw:Sort _}{ma:Sort _}{cJ:dj->fw->ma->Prop}{dm:dj->fw->ma->Prop}{g:Prop}(B:∃bD,∃cW,∃f9,cJ bD cW f9/\dm bD cW f9)(k:∀bD,∀cW,∀f9,cJ bD cW f9->dm bD cW f9->g):g:=B.elim λD B=>jG B (k D)
theorem pj{dj:Sort _}{fw:Sort _}{ma:Sort _}{BA:Sort _}{cJ:dj->fw->ma->BA->Prop}{g:Prop}(B:∃bD,∃cW,∃f9,∃q6,cJ bD cW f9 q6)(k:∀bD,∀cW,∀f9,∀q6,cJ bD cW f9 q6->g):g:=B.elim λD B=>xB B (k D)
theorem Sd{cJ:Prop}{dm:Prop}{d4:Prop}{P3:Prop}{sq:Prop}{L0:Prop}{g:Prop}(B:cJ/\dm/\d4/\P3/\sq/\L0)(k:cJ->dm->d4->P3->sq->L0->g):g:=xz B.2 (k B.1)
theorem xA{dj:Sort _}{fw:Sort _}{cJ:Prop}{dm:dj->fw->Prop}{d4:dj->fw->Prop}{P3:dj->fw->Prop}{g:Prop}(B:cJ/\(∃bD,∃cW,dm bD cW/\d4 bD cW/\P3 bD cW))(k:cJ->∀bD,∀cW,dm bD cW->d4 bD cW->P3 bD cW->g):g:=l6 B.2 (k B.1)
theorem ahi{dj:Sort _}{cJ:dj->Prop}{dm:dj->Prop}{d4:dj->Prop}{P3:dj->Prop}{sq:dj->Prop}{g:Prop}(B:∃bD,cJ bD/\dm bD/\d4 bD/\P3 bD/\sq bD)(k:∀bD,cJ bD->dm bD->d4 bD->P3 bD->sq bD->g):g:=B.elim λD B=>xz B (k D)
theorem ahj{dj:Sort _}{fw:Sort _}{cJ:dj->fw->Prop}{dm:dj->fw->Prop}{d4:dj->fw->Prop}{P3:dj->fw->Prop}{g:Prop}(B:∃bD,∃cW,cJ bD cW/\dm bD cW/\d4 bD cW/\P3 bD cW)(k:∀bD,∀cW,cJ bD cW->dm bD cW->d4 bD cW->P3 bD cW->g):g:=B.elim λD B=>vt B (k D)
theorem oa{dj:Sort _}{fw:Sort _}{ma:Sort _}{cJ:dj->fw->ma->Prop}{dm:dj->fw->ma->Prop}{d4:dj->fw->ma->Prop}{g:Prop}(B:∃bD,∃cW,∃f9,cJ bD cW f9/\dm bD cW f9/\d4 bD cW f9)(k:∀bD,∀cW,∀f9,cJ bD cW f9->dm bD cW f9->d4 bD cW f9->g):g:=B.elim λD B=>l6 B (k D)
theorem vu{dj:Sort _}{fw:Sort _}{ma:Sort _}{BA:Sort _}{cJ:dj->fw->ma->BA->Prop}{dm:dj->fw->ma->BA->Prop}{g:Prop}(B:∃bD,∃cW,∃f9,∃q6,cJ bD cW f9 q6/\dm bD cW f9 q6)(k:∀bD,∀cW,∀f9,∀q6,cJ bD cW f9 q6->dm bD cW f9 q6->g):g:=B.elim λD B=>n' B (k D)
end Mine.Tactic
namespace Mine.Tactic
namespace Li
inductive jr|v (L:Nat)|k (Y:Nat)|a (D am:jr)|m (Y:Nat) (D:jr)|r (D:jr) (Y:Nat)
inductive hU|le (D am:jr)|lt (D am:jr)|eq (D am:jr)
noncomputable def DB:List Nat->Nat->Nat
 |[],_=>0
 |a::_,0=>a
 |_::l,L+1=>DB l L
noncomputable def jr.e(V:List Nat):jr->Nat
 |v L=>DB V L
 |k Y=>Y
 |a D am=>D.e V+am.e V
 |m Y D=>Y*D.e V
 |r D Y=>D.e V*Y
noncomputable def hU.d(V:List Nat):hU->Prop
 |le D am=>D.e V<=am.e V
 |lt D am=>D.e V<am.e V
 |eq D am=>D.e V=am.e V
noncomputable def iS:List Int->List Nat->Int
 |k::ko,Y::ns=>k*Y+iS ko ns
 |_,_=>0
noncomputable def g5:List Int->List Int->List Int
 |[],l=>l
 |D::aR,[]=>D::aR
 |D::aR,am::bT=>(D+am)::g5 aR bT
noncomputable def ix(k:Int):List Int->List Int
 |[]=>[]
 |D::aR=>k*D::ix k aR
noncomputable def un:Nat->List Int
 |0=>[1]
 |L+1=>0::un L
noncomputable def jr.l:jr->List Int
 |v L=>un (L+1)
 |k Y=>[Y]
 |a D am=>g5 D.l am.l
 |m Y D=>ix Y D.l
 |r D Y=>ix Y D.l
theorem uj(V:List Nat):iS [] V=0:=by cases V<;>rfl
theorem wq(a b:List Int):∀V,iS (g5 a b) V=iS a V+iS b V:=by
 induction a generalizing b with
 |nil=>intro V;rw[uj,tx];rfl
 |cons D aR bf=>
  intro V
  cases b with
  |nil=>rw[uj,Kn];rfl
  |cons am bT=>
   cases V with
   |nil=>rfl
   |cons Y ns=>
    show(D+am)*Y+iS (g5 aR bT) ns=D*Y+iS aR ns+(am*Y+iS bT ns)
    rw[bf,Int.add_mul,Kl,Kl,Int.add_left_comm (am*(Y:Int))]
theorem ws(k:Int)(a:List Int):∀V,iS (ix k a) V=k*iS a V:=by
 induction a with
 |nil=>intro V;show iS [] V=_;rw[uj,Kp]
 |cons D aR bf=>
  intro V
  cases V with
  |nil=>exact(Kp k).symm
  |cons Y ns=>
   show k*D*Y+iS (ix k aR) ns=k*(D*Y+iS aR ns)
   rw[bf,Int.mul_add,Int.mul_assoc]
theorem XR(L:Nat):∀V,iS (un L) V=DB V L:=by
 induction L with
 |zero=>intro V;cases V with
  |nil=>rfl
  |cons Y ns=>show 1*(Y:Int)+iS [] ns=Y;rw[uj,SN,Kn]
 |succ L bf=>intro V;cases V with
  |nil=>rfl
  |cons Y ns=>show 0*(Y:Int)+iS (un L) ns=DB ns L;rw[bf,Int.zero_mul,tx]
theorem GF(k:Int)(V:List Nat):iS [k] (1::V)=k:=by
 show k*((1:Nat):Int)+iS [] V=k
 rw[uj,Kn];exact SI k
theorem jr.ok(V:List Nat)(t:jr):iS t.l (1::V)=t.e V:=by
 induction t with
 |v L=>exact XR (L+1) (1::V)
 |k Y=>exact GF Y V
 |a D am bf ab_=>rw[jr.l,wq,bf,ab_];rfl
 |m Y D bf=>rw[jr.l,ws,bf];rfl
 |r D Y bf=>rw[jr.l,ws,bf,Int.mul_comm];rfl
noncomputable def hU.l:hU->List Int
 |le D am=>g5 am.l (ix (-1) D.l)
 |lt D am=>g5 (g5 am.l (ix (-1) D.l)) [-1]
 |eq D am=>g5 am.l (ix (-1) D.l)
theorem Cb(V:List Nat)(D am:jr):iS (g5 am.l (ix (-1) D.l)) (1::V)=(am.e V:Int) - D.e V:=by
 rw[wq,ws,jr.ok,jr.ok,Int.neg_mul,SN];exact Int.sub_eq_add_neg.symm
noncomputable def j5:List (Int×hU)->List Int
 |[]=>[]
 |(k,ao)::r=>g5 (ix k ao.l) (j5 r)
noncomputable def hU.at(k:Int):hU->Bool
 |eq _ _=>true
 |_=>decide (0<=k)
noncomputable def v4(V:List Nat):List (Int×hU)->Prop
 |[]=>True
 |(_,ao)::r=>ao.d V/\v4 V r
noncomputable def ur(l:List (Int×hU)):Bool:=l.all λJ=>J.2.at J.1
theorem hU.ok{V:List Nat}{k:Int}{ao:hU}(B:ao.d V)(hk:ao.at k=true):0<=k*iS ao.l (1::V):=by
 cases ao with
 |le D am=>
  rw[hU.l,Cb]
  exact Ko (of_decide_eq_true hk) (SO (vy.mpr B))
 |lt D am=>
  rw[hU.l,wq,Cb,GF]
  exact Ko (of_decide_eq_true hk) (by have:D.e V<am.e V:=B;omega)
 |eq D am=>
  rw[hU.l,Cb,show(am.e V:Int) - D.e V=0 from Int.sub_eq_zero.mpr (congrArg KH (SA B)),Kp]
  exact Ew 0
theorem afi{V:List Nat}:∀l,ur l=true->v4 V l->0<=iS (j5 l) (1::V):=λl=>by
 induction l with
 |nil=>exact λ_ _=>by rw[j5,uj];exact Ew 0
 |cons J r bf=>
  intro B a
  rw[ur,xJ,mH]at B
  rw[j5,wq,ws]
  exact SD (hU.ok a.1 B.1) (bf B.2 a.2)
theorem lz{l:List Int}(B:l.all (λD=>decide (0<=D))=true):∀V,0<=iS l V:=by
 induction l with
 |nil=>intro V;rw[uj];exact Ew 0
 |cons D aR bf=>
  intro V
  rw[xJ,mH]at B
  cases V with
  |nil=>exact Ew 0
  |cons Y ns=>exact SD (Ko (of_decide_eq_true B.1) (fG Y)) (bf B.2 ns)
noncomputable def qE(aa aB:Int)(C:List Int)(D am:jr):Bool:=((g5 (g5 (ix aa (g5 am.l (ix (-1) D.l))) (ix (-1) C)) [aB]).all λD=>decide (0<=D))&&decide (0<aa)
theorem Cp{V:List Nat}{aa aB:Int}{l:List (Int×hU)}{D am:jr}(B:qE aa aB (j5 l) D am=true)(ao:ur l=true)(a:v4 V l):0<aa/\ -aB<=aa*((am.e V:Int) - D.e V):=by
 rw[qE,mH]at B
 have e:=lz B.1 (1::V)
 rw[wq,wq,ws,ws,Cb,GF]at e
 have:=afi l ao a
 exact⟨of_decide_eq_true B.2,by omega⟩
noncomputable def rK(aa:Int)(l:List (Int×hU))(qR:List (Int×hU)):hU->Bool
 | .le D am=>qE aa (aa - 1) (j5 l) D am&&ur l
 | .lt D am=>qE aa (-1) (j5 l) D am&&ur l
 | .eq D am=>(qE aa (aa - 1) (j5 l) D am&&ur l)&&(qE aa (aa - 1) (j5 qR) am D&&ur qR)
theorem IN{aa a:Int}(B:0<aa/\ -(aa - 1)<=aa*a):0<=a:=by
 refine q8.mp λY=>?_
 have:=SH (Int.le_sub_one_of_lt Y) (SF B.1)
 omega
theorem Y1{V:List Nat}{aa:Int}{l qR:List (Int×hU)}(a:v4 V l)(ci:v4 V qR):∀g,rK aa l qR g=true->g.d V
 | .le D am,B=>by
  rw[rK,mH]at B
  have:=IN (Cp B.1 B.2 a)
  show D.e V<=am.e V
  omega
 | .lt D am,B=>by
  rw[rK,mH]at B
  obtain⟨h1,aA⟩:=Cp B.1 B.2 a
  refine EO λY=>?_
  have:=SH (show(am.e V:Int) - D.e V<=0 by omega) (SF h1)
  omega
 | .eq D am,B=>by
  rw[rK,mH,mH,mH]at B
  have h1:=IN (Cp B.1.1 B.1.2 a)
  have aA:=IN (Cp B.2.1 B.2.2 ci)
  show D.e V=am.e V
  omega
noncomputable def sy(bF:Nat):Nat×Nat:=(bF / 16 % 16^(bF % 16),bF / 16 / 16^(bF % 16))
noncomputable def jR:Nat->Nat->jr×Nat
 |0,bF=>(.k 0,bF)
 |ao+1,bF=>cond (rc (bF % 16) 0) (.a (jR ao (bF / 16)).1 (jR ao (jR ao (bF / 16)).2).1,(jR ao (jR ao (bF / 16)).2).2)
   (cond (rc (bF % 16) 1) (.k (sy (bF / 16)).1,(sy (bF / 16)).2)
   (cond (rc (bF % 16) 2) (.m (sy (bF / 16)).1 (jR ao (sy (bF / 16)).2).1,(jR ao (sy (bF / 16)).2).2)
   (cond (rc (bF % 16) 3) (.r (jR ao (sy (bF / 16)).2).1 (sy (bF / 16)).1,(jR ao (sy (bF / 16)).2).2)
   (.v (bF % 16 - 4),bF / 16))))
noncomputable def rA(bF:Nat):hU×Nat:=(cond (rc (bF % 16) 0) (.le (jR 20 (bF / 16)).1 (jR 20 (jR 20 (bF / 16)).2).1) (cond (rc (bF % 16) 1) (.lt (jR 20 (bF / 16)).1 (jR 20 (jR 20 (bF / 16)).2).1) (.eq (jR 20 (bF / 16)).1 (jR 20 (jR 20 (bF / 16)).2).1)),(jR 20 (jR 20 (bF / 16)).2).2)
noncomputable def rI(bF:Nat):hU:=(rA bF).1
noncomputable def aJ:Nat->Nat->Nat
 |0,bF=>bF
 |L+1,bF=>aJ L (rA bF).2
noncomputable def jt(L bF:Nat):hU:=(rA (aJ L bF)).1
noncomputable def Dv:Nat->Nat->List (Int×hU)->List (Int×hU)
 |0,_,_=>[]
 |L+1,bF,l=>match l with
  |[]=>[]
  |J::r=>(((bF % 16:Nat):Int) - 8,J.2)::Dv L (bF / 16) r
noncomputable def gg:Nat->Nat->List (Int×hU)
 |0,_=>[]
 |L+1,bF=>(0,(rA bF).1)::gg L (rA bF).2
noncomputable def sx(Y bF:Nat):Bool:=
 let l:=gg Y (aJ 1 bF)
 let aX:=aJ (Y+1) bF
 rK ((aX % 16:Nat):Int) (Dv Y (aX / 16) l) (Dv Y (aX / 16 / 16^Y) l) (rI bF)
noncomputable def FI(V:List Nat):Nat->Nat->Prop
 |0,_=>True
 |L+1,bF=>(rA bF).1.d V/\FI V L (rA bF).2
theorem My{V:List Nat}(Y:Nat):∀bF M,FI V Y bF->v4 V (Dv Y M (gg Y bF)):=by
 induction Y with
 |zero=>exact λ_ _ _=>trivial
 |succ Y bf=>exact λbF M B=>⟨B.1,bf _ _ B.2⟩
theorem u4{V:List Nat}{Y bF:Nat}(ok:sx Y bF=true)(a:FI V Y (aJ 1 bF)):(rI bF).d V:=Y1 (My Y _ _ a) (My Y _ _ a) _ ok
end Li
open Li
theorem X1(D k:Nat)(B:0<k):D<D / k*k+k:=Nat.lt_div_mul_add B
theorem rX(D k:Nat)(B:0<k):D % k<k:=hy D B
theorem qi(D am:Nat):D<=D - am+am:=Nat.sub_le_iff_le_add.mp (eF _)
theorem wl{m Y:Nat}(B:Y<=m):(m:Int) - Y=((m - Y:Nat):Int):=(Int.ofNat_sub B).symm
theorem RW(m Y:Nat):((m:Int) - Y).toNat=m - Y:=Int.toNat_sub m Y
theorem kQ{Y k:Nat}(B:Y<=k)(hk:k<2^63):(Y:Int)<2^63:=i1.mpr (h_ B hk)
theorem Ee{bq a b Y V:Nat}(B:a<=Y)(be:bq+Y<V):bq+min a b<V:=h_ (KG (cu (tC a b) B) bq) be
theorem Qe(k m:Nat)(B:0<m): -(k:Int) % m=((m - k % m) % m:Nat):=Int.neg_emod_eq_sub_emod.trans ((Int.sub_emod_emod m k m).symm.trans (congrArg (· % (m:Int)) (wl (gv (hy k B)))))
theorem Qf{Y:Nat}(B:0<Y):(-1:Int)+Y=((Y - 1:Nat):Int):=(Eu _ _).trans (wl B)
theorem adI{k:Nat}(B:k % 4≠1):(4 - k % 4) % 4<=2:=(show∀r,r<4->r≠1->(4 - r) % 4<=2 by decide) _ (hy k (by decide)) B
theorem ZQ{J:Nat}(B:0<J):(J - 1) / 2<J:=h_ (A_ _ _) (Bh B xQ)
theorem Om(L:Nat):(L+1 - 1) / 2<=L:=A_ L 2
theorem D8{L Y:Nat}(B:L<Y - 1):L+1<Y:=Nat.add_lt_of_lt_sub B
theorem e_(V:List Nat)(bF:Nat)(ok:sx 0 bF=true):(rI bF).d V:=u4 ok trivial
theorem aL(V:List Nat)(bF:Nat)(ok:sx 1 bF=true)(B:(jt 1 bF).d V):(rI bF).d V:=u4 ok ⟨B,trivial⟩
theorem bX(V:List Nat)(bF:Nat)(ok:sx 2 bF=true)(B:(jt 1 bF).d V)(aA:(jt 2 bF).d V):(rI bF).d V:=u4 ok ⟨B,aA,trivial⟩
theorem j1(V:List Nat)(bF:Nat)(ok:sx 3 bF=true)(B:(jt 1 bF).d V)(aA:(jt 2 bF).d V)(bn:(jt 3 bF).d V):(rI bF).d V:=u4 ok ⟨B,aA,bn,trivial⟩
theorem IU(V:List Nat)(bF:Nat)(ok:sx 4 bF=true)(B:(jt 1 bF).d V)(aA:(jt 2 bF).d V)(bn:(jt 3 bF).d V)(cK:(jt 4 bF).d V):(rI bF).d V:=u4 ok ⟨B,aA,bn,cK,trivial⟩
theorem P1(V:List Nat)(bF:Nat)(ok:sx 5 bF=true)(B:(jt 1 bF).d V)(aA:(jt 2 bF).d V)(bn:(jt 3 bF).d V)(cK:(jt 4 bF).d V)(fq:(jt 5 bF).d V):(rI bF).d V:=u4 ok ⟨B,aA,bn,cK,fq,trivial⟩
theorem ajB(V:List Nat)(bF:Nat)(ok:sx 6 bF=true)(B:(jt 1 bF).d V)(aA:(jt 2 bF).d V)(bn:(jt 3 bF).d V)(cK:(jt 4 bF).d V)(fq:(jt 5 bF).d V)(fs:(jt 6 bF).d V):(rI bF).d V:=u4 ok ⟨B,aA,bn,cK,fq,fs,trivial⟩
end Mine.Tactic
namespace Mine.Tactic
inductive ax where
 |none
 |bool (b:Bool)
 |int (L:Int)
 |str (D:ay)
 |bytes (b:Array UInt8)
 |tuple (ab:List ax)
 |list (ab:List ax)
 |adr (a:ah)
 |cf (a:ah) (ab:List ax)
 |raw (ab:List ax)
 |ty (Y:String)
mutual
inductive aC (B:bo):an->ax->Prop
 |none:aC B .none .none
 |bool (b):aC B (.bool b) (.bool b)
 |int (L t):aC B (.int L t) (.int L)
 |str (D t):aC B (.str D t) (.str D)
 |bytes (b t):aC B (.bytes b t) (.bytes b)
 |list {a af ab}:B.PlainList a af->a3 B af.toList ab->aC B (.ref a) (.list ab)
 |tuple {a af ab}:B.IsTuple a af->a3 B af.toList ab->aC B (.ref a) (.tuple ab)
 |adr (a):aC B (.ref a) (.adr a)
 |cf {a af ab}:B.PlainList a af->a3 B af.toList ab->aC B (.ref a) (.cf a ab)
 |raw {a af ab}:B.IsList a af->a3 B af.toList ab->aC B (.ref a) (.raw ab)
 |ty (Y):aC B (.type Y) (.ty Y)
inductive a3 (B:bo):List an->List ax->Prop
 |nil:a3 B [] []
 |cons {v af d ab}:aC B v d->a3 B af ab->a3 B (v::af) (d::ab)
end
theorem oV{a4:Type}{l:List a4}(B:l.length=1):∃a,l=[a]:=List.length_eq_one_iff.mp B
theorem w7{a4:Type}{l:List a4}(B:l.length=2):∃a b,l=[a,b]:=by
 cases l with
 |nil=>cases B
 |cons a l=>obtain⟨b,rfl⟩:=oV (sf B);exact⟨a,b,rfl⟩
theorem z9{a4:Type}{l:List a4}(B:l.length=3):∃a b V,l=[a,b,V]:=by
 cases l with
 |nil=>cases B
 |cons a l=>obtain⟨b,V,rfl⟩:=w7 (sf B);exact⟨a,b,V,rfl⟩
theorem acI{a4:Type}{l:List a4}(B:l.length=4):∃a b V d,l=[a,b,V,d]:=by
 cases l with
 |nil=>cases B
 |cons a l=>obtain⟨b,V,d,rfl⟩:=z9 (sf B);exact⟨a,b,V,d,rfl⟩
noncomputable def V4(B:bo)(v:an):ax->Prop
 | .none=>v= .none
 | .bool b=>v= .bool b
 | .int L=>∃t,v= .int L t
 | .str D=>∃t,v= .str D t
 | .bytes b=>∃t,v= .bytes b t
 | .tuple ab=>∃a af,v= .ref a/\B.IsTuple a af/\a3 B af.toList ab
 | .list ab=>∃a af,v= .ref a/\B.PlainList a af/\a3 B af.toList ab
 | .adr a=>v= .ref a
 | .cf a ab=>∃af,v= .ref a/\B.PlainList a af/\a3 B af.toList ab
 | .raw ab=>∃a af,v= .ref a/\B.IsList a af/\a3 B af.toList ab
 | .ty Y=>v= .type Y
theorem aC.inv{B:bo}{v:an}{d:ax}(r:aC B v d):V4 B v d:=by
 cases r with
 |none=>exact rfl
 |bool=>exact rfl
 |int=>exact⟨_,rfl⟩
 |str=>exact⟨_,rfl⟩
 |bytes=>exact⟨_,rfl⟩
 |list J q=>exact⟨_,_,rfl,J,q⟩
 |tuple J q=>exact⟨_,_,rfl,J,q⟩
 |adr=>exact rfl
 |cf J q=>exact⟨_,rfl,J,q⟩
 |raw J q=>exact⟨_,_,rfl,J,q⟩
 |ty=>exact rfl
noncomputable def V5(B:bo)(af:List an):List ax->Prop
 |[]=>af=[]
 |d::ab=>∃v ee,af=v::ee/\aC B v d/\a3 B ee ab
theorem a3.inv{B:bo}{af:List an}{ab:List ax}(r:a3 B af ab):V5 B af ab:=by
 cases r with
 |nil=>exact rfl
 |cons J q=>exact⟨_,_,rfl,J,q⟩
theorem a3.r2{B:bo}{af:List an}(r:a3 B af []):af=[]:=r.inv
theorem a3.o3{B:bo}{af:List an}{d:ax}{ab:List ax}(r:a3 B af (d::ab)):∃v ee,af=v::ee/\aC B v d/\a3 B ee ab:=r.inv
theorem a3.Qw{B:bo}{af:List an}{d:ax}(r:a3 B af [d]):∃v,af=[v]/\aC B v d:=by
 obtain⟨v,af,rfl,q,r⟩:=r.o3
 exact⟨v,by rw[r.r2],q⟩
theorem a3.of2{B:bo}{af:List an}{d e:ax}(r:a3 B af [d,e]):∃v w,af=[v,w]/\aC B v d/\aC B w e:=by
 obtain⟨v,af,rfl,q,r⟩:=r.o3
 obtain⟨w,rfl,J⟩:=r.Qw
 exact⟨v,w,rfl,q,J⟩
theorem a3.Qx{B:bo}{af:List an}{d e ao:ax}(r:a3 B af [d,e,ao]):∃bq v w,af=[bq,v,w]/\aC B bq d/\aC B v e/\aC B w ao:=by
 obtain⟨v,af,rfl,q,r⟩:=r.o3
 obtain⟨w,D,rfl,J⟩:=r.of2
 exact⟨v,w,D,rfl,q,J⟩
theorem aC.Ai{B:bo}{v:an}{ab:List ax}(r:aC B v (.tuple ab)):∃a af,v= .ref a/\B.IsTuple a af/\a3 B af.toList ab:=r.inv
theorem a3.MB{B:bo}{af:Array an}{d e:ax}(r:a3 B af.toList [d,e]):∃v w,af=#[v,w]/\aC B v d/\aC B w e:=by
 obtain⟨l⟩:=af
 obtain⟨v,w,e,J⟩:=a3.of2 (af:=l) r
 exact⟨v,w,congrArg _ e,J⟩
theorem aC.QA{B:bo}{v:an}{cQ dU:ax}(r:aC B v (.tuple [cQ,dU])):∃a bx bE,v= .ref a/\B.IsTuple a #[bx,bE]/\aC B bx cQ/\aC B bE dU:=by
 obtain⟨a,_,rfl,t,aV⟩:=r.Ai
 obtain⟨bx,bE,rfl,aT,bb⟩:=aV.MB
 exact⟨a,bx,bE,rfl,t,aT,bb⟩
theorem aC.adu{B:bo}{v:an}{cQ dU oC:ax}(r:aC B v (.tuple [cQ,dU,oC])):∃a bx bE ph,v= .ref a/\B.IsTuple a #[bx,bE,ph]/\aC B bx cQ/\aC B bE dU/\aC B ph oC:=by
 obtain⟨a,⟨l⟩,rfl,t,aV⟩:=r.Ai
 obtain⟨bx,bE,ph,rfl,aT,bb,e0⟩:=a3.Qx (af:=l) aV
 exact⟨a,bx,bE,ph,rfl,t,aT,bb,e0⟩
theorem aC.ofList{B:bo}{v:an}{ab:List ax}(r:aC B v (.list ab)):∃a af,v= .ref a/\B.PlainList a af/\a3 B af.toList ab:=r.inv
theorem aC.Ah{B:bo}{v:an}{a:ah}{ab:List ax}(r:aC B v (.cf a ab)):∃af,v= .ref a/\B.PlainList a af/\a3 B af.toList ab:=r.inv
theorem aC.ofRaw{B:bo}{v:an}{ab:List ax}(r:aC B v (.raw ab)):∃a af,v= .ref a/\B.IsList a af/\a3 B af.toList ab:=r.inv
theorem aC.ofStr{B:bo}{v:an}{D:ay}(r:aC B v (.str D)):∃t,v= .str D t:=r.inv
theorem aC.ofInt{B:bo}{v:an}{L:Int}(r:aC B v (.int L)):∃t,v= .int L t:=r.inv
theorem aC.ofBytes{B:bo}{v:an}{b:Array UInt8}(r:aC B v (.bytes b)):∃t,v= .bytes b t:=r.inv
theorem aC.ofBool{B:bo}{v:an}{b:Bool}(r:aC B v (.bool b)):v= .bool b:=r.inv
theorem aC.Qz{B:bo}{v:an}(r:aC B v .none):v= .none:=r.inv
theorem aC.Qy{B:bo}{v:an}{a:ah}(r:aC B v (.adr a)):v= .ref a:=r.inv
theorem aC.adv{B:bo}{v:an}{Y:String}(r:aC B v (.ty Y)):v= .type Y:=r.inv
@[elab_as_elim] theorem a3.eN {B:bo} {af:List an} {P:List an->Prop} (r:a3 B af []) (k:P []):P af:=by
 rw[r.r2];exact k
@[elab_as_elim] theorem a3.eC {B:bo} {af:List an} {P:List an->Prop} {d:ax} {ab:List ax} (r:a3 B af (d::ab)) (k:∀v ee,aC B v d->a3 B ee ab->P (v::ee)):P af:=by
 obtain⟨_,_,rfl,J,q⟩:=r.o3;exact k _ _ J q
@[elab_as_elim] theorem a3.a8 {B:bo} {af:List an} {P:List an->Prop} {d:ax} (r:a3 B af [d]) (k:∀v,aC B v d->P [v]):P af:=by
 obtain⟨_,rfl,J⟩:=r.Qw;exact k _ J
@[elab_as_elim] theorem a3.bm {B:bo} {af:List an} {P:List an->Prop} {d e:ax} (r:a3 B af [d,e]) (k:∀v w,aC B v d->aC B w e->P [v,w]):P af:=by
 obtain⟨_,_,rfl,J,q⟩:=r.of2;exact k _ _ J q
@[elab_as_elim] theorem a3.e3 {B:bo} {af:List an} {P:List an->Prop} {d e ao:ax} (r:a3 B af [d,e,ao]) (k:∀bq v w,aC B bq d->aC B v e->aC B w ao->P [bq,v,w]):P af:=by
 obtain⟨_,_,_,rfl,J,q,r⟩:=r.Qx;exact k _ _ _ J q r
@[elab_as_elim] theorem aC.ul {B:bo} {v:an} {P:an->Prop} {ab:List ax} (r:aC B v (.tuple ab)) (k:∀a af,B.IsTuple a af->a3 B af.toList ab->P (.ref a)):P v:=by
 obtain⟨_,_,rfl,J,q⟩:=r.Ai;exact k _ _ J q
@[elab_as_elim] theorem aC.eT2 {B:bo} {v:an} {P:an->Prop} {cQ dU:ax} (r:aC B v (.tuple [cQ,dU])) (k:∀a bx bE,B.IsTuple a #[bx,bE]->aC B bx cQ->aC B bE dU->P (.ref a)):P v:=by
 obtain⟨_,_,_,rfl,J,q,r⟩:=r.QA;exact k _ _ _ J q r
@[elab_as_elim] theorem aC.eT3 {B:bo} {v:an} {P:an->Prop} {cQ dU oC:ax} (r:aC B v (.tuple [cQ,dU,oC])) (k:∀a bx bE ph,B.IsTuple a #[bx,bE,ph]->aC B bx cQ->aC B bE dU->aC B ph oC->P (.ref a)):P v:=by
 obtain⟨_,_,_,_,rfl,J,q,r,C⟩:=r.adu;exact k _ _ _ _ J q r C
@[elab_as_elim] theorem aC.gD {B:bo} {v:an} {P:an->Prop} {ab:List ax} (r:aC B v (.list ab)) (k:∀a af,B.PlainList a af->a3 B af.toList ab->P (.ref a)):P v:=by
 obtain⟨_,_,rfl,J,q⟩:=r.ofList;exact k _ _ J q
@[elab_as_elim] theorem aC.eA {B:bo} {v:an} {P:an->Prop} {a:ah} {ab:List ax} (r:aC B v (.cf a ab)) (k:∀af,B.PlainList a af->a3 B af.toList ab->P (.ref a)):P v:=by
 obtain⟨_,rfl,J,q⟩:=r.Ah;exact k _ J q
@[elab_as_elim] theorem aC.eR {B:bo} {v:an} {P:an->Prop} {ab:List ax} (r:aC B v (.raw ab)) (k:∀a af,B.IsList a af->a3 B af.toList ab->P (.ref a)):P v:=by
 obtain⟨_,_,rfl,J,q⟩:=r.ofRaw;exact k _ _ J q
@[elab_as_elim] theorem aC.eS {B:bo} {v:an} {P:an->Prop} {D:ay} (r:aC B v (.str D)) (k:∀t,P (.str D t)):P v:=by
 obtain⟨_,rfl⟩:=r.ofStr;exact k _
@[elab_as_elim] theorem aC.eI {B:bo} {v:an} {P:an->Prop} {L:Int} (r:aC B v (.int L)) (k:∀t,P (.int L t)):P v:=by
 obtain⟨_,rfl⟩:=r.ofInt;exact k _
@[elab_as_elim] theorem aC.eB {B:bo} {v:an} {P:an->Prop} {b:Array UInt8} (r:aC B v (.bytes b)) (k:∀t,P (.bytes b t)):P v:=by
 obtain⟨_,rfl⟩:=r.ofBytes;exact k _
@[elab_as_elim] theorem aC.eO {B:bo} {v:an} {P:an->Prop} {b:Bool} (r:aC B v (.bool b)) (k:P (.bool b)):P v:=by
 rw[r.ofBool];exact k
@[elab_as_elim] theorem aC.eU {B:bo} {v:an} {P:an->Prop} (r:aC B v .none) (k:P .none):P v:=by
 rw[r.Qz];exact k
@[elab_as_elim] theorem aC.eD {B:bo} {v:an} {P:an->Prop} {a:ah} (r:aC B v (.adr a)) (k:P (.ref a)):P v:=by
 rw[r.Qy];exact k
@[elab_as_elim] theorem aC.eY {B:bo} {v:an} {P:an->Prop} {Y:String} (r:aC B v (.ty Y)) (k:P (.type Y)):P v:=by
 rw[r.adv];exact k
noncomputable def dS(B aD:bo):Prop:=∀b N,B.get? b=some N->aD.get? b=some N
theorem dS.trans{B aD ju:bo}(a:dS B aD)(b:dS aD ju):dS B ju:=λD N e=>b D N (a D N e)
theorem dS.push(B:bo)(N:bJ):dS B (B.push N):=λ_ _ e=>eu _ e
theorem dS.isList{B aD:bo}{a af}(k:dS B aD)(D:B.IsList a af):aD.IsList a af:=let⟨N,a6,r⟩:=D;⟨N,k a N a6,r⟩
theorem dS.plain{B aD:bo}{a af}(k:dS B aD)(D:B.PlainList a af):aD.PlainList a af:=let⟨Y,e⟩:=D;⟨Y,k _ _ e⟩
theorem dS.sZ{B aD:bo}{a af}(k:dS B aD)(D:B.IsTuple a af):aD.IsTuple a af:=let⟨N,a6,r⟩:=D;⟨N,k a N a6,r⟩
theorem aC.mono{B aD:bo}(k:dS B aD){v d}(r:aC B v d):aC aD v d:=
 aC.rec (motive_1:=λv d _=>aC aD v d) (motive_2:=λaf ab _=>a3 aD af ab) .none .bool .int .str .bytes (λl _=>.list (k.plain l)) (λl _=>.tuple (k.sZ l)) .adr (λl _=>.cf (k.plain l)) (λl _=>.raw (k.isList l)) .ty .nil (λ_ _=>.cons) r
theorem a3.ind{B:bo}{P:List an->List ax->Prop}(gd:P [] [])(cB:∀v af d ab,aC B v d->a3 B af ab->P af ab->P (v::af) (d::ab)){af ab}(r:a3 B af ab):P af ab:=by
 induction ab generalizing af with
 |nil=>rw[r.r2];exact gd
 |cons d ab bf=>
  obtain⟨v,af,rfl,a,b⟩:=r.o3
  exact cB _ _ _ _ a b (bf b)
theorem a3.mono{B aD:bo}(k:dS B aD){af ab}(r:a3 B af ab):a3 aD af ab:=a3.ind .nil (λ_ _ _ _ a _=>.cons (a.mono k)) r
theorem a3.map{B aD:bo}{ao:ax->ax}{af ab}(r:a3 B af ab)(k:∀v d,d∈ab->aC B v d->aC aD v (ao d)):a3 aD af (ab.map ao):=by
 induction ab generalizing af with
 |nil=>rw[r.r2];exact .nil
 |cons d ab bf=>
  obtain⟨v,af,rfl,a,b⟩:=r.o3
  exact .cons (k _ _ (.head _) a) (bf b λv d hd=>k v d (.tail _ hd))
theorem a3.imp{B aD:bo}{af ab}(r:a3 B af ab)(k:∀v d,d∈ab->aC B v d->aC aD v d):a3 aD af ab:=kC ab▸r.map (ao:=id) k
theorem a3.ag2{B aD:bo}{ao:ax->ax}{af ab}(r:a3 B af (ab.map ao))(k:∀v d,d∈ab->aC B v (ao d)->aC aD v d):a3 aD af ab:=by
 induction ab generalizing af with
 |nil=>rw[r.r2];exact .nil
 |cons d ab bf=>
  obtain⟨v,af,rfl,a,b⟩:=a3.o3 (ab:=ab.map ao) r
  exact .cons (k _ _ (.head _) a) (bf b λv d hd=>k v d (.tail _ hd))
theorem a3.length{B:bo}{af ab}(r:a3 B af ab):af.length=ab.length:=a3.ind (P:=λaf ab=>af.length=ab.length) rfl (λ_ _ _ _ _ _=>congrArg (· +1)) r
theorem a3.append{B:bo}{ek b9}(q:a3 B ek b9){af ab}(r:a3 B af ab):a3 B (af++ek) (ab++b9):=a3.ind (P:=λaf ab=>a3 B (af++ek) (ab++b9)) q (λ_ _ _ _ a _=>.cons a) r
theorem a3.get{B:bo}{af ab}(r:a3 B af ab):∀{L:Nat}{d},ab[L]? =some d->∃v,af[L]? =some v/\aC B v d:=
 a3.ind (P:=λaf ab=>∀{L:Nat}{d},ab[L]? =some d->∃v,af[L]? =some v/\aC B v d) (λe=>nomatch e) (λv _ _ _ a _ bf L _ e=>match L,e with |0,e=>⟨v,rfl,rh e▸a⟩|_+1,e=>bf e) r
theorem a3.get'{B:bo}{af ab}(r:a3 B af ab):∀{L:Nat}{v},af[L]? =some v->∃d,ab[L]? =some d/\aC B v d:=
 a3.ind (P:=λaf ab=>∀{L:Nat}{v},af[L]? =some v->∃d,ab[L]? =some d/\aC B v d) (λe=>nomatch e) (λ_ _ d _ a _ bf L _ e=>match L,e with |0,e=>⟨d,rfl,rh e▸a⟩|_+1,e=>bf e) r
theorem a3.take{B:bo}{af ab}(r:a3 B af ab):∀Y,a3 B (af.take Y) (ab.take Y):=
 a3.ind (P:=λaf ab=>∀Y,a3 B (af.take Y) (ab.take Y)) (λY=>by cases Y<;>exact .nil) (λ_ _ _ _ a _ bf Y=>by cases Y;exact .nil;exact .cons a (bf _)) r
theorem ed{C s':aq}(k:cS C s'):dS C.heap s'.heap:=by obtain⟨aD,bg,rfl,hk⟩:=k;exact hk
theorem gb(C:aq):cS C C:=⟨C.heap,C.toks,rfl,λ_ _ e=>e⟩
theorem b5{C s' dz:aq}(a:cS C s')(b:cS s' dz):cS C dz:=by
 obtain⟨h1,t1,rfl,k1⟩:=a
 obtain⟨aA,eE,rfl,k2⟩:=b
 exact⟨aA,eE,rfl,λD N e=>k2 D N (k1 D N e)⟩
theorem ey(C:aq)(t:Nat):cS C {C with toks:=t}:=⟨C.heap,t,rfl,λ_ _ e=>e⟩
theorem ip(C:aq)(N:bJ):cS C {C with heap:=C.heap.push N}:=⟨_,C.toks,rfl,λ_ _ e=>eu _ e⟩
noncomputable abbrev cZ(w:c4):Frag:=TopH.hd.heap_39 w.params
structure bj where
 prog:kG
 w:c4
 o0:ay->Option an
 s2:ay->Option an
noncomputable abbrev bj.M(W:bj):Bp:=gn W.prog W.w
structure eg (W:bj) (B:bo):Prop where
 K:(cZ W.w).In B
 g:B.Ns dh W.o0
 b:B.Ns vS W.s2
 nolimit:B.NoLimit
 builtins:∀D:ay,D≠"__name__"->W.s2 D=iD D
 heads:∀q∈[((93:ah),(89:ah)),(76,72)],vP B q.1 q.2
 bmain:∃ug dE,W.o0 "__builtins__"=some (.ref ug)/\ug≠vS/\B.get? ug=some dE/\dE.cls= .type "module"/\dE.dict=some vS/\dE.data= .plain
theorem eg.mono{W:bj}{B aD:bo}(dt:eg W B)(k:dS B aD):eg W aD where
 K:=dt.K.keeps k
 g:=dt.g.keeps k
 b:=dt.b.keeps k
 nolimit:=dt.nolimit.keeps k
 builtins:=dt.builtins
 heads:=λq ba=>(dt.heads q ba).keeps k
 bmain:=let⟨ug,dE,h1,aA,bn,r⟩:=dt.bmain;⟨ug,dE,h1,aA,k _ _ bn,r⟩
inductive qv (env:bB) (D:ay) (v:an) (B:bo):Prop
 |loc {m}:env.kindOf D=some .local->B.Ns env.locals m->m D=some v->qv env D v B
 |cell {V}:env.kindOf D=some .cell->env.cells.lookup D=some V->B.IsCell V (some v)->qv env D v B
 |free {V}:env.kindOf D=some .free->env.cells.lookup D=some V->B.IsCell V (some v)->(D==("__classdict__":ay))=false->qv env D v B
theorem qv.mono{env:bB}{D:ay}{v:an}{B aD:bo}(b:qv env D v B)(k:dS B aD):qv env D v aD:=by
 cases b with
 |loc a b V=>exact .loc a (b.keeps k) V
 |cell a b V=>exact .cell a b (V.keeps k)
 |free a b V d=>exact .free a b (V.keeps k) d
noncomputable abbrev bu:=List (ay×ax)
structure fQ (W:bj) (env:bB) (ae:bu) (B:bo):Prop where
 base:eg W B
 kind:env.scope.kind= .function
 globals:env.globals=dh
 builtins:env.builtins=vS
 vars:∀D d,ae.lookup D=some d->(D==("__debug__":ay))=false/\∃v,aC B v d/\qv env D v B
theorem fQ.mono{W:bj}{env:bB}{ae:bu}{B aD:bo}(dt:fQ W env ae B)(k:dS B aD):fQ W env ae aD where
 base:=dt.base.mono k
 kind:=dt.kind
 globals:=dt.globals
 builtins:=dt.builtins
 vars:=λD d e=>let⟨q,v,r,b⟩:=dt.vars D d e;⟨q,v,r.mono k,b.mono k⟩
noncomputable abbrev a0(X:List ah)(C:aq):bo:=dJ C.heap X
noncomputable def c0(X:List ah)(C:aq):Prop:=∀a∈X,∃N,C.heap.get? a=some N
theorem c0.mono{X:List ah}{C s':aq}(B:c0 X C)(k:cS C s'):c0 X s':=λa m=>let⟨N,e⟩:=B a m;⟨N,ed k _ _ e⟩
theorem Dn{X:List ah}{B aD:bo}(k:dS B aD):dS (dJ B X) (dJ aD X):=λb N e=>by
 have a8:=fc X e
 refine ei X (k b N a8) λm=>?_
 rw[fP X m]at e
 cases e
theorem cg{X:List ah}{C s':aq}(k:cS C s'):dS (a0 X C) (a0 X s'):=Dn (ed k)
theorem cP{X:List ah}{B:bo}:dS (dJ B X) B:=λ_ _ e=>fc X e
theorem c0.fresh{X:List ah}{C:aq}(B:c0 X C):C.heap.objs.size∉X:=λm=>by
 obtain⟨N,e⟩:=B _ m
 exact lL _ (iL e)
theorem NM{X:List ah}{C:aq}(B:c0 X C){N:bJ}(b2:N.isFreed=false):(dJ (C.heap.push N) X).get? C.heap.objs.size=some N:=ei X (f_ _ b2) B.fresh
theorem DZ{X:List ah}{C:aq}(B:c0 X C){af:Array an}{ab:List ax}{Y:Nat}(r:a3 (a0 X C) af.toList ab):aC (dJ (C.heap.push {cls:=.type "list",data:=.seq af Y}) X) (.ref C.heap.objs.size) (.list ab):=
 .list ⟨Y,NM B rfl⟩ (r.mono (Dn (dS.push _ _)))
theorem Rc{X:List ah}{C:aq}(B:c0 X C){af:Array an}{ab:List ax}{Y:Nat}(r:a3 (a0 X C) af.toList ab):aC (dJ (C.heap.push {cls:=.type "tuple",data:=.seq af Y}) X) (.ref C.heap.objs.size) (.tuple ab):=
 .tuple ⟨_,NM B rfl,rfl,Y,rfl⟩ (r.mono (Dn (dS.push _ _)))
section
variable(W:bj)(X:List ah)
structure dZ (I:br) (t:ni an) (d:ax) (C:aq):Prop where
 go:∀(ai:an->aq->Prop)(aj:an->aq->Prop),(∀v s',cS C s'->aC (a0 X s') v d->ai v s')->az W.M I t ai aj C
structure Wh (I:br) (t:ni (List an)) (ab:List ax) (C:aq):Prop where
 go:∀(ai:List an->aq->Prop)(aj:an->aq->Prop),(∀af s',cS C s'->a3 (a0 X s') af ab->ai af s')->az W.M I t ai aj C
end
section
variable(W:bj)
structure Mu (I:br) (t:ni Bool) (b:Bool) (C:aq):Prop where
 go:∀(ai:Bool->aq->Prop)(aj:an->aq->Prop),(∀s',cS C s'->ai b s')->az W.M I t ai aj C
structure aY (I:br) (env:bB) (ae:bu) (e:a') (d:ax):Prop where
 on:∀(X:List ah)(C:aq),c0 X C->fQ W env ae (a0 X C)->dZ W X I (b1 e env) d C
structure ej (I:br) (env:bB) (ae:bu) (e:a') (b:Bool):Prop where
 on:∀(X:List ah)(C:aq),c0 X C->fQ W env ae (a0 X C)->Mu W I (tQ e env (b1 e env)) b C
structure nz (I:br) (env:bB) (ae:bu) (al:bp) (b9:List a') (ab:List ax):Prop where
 on:∀(X:List ah)(C:aq),c0 X C->fQ W env ae (a0 X C)->Wh W X I (LH (fk al (eV b9 env))) ab C
end
section
variable{W:bj}{I:br}{env:bB}{ae:bu}{C:aq}
theorem c_{L k al}:aY W I env ae (.Constant (.int L) k al) (.int L):=⟨λX C _ _=>⟨λai aj q=>by with_reducible exact LK (q _ _ (ey C _) (.int _ _))⟩⟩
theorem iH{D k al}:aY W I env ae (.Constant (.str D) k al) (.str D):=⟨λX C _ _=>⟨λai aj q=>by with_reducible exact FD (q _ _ (ey C _) (.str _ _))⟩⟩
theorem qz{k al}:aY W I env ae (.Constant .none k al) .none:=⟨λX C _ _=>⟨λai aj q=>by with_reducible exact wpAny_Constant_none (q _ _ (gb C) .none)⟩⟩
theorem Vp{b k al}:aY W I env ae (.Constant (.bool b) k al) (.bool b):=⟨λX C _ _=>⟨λai aj q=>by with_reducible exact UW (q _ _ (gb C) (.bool _))⟩⟩
theorem aW{D al d}(B:ae.lookup D=some d):aY W I env ae (.Name D al) d:=⟨λX C _ G=>⟨λai aj q=>by
 obtain⟨hd,v,r,b⟩:=G.vars D d B
 with_reducible refine wpAny_Name ?_ hd
 cases b with
 |loc a Y V=>
  have iK:=Y.keeps (h':=C.heap) cP
  with_reducible exact wpAny_loadName_local G.kind a iK V (q _ _ (gb C) r)
 |cell a Y V=>
  have fx:=V.keeps (h':=C.heap) cP
  with_reducible exact wpAny_loadName_cell G.kind a Y fx (q _ _ (gb C) r)
 |free a Y V e=>
  have fx:=V.keeps (h':=C.heap) cP
  with_reducible exact wpAny_loadName_free G.kind a Y fx (q _ _ (gb C) r) e⟩⟩
theorem mQ{l qV r al cQ dU d}(aN:aY W I env ae l cQ)(aE:aY W I env ae r dU)(a6:∀X (C:aq) bx bE,c0 X C->fQ W env ae (a0 X C)->aC (a0 X C) bx cQ->aC (a0 X C) bE dU->dZ W X I (l9 qV bx bE) d C):aY W I env ae (.BinOp l qV r al) d:=⟨λX C aK G=>⟨λai aj q=>by
 with_reducible refine LJ ((aN.on X C aK G).go _ _ λbx aG k1 aT=>(aE.on X aG (aK.mono k1) (G.mono (cg k1))).go _ _ λbE a5 k2 bb=>?_)
 with_reducible exact(a6 X a5 bx bE (aK.mono (b5 k1 k2)) (G.mono (cg (b5 k1 k2))) (aT.mono (cg k2)) bb).go _ _ λv s' k r=>q v s' (b5 (b5 k1 k2) k) r⟩⟩
theorem L1{l qV r al cQ dU d}(aN:aY W I env ae l cQ)(aE:aY W I env ae r dU)(a6:∀X (C:aq) bx bE,c0 X C->fQ W env ae (a0 X C)->aC (a0 X C) bx cQ->aC (a0 X C) bE dU->dZ W X I (pA qV bx bE) d C)(aI:autoParam (kH qV r=false) tW):aY W I env ae (.Compare l [qV] [r] al) d:=⟨λX C aK G=>⟨λai aj q=>by
 with_reducible refine wpAny_Compare1 ((aN.on X C aK G).go _ _ λbx aG k1 aT=>(aE.on X aG (aK.mono k1) (G.mono (cg k1))).go _ _ λbE a5 k2 bb=>?_) aI
 with_reducible exact(a6 X a5 bx bE (aK.mono (b5 k1 k2)) (G.mono (cg (b5 k1 k2))) (aT.mono (cg k2)) bb).go _ _ λv s' k r=>q v s' (b5 (b5 k1 k2) k) r⟩⟩
theorem mS{l qV r al cQ dU b}(aN:aY W I env ae l cQ)(aE:aY W I env ae r dU)(a6:∀X (C:aq) bx bE,c0 X C->fQ W env ae (a0 X C)->aC (a0 X C) bx cQ->aC (a0 X C) bE dU->dZ W X I (pA qV bx bE) (.bool b) C)(aI:autoParam (kH qV r=false) tW):ej W I env ae (.Compare l [qV] [r] al) b:=⟨λX C aK G=>⟨λai aj q=>by
 with_reducible refine wpAny_isTrue_Compare1 ((aN.on X C aK G).go _ _ λbx aG k1 aT=>(aE.on X aG (aK.mono k1) (G.mono (cg k1))).go _ _ λbE a5 k2 bb=>?_) aI
 with_reducible refine(a6 X a5 bx bE (aK.mono (b5 k1 k2)) (G.mono (cg (b5 k1 k2))) (aT.mono (cg k2)) bb).go _ _ λv s' k r=>?_
 cases r
 with_reducible exact By (q s' (b5 (b5 k1 k2) k))⟩⟩
end
end Mine.Tactic
namespace Mine.Tactic
section
variable{W:bj}{X:List ah}{I:br}{env:bB}{ae:bu}{C:aq}
noncomputable abbrev bc:Nat:=16777216
theorem RU:ol=bc:=rfl
theorem jD{Y:Nat}(B:Y<=bc):Y<=ol:=B
theorem ahl{a b:Int}{t bq:dN}:dZ W X I (l9 .Add (.int a t) (.int b bq)) (.int (a+b)) C:=⟨λai aj q=>by
 with_reducible refine aif ?_
 exact q _ _ (ey C _) (.int _ _)⟩
theorem v7{l r al}{a b:Int}(aN:aY W I env ae l (.int a))(aE:aY W I env ae r (.int b)):aY W I env ae (.BinOp l .Add r al) (.int (a+b)):=
 mQ aN aE λX C bx bE aK _ aT bb=>by refine aC.eI aT λ_=>?_;refine aC.eI bb λ_=>?_;exact ahl
theorem ahV{a b:Int}{t bq:dN}:dZ W X I (l9 .Sub (.int a t) (.int b bq)) (.int (a - b)) C:=⟨λai aj q=>by
 with_reducible refine aiz ?_
 exact q _ _ (ey C _) (.int _ _)⟩
theorem yx{l r al}{a b:Int}(aN:aY W I env ae l (.int a))(aE:aY W I env ae r (.int b)):aY W I env ae (.BinOp l .Sub r al) (.int (a - b)):=
 mQ aN aE λX C bx bE aK _ aT bb=>by refine aC.eI aT λ_=>?_;refine aC.eI bb λ_=>?_;exact ahV
theorem ahE{a b:Int}{t bq:dN}(aI:IntMulOk a b):dZ W X I (l9 .Mult (.int a t) (.int b bq)) (.int (a*b)) C:=⟨λai aj q=>by
 with_reducible refine aiv ?_ aI
 exact q _ _ (ey C _) (.int _ _)⟩
theorem FW{l r al}{a b:Int}(aN:aY W I env ae l (.int a))(aE:aY W I env ae r (.int b))(aI:IntMulOk a b):aY W I env ae (.BinOp l .Mult r al) (.int (a*b)):=
 mQ aN aE λX C bx bE aK _ aT bb=>by refine aC.eI aT λ_=>?_;refine aC.eI bb λ_=>?_;exact ahE aI
theorem ahD{a b:Int}{t bq:dN}(ak:b≠0):dZ W X I (l9 .Mod (.int a t) (.int b bq)) (.int (a.fmod b)) C:=⟨λai aj q=>by
 with_reducible refine aiu ak ?_
 exact q _ _ (ey C _) (.int _ _)⟩
theorem yw{l r al}{a b:Int}(aN:aY W I env ae l (.int a))(aE:aY W I env ae r (.int b))(ak:b≠0):aY W I env ae (.BinOp l .Mod r al) (.int (a.fmod b)):=
 mQ aN aE λX C bx bE aK _ aT bb=>by refine aC.eI aT λ_=>?_;refine aC.eI bb λ_=>?_;exact ahD ak
theorem aht{a b:Int}{t bq:dN}(ak:b≠0)(aF:T4 a b=false):dZ W X I (l9 .FloorDiv (.int a t) (.int b bq)) (.int (a.fdiv b)) C:=⟨λai aj q=>by
 with_reducible refine aij ak ?_ (Or.inl aF)
 exact q _ _ (ey C _) (.int _ _)⟩
theorem L2{l r al}{a b:Int}(aN:aY W I env ae l (.int a))(aE:aY W I env ae r (.int b))(ak:b≠0)(aF:T4 a b=false):aY W I env ae (.BinOp l .FloorDiv r al) (.int (a.fdiv b)):=
 mQ aN aE λX C bx bE aK _ aT bb=>by refine aC.eI aT λ_=>?_;refine aC.eI bb λ_=>?_;exact aht ak aF
theorem ahK{a b:Int}{t bq:dN}(ak:0<=b)(aF:(sg a:Int)*b<=2^27):dZ W X I (l9 .Pow (.int a t) (.int b bq)) (.int (a^b.toNat)) C:=⟨λai aj q=>by
 with_reducible refine aiy ak aF ?_
 exact q _ _ (ey C _) (.int _ _)⟩
theorem VF{l r al}{a b:Int}(aN:aY W I env ae l (.int a))(aE:aY W I env ae r (.int b))(ak:0<=b)(aF:(sg a:Int)*b<=2^27):aY W I env ae (.BinOp l .Pow r al) (.int (a^b.toNat)):=
 mQ aN aE λX C bx bE aK _ aT bb=>by refine aC.eI aT λ_=>?_;refine aC.eI bb λ_=>?_;exact ahK ak aF
theorem ahn{a b:Int}{t bq:dN}:dZ W X I (l9 .BitAnd (.int a t) (.int b bq)) (.int (Bm a b)) C:=⟨λai aj q=>by
 with_reducible refine aih ?_
 exact q _ _ (ey C _) (.int _ _)⟩
theorem BI{l r al}{a b:Int}(aN:aY W I env ae l (.int a))(aE:aY W I env ae r (.int b)):aY W I env ae (.BinOp l .BitAnd r al) (.int (Bm a b)):=
 mQ aN aE λX C bx bE aK _ aT bb=>by refine aC.eI aT λ_=>?_;refine aC.eI bb λ_=>?_;exact ahn
theorem ahJ{a b:Int}{t bq:dN}:dZ W X I (l9 .BitOr (.int a t) (.int b bq)) (.int (E8 a b)) C:=⟨λai aj q=>by
 with_reducible refine aix ?_
 exact q _ _ (ey C _) (.int _ _)⟩
theorem VB{l r al}{a b:Int}(aN:aY W I env ae l (.int a))(aE:aY W I env ae r (.int b)):aY W I env ae (.BinOp l .BitOr r al) (.int (E8 a b)):=
 mQ aN aE λX C bx bE aK _ aT bb=>by refine aC.eI aT λ_=>?_;refine aC.eI bb λ_=>?_;exact ahJ
theorem ahN{a b:Int}{t bq:dN}(bd:I.handled=none)(ak:0<=b):dZ W X I (l9 .RShift (.int a t) (.int b bq)) (.int (a.fdiv (2^b.toNat))) C:=⟨λai aj q=>by
 with_reducible refine rshift_int_or bd (λD=>absurd D (q8.mpr ak)) λ_=>?_
 exact q _ _ (ey C _) (.int _ _)⟩
theorem L9{l r al}{a b:Int}(aN:aY W I env ae l (.int a))(aE:aY W I env ae r (.int b))(bd:I.handled=none)(ak:0<=b):aY W I env ae (.BinOp l .RShift r al) (.int (a.fdiv (2^b.toNat))):=
 mQ aN aE λX C bx bE aK _ aT bb=>by refine aC.eI aT λ_=>?_;refine aC.eI bb λ_=>?_;exact ahN bd ak
theorem ahM{a b:Int}{t bq:dN}(bd:I.handled=none)(ak:0<=b)(aH:(sg a:Int)+b<=2^27):dZ W X I (l9 .LShift (.int a t) (.int b bq)) (.int (a*2^b.toNat)) C:=⟨λai aj q=>by
 with_reducible refine lshift_int_or bd (λD=>absurd D (q8.mpr ak)) (λ_=>aH) λ_=>?_
 exact q _ _ (ey C _) (.int _ _)⟩
theorem FY{l r al}{a b:Int}(aN:aY W I env ae l (.int a))(aE:aY W I env ae r (.int b))(bd:I.handled=none)(ak:0<=b)(aH:(sg a:Int)+b<=2^27):aY W I env ae (.BinOp l .LShift r al) (.int (a*2^b.toNat)):=
 mQ aN aE λX C bx bE aK _ aT bb=>by refine aC.eI aT λ_=>?_;refine aC.eI bb λ_=>?_;exact ahM bd ak aH
theorem ahr{a b:Int}{t bq:dN}:dZ W X I (pA .Eq (.int a t) (.int b bq)) (.bool (a==b)) C:=⟨λai aj q=>by
 with_reducible refine aii ?_
 exact q _ _ (gb C) (.bool _)⟩
theorem pG{l r al}{a b:Int}(aN:aY W I env ae l (.int a))(aE:aY W I env ae r (.int b))(aI:autoParam (kH .Eq r=false) tW):ej W I env ae (.Compare l [.Eq] [r] al) (a==b):=
 mS aN aE (λX C bx bE aK _ aT bb=>by refine aC.eI aT λ_=>?_;refine aC.eI bb λ_=>?_;exact ahr) aI
theorem ahB{a b:Int}{t bq:dN}:dZ W X I (pA .Lt (.int a t) (.int b bq)) (.bool (decide (a<b))) C:=⟨λai aj q=>by
 with_reducible refine ait ?_
 exact q _ _ (gb C) (.bool _)⟩
theorem Mi{l r al}{a b:Int}(aN:aY W I env ae l (.int a))(aE:aY W I env ae r (.int b))(aI:autoParam (kH .Lt r=false) tW):ej W I env ae (.Compare l [.Lt] [r] al) (decide (a<b)):=
 mS aN aE (λX C bx bE aK _ aT bb=>by refine aC.eI aT λ_=>?_;refine aC.eI bb λ_=>?_;exact ahB) aI
theorem ahv{a b:Int}{t bq:dN}:dZ W X I (pA .Gt (.int a t) (.int b bq)) (.bool (decide (b<a))) C:=⟨λai aj q=>by
 with_reducible refine aio ?_
 exact q _ _ (gb C) (.bool _)⟩
theorem Me{l r al}{a b:Int}(aN:aY W I env ae l (.int a))(aE:aY W I env ae r (.int b))(aI:autoParam (kH .Gt r=false) tW):ej W I env ae (.Compare l [.Gt] [r] al) (decide (b<a)):=
 mS aN aE (λX C bx bE aK _ aT bb=>by refine aC.eI aT λ_=>?_;refine aC.eI bb λ_=>?_;exact ahv) aI
theorem ahu{a b:Int}{t bq:dN}:dZ W X I (pA .GtE (.int a t) (.int b bq)) (.bool (decide (b<=a))) C:=⟨λai aj q=>by
 with_reducible refine ail ?_
 exact q _ _ (gb C) (.bool _)⟩
theorem VR{l r al}{a b:Int}(aN:aY W I env ae l (.int a))(aE:aY W I env ae r (.int b))(aI:autoParam (kH .GtE r=false) tW):ej W I env ae (.Compare l [.GtE] [r] al) (decide (b<=a)):=
 mS aN aE (λX C bx bE aK _ aT bb=>by refine aC.eI aT λ_=>?_;refine aC.eI bb λ_=>?_;exact ahu) aI
theorem ahC{a b:ay}{t bq:dN}:dZ W X I (pA .Lt (.str a t) (.str b bq)) (.bool (decide (a.cps.toList<b.cps.toList))) C:=⟨λai aj q=>by
 with_reducible refine TR ?_
 exact q _ _ (gb C) (.bool _)⟩
theorem VW{l r al}{a b:ay}(aN:aY W I env ae l (.str a))(aE:aY W I env ae r (.str b))(aI:autoParam (kH .Lt r=false) tW):ej W I env ae (.Compare l [.Lt] [r] al) (decide (a.cps.toList<b.cps.toList)):=
 mS aN aE (λX C bx bE aK _ aT bb=>by refine aC.eS aT λ_=>?_;refine aC.eS bb λ_=>?_;exact ahC) aI
theorem wa{D al}{a:Int}(B:aY W I env ae D (.int a)):aY W I env ae (.UnaryOp .USub D al) (.int (-a)):=⟨λX C aK G=>⟨λai aj q=>by
 with_reducible refine wpAny_UnaryOp ((B.on X C aK G).go _ _ λv s' k r=>?_)
 refine aC.eI r λ_=>?_
 with_reducible refine aiw ?_
 exact q _ _ (b5 k (ey s' _)) (.int _ _)⟩⟩
theorem Sf{D am:ay}{t bq:dN}(aH:D.length+am.length<=bc):dZ W X I (l9 .Add (.str D t) (.str am bq)) (.str (D++am)) C:=⟨λai aj q=>by
 with_reducible refine aig (λfB bg=>?_) (jD aH)
 exact q _ _ (ey C _) (.str _ _)⟩
theorem v8{l r al}{D am:ay}(aN:aY W I env ae l (.str D))(aE:aY W I env ae r (.str am))(aH:D.length+am.length<=bc):aY W I env ae (.BinOp l .Add r al) (.str (D++am)):=
 mQ aN aE λX C bx bE aK _ aT bb=>by refine aC.eS aT λ_=>?_;refine aC.eS bb λ_=>?_;exact Sf aH
theorem L3{t a b al d}{V:Bool}(cp:ej W I env ae t V)(ha:V=true->aY W I env ae a d)(ak:V=false->aY W I env ae b d):aY W I env ae (.IfExp t a b al) d:=⟨λX C aK G=>⟨λai aj q=>by
 with_reducible refine UY ((cp.on X C aK G).go _ _ λaG k1=>?_)
 cases aO:V
 .simp only[fi,if_false]
  with_reducible exact((ak aO).on X aG (aK.mono k1) (G.mono (cg k1))).go _ _ λv s' k r=>q v s' (b5 k1 k) r
 .simp only[if_true]
  with_reducible exact((ha aO).on X aG (aK.mono k1) (G.mono (cg k1))).go _ _ λv s' k r=>q v s' (b5 k1 k) r⟩⟩
theorem we{D al b}(B:ej W I env ae D b):ej W I env ae (.UnaryOp .Not D al) (!b):=⟨λX C aK G=>⟨λai aj q=>by
 with_reducible exact wpAny_isTrue_Not ((B.on X C aK G).go _ _ λs' k=>q s' k)⟩⟩
theorem cF{al}:nz W I env ae al [] []:=⟨λX C aK G=>⟨λai aj q=>by with_reducible exact U4 (q _ _ (gb C) .nil)⟩⟩
noncomputable def eQ(e:a'):Bool:=rc e.ctorIdx 22
theorem h8{e:a'}(B:eQ e=false)(b9:List a'):eV (e::b9) env=(false,b1 e env)::eV b9 env:=by
 cases e<;>first |rfl|cases B
theorem bI{al e b9 d ab}(bw:aY W I env ae e d)(ms:nz W I env ae al b9 ab)(bV:autoParam (eQ e=false) tR):nz W I env ae al (e::b9) (d::ab):=⟨λX C aK G=>⟨λai aj q=>by
 refine H ((h8 bV) _) ?_
 show az _ _ (LH ((false,b1 e env)::fk al (eV b9 env))) _ _ _
 with_reducible refine g0 ((bw.on X C aK G).go _ _ λv aG k1 aT=>(ms.on X aG (aK.mono k1) (G.mono (cg k1))).go _ _ λaf a5 k2 bb=>?_)
 exact q _ _ (b5 k1 k2) (.cons (aT.mono (cg k2)) bb)⟩⟩
theorem En{af:List an}{ab:List ax}(aK:c0 X C)(r:a3 (a0 X C) af ab)(aH:ab.length<=bc):dZ W X I (vU af) (.tuple ab) C:=⟨λai aj q=>by
 with_reducible refine sl ?_ (by refine H r.length ?_;exact jD aH)
 exact q _ _ (ip C _) (Rc aK (by simpa using r))⟩
theorem AX{af:List an}{ab:List ax}(aK:c0 X C)(r:a3 (a0 X C) af ab)(aH:ab.length<=bc):dZ W X I (Bt af) (.list ab) C:=⟨λai aj q=>by
 with_reducible refine v0 ?_ (by rw[r.length];exact jD aH)
 exact q _ _ (ip C _) (DZ aK (by simpa using r))⟩
theorem mR{b9 k al ab}(B:nz W I env ae al b9 ab)(aH:autoParam (ab.length<=bc) tD):aY W I env ae (.Tuple b9 k al) (.tuple ab):=⟨λX C aK G=>⟨λai aj q=>by
 with_reducible exact KW ((B.on X C aK G).go _ _ λaf aG k1 aT=>(En (aK.mono k1) aT aH).go _ _ λv s' k r=>q v s' (b5 k1 k) r)⟩⟩
theorem hi{b9 al ab}(B:nz W I env ae al b9 ab)(aH:autoParam (ab.length<=bc) tD):aY W I env ae (.List b9 al) (.list ab):=⟨λX C aK G=>⟨λai aj q=>by
 with_reducible exact E1 ((B.on X C aK G).go _ _ λaf aG k1 aT=>(AX (aK.mono k1) aT aH).go _ _ λv s' k r=>q v s' (b5 k1 k) r)⟩⟩
set_option tactic.hygienic true in
theorem ahm{bx bE:an}{bi bs:List ax}(aK:c0 X C)(aT:aC (a0 X C) bx (.list bi))(bb:aC (a0 X C) bE (.list bs))(aH:bi.length+bs.length<=bc):dZ W X I (l9 .Add bx bE) (.list (bi++bs)) C:=⟨λai aj q=>by
 refine aC.gD aT λ_ _ b_ a1=>?_
 refine aC.gD bb λ_ _ b4 a2=>?_
 rename_i D af am ek
 refine pi ((cP.plain b_).isList) λhK a6 aO Y hd=>?_;obtain⟨cls,ml,Gp,ct⟩:=hK
 refine pi ((cP.plain b4).isList) λhK nO kh dD hu=>?_;obtain⟨Gm,mY,Fu,nc⟩:=hK
 simp only at aO hd kh hu
 subst aO hd kh hu
 have a8:=a1.length
 have bm:=a2.length
 have dp:af.size+ek.size<=ol:=by refine H RU ?_;simp at a8 bm;exact j1 [_,_,_,_] 13377541958411348204173893240624414163293184 rfl a8 bm aH
 have t1:C.TypeIs (.ref D) "list":=⟨_,a6,rfl⟩
 have eE:C.TypeIs (.ref am) "list":=⟨_,nO,rfl⟩
 refine UE (T:="list") t1 eE UM UP T9 T8 (T6 _ _) (list_addW D am af ek Y dD ml mY ct nc dp) ⟨a6,nO,?_⟩
 exact q _ _ (ip C _) (DZ aK (by simpa using a3.append a2 a1))⟩
theorem rr{l r al}{bi bs:List ax}(aN:aY W I env ae l (.list bi))(aE:aY W I env ae r (.list bs))(aH:bi.length+bs.length<=bc):aY W I env ae (.BinOp l .Add r al) (.list (bi++bs)):=
 mQ aN aE λX C bx bE aK _ aT bb=>ahm aK aT bb aH
end
section
variable{W:bj}{X:List ah}{I:br}{env:bB}{ae:bu}{C:aq}
theorem o2{D:ay}{al:bp}{v:an}{ai:an->aq->Prop}{aj}(G:fQ W env ae (a0 X C))(hk:env.kindOf D=some .globalImplicit)(bA:dF (cZ W.w) dh D=some (some v))(B:ai v C)(hd:autoParam ((D==("__debug__":ay))=false) tD):az W.M I (b1 (.Name D al) env) ai aj C:=by
 with_reducible refine T5 G.kind hk ?_ hd
 have dt:=G.base.mono (cP (B:=C.heap) (X:=X))
 refine loadGlobal_global (mg:=W.o0) (by refine H G.globals ?_;exact dt.g) (mg_of dt.K dt.g bA) B
theorem ly{D:ay}{al:bp}{v:an}{ai:an->aq->Prop}{aj}(G:fQ W env ae (a0 X C))(hk:env.kindOf D=some .globalImplicit)(bA:dF (cZ W.w) dh D=some none)(ak:iD D=some v)(B:ai v C)(a_:autoParam (D≠"__name__") tD)(hd:autoParam ((D==("__debug__":ay))=false) tD):az W.M I (b1 (.Name D al) env) ai aj C:=by
 with_reducible refine T5 G.kind hk ?_ hd
 have dt:=G.base.mono (cP (B:=C.heap) (X:=X))
 refine loadGlobal_builtin (mg:=W.o0) (mb:=W.s2) (by refine H G.globals ?_;exact dt.g) (mg_none_of dt.K dt.g bA) (by refine H G.builtins ?_;exact dt.b) (by refine H (dt.builtins D a_) ?_;exact ak) B
theorem jQ{al:bp}{ao:an}{first:List an}{args:List (Bool×ni an)}{ai:an->aq->Prop}{aj}(b2:∀a,ao≠ .ref a)(aa7:args.any (·.1)=false)(B:az W.M I (Lx ao true args []) (λa j6=>az W.M I (df ao (first++a.pos) a.kw) ai aj j6) aj C):az W.M I (fH al ao first args []) ai aj C:=by
 unfold fH
 refine aM (ib (fe B (λa j6 iX=>aM (tY ?_)) λ_ _ D=>D))
 refine H aa7 ?_
 have hk:keeperOf ao=pure .machine:=by
  unfold keeperOf
  cases ao<;>first |rfl|exact absurd rfl (b2 _)
 refine H hk ?_
 refine aM (b6 ?_)
 exact aM (fe iX (λr iz aE=>aM (ib (wpAny_point (b6 aE)))) λ_ _ D=>D)
theorem B5(al:bp):∀(b9:List a'),b9.all (λe=> !eQ e)=true->(fk al (eV b9 env)).any (·.1)=false
 |[],_=>rfl
 |e::b9,B=>by
  simp only[xJ,mH,Ki]at B
  refine H ((h8 B.1) _) ?_
  have:=B5 al b9 (by simpa using B.2)
  simpa[fk]using this
theorem sA{ao:an}{al:bp}{e:a'}{b9:List a'}{ab:List ax}{ai:Args->aq->Prop}{aj}(aK:c0 X C)(G:fQ W env ae (a0 X C))(B:nz W I env ae al (e::b9) ab)(bV:eQ e=false)(q:∀af s',cS C s'->a3 (a0 X s') af ab->ai ⟨af,[]⟩ s'):az W.M I (Lx ao true (fk al (eV (e::b9) env)) []) ai aj C:=by
 have h1:=(B.on X C aK G).go (λaf s'=>ai ⟨af,[]⟩ s') aj q
 rw[h8 bV]at h1 ⊢
 exact k' h1
theorem vn{e:a'}{b9:List a'}(B:(e::b9).all (λe=> !eQ e)=true):eQ e=false:=by
 simp only[xJ,mH,Ki]at B
 exact B.1
theorem ow{D:ay}{bK al:bp}{ao:an}{e:a'}{b9:List a'}{ab:List ax}{d:ax}(hk:env.kindOf D=some .globalImplicit)(bA:dF (cZ W.w) dh D=some none)(ak:iD D=some ao)(ms:nz W I env ae al (e::b9) ab)(aO:∀X (C:aq) af,c0 X C->fQ W env ae (a0 X C)->a3 (a0 X C) af ab->dZ W X I (df ao af) d C)(b2:∀a,ao≠ .ref a:=by intro _ D;cases D)(bV:autoParam ((e::b9).all (λe=> !eQ e)=true) tR)(a_:autoParam (D≠"__name__") tD)(hd:autoParam ((D==("__debug__":ay))=false) tD):aY W I env ae (.Call (.Name D bK) (e::b9) [] al) d:=⟨λX C aK G=>⟨λai aj q=>by
 show az _ _ (b1 (.Name D bK) env>>=λv=>fH al v [] (fk al (eV (e::b9) env)) (j_ al (j' [] env))) _ _ _
 refine aM (ly G hk bA ak ?_ a_ hd)
 show az _ _ (fH al ao [] (fk al (eV (e::b9) env)) []) _ _ _
 with_reducible refine jQ b2 (B5 al _ bV) (sA aK G ms (vn bV) λaf aG k1 aT=>?_)
 show az _ _ (df ao af) _ _ _
 with_reducible exact(aO X aG af (aK.mono k1) (G.mono (cg k1)) aT).go _ _ λv s' k r=>q v s' (b5 k1 k) r⟩⟩
theorem uY{K:Frag}{B:bo}{a:ah}{N:bJ}(X:K.In B)(e:K.lookup a=some N):B.get? a=some N:=X _ _ e
structure pI (W:bj) (I:br) (ao:ah) (ab:List ax) (d:ax):Prop where
 on:∀X (C:aq) af,c0 X C->eg W (a0 X C)->a3 (a0 X C) af ab->dZ W X I (df (.ref ao) af) d C
theorem qy{D:ay}{bK al:bp}{ao:ah}{e4:bJ}{fd:pu}{e:a'}{b9:List a'}{ab:List ax}{d:ax}(hk:env.kindOf D=some .globalImplicit)(bA:dF (cZ W.w) dh D=some (some (.ref ao)))(a6:(cZ W.w).lookup ao=some e4)(pT:e4.data= .func fd)(ms:nz W I env ae al (e::b9) ab)(aO:pI W I ao ab d)(bV:autoParam ((e::b9).all (λe=> !eQ e)=true) tR)(hd:autoParam ((D==("__debug__":ay))=false) tD):aY W I env ae (.Call (.Name D bK) (e::b9) [] al) d:=⟨λX C aK G=>⟨λai aj q=>by
 show az _ _ (b1 (.Name D bK) env>>=λv=>fH al v [] (fk al (eV (e::b9) env)) (j_ al (j' [] env))) _ _ _
 refine aM (o2 G hk bA ?_ hd)
 show az _ _ (fH al (.ref ao) [] (fk al (eV (e::b9) env)) []) _ _ _
 with_reducible refine vL (o:=e4) (fd:=fd) (sA aK G ms (vn bV) λaf aG k1 aT=>⟨⟨uY (G.base.mono ((cg k1).trans cP)).K a6,pT⟩,?_⟩)
 show az _ _ (df (.ref ao) af) _ _ _
 with_reducible exact(aO.on X aG af (aK.mono k1) (G.base.mono (cg k1)) aT).go _ _ λv s' k r=>q v s' (b5 k1 k) r⟩⟩
theorem yy{v ct al cQ dU d}(bA:aY W I env ae v cQ)(aU:aY W I env ae ct dU)(a6:∀X (C:aq) bx bE,c0 X C->fQ W env ae (a0 X C)->aC (a0 X C) bx cQ->aC (a0 X C) bE dU->dZ W X I (ri v ct bx bE) d C):aY W I env ae (.Subscript v ct al) d:=⟨λX C aK G=>⟨λai aj q=>by
 with_reducible refine vI ((bA.on X C aK G).go _ _ λbx aG k1 aT=>(aU.on X aG (aK.mono k1) (G.mono (cg k1))).go _ _ λbE a5 k2 bb=>?_)
 with_reducible exact(a6 X a5 bx bE (aK.mono (b5 k1 k2)) (G.mono (cg (b5 k1 k2))) (aT.mono (cg k2)) bb).go _ _ λv s' k r=>q v s' (b5 (b5 k1 k2) k) r⟩⟩
noncomputable def qd(e:a'):Bool:= !rc e.ctorIdx 26
theorem tj{ct:a'}(B:qd ct=true)(N L:an):LI ct false N L=operate [N,L] (Fx N L):=by
 unfold LI
 cases ct<;>first |rfl|cases B
theorem ahw{v:an}{jk ct:a'}{L:Int}{t:dN}{ab:List ax}{d:ax}(r:aC (a0 X C) v (.list ab))(aQ:0<=L)(h1:L<2^63)(aS:ab[L.toNat]? =some d)(aF:qd ct=true):dZ W X I (ri jk ct v (.int L t)) d C:=⟨λai aj q=>by
 refine aC.gD r λ_ _ l a=>?_
 refine cm (a.get aS) λD nQ r=>?_
 have l:=(cP.plain l).isList
 with_reducible refine og (oh l) vY.lookup (LO l aQ h1 (by simpa using nQ) (q _ _ (gb C) r)) (tj aF _ _)⟩
set_option tactic.hygienic true in
theorem ahy{v:an}{jk ct:a'}{L:Int}{t:dN}{ab:List ax}{d:ax}(r:aC (a0 X C) v (.tuple ab))(aQ:0<=L)(h1:L<2^63)(aS:ab[L.toNat]? =some d)(aF:qd ct=true):dZ W X I (ri jk ct v (.int L t)) d C:=⟨λai aj q=>by
 refine aC.ul r λ_ _ l a=>?_
 rename_i g5 af
 refine cm (a.get aS) λD nQ r=>?_
 have cM:L.toNat<af.size:=by
  have:=kB.mp nQ
  refine bH this λJ _=>?_;clear this
  simpa using J
 have bL:vV L af.size=some L.toNat:=by
  unfold vV
  have a8:¬L<0:=q8.mpr aQ
  simp only[a8,if_false]
  rw[if_pos]
  simp
  exact⟨aQ,(Int.toNat_lt aQ).mp cM⟩
 have qR:IsTup C.heap g5 af:=cP.sZ l
 refine og qR.typeIs slot_tuple_getitem.lookup (ain qR (tw (by decide) aQ) h1 bL (by simpa using nQ) (q _ _ (gb C) r)) (tj aF _ _)⟩
theorem ox{v ct al ab d}{L:Int}(bA:aY W I env ae v (.list ab))(aU:aY W I env ae ct (.int L))(aQ:0<=L)(h1:L<2^63)(aS:ab[L.toNat]? =some d)(aF:autoParam (qd ct=true) tR):aY W I env ae (.Subscript v ct al) d:=
 yy bA aU λX C bx bE aK _ aT bb=>by refine aC.eI bb λ_=>?_;exact ahw aT aQ h1 aS aF
theorem FV{v ct al ab d}{L:Int}(bA:aY W I env ae v (.tuple ab))(aU:aY W I env ae ct (.int L))(aQ:0<=L)(h1:L<2^63)(aS:ab[L.toNat]? =some d)(aF:autoParam (qd ct=true) tR):aY W I env ae (.Subscript v ct al) d:=
 yy bA aU λX C bx bE aK _ aT bb=>by refine aC.eI bb λ_=>?_;exact ahy aT aQ h1 aS aF
end
mutual
noncomputable def ax.py:ax->PyData
 | .none=>.none
 | .bool b=>.bool b
 | .int L=>.int L
 | .str D=>.str D
 | .bytes _=>.none
 | .tuple ab=>.tuple (ax.j4 ab)
 | .list ab=>.list (ax.j4 ab)
 | .adr _=>.none
 | .cf _ ab=>.list (ax.j4 ab)
 | .raw ab=>.list (ax.j4 ab)
 | .ty _=>.none
noncomputable def ax.j4:List ax->List PyData
 |[]=>[]
 |d::ab=>d.py::ax.j4 ab
end
mutual
inductive f5:Nat->ax->Prop
 |none {Y}:f5 Y .none
 |bool {Y b}:f5 Y (.bool b)
 |int {Y L}:f5 Y (.int L)
 |str {Y D}:qr D=true->f5 Y (.str D)
 |tuple {Y ab}:hE Y ab->f5 (Y+1) (.tuple ab)
 |list {Y ab}:hE Y ab->f5 (Y+1) (.list ab)
 |cf {Y a ab}:hE Y ab->f5 (Y+1) (.cf a ab)
inductive hE:Nat->List ax->Prop
 |nil {Y}:hE Y []
 |cons {Y d ab}:f5 Y d->hE Y ab->hE Y (d::ab)
end
theorem hE.of{Y:Nat}{ab:List ax}(B:∀d∈ab,f5 Y d):hE Y ab:=by
 induction ab with
 |nil=>exact .nil
 |cons d ab bf=>exact .cons (B d (.head _)) (bf λe bw=>B e (.tail _ bw))
theorem Q_{B:bo}{a:ah}{af:Array an}{ab:List ax}(l:B.PlainList a af):(∃bi,ReadsAll B af.toList (ax.j4 ab) bi)->∃bi,Reads B (.ref a) (.list (ax.j4 ab)) bi:=by
 refine pi l.isList λ_ a6 aO _ hd=>?_
 exact λ⟨_,q⟩=>⟨_,.list a6 aO hd q⟩
theorem aC.reads{B:bo}{Y v d}(ao:f5 Y d):aC B v d->∃bi,Reads B v d.py bi:=
 f5.rec (motive_1:=λ_ d _=>∀v,aC B v d->∃bi,Reads B v d.py bi) (motive_2:=λ_ ab _=>∀af,a3 B af ab->∃bi,ReadsAll B af (ax.j4 ab) bi)
  (λ_ r=>r.Qz▸⟨_,.none⟩) (λ_ r=>r.ofBool▸⟨_,.bool _⟩) (λ_ r=>r.ofInt.elim λ_ e=>e▸⟨_,.int _ _⟩) (λ_ _ r=>r.ofStr.elim λ_ e=>e▸⟨_,.str _ _⟩)
  (λ_ bf _ r=>by refine aC.ul r λ_ _ nR a=>?_;obtain⟨_,a6,aO,_,hd⟩:=nR;exact(bf _ a).elim λ_ q=>⟨_,.tuple a6 aO hd q⟩)
  (λ_ bf _ r=>by refine aC.gD r λ_ _ l a=>?_;exact Q_ l (bf _ a))
  (λ_ bf _ r=>by refine aC.eA r λ_ l a=>?_;exact Q_ l (bf _ a))
  (λ_ r=>r.r2▸⟨_,.nil⟩) (λ_ _ L aB _ r=>by refine a3.eC r λ_ _ a b=>?_;exact(L _ a).elim λ_ q=>(aB _ b).elim λ_ J=>⟨_,.cons q J⟩) ao v
theorem IL{Y:Nat}{ab:List ax}(B:Fe (ax.j4 ab)=true/\Ff (ax.j4 ab)<=Y):(Uj (ax.j4 ab)).canLay0=true/\(Uj (ax.j4 ab)).depth<=Y+1:=by
 rw[PyData.canLay0,PyData.depth]
 exact⟨B.1,by have:=B.2;exact aL [_,_] 10471996207412614144 rfl B.2⟩
theorem f5.lay{Y d}(ao:f5 Y d):d.py.canLay0=true/\d.py.depth<=Y:=
 f5.rec (motive_1:=λY d _=>d.py.canLay0=true/\d.py.depth<=Y) (motive_2:=λY ab _=>Fe (ax.j4 ab)=true/\Ff (ax.j4 ab)<=Y)
  ⟨rfl,eL _⟩ ⟨rfl,eL _⟩ ⟨rfl,eL _⟩ (λB=>⟨B,eL _⟩) (λ_=>IL) (λ_=>IL) (λ_=>IL) ⟨rfl,eL _⟩
  (λ{_ d ab} _ _ a b=>by
   show Fe (d.py::ax.j4 ab)=true/\Ff (d.py::ax.j4 ab)<=_
   rw[Fe,Ff,a.1,b.1]
   exact⟨rfl,Tq.mpr ⟨a.2,b.2⟩⟩) ao
section
variable{W:bj}{X:List ah}{I:br}{env:bB}{ae:bu}{C:aq}
theorem Sg{Y:Nat}{bx bE:an}{d:ax}(ao:f5 Y d)(aT:aC (a0 X C) bx d)(bb:aC (a0 X C) bE d)(be:I.units+Y<c7):dZ W X I (pA .Eq bx bE) (.bool true) C:=⟨λai aj q=>by
 obtain⟨bi,q1⟩:=(aT.mono cP).reads ao
 obtain⟨bs,fV⟩:=(bb.mono cP).reads ao
 have l:=ao.lay
 have e:=Uk (prog:=W.prog) (w:=W.w) (A:=I) (E:=aj) (Q:=ai) q1 fV l.1 l.1 (by have:=l.2;exact j1 [_,_,_,_,_] 725206435541256429261825 rfl be l.2 (tC _ _))
 rw[Lj _ l.1]at e
 with_reducible exact e (q _ _ (gb C) (.bool _))⟩
theorem ahI{Y:Nat}{bx bE:an}{d:ax}(ao:f5 Y d)(aT:aC (a0 X C) bx d)(bb:aC (a0 X C) bE d)(be:I.units+Y<c7):dZ W X I (pA .NotEq bx bE) (.bool false) C:=⟨λai aj q=>by
 refine bH ((aT.mono cP).reads ao) λbi q1=>?_
 refine bH ((bb.mono cP).reads ao) λbs fV=>?_
 have l:=ao.lay
 have e:=Ul (prog:=W.prog) (w:=W.w) (A:=I) (E:=aj) (Q:=ai) q1 fV l.1 l.1 (Ee l.2 be)
 rw[Lj _ l.1]at e
 with_reducible exact e (q _ _ (gb C) (.bool _))⟩
theorem ahs{Y:Nat}{bx bE:an}{ab:List ax}(ao:f5 Y (.list ab))(aT:aC (a0 X C) bx (.list ab))(bb:aC (a0 X C) bE (.list []))(be:I.units+Y<c7):dZ W X I (pA .Eq bx bE) (.bool ab.isEmpty) C:=⟨λai aj q=>by
 refine bH ((aT.mono cP).reads ao) λbi q1=>?_
 refine bH ((bb.mono cP).reads (Y:=Y+1) (.list .nil)) λbs fV=>?_
 have l:=ao.lay
 have e:=Uk (prog:=W.prog) (w:=W.w) (A:=I) (E:=aj) (Q:=ai) q1 fV l.1 rfl (by have:=l.2;exact j1 [_,_,_,_,_] 725206435541256429261825 rfl be l.2 (tC _ _))
 have bm:Fg (ax.py (.list ab)) (ax.py (.list []))=ab.isEmpty:=by
  cases ab<;>rfl
 rw[bm]at e
 with_reducible exact e (q _ _ (gb C) (.bool _))⟩
theorem ahH{Y:Nat}{bx bE:an}{ab:List ax}(ao:f5 Y (.list ab))(aT:aC (a0 X C) bx (.list ab))(bb:aC (a0 X C) bE (.list []))(be:I.units+Y<c7):dZ W X I (pA .NotEq bx bE) (.bool (!ab.isEmpty)) C:=⟨λai aj q=>by
 refine bH ((aT.mono cP).reads ao) λbi q1=>?_
 refine bH ((bb.mono cP).reads (Y:=Y+1) (.list .nil)) λbs fV=>?_
 have l:=ao.lay
 have e:=Ul (prog:=W.prog) (w:=W.w) (A:=I) (E:=aj) (Q:=ai) q1 fV l.1 rfl (Ee l.2 be)
 have bm:Fg (ax.py (.list ab)) (ax.py (.list []))=ab.isEmpty:=by
  cases ab<;>rfl
 rw[bm]at e
 with_reducible exact e (q _ _ (gb C) (.bool _))⟩
set_option tactic.hygienic true in
theorem Em{v:an}{ab:List ax}(r:aC (a0 X C) v (.list ab))(aH:ab.length<=bc):dZ W X I (df (.builtin "len") [v]) (.int ab.length) C:=⟨λai aj q=>by
 refine aC.gD r λ_ _ l a=>?_
 rename_i g5 af
 have f7:af.size=ab.length:=a.length
 have e:(af.size:Int)=ab.length:=congrArg KH f7
 have l:=(cP.plain l).isList
 with_reducible refine call_len_list l (kQ (cu (j9 f7) aH) (by decide)) ?_
 refine H e ?_
 exact q _ _ (ey C _) (.int _ _)⟩
theorem Si{D:ay}{t:dN}(aH:D.length<=bc):dZ W X I (df (.builtin "len") [.str D t]) (.int D.length) C:=⟨λai aj q=>by
 with_reducible refine ais (SK.mpr (kQ aH (by decide))) ?_
 exact q _ _ (ey C _) (.int _ _)⟩
theorem ahA{b:Array UInt8}{t:dN}(aH:b.size<=bc):dZ W X I (df (.builtin "len") [.bytes b t]) (.int b.size) C:=⟨λai aj q=>by
 with_reducible refine len_bytes (cu aH (by decide)) ?_
 exact q _ _ (ey C _) (.int _ _)⟩
theorem Jy{B:bo}{af:Array an}{ab:List ax}(a:a3 B af.toList ab)(rV:List Nat):a3 B (rV.filterMap λL=>af[L]?) (rV.filterMap λL=>ab[L]?):=by
 induction rV with
 |nil=>exact .nil
 |cons aB rV bf=>
  cases e:af[aB]? with
  |none=>
   have bm:ab[aB]? =none:=by
    have:=a.length
    simp at e this ⊢
    exact bX [_,_,_] 166118065317184 rfl this e
   simpa[sd,e,bm]using bf
  |some v=>
   refine cm (a.get' (L:=aB) (v:=v) (by simpa using e)) λd hd r=>?_
   simpa[sd,e,hd]using a3.cons r bf
end
structure jp (W:bj) (I:br) (env:bB) (ae:bu) (Ag:Option a') (adw:Option Int):Prop where
 on:∀X (C:aq),c0 X C->fQ W env ae (a0 X C)->∀(ai:an->aq->Prop)(aj:an->aq->Prop),(∀v s',cS C s'->mK v adw->ai v s')->az W.M I (ro (rn Ag env)) ai aj C
section
variable{W:bj}{X:List ah}{I:br}{env:bB}{ae:bu}{C:aq}
theorem nx:jp W I env ae none none:=⟨λX C aK G ai aj q=>by
 show az _ _ (pure gB) _ _ _
 with_reducible exact b6 (q _ _ (gb C) .none)⟩
theorem ny{e:a'}{L:Int}(B:aY W I env ae e (.int L)):jp W I env ae (some e) (some L):=⟨λX C aK G ai aj q=>by
 show az _ _ (b1 e env) _ _ _
 with_reducible refine(B.on X C aK G).go _ _ λv s' k r=>?_
 refine aC.eI r λ_=>?_
 exact q _ _ k (.int _ _)⟩
theorem BL{v:a'}{lo aU st:Option a'}{J al:bp}{l bq k:Option Int}{cQ d:ax}(bA:aY W I env ae v cQ)(aN:jp W I env ae lo l)(be:jp W I env ae aU bq)(hk:jp W I env ae st k)(a6:∀X (C:aq) bx a ew gO hR,c0 X C->aC (a0 X C) bx cQ->C.heap.IsSliceOf a ew gO hR->mK ew l->mK gO bq->mK hR k->dZ W X I (ri v (.Slice lo aU st J) bx (.ref a)) d C):aY W I env ae (.Subscript v (.Slice lo aU st J) al) d:=⟨λX C aK G=>⟨λai aj q=>by
 with_reducible refine vI ((bA.on X C aK G).go _ _ λbx aG k1 aT=>?_)
 show az _ _ (ro (rn lo env)>>=λl=>mO [l] (ro (rn aU env))>>=λbq=>mO [l,bq] (ro (rn st env))>>=λC=>Fy "slice" [l,bq,C]) _ _ _
 with_reducible refine aM (aN.on X aG (aK.mono k1) (G.mono (cg k1)) _ _ λew a5 k2 cY=>aM (ib (be.on X a5 (aK.mono (b5 k1 k2)) (G.mono (cg (b5 k1 k2))) _ _ λgO bv dr eM=>aM (ib (hk.on X bv (aK.mono (b5 (b5 k1 k2) dr)) (G.mono (cg (b5 (b5 k1 k2) dr))) _ _ λhR c3 fF eP=>?_)))))
 show az _ _ (Lz (.type "slice") (.fields #[ew,gO,hR])) _ _ _
 with_reducible refine tX ?_
 with_reducible exact(a6 X _ bx _ ew gO hR (aK.mono (b5 (b5 (b5 (b5 k1 k2) dr) fF) (ip c3 _))) (aT.mono (cg (b5 (b5 (b5 k2 dr) fF) (ip c3 _)))) (Lc ..) cY eM eP).go _ _ λv s' k r=>q v s' (b5 (b5 (b5 (b5 (b5 k1 k2) dr) fF) (ip c3 _)) k) r⟩⟩
noncomputable def afh(st:Option a')(a N:an):List an:=match st with
 |none=>[a,N]
 |some _=>[N,a]
theorem AI(lo aU st:Option a')(J:bp)(N L:an):LI (.Slice lo aU st J) false N L=operate (afh st L N) (Fx N L):=by
 cases st<;>rfl
noncomputable def o8(ab:List ax)(lo aU st:Option Int):List ax:=
 (UQ (vX lo aU st ab.length).1 (vX lo aU st ab.length).2.1 (vX lo aU st ab.length).2.2).filterMap λL=>ab[L]?
noncomputable def lV(ab:List ax)(lo aU:Option Int):List ax:=(ab.drop (lo.elim 0 (ya ab.length))).take (aU.elim ab.length (ya ab.length) - lo.elim 0 (ya ab.length))
set_option tactic.hygienic true in
theorem ahO{bx:an}{a:ah}{ew gO hR:an}{l bq k:Option Int}{ab:List ax}{jk:a'}{lo aU st:Option a'}{J:bp}(aK:c0 X C)(r:aC (a0 X C) bx (.list ab))(a9:C.heap.IsSliceOf a ew gO hR)(bz:mK ew l)(iv:mK gO bq)(n1:mK hR k)(aQ:k≠some 0)(aH:ab.length<=bc):dZ W X I (ri jk (.Slice lo aU st J) bx (.ref a)) (.list (o8 ab l bq k)) C:=⟨λai aj q=>by
 refine aC.gD r λ_ _ aN aV=>?_
 rename_i g5 af
 have e:af.size=ab.length:=aV.length
 have aN:=(cP.plain aN).isList
 with_reducible refine og (oh aN) Ly (LP aN a9 bz iv n1 aQ ?_ (by refine H e ?_;exact jD aH)) (AI _ _ _ _ _ _)
 refine q _ _ (ip C _) (DZ aK ?_)
 unfold Bw o8
 refine H e ?_
 simpa using Jy aV _⟩
set_option tactic.hygienic true in
theorem ahP{bx:an}{a:ah}{ew gO hR:an}{l bq k:Option Int}{ab:List ax}{jk:a'}{lo aU st:Option a'}{J:bp}(aK:c0 X C)(r:aC (a0 X C) bx (.raw ab))(a9:C.heap.IsSliceOf a ew gO hR)(bz:mK ew l)(iv:mK gO bq)(n1:mK hR k)(aQ:k≠some 0)(aH:ab.length<=bc):dZ W X I (ri jk (.Slice lo aU st J) bx (.ref a)) (.list (o8 ab l bq k)) C:=⟨λai aj q=>by
 refine aC.eR r λ_ _ aN aV=>?_
 rename_i g5 af
 have e:af.size=ab.length:=aV.length
 have aN:=cP.isList aN
 with_reducible refine og (oh aN) Ly (LP aN a9 bz iv n1 aQ ?_ (by rw[e];exact jD aH)) (AI _ _ _ _ _ _)
 refine q _ _ (ip C _) (DZ aK ?_)
 unfold Bw o8
 rw[e]
 simpa using Jy aV _⟩
theorem VE{v:a'}{lo aU st:Option a'}{J al:bp}{l bq k:Option Int}{ab:List ax}(bA:aY W I env ae v (.raw ab))(aN:jp W I env ae lo l)(be:jp W I env ae aU bq)(hk:jp W I env ae st k)(aQ:k≠some 0)(aH:ab.length<=bc):aY W I env ae (.Subscript v (.Slice lo aU st J) al) (.list (o8 ab l bq k)):=
 BL bA aN be hk λX C bx a ew gO hR aK r a9 bz iv n1=>ahP aK r a9 bz iv n1 aQ aH
theorem VD{v:a'}{lo aU st:Option a'}{J al:bp}{l bq k:Option Int}{ab:List ax}(bA:aY W I env ae v (.list ab))(aN:jp W I env ae lo l)(be:jp W I env ae aU bq)(hk:jp W I env ae st k)(aQ:k≠some 0)(aH:ab.length<=bc):aY W I env ae (.Subscript v (.Slice lo aU st J) al) (.list (o8 ab l bq k)):=
 BL bA aN be hk λX C bx a ew gO hR aK r a9 bz iv n1=>ahO aK r a9 bz iv n1 aQ aH
theorem QQ(ab:List ax)(lo aU:Option Int):o8 ab lo aU none=lV ab lo aU:=by
 unfold o8 lV
 refine H (sliceBounds_plain _ _ _) ?_
 simp only[Bx]
 generalize lo.elim 0 (ya ab.length)=a
 generalize aU.elim ab.length (ya ab.length)=b
 have:∀(Y a:Nat)(ab:List ax),(Te a Y).filterMap (λL=>ab[L]?)=(ab.drop a).take Y:=by
  intro Y
  induction Y with
  |zero=>intro a ab;simp
  |succ Y bf=>
   intro a ab
   refine H Tg ?_;refine H sd ?_;refine H (bf _ _) ?_
   cases B:ab[a]? with
   |none=>
    have:ab.length<=a:=by simpa using B
    simp[sc this,sc (Tm this)]
   |some d=>
    refine bH (kB.mp B) λcM bw=>?_
    refine H (xL cM) ?_;refine H Tj ?_;refine H bw ?_;rfl
 refine b' (this _ _ _) ?_;refine H Tf ?_;refine H List.filterMap_map ?_;rfl
theorem BJ{v:a'}{lo aU:Option a'}{J al:bp}{l bq:Option Int}{ab:List ax}(bA:aY W I env ae v (.list ab))(aN:jp W I env ae lo l)(be:jp W I env ae aU bq)(aH:ab.length<=bc):aY W I env ae (.Subscript v (.Slice lo aU none J) al) (.list (lV ab l bq)):=by
 refine b' (QQ _ _ _) ?_
 exact VD bA aN be nx (by simp) aH
theorem XI(ab:List ax)(a:Nat):lV ab (some a) none=ab.drop a:=by
 unfold lV
 simp only[xR,Lu]
 rcases Bc a ab.length with B|B
 .refine H (xP B) ?_;refine H (vB (by simp)) ?_;rfl
 .refine H (vF B) ?_;refine H (sc (by simp)) ?_;refine H (sc (by simpa using B)) ?_;simp
theorem XM(ab:List ax)(b:Nat):lV ab none (some b)=ab.take b:=by
 unfold lV
 simp only[xR,Lu,SU,KS]
 rcases Bc b ab.length with B|B
 .refine H (xP B) ?_;rfl
 .refine H (vF B) ?_;refine H (vB (by simp)) ?_;refine H (vB (by simpa using B)) ?_;rfl
theorem XH(ab:List ax):lV ab none (some (-1))=ab.take (ab.length - 1):=by
 unfold lV
 have:=UA ab.length 1 (eF _)
 simp only[xR,SU,KS]
 exact congrArg (λY=>List.take Y ab) this
theorem XJ(ab:List ax):lV ab (some (-1)) none=ab.drop (ab.length - 1):=by
 unfold lV
 have:=UA ab.length 1 (eF _)
 simp only[xR]
 refine H (show ya ab.length (-1)=ab.length - 1 from this) ?_;refine H (vB (by simp)) ?_;rfl
theorem aeQ{B:bo}{af:List an}{bT:List ay}(r:a3 B af (bT.map .str)):xT af bT:=by
 induction bT generalizing af with
 |nil=>refine H r.r2 ?_;exact .nil
 |cons am bT bf=>
  refine a3.eC r λ_ _ a b=>?_
  refine aC.eS a λ_=>?_
  exact .cons _ _ (bf b)
set_option tactic.hygienic true in
theorem v_{D:ay}{N e:a'}{dn al:bp}{bT:List ay}(a6:aY W I env ae N (.str D))(bw:aY W I env ae e (.list (bT.map .str)))(aH:(bT.map (·.length)).sum+bT.length*D.length<=16777216)(fR:autoParam (jK N "join" env (b1 N env)=b1 N env) tR)(bV:autoParam (eQ e=false) tR)(fS:autoParam ((dn.endLine==al.line)=true) tR):aY W I env ae (.Call (.Attribute N "join" dn) [e] [] al) (.str (mL D bT)):=⟨λX C aK G=>⟨λai aj q=>by
 with_reducible refine xX fR (h8 bV []) fS ((a6.on X C aK G).go _ _ λbx aG k1 aT=>?_)
 refine aC.eS aT λ_=>?_
 refine⟨"str","str.join",F.plainAttrs_str,F.slot_str_join,F.type_str_join,tU _ _ _,(λ_ e=>nomatch e),?_⟩
 with_reducible refine jQ (λ_ e=>nomatch e) rfl (k' (g0 ((bw.on X aG (aK.mono k1) (G.mono (cg k1))).go _ _ λbE a5 k2 bb=>jJ ?_)))
 refine aC.gD bb λ_ _ l a=>?_
 rename_i g5 af
 have aU:xT af.toList bT:=aeQ a
 show az _ _ (df (.builtin "str.join") [_,_]) _ _ _
 have l:=(cP.plain l).isList
 with_reducible refine join_list l aU aH λfB k=>?_
 exact q _ _ (b5 (b5 k1 k2) (ey a5 _)) (.str _ _)⟩⟩
end
noncomputable def mf(B aD:bo):Prop:=∀b N aR Y,B.get? b=some N->N.data= .seq aR Y->aD.get? b=some N
theorem mf.isList{B aD:bo}{a af}(k:mf B aD)(D:B.IsList a af):aD.IsList a af:=let⟨N,a6,aO,Y,hd⟩:=D;⟨N,k a N _ _ a6 hd,aO,Y,hd⟩
theorem mf.plain{B aD:bo}{a af}(k:mf B aD)(D:B.PlainList a af):aD.PlainList a af:=let⟨Y,e⟩:=D;⟨Y,k _ _ _ _ e rfl⟩
theorem mf.sZ{B aD:bo}{a af}(k:mf B aD)(D:B.IsTuple a af):aD.IsTuple a af:=let⟨N,a6,aO,Y,hd⟩:=D;⟨N,k a N _ _ a6 hd,aO,Y,hd⟩
theorem aC.g_{B aD:bo}(k:mf B aD){v d}(r:aC B v d):aC aD v d:=
 aC.rec (motive_1:=λv d _=>aC aD v d) (motive_2:=λaf ab _=>a3 aD af ab) .none .bool .int .str .bytes (λl _=>.list (k.plain l)) (λl _=>.tuple (k.sZ l)) .adr (λl _=>.cf (k.plain l)) (λl _=>.raw (k.isList l)) .ty .nil (λ_ _=>.cons) r
theorem a3.g_{B aD:bo}(k:mf B aD){af ab}(r:a3 B af ab):a3 aD af ab:=a3.ind .nil (λ_ _ _ _ a _=>.cons (a.g_ k)) r
structure cC (Z:List ah) (C s':aq):Prop where
 same:∃B bg,s'={C with heap:=B,toks:=bg}
 keep:∀b N,b∉Z->C.heap.get? b=some N->s'.heap.get? b=some N
theorem cC.refl(Z:List ah)(C:aq):cC Z C C:=⟨⟨C.heap,C.toks,rfl⟩,λ_ _ _ e=>e⟩
theorem cC.trans{Z:List ah}{C s' dz:aq}(a:cC Z C s')(b:cC Z s' dz):cC Z C dz:=by
 obtain⟨⟨h1,t1,rfl⟩,k1⟩:=a
 obtain⟨⟨aA,eE,rfl⟩,k2⟩:=b
 exact⟨⟨aA,eE,rfl⟩,λD N m e=>k2 D N m (k1 D N m e)⟩
theorem cC.more{Z nD:List ah}{C s':aq}(a:cC Z C s')(B:∀b∈Z,b∈nD):cC nD C s':=⟨a.same,λb N m e=>a.keep b N (λq=>m (B b q)) e⟩
theorem cC.of{Z:List ah}{C s':aq}(k:cS C s'):cC Z C s':=by
 refine jG k λaD bg di hk=>?_;clear k;subst di
 exact⟨⟨aD,bg,rfl⟩,λb N _ e=>hk b N e⟩
theorem cC.keeps{Z:List ah}{C s' av:aq}(a:cC Z C s')(k:cS av C)(a_:∀b∈Z,av.heap.get? b=none):cS av s':=by
 refine jG k λaQ k6 di k0=>?_;clear k;subst di
 obtain⟨⟨h1,t1,rfl⟩,k1⟩:=a
 refine⟨h1,t1,rfl,λb N e=>k1 b N (λm=>?_) (k0 b N e)⟩
 rw[a_ b m]at e
 cases e
theorem cC.hide{Z X:List ah}{C s':aq}(a:cC Z C s')(B:∀b∈Z,b∈X):dS (a0 X C) (a0 X s'):=λb N e=>by
 have a8:=fc X e
 have ak:b∉X:=λm=>by rw[fP X m]at e;cases e
 exact ei X (a.keep b N (λm=>ak (B b m)) a8) ak
inductive so (own:Bool) (b B:bo) (v:an) (d:ax):Prop
 |old:aC b v d->so own b B v d
 |tup {T af ab}:own=true->v= .ref T->d= .tuple ab->B.IsTuple T af->a3 b af.toList ab->so own b B v d
noncomputable def tn(e:a'):Bool:=rc e.ctorIdx 25
structure t5 (W:bj) (I:br) (b:bo) (ag:ah) (ht d1:List ah) (aR:List ax) (own:Bool) (fZ:Nat->bo->Prop):Prop where
 frame:∀L B aD,fZ L B->(∀a∈ht,∀N,B.get? a=some N->aD.get? a=some N)->fZ L aD
 ex:∀L B,fZ L B->∀a∈d1,∃N,B.get? a=some N
 sub:∀a∈d1,a∈ht
 next:∀L dd (C:aq)(ai:an->aq->Prop)(aj:an->aq->Prop) d,(own=true->tn dd=true)->aR[L]? =some d->fZ L C.heap->(∀v s',cC d1 C s'->fZ (L+1) s'.heap->so own b s'.heap v d->ai v s')->
  az W.M I (si (.ref ag)) (λr aG=>∃v,r=some v/\az W.M I (yb dd (.ref ag) v) (λ_ a5=>ai v a5) aj aG) aj C
 done:∀(C:aq)(ai:Option an->aq->Prop)(aj:an->aq->Prop),fZ aR.length C.heap->(∀s',cC d1 C s'->ai none s')->az W.M I (si (.ref ag)) ai aj C
 self:∀L (C:aq)(ai:an->aq->Prop)(aj:an->aq->Prop),fZ L C.heap->ai (.ref ag) C->az W.M I (yd (.ref ag)) ai aj C
structure lP (W:bj) (I:br) (X:List ah) (own:Bool) (d0:an) (aR:List ax) (C j6:aq):Prop where
 is:∃ag ht d1 fZ,d0= .ref ag/\t5 W I (dJ j6.heap (d1++X)) ag ht d1 aR own fZ/\fZ 0 j6.heap/\(∀a∈d1,C.heap.get? a=none)/\(∀a∈d1,∃N,j6.heap.get? a=some N/\∀aR Y,N.data≠ .seq aR Y)/\
  (∀a∈ht,a∈d1\/∃N aR Y,(dJ j6.heap X).get? a=some N/\N.data= .seq aR Y)
 keeps:cS C j6
structure lQ (W:bj) (I:br) (env:bB) (ae:bu) (own:Bool) (iter:a') (aR:List ax):Prop where
 on:∀X (C:aq),c0 X C->fQ W env ae (a0 X C)->∀(ai:an->aq->Prop)(aj:an->aq->Prop),(∀d0 s',lP W I X own d0 aR C s'->ai d0 s')->
  az W.M I (b1 iter env) (λD aG=>az W.M I (yd D) ai aj aG) aj C
section
variable{W:bj}{X:List ah}{I:br}{env:bB}{ae:bu}{C:aq}
theorem Dr{dd:a'}{ag:ah}{v:an}{T:String}{N:bJ}{ai:Unit->aq->Prop}{aj}(a6:C.heap.get? ag=some N)(aO:N.cls= .type T)(dI:["enumerate","zip","dict_itemiterator","dict_reverseitemiterator","odict_iterator","itertools.zip_longest","itertools.pairwise"].contains T=false)(B:ai () C):az W.M I (yb dd (.ref ag) v) ai aj C:=by
 have dP:∀a:ah,az W.M I (do
   let N<-load ag
   match N.cls,N.data with
   | .type Y,.fields af=>
    if ["enumerate","zip","dict_itemiterator","dict_reverseitemiterator","odict_iterator","itertools.zip_longest","itertools.pairwise"].contains Y&&af[0]? ==some (dG a)then
     Bv "for.unpacks-the-owned-tuple"
     updateField ag 0 .none
   |_,_=>pure ()) ai aj C:=by
  intro a
  refine aM (wpAny_load a6 ?_)
  refine H aO ?_
  cases hd:N.data<;>first |exact b6 B|(simp only[dI,Bool.false_and,fi,if_false];exact b6 B)
 have two:az W.M I (yb (.List [] ⟨0,0,0,0⟩) (.ref ag) v) ai aj C:=by cases v<;>first |exact dP _|exact b6 B
 cases dd<;>first |exact two|exact b6 B
theorem ab5{af:Array an}{ab:List ax}{l:ah}(bd:I.handled=none)(aK:c0 X C)(aN:(a0 X C).IsList l af)(aV:a3 (a0 X C) af.toList ab):lP W I X false (.ref C.heap.objs.size) ab C {C with heap:=C.heap.push {cls:=.type "list_iterator",data:=.fields #[.ref l,.int 0 0]}}:=by
 have mu:=cP.isList aN
 have cM:l<C.heap.objs.size:=by refine cm mu λN e _=>?_;clear mu;exact iL e
 have dp:af.size=ab.length:=by have:=aV.length;simp at this;exact aL [_,_] 32502981954 rfl this
 have kd:=Uw (prog:=W.prog) (w:=W.w) bd C.heap.objs.size l (hA cM) af
 have ev:C.heap.get? C.heap.objs.size=none:=iC (eF _)
 refine⟨⟨C.heap.objs.size,[C.heap.objs.size,l],[C.heap.objs.size],λL B=>B.IsListIter C.heap.objs.size l L/\B.IsList l af,rfl,?_,⟨⟨_,f_ _ rfl,rfl,rfl⟩,mu.push _⟩,?_,?_,?_⟩,ip C _⟩
 .refine⟨?_,?_,?_,?_,?_,?_⟩
  .exact kd.frame
  .intro L B st a ha
   simp at ha
   subst ha
   refine d8 st λhK _=>?_;clear st;obtain⟨N,e,_⟩:=hK
   exact⟨N,e⟩
  .exact kd.sub
  .intro L dd s' ai aj d _ hd st f8
   refine cm (aV.get hd) λv bA ez=>?_
   have CN:L<af.size:=by
    refine bH (kB.mp hd) λJ _=>?_
    exact bX [_,_,_] 133136778532161 rfl J dp
   with_reducible refine kd.item L s' _ _ CN st λn_ aD bg cL n9 hk=>⟨n_,rfl,?_⟩
   have Yn:n_=v:=by
    have:af.toList[L]? =some n_:=by simpa using cL
    rw[bA]at this
    exact(rh this).symm
   subst Yn
   refine iA n9.1 λN a6 aO b7=>?_
   refine Dr (T:="list_iterator") a6 aO (by decide) (f8 n_ _ ⟨⟨aD,bg,rfl⟩,hk⟩ n9 (.old (ez.g_ λb N aR Y e Na=>?_)))
   have a8:=fc X e
   have ak:b∉X:=λm=>by rw[fP X m]at e;cases e
   refine ei _ (eu _ a8) λm=>?_
   rcases fC.mp m with m|m
   .simp at m
    subst m
    rw[ev]at a8
    cases a8
   .exact ak m
  .intro s' ai aj st f8
   with_reducible refine kd.done s' ai aj (by refine H dp ?_;exact st) λaD bg hk=>?_
   exact f8 _ ⟨⟨aD,bg,rfl⟩,hk⟩
  .intro L s' ai aj st f8
   with_reducible exact kd.self L s' ai aj st f8
 .intro a ha
  simp at ha
  subst ha
  exact ev
 .intro a ha
  simp at ha
  subst ha
  exact⟨_,f_ _ rfl,λ_ _ q=>by cases q⟩
 .intro a ha
  simp at ha
  rcases ha with rfl|rfl
  .exact .inl (.head _)
  .refine pi aN λN e aO Y hd=>?_;clear aN
   exact .inr ⟨N,_,Y,Dn (dS.push _ _) _ _ e,hd⟩
theorem lP.before{own:Bool}{d0:an}{aR:List ax}{av C j6:aq}(k:cS av C)(B:lP W I X own d0 aR C j6):lP W I X own d0 aR av j6:=by
 obtain⟨⟨ag,ht,d1,fZ,a8,bm,e3,gf,pQ,y3⟩,k2⟩:=B
 refine⟨⟨ag,ht,d1,fZ,a8,bm,e3,λa m=>?_,pQ,y3⟩,b5 k k2⟩
 cases q:av.heap.get? a with
 |none=>rfl
 |some N=>
  have:=gf a m
  rw[ed k _ _ q]at this
  cases this
theorem kK{e:a'}{ab:List ax}(bd:I.handled=none)(B:aY W I env ae e (.list ab)):lQ W I env ae false e ab:=⟨λX C aK G ai aj q=>by
 with_reducible refine(B.on X C aK G).go _ _ λv aG k1 aT=>?_
 refine aC.gD aT λ_ _ l a=>?_
 with_reducible refine yi (cP.plain l).isList ?_
 exact q _ _ (lP.before k1 (ab5 (W:=W) bd (aK.mono k1) l.isList a))⟩
end
noncomputable abbrev jo:=ni pt
noncomputable def D'(ep:List a')(env:bB):ni Bool:=
 forIn ep true λV r=>if r=true then do let ok<-tQ V env (b1 V env);pure (Kk ok)else pure (Kk r)
noncomputable def D_(ep:List a')(kR:jo->jo)(env:bB)(nY:jo):jo:=D' ep env>>=λok=>if ok=true then kR nY else nY
noncomputable def vp(J:bp)(d0:an)(dd:a')(ep:List a')(kR:jo->jo)(env:bB)(nY:jo):jo:=
 sj J>>=λ_=>si d0>>=λr=>match r with
  |none=>pure (.done .next)
  |some v=>yb dd d0 v>>=λ_=>nl dd env v>>=λ_=>D_ ep kR env nY
noncomputable def y5(ea:an)(eb:a')(env:bB)(nY:jo):jo:=(b1 eb env>>=λD=>df (.builtin "list.append") [ea,D]>>=λ_=>pure ())>>=λ_=>nY
noncomputable def Dw(e:a')(iter:a')(ea:an)(env:bB)(nY:jo):jo:=
 b1 iter env>>=λD=>sj iter.pos>>=λ_=>pB iter env D>>=λD=>mO [D] (yd D)>>=λd0=>runOwn (.compStart e 1 d0 ea env) env>>=λ_=>nY
theorem agE(eb dd iter:a')(ep:List a')(bC:jn)(al:bp)(d0 ea:an)(env:bB):vT (.ListComp eb [⟨dd,iter,ep,0⟩] bC al) 0 d0 ea env=vp iter.pos d0 dd ep (y5 ea eb env) env (tL (.compLoop (.ListComp eb [⟨dd,iter,ep,0⟩] bC al) 0 d0 ea env)):=by rfl
theorem agF(eb dd iter kt h3:a')(ep ja:List a')(bC:jn)(al:bp)(d0 ea:an)(env:bB):vT (.ListComp eb [⟨dd,iter,ep,0⟩,⟨kt,h3,ja,0⟩] bC al) 0 d0 ea env=vp iter.pos d0 dd ep (Dw (.ListComp eb [⟨dd,iter,ep,0⟩,⟨kt,h3,ja,0⟩] bC al) h3 ea env) env (tL (.compLoop (.ListComp eb [⟨dd,iter,ep,0⟩,⟨kt,h3,ja,0⟩] bC al) 0 d0 ea env)):=by rfl
theorem agG(eb dd iter kt h3:a')(ep ja:List a')(bC:jn)(al:bp)(d0 ea:an)(env:bB):vT (.ListComp eb [⟨dd,iter,ep,0⟩,⟨kt,h3,ja,0⟩] bC al) 1 d0 ea env=vp h3.pos d0 kt ja (y5 ea eb env) env (tL (.compLoop (.ListComp eb [⟨dd,iter,ep,0⟩,⟨kt,h3,ja,0⟩] bC al) 1 d0 ea env)):=by rfl
structure yk (W:bj) (I:br) (bU:bB) (dd:a') (ep:List a') (kR:jo->jo) (own:Bool) (b:bo) (X:List ah) (aa:ah) (P:(ay->Option an)->Prop) (d:ax) (out:List ax):Prop where
 go:∀(C:aq)(v:an) m af bT (nY:jo)(ai:pt->aq->Prop)(aj:an->aq->Prop),c0 X C->dS b (a0 X C)->so own b C.heap v d->C.heap.Ns bU.locals m->P m->C.heap.PlainList aa af->a3 (a0 X C) af.toList bT->bT.length+out.length<=bc->
  (∀s' bS ee,cC [bU.locals,aa] C s'->s'.heap.Ns bU.locals bS->P bS->s'.heap.PlainList aa ee->a3 (a0 X s') ee.toList (bT++out)->az W.M I nY ai aj s')->
  az W.M I (nl dd bU v>>=λ_=>D_ ep kR bU nY) ai aj C
theorem c0.c2{Z X:List ah}{C s':aq}(B:c0 X C)(k:cC Z C s')(aH:∀a∈X,a∈Z->∃N,s'.heap.get? a=some N):c0 X s':=λa m=>by
 by_cases q:a∈Z
 .exact aH a m q
 .refine bH (B a m) λN e=>?_
  exact⟨N,k.keep a N q e⟩
theorem t_.there{B:bo}{a:ah}{af:Array an}(D:B.PlainList a af):∃N,B.get? a=some N:=let⟨Y,e⟩:=D;⟨_,e⟩
theorem Dm{b:bo}{Z X:List ah}{C s':aq}(ak:dS b (a0 X C))(k:cC Z C s')(aH:∀a∈Z,a∈X\/b.get? a=none):dS b (a0 X s'):=λa N e=>by
 have a8:=ak a N e
 have bm:=fc X a8
 have aS:a∉X:=λm=>by rw[fP X m]at a8;cases a8
 refine ei X (k.keep a N (λm=>?_) bm) aS
 rcases aH a m with q|q
 .exact aS q
 .rw[q]at e;cases e
theorem xm{Z X:List ah}{C s':aq}{af:List an}{ab:List ax}(r:a3 (a0 X C) af ab)(k:cC Z C s')(aH:∀a∈Z,a∈X\/∃m,C.heap.Ns a m):a3 (a0 X s') af ab:=by
 refine r.g_ λa N aR Y e hd=>?_
 have bm:=fc X e
 have aS:a∉X:=λm=>by rw[fP X m]at e;cases e
 refine ei X (k.keep a N (λm=>?_) bm) aS
 rcases aH a m with q|⟨bS,q⟩
 .exact aS q
 .refine oa q λb0 b9 f2 a6 b7 _=>?_;clear q
  rw[bm]at a6
  cases a6
  rw[hd]at b7
  cases b7
section
variable{W:bj}{I:br}{bU:bB}
theorem M0{e:a'}{k:Nat}{ag aa:ah}{J:bp}{dd:a'}{ep:List a'}{kR:jo->jo}{own:Bool}{b:bo}{ht d1 X:List ah}{aR:List ax}{fZ:Nat->bo->Prop}{P:(ay->Option an)->Prop}{C:aq}{R:pw->aq->Prop}(ao:ax->List ax)(wW:vT e k (.ref ag) (.ref aa) bU=vp J (.ref ag) dd ep kR bU (tL (.compLoop e k (.ref ag) (.ref aa) bU)))(de:(xY e k (.ref ag) (.ref aa) bU).isFrame=false)(zO:I.under (.compLoop e k (.ref ag) (.ref aa) bU)=I)(CY:(xY e k (.ref ag) (.ref aa) bU).quiet=true)(nV:t5 W I b ag ht d1 aR own fZ)(qN:own=true->tn dd=true)(cn:aa∉ht)(gx:bU.locals∉ht)(kf:aa≠bU.locals)(Im:∀a∈d1,a∈X)(gW:aa∈X)(G5:bU.locals∉X)(nG:b.get? bU.locals=none)(body:∀d∈aR,yk W I bU dd ep kR own b X aa P d (ao d)){m:ay->Option an}{af:Array an}{bT:List ax}(aK:c0 X C)(ak:dS b (a0 X C))(bV:fZ 0 C.heap)(a_:C.heap.Ns bU.locals m)(cL:P m)(kg:C.heap.PlainList aa af)(wX:a3 (a0 X C) af.toList bT)(aH:bT.length+(aR.flatMap ao).length<=bc)(i':∀s' bS ee,cC (bU.locals::aa::d1) C s'->s'.heap.Ns bU.locals bS->P bS->s'.heap.PlainList aa ee->a3 (a0 X s') ee.toList (bT++aR.flatMap ao)->R (.ok .next) s'):lb W.M I (.compLoop e k (.ref ag) (.ref aa) bU) R C:=by
 have fg:∀q∈[bU.locals,aa],q∈bU.locals::aa::d1:=by intro q ba;simp at ba ⊢;rcases ba with B|B<;>simp[B]
 have Pn:∀q∈d1,q∈bU.locals::aa::d1:=λq ba=>by simp[ba]
 have ze:bU.locals∉d1:=λB=>gx (nV.sub _ B)
 have Cs:aa∉d1:=λB=>cn (nV.sub _ B)
 refine codeAny_loop CY (λY s'=>∃L bS ee,L<=aR.length/\Y=aR.length+1 - L/\cC (bU.locals::aa::d1) C s'/\c0 X s'/\dS b (a0 X s')/\fZ L s'.heap/\s'.heap.Ns bU.locals bS/\P bS/\s'.heap.PlainList aa ee/\
  a3 (a0 X s') ee.toList (bT++(aR.take L).flatMap ao)) ?_ (aR.length+1) ⟨0,m,af,eL _,rfl,cC.refl _ _,aK,ak,bV,a_,cL,kg,by simpa using wX⟩
 rintro Y s' ⟨L,bS,ee,aU,rfl,c2,lq,nI,C1,pW,oF,Ol,Pq⟩
 refine H zO ?_
 show az _ _ (Fv nn (.compLoop e k (.ref ag) (.ref aa) bU)) _ _ _
 have HB:Fv nn (.compLoop e k (.ref ag) (.ref aa) bU)=(vT e k (.ref ag) (.ref aa) bU).onRaise (λD=>do yc D bU;theTreesLotGoes D):=by
  show(if(xY e k (.ref ag) (.ref aa) bU).isFrame=true then _ else _)=_
  refine H de ?_
  rfl
 refine H HB ?_;refine H wW ?_
 with_reducible refine wpAny_noted ?_
 unfold vp
 with_reducible refine aM (tY (aM ?_))
 by_cases cM:L<aR.length
 .have hd:aR[L]? =some aR[L]:=hT cM
  have kk:aR[L]∈aR:=xM cM
  have CF:(aR.take (L+1)).flatMap ao=(aR.take L).flatMap ao++ao aR[L]:=by
   refine H (A7 cM) ?_;refine H SV ?_
   simp
  have bW:(bT++(aR.take L).flatMap ao).length+(ao aR[L]).length<=bc:=by
   have a8:((aR.take (L+1)).flatMap ao).length<=(aR.flatMap ao).length:=by
    conv=>rhs;rw[<-List.take_append_drop (L+1) aR,SV,gJ]
    exact qq _ _
   rw[CF,gJ]at a8
   refine H gJ ?_
   exact bX [_,_,_,_] 13336140494350592160326980081241391725101056 rfl aH a8
  refine fe (nV.next L dd s' (λv a5=>cC d1 s' a5/\fZ (L+1) a5.heap/\so own b a5.heap v aR[L]) _ _ qN hd C1 λv a5 k2 D7 kS=>⟨k2,D7,kS⟩) (λr aG aE=>?_) λ_ _ e=>e
  obtain⟨v,rfl,aE⟩:=aE
  dsimp only
  refine aM (fe aE (λ_ a5 aA=>?_) λ_ _ e=>e)
  refine fb aA λk2 D7 kS=>?_;clear aA
  have mw:a5.heap.Ns bU.locals bS:=pW.at' λN e=>k2.keep _ _ ze e
  have sG:a5.heap.PlainList aa ee:=Ol.at λN e=>k2.keep _ _ Cs e
  have nH:c0 X a5:=lq.c2 k2 λa _ q=>nV.ex _ _ D7 a q
  have ls:dS b (a0 X a5):=Dm nI k2 λa q=>.inl (Im a q)
  have wY:=xm Pq k2 λa q=>.inl (Im a q)
  refine(body _ kk).go a5 v bS ee _ _ _ _ nH ls kS mw oF sG wY bW λbv IV ag7 dr fu eM fJ e0=>b6 ⟨rfl,aR.length+1 - (L+1),by exact bX [_,_,_,_] 3104976468395159691905380456080705 rfl (k_ (aL [_,_] 10471996207412614144 rfl aU)) (qi _ _),L+1,IV,ag7,cM,rfl,?_,?_,?_,?_,fu,eM,fJ,?_⟩
  .exact c2.trans ((k2.more Pn).trans (dr.more fg))
  .refine nH.c2 dr λa ha q=>?_
   simp at q
   rcases q with rfl|rfl
   .exact absurd ha G5
   .exact t_.there fJ
  .refine Dm ls dr λa q=>?_
   simp at q
   rcases q with rfl|rfl
   .exact .inr nG
   .exact .inl gW
  .refine nV.frame _ _ _ D7 λa ha N e=>dr.keep a N (λq=>?_) e
   simp at q
   rcases q with rfl|rfl
   .exact gx ha
   .exact cn ha
  .refine H CF ?_;refine b' (k8 _ _ _) ?_
   exact e0
 .have qJ:L=aR.length:=by exact bX [_,_] 42934916800054594 rfl aU (fv.mp cM)
  refine nV.done s' _ _ (qJ▸C1) λa5 k2=>?_
  dsimp only
  refine b6 (i' a5 bS ee (c2.trans (k2.more Pn)) (pW.at' λN e=>k2.keep _ _ ze e) oF (Ol.at λN e=>k2.keep _ _ Cs e) ?_)
  have:=xm Pq k2 λa q=>.inl (Im a q)
  rwa[qJ,EI]at this
end
noncomputable def ov(b:bo)(ae:bu)(m:ay->Option an):Prop:=∀D d,ae.lookup D=some d->∃v,m D=some v/\aC b v d
theorem ov.nil{b:bo}{m:ay->Option an}:ov b [] m:=λ_ _ e=>nomatch e
theorem ov.mono{b mX:bo}{ae:bu}{m:ay->Option an}(B:ov b ae m)(k:dS b mX):ov mX ae m:=λD d e=>let⟨v,bA,r⟩:=B D d e;⟨v,bA,r.mono k⟩
structure nv (b:bo) (ae:bu) (kU m:ay->Option an):Prop where
 same:∀D d,ae.lookup D=some d->m D=kU D
 are:ov b ae kU
theorem nv.nil{b:bo}{kU m:ay->Option an}:nv b [] kU m:=⟨(λ_ _ e=>nomatch e),ov.nil⟩
theorem nv.names{b:bo}{ae:bu}{kU m:ay->Option an}(B:nv b ae kU m):ov b ae m:=λD d e=>by
 refine H (B.same D d e) ?_
 exact B.are D d e
structure sm (W:bj) (I:br) (bU:bB) (own:Bool) (dd:a') (d:ax) (i0:bu):Prop where
 go:∀b (C:aq) v m (ai:Unit->aq->Prop)(aj:an->aq->Prop),so own b C.heap v d->dS b C.heap->C.heap.Ns bU.locals m->
  (∀s' bS,cC [bU.locals] C s'->s'.heap.Ns bU.locals bS->ov b i0 bS->(∀am,i0.lookup am=none->bS am=m am)->ai () s')->az W.M I (nl dd bU v) ai aj C
structure rt (W:bj) (I:br) (env:bB) (ae:bu) (ep:List a') (ok:Bool):Prop where
 on:∀X (C:aq),c0 X C->fQ W env ae (a0 X C)->Mu W I (D' ep env) ok C
structure tZ (W:bj) (bU:bB) (b:bo) (X:List ah) (vv eo:bu):Prop where
 bs:eg W b
 kind:bU.scope.kind= .function
 globals:bU.globals=dh
 builtins:bU.builtins=vS
 B':bU.locals∉X
 loc:∀D d,vv.lookup D=some d->bU.kindOf D=some .local/\(D==("__debug__":ay))=false
 free:∀D d,eo.lookup D=some d->(D==("__debug__":ay))=false/\∃v,aC b v d/\qv bU D v b
theorem z_(a b:bu)(D:ay):(a++b).lookup D=(a.lookup D).or (b.lookup D):=by
 induction a with
 |nil=>simp
 |cons J r bf=>
  obtain⟨am,d⟩:=J
  simp only[Ey,c1]
  cases (D==am)<;>simp[bf]
section
variable{W:bj}{I:br}{bU:bB}{b:bo}{X:List ah}{C:aq}{vv eo i0 j8:bu}
theorem tZ.env(f6:tZ W bU b X vv eo)(k:dS b (a0 X C)){m:ay->Option an}(Y:C.heap.Ns bU.locals m)(c9:ov b vv m):fQ W bU (vv++eo) (a0 X C):=by
 refine⟨f6.bs.mono k,f6.kind,f6.globals,f6.builtins,λD d e=>?_⟩
 rw[z_]at e
 cases h1:vv.lookup D with
 |some bO=>
  rw[h1]at e
  cases e
  refine cm (c9 D _ h1) λv bA r=>?_
  refine n' Y λN b9 f2 a6 aJ=>?_;clear Y
  exact⟨(f6.loc D _ h1).2,v,r.mono k,.loc (f6.loc D _ h1).1 ⟨N,b9,f2,ei X a6 f6.B',aJ⟩ bA⟩
 |none=>
  rw[h1]at e
  refine jl (f6.free D d e) λq v r yP=>?_
  exact⟨q,v,r.mono k,yP.mono k⟩
theorem xc(hk:bU.scope.kind= .function):(bU.scope.kind== .class ||(bU.scope.kind== .module &&bU.locals !=bU.globals))=false:=by
 refine H hk ?_
 simp
theorem BQ{env:bB}{ae:bu}:rt W I env ae [] true:=⟨λX C _ _=>⟨λai aj q=>by
 unfold D'
 with_reducible exact wpAny_tests_nil (q C (gb C))⟩⟩
theorem Mk{env:bB}{ae:bu}{V:a'}{ok:Bool}(B:ej W I env ae V ok):rt W I env ae [V] ok:=⟨λX C aK G=>⟨λai aj q=>by
 unfold D'
 with_reducible exact wpAny_tests_one ((B.on X C aK G).go _ _ q)⟩⟩
theorem ry{ao:an->ni Unit}{gg:List (an->ni Unit)}{v:an}{af:List an}{ai:Unit->aq->Prop}{aj:an->aq->Prop}(B:az W.M I (ao v) (λ_ s'=>az W.M I (tM gg af) ai aj s') aj C):az W.M I (tM (ao::gg) (v::af)) ai aj C:=by
 show az _ _ (mO af (ao v)>>=λ_=>tM gg af) _ _ _
 with_reducible exact aM (ib B)
theorem BY{ai:Unit->aq->Prop}{aj:an->aq->Prop}(B:ai () C):az W.M I (tM [] []) ai aj C:=b6 B
theorem BB{D:ay}{bK:bp}{d:ax}(aS:bU.kindOf D=some .local)(hk:bU.scope.kind= .function):sm W I bU false (.Name D bK) d [(D,d)]:=⟨λb C v m ai aj kS c2 Y q=>by
 cases kS with
 |tup B=>cases B
 |old r=>
  with_reducible refine om (yj aS Y (λaD iK ec=>?_) (xc hk))
  refine q _ _ ⟨⟨aD,C.toks+1,rfl⟩,λa N m e=>ec.extBut a N (λau=>m (au▸ .head _)) e⟩ iK (λam bO e=>?_) λam e=>if_neg (Ds e).1
  rcases lk e with⟨rfl,rfl⟩|⟨_,e⟩
  .exact⟨v,if_pos rfl,r⟩
  .exact nomatch e⟩
theorem so.two{own:Bool}{B:bo}{v:an}{cQ dU:ax}(kS:so own b B v (.tuple [cQ,dU]))(c2:dS b B):∃T bx bE,v= .ref T/\B.IsTuple T #[bx,bE]/\aC b bx cQ/\aC b bE dU:=by
 cases kS with
 |old r=>
  obtain⟨_,_,_,rfl,l,r⟩:=r.QA
  exact⟨_,_,_,rfl,c2.sZ l,r⟩
 |tup B a8 bm e3 gf=>
  cases bm
  refine jG gf.MB λ_ _ di r=>?_;subst di
  exact⟨_,_,_,a8,e3,r⟩
theorem Vd{own:Bool}{D am:ay}{bK py J:bp}{aB:Nat}{cQ dU:ax}(bd:I.handled=none)(aS:bU.kindOf D=some .local)(bZ:bU.kindOf am=some .local)(hk:bU.scope.kind= .function)(C6:D≠am):sm W I bU own (.Tuple [.Name D bK,.Name am py] aB J) (.tuple [cQ,dU]) [(am,dU),(D,cQ)]:=⟨λb C v m ai aj kS c2 Y q=>by
 refine n' (kS.two c2) λT bx bE mx aE=>?_;refine fb aE λcp aT bb=>?_;clear aE;subst mx
 with_reducible refine FE bd cp rfl rfl λh1 sJ=>?_
 show az _ _ (tM [nl (.Name D bK) bU,nl (.Name am py) bU] [bx,bE]) _ _ _
 refine ry (om (yj aS (Y.extBut sJ (hA Y.lt)) (λaA dD m4=>?_) (xc hk)))
 refine ry (om (yj bZ dD (λbn fu sW=>?_) (xc hk)))
 refine BY (q _ _ ⟨⟨bn,_,rfl⟩,λa N gr e=>?_⟩ fu (λau bO e=>?_) λau e=>?_)
 .have cx:a≠bU.locals:=λJ'=>gr (J'▸ .head _)
  exact sW.extBut a N cx (m4.extBut a N cx (sJ a N (hA (iL e)) e))
 .rcases lk e with⟨rfl,rfl⟩|⟨aH,e⟩
  .exact⟨bE,if_pos rfl,bb⟩
  .rcases lk e with⟨rfl,rfl⟩|⟨_,e⟩
   .exact⟨bx,(if_neg aH).trans (if_pos rfl),aT⟩
   .exact nomatch e
 .exact(if_neg (Ds e).1).trans (if_neg (Ds (Ds e).2).1)⟩
theorem LR{kU:ay->Option an}{own:Bool}{dd eb:a'}{ep:List a'}{aa:ah}{d ke:ax}{ok:Bool}(f6:tZ W bU b X (i0++j8) eo)(sv:sm W I bU own dd d i0)(pS:∀D d,j8.lookup D=some d->i0.lookup D=none)(tb:rt W I bU ((i0++j8)++eo) ep ok)(qc:ok=true->aY W I bU ((i0++j8)++eo) eb ke)(gW:aa∈X)(kf:aa≠bU.locals)(nG:b.get? bU.locals=none):yk W I bU dd ep (y5 (.ref aa) eb bU) own b X aa (nv b j8 kU) d (if ok=true then [ke]else []):=⟨λC v m af bT nY ai aj aK ak kS Y cL kg wX bW q=>by
 with_reducible refine aM (sv.go b C v m _ _ kS (ak.trans cP) Y λaG gM k1 et w_ J6=>?_)
 have rN:c0 X aG:=aK.c2 k1 λa ha au=>by simp at au;subst au;exact absurd ha f6.B'
 have nJ:dS b (a0 X aG):=Dm ak k1 λa au=>by simp at au;subst au;exact .inr nG
 have wF:nv b j8 kU gM:=⟨λD d e=>by refine H (J6 D (pS D d e)) ?_;exact cL.same D d e,cL.are⟩
 have xb:ov b (i0++j8) gM:=λD d e=>by
  rw[z_]at e
  cases B:i0.lookup D with
  |some bO=>rw[B]at e;cases e;exact w_ D _ B
  |none=>rw[B]at e;exact wF.names D d e
 have Ht:aG.heap.PlainList aa af:=kg.at λN e=>k1.keep _ _ (by simpa using kf) e
 have Iq:a3 (a0 X aG) af.toList bT:=xm wX k1 λa au=>by simp at au;subst au;exact .inr ⟨m,Y⟩
 unfold D_
 with_reducible refine aM ((tb.on X aG rN (f6.env nJ et xb)).go _ _ λa5 k2=>?_)
 have nH:=rN.mono k2
 have ls:dS b (a0 X a5):=nJ.trans (cg k2)
 have dD:=et.keeps (h':=a5.heap) (ed k2)
 have sG:a5.heap.PlainList aa af:=Ht.at λN e=>ed k2 _ _ e
 have wY:=Iq.mono (cg k2)
 have Df:cC [bU.locals,aa] C a5:=(k1.more (by simp)).trans (cC.of k2)
 cases ok with
 |false=>
  simp only[fi,if_false]
  refine q a5 gM af Df dD wF sG (by simpa using wY)
 |true=>
  simp only[if_true]
  unfold y5
  with_reducible refine aM (aM (((qc rfl).on X a5 nH (f6.env ls dD xb)).go _ _ λph bv dr e0=>?_))
  have Hu:bv.heap.PlainList aa af:=sG.at λN e=>ed dr _ _ e
  have aN:af.size<=bc:=by
   have:=wX.length
   simp at this
   exact bX [_,_,_] 794766220319626196119768938143838528 rfl this bW
  with_reducible refine aM (U6 Hu (λcK aaE zK=>?_) (jD aN))
  with_reducible refine b6 ?_
  have fF:cC [aa] bv {bv with heap:=cK}:=⟨⟨cK,bv.toks,rfl⟩,λa N gr e=>zK.extBut a N (by simpa using gr) e⟩
  have fu:=dD.keeps (h':=bv.heap) (ed dr)
  refine q _ gM (af.push ph) ?_ (fu.sameBut zK (iB kf)) wF aaE ?_
  .exact Df.trans ((cC.of dr).trans (fF.more (by simp)))
  .have fq:a3 (a0 X {bv with heap:=cK}) af.toList bT:=xm (wY.mono (cg dr)) fF λa au=>by simp at au;subst au;exact .inl gW
   have fs:a3 (a0 X {bv with heap:=cK}) [ph] [ke]:=xm (.cons e0 .nil) fF λa au=>by simp at au;subst au;exact .inl gW
   refine H Et ?_
   simpa using a3.append fs fq⟩
end
section
variable{W:bj}{I:br}{bU:bB}{b:bo}{X:List ah}{C:aq}{vv eo i0 j8:bu}
theorem MY{e:a'}{k:Nat}{ag:ah}{ea:an}{env:bB}{g:K8}{R:pw->aq->Prop}(fL:(Ls e)[k]? =some g)(ha:g.is_async=0)(de:(K7 e k (.ref ag) ea env).isFrame=false)(zO:I.under (.compStart e k (.ref ag) ea env)=I)(ba:(xY e k (.ref ag) ea env).quiet=true)(abb:∀(ai:an->aq->Prop)(aj:an->aq->Prop),ai (.ref ag) C->az W.M I (yd (.ref ag)) ai aj C)(B:lb W.M I (.compLoop e k (.ref ag) ea env) R C):lb W.M I (.compStart e k (.ref ag) ea env) R C:=by
 refine UD ?_
 refine H zO ?_
 have HB:Fv nn (.compStart e k (.ref ag) ea env)=(compStart e k (.ref ag) ea env).onRaise (λD=>do yc D env;sj theWindowsPlace):=by
  show(if(K7 e k (.ref ag) ea env).isFrame=true then _ else _)=_
  refine H de ?_
  rfl
 show az _ _ (Fv nn (.compStart e k (.ref ag) ea env)) _ _ _
 refine H HB ?_
 with_reducible refine wpAny_notedAt ?_
 unfold compStart
 simp only[fL,xR,ha,bne_self_eq_false,fi,if_false]
 refine aM (wpAny_askSetting (sk ?_))
 split
 .exact b6 (Sq ba B)
 .refine aM (oo ?_)
  refine aM (tY ?_)
  exact aM (abb _ _ (b6 (Sq ba B)))
theorem OI{B:bo}{mh X:List ah}:dS (dJ B (mh++X)) (dJ B X):=λa N e=>by
 have a8:=fc _ e
 refine ei X a8 λm=>?_
 rw[fP _ (jI _ m)]at e
 cases e
theorem IJ{b B:bo}{d1 X:List ah}(k:dS b (dJ B X))(e5:∀a∈d1,b.get? a=none):dS b (dJ B (d1++X)):=λa N e=>by
 have a8:=k a N e
 refine ei _ (fc _ a8) λm=>?_
 rcases fC.mp m with m|m
 .rw[e5 a m]at e;cases e
 .rw[fP _ m]at a8;cases a8
theorem t5.rebase{b mX:bo}{ag:ah}{ht d1:List ah}{aR:List ax}{own:Bool}{fZ:Nat->bo->Prop}(B:t5 W I b ag ht d1 aR own fZ)(ko:mf b mX):t5 W I mX ag ht d1 aR own fZ where
 frame:=B.frame
 ex:=B.ex
 sub:=B.sub
 next:=λL dd C ai aj d a6 hd st q=>B.next L dd C ai aj d a6 hd st λv s' k n9 kS=>q v s' k n9 (by
  cases kS with
  |old r=>exact .old (r.g_ ko)
  |tup a b V d e=>exact .tup a b V d (e.g_ ko))
 done:=B.done
 self:=B.self
theorem Ve{kU:ay->Option an}{eb dd iter kt h3:a'}{ep ja:List a'}{bC:jn}{al:bp}{own r5:Bool}{aa:ah}{d:ax}{aR:List ax}{gP:ax->bu}{ok:ax->Bool}{ke:ax->ax}(f6:tZ W bU b X (i0++j8) eo)(sv:sm W I bU own dd d i0)(pS:∀D d,j8.lookup D=some d->i0.lookup D=none)(tb:rt W I bU ((i0++j8)++eo) ep true)(kq:lQ W I bU ((i0++j8)++eo) r5 h3 aR)(a9:∀D,pB h3 bU D=pure D)(H1:r5=true->tn kt=true)(F_:∀bO∈aR,sm W I bU r5 kt bO (gP bO))(HT:∀bO∈aR,∀D e,(gP bO).lookup D=some e->bU.kindOf D=some .local/\(D==("__debug__":ay))=false)(Z9:∀bO∈aR,∀D e,(i0++j8).lookup D=some e->(gP bO).lookup D=none)(xj:∀bO∈aR,rt W I bU ((gP bO++(i0++j8))++eo) ja (ok bO))(xh:∀bO∈aR,ok bO=true->aY W I bU ((gP bO++(i0++j8))++eo) eb (ke bO))(gW:aa∈X)(kf:aa≠bU.locals)(nG:b.get? bU.locals=none):yk W I bU dd ep (Dw (.ListComp eb [⟨dd,iter,ep,0⟩,⟨kt,h3,ja,0⟩] bC al) h3 (.ref aa) bU) own b X aa (nv b j8 kU) d (aR.flatMap λbO=>if ok bO=true then [ke bO]else []):=⟨λC v m af bT nY ai aj aK ak kS Y cL kg wX bW q=>by
 with_reducible refine aM (sv.go b C v m _ _ kS (ak.trans cP) Y λaG gM k1 et w_ J6=>?_)
 have rN:c0 X aG:=aK.c2 k1 λa ha au=>by simp at au;subst au;exact absurd ha f6.B'
 have nJ:dS b (a0 X aG):=Dm ak k1 λa au=>by simp at au;subst au;exact .inr nG
 have wF:nv b j8 kU gM:=⟨λD d e=>by refine H (J6 D (pS D d e)) ?_;exact cL.same D d e,cL.are⟩
 have xb:ov b (i0++j8) gM:=λD d e=>by
  rw[z_]at e
  cases B:i0.lookup D with
  |some bO=>rw[B]at e;cases e;exact w_ D _ B
  |none=>rw[B]at e;exact wF.names D d e
 have Ht:aG.heap.PlainList aa af:=kg.at λN e=>k1.keep _ _ (by simpa using kf) e
 have Iq:a3 (a0 X aG) af.toList bT:=xm wX k1 λa au=>by simp at au;subst au;exact .inr ⟨m,Y⟩
 unfold D_
 with_reducible refine aM ((tb.on X aG rN (f6.env nJ et xb)).go _ _ λa5 k2=>?_)
 have nH:=rN.mono k2
 have ls:dS b (a0 X a5):=nJ.trans (cg k2)
 have dD:=et.keeps (h':=a5.heap) (ed k2)
 have sG:a5.heap.PlainList aa af:=Ht.at λN e=>ed k2 _ _ e
 have wY:=Iq.mono (cg k2)
 have Df:cC [bU.locals,aa] C a5:=(k1.more (by simp)).trans (cC.of k2)
 simp only[if_true]
 unfold Dw
 refine aM (fe (kq.on X a5 nH (f6.env ls dD xb) (λd0 bv=>lP W I X r5 d0 aR a5 bv) _ λ_ _ B=>B) (λD ajG aS=>?_) λ_ _ e=>e)
 refine aM (tY (aM (g4 (a9 D) (aM (ib (fe aS (λd0 bv gh=>?_) λ_ _ e=>e))))))
 obtain⟨⟨ag,ht,d1,fZ,rfl,nV,bV,oK,zP,CG⟩,dr⟩:=gh
 have Cy:=nH.mono dr
 have fu:=dD.keeps (h':=bv.heap) (ed dr)
 have Hu:bv.heap.PlainList aa af:=sG.at λN e=>ed dr _ _ e
 have aby:∀a∈d1,b.get? a=none:=λa ha=>by
  cases B:b.get? a with
  |none=>rfl
  |some N=>
   have a8:=cP _ _ (ls a N B)
   rw[oK a ha]at a8
   cases a8
 have ZW:dS b (dJ bv.heap (d1++X)):=IJ (ls.trans (cg dr)) aby
 have ze:bU.locals∉d1:=λB=>by
  refine n' dD λN _ _ e _=>?_;clear dD
  rw[oK _ B]at e
  cases e
 have Cs:aa∉d1:=λB=>by
  refine bH sG λN e=>?_;clear sG
  rw[oK _ B]at e
  cases e
 have Zj:bU.locals∉ht:=λB=>by
  rcases CG _ B with B|⟨N,J9,lz,e,hd⟩
  .exact ze B
  .refine oa fu λb0 _ _ dB b7 _=>?_;clear fu
   rw[fc _ e]at dB
   cases dB
   rw[hd]at b7
   cases b7
 have Zk:aa∉ht:=λB=>by
  rcases CG _ B with B|⟨N,J9,lz,e,hd⟩
  .exact Cs B
  .rw[fP _ gW]at e
   cases e
 have zd:bU.locals∉d1++X:=λB=>(fC.mp B).elim ze f6.B'
 have ZJ:c0 (d1++X) bv:=λa ha=>(fC.mp ha).elim (λB=>let⟨N,e,_⟩:=zP a B;⟨N,e⟩) λB=>Cy a B
 have abC:a3 (a0 (d1++X) bv) af.toList bT:=(wY.mono (cg dr)).g_ λa N J9 lz e hd=>by
  refine ei _ (fc _ e) λgr=>?_
  rcases fC.mp gr with gr|gr
  .refine cm (zP a gr) λb0 dB zD=>?_
   rw[fc _ e]at dB
   cases dB
   exact zD _ _ hd
  .rw[fP _ gr]at e;cases e
 have ko:mf (dJ bv.heap (d1++X)) (dJ bv.heap ([bU.locals]++(d1++X))):=λa N J9 lz e hd=>by
  refine ei _ (fc _ e) λgr=>?_
  rcases fC.mp gr with gr|gr
  .simp at gr
   subst gr
   refine oa fu λb0 _ _ dB b7 _=>?_;clear fu
   rw[fc _ e]at dB
   cases dB
   rw[hd]at b7
   cases b7
  .rw[fP _ gr]at e;cases e
 have ab7:=nV.rebase ko
 have CB:dS b (dJ bv.heap ([bU.locals]++(d1++X))):=IJ ZW λa ha=>by simp at ha;subst ha;exact nG
 have NV:(dJ bv.heap ([bU.locals]++(d1++X))).get? bU.locals=none:=fP _ (by simp)
 have wH:∀bO∈aR,tZ W bU (dJ bv.heap ([bU.locals]++(d1++X))) (d1++X) (gP bO++(i0++j8)) eo:=λbO b7=>
  ⟨f6.bs.mono CB,f6.kind,f6.globals,f6.builtins,zd,λD e B=>by
   rw[z_]at B
   cases h1:(gP bO).lookup D with
   |some dB=>exact HT bO b7 D dB h1
   |none=>rw[h1]at B;exact f6.loc D e B,λD e B=>let⟨q,v,r,yP⟩:=f6.free D e B;⟨q,v,r.mono CB,yP.mono CB⟩⟩
 refine aM (wpAny_runOwn ?_)
 show lb W.M I _ _ _
 refine MY (g:=⟨kt,h3,ja,0⟩) rfl rfl rfl (by rfl) rfl (λai aj ba=>nV.self 0 bv ai aj bV ba) ?_
 refine M0 (P:=nv (dJ bv.heap ([bU.locals]++(d1++X))) (i0++j8) gM) (λbO=>if ok bO=true then [ke bO]else []) (agG ..) rfl (by rfl) rfl ab7 H1 Zk Zj kf (λa B=>k9 _ B) (jI _ gW) zd NV
  (λbO b7=>LR (wH bO b7) (F_ bO b7) (Z9 bO b7) (xj bO b7) (xh bO b7) (jI _ gW) kf NV) ZJ OI bV fu ⟨λ_ _ _=>rfl,xb.mono CB⟩ Hu abC bW λc3 acX ag8 fF hM eP uc gN=>?_
 refine q c3 acX ag8 ?_ hM ⟨λD e B=>?_,cL.are⟩ uc (gN.mono OI)
 .refine Df.trans ⟨?_,λa N gr e=>?_⟩
  .refine jG dr λbn t3 e3 _=>?_;clear dr
   refine jF fF.same λcK aga gf=>?_
   exact⟨cK,aga,by refine H gf ?_;refine H e3 ?_;rfl⟩
  .refine fF.keep a N (λau=>?_) (ed dr a N e)
   rcases dw.mp au with au|au
   .exact gr (by simp[au])
   .rcases dw.mp au with au|au
    .exact gr (by simp[au])
    .rw[oK a au]at e;cases e
 .refine H (eP.same D e (by rw[z_,pS D e B];exact B)) ?_
  exact wF.same D e B⟩
end
structure ff (bC:jn) (dg:List (ay×ah)) (env:bB) (ae eo:bu):Prop where
 on:∀D d,eo.lookup D=some d->ae.lookup D=some d/\∀aX v B,qv env D v B->qv (fD bC dg aX env) D v B
theorem ff.nil{bC:jn}{dg:List (ay×ah)}{env:bB}{ae:bu}:ff bC dg env ae []:=⟨λ_ _ e=>nomatch e⟩
theorem ff.cons{bC:jn}{dg:List (ay×ah)}{env:bB}{ae eo:bu}{D:ay}{d:ax}(r:ff bC dg env ae eo)(h1:ae.lookup D=some d)(aA:env.kindOf D=some .cell)(bn:(LD bC env).names.lookup D=some .cell)(cK:dg.lookup D=env.cells.lookup D):ff bC dg env ae ((D,d)::eo):=⟨λam e B=>by
 rw[c1]at B
 cases bZ:am==D with
 |false=>rw[bZ]at B;exact r.on am e B
 |true=>
  rw[bZ]at B
  cases B
  have:=eq_of_beq bZ
  subst this
  refine⟨h1,λaX v cE b=>?_⟩
  cases b with
  |loc a _ _=>rw[aA]at a;cases a
  |cell a V L=>exact .cell bn (by show dg.lookup am=_;refine H cK ?_;exact V) L
  |free a _ _ _=>rw[aA]at a;cases a⟩
section
variable{W:bj}{I:br}{env:bB}{ae:bu}{X:List ah}{C:aq}
theorem MW{bC:jn}(aN:bC.names.all (λam=>am.2 != .local ||bC.names.lookup am.1==some .local)=true):∀D∈bC.names,D.2= .local->bC.names.lookup D.1=some .local:=λD aS hk=>by
 have:=kA.mp aN D aS
 simpa[hk]using this
theorem adh{bC:jn}(aN:bC.names.all (λam=>am.2 != .cell)=true):∀D∈bC.names,D.2≠ .cell:=λD aS=>by
 have:=kA.mp aN D aS
 simpa using this
theorem M5{e:a'}{bC:jn}{dg:List (ay×ah)}{dd iter:a'}{ep:List a'}{kR:ah->bB->jo->jo}{own:Bool}{aR:List ax}{ao:ax->List ax}{eo:bu}{gP:ax->bu}{J:bp}{iz:aq}{d0:an}{fo:an->ah->pw->aq->Prop}{aj:an->aq->Prop}{aJ:List K8}(g6:bC.kind= .function)(iJ:bC.names.all (λam=>am.2 != .cell)=true)(Hw:Ls e=⟨dd,iter,ep,0⟩::aJ)(wW:∀ag aa bU,vT e 0 (.ref ag) (.ref aa) bU=vp J (.ref ag) dd ep (kR aa bU) bU (tL (.compLoop e 0 (.ref ag) (.ref aa) bU)))(aal:∀ag aa bU,(K7 e 0 (.ref ag) (.ref aa) bU).isFrame=false)(abt:∀ag aa bU,I.under (.compStart e 0 (.ref ag) (.ref aa) bU)=I)(de:∀ag aa bU,(xY e 0 (.ref ag) (.ref aa) bU).isFrame=false)(zO:∀ag aa bU,I.under (.compLoop e 0 (.ref ag) (.ref aa) bU)=I)(CY:∀ag aa bU,(xY e 0 (.ref ag) (.ref aa) bU).quiet=true)(aK:c0 X C)(G:fQ W env ae (a0 X C))(gh:lP W I X own d0 aR C iz)(qN:own=true->tn dd=true)(lu:ff bC dg env ae eo)(nL:∀d∈aR,∀aX D e,(gP d).lookup D=some e->(fD bC dg aX env).kindOf D=some .local/\(D==("__debug__":ay))=false)(body:∀d∈aR,∀aa aX b X' kU,tZ W (fD bC dg aX env) b X' (gP d++[]) eo->aa∈X'->aa≠aX->b.get? aX=none->yk W I (fD bC dg aX env) dd ep (kR aa (fD bC dg aX env)) own b X' aa (nv b [] kU) d (ao d))(aH:(aR.flatMap ao).length<=bc)(Zy:∀aa aX s' af bS,C.heap.get? aa=none->C.heap.get? aX=none->aa≠aX->cS C s'->s'.heap.Ns aX bS->s'.heap.PlainList aa af->aa∉X->a3 (dJ s'.heap (aa::X)) af.toList (aR.flatMap ao)->fo (.ref aa) aX (.ok .next) s'):az W.M I (Bt []) (λea RV=>az W.M I (newFunctionEnv bC env.globals dg [] env.qual none .none (some env)) (λbU af'=>lb W.M I (.compStart e 0 d0 ea {bU with scope:=LD bC env}) (fo ea bU.locals) af') aj RV) aj iz:=by
 obtain⟨⟨ag,ht,d1,fZ,rfl,nV,bV,oK,zP,CG⟩,k2⟩:=gh
 refine tX (wpAny_newFunctionEnv (adh iJ) (by intro am bZ;simp at bZ) (λiX zE wR=>?_) g6)
 dsimp only at zE wR ⊢
 generalize G7:iz.heap.push {cls:=.type "list",dict:=none,data:=.seq ([]:List an).toArray}=LW at zE wR ⊢
 generalize zg:iz.heap.objs.size=aa at zE wR ⊢
 have gx:LW.objs.size=aa+1:=by refine b' G7 ?_;refine H (nh _ _) ?_;refine H zg ?_;rfl
 generalize ajg:LW.objs.size=aX at zE wR gx ⊢
 have kf:aa≠aX:=by refine H gx ?_;exact hA (kF _)
 have cM:∀b N,iz.heap.get? b=some N->b≠aX/\b≠aa:=λb N e=>by
  have h1:b<aa:=zg▸iL e
  have aA:b<aX:=by refine H gx ?_;exact kE h1
  exact⟨hA aA,hA h1⟩
 have old:∀b N,iz.heap.get? b=some N->iX.get? b=some N:=λb N e=>
  wR.extBut b N (cM b N e).1 (eu _ (G7▸eu _ e))
 have kg:iX.PlainList aa #[]:=⟨0,wR.extBut _ _ kf (eu _ (G7▸zg▸f_ _ rfl))⟩
 have HW:iz.heap.get? aa=none:=iC (j9 zg)
 have CR:iz.heap.get? aX=none:=iC (by refine H zg ?_;refine H gx ?_;exact pq _)
 have B4:∀a,iz.heap.get? a=none->C.heap.get? a=none:=λa B=>by
  cases q:C.heap.get? a with
  |none=>rfl
  |some N=>rw[ed k2 _ _ q]at B;cases B
 have nH:=aK.mono k2
 have gW:aa∉X:=λB=>by refine bH (nH _ B) λN e=>?_;rw[HW]at e;cases e
 have G5:aX∉X:=λB=>by refine bH (nH _ B) λN e=>?_;rw[CR]at e;cases e
 have Pm:∀a∈d1,a≠aa/\a≠aX:=λa B=>by
  refine cm (zP a B) λN e _=>?_
  exact⟨(cM a N e).2,(cM a N e).1⟩
 have OG:∀a∈ht,a≠aa/\a≠aX:=λa B=>by
  rcases CG a B with B|⟨N,_,_,e,_⟩
  .exact Pm a B
  .exact⟨(cM a N (fc _ e)).2,(cM a N (fc _ e)).1⟩
 have RI:fZ 0 iX:=nV.frame _ _ _ bV λa _ N e=>old a N e
 have Z1:dS (dJ iz.heap (d1++X)) (dJ iX (aa::(d1++X))):=λa N e=>by
  have a8:=fc _ e
  refine ei _ (old a N a8) λm=>?_
  rcases dw.mp m with m|m
  .exact(cM a N a8).2 m
  .rw[fP _ m]at e;cases e
 have zd:aX∉aa::(d1++X):=λm=>by
  rcases dw.mp m with m|m
  .exact kf m.symm
  .rcases fC.mp m with m|m
   .exact(Pm _ m).2 rfl
   .exact G5 m
 have qM:c0 (aa::(d1++X)) {iz with heap:=iX,toks:=iz.toks+([]:List (ay×an)).length}:=λa m=>by
  refine d2 m ?_ λm=>?_
  .exact t_.there kg
  .rcases fC.mp m with m|m
   .refine cm (zP a m) λN e _=>?_;exact⟨N,old _ _ e⟩
   .refine bH (nH a m) λN e=>?_;exact⟨N,old _ _ e⟩
 have H9:dS (a0 X C) (dJ iz.heap (d1++X)):=IJ (cg k2) λa m=>by
  cases q:(a0 X C).get? a with
  |none=>rfl
  |some N=>have:=fc _ q;rw[oK a m]at this;cases this
 have nG:(dJ iz.heap (d1++X)).get? aX=none:=by
  cases q:(dJ iz.heap (d1++X)).get? aX with
  |none=>rfl
  |some N=>have:=fc _ q;rw[CR]at this;cases this
 show lb W.M I (.compStart e 0 (.ref ag) (.ref aa) (fD bC dg aX env)) (fo (.ref aa) aX) {iz with heap:=iX,toks:=iz.toks+([]:List (ay×an)).length}
 have aaJ:(Ls e)[0]? =some ⟨dd,iter,ep,0⟩:=by refine H Hw ?_;rfl
 refine MY aaJ rfl (aal ..) (abt ..) (CY ..) (λai aj ba=>nV.self 0 _ ai aj RI ba) ?_
 refine M0 (m:=λ_=>none) (bT:=[]) (P:=nv (dJ iz.heap (d1++X)) [] (λ_=>none)) ao (wW ..) (de ..) (zO ..) (CY ..) nV qN (λB=>(OG _ B).1 rfl) (λB=>(OG _ B).2 rfl) kf (λa B=>gQ _ (k9 _ B)) (.head _) zd nG
  (λd hd=>body d hd aa aX _ _ _ ⟨G.base.mono H9,?_,G.globals,G.builtins,zd,λD e B=>?_,λD e B=>?_⟩ (.head _) kf nG) qM Z1 RI zE nv.nil kg (by simpa using a3.nil) (by simpa using aH) λs' bS ee jb iK _ ci dM=>?_
 .show(LD bC env).kind= .function
  exact g6
 .exact nL d hd aX D e (by simpa using B)
 .refine d8 (lu.on D e B) λh1 aA=>?_
  refine jl (G.vars D e h1) λq v r yP=>?_
  exact⟨q,v,r.mono H9,aA aX v _ (yP.mono H9)⟩
 .refine Zy aa aX s' ee bS (B4 aa HW) (B4 aX CR) kf ?_ iK ci gW ?_
  .have er:cS iz {iz with heap:=iX,toks:=iz.toks+([]:List (ay×an)).length}:=⟨iX,_,rfl,old⟩
   refine jb.keeps (b5 k2 er) λa m=>?_
   refine d2 m ?_ λm=>?_
   .exact B4 _ CR
   .refine d2 m ?_ λm=>?_
    .exact B4 _ HW
    .exact oK a m
  .refine a3.mono (λa N e=>?_) (by simpa using dM)
   have a8:=fc _ e
   refine ei _ a8 λm=>?_
   have:a∈aa::(d1++X):=by
    refine d2 m ?_ λm=>?_
    .exact .head _
    .exact .tail _ (jI _ m)
   rw[fP _ this]at e
   cases e
end
structure li (W:bj) (I:br) (env:bB) (ae:bu) (e:a') (d:ax):Prop where
 on:∀X (C:aq),c0 X C->fQ W env ae (a0 X C)->∀(use:an->ni Unit)(ai:Unit->aq->Prop)(aj:an->aq->Prop),
  (∀v s' aX,cS C s'->aC (a0 X s') v d->C.heap.get? aX=none->(∃m,s'.heap.Ns aX m)->az W.M I (use v) (λ_ dz=>(∃m,dz.heap.Ns aX m)/\∀aD,mJ aX dz.heap aD->ai () {dz with heap:=aD}) aj s')->
  az W.M I (evalThenUse e env use) ai aj C
section
variable{W:bj}{I:br}{env:bB}{ae:bu}{X:List ah}{C:aq}
theorem Rb{s':aq}{aa:ah}{af:Array an}{out:List ax}(ha:s'.heap.PlainList aa af)(cn:aa∉X)(r:a3 (dJ s'.heap (aa::X)) af.toList out):aC (a0 X s') (.ref aa) (.list out):=by
 refine bH ha λY e=>?_;clear ha
 refine .list ⟨Y,ei X e cn⟩ (r.mono λa N q=>?_)
 have a8:=fc _ q
 refine ei _ a8 λm=>?_
 rw[fP _ (gQ _ m)]at q
 cases q
theorem aC.sameBut{B aD:bo}{X:List ah}{aX:ah}{m:ay->Option an}{v:an}{d:ax}(r:aC (dJ B X) v d)(Y:B.Ns aX m)(a9:mJ aX B aD):aC (dJ aD X) v d:=by
 refine r.g_ λa N aR k e hd=>?_
 have a8:=fc _ e
 refine ei _ ((a9.2 a λau=>?_).trans a8) λm=>?_
 .subst au
  refine oa Y λb0 b9 f2 a6 b7 _=>?_;clear Y
  rw[a8]at a6
  cases a6
  rw[hd]at b7
  cases b7
 .rw[fP _ m]at e
  cases e
theorem Keeps.sameBut{C s':aq}{aX:ah}{aD:bo}(k:cS C s')(a_:C.heap.get? aX=none)(a9:mJ aX s'.heap aD):cS C {s' with heap:=aD}:=by
 refine jG k λh1 t1 di k1=>?_;clear k;subst di
 refine⟨aD,t1,rfl,λb N e=>(a9.2 b λau=>?_).trans (k1 b N e)⟩
 subst au
 rw[a_]at e
 cases e
theorem M4{eb:a'}{za aJ:List K8}{al:bp}{bC:jn}{dg:List (ay×ah)}{dd iter:a'}{ep:List a'}{kR:ah->bB->jo->jo}{own:Bool}{aR:List ax}{ao:ax->List ax}{eo:bu}{gP:ax->bu}{J:bp}(aam:za=⟨dd,iter,ep,0⟩::aJ)(jS:rl bC env=pure dg)(a9:∀D,pB iter env D=pure D)(g6:bC.kind= .function)(iJ:bC.names.all (λam=>am.2 != .cell)=true)(m3:bC.names.all (λam=>am.2 != .local ||bC.names.lookup am.1==some .local)=true)(wW:∀ag aa bU,vT (.ListComp eb za bC al) 0 (.ref ag) (.ref aa) bU=vp J (.ref ag) dd ep (kR aa bU) bU (tL (.compLoop (.ListComp eb za bC al) 0 (.ref ag) (.ref aa) bU)))(kq:lQ W I env ae own iter aR)(qN:own=true->tn dd=true)(lu:ff bC dg env ae eo)(nL:∀d∈aR,∀aX D e,(gP d).lookup D=some e->(fD bC dg aX env).kindOf D=some .local/\(D==("__debug__":ay))=false)(body:∀d∈aR,∀aa aX b X' kU,tZ W (fD bC dg aX env) b X' (gP d++[]) eo->aa∈X'->aa≠aX->b.get? aX=none->yk W I (fD bC dg aX env) dd ep (kR aa (fD bC dg aX env)) own b X' aa (nv b [] kU) d (ao d))(aH:(aR.flatMap ao).length<=bc):aY W I env ae (.ListComp eb za bC al) (.list (aR.flatMap ao))/\li W I env ae (.ListComp eb za bC al) (.list (aR.flatMap ao)):=by
 subst aam
 refine⟨⟨λX C aK G=>⟨λai aj q=>?_⟩⟩,⟨λX C aK G use ai aj q=>?_⟩⟩
 .refine H (eval_ListComp _ _ _ _) ?_
  refine U1 (use:=none) rfl a9 jS g6 (MW m3) (fe (kq.on X C aK G (λd0 a5=>lP W I X own d0 aR C a5) _ λ_ _ B=>B) (λD aG h1=>fe h1 (λd0 a5 gh=>?_) λ_ _ e=>e) λ_ _ e=>e)
  refine M5 (fo:=λea aX=>compPost W.M I aj none ai ea aX) g6 iJ rfl wW (λ_ _ _=>rfl) (λ_ _ _=>rfl) (λ_ _ _=>rfl) (λ_ _ _=>rfl) (λ_ _ _=>rfl) aK G gh qN lu nL body aH λaa aX s' af bS cn gx kf k Y ha gW r=>?_
  refine⟨bS,Y,λaD ec=>q _ _ (Keeps.sameBut k gx ec) (aC.sameBut (Rb ha gW r) Y ec)⟩
 .show az _ _ (comprehension _ bC env (firstIterPos _ al) (Bt []) (firstAsync _) (firstIter _ env) (some use)>>=λ_=>pure ()) _ _ _
  refine aM (U1 (use:=some use) rfl a9 jS g6 (MW m3) (fe (kq.on X C aK G (λd0 a5=>lP W I X own d0 aR C a5) _ λ_ _ B=>B) (λD aG h1=>fe h1 (λd0 a5 gh=>?_) λ_ _ e=>e) λ_ _ e=>e))
  refine M5 (fo:=λea aX=>compPost W.M I aj (some use) (λ_ s'=>az W.M I (pure ()) ai aj s') ea aX) g6 iJ rfl wW (λ_ _ _=>rfl) (λ_ _ _=>rfl) (λ_ _ _=>rfl) (λ_ _ _=>rfl) (λ_ _ _=>rfl) aK G gh qN lu nL body aH λaa aX s' af bS cn gx kf k Y ha gW r=>?_
  refine fe (q _ s' aX k (Rb ha gW r) gx ⟨bS,Y⟩) (λ_ dz B=>?_) λ_ _ e=>e
  refine d8 B λhK aA=>?_;clear B;obtain⟨kW,dD⟩:=hK
  exact⟨kW,dD,λaD ec=>b6 (aA aD ec)⟩
theorem Gn{eb dd iter:a'}{ep:List a'}{al:bp}{bC:jn}{own:Bool}{aR:List ax}(dg:List (ay×ah))(eo:bu)(gP:ax->bu)(ok:ax->Bool)(ke:ax->ax)(kq:lQ W I env ae own iter aR)(lu:ff bC dg env ae eo)(sv:∀d∈aR,∀aX,sm W I (fD bC dg aX env) own dd d (gP d))(tb:∀d∈aR,∀aX,rt W I (fD bC dg aX env) (gP d++eo) ep (ok d))(qc:∀d∈aR,∀aX,ok d=true->aY W I (fD bC dg aX env) (gP d++eo) eb (ke d))(nL:∀d∈aR,∀aX D e,(gP d).lookup D=some e->(fD bC dg aX env).kindOf D=some .local/\(D==("__debug__":ay))=false)(aH:aR.length<=bc)(qN:own=true->tn dd=true)(jS:autoParam (rl bC env=pure dg) tR)(a9:autoParam (∀D,pB iter env D=pure D) tI)(g6:autoParam (bC.kind= .function) tR)(iJ:autoParam (bC.names.all (λam=>am.2 != .cell)=true) tR)(m3:autoParam (bC.names.all (λam=>am.2 != .local ||bC.names.lookup am.1==some .local)=true) tR):aY W I env ae (.ListComp eb [⟨dd,iter,ep,0⟩] bC al) (.list (aR.flatMap λd=>if ok d=true then [ke d]else []))/\li W I env ae (.ListComp eb [⟨dd,iter,ep,0⟩] bC al) (.list (aR.flatMap λd=>if ok d=true then [ke d]else [])):=by
 refine M4 (kR:=λaa bU=>y5 (.ref aa) eb bU) (gP:=gP) rfl jS a9 g6 iJ m3 (λ_ _ _=>agE ..) kq qN lu nL (λd hd aa aX b X' kU f6 gW kf nG=>?_) ?_
 .refine LR f6 (sv d hd aX) (λ_ _ e=>nomatch e) ?_ (λB=>?_) gW kf nG
  .simpa using tb d hd aX
  .simpa using qc d hd aX B
 .refine cu ?_ aH
  clear aH kq sv tb qc nL
  induction aR with
  |nil=>simp
  |cons D aR bf=>
   refine H tz ?_;refine H gJ ?_;refine H i3 ?_
   have:(if ok D=true then [ke D]else []).length<=1:=by split <;>simp
   exact bX [_,_,_] 722933669663269785195520 rfl this bf
theorem Nu{ao:ax->ax}(aR:List ax):(aR.flatMap λd=>if true=true then [ao d]else [])=aR.map ao:=by
 induction aR with
 |nil=>rfl
 |cons D aR bf=>refine H tz ?_;refine H bf ?_;rfl
theorem XD{eb dd iter kt h3:a'}{ep ja:List a'}{al:bp}{bC:jn}{own r5:Bool}{aR:List ax}(dg:List (ay×ah))(eo:bu)(gP:ax->bu)(bT:ax->List ax)(xF:ax->ax->bu)(ok:ax->ax->Bool)(ke:ax->ax->ax)(kq:lQ W I env ae own iter aR)(lu:ff bC dg env ae eo)(sv:∀d∈aR,∀aX,sm W I (fD bC dg aX env) own dd d (gP d))(tb:∀d∈aR,∀aX,rt W I (fD bC dg aX env) (gP d++eo) ep true)(DN:∀d∈aR,∀aX,lQ W I (fD bC dg aX env) (gP d++eo) r5 h3 (bT d))(F_:∀d∈aR,∀bO∈bT d,∀aX,sm W I (fD bC dg aX env) r5 kt bO (xF d bO))(xj:∀d∈aR,∀bO∈bT d,∀aX,rt W I (fD bC dg aX env) ((xF d bO++gP d)++eo) ja (ok d bO))(xh:∀d∈aR,∀bO∈bT d,∀aX,ok d bO=true->aY W I (fD bC dg aX env) ((xF d bO++gP d)++eo) eb (ke d bO))(pS:∀d∈aR,∀bO∈bT d,∀D e,(gP d).lookup D=some e->(xF d bO).lookup D=none)(nL:∀d∈aR,∀aX D e,(gP d).lookup D=some e->(fD bC dg aX env).kindOf D=some .local/\(D==("__debug__":ay))=false)(HT:∀d∈aR,∀bO∈bT d,∀aX D e,(xF d bO).lookup D=some e->(fD bC dg aX env).kindOf D=some .local/\(D==("__debug__":ay))=false)(aH:(aR.flatMap λd=>(bT d).flatMap λbO=>if ok d bO=true then [ke d bO]else []).length<=bc)(qN:own=true->tn dd=true)(H1:r5=true->tn kt=true)(ec:∀aX D,pB h3 (fD bC dg aX env) D=pure D:=by intro _ _;rfl)(jS:autoParam (rl bC env=pure dg) tR)(a9:autoParam (∀D,pB iter env D=pure D) tI)(g6:autoParam (bC.kind= .function) tR)(iJ:autoParam (bC.names.all (λam=>am.2 != .cell)=true) tR)(m3:autoParam (bC.names.all (λam=>am.2 != .local ||bC.names.lookup am.1==some .local)=true) tR):aY W I env ae (.ListComp eb [⟨dd,iter,ep,0⟩,⟨kt,h3,ja,0⟩] bC al) (.list (aR.flatMap λd=>(bT d).flatMap λbO=>if ok d bO=true then [ke d bO]else []))/\li W I env ae (.ListComp eb [⟨dd,iter,ep,0⟩,⟨kt,h3,ja,0⟩] bC al) (.list (aR.flatMap λd=>(bT d).flatMap λbO=>if ok d bO=true then [ke d bO]else [])):=by
 refine M4 (kR:=λaa bU=>Dw (.ListComp eb [⟨dd,iter,ep,0⟩,⟨kt,h3,ja,0⟩] bC al) h3 (.ref aa) bU) (gP:=gP) rfl jS a9 g6 iJ m3 (λ_ _ _=>agF ..) kq qN lu nL (λd hd aa aX b X' kU f6 gW kf nG=>?_) aH
 refine Ve (gP:=xF d) (ok:=ok d) (ke:=ke d) f6 (sv d hd aX) (λ_ _ e=>nomatch e) ?_ ?_ (ec aX) H1 (λbO aD=>F_ d hd bO aD aX) (λbO aD=>HT d hd bO aD aX) (λbO aD D e B=>?_) (λbO aD=>?_) (λbO aD B=>?_) gW kf nG
 .simpa using tb d hd aX
 .simpa using DN d hd aX
 .exact pS d hd bO aD D e (by simpa using B)
 .simpa using xj d hd bO aD aX
 .simpa using xh d hd bO aD aX B
end
section
variable{W:bj}{I:br}{X:List ah}{C:aq}
theorem enter{ao:ah}{e4:bJ}{fd:pu}{body:List cT}{args:List an}{hG:List (ay×an)}{ai:an->aq->Prop}{aj:an->aq->Prop}(bQ:eg W C.heap)(a6:(cZ W.w).lookup ao=some e4)(pT:e4.data= .func fd)(nK:fd.body= .stmts body)(sH:fd.closure=[])(sI:Fs (cZ W.w) fd.code fd.qualname=true)(bk:I.depth<d3)(zn:Lr fd ⟨args,[]⟩=pure hG)(HQ:(hG.all λam=>fd.scope.names.lookup am.1==some .local ||fd.scope.names.lookup am.1==some .cell)=true)(Hx:fd.scope.isCoroutine=false)(HJ:fd.scope.isGenerator=false)(hk:fd.scope.kind= .function)(B:∀s',Fa C C.heap.objs.size (x9 (λD=>fd.scope.names.lookup D) hG λ_=>none) (rk (C.heap.objs.size+1) fd.scope.names []) (x8 (λD=>fd.scope.names.lookup D) hG λ_=>none) s'->az W.M (I.deeper (callEnvC fd C.heap.objs.size ao)) (bY body (callEnvC fd C.heap.objs.size ao)) (λgU dz=>ai (match gU with | .ret v=>v|_=>.none) dz) (λe dz=>az W.M (I.deeper (callEnvC fd C.heap.objs.size ao)) (Bs (callEnvC fd C.heap.objs.size ao) e) (λ_ bv=>aj e bv) aj dz) s'):az W.M I (df (.ref ao) args) ai aj C:=by
 with_reducible refine LM ?_
 have ak:=Uv bQ.K sI
 refine UB bk (bQ.K _ _ a6) pT Hx HJ nK ak ?_
 refine H zn ?_;refine H sH ?_
 with_reducible refine b6 ?_
 refine U7 hk (kindsX HQ _) λYh bw s' D=>?_
 subst bw
 refine⟨bQ.nolimit.keeps D.toInCall.keep,UC ?_⟩
 exact B s' D
end
structure kb (env:bB) (av C:aq):Prop where
 keeps:cS av C
 new:av.heap.get? env.locals=none
 jA:∀Y V,(Y,V)∈env.cells->av.heap.get? V=none
 ns:∃m,C.heap.Ns env.locals m
 cell:∀Y V,env.cells.lookup Y=some V->∃v,C.heap.IsCell V v
 apart:env.cells.Pairwise λD am=>D.2≠am.2
structure pH (W:bj) (I:br) (env:bB) (ae:bu) (body:List cT) (d:ax):Prop where
 on:∀X (av C:aq),c0 X av->eg W (a0 X av)->kb env av C->fQ W env ae (a0 X C)->∀(ai:fj->aq->Prop)(aj:an->aq->Prop),
  (∀v s',cS av s'->aC (a0 X s') v d->ai (.ret v) s')->az W.M I (bY body env) ai aj C
section
variable{W:bj}{I:br}{env:bB}{ae:bu}{X:List ah}{C av:aq}
theorem kb.step(N:kb env av C){s':aq}(k:cS C s'):kb env av s':=
 ⟨b5 N.keeps k,N.new,N.jA,let⟨m,Y⟩:=N.ns;⟨m,Y.keeps (ed k)⟩,λY V e=>let⟨v,L⟩:=N.cell Y V e;⟨v,L.keeps (ed k)⟩,N.apart⟩
theorem mT{e:a'}{al:bp}{aJ:List cT}{d:ax}(B:aY W I env ae e d):pH W I env ae (.Return (some e) al::aJ) d:=⟨λX av C aK bQ N G ai aj q=>by
 with_reducible refine eH (tV ((B.on X C (aK.mono N.keeps) G).go _ _ λv s' k r=>?_))
 exact q v s' (b5 N.keeps k) r⟩
theorem ru{V:a'}{body aJ:List cT}{al:bp}{b:Bool}{d:ax}(aO:ej W I env ae V b)(h1:b=true->pH W I env ae body d)(aA:b=false->pH W I env ae aJ d):pH W I env ae (.If V body [] al::aJ) d:=⟨λX av C aK bQ N G ai aj q=>by
 with_reducible refine eH (yf ((aO.on X C (aK.mono N.keeps) G).go _ _ λaG k1=>?_))
 cases ak:b
 .simp only[fi,if_false]
  with_reducible refine dq ?_
  exact(aA ak).on X av aG aK bQ (N.step k1) (G.mono (cg k1)) ai aj q
 .simp only[if_true]
  exact(h1 ak).on X av aG aK bQ (N.step k1) (G.mono (cg k1)) _ aj q⟩
theorem DA{B:bo}{a:ah}{m bS:ay->Option an}(Y:B.Ns a m)(iK:B.Ns a bS):m=bS:=by
 refine n' Y λN b9 f2 a6 aE=>?_;clear Y;refine fb aE λhd _ aI=>?_;clear aE
 refine n' iK λb0 Ni ai_ nN aE=>?_;clear iK;refine fb aE λb7 _ aaK=>?_;clear aE
 rw[a6]at nN
 cases nN
 rw[hd]at b7
 cases b7
 funext D
 refine b' (aI D) ?_;refine b' (aaK D) ?_;rfl
theorem m'{B:bo}{a:ah}{m:ay->Option an}{X:List ah}(Y:B.Ns a m)(ha:a∉X):(dJ B X).Ns a m:=let⟨N,b9,f2,a6,r⟩:=Y;⟨N,b9,f2,ei X a6 ha,r⟩
theorem pO{B:bo}{a:ah}{v:Option an}{X:List ah}(Y:B.IsCell a v)(ha:a∉X):(dJ B X).IsCell a v:=let⟨N,a6,r⟩:=Y;⟨N,ei X a6 ha,r⟩
theorem je(aK:c0 X av){a:ah}(a_:av.heap.get? a=none):a∉X:=λm=>by
 refine bH (aK a m) λN e=>?_
 rw[a_]at e
 cases e
theorem vd{B aD:bo}{a:ah}{v:an}{d:ax}(r:aC (dJ B X) v d)(a9:mJ a B aD)(zD:∀N aR Y,B.get? a=some N->N.data≠ .seq aR Y):aC (dJ aD X) v d:=by
 refine r.g_ λb N aR k e hd=>?_
 have a8:=fc _ e
 refine ei _ ((a9.2 b λau=>?_).trans a8) λm=>?_
 .subst au
  exact zD N aR k a8 hd
 .rw[fP _ m]at e
  cases e
theorem u_{B:bo}{a:ah}{m:ay->Option an}(Y:B.Ns a m):∀N aR k,B.get? a=some N->N.data≠ .seq aR k:=λN aR k e hd=>by
 refine oa Y λb0 b9 f2 a6 b7 _=>?_;clear Y
 rw[e]at a6
 cases a6
 rw[hd]at b7
 cases b7
theorem MU{B:bo}{a:ah}{v:Option an}(Y:B.IsCell a v):∀N aR k,B.get? a=some N->N.data≠ .seq aR k:=λN aR k e hd=>by
 refine cm Y λb0 a6 b7=>?_;clear Y
 rw[e]at a6
 cases a6
 rw[hd]at b7
 cases b7
theorem qC{B:bo}{a V:ah}{m:ay->Option an}{v:Option an}(Y:B.Ns a m)(L:B.IsCell V v):V≠a:=λau=>by
 subst au
 refine oa Y λb0 b9 f2 a6 b7 _=>?_;clear Y
 refine cm L λN e hd=>?_;clear L
 rw[e]at a6
 cases a6
 rw[hd]at b7
 cases b7
theorem Dg{a:ah}{aD:bo}{bg:Nat}(k:cS av C)(a_:av.heap.get? a=none)(a9:mJ a C.heap aD):cS av {C with heap:=aD,toks:=bg}:=by
 refine jG k λh1 t1 di k1=>?_;clear k;subst di
 refine⟨aD,bg,rfl,λb N e=>(a9.2 b λau=>?_).trans (k1 b N e)⟩
 subst au
 rw[a_]at e
 cases e
set_option tactic.hygienic true in
theorem DI{D:ay}{v:an}{d:ax}{ai:Unit->aq->Prop}{aj:an->aq->Prop}(aS:env.kindOf D=some .local)(aK:c0 X av)(bQ:eg W (a0 X av))(N:kb env av C)(G:fQ W env ae (a0 X C))(r:aC (a0 X C) v d)(hd:(D==("__debug__":ay))=false)(q:∀s',kb env av s'->fQ W env ((D,d)::ae) (a0 X s')->(∃aD bg,s'={C with heap:=aD,toks:=bg}/\mJ env.locals C.heap aD)->ai () s'):az W.M I (FC env D v) ai aj C:=by
 refine bH N.ns λm Y=>?_
 have OO:=je aK N.new
 with_reducible refine yj aS Y (λaD iK ec=>?_) (xc G.kind)
 have er:cS av {C with heap:=aD,toks:=C.toks+1}:=Dg N.keeps N.new ec
 refine q _ ⟨er,N.new,N.jA,⟨_,iK⟩,λam V e=>?_,N.apart⟩ ⟨bQ.mono (cg er),G.kind,G.globals,G.builtins,λam rF e=>?_⟩ ⟨aD,_,rfl,ec⟩
 .refine bH (N.cell am V e) λw L=>?_
  exact⟨w,L.sameBut ec (qC Y L)⟩
 .rw[c1]at e
  cases bZ:am==D with
  |true=>
   rw[bZ]at e
   cases e
   have:=(eq_of_beq bZ).symm
   subst this
   exact⟨hd,v,vd r ec (u_ Y),.loc aS (m' iK OO) (by simp)⟩
  |false=>
   rw[bZ]at e
   have cx:am≠D:=λau=>by subst au;simp at bZ
   refine jl (G.vars am rF e) λq1 sa r9 rz=>?_
   refine⟨q1,sa,vd r9 ec (u_ Y),?_⟩
   cases rz with
   |loc a lz V=>
    rename_i gM
    have aI:gM=m:=DA (lz.keeps cP) Y
    subst aI
    exact .loc a (m' iK OO) (by simp[cx,V])
   |cell a V L=>
    have jW:=L.keeps (h':=C.heap) cP
    exact .cell a V (pO (jW.sameBut ec (qC Y jW)) (je aK (N.jA _ _ (mem_of_lookup V))))
   |free a V L au=>
    have jW:=L.keeps (h':=C.heap) cP
    exact .free a V (pO (jW.sameBut ec (qC Y jW)) (je aK (N.jA _ _ (mem_of_lookup V)))) au
set_option tactic.hygienic true in
theorem QJ{D:ay}{v:an}{d:ax}{V:ah}{ai:Unit->aq->Prop}{aj:an->aq->Prop}(aS:env.kindOf D=some .cell)(aO:env.cells.lookup D=some V)(aK:c0 X av)(bQ:eg W (a0 X av))(N:kb env av C)(G:fQ W env ae (a0 X C))(r:aC (a0 X C) v d)(hd:(D==("__debug__":ay))=false)(q:∀s',kb env av s'->fQ W env ((D,d)::ae) (a0 X s')->ai () s'):az W.M I (FC env D v) ai aj C:=by
 refine bH N.ns λm Y=>?_
 refine bH (N.cell D V aO) λAR C8=>?_
 have Ov:=N.jA _ _ (mem_of_lookup aO)
 have Z4:=je aK Ov
 with_reducible refine wpAny_storeName_cell G.kind aS aO C8 λaD jW ec=>?_
 have er:cS av {C with heap:=aD}:=Dg N.keeps Ov ec
 have iK:=Y.sameBut ec (iB (qC Y C8))
 refine q _ ⟨er,N.new,N.jA,⟨_,iK⟩,λam fx e=>?_,N.apart⟩ ⟨bQ.mono (cg er),G.kind,G.globals,G.builtins,λam rF e=>?_⟩
 .by_cases wH:fx=V
  .subst wH;exact⟨_,jW⟩
  .refine bH (N.cell am fx e) λw L=>?_
   exact⟨w,L.sameBut ec wH⟩
 .rw[c1]at e
  cases bZ:am==D with
  |true=>
   rw[bZ]at e
   cases e
   have:=(eq_of_beq bZ).symm
   subst this
   exact⟨hd,v,vd r ec (MU C8),.cell aS aO (pO jW Z4)⟩
  |false=>
   rw[bZ]at e
   have cx:am≠D:=λau=>by subst au;simp at bZ
   refine jl (G.vars am rF e) λq1 sa r9 rz=>?_
   refine⟨q1,sa,vd r9 ec (MU C8),?_⟩
   have QB:∀fx,env.cells.lookup am=some fx->fx≠V:=λfx B au=>by
    subst au
    exact cx (name_of_addr N.apart (mem_of_lookup B) (mem_of_lookup aO))
   cases rz with
   |loc a lz f6=>
    rename_i gM
    have aI:gM=m:=DA (lz.keeps cP) Y
    subst aI
    exact .loc a (m' iK (je aK N.new)) f6
   |cell a f6 L=>
    have ch:=L.keeps (h':=C.heap) cP
    exact .cell a f6 (pO (ch.sameBut ec (QB _ f6)) (je aK (N.jA _ _ (mem_of_lookup f6))))
   |free a f6 L au=>
    have ch:=L.keeps (h':=C.heap) cP
    exact .free a f6 (pO (ch.sameBut ec (QB _ f6)) (je aK (N.jA _ _ (mem_of_lookup f6)))) au
theorem yC{D:ay}{bK al:bp}{e:a'}{aJ:List cT}{cQ d:ax}(bw:aY W I env ae e cQ)(aE:pH W I env ((D,cQ)::ae) aJ d)(aS:autoParam (env.kindOf D=some .local) tR)(hd:autoParam ((D==("__debug__":ay))=false) tD)(a9:autoParam (iE e (some (.Name D bK)) al.line env=pure false) tR):pH W I env ae (.Assign [.Name D bK] e al::aJ) d:=⟨λX av C aK bQ N G ai aj q=>by
 with_reducible refine eH (lN ((bw.on X C (aK.mono N.keeps) G).go _ _ λv aG k1 aT=>?_) a9)
 exact DI aS aK bQ (N.step k1) (G.mono (cg k1)) aT hd λa5 gj md _=>aE.on X av a5 aK bQ gj md ai aj q⟩
theorem F1{D:ay}{bK al:bp}{e:a'}{aJ:List cT}{V:ah}{cQ d:ax}(bw:aY W I env ae e cQ)(aE:pH W I env ((D,cQ)::ae) aJ d)(aO:env.cells.lookup D=some V)(aS:autoParam (env.kindOf D=some .cell) tR)(hd:autoParam ((D==("__debug__":ay))=false) tD)(a9:autoParam (iE e (some (.Name D bK)) al.line env=pure false) tR):pH W I env ae (.Assign [.Name D bK] e al::aJ) d:=⟨λX av C aK bQ N G ai aj q=>by
 with_reducible refine eH (lN ((bw.on X C (aK.mono N.keeps) G).go _ _ λv aG k1 aT=>?_) a9)
 exact QJ aS aO aK bQ (N.step k1) (G.mono (cg k1)) aT hd λa5 gj md=>aE.on X av a5 aK bQ gj md ai aj q⟩
theorem F2{D:ay}{bK al:bp}{e:a'}{aJ:List cT}{cQ d:ax}(bw:li W I env ae e cQ)(aE:pH W I env ((D,cQ)::ae) aJ d)(aS:autoParam (env.kindOf D=some .local) tR)(hd:autoParam ((D==("__debug__":ay))=false) tD)(a9:autoParam (iE e (some (.Name D bK)) al.line env=pure true) tR):pH W I env ae (.Assign [.Name D bK] e al::aJ) d:=⟨λX av C aK bQ N G ai aj q=>by
 with_reducible refine eH ?_
 refine H (UG _ _ _ _ a9) ?_
 refine aM (tY (aM (bw.on X C (aK.mono N.keeps) G _ _ _ λv aG aX k1 aT gx a_=>?_)))
 with_reducible refine om ?_
 refine DI aS aK bQ (N.step k1) (G.mono (cg k1)) aT hd λa5 gj md m4=>?_
 refine jG m4 λaA eE di JK=>?_;clear m4;subst di
 refine bH a_ λp7 I6=>?_;clear a_
 refine bH N.ns λac0 Ad=>?_
 have ux:aX≠env.locals:=λau=>by
  subst au
  refine n' Ad λ_ _ _ e _=>?_;clear Ad
  rw[gx]at e
  cases e
 have p9:aA.Ns aX p7:=I6.sameBut JK ux
 refine⟨⟨p7,p9⟩,λbn k5=>?_⟩
 refine b6 ?_
 have G4:av.heap.get? aX=none:=by
  cases q:av.heap.get? aX with
  |none=>rfl
  |some qU=>have:=ed N.keeps _ _ q;rw[gx]at this;cases this
 have er:cS av {aG with heap:=bn,toks:=eE}:=Dg (C:={aG with heap:=aA,toks:=eE}) gj.keeps G4 k5
 refine aE.on X av _ aK bQ ⟨er,gj.new,gj.jA,?_,λY V e=>?_,gj.apart⟩ ⟨bQ.mono (cg er),md.kind,md.globals,md.builtins,λam rF e=>?_⟩ ai aj q
 .refine bH gj.ns λkW dD=>?_
  exact⟨kW,dD.sameBut k5 (iB ux)⟩
 .refine bH (gj.cell Y V e) λw L=>?_
  exact⟨w,L.sameBut k5 (qC p9 L)⟩
 .refine jl (md.vars am rF e) λq1 sa r9 rz=>?_
  refine⟨q1,sa,vd r9 k5 (u_ p9),?_⟩
  cases rz with
  |loc a lz V=>exact .loc a (m' ((lz.keeps (h':=aA) cP).sameBut k5 (iB ux)) (je aK gj.new)) V
  |cell a V L=>
   have jW:=L.keeps (h':=aA) cP
   exact .cell a V (pO (jW.sameBut k5 (qC p9 jW)) (je aK (gj.jA _ _ (mem_of_lookup V))))
  |free a V L au=>
   have jW:=L.keeps (h':=aA) cP
   exact .free a V (pO (jW.sameBut k5 (qC p9 jW)) (je aK (gj.jA _ _ (mem_of_lookup V)))) au⟩
end
theorem Dx{D:ay}{J:ay×an}{r:List (ay×an)}(B:D∉(J::r).map (·.1)):D≠J.1/\D∉r.map (·.1):=⟨λau=>B (au▸ .head _),λau=>B (.tail _ au)⟩
theorem W1{k:ay->Option Fd}{D:ay}{hG:List (ay×an)}:∀{m:ay->Option an},D∉hG.map (·.1)->x9 k hG m D=m D:=by
 induction hG with
 |nil=>exact λ_=>rfl
 |cons J r bf=>
  intro m B
  refine(bf (Dx B).2).trans ?_
  split
  .exact if_neg (Dx B).1
  .rfl
theorem W0{k:ay->Option Fd}{D:ay}{hG:List (ay×an)}:∀{m:ay->Option an},D∉hG.map (·.1)->x8 k hG m D=m D:=by
 induction hG with
 |nil=>exact λ_=>rfl
 |cons J r bf=>
  intro m B
  refine(bf (Dx B).2).trans ?_
  split
  .rfl
  .exact if_neg (Dx B).1
theorem MM{k:ay->Option Fd}{D:ay}{v:an}(hk:k D=some .local){hG:List (ay×an)}:∀{m:ay->Option an},(hG.map (·.1)).Nodup->(D,v)∈hG->x9 k hG m D=some v:=by
 induction hG with
 |nil=>exact λ_ B=>nomatch B
 |cons J r bf=>
  intro m a_ aI
  rw[ef,d']at a_
  rcases s3 aI with rfl|aI
  .exact(W1 a_.1).trans (by refine H (if_pos hk) ?_;exact if_pos rfl)
  .exact bf a_.2 aI
theorem ML{k:ay->Option Fd}{D:ay}{v:an}(hk:k D=some .cell){hG:List (ay×an)}:∀{m:ay->Option an},(hG.map (·.1)).Nodup->(D,v)∈hG->x8 k hG m D=some v:=by
 induction hG with
 |nil=>exact λ_ B=>nomatch B
 |cons J r bf=>
  intro m a_ aI
  rw[ef,d']at a_
  rcases dw.mp aI with rfl|aI
  .exact(W0 a_.1).trans (by refine H (if_neg (by rw[hk];exact λau=>nomatch au)) ?_;exact if_pos rfl)
  .exact bf a_.2 aI
structure hC (W:bj) (ao:ah) (e4:bJ) (fd:pu) (body:List cT) (names:List ay):Prop where
 obj:(cZ W.w).lookup ao=some e4
 fn:e4.data= .func fd
 body:fd.body= .stmts body
 closure:fd.closure=[]
 code:Fs (cZ W.w) fd.code fd.qualname=true
 kinds:(names.all λam=>fd.scope.names.lookup am==some .local ||fd.scope.names.lookup am==some .cell)=true
 co:fd.scope.isCoroutine=false
 gen:fd.scope.isGenerator=false
 kind:fd.scope.kind= .function
 globals:fd.globals=dh
 builtins:fd.builtins=vS
 nodup:names.Nodup
 debug:(names.all λam=> !(am==("__debug__":ay)))=true
 bind:∀af:List an,af.length=names.length->Lr fd ⟨af,[]⟩=pure (names.zip af)
section
variable{W:bj}{I:br}{X:List ah}{C:aq}
theorem hC.Dl{ao e4 fd body names}(aa:hC W ao e4 fd body names)(af:List an):((names.zip af).all λam=>fd.scope.names.lookup am.1==some .local ||fd.scope.names.lookup am.1==some .cell)=true:=by
 refine kA.mpr λam bZ=>?_
 exact kA.mp aa.kinds am.1 (EH bZ).1
set_option tactic.hygienic true in
theorem So{names:List ay}{ab:List ax}:∀{af:List an}{B:bo}{D:ay}{d:ax},a3 B af ab->(names.zip ab).lookup D=some d->∃v,(D,v)∈names.zip af/\aC B v d:=by
 induction names generalizing ab with
 |nil=>intro af B D d r e;simp at e
 |cons Y r bf=>
  intro af B D d aV e
  cases aV with
  |nil=>simp at e
  |cons aT rs=>
   rename_i v ee bO f1
   rw[Tl,c1]at e
   cases aS:D==Y with
   |true=>
    rw[aS]at e
    cases e
    have:=eq_of_beq aS
    subst this
    exact⟨v,by simp,aT⟩
   |false=>
    rw[aS]at e
    refine cm (bf rs e) λn_ aI q0=>?_
    exact⟨n_,by refine H Tl ?_;exact .tail _ aI,q0⟩
theorem Sp{names:List ay}{af:List an}(B:af.length=names.length):(names.zip af).map (·.1)=names:=by
 rw[List.map_fst_zip]
 exact aL [_,_] 1900356928 rfl B
theorem Ny{ao e4 fd body names}(aa:hC W ao e4 fd body names){ab:List ax}{af:List an}{s':aq}(aN:names.length=ab.length)(aK:c0 X C)(bQ:eg W (a0 X C))(aV:a3 (a0 X C) af ab)(D:Fa C C.heap.objs.size (x9 (λD=>fd.scope.names.lookup D) (names.zip af) λ_=>none) (rk (C.heap.objs.size+1) fd.scope.names []) (x8 (λD=>fd.scope.names.lookup D) (names.zip af) λ_=>none) s'):kb (callEnvC fd C.heap.objs.size ao) C s'/\fQ W (callEnvC fd C.heap.objs.size ao) (names.zip ab) (a0 X s'):=by
 have bW:af.length=names.length:=by refine H aV.length ?_;refine H aN ?_;rfl
 have cO:((names.zip af).map (·.1)).Nodup:=by refine H (Sp bW) ?_;exact aa.nodup
 have ev:∀a,C.heap.objs.size<=a->C.heap.get? a=none:=λa B=>iC B
 have er:cS C s':=let⟨B,bg,e⟩:=D.toInCall.same;⟨B,bg,e,by have:=D.toInCall.keep;rw[e]at this;exact this⟩
 have jA:∀Y V,(Y,V)∈rk (C.heap.objs.size+1) fd.scope.names []->C.heap.get? V=none:=λY V aI=>ev V (gv (D.above Y V aI))
 refine⟨⟨er,ev _ (eF _),jA,⟨_,D.toInCall.ns⟩,λY V e=>⟨_,D.cell Y V e⟩,D.apart⟩,⟨bQ.mono (cg er),aa.kind,aa.globals,aa.builtins,λam d e=>?_⟩⟩
 refine cm (So aV e) λv aI r=>?_
 have zR:am∈names:=(EH aI).1
 have Hy:(am==("__debug__":ay))=false:=by simpa using kA.mp aa.debug am zR
 refine⟨Hy,v,r.mono (cg er),?_⟩
 have hk:=kA.mp aa.kinds am zR
 rcases Sy.mp hk with hk|hk
 .have hJ:fd.scope.names.lookup am=some .local:=by simpa using hk
  exact .loc hJ (m' D.toInCall.ns (je aK (ev _ (eF _)))) (MM (k:=λD=>fd.scope.names.lookup D) hJ cO aI)
 .have hJ:fd.scope.names.lookup am=some .cell:=by simpa using hk
  refine bH (TJ.mp (Uu (x:=am) fd.scope.names (C.heap.objs.size+1) [] (.inl hJ))) λV aO=>?_
  have L:=D.cell am V aO
  rw[ML (k:=λD=>fd.scope.names.lookup D) hJ cO aI]at L
  exact .cell hJ aO (pO L (je aK (jA _ _ (mem_of_lookup aO))))
theorem tc{ao e4 fd body names ab d}(aa:hC W ao e4 fd body names)(aN:names.length=ab.length)(bk:I.depth<d3)(bK:∀ar,pH W (I.deeper (callEnvC fd ar ao)) (callEnvC fd ar ao) (names.zip ab) body d):pI W I ao ab d:=⟨λX C af aK bQ aV=>⟨λai aj q=>by
 have bW:af.length=names.length:=by refine H aV.length ?_;refine H aN ?_;rfl
 refine enter (bQ.mono cP) aa.obj aa.fn aa.body aa.closure aa.code bk (aa.bind af bW) (aa.Dl af) aa.co aa.gen aa.kind λs' D=>?_
 refine d8 (Ny aa aN aK bQ aV D) λN G=>?_
 exact(bK _).on X C s' aK bQ N G _ _ λv a5 k2 bb=>q v a5 k2 bb⟩⟩
end
end Mine.Tactic
namespace Mine.Tactic
noncomputable def hm(w:c4)(ao:ah):bJ:=((cZ w).lookup ao).getD default
noncomputable def bP(w:c4)(ao:ah):pu:=match(hm w ao).data with
 | .func fd=>fd
 |_=>default
noncomputable def dT(w:c4)(ao:ah):List cT:=match(bP w ao).body with
 | .stmts b=>b
 |_=>[]
set_option profiler true
set_option profiler.threshold 100
theorem Gz(W:bj):hC W 190 (hm W.w 190) (bP W.w 190) (dT W.w 190) ["name"]:=by
 refine⟨rfl,rfl,rfl,rfl,rfl,rfl,rfl,rfl,rfl,rfl,rfl,by decide,by decide,λaf B=>?_⟩
 refine bH (oV B) λa dC=>?_;subst dC
 kernel_rfl
section
variable{W:bj}{I:br}
theorem ue(w:c4):dF (cZ w) dh "len"=some none:=by kernel_rfl
theorem uf:iD "len"=some (.builtin "len"):=by kernel_rfl
noncomputable def DL(D:ay):ax:=([.none,.none,.str "=",.str ""]:List ax).getD (D.length % 4) .none
theorem ad9(bk:I.depth<d3)(D:ay)(aS:D.length<=bc):pI W I 190 [.str D] (.tuple [.str D,DL D]):=by
 refine tc (Gz W) rfl bk λar=>?_
 refine mT ?_
 refine mR (bI (aW rfl) (bI ?_ cF)) (by simp[bc])
 refine FV (ab:=[.none,.none,.str "=",.str ""]) (L:=((D.length:Int).fmod 4)) ?_ ?_ ?_ ?_ ?_
 .exact mR (bI qz (bI qz (bI iH (bI iH cF)))) (by simp[bc])
 .refine yw ?_ c_ (by decide)
  refine ow rfl (ue _) uf (bI (aW rfl) cF) λX C af aK G aV=>?_
  refine a3.eC aV λ_ _ r rs=>?_
  refine aC.eS r λ_=>?_;refine a3.eN rs ?_;exact Si aS
 .refine H (xH _ (by decide)) ?_;exact Int.emod_nonneg _ (by decide)
 .refine H (xH _ (by decide)) ?_;exact kQ (gv (hy D.length (show 0<4 by decide))) (by decide)
 .refine H (xH _ (by decide)) ?_
  have e:((D.length:Int) % 4).toNat=D.length % 4:=rfl
  refine H e ?_
  unfold DL
  have:D.length % 4<4:=hy _ (by decide)
  generalize D.length % 4=k at this
  rcases k with _|_|_|_|k
  all_goals first |rfl|exact absurd this (fv.mpr (vE 4 k))
end
end Mine.Tactic
namespace Mine.Tactic
noncomputable def eJ(lt:Nat->Nat->Bool){a4:Type}:oj a4->a4
 | .ret a=>a
 | .ask L aB k=>eJ lt (k (lt L aB))
theorem wu(lt:Nat->Nat->Bool){a4 d9:Type}(ao:a4->oj d9):∀t:oj a4,eJ lt (t.bind ao)=eJ lt (ao (eJ lt t))
 | .ret _=>rfl
 | .ask L aB k=>wu lt ao (k (lt L aB))
noncomputable abbrev g(J:Array Nat)(L:Nat):Nat:=J.getD L 0
structure qx (lt:Nat->Nat->Bool) (Y:Nat):Prop where
 J2:∀L aB,L<Y->aB<Y->L≠aB->lt L aB=false->lt aB L=true
 ME:∀L aB,L<Y->aB<Y->lt L aB=true->lt aB L=false
 kv:∀L aB k,L<Y->aB<Y->k<Y->lt L aB=true->lt aB k=true->lt L k=true
structure mU (J:Array Nat) (Y:Nat):Prop where
 size:J.size=Y
 low:∀L,L<Y->g J L<Y
 inj:∀L aB,L<Y->aB<Y->g J L=g J aB->L=aB
noncomputable def nB(lt:Nat->Nat->Bool)(J:Array Nat)(k:Nat):Prop:=∀a b,a<b->b<k->lt (g J a) (g J b)=true
theorem mU.Aj{J:Array Nat}{Y:Nat}(B:J.Perm (e7 Y).toArray):mU J Y:=by
 have aN:J.toList.Perm (e7 Y):=by simpa using B.toList
 have a9:J.size=Y:=by have:=aN.length_eq;simpa using this
 have cO:J.toList.Nodup:=aN.nodup_iff.mpr S'
 have fL:∀L (aU:L<Y),g J L=J.toList[L]'(by simpa[a9]using aU):=λL aU=>by
  have:L<J.size:=by rw[a9];exact aU
  simp[g,Kc,this]
 refine⟨a9,λL aU=>?_,λL aB aU bL e=>?_⟩
 .rw[fL L aU]
  exact pl.mp (aN.mem_iff.mp (xM _))
 .rw[fL L aU,fL aB bL]at e
  exact(EA cO).mp e
section
variable{lt:Nat->Nat->Bool}{Y:Nat}{J:Array Nat}
structure FK (lt:Nat->Nat->Bool) (J:Array Nat) (dL Ea m:Nat):Prop where
 lo:dL<=m
 aU:m<=Ea
 up:∀L,dL<=L->L<m->lt (g J L) (g J (L - 1))=false
 stop:m<Ea->lt (g J m) (g J (m - 1))=true
theorem MC(J:Array Nat)(ao:Nat):∀dL,FK lt J dL (dL+ao) (eJ lt (x6 J ao dL)):=by
 induction ao with
 |zero=>exact λdL=>⟨eF _,eF _,λL h1 aA=>absurd aA (fv.mpr h1),λB=>absurd B (lL _)⟩
 |succ ao bf=>
  intro dL
  show FK lt J dL _ (eJ lt (if lt (g J dL) (g J (dL - 1))=true then x5 dL else x6 J ao (dL+1)))
  cases B:lt (g J dL) (g J (dL - 1))with
  |true=>exact⟨eF _,qq _ _,λL h1 aA=>absurd aA (fv.mpr h1),λ_=>B⟩
  |false=>
   have r:FK lt J (dL+1) (dL+ao+1) _:=vD dL 1 ao▸bf (dL+1)
   exact⟨EM r.lo,r.aU,λL h1 aA=>(Ba h1).elim (λe=>e▸B) λl=>r.up L l aA,r.stop⟩
theorem vb{k:Nat}(B:1<=k):k - 1<k:=Bh B xQ
theorem F9(O:qx lt Y)(P:mU J Y){k:Nat}(h1:1<=k)(hk:k<Y)(aN:lt (g J k) (g J (k - 1))=false):lt (g J (k - 1)) (g J k)=true:=
 have B:=dR (vb h1) hk
 O.J2 _ _ (P.low _ hk) (P.low _ B) (λe=>gR (vb h1) (P.inj _ _ hk B e)) aN
theorem afy(O:qx lt Y)(P:mU J Y){k:Nat}(B:nB lt J k)(hk:k<Y)(h1:1<=k)(aN:lt (g J k) (g J (k - 1))=false):nB lt J (k+1):=λa b ik ak=>by
 rcases Nat.lt_succ_iff_lt_or_eq.mp ak with ak|rfl
 .exact B a b ik ak
 .rcases To (KJ ik)with q|rfl
  .exact O.kv _ _ _ (P.low _ (dR ik hk)) (P.low _ (dR (vb h1) hk)) (P.low _ hk) (B a _ q (vb h1)) (F9 O P h1 hk aN)
  .exact F9 O P h1 hk aN
theorem JT(O:qx lt Y)(P:mU J Y){k m:Nat}(B:nB lt J k)(h1:1<=k)(aI:k<=m)(mv:m<=Y)(aN:∀L,k<=L->L<m->lt (g J L) (g J (L - 1))=false):nB lt J m:=by
 induction m with
 |zero=>exact λa b _ ak=>absurd ak (rg _)
 |succ m bf=>
  rcases To aI with q|rfl
  .have q:=od q
   exact afy O P (bf q (EM mv) λL a b=>aN L a (kE b)) mv (cu h1 q) (aN m q (kF m))
  .exact B
theorem RG(J:Array Nat):nB lt J 1:=λa b ik ak=>absurd (g' ik (od ak)) (rg _)
theorem XQ(O:qx lt Y)(P:mU J Y)(ao:Nat):∀dL,1<=dL->dL+ao<=Y->∃m,eJ lt (vQ ao J dL 0)=(J,m,0)/\dL<=m/\m<=dL+ao/\(∀L,dL<=L->L<m->lt (g J L) (g J (L - 1))=true):=by
 induction ao with
 |zero=>exact λdL _ _=>⟨dL,rfl,eF _,eF _,λL h1 aA=>absurd aA (fv.mpr h1)⟩
 |succ ao bf=>
  intro dL h1 a_
  have a8:eJ lt (vQ (ao+1) J dL 0)=eJ lt (if lt (g J dL) (g J (dL - 1))=true then vQ ao J (dL+1) 0 else .ask (g J (dL - 1)) (g J dL) λd=>if d=true then x5 (J,dL,0)else vQ ao J (dL+1) (0+1)):=rfl
  rw[a8]
  cases B:lt (g J dL) (g J (dL - 1))with
  |true=>
   obtain⟨m,e,a,b,V⟩:=bf (dL+1) (vE 1 dL) (vD dL 1 ao▸a_)
   exact⟨m,e,EM a,vD dL 1 ao▸b,λL aA bn=>(Ba aA).elim (λe=>e▸B) λl=>V L l bn⟩
  |false=>
   have aA:=F9 O P h1 (g' (EN (l7 ao)) a_) B
   refine⟨dL,?_,eF _,qq _ _,λL aA bn=>absurd bn (fv.mpr aA)⟩
   show eJ lt (if lt (g J (dL - 1)) (g J dL)=true then x5 (J,dL,0)else _)=_
   rw[if_pos aA]
   rfl
theorem ww(J:Array Nat)(L:Nat):g J L=(J[L]?).getD 0:=by simp[g]
theorem Rh(P:mU J Y){m:Nat}(aI:m<=Y){k:Nat}(hk:k<m):g (qt J 0 m) k=g J (m - 1 - k):=by
 have e:=getElem?_mirror_all (xs:=J) (i:=0) (j:=m) (by rw[P.size];exact aI) k
 rw[if_pos ⟨eL k,hk⟩,ng]at e
 rw[ww,ww]
 exact congrArg (Option.getD · 0) e
structure F3 (lt:Nat->Nat->Bool) (J:Array Nat) (k D:Nat):Prop where
 le:D<=k
 lo:∀L,L<D->lt (g J L) (g J k)=true
 aU:∀L,D<=L->L<k->lt (g J k) (g J L)=true
theorem mid{l r:Nat}(B:l<r):l<=(l+r) / 2/\(l+r) / 2<r:=
 ⟨(Nat.le_div_iff_mul_le KU).mpr (Nat.mul_two l▸KG (gv B) l),Nat.div_lt_of_lt_mul (Nat.two_mul r▸Nat.add_lt_add_right B r)⟩
theorem ac6{l m r ao:Nat}(a:l<=m)(b:m<r)(b2:r - l<=ao+1):m - l<=ao/\r - (m+1)<=ao:=
 ⟨od (g' (TB a b) b2),cu (KQ (Tx a r)) (KQ b2)⟩
theorem adS(O:qx lt Y)(P:mU J Y){k:Nat}(hk:k<Y)(a9:nB lt J k)(ao:Nat):∀(l r:Nat),l<=r->r<=k->r - l<=ao->(∀L,L<l->lt (g J L) (g J k)=true)->(∀L,r<=L->L<k->lt (g J k) (g J L)=true)->F3 lt J k (eJ lt (tK J k ao l r)):=by
 induction ao with
 |zero=>exact λl r HU zH b2 h1 aA=>⟨cu HU zH,h1,λL a b=>aA L (cu (Bb (KL.mp b2)) a) b⟩
 |succ ao bf=>
  intro l r HU zH b2 h1 aA
  have e:tK J k (ao+1) l r=if l ≥ r then x5 l else .ask (g J k) (g J ((l+r) / 2)) λV=>if V=true then tK J k ao l ((l+r) / 2)else tK J k ao ((l+r) / 2+1) r:=rfl
  rw[e]
  by_cases q:l ≥ r
  .rw[if_pos q]
   exact⟨cu HU zH,h1,λL a b=>aA L (cu q a) b⟩
  .rw[if_neg q]
   have q:=EO q
   obtain⟨gM,kW⟩:=mid q
   obtain⟨fE,gT⟩:=ac6 gM kW b2
   generalize (l+r) / 2=m at gM kW fE gT ⊢
   have aI:=g' kW zH
   have mv:=dR aI hk
   show F3 lt J k (eJ lt (if lt (g J k) (g J m)=true then tK J k ao l m else tK J k ao (m+1) r))
   cases B:lt (g J k) (g J m)with
   |true=>
    refine bf l m gM (gv aI) fE h1 λL a b=>?_
    rcases Ba a with rfl|a
    .exact B
    .exact O.kv _ _ _ (P.low _ hk) (P.low _ mv) (P.low _ (dR b hk)) B (a9 _ _ a b)
   |false=>
    have aD:=O.J2 _ _ (P.low _ hk) (P.low _ mv) (λe=>gR aI (P.inj _ _ hk mv e)) B
    refine bf (m+1) r kW zH gT (λL a=>?_) aA
    rcases Ba (od a)with rfl|a
    .exact aD
    .exact O.kv _ _ _ (P.low _ (dR a mv)) (P.low _ mv) (P.low _ hk) (a9 _ _ a aI) aD
theorem W5(P:mU J Y){k l:Nat}(hk:k<Y)(a9:nB lt J k)(B:F3 lt J k l):nB lt (KY J k (k - l)) (k+1):=by
 have e:∀aB,g (KY J k (k - l)) aB=if aB=l then g J k else if l<aB/\aB<=k then g J (aB - 1)else g J aB:=λaB=>by
  have a8:=getElem?_bubble (xs:=J) (src:=k) (by rw[P.size];exact hk) (k - l) (hh _ _) aB
  rw[Nat.sub_sub_self B.le]at a8
  rw[ww,a8,ww,ww,ww]
  split
  .rfl
  .split <;>rfl
 intro a b ik ak
 have yQ:=od ak
 have Wk:=gv (g' ik yQ)
 have lT:b - 1<k:=g' (vb (h_ (eL _) ik)) yQ
 rw[e a,e b]
 by_cases mE:a=l
 .subst mE
  rw[if_pos rfl,if_neg (gR ik),if_pos ⟨ik,yQ⟩]
  exact B.aU _ (KJ ik) lT
 .rw[if_neg mE]
  by_cases Aq:l<a/\a<=k
  .have fz:=dR Aq.1 ik
   rw[if_pos Aq,if_neg (gR fz),if_pos ⟨fz,yQ⟩]
   exact a9 _ _ (TB (h_ (eL _) Aq.1) ik) lT
  .have c8:a<l:=Bd (KI λau=>Aq ⟨au,Wk⟩) mE
   rw[if_neg Aq]
   by_cases Jr:b=l
   .rw[if_pos Jr]
    exact B.lo a c8
   .rw[if_neg Jr]
    by_cases DU:l<b/\b<=k
    .rw[if_pos DU]
     exact a9 _ _ (g' c8 (KJ DU.1)) lT
    .rw[if_neg DU]
     exact a9 _ _ ik (g' (Bd (KI λau=>DU ⟨au,yQ⟩) Jr) B.le)
noncomputable abbrev qZ(Y:Nat):Array Nat:=(e7 Y).toArray
theorem WZ(O:qx lt Y)(ao:Nat):∀(J:Array Nat)(k:Nat),k+ao=Y->J.Perm (qZ Y)->nB lt J k->(eJ lt (tJ ao J k)).Perm (qZ Y)/\nB lt (eJ lt (tJ ao J k)) Y:=by
 induction ao with
 |zero=>exact λJ k hk aF a9=>⟨aF,hk▸a9⟩
 |succ ao bf=>
  intro J k hk aF a9
  have P:=mU.Aj aF
  have PT:k<Y:=g' (EN (l7 ao)) (j9 hk)
  have e:eJ lt (tJ (ao+1) J k)=eJ lt (tJ ao (KY J k (k - eJ lt (tK J k k 0 k))) (k+1)):=wu _ _ _
  rw[e]
  exact bf _ (k+1) ((vD k 1 ao).trans hk) ((TM ..).trans aF) (W5 P PT a9 (adS O P PT a9 k 0 k (eL _) (eF _) (hh _ _) (λL B=>absurd B (rg _)) λL h1 aA=>absurd aA (fv.mpr h1)))
theorem Ri{m L:Nat}(h1:1<=L)(aA:L<m):m - 1 - (L - 1)=m - 1 - L+1:=by
 cases L with
 |zero=>exact nomatch h1
 |succ aB=>exact(k_ (KR (Tp aA))).symm
noncomputable def yl(lt:Nat->Nat->Bool)(Y:Nat)(r:Nat×Array Nat):Prop:=1<=r.1/\r.1<=Y/\r.2.Perm (qZ Y)/\nB lt r.2 r.1
theorem agd(O:qx lt Y)(aF:J.Perm (qZ Y)){m:Nat}(h1:1<=m)(aI:m<=Y)(hd:∀aB,1<=aB->aB<m->lt (g J aB) (g J (aB - 1))=true):yl lt Y (eJ lt (vR m Y J)):=by
 have P:=mU.Aj aF
 have O3:(qt J 0 m).Perm (qZ Y):=(TS _ _ _ _).trans aF
 have kc:=mU.Aj O3
 have um:eJ lt (vR m Y J)=(eJ lt (x6 (qt J 0 m) (Y - m) m),qt J 0 m):=wu lt _ _
 rw[um]
 have r:=MC (lt:=lt) (qt J 0 m) (Y - m) m
 rw[A9 aI]at r
 refine⟨cu h1 r.lo,r.aU,O3,JT O kc (JT O kc (RG _) (eF _) h1 aI λL a b=>?_) h1 r.lo r.aU r.up⟩
 rw[Rh P aI b,Rh P aI (h_ (hh _ _) b),Ri a b]
 have cM:m - 1 - L+1<m:=Ri a b▸h_ (hh _ _) (vb h1)
 exact O.ME _ _ (P.low _ (g' cM aI)) (P.low _ (g' (EP cM) aI)) (hd _ (vE 1 _) cM)
theorem XF(O:qx lt Y)(a_:1<=Y)(aF:J.Perm (qZ Y)):yl lt Y (eJ lt (x7 Y J)):=by
 have P:=mU.Aj aF
 have r:=MC (lt:=lt) J (Y - 1) 1
 have e:eJ lt (x7 Y J)=eJ lt ((λm=>if(m==Y)=true then x5 (m,J)else if m>1 then .ask (g J 0) (g J (m - 1)) λV=>if V=true then .ret (m,J)else Br m Y (qt J 0 m)else Br m Y J) (eJ lt (x6 J (Y - 1) 1))):=wu _ _ _
 rw[e]
 rw[A9 a_]at r
 generalize eJ lt (x6 J (Y - 1) 1)=m at r
 have ck:yl lt Y (m,J):=⟨r.lo,r.aU,aF,JT O P (RG J) (eF _) r.lo r.aU r.up⟩
 show yl lt Y (eJ lt (if(m==Y)=true then _ else _))
 by_cases q:m=Y
 .rw[if_pos (beq_iff_eq.mpr q)]
  exact ck
 .rw[if_neg λau=>q (beq_iff_eq.mp au)]
  by_cases fV:m>1
  .rw[if_pos fV]
   show yl lt Y (eJ lt (if lt (g J 0) (g J (m - 1))=true then x5 (m,J)else _))
   rw[if_pos (ck.2.2.2 0 (m - 1) (KR fV) (vb r.lo))]
   exact ck
  .rw[if_neg fV]
   obtain rfl:m=1:=EL (KI fV) r.lo
   have cM:1<Y:=Bd r.aU q
   obtain⟨bS,dB,ci,mX,fx⟩:=XQ O P (Y - 2) 2 (pq 1) (j9 (A9 cM))
   have Na:eJ lt (Br 1 Y J)=eJ lt (vR bS Y J):=by
    have:=wu lt (λr:Array Nat×Nat×Nat=>if r.2.2>0 then vR r.2.1 Y (qt r.1 (r.2.1 - (r.2.2+1)) r.2.1)else vR r.2.1 Y r.1) (vQ (Y - 2) J 2 0)
    rw[dB]at this
    exact this
   rw[Na]
   refine agd O aF (EM ci) (A9 cM▸mX) λaB h1 aA=>?_
   rcases Ba h1 with rfl|h1
   .exact r.stop cM
   .exact fx aB h1 aA
theorem afo(O:qx lt Y)(h1:1<=Y):(eJ lt (l8 Y)).Perm (e7 Y).toArray/\nB lt (eJ lt (l8 Y)) Y:=by
 have V:=XF O h1 (aib (qZ Y))
 have e:eJ lt (l8 Y)=eJ lt ((λr:Nat×Array Nat=>if r.1<Y then tJ (Y - max r.1 1) r.2 (max r.1 1)else .ret r.2) (eJ lt (x7 Y (qZ Y)))):=wu lt _ _
 rw[e]
 generalize eJ lt (x7 Y (qZ Y))=r at V
 show(eJ lt (if r.1<Y then tJ (Y - max r.1 1) r.2 (max r.1 1)else .ret r.2)).Perm (qZ Y)/\nB lt (eJ lt (if r.1<Y then tJ (Y - max r.1 1) r.2 (max r.1 1)else .ret r.2)) Y
 by_cases au:r.1<Y
 .rw[if_pos au,Nat.max_eq_left V.1]
  exact WZ O _ _ _ (A9 V.2.1) V.2.2.1 V.2.2.2
 .rw[if_neg au]
  exact⟨V.2.2.1,EL V.2.1 (fv.mp au)▸V.2.2.2⟩
end
noncomputable def hB(Y:Nat){a4:Type}:oj a4->Prop
 | .ret _=>True
 | .ask L aB k=>L<Y/\aB<Y/\∀b,hB Y (k b)
theorem hB.bind{Y:Nat}{a4 d9:Type}{ao:a4->oj d9}(b2:∀a,hB Y (ao a)):∀t:oj a4,hB Y t->hB Y (t.bind ao)
 | .ret a,_=>b2 a
 | .ask L aB k,B=>⟨B.1,B.2.1,λb=>hB.bind b2 (k b) (B.2.2 b)⟩
noncomputable def jM{a4:Type}(P:a4->Prop):oj a4->Prop
 | .ret a=>P a
 | .ask _ _ k=>∀b,jM P (k b)
theorem hB.bind'{Y:Nat}{a4 d9:Type}{P:a4->Prop}{ao:a4->oj d9}(b2:∀a,P a->hB Y (ao a)):∀t:oj a4,hB Y t->jM P t->hB Y (t.bind ao)
 | .ret a,_,B=>b2 a B
 | .ask L aB k,B,e=>⟨B.1,B.2.1,λb=>hB.bind' b2 (k b) (B.2.2 b) (e b)⟩
theorem jM.bind{a4 d9:Type}{P:a4->Prop}{R:d9->Prop}{ao:a4->oj d9}(b2:∀a,P a->jM R (ao a)):∀t:oj a4,jM P t->jM R (t.bind ao)
 | .ret a,B=>b2 a B
 | .ask L aB k,B=>λb=>jM.bind b2 (k b) (B b)
theorem jM.true{a4:Type}:∀t:oj a4,jM (λ_=>True) t
 | .ret _=>trivial
 | .ask _ _ k=>λb=>jM.true (k b)
noncomputable def iG(Y:Nat)(J:Array Nat):Prop:=∀D∈J,D<Y
theorem iG.get{Y:Nat}{J:Array Nat}(B:iG Y J)(aQ:0<Y)(L:Nat):J.getD L 0<Y:=by
 unfold Kc
 split
 .exact B _ (Array.getElem_mem _)
 .exact aQ
theorem iG.perm{Y:Nat}{J q:Array Nat}(B:iG Y J)(e:q.Perm J):iG Y q:=λD aS=>B D (e.mem_iff.mp aS)
theorem iG.rev{Y:Nat}{J:Array Nat}(B:iG Y J)(L aB:Nat):iG Y (qt J L aB):=B.perm (TS _ _ _ _)
theorem Ga{Y:Nat}(aQ:0<Y){J:Array Nat}(B:iG Y J):∀(ao k:Nat),hB Y (x6 J ao k)
 |0,_=>trivial
 |ao+1,k=>⟨B.get aQ _,B.get aQ _,λb=>by cases b;exact Ga aQ B ao (k+1);exact trivial⟩
theorem B0{Y:Nat}(aQ:0<Y):∀(ao:Nat)(J:Array Nat)(k q:Nat),iG Y J->hB Y (vQ ao J k q)/\jM (λr=>iG Y r.1) (vQ ao J k q)
 |0,J,k,q,B=>⟨trivial,B⟩
 |ao+1,J,k,q,B=>by
  have a1:=B0 aQ ao (qt J (k - (q+1)) k) (k+1) 0 (B.rev _ _)
  have a2:=B0 aQ ao J (k+1) 0 B
  have fJ:=B0 aQ ao J (k+1) (q+1) B
  constructor
  .refine⟨B.get aQ _,B.get aQ _,λb=>?_⟩
   cases b
   .refine⟨B.get aQ _,B.get aQ _,λV=>?_⟩
    cases V
    .exact fJ.1
    .exact trivial
   .show hB Y (if q>0 then _ else _)
    split
    .exact a1.1
    .exact a2.1
  .intro b
   cases b
   .intro V
    cases V
    .exact fJ.2
    .exact B
   .show jM _ (if q>0 then _ else _)
    split
    .exact a1.2
    .exact a2.2
theorem B2{Y:Nat}(aQ:0<Y){J:Array Nat}(B:iG Y J)(k m:Nat):hB Y (vR k m J)/\jM (λr=>iG Y r.2) (vR k m J):=
 ⟨hB.bind (ao:=λm=>.ret (m,qt J 0 k)) (λ_=>trivial) _ (Ga aQ (B.rev _ _) _ _),jM.bind (R:=λr:Nat×Array Nat=>iG Y r.2) (ao:=λm=>.ret (m,qt J 0 k)) (P:=λ_=>True) (λ_ _=>B.rev _ _) _ (jM.true _)⟩
theorem B1{Y:Nat}(aQ:0<Y){J:Array Nat}(B:iG Y J)(k m:Nat):hB Y (Br k m J)/\jM (λr=>iG Y r.2) (Br k m J):=by
 have a:=B0 aQ (m - (k+1)) J (k+1) 0 B
 constructor
 .refine hB.bind' (P:=λr=>iG Y r.1) (λr aE=>?_) _ a.1 a.2
  split
  .exact(B2 aQ (aE.rev _ _) _ _).1
  .exact(B2 aQ aE _ _).1
 .refine jM.bind (P:=λr=>iG Y r.1) (λr aE=>?_) _ a.2
  split
  .exact(B2 aQ (aE.rev _ _) _ _).2
  .exact(B2 aQ aE _ _).2
theorem Wv{Y:Nat}(aQ:0<Y){J:Array Nat}(B:iG Y J)(m:Nat):hB Y (x7 m J)/\jM (λr=>iG Y r.2) (x7 m J):=by
 constructor
 .refine hB.bind (λk=>?_) _ (Ga aQ B _ _)
  split
  .exact trivial
  .split
   .refine⟨B.get aQ _,B.get aQ _,λb=>?_⟩
    cases b
    .exact(B1 aQ (B.rev _ _) _ _).1
    .exact trivial
   .exact(B1 aQ B _ _).1
 .refine jM.bind (P:=λ_=>True) (λk _=>?_) _ (jM.true _)
  split
  .exact B
  .split
   .intro b
    cases b
    .exact(B1 aQ (B.rev _ _) _ _).2
    .exact B
   .exact(B1 aQ B _ _).2
theorem Gb{Y:Nat}(aQ:0<Y){J:Array Nat}(B:iG Y J)(k:Nat):∀(ao l r:Nat),hB Y (tK J k ao l r)
 |0,_,_=>trivial
 |ao+1,l,r=>by
  show hB Y (if l ≥ r then _ else _)
  split
  .exact trivial
  .refine⟨B.get aQ _,B.get aQ _,λb=>?_⟩
   cases b
   .exact Gb aQ B k ao _ _
   .exact Gb aQ B k ao _ _
theorem MD{Y:Nat}(aQ:0<Y):∀(ao:Nat)(J:Array Nat)(k:Nat),iG Y J->hB Y (tJ ao J k)
 |0,_,_,_=>trivial
 |ao+1,J,k,B=>hB.bind (λl=>MD aQ ao _ _ (B.perm (TM _ _ _))) _ (Gb aQ B k _ _ _)
theorem Ww{Y:Nat}(aQ:0<Y):hB Y (l8 Y):=by
 have aN:iG Y (rb (e7 Y)):=λD aS=>by simpa using aS
 have a:=Wv aQ aN Y
 refine hB.bind' (P:=λr=>iG Y r.2) (λr aE=>?_) _ a.1 a.2
 split
 .exact MD aQ _ _ _ aE
 .exact trivial
theorem PJ{Y:Nat}{MX:Nat->Nat->(Bool->aq->Prop)->aq->Prop}{lt:Nat->Nat->Bool}(ag:aq->Prop)(aO:∀L aB (aX:Bool->aq->Prop) C,L<Y->aB<Y->ag C->(∀s',ag s'->aX (lt L aB) s')->MX L aB aX C){a4:Type}:∀(t:oj a4)(ai:a4->aq->Prop)(C:aq),hB Y t->ag C->(∀s',ag s'->ai (eJ lt t) s')->t.kasWp MX ai C
 | .ret a,ai,C,_,ij,q=>q C ij
 | .ask L aB k,ai,C,B,ij,q=>aO L aB _ C B.1 B.2.1 ij λs' Zo=>PJ ag aO (k (lt L aB)) ai s' (B.2.2 _) Zo q
section
variable{W:bj}{I:br}{X:List ah}{C:aq}
theorem RA{a:ah}{af:List an}{Y:Nat}{j7:xS}{lt:Nat->Nat->Bool}{P:pt->aq->Prop}{aj:an->aq->Prop}(a6:C.heap.get? a=some (f4 "list" af.toArray Y))(aA:2<=af.length)(iT:af.length<64)(g6:∀(s':aq)(ai:xS->aq->Prop),cC [a] C s'->ai j7 s'->az W.M I (K0 af.toArray) ai aj s')(zo:∀L aB (aX:Bool->aq->Prop)(s':aq),L<af.length->aB<af.length->cC [a] C s'->(∀dz,cS s' dz->aX (lt L aB) dz)->az W.M I (K1 j7 (af.getD L gB) (af.getD aB gB)) aX (λ_ _=>False) s')(q:∀s' V,cC [a] C s'->s'.heap.get? a=some (f4 "list" (rb ((eJ lt (l8 af.length)).toList.map λL=>af.getD L gB)) V)->P (.done (.ret .none)) s'):az W.M I (fX.«list.sort» ⟨[.ref a],[]⟩) P aj C:=by
 have aG:=pv C.heap a (gw λ_=>(#[]:Array an))
 obtain⟨a8,sU⟩:∃a8,(C.heap.update a (gw λ_=>(#[]:Array an))).get? a=some (f4 "list" #[] a8):=⟨_,tG a6 λ_=>#[]⟩
 refine H (TQ _) ?_
 refine aM (E4 a6 rfl ?_)
 refine aM (Bl a6 rfl ?_ (by refine H mI ?_;refine H l_ ?_;exact aL [_] 42870382990680305725760 rfl iT) (eL _))
 refine aM (E5 sU rfl ?_)
 refine aM (sl ?_ (by show af.length<=_;refine H l_ ?_;exact aL [_] 42870382990680305725760 rfl iT))
 refine aM (v0 ?_ (eL _))
 refine ib ?_
 have acg:∀b N,b≠a->C.heap.get? b=some N->(((C.heap.update a (gw λ_=>(#[]:Array an))).push (f4 "tuple" af.toArray 0)).push (f4 "list" #[] 0)).get? b=some N:=λb N ak e=>
  eu _ (eu _ ((aG.2 b ak).trans e))
 have wO:(((C.heap.update a (gw λ_=>(#[]:Array an))).push (f4 "tuple" af.toArray 0)).push (f4 "list" #[] 0)).get? a=some (f4 "list" #[] a8):=eu _ (eu _ sU)
 show az W.M I _ P aj {C with heap:=((C.heap.update a (gw λ_=>(#[]:Array an))).push (f4 "tuple" af.toArray 0)).push (f4 "list" #[] 0)}
 dsimp only
 have mw:¬af.toArray.size<2:=by refine H mI ?_;exact fv.mpr (aL [_] 159712939352336 rfl aA)
 refine H (if_neg mw) ?_;refine H (if_neg mw) ?_
 generalize sW:({C with heap:=((C.heap.update a (gw λ_=>(#[]:Array an))).push (f4 "tuple" af.toArray 0)).push (f4 "list" #[] 0)}:aq)=bv
 have Go:∃B bg,bv={C with heap:=B,toks:=bg}:=⟨_,C.toks,sW.symm⟩
 have PL:∀b N,b≠a->C.heap.get? b=some N->bv.heap.get? b=some N:=by refine b' sW ?_;exact acg
 have aaT:bv.heap.get? a=some (f4 "list" #[] a8):=by refine b' sW ?_;exact wO
 have w5:cC [a] C bv:=⟨Go,λb N ak e=>PL b N (by simpa using ak) e⟩
 refine aM (g6 bv _ w5 ?_)
 have Ym:E2 j7 (af.toArray.zip af.toArray) #[] 7 none=kas_st j7 (xV af) (rb (e7 af.length)):=by
  have e:=kas_range (xV af)
  rw[pairsOf_size]at e
  show E2 j7 (xV af) #[] 7 none=E2 j7 ((rb (e7 af.length)).map (Lq (xV af))) #[] 7 none
  refine H e ?_;rfl
 have ask:(l8 af.length).kasWp (kas_ask W.prog W.w I j7 af) (λJ s'=>J=eJ lt (l8 af.length)/\cS bv s') bv:=by
  refine PJ (lt:=lt) (Y:=af.length) (λs'=>cS bv s') (λL aB aX s' aU bL ij gx=>?_) _ _ _ (Ww (by exact aL [_] 9982058709009 rfl aA)) (gb bv) λs' ij=>⟨rfl,ij⟩
  exact zo L aB aX s' aU bL (w5.trans (cC.of ij)) λdz k=>gx dz (b5 ij k)
 rw[kas_ask_eq]at ask
 have run:=kas_runs (E:=aj) (Q:=λ_ n9 s'=>∃J:Array Nat,J.size=af.length/\arrOf n9=J.map (Lq (xV af))/\failedOf n9=none/\J=eJ lt (l8 af.length)/\cS bv s')
  aA iT (λfN n9 s' a1 a2 fJ uc=>⟨fN,a1,a2,fJ,uc⟩) ask
 rw[<-Ym]at run
 refine aM (fe run ?_ λ_ _ e=>e)
 rintro ⟨⟨⟩,n9⟩ s' ⟨J,aF,ZS,b2,rfl,er⟩
 dsimp only
 have H0:(arrOf n9).map (·.2)=rb ((eJ lt (l8 af.length)).toList.map λL=>af.getD L gB):=by
  apply sb.mp
  refine H ZS ?_;refine H Array.map_map ?_;refine H Array.toList_map ?_
  exact gZ λL _=>by show(Lq (xV af) L).2=_;refine H (kas_item_eq _ _) ?_;rfl
 have dp:(rb ((eJ lt (l8 af.length)).toList.map λL=>af.getD L gB)).size=af.length:=by refine H mI ?_;refine H (gz _) ?_;refine H vw ?_;refine H aF ?_;rfl
 refine H H0 ?_
 have I7:=ed er _ _ aaT
 have a5:=pv s'.heap a (gw λ_=>rb ((eJ lt (l8 af.length)).toList.map λL=>af.getD L gB))
 obtain⟨hH,kh⟩:∃hH,(s'.heap.update a (gw λ_=>rb ((eJ lt (l8 af.length)).toList.map λL=>af.getD L gB))).get? a=some (f4 "list" (rb ((eJ lt (l8 af.length)).toList.map λL=>af.getD L gB)) hH):=⟨_,tG I7 λ_=>rb ((eJ lt (l8 af.length)).toList.map λL=>af.getD L gB)⟩
 refine aM (E5 I7 rfl ?_)
 refine aM (Bl I7 rfl ?_ (eL _) (cu (j9 dp) (by refine H l_ ?_;exact aL [_] 2809553419682027180933976128 rfl iT)))
 refine H b2 ?_
 simp only[bne_self_eq_false,fi,if_false]
 refine b6 (q _ hH ⟨?_,λb N ak e=>?_⟩ kh)
 .refine jF Go λh1 t1 di=>?_;clear Go;subst di
  refine jG er λaA eE di _=>?_;clear er;subst di
  exact⟨_,eE,rfl⟩
 .have nI:b≠a:=by simpa using ak
  exact(a5.2 b nI).trans (ed er _ _ (PL b N nI e))
theorem RB{a:ah}{af:List an}{Y:Nat}{P:pt->aq->Prop}{aj:an->aq->Prop}(a6:C.heap.get? a=some (f4 "list" af.toArray Y))(aA:af.length<2)(q:∀s' V,cC [a] C s'->s'.heap.get? a=some (f4 "list" af.toArray V)->P (.done (.ret .none)) s'):az W.M I (fX.«list.sort» ⟨[.ref a],[]⟩) P aj C:=by
 have aG:=pv C.heap a (gw λ_=>(#[]:Array an))
 obtain⟨a8,sU⟩:∃a8,(C.heap.update a (gw λ_=>(#[]:Array an))).get? a=some (f4 "list" #[] a8):=⟨_,tG a6 λ_=>#[]⟩
 refine H (TQ _) ?_
 refine aM (E4 a6 rfl ?_)
 refine aM (Bl a6 rfl ?_ (by refine H mI ?_;refine H l_ ?_;exact aL [_] 2677161439482368520512 rfl aA) (eL _))
 refine aM (E5 sU rfl ?_)
 refine aM (sl ?_ (by show af.length<=_;refine H l_ ?_;exact aL [_] 2677161439482368520512 rfl aA))
 refine aM (v0 ?_ (eL _))
 refine ib ?_
 have wO:(((C.heap.update a (gw λ_=>(#[]:Array an))).push (f4 "tuple" af.toArray 0)).push (f4 "list" #[] 0)).get? a=some (f4 "list" #[] a8):=eu _ (eu _ sU)
 show az W.M I _ P aj {C with heap:=((C.heap.update a (gw λ_=>(#[]:Array an))).push (f4 "tuple" af.toArray 0)).push (f4 "list" #[] 0)}
 dsimp only
 have mw:af.toArray.size<2:=by refine H mI ?_;exact aL [_] 159571256676673 rfl aA
 refine H (if_pos mw) ?_;refine H (if_pos mw) ?_
 refine aM (b6 ?_)
 refine aM (b6 ?_)
 dsimp only
 have H0:(arrOf (E2 general' (af.toArray.zip af.toArray) #[] 7 none)).map (·.2)=af.toArray:=by
  show(af.toArray.zip af.toArray).map (·.2)=af.toArray
  apply sb.mp
  simp
  clear mw wO sU aG q a6
  have:∀l:List an,ob (λD=>D.2) (l.zip l)=l:=λl=>by induction l with
   |nil=>rfl
   |cons a l bf=>simp[bf]
  exact this af
 refine H H0 ?_
 have a5:=pv (((C.heap.update a (gw λ_=>(#[]:Array an))).push (f4 "tuple" af.toArray 0)).push (f4 "list" #[] 0)) a (gw λ_=>af.toArray)
 obtain⟨hH,kh⟩:∃hH,((((C.heap.update a (gw λ_=>(#[]:Array an))).push (f4 "tuple" af.toArray 0)).push (f4 "list" #[] 0)).update a (gw λ_=>af.toArray)).get? a=some (f4 "list" af.toArray hH):=⟨_,tG wO λ_=>af.toArray⟩
 refine aM (E5 wO rfl ?_)
 refine aM (Bl wO rfl ?_ (eL _) (by refine H mI ?_;refine H l_ ?_;exact aL [_] 175450452102719168250843200 rfl aA))
 simp only[bne_self_eq_false,fi,if_false]
 refine b6 (q _ hH ⟨⟨_,C.toks,rfl⟩,λb N ak e=>?_⟩ kh)
 have nI:b≠a:=by simpa using ak
 exact(a5.2 b nI).trans (eu _ (eu _ ((aG.2 b nI).trans e)))
end
noncomputable def qW(lt:Nat->Nat->Bool){a4:Type}(dflt:a4)(ab:List a4):List a4:=if ab.length<2 then ab else(eJ lt (l8 ab.length)).toList.map λL=>ab.getD L dflt
theorem RC{prog:kG}{w:c4}{I:br}{aj:an->aq->Prop}{C:aq}{l:ah}{af:List an}{ai:an->aq->Prop}(aN:C.heap.IsList l af.toArray)(iT:af.length<64)(B:∀aD,(∀b N,C.heap.get? b=some N->aD.get? b=some N)->C.heap.get? (C.heap.objs.size+1)=none->aD.get? (C.heap.objs.size+1)=some (f4 "list" af.toArray 0)->az (gn prog w) I.in1.in1 (fX.«list.sort» ⟨[.ref (C.heap.objs.size+1)],[]⟩) (λck s'=>∃v,ck= .done (.ret v)/\ai (.ref (C.heap.objs.size+1)) s') aj {C with heap:=aD}):az (gn prog w) I (df (.builtin "sorted") [.ref l]) ai aj C:=by
 refine Calls.call_function_entry kind_sorted plain_sorted entry_sorted (args_sorted1 _) ?_
 unfold fX.«sorted»
 refine aM (m:=checkCount "sorted" 1 1 _) (b6 ?_)
 refine aM (collect_list aN ?_ (by refine H l_ ?_;exact aL [_] 42870382990680305725760 rfl iT))
 refine aM (v0 ?_ (by refine H l_ ?_;exact aL [_] 42870382990680305725760 rfl iT))
 have dp:((C.heap.push (f4 "list" #[] 0)).update C.heap.objs.size (gw (· ++af.toArray))).objs.size=C.heap.objs.size+1:=by
  refine H (Heap.size_update _ _ _) ?_;refine H (size_push' _ _) ?_;rfl
 have p0:(((C.heap.push (f4 "list" #[] 0)).update C.heap.objs.size (gw (· ++af.toArray))).push (f4 "list" af.toArray 0)).get? (C.heap.objs.size+1)=some (f4 "list" af.toArray 0):=by
  refine b' dp ?_;exact f_ _ rfl
 have keep:∀b N,C.heap.get? b=some N->(((C.heap.push (f4 "list" #[] 0)).update C.heap.objs.size (gw (· ++af.toArray))).push (f4 "list" af.toArray 0)).get? b=some N:=λb N q=>by
  have cM:b<C.heap.objs.size:=iL q
  refine H (Ue _ _ _ (by rw[dp];exact hA (kE cM))) ?_;refine H (Heap.get?_update_ne _ _ _ _ (hA cM)) ?_;refine H (Ue _ _ _ (hA cM)) ?_
  exact q
 show az _ _ _ _ _ {C with heap:=((C.heap.push (f4 "list" #[] 0)).update C.heap.objs.size (gw (· ++af.toArray))).push (f4 "list" af.toArray 0)}
 refine H dp ?_
 refine aM (ib (l' slot_list_sort ⟨_,p0,rfl⟩ entry_list_sort ?body (args_list_sort _)))
 case body=>
  refine fe (B _ keep (iC (pq _)) p0) (λck s' b2=>?_) λ_ _ e=>e
  refine cm b2 λv dC ba=>?_;clear b2;subst dC
  exact⟨v,rfl,b6 ⟨_,rfl,ba⟩⟩
section
variable{W:bj}{I:br}{X:List ah}{C:aq}
theorem ut{B:bo}{af:List an}{ab:List ax}(aV:a3 B af ab)(L:Nat):aC B (af.getD L .none) (ab.getD L .none):=by
 by_cases aU:L<ab.length
 .refine cm (aV.get (hT aU)) λv bA r=>?_
  have a8:af.getD L .none=v:=by refine H (i2) ?_;refine H bA ?_;rfl
  have bm:ab.getD L .none=ab[L]:=by refine H (i2) ?_;refine H (hT aU) ?_;rfl
  refine H a8 ?_;refine H bm ?_;exact r
 .have aN:=aV.length
  have a8:af.getD L .none= .none:=by refine H (i2) ?_;refine H (Kx (by exact bX [_,_,_] 168317090538816 rfl aN (fv.mp aU))) ?_;rfl
  have bm:ab.getD L .none= .none:=by refine H (i2) ?_;refine H (Kx (by exact aL [_,_] 2438202688 rfl (fv.mp aU))) ?_;rfl
  refine H a8 ?_;refine H bm ?_;exact .none
theorem Jz{B:bo}{af:List an}{ab:List ax}(aV:a3 B af ab):∀rV:List Nat,a3 B (rV.map λL=>af.getD L .none) (rV.map λL=>ab.getD L .none)
 |[]=>.nil
 |aB::rV=>.cons (ut aV aB) (Jz aV rV)
set_option tactic.hygienic true in
theorem Sl{v:an}{ab:List ax}{j7:xS}{lt:Nat->Nat->Bool}(aK:c0 X C)(r:aC (a0 X C) v (.list ab))(iT:ab.length<64)(g6:∀(af:List an)(s':aq)(ai:xS->aq->Prop)(aj:an->aq->Prop),cS C s'->a3 (a0 X C) af ab->2<=ab.length->ai j7 s'->az W.M I.in1.in1 (K0 af.toArray) ai aj s')(zo:∀(af:List an) L aB (aX:Bool->aq->Prop)(s':aq),cS C s'->a3 (a0 X C) af ab->L<ab.length->aB<ab.length->(∀dz,cS s' dz->aX (lt L aB) dz)->az W.M I.in1.in1 (K1 j7 (af.getD L gB) (af.getD aB gB)) aX (λ_ _=>False) s'):dZ W X I (df (.builtin "sorted") [v]) (.list (qW lt .none ab)) C:=⟨λai aj q=>by
 refine aC.gD r λ_ _ l aV=>?_
 rename_i g5 af
 obtain⟨ew⟩:=af
 have aN:=(cP.plain l).isList
 have bW:ew.length=ab.length:=aV.length
 have oK:C.heap.get? (C.heap.objs.size+1)=none:=iC (pq _)
 refine RC (af:=ew) aN (by exact bX [_,_] 2823793581289323372865 rfl bW iT) λaD hk a_ a6=>?_
 have k1:cS C {C with heap:=aD}:=⟨aD,C.toks,rfl,hk⟩
 have sT:C.heap.objs.size+1∉X:=je aK a_
 have ck:∀(s':aq)(V:Nat)(out:List an)(uk:List ax),cC [C.heap.objs.size+1] {C with heap:=aD} s'->s'.heap.get? (C.heap.objs.size+1)=some (f4 "list" out.toArray V)->a3 (a0 X C) out uk->uk=qW lt .none ab->ai (.ref (C.heap.objs.size+1)) s':=by
  intro s' V out uk c2 e JA hd
  have er:cS C s':=c2.keeps k1 λb ak=>by simp at ak;subst ak;exact a_
  refine q _ s' er ?_
  subst hd
  exact .list ⟨V,ei X e sT⟩ (by simpa using JA.mono (cg er))
 by_cases aA:ab.length<2
 .refine RB (C:={C with heap:=aD}) a6 (by exact bX [_,_] 11029897478385307969 rfl bW aA) λs' V c2 e=>⟨_,rfl,ck s' V ew ab c2 e aV (by unfold qW;refine H (if_pos aA) ?_;rfl)⟩
 .refine RA (C:={C with heap:=aD}) (lt:=lt) (j7:=j7) a6 (by exact bX [_,_] 10886644028252889360 rfl bW (fv.mp aA)) (by exact bX [_,_] 2823793581289323372865 rfl bW iT) (λs' lR hJ ba=>?_) (λL aB aX s' aU bL hJ gx=>?_) λs' V c2 e=>⟨_,rfl,?_⟩
  .exact g6 ew s' lR aj (hJ.keeps k1 λb ak=>by simp at ak;subst ak;exact a_) aV (by exact aL [_] 159712939352336 rfl (fv.mp aA)) ba
  .exact zo ew L aB aX s' (hJ.keeps k1 λb ak=>by simp at ak;subst ak;exact a_) aV (by exact bX [_,_,_] 168317124089153 rfl aU bW) (by exact bX [_,_,_] 168317124089153 rfl bL bW) gx
  .refine ck s' V _ _ c2 e (Jz aV _) ?_
   unfold qW
   refine H (if_neg aA) ?_;refine H bW ?_;rfl⟩
end
end Mine.Tactic
section
open PySem.SeqAt
open AutoSeq1 (wpAny_loadPart')
open MeetsSeq MeetsSeq2 MeetsSeq3 SeqRoads2
namespace Mine.Tactic
noncomputable def lf(I:br)(C:aq)(D am:an)(b:Bool):Prop:=
 ∀(prog:kG)(w:c4)(aj:an->aq->Prop)(ai:an->aq->Prop),ai (.bool b) C->az (gn prog w) I (LF .Lt D am) ai aj C
noncomputable def pF(I:br)(C:aq)(aR bT:Array an)(k:Nat)(r:Bool):Prop:=
 (∀aB (h1:aB<aR.size)(aA:aB<bT.size),aB<k->EqAt I C aR[aB] bT[aB] true)/\
  ((k=min aR.size bT.size/\r=decide (aR.size<bT.size))\/∃(h1:k<aR.size) (aA:k<bT.size),EqAt I C aR[k] bT[k] false/\lf I C aR[k] bT[k] r)
theorem pF.lt{I:br}{C:aq}{aR bT:Array an}{k L:Nat}{r:Bool}(ar:pF I C aR bT k r)(B:L<k):L<aR.size/\L<bT.size:=by
 rcases ar.2 with⟨e,_⟩|⟨h1,aA,_⟩
 .exact⟨g' B (e▸tC _ _),g' B (e▸EQ _ _)⟩
 .exact⟨dR B h1,dR B aA⟩
theorem acT(l b:ah)(items fT:Array an)(Y dD:Nat)(ml mY:Option ah)(ct nc:Array (Option an))(r:Bool)(k m:Nat):∀L:Nat,k - L=m->L<=k->vM (fX.«list.__eq__.loop» ⟨[.ref l,.ref b,dG L,dG 0],[]⟩) (λI R C=>C.heap.get? l=some {cls:=.type "list",dict:=ml,data:=.seq items Y,slots:=ct}/\C.heap.get? b=some {cls:=.type "list",dict:=mY,data:=.seq fT dD,slots:=nc}/\pF I.in1 C items fT k r/\R (.ok (.ret (.bool r))) C):=by
 induction m with
 |zero=>
  intro L hk wK prog w I R C B
  obtain⟨aF,g,d,bg,os⟩:=C;obtain⟨aN,ak,⟨bw,aS⟩,B⟩:=B
  obtain rfl:=EL wK (Bb hk)
  wp_walk using nq aN,nq ak
  rcases aS with⟨qL,rfl⟩|⟨h1,aA,cx,cM⟩
  .by_cases aO:items.size<=fT.size
   .have sN:items[((L:Nat):Int).toNat]? =none:=Es (j9 (qL.trans (xP aO)).symm)
    refine H sN ?_
    wp_walk using nq aN,nq ak
    exact B
   .have wH:=aO
    have aO:=gv (tF.mp aO)
    have sN:fT[((L:Nat):Int).toNat]? =none:=Es (j9 (qL.trans (vF aO)).symm)
    have aax:L<items.size:=h_ (qL▸EQ _ _) (EO wH)
    have kj:items[((L:Nat):Int).toNat]? =some items[L]:=by refine H (lH _) ?_;exact A0 aax
    refine H sN ?_;refine H kj ?_
    wp_walk using nq aN,nq ak
    exact B
  .have sN:items[((L:Nat):Int).toNat]? =some items[L]:=by simp[h1]
   have kj:fT[((L:Nat):Int).toNat]? =some fT[L]:=by simp[aA]
   refine H sN ?_;refine H kj ?_
   refine aM (cx prog w _ _ ?_)
   have jw:=cM prog w
   wp_walk using nq aN,nq ak
   refine H sN ?_;refine H kj ?_
   dsimp only
   generalize LF .Lt items[L] fT[L]=aew at jw ⊢
   refine aM (jw _ _ ?_)
   wp_walk
   exact B
 |succ m bf=>
  intro L hk wK prog w I R C B
  obtain⟨aF,g,d,bg,os⟩:=C;obtain⟨aN,ak,⟨bw,aS⟩,B⟩:=B
  wp_walk using nq aN,nq ak
  have HL:L<k:=TC.mp (hk▸l7 m)
  obtain⟨cM,OS⟩:=pF.lt ⟨bw,aS⟩ HL
  have sN:items[((L:Nat):Int).toNat]? =some items[L]:=by simp[cM]
  have kj:fT[((L:Nat):Int).toNat]? =some fT[L]:=by simp[OS]
  have aO:((L:Int)+1)=((L+1:Nat):Int):=by push_cast;rfl
  refine H sN ?_;refine H kj ?_
  refine aM (bw L cM OS HL prog w _ _ ?_)
  wp_walk
  refine H aO ?_
  exact⟨tS plain_eq_loop _,tN entry_eq_loop (by
   refine H (vK plain_eq_loop _) ?_
   exact bf (L+1) (congrArg Tv hk) HL prog w I R _ ⟨aN,ak,⟨bw,aS⟩,B⟩)⟩
theorem P0(l b:ah)(items fT:Array an)(Y dD:Nat)(ml mY:Option ah)(ct nc:Array (Option an))(r:Bool)(k:Nat):vM (fX.«list.__lt__» ⟨[.ref l,.ref b],[]⟩) (λI R C=>C.heap.get? l=some {cls:=.type "list",dict:=ml,data:=.seq items Y,slots:=ct}/\C.heap.get? b=some {cls:=.type "list",dict:=mY,data:=.seq fT dD,slots:=nc}/\pF I.in1 C items fT k r/\R (.ok (.ret (.bool r))) C):=by
 intro prog w I R C B
 obtain⟨aF,g,d,bg,os⟩:=C;obtain⟨aN,ak,aS,B⟩:=B
 have y9:=aiC
 wp_walk using nq aN,nq ak
 exact⟨tS plain_eq_loop _,tN entry_eq_loop (by
  refine H (vK plain_eq_loop _) ?_
  exact acT l b items fT Y dD ml mY ct nc r k _ 0 rfl (eL _) prog w I R _ ⟨aN,ak,aS,B⟩)⟩
theorem agq(l b:ah)(items fT:Array an)(Y dD:Nat)(ml mY:Option ah)(ct nc:Array (Option an))(r:Bool)(k:Nat):vM (fX.«tuple.__lt__» ⟨[.ref l,.ref b],[]⟩) (λI R C=>C.heap.get? l=some {cls:=.type "tuple",dict:=ml,data:=.seq items Y,slots:=ct}/\C.heap.get? b=some {cls:=.type "tuple",dict:=mY,data:=.seq fT dD,slots:=nc}/\pF I.in1 C items fT k r/\R (.ok (.ret (.bool r))) C):=
 .of_wp λprog w I R C B=>by
  obtain⟨aF,g,d,bg,os⟩:=C;obtain⟨aN,ak,⟨bw,aS⟩,B⟩:=B
  have gT:=aiD
  have oI:(items.toList.zip fT.toList).length=min items.size fT.size:=by simp
  wp_walk using nq aN,nq ak,wpAny_forIn_list _ (λaJ b s'=>b.1=none/\s'=⟨aF,g,d,bg,os⟩/\∃L,L<=k/\aJ=(items.toList.zip fT.toList).drop L) _
  case turn=>
   rintro ⟨am,D⟩ aJ b s' ⟨nI,rfl,L,wK,aH⟩
   have cM:L<(items.toList.zip fT.toList).length:=by
    rcases KN L (items.toList.zip fT.toList).length with aD|aD
    .exact aD
    .rw[sc aD]at aH;cases aH
   have aI:L<min items.size fT.size:=oI▸cM
   have h1:L<items.size:=g' aI (tC _ _)
   have aA:L<fT.size:=g' aI (EQ _ _)
   rw[xL cM]at aH
   injection aH with Pr H8
   have bZ:am=items[L]:=by have:=congrArg Prod.fst Pr;simpa using this
   have nQ:D=fT[L]:=by have:=congrArg Prod.snd Pr;simpa using this
   subst bZ nQ
   by_cases HP:L<k
   .refine aM (bw L h1 aA HP prog w _ _ ?_)
    wp_walk
    exact⟨rfl,rfl,L+1,by exact aL [_,_] 159790316721152 rfl HP,H8⟩
   .have:L=k:=by exact bX [_,_] 42934916800054594 rfl wK (fv.mp HP)
    subst this
    rcases aS with⟨qL,rfl⟩|⟨_,_,cx,CN⟩
    .exact(lL 0 (bX [_,_] 34081846804353041 rfl aI qL)).elim
    .refine aM (cx prog w _ _ ?_)
     have jw:=CN prog w
     generalize LF .Lt items[L] fT[L]=aew at jw ⊢
     wp_walk
     refine jw _ _ ?_
     wp_walk
     exact⟨_,rfl,B⟩
  case fin=>
   rintro ⟨lT,qB⟩ s' ⟨nI,rfl,L,wK,aH⟩
   simp only at nI
   subst nI
   have oM:min items.size fT.size<=L:=by
    rcases KN L (items.toList.zip fT.toList).length with aD|aD
    .rw[xL aD]at aH;cases aH
    .exact oI▸aD
   rcases aS with⟨qL,rfl⟩|⟨w1,w2,cx,CN⟩
   .wp_walk
    exact⟨_,rfl,B⟩
   .exact absurd (h_ (cu oM wK) (Tn.mpr ⟨w1,w2⟩)) (lL _)
  case h=>
   exact⟨rfl,rfl,0,by exact e_ [_] 81936 rfl,rfl⟩
section
variable{I:br}{C:aq}
theorem lf.lists{l b:ah}{items fT:Array an}{k:Nat}{r:Bool}(aN:C.heap.IsList l items)(ak:C.heap.IsList b fT)(be:I.units<c7)(aS:pF I.in1 C items fT k r):lf I C (.ref l) (.ref b) r:=λprog w aj ai B=>by
 refine pi (id aN) λhK a6 aO Y hd=>?_;obtain⟨cls,ml,Gp,ct⟩:=hK
 refine pi (id ak) λhK nO kh dD hu=>?_;obtain⟨Gm,mY,Fu,nc⟩:=hK
 simp only at aO hd kh hu
 subst aO hd kh hu
 exact UN (op:=.Lt) ⟨_,a6,rfl⟩ ⟨_,nO,rfl⟩ F.slot_list_lt F.entry_list_lt (F.args_list_lt_2 _ _) (P0 l b items fT Y dD ml mY ct nc r k)
  ⟨a6,nO,aS,show mM r≠Uq/\ai (.bool r) C from⟨(λD=>nomatch D),B⟩⟩ be
theorem lf.tuples{l b:ah}{items fT:Array an}{k:Nat}{r:Bool}(aN:C.heap.IsTuple l items)(ak:C.heap.IsTuple b fT)(be:I.units<c7)(aS:pF I.in1 C items fT k r):lf I C (.ref l) (.ref b) r:=λprog w aj ai B=>by
 refine pi (id aN) λhK a6 aO Y hd=>?_;obtain⟨cls,ml,Gp,ct⟩:=hK
 refine pi (id ak) λhK nO kh dD hu=>?_;obtain⟨Gm,mY,Fu,nc⟩:=hK
 simp only at aO hd kh hu
 subst aO hd kh hu
 exact UN (op:=.Lt) ⟨_,a6,rfl⟩ ⟨_,nO,rfl⟩ F.slot_tuple_lt F.entry_tuple_lt (F.args_tuple_lt_2 _ _) (agq l b items fT Y dD ml mY ct nc r k)
  ⟨a6,nO,aS,show mM r≠Uq/\ai (.bool r) C from⟨(λD=>nomatch D),B⟩⟩ be
theorem lf.strs{D am:ay}{t bq:dN}:lf I C (.str D t) (.str am bq) (decide (D.cps.toList<am.cps.toList)):=λprog w aj ai B=>TR B
end
end Mine.Tactic
end
section
open PySem.SeqAt
namespace Mine.Tactic
inductive jP|str|tup (L:jP)|lst (L:jP)
noncomputable def jP.deep:jP->Nat
 | .str=>0
 | .tup L=>L.deep+1
 | .lst L=>L.deep+1
inductive ic:jP->List Nat->ax->Prop
 |str {D:ay}:qr D=true->ic .str D.cps.toList (.str D)
 |tup {L k d ab}:ic L k d->hE L.deep (d::ab)->ic (.tup L) k (.tuple (d::ab))
 |lst {L k d ab}:ic L k d->hE L.deep (d::ab)->ic (.lst L) k (.list (d::ab))
theorem ic.Ch{L k d}(B:ic L k d):f5 L.deep d:=by
 cases B with
 |str B=>exact .str B
 |tup _ ao=>exact .tuple ao
 |lst _ ao=>exact .list ao
noncomputable def Vl:jP->List Nat->ax->Prop
 | .str,k,e=>∃D,k=D.cps.toList/\e= .str D/\qr D=true
 | .tup L,k,e=>∃d ab,e= .tuple (d::ab)/\ic L k d/\hE L.deep (d::ab)
 | .lst L,k,e=>∃d ab,e= .list (d::ab)/\ic L k d/\hE L.deep (d::ab)
theorem ic.inv{L k d}(B:ic L k d):Vl L k d:=by
 cases B with
 |str B=>exact⟨_,rfl,rfl,B⟩
 |tup a ao=>exact⟨_,_,rfl,a,ao⟩
 |lst a ao=>exact⟨_,_,rfl,a,ao⟩
theorem Ng{d bO:ax}{ab f1:List ax}(B:Fg d.py bO.py=false):Lh (ax.j4 (d::ab)) (ax.j4 (bO::f1))=false:=by
 show Lh (d.py::ax.j4 ab) (bO.py::ax.j4 f1)=false
 rw[Lh,B]
 rfl
theorem ic.eqv{L k jb:_}(cx:k≠jb):∀{d bO},ic L k d->ic L jb bO->Fg d.py bO.py=false:=by
 induction L with
 |str=>
  intro d bO a b
  refine iA a.inv λD dC di _=>?_;subst dC;subst di
  refine iA b.inv λam dC di _=>?_;subst dC;subst di
  exact decide_eq_false λe=>cx (by refine H e ?_;rfl)
 |tup L bf=>
  intro d bO a b
  obtain⟨_,_,rfl,a,_⟩:=a.inv
  obtain⟨_,_,rfl,b,_⟩:=b.inv
  exact Ng (bf a b)
 |lst L bf=>
  intro d bO a b
  obtain⟨_,_,rfl,a,_⟩:=a.inv
  obtain⟨_,_,rfl,b,_⟩:=b.inv
  exact Ng (bf a b)
section
variable{W:bj}{X:List ah}{I:br}{C:aq}
theorem Nf{Y:Nat}{bx bE:an}{d:ax}(ao:f5 Y d)(aT:aC C.heap bx d)(bb:aC C.heap bE d)(be:I.units+Y<c7):EqAt I C bx bE true:=by
 refine bH (aT.reads ao) λbi q1=>?_
 refine bH (bb.reads ao) λbs fV=>?_
 have l:=ao.lay
 have e:=Um _ _ I C _ _ _ _ q1 fV l.1 l.1 (Ee l.2 be)
 rw[Lj _ l.1]at e
 exact e
theorem GL{L k d jb bO}{bx bE:an}(ao:ic L k d)(g:ic L jb bO)(cx:k≠jb)(aT:aC C.heap bx d)(bb:aC C.heap bE bO)(be:I.units+L.deep<c7):EqAt I C bx bE false:=by
 refine bH (aT.reads ao.Ch) λbi q1=>?_
 refine bH (bb.reads g.Ch) λbs fV=>?_
 have l:=ao.Ch.lay
 have qR:=g.Ch.lay
 have e:=Um _ _ I C _ _ _ _ q1 fV l.1 qR.1 (Ee l.2 be)
 rw[ic.eqv cx ao g]at e
 exact e
theorem hE.get{Y:Nat}{ab:List ax}(ao:hE Y ab){aB:Nat}{d}(e:ab[aB]? =some d):f5 Y d:=by
 induction ab generalizing aB with
 |nil=>exact nomatch e
 |cons D aR bf=>
  cases ao with
  |cons ao gg=>
   cases aB with
   |zero=>exact rh e▸ao
   |succ aB=>exact bf gg e
theorem IQ{aR bT:Array an}{ab:List ax}{Y:Nat}(ao:hE Y ab)(aT:a3 C.heap aR.toList ab)(bb:a3 C.heap bT.toList ab)(be:I.units+Y<c7):pF I C aR bT ab.length false:=by
 have b_:aR.size=ab.length:=by simpa using aT.length
 have b4:bT.size=ab.length:=by simpa using bb.length
 refine⟨λaB h1 aA bL=>?_,.inl ⟨by refine H b_ ?_;refine H b4 ?_;exact(Nat.min_self _).symm,by simp[b_,b4]⟩⟩
 refine cm (aT.get (hT bL)) λv bA ez=>?_
 refine cm (bb.get (hT bL)) λw e5 rw=>?_
 have a8:aR[aB]=v:=by
  have:aR.toList[aB]? =some aR[aB]:=by simp[h1]
  rw[bA]at this;exact(rh this).symm
 have bm:bT[aB]=w:=by
  have:bT.toList[aB]? =some bT[aB]:=by simp[aA]
  rw[e5]at this;exact(rh this).symm
 refine H a8 ?_;refine H bm ?_
 exact Nf (ao.get (hT bL)) ez rw be
theorem IP{aR bT:Array an}{d bO:ax}{ab f1:List ax}{r:Bool}(aT:a3 C.heap aR.toList (d::ab))(bb:a3 C.heap bT.toList (bO::f1))(B:∀v w,aC C.heap v d->aC C.heap w bO->EqAt I C v w false/\lf I C v w r):pF I C aR bT 0 r:=by
 have b_:aR.size=ab.length+1:=by simpa using aT.length
 have b4:bT.size=f1.length+1:=by simpa using bb.length
 refine⟨λaB h1 aA bL=>absurd bL (rg aB),.inr ⟨b_▸l7 _,b4▸l7 _,?_⟩⟩
 refine cm (aT.get (L:=0) (d:=d) rfl) λv bA ez=>?_
 refine cm (bb.get (L:=0) (d:=bO) rfl) λw e5 rw=>?_
 have a8:aR[0]=v:=by
  have:aR.toList[0]? =some aR[0]:=by simp
  rw[bA]at this;exact(rh this).symm
 have bm:bT[0]=w:=by
  have:bT.toList[0]? =some bT[0]:=by simp
  rw[e5]at this;exact(rh this).symm
 refine H a8 ?_;refine H bm ?_
 exact B v w ez rw
theorem xx{L:jP}(be:I.units+(L.deep+1)<c7):I.in1.units+L.deep<c7:=by
 refine H (E6 _) ?_;refine H (vD _ _ _) ?_
 exact be
theorem Eh{L:jP}(be:I.units+(L.deep+1)<c7):I.units<c7:=h_ (qq _ _) be
theorem acU{L k jb:_}(cx:k≠jb):∀{I:br}{d bO bx bE},ic L k d->ic L jb bO->aC C.heap bx d->aC C.heap bE bO->I.units+L.deep<c7->lf I C bx bE (decide (k<jb)):=by
 induction L with
 |str=>
  intro I d bO bx bE a b aT bb _
  refine iA a.inv λD dC di _=>?_;subst dC;subst di
  refine iA b.inv λam dC di _=>?_;subst dC;subst di
  refine aC.eS aT λ_=>?_
  refine aC.eS bb λ_=>?_
  exact lf.strs
 |tup L bf=>
  intro I d bO bx bE a b aT bb be
  obtain⟨_,_,rfl,a,_⟩:=a.inv
  obtain⟨_,_,rfl,b,_⟩:=b.inv
  obtain⟨_,_,rfl,t1,qY⟩:=aT.Ai
  obtain⟨_,_,rfl,eE,ks⟩:=bb.Ai
  exact lf.tuples t1 eE (Eh be) (IP qY ks λv w ez rw=>⟨GL a b cx ez rw (xx be),bf a b ez rw (xx be)⟩)
 |lst L bf=>
  intro I d bO bx bE a b aT bb be
  obtain⟨_,_,rfl,a,_⟩:=a.inv
  obtain⟨_,_,rfl,b,_⟩:=b.inv
  obtain⟨_,_,rfl,t1,qY⟩:=aT.ofList
  obtain⟨_,_,rfl,eE,ks⟩:=bb.ofList
  exact lf.lists t1.isList eE.isList (Eh be) (IP qY ks λv w ez rw=>⟨GL a b cx ez rw (xx be),bf a b ez rw (xx be)⟩)
theorem acV{L k d bx bE}(a:ic L k d)(aT:aC C.heap bx d)(bb:aC C.heap bE d)(be:I.units+L.deep<c7):lf I C bx bE (decide (k<k)):=by
 refine H (decide_eq_false (KC k)) ?_
 cases L with
 |str=>
  refine iA a.inv λD dC di _=>?_;subst dC;subst di
  refine aC.eS aT λ_=>?_
  refine aC.eS bb λ_=>?_
  refine b' (decide_eq_false (KC D.cps.toList)) ?_
  exact lf.strs
 |tup L=>
  refine l6 a.inv λ_ _ di _ ao=>?_;subst di
  refine aC.ul aT λ_ _ t1 qY=>?_
  refine aC.ul bb λ_ _ eE ks=>?_
  exact lf.tuples t1 eE (Eh be) (IQ ao qY ks (xx be))
 |lst L=>
  refine l6 a.inv λ_ _ di _ ao=>?_;subst di
  refine aC.gD aT λ_ _ t1 qY=>?_
  refine aC.gD bb λ_ _ eE ks=>?_
  exact lf.lists t1.isList eE.isList (Eh be) (IQ ao qY ks (xx be))
theorem P8{L k d jb bO}{I:br}{bx bE:an}(a:ic L k d)(b:ic L jb bO)(B:k=jb->d=bO)(aT:aC C.heap bx d)(bb:aC C.heap bE bO)(be:I.units+L.deep<c7):lf I C bx bE (decide (k<jb)):=by
 by_cases e:k=jb
 .have hd:=B e
  subst e hd
  exact acV a aT bb be
 .exact acU e a b aT bb be
end
end Mine.Tactic
end
namespace Mine.Tactic
noncomputable def ax.flat:ax->Bool
 | .none | .bool _| .int _| .str _| .bytes _| .adr _| .ty _=>true
 |_=>false
theorem aC.flat{B aD:bo}{v:an}{d:ax}(r:aC B v d)(ao:d.flat=true):aC aD v d:=by
 cases r with
 |none=>exact .none
 |bool b=>exact .bool b
 |int L t=>exact .int L t
 |str D t=>exact .str D t
 |ty Y=>exact .ty Y
 |bytes b t=>exact .bytes b t
 |adr a=>exact .adr a
 |list _ _=>cases ao
 |tuple _ _=>cases ao
 |cf _ _=>cases ao
 |raw _ _=>cases ao
noncomputable def ax.un:ax->ax
 | .cf _ ab=>.list ab
 |d=>d
theorem aC.un{B:bo}{v:an}{d:ax}(r:aC B v d):aC B v d.un:=by
 cases r with
 |cf a b=>exact .list a b
 |raw a b=>exact .raw a b
 |ty Y=>exact .ty Y
 |none=>exact .none
 |bool b=>exact .bool b
 |int L t=>exact .int L t
 |str D t=>exact .str D t
 |bytes b t=>exact .bytes b t
 |adr a=>exact .adr a
 |list a b=>exact .list a b
 |tuple a b=>exact .tuple a b
noncomputable abbrev ce:=List (ah×List ax)
noncomputable def na(M:ce):ax->ax
 | .adr a=>match M.lookup a with
  |some ab=>.cf a ab
  |none=>.adr a
 |d=>d
noncomputable def mD(M:ce):bu->bu
 |[]=>[]
 |(D,d)::r=>(D,na M d)::mD M r
theorem s8(M:ce)(D:ay):∀ae:bu,(mD M ae).lookup D=(ae.lookup D).map (na M)
 |[]=>rfl
 |(am,d)::r=>by
  rw[mD,c1,c1]
  cases D==am
  .exact s8 M D r
  .rfl
noncomputable def iq(X:List ah)(M:ce):List ah:=X.filter λa=>(M.lookup a).isNone
theorem oW{X:List ah}{M:ce}:∀a∈iq X M,a∈X:=λa B=>(lJ.mp B).1
theorem PX{X:List ah}{M:ce}{a:ah}{ab}(B:M.lookup a=some ab):a∉iq X M:=λm=>by
 have:=(lJ.mp m).2
 rw[B]at this
 cases this
theorem jZ{X mh:List ah}{B:bo}(a9:∀a∈mh,a∈X):dS (dJ B X) (dJ B mh):=λa N e=>
 ei mh (fc _ e) λm=>by
  rw[fP _ (a9 a m)]at e
  cases e
structure aP (W:bj) (env:bB) (X:List ah) (ae:bu) (M:ce) (O:List (ah×bJ)) (Z:List ah) (av C:aq):Prop where
 c6:c0 X C
 G:fQ W env ae (a0 X C)
 ns:∃m,C.heap.Ns env.locals m
 new:av.heap.get? env.locals=none
 iZ:env.locals∉X
 cells:env.cells=[]
 el:∀aa ab,M.lookup aa=some ab->aa∈X/\(aa∈Z\/av.heap.get? aa=none)/\∃af,C.heap.PlainList aa af/\a3 (a0 X C) af.toList ab
 objs:∀a N,O.lookup a=some N->C.heap.get? a=some N/\M.lookup a=none/\a≠env.locals
 keep:cC Z av C
 mj:eg W (a0 X av)
 hS:∀b∈Z,b∈X
section
variable{W:bj}{I:br}{env:bB}{X:List ah}{ae:bu}{M dk:ce}{O cI:List (ah×bJ)}{Z nD:List ah}{av C s':aq}
theorem aP.open(ag:aP W env X ae M O Z av C):fQ W env (mD M ae) (a0 (iq X M) C):=by
 have k:dS (a0 X C) (a0 (iq X M) C):=jZ oW
 refine⟨ag.G.base.mono k,ag.G.kind,ag.G.globals,ag.G.builtins,λD d e=>?_⟩
 rw[s8]at e
 cases B:ae.lookup D with
 |none=>rw[B]at e;cases e
 |some lm=>
  rw[B]at e
  cases e
  refine jl (ag.G.vars D lm B) λq v r yR=>?_
  refine⟨q,v,?_,yR.mono k⟩
  cases r with
  |adr a=>
   show aC _ _ (match M.lookup a with |some ab=>.cf a ab|none=>.adr a)
   cases aI:M.lookup a with
   |none=>exact .adr a
   |some ab=>
    refine fW (ag.el a ab aI) λ_ _ af bz aV=>?_
    refine bH bz λY e=>?_;clear bz
    exact .cf ⟨Y,ei _ e (PX aI)⟩ (aV.mono k)
  |none=>exact .none
  |bool b=>exact .bool b
  |int L t=>exact .int L t
  |str D t=>exact .str D t
  |bytes b t=>exact .bytes b t
  |raw a b=>exact .raw (k.isList a) (b.mono k)
  |ty Y=>exact .ty Y
  |list a b=>exact .list (k.plain a) (b.mono k)
  |tuple a b=>exact .tuple (k.sZ a) (b.mono k)
  |cf a b=>exact .cf (k.plain a) (b.mono k)
theorem aP.jg(ag:aP W env X ae M O Z av C):c0 (iq X M) C:=λa B=>ag.c6 a (oW a B)
theorem cC.xy{Z nD:List ah}{av C s':aq}(a:cC Z av C)(b:cC nD C s')(B:∀D∈nD,D∈Z\/av.heap.get? D=none):cC Z av s':=by
 obtain⟨⟨h1,t1,rfl⟩,k1⟩:=a
 obtain⟨⟨aA,eE,rfl⟩,k2⟩:=b
 refine⟨⟨aA,eE,rfl⟩,λD N m e=>k2 D N (λq=>?_) (k1 D N m e)⟩
 rcases B D q with q|q
 .exact m q
 .rw[q]at e;cases e
theorem cC.view{Z X:List ah}{C s':aq}(k:cC Z C s')(B:∀b∈Z,b∈X):dS (a0 X C) (a0 X s'):=cC.hide k B
theorem aP.c2(ag:aP W env X ae M O Z av C)(k:cC nD C s')(aK:∀b∈nD,b∈X)(oI:∀b∈nD,b∈Z\/av.heap.get? b=none)(hex:∀b∈nD,∃N,s'.heap.get? b=some N)(gF:∀aa ab,dk.lookup aa=some ab->(M.lookup aa=some ab/\aa∉nD)\/(aa∈X/\(aa∈Z\/av.heap.get? aa=none)/\∃af,s'.heap.PlainList aa af/\a3 (a0 X s') af.toList ab))(gq:∀a N,cI.lookup a=some N->dk.lookup a=none/\a≠env.locals/\((O.lookup a=some N/\a∉nD)\/s'.heap.get? a=some N)):aP W env X ae dk cI Z av s':=by
 have Do:=k.view aK
 refine⟨ag.c6.c2 k λa _ q=>hex a q,ag.G.mono Do,?_,ag.new,ag.iZ,ag.cells,λaa ab e=>?_,λa N e=>?_,ag.keep.xy k oI,ag.mj,ag.hS⟩
 .refine bH ag.ns λm Y=>?_
  exact⟨m,Y.at' λN e=>k.keep _ _ (λq=>ag.iZ (aK _ q)) e⟩
 .rcases gF aa ab e with⟨h1,aA⟩|B
  .refine fW (ag.el aa ab h1) λa b af bz aV=>?_
   exact⟨a,b,af,bz.at λN e=>k.keep _ _ aA e,aV.mono Do⟩
  .exact B
 .refine fb (gq a N e) λh1 aA bn=>?_
  refine⟨?_,h1,aA⟩
  rcases bn with⟨bn,cK⟩|bn
  .exact k.keep _ _ cK (ag.objs a N bn).1
  .exact bn
theorem aP.keeps(ag:aP W env X ae M O Z av C)(k:cS C s'):aP W env X ae M O Z av s':=
 ag.c2 (cC.of (Z:=[]) k) (λ_ B=>nomatch B) (λ_ B=>nomatch B) (λ_ B=>nomatch B) (λaa ab e=>.inl ⟨e,λB=>nomatch B⟩) (λa N e=>⟨(ag.objs a N e).2.1,(ag.objs a N e).2.2,.inl ⟨e,λB=>nomatch B⟩⟩)
theorem aP.weak{d_:bu}(ag:aP W env X ae M O Z av C)(B:∀D d,d_.lookup D=some d->ae.lookup D=some d):aP W env X d_ M O Z av C:=
 {ag with G:=⟨ag.G.base,ag.G.kind,ag.G.globals,ag.G.builtins,λD d e=>ag.G.vars D d (B D d e)⟩}
theorem aP.j0{dk:ce}{cI:List (ah×bJ)}(ag:aP W env X ae M O Z av C)(B:∀D d,dk.lookup D=some d->M.lookup D=some d)(aD:∀D d,cI.lookup D=some d->O.lookup D=some d):aP W env X ae dk cI Z av C:=
 {ag with
  el:=λaa ab e=>ag.el aa ab (B aa ab e)
  objs:=λa N e=>by
   have:=ag.objs a N (aD a N e)
   refine⟨this.1,?_,this.2.2⟩
   cases q:dk.lookup a with
   |none=>rfl
   |some ab=>rw[B a ab q]at this;exact absurd this.2.1 (by simp)}
set_option tactic.hygienic true in
theorem aP.AH{D:ay}{v:an}{d:ax}{ai:Unit->aq->Prop}{aj:an->aq->Prop}(ag:aP W env X ae M O Z av C)(aS:env.kindOf D=some .local)(hd:(D==("__debug__":ay))=false)(r:aC (a0 X C) v d)(q:∀s',aP W env X ((D,d)::ae) M O Z av s'->mf (a0 X C) (a0 X s')->ai () s'):az W.M I (FC env D v) ai aj C:=by
 refine bH ag.ns λm Y=>?_
 with_reducible refine yj aS Y (λaD iK ec=>?_) (xc ag.G.kind)
 have zL:∀b,b≠env.locals->aD.get? b=C.heap.get? b:=λb ak=>ec.2 b ak
 have w4:mf (a0 X C) (dJ aD X):=λa N aR k e hd=>by
  have a8:=fc _ e
  refine ei _ ((zL a λau=>?_).trans a8) λm=>?_
  .subst au
   exact u_ Y N aR k a8 hd
  .rw[fP _ m]at e
   cases e
 have er:cC [env.locals] C {C with heap:=aD,toks:=C.toks+1}:=⟨⟨aD,_,rfl⟩,λb N gr e=>(zL b (by simpa using gr)).trans e⟩
 have bQ:eg W (dJ aD X):=ag.mj.mono ((ag.keep.xy er (λb ak=>by simp at ak;subst ak;exact .inr ag.new)).view ag.hS)
 refine q _ ⟨λa ha=>?_,⟨bQ,ag.G.kind,ag.G.globals,ag.G.builtins,λam rF e=>?_⟩,⟨_,iK⟩,ag.new,ag.iZ,ag.cells,λaa ab e=>?_,λa N e=>?_,ag.keep.xy er (λb ak=>by simp at ak;subst ak;exact .inr ag.new),ag.mj,ag.hS⟩ w4
 .refine bH (ag.c6 a ha) λN e=>?_
  exact⟨N,(zL a (λau=>ag.iZ (au▸ha))).trans e⟩
 .rw[c1]at e
  cases bZ:am==D with
  |true=>
   rw[bZ]at e
   cases e
   have:=(eq_of_beq bZ).symm
   subst this
   exact⟨hd,v,r.g_ w4,.loc aS (m' iK ag.iZ) (by simp)⟩
  |false=>
   rw[bZ]at e
   have cx:am≠D:=λau=>by subst au;simp at bZ
   refine jl (ag.G.vars am rF e) λq1 sa r9 rz=>?_
   refine⟨q1,sa,r9.g_ w4,?_⟩
   cases rz with
   |loc a lz V=>
    rename_i gM
    have aI:gM=m:=DA (lz.keeps cP) Y
    subst aI
    exact .loc a (m' iK ag.iZ) (by simp[cx,V])
   |cell a V L=>rw[ag.cells]at V;cases V
   |free a V L au=>rw[ag.cells]at V;cases V
 .refine fW (ag.el aa ab e) λa b af bz aV=>?_
  exact⟨a,b,af,bz.at λN e=>(zL aa (λau=>ag.iZ (au▸a))).trans e,aV.g_ w4⟩
 .refine fb (ag.objs a N e) λa1 a2 fJ=>?_
  exact⟨(zL a fJ).trans a1,a2,fJ⟩
theorem aP.store{D:ay}{v:an}{d:ax}{ai:Unit->aq->Prop}{aj:an->aq->Prop}(ag:aP W env X ae M O Z av C)(aS:env.kindOf D=some .local)(hd:(D==("__debug__":ay))=false)(r:aC (a0 X C) v d)(q:∀s',aP W env X ((D,d)::ae) M O Z av s'->ai () s'):az W.M I (FC env D v) ai aj C:=ag.AH aS hd r λs' i6 _=>q s' i6
theorem aP.I9(ag:aP W env X ae M O Z av C){a:ah}(B:C.heap.get? a=none):a∉X:=λm=>by
 refine bH (ag.c6 a m) λN e=>?_
 exact nomatch B.symm.trans e
theorem aP.adg(ag:aP W env X ae M O Z av C){a:ah}(B:C.heap.get? a=none):M.lookup a=none:=by
 cases q:M.lookup a with
 |none=>rfl
 |some ab=>exact absurd (ag.el a ab q).1 (ag.I9 B)
theorem aP.Qp(ag:aP W env X ae M O Z av C){a:ah}(B:C.heap.get? a=none):O.lookup a=none:=by
 cases q:O.lookup a with
 |none=>rfl
 |some N=>exact nomatch B.symm.trans (ag.objs a N q).1
theorem aP.rY(ag:aP W env X ae M O Z av C){a:ah}(B:C.heap.get? a=none):av.heap.get? a=none:=by
 cases q:av.heap.get? a with
 |none=>rfl
 |some N=>exact nomatch B.symm.trans (ag.keep.keep a N (λau=>ag.I9 B (ag.hS a au)) q)
theorem aP.m_(ag:aP W env X ae M O Z av C){a:ah}(B:C.heap.get? a=none):a≠env.locals:=λau=>by
 refine vu ag.ns λm N _ _ e _=>?_
 exact nomatch (au▸B).symm.trans e
theorem uu(C:aq):C.heap.get? C.heap.objs.size=none:=iC (eF _)
theorem IK{N:bJ}:dS (a0 X C) (dJ (C.heap.push N) (C.heap.objs.size::X)):=λa b0 e=>by
 have a8:=fc _ e
 refine ei _ (eu _ a8) λm=>?_
 rcases dw.mp m with m|m
 .exact I_ C.heap.get? m (uu C) a8
 .exact nomatch (fP _ m).symm.trans e
theorem aP.pushX(ag:aP W env X ae M O Z av C){N:bJ}(b2:autoParam (N.isFreed=false) tR):aP W env (C.heap.objs.size::X) ae M O Z av {C with heap:=C.heap.push N}:=by
 have a_:=uu C
 have k:cS C {C with heap:=C.heap.push N}:=ip C _
 have ns:=ag.ns
 refine⟨λa ha=>?_,ag.G.mono IK,ns.elim λm Y=>⟨m,Y.keeps (ed k)⟩,ag.new,λB=>(dw.mp B).elim (λau=>ag.m_ a_ au.symm) ag.iZ,ag.cells,λaa f1 e=>?_,λa b0 e=>⟨ed k _ _ (ag.objs a b0 e).1,(ag.objs a b0 e).2⟩,ag.keep.xy (cC.of (Z:=[]) k) (λ_ B=>nomatch B),ag.mj.mono (λa b0 e=>?_),λb ak=>.tail _ (ag.hS b ak)⟩
 .rcases dw.mp ha with B|ha
  .exact⟨_,B▸f_ _ b2⟩
  .exact(ag.c6 a ha).elim λN e=>⟨N,ed k _ _ e⟩
 .refine fW (ag.el aa f1 e) λa b ek bz r=>?_
  exact⟨.tail _ a,b,ek,bz.at λN e=>ed k _ _ e,r.mono IK⟩
 .have a8:=fc _ e
  refine ei _ a8 λm=>?_
  rcases dw.mp m with m|m
  .exact I_ av.heap.get? m (ag.rY a_) a8
  .exact nomatch (fP _ m).symm.trans e
theorem aP.ad0(ag:aP W env X ae M O Z av C){a:ah}{N:bJ}(B:C.heap.get? a=some N)(gF:M.lookup a=none)(lW:a≠env.locals):aP W env X ae M ((a,N)::O) Z av C:=
 {ag with objs:=λb dE e=>(lk e).elim (λau=>au.1▸au.2▸⟨B,gF,lW⟩) λau=>ag.objs b dE au.2}
theorem aP.adZ(ag:aP W env X ae M O Z av C){aa:ah}{ab:List ax}{af:Array an}(aK:aa∈X)(aQ:aa∈Z\/av.heap.get? aa=none)(bz:C.heap.PlainList aa af)(aV:a3 (a0 X C) af.toList ab)(gq:O.lookup aa=none):aP W env X ae ((aa,ab)::M) O Z av C:=
 {ag with
  el:=λiM f1 e=>(lk e).elim (λau=>au.1▸au.2▸⟨aK,aQ,af,bz,aV⟩) λau=>ag.el iM f1 au.2
  objs:=λb dE e=>⟨(ag.objs b dE e).1,by
   refine H c1 ?_;refine H (beq_false_of_ne λau:b=aa=>I_ (λD=>O.lookup D) au gq e) ?_
   exact(ag.objs b dE e).2.1,(ag.objs b dE e).2.2⟩}
end
section
variable{W:bj}{I:br}{env:bB}{X:List ah}{ae:bu}{M:ce}{O:List (ah×bJ)}{Z:List ah}{av C:aq}{ai:fj->aq->Prop}{aj:an->aq->Prop}
theorem aY.un{e:a'}{d:ax}(B:aY W I env ae e d):aY W I env ae e d.un:=⟨λX C aK G=>⟨λai aj q=>(B.on X C aK G).go ai aj λv s' k r=>q v s' k r.un⟩⟩
theorem aY.lF{e:a'}{a:ah}{ab:List ax}(B:aY W I env ae e (.cf a ab)):aY W I env ae e (.list ab):=B.un
theorem aP.push(ag:aP W env X ae M O Z av C){af:Array an}{ab:List ax}{Y:Nat}(aV:a3 (a0 X C) af.toList ab):aP W env (C.heap.objs.size::X) ae ((C.heap.objs.size,ab)::M) O Z av {C with heap:=C.heap.push {cls:=.type "list",data:=.seq af Y}}:=by
 exact ag.pushX.adZ (.head _) (.inr (ag.rY (uu C))) ⟨Y,f_ _ rfl⟩ (aV.mono IK) (ag.Qp (uu C))
theorem qP{D:ay}{bK al:bp}{e:a'}{aJ:List cT}{d:ax}(ag:aP W env X ae M O Z av C)(bw:aY W I env (mD M ae) e d)(b2:d.flat=true)(next:∀s',aP W env X ((D,d)::ae) M O Z av s'->az W.M I (bY aJ env) ai aj s')(aS:autoParam (env.kindOf D=some .local) tR)(hd:autoParam ((D==("__debug__":ay))=false) tD)(a9:autoParam (iE e (some (.Name D bK)) al.line env=pure false) tR):az W.M I (bY (.Assign [.Name D bK] e al::aJ) env) ai aj C:=by
 with_reducible refine eH (lN ((bw.on _ C ag.jg ag.open).go _ _ λv aG k1 aT=>?_) a9)
 exact(ag.keeps k1).store aS hd (aT.flat b2) λs' i6=>next s' i6
theorem my{D:ay}{bK al:bp}{e:a'}{aJ:List cT}{d:ax}(ag:aP W env X ae M O Z av C)(bw:aY W I env ae e d)(next:∀s',aP W env X ((D,d)::ae) M O Z av s'->az W.M I (bY aJ env) ai aj s')(aS:autoParam (env.kindOf D=some .local) tR)(hd:autoParam ((D==("__debug__":ay))=false) tD)(a9:autoParam (iE e (some (.Name D bK)) al.line env=pure false) tR):az W.M I (bY (.Assign [.Name D bK] e al::aJ) env) ai aj C:=by
 with_reducible refine eH (lN ((bw.on _ C ag.c6 ag.G).go _ _ λv aG k1 aT=>?_) a9)
 exact(ag.keeps k1).store aS hd aT λs' i6=>next s' i6
theorem uX{D:ay}{bK J al:bp}{aJ:List cT}(ag:aP W env X ae M O Z av C)(next:∀aa s',av.heap.get? aa=none->C.heap.get? aa=none->aP W env (aa::X) ((D,.adr aa)::ae) ((aa,[])::M) O Z av s'->az W.M I (bY aJ env) ai aj s')(aS:autoParam (env.kindOf D=some .local) tR)(hd:autoParam ((D==("__debug__":ay))=false) tD)(a9:autoParam (iE (.List [] J) (some (.Name D bK)) al.line env=pure false) tR):az W.M I (bY (.Assign [.Name D bK] (.List [] J) al::aJ) env) ai aj C:=by
 with_reducible refine eH (lN (E1 (U4 (v0 ?_ (eL _)))) a9)
 have bG:=ag.push (af:=([]:List an).toArray) (ab:=[]) (Y:=0) .nil
 have zJ:av.heap.get? C.heap.objs.size=none:=by
  have aI:=bG.el C.heap.objs.size [] (by simp)
  rcases aI.2.1 with B|B
  .refine bH (ag.c6 _ (ag.hS _ B)) λN e=>?_
   exact absurd rfl (hA (iL e))
  .exact B
 exact bG.store aS hd (.adr _) λs' i6=>next _ s' zJ (iC (eF _)) i6
theorem nX{am:ay}{py:bp}{aa:ah}(bZ:ae.lookup am=some (.adr aa))(ag:aP W env X ae M O Z av C){ai:an->aq->Prop}(q:∀s',cS C s'->ai (.ref aa) s'):az W.M I (b1 (.Name am py) env) ai aj C:=
 ((aW bZ).on X C ag.c6 ag.G).go ai aj λv s' k r=>by refine aC.eD r ?_;exact q s' k
theorem zY{D am:ay}{bK py J al:bp}{ct:a'}{aJ:List cT}{aa:ah}{ab:List ax}{L:Int}{d:ax}(ag:aP W env X ae M O Z av C)(bZ:ae.lookup am=some (.adr aa))(cn:M.lookup aa=some ab)(bw:aY W I env (mD M ae) ct (.int L))(aQ:0<=L)(h1:L<2^63)(aU:ab[L.toNat]? =some d)(next:∀s',aP W env X ((D,d)::ae) M O Z av s'->az W.M I (bY aJ env) ai aj s')(aF:autoParam (qd ct=true) tR)(aS:autoParam (env.kindOf D=some .local) tR)(hd:autoParam ((D==("__debug__":ay))=false) tD)(a9:autoParam (iE (.Subscript (.Name am py) ct J) (some (.Name D bK)) al.line env=pure false) tR):az W.M I (bY (.Assign [.Name D bK] (.Subscript (.Name am py) ct J) al::aJ) env) ai aj C:=by
 with_reducible refine eH (lN (vI (nX bZ ag λaG k1=>?_)) a9)
 have bG:=ag.keeps k1
 with_reducible refine(bw.on _ aG bG.jg bG.open).go _ _ λv a5 k2 bb=>?_
 refine aC.eI bb λ_=>?_
 have bN:=bG.keeps k2
 refine fW (bN.el aa ab cn) λ_ _ af bz aV=>?_
 refine cm (aV.get aU) λv bA ez=>?_
 with_reducible refine og (oh bz.isList) vY.lookup (LO bz.isList aQ h1 (by simpa using bA) ?_) (tj aF _ _)
 exact bN.store aS hd ez λs' i6=>next s' i6
theorem JM{l:ah}{items:Array an}{k:Int}{t:dN}{v:an}{ai:Unit->aq->Prop}(aN:C.heap.PlainList l items)(aQ:0<=k)(CE:k<2^63)(a_:k<items.size)(f8:∀aD,aD.PlainList l (items.setIfInBounds k.toNat v)->mJ l C.heap aD->ai () {C with heap:=aD}):az W.M I (LG (.ref l) (.int k t) v) ai aj C:=by
 refine bH aN λY a6=>?_;clear aN
 have dI:C.TypeIs (.ref l) "list":=⟨_,a6,rfl⟩
 unfold LG
 with_reducible refine ib ?_
 refine aM (U_ dI (by decide) ?_)
 refine aM (yg (name:=ia "__setitem__") dI UR (l' UR dI entry_list_setitem ?_ (args_list_setitem _ _ _)))
 show az _ _ (T1 (.int k t)>>=_) _ _ C
 refine aM (U5 (UI aQ CE) ?_)
 refine bH (SE aQ) λaB dC=>?_;subst dC
 have bL:aB<items.size:=i1.mp a_
 have nQ:items[aB]? =some items[aB]:=A0 bL
 show az _ _ ((seqItemAt l aB>>=λr=>pure (r.map (aB,·)))>>=_) _ _ C
 refine aM (aM (U9 a6 rfl (b6 ?_)))
 refine H nQ ?_
 have be:(C.heap.update l (gw (·.setIfInBounds aB v))).PlainList l (items.setIfInBounds aB v):=⟨_,tG a6 λaR=>aR.setIfInBounds aB v⟩
 show az _ _ (setSeqItemAt l aB v>>=_) _ _ C
 refine aM (wpAny_setSeqItemAt a6 rfl ?_)
 first
  |exact aM (b6 (b6 ⟨.none,rfl,b6 (f8 _ be (pv ..))⟩))
  |exact b6 ⟨.none,rfl,b6 (f8 _ be (pv ..))⟩
theorem a3.set{B:bo}{af ab}(r:a3 B af ab){v d}(L:Nat)(q:aC B v d):a3 B (af.set L v) (ab.set L d):=
 a3.ind (P:=λaf ab=>∀L,a3 B (af.set L v) (ab.set L d)) (λL=>.nil) (λ_ _ _ _ a b bf L=>by cases L;exact .cons q b;exact .cons a (bf _)) r L
theorem aP.mut(ag:aP W env X ae M O Z av C){aa:ah}{ab f1:List ax}{aD:bo}{af:Array an}(cn:M.lookup aa=some ab)(aN:aD.PlainList aa af)(a9:mJ aa C.heap aD)(aV:a3 (a0 X C) af.toList f1):aP W env X ae ((aa,f1)::M) O Z av {C with heap:=aD}:=by
 refine fb (ag.el aa ab cn) λgW wC _=>?_
 have k:cC [aa] C {C with heap:=aD}:=⟨⟨aD,C.toks,rfl⟩,λb N m e=>(a9.2 b (by simpa using m)).trans e⟩
 have aK:∀b∈[aa],b∈X:=λb ak=>by simp at ak;subst ak;exact gW
 refine ag.c2 k aK (λb ak=>by simp at ak;subst ak;exact wC) (λb ak=>by simp at ak;subst ak;exact t_.there aN) (λiM XT e=>?_) (λa N e=>?_)
 .rw[c1]at e
  cases B:iM==aa with
  |true=>
   rw[B]at e
   cases e
   have:=(eq_of_beq B).symm
   subst this
   exact .inr ⟨gW,wC,af,aN,aV.mono (k.view aK)⟩
  |false=>
   rw[B]at e
   exact .inl ⟨e,by simpa using B⟩
 .refine fb (ag.objs a N e) λa1 a2 fJ=>?_
  have cx:a≠aa:=λau=>by subst au;rw[cn]at a2;cases a2
  refine⟨?_,fJ,.inl ⟨e,by simpa using cx⟩⟩
  refine H c1 ?_
  have:(a==aa)=false:=by simpa using cx
  refine H this ?_
  exact a2
theorem z0{am:ay}{py J al:bp}{ct jk:a'}{aJ:List cT}{aa:ah}{ab:List ax}{L:Int}{d:ax}(ag:aP W env X ae M O Z av C)(bZ:ae.lookup am=some (.adr aa))(cn:M.lookup aa=some ab)(bA:aY W I env ae jk d)(bw:aY W I env (mD M ae) ct (.int L))(aQ:0<=L)(h1:L<2^63)(aU:L<ab.length)(next:∀s',aP W env X ae ((aa,ab.set L.toNat d)::M) O Z av s'->az W.M I (bY aJ env) ai aj s')(a9:autoParam (iE jk (some (.Subscript (.Name am py) ct J)) al.line env=pure false) tR):az W.M I (bY (.Assign [.Subscript (.Name am py) ct J] jk al::aJ) env) ai aj C:=by
 with_reducible refine eH (UV ((bA.on _ C ag.c6 ag.G).go _ _ λv aG k1 aT=>?_) a9)
 have bG:=ag.keeps k1
 with_reducible refine nX bZ bG λa5 k2=>?_
 have bN:=bG.keeps k2
 with_reducible refine(bw.on _ a5 bN.jg bN.open).go _ _ λw bv dr e0=>?_
 refine aC.eI e0 λ_=>?_
 have bR:=bN.keeps dr
 refine fW (bR.el aa ab cn) λ_ _ af bz aV=>?_
 have dp:af.size=ab.length:=by simpa using aV.length
 refine JM bz aQ h1 (by lia) λaD il ec=>?_
 refine next _ (bR.mut cn il ec ?_)
 refine H Kh ?_
 exact aV.set _ (aT.mono ((cg k2).trans (cg dr)))
theorem I2{aa:ah}{af:Array an}(bz:C.heap.PlainList aa af):∀a,nk aa= .ref a->∃dE,C.heap.get? a=some dE/\dE.dict=none:=λa e=>by
 cases e
 refine bH bz λY B=>?_;clear bz
 exact⟨_,B,rfl⟩
theorem nT{am:ay}{py dn al J:bp}{e:a'}{aJ:List cT}{aa:ah}{ab:List ax}{d:ax}(ag:aP W env X ae M O Z av C)(bZ:ae.lookup am=some (.adr aa))(cn:M.lookup aa=some ab)(bw:aY W I env ae e d)(aH:ab.length<=bc)(next:∀s',aP W env X ae ((aa,ab++[d])::M) O Z av s'->az W.M I (bY aJ env) ai aj s')(bV:autoParam (eQ e=false) tR)(fS:autoParam ((dn.endLine==al.line)=true) tR)(fR:autoParam (jK (.Name am py) "append" env (b1 (.Name am py) env)=b1 (.Name am py) env) tR)(aU:autoParam (UK env=false) tR)(a9:autoParam (iE (.Call (.Attribute (.Name am py) "append" dn) [e] [] al) none J.line env=pure false) tR):az W.M I (bY (.Expr (.Call (.Attribute (.Name am py) "append" dn) [e] [] al) J::aJ) env) ai aj C:=by
 with_reducible refine eH (UX (xX fR (h8 bV []) fS (nX bZ ag λaG k1=>?_)) aU a9)
 have bG:=ag.keeps k1
 refine fW (bG.el aa ab cn) λ_ _ af bz aV=>?_
 refine⟨"list","list.append",F.plainAttrs_list,slot_list_append,F.type_list_append,oh bz.isList,I2 bz,?_⟩
 with_reducible refine jQ (λ_ e=>nomatch e) rfl (k' (g0 ((bw.on X aG bG.c6 bG.G).go _ _ λbE a5 k2 bb=>jJ ?_)))
 have bN:=bG.keeps k2
 refine fW (bN.el aa ab cn) λ_ _ af bz aV=>?_
 have dp:af.size=ab.length:=by simpa using aV.length
 show az _ _ (df (.builtin "list.append") [_,_]) _ _ _
 refine U6 bz (λaD il ec=>?_) (by refine H dp ?_;exact jD aH)
 refine next _ (bN.mut cn il ec ?_)
 refine H Et ?_
 exact a3.append (.cons bb .nil) aV
theorem nU{V:a'}{body kX aJ:List cT}{al:bp}{b:Bool}(ag:aP W env X ae M O Z av C)(aO:ej W I env (mD M ae) V b)(next:∀s',aP W env X ae M O Z av s'->az W.M I (bY (if b then body else kX) env) (λao dz=>match ao with | .next=>az W.M I (bY aJ env) ai aj dz|ao=>ai ao dz) aj s'):az W.M I (bY (.If V body kX al::aJ) env) ai aj C:=by
 with_reducible refine eH (yf ((aO.on _ C ag.jg ag.open).go _ _ λaG k1=>?_))
 have:=next aG (ag.keeps k1)
 cases b<;>exact this
theorem rU{e:a'}{al:bp}{aJ:List cT}{d:ax}(ag:aP W env X ae M O Z av C)(bw:aY W I env ae e d)(q:∀v s',aP W env X ae M O Z av s'->aC (a0 X s') v d->ai (.ret v) s'):az W.M I (bY (.Return (some e) al::aJ) env) ai aj C:=by
 with_reducible refine eH (tV ((bw.on X C ag.c6 ag.G).go _ _ λv s' k r=>?_))
 exact q v s' (ag.keeps k) r
end
noncomputable def fM:ax->List Nat
 | .str D=>D.cps.toList
 | .tuple (d::_)=>fM d
 | .list (d::_)=>fM d
 | .cf _ (d::_)=>fM d
 |_=>[]
noncomputable def da(a b:ax):Bool:=decide (fM a<fM b)
structure nu (L:jP) (S:ax->Prop):Prop where
 keyed:∀d,S d->ic L (fM d) d.un
 inj:∀d bO,S d->S bO->fM d=fM bO->d.un=bO.un
section
variable{W:bj}{I:br}{env:bB}{X:List ah}{ae:bu}{M:ce}{O:List (ah×bJ)}{Z:List ah}{av C:aq}{ai:fj->aq->Prop}{aj:an->aq->Prop}
theorem F0{L:jP}{S:ax->Prop}{l r:a'}{al:bp}{cQ dU:ax}(K:nu L S)(aN:aY W I env ae l cQ)(aE:aY W I env ae r dU)(h1:S cQ)(aA:S dU)(be:I.units+L.deep<c7)(aI:autoParam (kH .Lt r=false) tW):ej W I env ae (.Compare l [.Lt] [r] al) (da cQ dU):=
 mS aN aE (λX C bx bE aK _ aT bb=>⟨λai aj q=>by
  have ar:=P8 (C:=C) (I:=I) (K.keyed _ h1) (K.keyed _ aA) (K.inj _ _ h1 aA) (aT.un.mono cP) (bb.un.mono cP) be
  exact ar W.prog W.w aj (λv s'=>ai v s') (q _ _ (gb C) (.bool _))⟩) aI
theorem C_{e2:Type}{RY:a'}{body aJ:List cT}{al:bp}(fp:e2->List ah)(gu:e2->bu)(fY:e2->ce)(eG:e2->List (ah×bJ))(xE:e2->Nat)(P:e2->Prop)(t:e2->Bool)(yt:aq->Prop)(f0:e2)(abn:∀a,P a->ej W I env (mD (fY a) (gu a)) RY (t a))(nK:∀a C jL,P a->t a=true->aP W env (fp a) (gu a) (fY a) (eG a) Z av C->az W.M I (bY body env) (λao s'=>match ao with
   | .next | .cont=>∃ci,P ci/\xE ci<xE a/\aP W env (fp ci) (gu ci) (fY ci) (eG ci) Z av s'
   | .brk=>yt s'
   | .ret v=>ai (.ret v) s') jL C)(Z_:∀a C,P a->t a=false->aP W env (fp a) (gu a) (fY a) (eG a) Z av C->yt C)(aQ:P f0)(ag:aP W env (fp f0) (gu f0) (fY f0) (eG f0) Z av C)(next:∀s',yt s'->az W.M I (bY aJ env) ai aj s'):az W.M I (bY (.While RY body [] al::aJ) env) ai aj C:=by
 refine eH (wpAny_While ?_)
 refine codeAny_whileLoop (λY s'=>∃a,Y=xE a/\P a/\aP W env (fp a) (gu a) (fY a) (eG a) Z av s') (λY s' ij=>?_) (xE f0) ⟨f0,rfl,aQ,ag⟩
 refine iA ij λa dC cL i6=>?_;clear ij;subst dC
 refine((abn a cL).on _ s' i6.jg i6.open).go _ _ λaG k1=>?_
 have bG:=i6.keeps k1
 cases cp:t a with
 |true=>
  simp only[if_true]
  refine fe (nK a aG _ cL cp bG) (λao a5 aA=>?_) λ_ _ e=>e
  cases ao with
  |next=>obtain⟨ci,h1,aA,bn⟩:=aA;exact⟨_,aA,ci,rfl,h1,bn⟩
  |cont=>obtain⟨ci,h1,aA,bn⟩:=aA;exact⟨_,aA,ci,rfl,h1,bn⟩
  |brk=>exact next a5 aA
  |ret v=>exact aA
 |false=>
  simp only[fi,if_false]
  exact dq (next aG (Z_ a aG cL cp bG))
theorem m8{V:a'}{body kX aJ:List cT}{al:bp}{b:Bool}(ag:aP W env X ae M O Z av C)(aO:ej W I env ae V b)(next:∀s',aP W env X ae M O Z av s'->az W.M I (bY (if b then body else kX) env) (λao dz=>match ao with | .next=>az W.M I (bY aJ env) ai aj dz|ao=>ai ao dz) aj s'):az W.M I (bY (.If V body kX al::aJ) env) ai aj C:=by
 with_reducible refine eH (yf ((aO.on _ C ag.c6 ag.G).go _ _ λaG k1=>?_))
 have:=next aG (ag.keeps k1)
 cases b<;>exact this
theorem ic.adm{L:jP}{k:List Nat}{d:ax}(K:ic L k d.un)(M:ce):na M d=d:=by
 cases d<;>first |rfl|(cases K)
noncomputable def i8{a4 d9:Type}[BEq a4]:List (a4×d9)->List (a4×d9)->Prop
 |[],_=>True
 |(D,d)::r,b=>b.lookup D=some d/\i8 r b
theorem i8.get{a4 d9:Type}[BEq a4][LawfulBEq a4]{a b:List (a4×d9)}(B:i8 a b):∀D d,a.lookup D=some d->b.lookup D=some d:=by
 induction a with
 |nil=>exact λ_ _ e=>nomatch e
 |cons J r bf=>
  intro D d e
  rcases lk (a:=J.1) (d:=J.2) (l:=r) e with⟨rfl,rfl⟩|⟨_,e⟩
  .exact B.1
  .exact bf B.2 D d e
theorem aP.to{d_:bu}{dk:ce}{cI:List (ah×bJ)}(ag:aP W env X ae M O Z av C)(B:i8 d_ ae)(gF:i8 dk M)(gq:i8 cI O):aP W env X d_ dk cI Z av C:=(ag.weak B.get).j0 gF.get gq.get
theorem m7{ao:ah}{e4:bJ}{fd:pu}{body:List cT}{names:List ay}{ab:List ax}{af:List an}{ai:an->aq->Prop}(aa:hC W ao e4 fd body names)(aN:names.length=ab.length)(bk:I.depth<d3)(aK:c0 X C)(bQ:eg W (a0 X C))(aV:a3 (a0 X C) af ab)(nS:∀b∈Z,b∈X)(gF:∀aa ab,M.lookup aa=some ab->aa∈Z/\∃af,C.heap.PlainList aa af/\a3 (a0 X C) af.toList ab)(gq:∀a N,O.lookup a=some N->C.heap.get? a=some N/\M.lookup a=none)(B:∀ar s',aP W (callEnvC fd ar ao) X (names.zip ab) M O Z C s'->az W.M (I.deeper (callEnvC fd ar ao)) (bY body (callEnvC fd ar ao)) (λgU dz=>ai (match gU with | .ret v=>v|_=>.none) dz) (λe dz=>az W.M (I.deeper (callEnvC fd ar ao)) (Bs (callEnvC fd ar ao) e) (λ_ bv=>aj e bv) aj dz) s')(iJ:autoParam (∀Y,rk Y fd.scope.names []=[]) tI):az W.M I (df (.ref ao) af) ai aj C:=by
 have bW:af.length=names.length:=by refine H aV.length ?_;refine H aN ?_;rfl
 refine enter (bQ.mono cP) aa.obj aa.fn aa.body aa.closure aa.code bk (aa.bind af bW) (aa.Dl af) aa.co aa.gen aa.kind λs' D=>?_
 refine d8 (Ny aa aN aK bQ aV D) λN G=>?_
 refine B _ s' ⟨aK.mono N.keeps,G,N.ns,N.new,je aK N.new,iJ _,λiM f1 e=>?_,λa dE e=>?_,cC.of N.keeps,bQ,nS⟩
 .refine jl (gF iM f1 e) λaH ee bz r=>?_
  exact⟨nS _ aH,.inl aH,ee,bz.at λdE e=>ed N.keeps _ _ e,r.mono (cg N.keeps)⟩
 .refine d8 (gq a dE e) λa8 bm=>?_
  refine⟨ed N.keeps _ _ a8,bm,λau=>?_⟩
  have:=N.new
  rw[<-au,a8]at this
  cases this
end
section
variable{W:bj}{I:br}{env:bB}{X:List ah}{ae:bu}{M:ce}{O:List (ah×bJ)}{Z:List ah}{av C:aq}{ai:fj->aq->Prop}{aj:an->aq->Prop}
theorem Mc{D am:a'}{al:bp}{a b:Bool}(h1:ej W I env ae D a)(aA:a=true->ej W I env ae am b):ej W I env ae (.BoolOp .And [D,am] al) (a&&b):=⟨λX C aK G=>⟨λai aj q=>by
 with_reducible refine TO ((h1.on X C aK G).go _ _ λaG k1=>?_)
 cases ha:a
 .simp only[fi,if_false]
  rw[ha]at q
  exact q aG k1
 .simp only[if_true]
  with_reducible refine TO (((aA ha).on X aG (aK.mono k1) (G.mono (cg k1))).go _ _ λa5 k2=>?_)
  rw[ha]at q
  cases ak:b
  .simp only[fi,if_false]
   rw[ak]at q
   exact q a5 (b5 k1 k2)
  .simp only[if_true]
   rw[ak]at q
   exact isTrue_and_nil (q a5 (b5 k1 k2))⟩⟩
theorem BP{D am:a'}{al:bp}{a b:Bool}(h1:ej W I env ae D a)(aA:a=false->ej W I env ae am b):ej W I env ae (.BoolOp .Or [D,am] al) (a||b):=⟨λX C aK G=>⟨λai aj q=>by
 with_reducible refine E3 ((h1.on X C aK G).go _ _ λaG k1=>?_)
 cases ha:a
 .simp only[fi,if_false]
  with_reducible refine E3 (((aA ha).on X aG (aK.mono k1) (G.mono (cg k1))).go _ _ λa5 k2=>?_)
  rw[ha]at q
  cases ak:b
  .simp only[fi,if_false]
   rw[ak]at q
   exact isTrue_or_nil (q a5 (b5 k1 k2))
  .simp only[if_true]
   rw[ak]at q
   exact q a5 (b5 k1 k2)
 .simp only[if_true]
  rw[ha]at q
  exact q aG k1⟩⟩
set_option tactic.hygienic true in
theorem yz{e:a'}{ab:List ax}(B:aY W I env ae e (.list ab))(aH:ab.length<=bc)(bw:autoParam (∀lG,tQ e env lG=(do let v<-lG;sj e.pos;mO [v] (tT v))) tI):ej W I env ae e (!ab.isEmpty):=⟨λX C aK G=>⟨λai aj q=>by
 with_reducible refine Bk ((B.on X C aK G).go _ _ λv aG k1 aT=>?_) (bw _)
 refine aC.gD aT λ_ _ l a=>?_
 rename_i g5 af
 have e:af.size=ab.length:=a.length
 have bm:af.isEmpty=ab.isEmpty:=by
  cases ab with
  |nil=>simp at e;simp[e]
  |cons d r=>simp at e;simp[Array.isEmpty,e]
 with_reducible refine wpAny_truthy_list (cP.plain l).isList (kQ (cu (j9 e) aH) (by decide)) ?_
 refine H bm ?_
 exact q _ (b5 k1 (ey aG _))⟩⟩
theorem aP.item{am:ay}{py J:bp}{ct:a'}{aa:ah}{ab:List ax}{L:Int}{d:ax}(ag:aP W env X ae M O Z av C)(bZ:ae.lookup am=some (.adr aa))(cn:M.lookup aa=some ab)(bw:aY W I env (mD M ae) ct (.int L))(aQ:0<=L)(h1:L<2^63)(aU:ab[L.toNat]? =some d)(aF:autoParam (qd ct=true) tR):dZ W X I (b1 (.Subscript (.Name am py) ct J) env) d C:=⟨λai aj q=>by
 with_reducible refine vI (nX bZ ag λaG k1=>?_)
 have bG:=ag.keeps k1
 with_reducible refine(bw.on _ aG bG.jg bG.open).go _ _ λv a5 k2 bb=>?_
 refine aC.eI bb λ_=>?_
 have bN:=bG.keeps k2
 refine fW (bN.el aa ab cn) λ_ _ af bz aV=>?_
 refine cm (aV.get aU) λv bA ez=>?_
 with_reducible refine og (oh bz.isList) vY.lookup (LO bz.isList aQ h1 (by simpa using bA) ?_) (tj aF _ _)
 exact q v a5 (b5 k1 k2) ez⟩
theorem C9{D:ay}{bK al:bp}{e:a'}{aJ:List cT}{d:ax}(ag:aP W env X ae M O Z av C)(bw:dZ W X I (b1 e env) d C)(next:∀s',aP W env X ((D,d)::ae) M O Z av s'->az W.M I (bY aJ env) ai aj s')(aS:autoParam (env.kindOf D=some .local) tR)(hd:autoParam ((D==("__debug__":ay))=false) tD)(a9:autoParam (iE e (some (.Name D bK)) al.line env=pure false) tR):az W.M I (bY (.Assign [.Name D bK] e al::aJ) env) ai aj C:=by
 with_reducible refine eH (lN (bw.go _ _ λv aG k1 aT=>?_) a9)
 exact(ag.keeps k1).store aS hd aT λs' i6=>next s' i6
theorem abY{am:ay}{py J al:bp}{ct jk:a'}{aJ:List cT}{aa:ah}{ab:List ax}{L:Int}{d:ax}(ag:aP W env X ae M O Z av C)(bZ:ae.lookup am=some (.adr aa))(cn:M.lookup aa=some ab)(bA:dZ W X I (b1 jk env) d C)(bw:aY W I env (mD M ae) ct (.int L))(aQ:0<=L)(h1:L<2^63)(aU:L<ab.length)(next:∀s',aP W env X ae ((aa,ab.set L.toNat d)::M) O Z av s'->az W.M I (bY aJ env) ai aj s')(a9:autoParam (iE jk (some (.Subscript (.Name am py) ct J)) al.line env=pure false) tR):az W.M I (bY (.Assign [.Subscript (.Name am py) ct J] jk al::aJ) env) ai aj C:=by
 with_reducible refine eH (UV (bA.go _ _ λv aG k1 aT=>?_) a9)
 have bG:=ag.keeps k1
 with_reducible refine nX bZ bG λa5 k2=>?_
 have bN:=bG.keeps k2
 with_reducible refine(bw.on _ a5 bN.jg bN.open).go _ _ λw bv dr e0=>?_
 refine aC.eI e0 λ_=>?_
 have bR:=bN.keeps dr
 refine fW (bR.el aa ab cn) λ_ _ af bz aV=>?_
 have dp:af.size=ab.length:=by simpa using aV.length
 refine JM bz aQ h1 (by omega) λaD il ec=>?_
 refine next _ (bR.mut cn il ec ?_)
 rw[Kh]
 exact aV.set _ (aT.mono ((cg k2).trans (cg dr)))
theorem Nh{a4:Type}:∀l:List a4,l.eraseIdx (l.length - 1)=l.dropLast
 |[]=>rfl
 |[a]=>rfl
 |a::b::r=>by
  have:=Nh (b::r)
  simp only[i3,Nat.add_sub_cancel]at this ⊢
  refine H List.eraseIdx_cons_succ ?_;refine H this ?_
  rfl
theorem acN{a:ah}{af:Array an}{v:an}{P:pt->aq->Prop}{aj:an->aq->Prop}(bz:C.heap.PlainList a af)(bA:af.toList.getLast? =some v)(aH:af.size<=bc)(q:∀aD,aD.PlainList a af.pop->mJ a C.heap aD->P (.done (.ret v)) {C with heap:=aD}):az W.M I (fX.«list.pop» ⟨[.ref a],[]⟩) P aj C:=by
 refine bH bz λY a6=>?_;clear bz
 have cx:0<af.size:=by
  rcases Nat.eq_zero_or_pos af.size with B|B
  .have:af.toList=[]:=by simpa using B
   rw[this]at bA
   cases bA
  .exact B
 have aN:af[af.size - 1]? =some v:=by
  rw[Ky]at bA
  simpa using bA
 have CI:vV (-1) af.size=some (af.size - 1):=by
  unfold vV
  simp
  refine H (Qf cx) ?_
  exact⟨⟨fG _,i1.mpr (Bh cx xQ)⟩,rfl⟩
 have p2:af.eraseIdxIfInBounds (af.size - 1)=af.pop:=by
  unfold Array.eraseIdxIfInBounds
  refine H (dif_pos (Bh cx xQ)) ?_
  apply sb.mp
  refine H Array.toList_eraseIdx ?_;refine H Sv ?_
  exact Nh af.toList
 unfold fX.«list.pop»
 refine aM (m:=UO "list.pop" "pop" 0 1 _) (b6 ?_)
 refine aM (b6 ?_)
 simp only[show TY (-1)=true by decide,vx,fi,if_false]
 refine aM (E4 a6 rfl ?_)
 have bw:af.isEmpty=false:=decide_eq_false (by exact gR (aL [_] 623845130257 rfl cx))
 simp only[bw,fi,if_false,CI,Option.bind,aN,Option.map]
 refine aM (Bl a6 rfl ?_ (jD aH) (by show(af.eraseIdxIfInBounds (af.size - 1)).size<=_;refine H p2 ?_;refine H Array.size_pop ?_;exact cu (hh _ _) (cu (jD aH) (pq _))))
 refine b6 (q _ ?_ (pv ..))
 refine b' p2 ?_
 exact⟨_,tG a6 λaR=>aR.eraseIdxIfInBounds (af.size - 1)⟩
theorem abU{D am:ay}{bK py dn al J:bp}{aJ:List cT}{aa:ah}{ab:List ax}{d:ax}(ag:aP W env X ae M O Z av C)(bZ:ae.lookup am=some (.adr aa))(cn:M.lookup aa=some ab)(aN:ab.getLast? =some d)(aH:ab.length<=bc)(next:∀s',aP W env X ((D,d)::ae) ((aa,ab.dropLast)::M) O Z av s'->az W.M I (bY aJ env) ai aj s')(fS:autoParam ((dn.endLine==al.line)=true) tR)(fR:autoParam (jK (.Name am py) "pop" env (b1 (.Name am py) env)=b1 (.Name am py) env) tR)(aS:autoParam (env.kindOf D=some .local) tR)(hd:autoParam ((D==("__debug__":ay))=false) tD)(a9:autoParam (iE (.Call (.Attribute (.Name am py) "pop" dn) [] [] al) (some (.Name D bK)) J.line env=pure false) tR):az W.M I (bY (.Assign [.Name D bK] (.Call (.Attribute (.Name am py) "pop" dn) [] [] al) J::aJ) env) ai aj C:=by
 with_reducible refine eH (lN (E9 fR fS (nX bZ ag λaG k1=>?_)) a9)
 have bG:=ag.keeps k1
 refine fW (bG.el aa ab cn) λ_ _ af bz aV=>?_
 refine⟨"list","list.pop",F.plainAttrs_list,F.slot_list_pop,F.type_list_pop,oh bz.isList,I2 bz,?_⟩
 with_reducible refine jQ (λ_ e=>nomatch e) rfl (TN ?_)
 show az _ _ (df (.builtin "list.pop") [_]) _ _ _
 have dp:af.size=ab.length:=by simpa using aV.length
 rw[Ky]at aN
 refine cm (aV.get aN) λv bA ez=>?_
 have C4:af.toList.getLast? =some v:=by
  refine H (Ky) ?_
  refine H (show af.toList.length=ab.length by simpa using dp) ?_
  exact bA
 refine l' F.slot_list_pop (oh bz.isList) F.entry_list_pop (acN bz C4 (by exact bX [_,_] 3104555548123538338971053834924352 rfl dp aH) λaD il ec=>⟨v,rfl,?_⟩) (F.args_list_pop_1 _)
 refine(bG.mut (f1:=ab.dropLast) cn il ec ?_).store aS hd (ez.mono ?_) λs' i6=>next s' i6
 .refine H Sv ?_;refine H Kv ?_;refine H Kv ?_
  refine H (show af.toList.length=ab.length by simpa using dp) ?_
  exact aV.take _
 .refine d8 (bG.el aa ab cn) λgW _=>?_
  exact cC.view (Z:=[aa]) (s':={aG with heap:=aD}) ⟨⟨aD,aG.toks,rfl⟩,λb N m e=>(ec.2 b (by simpa using m)).trans e⟩ (λb ak=>by simp at ak;subst ak;exact gW)
structure jN (X:List ah) (aa:ah) (ab:List ax) (C:aq):Prop where
 mem:aa∈X
 is:∃af,C.heap.PlainList aa af/\a3 (a0 X C) af.toList ab
theorem aP.has(ag:aP W env X ae M O Z av C){aa:ah}{ab:List ax}(cn:M.lookup aa=some ab):jN X aa ab C:=let⟨a,_,B⟩:=ag.el aa ab cn;⟨a,B⟩
theorem aP.called(ag:aP W env X ae M O Z av C){s':aq}{aa:ah}{ab f1:List ax}(cn:M.lookup aa=some ab)(k:cC [aa] C s')(B:jN X aa f1 s'):aP W env X ae ((aa,f1)::M) O Z av s':=by
 refine fb (ag.el aa ab cn) λgW wC _=>?_
 have aK:∀b∈[aa],b∈X:=λb ak=>by simp at ak;subst ak;exact gW
 refine ag.c2 k aK (λb ak=>by simp at ak;subst ak;exact wC) (λb ak=>by simp at ak;subst ak;refine cm B.is λaf bz _=>?_;exact t_.there bz) (λiM XT e=>?_) (λa N e=>?_)
 .rw[c1]at e
  cases cE:iM==aa with
  |true=>
   rw[cE]at e
   cases e
   have:=(eq_of_beq cE).symm
   subst this
   exact .inr ⟨gW,wC,B.is⟩
  |false=>
   rw[cE]at e
   exact .inl ⟨e,by simpa using cE⟩
 .refine fb (ag.objs a N e) λa1 a2 fJ=>?_
  have cx:a≠aa:=λau=>by subst au;rw[cn]at a2;cases a2
  refine⟨?_,fJ,.inl ⟨e,by simpa using cx⟩⟩
  refine H c1 ?_
  have:(a==aa)=false:=by simpa using cx
  refine H this ?_
  exact a2
theorem aeP{B aD:bo}{v:an}{d:ax}(r:aC B v (na M d))(ao:d.flat=true):aC aD v d:=by
 cases d with
 |adr a=>
  have:v= .ref a:=by
   unfold na at r
   dsimp only at r
   split at r<;>(cases r;rfl)
  subst this
  exact .adr a
 |none=>exact r.flat rfl
 |bool b=>exact r.flat rfl
 |int L=>exact r.flat rfl
 |str D=>exact r.flat rfl
 |bytes b=>exact r.flat rfl
 |ty Y=>exact r.flat rfl
 |tuple _=>cases ao
 |list _=>cases ao
 |cf _ _=>cases ao
 |raw _=>cases ao
theorem aeS{B aD:bo}{af:List an}{ab:List ax}(r:a3 B af (ab.map (na M)))(ao:ab.all ax.flat=true):a3 aD af ab:=r.ag2 λ_ d B r=>aeP r (kA.mp ao d B)
theorem abO{D:ay}{bK al:bp}{ao:ah}{e4:bJ}{fd:pu}{e:a'}{b9:List a'}{ab:List ax}{ai:an->aq->Prop}(ag:aP W env X ae M O Z av C)(ms:nz W I env (mD M ae) al (e::b9) (ab.map (na M)))(b2:ab.all ax.flat=true)(bA:dF (cZ W.w) dh D=some (some (.ref ao)))(a6:(cZ W.w).lookup ao=some e4)(pT:e4.data= .func fd)(q:∀af s',aP W env X ae M O Z av s'->a3 (a0 X s') af ab->az W.M I (df (.ref ao) af) ai aj s')(hk:autoParam (env.kindOf D=some .globalImplicit) tR)(bV:autoParam ((e::b9).all (λe=> !eQ e)=true) tR)(hd:autoParam ((D==("__debug__":ay))=false) tD):az W.M I (b1 (.Call (.Name D bK) (e::b9) [] al) env) ai aj C:=by
 show az _ _ (b1 (.Name D bK) env>>=λv=>fH al v [] (fk al (eV (e::b9) env)) (j_ al (j' [] env))) _ _ _
 refine aM (o2 ag.G hk bA ?_ hd)
 show az _ _ (fH al (.ref ao) [] (fk al (eV (e::b9) env)) []) _ _ _
 with_reducible refine vL (o:=e4) (fd:=fd) (sA ag.jg ag.open ms (vn bV) λaf aG k1 aT=>⟨⟨uY (ag.G.base.mono ((cg k1).trans cP)).K a6,pT⟩,?_⟩)
 exact q af aG (ag.keeps k1) (aeS aT b2)
theorem iY{D:ay}{bK al:bp}{ao:ah}{e4:bJ}{fd:pu}{e:a'}{b9:List a'}{ab:List ax}{ai:an->aq->Prop}(ag:aP W env X ae M O Z av C)(ms:nz W I env ae al (e::b9) ab)(bA:dF (cZ W.w) dh D=some (some (.ref ao)))(a6:(cZ W.w).lookup ao=some e4)(pT:e4.data= .func fd)(q:∀af s',aP W env X ae M O Z av s'->a3 (a0 X s') af ab->az W.M I (df (.ref ao) af) ai aj s')(hk:autoParam (env.kindOf D=some .globalImplicit) tR)(bV:autoParam ((e::b9).all (λe=> !eQ e)=true) tR)(hd:autoParam ((D==("__debug__":ay))=false) tD):az W.M I (b1 (.Call (.Name D bK) (e::b9) [] al) env) ai aj C:=by
 show az _ _ (b1 (.Name D bK) env>>=λv=>fH al v [] (fk al (eV (e::b9) env)) (j_ al (j' [] env))) _ _ _
 refine aM (o2 ag.G hk bA ?_ hd)
 show az _ _ (fH al (.ref ao) [] (fk al (eV (e::b9) env)) []) _ _ _
 with_reducible refine vL (o:=e4) (fd:=fd) (sA ag.c6 ag.G ms (vn bV) λaf aG k1 aT=>⟨⟨uY (ag.G.base.mono ((cg k1).trans cP)).K a6,pT⟩,?_⟩)
 exact q af aG (ag.keeps k1) aT
theorem p6{e:a'}{aJ:List cT}{J:bp}(B:az W.M I (b1 e env) (λ_ s'=>az W.M I (bY aJ env) ai aj s') aj C)(aU:autoParam (UK env=false) tR)(a9:autoParam (iE e none J.line env=pure false) tR):az W.M I (bY (.Expr e J::aJ) env) ai aj C:=by
 with_reducible exact eH (UX B aU a9)
end
section
variable{a4:Type}(lt:a4->a4->Bool)
noncomputable def r_:Nat->List a4->Nat->Nat->a4->List a4
 |0,l,_,al,D=>l.set al D
 |ao+1,l,st,al,D=>if al>st then(if lt D (l.getD ((al - 1) / 2) D)then r_ ao (l.set al (l.getD ((al - 1) / 2) D)) st ((al - 1) / 2) D else l.set al D)else l.set al D
theorem xo(ao:Nat)(l:List a4)(st al:Nat)(D:a4):r_ lt (ao+1) l st al D=if al>st then(if lt D (l.getD ((al - 1) / 2) D)then r_ lt ao (l.set al (l.getD ((al - 1) / 2) D)) st ((al - 1) / 2) D else l.set al D)else l.set al D:=rfl
theorem o7{L aB:Nat}(B:aB<L):(L - 1) / 2<L:=h_ (A_ _ _) (Bh (h_ (eL _) B) xQ)
theorem J4(J:Nat):J<2*J+1:=tB (Nat.le_mul_of_pos_left J KU)
theorem Rp{D:a4}{st:Nat}(ao:Nat):∀(g:Nat)(l:List a4)(al:Nat),al<ao->al<g->r_ lt ao l st al D=r_ lt g l st al D:=by
 induction ao with
 |zero=>exact λ_ _ _ B=>absurd B (rg _)
 |succ ao bf=>
  intro g l al b2 fL
  cases g with
  |zero=>exact absurd fL (rg _)
  |succ g=>
   refine H (xo _ _ _ _ _ _) ?_;refine H (xo _ _ _ _ _ _) ?_
   by_cases B:al>st
   .refine H (bf g _ _ (g' (o7 B) (od b2)) (g' (o7 B) (od fL))) ?_;rfl
   .refine H (if_neg B) ?_;refine H (if_neg B) ?_;rfl
noncomputable def AA(l:List a4)(st al:Nat)(D:a4):List a4:=r_ lt (al+1) l st al D
noncomputable def jc(l:List a4)(D:a4)(V:Nat):Nat:=if V+1<l.length/\lt (l.getD V D) (l.getD (V+1) D)=false then V+1 else V
noncomputable def lD:Nat->List a4->Nat->a4->List a4×Nat
 |0,l,al,_=>(l,al)
 |ao+1,l,al,D=>if 2*al+1<l.length then lD ao (l.set al (l.getD (jc lt l D (2*al+1)) D)) (jc lt l D (2*al+1)) D else(l,al)
theorem xq(ao:Nat)(l:List a4)(al:Nat)(D:a4):lD lt (ao+1) l al D=if 2*al+1<l.length then lD lt ao (l.set al (l.getD (jc lt l D (2*al+1)) D)) (jc lt l D (2*al+1)) D else(l,al):=rfl
noncomputable def mF(l:List a4)(al:Nat)(D:a4):List a4:=
 let r:=lD lt l.length l al D
 AA lt (r.1.set r.2 D) al r.2 D
end
theorem yZ(W:bj):hC W 166 (hm W.w 166) (bP W.w 166) (dT W.w 166) ["heap","startpos","pos"]:=by
 refine⟨rfl,rfl,rfl,rfl,rfl,rfl,rfl,rfl,rfl,rfl,rfl,by decide,by decide,λaf B=>?_⟩
 refine xB (z9 B) λa b V mx=>?_;subst mx
 kernel_rfl
section
variable{W:bj}{I:br}{X:List ah}{C:aq}{ai:an->aq->Prop}{aj:an->aq->Prop}
theorem MS{L:jP}{S:ax->Prop}(K:nu L S){aa:ah}{ab:List ax}{st al:Nat}{D:ax}(bd:I.handled=none)(bk:I.depth<d3)(be:I.units+3+L.deep<c7)(aK:c0 X C)(bQ:eg W (a0 X C))(cn:jN X aa ab C)(eh:∀d∈ab,S d)(aS:ab[al]? =some D)(aH:ab.length<=1000){af:List an}(aV:a3 (a0 X C) af [.adr aa,.int st,.int al])(q:∀s',cC [aa] C s'->jN X aa (AA da ab st al D) s'->ai .none s'):az W.M I (df (.ref 166) af) ai aj C:=by
 refine m7 (M:=[(aa,ab)]) (O:=[]) (Z:=[aa]) (yZ W) rfl bk aK bQ aV (λb ak=>by simp at ak;subst ak;exact cn.mem) (λiM f1 e=>?_) (λ_ _ e=>nomatch e) λar aG ag=>?_
 .rw[c1]at e
  cases B:iM==aa with
  |false=>rw[B]at e;cases e
  |true=>
   rw[B]at e
   cases e
   have:=(eq_of_beq B).symm
   subst this
   exact⟨.head _,cn.is⟩
 have cA:(I.deeper (callEnvC (bP W.w 166) ar 166)).handled=none:=bd
 generalize Zi:I.deeper (callEnvC (bP W.w 166) ar 166)=dH at cA ⊢
 have eK:dH.units+L.deep<c7:=by refine b' Zi ?_;exact be
 have zF:al<ab.length:=(kB.mp aS).1
 have Hk:S D:=eh D (qo aS)
 refine zY ag (aa:=aa) (ab:=ab) (L:=(al:Int)) (d:=D) rfl (by simp) (aW rfl) (by exact fG _) (kQ (cu (gv zF) aH) (by decide)) (by simpa using aS) λa5 bN=>?_
 refine C_ (e2:=Nat×List ax) (fp:=λ_=>X) (gu:=λa=>[("heap",.adr aa),("startpos",.int st),("pos",.int a.1),("newitem",D)]) (fY:=λa=>[(aa,a.2)]) (eG:=λ_=>[]) (xE:=λa=>a.1)
  (P:=λa=>a.1<a.2.length/\a.2.length=ab.length/\(∀d∈a.2,S d)/\∀ao,a.1<ao->r_ da ao a.2 st a.1 D=AA da ab st al D)
  (t:=λa=>decide ((st:Int)<(a.1:Int))) (yt:=λs'=>∃J l,J<l.length/\l.length=ab.length/\l.set J D=AA da ab st al D/\aP W (callEnvC (bP W.w 166) ar 166) X [("heap",.adr aa),("pos",.int (J:Nat)),("newitem",D)] [(aa,l)] [] [aa] C s') (al,ab)
  (λa cL=>Me (aW rfl) (aW rfl)) ?_ ?_ ⟨zF,rfl,eh,λao b2=>?_⟩ (bN.to ⟨rfl,rfl,rfl,rfl,trivial⟩ ⟨by simp,trivial⟩ trivial) ?_
 .rintro ⟨J,l⟩ bv jL ⟨aF,aN,jv,kM⟩ cp bR
  simp only[decide_eq_true_eq,i1]at cp
  dsimp only at aF aN jv kM bR cp
  have Yi:(((J:Int) - 1).fdiv (2^(1:Int).toNat))=(((J - 1) / 2:Nat):Int):=by
   have a8:((J:Int) - 1)=((J - 1:Nat):Int):=wl (TF cp)
   refine H a8 ?_;refine H (Ev _ (by decide)) ?_
   rfl
  have gX:(J - 1) / 2<l.length:=by exact j1 [_,_,_,_] 2970434946108431566229607745 rfl aF (A' _ 2) (k_ (aL [_,_] 623929200912 rfl cp))
  have O1:l[(J - 1) / 2]? =some (l.getD ((J - 1) / 2) D):=by simp[List.getD,hT gX]
  refine qP bR (d:=.int (((J - 1) / 2:Nat):Int)) ?_ rfl λc3 cc=>?_
  .refine b' Yi ?_
   exact L9 (yx (aW rfl) c_) c_ cA (by decide)
  refine zY cc (aa:=aa) (ab:=l) (L:=(((J - 1) / 2:Nat):Int)) (d:=l.getD ((J - 1) / 2) D) rfl (by simp) (aW rfl) (by exact fG _) (kQ (cu (gv gX) (cu (j9 aN) aH)) (by decide)) (by refine H (lH _) ?_;exact O1) λdW cy=>?_
  generalize aa5:l.getD ((J - 1) / 2) D=xg at *
  have Oc:S xg:=jv xg (qo O1)
  have p4:=kM (J+1) (kF _)
  rw[xo,if_pos cp,aa5]at p4
  refine m8 cy (b:=da D xg) (F0 K (aW rfl) (aW rfl) Hk Oc eK) λe1 cU=>?_
  .cases cM:da D xg with
   |true=>
    rw[cM]at p4
    simp only[if_true]at p4
    dsimp only[if_true]
    refine z0 cU (aa:=aa) (ab:=l) (L:=(J:Int)) (d:=xg) rfl (by simp) (aW rfl) (aW rfl) (by exact fG _) (kQ (cu (gv aF) (cu (j9 aN) aH)) (by decide)) (i1.mpr aF) λf3 dA=>?_
    refine qP dA (d:=.int (((J - 1) / 2:Nat):Int)) (aW rfl) rfl λji eW=>?_
    with_reducible refine eH (wpAny_Continue ?_)
    refine⟨((J - 1) / 2,l.set J xg),⟨by simp;exact aL [_,_] 2438206785 rfl gX,by simpa using aN,λd hd=>?_,λao b2=>?_⟩,by dsimp only;exact bX [_,_,_] 45181917792423801718081 rfl (A' _ 2) (k_ (aL [_,_] 623929200912 rfl cp)),eW.to ⟨rfl,rfl,rfl,rfl,trivial⟩ ⟨by simp,trivial⟩ trivial⟩
    .rcases EG hd with B|B
     .exact jv d B
     .exact B▸Oc
    .refine b' p4 ?_;exact Rp da _ _ _ _ b2 (ZQ (TF cp))
   |false=>
    rw[cM]at p4
    simp only[fi,if_false]at p4
    dsimp only[if_false]
    refine dq ?_
    with_reducible refine eH (wpAny_Break ?_)
    exact⟨J,l,aF,aN,p4,cU.to ⟨rfl,rfl,rfl,trivial⟩ ⟨by simp,trivial⟩ trivial⟩
 .rintro ⟨J,l⟩ bv ⟨aF,aN,jv,kM⟩ cp bR
  simp only[decide_eq_false_iff_not,i1]at cp
  have p4:=kM (J+1) (kF _)
  dsimp only at p4 cp
  rw[xo,if_neg cp]at p4
  exact⟨J,l,aF,aN,p4,bR.to ⟨rfl,rfl,rfl,trivial⟩ ⟨by simp,trivial⟩ trivial⟩
 .exact Rp da _ _ _ _ b2 (kF _)
 .rintro bv ⟨J,l,aF,aN,kM,bR⟩
  refine z0 bR (aa:=aa) (ab:=l) (L:=(J:Int)) (d:=D) rfl (by simp) (aW rfl) (aW rfl) (by exact fG _) (kQ (cu (gv aF) (cu (j9 aN) aH)) (by decide)) (i1.mpr aF) λc3 cc=>?_
  refine dq ?_
  refine fW (cc.el aa _ (by simp;rfl)) λaI _ ee bz r=>?_
  refine q c3 cc.keep ⟨aI,ee,bz,?_⟩
  refine b' kM ?_
  exact r
end
section
variable{W:bj}{I:br}{env:bB}{X:List ah}{ae:bu}{M:ce}{O:List (ah×bJ)}{Z:List ah}{av C:aq}{ai:fj->aq->Prop}{aj:an->aq->Prop}
theorem abS{V:a'}{body kX aJ:List cT}{al:bp}{b:Bool}(R:aq->Prop)(ag:aP W env X ae M O Z av C)(aO:ej W I env (mD M ae) V b)(cp:b=true->∀s',aP W env X ae M O Z av s'->az W.M I (bY body env) (λao dz=>ao= .next/\R dz) aj s')(bw:b=false->∀s',aP W env X ae M O Z av s'->az W.M I (bY kX env) (λao dz=>ao= .next/\R dz) aj s')(next:∀s',R s'->az W.M I (bY aJ env) ai aj s'):az W.M I (bY (.If V body kX al::aJ) env) ai aj C:=by
 refine nU ag aO λs' i6=>?_
 cases ak:b with
 |true=>exact fe (cp ak s' i6) (λao dz B=>by obtain⟨rfl,B⟩:=B;exact next dz B) λ_ _ e=>e
 |false=>exact fe (bw ak s' i6) (λao dz B=>by obtain⟨rfl,B⟩:=B;exact next dz B) λ_ _ e=>e
end
section
variable{a4:Type}(lt:a4->a4->Bool)
theorem Dj(l:List a4)(D:a4)(V:Nat):V<=jc lt l D V/\jc lt l D V<=V+1:=by
 unfold jc
 split
 .exact⟨pq V,eF _⟩
 .exact⟨eF V,pq _⟩
theorem IH(l:List a4)(D:a4)(V:Nat)(B:V<l.length):jc lt l D V<l.length:=by
 by_cases k:V+1<l.length/\lt (l.getD V D) (l.getD (V+1) D)=false
 .exact H (P:=(· <l.length)) (if_pos k:jc lt l D V=V+1) k.1
 .exact H (P:=(· <l.length)) (if_neg k:jc lt l D V=V) B
theorem RN{l:List a4}{J:Nat}(B:l.length - J<=0):¬2*J+1<l.length:=fv.mpr (cu (Bb (KL.mp B)) (gv (J4 J)))
theorem JX{Y J k ao:Nat}(B:Y - J<=ao+1)(hk:2*J+1<=k):Y - k<=ao:=cu (Tx (g' (J4 J) hk) Y) (KQ B)
theorem RM{D:a4}(ao:Nat):∀(g:Nat)(l:List a4)(J:Nat),l.length - J<=ao->l.length - J<=g->lD lt ao l J D=lD lt g l J D:=by
 induction ao with
 |zero=>
  intro g l J B _
  cases g with
  |zero=>rfl
  |succ g=>exact(if_neg (RN B)).symm
 |succ ao bf=>
  intro g l J b2 fL
  cases g with
  |zero=>exact if_neg (RN fL)
  |succ g=>
   refine H (xq _ _ _ _ _) ?_;refine H (xq _ _ _ _ _) ?_
   have hk:=(Dj lt l D (2*J+1)).1
   refine H (bf g _ _ (by rw[jm];exact JX b2 hk) (by rw[jm];exact JX fL hk)) ?_;rfl
end
theorem rE(W:bj):hC W 173 (hm W.w 173) (bP W.w 173) (dT W.w 173) ["heap","pos"]:=by
 refine⟨rfl,rfl,rfl,rfl,rfl,rfl,rfl,rfl,rfl,rfl,rfl,by decide,by decide,λaf B=>?_⟩
 refine jF (w7 B) λa b di=>?_;subst di
 kernel_rfl
theorem NH(w:c4):dF (cZ w) dh "_siftdown"=some (some (.ref 166)):=by kernel_rfl
theorem Cn(w:c4):dF (cZ w) dh "_siftup"=some (some (.ref 173)):=by kernel_rfl
section
variable{W:bj}{I:br}{X:List ah}{C:aq}{ai:an->aq->Prop}{aj:an->aq->Prop}
theorem NL{a4:Type}{l:List a4}{V:Nat}{D:a4}(B:V<l.length):l[V]? =some (l.getD V D):=by refine H (i2) ?_;refine H (hT B) ?_;rfl
theorem r4{ae:bu}{M:ce}{D:ay}{aa:ah}{ab:List ax}(B:ae.lookup D=some (.adr aa))(aI:M.lookup aa=some ab):(mD M ae).lookup D=some (.cf aa ab):=by
 refine H (s8 _ _ _) ?_;refine H B ?_
 show some (match M.lookup aa with |some ab=>ax.cf aa ab|none=>.adr aa)=_
 refine H aI ?_;rfl
theorem nw{I:br}{env:bB}{ae:bu}{e:a'}{a b:Int}(B:aY W I env ae e (.int a))(q:a=b):aY W I env ae e (.int b):=q▸B
theorem xf{aa iM:ah}{ab f1:List ax}(e:([(aa,ab)]:ce).lookup iM=some f1):iM=aa/\f1=ab:=by
 rw[c1]at e
 cases B:iM==aa with
 |false=>rw[B]at e;cases e
 |true=>
  rw[B]at e
  cases e
  exact⟨eq_of_beq B,rfl⟩
theorem B7{L:jP}{S:ax->Prop}(K:nu L S){aa:ah}{ab:List ax}{al:Nat}{D:ax}(bd:I.handled=none)(bk:I.depth+1<d3)(be:I.units+6+L.deep<c7)(aK:c0 X C)(bQ:eg W (a0 X C))(cn:jN X aa ab C)(eh:∀d∈ab,S d)(aS:ab[al]? =some D)(aH:ab.length<=1000){af:List an}(aV:a3 (a0 X C) af [.adr aa,.int al])(q:∀s',cC [aa] C s'->jN X aa (mF da ab al D) s'->ai .none s'):az W.M I (df (.ref 173) af) ai aj C:=by
 refine m7 (M:=[(aa,ab)]) (O:=[]) (Z:=[aa]) (rE W) rfl (by exact aL [_,_] 159777367790913 rfl bk) aK bQ aV (λb ak=>by simp at ak;subst ak;exact cn.mem) (λiM f1 e=>?_) (λ_ _ e=>nomatch e) λar aG ag=>?_
 .refine d8 (xf e) λg7 dC=>?_;subst g7;subst dC
  exact⟨.head _,cn.is⟩
 have cA:(I.deeper (callEnvC (bP W.w 173) ar 173)).handled=none:=bd
 have b7:(I.deeper (callEnvC (bP W.w 173) ar 173)).depth=I.depth+1:=rfl
 have eK:(I.deeper (callEnvC (bP W.w 173) ar 173)).units=I.units+3:=rfl
 generalize I.deeper (callEnvC (bP W.w 173) ar 173)=dH at cA b7 eK ⊢
 have zF:al<ab.length:=(kB.mp aS).1
 have Hk:S D:=eh D (qo aS)
 refine qP ag (d:=.int ab.length) ?_ rfl λa5 bN=>?_
 .refine ow rfl (ue _) uf (bI (aW (d:=.cf aa ab) (r4 rfl (by simp))) cF) λX C af aK G aV=>?_
  refine a3.eC aV λ_ _ r rs=>?_
  refine a3.eN rs ?_;exact Em r.un (by unfold bc;exact aL [_] 685896283324086562615616 rfl aH)
 refine qP bN (d:=.int al) (aW rfl) rfl λbv bR=>?_
 refine zY bR (aa:=aa) (ab:=ab) (L:=(al:Int)) (d:=D) rfl (by simp) (aW rfl) (by exact fG _) (kQ (cu (gv zF) aH) (by decide)) (by simpa using aS) λc3 cc=>?_
 refine qP cc (d:=.int ((2*al+1:Nat):Int)) (nw (v7 (FW c_ (aW rfl) (Uf (by decide))) c_) (by push_cast;rfl)) rfl λdW cy=>?_
 refine C_ (e2:=Nat×List ax) (fp:=λ_=>X) (gu:=λa=>[("heap",.adr aa),("pos",.int a.1),("endpos",.int ab.length),("startpos",.int al),("newitem",D),("childpos",.int ((2*a.1+1:Nat):Int))]) (fY:=λa=>[(aa,a.2)]) (eG:=λ_=>[]) (xE:=λa=>ab.length - a.1)
  (P:=λa=>a.1<a.2.length/\a.2.length=ab.length/\(∀d∈a.2,S d)/\lD da a.2.length a.2 a.1 D=lD da ab.length ab al D)
  (t:=λa=>decide (((2*a.1+1:Nat):Int)<(ab.length:Int))) (yt:=λs'=>∃J l,J<l.length/\l.length=ab.length/\(∀d∈l,S d)/\lD da ab.length ab al D=(l,J)/\aP W (callEnvC (bP W.w 173) ar 173) X [("heap",.adr aa),("pos",.int (J:Nat)),("startpos",.int al),("newitem",D)] [(aa,l)] [] [aa] C s') (al,ab)
  (λa cL=>Mi (aW rfl) (aW rfl)) ?_ ?_ ⟨zF,rfl,eh,rfl⟩ (cy.to ⟨rfl,rfl,rfl,rfl,rfl,rfl,trivial⟩ ⟨by simp,trivial⟩ trivial) ?_
 .rintro ⟨J,l⟩ e1 jL ⟨aF,aN,jv,kM⟩ cp cU
  dsimp only at aF aN jv kM cp cU
  simp only[decide_eq_true_eq,i1]at cp
  rw[<-aN]at cp
  have CO:=cu (j9 aN) aH
  refine qP cU (d:=.int ((2*J+2:Nat):Int)) (nw (v7 (aW rfl) c_) (by push_cast;exact(Kl _ 1 1))) rfl λf3 dA=>?_
  have uG:∀V,V<l.length->l[V]? =some (l.getD V D):=λV aO=>NL aO
  have Hj:∀V,V<l.length->S (l.getD V D):=λV aO=>jv _ (qo (uG V aO))
  have hk:=Dj da l D (2*J+1)
  have sQ:=IH da l D (2*J+1) cp
  generalize wM:jc da l D (2*J+1)=k at hk sQ
  refine abS (λs'=>aP W (callEnvC (bP W.w 173) ar 173) X [("heap",.adr aa),("pos",.int J),("endpos",.int ab.length),("startpos",.int al),("newitem",D),("childpos",.int ((k:Nat):Int))] [(aa,l)] [] [aa] C s') dA (b:=decide (((2*J+2:Nat):Int)<(ab.length:Int))&& !(da (l.getD (2*J+1) D) (l.getD (2*J+2) D))) ?_ ?_ ?_ λji eW=>?_
  .refine Mc (Mi (aW rfl) (aW rfl)) λB=>?_
   simp only[decide_eq_true_eq,i1]at B
   have aA:2*J+2<l.length:=by exact bX [_,_,_] 9593515929469533679609454924289 rfl B aN
   refine we (F0 K (ox (L:=((2*J+1:Nat):Int)) (aW (d:=.cf aa l) (r4 rfl (by simp))).lF (aW rfl) (by exact fG _) (kQ (cu (gv cp) CO) (by decide)) (by refine H (lH _) ?_;exact uG _ cp)) (ox (L:=((2*J+2:Nat):Int)) (aW (d:=.cf aa l) (r4 rfl (by simp))).lF (aW rfl) (by exact fG _) (kQ (cu (gv aA) CO) (by decide)) (by refine H (lH _) ?_;exact uG _ aA)) (Hj _ cp) (Hj _ aA) (by exact bX [_,_,_,_] 47378209315880279381434061825 rfl eK be))
  .intro ak hP fm
   simp only[mH,decide_eq_true_eq,i1,Ki]at ak
   have:k=2*J+2:=by
    refine b' wM ?_
    unfold jc
    refine H (if_pos ⟨by exact bX [_,_,_] 628720659953715359226603552523755521 rfl ak.1 aN,ak.2⟩) ?_;rfl
   subst this
   refine qP fm (d:=.int ((2*J+2:Nat):Int)) (aW rfl) rfl λpa hV=>?_
   exact dq ⟨rfl,hV.to ⟨rfl,rfl,rfl,rfl,rfl,rfl,trivial⟩ ⟨by simp,trivial⟩ trivial⟩
  .intro ak hP fm
   have:k=2*J+1:=by
    refine b' wM ?_
    unfold jc
    rw[if_neg λB=>?_]
    rw[B.2]at ak
    simp at ak
    lia
   subst this
   exact dq ⟨rfl,fm.to ⟨rfl,rfl,rfl,rfl,rfl,rfl,trivial⟩ ⟨by simp,trivial⟩ trivial⟩
  .refine abY eW (aa:=aa) (ab:=l) (L:=(J:Int)) (d:=l.getD k D) rfl (by simp) (eW.item (aa:=aa) (ab:=l) (L:=((k:Nat):Int)) rfl (by simp) (aW rfl) (by exact fG _) (kQ (cu (gv sQ) CO) (by decide)) (by refine H (lH _) ?_;exact uG _ sQ)) (aW rfl) (by exact fG _) (kQ (cu (gv aF) CO) (by decide)) (i1.mpr aF) λhP fm=>?_
   refine qP fm (d:=.int ((k:Nat):Int)) (aW rfl) rfl λpa hV=>?_
   refine qP hV (d:=.int ((2*k+1:Nat):Int)) (nw (v7 (FW c_ (aW rfl) (Uf (by decide))) c_) (by push_cast;rfl)) rfl λqh iO=>?_
   refine dq ⟨(k,l.set J (l.getD k D)),⟨by simpa using sQ,by simpa using aN,λd hd=>?_,?_⟩,by dsimp only;exact j1 [_,_,_,_,_] 194670501288786959168778046276929 rfl hk.1 (k_ (bX [_,_,_] 168317124089152 rfl sQ aN)) (qi _ _),iO.to ⟨rfl,rfl,rfl,rfl,rfl,rfl,trivial⟩ ⟨by simp,trivial⟩ trivial⟩
   .rcases EG hd with B|B
    .exact jv d B
    .exact B▸Hj k sQ
   .refine b' kM ?_
    conv=>rhs;rw[RM da l.length (l.length+1) l J (by exact aL [_,_] 2438202688 rfl (hh _ _)) (by exact aL [_,_] 159789981192256 rfl (hh _ _)),xq,if_pos cp,wM]
    dsimp only
    refine H jm ?_;rfl
 .rintro ⟨J,l⟩ e1 ⟨aF,aN,jv,kM⟩ cp cU
  dsimp only at aF aN jv kM cp cU
  simp only[decide_eq_false_iff_not,i1]at cp
  refine⟨J,l,aF,aN,jv,?_,cU.to ⟨rfl,rfl,rfl,rfl,trivial⟩ ⟨by simp,trivial⟩ trivial⟩
  refine b' kM ?_;refine H (RM da l.length (l.length+1) l J (by exact aL [_,_] 2438202688 rfl (hh _ _)) (by exact aL [_,_] 159789981192256 rfl (hh _ _))) ?_;refine H (xq _ _ _ _ _) ?_;refine H (if_neg (by exact fv.mpr (bX [_,_,_] 12127191049154867062369419337792 rfl aN (fv.mp cp)))) ?_;rfl
 .rintro e1 ⟨J,l,aF,aN,jv,kM,cU⟩
  refine z0 cU (aa:=aa) (ab:=l) (L:=(J:Int)) (d:=D) rfl (by simp) (aW rfl) (aW rfl) (by exact fG _) (kQ (cu (gv aF) (cu (j9 aN) aH)) (by decide)) (i1.mpr aF) λf3 dA=>?_
  refine p6 (iY dA (ab:=[.adr aa,.int al,.int (J:Nat)]) (bI (aW rfl) (bI (aW rfl) (bI (aW rfl) cF))) (NH _) (yZ W).obj (yZ W).fn λaf ji eW aV=>?_)
  have abc:(l.set J D)[J]? =some D:=by simp[aF]
  refine MS K cA (by exact bX [_,_,_] 722910684677324646131009 rfl b7 bk) (by exact bX [_,_,_,_] 3104978325725529989541662660050945 rfl eK be) eW.c6 eW.G.base (eW.has (by simp)) (λd hd=>?_) abc (by simpa using(aN▸aH)) aV λhP nW G3=>dq ?_
  .rcases EG hd with B|B
   .exact jv d B
   .exact B▸Hk
  .have fm:=eW.called (by simp;rfl) nW G3
   have Y8:=fm.has (aa:=aa) (by simp;rfl)
   refine q hP fm.keep ?_
   unfold mF
   refine H kM ?_
   exact Y8
end
section
variable{W:bj}{I:br}{env:bB}{X:List ah}{ae:bu}{M:ce}{O:List (ah×bJ)}{Z:List ah}{av C:aq}{ai:fj->aq->Prop}{aj:an->aq->Prop}
theorem aP.perm(ag:aP W env X ae M O Z av C){X':List ah}(B:∀a,a∈X'↔a∈X):aP W env X' ae M O Z av C:=by
 have k:∀aD:bo,dS (dJ aD X) (dJ aD X'):=λaD=>jZ λa ha=>(B a).mp ha
 exact⟨λa ha=>ag.c6 a ((B a).mp ha),ag.G.mono (k _),ag.ns,ag.new,λaN=>ag.iZ ((B _).mp aN),ag.cells,λaa ab e=>let⟨a,b,af,bz,aV⟩:=ag.el aa ab e;⟨(B aa).mpr a,b,af,bz,aV.mono (k _)⟩,ag.objs,ag.keep,ag.mj.mono (k _),λb ak=>(B b).mpr (ag.hS b ak)⟩
theorem aP.Jq(ag:aP W env X ae M O Z av C){N:bJ}(b2:autoParam (N.isFreed=false) tR):aP W env (C.heap.objs.size::X) ae M ((C.heap.objs.size,N)::O) Z av {C with heap:=C.heap.push N}:=by
 exact(ag.pushX b2).ad0 (f_ _ b2) (ag.adg (uu C)) (ag.m_ (uu C))
theorem aP.DC(ag:aP W env X ae M O Z av C){a:ah}{N b0:bJ}{aD:bo}{bg:Nat}(a6:O.lookup a=some N)(zm:a∈X)(ha:a∈Z\/av.heap.get? a=none)(a9:Bn a C.heap aD)(nN:aD.get? a=some b0):aP W env X ae M ((a,b0)::O) Z av {C with heap:=aD,toks:=bg}:=by
 have k:cC [a] C {C with heap:=aD,toks:=bg}:=⟨⟨aD,bg,rfl⟩,λb dE m e=>a9 b dE (by simpa using m) e⟩
 refine fb (ag.objs a N a6) λch cN cR=>?_
 refine ag.c2 k (λb ak=>by simp at ak;subst ak;exact zm) (λb ak=>by simp at ak;subst ak;exact ha) (λb ak=>by simp at ak;subst ak;exact⟨_,nN⟩) (λaa ab e=>.inl ⟨e,?_⟩) (λb dE e=>?_)
 .intro aI
  simp at aI
  subst aI
  rw[cN]at e
  cases e
 .rw[c1]at e
  cases ak:b==a with
  |true=>
   rw[ak]at e
   cases e
   have:=(eq_of_beq ak).symm
   subst this
   exact⟨cN,cR,.inr nN⟩
  |false=>
   rw[ak]at e
   refine fb (ag.objs b dE e) λa1 a2 fJ=>?_
   exact⟨a2,fJ,.inl ⟨e,by simpa using ak⟩⟩
theorem P4{O:List (ah×bJ)}{a b:ah}{dE:bJ}:(O.filter λJ=>J.1 !=a).lookup b=some dE->b≠a/\O.lookup b=some dE:=by
 induction O with
 |nil=>intro e;cases e
 |cons J r bf=>
  obtain⟨V,DD⟩:=J
  intro e
  rw[qm]at e
  by_cases aO:V=a
  .subst aO
   simp only[bne_self_eq_false,fi,if_false]at e
   refine d8 (bf e) λh1 aA=>?_
   refine⟨h1,?_⟩
   refine H c1 ?_;refine H (show(b==V)=false by simpa using h1) ?_
   exact aA
  .simp only[show (V !=a)=true by simpa using aO,if_true]at e
   rw[c1]at e ⊢
   cases ak:b==V with
   |true=>rw[ak]at e;refine H (eq_of_beq ak) ?_;exact⟨aO,e⟩
   |false=>rw[ak]at e;exact bf e
theorem aP.GH{a:ah}(ag:aP W env (a::X) ae M O Z av C){N:bJ}{aD:bo}{bg:Nat}(a6:O.lookup a=some N)(ZN:a∉Z)(ZM:av.heap.get? a=none)(zm:a∉X)(a9:Bn a C.heap aD):aP W env X ae M (O.filter λJ=>J.1 !=a) Z av {C with heap:=aD,toks:=bg}:=by
 refine fb (ag.objs a N a6) λch cN cR=>?_
 have er:dS (a0 (a::X) C) (dJ aD X):=λb dE e=>by
  have a8:=fc _ e
  have ak:b∉a::X:=λm=>by rw[fP _ m]at e;cases e
  exact ei _ (a9 b dE (λau=>ak (by simp[au])) a8) λm=>ak (gQ _ m)
 have cx:∀aa ab,M.lookup aa=some ab->aa≠a:=λaa ab e au=>by subst au;rw[cN]at e;cases e
 refine⟨λb ak=>?_,ag.G.mono er,?_,ag.new,λB=>ag.iZ (gQ _ B),ag.cells,λaa ab e=>?_,λb dE e=>?_,?_,ag.mj.mono (jZ λb ak=>gQ _ ak),λb ak=>?_⟩
 .refine bH (ag.c6 b (gQ _ ak)) λdE e=>?_
  exact⟨dE,a9 b dE (λau=>zm (au▸ak)) e⟩
 .refine bH ag.ns λm Y=>?_
  exact⟨m,Y.at' λdE e=>a9 _ dE (iB cR) e⟩
 .refine fW (ag.el aa ab e) λcQ dU af bz aV=>?_
  refine⟨?_,dU,af,bz.at λdE dB=>a9 _ dE (cx aa ab e) dB,aV.mono er⟩
  rcases dw.mp cQ with B|B
  .exact absurd B (cx aa ab e)
  .exact B
 .refine d8 (P4 e) λh1 aA=>?_
  refine fb (ag.objs b dE aA) λa1 a2 fJ=>?_
  exact⟨a9 b dE h1 a1,a2,fJ⟩
 .exact ag.keep.xy (nD:=[a]) ⟨⟨aD,bg,rfl⟩,λb dE m e=>a9 b dE (by simpa using m) e⟩ λb ak=>by simp at ak;subst ak;exact .inr ZM
 .rcases dw.mp (ag.hS b ak)with B|B
  .exact absurd (B▸ak) ZN
  .exact B
theorem GS{O:List (ah×bJ)}{ag D:ah}{N d:bJ}(B:O.lookup ag=none)(e:O.lookup D=some d):(((ag,N)::O).filter λJ=>J.1 !=ag).lookup D=some d:=by
 have:((ag,N)::O).filter (λJ=>J.1 !=ag)=O:=by
  refine H qm ?_
  simp only[bne_self_eq_false,fi,if_false]
  clear e
  induction O with
  |nil=>rfl
  |cons J r bf=>
   obtain⟨V,DD⟩:=J
   rw[c1]at B
   cases aO:ag==V with
   |true=>rw[aO]at B;cases B
   |false=>
    rw[aO]at B
    refine H qm ?_
    have cx:V≠ag:=λau=>by subst au;simp at aO
    simp only[show (V !=ag)=true by simpa using cx,if_true]
    refine H (bf B) ?_;rfl
 refine H this ?_
 exact e
theorem acK{D:ay}{bK:bp}{d0 v:an}{ai:Unit->aq->Prop}(B:ai () C):az W.M I (yb (.Name D bK) d0 v) ai aj C:=b6 B
structure yH (W:bj) (I:br) (env:bB) (dd:a') (d:ax) (aia:bu):Prop where
 go:∀(X:List ah)(ae:bu)(M:ce)(O:List (ah×bJ))(Z:List ah)(av C:aq)(v:an)(ai:Unit->aq->Prop)(aj:an->aq->Prop),aP W env X ae M O Z av C->aC (a0 X C) v d->
  (∀s',aP W env X (aia++ae) M O Z av s'->ai () s')->az W.M I (nl dd env v) ai aj C
theorem BS{D:ay}{bK:bp}{d:ax}(aS:autoParam (env.kindOf D=some .local) tR)(hd:autoParam ((D==("__debug__":ay))=false) tD):yH W I env (.Name D bK) d [(D,d)]:=⟨λX ae M O Z av C v ai aj ag r q=>by
 with_reducible refine om ?_
 exact ag.store aS hd r λs' i6=>q s' i6⟩
theorem F5{D am:ay}{bK py J:bp}{aB:Nat}{cQ dU:ax}(bd:I.handled=none)(aS:autoParam (env.kindOf D=some .local) tR)(mq:autoParam ((D==("__debug__":ay))=false) tD)(bZ:autoParam (env.kindOf am=some .local) tR)(mr:autoParam ((am==("__debug__":ay))=false) tD):yH W I env (.Tuple [.Name D bK,.Name am py] aB J) (.tuple [cQ,dU]) [(am,dU),(D,cQ)]:=⟨λX ae M O Z av C v ai aj ag r q=>by
 refine aC.eT2 r λT bx bE l aT bb=>?_
 with_reducible refine FE bd (cP.sZ l) rfl rfl λh1 sJ=>?_
 have k:cS C {C with heap:=h1}:=⟨h1,C.toks,rfl,λb N e=>sJ b N (hA (iL e)) e⟩
 show az _ _ (tM [nl (.Name D bK) env,nl (.Name am py) env] [bx,bE]) _ _ _
 refine ry (om ((ag.keeps k).AH (d:=cQ) aS mq (aT.mono (cg k)) λa5 bN ko=>?_))
 exact ry (om (bN.store (d:=dU) bZ mr ((bb.mono (cg k)).g_ ko) λbv bR=>BY (q _ bR)))⟩
theorem We{D am au:ay}{bK py o_ J:bp}{aB:Nat}{cQ dU oC:ax}(bd:I.handled=none)(aS:autoParam (env.kindOf D=some .local) tR)(mq:autoParam ((D==("__debug__":ay))=false) tD)(bZ:autoParam (env.kindOf am=some .local) tR)(mr:autoParam ((am==("__debug__":ay))=false) tD)(aH:autoParam (env.kindOf au=some .local) tR)(Z':autoParam ((au==("__debug__":ay))=false) tD):yH W I env (.Tuple [.Name D bK,.Name am py,.Name au o_] aB J) (.tuple [cQ,dU,oC]) [(au,oC),(am,dU),(D,cQ)]:=⟨λX ae M O Z av C v ai aj ag r q=>by
 refine aC.eT3 r λT bx bE ph l aT bb e0=>?_
 with_reducible refine FE bd (cP.sZ l) rfl rfl λh1 sJ=>?_
 have k:cS C {C with heap:=h1}:=⟨h1,C.toks,rfl,λb N e=>sJ b N (hA (iL e)) e⟩
 show az _ _ (tM [nl (.Name D bK) env,nl (.Name am py) env,nl (.Name au o_) env] [bx,bE,ph]) _ _ _
 refine ry (om ((ag.keeps k).AH (d:=cQ) aS mq (aT.mono (cg k)) λa5 bN ko=>?_))
 refine ry (om (bN.AH (d:=dU) bZ mr ((bb.mono (cg k)).g_ ko) λbv bR acm=>?_))
 exact ry (om (bR.store (d:=oC) aH Z' (((e0.mono (cg k)).g_ ko).g_ acm) λc3 cc=>BY (q _ cc)))⟩
theorem acJ{dd:a'}{ag:ah}{v:an}{N:bJ}{C:aq}{ai:Unit->aq->Prop}{aj:an->aq->Prop}(a6:C.heap.get? ag=some N)(aO:N.cls= .type "list_iterator")(B:ai () C):az W.M I (yb dd (.ref ag) v) ai aj C:=
 Dr a6 aO (by decide) B
inductive FO {e2:Type} (F:List ah->bu->ce->List (ah×bJ)->Prop) (fp:e2->List ah) (gu:e2->bu) (fY:e2->ce) (eG:e2->List (ah×bJ)) (P:Nat->e2->Prop) (ag l:ah) (m Y:Nat):Prop
 |mk (L:Nat) (a:e2) (N:bJ):L<=m->Y=m+1 - L->P L a->(eG a).lookup ag=none->ag∉fp a->N.cls= .type "list_iterator"->N.data= .fields #[.ref l,.int L 0]->F (ag::fp a) (gu a) (fY a) ((ag,N)::eG a)->FO F fp gu fY eG P ag l m Y
theorem zX{e2:Type}{dd:a'}{am:ay}{py al:bp}{body aJ:List cT}{l:ah}{aR:List ax}(fp:e2->List ah)(gu:e2->bu)(fY:e2->ce)(eG:e2->List (ah×bJ))(P:Nat->e2->Prop)(AL:ax->bu)(f0:e2)(bd:I.handled=none)(bZ:∀L a,P L a->(gu a).lookup am=some (.cf l aR))(Ie:∀d∈aR,yH W I env dd d (AL d))(nK:∀L a d ag N C jL,P L a->aR[L]? =some d->(eG a).lookup ag=none->ag∉fp a->aP W env (ag::fp a) (AL d++gu a) (fY a) ((ag,N)::eG a) Z av C->az W.M I (bY body env) (λao s'=>match ao with
   | .next | .cont=>∃ci,P (L+1) ci/\(eG ci).lookup ag=none/\ag∉fp ci/\aP W env (ag::fp ci) (gu ci) (fY ci) ((ag,N)::eG ci) Z av s'
   | .brk=>False
   | .ret v=>ai (.ret v) s') jL C)(aQ:P 0 f0)(iN:aP W env (fp f0) (gu f0) (fY f0) (eG f0) Z av C)(aH:aR.length<=bc)(next:∀a s',P aR.length a->aP W env (fp a) (gu a) (fY a) (eG a) Z av s'->az W.M I (bY aJ env) ai aj s'):az W.M I (bY (.For dd (.Name am py) body [] al::aJ) env) ai aj C:=by
 refine eH (LL (((aW (bZ 0 f0 aQ)).on _ C iN.c6 iN.G).go _ _ λv aG k1 aT=>?_) (by intro _;rfl))
 have bG:=iN.keeps k1
 refine aC.eA aT λ_ bz aV=>?_
 refine yi (cP.plain bz).isList ?_
 have a_:=uu aG
 have pX:=bG.rY a_
 have lp:=bG.Qp a_
 have lr:=bG.I9 a_
 have bN:=bG.Jq (N:={cls:=.type "list_iterator",data:=.fields #[.ref l,.int 0 0]})
 have sC:aG.heap.objs.size∉Z:=λau=>lr (bG.hS _ au)
 clear a_
 generalize aG.heap.objs.size=ag at bN pX lp lr sC ⊢
 refine Lw (λY s'=>FO (aP W env · · · · Z av s') fp gu fY eG P ag l aR.length Y) ?_ (aR.length+1) ⟨0,f0,_,eL _,rfl,aQ,lp,lr,rfl,rfl,bN⟩
 rintro Y s' ⟨L,a,N,aU,rfl,cL,sD,oH,aO,hd,bR⟩
 have gh:s'.heap.IsListIter ag l L:=⟨N,(bR.objs ag N ED).1,aO,hd⟩
 refine jl (bR.G.vars am _ (bZ L a cL)) λ_ v r yR=>?_
 clear yR
 refine aC.eA r λee Jj nb=>?_
 have dp:ee.size=aR.length:=nb.length
 have il:=(cP.plain Jj).isList
 by_cases cM:L<aR.length
 .refine cm (nb.get (hT cM)) λv bA ez=>?_
  refine wpAny_pyNext_list_item gh il (by refine b' (Sr) ?_;exact bA) λaD qK ec=>?_
  refine iA qK λb0 nN oJ b7=>?_;clear qK
  have cc:=(bR.DC (bg:=s'.toks) (O:=(ag,N)::eG a) (N:=N) ED (.head _) (.inr pX) (ec.extBut) nN).j0 (dk:=fY a) (cI:=(ag,b0)::eG a) (λ_ _ e=>e) λD d e=>acP e
  have c2:cC [ag] s' {s' with heap:=aD}:=⟨⟨aD,s'.toks,rfl⟩,λb dE m e=>(ec.2 b λau=>m (au▸ .head _)).trans e⟩
  have ae3:=ez.mono (c2.view (X:=ag::fp a) λb ak=>(pn.mp ak)▸ .head _)
  refine acJ nN oJ ((Ie aR[L] (xM cM)).go _ _ _ _ _ _ _ _ _ _ cc ae3 λdW cy=>?_)
  refine fe (nK L a aR[L] ag b0 dW _ cL (hT cM) sD oH cy) (λao e1 fs=>?_) λ_ _ e=>e
  have go:(∃ci,P (L+1) ci/\(eG ci).lookup ag=none/\ag∉fp ci/\aP W env (ag::fp ci) (gu ci) (fY ci) ((ag,b0)::eG ci) Z av e1)->∃iK,iK<aR.length+1 - L/\FO (aP W env · · · · Z av e1) fp gu fY eG P ag l aR.length iK:=λ⟨ci,oF,mn,lq,cU⟩=>
   ⟨_,Nat.sub_succ_lt_self _ _ (kE cM),L+1,ci,b0,cM,rfl,oF,mn,lq,oJ,b7,cU⟩
  cases ao with
  |next=>exact go fs
  |cont=>exact go fs
  |brk=>exact fs.elim
  |ret v=>exact fs
 .obtain rfl:=EL aU (fv.mp cM)
  refine wpAny_pyNext_list_end bd gh il (Es (j9 dp)) λaD zr=>?_
  have cc:=bR.GH (N:=N) (aD:=aD) (bg:=s'.toks) ED sC pX oH zr
  exact dq (next a _ cL (cc.j0 (dk:=fY a) (λ_ _ e=>e) (λD d e=>GS sD e)))
end
section
variable{a4:Type}(lt:a4->a4->Bool)
noncomputable def H5(l:List a4)(D:a4):List a4:=AA lt (l++[D]) 0 l.length D
noncomputable def p2:List a4->a4->a4×List a4
 |[],u3=>(u3,[])
 |a::r,u3=>(a,mF lt (u3::r) 0 u3)
noncomputable def zG:List a4->a4->List a4
 |[],_=>[]
 |_::r,D=>mF lt (D::r) 0 D
noncomputable def oN:Nat->List a4->List a4
 |0,l=>l
 |L+1,l=>match l[L]? with
  |some D=>oN L (mF lt l L D)
  |none=>oN L l
end
theorem rD(W:bj):hC W 131 (hm W.w 131) (bP W.w 131) (dT W.w 131) ["heap","item"]:=by
 refine⟨rfl,rfl,rfl,rfl,rfl,rfl,rfl,rfl,rfl,rfl,rfl,by decide,by decide,λaf B=>?_⟩
 refine jF (w7 B) λa b di=>?_;subst di
 kernel_rfl
theorem m0(W:bj):hC W 138 (hm W.w 138) (bP W.w 138) (dT W.w 138) ["heap"]:=by
 refine⟨rfl,rfl,rfl,rfl,rfl,rfl,rfl,rfl,rfl,rfl,rfl,by decide,by decide,λaf B=>?_⟩
 refine bH (oV B) λa dC=>?_;subst dC
 kernel_rfl
theorem wn(W:bj):hC W 145 (hm W.w 145) (bP W.w 145) (dT W.w 145) ["heap","item"]:=by
 refine⟨rfl,rfl,rfl,rfl,rfl,rfl,rfl,rfl,rfl,rfl,rfl,by decide,by decide,λaf B=>?_⟩
 refine jF (w7 B) λa b di=>?_;subst di
 kernel_rfl
theorem Gw(W:bj):hC W 152 (hm W.w 152) (bP W.w 152) (dT W.w 152) ["heap","item"]:=by
 refine⟨rfl,rfl,rfl,rfl,rfl,rfl,rfl,rfl,rfl,rfl,rfl,by decide,by decide,λaf B=>?_⟩
 refine jF (w7 B) λa b di=>?_;subst di
 kernel_rfl
theorem rC(W:bj):hC W 159 (hm W.w 159) (bP W.w 159) (dT W.w 159) ["x"]:=by
 refine⟨rfl,rfl,rfl,rfl,rfl,rfl,rfl,rfl,rfl,rfl,rfl,by decide,by decide,λaf B=>?_⟩
 refine bH (oV B) λa dC=>?_;subst dC
 kernel_rfl
section
variable{W:bj}{I:br}{X:List ah}{C:aq}{ai:an->aq->Prop}{aj:an->aq->Prop}
theorem W'{L:jP}{S:ax->Prop}(K:nu L S){aa:ah}{ab:List ax}{D:ax}(bd:I.handled=none)(bk:I.depth+1<d3)(be:I.units+6+L.deep<c7)(aK:c0 X C)(bQ:eg W (a0 X C))(cn:jN X aa ab C)(eh:∀d∈ab,S d)(aS:S D)(aH:ab.length<1000){af:List an}(aV:a3 (a0 X C) af [.adr aa,D])(q:∀s',cC [aa] C s'->jN X aa (H5 da ab D) s'->ai .none s'):az W.M I (df (.ref 131) af) ai aj C:=by
 refine m7 (M:=[(aa,ab)]) (O:=[]) (Z:=[aa]) (rD W) rfl (by exact aL [_,_] 159777367790913 rfl bk) aK bQ aV (λb ak=>by simp at ak;subst ak;exact cn.mem) (λiM f1 e=>?_) (λ_ _ e=>nomatch e) λar aG ag=>?_
 .refine d8 (xf e) λg7 dC=>?_;subst g7;subst dC
  exact⟨.head _,cn.is⟩
 have cA:(I.deeper (callEnvC (bP W.w 131) ar 131)).handled=none:=bd
 have b7:(I.deeper (callEnvC (bP W.w 131) ar 131)).depth=I.depth+1:=rfl
 have eK:(I.deeper (callEnvC (bP W.w 131) ar 131)).units=I.units+3:=rfl
 generalize I.deeper (callEnvC (bP W.w 131) ar 131)=dH at cA b7 eK ⊢
 refine nT ag (aa:=aa) (ab:=ab) (d:=D) rfl (by simp) (aW rfl) (by unfold bc;exact aL [_] 685896283341678748660032 rfl aH) λa5 bN=>?_
 refine p6 (abO bN (ab:=[.adr aa,.int (0:Nat),.int (ab.length:Nat)]) ?_ rfl (NH _) (yZ W).obj (yZ W).fn λaf bv bR aes=>?_)
 .refine bI (aW ?_) (bI c_ (bI (nw (yx (a:=((ab++[D]).length:Nat)) ?_ c_) ?_) cF))
  .refine H (s8 _ _ _) ?_;rfl
  .refine ow (d:=.int (ab++[D]).length) rfl (ue _) uf (bI (aW (d:=.cf aa (ab++[D])) (r4 rfl (by simp))) cF) λX C af aK G aV=>?_
   refine a3.eC aV λ_ _ r rs=>?_
   refine a3.eN rs ?_;exact Em r.un (by unfold bc;simp;exact aL [_] 42868517709885713899840 rfl aH)
  .simp
 .refine MS K cA (by exact bX [_,_,_] 722910684677324646131009 rfl b7 bk) (by exact bX [_,_,_,_] 3104978325725529989541662660050945 rfl eK be) bR.c6 bR.G.base (bR.has (aa:=aa) (ab:=ab++[D]) (by simp)) (λd hd=>?_) (D:=D) (by simp) (by simp;exact aL [_] 10465946706312114496 rfl aH) aes λc3 fF cK=>dq ?_
  .rcases fC.mp hd with B|B
   .exact eh d B
   .simp at B;exact B▸aS
  .have cc:=bR.called (aa:=aa) (by simp;rfl) fF cK
   exact q c3 cc.keep (cc.has (by simp;rfl))
theorem MQ{L:jP}{S:ax->Prop}(K:nu L S){aa:ah}{ab:List ax}{l:ax}(bd:I.handled=none)(bk:I.depth+2<d3)(be:I.units+9+L.deep<c7)(aK:c0 X C)(bQ:eg W (a0 X C))(cn:jN X aa ab C)(eh:∀d∈ab,S d)(aN:ab.getLast? =some l)(aH:ab.length<1000){af:List an}(aV:a3 (a0 X C) af [.adr aa])(q:∀v s',cC [aa] C s'->jN X aa (p2 da ab.dropLast l).2 s'->aC (a0 X s') v (p2 da ab.dropLast l).1->ai v s'):az W.M I (df (.ref 138) af) ai aj C:=by
 refine m7 (M:=[(aa,ab)]) (O:=[]) (Z:=[aa]) (m0 W) rfl (by exact aL [_,_] 159781662758209 rfl bk) aK bQ aV (λb ak=>by simp at ak;subst ak;exact cn.mem) (λiM f1 e=>?_) (λ_ _ e=>nomatch e) λar aG ag=>?_
 .refine d8 (xf e) λg7 dC=>?_;subst g7;subst dC
  exact⟨.head _,cn.is⟩
 have cA:(I.deeper (callEnvC (bP W.w 138) ar 138)).handled=none:=bd
 have b7:(I.deeper (callEnvC (bP W.w 138) ar 138)).depth=I.depth+1:=rfl
 have eK:(I.deeper (callEnvC (bP W.w 138) ar 138)).units=I.units+3:=rfl
 generalize I.deeper (callEnvC (bP W.w 138) ar 138)=dH at cA b7 eK ⊢
 have jv:S l:=eh l (List.mem_of_getLast? aN)
 refine abU ag (aa:=aa) (ab:=ab) (d:=l) rfl (by simp) aN (by unfold bc;exact aL [_] 685896283341678748660032 rfl aH) λa5 bN=>?_
 have Ir:ab.dropLast.length<1000:=by refine H List.length_dropLast ?_;exact bX [_,_] 722914082786197153263937 rfl aH (hh _ _)
 have Od:∀d∈ab.dropLast,S d:=λd hd=>eh d (by rw[Kv]at hd;exact S8 hd)
 generalize ab.dropLast=r at bN q Ir Od
 refine nU bN (b:= !r.isEmpty) (yz (aW (d:=.cf aa r) (r4 rfl (by simp))).lF (by unfold bc;exact aL [_] 685896283341678748660032 rfl Ir)) λbv bR=>?_
 cases r with
 |nil=>
  simp only[Kz,vx,fi,if_false]
  refine dq ?_
  refine rU bR (d:=l) (aW rfl) λv c3 cc gN=>?_
  exact q v c3 cc.keep (cc.has (aa:=aa) (by simp;rfl)) gN
 |cons a r=>
  simp only[List.isEmpty_cons,Bool.not_false,if_true]
  refine zY bR (aa:=aa) (ab:=a::r) (L:=(0:Nat)) (d:=a) rfl (by simp) c_ (by exact fG _) (by decide) (by simp) λc3 cc=>?_
  refine z0 cc (aa:=aa) (ab:=a::r) (L:=(0:Nat)) (d:=l) rfl (by simp) (aW rfl) c_ (by exact fG _) (by decide) (by simp) λdW cy=>?_
  refine p6 (iY cy (ab:=[.adr aa,.int (0:Nat)]) (bI (aW rfl) (bI c_ cF)) (Cn _) (rE W).obj (rE W).fn λaf e1 cU r8=>?_)
  refine B7 (ab:=l::r) K cA (by exact bX [_,_,_] 47376750188876873923162084353 rfl b7 bk) (by exact bX [_,_,_,_] 3104979254180559453576868884725761 rfl eK be) cU.c6 cU.G.base (cU.has (by simp)) (λd hd=>?_) (D:=l) (by simp) (by simpa using gv Ir) r8 λf3 rW rL=>?_
  .rcases dw.mp hd with B|B
   .exact B▸jv
   .exact Od d (gQ _ B)
  .have dA:=cU.called (aa:=aa) (by simp;rfl) rW rL
   refine rU dA (d:=a) (aW rfl) λv ji eW qf=>?_
   exact q v ji eW.keep (eW.has (aa:=aa) (by simp;rfl)) qf
theorem Xb{L:jP}{S:ax->Prop}(K:nu L S){aa:ah}{a D:ax}{r:List ax}(bd:I.handled=none)(bk:I.depth+2<d3)(be:I.units+9+L.deep<c7)(aK:c0 X C)(bQ:eg W (a0 X C))(cn:jN X aa (a::r) C)(eh:∀d∈a::r,S d)(aS:S D)(aH:(a::r).length<1000){af:List an}(aV:a3 (a0 X C) af [.adr aa,D])(q:∀v s',cC [aa] C s'->jN X aa (zG da (a::r) D) s'->aC (a0 X s') v a->ai v s'):az W.M I (df (.ref 145) af) ai aj C:=by
 refine m7 (M:=[(aa,a::r)]) (O:=[]) (Z:=[aa]) (wn W) rfl (h_ (qq _ 2) bk) aK bQ aV (λb ak=>by simp at ak;subst ak;exact cn.mem) (λiM f1 e=>?_) (λ_ _ e=>nomatch e) λar aG ag=>?_
 .obtain⟨rfl,rfl⟩:=xf e
  exact⟨.head _,cn.is⟩
 have cA:(I.deeper (callEnvC (bP W.w 145) ar 145)).handled=none:=bd
 have b7:(I.deeper (callEnvC (bP W.w 145) ar 145)).depth=I.depth+1:=rfl
 have eK:(I.deeper (callEnvC (bP W.w 145) ar 145)).units=I.units+3:=rfl
 generalize I.deeper (callEnvC (bP W.w 145) ar 145)=dH at cA b7 eK ⊢
 refine zY ag (aa:=aa) (ab:=a::r) (L:=(0:Nat)) (d:=a) rfl (by simp) c_ (fG _) (by decide) (by simp) λc3 cc=>?_
 refine z0 cc (aa:=aa) (ab:=a::r) (L:=(0:Nat)) (d:=D) rfl (by simp) (aW rfl) c_ (fG _) (by decide) (by simp) λdW cy=>?_
 refine p6 (iY cy (ab:=[.adr aa,.int (0:Nat)]) (bI (aW rfl) (bI c_ cF)) (Cn _) (rE W).obj (rE W).fn λaf e1 cU r8=>?_)
 refine B7 (ab:=D::r) K cA (h_ (j9 (congrArg (· +1) b7)) bk) (h_ (j9 (congrArg (· +6+L.deep) eK)) be) cU.c6 cU.G.base (cU.has (by simp)) (λd hd=>?_) (D:=D) (by simp) (by simpa using gv aH) r8 λf3 rW rL=>?_
 .rcases dw.mp hd with B|B
  .exact B▸aS
  .exact eh d (gQ _ B)
 .have dA:=cU.called (aa:=aa) (by simp;rfl) rW rL
  refine rU dA (d:=a) (aW rfl) λv ji eW qf=>?_
  exact q v ji eW.keep (eW.has (aa:=aa) (by simp;rfl)) qf
end
section
variable{a4:Type}{lt:a4->a4->Bool}
structure lj (lt:a4->a4->Bool):Prop where
 trans:∀a b V,lt b a=false->lt V b=false->lt V a=false
 asymm:∀a b,lt a b=true->lt b a=false
theorem lj.IB(O:lj lt)(a:a4):lt a a=false:=by
 cases e:lt a a with
 |false=>rfl
 |true=>exact e.symm.trans (O.asymm _ _ e)
theorem af_{m:List a4}{L aB:Nat}(aU:L<m.length)(bL:aB<m.length):((m.set L m[aB]).set aB m[L]).Perm m:=by
 have B:=Array.swap_perm (xs:=m.toArray) (i:=L) (j:=aB) (by simpa using aU) (by simpa using bL)
 have:=B.toList
 simpa[Array.swap]using this
theorem RT{l:List a4}{L aB:Nat}{D:a4}(aU:L<l.length)(bL:aB<l.length)(zw:L≠aB)(d:a4):((l.set L (l.getD aB d)).set aB D).Perm (l.set L D):=by
 have B:=af_ (m:=l.set L D) (L:=L) (aB:=aB) (by refine H jm ?_;exact aU) (by refine H jm ?_;exact bL)
 rw[List.getElem_set_self,List.getElem_set_ne zw,Th]at B
 refine H (i2) ?_;refine H (hT bL) ?_
 exact B
theorem oE{l:List a4}{L aB:Nat}{D d:a4}(B:L<l.length):(l.set L D).getD aB d=if aB=L then D else l.getD aB d:=by
 refine H (i2) ?_;refine H (i2) ?_;refine H (List.getElem?_set) ?_
 by_cases e:L=aB
 .refine H (if_pos e) ?_;refine H (if_pos e.symm) ?_;refine H (if_pos (e▸B)) ?_;rfl
 .refine H (if_neg e) ?_;refine H (if_neg (iB e)) ?_;rfl
theorem wz{l:List a4}{aB:Nat}{d:a4}(bL:aB<l.length):l.getD aB d=l[aB]:=by
 refine H (i2) ?_;refine H (hT bL) ?_;rfl
theorem r6{L Y:Nat}(B:L<Y):(L - 1) / 2<Y:=h_ (cu (A_ _ _) (hh _ _)) B
theorem ack{J k:Nat}(B:2*J+1<=k/\k<=2*J+1+1):(k - 1) / 2=J:=Nat.div_eq_of_lt_le (tE 2 J▸Tz B.1 1) (by refine H (TD _ _) ?_;refine H (tE _ _) ?_;exact h_ (Tz B.2 1) (kF _))
theorem II{J V:Nat}(aQ:0<V)(bw:(V - 1) / 2=J):V=2*J+1\/V=2*J+2:=by
 cases V with
 |zero=>exact nomatch aQ
 |succ aB=>
  have e:=Nat.div_add_mod aB 2
  rw[show aB / 2=J from bw]at e
  rcases Nat.mod_two_eq_zero_or_one aB with B|B<;>rw[B]at e
  .exact .inl (congrArg (· +1) e.symm)
  .exact .inr (congrArg (· +1) e.symm)
theorem Dk{J k:Nat}(B:2*J+1<=k):J<k:=g' (J4 J) B
theorem PR{J k V:Nat}(B:2*J+1<=k)(aQ:0<V)(bw:(V - 1) / 2=k):V≠J:=gR (dR (Dk B) (bw▸o7 aQ))
theorem va{J:Nat}(B:0<J):J≠(J - 1) / 2:=gR (o7 B)
theorem QM{J:Nat}(B:0<J):((J - 1) / 2 - 1) / 2≠J:=hA (h_ (cu (A_ _ _) (hh _ _)) (o7 B))
theorem JU{st J:Nat}(B:st<=(J - 1) / 2)(aQ:0<J):st<J:=h_ B (o7 aQ)
theorem Rs{D:a4}{st:Nat}(ao:Nat):∀(l:List a4)(J:Nat),J<l.length->(r_ lt ao l st J D).Perm (l.set J D):=by
 induction ao with
 |zero=>exact λl J _=>.refl _
 |succ ao bf=>
  intro l J aF
  refine H (xo _ _ _ _ _ _) ?_
  by_cases B:J>st
  .refine H (if_pos B) ?_
   cases lt D (l.getD ((J - 1) / 2) D)with
   |false=>exact .refl _
   |true=>
    have gX:=r6 aF
    exact(bf _ _ (by refine H jm ?_;exact gX)).trans (RT aF gX (gR (o7 B)) D)
  .refine H (if_neg B) ?_;rfl
theorem afQ{D:a4}(ao:Nat):∀(l:List a4)(J:Nat),J<l.length->(lD lt ao l J D).2<(lD lt ao l J D).1.length/\((lD lt ao l J D).1.set (lD lt ao l J D).2 D).Perm (l.set J D):=by
 induction ao with
 |zero=>exact λl J B=>⟨B,.refl _⟩
 |succ ao bf=>
  intro l J aF
  refine H (xq _ _ _ _ _) ?_
  by_cases B:2*J+1<l.length
  .refine H (if_pos B) ?_
   have hk:=IH lt l D _ B
   refine d8 (bf (l.set J (l.getD (jc lt l D (2*J+1)) D)) (jc lt l D (2*J+1)) (by rw[jm];exact hk)) λa b=>?_
   exact⟨a,b.trans (RT aF hk (hA (Dk (Dj lt l D (2*J+1)).1)) D)⟩
  .refine H (if_neg B) ?_
   exact⟨aF,.refl _⟩
theorem AB{l:List a4}{J:Nat}{D:a4}(aF:J<l.length):(mF lt l J D).Perm (l.set J D):=by
 refine d8 (afQ (lt:=lt) (D:=D) l.length l J aF) λa b=>?_
 refine(Rs _ _ _ (by refine H jm ?_;exact a)).trans ?_
 refine H (Th _) ?_
 exact b
noncomputable def nr(lt:a4->a4->Bool)(d:a4)(st:Nat)(l:List a4):Prop:=∀L,L<l.length->0<L->st<=(L - 1) / 2->lt (l.getD L d) (l.getD ((L - 1) / 2) d)=false
inductive oq (st:Nat):Nat->Prop
 |here:oq st st
 |jc {J}:0<J->oq st ((J - 1) / 2)->oq st J
theorem oq.le{st J:Nat}(B:oq st J):st<=J:=by induction B with
 |here=>exact eF _
 |jc h1 _ bf=>exact gv (JU bf h1)
theorem oq.up{st J:Nat}(B:oq st J)(aF:st<J):oq st ((J - 1) / 2):=by cases B with
 |here=>exact absurd aF (lL _)
 |jc _ B=>exact B
theorem oq.zero(J:Nat):oq 0 J:=by
 induction J using Tw with
 |_ J bf=>
  by_cases B:J=0
  .subst B;exact .here
  .exact .jc (Bf B) (bf _ (o7 (Bf B)))
structure nt (lt:a4->a4->Bool) (d:a4) (st:Nat) (l:List a4) (J:Nat):Prop where
 len:J<l.length
 a:∀L,L<l.length->0<L->st<=(L - 1) / 2->L≠J->(L - 1) / 2≠J->lt (l.getD L d) (l.getD ((L - 1) / 2) d)=false
 b:∀V,V<l.length->0<V->(V - 1) / 2=J->0<J->st<=(J - 1) / 2->lt (l.getD V d) (l.getD ((J - 1) / 2) d)=false
 desc:oq st J
theorem nt.set{d:a4}{st J:Nat}{l:List a4}(B:nt lt d st l J)(am:a4):nt lt d st (l.set J am) J:=by
 have e:∀aB,aB≠J->(l.set J am).getD aB d=l.getD aB d:=λaB bL=>(oE B.len).trans (if_neg bL)
 refine⟨by refine H jm ?_;exact B.len,λL aU aQ a9 h1 aA=>?_,λV aO aQ bw aF a9=>?_,B.desc⟩
 .rw[jm]at aU
  refine H (e _ h1) ?_;refine H (e _ aA) ?_
  exact B.a L aU aQ a9 h1 aA
 .rw[jm]at aO
  refine H (e V λau=>(va aQ) (au.trans bw.symm)) ?_;refine H (e _ (iB (va aF))) ?_
  exact B.b V aO aQ bw aF a9
theorem Rq{D:a4}{st J:Nat}{l:List a4}(B:nt lt D st l J)(aO:∀V,V<l.length->0<V->(V - 1) / 2=J->lt (l.getD V D) D=false)(bV:st<J->lt D (l.getD ((J - 1) / 2) D)=false):nr lt D st (l.set J D):=λL aU aQ a9=>by
 rw[jm]at aU
 refine H (oE B.len) ?_;refine H (oE B.len) ?_
 by_cases h1:L=J
 .subst h1
  refine H (if_pos rfl) ?_;refine H (if_neg (iB (va aQ))) ?_
  exact bV (JU a9 aQ)
 .refine H (if_neg h1) ?_
  by_cases aA:(L - 1) / 2=J
  .refine H (if_pos aA) ?_
   exact aO L aU aQ aA
  .refine H (if_neg aA) ?_
   exact B.a L aU aQ a9 h1 aA
theorem ae7(O:lj lt){D:a4}{st J:Nat}{l:List a4}(B:nt lt D st l J)(aF:J>st):nt lt D st (l.set J (l.getD ((J - 1) / 2) D)) ((J - 1) / 2):=by
 have bW:=B.len
 have uv:0<J:=h_ (eL _) aF
 have gX:=r6 bW
 have hd:=B.desc.up aF
 refine⟨by refine H jm ?_;exact gX,λL aU aQ a9 h1 aA=>?_,λV oJ aQ bw CU a9=>?_,hd⟩
 .rw[jm]at aU
  refine H (oE bW) ?_;refine H (oE bW) ?_
  by_cases bn:L=J
  .subst bn;exact absurd rfl aA
  .refine H (if_neg bn) ?_
   by_cases cK:(L - 1) / 2=J
   .refine H (if_pos cK) ?_
    exact B.b L aU aQ cK uv hd.le
   .refine H (if_neg cK) ?_
    exact B.a L aU aQ a9 bn cK
 .rw[jm]at oJ
  refine H (oE bW) ?_;refine H (oE bW) ?_;refine H (if_neg (QM uv)) ?_
  have up:=B.a ((J - 1) / 2) gX CU a9 (iB (va uv)) (QM uv)
  by_cases bn:V=J
  .refine H (if_pos bn) ?_
   exact up
  .refine H (if_neg bn) ?_
   have:=B.a V oJ aQ (bw.symm▸hd.le) bn (bw.symm▸iB (va uv))
   rw[bw]at this
   exact O.trans _ _ _ up this
theorem Rr(O:lj lt){D:a4}{st:Nat}(ao:Nat):∀(l:List a4)(J:Nat),nt lt D st l J->(∀V,V<l.length->0<V->(V - 1) / 2=J->lt (l.getD V D) D=false)->J<ao->nr lt D st (r_ lt ao l st J D):=by
 induction ao with
 |zero=>exact λ_ _ _ _ B=>absurd B (rg _)
 |succ ao bf=>
  intro l J B aO b2
  refine H (xo _ _ _ _ _ _) ?_
  by_cases aF:J>st
  .refine H (if_pos aF) ?_
   cases cM:lt D (l.getD ((J - 1) / 2) D)with
   |false=>exact Rq B aO λ_=>cM
   |true=>
    have uv:0<J:=h_ (eL _) aF
    refine bf _ _ (ae7 O B aF) (λV oJ aQ bw=>?_) (g' (o7 aF) (od b2))
    rw[jm]at oJ
    refine H (oE B.len) ?_
    by_cases bn:V=J
    .refine H (if_pos bn) ?_
     exact O.asymm _ _ cM
    .refine H (if_neg bn) ?_
     have:=B.a V oJ aQ (bw.symm▸(B.desc.up aF).le) bn (bw.symm▸iB (va uv))
     rw[bw]at this
     exact O.trans _ _ _ (O.asymm _ _ cM) this
  .refine H (if_neg aF) ?_
   exact Rq B aO λB=>absurd B aF
theorem acj(O:lj lt){D:a4}{J:Nat}{l:List a4}{V:Nat}(aO:V<l.length)(aQ:0<V)(bw:(V - 1) / 2=J):lt (l.getD V D) (l.getD (jc lt l D (2*J+1)) D)=false:=by
 unfold jc
 by_cases cE:2*J+1+1<l.length/\lt (l.getD (2*J+1) D) (l.getD (2*J+1+1) D)=false
 .refine H (if_pos cE) ?_
  rcases II aQ bw with rfl|rfl
  .exact cE.2
  .exact O.IB _
 .refine H (if_neg cE) ?_
  rcases II aQ bw with rfl|rfl
  .exact O.IB _
  .refine O.asymm _ _ ?_
   cases e:lt (l.getD (2*J+1) D) (l.getD (2*J+2) D)with
   |true=>rfl
   |false=>exact absurd ⟨aO,e⟩ cE
theorem afN(O:lj lt){D:a4}{st J k:Nat}{l:List a4}(B:nt lt D st l J)(hk:k<l.length)(pU:2*J+1<=k/\k<=2*J+1+1)(qL:∀V,V<l.length->0<V->(V - 1) / 2=J->lt (l.getD V D) (l.getD k D)=false):nt lt D st (l.set J (l.getD k D)) k:=by
 have bW:=B.len
 have e:=ack pU
 have k0:0<k:=g' (l7 _) pU.1
 refine⟨by refine H jm ?_;exact hk,λL aU aQ a9 h1 aA=>?_,λV aO aQ bw CU a9=>?_,.jc k0 (e.symm▸B.desc)⟩
 .rw[jm]at aU
  refine H (oE bW) ?_;refine H (oE bW) ?_
  by_cases bn:L=J
  .subst bn
   refine H (if_pos rfl) ?_;refine H (if_neg (iB (va aQ))) ?_
   exact B.b k hk k0 e aQ a9
  .refine H (if_neg bn) ?_
   by_cases cK:(L - 1) / 2=J
   .refine H (if_pos cK) ?_
    exact qL L aU aQ cK
   .refine H (if_neg cK) ?_
    exact B.a L aU aQ a9 bn cK
 .rw[jm]at aO
  refine H (oE bW) ?_;refine H (oE bW) ?_;refine H (if_neg (PR pU.1 aQ bw)) ?_;refine H e ?_;refine H (if_pos rfl) ?_
  have:=B.a V aO aQ (bw.symm▸cu B.desc.le (gv (Dk pU.1))) (PR pU.1 aQ bw) (bw.symm▸gR (Dk pU.1))
  rw[bw]at this
  exact this
theorem afP(O:lj lt){D:a4}{st:Nat}(ao:Nat):∀(l:List a4)(J:Nat),nt lt D st l J->l.length - J<=ao->nt lt D st (lD lt ao l J D).1 (lD lt ao l J D).2/\¬(2*(lD lt ao l J D).2+1<(lD lt ao l J D).1.length):=by
 induction ao with
 |zero=>exact λl J B b2=>absurd (Bb (KL.mp b2)) (tF.mpr B.len)
 |succ ao bf=>
  intro l J B b2
  refine H (xq _ _ _ _ _) ?_
  by_cases hk:2*J+1<l.length
  .refine H (if_pos hk) ?_
   have fL:=Dj lt l D (2*J+1)
   exact bf _ _ (afN O B (IH lt l D _ hk) fL λV a b e=>acj O a b e) (by refine H jm ?_;exact JX b2 fL.1)
  .refine H (if_neg hk) ?_
   exact⟨B,hk⟩
theorem afO{Y J V:Nat}(B:¬2*J+1<Y)(aO:V<Y)(aQ:0<V)(bw:(V - 1) / 2=J):False:=by
 rcases II aQ bw with rfl|rfl
 .exact B aO
 .exact B (EP aO)
theorem JP(O:lj lt){D:a4}{l:List a4}{al:Nat}(B:nr lt D (al+1) l)(aF:al<l.length):nr lt D al (mF lt l al D):=by
 have aQ:nt lt D al l al:=⟨aF,λL aU aQ a9 h1 aA=>B L aU aQ (Bd a9 (iB aA)),λV aO aQ bw CU a9=>absurd a9 (tF.mpr (o7 CU)),.here⟩
 refine d8 (afP O l.length l al aQ (hh _ _)) λaT bb=>?_
 exact Rr O _ _ _ (aT.set D) (λV aO aQ bw=>by rw[jm]at aO;exact(afO bb aO aQ bw).elim) (kF _)
theorem Oz{d bO:a4}{st:Nat}{l:List a4}(B:nr lt d st l):nr lt bO st l:=λL aU aQ a9=>by
 have:=B L aU aQ a9
 rw[wz aU,wz (r6 aU)]at this ⊢
 exact this
noncomputable def gp(lt:a4->a4->Bool)(l:List a4):Prop:=∀L (B:L<l.length),0<L->lt l[L] (l[(L - 1) / 2]'(r6 B))=false
theorem u0{d:a4}{l:List a4}:gp lt l↔nr lt d 0 l:=by
 constructor
 .intro B L aU aQ _
  refine H (wz aU) ?_;refine H (wz (r6 aU)) ?_
  exact B L aU aQ
 .intro B L aU aQ
  have:=B L aU aQ (eL _)
  rw[wz aU,wz (r6 aU)]at this
  exact this
theorem ab2{Y L:Nat}(B:L<Y+1)(cx:L≠Y):L<Y:=Bd (od B) cx
theorem aa9(O:lj lt){l:List a4}{D:a4}(B:gp lt l):gp lt (H5 lt l D)/\(H5 lt l D).Perm (D::l):=by
 have h1:=(u0 (d:=D)).mp B
 have fL:∀aB,aB<l.length->(l++[D]).getD aB D=l.getD aB D:=λaB bL=>by refine H (i2) ?_;refine H (i2) ?_;refine H (Ez bL) ?_;rfl
 have aN:l.length<(l++[D]).length:=by refine H gJ ?_;exact kF _
 have No:∀V,V<(l++[D]).length->0<V->(V - 1) / 2=l.length->False:=λV aO aQ bw=>by rw[gJ]at aO;exact absurd (bw▸o7 aQ) (fv.mpr (od aO))
 have cE:nt lt D 0 (l++[D]) l.length:=⟨aN,λL aU aQ a9 pR aA=>by
  rw[gJ]at aU
  have lv:=ab2 aU pR
  refine H (fL L lv) ?_;refine H (fL _ (r6 lv)) ?_
  exact h1 L lv aQ a9,λV aO aQ bw aF a9=>(No V aO aQ bw).elim,oq.zero _⟩
 refine⟨(u0 (d:=D)).mpr (Rr O _ _ _ cE (λV aO aQ bw=>(No V aO aQ bw).elim) (kF _)),(Rs _ _ _ aN).trans ?_⟩
 refine H ((List.set_append_right (h:=eF _)) _) ?_;refine H (Nat.sub_self _) ?_
 exact Tc D l
theorem adK{aB:Nat}(B:1<=(aB+1 - 1) / 2):∃k,(aB+1 - 1) / 2=k+1:=⟨(aB+1 - 1) / 2 - 1,(k_ B).symm⟩
theorem OA{d:a4}{a:a4}{r:List a4}(B:nr lt d 0 (a::r))(D:a4):nr lt d 1 (D::r):=λL aU aQ a9=>by
 have:=B L aU aQ (eL _)
 cases L with
 |zero=>exact absurd aQ (lL _)
 |succ aB=>
  obtain⟨k,hk⟩:=adK a9
  rw[hk]at this ⊢
  exact this
theorem O7(O:lj lt){a D:a4}{r:List a4}(B:gp lt (a::r)):gp lt (zG lt (a::r) D)/\(zG lt (a::r) D).Perm (D::r):=
 ⟨(u0 (d:=D)).mpr (JP (al:=0) O (OA ((u0 (d:=D)).mp B) D) (l7 _)),AB (l:=D::r) (J:=0) (l7 _)⟩
theorem aaf{d:a4}{st:Nat}{l m:List a4}(B:nr lt d st (l++m)):nr lt d st l:=λL aU aQ a9=>by
 have fL:∀aB,aB<l.length->(l++m).getD aB d=l.getD aB d:=λaB bL=>by refine H (i2) ?_;refine H (i2) ?_;refine H (Ez bL) ?_;rfl
 have:=B L (by refine H gJ ?_;exact g' aU (qq _ _)) aQ a9
 rwa[fL L aU,fL _ (r6 aU)]at this
theorem O2(O:lj lt){l:List a4}{D:a4}(B:gp lt (l++[D])):gp lt (p2 lt l D).2/\((p2 lt l D).1::(p2 lt l D).2).Perm (l++[D])/\(l++[D]).head?=some (p2 lt l D).1:=by
 cases l with
 |nil=>exact⟨λL aU=>absurd aU (rg _),.refl _,rfl⟩
 |cons a r=>
  have h1:=OA (aaf (l:=a::r) ((u0 (d:=D)).mp B)) D
  refine⟨(u0 (d:=D)).mpr (JP (al:=0) O h1 (l7 _)),SP a ?_,rfl⟩
  exact(AB (l:=D::r) (J:=0) (l7 _)).trans (Tc D r).symm
theorem OJ(L:Nat)(l:List a4):oN lt (L+1) l=match l[L]? with
  |some D=>oN lt L (mF lt l L D)
  |none=>oN lt L l:=rfl
theorem aav(O:lj lt){d:a4}(L:Nat):∀(l:List a4),nr lt d L l->nr lt d 0 (oN lt L l)/\(oN lt L l).Perm l:=by
 induction L with
 |zero=>exact λl B=>⟨B,.refl _⟩
 |succ L bf=>
  intro l B
  refine H (OJ _ _) ?_
  cases aS:l[L]? with
  |none=>exact bf l λaB bL aQ a9=>absurd (g' bL (List.getElem?_eq_none_iff.mp aS)) (fv.mpr (gv (JU a9 aQ)))
  |some D=>
   refine bH (kB.mp aS) λaU e=>?_
   refine d8 (bf _ (Oz (bO:=d) (JP (al:=L) O (Oz (bO:=D) B) aU))) λaT bb=>?_
   refine⟨aT,bb.trans ((AB aU).trans ?_)⟩
   refine b' e ?_;refine H (List.set_getElem_self _) ?_;rfl
theorem ZP{Y L:Nat}(aU:L<Y)(aQ:0<L)(B:Y / 2<=(L - 1) / 2):False:=by
 cases L with
 |zero=>exact nomatch aQ
 |succ aB=>exact absurd (cu (show aB / 2+1<=Y / 2 from Nat.add_div_right aB KU▸Nat.div_le_div_right aU) B) (Nat.not_succ_le_self _)
theorem OB(O:lj lt)(l:List a4):gp lt (oN lt (l.length / 2) l)/\(oN lt (l.length / 2) l).Perm l:=by
 cases l with
 |nil=>
  refine H (show([]:List a4).length / 2=0 from Nat.zero_div 2) ?_
  exact⟨λL aU=>absurd aU (rg _),.refl _⟩
 |cons a r=>
  refine d8 (aav (d:=a) O ((a::r).length / 2) (a::r) λL aU aQ a9=>(ZP aU aQ a9).elim) λh1 aA=>?_
  exact⟨u0.mpr h1,aA⟩
theorem CD(O:lj lt){a:a4}{r:List a4}(B:gp lt (a::r)):∀am∈a::r,lt am a=false:=by
 have dP:∀L (aU:L<(a::r).length),lt (a::r)[L] a=false:=λL=>by
  induction L using Tw with
  |_ L bf=>
   intro aU
   cases L with
   |zero=>exact O.IB a
   |succ L=>exact O.trans _ _ _ (bf _ (o7 (l7 L)) (r6 aU)) (B _ aU (l7 L))
 intro am bZ
 obtain⟨L,aU,rfl⟩:=vz bZ
 exact dP L aU
end
section
variable{a4:Type}{lt:a4->a4->Bool}
theorem aff{l:List a4}{J:Nat}{D:a4}(aS:l[J]? =some D):∀d∈mF lt l J D,d∈l:=λd hd=>by
 refine bH (kB.mp aS) λaF e=>?_
 rcases EG ((AB aF).mem_iff.mp hd)with B|B
 .exact B
 .exact B▸e▸xM aF
end
theorem af0:tP (.type "range_iterator") (.type "reversed")=pure false:=by refine H (pC _ _) ?_;kernel_rfl
section
variable{prog:kG}{w:c4}{I:br}{aj:an->aq->Prop}{C:aq}
theorem Xm{r:ah}{k:Int}{t bq v:dN}{ai:an->aq->Prop}(aE:Fb C.heap r 0 k 1 t bq v)(HN:0<=k)(hk:k<=1000)(B:ai (.ref C.heap.objs.size) {C with heap:=C.heap.push {cls:=.type "range_iterator",data:=.fields #[dG (k - 1),dG k,dG (-1)]}}):az (gn prog w) I (df (.builtin "range.__reversed__") [.ref r]) ai aj C:=by
 have dI:C.TypeIs (.ref r) "range":=⟨_,aE,rfl⟩
 refine l' F.slot_range_reversed dI F.entry_range_reversed ?_ (F.args_range_reversed_1 _)
 unfold fX.«range.__reversed__»
 refine aM (g4 (a:=nk r) rfl ?_)
 unfold aiK
 refine aM (aM (iF aE rfl (x:=.int 0 t) rfl ?_))
 refine aM (b6 ?_)
 refine aM (iF aE rfl (x:=.int k bq) rfl ?_)
 refine aM (b6 ?_)
 refine aM (iF aE rfl (x:=.int 1 v) rfl ?_)
 refine aM (b6 ?_)
 refine b6 ?_
 have e:K5 0 k 1=k:=by refine H (LB _ _) ?_;split <;>lia
 have ao:∀L:Int, -10000<=L->L<=10000->T2 L=true:=λL h1 aA=>by
  unfold T2
  simp only[mH,decide_eq_true_eq]
  exact⟨tw (by decide) h1,SG aA (by decide)⟩
 dsimp only
 refine H e ?_
 simp only[ao 0 (by decide) (by decide),ao k (tw (by decide) HN) (tw hk (by decide)),ao 1 (by decide) (by decide),ao (-1) (by decide) (by decide),ao (0 - 1) (by decide) (by decide),Bool.and_self,vx,fi,if_false,if_true]
 refine aM (tX ?_)
 refine b6 ⟨_,rfl,?_⟩
 have bm:(0:Int)+(k - 1)*1=k - 1:=(tx _).trans (SI _)
 refine H bm ?_
 exact B
theorem XC{r:ah}{k:Nat}{t bq v:dN}{Mo:an->aq->Prop}(aE:Fb C.heap r 0 k 1 t bq v)(hk:k<=1000)(B:Mo (.ref C.heap.objs.size) {C with heap:=C.heap.push {cls:=.type "range_iterator",data:=.fields #[dG ((k:Int) - 1),dG k,dG (-1)]}}):lb (gn prog w) I (.call (.builtin "reversed.__new__") ⟨[.type "reversed",.ref r],[]⟩) (wants Mo aj) C:=by
 have dI:C.TypeIs (.ref r) "range":=⟨_,aE,rfl⟩
 refine UD ?_
 show az _ I.in1 (do Uz "reversed.__new__" ⟨[.type "reversed",.ref r],[]⟩;tL (.builtin "reversed.__new__" ⟨[.type "reversed",.ref r],[]⟩)) _ _ C
 refine aM (g4 (F.newCall_reversed_1 _) (b6 ⟨tS F.plain_reversed_new _,tN F.entry_reversed_new ?_⟩))
 refine H (vK F.plain_reversed_new _) ?_
 unfold fX.«reversed.__new__»
 refine aM (g4 (newClass_reversed _) ?_)
 try dsimp only
 refine aM (g4 (a:=()) (by first |rfl|kernel_rfl) ?_)
 refine aM (g4 (a:=()) (by first |rfl|kernel_rfl) ?_)
 try dsimp only
 refine aM (v2 dI F.slot_range_reversed.lookup ?_)
 try dsimp only
 refine aM (g4 (F.slot_range_reversed.bind _) ?_)
 try dsimp only
 first
 |refine H (if_neg (show¬((Fl "range.__reversed__"==gB)=true)from tv)) ?_
 |(show az _ _ (if(Fl "range.__reversed__"==gB)=true then _ else _) _ _ _;rw[if_neg (show¬((Fl "range.__reversed__"==gB)=true)from tv)])
 refine aM (oo ?_)
 refine aM (m:=runValue (.call (.builtin "range.__reversed__") ⟨[.ref r],[]⟩)) (show az _ _ (df (.builtin "range.__reversed__") [.ref r]) _ _ _ from Xm aE (by exact fG _) (by lia) ?_)
 first
 |exact b6 B
 |exact aM (b6 (b6 B))
theorem Xn{r:ah}{k:Nat}{t bq v:dN}{ai:an->aq->Prop}(aE:Fb C.heap r 0 k 1 t bq v)(hk:k<=1000)(B:ai (.ref C.heap.objs.size) {C with heap:=C.heap.push {cls:=.type "range_iterator",data:=.fields #[dG ((k:Int) - 1),dG k,dG (-1)]}}):az (gn prog w) I (df (.type "reversed") [.ref r]) ai aj C:=by
 refine callType_other (U:="range_iterator") (Q₁:=λobj j6=>obj= .ref C.heap.objs.size/\j6={C with heap:=C.heap.push {cls:=.type "range_iterator",data:=.fields #[dG ((k:Int) - 1),dG k,dG (-1)]}}) (by decide+kernel) F.create_reversed ⟨_,_,F.mro_reversed⟩ F.made_reversed af0 (F.typeCall_reversed_1 _) (XC aE hk ⟨rfl,rfl⟩) ?_
 rintro obj j6 ⟨rfl,rfl⟩
 exact⟨⟨_,f_ _ rfl,rfl⟩,B⟩
end
section
variable{W:bj}{I:br}{env:bB}{X:List ah}{ae:bu}{M:ce}{O:List (ah×bJ)}{Z:List ah}{av C:aq}{ai:fj->aq->Prop}{aj:an->aq->Prop}
theorem Gf(w:c4):dF (cZ w) dh "range"=some none:=by kernel_rfl
theorem Gi:iD "range"=some (.type "range"):=by kernel_rfl
theorem WK(w:c4):dF (cZ w) dh "reversed"=some none:=by kernel_rfl
theorem WU:iD "reversed"=some (.type "reversed"):=by kernel_rfl
theorem B8{D:ay}{bK al:bp}{ao:an}{e:a'}{ai:an->aq->Prop}{aj:an->aq->Prop}(G:fQ W env ae (a0 X C))(hk:env.kindOf D=some .globalImplicit)(bA:dF (cZ W.w) dh D=some none)(ak:iD D=some ao)(B:az W.M I (b1 e env) (λv s'=>az W.M I (df ao [v]) ai aj s') aj C)(b2:∀a,ao≠ .ref a:=by intro _ D;cases D)(bV:autoParam (eQ e=false) tR)(a_:autoParam (D≠"__name__") tD)(hd:autoParam ((D==("__debug__":ay))=false) tD):az W.M I (b1 (.Call (.Name D bK) [e] [] al) env) ai aj C:=by
 show az _ _ (b1 (.Name D bK) env>>=λv=>fH al v [] (fk al (eV [e] env)) (j_ al (j' [] env))) _ _ _
 refine aM (ly G hk bA ak ?_ a_ hd)
 show az _ _ (fH al ao [] (fk al (eV [e] env)) []) _ _ _
 refine H ((h8 bV) _) ?_
 with_reducible refine jQ b2 rfl (k' (g0 (fe B (λv aG h1=>jJ ?_) λ_ _ D=>D)))
 exact h1
set_option tactic.hygienic true in
theorem abQ{e2:Type}{D:ay}{bK cB cY eM eP al:bp}{e:a'}{body aJ:List cT}{k:Nat}(fp:e2->List ah)(gu:e2->bu)(fY:e2->ce)(eG:e2->List (ah×bJ))(P:Nat->e2->Prop)(f0:e2)(bd:I.handled=none)(hk:k<=1000)(bw:aY W I env (mD (fY f0) (gu f0)) e (.int k))(nK:∀L a ag N C jL,P (L+1) a->L<k->(eG a).lookup ag=none->ag∉fp a->aP W env (ag::fp a) ((D,.int L)::gu a) (fY a) ((ag,N)::eG a) Z av C->az W.M I (bY body env) (λao s'=>match ao with
   | .next | .cont=>∃ci,P L ci/\(eG ci).lookup ag=none/\ag∉fp ci/\aP W env (ag::fp ci) (gu ci) (fY ci) ((ag,N)::eG ci) Z av s'
   | .brk=>False
   | .ret v=>ai (.ret v) s') jL C)(aQ:P k f0)(iN:aP W env (fp f0) (gu f0) (fY f0) (eG f0) Z av C)(next:∀a s',P 0 a->aP W env (fp a) (gu a) (fY a) (eG a) Z av s'->az W.M I (bY aJ env) ai aj s')(aS:autoParam (env.kindOf D=some .local) tR)(hd:autoParam ((D==("__debug__":ay))=false) tD)(uJ:autoParam (env.kindOf "reversed"=some .globalImplicit) tR)(rP:autoParam (env.kindOf "range"=some .globalImplicit) tR)(bV:autoParam (eQ e=false) tR):az W.M I (bY (.For (.Name D bK) (.Call (.Name "reversed" cB) [.Call (.Name "range" cY) [e] [] eM] [] eP) body [] al::aJ) env) ai aj C:=by
 have zJ:∀{a},C.heap.get? a=none->av.heap.get? a=none:=λ{a} B=>by
  cases q:av.heap.get? a with
  |none=>rfl
  |some N=>
   exfalso
   by_cases aH:a∈Z
   .refine bH (iN.c6 _ (iN.hS _ aH)) λb0 e=>?_
    rw[B]at e;cases e
   .have:=iN.keep.keep _ _ aH q
    rw[B]at this;cases this
 refine eH (LL (B8 iN.open uJ (WK _) WU (B8 iN.open rP (Gf _) Gi ((bw.on _ C iN.jg iN.open).go _ _ λv aG k1 aT=>?_) (bV:=bV))) (by intro _;rfl))
 refine aC.eI aT λ_=>?_
 rename_i bg
 refine Uy (Xn (Le ..) hk ?_)
 refine wpAny_pyIter_rangeiter (it:=_) (f_ _ rfl) ?_
 have uK:cS C {aG with heap:=aG.heap.push {cls:=.type "range",data:=.fields #[.int 0 aG.toks,.int k bg,.int 1 (aG.toks+1)]},toks:=aG.toks+1+1}:=b5 k1 (b5 (ip aG _) (ey _ (aG.toks+1+1)))
 generalize m4:({aG with heap:=aG.heap.push {cls:=.type "range",data:=.fields #[.int 0 aG.toks,.int k bg,.int 1 (aG.toks+1)]},toks:=aG.toks+1+1}:aq)=a5 at uK ⊢
 have bG:=iN.keeps uK
 have rQ:a5.heap.get? a5.heap.objs.size=none:=iC (eF _)
 have pX:av.heap.get? a5.heap.objs.size=none:=zJ (by
  cases q:C.heap.get? a5.heap.objs.size with
  |none=>rfl
  |some N=>have:=ed uK _ _ q;rw[rQ]at this;cases this)
 have lp:(eG f0).lookup a5.heap.objs.size=none:=by
  cases q:(eG f0).lookup a5.heap.objs.size with
  |none=>rfl
  |some N=>have:=(bG.objs _ N q).1;rw[rQ]at this;cases this
 have lr:a5.heap.objs.size∉fp f0:=λB=>by
  refine bH (bG.c6 _ B) λN e=>?_
  rw[rQ]at e;cases e
 have sC:a5.heap.objs.size∉Z:=λB=>by
  refine bH (bG.c6 _ (bG.hS _ B)) λN e=>?_
  rw[rQ]at e;cases e
 have bN:=bG.Jq (N:={cls:=.type "range_iterator",data:=.fields #[dG ((k:Int) - 1),dG k,dG (-1)]})
 generalize ij:a5.heap.objs.size=ag at bN pX lp lr sC ⊢
 refine Lw (λY s'=>∃L a,L<=k/\Y=L/\P L a/\(eG a).lookup ag=none/\ag∉fp a/\aP W env (ag::fp a) (gu a) (fY a) ((ag,{cls:=.type "range_iterator",data:=.fields #[dG ((L:Int) - 1),dG L,dG (-1)]})::eG a) Z av s') ?_ k ⟨k,f0,eF _,rfl,aQ,lp,lr,bN⟩
 rintro Y s' ⟨L,a,aU,rfl,cL,sD,oH,bR⟩
 have a6:Lf s'.heap ag ((Y:Int) - 1) Y (-1):=(bR.objs ag _ (by simp)).1
 cases Y with
 |zero=>
  refine wpAny_pyNext_range_end bd a6 (by simp) λaD zr=>?_
  have cc:=bR.GH (N:={cls:=.type "range_iterator",data:=.fields #[dG (((0:Nat):Int) - 1),dG ((0:Nat):Int),dG (-1)]}) (aD:=aD) (bg:=s'.toks) (by simp) sC pX oH zr
  exact dq (next a _ cL (cc.j0 (dk:=fY a) (λ_ _ e=>e) (λD d e=>GS sD e)))
 |succ L=>
  refine wpAny_pyNext_range_item a6 (by lia) λaD qK ec=>?_
  have a8:(((L+1:Nat):Int) - 1)=L:=by lia
  have bm:((L:Int)+ -1)=(L:Int) - 1:=by lia
  rw[a8,bm]at qK
  refine H a8 ?_
  have cc:=(bR.DC (bg:=s'.toks+1) (O:=(ag,_)::eG a) (N:={cls:=.type "range_iterator",data:=.fields #[dG (((L+1:Nat):Int) - 1),dG ((L+1:Nat):Int),dG (-1)]}) (by simp) (.head _) (.inr pX) (ec.extBut) qK).j0 (dk:=fY a) (cI:=(ag,{cls:=.type "range_iterator",data:=.fields #[dG ((L:Int) - 1),dG L,dG (-1)]})::eG a) (λ_ _ e=>e) (λD d e=>by
   rw[c1]at e ⊢
   cases aS:D==ag with
   |true=>rw[aS]at e;exact e
   |false=>
    rw[aS]at e
    dsimp only
    refine H c1 ?_;refine H aS ?_
    exact e)
  refine acK ?_
  with_reducible refine om ?_
  refine cc.store aS hd (.int _ _) λdW cy=>?_
  refine fe (nK L a ag _ dW _ cL (by exact aL [_,_] 159777367786817 rfl aU) sD oH cy) (λao e1 fs=>?_) λ_ _ e=>e
  cases ao with
  |next=>refine vt fs λci oF mn lq cU=>?_;clear fs;exact⟨_,kF _,L,ci,by exact aL [_,_] 159777367786816 rfl aU,rfl,oF,mn,lq,cU⟩
  |cont=>refine vt fs λci oF mn lq cU=>?_;clear fs;exact⟨_,kF _,L,ci,by exact aL [_,_] 159777367786816 rfl aU,rfl,oF,mn,lq,cU⟩
  |brk=>exact fs.elim
  |ret v=>exact fs
end
section
variable{W:bj}{I:br}{X:List ah}{C:aq}{ai:an->aq->Prop}{aj:an->aq->Prop}
theorem MP{L:jP}{S:ax->Prop}(K:nu L S){aa:ah}{ab:List ax}(bd:I.handled=none)(bk:I.depth+2<d3)(be:I.units+9+L.deep<c7)(aK:c0 X C)(bQ:eg W (a0 X C))(cn:jN X aa ab C)(eh:∀d∈ab,S d)(aH:ab.length<1000){af:List an}(aV:a3 (a0 X C) af [.adr aa])(q:∀s',cC [aa] C s'->jN X aa (oN da (ab.length / 2) ab) s'->ai .none s'):az W.M I (df (.ref 159) af) ai aj C:=by
 refine m7 (M:=[(aa,ab)]) (O:=[]) (Z:=[aa]) (rC W) rfl (by exact aL [_,_] 159781662758209 rfl bk) aK bQ aV (λb ak=>by simp at ak;subst ak;exact cn.mem) (λiM f1 e=>?_) (λ_ _ e=>nomatch e) λar aG ag=>?_
 .refine d8 (xf e) λg7 dC=>?_;subst g7;subst dC
  exact⟨.head _,cn.is⟩
 have cA:(I.deeper (callEnvC (bP W.w 159) ar 159)).handled=none:=bd
 have b7:(I.deeper (callEnvC (bP W.w 159) ar 159)).depth=I.depth+1:=rfl
 have eK:(I.deeper (callEnvC (bP W.w 159) ar 159)).units=I.units+3:=rfl
 generalize I.deeper (callEnvC (bP W.w 159) ar 159)=dH at cA b7 eK ⊢
 refine qP ag (d:=.int ab.length) ?_ rfl λa5 bN=>?_
 .refine ow rfl (ue _) uf (bI (aW (d:=.cf aa ab) (r4 rfl (by simp))) cF) λX C af aK G aV=>?_
  refine a3.eC aV λ_ _ r rs=>?_
  refine a3.eN rs ?_;exact Em r.un (by unfold bc;exact aL [_] 685896283341678748660032 rfl aH)
 refine abQ (e2:=List ax) (k:=ab.length / 2) (λ_=>X) (λ_=>[("x",.adr aa),("n",.int ab.length)]) (λl=>[(aa,l)]) (λ_=>[]) (λaB l=>l.length=ab.length/\(∀d∈l,S d)/\oN da aB l=oN da (ab.length / 2) ab) ab
  cA (by exact bX [_,_] 2961056623239702420396716352 rfl aH (A' _ 2)) (nw (L2 (a:=(ab.length:Int)) ?_ c_ (by decide) ?_) ?_) ?_ ⟨rfl,eh,rfl⟩ (bN.to ⟨rfl,rfl,trivial⟩ ⟨by simp,trivial⟩ trivial) λl bv cL bR=>?_
 .exact aW rfl
 .exact aiB (by decide)
 .refine H (Ev _ (by decide)) ?_;rfl
 .rintro aB l ag N bv jL ⟨aN,jv,kM⟩ bL _ uz bR
  have OL:aB<l.length:=by exact j1 [_,_,_,_] 44735039308878420645185 rfl bL aN (A' _ 2)
  have aS:=NL (D:=ax.none) OL
  rw[OJ,aS]at kM
  dsimp only at kM
  refine p6 (iY bR (ab:=[.adr aa,.int (aB:Nat)]) (bI (aW rfl) (bI (aW rfl) cF)) (Cn _) (rE W).obj (rE W).fn λaf e1 cU r8=>?_)
  refine B7 (ab:=l) K cA (by exact bX [_,_,_] 47376750188876873923162084353 rfl b7 bk) (by exact bX [_,_,_,_] 3104979254180559453576868884725761 rfl eK be) cU.c6 cU.G.base (cU.has (by simp)) jv aS (by exact bX [_,_] 722889291259968678801728 rfl aN aH) r8 λf3 rW rL=>dq ?_
  have dA:=cU.called (aa:=aa) (by simp;rfl) rW rL
  refine⟨mF da l aB (l.getD aB .none),⟨?_,?_,kM⟩,rfl,uz,dA.to ⟨rfl,rfl,trivial⟩ ⟨by simp,trivial⟩ ⟨by simp,trivial⟩⟩
  .refine H ((AB OL).length_eq) ?_;refine H jm ?_;exact aN
  .exact λd hd=>jv d (aff aS d hd)
 .exact dq (q bv bR.keep (by refine b' cL.2.2 ?_;exact bR.has (by simp;rfl)))
end
section
variable{W:bj}{I:br}{env:bB}{X:List ah}{ae:bu}{M:ce}{O:List (ah×bJ)}{Z:List ah}{av C:aq}{aj:an->aq->Prop}
theorem Wx{N L:a'}{al:bp}{v:an}{ai:Unit->aq->Prop}(B:az W.M I (b1 N env) (λQI j6=>az W.M I (b1 L env) (λkS iz=>az W.M I (LG QI kS v) ai aj iz) aj j6) aj C):az W.M I (nl (.Subscript N L al) env v) ai aj C:=by
 refine H (assign_Subscript _ _ _ _) ?_
 refine aM (ib (fe B (λQI j6 iX=>?_) λ_ _ e=>e))
 refine aM (ib (fe iX (λkS iz sY=>?_) λ_ _ e=>e))
 refine aM (tY (aM (ib (fe sY (λ_ RV m6=>?_) λ_ _ e=>e))))
 exact wpAny_release m6
end
noncomputable def gX{a4:Type}(lt:a4->a4->Bool):List a4->a4->a4×List a4
 |[],D=>(D,[])
 |a::r,D=>if lt a D then(a,mF lt (D::r) 0 D)else(D,a::r)
section
variable{W:bj}{I:br}{X:List ah}{C:aq}{ai:an->aq->Prop}{aj:an->aq->Prop}
theorem Xa{L:jP}{S:ax->Prop}(K:nu L S){aa:ah}{a D:ax}{r:List ax}(bd:I.handled=none)(bk:I.depth+2<d3)(be:I.units+9+L.deep<c7)(aK:c0 X C)(bQ:eg W (a0 X C))(cn:jN X aa (a::r) C)(eh:∀d∈a::r,S d)(aS:S D)(aH:(a::r).length<1000){af:List an}(aV:a3 (a0 X C) af [.adr aa,D])(q:∀v s',cC [aa] C s'->jN X aa (gX da (a::r) D).2 s'->aC (a0 X s') v (gX da (a::r) D).1->ai v s'):az W.M I (df (.ref 152) af) ai aj C:=by
 refine m7 (M:=[(aa,a::r)]) (O:=[]) (Z:=[aa]) (Gw W) rfl (by exact aL [_,_] 159781662758209 rfl bk) aK bQ aV (λb ak=>by simp at ak;subst ak;exact cn.mem) (λiM f1 e=>?_) (λ_ _ e=>nomatch e) λar aG ag=>?_
 .refine d8 (xf e) λg7 dC=>?_;subst g7;subst dC
  exact⟨.head _,cn.is⟩
 have cA:(I.deeper (callEnvC (bP W.w 152) ar 152)).handled=none:=bd
 have b7:(I.deeper (callEnvC (bP W.w 152) ar 152)).depth=I.depth+1:=rfl
 have eK:(I.deeper (callEnvC (bP W.w 152) ar 152)).units=I.units+3:=rfl
 generalize I.deeper (callEnvC (bP W.w 152) ar 152)=dH at cA b7 eK ⊢
 have ZB:S a:=eh a (.head _)
 refine nU ag (b:=true&&da a D) ?_ λa5 bN=>?_
 .refine Mc (yz (ab:=a::r) (aW (d:=.cf aa (a::r)) (r4 rfl (by simp))).lF (by unfold bc;exact aL [_] 685896283341678748660032 rfl aH)) λ_=>?_
  refine F0 K (ox (L:=(0:Nat)) (aW (d:=.cf aa (a::r)) (r4 rfl (by simp))).lF c_ (by exact fG _) (by decide) (by simp)) (aW ?_) ZB aS (by exact bX [_,_,_,_] 47378223482979727990369702913 rfl eK be)
  refine H (s8 _ _ _) ?_
  show some (na _ D)=_
  refine H (((K.keyed _ aS).adm) _) ?_;rfl
 refine H (Sz _) ?_
 cases cM:da a D with
 |false=>
  simp only[fi,if_false]
  refine dq ?_
  refine rU bN (d:=D) (aW rfl) λv c3 cc gN=>?_
  have e:gX da (a::r) D=(D,a::r):=by rw[gX,cM];rfl
  rw[e]at q
  exact q v c3 cc.keep (cc.has (aa:=aa) (by simp)) gN
 |true=>
  simp only[if_true]
  have e:gX da (a::r) D=(a,mF da (D::r) 0 D):=by rw[gX,cM];rfl
  rw[e]at q
  refine eH (KV (KW ?_) rfl rfl)
  show az _ _ (LH [(false,b1 _ _),(false,b1 _ _)]) _ _ _
  refine g0 ((bN.item (aa:=aa) (ab:=a::r) (L:=(0:Nat)) (d:=a) rfl (by simp) c_ (by exact fG _) (by decide) (by simp)).go _ _ λbx bv dr e0=>?_)
  refine g0 (((aW (d:=D) rfl).on X bv (bN.keeps dr).c6 (bN.keeps dr).G).go _ _ λbE c3 fF gN=>jJ ?_)
  refine sl ?_ (by show 2<=_;refine H l_ ?_;exact e_ [] 4785074611495184 rfl)
  have cc:=((bN.keeps dr).keeps fF)
  have jX:cS c3 {c3 with heap:=c3.heap.push {cls:=.type "tuple",data:=.seq [bx,bE].toArray}}:=ip c3 _
  have cy:=cc.keeps jX
  have aeo:=e0.mono ((cg fF).trans (cg jX))
  have aep:=gN.mono (cg jX)
  have dI:(c3.heap.push {cls:=.type "tuple",data:=.seq [bx,bE].toArray}).IsTuple c3.heap.objs.size [bx,bE].toArray:=⟨_,f_ _ rfl,rfl,0,rfl⟩
  refine FE cA dI rfl rfl λfs aac=>?_
  have l2:cS {c3 with heap:=c3.heap.push {cls:=.type "tuple",data:=.seq [bx,bE].toArray}} {c3 with heap:=fs}:=⟨fs,c3.toks,rfl,λb N e=>aac b N (hA (iL e)) e⟩
  have cU:=cy.keeps l2
  show az _ _ (tM [nl _ _,nl _ _] [bx,bE]) _ _ _
  refine ry (om (cU.AH (d:=a) rfl (by decide) (aeo.mono (cg l2)) λf3 dA acn=>?_))
  refine ry (Wx (nX (aa:=aa) rfl dA λji w3=>?_))
  have eW:=dA.keeps w3
  refine((c_ (W:=W) (I:=dH) (L:=0)).on _ ji eW.jg eW.open).go _ _ λw hP nW lB=>?_
  refine aC.eI lB λ_=>?_
  have fm:=eW.keeps nW
  refine fW (fm.el aa (a::r) (by simp)) λ_ _ ee bz nb=>?_
  have dp:ee.size=(a::r).length:=by simpa using nb.length
  refine JM bz (by decide) (by decide) (by refine H dp ?_;simp) λaD il ec=>?_
  have hV:=fm.mut (aa:=aa) (ab:=a::r) (f1:=D::r) (by simp) il ec (by
   refine H Kh ?_
   exact nb.set 0 (((aep.mono (cg l2)).g_ acn).mono ((cg w3).trans (cg nW))))
  refine BY ?_
  refine p6 (iY hV (ab:=[.adr aa,.int (0:Nat)]) (bI (aW rfl) (bI c_ cF)) (Cn _) (rE W).obj (rE W).fn λaf qh iO aer=>?_)
  refine B7 (ab:=D::r) K cA (by exact bX [_,_,_] 47376750188876873923162084353 rfl b7 bk) (by exact bX [_,_,_,_] 3104979254180559453576868884725761 rfl eK be) iO.c6 iO.G.base (iO.has (by simp)) (λd hd=>?_) (D:=D) (by simp) (by simpa using gv aH) aer λJI ace uw=>?_
  .rcases dw.mp hd with B|B
   .exact B▸aS
   .exact eh d (gQ _ B)
  .have v6:=iO.called (aa:=aa) (by simp;rfl) ace uw
   refine dq ?_
   refine rU v6 (d:=a) (aW rfl) λv Ro BE As=>?_
   exact q v Ro BE.keep (BE.has (aa:=aa) (by simp)) As
end
end Mine.Tactic
namespace Mine.Tactic
open PySem.Sre PySem.Builtin.Re
theorem Rl{m:M}(B:m.outcome.isSome=true):∀Y,m.runFor Y=m
 |0=>rfl
 |Y+1=>by rw[M.runFor,if_pos B]
set_option tactic.hygienic true in
theorem vk:∀(a b:Nat)(m:M),m.runFor (a+b)=(m.runFor a).runFor b
 |0,b,m=>by simp[M.runFor]
 |a+1,b,m=>by
  rw[show a+1+b=(a+b)+1 by exact e_ [_,_] 1229856533585674242 rfl,M.runFor,M.runFor]
  split
  .rename_i B
   exact(Rl B b).symm
  .exact vk a b m.step
theorem JG{m:M}{k Y:Nat}(B:(m.runFor k).outcome.isSome=true)(hk:k<=Y):m.runFor Y=m.runFor k:=by
 refine bH (Nat.le.dest hk) λd dC=>?_;subst dC
 refine H (vk _ _ _) ?_;refine H ((Rl B) _) ?_;rfl
theorem Q8{bF:Bp}{I:br}{ai:px->aq->Prop}{aj:an->aq->Prop}{C:aq}:∀(xt k:Nat)(m:px),(m.runFor k).outcome.isSome=true->k<=4*xt->0<xt->ai (m.runFor k) C->az bF I (reDrive xt m) ai aj C
 |0,_,_,_,_,B,_=>by exact(lL 0 (aL [] 159433498824721 rfl B)).elim
 |xt+1,k,m,a6,hk,_,q=>by
  rw[reDrive]
  show az bF I (if(m.runFor 4).outcome.isSome=true then pure (m.runFor 4)else do Bv "sre.turn";reDrive xt (m.runFor 4)) ai aj C
  by_cases cK:(m.runFor 4).outcome.isSome=true
  .refine H (if_pos cK) ?_
   have e:m.runFor 4=m.runFor k:=by
    rcases Bc k 4 with B|B
    .exact JG a6 B
    .exact(JG cK B).symm
   refine H e ?_
   exact b6 q
  .refine H (if_neg cK) ?_
   have HK:4<k:=by
    rcases KN 4 k with B|B
    .exact B
    .rw[JG a6 B]at cK;exact absurd a6 cK
   have e:m.runFor k=(m.runFor 4).runFor (k - 4):=by refine b' (vk _ _ _) ?_;congr 1;exact bX [_,_] 12085104634371461327460883304514 rfl (qi _ _) (k_ (aL [_] 159721530343696 rfl HK))
   rw[e]at a6 q
   exact aM (oo (Q8 xt (k - 4) (m.runFor 4) a6 (by exact bX [_,_,_] 12128796209562242234310976606784 rfl hk (k_ (aL [_] 159721530343696 rfl HK))) (by exact bX [_,_] 185272922447096640141606929 rfl HK hk) q))
theorem JF{bF:Bp}{I:br}{aj:an->aq->Prop}{C:aq}{ao:Nat->Bool}{g:Nat->String}{ai:PUnit->aq->Prop}(q:ai ⟨⟩ C):∀l:List Nat,az bF I (forIn l TK (λL r=>do {if ao L=true then {Bv (g L)};pure (Kk TK)})) ai aj C
 |[]=>by refine H A4 ?_;exact b6 q
 |L::l=>by
  refine H (A3 _ _ _ _) ?_
  refine aM ?_
  cases ao L
  .simp only[fi,if_false]
   exact b6 (JF q l)
  .simp only[if_true]
   exact aM (oo (b6 (JF q l)))
theorem Av{bF:Bp}{I:br}{ai:Option px->aq->Prop}{aj:an->aq->Prop}{C:aq}{m bS:px}{ky:Bool}(k:Nat)(aI:m.runFor k=bS)(a6:bS.outcome=some (if ky then .matched else .failed))(hk:k<=2^60)(q:ai (if ky then some bS else none) C):az bF I (reRunToEnd m) ai aj C:=by
 unfold reRunToEnd
 refine aM (Q8 (2^64) k m (by refine H aI ?_;refine H a6 ?_;rfl) (by lia) (by decide) ?_)
 refine H aI ?_
 refine aM ?_
 refine JF ?_ _
 refine H a6 ?_
 cases ky
 .exact b6 q
 .exact b6 q
end Mine.Tactic
namespace Mine.Tactic
open PySem.Sre PySem.Builtin.Re
noncomputable def oz(Y:Nat)(m bS:M):Prop:=∃k,k<=Y/\m.runFor k=bS
theorem oz.trans{a b:Nat}{m bS oZ:M}(D:oz a m bS)(am:oz b bS oZ):oz (a+b) m oZ:=by
 refine cm D λk hk di=>?_;clear D;subst di
 refine cm am λaB bL di=>?_;clear am;subst di
 exact⟨k+aB,by exact bX [_,_,_,_] 11031374202818024448 rfl hk bL,vk k aB m⟩
theorem oz.step{m bS:M}(B:m.outcome=none)(e:m.step=bS):oz 1 m bS:=⟨1,eF _,by rw[M.runFor,B];simpa[M.runFor]using e⟩
theorem wi(m:M)(C:Nat)(ao:Bool)(B:m.hasFirstSet=false):m.attemptFrom C ao=m.attemptAt C ao:=by
 unfold M.attemptFrom
 refine H B ?_
 rfl
theorem MF(m:M)(ao:nj)(t J:Nat)(N:Bool)(B:m.weight+1+ao.kept.marks.size<=16777216):m.attempt ao t J N={m with frames:=ao::m.frames,weight:=m.weight+1+ao.kept.marks.size,pc:=t,pos:=J,handed:=J,outermost:=N}:=by
 unfold M.attempt
 refine H (if_neg (by exact fv.mpr (aL [_,_] 12636725978119616723237942467546551698931712 rfl B))) ?_;rfl
theorem wh(m:M)(C:Nat)(ao:Bool)(B:m.weight+1<=16777216):m.attemptAt C ao={m with start:=C,lastmark:= -1,lastindex:= -1,frames:={wait:=.nextStart,pc:=m.pc,pos:=C,outermost:=ao}::m.frames,weight:=m.weight+1+0,pos:=C,handed:=C,outermost:=ao}:=by
 unfold M.attemptAt
 rw[MF]
 .rfl
 .exact B
theorem GQ(m:M)(aQ:m.word 0=6)(h1:m.word 1=0):m.exec=if (m.pos==0)=true then {m with seen:=(m.seen.add 6).add 43,pc:=m.pc+2}else {m with seen:=(m.seen.add 6).add 43,answer:=some false}:=by
 unfold M.exec
 refine H aQ ?_
 show(match M.isAt {m with seen:=m.seen.add 6} (m.word 1)with
  | .error Ek=>M.stick {m with seen:=m.seen.add 6} Ek
  | .ok ky=>if ky=true then {m with seen:=(m.seen.add 6).add (43+m.word 1),pc:=m.pc+2}else M.say {m with seen:=(m.seen.add 6).add (43+m.word 1)} false)=_
 refine H h1 ?_
 rfl
structure FJ (code:Array Nat):Prop where
 hH:code.getD 2 0=0
 yS:code.getD 5 0=6
 W8:code.getD 6 0=0
 size:5<code.size
structure FN (code:Array Nat) (m:M) (J:Nat):Prop where
 code:m.code=code
 outcome:m.outcome=none
 answer:m.answer=some false
 frames:∃N,m.frames=[{wait:=.nextStart,pc:=5,pos:=J,outermost:=N}]
 weight:m.weight=1
end Mine.Tactic
namespace Mine.Tactic
open PySem.Sre PySem.Builtin.Re
theorem Yq(m:M)(aQ:m.word 0=17):m.exec=M.mark {m with seen:=m.seen.add 17} (m.word 1):=by
 unfold M.exec
 refine H aQ ?_
 rfl
theorem Yr(m:M)(aQ:m.word 0=1)(e5:m.wholeText=false)(ha:m.mustAdvance=false):m.exec={m with seen:=m.seen.add 1,handed:=m.pos,answer:=some true}:=by
 unfold M.exec
 refine H aQ ?_
 show(if(m.outermost&&((m.wholeText&&m.pos !=m.lim)||(m.mustAdvance&&m.pos==m.start)))=true then _ else _)=_
 refine H e5 ?_;refine H ha ?_
 simp
 rfl
theorem Wi(code:Array Nat)(L V:Nat)(seen:fO)(aQ:code.getD L 0=16):accepts code L V seen= .ok (V==code.getD (L+1) 0,seen):=by
 unfold accepts
 refine H aQ ?_
 rfl
theorem ag'(code:Array Nat)(L:Nat)(aQ:code.getD L 0=16):itemWidth code L=2:=by
 unfold itemWidth
 refine H aQ ?_
 rfl
theorem Nk(m:M)(aQ:m.word 0=16):m.exec=if m.pos ≥ m.lim then {m with seen:=m.seen.add 16,answer:=some false}else if(m.text.getD m.pos 0==m.word 1)=true then {m with seen:=m.seen.add 16,pc:=m.pc+2,pos:=m.pos+1}else {m with seen:=m.seen.add 16,answer:=some false}:=by
 have a8:=Wi m.code m.pc (m.text.getD m.pos 0) (m.seen.add 16) aQ
 have bm:=ag' m.code m.pc aQ
 unfold M.exec
 refine H aQ ?_
 show(if m.pos ≥ m.lim then M.say {m with seen:=m.seen.add 16} false else
  match accepts m.code m.pc (m.text.getD m.pos 0) (m.seen.add 16)with
  | .error Ek=>M.stick {m with seen:=m.seen.add 16} Ek
  | .ok (false,seen)=>M.say {m with seen:=seen} false
  | .ok (true,seen)=>{m with seen:=seen,pc:=m.pc+itemWidth m.code m.pc,pos:=m.pos+1})=_
 refine H a8 ?_;refine H bm ?_
 show _=if m.pos ≥ m.lim then _ else if(m.text.getD m.pos 0==m.code.getD (m.pc+1) 0)=true then _ else _
 split
 .rfl
 .cases m.text.getD m.pos 0==m.code.getD (m.pc+1) 0<;>rfl
theorem Nl(m:M){Y:Nat}{r':fO}(aQ:m.word 0=24)(aN:m.pos+m.word 2<=m.lim)(aU:m.inner=none)(aE:run m.code m.text (m.pc+4) (min (m.word 3) (m.lim - m.pos)) m.pos 0 ((m.seen.add 24).add (m.word 4))= .ok (Y,r'))(e5:m.weight+1<=16777216):m.exec=if Y<m.word 2 then {m with seen:=r',answer:=some false}else {m with seen:=r',frames:={wait:=.giveBack,pc:=m.pc,pos:=m.pos+Y,outermost:=m.outermost,count:=Y,kept:={lastmark:=m.lastmark,lastindex:=m.lastindex,whole:=false,marks:=#[]}}::m.frames,weight:=m.weight+1,pc:=m.pc+1+m.word 1,pos:=m.pos+Y,handed:=m.pos+Y}:=by
 have f7:((m.lim:Int) - m.pos).toNat=m.lim - m.pos:=RW _ _
 have a8:¬((m.word 2:Int)>(m.lim:Int) - m.pos):=q8.mpr (Int.le_sub_left_of_add_le (vy.mpr aN))
 unfold M.exec
 refine H aQ ?_
 show(if(m.word 2:Int)>(m.lim:Int) - m.pos then _ else
  match run m.code m.text (m.pc+4) (min (m.word 3) ((m.lim:Int) - m.pos).toNat) m.pos 0 ((m.seen.add 24).add (m.word 4))with
  | .error Ek=>_
  | .ok (Y,seen)=>if Y<m.word 2 then M.say {m with seen:=seen} false else M.afterRun {m with seen:=seen,pos:=m.pos+Y} .giveBack Y (M.keep {m with seen:=seen,pos:=m.pos+Y} m.inner.isSome))=_
 refine H (if_neg a8) ?_;refine H f7 ?_;refine H aE ?_
 show(if Y<m.word 2 then _ else _)=_
 split
 .rfl
 .unfold M.afterRun
  rw[MF]
  .refine H aU ?_;rfl
  .refine H aU ?_;exact e5
end Mine.Tactic
namespace Mine.Tactic
open PySem.Sre PySem.Builtin.Re
theorem JW(m:M)(a6:m.outcome=none)(ha:m.answer=none)(a9:m.pc<m.code.size):m.step=m.exec:=by
 unfold M.step
 simp only[a6,ha,Bi,fi,if_false,a9,if_true]
theorem afE(m:M)(a6:m.outcome=none){ky:Bool}(ha:m.answer=some ky)(b2:m.frames=[]):m.step={m with outcome:=some (if ky then .matched else .failed)}:=by
 unfold M.step
 simp only[a6,ha,b2,Bi,fi,if_false]
theorem afG(m:M)(a6:m.outcome=none)(ha:m.answer=some true){ao:nj}{r:List nj}(b2:m.frames=ao::r)(e5:ao.wait= .giveBack\/ao.wait= .nextStart):m.step={m with answer:=some true,frames:=r,weight:=m.weight - (1+ao.kept.marks.size),pc:=ao.pc,pos:=ao.pos,outermost:=ao.outermost}:=by
 unfold M.step
 simp only[a6,ha,b2,Bi,fi,if_false]
 unfold M.resume
 rcases e5 with e5|e5<;>(refine H e5 ?_)<;>simp only[if_true]<;>rfl
theorem afF(m:M)(a6:m.outcome=none)(ha:m.answer=some false){ao:nj}{r:List nj}(b2:m.frames=ao::r)(e5:ao.wait= .giveBack)(hk:ao.kept.whole=false)(aO:ao.count - 1<(m.code.getD (ao.pc+2) 0:Int)):m.step={m with answer:=some false,frames:=r,weight:=m.weight - (1+ao.kept.marks.size),pc:=ao.pc,pos:=ao.pos,outermost:=ao.outermost,lastmark:=ao.kept.lastmark,lastindex:=ao.kept.lastindex}:=by
 unfold M.step
 simp only[a6,ha,b2,Bi,fi,if_false]
 unfold M.resume
 refine H e5 ?_
 simp only[fi,if_false]
 refine H (if_pos (by exact aO)) ?_
 unfold M.putBack
 refine H hk ?_
 rfl
noncomputable def Ab(m:M)(J:Nat)(N:Bool):M:={m with frames:=[{wait:=.nextStart,pc:=5,pos:=J,outermost:=N}],weight:=1,answer:=some false,outcome:=none}
theorem FN.eq{code:Array Nat}{m:M}{J:Nat}(B:FN code m J):∃N,Ab m J N=m:=by
 refine bH B.frames λN b2=>?_
 exact⟨N,by unfold Ab;refine b' b2 ?_;refine b' B.weight ?_;refine b' B.answer ?_;refine b' B.outcome ?_;rfl⟩
noncomputable def IW(m:M)(J:Nat)(N:Bool):M:={m with frames:=[],weight:=0,answer:=none,outcome:=none,pc:=5,pos:=J,outermost:=N}
noncomputable def p7(m:M)(J:Nat)(N:Bool):M:={IW m J N with mustAdvance:=false}
noncomputable def u7(m:M)(J:Nat)(N:Bool):M:={p7 m J N with start:=J+1,lastmark:= -1,lastindex:= -1,frames:=[{wait:=.nextStart,pc:=5,pos:=J+1,outermost:=false}],weight:=1,pos:=J+1,handed:=J+1,outermost:=false}
noncomputable def IX(m:M)(J:Nat)(N:Bool):M:={u7 m J N with seen:=((u7 m J N).seen.add 6).add 43}
theorem RL(m:M)(J:Nat)(N:Bool):(Ab m J N).step=if J<m.lastStart then(p7 m J N).attemptFrom (J+1) false else(IW m J N).say false:=rfl
theorem Wy(m:M)(J:Nat)(N:Bool):(p7 m J N).attemptAt (J+1) false=u7 m J N:=wh _ _ _ (by show 0+1<=16777216;decide)
theorem Ys{m:M}{J:Nat}{N:Bool}(aQ:(u7 m J N).word 0=6)(h1:(u7 m J N).word 1=0):(u7 m J N).exec=Ab (IX m J N) (J+1) false:=GQ _ aQ h1
theorem acs{code:Array Nat}(aX:FJ code)(d:Nat):∀(m:M)(J:Nat)(N:Bool),m.code=code->m.lastStart - J=d->∃bS,oz (2*d+2) (Ab m J N) bS/\bS.outcome=some .failed:=by
 induction d with
 |zero=>exact λm J N aO hd=>⟨_,(oz.step rfl ((RL m J N).trans (if_neg (fv.mpr (Bb hd))))).trans (oz.step (m:=(IW m J N).say false) rfl rfl),rfl⟩
 |succ d bf=>
  intro m J N aO hd
  have aQ:(p7 m J N).hasFirstSet=false:=by
   unfold M.hasFirstSet
   refine H (show(p7 m J N).code=code from aO) ?_;refine H aX.hH ?_
   exact Sw _
  have w:∀k,m.code.getD k 0=code.getD k 0:=λk=>by refine H aO ?_;rfl
  refine cm (bf (IX m J N) (J+1) false aO (by rw[show (IX m J N).lastStart - (J+1)=(m.lastStart - J).pred from rfl,hd];rfl)) λbS r B=>?_
  refine⟨bS,(A8 2 (2*d+2):1+1+(2*d+2)=2*(d+1)+2)▸((oz.step rfl ((RL m J N).trans ((if_pos (TC.mp (hd▸l7 d))).trans ((wi _ _ _ aQ).trans (Wy m J N))))).trans (oz.step rfl ((JW (u7 m J N) rfl rfl ?_).trans (Ys ((w 5).trans aX.yS) ((w 6).trans aX.W8))))).trans r,B⟩
  show 5<m.code.size
  refine H aO ?_;exact aX.size
theorem PW{code:Array Nat}(aX:FJ code)(d:Nat)(m:M)(J:Nat)(B:FN code m J)(hd:m.lastStart - J=d):∃bS,oz (2*d+2) m bS/\bS.outcome=some .failed:=by
 refine bH B.eq λN e=>?_
 refine b' e ?_
 exact acs aX d m J N B.code hd
end Mine.Tactic
namespace Mine.Tactic
open PySem.Sre PySem.Builtin.Re
noncomputable def fI(code:Array Nat)(L V:Nat)(b:Bool):Prop:=∀seen:fO,∃r',accepts code L V seen= .ok (b,r')
theorem Rm{code aw:Array Nat}{L bF J rH:Nat}{ky:Bool}{C s':fO}(e:accepts code L (aw.getD J 0) C= .ok (ky,s')):run code aw L (bF+1) J rH C=if ky then run code aw L bF (J+1) (rH+1) s' else .ok (rH,s'):=by
 show(accepts code L (aw.getD J 0) C>>=_)=_
 refine H e ?_
 rfl
theorem Rn{code aw:Array Nat}{L:Nat}(Y:Nat):∀(bF J:Nat),(∀aB,aB<Y->fI code L (aw.getD (J+aB) 0) true)->(Y=bF\/Y<bF/\fI code L (aw.getD (J+Y) 0) false)->∀rH (seen:fO),∃r',run code aw L bF J rH seen= .ok (rH+Y,r'):=by
 induction Y with
 |zero=>
  intro bF J _ B rH seen
  cases bF with
  |zero=>exact⟨seen,rfl⟩
  |succ bF=>
   rcases B with B|⟨_,B⟩
   .exact nomatch B
   .exact(B seen).elim λs' e=>⟨s',Rm e⟩
 |succ Y bf=>
  intro bF J ha B rH seen
  cases bF with
  |zero=>rcases B with B|⟨B,_⟩<;>exact nomatch B
  |succ bF=>
   refine bH (ha 0 (l7 Y) seen) λs' e=>?_
   have qj:∀aB,J+1+aB=J+(aB+1):=λaB=>vD J 1 aB
   refine bH (bf bF (J+1) (λaB bL=>by rw[qj];exact ha (aB+1) (Nat.succ_lt_succ bL)) (by rw[qj];exact B.imp sf (And.imp_left Nat.lt_of_succ_lt_succ)) (rH+1) s') λdz dB=>?_
   exact⟨dz,(Rm e).trans (dB.trans (by refine H (vD _ _ _) ?_;rfl))⟩
end Mine.Tactic
namespace Mine.Tactic
open PySem.Sre PySem.Builtin.Re
noncomputable def oS(code:Array Nat)(V L:Nat)(C:fO):Option Bool:=match inSet code V code.size L true C with
 | .ok J=>some J.1
 | .error _=>none
theorem Vc{code:Array Nat}{L V:Nat}{b:Bool}(aQ:code.getD L 0=13)(B:∀C,oS code V (L+2) C=some b):fI code L V b:=λseen=>by
 have B:=B seen
 unfold accepts
 refine H aQ ?_
 show∃t,inSet code V code.size (L+2) true seen= .ok (b,t)
 unfold oS at B
 generalize inSet code V code.size (L+2) true seen=D at B ⊢
 cases D with
 |error=>exact nomatch B
 |ok J=>exact⟨J.2,by refine b' (rh B) ?_;rfl⟩
end Mine.Tactic
namespace Mine.Tactic.F
theorem Jk:Ui "re.Pattern":=⟨⟨"object.__getattribute__",by rw[lc,la];kernel_rfl,by decide+kernel⟩,by rw[lc,la];kernel_rfl⟩
theorem DJ:Ug.lookup (Vb ['n','r','e','t','t','a','P','.','e','r'].reverse)=some aiY:=by kernel_rfl
theorem adT:Ui "re.Match":=⟨⟨"object.__getattribute__",by rw[lc,la];kernel_rfl,by decide+kernel⟩,by rw[lc,la];kernel_rfl⟩
theorem QK:Ug.lookup (Vb ['h','c','t','a','M','.','e','r'].reverse)=some aiX:=by kernel_rfl
theorem D4:qs "re.Pattern" "search" "re.Pattern.search":=
 .of (owner:="re.Pattern") (n:="search") (by rw[lc,la];kernel_rfl) (by decide+kernel) (by decide+kernel) (by decide+kernel)
  (by first |exact .inl (by decide+kernel)|exact .inr (by decide+kernel)) (by rw[pC];kernel_rfl)
theorem R8:np (.builtin "re.Pattern.search")=pure (.type "method_descriptor"):=by show x_ _=_;rw[x'];kernel_rfl
theorem Nc:rm nn "re.Pattern.search"=some fX.«re.Pattern.search»:=sh (by kernel_rfl)
theorem MA(a b:an):lM "re.Pattern.search" ⟨[a,b],[]⟩:=by
 unfold lM;rw[vW (id:="re.Pattern.search") (n:=['h','c','r','a','e','s']) (o:=['n','r','e','t','t','a','P','.','e','r']) (by kernel_rfl) DJ];kernel_rfl
theorem Rz:qs "re.Pattern" "subn" "re.Pattern.subn":=
 .of (owner:="re.Pattern") (n:="subn") (by rw[lc,la];kernel_rfl) (by decide+kernel) (by decide+kernel) (by decide+kernel)
  (by first |exact .inl (by decide+kernel)|exact .inr (by decide+kernel)) (by rw[pC];kernel_rfl)
theorem agV:np (.builtin "re.Pattern.subn")=pure (.type "method_descriptor"):=by show x_ _=_;rw[x'];kernel_rfl
theorem Yg:rm nn "re.Pattern.subn"=some fX.«re.Pattern.subn»:=sh (by kernel_rfl)
theorem Wu(a b V:an):lM "re.Pattern.subn" ⟨[a,b,V],[]⟩:=by
 unfold lM;rw[vW (id:="re.Pattern.subn") (n:=['n','b','u','s']) (o:=['n','r','e','t','t','a','P','.','e','r']) (by kernel_rfl) DJ];kernel_rfl
theorem Ry:qs "re.Pattern" "sub" "re.Pattern.sub":=
 .of (owner:="re.Pattern") (n:="sub") (by rw[lc,la];kernel_rfl) (by decide+kernel) (by decide+kernel) (by decide+kernel)
  (by first |exact .inl (by decide+kernel)|exact .inr (by decide+kernel)) (by rw[pC];kernel_rfl)
theorem agU:np (.builtin "re.Pattern.sub")=pure (.type "method_descriptor"):=by show x_ _=_;rw[x'];kernel_rfl
theorem Yf:rm nn "re.Pattern.sub"=some fX.«re.Pattern.sub»:=sh (by kernel_rfl)
theorem Wt(a b V:an):lM "re.Pattern.sub" ⟨[a,b,V],[]⟩:=by
 unfold lM;rw[vW (id:="re.Pattern.sub") (n:=['b','u','s']) (o:=['n','r','e','t','t','a','P','.','e','r']) (by kernel_rfl) DJ];kernel_rfl
theorem Rx:qs "re.Pattern" "fullmatch" "re.Pattern.fullmatch":=
 .of (owner:="re.Pattern") (n:="fullmatch") (by rw[lc,la];kernel_rfl) (by decide+kernel) (by decide+kernel) (by decide+kernel)
  (by first |exact .inl (by decide+kernel)|exact .inr (by decide+kernel)) (by rw[pC];kernel_rfl)
theorem agT:np (.builtin "re.Pattern.fullmatch")=pure (.type "method_descriptor"):=by show x_ _=_;rw[x'];kernel_rfl
theorem Ye:rm nn "re.Pattern.fullmatch"=some fX.«re.Pattern.fullmatch»:=sh (by kernel_rfl)
theorem Ws(a b:an):lM "re.Pattern.fullmatch" ⟨[a,b],[]⟩:=by
 unfold lM;rw[vW (id:="re.Pattern.fullmatch") (n:=['h','c','t','a','m','l','l','u','f']) (o:=['n','r','e','t','t','a','P','.','e','r']) (by kernel_rfl) DJ];kernel_rfl
theorem Rv:qs "re.Match" "group" "re.Match.group":=
 .of (owner:="re.Match") (n:="group") (by rw[lc,la];kernel_rfl) (by decide+kernel) (by decide+kernel) (by decide+kernel)
  (by first |exact .inl (by decide+kernel)|exact .inr (by decide+kernel)) (by rw[pC];kernel_rfl)
theorem agR:np (.builtin "re.Match.group")=pure (.type "method_descriptor"):=by show x_ _=_;rw[x'];kernel_rfl
theorem Ya:rm nn "re.Match.group"=some fX.«re.Match.group»:=sh (by kernel_rfl)
theorem Wo(a b:an):lM "re.Match.group" ⟨[a,b],[]⟩:=by
 unfold lM;rw[vW (id:="re.Match.group") (n:=['p','u','o','r','g']) (o:=['h','c','t','a','M','.','e','r']) (by kernel_rfl) QK];kernel_rfl
theorem Rw:qs "re.Match" "span" "re.Match.span":=
 .of (owner:="re.Match") (n:="span") (by rw[lc,la];kernel_rfl) (by decide+kernel) (by decide+kernel) (by decide+kernel)
  (by first |exact .inl (by decide+kernel)|exact .inr (by decide+kernel)) (by rw[pC];kernel_rfl)
theorem agS:np (.builtin "re.Match.span")=pure (.type "method_descriptor"):=by show x_ _=_;rw[x'];kernel_rfl
theorem Yb:rm nn "re.Match.span"=some fX.«re.Match.span»:=sh (by kernel_rfl)
theorem Wp(a b:an):lM "re.Match.span" ⟨[a,b],[]⟩:=by
 unfold lM;rw[vW (id:="re.Match.span") (n:=['n','a','p','s']) (o:=['h','c','t','a','M','.','e','r']) (by kernel_rfl) QK];kernel_rfl
end Mine.Tactic.F
namespace Mine.Tactic
open PySem.Sre PySem.Builtin.Re
structure iP (w:c4) (P aX:ah) (g:Nat) (code:Array Nat):Prop where
 pat:∃a7 gU,(cZ w).lookup P=some {cls:=.type "re.Pattern",data:=.fields #[a7,gU,.int g 0,.none,.none,.ref aX,.int 0 0]}
 code:∃N aR Y,(cZ w).lookup aX=some N/\N.data= .seq aR Y/\(aR.map reRawOf).map xI=code
section
variable{W:bj}{I:br}{C:aq}{aj:an->aq->Prop}{P aX:ah}{g:Nat}{code:Array Nat}
theorem aeE{id ao:String}{v:an}{ai:List (Option an)->aq->Prop}(q:ai [some v,none,none] C):az W.M I (reNamed id ao ["string","pos","endpos"] 1 [v] []) ai aj C:=by
 refine g4 (a:=[some v,none,none]) ?_ q
 rfl
theorem Jw{aw:ay}{bg:dN}{id ao:String}{ai:ReTarget->aq->Prop}(J:iP W.w P aX g code)(bQ:eg W C.heap)(aH:aw.length<=bc)(q:ai {pattern:=.ref P,string:=.str aw bg,code:=code,text:=aw.cps,kind:=0,groups:=g,pos:=0,lim:=aw.cps.size} C):az W.M I (reTarget id ao ⟨[.ref P,.str aw bg],[]⟩) ai aj C:=by
 refine jF J.pat λa7 gU aF=>?_
 refine oa J.code λDD aR Y aO hd sI=>?_
 have cL:=bQ.K _ _ aF
 have gx:=bQ.K _ _ aO
 unfold reTarget
 refine aM (aeE ?_)
 dsimp only
 refine aM (b6 ?_)
 refine aM (b6 ?_)
 refine aM (LN cL rfl ?_)
 refine aM (g4 (a:=(aw.cps,0)) rfl ?_)
 refine aM (g4 (a:=()) rfl ?_)
 unfold reRawItems
 refine aM (aM (pD gx hd (b6 ?_)))
 refine b6 ?_
 have a8:min (2^63 - 1:Int).toNat aw.cps.size=aw.cps.size:=by
  exact vF (cu aH (by decide))
 refine H a8 ?_
 have bm:Ss (λD=>D.toNat) (((some aR).getD #[]).map reRawOf)=code:=sI
 refine H bm ?_
 have e3:min (xI 0) aw.cps.size=0:=by simp
 refine H e3 ?_
 exact q
structure rp (B:bo) (m P:ah) (aw:ay) (bg:dN) (gI:List Int):Prop where
 is:∃a b V T,B.get? m=some {cls:=.type "re.Match",data:=.fields #[.str aw bg,.ref P,a,b,V,.ref T]}/\B.get? T=some {cls:=.type "tuple",data:=.seq (gI.map dG).toArray 0}
noncomputable def q3(nF:Nat)(m:px):List Int:=(m.start:Int)::(m.handed:Int)::(e7 nF).flatMap λg=>
  match if ((2*g+1:Nat):Int)<=m.lastmark then(m.marks.getD (2*g) none,m.marks.getD (2*g+1) none)else(none,none)with
  |(some b,some e)=>[(b:Int),(e:Int)]
  |_=>[-1, -1]
noncomputable def AF(nF:Nat)(m:px):Bool:= !(e7 nF).any (λg=>match m.marks.getD (2*g) none,m.marks.getD (2*g+1) none with |some b,some e=>((2*g+1:Nat):Int)<=m.lastmark&&e<b|_,_=>false)
theorem Nv{a4 d9:Type}{ao:a4->List d9}(B:∀D,(ao D).length=2):∀l:List a4,(l.flatMap ao).length=2*l.length
 |[]=>rfl
 |D::l=>by refine H tz ?_;refine H gJ ?_;refine H (B _) ?_;refine H (Nv B l) ?_;refine H i3 ?_;exact e_ [_] 314837679189275054338 rfl
theorem afv(nF:Nat)(m:px):(q3 nF m).length=2*nF+2:=by
 unfold q3
 rw[i3,i3,Nv,S3]
 intro g
 generalize (if((2*g+1:Nat):Int)<=m.lastmark then(m.marks.getD (2*g) none,m.marks.getD (2*g+1) none)else(none,none))=am
 rcases am with⟨_|b,_|e⟩<;>rfl
set_option tactic.hygienic true in
theorem aeI{aw:ay}{bg:dN}{nF al PY:Nat}{m:px}{ai:an->aq->Prop}(qM:AF nF m=true)(fL:nF<=10)(q:∀a s',cS C s'->C.heap.get? a=none->rp s'.heap a P aw bg (q3 nF m)->ai (.ref a) s'):az W.M I (reNewMatch (.ref P) (.str aw bg) nF al PY m) ai aj C:=by
 unfold reNewMatch
 have aaW:(e7 nF).any (λg=>match m.marks.getD (2*g) none,m.marks.getD (2*g+1) none with |some b,some e=>((2*g+1:Nat):Int)<=m.lastmark&&e<b|_,_=>false)=false:=by
  unfold AF at qM
  simpa using qM
 dsimp only
 refine sk ?_
 split
 .rename_i B
  exact Bool.noConfusion (aaW.symm.trans B)
 have kP:∀(l:List an),l=(q3 nF m).map dG->az W.M I (vU l>>=λt=>Fy "re.Match" [.str aw bg,.ref P,dG al,dG PY,dG m.lastindex,t]) ai aj C:=λl aN=>by
  subst aN
  refine aM (sl ?_ ?_)
  .refine tX ?_
   refine q _ _ (b5 (ip C _) (ip _ _)) ?_ ⟨_,_,_,_,f_ _ rfl,?_⟩
   .refine iC ?_
    refine H (nh _ _) ?_
    exact pq _
   .exact eu _ (f_ _ rfl)
  .refine H (gz _) ?_
   refine cu ?_ (show 100<=ol by refine H l_ ?_;exact e_ [] 76561193784197648 rfl)
   refine H (afv _ _) ?_
   exact aL [_] 763272372451256102425088 rfl fL
 refine kP _ ?_
 unfold q3
 simp only[ef,List.map_flatMap]
 congr 2
 congr 1
 funext g
 generalize (if((2*g+1:Nat):Int)<=m.lastmark then(m.marks.getD (2*g) none,m.marks.getD (2*g+1) none)else(none,none))=am
 rcases am with⟨_|b,_|e⟩<;>rfl
theorem Al(J:iP W.w P aX g code)(bQ:eg W C.heap):C.TypeIs (.ref P) "re.Pattern":=let⟨_,_,aF⟩:=J.pat;⟨_,bQ.K _ _ aF,rfl⟩
theorem aeK{aw:ay}{bg:dN}{bS:px}{ai:an->aq->Prop}(J:iP W.w P aX g code)(bQ:eg W C.heap)(aH:aw.length<=bc)(k:Nat)(aI:(i4 code aw.cps g 0 aw.cps.size false).runFor k=bS)(a6:bS.outcome=some .matched)(hk:k<=2^60)(qM:AF g bS=true)(fL:g<=10)(q:∀a s',cS C s'->C.heap.get? a=none->rp s'.heap a P aw bg (q3 g bS)->ai (.ref a) s'):az W.M I (df (.builtin "re.Pattern.search") [.ref P,.str aw bg]) ai aj C:=by
 refine l' F.D4 (Al J bQ) F.Nc ?_ (F.MA _ _)
 unfold fX.«re.Pattern.search»
 refine aM (Jw J bQ aH ?_)
 unfold reAnswer
 refine aM (Av (ky:=true) k aI (by refine H a6 ?_;rfl) hk ?_)
 refine aM (aeI qM fL λa s' k a_ CP=>?_)
 exact b6 ⟨_,rfl,q a s' k a_ CP⟩
theorem aeJ{aw:ay}{bg:dN}{bS:px}{ai:an->aq->Prop}(J:iP W.w P aX g code)(bQ:eg W C.heap)(aH:aw.length<=bc)(k:Nat)(aI:(i4 code aw.cps g 0 aw.cps.size false).runFor k=bS)(a6:bS.outcome=some .failed)(hk:k<=2^60)(q:ai .none C):az W.M I (df (.builtin "re.Pattern.search") [.ref P,.str aw bg]) ai aj C:=by
 refine l' F.D4 (Al J bQ) F.Nc ?_ (F.MA _ _)
 unfold fX.«re.Pattern.search»
 refine aM (Jw J bQ aH ?_)
 unfold reAnswer
 refine aM (Av (ky:=false) k aI (by refine H a6 ?_;rfl) hk ?_)
 exact b6 ⟨_,rfl,q⟩
theorem Q9{a:ah}{aw:ay}{bg:dN}{gI:List Int}{ai:ReFound->aq->Prop}(B:rp C.heap a P aw bg gI)(q:∀gg:Array an,gg.getD 0 .none= .str aw bg->ai {fields:=gg,spans:=gI.toArray} C):az W.M I (reFound (.ref a)) ai aj C:=by
 refine vu B.is λD am au T a8 bm=>?_
 unfold reFound
 refine aM (LN a8 rfl ?_)
 unfold reRawItems
 refine aM (aM (pD bm rfl (b6 ?_)))
 refine b6 ?_
 have e3:((some (ob dG gI).toArray).getD #[]).map reRawOf=gI.toArray:=by
  apply sb.mp
  simp only[TG,List.map_toArray,dY]
  show ob (reRawOf∘dG) gI=gI
  have:(reRawOf∘dG)=id:=by funext L;rfl
  refine H this ?_
  simp
 refine H e3 ?_
 exact q _ rfl
theorem Du{a:ah}{aw:ay}{bg:dN}{gI:List Int}(B:rp C.heap a P aw bg gI):C.TypeIs (.ref a) "re.Match":=let⟨_,_,_,_,a8,_⟩:=B.is;⟨_,a8,rfl⟩
theorem aeG{a:ah}{aw:ay}{bg:dN}{D am b e:Nat}{t1:dN}{ai:an->aq->Prop}(B:rp C.heap a P aw bg [(D:Int),(am:Int),(b:Int),(e:Int)])(aH:aw.length<=bc)(q:ai (.str ⟨aw.cps.extract b e⟩ C.toks) {C with toks:=C.toks+1}):az W.M I (df (.builtin "re.Match.group") [.ref a,.int 1 t1]) ai aj C:=by
 refine l' F.Rv (Du B) F.Ya ?_ (F.Wo _ _)
 unfold fX.«re.Match.group»
 refine aM (g4 (a:=()) rfl ?_)
 dsimp only
 refine aM (Q9 B λgg b2=>?_)
 refine aM (m:=reGroupNumber _ _) (g4 (a:=1) rfl ?_)
 unfold reGroupText
 refine aM ?_
 have a8:(({fields:=gg,spans:=([(D:Int),(am:Int),(b:Int),(e:Int)]:List Int).toArray}:ReFound).spans.getD (2*1) (-1))=(b:Int):=rfl
 have bm:(({fields:=gg,spans:=([(D:Int),(am:Int),(b:Int),(e:Int)]:List Int).toArray}:ReFound).spans.getD (2*1+1) (-1))=(e:Int):=rfl
 refine H a8 ?_;refine H bm ?_
 refine sk ?_
 refine H (if_neg (by simp)) ?_
 refine aM (g4 (a:=(aw.cps,0)) (by show reTextOf (gg.getD 0 .none)=_;refine H b2 ?_;rfl) ?_)
 unfold reSlice
 refine LQ ?_ ?_
 .exact b6 ⟨_,rfl,by simpa using q⟩
 .refine cu ?_ (jD aH)
  show(aw.cps.extract (b:Int).toNat (e:Int).toNat).size<=aw.cps.size
  refine H Kf ?_
  exact bX [_,_,_] 168317090530624 rfl (hh _ _) (EQ _ _)
theorem aeL{a:ah}{aw:ay}{bg:dN}{D am:Nat}{r:List Int}{t1:dN}{X:List ah}(aK:c0 X C)(B:rp C.heap a P aw bg ((D:Int)::(am:Int)::r)):dZ W X I (df (.builtin "re.Match.span") [.ref a,.int 0 t1]) (.tuple [.int D,.int am]) C:=⟨λai aj q=>by
 refine l' F.Rw (Du B) F.Yb ?_ (F.Wp _ _)
 unfold fX.«re.Match.span»
 unfold reOneGroup
 refine aM (aM (g4 (a:=(nk a,[Lm 0 t1])) rfl ?_))
 dsimp only
 refine aM (Q9 B λgg b2=>?_)
 refine aM (m:=reGroupNumber _ _) (g4 (a:=0) ?_ ?_)
 .unfold reGroupNumber
  refine Eq.trans (b:=(if(decide ((0:Int)<0)||decide (2*(0:Int) ≥ (((D:Int)::(am:Int)::r).toArray.size:Int)))=true then(Bv "re.Match.no-such-group">>=λ_=>raiseError "IndexError" "no such group")else pure (0:Int).toNat)) rfl ?_
  rw[if_neg]
  .rfl
  .simp
   lia
 refine b6 ?_
 refine aM (FG (aM (FG (aM (sl ?_ (by show 2<=_;refine H l_ ?_;exact e_ [] 4785074611495184 rfl))))))
 exact b6 ⟨_,rfl,q _ _ (b5 (ey C _) (b5 (ey _ _) (ip _ _))) (Rc aK (.cons (.int _ _) (.cons (.int _ _) .nil)))⟩⟩
end
end Mine.Tactic
namespace Mine.Tactic
open Sem (wp)
namespace F
theorem D3:qs "re.Match" "__getattribute__" "object.__getattribute__":=
 .of (owner:="object") (n:="__getattribute__") (by rw[lc,la];kernel_rfl) (by decide+kernel) (by decide+kernel) (by decide+kernel)
  (by first |exact .inl (by decide+kernel)|exact .inr (by decide+kernel)) (by rw[pC];kernel_rfl)
theorem acO:vZ (.type "re.Match") "string"=pure (some (.builtin "re.Match.string")):=by rw[lc,la];kernel_rfl
theorem J5:np (.builtin "re.Match.string")=pure (.type "member_descriptor"):=by kernel_rfl
theorem Yc:rm nn "re.Match.string"=some fX.«re.Match.string»:=sh (by kernel_rfl)
theorem adC:(".".intercalate ("re.Match.string".cutAt '.').dropLast)="re.Match":=by
 have f7:"re.Match.string".cutAt '.'=["re","Match","string"]:=by first |rfl|decide+kernel
 rw[f7];decide+kernel
theorem afZ:tP (.type "re.Match") (.type "re.Match")=pure true:=by rw[pC];kernel_rfl
theorem Yd:rm nn "object.__getattribute__"=some fX.«object.__getattribute__»:=sh (by kernel_rfl)
theorem Wq(a b:an):lM "object.__getattribute__" ⟨[a,b],[]⟩:=by unfold lM;kernel_rfl
theorem adi:vZ (.type "re.Match") "__bool__"=pure none:=by rw[lc,la];kernel_rfl
theorem adj:vZ (.type "re.Match") "__len__"=pure none:=by rw[lc,la];kernel_rfl
end F
section
variable{prog:kG}{w:c4}{I:br}{aj:an->aq->Prop}{B:bo}{g:Array GenState}{d:Drawn}{t:Nat}{os:OsState}{a:ah}{N:bJ}{af:Array an}{rx:an}
theorem afL{R:pw->aq->Prop}(aS:B.get? a=some N)(aO:N.cls= .type "re.Match")(hd:N.data= .fields af)(aQ:af[0]? =some rx)(cO:(rx==Fw)=false)(ba:R (.ok (.ret rx)) ⟨B,g,d,t,os⟩):lb (gn prog w) I (.call (.builtin "member_descriptor.__get__") ⟨[.builtin "re.Match.string",.ref a,.type "re.Match"],[]⟩) R ⟨B,g,d,t,os⟩:=by
 have dI:(⟨B,g,d,t,os⟩:aq).TypeIs (.ref a) "re.Match":=⟨_,aS,aO⟩
 have Oe:(⟨B,g,d,t,os⟩:aq).TypeIs (.builtin "re.Match.string") "member_descriptor":=F.J5
 have ajc:tP (.type "re.Match") (.type (".".intercalate ("re.Match.string".cutAt '.').dropLast))=pure true:=by refine H F.adC ?_;exact F.afZ
 refine Lv Lp.plain ai5 (Lp.check _ _ _ _ _ _ _ _ Oe (ai4 _ _ _) ?_)
 repeat (any_goals (first |assumption|wp_step))
 refine⟨Code.quiet_builtin _ (by decide+kernel),tN F.Yc ?_⟩
 unfold fX.«re.Match.string»
 refine aM (m:=qu (.ref a) 0) (iF aS hd aQ (b6 ?_))
 exact ba
theorem afK{bg:dN}{ai:pt->aq->Prop}(aS:B.get? a=some N)(aO:N.cls= .type "re.Match")(hd:N.data= .fields af)(aQ:af[0]? =some rx)(cO:(rx==Fw)=false)(ba:ai (.done (.ret rx)) ⟨B,g,d,t,os⟩):az (gn prog w) I (fX.«object.__getattribute__» ⟨[.ref a,.str "string" bg],[]⟩) ai aj ⟨B,g,d,t,os⟩:=by
 have dI:(⟨B,g,d,t,os⟩:aq).TypeIs (.ref a) "re.Match":=⟨_,aS,aO⟩
 have Oe:(⟨B,g,d,t,os⟩:aq).TypeIs (.builtin "re.Match.string") "member_descriptor":=F.J5
 have wv:=F.acO
 have ai':=F.J5
 have aja:=Lp.lookup
 have ajb:=ai6.lookup
 repeat (any_goals (first |assumption|wp_step))
 refine afL aS aO hd aQ cO ?_
 repeat (any_goals (first |assumption|wp_step))
theorem afJ{bg:dN}{R:pw->aq->Prop}(aS:B.get? a=some N)(aO:N.cls= .type "re.Match")(hd:N.data= .fields af)(aQ:af[0]? =some rx)(cO:(rx==Fw)=false)(ba:R (.ok (.ret rx)) ⟨B,g,d,t,os⟩):lb (gn prog w) I (.call (.builtin "object.__getattribute__") ⟨[.ref a,.str "string" bg],[]⟩) R ⟨B,g,d,t,os⟩:=
 Lv F.D3.plain F.Yd (F.D3.check _ _ _ _ _ _ _ _ (show(⟨B,g,d,t,os⟩:aq).TypeIs (.ref a) "re.Match"from⟨_,aS,aO⟩) (F.Wq _ _) (afK aS aO hd aQ cO ba))
theorem afI{bg:dN}{fill y7:Bool}{D:ay}{bq:dN}{ai:an->aq->Prop}(aS:B.get? a=some N)(aO:N.cls= .type "re.Match")(hd:N.data= .fields af)(aQ:af[0]? =some (.str D bq))(ba:ai (.str D bq) ⟨B,g,d,t,os⟩):az (gn prog w) I (getAttrBy (.ref a) (.str "string" bg) fill y7) ai aj ⟨B,g,d,t,os⟩:=by
 have dI:(⟨B,g,d,t,os⟩:aq).TypeIs (.ref a) "re.Match":=⟨_,aS,aO⟩
 have gT:=F.D3.lookup
 have y9:=F.D3.bind (.ref a)
 have ajw:(y7&&onTheHeap (Fl "object.__getattribute__"))=false:=by cases y7<;>rfl
 repeat (any_goals (first |assumption|wp_step))
 refine afJ aS aO hd aQ (by first |rfl|decide|simp[Fw,dG]) ?_
 repeat (any_goals (first |assumption|wp_step))
theorem afH{y7:Bool}{D:ay}{bq:dN}{ai:an->aq->Prop}(aS:B.get? a=some N)(aO:N.cls= .type "re.Match")(hd:N.data= .fields af)(aQ:af[0]? =some (.str D bq))(ba:ai (.str D bq) ⟨B,g,d,t+1,os⟩):az (gn prog w) I (getAttr (.ref a) "string" y7) ai aj ⟨B,g,d,t,os⟩:=by
 unfold getAttr
 repeat (any_goals (first |assumption|with_reducible apply afI aS aO hd aQ|wp_step))
end
end Mine.Tactic
namespace Mine.Tactic
open PySem.Sre PySem.Builtin.Re
section
variable{prog:kG}{w:c4}{I:br}{aj:an->aq->Prop}{C:aq}{a:ah}
theorem agn{ai:Bool->aq->Prop}(dI:C.TypeIs (.ref a) "re.Match")(ba:ai true C):az (gn prog w) I (tT (.ref a)) ai aj C:=by
 have fE:=F.adi
 have gT:=F.adj
 unfold tT
 repeat (any_goals (first |assumption|wp_step))
end
section
variable{W:bj}{I:br}{env:bB}{X:List ah}{ae:bu}{M:ce}{O:List (ah×bJ)}{Z:List ah}{av C:aq}{aj:an->aq->Prop}{P aX:ah}{g:Nat}{code:Array Nat}
theorem V0{e:a'}{D:ay}(B:aY W I env ae e (.str D))(aH:D.length<=bc)(bw:autoParam (∀lG,tQ e env lG=(do let v<-lG;sj e.pos;mO [v] (tT v))) tI):ej W I env ae e (decide (D.length≠0)):=⟨λX C aK G=>⟨λai aj q=>by
 with_reducible refine Bk ((B.on X C aK G).go _ _ λv aG k1 aT=>?_) (bw _)
 refine aC.eS aT λ_=>?_
 refine ai0 (SK.mpr (kQ aH (by decide))) ?_
 have e:((D.length:Int)!=0)=decide (D.length≠0):=by
  by_cases B:D.length=0
  .simp[B]
  .have:((D.length:Int)≠0):=by lia
   simp[B,this]
 refine H e ?_
 exact q _ (b5 k1 (ey aG _))⟩⟩
end
end Mine.Tactic
namespace Mine.Tactic
open PySem.Sre PySem.Builtin.Re
noncomputable def fo(k:Nat)(m bS:M):Prop:=∀C:fO,∃aB s',aB<=k/\({m with seen:=C}:M).runFor aB={bS with seen:=s'}
theorem fo.trans{a b:Nat}{m bS oZ:M}(D:fo a m bS)(am:fo b bS oZ):fo (a+b) m oZ:=λC=>by
 refine jG (D C) λaB s' bL e=>?_
 refine jG (am s') λL dz aU dB=>?_
 exact⟨aB+L,dz,by exact bX [_,_,_,_] 11031374202818024448 rfl bL aU,by refine H (vk _ _ _) ?_;refine H e ?_;refine H dB ?_;rfl⟩
theorem fo.one{m bS:M}(a6:m.outcome=none)(B:∀C:fO,∃s',({m with seen:=C}:M).step={bS with seen:=s'}):fo 1 m bS:=λC=>by
 refine bH (B C) λs' e=>?_
 exact⟨1,s',eF _,by rw[M.runFor,if_neg (by show¬m.outcome.isSome=true;refine H a6 ?_;simp)];exact e⟩
theorem fo.ex{m bS:M}(a6:m.outcome=none)(ha:m.answer=none)(a9:m.pc<m.code.size)(B:∀C:fO,∃s',({m with seen:=C}:M).exec={bS with seen:=s'}):fo 1 m bS:=fo.one a6 λC=>by
 refine bH (B C) λs' e=>?_
 exact⟨s',by refine H (JW ({m with seen:=C}:M) a6 ha a9) ?_;refine H e ?_;rfl⟩
section
variable{m:M}
theorem vh(a6:m.outcome=none)(ha:m.answer=none)(a9:m.pc<m.code.size)(aQ:m.code.getD m.pc 0=6)(h1:m.code.getD (m.pc+1) 0=0)(aF:m.pos=0):fo 1 m {m with pc:=m.pc+2}:=fo.ex a6 ha a9 λC=>by
 refine H (GQ ({m with seen:=C}:M) aQ h1) ?_;refine H (if_pos (by show(m.pos==0)=true;rw[aF];rfl)) ?_
 exact⟨_,rfl⟩
theorem vi{L:Nat}(a6:m.outcome=none)(ha:m.answer=none)(a9:m.pc<m.code.size)(aQ:m.code.getD m.pc 0=17)(h1:m.code.getD (m.pc+1) 0=L):fo 1 m (m.mark L):=fo.ex a6 ha a9 λC=>by
 refine H (Yq ({m with seen:=C}:M) aQ) ?_
 subst h1
 exact⟨_,rfl⟩
theorem D1(a6:m.outcome=none)(ha:m.answer=none)(a9:m.pc<m.code.size)(aQ:m.code.getD m.pc 0=1)(e5:m.wholeText=false)(aI:m.mustAdvance=false):fo 1 m {m with handed:=m.pos,answer:=some true}:=fo.ex a6 ha a9 λC=>by
 refine H (Yr ({m with seen:=C}:M) aQ e5 aI) ?_
 exact⟨_,rfl⟩
theorem Ax{V:Nat}(a6:m.outcome=none)(ha:m.answer=none)(a9:m.pc<m.code.size)(aQ:m.code.getD m.pc 0=16)(h1:m.code.getD (m.pc+1) 0=V)(aF:m.pos<m.lim)(aO:m.text.getD m.pos 0=V):fo 1 m {m with pc:=m.pc+2,pos:=m.pos+1}:=fo.ex a6 ha a9 λC=>by
 rw[Nk ({m with seen:=C}:M) aQ,if_neg (by show¬m.pos ≥ m.lim;exact tF.mpr (aL [_,_] 2438206785 rfl aF)),if_pos]
 .exact⟨_,rfl⟩
 .show(m.text.getD m.pos 0==m.code.getD (m.pc+1) 0)=true
  refine H aO ?_;refine H h1 ?_
  simp
theorem D0{V:Nat}(a6:m.outcome=none)(ha:m.answer=none)(a9:m.pc<m.code.size)(aQ:m.code.getD m.pc 0=16)(h1:m.code.getD (m.pc+1) 0=V)(aO:m.pos<m.lim->m.text.getD m.pos 0≠V):fo 1 m {m with answer:=some false}:=fo.ex a6 ha a9 λC=>by
 refine H (Nk ({m with seen:=C}:M) aQ) ?_
 by_cases aF:m.pos<m.lim
 .rw[if_neg (by show¬m.pos ≥ m.lim;exact tF.mpr (aL [_,_] 2438206785 rfl aF)),if_neg]
  .exact⟨_,rfl⟩
  .show¬(m.text.getD m.pos 0==m.code.getD (m.pc+1) 0)=true
   refine H h1 ?_
   simpa using aO aF
 .refine H (if_pos (by show m.pos ≥ m.lim;exact aL [_,_] 2438202688 rfl (fv.mp aF))) ?_
  exact⟨_,rfl⟩
theorem n7{Y mG kp jz:Nat}(a6:m.outcome=none)(ha:m.answer=none)(a9:m.pc<m.code.size)(aQ:m.code.getD m.pc 0=24)(h1:m.code.getD (m.pc+1) 0=mG)(aA:m.code.getD (m.pc+2) 0=kp)(bn:m.code.getD (m.pc+3) 0=jz)(aU:m.inner=none)(a_:kp<=Y)(aN:m.pos+Y<=m.lim)(aS:m.lim<=jz)(e5:m.weight+1<=16777216)(ZR:∀aB,aB<Y->fI m.code (m.pc+4) (m.text.getD (m.pos+aB) 0) true)(ki:m.pos+Y=m.lim\/(m.pos+Y<m.lim/\fI m.code (m.pc+4) (m.text.getD (m.pos+Y) 0) false)):fo 1 m {m with frames:={wait:=.giveBack,pc:=m.pc,pos:=m.pos+Y,outermost:=m.outermost,count:=Y,kept:={lastmark:=m.lastmark,lastindex:=m.lastindex,whole:=false,marks:=#[]}}::m.frames,weight:=m.weight+1,pc:=m.pc+1+mG,pos:=m.pos+Y,handed:=m.pos+Y}:=fo.ex a6 ha a9 λC=>by
 have qL:min jz (m.lim - m.pos)=m.lim - m.pos:=vF (cu (hh _ _) aS)
 refine bH (Rn Y (m.lim - m.pos) m.pos ZR (ki.imp (λB=>(Nat.add_sub_cancel_left m.pos Y).symm.trans (congrArg (· - m.pos) B)) λB=>⟨Tp (A8 m.pos Y▸B.1),B.2⟩) 0 ((C.add 24).add (m.code.getD (m.pc+4) 0))) λs' e=>?_
 rw[ng]at e
 have:=Nl ({m with seen:=C}:M) (Y:=Y) (r':=s') aQ (by show m.pos+m.code.getD (m.pc+2) 0<=m.lim;exact j1 [_,_,_,_,_] 725206579378926083527680 rfl aA aN a_) aU (by
  show Un m.code m.text (m.pc+4) (min (m.code.getD (m.pc+3) 0) (m.lim - m.pos)) m.pos 0 _=_
  refine H bn ?_;refine H qL ?_
  exact e) e5
 refine H this ?_;refine H (if_neg (by show¬Y<m.code.getD (m.pc+2) 0;exact fv.mpr (bX [_,_,_] 168317090538816 rfl aA a_))) ?_
 subst h1
 exact⟨s',rfl⟩
theorem aeW{kp jz:Nat}(a6:m.outcome=none)(ha:m.answer=none)(a9:m.pc<m.code.size)(aQ:m.code.getD m.pc 0=24)(aA:m.code.getD (m.pc+2) 0=kp)(bn:m.code.getD (m.pc+3) 0=jz)(mv:kp=1)(aaL:1<=jz)(aU:m.inner=none)(e5:m.weight+1<=16777216)(zD:m.pos<m.lim->fI m.code (m.pc+4) (m.text.getD m.pos 0) false):fo 1 m {m with answer:=some false}:=fo.ex a6 ha a9 λC=>by
 by_cases aF:m.pos<m.lim
 .refine bH (Rn (code:=m.code) (aw:=m.text) (L:=m.pc+4) 0 (min jz (m.lim - m.pos)) m.pos (λaB bL=>absurd bL (rg aB)) (.inr ⟨Tn.mpr ⟨aaL,KR aF⟩,zD aF⟩) 0 ((C.add 24).add (m.code.getD (m.pc+4) 0))) λs' e=>?_
  have:=Nl ({m with seen:=C}:M) (Y:=0) (r':=s') aQ (by show m.pos+m.code.getD (m.pc+2) 0<=m.lim;exact j1 [_,_,_,_] 725198081266001531786240 rfl aF aA mv) aU (by
   show Un m.code m.text (m.pc+4) (min (m.code.getD (m.pc+3) 0) (m.lim - m.pos)) m.pos 0 _=_
   refine H bn ?_
   exact e) e5
  refine H this ?_;refine H (if_pos (by show 0<m.code.getD (m.pc+2) 0;exact bX [_,_] 536302331635056657 rfl mv aA)) ?_
  exact⟨s',rfl⟩
 .unfold M.exec
  have Y7:({m with seen:=C}:M).word 0=24:=aQ
  refine H Y7 ?_
  refine⟨(C.add 24),?_⟩
  show(if(m.code.getD (m.pc+2) 0:Int)>(m.lim:Int) - m.pos then _ else _)=_
  refine H (if_pos (SG (Int.sub_nonpos_of_le (vy.mpr (fv.mp aF))) (i1.mpr (g' xQ (j9 (aA.trans mv).symm))))) ?_
  rfl
theorem n8(a6:m.outcome=none)(ha:m.answer=some true){ao:nj}{r:List nj}(b2:m.frames=ao::r)(e5:ao.wait= .giveBack\/ao.wait= .nextStart):fo 1 m {m with answer:=some true,frames:=r,weight:=m.weight - (1+ao.kept.marks.size),pc:=ao.pc,pos:=ao.pos,outermost:=ao.outermost}:=fo.one a6 λC=>by
 refine H (afG ({m with seen:=C}:M) a6 ha b2 e5) ?_
 exact⟨C,rfl⟩
theorem Ay(a6:m.outcome=none)(ha:m.answer=some false){ao:nj}{r:List nj}(b2:m.frames=ao::r)(e5:ao.wait= .giveBack)(hk:ao.kept.whole=false)(aO:ao.count - 1<(m.code.getD (ao.pc+2) 0:Int)):fo 1 m {m with answer:=some false,frames:=r,weight:=m.weight - (1+ao.kept.marks.size),pc:=ao.pc,pos:=ao.pos,outermost:=ao.outermost,lastmark:=ao.kept.lastmark,lastindex:=ao.kept.lastindex}:=fo.one a6 λC=>by
 refine H (afF ({m with seen:=C}:M) a6 ha b2 e5 hk aO) ?_
 exact⟨C,rfl⟩
theorem D2(a6:m.outcome=none){ky:Bool}(ha:m.answer=some ky)(b2:m.frames=[]):fo 1 m {m with outcome:=some (if ky then .matched else .failed)}:=fo.one a6 λC=>by
 refine H (afE ({m with seen:=C}:M) a6 ha b2) ?_
 exact⟨C,rfl⟩
end
end Mine.Tactic
namespace Mine.Tactic
open PySem.Sre PySem.Builtin.Re
noncomputable def jj:Array Nat:=#[14,4,0,1,4294967295,6,0,24,9,0,4294967295,13,4,8,12,0,1,17,0,24,19,1,4294967295,13,14,21,9,0,671092736,0,0,0,0,0,0,8,12,0,1,17,1,1]
noncomputable def iw:Array Nat:=#[14,4,0,3,4294967295,6,0,24,9,0,4294967295,13,4,8,12,0,1,16,61,24,9,0,4294967295,13,4,8,12,0,1,16,34,17,0,24,12,0,4294967295,13,7,21,16,34,16,92,0,1,23,19,0,4294967295,16,92,2,24,12,0,4294967295,13,7,21,16,34,16,92,0,1,18,17,1,16,34,1]
noncomputable def jE:Array Nat:=#[14,4,0,1,4294967295,6,0,24,9,0,4294967295,13,4,8,12,0,1,16,61,24,9,0,4294967295,13,4,8,12,0,1,17,0,24,14,0,4294967295,13,9,21,8,12,16,59,16,44,0,1,17,1,1]
noncomputable def k7:Array Nat:=#[14,4,0,0,4294967295,6,0,24,13,0,4294967295,13,8,16,61,8,12,16,59,0,1,1]
noncomputable def gH(V:Nat):Bool:=(65<=V&&V<=90)||(97<=V&&V<=122)||(48<=V&&V<=57)||V==43||V==47
theorem Az{V:Nat}(B:gH V=true):V<128:=by
 unfold gH at B
 simp only[Sx,mH,decide_eq_true_eq,beq_iff_eq]at B
 have k:∀m,m<128->V<=m->V<128:=λm aI B=>h_ B aI
 exact B.elim (λB=>B.elim (λB=>B.elim (λB=>B.elim (λB=>k 90 (by decide) B.2) λB=>k 122 (by decide) B.2) λB=>k 57 (by decide) B.2) λB=>k 43 (by decide) (j9 B)) λB=>k 47 (by decide) (j9 B)
noncomputable def gG(V:Nat):Bool:=gH V||V==61||V==59||V==44||V==32||V==34
theorem RD(C:fO):∀V:Fin 128,gG V=true->oS jj V 13 C=some (V.val==32):=of_decide_eq_true (by kernel_rfl)
theorem R2(C:fO):∀V:Fin 128,gG V=true->oS jj V 25 C=some (gH V||V.val==34):=of_decide_eq_true (by kernel_rfl)
theorem QY(C:fO):∀V:Fin 128,gG V=true->oS iw V 13 C=some (V.val==32):=of_decide_eq_true (by kernel_rfl)
theorem QX(C:fO):∀V:Fin 128,gG V=true->oS iw V 25 C=some (V.val==32):=of_decide_eq_true (by kernel_rfl)
theorem aec(C:fO):∀V:Fin 128,gG V=true->oS iw V 39 C=some (V.val !=34):=of_decide_eq_true (by kernel_rfl)
theorem Sc(C:fO):∀V:Fin 128,gG V=true->oS jE V 13 C=some (V.val==32):=of_decide_eq_true (by kernel_rfl)
theorem ag9(C:fO):∀V:Fin 128,gG V=true->oS jE V 25 C=some (V.val==32):=of_decide_eq_true (by kernel_rfl)
theorem ag3(C:fO):∀V:Fin 128,gG V=true->oS jE V 37 C=some (V.val !=32&&V.val !=59&&V.val !=44):=of_decide_eq_true (by kernel_rfl)
theorem agI(C:fO):∀V:Fin 128,gG V=true->oS k7 V 13 C=some (V.val==61||V.val==32||V.val==59):=of_decide_eq_true (by kernel_rfl)
theorem ady{V:Nat}(B:gG V=true):V<128:=by
 unfold gG at B
 simp only[Sx,beq_iff_eq]at B
 rcases B with((((B|B)|B)|B)|B)|B
 .exact Az B
 all_goals lia
noncomputable def lg(code aw:Array Nat)(g Y kT:Nat)(pb:fO):M:={code:=code,text:=aw,lim:=Y,start:=0,lastStart:=kT,pc:=5,pos:=0,handed:=0,outermost:=true,marks:=Su (2*g) none,frames:=[{wait:=.nextStart,pc:=5,pos:=0,outermost:=true}],weight:=1,seen:=pb}
theorem RJ{aw:Array Nat}{Y:Nat}(a_:1<=Y):i4 jj aw 1 0 Y false=lg jj aw 1 Y (Y) (({}:fO).add 14):=by
 have fK:¬((decide (0>Y)||decide (Y - 0<1))=true):=by simp;try exact gR (aL [_] 9981790273553 rfl a_)
 show(if(decide (0>Y)||decide (Y - 0<1))=true then _ else M.attemptFrom _ 0 true)=_
 refine H (if_neg fK) ?_;refine H ((wi (B:=rfl)) _ _) ?_;refine H ((wh (B:=by show 0+1<=16777216;decide)) _ _) ?_
 rfl
theorem afb{aw:Array Nat}{Y:Nat}(a_:Y<1):∃bS,(i4 jj aw 1 0 Y false).runFor 1=bS/\bS.outcome=some .failed:=by
 have fK:(decide (0>Y)||decide (Y - 0<1))=true:=by simp;try exact aL [_] 150706396922178 rfl a_
 have e:∀D am:M,(if(decide (0>Y)||decide (Y - 0<1))=true then D else am)=D:=λD am=>if_pos fK
 refine⟨_,rfl,?_⟩
 have bm:i4 jj aw 1 0 Y false=_:=e _ _
 refine H bm ?_
 rfl
theorem JV{aw:Array Nat}{Y:Nat}(a_:3<=Y):i4 iw aw 1 0 Y false=lg iw aw 1 Y (max 0 (Y - (3 - 1))) (({}:fO).add 14):=by
 have fK:¬((decide (0>Y)||decide (Y - 0<3))=true):=by simp;try omega
 show(if(decide (0>Y)||decide (Y - 0<3))=true then _ else M.attemptFrom _ 0 true)=_
 refine H (if_neg fK) ?_;refine H ((wi (B:=rfl)) _ _) ?_;refine H ((wh (B:=by show 0+1<=16777216;decide)) _ _) ?_
 rfl
theorem afa{aw:Array Nat}{Y:Nat}(a_:Y<3):∃bS,(i4 iw aw 1 0 Y false).runFor 1=bS/\bS.outcome=some .failed:=by
 have fK:(decide (0>Y)||decide (Y - 0<3))=true:=by simp;try omega
 have e:∀D am:M,(if(decide (0>Y)||decide (Y - 0<3))=true then D else am)=D:=λD am=>if_pos fK
 refine⟨_,rfl,?_⟩
 have bm:i4 iw aw 1 0 Y false=_:=e _ _
 refine H bm ?_
 rfl
theorem RK{aw:Array Nat}{Y:Nat}(a_:1<=Y):i4 jE aw 1 0 Y false=lg jE aw 1 Y (Y) (({}:fO).add 14):=by
 have fK:¬((decide (0>Y)||decide (Y - 0<1))=true):=by simp;try exact gR (aL [_] 9981790273553 rfl a_)
 show(if(decide (0>Y)||decide (Y - 0<1))=true then _ else M.attemptFrom _ 0 true)=_
 refine H (if_neg fK) ?_;refine H ((wi (B:=rfl)) _ _) ?_;refine H ((wh (B:=by show 0+1<=16777216;decide)) _ _) ?_
 rfl
theorem afc{aw:Array Nat}{Y:Nat}(a_:Y<1):∃bS,(i4 jE aw 1 0 Y false).runFor 1=bS/\bS.outcome=some .failed:=by
 have fK:(decide (0>Y)||decide (Y - 0<1))=true:=by simp;try lia
 have e:∀D am:M,(if(decide (0>Y)||decide (Y - 0<1))=true then D else am)=D:=λD am=>if_pos fK
 refine⟨_,rfl,?_⟩
 have bm:i4 jE aw 1 0 Y false=_:=e _ _
 refine H bm ?_
 rfl
theorem afC{aw:Array Nat}{Y:Nat}:i4 k7 aw 0 0 Y false=lg k7 aw 0 Y Y (({}:fO).add 14):=by
 have cE:(Fh k7).1=0:=rfl
 have fK:¬((decide (0>Y)||decide (Y - 0<(Fh k7).1))=true):=by refine H cE ?_;simp
 unfold i4
 dsimp only
 refine H (if_neg fK) ?_;refine H ((wi (B:=rfl)) _ _) ?_;refine H ((wh (B:=by show 0+1<=16777216;decide)) _ _) ?_
 rfl
end Mine.Tactic
namespace Mine.Tactic
open PySem.Sre PySem.Builtin.Re
theorem mW{code:Array Nat}{L V:Nat}{ao:Nat->Bool}(aQ:code.getD L 0=13)(tab:∀C,∀V:Fin 128,gG V=true->oS code V (L+2) C=some (ao V))(aO:gG V=true):fI code L V (ao V):=
 Vc aQ λC=>tab C ⟨V,ady aO⟩ aO
structure me (code aw:Array Nat) (g:Nat) (gI:List Int):Prop where
 run:∃k bS,k<=2^60/\(i4 code aw g 0 aw.size false).runFor k=bS/\bS.outcome=some .matched/\AF g bS=true/\q3 g bS=gI
structure kJ (code aw:Array Nat) (g:Nat):Prop where
 run:∃k bS,k<=2^60/\(i4 code aw g 0 aw.size false).runFor k=bS/\bS.outcome=some .failed
theorem me.of{code aw:Array Nat}{g kT k:Nat}{pb:fO}{gI:List Int}{bS:M}(a9:i4 code aw g 0 aw.size false=lg code aw g aw.size kT pb)(aE:fo k (lg code aw g aw.size kT pb) bS)(hk:k<=2^60)(a6:bS.outcome=some .matched)(h1:AF g bS=true)(aA:q3 g bS=gI):me code aw g gI:=by
 refine jG (aE pb) λaB s' bL e=>?_
 exact⟨aB,{bS with seen:=s'},by lia,by refine H a9 ?_;exact e,a6,h1,aA⟩
theorem kJ.of{code aw:Array Nat}{g kT k:Nat}{pb:fO}{bS:M}(aX:FJ code)(a9:i4 code aw g 0 aw.size false=lg code aw g aw.size kT pb)(aE:fo k (lg code aw g aw.size kT pb) bS)(hk:k<=1000)(aO:bS.code=code)(a6:bS.outcome=none)(ha:bS.answer=some false)(b2:bS.frames=[{wait:=.nextStart,pc:=5,pos:=0,outermost:=true}])(e5:bS.weight=1)(aN:bS.lastStart<=2^40):kJ code aw g:=by
 refine jG (aE pb) λaB s' bL e=>?_
 refine cm (PW aX _ {bS with seen:=s'} 0 ⟨aO,a6,ha,⟨true,b2⟩,e5⟩ rfl) λoZ uV N=>?_;obtain⟨L,aU,dB⟩:=uV
 refine⟨aB+L,oZ,?_,?_,N⟩
 .exact cu (vC (cu bL hk) (cu aU (EJ (vG 2 (cu (hh _ _) aN)) 2))) (by decide)
 .refine H a9 ?_;refine H (vk _ _ _) ?_
  have bm:(lg code aw g aw.size kT pb).runFor aB={bS with seen:=s'}:=e
  refine H bm ?_
  exact dB
theorem agh{aw:Array Nat}{a l:Nat}(aN:1<=l)(hX:a+l<=aw.size)(aH:aw.size<=bc)(kP:∀aB,aB<a->aw.getD aB 0=32)(sX:∀aB,aB<l->gH (aw.getD (a+aB) 0)=true)(ki:a+l=aw.size\/(a+l<aw.size/\(aw.getD (a+l) 0=61\/aw.getD (a+l) 0=59\/aw.getD (a+l) 0=44))):me jj aw 1 [0,((a+l:Nat):Int),(a:Int),((a+l:Nat):Int)]:=by
 have hw:aw.size<=4294967295:=by unfold bc at aH;exact aL [_] 718314707803502708509988847936 rfl aH
 have mi:∀V,gG V=true->fI jj 11 V (V==32):=λV aO=>mW (ao:=λV=>V==32) rfl RD aO
 have pM:∀V,gG V=true->fI jj 23 V (gH V||V==34):=λV aO=>mW (ao:=λV=>gH V||V==34) rfl R2 aO
 have QC:∀V,gH V=true->gG V=true:=λV B=>by unfold gG;refine H B ?_;rfl
 have afw:∀aB,a+l<=aw.size->aB=a->aw.getD aB 0≠32:=λaB _ bL B=>by
  subst bL
  have:=sX 0 (by exact aL [_] 9981790273553 rfl aN)
  rw[xO,B]at this
  exact absurd this (by decide)
 have aT:=vh (m:=lg jj aw 1 aw.size aw.size (({}:fO).add 14)) rfl rfl (show(5:Nat)<42 by decide) rfl rfl rfl
 have bb:=aT.trans (n7 (Y:=a) (mG:=9) (kp:=0) (jz:=4294967295) rfl rfl (show(7:Nat)<42 by decide) rfl rfl rfl rfl rfl (eL _) (by show 0+a<=aw.size;exact aL [_,_,_] 2556794036814080 rfl hX) hw (show 1+1<=16777216 by decide)
  (λaB bL=>by
   show fI jj 11 (aw.getD (0+aB) 0) true
   refine H (ng _) ?_;refine H (kP aB bL) ?_
   exact mi 32 (by decide))
  (.inr ⟨by show 0+a<aw.size;exact bX [_,_,_] 45183070614138035372289 rfl hX aN,by
   show fI jj 11 (aw.getD (0+a) 0) false
   have h1:=sX 0 (by exact aL [_] 9981790273553 rfl aN)
   rw[xO]at h1
   have:=mi _ (QC _ h1)
   refine H (ng _) ?_
   rwa[show (aw.getD a 0==32)=false by simpa using afw a hX rfl]at this⟩))
 have e0:=bb.trans (vi (L:=0) rfl rfl (show(17:Nat)<42 by decide) rfl rfl)
 have gN:=e0.trans (n7 (Y:=l) (mG:=19) (kp:=1) (jz:=4294967295) rfl rfl (show(19:Nat)<42 by decide) rfl rfl rfl rfl rfl aN (by show 0+a+l<=aw.size;exact aL [_,_,_] 654803156504416256 rfl hX) hw (show 2+1<=16777216 by decide)
  (λaB bL=>by
   show fI jj 23 (aw.getD (0+a+aB) 0) true
   refine H (ng _) ?_
   have:=pM _ (QC _ (sX aB bL))
   rwa[sX aB bL,Bool.true_or]at this)
  (by
   show 0+a+l=aw.size\/(0+a+l<aw.size/\fI jj 23 (aw.getD (0+a+l) 0) false)
   refine H (ng _) ?_
   rcases ki with B|⟨B,aD⟩
   .exact .inl B
   .refine .inr ⟨B,?_⟩
    rcases aD with aD|aD|aD<;>(refine H aD ?_)<;>exact pM _ (by decide)))
 have n4:=gN.trans (vi (L:=1) rfl rfl (show(39:Nat)<42 by decide) rfl rfl)
 have jC:=n4.trans (D1 rfl rfl (show(41:Nat)<42 by decide) rfl rfl rfl)
 have qe:=jC.trans (n8 rfl rfl rfl (.inl rfl))
 have qf:=qe.trans (n8 rfl rfl rfl (.inl rfl))
 have lB:=qf.trans (n8 rfl rfl rfl (.inr rfl))
 have Ar:=lB.trans (D2 rfl rfl rfl)
 refine me.of (RJ (by exact bX [_,_,_] 2823817202354494902544 rfl aN hX)) Ar (by decide) rfl ?_ ?_
 .show(!((decide (((2*0+1:Nat):Int)<=max (max (-1) ((0:Nat):Int)) ((1:Nat):Int))&&decide (0+a+l<0+a))||false))=true
  simp
 .show [((0:Nat):Int),((0+a+l:Nat):Int),((0+a:Nat):Int),((0+a+l:Nat):Int)]=_
  refine H (ng _) ?_
  rfl
theorem R3{aw:Array Nat}(aH:aw.size<=bc)(B:aw.size≠0->aw.getD 0 0=59\/aw.getD 0 0=44):kJ jj aw 1:=by
 have hw:aw.size<=4294967295:=by unfold bc at aH;exact aL [_] 718314707803502708509988847936 rfl aH
 by_cases aQ:aw.size=0
 .refine cm (afb (aw:=aw) (Y:=aw.size) (by exact aL [_] 9964661838145 rfl aQ)) λbS e N=>?_
  exact⟨1,bS,by decide,e,N⟩
 have h1:=B aQ
 have mi:∀V,gG V=true->fI jj 11 V (V==32):=λV aO=>mW (ao:=λV=>V==32) rfl RD aO
 have pM:∀V,gG V=true->fI jj 23 V (gH V||V==34):=λV aO=>mW (ao:=λV=>gH V||V==34) rfl R2 aO
 have aT:=vh (m:=lg jj aw 1 aw.size aw.size (({}:fO).add 14)) rfl rfl (show(5:Nat)<42 by decide) rfl rfl rfl
 have bb:=aT.trans (n7 (Y:=0) (mG:=9) (kp:=0) (jz:=4294967295) rfl rfl (show(7:Nat)<42 by decide) rfl rfl rfl rfl rfl (eL _) (eL _) hw (show 1+1<=16777216 by decide)
  (λaB bL=>by exact(lL 0 (aL [_] 9964660723729 rfl bL)).elim)
  (.inr ⟨by show 0+0<aw.size;lia,by
   show fI jj 11 (aw.getD (0+0) 0) false
   rcases h1 with h1|h1<;>(refine H h1 ?_)<;>exact mi _ (by decide)⟩))
 have e0:=bb.trans (vi (L:=0) rfl rfl (show(17:Nat)<42 by decide) rfl rfl)
 have gN:=e0.trans (aeW (kp:=1) (jz:=4294967295) rfl rfl (show(19:Nat)<42 by decide) rfl rfl rfl rfl (by decide) rfl (show 2+1<=16777216 by decide) (λ_=>by
   show fI jj 23 (aw.getD (0+0) 0) false
   rcases h1 with h1|h1<;>(refine H h1 ?_)<;>exact pM _ (by decide)))
 have n4:=gN.trans (Ay rfl rfl rfl rfl rfl (show(0:Int) - 1<0 by decide))
 exact kJ.of ⟨rfl,rfl,rfl,by decide⟩ (RJ (by lia)) n4 (by decide) rfl rfl rfl rfl rfl (by show aw.size<=2^40;unfold bc at aH;exact aL [_] 2942217043163146013193003885179200 rfl aH)
theorem ag5{aw:Array Nat}{l:Nat}(aH:aw.size<=bc)(aN:1+l<=aw.size)(aQ:aw.getD 0 0=61)(hX:∀aB,aB<l->aw.getD (1+aB) 0=61)(ki:1+l=aw.size\/(1+l<aw.size/\(aw.getD (1+l) 0=59\/aw.getD (1+l) 0=44))):me jE aw 1 [0,((1+l:Nat):Int),1,((1+l:Nat):Int)]:=by
 have hw:aw.size<=4294967295:=by unfold bc at aH;exact aL [_] 718314707803502708509988847936 rfl aH
 have mi:∀V,gG V=true->fI jE 11 V (V==32):=λV aO=>mW (ao:=λV=>V==32) rfl Sc aO
 have pM:∀V,gG V=true->fI jE 23 V (V==32):=λV aO=>mW (ao:=λV=>V==32) rfl ag9 aO
 have yM:∀V,gG V=true->fI jE 35 V (V !=32&&V !=59&&V !=44):=λV aO=>mW (ao:=λV=>V !=32&&V !=59&&V !=44) rfl ag3 aO
 have aT:=vh (m:=lg jE aw 1 aw.size aw.size (({}:fO).add 14)) rfl rfl (show(5:Nat)<49 by decide) rfl rfl rfl
 have bb:=aT.trans (n7 (Y:=0) (mG:=9) (kp:=0) (jz:=4294967295) rfl rfl (show(7:Nat)<49 by decide) rfl rfl rfl rfl rfl (eL _) (eL _) hw (show 1+1<=16777216 by decide)
  (λaB bL=>by exact(lL 0 (aL [_] 9964660723729 rfl bL)).elim)
  (.inr ⟨by show 0+0<aw.size;exact aL [_,_] 10467791669376909569 rfl aN,by
   show fI jE 11 (aw.getD (0+0) 0) false
   refine H aQ ?_;exact mi _ (by decide)⟩))
 have e0:=bb.trans (Ax (V:=61) rfl rfl (show(17:Nat)<49 by decide) rfl rfl (by show 0+0<aw.size;exact aL [_,_] 10467791669376909569 rfl aN) aQ)
 have gN:=e0.trans (n7 (Y:=0) (mG:=9) (kp:=0) (jz:=4294967295) rfl rfl (show(19:Nat)<49 by decide) rfl rfl rfl rfl rfl (eL _) (by show 0+0+1+0<=aw.size;exact aL [_,_] 2809926430082193059580280832 rfl aN) hw (show 2+1<=16777216 by decide)
  (λaB bL=>by exact(lL 0 (aL [_] 9964660723729 rfl bL)).elim)
  (by
   show 0+0+1+0=aw.size\/(0+0+1+0<aw.size/\fI jE 23 (aw.getD (0+0+1+0) 0) false)
   by_cases mu:l=0
   .subst mu
    rcases ki with B|⟨B,aD⟩
    .exact .inl (by exact bX [_] 656257474136105655034612352967753250963458 rfl aN B)
    .exact .inr ⟨by exact aL [_] 44952778270465320026581827585 rfl B,by rcases aD with aD|aD<;>(have ju:aw.getD (0+0+1+0) 0=_:=aD;refine H ju ?_;exact pM _ (by decide))⟩
   .refine .inr ⟨g' (EN (Bf mu)) aN,?_⟩
    have:=hX 0 (Bf mu)
    have ju:aw.getD (0+0+1+0) 0=61:=this
    refine H ju ?_;exact pM _ (by decide)))
 have n4:=gN.trans (vi (L:=0) rfl rfl (show(29:Nat)<49 by decide) rfl rfl)
 have jC:=n4.trans (n7 (Y:=l) (mG:=14) (kp:=0) (jz:=4294967295) rfl rfl (show(31:Nat)<49 by decide) rfl rfl rfl rfl rfl (eL _) (by show 0+0+1+0+l<=aw.size;exact aL [_,_] 719631308299185582600289779712 rfl aN) hw (show 3+1<=16777216 by decide)
  (λaB bL=>by
   show fI jE 35 (aw.getD (0+0+1+0+aB) 0) true
   have ju:aw.getD (0+0+1+0+aB) 0=61:=hX aB bL
   refine H ju ?_;exact yM _ (by decide))
  (by
   show 0+0+1+0+l=aw.size\/(0+0+1+0+l<aw.size/\fI jE 35 (aw.getD (0+0+1+0+l) 0) false)
   rcases ki with B|⟨B,aD⟩
   .exact .inl (by exact bX [_,_] 656257577981974430752612666387839381929986 rfl aN B)
   .exact .inr ⟨by exact aL [_,_] 719631308317632326673999331329 rfl B,by rcases aD with aD|aD<;>(have ju:aw.getD (0+0+1+0+l) 0=_:=aD;refine H ju ?_;exact yM _ (by decide))⟩))
 have qe:=jC.trans (vi (L:=1) rfl rfl (show(46:Nat)<49 by decide) rfl rfl)
 have qf:=qe.trans (D1 rfl rfl (show(48:Nat)<49 by decide) rfl rfl rfl)
 have lB:=qf.trans (n8 rfl rfl rfl (.inl rfl))
 have Ar:=lB.trans (n8 rfl rfl rfl (.inl rfl))
 have xl:=Ar.trans (n8 rfl rfl rfl (.inl rfl))
 have Jt:=xl.trans (n8 rfl rfl rfl (.inr rfl))
 have As:=Jt.trans (D2 rfl rfl rfl)
 refine me.of (RK (by exact aL [_,_] 40889811208507664 rfl aN)) As (by decide) rfl ?_ ?_
 .show(!((decide (((2*0+1:Nat):Int)<=max (max (-1) ((0:Nat):Int)) ((1:Nat):Int))&&decide (0+0+1+0+l<0+0+1+0))||false))=true
  simp
 .rfl
theorem ag4{aw:Array Nat}(aH:aw.size<=bc)(B:aw.size≠0->aw.getD 0 0=59\/aw.getD 0 0=44):kJ jE aw 1:=by
 have hw:aw.size<=4294967295:=by unfold bc at aH;exact aL [_] 718314707803502708509988847936 rfl aH
 by_cases aQ:aw.size=0
 .refine cm (afc (aw:=aw) (Y:=aw.size) (by exact aL [_] 9964661838145 rfl aQ)) λbS e N=>?_
  exact⟨1,bS,by decide,e,N⟩
 have h1:=B aQ
 have mi:∀V,gG V=true->fI jE 11 V (V==32):=λV aO=>mW (ao:=λV=>V==32) rfl Sc aO
 have aT:=vh (m:=lg jE aw 1 aw.size aw.size (({}:fO).add 14)) rfl rfl (show(5:Nat)<49 by decide) rfl rfl rfl
 have bb:=aT.trans (n7 (Y:=0) (mG:=9) (kp:=0) (jz:=4294967295) rfl rfl (show(7:Nat)<49 by decide) rfl rfl rfl rfl rfl (eL _) (eL _) hw (show 1+1<=16777216 by decide)
  (λaB bL=>by exact(lL 0 (aL [_] 9964660723729 rfl bL)).elim)
  (.inr ⟨by show 0+0<aw.size;lia,by
   show fI jE 11 (aw.getD (0+0) 0) false
   rcases h1 with h1|h1<;>(refine H h1 ?_)<;>exact mi _ (by decide)⟩))
 have e0:=bb.trans (D0 (V:=61) rfl rfl (show(17:Nat)<49 by decide) rfl rfl (λ_=>by
   show aw.getD (0+0) 0≠61
   rcases h1 with h1|h1<;>(refine H h1 ?_)<;>decide))
 have gN:=e0.trans (Ay rfl rfl rfl rfl rfl (show(0:Int) - 1<0 by decide))
 exact kJ.of ⟨rfl,rfl,rfl,by decide⟩ (RK (by lia)) gN (by decide) rfl rfl rfl rfl rfl (by show aw.size<=2^40;unfold bc at aH;exact aL [_] 2942217043163146013193003885179200 rfl aH)
end Mine.Tactic
namespace Mine.Tactic
open PySem.Sre PySem.Builtin.Re
theorem Q0{aw:Array Nat}(aH:aw.size<=bc)(B:aw.size≠0->aw.getD 0 0=59\/aw.getD 0 0=44\/(aw.getD 0 0=61/\(aw.size≠1->aw.getD 1 0=61\/aw.getD 1 0=59\/aw.getD 1 0=44))):kJ iw aw 1:=by
 have hw:aw.size<=4294967295:=by unfold bc at aH;exact aL [_] 718314707803502708509988847936 rfl aH
 by_cases aQ:aw.size<3
 .refine cm (afa (aw:=aw) (Y:=aw.size) aQ) λbS e N=>?_
  exact⟨1,bS,by decide,e,N⟩
 have h1:=B (by exact gR (aL [_] 9982327144465 rfl (fv.mp aQ)))
 have mi:∀V,gG V=true->fI iw 11 V (V==32):=λV aO=>mW (ao:=λV=>V==32) rfl QY aO
 have pM:∀V,gG V=true->fI iw 23 V (V==32):=λV aO=>mW (ao:=λV=>V==32) rfl QX aO
 have adx:gG (aw.getD 0 0)=true:=by rcases h1 with h1|h1|⟨h1,_⟩<;>(refine H h1 ?_)<;>decide
 have ac7:(aw.getD 0 0==32)=false:=by rcases h1 with h1|h1|⟨h1,_⟩<;>(refine H h1 ?_)<;>decide
 have aT:=vh (m:=lg iw aw 1 aw.size (max 0 (aw.size - (3 - 1))) (({}:fO).add 14)) rfl rfl (show(5:Nat)<72 by decide) rfl rfl rfl
 have bb:=aT.trans (n7 (Y:=0) (mG:=9) (kp:=0) (jz:=4294967295) rfl rfl (show(7:Nat)<72 by decide) rfl rfl rfl rfl rfl (eL _) (eL _) hw (show 1+1<=16777216 by decide)
  (λaB bL=>by exact(lL 0 (aL [_] 9964660723729 rfl bL)).elim)
  (.inr ⟨by show 0+0<aw.size;exact aL [_] 40887611983724801 rfl (fv.mp aQ),by
   show fI iw 11 (aw.getD (0+0) 0) false
   have:=mi _ adx
   rwa[ac7]at this⟩))
 have zz:max 0 (aw.size - (3 - 1))<=2^40:=Tq.mpr ⟨eL _,cu (hh _ _) (cu aH (by decide))⟩
 by_cases Cq:aw.getD 0 0=61
 .have aA:aw.getD 1 0=61\/aw.getD 1 0=59\/aw.getD 1 0=44:=by
   rcases h1 with h1|h1|⟨_,h1⟩
   .rw[Cq]at h1;cases h1
   .rw[Cq]at h1;cases h1
   .exact h1 (by exact gR (aL [_] 159717234315537 rfl (fv.mp aQ)))
  have e0:=bb.trans (Ax (V:=61) rfl rfl (show(17:Nat)<72 by decide) rfl rfl (by show 0+0<aw.size;exact aL [_] 40887611983724801 rfl (fv.mp aQ)) Cq)
  have gN:=e0.trans (n7 (Y:=0) (mG:=9) (kp:=0) (jz:=4294967295) rfl rfl (show(19:Nat)<72 by decide) rfl rfl rfl rfl rfl (eL _) (by show 0+0+1+0<=aw.size;exact aL [_] 10975684767603335089946624 rfl (fv.mp aQ)) hw (show 2+1<=16777216 by decide)
   (λaB bL=>by exact(lL 0 (aL [_] 9964660723729 rfl bL)).elim)
   (.inr ⟨by show 0+0+1+0<aw.size;exact aL [_] 10975684767603335089946625 rfl (fv.mp aQ),by
    show fI iw 23 (aw.getD (0+0+1+0) 0) false
    rcases aA with aD|aD|aD<;>(have ju:aw.getD (0+0+1+0) 0=_:=aD;refine H ju ?_;exact pM _ (by decide))⟩))
  have n4:=gN.trans (D0 (V:=34) rfl rfl (show(29:Nat)<72 by decide) rfl rfl (λ_=>by
   show aw.getD (0+0+1+0) 0≠34
   rcases aA with aD|aD|aD<;>(have ju:aw.getD (0+0+1+0) 0=_:=aD;refine H ju ?_;decide)))
  have jC:=n4.trans (Ay rfl rfl rfl rfl rfl (show(0:Int) - 1<0 by decide))
  have qe:=jC.trans (Ay rfl rfl rfl rfl rfl (show(0:Int) - 1<0 by decide))
  exact kJ.of ⟨rfl,rfl,rfl,by decide⟩ (JV (by exact aL [_] 159717234323728 rfl (fv.mp aQ))) qe (by decide) rfl rfl rfl rfl rfl zz
 .have e0:=bb.trans (D0 (V:=61) rfl rfl (show(17:Nat)<72 by decide) rfl rfl (λ_=>Cq))
  have gN:=e0.trans (Ay rfl rfl rfl rfl rfl (show(0:Int) - 1<0 by decide))
  exact kJ.of ⟨rfl,rfl,rfl,by decide⟩ (JV (by exact aL [_] 159717234323728 rfl (fv.mp aQ))) gN (by decide) rfl rfl rfl rfl rfl zz
noncomputable def Js(ag_:Wait)(Jg al:Nat)(XE:Int)(IT IR:Int):nj:={wait:=ag_,pc:=Jg,pos:=al,outermost:=true,count:=XE,kept:={lastmark:=IT,lastindex:=IR,whole:=false,marks:=#[]}}
noncomputable def xk(aw:Array Nat)(kT:Nat)(Jg al handed:Nat)(IT IR:Int)(ac2:Array (Option Nat))(acQ:Array Loop)(kR:Option Nat)(Ea:List nj)(l:Nat)(weight:Nat)(answer:Option Bool):M:=
 {code:=iw,text:=aw,lim:=aw.size,start:=0,lastStart:=kT,pc:=Jg,pos:=al,handed:=handed,outermost:=true,marks:=ac2,lastmark:=IT,lastindex:=IR,loops:=acQ,inner:=kR,
  frames:=Ea++[Js .giveBack 33 (2+l) l 0 (-1),Js .giveBack 19 1 0 (-1) (-1),Js .giveBack 7 0 0 (-1) (-1),{wait:=.nextStart,pc:=5,pos:=0,outermost:=true}],weight:=weight,answer:=answer}
noncomputable def DV(l:Nat):nj:={wait:=.closeLoop,pc:=46,pos:=2+l,outermost:=true,loop:=0}
noncomputable def aed(l:Nat):nj:={wait:=.maxMore,pc:=67,pos:=2+l,outermost:=true,count:=0,kept:={lastmark:=0,lastindex:= -1,whole:=true,marks:=#[some 2]},loop:=0,began:=none}
noncomputable def aee(l:Nat):nj:={wait:=.maxTail,pc:=67,pos:=2+l,outermost:=true,count:=0,kept:={lastmark:=0,lastindex:= -1,whole:=false,marks:=#[]},loop:=0}
theorem aef{aw:Array Nat}{l:Nat}(aH:aw.size<=bc)(aN:3+l<=aw.size)(aQ:aw.getD 0 0=61)(h1:aw.getD 1 0=34)(hX:∀aB,aB<l->aw.getD (2+aB) 0=61)(ki:aw.getD (2+l) 0=34):me iw aw 1 [0,((3+l:Nat):Int),2,((2+l:Nat):Int)]:=by
 have hw:aw.size<=4294967295:=by unfold bc at aH;exact aL [_] 718314707803502708509988847936 rfl aH
 have mi:∀V,gG V=true->fI iw 11 V (V==32):=λV aO=>mW (ao:=λV=>V==32) rfl QY aO
 have pM:∀V,gG V=true->fI iw 23 V (V==32):=λV aO=>mW (ao:=λV=>V==32) rfl QX aO
 have yM:∀V,gG V=true->fI iw 37 V (V !=34):=λV aO=>mW (ao:=λV=>V !=34) rfl aec aO
 have aT:=vh (m:=lg iw aw 1 aw.size (max 0 (aw.size - (3 - 1))) (({}:fO).add 14)) rfl rfl (show(5:Nat)<72 by decide) rfl rfl rfl
 have bb:=aT.trans (n7 (Y:=0) (mG:=9) (kp:=0) (jz:=4294967295) rfl rfl (show(7:Nat)<72 by decide) rfl rfl rfl rfl rfl (eL _) (eL _) hw (show 1+1<=16777216 by decide)
  (λaB bL=>by exact(lL 0 (aL [_] 9964660723729 rfl bL)).elim)
  (.inr ⟨by show 0+0<aw.size;exact aL [_,_] 10467826853748998401 rfl aN,by
   show fI iw 11 (aw.getD (0+0) 0) false
   refine H aQ ?_;exact mi _ (by decide)⟩))
 have e0:=bb.trans (Ax (V:=61) rfl rfl (show(17:Nat)<72 by decide) rfl rfl (by show 0+0<aw.size;exact aL [_,_] 10467826853748998401 rfl aN) aQ)
 have gN:=e0.trans (n7 (Y:=0) (mG:=9) (kp:=0) (jz:=4294967295) rfl rfl (show(19:Nat)<72 by decide) rfl rfl rfl rfl rfl (eL _) (by show 0+0+1+0<=aw.size;exact aL [_,_] 2809935874815158798870708224 rfl aN) hw (show 2+1<=16777216 by decide)
  (λaB bL=>by exact(lL 0 (aL [_] 9964660723729 rfl bL)).elim)
  (.inr ⟨by show 0+0+1+0<aw.size;exact aL [_,_] 2809935874815158798870708225 rfl aN,by
   show fI iw 23 (aw.getD 1 0) false
   refine H h1 ?_;exact pM _ (by decide)⟩))
 have n4:=gN.trans (Ax (V:=34) rfl rfl (show(29:Nat)<72 by decide) rfl rfl (by show 0+0+1+0<aw.size;exact aL [_,_] 2809935874815158798870708225 rfl aN) h1)
 have jC:=n4.trans (vi (L:=0) rfl rfl (show(31:Nat)<72 by decide) rfl rfl)
 have qe:=jC.trans (n7 (Y:=l) (mG:=12) (kp:=0) (jz:=4294967295) rfl rfl (show(33:Nat)<72 by decide) rfl rfl rfl rfl rfl (eL _) (by show 0+0+1+0+1+l<=aw.size;exact aL [_,_] 47161915877020749946097873486610432 rfl aN) hw (show 3+1<=16777216 by decide)
  (λaB bL=>by
   show fI iw 37 (aw.getD (2+aB) 0) true
   refine H (hX aB bL) ?_;exact yM _ (by decide))
  (.inr ⟨by show 0+0+1+0+1+l<aw.size;exact aL [_,_] 47161915877020749946097873486610433 rfl aN,by
   show fI iw 37 (aw.getD (2+l) 0) false
   refine H ki ?_;exact yM _ (by decide)⟩))
 have Q1:fo _ (lg iw aw 1 aw.size (max 0 (aw.size - (3 - 1))) (({}:fO).add 14)) (xk aw (max 0 (aw.size - (3 - 1))) 46 (2+l) (2+l) 0 (-1) #[some 2,none] #[] none [] l 4 none):=qe
 have O_:=JV (aw:=aw) (Y:=aw.size) (by exact aL [_,_] 40889948647469328 rfl aN)
 generalize max 0 (aw.size - (3 - 1))=kT at Q1 O_
 have qf:=Q1.trans (oZ:=xk aw kT 66 (2+l) (2+l) 0 (-1) #[some 2,none] #[{pc:=46,outer:=none}] (some 0) [DV l] l 5 none) (fo.ex rfl rfl (show(46:Nat)<72 by decide) λC=>⟨C.add 23,by kernel_rfl⟩)
 have lB:=qf.trans (oZ:=xk aw kT 50 (2+l) (2+l) 0 (-1) #[some 2,none] #[{pc:=46,count:=0,began:=some (2+l),outer:=none}] (some 0) [aed l,DV l] l 7 none) (fo.ex rfl rfl (show(66:Nat)<72 by decide) λC=>⟨C.add 18,by kernel_rfl⟩)
 have Ar:=lB.trans (D0 (V:=92) rfl rfl (show(50:Nat)<72 by decide) rfl rfl (λ_=>by
  show aw.getD (2+l) 0≠92
  refine H ki ?_;decide))
 have xl:=Ar.trans (oZ:=xk aw kT 67 (2+l) (2+l) 0 (-1) #[some 2,none] #[{pc:=46,count:= -1,began:=none,outer:=none}] none [aee l,DV l] l 6 none) (fo.one rfl λC=>⟨C,by kernel_rfl⟩)
 have Jt:=xl.trans (vi (L:=1) rfl rfl (show(67:Nat)<72 by decide) rfl rfl)
 have As:=Jt.trans (Ax (V:=34) rfl rfl (show(69:Nat)<72 by decide) rfl rfl (by show 2+l<aw.size;exact aL [_,_] 10472048978420699393 rfl aN) ki)
 have aeg:=As.trans (D1 rfl rfl (show(71:Nat)<72 by decide) rfl rfl rfl)
 have aeh:=aeg.trans (oZ:=xk aw kT 67 (2+l) (2+l+1) 1 1 #[some 2,some (2+l)] #[{pc:=46,count:= -1,began:=none,outer:=none}] (some 0) [DV l] l 5 (some true)) (fo.one rfl λC=>⟨C,by kernel_rfl⟩)
 have aei:=aeh.trans (oZ:=xk aw kT 46 (2+l) (2+l+1) 1 1 #[some 2,some (2+l)] #[] none [] l 4 (some true)) (fo.one rfl λC=>⟨C,by kernel_rfl⟩)
 have aej:=aei.trans (n8 rfl rfl rfl (.inl rfl))
 have aek:=aej.trans (n8 rfl rfl rfl (.inl rfl))
 have ael:=aek.trans (n8 rfl rfl rfl (.inl rfl))
 have aem:=ael.trans (n8 rfl rfl rfl (.inr rfl))
 have aen:=aem.trans (D2 rfl rfl rfl)
 refine me.of O_ aen (by decide) rfl ?_ ?_
 .show(!((decide (((2*0+1:Nat):Int)<=(1:Int))&&decide (2+l<2))||false))=true
  simp
 .show [((0:Nat):Int),((2+l+1:Nat):Int),((2:Nat):Int),((2+l:Nat):Int)]=_
  refine H (show 2+l+1=3+l by exact e_ [_] 1454961820155580418 rfl) ?_
  rfl
theorem agJ{aw:Array Nat}{l:Nat}(aH:aw.size<=bc)(aN:l<=aw.size)(hX:∀aB,aB<l->aw.getD aB 0=61\/aw.getD aB 0=32\/aw.getD aB 0=59)(ki:l=aw.size\/(l<aw.size/\gH (aw.getD l 0)=true)):me k7 aw 0 [0,(l:Int)]:=by
 have hw:aw.size<=4294967295:=by unfold bc at aH;exact aL [_] 718314707803502708509988847936 rfl aH
 have mi:∀V,gG V=true->fI k7 11 V (V==61||V==32||V==59):=λV aO=>mW (ao:=λV=>V==61||V==32||V==59) rfl agI aO
 have aT:=vh (m:=lg k7 aw 0 aw.size aw.size (({}:fO).add 14)) rfl rfl (show(5:Nat)<22 by decide) rfl rfl rfl
 have bb:=aT.trans (n7 (Y:=l) (mG:=13) (kp:=0) (jz:=4294967295) rfl rfl (show(7:Nat)<22 by decide) rfl rfl rfl rfl rfl (eL _) (by show 0+l<=aw.size;exact aL [_,_] 9986878210304 rfl aN) hw (show 1+1<=16777216 by decide)
  (λaB bL=>by
   show fI k7 11 (aw.getD (0+aB) 0) true
   refine H (ng _) ?_
   rcases hX aB bL with B|B|B<;>(refine H B ?_)<;>exact mi _ (by decide))
  (by
   show 0+l=aw.size\/(0+l<aw.size/\fI k7 11 (aw.getD (0+l) 0) false)
   refine H (ng _) ?_
   rcases ki with B|⟨B,aD⟩
   .exact .inl B
   .refine .inr ⟨B,?_⟩
    have qM:gG (aw.getD l 0)=true:=by unfold gG;refine H aD ?_;rfl
    have:=mi _ qM
    have e:(aw.getD l 0==61||aw.getD l 0==32||aw.getD l 0==59)=false:=by
     generalize aw.getD l 0=V at aD
     have aO:∀d,(d=61\/d=32\/d=59)->V≠d:=λd hd au=>by
      subst au
      rcases hd with rfl|rfl|rfl<;>exact absurd aD (by decide)
     simp[aO 61 (by simp),aO 32 (by simp),aO 59 (by simp)]
    rwa[e]at this))
 have e0:=bb.trans (D1 rfl rfl (show(21:Nat)<22 by decide) rfl rfl rfl)
 have gN:=e0.trans (n8 rfl rfl rfl (.inl rfl))
 have n4:=gN.trans (n8 rfl rfl rfl (.inr rfl))
 have jC:=n4.trans (D2 rfl rfl rfl)
 refine me.of afC jC (by decide) rfl rfl ?_
 show [((0:Nat):Int),((0+l:Nat):Int)]=_
 refine H (ng _) ?_
 rfl
end Mine.Tactic
namespace Mine.Tactic
open PySem.Sre PySem.Builtin.Re
namespace F
theorem Nd:rm nn "re.Pattern.sub.loop"=some fX.«re.Pattern.sub.loop»:=sh (by kernel_rfl)
theorem Am:plainId "re.Pattern.sub.loop"=true:=by decide+kernel
theorem adk:vZ (.type "str") "__call__"=pure none:=by rw[lc,la];kernel_rfl
theorem YD:∃v,vZ (.type "function") "__call__"=pure (some v):=⟨.builtin "function.__call__",by rw[lc,la];kernel_rfl⟩
theorem ajH:tP (.type "str") (.type "bytearray")=pure false:=by rw[pC];kernel_rfl
end F
section
variable{W:bj}{I:br}{C:aq}{aj:an->aq->Prop}{P aX:ah}{g:Nat}{code:Array Nat}
theorem MT{T id:String}{name:ay}{b:fX}{self:an}{aJ:List an}{ai:an->aq->Prop}(B:qs T name id)(dI:C.TypeIs self T)(ak:rm nn id=some b)(aO:az W.M I.in1 (b ⟨self::aJ,[]⟩) (λck s'=>match ck with
   | .done ao=>(match(xG ao:pw)with | .ok (.ret v)=>ai v s'| .ok _=>False| .error e=>aj e s')
   | .again fx=>fx.quiet=true/\lb W.M I fx (λr s'=>match r with | .ok (.ret v)=>ai v s'| .ok _=>False| .error e=>aj e s') s') aj C)(ha:lM id ⟨self::aJ,[]⟩):az W.M I (df (.builtin id) (self::aJ)) ai aj C:=by
 exact LM (Lv B.plain ak (B.check _ _ _ _ _ _ _ _ dI ha aO))
theorem DY{aw:ay}{bg:dN}{ai:ReTarget->aq->Prop}(J:iP W.w P aX g code)(bQ:eg W C.heap)(q:ai {pattern:=.ref P,string:=.str aw bg,code:=code,text:=aw.cps,kind:=0,groups:=g,pos:=0,lim:=aw.cps.size} C):az W.M I (reWholeTarget (.ref P) (.str aw bg)) ai aj C:=by
 refine jF J.pat λa7 gU aF=>?_
 refine oa J.code λDD aR Y aO hd sI=>?_
 have cL:=bQ.K _ _ aF
 have gx:=bQ.K _ _ aO
 unfold reWholeTarget
 refine aM (LN cL rfl ?_)
 refine aM (g4 (a:=(aw.cps,0)) rfl ?_)
 refine aM (g4 (a:=()) rfl ?_)
 unfold reRawItems
 refine aM (aM (pD gx hd (b6 ?_)))
 refine b6 ?_
 have bm:Ss (λD=>D.toNat) (((some aR).getD #[]).map reRawOf)=code:=sI
 refine H bm ?_
 exact q
theorem afM{af:List an}{a7:List ay}{D:ay}{t:dN}(B:xT af a7):xT (af++[.str D t]) (a7++[D]):=by
 induction B with
 |nil=>exact .cons _ _ .nil
 |cons a b _ bf=>exact .cons _ _ bf
theorem RO{aw R:ay}{bg:dN}{Rd:an}{Y ln st:Nat}{Ej:Int}{I3 AT:Bool}{ar:ah}{a7:List ay}{af:Array an}{dt:br}{ai:an->aq->Prop}{aj:an->aq->Prop}(J:iP W.w P aX g code)(bQ:eg W C.heap)(aH:aw.length<=100000)(abx:Ej=1\/(Ej=0/\∃D t,Rd= .str D t))(sS:∃k bS,k<=2^60/\(i4 code aw.cps g st aw.cps.size I3).runFor k=bS/\bS.outcome=some .failed)(lW:C.heap.PlainList ar af)(km:xT af.toList a7)(a_:a7.length<=100)(Ot:(a7.map (·.length)).sum<=100000)(i':(a7++(if ln<aw.cps.size then [⟨aw.cps.extract ln aw.cps.size⟩]else [])=[]->R=⟨#[]⟩)/\mL ⟨#[]⟩ (a7++(if ln<aw.cps.size then [⟨aw.cps.extract ln aw.cps.size⟩]else []))=R)(q:∀fB s',cC [ar] C s'->(AT=false->ai (.str R fB) s')/\(AT=true->∀a dz,cS s' dz->s'.heap.get? a=none->dz.heap.get? a=some {cls:=.type "tuple",data:=.seq #[.str R fB,.int Y s'.toks] 0}->ai (.ref a) dz)):lb W.M dt (.builtin "re.Pattern.sub.loop" ⟨[.ref P,.str aw bg,Rd,dG Ej,dG 0,dG Y,dG ln,dG st,.bool I3,.ref ar,.bool AT],[]⟩) (λr s'=>match r with | .ok (.ret v)=>ai v s'| .ok _=>False| .error e=>aj e s') C:=by
 refine l6 sS λk bS hk aI a6=>?_;clear sS
 refine tN F.Nd ?_
 refine H ((vK F.Am) _) ?_
 unfold fX.«re.Pattern.sub.loop»
 dsimp only
 refine aM (DY J bQ ?_)
 dsimp only
 have ck:∀(ee:Array an)(jh:List ay)(aG:aq),cC [ar] C aG->aG.heap.PlainList ar ee->xT ee.toList jh->(jh=[]->R=⟨#[]⟩)->mL ⟨#[]⟩ jh=R->jh.length<=101->(jh.map (·.length)).sum<=200000->
   ∀(T:an->ni pt),(∀(fB:dN)(a5:aq),cC [ar] C a5->az W.M dt.in1 (T (.str R fB)) (λck s'=>match ck with
    | .done ao=>(match(xG ao:pw)with | .ok (.ret v)=>ai v s'| .ok _=>False| .error e=>aj e s')
    | .again fx=>fx.quiet=true/\lb W.M dt fx (λr s'=>match r with | .ok (.ret v)=>ai v s'| .ok _=>False| .error e=>aj e s') s') (λe s'=>aj e s') a5)->
   az W.M dt.in1 (do
    let s0<-reSlice aw.cps 0 0 0
    let aw<-if ((<-Fz (.ref ar)).getD #[]).isEmpty then pure s0 else df (.builtin (if(0:Nat)==0 then "str.join"else "bytes.join")) [s0,.ref ar]
    T aw) (λck s'=>match ck with
    | .done ao=>(match(xG ao:pw)with | .ok (.ret v)=>ai v s'| .ok _=>False| .error e=>aj e s')
    | .again fx=>fx.quiet=true/\lb W.M dt fx (λr s'=>match r with | .ok (.ret v)=>ai v s'| .ok _=>False| .error e=>aj e s') s') (λe s'=>aj e s') aG:=by
  intro ee jh aG c2 bz a9 zl Hi aN abh T dI
  refine aM (m:=reSlice aw.cps 0 0 0) (LQ ?_ (by simp[vN]))
  have PK:cC [ar] C {aG with toks:=aG.toks+1}:=c2.trans (cC.of (ey aG _))
  refine bH (id bz) λlz p0=>?_
  have f7:(⟨aw.cps.extract 0 0⟩:ay)=⟨#[]⟩:=by simp
  refine H f7 ?_
  refine aM (m:=Fz (.ref ar)) (pD p0 rfl ?_)
  dsimp only[TG]
  by_cases HG:jh=[]
  .have bA:ee=#[]:=by
    subst HG
    cases ec:ee.toList with
    |nil=>exact Array.toList_eq_nil_iff.mp ec
    |cons a b=>rw[ec]at a9;cases a9
   subst bA
   refine H (if_pos (by rfl)) ?_
   refine aM (b6 ?_)
   refine b' (zl HG) ?_
   exact dI _ _ PK
  .have bA:ee.isEmpty=false:=by
    refine decide_eq_false λB=>HG ?_
    have:ee.toList=[]:=by simpa using B
    rw[this]at a9
    cases a9
    rfl
   refine H (if_neg (by show¬ee.isEmpty=true;rw[bA];simp)) ?_
   refine aM ?_
   show az _ _ (df (.builtin "str.join") [_,_]) _ _ _
   refine join_list (s:={aG with toks:=aG.toks+1}) bz.isList a9 ?_ λfB k=>?_
   .show _+_*0<=_
    exact aL [_,_] 11503195161294351169166056109056 rfl abh
   .refine H Hi ?_
    exact dI _ _ (PK.trans (cC.of (ey _ _)))
 refine sk ?_
 have Qq:∀(ub:Option px->ni pt)(t':pt->aq->Prop)(t0:an->aq->Prop),az W.M dt.in1 (ub none) t' t0 C->az W.M dt.in1 ((if(0 !=0&&decide ((Y:Int) ≥ 0))=true then pure none else reNextFound {pattern:=.ref P,string:=.str aw bg,code:=code,text:=aw.cps,kind:=0,groups:=g,pos:=0,lim:=aw.cps.size} (st:Int).toNat I3)>>=ub) t' t0 C:=λub t' t0 B=>by
  refine aM ?_
  refine H (if_neg (by simp)) ?_
  unfold reNextFound
  refine H (lH _) ?_
  exact Av (ky:=false) k aI (by refine H a6 ?_;rfl) hk B
 have u3:∀(T:an->ni pt),(∀(fB:dN)(a5:aq),cC [ar] C a5->az W.M dt.in1 (T (.str R fB)) (λck s'=>match ck with
    | .done ao=>(match(xG ao:pw)with | .ok (.ret v)=>ai v s'| .ok _=>False| .error e=>aj e s')
    | .again fx=>fx.quiet=true/\lb W.M dt fx (λr s'=>match r with | .ok (.ret v)=>ai v s'| .ok _=>False| .error e=>aj e s') s') (λe s'=>aj e s') a5)->
   az W.M dt.in1 (if(ln:Int).toNat<aw.cps.size then do
     let D<-reSlice aw.cps 0 (ln:Int).toNat aw.cps.size
     ye ar (·.push D)
     let s0<-reSlice aw.cps 0 0 0
     let aw<-if ((<-Fz (.ref ar)).getD #[]).isEmpty then pure s0 else df (.builtin (if(0:Nat)==0 then "str.join"else "bytes.join")) [s0,.ref ar]
     T aw
    else do
     let s0<-reSlice aw.cps 0 0 0
     let aw<-if ((<-Fz (.ref ar)).getD #[]).isEmpty then pure s0 else df (.builtin (if(0:Nat)==0 then "str.join"else "bytes.join")) [s0,.ref ar]
     T aw) (λck s'=>match ck with
    | .done ao=>(match(xG ao:pw)with | .ok (.ret v)=>ai v s'| .ok _=>False| .error e=>aj e s')
    | .again fx=>fx.quiet=true/\lb W.M dt fx (λr s'=>match r with | .ok (.ret v)=>ai v s'| .ok _=>False| .error e=>aj e s') s') (λe s'=>aj e s') C:=λT dI=>by
  refine H (lH _) ?_
  have Pl:af.size=a7.length:=by simpa using km.length
  by_cases hd:ln<aw.cps.size
  .refine H (if_pos hd) ?_
   rw[if_pos hd]at i'
   refine bH lW λlz p0=>?_;clear lW
   have hex:(aw.cps.extract ln aw.cps.size).size<=aw.cps.size:=by refine H Kf ?_;exact bX [_,_,_] 168317090530624 rfl (hh _ _) (tC _ _)
   have hw:aw.cps.size<=100000:=aH
   refine aM (m:=reSlice aw.cps 0 ln aw.cps.size) (LQ ?_ (cu hex (cu hw (show 100000<=ol by refine H l_ ?_;exact e_ [] 313594649738803283216 rfl))))
   refine aM (v3 p0 rfl ?_ (by refine H Pl ?_;refine H l_ ?_;exact aL [_] 42911888147253966172480 rfl a_) (by refine H (Kg _) ?_;refine H Pl ?_;refine H l_ ?_;exact aL [_] 184305156202380564363360206918656 rfl a_))
   refine ck (af.push (.str ⟨aw.cps.extract ln aw.cps.size⟩ C.toks)) (a7++[⟨aw.cps.extract ln aw.cps.size⟩]) _ ?_ ⟨_,tG p0 λaR=>aR.push _⟩ ?_ i'.1 i'.2 ?_ ?_ T dI
   .exact⟨⟨_,_,rfl⟩,λb N ak e=>((pv C.heap ar (gw (·.push (.str ⟨aw.cps.extract ln aw.cps.size⟩ C.toks)))).2 b (by simpa using ak)).trans e⟩
   .refine H Et ?_
    exact afM km
   .simp;exact aL [_] 40923965600047424 rfl a_
   .refine H gA ?_;refine H Ti ?_
    have:(ob (λD:ay=>D.length) [⟨aw.cps.extract ln aw.cps.size⟩]).sum=(aw.cps.extract ln aw.cps.size).size:=by simp[vN]
    exact IU [_,_,_,_] 876889128671219976230155878538747431181249238016 rfl Ot this hex hw
  .refine H (if_neg hd) ?_
   rw[if_neg hd,A1]at i'
   exact ck af a7 C (cC.refl _ _) lW km i'.1 i'.2 (by exact aL [_] 40923965600112960 rfl a_) (by exact aL [_] 685193501408213828915520 rfl Ot) T dI
 have Nb:∀(fB:dN)(a5:aq),cC [ar] C a5->az W.M dt.in1 (if AT=true then do
    let a<-mO [.str R fB] (do vU [.str R fB, <-mkInt Y])
    ret a
   else ret (.str R fB)) (λck s'=>match ck with
    | .done ao=>(match(xG ao:pw)with | .ok (.ret v)=>ai v s'| .ok _=>False| .error e=>aj e s')
    | .again fx=>fx.quiet=true/\lb W.M dt fx (λr s'=>match r with | .ok (.ret v)=>ai v s'| .ok _=>False| .error e=>aj e s') s') (λe s'=>aj e s') a5:=λfB a5 k2=>by
  refine d8 (q fB a5 k2) λq1 fV=>?_
  cases AT with
  |false=>simp only[fi,if_false];exact b6 (q1 rfl)
  |true=>
   simp only[if_true]
   refine aM (ib (aM (FG (sl ?_ (by show 2<=_;refine H l_ ?_;exact e_ [] 4785074611495184 rfl)))))
   refine b6 (fV rfl _ _ (b5 (ey a5 _) (ip _ _)) (iC (eF _)) (f_ _ rfl))
 rcases abx with rfl|⟨rfl,D,t,rfl⟩
 .refine H (if_neg (by decide)) ?_
  refine Qq _ _ _ ?_
  exact u3 _ Nb
 .refine H (if_pos (by decide)) ?_
  refine aM (g4 (a:=()) rfl ?_)
  refine Qq _ _ _ ?_
  exact u3 _ Nb
end
end Mine.Tactic
namespace Mine.Tactic
open PySem.Sre PySem.Builtin.Re
section
variable{W:bj}{I:br}{C:aq}{aj:an->aq->Prop}{P aX:ah}{g:Nat}{code:Array Nat}
theorem R6(h6:ay)(l:List ay):mL h6 l=Fj h6 l:=Up _ _
theorem aeM{aw:ay}{bg:dN}{ao:ah}{ai:an->aq->Prop}(J:iP W.w P aX g code)(bQ:eg W C.heap)(aH:aw.length<=100000)(b2:C.TypeIs (.ref ao) "function")(sS:kJ code aw.cps g)(q:∀fB s',cS C s'->ai (.str aw fB) s'):az W.M I (df (.builtin "re.Pattern.sub") [.ref P,.ref ao,.str aw bg]) ai aj C:=by
 refine MT F.Ry (Al J bQ) F.Yf ?_ (F.Wt _ _ _)
 unfold fX.«re.Pattern.sub»
 unfold reSubstitute
 dsimp only
 refine aM (m:=reNamed _ _ _ _ _ _) (g4 (a:=[some (.ref ao),some (.str aw bg),none]) rfl ?_)
 dsimp only
 refine aM (b6 ?_)
 refine bH F.YD λaje aaj=>?_
 refine aM (v2 b2 aaj ?_)
 simp only[Option.isSome_some,if_true]
 refine aM (b6 ?_)
 refine aM (b6 ?_)
 dsimp only
 refine aM (ib (DY J bQ ?_))
 refine H (if_pos (by decide)) ?_
 refine aM (m:=reNotHeld _ _) ?_
 .unfold reNotHeld
  refine aM (U3 (T:="str") (b:=false) (tU _ _ _) F.sub_str_bytearray ?_)
  refine g4 (a:=()) rfl ?_
  refine aM (v0 ?_ (eL _))
  refine b6 ⟨tS F.Am _,?_⟩
  have a_:C.heap.get? C.heap.objs.size=none:=iC (eF _)
  refine RO (R:=aw) (Y:=0) (ln:=0) (st:=0) (a7:=[]) (af:=#[]) J (bQ.mono (dS.push _ _)) aH (.inl rfl) sS.run ⟨0,f_ _ rfl⟩ .nil (by decide) (by decide) ?_ λfB s' c2=>⟨λ_=>q fB s' (c2.keeps (ip C _) λb ak=>by simp at ak;subst ak;exact a_),λB=>by cases B⟩
  refine H (R6 _ _) ?_
  by_cases aQ:0<aw.cps.size
  .refine H (if_pos aQ) ?_
   refine⟨λB=>by simp at B,?_⟩
   show(⟨aw.cps.extract 0 aw.cps.size⟩:ay)=aw
   cases aw
   simp
  .refine H (if_neg aQ) ?_
   have e:aw=⟨#[]⟩:=by
    obtain⟨V⟩:=aw
    have:V.size=0:=by simpa using aQ
    rw[Array.size_eq_zero_iff]at this
    refine H this ?_;rfl
   exact⟨λ_=>e,e.symm⟩
noncomputable def xu(aw:Array Nat)(l:Nat)(pb:fO)(Wn:Option Bool):M:={code:=k7,text:=aw,lim:=aw.size,start:=l,lastStart:=aw.size,pc:=5,pos:=l,handed:=l,outermost:=true,marks:=Su (2*0) none,frames:=[{wait:=.nextStart,pc:=5,pos:=l,outermost:=true}],weight:=1,seen:=pb,answer:=Wn}
theorem agH{aw:Array Nat}{l:Nat}(aH:aw.size<=bc)(aN:1<=l)(cM:l<=aw.size):∃k bS,k<=2^60/\(i4 k7 aw 0 l aw.size false).runFor k=bS/\bS.outcome=some .failed:=by
 have cE:(Fh k7).1=0:=rfl
 have fK:¬((decide (l>aw.size)||decide (aw.size - l<(Fh k7).1))=true):=by refine H cE ?_;simp;exact aL [_,_] 2438202688 rfl cM
 have e:i4 k7 aw 0 l aw.size false=xu aw l (({}:fO).add 14) none:=by
  unfold i4
  dsimp only
  refine H (if_neg fK) ?_;refine H ((wi (B:=rfl)) _ _) ?_;refine H ((wh (B:=by show 0+1<=16777216;decide)) _ _) ?_
  rfl
 refine H e ?_
 have bV:(xu aw l (({}:fO).add 14) none).step=xu aw l (((({}:fO).add 14).add 6).add 43) (some false):=by
  refine H (JW _ rfl rfl (show(5:Nat)<22 by decide)) ?_;refine H (GQ _ rfl rfl) ?_;refine H (if_neg (by show¬(l==0)=true;simp;exact gR (aL [_] 9981790273553 rfl aN))) ?_
  rfl
 refine cm (PW (code:=k7) ⟨rfl,rfl,rfl,by decide⟩ (aw.size - l) (xu aw l (((({}:fO).add 14).add 6).add 43) (some false)) l ⟨rfl,rfl,rfl,⟨true,rfl⟩,rfl⟩ rfl) λbS uV N=>?_;obtain⟨L,aU,dB⟩:=uV
 refine⟨1+L,bS,?_,?_,N⟩
 .exact cu (KG (cu aU (EJ (vG 2 (cu (hh _ _) aH)) 2)) 1) (by decide)
 .refine H (vk _ _ _) ?_
  have a8:M.runFor 1 (xu aw l (({}:fO).add 14) none)=xu aw l (((({}:fO).add 14).add 6).add 43) (some false):=by
   rw[M.runFor,if_neg (by show¬(none:Option Sre.Outcome).isSome=true;simp)]
   exact bV
  refine H a8 ?_
  exact dB
theorem aeH{D:ay}{t:dN}:reLiteralCannotBeTurned (.str D t)=pure ():=rfl
theorem aeN{aw aJ:ay}{bg k6:dN}{l:Nat}{ai:an->aq->Prop}(J:iP W.w P aX 0 code)(bQ:eg W C.heap)(aH:aw.length<=100000)(aN:1<=l)(cM:l<aw.cps.size)(gh:me code aw.cps 0 [0,(l:Int)])(sS:∃k bS,k<=2^60/\(i4 code aw.cps 0 l aw.cps.size false).runFor k=bS/\bS.outcome=some .failed)(aE:aJ=⟨aw.cps.extract l aw.cps.size⟩)(q:∀a fB R9 s',cS C s'->C.heap.get? a=none->s'.heap.get? a=some {cls:=.type "tuple",data:=.seq #[.str aJ fB,.int 1 R9] 0}->ai (.ref a) s'):az W.M I (df (.builtin "re.Pattern.subn") [.ref P,.str "" k6,.str aw bg]) ai aj C:=by
 refine l6 gh.run λk1 gM uJ HV aE=>?_;refine fb aE λsU ajt C0=>?_;clear aE
 have abg:gM.start=0:=by
  have:((gM.start:Nat):Int)=0:=by unfold q3 at C0;exact(Ku C0).1
  lia
 have aan:gM.handed=l:=by
  have:((gM.handed:Nat):Int)=l:=by unfold q3 at C0;exact(Ku (Ku C0).2).1
  lia
 refine MT F.Rz (Al J bQ) F.Yg ?_ (F.Wu _ _ _)
 unfold fX.«re.Pattern.subn»
 unfold reSubstitute
 dsimp only
 refine aM (m:=reNamed _ _ _ _ _ _) (g4 (a:=[some (.str "" k6),some (.str aw bg),none]) rfl ?_)
 dsimp only
 refine aM (b6 ?_)
 refine aM (v2 (tU _ _ _) F.adk ?_)
 simp only[Bi,fi,if_false]
 refine aM (aM (g4 (a:=some ("":ay)) rfl (b6 ?_)))
 dsimp only
 refine aM (b6 ?_)
 refine H (if_pos (by decide+kernel)) ?_
 refine aM (b6 ?_)
 dsimp only
 refine aM (ib (DY J bQ ?_))
 refine H (if_neg (by decide)) ?_
 refine aM (v0 ?_ (eL _))
 refine b6 ⟨tS F.Am _,?_⟩
 have a_:C.heap.get? C.heap.objs.size=none:=iC (eF _)
 have lW:(C.heap.push {cls:=.type "list",data:=.seq ([]:List an).toArray}).get? C.heap.objs.size=some {cls:=.type "list",data:=.seq ([]:List an).toArray}:=f_ _ rfl
 generalize ajj:C.heap.objs.size=ar at a_ lW ⊢
 have HE:ia ""=⟨#[]⟩:=by decide+kernel
 generalize ia ""=f7 at HE ⊢
 have NT:eg W (C.heap.push {cls:=.type "list",data:=.seq ([]:List an).toArray}):=bQ.mono (dS.push _ _)
 have PU:cS C {C with heap:=C.heap.push {cls:=.type "list",data:=.seq ([]:List an).toArray}}:=ip C _
 generalize C.heap.push {cls:=.type "list",data:=.seq ([]:List an).toArray}=aA at lW NT PU ⊢
 refine tN F.Nd ?_
 refine H ((vK F.Am) _) ?_
 unfold fX.«re.Pattern.sub.loop»
 dsimp only
 refine aM (DY J NT ?_)
 dsimp only
 refine sk ?_
 refine H (if_pos (by decide)) ?_
 refine aM ?_
 refine H aeH ?_
 refine b6 ?_
 have afn:∀(a5:aq)(ub:Option px->ni pt)(t':pt->aq->Prop)(t0:an->aq->Prop),az W.M I.in1 (ub (some gM)) t' t0 a5->az W.M I.in1 ((if(0 !=0&&decide ((0:Int) ≥ 0))=true then pure none else reNextFound {pattern:=.ref P,string:=.str aw bg,code:=code,text:=aw.cps,kind:=0,groups:=0,pos:=0,lim:=aw.cps.size} (xI 0) false)>>=ub) t' t0 a5:=λa5 ub t' t0 B=>by
  refine aM ?_
  refine H (if_neg (by decide)) ?_
  unfold reNextFound
  exact Av (ky:=true) k1 HV (by refine H sU ?_;rfl) uJ B
 refine afn _ _ _ _ ?_
 dsimp only
 refine H abg ?_;refine H aan ?_;refine H (if_neg (by decide)) ?_;refine H (if_pos (by decide)) ?_
 refine aM (b6 ?_)
 refine H (if_pos (by rfl)) ?_
 refine aM (v3 lW rfl ?_ (eL _) (by refine H (Kg _) ?_;refine H l_ ?_;show 0+1<=_;exact e_ [] 1289519644473151554912512 rfl))
 refine b6 ⟨tS F.Am _,?_⟩
 have G':(aA.update ar (gw (·.push (.str f7 k6)))).PlainList ar #[.str f7 k6]:=⟨_,tG lW λaR=>aR.push (.str f7 k6)⟩
 have w5:cC [ar] {C with heap:=aA} {C with heap:=aA.update ar (gw (·.push (.str f7 k6)))}:=⟨⟨_,_,rfl⟩,λb N ak e=>((pv aA ar (gw (·.push (.str f7 k6)))).2 b (by simpa using ak)).trans e⟩
 have dr:cS C {C with heap:=aA.update ar (gw (·.push (.str f7 k6)))}:=w5.keeps PU λb ak=>by simp at ak;subst ak;exact a_
 have aap:(l==0)=false:=by simpa using by exact gR (aL [_] 9981790273553 rfl aN)
 refine H aap ?_
 refine RO (R:=aJ) (Y:=1) (ln:=l) (st:=l) (Ej:=0) (a7:=[f7]) (af:=#[.str f7 k6]) J (bQ.mono (ed dr)) aH (.inr ⟨rfl,_,_,rfl⟩) sS G' (.cons _ _ .nil) (by simp) (by refine H HE ?_;simp[vN]) ?_ λfB s' c2=>⟨λB=>(by cases B),λ_ a dz fF zB a6=>?_⟩
 .refine H (R6 _ _) ?_;refine H (if_pos cM) ?_
  refine⟨λB=>by simp at B,?_⟩
  show f7++(⟨#[]⟩:ay)++(⟨aw.cps.extract l aw.cps.size⟩:ay)=aJ
  refine H HE ?_;refine H aE ?_
  show(⟨(#[]++#[])++aw.cps.extract l aw.cps.size⟩:ay)=_
  simp
 .have jX:cS C s':=c2.keeps dr λb ak=>by simp at ak;subst ak;exact a_
  refine q a fB s'.toks dz (b5 jX fF) ?_ a6
  cases e:C.heap.get? a with
  |none=>rfl
  |some N=>have:=ed jX _ _ e;rw[zB]at this;cases this
end
end Mine.Tactic
namespace Mine.Tactic
open PySem.Builtin PySem.Builtin.Str
theorem aev{a4:Type}:∀(Y a:Nat)(ab:List a4),(Te a Y).filterMap (λL=>ab[L]?)=(ab.drop a).take Y:=by
 intro Y
 induction Y with
 |zero=>intro a ab;simp
 |succ Y bf=>
  intro a ab
  refine H Tg ?_;refine H sd ?_;refine H (bf _ _) ?_
  cases B:ab[a]? with
  |none=>
   have:ab.length<=a:=by simpa using B
   simp[sc this,sc (Tm this)]
  |some d=>
   refine bH (kB.mp B) λcM bw=>?_
   refine H (xL cM) ?_;refine H Tj ?_;refine H bw ?_;rfl
theorem B_{a Y:Nat}(B:a<=Y):max 0 (min (a:Int) Y)=a:=by
 refine H (Int.min_eq_left (vy.mpr B)) ?_
 exact Int.max_eq_right (fG a)
set_option tactic.hygienic true in
theorem JQ{D:ay}{l bq:Option Int}{a b:Nat}(aN:(l=some (a:Int))\/(l=none/\a=0))(be:(bq=some (b:Int))\/(bq=none/\b=D.length))(ik:a<=b)(ak:b<=D.length):pz D l bq=⟨D.cps.extract a b⟩:=by
 have e:strSliceIndices l bq 1 D.length=(e7 (b - a)).map (a+·):=by
  unfold strSliceIndices
  rcases aN with rfl|⟨rfl,rfl⟩<;>rcases be with rfl|⟨rfl,rfl⟩<;>simp only[show (1:Int)>0 by decide,if_true]
  .refine H (if_neg (q8.mpr (fG _))) ?_;refine H (if_neg (q8.mpr (fG _))) ?_;refine H (B_ (cu ik ak)) ?_;refine H (B_ ak) ?_
   exact Bx a b
  .refine H (if_neg (q8.mpr (fG _))) ?_;refine H (B_ ik) ?_
   exact Bx a D.length
  .refine H (if_neg (q8.mpr (fG _))) ?_;refine H (B_ ak) ?_
   exact Bx 0 b
  .exact Bx 0 D.length
 unfold pz
 refine H e ?_
 split
 .rename_i B
  simp only[beq_self_eq_true,Sz,gz,S3,beq_iff_eq]at B
  have h1:a=0:=by exact j1 [_,_,_,_] 165063109264972468200669506 rfl ak B (k_ (aL [_,_] 2438202688 rfl ik))
  have aA:b=D.cps.size:=by show b=D.length;exact j1 [_,_,_] 44724748358321672815938 rfl ak B (hh _ _)
  subst h1 aA
  cases D
  simp
 .congr 1
  apply sb.mp
  refine b' Tf ?_
  have:=aev (b - a) a D.cps.toList
  simp only[Sr]at this
  refine H this ?_;refine H Array.toList_extract ?_;rfl
section
variable{W:bj}{X:List ah}{I:br}{env:bB}{ae:bu}{C:aq}{aj:an->aq->Prop}
theorem Sk{bx:an}{a:ah}{ew gO:an}{l bq:Option Int}{D:ay}{jk:a'}{lo aU:Option a'}{J:bp}(r:aC (a0 X C) bx (.str D))(a9:C.heap.IsSliceOf a ew gO .none)(bz:mK ew l)(iv:mK gO bq)(aH:D.length<=bc):dZ W X I (ri jk (.Slice lo aU none J) bx (.ref a)) (.str (pz D l bq)) C:=⟨λai aj q=>by
 cases r with
 |str _ t=>
  have dP:∀(oY up:Option (Int×dN)),ew=partValue oY->gO=partValue up->oY.map (·.1)=l->up.map (·.1)=bq->az W.M I (ri jk (.Slice lo aU none J) (.str D t) (.ref a)) ai aj C:=λoY up a8 bm e3 gf=>by
   have ec:C.heap.IsSlice a oY up none:=by
    refine iA a9 λN h1 aA bn=>?_;clear a9
    exact⟨N,h1,aA,by refine H bn ?_;refine H a8 ?_;refine H bm ?_;rfl⟩
   refine og (tU _ _ _) F.slot_str_getitem.lookup (wpAny_getItem_str_slice (l:=oY) (u:=up) (st:=none) ec rfl (post_val_or_str ⟨?_,λfB k=>?_⟩)) (AI _ _ _ _ _ _)
   .subst e3 gf
    exact cu (Txt.slice_le D _ _) (jD aH)
   .subst e3 gf
    exact q _ _ (ey C k) (.str _ _)
  cases bz with
  |none=>cases iv with
   |none=>exact dP none none rfl rfl rfl rfl
   |int aB eE=>exact dP none (some (aB,eE)) rfl rfl rfl rfl
  |int L t1=>cases iv with
   |none=>exact dP (some (L,t1)) none rfl rfl rfl rfl
   |int aB eE=>exact dP (some (L,t1)) (some (aB,eE)) rfl rfl rfl rfl⟩
theorem VJ{v:a'}{lo aU:Option a'}{J al:bp}{l bq:Option Int}{D:ay}(bA:aY W I env ae v (.str D))(aN:jp W I env ae lo l)(be:jp W I env ae aU bq)(aH:D.length<=bc):aY W I env ae (.Subscript v (.Slice lo aU none J) al) (.str (pz D l bq)):=
 BL bA aN be nx λX C bx a ew gO hR aK r a9 bz iv n1=>by cases n1;exact Sk r a9 bz iv aH
structure ou (O:List (ah×bJ)) (a P:ah) (aw:ay) (gI:List Int):Prop where
 is:∃bg D am au T,O.lookup a=some {cls:=.type "re.Match",data:=.fields #[.str aw bg,.ref P,D,am,au,.ref T]}/\O.lookup T=some {cls:=.type "tuple",data:=.seq (gI.map dG).toArray 0}
theorem aP.w8{M:ce}{O:List (ah×bJ)}{Z:List ah}{av:aq}{a P:ah}{aw:ay}{gI:List Int}(ag:aP W env X ae M O Z av C)(m:ou O a P aw gI):∃bg,rp C.heap a P aw bg gI:=by
 refine pj m.is λbg D am au aE=>?_;refine cm aE λT a8 bm=>?_;clear aE
 exact⟨bg,⟨D,am,au,T,(ag.objs _ _ a8).1,(ag.objs _ _ bm).1⟩⟩
theorem aP.Mx{M:ce}{O:List (ah×bJ)}{Z:List ah}{av:aq}{a:ah}{N:bJ}(ag:aP W env X ae M O Z av C)(a6:C.heap.get? a=some N)(aN:N.cls≠ .type "list")(hd:∀b9 f2,N.data≠ .dict b9 f2):aP W env X ae M ((a,N)::O) Z av C:=
 {ag with
  objs:=λb dE e=>by
   rw[c1]at e
   cases ak:b==a with
   |false=>rw[ak]at e;exact ag.objs b dE e
   |true=>
    rw[ak]at e
    cases e
    have:=eq_of_beq ak
    subst this
    refine⟨a6,?_,λau=>?_⟩
    .cases q:M.lookup b with
     |none=>rfl
     |some ab=>
      refine fW (ag.el b ab q) λ_ _ af nR _=>?_;obtain⟨Y,e⟩:=nR
      rw[a6]at e
      cases e
      exact absurd rfl aN
    .refine pj ag.ns λm b0 b9 f2 aE=>?_;refine fb aE λe b7 _=>?_;clear aE
     rw[<-au,a6]at e
     cases e
     exact absurd b7 (hd b9 f2)}
theorem Sm{M:ce}{O:List (ah×bJ)}{Z:List ah}{av:aq}{D:ay}{bK al:bp}{a P:ah}{aw:ay}{gI:List Int}(m:ou O a P aw gI)(aS:ae.lookup D=some (.adr a))(ag:aP W env X ae M O Z av C):dZ W X I (b1 (.Attribute (.Name D bK) "string" al) env) (.str aw) C:=⟨λai aj q=>by
 refine Attribute_Name_ (nX aS ag λaG k1=>?_)
 refine bH ((ag.keeps k1).w8 m) λbg gr=>?_
 refine vu gr.is λa1 lT fK T a8 bm=>?_
 obtain⟨B,g,d,t,os⟩:=aG
 exact afH a8 rfl rfl rfl (q _ _ (b5 k1 (ey _ _)) (.str _ _))⟩
end
end Mine.Tactic
namespace Mine.Tactic
theorem cC.J1{C s':aq}(k:cC [] C s'):cS C s':=by
 obtain⟨⟨B,bg,rfl⟩,hk⟩:=k
 exact⟨B,bg,rfl,λb N e=>hk b N (λB=>nomatch B) e⟩
section
variable{W:bj}{I:br}{env:bB}{X:List ah}{ae:bu}{M:ce}{O:List (ah×bJ)}{Z:List ah}{av C:aq}{aj:an->aq->Prop}
theorem ahp{l r:a'}{al:bp}{D am:ay}(aN:dZ W X I (b1 l env) (.str D) C)(aE:∀aG,cS C aG->dZ W X I (b1 r env) (.str am) aG)(aH:D.length+am.length<=bc):dZ W X I (b1 (.BinOp l .Add r al) env) (.str (D++am)) C:=⟨λai aj q=>by
 with_reducible refine LJ (aN.go _ _ λbx aG k1 aT=>(aE aG k1).go _ _ λbE a5 k2 bb=>?_)
 refine aC.eS aT λ_=>?_;refine aC.eS bb λ_=>?_
 exact(Sf aH).go _ _ λv s' k r=>q v s' (b5 (b5 k1 k2) k) r⟩
theorem Sj{v:a'}{lo aU:Option a'}{J al:bp}{l bq:Option Int}{D:ay}(ag:aP W env X ae M O Z av C)(bA:dZ W X I (b1 v env) (.str D) C)(aN:jp W I env ae lo l)(be:jp W I env ae aU bq)(aH:D.length<=bc):dZ W X I (b1 (.Subscript v (.Slice lo aU none J) al) env) (.str (pz D l bq)) C:=⟨λai aj q=>by
 have aK:=ag.c6
 have G:=ag.G
 with_reducible refine vI (bA.go _ _ λbx aG k1 aT=>?_)
 show az _ _ (ro (rn lo env)>>=λl=>mO [l] (ro (rn aU env))>>=λbq=>mO [l,bq] (ro (rn none env))>>=λC=>Fy "slice" [l,bq,C]) _ _ _
 with_reducible refine aM (aN.on X aG (aK.mono k1) (G.mono (cg k1)) _ _ λew a5 k2 cY=>aM (ib (be.on X a5 (aK.mono (b5 k1 k2)) (G.mono (cg (b5 k1 k2))) _ _ λgO bv dr eM=>aM (ib ((nx (W:=W) (I:=I) (env:=env) (ae:=ae)).on X bv (aK.mono (b5 (b5 k1 k2) dr)) (G.mono (cg (b5 (b5 k1 k2) dr))) _ _ λhR c3 fF eP=>?_)))))
 show az _ _ (Lz (.type "slice") (.fields #[ew,gO,hR])) _ _ _
 with_reducible refine tX ?_
 cases eP
 exact(Sk (aT.mono (cg (b5 (b5 (b5 k2 dr) fF) (ip c3 _)))) (Lc ..) cY eM aH).go _ _ λv s' k r=>q v s' (b5 (b5 (b5 (b5 (b5 k1 k2) dr) fF) (ip c3 _)) k) r⟩
theorem abW{e:a'}{al:bp}{aJ:List cT}{d:ax}{ai:fj->aq->Prop}(ag:aP W env X ae M O Z av C)(bw:dZ W X I (b1 e env) d C)(q:∀v s',aP W env X ae M O Z av s'->aC (a0 X s') v d->ai (.ret v) s'):az W.M I (bY (.Return (some e) al::aJ) env) ai aj C:=by
 with_reducible refine eH (tV (bw.go _ _ λv s' k r=>?_))
 exact q v s' (ag.keeps k) r
theorem Ix{D am:ay}{bK py ku al:bp}{aB:Nat}{e:a'}{aJ:List cT}{cQ dU:ax}{ai:fj->aq->Prop}(bd:I.handled=none)(ag:aP W env X ae M O Z av C)(bw:dZ W X I (b1 e env) (.tuple [cQ,dU]) C)(next:∀s',aP W env X ((am,dU)::(D,cQ)::ae) M O Z av s'->az W.M I (bY aJ env) ai aj s')(aS:autoParam (env.kindOf D=some .local) tR)(mq:autoParam ((D==("__debug__":ay))=false) tD)(bZ:autoParam (env.kindOf am=some .local) tR)(mr:autoParam ((am==("__debug__":ay))=false) tD)(a9:autoParam (UT [.Tuple [.Name D bK,.Name am py] aB ku] e al.line env=pure false) tR)(e5:autoParam (US [.Tuple [.Name D bK,.Name am py] aB ku] e env=pure none) tR):az W.M I (bY (.Assign [.Tuple [.Name D bK,.Name am py] aB ku] e al::aJ) env) ai aj C:=by
 refine eH (KV (bw.go _ _ λv aG k1 aT=>?_) a9 e5)
 exact(F5 bd aS mq bZ mr).go _ _ _ _ _ _ _ _ _ _ (ag.keeps k1) aT λa5 bN=>next a5 bN
theorem P_{D:ay}{bK dn al cB:bp}{k1:_}{L:Int}{name:ay}{id:String}{a P:ah}{aw:ay}{gI:List Int}{ai:an->aq->Prop}(ag:aP W env X ae M O Z av C)(m:ou O a P aw gI)(aS:ae.lookup D=some (.adr a))(a9:qs "re.Match" name id)(cp:np (.builtin id)=pure (.type "method_descriptor"))(q:∀s' t,cS C s'->az W.M I (df (.builtin id) [.ref a,.int L t]) ai aj s')(fS:autoParam ((dn.endLine==al.line)=true) tR)(fR:autoParam (jK (.Name D bK) name env (b1 (.Name D bK) env)=b1 (.Name D bK) env) tR):az W.M I (b1 (.Call (.Attribute (.Name D bK) name dn) [.Constant (.int L) k1 cB] [] al) env) ai aj C:=by
 refine xX fR rfl fS (nX aS ag λaG k1=>?_)
 refine bH ((ag.keeps k1).w8 m) λbg gr=>?_
 refine⟨"re.Match",id,F.adT,a9,cp,Du gr,λb e=>?_,?_⟩
 .cases e
  refine vu gr.is λ_ _ _ _ a8 _=>?_
  exact⟨_,a8,rfl⟩
 .refine jQ (λ_ e=>nomatch e) rfl (k' (g0 (LK (jJ ?_))))
  exact q _ _ (b5 k1 (ey aG _))
theorem ahU{D:ay}{bK dn al cB:bp}{k1:_}{a P:ah}{aw:ay}{b e:Nat}{r:List Int}(ag:aP W env X ae M O Z av C)(m:ou O a P aw ((b:Int)::(e:Int)::r))(aS:ae.lookup D=some (.adr a))(fS:autoParam ((dn.endLine==al.line)=true) tR)(fR:autoParam (jK (.Name D bK) "span" env (b1 (.Name D bK) env)=b1 (.Name D bK) env) tR):dZ W X I (b1 (.Call (.Attribute (.Name D bK) "span" dn) [.Constant (.int 0) k1 cB] [] al) env) (.tuple [.int b,.int e]) C:=⟨λai aj q=>by
 refine P_ ag m aS F.Rw F.agS (λs' t k=>?_) fS fR
 obtain⟨bg,gr⟩:=(ag.keeps k).w8 m
 exact(aeL (ag.keeps k).c6 gr).go _ _ λv a5 k2 bb=>q v a5 (b5 k k2) bb⟩
theorem J_{D:ay}{bK dn al cB:bp}{k1:_}{a P:ah}{aw:ay}{am au b e:Nat}(ag:aP W env X ae M O Z av C)(m:ou O a P aw [(am:Int),(au:Int),(b:Int),(e:Int)])(aS:ae.lookup D=some (.adr a))(aH:aw.length<=bc)(fS:autoParam ((dn.endLine==al.line)=true) tR)(fR:autoParam (jK (.Name D bK) "group" env (b1 (.Name D bK) env)=b1 (.Name D bK) env) tR):dZ W X I (b1 (.Call (.Attribute (.Name D bK) "group" dn) [.Constant (.int 1) k1 cB] [] al) env) (.str ⟨aw.cps.extract b e⟩) C:=⟨λai aj q=>by
 refine P_ ag m aS F.Rv F.agR (λs' t k=>?_) fS fR
 refine bH ((ag.keeps k).w8 m) λbg gr=>?_
 exact aeG gr aH (q _ _ (b5 k (ey s' _)) (.str _ _))⟩
end
theorem GD(W:bj):hC W 50 (hm W.w 50) (bP W.w 50) (dT W.w 50) ["match"]:=by
 refine⟨rfl,rfl,rfl,rfl,rfl,rfl,rfl,rfl,rfl,rfl,rfl,by decide,by decide,λaf B=>?_⟩
 refine bH (oV B) λa dC=>?_;subst dC
 kernel_rfl
section
variable{W:bj}{I:br}{X:List ah}{C:aq}{ai:an->aq->Prop}{aj:an->aq->Prop}
theorem P'{B:bo}{a P:ah}{aw:ay}{bg:dN}{gI:List Int}(m:rp B a P aw bg gI):∃N T b0,ou [(a,N),(T,b0)] a P aw gI/\B.get? a=some N/\B.get? T=some b0/\a≠T/\N.cls= .type "re.Match"/\b0.cls= .type "tuple"/\(∃af,N.data= .fields af)/\(∃af Y,b0.data= .seq af Y):=by
 refine vu m.is λD am au T a8 bm=>?_
 have cx:a≠T:=λq=>by subst q;rw[a8]at bm;simp at bm
 refine⟨_,T,_,⟨bg,D,am,au,T,by simp,?_⟩,a8,bm,cx,rfl,rfl,⟨_,rfl⟩,⟨_,_,rfl⟩⟩
 refine H c1 ?_;refine H (show(T==a)=false by simpa using iB cx) ?_
 simp
theorem Xi{a P:ah}{aw:ay}{bg:dN}{e:Nat}{r:List Int}(bd:I.handled=none)(bk:I.depth<d3)(aK:c0 X C)(bQ:eg W (a0 X C))(aI:rp C.heap a P aw bg (((0:Nat):Int)::(e:Int)::r))(bw:e<=aw.cps.size)(aH:aw.length<=bc){af:List an}(aV:a3 (a0 X C) af [.adr a])(q:∀v s',cS C s'->aC (a0 X s') v (.str ⟨aw.cps.extract e aw.cps.size⟩)->ai v s'):az W.M I (df (.ref 50) af) ai aj C:=by
 refine n' (P' aI) λN T b0 mB aE=>?_;refine q7 aE λa8 bm cx _=>?_;clear aE
 refine m7 (M:=[]) (O:=[(a,N),(T,b0)]) (Z:=[]) (GD W) rfl bk aK bQ aV (λb ak=>nomatch ak) (λ_ _ e=>nomatch e) (λb dE ii=>?_) λar aG ag=>?_
 .rw[c1]at ii
  cases B:b==a with
  |true=>rw[B]at ii;cases ii;refine H (eq_of_beq B) ?_;exact⟨a8,rfl⟩
  |false=>
   rw[B]at ii
   rw[c1]at ii
   cases aA:b==T with
   |true=>rw[aA]at ii;cases ii;refine H (eq_of_beq aA) ?_;exact⟨bm,rfl⟩
   |false=>rw[aA]at ii;cases ii
 have cA:(I.deeper (callEnvC (bP W.w 50) ar 50)).handled=none:=bd
 generalize I.deeper (callEnvC (bP W.w 50) ar 50)=dH at cA ⊢
 refine Ix cA ag (ahU ag mB rfl) λa5 bN=>?_
 refine abW bN (d:=.str ⟨aw.cps.extract e aw.cps.size⟩) ?_ λv bv bR e0=>q v bv bR.keep.J1 e0
 have h1:pz aw none (some ((0:Nat):Int))=⟨aw.cps.extract 0 0⟩:=JQ (.inr ⟨rfl,rfl⟩) (.inl rfl) (eF _) (eL _)
 have aA:pz aw (some (e:Int)) none=⟨aw.cps.extract e aw.cps.size⟩:=JQ (.inl rfl) (.inr ⟨rfl,rfl⟩) bw (eF _)
 have bn:(pz aw none (some ((0:Nat):Int)))++(pz aw (some (e:Int)) none)=(⟨aw.cps.extract e aw.cps.size⟩:ay):=by
  refine H h1 ?_;refine H aA ?_
  show(⟨aw.cps.extract 0 0++aw.cps.extract e aw.cps.size⟩:ay)=_
  simp
 refine b' bn ?_
 refine ahp (Sj bN (Sm mB rfl bN) nx (ny (aW rfl)) aH) (λbv dr=>Sj (bN.keeps dr) (Sm mB rfl (bN.keeps dr)) (ny (aW rfl)) nx aH) ?_
 refine H h1 ?_;refine H aA ?_
 simp only[vN,Kf]
 have:aw.cps.size<=bc:=aH
 exact P1 [_,_,_,_,_] 3591783357414773809594436429030459555066791607751680 rfl this (hh _ _) (hh _ _) (tC _ _) (tC _ _)
end
section
variable{W:bj}{I:br}{env:bB}{X:List ah}{ae:bu}{M:ce}{O:List (ah×bJ)}{Z:List ah}{av C:aq}{ai:fj->aq->Prop}{aj:an->aq->Prop}
theorem L6{N:a'}{dn al:bp}{D:ay}(B:aY W I env ae N (.str D))(aH:D.length<=bc)(fR:autoParam (jK N "lstrip" env (b1 N env)=b1 N env) tR)(fS:autoParam ((dn.endLine==al.line)=true) tR):aY W I env ae (.Call (.Attribute N "lstrip" dn) [] [] al) (.str (vO D)):=⟨λX C aK G=>⟨λai aj q=>by
 refine E9 fR fS ((B.on X C aK G).go _ _ λbx aG k1 aT=>?_)
 refine aC.eS aT λ_=>?_
 exact SB.lstrip (λfB k=>q _ _ (b5 k1 (ey aG _)) (.str _ _)) (jD aH)⟩⟩
theorem VI{N:a'}{dn al:bp}{D:ay}(B:aY W I env ae N (.str D))(aH:D.length<=bc)(fR:autoParam (jK N "rstrip" env (b1 N env)=b1 N env) tR)(fS:autoParam ((dn.endLine==al.line)=true) tR):aY W I env ae (.Call (.Attribute N "rstrip" dn) [] [] al) (.str (Ll D)):=⟨λX C aK G=>⟨λai aj q=>by
 refine E9 fR fS ((B.on X C aK G).go _ _ λbx aG k1 aT=>?_)
 refine aC.eS aT λ_=>?_
 exact SB.rstrip (λfB k=>q _ _ (b5 k1 (ey aG _)) (.str _ _)) (jD aH)⟩⟩
theorem VK{N e:a'}{dn al:bp}{D am:ay}(B:aY W I env ae N (.str D))(bw:aY W I env ae e (.str am))(bV:autoParam (eQ e=false) tR)(fR:autoParam (jK N "startswith" env (b1 N env)=b1 N env) tR)(fS:autoParam ((dn.endLine==al.line)=true) tR):aY W I env ae (.Call (.Attribute N "startswith" dn) [e] [] al) (.bool (Fk D am)):=⟨λX C aK G=>⟨λai aj q=>by
 refine xX fR (h8 bV []) fS ((B.on X C aK G).go _ _ λbx aG k1 aT=>?_)
 refine aC.eS aT λ_=>?_
 refine SB.startswith ((bw.on X aG (aK.mono k1) (G.mono (cg k1))).go _ _ λbE a5 k2 bb=>?_)
 refine aC.eS bb λ_=>?_
 exact⟨_,_,rfl,q _ _ (b5 k1 k2) (.bool _)⟩⟩⟩
theorem wc{e:a'}{b:Bool}(B:aY W I env ae e (.bool b))(bw:autoParam (∀lG,tQ e env lG=(do let v<-lG;sj e.pos;mO [v] (tT v))) tI):ej W I env ae e b:=⟨λX C aK G=>⟨λai aj q=>by
 with_reducible refine Bk ((B.on X C aK G).go _ _ λv aG k1 aT=>?_) (bw _)
 refine aC.eO aT ?_
 exact By (q _ k1)⟩⟩
theorem wd{e:a'}(B:aY W I env ae e .none)(bw:autoParam (∀lG,tQ e env lG=(do let v<-lG;sj e.pos;mO [v] (tT v))) tI):ej W I env ae e false:=⟨λX C aK G=>⟨λai aj q=>by
 with_reducible refine Bk ((B.on X C aK G).go _ _ λv aG k1 aT=>?_) (bw _)
 refine aC.eU aT ?_
 exact truthy_none (q _ k1)⟩⟩
open PySem.Builtin PySem.Builtin.Str in
theorem P6{V:Nat}{r:List Nat}(B:ai3 V=false):vO ⟨(V::r).toArray⟩=⟨(V::r).toArray⟩:=by
 unfold vO Txt.stripBy
 rw[if_pos]
 unfold stripSame stripLo stripHi
 simp[List.takeWhile_cons,B,vN]
theorem aP.freeze{am:ay}{P:ah}{a7:List ax}(ag:aP W env X ae M O Z av C)(bZ:ae.lookup am=some (.adr P))(cL:M.lookup P=some a7)(oI:P∉Z):aP W env (X.filter (· !=P)) ((am,.cf P a7)::ae) (M.filter λJ=>J.1 !=P) O Z av C:=by
 have fg:∀a∈X.filter (· !=P),a∈X:=λa B=>(lJ.mp B).1
 have k:∀B:bo,dS (dJ B X) (dJ B (X.filter (· !=P))):=λB=>jZ fg
 have sL:∀aa ab,(M.filter λJ=>J.1 !=P).lookup aa=some ab->aa≠P/\M.lookup aa=some ab:=by
  clear ag cL
  intro aa ab
  induction M with
  |nil=>intro e;cases e
  |cons J r bf=>
   obtain⟨V,DD⟩:=J
   intro e
   rw[qm]at e
   by_cases aO:V=P
   .subst aO
    simp only[bne_self_eq_false,fi,if_false]at e
    refine d8 (bf e) λh1 aA=>?_
    refine⟨h1,?_⟩
    refine H c1 ?_;refine H (show(aa==V)=false by simpa using h1) ?_
    exact aA
   .simp only[show (V !=P)=true by simpa using aO,if_true]at e
    rw[c1]at e ⊢
    cases ak:aa==V with
    |true=>rw[ak]at e;refine H (eq_of_beq ak) ?_;exact⟨aO,e⟩
    |false=>rw[ak]at e;exact bf e
 refine fW (ag.el P a7 cL) λCv _ af bz aV=>?_
 refine⟨λa ha=>ag.c6 a (fg a ha),⟨ag.G.base.mono (k _),ag.G.kind,ag.G.globals,ag.G.builtins,λD d e=>?_⟩,ag.ns,ag.new,λB=>ag.iZ (fg _ B),ag.cells,λaa ab e=>?_,λa N e=>?_,ag.keep,ag.mj.mono (k _),λb ak=>lJ.mpr ⟨ag.hS b ak,by simpa using(λau:b=P=>oI (au▸ak))⟩⟩
 .rw[c1]at e
  cases aS:D==am with
  |true=>
   rw[aS]at e
   cases e
   have:=eq_of_beq aS
   subst this
   refine jl (ag.G.vars D _ bZ) λq v r b=>?_
   obtain rfl:=r.Qy
   obtain⟨Y,e⟩:=bz
   exact⟨q,_,.cf ⟨Y,ei _ e (by simp)⟩ (aV.mono (k _)),b.mono (k _)⟩
  |false=>
   rw[aS]at e
   refine jl (ag.G.vars D d e) λq v r b=>?_
   exact⟨q,v,r.mono (k _),b.mono (k _)⟩
 .refine d8 (sL aa ab e) λh1 aA=>?_
  refine fW (ag.el aa ab aA) λa b af bz aV=>?_
  exact⟨lJ.mpr ⟨a,by simpa using h1⟩,b,af,bz,aV.mono (k _)⟩
 .refine fb (ag.objs a N e) λa1 a2 fJ=>?_
  refine⟨a1,?_,fJ⟩
  cases q:(M.filter λJ=>J.1 !=P).lookup a with
  |none=>rfl
  |some ab=>rw[(sL a ab q).2]at a2;cases a2
end
end Mine.Tactic
namespace Mine.Tactic
open PySem.Builtin.Re
noncomputable def f'(l3 lU:Nat)(a7:Array an):Prop:=a7=#[]\/∃fx,a7=#[dG l3,dG lU,.ref fx]
structure pK (O:List (ah×bJ)) (P:ah) (l3 lU:Nat):Prop where
 is:∃a7,O.lookup P=some (cb a7)/\f' l3 lU a7
section
variable{W:bj}{I:br}{env:bB}{X:List ah}{ae:bu}{M:ce}{O:List (ah×bJ)}{Z:List ah}{av C:aq}{aj:an->aq->Prop}
theorem MO{B:bo}{P:ah}{N:bJ}(dt:eg W B)(cL:B.get? P=some N)(aO:N.cls= .none):B.BuiltinsAt W.o0 P:=by
 refine l6 dt.bmain λug dE lT qB aE=>?_;refine q7 aE λwj yN WA Gc=>?_;clear aE
 refine⟨ug,dE,lT,qB,λq=>?_,λq=>?_,wj,yN,WA,Gc⟩
 .refine oa dt.g λb0 b9 f2 e hd _=>?_
  rw[<-q,wj]at e;cases e;rw[hd]at Gc;cases Gc
 .rw[q,cL]at wj;cases wj;rw[aO]at yN;cases yN
theorem Y2{B:bo}{P:ah}{N:bJ}{af:Array an}(dt:eg W B)(cL:B.get? P=some N)(hd:N.data= .fields af):dh≠P:=λq=>by
 refine oa dt.g λb0 b9 f2 e b7 _=>?_
 rw[q,cL]at e;cases e;rw[hd]at b7;cases b7
theorem ahz{s_:Arguments}{body:a'}{bC:jn}{al:bp}{V P:ah}{l3 lU:Nat}{ai:an->aq->Prop}(ag:aP W env X ae M O Z av C)(T:pK O P l3 lU)(aO:env.code= .ref V)(CC:(V,P)∈[((93:ah),(89:ah)),(76,72)])(Cv:P∈X)(Hh:P∈Z)(aN:al.line=l3)(sH:al.col=lU)(jS:rl bC env=pure [])(HA:UF s_ env=([],[]))(q:∀ao s' cI,aP W env X ae M cI Z av s'->pK cI P l3 lU->(∀b N,b≠P->O.lookup b=some N->cI.lookup b=some N)->s'.TypeIs (.ref ao) "function"->cC [P] C s'->ai (.ref ao) s'):az W.M I (b1 (.Lambda s_ body bC al) env) ai aj C:=by
 refine cm T.is λa7 km cp=>?_
 refine fb (ag.objs P _ km) λcL gF cx=>?_
 have dt:eg W C.heap:=ag.G.base.mono cP
 have uH:env.globals=dh:=ag.G.globals
 refine kla_eval HA ?_
 have ck:∀(aD:bo)(bg:dN)(jh:Array an)(dE:bJ),Bn P C.heap aD->aD.get? P=some (cb jh)->f' l3 lU jh->dE.cls= .type "function"->dE.isFreed=false->ai (.ref aD.objs.size) {C with heap:=aD.push dE,toks:=bg}:=λaD bg jh dE aS p1 uU Hw de=>by
  have nQ:Bn P C.heap (aD.push dE):=aS.push _
  refine q _ _ _ (ag.DC km Cv (.inl Hh) nQ (eu _ p1)) ⟨jh,by simp,uU⟩ (λb N ak e=>?_) ⟨_,f_ _ de,Hw⟩ ⟨⟨_,_,rfl⟩,λb N ak e=>nQ b N (by simpa using ak) e⟩
  refine H c1 ?_;refine H (show(b==P)=false by simpa using ak) ?_
  exact e
 rcases cp with rfl|⟨fx,rfl⟩
 .refine kla_makeFunction (mg:=W.o0) (ps:=#[]) jS uH dt.g aO (dt.heads _ CC) cL trivial rfl (Y2 dt cL rfl) (MO dt cL rfl) λfx XG aD bg aS _ _ _ p1=>?_
  refine ck aD bg _ _ aS p1 (.inr ⟨fx,?_⟩) rfl rfl
  refine H aN ?_;refine H sH ?_
  rfl
 .refine kla_makeFunctionHit (mg:=W.o0) (ps:=#[dG l3,dG lU,.ref fx]) (cv:=.ref fx) jS uH dt.g aO (dt.heads _ CC) cL trivial ?_ (MO dt cL rfl) λXG aD bg hk _=>?_
  .show(if((l3:Int)==(al.line:Int)&&(lU:Int)==(al.col:Int))=true then _ else _)=_
   refine H aN ?_;refine H sH ?_
   simp
  .exact ck aD bg _ _ (λb N _ e=>hk b N e) (hk _ _ cL) (.inr ⟨fx,rfl⟩) rfl rfl
theorem QN{G:ay}{fy dn al:bp}{name:ay}{id:String}{P aX:ah}{g:Nat}{code:Array Nat}{e:a'}{ai:an->aq->Prop}(ag:aP W env X ae M O Z av C)(J:iP W.w P aX g code)(bA:dF (cZ W.w) dh G=some (some (.ref P)))(a9:qs "re.Pattern" name id)(cp:np (.builtin id)=pure (.type "method_descriptor"))(B:az W.M I (b1 e env) (λv s'=>az W.M I (df (.builtin id) [.ref P,v]) ai aj s') aj C)(hk:autoParam (env.kindOf G=some .globalImplicit) tR)(bV:autoParam (eQ e=false) tR)(fS:autoParam ((dn.endLine==al.line)=true) tR)(fR:autoParam (jK (.Name G fy) name env (b1 (.Name G fy) env)=b1 (.Name G fy) env) tR)(hd:autoParam ((G==("__debug__":ay))=false) tD):az W.M I (b1 (.Call (.Attribute (.Name G fy) name dn) [e] [] al) env) ai aj C:=by
 refine jF J.pat λa7 gU aF=>?_
 have cL:=(ag.G.base.mono (cP (B:=C.heap) (X:=X))).K _ _ aF
 refine xX fR (h8 bV []) fS (o2 ag.G hk bA ?_ hd)
 refine⟨"re.Pattern",id,F.Jk,a9,cp,⟨_,cL,rfl⟩,λb e=>?_,?_⟩
 .cases e
  exact⟨_,cL,rfl⟩
 .exact jQ (λ_ e=>nomatch e) rfl (k' (g0 (fe B (λv aG h1=>jJ h1) λ_ _ D=>D)))
theorem QO{G:ay}{fy dn al:bp}{name:ay}{id:String}{P aX:ah}{g:Nat}{code:Array Nat}{a8 bm:a'}{ai:an->aq->Prop}(ag:aP W env X ae M O Z av C)(J:iP W.w P aX g code)(bA:dF (cZ W.w) dh G=some (some (.ref P)))(a9:qs "re.Pattern" name id)(cp:np (.builtin id)=pure (.type "method_descriptor"))(B:az W.M I (b1 a8 env) (λv s'=>az W.M I (b1 bm env) (λbE a5=>az W.M I (df (.builtin id) [.ref P,v,bE]) ai aj a5) aj s') aj C)(hk:autoParam (env.kindOf G=some .globalImplicit) tR)(bV:autoParam (eV [a8,bm] env=[(false,b1 a8 env),(false,b1 bm env)]) tR)(fS:autoParam ((dn.endLine==al.line)=true) tR)(fR:autoParam (jK (.Name G fy) name env (b1 (.Name G fy) env)=b1 (.Name G fy) env) tR)(hd:autoParam ((G==("__debug__":ay))=false) tD):az W.M I (b1 (.Call (.Attribute (.Name G fy) name dn) [a8,bm] [] al) env) ai aj C:=by
 refine jF J.pat λa7 gU aF=>?_
 have cL:=(ag.G.base.mono (cP (B:=C.heap) (X:=X))).K _ _ aF
 refine Call_method2 fR bV fS (o2 ag.G hk bA ?_ hd)
 refine⟨"re.Pattern",id,F.Jk,a9,cp,⟨_,cL,rfl⟩,λb e=>?_,?_⟩
 .cases e
  exact⟨_,cL,rfl⟩
 .exact jQ (λ_ e=>nomatch e) rfl (k' (g0 (fe B (λv aG h1=>g0 (fe h1 (λbE a5 aA=>jJ aA) λ_ _ D=>D)) λ_ _ D=>D)))
theorem Iw{G D t:ay}{bK fy ku dn al J:bp}{aJ:List cT}{P aX:ah}{g:Nat}{code:Array Nat}{aw:ay}{gI:List Int}{ai:fj->aq->Prop}(ag:aP W env X ae M O Z av C)(kZ:iP W.w P aX g code)(bA:dF (cZ W.w) dh G=some (some (.ref P)))(cp:ae.lookup t=some (.str aw))(gh:me code aw.cps g gI)(aH:aw.length<=bc)(fL:g<=10)(next:∀a s' cI,aP W env X ((D,.adr a)::ae) M cI Z av s'->ou cI a P aw gI->(∀b N,O.lookup b=some N->cI.lookup b=some N)->az W.M I (bY aJ env) ai aj s')(hk:autoParam (env.kindOf G=some .globalImplicit) tR)(fS:autoParam ((dn.endLine==al.line)=true) tR)(fR:autoParam (jK (.Name G fy) "search" env (b1 (.Name G fy) env)=b1 (.Name G fy) env) tR)(hd:autoParam ((G==("__debug__":ay))=false) tD)(aS:autoParam (env.kindOf D=some .local) tR)(mq:autoParam ((D==("__debug__":ay))=false) tD)(a9:autoParam (iE (.Call (.Attribute (.Name G fy) "search" dn) [.Name t ku] [] al) (some (.Name D bK)) J.line env=pure false) tR):az W.M I (bY (.Assign [.Name D bK] (.Call (.Attribute (.Name G fy) "search" dn) [.Name t ku] [] al) J::aJ) env) ai aj C:=by
 refine l6 gh.run λk bS hJ aI aE=>?_;refine fb aE λa6 qM kP=>?_;clear aE
 refine eH (lN (QN ag kZ bA F.D4 F.R8 (((aW cp).on X C ag.c6 ag.G).go _ _ λv aG k1 aT=>?_) hk rfl fS fR hd) a9)
 refine aC.eS aT λ_=>?_
 have bG:=ag.keeps k1
 refine aeK kZ (bG.G.base.mono cP) aH k aI a6 hJ qM fL λa a5 k2 zB CP=>?_
 rw[kP]at CP
 have bN:=bG.keeps k2
 refine n' (P' CP) λN T b0 mB aE=>?_;refine xz aE λa8 bm cx Z3 aE=>?_;refine fb aE λkh abF abD=>?_;clear aE;obtain⟨af,Z7⟩:=abF;obtain⟨ek,Y,hu⟩:=abD
 have aaM:O.lookup a=none:=by
  cases q:O.lookup a with
  |none=>rfl
  |some dE=>have:=(bG.objs a dE q).1;rw[zB]at this;cases this
 have bR:=(bN.Mx bm (by refine H kh ?_;simp) (by refine H hu ?_;simp)).Mx a8 (by refine H Z3 ?_;simp) (by refine H Z7 ?_;simp)
 have gq:∀b dE,O.lookup b=some dE->((a,N)::(T,b0)::O).lookup b=some dE:=λb dE e=>by
  refine H c1 ?_
  cases ak:b==a with
  |true=>rw[eq_of_beq ak,aaM]at e;cases e
  |false=>
   dsimp only
   refine H c1 ?_
   cases ls:b==T with
   |true=>
    have ZY:=eq_of_beq ls
    subst ZY
    have h1:=(bN.objs b dE e).1
    rw[bm]at h1
    exact h1
   |false=>exact e
 refine bR.store aS mq (.adr a) λbv cc=>next a bv _ cc ?_ gq
 refine pj mB.is λR1 f9 ahk tu aE=>?_;refine cm aE λjq fE gT=>?_;clear aE
 refine⟨R1,f9,ahk,tu,jq,?_,?_⟩
 .rw[c1]at fE ⊢
  simp only[beq_self_eq_true]at fE ⊢
  exact fE
 .rw[c1]at gT ⊢
  cases ak:jq==a with
  |true=>rw[ak]at gT;exact gT
  |false=>
   rw[ak]at gT
   dsimp only at gT ⊢
   rw[c1]at gT ⊢
   cases ls:jq==T with
   |true=>rw[ls]at gT;exact gT
   |false=>rw[ls]at gT;cases gT
theorem zZ{G D t:ay}{bK fy ku dn al J:bp}{aJ:List cT}{P aX:ah}{g:Nat}{code:Array Nat}{aw:ay}{ai:fj->aq->Prop}(ag:aP W env X ae M O Z av C)(kZ:iP W.w P aX g code)(bA:dF (cZ W.w) dh G=some (some (.ref P)))(cp:ae.lookup t=some (.str aw))(IY:kJ code aw.cps g)(aH:aw.length<=bc)(next:∀s',aP W env X ((D,.none)::ae) M O Z av s'->az W.M I (bY aJ env) ai aj s')(hk:autoParam (env.kindOf G=some .globalImplicit) tR)(fS:autoParam ((dn.endLine==al.line)=true) tR)(fR:autoParam (jK (.Name G fy) "search" env (b1 (.Name G fy) env)=b1 (.Name G fy) env) tR)(hd:autoParam ((G==("__debug__":ay))=false) tD)(aS:autoParam (env.kindOf D=some .local) tR)(mq:autoParam ((D==("__debug__":ay))=false) tD)(a9:autoParam (iE (.Call (.Attribute (.Name G fy) "search" dn) [.Name t ku] [] al) (some (.Name D bK)) J.line env=pure false) tR):az W.M I (bY (.Assign [.Name D bK] (.Call (.Attribute (.Name G fy) "search" dn) [.Name t ku] [] al) J::aJ) env) ai aj C:=by
 refine l6 IY.run λk bS hJ aI a6=>?_
 refine eH (lN (QN ag kZ bA F.D4 F.R8 (((aW cp).on X C ag.c6 ag.G).go _ _ λv aG k1 aT=>?_) hk rfl fS fR hd) a9)
 refine aC.eS aT λ_=>?_
 have bG:=ag.keeps k1
 refine aeJ kZ (bG.G.base.mono cP) aH k aI a6 hJ ?_
 exact bG.store aS mq .none λbv cc=>next bv cc
theorem Iv{m:ay}{w9 al:bp}{body kX aJ:List cT}{a P:ah}{aw:ay}{gI:List Int}{ai:fj->aq->Prop}(ag:aP W env X ae M O Z av C)(aI:ae.lookup m=some (.adr a))(mB:ou O a P aw gI)(next:∀s',aP W env X ae M O Z av s'->az W.M I (bY body env) (λao dz=>match ao with | .next=>az W.M I (bY aJ env) ai aj dz|ao=>ai ao dz) aj s')(bw:autoParam (∀lG,tQ (.Name m w9) env lG=(do let v<-lG;sj (Expr.Name m w9).pos;mO [v] (tT v))) tI):az W.M I (bY (.If (.Name m w9) body kX al::aJ) env) ai aj C:=by
 refine eH (yf (Bk (nX aI ag λaG k1=>?_) (bw _)))
 refine bH ((ag.keeps k1).w8 mB) λbg gr=>?_
 exact agn (Du gr) (next aG (ag.keeps k1))
end
end Mine.Tactic
namespace Mine.Tactic
open PySem.Builtin.Re
theorem MH(w:c4):dF (cZ w) dh "isinstance"=some none:=by kernel_rfl
theorem MJ:iD "isinstance"=some (.builtin "isinstance"):=by kernel_rfl
theorem Gg(w:c4):dF (cZ w) dh "str"=some none:=by kernel_rfl
theorem Gj:iD "str"=some (.type "str"):=by kernel_rfl
theorem R7:np (.type "str")=pure (.type "type"):=by kernel_rfl
theorem afY:tP (.type "list") (.type "str")=pure false:=by refine H (pC _ _) ?_;kernel_rfl
section
variable{W:bj}{I:br}{env:bB}{X:List ah}{ae:bu}{C:aq}
theorem VV{e:a'}{cB cY al:bp}{ab:List ax}(B:aY W I env ae e (.list ab))(hk:autoParam (env.kindOf "isinstance"=some .globalImplicit) tR)(rP:autoParam (env.kindOf "str"=some .globalImplicit) tR)(bV:autoParam (eQ e=false) tR):ej W I env ae (.Call (.Name "isinstance" cB) [e,.Name "str" cY] [] al) false:=wc (bw:=by intro _;rfl) ⟨λX C aK G=>⟨λai aj q=>by
 show az _ _ (b1 (.Name "isinstance" cB) env>>=λv=>fH al v [] (fk al (eV [e,.Name "str" cY] env)) (j_ al (j' [] env))) _ _ _
 refine aM (ly G hk (MH _) MJ ?_)
 show az _ _ (fH al (.builtin "isinstance") [] (fk al (eV [e,.Name "str" cY] env)) []) _ _ _
 refine H ((h8 bV) _) ?_
 refine jQ (λ_ e=>nomatch e) rfl (k' (g0 ((B.on X C aK G).go _ _ λbx aG k1 aT=>?_)))
 refine g0 (ly (G.mono (cg k1)) rP (Gg _) Gj (jJ ?_))
 refine aC.gD aT λ_ _ bz aV=>?_
 refine bH (cP.plain bz) λY a6=>?_
 show az _ _ (df (.builtin "isinstance") [.ref _,.type "str"]) _ _ _
 obtain⟨cE,ajf,ml,vo,qU⟩:=aG
 refine call_isinstance_of (isinstance_nested_false_list a6 rfl rfl R7 afY ?_) (by intro e;cases e)
 exact q _ _ (b5 k1 (ey _ (vo+1))) (.bool _)⟩⟩
end
theorem Jf(w:c4):iP w 55 54 1 jj:=⟨⟨_,_,rfl⟩,⟨_,_,_,rfl,rfl,by kernel_rfl⟩⟩
theorem Je(w:c4):iP w 60 59 1 iw:=⟨⟨_,_,rfl⟩,⟨_,_,_,rfl,rfl,by kernel_rfl⟩⟩
theorem QP(w:c4):iP w 65 64 1 jE:=⟨⟨_,_,rfl⟩,⟨_,_,_,rfl,rfl,by kernel_rfl⟩⟩
noncomputable def Cg:Array Nat:=#[14,8,1,2,2,1,1,92,0,16,92,17,0,2,17,1,1]
theorem adL(w:c4):iP w 70 69 1 Cg:=⟨⟨_,_,rfl⟩,⟨_,_,_,rfl,rfl,by kernel_rfl⟩⟩
theorem adO(w:c4):iP w 43 42 0 k7:=⟨⟨_,_,rfl⟩,⟨_,_,_,rfl,rfl,by kernel_rfl⟩⟩
theorem GZ(w:c4):dF (cZ w) dh "HEADER_TOKEN_RE"=some (some (.ref 55)):=by kernel_rfl
theorem GY(w:c4):dF (cZ w) dh "HEADER_QUOTED_VALUE_RE"=some (some (.ref 60)):=by kernel_rfl
theorem NJ(w:c4):dF (cZ w) dh "HEADER_VALUE_RE"=some (some (.ref 65)):=by kernel_rfl
theorem YP(w:c4):dF (cZ w) dh "HEADER_ESCAPE_RE"=some (some (.ref 70)):=by kernel_rfl
theorem YY(w:c4):dF (cZ w) dh "_twin_re_7"=some (some (.ref 43)):=by kernel_rfl
theorem YZ(w:c4):dF (cZ w) dh "unmatched"=some (some (.ref 50)):=by kernel_rfl
theorem Yk:kJ Cg #[] 1:=⟨1,_,by decide,rfl,by kernel_rfl⟩
theorem Yl:kJ Cg #[61] 1:=⟨1,_,by decide,rfl,by kernel_rfl⟩
theorem wo(W:bj):hC W 77 (hm W.w 77) (bP W.w 77) (dT W.w 77) ["header_values"]:=by
 refine⟨rfl,rfl,rfl,rfl,rfl,rfl,rfl,rfl,rfl,rfl,rfl,by decide,by decide,λaf B=>?_⟩
 refine bH (oV B) λa dC=>?_;subst dC
 kernel_rfl
end Mine.Tactic
namespace Mine.Tactic
open PySem.Builtin.Re
inductive oA:List Nat->ax->Prop
 |no:oA [] .none
 |f7:oA [61] (.str ⟨#[]⟩)
 |a8:oA [61,61] (.str ⟨#[61]⟩)
 |DT:oA [61,34,34] (.str ⟨#[]⟩)
 |q1:oA [61,34,61,34] (.str ⟨#[61]⟩)
noncomputable def sr(t:List Nat):Prop:=t=[]\/(∃r,t=59::r)\/(∃r,t=44::r)
noncomputable abbrev bh(t:List Nat):ay:=⟨t.toArray⟩
noncomputable def pN(rows:List (List ax))(a7:List ax):List (List ax):=if a7.isEmpty then rows else rows++[a7]
inductive ie:List Nat->List ax->List (List ax)->List (List ax)->Prop
 |done {a7 rows}:ie [] a7 rows (pN rows a7)
 |pair {dc c9 fh cD a7 rows ck v}:(dc=[]\/dc=[32])->c9≠[]->(∀V∈c9,gH V=true)->oA fh v->sr cD->ie cD (a7++[.tuple [.str (bh c9),v]]) rows ck->ie (dc++c9++fh++cD) a7 rows ck
 |semi {V aJ a7 rows ck}:gH V=true->ie (V::aJ) a7 rows ck->ie (59::32::V::aJ) a7 rows ck
 |comma {aJ a7 rows ck}:ie aJ [] (pN rows a7) ck->ie (44::aJ) a7 rows ck
inductive mV:List (List Nat)->List (List ax)->List (List ax)->Prop
 |nil {rows}:mV [] rows rows
 |cons {t gt rows mid ck}:t.length<=50000->ie t [] rows mid->mV gt mid ck->mV (t::gt) rows ck
theorem wy{l r:List Nat}{aB:Nat}:(l++r).toArray.getD (l.length+aB) 0=r.toArray.getD aB 0:=by
 simp[Kd,List.getElem?_append_right]
theorem G0{l r:List Nat}{aB:Nat}(B:aB<l.length):(l++r).toArray.getD aB 0=l.toArray.getD aB 0:=by
 simp[Kd,Ez B]
theorem G1{l:List Nat}{aB:Nat}(B:aB<l.length):l.toArray.getD aB 0∈l:=by
 simp[Kd,hT B]
theorem y8{l r:List Nat}:(⟨((l++r).toArray).extract l.length (l++r).toArray.size⟩:ay)=bh r:=by
 congr 1
 apply sb.mp
 simp
theorem GR{a b V:List Nat}:(⟨((a++b++V).toArray).extract a.length (a.length+b.length)⟩:ay)=bh b:=by
 congr 1
 apply sb.mp
 simp[k8]
theorem JY{t:List Nat}(B:sr t):t.toArray.size≠0->t.toArray.getD 0 0=59\/t.toArray.getD 0 0=44:=λaQ=>by
 rcases B with rfl|⟨r,rfl⟩|⟨r,rfl⟩
 .simp at aQ
 .left;rfl
 .right;rfl
theorem aaA{dc c9 fh cD:List Nat}{v:ax}(kP:dc=[]\/dc=[32])(pZ:c9≠[])(sX:∀V∈c9,gH V=true)(a9:oA fh v)(cp:sr cD)(aH:(dc++c9++fh++cD).length<=50000):me jj (dc++c9++fh++cD).toArray 1 [0,((dc.length+c9.length:Nat):Int),(dc.length:Int),((dc.length+c9.length:Nat):Int)]:=by
 have aN:1<=c9.length:=by cases c9 with
  |nil=>exact absurd rfl pZ
  |cons=>simp
 have dp:(dc++c9++fh++cD).toArray.size=dc.length+c9.length+fh.length+cD.length:=by simp;exact e_ [_,_,_,_] 1685824006244336642 rfl
 refine agh aN (by refine H dp ?_;exact e_ [_,_,_,_] 25723632899072 rfl) (by refine H mI ?_;unfold bc;exact aL [_] 11013536609348894442156352 rfl aH) (λaB bL=>?_) (λaB bL=>?_) ?_
 .rcases kP with rfl|rfl
  .simp at bL
  .have:aB=0:=by simp at bL;exact aL [_] 9418884383042 rfl bL
   subst this;rfl
 .have e:(dc++c9++fh++cD).toArray.getD (dc.length+aB) 0=c9.toArray.getD aB 0:=by
   refine H (k8 _ _ _) ?_;refine H (k8 _ _ _) ?_;refine H wy ?_;refine H (G0 bL) ?_;rfl
  refine H e ?_
  exact sX _ (G1 bL)
 .have e:(dc++c9++fh++cD).toArray.getD (dc.length+c9.length) 0=(fh++cD).toArray.getD 0 0:=by
   have:=wy (l:=dc++c9) (r:=fh++cD) (aB:=0)
   rw[gJ,xO, <-k8]at this
   exact this
  refine H e ?_;refine H dp ?_
  cases a9 with
  |no=>
   rcases cp with rfl|⟨r,rfl⟩|⟨r,rfl⟩
   .left;simp
   .right;exact⟨by simp,.inr (.inl rfl)⟩
   .right;exact⟨by simp,.inr (.inr rfl)⟩
  |f7=>right;exact⟨by simp;exact e_ [_,_,_] 6211232453383169 rfl,.inl rfl⟩
  |a8=>right;exact⟨by simp;exact e_ [_,_,_] 6228824639427585 rfl,.inl rfl⟩
  |DT=>right;exact⟨by simp;exact e_ [_,_,_] 6246416825472001 rfl,.inl rfl⟩
  |q1=>right;exact⟨by simp;exact e_ [_,_,_] 6264009011516417 rfl,.inl rfl⟩
end Mine.Tactic
namespace Mine.Tactic
open PySem.Builtin.Re
section
variable{W:bj}{I:br}{env:bB}{X:List ah}{ae:bu}{M:ce}{O:List (ah×bJ)}{Z:List ah}{av C:aq}{ai:fj->aq->Prop}{aj:an->aq->Prop}
theorem Iy{D m:ay}{bK ht w9 al J:bp}{aJ:List cT}{a P:ah}{aw:ay}{e:Nat}{r:List Int}(bd:I.handled=none)(bk:I.depth<d3)(ag:aP W env X ae M O Z av C)(aI:ae.lookup m=some (.adr a))(mB:ou O a P aw (((0:Nat):Int)::(e:Int)::r))(bw:e<=aw.cps.size)(aH:aw.length<=bc)(next:∀s',aP W env X ((D,.str ⟨aw.cps.extract e aw.cps.size⟩)::ae) M O Z av s'->az W.M I (bY aJ env) ai aj s')(hk:autoParam (env.kindOf "unmatched"=some .globalImplicit) tR)(aS:autoParam (env.kindOf D=some .local) tR)(hd:autoParam ((D==("__debug__":ay))=false) tD)(a9:autoParam (iE (.Call (.Name "unmatched" ht) [.Name m w9] [] al) (some (.Name D bK)) J.line env=pure false) tR):az W.M I (bY (.Assign [.Name D bK] (.Call (.Name "unmatched" ht) [.Name m w9] [] al) J::aJ) env) ai aj C:=by
 refine eH (lN (iY ag (ab:=[.adr a]) (bI (aW aI) cF) (YZ _) (GD W).obj (GD W).fn (λaf aG bG aV=>?_) hk) a9)
 refine bH (bG.w8 mB) λbg gr=>?_
 refine Xi bd bk bG.c6 bG.G.base gr bw aH aV λv a5 k2 bb=>?_
 exact(bG.keeps k2).store aS hd bb λbv bR=>next bv bR
theorem PB{G D am:ay}{bK fy dn tt al J oY:bp}{s_:Arguments}{body:a'}{bC:jn}{aJ:List cT}{P aX V T:ah}{g l3 lU:Nat}{code:Array Nat}{aw:ay}(ag:aP W env X ae M O Z av C)(kZ:iP W.w P aX g code)(bA:dF (cZ W.w) dh G=some (some (.ref P)))(cp:ae.lookup am=some (.str aw))(IY:kJ code aw.cps g)(aH:aw.length<=100000)(Wd:pK O T l3 lU)(aO:env.code= .ref V)(CC:(V,T)∈[((93:ah),(89:ah)),(76,72)])(Cv:T∈X)(Hh:T∈Z)(aN:oY.line=l3)(sH:oY.col=lU)(next:∀s' cI,aP W env X ((D,.str aw)::ae) M cI Z av s'->pK cI T l3 lU->(∀b N,b≠T->O.lookup b=some N->cI.lookup b=some N)->az W.M I (bY aJ env) ai aj s')(jS:autoParam (rl bC env=pure []) tR)(HA:autoParam (UF s_ env=([],[])) tR)(hk:autoParam (env.kindOf G=some .globalImplicit) tR)(bV:autoParam (eV [.Lambda s_ body bC oY,.Name am tt] env=[(false,b1 (.Lambda s_ body bC oY) env),(false,b1 (.Name am tt) env)]) tR)(fS:autoParam ((dn.endLine==al.line)=true) tR)(fR:autoParam (jK (.Name G fy) "sub" env (b1 (.Name G fy) env)=b1 (.Name G fy) env) tR)(hd:autoParam ((G==("__debug__":ay))=false) tD)(aS:autoParam (env.kindOf D=some .local) tR)(mq:autoParam ((D==("__debug__":ay))=false) tD)(a9:autoParam (iE (.Call (.Attribute (.Name G fy) "sub" dn) [.Lambda s_ body bC oY,.Name am tt] [] al) (some (.Name D bK)) J.line env=pure false) tR):az W.M I (bY (.Assign [.Name D bK] (.Call (.Attribute (.Name G fy) "sub" dn) [.Lambda s_ body bC oY,.Name am tt] [] al) J::aJ) env) ai aj C:=by
 refine eH (lN (QO ag kZ bA F.Ry F.agU (ahz ag Wd aO CC Cv Hh aN sH jS HA λao aG dO bG ua rM b2 c2=>((aW cp).on X aG bG.c6 bG.G).go _ _ λv a5 k2 bb=>?_) hk bV fS fR hd) a9)
 refine aC.eS bb λ_=>?_
 have bN:=bG.keeps k2
 have aah:a5.TypeIs (.ref ao) "function":=let⟨N,e,B⟩:=b2;⟨N,ed k2 _ _ e,B⟩
 refine aeM kZ (bN.G.base.mono cP) aH aah IY λfB bv dr=>?_
 exact(bN.keeps dr).store aS mq (.str _ _) λc3 cc=>next c3 dO cc ua rM
end
theorem s1{d9:Type}{a b:ah}{D am:d9}{r:List (ah×d9)}(B:b≠a):((a,D)::(b,am)::r).lookup b=some am:=by
 refine H c1 ?_;refine H (show(b==a)=false by simpa using B) ?_
 simp
theorem oX{d9:Type}{a b:ah}{D:d9}{r:List (ah×d9)}(B:b≠a):((a,D)::r).lookup b=r.lookup b:=by
 refine H c1 ?_;refine H (show(b==a)=false by simpa using B) ?_;rfl
theorem aP.to2{W:bj}{env:bB}{X:List ah}{ae d_:bu}{M dk:ce}{O:List (ah×bJ)}{Z:List ah}{av C:aq}(ag:aP W env X ae M O Z av C)(B:i8 d_ ae)(gF:i8 dk M):aP W env X d_ dk O Z av C:=(ag.weak B.get).j0 gF.get λ_ _ e=>e
structure fZ where
 X:List ah
 t:List Nat
 P:ah
 a7:List ax
 rs:List (ah×List ax)
 O:List (ah×bJ)
noncomputable def gi(rs:List (ah×List ax)):List ax:=rs.map λJ=>.cf J.1 J.2
structure qA (dt:Nat) (X0:List ah) (jO:List (ah×bJ)) (R:ah) (ck:List (List ax)) (hO:aq) (a:fZ):Prop where
 Au:ie a.t a.a7 (a.rs.map (·.2)) ck
 len:a.t.length<=50000
 m9:(R::a.P::a.rs.map (·.1)).Nodup
 new:∀b∈R::a.P::a.rs.map (·.1),hO.heap.get? b=none
 sub:∀b∈X0,b∈a.X
 ajF:a.P∉X0
 tab:pK a.O 72 29 49
 obj:∀b N,b≠72->jO.lookup b=some N->a.O.lookup b=some N
 small:a.a7.length+a.t.length<=60000/\a.rs.length+a.t.length<=dt
noncomputable abbrev q2(bA:ax)(R:ah)(a:fZ):bu:=[("text",.str (bh a.t)),("pairs",.adr a.P),("result",.adr R),("header_values",bA)]
noncomputable abbrev pd(R:ah)(a:fZ):ce:=[(a.P,a.a7),(R,gi a.rs)]
end Mine.Tactic
namespace Mine.Tactic
open PySem.Builtin.Re
set_option tactic.hygienic true in
noncomputable def afA(C:cT):List cT:=by
 cases C
 case For _ _ b _ _=>exact b
 case While _ b _ _=>exact b
 case If _ b _ _=>exact b
 case Try b _ _ _ _=>exact b
 all_goals exact []
set_option tactic.hygienic true in
noncomputable def afB(C:cT):a':=by
 cases C
 case Assign _ e _=>exact e
 case If e _ _ _=>exact e
 case Return e _=>exact e.getD (.Name "" ⟨0,0,0,0⟩)
 all_goals exact .Name "" ⟨0,0,0,0⟩
noncomputable def Ji(k:Nat)(l:List cT):List a':=(l.filter λC=>rc C.ctorIdx k).map afB
noncomputable def rZ:List cT->Nat->List cT
 |[],_=>[]
 |C::_,0=>afA C
 |_::r,Y+1=>rZ r Y
noncomputable def afp(w:c4):List cT:=rZ (dT w 77) 2
noncomputable def AE(w:c4):List cT:=rZ (afp w) 2
noncomputable def AD(w:c4):List cT:=rZ (AE w) 1
theorem ir{a b:ay}{D:ax}{r:bu}(B:b≠a):A5 b ((a,D)::r)=A5 b r:=by
 refine H c1 ?_;refine H (show(b==a)=false by simpa using B) ?_;rfl
section
variable{W:bj}{I:br}{X:List ah}{C:aq}
theorem VH{env:bB}{ae:bu}{N:a'}{dn al:bp}{D:ay}(B:aY W I env ae N (.str D))(aE:Ll D=D)(aH:D.length<=bc)(fR:autoParam (jK N "rstrip" env (b1 N env)=b1 N env) tR)(fS:autoParam ((dn.endLine==al.line)=true) tR):aY W I env ae (.Call (.Attribute N "rstrip" dn) [] [] al) (.str D):=by
 have:=VI (dn:=dn) (al:=al) B aH fR fS
 rw[aE]at this
 exact this
theorem afq{ar:ah}{dH:br}{R P:ah}{c9:List Nat}{v:ax}{a7:List ax}{rs:List (ah×List ax)}{gS:List ah}{ae:bu}{O:List (ah×bJ)}{hO aG:aq}{ai:fj->aq->Prop}{aj:an->aq->Prop}(i':R≠P)(aH:a7.length<=bc)(ag:aP W (callEnvC (bP W.w 77) ar 77) gS ae [(P,a7),(R,gi rs)] O [72] hO aG)(h1:ae.lookup ("pairs":ay)=some (.adr P))(aA:ae.lookup ("name":ay)=some (.str (bh c9)))(bn:ae.lookup ("value":ay)=some v)(q:∀s',aP W (callEnvC (bP W.w 77) ar 77) gS ae [(P,a7++[.tuple [.str (bh c9),v]]),(R,gi rs)] O [72] hO s'->ai .next s'):az W.M dH (bY ((AD W.w).drop 4) (callEnvC (bP W.w 77) ar 77)) ai aj aG:=by
 refine nT ag h1 (ab:=a7) (by simp) (mR (ab:=[.str (bh c9),v]) (bI (aW aA) (bI (aW bn) cF)) (aH:=show 2<=bc by decide)) aH λa5 bN=>?_
 exact dq (q a5 (bN.j0 (i8.get ⟨by simp,by refine H (oX i') ?_;refine H (s1 i') ?_;rfl,trivial⟩) λ_ _ e=>e))
theorem afu{ar:ah}{dH:br}{R P:ah}{fh cD:List Nat}{v:ax}{a7:List ax}{rs:List (ah×List ax)}{gS:List ah}{ae:bu}{O:List (ah×bJ)}{hO aG:aq}{ai:fj->aq->Prop}{aj:an->aq->Prop}(bd:dH.handled=none)(bk:dH.depth<d3)(C2:oA fh v)(wV:sr cD)(bW:(fh++cD).length<=50000)(eZ:72∈gS)(jV:pK O 72 29 49)(ag:aP W (callEnvC (bP W.w 77) ar 77) gS ae [(P,a7),(R,gi rs)] O [72] hO aG)(h1:ae.lookup ("text":ay)=some (.str (bh (fh++cD))))(q:∀d_ cI s',aP W (callEnvC (bP W.w 77) ar 77) gS d_ [(P,a7),(R,gi rs)] cI [72] hO s'->d_.lookup ("text":ay)=some (.str (bh cD))->d_.lookup ("value":ay)=some v->(∀am,am≠("text":ay)->am≠("value":ay)->am≠("m":ay)->d_.lookup am=ae.lookup am)->pK cI 72 29 49->(∀b N,b≠72->O.lookup b=some N->cI.lookup b=some N)->az W.M dH (bY ((AD W.w).drop 4) (callEnvC (bP W.w 77) ar 77)) ai aj s'):az W.M dH (bY ((AD W.w).drop 2) (callEnvC (bP W.w 77) ar 77)) ai aj aG:=by
 have im:(bh (fh++cD)).length<=bc:=by
  show(fh++cD).toArray.size<=bc
  refine H mI ?_;unfold bc;exact aL [_] 11013536609348894442156352 rfl bW
 have rT:(fh++cD).toArray.size<=bc:=im
 have QZ:∀(k:Nat)(c8:List Nat),c8.length=k->fh=[61,34]++c8++[34]->(∀V∈c8,V=61)->v= .str (bh c8)->kJ Cg c8.toArray 1->az W.M dH (bY ((AD W.w).drop 2) (callEnvC (bP W.w 77) ar 77)) ai aj aG:=λk c8 hk e hX bA aI=>by
  subst bA
  subst e
  have Co:∀aB,aB<k->([61,34]++c8++[34]++cD).toArray.getD (2+aB) 0=61:=λaB bL=>by
   have B:=wy (l:=[61,34]) (r:=c8++([34]++cD)) (aB:=aB)
   rw[<-k8, <-k8]at B
   refine H (show(2:Nat)+aB=[61,34].length+aB from rfl) ?_;refine H B ?_;refine H (G0 (by exact bX [_,_,_] 133136778532161 rfl bL hk)) ?_
   exact hX _ (G1 (by exact bX [_,_,_] 133136778532161 rfl bL hk))
  have qE:([61,34]++c8++[34]++cD).toArray.getD (2+k) 0=34:=by
   have B:=wy (l:=[61,34]++c8) (r:=[34]++cD) (aB:=0)
   rw[<-k8,gJ,hk]at B
   exact B
  have dp:([61,34]++c8++[34]++cD).toArray.size=3+k+cD.length:=by simp;exact aL [_,_,_] 39294961789234013036552733531045890 rfl hk
  refine Iw ag (Je W.w) (GY _) h1 (aef (l:=k) rT (by refine H dp ?_;exact e_ [_,_] 5984714808824064 rfl) (by simp) (by simp) Co qE) im (by decide) λm a5 hF bN mB uA=>?_
  have p8:ou hF m 60 (bh ([61,34]++c8++[34]++cD)) [((0:Nat):Int),((3+k:Nat):Int),((2:Nat):Int),((2+k:Nat):Int)]:=mB
  refine Iv bN rfl p8 λbv bR=>?_
  refine Iy bd bk bR rfl p8 (by show _<=([61,34]++c8++[34]++cD).toArray.size;refine H dp ?_;exact e_ [_,_] 5984714808824064 rfl) im λc3 cc=>?_
  have um:(⟨(bh ([61,34]++c8++[34]++cD)).cps.extract (3+k) (bh ([61,34]++c8++[34]++cD)).cps.size⟩:ay)=bh cD:=by
   refine H (show 3+k=([61,34]++c8++[34]).length by simp;exact aL [_,_] 748108840772662807680753275138 rfl hk) ?_
   exact y8
  rw[um]at cc
  refine C9 cc (J_ cc p8 rfl im) λdW cy=>?_
  have y4:(⟨(bh ([61,34]++c8++[34]++cD)).cps.extract 2 (2+k)⟩:ay)=bh c8:=by
   refine b' hk ?_
   have:=GR (a:=[61,34]) (b:=c8) (V:=[34]++cD)
   rw[<-k8]at this
   exact this
  rw[y4]at cy
  refine cm jV.is λjh dB uU=>?_
  refine PB cy (adL W.w) (YP _) rfl aI (by show c8.toArray.size<=_;refine H mI ?_;simp at bW;exact aL [_,_] 721782984060396971987524669760 rfl bW) (T:=72) (V:=76) (l3:=29) (lU:=49) ⟨jh,uA _ _ dB,uU⟩ rfl (by simp) eZ (by simp) rfl rfl λe1 FR cU F4 Hc=>?_
  refine dq (q _ FR e1 cU rfl rfl (λam a b V=>?_) F4 λb N ak e=>Hc b N ak (uA b N e))
  refine H (ir b) ?_;refine H (ir b) ?_;refine H (ir a) ?_;refine H (ir V) ?_;rfl
 have plain:∀(c8:List Nat),fh=61::c8->(∀V∈c8,V=61)->c8.length<=1->v= .str (bh c8)->Ll (bh c8)=bh c8->az W.M dH (bY ((AD W.w).drop 2) (callEnvC (bP W.w 77) ar 77)) ai aj aG:=λc8 e hX iV bA aE=>by
  subst bA
  subst e
  have Co:∀aB,aB<c8.length->(61::c8++cD).toArray.getD (1+aB) 0=61:=λaB bL=>by
   have B:=wy (l:=[61]) (r:=c8++cD) (aB:=aB)
   refine H (show(1:Nat)+aB=[61].length+aB from rfl) ?_
   show([61]++(c8++cD)).toArray.getD _ 0=61
   refine H B ?_;refine H (G0 bL) ?_
   exact hX _ (G1 bL)
  have qE:(61::c8++cD).toArray.getD (1+c8.length) 0=cD.toArray.getD 0 0:=by
   have B:=wy (l:=61::c8) (r:=cD) (aB:=0)
   rw[i3,xO,A8]at B
   exact B
  have dp:(61::c8++cD).toArray.size=1+c8.length+cD.length:=by simp;exact e_ [_,_] 1531524040266956802 rfl
  have ki:1+c8.length=(61::c8++cD).toArray.size\/(1+c8.length<(61::c8++cD).toArray.size/\((61::c8++cD).toArray.getD (1+c8.length) 0=59\/(61::c8++cD).toArray.getD (1+c8.length) 0=44)):=by
   refine H dp ?_;refine H qE ?_
   by_cases aQ:cD.length=0
   .left;exact aL [_,_] 718096376996955634602242 rfl aQ
   .right;exact⟨EN (Bf aQ),JY wV (by simpa using aQ)⟩
  refine zZ ag (Je W.w) (GY _) h1 (Q0 rT λ_=>.inr (.inr ⟨by simp,λB=>?_⟩)) im λa5 bN=>?_
  .by_cases aQ:0<c8.length
   .exact .inl (Co 0 aQ)
   .rw[Nat.eq_zero_of_not_pos aQ]at ki
    exact ki.elim (λau=>absurd au.symm B) λau=>.inr au.2
  refine nU bN (wd (aW rfl)) λbv bR=>?_
  refine Iw bR (QP W.w) (NJ _) (by refine H (ir (by decide)) ?_;exact h1) (ag5 (l:=c8.length) rT (by refine H dp ?_;exact e_ [_,_] 5982515785437440 rfl) (by simp) Co ki) im (by decide) λm c3 yr cc mB Cu=>?_
  have p8:ou yr m 65 (bh (61::c8++cD)) [((0:Nat):Int),((1+c8.length:Nat):Int),((1:Nat):Int),((1+c8.length:Nat):Int)]:=mB
  refine Iv cc rfl p8 λdW cy=>?_
  refine Iy bd bk cy rfl p8 (by show _<=(61::c8++cD).toArray.size;refine H dp ?_;exact e_ [_,_] 5982515785437440 rfl) im λe1 cU=>?_
  have um:(⟨(bh (61::c8++cD)).cps.extract (1+c8.length) (bh (61::c8++cD)).cps.size⟩:ay)=bh cD:=by
   refine H (show 1+c8.length=(61::c8).length by simp;exact e_ [_] 18765790122242 rfl) ?_
   exact y8
  rw[um]at cU
  refine C9 cU (J_ cU p8 rfl im) λf3 dA=>?_
  have y4:(⟨(bh (61::c8++cD)).cps.extract 1 (1+c8.length)⟩:ay)=bh c8:=GR (a:=[61]) (b:=c8) (V:=cD)
  rw[y4]at dA
  refine my dA (d:=.str (bh c8)) (VH (D:=bh c8) (aW rfl) aE (by show c8.toArray.size<=bc;refine H mI ?_;unfold bc;exact aL [_] 2676008500385575629120 rfl iV)) λji eW=>?_
  refine dq (dq (q _ yr ji eW rfl rfl (λam a b V=>?_) ⟨?_⟩ λb N ak e=>Cu b N e))
  .refine H (ir b) ?_;refine H (ir b) ?_;refine H (ir a) ?_;refine H (ir V) ?_;refine H (ir V) ?_;rfl
  .refine cm jV.is λjh dB uU=>?_
   exact⟨jh,Cu _ _ dB,uU⟩
 cases C2 with
 |no=>
  refine zZ ag (Je W.w) (GY _) h1 (Q0 rT λB=>?_) im λa5 bN=>?_
  .rcases JY wV B with B|B
   .exact .inl B
   .exact .inr (.inl B)
  refine nU bN (wd (aW rfl)) λbv bR=>?_
  refine zZ bR (QP W.w) (NJ _) (by refine H (ir (by decide)) ?_;exact h1) (ag4 rT λB=>JY wV B) im λc3 cc=>?_
  refine nU cc (wd (aW rfl)) λdW cy=>?_
  refine my cy (d:=.none) qz λe1 cU=>?_
  refine dq (dq (q _ O e1 cU ?_ rfl (λam a b V=>?_) jV λb N ak e=>e))
  .refine H (ir (by decide)) ?_;refine H (ir (by decide)) ?_;refine H (ir (by decide)) ?_;exact h1
  .refine H (ir b) ?_;refine H (ir V) ?_;refine H (ir V) ?_;rfl
 |f7=>exact plain [] rfl (by simp) (by simp) rfl rfl
 |a8=>exact plain [61] rfl (by simp) (by simp) rfl rfl
 |DT=>exact QZ 0 [] rfl rfl (by simp) rfl Yk
 |q1=>exact QZ 1 [61] rfl rfl (by simp) rfl Yl
theorem afs{ar:ah}{dH:br}{bA:ax}{dt:Nat}{X0 gS:List ah}{jO hF:List (ah×bJ)}{R P:ah}{mid:List (List ax)}{a7:List ax}{rs:List (ah×List ax)}{hO aG:aq}{ai:fj->aq->Prop}{aj:an->aq->Prop}{dc c9 fh cD:List Nat}{v:ax}(bd:dH.handled=none)(bk:dH.depth<d3)(eZ:72∈gS)(ha:qA dt X0 jO R mid hO ⟨gS,dc++c9++fh++cD,P,a7,rs,hF⟩)(kP:dc=[]\/dc=[32])(pZ:c9≠[])(sX:∀V∈c9,gH V=true)(C2:oA fh v)(wV:sr cD)(oP:ie cD (a7++[.tuple [.str (bh c9),v]]) (rs.map (·.2)) mid)(ag:aP W (callEnvC (bP W.w 77) ar 77) gS (q2 bA R ⟨gS,dc++c9++fh++cD,P,a7,rs,hF⟩) (pd R ⟨gS,dc++c9++fh++cD,P,a7,rs,hF⟩) hF [72] hO aG)(q:∀ci s',qA dt X0 jO R mid hO ci->ci.t.length<(dc++c9++fh++cD).length->aP W (callEnvC (bP W.w 77) ar 77) ci.X (q2 bA R ci) (pd R ci) ci.O [72] hO s'->ai .next s'):az W.M dH (bY (AE W.w) (callEnvC (bP W.w 77) ar 77)) ai aj aG:=by
 obtain⟨_,bW,cO,ev,fg,rS,jV,rR,hv⟩:=ha
 dsimp only at bW cO ev fg rS jV rR hv ag
 have uB:R≠P:=λau=>by simp only[d',dw,not_or]at cO;exact cO.1.1 au
 have aN:1<=c9.length:=by cases c9 with
  |nil=>exact absurd rfl pZ
  |cons=>simp
 have lW:(dc++c9++fh++cD).length=dc.length+c9.length+fh.length+cD.length:=by simp;exact e_ [_,_,_,_] 1685824006244336642 rfl
 rw[lW]at hv
 have im:(bh (dc++c9++fh++cD)).length<=bc:=by
  show(dc++c9++fh++cD).toArray.size<=bc
  refine H mI ?_;unfold bc;exact aL [_] 11013536609348894442156352 rfl bW
 have dp:(dc++c9++fh++cD).toArray.size=dc.length+c9.length+fh.length+cD.length:=by refine H mI ?_;exact lW
 refine Iw ag (Jf W.w) (GZ _) rfl (aaA kP pZ sX C2 wV bW) im (by decide) λm a5 t7 bN mB uA=>?_
 have p8:ou t7 m 55 (bh (dc++c9++fh++cD)) [((0:Nat):Int),((dc.length+c9.length:Nat):Int),((dc.length:Nat):Int),((dc.length+c9.length:Nat):Int)]:=mB
 refine Iv bN rfl p8 λbv bR=>?_
 refine Iy bd bk bR rfl p8 (by show _<=(dc++c9++fh++cD).toArray.size;refine H dp ?_;exact e_ [_,_,_,_] 25723632899072 rfl) im λc3 cc=>?_
 have um:(⟨(bh (dc++c9++fh++cD)).cps.extract (dc.length+c9.length) (bh (dc++c9++fh++cD)).cps.size⟩:ay)=bh (fh++cD):=by
  refine H (show dc.length+c9.length=(dc++c9).length by simp) ?_;refine H (k8 _ _ _) ?_
  exact y8
 rw[um]at cc
 refine C9 cc (J_ cc p8 rfl im) λdW cy=>?_
 have y4:(⟨(bh (dc++c9++fh++cD)).cps.extract dc.length (dc.length+c9.length)⟩:ay)=bh c9:=by
  refine H ((k8 (dc++c9)) _ _) ?_
  exact GR
 rw[y4]at cy
 refine cm jV.is λjh dB uU=>?_
 refine afu bd bk C2 wV (by rw[lW]at bW;refine H gJ ?_;exact aL [_,_,_,_] 11548530164060911095453063402496 rfl bW) eZ ⟨jh,uA _ _ dB,uU⟩ cy rfl λEp FR e1 cU h1 aA bn F4 Hc=>?_
 have a8:Ep.lookup ("pairs":ay)=some (.adr P):=by refine H (bn _ (by decide) (by decide) (by decide)) ?_;rfl
 have bm:Ep.lookup ("name":ay)=some (.str (bh c9)):=by refine H (bn _ (by decide) (by decide) (by decide)) ?_;rfl
 have e3:Ep.lookup ("result":ay)=some (.adr R):=by refine H (bn _ (by decide) (by decide) (by decide)) ?_;rfl
 have gf:Ep.lookup ("header_values":ay)=some bA:=by refine H (bn _ (by decide) (by decide) (by decide)) ?_;rfl
 refine afq uB (by show a7.length<=bc;unfold bc;exact aL [_,_,_,_,_] 47352297157413340608184800809873728 rfl hv.1) cU a8 bm aA λf3 dA=>?_
 refine dq (q ⟨gS,cD,P,a7++[.tuple [.str (bh c9),v]],rs,FR⟩ f3 ⟨oP,by rw[lW]at bW;dsimp only;exact aL [_,_,_,_] 45111445952421400169516384576 rfl bW,cO,ev,fg,rS,F4,λb N ak e=>Hc b N ak (uA b N (rR b N ak e)),?_⟩ (by refine H lW ?_;dsimp only;exact aL [_,_,_,_] 10475672919102980161 rfl aN) (dA.weak (d_:=[("text",.str (bh cD)),("pairs",.adr P),("result",.adr R),("header_values",bA)]) (i8.get ⟨h1,a8,e3,gf,trivial⟩)))
 dsimp only
 refine H gJ ?_
 have:[ax.tuple [ax.str (bh c9),v]].length=1:=rfl
 exact⟨j1 [_,_,_,_,_,_] 224440432450800384271388713213533217449949595516928 rfl hv.1 this aN,aL [_,_,_,_,_,_] 2682098615028552193024 rfl hv.2⟩
end
end Mine.Tactic
namespace Mine.Tactic
open PySem.Builtin.Re
section
variable{W:bj}{I:br}{env:bB}{ae:bu}{X:List ah}{M:ce}{O:List (ah×bJ)}{Z:List ah}{av C:aq}
theorem Mj{N e:a'}{dn BZ al kr:bp}{D am:ay}{b:Bool}(B:aY W I env ae N (.str D))(bw:aY W I env ae e (.str am))(ak:Fk (vO D) am=b)(aH:D.length<=bc)(bV:autoParam (eQ e=false) tR)(fR:autoParam (jK N "lstrip" env (b1 N env)=b1 N env) tR)(fS:autoParam ((dn.endLine==al.line)=true) tR)(ZZ:autoParam (jK (.Call (.Attribute N "lstrip" dn) [] [] al) "startswith" env (b1 (.Call (.Attribute N "lstrip" dn) [] [] al) env)=b1 (.Call (.Attribute N "lstrip" dn) [] [] al) env) tR)(aaH:autoParam ((BZ.endLine==kr.line)=true) tR)(aU:autoParam (∀lG,tQ (.Call (.Attribute (.Call (.Attribute N "lstrip" dn) [] [] al) "startswith" BZ) [e] [] kr) env lG=(do let v<-lG;sj (Expr.Call (.Attribute (.Call (.Attribute N "lstrip" dn) [] [] al) "startswith" BZ) [e] [] kr).pos;mO [v] (tT v))) tI):ej W I env ae (.Call (.Attribute (.Call (.Attribute N "lstrip" dn) [] [] al) "startswith" BZ) [e] [] kr) b:=by
 subst ak
 exact wc (VK (L6 B aH fR fS) bw bV ZZ aaH) aU
theorem Vy{N:a'}{lo aU:Option a'}{J dn al kr:bp}{D am:ay}{l bq:Option Int}(B:aY W I env ae N (.str D))(aH:D.length<=bc)(aN:jp W I env ae lo l)(be:jp W I env ae aU bq)(bw:vO D=D)(bZ:pz D l bq=am)(fR:autoParam (jK N "lstrip" env (b1 N env)=b1 N env) tR)(fS:autoParam ((dn.endLine==al.line)=true) tR):aY W I env ae (.Subscript (.Call (.Attribute N "lstrip" dn) [] [] al) (.Slice lo aU none J) kr) (.str am):=by
 subst bZ
 have:=L6 (dn:=dn) (al:=al) B aH fR fS
 rw[bw]at this
 exact VJ this aN be aH
theorem afD{aJ:List Nat}:Fk (bh (44::aJ)) (",")=true:=by
 have e:(44::aJ).toArray.extract 0 1=#[44]:=by
  apply sb.mp
  simp
 have B:aiL (bh (44::aJ)) (",") 0=true:=by
  show((44::aJ).toArray.extract 0 1==(#[44]:Array Nat))=true
  refine H e ?_
  rfl
 unfold Fk
 refine H B ?_;refine H (Bool.and_true _) ?_
 exact decide_eq_true (by show 0+1<=(44::aJ).toArray.size;simp)
theorem Nz{R aa:ah}{rs:List (ah×List ax)}(ag:aP W env X ae M O Z av C)(gF:M.lookup R=some (gi rs))(cn:C.heap.get? aa=none):aa≠R/\aa∉rs.map (·.1)/\(∀P a7,M.lookup P=some a7->aa≠P)/\aa∉X:=by
 have aK:aa∉X:=λB=>by refine bH (ag.c6 aa B) λN e=>?_;rw[cn]at e;cases e
 have aI:∀P a7,M.lookup P=some a7->aa≠P:=λP a7 e au=>aK (au▸(ag.el P a7 e).1)
 refine⟨aI _ _ gF,λB=>?_,aI,aK⟩
 obtain⟨⟨b,r⟩,kk,rfl⟩:=kD.mp B
 obtain⟨_,_,ee,Jj,nb⟩:=ag.el R (gi rs) gF
 obtain⟨aB,bL⟩:=S0 kk
 obtain⟨v,_,ez⟩:=nb.get (L:=aB) (d:=.cf b r) (by unfold gi;rw[lI,bL];rfl)
 obtain⟨_,rfl,qX,_⟩:=aC.Ah ez
 obtain⟨dD,bm⟩:=qX
 rw[fc _ bm]at cn
 cases cn
theorem ahW{G am:ay}{fy dn tt al:bp}{P aX:ah}{code:Array Nat}{aw aJ:ay}{l:Nat}{k1:_}{cB:bp}(ag:aP W env X ae M O Z av C)(kZ:iP W.w P aX 0 code)(bA:dF (cZ W.w) dh G=some (some (.ref P)))(cp:ae.lookup am=some (.str aw))(aH:aw.length<=100000)(aN:1<=l)(cM:l<aw.cps.size)(gh:me code aw.cps 0 [0,(l:Int)])(sS:∃k bS,k<=2^60/\(i4 code aw.cps 0 l aw.cps.size false).runFor k=bS/\bS.outcome=some .failed)(aE:aJ=⟨aw.cps.extract l aw.cps.size⟩)(hk:autoParam (env.kindOf G=some .globalImplicit) tR)(bV:autoParam (eV [.Constant (.str "") k1 cB,.Name am tt] env=[(false,b1 (.Constant (.str "") k1 cB) env),(false,b1 (.Name am tt) env)]) tR)(fS:autoParam ((dn.endLine==al.line)=true) tR)(fR:autoParam (jK (.Name G fy) "subn" env (b1 (.Name G fy) env)=b1 (.Name G fy) env) tR)(hd:autoParam ((G==("__debug__":ay))=false) tD):dZ W X I (b1 (.Call (.Attribute (.Name G fy) "subn" dn) [.Constant (.str "") k1 cB,.Name am tt] [] al) env) (.tuple [.str aJ,.int 1]) C:=⟨λai aj q=>by
 refine QO ag kZ bA F.Rz F.agV ?_ hk bV fS fR hd
 refine FD ?_
 refine((aW cp).on X _ (ag.c6.mono (ey C _)) (ag.G.mono (cg (ey C _)))).go _ _ λv a5 k2 bb=>?_
 refine aC.eS bb λ_=>?_
 have PH:=b5 (ey C _) k2
 have bN:=ag.keeps PH
 refine aeN kZ (bN.G.base.mono cP) aH aN cM gh sS aE λa fB R9 bv dr zB ha=>q _ bv (b5 PH dr) ?_
 have zm:a∉X:=λB=>by refine bH (bN.c6 a B) λN e=>?_;rw[zB]at e;cases e
 exact .tuple ⟨_,ei _ ha zm,rfl,_,rfl⟩ (.cons (.str _ _) (.cons (.int _ _) .nil))⟩
theorem aft{ar:ah}{dH:br}{bA:ax}{dt:Nat}{X0 gS:List ah}{jO hF:List (ah×bJ)}{R P:ah}{mid:List (List ax)}{a7:List ax}{rs:List (ah×List ax)}{hO aG:aq}{ai:fj->aq->Prop}{aj:an->aq->Prop}{V:Nat}{aJ:List Nat}(bd:dH.handled=none)(ha:qA dt X0 jO R mid hO ⟨gS,59::32::V::aJ,P,a7,rs,hF⟩)(aO:gH V=true)(oP:ie (V::aJ) a7 (rs.map (·.2)) mid)(ag:aP W (callEnvC (bP W.w 77) ar 77) gS (q2 bA R ⟨gS,59::32::V::aJ,P,a7,rs,hF⟩) (pd R ⟨gS,59::32::V::aJ,P,a7,rs,hF⟩) hF [72] hO aG)(q:∀ci s',qA dt X0 jO R mid hO ci->ci.t.length<(59::32::V::aJ).length->aP W (callEnvC (bP W.w 77) ar 77) ci.X (q2 bA R ci) (pd R ci) ci.O [72] hO s'->ai .next s'):az W.M dH (bY (AE W.w) (callEnvC (bP W.w 77) ar 77)) ai aj aG:=by
 obtain⟨_,bW,cO,ev,fg,rS,jV,rR,hv⟩:=ha
 dsimp only at bW cO ev fg rS jV rR hv ag
 have uB:R≠P:=λau=>by simp only[d',dw,not_or]at cO;exact cO.1.1 au
 simp only[i3]at bW hv
 have dp:(59::32::V::aJ).toArray.size=aJ.length+3:=by simp
 have im:(bh (59::32::V::aJ)).length<=bc:=by
  show(59::32::V::aJ).toArray.size<=bc
  refine H dp ?_;unfold bc;exact aL [_] 203163891163838887777370012108569041567814656 rfl bW
 have uV:(bh (59::32::V::aJ)).length<=100000:=by
  show(59::32::V::aJ).toArray.size<=_
  refine H dp ?_;exact aL [_] 793608949858745655380351609947120926266368 rfl bW
 refine zZ ag (Jf W.w) (GZ _) rfl (R3 im λ_=>.inl (by simp)) im λa5 bN=>?_
 refine nU bN (wd (aW rfl)) λbv bR=>?_
 refine nU bR (b:=false) (Mj (aW rfl) iH ?_ im) λc3 cc=>?_
 .refine H (show vO (bh (59::32::V::aJ))=bh (59::32::V::aJ)from P6 (by decide)) ?_
  rfl
 have gh:me k7 (bh (59::32::V::aJ)).cps 0 [0,((2:Nat):Int)]:=by
  refine agJ (l:=2) im (by show 2<=(59::32::V::aJ).toArray.size;refine H dp ?_;exact e_ [_] 81893794064 rfl) (λaB bL=>?_) (.inr ⟨by show 2<(59::32::V::aJ).toArray.size;refine H dp ?_;exact e_ [_] 81893794065 rfl,by simpa using aO⟩)
  match aB,bL with
  |0,_=>right;right;simp
  |1,_=>right;left;simp
 refine Ix bd cc (cQ:=.str (bh (V::aJ))) (dU:=.int 1) (ahW cc (adO W.w) (YY _) (aw:=bh (59::32::V::aJ)) (l:=2) rfl uV (by exact e_ [] 303108368 rfl) (by show 2<(59::32::V::aJ).toArray.size;refine H dp ?_;exact e_ [_] 81893794065 rfl) gh (agH im (by exact e_ [] 303108368 rfl) (by show 2<=(59::32::V::aJ).toArray.size;refine H dp ?_;exact e_ [_] 81893794064 rfl)) (y8 (l:=[59,32]) (r:=V::aJ)).symm) λdW cy=>?_
 refine eH (UU ((Me (aW (d:=.int 1) rfl) c_).on gS dW cy.c6 cy.G |>.go _ _ λe1 l2=>⟨rfl,?_⟩))
 have cU:=cy.keeps l2
 refine my cU (d:=.str (bh (V::aJ))) (aW rfl) λf3 dA=>?_
 refine dq (dq (dq (q ⟨gS,V::aJ,P,a7,rs,hF⟩ f3 ⟨oP,by simp only[i3];exact aL [_] 49600559366171603461271975809600883594240 rfl bW,cO,ev,fg,rS,jV,rR,?_⟩ (by simp only[i3];exact e_ [_] 80595054641176856564737 rfl) (dA.weak (d_:=[("text",.str (bh (V::aJ))),("pairs",.adr P),("result",.adr R),("header_values",bA)]) (i8.get ⟨rfl,rfl,rfl,rfl,trivial⟩)))))
 simp only[i3]
 exact⟨aL [_,_] 3254025082290631589073762938331062713347015680 rfl hv.1,aL [_,_,_] 2948639806170881338069744356754432 rfl hv.2⟩
theorem afr{ar:ah}{dH:br}{bA:ax}{dt:Nat}{X0 gS:List ah}{jO hF:List (ah×bJ)}{R P:ah}{mid:List (List ax)}{a7:List ax}{rs:List (ah×List ax)}{hO aG:aq}{ai:fj->aq->Prop}{aj:an->aq->Prop}{aJ:List Nat}(bQ:dt<=bc)(bd:dH.handled=none)(ha:qA dt X0 jO R mid hO ⟨gS,44::aJ,P,a7,rs,hF⟩)(N_:P≠72)(lr:∀b∈X0,b∈gS)(oP:ie aJ [] (pN (rs.map (·.2)) a7) mid)(ag:aP W (callEnvC (bP W.w 77) ar 77) gS (q2 bA R ⟨gS,44::aJ,P,a7,rs,hF⟩) (pd R ⟨gS,44::aJ,P,a7,rs,hF⟩) hF [72] hO aG)(q:∀ci s',qA dt X0 jO R mid hO ci->ci.t.length<(44::aJ).length->aP W (callEnvC (bP W.w 77) ar 77) ci.X (q2 bA R ci) (pd R ci) ci.O [72] hO s'->ai .next s'):az W.M dH (bY (AE W.w) (callEnvC (bP W.w 77) ar 77)) ai aj aG:=by
 obtain⟨_,bW,cO,ev,fg,rS,jV,rR,hv⟩:=ha
 dsimp only at bW cO ev fg rS jV rR hv ag
 have uB:R≠P:=λau=>by simp only[d',dw,not_or]at cO;exact cO.1.1 au
 have Hg:P≠R:=λau=>uB au.symm
 simp only[i3]at bW hv
 have dp:(44::aJ).toArray.size=aJ.length+1:=by simp
 have im:(bh (44::aJ)).length<=bc:=by
  show(44::aJ).toArray.size<=bc
  refine H dp ?_;unfold bc;exact aL [_] 47302779546902190551253516012295168 rfl bW
 have zz:vO (bh (44::aJ))=bh (44::aJ):=P6 (by decide)
 refine zZ ag (Jf W.w) (GZ _) rfl (R3 im λ_=>.inr (by simp)) im λa5 bN=>?_
 refine nU bN (wd (aW rfl)) λbv bR=>?_
 refine nU bR (b:=true) (Mj (aW rfl) iH ?_ im) λc3 cc=>?_
 .refine H zz ?_
  exact afD
 have abd:pz (bh (44::aJ)) (some 1) none=bh aJ:=by
  show pz (bh (44::aJ)) (some ((1:Nat):Int)) none=bh aJ
  refine H (JQ (a:=1) (b:=(bh (44::aJ)).length) (.inl rfl) (.inr ⟨rfl,rfl⟩) (by show 1<=(44::aJ).toArray.size;rw[dp];exact e_ [_] 73303855376 rfl) (eF _)) ?_
  exact y8 (l:=[44]) (r:=aJ)
 refine my cc (d:=.str (bh aJ)) (Vy (aW rfl) im (ny c_) nx zz abd) λdW cy=>?_
 refine nU cy (yz (ab:=a7) (aW (d:=.cf P a7) (by refine H (s8 _ _ _) ?_;show some (na _ (.adr P))=_;simp[na])).lF (by unfold bc;exact aL [_,_] 184969910736226193164314678948160 rfl hv.1)) λe1 cU=>?_
 cases a7 with
 |nil=>
  refine dq (uX cU λd4 f3 aQ h1 dA=>?_)
  refine q7 (Nz (R:=R) (rs:=rs) cU (s1 uB) h1) λfE gT _ wv=>?_
  refine dq (dq (dq (q ⟨d4::gS,aJ,d4,[],rs,hF⟩ f3 ⟨oP,by dsimp only;exact aL [_] 176216585736357388491964736 rfl bW,?_,λb ak=>?_,λb ak=>gQ _ (fg b ak),λB=>wv (lr _ B),jV,rR,by simp at hv ⊢;exact⟨aL [_] 176216585736357389147324736 rfl bW,aL [_,_,_] 10475673244609696768 rfl hv.2⟩⟩ (by simp) (dA.to2 (d_:=[("text",.str (bh aJ)),("pairs",.adr d4),("result",.adr R),("header_values",bA)]) (dk:=[(d4,[]),(R,gi rs)]) ⟨rfl,rfl,rfl,rfl,trivial⟩ ⟨by simp,?_,trivial⟩))))
  .simp only[d',dw,not_or]at cO ⊢
   exact⟨⟨fE.symm,cO.1.2⟩,gT,cO.2.2⟩
  .refine d2 ak ?_ λak=>?_
   .exact ev _ (.head _)
   .refine d2 ak ?_ λak=>?_
    .exact aQ
    .exact ev b (gQ _ (gQ _ ak))
  .refine H (oX fE.symm) ?_
   exact s1 uB
 |cons d r=>
  have LX:=cU.freeze (am:="pairs") (P:=P) (a7:=d::r) rfl (by simp) (by simpa using N_)
  have sL:((pd R ⟨gS,44::aJ,P,d::r,rs,hF⟩).filter λJ=>J.1 !=P)=[(R,gi rs)]:=by
   simp[qm,uB]
  rw[sL]at LX
  refine nT (aa:=R) (ab:=gi rs) (d:=.cf P (d::r)) LX rfl (by simp) (aW rfl) (by unfold gi;refine H (gz _) ?_;exact bX [_,_,_] 52085799014867016801113100764881677742400 rfl hv.2 bQ) λf3 dA=>?_
  have HR:gi rs++[.cf P (d::r)]=gi (rs++[(P,d::r)]):=by simp[gi]
  rw[HR]at dA
  refine dq (uX dA λd4 ji aQ h1 eW=>?_)
  refine q7 (Nz (R:=R) (rs:=rs++[(P,d::r)]) dA (by simp) h1) λfE gT _ wv=>?_
  refine dq (dq (dq (q ⟨d4::gS.filter (· !=P),aJ,d4,[],rs++[(P,d::r)],hF⟩ ji ⟨?_,by dsimp only;exact aL [_] 176216585736357388491964736 rfl bW,?_,λb ak=>?_,λb ak=>gQ _ (lJ.mpr ⟨fg b ak,?_⟩),λB=>wv (lJ.mpr ⟨lr _ B,?_⟩),jV,rR,?_⟩ (by simp) (eW.to2 (d_:=[("text",.str (bh aJ)),("pairs",.adr d4),("result",.adr R),("header_values",bA)]) (dk:=[(d4,[]),(R,gi (rs++[(P,d::r)]))]) ⟨rfl,rfl,rfl,rfl,trivial⟩ ⟨by simp,?_,trivial⟩))))
  .refine H gA ?_
   exact oP
  .simp only[d',dw,not_or,gA,ef,q_,fC,lK,or_false]at cO gT ⊢
   refine⟨⟨fE.symm,cO.1.2,cO.1.1⟩,gT,?_⟩
   refine H (propext q') ?_
   refine⟨cO.2.2,by simp,λa ha b ak=>?_⟩
   simp at ak
   subst ak
   exact λau=>cO.2.1 (au▸ha)
  .refine d2 ak ?_ λak=>?_
   .exact ev _ (.head _)
   .refine d2 ak ?_ λak=>?_
    .exact aQ
    .simp only[gA,fC,ef,q_,pn]at ak
     rcases ak with ak|rfl
     .exact ev b (gQ _ (gQ _ ak))
     .exact ev _ (gQ _ (.head _))
  .simpa using λau:b=P=>rS (au▸ak)
  .simpa using λau:d4=P=>rS (au▸B)
  .simp only[gJ,i3,q9]at hv ⊢
   exact⟨aL [_] 721783135176119865947442118912 rfl bW,aL [_,_,_] 2812042124323803292345843712 rfl hv.2⟩
  .refine H (oX fE.symm) ?_
   simp
end
end Mine.Tactic
namespace Mine.Tactic
open PySem.Builtin.Re
theorem ie.on{g:Prop}{t:List Nat}{a7:List ax}{rows ck:List (List ax)}(B:ie t a7 rows ck)(k0:t≠[])(k1:∀dc c9 fh cD v,t=dc++c9++fh++cD->(dc=[]\/dc=[32])->c9≠[]->(∀V∈c9,gH V=true)->oA fh v->sr cD->ie cD (a7++[.tuple [.str (bh c9),v]]) rows ck->g)(k2:∀V aJ,t=59::32::V::aJ->gH V=true->ie (V::aJ) a7 rows ck->g)(dr:∀aJ,t=44::aJ->ie aJ [] (pN rows a7) ck->g):g:=by
 cases B with
 |done=>exact absurd rfl k0
 |pair a b V d e ao=>exact k1 _ _ _ _ _ rfl a b V d e ao
 |semi a b=>exact k2 _ _ rfl a b
 |comma a=>exact dr _ rfl a
theorem aeC{t:List Nat}{a7:List ax}{rows ck:List (List ax)}(B:ie t a7 rows ck)(e:t=[]):ck=pN rows a7:=by
 cases B with
 |done=>rfl
 |pair kP pZ=>exact absurd (Ex.mp (Ex.mp (Ex.mp e).1).1).2 pZ
 |semi=>exact nomatch e
 |comma=>exact nomatch e
theorem mV.o3{t:List Nat}{gt:List (List Nat)}{rows ck:List (List ax)}(B:mV (t::gt) rows ck):∃mid,t.length<=50000/\ie t [] rows mid/\mV gt mid ck:=by
 cases B with
 |cons a b V=>exact⟨_,a,b,V⟩
theorem aez{gt:List (List Nat)}{rows ck:List (List ax)}(B:mV gt rows ck)(e:gt=[]):rows=ck:=by
 cases B with
 |nil=>rfl
 |cons=>cases e
section
variable{W:bj}{I:br}{X:List ah}{C:aq}{ai:an->aq->Prop}{aj:an->aq->Prop}
theorem afx{ar:ah}{dH:br}{bA:ax}{dt:Nat}{X0:List ah}{jO:List (ah×bJ)}{R:ah}{mid:List (List ax)}{hO aG:aq}{ai:fj->aq->Prop}{a:fZ}(bQ:dt<=bc)(bd:dH.handled=none)(bk:dH.depth<d3)(eZ:72∈X0)(cL:a.P≠72)(ha:qA dt X0 jO R mid hO a)(cp:a.t≠[])(ag:aP W (callEnvC (bP W.w 77) ar 77) a.X (q2 bA R a) (pd R a) a.O [72] hO aG)(q:∀ci s',qA dt X0 jO R mid hO ci->ci.t.length<a.t.length->aP W (callEnvC (bP W.w 77) ar 77) ci.X (q2 bA R ci) (pd R ci) ci.O [72] hO s'->ai .next s'):az W.M dH (bY (AE W.w) (callEnvC (bP W.w 77) ar 77)) ai aj aG:=by
 obtain⟨gS,t,P,a7,rs,hF⟩:=a
 refine ha.Au.on cp (λdc c9 fh cD v B h1 aA bn cK fq fs=>?_) (λV aJ B h1 aA=>?_) λaJ B h1=>?_
 .obtain rfl:t=dc++c9++fh++cD:=B
  exact afs bd bk (ha.sub _ eZ) ha h1 aA bn cK fq fs ag q
 .obtain rfl:t=59::32::V::aJ:=B
  exact aft bd ha h1 aA ag q
 .obtain rfl:t=44::aJ:=B
  exact afr bQ bd ha cL ha.sub h1 ag q
set_option maxHeartbeats 4000000 in
theorem Xf{l:ah}{h9:List (List Nat)}{ck:List (List ax)}(bd:I.handled=none)(bk:I.depth+2<d3)(aK:c0 X C)(bQ:eg W (a0 X C))(eZ:72∈X)(dI:∃a7,C.heap.get? 72=some (cb a7)/\f' 29 49 a7)(Au:mV h9 [] ck)(a_:h9.length<=100){af:List an}(aV:a3 (a0 X C) af [.cf l (h9.map λt=>.str (bh t))])(q:∀R rs s',cC [72] C s'->(∃a7,s'.heap.get? 72=some (cb a7)/\f' 29 49 a7)->rs.map (·.2)=ck->(R::rs.map (·.1)).Nodup->(∀b∈R::rs.map (·.1),C.heap.get? b=none)->aC (a0 X s') (.ref R) (.cf R (gi rs))->ai (.ref R) s'):az W.M I (df (.ref 77) af) ai aj C:=by
 refine cm dI λxi uP Ih=>?_;clear dI
 refine m7 (M:=[]) (O:=[(72,cb xi)]) (Z:=[72]) (wo W) rfl (by exact aL [_,_] 159781662758209 rfl bk) aK bQ aV (λb ak=>by simp at ak;subst ak;exact eZ) (λ_ _ e=>nomatch e) (λb dE ii=>?_) λar aG ag=>?_
 .rw[c1]at ii
  cases B:b==(72:ah)with
  |true=>rw[B]at ii;cases ii;refine H (eq_of_beq B) ?_;exact⟨uP,rfl⟩
  |false=>rw[B]at ii;cases ii
 have cA:(I.deeper (callEnvC (bP W.w 77) ar 77)).handled=none:=bd
 have b7:(I.deeper (callEnvC (bP W.w 77) ar 77)).depth=I.depth+1:=rfl
 have sI:(callEnvC (bP W.w 77) ar 77).code= .ref 76:=rfl
 generalize I.deeper (callEnvC (bP W.w 77) ar 77)=dH at cA b7 ⊢
 refine eH (UU ((we (VV (aW (d:=.cf l (h9.map λt=>.str (bh t))) rfl).lF)).on X aG ag.c6 ag.G |>.go _ _ λa5 k2=>⟨rfl,?_⟩))
 have bN:=ag.keeps k2
 refine uX bN λR bv sE zl bR=>?_
 have uC:R∉X:=λB=>by refine bH (bN.c6 R B) λN e=>?_;rw[zl]at e;cases e
 refine zX (e2:=List ah×List (ah×List ax)×List (ah×bJ)) (l:=l) (aR:=h9.map λt=>.str (bh t)) (λa=>a.1) (λa=>[("result",.adr R),("header_values",.cf l (h9.map λt=>.str (bh t)))]) (λa=>[(R,gi a.2.1)]) (λa=>a.2.2)
  (λL a=>mV (h9.drop L) (a.2.1.map (·.2)) ck/\(R::a.2.1.map (·.1)).Nodup/\(∀b∈R::a.2.1.map (·.1),C.heap.get? b=none)/\(∀b∈R::X,b∈a.1)/\pK a.2.2 72 29 49/\a.2.1.length<=60000*L)
  (λd=>[("text",d)]) (R::X,[],[(72,cb xi)]) cA (λL a _=>rfl) (λd hd=>BS) ?_ ⟨Au,by simp,λb ak=>by simp at ak;subst ak;exact sE,λb ak=>ak,⟨xi,rfl,Ih⟩,by simp⟩ (bR.to ⟨rfl,rfl,trivial⟩ ⟨by simp;rfl,trivial⟩ ⟨rfl,trivial⟩) (by simp[bc];exact aL [_] 42911888147253966172480 rfl a_) λa c3 cL cc=>?_
 .rintro L ⟨lS,JD,dO⟩ d ag N dW jL ⟨oP,cO,ev,fg,jV,bW⟩ hd uy uz cy
  dsimp only at oP cO ev fg jV bW uy uz cy
  obtain⟨k6,Ic,rfl⟩:∃t,h9[L]? =some t/\d= .str (bh t):=by
   rw[lI]at hd
   cases B:h9[L]? with
   |none=>rw[B]at hd;cases hd
   |some t=>rw[B]at hd;cases hd;exact⟨t,rfl,rfl⟩
  have HD:h9.drop L=k6::h9.drop (L+1):=by
   refine bH (kB.mp Ic) λaU e=>?_
   refine H (xL aU) ?_;refine H e ?_;rfl
  rw[HD]at oP
  refine iA oP.o3 λmid mu aex aeD=>?_
  refine my cy (d:=.str (bh k6)) (aW rfl) λe1 cU=>?_
  refine uX cU λcJ f3 He Hf dA=>?_
  have N_:cJ≠72:=λau=>by subst au;rw[uP]at He;cases He
  have Oa:cJ∉ag::lS:=λB=>by refine bH (cU.c6 cJ B) λdE e=>?_;rw[Hf]at e;cases e
  have Hg:R≠cJ:=λau=>Oa (gQ _ (au▸fg R (.head _)))
  have Zw:cJ∉JD.map (·.1):=λB=>by
   obtain⟨⟨b,r⟩,aI,rfl⟩:=kD.mp B
   obtain⟨_,_,ee,Jj,nb⟩:=cU.el R (gi JD) (by simp)
   obtain⟨aB,bL⟩:=S0 aI
   obtain⟨v,_,ez⟩:=nb.get (L:=aB) (d:=.cf b r) (by unfold gi;rw[lI,bL];rfl)
   obtain⟨_,rfl,qX,_⟩:=aC.Ah ez
   obtain⟨dD,bm⟩:=qX
   rw[fc _ bm]at Hf
   cases Hf
  refine C_ (e2:=fZ) (λa=>a.X) (q2 (.cf l (h9.map λt=>.str (bh t))) R) (pd R) (λa=>a.O) (λa=>a.t.length) (qA (60000*L+50000) (ag::lS) ((ag,N)::dO) R mid C) (λa=>decide ((bh a.t).length≠0))
   (λs'=>∃a,qA (60000*L+50000) (ag::lS) ((ag,N)::dO) R mid C a/\a.t=[]/\aP W (callEnvC (bP W.w 77) ar 77) a.X (q2 (.cf l (h9.map λt=>.str (bh t))) R a) (pd R a) a.O [72] C s') ⟨cJ::ag::lS,k6,cJ,[],JD,(ag,N)::dO⟩
   (λa ha=>V0 (aW rfl) (by have:=ha.len;simp[vN,bc];exact aL [_] 11013536609348894442156352 rfl this)) ?_ (λa ji ha cp eW=>⟨a,ha,by simpa[vN]using cp,eW⟩)
   ⟨aex,mu,by simp only[d']at cO ⊢;exact⟨by simp only[dw,not_or];exact⟨Hg,cO.1⟩,Zw,cO.2⟩,λb ak=>?_,λb ak=>gQ _ ak,Oa,?_,λb dE _ e=>e,by simp;exact⟨aL [_] 2688851711270483673408 rfl mu,bX [_,_,_] 3414471199772811918106834924744088555096134656 rfl bW mu⟩⟩
   (dA.to2 ⟨rfl,rfl,rfl,rfl,trivial⟩ ⟨by simp,s1 Hg,trivial⟩) λji NR=>?_
  .intro a hP LS ha cp fm
   refine afx (cu (EJ (vG 60000 (cu (gv (kB.mp Ic).1) a_)) 50000) (by decide)) cA (by exact bX [_,_,_] 722911837598829252977985 rfl b7 bk) (gQ _ (fg 72 (gQ _ eZ))) (λau=>?_) ha (λau=>?_) fm λci s' h1 aA bn=>⟨ci,h1,aA,bn⟩
   .have:=ha.new a.P (.tail _ (.head _))
    rw[au,uP]at this
    cases this
   .rw[au]at cp
    cases cp
  .refine d2 ak ?_ λak=>?_
   .exact ev _ (.head _)
   .refine d2 ak ?_ λak=>?_
    .exact He
    .exact ev b (gQ _ ak)
  .refine cm jV.is λa7 e B=>?_
   refine⟨a7,?_,B⟩
   refine H c1 ?_;refine H (show((72:ah)==ag)=false by simpa using λau:72=ag=>by rw[au,uy]at e;cases e) ?_
   exact e
  .refine iA NR λhK ha Pg fm=>?_;clear NR;obtain⟨F7,ajI,mP,Jp,vj,BH⟩:=hK
   obtain⟨O6,aaG,pY,CS,H',O4,Pc,OY,wS⟩:=ha
   dsimp only at O6 aaG pY CS H' O4 Pc OY wS Pg fm
   subst Pg
   have zA:=aeC O6 rfl
   have Ob:R≠mP:=λau=>by simp only[d',dw,not_or]at pY;exact pY.1.1 au
   have Zv:mP≠72:=λau=>by have:=CS mP (by simp);rw[au,uP]at this;cases this
   have NZ:ag≠72:=λau=>by
    refine cm jV.is λa7 e B=>?_
    rw[au,e]at uy
    cases uy
   have Zt:BH.lookup ag=some N:=OY ag N NZ (by simp)
   refine cm Pc.is λAo H4 Ii=>?_
   have ck:∀(yI:List ah)(tf:List (ah×List ax))(d_:bu)(dk:ce)(s':aq),(∀b∈ag::lS,b∈yI)->aP W (callEnvC (bP W.w 77) ar 77) yI d_ dk BH [72] C s'->
     d_.lookup ("result":ay)=some (.adr R)->d_.lookup ("header_values":ay)=some (.cf l (h9.map λt=>.str (bh t)))->dk.lookup R=some (gi tf)->tf.map (·.2)=mid->(R::tf.map (·.1)).Nodup->(∀b∈R::tf.map (·.1),C.heap.get? b=none)->tf.length<=60000*(L+1)->
     ∃ci:List ah×List (ah×List ax)×List (ah×bJ),(mV (h9.drop (L+1)) (ci.2.1.map (·.2)) ck/\(R::ci.2.1.map (·.1)).Nodup/\(∀b∈R::ci.2.1.map (·.1),C.heap.get? b=none)/\(∀b∈R::X,b∈ci.1)/\pK ci.2.2 72 29 49/\ci.2.1.length<=60000*(L+1))/\ci.2.2.lookup ag=none/\ag∉ci.1/\aP W (callEnvC (bP W.w 77) ar 77) (ag::ci.1) [("result",.adr R),("header_values",.cf l (h9.map λt=>.str (bh t)))] [(R,gi ci.2.1)] ((ag,N)::ci.2.2) [72] C s':=λyI tf d_ dk s' Ok yn h1 aA bn cK fq fs rL=>by
    refine⟨⟨yI.filter (· !=ag),tf,[(72,cb Ao)]⟩,⟨by dsimp only;refine H cK ?_;exact aeD,fq,fs,λb ak=>lJ.mpr ⟨Ok b (gQ _ (fg b ak)),by simpa using λau:b=ag=>uz (au▸fg b ak)⟩,⟨Ao,rfl,Ii⟩,rL⟩,?_,by simp,?_⟩
    .dsimp only
     refine H c1 ?_;refine H (show(ag==(72:ah))=false by simpa using NZ) ?_
     rfl
    .refine((yn.perm (X':=ag::yI.filter (· !=ag)) λa=>?_).weak (d_:=[("result",.adr R),("header_values",.cf l (h9.map λt=>.str (bh t)))]) (i8.get ⟨h1,aA,trivial⟩)).j0 (dk:=[(R,gi tf)]) (cI:=[(ag,N),(72,cb Ao)]) (i8.get ⟨bn,trivial⟩) (i8.get ⟨Zt,H4,trivial⟩)
     by_cases ha:a=ag
     .subst ha;simp[Ok a (.head _)]
     .simp[ha]
   refine nU fm (yz (ab:=Jp) (aW (d:=.cf mP Jp) (by refine H (s8 _ _ _) ?_;show some (na _ (.adr mP))=_;simp[na])).lF (by unfold bc;exact aL [_,_] 2822416851134902122525520192 rfl wS.1)) λpa hV=>?_
   simp only[q9,xO]at wS
   cases Jp with
   |nil=>
    refine dq (dq (ck F7 vj _ _ pa H' hV rfl rfl (s1 Ob) zA.symm ?_ (λb ak=>CS b ?_) (by exact aL [_,_] 12109511565507390038317001929463448128 rfl wS.2)))
    .simp only[d',dw,not_or]at pY ⊢
     exact⟨pY.1.2,pY.2.2⟩
    .refine d2 ak ?_ λak=>?_
     .exact .head _
     .exact gQ _ (gQ _ ak)
   |cons d r=>
    have iO:=hV.freeze (am:="pairs") (P:=mP) (a7:=d::r) rfl (by simp) (by simpa using Zv)
    have sL:((pd R ⟨F7,[],mP,d::r,vj,BH⟩).filter λJ=>J.1 !=mP)=[(R,gi vj)]:=by
     simp[qm,Ob]
    rw[sL]at iO
    refine nT (aa:=R) (ab:=gi vj) (d:=.cf mP (d::r)) iO rfl (by simp) (aW rfl) (by unfold gi bc;refine H (gz _) ?_;exact cu wS.2 (cu (EJ (vG 60000 (cu (gv (kB.mp Ic).1) a_)) 50000) (by decide))) λJI v6=>?_
    have HR:gi vj++[.cf mP (d::r)]=gi (vj++[(mP,d::r)]):=by simp[gi]
    rw[HR]at v6
    refine dq (dq (ck (F7.filter (· !=mP)) (vj++[(mP,d::r)]) _ _ JI (λb ak=>lJ.mpr ⟨H' b ak,by simpa using λau:b=mP=>O4 (au▸ak)⟩) v6 rfl rfl (by simp) ?_ ?_ (λb ak=>CS b ?_) (by simp only[gJ,i3,q9];exact aL [_,_] 3250622259024250116305481885488400520972403712 rfl wS.2)))
    .refine H gA ?_;refine H zA ?_
     rfl
    .simp only[d',dw,not_or,gA,ef,q_,fC,lK,or_false]at pY ⊢
     refine⟨⟨pY.1.2,pY.1.1⟩,?_⟩
     refine H (propext q') ?_
     refine⟨pY.2.2,by simp,λa ha b ak=>?_⟩
     simp at ak
     subst ak
     exact λau=>pY.2.1 (au▸ha)
    .simp only[gA,fC,ef,q_,dw,lK,or_false]at ak ⊢
     rcases ak with ak|ak|ak
     .exact .inl ak
     .exact .inr (.inr ak)
     .exact .inr (.inl ak)
 .obtain⟨Wg,JE,yr⟩:=a
  refine Sd cL λO5 OU OW O' Pb aaF=>?_;clear cL
  dsimp only at O5 OU OW O' Pb aaF cc
  have Zx:R≠72:=λau=>by subst au;rw[uP]at sE;cases sE
  have cy:=cc.freeze (am:="result") (P:=R) (a7:=gi JE) rfl (by simp) (by simpa using Zx)
  refine rU (d:=.cf R (gi JE)) cy (aW rfl) λv e1 cU jC=>?_
  have qe:=jC.mono (jZ (B:=e1.heap) (λb ak=>lJ.mpr ⟨O' b (gQ _ ak),by simpa using λau:b=R=>uC (au▸ak)⟩):dS _ (dJ e1.heap X))
  refine cm Pb.is λAo H4 Ii=>?_
  refine aC.eA qe λ_ bz aeu=>?_
  exact q R JE e1 cU.keep ⟨Ao,(cU.objs 72 _ H4).1,Ii⟩ (aez O5 (by simp)) OU OW (.cf bz aeu)
end
end Mine.Tactic
namespace Mine.Tactic
open PySem.Builtin PySem.Builtin.Str
theorem ac1(bq t:dN)(au:ay)(aH:au.length<=1000000):vM («str.__mod__» ⟨[.str (Uo #[34,37,115,34]) t,.str au bq],[]⟩) (λ_ R C=>∀fB k,R (.ok (.ret (.str (ia "\""++au++ia "\"") fB))) {C with toks:=k}):=by
 kpc_run_s
end Mine.Tactic
namespace Mine.Tactic
open PySem.Builtin PySem.Builtin.Str PySem.Builtin.Re
section
variable{W:bj}{I:br}{env:bB}{ae:bu}{X:List ah}{M:ce}{O:List (ah×bJ)}{Z:List ah}{av C:aq}
theorem Vz{r:a'}{al cB:bp}{k1:_}{au:ay}(aE:aY W I env ae r (.str au))(aH:au.length<=1000000):aY W I env ae (.BinOp (.Constant (.str (Uo #[34,37,115,34])) k1 cB) .Mod r al) (.str (ia "\""++au++ia "\"")):=
 mQ iH aE λX C bx bE aK _ aT bb=>⟨λai aj q=>by
  refine aC.eS aT λ_=>?_;refine aC.eS bb λ_=>?_
  exact KPc.mod_str rfl aH (λau aH=>ac1 _ _ au aH) λfB k=>q _ _ (ey C k) (.str _ _)⟩
end
end Mine.Tactic
namespace Mine.Tactic
open PySem.Builtin PySem.Builtin.Str PySem.Builtin.Re
section
variable{W:bj}{I:br}{env:bB}{ae:bu}{X:List ah}{C:aq}
theorem Sh{e:a'}{J:bp}{D:ay}{ai:an->aq->Prop}{aj:an->aq->Prop}(B:aY W I env ae e (.str D))(aK:c0 X C)(G:fQ W env ae (a0 X C))(aH:D.length<=bc)(q:∀t s',cS C s'->ai (.str D t) s'):az W.M I (b1 (.FormattedValue e 115 none J) env) ai aj C:=by
 have hw:D.length<=ol:=jD aH
 refine wpAny_FormattedValue_s ((B.on X C aK G).go _ _ λv aG k1 aT=>?_)
 refine aC.eS aT λ_=>?_
 exact habitSame_str (λfB bg=>aik (λeE k2=>q eE _ (b5 k1 (ey aG _))) hw) hw
theorem Vs{a8 bm:a'}{al cB cY eM:bp}{k:_}{D am V:ay}(h1:aY W I env ae a8 (.str D))(aA:aY W I env ae bm (.str am))(aH:D.length+V.length+am.length<=bc):aY W I env ae (.JoinedStr [.FormattedValue a8 115 none cB,.Constant (.str V) k eM,.FormattedValue bm 115 none cY] al) (.str (D++V++am)):=⟨λX C aK G=>⟨λai aj q=>by
 have f7:Fi++D=D:=KPc.empty_app D
 refine aie (KZ (Sh h1 aK G (by exact aL [_,_,_] 2942217043163188887462555963912512 rfl aH) λt1 aG k1=>?_))
 dsimp only
 refine H f7 ?_
 refine⟨jD (by exact aL [_,_,_] 2942217043163188887462555963912512 rfl aH),KZ (FD ?_)⟩
 refine⟨jD (by refine H (Bq _ _) ?_;exact aL [_,_,_] 753207563049776355190414326761608192 rfl aH),KZ (Sh aA (aK.mono (b5 k1 (ey aG _))) (G.mono (cg (b5 k1 (ey aG _)))) (by exact aL [_,_,_] 2942217043163153218953507189584192 rfl aH) λeE a5 k2=>?_)⟩
 have aN:(D++V++am).length<=bc:=by refine H (Bq _ _) ?_;refine H (Bq _ _) ?_;exact aL [_,_,_] 192821136140742746928746067650972827648 rfl aH
 exact⟨jD aN,joinParts_nil (q _ _ (b5 (b5 k1 (ey aG _)) (b5 k2 (ey a5 _))) (.str _ _)) (jD aN)⟩⟩⟩
end
end Mine.Tactic
namespace Mine.Tactic
open PySem.Builtin PySem.Builtin.Str PySem.Builtin.Re
noncomputable def Dd:Array Nat:=#[14,4,0,1,4294967295,24,16,1,4294967295,13,11,9,0,67071226,3355443198,1476395007,0,0,0,0,0,1,1]
noncomputable def Db:Array Nat:=#[14,9,4,1,1,16,34,16,92,0,17,0,13,6,16,34,16,92,0,17,1,1]
theorem adN(w:c4):iP w 82 81 0 Dd:=⟨⟨_,_,rfl⟩,⟨_,_,_,rfl,rfl,by kernel_rfl⟩⟩
theorem adM(w:c4):iP w 87 86 1 Db:=⟨⟨_,_,rfl⟩,⟨_,_,_,rfl,rfl,by kernel_rfl⟩⟩
theorem YS(w:c4):dF (cZ w) dh "HEADER_JOIN_TOKEN_RE"=some (some (.ref 82)):=by kernel_rfl
theorem YR(w:c4):dF (cZ w) dh "HEADER_JOIN_ESCAPE_RE"=some (some (.ref 87)):=by kernel_rfl
structure yq (code aw:Array Nat) (g:Nat):Prop where
 run:∃k bS,k<=2^60/\(Sre.forMatch code aw g 0 aw.size true false).runFor k=bS/\bS.outcome=some .failed
theorem acc:yq Dd #[] 0:=⟨1,_,by decide,rfl,by kernel_rfl⟩
theorem acd:yq Dd #[61] 0:=⟨10,_,by decide,rfl,by kernel_rfl⟩
theorem ab8:kJ Db #[] 1:=⟨1,_,by decide,rfl,by kernel_rfl⟩
theorem ab9:kJ Db #[61] 1:=⟨10,_,by decide,rfl,by kernel_rfl⟩
section
variable{W:bj}{I:br}{env:bB}{ae:bu}{X:List ah}{M:ce}{O:List (ah×bJ)}{Z:List ah}{av C:aq}{aj:an->aq->Prop}
variable{P aX:ah}{g:Nat}{code:Array Nat}
theorem aeF{aw:ay}{bg:dN}{ai:an->aq->Prop}(J:iP W.w P aX g code)(bQ:eg W C.heap)(aH:aw.length<=bc)(aI:yq code aw.cps g)(q:ai .none C):az W.M I (df (.builtin "re.Pattern.fullmatch") [.ref P,.str aw bg]) ai aj C:=by
 refine l6 aI.run λk bS hk aI a6=>?_
 refine l' F.Rx (Al J bQ) F.Ye ?_ (F.Ws _ _)
 unfold fX.«re.Pattern.fullmatch»
 refine aM (Jw J bQ aH ?_)
 unfold reAnswer
 refine aM (Av (ky:=false) k aI (by refine H a6 ?_;rfl) hk ?_)
 exact b6 ⟨_,rfl,q⟩
theorem Vt{G:ay}{fy dn al:bp}{e:a'}{aw:ay}(J:iP W.w P aX g code)(bA:dF (cZ W.w) dh G=some (some (.ref P)))(bw:aY W I env ae e (.str aw))(aH:aw.length<=bc)(aI:yq code aw.cps g)(hk:autoParam (env.kindOf G=some .globalImplicit) tR)(bV:autoParam (eQ e=false) tR)(fS:autoParam ((dn.endLine==al.line)=true) tR)(fR:autoParam (jK (.Name G fy) "fullmatch" env (b1 (.Name G fy) env)=b1 (.Name G fy) env) tR)(hd:autoParam ((G==("__debug__":ay))=false) tD):aY W I env ae (.Call (.Attribute (.Name G fy) "fullmatch" dn) [e] [] al) .none:=⟨λX C aK BD=>⟨λai aj q=>by
 refine jF J.pat λa7 gU aF=>?_
 have cL:=(BD.base.mono (cP (B:=C.heap) (X:=X))).K _ _ aF
 refine xX fR (h8 bV []) fS (o2 BD hk bA ?_ hd)
 refine⟨"re.Pattern",_,F.Jk,F.Rx,F.agT,⟨_,cL,rfl⟩,λb e=>?_,?_⟩
 .cases e
  exact⟨_,cL,rfl⟩
 .refine jQ (λ_ e=>nomatch e) rfl (k' (g0 ((bw.on X C aK BD).go _ _ λv aG k1 aT=>jJ ?_)))
  refine aC.eS aT λ_=>?_
  exact aeF J ((BD.mono (cg k1)).base.mono cP) aH aI (q _ _ k1 .none)⟩⟩
end
theorem yX(W:bj):hC W 94 (hm W.w 94) (bP W.w 94) (dT W.w 94) ["lists"]:=by
 refine⟨rfl,rfl,rfl,rfl,rfl,rfl,rfl,rfl,rfl,rfl,rfl,by decide,by decide,λaf B=>?_⟩
 refine bH (oV B) λa dC=>?_;subst dC
 kernel_rfl
end Mine.Tactic
namespace Mine.Tactic
open PySem.Builtin PySem.Builtin.Str PySem.Builtin.Re
inductive nA
 |no|em|eq
noncomputable def nA.dat:nA->ax
 | .no=>.none
 | .em=>.str ⟨#[]⟩
 | .eq=>.str ⟨#[61]⟩
noncomputable def nA.txt:nA->List Nat
 | .no=>[]
 | .em=>[61,34,34]
 | .eq=>[61,34,61,34]
noncomputable abbrev kc:=List Nat×nA
noncomputable abbrev cX(J:kc):ax:=.tuple [.str (bh J.1),J.2.dat]
noncomputable abbrev kY(J:kc):List Nat:=J.1++J.2.txt
noncomputable abbrev n5(r:ah×List kc):ax:=.cf r.1 (r.2.map cX)
noncomputable def n6(r:List kc):ay:=mL (bh [59,32]) (r.map λJ=>bh (kY J))
noncomputable def z1(rs:List (List kc)):ay:=mL (bh [44,32]) ((rs.filter λr=> !r.isEmpty).map n6)
section
variable{W:bj}{I:br}{env:bB}{ae:bu}{X:List ah}{M:ce}{O:List (ah×bJ)}{Z:List ah}{av C:aq}
theorem Mf{l r:a'}{al:bp}(aN:aY W I env ae l .none)(aE:aY W I env ae r .none)(aI:autoParam (kH .IsNot r=false) tW):ej W I env ae (.Compare l [.IsNot] [r] al) false:=
 mS aN aE (λX C bx bE aK _ aT bb=>by refine aC.eU aT ?_;refine aC.eU bb ?_;exact⟨λai aj q=>aiq (q _ _ (gb C) (.bool _))⟩) aI
theorem VU{l r:a'}{al:bp}{D:ay}(aN:aY W I env ae l (.str D))(aE:aY W I env ae r .none)(aI:autoParam (kH .IsNot r=false) tW):ej W I env ae (.Compare l [.IsNot] [r] al) true:=
 mS aN aE (λX C bx bE aK _ aT bb=>by refine aC.eS aT λ_=>?_;refine aC.eU bb ?_;exact⟨λai aj q=>air (q _ _ (gb C) (.bool _))⟩) aI
noncomputable def ab'(w:c4):List cT:=rZ (dT w 94) 1
noncomputable def PE(w:c4):List cT:=rZ (ab' w) 1
theorem aca{ar:ah}{dH:br}{T ge:ah}{k:List Nat}{v:nA}{gt:List ay}{a9:List ay}{ai:fj->aq->Prop}{aj:an->aq->Prop}(bd:dH.handled=none)(ft:89∈X)(jV:pK O 89 60 50)(sF:T≠ge)(hk:k.length<=50000)(aH:gt.length<=bc)(ag:aP W (callEnvC (bP W.w 94) ar 94) X ae [(T,gt.map .str),(ge,a9.map .str)] O [89] av C)(h1:ae.lookup ("attr":ay)=some (.adr T))(aA:ae.lookup ("v":ay)=some v.dat)(bn:ae.lookup ("k":ay)=some (.str (bh k)))(q:∀s' cI d_,aP W (callEnvC (bP W.w 94) ar 94) X d_ [(T,(gt++[bh (kY (k,v))]).map .str),(ge,a9.map .str)] cI [89] av s'->(∀am,am≠("v":ay)->am≠("k":ay)->d_.lookup am=ae.lookup am)->pK cI 89 60 50->(∀b N,b≠89->O.lookup b=some N->cI.lookup b=some N)->ai .next s'):az W.M dH (bY (PE W.w) (callEnvC (bP W.w 94) ar 94)) ai aj C:=by
 have ON:("k":ay)≠("v":ay):=by decide
 have On:("attr":ay)≠("v":ay):=by decide
 have ZO:("attr":ay)≠("k":ay):=by decide
 have zb:∀cQ dU:ax,A5 ("k":ay) (("v",cQ)::("v",dU)::ae)=some (.str (bh k)):=λcQ dU=>by refine H (ir ON) ?_;refine H (ir ON) ?_;exact bn
 have pR:∀cQ dU oC:ax,A5 ("attr":ay) (("k",cQ)::("v",dU)::("v",oC)::ae)=some (.adr T):=λcQ dU oC=>by refine H (ir ZO) ?_;refine H (ir On) ?_;refine H (ir On) ?_;exact h1
 have sQ:(bh k).length<=1000000:=by show k.toArray.size<=_;refine H mI ?_;exact aL [_] 43021627380330359968064 rfl hk
 have aw:∀c8:List Nat,c8.length<=1->v.dat= .str (bh c8)->kY (k,v)=k++[61]++([34]++c8++[34])->yq Dd c8.toArray 0->kJ Db c8.toArray 1->az W.M dH (bY (PE W.w) (callEnvC (bP W.w 94) ar 94)) ai aj C:=λc8 hX hd cp gM kW=>by
  have dp:(bh c8).length<=1:=by show c8.toArray.size<=_;refine H mI ?_;exact hX
  rw[hd]at aA
  refine m8 ag (VU (aW aA) qz) λa5 bN=>?_
  refine m8 bN (we (wd (Vt (adN W.w) (YS _) (aW aA) (by unfold bc;exact aL [_] 2676008500385575629120 rfl dp) gM))) λbv bR=>?_
  refine PB bR (adM W.w) (YR _) aA kW (by exact aL [_] 10453158206889808192 rfl dp) (T:=89) (V:=93) (l3:=60) (lU:=50) jV rfl (by simp) ft (by simp) rfl rfl λc3 yr cc yF Cu=>?_
  refine my cc (Vz (au:=bh c8) (aW rfl) (by exact aL [_] 10453158265872208192 rfl dp)) λdW cy=>dq ?_
  have sJ:(ia "=").length=1:=by decide
  have ba:(ia "\""++bh c8++ia "\"").length<=3:=by
   refine H (Bq _ _) ?_;refine H (Bq _ _) ?_
   have:(ia "\"").length=1:=by decide
   exact bX [_,_] 186255175814925668420239360 rfl this dp
  refine my cy (Vs (D:=bh k) (aW (zb _ _)) (aW rfl) (by refine H sJ ?_;unfold bc;exact bX [_,_] 52088547381805680948613747475821557268480 rfl sQ ba)) λe1 cU=>dq ?_
  have e:bh k++ia "="++(ia "\""++bh c8++ia "\"")=bh (kY (k,v)):=by
   refine H cp ?_
   show(⟨k.toArray++#[61]++(#[34]++c8.toArray++#[34])⟩:ay)=_
   congr 1
   apply sb.mp
   simp
  rw[e]at cU
  refine nT (aa:=T) (ab:=gt.map .str) (d:=.str (bh (kY (k,v)))) cU (pR _ _ _) (by simp) (aW rfl) (by refine H (gz _) ?_;exact aH) λf3 dA=>dq ?_
  refine q f3 yr _ (dA.j0 (dk:=[(T,(gt++[bh (kY (k,v))]).map .str),(ge,a9.map .str)]) (i8.get ⟨by simp,by refine H (oX sF.symm) ?_;refine H (s1 sF.symm) ?_;rfl,trivial⟩) λ_ _ e=>e) (λam a b=>?_) yF Cu
  refine H (ir b) ?_;refine H (ir a) ?_;refine H (ir a) ?_;rfl
 cases v with
 |no=>
  refine m8 ag (Mf (aW aA) qz) λa5 bN=>dq ?_
  refine nT (aa:=T) (ab:=gt.map .str) (d:=.str (bh k)) bN h1 (by simp) (aW bn) (by refine H (gz _) ?_;exact aH) λf3 dA=>dq ?_
  have e:kY (k,.no)=k:=by simp[kY,nA.txt]
  rw[e]at q
  exact q f3 O _ (dA.j0 (dk:=[(T,(gt++[bh k]).map .str),(ge,a9.map .str)]) (i8.get ⟨by simp,by refine H (oX sF.symm) ?_;refine H (s1 sF.symm) ?_;rfl,trivial⟩) λ_ _ e=>e) (λam a b=>rfl) jV λb N _ e=>e
 |em=>exact aw [] (by simp) rfl (by simp[kY,nA.txt]) acc ab8
 |eq=>exact aw [61] (by simp) rfl (by simp[kY,nA.txt]) acd ab9
end
end Mine.Tactic
namespace Mine.Tactic
open PySem.Builtin PySem.Builtin.Str PySem.Builtin.Re
noncomputable def p3(rs:List (List kc)):List ay:=(rs.filter λr=> !r.isEmpty).map n6
theorem O8(rs:List (List kc))(r:List kc):p3 (rs++[r])=p3 rs++(if r.isEmpty then []else [n6 r]):=by
 unfold p3
 cases r<;>simp[List.filter_append]
theorem O9(rs:List (List kc)):(p3 rs).length<=rs.length:=by
 unfold p3
 refine H (gz _) ?_
 exact S2 _ _
noncomputable def adJ:ax->bu
 | .tuple [cQ,dU]=>[("v",dU),("k",cQ)]
 |_=>[]
structure wf (r:List kc):Prop where
 len:r.length<=200
 names:∀J∈r,J.1.length<=100
theorem Dc{D:ay}{Y:Nat}:∀{bT:List ay},(∀am∈bT,am.length<=Y)->(bT.map (·.length)).sum+bT.length*D.length<=bT.length*(Y+D.length)
 |[],_=>by simp
 |am::bT,B=>by
  have h1:=B am (.head _)
  have aA:=Dc (D:=D) λau aH=>B au (.tail _ aH)
  simp only[ef,A6,i3]
  refine H (EK _ _ _) ?_;refine H (EK _ _ _) ?_
  exact bX [_,_,_,_,_,_] 794916199409686943389175307835883520 rfl h1 aA
theorem acb{D:ay}:∀(bT:List ay),(mL D bT).length<=(bT.map (·.length)).sum+bT.length*D.length:=by
 intro bT
 show(glued D bT).length<=_
 refine H (Up _ _) ?_
 exact ai2 D bT
theorem adX{J:kc}(B:J.1.length<=100):(bh (kY J)).length<=104:=by
 show(kY J).toArray.size<=104
 refine H mI ?_;refine H gJ ?_
 have:J.2.txt.length<=4:=by cases J.2<;>decide
 exact bX [_,_] 185060417118136490910635008 rfl B this
theorem JB{r:List kc}(B:wf r):((r.map λJ=>bh (kY J)).map (·.length)).sum+(r.map λJ=>bh (kY J)).length *(bh [59,32]).length<=21200:=by
 have h1:=Dc (D:=bh [59,32]) (Y:=104) (bT:=r.map λJ=>bh (kY J)) λam bZ=>by
  refine dQ bZ λJ aF=>?_
  exact adX (B.names J aF)
 have aA:(r.map λJ=>bh (kY J)).length<=200:=by refine H (gz _) ?_;exact B.len
 have bn:(bh [59,32]).length=2:=rfl
 rw[bn]at h1 ⊢
 have:=ET (104+2) aA
 exact bX [_,_,_] 3413587959733505739355825288702662400989541376 rfl h1 this
theorem Rj{r:List kc}(B:wf r):(n6 r).length<=21200:=cu (acb _) (JB B)
theorem Wl{rs:List (List kc)}(B:∀r∈rs,wf r)(a_:rs.length<=200):((p3 rs).map (·.length)).sum+(p3 rs).length *(bh [44,32]).length<=16777216:=by
 have h1:=Dc (D:=bh [44,32]) (Y:=21200) (bT:=p3 rs) λam bZ=>by
  refine dQ bZ λr aE=>?_
  exact Rj (B r (lJ.mp aE).1)
 have aA:=cu (O9 rs) a_
 have bn:(bh [44,32]).length=2:=rfl
 rw[bn]at h1 ⊢
 have:=ET (21200+2) aA
 exact bX [_,_,_] 3579406378755903905729648068143283701155547452617728 rfl h1 this
end Mine.Tactic
namespace Mine.Tactic
open PySem.Builtin PySem.Builtin.Str PySem.Builtin.Re
section
variable{W:bj}{I:br}{X:List ah}{C:aq}{ai:an->aq->Prop}{aj:an->aq->Prop}
set_option maxHeartbeats 4000000 in
theorem MR{l:ah}{rows:List (ah×List kc)}(bd:I.handled=none)(bk:I.depth+2<d3)(aK:c0 X C)(bQ:eg W (a0 X C))(ft:89∈X)(dI:∃a7,C.heap.get? 89=some (cb a7)/\f' 60 50 a7)(hv:∀r∈rows,wf r.2)(a_:rows.length<=200){af:List an}(aV:a3 (a0 X C) af [.cf l (rows.map n5)])(q:∀v s',cC [89] C s'->(∃a7,s'.heap.get? 89=some (cb a7)/\f' 60 50 a7)->aC (a0 X s') v (.str (z1 (rows.map (·.2))))->ai v s'):az W.M I (df (.ref 94) af) ai aj C:=by
 refine cm dI λxi uP Ih=>?_;clear dI
 refine m7 (M:=[]) (O:=[(89,cb xi)]) (Z:=[89]) (yX W) rfl (by exact aL [_,_] 159781662758209 rfl bk) aK bQ aV (λb ak=>by simp at ak;subst ak;exact ft) (λ_ _ e=>nomatch e) (λb dE ii=>?_) λar aG ag=>?_
 .rw[c1]at ii
  cases B:b==(89:ah)with
  |true=>rw[B]at ii;cases ii;refine H (eq_of_beq B) ?_;exact⟨uP,rfl⟩
  |false=>rw[B]at ii;cases ii
 have cA:(I.deeper (callEnvC (bP W.w 94) ar 94)).handled=none:=bd
 have b7:(I.deeper (callEnvC (bP W.w 94) ar 94)).depth=I.depth+1:=rfl
 generalize I.deeper (callEnvC (bP W.w 94) ar 94)=dH at cA b7 ⊢
 refine uX ag λge bv aji Zl bR=>?_
 have Zn:ge∉X:=λB=>by refine bH (ag.c6 ge B) λN e=>?_;rw[Zl]at e;cases e
 have Zm:ge≠89:=λau=>Zn (au▸ft)
 refine zX (e2:=List ah×List ay×Array an) (l:=l) (aR:=rows.map n5) (λa=>a.1) (λa=>[("headers",.adr ge),("lists",.cf l (rows.map n5))]) (λa=>[(ge,a.2.1.map .str)]) (λa=>[(89,cb a.2.2)])
  (λL a=>a.2.1=p3 ((rows.take L).map (·.2))/\(∀b∈ge::X,b∈a.1)/\f' 60 50 a.2.2)
  (λd=>[("pairs",d)]) (ge::X,[],xi) cA (λL a _=>rfl) (λd hd=>BS) ?_ ⟨rfl,λb ak=>ak,Ih⟩ (bR.to ⟨rfl,rfl,trivial⟩ ⟨by simp,trivial⟩ ⟨rfl,trivial⟩) (by refine H (gz _) ?_;unfold bc;exact aL [_] 43027180297714650870080 rfl a_) λa c3 cL cc=>?_
 .rintro L ⟨lS,a9,age⟩ d bG jf dW jL ⟨rO,fg,Pd⟩ hd uy uz cy
  dsimp only at rO fg Pd uy uz cy
  obtain⟨r,aE,rfl⟩:∃r,rows[L]? =some r/\d=n5 r:=by
   rw[lI]at hd
   cases B:rows[L]? with
   |none=>rw[B]at hd;cases hd
   |some t=>rw[B]at hd;cases hd;exact⟨t,rfl,rfl⟩
  have aU:L<rows.length:=(kB.mp aE).1
  have C3:rows.take (L+1)=rows.take L++[r]:=by
   refine H (A7 aU) ?_;refine H ((kB.mp aE).2) ?_;rfl
  have zI:wf r.2:=hv r (qo aE)
  have G8:bG≠89:=λau=>by subst au;simp at uy
  refine uX cy λT e1 ajk ZF cU=>?_
  have Hp:T∉bG::lS:=λB=>by refine bH (cy.c6 T B) λN e=>?_;rw[ZF]at e;cases e
  have sF:T≠ge:=λau=>Hp (gQ _ (au▸fg ge (.head _)))
  have NS:(89:ah)∈lS:=fg 89 (gQ _ ft)
  have ZG:T≠89:=λau=>Hp (gQ _ (au▸NS))
  refine zX (e2:=List ay×Array an) (l:=r.1) (aR:=r.2.map cX) (λ_=>T::bG::lS) (λ_=>[("attr",.adr T),("pairs",n5 r),("headers",.adr ge),("lists",.cf l (rows.map n5))]) (λa=>[(T,a.1.map .str),(ge,a9.map .str)]) (λa=>[(bG,jf),(89,cb a.2)])
   (λaB a=>a.1=(r.2.take aB).map (λJ=>bh (kY J))/\f' 60 50 a.2)
   adJ ([],age) cA (λaB a _=>rfl) (λd hd=>?_) ?_ ⟨rfl,Pd⟩ (cU.to2 ⟨rfl,rfl,rfl,rfl,trivial⟩ ⟨by simp,s1 sF.symm,trivial⟩) (by refine H (gz _) ?_;have:=zI.len;unfold bc;exact aL [_] 43027180297714650870080 rfl this) λa f3 N9 dA=>?_
  .refine dQ hd λJ aF=>?_
   exact F5 cA
  .rintro aB ⟨gt,AM⟩ dU dK gj ji LS ⟨nP,zN⟩ hu wD zj eW
   dsimp only at nP zN wD zj eW
   obtain⟨J,aF,rfl⟩:∃J,r.2[aB]? =some J/\dU=cX J:=by
    rw[lI]at hu
    cases B:r.2[aB]? with
    |none=>rw[B]at hu;cases hu
    |some t=>rw[B]at hu;cases hu;exact⟨t,rfl,rfl⟩
   have bL:aB<r.2.length:=(kB.mp aF).1
   have Ig:r.2.take (aB+1)=r.2.take aB++[J]:=by
    refine H (A7 bL) ?_;refine H ((kB.mp aF).2) ?_;rfl
   have G_:dK≠bG:=λau=>by subst au;simp at wD
   have G9:dK≠89:=λau=>by
    subst au
    rw[oX G_]at wD
    simp at wD
   have bW:=zI.len
   refine aca (v:=J.2) (k:=J.1) cA (T:=T) (ge:=ge) (gQ _ (gQ _ (gQ _ NS))) ⟨AM,by refine H (oX G9.symm) ?_;refine H (oX G8.symm) ?_;simp,zN⟩ sF (by have:=zI.names J (qo aF);exact aL [_] 10476535195209056576 rfl this) (by refine H nP ?_;refine H (gz _) ?_;have:=List.length_take_le aB r.2;unfold bc;exact j1 [_,_,_] 194672418142187628428743571173696 rfl this bL bW) eW rfl rfl rfl λhP BH ajO fm C7 Wb N8=>?_
   refine cm Wb.is λRX abl abp=>?_
   refine⟨(gt++[bh (kY J)],RX),⟨by dsimp only;refine H nP ?_;refine H Ig ?_;refine H gA ?_;rfl,abp⟩,?_,zj,(fm.weak (d_:=[("attr",.adr T),("pairs",n5 r),("headers",.adr ge),("lists",.cf l (rows.map n5))]) (i8.get ⟨?_,?_,?_,?_,trivial⟩)).j0 (cI:=[(dK,gj),(bG,jf),(89,cb RX)]) (λ_ _ e=>e) (i8.get ⟨?_,?_,abl,trivial⟩)⟩
   .dsimp only
    refine H (oX G_) ?_;refine H (oX G9) ?_;rfl
   .refine H (C7 _ (by decide) (by decide)) ?_;rfl
   .refine H (C7 _ (by decide) (by decide)) ?_;rfl
   .refine H (C7 _ (by decide) (by decide)) ?_;rfl
   .refine H (C7 _ (by decide) (by decide)) ?_;rfl
   .exact N8 dK gj G9 (by simp)
   .exact N8 bG jf G8 (by refine H (oX G_.symm) ?_;simp)
  .obtain⟨gt,AM⟩:=a
   refine d8 N9 λnP zN=>?_;clear N9
   dsimp only at nP zN dA
   rw[gz,EI]at nP
   have eW:=dA.freeze (am:="attr") (P:=T) (a7:=gt.map .str) rfl (by simp) (by simpa using ZG)
   have sL:([(T,gt.map ax.str),(ge,a9.map ax.str)].filter λJ=>J.1 !=T)=[(ge,a9.map .str)]:=by
    simp[sF.symm]
   have fm:=eW.j0 (dk:=[(ge,a9.map .str)]) (cI:=[(bG,jf),(89,cb AM)]) (λ_ _ e=>by refine H sL ?_;exact e) λ_ _ e=>e
   have ck:∀(ec:List ay)(d_:bu)(s':aq),aP W (callEnvC (bP W.w 94) ar 94) ((T::bG::lS).filter (· !=T)) d_ [(ge,ec.map .str)] [(bG,jf),(89,cb AM)] [89] C s'->d_.lookup ("headers":ay)=some (.adr ge)->d_.lookup ("lists":ay)=some (.cf l (rows.map n5))->ec=p3 ((rows.take (L+1)).map (·.2))->
     ∃ci:List ah×List ay×Array an,(ci.2.1=p3 ((rows.take (L+1)).map (·.2))/\(∀b∈ge::X,b∈ci.1)/\f' 60 50 ci.2.2)/\A5 bG [(89,cb ci.2.2)]=none/\bG∉ci.1/\aP W (callEnvC (bP W.w 94) ar 94) (bG::ci.1) [("headers",.adr ge),("lists",.cf l (rows.map n5))] [(ge,ci.2.1.map .str)] [(bG,jf),(89,cb ci.2.2)] [89] C s':=λec d_ s' yn h1 aA bn=>by
    refine⟨⟨lS,ec,AM⟩,⟨bn,fg,zN⟩,by dsimp only;refine H (oX G8) ?_;rfl,uz,(yn.perm λa=>?_).weak (d_:=[("headers",.adr ge),("lists",.cf l (rows.map n5))]) (i8.get ⟨h1,aA,trivial⟩)⟩
    by_cases ha:a=T
    .subst ha;simp[Hp]
    .simp[ha]
   refine m8 fm (yz (ab:=gt.map .str) (aW (d:=.cf T (gt.map .str)) rfl).lF (by refine H nP ?_;refine H (gz _) ?_;refine H (gz _) ?_;have:=zI.len;unfold bc;exact aL [_] 43027180297714650870080 rfl this)) λpa hV=>?_
   have lZ:mL (bh [59,32]) gt=n6 r.2:=by refine H nP ?_;rfl
   have aaw:a9.length<=rows.length:=by
    refine H rO ?_
    refine cu (O9 _) ?_
    refine H (gz _) ?_
    exact List.length_take_le' _ _
   cases Ph:gt with
   |nil=>
    have oO:r.2=[]:=by rw[Ph]at nP;simpa using nP.symm
    refine dq (dq (ck a9 _ pa hV rfl rfl ?_))
    refine H C3 ?_;refine H gA ?_;refine H ef ?_;refine H q_ ?_;refine H (O8 _ _) ?_;refine H oO ?_;refine b' rO ?_
    simp
   |cons k6 kv=>
    have oO:r.2.isEmpty=false:=by
     cases B:r.2 with
     |nil=>rw[B,Ph]at nP;cases nP
     |cons=>rfl
    refine nT (aa:=ge) (ab:=a9.map .str) (d:=.str (n6 r.2)) hV rfl (by simp) ?_ (by refine H (gz _) ?_;unfold bc;exact bX [_,_] 2961604420063607730902954304 rfl aaw a_) λqh iO=>?_
    .refine b' lZ ?_
     exact v_ iH (aW (d:=.cf T (gt.map .str)) rfl).lF (by refine H nP ?_;exact cu (JB zI) (by decide))
    .refine dq (dq (ck (a9++[n6 r.2]) _ qh (iO.j0 (i8.get ⟨by simp,trivial⟩) λ_ _ e=>e) rfl rfl ?_))
     refine H C3 ?_;refine H gA ?_;refine H ef ?_;refine H q_ ?_;refine H (O8 _ _) ?_;refine H oO ?_;refine b' rO ?_
     simp
 .obtain⟨Wg,a9,agf⟩:=a
  refine fb cL λrO fg Pe=>?_;clear cL
  dsimp only at rO fg Pe cc
  rw[gz,EI]at rO
  have cy:=cc.freeze (am:="headers") (P:=ge) (a7:=a9.map .str) rfl (by simp) (by simpa using Zm)
  have bL:mL (bh [44,32]) a9=z1 (rows.map (·.2)):=by refine H rO ?_;rfl
  refine rU (d:=.str (z1 (rows.map (·.2)))) cy ?_ λv e1 cU jC=>?_
  .refine b' bL ?_
   exact v_ iH (aW (d:=.cf ge (a9.map .str)) rfl).lF (by
    refine H rO ?_
    exact Wl (λr aE=>by refine dQ aE λdM kO=>?_;exact hv dM kO) (by refine H (gz _) ?_;exact a_))
  .refine aC.eS jC λ_=>?_
   exact q _ e1 cU.keep ⟨agf,(cU.objs 89 _ (by simp)).1,Pe⟩ (.str _ _)
end
end Mine.Tactic
namespace Mine.Tactic
section
variable{W:bj}{I:br}{env:bB}{X:List ah}{ae:bu}{M:ce}{O:List (ah×bJ)}{Z:List ah}{av C:aq}{ai:fj->aq->Prop}{aj:an->aq->Prop}
theorem abP{e2:Type}{dd:a'}{am:ay}{py al:bp}{body aJ:List cT}{aR:Array UInt8}(fp:e2->List ah)(gu:e2->bu)(fY:e2->ce)(eG:e2->List (ah×bJ))(P:Nat->e2->Prop)(AL:ax->bu)(f0:e2)(bd:I.handled=none)(bZ:∀L a,P L a->(gu a).lookup am=some (.bytes aR))(Ie:∀V:UInt8,yH W I env dd (.int V.toNat) (AL (.int V.toNat)))(nK:∀L a V ag N C jL,P L a->aR[L]? =some V->(eG a).lookup ag=none->ag∉fp a->aP W env (ag::fp a) (AL (.int V.toNat)++gu a) (fY a) ((ag,N)::eG a) Z av C->az W.M I (bY body env) (λao s'=>match ao with
   | .next | .cont=>∃ci,P (L+1) ci/\(eG ci).lookup ag=none/\ag∉fp ci/\aP W env (ag::fp ci) (gu ci) (fY ci) ((ag,N)::eG ci) Z av s'
   | .brk=>False
   | .ret v=>ai (.ret v) s') jL C)(aQ:P 0 f0)(iN:aP W env (fp f0) (gu f0) (fY f0) (eG f0) Z av C)(aH:aR.size<=bc)(next:∀a s',P aR.size a->aP W env (fp a) (gu a) (fY a) (eG a) Z av s'->az W.M I (bY aJ env) ai aj s'):az W.M I (bY (.For dd (.Name am py) body [] al::aJ) env) ai aj C:=by
 have zJ:∀{a},C.heap.get? a=none->av.heap.get? a=none:=λ{a} B=>by
  cases q:av.heap.get? a with
  |none=>rfl
  |some N=>
   exfalso
   by_cases aH:a∈Z
   .refine bH (iN.c6 _ (iN.hS _ aH)) λb0 e=>?_
    rw[B]at e;cases e
   .have:=iN.keep.keep _ _ aH q
    rw[B]at this;cases this
 refine eH (LL (((aW (bZ 0 f0 aQ)).on _ C iN.c6 iN.G).go _ _ λv aG k1 aT=>?_) (by intro _;rfl))
 have rQ:aG.heap.get? aG.heap.objs.size=none:=iC (eF _)
 have pX:av.heap.get? aG.heap.objs.size=none:=zJ (by
  cases q:C.heap.get? aG.heap.objs.size with
  |none=>rfl
  |some N=>have:=ed k1 _ _ q;rw[rQ]at this;cases this)
 have bG:=iN.keeps k1
 cases aT with
 |bytes _ JZ=>
  refine Fo ?_
  have lp:(eG f0).lookup aG.heap.objs.size=none:=by
   cases q:(eG f0).lookup aG.heap.objs.size with
   |none=>rfl
   |some N=>have:=(bG.objs _ N q).1;rw[rQ]at this;cases this
  have lr:aG.heap.objs.size∉fp f0:=λB=>by
   refine bH (bG.c6 _ B) λN e=>?_
   rw[rQ]at e;cases e
  have sC:aG.heap.objs.size∉Z:=λB=>by
   refine bH (bG.c6 _ (bG.hS _ B)) λN e=>?_
   rw[rQ]at e;cases e
  have bN:=bG.Jq (N:={cls:=.type "bytes_iterator",data:=.fields #[.bytes aR JZ,.int 0 0]})
  generalize ij:aG.heap.objs.size=ag at bN pX lp lr sC ⊢
  refine Lw (λY s'=>∃L a N,L<=aR.size/\Y=aR.size+1 - L/\P L a/\(eG a).lookup ag=none/\ag∉fp a/\N.cls= .type "bytes_iterator"/\N.data= .fields #[.bytes aR JZ,.int L 0]/\aP W env (ag::fp a) (gu a) (fY a) ((ag,N)::eG a) Z av s') ?_ (aR.size+1) ⟨0,f0,_,eL _,rfl,aQ,lp,lr,rfl,rfl,bN⟩
  rintro Y s' ⟨L,a,N,aU,rfl,cL,sD,oH,aO,hd,bR⟩
  have a6:s'.heap.get? ag=some N:=(bR.objs ag N (by simp)).1
  have gh:tH s'.heap ag aR JZ L:=⟨N,a6,aO,hd⟩
  by_cases cM:L<aR.size
  .refine KBw.next_item gh (c:=aR[L]) (by simp[cM]) λaD qK ec=>?_
   refine iA qK λb0 nN oJ b7=>?_;clear qK
   have cc:=(bR.DC (bg:=s'.toks+1) (O:=(ag,N)::eG a) (N:=N) (by simp) (.head _) (.inr pX) (ec.extBut) nN).j0 (dk:=fY a) (cI:=(ag,b0)::eG a) (λ_ _ e=>e) (λD d e=>by
    rw[c1]at e ⊢
    cases aS:D==ag with
    |true=>rw[aS]at e;exact e
    |false=>
     rw[aS]at e
     dsimp only
     refine H c1 ?_;refine H aS ?_
     exact e)
   refine Dr nN oJ (by decide) ?_
   refine(Ie aR[L]).go _ _ _ _ _ _ _ _ _ _ cc (.int _ _) λdW cy=>?_
   refine fe (nK L a aR[L] ag b0 dW _ cL (by simp[cM]) sD oH cy) (λao e1 fs=>?_) λ_ _ e=>e
   cases ao with
   |next=>refine vt fs λci oF mn lq cU=>?_;clear fs;exact⟨_,by exact bX [_,_,_,_] 3104976468395159691905380456080705 rfl (k_ (aL [_,_] 10471996207412614144 rfl aU)) (qi _ _),L+1,ci,b0,cM,rfl,oF,mn,lq,oJ,b7,cU⟩
   |cont=>refine vt fs λci oF mn lq cU=>?_;clear fs;exact⟨_,by exact bX [_,_,_,_] 3104976468395159691905380456080705 rfl (k_ (aL [_,_] 10471996207412614144 rfl aU)) (qi _ _),L+1,ci,b0,cM,rfl,oF,mn,lq,oJ,b7,cU⟩
   |brk=>exact fs.elim
   |ret v=>exact fs
  .have qJ:L=aR.size:=by exact bX [_,_] 42934916800054594 rfl aU (fv.mp cM)
   subst qJ
   refine KBw.next_end bd gh (by simp) λaD zr=>?_
   have cc:=bR.GH (N:=N) (aD:=aD) (bg:=s'.toks) (by simp) sC pX oH zr
   exact dq (next a _ cL (cc.j0 (dk:=fY a) (λ_ _ e=>e) (λD d e=>GS sD e)))
end
structure v5 (W:bj) (ao:ah) (e4:bJ) (fd:pu) (body:List cT) (names:List ay):Prop where
 obj:(cZ W.w).lookup ao=some e4
 fn:e4.data= .func fd
 body:fd.body= .stmts body
 closure:fd.closure=[]
 code:Fs (cZ W.w) fd.code fd.qualname=true
 kinds:(names.all λam=>fd.scope.names.lookup am==some .local ||fd.scope.names.lookup am==some .cell)=true
 co:fd.scope.isCoroutine=false
 gen:fd.scope.isGenerator=false
 kind:fd.scope.kind= .function
 globals:fd.globals=dh
 builtins:fd.builtins=vS
 nodup:names.Nodup
 debug:(names.all λam=> !(am==("__debug__":ay)))=true
section
variable{W:bj}{I:br}{X:List ah}{C:aq}{aj:an->aq->Prop}
theorem v5.Dl{ao e4 fd body names}(aa:v5 W ao e4 fd body names)(af:List an):((names.zip af).all λam=>fd.scope.names.lookup am.1==some .local ||fd.scope.names.lookup am.1==some .cell)=true:=by
 refine kA.mpr λam bZ=>?_
 exact kA.mp aa.kinds am.1 (EH bZ).1
theorem X_{ao:ah}{e4:bJ}{fd:pu}{body:List cT}{args:List an}{z8:List (ay×an)}{hG:List (ay×an)}{ai:an->aq->Prop}{aj:an->aq->Prop}(bQ:eg W C.heap)(a6:(cZ W.w).lookup ao=some e4)(pT:e4.data= .func fd)(nK:fd.body= .stmts body)(sH:fd.closure=[])(sI:Fs (cZ W.w) fd.code fd.qualname=true)(bk:I.depth<d3)(zn:K3 C fd ⟨args,z8⟩ hG)(HQ:(hG.all λam=>fd.scope.names.lookup am.1==some .local ||fd.scope.names.lookup am.1==some .cell)=true)(Hx:fd.scope.isCoroutine=false)(HJ:fd.scope.isGenerator=false)(hk:fd.scope.kind= .function)(B:∀s',Fa C C.heap.objs.size (x9 (λD=>fd.scope.names.lookup D) hG λ_=>none) (rk (C.heap.objs.size+1) fd.scope.names []) (x8 (λD=>fd.scope.names.lookup D) hG λ_=>none) s'->az W.M (I.deeper (callEnvC fd C.heap.objs.size ao)) (bY body (callEnvC fd C.heap.objs.size ao)) (λgU dz=>ai (match gU with | .ret v=>v|_=>.none) dz) (λe dz=>az W.M (I.deeper (callEnvC fd C.heap.objs.size ao)) (Bs (callEnvC fd C.heap.objs.size ao) e) (λ_ bv=>aj e bv) aj dz) s'):az W.M I (df (.ref ao) args z8) ai aj C:=by
 with_reducible refine LM ?_
 have ak:=Uv bQ.K sI
 refine UB bk (bQ.K _ _ a6) pT Hx HJ nK ak ?_
 refine zn _ _ _ _ ?_
 refine H sH ?_
 refine U7 hk (kindsX HQ _) λYh bw s' D=>?_
 subst bw
 refine⟨bQ.nolimit.keeps D.toInCall.keep,UC ?_⟩
 exact B s' D
theorem YF{ao e4 fd body names}(aa:v5 W ao e4 fd body names){ab:List ax}{af:List an}{s':aq}(aN:names.length=ab.length)(aK:c0 X C)(bQ:eg W (a0 X C))(aV:a3 (a0 X C) af ab)(D:Fa C C.heap.objs.size (x9 (λD=>fd.scope.names.lookup D) (names.zip af) λ_=>none) (rk (C.heap.objs.size+1) fd.scope.names []) (x8 (λD=>fd.scope.names.lookup D) (names.zip af) λ_=>none) s'):kb (callEnvC fd C.heap.objs.size ao) C s'/\fQ W (callEnvC fd C.heap.objs.size ao) (names.zip ab) (a0 X s'):=by
 have bW:af.length=names.length:=by rw[aV.length,aN]
 have cO:((names.zip af).map (·.1)).Nodup:=by rw[Sp bW];exact aa.nodup
 have ev:∀a,C.heap.objs.size<=a->C.heap.get? a=none:=λa B=>iC B
 have er:cS C s':=let⟨B,bg,e⟩:=D.toInCall.same;⟨B,bg,e,by have:=D.toInCall.keep;rw[e]at this;exact this⟩
 have jA:∀Y V,(Y,V)∈rk (C.heap.objs.size+1) fd.scope.names []->C.heap.get? V=none:=λY V aI=>ev V (gv (D.above Y V aI))
 refine⟨⟨er,ev _ (eF _),jA,⟨_,D.toInCall.ns⟩,λY V e=>⟨_,D.cell Y V e⟩,D.apart⟩,⟨bQ.mono (cg er),aa.kind,aa.globals,aa.builtins,λam d e=>?_⟩⟩
 refine cm (So aV e) λv aI r=>?_
 have zR:am∈names:=(EH aI).1
 have Hy:(am==("__debug__":ay))=false:=by simpa using kA.mp aa.debug am zR
 refine⟨Hy,v,r.mono (cg er),?_⟩
 have hk:=kA.mp aa.kinds am zR
 rcases Sy.mp hk with hk|hk
 .have hJ:fd.scope.names.lookup am=some .local:=by simpa using hk
  exact .loc hJ (m' D.toInCall.ns (je aK (ev _ (eF _)))) (MM (k:=λD=>fd.scope.names.lookup D) hJ cO aI)
 .have hJ:fd.scope.names.lookup am=some .cell:=by simpa using hk
  refine bH (TJ.mp (Uu (x:=am) fd.scope.names (C.heap.objs.size+1) [] (.inl hJ))) λV aO=>?_
  have L:=D.cell am V aO
  rw[ML (k:=λD=>fd.scope.names.lookup D) hJ cO aI]at L
  exact .cell hJ aO (pO L (je aK (jA _ _ (mem_of_lookup aO))))
end
section
variable{W:bj}{I:br}{X:List ah}{M:ce}{O:List (ah×bJ)}{Z:List ah}{C:aq}{aj:an->aq->Prop}
theorem Pz{ao:ah}{e4:bJ}{fd:pu}{body:List cT}{names:List ay}{ab:List ax}{af args:List an}{z8:List (ay×an)}{ai:an->aq->Prop}(aa:v5 W ao e4 fd body names)(aN:names.length=ab.length)(zn:K3 C fd ⟨args,z8⟩ (names.zip af))(bk:I.depth<d3)(aK:c0 X C)(bQ:eg W (a0 X C))(aV:a3 (a0 X C) af ab)(nS:∀b∈Z,b∈X)(gF:∀aa ab,M.lookup aa=some ab->aa∈Z/\∃af,C.heap.PlainList aa af/\a3 (a0 X C) af.toList ab)(gq:∀a N,O.lookup a=some N->C.heap.get? a=some N/\M.lookup a=none)(B:∀ar s',aP W (callEnvC fd ar ao) X (names.zip ab) M O Z C s'->az W.M (I.deeper (callEnvC fd ar ao)) (bY body (callEnvC fd ar ao)) (λgU dz=>ai (match gU with | .ret v=>v|_=>.none) dz) (λe dz=>az W.M (I.deeper (callEnvC fd ar ao)) (Bs (callEnvC fd ar ao) e) (λ_ bv=>aj e bv) aj dz) s')(iJ:autoParam (∀Y,rk Y fd.scope.names []=[]) tI):az W.M I (df (.ref ao) args z8) ai aj C:=by
 have bW:af.length=names.length:=by refine H aV.length ?_;refine H aN ?_;rfl
 refine X_ (bQ.mono cP) aa.obj aa.fn aa.body aa.closure aa.code bk zn (aa.Dl af) aa.co aa.gen aa.kind λs' D=>?_
 refine d8 (YF aa aN aK bQ aV D) λN G=>?_
 refine B _ s' ⟨aK.mono N.keeps,G,N.ns,N.new,je aK N.new,iJ _,λiM f1 e=>?_,λa dE e=>?_,cC.of N.keeps,bQ,nS⟩
 .refine jl (gF iM f1 e) λaH ee bz r=>?_
  exact⟨nS _ aH,.inl aH,ee,bz.at λdE e=>ed N.keeps _ _ e,r.mono (cg N.keeps)⟩
 .refine d8 (gq a dE e) λa8 bm=>?_
  refine⟨ed N.keeps _ _ a8,bm,λau=>?_⟩
  have:=N.new
  rw[<-au,a8]at this
  cases this
end
theorem WM(w:c4):dF (cZ w) dh "type"=some none:=by kernel_rfl
theorem WW:iD "type"=some (.type "type"):=by kernel_rfl
theorem Ge(w:c4):dF (cZ w) dh "bytes"=some none:=by kernel_rfl
theorem Gh:iD "bytes"=some (.type "bytes"):=by kernel_rfl
theorem WF(w:c4):dF (cZ w) dh "bool"=some none:=by kernel_rfl
theorem WP:iD "bool"=some (.type "bool"):=by kernel_rfl
section
variable{W:bj}{I:br}{env:bB}{X:List ah}{ae:bu}{C:aq}
theorem Ma{D:ay}{al:bp}{Y:String}(hk:env.kindOf D=some .globalImplicit)(bA:dF (cZ W.w) dh D=some none)(ak:iD D=some (.type Y))(a_:autoParam (D≠"__name__") tD)(hd:autoParam ((D==("__debug__":ay))=false) tD):aY W I env ae (.Name D al) (.ty Y):=⟨λX C aK G=>⟨λai aj q=>ly G hk bA ak (q _ _ (gb C) (.ty Y)) a_ hd⟩⟩
theorem Mg{l r:a'}{al:bp}{a b:String}(aN:aY W I env ae l (.ty a))(aE:aY W I env ae r (.ty b))(aI:autoParam (kH .Is r=false) tW):ej W I env ae (.Compare l [.Is] [r] al) (oi a==oi b):=
 mS aN aE (λX C bx bE aK _ aT bb=>by refine aC.eY aT ?_;refine aC.eY bb ?_;exact⟨λai aj q=>b6 (a:=mM (oi a==oi b)) (q _ _ (gb C) (.bool _))⟩) aI
theorem VS{l r:a'}{al:bp}{b:Bool}(aN:aY W I env ae l (.bool b))(aE:aY W I env ae r .none)(aI:autoParam (kH .Is r=false) tW):ej W I env ae (.Compare l [.Is] [r] al) false:=
 mS aN aE (λX C bx bE aK _ aT bb=>by refine aC.eO aT ?_;refine aC.eU bb ?_;exact⟨λai aj q=>aip (q _ _ (gb C) (.bool _))⟩) aI
theorem Mb{e:a'}{cB al:bp}{d:ax}{Y:String}(B:aY W I env ae e d)(cp:∀(C:aq) B v,aC B v d->C.TypeIs v Y)(aaN:(oi Y==oi "builtin_function_or_method")=false)(hk:autoParam (env.kindOf "type"=some .globalImplicit) tR)(bV:autoParam (eQ e=false) tR):aY W I env ae (.Call (.Name "type" cB) [e] [] al) (.ty Y):=⟨λX C aK G=>⟨λai aj q=>by
 show az _ _ (b1 (.Name "type" cB) env>>=λv=>fH al v [] (fk al (eV [e] env)) (j_ al (j' [] env))) _ _ _
 refine aM (ly G hk (WM _) WW ?_)
 show az _ _ (fH al (.type "type") [] (fk al (eV [e] env)) []) _ _ _
 refine H ((h8 bV) _) ?_
 refine jQ (λ_ e=>nomatch e) rfl (k' (g0 ((B.on X C aK G).go _ _ λbx aG k1 aT=>jJ ?_)))
 exact call_type_of (cp aG _ _ aT) aaN (q _ _ k1 (.ty Y))⟩⟩
end
theorem Gu(W:bj):hC W 101 (hm W.w 101) (bP W.w 101) (dT W.w 101) ["data"]:=by
 refine⟨rfl,rfl,rfl,rfl,rfl,rfl,rfl,rfl,rfl,rfl,rfl,by decide,by decide,λaf B=>?_⟩
 refine bH (oV B) λa dC=>?_;subst dC
 kernel_rfl
theorem GB(W:bj):hC W 108 (hm W.w 108) (bP W.w 108) (dT W.w 108) ["x"]:=by
 refine⟨rfl,rfl,rfl,rfl,rfl,rfl,rfl,rfl,rfl,rfl,rfl,by decide,by decide,λaf B=>?_⟩
 refine bH (oV B) λa dC=>?_;subst dC
 kernel_rfl
theorem M8(W:bj):v5 W 116 (hm W.w 116) (bP W.w 116) (dT W.w 116) ["data","newline"]:=
 ⟨rfl,rfl,rfl,rfl,rfl,rfl,rfl,rfl,rfl,rfl,rfl,by decide,by decide⟩
theorem W2(W:bj)(v bq:an):Lr (bP W.w 116) ⟨[v],[(("newline":ay),bq)]⟩=pure [(("data":ay),v),(("newline":ay),bq)]:=by kernel_rfl
theorem Gr(W:bj):v5 W 124 (hm W.w 124) (bP W.w 124) (dT W.w 124) ["s","altchars"]:=
 ⟨rfl,rfl,rfl,rfl,rfl,rfl,rfl,rfl,rfl,rfl,rfl,by decide,by decide⟩
noncomputable def ud:List UInt8:=[65,66,67,68,69,70,71,72,73,74,75,76,77,78,79,80,81,82,83,84,85,86,87,88,89,90,97,98,99,100,101,102,103,104,105,106,107,108,109,110,111,112,113,114,115,116,117,118,119,120,121,122,48,49,50,51,52,53,54,55,56,57,43,47]
theorem YL(w:c4):∃t,dF (cZ w) dh "_B64"=some (some (.bytes ud.toArray t)):=⟨match dF (cZ w) dh "_B64"with
 |some (some (.bytes _ t))=>t
 |_=>0,by kernel_rfl⟩
theorem YN(w:c4):dF (cZ w) dh "_buffer"=some (some (.ref 101)):=by kernel_rfl
theorem YW(w:c4):dF (cZ w) dh "_truth"=some (some (.ref 108)):=by kernel_rfl
theorem YJ(w:c4):dF (cZ w) dh "b2a_base64"=some (some (.ref 116)):=by kernel_rfl
theorem YK(w:c4):dF (cZ w) dh "b64encode"=some (some (.ref 124)):=by kernel_rfl
section
variable{W:bj}{I:br}{env:bB}{X:List ah}{ae:bu}{C:aq}
theorem FT{al:bp}(hk:autoParam (env.kindOf "_B64"=some .globalImplicit) tR):aY W I env ae (.Name "_B64" al) (.bytes ud.toArray):=⟨λX C aK G=>⟨λai aj q=>by
 refine bH (YL W.w) λt e=>?_
 exact o2 G hk e (q _ _ (gb C) (.bytes _ _))⟩⟩
theorem Q'{B:bo}{af:List an}{ns:List Int}(r:a3 B af (ns.map .int)):Bj af ns:=by
 induction ns generalizing af with
 |nil=>refine H r.r2 ?_;exact .nil
 |cons am bT bf=>
  refine a3.eC r λ_ _ a b=>?_
  refine aC.eI a λ_=>?_
  exact .cons _ _ (bf b)
set_option tactic.hygienic true in
theorem FS{e:a'}{cB al:bp}{ns:List Int}(B:aY W I env ae e (.list (ns.map .int)))(aE:∀Y∈ns,0<=Y/\Y<256)(aH:ns.length<=bc)(bd:I.handled=none)(hk:autoParam (env.kindOf "bytes"=some .globalImplicit) tR)(bV:autoParam (eQ e=false) tR):aY W I env ae (.Call (.Name "bytes" cB) [e] [] al) (.bytes (mN ns)):=⟨λX C aK G=>⟨λai aj q=>by
 show az _ _ (b1 (.Name "bytes" cB) env>>=λv=>fH al v [] (fk al (eV [e] env)) (j_ al (j' [] env))) _ _ _
 refine aM (ly G hk (Ge _) Gh ?_)
 show az _ _ (fH al (.type "bytes") [] (fk al (eV [e] env)) []) _ _ _
 refine H ((h8 bV) _) ?_
 refine jQ (λ_ e=>nomatch e) rfl (k' (g0 ((B.on X C aK G).go _ _ λbx aG k1 aT=>jJ ?_)))
 refine aC.gD aT λ_ _ bz aV=>?_
 rename_i g5 af
 have aU:=Q' aV
 have bW:=aU.length
 refine call_bytes_ints (vs:=af.toList) (cP.plain bz).isList aU aE (by refine H bW ?_;exact jD aH) bd λaD t k hk=>?_
 exact q _ _ (b5 k1 ⟨aD,k,rfl,hk⟩) (.bytes _ _)⟩⟩
theorem FU{v ct:a'}{al:bp}{l:List UInt8}{L:Int}(bA:aY W I env ae v (.bytes l.toArray))(aU:aY W I env ae ct (.int L))(aQ:0<=L)(h1:L<l.length)(aN:l.length<=bc)(aF:autoParam (qd ct=true) tR):aY W I env ae (.Subscript v ct al) (.int (l.getD L.toNat 0).toNat):=
 yy bA aU λX C bx bE aK _ aT bb=>by
  refine aC.eB aT λ_=>?_;refine aC.eI bb λ_=>?_
  exact⟨λai aj q=>by
   with_reducible refine og (Ft _ _ _) Ln.lookup (getItem_bytes (cu aN (by decide)) aQ h1 (q _ _ (ey C _) (.int _ _))) (tj aF _ _)⟩
end
section
variable{W:bj}{I:br}{env:bB}{ae:bu}
theorem VZ{D:a'}{aJ:List a'}{al:bp}(h1:ej W I env ae D true):ej W I env ae (.BoolOp .Or (D::aJ) al) true:=⟨λX C aK G=>⟨λai aj q=>by
 with_reducible refine E3 ((h1.on X C aK G).go _ _ λaG k1=>?_)
 simp only[if_true]
 exact q aG k1⟩⟩
theorem VY{D am:a'}{aJ:List a'}{al:bp}{b:Bool}(h1:ej W I env ae D false)(aA:ej W I env ae (.BoolOp .Or (am::aJ) al) b):ej W I env ae (.BoolOp .Or (D::am::aJ) al) b:=⟨λX C aK G=>⟨λai aj q=>by
 with_reducible refine E3 ((h1.on X C aK G).go _ _ λaG k1=>?_)
 simp only[fi,if_false]
 exact(aA.on X aG (aK.mono k1) (G.mono (cg k1))).go _ _ λa5 k2=>q a5 (b5 k1 k2)⟩⟩
theorem agO{b:Array UInt8}:∀(C:aq) B v,aC B v (.bytes b)->C.TypeIs v "bytes":=λC B v r=>by refine aC.eB r λ_=>?_;exact Ft _ _ _
theorem agN{b:Bool}:∀(C:aq) B v,aC B v (.bool b)->C.TypeIs v "bool":=λC B v r=>by refine aC.eO r ?_;exact PySem.typeIs_bool _ _
theorem ad5(bk:I.depth<d3)(b:Array UInt8):pI W I 101 [.bytes b] (.bytes b):=by
 refine tc (Gu W) rfl bk λar=>?_
 refine yC (Mb (aW rfl) agO (by decide+kernel)) ?_
 exact ru (b:=true) (Mg (a:="bytes") (b:="bytes") (aW rfl) (Ma rfl (Ge _) Gh)) (λ_=>mT (aW rfl)) (λe=>nomatch e)
theorem ad_(bk:I.depth<d3):pI W I 108 [.bool false] (.bool false):=by
 refine tc (GB W) rfl bk λar=>?_
 refine yC (Mb (aW rfl) agN (by decide+kernel)) ?_
 refine ru (b:=true) (VY (VS (aW rfl) qz) (VZ (Mg (a:="bool") (b:="bool") (aW rfl) (Ma rfl (WF _) WP)))) (λ_=>mT (L3 (V:=false) (wc (aW rfl)) (λe=>nomatch e) λ_=>Vp)) (λe=>nomatch e)
end
theorem Wm(a V:Nat)(B:V<256):a*256&&& V=0:=by
 have e:a*256=a<<<8:=by refine H (Nat.shiftLeft_eq _ _) ?_;rfl
 refine H e ?_
 apply Nat.eq_of_testBit_eq
 intro L
 refine H (Nat.testBit_and _ _ _) ?_;refine H (Nat.testBit_shiftLeft _) ?_;refine H (Nat.zero_testBit _) ?_
 by_cases aU:8<=L
 .have aA:V<2^L:=g' B (KP (n:=2) (by decide) aU)
  refine H (Nat.testBit_lt_two_pow aA) ?_;refine H (Sw _) ?_;rfl
 .simp[aU]
theorem W4(a V:Nat)(B:V<256):E8 ((a:Int)*2^8) (V:Int)=((a*256+V:Nat):Int):=by
 have e:((a:Int)*2^8)=((a*256:Nat):Int):=(SJ a 256).symm
 refine H e ?_;refine H (bitOr_and _ _) ?_;refine H (bitAnd_pp (by exact fG _) (by exact fG _)) ?_;refine H (lH _) ?_;refine H (lH _) ?_;refine H (Wm a V B) ?_
 lia
noncomputable def h7(L:Nat):Int:=((ud.getD L 0).toNat:Int)
noncomputable def wt(d5:Nat)(J:List Int×Nat):List Int×Nat:=if 6<=J.2 then(J.1++[h7 (d5 / 2^(J.2 - 6) % 64)],J.2 - 6)else J
noncomputable def mm(d5:Nat)(fz:Nat)(out:List Int):List Int×Nat:=wt d5 (wt d5 (out,fz))
theorem Ce{d5 fz:Nat}{out:List Int}(B:¬6<=fz):mm d5 fz out=(out,fz):=by
 have e:wt d5 (out,fz)=(out,fz):=if_neg B
 unfold mm
 refine H e ?_;refine H e ?_;rfl
set_option tactic.hygienic true in
theorem y0{d5 fz:Nat}{out:List Int}(B:6<=fz)(aA:fz<18):mm d5 fz out=mm d5 (fz - 6) (out++[h7 (d5 / 2^(fz - 6) % 64)]):=by
 have e:wt d5 (out,fz)=(out++[h7 (d5 / 2^(fz - 6) % 64)],fz - 6):=if_pos B
 unfold mm
 refine H e ?_
 generalize out++[h7 (d5 / 2^(fz - 6) % 64)]=N
 have a_:¬6<=(wt d5 (N,fz - 6)).2:=by
  unfold wt
  split
  .exact tF.mpr (TA (od (tB ‹_›)) (TA B aA))
  .rename_i B;exact B
 exact(if_neg a_).symm
noncomputable def sw(st:List Int×Nat×Nat)(V:UInt8):List Int×Nat×Nat:=
 let d5:=(st.2.2*256+V.toNat) % 65536
 ((mm d5 (st.2.1+8) st.1).1,(mm d5 (st.2.1+8) st.1).2,d5)
noncomputable def wk(st:List Int×Nat×Nat):List Int:=
 if st.2.1=2 then st.1++[h7 (st.2.2 % 4*16)]++[61]++[61]else if st.2.1=4 then st.1++[h7 (st.2.2 % 16*4)]++[61]else st.1
noncomputable def iQ(bs:List UInt8):List Int:=wk (bs.foldl sw ([],0,0))
theorem JN(L:Nat)(B:L<64):0<=h7 L/\h7 L<256:=by
 unfold h7
 exact⟨fG _,i1.mpr (ud.getD L 0).toNat_lt⟩
section
variable{W:bj}{I:br}{X:List ah}{C:aq}{ai:an->aq->Prop}{aj:an->aq->Prop}
theorem Gk{a:Nat}(B:a<2^20):(sg (a:Int):Int)<=100:=by
 have:a.log2<=20:=by
  by_cases aQ:a=0
  .subst aQ;decide
  .exact gv ((Nat.log2_lt aQ).mpr B)
 unfold sg
 split
 .decide
 .show((((a:Int).natAbs.log2+1:Nat)):Int)<=100
  refine H (Int.natAbs_natCast _) ?_
  lia
theorem Md{env:bB}{ae:bu}{l r:a'}{al:bp}{a b:Int}{V:Bool}(aN:aY W I env ae l (.int a))(aE:aY W I env ae r (.int b))(B:(a==b)=V)(aI:autoParam (kH .Eq r=false) tW):ej W I env ae (.Compare l [.Eq] [r] al) V:=by
 subst B
 exact pG aN aE aI
theorem abL(d5 fz:Nat)(B:6<=fz):Bm (Int.fdiv (d5:Int) (2^((fz:Int) - 6).toNat)) 63=((d5 / 2^(fz - 6) % 64:Nat):Int):=by
 have e:((fz:Int) - 6).toNat=fz - 6:=RW fz 6
 refine H e ?_;refine H (bitAnd_m6 _) ?_;refine H (Ev _ (Int.pow_nonneg (by decide))) ?_
 push_cast
 rfl
set_option maxHeartbeats 4000000 in
theorem Ru{D k m:Nat}(B:2^k=m):(D:Int)*2^k=((D*m:Nat):Int):=by subst B;exact((SJ _ _).trans (congrArg _ (Int.natCast_pow 2 k))).symm
theorem QH{a l k L:Nat}(B:a*6+l=8*k)(hk:k<=L):a<=8*L:=cu (cu (Nat.le_mul_of_pos_right a (by decide)) (qq _ l)) (B▸vG 8 hk)
set_option maxHeartbeats 800000 in
theorem W9{bs:Array UInt8}{v bq:an}(bd:I.handled=none)(bk:I.depth+2<d3)(aH:bs.size<=1000)(aK:c0 X C)(bQ:eg W (a0 X C))(aV:a3 (a0 X C) [v,bq] [.bytes bs,.bool false])(q:∀n_ s',cS C s'->aC (a0 X s') n_ (.bytes (mN (iQ bs.toList)))->ai n_ s'):az W.M I (df (.ref 116) [v] [(("newline":ay),bq)]) ai aj C:=by
 refine Pz (af:=[v,bq]) (M:=[]) (O:=[]) (Z:=[]) (M8 W) (ab:=[.bytes bs,.bool false]) rfl (aiF (W2 W v bq)) (by exact aL [_,_] 159781662758209 rfl bk) aK bQ aV (λb ak=>nomatch ak) (λ_ _ e=>nomatch e) (λ_ _ e=>nomatch e) λar aG ag=>?_
 have cA:(I.deeper (callEnvC (bP W.w 116) ar 116)).handled=none:=bd
 have b7:(I.deeper (callEnvC (bP W.w 116) ar 116)).depth=I.depth+1:=rfl
 generalize I.deeper (callEnvC (bP W.w 116) ar 116)=dH at cA b7 ⊢
 refine my ag (qy rfl (YN _) (Gu W).obj (Gu W).fn (bI (aW rfl) cF) (ad5 (by exact bX [_,_,_] 722911837598829252977985 rfl b7 bk) bs)) λa5 bN=>?_
 refine my bN (qy rfl (YW _) (GB W).obj (GB W).fn (bI (aW rfl) cF) (ad_ (by exact bX [_,_,_] 722911837598829252977985 rfl b7 bk))) λbv bR=>?_
 refine uX bR λaa c3 G6 NW cc=>?_
 refine my cc (d:=.int ((0:Nat):Int)) c_ λdW cy=>?_
 refine my cy (d:=.int ((0:Nat):Int)) c_ λe1 cU=>?_
 refine abP (e2:=List Int×Nat×Nat) (aR:=bs) (λ_=>aa::X) (λa=>[("leftchar",.int a.2.2),("leftbits",.int a.2.1),("out",.adr aa),("newline",.bool false),("bin_data",.bytes bs)]) (λa=>[(aa,a.1.map .int)]) (λ_=>[])
  (λL a=>a=(bs.toList.take L).foldl sw ([],0,0)/\a.2.1<6/\a.2.2<65536/\a.1.length*6+a.2.1=8*L/\∀Y∈a.1,0<=Y/\Y<256)
  (λd=>[("b",d)]) ([],0,0) cA (λL a _=>rfl) (λV=>BS) ?_ ⟨rfl,by simp,by simp,by simp,by simp⟩ (cU.to ⟨rfl,rfl,rfl,rfl,rfl,trivial⟩ ⟨by simp,trivial⟩ trivial) (by unfold bc;exact aL [_] 685896283324086562615616 rfl aH) λa f3 cL dA=>?_
 .rintro L ⟨out,fz,d5⟩ V dK N ji LS ⟨sM,CL,CM,bW,uQ⟩ aO wD zj eW
  dsimp only at sM CL CM bW uQ wD zj eW
  have Z6:=V.toNat_lt
  have aU:L<bs.size:=(Ke.mp aO).1
  have Ig:bs.toList.take (L+1)=bs.toList.take L++[V]:=by
   refine H (A7 (by simpa using aU)) ?_
   congr 2
   simpa using(Ke.mp aO).2
  obtain⟨mA,HS⟩:∃D,D=(d5*256+V.toNat) % 65536:=⟨_,rfl⟩
  have cM:mA<65536:=by refine H HS ?_;exact hy _ (by decide)
  refine my eW (d:=.int (mA:Int)) (nw (BI (VB (FY (aW rfl) c_ cA (by decide) (by have:=Gk (a:=d5) (by exact aL [_] 10960612629611456629858625 rfl CM);exact tw (Km this 8) (by decide))) (aW rfl)) c_) ?_) λhP fm=>?_
  .refine H (bitAnd_m16 _) ?_
   show E8 ((d5:Int)*2^8) (V.toNat:Int) % 65536=_
   refine H (W4 _ _ Z6) ?_;refine H HS ?_
   exact(Int.natCast_emod _ _).symm
  refine my fm (d:=.int ((fz+8:Nat):Int)) (nw (v7 (aW rfl) c_) rfl) λpa hV=>?_
  refine C_ (e2:=List Int×Nat) (λ_=>dK::aa::X) (λa=>[("leftbits",.int a.2),("leftchar",.int mA),("out",.adr aa),("newline",.bool false),("bin_data",.bytes bs)]) (λa=>[(aa,a.1.map .int)]) (λ_=>[(dK,N)]) (λa=>a.2)
   (λa=>mm mA a.2 a.1=mm mA (fz+8) out/\a.2<14/\a.1.length*6+a.2=8*(L+1)/\∀Y∈a.1,0<=Y/\Y<256) (λa=>decide ((6:Int)<=(a.2:Int)))
   (λs'=>∃a:List Int×Nat,(mm mA a.2 a.1=mm mA (fz+8) out/\a.2<14/\a.1.length*6+a.2=8*(L+1)/\∀Y∈a.1,0<=Y/\Y<256)/\a.2<6/\aP W (callEnvC (bP W.w 116) ar 116) (dK::aa::X) [("leftbits",.int a.2),("leftchar",.int mA),("out",.adr aa),("newline",.bool false),("bin_data",.bytes bs)] [(aa,a.1.map .int)] [(dK,N)] [] C s') (out,fz+8)
   (λa _=>VR (aW rfl) c_) ?_ (λa s' ha cp Vk=>⟨a,ha,EO λau=>of_decide_eq_false cp (vy.mpr au),Vk⟩) ⟨rfl,by dsimp only;exact aL [_] 10475676327615730689 rfl CL,by dsimp only;exact aL [_,_,_] 2575254998477286415366967877461988479746 rfl bW,uQ⟩ (hV.to ⟨rfl,rfl,rfl,rfl,rfl,trivial⟩ ⟨by simp,trivial⟩ ⟨by simp,trivial⟩) λqh NO=>?_
  .rintro ⟨gj,b4⟩ qh ai9 ⟨hu,hZ,mw,qO⟩ cp iO
   dsimp only at hu hZ mw qO cp iO
   have fs:6<=b4:=vy.mp (of_decide_eq_true cp)
   have CI:mA / 2^(b4 - 6) % 64<64:=hy _ (by decide)
   refine nT (aa:=aa) (ab:=gj.map .int) (d:=.int (h7 (mA / 2^(b4 - 6) % 64))) iO rfl (by simp) (FU (l:=ud) (L:=((mA / 2^(b4 - 6) % 64:Nat):Int)) FT (nw (BI (L9 (aW rfl) (yx (aW rfl) c_) cA (SO (of_decide_eq_true cp))) c_) (abL mA b4 fs)) (by exact fG _) (i1.mpr CI) (by decide)) (by refine H (gz _) ?_;exact cu (QH mw aU) (cu (vG 8 aH) (by decide))) λJI v6=>?_
   refine my v6 (d:=.int ((b4 - 6:Nat):Int)) (nw (yx (aW rfl) c_) (wl fs)) λRo BE=>?_
   refine dq ⟨(gj++[h7 (mA / 2^(b4 - 6) % 64)],b4 - 6),⟨?_,by dsimp only;exact bX [_,_] 11030794197780009281 rfl hZ (hh _ _),by simp;exact j1 [_,_,_,_] 1003567466898867606557384610111299946539916515210292374314615706370 rfl mw (k_ (aL [_] 159730119237904 rfl fs)) (qi _ _),?_⟩,by dsimp only;exact aL [_,_] 159798842631489 rfl (k_ (aL [_] 159730119237904 rfl fs)),BE.to ⟨rfl,rfl,rfl,rfl,rfl,trivial⟩ ⟨by simp,trivial⟩ ⟨by simp,trivial⟩⟩
   .refine b' hu ?_
    exact(y0 fs (dR hZ (by decide))).symm
   .intro Y a_
    rcases fC.mp a_ with a_|a_
    .exact qO Y a_
    .simp at a_;subst a_;exact JN _ CI
  .refine iA NO λhK uV fs iO=>?_;clear NO;obtain⟨gj,b4⟩:=hK;obtain⟨hu,hZ,mw,qO⟩:=uV
   dsimp only at hu hZ mw qO fs iO
   have uD:mm mA b4 gj=(gj,b4):=Ce (by exact tF.mpr (aL [_] 159846134845761 rfl fs))
   rw[uD]at hu
   refine dq ⟨(gj,b4,mA),⟨?_,fs,cM,mw,qO⟩,rfl,zj,iO.to ⟨rfl,rfl,rfl,rfl,rfl,trivial⟩ ⟨by simp,trivial⟩ ⟨by simp,trivial⟩⟩
   refine H Ig ?_;refine H List.foldl_append ?_;refine b' sM ?_
   show _=sw (out,fz,d5) V
   unfold sw
   dsimp only
   refine b' HS ?_;refine b' hu ?_;rfl
 .obtain⟨out,fz,d5⟩:=a
  refine xz cL λsM CL CM bW uQ=>?_;clear cL
  dsimp only at sM CL CM bW uQ dA
  rw[vB (by simp)]at sM
  have ck:∀(s9:List Int)(s':aq)(d_:bu),aP W (callEnvC (bP W.w 116) ar 116) (aa::X) d_ [(aa,s9.map .int)] [] [] C s'->d_.lookup ("newline":ay)=some (.bool false)->d_.lookup ("out":ay)=some (.adr aa)->s9=iQ bs.toList->s9.length<=100000->(∀Y∈s9,0<=Y/\Y<256)->
    az W.M dH (bY ((dT W.w 116).drop 7) (callEnvC (bP W.w 116) ar 116)) (λgU dz=>ai (match gU with | .ret v=>v|_=>.none) dz) (λe dz=>az W.M dH (Bs (callEnvC (bP W.w 116) ar 116) e) (λ_ bv=>aj e bv) aj dz) s':=λs9 s' d_ yn h1 aA bn cK fq=>by
   refine m8 yn (wc (aW h1)) λhP fm=>dq ?_
   have hV:=fm.freeze (am:="out") (P:=aa) (a7:=s9.map .int) aA (by simp) (by simp)
   refine rU (d:=.bytes (mN s9)) hV (FS (aW (d:=.cf aa (s9.map .int)) rfl).lF fq (by unfold bc;exact aL [_] 175409536360500484265505088 rfl cK) cA) λn_ qh iO xl=>?_
   rw[bn]at xl
   refine q n_ qh iO.keep.J1 ?_
   refine aC.eB xl λ_=>?_
   exact .bytes _ _
  have a_:∀Y:Int,Y=61->0<=Y/\Y<256:=λY e=>e▸⟨by decide,by decide⟩
  have DG:out.length<=8000:=cu (QH bW (eF _)) (vG 8 aH)
  have u6:∀k,k<=99999->out.length+k<=bc:=λk hk=>cu (vC DG hk) (by decide)
  have QW:d5 % 4*16<64:=EU (hy d5 (by decide)) (by decide)
  have ad':d5 % 16*4<64:=EU (hy d5 (by decide)) (by decide)
  by_cases aA:fz=2
  .subst aA
   refine m8 dA (b:=true) (Md (aW rfl) c_ rfl) λji eW=>?_
   have gf:Bm (d5:Int) 3=((d5 % 4:Nat):Int):=by refine H (bitAnd_m2 _) ?_;rfl
   refine nT (aa:=aa) (ab:=out.map .int) (d:=.int (h7 (d5 % 4*16))) eW rfl (by simp) (FU (l:=ud) (L:=((d5 % 4*16:Nat):Int)) FT (nw (FY (nw (BI (aW rfl) c_) gf) c_ cA (by decide) (by have:=Gk (a:=d5 % 4) (by exact aL [_] 167466705155723911489 rfl (rX _ 4 (by decide)));exact tw (Km this 4) (by decide))) (Ru (k:=4) rfl)) (by exact fG _) (i1.mpr QW) (by decide)) (by refine H (gz _) ?_;exact cu (qq _ 2) (u6 2 (by decide))) λhP fm=>?_
   refine nT (aa:=aa) (ab:=out.map .int++[.int (h7 (d5 % 4*16))]) (d:=.int 61) fm rfl (by simp) c_ (by simp;exact cu (pq _) (u6 2 (by decide))) λpa hV=>?_
   refine nT (aa:=aa) (ab:=out.map .int++[.int (h7 (d5 % 4*16))]++[.int 61]) (d:=.int 61) hV rfl (by simp) c_ (by simp;exact u6 2 (by decide)) λqh iO=>dq ?_
   refine ck (out++[h7 (d5 % 4*16)]++[61]++[61]) qh _ (iO.j0 (dk:=[(aa,(out++[h7 (d5 % 4*16)]++[61]++[61]).map .int)]) (i8.get ⟨by simp,trivial⟩) λ_ _ e=>e) rfl rfl ?_ (by simp;exact cu DG (by decide)) ?_
   .unfold iQ
    refine b' sM ?_
    rfl
   .intro Y aI
    simp only[fC,pn]at aI
    rcases aI with((aI|aI)|aI)|aI
    .exact uQ Y aI
    .subst aI;exact JN _ QW
    .exact a_ Y aI
    .exact a_ Y aI
  .have qB:(((fz:Nat):Int)==2)=false:=by simpa using λau:(fz:Int)=2=>aA (SM.mp au)
   refine m8 dA (b:=false) (by refine b' qB ?_;exact pG (aW rfl) c_) λji eW=>?_
   by_cases cK:fz=4
   .subst cK
    refine m8 eW (b:=true) (Md (aW rfl) c_ rfl) λhP fm=>?_
    have gf:Bm (d5:Int) 15=((d5 % 16:Nat):Int):=by refine H (bitAnd_m4 _) ?_;rfl
    refine nT (aa:=aa) (ab:=out.map .int) (d:=.int (h7 (d5 % 16*4))) fm rfl (by simp) (FU (l:=ud) (L:=((d5 % 16*4:Nat):Int)) FT (nw (FY (nw (BI (aW rfl) c_) gf) c_ cA (by decide) (by have:=Gk (a:=d5 % 16) (by exact aL [_] 2675940172403698590017 rfl (rX _ 16 (by decide)));exact tw (Km this 2) (by decide))) (Ru (k:=2) rfl)) (by exact fG _) (i1.mpr ad') (by decide)) (by refine H (gz _) ?_;exact cu (qq _ 2) (u6 2 (by decide))) λpa hV=>?_
    refine nT (aa:=aa) (ab:=out.map .int++[.int (h7 (d5 % 16*4))]) (d:=.int 61) hV rfl (by simp) c_ (by simp;exact cu (pq _) (u6 2 (by decide))) λqh iO=>dq (dq ?_)
    refine ck (out++[h7 (d5 % 16*4)]++[61]) qh _ (iO.j0 (dk:=[(aa,(out++[h7 (d5 % 16*4)]++[61]).map .int)]) (i8.get ⟨by simp,trivial⟩) λ_ _ e=>e) rfl rfl ?_ (by simp;exact cu DG (by decide)) ?_
    .unfold iQ
     refine b' sM ?_
     rfl
    .intro Y aI
     simp only[fC,pn]at aI
     rcases aI with(aI|aI)|aI
     .exact uQ Y aI
     .subst aI;exact JN _ (by exact aL [_] 222586493009279598897 rfl (rX _ 16 (by decide)))
     .exact a_ Y aI
   .have yN:(((fz:Nat):Int)==4)=false:=by simpa using λau:(fz:Int)=4=>cK (SM.mp au)
    refine m8 eW (b:=false) (by refine b' yN ?_;exact pG (aW rfl) c_) λhP fm=>dq (dq ?_)
    refine ck out hP _ fm rfl rfl ?_ (cu DG (by decide)) uQ
    unfold iQ
    refine b' sM ?_
    unfold wk
    refine H (if_neg aA) ?_;refine H (if_neg cK) ?_;rfl
end
section
variable{W:bj}{I:br}{X:List ah}{C:aq}{ai:an->aq->Prop}{aj:an->aq->Prop}
theorem XO(w:c4):∃N items Y,(cZ w).lookup 117=some N/\N.data= .seq items Y/\items=#[.none]:=⟨_,_,_,rfl,rfl,by kernel_rfl⟩
set_option maxHeartbeats 2000000 in
theorem W3(W:bj)(v:an)(bQ:eg W C.heap):K3 C (bP W.w 124) ⟨[v],[]⟩ (([("s":ay),("altchars":ay)]).zip [v,.none]):=by
 refine oa (XO W.w) λN items Y a8 bm e3=>?_
 subst e3
 exact aiE (T:=117) (o:=N) (items:=#[.none]) (n:=Y) (by kernel_rfl) (bQ.K _ _ a8) bm rfl rfl
end
section
variable{W:bj}{I:br}{env:bB}{X:List ah}{ae:bu}{C:aq}{ai:an->aq->Prop}{aj:an->aq->Prop}
theorem VT{l r:a'}{al:bp}(aN:aY W I env ae l .none)(aE:aY W I env ae r .none)(aI:autoParam (kH .IsNot r=false) tW):ej W I env ae (.Compare l [.IsNot] [r] al) false:=Mf aN aE aI
theorem aho{bK al eM eP:bp}{fF:_}{e:a'}{bs:Array UInt8}(bd:I.handled=none)(bk:I.depth+2<d3)(aH:bs.size<=1000)(aK:c0 X C)(G:fQ W env ae (a0 X C))(bw:aY W I env ae e (.bytes bs))(bV:autoParam (eQ e=false) tR)(hk:autoParam (env.kindOf "b2a_base64"=some .globalImplicit) tR):dZ W X I (b1 (.Call (.Name "b2a_base64" bK) [e] [{arg:=some "newline",value:=.Constant (.bool false) fF eP,pos:=eM}] al) env) (.bytes (mN (iQ bs.toList))) C:=⟨λai aj q=>by
 show az _ _ (b1 (.Name "b2a_base64" bK) env>>=λv=>fH al v [] (fk al (eV [e] env)) (j_ al (j' [{arg:=some "newline",value:=.Constant (.bool false) fF eP,pos:=eM}] env))) _ _ _
 refine aM (o2 G hk (YJ _) ?_)
 refine H ((h8 bV) _) ?_
 refine callWith_def_kw (o:=hm W.w 116) (fd:=bP W.w 116) rfl (evalArgs_kw rfl ?_)
 refine g0 ((bw.on X C aK G).go _ _ λbx aG k1 aT=>jJ ?_)
 refine wpAny_evalAll_cons ?_
 refine aM (UW (aM (tY (b6 (wpAny_evalAll_nil ?_)))))
 have dt:=(G.mono (cg k1)).base
 refine⟨(dt.mono cP).K _ _ (M8 W).obj,?_⟩
 exact W9 bd bk aH (aK.mono k1) dt (.cons aT (.cons (.bool _) .nil)) λn_ s' jb dM=>q n_ s' (b5 k1 jb) dM⟩
set_option tactic.hygienic true in
theorem ad4{I:br}(bd:I.handled=none)(bk:I.depth+3<d3){bs:Array UInt8}(aH:bs.size<=1000):pI W I 124 [.bytes bs] (.bytes (mN (iQ bs.toList))):=⟨λX C af aK bQ aV=>⟨λai aj q=>by
 refine a3.eC aV λ_ _ r rs=>?_
 obtain rfl:=rs.r2
 rename_i v
 refine Pz (af:=[v,.none]) (M:=[]) (O:=[]) (Z:=[]) (Gr W) (ab:=[.bytes bs,.none]) rfl (W3 W v (bQ.mono cP)) (by exact aL [_,_] 159785957725505 rfl bk) aK bQ (.cons r (.cons .none .nil)) (λb ak=>nomatch ak) (λ_ _ e=>nomatch e) (λ_ _ e=>nomatch e) λar aG ag=>?_
 have cA:(I.deeper (callEnvC (bP W.w 124) ar 124)).handled=none:=bd
 have b7:(I.deeper (callEnvC (bP W.w 124) ar 124)).depth=I.depth+1:=rfl
 generalize I.deeper (callEnvC (bP W.w 124) ar 124)=dH at cA b7 ⊢
 refine C9 ag (aho cA (by exact bX [_,_,_] 47376825746740599837486552065 rfl b7 bk) aH ag.c6 ag.G (aW rfl)) λa5 bN=>?_
 refine m8 bN (VT (aW rfl) qz) λbv bR=>dq ?_
 exact rU bR (aW rfl) λv c3 cc gN=>q v c3 cc.keep.J1 gN⟩⟩
end
theorem Gy(W:bj):hC W 178 (hm W.w 178) (bP W.w 178) (dT W.w 178) ["n","place"]:=by
 refine⟨rfl,rfl,rfl,rfl,rfl,rfl,rfl,rfl,rfl,rfl,rfl,by decide,by decide,λaf B=>?_⟩
 refine jF (w7 B) λa b di=>?_;subst di
 kernel_rfl
theorem Gx(W:bj):hC W 183 (hm W.w 183) (bP W.w 183) (dT W.w 183) ["octets"]:=by
 refine⟨rfl,rfl,rfl,rfl,rfl,rfl,rfl,rfl,rfl,rfl,rfl,by decide,by decide,λaf B=>?_⟩
 refine bH (oV B) λa dC=>?_;subst dC
 kernel_rfl
theorem yY(W:bj):hC W 195 (hm W.w 195) (bP W.w 195) (dT W.w 195) ["items"]:=by
 refine⟨rfl,rfl,rfl,rfl,rfl,rfl,rfl,rfl,rfl,rfl,rfl,by decide,by decide,λaf B=>?_⟩
 refine bH (oV B) λa dC=>?_;subst dC
 kernel_rfl
theorem yW(W:bj):hC W 200 (hm W.w 200) (bP W.w 200) (dT W.w 200) ["items","rows","text"]:=by
 refine⟨rfl,rfl,rfl,rfl,rfl,rfl,rfl,rfl,rfl,rfl,rfl,by decide,by decide,λaf B=>?_⟩
 refine xB (z9 B) λa b V mx=>?_;subst mx
 kernel_rfl
theorem GC(W:bj):hC W 207 (hm W.w 207) (bP W.w 207) (dT W.w 207) ["kind","items","text","word"]:=by
 refine⟨rfl,rfl,rfl,rfl,rfl,rfl,rfl,rfl,rfl,rfl,rfl,by decide,by decide,λaf B=>?_⟩
 refine pj (acI B) λa b V d H6=>?_;subst H6
 kernel_rfl
theorem Gv(W:bj):hC W 212 (hm W.w 212) (bP W.w 212) (dT W.w 212) ["kind","rows","name"]:=by
 refine⟨rfl,rfl,rfl,rfl,rfl,rfl,rfl,rfl,rfl,rfl,rfl,by decide,by decide,λaf B=>?_⟩
 refine xB (z9 B) λa b V mx=>?_;subst mx
 kernel_rfl
theorem GA(W:bj):hC W 219 (hm W.w 219) (bP W.w 219) (dT W.w 219) ["text","rows","deeds"]:=by
 refine⟨rfl,rfl,rfl,rfl,rfl,rfl,rfl,rfl,rfl,rfl,rfl,by decide,by decide,λaf B=>?_⟩
 refine xB (z9 B) λa b V mx=>?_;subst mx
 kernel_rfl
theorem Gs(W:bj):hC W 226 (hm W.w 226) (bP W.w 226) (dT W.w 226) ["words"]:=by
 refine⟨rfl,rfl,rfl,rfl,rfl,rfl,rfl,rfl,rfl,rfl,rfl,by decide,by decide,λaf B=>?_⟩
 refine bH (oV B) λa dC=>?_;subst dC
 kernel_rfl
section
variable{W:bj}{I:br}{env:bB}{X:List ah}{ae:bu}{C:aq}
theorem ID{b:bo}{ag:ah}{ht d1:List ah}{aR:List ax}{P:Nat->an->Prop}{fZ:Nat->bo->Prop}{T:String}(kd:Walks W.prog W.w I ag ht d1 aR.length P fZ)(hex:∀L B,fZ L B->∀a∈d1,∃N,B.get? a=some N)(dI:∀L B,fZ L B->∃N,B.get? ag=some N/\N.cls= .type T)(ZH:["enumerate","zip","dict_itemiterator","dict_reverseitemiterator","odict_iterator","itertools.zip_longest","itertools.pairwise"].contains T=false)(gh:∀L v d,P L v->aR[L]? =some d->aC b v d):t5 W I b ag ht d1 aR false fZ where
 frame:=kd.frame
 ex:=hex
 sub:=kd.sub
 next:=λL dd C ai aj d _ hd st f8=>by
  refine kd.item L C _ aj (kB.mp hd).1 st λv aD bg aF n9 hk=>?_
  refine cm (dI _ _ n9) λN a6 aO=>?_
  exact⟨v,rfl,Dr (T:=T) a6 aO ZH (f8 v _ ⟨⟨aD,bg,rfl⟩,hk⟩ n9 (.old (gh L v d aF hd)))⟩
 done:=λC ai aj st f8=>kd.done C ai aj st λaD bg hk=>f8 _ ⟨⟨aD,bg,rfl⟩,hk⟩
 self:=λL C ai aj st f8=>kd.self L C ai aj st f8
theorem VM{e:a'}{bs:Array UInt8}(bd:I.handled=none)(B:aY W I env ae e (.bytes bs)):lQ W I env ae false e (bs.toList.map λV=>.int V.toNat):=⟨λX C aK G ai aj q=>by
 with_reducible refine(B.on X C aK G).go _ _ λv aG k1 aT=>?_
 cases aT with
 |bytes _ t=>
  refine Fo ?_
  have ev:aG.heap.get? aG.heap.objs.size=none:=iC (eF _)
  have bW:(bs.toList.map λV=>ax.int V.toNat).length=bs.size:=by simp
  refine q _ _ (lP.before k1 ⟨⟨aG.heap.objs.size,[aG.heap.objs.size],[aG.heap.objs.size],λL B=>tH B aG.heap.objs.size bs t L,rfl,ID (T:="bytes_iterator") (by refine H bW ?_;exact KBw.walks bd _ bs t) (λL B st a ha=>?_) (λL B st=>?_) (by decide) (λL v d aF hd=>?_),⟨_,f_ _ rfl,rfl,rfl⟩,?_,?_,?_⟩,ip aG _⟩)
  .simp at ha;subst ha;refine cm st λN a6 _=>?_;clear st;exact⟨N,a6⟩
  .refine iA st λN a6 aO _=>?_;clear st;exact⟨N,a6,aO⟩
  .refine jG aF λV bq aO mx=>?_;clear aF;subst mx
   rw[lI]at hd
   have:bs.toList[L]? =some V:=by simpa using aO
   rw[this]at hd
   cases hd
   exact .int _ _
  .intro a ha;simp at ha;subst ha;exact ev
  .intro a ha;simp at ha;subst ha;exact⟨_,f_ _ rfl,λ_ _ q=>by cases q⟩
  .intro a ha;exact .inl ha⟩
end
section
variable{W:bj}{I:br}{env:bB}{X:List ah}{ae:bu}{C:aq}
theorem PD{r:ah}{a:Int}{Y:Nat}{t bq v:dN}(bd:I.handled=none){b:Int}(aE:Fb C.heap r a b 1 t bq v)(hv:K6 a b 1=true)(dp:K5 a b 1=(Y:Int)){ai:an->aq->Prop}{aj:an->aq->Prop}(q:∀d0 s',lP W I X false d0 ((e7 Y).map λL=>.int (a+(L:Nat))) C s'->ai d0 s'):az W.M I (yd (.ref r)) ai aj C:=by
 refine wpAny_pyIter_range aE hv ?_
 refine H dp ?_
 have ev:C.heap.get? C.heap.objs.size=none:=iC (eF _)
 have bW:((e7 Y).map λL=>ax.int (a+(L:Nat))).length=Y:=by simp
 refine q _ _ ⟨⟨C.heap.objs.size,[C.heap.objs.size],[C.heap.objs.size],λL B=>Lf B C.heap.objs.size (a+(L:Nat)*1) ((Y:Int) - (L:Nat)) 1,rfl,ID (T:="range_iterator") (by refine H bW ?_;exact LCg.range_walks bd a Y) (λL B st b ak=>?_) (λL B st=>⟨_,st,rfl⟩) (by decide) (λL v d aF hd=>?_),?_,?_,?_,?_⟩,ip C _⟩
 .simp at ak;subst ak;exact⟨_,st⟩
 .refine bH aF λt dC=>?_;clear aF;subst dC
  rw[lI]at hd
  cases aU:(e7 Y)[L]? with
  |none=>rw[aU]at hd;cases hd
  |some aB=>
   rw[aU]at hd
   cases hd
   have:aB=L:=by
    refine bH (kB.mp aU) λh1 aA=>?_
    refine b' aA ?_;simp
   subst this
   exact .int _ _
 .have:=f_ C.heap (o:={cls:=.type "range_iterator",data:=.fields #[dG a,dG (Y:Int),dG 1]}) rfl
  simpa[Lf]using this
 .intro b ak;simp at ak;subst ak;exact ev
 .intro b ak;simp at ak;subst ak;exact⟨_,f_ _ rfl,λ_ _ q=>by cases q⟩
 .intro b ak;exact .inl ak
theorem BN{e:a'}{cB al:bp}{Y:Nat}(bd:I.handled=none)(B:aY W I env ae e (.int Y))(hv:K6 0 (0+(Y:Int)) 1=true)(hk:autoParam (env.kindOf "range"=some .globalImplicit) tR)(bV:autoParam (eQ e=false) tR):lQ W I env ae false (.Call (.Name "range" cB) [e] [] al) ((e7 Y).map λL=>.int (0+(L:Nat))):=⟨λX C aK G ai aj q=>by
 show az _ _ (b1 (.Name "range" cB) env>>=λv=>fH al v [] (fk al (eV [e] env)) (j_ al (j' [] env))) _ _ _
 refine aM (ly G hk (Gf _) Gi ?_)
 show az _ _ (fH al (.type "range") [] (fk al (eV [e] env)) []) _ _ _
 refine H ((h8 bV) _) ?_
 refine jQ (λ_ e=>nomatch e) rfl (k' (g0 ((B.on X C aK G).go _ _ λbx aG k1 aT=>jJ ?_)))
 cases aT with
 |int _ vo=>
 refine Uy ?_
 have k2:cS aG {aG with heap:=aG.heap.push {cls:=.type "range",data:=.fields #[.int 0 aG.toks,.int (Y:Int) vo,.int 1 (aG.toks+1)]},toks:=aG.toks+1+1}:=⟨_,_,rfl,λb N e=>eu _ e⟩
 refine PD (a:=0) (b:=0+(Y:Int)) (Y:=Y) (t:=aG.toks) (bq:=vo) (v:=aG.toks+1) bd ?_ hv (by refine H (LB _ _) ?_;split <;>lia) λd0 s' aU=>q d0 s' (lP.before (b5 k1 k2) aU)
 refine H (tx _) ?_
 exact Le _ _ _ _ _ _ _⟩
end
section
variable{W:bj}{I:br}{env:bB}{X:List ah}{ae:bu}{C:aq}
theorem VO{a8 bm:a'}{cB al:bp}{a:Int}{Y:Nat}{b:Int}(bd:I.handled=none)(h1:aY W I env ae a8 (.int a))(aA:aY W I env ae bm (.int b))(ak:K5 a b 1=(Y:Int))(hv:K6 a b 1=true)(hk:autoParam (env.kindOf "range"=some .globalImplicit) tR)(bV:autoParam (eQ a8=false) tR)(zM:autoParam (eQ bm=false) tR):lQ W I env ae false (.Call (.Name "range" cB) [a8,bm] [] al) ((e7 Y).map λL=>.int (a+(L:Nat))):=⟨λX C aK G ai aj q=>by
 show az _ _ (b1 (.Name "range" cB) env>>=λv=>fH al v [] (fk al (eV [a8,bm] env)) (j_ al (j' [] env))) _ _ _
 refine aM (ly G hk (Gf _) Gi ?_)
 show az _ _ (fH al (.type "range") [] (fk al (eV [a8,bm] env)) []) _ _ _
 refine H ((h8 bV) _) ?_;refine H ((h8 zM) _) ?_
 refine jQ (λ_ e=>nomatch e) rfl (k' (g0 ((h1.on X C aK G).go _ _ λbx aG k1 aT=>g0 ((aA.on X aG (aK.mono k1) (G.mono (cg k1))).go _ _ λbE a5 k2 bb=>jJ ?_))))
 cases aT with
 |int _ t1=>
 cases bb with
 |int _ eE=>
 refine call_range_2 ?_
 have dr:cS a5 {a5 with heap:=a5.heap.push {cls:=.type "range",data:=.fields #[.int a t1,.int b eE,.int 1 a5.toks]},toks:=a5.toks+1}:=⟨_,_,rfl,λb N e=>eu _ e⟩
 exact PD (a:=a) (Y:=Y) (t:=t1) (bq:=eE) (v:=a5.toks) bd (Le _ _ _ _ _ _ _) hv ak λd0 s' aU=>q d0 s' (lP.before (b5 (b5 k1 k2) dr) aU)⟩
theorem ac4(b:Array UInt8)(t bg:dN)(a:ah):vM (fX.«bytes.__getitem__» ⟨[.bytes b t,.ref a],[]⟩) (λ_ R C=>C.heap.IsSliceOf a .none .none (.int (-1) bg)/\b.size<=ol/\R (.ok (.ret (.bytes b.toList.reverse.toArray C.toks))) {C with toks:=C.toks+1}):=by
 refine .of_wp λprog w I R C eh=>?_
 refine fb eh λhK dp B=>?_;clear eh;obtain⟨N,a6,aO,hd⟩:=hK
 have dI:C.TypeIs (.ref a) "slice":=⟨N,a6,aO⟩
 show az _ _ (aiG (.bytes b t)>>=λr=>_) _ _ C
 refine aM (g4 (a:=b) rfl ?_)
 show az _ _ (TX (.ref a)>>=λr=>_) _ _ C
 refine aM ?_
 unfold TX
 refine aM (v2 dI slice_no_index (b6 ?_))
 refine aM (Va dI ?_)
 show az _ _ (TV (.ref a)>>=λr=>_) _ _ C
 refine aM ?_
 unfold TV
 refine aM (iF (x:=.int (-1) bg) a6 hd rfl ?_)
 refine aM (sk (Fq (show¬((Lm (-1) bg==gB)=true)from tv) ?_))
 refine aM (v2 (T:="int") (typeIs_int _ _ _) F.slot_int_index.lookup ?_)
 refine sk (Fq (show¬(Option.isNone (some _)=true)from tv) ?_)
 refine aM (g4 rfl (b6 ?_))
 refine sk (Fq (show¬((dG (-1)==dG 0)=true)from by decide) ?_)
 refine aM (iF (x:=.none) a6 hd rfl ?_)
 refine aM (g4 (a:=gB) rfl ?_)
 refine aM (iF (x:=.none) a6 hd rfl ?_)
 refine aM (g4 (a:=gB) rfl ?_)
 refine b6 ?_
 have go:az (gn prog w) I.in1 (sliceIndices (LC none) (LC none) (LC (some (-1))) b.size) (λr s'=>r=vX none none (some (-1)) b.size/\s'=C) (λ_ _=>False) C:=
  g4 (sliceIndices_raw none none (some (-1)) b.size (by decide)) ⟨rfl,rfl⟩
 refine aM (fe go (λr s' aE=>?_) λ_ _ e=>e.elim)
 refine d8 aE λH7 qO=>?_;clear aE
 subst H7 qO
 refine H (krv_bounds _) ?_
 refine sk (Fq (by simp) ?_)
 have e:K4 b ((b.size:Int) - 1) (-1) (-1)=b.toList.reverse.toArray:=by
  unfold K4
  refine H (krv_sliceRange _) ?_;refine H (krv_range _) ?_;refine H List.filterMap_reverse ?_;refine H (krv_all _) ?_;rfl
 show az _ _ (mkBytes (K4 b ((b.size:Int) - 1) (-1) (-1))>>=λr=>_) _ _ s'
 refine H e ?_
 exact aM (wpAny_mkBytes (b6 ⟨_,rfl,B⟩) (by simpa using dp))
end
theorem WL(w:c4):dF (cZ w) dh "sum"=some none:=by kernel_rfl
theorem WV:iD "sum"=some (.builtin "sum"):=by kernel_rfl
theorem WH(w:c4):dF (cZ w) dh "enumerate"=some none:=by kernel_rfl
theorem WR:iD "enumerate"=some (.type "enumerate"):=by kernel_rfl
theorem WJ(w:c4):dF (cZ w) dh "ord"=some none:=by kernel_rfl
theorem WT:iD "ord"=some (.builtin "ord"):=by kernel_rfl
theorem WG(w:c4):dF (cZ w) dh "chr"=some none:=by kernel_rfl
theorem WQ:iD "chr"=some (.builtin "chr"):=by kernel_rfl
theorem B3(w:c4):dF (cZ w) dh "sorted"=some none:=by kernel_rfl
theorem B6:iD "sorted"=some (.builtin "sorted"):=by kernel_rfl
theorem WN(w:c4):dF (cZ w) dh "zip"=some none:=by kernel_rfl
theorem WX:iD "zip"=some (.type "zip"):=by kernel_rfl
theorem WI(w:c4):dF (cZ w) dh "list"=some none:=by kernel_rfl
theorem WS:iD "list"=some (.type "list"):=by kernel_rfl
section
variable{W:bj}{I:br}{env:bB}{X:List ah}{ae:bu}{C:aq}
theorem QS:∀(ns:List Int)(k:Nat),k<=ns.length->LA (λL=>ns.getD L 0) k=(ns.take k).sum
 |ns,0,_=>by simp[LA]
 |ns,k+1,B=>by
  rw[LA,QS ns k (by lia),A7 (by lia),Ti]
  simp[i2,hT (show k<ns.length by lia)]
set_option tactic.hygienic true in
theorem ahX{v:an}{ns:List Int}(bd:I.handled=none)(r:aC (a0 X C) v (.list (ns.map .int))):dZ W X I (df (.builtin "sum") [v]) (.int ns.sum) C:=⟨λai aj q=>by
 refine aC.gD r λ_ _ bz aV=>?_
 rename_i g5 af
 have aN:=(cP.plain bz).isList
 have aU:=Q' aV
 have bW:af.size=ns.length:=by have:=aU.length;simpa using this
 have cM:g5<C.heap.objs.size:=by refine cm aN λN e _=>?_;clear aN;exact iL e
 refine call_sum_walkAnyS (yi aN ?_)
 refine⟨C.heap.objs.size,[C.heap.objs.size,g5],[C.heap.objs.size],λa b=>b=a,af.size,_,_,λL=>ns.getD L 0,rfl,(Uw (A:=I.in1) bd C.heap.objs.size g5 (hA cM) af).toS,
  ⟨⟨_,f_ _ rfl,rfl,rfl⟩,aN.at λN e=>eu _ e⟩,?_,?_,?_⟩
 .intro b ak
  simp at ak
  rcases ak with rfl|rfl
  .simp[nh]
  .exact g' cM (by simp[nh])
 .intro L v bA
  have aba:a3 (a0 X C) af.toList (ns.map .int):=aV
  refine cm (aba.get' (L:=L) (v:=v) (by simpa using bA)) λd hd q0=>?_
  rw[lI]at hd
  cases a_:ns[L]? with
  |none=>rw[a_]at hd;cases hd
  |some Y=>
   rw[a_]at hd
   cases hd
   refine aC.eI q0 λ_=>?_
   refine⟨_,congrArg (λau=>Lm au _) ?_⟩
   show Y=ns.getD L 0
   refine H (i2) ?_;refine H a_ ?_
   rfl
 .intro s' fB aI
  refine H bW ?_;refine H (QS ns _ (eF _)) ?_;refine H EI ?_
  refine q _ _ ⟨s'.heap,s'.toks,?_,λb N e=>?_⟩ (.int _ _)
  .obtain⟨h1,aA,bn,cK,fq⟩:=aI
   obtain⟨p1,YG,bO,fB,b0⟩:=s'
   simp only at aA bn cK
   subst aA bn cK
   rfl
  .refine aI.heap b N (λak=>?_) (eu _ e)
   simp at ak
   subst ak
   rw[iC (eF _)]at e
   cases e⟩
theorem L'{e:a'}{cB al:bp}{ns:List Int}(bd:I.handled=none)(B:aY W I env ae e (.list (ns.map .int)))(hk:autoParam (env.kindOf "sum"=some .globalImplicit) tR)(bV:autoParam (eQ e=false) tR):aY W I env ae (.Call (.Name "sum" cB) [e] [] al) (.int ns.sum):=
 ow hk (WL _) WV (bI B cF bV) (λX C af aK G aV=>by
  refine a3.eC aV λ_ _ r rs=>?_
  refine a3.eN rs ?_;exact ahX bd r) (bV:=by simp[bV])
theorem Yv(a b:Nat):(a:Int).fdiv (b:Int)=((a / b:Nat):Int):=by
 refine H (Ev _ (by exact fG _)) ?_;rfl
theorem YC(a b:Nat):(a:Int).fmod (b:Int)=((a % b:Nat):Int):=by
 refine H (xH _ (by exact fG _)) ?_;rfl
theorem lh{e:a'}{a b:Int}(B:aY W I env ae e (.int a))(q:a=b):aY W I env ae e (.int b):=q▸B
theorem v9{l r al}{a b:Nat}(aN:aY W I env ae l (.int a))(aE:aY W I env ae r (.int b))(ak:b≠0)(aF:(b:Int).natAbs.log2<9000):aY W I env ae (.BinOp l .FloorDiv r al) (.int (a / b:Nat)):=
 lh (L2 aN aE (by lia) (aiA aF)) (Yv a b)
theorem v'{l r al}{a b:Nat}(aN:aY W I env ae l (.int a))(aE:aY W I env ae r (.int b))(ak:b≠0):aY W I env ae (.BinOp l .Mod r al) (.int (a % b:Nat)):=
 lh (yw aN aE (by lia)) (YC a b)
theorem FX{l r al}{a b:Nat}(aN:aY W I env ae l (.int a))(aE:aY W I env ae r (.int b))(aI:b<2^64):aY W I env ae (.BinOp l .Mult r al) (.int (a*b:Nat)):=
 lh (FW aN aE (aiW (UJ.mpr aI))) (by simp)
theorem Vo{l r al}{a b:Nat}(aN:aY W I env ae l (.int a))(aE:aY W I env ae r (.int b)):aY W I env ae (.BinOp l .Add r al) (.int (a+b:Nat)):=
 lh (v7 aN aE) (by simp)
theorem FZ{l r al}{a b:Nat}(aN:aY W I env ae l (.int a))(aE:aY W I env ae r (.int b))(B:b<=a):aY W I env ae (.BinOp l .Sub r al) (.int (a - b:Nat)):=
 lh (yx aN aE) (wl B)
theorem BK{l r al}{a b:Nat}(aN:aY W I env ae l (.int a))(aE:aY W I env ae r (.int b))(h1:a<2^20)(aA:b<64):aY W I env ae (.BinOp l .Pow r al) (.int (a^b:Nat)):=
 lh (VF aN aE (by lia) (by
  have:sg (a:Int)<=20:=UJ.mpr (by simpa using h1)
  have:(sg (a:Int):Int)*(b:Int)<=20*64:=by
   refine tw (Int.mul_le_mul_of_nonneg_right (show(sg (a:Int):Int)<=20 by lia) (by lia)) ?_
   lia
  lia)) (by simp)
theorem i7{L:Nat}{k al}:aY W I env ae (.Constant (.int (L:Int)) k al) (.int (L:Nat)):=c_
theorem Vv{v ct:a'}{al:bp}{D:ay}{L:Nat}{V:Nat}(bA:aY W I env ae v (.str D))(aU:aY W I env ae ct (.int (L:Nat)))(h1:L<2^63)(aO:D.cps[L]? =some V)(aF:autoParam (qd ct=true) tR):aY W I env ae (.Subscript v ct al) (.str ⟨#[V]⟩):=
 yy bA aU λX C bx bE aK _ aT bb=>by
  refine aC.eS aT λ_=>?_;refine aC.eI bb λ_=>?_
  refine⟨λai aj q=>?_⟩
  have cM:L<D.cps.size:=by
   refine bH (Ke.mp aO) λJ _=>?_
   exact J
  have ba:(vV (L:Int) D.length).bind (D.cps[·]?)=some V:=by
   have:vV (L:Int) D.length=some L:=by
    unfold vV
    have a8:¬((L:Int)<0):=by lia
    simp only[a8,if_false]
    rw[if_pos]
    .simp
    .have:D.length=D.cps.size:=rfl
     simp
     exact bX [_,_,_] 133136778532161 rfl cM this
   refine H this ?_
   exact aO
  have aE:(decide ((L:Int)< -(2^63:Int))||decide ((L:Int) ≥ 2^63))=false:=by
   simp only[Bool.or_eq_false_iff,decide_eq_false_iff_not]
   lia
  with_reducible refine og (tU _ _ _) F.slot_str_getitem.lookup (aim aE ba (q _ _ (ey C _) (.str _ _))) (tj aF _ _)
end
end Mine.Tactic
section
open Sem (wp)
open AutoSeq1 (wpAny_loadPart')
namespace Mine.Tactic
theorem adY{M:Bp}{I:br}{C:aq}{aj:an->aq->Prop}{ai:Bool->aq->Prop}{b:Bool}(B:∀b,ai b C):az M I (pure b) ai aj C:=b6 (B b)
set_option maxHeartbeats 1000000 in
theorem ac3(b:Array UInt8)(t:dN):vM (fX.«enumerate.__new__» ⟨[.type "enumerate",.bytes b t],[]⟩) (λ_ R C=>R (.ok (.ret (.ref (C.heap.push {cls:=.type "bytes_iterator",data:=.fields #[.bytes b t,.int 0 0]}).objs.size))) {C with heap:=(C.heap.push {cls:=.type "bytes_iterator",data:=.fields #[.bytes b t,.int 0 0]}).push {cls:=.type "enumerate",data:=.fields #[.none,.bool false,.ref C.heap.objs.size,dG 0,.none,.none]}}):=
 .of_wp λprog w I R C B=>by
  obtain⟨aF,g,d,bg,os⟩:=C
  have fg:=sub_enumerate
  wp_walk
  refine wpAny_stack_any λst=>adY λb=>?_
  cases b
  .wp_walk using Fo
   exact⟨_,rfl,B⟩
  .wp_walk using Fo
   exact⟨_,rfl,B⟩
section
variable{prog:kG}{w:c4}{I:br}{aj:an->aq->Prop}{C:aq}{b:Array UInt8}{t:dN}
theorem ac'{d0:ah}{L:Nat}{V:UInt8}{ai:an->aq->Prop}(gh:tH C.heap d0 b t L)(aS:b[L]? =some V)(f8:∀aD,tH aD d0 b t (L+1)->mJ d0 C.heap aD->ai (.int (V.toNat:Int) C.toks) {C with heap:=aD,toks:=C.toks+1}):az (gn prog w) I (pr (.ref d0)) ai aj C:=by
 refine iA (id gh) λN a6 aO hd=>?_
 unfold pr
 refine aM (yg (name:=ia "__next__") (Fn gh) Fp
  (l' Fp (Fn gh) Us ?_ (Ur _)))
 show az _ _ (qu (.ref d0) 0>>=_) _ _ C
 refine aM (iF a6 hd (x:=.bytes b t) rfl ?_)
 show az _ _ (if(Fm b t==gB)=true then _ else _) _ _ C
 refine H (if_neg (show¬((Fm b t==gB)=true)from tv)) ?_
 show az _ _ (qu (.ref d0) 1>>=_) _ _ C
 refine aM (iF a6 hd (x:=.int L 0) rfl ?_)
 refine aM (g4 (a:=b) rfl ?_)
 simp only[lH,aS]
 refine aM (U' a6 hd (by simp) (aM (FG (b6 ⟨_,rfl,b6 (f8 _ ?_ (pv ..))⟩))))
 exact⟨_,x0 _ a6 (Obj.isFreed_of_fields (Uh hd _)),(Obj.cls_mapFields ..).trans aO,by
  refine H ((Uh hd) _) ?_;simp[dG]⟩
theorem ac_{d0:ah}{L:Nat}{ai:an->aq->Prop}(cE:I.handled=none)(gh:tH C.heap d0 b t L)(aS:b[L]? =none)(iU:∀aD e,Bn d0 C.heap aD->(∃N,aD.get? e=some N/\N.cls= .type "StopIteration")->aj (.ref e) {C with heap:=aD}):az (gn prog w) I (pr (.ref d0)) ai aj C:=by
 refine iA (id gh) λN a6 aO hd=>?_
 unfold pr
 refine aM (yg (name:=ia "__next__") (Fn gh) Fp
  (l' Fp (Fn gh) Us ?_ (Ur _)))
 show az _ _ (qu (.ref d0) 0>>=_) _ _ C
 refine aM (iF a6 hd (x:=.bytes b t) rfl ?_)
 show az _ _ (if(Fm b t==gB)=true then _ else _) _ _ C
 refine H (if_neg (show¬((Fm b t==gB)=true)from tv)) ?_
 show az _ _ (qu (.ref d0) 1>>=_) _ _ C
 refine aM (iF a6 hd (x:=.int L 0) rfl ?_)
 refine aM (g4 (a:=b) rfl ?_)
 simp only[lH,aS]
 refine aM (oo (aM (U' a6 hd (by simp) ?_)))
 show az _ _ (newExc (.type "StopIteration") []>>=_) _ _ _
 refine aM ?_
 simp only[newExc,vU]
 refine aM (tX ?_ (by size_fits))
 refine aM (m:=UH _ _) (g4 (a:=gB) (by first |rfl|(simp only[UH];rfl)) ?_)
 refine tX ?_ (by size_fits)
 unfold raiseNew
 refine aM (wpAny_handled ?_)
 first |refine H (show I.in1.handled=none from cE) ?_|rw[cE]
 refine aM (b6 (wpAny_throw ?_))
 exact iU _ _ (((pv ..).extBut.push _).push _) ⟨_,f_ _ rfl,rfl⟩
end
theorem XS{prog:kG}{w:c4}{I:br}(cE:I.handled=none)(d0:ah)(b:Array UInt8)(t:dN):Draws prog w I d0 [d0] b.size (λL v=>∃V bq,b[L]? =some V/\v= .int (V.toNat:Int) bq) (λL B=>tH B d0 b t L) where
 live:=λ_ _ st=>let⟨N,a6,_⟩:=st;⟨N,a6⟩
 frame:=λ_ _ _ st hk=>let⟨N,a6,r⟩:=st;⟨N,hk d0 (by simp) N a6,r⟩
 item:=λL C ai aj aU st f8=>by
  refine ac' st (V:=b[L]) (by simp[aU]) λaD qK ec=>?_
  exact f8 _ aD (C.toks+1) ⟨_,_,by simp[aU],rfl⟩ qK ec
 done:=λC ai aj st iU=>ac_ cE st (by simp) iU
section
variable{prog:kG}{w:c4}{I:br}{aj:an->aq->Prop}{C:aq}
theorem Xj{b:Array UInt8}{t:dN}{ai:an->aq->Prop}(B:∀aD,Ld aD (C.heap.objs.size+1) C.heap.objs.size 0 .none->tH aD C.heap.objs.size b t 0->aD.objs.size=C.heap.objs.size+2->(∀b N,C.heap.get? b=some N->aD.get? b=some N)->ai (.ref (C.heap.objs.size+1)) {C with heap:=aD}):az (gn prog w) I (df (.type "enumerate") [.bytes b t]) ai aj C:=by
 refine Ux F.called_enumerate (by decide) (F.typeCall_enumerate_1 _) (F.newCall_enumerate_1 _) (λobj=>F.args_object_init_2 obj _) F.entry_enumerate_new
  (ac3 b t) ?_
 have aH:(C.heap.push {cls:=.type "bytes_iterator",data:=.fields #[.bytes b t,.int 0 0]}).objs.size=C.heap.objs.size+1:=nh ..
 show _/\_
 refine H aH ?_
 have bw:Ld ((C.heap.push {cls:=.type "bytes_iterator",data:=.fields #[.bytes b t,.int 0 0]}).push
   {cls:=.type "enumerate",data:=.fields #[.none,.bool false,.ref C.heap.objs.size,dG 0,.none,.none]}) (C.heap.objs.size+1) C.heap.objs.size 0 .none:=by
  have:=f_ (C.heap.push {cls:=.type "bytes_iterator",data:=.fields #[.bytes b t,.int 0 0]})
   (o:={cls:=.type "enumerate",data:=.fields #[.none,.bool false,.ref C.heap.objs.size,dG 0,.none,.none]}) rfl
  rw[aH]at this;exact this
 refine⟨⟨_,bw,rfl⟩,B _ bw ⟨_,eu _ (f_ _ rfl),rfl,rfl⟩ (by refine H (nh _ _) ?_;refine H aH ?_;rfl) λb N D=>eu _ (eu _ D)⟩
end
section
variable{W:bj}{I:br}{env:bB}{X:List ah}{ae:bu}{C:aq}
theorem ab6{b:bo}{ag:ah}{ht d1:List ah}{aR:List ax}{Mm:Nat->Array an->Prop}{fZ:Nat->bo->Prop}{Vm:Nat->ah->bo->Prop}(kd:WalksT W.prog W.w I ag ht d1 aR.length Mm fZ Vm)(hex:∀L B,fZ L B->∀a∈d1,∃N,B.get? a=some N)(gh:∀L AS d,Mm L AS->aR[L]? =some d->∃ab,d= .tuple ab/\a3 b AS.toList ab):t5 W I b ag ht d1 aR true fZ where
 frame:=kd.frame
 ex:=hex
 sub:=kd.sub
 next:=λL dd C ai aj d a6 hd st f8=>by
  refine kd.item L C _ aj (kB.mp hd).1 st λT AS aD bg aF dp dI zA hk=>?_
  refine⟨.ref T,rfl,?_⟩
  have cp:=a6 rfl
  have ZI:=kd.apart _ _ _ zA
  cases dd<;>first |cases cp|skip
  refine kd.go _ _ _ L T {C with heap:=aD,toks:=bg} _ aj zA λju afz OM=>?_
  refine cm (gh L AS d aF hd) λab dC aV=>?_;subst dC
  refine cm dI λN a6 r=>?_;clear dI
  exact f8 (.ref T) _ ⟨⟨ju,bg,rfl⟩,λV N aO e=>OM V N aO (hk V N aO e)⟩ afz (.tup rfl rfl rfl ⟨N,OM T N ZI a6,r⟩ aV)
 done:=λC ai aj st f8=>kd.done C ai aj st λaD bg hk=>f8 _ ⟨⟨aD,bg,rfl⟩,hk⟩
 self:=λL C ai aj st f8=>kd.self L C ai aj st f8
noncomputable def y6(bs:Array UInt8):List ax:=bs.toList.zipIdx.map λJ=>.tuple [.int (J.2:Nat),.int J.1.toNat]
theorem VN{e:a'}{cB al:bp}{bs:Array UInt8}(bd:I.handled=none)(B:aY W I env ae e (.bytes bs))(hk:autoParam (env.kindOf "enumerate"=some .globalImplicit) tR)(bV:autoParam (eQ e=false) tR):lQ W I env ae true (.Call (.Name "enumerate" cB) [e] [] al) (y6 bs):=⟨λX C aK G ai aj q=>by
 show az _ _ (b1 (.Name "enumerate" cB) env>>=λv=>fH al v [] (fk al (eV [e] env)) (j_ al (j' [] env))) _ _ _
 refine aM (ly G hk (WH _) WR ?_)
 show az _ _ (fH al (.type "enumerate") [] (fk al (eV [e] env)) []) _ _ _
 refine H ((h8 bV) _) ?_
 refine jQ (λ_ e=>nomatch e) rfl (k' (g0 ((B.on X C aK G).go _ _ λbx aG k1 aT=>jJ ?_)))
 cases aT with
 |bytes _ t=>
 refine Xj λaD bw ak dp hJ=>?_
 refine wpAny_pyIter_enum bw ?_
 have k2:cS aG {aG with heap:=aD}:=⟨aD,aG.toks,rfl,hJ⟩
 have dL:aG.heap.get? aG.heap.objs.size=none:=iC (eF _)
 have et:aG.heap.get? (aG.heap.objs.size+1)=none:=iC (pq _)
 have cx:aG.heap.objs.size+1≠aG.heap.objs.size:=Nat.succ_ne_self _
 have bW:(y6 bs).length=bs.size:=by simp[y6]
 refine q _ _ (lP.before k1 ⟨⟨aG.heap.objs.size+1,[aG.heap.objs.size+1,aG.heap.objs.size],[aG.heap.objs.size+1,aG.heap.objs.size],λL B=>(∃old,Ld B (aG.heap.objs.size+1) aG.heap.objs.size (L:Nat) old)/\tH B aG.heap.objs.size bs t L,rfl,ab6 (aR:=y6 bs) (by refine H bW ?_;exact WalksT.enumerateD (XS (I:=I.in1) bd aG.heap.objs.size bs t) (aG.heap.objs.size+1) cx (by simp) (by simp)) (λL B st a ha=>?_) (λL AS d aF hd=>?_),⟨⟨_,bw⟩,ak⟩,?_,?_,?_⟩,k2⟩)
 .refine d8 st λhK bm=>?_;clear st;obtain⟨old,a8⟩:=hK
  simp at ha
  rcases ha with rfl|rfl
  .exact⟨_,a8⟩
  .refine cm bm λN a6 _=>?_;clear bm;exact⟨N,a6⟩
 .refine jG aF λvo D rT mx=>?_;clear aF;obtain⟨V,bq,aO,rfl⟩:=rT;subst mx
  unfold y6 at hd
  rw[lI]at hd
  have:bs.toList.zipIdx[L]? =some (V,L):=by simp[List.getElem?_zipIdx,aO]
  rw[this]at hd
  cases hd
  exact⟨_,rfl,.cons (.int _ _) (.cons (.int _ _) .nil)⟩
 .intro a ha
  simp at ha
  rcases ha with rfl|rfl
  .exact et
  .exact dL
 .intro a ha
  simp at ha
  rcases ha with rfl|rfl
  .exact⟨_,bw,λ_ _ q=>by cases q⟩
  .refine iA ak λN a6 _ hd=>?_;clear ak
   exact⟨N,a6,λ_ _ q=>by rw[hd]at q;cases q⟩
 .intro a ha;exact .inl ha⟩
end
end Mine.Tactic
end
namespace Mine.Tactic
noncomputable def ae':List Nat:=[65,66,67,68,69,70,71,72,73,74,75,76,77,78,79,80,81,82,83,84,85,86,87,88,89,90,97,98,99,100,101,102,103,104,105,106,107,108,109,110,111,112,113,114,115,116,117,118,119,120,121,122,48,49,50,51,52,53,54,55,56,57,43,47]
noncomputable def hQ(L:Nat):Nat:=ae'.getD L 0
theorem Rt:(e7 64).all (λL=>gH (hQ L)&&(e7 64).all λaB=>hQ L !=hQ aB||L==aB)=true:=by decide+kernel
theorem ae_{L:Nat}(B:L<64):gH (hQ L)=true:=by
 have:=kA.mp Rt L (pl.mpr B)
 simp only[mH]at this
 exact this.1
theorem ae9{L aB:Nat}(B:L<64)(aD:aB<64)(e:hQ L=hQ aB):L=aB:=by
 have:=kA.mp Rt L (pl.mpr B)
 simp only[mH]at this
 have:=kA.mp this.2 aB (pl.mpr aD)
 simpa[e]using this
noncomputable def u'(os:List Nat):Nat:=os.foldl (λa N=>a*256+N) 0
noncomputable def qS(os:List Nat):Nat:=u' os*4^((3 - os.length % 3) % 3)
noncomputable def j2(Y:Nat):Nat:=(8*Y+5) / 6
theorem Qs:∀(l:List Nat)(k:Nat),((l.zipIdx k).map λJ=>J.1*256^J.2).sum=l.foldr (λN a=>a*256+N) 0*256^k
 |[],k=>by simp
 |N::l,k=>by
  rw[KD,ef,A6,Qs l (k+1),List.foldr_cons,Nat.pow_succ,EK,tE (256^k) 256, <-ES,A8]
theorem ado(os:List Nat):(os.reverse.zipIdx.map λJ=>J.1*256^J.2).sum=u' os:=by
 refine H (Qs _ _) ?_;refine H List.foldr_reverse ?_;refine H (Bg _) ?_;refine H (Be _) ?_
 rfl
noncomputable def h5(os:List Nat):List Nat:=(e7 (j2 os.length)).map λst=>hQ (qS os / 64^(j2 os.length - 1 - st) % 64)
theorem adc(os:List Nat):∀V∈h5 os,gH V=true:=λV aO=>by
 refine dQ aO λL _=>?_
 exact ae_ (hy _ (by decide))
theorem xa(os:List Nat):(h5 os).length=j2 os.length:=by simp[h5]
theorem w_(a:Nat):h5 [a]=[hQ ((0*256+a)*4^2 / 64^1 % 64),hQ ((0*256+a)*4^2 / 64^0 % 64)]:=by
 simp only[h5,j2,qS,u',i3,q9,vH,EX,EV,EW,EY,tA,show e7 2=[0,1]from rfl,ob]
theorem Qh(a b:Nat):h5 [a,b]=[hQ (((0*256+a)*256+b)*4^1 / 64^2 % 64),hQ (((0*256+a)*256+b)*4^1 / 64^1 % 64),hQ (((0*256+a)*256+b)*4^1 / 64^0 % 64)]:=by
 simp only[h5,j2,qS,u',i3,q9,vH,EX,EV,EW,EY,tA,show e7 3=[0,1,2]from rfl,ob]
theorem Qi(a b V:Nat):h5 [a,b,V]=[hQ ((((0*256+a)*256+b)*256+V)*4^0 / 64^3 % 64),hQ ((((0*256+a)*256+b)*256+V)*4^0 / 64^2 % 64),hQ ((((0*256+a)*256+b)*256+V)*4^0 / 64^1 % 64),hQ ((((0*256+a)*256+b)*256+V)*4^0 / 64^0 % 64)]:=by
 simp only[h5,j2,qS,u',i3,q9,vH,EX,EV,EW,EY,tA,show e7 4=[0,1,2,3]from rfl,ob]
theorem Qj(a b V d:Nat):h5 [a,b,V,d]=[hQ (((((0*256+a)*256+b)*256+V)*256+d)*4^2 / 64^5 % 64),hQ (((((0*256+a)*256+b)*256+V)*256+d)*4^2 / 64^4 % 64),hQ (((((0*256+a)*256+b)*256+V)*256+d)*4^2 / 64^3 % 64),hQ (((((0*256+a)*256+b)*256+V)*256+d)*4^2 / 64^2 % 64),hQ (((((0*256+a)*256+b)*256+V)*256+d)*4^2 / 64^1 % 64),hQ (((((0*256+a)*256+b)*256+V)*256+d)*4^2 / 64^0 % 64)]:=by
 simp only[h5,j2,qS,u',i3,q9,vH,EX,EV,EW,EY,tA,show e7 6=[0,1,2,3,4,5]from rfl,ob]
theorem th{L aB:Nat}(e:hQ (L % 64)=hQ (aB % 64)):L % 64=aB % 64:=ae9 (hy _ (by decide)) (hy _ (by decide)) e
theorem Dp{X mh:Nat}(a8:X / 64 % 64=mh / 64 % 64)(bm:X % 64=mh % 64):X % 4096=mh % 4096:=by
 refine H (show 4096=64*64 from rfl) ?_;refine H Tr ?_;refine H Tr ?_;refine H a8 ?_;refine H bm ?_;rfl
theorem Dq{q td J fN V d:Nat}(aF:J<256)(p1:fN<256)(aO:0<V)(hd:256*V*d=4096)(e:(q*256+J)*V % 4096=(td*256+fN)*V % 4096):J=fN:=by
 have B:∀{q J:Nat},J<256->(q*256+J)*V % 4096 % (256*V)=J*V:=λ{q J} B=>by
  refine b' hd ?_;refine H (Nat.mod_mul_right_mod _ _ _) ?_;refine H (KO _ _ _) ?_;refine H ((tE q) _) ?_;refine H (ER _ _ _) ?_;refine H (rf B) ?_;rfl
 exact Nat.eq_of_mul_eq_mul_right aO ((B aF).symm.trans ((congrArg (· % (256*V)) e).trans (B p1)))
theorem adb{os l5:List Nat}{J fN:Nat}(B:os.length<=3)(aD:l5.length<=3)(aF:J<256)(p1:fN<256)(e:h5 (os++[J])=h5 (l5++[fN])):J=fN:=by
 have aN:=congrArg List.length e
 simp only[xa,j2,gJ,i3,q9]at aN
 have il:os.length=l5.length:=(show∀L,L<4->∀aB,aB<4->(8*(L+(0+1))+5) / 6=(8*(aB+(0+1))+5) / 6->L=aB by decide) _ (tB B) _ (tB aD) aN
 clear aN
 cases os with
 |nil=>
  cases l5 with
  |cons _ _=>simp at il
  |nil=>
  simp only[xN,w_,xK,and_true]at e
  have bm:=th e.2
  rw[Bg,qp,qp]at bm
  exact Dq (q:=0) (td:=0) (V:=16) (d:=1) aF p1 (by decide) (by decide) (Dp (th e.1) bm)
 |cons a os=>
 cases l5 with
 |nil=>simp at il
 |cons ci l5=>
 have il:os.length=l5.length:=sf il
 cases os with
 |nil=>
  cases l5 with
  |cons _ _=>simp at il
  |nil=>
  simp only[Ey,xN,Qh,xK,and_true]at e
  have bm:=th e.2.2
  rw[Bg,qp,qp]at bm
  exact Dq (V:=4) (d:=4) aF p1 (by decide) (by decide) (Dp (th e.2.1) bm)
 |cons b os=>
 cases l5 with
 |nil=>simp at il
 |cons mX l5=>
 have il:os.length=l5.length:=sf il
 cases os with
 |nil=>
  cases l5 with
  |cons _ _=>simp at il
  |nil=>
  simp only[Ey,xN,Qi,xK,and_true]at e
  have bm:=th e.2.2.2
  rw[Bg,qp,qp]at bm
  exact Dq (V:=1) (d:=16) aF p1 (by decide) (by decide) (Dp (th e.2.2.1) bm)
 |cons V os=>
 cases l5 with
 |nil=>simp at il
 |cons fx l5=>
 cases os with
 |cons _ _=>exact absurd B (by simp)
 |nil=>
 cases l5 with
 |cons _ _=>exact absurd aD (by simp)
 |nil=>
  simp only[Ey,xN,Qj,xK,and_true]at e
  have bm:=th e.2.2.2.2.2
  rw[Bg,qp,qp]at bm
  exact Dq (V:=16) (d:=1) aF p1 (by decide) (by decide) (Dp (th e.2.2.2.2.1) bm)
section
variable{W:bj}{I:br}{env:bB}{ae:bu}{X:List ah}{C:aq}
theorem P9{a4 d9:Type}{bi:List a4}{g:a4->d9}{inv:d9->a4}{ah':Type}{ao:a4->ah'}(B:∀a∈bi,inv (g a)=a):(bi.map g).map (λd=>ao (inv d))=bi.map ao:=by
 refine H dY ?_
 apply gZ
 intro a ha
 simp[B a ha]
theorem Ak{D:ay}{lm:ax}{bU:bB}(aS:bU.kindOf D=some .local)(hd:(D==("__debug__":ay))=false):∀(am:ay)(e:ax),([(D,lm)]:bu).lookup am=some e->bU.kindOf am=some .local/\(am==("__debug__":ay))=false:=λam e B=>by
 rw[c1]at B
 cases bZ:am==D with
 |false=>rw[bZ]at B;cases B
 |true=>have:=(eq_of_beq bZ).symm;subst this;exact⟨aS,hd⟩
theorem agK{D am:ay}{lm cQ:ax}{bU:bB}(aS:bU.kindOf D=some .local)(hd:(D==("__debug__":ay))=false)(bZ:bU.kindOf am=some .local)(mr:(am==("__debug__":ay))=false):∀(au:ay)(e:ax),([(am,cQ),(D,lm)]:bu).lookup au=some e->bU.kindOf au=some .local/\(au==("__debug__":ay))=false:=λau e B=>by
 rw[c1]at B
 cases aH:au==am with
 |false=>rw[aH]at B;exact Ak aS hd au e B
 |true=>have:=eq_of_beq aH;subst this;exact⟨bZ,mr⟩
theorem kL{a4:Type}{D:ay}{bK al:bp}{eb iter:a'}{bC:jn}(bi:List a4)(g:a4->ax)(inv:ax->a4)(ao:a4->ax)(dg:List (ay×ah))(eo:bu)(kq:lQ W I env ae false iter (bi.map g))(lw:∀a∈bi,inv (g a)=a)(lu:ff bC dg env ae eo)(qc:∀a∈bi,∀aX,aY W I (fD bC dg aX env) ((D,g a)::eo) eb (ao a))(aH:bi.length<=bc)(pV:autoParam (∀aX,(fD bC dg aX env).kindOf D=some .local) tI)(sP:autoParam (∀aX,(fD bC dg aX env).scope.kind= .function) tI)(hd:autoParam ((D==("__debug__":ay))=false) tD)(jS:autoParam (rl bC env=pure dg) tR)(a9:autoParam (∀D,pB iter env D=pure D) tI)(g6:autoParam (bC.kind= .function) tR)(iJ:autoParam (bC.names.all (λam=>am.2 != .cell)=true) tR)(m3:autoParam (bC.names.all (λam=>am.2 != .local ||bC.names.lookup am.1==some .local)=true) tR):aY W I env ae (.ListComp eb [⟨.Name D bK,iter,[],0⟩] bC al) (.list (bi.map ao))/\li W I env ae (.ListComp eb [⟨.Name D bK,iter,[],0⟩] bC al) (.list (bi.map ao)):=by
 have B:=Gn (eb:=eb) (al:=al) (dd:=.Name D bK) (ep:=[]) dg eo (λd=>[(D,d)]) (λ_=>true) (λd=>ao (inv d)) kq lu (λd _ aX=>BB (pV aX) (sP aX)) (λ_ _ _=>BQ)
  (λd hd aX _=>by
   refine dQ hd λa ha=>?_
   refine H (lw a ha) ?_
   exact qc a ha aX) (λd _ aX=>Ak (pV aX) hd) (by simpa using aH) (λB=>nomatch B) jS a9 g6 iJ m3
 rwa[Nu,P9 lw]at B
theorem MZ{a4:Type}{D:ay}{bK al:bp}{eb iter V:a'}{bC:jn}(bi:List a4)(g:a4->ax)(inv:ax->a4)(ok:a4->Bool)(ao:a4->ax)(dg:List (ay×ah))(eo:bu)(kq:lQ W I env ae false iter (bi.map g))(lw:∀a∈bi,inv (g a)=a)(lu:ff bC dg env ae eo)(kZ:∀a∈bi,∀aX,ej W I (fD bC dg aX env) ((D,g a)::eo) V (ok a))(qc:∀a∈bi,∀aX,ok a=true->aY W I (fD bC dg aX env) ((D,g a)::eo) eb (ao a))(aH:bi.length<=bc)(pV:autoParam (∀aX,(fD bC dg aX env).kindOf D=some .local) tI)(sP:autoParam (∀aX,(fD bC dg aX env).scope.kind= .function) tI)(hd:autoParam ((D==("__debug__":ay))=false) tD)(jS:autoParam (rl bC env=pure dg) tR)(a9:autoParam (∀D,pB iter env D=pure D) tI)(g6:autoParam (bC.kind= .function) tR)(iJ:autoParam (bC.names.all (λam=>am.2 != .cell)=true) tR)(m3:autoParam (bC.names.all (λam=>am.2 != .local ||bC.names.lookup am.1==some .local)=true) tR):aY W I env ae (.ListComp eb [⟨.Name D bK,iter,[V],0⟩] bC al) (.list ((bi.filter ok).map ao))/\li W I env ae (.ListComp eb [⟨.Name D bK,iter,[V],0⟩] bC al) (.list ((bi.filter ok).map ao)):=by
 have B:=Gn (eb:=eb) (al:=al) (dd:=.Name D bK) (ep:=[V]) dg eo (λd=>[(D,d)]) (λd=>ok (inv d)) (λd=>ao (inv d)) kq lu (λd _ aX=>BB (pV aX) (sP aX))
  (λd hd aX=>by
   refine dQ hd λa ha=>?_
   refine H (lw a ha) ?_
   exact Mk (kZ a ha aX))
  (λd hd aX=>by
   refine dQ hd λa ha=>?_
   refine H (lw a ha) ?_
   exact qc a ha aX) (λd _ aX=>Ak (pV aX) hd) (by simpa using aH) (λB=>nomatch B) jS a9 g6 iJ m3
 have e:((bi.map g).flatMap λd=>if ok (inv d)=true then [ao (inv d)]else [])=(bi.filter ok).map ao:=by
  clear kq kZ qc aH B lu
  induction bi with
  |nil=>rfl
  |cons a bi bf=>
   refine H ef ?_;refine H tz ?_;refine H (bf (λb ak=>lw b (.tail _ ak))) ?_;refine H (lw a (.head _)) ?_;refine H qm ?_
   split <;>simp
 rwa[e]at B
theorem M1{a4:Type}{own:Bool}{D am:ay}{bK py kZ al:bp}{aB:Nat}{eb iter:a'}{bC:jn}(bi:List a4)(g1 g2:a4->ax)(inv:ax->a4)(ao:a4->ax)(dg:List (ay×ah))(eo:bu)(bd:I.handled=none)(kq:lQ W I env ae own iter (bi.map λa=>.tuple [g1 a,g2 a]))(lw:∀a∈bi,inv (.tuple [g1 a,g2 a])=a)(lu:ff bC dg env ae eo)(qc:∀a∈bi,∀aX,aY W I (fD bC dg aX env) ((am,g2 a)::(D,g1 a)::eo) eb (ao a))(aH:bi.length<=bc)(C6:autoParam (D≠am) tD)(pV:autoParam (∀aX,(fD bC dg aX env).kindOf D=some .local) tI)(zx:autoParam (∀aX,(fD bC dg aX env).kindOf am=some .local) tI)(sP:autoParam (∀aX,(fD bC dg aX env).scope.kind= .function) tI)(hd:autoParam ((D==("__debug__":ay))=false) tD)(mr:autoParam ((am==("__debug__":ay))=false) tD)(jS:autoParam (rl bC env=pure dg) tR)(a9:autoParam (∀D,pB iter env D=pure D) tI)(g6:autoParam (bC.kind= .function) tR)(iJ:autoParam (bC.names.all (λam=>am.2 != .cell)=true) tR)(m3:autoParam (bC.names.all (λam=>am.2 != .local ||bC.names.lookup am.1==some .local)=true) tR):aY W I env ae (.ListComp eb [⟨.Tuple [.Name D bK,.Name am py] aB kZ,iter,[],0⟩] bC al) (.list (bi.map ao))/\li W I env ae (.ListComp eb [⟨.Tuple [.Name D bK,.Name am py] aB kZ,iter,[],0⟩] bC al) (.list (bi.map ao)):=by
 have B:=Gn (eb:=eb) (al:=al) (dd:=.Tuple [.Name D bK,.Name am py] aB kZ) (ep:=[]) dg eo (λd=>[(am,g2 (inv d)),(D,g1 (inv d))]) (λ_=>true) (λd=>ao (inv d)) kq lu
  (λd hd aX=>by
   refine dQ hd λa ha=>?_
   refine H (lw a ha) ?_
   exact Vd bd (pV aX) (zx aX) (sP aX) C6) (λ_ _ _=>BQ)
  (λd hd aX _=>by
   refine dQ hd λa ha=>?_
   refine H (lw a ha) ?_
   exact qc a ha aX) (λd _ aX=>agK (pV aX) hd (zx aX) mr) (by simpa using aH) (λ_=>rfl) jS a9 g6 iJ m3
 rwa[Nu,P9 lw]at B
noncomputable def xw:ax->Nat
 | .int L=>L.toNat
 |_=>0
theorem Eg(Y:Nat):∀a∈e7 Y,xw (.int (0+(a:Nat)))=a:=λa _=>congrArg xI (tx (a:Int))
end
section
variable{W:bj}{I:br}
theorem adU:∀st,st<4->(((256^st:Nat):Int).natAbs.log2<9000):=by decide
noncomputable def qT(Y ta:Nat):List Nat:=((e7 (Y / 6 % 4)).map λst=>Y / 24 / 256^st % 256)++[ta]
theorem ad8(bd:I.handled=none)(bk:I.depth<d3)(Y ta:Nat)(aF:ta<256):pI W I 178 [.int Y,.int ta] (.bytes (mN ((qT Y ta).map kz))):=by
 refine tc (Gy W) rfl bk λar=>?_
 have cA:(I.deeper (callEnvC (bP W.w 178) ar 178)).handled=none:=bd
 generalize I.deeper (callEnvC (bP W.w 178) ar 178)=dH at cA ⊢
 have cK:Y / 6 % 4<4:=hy _ (by decide)
 refine mT ?_
 refine FS (ns:=(qT Y ta).map kz) ?_ ?_ ?_ cA
 .have e:((qT Y ta).map kz).map ax.int=((e7 (Y / 6 % 4)).map λst=>ax.int ((Y / 24 / 256^st % 256:Nat):Int))++[.int ta]:=by
   simp[qT,gA]
  refine H e ?_
  refine rr ?_ (hi (bI (aW rfl) cF) (by simp[bc])) ?_
  .refine(kL (e7 (Y / 6 % 4)) (λL=>.int (0+(L:Nat))) xw _ [("n",ar+1)] [("n",.int Y)] (BN cA ?_ ?_) (Eg _) (ff.cons ff.nil rfl rfl rfl rfl) ?_ ?_).1
   .exact v' (v9 (aW rfl) (i7 (L:=6)) (by decide) (by decide)) (i7 (L:=4)) (by decide)
   .generalize Y / 6 % 4=k at cK
    match k,cK with
    |0,_=>rfl
    |1,_=>rfl
    |2,_=>rfl
    |3,_=>rfl
   .intro L aU aX
    have lv:L<Y / 6 % 4:=pl.mp aU
    refine v' (v9 (v9 (aW rfl) (i7 (L:=24)) (by decide) (by decide)) (BK (i7 (L:=256)) (lh (aW rfl) (by lia)) (by decide) (by exact bX [_,_] 176487366853404926273 rfl lv cK)) ?_ ?_) (i7 (L:=256)) (by decide)
    .exact Tt.mp (Tu (by decide))
    .exact adU L (by exact bX [_,_] 11030460428337811777 rfl lv cK)
   .simp[bc];exact aL [_] 2679467282491582214464 rfl cK
  .simp[bc];exact aL [_] 167466706186515996992 rfl cK
 .intro m aI
  refine dQ aI λk hk=>?_
  unfold qT at hk
  rcases fC.mp hk with hk|hk
  .refine dQ hk λst _=>?_
   exact⟨fG _,i1.mpr (hy _ (by decide))⟩
  .simp at hk;subst hk;exact⟨fG _,i1.mpr aF⟩
 .simp[qT,bc];exact aL [_] 167466706186515996992 rfl cK
end
theorem J0(h6:ay)(l:List ay):mL h6 l=Fj h6 l:=eq_of_beq (join_plain_closes h6 l)
theorem RZ(l:List Nat):mL ⟨#[]⟩ (l.map λk=>(⟨#[k]⟩:ay))=bh l:=by refine H (J0 _ _) ?_;refine H (join_ones _) ?_;rfl
theorem QF(l:List Nat):((l.map λk=>(⟨#[k]⟩:ay)).map (·.length)).sum=l.length:=by
 induction l with
 |nil=>rfl
 |cons V l bf=>rw[ef,ef,A6,bf,i3];exact A8 1 _
section
variable{W:bj}{I:br}{env:bB}{ae:bu}{X:List ah}{C:aq}
set_option tactic.hygienic true in
theorem ahL{bx:an}{a:ah}{ew gO hR:an}{bs:List UInt8}{jk:a'}{lo aU st:Option a'}{J:bp}(r:aC (a0 X C) bx (.bytes bs.toArray))(a9:C.heap.IsSliceOf a ew gO hR)(bz:mK ew none)(iv:mK gO none)(n1:mK hR (some (-1)))(aH:bs.length<=bc):dZ W X I (ri jk (.Slice lo aU st J) bx (.ref a)) (.bytes bs.reverse.toArray) C:=⟨λai aj q=>by
 cases r with
 |bytes _ t=>
  cases bz;cases iv
  cases n1
  rename_i bg
  refine og (Ft _ _ _) Ln.lookup (getItem_meets (Ft _ _ _) (by decide) Ln FB.entry_bytes_getitem (FB.args_bytes_getitem_2 _ _) (ac4 bs.toArray t bg a)
   ⟨a9,jD (by simpa using aH),q _ _ (ey C _) (.bytes _ _)⟩) (AI _ _ _ _ _ _)⟩
theorem VG{v:a'}{J cY eM al:bp}{k}{bs:List UInt8}(bA:aY W I env ae v (.bytes bs.toArray))(aH:bs.length<=bc):aY W I env ae (.Subscript v (.Slice none none (some (.UnaryOp .USub (.Constant (.int 1) k cY) eM)) J) al) (.bytes bs.reverse.toArray):=
 BL bA nx nx (ny (wa c_)) λX C bx a ew gO hR aK r a9 bz iv n1=>ahL r a9 bz iv n1 aH
theorem L4{e:a'}{cB al:bp}{bs:Array UInt8}(B:aY W I env ae e (.bytes bs))(aH:bs.size<=bc)(hk:autoParam (env.kindOf "len"=some .globalImplicit) tR)(bV:autoParam (eQ e=false) tR):aY W I env ae (.Call (.Name "len" cB) [e] [] al) (.int bs.size):=
 ow hk (ue _) uf (bI B cF bV) (λX C af aK G aV=>by
  refine a3.eC aV λ_ _ r rs=>?_
  refine aC.eB r λ_=>?_;refine a3.eN rs ?_;exact ahA aH) (bV:=by simp[bV])
theorem Vw{e:a'}{cB al:bp}{ab:List ax}(B:aY W I env ae e (.list ab))(aH:ab.length<=bc)(hk:autoParam (env.kindOf "len"=some .globalImplicit) tR)(bV:autoParam (eQ e=false) tR):aY W I env ae (.Call (.Name "len" cB) [e] [] al) (.int ab.length):=
 ow hk (ue _) uf (bI B cF bV) (λX C af aK G aV=>by
  refine a3.eC aV λ_ _ r rs=>?_
  refine a3.eN rs ?_;exact Em r aH) (bV:=by simp[bV])
theorem L5{e:a'}{cB al:bp}{D:ay}(B:aY W I env ae e (.str D))(aH:D.length<=bc)(hk:autoParam (env.kindOf "len"=some .globalImplicit) tR)(bV:autoParam (eQ e=false) tR):aY W I env ae (.Call (.Name "len" cB) [e] [] al) (.int D.length):=
 ow hk (ue _) uf (bI B cF bV) (λX C af aK G aV=>by
  refine a3.eC aV λ_ _ r rs=>?_
  refine aC.eS r λ_=>?_;refine a3.eN rs ?_;exact Si aH) (bV:=by simp[bV])
end
noncomputable def R_:ax->UInt8×Nat
 | .tuple [.int L,.int aB]=>(Bz aB.toNat,L.toNat)
 |_=>(0,0)
theorem agY(J:UInt8×Nat):R_ (.tuple [.int (J.2:Nat),.int J.1.toNat])=J:=by
 show(Bz J.1.toNat,J.2)=J
 refine H UInt8.ofNat_toNat ?_;rfl
theorem ac8(k:Nat):(-(k:Int)).fmod ((3:Nat):Int)=((3 - k % 3) % 3:Nat):=by
 refine H (xH _ (fG 3)) ?_
 exact Qe k 3 (by decide)
theorem afg:∀L,L<64->(ia "ABCDEFGHIJKLMNOPQRSTUVWXYZabcdefghijklmnopqrstuvwxyz0123456789+/").cps[L]? =some (hQ L):=by decide+kernel
theorem adV:∀k,k<8->(((64^k:Nat):Int).natAbs.log2<9000):=by decide
section
variable{W:bj}{I:br}
theorem ad7(bd:I.handled=none)(bk:I.depth<d3)(bs:List UInt8)(cK:bs.length<=4):pI W I 183 [.bytes bs.toArray] (.str (bh (h5 (bs.map (·.toNat))))):=by
 refine tc (Gx W) rfl bk λar=>?_
 have cA:(I.deeper (callEnvC (bP W.w 183) ar 183)).handled=none:=bd
 generalize I.deeper (callEnvC (bP W.w 183) ar 183)=dH at cA ⊢
 have dp:bs.length<=bc:=by simp[bc];exact aL [_] 2679467264899396170048 rfl cK
 refine F1 iH ?_ (V:=ar+1) rfl
 refine F1 (cQ:=.int ((j2 bs.length:Nat):Int)) ?_ ?_ (V:=ar+2) rfl
 .refine v9 (a:=8*bs.length+5) (Vo (FX (i7 (L:=8)) (L4 (aW rfl) (by simpa using dp)) ?_) (i7 (L:=5))) (i7 (L:=6)) (by decide) (by decide)
  simp;lia
 refine F1 (cQ:=.int ((qS (bs.map (·.toNat)):Nat):Int)) ?_ ?_ (V:=ar+3) rfl
 .have f7:((bs.reverse.zipIdx.map λJ=>((J.1.toNat*256^J.2:Nat):Int)).sum:Int)=((u' (bs.map (·.toNat)):Nat):Int):=by
   refine b' (ado _) ?_;refine b' List.map_reverse ?_;refine H List.zipIdx_map ?_;refine H dY ?_
   generalize bs.reverse.zipIdx=l
   induction l with
   |nil=>rfl
   |cons J l bf=>refine H ef ?_;refine H ef ?_;refine H A6 ?_;refine H A6 ?_;refine H bf ?_;simp
  have a8:(bs.map (·.toNat)).length=bs.length:=by simp
  unfold qS
  refine H a8 ?_
  refine FX (lh (L' cA (ns:=bs.reverse.zipIdx.map λJ=>((J.1.toNat*256^J.2:Nat):Int)) ?_) f7) (BK (i7 (L:=4)) (lh (yw (wa (L4 (aW rfl) (by simpa using dp))) (i7 (L:=3)) (by decide)) ?_) (by decide) (by exact aL [_] 2554239620489537 rfl (rX _ 3 (by decide)))) ?_
  .refine H dY ?_
   refine(M1 (own:=true) bs.reverse.zipIdx (λJ=>.int (J.2:Nat)) (λJ=>.int J.1.toNat) R_ _ [] [] cA (VN cA (VG (bs:=bs) (aW rfl) dp)) (λJ _=>agY J) ff.nil ?_ ?_).1
   .intro J aF aX
    have:J.2<bs.length:=by
     have:=List.snd_lt_of_mem_zipIdx aF
     simpa using this
    refine FX (aW rfl) (BK (i7 (L:=256)) (aW rfl) (by decide) (by exact bX [_,_] 176487366784685449537 rfl this cK)) ?_
    exact h_ (KP (by decide) (show J.2<=3 by exact bX [_,_] 11030460424042778944 rfl this cK)) (by decide)
   .simpa using dp
  .have:=ac8 bs.length
   simpa using this
  .refine h_ (KP (by decide) (show(3 - bs.length % 3) % 3<=2 by exact aL [_] 159639976153408 rfl (rX _ 3 (by decide)))) (by decide)
 .refine mT ?_
  refine b' (RZ _) ?_
  have a9:j2 bs.length<=6:=(show∀Y,Y<5->(8*Y+5) / 6<=6 by decide) _ (tB cK)
  refine v_ (D:=⟨#[]⟩) (iH (D:=⟨#[]⟩)) ?_ ?_
  .unfold h5
   refine H (gz _) ?_;refine H dY ?_;refine H dY ?_
   refine(kL (e7 (j2 bs.length)) (λL=>.int (0+(L:Nat))) xw _ [("size",ar+2),("signs",ar+1),("number",ar+3)] [("size",.int ((j2 bs.length:Nat):Int)),("signs",.str "ABCDEFGHIJKLMNOPQRSTUVWXYZabcdefghijklmnopqrstuvwxyz0123456789+/"),("number",.int ((qS (bs.map (·.toNat)):Nat):Int))] (BN cA (aW rfl) ?_) (Eg _) (ff.cons (ff.cons (ff.cons ff.nil rfl rfl rfl rfl) rfl rfl rfl rfl) rfl rfl rfl rfl) ?_ ?_).1
   .generalize j2 bs.length=k at a9
    match k,a9 with
    |0,_=>rfl
    |1,_=>rfl
    |2,_=>rfl
    |3,_=>rfl
    |4,_=>rfl
    |5,_=>rfl
    |6,_=>rfl
   .intro L aU aX
    have lv:L<j2 bs.length:=pl.mp aU
    refine Vv (aW rfl) (v' (a:=qS (bs.map (·.toNat)) / 64^(j2 bs.length - 1 - L)) (v9 (aW rfl) (BK (i7 (L:=64)) (FZ (FZ (aW rfl) (i7 (L:=1)) (by exact aL [_,_] 623929200912 rfl lv)) (lh (aW rfl) (by lia)) (by exact bX [_,_,_] 11029615999319283008 rfl lv (qi _ _))) (by decide) (by exact j1 [_,_,_] 11603248775719462933373249 rfl a9 (hh _ _) (hh _ _))) ?_ ?_) (i7 (L:=64)) (by decide)) ?_ ?_
    .exact Tt.mp (Tu (by decide))
    .exact adV _ (by exact j1 [_,_,_] 725203048482466433601857 rfl a9 (hh _ _) (hh _ _))
    .have:=hy (qS (bs.map (·.toNat)) / 64^(j2 bs.length - 1 - L)) (show 64>0 by decide)
     lia
    .exact afg _ (hy _ (by decide))
   .simp[bc];exact aL [_] 2681773107908609864000 rfl a9
  .refine H (QF _) ?_;refine H (xa _) ?_
   simp
   have:(⟨#[]⟩:ay).length=0:=rfl
   refine H this ?_
   exact aL [_,_] 175752682399898656048165888 rfl a9
end
noncomputable abbrev aZ:=List Nat
noncomputable def hN(k:Nat):nA:=match k % 4 with
 |2=>.eq
 |3=>.em
 |_=>.no
noncomputable def cq(D:aZ):kc:=(D,hN D.length)
noncomputable def en(D:aZ):ax:=.str (bh D)
noncomputable def k4(r:List aZ):ax:=.list (r.map λD=>cX (cq D))
noncomputable def dv(r:List aZ):ax:=.list (r.map en)
noncomputable def tr:ax->aZ
 | .str D=>D.cps.toList
 |_=>[]
noncomputable def q5:ax->aZ
 | .tuple (.str D::_)=>D.cps.toList
 |_=>[]
noncomputable def R':ax->List aZ
 | .list ab=>ab.map q5
 |_=>[]
noncomputable def tq:ax->List aZ
 | .list ab=>ab.map tr
 |_=>[]
theorem AQ(D:aZ):tr (en D)=D:=rfl
theorem vq(D:aZ):q5 (cX (cq D))=D:=rfl
theorem ag1(r:List aZ):R' (k4 r)=r:=by
 show ob q5 _=r
 refine H dY ?_
 conv=>rhs;rw[<-kC r]
 exact gZ λD _=>vq D
theorem vr(r:List aZ):tq (dv r)=r:=by
 show ob tr _=r
 refine H dY ?_
 conv=>rhs;rw[<-kC r]
 exact gZ λD _=>AQ D
structure yE (ap:List (List aZ)):Prop where
 len:ap.length<=200
 rows:∀r∈ap,r.length<=200
 names:∀r∈ap,∀D∈r,D.length<=100
theorem yE.small{ap:List (List aZ)}(B:yE ap){r:List aZ}(aE:r∈ap):wf (r.map cq):=
 ⟨by simpa using B.rows r aE,λJ aF=>by
  refine dQ aF λD aS=>?_
  exact B.names r aE D aS⟩
theorem tp(a b:List Nat):bh a++bh b=bh (a++b):=by
 show(⟨a.toArray++b.toArray⟩:ay)=_
 simp
theorem pf(a:List Nat):(bh a).length=a.length:=by show a.toArray.size=_;simp
noncomputable def g9(ap:List (List aZ)):ay:=mL (bh [44,32]) (ap.map λr=>n6 (r.map cq))
section
variable{W:bj}{I:br}{env:bB}{ae:bu}{X:List ah}{C:aq}
theorem M2{al cB cY eM eP nZ lA o4:bp}{aB:Nat}{I0 I1:List (ay×PySem.Const)}{e:a'}(bd:I.handled=none)(ap:List (List aZ))(j5:yE ap)(bw:aY W I env ae e (.list (ap.map k4)))(a9:∀D,pB e env D=pure D)(aO:autoParam (∀aX,rl {kind:=.function,names:=[(".0",.local),("name",.local),("value",.local)],isGenerator:=false,isCoroutine:=false,more:=I0} (fD {kind:=.function,names:=[(".0",.local),("item",.local)],isGenerator:=false,isCoroutine:=false,more:=I1} [] aX env)=pure []) tI):aY W I env ae (.ListComp (.ListComp (.Name "name" cB) [⟨.Tuple [.Name "name" cY,.Name "value" eM] aB eP,.Name "item" nZ,[],0⟩] {kind:=.function,names:=[(".0",.local),("name",.local),("value",.local)],isGenerator:=false,isCoroutine:=false,more:=I0} lA) [⟨.Name "item" o4,e,[],0⟩] {kind:=.function,names:=[(".0",.local),("item",.local)],isGenerator:=false,isCoroutine:=false,more:=I1} al) (.list (ap.map dv))/\li W I env ae (.ListComp (.ListComp (.Name "name" cB) [⟨.Tuple [.Name "name" cY,.Name "value" eM] aB eP,.Name "item" nZ,[],0⟩] {kind:=.function,names:=[(".0",.local),("name",.local),("value",.local)],isGenerator:=false,isCoroutine:=false,more:=I0} lA) [⟨.Name "item" o4,e,[],0⟩] {kind:=.function,names:=[(".0",.local),("item",.local)],isGenerator:=false,isCoroutine:=false,more:=I1} al) (.list (ap.map dv)):=by
 refine kL ap k4 R' dv [] [] (kK bd bw) (λr _=>ag1 r) ff.nil (λr aE aX=>?_) (cu j5.len (by decide)) (a9:=a9)
 refine(M1 (own:=false) r en (λD=>(hN D.length).dat) q5 en [] [] bd (kK bd (aW rfl)) (λD _=>vq D) ff.nil (λD aS FL=>aW rfl) (cu (j5.rows r aE) (by decide)) (jS:=aO aX)).1
end
section
variable{W:bj}{I:br}
theorem acM(k:Nat):(([.str (ia ""),.str (ia ""),.str (ia "=\"=\""),.str (ia "=\"\"")]:List ax)[k % 4]?)=some (.str (bh (hN k).txt)):=by
 have:k % 4<4:=hy _ (by decide)
 unfold hN
 generalize k % 4=m at this
 match m,this with
 |0,_=>rfl
 |1,_=>rfl
 |2,_=>rfl
 |3,_=>rfl
theorem QV(bd:I.handled=none)(bk:I.depth<d3)(ap:List (List aZ))(j5:yE ap):pI W I 195 [.list (ap.map k4)] (.str (g9 ap)):=by
 refine tc (yY W) rfl bk λar=>?_
 have cA:(I.deeper (callEnvC (bP W.w 195) ar 195)).handled=none:=bd
 generalize I.deeper (callEnvC (bP W.w 195) ar 195)=dH at cA ⊢
 refine F2 (M2 cA ap j5 (aW rfl) (by intro _;rfl)).2 ?_
 refine mT ?_
 unfold g9
 refine v_ (D:=bh [44,32]) (iH (D:=bh [44,32])) ?_ ?_
 .refine H dY ?_
  refine(kL ap dv tq _ [] [] (kK cA (aW rfl)) (λr _=>vr r) ff.nil (λr aE aX=>?_) (cu j5.len (by decide))).1
  show aY W dH _ _ _ (.str (n6 (r.map cq)))
  unfold n6
  refine v_ (D:=bh [59,32]) (iH (D:=bh [59,32])) ?_ ?_
  .refine H dY ?_;refine H dY ?_
   refine(kL r en tr _ [] [] (kK cA (aW rfl)) (λD _=>AQ D) ff.nil (λD aS FL=>?_) (cu (j5.rows r aE) (by decide))).1
   have Po:=j5.names r aE D aS
   have aI:D.length % 4<4:=hy _ (by decide)
   show aY W dH _ _ _ (.str (bh (D++(hN D.length).txt)))
   refine b' (tp _ _) ?_
   refine v8 (aW rfl) (FV (L:=((D.length % 4:Nat):Int)) (mR (bI iH (bI iH (bI iH (bI iH cF)))) (by decide)) (v' (a:=D.length) (lh (L5 (D:=bh D) (aW rfl) (by refine H (pf _) ?_;simp[bc];exact aL [_] 42911888147253966172480 rfl Po)) (by refine H (pf _) ?_;rfl)) (i7 (L:=4)) (by decide)) (by exact fG _) (kQ (gv aI) (by decide)) (by
     refine H (lH _) ?_;exact acM D.length)) ?_
   refine H (pf _) ?_;refine H (pf _) ?_
   have:(hN D.length).txt.length<=4:=by
    unfold hN
    split <;>simp[nA.txt]
   simp[bc];exact bX [_,_] 194060758696399551315622572938240 rfl this Po
  .exact cu (JB (j5.small aE)) (by decide)
 .have h1:(ap.map λr=>n6 (r.map cq)).length<=200:=by simpa using j5.len
  refine cu (Dc (Y:=21200) λam bZ=>?_) ?_
  .refine dQ bZ λr aE=>?_
   exact Rj (j5.small aE)
  .refine cu (ET _ h1) ?_
   refine H (pf _) ?_
   decide
end
section
variable{a4 d9:Type}(dP:a4->List Nat)
noncomputable def qQ(D:a4):List a4->List a4
 |[]=>[D]
 |am::l=>if dP D<dP am then D::am::l else am::qQ D l
noncomputable def b3:List a4->List a4
 |[]=>[]
 |D::l=>qQ dP D (b3 l)
noncomputable abbrev t4(l:List a4):Prop:=l.Pairwise λa b=>dP a<dP b
theorem IA(D:a4):∀l:List a4,(qQ dP D l).Perm (D::l)
 |[]=>.refl _
 |am::l=>by
  rw[qQ]
  split
  .exact .refl _
  .exact((IA D l).cons am).trans (Ks D am l)
theorem gy:∀l:List a4,(b3 dP l).Perm l
 |[]=>.refl _
 |D::l=>(IA dP D _).trans ((gy l).cons D)
set_option tactic.hygienic true in
theorem PC{D:a4}:∀{l:List a4},t4 dP l->(∀am∈l,dP am≠dP D)->t4 dP (qQ dP D l)
 |[],_,_=>Tb _ _
 |am::l,B,cx=>by
  rw[qQ]
  have aD:=se.mp B
  split
  .rename_i cM
   refine se.mpr ⟨λau aH=>?_,B⟩
   refine d2 aH ?_ λaH=>?_
   .exact cM
   .exact S5 cM (aD.1 au aH)
  .rename_i cM
   refine se.mpr ⟨λau aH=>?_,PC aD.2 λau aH=>cx au (.tail _ aH)⟩
   rcases dw.mp ((IA dP D l).mem_iff.mp aH)with rfl|aH
   .rcases Kj (dP am<dP au)with e|e
    .exact e
    .exact absurd (KA (po.mp cM) (po.mp e)) (cx am (.head _))
   .exact aD.1 au aH
theorem xp:∀{l:List a4},(l.map dP).Nodup->t4 dP (b3 dP l)
 |[],_=>.nil
 |D::l,B=>by
  rw[ef,d']at B
  refine PC dP (xp B.2) λam bZ e=>B.1 ?_
  refine b' e ?_
  exact eT ((gy dP l).mem_iff.mp bZ)
theorem Iz:∀{l m:List a4},l.Perm m->t4 dP l->t4 dP m->l=m
 |[],m,J,_,_=>(S9.mp J).symm
 |a::l,[],J,_,_=>absurd J.symm (by simp)
 |a::l,b::m,J,B,aD=>by
  have h1:=se.mp B
  have aA:=se.mp aD
  have ik:a=b:=by
   rcases dw.mp (J.mem_iff.mp (.head _))with e|ha
   .exact e
   .rcases dw.mp (J.mem_iff.mpr (.head _))with e|ak
    .exact e.symm
    .exact absurd (h1.1 b ak) (EE (aA.1 a ha))
  subst ik
  refine H (Iz ((List.perm_cons a).mp J) h1.2 aA.2) ?_;rfl
theorem ab3{l:List a4}(B:t4 dP l):(l.map dP).Nodup:=by
 refine Ta.mpr (B.imp λ{a b} ik e=>?_)
 rw[e]at ik
 exact KC _ ik
theorem JR{l m:List a4}(J:m.Perm l)(B:t4 dP m):b3 dP l=m:=
 Iz dP ((gy dP l).trans J.symm) (xp dP ((J.map dP).nodup_iff.mp (ab3 dP B))) B
theorem AG{l m:List a4}(J:l.Perm m)(B:(l.map dP).Nodup):b3 dP l=b3 dP m:=
 Iz dP ((gy dP l).trans (J.trans (gy dP m).symm)) (xp dP B) (xp dP ((J.map dP).nodup_iff.mp B))
theorem D5{u1:d9->List Nat}{g:a4->d9}(fL:∀a,u1 (g a)=dP a):∀l:List a4,b3 u1 (l.map g)=(b3 dP l).map g:=by
 have aU:∀(D:a4)(l:List a4),qQ u1 (g D) (l.map g)=(qQ dP D l).map g:=by
  intro D l
  induction l with
  |nil=>rfl
  |cons am l bf=>
   rw[ef,qQ,qQ,fL,fL,bf]
   split <;>rfl
 intro l
 induction l with
 |nil=>rfl
 |cons D l bf=>rw[ef,b3,b3,bf,aU]
end
theorem NC{J:Array Nat}{L:Nat}(B:L<J.size):g J L=J[L]:=by simp[g,Kc,B]
set_option tactic.hygienic true in
theorem Jh{ab:List ax}(a_:(ab.map fM).Nodup):qW (λL aB=>da (ab.getD L .none) (ab.getD aB .none)) .none ab=b3 fM ab:=by
 unfold qW
 split
 .rename_i B
  rcases ab with _|⟨_,_|⟨_,r⟩⟩
  .rfl
  .rfl
  .exact absurd B (fv.mpr (vE 2 r.length))
 .rename_i B
  have hk:∀L aB,L<ab.length->aB<ab.length->fM (ab.getD L .none)=fM (ab.getD aB .none)->L=aB:=λL aB aU bL e=>by
   have:=(EA (h₀:=by simpa using aU) (h₁:=by simpa using bL) a_ (i:=L) (j:=aB)).mp (by
    refine H (EB _) ?_;refine H (EB _) ?_
    simpa[i2,hT aU,hT bL]using e)
   exact this
  have O:qx (λL aB=>da (ab.getD L .none) (ab.getD aB .none)) ab.length:={
   J2:=λL aB aU bL zw e=>by
    have h1:¬fM (ab.getD L .none)<fM (ab.getD aB .none):=by simpa[da]using e
    refine decide_eq_true ?_
    rcases Kj (fM (ab.getD aB .none)<fM (ab.getD L .none))with q|q
    .exact q
    .exact absurd (hk L aB aU bL (KA (po.mp q) (po.mp h1))) zw
   ME:=λL aB _ _ e=>decide_eq_false (EE (of_decide_eq_true e))
   kv:=λL aB k _ _ _ a8 bm=>decide_eq_true (S5 (of_decide_eq_true a8) (of_decide_eq_true bm))}
  refine d8 (afo O (by exact aL [_] 159712939348240 rfl (fv.mp B))) λaF a9=>?_
  have P:=mU.Aj aF
  refine(JR fM ?_ ?_).symm
  .have e:ab=(e7 ab.length).map λL=>ab.getD L .none:=by
    apply List.ext_getElem
    .simp
    .intro L h1 aA
     simp[i2,hT h1]
   have:=(aF.toList.map λL=>ab.getD L .none)
   simp only[List.toList_toArray]at this
   conv=>rhs;rw[e]
   exact this
  .refine List.pairwise_iff_getElem.mpr λL aB aU bL zw=>?_
   refine H (EB _) ?_;refine H (EB _) ?_
   have dp:(eJ (λL aB=>da (ab.getD L .none) (ab.getD aB .none)) (l8 ab.length)).size=ab.length:=P.size
   simp only[gz,vw]at aU bL
   have:=a9 L aB zw (by exact bX [_,_,_] 168317124089153 rfl bL dp)
   rw[NC aU,NC bL]at this
   simpa[da]using this
section
variable{prog:kG}{w:c4}{I:br}{aj:an->aq->Prop}{C:aq}
theorem QE{a b:ay}{t bq:dN}{ai:Bool->aq->Prop}(B:ai (decide (a.cps.toList<b.cps.toList)) C):az (gn prog w) I (oneLt' true (.str a t) (.str b bq)) ai aj C:=by
 refine H (oneLt'_eq _ _ _) ?_
 simp only[if_true]
 refine aM (wpAny_cRoomFor_byValue rfl ?_)
 refine aM (U0 (tU C a t) Ua (call_gives Ua (tU C a t) aiS (aiO _ _) (gives_str_lt a b t bq) ?_))
 exact By B
theorem QD{l b:ah}{items fT:Array an}{k:Nat}{r:Bool}{ai:Bool->aq->Prop}(aN:C.heap.IsList l items)(ak:C.heap.IsList b fT)(be:I.units<c7)(aS:pF I.in1 C items fT k r)(B:ai r C):az (gn prog w) I (oneLt' true (.ref l) (.ref b)) ai aj C:=by
 refine pi (id aN) λhK a6 aO Y hd=>?_;obtain⟨cls,ml,Gp,ct⟩:=hK
 refine pi (id ak) λhK nO kh dD hu=>?_;obtain⟨Gm,mY,Fu,nc⟩:=hK
 simp only at aO hd kh hu
 subst aO hd kh hu
 refine H (oneLt'_eq _ _ _) ?_
 simp only[if_true]
 refine aM (wpAny_cRoomFor be ?_)
 refine aM (U0 (T:="list") ⟨_,a6,rfl⟩ T_ (call_meets T_ (T:="list") ⟨_,a6,rfl⟩ aiR (aiN _ _) (P0 l b items fT Y dD ml mY ct nc r k) ⟨a6,nO,aS,?_⟩))
 exact By B
end
section
variable{W:bj}{I:br}{env:bB}{ae:bu}{X:List ah}{C:aq}
theorem ahS{v:an}{bi:List aZ}(aK:c0 X C)(r:aC (a0 X C) v (.list (bi.map en)))(iT:bi.length<64)(a_:bi.Nodup):dZ W X I (df (.builtin "sorted") [v]) (.list ((b3 id bi).map en)) C:=by
 have hk:∀a:aZ,fM (en a)=id a:=λa=>rfl
 have e:((bi.map en).map fM)=bi:=by
  refine H dY ?_
  conv=>rhs;rw[<-kC bi]
  exact gZ λa _=>hk a
 refine b' ((D5 (u1:=fM) (g:=en) id hk) _) ?_;refine b' (Jh (by rw[e];exact a_)) ?_
 refine Sl (j7:=oneType') aK r (by simpa using iT) (λaf s' ai aj k aV aA ba=>?_) (λaf L aB aX s' k aV aU bL gx=>?_)
 .refine kas_kind (T:=.type "str") (by refine H aV.length ?_;exact aA) (λv bA=>?_) (by decide) (by decide) ba
  obtain⟨L,aU,bw⟩:=vz bA
  refine cm (aV.get' (L:=L) (v:=v) (by rw[hT aU,bw])) λd hd q0=>?_
  rw[lI]at hd
  cases ha:bi[L]? with
  |none=>rw[ha]at hd;cases hd
  |some a=>
   rw[ha]at hd
   cases hd
   refine aC.eS q0 λ_=>?_
   exact Ut rfl
 .refine H (TP _ _) ?_
  have aT:=ut aV L
  have bb:=ut aV aB
  obtain⟨a,ha⟩:∃a,(bi.map en).getD L .none=en a:=⟨bi[L]'(by simpa using aU),by simp[i2,hT (show L<bi.length by simpa using aU)]⟩
  obtain⟨b,ak⟩:∃b,(bi.map en).getD aB .none=en b:=⟨bi[aB]'(by simpa using bL),by simp[i2,hT (show aB<bi.length by simpa using bL)]⟩
  rw[ha]at aT
  rw[ak]at bb
  generalize af.getD L gB=bx at aT ⊢
  generalize af.getD aB gB=bE at bb ⊢
  refine aC.eS aT λ_=>?_
  refine aC.eS bb λ_=>?_
  refine QE ?_
  have:=gx s' (gb _)
  simp only[ha,ak]at this
  exact this
theorem ahR{v:an}{ab:List ax}{L:jP}{S:ax->Prop}(K:nu (.lst L) S)(aK:c0 X C)(r:aC (a0 X C) v (.list ab))(eh:∀d∈ab,S d)(be:I.units+6+L.deep<c7)(iT:ab.length<64)(a_:(ab.map fM).Nodup):dZ W X I (df (.builtin "sorted") [v]) (.list (b3 fM ab)) C:=by
 refine b' (Jh a_) ?_
 refine Sl (j7:=oneType') aK r iT (λaf s' ai aj k aV aA ba=>?_) (λaf J q aX s' k aV aF ba gx=>?_)
 .refine kas_kind (T:=.type "list") (by refine H aV.length ?_;exact aA) (λv bA=>?_) (by decide) (by decide) ba
  obtain⟨aB,bL,bw⟩:=vz bA
  refine cm (aV.get' (L:=aB) (v:=v) (by rw[hT bL,bw])) λd hd q0=>?_
  have aI:=K.keyed _ (eh d (qo hd))
  have q0:=(q0.un).mono ((cg k).trans cP)
  generalize d.un=bO at aI q0
  cases aI with
  |lst a ao=>
   refine aC.gD q0 λ_ _ bz nb=>?_
   refine iA bz.isList λN a6 aO _=>?_
   refine b' aO ?_
   exact(Looks.ld a6).andThen .now
 .refine H (TP _ _) ?_
  have aT:=((ut aV J).un).mono ((cg k).trans cP)
  have bb:=((ut aV q).un).mono ((cg k).trans cP)
  have gM:=eh (ab.getD J .none) (by refine H (i2) ?_;refine H (hT aF) ?_;exact xM _)
  have kW:=eh (ab.getD q .none) (by refine H (i2) ?_;refine H (hT ba) ?_;exact xM _)
  have q1:=K.keyed _ gM
  have fV:=K.keyed _ kW
  have k3:=K.inj _ _ gM kW
  have ck:=gx s' (gb _)
  unfold da at ck
  generalize fM (ab.getD J ax.none)=k1 at q1 k3 ck
  generalize fM (ab.getD q ax.none)=k2 at fV k3 ck
  generalize (ab.getD J ax.none).un=cQ at aT q1 k3
  generalize (ab.getD q ax.none).un=dU at bb fV k3
  generalize af.getD J gB=bx at aT ⊢
  generalize af.getD q gB=bE at bb ⊢
  have Ij:I.in1.in1.in1.units+L.deep<c7:=by simp only[E6];exact aL [_,_,_] 2948981481168313642172127461244929 rfl be
  have Pj:I.in1.in1.units<c7:=by simp only[E6];exact aL [_,_,_] 175702158136998213450809345 rfl be
  cases q1 with
  |lst a Yu=>
   cases fV with
   |lst b ajd=>
    refine aC.gD aT λ_ _ t1 qY=>?_
    refine aC.gD bb λ_ _ eE ks=>?_
    by_cases e:k1=k2
    .have hd:=k3 e
     subst e
     simp only[ax.list.injEq]at hd
     rw[<-hd]at ks
     rw[show decide (k1<k1)=false by simp]at ck
     exact QD t1.isList eE.isList Pj (IQ Yu qY ks Ij) ck
    .exact QD t1.isList eE.isList Pj (IP qY ks λv w ez rw=>⟨GL a b e ez rw Ij,P8 a b (λau=>absurd au e) ez rw Ij⟩) ck
end
section
variable{W:bj}{I:br}{env:bB}{ae:bu}{X:List ah}{C:aq}
theorem DS(k:Nat):f5 0 (hN k).dat:=by
 unfold hN
 split
 .exact .str (by simp[qr])
 .exact .str (by simp[qr])
 .exact .none
end
section
variable{W:bj}{I:br}{env:bB}{ae:bu}{X:List ah}{C:aq}
theorem yA{Y:Nat}{l r:a'}{al:bp}{d:ax}(aN:aY W I env ae l d)(aE:aY W I env ae r d)(ao:f5 Y d)(be:I.units+Y<c7)(aI:autoParam (kH .NotEq r=false) tW):ej W I env ae (.Compare l [.NotEq] [r] al) false:=
 mS aN aE (λX C bx bE aK _ aT bb=>ahI ao aT bb be) aI
theorem Vr{Y:Nat}{l r:a'}{al:bp}{d:ax}(aN:aY W I env ae l d)(aE:aY W I env ae r d)(ao:f5 Y d)(be:I.units+Y<c7)(aI:autoParam (kH .Eq r=false) tW):aY W I env ae (.Compare l [.Eq] [r] al) (.bool true):=
 L1 aN aE (λX C bx bE aK _ aT bb=>Sg ao aT bb be) aI
theorem VQ{Y:Nat}{l r:a'}{al:bp}{ab:List ax}(aN:aY W I env ae l (.list ab))(aE:aY W I env ae r (.list []))(ao:f5 Y (.list ab))(be:I.units+Y<c7)(aI:autoParam (kH .Eq r=false) tW):ej W I env ae (.Compare l [.Eq] [r] al) ab.isEmpty:=
 mS aN aE (λX C bx bE aK _ aT bb=>ahs ao aT bb be) aI
theorem BO{Y:Nat}{l r:a'}{al:bp}{ab:List ax}(aN:aY W I env ae l (.list ab))(aE:aY W I env ae r (.list []))(ao:f5 Y (.list ab))(be:I.units+Y<c7)(aI:autoParam (kH .NotEq r=false) tW):ej W I env ae (.Compare l [.NotEq] [r] al) (!ab.isEmpty):=
 mS aN aE (λX C bx bE aK _ aT bb=>ahH ao aT bb be) aI
theorem Vn{D am:a'}{al:bp}{a b:Bool}(h1:aY W I env ae D (.bool a))(aA:aY W I env ae am (.bool b)):aY W I env ae (.BoolOp .And [D,am] al) (.bool (a&&b)):=⟨λX C aK G=>⟨λai aj q=>by
 refine BoolOp_and ((h1.on X C aK G).go _ _ λv aG k1 aT=>?_)
 refine aC.eO aT ?_
 refine By ?_
 cases a with
 |false=>exact q _ _ k1 (.bool _)
 |true=>
  simp only[if_true]
  refine BoolOp_one ((aA.on X aG (aK.mono k1) (G.mono (cg k1))).go _ _ λv a5 k2 bb=>q v a5 (b5 k1 k2) ?_)
  simpa using bb⟩⟩
theorem BM{e:a'}{cB al:bp}{bi:List aZ}(B:aY W I env ae e (.list (bi.map en)))(iT:bi.length<64)(a_:bi.Nodup)(hk:autoParam (env.kindOf "sorted"=some .globalImplicit) tR)(bV:autoParam (eQ e=false) tR):aY W I env ae (.Call (.Name "sorted" cB) [e] [] al) (.list ((b3 id bi).map en)):=
 ow hk (B3 _) B6 (bI B cF bV) (λX C af aK G aV=>by
  refine a3.eC aV λ_ _ r rs=>?_
  refine a3.eN rs ?_;exact ahS aK r iT a_) (bV:=by simp[bV])
theorem L_{e:a'}{cB al:bp}{ab:List ax}{L:jP}{S:ax->Prop}(K:nu (.lst L) S)(B:aY W I env ae e (.list ab))(eh:∀d∈ab,S d)(be:I.units+6+L.deep<c7)(iT:ab.length<64)(a_:(ab.map fM).Nodup)(hk:autoParam (env.kindOf "sorted"=some .globalImplicit) tR)(bV:autoParam (eQ e=false) tR):aY W I env ae (.Call (.Name "sorted" cB) [e] [] al) (.list (b3 fM ab)):=
 ow hk (B3 _) B6 (bI B cF bV) (λX C af aK G aV=>by
  refine a3.eC aV λ_ _ r rs=>?_
  refine a3.eN rs ?_;exact ahR K aK r eh be iT a_) (bV:=by simp[bV])
theorem yv{e:a'}{cB al:bp}{D:aZ}(bk:I.depth<d3)(B:aY W I env ae e (en D))(aS:D.length<=bc)(bA:dF (cZ W.w) dh "_law_pair"=some (some (.ref 190)))(hk:autoParam (env.kindOf "_law_pair"=some .globalImplicit) tR)(bV:autoParam (eQ e=false) tR):aY W I env ae (.Call (.Name "_law_pair" cB) [e] [] al) (cX (cq D)):=by
 have f7:(.tuple [.str (bh D),DL (bh D)]:ax)=cX (cq D):=by
  unfold DL cq hN
  refine H (pf _) ?_
  have:D.length % 4<4:=hy _ (by decide)
  generalize D.length % 4=m at this
  match m,this with
  |0,_=>rfl
  |1,_=>rfl
  |2,_=>rfl
  |3,_=>rfl
 refine b' f7 ?_
 exact qy hk bA (Gz W).obj (Gz W).fn (bI B cF bV) (ad9 bk (bh D) (by refine H (pf _) ?_;exact aS)) (bV:=by simp[bV])
end
theorem y'(w:c4):dF (cZ w) dh "_law_pair"=some (some (.ref 190)):=by kernel_rfl
theorem NG(w:c4):dF (cZ w) dh "_law_line"=some (some (.ref 195)):=by kernel_rfl
theorem NE(w:c4):dF (cZ w) dh "_law_holds"=some (some (.ref 200)):=by kernel_rfl
theorem YO(w:c4):dF (cZ w) dh "_law_due"=some (some (.ref 212)):=by kernel_rfl
theorem YX(w:c4):dF (cZ w) dh "_law_turn"=some (some (.ref 207)):=by kernel_rfl
theorem YV(w:c4):dF (cZ w) dh "_law_run"=some (some (.ref 219)):=by kernel_rfl
theorem YM(w:c4):dF (cZ w) dh "_law_begin"=some (some (.ref 226)):=by kernel_rfl
theorem YU(w:c4):dF (cZ w) dh "_law_octets"=some (some (.ref 178)):=by kernel_rfl
theorem YT(w:c4):dF (cZ w) dh "_law_name"=some (some (.ref 183)):=by kernel_rfl
structure e8 (D:aZ):Prop where
 gH:∀V∈D,gH V=true
 ne:D≠[]
 len:D.length<=100
theorem e8.ok{D:aZ}(B:e8 D):qr (bh D)=true:=by
 simp only[qr,Kt,kA,decide_eq_true_eq]
 intro V aO
 have:=Az (B.gH V aO)
 exact aL [_] 2684010622940241486145 rfl this
structure cl (ap:List (List aZ)):Prop where
 ne:∀r∈ap,r≠[]
 good:∀D∈ap.flatten,e8 D
 nodup:ap.flatten.Nodup
 sB:ap.flatten.length<=50
noncomputable abbrev hd(r:List aZ):aZ:=r.headD []
theorem cl.gV{ap:List (List aZ)}(B:cl ap){r:List aZ}(aE:r∈ap){D:aZ}(aS:D∈r):e8 D:=B.good D (S7.mpr ⟨r,aE,aS⟩)
theorem GU{ap:List (List aZ)}(B:∀r∈ap,r≠[]):ap.length<=ap.flatten.length:=by
 induction ap with
 |nil=>simp
 |cons r ap bf=>
  have:=bf λD aS=>B D (.tail _ aS)
  have:1<=r.length:=by
   have:=B r (.head _)
   cases r with
   |nil=>exact absurd rfl this
   |cons _ _=>simp
  simp at *
  exact bX [_,_,_] 722910683097280166302720 rfl this ‹_›
theorem cl.len{ap:List (List aZ)}(B:cl ap):ap.length<=50:=cu (GU B.ne) B.sB
theorem cl.qg{ap:List (List aZ)}(B:cl ap){r:List aZ}(aE:r∈ap):r.length<=50:=cu (by
 induction ap with
 |nil=>cases aE
 |cons q ap bf=>
  refine H jH ?_;refine H gJ ?_
  rcases dw.mp aE with rfl|aE
  .exact e_ [_,_] 1392704 rfl
  .have:r.length<=ap.flatten.length:=by
    refine jF (SR aE) λa b di=>?_;subst di
    simp
    exact e_ [_,_,_] 373313600 rfl
   exact aL [_,_,_] 624448393280 rfl this) B.sB
theorem cl.small{ap:List (List aZ)}(B:cl ap):yE ap:=
 ⟨cu B.len (by decide),λr aE=>cu (B.qg aE) (by decide),λr aE D aS=>(B.gV aE aS).len⟩
theorem cl.te{ap:List (List aZ)}(B:cl ap){r:List aZ}(aE:r∈ap):r.Nodup:=by
 have:=B.nodup
 refine jF (SR aE) λa b di=>?_;subst di
 rw[qn,jH,q',q']at this
 exact this.2.1.1
theorem zq{r:List aZ}(B:r≠[]):hd r∈r:=by
 cases r with
 |nil=>exact absurd rfl B
 |cons D r=>exact .head _
theorem cl.heads{ap:List (List aZ)}(B:cl ap):(ap.map hd).Nodup:=by
 have a_:=B.nodup
 have cx:=B.ne
 clear B
 induction ap with
 |nil=>simp
 |cons r ap bf=>
  rw[jH,q']at a_
  refine H ef ?_;refine H (propext d') ?_
  refine⟨λaI=>?_,bf a_.2.1 λD aS=>cx D (.tail _ aS)⟩
  refine cm (kD.mp aI) λq ba e=>?_
  have h1:=zq (cx r (.head _))
  have aA:=zq (cx q (.tail _ ba))
  exact a_.2.2 _ h1 _ (S7.mpr ⟨q,ba,aA⟩) e.symm
theorem cl.perm{ap cV:List (List aZ)}(B:cl ap)(J:cV.flatten.Perm ap.flatten)(cx:∀r∈cV,r≠[]):cl cV:=
 ⟨cx,λD aS=>B.good D (J.mem_iff.mp aS),J.nodup_iff.mpr B.nodup,by refine H J.length_eq ?_;exact B.sB⟩
theorem Nt{D:aZ}{Y:Nat}(B:e8 D):f5 Y (en D):=.str B.ok
theorem Nq{r:List aZ}(B:∀D∈r,e8 D):f5 1 (dv r):=.list (hE.of λd hd=>by
 refine dQ hd λD aS=>?_
 exact Nt (B D aS))
theorem y_{D:aZ}(B:e8 D):f5 1 (cX (cq D)):=.tuple (.cons (.str B.ok) (.cons (DS _) .nil))
theorem Yy{r:List aZ}(B:∀D∈r,e8 D):f5 2 (k4 r):=.list (hE.of λd hd=>by
 refine dQ hd λD aS=>?_
 exact y_ (B D aS))
theorem Nr{ap:List (List aZ)}(B:cl ap):f5 2 (.list (ap.map dv)):=.list (hE.of λd hd=>by
 refine dQ hd λr aE=>?_
 exact Nq λD aS=>B.gV aE aS)
theorem Yz{ap:List (List aZ)}(B:cl ap):f5 3 (.list (ap.map k4)):=.list (hE.of λd hd=>by
 refine dQ hd λr aE=>?_
 exact Yy λD aS=>B.gV aE aS)
theorem LZ{ap:List (List aZ)}(B:cl ap):nu (.lst .str) (λd=>∃r∈ap,d=dv r) where
 keyed:=λd hd=>by
  refine cm hd λr aE di=>?_;clear hd;subst di
  have cx:=B.ne r aE
  cases r with
  |nil=>exact absurd rfl cx
  |cons D r=>
   have b2:hE 0 ((D::r).map en):=hE.of λd hd=>by
    refine dQ hd λam bZ=>?_
    exact Nt (B.gV aE bZ)
   exact .lst (.str (B.gV aE (.head _)).ok) b2
 inj:=λd bO hd b7 e=>by
  refine cm hd λr aE di=>?_;clear hd;subst di
  refine cm b7 λq ba di=>?_;clear b7;subst di
  have a8:∀r∈ap,fM (dv r)=hd r:=λr aE=>by
   have cx:=B.ne r aE
   cases r with
   |nil=>exact absurd rfl cx
   |cons D r=>rfl
  rw[a8 r aE,a8 q ba]at e
  obtain⟨L,aU,rfl⟩:=vz aE
  obtain⟨aB,bL,rfl⟩:=vz ba
  have:=(EA (h₀:=by simpa using aU) (h₁:=by simpa using bL) B.heads (i:=L) (j:=aB)).mp (by simpa using e)
  subst this
  rfl
section
variable{W:bj}{I:br}{env:bB}{ae:bu}{X:List ah}{C:aq}
theorem M3{a4 d9:Type}{D am:ay}{bK py al:bp}{eb iter h3:a'}{ja:List a'}{bC:jn}(bi:List a4)(g:a4->ax)(inv:ax->a4)(bs:a4->List d9)(g2:d9->ax)(uZ:ax->d9)(ok:a4->d9->Bool)(ao:a4->d9->ax)(dg:List (ay×ah))(eo:bu)(kq:lQ W I env ae false iter (bi.map g))(lw:∀a∈bi,inv (g a)=a)(HM:∀b,uZ (g2 b)=b)(lu:ff bC dg env ae eo)(DN:∀a∈bi,∀aX,lQ W I (fD bC dg aX env) ((D,g a)::eo) false h3 ((bs a).map g2))(xj:∀a∈bi,∀b∈bs a,∀aX,rt W I (fD bC dg aX env) ((am,g2 b)::(D,g a)::eo) ja (ok a b))(xh:∀a∈bi,∀b∈bs a,∀aX,ok a b=true->aY W I (fD bC dg aX env) ((am,g2 b)::(D,g a)::eo) eb (ao a b))(aH:(bi.flatMap λa=>((bs a).filter (ok a)).map (ao a)).length<=bc)(C6:autoParam ((D==am)=false) tD)(pV:autoParam (∀aX,(fD bC dg aX env).kindOf D=some .local) tI)(zx:autoParam (∀aX,(fD bC dg aX env).kindOf am=some .local) tI)(sP:autoParam (∀aX,(fD bC dg aX env).scope.kind= .function) tI)(hd:autoParam ((D==("__debug__":ay))=false) tD)(mr:autoParam ((am==("__debug__":ay))=false) tD)(ec:∀aX D,pB h3 (fD bC dg aX env) D=pure D:=by intro _ _;rfl)(jS:autoParam (rl bC env=pure dg) tR)(a9:autoParam (∀D,pB iter env D=pure D) tI)(g6:autoParam (bC.kind= .function) tR)(iJ:autoParam (bC.names.all (λam=>am.2 != .cell)=true) tR)(m3:autoParam (bC.names.all (λam=>am.2 != .local ||bC.names.lookup am.1==some .local)=true) tR):aY W I env ae (.ListComp eb [⟨.Name D bK,iter,[],0⟩,⟨.Name am py,h3,ja,0⟩] bC al) (.list (bi.flatMap λa=>((bs a).filter (ok a)).map (ao a)))/\li W I env ae (.ListComp eb [⟨.Name D bK,iter,[],0⟩,⟨.Name am py,h3,ja,0⟩] bC al) (.list (bi.flatMap λa=>((bs a).filter (ok a)).map (ao a))):=by
 have e:((bi.map g).flatMap λd=>((bs (inv d)).map g2).flatMap λbO=>if ok (inv d) (uZ bO)=true then [ao (inv d) (uZ bO)]else [])=bi.flatMap λa=>((bs a).filter (ok a)).map (ao a):=by
  refine H (SW _ _ _) ?_
  have:∀a∈bi,(((bs (inv (g a))).map g2).flatMap λbO=>if ok (inv (g a)) (uZ bO)=true then [ao (inv (g a)) (uZ bO)]else [])=((bs a).filter (ok a)).map (ao a):=λa ha=>by
   refine H (lw a ha) ?_;refine H (SW _ _ _) ?_
   induction bs a with
   |nil=>rfl
   |cons b l bf=>
    refine H tz ?_;refine H bf ?_;refine H (HM _) ?_;refine H qm ?_
    split <;>simp
  clear aH kq DN xj xh lw
  induction bi with
  |nil=>rfl
  |cons a bi bf=>refine H tz ?_;refine H tz ?_;refine H (bf λb ak=>this b (.tail _ ak)) ?_;refine H (this a (.head _)) ?_;rfl
 have B:=XD (eb:=eb) (al:=al) (dd:=.Name D bK) (ep:=[]) (kt:=.Name am py) (ja:=ja) dg eo (λd=>[(D,d)]) (λd=>(bs (inv d)).map g2) (λ_ bO=>[(am,bO)]) (λd bO=>ok (inv d) (uZ bO)) (λd bO=>ao (inv d) (uZ bO)) kq lu
  (λd _ aX=>BB (pV aX) (sP aX)) (λ_ _ _=>BQ)
  (λd hd aX=>by
   refine dQ hd λa ha=>?_
   refine H (lw a ha) ?_
   exact DN a ha aX) (r5:=false)
  (λd _ bO _ aX=>BB (zx aX) (sP aX))
  (λd hd bO b7 aX=>by
   obtain⟨a,ha,rfl⟩:=kD.mp hd
   rw[lw a ha]at b7 ⊢
   refine dQ b7 λb ak=>?_
   refine H (HM b) ?_
   exact xj a ha b ak aX)
  (λd hd bO b7 aX=>by
   obtain⟨a,ha,rfl⟩:=kD.mp hd
   rw[lw a ha]at b7 ⊢
   refine dQ b7 λb ak=>?_
   refine H (HM b) ?_
   exact xh a ha b ak aX)
  (λd _ bO _ au e B=>by
   rw[c1]at B ⊢
   cases aH:au==D with
   |false=>rw[aH]at B;cases B
   |true=>
    have:=(eq_of_beq aH).symm
    subst this
    refine H C6 ?_
    rfl)
  (λd _ aX=>Ak (pV aX) hd) (λd _ bO _ aX=>Ak (zx aX) mr) (by refine H e ?_;exact aH) (λB=>nomatch B) (λB=>nomatch B) ec jS a9 g6 iJ m3
 rwa[e]at B
end
noncomputable def kn(h6:List Nat):List (List Nat)->List Nat
 |[]=>[]
 |[D]=>D
 |D::am::r=>D++h6++kn h6 (am::r)
theorem R0(h6:List Nat)(l:List (List Nat)):mL (bh h6) (l.map bh)=bh (kn h6 l):=by
 refine H (J0 _ _) ?_
 have dP:∀l:List (List Nat),Fj (bh h6) (l.map bh)=bh (kn h6 l):=by
  intro l
  match l with
  |[]=>rfl
  |[D]=>rfl
  |D::am::r=>
   have bf:=J0
   clear bf
   induction r generalizing D am with
   |nil=>
    show bh D++bh h6++bh am=_
    rw[tp,tp]
    rfl
   |cons au r bf=>
    show bh D++bh h6++Fj (bh h6) ((am::au::r).map bh)=_
    rw[bf am au,tp,tp]
    rfl
 exact dP l
noncomputable def s5(D:aZ):List Nat:=D++(hN D.length).txt
noncomputable def lC(r:List aZ):List Nat:=kn [59,32] (r.map s5)
noncomputable def jd(ap:List (List aZ)):List Nat:=kn [44,32] (ap.map lC)
theorem aeU(r:List aZ):n6 (r.map cq)=bh (lC r):=by
 unfold n6 lC
 refine b' (R0 _ _) ?_;refine H dY ?_;refine H dY ?_
 rfl
theorem IS(ap:List (List aZ)):g9 ap=bh (jd ap):=by
 unfold g9 jd
 refine b' (R0 _ _) ?_;refine H dY ?_
 congr 1
 exact gZ λr _=>aeU r
theorem IE{h6:List Nat}{V:Nat}:∀{l:List (List Nat)},V∈kn h6 l->V∈h6\/∃D∈l,V∈D
 |[],B=>by cases B
 |[D],B=>.inr ⟨D,.head _,B⟩
 |D::am::r,B=>by
  rw[kn,fC,fC]at B
  rcases B with(B|B)|B
  .exact .inr ⟨D,.head _,B⟩
  .exact .inl B
  .rcases IE B with B|⟨au,aH,aO⟩
   .exact .inl B
   .exact .inr ⟨au,.tail _ aH,aO⟩
theorem PF{h6:List Nat}{Y:Nat}:∀{l:List (List Nat)},(∀D∈l,D.length<=Y)->(kn h6 l).length<=(Y+h6.length)*l.length
 |[],_=>by simp[kn]
 |[D],B=>by have:=B D (.head _);simp[kn];exact aL [_,_,_] 624179957824 rfl this
 |D::am::r,B=>by
  have h1:=B D (.head _)
  have aA:=PF (h6:=h6) (l:=am::r) λau aH=>B au (.tail _ aH)
  rw[kn,gJ,gJ,i3,Nat.mul_succ]
  exact bX [_,_,_,_,_] 722953301682524803907584 rfl h1 aA
theorem ad2(k:Nat):(hN k).txt.length<=4:=by
 unfold hN
 split <;>simp[nA.txt]
theorem ad3{k V:Nat}(B:V∈(hN k).txt):V<128:=by
 unfold hN at B
 split at B<;>simp[nA.txt]at B<;>lia
theorem acL{ap:List (List aZ)}(bt:cl ap):∀V∈jd ap,V<128:=λV aO=>by
 rcases IE aO with B|⟨am,bZ,B⟩
 .simp at B;lia
 .obtain⟨r,aE,rfl⟩:=kD.mp bZ
  rcases IE B with B|⟨au,aH,B⟩
  .simp at B;lia
  .obtain⟨D,aS,rfl⟩:=kD.mp aH
   unfold s5 at B
   rcases fC.mp B with B|B
   .exact Az ((bt.gV aE aS).gH V B)
   .exact ad3 B
theorem PZ{ap:List (List aZ)}(bt:cl ap):(jd ap).length<=50000:=by
 have lZ:∀r∈ap,(lC r).length<=106*r.length:=λr aE=>by
  have:=PF (h6:=[59,32]) (Y:=104) (l:=r.map s5) λam bZ=>by
   refine dQ bZ λD aS=>?_
   have h1:=(bt.gV aE aS).len
   have aA:=ad2 D.length
   simp[s5]
   exact bX [_,_] 185060417118136490910635008 rfl h1 aA
  simpa[lC]using this
 have dP:∀l:List (List aZ),(∀r∈l,(lC r).length<=106*r.length/\r≠[])->(jd l).length<=108*l.flatten.length:=by
  intro l
  induction l with
  |nil=>intro _;simp[jd,kn]
  |cons r l bf=>
   intro B
   have h1:=B r (.head _)
   have aA:=bf λq ba=>B q (.tail _ ba)
   have bn:1<=r.length:=by
    have:=h1.2
    cases r with
    |nil=>exact absurd rfl this
    |cons _ _=>simp
   cases l with
   |nil=>simp[jd,kn];exact aL [_,_] 10472736259090162240 rfl h1.1
   |cons q l=>
    have e:jd (r::q::l)=lC r++[44,32]++jd (q::l):=rfl
    refine H e ?_;refine H gJ ?_;refine H gJ ?_;refine H jH ?_;refine H gJ ?_
    simp only[i3,q9]
    exact j1 [_,_,_,_] 1015086059628178962754003828275659917128465397751758848 rfl h1.1 aA bn
 have B:=dP ap λr aE=>⟨lZ r aE,bt.ne r aE⟩
 have:=bt.sB
 lia
theorem Np{ap:List (List aZ)}(bt:cl ap):f5 0 (.str (g9 ap)):=by
 refine H (IS _) ?_
 refine .str ?_
 simp only[qr,Kt,kA,decide_eq_true_eq]
 intro V aO
 have:=acL bt V aO
 exact aL [_] 2684010622940241486145 rfl this
theorem QT(k:Nat):oA (hN k).txt (hN k).dat:=by
 unfold hN
 split
 .exact .q1
 .exact .DT
 .exact .no
theorem Jv{dc:List Nat}{cD:List Nat}{rows ck:List (List ax)}:∀(r:List aZ)(dc:List Nat)(a7:List ax),(dc=[]\/dc=[32])->r≠[]->(∀D∈r,e8 D)->sr cD->ie cD (a7++r.map λD=>cX (cq D)) rows ck->ie (dc++lC r++cD) a7 rows ck
 |[],_,_,_,B,_,_,_=>absurd rfl B
 |[D],dc,a7,kP,_,fL,cp,B=>by
  have qF:=fL D (.head _)
  have e:dc++lC [D]++cD=dc++D++(hN D.length).txt++cD:=by simp[lC,kn,s5]
  refine H e ?_
  exact .pair kP qF.ne qF.gH (QT _) cp B
 |D::am::r,dc,a7,kP,_,fL,cp,B=>by
  have qF:=fL D (.head _)
  have NN:=fL am (.tail _ (.head _))
  have aA:=Jv (dc:=dc) (am::r) [] (a7++[cX (cq D)]) (.inl rfl) (by simp) (λau aH=>fL au (.tail _ aH)) cp (by simpa using B)
  have e:dc++lC (D::am::r)++cD=dc++D++(hN D.length).txt++(59::32::([]++lC (am::r)++cD)):=by simp[lC,kn,s5]
  refine H e ?_
  refine .pair kP qF.ne qF.gH (QT _) (.inr (.inl ⟨_,rfl⟩)) ?_
  obtain⟨V,AW,rfl⟩:∃V AW,am=V::AW:=by
   cases am with
   |nil=>exact absurd rfl NN.ne
   |cons V AW=>exact⟨V,AW,rfl⟩
  have bm:∃aJ,[]++lC ((V::AW)::r)++cD=V::aJ:=by
   cases r with
   |nil=>exact⟨_,by simp[lC,kn,s5];rfl⟩
   |cons au r=>exact⟨_,by simp[lC,kn,s5];rfl⟩
  obtain⟨aJ,bm⟩:=bm
  rw[bm]at aA ⊢
  exact .semi (NN.gH V (.head _)) aA
noncomputable abbrev bM(r:List aZ):List ax:=r.map λD=>cX (cq D)
theorem Q7:∀(ap:List (List aZ))(dc:List Nat)(rows:List (List ax)),(dc=[]\/dc=[32])->ap≠[]->(∀r∈ap,r≠[])->(∀r∈ap,∀D∈r,e8 D)->ie (dc++jd ap) [] rows (rows++ap.map bM)
 |[],_,_,_,B,_,_=>absurd rfl B
 |[r],dc,rows,kP,_,cx,fL=>by
  have B:=Jv (dc:=dc) (cD:=[]) (rows:=rows) (ck:=rows++[bM r]) r dc [] kP (cx r (.head _)) (fL r (.head _)) (.inl rfl) (by
   have:pN rows (bM r)=rows++[bM r]:=by
    unfold pN
    have:=cx r (.head _)
    cases r with
    |nil=>exact absurd rfl this
    |cons _ _=>rfl
   refine b' this ?_;refine H (xN _) ?_
   exact .done)
  simpa[jd,kn]using B
 |r::q::ap,dc,rows,kP,_,cx,fL=>by
  have aA:=Q7 (q::ap) [32] (rows++[bM r]) (.inr rfl) (by simp) (λau aH=>cx au (.tail _ aH)) (λau aH=>fL au (.tail _ aH))
  have B:=Jv (dc:=dc) (cD:=44::([32]++jd (q::ap))) (rows:=rows) (ck:=rows++[bM r]++(q::ap).map bM) r dc [] kP (cx r (.head _)) (fL r (.head _)) (.inr (.inr ⟨_,rfl⟩)) (by
   refine .comma ?_
   have:pN rows (bM r)=rows++[bM r]:=by
    unfold pN
    have:=cx r (.head _)
    cases r with
    |nil=>exact absurd rfl this
    |cons _ _=>rfl
   refine H (xN _) ?_;refine H this ?_
   exact aA)
  have e:dc++jd (r::q::ap)=dc++lC r++44::([32]++jd (q::ap)):=by simp[jd,kn]
  refine H e ?_
  simpa using B
theorem Q6{ap:List (List aZ)}(bt:cl ap)(rows:List (List ax)):ie (jd ap) [] rows (rows++ap.map bM):=by
 cases ap with
 |nil=>
  have:rows++([]:List (List aZ)).map bM=pN rows []:=by simp[pN]
  refine H this ?_
  exact .done
 |cons r ap=>exact Q7 (r::ap) [] rows (.inl rfl) (by simp) bt.ne λr aE D aS=>bt.gV aE aS
noncomputable def dX(D:aZ):List Nat:=D++vA ((4 - D.length % 4) % 4) 61
theorem ahb{k:Nat}(B:k % 4≠1):oA (vA ((4 - k % 4) % 4) 61) (hN k).dat:=by
 unfold hN
 have:k % 4<4:=hy _ (by decide)
 generalize k % 4=m at this B
 rcases m with _|_|_|_|m
 .exact .no
 .exact absurd rfl B
 .exact .a8
 .exact .f7
 .exact absurd this (fv.mpr (vE 4 m))
theorem DX{D:aZ}(g:e8 D)(B:D.length % 4≠1){cD:List Nat}{a7:List ax}{rows ck:List (List ax)}(cp:sr cD)(aE:ie cD (a7++[cX (cq D)]) rows ck):ie (dX D++cD) a7 rows ck:=by
 have e:dX D++cD=[]++D++vA ((4 - D.length % 4) % 4) 61++cD:=by simp[dX]
 refine H e ?_
 exact .pair (.inl rfl) g.ne g.gH (ahb B) cp aE
theorem aeB{ap:List (List aZ)}{D:aZ}(bt:cl ap)(g:e8 D)(B:D.length % 4≠1):mV [jd ap,dX D] [] (ap.map bM++[[cX (cq D)]]):=by
 refine .cons (PZ bt) (Q6 bt []) (.cons ?_ ?_ .nil)
 .have:=g.len
  simp[dX]
  exact bX [_,_] 47375466800689686138461443072 rfl this (rX _ 4 (by decide))
 .have:=DX g B (cD:=[]) (a7:=[]) (rows:=[]++ap.map bM) (ck:=([]++ap.map bM)++[[cX (cq D)]]) (.inl rfl) (.done)
  simpa using this
theorem aeA{ap:List (List aZ)}(bt:cl ap):mV [jd ap] [] (ap.map bM):=.cons (PZ bt) (by simpa using Q6 bt []) .nil
theorem aey{a b V:aZ}(us:e8 a)(rJ:e8 b)(gc:e8 V)(ha:a.length % 4≠1)(ak:b.length % 4≠1)(aO:V.length % 4≠1):mV [dX a++[59,32]++dX b++[44]++dX V] [] [[cX (cq a),cX (cq b)],[cX (cq V)]]:=by
 refine .cons ?_ ?_ .nil
 .have:=us.len
  have:=rJ.len
  have:=gc.len
  have w:∀Y:aZ,Y.length<=100->(dX Y).length<=103:=λY B=>by
   refine H gJ ?_;refine H S4 ?_
   exact vC B (od (hy _ (by decide)))
  simp only[gJ]
  exact cu (vC (vC (vC (vC (w a us.len) (eF 2)) (w b rJ.len)) (eF 1)) (w V gc.len)) (by decide)
 .have e:dX a++[59,32]++dX b++[44]++dX V=dX a++(59::32::(dX b++(44::(dX V++[])))):=by simp
  refine H e ?_
  refine DX us ha (.inr (.inl ⟨_,rfl⟩)) ?_
  obtain⟨D,mX,rfl⟩:∃D mX,b=D::mX:=by
   cases b with
   |nil=>exact absurd rfl rJ.ne
   |cons D mX=>exact⟨D,mX,rfl⟩
  have nI:=DX rJ ak (cD:=44::(dX V++[])) (a7:=[]++[cX (cq a)]) (rows:=[]) (ck:=[[cX (cq a),cX (cq (D::mX))],[cX (cq V)]]) (.inr (.inr ⟨_,rfl⟩)) (.comma (DX gc aO (.inl rfl) .done))
  exact .semi (rJ.gH D (.head _)) nI
noncomputable abbrev e9(r:List aZ):Prop:=gp (λa b:aZ=>decide (a<b)) r
noncomputable def canon(ap:List (List aZ)):List (List aZ):=b3 hd (ap.map (b3 id))
theorem D6{r:List aZ}(B:r≠[]):b3 id r≠[]:=λe=>B (List.perm_nil.mp (by refine b' e ?_;exact(gy id r).symm))
theorem Cj{ao:List aZ->List aZ}(b2:∀r,(ao r).Perm r):∀ap:List (List aZ),(ap.map ao).flatten.Perm ap.flatten
 |[]=>.refl _
 |r::ap=>by
  refine H ef ?_;refine H jH ?_;refine H jH ?_
  exact(b2 r).append (Cj b2 ap)
theorem cl.sorted{ap:List (List aZ)}(B:cl ap):cl (ap.map (b3 id)):=
 B.perm (Cj (gy id) ap) λr aE=>by
  refine dQ aE λq ba=>?_
  exact D6 (B.ne q ba)
theorem GV{a b:List (List aZ)}(J:a.Perm b):a.flatten.Perm b.flatten:=J.flatten
theorem cl.canon{ap:List (List aZ)}(B:cl ap):cl (canon ap):=
 B.sorted.perm (GV (gy hd _)) λr aE=>B.sorted.ne r ((gy hd _).mem_iff.mp aE)
section
variable{W:bj}{I:br}
set_option tactic.hygienic true in
set_option maxHeartbeats 1000000 in
theorem QU(bd:I.handled=none)(bk:I.depth+2<d3)(be:I.units+40<c7)(ap:List (List aZ))(bt:cl ap)(cE:∀r∈ap++[ap.map hd],e9 r):pI W I 200 [.list (ap.map k4),.list ((canon ap).map dv),.str (g9 ap)] (.bool true):=by
 refine tc (yW W) rfl (by exact aL [_,_] 159781662758209 rfl bk) λar=>?_
 have cA:(I.deeper (callEnvC (bP W.w 200) ar 200)).handled=none:=bd
 have b7:(I.deeper (callEnvC (bP W.w 200) ar 200)).depth=I.depth+1:=rfl
 have eK:(I.deeper (callEnvC (bP W.w 200) ar 200)).units+36<c7:=by
  have:(I.deeper (callEnvC (bP W.w 200) ar 200)).units<=I.units+4:=by first |exact eF _|exact qq _ _|(show _<=_;simp[TU])
  exact bX [_,_,_] 12128456564531903891981578933249 rfl this be
 generalize I.deeper (callEnvC (bP W.w 200) ar 200)=dH at cA b7 eK ⊢
 have bW:ap.length<=bc:=cu bt.len (by decide)
 refine F2 (M2 cA ap bt.small (aW rfl) (by intro _;rfl)).2 ?_
 refine yC (cQ:=.list ((ap++[ap.map hd]).map dv)) ?_ ?_
 .have e:((ap++[ap.map hd]).map dv)=ap.map dv++[.list ((ap.map λr=>en (hd r)))]:=by simp[dv]
  refine H e ?_
  refine rr (aW rfl) (hi (bI ?_ cF) (by simp[bc])) (by simp[bc];have:=bt.len;exact aL [_] 2678390130532268597568 rfl this)
  refine(kL ap dv tq _ [] [] (kK cA (aW rfl)) (λr _=>vr r) ff.nil (λr aE aX=>?_) bW).1
  refine ox (L:=0) (aW rfl) c_ (by decide) (by decide) ?_
  have cx:=bt.ne r aE
  cases r with
  |nil=>exact absurd rfl cx
  |cons D r=>rfl
 .have uR:∀r∈ap++[ap.map hd],r.length<=50/\∀D∈r,e8 D:=λr aE=>by
   rcases fC.mp aE with aE|aE
   .exact⟨bt.qg aE,λD aS=>bt.gV aE aS⟩
   .simp at aE
    subst aE
    refine⟨by simpa using bt.len,λD aS=>?_⟩
    refine dQ aS λq ba=>?_
    exact bt.gV ba (zq (bt.ne q ba))
  have f7:((ap++[ap.map hd]).flatMap λa=>(((e7 (a.length - 1)).filter λ_=>false).map λ_=>dv a))=[]:=by simp
  refine F2 (cQ:=.list []) ?_ ?_
  .refine b' f7 ?_
   refine(M3 (ap++[ap.map hd]) dv tq (λr=>e7 (r.length - 1)) (λL=>.int (1+(L:Nat))) (λd=>xw d - 1) (λ_ _=>false) (λr _=>dv r) [] [] (kK cA (aW rfl)) (λr _=>vr r) (λL=>by show(1+(L:Int)).toNat - 1=L;refine H (Eu _ _) ?_;rfl) ff.nil (λr aE aX=>?_) (λr aE L aU aX=>Mk ?_) (λr aE L aU aX B=>nomatch B) (by refine H f7 ?_;simp[bc])).2
   .have kO:=(uR r aE).1
    refine VO (b:=(r.length:Int)) cA c_ (lh (Vw (ab:=r.map en) (aW rfl) (by simp[bc];exact aL [_] 42854242072023623823680 rfl kO)) (by simp)) ?_ ?_
    .refine H (LB _ _) ?_
     split
     .rename_i B;exact wl (gv (i1.mp B))
     .rename_i B;exact congrArg KH (Nat.sub_eq_zero_of_le (fv.mp λau=>B (i1.mpr au))).symm
    .refine small_one ?_ ?_ ?_ ?_<;>lia
   .have lv:L<r.length - 1:=pl.mp aU
    have aaq:=cE r aE (L+1) (D8 lv) (l7 L)
    have a8:decide ((bh r[L+1]).cps.toList<(bh (r[(L+1 - 1) / 2]'(h_ (Om L) (EP (D8 lv))))).cps.toList)=false:=by
     simpa using aaq
    refine b' a8 ?_
    have OH:=(uR r aE).1
    refine VW (ox (L:=((L+1:Nat):Int)) (ab:=r.map en) (aW rfl) (lh (aW rfl) (Eu _ _)) (by exact fG _) (kQ (cu (gv (D8 lv)) OH) (by decide)) ?_) (ox (L:=(((L+1 - 1) / 2:Nat):Int)) (ab:=r.map en) (aW rfl) (v9 (FZ (lh (aW rfl) (b:=((L+1:Nat):Int)) (Eu _ _)) (i7 (L:=1)) (by exact e_ [_] 73303855376 rfl)) (i7 (L:=2)) (by decide) (by decide)) (by exact fG _) (kQ (cu (Om L) (cu (gv (EP (D8 lv))) OH)) (by decide)) ?_)
    .refine H (lH _) ?_;refine H (lI) ?_;refine H (hT (by exact bX [_,_,_] 722910684678780624114689 rfl lv (k_ (bX [_,_,_] 43088075681960208 rfl lv (hh _ _))))) ?_
     rfl
    .refine H (lH _) ?_;refine H (lI) ?_;refine H (hT (by exact IU [_,_,_,_,_] 12760421223993230127770161459297129793 rfl lv (A' _ 2) (k_ (e_ [_] 73303855376 rfl)) (hh _ _))) ?_
     rfl
  .refine ru (b:=false) ?_ (λB=>nomatch B) λ_=>mT ?_
   .refine BP (a:=false) (b:=false) (yA (d:=.list (ap.map k4)) (aW rfl) ?_ (Yz bt) (by exact aL [_,_] 167544075796461196289 rfl eK)) λ_=>yA (d:=.str (g9 ap)) (aW rfl) ?_ ?_ (Y:=0) (by exact aL [_,_] 10471504737278628865 rfl eK)
    .refine(kL ap dv tq k4 [] [] (kK cA (aW rfl)) (λr _=>vr r) ff.nil (λr aE aX=>?_) bW).1
     refine(kL r en tr _ [] [] (kK cA (aW rfl)) (λD _=>AQ D) ff.nil (λD aS FL=>?_) (cu (bt.qg aE) (by decide))).1
     exact yv (by exact bX [_,_,_] 722911837598829252977985 rfl b7 bk) (aW rfl) (cu (bt.gV aE aS).len (by decide)) (y' _)
    .exact qy rfl (NG _) (yY W).obj (yY W).fn (bI (aW rfl) cF) (QV cA (by exact bX [_,_,_] 722911837598829252977985 rfl b7 bk) ap bt.small)
    .exact Np bt
   .refine Vn (a:=true) (b:=true) (L1 (cQ:=.list []) (dU:=.list []) (aW rfl) (hi cF) λX C bx bE aK _ aT bb=>Sg (Y:=1) (.list .nil) aT bb (by exact aL [_,_] 167544075796459099137 rfl eK)) (Vr (d:=.list ((canon ap).map dv)) ?_ (aW rfl) (Nr bt.canon) (by exact aL [_,_] 167544075796460147713 rfl eK))
    have hk:∀r,fM (dv r)=hd r:=λr=>by cases r<;>rfl
    have bm:(.list ((canon ap).map dv):ax)= .list (b3 fM ((ap.map (b3 id)).map dv)):=by
     unfold canon
     refine H ((D5 (u1:=fM) (g:=dv) hd hk) _) ?_;rfl
    refine H bm ?_
    have e3:((ap.map (b3 id)).map dv).map fM=(ap.map (b3 id)).map hd:=by
     refine H dY ?_
     exact gZ λr _=>hk r
    refine L_ (LZ bt.sorted) ?_ (λd hd=>?_) ?_ ?_ (by refine H e3 ?_;exact bt.sorted.heads)
    .refine H dY ?_
     refine(kL ap dv tq _ [] [] (kK cA (aW rfl)) (λr _=>vr r) ff.nil (λr aE aX=>?_) bW).1
     exact BM (aW rfl) (h_ (bt.qg aE) (by decide)) (bt.te aE)
    .refine dQ hd λr aE=>?_
     exact⟨r,aE,rfl⟩
    .show dH.units+6+0<c7
     exact aL [_,_] 686260534462292255916033 rfl eK
    .have:=bt.len
     simp
     lia
end
theorem cl.part{ap cV:List (List aZ)}(B:cl ap){l:List aZ}(J:(cV.flatten++l).Perm ap.flatten)(cx:∀r∈cV,r≠[]):cl cV:=by
 refine⟨cx,λD aS=>B.good D (J.mem_iff.mp (k9 _ aS)),?_,?_⟩
 .have:=J.nodup_iff.mpr B.nodup
  exact(q'.mp this).1
 .have:=J.length_eq
  have:=B.sB
  rw[gJ]at *
  lia
noncomputable def ig(kind:Nat)(rows:List (List aZ))(name:aZ):List (List aZ):=
 if kind=5 then rows else if kind=0 then b3 hd (rows++[[name]])else match rows with
 |[]=>[]
 |cr::aJ=>
  if kind=1 then b3 hd (aJ++[cr.tail].filter λr=> !r.isEmpty)
  else if kind=2 then b3 hd (aJ++[[name]])
  else if kind=3 then b3 hd (aJ.drop 1++[b3 id (cr++(aJ.take 1).flatten)])
  else b3 hd (aJ++[(b3 id (cr++[name])).tail])
noncomputable abbrev oD(V m:ay):ax:=.tuple [.str V,.str m]
noncomputable def i9(kind:Nat)(rows:List (List aZ))(name:aZ):ax:=
 if kind=5 then oD "AssertionError" ""else if kind=0 then .list [.none]else match rows with
 |[]=>oD "IndexError" (if kind=2 then "list index out of range"else "pop from empty list")
 |cr::aJ=>
  if kind=1 then .list [cX (cq (hd cr))]
  else if kind=2 then .list (cr.map λD=>cX (cq D))
  else if kind=3 then .list [.none,.none]
  else .list [cX (cq (hd (b3 id (cr++[name]))))]
theorem XK(ab:List ax)(a b:Nat)(B:a<=b):lV ab (some a) (some b)=(ab.drop a).take (b - a):=by
 unfold lV
 simp only[xR,Lu]
 rcases Bc a ab.length with h1|h1
 .rcases Bc b ab.length with aA|aA
  .refine H (xP h1) ?_;refine H (xP aA) ?_;rfl
  .refine H (xP h1) ?_;refine H (vF aA) ?_;refine H (vB (by simp)) ?_;refine H (vB (by simp;exact bX [_,_,_,_] 11031092781203738688 rfl aA (qi _ _))) ?_;rfl
 .refine H (vF h1) ?_;refine H (sc (eF _)) ?_;refine H (sc h1) ?_;simp
section
variable{W:bj}{I:br}{env:bB}{ae:bu}{X:List ah}{C:aq}
theorem t9{v:a'}{J al cY:bp}{k}{ab:List ax}{a:Nat}(bA:aY W I env ae v (.list ab))(aH:ab.length<=bc):aY W I env ae (.Subscript v (.Slice (some (.Constant (.int (a:Int)) k cY)) none none J) al) (.list (ab.drop a)):=by
 refine b' (XI _ _) ?_
 exact BJ bA (ny c_) nx aH
theorem L7{v:a'}{J al cY eM:bp}{k jb}{ab:List ax}{a b:Nat}(B:a<=b)(bA:aY W I env ae v (.list ab))(aH:ab.length<=bc):aY W I env ae (.Subscript v (.Slice (some (.Constant (.int (a:Int)) k cY)) (some (.Constant (.int (b:Int)) jb eM)) none J) al) (.list ((ab.drop a).take (b - a))):=by
 refine b' (XK _ _ _ B) ?_
 exact BJ bA (ny c_) (ny c_) aH
theorem wb{e:a'}{cB al:bp}{ap:List (List aZ)}(bt:cl ap)(B:aY W I env ae e (.list (ap.map dv)))(be:I.units+6<c7)(hk:autoParam (env.kindOf "sorted"=some .globalImplicit) tR)(bV:autoParam (eQ e=false) tR):aY W I env ae (.Call (.Name "sorted" cB) [e] [] al) (.list ((b3 hd ap).map dv)):=by
 have wM:∀r,fM (dv r)=hd r:=λr=>by cases r<;>rfl
 refine b' ((D5 (u1:=fM) (g:=dv) hd wM) _) ?_
 have e3:(ap.map dv).map fM=ap.map hd:=by
  refine H dY ?_
  exact gZ λr _=>wM r
 refine L_ (LZ bt) B (λd hd=>?_) (by show I.units+6+0<c7;exact aL [_,_] 42895675188939399970817 rfl be) (by have:=bt.len;simp;exact aL [_] 40868990016299329 rfl this) (by refine H e3 ?_;exact bt.heads) hk bV
 refine dQ hd λr aE=>?_
 exact⟨r,aE,rfl⟩
end
theorem af7{D:aZ}{r:List aZ}{aJ:List (List aZ)}(bt:cl ((D::r)::aJ)):cl (aJ++[r].filter λr=> !r.isEmpty):=by
 refine bt.part (l:=[D]) ?_ λq ba=>?_
 .cases r with
  |nil=>refine oc.mpr λau=>?_;simp[nf,pk]
  |cons am r=>refine oc.mpr λau=>?_;simp[nf,pk];exact e_ [_,_,_,_] 1618006129048028162 rfl
 .rcases fC.mp ba with ba|ba
  .exact bt.ne q (.tail _ ba)
  .have:=(lJ.mp ba).2
   simpa using this
theorem af8{cr:List aZ}{aJ:List (List aZ)}{name:aZ}(bt:cl (cr::aJ++[[name]])):cl (aJ++[[name]]):=by
 refine bt.part (l:=cr) ?_ λq ba=>bt.ne q (.tail _ ba)
 refine oc.mpr λau=>?_
 simp[nf,pk]
 exact e_ [_,_,_] 24465482515458 rfl
theorem af5{cr:List aZ}{aJ:List (List aZ)}(bt:cl (cr::aJ)):cl (aJ.drop 1++[b3 id (cr++(aJ.take 1).flatten)]):=by
 refine bt.perm ?_ λq ba=>?_
 .refine oc.mpr λau=>?_
  have:=(gy id (cr++(aJ.take 1).flatten)).count_eq au
  cases aJ with
  |nil=>simp[nf]at this ⊢;lia
  |cons q aJ=>simp[nf]at this ⊢;lia
 .rcases fC.mp ba with ba|ba
  .exact bt.ne q (.tail _ (List.mem_of_mem_drop ba))
  .simp at ba
   subst ba
   refine D6 ?_
   have:=bt.ne cr (.head _)
   simp[this]
theorem af6{cr:List aZ}{aJ:List (List aZ)}{name:aZ}(bt:cl (cr::aJ++[[name]])):cl (aJ++[(b3 id (cr++[name])).tail]):=by
 have J:=gy id (cr++[name])
 have aN:2<=(b3 id (cr++[name])).length:=by
  refine H J.length_eq ?_
  have:=bt.ne cr (.head _)
  cases cr with
  |nil=>exact absurd rfl this
  |cons _ _=>simp
 obtain⟨D,am,r,e⟩:∃D am r,b3 id (cr++[name])=D::am::r:=by
  match b3 id (cr++[name]),aN with
  |D::am::r,_=>exact⟨D,am,r,rfl⟩
 rw[e]at J ⊢
 refine bt.part (l:=[D]) ?_ λq ba=>?_
 .refine oc.mpr λau=>?_
  have:=J.count_eq au
  simp[nf,pk]at this ⊢
  lia
 .rcases fC.mp ba with ba|ba
  .exact bt.ne q (.tail _ (k9 _ ba))
  .simp at ba
   subst ba
   simp
section
variable{W:bj}{I:br}
theorem sz(k:Nat)(Y:Nat):((k:Int)==(Y:Int))=decide (k=Y):=by
 by_cases B:k=Y
 .subst B;simp
 .refine H (decide_eq_false B) ?_
  simp
  lia
set_option maxHeartbeats 1000000 in
theorem ad6(bd:I.handled=none)(bk:I.depth+2<d3)(be:I.units+40<c7)(kind:Nat)(g6:kind<6)(rows:List (List aZ))(name:aZ)(bt:cl (rows++[[name]])):pI W I 212 [.int kind,.list (rows.map dv),en name] (.tuple [i9 kind rows name,.list ((ig kind rows name).map dv)]):=by
 refine tc (Gv W) rfl (by exact aL [_,_] 159781662758209 rfl bk) λar=>?_
 have cA:(I.deeper (callEnvC (bP W.w 212) ar 212)).handled=none:=bd
 have b7:(I.deeper (callEnvC (bP W.w 212) ar 212)).depth=I.depth+1:=rfl
 have eK:(I.deeper (callEnvC (bP W.w 212) ar 212)).units+36<c7:=by
  have:(I.deeper (callEnvC (bP W.w 212) ar 212)).units<=I.units+4:=by first |exact eF _|exact qq _ _|(show _<=_;simp[TU])
  exact bX [_,_,_] 12128456564531903891981578933249 rfl this be
 generalize I.deeper (callEnvC (bP W.w 212) ar 212)=dH at cA b7 eK ⊢
 have ql:cl rows:=bt.part (l:=[name]) (by simp) λr aE=>bt.ne r (k9 _ aE)
 have bW:=ql.len
 have aH:(rows.map dv).length<=bc:=by simp[bc];exact aL [_] 42854242072023623823680 rfl bW
 have Y3:e8 name:=bt.gV (r:=[name]) (by simp) (by simp)
 refine ru (b:=decide (kind=5)) (by refine b' (sz kind 5) ?_;exact pG (aW rfl) c_) (λB=>?_) λfq=>?_
 .have:kind=5:=of_decide_eq_true B
  subst this
  exact mT (mR (bI (mR (bI iH (bI iH cF)) (by decide)) (bI (aW rfl) cF)) (by simp[bc]))
 have fq:kind≠5:=of_decide_eq_false fq
 refine ru (b:=decide (kind=0)) (by refine b' (sz kind 0) ?_;exact pG (aW rfl) c_) (λB=>?_) λaQ=>?_
 .have:kind=0:=of_decide_eq_true B
  subst this
  refine mT (mR (bI (hi (bI qz cF) (by decide)) (bI (wb bt ?_ (by exact aL [_,_] 167544075796464342017 rfl eK)) cF)) (by simp[bc]))
  refine H gA ?_
  exact rr (aW rfl) (hi (bI (hi (bI (aW rfl) cF) (by simp[bc])) cF) (by simp[bc])) (by simp[bc];exact aL [_] 2678390130532268597568 rfl bW)
 have aQ:kind≠0:=of_decide_eq_false aQ
 refine ru (b:=(rows.map dv).isEmpty) (VQ (aW rfl) (hi cF) (Nr ql) (by exact aL [_,_] 167544075796460147713 rfl eK)) (λB=>?_) λcx=>?_
 .have:rows=[]:=by
   cases rows with
   |nil=>rfl
   |cons _ _=>simp at B
  subst this
  have a8:i9 kind [] name=oD "IndexError" (if kind=2 then "list index out of range"else "pop from empty list"):=by
   unfold i9
   refine H (if_neg fq) ?_;refine H (if_neg aQ) ?_;rfl
  have bm:ig kind [] name=[]:=by
   unfold ig
   refine H (if_neg fq) ?_;refine H (if_neg aQ) ?_;rfl
  refine H a8 ?_;refine H bm ?_
  refine mT (mR (bI (mR (bI iH (bI (L3 (V:=decide (kind=2)) (by refine b' (sz kind 2) ?_;exact pG (aW rfl) c_) (λB=>?_) (λB=>?_)) cF)) (by simp[bc])) (bI (aW rfl) cF)) (by simp[bc]))
  .refine H (if_pos (of_decide_eq_true B)) ?_;exact iH
  .refine H (if_neg (of_decide_eq_false B)) ?_;exact iH
 cases rows with
 |nil=>simp at cx
 |cons cr aJ=>
 have mu:cr≠[]:=ql.ne cr (.head _)
 have zy:=ql.qg (r:=cr) (.head _)
 have CZ:aJ.length<=50:=by simp at bW;exact aL [_] 40867890503754048 rfl bW
 have uH:∀D∈cr,e8 D:=λD aS=>ql.gV (.head _) aS
 have a8:i9 kind (cr::aJ) name=if kind=1 then .list [cX (cq (hd cr))]else if kind=2 then .list (cr.map λD=>cX (cq D))else if kind=3 then .list [.none,.none]else .list [cX (cq (hd (b3 id (cr++[name]))))]:=by
  unfold i9
  refine H (if_neg fq) ?_;refine H (if_neg aQ) ?_;rfl
 have bm:ig kind (cr::aJ) name=if kind=1 then b3 hd (aJ++[cr.tail].filter λr=> !r.isEmpty)else if kind=2 then b3 hd (aJ++[[name]])else if kind=3 then b3 hd (aJ.drop 1++[b3 id (cr++(aJ.take 1).flatten)])else b3 hd (aJ++[(b3 id (cr++[name])).tail]):=by
  unfold ig
  refine H (if_neg fq) ?_;refine H (if_neg aQ) ?_;rfl
 refine H a8 ?_;refine H bm ?_
 refine yC (cQ:=dv cr) (ox (L:=0) (aW rfl) c_ (by decide) (by decide) rfl) ?_
 refine ru (b:=decide (kind=1)) (by refine b' (sz kind 1) ?_;exact pG (aW rfl) c_) (λB=>?_) λh1=>?_
 .have:kind=1:=of_decide_eq_true B
  subst this
  refine H (if_pos rfl) ?_;refine H (if_pos rfl) ?_
  have ajp:(cr::aJ).map dv=dv cr::aJ.map dv:=rfl
  refine mT (mR (bI (hi (bI (yv (by exact bX [_,_,_] 722911837598829252977985 rfl b7 bk) (ox (L:=0) (ab:=cr.map en) (aW rfl) c_ (by decide) (by decide) ?_) ?_ (y' _)) cF) (by simp[bc])) (bI (wb ?_ ?_ (by exact aL [_,_] 167544075796464342017 rfl eK)) cF)) (by simp[bc]))
  .cases cr with
   |nil=>exact absurd rfl mu
   |cons D r=>rfl
  .exact cu (uH _ (zq mu)).len (by decide)
  .cases cr with
   |nil=>exact absurd rfl mu
   |cons D r=>exact af7 ql
  .refine H gA ?_
   refine rr (t9 (a:=1) (ab:=(cr::aJ).map dv) (aW rfl) aH) ?_ (by simp[bc];have:=S2 (λr:List aZ=> !r.isEmpty) [cr.tail];simp at this;exact bX [_,_] 194035056644838267720440927572992 rfl CZ this)
   refine(MZ [cr.tail] dv tq (λr=> !r.isEmpty) dv [] [] (kK cA (hi (ab:=[dv cr.tail]) (bI ?_ cF) (by simp[bc]))) (λr _=>vr r) ff.nil (λr aE aX=>?_) (λr aE aX _=>aW rfl) (by simp[bc])).1
   .have e:(dv cr.tail)= .list ((cr.map en).drop 1):=by simp[dv]
    refine H e ?_
    exact t9 (a:=1) (ab:=cr.map en) (aW rfl) (by simp[bc];exact aL [_] 42854242072023623823680 rfl zy)
   .simp at aE
    subst aE
    have e:(!(cr.tail).isEmpty)= !((cr.tail).map en).isEmpty:=by cases cr.tail<;>rfl
    refine H e ?_
    exact BO (aW rfl) (hi cF) (Nq λD aS=>uH D (List.mem_of_mem_tail aS)) (by exact aL [_,_] 167544075796459099137 rfl eK)
 have h1:kind≠1:=of_decide_eq_false h1
 refine H (if_neg h1) ?_;refine H (if_neg h1) ?_
 refine ru (b:=decide (kind=2)) (by refine b' (sz kind 2) ?_;exact pG (aW rfl) c_) (λB=>?_) λaA=>?_
 .have:kind=2:=of_decide_eq_true B
  subst this
  refine H (if_pos rfl) ?_;refine H (if_pos rfl) ?_
  refine mT (mR (bI ?_ (bI (wb (af8 bt) ?_ (by exact aL [_,_] 167544075796464342017 rfl eK)) cF)) (by simp[bc]))
  .refine(kL cr en tr _ [] [] (kK cA (aW rfl)) (λD _=>AQ D) ff.nil (λD aS FL=>?_) (by simp[bc];exact aL [_] 42854242072023623823680 rfl zy)).1
   exact yv (by exact bX [_,_,_] 722911837598829252977985 rfl b7 bk) (aW rfl) (cu (uH D aS).len (by decide)) (y' _)
  .refine H gA ?_
   exact rr (t9 (a:=1) (ab:=(cr::aJ).map dv) (aW rfl) aH) (hi (bI (hi (bI (aW rfl) cF) (by simp[bc])) cF) (by simp[bc])) (by simp[bc];exact aL [_] 2678390130532268597568 rfl CZ)
 have aA:kind≠2:=of_decide_eq_false aA
 refine H (if_neg aA) ?_;refine H (if_neg aA) ?_
 refine ru (b:=decide (kind=3)) (by refine b' (sz kind 3) ?_;exact pG (aW rfl) c_) (λB=>?_) λbn=>?_
 .have:kind=3:=of_decide_eq_true B
  subst this
  refine H (if_pos rfl) ?_;refine H (if_pos rfl) ?_
  refine mT (mR (bI (hi (bI qz (bI qz cF)) (by decide)) (bI (wb (af5 ql) ?_ (by exact aL [_,_] 167544075796464342017 rfl eK)) cF)) (by simp[bc]))
  have m2:(aJ.take 1).flatten.length<=50:=by
   cases aJ with
   |nil=>simp
   |cons q aJ=>
    have:=ql.qg (r:=q) (.tail _ (.head _))
    simpa using this
  have cO:(cr++(aJ.take 1).flatten).Nodup:=by
   have:=ql.nodup
   cases aJ with
   |nil=>simpa using ql.te (.head _)
   |cons q aJ=>
    rw[jH,jH, <-k8]at this
    simpa using(q'.mp this).1
  refine H gA ?_
  have e3:((aJ.drop 1).map dv)=((cr::aJ).map dv).drop 2:=by simp
  refine H e3 ?_
  refine rr (t9 (a:=2) (ab:=(cr::aJ).map dv) (aW rfl) aH) (hi (ab:=[dv (b3 id (cr++(aJ.take 1).flatten))]) (bI (BM ?_ ?_ cO) cF) (by simp[bc])) (by simp[bc];exact aL [_] 42854242072023623823680 rfl CZ)
  .refine H gA ?_
   refine rr (aW rfl) ?_ (by refine H (gz _) ?_;refine H (gz _) ?_;unfold bc;exact bX [_,_] 3104724552339048465098226896294912 rfl zy m2)
   have gf:((aJ.take 1).flatten.map en)=(aJ.take 1).flatMap λr=>((r.filter λ_=>true).map en):=by
    generalize aJ.take 1=l
    induction l with
    |nil=>rfl
    |cons q l bf=>
     refine H jH ?_;refine H gA ?_;refine H bf ?_;refine H tz ?_;refine H (Kw.mpr (λ_ _=>rfl)) ?_;rfl
   refine H gf ?_
   refine(M3 (aJ.take 1) dv tq (λr=>r) en tr (λ_ _=>true) (λ_ D=>en D) [] [] (kK cA ?_) (λr _=>vr r) AQ ff.nil (λr aE aX=>kK cA (aW rfl)) (λr aE D aS aX=>BQ) (λr aE D aS aX _=>aW rfl) ?_).1
   .have pQ:(aJ.take 1).map dv=(((cr::aJ).map dv).drop 1).take (2 - 1):=by simp
    refine H pQ ?_
    exact L7 (a:=1) (b:=2) (by decide) (ab:=(cr::aJ).map dv) (aW rfl) aH
   .refine b' gf ?_;refine H (gz _) ?_
    unfold bc
    exact aL [_] 42854242072023623823680 rfl m2
  .refine H gJ ?_
   have:=ql.sB
   have fs:(cr++(aJ.take 1).flatten).length<=((cr::aJ).flatten).length:=by
    cases aJ with
    |nil=>simp
    |cons q aJ=>simp <;>lia
   rw[gJ]at fs
   exact bX [_,_,_] 185056004140559571861197825 rfl fs this
 have bn:kind≠3:=of_decide_eq_false bn
 refine H (if_neg bn) ?_;refine H (if_neg bn) ?_
 have cO:(cr++[name]).Nodup:=by
  have:=bt.nodup
  rw[qn,jH]at this
  have J:(cr++aJ.flatten++[[name]].flatten).Perm (cr++[name]++aJ.flatten):=by
   refine oc.mpr λau=>?_
   simp[nf,pk]<;>lia
  exact(q'.mp (J.nodup_iff.mp this)).1
 have ajq:(b3 id (cr++[name])).length=cr.length+1:=by refine H ((gy id _).length_eq) ?_;simp
 have mv:b3 id (cr++[name])≠[]:=D6 (by simp)
 refine yC (cQ:=.list ((b3 id (cr++[name])).map en)) (BM ?_ (by simp;exact aL [_] 2678390129708189684737 rfl zy) cO) ?_
 .refine H gA ?_
  exact rr (aW rfl) (hi (bI (aW rfl) cF) (by simp[bc])) (by simp[bc];exact aL [_] 2678390130532268597568 rfl zy)
 refine mT (mR (bI (hi (bI (yv (by exact bX [_,_,_] 722911837598829252977985 rfl b7 bk) (ox (L:=0) (ab:=(b3 id (cr++[name])).map en) (aW rfl) c_ (by decide) (by decide) ?_) ?_ (y' _)) cF) (by simp[bc])) (bI (wb (af6 bt) ?_ (by exact aL [_,_] 167544075796464342017 rfl eK)) cF)) (by simp[bc]))
 .cases aI:b3 id (cr++[name])with
  |nil=>exact absurd aI mv
  |cons D r=>rfl
 .have aS:=zq mv
  have:=(gy id _).mem_iff.mp aS
  rcases fC.mp this with B|B
  .exact cu (uH _ B).len (by decide)
  .rw[pn]at B
   refine H B ?_
   exact cu Y3.len (by decide)
 .refine H gA ?_
  refine rr (t9 (a:=1) (ab:=(cr::aJ).map dv) (aW rfl) aH) (hi (ab:=[dv (b3 id (cr++[name])).tail]) (bI ?_ cF) (by simp[bc])) (by simp[bc];exact aL [_] 2678390130532268597568 rfl CZ)
  have e:(dv (b3 id (cr++[name])).tail)= .list (((b3 id (cr++[name])).map en).drop 1):=by simp[dv]
  refine H e ?_
  exact t9 (a:=1) (ab:=(b3 id (cr++[name])).map en) (aW rfl) (by simp[bc];lia)
end
noncomputable abbrev dx(l:List bB):List ah:=l.filterMap (·.frame)
structure mc (l:List bB) (cls:String) (t8:List an->Prop) (C s':aq) (e:ah):Prop where
 same:∃B bg,s'={C with heap:=B,toks:=bg}
 YB:∃t args,K_ (dJ C.heap (dx l)) l e (.type cls) (.ref t) s'.heap/\s'.heap.TupAt t args/\t8 args
 up:C.heap.UpToSlots s'.heap
noncomputable def sn(l:List bB)(C:aq):Prop:=C.heap.FunFrames (dJ C.heap (dx l)) l
section
variable{W:bj}{I:br}{X:List ah}{C:aq}
theorem At{a4:Type}{cls o1:String}{ai:a4->aq->Prop}{aj:an->aq->Prop}(aF:PlainExc cls)(bd:I.handled=none)(B:∀aD e,Bo C.heap aD e cls [.str o1 C.toks]->aj (.ref e) {C with heap:=aD,toks:=C.toks+1}):az W.M I (raiseErrorWords cls o1:ni a4) ai aj C:=by
 unfold raiseErrorWords
 exact aM (wpAny_mkText (aM (wpAny_newExc_plain aF λaD e aI=>wpAny_raiseNew_none bd (B aD e aI))))
set_option tactic.hygienic true in
theorem GW{ao:ah}{e4:bJ}{fd:pu}{body:List cT}{names:List ay}{ab:List ax}{af:List an}{l:List bB}{cls:String}{t8:List an->Prop}{ai:an->aq->Prop}{aj:an->aq->Prop}(aa:hC W ao e4 fd body names)(aN:names.length=ab.length)(bd:I.handled=none)(bk:I.depth<d3)(de:I.frames=some l)(aK:c0 X C)(bQ:eg W (a0 X C))(aV:a3 (a0 X C) af ab)(iI:sn l C)(nK:∀ar aG dH (lR:fj->aq->Prop)(jL:an->aq->Prop),dH.handled=none->dH.units<=I.units+3->aP W (callEnvC fd ar ao) X (names.zip ab) [] [] [] C aG->(∀a5 aD e args,cS aG a5->Bo a5.heap aD e cls args->t8 args->∀bg,jL (.ref e) {a5 with heap:=aD,toks:=bg})->az W.M dH (bY body (callEnvC fd ar ao)) lR jL aG)(q:∀s' e,mc l cls t8 C s' e->aj (.ref e) s')(iJ:autoParam (∀Y,rk Y fd.scope.names []=[]) tI):az W.M I (df (.ref ao) af) ai aj C:=by
 refine m7 (Z:=[]) (M:=[]) (O:=[]) aa aN bk aK bQ aV (λ_ B=>nomatch B) (λ_ _ e=>nomatch e) (λ_ _ e=>nomatch e) (λar aG ag=>?_) iJ
 refine nK ar aG _ _ _ (by exact bd) (by exact eF _) ag λa5 aD e args k aI uN bg=>?_
 have ko:cS C a5:=b5 (ag.keep.keeps (gb C) (λ_ B=>nomatch B)) k
 have nM:∃m,a5.heap.Ns ar m:=let⟨m,Y⟩:=ag.ns;⟨m,Y.keeps (ed k)⟩
 obtain⟨m,nM⟩:=nM
 have sO:(dJ C.heap (dx l)).StaysIn a5.heap:=λb N ak=>ed ko b N (fc _ ak)
 have ev:(dJ C.heap (dx l)).get? ar=none:=by
  cases ba:(dJ C.heap (dx l)).get? ar with
  |none=>rfl
  |some N=>
   have h1:=fc _ ba
   rw[show C.heap.get? ar=none from ag.new]at h1
   cases h1
 have uF:a5.heap.FunFrames (dJ C.heap (dx l)) (callEnvC fd ar ao::l):=
  Ub (by show fd.scope.kind≠_;refine H aa.kind ?_;decide) rfl nM ev (iI.of_keeps λb N a6 _=>⟨N,ed ko b N a6,rfl⟩)
 refine wpAny_leaves_madeW (h:=a5.heap) (s:={a5 with heap:=aD,toks:=bg}) (K2 de) rfl sO uF aI.of λaA t cW f9 q6 ahd=>?_
 refine jG ko λaQ k6 m4 _=>?_;clear ko
 exact q _ e ⟨⟨aA,bg,by refine H m4 ?_;rfl⟩,⟨t,args,cW,f9,uN⟩,((Ud (by rw[m4]at sO ⊢;exact λb N ak=>by rename_i er;exact er b N ak)).trans (Ud aI.keeps)).trans ahd⟩
end
section
variable{W:bj}{I:br}{env:bB}{X:List ah}{ae:bu}{M:ce}{O:List (ah×bJ)}{Z:List ah}{av C:aq}{ai:fj->aq->Prop}{aj:an->aq->Prop}
theorem DP{C s':aq}(k:cS C s'){a:ah}{af:Array an}(B:C.heap.PlainList a af):s'.heap.PlainList a af:=(ed k).plain B
theorem abV{D am:ay}{bK py dn al J:bp}{aJ:List cT}{aa:ah}(ag:aP W env X ae M O Z av C)(bZ:ae.lookup am=some (.adr aa))(bd:I.handled=none)(cn:C.heap.PlainList aa #[])(q:∀a5 aD e t bg,cS C a5->Bo a5.heap aD e "IndexError" [.str "pop from empty list" t]->aj (.ref e) {a5 with heap:=aD,toks:=bg})(fS:autoParam ((dn.endLine==al.line)=true) tR)(fR:autoParam (jK (.Name am py) "pop" env (b1 (.Name am py) env)=b1 (.Name am py) env) tR)(a9:autoParam (iE (.Call (.Attribute (.Name am py) "pop" dn) [] [] al) (some (.Name D bK)) J.line env=pure false) tR):az W.M I (bY (.Assign [.Name D bK] (.Call (.Attribute (.Name am py) "pop" dn) [] [] al) J::aJ) env) ai aj C:=by
 with_reducible refine eH (lN (E9 fR fS (nX bZ ag λaG k1=>?_)) a9)
 have bz:=DP k1 cn
 refine⟨"list","list.pop",F.plainAttrs_list,F.slot_list_pop,F.type_list_pop,oh bz.isList,I2 bz,?_⟩
 with_reducible refine jQ (λ_ e=>nomatch e) rfl (TN ?_)
 refine l' F.slot_list_pop (oh bz.isList) F.entry_list_pop ?_ (F.args_list_pop_1 _)
 obtain⟨Y,a6⟩:=bz
 unfold fX.«list.pop»
 refine aM (m:=UO "list.pop" "pop" 0 1 _) (b6 ?_)
 refine aM (b6 ?_)
 simp only[show TY (-1)=true by decide,vx,fi,if_false]
 refine aM (E4 a6 rfl ?_)
 simp only[show (#[]:Array an).isEmpty=true from rfl,if_true]
 refine aM (oo (aM (At Bu bd λaD e aI=>?_)))
 exact q aG aD e _ _ k1 aI
theorem Xc{l:List bB}{aa:ah}{af:List an}{ai:an->aq->Prop}{aj:an->aq->Prop}(bd:I.handled=none)(bk:I.depth<d3)(de:I.frames=some l)(aK:c0 X C)(bQ:eg W (a0 X C))(cn:C.heap.PlainList aa #[])(iI:sn l C)(aV:a3 (a0 X C) af [.adr aa])(q:∀s' e,mc l "IndexError" (λbi=>∃t,bi=[.str "pop from empty list" t]) C s' e->aj (.ref e) s'):az W.M I (df (.ref 138) af) ai aj C:=
 GW (m0 W) rfl bd bk de aK bQ aV iI (λar aG dH lR jL cA _ ag td=>abV ag (aa:=aa) rfl cA (DP (ag.keep.keeps (gb C) (λ_ B=>nomatch B)) cn) λa5 aD e t bg k aI=>td a5 aD e _ k aI ⟨t,rfl⟩ bg) q
theorem Y0{l:ah}{k:Int}{t:dN}{ai:an->aq->Prop}{aj:an->aq->Prop}(bd:I.handled=none)(aN:C.heap.IsList l #[])(aQ:0<=k)(CE:k<2^63)(iU:∀aD e fB bg,Bo C.heap aD e "IndexError" [.str "list index out of range" fB]->aj (.ref e) {C with heap:=aD,toks:=bg}):az W.M I (Fx (.ref l) (.int k t)) ai aj C:=by
 refine pi (id aN) λN a6 aO ne hd=>?_
 unfold Fx
 try with_reducible refine ib ?_
 first |refine aM (b6 ?_)|skip
 refine aM (U_ aN.typeIs (by decide) ?_)
 refine aM (yg (name:=ia "__getitem__") aN.typeIs vY
  (l' vY aN.typeIs entry_list_getitem ?_ (args_list_getitem _ _)))
 show az _ _ (T1 (.int k t)>>=_) _ _ C
 refine aM (U5 (UI aQ CE) ?_)
 clear CE
 refine bH (SE aQ) λaB dC=>?_;subst dC
 show az _ _ ((seqItemAt l aB>>=λr=>pure (r.map (aB,·)))>>=_) _ _ C
 refine aM (aM (U9 a6 hd (b6 ?_)))
 refine H (show(#[]:Array an)[aB]? =none from by simp) ?_
 first
  |exact aM (oo (At Bu bd λaD e aI=>iU aD e _ _ aI))
  |exact aM (oo (aM (At Bu bd λaD e aI=>iU aD e _ _ aI)))
  |exact aM (aM (oo (At Bu bd λaD e aI=>iU aD e _ _ aI)))
  |exact oo (At Bu bd λaD e aI=>iU aD e _ _ aI)
theorem abT{D am:ay}{bK py J al cY:bp}{k}{aJ:List cT}{aa:ah}(ag:aP W env X ae M O Z av C)(bZ:ae.lookup am=some (.adr aa))(bd:I.handled=none)(cn:C.heap.PlainList aa #[])(q:∀a5 aD e t bg,cS C a5->Bo a5.heap aD e "IndexError" [.str "list index out of range" t]->aj (.ref e) {a5 with heap:=aD,toks:=bg})(a9:autoParam (iE (.Subscript (.Name am py) (.Constant (.int 0) k cY) J) (some (.Name D bK)) al.line env=pure false) tR):az W.M I (bY (.Assign [.Name D bK] (.Subscript (.Name am py) (.Constant (.int 0) k cY) J) al::aJ) env) ai aj C:=by
 with_reducible refine eH (lN (vI (nX bZ ag λa5 k2=>?_)) a9)
 have NX:=DP k2 cn
 with_reducible refine LK ?_
 refine og (oh NX.isList) vY.lookup (Y0 (C:={a5 with toks:=a5.toks+1}) bd NX.isList (by decide) (by decide) λaD e fB bg aI=>?_) (tj rfl _ _)
 exact q {a5 with toks:=a5.toks+1} aD e fB bg (b5 k2 (ey _ _)) aI
theorem Xd{l:List bB}{aa:ah}{d:ax}{af:List an}{ai:an->aq->Prop}{aj:an->aq->Prop}(bd:I.handled=none)(bk:I.depth<d3)(de:I.frames=some l)(aK:c0 X C)(bQ:eg W (a0 X C))(cn:C.heap.PlainList aa #[])(iI:sn l C)(aV:a3 (a0 X C) af [.adr aa,d])(q:∀s' e,mc l "IndexError" (λbi=>∃t,bi=[.str "list index out of range" t]) C s' e->aj (.ref e) s'):az W.M I (df (.ref 145) af) ai aj C:=
 GW (wn W) rfl bd bk de aK bQ aV iI (λar aG dH lR jL cA _ ag td=>by
  have NW:=DP (ag.keep.keeps (gb C) (λ_ B=>nomatch B)) cn
  exact abT ag (aa:=aa) rfl cA NW λa5 aD e fB bg k aI=>td a5 aD e _ k aI ⟨fB,rfl⟩ bg) q
theorem af1:tP (.type "str") (.type "str")=pure true:=by refine H (pC _ _) ?_;kernel_rfl
theorem Mh{e:a'}{T Mt:String}{D:ay}{cB cY al:bp}{d:ax}(B:aY W I env ae e d)(cp:∀(C:aq) B v,aC B v d->C.TypeIs v Mt)(aS:dF (cZ W.w) dh D=some none)(Z2:iD D=some (.type T))(abq:np (.type T)=pure (.type "type"))(fg:tP (.type Mt) (.type T)=pure true)(hk:autoParam (env.kindOf "isinstance"=some .globalImplicit) tR)(rP:autoParam (env.kindOf D=some .globalImplicit) tR)(bV:autoParam (eQ e=false) tR)(a_:autoParam (D≠"__name__") tD)(hd:autoParam ((D==("__debug__":ay))=false) tD):ej W I env ae (.Call (.Name "isinstance" cB) [e,.Name D cY] [] al) true:=wc (bw:=by intro _;rfl) ⟨λX C aK G=>⟨λai aj q=>by
 show az _ _ (b1 (.Name "isinstance" cB) env>>=λv=>fH al v [] (fk al (eV [e,.Name D cY] env)) (j_ al (j' [] env))) _ _ _
 refine aM (ly G hk (MH _) MJ ?_)
 show az _ _ (fH al (.builtin "isinstance") [] (fk al (eV [e,.Name D cY] env)) []) _ _ _
 refine H ((h8 bV) _) ?_
 refine jQ (λ_ e=>nomatch e) rfl (k' (g0 ((B.on X C aK G).go _ _ λbx aG k1 aT=>?_)))
 refine g0 (ly (G.mono (cg k1)) rP aS Z2 (jJ ?_) a_ hd)
 exact call_isinstance_yes (cp aG _ _ aT) abq fg (q _ _ k1 (.bool _))⟩⟩
theorem agP{D:ay}:∀(C:aq) B v,aC B v (.str D)->C.TypeIs v "str":=λC B v r=>by refine aC.eS r λ_=>?_;exact tU _ _ _
theorem Xg{l:List bB}{D:ay}{af:List an}{ai:an->aq->Prop}{aj:an->aq->Prop}(bd:I.handled=none)(bk:I.depth<d3)(de:I.frames=some l)(aK:c0 X C)(bQ:eg W (a0 X C))(iI:sn l C)(aV:a3 (a0 X C) af [.str D])(q:∀s' e,mc l "AssertionError" (λbi=>bi=[]) C s' e->aj (.ref e) s'):az W.M I (df (.ref 77) af) ai aj C:=
 GW (wo W) rfl bd bk de aK bQ aV iI (λar aG dH lR jL cA _ ag td=>by
  refine eH (wpAny_Assert cA (((we (Mh (aW (d:=.str D) rfl) agP (Gg _) Gj R7 af1)).on X aG ag.c6 ag.G).go _ _ λa5 k2=>?_))
  simp only[vx,fi,if_false]
  exact λaD e aI=>td a5 aD e [] k2 aI rfl a5.toks) q
end
noncomputable def ga(M:ce):Nat->ax->ax
 |0,d=>d
 |Y+1,.adr a=>match M.lookup a with
  |some ab=>.cf a (ab.map (ga M Y))
  |none=>.adr a
 |_+1,d=>d
noncomputable def qD(M:ce)(Y:Nat)(ae:bu):bu:=ae.map λJ=>(J.1,ga M Y J.2)
theorem M6(M:ce)(Y:Nat)(D:ay)(ae:bu):(qD M Y ae).lookup D=(ae.lookup D).map (ga M Y):=by
 induction ae with
 |nil=>rfl
 |cons J r bf=>
  show((J.1,ga M Y J.2)::qD M Y r).lookup D=(((J.1,J.2)::r).lookup D).map _
  refine H c1 ?_;refine H c1 ?_
  cases D==J.1 with
  |true=>rfl
  |false=>exact bf
theorem mZ{M:ce}{Y:Nat}{D:ay}{ae:bu}{d bO:ax}(B:ae.lookup D=some d)(e:ga M Y d=bO):(qD M Y ae).lookup D=some bO:=by
 refine H (M6 _ _ _ _) ?_;refine H B ?_;refine b' e ?_
 rfl
theorem pP{M:ce}{Y:Nat}{a:ah}{ab:List ax}(B:M.lookup a=some ab):ga M (Y+1) (.adr a)= .cf a (ab.map (ga M Y)):=by
 show(match M.lookup a with |some ab=>_|none=>_)=_
 refine H B ?_;rfl
theorem wm{M:ce}{Y:Nat}{d:ax}(B:∀a,d≠ .adr a):ga M Y d=d:=by
 cases Y with
 |zero=>rfl
 |succ Y=>cases d<;>first |rfl|exact absurd rfl (B _)
section
variable{W:bj}{I:br}{env:bB}{X:List ah}{ae:bu}{M dk:ce}{O:List (ah×bJ)}{Z:List ah}{av C s':aq}
theorem aP.Ca(ag:aP W env X ae M O Z av C)(Y:Nat):∀{v:an}{d:ax},aC (a0 X C) v d->aC (a0 (iq X M) C) v (ga M Y d):=by
 induction Y with
 |zero=>exact λr=>r.mono (jZ oW)
 |succ Y bf=>
  intro v d r
  by_cases B:∃a,d= .adr a
  .refine bH B λa dC=>?_;clear B;subst dC
   refine aC.eD r ?_
   cases aI:M.lookup a with
   |none=>
    have e:ga M (Y+1) (.adr a)= .adr a:=by
     show(match M.lookup a with |some ab=>_|none=>_)=_
     refine H aI ?_;rfl
    refine H e ?_
    exact .adr a
   |some ab=>
    refine H (pP aI) ?_
    refine fW (ag.el a ab aI) λ_ _ af nR aV=>?_;obtain⟨k,e⟩:=nR
    exact .cf ⟨k,ei _ e (PX aI)⟩ (aV.map λ_ _ _=>bf)
  .refine H (wm λa e=>B ⟨a,e⟩) ?_
   exact r.mono (jZ oW)
theorem aP.yU(ag:aP W env X ae M O Z av C)(Y:Nat){af:List an}{ab:List ax}(r:a3 (a0 X C) af ab):a3 (a0 (iq X M) C) af (ab.map (ga M Y)):=r.map λ_ _ _=>ag.Ca Y
theorem aP.Jb(ag:aP W env X ae M O Z av C)(Y:Nat):fQ W env (qD M Y ae) (a0 (iq X M) C):=by
 have k:dS (a0 X C) (a0 (iq X M) C):=jZ oW
 refine⟨ag.G.base.mono k,ag.G.kind,ag.G.globals,ag.G.builtins,λD d e=>?_⟩
 rw[M6]at e
 cases B:ae.lookup D with
 |none=>rw[B]at e;cases e
 |some lm=>
  rw[B]at e
  cases e
  refine jl (ag.G.vars D lm B) λq v r yR=>?_
  exact⟨q,v,ag.Ca Y r,yR.mono k⟩
theorem aP.sub(ag:aP W env X ae M O Z av C)(B:∀J∈dk,M.lookup J.1=some J.2):aP W env X ae dk O Z av C:=by
 refine ag.j0 (λD d e=>?_) λ_ _ e=>e
 have:(D,d)∈dk:=by
  clear ag B
  induction dk with
  |nil=>cases e
  |cons J r bf=>
   rw[c1]at e
   cases aS:D==J.1 with
   |true=>
    rw[aS]at e
    cases e
    have:=eq_of_beq aS
    subst this
    exact .head _
   |false=>rw[aS]at e;exact .tail _ (bf e)
 exact B _ this
theorem Af{d9:Type}{l:List (ah×d9)}(a_:(l.map (·.1)).Nodup){J:ah×d9}(aF:J∈l):l.lookup J.1=some J.2:=by
 induction l with
 |nil=>cases aF
 |cons q r bf=>
  rw[ef,d']at a_
  refine H c1 ?_
  refine d2 aF ?_ λaF=>?_
  .simp
  .have:(J.1==q.1)=false:=by
    simp only[beq_eq_false_iff_ne]
    intro e
    exact a_.1 (e▸eT aF)
   refine H this ?_
   exact bf a_.2 aF
noncomputable def ax.m_:ax->Bool
 | .none | .bool _| .int _| .str _| .bytes _| .adr _| .ty _=>true
 | .tuple ab=>ab.all λd=>d.flat
 |_=>false
set_option tactic.hygienic true in
theorem aC.m_{X mh:List ah}{B:bo}{v:an}{d:ax}(hd:d.m_=true)(wG:∀a∈mh,a∈X\/∃af,B.PlainList a af)(r:aC (dJ B X) v d):aC (dJ B mh) v d:=by
 cases r with
 |tuple t aV=>
  rename_i a af ab
  refine pi t λN a6 aO Y uE=>?_;clear t
  refine .tuple ⟨N,ei _ (fc _ a6) λaI=>?_,aO,Y,uE⟩ ?_
  .rcases wG _ aI with h1|⟨ee,k,e⟩
   .rw[fP _ h1]at a6;cases a6
   .rw[fc _ a6]at e
    cases e
    simp at aO
  .exact aV.imp λ_ d aI r=>r.flat (kA.mp hd d aI)
 |none=>exact .none
 |bool b=>exact .bool b
 |int L t=>exact .int L t
 |str D t=>exact .str D t
 |bytes b t=>exact .bytes b t
 |adr a=>exact .adr a
 |ty Y=>exact .ty Y
 |list _ _=>cases hd
 |cf _ _=>cases hd
 |raw _ _=>cases hd
theorem aP.afd(ag:aP W env X ae M O Z av C){v:an}{d:ax}(hd:d.m_=true)(r:aC (a0 (iq X M) C) v d):aC (a0 X C) v d:=by
 refine r.m_ hd λa ha=>?_
 by_cases B:a∈iq X M
 .exact .inl B
 .refine .inr ?_
  cases aI:M.lookup a with
  |none=>exact absurd (lJ.mpr ⟨ha,by simp[aI]⟩) B
  |some ab=>
   refine fW (ag.el a ab aI) λ_ _ af bz _=>?_
   exact⟨af,bz⟩
theorem aP.ZV(ag:aP W env X ae M O Z av C){aa:ah}{ab:List ax}(cn:M.lookup aa=some ab)(B:∀J∈dk,M.lookup J.1=some J.2)(a_:dk.lookup aa=none)(Y:Nat):jN (iq X dk) aa (ab.map (ga dk Y)) C:=by
 refine fW (ag.el aa ab cn) λgW _ af bz aV=>?_
 exact⟨lJ.mpr ⟨gW,by simp[a_]⟩,af,bz,(ag.sub B).yU Y aV⟩
noncomputable def vm:ax->ax
 | .cf a _=>.adr a
 |d=>d
theorem aC.JO{B aD:bo}{v:an}{d:ax}(hd:(vm d).flat=true)(r:aC B v d):aC aD v (vm d):=by
 cases d with
 |cf a ab=>cases r;exact .adr a
 |_=>exact aC.flat r hd
theorem a3.JO{B aD:bo}{af:List an}{ab:List ax}(hd:∀d∈ab,(vm d).flat=true)(r:a3 B af ab):a3 aD af (ab.map vm):=r.map λ_ d B r=>aC.JO (hd d B) r
theorem aP.Xr(ag:aP W env X ae M O Z av C){aa:ah}{ab f1:List ax}(cn:M.lookup aa=some ab)(k:cC [aa] C s')(B:jN (iq X dk) aa f1 s')(b2:∀d∈f1,(vm d).flat=true):aP W env X ae ((aa,f1.map vm)::M) O Z av s':=by
 refine fb (ag.el aa ab cn) λgW wC _=>?_
 refine cm B.is λaf bz aV=>?_
 exact ag.called cn k ⟨gW,af,bz,aV.JO b2⟩
end
section
variable{W:bj}{I:br}{env:bB}{X:List ah}{ae:bu}{M dk:ce}{O:List (ah×bJ)}{Z:List ah}{av C s':aq}{ai:fj->aq->Prop}{aj:an->aq->Prop}
theorem abR(Y:Nat){V:a'}{body kX aJ:List cT}{al:bp}{b:Bool}(ag:aP W env X ae M O Z av C)(aO:ej W I env (qD M Y ae) V b)(next:∀s',aP W env X ae M O Z av s'->az W.M I (bY (if b then body else kX) env) (λao dz=>match ao with | .next=>az W.M I (bY aJ env) ai aj dz|ao=>ai ao dz) aj s'):az W.M I (bY (.If V body kX al::aJ) env) ai aj C:=by
 refine eH (yf ((aO.on _ C ag.jg (ag.Jb Y)).go _ _ λaG k1=>?_))
 have bG:=ag.keeps k1
 have B:=next aG bG
 cases b with
 |true=>
  simp only[if_true]at B ⊢
  exact fe B (λao a5 aA=>by cases ao<;>exact aA) λ_ _ D=>D
 |false=>
  simp only[fi,if_false]at B ⊢
  exact fe B (λao a5 aA=>by cases ao<;>exact aA) λ_ _ D=>D
theorem zW(Y:Nat){D:ay}{bK al:bp}{ao:ah}{e4:bJ}{fd:pu}{e:a'}{b9:List a'}{ab:List ax}{ai:an->aq->Prop}(ag:aP W env X ae M O Z av C)(ms:nz W I env (qD M Y ae) al (e::b9) ab)(bA:dF (cZ W.w) dh D=some (some (.ref ao)))(a6:(cZ W.w).lookup ao=some e4)(pT:e4.data= .func fd)(q:∀af s',aP W env X ae M O Z av s'->cS C s'->a3 (a0 (iq X M) s') af ab->az W.M I (df (.ref ao) af) ai aj s')(hk:autoParam (env.kindOf D=some .globalImplicit) tR)(bV:autoParam ((e::b9).all (λe=> !eQ e)=true) tR)(hd:autoParam ((D==("__debug__":ay))=false) tD):az W.M I (b1 (.Call (.Name D bK) (e::b9) [] al) env) ai aj C:=by
 show az _ _ (b1 (.Name D bK) env>>=λv=>fH al v [] (fk al (eV (e::b9) env)) (j_ al (j' [] env))) _ _ _
 refine aM (o2 ag.G hk bA ?_ hd)
 show az _ _ (fH al (.ref ao) [] (fk al (eV (e::b9) env)) []) _ _ _
 with_reducible refine vL (o:=e4) (fd:=fd) (sA ag.jg (ag.Jb Y) ms (vn bV) λaf aG k1 aT=>⟨⟨uY (ag.G.base.mono ((cg k1).trans cP)).K a6,pT⟩,?_⟩)
 exact q af aG (ag.keeps k1) k1 aT
theorem mz{D:ay}{bK al:bp}{e:a'}{aJ:List cT}(bw:az W.M I (b1 e env) (λv aG=>∃X' d_ dk cI d,aP W env X' d_ dk cI Z av aG/\aC (a0 X' aG) v d/\∀a5,aP W env X' ((D,d)::d_) dk cI Z av a5->az W.M I (bY aJ env) ai aj a5) aj C)(aS:autoParam (env.kindOf D=some .local) tR)(hd:autoParam ((D==("__debug__":ay))=false) tD)(a9:autoParam (iE e (some (.Name D bK)) al.line env=pure false) tR):az W.M I (bY (.Assign [.Name D bK] e al::aJ) env) ai aj C:=by
 refine eH (lN (fe bw (λv aG B=>?_) λ_ _ D=>D) a9)
 refine pj B λX' d_ dk cI aE=>?_;clear B;refine iA aE λd ag r q=>?_;clear aE
 exact ag.store aS hd r λa5 bN=>q a5 bN
theorem GN{e:a'}{al:bp}{ai:an->aq->Prop}(B:az W.M I (b1 e env) (λv aG=>az W.M I (Bt [v]) ai aj aG) aj C)(bV:autoParam (eQ e=false) tR):az W.M I (b1 (.List [e] al) env) ai aj C:=by
 refine E1 ?_
 refine H ((h8 bV) _) ?_
 exact g0 (fe B (λv aG h1=>jJ h1) λ_ _ D=>D)
theorem Yo{e bm:a'}{al:bp}{ai:an->aq->Prop}(B:az W.M I (b1 e env) (λv aG=>az W.M I (b1 bm env) (λbE a5=>az W.M I (Bt [v,bE]) ai aj a5) aj aG) aj C)(bV:autoParam (eQ e=false) tR)(zM:autoParam (eQ bm=false) tR):az W.M I (b1 (.List [e,bm] al) env) ai aj C:=by
 refine E1 ?_
 refine H ((h8 bV) _) ?_;refine H ((h8 zM) _) ?_
 exact g0 (fe B (λv aG h1=>g0 (fe h1 (λbE a5 aA=>jJ aA) λ_ _ D=>D)) λ_ _ D=>D)
theorem GP{e bm:a'}{k:Nat}{al:bp}{ai:an->aq->Prop}(B:az W.M I (b1 e env) (λv aG=>az W.M I (b1 bm env) (λbE a5=>az W.M I (vU [v,bE]) ai aj a5) aj aG) aj C)(bV:autoParam (eQ e=false) tR)(zM:autoParam (eQ bm=false) tR):az W.M I (b1 (.Tuple [e,bm] k al) env) ai aj C:=by
 refine KW ?_
 refine H ((h8 bV) _) ?_;refine H ((h8 zM) _) ?_
 exact g0 (fe B (λv aG h1=>g0 (fe h1 (λbE a5 aA=>jJ aA) λ_ _ D=>D)) λ_ _ D=>D)
theorem ab1{body:List cT}{oR:xZ}{a9:List xZ}{al:bp}{aJ:List cT}(B:az W.M I (bY body env) (λao aG=>match ao with | .next=>az W.M I (bY aJ env) ai aj aG|ao=>ai ao aG) (λe aG=>az W.M I (yc e env) (λ_ a5=>az W.M I (FA e none) (λ_ bv=>az W.M I (tO e env (oR::a9)) (λao s'=>match ao with | .next=>az W.M I (bY aJ env) ai aj s'|ao=>ai ao s') aj bv) aj a5) aj aG) C):az W.M I (bY (.Try body (oR::a9) [] [] al::aJ) env) ai aj C:=by
 refine eH (wpAny_Try_except (fe B (λao aG h1=>?_) λ_ _ D=>D))
 cases ao<;>first |exact dq h1|exact h1
theorem aP.MK{l0:List bB}{cI:List (ah×bJ)}(ag:aP W env X ae M O Z av C)(b2:env.frame=some env.locals)(kN:∀b∈dx l0,b∈X/\b∈Z/\M.lookup b=none)(uF:sn (env::l0) C)(same:∃B bg,s'={C with heap:=B,toks:=bg})(bQ:(dJ C.heap (dx (env::l0))).StaysIn s'.heap)(up:C.heap.UpToSlots s'.heap)(gq:∀a N,cI.lookup a=some N->O.lookup a=some N/\a∉dx l0):aP W env X ae M cI Z av s':=by
 have de:dx (env::l0)=env.locals::dx l0:=by
  show A2 _ (env::l0)=_
  refine H sd ?_;refine H b2 ?_;rfl
 have keep:∀b N,b≠env.locals->b∉dx l0->C.heap.get? b=some N->s'.heap.get? b=some N:=λb N h1 aA e=>bQ b N (ei _ e λaI=>by
  rw[de]at aI
  rcases dw.mp aI with q|q
  .exact h1 q
  .exact aA q)
 have nL:∀N aR Y,C.heap.get? env.locals=some N->N.data≠ .seq aR Y:=λN aR Y e hd=>by
  refine pj ag.ns λm b0 b9 f2 aE=>?_;refine fb aE λdB b7 _=>?_;clear aE
  rw[e]at dB
  cases dB
  rw[hd]at b7
  cases b7
 have ko:mf (a0 X C) (a0 X s'):=λb N aR Y e hd=>by
  have a8:=fc _ e
  have hY:b∉X:=λaI=>by rw[fP _ aI]at e;cases e
  exact ei _ (keep b N (λq=>nL N aR Y (q▸a8) hd) (λq=>hY (kN b q).1) a8) hY
 have sO:cC Z av s':=by
  obtain⟨⟨aQ,k6,f7⟩,k0⟩:=ag.keep
  refine jF same λh1 t1 a8=>?_;clear same
  refine⟨⟨h1,t1,by refine H a8 ?_;refine H f7 ?_;rfl⟩,λb N ak e=>keep b N (λq=>?_) (λq=>ak (kN b q).2.1) (k0 b N ak e)⟩
  rw[q,ag.new]at e
  cases e
 refine bH ag.ns λm nM=>?_
 refine⟨λa ha=>?_,⟨ag.mj.mono (sO.hide ag.hS),ag.G.kind,ag.G.globals,ag.G.builtins,λD d e=>?_⟩,⟨m,up.ns nM⟩,ag.new,ag.iZ,ag.cells,λaa ab e=>?_,λa N e=>?_,sO,ag.mj,ag.hS⟩
 .refine bH (ag.c6 a ha) λN e=>?_
  by_cases aI:a∈dx l0
  .refine jl (uF.mem (b:=a) (by show a∈dx (env::l0);rw[de];exact .tail _ aI)) λ_ b0 nN hd=>?_
   refine bH (up a b0 nN hd) λct dB=>?_
   exact⟨_,dB⟩
  .exact⟨N,keep a N (λq=>ag.iZ (q▸ha)) aI e⟩
 .refine jl (ag.G.vars D d e) λq v r b=>?_
  refine⟨q,v,r.g_ ko,?_⟩
  cases b with
  |loc a Y V=>
   have et:=Y.keeps (h':=C.heap) cP
   exact .loc a (m' (up.ns et) ag.iZ) V
  |cell a V _=>rw[ag.cells]at V;cases V
  |free a V _ _=>rw[ag.cells]at V;cases V
 .refine fW (ag.el aa ab e) λa b af bz aV=>?_
  refine⟨a,b,af,?_,aV.g_ ko⟩
  refine bH bz λY a6=>?_;clear bz
  exact⟨Y,keep aa _ (λq=>ag.iZ (q▸a)) (λq=>by rw[(kN aa q).2.2]at e;cases e) a6⟩
 .refine d8 (gq a N e) λh1 aA=>?_
  refine fb (ag.objs a N h1) λbn cK fq=>?_
  exact⟨keep a N fq aA bn,cK,fq⟩
end
section
variable{W:bj}{I:br}{env:bB}{X:List ah}{ae:bu}{M dk:ce}{O cI:List (ah×bJ)}{Z:List ah}{av C aG s':aq}{ai:fj->aq->Prop}{aj:an->aq->Prop}
theorem PA{l0:List bB}{cls:String}{t8:List an->Prop}{e:ah}{a9:List xZ}(ag:aP W env X ae M O Z av C)(b2:env.frame=some env.locals)(kN:∀b∈dx l0,b∈X/\b∈Z/\M.lookup b=none)(uF:sn (env::l0) C)(de:I.frames=some (env::l0))(F:mc (env::l0) cls t8 C aG e)(gq:∀a N,cI.lookup a=some N->O.lookup a=some N/\a∉dx l0)(B:∀bv t args,aP W env X ae M cI Z av bv->K_ (dJ C.heap (dx (env::l0))) (env::l0) e (.type cls) (.ref t) bv.heap->bv.heap.TupAt t args->t8 args->C.heap.UpToSlots bv.heap->(∃B bg,bv={C with heap:=B,toks:=bg})->az W.M I (tO (.ref e) env a9) ai aj bv):az W.M I (yc (.ref e) env) (λ_ a5=>az W.M I (FA (.ref e) none) (λ_ bv=>az W.M I (tO (.ref e) env a9) ai aj bv) aj a5) aj aG:=by
 refine l6 F.YB λt args m2 cp uN=>?_
 refine jF F.same λaF bg b9=>?_
 refine wpAny_looks_onW de b2 m2 λaD aar m4=>?_
 refine wpAny_landsW aar λju OE sW=>?_
 have up:C.heap.UpToSlots ju:=(F.up.trans m4).trans sW
 have same:∃B bg,({aG with heap:=ju}:aq)={C with heap:=B,toks:=bg}:=⟨ju,bg,by refine H b9 ?_;rfl⟩
 exact B _ t args (ag.MK (s':={aG with heap:=ju}) b2 kN uF same OE.1 up gq) OE ((cp.of_slots m4).of_slots sW) uN up same
theorem aP.forget(ag:aP W env X ae M O Z av C){aD:bo}{bg:Nat}{bS:ay->Option an}(iK:aD.Ns env.locals bS)(a9:mJ env.locals C.heap aD):aP W env X [] M O Z av {C with heap:=aD,toks:=bg}:=by
 have keep:∀b N,b≠env.locals->C.heap.get? b=some N->aD.get? b=some N:=λb N ak e=>a9.extBut b N ak e
 have sO:cC Z av {C with heap:=aD,toks:=bg}:=by
  obtain⟨⟨aQ,k6,f7⟩,k0⟩:=ag.keep
  refine⟨⟨aD,bg,by refine H f7 ?_;rfl⟩,λb N ak e=>keep b N (λq=>?_) (k0 b N ak e)⟩
  rw[q,ag.new]at e
  cases e
 refine⟨λa ha=>?_,⟨ag.mj.mono (sO.hide ag.hS),ag.G.kind,ag.G.globals,ag.G.builtins,λD d e=>nomatch e⟩,⟨bS,iK⟩,ag.new,ag.iZ,ag.cells,λaa ab e=>?_,λa N e=>?_,sO,ag.mj,ag.hS⟩
 .refine bH (ag.c6 a ha) λN e=>?_
  exact⟨N,keep a N (λq=>ag.iZ (q▸ha)) e⟩
 .refine fW (ag.el aa ab e) λa b af bz aV=>?_
  refine bH bz λY a6=>?_;clear bz
  refine⟨a,b,af,⟨Y,keep aa _ (λq=>ag.iZ (q▸a)) a6⟩,?_⟩
  refine bH ag.ns λm nM=>?_
  exact aV.g_ λb N aR Y e hd=>by
   have a8:=fc _ e
   have hY:b∉X:=λaI=>by rw[fP _ aI]at e;cases e
   exact ei _ (keep b N (λq=>u_ nM N aR Y (q▸a8) hd) a8) hY
 .refine fb (ag.objs a N e) λbn cK fq=>?_
  exact⟨keep a N fq bn,cK,fq⟩
theorem Rg{dH:br}{aX o1 aw:ay}{agc bq:dN}{e:ah}{lA:bp}{e1:aq}(cU:aP W env X [] M O Z av e1)(Vh:fQ W env [("error",.adr e),("text",.str aw)] (a0 X e1)){FM:an->aq->Prop}{Mn:an->aq->Prop}(q:∀v s',aP W env X [] M O Z av s'->aC (a0 X s') v (.tuple [oD aX o1,.str aw])->cS e1 s'->Mn v s'):az W.M dH (vU [.str aX agc,.str o1 bq]) (λv f3=>az W.M dH (b1 (.Name "text" lA) env) (λbE ji=>az W.M dH (vU [v,bE]) Mn FM ji) FM f3) FM e1:=by
 refine(En (ab:=[.str aX,.str o1]) cU.c6 (.cons (.str _ _) (.cons (.str _ _) .nil)) (by simp[bc])).go _ _ λv f3 rW qe=>?_
 have dA:=cU.keeps rW
 refine((aW (d:=.str aw) rfl).on X f3 dA.c6 (Vh.mono (cg rW))).go _ _ λbE ji w3 qf=>?_
 have eW:=dA.keeps w3
 refine(En (ab:=[oD aX o1,.str aw]) eW.c6 (.cons (qe.mono (cg w3)) (.cons qf .nil)) (by simp[bc])).go _ _ λv hP nW lB=>?_
 exact q v hP (eW.keeps nW) lB (b5 (b5 rW w3) nW)
theorem XB{e:ah}{cls T:String}{D Y:ay}{I' al:bp}{W7:cT}{af2:List cT}{aJ:List xZ}(G:fQ W env ae (a0 X C))(dI:C.TypeIs (.ref e) cls)(bA:dF (cZ W.w) dh D=some none)(ak:iD D=some (.type T))(h1:oe T (.type "BaseException")=some true)(aA:oe ((Fc T).elim "type" λam=>am.metatype) (.type "tuple")=some false)(bn:oe cls (.type T)=some false)(k:az W.M I (tO (.ref e) env aJ) ai aj C)(hk:autoParam (env.kindOf D=some .globalImplicit) tR)(a_:autoParam (D≠"__name__") tD)(hd:autoParam ((D==("__debug__":ay))=false) tD):az W.M I (tO (.ref e) env (.ExceptHandler (some (.Name D I')) (some Y) (W7::af2) al::aJ)) ai aj C:=by
 refine U2 (X:=cls) (T:=T) (b:=false) (vJ h1) (vJ aA) (vJ bn) (ly G hk bA ak ⟨rfl,dI,?_⟩ a_ hd)
 refine H (if_neg (by decide)) ?_
 exact k
set_option maxHeartbeats 1000000 in
theorem MV{l0:List bB}{e t:ah}{base:bo}{args:List an}{cls T c9:String}{D aX:ay}{o1 aw:ay}{I' al cB cY eM eP nZ lA o4 n0:bp}{k1 k2 dr:_}{aJ:List xZ}{cI:List (ah×bJ)}(ag:aP W env X ae M O Z av C)(b2:env.frame=some env.locals)(kN:∀b∈dx l0,b∈X/\b∈Z/\M.lookup b=none)(uF:sn (env::l0) C)(ajn:aG.heap.FunFrames (dJ C.heap (dx (env::l0))) (env::l0))(bG:aP W env X ae M cI Z av aG)(m2:K_ (dJ C.heap (dx (env::l0))) (env::l0) e (.type cls) (.ref t) aG.heap)(cp:aG.heap.TupAt t args)(abu:C.heap.UpToSlots aG.heap)(same:∃B bg,aG={C with heap:=B,toks:=bg})(gq:∀a N,cI.lookup a=some N->O.lookup a=some N/\a∉dx l0)(LU:ExcStrFacts cls c9)(ZU:(∃bq,args=[.str o1 bq])\/(args=[]/\o1=Fi))(be:I.units+10<c7)(iW:ae.lookup ("text":ay)=some (.str aw))(bA:dF (cZ W.w) dh D=some none)(ak:iD D=some (.type T))(h1:oe T (.type "BaseException")=some true)(aA:oe ((Fc T).elim "type" λam=>am.metatype) (.type "tuple")=some false)(bn:oe cls (.type T)=some true)(q:∀v s',aP W env X [] M cI Z av s'->aC (a0 X s') v (.tuple [oD aX o1,.str aw])->(∀b,b≠env.locals->∀N,C.heap.get? b=some N->(∀af,N.data≠ .fields af)->∃ct,s'.heap.get? b=some {N with slots:=ct})->ai (.ret v) s')(hk:autoParam (env.kindOf D=some .globalImplicit) tR)(HO:autoParam (env.kindOf "error"=some .local) tR)(aaC:autoParam (env.kindOf "str"=some .globalImplicit) tR)(a_:autoParam (D≠"__name__") tD)(hd:autoParam ((D==("__debug__":ay))=false) tD):az W.M I (tO (.ref e) env (.ExceptHandler (some (.Name D I')) (some "error") [.Return (some (.Tuple [.Tuple [.Constant (.str aX) k1 cB,.Call (.Name "str" cY) [.Name "error" eM] [] eP] k2 nZ,.Name "text" lA] dr o4)) n0] al::aJ)) ai aj aG:=by
 have dI:aG.TypeIs (.ref e) cls:=let⟨dE,a6,aO⟩:=m2.there;⟨dE,a6,aO⟩
 refine U2 (X:=cls) (T:=T) (b:=true) (vJ h1) (vJ aA) (vJ bn) (ly bG.G hk bA ak ⟨rfl,dI,?_⟩ a_ hd)
 refine H (if_pos rfl) ?_
 refine lands_againW m2 λaA OF pg=>?_
 have up:=abu.trans pg
 have ae6:∃B bg,({aG with heap:=aA}:aq)={C with heap:=B,toks:=bg}:=by
  refine jF same λaF bg b9=>?_;clear same
  exact⟨aA,bg,by refine H b9 ?_;rfl⟩
 have bN:aP W env X ae M cI Z av {aG with heap:=aA}:=ag.MK b2 kN uF ae6 OF.1 up gq
 refine ahj OF.first λAg ek wP aaV OZ aaS=>?_
 refine l6 (cp.of_slots pg) λadA adn O0 abm Pf=>?_
 refine bH bN.ns λkW wN=>?_
 have N5:∀a ab,M.lookup a=some ab->∀N,aA.get? a=some N->N.cls= .type "list":=λa ab e N a6=>by
  refine fW (bN.el a ab e) λ_ _ af bz _=>?_
  refine bH bz λY dB=>?_;clear bz
  have bm:aA.get? a=_:=dB
  rw[bm]at a6
  cases a6
  rfl
 have aad:e≠env.locals:=λau=>by
  refine oa wN λN b9 f2 a8 bm _=>?_;clear wN
  rw[<-au]at a8
  have e3:aA.get? e=some N:=a8
  rw[wP]at e3
  cases e3
  rw[OZ]at bm
  cases bm
 have abk:t≠env.locals:=λau=>by
  refine oa wN λN b9 f2 a8 bm _=>?_;clear wN
  rw[<-au]at a8
  have e3:aA.get? t=some N:=a8
  rw[O0]at e3
  cases e3
  rw[Pf]at bm
  cases bm
 have g6:(env.scope.kind== .class ||(env.scope.kind== .module &&env.locals !=env.globals))=false:=xc bN.G.kind
 refine yj HO wN (λbn HY k5=>?_) g6
 have JL:mJ env.locals aA bn:=k5
 have aaa:bn.ExcAt e cls (.ref t):=⟨Ag,ek,JL.extBut _ _ aad wP,aaV,OZ,aaS⟩
 have abi:bn.TupAt t args:=⟨adA,adn,JL.extBut _ _ abk O0,abm,Pf⟩
 refine jl (bN.G.vars _ _ iW) λDT AR n3 Wz=>?_
 have bR:aP W env X [] M cI Z av {aG with heap:=bn,toks:=aG.toks+1}:=bN.forget HY k5
 have sR:env.locals∉X:=bN.iZ
 have Vg:fQ W env [("error",.adr e),("text",.str aw)] (a0 X {aG with heap:=bn,toks:=aG.toks+1}):=by
  refine⟨bR.G.base,bR.G.kind,bR.G.globals,bR.G.builtins,λam d rG=>?_⟩
  rw[c1]at rG
  cases bZ:am==("error":ay)with
  |true=>
   rw[bZ]at rG
   cases rG
   have:=(eq_of_beq bZ).symm
   subst this
   exact⟨by decide,.ref e,.adr e,.loc HO (m' HY sR) (by simp)⟩
  |false=>
   rw[bZ]at rG
   rw[c1]at rG
   cases Ip:am==("text":ay)with
   |false=>rw[Ip]at rG;cases rG
   |true=>
    rw[Ip]at rG
    cases rG
    have:=(eq_of_beq Ip).symm
    subst this
    refine⟨by decide,AR,aC.flat n3 rfl,?_⟩
    cases Wz with
    |loc a Y V=>
     have aI:=DA (Y.keeps (h':=aA) cP) wN
     subst aI
     refine .loc a (m' HY sR) ?_
     refine H (if_neg (by decide)) ?_
     exact V
    |cell a V _=>rw[bN.cells]at V;cases V
    |free a V _ _=>rw[bN.cells]at V;cases V
 refine eH (tV (GP (GP (FD ?_))))
 have fF:cS {aG with heap:=bn,toks:=aG.toks+1} {aG with heap:=bn,toks:=aG.toks+1+1}:=⟨bn,_,rfl,λ_ _ e=>e⟩
 generalize zK:({aG with heap:=bn,toks:=aG.toks+1+1}:aq)=c3 at fF
 have aab:c3.heap.ExcAt e cls (.ref t):=by refine b' zK ?_;exact aaa
 have abj:c3.heap.TupAt t args:=by refine b' zK ?_;exact abi
 have cc:=bR.keeps fF
 have ym:=Vg.mono (cg fF)
 show az _ _ (b1 (.Call (.Name "str" cY) [.Name "error" eM] [] eP) env) _ _ c3
 show az _ _ (b1 (.Name "str" cY) env>>=λv=>fH eP v [] (fk eP (eV [.Name "error" eM] env)) (j_ eP (j' [] env))) _ _ _
 refine aM (ly ym aaC (Gg _) Gj ?_)
 show az _ _ (fH eP (.type "str") [] (fk eP (eV [.Name "error" eM] env)) []) _ _ _
 refine H ((h8 rfl) _) ?_
 refine jQ (λ_ e=>nomatch e) rfl (k' (g0 (((aW (I:=I.mark (some (.ref e))) (d:=.adr e) rfl).on X c3 cc.c6 ym).go _ _ λajJ dW jX n4=>jJ ?_)))
 refine aC.eD n4 ?_
 have Ox:dW.heap.ExcAt e cls (.ref t):=let⟨N,af,a,r⟩:=aab;⟨N,af,ed jX _ _ a,r⟩
 have Pa:dW.heap.TupAt t args:=abj.keeps (ed jX)
 have cy:=cc.keeps jX
 have LV:=ym.mono (cg jX)
 have PS:cS {aG with heap:=bn,toks:=aG.toks+1} dW:=b5 fF jX
 have Ei:∀b,b≠env.locals->∀N,C.heap.get? b=some N->(∀af,N.data≠ .fields af)->∃ct,dW.heap.get? b=some {N with slots:=ct}:=λb qI N ii a_=>by
  refine bH (up b N ii a_) λct bm=>?_
  exact⟨ct,ed PS _ _ (JL.extBut _ _ qI bm)⟩
 have ck:∀v hP,aP W env X [] M cI Z av hP->aC (a0 X hP) v (.tuple [oD aX o1,.str aw])->cS dW hP->az W.M I (do bindName env "error" .none;unbindBehindTheSuite env "error" al) (λ_ pa=>ai (.ret v) pa) aj hP:=λv hP fm lB nW=>by
  refine bH fm.ns λajC OX=>?_
  refine wpAny_nameGoes HO OX g6 λaD bS aaR JJ=>?_
  exact q v _ (fm.forget aaR JJ) (vd lB JJ (u_ OX)) λb qI N ii a_=>by
   refine bH (Ei b qI N ii a_) λct bm=>?_
   exact⟨ct,JJ.extBut _ _ qI (ed nW _ _ bm)⟩
 rcases ZU with⟨bq,rfl⟩|⟨rfl,rfl⟩
 .refine P.str_of_exc_one LU (by show I.units+2<c7;exact aL [_,_] 10473702850333578241 rfl be) Ox Pa ?_
  exact Rg cy LV λv hP fm lB nW=>ck v hP fm lB nW
 .refine P.str_of_exc_none LU (by show I.units+2<c7;exact aL [_,_] 10473702850333578241 rfl be) Ox Pa ?_
  exact Rg (cy.keeps (ey dW _)) (LV.mono (cg (ey dW _))) λv hP fm lB nW=>ck v hP fm lB (b5 (ey dW _) nW)
end
section
variable{W:bj}{I:br}{X:List ah}{C:aq}
set_option tactic.hygienic true in
theorem ahQ{v:an}{ab:List ax}{j7:xS}{lt:Nat->Nat->Bool}(aK:c0 X C)(r:aC (a0 X C) v (.list ab))(iT:ab.length<64)(g6:∀(af:List an)(s':aq)(ai:xS->aq->Prop)(aj:an->aq->Prop),cS C s'->a3 (a0 X C) af ab->2<=ab.length->ai j7 s'->az W.M I.in1.in1 (K0 af.toArray) ai aj s')(zo:∀(af:List an) L aB (aX:Bool->aq->Prop)(s':aq),cS C s'->a3 (a0 X C) af ab->L<ab.length->aB<ab.length->(∀dz,cS s' dz->aX (lt L aB) dz)->az W.M I.in1.in1 (K1 j7 (af.getD L gB) (af.getD aB gB)) aX (λ_ _=>False) s'):∀(ai:an->aq->Prop)(aj:an->aq->Prop),(∀F s' ee,cS C s'->C.heap.get? F=none->s'.heap.PlainList F ee->a3 (a0 X s') ee.toList (qW lt .none ab)->ai (.ref F) s')->az W.M I (df (.builtin "sorted") [v]) ai aj C:=λai aj q=>by
 refine aC.gD r λ_ _ l aV=>?_
 rename_i g5 af
 obtain⟨ew⟩:=af
 have aN:=(cP.plain l).isList
 have bW:ew.length=ab.length:=aV.length
 have oK:C.heap.get? (C.heap.objs.size+1)=none:=iC (pq _)
 refine RC (af:=ew) aN (by exact bX [_,_] 2823793581289323372865 rfl bW iT) λaD hk a_ a6=>?_
 have k1:cS C {C with heap:=aD}:=⟨aD,C.toks,rfl,hk⟩
 have sT:C.heap.objs.size+1∉X:=je aK a_
 have ck:∀(s':aq)(V:Nat)(out:List an)(uk:List ax),cC [C.heap.objs.size+1] {C with heap:=aD} s'->s'.heap.get? (C.heap.objs.size+1)=some (f4 "list" out.toArray V)->a3 (a0 X C) out uk->uk=qW lt .none ab->ai (.ref (C.heap.objs.size+1)) s':=by
  intro s' V out uk c2 e JA hd
  have er:cS C s':=c2.keeps k1 λb ak=>by simp at ak;subst ak;exact a_
  subst hd
  exact q _ s' _ er oK ⟨V,e⟩ (by simpa using JA.mono (cg er))
 by_cases aA:ab.length<2
 .refine RB (C:={C with heap:=aD}) a6 (by exact bX [_,_] 11029897478385307969 rfl bW aA) λs' V c2 e=>⟨_,rfl,ck s' V ew ab c2 e aV (by unfold qW;rw[if_pos aA])⟩
 .refine RA (C:={C with heap:=aD}) (lt:=lt) (j7:=j7) a6 (by exact bX [_,_] 10886644028252889360 rfl bW (fv.mp aA)) (by exact bX [_,_] 2823793581289323372865 rfl bW iT) (λs' lR hJ ba=>?_) (λL aB aX s' aU bL hJ gx=>?_) λs' V c2 e=>⟨_,rfl,?_⟩
  .exact g6 ew s' lR aj (hJ.keeps k1 λb ak=>by simp at ak;subst ak;exact a_) aV (by exact aL [_] 159712939352336 rfl (fv.mp aA)) ba
  .exact zo ew L aB aX s' (hJ.keeps k1 λb ak=>by simp at ak;subst ak;exact a_) aV (by exact bX [_,_,_] 168317124089153 rfl aU bW) (by exact bX [_,_,_] 168317124089153 rfl bL bW) gx
  .refine ck s' V _ _ c2 e (Jz aV _) ?_
   unfold qW
   rw[if_neg aA,bW]
theorem ahT{v:an}{bi:List aZ}(aK:c0 X C)(r:aC (a0 X C) v (.list (bi.map λa=>cX (cq a))))(iT:bi.length<64)(a_:bi.Nodup)(be:I.units+9<c7):∀(ai:an->aq->Prop)(aj:an->aq->Prop),(∀F s' ee,cS C s'->C.heap.get? F=none->s'.heap.PlainList F ee->a3 (a0 X s') ee.toList ((b3 id bi).map λa=>cX (cq a))->ai (.ref F) s')->az W.M I (df (.builtin "sorted") [v]) ai aj C:=by
 have hk:∀a:aZ,fM (cX (cq a))=id a:=λa=>rfl
 have e:((bi.map λa=>cX (cq a)).map fM)=bi:=by
  refine H dY ?_
  conv=>rhs;rw[<-kC bi]
  exact gZ λa _=>hk a
 refine b' ((D5 (u1:=fM) (g:=λa=>cX (cq a)) id hk) _) ?_;refine b' (Jh (by rw[e];exact a_)) ?_
 refine ahQ (j7:=tuples' (oi "str" !=oi "tuple")) aK r (by simpa using iT) (λaf s' ai aj k aV aA ba=>?_) (λaf L aB aX s' k aV aU bL gx=>?_)
 .have dP:∀(bi:List aZ)(af:List an),a3 (a0 X C) af (bi.map λa=>cX (cq a))->∃gg,KatTups s'.heap af gg/\gg.length=af.length/\∀v∈gg,Looks W.M s'.heap (np v) (oi "str"):=by
   intro bi
   induction bi with
   |nil=>intro af aV;cases aV;exact⟨[],ai8,rfl,λ_ B=>nomatch B⟩
   |cons a bi bf=>
    intro af aV
    refine a3.eC aV λ_ _ aT rs=>?_
    refine iA (bf _ rs) λgg t aN dI=>?_
    have aT:=aT.mono ((cg k).trans cP)
    refine aC.eT2 aT λ_ _ _ zS q1 fV=>?_;obtain⟨N,a6,aO,Y,hd⟩:=zS
    obtain⟨_,rfl⟩:=q1.ofStr
    refine⟨_::gg,ai7 a6 aO hd rfl t,by simp[aN],λv bA=>?_⟩
    rcases s3 bA with rfl|bA
    .exact Ut rfl
    .exact dI v bA
  refine iA (dP bi af aV) λgg t aN dI=>?_
  have:=aV.length
  exact kat_kind t (by simp at aA this;exact j1 [_,_,_] 35290225352141138051089 rfl aA this aN) dI (by decide) ba
 .have aT:=(ut aV L).mono ((cg k).trans cP)
  have bb:=(ut aV aB).mono ((cg k).trans cP)
  obtain⟨a,ha⟩:∃a,(bi.map λa=>cX (cq a)).getD L .none=cX (cq a):=⟨bi[L]'(by simpa using aU),by simp[i2,hT (show L<bi.length by simpa using aU)]⟩
  obtain⟨b,ak⟩:∃b,(bi.map λa=>cX (cq a)).getD aB .none=cX (cq b):=⟨bi[aB]'(by simpa using bL),by simp[i2,hT (show aB<bi.length by simpa using bL)]⟩
  rw[ha]at aT
  rw[ak]at bb
  have ck:=gx s' (gb _)
  rw[ha,ak]at ck
  have a8:da (cX (cq a)) (cX (cq b))=decide (a<b):=by unfold da;refine H (hk _) ?_;refine H (hk _) ?_;rfl
  rw[a8]at ck
  generalize af.getD L gB=bx at aT ⊢
  generalize af.getD aB gB=bE at bb ⊢
  refine aC.eT2 aT λD ajK ajL zS cB cY=>?_;obtain⟨ajD,aaX,_,Y,mq⟩:=zS
  refine aC.eT2 bb λam ajM ajN zS q1 fV=>?_;obtain⟨ajE,aaY,_,m,mr⟩:=zS
  obtain⟨_,rfl⟩:=cB.ofStr
  obtain⟨_,rfl⟩:=q1.ofStr
  refine kat_lt aaX mq aaY mr ?_
  refine kat_cons (eqBool_str ?_)
  by_cases e:a=b
  .subst e
   refine H (show(bh (cq a).1==bh (cq a).1)=true by simp) ?_
   refine kat_yes (kat_cons ?_)
   refine Nf (DS a.length) cY fV ?_ W.prog W.w _ _ (kat_yes (kat_nil ?_))
   .simp only[E6];exact aL [_,_] 2811437642773504761112297473 rfl be
   .rw[show decide (a<a)=false by simp]at ck
    exact ck
  .refine H (show(bh (cq a).1==bh (cq b).1)=false by simp[cq,e]) ?_
   refine kat_no (QE ?_)
   refine H (show decide ((bh (cq a).1).cps.toList<(bh (cq b).1).cps.toList)=decide (a<b)from decide_eq_decide.mpr (by simp[cq])) ?_
   exact ck
theorem Wj{a b:ah}{af ek:Array an}{ai:an->aq->Prop}{aj:an->aq->Prop}(b_:C.heap.PlainList a af)(b4:C.heap.PlainList b ek)(aH:af.size+ek.size<=bc)(q:ai (.ref C.heap.objs.size) {C with heap:=C.heap.push {cls:=.type "list",data:=.seq (af++ek)}}):az W.M I (l9 .Add (.ref a) (.ref b)) ai aj C:=by
 refine bH b_ λY a6=>?_;clear b_
 refine bH b4 λdD nO=>?_;clear b4
 have t1:C.TypeIs (.ref a) "list":=⟨_,a6,rfl⟩
 have eE:C.TypeIs (.ref b) "list":=⟨_,nO,rfl⟩
 exact UE (T:="list") t1 eE UM UP T9 T8 (T6 _ _) (list_addW a b af ek Y dD none none #[] #[] (by refine H RU ?_;exact aH)) ⟨a6,nO,q⟩
end
theorem FP:nu (.tup .str) (λd=>∃D,e8 D/\d=cX (cq D)) where
 keyed:=λd hd=>by
  refine cm hd λD g di=>?_;clear hd;subst di
  exact .tup (.str g.ok) (.cons (.str g.ok) (.cons (DS _) .nil))
 inj:=λd bO hd b7 e=>by
  refine cm hd λD g di=>?_;clear hd;subst di
  refine cm b7 λam YG di=>?_;clear b7;subst di
  have:D=am:=e
  subst this
  rfl
noncomputable abbrev dy(J:ah×List aZ):ax:=.cf J.1 (bM J.2)
theorem BG{a7:List (ah×List aZ)}(B:cl (a7.map (·.2))):nu (.lst (.tup .str)) (λd=>∃J∈a7,d=dy J) where
 keyed:=λd hd=>by
  refine cm hd λJ aF di=>?_;clear hd;subst di
  have aE:J.2∈a7.map (·.2):=eT aF
  have cx:=B.ne _ aE
  obtain⟨a,r⟩:=J
  cases r with
  |nil=>exact absurd rfl cx
  |cons D r=>
   have b2:hE 1 (bM (D::r)):=hE.of λd hd=>by
    refine dQ hd λam bZ=>?_
    exact y_ (B.gV aE bZ)
   have qF:=B.gV aE (.head _)
   exact .lst (.tup (.str qF.ok) (.cons (.str qF.ok) (.cons (DS _) .nil))) b2
 inj:=λd bO hd b7 e=>by
  refine cm hd λJ aF di=>?_;clear hd;subst di
  refine cm b7 λq ba di=>?_;clear b7;subst di
  have a8:∀J∈a7,fM (dy J)=hd J.2:=λJ aF=>by
   have cx:=B.ne J.2 (eT aF)
   obtain⟨a,r⟩:=J
   cases r with
   |nil=>exact absurd rfl cx
   |cons D r=>rfl
  rw[a8 J aF,a8 q ba]at e
  obtain⟨L,aU,rfl⟩:=vz aF
  obtain⟨aB,bL,rfl⟩:=vz ba
  have:=(EA (h₀:=by simpa using aU) (h₁:=by simpa using bL) B.heads (i:=L) (j:=aB)).mp (by simpa using e)
  subst this
  rfl
theorem ss:lj da where
 trans:=λa b V h1 aA=>by
  simp only[da,decide_eq_false_iff_not]at *
  exact po.mpr (S1 (po.mp h1) (po.mp aA))
 asymm:=λa b B=>by
  simp only[da,decide_eq_true_eq,decide_eq_false_iff_not]at *
  exact EE B
end Mine.Tactic
namespace Mine.Tactic
open PySem
theorem IC{a4 d9:Type}{lt:d9->d9->Bool}{lt':a4->a4->Bool}{ao:a4->d9}(b2:∀a b,lt (ao a) (ao b)=lt' a b){l:List a4}:gp lt (l.map ao)↔gp lt' l:=by
 constructor
 .intro B L aU aQ
  have:=B L (by simpa using aU) aQ
  simpa[b2]using this
 .intro B L aU aQ
  have:=B L (by simpa using aU) aQ
  simpa[b2]using this
theorem Di(D:aZ):fM (cX (cq D))=D:=rfl
theorem Dh(J:ah×List aZ):fM (dy J)=hd J.2:=by
 obtain⟨a,r⟩:=J
 cases r with
 |nil=>rfl
 |cons D r=>rfl
theorem zt{r:List aZ}:gp da (bM r)↔e9 r:=IC λa b=>by unfold da;refine H (Di _) ?_;refine H (Di _) ?_;rfl
theorem sK{ap:List (ah×List aZ)}:gp da (ap.map dy)↔e9 ((ap.map (·.2)).map hd):=by
 refine H dY ?_
 have h1:gp da (ap.map dy)↔gp (λa b:ah×List aZ=>decide (hd a.2<hd b.2)) ap:=IC λa b=>by unfold da;refine H (Dh _) ?_;refine H (Dh _) ?_;rfl
 have aA:e9 (ap.map (hd∘λD=>D.2))↔gp (λa b:ah×List aZ=>decide (hd a.2<hd b.2)) ap:=IC λa b=>rfl
 refine H (propext h1) ?_;refine H (propext aA) ?_;rfl
theorem Wf:lj (λa b:aZ=>decide (a<b)) where
 trans:=λa b V h1 aA=>by
  simp only[decide_eq_false_iff_not]at *
  exact po.mpr (S1 (po.mp h1) (po.mp aA))
 asymm:=λa b B=>by
  simp only[decide_eq_true_eq,decide_eq_false_iff_not]at *
  exact EE B
theorem Oy{a:aZ}{r:List aZ}(B:e9 (a::r)):∀am∈a::r,¬am<a:=λam bZ=>of_decide_eq_false (CD Wf B am bZ)
theorem Qo{a b:aZ}(B:¬b<a)(cx:b≠a):a<b:=by
 rcases Kj (a<b)with q|q
 .exact q
 .exact absurd (KA (po.mp q) (po.mp B)) cx
theorem JS{m:aZ}{dM l:List aZ}(J:(m::dM).Perm l)(a_:l.Nodup)(aI:∀am∈dM,¬am<m):b3 id l=m::b3 id dM:=by
 have pW:=d'.mp (J.nodup_iff.mpr a_)
 have q:=gy id dM
 refine JR id ((q.cons m).trans J) (se.mpr ⟨λau aH=>?_,xp id (by simpa using pW.2)⟩)
 have hw:=q.mem_iff.mp aH
 exact Qo (aI au hw) λe=>pW.1 (by have dB:au=m:=e;exact dB▸hw)
theorem RF{r:List aZ}(B:e9 r)(a_:r.Nodup):hd (b3 id r)=hd r:=by
 cases r with
 |nil=>rfl
 |cons a r=>refine H (JS (.refl _) a_ λam bZ=>Oy B am (.tail _ bZ)) ?_;rfl
theorem canon_of{ar K:List (List aZ)}(J:ar.Perm (K.map (b3 id)))(bt:cl K):b3 hd ar=canon K:=
 AG hd J ((J.map hd).nodup_iff.mpr bt.sorted.heads)
theorem uh(K:List (List aZ)):(canon K).Perm (K.map (b3 id)):=gy hd _
theorem Xs{K K':List (List aZ)}(J:K.Perm K')(bt:cl K):canon K=canon K':=AG hd (J.map _) bt.sorted.heads
theorem Xt{gd:List aZ}{aJ ap:List (List aZ)}(J:(gd::aJ).Perm ap)(bt:cl ap)(aI:∀q∈aJ,¬hd q<hd gd)(cE:∀r∈ap,e9 r):canon ap=b3 id gd::canon aJ:=by
 have AJ:cl (gd::aJ):=bt.perm J.flatten λr aE=>bt.ne r (J.mem_iff.mp aE)
 have qJ:∀r∈gd::aJ,r∈ap:=λr aE=>J.mem_iff.mp aE
 have abe:cl aJ:=AJ.part (l:=gd) (by refine H jH ?_;exact pp) λr aE=>AJ.ne r (.tail _ aE)
 refine JR hd (((uh aJ).cons _).trans (by simpa using J.map (b3 id))) (se.mpr ⟨λau aH=>?_,xp hd abe.sorted.heads⟩)
 refine dQ ((uh aJ).mem_iff.mp aH) λq ba=>?_
 refine H (RF (cE gd (qJ _ (.head _))) (AJ.te (.head _))) ?_;refine H (RF (cE q (qJ _ (.tail _ ba))) (AJ.te (.tail _ ba))) ?_
 refine Qo (aI q ba) λe=>?_
 have:=AJ.heads
 rw[ef,d']at this
 exact this.1 (e▸eT ba)
theorem RE(D:aZ):b3 id [D]=[D]:=rfl
theorem XU{ap cV:List (List aZ)}{name:aZ}(J:cV.Perm ([name]::ap))(bt:cl cV):ig 0 (canon ap) name=canon cV:=by
 show b3 hd (canon ap++[[name]])=_
 refine canon_of ?_ bt
 refine((uh ap).append_right _).trans ?_
 have:=J.map (b3 id)
 rw[ef,RE]at this
 exact(pp.trans (by simp)).trans this.symm
section
variable{ap aJ:List (List aZ)}{gd:List aZ}{name:aZ}
theorem y2{cr:List aZ}{aJ:List (List aZ)}(k:Nat)(fq:k≠5)(aQ:k≠0):ig k (cr::aJ) name=if k=1 then b3 hd (aJ++[cr.tail].filter λr=> !r.isEmpty)else if k=2 then b3 hd (aJ++[[name]])else if k=3 then b3 hd (aJ.drop 1++[b3 id (cr++(aJ.take 1).flatten)])else b3 hd (aJ++[(b3 id (cr++[name])).tail]):=by
 unfold ig
 refine H (if_neg fq) ?_;refine H (if_neg aQ) ?_;rfl
theorem AN{cr:List aZ}{aJ:List (List aZ)}(k:Nat)(fq:k≠5)(aQ:k≠0):i9 k (cr::aJ) name=if k=1 then .list [cX (cq (hd cr))]else if k=2 then .list (cr.map λD=>cX (cq D))else if k=3 then .list [.none,.none]else .list [cX (cq (hd (b3 id (cr++[name]))))]:=by
 unfold i9
 refine H (if_neg fq) ?_;refine H (if_neg aQ) ?_;rfl
theorem M_{m:aZ}{qb:List aZ}{cV:List (List aZ)}(aO:canon ap=b3 id gd::canon aJ)(a9:b3 id gd=m::b3 id qb)(J:cV.Perm (aJ++[qb].filter λr=> !r.isEmpty))(bt:cl cV):ig 1 (canon ap) name=canon cV/\i9 1 (canon ap) name= .list [cX (cq m)]:=by
 refine H aO ?_;refine H a9 ?_;refine H (y2 1 (by decide) (by decide)) ?_;refine H (AN 1 (by decide) (by decide)) ?_
 refine⟨?_,rfl⟩
 refine H (if_pos rfl) ?_
 refine canon_of ?_ bt
 refine((uh aJ).append_right _).trans ?_
 have B:=(J.map (b3 id)).symm
 rw[gA]at B
 have e:([qb].filter λr=> !r.isEmpty).map (b3 id)=[(m::b3 id qb).tail].filter λr=> !r.isEmpty:=by
  cases qb with
  |nil=>rfl
  |cons D r=>
   have cx:=D6 (r:=D::r) (by simp)
   simp only[List.tail_cons,qm,List.filter_nil]
   cases ba:b3 id (D::r)with
   |nil=>exact absurd ba cx
   |cons am q=>simp[ba]
 rw[e]at B
 exact B
theorem XV{cV:List (List aZ)}(aO:canon ap=b3 id gd::canon aJ)(J:cV.Perm ([name]::aJ))(bt:cl cV):ig 2 (canon ap) name=canon cV/\i9 2 (canon ap) name= .list (bM (b3 id gd)):=by
 refine H aO ?_;refine H (y2 2 (by decide) (by decide)) ?_;refine H (AN 2 (by decide) (by decide)) ?_
 refine⟨?_,rfl⟩
 refine H (if_neg (by decide)) ?_;refine H (if_pos rfl) ?_
 refine canon_of ?_ bt
 refine((uh aJ).append_right _).trans ?_
 have:=J.map (b3 id)
 rw[ef,RE]at this
 exact(pp.trans (by simp)).trans this.symm
theorem XW{cV:List (List aZ)}{iR:List aZ}(aO:canon ap=[b3 id gd])(ak:iR.Perm gd)(a_:gd.Nodup)(J:cV.Perm [iR])(bt:cl cV):ig 3 (canon ap) name=canon cV/\i9 3 (canon ap) name= .list [.none,.none]:=by
 refine H aO ?_;refine H (y2 3 (by decide) (by decide)) ?_;refine H (AN 3 (by decide) (by decide)) ?_
 refine⟨?_,rfl⟩
 refine H (if_neg (by decide)) ?_;refine H (if_neg (by decide)) ?_;refine H (if_pos rfl) ?_
 refine canon_of ?_ bt
 have e:b3 id (b3 id gd++(([]:List (List aZ)).take 1).flatten)=b3 id iR:=by
  have q:(b3 id gd++(([]:List (List aZ)).take 1).flatten).Perm iR:=by
   simp
   exact(gy id gd).trans ak.symm
  exact AG id q (by simpa using q.nodup_iff.mpr (ak.nodup_iff.mpr a_))
 refine H e ?_
 exact(J.map (b3 id)).symm
theorem XX{cV Aw:List (List aZ)}{iR cB:List aZ}(aO:canon ap=b3 id gd::b3 id cB::canon Aw)(ak:iR.Perm (gd++cB))(a_:(gd++cB).Nodup)(J:cV.Perm (iR::Aw))(bt:cl cV):ig 3 (canon ap) name=canon cV/\i9 3 (canon ap) name= .list [.none,.none]:=by
 refine H aO ?_;refine H (y2 3 (by decide) (by decide)) ?_;refine H (AN 3 (by decide) (by decide)) ?_
 refine⟨?_,rfl⟩
 refine H (if_neg (by decide)) ?_;refine H (if_neg (by decide)) ?_;refine H (if_pos rfl) ?_
 refine canon_of ?_ bt
 have e:b3 id (b3 id gd++((b3 id cB::canon Aw).take 1).flatten)=b3 id iR:=by
  have q:(b3 id gd++((b3 id cB::canon Aw).take 1).flatten).Perm iR:=by
   simp
   exact((gy id gd).append (gy id cB)).trans ak.symm
  exact AG id q (by simpa using q.nodup_iff.mpr (ak.nodup_iff.mpr a_))
 refine H e ?_
 refine(((uh Aw).append_right _)).trans ?_
 have:=J.map (b3 id)
 rw[ef]at this
 exact(pp.trans (by simp)).trans this.symm
theorem XY{m:aZ}{qb:List aZ}{cV:List (List aZ)}(aO:canon ap=b3 id gd::canon aJ)(ak:(m::qb).Perm (name::gd))(a_:(name::gd).Nodup)(aI:∀am∈qb,¬am<m)(J:cV.Perm (qb::aJ))(bt:cl cV):ig 4 (canon ap) name=canon cV/\i9 4 (canon ap) name= .list [cX (cq m)]:=by
 have e:b3 id (b3 id gd++[name])=m::b3 id qb:=by
  have q:(b3 id gd++[name]).Perm (m::qb):=((gy id gd).append_right _).trans (pp.trans (by simpa using ak.symm))
  refine H (JS q.symm (q.nodup_iff.mpr (ak.nodup_iff.mpr a_)) aI) ?_;rfl
 refine H aO ?_;refine H (y2 4 (by decide) (by decide)) ?_;refine H (AN 4 (by decide) (by decide)) ?_;refine H e ?_
 refine⟨?_,rfl⟩
 refine H (if_neg (by decide)) ?_;refine H (if_neg (by decide)) ?_;refine H (if_neg (by decide)) ?_
 refine canon_of ?_ bt
 refine(((uh aJ).append_right _)).trans ?_
 have:=J.map (b3 id)
 rw[ef]at this
 exact(pp.trans (by simp)).trans this.symm
end
theorem aa8{a4:Type}{lt:a4->a4->Bool}(O:lj lt){a D:a4}{r:List a4}(B:gp lt (a::r)):gp lt (gX lt (a::r) D).2/\((gX lt (a::r) D).1::(gX lt (a::r) D).2).Perm (D::a::r)/\∀am∈(gX lt (a::r) D).2,lt am (gX lt (a::r) D).1=false:=by
 have e:gX lt (a::r) D=if lt a D then(a,mF lt (D::r) 0 D)else(D,a::r):=rfl
 cases cM:lt a D with
 |true=>
  refine H e ?_;refine H cM ?_;refine H (if_pos rfl) ?_
  refine d8 (O7 O (D:=D) B) λh1 aA=>?_
  have pR:gp lt (mF lt (D::r) 0 D):=h1
  have wA:(mF lt (D::r) 0 D).Perm (D::r):=aA
  refine⟨pR,(wA.cons a).trans (Ks D a r),λam bZ=>?_⟩
  rcases dw.mp (wA.mem_iff.mp bZ)with rfl|bZ
  .exact O.asymm _ _ cM
  .exact CD O B am (.tail _ bZ)
 |false=>
  refine H e ?_;refine H cM ?_;refine H (if_neg (by decide)) ?_
  refine⟨B,.refl _,λam bZ=>?_⟩
  exact O.trans D a am cM (CD O B am bZ)
end Mine.Tactic
namespace Mine.Tactic
noncomputable def cw(ap:List (ah×List aZ)):List ax:=ap.map λJ=>.adr J.1
noncomputable def db(ap:List (ah×List aZ)):ce:=ap.map λJ=>(J.1,bM J.2)
structure gC (M:ce) (aa:ah) (ap:List (ah×List aZ)):Prop where
 items:M.lookup aa=some (cw ap)
 rows:∀J∈ap,M.lookup J.1=some (bM J.2)
 m9:(aa::ap.map (·.1)).Nodup
noncomputable def AP:ax->ah×List aZ
 | .cf a ab=>(a,ab.map q5)
 |_=>(0,[])
theorem Ef(J:ah×List aZ):AP (dy J)=J:=by
 obtain⟨a,r⟩:=J
 show(a,((bM r).map q5))=(a,r)
 congr 1
 refine H dY ?_
 conv=>rhs;rw[<-kC r]
 exact gZ λD _=>vq D
theorem DF{ab:List ax}{m:List (ah×List aZ)}(J:ab.Perm (m.map dy)):∃cV:List (ah×List aZ),ab=cV.map dy/\cV.Perm m:=by
 refine⟨ab.map AP,?_,?_⟩
 .refine H dY ?_
  conv=>lhs;rw[<-kC ab]
  refine gZ λd hd=>?_
  refine dQ (J.mem_iff.mp hd) λq _=>?_
  show dy q=dy (AP (dy q))
  refine H (Ef _) ?_;rfl
 .have:=J.map AP
  rw[dY]at this
  have e:m.map (AP∘dy)=m:=by
   conv=>rhs;rw[<-kC m]
   exact gZ λq _=>Ef q
  rwa[e]at this
theorem Ja{ab:List ax}{r:List aZ}(J:ab.Perm (bM r)):∃dM:List aZ,ab=bM dM/\dM.Perm r:=by
 refine⟨ab.map q5,?_,?_⟩
 .unfold bM
  refine H dY ?_
  conv=>lhs;rw[<-kC ab]
  refine gZ λd hd=>?_
  refine dQ (J.mem_iff.mp hd) λq _=>?_
  show cX (cq q)=cX (cq (q5 (cX (cq q))))
  refine H (vq _) ?_;rfl
 .have:=J.map q5
  rw[dY]at this
  have e:r.map (q5∘λD=>cX (cq D))=r:=by
   conv=>rhs;rw[<-kC r]
   exact gZ λq _=>vq q
  rwa[e]at this
theorem acr{J q:ah×List aZ}(e:dy J=dy q):J=q:=by refine b' (Ef J) ?_;refine H e ?_;refine H (Ef _) ?_;rfl
theorem adW{D am:aZ}(e:cX (cq D)=cX (cq am)):D=am:=by refine b' (vq D) ?_;refine H e ?_;refine H (vq _) ?_;rfl
theorem afe(ap:List (ah×List aZ)):(ap.map dy).map vm=cw ap:=by refine H dY ?_;rfl
section
variable{W:bj}{I:br}{env:bB}{X:List ah}{ae:bu}{M:ce}{O:List (ah×bJ)}{Z:List ah}{av C s':aq}{ai:an->aq->Prop}{aj:an->aq->Prop}{aa:ah}{ap ar:List (ah×List aZ)}
theorem JC(a_:(ar.map (·.1)).Nodup){J:ah×List aZ}(aF:J∈ar):(db ar).lookup J.1=some (bM J.2):=by
 have h1:((db ar).map (·.1)).Nodup:=by unfold db;refine H dY ?_;exact a_
 exact Af h1 (J:=(J.1,bM J.2)) (kD.mpr ⟨J,aF,rfl⟩)
theorem vg(cn:aa∉ar.map (·.1)):(db ar).lookup aa=none:=by
 unfold db
 induction ar with
 |nil=>rfl
 |cons J ar bf=>
  refine H ef ?_;refine H c1 ?_
  have h1:aa≠J.1:=λe=>cn (by simp[e])
  have:(aa==J.1)=false:=by simpa using h1
  refine H this ?_
  exact bf λB=>cn (.tail _ B)
theorem o'(B:∀J∈ar,M.lookup J.1=some (bM J.2)):∀J∈db ar,M.lookup J.1=some J.2:=λJ aF=>by
 refine dQ aF λq ba=>?_
 exact B q ba
theorem Gq(a_:(ar.map (·.1)).Nodup){J:ah×List aZ}(aF:J∈ar):ga (db ar) 1 (.adr J.1)=dy J:=by
 refine H (pP (JC a_ aF)) ?_
 show ax.cf J.1 ((bM J.2).map (ga (db ar) 0))=_
 have:(bM J.2).map (ga (db ar) 0)=bM J.2:=by
  conv=>rhs;rw[<-kC (bM J.2)]
  exact gZ λd _=>rfl
 refine H this ?_;rfl
theorem aP.CA(ag:aP W env X ae M O Z av C)(aU:M.lookup aa=some (cw ap))(aE:∀J∈ar,M.lookup J.1=some (bM J.2))(a_:(ar.map (·.1)).Nodup)(cn:aa∉ar.map (·.1))(a9:∀J∈ap,J∈ar):jN (iq X (db ar)) aa (ap.map dy) C:=by
 have B:=ag.ZV aU (o' aE) (vg cn) 1
 have e:(cw ap).map (ga (db ar) 1)=ap.map dy:=by
  unfold cw
  refine H dY ?_
  exact gZ λJ aF=>Gq a_ (a9 J aF)
 rwa[e]at B
theorem aP.Cc(ag:aP W env X ae M O Z av C)(aU:M.lookup aa=some (cw ap))(k:cC [aa] C s'){cV:List (ah×List aZ)}(B:jN (iq X (db ar)) aa (cV.map dy) s'):aP W env X ae ((aa,cw cV)::M) O Z av s':=by
 refine b' (afe _) ?_
 exact ag.Xr aU k B λd hd=>by
  refine dQ hd λJ _=>?_
  rfl
theorem gC.grow(T:gC M aa ap){cV:List (ah×List aZ)}(aE:∀J∈cV,M.lookup J.1=some (bM J.2))(a_:(aa::cV.map (·.1)).Nodup):gC ((aa,cw cV)::M) aa cV:=by
 refine⟨by simp,λJ aF=>?_,a_⟩
 have h1:J.1≠aa:=λe=>(d'.mp a_).1 (e▸eT aF)
 refine H c1 ?_
 have:(J.1==aa)=false:=by simpa using h1
 refine H this ?_
 exact aE J aF
noncomputable abbrev gY(ap:List (ah×List aZ)):Prop:=cl (ap.map (·.2))
theorem gY.of{a7 ca:List (ah×List aZ)}(B:gY a7)(J:ca.Perm a7):gY ca:=cl.perm B (J.map _).flatten λr aE=>B.ne r ((J.map _).mem_iff.mp aE)
theorem Ec{D:ah×List aZ}{af:List an}(ag:aP W env X ae M O Z av C)(T:gC M aa ap)(aS:M.lookup D.1=some (bM D.2))(zQ:D.1∉aa::ap.map (·.1))(bt:gY (D::ap))(aF:gp da (ap.map dy))(bd:I.handled=none)(bk:I.depth+3<d3)(be:I.units+20<c7)(aV:a3 (a0 X C) af [.adr aa,.adr D.1])(q:∀s' cV,cV.Perm (D::ap)->gp da (cV.map dy)->gC ((aa,cw cV)::M) aa cV->aP W env X ae ((aa,cw cV)::M) O Z av s'->ai .none s'):az W.M I (df (.ref 131) af) ai aj C:=by
 have cO:=T.m9
 have aE:∀J∈D::ap,M.lookup J.1=some (bM J.2):=λJ aF=>by
  refine d2 aF ?_ λaF=>?_
  .exact aS
  .exact T.rows J aF
 have a_:((D::ap).map (·.1)).Nodup:=by
  refine H ef ?_;refine H (propext d') ?_
  exact⟨λB=>zQ (.tail _ B),(d'.mp cO).2⟩
 have cn:aa∉(D::ap).map (·.1):=λB=>by
  rw[ef]at B
  rcases dw.mp B with B|B
  .exact zQ (B▸ .head _)
  .exact(d'.mp cO).1 B
 have bW:=bt.len
 refine W' (BG bt) (ab:=ap.map dy) (D:=dy D) bd (by exact aL [_,_] 10471732525495555073 rfl bk) (by show I.units+6+2<c7;exact aL [_,_] 10979873403491632922312705 rfl be) (ag.sub (o' aE)).jg (ag.G.base.mono (jZ oW)) (ag.CA T.items aE a_ cn λJ aF=>.tail _ aF) (λd hd=>?_) ⟨D,.head _,rfl⟩ ?_ ?_ λs' k B=>?_
 .refine dQ hd λJ aF=>?_
  exact⟨J,.tail _ aF,rfl⟩
 .simp at bW ⊢;exact aL [_] 653886248073048385 rfl bW
 .have B:=(ag.sub (o' aE)).yU 1 aV
  have e:([.adr aa,.adr D.1]:List ax).map (ga (db (D::ap)) 1)=[.adr aa,dy D]:=by
   show [_,_]=_
   refine H (Gq a_ (.head _)) ?_
   have:ga (db (D::ap)) 1 (.adr aa)= .adr aa:=by
    show(match(db (D::ap)).lookup aa with |some ab=>_|none=>_)=_
    refine H (vg cn) ?_;rfl
   refine H this ?_;rfl
  rwa[e]at B
 .refine d8 (aa9 ss (D:=dy D) aF) λh1 aA=>?_
  refine cm (DF (m:=D::ap) aA) λcV e J=>?_
  rw[e]at B h1
  have fN:=J.map (·.1)
  exact q s' cV J h1 (T.grow (λr kO=>aE r (J.mem_iff.mp kO)) (d'.mpr ⟨λB=>cn (fN.mem_iff.mp B),fN.nodup_iff.mpr a_⟩)) (ag.Cc T.items k B)
theorem NK{a4:Type}{l:List a4}(B:l≠[]):∃r D,l=r++[D]/\l.getLast? =some D/\l.dropLast=r:=⟨l.dropLast,l.getLast B,(List.dropLast_concat_getLast B).symm,List.getLast?_eq_some_getLast B,rfl⟩
theorem Eb{af:List an}(ag:aP W env X ae M O Z av C)(T:gC M aa ap)(cx:ap≠[])(bt:gY ap)(aF:gp da (ap.map dy))(bd:I.handled=none)(bk:I.depth+3<d3)(be:I.units+20<c7)(aV:a3 (a0 X C) af [.adr aa])(q:∀s' J cV,(J::cV).Perm ap->gp da (cV.map dy)->ap.head? =some J->gC ((aa,cw cV)::M) aa cV->aP W env X ae ((aa,cw cV)::M) O Z av s'->ai (.ref J.1) s'):az W.M I (df (.ref 138) af) ai aj C:=by
 have cO:=T.m9
 have a_:=(d'.mp cO).2
 have cn:=(d'.mp cO).1
 have bW:=bt.len
 refine l6 (NK (l:=ap.map dy) (by simpa using cx)) λr D a8 bm e3=>?_
 refine MQ (BG bt) (ab:=ap.map dy) (l:=D) bd (by exact aL [_,_] 10471732525496603649 rfl bk) (by show I.units+9+2<c7;exact aL [_,_] 10979873403491632972644353 rfl be) (ag.sub (o' T.rows)).jg (ag.G.base.mono (jZ oW)) (ag.CA T.items T.rows a_ cn λJ aF=>aF) (λd hd=>?_) bm ?_ ?_ λv s' k B ez=>?_
 .refine dQ hd λJ aF=>?_
  exact⟨J,aF,rfl⟩
 .simp at bW ⊢;exact aL [_] 653903840259092801 rfl bW
 .have B:=(ag.sub (o' T.rows)).yU 1 aV
  have e:([.adr aa]:List ax).map (ga (db ap) 1)=[.adr aa]:=by
   have:ga (db ap) 1 (.adr aa)= .adr aa:=by
    show(match(db ap).lookup aa with |some ab=>_|none=>_)=_
    refine H (vg cn) ?_;rfl
   show [_]=_
   refine H this ?_;rfl
  rwa[e]at B
 .rw[e3]at B ez
  rw[a8]at aF
  refine fb (O2 ss aF) λh1 aA bn=>?_
  rw[<-a8]at aA bn
  refine cm (DF (m:=ap) aA) λall gf eP=>?_
  cases all with
  |nil=>cases gf
  |cons J cV=>
   rw[ef,xK]at gf
   refine d8 gf λpQ y3=>?_;clear gf
   rw[y3]at B h1
   rw[pQ]at ez bn
   have fN:=eP.map (·.1)
   have pW:=fN.nodup_iff.mpr a_
   rw[ef,d']at pW
   have bA:v= .ref J.1:=by cases ez;rfl
   subst bA
   refine q s' J cV eP h1 ?_ (T.grow (λr kO=>T.rows r (eP.mem_iff.mp (.tail _ kO))) (d'.mpr ⟨λaI=>cn (fN.mem_iff.mp (.tail _ aI)),pW.2⟩)) (ag.Cc T.items k B)
   cases ap with
   |nil=>exact absurd rfl cx
   |cons a ap=>simp only[ef,EC,E0]at bn ⊢;exact acr bn
theorem agp{D a:ah×List aZ}{r:List (ah×List aZ)}{af:List an}(ag:aP W env X ae M O Z av C)(T:gC M aa (a::r))(aS:M.lookup D.1=some (bM D.2))(zQ:D.1∉aa::(a::r).map (·.1))(bt:gY (D::a::r))(aF:gp da ((a::r).map dy))(bd:I.handled=none)(bk:I.depth+3<d3)(be:I.units+20<c7)(aV:a3 (a0 X C) af [.adr aa,.adr D.1])(q:∀s' cV,cV.Perm (D::r)->gp da (cV.map dy)->gC ((aa,cw cV)::M) aa cV->aP W env X ae ((aa,cw cV)::M) O Z av s'->ai (.ref a.1) s'):az W.M I (df (.ref 145) af) ai aj C:=by
 have cO:=T.m9
 have aE:∀J∈D::a::r,M.lookup J.1=some (bM J.2):=λJ aF=>by
  refine d2 aF ?_ λaF=>?_
  .exact aS
  .exact T.rows J aF
 have a_:((D::a::r).map (·.1)).Nodup:=by
  refine H ef ?_;refine H (propext d') ?_
  exact⟨λB=>zQ (.tail _ B),(d'.mp cO).2⟩
 have cn:aa∉(D::a::r).map (·.1):=λB=>by
  rw[ef]at B
  rcases dw.mp B with B|B
  .exact zQ (B▸ .head _)
  .exact(d'.mp cO).1 B
 have bW:=bt.len
 refine Xb (BG bt) (a:=dy a) (r:=r.map dy) (D:=dy D) bd (by exact aL [_,_] 10471732525496603649 rfl bk) (by show I.units+9+2<c7;exact aL [_,_] 10979873403491632972644353 rfl be) (ag.sub (o' aE)).jg (ag.G.base.mono (jZ oW)) (ag.CA T.items aE a_ cn λJ aF=>.tail _ aF) (λd hd=>?_) ⟨D,.head _,rfl⟩ ?_ ?_ λv s' k B ez=>?_
 .rw[<-ef]at hd
  refine dQ hd λJ aF=>?_
  exact⟨J,.tail _ aF,rfl⟩
 .simp at bW ⊢;exact aL [_] 42851936232210688971777 rfl bW
 .have B:=(ag.sub (o' aE)).yU 1 aV
  have e:([.adr aa,.adr D.1]:List ax).map (ga (db (D::a::r)) 1)=[.adr aa,dy D]:=by
   show [_,_]=_
   refine H (Gq a_ (.head _)) ?_
   have:ga (db (D::a::r)) 1 (.adr aa)= .adr aa:=by
    show(match(db (D::a::r)).lookup aa with |some ab=>_|none=>_)=_
    refine H (vg cn) ?_;rfl
   refine H this ?_;rfl
  rwa[e]at B
 .refine d8 (O7 ss (D:=dy D) aF) λh1 aA=>?_
  have wA:(zG da (dy a::r.map dy) (dy D)).Perm ((D::r).map dy):=aA
  refine cm (DF wA) λcV e J=>?_
  have pR:gp da (zG da (dy a::r.map dy) (dy D)):=h1
  rw[e]at B pR
  have fN:=J.map (·.1)
  have bA:v= .ref a.1:=by cases ez;rfl
  subst bA
  have fg:∀J∈D::r,J∈D::a::r:=λJ aF=>by
   refine d2 aF ?_ λaF=>?_
   .exact .head _
   .exact .tail _ (.tail _ aF)
  refine q s' cV J pR (T.grow (λr kO=>aE r (fg r (J.mem_iff.mp kO))) (d'.mpr ⟨λB=>?_,fN.nodup_iff.mpr ?_⟩)) (ag.Cc T.items k B)
  .refine cm (kD.mp (fN.mem_iff.mp B)) λau aH e=>?_
   exact cn (e▸eT (fg au aH))
  .rw[ef,ef,d',d']at a_
   refine H ef ?_;refine H (propext d') ?_
   exact⟨λB=>a_.1 (.tail _ B),a_.2.2⟩
end
noncomputable def i5(l:List bB)(O:List (ah×bJ)):Prop:=∀e∈l,e.scope.kind≠ .module/\∃ar N,e.frame=some ar/\O.lookup ar=some N/\∀af,N.data≠ .fields af
theorem i5.Yw{l:List bB}{O:List (ah×bJ)}{C:aq}{gg:List ah}(F:i5 l O)(gq:∀a N,O.lookup a=some N->C.heap.get? a=some N)(a9:∀b∈dx l,b∈gg):C.heap.FunFrames (dJ C.heap gg) l:=by
 induction l with
 |nil=>trivial
 |cons e l bf=>
  refine xA (F e (.head _)) λh1 ar N aA bn cK=>?_
  have aI:ar∈dx (e::l):=by
   show ar∈A2 _ (e::l)
   refine H sd ?_;refine H aA ?_
   exact .head _
  refine⟨h1,⟨ar,N,aA,fP _ (a9 ar aI),gq ar N bn,cK⟩,bf (λD aS=>F D (.tail _ aS)) λb ak=>a9 b ?_⟩
  show b∈A2 _ (e::l)
  refine H sd ?_;refine H aA ?_
  exact .tail _ ak
section
variable{W:bj}{I:br}{env:bB}{X:List ah}{ae:bu}{M:ce}{O:List (ah×bJ)}{Z:List ah}{av C s':aq}{ai:fj->aq->Prop}{aj:an->aq->Prop}{aa:ah}{ap ar:List (ah×List aZ)}
theorem i5.uq{l:List bB}(F:i5 l O)(ag:aP W env X ae M O Z av C)(b2:env.frame=some env.locals)(hk:env.scope.kind= .function):sn (env::l) C:=by
 refine bH ag.ns λm nM=>?_
 have de:dx (env::l)=env.locals::dx l:=by
  show A2 _ (env::l)=_
  refine H sd ?_;refine H b2 ?_;rfl
 refine Ub (by refine H hk ?_;decide) b2 nM (fP _ (by refine H de ?_;exact .head _)) (F.Yw (λa N e=>(ag.objs a N e).1) λb ak=>by refine H de ?_;exact .tail _ ak)
theorem NF(w:c4):dF (cZ w) dh "join_header_words"=some (some (.ref 94)):=by kernel_rfl
theorem PG{ap:List (ah×List aZ)}(cx:∀r∈ap.map (·.2),r≠[]):z1 ((ap.map λJ=>(J.1,J.2.map cq)).map (·.2))=g9 (ap.map (·.2)):=by
 unfold z1 g9
 congr 1
 refine H dY ?_;refine H dY ?_
 have e:((ap.map ((λD=>D.2)∘λJ=>(J.1,J.2.map cq))).filter λr=> !r.isEmpty)=ap.map ((λD=>D.2)∘λJ=>(J.1,J.2.map cq)):=by
  refine Kw.mpr λr aE=>?_
  refine dQ aE λJ aF=>?_
  have:=cx J.2 (eT aF)
  show(!(J.2.map cq).isEmpty)=true
  cases B:J.2 with
  |nil=>exact absurd B this
  |cons _ _=>rfl
 refine H e ?_;refine H dY ?_
 rfl
theorem agD{d:ax}{cB cY eM eP nZ lA:bp}{jX:_}{aJ:List cT}{a7:Array an}(ag:aP W env X ae M O Z av C)(T:gC M aa ap)(bt:gY ap)(ft:89∈X)(G2:89∈Z)(zc:M.lookup 89=none)(zf:(89:ah)∉aa::ap.map (·.1))(gs:C.heap.get? 89=some (cb a7))(ku:f' 60 50 a7)(bd:I.handled=none)(bk:I.depth+3<d3)(cp:ae.lookup ("told":ay)=some d)(aU:ae.lookup ("items":ay)=some (.adr aa))(Ow:∀a,d≠ .adr a)(q:∀v s',(∀cI,(∀a N,cI.lookup a=some N->O.lookup a=some N/\a≠89)->aP W env X ae M cI Z av s')->(∃a7,s'.heap.get? 89=some (cb a7)/\f' 60 50 a7)->aC (a0 X s') v (.tuple [d,.str (g9 (ap.map (·.2)))])->ai (.ret v) s')(hk:autoParam (env.kindOf "join_header_words"=some .globalImplicit) tR):az W.M I (bY (.Return (some (.Tuple [.Name "told" cB,.Call (.Name "join_header_words" cY) [.Name "items" eM] [] eP] jX nZ)) lA::aJ) env) ai aj C:=by
 refine eH (tV (GP (((aW (d:=d) cp).on X C ag.c6 ag.G).go _ _ λbx aG k1 aT=>?_)))
 have bG:=ag.keeps k1
 have a_:=(d'.mp T.m9).2
 have cn:=(d'.mp T.m9).1
 have fg:∀J∈(aa,cw ap)::db ap,M.lookup J.1=some J.2:=λJ aF=>by
  refine d2 aF ?_ λaF=>?_
  .exact T.items
  .exact o' T.rows J aF
 have bN:=bG.sub fg
 have Hz:ga ((aa,cw ap)::db ap) 2 (.adr aa)= .cf aa (ap.map dy):=by
  refine H (pP (Y:=1) (ab:=cw ap) (by simp)) ?_
  congr 1
  unfold cw
  refine H dY ?_
  refine gZ λJ aF=>?_
  have lY:(J.1==aa)=false:=by
   have:J.1≠aa:=λe=>cn (e▸eT aF)
   simpa using this
  show ga ((aa,cw ap)::db ap) 1 (.adr J.1)=_
  refine H (pP (Y:=0) (ab:=bM J.2) (by rw[c1,lY];exact JC a_ aF)) ?_
  congr 1
  conv=>rhs;rw[<-kC (bM J.2)]
  exact gZ λd _=>rfl
 have qH:(89:ah)∈iq X ((aa,cw ap)::db ap):=by
  refine lJ.mpr ⟨ft,?_⟩
  have h1:((89:ah)==aa)=false:=by
   have:(89:ah)≠aa:=λe=>zf (e▸ .head _)
   simpa using this
  refine H c1 ?_;refine H h1 ?_;refine H (vg λB=>zf (.tail _ B)) ?_
  rfl
 refine zW 2 bN (ab:=[.cf aa (ap.map dy)]) (bI (aW (mZ aU Hz)) cF) (NF _) (yX W).obj (yX W).fn (λaf a5 bR k2 aV=>?_) hk
 have lZ:ap.map dy=(ap.map λJ=>(J.1,J.2.map cq)).map n5:=by
  refine H dY ?_
  refine gZ λJ _=>?_
  show ax.cf J.1 (bM J.2)= .cf J.1 ((J.2.map cq).map cX)
  refine H dY ?_
  rfl
 rw[lZ]at aV
 have aA:a5.heap.get? 89=some (cb a7):=ed (b5 k1 k2) _ _ gs
 refine MR bd (by exact aL [_,_] 10471732525496603649 rfl bk) bR.jg (bR.G.base.mono (jZ oW)) qH ⟨a7,aA,ku⟩ (λr aE=>?_) ?_ aV λbE bv dr bn e0=>?_
 .refine dQ aE λJ aF=>?_
  exact bt.small.small (eT aF)
 .have:=bt.len
  simp at this ⊢
  exact aL [_] 40868990025212224 rfl this
 rw[PG bt.ne]at e0
 have cc:∀cI,(∀a N,cI.lookup a=some N->O.lookup a=some N/\a≠89)->aP W env X ae M cI Z av bv:=λcI mn=>by
  refine((bG.keeps k2)).c2 dr (λb ak=>by simp at ak;subst ak;exact ft) (λb ak=>by simp at ak;subst ak;exact .inl G2) (λb ak=>by simp at ak;subst ak;refine cm bn λjh e _=>?_;clear bn;exact⟨_,e⟩) (λiM ab e=>.inl ⟨e,λak=>by simp at ak;subst ak;rw[zc]at e;cases e⟩) λa N e=>?_
  refine d8 (mn a N e) λcK fq=>?_
  exact⟨(ag.objs a N cK).2.1,(ag.objs a N cK).2.2,.inl ⟨cK,by simpa using fq⟩⟩
 have Do:dS (a0 X a5) (a0 X bv):=dr.view λb ak=>by simp at ak;subst ak;exact ft
 have cy:=cc [] λ_ _ e=>nomatch e
 refine(En (ab:=[d,.str (g9 (ap.map (·.2)))]) cy.c6 (.cons (aT.mono ((cg k2).trans Do)) (.cons (aC.flat e0 rfl) .nil)) (by simp[bc])).go _ _ λv c3 fF gN=>?_
 refine q v c3 (λcI mn=>(cc cI mn).keeps fF) ?_ gN
 refine cm bn λjh e tm=>?_;clear bn
 exact⟨jh,ed fF _ _ e,tm⟩
end
theorem Cm(w:c4):dF (cZ w) dh "heappush"=some (some (.ref 131)):=by kernel_rfl
theorem wx(w:c4):dF (cZ w) dh "heappop"=some (some (.ref 138)):=by kernel_rfl
theorem ND(w:c4):dF (cZ w) dh "heapreplace"=some (some (.ref 145)):=by kernel_rfl
theorem YQ(w:c4):dF (cZ w) dh "heappushpop"=some (some (.ref 152)):=by kernel_rfl
theorem Ck(w:c4):dF (cZ w) dh "heapify"=some (some (.ref 159)):=by kernel_rfl
theorem NI(w:c4):dF (cZ w) dh "split_header_words"=some (some (.ref 77)):=by kernel_rfl
noncomputable def kx(l:List cT):List cT:=rZ l 1
noncomputable def p5(l:List cT):List cT:=rZ l 0
set_option tactic.hygienic true in
noncomputable def e6(l:List cT):List cT:=by
 cases l.headD (.Pass ⟨0,0,0,0⟩)
 case If _ _ e _=>exact e
 all_goals exact []
noncomputable abbrev b8(W:bj)(ar:ah):bB:=callEnvC (bP W.w 207) ar 207
structure nC (W:bj) (env:bB) (X Z:List ah) (O:List (ah×bJ)) (aa bl:ah) (ap:List (ah×List aZ)) (kind:Nat) (name:aZ) (av s':aq):Prop where
 is:∃X' d_ dk c5 d,aP W env X' d_ dk O Z av s'/\(∀b∈X,b∈X')/\gC dk aa c5/\gY c5/\e9 ((c5.map (·.2)).map hd)/\(∀J∈c5,e9 J.2)/\
  d_.lookup ("told":ay)=some d/\d_.lookup ("items":ay)=some (.adr aa)/\(∀a,d≠ .adr a)/\ig kind (canon (ap.map (·.2))) name=canon (c5.map (·.2))/\i9 kind (canon (ap.map (·.2))) name=d/\
  (∀J∈c5,J.1∈bl::ap.map (·.1)\/av.heap.get? J.1=none)/\(∀a,dk.lookup a≠none->a∈aa::bl::ap.map (·.1)\/av.heap.get? a=none)
section
variable{W:bj}{I:br}{ar:ah}{X:List ah}{ae:bu}{M:ce}{O:List (ah×bJ)}{Z:List ah}{av C s':aq}{aj:an->aq->Prop}{aa bl:ah}{ap:List (ah×List aZ)}{name:aZ}
structure cj (W:bj) (I:br) (env:bB) (X:List ah) (ae:bu) (M:ce) (O:List (ah×bJ)) (Z:List ah) (aa bl:ah) (ap:List (ah×List aZ)) (name:aZ) (av C:aq):Prop where
 ag:aP W env X ae M O Z av C
 T:gC M aa ap
 word:M.lookup bl=some (bM [name])
 AU:bl∉aa::ap.map (·.1)
 bt:gY ((bl,[name])::ap)
 aF:gp da (ap.map dy)
 cE:∀J∈ap,e9 J.2
 items:ae.lookup ("items":ay)=some (.adr aa)
 AV:ae.lookup ("word":ay)=some (.adr bl)
 bd:I.handled=none
 bk:I.depth+5<d3
 be:I.units+30<c7
 only:∀a,M.lookup a≠none->a∈aa::bl::ap.map (·.1)
theorem cj.e'(t:cj W I (b8 W ar) X ae M O Z aa bl ap name av C):gY ap:=by
 have:=t.bt
 exact cl.part this (l:=[name]) (by simp[pp]) λr aE=>this.ne r (.tail _ aE)
theorem HF(D:aZ):e9 [D]:=λL aU aQ=>by simp at aU;exact(lL 0 (bX [_] 11029337632299552785 rfl aQ aU)).elim
theorem r3{M:ce}{aa:ah}{ab:List ax}{gg:List ah}{av:aq}(B:∀a,M.lookup a≠none->a∈aa::gg\/av.heap.get? a=none):∀a,((aa,ab)::M:ce).lookup a≠none->a∈aa::gg\/av.heap.get? a=none:=λa ha=>by
 rw[c1]at ha
 cases ak:a==aa with
 |true=>have:=(eq_of_beq ak).symm;subst this;exact .inl (.head _)
 |false=>rw[ak]at ha;exact B a ha
theorem agr(t:cj W I (b8 W ar) X ae M O Z aa bl ap name av C):az W.M I (bY (p5 (kx (dT W.w 207))) (b8 W ar)) (λao s'=>ao= .next/\nC W (b8 W ar) X Z O aa bl ap 0 name av s') aj C:=by
 refine mz (Z:=Z) (av:=av) (GN (iY t.ag (ab:=[.adr aa,.adr bl]) (bI (aW t.items) (bI (aW t.AV) cF)) (Cm _) (rD W).obj (rD W).fn λaf aG bG aV=>?_))
 refine Ec (D:=(bl,[name])) bG t.T t.word t.AU t.bt t.aF t.bd (by have:=t.bk;exact aL [_,_] 10472295475451073537 rfl this) (by have:=t.be;exact aL [_,_] 2680678191145584563201 rfl this) aV λa5 c5 J B jq bN=>?_
 refine(AX (ab:=[.none]) bN.c6 (.cons .none .nil) (by simp[bc])).go _ _ λv bv dr e0=>?_
 refine⟨X,ae,_,O,.list [.none],bN.keeps dr,e0,λc3 cc=>dq ⟨rfl,⟨X,_,_,c5,_,cc,λ_ B=>B,jq,t.bt.of J,sK.mp B,λq ba=>?_,rfl,t.items,(λa e=>nomatch e),?_,rfl,λq ba=>?_,r3 λa ha=>.inl (t.only a ha)⟩⟩⟩
 .refine d2 (J.mem_iff.mp ba) ?_ λba=>?_
  .exact HF name
  .exact t.cE q ba
 .exact XU (by simpa using J.map (·.2)) (t.bt.of J)
 .have:=(J.map (·.1)).mem_iff.mp (eT ba)
  exact .inl (by simpa using this)
end
theorem Jn(r:List aZ):(bM r).length=r.length:=by simp[bM]
section
variable{W:bj}{I:br}{env:bB}{X:List ah}{ae:bu}{M:ce}{O:List (ah×bJ)}{Z:List ah}{av C s':aq}{ai:an->aq->Prop}{aj:an->aq->Prop}{aa:ah}{ap ar:List (ah×List aZ)}
theorem Jo{r:List aZ}(g:∀D∈r,e8 D):∀d∈bM r,∃D,e8 D/\d=cX (cq D):=λd hd=>by
 refine dQ hd λD aS=>?_
 exact⟨D,g D aS,rfl⟩
theorem ae4{a:ah}{r:List aZ}{af:List an}(ag:aP W env X ae M O Z av C)(gF:M.lookup a=some (bM r))(cx:r≠[])(g:∀D∈r,e8 D)(aN:r.length<=50)(cE:e9 r)(bd:I.handled=none)(bk:I.depth+3<d3)(be:I.units+20<c7)(aV:a3 (a0 X C) af [.adr a])(q:∀v s' D dM,(D::dM).Perm r->e9 dM->r.head? =some D->aP W env X ae ((a,bM dM)::M) O Z av s'->aC (a0 X s') v (cX (cq D))->ai v s'):az W.M I (df (.ref 138) af) ai aj C:=by
 refine l6 (NK (l:=bM r) (by simpa[bM]using cx)) λt D a8 bm e3=>?_
 refine MQ FP (ab:=bM r) (l:=D) bd (by exact aL [_,_] 10471732525496603649 rfl bk) (by show I.units+9+1<c7;exact aL [_,_] 10979873403491564253167617 rfl be) ag.c6 ag.G.base (ag.has gF) (Jo g) bm (by refine H (Jn _) ?_;exact aL [_] 653903840259092801 rfl aN) aV λv s' k B ez=>?_
 rw[e3]at B ez
 have aF:=zt.mpr cE
 rw[a8]at aF
 refine fb (O2 ss aF) λh1 aA bn=>?_
 rw[<-a8]at aA bn
 refine cm (Ja aA) λall gf eP=>?_
 cases all with
 |nil=>cases gf
 |cons am dM=>
  have pQ:(p2 da t D).1=cX (cq am)/\(p2 da t D).2=bM dM:=by
   rw[bM,ef,xK]at gf
   exact gf
  rw[pQ.2]at B h1
  rw[pQ.1]at ez bn
  refine q v s' am dM eP (zt.mp h1) ?_ (ag.called gF k B) ez
  cases r with
  |nil=>exact absurd rfl cx
  |cons au r=>simp only[bM,ef,EC,E0]at bn ⊢;exact adW bn
theorem ae5{a:ah}{r:List aZ}{D:aZ}{af:List an}(ag:aP W env X ae M O Z av C)(gF:M.lookup a=some (bM r))(cx:r≠[])(g:∀am∈r,e8 am)(qF:e8 D)(aN:r.length<=50)(cE:e9 r)(bd:I.handled=none)(bk:I.depth+3<d3)(be:I.units+20<c7)(aV:a3 (a0 X C) af [.adr a,cX (cq D)])(q:∀v s' m dM,(m::dM).Perm (D::r)->e9 dM->(∀am∈dM,¬am<m)->aP W env X ae ((a,bM dM)::M) O Z av s'->aC (a0 X s') v (cX (cq m))->ai v s'):az W.M I (df (.ref 152) af) ai aj C:=by
 cases r with
 |nil=>exact absurd rfl cx
 |cons au r=>
 have aF:=zt.mpr cE
 refine Xa FP (a:=cX (cq au)) (r:=bM r) (D:=cX (cq D)) bd (by exact aL [_,_] 10471732525496603649 rfl bk) (by show I.units+9+1<c7;exact aL [_,_] 10979873403491564253167617 rfl be) ag.c6 ag.G.base (ag.has gF) (Jo g) ⟨D,qF,rfl⟩ (by have:=Jn r;simp at aN ⊢;exact aL [_] 42853089153715295818753 rfl aN) aV λv s' k B ez=>?_
 refine fb (aa8 ss (D:=cX (cq D)) aF) λh1 aA bn=>?_
 have wA:((gX da (cX (cq au)::bM r) (cX (cq D))).1::(gX da (cX (cq au)::bM r) (cX (cq D))).2).Perm (bM (D::au::r)):=aA
 refine cm (Ja wA) λall gf eP=>?_
 cases all with
 |nil=>cases gf
 |cons am dM=>
  have pQ:(gX da (cX (cq au)::bM r) (cX (cq D))).1=cX (cq am)/\(gX da (cX (cq au)::bM r) (cX (cq D))).2=bM dM:=by
   have y3:_::_=cX (cq am)::bM dM:=gf
   injection y3 with agW agX
   exact⟨agW,agX⟩
  have pR:gp da (gX da (cX (cq au)::bM r) (cX (cq D))).2:=h1
  have zb:∀am∈(gX da (cX (cq au)::bM r) (cX (cq D))).2,da am (gX da (cX (cq au)::bM r) (cX (cq D))).1=false:=bn
  rw[pQ.2]at B pR zb
  rw[pQ.1]at ez zb
  refine q v s' am dM eP (zt.mp pR) (λw e5=>?_) (ag.called gF k B) ez
  have:=zb _ (eT e5)
  unfold da at this
  rw[Di,Di]at this
  exact of_decide_eq_false this
theorem JH{a:ah}{r:List aZ}{af:List an}(ag:aP W env X ae M O Z av C)(gF:M.lookup a=some (bM r))(g:∀am∈r,e8 am)(aN:r.length<=100)(bd:I.handled=none)(bk:I.depth+3<d3)(be:I.units+20<c7)(aV:a3 (a0 X C) af [.adr a])(q:∀s' dM,dM.Perm r->e9 dM->aP W env X ae ((a,bM dM)::M) O Z av s'->ai .none s'):az W.M I (df (.ref 159) af) ai aj C:=by
 refine MP FP (ab:=bM r) bd (by exact aL [_,_] 10471732525496603649 rfl bk) (by show I.units+9+1<c7;exact aL [_,_] 10979873403491564253167617 rfl be) ag.c6 ag.G.base (ag.has gF) (Jo g) (by refine H (Jn _) ?_;exact aL [_] 654783449561313601 rfl aN) aV λs' k B=>?_
 refine d8 (OB ss (bM r)) λh1 aA=>?_
 refine cm (Ja aA) λdM e J=>?_
 rw[e]at B h1
 exact q s' dM J (zt.mp h1) (ag.called gF k B)
theorem ago{af:List an}(ag:aP W env X ae M O Z av C)(T:gC M aa ap)(bt:gY ap)(bd:I.handled=none)(bk:I.depth+3<d3)(be:I.units+20<c7)(aV:a3 (a0 X C) af [.adr aa])(q:∀s' cV,cV.Perm ap->gp da (cV.map dy)->gC ((aa,cw cV)::M) aa cV->aP W env X ae ((aa,cw cV)::M) O Z av s'->ai .none s'):az W.M I (df (.ref 159) af) ai aj C:=by
 have cO:=T.m9
 have a_:=(d'.mp cO).2
 have cn:=(d'.mp cO).1
 have bW:=bt.len
 refine MP (BG bt) (ab:=ap.map dy) bd (by exact aL [_,_] 10471732525496603649 rfl bk) (by show I.units+9+2<c7;exact aL [_,_] 10979873403491632972644353 rfl be) (ag.sub (o' T.rows)).jg (ag.G.base.mono (jZ oW)) (ag.CA T.items T.rows a_ cn λJ aF=>aF) (λd hd=>?_) (by simp at bW ⊢;exact aL [_] 653903840259092801 rfl bW) ?_ λs' k B=>?_
 .refine dQ hd λJ aF=>?_
  exact⟨J,aF,rfl⟩
 .have B:=(ag.sub (o' T.rows)).yU 1 aV
  have e:([.adr aa]:List ax).map (ga (db ap) 1)=[.adr aa]:=by
   have:ga (db ap) 1 (.adr aa)= .adr aa:=by
    show(match(db ap).lookup aa with |some ab=>_|none=>_)=_
    refine H (vg cn) ?_;rfl
   show [_]=_
   refine H this ?_;rfl
  rwa[e]at B
 .refine d8 (OB ss (ap.map dy)) λh1 aA=>?_
  refine cm (DF aA) λcV e J=>?_
  rw[e]at B h1
  have fN:=J.map (·.1)
  exact q s' cV J h1 (T.grow (λr kO=>T.rows r (J.mem_iff.mp kO)) (d'.mpr ⟨λB=>cn (fN.mem_iff.mp B),fN.nodup_iff.mpr a_⟩)) (ag.Cc T.items k B)
theorem gC.row(T:gC M aa ap){a:ah}{ab:List ax}(B:a∉aa::ap.map (·.1)):gC ((a,ab)::M) aa ap:=by
 have look:∀b,b≠a->((a,ab)::M:ce).lookup b=M.lookup b:=λb ak=>by
  refine H c1 ?_
  have:(b==a)=false:=by simpa using ak
  refine H this ?_;rfl
 refine⟨?_,λJ aF=>?_,T.m9⟩
 .refine H (look aa λe=>B (e▸ .head _)) ?_
  exact T.items
 .refine H (look J.1 λe=>B (.tail _ (e▸eT aF))) ?_
  exact T.rows J aF
theorem aeT{J:ah×List aZ}(aF:gp da (ap.map dy))(cE:ap.head? =some J):∀q∈ap,¬hd q.2<hd J.2:=by
 cases ap with
 |nil=>cases cE
 |cons a t=>
  simp only[EC,E0]at cE
  subst cE
  intro q ba
  have:=CD ss aF (dy q) (by refine b' ef ?_;exact eT ba)
  unfold da at this
  rw[Dh,Dh]at this
  exact of_decide_eq_false this
theorem aae{r:List aZ}{D:aZ}(aF:e9 r)(cE:r.head? =some D):∀am∈r,¬am<D:=by
 cases r with
 |nil=>cases cE
 |cons a t=>
  simp only[EC,E0]at cE
  subst cE
  exact Oy aF
end
theorem af4{D:aZ}{n3 dM:List aZ}{aJ:List (List aZ)}(bt:cl (n3::aJ))(J:(D::dM).Perm n3)(cx:dM≠[]):cl (dM::aJ):=by
 refine bt.part (l:=[D]) ?_ λq ba=>?_
 .refine oc.mpr λau=>?_
  have:=J.count_eq au
  simp[nf,pk]at this ⊢
  exact aL [_,_,_,_] 139608844228261905410 rfl this
 .refine d2 ba ?_ λba=>?_
  .exact cx
  .exact bt.ne q (.tail _ ba)
theorem AK{n3:List aZ}{aJ:List (List aZ)}(bt:cl (n3::aJ)):cl aJ:=
 bt.part (l:=n3) (by refine H jH ?_;exact pp) λq ba=>bt.ne q (.tail _ ba)
section
variable{W:bj}{I:br}{ar:ah}{X:List ah}{ae:bu}{M:ce}{O:List (ah×bJ)}{Z:List ah}{av C s':aq}{aj:an->aq->Prop}{aa bl:ah}{ap:List (ah×List aZ)}{name:aZ}
theorem DH{M:ce}{a:ah}{ab:List ax}{gg:List ah}{av:aq}(B:∀a,M.lookup a≠none->a∈gg\/av.heap.get? a=none)(ha:a∈gg\/av.heap.get? a=none):∀b,((a,ab)::M:ce).lookup b≠none->b∈gg\/av.heap.get? b=none:=λb ak=>by
 rw[c1]at ak
 cases ba:b==a with
 |true=>have:=(eq_of_beq ba).symm;subst this;exact ha
 |false=>rw[ba]at ak;exact B b ak
theorem es{d9:Type}{a b:ah}{D:d9}{l:List (ah×d9)}(B:b≠a):((a,D)::l).lookup b=l.lookup b:=by
 refine H c1 ?_
 have:(b==a)=false:=by simpa using B
 refine H this ?_;rfl
theorem DQ{J:ah×List aZ}{cV:List (ah×List aZ)}(T:gC M aa ap)(fU:(J::cV).Perm ap):J.1∉aa::cV.map (·.1)/\J∈ap/\M.lookup J.1=some (bM J.2)/\J.1≠aa:=by
 have a_:=d'.mp T.m9
 have fN:=fU.map (·.1)
 have pW:=fN.nodup_iff.mpr a_.2
 rw[ef,d']at pW
 have aF:J∈ap:=fU.mem_iff.mp (.head _)
 have lY:J.1≠aa:=λe=>a_.1 (e▸eT aF)
 refine⟨λB=>?_,aF,T.rows J aF,lY⟩
 rcases dw.mp B with B|B
 .exact lY B
 .exact pW.1 B
theorem yT{J:ah×List aZ}{cV:List (ah×List aZ)}(bt:gY ap)(aF:gp da (ap.map dy))(cE:∀J∈ap,e9 J.2)(fU:(J::cV).Perm ap)(b7:ap.head? =some J):canon (ap.map (·.2))=b3 id J.2::canon (cV.map (·.2)):=by
 refine Xt (by simpa using fU.map (·.2)) bt (λq ba=>?_) λr aE=>?_
 .refine dQ ba λau aH=>?_
  exact aeT aF b7 au (fU.mem_iff.mp (.tail _ aH))
 .refine dQ aE λau aH=>?_
  exact cE au aH
set_option maxHeartbeats 1000000 in
theorem ags(t:cj W I (b8 W ar) X ae M O Z aa bl ap name av C)(cx:ap≠[]):az W.M I (bY (p5 (e6 (kx (dT W.w 207)))) (b8 W ar)) (λao s'=>ao= .next/\nC W (b8 W ar) X Z O aa bl ap 1 name av s') aj C:=by
 have bk:=t.bk
 have be:=t.be
 have e':=t.e'
 refine mz (Z:=Z) (av:=av) (iY t.ag (ab:=[.adr aa]) (bI (aW t.items) cF) (wx _) (m0 W).obj (m0 W).fn λaf aG bG aV=>?_)
 refine Eb bG t.T cx e' t.aF t.bd (by exact aL [_,_] 10472295475451073537 rfl bk) (by exact aL [_,_] 2680678191145584563201 rfl be) aV λa5 J c5 fU B zv jq bN=>?_
 refine q7 (DQ t.T fU) λuO kl uM lY=>?_
 refine⟨X,ae,_,O,.adr J.1,bN,.adr _,λbv bR=>?_⟩
 have q4:gY (J::c5):=e'.of fU
 have fy:∀D∈J.2,e8 D:=λD aS=>e'.gV (eT kl) aS
 have CX:J.2≠[]:=e'.ne J.2 (eT kl)
 refine mz (Z:=Z) (av:=av) (GN (iY bR (ab:=[.adr J.1]) (bI (aW rfl) cF) (wx _) (m0 W).obj (m0 W).fn λaf c3 cc vc=>?_))
 refine ae4 cc (by refine H (es lY) ?_;exact uM) CX fy (e'.qg (eT kl)) (t.cE J kl) t.bd (by exact aL [_,_] 10472295475451073537 rfl bk) (by exact aL [_,_] 2680678191145584563201 rfl be) vc λv dW D dM o9 kO aS cy ez=>?_
 refine(AX (ab:=[cX (cq D)]) cy.c6 (.cons ez .nil) (by simp[bc])).go _ _ λSa e1 l2 jC=>?_
 refine⟨X,_,_,O,_,cy.keeps l2,jC,λf3 dA=>?_⟩
 have pJ:gC ((J.1,bM dM)::(aa,cw c5)::M) aa c5:=jq.row uO
 have Y5:∀am∈dM,e8 am:=λam bZ=>fy am (o9.mem_iff.mp (.tail _ bZ))
 refine nU dA (b:= !(bM dM).isEmpty) (BO (aW (d:=.cf J.1 (bM dM)) (r4 rfl (by simp))).lF (hi cF) (.list (hE.of λd hd=>by
  refine dQ hd λam bZ=>?_
  exact y_ (Y5 am bZ))) (Y:=2) (by exact aL [_,_] 167542386946599883777 rfl be)) λji eW=>?_
 have aO:=yT e' t.aF t.cE fU zv
 have abB:=aae (t.cE J kl) aS
 have a9:b3 id J.2=D::b3 id dM:=JS o9 (e'.te (eT kl)) λam bZ=>abB am (o9.mem_iff.mp (.tail _ bZ))
 have H3:J.1∈aa::bl::ap.map (·.1):=.tail _ (.tail _ (eT kl))
 have s7:∀a,((J.1,bM dM)::(aa,cw c5)::M:ce).lookup a≠none->a∈aa::bl::ap.map (·.1)\/av.heap.get? a=none:=DH (r3 λa ha=>.inl (t.only a ha)) (.inl H3)
 have kj:∀q∈c5,q∈ap:=λq ba=>fU.mem_iff.mp (.tail _ ba)
 by_cases oO:dM=[]
 .subst oO
  simp only[bM,q_,Kz,vx,fi,if_false]
  refine dq (dq ⟨rfl,?_⟩)
  have iy:gY c5:=AK q4
  refine d8 (M_ (name:=name) (cV:=c5.map (·.2)) aO a9 (by simp) iy) λh1 aA=>?_
  exact⟨X,_,_,c5,_,eW,λ_ B=>B,pJ,iy,sK.mp B,λq ba=>t.cE q (kj q ba),rfl,t.items,(λa e=>nomatch e),h1,aA,λq ba=>.inl (.tail _ (eT (kj q ba))),s7⟩
 .have H7:(!(bM dM).isEmpty)=true:=by
   cases dM with
   |nil=>exact absurd rfl oO
   |cons _ _=>rfl
  refine H H7 ?_;refine H (if_pos rfl) ?_
  refine p6 (iY eW (ab:=[.adr aa,.adr J.1]) (bI (aW t.items) (bI (aW rfl) cF)) (Cm _) (rD W).obj (rD W).fn λaf hP fm Ju=>?_)
  have tk:gY ((J.1,dM)::c5):=af4 q4 o9 oO
  refine Ec (D:=(J.1,dM)) fm pJ (by simp) uO tk B t.bd (by exact aL [_,_] 10472295475451073537 rfl bk) (by exact aL [_,_] 2680678191145584563201 rfl be) Ju λpa g8 r7 bn yF hV=>?_
  refine dq (dq ⟨rfl,?_⟩)
  have pe:=tk.of r7
  obtain⟨h1,aA⟩:=M_ (name:=name) (cV:=g8.map (·.2)) aO a9 (by
   have e:([dM].filter λr:List aZ=> !r.isEmpty)=[dM]:=by
    cases dM with
    |nil=>exact absurd rfl oO
    |cons _ _=>rfl
   refine H e ?_
   exact(r7.map (·.2)).trans (pp (l₁:=[dM]))) pe
  refine⟨X,_,_,g8,_,hV,λ_ B=>B,yF,pe,sK.mp bn,λq ba=>?_,rfl,t.items,(λa e=>nomatch e),h1,aA,λq ba=>?_,r3 s7⟩
  .refine d2 (r7.mem_iff.mp ba) ?_ λba=>?_
   .exact kO
   .exact t.cE q (kj q ba)
  .refine d2 (r7.mem_iff.mp ba) ?_ λba=>?_
   .exact .inl (.tail _ (show J.1∈ap.map (·.1)from eT kl))
   .exact .inl (.tail _ (eT (kj q ba)))
theorem a3.m_{X mh:List ah}{B:bo}{af:List an}{ab:List ax}(hd:∀d∈ab,d.m_=true)(wG:∀a∈mh,a∈X\/∃af,B.PlainList a af)(r:a3 (dJ B X) af ab):a3 (dJ B mh) af ab:=r.imp λ_ d B r=>r.m_ (hd d B) wG
theorem ad1(k:Nat):(hN k).dat.flat=true:=by
 unfold hN
 split <;>rfl
theorem DR(D:aZ):(cX (cq D)).m_=true:=by
 show([.str (bh D),(hN D.length).dat]:List ax).all (λd=>d.flat)=true
 refine H xJ ?_;refine H xJ ?_;refine H (ad1 _) ?_
 rfl
theorem aP.adB(ag:aP W (b8 W ar) X ae M O Z av C):∀a∈X,a∈iq X M\/∃af,C.heap.PlainList a af:=λa ha=>by
 by_cases B:a∈iq X M
 .exact .inl B
 .refine .inr ?_
  cases aI:M.lookup a with
  |none=>exact absurd (lJ.mpr ⟨ha,by simp[aI]⟩) B
  |some ab=>
   refine fW (ag.el a ab aI) λ_ _ af bz _=>?_
   exact⟨af,bz⟩
set_option maxHeartbeats 1000000 in
theorem agu(t:cj W I (b8 W ar) X ae M O Z aa bl ap name av C)(cx:ap≠[]):az W.M I (bY (p5 (e6 (e6 (kx (dT W.w 207))))) (b8 W ar)) (λao s'=>ao= .next/\nC W (b8 W ar) X Z O aa bl ap 2 name av s') aj C:=by
 have bk:=t.bk
 have be:=t.be
 have e':=t.e'
 obtain⟨J,n3,rfl⟩:∃J n3,ap=J::n3:=by
  cases ap with
  |nil=>exact absurd rfl cx
  |cons J n3=>exact⟨J,n3,rfl⟩
 refine mz (Z:=Z) (av:=av) (B8 t.ag.G rfl (B3 _) B6 (iY t.ag (ab:=[.adr aa,.adr bl]) (bI (aW t.items) (bI (aW t.AV) cF)) (ND _) (wn W).obj (wn W).fn λaf aG bG aV=>?_))
 refine agp (D:=(bl,[name])) bG t.T t.word t.AU t.bt t.aF t.bd (by exact aL [_,_] 10472295475451073537 rfl bk) (by exact aL [_,_] 2680678191145584563201 rfl be) aV λa5 c5 fU B jq bN=>?_
 have lY:J.1≠aa:=λe=>(d'.mp t.T.m9).1 (e▸eT (.head _))
 have uM:((aa,cw c5)::M:ce).lookup J.1=some (bM J.2):=by refine H (es lY) ?_;exact t.T.rows J (.head _)
 have bR:=bN.sub (dk:=[(J.1,bM J.2)]) λq ba=>by simp at ba;subst ba;exact uM
 have aeV:aC (a0 (iq X [(J.1,bM J.2)]) a5) (.ref J.1) (.list (J.2.map λa=>cX (cq a))):=by
  have B:=bR.Ca 1 (v:=.ref J.1) (.adr J.1)
  rw[pP (Y:=0) (ab:=bM J.2) (by simp)]at B
  have e:(bM J.2).map (ga [(J.1,bM J.2)] 0)=bM J.2:=by
   conv=>rhs;rw[<-kC (bM J.2)]
   exact gZ λd _=>rfl
  rw[e]at B
  exact B.un
 have CV:=e'.qg (r:=J.2) (.head _)
 refine ahT bR.jg aeV (by exact aL [_] 40868990016299329 rfl CV) (e'.te (.head _)) (by exact aL [_,_] 167542386946607223809 rfl be) _ _ λF c3 ee fF iI bz vc=>?_
 have cc:=bR.keeps fF
 have Ct:F∉X:=je bN.c6 iI
 have aeY:aC (a0 X c3) (.ref F) (.list (bM (b3 id J.2))):=by
  refine bH bz λY e=>?_;clear bz
  refine .list ⟨Y,ei _ e Ct⟩ (a3.m_ (λd hd=>?_) cc.adB vc)
  refine dQ hd λam _=>?_
  exact DR am
 refine⟨X,ae,_,O,.list (bM (b3 id J.2)),bN.keeps fF,aeY,λdW cy=>dq ⟨rfl,?_⟩⟩
 have aO:=yT e' t.aF t.cE (.refl _) rfl
 have iy:gY c5:=by
  have h1:gY (J::(bl,[name])::n3):=t.bt.of (Ks ..)
  exact(AK h1).perm (fU.map (·.2)).flatten λr aE=>(AK h1).ne r ((fU.map (·.2)).mem_iff.mp aE)
 refine d8 (XV (name:=name) (cV:=c5.map (·.2)) aO (by simpa using fU.map (·.2)) iy) λh1 aA=>?_
 refine⟨X,_,_,c5,_,cy,λ_ B=>B,jq,iy,sK.mp B,λq ba=>?_,rfl,t.items,(λa e=>nomatch e),h1,aA,λq ba=>?_,r3 λa ha=>.inl (t.only a ha)⟩
 .refine d2 (fU.mem_iff.mp ba) ?_ λba=>?_
  .exact HF name
  .exact t.cE q (.tail _ ba)
 .refine d2 (fU.mem_iff.mp ba) ?_ λba=>?_
  .exact .inl (.head _)
  .exact .inl (.tail _ (eT (.tail _ ba)))
end
section
variable{W:bj}{I:br}{ar:ah}{X:List ah}{ae:bu}{M:ce}{O:List (ah×bJ)}{Z:List ah}{av C s':aq}{aj:an->aq->Prop}{aa bl:ah}{ap:List (ah×List aZ)}{name:aZ}
theorem M7(cO:(aa::ap.map (·.1)).Nodup):ga ((aa,cw ap)::db ap) 2 (.adr aa)= .cf aa (ap.map dy):=by
 have a_:=(d'.mp cO).2
 have cn:=(d'.mp cO).1
 refine H (pP (Y:=1) (ab:=cw ap) (by simp)) ?_
 congr 1
 unfold cw
 refine H dY ?_
 refine gZ λJ aF=>?_
 have lY:(J.1==aa)=false:=by
  have:J.1≠aa:=λe=>cn (e▸eT aF)
  simpa using this
 show ga ((aa,cw ap)::db ap) 1 (.adr J.1)=_
 refine H (pP (Y:=0) (ab:=bM J.2) (by rw[c1,lY];exact JC a_ aF)) ?_
 congr 1
 conv=>rhs;rw[<-kC (bM J.2)]
 exact gZ λd _=>rfl
theorem gC.afR(T:gC M aa ap):∀J∈(aa,cw ap)::db ap,M.lookup J.1=some J.2:=λJ aF=>by
 refine d2 aF ?_ λaF=>?_
 .exact T.items
 .exact o' T.rows J aF
theorem Yx(bt:gY ap):f5 3 (.list (ap.map dy)):=.list (hE.of λd hd=>by
 refine dQ hd λJ aF=>?_
 exact .cf (hE.of λd hd=>by
  refine dQ hd λD aS=>?_
  exact y_ (bt.gV (eT aF) aS)))
set_option maxHeartbeats 1000000 in
theorem agx{F:ah}{r:List aZ}{g8:List (ah×List aZ)}{lS:List ah}(t:cj W I (b8 W ar) X ae M O Z aa bl ap name av C){Ka:bu}{yo:ce}{aG:aq}(ag:aP W (b8 W ar) lS Ka yo O Z av aG)(rN:∀b∈X,b∈lS)(T:gC yo aa g8)(iI:yo.lookup F=some (bM r))(zi:F∉aa::g8.map (·.1))(bt:gY ((F,r)::g8))(aF:gp da (g8.map dy))(cE:∀J∈g8,e9 J.2)(zh:av.heap.get? F=none)(aU:Ka.lookup ("items":ay)=some (.adr aa))(ak:Ka.lookup ("both":ay)=some (.adr F))(aE:r.length<=100)(HZ:∀a,yo.lookup a≠none->a∈aa::bl::ap.map (·.1)\/av.heap.get? a=none)(lX:∀J∈g8,J.1∈bl::ap.map (·.1)\/av.heap.get? J.1=none)(GI:∀oT iR,iR.Perm r->oT.Perm (iR::g8.map (·.2))->cl oT->ig 3 (canon (ap.map (·.2))) name=canon oT/\i9 3 (canon (ap.map (·.2))) name= .list [.none,.none]):az W.M I (bY ((p5 (e6 (e6 (e6 (kx (dT W.w 207)))))).drop 2) (b8 W ar)) (λao s'=>ao= .next/\nC W (b8 W ar) X Z O aa bl ap 3 name av s') aj aG:=by
 have bk:=t.bk
 have be:=t.be
 have g:∀D∈r,e8 D:=λD aS=>bt.gV (.head _) aS
 refine mz (Z:=Z) (av:=av) (Yo (iY ag (ab:=[.adr F]) (bI (aW ak) cF) (Ck _) (rC W).obj (rC W).fn λaf a5 bN aV=>?_))
 refine JH bN iI g aE t.bd (by exact aL [_,_] 10472295475451073537 rfl bk) (by exact aL [_,_] 2680678191145584563201 rfl be) aV λbv iR DM Z0 bR=>?_
 have pJ:gC ((F,bM iR)::yo) aa g8:=T.row zi
 have tk:gY ((F,iR)::g8):=cl.perm bt (by simpa using DM.append_right _) λq ba=>by
  rcases dw.mp ba with ba|ba
  .intro e
   have oO:r≠[]:=bt.ne r (.head _)
   have dB:iR=[]:=ba.symm.trans e
   rw[dB]at DM
   exact oO (S9.mp DM)
  .exact bt.ne q (.tail _ ba)
 refine iY bR (ab:=[.adr aa,.adr F]) (bI (aW aU) (bI (aW ak) cF)) (Cm _) (rD W).obj (rD W).fn λaf c3 cc vc=>?_
 refine Ec (D:=(F,iR)) cc pJ (by simp) zi tk aF t.bd (by exact aL [_,_] 10472295475451073537 rfl bk) (by exact aL [_,_] 2680678191145584563201 rfl be) vc λdW oT fU B yG cy=>?_
 refine(AX (ab:=[.none,.none]) cy.c6 (.cons .none (.cons .none .nil)) (by simp[bc])).go _ _ λv e1 l2 jC=>?_
 have pe:=tk.of fU
 refine d8 (GI (oT.map (·.2)) iR DM (by simpa using fU.map (·.2)) pe) λh1 aA=>?_
 refine⟨lS,_,_,O,_,cy.keeps l2,jC,λf3 dA=>dq ⟨rfl,⟨lS,_,_,oT,_,dA,rN,yG,pe,sK.mp B,λq ba=>?_,rfl,aU,(λa e=>nomatch e),h1,aA,λq ba=>?_,r3 (DH HZ (.inr zh))⟩⟩⟩
 .refine d2 (fU.mem_iff.mp ba) ?_ λba=>?_
  .exact Z0
  .exact cE q ba
 .refine d2 (fU.mem_iff.mp ba) ?_ λba=>?_
  .exact .inr zh
  .exact lX q ba
set_option tactic.hygienic true in
set_option maxHeartbeats 2000000 in
theorem agw(t:cj W I (b8 W ar) X ae M O Z aa bl ap name av C)(cx:ap≠[]):az W.M I (bY (p5 (e6 (e6 (e6 (kx (dT W.w 207)))))) (b8 W ar)) (λao s'=>ao= .next/\nC W (b8 W ar) X Z O aa bl ap 3 name av s') aj C:=by
 have bk:=t.bk
 have be:=t.be
 have e':=t.e'
 refine mz (Z:=Z) (av:=av) (iY t.ag (ab:=[.adr aa]) (bI (aW t.items) cF) (wx _) (m0 W).obj (m0 W).fn λaf aG bG aV=>?_)
 refine Eb bG t.T cx e' t.aF t.bd (by exact aL [_,_] 10472295475451073537 rfl bk) (by exact aL [_,_] 2680678191145584563201 rfl be) aV λa5 J c5 fU B zv jq bN=>?_
 refine q7 (DQ t.T fU) λuO kl uM lY=>?_
 refine⟨X,ae,_,O,.adr J.1,bN,.adr _,λbv bR=>?_⟩
 have q4:gY (J::c5):=e'.of fU
 have iy:gY c5:=AK q4
 have aO:=yT e' t.aF t.cE fU zv
 have kj:∀q∈c5,q∈ap:=λq ba=>fU.mem_iff.mp (.tail _ ba)
 have wQ:((aa,cw c5)::M:ce).lookup J.1=some (bM J.2):=by refine H (es lY) ?_;exact uM
 have s7:=r3 (aa:=aa) (ab:=cw c5) (gg:=bl::ap.map (·.1)) (av:=av) λa ha=>.inl (t.only a ha)
 have ck:∀{yp:ce}{b:ah}{bb:List aZ}{g8:List (ah×List aZ)}{ek:Array an}{dW:aq},aP W (b8 W ar) X (("both",.adr J.1)::ae) yp O Z av dW->gC yp aa g8->yp.lookup J.1=some (bM J.2)->dW.heap.PlainList b ek->a3 (a0 X dW) ek.toList (bM bb)->bb.length<=50->(∀q∈g8,q∈ap)->(∀F,gY ((F,J.2++bb)::g8))->gp da (g8.map dy)->(∀a,yp.lookup a≠none->a∈aa::bl::ap.map (·.1)\/av.heap.get? a=none)->
   (∀oT iR,iR.Perm (J.2++bb)->oT.Perm (iR::g8.map (·.2))->cl oT->ig 3 (canon (ap.map (·.2))) name=canon oT/\i9 3 (canon (ap.map (·.2))) name= .list [.none,.none])->
   az W.M I (l9 .Add (.ref J.1) (.ref b)) (λv aG=>∃X' d_ dk cI d,aP W (b8 W ar) X' d_ dk cI Z av aG/\aC (a0 X' aG) v d/\∀a5,aP W (b8 W ar) X' (("both",d)::d_) dk cI Z av a5->az W.M I (bY ((p5 (e6 (e6 (e6 (kx (dT W.w 207)))))).drop 2) (b8 W ar)) (λao s'=>ao= .next/\nC W (b8 W ar) X Z O aa bl ap 3 name av s') aj a5) aj dW:=by
  intro yp b bb g8 ek dW cy yG aa2 Jl DW qO CH af3 aaZ adz GI
  refine fW (cy.el J.1 _ aa2) λaju _ af adR Q4=>?_
  have iV:af.size=J.2.length:=by have:=Q4.length;simp[bM]at this;exact this
  have hZ:ek.size=bb.length:=by have:=DW.length;simp[bM]at this;exact this
  have CV:=e'.qg (eT kl)
  refine Wj adR Jl (by unfold bc;exact IU [_,_,_,_] 13380268382034978079921887064655533991613440 rfl iV hZ CV qO) ?_
  have cU:=cy.push (af:=af++ek) (ab:=bM (J.2++bb)) (Y:=0) (by
   rw[Array.toList_append,bM,gA]
   exact DW.append Q4)
  have zh:av.heap.get? dW.heap.objs.size=none:=by
   cases ba:av.heap.get? dW.heap.objs.size with
   |none=>rfl
   |some N=>
    exfalso
    have CT:dW.heap.get? dW.heap.objs.size=none:=iC (eF _)
    by_cases aH:dW.heap.objs.size∈Z
    .refine bH (cy.c6 _ (cy.hS _ aH)) λb0 e=>?_
     rw[CT]at e;cases e
    .have:=cy.keep.keep _ _ aH ba
     rw[CT]at this;cases this
  have zi:dW.heap.objs.size∉aa::g8.map (·.1):=λaI=>by
   have:∃N,dW.heap.get? dW.heap.objs.size=some N:=by
    rcases dw.mp aI with aI|aI
    .refine H aI ?_
     refine fW (cy.el aa _ yG.items) λ_ _ af bz _=>?_
     refine bH bz λY e=>?_;clear bz
     exact⟨_,e⟩
    .refine cm (kD.mp aI) λq ba a8=>?_
     have X2:q.1=dW.heap.objs.size:=a8
     refine b' X2 ?_
     refine fW (cy.el q.1 _ (yG.rows q ba)) λ_ _ af bz _=>?_
     refine bH bz λY e=>?_;clear bz
     exact⟨_,e⟩
   refine bH this λN e=>?_;clear this
   rw[iC (eF _)]at e
   cases e
  refine⟨dW.heap.objs.size::X,_,_,O,.adr dW.heap.objs.size,cU,.adr _,λf3 dA=>?_⟩
  exact agx t dA (λb ak=>.tail _ ak) (yG.row zi) (by simp) zi (af3 _) aaZ (λq ba=>t.cE q (CH q ba)) zh t.items rfl (by simp;exact bX [_,_] 2960896065081642595842610176 rfl CV qO) (DH adz (.inr zh)) (λq ba=>.inl (.tail _ (eT (CH q ba)))) GI
 refine mz (Z:=Z) (av:=av) (LJ (nX (aa:=J.1) rfl bR λc3 fF=>UY ?_))
 have cc:=bR.keeps fF
 have BF:=cc.sub jq.afR
 refine((BO (I:=I) (aW (mZ (ae:=("both",.adr J.1)::ae) t.items (M7 jq.m9))).lF (hi cF) (Yx iy) (by exact aL [_,_] 167542386946600932353 rfl be)).on _ c3 BF.jg (BF.Jb 2)).go _ _ λdW jX=>?_
 have cy:=cc.keeps jX
 cases lX:c5 with
 |nil=>
  subst lX
  simp only[q_,Kz,vx,fi,if_false]
  refine((hi (I:=I) cF).on X dW cy.c6 cy.G).go _ _ λSa e1 l2 jC=>?_
  have cU:=cy.keeps l2
  refine aC.gD jC λ_ _ bz r8=>?_
  rename_i b ek
  refine ck (bb:=[]) (g8:=[]) cU jq wQ (cP.plain bz) r8 (by simp) (λq ba=>nomatch ba) (λF=>by have B:cl [J.2]:=q4;show cl [J.2++[]];refine H (A1 _) ?_;exact B) (λL aU=>by simp at aU) s7 λoT iR ak H2 pe=>?_
  refine XW (gd:=J.2) (by simpa[canon,b3]using aO) (by simpa using ak) (e'.te (eT kl)) (by simpa using H2) pe
 |cons fV eE=>
  rw[lX]at B jq cy q4 iy aO kj uO fU wQ s7
  have ak:(!(ob dy (fV::eE)).isEmpty)=true:=rfl
  refine H ak ?_;refine H (if_pos rfl) ?_
  refine iY cy (ab:=[.adr aa]) (bI (aW t.items) cF) (wx _) (m0 W).obj (m0 W).fn λaf e1 cU r8=>?_
  refine Eb cU jq (by simp) iy B t.bd (by exact aL [_,_] 10472295475451073537 rfl bk) (by exact aL [_,_] 2680678191145584563201 rfl be) r8 λf3 cY g8 An bn aao pJ dA=>?_
  refine q7 (DQ jq An) λajv aa6 aa1 aa0=>?_
  have gX:J.1≠aa:=lY
  have aa3:((aa,cw g8)::(aa,cw (fV::eE))::M:ce).lookup J.1=some (bM J.2):=by refine H (es lY) ?_;exact wQ
  have aa4:((aa,cw g8)::(aa,cw (fV::eE))::M:ce).lookup cY.1=some (bM cY.2):=by refine H (es aa0) ?_;exact aa1
  refine fW (dA.el cY.1 _ aa4) λ_ _ ek Jl DW=>?_
  have CH:∀q∈g8,q∈ap:=λq ba=>kj q (An.mem_iff.mp (.tail _ ba))
  have tl:cl (J.2::cY.2::g8.map (·.2)):=q4.perm (by simpa using(An.map (·.2)).flatten.append_left J.2) λr aE=>by
   refine d2 aE ?_ λaE=>?_
   .exact q4.ne _ (.head _)
   .exact q4.ne r (.tail _ ((An.map (·.2)).mem_iff.mp (by simpa using aE)))
  refine ck (bb:=cY.2) dA pJ aa3 Jl DW (e'.qg (eT (kj _ aa6))) CH (λF=>tl.perm (by simp) λr aE=>?_) bn (r3 s7) λoT iR ak H2 pe=>?_
  .refine d2 aE ?_ λaE=>?_
   .intro e
    exact tl.ne J.2 (.head _) (Ex.mp e).1
   .exact tl.ne r (.tail _ (.tail _ aE))
  .have kh:=yT iy B (λq ba=>t.cE q (kj q ba)) An aao
   rw[kh]at aO
   refine XX aO ak ?_ H2 pe
   have:=tl.nodup
   rw[jH,jH, <-k8]at this
   exact(q'.mp this).1
end
section
variable{W:bj}{I:br}{ar:ah}{X:List ah}{ae:bu}{M:ce}{O:List (ah×bJ)}{Z:List ah}{av C s':aq}{aj:an->aq->Prop}{aa bl:ah}{ap:List (ah×List aZ)}{name:aZ}
set_option maxHeartbeats 1000000 in
theorem agz(t:cj W I (b8 W ar) X ae M O Z aa bl ap name av C)(cx:ap≠[]):az W.M I (bY (p5 (e6 (e6 (e6 (e6 (kx (dT W.w 207))))))) (b8 W ar)) (λao s'=>ao= .next/\nC W (b8 W ar) X Z O aa bl ap 4 name av s') aj C:=by
 have bk:=t.bk
 have be:=t.be
 have e':=t.e'
 refine mz (Z:=Z) (av:=av) (iY t.ag (ab:=[.adr aa]) (bI (aW t.items) cF) (wx _) (m0 W).obj (m0 W).fn λaf aG bG aV=>?_)
 refine Eb bG t.T cx e' t.aF t.bd (by exact aL [_,_] 10472295475451073537 rfl bk) (by exact aL [_,_] 2680678191145584563201 rfl be) aV λa5 J c5 fU B zv jq bN=>?_
 refine q7 (DQ t.T fU) λuO kl uM lY=>?_
 refine⟨X,ae,_,O,.adr J.1,bN,.adr _,λbv bR=>?_⟩
 have q4:gY (J::c5):=e'.of fU
 have fy:∀D∈J.2,e8 D:=λD aS=>e'.gV (eT kl) aS
 have CX:J.2≠[]:=e'.ne J.2 (eT kl)
 have gV:e8 name:=t.bt.gV (r:=[name]) (.head _) (by simp)
 have kj:∀q∈c5,q∈ap:=λq ba=>fU.mem_iff.mp (.tail _ ba)
 have abv:bl≠aa:=λe=>t.AU (e▸ .head _)
 have abA:bl≠J.1:=λe=>t.AU (.tail _ (e▸eT kl))
 have wQ:((aa,cw c5)::M:ce).lookup J.1=some (bM J.2):=by refine H (es lY) ?_;exact uM
 have abw:((aa,cw c5)::M:ce).lookup bl=some (bM [name]):=by refine H (es abv) ?_;exact t.word
 have Vj:=bR.sub (dk:=[(J.1,bM J.2),(bl,bM [name])]) λq ba=>by
  simp at ba
  rcases ba with rfl|rfl
  .exact wQ
  .exact abw
 have cQ:ga [(J.1,bM J.2),(bl,bM [name])] 1 (.adr J.1)= .cf J.1 (bM J.2):=by
  refine H (pP (Y:=0) (ab:=bM J.2) (by simp)) ?_
  congr 1
  conv=>rhs;rw[<-kC (bM J.2)]
  exact gZ λd _=>rfl
 have dU:ga [(J.1,bM J.2),(bl,bM [name])] 1 (.adr bl)= .cf bl (bM [name]):=by
  refine H (pP (Y:=0) (ab:=bM [name]) (by rw[es abA];simp)) ?_
  rfl
 refine mz (Z:=Z) (av:=av) (GN (zW 1 Vj (ab:=[.cf J.1 (bM J.2),cX (cq name)]) (bI (aW (mZ (ae:=("least",.adr J.1)::ae) rfl cQ)) (bI (ox (L:=0) (aW (mZ (ae:=("least",.adr J.1)::ae) t.AV dU)).lF c_ (by decide) (by decide) rfl) cF)) (YQ _) (Gw W).obj (Gw W).fn λaf c3 BF fF vc=>?_))
 have cc:=bR.keeps fF
 have aet:a3 (a0 X c3) af [.adr J.1,cX (cq name)]:=by
  refine a3.eC vc λ_ _ aT rs=>?_
  refine a3.eC rs λ_ _ bb aeX=>?_
  refine a3.eN aeX ?_
  cases aT
  exact .cons (.adr _) (.cons (BF.afd (DR name) bb) .nil)
 refine ae5 cc wQ CX fy gV (e'.qg (eT kl)) (t.cE J kl) t.bd (by exact aL [_,_] 10472295475451073537 rfl bk) (by exact aL [_,_] 2680678191145584563201 rfl be) aet λv dW m dM o9 kO aI cy ez=>?_
 refine(AX (ab:=[cX (cq m)]) cy.c6 (.cons ez .nil) (by simp[bc])).go _ _ λSa e1 l2 jC=>?_
 refine⟨X,_,_,O,_,cy.keeps l2,jC,λf3 dA=>?_⟩
 have pJ:gC ((J.1,bM dM)::(aa,cw c5)::M) aa c5:=jq.row uO
 have aO:=yT e' t.aF t.cE fU zv
 have H3:J.1∈aa::bl::ap.map (·.1):=.tail _ (.tail _ (eT kl))
 have s7:∀a,((J.1,bM dM)::(aa,cw c5)::M:ce).lookup a≠none->a∈aa::bl::ap.map (·.1)\/av.heap.get? a=none:=DH (r3 λa ha=>.inl (t.only a ha)) (.inl H3)
 have tl:cl ([name]::J.2::c5.map (·.2)):=cl.perm t.bt (by simpa using((fU.map (·.2)).flatten.cons name)) λr aE=>by
  refine d2 aE ?_ λaE=>?_
  .simp
  .exact e'.ne r ((fU.map (·.2)).mem_iff.mp (by simpa using aE))
 have cO:(name::J.2).Nodup:=by
  have:=tl.nodup
  rw[jH,jH, <-k8]at this
  exact(q'.mp this).1
 have oO:dM≠[]:=λe=>by
  subst e
  have:=o9.length_eq
  cases ba:J.2 with
  |nil=>exact CX ba
  |cons _ _=>rw[ba]at this;simp at this
 have tk:gY ((J.1,dM)::c5):=cl.part tl (l:=[m]) (by
  refine oc.mpr λau=>?_
  have:=o9.count_eq au
  simp[nf,pk]at this ⊢
  exact aL [_,_,_,_,_] 9149714638172770439332866 rfl this) λr aE=>by
  rcases dw.mp aE with aE|aE
  .refine H aE ?_;exact oO
  .exact tl.ne r (.tail _ (.tail _ aE))
 refine p6 (iY dA (ab:=[.adr aa,.adr J.1]) (bI (aW t.items) (bI (aW rfl) cF)) (Cm _) (rD W).obj (rD W).fn λaf hP fm Ju=>?_)
 refine Ec (D:=(J.1,dM)) fm pJ (by simp) uO tk B t.bd (by exact aL [_,_] 10472295475451073537 rfl bk) (by exact aL [_,_] 2680678191145584563201 rfl be) Ju λpa g8 r7 bn yF hV=>?_
 refine dq ⟨rfl,?_⟩
 have pe:=tk.of r7
 refine d8 (XY (name:=name) (cV:=g8.map (·.2)) aO o9 cO aI (by simpa using r7.map (·.2)) pe) λh1 aA=>?_
 refine⟨X,_,_,g8,_,hV,λ_ B=>B,yF,pe,sK.mp bn,λq ba=>?_,rfl,t.items,(λa e=>nomatch e),h1,aA,λq ba=>?_,r3 s7⟩
 .refine d2 (r7.mem_iff.mp ba) ?_ λba=>?_
  .exact kO
  .exact t.cE q (kj q ba)
 .refine d2 (r7.mem_iff.mp ba) ?_ λba=>?_
  .exact .inl (.tail _ (show J.1∈ap.map (·.1)from eT kl))
  .exact .inl (.tail _ (eT (kj q ba)))
end
section
variable{W:bj}{I:br}{ar:ah}{X:List ah}{ae:bu}{M:ce}{O:List (ah×bJ)}{Z:List ah}{av C s':aq}{aj:an->aq->Prop}{aa bl:ah}{ap:List (ah×List aZ)}{name:aZ}{l0:List bB}{ai:fj->aq->Prop}
theorem Qg{env:bB}(ag:aP W env X ae M O Z av C)(T:gC M aa []):C.heap.PlainList aa #[]:=by
 refine fW (ag.el aa _ T.items) λ_ _ af bz aV=>?_
 have:af=#[]:=by
  have:=aV.length
  simpa[cw]using this
 subst this
 exact bz
theorem Jm{am:ay}{py cB cY eM eP:bp}{aJ:List cT}(t:cj W I (b8 W ar) X ae M O Z aa bl [] name av C)(de:I.frames=some (b8 W ar::l0))(F:i5 l0 O)(iU:∀a5 bv e,aP W (b8 W ar) X ae M O Z av a5->mc (b8 W ar::l0) "IndexError" (λbi=>∃bq,bi=[.str "pop from empty list" bq]) a5 bv e->aj (.ref e) bv)(aS:autoParam ((b8 W ar).kindOf am=some .local) tR)(hd:autoParam ((am==("__debug__":ay))=false) tD)(a9:autoParam (iE (.Call (.Name "heappop" cB) [.Name "items" cY] [] eM) (some (.Name am py)) eP.line (b8 W ar)=pure false) tR):az W.M I (bY (.Assign [.Name am py] (.Call (.Name "heappop" cB) [.Name "items" cY] [] eM) eP::aJ) (b8 W ar)) ai aj C:=by
 have bk:=t.bk
 refine mz (Z:=Z) (av:=av) (iY t.ag (ab:=[.adr aa]) (bI (aW t.items) cF) (wx _) (m0 W).obj (m0 W).fn λaf aG bG aV=>?_) aS hd a9
 exact Xc t.bd (by exact aL [_,_] 159794547660097 rfl bk) de bG.c6 bG.G.base (Qg bG t.T) (F.uq bG rfl rfl) aV λbv e gU=>iU aG bv e bG gU
theorem agt(t:cj W I (b8 W ar) X ae M O Z aa bl [] name av C)(de:I.frames=some (b8 W ar::l0))(F:i5 l0 O)(iU:∀a5 bv e,aP W (b8 W ar) X ae M O Z av a5->mc (b8 W ar::l0) "IndexError" (λbi=>∃bq,bi=[.str "pop from empty list" bq]) a5 bv e->aj (.ref e) bv):az W.M I (bY (p5 (e6 (kx (dT W.w 207)))) (b8 W ar)) ai aj C:=Jm t de F iU
theorem agy(t:cj W I (b8 W ar) X ae M O Z aa bl [] name av C)(de:I.frames=some (b8 W ar::l0))(F:i5 l0 O)(iU:∀a5 bv e,aP W (b8 W ar) X ae M O Z av a5->mc (b8 W ar::l0) "IndexError" (λbi=>∃bq,bi=[.str "pop from empty list" bq]) a5 bv e->aj (.ref e) bv):az W.M I (bY (p5 (e6 (e6 (e6 (kx (dT W.w 207)))))) (b8 W ar)) ai aj C:=Jm t de F iU
theorem agA(t:cj W I (b8 W ar) X ae M O Z aa bl [] name av C)(de:I.frames=some (b8 W ar::l0))(F:i5 l0 O)(iU:∀a5 bv e,aP W (b8 W ar) X ae M O Z av a5->mc (b8 W ar::l0) "IndexError" (λbi=>∃bq,bi=[.str "pop from empty list" bq]) a5 bv e->aj (.ref e) bv):az W.M I (bY (p5 (e6 (e6 (e6 (e6 (kx (dT W.w 207))))))) (b8 W ar)) ai aj C:=Jm t de F iU
theorem agv(t:cj W I (b8 W ar) X ae M O Z aa bl [] name av C)(de:I.frames=some (b8 W ar::l0))(F:i5 l0 O)(iU:∀a5 bv e,aP W (b8 W ar) X ae M O Z av a5->mc (b8 W ar::l0) "IndexError" (λbi=>∃bq,bi=[.str "list index out of range" bq]) a5 bv e->aj (.ref e) bv):az W.M I (bY (p5 (e6 (e6 (kx (dT W.w 207))))) (b8 W ar)) ai aj C:=by
 have bk:=t.bk
 refine mz (Z:=Z) (av:=av) (B8 t.ag.G rfl (B3 _) B6 (iY t.ag (ab:=[.adr aa,.adr bl]) (bI (aW t.items) (bI (aW t.AV) cF)) (ND _) (wn W).obj (wn W).fn λaf aG bG aV=>?_))
 exact Xd t.bd (by lia) de bG.c6 bG.G.base (Qg bG t.T) (F.uq bG rfl rfl) aV λbv e gU=>iU aG bv e bG gU
theorem agB{aw:ay}(t:cj W I (b8 W ar) X ae M O Z aa bl ap name av C)(iW:ae.lookup ("text":ay)=some (.str aw))(de:I.frames=some (b8 W ar::l0))(F:i5 l0 O)(iU:∀a5 bv e,aP W (b8 W ar) X ae M O Z av a5->mc (b8 W ar::l0) "AssertionError" (λbi=>bi=[]) a5 bv e->aj (.ref e) bv):az W.M I (bY (e6 (e6 (e6 (e6 (e6 (kx (dT W.w 207))))))) (b8 W ar)) ai aj C:=by
 have bk:=t.bk
 refine mz (Z:=Z) (av:=av) (iY t.ag (ab:=[.str aw]) (bI (aW iW) cF) (NI _) (wo W).obj (wo W).fn λaf aG bG aV=>?_)
 exact Xg t.bd (by lia) de bG.c6 bG.G.base (F.uq bG rfl rfl) aV λbv e gU=>iU aG bv e bG gU
end
section
variable{W:bj}{I:br}{ar:ah}{X:List ah}{ae:bu}{M:ce}{O:List (ah×bJ)}{Z:List ah}{av C s':aq}{aa bl:ah}{ap:List (ah×List aZ)}{name:aZ}{l0:List bB}
theorem Ra{env:bB}{X0:List ah}(ag:aP W env X ae M O Z av C)(T:gC M aa ap)(aQ:∀b∈X0,b∈X)(cn:aa∉X0)(aU:∀J∈ap,J.1∉X0):aC (a0 X0 C) (.ref aa) (.list ((ap.map (·.2)).map k4)):=by
 have er:dS (a0 X C) (a0 X0 C):=jZ aQ
 refine fW (ag.el aa _ T.items) λ_ _ af bz aV=>?_
 refine bH bz λY e=>?_;clear bz
 refine .list ⟨Y,ei _ e cn⟩ ?_
 have aE:=T.rows
 generalize af.toList=ew at aV
 clear e T
 induction ap generalizing ew with
 |nil=>cases aV;exact .nil
 |cons J ap bf=>
  refine a3.eC aV λ_ _ aT rs=>?_
  cases aT
  refine fW (ag.el J.1 _ (aE J (.head _))) λ_ _ ek qX ks=>?_
  refine bH qX λdD bm=>?_;clear qX
  exact .cons (.list ⟨dD,ei _ bm (aU J (.head _))⟩ (ks.mono er)) (bf (λq ba=>aU q (.tail _ ba)) (λq ba=>aE q (.tail _ ba)) _ rs)
noncomputable def ka(aa bl:ah)(ap:List (ah×List aZ))(name:aZ):ce:=(aa,cw ap)::(bl,bM [name])::db ap
theorem FQ(aa bl:ah)(ap:List (ah×List aZ))(name:aZ):(ka aa bl ap name).map (·.1)=aa::bl::ap.map (·.1):=by
 unfold ka db
 refine H ef ?_;refine H ef ?_;refine H dY ?_
 rfl
theorem l4{d9:Type}{l:List (ah×d9)}{a:ah}{d:d9}(B:l.lookup a=some d):(a,d)∈l:=by
 induction l with
 |nil=>cases B
 |cons J r bf=>
  rw[c1]at B
  cases aS:a==J.1 with
  |true=>rw[aS]at B;cases B;have:=eq_of_beq aS;subst this;exact .head _
  |false=>rw[aS]at B;exact .tail _ (bf B)
theorem Nj(w:c4):dF (cZ w) dh "IndexError"=some none:=by kernel_rfl
theorem Yp(w:c4):dF (cZ w) dh "AssertionError"=some none:=by kernel_rfl
theorem MI:iD "IndexError"=some (.type "IndexError"):=by kernel_rfl
theorem WO:iD "AssertionError"=some (.type "AssertionError"):=by kernel_rfl
theorem RP:oe "IndexError" (.type "BaseException")=some true:=by decide+kernel
theorem RQ:oe ((Fc "IndexError").elim "type" λam=>am.metatype) (.type "tuple")=some false:=by decide+kernel
theorem afX:oe "IndexError" (.type "IndexError")=some true:=by decide+kernel
theorem afS:oe "AssertionError" (.type "BaseException")=some true:=by decide+kernel
theorem afT:oe ((Fc "AssertionError").elim "type" λam=>am.metatype) (.type "tuple")=some false:=by decide+kernel
theorem afU:oe "AssertionError" (.type "AssertionError")=some true:=by decide+kernel
theorem afV:oe "AssertionError" (.type "IndexError")=some false:=by decide+kernel
theorem zU{env:bB}{V:a'}{body kX:List cT}{al:bp}{ai:fj->aq->Prop}{aj:an->aq->Prop}(ag:aP W env X ae M O Z av C)(aO:ej W I env ae V false)(next:∀s',aP W env X ae M O Z av s'->az W.M I (bY kX env) ai aj s'):az W.M I (bY [.If V body kX al] env) ai aj C:=by
 refine m8 ag aO λaG bG=>?_
 simp only[fi,if_false]
 refine fe (next aG bG) (λao a5 B=>?_) λ_ _ D=>D
 cases ao<;>first |exact dq B|exact B
theorem zV{env:bB}{V:a'}{body kX:List cT}{al:bp}{ai:fj->aq->Prop}{aj:an->aq->Prop}(ag:aP W env X ae M O Z av C)(aO:ej W I env ae V true)(next:∀s',aP W env X ae M O Z av s'->az W.M I (bY body env) ai aj s'):az W.M I (bY [.If V body kX al] env) ai aj C:=by
 refine m8 ag aO λaG bG=>?_
 simp only[if_true]
 refine fe (next aG bG) (λao a5 B=>?_) λ_ _ D=>D
 cases ao<;>first |exact dq B|exact B
theorem z5{env:bB}{e:a'}{al cY:bp}{k}{kind V:Nat}(B:aY W I env ae e (.int (kind:Int)))(hk:kind≠V):ej W I env ae (.Compare e [.Eq] [.Constant (.int (V:Int)) k cY] al) false:=by
 have:=pG (I:=I) (al:=al) B (c_ (L:=(V:Int)) (k:=k) (al:=cY))
 rw[sz kind V,decide_eq_false hk]at this
 exact this
theorem z6{env:bB}{e:a'}{al cY:bp}{k}{V:Nat}(B:aY W I env ae e (.int (V:Int))):ej W I env ae (.Compare e [.Eq] [.Constant (.int (V:Int)) k cY] al) true:=by
 have:=pG (I:=I) (al:=al) B (c_ (L:=(V:Int)) (k:=k) (al:=cY))
 rw[sz V V,decide_eq_true rfl]at this
 exact this
theorem cj.at(t:cj W I (b8 W ar) X ae M O Z aa bl ap name av C)(ag:aP W (b8 W ar) X ae M O Z av s'):cj W I (b8 W ar) X ae M O Z aa bl ap name av s':=⟨ag,t.T,t.word,t.AU,t.bt,t.aF,t.cE,t.items,t.AV,t.bd,t.bk,t.be,t.only⟩
noncomputable def uo(kind:Nat):ay:=if kind=2 then "list index out of range"else "pop from empty list"
section
variable{aj:an->aq->Prop}{ai:fj->aq->Prop}{kind:Nat}{aw:ay}
noncomputable abbrev ij(W:bj)(ar:ah)(X:List ah)(ae:bu)(M:ce)(O:List (ah×bJ))(Z:List ah)(av:aq)(l0:List bB)(aj:an->aq->Prop)(m:ay):Prop:=
 ∀a5 bv e,aP W (b8 W ar) X ae M O Z av a5->mc (b8 W ar::l0) "IndexError" (λbi=>∃bq,bi=[.str m bq]) a5 bv e->aj (.ref e) bv
noncomputable abbrev wB(W:bj)(ar:ah)(X:List ah)(ae:bu)(M:ce)(O:List (ah×bJ))(Z:List ah)(av:aq)(l0:List bB)(aj:an->aq->Prop):Prop:=
 ∀a5 bv e,aP W (b8 W ar) X ae M O Z av a5->mc (b8 W ar::l0) "AssertionError" (λbi=>bi=[]) a5 bv e->aj (.ref e) bv
theorem XA(t:cj W I (b8 W ar) X ae M O Z aa bl ap name av C)(iW:ae.lookup ("text":ay)=some (.str aw))(de:I.frames=some (b8 W ar::l0))(F:i5 l0 O)(mE:wB W ar X ae M O Z av l0 aj):az W.M I (bY (e6 (e6 (e6 (e6 (e6 (kx (dT W.w 207))))))) (b8 W ar)) ai aj C:=agB t iW de F mE
theorem Xz(t:cj W I (b8 W ar) X ae M O Z aa bl ap name av C)(hk:kind<6)(oM:¬kind=0/\¬kind=1/\¬kind=2/\¬kind=3)(jT:ae.lookup ("kind":ay)=some (.int (kind:Int)))(iW:ae.lookup ("text":ay)=some (.str aw))(de:I.frames=some (b8 W ar::l0))(F:i5 l0 O)(n2:∀s',nC W (b8 W ar) X Z O aa bl ap kind name av s'->ai .next s')(k3:ap=[]->0<kind/\kind<5->ij W ar X ae M O Z av l0 aj (uo kind))(mE:kind=5->wB W ar X ae M O Z av l0 aj):az W.M I (bY (e6 (e6 (e6 (e6 (kx (dT W.w 207)))))) (b8 W ar)) ai aj C:=by
 by_cases aQ:kind=4
 .subst aQ
  refine zV t.ag (z6 (V:=4) (aW jT)) λc3 cc=>?_
  by_cases lX:ap=[]
  .subst lX
   exact agA (t.at cc) de F (k3 rfl (by decide))
  .refine fe (agz (t.at cc) lX) (λao s' B=>?_) λ_ _ D=>D
   refine d8 B λg7 kv=>?_;clear B;subst g7
   exact n2 s' kv
 .exact zU t.ag (z5 (V:=4) (aW jT) aQ) λbv bR=>XA (t.at bR) iW de F (mE ((show∀k,k<6->(¬k=0/\¬k=1/\¬k=2/\¬k=3)->¬k=4->k=5 by decide) kind hk oM aQ))
theorem Xy(t:cj W I (b8 W ar) X ae M O Z aa bl ap name av C)(hk:kind<6)(oM:¬kind=0/\¬kind=1/\¬kind=2)(jT:ae.lookup ("kind":ay)=some (.int (kind:Int)))(iW:ae.lookup ("text":ay)=some (.str aw))(de:I.frames=some (b8 W ar::l0))(F:i5 l0 O)(n2:∀s',nC W (b8 W ar) X Z O aa bl ap kind name av s'->ai .next s')(k3:ap=[]->0<kind/\kind<5->ij W ar X ae M O Z av l0 aj (uo kind))(mE:kind=5->wB W ar X ae M O Z av l0 aj):az W.M I (bY (e6 (e6 (e6 (kx (dT W.w 207))))) (b8 W ar)) ai aj C:=by
 by_cases aQ:kind=3
 .subst aQ
  refine zV t.ag (z6 (V:=3) (aW jT)) λc3 cc=>?_
  by_cases lX:ap=[]
  .subst lX
   exact agy (t.at cc) de F (k3 rfl (by decide))
  .refine fe (agw (t.at cc) lX) (λao s' B=>?_) λ_ _ D=>D
   refine d8 B λg7 kv=>?_;clear B;subst g7
   exact n2 s' kv
 .exact zU t.ag (z5 (V:=3) (aW jT) aQ) λbv bR=>Xz (t.at bR) hk ⟨oM.1,oM.2.1,oM.2.2,aQ⟩ jT iW de F n2 k3 mE
theorem Xx(t:cj W I (b8 W ar) X ae M O Z aa bl ap name av C)(hk:kind<6)(oM:¬kind=0/\¬kind=1)(jT:ae.lookup ("kind":ay)=some (.int (kind:Int)))(iW:ae.lookup ("text":ay)=some (.str aw))(de:I.frames=some (b8 W ar::l0))(F:i5 l0 O)(n2:∀s',nC W (b8 W ar) X Z O aa bl ap kind name av s'->ai .next s')(k3:ap=[]->0<kind/\kind<5->ij W ar X ae M O Z av l0 aj (uo kind))(mE:kind=5->wB W ar X ae M O Z av l0 aj):az W.M I (bY (e6 (e6 (kx (dT W.w 207)))) (b8 W ar)) ai aj C:=by
 by_cases aQ:kind=2
 .subst aQ
  refine zV t.ag (z6 (V:=2) (aW jT)) λc3 cc=>?_
  by_cases lX:ap=[]
  .subst lX
   exact agv (t.at cc) de F (k3 rfl (by decide))
  .refine fe (agu (t.at cc) lX) (λao s' B=>?_) λ_ _ D=>D
   refine d8 B λg7 kv=>?_;clear B;subst g7
   exact n2 s' kv
 .exact zU t.ag (z5 (V:=2) (aW jT) aQ) λbv bR=>Xy (t.at bR) hk ⟨oM.1,oM.2,aQ⟩ jT iW de F n2 k3 mE
theorem Xw(t:cj W I (b8 W ar) X ae M O Z aa bl ap name av C)(hk:kind<6)(oM:¬kind=0)(jT:ae.lookup ("kind":ay)=some (.int (kind:Int)))(iW:ae.lookup ("text":ay)=some (.str aw))(de:I.frames=some (b8 W ar::l0))(F:i5 l0 O)(n2:∀s',nC W (b8 W ar) X Z O aa bl ap kind name av s'->ai .next s')(k3:ap=[]->0<kind/\kind<5->ij W ar X ae M O Z av l0 aj (uo kind))(mE:kind=5->wB W ar X ae M O Z av l0 aj):az W.M I (bY (e6 (kx (dT W.w 207))) (b8 W ar)) ai aj C:=by
 by_cases aQ:kind=1
 .subst aQ
  refine zV t.ag (z6 (V:=1) (aW jT)) λc3 cc=>?_
  by_cases lX:ap=[]
  .subst lX
   exact agt (t.at cc) de F (k3 rfl (by decide))
  .refine fe (ags (t.at cc) lX) (λao s' B=>?_) λ_ _ D=>D
   refine d8 B λg7 kv=>?_;clear B;subst g7
   exact n2 s' kv
 .exact zU t.ag (z5 (V:=1) (aW jT) aQ) λbv bR=>Xx (t.at bR) hk ⟨oM,aQ⟩ jT iW de F n2 k3 mE
theorem Xv(t:cj W I (b8 W ar) X ae M O Z aa bl ap name av C)(hk:kind<6)(jT:ae.lookup ("kind":ay)=some (.int (kind:Int)))(iW:ae.lookup ("text":ay)=some (.str aw))(de:I.frames=some (b8 W ar::l0))(F:i5 l0 O)(n2:∀s',nC W (b8 W ar) X Z O aa bl ap kind name av s'->ai .next s')(k3:ap=[]->0<kind/\kind<5->ij W ar X ae M O Z av l0 aj (uo kind))(mE:kind=5->wB W ar X ae M O Z av l0 aj):az W.M I (bY (kx (dT W.w 207)) (b8 W ar)) ai aj C:=by
 by_cases aQ:kind=0
 .subst aQ
  refine zV t.ag (z6 (V:=0) (aW jT)) λc3 cc=>?_
  refine fe (agr (t.at cc)) (λao s' B=>?_) λ_ _ D=>D
  refine d8 B λg7 kv=>?_;clear B;subst g7
  exact n2 s' kv
 .exact zU t.ag (z5 (V:=0) (aW jT) aQ) λbv bR=>Xw (t.at bR) hk aQ jT iW de F n2 k3 mE
set_option tactic.hygienic true in
noncomputable def R4(l:List cT):List xZ:=by
 cases l.getD 1 (.Pass ⟨0,0,0,0⟩)
 case Try _ a9 _ _ _=>exact a9
 all_goals exact []
variable{cI:List (ah×bJ)}{e:ah}
theorem acq{m:ay}(ag:aP W (b8 W ar) X ae M O Z av C)(iW:ae.lookup ("text":ay)=some (.str aw))(de:I.frames=some (b8 W ar::l0))(pE:i5 l0 O)(be:I.units+10<c7)(kN:∀b∈dx l0,b∈X/\b∈Z/\M.lookup b=none)(gq:∀a N,cI.lookup a=some N->O.lookup a=some N/\a∉dx l0)(gU:mc (b8 W ar::l0) "IndexError" (λbi=>∃bq,bi=[.str m bq]) C s' e)(q:∀v s',aP W (b8 W ar) X [] M cI Z av s'->aC (a0 X s') v (.tuple [oD "IndexError" m,.str aw])->(∀b,b≠(b8 W ar).locals->∀N,C.heap.get? b=some N->(∀af,N.data≠ .fields af)->∃ct,s'.heap.get? b=some {N with slots:=ct})->ai (.ret v) s'):az W.M I (yc (.ref e) (b8 W ar)) (λ_ a5=>az W.M I (FA (.ref e) none) (λ_ bv=>az W.M I (tO (.ref e) (b8 W ar) (R4 (dT W.w 207))) ai aj bv) aj a5) aj s':=
 PA ag rfl kN (pE.uq ag rfl rfl) de gU gq λf3 vo args dA m2 cp uN up same=>
  MV (base:=C.heap) ag rfl kN (pE.uq ag rfl rfl) m2.2.2.1 dA m2 cp up same gq aiU (.inl uN) be iW (Nj _) MI RP RQ afX q
theorem acp(ag:aP W (b8 W ar) X ae M O Z av C)(iW:ae.lookup ("text":ay)=some (.str aw))(de:I.frames=some (b8 W ar::l0))(pE:i5 l0 O)(be:I.units+10<c7)(kN:∀b∈dx l0,b∈X/\b∈Z/\M.lookup b=none)(gq:∀a N,cI.lookup a=some N->O.lookup a=some N/\a∉dx l0)(gU:mc (b8 W ar::l0) "AssertionError" (λbi=>bi=[]) C s' e)(q:∀v s',aP W (b8 W ar) X [] M cI Z av s'->aC (a0 X s') v (.tuple [oD "AssertionError" "",.str aw])->(∀b,b≠(b8 W ar).locals->∀N,C.heap.get? b=some N->(∀af,N.data≠ .fields af)->∃ct,s'.heap.get? b=some {N with slots:=ct})->ai (.ret v) s'):az W.M I (yc (.ref e) (b8 W ar)) (λ_ a5=>az W.M I (FA (.ref e) none) (λ_ bv=>az W.M I (tO (.ref e) (b8 W ar) (R4 (dT W.w 207))) ai aj bv) aj a5) aj s':=by
 refine PA ag rfl kN (pE.uq ag rfl rfl) de gU gq λf3 vo args dA m2 cp uN up same=>?_
 have dI:f3.TypeIs (.ref e) "AssertionError":=let⟨dE,a6,aO⟩:=m2.there;⟨dE,a6,aO⟩
 refine XB dA.G dI (Nj _) MI RP RQ afV ?_
 exact MV (base:=C.heap) ag rfl kN (pE.uq ag rfl rfl) m2.2.2.1 dA m2 cp up same gq aiT (.inr ⟨uN,rfl⟩) be iW (Yp _) WO afS afT afU q
theorem agC{aJ:List cT}(H8:aJ=(dT W.w 207).drop 2)(t:cj W I (b8 W ar) X ae M O Z aa bl ap name av C)(hk:kind<6)(jT:ae.lookup ("kind":ay)=some (.int (kind:Int)))(iW:ae.lookup ("text":ay)=some (.str aw))(de:I.frames=some (b8 W ar::l0))(pE:i5 l0 O)(kN:∀b∈dx l0,b∈X/\b∈Z/\M.lookup b=none)(gq:∀a N,cI.lookup a=some N->O.lookup a=some N/\a∉dx l0)(adl:∀s',nC W (b8 W ar) X Z O aa bl ap kind name av s'->az W.M I (bY aJ (b8 W ar)) ai aj s')(Q5:∀aX m bv,i9 kind (canon (ap.map (·.2))) name=oD aX m->ig kind (canon (ap.map (·.2))) name=canon (ap.map (·.2))->aP W (b8 W ar) X ae M O Z av bv->∀v s',aP W (b8 W ar) X [] M cI Z av s'->aC (a0 X s') v (.tuple [oD aX m,.str aw])->(∀b,b≠(b8 W ar).locals->∀N,bv.heap.get? b=some N->(∀af,N.data≠ .fields af)->∃ct,s'.heap.get? b=some {N with slots:=ct})->ai (.ret v) s'):az W.M I (bY ((dT W.w 207).drop 1) (b8 W ar)) ai aj C:=by
 subst H8
 have Pk:I.units+10<c7:=by have:=t.be;exact aL [_,_] 167542386946608272385 rfl this
 refine ab1 (body:=kx (dT W.w 207)) (aJ:=(dT W.w 207).drop 2) ?_
 refine Xv t hk jT iW de pE (λs' kv=>adl s' kv) (λa_ CJ bv c3 e bR gU=>?_) (λfq bv c3 e bR gU=>?_)
 .subst a_
  have uE:i9 kind (canon (([]:List (ah×List aZ)).map (·.2))) name=oD "IndexError" (uo kind):=by
   unfold i9 uo
   refine H (if_neg (by exact hA (aL [_] 159777415303489 rfl CJ.2))) ?_;refine H (if_neg (by exact gR (aL [_] 623845130257 rfl CJ.1))) ?_
   rfl
  have uD:ig kind (canon (([]:List (ah×List aZ)).map (·.2))) name=canon (([]:List (ah×List aZ)).map (·.2)):=by
   unfold ig
   refine H (if_neg (by exact hA (aL [_] 159777415303489 rfl CJ.2))) ?_;refine H (if_neg (by exact gR (aL [_] 623845130257 rfl CJ.1))) ?_
   rfl
  exact acq (cI:=cI) bR iW de pE Pk kN gq gU (Q5 _ _ bv uE uD bR)
 .subst fq
  exact acp (cI:=cI) bR iW de pE Pk kN gq gU (Q5 _ _ bv rfl rfl bR)
end
end
section
variable{W:bj}{I:br}{ar:ah}{X:List ah}{ae:bu}{M:ce}{O:List (ah×bJ)}{Z:List ah}{av C s':aq}{aa bl:ah}{ap:List (ah×List aZ)}{name:aZ}{l0:List bB}
structure Wc (W:bj) (X0:List ah) (Z:List ah) (dO:List (ah×bJ)) (aa:ah) (rows:List (List aZ)) (kind:Nat) (name:aZ) (C:aq) (v:an) (s':aq):Prop where
 c2:cC Z C s'
 gl:∃a7,s'.heap.get? 72=some (cb a7)/\f' 29 49 a7
 gs:∃a7,s'.heap.get? 89=some (cb a7)/\f' 60 50 a7
 fr:∀b N,dO.lookup b=some N->∃ct,s'.heap.get? b=some {N with slots:=ct}
 out:∃c5,aC (a0 X0 s') (.ref aa) (.list (c5.map k4))/\aC (a0 X0 s') v (.tuple [i9 kind rows name,.str (g9 c5)])/\ig kind rows name=canon c5/\cl c5/\e9 (c5.map hd)/\(∀r∈c5,e9 r)
set_option maxHeartbeats 4000000 in
theorem Xh{kind:Nat}{d6 d7:Array an}{dO:List (ah×bJ)}{X0:List ah}{af:List an}{ai:an->aq->Prop}{aj:an->aq->Prop}(bd:I.handled=none)(bk:I.depth+8<d3)(be:I.units+40<c7)(de:I.frames=some l0)(aK:c0 X C)(bQ:eg W (a0 X C))(gF:∀J∈ka aa bl ap name,J.1∈X/\∃af,C.heap.PlainList J.1 af/\a3 (a0 X C) af.toList J.2)(cO:(aa::bl::ap.map (·.1)).Nodup)(eZ:(72:ah)∈X)(ft:(89:ah)∈X)(gl:C.heap.get? 72=some (cb d6))(lE:f' 29 49 d6)(gs:C.heap.get? 89=some (cb d7))(nd:f' 60 50 d7)(F:i5 l0 dO)(rM:∀a N,dO.lookup a=some N->C.heap.get? a=some N/\a∈dx l0/\∃b9 f2,N.data= .dict b9 f2)(wJ:∀b∈dx l0,b∈X)(bt:gY ((bl,[name])::ap))(aF:e9 ((ap.map (·.2)).map hd))(cE:∀J∈ap,e9 J.2)(hk:kind<6)(lr:∀b∈X0,b∈X)(Hq:∀b∈X0,b∉aa::bl::ap.map (·.1))(aV:a3 (a0 X C) af [.int kind,.adr aa,.str (g9 (ap.map (·.2))),.adr bl])(q:∀v s',Wc W X0 (aa::bl::ap.map (·.1)++72::89::dx l0) dO aa (canon (ap.map (·.2))) kind name C v s'->ai v s'):az W.M I (df (.ref 207) af) ai aj C:=by
 have aaI:∀a ab,(ka aa bl ap name).lookup a=some ab->∀N,C.heap.get? a=some N->∃aR Y,N.data= .seq aR Y:=λa ab e N a6=>by
  refine jl (gF (a,ab) (l4 e)) λ_ af rT _=>?_;obtain⟨Y,bm⟩:=rT
  have e3:C.heap.get? a=_:=bm
  rw[e3]at a6
  cases a6
  exact⟨_,_,rfl⟩
 have HX:∀a N,C.heap.get? a=some N->(∀aR Y,N.data≠ .seq aR Y)->(ka aa bl ap name).lookup a=none:=λa N a6 a_=>by
  cases ba:(ka aa bl ap name).lookup a with
  |none=>rfl
  |some ab=>
   refine jF (aaI a ab ba N a6) λaR Y e=>?_
   exact absurd e (a_ aR Y)
 have acY:=HX 72 _ gl (λaR Y e=>by cases e)
 have acZ:=HX 89 _ gs (λaR Y e=>by cases e)
 have HI:∀b∈dx l0,∃N,dO.lookup b=some N:=λb ak=>by
  refine cm (EF.mp ak) λe bw b2=>?_
  refine xA (F e bw) λ_ t6 N h1 aA _=>?_
  rw[h1]at b2
  cases b2
  exact⟨N,aA⟩
 have OD:∀b∈dx l0,(ka aa bl ap name).lookup b=none:=λb ak=>by
  refine bH (HI b ak) λN a6=>?_
  refine El (rM b N a6) λh1 _ b9 f2 aA=>?_
  exact HX b N h1 λaR Y e=>by rw[aA]at e;cases e
 have u9:(72:ah)∉dx l0:=λB=>by
  refine bH (HI _ B) λN a6=>?_
  refine El (rM _ N a6) λh1 _ b9 f2 aA=>?_
  rw[gl]at h1
  cases h1
  cases aA
 have s4:(89:ah)∉dx l0:=λB=>by
  refine bH (HI _ B) λN a6=>?_
  refine El (rM _ N a6) λh1 _ b9 f2 aA=>?_
  rw[gs]at h1
  cases h1
  cases aA
 have lp:∀a N,((72,cb d6)::(89,cb d7)::dO).lookup a=some N->C.heap.get? a=some N/\(ka aa bl ap name).lookup a=none:=λa N e=>by
  rw[c1]at e
  cases ha:a==(72:ah)with
  |true=>rw[ha]at e;cases e;have:=(eq_of_beq ha).symm;subst this;exact⟨gl,acY⟩
  |false=>
   rw[ha]at e
   rw[c1]at e
   cases Hs:a==(89:ah)with
   |true=>rw[Hs]at e;cases e;have:=(eq_of_beq Hs).symm;subst this;exact⟨gs,acZ⟩
   |false=>
    rw[Hs]at e
    refine fb (rM a N e) λh1 aA _=>?_
    exact⟨h1,OD a aA⟩
 have Hb:∀a,a∈dx l0->((72,cb d6)::(89,cb d7)::dO).lookup a=dO.lookup a:=λa ha=>by
  have h1:a≠72:=λe=>u9 (e▸ha)
  have aA:a≠89:=λe=>s4 (e▸ha)
  refine H (es h1) ?_;refine H (es aA) ?_;rfl
 have pE:i5 l0 ((72,cb d6)::(89,cb d7)::dO):=λe bw=>by
  refine xA (F e bw) λh1 t6 N aA bn cK=>?_
  refine⟨h1,t6,N,aA,?_,cK⟩
  refine H (Hb t6 (EF.mpr ⟨e,bw,aA⟩)) ?_
  exact bn
 have N6:∀J∈ka aa bl ap name,J.1∈aa::bl::ap.map (·.1):=λJ aF=>by
  refine b' (FQ aa bl ap name) ?_
  exact eT aF
 have ajx:(72:ah)∈aa::bl::ap.map (·.1)++72::89::dx l0:=jI _ (.head _)
 have abE:(89:ah)∈aa::bl::ap.map (·.1)++72::89::dx l0:=jI _ (.tail _ (.head _))
 have abG:∀b∈dx l0,b∈aa::bl::ap.map (·.1)++72::89::dx l0:=λb ak=>jI _ (.tail _ (.tail _ ak))
 have nS:∀b∈aa::bl::ap.map (·.1)++72::89::dx l0,b∈X:=λb ak=>by
  rcases fC.mp ak with ak|ak
  .rw[<-FQ aa bl ap name]at ak
   refine dQ ak λJ aF=>?_
   exact(gF J aF).1
  .refine d2 ak ?_ λak=>?_
   .exact eZ
   .refine d2 ak ?_ λak=>?_
    .exact ft
    .exact wJ b ak
 refine m7 (Z:=aa::bl::ap.map (·.1)++72::89::dx l0) (M:=ka aa bl ap name) (O:=(72,cb d6)::(89,cb d7)::dO) (GC W) rfl (by exact aL [_,_] 159807432561985 rfl bk) aK bQ aV nS (λa ab e=>⟨k9 _ (N6 _ (l4 e)),(gF _ (l4 e)).2⟩) lp λar aG bG=>?_
 have cA:(I.deeper (b8 W ar)).handled=none:=bd
 have b7:(I.deeper (b8 W ar)).depth=I.depth+1:=rfl
 have eK:(I.deeper (b8 W ar)).units=I.units+3:=rfl
 have zu:(I.deeper (b8 W ar)).frames=some (b8 W ar::l0):=K2 de
 show az W.M (I.deeper (b8 W ar)) _ _ _ aG
 generalize I.deeper (b8 W ar)=dH at cA b7 eK zu ⊢
 have ach:=FQ aa bl ap name
 have aaQ:((ka aa bl ap name).map (·.1)).Nodup:=by refine H ach ?_;exact cO
 have kk:∀J∈ka aa bl ap name,(ka aa bl ap name).lookup J.1=some J.2:=λJ aF=>Af aaQ aF
 have zC:(aa::ap.map (·.1)).Nodup:=by
  rw[d',d']at cO
  refine H (propext d') ?_
  exact⟨λB=>cO.1 (.tail _ B),cO.2.2⟩
 have ua:gC (ka aa bl ap name) aa ap:=⟨kk (aa,cw ap) (.head _),λJ aF=>kk (J.1,bM J.2) (.tail _ (.tail _ (kD.mpr ⟨J,aF,rfl⟩))),zC⟩
 have abz:bl∉aa::ap.map (·.1):=λB=>by
  rw[d',d']at cO
  rcases dw.mp B with B|B
  .exact cO.1 (B▸ .head _)
  .exact cO.2.1 B
 have HZ:∀a,(ka aa bl ap name).lookup a≠none->a∈aa::bl::ap.map (·.1):=λa ha=>by
  cases ba:(ka aa bl ap name).lookup a with
  |none=>exact absurd ba ha
  |some ab=>exact N6 _ (l4 ba)
 have G6:aa∉X0:=λB=>Hq aa B (.head _)
 have aas:∀J∈ap,J.1∉X0:=λJ aF B=>Hq _ B (.tail _ (.tail _ (eT aF)))
 have e':gY ap:=AK bt
 refine my bG (d:=.list []) (hi cF) λa5 bN=>?_
 have t:cj W dH (b8 W ar) X [("told",.list []),("kind",.int (kind:Int)),("items",.adr aa),("text",.str (g9 (ap.map (·.2)))),("word",.adr bl)] (ka aa bl ap name) ((72,cb d6)::(89,cb d7)::dO) (aa::bl::ap.map (·.1)++72::89::dx l0) aa bl ap name C a5:=
  ⟨bN,ua,kk (bl,bM [name]) (.tail _ (.head _)),abz,bt,sK.mpr aF,cE,rfl,rfl,cA,by exact bX [_,_,_] 47377203536059229409106793473 rfl b7 bk,by exact bX [_,_,_] 12128456564531831834396124648449 rfl eK be,HZ⟩
 have kN:∀b∈dx l0,b∈X/\b∈aa::bl::ap.map (·.1)++72::89::dx l0/\(ka aa bl ap name).lookup b=none:=λb ak=>⟨wJ b ak,abG b ak,OD b ak⟩
 have uA:∀a N,([(72,cb d6),(89,cb d7)]:List (ah×bJ)).lookup a=some N->((72,cb d6)::(89,cb d7)::dO).lookup a=some N/\a∉dx l0:=λa N e=>by
  have:(a,N)∈[((72:ah),cb d6),(89,cb d7)]:=l4 e
  simp at this
  rcases this with⟨rfl,rfl⟩|⟨rfl,rfl⟩
  .exact⟨by simp,u9⟩
  .exact⟨by refine H (es (by decide)) ?_;simp,s4⟩
 refine agC (cI:=[(72,cb d6),(89,cb d7)]) rfl t hk rfl rfl zu pE kN uA (λs' kv=>?_) (λaX m bv uE uD bR v s' ag ez up=>?_)
 .refine pj kv.is λX' d_ dk c5 aE=>?_;refine vt aE λd ag gL T aE=>?_;refine xz aE λiy uL uI abo aE=>?_;refine Sd aE λgh Ow uD uE aai ajo=>?_;clear aE
  have qH:(89:ah)∉aa::c5.map (·.1):=λaI=>by
   have cE:∃N aR Y,s'.heap.get? 89=some N/\N.data= .seq aR Y:=by
    rcases dw.mp aI with aI|aI
    .refine fW (ag.el aa _ T.items) λ_ _ af nR _=>?_;obtain⟨Y,e⟩:=nR
     rw[<-aI]at e
     exact⟨_,_,_,e,rfl⟩
    .refine cm (kD.mp aI) λJ aF a8=>?_
     refine fW (ag.el J.1 _ (T.rows J aF)) λ_ _ af nR _=>?_;obtain⟨Y,e⟩:=nR
     rw[show J.1=89 from a8]at e
     exact⟨_,_,_,e,rfl⟩
   refine n' cE λN aR Y e bm=>?_;clear cE
   have e3:=(ag.objs 89 (cb d7) (by refine H (es (by decide)) ?_;simp)).1
   rw[e3]at e
   cases e
   cases bm
  have zc:dk.lookup 89=none:=(ag.objs 89 (cb d7) (by refine H (es (by decide)) ?_;simp)).2.1
  have xr:=(ag.objs 89 (cb d7) (by refine H (es (by decide)) ?_;simp)).1
  refine agD ag T iy (gL _ ft) abE zc qH xr nd cA (by exact bX [_,_,_] 47377203536059229409104696321 rfl b7 bk) abo gh Ow λv bv bR agb ez=>q v bv ?_
  have cc:=bR ((72,cb d6)::[]) λa N e=>by
   have:(a,N)∈[((72:ah),cb d6)]:=l4 e
   simp at this
   refine d8 this λg7 dC=>?_;clear this;subst g7;subst dC
   exact⟨by simp,by decide⟩
  have cy:=bR (dO.filter λJ=>J.1 !=89) λa N e=>by
   refine d8 (P4 e) λh1 aA=>?_
   refine⟨?_,h1⟩
   refine fb (rM a N aA) λ_ b2 _=>?_
   refine H (Hb a b2) ?_
   exact aA
  have Oj:∀b∈X0,b∈X':=λb ak=>gL b (lr b ak)
  have oK:∀J∈c5,J.1∉X0:=λJ aF B=>by
   rcases aai J aF with h1|h1
   .exact Hq _ B (.tail _ h1)
   .refine bH (aK _ (lr _ B)) λN e=>?_
    rw[h1]at e
    cases e
  refine⟨cc.keep,⟨d6,(cc.objs 72 _ (by simp)).1,lE⟩,agb,λb N e=>⟨N.slots,?_⟩,c5.map (·.2),Ra cc T Oj G6 oK,?_,uD,iy,uL,λr aE=>?_⟩
  .refine fb (rM b N e) λnJ ls _=>?_
   have ZX:b≠89:=λau=>s4 (au▸ls)
   refine(cy.objs b N ?_).1
   have:∀l:List (ah×bJ),l.lookup b=some N->(l.filter λJ=>J.1 !=89).lookup b=some N:=by
    intro l
    induction l with
    |nil=>intro e;exact e
    |cons J l bf=>
     intro e
     rw[c1]at e
     cases aS:b==J.1 with
     |true=>
      rw[aS]at e
      have:=eq_of_beq aS
      refine H qm ?_;refine H (if_pos (by rw[<-this];simpa using ZX)) ?_;refine H c1 ?_;refine H aS ?_
      exact e
     |false=>
      rw[aS]at e
      refine H qm ?_
      split
      .refine H c1 ?_;refine H aS ?_
       exact bf e
      .exact bf e
   exact this dO e
  .refine H uE ?_
   exact ez.mono (jZ Oj)
  .refine dQ aE λJ aF=>?_
   exact uI J aF
 .refine q v s' ⟨ag.keep,⟨d6,(ag.objs 72 _ (by simp)).1,lE⟩,⟨d7,(ag.objs 89 _ (by refine H (es (by decide)) ?_;simp)).1,nd⟩,λb N e=>?_,ap.map (·.2),Ra ag ua lr G6 aas,?_,uD,e',aF,λr aE=>?_⟩
  .refine El (rM b N e) λnJ ls b9 f2 Z8=>?_
   refine fb (bR.objs b N (by rw[Hb b ls];exact e)) λh1 aA bn=>?_
   exact up b bn N h1 λaf au=>by rw[Z8]at au;cases au
  .refine H uE ?_
   exact ez.mono (jZ lr)
  .refine dQ aE λJ aF=>?_
   exact cE J aF
end
section
variable{W:bj}{I:br}{env:bB}{X X':List ah}{ae d_:bu}{M dk:ce}{O cI:List (ah×bJ)}{Z su:List ah}{av C s':aq}{aj:an->aq->Prop}
theorem aP.P2(ag:aP W env X ae M O Z av C):∀N aR Y,C.heap.get? env.locals=some N->N.data≠ .seq aR Y:=λN aR Y e hd=>by
 refine pj ag.ns λm b0 b9 f2 aE=>?_;refine fb aE λdB b7 _=>?_;clear aE
 rw[e]at dB
 cases dB
 rw[hd]at b7
 cases b7
theorem aP.z7(ag:aP W env X ae M O Z av C)(c2:cC su C s')(mo:∀b∈su,b∈X\/b=env.locals)(gL:∀b∈X',b∈X\/C.heap.get? b=none\/b=env.locals):mf (a0 X C) (a0 X' s'):=λb N aR Y e hd=>by
 have a8:=fc _ e
 have hY:b∉X:=λaI=>by rw[fP _ aI]at e;cases e
 have qI:b≠env.locals:=λau=>ag.P2 N aR Y (au▸a8) hd
 refine ei _ (c2.keep b N (λaI=>?_) a8) λaI=>?_
 .rcases mo b aI with B|B
  .exact hY B
  .exact qI B
 .rcases gL b aI with B|B|B
  .exact hY B
  .rw[B]at a8;cases a8
  .exact qI B
theorem aP.MN(ag:aP W env X ae M O Z av C)(c2:cC su C s')(mo:∀b∈su,b∈X\/b=env.locals)(gL:∀b∈X',b∈X\/C.heap.get? b=none\/b=env.locals):eg W (a0 X' s'):=ag.mj.mono λb N e=>by
 have a8:=fc _ e
 have hY:b∉X:=λaI=>by rw[fP _ aI]at e;cases e
 have qI:b≠env.locals:=λau=>by rw[au,ag.new]at a8;cases a8
 have bm:=ag.keep.keep b N (λaI=>hY (ag.hS b aI)) a8
 refine ei _ (c2.keep b N (λaI=>?_) bm) λaI=>?_
 .rcases mo b aI with B|B
  .exact hY B
  .exact qI B
 .rcases gL b aI with B|B|B
  .exact hY B
  .rw[B]at bm;cases bm
  .exact qI B
theorem aP.over(ag:aP W env X ae M O Z av C)(c2:cC su C s')(mo:∀b∈su,b∈X\/b=env.locals)(Hr:∀b∈su,b∈Z\/av.heap.get? b=none)(lq:c0 X' s')(gL:∀b∈X',b∈X\/C.heap.get? b=none)(nL:∀N,C.heap.get? env.locals=some N->∃ct,s'.heap.get? env.locals=some {N with slots:=ct})(nS:∀b∈Z,b∈X')(gF:∀aa ab,dk.lookup aa=some ab->aa∈X'/\(aa∈Z\/av.heap.get? aa=none)/\∃af,s'.heap.PlainList aa af/\a3 (a0 X' s') af.toList ab)(gq:∀a N,cI.lookup a=some N->s'.heap.get? a=some N/\dk.lookup a=none/\a≠env.locals)(Iu:∀D d,d_.lookup D=some d->∃lm,ae.lookup D=some lm/\∀v,aC (a0 X C) v lm->aC (a0 X' s') v d):aP W env X' d_ dk cI Z av s':=by
 have Cz:∀b∈X',b∈X\/C.heap.get? b=none\/b=env.locals:=λb ak=>(gL b ak).elim .inl λB=>.inr (.inl B)
 have sR:env.locals∉X':=λaI=>by
  rcases gL _ aI with B|B
  .exact ag.iZ B
  .refine vu ag.ns λm b0 b9 f2 dB _=>?_
   rw[B]at dB
   cases dB
 have Qr:∀{m:ay->Option an},C.heap.Ns env.locals m->s'.heap.Ns env.locals m:=λY=>by
  refine n' Y λN b9 f2 e B=>?_;clear Y
  refine bH (nL N e) λct dB=>?_
  exact⟨_,b9,f2,dB,B⟩
 refine bH ag.ns λm nM=>?_
 refine⟨lq,⟨ag.MN c2 mo Cz,ag.G.kind,ag.G.globals,ag.G.builtins,λD d e=>?_⟩,⟨m,Qr nM⟩,ag.new,sR,ag.cells,gF,gq,ag.keep.xy c2 Hr,ag.mj.mono λb N e=>?_,nS⟩
 .refine cm (Iu D d e) λlm aQ h1=>?_
  refine jl (ag.G.vars D lm aQ) λq v r b=>?_
  refine⟨q,v,h1 v r,?_⟩
  cases b with
  |loc a Y V=>
   have et:=Y.keeps (h':=C.heap) cP
   exact .loc a (m' (Qr et) sR) V
  |cell a V _=>rw[ag.cells]at V;cases V
  |free a V _ _=>rw[ag.cells]at V;cases V
 .have a8:=fc _ e
  have hY:b∉X:=λaI=>by rw[fP _ aI]at e;cases e
  refine ei _ a8 λaI=>?_
  rcases gL b aI with B|B
  .exact hY B
  .by_cases aH:b∈Z
   .exact hY (ag.hS b aH)
   .rw[ag.keep.keep b N aH a8]at B
    cases B
theorem PM{a b:aq}(k:cS a b){F:ah}(B:b.heap.get? F=none):a.heap.get? F=none:=by
 cases ba:a.heap.get? F with
 |none=>rfl
 |some N=>rw[ed k _ _ ba]at B;cases B
set_option tactic.hygienic true in
theorem ahq{v:a'}{lo aU:Option a'}{J al:bp}{l bq:Option Int}{ab:List ax}{ai:an->aq->Prop}(aK:c0 X C)(G:fQ W env ae (a0 X C))(bA:aY W I env ae v (.list ab))(aN:jp W I env ae lo l)(be:jp W I env ae aU bq)(aH:ab.length<=bc)(q:∀F aG ee,cS C aG->C.heap.get? F=none->aG.heap.PlainList F ee->a3 (a0 X aG) ee.toList (lV ab l bq)->ai (.ref F) aG):az W.M I (b1 (.Subscript v (.Slice lo aU none J) al) env) ai aj C:=by
 with_reducible refine vI ((bA.on X C aK G).go _ _ λbx aG k1 aT=>?_)
 show az _ _ (ro (rn lo env)>>=λl=>mO [l] (ro (rn aU env))>>=λbq=>mO [l,bq] (ro (rn none env))>>=λC=>Fy "slice" [l,bq,C]) _ _ _
 with_reducible refine aM (aN.on X aG (aK.mono k1) (G.mono (cg k1)) _ _ λew a5 k2 cY=>aM (ib (be.on X a5 (aK.mono (b5 k1 k2)) (G.mono (cg (b5 k1 k2))) _ _ λgO bv dr eM=>aM (ib (nx.on X bv (aK.mono (b5 (b5 k1 k2) dr)) (G.mono (cg (b5 (b5 k1 k2) dr))) _ _ λhR c3 fF eP=>?_)))))
 show az _ _ (Lz (.type "slice") (.fields #[ew,gO,hR])) _ _ _
 with_reducible refine tX ?_
 have jX:=ip c3 {cls:=.type "slice",data:=.fields #[ew,gO,hR]}
 have er:=b5 (b5 (b5 (b5 k1 k2) dr) fF) jX
 have r:=aT.mono (cg (b5 (b5 (b5 k2 dr) fF) jX))
 have a9:=Lc c3.heap ew gO hR
 generalize abf:({c3 with heap:=c3.heap.push {cls:=.type "slice",data:=.fields #[ew,gO,hR]}}:aq)=dW at jX er r
 refine aC.gD r λ_ _ il aV=>?_
 rename_i g5 af
 have e:af.size=ab.length:=aV.length
 have hZ:=(cP.plain il).isList
 subst abf
 with_reducible refine og (oh hZ) Ly (LP hZ a9 cY eM eP (by simp) ?_ (by refine H e ?_;exact jD aH)) (AI _ _ _ _ _ _)
 have rL:a3 (a0 X {c3 with heap:=c3.heap.push {cls:=.type "slice",data:=.fields #[ew,gO,hR]}}) (Bw af l bq none).toList (o8 ab l bq none):=by
  unfold Bw o8
  refine H e ?_
  simpa using Jy aV _
 have l2:=ip {c3 with heap:=c3.heap.push {cls:=.type "slice",data:=.fields #[ew,gO,hR]}} {cls:=.type "list",data:=.seq (Bw af l bq none)}
 refine q _ _ _ (b5 er l2) (PM er (iC (eF _))) ⟨_,f_ _ rfl⟩ ?_
 refine b' (QQ _ _ _) ?_
 exact rL.mono (cg l2)
end
theorem Rk:∀{rs:List (ah×List ax)}{ap:List (List aZ)},rs.map (·.2)=ap.map bM->∃a7:List (ah×List aZ),rs=db a7/\a7.map (·.2)=ap
 |[],[],_=>⟨[],rfl,rfl⟩
 |[],_::_,B=>by cases B
 |_::_,[],B=>by cases B
 |(a,d)::rs,r::ap,B=>by
  rw[ef,ef]at B
  injection B with h1 aA
  refine cm (Rk aA) λa7 dC di=>?_;subst dC;subst di
  refine⟨(a,r)::a7,?_,rfl⟩
  have h1:d=bM r:=h1
  subst h1
  rfl
theorem xn(a7:List (ah×List aZ)):(db a7).map (·.1)=a7.map (·.1):=by
 unfold db
 refine H dY ?_
 rfl
section
variable{W:bj}{I:br}{env:bB}{X:List ah}{ae:bu}{M:ce}{O jO:List (ah×bJ)}{Z:List ah}{av C s':aq}{aj:an->aq->Prop}{ai:fj->aq->Prop}{d6:Array an}
theorem aP.agi(ag:aP W env X ae [] ((72,cb d6)::jO) Z av C)(NP:(72:ah)∈Z)(lp:jO.lookup 72=none){R:ah}{a7:List (ah×List aZ)}{fN:Array an}(c2:cC [72] C s')(gl:s'.heap.get? 72=some (cb fN))(cO:(R::a7.map (·.1)).Nodup)(ev:∀b∈R::a7.map (·.1),C.heap.get? b=none)(Jx:aC (a0 X s') (.ref R) (.cf R (gi (db a7)))):aP W env (R::a7.map (·.1)++X) ae ((R,cw a7)::db a7) ((72,cb fN)::jO) Z av s':=by
 have ZK:=ag.hS 72 NP
 have mo:∀b∈[(72:ah)],b∈X\/b=env.locals:=λb ak=>by simp at ak;subst ak;exact .inl ZK
 have gL:∀b∈R::a7.map (·.1)++X,b∈X\/C.heap.get? b=none:=λb ak=>by
  rcases fC.mp ak with B|B
  .exact .inr (ev b B)
  .exact .inl B
 have NQ:(72:ah)≠env.locals:=(ag.objs 72 (cb d6) (by simp)).2.2
 have uR:∃af,s'.heap.PlainList R af/\a3 (a0 X s') af.toList (gi (db a7)):=by
  refine iA (aC.Ah Jx) λ_ _ bz aV=>?_
  exact⟨_,cP.plain bz,aV⟩
 refine cm uR λaf QR Q3=>?_;clear uR
 have OQ:∀J∈a7,∃ek,s'.heap.PlainList J.1 ek/\a3 (a0 X s') ek.toList (bM J.2):=by
  have gen:∀(l:List (ah×List aZ))(ew:List an),a3 (a0 X s') ew (gi (db l))->∀J∈l,∃ek,s'.heap.PlainList J.1 ek/\a3 (a0 X s') ek.toList (bM J.2):=by
   intro l
   induction l with
   |nil=>intro _ _ J aF;cases aF
   |cons q l bf=>
    intro ew aV J aF
    refine a3.eC aV λ_ _ r rs=>?_
    refine d2 aF ?_ λaF=>?_
    .refine aC.eA r λ_ bz aV=>?_
     exact⟨_,cP.plain bz,aV⟩
    .exact bf _ rs J aF
  exact gen a7 _ Q3
 have Hv:∀B:bo,a3 B af.toList (cw a7):=by
  intro B
  have gen:∀(l:List (ah×List aZ))(ew:List an),a3 (a0 X s') ew (gi (db l))->a3 B ew (cw l):=by
   intro l
   induction l with
   |nil=>intro _ aV;cases aV;exact .nil
   |cons q l bf=>
    intro ew aV
    refine a3.eC aV λ_ _ r rs=>?_
    refine aC.eA r λ_ bz aV=>?_
    exact .cons (.adr _) (bf _ rs)
  exact gen a7 _ Q3
 have wG:∀a∈R::a7.map (·.1)++X,a∈X\/∃af,s'.heap.PlainList a af:=λa ha=>by
  rcases fC.mp ha with B|B
  .refine d2 B ?_ λB=>?_
   .exact .inr ⟨_,QR⟩
   .refine dQ B λJ aF=>?_
    refine cm (OQ J aF) λek bz _=>?_
    exact .inr ⟨_,bz⟩
  .exact .inl B
 refine ag.over c2 mo (λb ak=>?_) (λb ak=>?_) gL (λN e=>⟨N.slots,?_⟩) (λb ak=>jI _ (ag.hS b ak)) (λaa ab e=>?_) (λa N e=>?_) (λD d e=>⟨d,e,λv r=>r.g_ (ag.z7 c2 mo λb ak=>(gL b ak).elim .inl λB=>.inr (.inl B))⟩)
 .simp at ak;subst ak;exact .inl NP
 .rcases wG b ak with B|⟨af,bz⟩
  .by_cases eZ:b=72
   .subst eZ;exact⟨_,gl⟩
   .refine bH (ag.c6 b B) λN e=>?_
    exact⟨N,c2.keep b N (by simpa using eZ) e⟩
  .exact t_.there bz
 .exact c2.keep _ N (by simpa using iB NQ) e
 .have aI:=l4 e
  rcases dw.mp aI with B|B
  .cases B
   exact⟨.head _,.inr (ag.rY (ev R (.head _))),af,QR,Hv _⟩
  .refine cm (kD.mp B) λJ aF bm=>?_
   cases bm
   refine cm (OQ J aF) λek bz aV=>?_
   have CW:J.1∈R::a7.map (·.1):=.tail _ (eT aF)
   refine⟨k9 _ CW,.inr (ag.rY (ev _ CW)),ek,bz,a3.m_ (λd hd=>?_) wG aV⟩
   refine dQ hd λD _=>?_
   exact DR D
 .have OV:∀b,(∃N,C.heap.get? b=some N)->((R,cw a7)::db a7:ce).lookup b=none:=λb ak=>by
   cases ba:((R,cw a7)::db a7:ce).lookup b with
   |none=>rfl
   |some ab=>
    refine bH ak λN a6=>?_;clear ak
    have aI:=l4 ba
    have:b∈R::a7.map (·.1):=by
     rcases dw.mp aI with B|B
     .cases B;exact .head _
     .refine cm (kD.mp B) λJ aF bm=>?_
      cases bm
      exact .tail _ (eT aF)
    rw[ev b this]at a6
    cases a6
  by_cases ha:a=72
  .subst ha
   rw[c1]at e
   simp at e
   subst e
   exact⟨gl,OV _ ⟨_,(ag.objs 72 (cb d6) (by simp)).1⟩,NQ⟩
  .rw[es ha]at e
   refine fb (ag.objs a N (by rw[es ha];exact e)) λh1 aA bn=>?_
   exact⟨c2.keep a N (by simpa using ha) h1,OV _ ⟨_,h1⟩,bn⟩
theorem GO{arg:a'}{cB cY:bp}{ap:List (List aZ)}{h9:List (List Nat)}{ai:an->aq->Prop}(ag:aP W env X ae [] ((72,cb d6)::jO) Z av C)(lp:jO.lookup 72=none)(ku:f' 29 49 d6)(eZ:(72:ah)∈Z)(bd:I.handled=none)(bk:I.depth+2<d3)(ZT:aY W I env ae arg (.list (h9.map λt=>.str (bh t))))(Au:mV h9 [] (ap.map bM))(a_:h9.length<=100)(q:∀R a7 fN s',f' 29 49 fN->a7.map (·.2)=ap->(R::a7.map (·.1)).Nodup->(∀b∈R::a7.map (·.1),C.heap.get? b=none)->aP W env (R::a7.map (·.1)++X) ae ((R,cw a7)::db a7) ((72,cb fN)::jO) Z av s'->ai (.ref R) s')(hk:autoParam (env.kindOf "split_header_words"=some .globalImplicit) tR)(bV:autoParam (eQ arg=false) tR):az W.M I (b1 (.Call (.Name "split_header_words" cB) [arg] [] cY) env) ai aj C:=by
 refine zW 0 (ag.sub (dk:=[]) λJ aF=>nomatch aF) (ab:=[.list (h9.map λt=>.str (bh t))]) (bI ?_ cF bV) (NI _) (wo W).obj (wo W).fn (λaf aG bG k1 aV=>?_) hk (by simp[bV])
 .have e:qD [] 0 ae=ae:=by
   unfold qD
   conv=>rhs;rw[<-kC ae]
   exact gZ λJ _=>rfl
  refine H e ?_
  exact ZT
 .have e:iq X []=X:=by
   unfold iq
   exact Kw.mpr λa _=>rfl
  rw[e]at aV
  obtain⟨l,nb⟩:∃l,a3 (a0 X aG) af [.cf l (h9.map λt=>.str (bh t))]:=by
   refine a3.eC aV λ_ _ r rs=>?_
   refine aC.gD r λ_ _ bz ks=>?_
   exact⟨_,.cons (.cf bz ks) rs⟩
  refine Xf bd bk bG.c6 bG.G.base (ag.hS _ eZ) ⟨d6,(bG.objs 72 _ (by simp)).1,ku⟩ Au a_ nb λR rs a5 c2 cp aak cO de Jx=>?_
  refine cm cp λfN gl tm=>?_;clear cp
  refine cm (Rk aak) λa7 dC km=>?_;subst dC
  rw[xn]at cO de
  exact q R a7 fN a5 tm km cO (λb ak=>PM k1 (de b ak)) (bG.agi eZ lp c2 gl cO de Jx)
end
section
variable{W:bj}{I:br}{env:bB}{X:List ah}{ae:bu}{M:ce}{O cI:List (ah×bJ)}{Z:List ah}{av C s':aq}{aj:an->aq->Prop}{ai:fj->aq->Prop}
theorem abX{D am:ay}{bK py ku al:bp}{aB:Nat}{e:a'}{aJ:List cT}(bd:I.handled=none)(bw:az W.M I (b1 e env) (λv aG=>∃X' d_ dk cI cQ dU,aP W env X' d_ dk cI Z av aG/\aC (a0 X' aG) v (.tuple [cQ,dU])/\∀a5,aP W env X' ((am,dU)::(D,cQ)::d_) dk cI Z av a5->az W.M I (bY aJ env) ai aj a5) aj C)(aS:autoParam (env.kindOf D=some .local) tR)(mq:autoParam ((D==("__debug__":ay))=false) tD)(bZ:autoParam (env.kindOf am=some .local) tR)(mr:autoParam ((am==("__debug__":ay))=false) tD)(a9:autoParam (UT [.Tuple [.Name D bK,.Name am py] aB ku] e al.line env=pure false) tR)(e5:autoParam (US [.Tuple [.Name D bK,.Name am py] aB ku] e env=pure none) tR):az W.M I (bY (.Assign [.Tuple [.Name D bK,.Name am py] aB ku] e al::aJ) env) ai aj C:=by
 refine eH (KV (fe bw (λv aG B=>?_) λ_ _ D=>D) a9 e5)
 refine pj B λX' d_ dk cI aE=>?_;clear B;refine l6 aE λcQ dU ag r q=>?_;clear aE
 exact(F5 bd aS mq bZ mr).go _ _ _ _ _ _ _ _ _ _ ag r λa5 bN=>q a5 bN
theorem a3.Ci{B aD:bo}{af:List an}{ab:List ax}(b2:∀d∈ab,d.flat=true)(r:a3 B af ab):a3 aD af ab:=r.imp λ_ d B r=>r.flat (b2 d B)
theorem aP.adopt(ag:aP W env X ae M O Z av C){s':aq}(k:cS C s'){F:ah}{ab:List ax}{af:Array an}(iI:C.heap.get? F=none)(bz:s'.heap.PlainList F af)(b2:∀d∈ab,d.flat=true)(aV:a3 (a0 X s') af.toList ab):aP W env (F::X) ae ((F,ab)::M) O Z av s':=by
 have c2:cC [] C s':=cC.of k
 have mo:∀b∈([]:List ah),b∈X\/b=env.locals:=λ_ B=>nomatch B
 have gL:∀b∈F::X,b∈X\/C.heap.get? b=none:=λb ak=>by
  refine d2 ak ?_ λB=>?_
  .exact .inr iI
  .exact .inl B
 have Cz:∀b∈F::X,b∈X\/C.heap.get? b=none\/b=env.locals:=λb ak=>(gL b ak).elim .inl λB=>.inr (.inl B)
 have ajh:M.lookup F=none:=by
  cases ba:M.lookup F with
  |none=>rfl
  |some ab=>
   refine fW (ag.el F ab ba) λ_ _ af nR _=>?_;obtain⟨Y,e⟩:=nR
   have bm:C.heap.get? F=_:=e
   rw[iI]at bm
   cases bm
 refine ag.over c2 mo (λ_ B=>nomatch B) (λb ak=>?_) gL (λN e=>⟨N.slots,ed k _ _ e⟩) (λb ak=>.tail _ (ag.hS b ak)) (λaa f1 e=>?_) (λa N e=>?_) λD d e=>⟨d,e,λv r=>r.g_ (ag.z7 c2 mo Cz)⟩
 .refine d2 ak ?_ λB=>?_
  .exact t_.there bz
  .refine bH (ag.c6 b B) λN e=>?_
   exact⟨N,ed k _ _ e⟩
 .rw[c1]at e
  cases cn:aa==F with
  |true=>
   rw[cn]at e
   cases e
   have:=(eq_of_beq cn).symm
   subst this
   exact⟨.head _,.inr (ag.rY iI),af,bz,aV.Ci b2⟩
  |false=>
   rw[cn]at e
   refine fW (ag.el aa f1 e) λh1 aA ek qX ks=>?_
   exact⟨.tail _ h1,aA,ek,qX.at λN e=>ed k _ _ e,a3.g_ (ag.z7 c2 mo Cz) ks⟩
 .refine fb (ag.objs a N e) λh1 aA bn=>?_
  refine⟨ed k _ _ h1,?_,bn⟩
  have:a≠F:=λau=>by rw[au,iI]at h1;cases h1
  refine H (es this) ?_
  exact aA
theorem abN{am au:ay}{py o_ cB cY eM eP al:bp}{k:_}{aJ:List cT}{R:ah}{ab:List ax}(ag:aP W env X ae M O Z av C)(aH:ae.lookup au=some (.adr R))(i':M.lookup R=some ab)(b2:∀d∈ab,d.flat=true)(dp:ab.length<=bc)(next:∀F s',C.heap.get? F=none->aP W env (F::X) ((am,.adr F)::ae) ((F,ab.take (ab.length - 1))::M) O Z av s'->az W.M I (bY aJ env) ai aj s')(aS:autoParam (env.kindOf am=some .local) tR)(hd:autoParam ((am==("__debug__":ay))=false) tD)(a9:autoParam (iE (.Subscript (.Name au o_) (.Slice none (some (.UnaryOp .USub (.Constant (.int 1) k cB) cY)) none eM) eP) (some (.Name am py)) al.line env=pure false) tR):az W.M I (bY (.Assign [.Name am py] (.Subscript (.Name au o_) (.Slice none (some (.UnaryOp .USub (.Constant (.int 1) k cB) cY)) none eM) eP) al::aJ) env) ai aj C:=by
 refine mz (Z:=Z) (av:=av) (ahq ag.jg ag.open (aY.lF (aW (d:=.cf R ab) ?_)) nx (ny (wa c_)) dp λF aG ee k1 iI bz aV=>?_) aS hd a9
 .refine H (s8 _ _ _) ?_;refine H aH ?_
  show some (na M (.adr R))=_
  unfold na
  simp only[i']
 .have OC:∀d∈ab.take (ab.length - 1),d.flat=true:=λd hd=>b2 d (S8 hd)
  rw[XH]at aV
  exact⟨_,_,_,_,.adr F,ag.adopt k1 iI bz OC (aV.Ci OC),.adr F,λa5 bN=>next F a5 iI bN⟩
end
section
variable{W:bj}{I:br}{env:bB}{X:List ah}{ae:bu}{M:ce}{O cI:List (ah×bJ)}{Z:List ah}{av C s':aq}{aj:an->aq->Prop}{ai:fj->aq->Prop}
theorem VL{e:a'}{d bO:ax}(B:aY W I env ae e d)(hd:∀(aF:bo) v,aC aF v d->aC aF v bO):aY W I env ae e bO:=⟨λX C aK G=>⟨λai aj q=>(B.on X C aK G).go ai aj λv s' k r=>q v s' k (hd _ _ r)⟩⟩
theorem PV{ca:List (ah×List aZ)}{aF:bo}:∀{af:List an},a3 aF af (ca.map dy)->a3 aF af ((ca.map (·.2)).map k4):=by
 induction ca with
 |nil=>intro af aV;cases aV;exact .nil
 |cons q ca bf=>
  intro af aV
  refine a3.eC aV λ_ _ r rs=>?_
  refine aC.eA r λ_ bz aV=>?_
  exact .cons (.list bz aV) (bf rs)
theorem L8{e:a'}{aa:ah}{ca:List (ah×List aZ)}(B:aY W I env ae e (.cf aa (ca.map dy))):aY W I env ae e (.list ((ca.map (·.2)).map k4)):=VL B λaF v r=>by
 refine aC.eA r λ_ bz aV=>?_
 exact .list bz (PV aV)
theorem ae1{R F:ah}{a7 ca:List (ah×List aZ)}{ap:List (List aZ)}{name:aZ}{gd cB cY eM eP nZ lA o4 n0 DK Jc Jd QL adD adE adF adG adH:bp}{k:_}(bd:I.handled=none)(bk:I.depth+3<d3)(be:I.units+40<c7)(km:a7.map (·.2)=ap++[[name]])(sV:ca.map (·.2)=ap)(bt:cl ap)(g:e8 name)(cE:∀r∈ap++[ap.map hd],e9 r)(aE:ae.lookup ("read":ay)=some (.cf R (a7.map dy)))(aU:ae.lookup ("items":ay)=some (.cf F (ca.map dy)))(e5:ae.lookup ("rows":ay)=some (.list ((canon ap).map dv)))(cp:ae.lookup ("text":ay)=some (.str (g9 ap)))(a_:ae.lookup ("name":ay)=some (en name))(uJ:autoParam (env.kindOf "_law_pair"=some .globalImplicit) tR)(rP:autoParam (env.kindOf "_law_holds"=some .globalImplicit) tR):ej W I env ae (.BoolOp .Or [.Compare (.Subscript (.Name "read" gd) (.Slice (some (.UnaryOp .USub (.Constant (.int 1) k cB) cY)) none none eM) eP) [.NotEq] [.List [.List [.Call (.Name "_law_pair" nZ) [.Name "name" lA] [] o4] n0] DK] Jc,.UnaryOp .Not (.Call (.Name "_law_holds" Jd) [.Name "items" QL,.Name "rows" adD,.Name "text" adE] [] adF) adG] adH) false:=by
 have f7:lV ((a7.map (·.2)).map k4) (some (-1)) none=[.list [cX (cq name)]]:=by
  refine H (XJ _) ?_;refine H km ?_;refine H gA ?_;refine H List.drop_append ?_
  simp[k4]
 have h1:aY W I env ae (.Subscript (.Name "read" gd) (.Slice (some (.UnaryOp .USub (.Constant (.int 1) k cB) cY)) none none eM) eP) (.list [.list [cX (cq name)]]):=by
  refine b' f7 ?_
  have bW:ap.length<=50:=cu (GU bt.ne) bt.sB
  refine BJ (L8 (aW aE)) (ny (wa c_)) nx ?_
  refine H km ?_
  simp[bc]
  exact aL [_] 2678390130532268597568 rfl bW
 have aA:aY W I env ae (.List [.List [.Call (.Name "_law_pair" nZ) [.Name "name" lA] [] o4] n0] DK) (.list [.list [cX (cq name)]]):=
  hi (bI (hi (bI (yv (by exact aL [_,_] 159785957725505 rfl bk) (aW a_) (by have:=g.len;simp[bc];exact aL [_] 42911888147253966172480 rfl this) (y' _) uJ) cF) (by simp[bc])) cF) (by simp[bc])
 refine BP (a:=false) (b:=false) (yA h1 aA (.list (.cons (.list (.cons (y_ g) .nil)) .nil)) (Y:=3) (by exact aL [_,_] 167545201696368038913 rfl be)) λ_=>?_
 refine we (b:=true) (wc (qy rP (NE _) (yW W).obj (yW W).fn (bI ?_ (bI (aW e5) (bI (aW cp) cF))) (QU bd (by exact aL [_,_] 10471732525496603649 rfl bk) (by exact aL [_,_] 2680723227141879239681 rfl be) ap bt cE)))
 have:=L8 (aW (al:=QL) (W:=W) (I:=I) (env:=env) aU)
 rw[sV]at this
 exact this
set_option tactic.hygienic true in
theorem YA{rows:List (List aZ)}{kind:Nat}{name:aZ}(bt:cl (rows++[[name]])):f5 3 (i9 kind rows name):=by
 have Y4:∀r∈rows,∀D∈r,e8 D:=λr aE D aS=>bt.gV (k9 _ aE) aS
 have gV:e8 name:=bt.gV (jI _ (.head _)) (.head _)
 have adP:∀(Y k:Nat),f5 Y (hN k).dat:=λY k=>by
  unfold hN
  split
  .exact .str (by simp[qr])
  .exact .str (by simp[qr])
  .exact .none
 have one:∀(Y:Nat) D,e8 D->f5 (Y+1) (cX (cq D)):=λY D g=>.tuple (.cons (.str g.ok) (.cons (adP _ _) .nil))
 have ok:∀l:ay,l∈([ia "AssertionError","","IndexError","list index out of range","pop from empty list"]:List ay)->qr l=true:=by decide+kernel
 unfold i9
 split
 .exact .tuple (.cons (.str (ok _ (by simp))) (.cons (.str (ok _ (by simp))) .nil))
 split
 .exact .list (.cons .none .nil)
 split
 .refine .tuple (.cons (.str (ok _ (by simp))) (.cons (.str (ok _ ?_)) .nil))
  split <;>simp
 .rename_i cr aJ
  have rK:∀D∈cr,e8 D:=Y4 cr (.head _)
  have cx:cr≠[]:=bt.ne cr (.head _)
  split
  .refine .list (.cons (one 1 _ ?_) .nil)
   cases cr with
   |nil=>exact absurd rfl cx
   |cons D l=>exact rK D (.head _)
  split
  .refine .list (hE.of λd hd=>?_)
   refine dQ hd λD aS=>?_
   exact one 1 D (rK D aS)
  split
  .exact .list (.cons .none (.cons .none .nil))
  .refine .list (.cons (one 1 _ ?_) .nil)
   have aF:=gy id (cr++[name])
   have aI:hd (b3 id (cr++[name]))∈cr++[name]:=by
    cases ba:b3 id (cr++[name])with
    |nil=>rw[ba]at aF;have:=aF.length_eq;simp at this
    |cons D l=>exact aF.mem_iff.mp (by refine H ba ?_;exact .head _)
   rcases fC.mp aI with B|B
   .exact rK _ B
   .refine H (pn.mp B) ?_;exact gV
end
structure qw (l:List bB) (O:List (ah×bJ)):Prop where
 fr:i5 l O
 dict:∀a N,O.lookup a=some N->a∈dx l/\∃b9 f2,N.data= .dict b9 f2
noncomputable def AO(B:bo)(O:List (ah×bJ)):List (ah×bJ):=O.map λJ=>(J.1,(B.get? J.1).getD J.2)
theorem R5{B:bo}{O:List (ah×bJ)}(a:ah):(AO B O).lookup a=(O.lookup a).map λN=>(B.get? a).getD N:=by
 induction O with
 |nil=>rfl
 |cons J O bf=>
  show((J.1,(B.get? J.1).getD J.2)::AO B O).lookup a=_
  refine H c1 ?_;refine H c1 ?_
  cases ak:a==J.1 with
  |true=>have:=eq_of_beq ak;subst this;rfl
  |false=>exact bf
theorem J3{B:bo}{O:List (ah×bJ)}(be:∀a N,O.lookup a=some N->∃ct,B.get? a=some {N with slots:=ct}){a:ah}{N:bJ}(e:(AO B O).lookup a=some N):B.get? a=some N/\∃p_ ct,O.lookup a=some p_/\N={p_ with slots:=ct}:=by
 rw[R5]at e
 cases ba:O.lookup a with
 |none=>rw[ba]at e;cases e
 |some p_=>
  rw[ba]at e
  obtain⟨ct,h1⟩:=be a p_ ba
  have e:(B.get? a).getD p_=N:=by simpa using e
  rw[h1]at e
  have e:({p_ with slots:=ct}:bJ)=N:=e
  subst e
  exact⟨h1,p_,ct,rfl,rfl⟩
theorem qw.turn{l:List bB}{B:bo}{O:List (ah×bJ)}(F:qw l O)(be:∀a N,O.lookup a=some N->∃ct,B.get? a=some {N with slots:=ct}):qw l (AO B O):=by
 refine⟨λe bw=>?_,λa N a6=>?_⟩
 .refine xA (F.fr e bw) λh1 ar N aA bn cK=>?_
  refine bH (be ar N bn) λct fq=>?_
  refine⟨h1,ar,{N with slots:=ct},aA,?_,cK⟩
  refine H (R5 _) ?_;refine H bn ?_;refine H fq ?_
  rfl
 .refine Se (J3 be a6) λ_ p_ ct h1 H6=>?_;subst H6
  exact F.dict a p_ h1
section
variable{W:bj}{I:br}{env:bB}{X:List ah}{ae:bu}{M:ce}{O cI:List (ah×bJ)}{Z:List ah}{av C s':aq}{aj:an->aq->Prop}{ai:fj->aq->Prop}
set_option tactic.hygienic true in
theorem ahx{v:an}{jk ct:a'}{t:dN}{ab:List ax}{d:ax}(r:aC (a0 X C) v (.list (ab++[d])))(aF:qd ct=true):dZ W X I (ri jk ct v (.int (-1) t)) d C:=⟨λai aj q=>by
 refine aC.gD r λ_ _ l a=>?_
 rename_i g5 af
 have bW:=a.length
 simp at bW
 refine cm (a.get (L:=ab.length) (d:=d) (by simp)) λD nQ r=>?_
 have l:=(cP.plain l).isList
 with_reducible refine og (oh l) vY.lookup (wpAny_getItem_list_neg l (by decide) (by lia) (by decide) ?_ (q _ _ (gb C) r)) (tj aF _ _)
 have:((-1:Int)+af.size).toNat=ab.length:=(congrArg xI (Qf (bW▸l7 _))).trans (congrArg Tv bW)
 refine H this ?_
 simpa using nQ⟩
theorem Vu{v ct al ab d}(bA:aY W I env ae v (.list (ab++[d])))(aU:aY W I env ae ct (.int (-1)))(aF:autoParam (qd ct=true) tR):aY W I env ae (.Subscript v ct al) d:=
 yy bA aU λX C bx bE aK _ aT bb=>by refine aC.eI bb λ_=>?_;exact ahx aT aF
theorem abZ{V:a'}{body aJ:List cT}{al:bp}(ag:aP W env X ae M O Z av C)(aO:ej W I env ae V false)(next:∀s',aP W env X ae M O Z av s'->az W.M I (bY aJ env) ai aj s'):az W.M I (bY (.If V body [] al::aJ) env) ai aj C:=
 m8 ag aO λaG bG=>by
  simp only[fi,if_false]
  exact dq (next aG bG)
theorem ab0(Y:Nat){V:a'}{body aJ:List cT}{al:bp}(ag:aP W env X ae M O Z av C)(aO:ej W I env (qD M Y ae) V false)(next:∀s',aP W env X ae M O Z av s'->az W.M I (bY aJ env) ai aj s'):az W.M I (bY (.If V body [] al::aJ) env) ai aj C:=
 abR Y ag aO λaG bG=>by
  simp only[fi,if_false]
  exact dq (next aG bG)
theorem yV{M:ce}{F:ah}{ca:List (ah×List aZ)}(iI:M.lookup F=some (cw ca))(aE:∀J∈ca,M.lookup J.1=some (bM J.2)):ga M 2 (.adr F)= .cf F (ca.map dy):=by
 refine H (pP (Y:=1) iI) ?_
 congr 1
 unfold cw
 refine H dY ?_
 refine gZ λJ aF=>?_
 show ga M 1 (.adr J.1)=_
 refine H (pP (Y:=0) (aE J aF)) ?_
 congr 1
 conv=>rhs;rw[<-kC (bM J.2)]
 exact gZ λd _=>rfl
theorem u5{d9:Type}{l:List (ay×d9)}{a:ay}{d:d9}(B:l.lookup a=some d):(a,d)∈l:=by
 induction l with
 |nil=>cases B
 |cons J r bf=>
  rw[c1]at B
  cases aS:a==J.1 with
  |true=>rw[aS]at B;cases B;have:=eq_of_beq aS;subst this;exact .head _
  |false=>rw[aS]at B;exact .tail _ (bf B)
noncomputable abbrev gk(W:bj)(ar:ah):bB:=callEnvC (bP W.w 219) ar 219
noncomputable abbrev cG(l0:List bB):List ah:=72::89::dx l0
noncomputable def YE(l:List cT):List cT:=rZ l 0
end
section
variable{W:bj}{I:br}{ar dK:ah}{ae:bu}{av C s':aq}{aj:an->aq->Prop}{ai:fj->aq->Prop}{l0:List bB}{N:bJ}{d6 d7:Array an}{dO:List (ah×bJ)}
noncomputable abbrev xd(dK:ah)(N:bJ)(d6 d7:Array an)(dO:List (ah×bJ)):List (ah×bJ):=(72,cb d6)::(dK,N)::(89,cb d7)::dO
theorem ads(eZ:(72:ah)∉dx l0)(ft:(89:ah)∉dx l0)(i_:dK∉cG l0){a:ah}(ha:a∈dx l0):(xd dK N d6 d7 dO).lookup a=dO.lookup a:=by
 have h1:a≠72:=λe=>eZ (e▸ha)
 have aA:a≠89:=λe=>ft (e▸ha)
 have bn:a≠dK:=λe=>i_ (e▸ .tail _ (.tail _ ha))
 refine H (es h1) ?_;refine H (es bn) ?_;refine H (es aA) ?_;rfl
set_option maxHeartbeats 1000000 in
theorem ae2{F R bl:ah}{ca:List (ah×List aZ)}{name:aZ}{Y:Nat}{ap:List (List aZ)}{dl:ax}{aJ:List cT}{t1 eE t3 cB cY eM eP nZ lA o4 n0 DK Jc Jd al:bp}{k1 k2:_}(bd:I.handled=none)(bk:I.depth+8<d3)(be:I.units+40<c7)(de:I.frames=some (gk W ar::l0))(ot:qw l0 dO)(lE:f' 29 49 d6)(nd:f' 60 50 d7)(eZ:(72:ah)∉dx l0)(ft:(89:ah)∉dx l0)(i_:dK∉cG l0)(ag:aP W (gk W ar) (F::(R::(ca++[(bl,[name])]).map (·.1)++(dK::cG l0))) ae ((F,cw ca)::(R,cw (ca++[(bl,[name])]))::db (ca++[(bl,[name])])) (xd dK N d6 d7 dO) (cG l0) av C)(cO:(F::R::(ca++[(bl,[name])]).map (·.1)).Nodup)(pS:∀b∈F::R::(ca++[(bl,[name])]).map (·.1),b∉dK::cG l0)(ev:∀b∈F::R::(ca++[(bl,[name])]).map (·.1),av.heap.get? b=none)(sV:ca.map (·.2)=ap)(bt:cl (ap++[[name]]))(aF:e9 (ap.map hd))(cE:∀r∈ap,e9 r)(aU:ae.lookup ("items":ay)=some (.adr F))(oP:ae.lookup ("read":ay)=some (.adr R))(cp:ae.lookup ("text":ay)=some (.str (g9 ap)))(a_:ae.lookup ("n":ay)=some (.int (Y:Int)))(e5:ae.lookup ("rows":ay)=some (.list ((canon ap).map dv)))(pZ:ae.lookup ("name":ay)=some (en name))(HC:ae.lookup ("deeds":ay)=some dl)(next:∀c5 o5 o6 rq s',f' 29 49 o5->f' 60 50 o6->qw l0 rq->ig (Y % 6) (canon ap) name=canon c5->cl c5->e9 (c5.map hd)->(∀r∈c5,e9 r)->aP W (gk W ar) (dK::cG l0) [("text",.str (g9 c5)),("told",i9 (Y % 6) (canon ap) name),("items",.list (c5.map k4)),("rows",.list ((canon ap).map dv)),("name",en name),("n",.int (Y:Int)),("deeds",dl)] [] (xd dK N o5 o6 rq) (cG l0) av s'->az W.M I (bY aJ (gk W ar)) ai aj s'):az W.M I (bY (.Assign [.Tuple [.Name "told" t1,.Name "text" eE] k1 t3] (.Call (.Name "_law_turn" cB) [.BinOp (.Name "n" cY) .Mod (.Constant (.int 6) k2 eM) eP,.Name "items" nZ,.Name "text" lA,.Subscript (.Name "read" o4) (.UnaryOp .USub (.Constant (.int 1) k2 n0) DK) Jc] [] Jd) al::aJ) (gk W ar)) ai aj C:=by
 subst sV
 have wL:((F,cw ca)::(R,cw (ca++[(bl,[name])]))::db (ca++[(bl,[name])]):ce).map (·.1)=F::R::(ca++[(bl,[name])]).map (·.1):=by
  refine H ef ?_;refine H ef ?_;refine H (xn _) ?_;rfl
 have kk:∀J∈((F,cw ca)::(R,cw (ca++[(bl,[name])]))::db (ca++[(bl,[name])]):ce),((F,cw ca)::(R,cw (ca++[(bl,[name])]))::db (ca++[(bl,[name])]):ce).lookup J.1=some J.2:=λJ aF=>Af (by refine H wL ?_;exact cO) aF
 have lZ:∀J∈ca++[(bl,[name])],((F,cw ca)::(R,cw (ca++[(bl,[name])]))::db (ca++[(bl,[name])]):ce).lookup J.1=some (bM J.2):=λJ aF=>kk (J.1,bM J.2) (.tail _ (.tail _ (kD.mpr ⟨J,aF,rfl⟩)))
 generalize N7:((F,cw ca)::(R,cw (ca++[(bl,[name])]))::db (ca++[(bl,[name])]):ce)=M at ag wL kk lZ
 have N4:M.lookup F=some (cw ca):=kk (F,cw ca) (by refine b' N7 ?_;exact .head _)
 have Zr:M.lookup R=some (cw (ca++[(bl,[name])])):=kk (R,_) (by refine b' N7 ?_;exact .tail _ (.head _))
 have rA:ga M 2 (.adr F)= .cf F (ca.map dy):=yV N4 λJ aF=>lZ J (k9 _ aF)
 have XP:ga M 2 (.adr R)= .cf R ((ca++[(bl,[name])]).map dy):=yV Zr lZ
 refine abX (Z:=cG l0) (av:=av) bd (zW 2 ag (ab:=[.int ((Y % 6:Nat):Int),.cf F (ca.map dy),.str (g9 (ca.map (·.2))),dy (bl,[name])]) (bI (v' (a:=Y) (b:=6) (aW (mZ a_ (wm λa e=>by cases e))) (i7 (L:=6)) (by decide)) (bI (aW (mZ aU rA)) (bI (aW (mZ cp (wm λa e=>by cases e))) (bI (Vu (ab:=ca.map dy) (aY.lF (a:=R) ?_) (wa c_)) cF)))) (YX _) (GC W).obj (GC W).fn λaf dW cy PS aV=>?_)
 .have:=aW (W:=W) (I:=I) (env:=gk W ar) (al:=o4) (mZ oP XP)
  rw[gA]at this
  exact this
 have Q2:∃t1 eE,af=[.int ((Y % 6:Nat):Int) t1,.ref F,.str (g9 (ca.map (·.2))) eE,.ref bl]:=by
  refine a3.eC aV λ_ _ aT rs=>?_
  refine a3.eC rs λ_ _ bb rs=>?_
  refine a3.eC rs λ_ _ e0 rs=>?_
  refine a3.eC rs λ_ _ gN rs=>?_
  refine a3.eN rs ?_
  refine aC.eI aT λ_=>?_
  cases bb
  refine aC.eS e0 λ_=>?_
  cases gN
  exact⟨_,_,rfl⟩
 refine jF Q2 λtk1 R1 di=>?_;clear Q2;subst di
 refine pj cy.ns λm p' b9 f2 aE=>?_;refine fb aE λp0 zp ajs=>?_;clear aE
 have zk:ar∉F::(R::(ca++[(bl,[name])]).map (·.1)++(dK::cG l0)):=cy.iZ
 have gL:∀b∈ar::F::(R::(ca++[(bl,[name])]).map (·.1)++(dK::cG l0)),b∈F::(R::(ca++[(bl,[name])]).map (·.1)++(dK::cG l0))\/dW.heap.get? b=none\/b=(gk W ar).locals:=λb ak=>by
  refine d2 ak ?_ λB=>?_
  .exact .inr (.inr rfl)
  .exact .inl B
 have w4:=cy.z7 (cC.refl [] dW) (λ_ B=>nomatch B) gL
 have Ha:ar∉dx l0:=λB=>zk (.tail _ (jI _ (.tail _ (.tail _ (.tail _ B)))))
 have oL:dx (gk W ar::l0)=ar::dx l0:=rfl
 have Zs:∀a b0,dO.lookup a=some b0->dW.heap.get? a=some b0/\a∈dx l0/\∃b9 f2,b0.data= .dict b9 f2:=λa b0 e=>by
  refine d8 (ot.dict a b0 e) λh1 aA=>?_
  exact⟨(cy.objs a b0 (by refine H (ads eZ ft i_ h1) ?_;exact e)).1,h1,aA⟩
 have zC:(F::bl::ca.map (·.1)).Nodup:=by
  have h1:(F::(ca.map (·.1)++[bl])).Nodup:=by
   rw[d',d',gA]at cO
   refine H (propext d') ?_
   exact⟨λB=>cO.1 (.tail _ B),cO.2.2⟩
  exact(SP F (pp (l₁:=ca.map (·.1)) (l₂:=[bl]))).nodup_iff.mp h1
 have CQ:∀b∈F::bl::ca.map (·.1),b∈F::R::(ca++[(bl,[name])]).map (·.1):=λb ak=>by
  refine d2 ak ?_ λak=>?_
  .exact .head _
  .refine .tail _ (.tail _ ?_)
   refine H gA ?_
   refine d2 ak ?_ λak=>?_
   .exact jI _ (.head _)
   .exact k9 _ ak
 have aay:∀b∈F::R::(ca++[(bl,[name])]).map (·.1),b∈F::(R::(ca++[(bl,[name])]).map (·.1)++(dK::cG l0)):=λb ak=>by
  refine d2 ak ?_ λak=>?_
  .exact .head _
  .exact .tail _ (k9 _ ak)
 have lx:∀b∈dK::cG l0,b∈F::(R::(ca++[(bl,[name])]).map (·.1)++(dK::cG l0)):=λb ak=>.tail _ (jI _ ak)
 have N5:∀J∈ka F bl ca name,M.lookup J.1=some J.2:=λJ aF=>by
  refine d2 aF ?_ λaF=>?_
  .exact N4
  .refine d2 aF ?_ λaF=>?_
   .exact lZ (bl,[name]) (jI _ (.head _))
   .refine dQ aF λq ba=>?_
    exact lZ q (k9 _ ba)
 refine Xh (I:=I) (l0:=gk W ar::l0) (dO:=(ar,p')::dO) (X:=ar::F::(R::(ca++[(bl,[name])]).map (·.1)++(dK::cG l0))) (X0:=dK::cG l0) (aa:=F) (bl:=bl) (ap:=ca) (name:=name) (kind:=Y % 6) (d6:=d6) (d7:=d7) bd (by omega) (by omega) de (λb ak=>?_) (cy.MN (cC.refl [] dW) (λ_ B=>nomatch B) gL) (λJ aF=>?_) zC (.tail _ (lx _ (.tail _ (.head _)))) (.tail _ (lx _ (.tail _ (.tail _ (.head _))))) (cy.objs 72 (cb d6) (by simp)).1 lE (cy.objs 89 (cb d7) ?_).1 nd (λe bw=>?_) (λa b0 e=>?_) (λb ak=>?_) ?_ ?_ (λJ aF=>cE _ (eT aF)) (hy _ (by decide)) (λb ak=>.tail _ (lx b ak)) (λb ak B=>pS b (CQ b B) ak) (.cons (.int _ _) (.cons (.adr _) (.cons (.str _ _) (.cons (.adr _) .nil)))) λv e1 b8=>?_
 .refine d2 ak ?_ λB=>?_
  .exact⟨p',p0⟩
  .exact cy.c6 b B
 .refine fW (cy.el J.1 J.2 (N5 J aF)) λh1 _ af bz aV=>?_
  exact⟨.tail _ h1,af,bz,a3.g_ w4 aV⟩
 .refine H (es (by decide)) ?_;refine H (es (show(89:ah)≠dK from λau=>i_ (au▸ .tail _ (.head _)))) ?_
  simp
 .refine d2 bw ?_ λbw=>?_
  .exact⟨by refine H (show(gk W ar).scope.kind= .function from rfl) ?_;decide,ar,p',rfl,by simp,λaf au=>by rw[zp]at au;cases au⟩
  .refine xA (ot.fr e bw) λh1 t6 b0 aA bn cK=>?_
   refine⟨h1,t6,b0,aA,?_,cK⟩
   have:t6≠ar:=λau=>Ha (au▸EF.mpr ⟨e,bw,aA⟩)
   refine H (es this) ?_
   exact bn
 .by_cases ha:a=ar
  .subst ha
   rw[c1]at e
   simp at e
   subst e
   exact⟨p0,by refine H oL ?_;exact .head _,b9,f2,zp⟩
  .rw[es ha]at e
   refine fb (Zs a b0 e) λh1 aA bn=>?_
   exact⟨h1,by refine H oL ?_;exact .tail _ aA,bn⟩
 .rw[oL]at ak
  refine d2 ak ?_ λak=>?_
  .exact .head _
  .exact .tail _ (lx _ (.tail _ (.tail _ (.tail _ ak))))
 .refine cl.perm bt ?_ λr aE=>?_
  .refine H qn ?_
   exact pp (l₁:=[name])
  .refine d2 aE ?_ λaE=>?_
   .simp
   .exact bt.ne r (k9 _ aE)
 .exact aF
 obtain⟨c2,⟨o5,D9,agj⟩,⟨o6,xr,agk⟩,Nx,c5,b',ez,wI,iy,uL,uI⟩:=b8
 have Il:∀a b0,dO.lookup a=some b0->∃ct,e1.heap.get? a=some {b0 with slots:=ct}:=λa b0 e=>Nx a b0 (by
  refine d8 (ot.dict a b0 e) λh1 _=>?_
  have:a≠ar:=λau=>Ha (au▸h1)
  refine H (es this) ?_
  exact e)
 have NY:=ot.turn Il
 have N1:=(cy.objs dK N (by
  have:dK≠72:=λau=>i_ (au▸ .head _)
  refine H (es this) ?_
  simp)).1
 have mo:∀b∈F::bl::ca.map (·.1)++72::89::dx (gk W ar::l0),b∈F::(R::(ca++[(bl,[name])]).map (·.1)++(dK::cG l0))\/b=(gk W ar).locals:=λb ak=>by
  rcases fC.mp ak with B|B
  .exact .inl (aay b (CQ b B))
  .refine d2 B ?_ λB=>?_
   .exact .inl (lx _ (.tail _ (.head _)))
   .refine d2 B ?_ λB=>?_
    .exact .inl (lx _ (.tail _ (.tail _ (.head _))))
    .rw[oL]at B
     refine d2 B ?_ λB=>?_
     .exact .inr rfl
     .exact .inl (lx _ (.tail _ (.tail _ (.tail _ B))))
 have Hr:∀b∈F::bl::ca.map (·.1)++72::89::dx (gk W ar::l0),b∈cG l0\/av.heap.get? b=none:=λb ak=>by
  rcases fC.mp ak with B|B
  .exact .inr (ev b (CQ b B))
  .refine d2 B ?_ λB=>?_
   .exact .inl (.head _)
   .refine d2 B ?_ λB=>?_
    .exact .inl (.tail _ (.head _))
    .rw[oL]at B
     refine d2 B ?_ λB=>?_
     .exact .inr cy.new
     .exact .inl (.tail _ (.tail _ B))
 have N3:dK∉F::bl::ca.map (·.1)++72::89::dx (gk W ar::l0):=λak=>by
  rcases fC.mp ak with B|B
  .exact pS dK (CQ dK B) (.head _)
  .rcases s3 B with rfl|B
   .exact i_ (.head _)
   .rcases s3 B with rfl|B
    .exact i_ (.tail _ (.head _))
    .rw[oL]at B
     rcases s3 B with rfl|B
     .exact zk (lx _ (.head _))
     .exact i_ (.tail _ (.tail _ B))
 have ZL:∀b∈dK::cG l0,b∈F::(R::(ca++[(bl,[name])]).map (·.1)++(dK::cG l0))\/dW.heap.get? b=none\/b=(gk W ar).locals:=λb ak=>.inl (lx b ak)
 have De:=cy.z7 c2 mo ZL
 have cU:aP W (gk W ar) (dK::cG l0) [("items",.list (c5.map k4)),("rows",.list ((canon (ca.map (·.2))).map dv)),("name",en name),("n",.int (Y:Int)),("deeds",dl)] [] (xd dK N o5 o6 (AO e1.heap dO)) (cG l0) av e1:=by
  refine cy.over c2 mo Hr (λb ak=>?_) (λb ak=>.inl (lx b ak)) (λb0 e=>?_) (λb ak=>.tail _ ak) (λ_ _ e=>nomatch e) (λa b0 e=>?_) λD d e=>?_
  .refine d2 ak ?_ λB=>?_
   .exact⟨N,c2.keep _ _ N3 N1⟩
   .refine d2 B ?_ λB=>?_
    .exact⟨_,D9⟩
    .refine d2 B ?_ λB=>?_
     .exact⟨_,xr⟩
     .refine cm (EF.mp B) λdB bw b2=>?_
      refine xA (NY.fr dB bw) λ_ t6 b0 aA bn _=>?_
      rw[aA]at b2
      cases b2
      exact⟨b0,(J3 Il bn).1⟩
  .have a8:dW.heap.get? ar=some b0:=e
   have aaU:dW.heap.get? ar=some p':=p0
   rw[aaU]at a8
   cases a8
   exact Nx ar p' (by simp)
  .by_cases h1:a=72
   .subst h1
    rw[c1]at e
    simp at e
    subst e
    exact⟨D9,rfl,λau=>zk ((show _=ar from au)▸lx _ (.tail _ (.head _)))⟩
   rw[es h1]at e
   by_cases aA:a=dK
   .subst aA
    rw[c1]at e
    simp at e
    subst e
    exact⟨c2.keep _ _ N3 N1,rfl,λau=>zk ((show _=ar from au)▸lx _ (.head _))⟩
   rw[es aA]at e
   by_cases bn:a=89
   .subst bn
    rw[c1]at e
    simp at e
    subst e
    exact⟨xr,rfl,λau=>zk ((show _=ar from au)▸lx _ (.tail _ (.tail _ (.head _))))⟩
   rw[es bn]at e
   refine Se (J3 Il e) λcK p_ ct fq fs=>?_
   exact⟨cK,rfl,λau=>Ha ((show _=ar from au)▸(ot.dict a p_ fq).1)⟩
  .have aI:=u5 e
   rcases dw.mp aI with B|aI
   .cases B
    refine⟨.adr F,aU,λv r=>?_⟩
    refine aC.eD r ?_
    exact b'
   rcases dw.mp aI with B|aI
   .cases B
    exact⟨_,e5,λv r=>r.g_ De⟩
   rcases dw.mp aI with B|aI
   .cases B
    exact⟨_,pZ,λv r=>r.g_ De⟩
   rcases dw.mp aI with B|aI
   .cases B
    exact⟨_,a_,λv r=>r.g_ De⟩
   rcases dw.mp aI with B|aI
   .cases B
    exact⟨_,HC,λv r=>r.g_ De⟩
   .cases aI
 exact⟨_,_,_,_,_,_,cU,ez,λf3 dA=>next c5 o5 o6 _ f3 agj agk NY wI iy uL uI dA⟩
end
section
variable{W:bj}{I:br}{ar dK:ah}{ae:bu}{av C s':aq}{aj:an->aq->Prop}{ai:fj->aq->Prop}{l0:List bB}{N:bJ}{d6 d7:Array an}{dO:List (ah×bJ)}
set_option maxHeartbeats 1000000 in
theorem ae0{name:aZ}{Y:Nat}{ap:List (List aZ)}{dl:ax}(bd:I.handled=none)(bk:I.depth+8<d3)(be:I.units+60<c7)(de:I.frames=some (gk W ar::l0))(ot:qw l0 dO)(lE:f' 29 49 d6)(nd:f' 60 50 d7)(eZ:(72:ah)∉dx l0)(ft:(89:ah)∉dx l0)(i_:dK∉cG l0)(ag:aP W (gk W ar) (dK::cG l0) ae [] ((dK,N)::(72,cb d6)::(89,cb d7)::dO) (cG l0) av C)(bt:cl (ap++[[name]]))(HV:name.length % 4≠1)(aF:e9 (ap.map hd))(cE:∀r∈ap,e9 r)(cp:ae.lookup ("text":ay)=some (.str (g9 ap)))(a_:ae.lookup ("n":ay)=some (.int (Y:Int)))(e5:ae.lookup ("rows":ay)=some (.list ((canon ap).map dv)))(pZ:ae.lookup ("name":ay)=some (en name))(aa':ae.lookup ("raw":ay)=some (.str (bh (dX name))))(HC:ae.lookup ("deeds":ay)=some dl):az W.M I (bY (YE (dT W.w 219)) (gk W ar)) (λao s'=>ao= .next/\∃c5 o5 o6 rq,f' 29 49 o5/\f' 60 50 o6/\qw l0 rq/\ig (Y % 6) (canon ap) name=canon c5/\cl c5/\e9 (c5.map hd)/\(∀r∈c5,e9 r)/\aP W (gk W ar) (dK::cG l0) [("rows",.list ((canon c5).map dv)),("text",.str (g9 c5)),("deeds",dl)] [] ((dK,N)::(72,cb o5)::(89,cb o6)::rq) (cG l0) av s') aj C:=by
 have e':cl ap:=cl.part bt (l:=[name]) (by simp) λr aE=>bt.ne r (k9 _ aE)
 have g:e8 name:=bt.gV (jI _ (.head _)) (.head _)
 have N2:dK≠72:=λau=>i_ (au▸ .head _)
 have RS:∀{d6:Array an}{d7:Array an}{dO:List (ah×bJ)}(a:ah)(b0:bJ),(xd dK N d6 d7 dO).lookup a=some b0↔((dK,N)::(72,cb d6)::(89,cb d7)::dO).lookup a=some b0:=by
  intro d6 d7 dO a b0
  by_cases h1:a=72
  .subst h1
   refine H (es (iB N2)) ?_
   simp
  .refine H (es h1) ?_
   by_cases aA:a=dK
   .subst aA
    simp
   .refine H (es aA) ?_;refine H (es aA) ?_;refine H (es h1) ?_;rfl
 have iN:aP W (gk W ar) (dK::cG l0) ae [] (xd dK N d6 d7 dO) (cG l0) av C:=ag.j0 (λ_ _ e=>e) λa b0 e=>(RS a b0).mp e
 have lp:((dK,N)::(89,cb d7)::dO).lookup 72=none:=by
  refine H (es (iB N2)) ?_;refine H (es (by decide)) ?_
  cases ba:dO.lookup 72 with
  |none=>rfl
  |some b0=>exact absurd (ot.dict 72 b0 ba).1 eZ
 refine mz (Z:=cG l0) (av:=av) (GO (ap:=ap++[[name]]) (h9:=[jd ap,dX name]) iN lp lE (.head _) bd (by exact aL [_,_] 10473139900380156929 rfl bk) (hi (bI (aW (show _=some (ax.str (bh (jd ap)))by refine b' (IS _) ?_;exact cp)) (bI (aW aa') cF)) (by simp[bc])) ?_ (by simp) λR a7 fN aG tm km cO ev bG=>?_)
 .have:=aeB e' g HV
  refine H gA ?_
  exact this
 obtain⟨ca,bl,rfl,sV⟩:∃ca bl,a7=ca++[(bl,[name])]/\ca.map (·.2)=ap:=by
  rcases List.eq_nil_or_concat a7 with B|⟨ca,q,B⟩
  .subst B
   simp at km
  .rw[List.concat_eq_append]at B
   subst B
   rw[gA]at km
   refine d8 (List.append_inj' km rfl) λh1 aA=>?_
   obtain⟨bl,r⟩:=q
   simp at aA
   subst aA
   exact⟨ca,bl,rfl,h1⟩
 refine⟨_,_,_,_,.adr R,bG,.adr R,λa5 bN=>?_⟩
 refine abN bN rfl (ab:=cw (ca++[(bl,[name])])) (by simp) (λd hd=>?_) ?_ λF bv iI bR=>?_
 .refine dQ hd λJ _=>?_
  rfl
 .have:ap.length<=50:=cu (GU e'.ne) e'.sB
  have aA:ca.length=ap.length:=by refine b' sV ?_;simp
  simp[cw,bc]
  exact bX [_,_] 185056004068201810072920384 rfl aA this
 have C3:(cw (ca++[(bl,[name])])).take ((cw (ca++[(bl,[name])])).length - 1)=cw ca:=by
  unfold cw
  refine H gA ?_
  simp
 rw[C3]at bR
 have Ct:F∉R::(ca++[(bl,[name])]).map (·.1)++(dK::cG l0):=λB=>by
  refine bH (bN.c6 F B) λb0 e=>?_
  rw[iI]at e
  cases e
 have OT:(F::R::(ca++[(bl,[name])]).map (·.1)).Nodup:=d'.mpr ⟨λB=>Ct (k9 _ B),cO⟩
 have pS:∀b∈F::R::(ca++[(bl,[name])]).map (·.1),b∉dK::cG l0:=λb ak B=>by
  rcases s3 ak with rfl|ak
  .exact Ct (jI _ B)
  .refine bH (iN.c6 b B) λb0 e=>?_
   rw[ev b ak]at e
   cases e
 have aaO:∀b∈F::R::(ca++[(bl,[name])]).map (·.1),av.heap.get? b=none:=λb ak=>by
  refine d2 ak ?_ λak=>?_
  .exact bN.rY iI
  .exact iN.rY (ev b ak)
 have wL:((F,cw ca)::(R,cw (ca++[(bl,[name])]))::db (ca++[(bl,[name])]):ce).map (·.1)=F::R::(ca++[(bl,[name])]).map (·.1):=by
  refine H ef ?_;refine H ef ?_;refine H (xn _) ?_;rfl
 have kk:∀J∈((F,cw ca)::(R,cw (ca++[(bl,[name])]))::db (ca++[(bl,[name])]):ce),((F,cw ca)::(R,cw (ca++[(bl,[name])]))::db (ca++[(bl,[name])]):ce).lookup J.1=some J.2:=λJ aF=>Af (by refine H wL ?_;exact OT) aF
 have lZ:∀J∈ca++[(bl,[name])],((F,cw ca)::(R,cw (ca++[(bl,[name])]))::db (ca++[(bl,[name])]):ce).lookup J.1=some (bM J.2):=λJ aF=>kk (J.1,bM J.2) (.tail _ (.tail _ (kD.mpr ⟨J,aF,rfl⟩)))
 refine ab0 2 bR (ae1 (W:=W) (I:=I) (env:=gk W ar) (ae:=qD ((F,cw ca)::(R,cw (ca++[(bl,[name])]))::db (ca++[(bl,[name])])) 2 (("items",.adr F)::("read",.adr R)::ae)) (R:=R) (F:=F) (a7:=ca++[(bl,[name])]) (ca:=ca) (ap:=ap) (name:=name) bd (by exact aL [_,_] 10473139900381205505 rfl bk) (by exact aL [_,_] 2680813299134426649601 rfl be) (by refine H gA ?_;refine H sV ?_;rfl) sV e' g (λr aE=>?_) (mZ (d:=.adr R) rfl (yV (kk (R,_) (.tail _ (.head _))) lZ)) (mZ (d:=.adr F) rfl (yV (kk (F,_) (.head _)) λJ aF=>lZ J (k9 _ aF))) (mZ e5 (wm λa e=>by cases e)) (mZ cp (wm λa e=>by cases e)) (mZ pZ (wm λa e=>by cases e))) λc3 cc=>?_
 .rcases fC.mp aE with B|B
  .exact cE r B
  .refine H (pn.mp B) ?_
   exact aF
 refine ae2 bd bk (by exact aL [_,_] 2680813299134426649601 rfl be) de ot tm nd eZ ft i_ cc OT pS aaO sV bt aF cE rfl rfl cp a_ e5 pZ HC λc5 o5 o6 rq dW gl gs BC wI iy uL uI cy=>?_
 have RR:cl (canon ap++[[name]]):=by
  refine cl.perm bt ?_ λr aE=>?_
  .refine H qn ?_;refine H qn ?_
   exact((GV (gy hd _)).trans (Cj (gy id) ap)).append_right _
  .rcases fC.mp aE with B|B
   .exact e'.canon.ne r B
   .exact bt.ne r (jI _ B)
 refine Ix bd cy ((qy (D:="_law_due") rfl (YO _) (Gv W).obj (Gv W).fn (bI (v' (a:=Y) (b:=6) (aW rfl) (i7 (L:=6)) (by decide)) (bI (aW rfl) (bI (aW rfl) cF))) (ad6 bd (by exact aL [_,_] 10473139900380156929 rfl bk) (by exact aL [_,_] 2680813299134426649601 rfl be) (Y % 6) (hy _ (by decide)) (canon ap) name RR)).on _ _ cy.c6 cy.G) λe1 cU=>?_
 refine abZ cU (BP (a:=false) (b:=false) (yA (Y:=3) (aW rfl) (aW rfl) (YA RR) (by exact aL [_,_] 167550831195902252033 rfl be)) λ_=>yA (Y:=0) (aW rfl) (qy rfl (NG _) (yY W).obj (yY W).fn (bI (aW rfl) cF) (QV bd (by exact aL [_,_] 159807432561985 rfl bk) c5 iy.small)) (Np iy) (by exact aL [_,_] 10471926949743694849 rfl be)) λf3 dA=>?_
 refine dq ⟨rfl,c5,o5,o6,rq,gl,gs,BC,wI,iy,uL,uI,?_⟩
 refine b' wI ?_
 refine(dA.weak λD d e=>?_).j0 (dk:=[]) (λ_ _ e=>e) λa b0 e=>(RS a b0).mpr e
 .have aI:=u5 e
  rcases dw.mp aI with B|aI
  .cases B;rfl
  rcases dw.mp aI with B|aI
  .cases B;rfl
  rcases dw.mp aI with B|aI
  .cases B;rfl
  .cases aI
end
set_option tactic.hygienic true in
theorem XZ(kind:Nat)(rows:List (List aZ))(name:aZ):∃l,((ig kind rows name).flatten++l).Perm (rows.flatten++[name]):=by
 unfold ig
 split
 .exact⟨[name],.refl _⟩
 split
 .refine⟨[],?_⟩
  refine H (A1 _) ?_
  refine(gy hd _).flatten.trans ?_
  simp
 split
 .exact⟨[name],by simp⟩
 .rename_i cr aJ
  split
  .cases cr with
   |nil=>
    refine⟨[name],?_⟩
    have:=(gy hd (aJ++[([]:List aZ).tail].filter λr=> !r.isEmpty)).flatten
    simpa using this.append_right [name]
   |cons D r=>
    refine⟨[D,name],?_⟩
    have h1:=(gy hd (aJ++[(D::r).tail].filter λr=> !r.isEmpty)).flatten
    have aA:(aJ++[(D::r).tail].filter λr=> !r.isEmpty).flatten=aJ.flatten++r:=by
     refine H qn ?_
     congr 1
     show(List.filter (λr:List aZ=> !r.isEmpty) [r]).flatten=r
     cases r<;>simp
    rw[aA]at h1
    refine(h1.append_right _).trans ?_
    refine H (propext oc) ?_
    intro a
    simp[nf,pk]
    try exact e_ [_,_,_,_] 1685477660081587202 rfl
  split
  .refine⟨cr,?_⟩
   have h1:=(gy hd (aJ++[[name]])).flatten
   refine(h1.append_right _).trans ?_
   refine H (propext oc) ?_
   intro a
   simp[nf,pk]
   try exact e_ [_,_,_] 24465482515458 rfl
  split
  .refine⟨[name],?_⟩
   have h1:=(gy hd (aJ.drop 1++[b3 id (cr++(aJ.take 1).flatten)])).flatten
   refine((h1.trans ?_).append_right _)
   have aA:=gy id (cr++(aJ.take 1).flatten)
   refine H qn ?_
   refine(Kr _ (by simpa using aA)).trans ?_
   cases aJ with
   |nil=>simp
   |cons r aJ=>
    refine H (propext oc) ?_
    intro a
    simp[nf,pk]
    try exact e_ [_,_,_] 22403898213378 rfl
  .have aA:=gy id (cr++[name])
   cases ba:b3 id (cr++[name])with
   |nil=>rw[ba]at aA;have:=aA.length_eq;simp at this
   |cons D t=>
    rw[ba]at aA
    refine⟨[D],?_⟩
    have h1:=(gy hd (aJ++[(D::t).tail])).flatten
    refine(h1.append_right _).trans ?_
    have bn:((aJ++[(D::t).tail]).flatten++[D]).Perm (aJ.flatten++(D::t)):=by
     refine H (propext oc) ?_
     intro a
     simp[nf,pk]
     try lia
    refine bn.trans ((Kr _ aA).trans ?_)
    refine H (propext oc) ?_
    intro a
    simp[nf,pk]
    try exact e_ [_,_,_] 24465482515458 rfl
theorem B9(ap:List (List aZ)):(canon ap).flatten.Perm ap.flatten:=(GV (gy hd _)).trans (Cj (gy id) ap)
theorem Wa{ap c5 more:List (List aZ)}{kind:Nat}{name:aZ}(B:cl (ap++[name]::more))(hu:ig kind (canon ap) name=canon c5)(aA:cl c5):cl (c5++more):=by
 refine bH (XZ kind (canon ap) name) λl J=>?_
 rw[hu]at J
 have cY:(c5.flatten++l).Perm (ap.flatten++[name]):=((B9 c5).symm.append_right l).trans (J.trans ((B9 ap).append_right _))
 refine cl.part B (l:=l) ?_ λr aE=>?_
 .refine H qn ?_;refine H qn ?_;refine H jH ?_
  have e:(c5.flatten++more.flatten++l).Perm (c5.flatten++l++more.flatten):=by
   refine H (k8 _ _ _) ?_;refine H (k8 _ _ _) ?_
   exact Kr _ pp
  refine e.trans ((cY.append_right _).trans ?_)
  refine H (k8 _ _ _) ?_;rfl
 .rcases fC.mp aE with h1|h1
  .exact aA.ne r h1
  .exact B.ne r (jI _ (.tail _ h1))
noncomputable abbrev rB(J:Nat×aZ):ax:=.tuple [.int (J.1:Int),en J.2,.str (bh (dX J.2))]
structure Mp where
 ap:List (List aZ)
 d6:Array an
 d7:Array an
 dO:List (ah×bJ)
structure BR (l0:List bB) (more:List aZ) (a:Mp):Prop where
 lE:f' 29 49 a.d6
 nd:f' 60 50 a.d7
 e4:qw l0 a.dO
 bt:cl (a.ap++more.map λD=>[D])
 aF:e9 (a.ap.map hd)
 cE:∀r∈a.ap,e9 r
section
variable{W:bj}{I:br}{ar dK:ah}{ae:bu}{av C s':aq}{aj:an->aq->Prop}{l0:List bB}{N:bJ}{d6 d7:Array an}{dO:List (ah×bJ)}
theorem aeZ{ai:fj->aq->Prop}{ap:List (List aZ)}{aJ:List cT}{cB cY eM eP nZ lA o4 n0 al:bp}(bd:I.handled=none)(bk:I.depth+4<d3)(be:I.units+60<c7)(lE:f' 29 49 d6)(eZ:(72:ah)∉dx l0)(ot:qw l0 dO)(ag:aP W (gk W ar) (cG l0) ae [] ((72,cb d6)::(89,cb d7)::dO) (cG l0) av C)(bt:cl ap)(aF:e9 (ap.map hd))(cE:∀r∈ap,e9 r)(cp:ae.lookup ("text":ay)=some (.str (g9 ap)))(e5:ae.lookup ("rows":ay)=some (.list ((canon ap).map dv)))(q:∀s',cC (cG l0) av s'->(∃J,s'.heap.get? 72=some (cb J))->(∃J,s'.heap.get? 89=some (cb J))->ai (.ret (.bool true)) s'):az W.M I (bY (.Return (some (.Call (.Name "_law_holds" cB) [.Call (.Name "split_header_words" cY) [.List [.Name "text" eM] eP] [] nZ,.Name "rows" lA,.Name "text" o4] [] n0)) al::aJ) (gk W ar)) ai aj C:=by
 have lp:((89,cb d7)::dO).lookup 72=none:=by
  refine H (es (by decide)) ?_
  cases ba:dO.lookup 72 with
  |none=>rfl
  |some b0=>exact absurd (ot.dict 72 b0 ba).1 eZ
 refine eH (tV ?_)
 show az _ _ (b1 (.Name "_law_holds" cB) (gk W ar)>>=λv=>fH n0 v [] (fk n0 (eV _ (gk W ar))) (j_ n0 (j' [] (gk W ar)))) _ _ _
 refine aM (o2 ag.G rfl (NE _) ?_ (by decide))
 show az _ _ (fH n0 (.ref 200) [] (fk n0 (eV _ (gk W ar))) []) _ _ _
 refine vL (o:=hm W.w 200) (fd:=bP W.w 200) ?_
 refine H ((h8 rfl) _) ?_
 refine k' (g0 ?_)
 refine GO (ap:=ap) (h9:=[jd ap]) ag lp lE (.head _) bd (by exact aL [_,_] 10472014000473314305 rfl bk) (hi (bI (aW (show _=some (ax.str (bh (jd ap)))by refine b' (IS _) ?_;exact cp)) cF) (by simp[bc])) (aeA bt) (by simp) λR a7 fN aG tm km cO ev bG=>?_
 refine((bI (aW e5) (bI (aW cp) cF)).on _ aG bG.c6 bG.G).go _ _ λaf a5 k2 aV=>?_
 have bN:=bG.keeps k2
 have wL:((R,cw a7)::db a7:ce).map (·.1)=R::a7.map (·.1):=by refine H ef ?_;refine H (xn _) ?_;rfl
 have kk:∀J∈((R,cw a7)::db a7:ce),((R,cw a7)::db a7:ce).lookup J.1=some J.2:=λJ aF=>Af (by refine H wL ?_;exact cO) aF
 have i':aC (a0 (iq (R::a7.map (·.1)++cG l0) ((R,cw a7)::db a7)) a5) (.ref R) (.list (ap.map k4)):=by
  have:=bN.Ca 2 (.adr R)
  rw[yV (kk (R,_) (.head _)) λJ aF=>kk (J.1,bM J.2) (.tail _ (kD.mpr ⟨J,aF,rfl⟩))]at this
  refine iA (aC.Ah this) λ_ _ bz aV=>?_
  refine b' km ?_;exact .list bz (PV aV)
 refine⟨⟨uY (bN.G.base.mono cP).K (yW W).obj,(yW W).fn⟩,?_⟩
 refine((QU bd (by exact aL [_,_] 10472014000473314305 rfl bk) (by exact aL [_,_] 2680813299134426649601 rfl be) ap bt λr aE=>?_).on (iq (R::a7.map (·.1)++cG l0) ((R,cw a7)::db a7)) a5 _ bN.jg bN.open.base (.cons i' (aV.mono (jZ oW)))).go _ _ λv bv dr e0=>?_
 .rcases fC.mp aE with B|B
  .exact cE r B
  .refine H (pn.mp B) ?_;exact aF
 .refine aC.eO e0 ?_
  have bR:=bN.keeps dr
  exact q bv bR.keep ⟨_,(bR.objs 72 _ rfl).1⟩ ⟨d7,(bR.objs 89 (cb d7) rfl).1⟩
end
noncomputable def agg:ax->bu
 | .tuple [a,b,V]=>[("raw",V),("name",b),("n",a)]
 |_=>[]
section
variable{W:bj}{I:br}{ar dK:ah}{ae:bu}{av C s':aq}{aj:an->aq->Prop}{l0:List bB}{N:bJ}{d6 d7:Array an}{dO:List (ah×bJ)}
theorem adt{dK:ah}(i_:dK∉cG l0)(ot:qw l0 dO):((72,cb d6)::(89,cb d7)::dO:List (ah×bJ)).lookup dK=none:=by
 refine H (es (show dK≠72 from λau=>i_ (au▸ .head _))) ?_;refine H (es (show dK≠89 from λau=>i_ (au▸ .tail _ (.head _)))) ?_
 cases ba:dO.lookup dK with
 |none=>rfl
 |some b0=>exact absurd (.tail _ (.tail _ (ot.dict dK b0 ba).1)) i_
set_option maxHeartbeats 1000000 in
theorem Xe{hW:List (Nat×aZ)}{l:ah}{ap:List (List aZ)}{af:List an}{ai:an->aq->Prop}(bd:I.handled=none)(bk:I.depth+10<d3)(be:I.units+70<c7)(de:I.frames=some l0)(aK:c0 (cG l0) C)(bQ:eg W (a0 (cG l0) C))(eZ:(72:ah)∉dx l0)(ft:(89:ah)∉dx l0)(gl:C.heap.get? 72=some (cb d6))(gs:C.heap.get? 89=some (cb d7))(gq:∀a b0,dO.lookup a=some b0->C.heap.get? a=some b0)(inv:BR l0 (hW.map (·.2)) ⟨ap,d6,d7,dO⟩)(aI:∀J∈hW,J.2.length % 4≠1)(bW:hW.length<=60)(aV:a3 (a0 (cG l0) C) af [.str (g9 ap),.list ((canon ap).map dv),.cf l (hW.map rB)])(q:∀s',cC (cG l0) C s'->(∃J,s'.heap.get? 72=some (cb J))->(∃J,s'.heap.get? 89=some (cb J))->ai (.bool true) s'):az W.M I (df (.ref 219) af) ai aj C:=by
 refine m7 (Z:=cG l0) (M:=[]) (O:=(72,cb d6)::(89,cb d7)::dO) (GA W) rfl (by exact aL [_,_] 159816022496577 rfl bk) aK bQ aV (λb ak=>ak) (λ_ _ e=>nomatch e) (λa b0 e=>?_) λar aG bG=>?_
 .by_cases h1:a=72
  .subst h1
   rw[c1]at e
   simp at e
   subst e
   exact⟨gl,rfl⟩
  rw[es h1]at e
  by_cases aA:a=89
  .subst aA
   rw[c1]at e
   simp at e
   subst e
   exact⟨gs,rfl⟩
  rw[es aA]at e
  exact⟨gq a b0 e,rfl⟩
 have cA:(I.deeper (gk W ar)).handled=none:=bd
 have b7:(I.deeper (gk W ar)).depth=I.depth+1:=rfl
 have eK:(I.deeper (gk W ar)).units=I.units+3:=rfl
 have zu:(I.deeper (gk W ar)).frames=some (gk W ar::l0):=K2 de
 show az W.M (I.deeper (gk W ar)) _ _ _ aG
 generalize I.deeper (gk W ar)=dH at cA b7 eK zu ⊢
 refine zX (Z:=cG l0) (av:=C) (e2:=Mp) (l:=l) (aR:=hW.map rB) (λ_=>cG l0) (λa=>[("rows",.list ((canon a.ap).map dv)),("text",.str (g9 a.ap)),("deeds",.cf l (hW.map rB))]) (λ_=>[]) (λa=>(72,cb a.d6)::(89,cb a.d7)::a.dO) (λL a=>BR l0 ((hW.drop L).map (·.2)) a) agg ⟨ap,d6,d7,dO⟩ cA (λ_ _ _=>rfl) (λd hd=>?_) (λL a d dK N a5 jL cL hd Hd i_ bN=>?_) inv ?_ ?_ (λa bv cL bR=>?_)
 .refine dQ hd λJ _=>?_
  exact We cA
 .rw[lI]at hd
  cases ba:hW[L]? with
  |none=>rw[ba]at hd;cases hd
  |some J=>
   rw[ba]at hd
   cases hd
   refine bH (kB.mp ba) λaU aF=>?_
   have HD:(hW.drop L).map (·.2)=J.2::(hW.drop (L+1)).map (·.2):=by
    refine H (xL aU) ?_;refine H aF ?_
    rfl
   have cL:BR l0 ((hW.drop L).map (·.2)) a:=cL
   rw[HD]at cL
   have af9:cl (a.ap++[[J.2]]):=cl.part cL.bt (l:=(hW.drop (L+1)).map (·.2)) (by
    have:((ob (λD:aZ=>[D]) ((hW.drop (L+1)).map (·.2))).flatten)=(hW.drop (L+1)).map (·.2):=by
     generalize (hW.drop (L+1)).map (·.2)=kT
     induction kT with
     |nil=>rfl
     |cons D r bf=>refine H ef ?_;refine H jH ?_;refine H bf ?_;rfl
    simp only[ef,qn,jH,this,SX,A1]
    refine H (k8 _ _ _) ?_;rfl) λr aE=>by
     rcases fC.mp aE with B|B
     .exact cL.bt.ne r (k9 _ B)
     .exact cL.bt.ne r (jI _ (by refine H (pn.mp B) ?_;exact .head _))
   have CW:J∈hW:=qo ba
   refine fe (ae0 (name:=J.2) (Y:=J.1) (ap:=a.ap) (dl:=.cf l (hW.map rB)) cA (by exact bX [_,_,_] 47377354651786681237756777473 rfl b7 bk) (by exact bX [_,_,_] 12128492832306420273271397291009 rfl eK be) zu cL.e4 cL.lE cL.nd eZ ft i_ bN af9 (aI J CW) cL.aF cL.cE rfl rfl rfl rfl rfl rfl) (λao s' B=>?_) λ_ _ D=>D
   refine ahh B λg7 c5 o5 o6 aE=>?_;clear B;refine vt aE λrq D9 xr BC aE=>?_;refine xz aE λwI iy uL uI bR=>?_;clear aE;subst g7
   exact⟨⟨c5,o5,o6,rq⟩,⟨D9,xr,BC,Wa cL.bt wI iy,uL,uI⟩,adt i_ BC,i_,bR⟩
 .exact bG.weak λD d e=>by
   have aI:=u5 e
   rcases dw.mp aI with B|aI
   .cases B;rfl
   rcases dw.mp aI with B|aI
   .cases B;rfl
   rcases dw.mp aI with B|aI
   .cases B;rfl
   .cases aI
 .simp[bc]
  exact aL [_] 42865771287069692293440 rfl bW
 .have cL:BR l0 ((hW.drop (hW.map rB).length).map (·.2)) a:=cL
  rw[gz,List.drop_length]at cL
  have bt:cl a.ap:=by
   have:=cL.bt
   simpa using this
  exact aeZ cA (by exact bX [_,_,_] 47377354651786681237752583169 rfl b7 bk) (by exact bX [_,_,_] 12128492832306420273271397291009 rfl eK be) cL.lE eZ cL.e4 bR bt cL.aF cL.cE rfl rfl λs' c2 h1 aA=>q s' c2 h1 aA
end
section
variable{W:bj}{I:br}{env:bB}{X X':List ah}{ae d_:bu}{M dk:ce}{O cI:List (ah×bJ)}{Z su:List ah}{av C s':aq}{aj:an->aq->Prop}{ai:fj->aq->Prop}
theorem aP.look(ag:aP W env X ae M O Z av C)(lq:c0 X' C)(gL:∀b∈X',b∈X\/av.heap.get? b=none)(sR:env.locals∉X')(nS:∀b∈Z,b∈X')(gF:∀aa ab,dk.lookup aa=some ab->aa∈X'/\(aa∈Z\/av.heap.get? aa=none)/\∃af,C.heap.PlainList aa af/\a3 (a0 X' C) af.toList ab)(gq:∀a N,cI.lookup a=some N->O.lookup a=some N/\dk.lookup a=none)(Iu:∀D d,d_.lookup D=some d->∃lm,ae.lookup D=some lm/\∀v,aC (a0 X C) v lm->aC (a0 X' C) v d):aP W env X' d_ dk cI Z av C:=by
 have ajm:∀b,b∈X'->b∈X\/av.heap.get? b=none:=gL
 refine⟨lq,⟨ag.mj.mono λb N e=>?_,ag.G.kind,ag.G.globals,ag.G.builtins,λD d e=>?_⟩,ag.ns,ag.new,sR,ag.cells,gF,λa N e=>?_,ag.keep,ag.mj.mono λb N e=>?_,nS⟩
 .have a8:=fc _ e
  have hY:b∉X:=λaI=>by rw[fP _ aI]at e;cases e
  refine ei _ (ag.keep.keep b N (λaI=>hY (ag.hS b aI)) a8) λaI=>?_
  rcases gL b aI with B|B
  .exact hY B
  .rw[B]at a8;cases a8
 .refine cm (Iu D d e) λlm aQ h1=>?_
  refine jl (ag.G.vars D lm aQ) λq v r b=>?_
  refine⟨q,v,h1 v r,?_⟩
  cases b with
  |loc a Y V=>exact .loc a (m' (Y.keeps (h':=C.heap) cP) sR) V
  |cell a V _=>rw[ag.cells]at V;cases V
  |free a V _ _=>rw[ag.cells]at V;cases V
 .refine d8 (gq a N e) λh1 aA=>?_
  refine fb (ag.objs a N h1) λbn cK fq=>?_
  exact⟨bn,aA,fq⟩
 .have a8:=fc _ e
  have hY:b∉X:=λaI=>by rw[fP _ aI]at e;cases e
  refine ei _ a8 λaI=>?_
  rcases gL b aI with B|B
  .exact hY B
  .rw[B]at a8;cases a8
end
noncomputable abbrev nE(W:bj)(ar:ah):bB:=callEnvC (bP W.w 226) ar 226
section
variable{W:bj}{I:br}{ar R:ah}{X:List ah}{ae:bu}{M:ce}{O:List (ah×bJ)}{Z:List ah}{av C:aq}{aj:an->aq->Prop}{ai:fj->aq->Prop}{a7:List (ah×List aZ)}
theorem aP.ae8(ag:aP W (nE W ar) (R::a7.map (·.1)++X) ae ((R,cw a7)::db a7) O Z av C)(cO:(R::a7.map (·.1)).Nodup)(uC:R∉X)(nS:∀b∈Z,b∈X):aP W (nE W ar) (a7.map (·.1)++X) [] (db a7) O Z av C/\aC (a0 (a7.map (·.1)++X) C) (.ref R) (.cf R (cw a7)):=by
 have ZA:R∉a7.map (·.1)++X:=λB=>(fC.mp B).elim (λB=>(d'.mp cO).1 B) uC
 have fg:∀b∈a7.map (·.1)++X,b∈R::a7.map (·.1)++X:=λb ak=>.tail _ ak
 have OR:∀aa ab,(db a7).lookup aa=some ab->((R,cw a7)::db a7:ce).lookup aa=some ab:=λaa ab e=>by
  have aI:=l4 e
  have:aa≠R:=λau=>(d'.mp cO).1 (by
   refine b' (xn _) ?_;refine b' au ?_
   exact eT aI)
  refine H (es this) ?_
  exact e
 constructor
 .refine ag.look (λb ak=>ag.c6 b (fg b ak)) (λb ak=>.inl (fg b ak)) (λB=>ag.iZ (fg _ B)) (λb ak=>jI _ (nS b ak)) (λaa ab e=>?_) (λa N e=>⟨e,?_⟩) λ_ _ e=>nomatch e
  .refine fW (ag.el aa ab (OR aa ab e)) λh1 aA af bz aV=>?_
   refine⟨?_,aA,af,bz,aV.mono (jZ fg)⟩
   refine k9 _ ?_
   refine b' (xn _) ?_
   exact eT (f:=λD:ah×List ax=>D.1) (l4 e)
  .cases ba:(db a7).lookup a with
   |none=>rfl
   |some ab=>
    have cK:=(ag.objs a N e).2.1
    rw[OR a ab ba]at cK
    cases cK
 .refine fW (ag.el R (cw a7) (by simp)) λ_ _ af nR aV=>?_;obtain⟨Y,e⟩:=nR
  exact .cf ⟨Y,ei _ e ZA⟩ (aV.Ci λd hd=>by refine dQ hd λJ _=>?_;rfl)
theorem aP.aat{ca:List (ah×List aZ)}(ag:aP W (nE W ar) (a7.map (·.1)++X) ae (db ca) O Z av C)(aU:ae.lookup ("items":ay)=some (.cf R (cw a7)))(ba:ca.map (·.1)=a7.map (·.1))(cO:(R::a7.map (·.1)).Nodup)(sE:av.heap.get? R=none)(Zu:∀a N,O.lookup a=some N->a≠R):aP W (nE W ar) (R::a7.map (·.1)++X) [("items",.adr R)] ((R,cw ca)::db ca) O Z av C:=by
 have i':∃af,C.heap.PlainList R af/\a3 (a0 (a7.map (·.1)++X) C) af.toList (cw a7):=by
  refine jl (ag.G.vars _ _ aU) λ_ v r _=>?_
  refine aC.eA r λ_ bz aV=>?_
  exact⟨_,cP.plain bz,aV⟩
 have Hv:cw ca=cw a7:=by
  unfold cw
  have:=congrArg (ob ax.adr) ba
  rw[dY,dY]at this
  exact this
 refine cm i' λaf bz aV=>?_;clear i'
 have Zz:R≠(nE W ar).locals:=λau=>by
  refine bH bz λY e=>?_;clear bz
  exact ag.P2 _ _ _ (au▸e) rfl
 have CF:∀d∈cw a7,d.flat=true:=λd hd=>by refine dQ hd λJ _=>?_;rfl
 refine ag.look (λb ak=>?_) (λb ak=>?_) (λB=>?_) (λb ak=>.tail _ (ag.hS b ak)) (λaa ab e=>?_) (λa N e=>⟨e,?_⟩) λD d e=>?_
 .refine d2 ak ?_ λB=>?_
  .exact t_.there bz
  .exact ag.c6 b B
 .refine d2 ak ?_ λB=>?_
  .exact .inr sE
  .exact .inl B
 .rcases dw.mp B with B|B
  .exact Zz B.symm
  .exact ag.iZ B
 .by_cases cn:aa=R
  .subst cn
   rw[c1]at e
   simp at e
   subst e
   exact⟨.head _,.inr sE,af,bz,by refine H Hv ?_;exact aV.Ci CF⟩
  .rw[es cn]at e
   refine fW (ag.el aa ab e) λh1 aA ek qX ks=>?_
   refine⟨.tail _ h1,aA,ek,qX,a3.m_ (λd hd=>?_) (λa ha=>?_) ks⟩
   .refine cm (kD.mp (l4 e)) λJ _ bm=>?_
    cases bm
    refine dQ hd λD _=>?_
    exact DR D
   .refine d2 ha ?_ λB=>?_
    .exact .inr ⟨_,bz⟩
    .exact .inl B
 .refine H (es (Zu a N e)) ?_
  exact(ag.objs a N e).2.1
 .have aI:=u5 e
  rcases dw.mp aI with B|aI
  .cases B
   exact⟨_,aU,λv r=>by cases r with |cf _ _=>exact .adr R⟩
  .cases aI
end
section
variable{W:bj}{I:br}{env:bB}{X:List ah}{ae:bu}{M:ce}{O:List (ah×bJ)}{Z:List ah}{av C s':aq}{ai:fj->aq->Prop}{aj:an->aq->Prop}{aa ar R:ah}{ap:List (ah×List aZ)}
theorem WY{cY eM eP lA:bp}{aJ:List cT}{a7:Array an}(ag:aP W env X ae M O Z av C)(T:gC M aa ap)(bt:gY ap)(ft:89∈X)(G2:89∈Z)(zc:M.lookup 89=none)(zf:(89:ah)∉aa::ap.map (·.1))(gs:C.heap.get? 89=some (cb a7))(ku:f' 60 50 a7)(bd:I.handled=none)(bk:I.depth+3<d3)(aU:ae.lookup ("items":ay)=some (.adr aa))(q:∀v s',(∀cI,(∀a N,cI.lookup a=some N->O.lookup a=some N/\a≠89)->aP W env X ae M cI Z av s')->(∃a7,s'.heap.get? 89=some (cb a7)/\f' 60 50 a7)->aC (a0 X s') v (.str (g9 (ap.map (·.2))))->ai (.ret v) s')(hk:autoParam (env.kindOf "join_header_words"=some .globalImplicit) tR):az W.M I (bY (.Return (some (.Call (.Name "join_header_words" cY) [.Name "items" eM] [] eP)) lA::aJ) env) ai aj C:=by
 refine eH (tV ?_)
 have bG:=ag
 have a_:=(d'.mp T.m9).2
 have cn:=(d'.mp T.m9).1
 have fg:∀J∈(aa,cw ap)::db ap,M.lookup J.1=some J.2:=λJ aF=>by
  refine d2 aF ?_ λaF=>?_
  .exact T.items
  .exact o' T.rows J aF
 have bN:=bG.sub fg
 have Hz:ga ((aa,cw ap)::db ap) 2 (.adr aa)= .cf aa (ap.map dy):=M7 T.m9
 have qH:(89:ah)∈iq X ((aa,cw ap)::db ap):=by
  refine lJ.mpr ⟨ft,?_⟩
  have h1:((89:ah)==aa)=false:=by
   have:(89:ah)≠aa:=λe=>zf (e▸ .head _)
   simpa using this
  refine H c1 ?_;refine H h1 ?_;refine H (vg λB=>zf (.tail _ B)) ?_
  rfl
 refine zW 2 bN (ab:=[.cf aa (ap.map dy)]) (bI (aW (mZ aU Hz)) cF) (NF _) (yX W).obj (yX W).fn (λaf a5 bR k2 aV=>?_) hk
 have lZ:ap.map dy=(ap.map λJ=>(J.1,J.2.map cq)).map n5:=by
  refine H dY ?_
  refine gZ λJ _=>?_
  show ax.cf J.1 (bM J.2)= .cf J.1 ((J.2.map cq).map cX)
  refine H dY ?_
  rfl
 rw[lZ]at aV
 have aA:a5.heap.get? 89=some (cb a7):=ed k2 _ _ gs
 refine MR bd (by exact aL [_,_] 10471732525496603649 rfl bk) bR.jg (bR.G.base.mono (jZ oW)) qH ⟨a7,aA,ku⟩ (λr aE=>?_) ?_ aV λbE bv dr bn e0=>?_
 .refine dQ aE λJ aF=>?_
  exact bt.small.small (eT aF)
 .have:=bt.len
  simp at this ⊢
  exact aL [_] 40868990025212224 rfl this
 rw[PG bt.ne]at e0
 have cc:∀cI,(∀a N,cI.lookup a=some N->O.lookup a=some N/\a≠89)->aP W env X ae M cI Z av bv:=λcI mn=>by
  refine((bG.keeps k2)).c2 dr (λb ak=>by simp at ak;subst ak;exact ft) (λb ak=>by simp at ak;subst ak;exact .inl G2) (λb ak=>by simp at ak;subst ak;refine cm bn λjh e _=>?_;clear bn;exact⟨_,e⟩) (λiM ab e=>.inl ⟨e,λak=>by simp at ak;subst ak;rw[zc]at e;cases e⟩) λa N e=>?_
  refine d8 (mn a N e) λcK fq=>?_
  exact⟨(ag.objs a N cK).2.1,(ag.objs a N cK).2.2,.inl ⟨cK,by simpa using fq⟩⟩
 exact q bE bv cc bn (aC.flat e0 rfl)
end
section
variable{W:bj}{I:br}{X:List ah}{C:aq}{d6 d7:Array an}
set_option maxHeartbeats 1000000 in
theorem W_{a b V:aZ}{ek:List aZ}{af:List an}{ai:an->aq->Prop}{aj:an->aq->Prop}(bd:I.handled=none)(bk:I.depth+8<d3)(be:I.units+40<c7)(aK:c0 X C)(bQ:eg W (a0 X C))(eZ:(72:ah)∈X)(ft:(89:ah)∈X)(gl:C.heap.get? 72=some (cb d6))(lE:f' 29 49 d6)(gs:C.heap.get? 89=some (cb d7))(nd:f' 60 50 d7)(bt:cl [[a,b],[V]])(ha:a.length % 4≠1)(ak:b.length % 4≠1)(aO:V.length % 4≠1)(aV:a3 (a0 X C) af [.list ((a::b::V::ek).map λD=>.str (bh (dX D)))])(C5:ek.length<=50)(q:∀v s' ap,cC [72,89] C s'->(∃a7,s'.heap.get? 72=some (cb a7)/\f' 29 49 a7)->(∃a7,s'.heap.get? 89=some (cb a7)/\f' 60 50 a7)->aC (a0 X s') v (.str (g9 ap))->cl ap->e9 (ap.map hd)->(∀r∈ap,e9 r)->canon ap=canon [[a,b],[V]]->ai v s'):az W.M I (df (.ref 226) af) ai aj C:=by
 have us:e8 a:=bt.gV (.head _) (.head _)
 have rJ:e8 b:=bt.gV (.head _) (.tail _ (.head _))
 have gc:e8 V:=bt.gV (.tail _ (.head _)) (.head _)
 have lx:∀b∈[(72:ah),89],b∈X:=λb ak=>by
  simp at ak
  rcases ak with rfl|rfl
  .exact eZ
  .exact ft
 refine m7 (Z:=[72,89]) (M:=[]) (O:=[(72,cb d6),(89,cb d7)]) (Gs W) rfl (by exact aL [_,_] 159807432561985 rfl bk) aK bQ aV lx (λ_ _ e=>nomatch e) (λD b0 e=>?_) λar aG bG=>?_
 .have:(D,b0)∈[((72:ah),cb d6),(89,cb d7)]:=l4 e
  simp at this
  rcases this with⟨rfl,rfl⟩|⟨rfl,rfl⟩
  .exact⟨gl,rfl⟩
  .exact⟨gs,rfl⟩
 have cA:(I.deeper (nE W ar)).handled=none:=bd
 have b7:(I.deeper (nE W ar)).depth=I.depth+1:=rfl
 have eK:(I.deeper (nE W ar)).units=I.units+3:=rfl
 show az W.M (I.deeper (nE W ar)) _ _ _ aG
 generalize I.deeper (nE W ar)=dH at cA b7 eK ⊢
 have Io:∀D:aZ,e8 D->(dX D).length<=1000:=λD g=>by
  have:=g.len
  simp[dX]
  exact bX [_,_] 2960966675043105348005221376 rfl this (rX _ 4 (by decide))
 have item:∀(L:Nat)(D:aZ)(cB cY eM:bp)(k:_),(a::b::V::ek)[L]? =some D->L<3->aY W dH (nE W ar) [("words",.list ((a::b::V::ek).map λD=>.str (bh (dX D))))] (.Subscript (.Name "words" cB) (.Constant (.int (L:Int)) k cY) eM) (.str (bh (dX D))):=λL D cB cY eM k aS aU=>
  ox (aW rfl) c_ (by exact fG _) (by lia) (by refine H (lH _) ?_;refine H (lI) ?_;refine H aS ?_;rfl)
 refine mz (Z:=[72,89]) (av:=C) (GO (ap:=[[a,b],[V]]) (h9:=[dX a++[59,32]++dX b++[44]++dX V]) bG rfl lE (.head _) cA (by exact bX [_,_,_] 47377203536059229409103647745 rfl b7 bk) ?_ (aey us rJ gc ha ak aO) (by simp) λR a7 fN a5 tm km cO ev bN=>?_)
 .refine hi (bI ?_ cF) (by simp[bc])
  have e:bh (dX a)++bh [59,32]++bh (dX b)++bh [44]++bh (dX V)=bh (dX a++[59,32]++dX b++[44]++dX V):=by
   simp only[tp]
  have ajA:=Io a us
  have fz:=Io b rJ
  have d5:=Io V gc
  have q1:∀{k J},aY W dH (nE W ar) [("words",.list ((a::b::V::ek).map λD=>.str (bh (dX D))))] (.Constant (.str "; ") k J) (.str (bh [59,32])):=λ{k J}=>by
   have:("; ":ay)=bh [59,32]:=by decide+kernel
   refine b' this ?_
   exact iH
  have fV:∀{k J},aY W dH (nE W ar) [("words",.list ((a::b::V::ek).map λD=>.str (bh (dX D))))] (.Constant (.str ",") k J) (.str (bh [44])):=λ{k J}=>by
   have:(",":ay)=bh [44]:=by decide+kernel
   refine b' this ?_
   exact iH
  show aY _ _ _ _ _ (.str (bh (dX a++[59,32]++dX b++[44]++dX V)))
  refine b' e ?_
  refine v8 (v8 (v8 (v8 (item 0 a _ _ _ _ rfl (by exact e_ [] 19992593 rfl)) q1 ?_) (item 1 b _ _ _ _ rfl (by exact e_ [] 319885585 rfl)) ?_) fV ?_) (item 2 V _ _ _ _ rfl (by exact e_ [] 319889681 rfl)) ?_
  all_goals simp only[tp,pf,gJ,i3,q9,bc];lia
 obtain⟨aT,bb,rfl⟩:∃aT bb,a7=[(aT,[a,b]),(bb,[V])]:=by
  refine l6 (S6.mp km) λJ l di aF B=>?_;subst di
  obtain⟨q,l,rfl,ba,B⟩:=S6.mp B
  refine H (List.map_eq_nil_iff.mp B) ?_;refine b' aF ?_;refine b' ba ?_
  exact⟨J.1,q.1,rfl⟩
 have uC:R∉X:=λB=>by
  refine bH (bG.c6 R B) λb0 e=>?_
  rw[ev R (.head _)]at e
  cases e
 have sE:C.heap.get? R=none:=bG.rY (ev R (.head _))
 refine d8 (bN.ae8 cO uC lx) λbR aeq=>?_
 have uw:bb≠aT:=λau=>by
  have:=(d'.mp (d'.mp cO).2).1
  exact this (by simp[au])
 have GK:∀D b0,([(72,cb fN),(89,cb d7)]:List (ah×bJ)).lookup D=some b0->D=72\/D=89:=λD b0 e=>by
  have:(D,b0)∈[((72:ah),cb fN),(89,cb d7)]:=l4 e
  simp at this
  rcases this with⟨rfl,_⟩|⟨rfl,_⟩
  .exact .inl rfl
  .exact .inr rfl
 refine⟨_,_,_,_,.cf R [.adr aT,.adr bb],bR,aeq,λbv cc=>?_⟩
 refine zX (Z:=[72,89]) (av:=C) (e2:=List aZ) (l:=R) (aR:=[.adr aT,.adr bb]) (λ_=>[aT,bb]++X) (λ_=>[("items",.cf R [.adr aT,.adr bb])]) (λbq=>db [(aT,bq),(bb,[V])]) (λ_=>[(72,cb fN),(89,cb d7)]) (λL bq=>bq.Perm [a,b]/\(0<L->e9 bq)) (λd=>[("item",d)]) [a,b] cA (λ_ _ _=>rfl) (λd hd=>BS) (λL bq d dK N c3 jL cL hd Hd i_ cy=>?_) ⟨.refl _,λB=>absurd B (by decide)⟩ cc (by simp[bc]) (λbq c3 cL cy=>?_)
 .refine d8 cL λiv Ik=>?_;clear cL
  have Y6:∀am∈bq,e8 am:=λam bZ=>by
   have:=iv.mem_iff.mp bZ
   simp at this
   rcases this with rfl|rfl
   .exact us
   .exact rJ
  have acW:bq.length=2:=iv.length_eq
  match L,hd with
  |0,hd=>
   cases hd
   refine p6 (iY cy (ab:=[.adr aT]) (bI (aW rfl) cF) (Ck _) (rC W).obj (rC W).fn λaf dW cU aV=>JH cU (r:=bq) (by simp[db]) Y6 (by exact aL [_] 2553140127998272 rfl acW) cA (by exact bX [_,_,_] 47377203536059229409104696321 rfl b7 bk) (by exact bX [_,_,_] 12128456564531831834396114162689 rfl eK be) aV λe1 dM o9 kO dA=>dq ⟨dM,⟨o9.trans iv,λ_=>kO⟩,Hd,i_,(dA.sub (dk:=db [(aT,dM),(bb,[V])]) λJ aF=>?_).weak λD d e=>?_⟩)
   .simp only[db,ef,q_,dw,lK,or_false]at aF
    rcases aF with rfl|rfl
    .simp
    .show((aT,bM dM)::(aT,bM bq)::(bb,bM [V])::[]:ce).lookup bb=_
     refine H (es uw) ?_;refine H (es uw) ?_
     simp
   .have aI:=u5 e
    rcases dw.mp aI with B|aI
    .cases B;rfl
    .cases aI
  |1,hd=>
   cases hd
   refine p6 (iY cy (ab:=[.adr bb]) (bI (aW rfl) cF) (Ck _) (rC W).obj (rC W).fn λaf dW cU aV=>JH cU (r:=[V]) (by
     show((aT,bM bq)::(bb,bM [V])::[]:ce).lookup bb=_
     refine H (es uw) ?_
     simp) (λam bZ=>by refine H (pn.mp bZ) ?_;exact gc) (by simp) cA (by exact bX [_,_,_] 47377203536059229409104696321 rfl b7 bk) (by exact bX [_,_,_] 12128456564531831834396114162689 rfl eK be) aV λe1 dM o9 kO dA=>dq ⟨bq,⟨iv,λ_=>Ik (by decide)⟩,Hd,i_,(dA.sub (dk:=db [(aT,bq),(bb,[V])]) λJ aF=>?_).weak λD d e=>?_⟩)
   .have aa_:dM=[V]:=Td.mp o9
    subst aa_
    simp only[db,ef,q_,dw,lK,or_false]at aF
    rcases aF with rfl|rfl
    .show((bb,bM [V])::(aT,bM bq)::(bb,bM [V])::[]:ce).lookup aT=_
     refine H (es (iB uw)) ?_
     simp
    .simp
   .have aI:=u5 e
    rcases dw.mp aI with B|aI
    .cases B;rfl
    .cases aI
  |L+2,hd=>cases hd
 .refine d8 cL λiv Ik=>?_;clear cL
  have abr:e9 bq:=Ik (by simp)
  have Qd:∀D,D=72\/D=89->D≠R:=λD aS au=>by
   subst au
   rcases aS with rfl|rfl
   .exact uC eZ
   .exact uC ft
  have cU:=cy.aat (R:=R) (a7:=[(aT,[a,b]),(bb,[V])]) (ca:=[(aT,bq),(bb,[V])]) rfl rfl cO sE λD b0 e=>Qd D (GK D b0 e)
  have iy:cl [bq,[V]]:=by
   refine cl.perm bt ?_ λr aE=>?_
   .simp only[jH,SX,A1]
    exact iv.append_right _
   .simp at aE
    rcases aE with rfl|rfl
    .intro au
     subst au
     have:=iv.length_eq
     simp at this
    .simp
  have zC:(R::[(aT,bq),(bb,[V])].map (·.1)).Nodup:=cO
  have zl:aT≠R:=λau=>(d'.mp cO).1 (by simp[au])
  have Hi:bb≠R:=λau=>(d'.mp cO).1 (by simp[au])
  have T:gC ((R,cw [(aT,bq),(bb,[V])])::db [(aT,bq),(bb,[V])]) R [(aT,bq),(bb,[V])]:=⟨by simp,λJ aF=>by
   simp only[dw,lK,or_false]at aF
   rcases aF with rfl|rfl
   .refine H (es zl) ?_;simp[db]
   .refine H (es Hi) ?_
    show((aT,bM bq)::(bb,bM [V])::[]:ce).lookup bb=_
    refine H (es uw) ?_
    simp,zC⟩
  refine p6 (iY cU (ab:=[.adr R]) (bI (aW rfl) cF) (Ck _) (rC W).obj (rC W).fn λaf dW dA aV=>ago dA T iy cA (by exact bX [_,_,_] 47377203536059229409104696321 rfl b7 bk) (by exact bX [_,_,_] 12128456564531831834396114162689 rfl eK be) aV λe1 cV fU aaz T' eW=>?_)
  have e':gY cV:=gY.of (a7:=[(aT,bq),(bb,[V])]) iy fU
  have Qt:=eW.objs 89 (cb d7) (by refine H (es (by decide)) ?_;simp)
  have aaP:∀D,D=72\/D=89->D∉R::cV.map (·.1):=λD aS B=>by
   rcases dw.mp B with B|B
   .exact Qd D aS B
   .have:=(fU.map (·.1)).mem_iff.mp B
    have cK:a5.heap.get? D=none\/True:=.inr trivial
    have fq:=ev D (.tail _ this)
    refine bH (bG.c6 D (lx D (by rcases aS with rfl|rfl<;>simp))) λb0 e=>?_
    rw[fq]at e
    cases e
  refine WY eW T' e' (jI _ ft) (.tail _ (.head _)) Qt.2.1 (aaP 89 (.inr rfl)) Qt.1 nd cA (by exact bX [_,_,_] 47377203536059229409104696321 rfl b7 bk) rfl λv f3 fm G3 lB=>?_
  have hV:=fm [(72,cb fN)] λD b0 e=>by
   have:(D,b0)∈[((72:ah),cb fN)]:=l4 e
   simp at this
   refine d8 this λg7 dC=>?_;clear this;subst g7;subst dC
   exact⟨by simp,by decide⟩
  have uR:∀r∈cV.map (·.2),e9 r:=λr aE=>by
   have:=(fU.map (·.2)).mem_iff.mp aE
   simp at this
   rcases this with rfl|rfl
   .exact abr
   .exact HF V
  refine q v f3 (cV.map (·.2)) hV.keep ⟨fN,(hV.objs 72 _ (by simp)).1,tm⟩ G3 (lB.mono (jZ λb ak=>jI _ ak)) e' (sK.mp aaz) uR ?_
  refine H (Xs (by simpa using fU.map (·.2)) e') ?_
  show b3 hd [b3 id bq,b3 id [V]]=b3 hd [b3 id [a,b],b3 id [V]]
  rw[AG id iv (by
   refine H (kC _) ?_
   exact iy.te (.head _))]
end
structure oy (W:bj) (I:br) (env:bB) (ae:bu) (body:List cT):Prop where
 on:∀X (av C:aq),(72:ah)∈X->(89:ah)∈X->(∃J,av.heap.get? 72=some (cb J)/\f' 29 49 J)->(∃J,av.heap.get? 89=some (cb J)/\f' 60 50 J)->c0 X av->eg W (a0 X av)->kb env av C->fQ W env ae (a0 X C)->∀(ai:fj->aq->Prop)(aj:an->aq->Prop),
  (∀s',cC [72,89] av s'->(∃J,s'.heap.get? 72=some (cb J))->(∃J,s'.heap.get? 89=some (cb J))->ai (.ret (.bool true)) s')->az W.M I (bY body env) ai aj C
section
variable{W:bj}{I:br}{env:bB}{ae:bu}{X:List ah}{C av s':aq}{Z:List ah}
theorem Ml{D:ay}{bK al:bp}{e:a'}{aJ:List cT}{V:ah}{cQ:ax}(bw:aY W I env ae e cQ)(aE:oy W I env ((D,cQ)::ae) aJ)(aO:env.cells.lookup D=some V)(aS:autoParam (env.kindOf D=some .cell) tR)(hd:autoParam ((D==("__debug__":ay))=false) tD)(a9:autoParam (iE e (some (.Name D bK)) al.line env=pure false) tR):oy W I env ae (.Assign [.Name D bK] e al::aJ):=⟨λX av C eZ ft gl gs aK bQ N G ai aj q=>by
 with_reducible refine eH (lN ((bw.on X C (aK.mono N.keeps) G).go _ _ λv aG k1 aT=>?_) a9)
 exact QJ aS aO aK bQ (N.step k1) (G.mono (cg k1)) aT hd λa5 gj md=>aE.on X av a5 eZ ft gl gs aK bQ gj md ai aj q⟩
theorem yD{D:ay}{bK al:bp}{e:a'}{aJ:List cT}{cQ:ax}(bw:li W I env ae e cQ)(aE:oy W I env ((D,cQ)::ae) aJ)(aS:autoParam (env.kindOf D=some .local) tR)(hd:autoParam ((D==("__debug__":ay))=false) tD)(a9:autoParam (iE e (some (.Name D bK)) al.line env=pure true) tR):oy W I env ae (.Assign [.Name D bK] e al::aJ):=⟨λX av C eZ ft gl gs aK bQ N G ai aj q=>by
 with_reducible refine eH ?_
 refine H (UG _ _ _ _ a9) ?_
 refine aM (tY (aM (bw.on X C (aK.mono N.keeps) G _ _ _ λv aG aX k1 aT gx a_=>?_)))
 with_reducible refine om ?_
 refine DI aS aK bQ (N.step k1) (G.mono (cg k1)) aT hd λa5 gj md m4=>?_
 refine jG m4 λaA eE di JK=>?_;clear m4;subst di
 refine bH a_ λp7 I6=>?_;clear a_
 refine bH N.ns λac0 Ad=>?_
 have ux:aX≠env.locals:=λau=>by
  subst au
  refine n' Ad λ_ _ _ e _=>?_;clear Ad
  rw[gx]at e
  cases e
 have p9:aA.Ns aX p7:=I6.sameBut JK ux
 refine⟨⟨p7,p9⟩,λbn k5=>?_⟩
 refine b6 ?_
 have G4:av.heap.get? aX=none:=by
  cases q:av.heap.get? aX with
  |none=>rfl
  |some qU=>have:=ed N.keeps _ _ q;rw[gx]at this;cases this
 have er:cS av {aG with heap:=bn,toks:=eE}:=Dg (C:={aG with heap:=aA,toks:=eE}) gj.keeps G4 k5
 refine aE.on X av _ eZ ft gl gs aK bQ ⟨er,gj.new,gj.jA,?_,λY V e=>?_,gj.apart⟩ ⟨bQ.mono (cg er),md.kind,md.globals,md.builtins,λam rF e=>?_⟩ ai aj q
 .refine bH gj.ns λkW dD=>?_
  exact⟨kW,dD.sameBut k5 (iB ux)⟩
 .refine bH (gj.cell Y V e) λw L=>?_
  exact⟨w,L.sameBut k5 (qC p9 L)⟩
 .refine jl (md.vars am rF e) λq1 sa r9 rz=>?_
  refine⟨q1,sa,vd r9 k5 (u_ p9),?_⟩
  cases rz with
  |loc a lz V=>exact .loc a (m' ((lz.keeps (h':=aA) cP).sameBut k5 (iB ux)) (je aK gj.new)) V
  |cell a V L=>
   have jW:=L.keeps (h':=aA) cP
   exact .cell a V (pO (jW.sameBut k5 (qC p9 jW)) (je aK (gj.jA _ _ (mem_of_lookup V))))
  |free a V L au=>
   have jW:=L.keeps (h':=aA) cP
   exact .free a V (pO (jW.sameBut k5 (qC p9 jW)) (je aK (gj.jA _ _ (mem_of_lookup V)))) au⟩
theorem V2{V:a'}{body aJ:List cT}{al:bp}{b:Bool}(aO:ej W I env ae V b)(h1:b=true->oy W I env ae body)(aA:b=false->oy W I env ae aJ):oy W I env ae (.If V body [] al::aJ):=⟨λX av C eZ ft gl gs aK bQ N G ai aj q=>by
 with_reducible refine eH (yf ((aO.on X C (aK.mono N.keeps) G).go _ _ λaG k1=>?_))
 cases ak:b
 .simp only[fi,if_false]
  with_reducible refine dq ?_
  exact(aA ak).on X av aG eZ ft gl gs aK bQ (N.step k1) (G.mono (cg k1)) ai aj q
 .simp only[if_true]
  exact(h1 ak).on X av aG eZ ft gl gs aK bQ (N.step k1) (G.mono (cg k1)) _ aj q⟩
theorem kb.aeO(N:kb env av C)(c2:cC Z C s')(oI:∀b∈Z,b∈X)(aK:c0 X av)(bQ:eg W (a0 X av))(lq:c0 X s'):∃aG,c0 X aG/\eg W (a0 X aG)/\kb env aG s'/\cC Z av aG/\∀b b0,b∈X->s'.heap.get? b=some b0->aG.heap.get? b=some b0:=by
 have wJ:∀b∈env.locals::env.cells.map (·.2),av.heap.get? b=none:=λb ak=>by
  refine d2 ak ?_ λak=>?_
  .exact N.new
  .refine dQ ak λJ aF=>?_
   exact N.jA J.1 J.2 aF
 have sT:∀b∈X,b∉env.locals::env.cells.map (·.2):=λb ak B=>by
  refine bH (aK b ak) λb0 e=>?_
  rw[wJ b B]at e
  cases e
 have OP:∀b∈env.locals::env.cells.map (·.2),b∉Z:=λb ak B=>sT b (oI b B) ak
 have uG:∀b b0,b∈X->s'.heap.get? b=some b0->(dJ s'.heap (env.locals::env.cells.map (·.2))).get? b=some b0:=λb b0 ak e=>ei _ e (sT b ak)
 refine⟨{s' with heap:=dJ s'.heap (env.locals::env.cells.map (·.2))},λb ak=>?_,bQ.mono λb b0 e=>?_,⟨⟨s'.heap,s'.toks,rfl,λb b0 e=>fc _ e⟩,fP _ (.head _),λY V B=>fP _ (.tail _ (eT (f:=λD:ay×ah=>D.2) B)),?_,λY V e=>?_,N.apart⟩,⟨?_,λb b0 ak e=>?_⟩,uG⟩
 .refine bH (lq b ak) λb0 e=>?_
  exact⟨b0,uG b b0 ak e⟩
 .have a8:=fc _ e
  have hY:b∉X:=λaI=>by rw[fP _ aI]at e;cases e
  refine ei _ (ei _ (c2.keep b b0 (λB=>hY (oI b B)) (ed N.keeps _ _ a8)) λB=>?_) hY
  rw[wJ b B]at a8
  cases a8
 .refine vu N.ns λm qU b9 f2 e B=>?_
  exact⟨m,qU,b9,f2,c2.keep _ _ (OP _ (.head _)) e,B⟩
 .refine bH (N.cell Y V e) λv L=>?_
  have aO:V∉Z:=OP V (.tail _ (eT (f:=λD:ay×ah=>D.2) (mem_of_lookup e)))
  refine⟨v,?_⟩
  refine cm L λqU bm B=>?_;clear L
  exact⟨qU,c2.keep _ _ aO bm,B⟩
 .refine jG N.keeps λh1 t1 di _=>?_;subst di
  obtain⟨⟨aA,eE,rfl⟩,_⟩:=c2
  exact⟨_,_,rfl⟩
 .refine ei _ (c2.keep b b0 ak (ed N.keeps _ _ e)) λB=>?_
  rw[wJ b B]at e
  cases e
end
section
variable{W:bj}{I:br}{env:bB}{ae:bu}{X:List ah}{C av s':aq}
theorem kb.acl(N:kb env av C)(aK:c0 X av){X':List ah}(gL:∀b∈X',b∈X\/b=env.locals):mf (a0 X C) (a0 X' C):=λb qU aR Y e hd=>by
 have a8:=fc _ e
 have hY:b∉X:=λaI=>by rw[fP _ aI]at e;cases e
 refine ei _ a8 λaI=>?_
 rcases gL b aI with B|B
 .exact hY B
 .subst B
  refine pj N.ns λm b0 b9 f2 aE=>?_;refine fb aE λdB b7 _=>?_;clear aE
  rw[a8]at dB
  cases dB
  rw[hd]at b7
  cases b7
theorem kb.bs(N:kb env av C)(bQ:eg W (a0 X av)){X':List ah}(gL:∀b∈X',b∈X\/b=env.locals):eg W (a0 X' C):=bQ.mono λb qU e=>by
 have a8:=fc _ e
 have hY:b∉X:=λaI=>by rw[fP _ aI]at e;cases e
 refine ei _ (ed N.keeps _ _ a8) λaI=>?_
 rcases gL b aI with B|B
 .exact hY B
 .subst B
  rw[N.new]at a8
  cases a8
theorem V3{ap:List (List aZ)}{hW:List (Nat×aZ)}{e:a'}{b9:List a'}{bK al J:bp}{aJ:List cT}(ms:nz W I env ae al (e::b9) [.str (g9 ap),.list ((canon ap).map dv),.list (hW.map rB)])(bd:I.handled=none)(bk:I.depth+10<d3)(be:I.units+70<c7)(de:I.frames=some [env])(b2:env.frame=some env.locals)(bt:cl (ap++(hW.map (·.2)).map λD=>[D]))(aF:e9 (ap.map hd))(cE:∀r∈ap,e9 r)(aI:∀J∈hW,J.2.length % 4≠1)(bW:hW.length<=60)(hk:autoParam (env.kindOf "_law_run"=some .globalImplicit) tR)(bV:autoParam ((e::b9).all (λe=> !eQ e)=true) tR):oy W I env ae (.Return (some (.Call (.Name "_law_run" bK) (e::b9) [] al)) J::aJ):=⟨λX av C eZ ft gl gs aK bQ N G ai aj q=>by
 obtain⟨d6,gl,lE⟩:=gl
 obtain⟨d7,gs,nd⟩:=gs
 refine eH (tV ?_)
 show az _ _ (b1 (.Name "_law_run" bK) env>>=λv=>fH al v [] (fk al (eV (e::b9) env)) (j_ al (j' [] env))) _ _ _
 refine aM (o2 G hk (YV _) ?_ (by decide))
 show az _ _ (fH al (.ref 219) [] (fk al (eV (e::b9) env)) []) _ _ _
 with_reducible refine vL (o:=hm W.w 219) (fd:=bP W.w 219) (sA (aK.mono N.keeps) G ms (vn bV) λaf aG k1 aT=>⟨⟨uY (G.base.mono ((cg k1).trans cP)).K (GA W).obj,(GA W).fn⟩,?_⟩)
 have jf:=N.step k1
 have oL:dx [env]=[env.locals]:=by
  show A2 _ [env]=_
  refine H sd ?_;refine H b2 ?_
  rfl
 have gL:∀b∈cG [env],b∈X\/b=env.locals:=λb ak=>by
  show b∈X\/b=env.locals
  have ak:b∈72::89::dx [env]:=ak
  rw[oL]at ak
  simp at ak
  rcases ak with rfl|rfl|rfl
  .exact .inl eZ
  .exact .inl ft
  .exact .inr rfl
 have u9:(72:ah)≠env.locals:=λau=>by rw[au,N.new]at gl;cases gl
 have s4:(89:ah)≠env.locals:=λau=>by rw[au,N.new]at gs;cases gs
 refine pj jf.ns λm p' Ni f2 aE=>?_;refine fb aE λgD zp ajr=>?_;clear aE
 have aV:=a3.g_ (jf.acl aK gL) aT
 obtain⟨l,nb⟩:∃l,a3 (a0 (cG [env]) aG) af [.str (g9 ap),.list ((canon ap).map dv),.cf l (hW.map rB)]:=by
  refine a3.eC aV λ_ _ q1 rs=>?_
  refine a3.eC rs λ_ _ fV rs=>?_
  refine a3.eC rs λ_ _ Ap gN=>?_
  refine aC.gD Ap λ_ _ bz aV=>?_
  exact⟨_,.cons q1 (.cons fV (.cons (.cf bz aV) gN))⟩
 refine Xe (d6:=d6) (d7:=d7) (dO:=[(env.locals,p')]) (l0:=[env]) bd bk be de (λb ak=>?_) (jf.bs bQ gL) (by refine H oL ?_;simpa using u9) (by refine H oL ?_;simpa using s4) (ed jf.keeps _ _ gl) (ed jf.keeps _ _ gs) (λa b0 dB=>?_) ⟨lE,nd,⟨λdB bw=>?_,λa b0 dB=>?_⟩,bt,aF,cE⟩ aI bW nb λs' c2 h1 aA=>q s' ⟨?_,λb qU ak e=>c2.keep b qU (λB=>?_) (ed jf.keeps _ _ e)⟩ h1 aA
 .rcases gL b ak with B|rfl
  .refine bH (aK b B) λb0 dB=>?_
   exact⟨b0,ed jf.keeps _ _ dB⟩
  .exact⟨p',gD⟩
 .have:(a,b0)∈[(env.locals,p')]:=l4 dB
  simp at this
  refine d8 this λg7 dC=>?_;clear this;subst g7;subst dC
  exact gD
 .simp at bw
  subst bw
  exact⟨by refine H G.kind ?_;decide,dB.locals,p',b2,by simp,λaf au=>by rw[zp]at au;cases au⟩
 .have:(a,b0)∈[(env.locals,p')]:=l4 dB
  simp at this
  refine d8 this λg7 dC=>?_;clear this;subst g7;subst dC
  exact⟨by refine H oL ?_;exact .head _,Ni,f2,zp⟩
 .refine jG jf.keeps λaD fB b9 _=>?_
  obtain⟨⟨aA,eE,Yj⟩,_⟩:=c2
  exact⟨aA,eE,by refine H Yj ?_;refine H b9 ?_;rfl⟩
 .have B:b∈72::89::dx [env]:=B
  rw[oL]at B
  simp at B
  rcases B with rfl|rfl|rfl
  .exact ak (.head _)
  .exact ak (.tail _ (.head _))
  .rw[N.new]at e;cases e⟩
theorem V1{a b V:aZ}{ek:List aZ}{D:ay}{bK cB cY al:bp}{e:a'}{aJ:List cT}(bw:aY W I env ae e (.list ((a::b::V::ek).map λD=>.str (bh (dX D)))))(bd:I.handled=none)(bk:I.depth+8<d3)(be:I.units+40<c7)(bt:cl [[a,b],[V]])(ha:a.length % 4≠1)(ak:b.length % 4≠1)(aO:V.length % 4≠1)(C5:ek.length<=50)(aE:∀ap,cl ap->e9 (ap.map hd)->(∀r∈ap,e9 r)->canon ap=canon [[a,b],[V]]->oy W I env ((D,.str (g9 ap))::ae) aJ)(hk:autoParam (env.kindOf "_law_begin"=some .globalImplicit) tR)(bV:autoParam (eQ e=false) tR)(aS:autoParam (env.kindOf D=some .local) tR)(hd:autoParam ((D==("__debug__":ay))=false) tD)(a9:autoParam (iE (.Call (.Name "_law_begin" cB) [e] [] cY) (some (.Name D bK)) al.line env=pure false) tR):oy W I env ae (.Assign [.Name D bK] (.Call (.Name "_law_begin" cB) [e] [] cY) al::aJ):=⟨λX av C eZ ft gl gs aK bQ N G ai aj q=>by
 obtain⟨d6,gl,lE⟩:=gl
 obtain⟨d7,gs,nd⟩:=gs
 refine eH (lN ?_ a9)
 show az _ _ (b1 (.Name "_law_begin" cB) env>>=λv=>fH cY v [] (fk cY (eV [e] env)) (j_ cY (j' [] env))) _ _ _
 refine aM (o2 G hk (YM _) ?_ (by decide))
 show az _ _ (fH cY (.ref 226) [] (fk cY (eV [e] env)) []) _ _ _
 with_reducible refine vL (o:=hm W.w 226) (fd:=bP W.w 226) (sA (aK.mono N.keeps) G (bI bw cF bV) bV λaf aG k1 aT=>⟨⟨uY (G.base.mono ((cg k1).trans cP)).K (Gs W).obj,(Gs W).fn⟩,?_⟩)
 have jf:=N.step k1
 refine W_ bd bk be (aK.mono jf.keeps) (bQ.mono (cg jf.keeps)) eZ ft (ed jf.keeps _ _ gl) lE (ed jf.keeps _ _ gs) nd bt ha ak aO aT C5 λv a5 ap c2 Cr qH ez e' aF cE Z5=>?_
 have oI:∀b∈[(72:ah),89],b∈X:=λb ak=>by
  simp at ak
  rcases ak with rfl|rfl
  .exact eZ
  .exact ft
 have nH:c0 X a5:=λb ak=>by
  by_cases h1:b∈[(72:ah),89]
  .simp at h1
   rcases h1 with rfl|rfl
   .refine cm Cr λJ dB _=>?_;clear Cr
    exact⟨_,dB⟩
   .refine cm qH λJ dB _=>?_;clear qH
    exact⟨_,dB⟩
  .refine bH (aK.mono jf.keeps b ak) λb0 dB=>?_
   exact⟨b0,c2.keep b b0 h1 dB⟩
 refine ahi (jf.aeO c2 oI aK bQ nH) λbv Cy NU adp w5 Oq=>?_
 refine DI aS Cy NU adp ((G.mono (cg k1)).mono (c2.view oI)) ez hd λc3 adq ym _=>?_
 refine cm Cr λaea X9 agl=>?_;clear Cr
 refine cm qH λaeb GK agm=>?_;clear qH
 exact(aE ap e' aF cE Z5).on X bv c3 eZ ft ⟨aea,Oq _ _ eZ X9,agl⟩ ⟨aeb,Oq _ _ ft GK,agm⟩ Cy NU adq ym ai aj λs' acf g1 g2=>q s' (w5.trans acf) g1 g2⟩
end
theorem tg{L:Nat}(B:L<64):h7 L=(hQ L:Int):=by
 have:(e7 64).all (λL=>decide (h7 L=(hQ L:Int)))=true:=by decide+kernel
 exact of_decide_eq_true (kA.mp this L (pl.mpr B))
theorem Cd(d5:Nat)(out:List Int):mm d5 8 out=(out++[h7 (d5 / 4 % 64)],2):=by
 refine H (y0 (by decide) (by decide)) ?_;refine H (Ce (by decide)) ?_;rfl
theorem GG(d5:Nat)(out:List Int):mm d5 10 out=(out++[h7 (d5 / 16 % 64)],4):=by
 refine H (y0 (by decide) (by decide)) ?_;refine H (Ce (by decide)) ?_;rfl
theorem M9(d5:Nat)(out:List Int):mm d5 12 out=(out++[h7 (d5 / 64 % 64)]++[h7 (d5 / 1 % 64)],0):=by
 refine H (y0 (by decide) (by decide)) ?_;refine H (y0 (by decide) (by decide)) ?_;refine H (Ce (by decide)) ?_;rfl
theorem Aa(Y:Nat):Y % 64<64:=hy _ (by decide)
theorem Dt(a:UInt8):a.toNat<65536:=dR a.toNat_lt (by decide)
theorem xv{D am:Nat}(aS:D<256)(bZ:am<256):D*256+am<65536:=g' (Nat.add_lt_add_left bZ _) (cu (j9 (TD D 256).symm) (ET 256 aS))
theorem qk{q J k:Nat}(aF:J<256):(q*256+J) / (256*k)=q / k:=by
 refine b' (Nat.div_div_eq_div_mul _ _ _) ?_;refine H ((tE q) _) ?_;refine H ((Ts (by decide)) _ _) ?_;refine H (Nat.div_eq_of_lt aF) ?_;refine H (xO _) ?_;rfl
theorem y1(q r m k:Nat)(hk:0<k):(q*(64*m*k)+r) / k % 64=r / k % 64:=by
 refine H (show q*(64*m*k)=k*(64*(m*q))from by rw[tE q,tE (64*m),ES,ES]) ?_;refine H ((Ts hk) _ _) ?_;refine H (ER _ _ _) ?_;rfl
theorem IZ(q r:Nat)(B:r<65536):(q*65536+r) % 65536=r:=by refine H (tE _ _) ?_;refine H (ER _ _ _) ?_;refine H (rf B) ?_;rfl
theorem pg(D am au:Nat):(D*256+am)*256+au=D*65536+(am*256+au):=by rw[EK,ES,Nat.add_assoc]
theorem qj(Y a b V:Nat)(ak:0<b):Y*b / (V*b) % a=Y / V % a:=by refine H (Nat.mul_div_mul_right _ _ ak) ?_;rfl
theorem P5(Y:Nat):Y*16 % 64=Y % 4*16:=by refine H (show(64:Nat)=4*16 from rfl) ?_;refine H (KO _ _ _) ?_;rfl
theorem acR(Y:Nat):Y*4 % 64=Y % 16*4:=by refine H (show(64:Nat)=16*4 from rfl) ?_;refine H (KO _ _ _) ?_;rfl
theorem P7(Y:Nat):Y % 4*16<64:=EU (k:=16) (hy Y (by decide)) (by decide)
theorem acS(Y:Nat):Y % 16*4<64:=EU (k:=4) (hy Y (by decide)) (by decide)
theorem WB(a:UInt8):iQ [a]=(dX (h5 [a.toNat])).map kz:=by
 refine H (w_ _) ?_
 simp only[iQ,tA,sw,ng,Cd,wk,EZ,if_true]
 refine H (rf (Dt a)) ?_;refine H (tg (Aa _)) ?_;refine H (tg (P7 _)) ?_
 refine H (show a.toNat*4^2 / 64^1 % 64=a.toNat / 4 % 64 from qj _ 64 16 4 (by decide)) ?_;refine H (show a.toNat*4^2 / 64^0 % 64=a.toNat % 4*16 from by rw[show a.toNat*4^2 / 64^0=a.toNat*16 from qp _,P5]) ?_
 rfl
theorem WC(a b:UInt8):iQ [a,b]=(dX (h5 [a.toNat,b.toNat])).map kz:=by
 refine H (Qh _ _) ?_
 simp only[iQ,tA,sw,ng,Cd,GG,wk,EZ,vH,if_true]
 refine H (rf (Dt a)) ?_;refine H (rf (xv a.toNat_lt b.toNat_lt)) ?_;refine H (tg (Aa _)) ?_;refine H (tg (Aa _)) ?_;refine H (tg (acS _)) ?_
 have ak:b.toNat<256:=b.toNat_lt
 generalize a.toNat=D
 generalize b.toNat=am at ak
 refine H (show(D*256+am)*4^1 / 64^2 % 64=D / 4 % 64 from(qj _ 64 4 1024 (by decide)).trans (congrArg (· % 64) (qk (k:=4) ak))) ?_;refine H (show(D*256+am)*4^1 / 64^1 % 64=(D*256+am) / 16 % 64 from qj _ 64 4 16 (by decide)) ?_;refine H (show(D*256+am)*4^1 / 64^0 % 64=(D*256+am) % 16*4 from by rw[show (D*256+am)*4^1 / 64^0=(D*256+am)*4 from qp _,acR]) ?_
 rfl
theorem WD(a b V:UInt8):iQ [a,b,V]=(dX (h5 [a.toNat,b.toNat,V.toNat])).map kz:=by
 refine H (Qi _ _ _) ?_
 simp only[iQ,tA,sw,ng,Cd,GG,M9,wk,EZ,vH]
 refine H (rf (Dt a)) ?_;refine H (rf (xv a.toNat_lt b.toNat_lt)) ?_
 simp only[tg (Aa _)]
 have ak:b.toNat<256:=b.toNat_lt
 have aO:V.toNat<256:=V.toNat_lt
 generalize a.toNat=D
 generalize b.toNat=am at ak
 generalize V.toNat=au at aO
 have e:((D*256+am)*256+au) % 65536=am*256+au:=by refine H (pg _ _ _) ?_;refine H (IZ _ _ (xv ak aO)) ?_;rfl
 refine H e ?_
 refine H (show((D*256+am)*256+au)*4^0 / 64^3 % 64=D / 4 % 64 from congrArg (· % 64) (show((D*256+am)*256+au)*1 / (256*(256*4))=D / 4 by rw[Be,qk aO,qk ak])) ?_;refine H (show((D*256+am)*256+au)*4^0 / 64^2 % 64=(D*256+am) / 16 % 64 from congrArg (· % 64) (show((D*256+am)*256+au)*1 / (256*16)=_ by rw[Be,qk aO])) ?_;refine H (show((D*256+am)*256+au)*4^0 / 64^1 % 64=(am*256+au) / 64 % 64 from by rw[show ((D*256+am)*256+au)*4^0=D*(64*16*64)+(am*256+au)from(Be _).trans (pg D am au)];exact y1 _ _ 16 64 (by decide)) ?_;refine H (show((D*256+am)*256+au)*4^0 / 64^0 % 64=(am*256+au) / 1 % 64 from by rw[show ((D*256+am)*256+au)*4^0=D*(64*1024*1)+(am*256+au)from(Be _).trans (pg D am au)];exact y1 _ _ 1024 1 (by decide)) ?_
 refine H (if_neg (by decide)) ?_;refine H (if_neg (by decide)) ?_
 simp[dX]
theorem WE(a b V d:UInt8):iQ [a,b,V,d]=(dX (h5 [a.toNat,b.toNat,V.toNat,d.toNat])).map kz:=by
 refine H (Qj _ _ _ _) ?_
 simp only[iQ,tA,sw,ng,Cd,GG,M9,wk,EZ,vH,if_true]
 refine H (rf (Dt a)) ?_;refine H (rf (xv a.toNat_lt b.toNat_lt)) ?_
 simp only[tg (Aa _)]
 have ak:b.toNat<256:=b.toNat_lt
 have aO:V.toNat<256:=V.toNat_lt
 have hd:d.toNat<256:=d.toNat_lt
 generalize a.toNat=D
 generalize b.toNat=am at ak
 generalize V.toNat=au at aO
 generalize d.toNat=w at hd
 refine H (tg (P7 _)) ?_
 have e:((D*256+am)*256+au) % 65536=am*256+au:=by refine H (pg _ _ _) ?_;refine H (IZ _ _ (xv ak aO)) ?_;rfl
 have bm:((am*256+au)*256+w) % 65536=au*256+w:=by refine H (pg _ _ _) ?_;refine H (IZ _ _ (xv aO hd)) ?_;rfl
 refine H e ?_;refine H bm ?_
 generalize wE:((D*256+am)*256+au)*256+w=bF
 have dL:bF / 67108864=D / 4:=by refine b' wE ?_;refine H (show 67108864=256*(256*(256*4))from rfl) ?_;refine H (qk hd) ?_;refine H (qk aO) ?_;refine H (qk ak) ?_;rfl
 have et:bF / 1048576=(D*256+am) / 16:=by refine b' wE ?_;refine H (show 1048576=256*(256*16)from rfl) ?_;refine H (qk hd) ?_;refine H (qk aO) ?_;rfl
 have dD:bF / 16384 % 64=(am*256+au) / 64 % 64:=by refine b' wE ?_;refine H (show 16384=256*64 from rfl) ?_;refine H (qk hd) ?_;refine H (pg _ _ _) ?_;exact y1 D (am*256+au) 16 64 (by decide)
 have fu:bF / 256 % 64=(am*256+au) / 1 % 64:=by refine b' wE ?_;refine H (show 256=256*1 from rfl) ?_;refine H (qk hd) ?_;refine H (pg _ _ _) ?_;exact y1 D (am*256+au) 1024 1 (by decide)
 have hM:bF / 4 % 64=(au*256+w) / 4 % 64:=by refine b' wE ?_;refine H (pg _ _ _) ?_;exact y1 (D*256+am) (au*256+w) 256 4 (by decide)
 have iu:bF % 4=(au*256+w) % 4:=by refine b' wE ?_;refine H (pg _ _ _) ?_;refine H (show(D*256+am)*65536=4*((D*256+am)*16384)from by rw[Nat.mul_left_comm]) ?_;refine H (ER _ _ _) ?_;rfl
 refine H (show bF*4^2 / 64^5 % 64=D / 4 % 64 from(qj bF 64 16 67108864 (by decide)).trans (congrArg (· % 64) dL)) ?_;refine H (show bF*4^2 / 64^4 % 64=(D*256+am) / 16 % 64 from(qj bF 64 16 1048576 (by decide)).trans (congrArg (· % 64) et)) ?_;refine H (show bF*4^2 / 64^3 % 64=(am*256+au) / 64 % 64 from(qj bF 64 16 16384 (by decide)).trans dD) ?_;refine H (show bF*4^2 / 64^2 % 64=(am*256+au) / 1 % 64 from(qj bF 64 16 256 (by decide)).trans fu) ?_;refine H (show bF*4^2 / 64^1 % 64=(au*256+w) / 4 % 64 from(qj bF 64 16 4 (by decide)).trans hM) ?_;refine H (show bF*4^2 / 64^0 % 64=(au*256+w) % 4*16 from by rw[show bF*4^2 / 64^0=bF*16 from qp _,P5,iu]) ?_
 simp[dX,vA]
theorem Gd(bs:List UInt8)(aQ:bs≠[])(cK:bs.length<=4):iQ bs=(dX (h5 (bs.map (·.toNat)))).map kz:=by
 rcases bs with _|⟨a,_|⟨b,_|⟨V,_|⟨d,_|⟨e,r⟩⟩⟩⟩⟩
 .exact absurd rfl aQ
 .exact WB a
 .exact WC a b
 .exact WD a b V
 .exact WE a b V d
 .exact absurd cK (tF.mpr (vE 5 r.length))
theorem Qn{os:List Nat}(aQ:os≠[])(cK:os.length<=4):(h5 os).length % 4≠1:=by
 refine H (xa _) ?_
 unfold j2
 exact(show∀Y,Y<5->(8*Y+5) / 6 % 4≠1 by decide) _ (tB cK)
theorem Vi{os:List Nat}(aQ:os≠[])(cK:os.length<=4):e8 (h5 os):=by
 refine⟨adc os,λe=>?_,?_⟩
 .have:=Qn aQ cK
  have aA:=xa os
  rw[e]at aA
  have:1<=os.length:=List.length_pos_iff.mpr aQ
  simp[j2]at aA
  exact lL 0 (j1 [_,_] 797991483460348689381832265004644829237265 rfl this aA (X1 _ 6 (by decide)))
 .refine H (xa _) ?_
  unfold j2
  exact(show∀Y,Y<5->(8*Y+5) / 6<=100 by decide) _ (tB cK)
noncomputable abbrev le(W:bj)(ar eX:ah)(co:an):bB:=newEnv (bP W.w 231).scope ar (bP W.w 231).globals (rk (ar+1) (bP W.w 231).scope.names []) ((bP W.w 231).qualname++".<locals>.") (some eX) co none (bP W.w 231).builtins
noncomputable def DO(l:List Int)(lo aU st:Option Int):List Int:=
 (UQ (vX lo aU st l.length).1 (vX lo aU st l.length).2.1 (vX lo aU st l.length).2.2).filterMap λL=>l[L]?
theorem adQ(l:List Int)(lo aU st:Option Int):o8 (l.map .int) lo aU st=(DO l lo aU st).map .int:=by
 unfold o8 DO
 refine H (gz _) ?_;refine H List.map_filterMap ?_
 congr 1
 funext L
 refine H (lI) ?_;rfl
noncomputable def yO:List Int:=[6030,2526,0,399760,401085426,3,1,6032]
noncomputable def j3(l:List Int)(k:Nat):Nat:=(((DO l (some (k:Int)) (some 60) (some 8)).sum+yO.getD k 0).fmod 402653184).toNat
noncomputable def wg(l:List cT):List a':=Ji 5 l
section
variable{W:bj}{I:br}{ar eX:ah}{co:an}
theorem acA(bd:I.handled=none)(l:List Int)(qG:l.length<=63):aY W I (le W ar eX co) [("base",.tuple (yO.map .int)),("script",.raw (l.map .int))] ((wg (dT W.w 231)).getD 1 (.Name "" ⟨0,0,0,0⟩)) (.list ((e7 8).map λk=>.int (j3 l k:Int))):=by
 refine(kL (e7 8) (λL=>.int (0+(L:Nat))) xw (λk=>.int (j3 l k:Int)) [("script",ar+1),("base",ar+2)] [("base",.tuple (yO.map .int)),("script",.raw (l.map .int))] (BN bd (i7 (L:=8)) (by decide)) (Eg _) (ff.cons (ff.cons ff.nil rfl rfl rfl rfl) rfl rfl rfl rfl) ?_ (by simp[bc])).1
 intro k hk aX
 have CK:k<8:=pl.mp hk
 have e:((j3 l k:Nat):Int)=((DO l (some (k:Int)) (some 60) (some 8)).sum+yO.getD k 0).fmod 402653184:=Int.toNat_of_nonneg (Int.fmod_nonneg_of_pos _ (by decide))
 refine H e ?_
 refine yw (v7 (L' bd ?_) ?_) c_ (by decide)
 .refine b' (adQ _ _ _ _) ?_
  exact VE (aW rfl) (ny (lh (aW rfl) (tx _))) (ny c_) (ny c_) (by decide) (by simp[bc];exact aL [_] 42869230051583512834368 rfl qG)
 .refine FV (L:=0+(k:Int)) (aW rfl) (aW rfl) (by lia) (by lia) ?_
  clear e hk
  rcases k with _|_|_|_|_|_|_|_|k
  all_goals first |rfl|exact absurd CK (fv.mpr (vE 8 k))
end
noncomputable abbrev Qu(l:List Int)(k:Nat):Array UInt8:=mN ((qT (j3 l k) k).map kz)
section
variable{W:bj}{I:br}{ar eX:ah}{co:an}{ae:bu}
theorem acB(bd:I.handled=none)(bk:I.depth+2<d3)(l:List Int)(a_:ae.lookup ("numbers":ay)=some (.list ((e7 8).map λk=>.int (j3 l k:Int)))):li W I (le W ar eX co) ae ((wg (dT W.w 231)).getD 2 (.Name "" ⟨0,0,0,0⟩)) (.list ((e7 8).map λk=>.bytes (Qu l k))):=by
 refine(kL (e7 8) (λL=>.int (0+(L:Nat))) xw (λk=>.bytes (Qu l k)) [("numbers",ar+3)] [("numbers",.list ((e7 8).map λk=>.int (j3 l k:Int)))] (BN bd (i7 (L:=8)) (by decide)) (Eg _) (ff.cons ff.nil a_ rfl rfl rfl) ?_ (by simp[bc])).2
 intro k hk aX
 have CK:k<8:=pl.mp hk
 refine qy rfl (YU _) (Gy W).obj (Gy W).fn (bI ?_ (bI (lh (aW rfl) (tx (k:Int))) cF)) (ad8 bd (by exact aL [_,_] 159781662758209 rfl bk) (j3 l k) k (by exact aL [_] 40955794807599425 rfl CK))
 refine ox (L:=0+(k:Int)) (aW rfl) (aW rfl) (by lia) (by lia) ?_
 refine H (congrArg xI (tx (k:Int))) ?_;refine H (lI) ?_;refine H (List.getElem?_range CK) ?_
 rfl
end
noncomputable def mC(l:List Int)(k:Nat):List UInt8:=((qT (j3 l k) k).map kz).map λY=>Y.toNat.toUInt8
theorem s6(l:List Int)(k:Nat):1<=(mC l k).length/\(mC l k).length<=4:=by
 have:j3 l k / 6 % 4<4:=hy _ (by decide)
 unfold mC qT
 simp
 exact aL [_] 159708695695680 rfl this
theorem xe(l:List Int)(k:Nat):mC l k≠[]:=λe=>by
 have:=(s6 l k).1
 rw[e]at this
 simp at this
noncomputable def du(l:List Int)(k:Nat):aZ:=h5 ((mC l k).map (·.toNat))
theorem Ql(l:List Int)(k:Nat):e8 (du l k):=Vi (by simpa using xe l k) (by simpa using(s6 l k).2)
theorem Ae(l:List Int)(k:Nat):(du l k).length % 4≠1:=Qn (by simpa using xe l k) (by simpa using(s6 l k).2)
theorem Qm(l:List Int)(k:Nat)(hk:k<256):∃os:List Nat,os.length<=3/\du l k=h5 (os++[k]):=by
 refine⟨((e7 (j3 l k / 6 % 4)).map λst=>j3 l k / 24 / 256^st % 256).map λY=>((kz Y).toNat.toUInt8).toNat,?_,?_⟩
 .have:j3 l k / 6 % 4<4:=hy _ (by decide)
  simp
  exact od this
 .unfold du mC qT
  congr 1
  refine H gA ?_;refine H gA ?_;refine H gA ?_;refine H dY ?_;refine H dY ?_
  congr 1
  .show [((kz k).toNat.toUInt8).toNat]=[k]
   congr 1
   show(Bz k).toNat=k
   refine H UInt8.toNat_ofNat' ?_
   exact rf hk
theorem ada(l:List Int){L aB:Nat}(aU:L<256)(bL:aB<256)(e:du l L=du l aB):L=aB:=by
 refine cm (Qm l L aU) λos h1 a8=>?_
 refine cm (Qm l aB bL) λl5 aA bm=>?_
 rw[a8,bm]at e
 exact adb h1 aA aU bL e
section
variable{W:bj}{I:br}{ar eX:ah}{co:an}{ae:bu}
noncomputable def J7:ax->List UInt8
 | .bytes b=>b.toList
 |_=>[]
noncomputable def Qk(bs:List UInt8):ax:=en (h5 (bs.map (·.toNat)))
theorem acz(bd:I.handled=none)(bk:I.depth+2<d3)(os:List (List UInt8))(hos:∀bs∈os,bs≠[]/\bs.length<=4)(bW:os.length<=8)(a_:ae.lookup ("octets":ay)=some (.list (os.map λbs=>.bytes bs.toArray))):li W I (le W ar eX co) ae ((wg (dT W.w 231)).getD 3 (.Name "" ⟨0,0,0,0⟩)) (.list (os.map Qk)):=by
 refine Er (kL os (λbs=>.bytes bs.toArray) J7 Qk [] [] (kK bd (aW a_)) (λa _=>rfl) ff.nil ?_ (by simp[bc];exact aL [_] 2684078950917823557952 rfl bW))
 intro bs ak aX
 show aY _ _ _ _ _ (.str (bh (h5 (bs.map (·.toNat)))))
 exact qy rfl (YT _) (Gx W).obj (Gx W).fn (bI (aW rfl) cF) (ad7 bd (by exact aL [_,_] 159781662758209 rfl bk) bs (hos bs ak).2)
theorem acD(bd:I.handled=none)(bk:I.depth+5<d3)(os:List (List UInt8))(hos:∀bs∈os,bs≠[]/\bs.length<=4)(bW:os.length<=8)(a_:ae.lookup ("octets":ay)=some (.list (os.map λbs=>.bytes bs.toArray))):li W I (le W ar eX co) ae ((wg (dT W.w 231)).getD 4 (.Name "" ⟨0,0,0,0⟩)) (.list (os.map λbs=>.bytes (mN (iQ bs)))):=by
 refine Er (kL os (λbs=>.bytes bs.toArray) J7 (λbs=>.bytes (mN (iQ bs))) [] [] (kK bd (aW a_)) (λa _=>rfl) ff.nil ?_ (by simp[bc];exact aL [_] 2684078950917823557952 rfl bW))
 intro bs ak aX
 exact qy rfl (YK _) (Gr W).obj (Gr W).fn (bI (aW rfl) cF) (ad4 (bs:=bs.toArray) bd (by exact aL [_,_] 10472295475451073537 rfl bk) (by have:=(hos bs ak).2;simp;exact aL [_] 40885425843745088 rfl this))
end
section
variable{W:bj}{I:br}{env:bB}{ae:bu}
theorem VC{e:a'}{cB al:bp}{V:Nat}(B:aY W I env ae e (.str ⟨#[V]⟩))(hk:autoParam (env.kindOf "ord"=some .globalImplicit) tR)(bV:autoParam (eQ e=false) tR):aY W I env ae (.Call (.Name "ord" cB) [e] [] al) (.int (V:Int)):=
 ow hk (WJ _) WT (bI B cF bV) (λX C af aK G aV=>by
  refine a3.eC aV λ_ _ r rs=>?_
  refine a3.eN rs ?_
  refine aC.eS r λ_=>?_
  exact⟨λai aj q=>aiZ (q _ _ ⟨C.heap,C.toks+1,rfl,λ_ _ e=>e⟩ (.int _ _))⟩) (bV:=by simp[bV])
theorem Vq{e:a'}{cB al:bp}{V:Nat}(B:aY W I env ae e (.int (V:Int)))(aO:V<256)(hk:autoParam (env.kindOf "chr"=some .globalImplicit) tR)(bV:autoParam (eQ e=false) tR):aY W I env ae (.Call (.Name "chr" cB) [e] [] al) (.str ⟨#[V]⟩):=
 ow hk (WG _) WQ (bI B cF bV) (λX C af aK G aV=>by
  refine a3.eC aV λ_ _ r rs=>?_
  refine a3.eN rs ?_
  refine aC.eI r λ_=>?_
  exact⟨λai aj q=>chr_of_range (by exact fG _) (by lia) (q _ _ ⟨C.heap,C.toks+1,rfl,λ_ _ e=>e⟩ (.str _ _))⟩) (bV:=by simp[bV])
end
section
variable{W:bj}{I:br}{ar eX:ah}{co:an}{ae:bu}
noncomputable def Ed(bs:List UInt8):ax:=.str (mL ⟨#[]⟩ (bs.map λV=>⟨#[V.toNat]⟩))
noncomputable def ag0:ax->UInt8
 | .int L=>Bz L.toNat
 |_=>0
theorem acG(bd:I.handled=none)(ek:List (List UInt8))(C5:∀bs∈ek,bs.length<=100)(bW:ek.length<=8)(a_:ae.lookup ("sent":ay)=some (.list (ek.map λbs=>.bytes bs.toArray))):li W I (le W ar eX co) ae ((wg (dT W.w 231)).getD 6 (.Name "" ⟨0,0,0,0⟩)) (.list (ek.map Ed)):=by
 refine Er (kL ek (λbs=>.bytes bs.toArray) J7 Ed [] [] (kK bd (aW a_)) (λa _=>rfl) ff.nil ?_ (by simp[bc];exact aL [_] 2684078950917823557952 rfl bW))
 intro bs ak aX
 have Oo:=C5 bs ak
 show aY _ _ _ _ _ (.str (mL ⟨#[]⟩ (bs.map λV=>⟨#[V.toNat]⟩)))
 refine v_ ?_ ?_ ?_
 .exact iH (D:=⟨#[]⟩)
 .refine H dY ?_
  refine Kb (kL bs (λV=>.int V.toNat) ag0 _ [] [] (VM bd (bs:=bs.toArray) (aW rfl)) (λa _=>?_) ff.nil ?_ (by simp[bc];exact aL [_] 42911888147253966172480 rfl Oo))
  .show Bz ((a.toNat:Int)).toNat=a
   simp
  .intro V aO Vf
   have:=V.toNat_lt
   exact Vq (aW rfl) (by exact aL [_] 10452858119846375745 rfl this)
 .have h1:((bs.map λV=>(⟨#[V.toNat]⟩:ay)).map (·.length)).sum=bs.length:=by
   have:=QF (bs.map (·.toNat))
   rw[dY,dY,gz]at this
   refine H dY ?_
   exact this
  refine H h1 ?_
  show bs.length+_*0<=_
  exact aL [_,_] 2812273501618435927080711168 rfl Oo
theorem agL(bs:List UInt8):Ed bs= .str (bh (bs.map (·.toNat))):=by
 have:=RZ (bs.map (·.toNat))
 rw[dY]at this
 exact congrArg ax.str this
end
section
variable{W:bj}{I:br}{env:bB}{ae:bu}
theorem VP{e:a'}{D:ay}(aS:D.cps.all (· <128)=true)(bd:I.handled=none)(B:aY W I env ae e (.str D)):lQ W I env ae false e (D.cps.toList.map λV=>.str ⟨#[V]⟩):=⟨λX C aK G ai aj q=>by
 with_reducible refine(B.on X C aK G).go _ _ λv aG k1 aT=>?_
 cases aT with
 |str _ t=>
  refine wpAny_pyIter_ascii aS ?_
  have ev:aG.heap.get? aG.heap.objs.size=none:=iC (eF _)
  have bW:(D.cps.toList.map λV=>(ax.str ⟨#[V]⟩)).length=D.cps.size:=by simp
  refine q _ _ (lP.before k1 ⟨⟨aG.heap.objs.size,[aG.heap.objs.size],[aG.heap.objs.size],λL B=>B.IsStrIter aG.heap.objs.size "str_ascii_iterator" D t L,rfl,ID (T:="str_ascii_iterator") (by refine H bW ?_;exact Walks.strAscii bd _ D t) (λL B st a ha=>?_) (λL B st=>?_) (by decide) (λL v d aF hd=>?_),⟨_,f_ _ rfl,rfl,rfl⟩,?_,?_,?_⟩,ip aG _⟩)
  .simp at ha;subst ha;refine cm st λN a6 _=>?_;clear st;exact⟨N,a6⟩
  .refine iA st λN a6 aO _=>?_;clear st;exact⟨N,a6,aO⟩
  .refine jG aF λV bq aO mx=>?_;clear aF;subst mx
   rw[lI]at hd
   have:D.cps.toList[L]? =some V:=by simpa using aO
   rw[this]at hd
   cases hd
   exact .str _ _
  .intro a ha;simp at ha;subst ha;exact ev
  .intro a ha;simp at ha;subst ha;exact⟨_,f_ _ rfl,λ_ _ q=>by cases q⟩
  .intro a ha;exact .inl ha⟩
end
section
variable{W:bj}{I:br}{env:bB}{ae:bu}{X:List ah}{C:aq}
theorem ahF{Y:Nat}{t bq:dN}(a_:Y<=2):dZ W X I (l9 .Mult (.str ⟨#[61]⟩ t) (.int (Y:Int) bq)) (.str (bh (vA Y 61))) C:=⟨λai aj q=>by
 match Y,a_ with
 |0,_=>exact Lg (by decide) (λB=>absurd (by decide) B) (λB=>absurd (by decide) B) (by refine H (if_pos (by decide)) ?_;exact⟨eL _,q (.str Fi C.toks) {C with toks:=C.toks+1} (ey C _) (.str Fi _)⟩)
 |1,_=>exact Lg (by decide) (λ_ B=>by cases B) (λ_ B=>by cases B) (q _ _ (gb C) (.str _ _))
 |2,_=>exact Lg (by decide) (λ_ _=>by decide) (λ_ _=>by decide) (by refine H (if_neg (by decide)) ?_;refine H (if_neg (by decide)) ?_;exact⟨by decide,q (.str ⟨#[61,61]⟩ C.toks) {C with toks:=C.toks+1} (ey C _) (.str ⟨#[61,61]⟩ _)⟩)⟩
theorem VA{l r:a'}{al:bp}{Y:Nat}(aN:aY W I env ae l (.str ⟨#[61]⟩))(aE:aY W I env ae r (.int (Y:Int)))(a_:Y<=2):aY W I env ae (.BinOp l .Mult r al) (.str (bh (vA Y 61))):=
 mQ aN aE λX C bx bE aK _ aT bb=>by refine aC.eS aT λ_=>?_;refine aC.eI bb λ_=>?_;exact ahF a_
end
section
variable{W:bj}{I:br}{ar eX:ah}{co:an}{ae:bu}
noncomputable def agZ:ax->Nat
 | .str D=>D.cps.getD 0 0
 |_=>0
noncomputable def GJ(Y:aZ):ax:=.bytes (mN ((dX Y).map kz))
theorem acv(bd:I.handled=none)(ns:List aZ)(nM:∀Y∈ns,Y.length<=100/\Y.length % 4≠1/\∀V∈Y,V<128)(bW:ns.length<=8)(a_:ae.lookup ("names":ay)=some (.list (ns.map en))):li W I (le W ar eX co) ae ((wg (dT W.w 231)).getD 5 (.Name "" ⟨0,0,0,0⟩)) (.list (ns.map GJ)):=by
 refine Er (kL ns en tr GJ [] [] (kK bd (aW a_)) (λa _=>rfl) ff.nil ?_ (by simp[bc];exact aL [_] 2684078950917823557952 rfl bW))
 intro Y aI aX
 refine fb (nM Y aI) λh1 aA bn=>?_
 show aY _ _ _ _ _ (.bytes (mN ((dX Y).map kz)))
 have e5:∀V∈dX Y,V<128:=λV aO=>by
  rcases fC.mp aO with B|B
  .exact bn V B
  .refine H (List.eq_of_mem_replicate B) ?_;decide
 have aN:(dX Y).length<=103:=by
  simp[dX]
  exact bX [_,_] 185060417190194084931785728 rfl h1 (rX _ 4 (by decide))
 refine FS ?_ ?_ ?_ bd
 .refine H dY ?_
  refine Kb (kL (dX Y) (λV=>.str ⟨#[V]⟩) agZ _ [] [] ?_ (λa _=>rfl) ff.nil ?_ (by simp[bc];exact aL [_] 42915346911767786713408 rfl aN))
  .have e:(dX Y).map (λV=>ax.str ⟨#[V]⟩)=(bh (dX Y)).cps.toList.map λV=>ax.str ⟨#[V]⟩:=rfl
   refine H e ?_
   refine VP ?_ bd ?_
   .show(dX Y).toArray.all (· <128)=true
    refine H Kt ?_
    exact kA.mpr λV aO=>decide_eq_true (e5 V aO)
   .have bm:bh (dX Y)=bh Y++bh (vA ((4 - Y.length % 4) % 4) 61):=by refine H (tp _ _) ?_;rfl
    refine H bm ?_
    refine v8 (aW rfl) (VA (iH (D:=⟨#[61]⟩)) (lh (yw (wa (L5 (aW rfl) ?_)) (i7 (L:=4)) (by decide)) ?_) (adI aA)) ?_
    .refine H (pf _) ?_;simp[bc];exact aL [_] 42911888147253966172480 rfl h1
    .refine H (pf _) ?_
     have:(-(Y.length:Int)).fmod ((4:Nat):Int)=(-(Y.length:Int)) % 4:=xH _ (by decide)
     refine H this ?_
     exact Qe _ 4 (by decide)
    .refine H (pf _) ?_;refine H (pf _) ?_;simp[bc];exact bX [_,_] 194049912015624951268621681775616 rfl h1 (rX _ 4 (by decide))
  .intro V aO Vf
   exact VC (aW rfl)
 .intro m aI
  refine dQ aI λV aO=>?_
  have:=e5 V aO
  constructor
  .exact fG V
  .show((V:Nat):Int)<256
   exact i1.mpr (dR this (by decide))
 .simp[bc];exact aL [_] 42915346911767786713408 rfl aN
end
section
variable{W:bj}{I:br}{env:bB}{ae:bu}{X:List ah}{C:aq}
set_option tactic.hygienic true in
theorem ahG{bx bE:an}{bs:List (Array UInt8)}(aT:aC (a0 X C) bx (.list (bs.map .bytes)))(bb:aC (a0 X C) bE (.list (bs.map .bytes)))(be:I.units+2<c7):dZ W X I (pA .NotEq bx bE) (.bool false) C:=⟨λai aj q=>by
 refine aC.gD aT λ_ _ cB a1=>?_
 refine aC.gD bb λ_ _ cY a2=>?_
 rename_i b_ Sb b4 ag6
 have h1:=(cP.plain cB).isList
 have aA:=(cP.plain cY).isList
 have et:=a1.length
 have dD:=a2.length
 simp at et dD
 have dP:=ai1 (A:=I) (e:=λ_=>true) h1 aA (by exact bX [_,_,_] 42635858261845314 rfl et dD) (by exact aL [_,_] 159781662758209 rfl be) (λaB OK aaB=>?_) W.prog W.w aj ai
 .rw[show (!(e7 Sb.size).all λ_=>true)=false by simp]at dP
  exact dP (q _ _ (gb C) (.bool _))
 .have bL:aB<bs.length:=by exact bX [_,_,_] 168317124089153 rfl OK et
  refine cm (a1.get (L:=aB) (d:=.bytes bs[aB]) (by simp[bL])) λcW a8 q1=>?_
  refine cm (a2.get (L:=aB) (d:=.bytes bs[aB]) (by simp[bL])) λf9 bm fV=>?_
  have fE:Sb[aB]=cW:=by simpa[OK]using a8
  have gT:ag6[aB]=f9:=by simpa[aaB]using bm
  refine H fE ?_;refine H gT ?_
  refine aC.eB q1 λ_=>?_
  refine aC.eB fV λ_=>?_
  exact λprog w aj ai B=>eqBool_bytes (by simpa using B)⟩
theorem VX{l r:a'}{al:bp}{bs:List (Array UInt8)}(aN:aY W I env ae l (.list (bs.map .bytes)))(aE:aY W I env ae r (.list (bs.map .bytes)))(be:I.units+2<c7)(aI:autoParam (kH .NotEq r=false) tW):ej W I env ae (.Compare l [.NotEq] [r] al) false:=
 mS aN aE (λX C bx bE aK _ aT bb=>ahG aT bb be) aI
end
noncomputable def abM(l:List cT):a':=(Ji 12 l).headD (.Name "" ⟨0,0,0,0⟩)
theorem agM:np (.type "bytes")=pure (.type "type"):=by rfl
theorem afW:tP (.type "bytes") (.type "bytes")=pure true:=vJ (by decide+kernel)
section
variable{W:bj}{I:br}{ar eX:ah}{co:an}{ae:bu}
theorem acF(bd:I.handled=none)(be:I.units+10<c7)(bs:List (Array UInt8))(bW:bs.length<=8)(h1:ae.lookup ("sent":ay)=some (.list (bs.map .bytes)))(aA:ae.lookup ("due":ay)=some (.list (bs.map .bytes))):ej W I (le W ar eX co) ae (abM (dT W.w 231)) false:=by
 refine BP (a:=false) (b:=false) (VX (aW h1) (aW aA) (by exact aL [_,_] 10473702850333578241 rfl be)) λ_=>?_
 have e:(.list []:ax)= .list ((bs.filter λ_=>false).map .bytes):=by simp
 refine BO (ab:=[]) (Y:=1) ?_ (hi cF) (.list .nil) (by exact aL [_,_] 10473702850332529665 rfl be)
 refine H e ?_
 refine Kb (MZ bs .bytes (λd=>match d with | .bytes b=>b|_=>#[]) (λ_=>false) .bytes [] [] (kK bd (aW h1)) (λa _=>rfl) ff.nil ?_ ?_ (by simp[bc];exact aL [_] 2684078950917823557952 rfl bW))
 .intro b ak aX
  refine we (b:=true) (Mh (d:=.bytes b) (aW rfl) (λC B v r=>?_) (Ge _) Gh agM afW)
  refine aC.eB r λ_=>?_
  rfl
 .intro b ak aX b2
  cases b2
end
noncomputable abbrev lO(B:bo)(au cj cz:ah)(js fE:an):Prop:=B.get? au=some {cls:=.type "zip",dict:=none,data:=.fields #[js,fE,.bool false,.ref cj,.ref cz],slots:=#[]}
noncomputable abbrev kI(B:bo)(T:ah)(a b V:an):Prop:=B.get? T=some {cls:=.type "tuple",data:=.seq #[a,b,V]}
structure gK (au cj cz ch cN cR b_ b4 cH:ah):Prop where
 a1:@gm Nat _ b_ ch
 a2:@gm Nat _ b4 ch
 fJ:@gm Nat _ cH ch
 lT:@gm Nat _ ch cN
 qB:@gm Nat _ cN cR
 fK:@gm Nat _ cR cj
 hH:@gm Nat _ cj cz
 ll:@gm Nat _ cz au
section
variable{au cj cz ch cN cR b_ b4 cH:ah}
theorem fA{a b:ah}(B:@gm Nat _ a b):a≠b:=hA B
theorem gE{a b:ah}(B:@gm Nat _ a b):b≠a:=gR B
theorem gK.z2(aa:gK au cj cz ch cN cR b_ b4 cH):@gm Nat _ ch cR:=dR aa.lT aa.qB
theorem gK.PP(aa:gK au cj cz ch cN cR b_ b4 cH):@gm Nat _ ch cj:=dR aa.z2 aa.fK
theorem gK.u2(aa:gK au cj cz ch cN cR b_ b4 cH):@gm Nat _ ch cz:=dR aa.PP aa.hH
theorem gK.jY(aa:gK au cj cz ch cN cR b_ b4 cH):@gm Nat _ ch au:=dR aa.u2 aa.ll
theorem gK.PQ(aa:gK au cj cz ch cN cR b_ b4 cH):@gm Nat _ cN cj:=dR aa.qB aa.fK
theorem gK.IF(aa:gK au cj cz ch cN cR b_ b4 cH):@gm Nat _ cN cz:=dR aa.PQ aa.hH
theorem gK.z3(aa:gK au cj cz ch cN cR b_ b4 cH):@gm Nat _ cN au:=dR aa.IF aa.ll
theorem gK.IG(aa:gK au cj cz ch cN cR b_ b4 cH):@gm Nat _ cR cz:=dR aa.fK aa.hH
theorem gK.z4(aa:gK au cj cz ch cN cR b_ b4 cH):@gm Nat _ cR au:=dR aa.IG aa.ll
theorem gK.PI(aa:gK au cj cz ch cN cR b_ b4 cH):@gm Nat _ cj au:=dR aa.hH aa.ll
end
section
variable{prog:kG}{w:c4}{I:br}{aj:an->aq->Prop}{C:aq}
theorem ah7{au cj cz ch cN cR b_ b4 cH T:ah}{ao:Bool}{k:Nat}{aR bT cG:Array an}{D am v:an}{qa:bJ}{ai:an->aq->Prop}(aa:gK au cj cz ch cN cR b_ b4 cH)(ajl:T≠au)(aH:lO C.heap au cj cz (dG T) (.bool ao))(dI:C.heap.get? T=some qa)(oG:kI C.heap cj (.ref ch) (.ref cN) (.ref cR))(h1:C.heap.IsListIter ch b_ k)(aA:C.heap.IsListIter cN b4 k)(bn:C.heap.IsListIter cR cH k)(iV:C.heap.IsList b_ aR)(hZ:C.heap.IsList b4 bT)(jw:C.heap.IsList cH cG)(aS:aR[k]? =some D)(bZ:bT[k]? =some am)(bA:cG[k]? =some v)(f8:∀aD,lO aD au cj cz (dG T) (.bool true)->aD.IsListIter ch b_ (k+1)->aD.IsListIter cN b4 (k+1)->aD.IsListIter cR cH (k+1)->kI aD C.heap.objs.size D am v->aD.objs.size=C.heap.objs.size+1->(∀V N,V≠au->V≠ch->V≠cN->V≠cR->C.heap.get? V=some N->aD.get? V=some N)->ai (.ref C.heap.objs.size) {C with heap:=aD}):az (gn prog w) I (fX.«zip.__next__» ⟨[.ref au],[]⟩) (λck s'=>∃v,ck= .done (.ret v)/\ai v s') aj C:=by
 show az _ _ (qu (.ref au) 2>>=_) _ _ _
 refine aM (iF aH rfl (x:=.bool false) rfl ?_)
 show az _ _ (qu (.ref au) 3>>=_) _ _ _
 refine aM (iF aH rfl (x:=.ref cj) rfl ?_)
 refine aM (pD oG rfl ?_)
 show az _ _ (xW (.ref au)>>=_) _ _ _
 refine aM ?_
 unfold xW
 refine aM (iF aH rfl (x:=dG T) rfl ?_)
 show az _ _ (UL ((T:Int).toNat)>>=_) _ _ _
 rw[lH]
 refine aM (kdx_alive dI ?_)
 simp only[TH,fi,if_false]
 refine aM (iF aH rfl (x:=.bool ao) rfl ?_)
 have dP:∀lR:Bool->aq->Prop,(∀oR,lO oR au cj cz (dG T) (.bool true)->mJ au C.heap oR->lR false {C with heap:=oR})->
   az (gn prog w) I (do {if (mM ao !=mM true)=true then {setField (.ref au) 1 (.bool true)};return false}) lR aj C:=λlR q=>by
  cases ao with
  |true=>
   rw[if_neg (show¬((mM true !=mM true)=true)from tv)]
   exact b6 (q C.heap aH (Uc _ _))
  |false=>
   rw[if_pos (show(mM false !=mM true)=true from rfl)]
   exact aM (v1 aH (by simp) λm6 HH jy=>b6 (q m6 HH jy))
 refine dP _ λoR Pw oQ=>?_
 simp only[fi,if_false,SY,A3,A4]
 have ne:∀{a b:ah},a≠b->b≠a:=λB=>iB B
 have xC:au≠ch:=gE aa.jY
 have tu:au≠cN:=gE aa.z3
 have xD:au≠cR:=gE aa.z4
 have AY:au≠b_:=gE (dR aa.a1 aa.jY)
 have AZ:au≠b4:=gE (dR aa.a2 aa.jY)
 have Sn:au≠cH:=gE (dR aa.fJ aa.jY)
 have Mv:ch≠cN:=fA aa.lT
 have Mw:ch≠cR:=fA aa.z2
 have a1:ch≠b_:=gE aa.a1
 have a2:ch≠b4:=gE aa.a2
 have fJ:ch≠cH:=gE aa.fJ
 have MG:cN≠cR:=fA aa.qB
 have qB:cN≠b4:=gE (dR aa.a2 aa.lT)
 have wj:cN≠cH:=gE (dR aa.fJ aa.lT)
 refine aM (aM (aM (ib ?_)))
 show az _ _ (pr (.ref ch)>>=_) _ _ _
 refine aM (yh (h1.extBut oQ.extBut (ne xC)) (iV.extBut oQ.extBut (ne AY)) aS λiX Y9 jx=>b6 (b6 ?_))
 refine aM (aM (ib ?_))
 show az _ _ (pr (.ref cN)>>=_) _ _ _
 refine aM (yh ((aA.extBut oQ.extBut (ne tu)).extBut jx.extBut (ne Mv)) ((hZ.extBut oQ.extBut (ne AZ)).extBut jx.extBut (ne a2)) bZ λsY Za jU=>b6 (b6 ?_))
 refine aM (aM (ib ?_))
 show az _ _ (pr (.ref cR)>>=_) _ _ _
 refine aM (yh (((bn.extBut oQ.extBut (ne xD)).extBut jx.extBut (ne Mw)).extBut jU.extBut (ne MG)) (((jw.extBut oQ.extBut (ne Sn)).extBut jx.extBut (ne fJ)).extBut jU.extBut (ne wj)) bA λm6 Zd jy=>b6 (b6 (b6 ?_)))
 refine aM (sl ?_ (by show 3<=ol;decide))
 refine b6 ⟨_,rfl,?_⟩
 have dp:m6.objs.size=C.heap.objs.size:=by rw[jy.1,jU.1,jx.1,oQ.1]
 show ai (.ref m6.objs.size) _
 rw[dp]
 have hk:∀V N,V≠au->V≠ch->V≠cN->V≠cR->C.heap.get? V=some N->(m6.push {cls:=.type "tuple",data:=.seq #[D,am,v]}).get? V=some N:=λV N dL et dD fu e=>
  eu _ (jy.extBut _ _ fu (jU.extBut _ _ dD (jx.extBut _ _ et (oQ.extBut _ _ dL e))))
 refine f8 (m6.push {cls:=.type "tuple",data:=.seq #[D,am,v]}) (eu _ (jy.extBut _ _ xD (jU.extBut _ _ tu (jx.extBut _ _ xC Pw)))) ?_ ?_ ?_ ?_ ?_ hk
 .exact((Y9.extBut jU.extBut Mv).extBut jy.extBut Mw).at λN e=>eu _ e
 .exact(Za.extBut jy.extBut MG).at λN e=>eu _ e
 .exact Zd.at λN e=>eu _ e
 .rw[<-dp];exact f_ _ rfl
 .rw[nh,dp]
theorem J8{T:ah}{a b V D:an}{k:Nat}{ai:Unit->aq->Prop}(dI:kI C.heap T a b V)(B:∀aD,aD.get? T=some {cls:=.type "tuple",data:=.seq ((#[a,b,V]:Array an).setIfInBounds k D)}->mJ T C.heap aD->ai () {C with heap:=aD}):az (gn prog w) I (ye T (·.setIfInBounds k D)) ai aj C:=by
 refine v3 dI rfl (B _ ?_ (pv ..))
 rw[x0 _ dI rfl]
 simp[gw]
theorem ah3{au cj cz ch cN cR b_ b4 cH:ah}{k:Nat}{aR bT cG:Array an}{D am v a b V:an}{ai:an->aq->Prop}(aa:gK au cj cz ch cN cR b_ b4 cH)(aH:lO C.heap au cj cz .none (.bool false))(oG:kI C.heap cj (.ref ch) (.ref cN) (.ref cR))(Hl:kI C.heap cz a b V)(h1:C.heap.IsListIter ch b_ k)(aA:C.heap.IsListIter cN b4 k)(bn:C.heap.IsListIter cR cH k)(iV:C.heap.IsList b_ aR)(hZ:C.heap.IsList b4 bT)(jw:C.heap.IsList cH cG)(aS:aR[k]? =some D)(bZ:bT[k]? =some am)(bA:cG[k]? =some v)(f8:∀aD,lO aD au cj cz (dG C.heap.objs.size) (.bool false)->aD.IsListIter ch b_ (k+1)->aD.IsListIter cN b4 (k+1)->aD.IsListIter cR cH (k+1)->kI aD C.heap.objs.size D am v->aD.objs.size=C.heap.objs.size+1->(∀V N,V≠au->V≠cz->V≠ch->V≠cN->V≠cR->C.heap.get? V=some N->aD.get? V=some N)->ai (.ref C.heap.objs.size) {C with heap:=aD}):az (gn prog w) I (fX.«zip.__next__» ⟨[.ref au],[]⟩) (λck s'=>∃v,ck= .done (.ret v)/\ai v s') aj C:=by
 have yu:cz≠au:=fA aa.ll
 have dO:cz≠ch:=gE aa.u2
 have hF:cz≠cN:=gE aa.IF
 have t7:cz≠cR:=gE aa.IG
 have u8:ch≠au:=fA aa.jY
 have I4:cN≠au:=fA aa.z3
 have I5:cR≠au:=fA aa.z4
 have Qa:ch≠cN:=fA aa.lT
 have Qb:ch≠cR:=fA aa.z2
 have Qc:cN≠cR:=fA aa.qB
 have Cf:b_≠au:=fA (dR aa.a1 aa.jY)
 have X5:b4≠au:=fA (dR aa.a2 aa.jY)
 have X8:cH≠au:=fA (dR aa.fJ aa.jY)
 have X4:b4≠cz:=fA (dR aa.a2 aa.u2)
 have M':cH≠cz:=fA (dR aa.fJ aa.u2)
 have X3:b4≠ch:=fA aa.a2
 have X6:cH≠ch:=fA aa.fJ
 have X7:cH≠cN:=fA (dR aa.fJ aa.lT)
 show az _ _ (qu (.ref au) 2>>=_) _ _ _
 refine aM (iF aH rfl (x:=.bool false) rfl ?_)
 show az _ _ (qu (.ref au) 3>>=_) _ _ _
 refine aM (iF aH rfl (x:=.ref cj) rfl ?_)
 refine aM (pD oG rfl ?_)
 show az _ _ (xW (.ref au)>>=_) _ _ _
 refine aM ?_
 unfold xW
 refine aM (iF aH rfl (x:=.none) rfl (b6 ?_))
 simp only[if_true]
 refine aM (oo ?_)
 refine aM (iF aH rfl (x:=.ref cz) rfl ?_)
 refine aM (v1 aH (by simp) λiX uW jx=>?_)
 replace uW:lO iX au cj cz .ellipsis (.bool false):=uW
 refine aM ?_
 simp only[KD,Tk,A3,A4]
 refine aM (aM (FH ?_))
 show az _ _ (pr (.ref ch)>>=_) _ _ _
 refine aM (yh (h1.extBut jx.extBut u8) (iV.extBut jx.extBut Cf) aS λsY Y_ jU=>b6 ?_)
 have Of:kI sY cz a b V:=jU.extBut _ _ dO (jx.extBut _ _ yu Hl)
 refine aM (pD Of rfl ?_)
 refine aM (J8 Of λm6 Hm jy=>?_)
 replace Hm:kI m6 cz D b V:=Hm
 refine aM (FF (b6 ?_))
 refine aM (aM (FH ?_))
 show az _ _ (pr (.ref cN)>>=_) _ _ _
 refine aM (yh (((aA.extBut jx.extBut I4).extBut jU.extBut Qa.symm).extBut jy.extBut hF.symm)
  (((hZ.extBut jx.extBut X5).extBut jU.extBut X3).extBut jy.extBut X4) bZ λabH Zb uS=>b6 ?_)
 have Og:kI abH cz D b V:=uS.extBut _ _ hF Hm
 refine aM (pD Og rfl ?_)
 refine aM (J8 Og λabI Hn uT=>?_)
 replace Hn:kI abI cz D am V:=Hn
 refine aM (FF (b6 ?_))
 refine aM (aM (FH ?_))
 show az _ _ (pr (.ref cR)>>=_) _ _ _
 refine aM (yh (((((bn.extBut jx.extBut I5).extBut jU.extBut Qb.symm).extBut jy.extBut t7.symm).extBut uS.extBut Qc.symm).extBut uT.extBut t7.symm)
  (((((jw.extBut jx.extBut X8).extBut jU.extBut X6).extBut jy.extBut M').extBut uS.extBut X7).extBut uT.extBut M') bA λabJ Ze wT=>b6 ?_)
 have Oh:kI abJ cz D am V:=wT.extBut _ _ t7 Hn
 refine aM (pD Oh rfl ?_)
 refine aM (J8 Oh λl1 Ho wU=>?_)
 replace Ho:kI l1 cz D am v:=Ho
 refine aM (FF (b6 (b6 ?_)))
 refine aM (pD Ho rfl ?_)
 refine aM (sl ?_)
 have dp:l1.objs.size=C.heap.objs.size:=by rw[wU.1,wT.1,uT.1,uS.1,jy.1,jU.1,jx.1]
 have aaD:∀V N,V≠au->V≠cz->V≠ch->V≠cN->V≠cR->C.heap.get? V=some N->l1.get? V=some N:=λV N fK hH ll Gl yS e=>
  wU.extBut _ _ hH (wT.extBut _ _ yS (uT.extBut _ _ hH (uS.extBut _ _ Gl (jy.extBut _ _ hH (jU.extBut _ _ ll (jx.extBut _ _ fK e))))))
 have Py:lO l1 au cj cz .ellipsis (.bool false):=wU.extBut _ _ yu.symm (wT.extBut _ _ I5.symm (uT.extBut _ _ yu.symm (uS.extBut _ _ I4.symm (jy.extBut _ _ yu.symm (jU.extBut _ _ u8.symm uW)))))
 have Y':l1.IsListIter ch b_ (k+1):=((((Y_.extBut jy.extBut dO.symm).extBut uS.extBut Qa).extBut uT.extBut dO.symm).extBut wT.extBut Qb).extBut wU.extBut dO.symm
 have Zc:l1.IsListIter cN b4 (k+1):=((Zb.extBut uT.extBut hF.symm).extBut wT.extBut Qc).extBut wU.extBut hF.symm
 have Zf:l1.IsListIter cR cH (k+1):=Ze.extBut wU.extBut t7.symm
 have Pu:au<l1.objs.size:=iL Py
 show az _ _ (T3 (.ref au) (.ref l1.objs.size)>>=_) _ _ _
 refine aM ?_
 unfold T3
 have wZ:lO (l1.push {cls:=.type "tuple",data:=.seq #[D,am,v]}) au cj cz .ellipsis (.bool false):=eu _ Py
 refine aM (v1 wZ (by simp) λabK It Ib=>?_)
 replace It:lO abK au cj cz (dG l1.objs.size) (.bool false):=It
 refine v1 It (by simp) λzT wZ Ia=>?_
 replace wZ:lO zT au cj cz (dG l1.objs.size) (.bool false):=wZ
 have up:∀V N,V≠au->l1.get? V=some N->zT.get? V=some N:=λV N fK e=>Ia.extBut _ _ fK (Ib.extBut _ _ fK (eu _ e))
 have Oi:kI zT l1.objs.size D am v:=Ia.extBut _ _ (gR Pu) (Ib.extBut _ _ (gR Pu) (f_ _ rfl))
 have Ps:zT.objs.size=l1.objs.size+1:=by rw[Ia.1,Ib.1,nh]
 rw[dp]at wZ Oi Ps
 refine b6 ⟨_,rfl,?_⟩
 show ai (.ref l1.objs.size) _
 rw[dp]
 exact f8 zT wZ (Y'.at λN e=>up _ N u8 e) (Zc.at λN e=>up _ N I4 e) (Zf.at λN e=>up _ N I5 e) Oi Ps λV N fK hH ll Gl yS e=>up V N fK (aaD V N fK hH ll Gl yS e)
theorem ah1{au cj cz ch cN cR b_ b4 cH:ah}{k:Nat}{aR:Array an}{ai:Fin->aq->Prop}{js fE:an}(cE:I.handled=none)(aa:gK au cj cz ch cN cR b_ b4 cH)(aH:lO C.heap au cj cz js fE)(oG:kI C.heap cj (.ref ch) (.ref cN) (.ref cR))(b2:(js= .none/\fE= .bool false)\/∃(T:ah) (qa:bJ) (ao:Bool),js=dG T/\fE= .bool ao/\C.heap.get? T=some qa)(h1:C.heap.IsListIter ch b_ k)(iV:C.heap.IsList b_ aR)(ki:aR[k]? =none)(iU:∀aD e,(∀V N,V≠au->V≠ch->C.heap.get? V=some N->aD.get? V=some N)->(∃N,aD.get? e=some N/\N.cls= .type "StopIteration")->aj (.ref e) {C with heap:=aD}):az (gn prog w) I (fX.«zip.__next__» ⟨[.ref au],[]⟩) ai aj C:=by
 have u8:ch≠au:=fA aa.jY
 have Cf:b_≠au:=fA (dR aa.a1 aa.jY)
 show az _ _ (qu (.ref au) 2>>=_) _ _ _
 refine aM (iF aH rfl (x:=.bool false) rfl ?_)
 show az _ _ (qu (.ref au) 3>>=_) _ _ _
 refine aM (iF aH rfl (x:=.ref cj) rfl ?_)
 refine aM (pD oG rfl ?_)
 show az _ _ (xW (.ref au)>>=_) _ _ _
 refine aM ?_
 unfold xW
 rcases b2 with⟨rfl,rfl⟩|⟨T,qa,ao,rfl,rfl,dI⟩
 .refine aM (iF aH rfl (x:=.none) rfl (b6 ?_))
  simp only[if_true]
  refine aM (oo ?_)
  refine aM (iF aH rfl (x:=.ref cz) rfl ?_)
  refine aM (v1 aH (by simp) λiX uW jx=>?_)
  replace uW:lO iX au cj cz .ellipsis (.bool false):=uW
  refine aM ?_
  simp only[KD,Tk,A3,A4]
  refine aM (aM (FH ?_))
  show az _ _ (pr (.ref ch)>>=_) _ _ _
  refine aM (U8 cE (h1.extBut jx.extBut u8) (iV.extBut jx.extBut Cf) ki λsY e jU bw=>?_)
  obtain⟨Ag,wP,Ou⟩:=bw
  have Px:lO sY au cj cz .ellipsis (.bool false):=jU _ _ u8.symm uW
  have aag:e≠au:=λD=>by subst D;rw[Px]at wP;cases wP;simp at Ou
  refine v1 Px (by simp) λm6 _ jy=>iU m6 e (λV N fK ll D=>jy.extBut _ _ fK (jU _ _ ll (jx.extBut _ _ fK D))) ⟨Ag,jy.extBut _ _ aag wP,Ou⟩
 .refine aM (iF aH rfl (x:=dG T) rfl ?_)
  show az _ _ (UL ((T:Int).toNat)>>=_) _ _ _
  rw[lH]
  refine aM (kdx_alive dI ?_)
  simp only[TH,fi,if_false]
  refine aM (iF aH rfl (x:=.bool ao) rfl ?_)
  have dP:∀lR:Bool->aq->Prop,(∀oR,lO oR au cj cz (dG T) (.bool true)->mJ au C.heap oR->lR false {C with heap:=oR})->
    az (gn prog w) I (do {if (mM ao !=mM true)=true then {setField (.ref au) 1 (.bool true)};return false}) lR aj C:=λlR q=>by
   cases ao with
   |true=>
    rw[if_neg (show¬((mM true !=mM true)=true)from tv)]
    exact b6 (q C.heap aH (Uc _ _))
   |false=>
    rw[if_pos (show(mM false !=mM true)=true from rfl)]
    exact aM (v1 aH (by simp) λm6 HH jy=>b6 (q m6 HH jy))
  refine dP _ λoR Pw oQ=>?_
  simp only[fi,if_false,SY,A3,A4]
  refine aM (aM (aM (ib ?_)))
  show az _ _ (pr (.ref ch)>>=_) _ _ _
  exact aM (U8 cE (h1.extBut oQ.extBut u8) (iV.extBut oQ.extBut Cf) ki λsY e jU bw=>iU sY e (λV N fK ll D=>jU _ _ ll (oQ.extBut _ _ fK D)) bw)
end
structure pL (au cj cz ch cN cR b_ b4 cH S:ah) (aR bT cG:Array an) (L:Nat) (B:bo):Prop where
 own:∃js fE,lO B au cj cz js fE/\((js= .none/\fE= .bool false/\∃a b V,kI B cz a b V)\/∃(T:ah) (qa:bJ) (ao:Bool),js=dG T/\fE= .bool ao/\B.get? T=some qa/\T≠au/\T≠S/\T≠ch/\T≠cN/\T≠cR)
 ap:kI B cj (.ref ch) (.ref cN) (.ref cR)
 t1:B.IsListIter ch b_ L
 eE:B.IsListIter cN b4 L
 t3:B.IsListIter cR cH L
 g1:B.IsList b_ aR
 g2:B.IsList b4 bT
 g3:B.IsList cH cG
theorem pL.keep{au cj cz ch cN cR b_ b4 cH S:ah}{aR bT cG:Array an}{L:Nat}{B aD:bo}(D:pL au cj cz ch cN cR b_ b4 cH S aR bT cG L B)(aa:gK au cj cz ch cN cR b_ b4 cH)(eh:@gm Nat _ au S)(hk:∀b N,b≠S->B.get? b=some N->aD.get? b=some N):pL au cj cz ch cN cR b_ b4 cH S aR bT cG L aD:=by
 have J':au≠S:=fA (eh)
 have ahY:cj≠S:=fA (dR aa.PI eh)
 have ahZ:cz≠S:=fA (dR aa.ll eh)
 have a8:ch≠S:=fA (dR aa.jY eh)
 have bm:cN≠S:=fA (dR aa.z3 eh)
 have e3:cR≠S:=fA (dR aa.z4 eh)
 have gM:b_≠S:=fA (dR (dR aa.a1 aa.jY) eh)
 have kW:b4≠S:=fA (dR (dR aa.a2 aa.jY) eh)
 have IV:cH≠S:=fA (dR (dR aa.fJ aa.jY) eh)
 refine⟨?_,hk _ _ ahY D.ap,D.t1.at λN e=>hk _ N a8 e,D.eE.at λN e=>hk _ N bm e,D.t3.at λN e=>hk _ N e3 e,D.g1.at λN e=>hk _ N gM e,D.g2.at λN e=>hk _ N kW e,D.g3.at λN e=>hk _ N IV e⟩
 obtain⟨js,fE,aH,b2⟩:=D.own
 refine⟨js,fE,hk _ _ J' aH,?_⟩
 rcases b2 with⟨J,q,a,b,V,e⟩|⟨T,qa,ao,a,b,V,d,e,r⟩
 .exact .inl ⟨J,q,a,b,V,hk _ _ ahZ e⟩
 .exact .inr ⟨T,qa,ao,a,b,hk _ _ e V,d,e,r⟩
section
variable{prog:kG}{w:c4}{I:br}{aj:an->aq->Prop}{C:aq}
theorem ah0{au cj cz ch cN cR b_ b4 cH S:ah}{L:Nat}{aR bT cG:Array an}{D am v:an}{ai:Option an->aq->Prop}(aa:gK au cj cz ch cN cR b_ b4 cH)(st:pL au cj cz ch cN cR b_ b4 cH S aR bT cG L C.heap)(eh:S<C.heap.objs.size)(aS:aR[L]? =some D)(bZ:bT[L]? =some am)(bA:cG[L]? =some v)(f8:∀aD,pL au cj cz ch cN cR b_ b4 cH S aR bT cG (L+1) aD->kI aD C.heap.objs.size D am v->aD.objs.size=C.heap.objs.size+1->(∀V N,V≠au->V≠cz->V≠ch->V≠cN->V≠cR->C.heap.get? V=some N->aD.get? V=some N)->ai (some (.ref C.heap.objs.size)) {C with heap:=aD}):az (gn prog w) I (si (.ref au)) ai aj C:=by
 obtain⟨⟨js,fE,aH,b2⟩,oG,h1,aA,bn,iV,hZ,jw⟩:=st
 have dI:C.TypeIs (.ref au) "zip":=⟨_,aH,rfl⟩
 have u6:C.heap.objs.size≠au:=gR (iL aH)
 have aco:C.heap.objs.size≠S:=gR eh
 have LY:cj≠au:=fA aa.PI
 have IO:cj≠cz:=fA aa.hH
 have bG:cj≠ch:=gE aa.PP
 have bN:cj≠cN:=gE aa.PQ
 have bR:cj≠cR:=gE aa.fK
 have yu:cz≠au:=fA aa.ll
 have dO:cz≠ch:=gE aa.u2
 have hF:cz≠cN:=gE aa.IF
 have t7:cz≠cR:=gE aa.IG
 have ne:∀l:ah,@gm Nat _ l ch->l≠au/\l≠cz/\l≠ch/\l≠cN/\l≠cR:=λl aN=>⟨fA (dR aN aa.jY),fA (dR aN aa.u2),fA aN,fA (dR aN aa.lT),fA (dR aN aa.z2)⟩
 unfold si
 refine aM (UZ (yg (name:=ia "__next__") dI F.slot_zip_next
  (l' F.slot_zip_next dI F.entry_zip_next ?_ (F.args_zip_next_1 _))))
 have fE:C.heap.objs.size≠ch:=by obtain⟨_,e,_⟩:=h1;exact gR (iL e)
 have gT:C.heap.objs.size≠cN:=by obtain⟨_,e,_⟩:=aA;exact gR (iL e)
 have y9:C.heap.objs.size≠cR:=by obtain⟨_,e,_⟩:=bn;exact gR (iL e)
 rcases b2 with⟨rfl,rfl,a,b,V,Hl⟩|⟨T,qa,ao,rfl,rfl,ul,F6,gC,ua,jq,pJ⟩
 .refine ah3 aa aH oG Hl h1 aA bn iV hZ jw aS bZ bA λaD a1 a2 fJ uc BX F8 hk=>b6 (f8 aD ⟨⟨_,_,a1,.inr ⟨_,_,_,rfl,rfl,BX,u6,aco,fE,gT,y9⟩⟩,hk _ _ LY IO bG bN bR oG,a2,fJ,uc,iV.at λN e=>?_,hZ.at λN e=>?_,jw.at λN e=>?_⟩ BX F8 hk)
  .obtain⟨et,dD,fu,hM,iu⟩:=ne _ aa.a1;exact hk _ N et dD fu hM iu e
  .obtain⟨et,dD,fu,hM,iu⟩:=ne _ aa.a2;exact hk _ N et dD fu hM iu e
  .obtain⟨et,dD,fu,hM,iu⟩:=ne _ aa.fJ;exact hk _ N et dD fu hM iu e
 .refine ah7 aa F6 aH ul oG h1 aA bn iV hZ jw aS bZ bA λaD a1 a2 fJ uc BX F8 hk=>b6 (f8 aD ⟨⟨_,_,a1,.inr ⟨T,_,_,rfl,rfl,hk _ _ F6 ua jq pJ ul,F6,gC,ua,jq,pJ⟩⟩,hk _ _ LY bG bN bR oG,a2,fJ,uc,iV.at λN e=>?_,hZ.at λN e=>?_,jw.at λN e=>?_⟩ BX F8 λV N et dD fu hM iu e=>hk V N et fu hM iu e)
  .obtain⟨et,dD,fu,hM,iu⟩:=ne _ aa.a1;exact hk _ N et fu hM iu e
  .obtain⟨et,dD,fu,hM,iu⟩:=ne _ aa.a2;exact hk _ N et fu hM iu e
  .obtain⟨et,dD,fu,hM,iu⟩:=ne _ aa.fJ;exact hk _ N et fu hM iu e
theorem ah8{au cj cz ch cN cR b_ b4 cH S:ah}{L:Nat}{aR bT cG:Array an}{ai:Option an->aq->Prop}(cE:I.handled=none)(aa:gK au cj cz ch cN cR b_ b4 cH)(st:pL au cj cz ch cN cR b_ b4 cH S aR bT cG L C.heap)(aS:aR[L]? =none)(f8:∀aD,(∀V N,V≠au->V≠ch->C.heap.get? V=some N->aD.get? V=some N)->ai none {C with heap:=aD}):az (gn prog w) I (si (.ref au)) ai aj C:=by
 obtain⟨⟨js,fE,aH,b2⟩,oG,h1,aA,bn,iV,hZ,jw⟩:=st
 have dI:C.TypeIs (.ref au) "zip":=⟨_,aH,rfl⟩
 unfold si
 refine aM (UZ (yg (name:=ia "__next__") dI F.slot_zip_next
  (l' F.slot_zip_next dI F.entry_zip_next (ah1 cE aa aH oG ?_ h1 iV aS λaD e hk bw=>?_) (F.args_zip_next_1 _))))
 .rcases b2 with⟨J,q,r⟩|⟨T,qa,ao,J,q,r,_⟩
  .exact .inl ⟨J,q⟩
  .exact .inr ⟨T,qa,ao,J,q,r⟩
 obtain⟨N,a6,aO⟩:=bw
 refine aM (U3 (T:="StopIteration") (b:=true) ⟨N,a6,aO⟩ isSubtype_stop ?_)
 exact b6 (f8 _ hk)
theorem ahc{au cj cz:ah}{js fE:an}{ai:an->aq->Prop}(aH:lO C.heap au cj cz js fE)(B:ai (.ref au) C):az (gn prog w) I (yd (.ref au)) ai aj C:=by
 have dI:C.TypeIs (.ref au) "zip":=⟨_,aH,rfl⟩
 refine wpAny_pyIter_slot dI F.slot_zip_iter (l' F.slot_zip_iter dI F.entry_zip_iter ?_ (F.args_zip_iter_1 _))
 show az _ _ (ret (.ref au)) _ _ C
 exact b6 ⟨_,rfl,"zip",_,dI,F.slot_zip_next.lookup,B⟩
end
theorem agQ(a b V:an):checkTypeCall "zip" ⟨[a,b,V],[]⟩=pure ():=by kernel_rfl
theorem ac9(a b V:an):Uz "zip.__new__" ⟨[.type "zip",a,b,V],[]⟩=pure ():=by kernel_rfl
theorem Wr(a b V d:an):lM "object.__init__" ⟨[a,b,V,d],[]⟩:=by
 unfold lM;rw[vW (id:="object.__init__") (n:=['_','_','t','i','n','i','_','_']) (o:=['t','c','e','j','b','o']) (by kernel_rfl) F.owner_object];kernel_rfl
theorem ah_:vZ (.type "zip") "__len__"=pure none:=by rw[lc,la];kernel_rfl
theorem ah9:vZ (.type "zip") "__length_hint__"=pure none:=by rw[lc,la];kernel_rfl
noncomputable abbrev yJ(B:bo)(b_:ah):bo:=B.push {cls:=.type "list_iterator",data:=.fields #[.ref b_,.int 0 0]}
noncomputable abbrev yK(B:bo)(b_ b4:ah):bo:=(yJ B b_).push {cls:=.type "list_iterator",data:=.fields #[.ref b4,.int 0 0]}
noncomputable abbrev BU(B:bo)(b_ b4 cH:ah):bo:=(yK B b_ b4).push {cls:=.type "list_iterator",data:=.fields #[.ref cH,.int 0 0]}
noncomputable abbrev BV(B:bo)(b_ b4 cH:ah):bo:=(BU B b_ b4 cH).push {cls:=.type "tuple",data:=.seq #[.ref B.objs.size,.ref (yJ B b_).objs.size,.ref (yK B b_ b4).objs.size]}
noncomputable abbrev BW(B:bo)(b_ b4 cH:ah):bo:=(BV B b_ b4 cH).push {cls:=.type "tuple",data:=.seq #[.none,.none,.none]}
noncomputable abbrev rv(B:bo)(b_ b4 cH:ah):bo:=(BW B b_ b4 cH).push {cls:=.type "zip",data:=.fields #[.none,.bool false,.bool false,.ref (BU B b_ b4 cH).objs.size,.ref (BV B b_ b4 cH).objs.size]}
set_option maxHeartbeats 4000000 in
theorem ac5(b_ b4 cH:ah)(aR bT cG:Array an):vM (fX.«zip.__new__» ⟨[.type "zip",.ref b_,.ref b4,.ref cH],[]⟩) (λ_ R C=>C.heap.IsList b_ aR/\C.heap.IsList b4 bT/\C.heap.IsList cH cG/\R (.ok (.ret (.ref (BW C.heap b_ b4 cH).objs.size))) {C with heap:=rv C.heap b_ b4 cH}):=
 .of_wp λprog w I R C B=>by
  obtain⟨aF,g,d,bg,os⟩:=C;obtain⟨iV,hZ,jw,B⟩:=B
  have fg:=sub_zip
  have Zp:La (Lk ⟨aF,g,d,bg,os⟩) b_ aR:=iV
  have Zq:La (Lk ⟨yJ aF b_,g,d,bg,os⟩) b4 bT:=Lb hZ _
  have G':La (Lk ⟨yK aF b_ b4,g,d,bg,os⟩) cH cG:=Lb (Lb jw _) _
  wp_walk using yi Zp,yi Zq,yi G'
  exact⟨_,rfl,B⟩
structure yL (aR bT cG:Array an) (lo:ah) (B:bo) (bi:List ah):Prop where
 above:∀a∈bi,@gm Nat _ lo a
 rows:∀(aB:Nat)(a:ah),bi[aB]? =some a->∃D am v,aR[aB]? =some D/\bT[aB]? =some am/\cG[aB]? =some v/\kI B a D am v
section
variable{prog:kG}{w:c4}{I:br}{aj:an->aq->Prop}{C:aq}{R:pw->aq->Prop}
theorem ah5{au cj cz ch cN cR b_ b4 cH S:ah}{aR bT cG:Array an}(cE:I.handled=none)(aa:gK au cj cz ch cN cR b_ b4 cH)(m5:@gm Nat _ au S)(a_:aR.size<=ol)(bZ:bT.size=aR.size)(bA:cG.size=aR.size)(ve:an){iX:bo}(i':∀aD bg ea V bi,(∀b N,b≠S->b≠au->b≠cz->b≠ch->b≠cN->b≠cR->iX.get? b=some N->aD.get? b=some N)->aD.get? S=some {cls:=.type "list",dict:=none,data:=.seq ea V,slots:=#[]}->bi.length=aR.size->yL aR bT cG S aD bi->ea.toList=bi.map nk->R (.ok (.ret ve)) {C with heap:=aD,toks:=bg}):∀(k L:Nat)(B:bo)(bg V:Nat)(ea:Array an)(bi:List ah),aR.size - L=k->L<=aR.size->pL au cj cz ch cN cR b_ b4 cH S aR bT cG L B->(∀b N,b≠S->b≠au->b≠cz->b≠ch->b≠cN->b≠cR->iX.get? b=some N->B.get? b=some N)->B.get? S=some {cls:=.type "list",dict:=none,data:=.seq ea V,slots:=#[]}->ea.toList=bi.map nk->bi.length=L->yL aR bT cG S B bi->lb (gn prog w) I (.builtin "list.extend.loop" ⟨[.ref S,.ref au,ve],[]⟩) R {C with heap:=B,toks:=bg}:=by
 have Ms:S≠au:=gE (m5)
 have V8:S≠cz:=gE (dR aa.ll m5)
 have Mq:S≠ch:=gE (dR aa.jY m5)
 have V6:S≠cN:=gE (dR aa.z3 m5)
 have V7:S≠cR:=gE (dR aa.z4 m5)
 have Ei:∀a:ah,@gm Nat _ S a->a≠S/\a≠au/\a≠cz/\a≠ch/\a≠cN/\a≠cR:=λa ha=>
  have aH:=dR m5 ha
  ⟨gE ha,gE aH,gE (dR aa.ll aH),gE (dR aa.jY aH),gE (dR aa.z3 aH),gE (dR aa.z4 aH)⟩
 intro k
 induction k with
 |zero=>
  intro L B bg V ea bi hk aU bV uK eh kg hX m1
  have qJ:L=aR.size:=by exact j1 [_,_,_] 185610420914908079085323586 rfl aU hk (qi _ _)
  refine tN T7 ?_
  rw[vK E_ _]
  show az _ I.in1 (si (.ref au)>>=_) _ _ _
  refine aM (ah8 (C:={C with heap:=B,toks:=bg}) (I:=I.in1) cE aa bV (Es (by exact aL [_,_] 1900356928 rfl qJ)) λaD bw=>?_)
  refine b6 (i' aD bg ea V bi (λb N dL et dD fu hM iu e=>bw b N et fu (uK b N dL et dD fu hM iu e)) (bw S _ Ms Mq eh) (by exact j1 [_,_,_] 35556788629011656090946 rfl hX aU qJ) ⟨m1.above,λaB a bL=>?_⟩ kg)
  obtain⟨D,am,v,a8,bm,e3,gf⟩:=m1.rows aB a bL
  obtain⟨dL,et,dD,fu,hM,iu⟩:=Ei a (m1.above a (qo bL))
  exact⟨D,am,v,a8,bm,e3,bw a _ et fu gf⟩
 |succ k bf=>
  intro L B bg V ea bi hk aU bV uK eh kg hX m1
  have cM:L<aR.size:=by exact bX [_,_,_,_] 2786991270125732504897 rfl hk (k_ (aL [_,_] 2438202688 rfl aU))
  have aS:aR[L]? =some aR[L]:=A0 cM
  have Pp:bT[L]? =some (bT[L]'(by exact bX [_,_,_] 133136778532161 rfl cM bZ)):=A0 (by exact bX [_,_,_] 133136778532161 rfl cM bZ)
  have C4:cG[L]? =some (cG[L]'(by exact bX [_,_,_] 133136778532161 rfl cM bA)):=A0 (by exact bX [_,_,_] 133136778532161 rfl cM bA)
  have dp:ea.size=L:=by rw[<-vw,kg,gz,hX]
  refine tN T7 ?_
  rw[vK E_ _]
  show az _ I.in1 (si (.ref au)>>=_) _ _ _
  refine aM (ah0 (C:={C with heap:=B,toks:=bg}) (S:=S) aa bV (iL eh) aS Pp C4 λaD C1 cp aH pU=>?_)
  dsimp only at cp aH pU ⊢
  have Cw:=pU S _ Ms V8 Mq V6 V7 eh
  have up:∀b N,b≠S->aD.get? b=some N->(aD.update S (gw (·.push (nk B.objs.size)))).get? b=some N:=λb N ak e=>(E' _ _ (iB ak)).trans e
  have jv:S<B.objs.size:=iL eh
  show az _ I.in1 (ye S (·.push (nk B.objs.size))>>=_) _ _ _
  refine aM ?_
  refine v3 Cw rfl (b6 ⟨tS E_ _,bf (L+1) _ bg _ (ea.push (nk B.objs.size)) (bi++[B.objs.size]) (by exact P1 [_,_,_,_,_] 60233926313070965119028365402232150466803757195805178864962 rfl hk (k_ (aL [_,_] 159790316721152 rfl cM)) (qi _ _) (k_ (aL [_,_] 2438202688 rfl aU)) (qi _ _)) cM (C1.keep aa m5 up)
   (λb N dL et dD fu hM iu e=>up b N dL (pU b N et dD fu hM iu (uK b N dL et dD fu hM iu e))) (x0 _ Cw rfl) (by rw[Et,kg,gA];rfl) (by rw[gJ,hX];rfl) ⟨?_,?_⟩⟩) (by rw[dp];exact bX [_,_,_] 168317090530624 rfl aU a_) (by show(ea.push (nk B.objs.size)).size<=ol+1;rw[Kg,dp];exact bX [_,_,_] 722916399182302799795200 rfl aU a_)
  .intro a ha
   rcases fC.mp ha with ha|ha
   .exact m1.above a ha
   .rw[pn.mp ha];exact jv
  .intro aB b bL
   rcases Nat.lt_trichotomy aB bi.length with h1|h1|h1
   .rw[Ez h1]at bL
    obtain⟨D,am,v,a8,bm,e3,gf⟩:=m1.rows aB b bL
    obtain⟨dL,et,dD,fu,hM,iu⟩:=Ei b (m1.above b (qo bL))
    exact⟨D,am,v,a8,bm,e3,up b _ dL (pU b _ et dD fu hM iu gf)⟩
   .subst h1
    have ak:B.objs.size=b:=by simpa using bL
    subst ak
    exact⟨_,_,_,by rw[hX];exact aS,by rw[hX];exact Pp,by rw[hX];exact C4,up _ _ (gR jv) cp⟩
   .have CT:(bi++[B.objs.size])[aB]? =none:=Kx (by rw[gJ,List.length_singleton];exact aL [_,_] 159790316721152 rfl h1)
    rw[CT]at bL;cases bL
theorem ah2{au cj cz ch cN cR b_ b4 cH S:ah}{aR bT cG:Array an}(cE:I.handled=none)(aa:gK au cj cz ch cN cR b_ b4 cH)(m5:@gm Nat _ au S)(a_:aR.size<=ol)(bZ:bT.size=aR.size)(bA:cG.size=aR.size)(ve:an)(bV:pL au cj cz ch cN cR b_ b4 cH S aR bT cG 0 C.heap)(XN:Nat)(eh:C.heap.get? S=some {cls:=.type "list",data:=.seq #[] XN})(i':∀aD bg ea V bi,(∀b N,b≠S->b≠au->b≠cz->b≠ch->b≠cN->b≠cR->C.heap.get? b=some N->aD.get? b=some N)->aD.get? S=some {cls:=.type "list",dict:=none,data:=.seq ea V,slots:=#[]}->bi.length=aR.size->yL aR bT cG S aD bi->ea.toList=bi.map nk->R (.ok (.ret ve)) {C with heap:=aD,toks:=bg}):az (gn prog w) I.in1 (E7 (.ref S) (.ref au) ve) (λck s'=>match ck with | .done ao=>R (.ok ao) s'| .again fx=>fx.quiet=true/\lb (gn prog w) I fx R s') (λe s'=>R (.error e) s') C:=by
 obtain⟨⟨js,fE,aH,b2⟩,_⟩:=id bV
 have dI:C.TypeIs (.ref au) "zip":=⟨_,aH,rfl⟩
 have ZD:S≠au:=gE (m5)
 unfold E7
 refine aM (Va dI ?_)
 have h1:T0 (.ref S) (.ref au)=false:=by simp[T0,ZD]
 have aA:(oi "zip"==oi "list")=false:=by decide
 have bn:(oi "zip"==oi "tuple")=false:=by decide
 simp only[h1,aA,bn,Bool.or_false,fi,if_false]
 refine aM (ahc aH ?_)
 refine aM (ib ?_)
 unfold aiH
 refine aM (v2 dI ah_ ?_)
 show az _ I.in1 (specialOf (nk au) (ia "__length_hint__")>>=_) _ _ _
 refine aM (v2 dI ah9 ?_)
 refine b6 ?_
 show az _ I.in1 (Bv "list.extend.makes-room">>=λ_=>aiI (.ref S)>>=λ_=>
  tL (.builtin "list.extend.loop" ⟨[.ref S,.ref au,ve],[]⟩)) _ _ _
 refine aM (oo ?_)
 refine aM ?_
 show az _ I.in1 (ye S (·.push .none)>>=λ_=>ye S (·.pop)) _ _ _
 refine aM (v3 eh rfl ?_)
 have Cx:=x0 (gw (·.push gB)) eh rfl
 refine v3 (hz:=by seq_fits) Cx rfl ?_
 have ZE:=x0 (gw (·.pop)) Cx rfl
 have up:∀b N,b≠S->C.heap.get? b=some N->((C.heap.update S (gw (·.push gB))).update S (gw (·.pop))).get? b=some N:=λb N ak e=>
  (E' _ _ (iB ak)).trans ((E' _ _ (iB ak)).trans e)
 exact b6 ⟨tS E_ _,ah5 (C:=C) (iX:=C.heap) cE aa m5 a_ bZ bA ve i' aR.size 0 _ C.toks _ #[] [] (KS _) (eL _) (bV.keep aa m5 up) (λb N dL _ _ _ _ _ e=>up b N dL e) ZE rfl rfl ⟨(λ_ ha=>nomatch ha),λaB a bL=>by simp at bL⟩⟩
theorem ah4{au cj cz ch cN cR b_ b4 cH:ah}{aR bT cG:Array an}{ai:an->aq->Prop}(cE:I.handled=none)(aa:gK au cj cz ch cN cR b_ b4 cH)(a_:aR.size<=ol)(bZ:bT.size=aR.size)(bA:cG.size=aR.size)(bV:pL au cj cz ch cN cR b_ b4 cH C.heap.objs.size aR bT cG 0 C.heap)(f8:∀aD bg ea V bi,(∀b N,b≠au->b≠cz->b≠ch->b≠cN->b≠cR->C.heap.get? b=some N->aD.get? b=some N)->aD.get? C.heap.objs.size=some {cls:=.type "list",dict:=none,data:=.seq ea V,slots:=#[]}->bi.length=aR.size->yL aR bT cG C.heap.objs.size aD bi->ea.toList=bi.map nk->ai (.ref C.heap.objs.size) {C with heap:=aD,toks:=bg}):az (gn prog w) I (df (.type "list") [.ref au]) ai aj C:=by
 obtain⟨⟨js,fE,aH,b2⟩,_⟩:=id bV
 have m5:@gm Nat _ au C.heap.objs.size:=iL aH
 refine callType_codes (Q₁:=λobj j6=>obj= .ref C.heap.objs.size/\j6={C with heap:=C.heap.push {cls:=.type "list",data:=.seq #[]}}) aiP (aiV _) aiQ
  (code_list_new _ ⟨rfl,rfl⟩) λobj j6 iX=>?_
 obtain⟨rfl,rfl⟩:=iX
 have eh:(C.heap.push {cls:=.type "list",data:=.seq #[]}).get? C.heap.objs.size=some {cls:=.type "list",data:=.seq #[]}:=f_ _ rfl
 refine⟨⟨_,eh,rfl⟩,aiM _ _,?_⟩
 show az _ _ (do let old<-TZ (.ref C.heap.objs.size);aiJ (.ref C.heap.objs.size) (λ_=>#[]);letGo old.toList.reverse;E7 (.ref C.heap.objs.size) (.ref au) .none) _ _ {C with heap:=C.heap.push {cls:=.type "list",data:=.seq #[]}}
 refine aM ?_
 unfold TZ
 refine aM (pD eh rfl (b6 ?_))
 show az _ _ (ye C.heap.objs.size (λ_=>#[])>>=λ_=>letGo (#[]:Array an).toList.reverse>>=λ_=>E7 (.ref C.heap.objs.size) (.ref au) .none) _ _ {C with heap:=C.heap.push {cls:=.type "list",data:=.seq #[]}}
 refine aM (v3 eh rfl ?_)
 have Cx:=x0 (gw (λ_=>(#[]:Array an))) eh rfl
 have QG:∀b N,b≠C.heap.objs.size->C.heap.get? b=some N->((C.heap.push {cls:=.type "list",data:=.seq #[]}).update C.heap.objs.size (gw (λ_=>(#[]:Array an)))).get? b=some N:=
  λb N ak e=>(E' _ _ (iB ak)).trans (eu _ e)
 refine aM (FF ?_)
 refine ah2 (I:=I.in1) cE aa m5 a_ bZ bA .none (bV.keep aa m5 QG) _ Cx λaD bg ea V bi hk Cw aN m1 kg=>?_
 refine⟨rfl,f8 aD bg ea V bi (λb N et dD fu hM iu e=>?_) Cw aN m1 kg⟩
 have ak:b≠C.heap.objs.size:=hA (iL e)
 exact hk b N ak et dD fu hM iu (QG b N ak e)
end
section
variable{prog:kG}{w:c4}{I:br}{aj:an->aq->Prop}{C:aq}
theorem Xq{b_ b4 cH:ah}{aR bT cG:Array an}{ai:an->aq->Prop}(iV:C.heap.IsList b_ aR)(hZ:C.heap.IsList b4 bT)(jw:C.heap.IsList cH cG)(B:∀aD au cj cz ch cN cR,gK au cj cz ch cN cR b_ b4 cH->@Kq Nat _ C.heap.objs.size ch->pL au cj cz ch cN cR b_ b4 cH aD.objs.size aR bT cG 0 aD->(∀V N,C.heap.get? V=some N->aD.get? V=some N)->ai (.ref au) {C with heap:=aD}):az (gn prog w) I (df (.type "zip") [.ref b_,.ref b4,.ref cH]) ai aj C:=by
 refine Ux F.called_zip (by decide) (agQ _ _ _) (ac9 _ _ _) (λobj=>Wr obj _ _ _) F.entry_zip_new
  (ac5 b_ b4 cH aR bT cG) ⟨iV,hZ,jw,?_⟩
 have xC:(yJ C.heap b_).objs.size=C.heap.objs.size+1:=nh ..
 have tu:(yK C.heap b_ b4).objs.size=C.heap.objs.size+2:=by rw[nh,xC]
 have xD:(BU C.heap b_ b4 cH).objs.size=C.heap.objs.size+3:=by rw[nh,tu]
 have AY:(BV C.heap b_ b4 cH).objs.size=C.heap.objs.size+4:=by rw[nh,xD]
 have AZ:(BW C.heap b_ b4 cH).objs.size=C.heap.objs.size+5:=by rw[nh,AY]
 have Sn:(rv C.heap b_ b4 cH).objs.size=C.heap.objs.size+6:=by rw[nh,AZ]
 have GX:(rv C.heap b_ b4 cH).get? (BW C.heap b_ b4 cH).objs.size=some _:=f_ _ rfl
 have NB:(rv C.heap b_ b4 cH).get? (BV C.heap b_ b4 cH).objs.size=some _:=eu _ (f_ _ rfl)
 have NA:(rv C.heap b_ b4 cH).get? (BU C.heap b_ b4 cH).objs.size=some _:=eu _ (eu _ (f_ _ rfl))
 have g3:(rv C.heap b_ b4 cH).get? (yK C.heap b_ b4).objs.size=some _:=eu _ (eu _ (eu _ (f_ _ rfl)))
 have g2:(rv C.heap b_ b4 cH).get? (yJ C.heap b_).objs.size=some _:=eu _ (eu _ (eu _ (eu _ (f_ _ rfl))))
 have g1:(rv C.heap b_ b4 cH).get? C.heap.objs.size=some _:=eu _ (eu _ (eu _ (eu _ (eu _ (f_ _ rfl)))))
 have up:∀V N,C.heap.get? V=some N->(rv C.heap b_ b4 cH).get? V=some N:=λV N D=>eu _ (eu _ (eu _ (eu _ (eu _ (eu _ D)))))
 have lt:∀{l:ah}{af},C.heap.IsList l af->@gm Nat _ l C.heap.objs.size:=λD=>let⟨_,e,_⟩:=D;iL e
 have k1:=lt iV
 have k2:=lt hZ
 have dr:=lt jw
 show _/\_
 rw[xD,AY,AZ]at GX
 rw[xC,tu,xD]at NA
 rw[AY]at NB
 rw[xC]at g2
 rw[tu]at g3
 rw[AZ]
 refine⟨⟨_,GX,rfl⟩,B _ (C.heap.objs.size+5) (C.heap.objs.size+3) (C.heap.objs.size+4) C.heap.objs.size (C.heap.objs.size+1) (C.heap.objs.size+2)
  ⟨k1,k2,dr,kF _,kF _,kF _,kF _,kF _⟩ (eF _) ⟨⟨_,_,GX,.inl ⟨rfl,rfl,_,_,_,NB⟩⟩,NA,⟨_,g1,rfl,rfl⟩,⟨_,g2,rfl,rfl⟩,⟨_,g3,rfl,rfl⟩,iV.at λN e=>up _ N e,hZ.at λN e=>up _ N e,jw.at λN e=>up _ N e⟩ up⟩
end
section
variable{prog:kG}{w:c4}{I:br}{aj:an->aq->Prop}{C:aq}
theorem ah6{au cj cz ch cN cR b_ b4 cH:ah}{aR bT cG:Array an}{ai:an->aq->Prop}{aQ:bo}(cE:I.handled=none)(a_:aR.size<=ol)(bZ:bT.size=aR.size)(bA:cG.size=aR.size)(aa:gK au cj cz ch cN cR b_ b4 cH)(aU:@Kq Nat _ aQ.objs.size ch)(bV:pL au cj cz ch cN cR b_ b4 cH C.heap.objs.size aR bT cG 0 C.heap)(HN:dS aQ C.heap)(f8:∀aD bg ea V bi,dS aQ aD->aQ.get? C.heap.objs.size=none->aD.get? C.heap.objs.size=some {cls:=.type "list",dict:=none,data:=.seq ea V,slots:=#[]}->bi.length=aR.size->yL aR bT cG C.heap.objs.size aD bi->(∀a∈bi,aQ.get? a=none)->ea.toList=bi.map nk->ai (.ref C.heap.objs.size) {C with heap:=aD,toks:=bg}):az (gn prog w) I (df (.type "list") [.ref au]) ai aj C:=by
 have Pt:@gm Nat _ au C.heap.objs.size:=by obtain⟨⟨js,fE,aH,b2⟩,_⟩:=id bV;exact iL aH
 have new:∀a:ah,@Kq Nat _ ch a->aQ.get? a=none:=λa ha=>by
  cases e:aQ.get? a with
  |none=>rfl
  |some N=>exact absurd (iL e) (fv.mpr (cu aU ha))
 refine ah4 cE aa a_ bZ bA bV λaD bg ea V bi hk eh aN m1 kg=>f8 aD bg ea V bi (λb N e=>?_) (new _ (gv (dR aa.jY Pt))) eh aN m1 (λa ha=>?_) kg
 .have ak:@gm Nat _ b aQ.objs.size:=iL e
  have nJ:@gm Nat _ b ch:=g' ak aU
  exact hk b N (fA (dR nJ aa.jY)) (fA (dR nJ aa.u2)) (fA nJ) (fA (dR nJ aa.lT)) (fA (dR nJ aa.z2)) (HN b N e)
 .have:=m1.above a ha
  exact new a (gv (dR aa.jY (dR Pt this)))
end
noncomputable def Eo:List ax->List ax->List ax->List ax
 |a::bi,b::bs,V::oB=>.tuple [a,b,V]::Eo bi bs oB
 |_,_,_=>[]
theorem aeR{B:bo}:∀{gt:List ah}{aR bT cG:List an}{bi bs oB:List ax},a3 B aR bi->a3 B bT bs->a3 B cG oB->gt.length=bi.length->bs.length=bi.length->oB.length=bi.length->(∀(aB:Nat)(a:ah),gt[aB]? =some a->∃D am v,aR[aB]? =some D/\bT[aB]? =some am/\cG[aB]? =some v/\B.get? a=some {cls:=.type "tuple",data:=.seq #[D,am,v]})->a3 B (gt.map nk) (Eo bi bs oB):=by
 intro gt
 induction gt with
 |nil=>
  intro _ _ _ bi _ _ _ _ _ aN _ _ _
  cases bi with
  |nil=>exact .nil
  |cons=>exact nomatch aN
 |cons a gt bf=>
  intro _ _ _ bi bs oB aT bb e0 aN ak aO ge
  cases bi with
  |nil=>exact nomatch aN
  |cons _ bi=>cases bs with
   |nil=>exact nomatch ak
   |cons _ bs=>cases oB with
    |nil=>exact nomatch aO
    |cons _ oB=>
     obtain⟨_,_,rfl,aT,q1⟩:=aT.o3
     obtain⟨_,_,rfl,bb,fV⟩:=bb.o3
     obtain⟨_,_,rfl,e0,Ap⟩:=e0.o3
     obtain⟨D,am,v,a8,bm,e3,gf⟩:=ge 0 a rfl
     cases a8
     cases bm
     cases e3
     exact .cons (.tuple ⟨_,gf,rfl,_,rfl⟩ (.cons aT (.cons bb (.cons e0 .nil)))) (bf q1 fV Ap (sf aN) (sf ak) (sf aO) λaB a bL=>ge (aB+1) a bL)
section
variable{W:bj}{I:br}{env:bB}{ae:bu}{X:List ah}{C:aq}
theorem Vx{bK o_ al kr:bp}{a8:a'}{b9:List a'}{bi bs oB:List ax}(cE:I.handled=none)(ms:nz W I env ae kr (a8::b9) [.list bi,.list bs,.list oB])(a_:bi.length<=16777216)(ak:bs.length=bi.length)(aO:oB.length=bi.length)(uJ:autoParam (env.kindOf "list"=some .globalImplicit) tR)(rP:autoParam (env.kindOf "zip"=some .globalImplicit) tR)(bV:autoParam ((a8::b9).all (λe=> !eQ e)=true) tR):aY W I env ae (.Call (.Name "list" bK) [.Call (.Name "zip" o_) (a8::b9) [] kr] [] al) (.list (Eo bi bs oB)):=⟨λX C aK G=>⟨λai aj q=>by
 show az _ _ (b1 (.Name "list" bK) env>>=λv=>fH al v [] (fk al (eV [.Call (.Name "zip" o_) (a8::b9) [] kr] env)) (j_ al (j' [] env))) _ _ _
 refine aM (ly G uJ (WI _) WS ?_ (by decide))
 show az _ _ (fH al (.type "list") [] (fk al (eV [.Call (.Name "zip" o_) (a8::b9) [] kr] env)) []) _ _ _
 with_reducible refine jQ (λ_ D=>nomatch D) (B5 al _ rfl) ?_
 refine H ((h8 (show eQ (.Call (.Name "zip" o_) (a8::b9) [] kr)=false from rfl)) _) ?_
 show az _ _ (Lx (.type "list") true ((false,b1 (.Call (.Name "zip" o_) (a8::b9) [] kr) env)::[]) []) _ _ _
 with_reducible refine k' (g0 ?_)
 show az _ _ (b1 (.Name "zip" o_) env>>=λv=>fH kr v [] (fk kr (eV (a8::b9) env)) (j_ kr (j' [] env))) _ _ _
 refine aM (ly G rP (WN _) WX ?_ (by decide))
 show az _ _ (fH kr (.type "zip") [] (fk kr (eV (a8::b9) env)) []) _ _ _
 with_reducible refine jQ (λ_ D=>nomatch D) (B5 kr _ bV) (sA aK G ms (vn bV) λaf aG k1 aT=>?_)
 have rN:=aK.mono k1
 refine a3.e3 aT λ_ _ _ q1 fV Ap=>?_
 refine aC.gD q1 λb_ aR cB a1=>?_
 refine aC.gD fV λb4 bT cY a2=>?_
 refine aC.gD Ap λcH cG eM fJ=>?_
 have et:aR.size=bi.length:=by refine b' vw ?_;refine H a1.length ?_;rfl
 have dD:bT.size=aR.size:=by refine b' vw ?_;refine H a2.length ?_;refine H ak ?_;refine H et ?_;rfl
 have fu:cG.size=aR.size:=by refine b' vw ?_;refine H fJ.length ?_;refine H aO ?_;refine H et ?_;rfl
 show az _ _ (df (.type "zip") [_,_,_]) _ _ _
 refine Xq (cP.plain cB).isList (cP.plain cY).isList (cP.plain eM).isList λaA au cj cz ch cN cR aa aU st k2=>?_
 with_reducible refine jJ ?_
 show az _ _ (df (.type "list") [.ref au]) _ _ _
 refine ah6 (C:={aG with heap:=aA}) (aQ:=aG.heap) cE (by refine H et ?_;exact a_) dD fu aa aU st k2 λbn bg ea V gt dr ZC eh aN m1 ev kg=>?_
 have er:cS aG {aG with heap:=bn,toks:=bg}:=⟨bn,bg,rfl,dr⟩
 have sT:∀a,aG.heap.get? a=none->a∉X:=λa e aI=>by refine bH (rN a aI) λN dB=>?_;rw[e]at dB;cases dB
 refine q _ _ (b5 k1 er) (.list ⟨V,ei _ eh (sT _ ZC)⟩ ?_)
 refine H kg ?_
 refine aeR (a1.mono (cg er)) (a2.mono (cg er)) (fJ.mono (cg er)) (aN.trans et) ak aO λaB a bL=>?_
 refine n' (m1.rows aB a bL) λD am v fE aE=>?_;refine fb aE λgT y9 wv=>?_;clear aE
 exact⟨D,am,v,by simpa using fE,by simpa using gT,by simpa using y9,ei _ wv (sT a (ev a (qo bL)))⟩⟩⟩
end
noncomputable def jB(l:List Int):List aZ:=(e7 8).map (du l)
theorem Dz(l:List Int):jB l=[du l 0,du l 1,du l 2,du l 3,du l 4,du l 5,du l 6,du l 7]:=rfl
theorem I8(l:List Int):(jB l).Nodup:=by
 unfold jB List.Nodup
 refine Ta.mpr ?_
 have:=S' (n:=8)
 refine aic (λ{a b} ha ak ik e=>ik (ada l ?_ ?_ e)) this
 .have:=pl.mp ha;exact aL [_] 40955794807599425 rfl this
 .have:=pl.mp ak;exact aL [_] 40955794807599425 rfl this
theorem Dy(l:List Int):∀D∈jB l,e8 D:=λD aS=>by
 refine dQ aS λk _=>?_
 exact Ql l k
theorem adf(l:List Int):∀D∈jB l,D.length % 4≠1:=λD aS=>by
 refine dQ aS λk _=>?_
 exact Ae l k
noncomputable abbrev vf(l:List Int):List (List aZ):=[[du l 0,du l 1],[du l 2]]
noncomputable def ui(l:List Int):List (Nat×aZ):=[(j3 l 3,du l 3),(j3 l 4,du l 4),(j3 l 5,du l 5),(j3 l 6,du l 6),(j3 l 7,du l 7)]
theorem Nw:∀ns:List aZ,(ns.map λD=>[D]).flatten=ns
 |[]=>rfl
 |Y::ns=>by rw[ef,jH,Nw ns];rfl
theorem V_{l:List Int}{ap:List (List aZ)}(aQ:∀r∈ap,r≠[])(J:ap.flatten.Perm [du l 0,du l 1,du l 2]):cl (ap++((ui l).map (·.2)).map λD=>[D]):=by
 have cY:(ap++((ui l).map (·.2)).map λD=>[D]).flatten.Perm (jB l):=by
  refine H qn ?_;refine H (Nw _) ?_;refine H (Dz _) ?_
  exact J.append_right _
 refine⟨λr aE=>?_,λD aS=>Dy l D (cY.mem_iff.mp aS),cY.nodup_iff.mpr (I8 l),by refine H cY.length_eq ?_;refine H (Dz _) ?_;show 8<=50;decide⟩
 rcases fC.mp aE with B|B
 .exact aQ r B
 .refine dQ B λD _=>?_
  exact SS _ _
theorem Mr(l:List Int):cl (vf l):=by
 have J:(vf l).flatten.Sublist (jB l):=by
  refine H (Dz _) ?_
  exact((SQ [du l 0,du l 1,du l 2]).append (S_ [du l 3,du l 4,du l 5,du l 6,du l 7]))
 refine⟨λr aE=>?_,λD aS=>Dy l D (J.subset aS),J.nodup (I8 l),by show 3<=50;decide⟩
 simp at aE
 rcases aE with rfl|rfl<;>exact SS _ _
theorem V9{l:List Int}{ap:List (List aZ)}(bt:cl ap)(e:canon ap=canon (vf l)):cl (ap++((ui l).map (·.2)).map λD=>[D]):=
 V_ bt.ne ((B9 ap).symm.trans ((by refine H e ?_;rfl:(canon ap).flatten.Perm (canon (vf l)).flatten).trans (B9 (vf l))))
theorem RH(D:aZ):b3 id [D]=[D]:=Td.mp (gy id [D])
theorem Xu(l:List Int):canon (vf l)=b3 hd [b3 id [du l 0,du l 1],[du l 2]]:=by
 unfold canon
 simp[RH]
theorem V'(l:List Int):cl [b3 id [du l 0,du l 1],[du l 2]]:=by
 have:=(Mr l).sorted
 simpa[RH]using this
theorem W6:∀(w:List Nat),(∀V∈w,V<256)->(mN (w.map kz)).toList.map (·.toNat)=w:=λw B=>by
 unfold mN
 refine H dY ?_;refine H dY ?_
 conv=>rhs;rw[<-kC w]
 refine gZ λV aO=>?_
 have:=B V aO
 show((kz V).toNat.toUInt8).toNat=V
 simp
 omega
noncomputable def AC(l:List Int)(k:Nat):List UInt8:=(mN (iQ (mC l k))).toList
theorem aha{Y:aZ}(B:e8 Y):∀V∈dX Y,V<256:=λV aO=>by
 rcases fC.mp aO with h1|h1
 .have:=Az (B.gH V h1);exact aL [_] 655276030990233921 rfl this
 .refine H ((List.mem_replicate.mp h1).2) ?_;decide
theorem afl(l:List Int)(k:Nat):Ed (AC l k)= .str (bh (dX (du l k))):=by
 refine H (agL _) ?_
 unfold AC
 have e:iQ (mC l k)=(dX (du l k)).map kz:=Gd (mC l k) (xe l k) (s6 l k).2
 refine H e ?_;refine H (W6 _ (aha (Ql l k))) ?_;rfl
theorem afj(l:List Int)(k:Nat):GJ (du l k)= .bytes (mN (iQ (mC l k))):=by
 have e:iQ (mC l k)=(dX (du l k)).map kz:=Gd (mC l k) (xe l k) (s6 l k).2
 refine H e ?_;rfl
theorem afk(l:List Int)(k:Nat):(AC l k).length<=100:=by
 have e:iQ (mC l k)=(dX (du l k)).map kz:=Gd (mC l k) (xe l k) (s6 l k).2
 unfold AC
 refine H vw ?_;refine H (byteArr_size _) ?_;refine H e ?_;refine H (gz _) ?_
 unfold dX du
 refine H gJ ?_;refine H S4 ?_;refine H (xa _) ?_
 have:=s6 l k
 simp only[gz]
 unfold j2
 exact(show∀Y,Y<5->(8*Y+5) / 6+(4 - (8*Y+5) / 6 % 4) % 4<=100 by decide) _ (tB this.2)
noncomputable def Rf(l:List cT):a':=(Ji 3 l).headD (.Name "" ⟨0,0,0,0⟩)
set_option tactic.hygienic true in
noncomputable def Mz(e:a'):List a':=by
 cases e
 case Call _ b9 _ _=>exact b9
 all_goals exact []
section
variable{W:bj}{I:br}{ar eX:ah}{co:an}{ae:bu}
theorem acC(be:I.units+70<c7)(l:List Int)(B:ae.lookup ("names":ay)=some (.list ((jB l).map en))):aY W I (le W ar eX co) ae ((Mz (Rf (dT W.w 231))).getD 1 (.Name "" ⟨0,0,0,0⟩)) (.list ((canon (vf l)).map dv)):=by
 refine H (Xu _) ?_
 refine wb (ap:=[b3 id [du l 0,du l 1],[du l 2]]) (V' l) (hi (ab:=[dv (b3 id [du l 0,du l 1]),dv [du l 2]]) (bI ?_ (bI ?_ cF)) (by show 2<=bc;decide)) (by exact aL [_,_] 167553645945672504321 rfl be)
 .refine BM (bi:=[du l 0,du l 1]) ?_ (by show 2<64;decide) ?_
  .have e:(.list ([du l 0,du l 1].map en):ax)= .list (lV ((jB l).map en) none (some (2:Nat))):=by refine H (XM _ _) ?_;rfl
   refine H e ?_
   exact BJ (aW B) nx (ny c_) (by show 8<=bc;decide)
  .have:=I8 l
   rw[Dz]at this
   exact this.sublist (aid (SQ [du l 0,du l 1]) (S_ [du l 2,du l 3,du l 4,du l 5,du l 6,du l 7]))
 .exact L7 (a:=2) (b:=3) (by decide) (aW B) (by show 8<=bc;decide)
theorem acu(bd:I.handled=none)(l:List Int)(B:ae.lookup ("names":ay)=some (.list ((jB l).map en)))(h1:ae.lookup ("numbers":ay)=some (.list ((e7 8).map λk=>.int (j3 l k:Int))))(aA:ae.lookup ("words":ay)=some (.list ((jB l).map λD=>.str (bh (dX D))))):aY W I (le W ar eX co) ae ((Mz (Rf (dT W.w 231))).getD 2 (.Name "" ⟨0,0,0,0⟩)) (.list ((ui l).map rB)):=by
 have e:(.list ((ui l).map rB):ax)= .list ((Eo ((e7 8).map λk=>.int (j3 l k:Int)) ((jB l).map en) ((jB l).map λD=>.str (bh (dX D)))).drop 3):=rfl
 refine H e ?_
 exact t9 (a:=3) (Vx bd (bI (aW h1) (bI (aW B) (bI (aW aA) cF))) (by show 8<=16777216;decide) rfl rfl) (by show 8<=bc;decide)
end
theorem yB{W:bj}{I:br}{env:bB}{ae:bu}{e:a'}{d bO:ax}(B:li W I env ae e d)(q:d=bO):li W I env ae e bO:=q▸B
section
variable{W:bj}{I:br}{ar eX:ah}{co:an}{ae:bu}
noncomputable abbrev DE(l:List Int):List (List UInt8):=(e7 8).map (mC l)
noncomputable abbrev ti(l:List Int):List (List UInt8):=(e7 8).map (AC l)
theorem Qv(l:List Int):∀bs∈DE l,bs≠[]/\bs.length<=4:=λbs B=>by
 refine dQ B λk _=>?_
 exact⟨xe l k,(s6 l k).2⟩
theorem afm(l:List Int):∀bs∈ti l,bs.length<=100:=λbs B=>by
 refine dQ B λk _=>?_
 exact afk l k
theorem ade(l:List Int):∀Y∈jB l,Y.length<=100/\Y.length % 4≠1/\∀V∈Y,V<128:=λY B=>
 ⟨(Dy l Y B).len,adf l Y B,λV aO=>Az ((Dy l Y B).gH V aO)⟩
theorem acE(bd:I.handled=none)(bk:I.depth+10<d3)(be:I.units+70<c7)(de:I.frames=some [le W ar eX co])(l:List Int)(B:ae.lookup ("names":ay)=some (.list ((jB l).map en)))(h1:ae.lookup ("numbers":ay)=some (.list ((e7 8).map λk=>.int (j3 l k:Int))))(aA:ae.lookup ("sent":ay)=some (.list ((ti l).map λbs=>.bytes bs.toArray))):oy W I (le W ar eX co) ae ((dT W.w 231).drop 7):=by
 refine yD (D:="words") (yB (acG bd (ti l) (afm l) (by show 8<=8;decide) aA) (show _=(.list ((jB l).map λD=>.str (bh (dX D))):ax)from ?_)) ?_
 .refine congrArg ax.list ?_
  rw[dY,jB,dY]
  exact gZ λk _=>afl l k
 refine V1 (a:=du l 0) (b:=du l 1) (V:=du l 2) (ek:=[du l 3,du l 4,du l 5,du l 6,du l 7]) (aW rfl) bd (by exact aL [_,_] 10473702850339869697 rfl bk) (by exact aL [_,_] 2680858335130700354561 rfl be) (Mr l) (Ae l 0) (Ae l 1) (Ae l 2) (by show 5<=50;decide) λap bt aF cE aO=>?_
 refine V3 (ap:=ap) (hW:=ui l) (bI (aW rfl) (bI ?_ (bI ?_ cF))) bd (by exact aL [_,_] 10473702850341966849 rfl bk) (by exact aL [_,_] 2680858335130731811841 rfl be) de rfl (V9 bt aO) aF cE ?_ (by show 5<=60;decide)
 .refine H aO ?_
  exact acC be l B
 .exact acu bd l B h1 rfl
 .intro J aF
  simp only[ui,dw,lK,or_false]at aF
  rcases aF with rfl|rfl|rfl|rfl|rfl<;>exact Ae l _
theorem act(bd:I.handled=none)(bk:I.depth+10<d3)(be:I.units+70<c7)(de:I.frames=some [le W ar eX co])(l:List Int)(qG:l.length<=63):oy W I (le W ar eX co) [("script",.raw (l.map .int))] (dT W.w 231):=by
 refine Ml (D:="base") (V:=ar+2) (cQ:=.tuple (yO.map .int)) (mR (bI c_ (bI c_ (bI c_ (bI c_ (bI c_ (bI c_ (bI c_ (bI c_ cF))))))))) ?_ rfl
 refine Ml (D:="numbers") (V:=ar+3) (acA bd l qG) ?_ rfl
 refine yD (D:="octets") (yB (acB bd (by exact aL [_,_] 10473702850333578241 rfl bk) l rfl) (show _=(.list ((DE l).map λbs=>.bytes bs.toArray):ax)by refine H dY ?_;rfl)) ?_
 refine yD (D:="names") (yB (acz bd (by exact aL [_,_] 10473702850333578241 rfl bk) (DE l) (Qv l) (by show 8<=8;decide) rfl) (show _=(.list ((jB l).map en):ax)by rw[dY,jB,dY];rfl)) ?_
 refine yD (D:="sent") (yB (acD bd (by exact aL [_,_] 10473702850336723969 rfl bk) (DE l) (Qv l) (by show 8<=8;decide) rfl) (show _=(.list (((ti l).map λbs=>bs.toArray).map .bytes):ax)from ?_)) ?_
 .rw[dY,dY,dY];rfl
 refine yD (D:="due") (yB (acv bd (jB l) (ade l) (by show 8<=8;decide) rfl) (show _=(.list (((ti l).map λbs=>bs.toArray).map .bytes):ax)from ?_)) ?_
 .refine congrArg ax.list ?_
  rw[jB,dY,dY,dY]
  exact gZ λk _=>afj l k
 refine V2 (acF bd (by exact aL [_,_] 167553645945676698625 rfl be) ((ti l).map λbs=>bs.toArray) (by show 8<=8;decide) rfl rfl) (λau=>nomatch au) λ_=>?_
 exact acE bd bk be de l rfl rfl (by refine H (show(((ti l).map λbs=>bs.toArray).map .bytes:List ax)=(ti l).map λbs=>.bytes bs.toArray from dY ..) ?_;rfl)
end
theorem ab4{B:bo}{af:List an}{ns:List Int}(r:Bj af ns):a3 B af (ns.map .int):=by
 induction r with
 |nil=>exact .nil
 |cons Y t _ bf=>exact .cons (.int Y t) bf
section
variable{W:bj}{ar eX:ah}{co:an}{C:aq}{aj:an->aq->Prop}{ai:fj->aq->Prop}
theorem IM:(le W ar eX co).cells=[(("numbers":ay),ar+3),(("base":ay),ar+2),(("script":ay),ar+1)]:=rfl
theorem Xo:(rj.deeper (le W ar eX co)).depth+10<d3:=by show rj.depth+1+10<d3;decide+kernel
theorem Xp:(rj.deeper (le W ar eX co)).units+70<c7:=by show rj.units+3+70<c7;decide+kernel
theorem Xl:(rj.deeper (le W ar eX co)).handled=none:=rfl
theorem Xk:(rj.deeper (le W ar eX co)).frames=some [le W ar eX co]:=rfl
set_option maxHeartbeats 1000000 in
theorem acx{g:bo}{m:ay->Option an}{J:kG}{z':List ay}{Ac:K9->Option an}{w0 w1 w2:bJ}{l:List Int}{a:ah}{af:List an}(X':(TopH.hd.heap_39 W.w.params).In g)(T':Top J z' Ac W.o0 W.s2 g)(fK:vP g 93 89)(hH:vP g 76 72)(F':Fr g ar C.heap m)(N':News g ar C.heap [(ar+1+1+1,w2),(ar+1+1,w1),(ar+1,w0),(89,cb #[]),(72,cb #[])])(k0:w0.data= .cell (some (.ref a)))(k1:∃v,w1.data= .cell v)(k2:∃v,w2.data= .cell v)(oU:@gm Nat _ 89 ar)(w6:@gm Nat _ 72 ar)(aN:g.IsList a af.toArray)(ij:Bj af l)(qG:l.length<=63)(q:∀s',(∀b N,g.get? b=some N->s'.heap.get? b=some N)->s'.gens=C.gens->s'.os=C.os->Lo [(93,89),(76,72)] s'.heap->ai (.ret (.bool true)) s'):az W.M (rj.deeper (le W ar eX co)) (bY (dT W.w 231) (le W ar eX co)) ai aj C:=by
 obtain⟨dD,_,gT⟩:=N' _ (.head _)
 obtain⟨et,_,fE⟩:=N' _ (.tail _ (.head _))
 obtain⟨dL,_,js⟩:=N' _ (.tail _ (.tail _ (.head _)))
 obtain⟨s4,_,Nn⟩:=N' _ (.tail _ (.tail _ (.tail _ (.head _))))
 obtain⟨u9,_,Nm⟩:=N' _ (.tail _ (.tail _ (.tail _ (.tail _ (.head _)))))
 dsimp only at dD gT et fE dL js s4 Nn u9 Nm
 have Yt:g.get? ar=none:=by
  cases e:g.get? ar with
  |none=>rfl
  |some N=>exact absurd (iL e) (fv.mpr F'.above)
 have aau:∀b N,g.get? b=some N->b∉[ar,ar+1,ar+2,ar+3]:=λb N e aI=>by
  simp only[dw,lK,or_false]at aI
  rcases aI with rfl|rfl|rfl|rfl
  .rw[Yt]at e;cases e
  .rw[js]at e;cases e
  .rw[show g.get? (ar+2)=none from fE]at e;cases e
  .rw[show g.get? (ar+3)=none from gT]at e;cases e
 have oH:∀b N,g.get? b=some N->b∉[(72:ah),89]:=λb N e aI=>by
  simp only[dw,lK,or_false]at aI
  rcases aI with rfl|rfl
  .rw[Nm]at e;cases e
  .rw[Nn]at e;cases e
 have Zg:(72:ah)∉[ar,ar+1,ar+2,ar+3]:=λaI=>by
  simp only[dw,lK,or_false]at aI
  rcases aI with B|B|B|B
  .exact hA w6 B
  .exact hA (kE w6) B
  .exact hA (kE (kE w6)) B
  .exact hA (kE (kE (kE w6))) B
 have Zh:(89:ah)∉[ar,ar+1,ar+2,ar+3]:=λaI=>by
  simp only[dw,lK,or_false]at aI
  rcases aI with B|B|B|B
  .exact hA oU B
  .exact hA (kE oU) B
  .exact hA (kE (kE oU)) B
  .exact hA (kE (kE (kE oU))) B
 have gl:(dJ C.heap [ar,ar+1,ar+2,ar+3]).get? 72=some (cb #[]):=ei _ u9 Zg
 have gs:(dJ C.heap [ar,ar+1,ar+2,ar+3]).get? 89=some (cb #[]):=ei _ s4 Zh
 have PN:dS g (dJ C.heap [ar,ar+1,ar+2,ar+3]):=λb N e=>ei _ (F'.keep b N e) (aau b N e)
 have aci:dS g (a0 [72,89] {C with heap:=dJ C.heap [ar,ar+1,ar+2,ar+3]}):=λb N e=>ei _ (PN b N e) (oH b N e)
 have PO:dS g (a0 [72,89] C):=λb N e=>ei _ (F'.keep b N e) (oH b N e)
 have dt:eg W g:=⟨X',T'.g,T'.b,T'.nolimit,T'.builtins,λq ba=>by
  rcases s3 ba with rfl|ba
  .exact fK
  .refine H (pn.mp ba) ?_;exact hH,T'.bmain⟩
 have iJ:∀Y V,(le W ar eX co).cells.lookup Y=some V->(Y="script"/\V=ar+1)\/(Y="base"/\V=ar+2)\/(Y="numbers"/\V=ar+3):=λY V e=>by
  rw[IM]at e
  have aI:=mem_of_lookup e
  simp only[dw,TL,lK,or_false]at aI
  rcases aI with B|B|B
  .exact .inr (.inr B)
  .exact .inr (.inl B)
  .exact .inl B
 have N:kb (le W ar eX co) {C with heap:=dJ C.heap [ar,ar+1,ar+2,ar+3]} C:=by
  refine⟨⟨C.heap,C.toks,rfl,λb N e=>fc _ e⟩,fP _ (.head _),λY V B=>?_,⟨m,F'.ns⟩,λY V e=>?_,?_⟩
  .rw[IM]at B
   simp only[dw,TL,lK,or_false]at B
   rcases B with⟨_,rfl⟩|⟨_,rfl⟩|⟨_,rfl⟩
   .exact fP _ (.tail _ (.tail _ (.tail _ (.head _))))
   .exact fP _ (.tail _ (.tail _ (.head _)))
   .exact fP _ (.tail _ (.head _))
  .rcases iJ Y V e with⟨_,rfl⟩|⟨_,rfl⟩|⟨_,rfl⟩
   .exact⟨_,w0,dL,k0⟩
   .obtain⟨v,k⟩:=k1;exact⟨v,w1,et,k⟩
   .obtain⟨v,k⟩:=k2;exact⟨v,w2,dD,k⟩
  .refine H IM ?_
   refine se.mpr ⟨λau aH=>?_,se.mpr ⟨λau aH=>?_,Tb _ _⟩⟩
   .simp only[dw,lK,or_false]at aH
    rcases aH with rfl|rfl
    .exact gR (kF _)
    .exact gR (kE (kF _))
   .simp only[dw,lK,or_false]at aH
    subst aH
    exact gR (kF _)
 have G:fQ W (le W ar eX co) [("script",.raw (l.map .int))] (a0 [72,89] C):=by
  refine⟨dt.mono PO,rfl,rfl,rfl,λD d e=>?_⟩
  have aI:=u5 e
  rcases dw.mp aI with B|aI
  .cases B
   refine⟨by decide,.ref a,.raw (PO.isList aN) (by simpa using ab4 ij),.cell (V:=ar+1) rfl rfl ⟨w0,ei _ dL λaI=>?_,k0⟩⟩
   simp only[dw,lK,or_false]at aI
   have ajy:(72:Nat)<ar:=w6
   have ajz:(89:Nat)<ar:=oU
   rcases aI with B|B
   .exact gR (kE w6) B
   .exact gR (kE oU) B
  .cases aI
 refine(act (W:=W) (I:=rj.deeper (le W ar eX co)) (ar:=ar) (eX:=eX) (co:=co) Xl Xo Xp Xk l qG).on [72,89] {C with heap:=dJ C.heap [ar,ar+1,ar+2,ar+3]} C (.head _) (.tail _ (.head _)) ⟨_,gl,.inl rfl⟩ ⟨_,gs,.inl rfl⟩ (λb ak=>?_) (dt.mono aci) N G ai aj λs' c2 YH YI=>?_
 .simp only[dw,lK,or_false]at ak
  rcases ak with rfl|rfl
  .exact⟨_,gl⟩
  .exact⟨_,gs⟩
 .obtain⟨⟨aD,fB,rfl⟩,er⟩:=c2
  exact q _ (λb N e=>er b N (oH b N e) (PN b N e)) rfl rfl ⟨YI,YH,trivial⟩
end
theorem acH{Y:Nat}(B:¬((63:Nat):Int)<(Y:Int)):Y<=63:=vy.mp (q8.mp B)
section
variable{W:bj}{ar eX:ah}{co:an}{C:aq}{aj:an->aq->Prop}{ai:fj->aq->Prop}
theorem acw{c9:ay}{ix:jn}(a_:c9=(bP W.w 231).qualname)(a9:ix=(bP W.w 231).scope):xU c9 ix ar eX co=le W ar eX co:=by
 subst a_ a9
 rfl
theorem acy{c9:ay}{ix:jn}{body:List cT}(a_:c9=(bP W.w 231).qualname)(H_:ix=(bP W.w 231).scope)(ak:body=dT W.w 231){g:bo}{m:ay->Option an}{J:kG}{z':List ay}{Ac:K9->Option an}{w0 w1 w2:bJ}{l:List Int}{a:ah}{af:List an}(X':(TopH.hd.heap_39 W.w.params).In g)(T':Top J z' Ac W.o0 W.s2 g)(fK:vP g 93 89)(hH:vP g 76 72)(F':Fr g ar C.heap m)(N':News g ar C.heap [(ar+1+1+1,w2),(ar+1+1,w1),(ar+1,w0),(89,cb #[]),(72,cb #[])])(k0:w0.data= .cell (some (.ref a)))(k1:∃v,w1.data= .cell v)(k2:∃v,w2.data= .cell v)(oU:89<ar/\72<ar)(aN:g.IsList a af.toArray)(ij:Bj af l)(qG:¬((63:Nat):Int)<(l.length:Int))(q:∀s',(∀b N,g.get? b=some N->s'.heap.get? b=some N)->s'.gens=C.gens->s'.os=C.os->Lo [(93,89),(76,72)] s'.heap->ai (.ret (.bool true)) s'):az W.M (rj.deeper (xU c9 ix ar eX co)) (bY body (xU c9 ix ar eX co)) ai aj C:=by
 have e:=acw (ar:=ar) (eX:=eX) (co:=co) a_ H_
 generalize xU c9 ix ar eX co=env at e ⊢
 subst e ak
 have ft:@gm Nat _ 89 ar:=oU.1
 have eZ:@gm Nat _ 72 ar:=oU.2
 have B:=acH qG
 clear oU qG
 with_reducible exact acx X' T' fK hH F' N' k0 k1 k2 ft eZ aN ij B q
theorem law_go3{prog:kG}{w:c4}{o0 s2:ay->Option an}{c9:ay}{ix:jn}{body:List cT}{g:bo}{m:ay->Option an}{J:kG}{z':List ay}{Ac:K9->Option an}{w0 w1 w2:bJ}{l:List Int}{a:ah}{af:List an}{AR bx bE:Option an}(X':(TopH.hd.heap_39 w.params).In g)(T':Top J z' Ac o0 s2 g)(fK:vP g 93 89)(hH:vP g 76 72)(F':Fr g ar C.heap m)(N':News g ar C.heap [(ar+1+1+1,w2),(ar+1+1,w1),(ar+1,w0),(89,cb #[]),(72,cb #[])])(k2:w2.data= .cell bE)(k1:w1.data= .cell bx)(k0:w0.data= .cell AR)(oU:89<ar/\72<ar)(aN:g.IsList a af.toArray)(ij:Bj af l)(qG:¬((63:Nat):Int)<(l.length:Int))(a_:c9=(bP w 231).qualname)(H_:ix=(bP w 231).scope)(ak:body=dT w 231)(bA:AR=some (.ref a))(q:∀s',(∀b N,g.get? b=some N->s'.heap.get? b=some N)->s'.gens=C.gens->s'.os=C.os->Lo [(93,89),(76,72)] s'.heap->ai (.ret (.bool true)) s'):az (gn prog w) (rj.deeper (xU c9 ix ar eX co)) (bY body (xU c9 ix ar eX co)) ai aj C:=by
 subst bA
 with_reducible exact acy (W:=⟨prog,w,o0,s2⟩) a_ H_ ak X' T' fK hH F' N' k0 ⟨bx,k1⟩ ⟨bE,k2⟩ oU aN ij qG q
end
end Mine.Tactic
end
set_option tactic.hygienic true in
set_option maxHeartbeats 8000000 in
theorem PySem.Challenge.cw_oy0193_01_holds : PySem.Challenge.rw_oy0193_01.Holds := by
 refine Mine.TopH.hd ?_
 k_go0
 rename_i h1 tk1 w2 w1 w0 k2 k1 k0 X0 X' T' K' F' cH1 N' l0
 refine Mine.Tactic.law_go3 X' T' cH1 codeHd F' N' k2 k1 k0 l0 lifted ‹_› ‹_› ?_ ?_ ?_ ?_ ?_
 .kernel_rfl
 .kernel_rfl
 .kernel_rfl
 .kernel_rfl
 .intro s' hk hg' hos hgr
  refine⟨⟨.inl ⟨.bool true,_,_,rfl,?_,.bool true,?_,?_⟩,hk,hos,hg'.trans ‹_›⟩,hgr⟩
  .intro cls
   kernel_rfl
  .kernel_rfl
  .intro _
   exact⟨List.nodup_nil,λa ha=>nomatch ha⟩
