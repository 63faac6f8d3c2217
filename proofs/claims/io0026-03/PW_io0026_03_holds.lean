import PyProof.Rows.All
import Lean
import Wide.All
import OpenK.AllK
import Wide.FinOn
import PyProof.ExcAttrAll.IndexError
import PyProof.ExcBaseAll.ValueError
import KE.KDflt
import KE.KIntText
import KE.KTypeOf
import PyProof.IsInstanceT
import PyProof.EqKinds
import PyProof.IsiPairs
import PyProof.IsiH_list
import PyProof.Rows.SumAny
import PyProof.Rows.RuleN_abs
import PyProof.ExcStrCall
import KE.KItemsList
import PySem.Challenge.RW_io0026_03
set_option compiler.extract_closed false
set_option bootstrap.genMatcherCode false
set_option genSizeOf false
set_option genInjectivity false
set_option backward.match.sparseCases false
set_option hygiene false
set_option tactic.hygienic false
set_option maxHeartbeats 1000000
set_option maxRecDepth 100000
set_option linter.all false
set_option Elab.async false
open And renaming intro->Yg
open Array renaming all_eq_true_iff_forall_mem->Y1,any_toList->ZP,forIn_toList->Kb,getD_eq_getD_getElem?->sx,getElem?_eq_getElem->vC,getElem?_eq_some_iff->ql,getElem?_map->Ym,getElem?_setIfInBounds_ne->vG,isEmpty->Zq,length_toList->eH,mem_toList_iff->Lz,replicate->J1,size_eq_length_toList->Ls,size_extract->X4,size_map->Ar,size_push->sM,toArray_toList->ZT,toList_append->AA,toList_extract->X3,toList_inj->lU,toList_push->oy
open Bool renaming and_eq_true->jr,and_eq_true_iff->ff,and_false->sG,cond_decide->X',eq_false_iff->XA,eq_iff_iff->qe,false_and->Bu,false_eq_true->AP,false_ne_true->cm,false_or->Y',noConfusion->oS,not_eq_true'->LU,not_inj_iff->oC,or_eq_false_iff->KP,or_eq_true->sW,or_eq_true_iff->vR,or_false->ZN,or_true->YN,true_and->wy
open Classical renaming byContradiction->iW
open Eq renaming substr->Aj,symm->bR,to_iff->YJ
open Exists renaming imp->AU
open Int renaming add_comm->YH,ediv_nonneg->Zg,emod_lt_of_pos->XH,emod_nonneg->JZ,fdiv_eq_ediv_of_nonneg->Lu,fmod_eq_emod_of_nonneg->Lv,le_add_one->Zi,le_of_lt->Zh,lt_of_lt_of_le->KR,max_eq_right->KV,natAbs_natCast->ZF,natCast_add->Y9,natCast_ediv->Lw,natCast_emod->Lx,natCast_ne_zero_iff_pos->ZA,natCast_nonneg->kT,neg_ofNat_le_natCast->Lr,not_lt->Be,not_ofNat_neg->KQ,ofNat_le->wF,ofNat_lt->wD,ofNat_sub->YG,toNat_lt->XG,toNat_natCast->KY,toNat_of_nonneg->Zl,toNat_sub->KW,zero_le_ofNat->Lj
open List renaming Perm->dH,all_eq_true->fE,any_cons->A9,any_eq_false->aak,any_eq_true->KO,any_map->LK,append_assoc->fF,append_cons->Bf,append_nil->gQ,cons->Z4,cons_append->K9,cons_ne_nil->Me,contains_cons->wI,contains_iff_mem->jZ,count_append->YT,count_le_length->K_,count_singleton->YU,drop->YO,dropLast_eq_take->aad,drop_drop->we,drop_eq_getElem_cons->oO,drop_eq_nil_iff->Ze,drop_left->aae,drop_of_length_le->sX,drop_zero->qd,filterMap_append->XF,filterMap_cons->vz,filterMap_map->J9,filterMap_nil->JX,filter_cons_of_neg->ww,filter_cons_of_pos->Yw,find?_cons->BG,find?_eq_none->JW,find?_some->XB,findIdx?_eq_none_iff->sA,findIdx?_toArray->ZI,flatten_cons->By,foldl_cons->J0,foldl_toArray->Y0,forIn_cons->i3,forIn_nil->sH,getD_eq_getElem?_getD->Z6,getElem?_drop->Zd,getElem?_eq_getElem->qa,getElem?_eq_some_iff->dY,getElem?_map->L9,getLast?_cons_cons->Md,getLast?_eq_getElem?->Z_,isEmpty_iff->AM,isEmpty_nil->YC,isPrefixOf_iff_prefix->ZD,length->gR,length_append->bt,length_cons->b_,length_drop->kb,length_dropLast->BX,length_eq_zero_iff->sF,length_eraseIdx_of_lt->XX,length_map->db,length_nil->i7,length_pos_iff->qx,length_range->JY,length_singleton->kn,length_take->qw,lookup->Z8,lookup_cons->AI,map->Aw,map_append->mO,map_congr_left->Kc,map_cons->cJ,map_drop->w0,map_id->Ax,map_inj_left->LV,map_map->fg,map_nil->Ay,map_reverse->Y8,map_take->L8,mem_append->jp,mem_append_left->Z7,mem_append_right->tz,mem_cons->cB,mem_cons_self->X9,mem_filter->Yi,mem_filterMap->qm,mem_flatten->Mc,mem_map->cO,mem_map_of_mem->vH,mem_of_find?_eq_some->XC,mem_of_getElem?->qB,mem_of_mem_drop->BW,mem_of_mem_take->aag,mem_range->lJ,mem_reverse->YZ,mem_singleton->eX,mem_toArray->Y2,mem_zipIdx_iff_getElem?->Z5,nil_append->tA,nodup_cons->jn,nodup_nil->K4,not_mem_nil->th,of_mem_zip->Yx,pairwise_map->Yy,prefix_iff_eq_take->ZE,range->dQ,range'->kj,range'_concat->K',range_succ->XE,rec->wa,replicate->jx,reverse_cons->Y7,size_toArray->J3,tail->tw,take->YP,takeWhile_cons->wM,take_add_one->wJ,take_append_drop->sO,take_append_of_le_length->aah,take_length->Bs,take_nil->YF,take_of_length_le->AB,take_succ_cons->YQ,take_zero->YR,toArray->J2,toList_toArray->XM
open List.Perm renaming refl->jk,swap->XW
open List.Sublist renaming refl->qF
open List.cons renaming inj->vZ,injEq->AR
open Nat renaming add_assoc->lK,add_comm->pY,add_eq_left->Lp,add_le_add->fx,add_le_add_left->eG,add_le_add_right->iG,add_le_of_le_sub'->JR,add_lt_add_left->Xx,add_lt_of_lt_sub'->XD,add_right_cancel->wz,add_right_comm->gu,add_sub_cancel->XR,add_sub_cancel_left->BU,add_sub_of_le->iY,add_zero->Al,beq->fR,ble->Km,blt->mS,div_add_mod->Ki,div_le_self->Kh,div_lt_of_lt_mul->Ak,eq_of_beq_eq_true->JU,eq_sub_of_add_eq->X6,eq_zero_of_add_eq_zero_left->YY,le_add_left->lV,le_add_right->dX,le_add_right_of_le->L7,le_antisymm->Y4,le_of_add_left_le->Yo,le_of_add_right_le->cN,le_of_ble_eq_true->Yh,le_of_eq->da,le_of_lt->eF,le_of_lt_succ->jj,le_of_not_le->YV,le_of_not_lt->qt,le_of_sub_eq_zero->wN,le_of_succ_le->qy,le_of_succ_le_succ->mX,le_refl->bk,le_succ->fe,le_succ_of_le->kV,le_total->AC,le_trans->aJ,lt_add_of_pos_right->wZ,lt_irrefl->lN,lt_of_add_right_lt->BM,lt_of_le_of_lt->bL,lt_of_lt_of_eq->JS,lt_of_lt_of_le->bQ,lt_of_not_le->m4,lt_of_sub_eq_succ->Au,lt_of_sub_pos->Xw,lt_of_succ_lt->oz,lt_of_succ_lt_succ->vy,lt_succ_of_le->pX,lt_succ_of_lt->ow,lt_succ_self->dm,lt_trans->fG,min_eq_left->gS,min_eq_right->ke,min_le_left->LY,min_le_right->kU,min_self->X5,mod_lt->lM,mod_two_eq_zero_or_one->Kj,mul_add->BV,mul_comm->JV,mul_le_mul->aac,mul_le_mul_left->oU,mul_le_mul_right->Mb,mul_one->Ma,mul_succ->Z9,ne_of_gt->lR,ne_of_lt->jq,not_le->JT,not_lt->i0,not_lt_of_le->wc,not_lt_zero->m0,pos_of_ne_zero->XY,pow_succ->Xy,pred->Y6,rec->AE,sub_add_cancel->Ke,sub_eq_zero_of_le->AD,sub_le->lI,sub_le_sub_right->oQ,sub_lt_sub_left->wY,sub_min_sub_right->YE,sub_pos_of_lt->Xz,sub_zero->lT,succ->jm,succ_add_eq_add_succ->aaf,succ_le_of_lt->jC,succ_le_succ->jo,succ_lt_succ_iff->XV,succ_ne_self->LD,succ_pos->sw,zero_add->jY,zero_le->cQ
open Nat.succ renaming inj->BQ
open Ne renaming symm->cV
open Option renaming bind_eq_bind->XI,bind_eq_some_iff->BN,bind_some->kO,isNone_iff_eq_none->An,isSome_iff_exists->mL,map->XK,map_eq_some_iff->LR,map_inj_right->wv,mem_def->wK,none->fW,not_isSome->aaa,or_none->KN,rec->v_,some->ij
open Option.some renaming inj->kN,injEq->Yn
open PUnit renaming unit->oB
open Prod renaming ext->Bl,fst->dq
open Prod.mk renaming inj->Yp,injEq->AJ
open PyProof renaming noPylong_small->BB
open PyProof.Rows renaming IntsAre->wf,getItem_str->Bc,getItem_tuple->Lq,listItems_at->tj,slot_str_getitem->qv,slot_tuple_getitem->LG
open PySem renaming Addr->aj,Args->qg,Arguments->Kl,Around->bZ,BoolOp->eM,Builtin->cn,CmpOp->qp,Code->ia,Ctx->eY,Data->mT,DictEntry->dB,Env->bB,ExceptHandler->wt,Expr->aL,Fin->BE,Flow->i5,FuncData->kg,GenState->de,Gives->wL,Heap->am,IsRangeIter->Bw,Keyword->gV,Model->cP,NameKind->wu,NoneBooked->BK,Obj->ax,Operator->sS,OsState->AW,Params->az,Pos->aT,Program->iC,Result->gU,Scope->dA,Sem->bf,SetTable->dw,Shared->ai,Stmt->bA,Str->af,Tok->bY,Value->ag,World->aR,argsOk->s_,assignInOrder->Lf,attributeBase->wG,backTo->kR,backToKw->ie,behindInMarks->wm,binaryOp->fy,bindArgs->wA,bindName->Bi,bindSpecial->LJ,blockStart->Kr,builtinLookup_eq_fast->Bq,builtinType_eq_fast->Y3,builtinsNs->jv,cLine->gX,cStatics->fH,callWith->KH,call_gives->La,call_isinstance->ZV,call_meets->Bz,call_meetsIn->Lh,callerA->qj,cameBackBy->AZ,cellOf->oV,cellsFrom->wx,checkBuiltinCall->Lb,closureFor->l5,codeAmong->s8,codeAny->kh,codeAny_builtin->Lc,codeAny_call_builtin->wO,codeAny_call_function->Yz,codeAny_handlers_test->Yv,codeAny_mono->wB,codeAny_of_tree->YL,compEnvC->gy,compareOp->ce,constantsAlone->LX,denote->iE,entryFor->kQ,entryFor_of_tree->qf,evalAll->wr,evalArgs->KG,evalEach->sU,excClassObj->K5,execs->jt,fenceDict?->Ko,findBy->wT,firstArgMember->ZB,fit_le->wR,foldedForSure->LW,foldedSetIterable->Zn,formatField->Bn,fromIndex->i6,getAttr->mZ,getItem->oK,getMethod_builtin->Ld,getitemInPython->A0,getitemInPython_of_ne->YB,globalOf->Ks,hashStr->lO,importedModules->AN,inplaceOp->oG,isCodeTable->Mg,isInstance->iD,isSubtype->ka,isSubtype_type->jl,isTrue->sR,isType->Bh,keeperOf->mV,keywordEach->ig,leftWithCleanup->AT,letOwnedTupleGo->Li,letTemporaryGo->A5,lookup_relabel_local->te,mainGlobals->eK,mainNs->fh,mem_of_lookup->qr,methodCallForm->K1,methodCallPos->K3,model->av,newExc->BC,newFields->sP,newTuple->KL,noFill_list_add->Zs,noteFrame->wi,notedBy->kS,nsFind->tv,partValue->sY,pyIter->wP,pyNext->i4,qualnameIn->K7,raiseNew->sZ,raisedInstance->K6,rawInt->bW,recursionLimit->sV,relayAll->Ap,scanBound->Ao,seqIndex?->Ba,setAdd->vM,setAddHashed->J6,setAddHashedIn->XO,setContains->Bd,setDiscardHashed->Kg,setField->KA,setFlight->mU,setMerge->Av,setRoomFor->As,setsByText->J7,sizeLine->Xv,sizeLine->bN,sizeLine_eq->eW,slicePicked->KZ,standAt->iF,starEach->lX,staticOf->AQ,staticsAccountedI->Yj,storeName->KE,storeSet->J4,strKind->Z2,strKind_is->hZ,strValues->l6,swappedStores->qC,swapsWith->lW,sysModules->oE,tameNamesOf?->Kp,theTreesLotGoes->Zc,truthy->eZ,typeIs_str->gW,typeLookup_type->Bp,typeOf->gw,unaryOp->wS,unpackItems->Bt,updateSeq->Lk,valueOrNone->KJ,wpAny->au,wpAny_Assign_Name->KF,wpAny_BinOp->wl,wpAny_Call_ofName->Yt,wpAny_Constant_int->AX,wpAny_Name->qo,wpAny_Return_some->Ys,wpAny_alloc->J8,wpAny_askSetting->sE,wpAny_assign_Name->Zm,wpAny_binaryOp_concat->Zr,wpAny_bind->ah,wpAny_call->jB,wpAny_callSpecial?_slot->Ly,wpAny_call_entry->lZ,wpAny_dictFind_of->ZG,wpAny_excMatches_type->YD,wpAny_execs_cons->wn,wpAny_execs_nil->KD,wpAny_field->fV,wpAny_fieldsOf->wQ,wpAny_getItem_slot->Y_,wpAny_handleBy_cons->Yu,wpAny_holding->bT,wpAny_isInstance->Lm,wpAny_isSubtype_exc->YM,wpAny_ite->vN,wpAny_ite_false->BJ,wpAny_ite_true->oR,wpAny_load->s0,wpAny_loadName_cell->KC,wpAny_loadName_local->wj,wpAny_loadPart->Aq,wpAny_loadPart_at->Bg,wpAny_mkText->oF,wpAny_mono->bn,wpAny_newFunctionEnv_cells->YA,wpAny_newObj_type->kf,wpAny_of_eq->mP,wpAny_pure->aE,wpAny_pyIter_range->Zf,wpAny_pyIter_rangeiter->Zj,wpAny_pyNext_range_end->Zk,wpAny_rule->p0,wpAny_seqItems->BD,wpAny_sequenceKey->ZL,wpAny_setEntries_of->sJ,wpAny_setEpoch_of->Az,wpAny_setField->sQ,wpAny_setScan_of->XP,wpAny_setState_of->h_,wpAny_specialOf->wC,wpAny_standAt->d9,wpAny_storeName_local->wo,wpAny_storeSet_of->XN,wpAny_throw->KI,wpAny_truthy_bool->sT,wpAny_typeOf->Ln,wpAny_with_toks->ii
open PySem.Around renaming under_plainId->Y5
open PySem.AutoIntOps renaming floordiv_1->Zz
open PySem.Bind renaming checkArgs->ZR,madeBy->tq,staticBase->LI
open PySem.BoolOp renaming And->BP,Or->BO
open PySem.Builtin.BaseException renaming bexcArgs->ZZ
open PySem.Builtin.Frozenset renaming addrOf->sC,baseOf->XQ,copyOf->J',difference->X2,isAnySet->mQ,sizeOf->X7,slot1->XZ,unchanged->Kd,updateFrom->X0
open PySem.Builtin.List renaming listExtendWith->Zw,listTooLong->Zx
open PySem.Builtin.Range renaming rangeSize->kl,small->Bv
open PySem.Builtin.Str renaming glued->Zy,occurrences->jA,partsBetween->tr,strKind->ZY,strOf->Z0,strSliceIndices->ki,subAt->YI
open PySem.Builtin.Tuple renaming tupleItemsOf->LH
open PySem.Calls renaming Name_function_global->oM,loadGlobal_builtin->A7,loadGlobal_global->A6
open PySem.Challenge renaming pw_io0026_03->Yf,rw_io0026_03->qi
open PySem.Code renaming quiet_builtin->wH
open PySem.EntryCells renaming newEntry->Kz
open PySem.Env renaming kindOf->oN
open PySem.Expr renaming Compare->LZ,Name->td
open PySem.F renaming args_dict_getitem_2->Zb,args_list_add_2->Zv,args_str_split_2->LP,entry_dict_getitem->Za,entry_list_add->Zu,entry_str_split->LO,slot_dict_contains->ZH,slot_dict_getitem->Lg,slot_dict_items->Z1,slot_dict_setitem->ZM,slot_list_add->Zt,slot_list_append->Zo,slot_list_extend->Zp,slot_list_getitem->Ll,slot_str_count->YW,slot_str_replace->ZX,slot_str_rindex->YX,slot_str_split->BL,slot_tuple_getattribute->ZW,slot_tuple_getitem->BA
open PySem.Flow renaming next->AK
open PySem.GenState renaming forget->Yl,fresh->Ye
open PySem.Heap renaming ExtBut->s7,SameBut->cW,get?_push_of_some->dy,get?_push_size->cH,get?_update_other->wg,get?_update_self->iZ,lt_size->dR,size_push->mR
open PySem.Heap.SameBut renaming refl->oA,update->j_
open PySem.Manifest renaming canonical->ZS,signature?->ZQ
open PySem.NumText renaming step->Bo
open PySem.Obj renaming data_mapDictKeys->ZK,data_mapFields->KB,isFreed_of_dict->LB,isFreed_of_fields->Yq,mapDictKeys->LA,mapFields->jy,mapSeq->Bx,putName->BH,putSet->J5
open PySem.Pin renaming globalOf_eq->Kv
open PySem.PyData renaming keyHash->oD
open PySem.Sem renaming bind->J_,finPost->AG,pure->Ka,wp->cj,wp_bind->qh,wp_bind'->ic,wp_holding->Yd,wp_iff_runs->Ya,wp_mono->ib,wp_operate->AY,wp_pure'->AL
open PySem.SeqAt renaming EqAt->LL
open PySem.SeqAt.EqAt renaming same->Z3,str_str->LN
open PySem.SetTable renaming bits->sy,eraseAt->vW,fill->lQ,fits->p_,fresh->XT,grown->sB,insertAt->Kf,layClean->XJ,leap->lL,roomFor->XU,runEnd->vx,sizeAbove->lP,turns->Am
open PySem.SetTable.layClean renaming free->pZ
open PySem.Shared renaming asleep_of_life->Ku,rest_eq->Yk
open PySem.Stmt renaming Assign->L_
open PySem.Str renaming empty->qz,join->w7,ofString->ae
open PySem.StrLaws renaming At->w4,lastBody->Bm,occBody->oP,occ_eq->YS,occ_length_le->aab,partsBetween_eq->Mf,partsFrom->BY,partsFrom_ne->aai,strSub_toList->aaj,subAt_eq->K8
open PySem.Txt renaming replace->wX,split->kW,startswith->ZC,startswith3->YK
open PySem.Value renaming bool->wE,builtin->KU,isStrOf->sz,none->fJ,ref->dz,str->qA,type->mY
open PySem.W renaming CodeHd->mW,Frag->bE,Looks->eN,ReadsAllW->AV,WData->qk,clsIn->l7,emptyDict->fX,findIn->km,handedIn->qD,hasDictIn->LC,hideAll->jz,hideAll_get->lY,hideAll_none->qq,instObj->wU,kdv_fn->s9,kdv_obj->Bj,kp_binds->BR,lookIn->ZO,look_both->qG,looks_clsIn->LF,looks_findIn->tm,looks_subIn->wW,noRoadLSs->tB,of_hideAll->oH,readsOut->BZ,subIn->tn
open PySem.W.BT renaming beq_eq->AF
open PySem.W.FB renaming slot_frozenset_contains->KS
open PySem.W.Fast renaming te8326940854005059898->aal,tw11892475500146522536->Yb,tw14364793385576792824->Yc
open PySem.W.Frag renaming In->BI
open PySem.W.Looks renaming ld->wV,of_pure->qE
open PySem.W.R renaming bindR->wb,bindR_eq->AH
open PySem.W.WData renaming layableAll->Kw,weightAll->Ky
open PySem.W.WTm renaming holds->Kx
open PySem.callAny renaming viaDunder->ZU
open ReflBEq renaming rfl->Yr
namespace Internal
open PySem PySem.W PyProof.Rows
section
section
universe i j k l m n o p q r s t
variable {A:Sort i}{B:Sort j}{C:Sort k}{D:Sort l}{E:Sort m}{H:Sort n}{I:Sort o}{J:Sort p}{K:Sort q}{L:Sort r}{M:Sort s}{N:Sort t}{G:Prop}
theorem aP{R:A->Prop}(h:∃a,R a)(f:∀a,R a->G):G:=h.elim f
theorem dV{R:A->B->Prop}(h:∃a b,R a b)(f:∀a b,R a b->G):G:=h.elim λa h=>aP h (f a)
theorem jX{R:A->B->C->Prop}(h:∃a b c,R a b c)(f:∀a b c,R a b c->G):G:=h.elim λa h=>dV h (f a)
theorem lx{R:A->B->C->D->Prop}(h:∃a b c d,R a b c d)(f:∀a b c d,R a b c d->G):G:=h.elim λa h=>jX h (f a)
theorem sf{R:A->B->C->D->E->Prop}(h:∃a b c d e,R a b c d e)(f:∀a b c d e,R a b c d e->G):G:=h.elim λa h=>lx h (f a)
theorem IN{R:A->B->C->D->E->H->Prop}(h:∃a b c d e g,R a b c d e g)(f:∀a b c d e g,R a b c d e g->G):G:=h.elim λa h=>sf h (f a)
theorem TA{R:A->B->C->D->E->H->I->Prop}(h:∃a b c d e g i,R a b c d e g i)(f:∀a b c d e g i,R a b c d e g i->G):G:=h.elim λa h=>IN h (f a)
theorem QP{R:A->B->C->D->E->H->I->J->Prop}(h:∃a b c d e g i j,R a b c d e g i j)(f:∀a b c d e g i j,R a b c d e g i j->G):G:=h.elim λa h=>TA h (f a)
theorem E9{R:A->B->C->D->E->H->I->J->K->Prop}(h:∃a b c d e g i j k,R a b c d e g i j k)(f:∀a b c d e g i j k,R a b c d e g i j k->G):G:=h.elim λa h=>QP h (f a)
theorem Wn{R:A->B->C->D->E->H->I->J->K->L->Prop}(h:∃a b c d e g i j k l,R a b c d e g i j k l)(f:∀a b c d e g i j k l,R a b c d e g i j k l->G):G:=h.elim λa h=>E9 h (f a)
theorem Re{R:A->B->C->D->E->H->I->J->K->L->M->Prop}(h:∃a b c d e g i j k l m,R a b c d e g i j k l m)(f:∀a b c d e g i j k l m,R a b c d e g i j k l m->G):G:=h.elim λa h=>Wn h (f a)
theorem aaE{R:A->B->C->D->E->H->I->J->K->L->M->N->Prop}(h:∃a b c d e g i j k l m n,R a b c d e g i j k l m n)(f:∀a b c d e g i j k l m n,R a b c d e g i j k l m n->G):G:=h.elim λa h=>Re h (f a)
end
section
variable {G a b c d e i j k l m n o p q r s:Prop}
theorem aN(h:a/\b)(f:a->b->G):G:=f h.1 h.2
theorem eO(h:a/\b/\c)(f:a->b->c->G):G:=aN h.2 (f h.1)
theorem jO(h:a/\b/\c/\d)(f:a->b->c->d->G):G:=eO h.2 (f h.1)
theorem gj(h:a/\b/\c/\d/\e)(f:a->b->c->d->e->G):G:=jO h.2 (f h.1)
theorem mx(h:a/\b/\c/\d/\e/\i)(f:a->b->c->d->e->i->G):G:=gj h.2 (f h.1)
theorem Du(h:a/\b/\c/\d/\e/\i/\j)(f:a->b->c->d->e->i->j->G):G:=mx h.2 (f h.1)
theorem y7(h:a/\b/\c/\d/\e/\i/\j/\k)(f:a->b->c->d->e->i->j->k->G):G:=Du h.2 (f h.1)
theorem Mz(h:a/\b/\c/\d/\e/\i/\j/\k/\l)(f:a->b->c->d->e->i->j->k->l->G):G:=y7 h.2 (f h.1)
theorem Ac(h:a/\b/\c/\d/\e/\i/\j/\k/\l/\m)(f:a->b->c->d->e->i->j->k->l->m->G):G:=Mz h.2 (f h.1)
theorem Vq(h:a/\b/\c/\d/\e/\i/\j/\k/\l/\m/\n)(f:a->b->c->d->e->i->j->k->l->m->n->G):G:=Ac h.2 (f h.1)
theorem HY(h:a/\b/\c/\d/\e/\i/\j/\k/\l/\m/\n/\o)(f:a->b->c->d->e->i->j->k->l->m->n->o->G):G:=Vq h.2 (f h.1)
theorem O5(h:a/\b/\c/\d/\e/\i/\j/\k/\l/\m/\n/\o/\p)(f:a->b->c->d->e->i->j->k->l->m->n->o->p->G):G:=HY h.2 (f h.1)
theorem WN(h:a/\b/\c/\d/\e/\i/\j/\k/\l/\m/\n/\o/\p/\q)(f:a->b->c->d->e->i->j->k->l->m->n->o->p->q->G):G:=O5 h.2 (f h.1)
theorem Ql(h:a/\b/\c/\d/\e/\i/\j/\k/\l/\m/\n/\o/\p/\q/\r)(f:a->b->c->d->e->i->j->k->l->m->n->o->p->q->r->G):G:=WN h.2 (f h.1)
theorem aaH(h:a/\b/\c/\d/\e/\i/\j/\k/\l/\m/\n/\o/\p/\q/\r/\s)(f:a->b->c->d->e->i->j->k->l->m->n->o->p->q->r->s->G):G:=Ql h.2 (f h.1)
theorem ud(h0:a)(h1:b)(h2:c)(h3:d):a/\b/\c/\d:=⟨h0,h1,h2,h3⟩
theorem lh(h0:a)(h1:b)(h2:c)(h3:d)(h4:e):a/\b/\c/\d/\e:=⟨h0,h1,h2,h3,h4⟩
theorem yu(h0:a)(h1:b)(h2:c)(h3:d)(h4:e)(h5:i):a/\b/\c/\d/\e/\i:=⟨h0,h1,h2,h3,h4,h5⟩
theorem Sq(h0:a)(h1:b)(h2:c)(h3:d)(h4:e)(h5:i)(h6:j)(h7:k)(h8:l)(h9:m)(h10:n)(h11:o):a/\b/\c/\d/\e/\i/\j/\k/\l/\m/\n/\o:=⟨h0,h1,h2,h3,h4,h5,h6,h7,h8,h9,h10,h11⟩
end
theorem bI{α:Type}{a:α}{G:Prop}(h:none=some a):G:=nomatch h
theorem nV{α:Type}{a:α}{G:Prop}(h:some a=none):G:=nomatch h
theorem rW{α:Type}{a:α}{l:List α}{G:Prop}(h:[]=a::l):G:=nomatch h
theorem qX{α:Type}{a:α}{l:List α}{G:Prop}(h:a::l=[]):G:=nomatch h
theorem bj{α:Type}{a b:α}(h:some a=some b):a=b:=kN h
theorem nF{a n:Nat}(h:a<=n)(hn:n<=16777216):a<=Xv:=PySem.sizeLine_eq▸aJ h hn
theorem jh{a n:Nat}(h:a<n)(hn:n<=16777216):a<=Xv:=nF (eF h) hn
theorem uL{a n i:Nat}(h0:0<a)(h:a<=n-i):i+a<=n:=JR (eF (Xw (bQ h0 h))) h
theorem aaF{G:Prop}(h:¬G->False):G:=iW h
section
universe i j
theorem an{c:Prop}{h:Decidable c}(q:¬c){A:Sort i}{a b:A}:(ite c a b)=b:=if_neg q
theorem aA{c:Prop}{h:Decidable c}(q:c){A:Sort i}{a b:A}:(ite c a b)=a:=if_pos q
theorem aI{A:Sort i}{B:Sort j}{a b:A}(f:A->B)(h:a=b):f a=f b:=congrArg f h
end
section
universe i
variable {A:Sort i}{p q r s t u v:A->Prop}{G:Prop}
theorem aC(h:∃a,p a/\q a)(f:∀a,p a->q a->G):G:=aP h λa h=>aN h (f a)
theorem br(h:∃a,p a/\q a/\r a)(f:∀a,p a->q a->r a->G):G:=aP h λa h=>eO h (f a)
theorem mh(h:∃a,p a/\q a/\r a/\s a)(f:∀a,p a->q a->r a->s a->G):G:=aP h λa h=>jO h (f a)
theorem Xn(h:∃a,p a/\q a/\r a/\s a/\t a)(f:∀a,p a->q a->r a->s a->t a->G):G:=aP h λa h=>gj h (f a)
variable (a:A)(h0:p a)(h1:q a)(h2:r a)(h3:s a)(h4:t a)(h5:u a)(h6:v a)
include h0 h1
theorem aw:∃a,p a/\q a:=⟨a,h0,h1⟩
include h2
theorem bh:∃a,p a/\q a/\r a:=⟨a,h0,h1,h2⟩
include h3
theorem jE:∃a,p a/\q a/\r a/\s a:=⟨a,h0,h1,h2,h3⟩
include h4
theorem xU:∃a,p a/\q a/\r a/\s a/\t a:=⟨a,h0,h1,h2,h3,h4⟩
include h5
theorem zF:∃a,p a/\q a/\r a/\s a/\t a/\u a:=⟨a,h0,h1,h2,h3,h4,h5⟩
include h6
theorem rt:∃a,p a/\q a/\r a/\s a/\t a/\u a/\v a:=⟨a,h0,h1,h2,h3,h4,h5,h6⟩
end
section
universe i j
variable {A:Sort i}{B:Sort j}{p q r s t u v w:A->B->Prop}{G:Prop}
theorem gE(h:∃a b,p a b/\q a b)(f:∀a b,p a b->q a b->G):G:=dV h λa b h=>aN h (f a b)
theorem bM(h:∃a b,p a b/\q a b/\r a b)(f:∀a b,p a b->q a b->r a b->G):G:=dV h λa b h=>eO h (f a b)
theorem lH(h:∃a b,p a b/\q a b/\r a b/\s a b)(f:∀a b,p a b->q a b->r a b->s a b->G):G:=dV h λa b h=>jO h (f a b)
theorem zt(h:∃a b,p a b/\q a b/\r a b/\s a b/\t a b)(f:∀a b,p a b->q a b->r a b->s a b->t a b->G):G:=dV h λa b h=>gj h (f a b)
theorem Db(h:∃a b,p a b/\q a b/\r a b/\s a b/\t a b/\u a b)(f:∀a b,p a b->q a b->r a b->s a b->t a b->u a b->G):G:=dV h λa b h=>mx h (f a b)
theorem S4(h:∃a b,p a b/\q a b/\r a b/\s a b/\t a b/\u a b/\v a b/\w a b)(f:∀a b,p a b->q a b->r a b->s a b->t a b->u a b->v a b->w a b->G):G:=dV h λa b h=>y7 h (f a b)
variable (a:A)(b:B)(h0:p a b)(h1:q a b)(h2:r a b)(h3:s a b)(h4:t a b)(h5:u a b)(h6:v a b)(h7:w a b)
include h0
theorem jW:∃a b,p a b:=⟨a,b,h0⟩
include h1
theorem cM:∃a b,p a b/\q a b:=⟨a,b,h0,h1⟩
include h2
theorem eV:∃a b,p a b/\q a b/\r a b:=⟨a,b,h0,h1,h2⟩
include h3
theorem fi:∃a b,p a b/\q a b/\r a b/\s a b:=⟨a,b,h0,h1,h2,h3⟩
include h4
theorem Fv:∃a b,p a b/\q a b/\r a b/\s a b/\t a b:=⟨a,b,h0,h1,h2,h3,h4⟩
include h5
theorem En:∃a b,p a b/\q a b/\r a b/\s a b/\t a b/\u a b:=⟨a,b,h0,h1,h2,h3,h4,h5⟩
include h6 h7
theorem Wr:∃a b,p a b/\q a b/\r a b/\s a b/\t a b/\u a b/\v a b/\w a b:=⟨a,b,h0,h1,h2,h3,h4,h5,h6,h7⟩
end
section
universe i j k
variable {A:Sort i}{B:Sort j}{C:Sort k}{p q r s t u:A->B->C->Prop}{G:Prop}
theorem dU(h:∃a b c,p a b c/\q a b c)(f:∀a b c,p a b c->q a b c->G):G:=jX h λa b c h=>aN h (f a b c)
theorem io(h:∃a b c,p a b c/\q a b c/\r a b c)(f:∀a b c,p a b c->q a b c->r a b c->G):G:=jX h λa b c h=>eO h (f a b c)
theorem i9(h:∃a b c,p a b c/\q a b c/\r a b c/\s a b c)(f:∀a b c,p a b c->q a b c->r a b c->s a b c->G):G:=jX h λa b c h=>jO h (f a b c)
theorem gN(h:∃a b c,p a b c/\q a b c/\r a b c/\s a b c/\t a b c)(f:∀a b c,p a b c->q a b c->r a b c->s a b c->t a b c->G):G:=jX h λa b c h=>gj h (f a b c)
theorem eu(h:∃a b c,p a b c/\q a b c/\r a b c/\s a b c/\t a b c/\u a b c)(f:∀a b c,p a b c->q a b c->r a b c->s a b c->t a b c->u a b c->G):G:=jX h λa b c h=>mx h (f a b c)
variable (a:A)(b:B)(c:C)(h0:p a b c)(h1:q a b c)(h2:r a b c)(h3:s a b c)(h4:t a b c)(h5:u a b c)
include h0
theorem He:∃a b c,p a b c:=⟨a,b,c,h0⟩
include h1
theorem ir:∃a b c,p a b c/\q a b c:=⟨a,b,c,h0,h1⟩
include h2
theorem ly:∃a b c,p a b c/\q a b c/\r a b c:=⟨a,b,c,h0,h1,h2⟩
include h3
theorem k6:∃a b c,p a b c/\q a b c/\r a b c/\s a b c:=⟨a,b,c,h0,h1,h2,h3⟩
include h4
theorem mz:∃a b c,p a b c/\q a b c/\r a b c/\s a b c/\t a b c:=⟨a,b,c,h0,h1,h2,h3,h4⟩
include h5
theorem xD:∃a b c,p a b c/\q a b c/\r a b c/\s a b c/\t a b c/\u a b c:=⟨a,b,c,h0,h1,h2,h3,h4,h5⟩
end
section
universe i j k l
variable {A:Sort i}{B:Sort j}{C:Sort k}{D:Sort l}{p q r s t u v w:A->B->C->D->Prop}{G:Prop}
theorem Hh(h:∃a b c d,p a b c d/\q a b c d)(f:∀a b c d,p a b c d->q a b c d->G):G:=lx h λa b c d h=>aN h (f a b c d)
theorem TX(h:∃a b c d,p a b c d/\q a b c d/\r a b c d)(f:∀a b c d,p a b c d->q a b c d->r a b c d->G):G:=lx h λa b c d h=>eO h (f a b c d)
theorem Dv(h:∃a b c d,p a b c d/\q a b c d/\r a b c d/\s a b c d)(f:∀a b c d,p a b c d->q a b c d->r a b c d->s a b c d->G):G:=lx h λa b c d h=>jO h (f a b c d)
theorem mj(h:∃a b c d,p a b c d/\q a b c d/\r a b c d/\s a b c d/\t a b c d)(f:∀a b c d,p a b c d->q a b c d->r a b c d->s a b c d->t a b c d->G):G:=lx h λa b c d h=>gj h (f a b c d)
theorem oX(h:∃a b c d,p a b c d/\q a b c d/\r a b c d/\s a b c d/\t a b c d/\u a b c d)(f:∀a b c d,p a b c d->q a b c d->r a b c d->s a b c d->t a b c d->u a b c d->G):G:=lx h λa b c d h=>mx h (f a b c d)
theorem Oh(h:∃a b c d,p a b c d/\q a b c d/\r a b c d/\s a b c d/\t a b c d/\u a b c d/\v a b c d)(f:∀a b c d,p a b c d->q a b c d->r a b c d->s a b c d->t a b c d->u a b c d->v a b c d->G):G:=lx h λa b c d h=>Du h (f a b c d)
theorem rQ(h:∃a b c d,p a b c d/\q a b c d/\r a b c d/\s a b c d/\t a b c d/\u a b c d/\v a b c d/\w a b c d)(f:∀a b c d,p a b c d->q a b c d->r a b c d->s a b c d->t a b c d->u a b c d->v a b c d->w a b c d->G):G:=lx h λa b c d h=>y7 h (f a b c d)
variable (a:A)(b:B)(c:C)(d:D)(h0:p a b c d)(h1:q a b c d)(h2:r a b c d)(h3:s a b c d)(h4:t a b c d)(h5:u a b c d)(h6:v a b c d)(h7:w a b c d)
include h0
theorem TQ:∃a b c d,p a b c d:=⟨a,b,c,d,h0⟩
include h1
theorem F4:∃a b c d,p a b c d/\q a b c d:=⟨a,b,c,d,h0,h1⟩
include h2
theorem RY:∃a b c d,p a b c d/\q a b c d/\r a b c d:=⟨a,b,c,d,h0,h1,h2⟩
include h3
theorem tI:∃a b c d,p a b c d/\q a b c d/\r a b c d/\s a b c d:=⟨a,b,c,d,h0,h1,h2,h3⟩
include h4
theorem xm:∃a b c d,p a b c d/\q a b c d/\r a b c d/\s a b c d/\t a b c d:=⟨a,b,c,d,h0,h1,h2,h3,h4⟩
include h5
theorem PM:∃a b c d,p a b c d/\q a b c d/\r a b c d/\s a b c d/\t a b c d/\u a b c d:=⟨a,b,c,d,h0,h1,h2,h3,h4,h5⟩
include h6
theorem QN:∃a b c d,p a b c d/\q a b c d/\r a b c d/\s a b c d/\t a b c d/\u a b c d/\v a b c d:=⟨a,b,c,d,h0,h1,h2,h3,h4,h5,h6⟩
include h7
theorem E8:∃a b c d,p a b c d/\q a b c d/\r a b c d/\s a b c d/\t a b c d/\u a b c d/\v a b c d/\w a b c d:=⟨a,b,c,d,h0,h1,h2,h3,h4,h5,h6,h7⟩
end
section
universe i j k l m
variable {A:Sort i}{B:Sort j}{C:Sort k}{D:Sort l}{E:Sort m}{p q r s t u:A->B->C->D->E->Prop}{G:Prop}
theorem VG(h:∃a b c d e,p a b c d e/\q a b c d e/\r a b c d e/\s a b c d e)(f:∀a b c d e,p a b c d e->q a b c d e->r a b c d e->s a b c d e->G):G:=sf h λa b c d e h=>jO h (f a b c d e)
theorem UA(h:∃a b c d e,p a b c d e/\q a b c d e/\r a b c d e/\s a b c d e/\t a b c d e)(f:∀a b c d e,p a b c d e->q a b c d e->r a b c d e->s a b c d e->t a b c d e->G):G:=sf h λa b c d e h=>gj h (f a b c d e)
theorem DB(h:∃a b c d e,p a b c d e/\q a b c d e/\r a b c d e/\s a b c d e/\t a b c d e/\u a b c d e)(f:∀a b c d e,p a b c d e->q a b c d e->r a b c d e->s a b c d e->t a b c d e->u a b c d e->G):G:=sf h λa b c d e h=>mx h (f a b c d e)
variable (a:A)(b:B)(c:C)(d:D)(e:E)(h0:p a b c d e)(h1:q a b c d e)(h2:r a b c d e)(h3:s a b c d e)(h4:t a b c d e)
include h0
theorem Vc:∃a b c d e,p a b c d e:=⟨a,b,c,d,e,h0⟩
include h1 h2 h3 h4
theorem OC:∃a b c d e,p a b c d e/\q a b c d e/\r a b c d e/\s a b c d e/\t a b c d e:=⟨a,b,c,d,e,h0,h1,h2,h3,h4⟩
end
section
universe i j k l m n
variable {A:Sort i}{B:Sort j}{C:Sort k}{D:Sort l}{E:Sort m}{H:Sort n}{p q r s t u v w x y z P Q:A->B->C->D->E->H->Prop}{G:Prop}
theorem PA(h:∃a b c d e g,p a b c d e g/\q a b c d e g/\r a b c d e g/\s a b c d e g/\t a b c d e g/\u a b c d e g)(f:∀a b c d e g,p a b c d e g->q a b c d e g->r a b c d e g->s a b c d e g->t a b c d e g->u a b c d e g->G):G:=IN h λa b c d e g h=>mx h (f a b c d e g)
variable (a:A)(b:B)(c:C)(d:D)(e:E)(g:H)(h0:p a b c d e g)(h1:q a b c d e g)(h2:r a b c d e g)(h3:s a b c d e g)(h4:t a b c d e g)(h5:u a b c d e g)(h6:v a b c d e g)(h7:w a b c d e g)(h8:x a b c d e g)(h9:y a b c d e g)(h10:z a b c d e g)(h11:P a b c d e g)(h12:Q a b c d e g)
include h0 h1 h2 h3 h4 h5
theorem xN:∃a b c d e g,p a b c d e g/\q a b c d e g/\r a b c d e g/\s a b c d e g/\t a b c d e g/\u a b c d e g:=⟨a,b,c,d,e,g,h0,h1,h2,h3,h4,h5⟩
include h6 h7 h8 h9 h10 h11 h12
theorem Wt:∃a b c d e g,p a b c d e g/\q a b c d e g/\r a b c d e g/\s a b c d e g/\t a b c d e g/\u a b c d e g/\v a b c d e g/\w a b c d e g/\x a b c d e g/\y a b c d e g/\z a b c d e g/\P a b c d e g/\Q a b c d e g:=⟨a,b,c,d,e,g,h0,h1,h2,h3,h4,h5,h6,h7,h8,h9,h10,h11,h12⟩
end
section
universe i j k l m n o p q
variable {A:Sort i}{B:Sort j}{C:Sort k}{D:Sort l}{E:Sort m}{H:Sort n}{I:Sort o}{J:Sort p}{K:Sort q}{p q r s t u v w x y:A->B->C->D->E->H->I->J->K->Prop}{G:Prop}
theorem QX(h:∃a b c d e g i j k,p a b c d e g i j k/\q a b c d e g i j k/\r a b c d e g i j k/\s a b c d e g i j k/\t a b c d e g i j k/\u a b c d e g i j k/\v a b c d e g i j k/\w a b c d e g i j k/\x a b c d e g i j k/\y a b c d e g i j k)(f:∀a b c d e g i j k,p a b c d e g i j k->q a b c d e g i j k->r a b c d e g i j k->s a b c d e g i j k->t a b c d e g i j k->u a b c d e g i j k->v a b c d e g i j k->w a b c d e g i j k->x a b c d e g i j k->y a b c d e g i j k->G):G:=E9 h λa b c d e g i j k h=>Ac h (f a b c d e g i j k)
variable (a:A)(b:B)(c:C)(d:D)(e:E)(g:H)(i:I)(j:J)(k:K)(h0:p a b c d e g i j k)(h1:q a b c d e g i j k)(h2:r a b c d e g i j k)(h3:s a b c d e g i j k)(h4:t a b c d e g i j k)(h5:u a b c d e g i j k)(h6:v a b c d e g i j k)(h7:w a b c d e g i j k)(h8:x a b c d e g i j k)(h9:y a b c d e g i j k)
include h0 h1 h2 h3 h4 h5 h6 h7 h8 h9
theorem I8:∃a b c d e g i j k,p a b c d e g i j k/\q a b c d e g i j k/\r a b c d e g i j k/\s a b c d e g i j k/\t a b c d e g i j k/\u a b c d e g i j k/\v a b c d e g i j k/\w a b c d e g i j k/\x a b c d e g i j k/\y a b c d e g i j k:=⟨a,b,c,d,e,g,i,j,k,h0,h1,h2,h3,h4,h5,h6,h7,h8,h9⟩
end
end
local macro_rules | `(tactic| walk_at "le")=>`(tactic| first | with_reducible assumption | with_reducible exact eF (by assumption) | with_reducible apply fx | with_reducible exact cN (by assumption) | with_reducible exact aJ (lI _ _) (by assumption) | with_reducible exact aJ (lI _ _) (eF (by assumption)) | with_reducible exact aJ (lI _ _) (cN (by assumption)) | exact bk _)
local macro_rules | `(tactic| omega)=>`(tactic| first | ((with_reducible refine' nF ?h1 ?h2);(case h1=>repeat' walk_at "le");(case h2=>decide)) | ((with_reducible refine' bL ?h1 ?h2);(case h1=>repeat' walk_at "le");(case h2=>decide)) | ((with_reducible refine' aJ ?h1 ?h2);(case h1=>repeat' walk_at "le");(case h2=>decide)) | lia | omega +splitDisjunctions)
local macro_rules | `(tactic| walk_at "tk")=>`(tactic| first | exact bk _ | exact fe _ | assumption | omega | (dsimp only;omega))
open Lean in
local macro_rules
 | `(tactic| rw[$rs,*])=>do
  let mut ts:Array (TSyntax `tactic):=#[]
  for r in rs.getElems do
   let t:TSyntax `term:=⟨r.raw[1]⟩
   let back:=r.raw[0].getNumArgs>0
   let t1 <-if back then `(Aj (bR $t) ?_) else `(Aj $t ?_)
   let t2 <-if back then `(Aj (bR ($t ..)) ?_) else `(Aj ($t ..) ?_)
   ts:=ts.push (<-`(tactic| first | with_reducible_and_instances refine $t1 | with_reducible_and_instances refine $t2 | rewrite[$r]))
  ts:=ts.push (<-`(tactic| try (with_reducible rfl)))
  `(tactic| ($[$ts:tactic];*))
section
open PySem
noncomputable def oY(m i:Nat):Nat:=(i*5+1)%(m+1)
noncomputable def kK(m:Nat):Nat->Nat->Nat
 | 0,i=>i
 | k+1,i=>kK m k (oY m i)
theorem ul(m:Nat):∀(a b i:Nat),kK m (a+b) i=kK m b (kK m a i)
 | 0,b,i=>by rw[jY];rfl
 | a+1,b,i=>by rw[gu];exact ul m a b (oY m i)
noncomputable def xc(m:Nat):Nat->Nat->List Nat
 | 0,_=>[]
 | k+1,i=>i::xc m k (oY m i)
theorem xC(m:Nat):∀(n i j:Nat),j∈xc m n i->∃k,k<n/\kK m k i=j
 | n+1,i,j,h=>by
  rcases cB.mp h with rfl | h
  .exact(aw 0 (sw n) rfl)
  .refine aC (xC m n _ _ h) λk hk e=>?_
   exact(aw (k+1) (Nat.succ_lt_succ hk) e)
noncomputable def f9(m:Nat):Bool:=(dQ (m+1)).all (λj=>(xc m (m+1) 0).contains j)&&fR (kK m (m+1) 0) 0
theorem NH{m:Nat}(h:f9 m=true){i j:Nat}(hi:i<=m)(hj:j<=m):∃k,k<=m/\kK m k i=j:=by
 unfold f9 at h
 refine aN (ff.mp h) λh1 h2=>?_
 rewrite[fE] at h1
 refine aC (xC m _ _ _ (jZ.mp (h1 i (lJ.mpr (pX hi))))) λa ha ea=>?_
 refine aC (xC m _ _ _ (jZ.mp (h1 j (lJ.mpr (pX hj))))) λb hb eb=>?_
 by_cases q:a<=b
 .refine(aw (b-a) (aJ (lI _ _) (jj hb)) ?_)
  rw[<-ea,<-ul,iY q];exact eb
 .have z:=iY (eF ha)
  refine(aw (m+1-a+b) (jj (JS (Xx (JT.mp q) _) ((pY _ _).trans z))) ?_)
  rw[<-ea,<-ul,<-lK,z,ul,(JU h2)];exact eb
noncomputable def tries(m:Nat):Nat->Nat->Nat->Nat
 | 0,i,_=>i
 | k+1,i,p=>tries m k ((lL m i p).1) ((lL m i p).2)
theorem HP(m i p:Nat):(lL m i p).1<=m:=by
 exact jj (lM _ (sw m))
theorem JH(m:Nat):∀(a b i p:Nat),p<32^a->tries m (a+b) i p=kK m b (tries m a i p)
 | 0,b,i,p,h=>by
  have hp:p=0:=by exact Nat.lt_one_iff.mp h
  subst hp
  rw[jY]
  induction b generalizing i with
  | zero=>rfl
  | succ b ih=>
   show tries m b _ _=kK m b (oY m _)
   have e1:(lL m i 0).1=oY m i:=by simp[lL,oY]
   rw[e1,(by simp[lL]:(lL m i 0).2=0),ih];rfl
 | a+1,b,i,p,h=>by
  rw[gu]
  show tries m (a+b) _ _=kK m b (tries m a _ _)
  refine JH m a b _ _ ?_
  simp only[lL]
  replace h:=(Xy ..)▸h
  exact Ak (JV (32^a) 32▸h)
theorem GV(m:Nat):∀(k i p:Nat),i<=m->tries m k i p<=m
 | 0,_,_,h=>h
 | k+1,i,p,_=>GV m k _ _ (HP m i p)
theorem Ny(m i:Nat):i<=vx m i:=by unfold vx;split <;> lia
theorem OB(m i:Nat)(h:i<=m):vx m i<=m:=by unfold vx;split <;> assumption
theorem G8{m:Nat}{owner:Array (Option Nat)}(f i p:Nat):pZ m owner (f+1) i p=match(dQ (vx m i+1-i)).find? λk=>(owner.getD (i+k) (some 0)).isNone with
 | some k=>some (i+k)
 | none=>pZ m owner f (lL m i p).1 (lL m i p).2:=rfl
theorem E4{m:Nat}{owner:Array (Option Nat)}:∀(fuel i p:Nat),pZ m owner fuel i p=none->∀k,k<fuel->(owner.getD (tries m k i p) (some 0)).isNone=false
 | fuel+1,i,p,h,k,hk=>by
  replace h:=(G8 ..)▸h
  split at h
  .exact nV h
  .rename_i hf
   cases k with
   | zero=>
    have:=JW.mp hf 0 (lJ.mpr (Xz (pX (Ny m i))))
    replace this:=(Al ..)▸this
    have:=XA.mpr this
    exact this
   | succ k=>exact E4 fuel _ _ h k (vy hk)
set_option tactic.hygienic true in
theorem Hq{m:Nat}{owner:Array (Option Nat)}:∀(fuel i p j:Nat),i<=m->pZ m owner fuel i p=some j->j<=m/\(owner.getD j (some 0)).isNone=true
 | fuel+1,i,p,j,hi,h=>by
  replace h:=(G8 ..)▸h
  split at h
  .rename_i k hf
   refine(λj0=>?_) (bj h);clear h;subst j0
   have h1:=XB hf
   have h2:=lJ.mp (XC hf)
   exact⟨aJ (jj (XD h2)) (OB m i hi),h1⟩
  .exact Hq fuel _ _ j (HP m i p) h
theorem Ot{m:Nat}(hm:f9 m=true){owner:Array (Option Nat)}{i p j₀:Nat}(hi:i<=m)(hp:p<2^64)(hj:j₀<=m)(hf:(owner.getD j₀ (some 0)).isNone=true) :
  ∃j,pZ m owner (Am m) i p=some j/\j<=m/\(owner.getD j (some 0)).isNone=true:=by
 cases h:pZ m owner (Am m) i p with
 | some j=>exact(aw j rfl (Hq _ _ _ _ hi h))
 | none=>
  exfalso
  refine aC (NH hm (GV m 13 i p hi) hj) λk hk e=>?_
  have:=E4 _ _ _ h (13+k) (by unfold Am;exact bL (eG hk 13) (bL (da (pY 13 m)) (Xx (by decide) m)))
  replace this:=hf▸e▸(JH m 13 k i p (bQ hp (by decide)))▸this
  cases this
noncomputable def owned(m:Nat)(owner:Array (Option Nat)):List Nat:=(dQ (m+1)).filterMap λj=>owner.getD j none
theorem JL{f g:Nat->Option Nat}{j₀ k:Nat}(h1:f j₀=none)(h2:g j₀=some k)(h3:∀j,j≠j₀->g j=f j):∀n,dH ((dQ n).filterMap g) ((dQ n).filterMap f++if j₀<n then[k] else[])
 | 0=>by exact List.perm_iff_count.mpr (congrFun rfl)
 | n+1=>by
  rw[XE,XF,XF]
  have ih:=JL h1 h2 h3 n
  by_cases e:j₀=n
  .subst e
   replace ih:=(an (lN _))▸ih;replace ih:=(gQ ..)▸ih
   rw[aA (dm _)]
   simp only[vz,JX,h1,h2,gQ]
   exact ih.append_right _
  .simp only[vz,JX,h3 n (λx=>e x.symm)]
   by_cases q:j₀<n
   .replace ih:=(aA q)▸ih
    rw[aA (ow q)]
    refine(ih.append_right _).trans ?_
    rw[fF,fF]
    exact(List.perm_append_comm).append_left _
   .replace ih:=(an q)▸ih;replace ih:=(gQ ..)▸ih
    rw[an λz=>(Nat.lt_or_eq_of_le (jj z)).elim q e,gQ]
    exact ih.append_right _
theorem RJ{m:Nat}{owner:Array (Option Nat)}{j k:Nat}(hs:owner.size=m+1)(hj:j<=m)(hf:(owner.getD j (some 0)).isNone=true) :
  dH (owned m (owner.setIfInBounds j (some k))) (owned m owner++[k]):=by
 have hlt:j<owner.size:=hs▸pX hj
 have h:=JL (f:=λj=>owner.getD j none) (g:=λi=>(owner.setIfInBounds j (some k)).getD i none) (j₀:=j) (k:=k)
  (by
   rw[sx] at hf |-
   rw[vC hlt] at hf |-
   exact An.mp hf)
  (by rw[sx,Array.getElem?_setIfInBounds_self_of_lt hlt];rfl)
  (λi hi=>by rw[sx,vG (cV hi),sx]) (m+1)
 replace h:=(aA (pX hj))▸h
 exact h
theorem JJ{f:Nat->Option Nat}:∀l:List Nat,(∀j∈l,(f j).isSome=true)->(l.filterMap f).length=l.length
 | [],_=>rfl
 | x::l,h=>by
  refine aP (mL.mp (h x (.head _))) λy hy=>?_
  rw[vz,hy]
  simp only[b_]
  rw[JJ l λj hj=>h j (.tail _ hj)]
theorem Q7{m:Nat}{owner:Array (Option Nat)}(hs:owner.size=m+1)(hl:(owned m owner).length<=m):∃j,j<=m/\(owner.getD j (some 0)).isNone=true:=by
 apply iW
 intro hno
 have:(owned m owner).length=(dQ (m+1)).length:=JJ _ λj hj=>by
  have hj':=lJ.mp hj
  cases q:(owner.getD j (some 0)).isNone with
  | true=>exact absurd ⟨j,jj hj',q⟩ hno
  | false=>
   rw[sx] at q |-
   rw[vC (hs▸hj')] at q |-
   exact Option.isNone_eq_false_iff.mp q
 replace this:=JY▸this
 exact Nat.not_succ_le_self m (aJ (da this.symm) hl)
theorem Fj{m:Nat}(hm:f9 m=true):∀(hs:List Int) (owner:Array (Option Nat)) (k:Nat),owner.size=m+1->dH (owned m owner) (dQ k)->k+hs.length<=m->
  ∃owner',hs.foldl (λacc h=>do
    let (owner,k) <-acc
    let j <-pZ m owner (Am m) (sy h%(m+1)) (sy h)
    pure (owner.setIfInBounds j (some k),k+1)) (some (owner,k))=some (owner',k+hs.length)/\owner'.size=m+1/\dH (owned m owner') (dQ (k+hs.length))
 | [],owner,k,h1,h2,_=>(bh owner rfl h1 h2)
 | h::hs,owner,k,h1,h2,h3=>by
  replace h3:=b_▸h3
  have ek:k+(hs.length+1)=k+1+hs.length:=gu k hs.length 1
  refine aC (Q7 h1 (by rw[h2.length_eq,JY];exact aJ (dX _ _) h3)) λj₀ aam aan=>?_
  have hb:sy h<2^64:=by
   unfold sy
   have a:=JZ h (show(2^64:Int)≠0 by decide)
   exact(XG a).mpr (XH h (show(0:Int)<2^64 by decide))
  refine br (Ot hm (i:=sy h%(m+1)) (jj (lM (sy h) (sw m))) hb aam aan) λj e hj hf=>?_
  refine br (Fj hm hs (owner.setIfInBounds j (some k)) (k+1) (by rw[Array.size_setIfInBounds];exact h1)
   ((RJ h1 hj hf).trans (by rw[XE];exact h2.append_right _)) (ek▸h3)) λo' e' s' p'=>?_
  refine(bh o' ?_ s' (by rw[b_,ek];exact p'))
  rw[J0,b_,ek]
  show List.foldl _ ((some (owner,k)) >>= λx=>_) hs=_
  rw[XI,kO]
  simp only[e,XI,kO,Option.pure_def]
  exact e'
theorem Fm{m finger moves:Nat}{led plain:Bool}{hashes:Array Int}(hm:f9 m=true)(hn:hashes.size<=m) :
  ∃t order,SetTable.laid m finger moves led plain hashes=some (t,order)/\dH order.toList (dQ hashes.size)/\t.mask=m/\t.dummies = #[]/\t.place.size=hashes.size:=by
 have hrep:(J1 (m+1) (none:Option Nat)).size=m+1:=Array.size_replicate
 have h0:owned m (J1 (m+1) none)=[]:=by
  unfold owned
  rw[List.filterMap_eq_nil_iff]
  intro j hj
  rw[sx,Array.getElem?_replicate]
  split <;> rfl
 refine br (Fj hm hashes.toList (J1 (m+1) none) 0 hrep (by rw[h0];exact jk _) (by rw[eH,jY];exact hn)) λo' e s' p=>?_
 rw[jY,eH] at p e
 have hc:XJ m hashes=some o':=by
  unfold XJ
  rw[<-Array.foldl_toList]
  exact(aI (XK (·.1)) e)
 unfold SetTable.laid
 rw[hc]
 have hl:((dQ (m+1)).filterMap λj=>(o'.getD j none).map (j,·)).map (·.2)=owned m o':=by
  rw[List.map_filterMap]
  unfold owned
  congr 1
  funext j
  cases o'.getD j none <;> rfl
 refine(Fv _ _ rfl ?_ rfl rfl ?_)
 .rw[XM,hl];exact p
 .show(J2 _).size=_
  rw[J3,db]
  have:=aI gR hl
  replace this:=(db ..)▸this
  rw[this,p.length_eq,JY]
open PySem PySem.W PySem.W.X
noncomputable def bD(es:Array (Int×ag))(ep:Nat)(t:dw):ax:=⟨.type "frozenset",none,.set es ep t,#[]⟩
noncomputable def ent(w:aR)(k:af×bY):Int×ag:=(lO w k.1,.str k.1 k.2)
structure b3(w:aR)(es:Array (Int×ag))(t:dw)(L:List af):Prop where
 keys:∃ks:List (af×bY),dH (ks.map (·.1)) L/\dH es.toList (ks.map (ent w))
 fits:t.fits es.size=true
theorem b3.rq(prog:iC){w es t L}(D:b3 w es t L):ElemsOf (strKind prog w) es.toList:=by
 refine aC D.keys λks Z p=>?_
 intro e he
 refine aC (cO.mp (p.mem_iff.mp he)) λk Z j1=>?_;subst j1
 exact⟨(aw k.1 (hZ prog w k.1 k.2) rfl),rfl⟩
theorem isStrOf_self(x:af)(t:bY):sz x (.str x t)=true:=by
 unfold sz;exact beq_self_eq_true x
theorem b3.mem{w es t L}(D:b3 w es t L)(x:af):x∈L<->∃e∈es.toList,sz x e.2=true:=by
 refine aC D.keys λks pk p=>?_
 constructor
 .intro h
  refine aC (cO.mp (pk.mem_iff.mpr h)) λk hk j1=>?_;subst j1
  exact(aw (ent w k) (p.mem_iff.mpr (vH hk)) (isStrOf_self k.1 k.2))
 .intro j1;refine aC j1 λe he q=>?_;clear j1
  refine aC (cO.mp (p.mem_iff.mp he)) λk hk j1=>?_;subst j1
  refine pk.mem_iff.mp (cO.mpr (aw k hk ?_))
  exact Value.isStrOf_inj _ _ _ (isStrOf_self k.1 k.2) q
theorem b3.size{w es t L}(D:b3 w es t L):es.size=L.length:=by
 refine aC D.keys λks pk p=>?_
 rw[<-eH,p.length_eq,db,<-pk.length_eq,db]
def bS(w:aR)(h:am)(a:aj)(L:List af):Prop:=
 ∃es ep t,h.get? a=some (bD es ep t)/\b3 w es t L
section
variable {prog:iC}{w:aR}{A:bZ}{E:ag->ai->Prop}{s:ai}{a:aj}{L:List af}
theorem bS.same{h h':am}(F:bS w h a L)(e:h'.get? a=h.get? a):bS w h' a L:=by
 refine dU F λes ep t ho D=>?_;clear F
 exact(ir es ep t (e.trans ho) D)
theorem Ur{n:Nat}(h:n<1000):n<=bN:=by rw[eW];exact aJ (eF ‹_›) (by decide)
theorem JC{n:Nat}(h:n<1000):n<Ao:=bQ h (by decide)
theorem nD{es es':Array (Int×ag)}{ep:Nat}{t t':dw}{Q:Unit->ai->Prop}(ho:s.heap.get? a=some (bD es ep t))(hz:es'.size<1000)
  (h:∀h',cW a s.heap h'->h'.get? a=some (bD es' (ep+1) t')->Q () {s with heap:=h'}) :
  au (av prog w) A (J4 a es' t') Q E s:=by
 refine XN (o:=bD es ep t) ho rfl ?_ (Ur hz)
 refine h _ (j_ ..) ?_
 have:=iZ (J5 es' t') ho rfl
 exact this
theorem b3.push{es es':Array (Int×ag)}{t t':dw}{x:af}{tx:bY}(D:b3 w es t L)(hp:dH es'.toList (es.push (lO w x,.str x tx)).toList)(hf:t'.fits es'.size=true) :
  b3 w es' t' (L++[x]):=by
 refine aC D.keys λks pk p=>?_
 replace hp:=oy▸hp
 refine⟨(aw (ks++[(x,tx)]) (by rw[mO];exact pk.append_right _) (hp.trans ?_)),hf⟩
 rw[mO]
 exact p.append_right _
theorem b3.perm{es es':Array (Int×ag)}{t t':dw}(D:b3 w es t L)(hp:dH es'.toList es.toList)(hf:t'.fits es'.size=true):b3 w es' t' L:=by
 refine aC D.keys λks e p=>?_
 exact⟨(aw ks e (hp.trans p)),hf⟩
theorem b3.ya{es:Array (Int×ag)}{t:dw}{L':List af}(D:b3 w es t L)(p:dH L L'):b3 w es t L':=by
 refine aC D.keys λks pk q=>?_
 exact⟨(aw ks (pk.trans p) q),D.fits⟩
theorem bS.ya{h:am}{L':List af}(F:bS w h a L)(p:dH L L'):bS w h a L':=by
 refine dU F λes ep t ho D=>?_;clear F
 exact(ir es ep t ho (D.ya p))
theorem Rm{es:Array (Int×ag)}{t:dw}{x:af}(D:b3 w es t L)(hx:x∉L):es.toList.findIdx? (λe=>(strKind prog w).is x e.2)=none:=by
 refine sA.mpr λe he=>?_
 cases q:(strKind prog w).is x e.2 with
 | false=>rfl
 | true=>exact absurd ((D.mem x).mpr (aw e he q)) hx
theorem iT{α:Type}{M:cP}{c:Prop}[Decidable c]{x y:bf α}{Q:α->ai->Prop}(hc:¬c)(h:au M A y Q E s):au M A (if c then x else y) Q E s:=(an hc).symm▸h
theorem rB{α:Type}{M:cP}{c:Prop}[Decidable c]{x y:bf α}{Q:α->ai->Prop}(hc:c)(h:au M A x Q E s):au M A (if c then x else y) Q E s:=(aA hc).symm▸h
theorem vn{α:Type}[BEq α][LawfulBEq α](a:α):¬(a !=a)=true:=by rw[bne_self_eq_false];exact cm
theorem Eu{g:Bool}{Q:Unit->ai->Prop}(h:Q () s):au (av prog w) A (match g with | true=>rule "set.scan.the-table-gave-way" | false=>pure ()) Q E s:=by
 cases g
 .exact aE h
 .exact p0 h
theorem JO{x:af}{tx:bY}{Q:Bool->ai->Prop}(F:bS w s.heap a L)(hx:x∉L)(hn:L.length+1<1000)
  (h:∀h',cW a s.heap h'->bS w h' a (L++[x])->Q true {s with heap:=h'}) :
  au (av prog w) A (J6 a (.str x tx) (lO w x)) Q E s:=by
 refine dU F λes ep t ho D=>?_;clear F
 have hb:es.size+1<1000:=by rw[D.size];exact hn
 unfold J6 XO
 refine bT (ah (h_ (o:=bD es ep t) ho rfl D.fits ?_))
 dsimp only
 rw[byScan_of (knd:=strKind prog w) rfl (JC (oz hb)) (D.rq prog)]
 refine rB rfl ?_
 unfold setAddByScan
 refine ah (ah (p0 ?_))
 refine ah (XP (knd:=strKind prog w) (k:=x) (hZ prog w x tx) (o:=bD es ep t) ho rfl D.fits (D.rq prog) ?_)
 rw[Rm D hx]
 dsimp only
 have hp:=layNew_perm t es (lO w x) (.str x tx)
 have hf:=layNew_fits t es (lO w x) (.str x tx)
 generalize layNew t es (lO w x) (.str x tx)=z9 at hp hf |-
 obtain ⟨es1,t1,wasDummy,gave⟩:=z9
 dsimp only at hp hf |-
 have hs1:es1.size=es.size+1:=by rw[<-eH,hp.length_eq,oy,bt,eH];rfl
 refine ah (Eu ?_)
 have tail:∀t2:dw,t2.fits es1.size=true->au (av prog w) A (do
    J4 a es1 t2
    if(!wasDummy&&t2.tooFull)=true then do
      (match(Ap t2 es1 (sB es1.size)).2.2 with | true=>rule "set.scan.the-table-gave-way" | false=>pure ())
      J4 a (Ap t2 es1 (sB es1.size)).1 (Ap t2 es1 (sB es1.size)).2.1
      pure (some true)
     else pure (some true)) (λr s'=>r=some true/\Q true s') E s:=by
  intro t2 hf2
  refine ah (nD ho (hs1▸hb) λh1 hsb1 ho1=>?_)
  split
  .have hp2:=relayAll_perm t2 es1 (sB es1.size)
   have hf3:=relayAll_fits t2 es1 (sB es1.size)
   generalize Ap t2 es1 (sB es1.size)=Y at hp2 hf3 |-
   obtain ⟨es2,t3,gave2⟩:=Y
   dsimp only at hp2 hf3 |-
   refine ah (Eu ?_)
   refine ah (nD (s:={s with heap:=h1}) ho1 ((by rw[<-eH,hp2.length_eq,eH]:es2.size=es1.size).trans hs1▸hb) λh2 hsb2 ho2=>?_)
   exact aE ⟨rfl,h h2 (hsb1.trans hsb2) (ir es2 _ t3 ho2 ((D.push hp hf).perm hp2 hf3))⟩
  .exact aE ⟨rfl,h h1 hsb1 (ir es1 _ t2 ho1 (D.push hp hf2))⟩
 have fin:∀(r:Option Bool) (s':ai),(r=some true/\Q true s')->au (av prog w) A (match r with | some added=>pure added | none=>XO a (.str x tx) (lO w x) 99999) Q E s':=by
  intro r;intro s';intro j1;refine aN j1 λj2 q=>?_;clear j1;subst j2;exact aE q
 split
 .refine ah ?_
  rw[hashByValue_scannable 8 rfl]
  refine aE ?_
  refine bn (tail _ ?_) fin λZ Z x=>x
  split
  .exact hf
  .exact SetTable.fits_plain_off hf
 .refine ah (aE ?_)
  exact bn (tail _ hf) fin λZ Z x=>x
theorem Ug{x:af}{tx:bY}{Q:Bool->ai->Prop}(F:bS w s.heap a L)(hx:x∉L)(hn:L.length+1<1000)
  (h:∀h',cW a s.heap h'->bS w h' a (L++[x])->Q true {s with heap:=h',toks:=s.toks+1}) :
  au (av prog w) A (vM a (.str x tx)) Q E s:=by
 unfold vM
 refine bT (ah ((strKind prog w).pyHash (hZ prog w x tx) ?_))
 exact JO (s:={s with toks:=s.toks+1}) F hx hn h
end
open PySem PySem.W PySem.W.X
section
variable {prog:iC}{w:aR}{A:bZ}{E:ag->ai->Prop}{s:ai}{a b:aj}{L M:List af}
theorem xx{o:ax}{ty base:String}{r:Bool}{Q:Bool->ai->Prop}(ho:s.heap.get? a=some o)(hc:o.cls = .type ty)(hs:ka (.type ty) (.type base)=pure r)(h:Q r s) :
  au (av prog w) A (iD (.ref a) (.type base)) Q E s:=by
 unfold iD
 refine ah ?_
 show au _ _ (gw (.ref a)) _ _ _
 unfold gw
 refine ah (Aq ho ?_)
 refine aE ?_
 rw[hc]
 exact mP hs h
theorem DJ:ka (.type "frozenset") (.type "set")=pure false:=by rw[jl];kernel_rfl
theorem Pg:ka (.type "frozenset") (.type "frozenset")=pure true:=by rw[jl];kernel_rfl
theorem rp{Q:Bool->ai->Prop}(F:bS w s.heap a L)(h:Q true s):au (av prog w) A (mQ (.ref a)) Q E s:=by
 refine dU F λes ep t ho D=>?_;clear F
 unfold mQ
 show au _ _ (iD (.ref a) (.type "set") >>= λb=>match toBool b with | true=>pure b | false=>iD (.ref a) (.type "frozenset")) _ _ _
 refine ah (xx ho rfl DJ ?_)
 exact xx ho rfl Pg h
theorem UM{Q:ag->ai->Prop}(F:bS w s.heap a L)(h:Q (.type "frozenset") s):au (av prog w) A (XQ a) Q E s:=by
 refine dU F λes ep t ho D=>?_;clear F
 unfold XQ
 refine ah (xx ho rfl DJ ?_)
 rw[an cm]
 exact aE h
theorem nU{Q:aj->ai->Prop}(h:Q a s):au (av prog w) A (sC (.ref a)) Q E s:=by
 unfold sC
 exact aE h
theorem QU{Q:ag->ai->Prop}(h:∀led:Bool,Q (.ref s.heap.objs.size) {s with heap:=s.heap.push (bD #[] 0 (.fresh 0 0 led))}) :
  au (av prog w) A (newSet (.type "frozenset")) Q E s:=by
 unfold newSet J7
 refine ah (ah (sE (aE ?_)))
 dsimp only
 simp only[newObj]
 exact ah (J8 (aE (h _)))
theorem CJ:∀l:List (Int×ag),(dQ l.length).filterMap (λi=>l[i]?)=l
 | []=>rfl
 | x::l=>by
  rw[b_,List.range_succ_eq_map,vz,J9]
  simp only[List.getElem?_cons_zero]
  rw[(by funext i;simp:((λi=>(x::l)[i]?)∘jm)=λi=>l[i]?),CJ l]
theorem Dz{es:Array (Int×ag)}{order:Array Nat}(p:dH order.toList (dQ es.size)):dH (order.filterMap (es[·]?)).toList es.toList:=by
 rw[Array.toList_filterMap]
 refine(p.filterMap _).trans ?_
 have:(dQ es.size).filterMap (es[·]?)=es.toList:=by
  obtain ⟨l⟩:=es
  simp only[J3,List.getElem?_toArray]
  exact CJ l
 rw[this]
theorem Gw{es:Array (Int×ag)}{order:Array Nat}{t':dw}{Q:Array (Int×ag)×dw->ai->Prop}(hz:dH (order.filterMap (es[·]?)).toList es.toList)
  (h:Q (order.filterMap (es[·]?),t') s) :
  au (av prog w) A (do
   let some (t,order):=some (t',order) | unsupported "internal:set-table-without-room"
   let es':=order.filterMap (es[·]?)
   if es'.size !=es.size then unsupported "internal:set-table-lost-an-element"
   pure (es',t)) Q E s:=by
 dsimp only
 rw[(by rw[<-eH,hz.length_eq,eH]:(order.filterMap (es[·]?)).size=es.size)]
 refine iT (vn _) ?_
 exact aE h
theorem Cr{es:Array (Int×ag)}{ep:Nat}{t:dw}{wanted m:Nat}{Q:Unit->ai->Prop}(ho:s.heap.get? a=some (bD es ep t))(D:b3 w es t L)
  (hm:f9 m=true) (hw:lP wanted=m+1) (hl:m+1<=bN) (hn:L.length<=m) (hk:L.length<1000)
  (h:∀h' es' t',cW a s.heap h'->h'.get? a=some (bD es' (ep+1) t')->b3 w es' t' L->t'.mask=m->t'.dummies = #[]->Q () {s with heap:=h'}) :
  au (av prog w) A (setRelay a wanted) Q E s:=by
 unfold setRelay
 refine ah (h_ (o:=bD es ep t) ho rfl D.fits ?_)
 dsimp only
 rw[an (by rw[hw];exact i0.mpr hl)]
 refine zt (Fm (m:=m) (finger:=t.finger) (moves:=t.movedTo m) (led:=t.led) (plain:=t.plain) (hashes:=es.map (·.1)) hm (by rw[Ar,D.size];exact hn)) λt' order e p e1 e2 e3=>?_
 have hz:=Dz (es:=es) (order:=order) (by simpa using p)
 have er:t.relaid (es.map (·.1)) wanted=some (t',order):=by
  unfold SetTable.relaid
  rw[hw,XR]
  exact e
 rw[er]
 refine ah (Gw hz ?_)
 dsimp only
 have hs':(order.filterMap (es[·]?)).size=es.size:=by rw[<-eH,hz.length_eq,eH]
 refine nD ho (by rw[hs',D.size];exact hk) λh' hsb ho'=>?_
 refine h h' _ t' hsb ho' (D.perm hz ?_) e1 e2
 unfold p_ lQ
 rw[e1,e2,e3,hs',Ar,D.size]
 simpa using hn
def lp(n m:Nat):Prop:=(n*5<21/\m=7)\/(21<=n*5/\lP (n*2)=m+1)
theorem fits_of{t:dw}{n:Nat}(h1:t.place.size=n)(h2:t.dummies = #[])(h3:n<=t.mask):t.fits n=true:=by
 unfold p_ lQ
 rw[h1,h2]
 simpa using h3
theorem uH{t:dw}{n:Nat}(h:t.fits n=true):t.place.size=n/\t.fill<=t.mask:=by
 simpa[p_] using h
theorem OD{led:Bool}{n m:Nat}{Q:Unit->ai->Prop}(ho:s.heap.get? a=some (bD #[] 0 (.fresh 0 0 led)))(hc:lp n m)(hm:f9 m=true)(hl:m+1<=bN)
  (h:∀h' ep' t',cW a s.heap h'->h'.get? a=some (bD #[] ep' t')->t'.place.size=0->t'.mask=m->t'.dummies = #[]->Q () {s with heap:=h'}) :
  au (av prog w) A (As a n) Q E s:=by
 have D:b3 w #[] (.fresh 0 0 led) []:=⟨(aw [] (jk _) (jk _)),rfl⟩
 unfold As
 refine ah (h_ (o:=bD #[] 0 (.fresh 0 0 led)) ho rfl D.fits ?_)
 dsimp only
 have hr:(XT 0 0 led).roomFor n=if n*5>=21 then some (n*2) else none:=by
  unfold XU lQ XT
  simp
 rw[hr]
 rcases hc with⟨h1,rfl⟩ | ⟨h1,h2⟩
 .rw[an (JT.mpr h1)]
  refine aE ?_
  exact h s.heap 0 _ (oA ..) ho rfl rfl rfl
 .rw[aA h1]
  dsimp only
  refine Cr ho D hm h2 hl (by simp) (by exact Au rfl) λh' es' t' hsb ho' D' e1 e2=>?_
  have hz:es' = #[]:=by
   have:=D'.size
   exact Array.eq_empty_of_size_eq_zero this
  subst hz
  exact h h' _ t' hsb ho' (uH D'.fits).1 e1 e2
theorem Xt{led:Bool}{m:Nat}{each:bf Unit}{Q:Unit->ai->Prop}(ho:s.heap.get? a=some (bD #[] 0 (.fresh 0 0 led)))(F:bS w s.heap b L)(hne:a≠b)(hL:L≠[])
  (hc:lp L.length m) (hm:f9 m=true) (hl:m+1<=bN) (hn:L.length<=m) (hk:L.length<1000)
  (h:∀h' es' ep' t',cW a s.heap h'->h'.get? a=some (bD es' ep' t')->b3 w es' t' L->t'.mask=m->t'.dummies = #[]->Q () {s with heap:=h'}) :
  au (av prog w) A (Av a b each) Q E s:=by
 refine dU F λeo epo to hob D=>?_;clear F
 have hie:eo.isEmpty=false:=by
  cases q:eo.isEmpty with
  | false=>rfl
  | true=>exact absurd (by simpa using q) (by simpa using(by rw[D.size];simpa using hL:eo.size≠0))
 unfold Av
 rw[(by simpa using hne:(a==b)=false)]
 refine iT cm ?_
 refine ah (h_ (o:=bD eo epo to) hob rfl D.fits ?_)
 dsimp only
 rw[hie]
 refine iT cm ?_
 refine ah (OD ho (by rw[D.size];exact hc) hm hl λh1 ep1 t1 hsb1 ho1 e0 e1 e2=>?_)
 refine ah (h_ (s:={s with heap:=h1}) (o:=bD #[] ep1 t1) ho1 rfl (fits_of e0 e2 (cQ _)) ?_)
 dsimp only
 have hz1000:eo.size<1000:=by rw[D.size];exact hk
 have hroad:t1.road to = .slotForSlot/\m=to.mask/\to.dummies = #[]\/t1.road to = .clean:=by
  unfold SetTable.road
  rw[(by unfold lQ;rw[e0,e2];rfl:t1.fill=0),e1,an (show ¬((0:Nat)!=0)=true from cm)]
  split
  .rename_i q
   refine aN (ff.mp q) λq1 q2=>?_
   exact .inl ⟨rfl,by simpa using q1,by simpa using q2⟩
  .exact .inr rfl
 rcases hroad with⟨hr,q1,q2⟩ | hr
 .rw[hr]
  dsimp only
  refine nD (s:={s with heap:=h1}) ho1 hz1000 λh2 hsb2 ho2=>?_
  exact h h2 _ _ _ (hsb1.trans hsb2) ho2 (D.perm (jk _) D.fits) q1.symm q2
 .rw[hr]
  dsimp only
  refine zt (Fm (m:=t1.mask) (finger:=t1.finger) (moves:=t1.moves) (led:=t1.led&&to.led) (plain:=t1.plain&&to.plain) (hashes:=eo.map (·.1)) (by rw[e1];exact hm) (by rw[Ar,D.size,e1];exact hn)) λt' order e p f1 f2 f3=>?_
  have hz:=Dz (es:=eo) (order:=order) (by simpa using p)
  rw[e]
  refine ah (Gw (s:={s with heap:=h1}) hz ?_)
  dsimp only
  have hs':(order.filterMap (eo[·]?)).size=eo.size:=by rw[<-eH,hz.length_eq,eH]
  refine nD (s:={s with heap:=h1}) ho1 (by rw[hs'];exact hz1000) λh2 hsb2 ho2=>?_
  refine h h2 _ _ _ (hsb1.trans hsb2) ho2 (D.perm hz (fits_of ?_ f2 ?_)) (f1.trans e1) f2
  .rw[f3,hs',Ar]
  .rw[hs',D.size,f1,e1];exact hn
theorem E2{m:Nat}{Q:ag->ai->Prop}(F:bS w s.heap b L)(hL:L≠[])(hc:lp L.length m)(hm:f9 m=true)(hl:m+1<=bN)(hn:L.length<=m)(hk:L.length<1000)
  (h:∀h' es' ep' t' o,cW s.heap.objs.size (s.heap.push o) h'->o.isFreed=false->h'.get? s.heap.objs.size=some (bD es' ep' t')->b3 w es' t' L->t'.mask=m->t'.dummies = #[]->Q (.ref s.heap.objs.size) {s with heap:=h'}) :
  au (av prog w) A (J' b) Q E s:=by
 unfold J'
 refine ah (UM F (ah (QU λled=>?_)))
 refine ah (nU ?_)
 have hlt:b<s.heap.objs.size:=by refine dU F λZ Z Z ho Z=>?_;clear F;exact dR ho
 have F':bS w (s.heap.push (bD #[] 0 (.fresh 0 0 led))) b L:=by
  refine dU F λes ep t ho D=>?_;clear F
  exact(ir es ep t (dy _ ho) D)
 refine ah (Xt (s:={s with heap:=s.heap.push (bD #[] 0 (.fresh 0 0 led))}) (cH _ rfl) F' (lR hlt) hL hc hm hl hn hk λh' es' ep' t' hsb ho' D' e1 e2=>?_)
 exact aE (h h' es' ep' t' _ hsb rfl ho' D' e1 e2)
theorem ite_no{c:Prop}[Decidable c]{P Q:Prop}(hc:¬c)(h:Q):if c then P else Q:=by rw[an hc];exact h
theorem ite_yes{c:Prop}[Decidable c]{P Q:Prop}(hc:c)(h:P):if c then P else Q:=by rw[aA hc];exact h
theorem xR{α:Type}:∀(l:List α) (i:Nat) (h:i<l.length),dH ([l[i]]++l.eraseIdx i) l
 | x::l,0,_=>jk _
 | x::l,i+1,h=>by
  rw[List.eraseIdx_cons_succ]
  show dH (l[i]'(by exact XV.mp h)::x::l.eraseIdx i) _
  refine(XW _ _ _).trans (List.Perm.cons _ ?_)
  exact xR l i (by exact XV.mp h)
theorem Ir{α:Type}(next:Nat->Nat):∀(fuel k:Nat) (left:List α) (out:Array α),left.length<=fuel->dH (pickOrder.go next fuel k left out).toList (out.toList++left)
 | 0,k,left,out,h=>by
  have:left=[]:=sF.mp (Nat.le_zero.mp h)
  subst this
  rw[gQ];exact jk _
 | fuel+1,k,left,out,h=>by
  cases left with
  | nil=>rw[gQ];exact jk _
  | cons x l=>
   show dH (match(x::l)[next k%(x::l).length]? with
    | some y=>pickOrder.go next fuel (k+1) ((x::l).eraseIdx (next k%(x::l).length)) (out.push y)
    | none=>out).toList _
   have hi:next k%(x::l).length<(x::l).length:=lM _ (by exact Nat.zero_lt_succ l.length)
   rw[qa hi]
   dsimp only
   refine(Ir next fuel (k+1) _ _ (by rw[XX hi];exact Nat.sub_le_of_le_add h)).trans ?_
   rw[oy,fF]
   refine List.Perm.append_left _ ?_
   exact xR _ _ hi
theorem UN{α:Type}(next:Nat->Nat)(xs:Array α):dH (pickOrder next xs).toList xs.toList:=by
 have:=Ir next xs.size 0 xs.toList #[] (by exact bk xs.toList.length)
 simpa[pickOrder] using this
theorem Si{es:Array (Int×ag)}{ep:Nat}{t:dw}{Q:Array (Int×ag)->ai->Prop}(ho:s.heap.get? b=some (bD es ep t))(D:b3 w es t M)
  (hq:w.params.followText "set-order" = true\/(t.led&&t.plain)=true\/es.size<=1) (h:∀es',dH es'.toList es.toList->Q es' s) :
  au (av prog w) A (setWalk b) Q E s:=by
 unfold setWalk J7
 refine ah (h_ (o:=bD es ep t) ho rfl D.fits ?_)
 dsimp only
 refine ah (ah (sE (aE ?_)))
 dsimp only
 cases hb:w.params.followText "set-order" with
 | true=>
  refine vN (ite_yes hb ?_)
  exact ah (sE (aE (h _ (UN _ _))))
 | false=>
  refine vN (ite_no (by rw[show(av prog w).w.params.followText "set-order" = false from hb];exact cm) ?_)
  replace hq:=hb▸hq
  have hq:(t.led&&t.plain)=true\/es.size<=1:=hq.resolve_left cm
  refine vN (ite_no (show ¬((!t.plain&&decide (es.size>1))=true) from ?_) ?_)
  .rcases hq with hq | hq
   .refine aN (ff.mp hq) λZ q=>?_
    rw[q];exact ne_true_of_eq_false rfl
   .rw[decide_eq_false (i0.mpr hq),sG];exact cm
  .refine ah ?_
   show au _ _ (if(!t.led&&decide (es.size>1))=true then unsupported "set:maker-not-led" else pure ()) _ _ _
   rw[an]
   .exact aE (aE (h es (jk _)))
   .rcases hq with hq | hq
    .refine aN (ff.mp hq) λq Z=>?_
     rw[q];exact ne_true_of_eq_false rfl
    .rw[decide_eq_false (i0.mpr hq),sG];exact cm
theorem IG{β:Type}(f:Int×ag->β->bf (ForInStep β))(st:β):∀l:List (Int×ag),(∀e,e∈l->f e st=pure (.yield st))->forIn l st f=(pure st:bf β)
 | [],_=>by rw[sH]
 | e::l,h=>by
  rw[i3,h e (.head _)]
  show J_ (Ka _) _=_
  simp only[J_]
  exact IG f st l λx hx=>h x (.tail _ hx)
theorem b3.strs{es:Array (Int×ag)}{t:dw}(D:b3 w es t L):∀e∈es.toList,∃x tx,e.2 = .str x tx:=by
 refine aC D.keys λks Z p=>?_
 intro e he
 refine aC (cO.mp (p.mem_iff.mp he)) λk Z j1=>?_;subst j1
 exact(jW _ _ rfl)
theorem IZ{β:Type}{f:Int×ag->β->bf (ForInStep β)}{st:β}{es:Array (Int×ag)}{Q:β->ai->Prop}(hf:∀e,e∈es.toList->f e st=pure (.yield st))(h:Q st s) :
  au (av prog w) A (forIn es st f) Q E s:=by
 rw[<-Kb,IG f st es.toList hf]
 exact aE h
theorem VF{es es2:Array (Int×ag)}{ep ep2:Nat}{t t2:dw}{Q:Bool->ai->Prop}(ho:s.heap.get? b=some (bD es ep t))(D:b3 w es t M)(ho2:s.heap.get? a=some (bD es2 ep2 t2))(D2:b3 w es2 t2 L)
  (h:Q true s):au (av prog w) A (setsQuiet [b,a]) Q E s:=by
 unfold setsQuiet
 simp only[i3,sH]
 refine ah (ah (ah (sJ (o:=bD es ep t) ho rfl D.fits (ah (IZ (λe he=>?_) ?_)))))
 .refine dV (D.strs e he) λx tx q=>?_
  rw[q]
 .dsimp only
  refine aE ?_
  dsimp only
  refine ah (ah (sJ (o:=bD es2 ep2 t2) ho2 rfl D2.fits (ah (IZ (λe he=>?_) ?_))))
  .refine dV (D2.strs e he) λx tx q=>?_
   rw[q]
  .dsimp only
   refine aE ?_
   dsimp only
   exact aE (aE h)
theorem Jd{es es2:Array (Int×ag)}{ep ep2:Nat}{t t2:dw}{filled:Option aj}{Q:Array (Int×ag)->ai->Prop}(ho:s.heap.get? b=some (bD es ep t))(D:b3 w es t M)(ho2:s.heap.get? a=some (bD es2 ep2 t2))(D2:b3 w es2 t2 L)
  (hk:L.length<1000) (hfl:filled=none\/filled=some a)
  (h:∀es' h' ep' t',dH es'.toList es.toList->cW a s.heap h'->h'.get? a=some (bD es2 ep' t')->t'.mask=t2.mask->t'.place=t2.place->t'.dummies=t2.dummies->Q es' {s with heap:=h'}) :
  au (av prog w) A (setWalkUnseen b [a] filled) Q E s:=by
 have hsame:∀es',dH es'.toList es.toList->Q es' s:=λes' p=>h es' s.heap ep2 t2 p (oA ..) ho2 rfl rfl rfl
 unfold setWalkUnseen J7
 refine ah (h_ (o:=bD es ep t) ho rfl D.fits ?_)
 dsimp only
 refine ah (ah (sE (aE ?_)))
 dsimp only
 by_cases hc:(w.params.followText "set-order"||(t.led&&t.plain)||decide (es.size<=1))=true
 .refine vN (ite_yes hc ?_)
  refine Si ho D ?_ hsame
  rcases vR.mp hc with hc | hc
  .rcases vR.mp hc with hc | hc
   .exact .inl hc
   .exact .inr (.inl hc)
  .exact .inr (.inr (of_decide_eq_true hc))
 .refine vN (ite_no hc ?_)
  refine ah (VF ho D ho2 D2 ?_)
  refine iT cm ?_
  refine ah (p0 ?_)
  rcases hfl with rfl | rfl
  .exact aE (hsame es (jk _))
  .dsimp only
   refine ah (h_ (o:=bD es2 ep2 t2) ho2 rfl D2.fits ?_)
   dsimp only
   split
   .refine ah (nD ho2 (by rw[D2.size];exact hk) λh' hsb ho'=>?_)
    exact aE (h es h' _ _ (jk _) hsb ho' rfl rfl rfl)
   .exact aE (hsame es (jk _))
noncomputable def iN(e:Int×ag):af×bY:=match e.2 with
 | .str x t=>(x,t)
 | _=>(⟨#[]⟩,0)
theorem b3.list{es:Array (Int×ag)}{t:dw}(D:b3 w es t L){es':Array (Int×ag)}(p:dH es'.toList es.toList) :
  ∃ks:List (af×bY),dH (ks.map (·.1)) L/\es'.toList=ks.map (ent w):=by
 refine aC D.keys λks pk q=>?_
 have pq:=p.trans q
 refine(aw (es'.toList.map iN) ?_ ?_)
 .have e2:Aw iN (Aw (ent w) ks)=ks:=by
   rw[fg]
   exact Ax ks
  have:=pq.map iN
  replace this:=e2▸this
  exact(this.map _).trans pk
 .rw[fg]
  conv=>lhs;rw[<-Ax es'.toList]
  refine Kc λe he=>?_
  refine aC (cO.mp (pq.mem_iff.mp he)) λk Z j1=>?_;subst j1
  rfl
theorem Uu{eo:Array (Int×ag)}{epo:Nat}{to:dw}{each:bf Unit}(D:b3 w eo to M)(hab:a≠b)
  (heach:∀(s':ai) (Q:Unit->ai->Prop),s'.heap.get? b=some (bD eo epo to)->Q () s'->au (av prog w) A each Q E s') {f:Int×ag->PUnit->bf (ForInStep PUnit)}
  (hf:∀k:af×bY,f (ent w k) oB=(do
   let _ <-holding [.str k.1 k.2] (J6 a (.str k.1 k.2) (lO w k.1))
   each
   if(<-setState b).2.1 !=epo then unsupported "set.changed-during-merge"
   pure (.yield oB))) :
  ∀(ks:List (af×bY)) (L:List af) (s:ai) (Q:PUnit->ai->Prop),bS w s.heap a L->s.heap.get? b=some (bD eo epo to)->(∀k∈ks,k.1∉L)->(ks.map (·.1)).Nodup->L.length+ks.length<1000->
   (∀h',cW a s.heap h'->bS w h' a (L++ks.map (·.1))->Q oB {s with heap:=h'})->au (av prog w) A (forIn (ks.map (ent w)) oB f) Q E s:=by
 intro ks
 induction ks with
 | nil=>
  intro L s Q F _ _ _ _ h
  rw[Ay,sH]
  refine aE ?_
  have:=h s.heap (oA ..) (by rw[Ay,gQ];exact F)
  exact this
 | cons k ks ih=>
  intro L s Q F hb hn hd hl h
  rw[cJ,i3,hf k]
  replace hd:=cJ▸hd;rewrite[jn] at hd
  replace hl:=b_▸hl
  refine ah ?_
  refine ah (bT (JO F (hn k (.head _)) (bL (eG (jo (cQ _)) _) hl) λh1 hsb1 F1=>?_))
  have hb1:h1.get? b=some (bD eo epo to):=(hsb1.2 b (cV hab)).trans hb
  refine ah (heach _ _ hb1 ?_)
  refine ah (h_ (s:={s with heap:=h1}) (o:=bD eo epo to) hb1 rfl D.fits ?_)
  dsimp only
  refine iT (vn _) ?_
  refine aE ?_
  dsimp only
  refine ih (L++[k.1]) {s with heap:=h1} Q F1 hb1 (λk' hk'=>?_) hd.2 (by rw[bt];exact gu L.length ks.length 1▸hl) λh2 hsb2 F2=>?_
  .rw[jp,not_or]
   refine⟨hn k' (.tail _ hk'),?_⟩
   rw[eX]
   intro e
   exact hd.1 (e▸vH hk')
  .refine h h2 (hsb1.trans hsb2) ?_
   replace F2:=(fF ..)▸F2
   exact F2
set_option tactic.hygienic true in
theorem Vt{es:Array (Int×ag)}{ep:Nat}{t:dw}{n m:Nat}{Q:Unit->ai->Prop}(ho:s.heap.get? a=some (bD es ep t))(D:b3 w es t L)
  (hm:f9 m=true) (hw:lP ((L.length+n)*2)=m+1) (hl:m+1<=bN) (hn:L.length<=m) (hk:L.length<1000)
  (h:∀h' es' ep' t',cW a s.heap h'->h'.get? a=some (bD es' ep' t')->b3 w es' t' L->Q () {s with heap:=h'}) :
  au (av prog w) A (As a n) Q E s:=by
 unfold As
 refine ah (h_ (o:=bD es ep t) ho rfl D.fits ?_)
 dsimp only
 unfold XU
 split
 .rename_i wanted e
  have:wanted=(L.length+n)*2:=by
   split at e
   .refine(λj0=>?_) (bj e);clear e;subst j0;rw[(uH D.fits).1,D.size]
   .exact bI e
  subst this
  exact Cr ho D hm hw hl hn hk λh' es' t' hsb ho' D' Z Z=>h h' es' _ t' hsb ho' D'
 .exact aE (h s.heap es ep t (oA ..) ho D)
theorem Q8{es:Array (Int×ag)}{ep:Nat}{t:dw}{m:Nat}{each:bf Unit}{Q:Unit->ai->Prop}{eo:Array (Int×ag)}{epo:Nat}{to:dw}
  (ho:s.heap.get? a=some (bD es ep t)) (D:b3 w es t L) (hob:s.heap.get? b=some (bD eo epo to)) (Do:b3 w eo to M) (hab:a≠b)
  (hm:f9 m=true) (hw:lP ((L.length+M.length)*2)=m+1) (hl:m+1<=bN) (hn:L.length<=m) (hk:L.length+M.length<1000) (hL:L≠[]) (hd:∀x∈M,x∉L) (ga:M.Nodup)
  (heach:∀(s':ai) (Q:Unit->ai->Prop),s'.heap.get? b=some (bD eo epo to)->Q () s'->au (av prog w) A each Q E s')
  (h:∀h',cW a s.heap h'->bS w h' a (L++M)->Q () {s with heap:=h'}) :
  au (av prog w) A (Av a b each) Q E s:=by
 unfold Av
 rw[(by simpa using hab:(a==b)=false)]
 refine iT cm ?_
 refine ah (h_ (o:=bD eo epo to) hob rfl Do.fits ?_)
 dsimp only
 split
 .rename_i q
  have hM:M=[]:=by
   have:eo.size=0:=by simpa using q
   replace this:=Do.size▸this
   exact sF.mp this
  subst hM
  refine aE ?_
  exact h s.heap (oA ..) (ir es ep t ho (by rw[gQ];exact D))
 .refine ah (Vt (n:=eo.size) ho D hm (by rw[Do.size];exact hw) hl hn (bL (dX _ _) hk) λh1 es1 ep1 t1 hsb1 ho1 D1=>?_)
  have hob1:h1.get? b=some (bD eo epo to):=(hsb1.2 b (cV hab)).trans hob
  refine ah (h_ (s:={s with heap:=h1}) (o:=bD es1 ep1 t1) ho1 rfl D1.fits ?_)
  dsimp only
  have hroad:t1.road to = .oneByOne:=by
   unfold SetTable.road
   have:t1.fill≠0:=by
    unfold lQ
    rw[(uH D1.fits).1,D1.size]
    have:L.length≠0:=λq=>hL (sF.mp q)
    exact lR (bQ (XY this) (dX _ _))
   rw[aA (by simpa using this)]
  rw[hroad]
  dsimp only
  refine ah (Jd (s:={s with heap:=h1}) hob1 Do ho1 D1 (bL (dX _ _) hk) (.inr rfl) λes' h2 ep2 t2 p hsb2 ho2 e1 e2 e3=>?_)
  refine aC (Do.list p) λks pk e=>?_
  rw[<-Kb,e]
  refine ah (Uu Do hab heach (λk=>rfl) ks L {s with heap:=h2} _ (ir es1 ep2 t2 ho2 (D1.perm (jk _) ?_)) ((hsb2.2 b (cV hab)).trans hob1:h2.get? b=some (bD eo epo to)) (λk hk'=>hd _ (pk.mem_iff.mp (vH hk'))) (pk.nodup_iff.mpr ga) (by rw[(by rw[<-pk.length_eq,db]:ks.length=M.length)];exact hk) λh3 hsb3 F3=>?_)
  .have:=D1.fits
   unfold p_ lQ at this |-
   rw[e1,e2,e3];exact this
  .refine aE ?_
   exact h h3 ((hsb1.trans hsb2).trans hsb3) (F3.ya (pk.append_left L))
end
open PySem PySem.W PySem.W.X
section
variable {prog:iC}{w:aR}{A:bZ}{E:ag->ai->Prop}{s:ai}{a b:aj}{L M:List af}
theorem Uz(nm:String)(x y:ag):XZ nm ⟨[x,y],[]⟩=pure (x,y):=rfl
noncomputable def Ft(id:String)(l:aj)(r:ag):bf ag:=do
 let result <-J' l
 if r !=.ref l then holding [result] (X0 id (<-sC result) r)
 return result
noncomputable def ub(name:String)(f:String->aj->ag->bf ag):cn:=λargs=>do
 let (self,other) <-XZ name args
 let (l,r):=if false then(other,self) else(self,other)
 if !(<-mQ l <&&> mQ r) then rule s!"frozenset.{name}.declined";return <-ret .notImplemented
 ret (<-f s!"frozenset.{name}" (<-sC l) r)
theorem or_eq:cn.«frozenset.__or__» = ub "__or__" Ft:=rfl
theorem sub_eq:cn.«frozenset.__sub__» = ub "__sub__" X2:=rfl
theorem Ii{name:String}{f:String->aj->ag->bf ag}{Q:Fin->ai->Prop}(Fa:bS w s.heap a L)(Fb:bS w s.heap b M)
  (h:au (av prog w) A (f s!"frozenset.{name}" a (.ref b)) (λv s'=>Q (.done (.ret v)) s') E s):au (av prog w) A (ub name f ⟨[.ref a,.ref b],[]⟩) Q E s:=by
 unfold ub
 refine ah (mP (Uz name (.ref a) (.ref b)) ?_)
 refine ah ?_
 show au _ _ (mQ (.ref a) >>= λb'=>match toBool b' with | true=>mQ (.ref b) | false=>pure b') _ _ _
 refine ah (rp Fa (rp Fb ?_))
 refine iT cm ?_
 refine ah (nU ?_)
 exact ah (bn h (λv s' q=>aE q) λZ Z x=>x)
structure Made(w:aR)(s:ai)(L:List af)(s':ai):Prop where
 size:s'.heap.objs.size=s.heap.objs.size+1
 set:bS w s'.heap s.heap.objs.size L
 old:∀b o,s.heap.get? b=some o->s'.heap.get? b=some o
 gens:s'.gens=s.gens
 drawn:s'.drawn=s.drawn
 toks:s'.toks=s.toks
 os:s'.os=s.os
theorem Made.of{o:ax}{h':am}(hsb:cW s.heap.objs.size (s.heap.push o) h')(F:bS w h' s.heap.objs.size L):Made w s L {s with heap:=h'}:=
 ⟨by rw[hsb.1,mR],F,λb o' e=>(hsb.2 b (jq (dR e))).trans (dy _ e),rfl,rfl,rfl,rfl⟩
theorem W9{m m₂:Nat}{Q:Fin->ai->Prop}(Fa:bS w s.heap a L)(Fb:bS w s.heap b M)(hab:a≠b)
  (hL:L≠[]) (hc:lp L.length m) (hm:f9 m=true) (hl:m+1<=bN) (hn:L.length<=m)
  (aao:f9 m₂=true) (hw:lP ((L.length+M.length)*2)=m₂+1) (aap:m₂+1<=bN) (aaq:L.length<=m₂) (hk:L.length+M.length<1000) (hd:∀x∈M,x∉L) (ga:M.Nodup)
  (h:∀s',Made w s (L++M) s'->Q (.done (.ret (.ref s.heap.objs.size))) s'):au (av prog w) A (cn.«frozenset.__or__» ⟨[.ref a,.ref b],[]⟩) Q E s:=by
 rw[or_eq]
 refine Ii Fa Fb ?_
 unfold Ft
 refine ah (E2 Fa hL hc hm hl hn (bL (dX _ _) hk) λh1 es1 ep1 t1 o1 hsb1 hf1 ho1 D1 Z Z=>?_)
 rw[(by simpa using cV hab:(dz b !=dz a)=true)]
 refine rB rfl ?_
 refine dU Fb λeo epo to hob Do=>?_;clear Fb
 have hbn:s.heap.objs.size≠b:=lR (dR hob)
 have hob1:h1.get? b=some (bD eo epo to):=(hsb1.2 b (cV hbn)).trans (dy _ hob)
 refine ah (nU (ah (bT ?_)))
 unfold X0
 refine ah (rp (s:={s with heap:=h1}) (L:=M) (ir eo epo to hob1 Do) ?_)
 refine rB rfl ?_
 refine ah (nU ?_)
 unfold Builtin.Frozenset.merge
 refine ah (Az (s:={s with heap:=h1}) (o:=bD eo epo to) hob1 rfl Do.fits ?_)
 refine Q8 (s:={s with heap:=h1}) ho1 D1 hob1 Do hbn aao hw aap aaq hk hL hd ga (λs' Q' ho' q=>?_) λh2 hsb2 F2=>?_
 .unfold Kd
  refine ah (Az (o:=bD eo epo to) ho' rfl Do.fits ?_)
  refine iT (vn _) ?_
  exact aE q
 .exact aE (h _ (Made.of (hsb1.trans hsb2) F2))
theorem E5{α:Type}(xs:Array α)(p:Nat)(h:p<xs.size):(vW xs p).toList=xs.toList.eraseIdx p:=by
 unfold vW
 rw[AA,X3,X3,List.eraseIdx_eq_take_drop_succ]
 simp only[List.extract_eq_take_drop,qd,lT]
 congr 1
 rw[AB]
 rw[kb,eH];exact bk _
theorem zN{α:Type}(xs:Array α)(p:Nat)(h:p<xs.size):(vW xs p).size+1=xs.size:=by
 rw[<-eH,E5 xs p h,XX (by rw[eH];exact h),eH];exact Ke (bL (cQ _) h)
theorem HU{α:Type}(xs:Array α)(p:Nat)(x:α):(Kf xs p x).size=xs.size+1:=by
 unfold Kf
 rw[Array.size_append,sM,X4,X4,lT,X5,gu]
 rcases AC p xs.size with h | h
 .rw[gS h,iY h]
 .rw[ke h,AD h]
theorem Dr{t:dw}{n i:Nat}(h:t.fits n=true)(hi:i<n):(t.drop i).fits (n-1)=true/\(t.drop i).mask=t.mask/\(t.drop i).dummies.size=t.dummies.size+1:=by
 refine aN (uH h) λh1 h2=>?_
 have hlt:i<t.place.size:=h1.symm▸hi
 have e:t.drop i={t with place:=vW t.place i,dummies:=Kf t.dummies (SetTable.below t.dummies t.place[i]) t.place[i]}:=by
  unfold SetTable.drop
  rw[vC hlt]
 rw[e]
 have s1:=zN t.place i hlt
 refine⟨?_,rfl,HU _ _ _⟩
 unfold p_ lQ
 unfold lQ at h2
 simp only[HU,jr,beq_iff_eq,decide_eq_true_eq]
 refine⟨X6 (s1.trans h1),?_⟩
 rw[<-lK,gu,s1];exact h2
theorem M5{w:aR}{ks:List (af×bY)}{l:List (Int×ag)}(p:dH l (ks.map (ent w))):(l.map iN).map (ent w)=l/\dH (l.map iN) ks:=by
 refine⟨?_,?_⟩
 .rw[fg]
  conv=>rhs;rw[<-Ax l]
  refine Kc λe he=>?_
  refine aC (cO.mp (p.mem_iff.mp he)) λk Z j1=>?_;subst j1
  rfl
 .have:=p.map iN
  replace this:=fg▸this
  exact this.trans (by rw[show(iN∘ent w)=id from rfl,Ax])
theorem b3.erase{es:Array (Int×ag)}{t:dw}{x:af}{i:Nat}(D:b3 w es t L)(hi:i<es.size)(hx:sz x es[i].2=true) :
  b3 w (vW es i) (t.drop i) (L.erase x):=by
 refine aC D.keys λks pk p=>?_
 have hl:i<es.toList.length:=by rw[eH];exact hi
 have pe:dH ((es.toList[i]'hl)::es.toList.eraseIdx i) (ks.map (ent w)):=(xR es.toList i hl).trans p
 refine aN (M5 pe) λe1 e2=>?_
 replace e1:=cJ▸cJ▸e1
 replace e2:=cJ▸e2
 refine aP (Value.isStrOf_shape hx) λtx hv=>?_
 have hu:(iN (es.toList[i]'hl)).1=x:=by
  unfold iN
  rw[show(es.toList[i]'hl).2 = .str x tx from hv]
 refine⟨(aw ((es.toList.eraseIdx i).map iN) ?_ ?_),?_⟩
 .have q:=(e2.map (·.1)).trans pk
  replace q:=cJ▸q
  have q2:=q.erase x
  have q3:((iN (es.toList[i]'hl)).1::((es.toList.eraseIdx i).map iN).map (·.1)).erase x=((es.toList.eraseIdx i).map iN).map (·.1):=by
   rw[hu,List.erase_cons_head]
  replace q2:=q3▸q2
  exact q2
 .rw[E5 es i hi,(vZ e1).2]
 .have:=(Dr D.fits hi).1
  have hs:=zN es i hi
  rw[X6 hs]
  exact this
theorem T9{es:Array (Int×ag)}{ep:Nat}{t:dw}{x:af}{tx:bY}{Q:Bool->ai->Prop}(ho:s.heap.get? a=some (bD es ep t))(D:b3 w es t L)(hx:x∈L)(hk:L.length<1000)
  (h:∀h' es' ep' t',cW a s.heap h'->h'.get? a=some (bD es' ep' t')->b3 w es' t' (L.erase x)->t'.mask=t.mask->t'.dummies.size=t.dummies.size+1->Q true {s with heap:=h'}) :
  au (av prog w) A (Kg a (.str x tx) (lO w x)) Q E s:=by
 unfold Kg setFind setFindIn
 refine ah (ah (h_ (o:=bD es ep t) ho rfl D.fits ?_))
 dsimp only
 rw[byScan_of (knd:=strKind prog w) rfl (JC (by rw[D.size];exact hk)) (D.rq prog)]
 refine rB rfl ?_
 refine ah (p0 ?_)
 refine ah (XP (knd:=strKind prog w) (k:=x) (hZ prog w x tx) (o:=bD es ep t) ho rfl D.fits (D.rq prog) ?_)
 cases hr:es.toList.findIdx? (λe=>(strKind prog w).is x e.2) with
 | none=>
  refine aC ((D.mem x).mp hx) λe he q=>?_
  have:=sA.mp hr e he
  rewrite[show(strKind prog w).is x e.2=true from q] at this
  cases this
 | some j=>
  refine aC (List.findIdx?_eq_some_iff_getElem.mp hr) λhj hpj Z=>?_
  have hj':j<es.size:=by rw[<-eH];exact hj
  dsimp only
  rw[jY]
  refine aE ?_
  dsimp only
  refine ah (h_ (o:=bD es ep t) ho rfl D.fits ?_)
  dsimp only
  have hd:=Dr D.fits hj'
  refine ah (nD ho (fG (JS (dm _) ((zN es j hj').trans D.size)) hk) λh' hsb ho'=>?_)
  refine ah (wpAny_point ?_)
  exact aE (h h' _ _ _ hsb ho' (D.erase hj' (by replace hpj:=(Array.getElem_toList ..)▸hpj;exact hpj)) hd.2.1 hd.2.2)
noncomputable def without(L:List af)(M:List af):List af:=M.foldl List.erase L
theorem P8{M M':List af}(p:dH M M'):∀L:List af,without L M=without L M':=by
 induction p with
 | nil=>intro L;rfl
 | cons x _ ih=>intro L;exact ih (L.erase x)
 | swap x y l=>intro L;show without ((L.erase y).erase x) l=without ((L.erase x).erase y) l;rw[List.erase_comm]
 | trans _ _ h1 h2=>intro L;exact(h1 L).trans (h2 L)
theorem Q3{eo:Array (Int×ag)}{epo:Nat}{to:dw}{m:Nat}{id:String}(D:b3 w eo to M)(hab:a≠b){f:Int×ag->PUnit->bf (ForInStep PUnit)}
  (hf:∀k:af×bY,f (ent w k) oB=(do
   let _ <-holding [.str k.1 k.2] (Kg a (.str k.1 k.2) (lO w k.1))
   Kd id b epo
   pure (.yield oB))) :
  ∀(ks:List (af×bY)) (L:List af) (s:ai) (Q:PUnit->ai->Prop) (es:Array (Int×ag)) (ep:Nat) (t:dw),s.heap.get? a=some (bD es ep t)->b3 w es t L->t.mask=m->t.dummies.size+ks.length<=m/4->
   s.heap.get? b=some (bD eo epo to)->(∀k∈ks,k.1∈L)->(ks.map (·.1)).Nodup->L.length<1000->
   (∀h' es' ep' t',cW a s.heap h'->h'.get? a=some (bD es' ep' t')->b3 w es' t' (without L (ks.map (·.1)))->t'.mask=m->t'.dummies.size<=m/4->Q oB {s with heap:=h'})->
   au (av prog w) A (forIn (ks.map (ent w)) oB f) Q E s:=by
 intro ks
 induction ks with
 | nil=>
  intro L s Q es ep t ho F e1 e2 _ _ _ _ h
  rw[Ay,sH]
  refine aE ?_
  exact h s.heap es ep t (oA ..) ho F e1 (by exact cN e2)
 | cons k ks ih=>
  intro L s Q es ep t ho F e1 e2 hb hn hd hl h
  rw[cJ,i3,hf k]
  replace hd:=cJ▸hd;rewrite[jn] at hd
  replace e2:=b_▸e2
  refine ah ?_
  refine ah (bT (T9 ho F (hn k (.head _)) hl λh1 es1 ep1 t1 hsb1 ho1 D1 f1 f2=>?_))
  have hb1:h1.get? b=some (bD eo epo to):=(hsb1.2 b (cV hab)).trans hb
  refine ah ?_
  unfold Kd
  refine ah (Az (s:={s with heap:=h1}) (o:=bD eo epo to) hb1 rfl D.fits ?_)
  refine iT (vn _) ?_
  refine aE (aE ?_)
  dsimp only
  refine ih (L.erase k.1) {s with heap:=h1} Q es1 ep1 t1 ho1 D1 (f1.trans e1) (by rw[f2];exact gu t.dummies.size ks.length 1▸e2) hb1 (λk' hk'=>?_) hd.2 (bL List.length_erase_le hl) λh2 es2 ep2 t2 hsb2 ho2 D2 g1 g2=>?_
  .refine(List.mem_erase_of_ne λe=>?_).mpr (hn k' (.tail _ hk'))
   exact hd.1 (e▸vH hk')
  .exact h h2 es2 ep2 t2 (hsb1.trans hsb2) ho2 D2 g1 g2
theorem S3{m:Nat}{Q:Fin->ai->Prop}(Fa:bS w s.heap a L)(Fb:bS w s.heap b M)(hab:a≠b)
  (hL:L≠[]) (hc:lp L.length m) (hm:f9 m=true) (hl:m+1<=bN) (hn:L.length<=m) (hk:L.length<1000) (hd:∀x∈M,x∈L) (ga:M.Nodup) (hlen:M.length<L.length/4) (hm4:M.length<=m/4)
  (h:∀s',Made w s (without L M) s'->Q (.done (.ret (.ref s.heap.objs.size))) s'):au (av prog w) A (cn.«frozenset.__sub__» ⟨[.ref a,.ref b],[]⟩) Q E s:=by
 rw[sub_eq]
 refine Ii Fa Fb ?_
 unfold X2
 refine dU (id Fa) λea epa ta hoa Da=>?_
 refine dU (id Fb) λeo epo to hob Do=>?_
 have hbn:s.heap.objs.size≠b:=lR (dR hob)
 refine ah (rp Fb ?_)
 refine iT cm ?_
 refine ah (nU ?_)
 refine iT cm ?_
 unfold X7
 refine ah (ah (sJ (o:=bD eo epo to) hob rfl Do.fits (aE ?_)))
 refine ah (ah (sJ (o:=bD ea epa ta) hoa rfl Da.fits (aE ?_)))
 rw[aA (by rw[Da.size,Do.size];exact hlen)]
 refine ah (p0 ?_)
 refine ah (E2 Fa hL hc hm hl hn hk λh1 es1 ep1 t1 o1 hsb1 hf1 ho1 D1 f1 f2=>?_)
 have hob1:h1.get? b=some (bD eo epo to):=(hsb1.2 b (cV hbn)).trans (dy _ hob)
 refine ah (nU (ah (bT ?_)))
 unfold Builtin.Frozenset.differenceUpdate
 rw[(by simpa using cV hbn:(dz b==dz s.heap.objs.size)=false)]
 refine iT cm ?_
 refine ah (rp (s:={s with heap:=h1}) (L:=M) (ir eo epo to hob1 Do) ?_)
 refine rB rfl ?_
 refine ah (nU ?_)
 unfold X7
 refine ah (ah (sJ (s:={s with heap:=h1}) (o:=bD eo epo to) hob1 rfl Do.fits (aE ?_)))
 refine ah (ah (sJ (s:={s with heap:=h1}) (o:=bD es1 ep1 t1) ho1 rfl D1.fits (aE ?_)))
 rw[an (by rw[Do.size,D1.size];exact i0.mpr (aJ (Kh _ _) (aJ (eF hlen) (Kh _ _))))]
 refine ah (Az (s:={s with heap:=h1}) (o:=bD eo epo to) hob1 rfl Do.fits ?_)
 refine ah (bT ?_)
 refine ah (Jd (s:={s with heap:=h1}) hob1 Do ho1 D1 hk (.inl rfl) λes' h2 ep2 t2 p hsb2 ho2 e1 e2 e3=>?_)
 refine aC (Do.list p) λks pk e=>?_
 rw[<-Kb,e]
 refine ah (Q3 (m:=m) Do hbn (λk=>rfl) ks L {s with heap:=h2} _ es1 ep2 t2 ho2 (D1.perm (jk _) ?_) (e1.trans f1) (by rw[e3,f2,(by rw[<-pk.length_eq,db]:ks.length=M.length)];simpa using hm4) ((hsb2.2 b (cV hbn)).trans hob1:h2.get? b=some (bD eo epo to)) (λk hk'=>hd _ (pk.mem_iff.mp (vH hk'))) (pk.nodup_iff.mpr ga) hk
  λh3 es3 ep3 t3 hsb3 ho3 D3 g1 g2=>?_)
 .have:=D1.fits
  unfold p_ lQ at this |-
  rw[e1,e2,e3];exact this
 .refine aE ?_
  unfold setTidy
  refine ah (h_ (s:={s with heap:=h3}) (o:=bD es3 ep3 t3) ho3 rfl D3.fits ?_)
  dsimp only
  have ht:t3.tooManyDummies=false:=by
   unfold SetTable.tooManyDummies
   rw[g1]
   exact decide_eq_false (i0.mpr g2)
  rw[ht]
  refine iT cm ?_
  refine aE (aE ?_)
  refine h _ (Made.of ((hsb1.trans hsb2).trans hsb3) (ir es3 ep3 t3 ho3 ?_))
  replace D3:=(P8 pk L)▸D3
  exact D3
end
end
section
open PySem PySem.W PySem.W.X
noncomputable section
abbrev xI:=Array (Int×ag)×Nat×dw
noncomputable def FL(o:xI):ax:=bD o.1 o.2.1 o.2.2
abbrev fc:=Nat->xI×aT
noncomputable def D0(os:fc):fc:=λi=>os (jm i)
noncomputable def Co(x:xI×aT)(os:fc):fc:=λi=>AE x (λj Z=>os j) i
noncomputable def i_:fc:=λZ=>((#[],0,.fresh 0 0 true),⟨0,0,0,0⟩)
def cy(b:Bool)(P:Prop):Prop:=cond b P False
def cA{α:Type}(o:Option α)(f:α->Prop):Prop:=v_ False f o
def ou{α:Type}(o:Option α)(g:Prop)(f:α->Prop):Prop:=v_ g f o
def o7(e:End)(f:gU->Prop):Prop:=End.rec f (λZ Z Z Z Z Z Z=>False) e
theorem cy.el{b:Bool}{P:fc->Prop}(h:∀os,cy b (P os)):b=true/\∀os,P os:=by
 cases b with
 | true=>exact⟨rfl,h⟩
 | false=>exact(h i_).elim
theorem cA.el{α:Type}{o:Option α}{P:α->fc->Prop}(h:∀os,cA o λa=>P a os):∃a,o=some a/\∀os,P a os:=by
 cases o with
 | some a=>exact(aw a rfl h)
 | none=>exact(h i_).elim
theorem ou.el{α:Type}{o:Option α}{G:fc->Prop}{P:α->fc->Prop}(h:∀os,ou o (G os) λa=>P a os):(o=none/\∀os,G os)\/∃a,o=some a/\∀os,P a os:=by
 cases o with
 | some a=>exact .inr (aw a rfl h)
 | none=>exact .inl ⟨rfl,h⟩
theorem o7.el{e:End}{P:gU->fc->Prop}(h:∀os,o7 e λr=>P r os):∃r,e = .ret r/\∀os,P r os:=by
 cases e with
 | ret r=>exact(aw r rfl h)
 | susp=>exact(h i_).elim
abbrev Gh:=List (Nat×List af)
noncomputable def fO(G:Gh)(a:Nat):Option (List af):=wa none (λx Z ih=>cond (fR x.1 a) (some x.2) ih) G
noncomputable def ri(x y:af):Bool:=PySem.W.Fast.lEq x.cps.toList y.cps.toList
noncomputable def yX(x:af)(l:List af):Bool:=wa false (λy Z ih=>cond (ri x y) true ih) l
noncomputable def uF(x:af)(l:List af):List af:=wa [] (λy l ih=>cond (ri y x) l (y::ih)) l
noncomputable def rl(L M:List af):List af:=wa (λL=>L) (λx Z ih L=>ih (uF x L)) M L
theorem Gj(x y:af):ri x y=decide (x=y):=by
 refine qe.mpr ((PySem.W.Fast.lEq_iff ..).trans ?_)
 rw[decide_eq_true_iff]
 cases x;cases y
 rw[Str.mk.injEq]
 exact lU
theorem MC(x:af)(l:List af):yX x l=decide (x∈l):=by
 induction l with
 | nil=>rfl
 | cons y l ih=>
  show cond (ri x y) true (yX x l)=_
  rw[ih,Gj]
  by_cases h:x=y
  .subst h;rw[decide_eq_true rfl];exact(decide_eq_true X9).symm
  .rw[decide_eq_false h];exact decide_eq_decide.mpr ⟨.tail _,λq=>(cB.mp q).resolve_left h⟩
theorem RE(x:af)(l:List af):uF x l=l.erase x:=by
 induction l with
 | nil=>rfl
 | cons y l ih=>
  show cond (ri y x) l (y::uF x l)=_
  rw[ih,Gj,List.erase_cons,X']
  by_cases h:y=x
  .rw[aA h,aA (beq_iff_eq.mpr h)]
  .rw[an h,an λq=>h (eq_of_beq q)]
theorem Q5(M:List af):∀L,rl L M=without L M:=by
 induction M with
 | nil=>exact λZ=>rfl
 | cons x M ih=>
  intro L
  refine(ih (uF x L)).trans ?_
  rw[RE];rfl
noncomputable def lg(n:Nat):Nat:=cond (mS (n*5) 21) 7 (lP (n*2)-1)
def Jy(L M:List af):Prop:=lp L.length (lg L.length)/\f9 (lg L.length)=true/\lg L.length<1000/\L.length<=lg L.length/\0<L.length/\(∀x∈M,x∉L)/\M.Nodup/\
 f9 (lP ((L.length+M.length)*2)-1)=true/\0<lP ((L.length+M.length)*2)/\lP ((L.length+M.length)*2)<1000/\L.length<=lP ((L.length+M.length)*2)-1/\L.length+M.length<1000
def F6(L M:List af):Prop:=lp L.length (lg L.length)/\f9 (lg L.length)=true/\lg L.length<1000/\L.length<=lg L.length/\0<L.length/\(∀x∈M,x∈L)/\M.Nodup/\
 M.length<L.length/4/\M.length<=lg L.length/4/\L.length<1000
noncomputable def z7(L M:List af):Decidable (Jy L M):=by unfold Jy lp;infer_instance
noncomputable def xu(L M:List af):Decidable (F6 L M):=by unfold F6 lp;infer_instance
structure Kn where
 den:ia->bf Fin
 dW:ag->bf (Option ag)
 prog:iC
 P:az
 ok:Nat->Bool
noncomputable abbrev lc:=End->KT->Nat->Nat->List de->Gh->fc->Prop
abbrev n8:=eY->aT->bf Fin->lc->KT->Nat->Nat->List de->Gh->fc->Prop
noncomputable def pg(n:Nat):KT->Nat->KT:=AE (λZ Z=>.nil) (λZ ih t i=>KT.rec .nil (λv l r Z Z=>cond (fR i 0) (.node none l r) (cond (fR (i%2) 1) (.node v (ih l (i/2)) r) (.node v l (ih r (i/2-1))))) t) n
noncomputable def isNil{α:Type}(l:List α):Bool:=wa true (λZ Z Z=>false) l
noncomputable def Wh:mT->Bool
 | .set es _ t=>isNil es.toList&&(isNil t.place.toList&&isNil t.dummies.toList)
 | _=>false
noncomputable def rV(o:ax):Bool:=(decide (o.cls = .type "frozenset")&&o.dict.isNone)&&(isNil o.slots.toList&&Wh o.data)
noncomputable def qI(K:KT)(G:Gh)(a:Nat):Option (List af):=v_ (v_ none (λo=>cond (rV o) (some []) none) (K.get a)) some (fO G a)
noncomputable def two(c:ia):Option (String×ag×ag):=match c with
 | .builtin i ⟨[x,y],[]⟩=>some (i,x,y)
 | _=>none
noncomputable def rf(v:ag):Option Nat:=match v with
 | .ref b=>some b
 | _=>none
noncomputable def Rh(o:Option ag):bf Fin:=v_ (.pure (.done .next)) (λx=>.pure (.done (.ret x))) o
noncomputable def Dd(r:gU):Option (Option af):=match r with
 | .ok .next=>some none
 | .ok (.ret (.str x _))=>some (some x)
 | _=>none
def zq(k:Kn)(ih:n8)(c:ia)(a:Nat)(it:ag)(R:lc)(m:Nat):eY->aT->KT->Nat->Nat->List de->Gh->fc->Prop:=
 AE (λZ Z Z Z Z Z Z Z=>False) (λZ go Γ p K n tk gl G os=>ih Γ p (wb (k.dW it) Rh) (λe K n tk gl G os=>o7 e λr=>cA (Dd r) λq=>ou q (R (.ret (.ok (.ret .none))) K n tk gl G os) λx=>
  cA (qI K G a) λL=>cy (!yX x L) (cy (mS (L.length+1) 1000) (cy (k.ok a) (cy c.quiet (go (Γ.goto c) (os 0).2 (pg 30 K a) n (jm tk) gl ((a,L++[x])::G) (D0 os)))))) K n tk gl G os) m
def rP(n:Nat)(L M LM:List af)(d:Bool)(R:lc)(K:KT)(tk:Nat)(gl:List de)(G:Gh)(os:fc):Prop:=cy d (R (.ret (.ok (.ret (.ref n)))) K (jm n) tk gl ((n,LM)::G) os)
def enter(k:Kn)(ih:n8)(Γ:eY)(p:aT)(c:ia)(R:lc)(K:KT)(n tk:Nat)(gl:List de)(G:Gh)(os:fc):Prop:=
 ou (two c) (ih Γ p (k.den c) R K n tk gl G os) λz=>cond (z.1=="set.update.loop") (cA (rf z.2.1) λa=>zq k ih c a z.2.2 R 1000 Γ p K n tk gl G os)
  (cond (z.1=="frozenset.__or__") (cA (rf z.2.1) λa=>cA (rf z.2.2) λb=>cA (fO G a) λL=>cA (fO G b) λM=>cy (!Nat.beq a b) (rP n L M (L++M) (@decide _ (z7 L M)) R K tk gl G os))
  (cond (z.1=="frozenset.__sub__") (cA (rf z.2.1) λa=>cA (rf z.2.2) λb=>cA (fO G a) λL=>cA (fO G b) λM=>cy (!Nat.beq a b) (rP n L M (rl L M) (@decide _ (xu L M)) R K tk gl G os))
  (ih Γ p (k.den c) R K n tk gl G os)))
def ye(ih:n8)(k:Kn)(Γ:eY)(p:aT)(g:Nat)(k':GenResult->bf Fin)(R:lc)(Γ':eY)(p':aT)(t:bf Fin)(K:KT)(n tk:Nat)(gl:List de)(G:Gh)(os:fc):Prop:=
 ih Γ' p' t (λe K n tk gl G os=>cy e.quiet (ih Γ p (k' e.result) R K n tk (gl.set g e.genState) G os)) K n tk (gl.set g .running) G os
def Js(k:Kn)(ih:n8)(Γ:eY)(p:aT)(t:bf Fin)(R:lc)(K:KT)(n tk:Nat)(gl:List de)(G:Gh)(os:fc):Prop:=match t with
 | .pure (.done f)=>R (.ret (.ok f)) K n tk gl G os
 | .pure (.again c)=>cy c.quiet (enter k ih (Γ.goto c) p c R K n tk gl G os)
 | .raise e=>R (.ret (.error e)) K n tk gl G os
 | .rule _ k'=>ih Γ p (k' ()) R K n tk gl G os
 | .at q k'=>ih Γ q (k' ()) R K n tk gl G os
 | .point _ k'=>ih Γ p (k' ()) R K n tk gl G os
 | .ask k'=>ih Γ p (k' ⟨k.prog,k.P⟩) R K n tk gl G os
 | .load a _ k'=>ou (K.get a) (cA (fO G a) λZ=>cy (mS a 1000000) (ih Γ p (k' (FL (os 0).1)) R (K.put 20 a (FL (os 0).1)) n tk gl G (D0 os))) λo=>ih Γ p (k' o) R K n tk gl G os
 | .loadIfAlive a k'=>cA (K.get a) λo=>ih Γ p (k' (some o)) R K n tk gl G os
 | .alloc o k'=>cy (!o.isFreed) (cy (mS n 1000000) (ih Γ p (k' n) R (K.put 20 n o) (jm n) tk gl G os))
 | .update a _ g k'=>cy (k.ok a) (cA (K.get a) λo=>cy (!(g o).isFreed) (cy (mS a 1000000) (cy (fO G a).isNone (ih Γ p (k' ()) R (K.put 20 a (g o)) n tk gl G os))))
 | .fresh k'=>ih Γ p (k' tk) R K n (jm tk) gl G os
 | .handled own k'=>ih Γ p (k' (cond own Γ.own Γ.handled)) R K n tk gl G os
 | .stack k'=>ih Γ p (k' ((Γ.code,p)::Γ.below)) R K n tk gl G os
 | .thread k'=>ih Γ p (k' 0) R K n tk gl G os
 | .call c h _ _ k'=>enter k ih (Γ.enter c h p) p c (λe K n tk gl G os=>o7 e λr=>ih Γ p (k' r) R K n tk gl G os) K n tk gl G os
 | .newGen c k'=>ih Γ p (k' gl.length) R K n tk (gl++[.fresh c]) G os
 | .genState g k'=>cA gl[g]? λgs=>ih Γ p (k' gs.seen) R K n tk gl G os
 | .resume g r _ k'=>cA gl[g]? λgs=>match gs with
  | .fresh c=>match r with
   | .send .none=>ye ih k Γ p g k' R (Γ.wake c p) p (k.den c) K n tk gl G os
   | _=>False
  | .suspended kk _ c kX [] _=>ye ih k Γ p g k' R (Γ.wake c p) kX (kk r) K n tk gl G os
  | _=>False
 | .yield v g l kk=>R (.susp v g l kk Γ.code p []) K n tk gl G os
 | _=>False
def ev(k:Kn)(f:Nat):n8:=AE (λZ Z Z Z Z Z Z Z Z Z=>False) (λZ ih=>Js k ih) f
end
structure Old(ok:Nat->Bool)(s s':ai):Prop where
 old:∀b o,s.heap.get? b=some o->ok b=false->s'.heap.get? b=some o
 drawn:s'.drawn=s.drawn
 os:s'.os=s.os
structure Rep(w:aR)(aV:ai)(ok:Nat->Bool)(K:KT)(n tk:Nat)(gl:List de)(G:Gh)(s:ai):Prop where
 size:s.heap.objs.size=n
 toks:s.toks=tk
 gens:s.gens=⟨gl⟩
 kt:∀a o,K.get a=some o->s.heap.get? a=some o
 gh:∀a L,fO G a=some L->bS w s.heap a L
 kept:Old ok aV s
theorem pu{α:Type}{i j:Nat}{x y:α}:cond (fR i j) x y=if i=j then x else y:=by rw[AF,X']
theorem xV:∀{b:Nat},b≠0->b%2≠1->0<b/2
 | 0,h,_=>absurd rfl h
 | 1,_,h=>absurd rfl h
 | b+2,_,_=>Nat.div_pos (lV 2 b) (by decide)
theorem FR{b i:Nat}(hb:b≠0)(hi:i≠0)(h:b%2=i%2):(b/2=i/2<->b=i)/\(i%2≠1->(b/2-1=i/2-1<->b=i)):=by
 have e:b/2=i/2->b=i:=λe=>by rw[<-Ki b 2,e,h,Ki]
 exact⟨⟨e,λz=>z▸rfl⟩,λp=>⟨λz=>e (Nat.sub_one_cancel (xV hb (h▸p)) (xV hi p) z),λz=>z▸rfl⟩⟩
theorem zy:∀(n:Nat) (t:KT) (i:Nat) (o:ax) (b:Nat),i+1<2^n->(KT.put n t i o).get b=if b=i then some o else t.get b
 | 0,_,i,_,_,h=>absurd h (wc (jo (cQ i)))
 | n+1,t,i,o,b,h=>by
  replace h:=(Xy ..)▸h
  have e:∃v l r,(∀b,t.get b=(KT.node v l r).get b)/\KT.put (n+1) t i o=cond (fR i 0) (.node (some o) l r) (cond (fR (i%2) 1) (.node v (l.put n (i/2) o) r) (.node v l (r.put n (i/2-1) o))):=by
   cases t with
   | nil=>
    refine(ir none .nil .nil (λb=>?_) ?_)
    .rw[KT.get_node];split;· rfl
     split <;> rfl
    .conv=>lhs;unfold KT.put
     cases fR i 0 <;> cases fR (i%2) 1 <;> rfl
   | node v l r=>
    refine(ir v l r (λZ=>rfl) ?_)
    conv=>lhs;unfold KT.put
    cases fR i 0 <;> cases fR (i%2) 1 <;> rfl
  refine dU e λv l r e1 e2=>?_;clear e
  rw[e1,e2,KT.get_node,pu,pu]
  by_cases hi:i=0
  .subst hi
   rw[aA rfl,KT.get_node]
   by_cases hb:b=0
   .rw[aA hb,aA hb]
   .rw[an hb,an hb,an hb]
  .rw[an hi]
   by_cases hb:b=0
   .subst hb
    rw[aA rfl,an (cV hi)]
    split <;> rfl
   .rw[an hb]
    by_cases p:i%2=1
    .have z:=Ki i 2
     replace z:=p▸z
     have z:i/2+1<2^n:=Nat.lt_of_mul_lt_mul_left (a:=2) (by
      rw[JV 2 (2^n)]
      show 2*(i/2)+1+1<_
      rw[z];exact h)
     rw[aA p,KT.get_node,an hb,zy n _ _ _ _ z]
     by_cases q:b%2=1
     .rw[aA q,aA q]
      exact ite_congr (propext (FR hb hi (q.trans p.symm)).1) (λZ=>rfl) λZ=>rfl
     .rw[an q,an q,an λx:b=i=>q (x▸p)]
    .rw[an p,KT.get_node,an hb,zy n _ _ _ _ (by rw[Ke (xV hi p)];exact Ak (JV (2^n) 2▸oz h))]
     by_cases q:b%2=1
     .rw[aA q,aA q,an λx:b=i=>p (x▸q)]
     .rw[an q,an q]
      exact ite_congr (propext ((FR hb hi (((Kj b).resolve_right q).trans ((Kj i).resolve_right p).symm)).2 p)) (λZ=>rfl) λZ=>rfl
theorem Qq(t:KT)(i:Nat)(o:ax)(b:Nat)(h:mS i 1000000=true):(KT.put 20 t i o).get b=if b=i then some o else t.get b:=
 zy 20 t i o b (bL (blt_true h) (by decide))
theorem yp:∀(n:Nat) (t:KT) (i b:Nat) (o:ax),(pg n t i).get b=some o->b≠i/\t.get b=some o
 | 0,_,_,_,_,h=>nomatch h
 | n+1,.nil,_,_,_,h=>nomatch h
 | n+1,.node v l r,i,b,o,h=>by
  have h:(cond (fR i 0) (KT.node none l r) (cond (fR (i%2) 1) (.node v (pg n l (i/2)) r) (.node v l (pg n r (i/2-1))))).get b=some o:=h
  replace h:=pu▸pu▸h
  rw[KT.get_node]
  by_cases hb:b=0
  .rw[aA hb]
   by_cases hi:i=0
   .replace h:=(aA hi)▸h;replace h:=(KT.get_node ..)▸h;replace h:=(aA hb)▸h;exact nomatch h
   .refine⟨λx=>hi (x▸hb),?_⟩
    replace h:=(an hi)▸h
    revert h
    split <;> (intro h;replace h:=(KT.get_node ..)▸h;replace h:=(aA hb)▸h;exact h)
  .rw[an hb]
   by_cases hi:i=0
   .replace h:=(aA hi)▸h;replace h:=(KT.get_node ..)▸h;replace h:=(an hb)▸h;exact⟨λx=>hb (x▸hi),h⟩
   .replace h:=(an hi)▸h
    by_cases p:i%2=1
    .replace h:=(aA p)▸h;replace h:=(KT.get_node ..)▸h;replace h:=(an hb)▸h
     by_cases q:b%2=1
     .rw[aA q] at h |-
      have:=yp n _ _ _ _ h
      exact⟨λx=>this.1 (x▸rfl),this.2⟩
     .rw[an q] at h |-;exact⟨λx=>q (x▸p),h⟩
    .replace h:=(an p)▸h;replace h:=(KT.get_node ..)▸h;replace h:=(an hb)▸h
     by_cases q:b%2=1
     .rw[aA q] at h |-;exact⟨λx=>p (x▸q),h⟩
     .rw[an q] at h |-
      have:=yp n _ _ _ _ h
      exact⟨λx=>this.1 (x▸rfl),this.2⟩
theorem bS.keep{w:aR}{h h':am}{a:aj}{L:List af}(F:bS w h a L)(k:∀o,h.get? a=some o->h'.get? a=some o):bS w h' a L:=by
 refine dU F λes ep t ho D=>?_;clear F
 exact(ir es ep t (k _ ho) D)
theorem yl{a b:Nat}{L M:List af}{G:Gh}(h:fO ((a,L)::G) b=some M):(a=b/\L=M)\/(a≠b/\fO G b=some M):=by
 have h:cond (fR a b) (some L) (fO G b)=some M:=h
 replace h:=pu▸h
 by_cases q:a=b
 .replace h:=(aA q)▸h;exact .inl ⟨q,kN h⟩
 .replace h:=(an q)▸h;exact .inr ⟨q,h⟩
section
variable {w:aR}{aV:ai}{ok:Nat->Bool}{K:KT}{n tk:Nat}{gl:List de}{G:Gh}{s:ai}
theorem Rep.put(D:Rep w aV ok K n tk gl G s){a:aj}{o:ax}{h':am}{n':Nat}(hn:mS a 1000000=true)(hs:h'.objs.size=n')(ha:h'.get? a=some o)(hk:∀b o,b≠a->s.heap.get? b=some o->h'.get? b=some o)
  (hg:∀L,fO G a=some L->bS w h' a L) (ho:∀o,aV.heap.get? a=some o->ok a=false->h'.get? a=some o):Rep w aV ok (K.put 20 a o) n' tk gl G {s with heap:=h'}:=by
 refine⟨hs,D.toks,D.gens,λb o' e=>?_,λb L e=>?_,λb o' e q=>?_,D.kept.drawn,D.kept.os⟩
 .replace e:=(Qq _ _ _ _ hn)▸e
  by_cases h:b=a
  .replace e:=(aA h)▸e;rw[h,ha];exact e
  .replace e:=(an h)▸e;exact hk b o' h (D.kt b o' e)
 .by_cases h:b=a
  .exact h▸hg L (h▸e)
  .exact(D.gh b L e).keep λo=>hk b o h
 .by_cases h:b=a
  .exact h▸ho o' (h▸e) (h▸q)
  .exact hk b o' h (D.kept.old b o' e q)
theorem Rep.alloc(D:Rep w aV ok K n tk gl G s){o:ax}(hf:(!o.isFreed)=true)(hn:mS n 1000000=true):Rep w aV ok (K.put 20 n o) (jm n) tk gl G {s with heap:=s.heap.push o}:=by
 have k:∀b o',s.heap.get? b=some o'->(s.heap.push o).get? b=some o':=λb o' e=>dy _ e
 refine D.put hn (by rw[mR,D.size]) (by rw[<-D.size];exact cH _ (by exact bR ((λ{x y}=>oC.mp) (id (bR hf))))) (λb o' Z=>k b o') (λL e=>(D.gh _ L e).keep λo=>k _ o) λo e q=>k _ _ (D.kept.old _ o e q)
theorem Rep.update(D:Rep w aV ok K n tk gl G s){a:aj}{o:ax}{g:ax->ax}(e:K.get a=some o)(fP:ok a=true)(hf:(!(g o).isFreed)=true)(hn:mS a 1000000=true)(hg:(fO G a).isNone=true) :
  Rep w aV ok (K.put 20 a (g o)) n tk gl G {s with heap:=s.heap.update a g}:=by
 have hs:cW a s.heap (s.heap.update a g):=j_ ..
 exact D.put hn (by rw[hs.1,D.size]) (iZ _ (D.kt _ _ e) (by exact bR ((λ{x y}=>oC.mp) (id (bR hf))))) (λb o h e=>(hs.2 b h).trans e) (λL e=>by replace hg:=e▸hg;exact nomatch hg) λo Z q=>by replace q:=fP▸q;exact nomatch q
theorem Rep.setG(D:Rep w aV ok K n tk gl G s)(g:Nat)(x:de):Rep w aV ok K n tk (gl.set g x) G (s.setGen g x):=
 ⟨D.size,D.toks,by unfold Shared.setGen;rw[D.gens];exact List.setIfInBounds_toArray gl g x,D.kt,D.gh,D.kept.old,D.kept.drawn,D.kept.os⟩
theorem Rep.xE(D:Rep w aV ok K n tk gl G s){g:Nat}{x:de}(e:gl[g]?=some x):s.gens[g]?=some x:=by rw[D.gens];simpa using e
theorem Rep.grow(D:Rep w aV ok K n tk gl G s){a:aj}{L:List af}{h':am}(hsb:cW a s.heap h')(F:bS w h' a L)(fP:ok a=true) :
  Rep w aV ok (pg 30 K a) n (jm tk) gl ((a,L)::G) {s with heap:=h',toks:=s.toks+1}:=by
 refine⟨by rw[hsb.1,D.size],aI jm D.toks,D.gens,λb o e=>?_,λb M e=>?_,λb o e q=>?_,D.kept.drawn,D.kept.os⟩
 .refine aN (yp _ _ _ _ _ e) λhb e=>?_
  exact(hsb.2 b hb).trans (D.kt b o e)
 .rcases yl e with⟨q,r⟩ | ⟨q,r⟩
  .exact r▸q▸F
  .exact(D.gh b M r).same (hsb.2 b (cV q))
 .exact(hsb.2 b (λh=>by replace q:=fP▸h▸q;exact nomatch q)).trans (D.kept.old b o e q)
theorem Rep.made(D:Rep w aV ok K n tk gl G s){L:List af}{s':ai}(m:Made w s L s'):Rep w aV ok K (jm n) tk gl ((n,L)::G) s':=by
 refine⟨by rw[m.size,D.size],m.toks.trans D.toks,m.gens.trans D.gens,λb o e=>m.old _ _ (D.kt b o e),λb M e=>?_,λb o e q=>m.old _ _ (D.kept.old b o e q),m.drawn.trans D.kept.drawn,m.os.trans D.kept.os⟩
 rcases yl e with⟨q,r⟩ | ⟨q,r⟩
 .exact r▸q▸D.size▸m.set
 .exact(D.gh b M r).keep λo=>m.old b o
theorem vt{α:Type}{l:List α}(h:isNil l=true):l=[]:=by
 cases l with
 | nil=>rfl
 | cons=>exact nomatch h
theorem Q4{o:ax}(h:rV o=true):∃ep t,o=bD #[] ep t/\b3 w #[] t []:=by
 obtain ⟨c,d,dt,sl⟩:=o
 refine aN (ff.mp h) λh1 h2=>?_
 refine aN (ff.mp h1) λh1 h3=>?_
 refine aN (ff.mp h2) λh2 h4=>?_
 cases dt with
 | set es ep t=>
  refine aN (ff.mp h4) λh4 h5=>?_
  refine aN (ff.mp h5) λh5 h6=>?_
  refine(cM ep t ?_ ⟨(aw [] (.refl _) (.refl _)),?_⟩)
  .rw[show c=_ from of_decide_eq_true h1,show d=none from An.mp h3,show sl = #[] from lU.mp (vt h2),show es = #[] from lU.mp (vt h4)];rfl
  .unfold p_ lQ;rw[show t.place = #[] from lU.mp (vt h5),show t.dummies = #[] from lU.mp (vt h6)];rfl
 | _=>exact nomatch h4
theorem Rep.qI(D:Rep w aV ok K n tk gl G s){a:aj}{L:List af}(h:qI K G a=some L):bS w s.heap a L:=by
 unfold Internal.qI at h
 cases e:fO G a with
 | some L'=>replace h:=e▸h;exact D.gh _ _ (e.trans h)
 | none=>
  replace h:=e▸h
  cases e2:K.get a with
  | none=>replace h:=e2▸h;exact nomatch h
  | some o=>
   replace h:=e2▸h
   cases q:rV o with
   | false=>have h:cond (rV o) (some []) none=some L:=h;replace h:=q▸h;exact nomatch h
   | true=>
    have h:cond (rV o) (some []) none=some L:=h
    replace h:=q▸h
    cases h
    refine gE (Q4 (w:=w) q) λep t j1 F=>?_;subst j1
    exact(ir (#[]) ep t (D.kt _ _ e2) F)
end
end
section
open PySem PySem.W PySem.W.X
def g'(M:cP)(Γ:eY)(p:aT)(t:bf Fin)(s:ai)(P:End->ai->Prop):Prop:=∃e s',Runs M Γ p t [] s e s'/\P e s'
def ro(Q:gU->ai->Prop):End->ai->Prop:=λe s'=>∃r,e = .ret r/\Q r s'
abbrev wq(M:cP)(Γ:eY)(p:aT)(t:bf Fin)(s:ai)(Q:gU->ai->Prop):Prop:=cj M Γ t (AG M Γ Q) (λe Z s'=>Q (.error e) s') p s
section
variable {M:cP}{Γ:eY}{p:aT}{t:bf Fin}{s:ai}{Q:gU->ai->Prop}
theorem uW(h:g' M Γ p t s (ro Q)):wq M Γ p t s Q:=by
 obtain ⟨e,s',h,r,rfl,q⟩:=h
 exact(Ya M Γ t Q p s).mpr (cM r s' h q)
theorem zI(h:wq M Γ p t s Q):g' M Γ p t s (ro Q):=by
 refine gE ((Ya M Γ t Q p s).mp h) λr s' h q=>?_
 exact(cM _ s' h ⟨r,rfl,q⟩)
theorem g'.by{M:cP}{Γ Γ':eY}{p p':aT}{t t':bf Fin}{s s':ai}{P:End->ai->Prop}(h:g' M Γ' p' t' s' P)(hr:∀e σ,Runs M Γ' p' t' [] s' e σ->Runs M Γ p t [] s e σ):g' M Γ p t s P:=by
 refine gE h λe σ r x=>?_;clear h
 exact(cM e σ (hr e σ r) x)
end
noncomputable section
noncomputable abbrev IK:ag->bf (Option ag):=PySem.W.Fast.tw9404975358583537561
theorem O0:IK=i4:=PySem.W.Fast.te9404975358583537561.symm
noncomputable abbrev Cx:ia->bf Fin:=Yb Yc
theorem U9:Cx=iE table:=by
 rw[table_eq_tree]
 show Yb Yc=iE treeTable
 rw[<-PySem.W.Fast.te11892475500146522536,<-PySem.W.Fast.te14364793385576792824]
noncomputable abbrev C4:List bA->bB->bf i5:=PySem.W.Fast.tw12563942051412417395
theorem Qn:C4=jt:=PySem.W.Fast.te12563942051412417395.symm
end
noncomputable def tG(Γ:eY):bZ:=⟨Γ.handled,frameCount Γ.below+Γ.code.weight,some (Γ.code.envs++envsOf Γ.below),some (Γ.code.guards++guardsOf Γ.below),Γ.units⟩
theorem yM(Γ:eY):Γ.In (tG Γ):=(lh rfl (bk _) (λl h=>by cases h;rfl) (λg h=>by cases h;rfl) (bk _))
theorem uB:kQ table "set.update.loop" = some cn.«set.update.loop»:=qf (by kernel_rfl)
theorem QC:kQ table "frozenset.__or__" = some cn.«frozenset.__or__»:=qf (by kernel_rfl)
theorem entry_sub:kQ table "frozenset.__sub__" = some cn.«frozenset.__sub__»:=qf (by kernel_rfl)
theorem yQ{id:String}{b:cn}{args:qg}(h:kQ table id=some b):iE table (.builtin id args)=b args:=by
 show(match kQ table id with | some b=>b args | none=>_)=_
 rw[h]
noncomputable def xF(a:aj)(x:ag)(c:ia):bf Fin:=(holding [x] (vM a x)).bind λZ=>again c
noncomputable def Qc(a:aj)(c:ia):Option ag->bf Fin
 | none=>ret .none
 | some x=>xF a x c
noncomputable abbrev yE(a:aj)(it:ag):ia:=.builtin "set.update.loop" ⟨[.ref a,it],[]⟩
theorem NR(a:aj)(it:ag):iE table (yE a it)=(i4 it).bind (Qc a (yE a it)):=by
 rw[yQ uB]
 show J_ (i4 it) _=_
 congr 1
 funext o
 cases o <;> rfl
theorem EB{c:ia}{z:String×ag×ag}(h:two c=some z):c = .builtin z.1 ⟨[z.2.1,z.2.2],[]⟩:=by
 cases c with
 | builtin i a=>
  obtain ⟨l,k⟩:=a
  cases l with
  | nil=>cases h
  | cons x l=>cases l with
   | nil=>cases h
   | cons y l=>cases l with
    | cons=>cases h
    | nil=>cases k with
     | nil=>cases h;rfl
     | cons=>cases h
 | _=>cases h
theorem yc{v:ag}{a:Nat}(h:rf v=some a):v = .ref a:=by
 cases v <;> cases h
 rfl
theorem PT{r:gU}{q:Option af}(h:Dd r=some q):(r = .ok .next/\q=none)\/∃x t,r = .ok (.ret (.str x t))/\q=some x:=by
 cases r with
 | error=>cases h
 | ok f=>cases f with
  | next=>cases h;exact .inl ⟨rfl,rfl⟩
  | ret v=>cases v <;> cases h;exact .inr (cM _ _ rfl rfl)
  | _=>cases h
theorem rU{b:Bool}(h:(!b)=true):b=false:=by cases b <;> first | rfl | cases h
section
variable {k:Kn}{w:aR}{aV:ai}{ih:n8}
def GD(k:Kn)(w:aR)(aV:ai)(R:lc)(P:End->ai->Prop):Prop:=∀e K n tk gl G s,(∀os,R e K n tk gl G os)->Rep w aV k.ok K n tk gl G s->P e s
def yb(k:Kn)(w:aR)(aV:ai)(R:lc)(Q:gU->ai->Prop):Prop:=∀r K n tk gl G s,(∀os,R (.ret r) K n tk gl G os)->Rep w aV k.ok K n tk gl G s->Q r s
def zE(k:Kn)(w:aR)(aV:ai)(ih:n8):Prop:=∀{Γ p t R K n tk gl G s P},(∀os,ih Γ p t R K n tk gl G os)->Rep w aV k.ok K n tk gl G s->GD k w aV R P->g' (av k.prog w) Γ p t s P
variable (hd:k.den=iE table)(hx:k.dW=i4)(hP:k.P=w.params)(IH:zE k w aV ih){R:lc}{P:End->ai->Prop}{Q:gU->ai->Prop}{K:KT}{tk n:Nat}{gl:List de}{G:Gh}{s:ai}{Γ:eY}{p:aT}
include hx IH in
set_option maxHeartbeats 20000 in
theorem IE{a:Nat}{it:ag}{c:ia}(hc:c=yE a it)(F:yb k w aV R Q):∀(m:Nat) {Γ p K n tk gl G s},(∀os,zq k ih c a it R m Γ p K n tk gl G os)->Rep w aV k.ok K n tk gl G s->g' (av k.prog w) Γ p (iE table c) s (ro Q)
 | 0,_,_,_,_,_,_,_,_,H,_=>(H i_).elim
 | m+1,Γ,p,K,n,tk,gl,G,s,H,D=>by
  have h:=uW (IH (P:=ro λr s'=>(r = .ok .next/\Q (.ok (.ret .none)) s')\/∃v,r = .ok (.ret v)/\∀p',g' (av k.prog w) Γ p' (xF a v c) s' (ro Q)) H D λe K n tk gl G s H D=>by
   refine aC (o7.el H) λr j1 H=>?_;subst j1
   refine aC (cA.el H) λq h1 H=>?_
   refine(aw r rfl ?_)
   rcases PT h1 with⟨rfl,rfl⟩ | ⟨x,t,rfl,rfl⟩
   .exact .inl ⟨rfl,F _ _ _ _ _ _ _ H D⟩
   .refine aC (cA.el H) λL h1 H=>?_
    refine aN (cy.el H) λh2 H=>?_
    refine aN (cy.el H) λh3 H=>?_
    refine aN (cy.el H) λh4 H=>?_
    refine aN (cy.el H) λh5 H=>?_
    refine .inr (aw _ rfl (λp'=>zI ?_))
    unfold xF wq
    rw[qh,Yd]
    refine ib _ _ _ (λZ p' Z (q:∀p',wq (av k.prog w) Γ p' (again c) _ Q)=>q p') (λZ Z Z q=>q) _ _ (Ug (prog:=k.prog) (A:=tG Γ) (E:=λe s'=>Q (.error e) s') (D.qI h1) (of_decide_eq_false ((MC x L).symm.trans (rU h2))) (blt_true h3) (λh' hsb F' p''=>?_) Γ p' (yM Γ))
    have H:∀os,zq k ih c a it R m (Γ.goto c) p'' (pg 30 K a) n (jm tk) gl ((a,L++[x])::G) os:=λos=>H (Co ((#[],0,.fresh 0 0 true),p'') os)
    exact⟨h5,(wpCode_iff_wp _ _ _ _ _).mpr (uW (IE hc F m H (D.grow hsb F' h4)))⟩)
  unfold wq at h
  replace h:=hx▸(bR AH:_)▸h;replace h:=(qh ..)▸h
  rw[hc,NR,<-hc]
  refine zI ?_
  unfold wq
  rw[qh]
  refine ib _ _ _ (λo p' s' q=>?_) (λe p' s' q=>?_) _ _ h
  .cases o with
   | none=>
    have q:_\/_:=q
    rcases q with q | ⟨v,e,_⟩
    .exact q.2
    .cases e
   | some v=>
    have q:_\/_:=q
    rcases q with⟨e,_⟩ | ⟨v',e,q⟩
    .cases e
    .cases e;exact uW (q p')
  .rcases q with⟨e,_⟩ | ⟨v',e,q⟩ <;> cases e
theorem Dg{L M LM:List af}{d:Bool}(H:∀os,rP n L M LM d R K tk gl G os)(D:Rep w aV k.ok K n tk gl G s)(F:yb k w aV R Q):d=true/\∀s',Made w s LM s'->Q (.ok (.ret (.ref s.heap.objs.size))) s':=by
 refine aN (cy.el H) λh H=>?_
 refine⟨h,λs' m=>?_⟩
 rw[D.size];exact F _ _ _ _ _ _ _ H (D.made m)
theorem GN{M:cP}{b:bf Fin}(h:cj M Γ b (λf Z s'=>∃fl,f = .done fl/\Q (.ok fl) s') (λe Z s'=>Q (.error e) s') p s):g' M Γ p b s (ro Q):=
 zI (ib _ _ _ (λf p' s' q=>by refine(λj2=>?_) q;clear q;refine aC j2 λfl j1 q=>?_;clear j2;subst j1;exact q) (λZ Z Z q=>q) _ _ h)
theorem xb{b:Bool}{A B:fc->Prop}(h:∀os,cond b (A os) (B os)):(b=true/\∀os,A os)\/∀os,B os:=by
 cases b
 .exact .inr h
 .exact .inl ⟨rfl,h⟩
theorem IY{c:ia}{id:String}{z:String×ag×ag}{f:Nat->List af->List af->fc->Prop}(D:Rep w aV k.ok K n tk gl G s)(h:two c=some z)(e:(z.1==id)=true)
  (H:∀os,cA (rf z.2.1) λa=>cA (rf z.2.2) λb=>cA (fO G a) λL=>cA (fO G b) λM=>cy (!Nat.beq a b) (f n L M os)) :
  ∃a b L M,c = .builtin id ⟨[.ref a,.ref b],[]⟩/\bS w s.heap a L/\bS w s.heap b M/\a≠b/\∀os,f n L M os:=by
 refine aC (cA.el H) λa h1 H=>?_
 refine aC (cA.el H) λb h2 H=>?_
 refine aC (cA.el H) λL h3 H=>?_
 refine aC (cA.el H) λM h4 H=>?_
 refine aN (cy.el H) λh5 H=>?_
 exact(xm a b L M (by rw[EB h,eq_of_beq e,yc h1,yc h2]) (D.gh _ _ h3) (D.gh _ _ h4) (Nat.ne_of_beq_eq_false (rU h5)) H)
include hd hx IH in
theorem DL{c:ia}(H:∀os,enter k ih Γ p c R K n tk gl G os)(D:Rep w aV k.ok K n tk gl G s)(F:GD k w aV R P):g' (av k.prog w) Γ p (iE table c) s P:=by
 have F':yb k w aV R λr s=>P (.ret r) s:=λr=>F (.ret r)
 have up:g' (av k.prog w) Γ p (iE table c) s (ro λr s=>P (.ret r) s)->g' (av k.prog w) Γ p (iE table c) s P:=λ⟨e,σ,r,x,h,q⟩=>⟨e,σ,r,h▸q⟩
 have plain:(∀os,ih Γ p (k.den c) R K n tk gl G os)->g' (av k.prog w) Γ p (iE table c) s P:=λH=>hd▸IH H D F
 rcases ou.el H with⟨_,H⟩ | ⟨z,hz,H⟩
 .exact plain H
 rcases xb H with⟨e,H⟩ | H
 .refine aC (cA.el H) λa h1 H=>?_
  exact up (IE hx IH (by rw[EB hz,eq_of_beq e,yc h1]) F' 1000 H D)
 rcases xb H with⟨e,H⟩ | H
 .refine mj (IY (f:=λn L M os=>rP n L M (L++M) (@decide _ (z7 L M)) R K tk gl G os) D hz e H) λa b L M hc F1 F2 hne H=>?_
  refine aN (Dg H D F') λhd' fin=>?_
  refine HY (@of_decide_eq_true _ (z7 L M) hd') λc1 c2 c3 c4 c5 c6 c7 c8 c9 c10 c11 c12=>?_
  refine up ?_
  rw[hc,yQ QC]
  exact GN (Q:=λr s=>P (.ret r) s) (W9 (prog:=k.prog) (A:=tG Γ) (E:=λe s'=>P (.ret (.error e)) s') (Q:=λf s'=>∃fl,f = .done fl/\P (.ret (.ok fl)) s') F1 F2 hne (λq=>by replace c5:=q▸c5;exact absurd c5 (lN _)) c1 c2 (by rw[eW];omega) c4 c8 (by exact(Nat.sub_eq_iff_eq_add c9).mp rfl) (by rw[eW];omega) c11 c12 c6 c7 (λs' m=>(aw _ rfl (fin s' m))) Γ p (yM Γ))
 rcases xb H with⟨e,H⟩ | H
 .refine mj (IY (f:=λn L M os=>rP n L M (rl L M) (@decide _ (xu L M)) R K tk gl G os) D hz e H) λa b L M hc F1 F2 hne H=>?_
  refine aN (Dg H D F') λhd' fin=>?_
  refine Ac (@of_decide_eq_true _ (xu L M) hd') λc1 c2 c3 c4 c5 c6 c7 c8 c9 c10=>?_
  replace fin:=(Q5 ..)▸fin
  refine up ?_
  rw[hc,yQ entry_sub]
  exact GN (Q:=λr s=>P (.ret r) s) (S3 (prog:=k.prog) (A:=tG Γ) (E:=λe s'=>P (.ret (.error e)) s') (Q:=λf s'=>∃fl,f = .done fl/\P (.ret (.ok fl)) s') F1 F2 hne (λq=>by replace c5:=q▸c5;exact absurd c5 (lN _)) c1 c2 (by rw[eW];omega) c4 c10 c6 c7 c8 c9 (λs' m=>(aw _ rfl (fin s' m))) Γ p (yM Γ))
 .exact plain H
include hd hx hP IH in
theorem step_sound:zE k w aV (Js k ih):=by
 intro Γ p t R K n tk gl G s P H D F
 have hm:(av k.prog w).den=k.den:=hd.symm
 cases t with
 | pure fin=>
  cases fin with
  | done f=>exact(cM _ _ .done (F _ _ _ _ _ _ _ H D))
  | again c=>
   refine aN (cy.el H) λhq H=>?_
   exact(DL hd hx IH H D F).by λZ Z=>.again hq
 | raise e=>exact(cM _ _ .raise (F _ _ _ _ _ _ _ H D))
 | rule tag k'=>exact(IH H D F).by λZ Z=>.rule
 | «at» q k'=>exact(IH H D F).by λZ Z=>.at
 | point l k'=>exact(IH H D F).by λZ Z=>.point
 | ask k'=>exact(IH H D F).by λZ Z r=>.ask (hP▸r)
 | load a part k'=>
  rcases ou.el H with⟨_,H⟩ | ⟨o,e,H⟩
  .refine aC (cA.el H) λL h1 H=>?_
   refine aN (cy.el H) λh2 H=>?_
   refine dU (D.gh _ _ h1) λes ep tt ho Z=>?_
   exact(IH (λos=>H (Co ((es,ep,tt),⟨0,0,0,0⟩) os)) (D.put h2 D.size ho (λZ Z Z e=>e) (λL e=>D.gh _ L e) λo e q=>D.kept.old _ _ e q) F).by λZ Z=>.load ho
  .exact(IH H D F).by λZ Z=>.load (D.kt _ _ e)
 | loadIfAlive a k'=>
  refine aC (cA.el H) λo e H=>?_
  exact(IH H D F).by λZ Z r=>.loadIfAlive ((D.kt _ _ e).symm▸r)
 | alloc o k'=>
  refine aN (cy.el H) λhf H=>?_
  refine aN (cy.el H) λhn H=>?_
  exact(IH H (D.alloc hf hn) F).by λZ Z r=>.alloc (D.size.symm▸r)
 | update a part g k'=>
  refine aN (cy.el H) λh1 H=>?_
  refine aC (cA.el H) λo e H=>?_
  refine aN (cy.el H) λh2 H=>?_
  refine aN (cy.el H) λh3 H=>?_
  refine aN (cy.el H) λh4 H=>?_
  exact(IH H (D.update e h1 h2 h3 h4) F).by λZ Z=>.update (by rw[D.kt _ _ e];rfl)
 | fresh k'=>exact(IH H (s:={s with toks:=s.toks+1}) ⟨D.size,aI jm D.toks,D.gens,D.kt,D.gh,D.kept.old,D.kept.drawn,D.kept.os⟩ F).by λZ Z r=>.fresh (D.toks.symm▸r)
 | handled own k'=>
  cases own
  .exact(IH H D F).by λZ Z r=>.handled (own:=false) r
  .exact(IH H D F).by λZ Z r=>.handled (own:=true) r
 | stack k'=>exact(IH H D F).by λZ Z=>.stack
 | thread k'=>exact(IH H D F).by λZ Z=>.thread
 | call c h g l k'=>
  obtain ⟨e,σ,r,rr,rfl,e',σ',r',q⟩:=DL (P:=ro λr s'=>g' (av k.prog w) Γ p (k' r) s' P) hd hx IH H D λe K n tk gl G s H D=>by
   refine aC (o7.el H) λr j1 H=>?_;subst j1
   exact(aw r rfl (IH H D F))
  exact(cM e' σ' (.call r r') q)
 | newGen c k'=>
  exact(IH H (s:={s with gens:=s.gens.push (.fresh c)}) ⟨D.size,D.toks,by show s.gens.push _=_;rw[D.gens];exact push_gens gl (Ye c),D.kt,D.gh,D.kept.old,D.kept.drawn,D.kept.os⟩ F).by λZ Z r=>.newGen ((by rw[D.gens];rfl:gl.length=s.gens.size)▸r)
 | genState g k'=>
  refine aC (cA.el H) λgs e H=>?_
  exact(IH H D F).by λZ Z=>.genState (D.xE e)
 | resume g r l k'=>
  refine aC (cA.el H) λgs e H=>?_
  have go:∀{Γ' p' t},(∀os,ye ih k Γ p g k' R Γ' p' t K n tk gl G os)->∃kY ay,Runs (av k.prog w) Γ' p' t [] (s.setGen g .running) kY ay/\kY.quiet=true/\g' (av k.prog w) Γ p (k' kY.result) (ay.setGen g kY.genState) P:=λH=>
   IH H (D.setG g .running) λe K n tk gl G s H D=>by
    refine aN (cy.el H) λh H=>?_
    exact⟨h,IH H (D.setG g _) F⟩
  cases gs with
  | running=>exact(H i_).elim
  | finished=>exact(H i_).elim
  | fresh c=>
   cases r with
   | throw x=>exact(H i_).elim
   | send v=>
    cases v <;> try exact(H i_).elim
    refine bM (go H) λkY ay aZ hq h=>?_
    exact h.by λZ Z=>.resumeFresh (D.xE e) (by rw[hm];exact aZ) hq
  | suspended kk ll c kX fs cl=>
   cases fs with
   | cons _ _=>exact(H i_).elim
   | nil=>
    refine bM (go H) λkY ay aZ hq h=>?_
    exact h.by λZ Z=>.resumeSuspended (D.xE e) aZ hq
 | «yield» v g l kk=>exact(cM _ _ .yield (F _ _ _ _ _ _ _ H D))
 | _=>exact(H i_).elim
include hd hx hP in
theorem NV(f:Nat):zE k w aV (ev k f):=by
 induction f with
 | zero=>exact λH Z Z=>(H i_).elim
 | succ f ih=>exact step_sound hd hx hP ih
end
end
section
open PySem PySem.W PySem.W.X
noncomputable section
noncomputable abbrev pw:iC:=Yf
noncomputable def body:List bA:=behindTheImports pw
noncomputable def uP:bA:=.Pass ⟨0,0,0,0⟩
noncomputable def stN(i:Nat):bA:=body.getD i uP
noncomputable def cX(s:bA)(j:Nat):bA:=match s with
 | .ClassDef _ _ _ b _ _ _ _ _ _ _=>b.getD j uP
 | .FunctionDef _ _ b _ _ _ _ _ _ _=>b.getD j uP
 | _=>uP
noncomputable def fA(s:bA):Kl:=match s with
 | .FunctionDef _ a ..=>a
 | _=>⟨[],[],none,[],[],none,[]⟩
noncomputable def fB(s:bA):List bA:=match s with
 | .FunctionDef _ _ b ..=>b
 | _=>[]
noncomputable def fS(s:bA):dA:=match s with
 | .FunctionDef _ _ _ _ _ _ sc ..=>sc
 | _=>⟨.module,[],false,false,[]⟩
noncomputable abbrev S(x:String):af:=ae x
noncomputable def ku:bB:={scope:=pw.main.scope,locals:=fh,globals:=fh,cells:=[],code:=.ref 65,frame:=some 66}
noncomputable def G0:eY:=⟨.builtin "claim.caller" {},none,none,[],none⟩
noncomputable def G1:eY:=G0.enter (.body body ku) none ⟨0,0,0,0⟩
noncomputable def jf(i:Nat):Bool:=fR i 3||fR i 64||fR i 204
noncomputable def n9(ok:Nat->Bool)(n i:Nat):Bool:=cond (Km n i) true (ok i)
noncomputable def chunk(i k:Nat):List bA:=(body.drop i).take k
noncomputable def ch(i:Nat):af:=⟨#[i]⟩
noncomputable def uT:List af:=(dQ 32).map ch++[ch 127]
noncomputable def qQ:List af:=rl uT [ch 9]
noncomputable def rO:List af:=rl uT [ch 9,ch 10]
noncomputable def bG:List af:=[ch 32,ch 9]
noncomputable def fK:List af:=bG++[ch 10]
noncomputable def nR:List af:=((dQ 26).map λi=>ch (97+i))++((dQ 26).map λi=>ch (65+i))++((dQ 10).map λi=>ch (48+i))++[ch 45,ch 95]
noncomputable def pP:List af:=nR++[ch 34,ch 39]
noncomputable def gp:List af:=((dQ 10).map λi=>ch (48+i))++((dQ 6).map λi=>ch (97+i))++((dQ 6).map λi=>ch (65+i))
noncomputable def s(x:String)(t:Nat):ag:=.str (S x) t
noncomputable def i(n:Int)(t:Nat:=0):ag:=.int n t
noncomputable def r(a:Nat):ag:=.ref a
noncomputable def e(P:az)(x:String)(t:Nat)(v:ag):dB:=⟨oD P (S x),s x t,v⟩
noncomputable def fn(nm qn:String)(st:bA)(df kd doc md cd:ag):ax:=⟨.type "function",none,.func {name:=S nm,qualname:=S qn,params:=fA st,body:=.stmts (fB st),scope:=fS st,globals:=3,closure:=[],defaults:=df,kwdefaults:=kd,doc:=doc,pyModule:=md,annotations:=none,code:=cd,closureTuple:=.none,builtins:=0},#[]⟩
noncomputable def co(nm qn:String)(t:Nat)(l a b c f:Int)(x:Nat)(v1 v2 v3 v4:ag)(t':Nat):ax:=⟨.type "code",none,.fields #[s nm t,s qn (t+1),s "/claim/cut.py" (t+2),i l,i a,i b,i c,i f,r x,.bool true,i 482,r (x+1),v1,v2,v3,v4,i t',i l,s "/claim/cut.py" (t'+1)],#[]⟩
noncomputable def cut(o:ax)(n:Nat)(ep:Nat)(nm:String)(t:Nat):ax:=match o.data with
 | .dict es _=>{o with data:=.dict (match es.toList.take n with | d::l=>(⟨d.hash,d.key,s nm t⟩:dB)::l | []=>[]).toArray ep}
 | _=>o
noncomputable def tk(o:ax)(n:Nat):ax:=match o.data with
 | .fields es=>{o with data:=.fields (es.toList.take n).toArray}
 | _=>o
noncomputable def mo(nm qn:String)(t:Nat)(l a b c f:Int)(x t':Nat):ax:=co nm qn t l a b c f x .none (r (x+2)) (r (x+3)) (r (x+4)) t'
noncomputable def eC(nm:String)(t:Nat)(l a b c f:Int)(x t':Nat):ax:=mo nm nm t l a b c f x t'
noncomputable def uR(nm qn:String)(st:bA)(k:Nat):ax:=fn nm qn st .none .none .none (s "cpy313.tomllib._parser" 1905) (r k)
noncomputable def iK(nm:String)(st:bA)(k:Nat):ax:=uR nm nm st k
noncomputable def lE(P:az):ax:=⟨(.type "dict"),none,(.dict #[e P "__name__" 165 (s "law_io0026_03" 2482),e P "__doc__" 166 .none,e P "__package__" 167 .none,e P "__loader__" 168 (.builtin "__main__.__loader__#opaque"),e P "__spec__" 169 .none,e P "__annotations__" 170 (r 6),e P "__builtins__" 171 (r 4),e P "__file__" 173 (s "/claim/cut.py" 172),e P "__cached__" 174 .none,e P "_sre" 275 (r 12),e P "tuplegetter_collections" 317 (.type "collections._tuplegetter"),e P "date" 429 (.type "datetime.date"),e P "datetime" 432 (.type "datetime.datetime"),e P "time" 435 (.type "datetime.time"),e P "timedelta" 438 (.type "datetime.timedelta"),e P "timezone" 441 (.type "datetime.timezone"),e P "_lru_cache_wrapper" 481 (.type "functools._lru_cache_wrapper"),e P "_wall" 494 (r 73),e P "_WallAttr" 534 (r 98),e P "RE_NUMBER" 792 (r 107),e P "RE_LOCALTIME" 905 (r 112),e P "RE_DATETIME" 1210 (r 117),e P "match_to_datetime" 1237 (r 124),e P "WRAPPER_ASSIGNMENTS" 1245 (r 125),e P "WRAPPER_UPDATES" 1247 (r 126),e P "update_wrapper" 1260 (r 134),e P "CacheInfo" 1371 (r 198),e P "_CacheInfo" 1372 (r 198),e P "lru_cache" 1386 (r 209),e P "cached_tz" 1455 (r 232),e P "match_to_localtime" 1467 (r 252),e P "match_to_number" 1475 (r 259),e P "_tuplegetter" 1534 (r 298),e P "tuplegetter_parser" 1535 (r 298),e P "MAX_KEY_PARTS" 1537 (i 1000 1536),e P "ASCII_CTRL" 1681 (r 319),e P "ILLEGAL_BASIC_STR_CHARS" 1685 (r 324),e P "ILLEGAL_MULTILINE_BASIC_STR_CHARS" 1691 (r 329),e P "ILLEGAL_LITERAL_STR_CHARS" 1692 (r 324),e P "ILLEGAL_MULTILINE_LITERAL_STR_CHARS" 1693 (r 329),e P "ILLEGAL_COMMENT_CHARS" 1694 (r 324),e P "TOML_WS" 1700 (r 330),e P "TOML_WS_AND_NEWLINE" 1704 (r 338),e P "ascii_lowercase" 1706 (s "abcdefghijklmnopqrstuvwxyz" 1705),e P "ascii_uppercase" 1708 (s "ABCDEFGHIJKLMNOPQRSTUVWXYZ" 1707),e P "ascii_letters" 1710 (s "abcdefghijklmnopqrstuvwxyzABCDEFGHIJKLMNOPQRSTUVWXYZ" 1709),e P "digits" 1712 (s "0123456789" 1711),e P "hexdigits" 1717 (s "0123456789abcdefABCDEF" 1716),e P "BARE_KEY_CHARS" 1849 (r 339),e P "KEY_INITIAL_CHARS" 1855 (r 347),e P "HEXDIGIT_CHARS" 1900 (r 348),e P "MappingProxyType" 1904 (.type "mappingproxy"),e P "BASIC_STR_ESCAPE_REPLACEMENTS" 1928 (r 354),e P "TOMLDecodeError" 1948 (r 364),e P "loads" 1964 (r 375),e P "Flags" 2054 (r 427),e P "NestedDict" 2105 (r 463),e P "Output" 2220 (r 535),e P "skip_chars" 2229 (r 545),e P "skip_until" 2241 (r 552),e P "skip_comment" 2250 (r 559),e P "skip_comments_and_array_ws" 2259 (r 566),e P "create_dict_rule" 2269 (r 573),e P "create_list_rule" 2279 (r 580),e P "key_value_rule" 2299 (r 587),e P "parse_key_value_pair" 2311 (r 594),e P "parse_key" 2322 (r 601),e P "parse_key_part" 2332 (r 608),e P "parse_one_line_basic_str" 2340 (r 615),e P "parse_array" 2352 (r 622),e P "parse_inline_table" 2369 (r 629),e P "parse_basic_str_escape" 2381 (r 637),e P "parse_basic_str_escape_multiline" 2389 (r 644),e P "parse_hex_char" 2400 (r 651),e P "parse_literal_str" 2409 (r 658),e P "parse_multiline_str" 2421 (r 665),e P "parse_basic_str" 2436 (r 672),e P "parse_value" 2453 (r 679),e P "suffixed_err" 2464 (r 686),e P "is_unicode_scalar_value" 2471 (r 693),e P "make_safe_parse_float" 2481 (r 700),e P "_law_units" 2489 (r 705),e P "_law_sources" 2495 (r 710),e P "_law_text" 2501 (r 715),e P "_law_right" 2515 (r 722),e P "_law_tool" 2536 (r 729),e P "_law_list" 2547 (r 736),e P "_law_row" 2557 (r 743),e P "law" 2563 (r 748)] 89),#[]⟩
noncomputable def gq(P:az):ax:=⟨.none,none,(.fields #[(i 5),(i 0),(r 72),(i 8),(i 0),(r 79),(i 18),(i 0),(r 123),(i 40),(i 0),(r 133),(i 96),(i 0),(r 140),(i 138),(i 0),(r 208),(i 157),(i 0),(r 226),(i 160),(i 0),(r 251),(i 164),(i 0),(r 258),(i 169),(i 0),(r 265),(i 189),(i 23),(r 307),(i 209),(i 0),(r 360),(i 211),(i 0),(r 374),(i 252),(i 0),(r 381),(i 304),(i 0),(r 437),(i 331),(i 0),(r 474),(i 373),(i 0),(r 544),(i 380),(i 0),(r 551),(i 392),(i 0),(r 558),(i 400),(i 0),(r 565),(i 407),(i 0),(r 572),(i 421),(i 0),(r 579),(i 436),(i 0),(r 586),(i 457),(i 0),(r 593),(i 469),(i 0),(r 600),(i 487),(i 0),(r 607),(i 501),(i 0),(r 614),(i 504),(i 0),(r 621),(i 523),(i 0),(r 628),(i 552),(i 0),(r 636),(i 575),(i 0),(r 643),(i 577),(i 0),(r 650),(i 586),(i 0),(r 657),(i 591),(i 0),(r 664),(i 610),(i 0),(r 671),(i 640),(i 0),(r 678),(i 683),(i 0),(r 685),(i 697),(i 0),(r 692),(i 699),(i 0),(r 699),(i 717),(i 0),(r 704),(i 735),(i 0),(r 709),(i 737),(i 0),(r 714),(i 739),(i 0),(r 721),(i 749),(i 0),(r 728),(i 767),(i 0),(r 735),(i 777),(i 0),(r 742),(i 780),(i 0),(r 747)]),#[]⟩
noncomputable def dr(n:Nat)(nm:String)(t:Nat)(P:az):ax:=cut (lE P) n n nm t
noncomputable def ru(P:az)(f:String->ag):Nat->List String->List dB->List dB
 | _,[],l=>l
 | n,x::q,l=>e P x n (f x)::ru P f (n+1) q l
noncomputable def o0(P:az):ax:=⟨(.type "dict"),none,(.dict (e P "__name__" 1 (s "builtins" 160)::e P "__doc__" 2 (.builtin "builtins.__doc__:str#opaque")::e P "__package__" 3 (.builtin "builtins.__package__:str#opaque")::e P "__loader__" 4 (.builtin "builtins.__loader__:shared#opaque")::e P "__spec__" 5 (.builtin "builtins.__spec__#opaque")::ru P .builtin 6 ["__build_class__","__import__","abs","all","any","ascii","bin","breakpoint","callable","chr","compile","delattr","dir","divmod","eval","exec","format","getattr","globals","hasattr","hash","hex","id","input","isinstance","issubclass","iter","aiter","len","locals","max","min","next","anext","oct","ord","pow","print","repr","round","setattr","sorted","sum","vars"] (e P "None" 50 .none::e P "Ellipsis" 51 .ellipsis::e P "NotImplemented" 52 .notImplemented::e P "False" 53 (.bool false)::e P "True" 54 (.bool true)::ru P .type 55 ["bool","memoryview","bytearray","bytes","classmethod","complex","dict","enumerate","filter","float","frozenset","property","int","list","map","object","range","reversed","set","slice","staticmethod","str","super","tuple","type","zip"] (e P "__debug__" 81 (.bool true)::ru P .type 82 ["BaseException","BaseExceptionGroup","Exception","GeneratorExit","KeyboardInterrupt","SystemExit","ArithmeticError","AssertionError","AttributeError","BufferError","EOFError","ImportError","LookupError","MemoryError","NameError","OSError","ReferenceError","RuntimeError","StopAsyncIteration","StopIteration","SyntaxError","SystemError","TypeError","ValueError","Warning","FloatingPointError","OverflowError","ZeroDivisionError","BytesWarning","DeprecationWarning","EncodingWarning","FutureWarning","ImportWarning","PendingDeprecationWarning","ResourceWarning","RuntimeWarning","SyntaxWarning","UnicodeWarning","UserWarning","BlockingIOError","ChildProcessError","ConnectionError","FileExistsError","FileNotFoundError","InterruptedError","IsADirectoryError","NotADirectoryError","PermissionError","ProcessLookupError","TimeoutError","IndentationError","_IncompleteInputError","IndexError","KeyError","ModuleNotFoundError","NotImplementedError","PythonFinalizationError","RecursionError","UnboundLocalError","UnicodeError","BrokenPipeError","ConnectionAbortedError","ConnectionRefusedError","ConnectionResetError","TabError","UnicodeDecodeError","UnicodeEncodeError","UnicodeTranslateError","ExceptionGroup"] (e P "EnvironmentError" 151 (.type "OSError")::e P "IOError" 152 (.type "OSError")::e P "open" 153 (.builtin "open")::e P "quit" 154 (.builtin "builtins.quit#opaque")::e P "exit" 155 (.builtin "builtins.exit#opaque")::e P "copyright" 156 (.builtin "builtins.copyright#opaque")::e P "credits" 157 (.builtin "builtins.credits#opaque")::e P "license" 158 (.builtin "builtins.license#opaque")::e P "help" 159 (.builtin "builtins.help#opaque")::[])))).toArray 159),#[]⟩
noncomputable def HO(P:az):ax:=⟨.none,none,.fields #[],#[]⟩
noncomputable def o1(P:az):ax:=⟨(.type "dict"),none,(.dict #[e P "builtins" 162 (r 4),e P "__main__" 163 (r 5),e P "_sre" 244 (r 12),e P "_collections" 292 (r 30),e P "_datetime" 397 (r 36),e P "_functools" 458 (r 59)] 6),#[]⟩
noncomputable def o2(P:az):ax:=⟨.none,none,(.dict #[e P "\u0069mport.loaded._sre" 183 (.bool true),e P "class._frozen_importlib.BuiltinImporter" 185 (r 14),e P "watched.\u0069mport" 206 (r 18),e P "class._frozen_importlib.ModuleSpec" 216 (r 22),e P "sys.modules.booked-epoch" 245 (i 6),e P "\u0069mport.later-laid._sre" 270 (.bool true),e P "watched.library" 272 (r 27),e P "watched.library-objects" 0 (s "\u000c\u001e$;" 0),e P "watched.library-deep._sre" 273 (s "\u0004\u0000\u0000\u000b\u0004\u0000\u0000\u000b\u0004\u0000\u0000\u0003\u0004\u0000\u0000\u000b\u0008\u0004dict\u0002" 0),e P "\u0069mport.loaded._collections" 280 (.bool true),e P "sys.modules.landed._collections" 294 (.bool true),e P "\u0069mport.later-laid._collections" 309 (.bool true),e P "watched.library-deep._collections" 311 (s "\u0004\u0000\u0000\u001d\u0004\u0000\u0000\u001d\u0004\u0000\u0000\u0003\u0004\u0000\u0000\u001d\u0008\u0004dict\u0002" 0),e P "\u0069mport.loaded._datetime" 326 (.bool true),e P "class._frozen_importlib_external._LoaderBasics" 331 (r 39),e P "class._frozen_importlib_external.FileLoader" 347 (r 44),e P "class._frozen_importlib_external.ExtensionFileLoader" 368 (r 49),e P "datetime.timedelta.zero" 418 (r 55),e P "datetime.timezone.utc" 419 (r 56),e P "\u0069mport.later-laid._datetime" 422 (.bool true),e P "\u0069mport.loaded._functools" 446 (.bool true),e P "sys.modules.landed._functools" 460 (.bool true),e P "\u0069mport.later-laid._functools" 473 (.bool true),e P "watched.library-deep._functools" 475 (s "\u0004\u0000\u0000:\u0004\u0000\u0000:\u0004\u0000\u0000\u0003\u0004\u0000\u0000:\u0008\u0004dict\u0002" 0)] 24),#[]⟩
noncomputable def o3(P:az):ax:=dr 17 "__main__" 164 P
noncomputable def SU(P:az):ax:=dr 19 "cpy313.tomllib._re" 535 P
noncomputable def Xk(P:az):ax:=dr 20 "cpy313.tomllib._re" 535 P
noncomputable def Ph(P:az):ax:=dr 21 "cpy313.tomllib._re" 535 P
noncomputable def Wl(P:az):ax:=dr 23 "cpy313.tomllib._re" 535 P
noncomputable def Pz(P:az):ax:=dr 26 "functools" 1238 P
noncomputable def TN(P:az):ax:=dr 27 "functools" 1238 P
noncomputable def Nt(P:az):ax:=dr 29 "cpy313.tomllib._re" 1387 P
noncomputable def Xr(P:az):ax:=dr 30 "cpy313.tomllib._re" 1387 P
noncomputable def Qo(P:az):ax:=dr 33 "cpy313.tomllib._parser" 1476 P
noncomputable def PN(P:az):ax:=dr 35 "cpy313.tomllib._parser" 1476 P
noncomputable def MY(P:az):ax:=dr 36 "cpy313.tomllib._parser" 1476 P
noncomputable def NT(P:az):ax:=dr 37 "cpy313.tomllib._parser" 1476 P
noncomputable def OF(P:az):ax:=dr 38 "cpy313.tomllib._parser" 1476 P
noncomputable def Ub(P:az):ax:=dr 41 "cpy313.tomllib._parser" 1476 P
noncomputable def Mv(P:az):ax:=dr 42 "cpy313.tomllib._parser" 1476 P
noncomputable def Sl(P:az):ax:=dr 43 "cpy313.tomllib._parser" 1476 P
noncomputable def Wq(P:az):ax:=dr 48 "cpy313.tomllib._parser" 1476 P
noncomputable def UF(P:az):ax:=dr 49 "cpy313.tomllib._parser" 1476 P
noncomputable def Nh(P:az):ax:=dr 50 "cpy313.tomllib._parser" 1476 P
noncomputable def Pu(P:az):ax:=dr 51 "cpy313.tomllib._parser" 1476 P
noncomputable def Wz(P:az):ax:=dr 54 "cpy313.tomllib._parser" 1905 P
noncomputable def Ud(P:az):ax:=dr 55 "cpy313.tomllib._parser" 1905 P
noncomputable def Rf(P:az):ax:=dr 56 "cpy313.tomllib._parser" 1905 P
noncomputable def VA(P:az):ax:=dr 57 "cpy313.tomllib._parser" 1905 P
noncomputable def RK(P:az):ax:=dr 58 "cpy313.tomllib._parser" 1905 P
noncomputable def W2(P:az):ax:=dr 70 "cpy313.tomllib._parser" 1905 P
noncomputable def WL(P:az):ax:=dr 81 "law_io0026_03" 2482 P
noncomputable def o4(P:az):ax:=⟨(.type "module"),(some 0),.plain,#[]⟩
noncomputable def xT(P:az):ax:=⟨(.type "module"),(some 11),.plain,#[]⟩
noncomputable def Dk(P:az):ax:=tk (gq P) 0
noncomputable def zn(P:az):ax:=tk (gq P) 6
noncomputable def V7(P:az):ax:=tk (gq P) 9
noncomputable def Xh(P:az):ax:=tk (gq P) 12
noncomputable def Sa(P:az):ax:=tk (gq P) 15
noncomputable def WB(P:az):ax:=tk (gq P) 18
noncomputable def RQ(P:az):ax:=tk (gq P) 21
noncomputable def IM(P:az):ax:=tk (gq P) 30
noncomputable def kM(P:az):ax:=tk (gq P) 33
noncomputable def Nu(P:az):ax:=tk (gq P) 36
noncomputable def MH(P:az):ax:=tk (gq P) 39
noncomputable def Rk(P:az):ax:=tk (gq P) 42
noncomputable def VE(P:az):ax:=tk (gq P) 45
noncomputable def Ov(P:az):ax:=tk (gq P) 48
noncomputable def PK(P:az):ax:=tk (gq P) 84
noncomputable def UX(P:az):ax:=tk (gq P) 117
noncomputable def Ji(P:az):ax:=⟨(.type "code"),none,(.fields #[(s "<module>" 483),(s "<module>" 484),(s "/claim/cut.py" 485),(i 1),(i 0),(i 0),(i 0),(i 0),(r 63),(.bool false),(i 482),(r 64),.none,.none,.none,.none,(i 486),(i 1),(s "/claim/cut.py" 487)]),#[]⟩
noncomputable def TE(P:az):ax:=⟨(.type "type"),none,(.cls {name:=(S "_WallAttr"),bases:=[(.type "object")],mro:=[(r 98),(.type "object")],ns:=97,qualname:=(S "_WallAttr"),hasDict:=true,slotNames:=[],subclasses:=[],abstract:=false,collection:=none,hasDel:=false}),#[none,none,(some (s "_WallAttr" 495)),(some (s "_WallAttr" 503)),(some (.builtin "object.__new__")),(some (.bool true))]⟩
noncomputable def Xo(P:az):ax:=⟨(.type "tuple"),none,(.seq #[(r 125),(r 126)] 0),#[]⟩
noncomputable def Qb(P:az):ax:=eC "update_wrapper" 1248 40 4 0 0 3 128 1257
noncomputable def W_(P:az):ax:=fn "update_wrapper" "update_wrapper" (stN 10) (r 127) .none (s "Update a wrapper function to look like the wrapped function\n\nwrapper is the function to be updated\nwrapped is the original function\nassigned is a tuple naming the attributes assigned directly\nfrom the wrapped function to the wrapper function (defaults to\nfunctools.WRAPPER_ASSIGNMENTS)\nupdated is a tuple naming the attributes of the wrapper that\nare updated with the corresponding attribute from the wrapped\nfunction (defaults to functools.WRAPPER_UPDATES)\n" 1259) (s "functools" 1238) (r 133)
noncomputable def Ts(P:az):ax:=⟨(.type "tuple"),none,(.seq #[(i 128 1373),(.bool false)] 0),#[]⟩
noncomputable def NM(P:az):ax:=⟨.none,none,(.fields #[]),#[]⟩
noncomputable def Ws(P:az):ax:=eC "lru_cache" 1374 138 2 0 0 3 203 1384
noncomputable def S0(P:az):ax:=fn "lru_cache" "lru_cache" (stN 13) (r 202) .none .none (s "functools" 1238) (r 208)
noncomputable def Uy(P:az):ax:=mo "__init__" "_tuplegetter.__init__" 1490 171 3 0 0 3 267 1496
noncomputable def V0(P:az):ax:=fn "__init__" "_tuplegetter.__init__" (cX (stN 19) 0) .none .none .none (s "cpy313.tomllib._parser" 1476) (r 272)
noncomputable def CR(P:az):ax:=⟨(.type "tuple"),none,(.seq #[.none] 0),#[]⟩
noncomputable def DF(P:az):ax:=mo "__get__" "_tuplegetter.__get__" 1499 175 3 0 0 3 275 1505
noncomputable def y6(P:az):ax:=fn "__get__" "_tuplegetter.__get__" (cX (stN 19) 1) (r 274) .none .none (s "cpy313.tomllib._parser" 1476) (r 280)
noncomputable def Gz(P:az):ax:=fn "__set__" "_tuplegetter.__set__" (cX (stN 19) 2) .none .none .none (s "cpy313.tomllib._parser" 1476) (r 287)
noncomputable def II(P:az):ax:=⟨(.type "dict"),none,(.dict #[e P "__module__" 1485 (s "cpy313.tomllib._parser" 1476),e P "__firstlineno__" 1489 (i 169 1488),e P "__init__" 1498 (r 273),e P "__get__" 1507 (r 281),e P "__set__" 1516 (r 288),e P "__delete__" 1524 (r 295),e P "__static_attributes__" 1527 (r 296),e P "__dict__" 1529 (r 299),e P "__weakref__" 1531 (r 300),e P "__doc__" 1532 .none] 4),#[]⟩
noncomputable def Fl(P:az):ax:=⟨(.type "type"),none,(.cls {name:=(S "_tuplegetter"),bases:=[(.type "object")],mro:=[(r 298),(.type "object")],ns:=297,qualname:=(S "_tuplegetter"),hasDict:=true,slotNames:=[],subclasses:=[],abstract:=false,collection:=none,hasDel:=false}),#[none,none,(some (s "_tuplegetter" 1478)),(some (s "_tuplegetter" 1486)),(some (.builtin "object.__new__")),(some (.bool true))]⟩
noncomputable def sd(P:az):ax:=⟨(.type "dict"),none,(.dict #[e P "\\b" 1907 (s "\u0008" 1908),e P "\\t" 1909 (s "\t" 1910),e P "\\n" 1911 (s "\n" 1912),e P "\\f" 1913 (s "\u000c" 1914),e P "\\r" 1915 (s "\u000d" 1916),e P "\\\"" 1917 (s "\"" 1918),e P "\\\\" 1919 (s "\\" 1920)] 7),#[]⟩
noncomputable def EC(P:az):ax:=⟨(.type "mappingproxy"),none,(.fields #[(r 353)]),#[]⟩
noncomputable def uD(P:az):ax:=⟨(.type "dict"),none,(.dict #[e P "__module__" 1936 (s "cpy313.tomllib._parser" 1905),e P "__firstlineno__" 1940 (i 209 1939),e P "__doc__" 1942 (s "An error raised if a document is not valid TOML." 1941),e P "__static_attributes__" 1944 (r 362),e P "__weakref__" 1946 (r 365)] 2),#[]⟩
noncomputable def zZ(P:az):ax:=⟨(.type "type"),none,(.cls {name:=(S "TOMLDecodeError"),bases:=[(.type "ValueError")],mro:=[(r 364),(.type "ValueError"),(.type "Exception"),(.type "BaseException"),(.type "object")],ns:=363,qualname:=(S "TOMLDecodeError"),hasDict:=true,slotNames:=[],subclasses:=[],abstract:=false,collection:=none,hasDel:=false}),#[(some (r 355)),none,(some (s "TOMLDecodeError" 1929)),(some (s "TOMLDecodeError" 1937)),(some (.builtin "ValueError.__new__")),(some (.bool true))]⟩
noncomputable def JE(P:az):ax:=⟨(.type "dict"),none,(.dict #[e P "parse_float" 1949 (.type "float")] 1),#[]⟩
noncomputable def GF(P:az):ax:=eC "loads" 1950 211 1 1 1 3 369 1961
noncomputable def EP(P:az):ax:=fn "loads" "loads" (stN 43) .none (r 368) (s "Parse TOML from a string." 1963) (s "cpy313.tomllib._parser" 1905) (r 374)
noncomputable def IJ(P:az):ax:=mo "__init__" "Flags.__init__" 1984 257 1 0 0 3 383 1988
noncomputable def Af(P:az):ax:=uR "__init__" "Flags.__init__" (cX (stN 44) 3) 388
noncomputable def Jf(P:az):ax:=mo "is_" "Flags.is_" 2033 288 3 0 0 3 418 2043
noncomputable def za(P:az):ax:=uR "is_" "Flags.is_" (cX (stN 44) 8) 423
noncomputable def Ee(P:az):ax:=⟨(.type "dict"),none,(.dict #[e P "__module__" 1972 (s "cpy313.tomllib._parser" 1905),e P "__firstlineno__" 1976 (i 252 1975),e P "__doc__" 1978 (s "Flags that map to parsed keys/namespaces." 1977),e P "FROZEN" 1981 (i 0 1980),e P "EXPLICIT_NEST" 1983 (i 1 1982),e P "__init__" 1990 (r 389),e P "add_pending" 1999 (r 396),e P "finalize_pending" 2008 (r 403),e P "unset_all" 2018 (r 410),e P "set" 2032 (r 417),e P "is_" 2045 (r 424),e P "__static_attributes__" 2048 (r 425),e P "__dict__" 2050 (r 428),e P "__weakref__" 2052 (r 429)] 3),#[]⟩
noncomputable def Eb(P:az):ax:=⟨(.type "type"),none,(.cls {name:=(S "Flags"),bases:=[(.type "object")],mro:=[(r 427),(.type "object")],ns:=426,qualname:=(S "Flags"),hasDict:=true,slotNames:=[],subclasses:=[],abstract:=false,collection:=none,hasDel:=false}),#[none,none,(some (s "Flags" 1965)),(some (s "Flags" 1973)),(some (.builtin "object.__new__")),(some (.bool true))]⟩
noncomputable def Di(P:az):ax:=mo "__init__" "NestedDict.__init__" 2067 306 1 0 0 3 439 2071
noncomputable def xd(P:az):ax:=uR "__init__" "NestedDict.__init__" (cX (stN 45) 0) 444
noncomputable def FN(P:az):ax:=⟨(.type "dict"),none,(.dict #[e P "access_lists" 2074 (.bool true)] 1),#[]⟩
noncomputable def CS(P:az):ax:=mo "get_or_create_nest" "NestedDict.get_or_create_nest" 2075 309 2 0 1 3 447 2083
noncomputable def yz(P:az):ax:=fn "get_or_create_nest" "NestedDict.get_or_create_nest" (cX (stN 45) 1) .none (r 446) .none (s "cpy313.tomllib._parser" 1905) (r 452)
noncomputable def F5(P:az):ax:=⟨(.type "dict"),none,(.dict #[e P "__module__" 2062 (s "cpy313.tomllib._parser" 1905),e P "__firstlineno__" 2066 (i 304 2065),e P "__init__" 2073 (r 445),e P "get_or_create_nest" 2085 (r 453),e P "append_nest_to_list" 2096 (r 460),e P "__static_attributes__" 2098 (r 461),e P "__dict__" 2100 (r 464),e P "__weakref__" 2102 (r 465),e P "__doc__" 2103 .none] 4),#[]⟩
noncomputable def Fx(P:az):ax:=⟨(.type "type"),none,(.cls {name:=(S "NestedDict"),bases:=[(.type "object")],mro:=[(r 463),(.type "object")],ns:=462,qualname:=(S "NestedDict"),hasDict:=true,slotNames:=[],subclasses:=[],abstract:=false,collection:=none,hasDel:=false}),#[none,none,(some (s "NestedDict" 2055)),(some (s "NestedDict" 2063)),(some (.builtin "object.__new__")),(some (.bool true))]⟩
noncomputable def Dm(P:az):ax:=mo "__new__" "Output.__new__" 2126 337 3 0 0 3 479 2132
noncomputable def x6(P:az):ax:=fn "__new__" "Output.__new__" (cX (stN 46) 4) .none .none (s "Create new instance of Output(data, flags)" 2134) (s "cpy313.tomllib._parser" 1905) (r 484)
noncomputable def w_(P:az):ax:=⟨(.type "dict"),none,(.dict #[e P "index" 2202 (i 0 2196),e P "__doc__" 2204 (s "Alias for field number 0" 2197)] 2),#[]⟩
noncomputable def zM(P:az):ax:=⟨(r 298),(some 526),.plain,#[]⟩
noncomputable def xL(P:az):ax:=⟨(.type "dict"),none,(.dict #[e P "index" 2212 (i 1 2206),e P "__doc__" 2214 (s "Alias for field number 1" 2207)] 2),#[]⟩
noncomputable def Ah(P:az):ax:=⟨(r 298),(some 529),.plain,#[]⟩
noncomputable def Es(P:az):ax:=⟨(.type "dict"),none,(.dict #[e P "__module__" 2113 (s "cpy313.tomllib._parser" 1905),e P "__firstlineno__" 2117 (i 331 2116),e P "__doc__" 2119 (s "Output(data, flags)" 2118),e P "__slots__" 2121 (r 476),e P "_fields" 2124 (r 477),e P "_field_defaults" 2125 (r 478),e P "__new__" 2135 (r 536),e P "_make" 2157 (r 494),e P "_replace" 2168 (r 503),e P "__replace__" 2169 (r 503),e P "__repr__" 2177 (r 510),e P "_asdict" 2184 (r 517),e P "__getnewargs__" 2192 (r 524),e P "__match_args__" 2195 (r 525),e P "data" 2205 (r 527),e P "flags" 2215 (r 530),e P "__static_attributes__" 2216 (r 532)] 2),#[]⟩
noncomputable def zx(P:az):ax:=⟨(.type "type"),none,(.cls {name:=(S "Output"),bases:=[(.type "tuple")],mro:=[(r 535),(.type "tuple"),(.type "object")],ns:=534,qualname:=(S "Output"),hasDict:=false,slotNames:=[],subclasses:=[],abstract:=false,collection:=none,hasDel:=false}),#[(some (r 468)),none,(some (s "Output" 2106)),(some (s "Output" 2114)),(some .none),(some (.bool false))]⟩
noncomputable def F_(P:az):ax:=⟨(.type "staticmethod"),none,(.fields #[(r 485)]),#[]⟩
noncomputable def HC(P:az):ax:=eC "skip_chars" 2221 373 3 0 0 3 539 2227
noncomputable def Ga(P:az):ax:=iK "skip_chars" (stN 47) 544
noncomputable def Cf(P:az):ax:=eC "skip_comment" 2242 392 2 0 0 3 553 2248
noncomputable def HK(P:az):ax:=iK "skip_comment" (stN 49) 558
noncomputable def vv(P:az):ax:=eC "key_value_rule" 2280 436 5 0 0 3 581 2297
noncomputable def Ie(P:az):ax:=iK "key_value_rule" (stN 53) 586
noncomputable def Gp(P:az):ax:=eC "parse_key_value_pair" 2300 457 3 0 0 3 588 2309
noncomputable def HL(P:az):ax:=iK "parse_key_value_pair" (stN 54) 593
noncomputable def GG(P:az):ax:=eC "parse_key" 2312 469 2 0 0 3 595 2320
noncomputable def FU(P:az):ax:=iK "parse_key" (stN 55) 600
noncomputable def C9(P:az):ax:=eC "parse_key_part" 2323 487 2 0 0 3 602 2330
noncomputable def FV(P:az):ax:=iK "parse_key_part" (stN 56) 607
noncomputable def Io(P:az):ax:=eC "parse_one_line_basic_str" 2333 501 2 0 0 3 609 2338
noncomputable def Ef(P:az):ax:=iK "parse_one_line_basic_str" (stN 57) 614
noncomputable def IF(P:az):ax:=⟨(.type "dict"),none,(.dict #[e P "multiline" 2370 (.bool false)] 1),#[]⟩
noncomputable def uJ(P:az):ax:=eC "parse_basic_str_escape" 2371 552 2 0 1 3 631 2379
noncomputable def xl(P:az):ax:=fn "parse_basic_str_escape" "parse_basic_str_escape" (stN 60) .none (r 630) .none (s "cpy313.tomllib._parser" 1905) (r 636)
noncomputable def EL(P:az):ax:=eC "parse_basic_str_escape_multiline" 2382 575 2 0 0 3 638 2387
noncomputable def Dc(P:az):ax:=iK "parse_basic_str_escape_multiline" (stN 61) 643
noncomputable def Jn(P:az):ax:=eC "parse_hex_char" 2390 577 3 0 0 3 645 2398
noncomputable def Eh(P:az):ax:=iK "parse_hex_char" (stN 62) 650
noncomputable def Cp(P:az):ax:=eC "parse_multiline_str" 2410 591 2 0 1 3 659 2419
noncomputable def Dy(P:az):ax:=iK "parse_multiline_str" (stN 64) 664
noncomputable def CP(P:az):ax:=eC "parse_basic_str" 2422 610 2 0 1 3 666 2434
noncomputable def Iy(P:az):ax:=iK "parse_basic_str" (stN 65) 671
noncomputable def Gg(P:az):ax:=eC "parse_value" 2437 640 3 0 0 3 673 2451
noncomputable def Go(P:az):ax:=iK "parse_value" (stN 66) 678
noncomputable def uy(P:az):ax:=eC "suffixed_err" 2454 683 3 0 0 3 680 2461
noncomputable def F7(P:az):ax:=fn "suffixed_err" "suffixed_err" (stN 67) .none .none (s "Return a `TOMLDecodeError` where error message is suffixed with\ncoordinates in source." 2463) (s "cpy313.tomllib._parser" 1905) (r 685)
noncomputable def EH(P:az):ax:=eC "is_unicode_scalar_value" 2465 697 1 0 0 3 687 2469
noncomputable def IU(P:az):ax:=iK "is_unicode_scalar_value" (stN 68) 692
noncomputable def Hk(P:az):ax:=eC "make_safe_parse_float" 2472 699 1 0 0 3 694 2478
noncomputable def GC(P:az):ax:=fn "make_safe_parse_float" "make_safe_parse_float" (stN 69) .none .none (s "A decorator to make `parse_float` safe.\n\n`parse_float` must not return dicts or lists, because these types\nwould be mixed with parsed TOML tables and arrays, thus confusing\nthe parser. The returned decorated callable raises `ValueError`\ninstead of returning illegal types.\n" 2480) (s "cpy313.tomllib._parser" 1905) (r 699)
noncomputable def Hr(P:az):ax:=co "_law_units" "_law_units" 2484 717 3 0 0 3 701 .none .none .none (r 703) 2487
noncomputable def EA(P:az):ax:=fn "_law_units" "_law_units" (stN 71) .none .none .none (s "law_io0026_03" 2482) (r 704)
noncomputable def JF(P:az):ax:=co "_law_sources" "_law_sources" 2490 735 1 0 0 3 706 .none .none .none (r 708) 2493
noncomputable def JM(P:az):ax:=fn "_law_sources" "_law_sources" (stN 72) .none .none .none (s "law_io0026_03" 2482) (r 709)
noncomputable def DQ(P:az):ax:=co "_law_text" "_law_text" 2496 737 1 0 0 3 711 .none .none .none (r 713) 2499
noncomputable def FY(P:az):ax:=fn "_law_text" "_law_text" (stN 73) .none .none .none (s "law_io0026_03" 2482) (r 714)
noncomputable def CL(P:az):ax:=eC "_law_right" 2502 739 3 0 0 3 716 2513
noncomputable def Il(P:az):ax:=fn "_law_right" "_law_right" (stN 74) .none .none .none (s "law_io0026_03" 2482) (r 721)
noncomputable def JP(P:az):ax:=eC "_law_tool" 2516 749 3 0 0 3 723 2534
noncomputable def JA(P:az):ax:=fn "_law_tool" "_law_tool" (stN 75) .none .none .none (s "law_io0026_03" 2482) (r 728)
noncomputable def Fo(P:az):ax:=eC "_law_list" 2537 767 3 0 0 3 730 2545
noncomputable def Jb(P:az):ax:=fn "_law_list" "_law_list" (stN 76) .none .none .none (s "law_io0026_03" 2482) (r 735)
noncomputable def Ek(P:az):ax:=eC "_law_row" 2548 777 3 0 0 3 737 2555
noncomputable def C1(P:az):ax:=fn "_law_row" "_law_row" (stN 77) .none .none .none (s "law_io0026_03" 2482) (r 742)
noncomputable def Ju(P:az):ax:=co "law" "law" 2558 780 1 0 0 3 744 .none .none .none (r 746) 2561
noncomputable def vu(P:az):ax:=fn "law" "law" (stN 78) .none .none .none (s "law_io0026_03" 2482) (r 747)
noncomputable def tQ(P:az):ax:=⟨(.type "dict"),none,(.dict #[e P "__name__" 247 (s "_sre" 246),e P "__doc__" 248 .none,e P "__package__" 250 (s "" 249),e P "__loader__" 251 (r 14),e P "__spec__" 252 (r 26),e P "compile" 253 (.builtin "_sre.compile"),e P "template" 254 (.builtin "_sre.template"),e P "getcodesize" 255 (.builtin "_sre.getcodesize"),e P "ascii_iscased" 256 (.builtin "_sre.ascii_iscased"),e P "unicode_iscased" 257 (.builtin "_sre.unicode_iscased"),e P "ascii_tolower" 258 (.builtin "_sre.ascii_tolower"),e P "unicode_tolower" 259 (.builtin "_sre.unicode_tolower"),e P "MAGIC" 261 (i 20230612 260),e P "CODESIZE" 263 (i 4 262),e P "MAXREPEAT" 265 (i 4294967295 264),e P "MAXGROUPS" 267 (i 1073741823 266),e P "copyright" 269 (s " SRE 2.2.2 Copyright (c) 1997-2002 by Secret Labs AB " 268)] 17),#[]⟩
noncomputable def yY(P:az):ax:=⟨(.type "dict"),none,(.dict #[e P "__name__" 296 (s "_collections" 295),e P "__doc__" 297 (.builtin "_collections.__doc__:str#opaque"),e P "__package__" 299 (s "" 298),e P "__loader__" 300 (r 14),e P "__spec__" 301 (r 33),e P "_count_elements" 302 (.builtin "_collections._count_elements"),e P "deque" 303 (.type "collections.deque"),e P "defaultdict" 304 (.type "collections.defaultdict"),e P "_deque_iterator" 305 (.type "collections._deque_iterator"),e P "_deque_reverse_iterator" 306 (.type "collections._deque_reverse_iterator"),e P "_tuplegetter" 307 (.type "collections._tuplegetter"),e P "OrderedDict" 308 (.type "collections.OrderedDict")] 12),#[]⟩
noncomputable def z_(P:az):ax:=⟨(.type "dict"),none,(.dict #[e P "__name__" 400 (s "_datetime" 399),e P "__doc__" 402 (s "Fast implementation of the datetime type." 401),e P "__package__" 404 (s "" 403),e P "__loader__" 405 (r 51),e P "__spec__" 406 (r 54),e P "__file__" 407 (s "/nix/store/wj1f56qky4pmjc7l0r6b6l7whnnw7hp6-python3-3.13.15/lib/python3.13/lib-dynload/_datetime.cpython-313-x86_64-linux-gnu.so" 327),e P "date" 408 (.type "datetime.date"),e P "datetime" 409 (.type "datetime.datetime"),e P "time" 410 (.type "datetime.time"),e P "timedelta" 411 (.type "datetime.timedelta"),e P "tzinfo" 412 (.type "datetime.tzinfo"),e P "timezone" 413 (.type "datetime.timezone"),e P "MINYEAR" 415 (i 1 414),e P "MAXYEAR" 417 (i 9999 416),e P "UTC" 420 (r 56),e P "datetime_CAPI" 421 (.builtin "_datetime.datetime_CAPI#opaque")] 16),#[]⟩
noncomputable def zP(P:az):ax:=⟨(.type "dict"),none,(.dict #[e P "__name__" 462 (s "_functools" 461),e P "__doc__" 464 (s "Tools that operate on functions." 463),e P "__package__" 466 (s "" 465),e P "__loader__" 467 (r 14),e P "__spec__" 468 (r 62),e P "reduce" 469 (.builtin "_functools.reduce"),e P "cmp_to_key" 470 (.builtin "_functools.cmp_to_key"),e P "partial" 471 (.type "functools.partial"),e P "_lru_cache_wrapper" 472 (.type "functools._lru_cache_wrapper")] 9),#[]⟩
noncomputable def DG(P:az):ax:=⟨(.type "module"),(some 29),.plain,#[]⟩
noncomputable def IV(P:az):ax:=⟨(.type "module"),(some 35),.plain,#[]⟩
noncomputable def Gu(P:az):ax:=⟨(.type "module"),(some 58),.plain,#[]⟩
noncomputable def lj(m:String)(o:ax):ax:=(Ko (S m) ((Kp (S m)).getD []) o).getD o
noncomputable def Ol(P:az):ax:=lj "_sre" (tQ P)
end
noncomputable section
abbrev EM:=End×Nat×Nat×List (Option ax)×List de×List (Option (List af))
noncomputable def obs(N:bE)(Gs:Gh)(e:End)(K:KT)(n tk:Nat)(gl:List de)(G:Gh):EM:=(e,n,tk,N.map λp=>K.get p.1,gl,Gs.map λq=>fO G q.1)
noncomputable def val(N:bE)(Gs:Gh)(n tk:Nat)(gl:List de):EM:=(.ret (.ok .next),n,tk,N.map λp=>some p.2,gl,Gs.map λq=>some q.2)
noncomputable def qO(prog:iC)(w:aR)(ok:Nat->Bool):Kn:=⟨Cx,IK,prog,w.params,ok⟩
structure Bk where
 n:Nat
 tk:Nat
 gl:List de
 F:az->bE
 G:Gh
noncomputable def Bk.next(B:Bk)(n tk:Nat)(gl:List de)(N:az->bE)(Gs:Gh):Bk:=⟨n,tk,gl,λP=>N P++(B.F P).filter λp=>!jf p.1,Gs++B.G⟩
structure fq(B:Bk)(w:aR)(s:ai):Prop where
 size:s.heap.objs.size=B.n
 toks:s.toks=B.tk
 gens:s.gens=⟨B.gl⟩
 objs:∀p∈B.F w.params,s.heap.get? p.1=some p.2
 sets:∀q∈B.G,bS w s.heap q.1 q.2
theorem uS{α β:Type}{f g:α->β}{l:List α}(h:l.map f=l.map g):∀x∈l,f x=g x:=by
 induction l with
 | nil=>exact λZ h=>nomatch h
 | cons a l ih=>
  intro x hx
  replace h:=cJ▸cJ▸h
  rcases cB.mp hx with rfl | hx
  .exact(vZ h).1
  .exact ih (vZ h).2 x hx
theorem Rt{G:Gh}{a:Nat}{L:List af}(h:fO G a=some L):(a,L)∈G:=by
 induction G with
 | nil=>exact nomatch h
 | cons q G ih=>
  rcases yl (a:=q.1) (L:=q.2) h with⟨h1,h2⟩ | ⟨_,h⟩
  .exact h1▸h2▸.head _
  .exact .tail _ (ih h)
theorem TI{h:am}{F:bE}(H:∀p,p∈F->h.get? p.1=some p.2):AllIn h F:=by
 induction F with
 | nil=>exact trivial
 | cons p F ih=>exact Yg (H p (.head _)) (ih λq hq=>H q (.tail _ hq))
theorem Fg{F:bE}{a:aj}{o:ax}(h:F.lookup a=some o):(a,o)∈F:=by
 induction F with
 | nil=>exact nomatch h
 | cons q F ih=>
  rewrite[AI] at h
  cases e:a==q.1 with
  | true=>replace h:=e▸h;rw[eq_of_beq e];refine(λj0=>?_) (bj h);clear h;subst j0;exact .head _
  | false=>replace h:=e▸h;exact .tail _ (ih h)
theorem fq.get{B:Bk}{w:aR}{s:ai}(A:fq B w s)(a:aj){o:ax}(h:(B.F w.params).lookup a=some o):s.heap.get? a=some o:=A.objs _ (Fg h)
theorem Old.of{ok ok':Nat->Bool}{s s':ai}(k:Old ok s s')(h:∀b o,s.heap.get? b=some o->ok' b=false->ok b=false):Old ok' s s':=⟨λb o e q=>k.old b o e (h b o e q),k.drawn,k.os⟩
theorem RP{ok:Nat->Bool}{n b:Nat}{s:ai}{o:ax}(hn:s.heap.objs.size=n)(h:s.heap.get? b=some o)(q:ok b=false):n9 ok n b=false:=by
 unfold n9
 cases e:Km n b with
 | false=>exact q
 | true=>exact absurd (Yh e) (hn▸JT.mpr (dR h))
theorem zm{prog:iC}{w:aR}{ok:Nat->Bool}{Γ:eY}{p:aT}{T:bf Fin}{B:Bk}{N:bE}{Gs:Gh}{n' t':Nat}{gl':List de}{s:ai}
  (H:∀os,ev (qO prog w (n9 ok B.n)) 1000000 Γ p T (λe K n tk gl G Z=>obs N Gs e K n tk gl G=val N Gs n' t' gl') (KT.of (B.F w.params)) B.n B.tk B.gl B.G os=(val N Gs n' t' gl'=val N Gs n' t' gl')) (A:fq B w s) :
  wq (av prog w) Γ p T s λr s'=>r = .ok .next/\fq ⟨n',t',gl',λZ=>N,Gs⟩ w s'/\Old ok s s':=by
 refine uW (NV (k:=qO prog w (n9 ok B.n)) (aV:=s) U9 O0 rfl 1000000 (λos=>H os▸rfl) ⟨A.size,A.toks,A.gens,λa o e=>kt_at (holds_of (TI A.objs)) e,λa L e=>A.sets _ (Rt e),λZ Z e Z=>e,rfl,rfl⟩ λe K n tk gl G s' h D=>?_)
 have h:=h i_
 unfold obs val at h
 simp only[AJ] at h
 refine mx h λe1 e2 e3 e4 e5 e6=>?_;clear h
 exact(aw _ e1 ⟨rfl,⟨D.size.trans e2,D.toks.trans e3,e5▸D.gens,λp hp=>D.kt _ _ (uS e4 p hp),λq hq=>D.gh _ _ (uS e6 q hq)⟩,D.kept.of λb o e q=>RP A.size e q⟩)
theorem Old.at{ok:Nat->Bool}{B:Bk}{w:aR}{s s':ai}{n' t':Nat}{gl':List de}{N:az->bE}{Gs:Gh}(k:Old jf s s')(A:fq B w s)(A':fq ⟨n',t',gl',λZ=>N w.params,Gs⟩ w s')(hG:(B.G.all λq=>!jf q.1)=true):fq (B.next n' t' gl' N Gs) w s':=by
 refine⟨A'.size,A'.toks,A'.gens,λp hp=>?_,λq hq=>?_⟩
 .rcases jp.mp hp with h | h
  .exact A'.objs p h
  .exact k.old _ _ (A.objs p (Yi.mp h).1) (rU (Yi.mp h).2)
 .rcases jp.mp hq with h | h
  .exact A'.sets q h
  .exact(A.sets q h).keep λo e=>k.old _ _ e (rU (fE.mp hG q h))
noncomputable def S7(f:i5):bf Fin:=.pure (.done f)
noncomputable def treeOf(sts:List bA)(env:bB):bf Fin:=wb (C4 sts env) S7
def oh(w:aR)(B:Bk)(n' t':Nat)(gl':List de)(N:az->bE)(Gs:Gh)(i k:Nat):Prop:=∀p os,ev (qO pw w (n9 jf B.n)) 1000000 G1 p (treeOf (chunk i k) ku) (λe K n tk gl G Z=>obs (N w.params) Gs e K n tk gl G=val (N w.params) Gs n' t' gl') (KT.of (B.F w.params)) B.n B.tk B.gl B.G os=(val (N w.params) Gs n' t' gl'=val (N w.params) Gs n' t' gl')
def Hp(B:Bk)(n' t':Nat)(gl':List de)(N:az->bE)(Gs:Gh)(i k:Nat):Prop:=∀w,oh w B n' t' gl' N Gs i k
section
variable {B:Bk}{n' t':Nat}{gl':List de}{N:az->bE}{Gs:Gh}{i k:Nat}
theorem Hp.two(x:String)(h0:∀w:aR,oh (w.withFollow x false) B n' t' gl' N Gs i k)(h1:∀w:aR,oh (w.withFollow x true) B n' t' gl' N Gs i k):Hp B n' t' gl' N Gs i k:=byRow2 x h0 h1
theorem EU{y:String}{b:Bool}(h0:∀w:aR,oh ((w.withFollow "comprehension-iter-twice" false).withFollow y b) B n' t' gl' N Gs i k)(h1:∀w:aR,oh ((w.withFollow "comprehension-iter-twice" true).withFollow y b) B n' t' gl' N Gs i k)(w:aR) :
  oh (w.withFollow y b) B n' t' gl' N Gs i k:=byRow2 (P:=λw=>oh (w.withFollow y b) B n' t' gl' N Gs i k) "comprehension-iter-twice" h0 h1 w
set_option backward.match.sparseCases true in
theorem Dl{M:cP}{Γ:eY}{env:bB}{Q:i5->aT->ai->Prop}{E:ag->aT->ai->Prop}(b:List bA):∀(a:List bA) (p:aT) (s:ai),
  cj M Γ (jt a env) (λfl p' s'=>fl = .next/\cj M Γ (jt b env) Q E p' s') E p s->cj M Γ (jt (a++b) env) Q E p s
 | [],p,s,h=>by
  have h:cj M Γ (Ka AK) _ _ p s:=h
  rewrite[cj] at h
  exact h.2
 | st::a,p,s,h=>by
  have h:cj M Γ ((exec st env) >>= λf=>match f with | .next=>jt a env | f=>pure f) _ _ p s:=h
  replace h:=(ic ..)▸h
  show cj M Γ ((exec st env) >>= λf=>match f with | .next=>jt (a++b) env | f=>pure f) _ _ p s
  rw[ic]
  refine ib _ _ _ (λf p' s' q=>?_) (λZ Z Z q=>q) _ _ h
  cases f with
  | next=>exact Dl b a p' s' q
  | _=>replace q:=(AL ..)▸q;exact nomatch q.1
abbrev Nk(B:Bk)(w:aR)(aV:ai):i5->aT->ai->Prop:=λfl Z s'=>fl = .next/\fq B w s'/\Old jf aV s'
def Tp(E:Bk)(i:Nat)(B:Bk):Prop:=∀(w:aR) (p:aT) (aV s:ai),fq B w s->Old jf aV s->cj (av pw w) G1 (jt (body.drop i) ku) (Nk E w aV) (λZ Z Z=>False) p s
theorem chain{E:Bk}(H:Hp B n' t' gl' N Gs i k)(h:Tp E (i+k) (B.next n' t' gl' N Gs))(hG:(B.G.all λq=>!jf q.1)=true:=by rfl):Tp E i B:=by
 intro w p aV s A o
 have H':=zm (ok:=jf) (N:=N w.params) (H w p) A
 unfold wq at H'
 unfold treeOf at H'
 replace H':=(bR AH:_)▸Qn▸H';replace H':=(qh ..)▸H'
 rw[(by unfold chunk;rw[<-we,sO]:body.drop i=chunk i k++body.drop (i+k))]
 refine Dl _ _ _ _ (ib _ _ _ (λfl p' s' q=>?_) (λZ Z Z q=>nomatch q.1) _ _ H')
 obtain ⟨q1,q2,q3⟩:Except.ok fl = .ok AK/\_:=q
 cases q1
 exact⟨rfl,h w p' aV s' (q3.at (ok:=jf) A q2 hG) ⟨λb o' x y=>q3.old b o' (o.old b o' x y) y,q3.drawn.trans o.drawn,q3.os.trans o.os⟩⟩
theorem Tp.last{B:Bk}(e:body.drop i=[]):Tp B i B:=by
 intro w p aV s A o
 rw[e]
 show cj _ _ (Ka AK) _ _ p s
 rw[cj]
 exact⟨rfl,A,o⟩
end
noncomputable def B0:Bk:=⟨67,488,[],λP=>[(0,o0 P),(1,o1 P),(2,o2 P),(3,o3 P),(4,o4 P),(11,Ol P),(12,xT P),(64,Dk P),(65,Ji P)],[]⟩
noncomputable def N0(P:az):bE:=[(3,SU P),(64,zn P),(98,TE P)]
noncomputable def B1:Bk:=B0.next 103 537 [] N0 []
noncomputable def N1(P:az):bE:=[(3,Xk P),(64,zn P)]
noncomputable def B2:Bk:=B1.next 108 793 [] N1 []
noncomputable def N2(P:az):bE:=[(3,Ph P),(64,zn P)]
noncomputable def B3:Bk:=B2.next 113 906 [] N2 []
noncomputable def N3(P:az):bE:=[(3,Wl P),(64,V7 P)]
noncomputable def B4:Bk:=B3.next 125 1238 [] N3 []
noncomputable def N4(P:az):bE:=[(3,Pz P),(64,Xh P),(127,Xo P),(133,Qb P),(134,W_ P)]
noncomputable def B5:Bk:=B4.next 135 1261 [] N4 []
noncomputable def N5(P:az):bE:=[(3,TN P),(64,Sa P)]
noncomputable def B6:Bk:=B5.next 202 1372 [] N5 []
noncomputable def N6(P:az):bE:=[(3,Nt P),(64,WB P),(204,NM P),(202,Ts P),(208,Ws P),(209,S0 P)]
noncomputable def B7:Bk:=B6.next 210 1389 [] N6 []
noncomputable def N7(P:az):bE:=[(3,Xr P),(64,RQ P)]
noncomputable def B8:Bk:=B7.next 246 1456 [] N7 []
noncomputable def N8(P:az):bE:=[(3,Qo P),(64,IM P),(272,Uy P),(273,V0 P),(274,CR P),(280,DF P),(281,y6 P),(288,Gz P),(297,II P),(298,Fl P)]
noncomputable def B9:Bk:=B8.next 303 1535 [] N8 []
noncomputable def N9(P:az):bE:=[(3,PN P),(64,IM P)]
noncomputable def JG:Bk:=B9.next 303 1538 [] N9 []
noncomputable def FF(P:az):bE:=[(3,MY P),(64,kM P)]
noncomputable def DM:Bk:=JG.next 320 1682 [.finished] FF [(319,uT)]
noncomputable def Iw(P:az):bE:=[(3,NT P),(64,kM P)]
noncomputable def C5:Bk:=DM.next 325 1686 [.finished] Iw [(324,qQ)]
noncomputable def Hn(P:az):bE:=[(3,OF P),(64,kM P)]
noncomputable def G7:Bk:=C5.next 330 1692 [.finished] Hn [(329,rO)]
noncomputable def Hl(P:az):bE:=[(3,Ub P),(64,kM P)]
noncomputable def CH:Bk:=G7.next 330 1695 [.finished] Hl []
noncomputable def D6(P:az):bE:=[(3,Mv P),(64,kM P)]
noncomputable def FM:Bk:=CH.next 334 1701 [.finished] D6 [(330,bG)]
noncomputable def El(P:az):bE:=[(3,Sl P),(64,kM P)]
noncomputable def E6:Bk:=FM.next 339 1705 [.finished] El [(338,fK)]
noncomputable def Fd(P:az):bE:=[(3,Wq P),(64,kM P)]
noncomputable def C':Bk:=E6.next 339 1718 [.finished] Fd []
noncomputable def C2(P:az):bE:=[(3,UF P),(64,kM P)]
noncomputable def FP:Bk:=C'.next 343 1850 [.finished] C2 [(339,nR)]
noncomputable def Ht(P:az):bE:=[(3,Nh P),(64,kM P)]
noncomputable def Iv:Bk:=FP.next 348 1856 [.finished] Ht [(347,pP)]
noncomputable def I_(P:az):bE:=[(3,Pu P),(64,kM P)]
noncomputable def JQ:Bk:=Iv.next 352 1901 [.finished] I_ [(348,gp)]
noncomputable def HI(P:az):bE:=[(3,Wz P),(64,Nu P),(353,sd P),(354,EC P),(363,uD P),(364,zZ P)]
noncomputable def Hd:Bk:=JQ.next 368 1949 [.finished] HI []
noncomputable def Gi(P:az):bE:=[(3,Ud P),(64,MH P),(368,JE P),(374,GF P),(375,EP P)]
noncomputable def Fc:Bk:=Hd.next 376 1965 [.finished] Gi []
noncomputable def Ey(P:az):bE:=[(3,Rf P),(64,Rk P),(388,IJ P),(389,Af P),(423,Jf P),(424,za P),(426,Ee P),(427,Eb P)]
noncomputable def EG:Bk:=Fc.next 432 2055 [.finished] Ey []
noncomputable def H_(P:az):bE:=[(3,VA P),(64,VE P),(444,Di P),(445,xd P),(446,FN P),(452,CS P),(453,yz P),(462,F5 P),(463,Fx P)]
noncomputable def HA:Bk:=EG.next 468 2106 [.finished] H_ []
noncomputable def Eo(P:az):bE:=[(3,RK P),(64,Ov P),(484,Dm P),(485,x6 P),(526,w_ P),(527,zM P),(529,xL P),(530,Ah P),(534,Es P),(535,zx P),(536,F_ P)]
noncomputable def IW:Bk:=HA.next 539 2221 [.finished] Eo []
noncomputable def EY(P:az):bE:=[(3,W2 P),(64,PK P),(582,HO P),(544,HC P),(545,Ga P),(558,Cf P),(559,HK P),(586,vv P),(587,Ie P),(593,Gp P),(594,HL P),(600,GG P),(601,FU P),(607,C9 P),(608,FV P),(614,Io P),(615,Ef P)]
noncomputable def DH:Bk:=IW.next 623 2353 [.finished] EY []
noncomputable def Iq(P:az):bE:=[(3,WL P),(64,UX P),(681,HO P),(630,IF P),(636,uJ P),(637,xl P),(643,EL P),(644,Dc P),(650,Jn P),(651,Eh P),(664,Cp P),(665,Dy P),(671,CP P),(672,Iy P),(678,Gg P),(679,Go P),(685,uy P),(686,F7 P),(692,EH P),(693,IU P),(699,Hk P),(700,GC P)]
noncomputable def Fk:Bk:=DH.next 701 2484 [.finished] Iq []
noncomputable def Cz(P:az):bE:=[(3,lE P),(64,gq P),(704,Hr P),(705,EA P),(709,JF P),(710,JM P),(714,DQ P),(715,FY P),(721,CL P),(722,Il P),(728,JP P),(729,JA P),(735,Fo P),(736,Jb P),(742,Ek P),(743,C1 P),(747,Ju P),(748,vu P)]
noncomputable def gZ:Bk:=Fk.next 749 2564 [.finished] Cz []
theorem H0:Hp B0 103 537 [] N0 [] 0 3:=λw p os=>by kernel_rfl
theorem H1:Hp B1 108 793 [] N1 [] 3 1:=.two "special-get-raises" (λw p os=>by kernel_rfl) λw p os=>by kernel_rfl
theorem H2:Hp B2 113 906 [] N2 [] 4 1:=λw p os=>by kernel_rfl
theorem H3:Hp B3 125 1238 [] N3 [] 5 2:=λw p os=>by kernel_rfl
theorem H4:Hp B4 135 1261 [] N4 [] 7 4:=λw p os=>by kernel_rfl
theorem H5:Hp B5 202 1372 [] N5 [] 11 1:=λw p os=>by kernel_rfl
theorem H6:Hp B6 210 1389 [] N6 [] 12 3:=λw p os=>by kernel_rfl
theorem H7:Hp B7 246 1456 [] N7 [] 15 1:=.two "special-get-raises" (λw p os=>by kernel_rfl) λw p os=>by kernel_rfl
theorem H8:Hp B8 303 1535 [] N8 [] 16 4:=λw p os=>by kernel_rfl
theorem H9:Hp B9 303 1538 [] N9 [] 20 2:=λw p os=>by kernel_rfl
theorem QD:Hp JG 320 1682 [.finished] FF [(319,uT)] 22 1:=.two "special-get-raises" (EU (λw p os=>by kernel_rfl) λw p os=>by kernel_rfl) (EU (λw p os=>by kernel_rfl) λw p os=>by kernel_rfl)
theorem Ri:Hp DM 325 1686 [.finished] Iw [(324,qQ)] 23 1:=.two "special-get-raises" (λw p os=>by kernel_rfl) λw p os=>by kernel_rfl
theorem VN:Hp C5 330 1692 [.finished] Hn [(329,rO)] 24 1:=.two "special-get-raises" (λw p os=>by kernel_rfl) λw p os=>by kernel_rfl
theorem PB:Hp G7 330 1695 [.finished] Hl [] 25 3:=λw p os=>by kernel_rfl
theorem WV:Hp CH 334 1701 [.finished] D6 [(330,bG)] 28 1:=.two "special-get-raises" (λw p os=>by kernel_rfl) λw p os=>by kernel_rfl
theorem R9:Hp FM 339 1705 [.finished] El [(338,fK)] 29 1:=.two "special-get-raises" (λw p os=>by kernel_rfl) λw p os=>by kernel_rfl
theorem UG:Hp E6 339 1718 [.finished] Fd [] 30 5:=λw p os=>by kernel_rfl
theorem U_:Hp C' 343 1850 [.finished] C2 [(339,nR)] 35 1:=.two "special-get-raises" (λw p os=>by kernel_rfl) λw p os=>by kernel_rfl
theorem Sx:Hp FP 348 1856 [.finished] Ht [(347,pP)] 36 1:=.two "special-get-raises" (λw p os=>by kernel_rfl) λw p os=>by kernel_rfl
theorem MI:Hp Iv 352 1901 [.finished] I_ [(348,gp)] 37 1:=.two "special-get-raises" (λw p os=>by kernel_rfl) λw p os=>by kernel_rfl
theorem QZ:Hp JQ 368 1949 [.finished] HI [] 38 5:=.two "special-get-raises" (λw p os=>by kernel_rfl) λw p os=>by kernel_rfl
theorem Pr:Hp Hd 376 1965 [.finished] Gi [] 43 1:=λw p os=>by kernel_rfl
theorem Qh:Hp Fc 432 2055 [.finished] Ey [] 44 1:=λw p os=>by kernel_rfl
theorem MV:Hp EG 468 2106 [.finished] H_ [] 45 1:=λw p os=>by kernel_rfl
theorem SR:Hp HA 539 2221 [.finished] Eo [] 46 1:=λw p os=>by kernel_rfl
theorem Vz:Hp IW 623 2353 [.finished] EY [] 47 12:=λw p os=>by kernel_rfl
theorem WA:Hp DH 701 2484 [.finished] Iq [] 59 12:=λw p os=>by kernel_rfl
theorem RI:Hp Fk 749 2564 [.finished] Cz [] 71 8:=λw p os=>by kernel_rfl
theorem T0:Tp gZ 0 B0:=chain H0 (chain H1 (chain H2 (chain H3 (chain H4 (chain H5 (chain H6 (chain H7 (chain H8 (chain H9 (chain QD (chain Ri (chain VN (chain PB (chain WV (chain R9 (chain UG (chain U_ (chain Sx (chain MI (chain QZ (chain Pr (chain Qh (chain MV (chain SR (chain Vz (chain WA (chain RI (.last (by kernel_rfl)))))))))))))))))))))))))))))
end
end
section
open PySem PySem.W PySem.W.X
noncomputable section
noncomputable def Gk:ia->bf Fin
 | .builtin id a=>cond (id=="proto.exit.begin"&&(decide (a.pos=[.int 3 0])&&a.kw.isEmpty)) (.pure (.done .next)) (.unsupported "")
 | _=>.unsupported ""
noncomputable def FQ:Fin->bf Fin
 | .again c=>Gk c
 | .done _=>.unsupported ""
noncomputable def OO:eY:=⟨.builtin "boot" {},none,none,[],none⟩
noncomputable def qK(_:Nat):Bool:=false
noncomputable abbrev Dx:iC->bf Fin:=PySem.W.Fast.tw2477092760451715423
theorem RG:Dx=boot:=PySem.W.Fast.te2477092760451715423.symm
noncomputable def BS:Bk:=⟨0,1,[],λZ=>[],[]⟩
noncomputable def NB(P:az):bE:=[(0,o0 P),(1,o1 P),(2,o2 P),(3,o3 P),(4,o4 P),(11,tQ P),(12,xT P),(29,yY P),(30,DG P),(35,z_ P),(36,IV P),(58,zP P),(59,Gu P)]
theorem HB(w:aR)(os:fc):ev (qO (opening pw) w (n9 qK BS.n)) 1000000 OO ⟨0,0,0,0⟩ (wb (Dx (opening pw)) FQ) (λe K n tk gl G Z=>obs (NB w.params) [] e K n tk gl G=val (NB w.params) [] 63 482 []) (KT.of (BS.F w.params)) BS.n BS.tk BS.gl BS.G os=(val (NB w.params) [] 63 482 []=val (NB w.params) [] 63 482 []):=by kernel_rfl
theorem zX{α:Type}{x:String}{M:cP}{Γ:eY}{Q:α->aT->ai->Prop}{E:ag->aT->ai->Prop}{p:aT}{s:ai}{G:Prop}(h:cj M Γ (.unsupported x) Q E p s):G:=by
 rewrite[cj] at h;exact h.elim
theorem zi{α:Type}{b:Bool}{m:bf α}{x:String}{M:cP}{Γ:eY}{Q:α->aT->ai->Prop}{E:ag->aT->ai->Prop}{p:aT}{s:ai}(h:cj M Γ (cond b m (.unsupported x)) Q E p s):b=true/\cj M Γ m Q E p s:=by
 cases b with
 | true=>exact⟨rfl,h⟩
 | false=>exact zX h
theorem Wd{c:ia}{M:cP}{Γ:eY}{Q:Fin->aT->ai->Prop}{E:ag->aT->ai->Prop}{p:aT}{s:ai}
  (h:cj M Γ (Gk c) Q E p s):c = .builtin "proto.exit.begin" ⟨[bW eK],[]⟩/\cj M Γ (.pure (.done .next)) Q E p s:=by
 cases c with
 | builtin id a=>
  refine aN (zi h) λq h2=>?_
  refine aN (ff.mp q) λq1 q=>?_
  refine aN (ff.mp q) λq2 q3=>?_
  obtain ⟨ps,kw⟩:=a
  exact⟨by rw[eq_of_beq q1,show ps=_ from of_decide_eq_true q2,show kw=[] from AM.mp q3];rfl,h2⟩
 | _=>exact zX h
theorem Q_{fin:Fin}{M:cP}{Γ:eY}{E:ag->aT->ai->Prop}{p:aT}{s:ai}{R:gU->ai->Prop}
  (h:cj M Γ (FQ fin) (AG M Γ R) E p s):fin = .again (.builtin "proto.exit.begin" ⟨[bW eK],[]⟩)/\R (.ok .next) s:=by
 cases fin with
 | again c=>
  refine aN (Wd h) λe h=>?_
  rewrite[cj] at h
  exact⟨aI _ e,h⟩
 | done f=>exact zX h
def Pt(F:az->bE)(w:aR)(s:ai):Prop:=fq ⟨63,482,[],F,[]⟩ w s/\s.drawn={}/\s.os=(start (opening pw)).1.os
theorem Wf(w:aR):cj (av (opening pw) w) (Ctx.of (.builtin "boot" {}) []) (boot (opening pw))
  (λfin Z s'=>fin = .again (.builtin "proto.exit.begin" ⟨[bW eK],[]⟩)/\Pt NB w s'/\s'.gens = #[]) (λZ Z Z=>False) default (start (opening pw)).1:=by
 have H:=zm (ok:=qK) (HB w) (s:=(start (opening pw)).1) ⟨rfl,rfl,rfl,λZ h=>(nomatch h),λZ h=>(nomatch h)⟩
 unfold wq at H
 replace H:=RG▸(bR AH:_)▸H;replace H:=(qh ..)▸H
 refine ib _ _ _ (λfin p' s' h=>?_) (λe p' s' h=>nomatch h.1) _ _ H
 refine jO (Q_ h) λe Z A k=>?_
 exact⟨e,⟨⟨A.size,A.toks,A.gens,A.objs,A.sets⟩,k.drawn,k.os⟩,A.gens⟩
theorem Eg(w:aR):(∃s,AfterRun (opening pw) w s)/\∀s,AfterRun (opening pw) w s->Pt NB w s:=AfterImport.of_wp (Wf w)
noncomputable def rF(D:Nat)(o':ax)(F:bE):bE:=F.map λp=>cond (fR p.1 D) (D,o') p
set_option backward.match.sparseCases true in
theorem u9{F:az->bE}{w:aR}{s:ai}{m:String}{a D:aj}{o om:ax}{od:az->ax}(A:Pt F w s)(h0:(F w.params).lookup 1=some om)(h1:(match om.data with | .dict es _=>(es.find? (·.key.isStr (S m))).map (·.val) | _=>none)=some (.ref a))
  (h3:(F w.params).lookup a=some o) (h4:o.dict=some D) (h5:(F w.params).lookup D=some (od w.params)) (h2:((Kp (S m)).isSome,(Ko (S m) ((Kp (S m)).getD []) (od w.params)).isSome,(lj m (od w.params)).isFreed)=(true,true,false)) :
  ∃s',fenceModule? (S m) s=some s'/\Pt (λP=>rF D (lj m (od P)) (F P)) w s'/\s'.heap.life=s.heap.life:=by
 refine(λj1=>?_) A;clear A;refine eO j1 λA hd ho=>?_;clear j1
 replace h2:=(AJ ..)▸h2;replace h2:=(AJ ..)▸h2
 refine aP (mL.mp h2.1) λrow e2=>?_
 refine aP (mL.mp h2.2.1) λod' e6=>?_
 have ef:lj m (od w.params)=od':=by unfold lj;rw[e6];rfl
 replace e6:=e2▸e6
 have g5:=A.get D h5
 have hs:cW D s.heap (s.heap.update D λZ=>od'):=j_ ..
 refine(bh {s with heap:=s.heap.update D λZ=>od'} ?_ ⟨⟨hs.1.trans A.size,A.toks,A.gens,λp hp=>?_,λZ h=>(nomatch h)⟩,hd,ho⟩ (by cases s.heap;rfl))
 .unfold fenceModule?
  have:boundIn s.heap oE (S m)=some (.ref a):=by
   unfold boundIn
   rw[show s.heap.get? oE=some om from A.get 1 h0];exact h1
  rw[this,e2]
  dsimp only
  rw[A.get a h3]
  dsimp only
  rw[h4]
  dsimp only
  rw[g5]
  dsimp only
  rw[show Ko (S m) row (od w.params)=some od' from e6];rfl
 .refine aC (cO.mp hp) λq hq j1=>?_;subst j1
  rw[pu,ef]
  by_cases c:q.1=D
  .rw[aA c]
   exact iZ (λZ=>od') g5 (ef▸h2.2.2)
  .rw[an c]
   exact(hs.2 _ c).trans (A.objs q hq)
theorem Vg:AN pw.main.body=[S "_sre",S "_collections",S "_datetime",S "_functools"]:=by kernel_rfl
theorem WE:pw.main.body.any namesNumpy=false:=by kernel_rfl
noncomputable def R4(P:az):bE:=rF 58 (lj "_functools" (zP P)) (rF 35 (lj "_datetime" (z_ P)) (rF 29 (lj "_collections" (yY P)) (rF 11 (lj "_sre" (tQ P)) (NB P))))
theorem Rw(w:aR){s:ai}(h:Pt NB w s):∃aV,fenceModules? pw s=some aV/\Pt R4 w aV/\aV.heap.life=s.heap.life:=by
 refine br (u9 (m:="_sre") (a:=12) (D:=11) (o:=xT w.params) (om:=o1 w.params) (od:=tQ) h (by kernel_rfl) (by kernel_rfl) (by kernel_rfl) (by kernel_rfl) (by kernel_rfl) (by kernel_rfl)) λs1 f1 A1 l1=>?_
 refine br (u9 (m:="_collections") (a:=30) (D:=29) (o:=DG w.params) (om:=o1 w.params) (od:=yY) A1 (by kernel_rfl) (by kernel_rfl) (by kernel_rfl) (by kernel_rfl) (by kernel_rfl) (by kernel_rfl)) λs2 f2 A2 l2=>?_
 refine br (u9 (m:="_datetime") (a:=36) (D:=35) (o:=IV w.params) (om:=o1 w.params) (od:=z_) A2 (by kernel_rfl) (by kernel_rfl) (by kernel_rfl) (by kernel_rfl) (by kernel_rfl) (by kernel_rfl)) λs3 f3 A3 l3=>?_
 refine br (u9 (m:="_functools") (a:=59) (D:=58) (o:=Gu w.params) (om:=o1 w.params) (od:=zP) A3 (by kernel_rfl) (by kernel_rfl) (by kernel_rfl) (by kernel_rfl) (by kernel_rfl) (by kernel_rfl)) λs4 f4 A4 l4=>?_
 refine(bh s4 ?_ A4 (l4.trans (l3.trans (l2.trans l1))))
 unfold fenceModules?
 rw[Vg]
 simp only[fenceAll?,f1,f2,f3,f4,kO,WE,AP,↓reduceIte]
noncomputable def M_:List (ia×aT)->aT
 | x::_=>x.2
 | []=>default
noncomputable def D_(code:ag)(fr:aj):bf Fin:=cond (decide (code = .ref 65)&&fR fr 66) (.stack λst=>cond (decide (M_ st=⟨0,0,0,0⟩)) (.pure (.done .next)) (.unsupported "")) (.unsupported "")
noncomputable def BF:Bk:=⟨63,482,[],R4,[]⟩
noncomputable def NS(P:az):bE:=[(64,Dk P),(65,Ji P)]
theorem HS(w:aR)(os:fc):ev (qO pw w (n9 qK BF.n)) 1000000 G0 ⟨0,0,0,0⟩ (wb (PySem.W.Fast.tw17154629097778926822 pw.main pw.main.file none) λcode=>wb (PySem.W.Fast.tw12822647523644345616 code fh fh jv) λfr=>D_ code fr)
  (λe K n tk gl G Z=>obs (NS w.params) [] e K n tk gl G=val (NS w.params) [] 67 488 []) (KT.of (BF.F w.params)) BF.n BF.tk BF.gl BF.G os=(val (NS w.params) [] 67 488 []=val (NS w.params) [] 67 488 []):=by kernel_rfl
theorem Th{code:ag}{fr:aj}{M:cP}{Γ:eY}{E:ag->aT->ai->Prop}{p:aT}{s:ai}{R:gU->ai->Prop}
  (h:cj M Γ (D_ code fr) (AG M Γ R) E p s):code = .ref 65/\fr=66/\p=⟨0,0,0,0⟩/\R (.ok .next) s:=by
 refine aN (zi h) λq h=>?_
 refine aN (ff.mp q) λq1 q2=>?_
 rewrite[cj] at h
 refine aN (zi h) λq3 h=>?_
 rewrite[cj] at h
 exact(ud (of_decide_eq_true q1) (JU q2) (of_decide_eq_true q3) h)
theorem QA(w:aR){s:ai}(h:Pt R4 w s):cj (av pw w) G0 (moduleCode pw.main) (λcode p' s'=>cj (av pw w) G0 (newBodyFrame code fh fh) (λfr p'' s'=>code = .ref 65/\fr=66/\p''=⟨0,0,0,0⟩/\fq B0 w s'/\Old qK s s') (λZ Z Z=>False) p' s') (λZ Z Z=>False) ⟨0,0,0,0⟩ s:=by
 have H:=zm (ok:=qK) (HS w) h.1
 unfold wq at H
 replace H:=(bR PySem.W.Fast.te12822647523644345616:_)▸(bR PySem.W.Fast.te17154629097778926822:_)▸(bR AH:_)▸H;replace H:=(qh ..)▸H
 refine ib _ _ _ (λcode p' s' h'=>?_) (λe p' s' h=>nomatch h.1) _ _ H
 replace h':=(qh ..)▸h'
 refine ib _ _ _ (λfr p'' s'' h'=>?_) (λe p' s' h=>nomatch h.1) _ _ h'
 refine mx (Th h') λe1 e2 e3 Z A k=>?_
 refine(lh e1 e2 e3 ⟨A.size,A.toks,A.gens,λp hp=>?_,λZ h=>(nomatch h)⟩ k)
 rcases jp.mp (Fg (uS (by kernel_rfl:(B0.F w.params).map (λp=>(NS w.params++R4 w.params).lookup p.1)=(B0.F w.params).map λp=>some p.2) p hp)) with q | q
 .exact A.objs _ q
 .exact k.old _ _ (h.1.objs _ q) rfl
end
end
section
open PySem PySem.W PySem.W.X PyProof.Rows
theorem DI{s:ai}(h:s.gens = #[.finished]):s.NoSusp:=by
 intro x hx
 replace hx:=h▸hx
 have:x = .finished:=by simpa using hx
 rw[this];rfl
theorem reach{w:aR}{t:bf Fin}{c:ia}{p:aT}{s:ai}{P:ai->Prop}(hz:s.asleep)
  (h:cj (av pw w) (Ctx.of c []) t (λfin Z s'=>fin = .done (.ret .none)/\P s'/\s'.gens = #[.finished]) (λZ Z Z=>False) p s) :
  ∃n w8 ay,schedN (iE table) pw w n (.single s ⟨t,c,p,[]⟩) = .running (.single ay w8)/\through w8=true/\P ay/\ay.heap.life=s.heap.life/\ay.gens = #[.finished]:=by
 have hI:=(wp_iff_halts (M:=av pw w) t (λZ Z=>True) p s).mp
  (ib _ _ _ (λfin p' s' x=>by
   refine eO x λj1 Z g=>?_;clear x;subst j1
   exact⟨trivial,(DI g).noCleanup⟩) (λZ Z Z x=>x.elim) _ _ h)
 refine(λj1=>?_) hI;clear hI;refine dU j1 λaar bV bc hI Z=>?_;clear j1
 refine bM ((halts_real_iff (M:=av pw w) (r:=bV) (s:=s) (t:=t) (c:=c) (p:=p) (st:=[]) bc.forget).mpr (cM aar bc hI rfl)) λMh bg fY Z hc=>?_
 refine VG (wp_reaches_first (M:=av pw w) h) λn s' σ p' leaf hr hfo hl hmin=>?_
 rcases hl with⟨a,rfl,rfl,hP,hg⟩ | ⟨e,_,hF⟩
 .obtain rfl:=Shared.eq_of_forget_eq' hfo (DI hg)
  rcases schedN_single (iE table) pw w n s ⟨t,c,p,[]⟩ hz with e | ⟨k,s',t',e,hc'⟩ | ⟨k,s',e⟩
  .exact(mz n _ σ (e.trans (by rw[show runN (iE table) pw w n s ⟨t,c,p,[]⟩=_ from hr];rfl)) rfl hP (runN_life_running hr) hg)
  .rewrite[hc _ _ _ e] at hc';exact nomatch hc'
  .have h1:=runN_mono (iE table) pw w k Mh s _ _ _ e
   replace h1:=(pY ..)▸h1;replace h1:=(runN_mono (iE table) pw w Mh k s _ _ _ fY)▸h1
   injection h1 with h1 _
   cases bV <;> exact nomatch h1
 .exact hF.elim
theorem TO:Kr body ku=pure ():=by
 unfold Kr
 rw[show hasAnns body=false from by kernel_rfl,show interactive ku=false from by kernel_rfl,show docOf body=none from by kernel_rfl]
 rfl
theorem Qr{w:aR}{s:ai}(h:Pt R4 w s):cj (av pw w) (Ctx.of (.builtin "claim.caller" {}) []) (topStub pw).cur
  (λfin Z s'=>fin = .done (.ret .none)/\(fq gZ w s'/\Old jf s s')/\s'.gens = #[.finished]) (λZ Z Z=>False) default s:=by
 show cj (av pw w) G0 (moduleCode pw.main >>= λcode=>newBodyFrame code fh fh >>= λframe=>
  run (.body body {scope:=pw.main.scope,locals:=fh,globals:=fh,cells:=[],code,frame:=some frame}) >>= λZ=>ret .none) _ _ ⟨0,0,0,0⟩ s
 rw[ic]
 refine ib _ _ _ (λcode p' s' h'=>?_) (λZ Z Z q=>q) _ _ (QA w h)
 rw[ic]
 refine ib _ _ _ (λfr p'' s'' h''=>?_) (λZ Z Z q=>q) _ _ h'
 refine gj h'' λj1 j2 j3 A k=>?_;clear h'';subst j1;subst j2;subst j3
 rw[ic,Sem.wp_run]
 show wpCode (av pw w) G1 _ _ _
 rw[wpCode_iff_wp]
 show cj (av pw w) G1 (Kr body ku >>= λZ=>(jt body ku).onRaise (leaving ku) >>= λf=>pure (Fin.done f)) _ _ _ _
 rw[TO,ic,AL]
 show cj (av pw w) G1 ((jt body ku).onRaise (leaving ku) >>= λf=>pure (Fin.done f)) _ _ _ _
 rw[ic,Sem.wp_onRaise]
 refine ib _ _ _ (λfl p3 s3 h3=>?_) (λZ Z Z q=>q.elim) _ _ (T0 w ⟨0,0,0,0⟩ s s'' A (k.of λZ Z Z Z=>rfl))
 refine eO h3 λj1 h4 h5=>?_;clear h3;subst j1
 rw[AL]
 simp only[AG]
 unfold ret
 rw[AL]
 exact⟨rfl,⟨h4,h5⟩,h4.gens⟩
noncomputable def hm(P:az):am:={objs:=#[o0 P,o1 P,o2 P,lE P,o4 P]}
noncomputable def yy(P:az):am:={objs:=#[o0 P,o1 P,o2 P,o3 P,o4 P]}
theorem Np(P:az):((hm P).accountedOkI (AN pw.main.body),(hm P).isNs eK,(hm P).isNs jv,namesBound pw (hm P))=(true,true,true,true):=by kernel_rfl
theorem Vo(P:az):(hm P).bltView=bltViewBooted:=by kernel_rfl
theorem UT(P:az):laidNames.map (λx=>(hm P).nsMap eK x)=laidNames.map (λx=>(yy P).nsMap eK x):=by kernel_rfl
theorem VK(P:az):(yy P).isNs eK=true:=by kernel_rfl
theorem zr(P:az):[0,2,3,4,748].map (λa=>(gZ.F P).lookup a)=[some (o0 P),some (o2 P),some (lE P),some (o4 P),some (vu P)]:=by kernel_rfl
theorem VV(P:az):[2,3].map (λa=>(R4 P).lookup a)=[some (o2 P),some (o3 P)]:=by kernel_rfl
theorem Rj{h h':am}{mods:List af}(e:h'.get? fH=h.get? fH)(A:Yj h mods):Yj h' mods:=by
 have:∀k,AQ h' k=AQ h k:=λk=>by unfold AQ;rw[e]
 intro key v hv
 simp only[this] at hv |-
 exact A key v hv
theorem vh{h h':am}(e:h'.get? fh=h.get? fh)(x:af):Ks h' x=Ks h x:=by unfold Ks;rw[e]
theorem HG{w:aR}{s:ai}(h:fq gZ w s):s.heap.get? fh=some (lE w.params):=by
 have G:=zr w.params
 simp only[cJ,AR] at G
 exact h.get 3 G.2.2.1
theorem Fu{w:aR}{s:ai}(h:fq gZ w s):s.heap.get? fh=(hm w.params).get? fh:=HG h
theorem S8{b:Nat}(h:b<63)(h3:b≠3):jf b=false:=by
 unfold jf
 rw[AF,AF,AF,decide_eq_false h3,decide_eq_false (show ¬b=64 by lia),decide_eq_false (show ¬b=204 by lia)]
 rfl
theorem NY{w:aR}{aV:ai}(h:Pt R4 w aV)(hz:aV.asleep):∃ay,TopRan pw w aV ay/\fq gZ w ay/\ay.asleep/\ay.os=aV.os/\ay.drawn=aV.drawn:=by
 refine gN (reach (c:=.builtin "claim.caller" {}) (p:=default) hz (Qr h)) λn w8 ay hs ht j1 hl hg=>?_;refine aN j1 λA hO=>?_;clear j1
 have G:=zr w.params
 simp only[cJ,AR] at G
 refine gj G λG0 G2 G3 G4 Z=>?_;clear G
 have z9:=VV w.params
 simp only[cJ,AR] at z9
 have H:=Np w.params
 simp only[AJ] at H
 refine jO H λH1 H2 H3 H4=>?_;clear H
 have e2:ay.heap.get? fH=(hm w.params).get? fH:=A.get 2 G2
 have e3:ay.heap.get? fh=(hm w.params).get? fh:=A.get 3 G3
 have e0:ay.heap.get? jv=(hm w.params).get? jv:=A.get 0 G0
 have e30:aV.heap.get? fh=(yy w.params).get? fh:=h.1.get 3 z9.2.1
 refine(xU ay (Sq (cM n w8 hs ht) hl (Yk hO.os) (λb o hb hq=>hO.old b o hb (S8 (JS (dR hb) h.1.size) λe=>hq (.inl e))) (Rj e2 (Heap.accountedI_of_ok H1)) (λkey=>.inl ?_) ?_ (λx hx=>?_) ?_ ?_ (λx v hv=>?_) (λx hx=>?_)) A (Ku hl hz) hO.os hO.drawn)
 .unfold AQ
  rw[show ay.heap.get? fH=some (o2 w.params) from e2,show aV.heap.get? fH=some (o2 w.params) from h.1.get 2 z9.1]
 .refine io (Pin.keysAreStrs_of H2) λo es k a b c=>?_
  exact(ly o es k (e3.trans a) b c)
 .refine Eq.trans (b:=builtinOf (hm w.params) x) ?_ ((Pin.builtinOf_eq H3 x).trans (Heap.of_bltView H3 (Vo w.params) x hx))
  unfold builtinOf
  rw[e0]
 .exact(fi 4 (o4 w.params) ((vh e3 _).trans (by kernel_rfl)) (A.get 4 G4) rfl rfl)
 .intro g hgm
  replace hgm:=hg▸hgm
  have:g = .finished:=by simpa using hgm
  rw[this];trivial
 .exact names_of_bound H4 x v ((vh e3 x).symm.trans hv)
 .rw[vh e3,vh e30,Kv H2,Kv (VK w.params)]
  exact uS (UT w.params) x hx
end
section
open PySem PySem.W PySem.W.X PyProof.Rows
noncomputable abbrev hY:OpenLaw:=qi
def xh:Prop:=∀(w:aR) (ay s:ai) (a:aj) (o:ax) (vs:Array ag) (n:Nat) (script:List Int),fq gZ w ay->(∀b o,ay.heap.get? b=some o->s.heap.get? b=some o)->s.gens = #[.finished]->
 s.heap.get? a=some o->o.cls = .type "list"->o.data = .seq vs n->wf vs.toList script->(∀x∈script,x.natAbs.log2<=1048576)->script.length<=63->
 au (av pw w) qj (call (.ref 748) [.ref a]) (λv s'=>v = .bool true/\(∀b o,s.heap.get? b=some o->asItWas s.heap s'.heap b o)/\s'.os=s.os/\s'.gens[0]?=some .finished/\AT s'.gens=false) (λZ Z=>False) s
theorem Ni{c:ClaimW}{tree:List ag->bf Fin}{w:aR}{s:ai}{free:aj->Prop}{gens:Prop}{kept:am->Prop}(hz:s.asleep)(hg:s.gens = #[.finished])(hp:c.prog=pw)(hk:∀h,kept h)
  (hspec:∀args,c.pre args=true->Kw args=true->
   ∀ord:List dB->List dB,(∀l,(ord l).Perm l)->
   ∃vs ay,layAllW c.records (classAt s.heap) w.params ord args s=some (vs,ay)/\
    au (av c.prog w) qj (tree vs) (λfin s'=>∃f,fin = .done f/\(c.Ends s args vs ay (.ok f) s'/\s'.os=s.os/\s'.gens[0]?=some .finished)/\AT s'.gens=false) (λZ Z=>False) ay) :
  c.CallFrom (λvs=>⟨tree vs,.builtin "claim.caller" {},default,[]⟩) w free gens kept s:=by
 intro args hpre hlay ord hord
 refine iW λno=>?_
 refine gE (hspec args hpre hlay ord hord) λvs ay hlaid hcode=>?_
 have hal:=layAllW_rest _ _ _ hlaid
 refine oX (thread_ends_bothG (prog:=c.prog) (w:=w) (t:=tree vs) (s:=ay)
  (R:=λr s'=>c.Ends s args vs ay r s'/\s'.os=s.os/\s'.gens[0]?=some .finished)
  (Ku hal.2.2.2 hz)
  (bn hcode (λZ Z x=>x) (λZ Z x=>x.elim))) λk r s' s'' hrun hsched hfo hcase hos hgg=>?_
 refine gj (Shared.forget_eq hfo) λeh Z Z eo eg=>?_
 replace hos:=(bR eo:_)▸hos
 have hg0:s'.gens[0]?=some .finished:=by
  have e:(s'.gens.map Yl)[0]?=(s''.gens.map Yl)[0]?:=by rw[eg]
  replace e:=hgg▸Ym▸Ym▸e
  cases h:s'.gens[0]? with
  | none=>replace e:=h▸e;cases e
  | some x=>
   replace e:=h▸e
   simp only[Option.map_some,Yn] at e
   exact aI some (GenState.eq_of_forget_eq e rfl)
 refine no (cM vs ay hlaid ⟨k,_,s',hsched,?_,(λZ i x hx=>?_),hk _,by rw[((runN_life _ _ _ hrun).trans hal.2.2.2)],Yk hos⟩)
 .exact(hcase.congr eh).imp (AU λv h=>(yu (aI outcomeOf h.1) h.2.1 h.2.2.1 h.2.2.2.1 (λb o y Z=>h.2.2.2.2.1 b o y) h.2.2.2.2.2)) (AU λe=>AU λob=>AU λcls h=>(yu (aI outcomeOf h.1) h.2.1 h.2.2.1 h.2.2.2.1 h.2.2.2.2.1 (λb o y Z=>h.2.2.2.2.2 b o y)))
 .replace hx:=hg▸hx
  match i,hx with
  | 0,hx=>rw[hg0];exact hx
theorem FX(P:az):(hm P).nsMap eK (S "law")=some (.ref 748):=by kernel_rfl
theorem NA{w:aR}{s:ai}(h:fq gZ w s):s.heap.get? 748=some (vu w.params):=by
 have G:=zr w.params
 simp only[cJ,AR] at G
 exact h.get 748 G.2.2.2.2.1
theorem NJ:pw.theDef (S "law")=some (fA (stN 78),fB (stN 78),fS (stN 78)):=by kernel_rfl
theorem EO(P:az):(hm P).isNs eK=true:=by kernel_rfl
theorem CN{h h':am}{a:aj}(e:h'.get? a=h.get? a):h'.isNs a=h.isNs a:=by unfold Heap.isNs;rw[e]
theorem GQ{h h':am}{a:aj}(e:h'.get? a=h.get? a)(x:af):h'.nsMap a x=h.nsMap a x:=by unfold Heap.nsMap;rw[e]
theorem intsAre_of{h:am}{cl:af->Option aj}{ns:List Int}:∀{vs:List ag} {as:List aj},AV [] cl h vs (ns.map .int) as->wf vs ns:=by
 induction ns with
 | nil=>intro vs as r;cases r;exact .nil
 | cons i ns ih=>intro vs as r;cases r with | cons r rs=>cases r;exact .cons i _ (ih rs)
theorem U8{xs:List qk}(H:∀d∈xs,∃i,d = .int i):∃ns:List Int,xs=ns.map .int:=by
 induction xs with
 | nil=>exact⟨[],rfl⟩
 | cons d xs ih=>
  refine aP (H d (.head _)) λi j1=>?_;subst j1
  refine aP (ih λd h=>H d (.tail _ h)) λns j1=>?_;subst j1
  exact⟨i::ns,rfl⟩
theorem VM{h:am}{cl:af->Option aj}{vs:List ag}{as:List aj}{xs:List qk}(r:AV [] cl h vs [.list xs] as) :
  ∃a o avs n as',vs=[.ref a]/\h.get? a=some o/\o.cls = .type "list"/\o.data = .seq avs n/\AV [] cl h avs.toList xs as':=by
 cases r with | cons r1 r2=>cases r2;cases r1 with | list h1 h2 h3 h4=>exact(OC _ _ _ _ _ rfl h1 h2 h3 h4)
theorem Ul{xs:List qk}(h:hY.pre.holds [] {args:=[.list xs]}=true):xs.length<=63:=by
 unfold Kx at h
 have e:hY.pre.value [] {args:=[.list xs]}=some (.bool (!decide ((63:Int)<(xs.length:Int))&&true)):=w_and (w_not (w_lt w_lit (w_len_list (w_arg rfl)))) w_lit
 replace h:=e▸h
 cases q:decide ((63:Int)<(xs.length:Int)) with
 | true=>replace h:=q▸h;cases h
 | false=>clear h e;have:=of_decide_eq_false q;lia
theorem Tm{ds:List qk}{args:List qk}:hY.row.toRowW.claim.post args (.bool true) ds=true:=by
 show(WShape.has [] (.bool true) .bool&&Kx [] (WTm.eq .res (.lit (.bool true))) {args:=args,res:=some (.bool true),after:=ds})=true
 unfold Kx
 rw[(w_eq_bool (w_res rfl) w_lit)]
 decide +kernel
theorem Wo{ns:List Int}(h:WData.layable (.list (ns.map .int))=true):∀x∈ns,x.natAbs.log2<=1048576:=by
 unfold WData.layable at h
 have h2:=of_decide_eq_true (ff.mp h).2
 have h3:Ky (ns.map .int)<=2^20:=h2
 clear h h2
 have key:∀(ns:List Int) (B:Nat),Ky (ns.map .int)<=B->∀x∈ns,x.natAbs.log2<=B:=by
  intro ns
  induction ns with
  | nil=>intro B Z x hx;cases hx
  | cons a ns ih=>
   intro B hB x hx
   have hB:WData.weight (.int a)+1+Ky (ns.map .int)<=B:=hB
   rcases cB.mp hx with rfl | hx
   .have:WData.weight (.int x)=if x==0 then 0 else x.natAbs.log2+1:=rfl
    by_cases h0:x=0
    .subst h0;exact cQ _
    .replace hB:=this▸hB;rewrite[an (by simpa using h0)] at hB;lia
   .exact ih B (by exact Yo ‹_›) x hx
 exact key ns _ (aJ h3 (by decide))
theorem Ei{R:WRecords}{h:am}{cl:af->Option aj}:∀{vs:List ag} {ns:List Int},wf vs ns->AV R cl h vs (ns.map .int) []
 | _,_,.nil=>.nil
 | _,_,.cons n t I=>.cons (.int n t) (Ei I)
theorem M7{args:List qk}(h:hY.row.claim.pre args=true):∃ns:List Int,args=[.list (ns.map .int)]/\ns.length<=63/\WShape.hasAll [] args [.list .int]=true:=by
 refine aN (pre_splitW (r:=hY.row.toRowW) h) λhp1 hp2=>?_
 refine bM (hasAllW_cons (R:=[]) (e:=.list .int) (es:=[]) hp1) λd r e1 hd hr=>?_
 refine aC (hasW_list (R:=[]) hd) λxs e2 hxs=>?_
 refine aP (U8 λd hd=>hasW_int (hasItemsW_at hxs d hd)) λns e3=>?_
 replace hp2:=e2▸(hasAllW_nil (R:=[]) hr)▸e1▸hp2
 have:=Ul hp2
 replace this:=e3▸this;replace this:=(db ..)▸this
 exact(bh ns (by rw[e1,hasAllW_nil (R:=[]) hr,e2,e3]) this hp1)
noncomputable def yi(vs:List ag):bf Fin:=do match <-nsGet fh (S "law") with
 | some f=>do ret (<-call f vs)
 | none=>unsupported "claim.caller:no-such-global"
theorem TS(H:xh){w:aR}{ay:ai}(hA:fq gZ w ay){args:List qk}(hpre:hY.row.claim.pre args=true)(hlay:Kw args=true){ord:List dB->List dB}(hord:∀l,(ord l).Perm l) :
  ∃vs bc,layAllW hY.row.claim.records (classAt ay.heap) w.params ord args ay=some (vs,bc)/\
   au (av pw w) qj (yi vs) (λfin s'=>∃f,fin = .done f/\(hY.row.claim.Ends ay args vs bc (.ok f) s'/\s'.os=ay.os/\s'.gens[0]?=some .finished)/\AT s'.gens=false) (λZ Z=>False) bc:=by
 refine br (M7 hpre) λns ea hlen hp1=>?_
 obtain ⟨⟨vs,bc⟩,hlaid⟩:=mL.mp (layAllW_isSome (R:=[]) (cl:=classAt ay.heap) (P:=w.params) (ord:=ord) (λc hc=>nomatch hc) args [.list .int] ay hp1)
 have keeps:=layAllW_keeps _ _ _ hlaid
 have hal:=layAllW_rest _ _ _ hlaid
 refine br (reads_layAllW hord _ _ _ hlaid hlay bc.heap (λZ Z e=>e)) λas hrd Z Z=>?_
 refine(cM vs bc hlaid ?_)
 rw[ea] at hrd hlay |-
 refine UA (VM hrd) λa o avs n as' e h1 h2 h3 h4=>?_
 have e:vs=[.ref a]:=e
 rw[e]
 have I:=intsAre_of h4
 have m:bc.heap.get? fh=some (lE w.params):=keeps _ _ (HG hA)
 have hn2:bc.heap.isNs eK=true:=(CN (h:=hm w.params) m).trans (EO w.params)
 unfold yi
 refine ah (wpAny_nsGet (Heap.Ns.of_isNs hn2) ?_)
 rw[show bc.heap.nsMap fh (S "law")=_ from((GQ (h:=hm w.params) m _).trans (FX w.params))]
 refine ah (bn (H w ay bc a o avs n ns hA keeps (hal.1.trans hA.gens) h1 h2 h3 I (Wo (by simpa[Kw] using hlay)) hlen) (λv s' q=>?_) λZ Z x=>x)
 refine gj q λj1 q1 q2 q3 q4=>?_;clear q;subst j1
 exact aE (bh _ rfl ⟨.inl (zF _ rfl (λZ=>rfl) (xm (.bool true) [.list (ns.map .int)] [] _ (.bool true) (.cons (.list (get_main (q1 a o h1) (.inl (by rw[h2];exact λz=>nomatch z))) h2 h3 (Ei I)) .nil) Tm (λZ=>⟨.nil,λZ h=>(nomatch h),λZ h=>(nomatch h)⟩) (λaaJ Z=>ident_freeW (r:=hY.row.toRowW) rfl rfl rfl _ _)) (λi hi=>(nomatch hi)) (λb o e Z Z=>q1 b o e) (λi hi=>(nomatch hi))),q2.trans hal.2.2.1,q3⟩ q4)
theorem Rz(H:xh)(said:hY.row.wellSaid=true):hY.row.Holds:=by
 refine⟨said,(aw [.list []] (by decide +kernel) (by decide +kernel)),⟨⟨(yu rfl rfl rfl rfl rfl (by kernel_rfl)),by kernel_rfl,rfl⟩,(aw [.list []] (by decide +kernel) (by decide +kernel)),λw=>⟨(Eg w).1,λs hs=>?_⟩⟩⟩
 refine iW λno=>?_
 refine br (Rw w ((Eg w).2 s hs)) λaV hf h0 hl=>?_
 refine Xn (NY h0 (Ku hl (AfterImport.life hs))) λay hT hA hz hos hdr=>?_
 refine no (bh aV hf h0.1.gens ⟨ay,hT,λn hn=>?_,λx hx=>(nomatch hx),λx hx=>(nomatch hx),Ni (tree:=yi) hz hA.gens rfl (λh=>λq=>(nomatch q)) λargs hpre hlay ord hord=>TS H hA hpre hlay hord⟩)
 obtain rfl:n=S "law":=(show hY.row.pinned=true/\n=hY.row.name by simpa using hn).2
 exact(Wt 748 _ _ (fA (stN 78)) (fB (stN 78)) (fS (stN 78)) ((Kv ((CN (Fu hA)).trans (EO w.params)) _).trans ((GQ (Fu hA) _).trans (FX w.params))) (NA hA) rfl NJ rfl rfl rfl rfl rfl rfl rfl rfl ⟨.inl ⟨by kernel_rfl,rfl⟩,[],by kernel_rfl,.inl ⟨rfl,rfl⟩⟩)
end
section
noncomputable abbrev aF:iC:=Yf
inductive PV where
 | none
 | bool (b:Bool)
 | int (i:Int)
 | str (s:af)
 | d_ (s:af) (P:Nat->Prop)
 | tup (xs:List PV)
 | val (v:ag)
 | al
inductive Vd(h:am)(v:ag)(P:List ag->Prop):Prop
 | mk (a:aj) (o:ax) (vs:Array ag) (n:Nat) (h1:v = .ref a) (h2:h.get? a=some o) (h3:o.cls = .type "tuple") (h4:o.data = .seq vs n) (h5:P vs.toList)
inductive PG(h:am)(a:aj)(P:List ag->Prop):Prop
 | mk (o:ax) (vs:Array ag) (n:Nat) (h2:h.get? a=some o) (h3:o.cls = .type "list"/\o.dict=none) (h4:o.data = .seq vs n) (h5:P vs.toList)
inductive PW(h:am)(a:aj)(P:List dB->Prop):Prop
 | mk (o:ax) (ens:Array dB) (n:Nat) (h2:h.get? a=some o) (h3:o.cls = .type "dict"/\o.dict=none) (h4:o.data = .dict ens n) (h5:P ens.toList)
inductive W3(h:am)(a:aj)(c:ag)(d:Option aj)(dt:mT):Prop
 | mk (o:ax) (h1:h.get? a=some o) (h2:o.cls=c) (h3:o.dict=d) (h4:o.data=dt) (h5:∀vs,o.data≠.fields vs) (h6:c≠.type "tuple")
mutual
def RV(h:am):PV->ag->Prop
 | .none,v=>v = .none
 | .bool b,v=>v = .bool b
 | .int i,v=>∃t,v = .int i t
 | .str s,v=>∃t,v = .str s t
 | .d_ s P,v=>∃t,v = .str s t/\P t
 | .tup xs,v=>Vd h v (aB h xs)
 | .val u,v=>v=u
 | .al,_=>False
def aB(h:am):List PV->List ag->Prop
 | [],vs=>vs=[]
 | x::xs,vs=>∃v r,vs=v::r/\RV h x v/\aB h xs r
end
inductive AO where
 | lst (xs:List PV)
 | bx (es:List (af×PV))
 | raw (cls:ag) (dict:Option aj) (data:mT)
def cb(h:am)(P:az):List dB->List (af×PV)->Prop
 | [],es=>es=[]
 | e::r,es=>∃k v es',es=(k,v)::es'/\e.hash=oD P k/\(∃t,e.key = .str k t)/\RV h v e.val/\cb h P r es'
def RO(h:am)(P:az)(a:aj):AO->Prop
 | .lst xs=>PG h a (aB h xs)
 | .bx es=>PW h a (λl=>cb h P l es)
 | .raw c d dt=>W3 h a c d dt
mutual
theorem RV.up{h h':am}(u:h.UpToSlots h'):∀{x:PV} {v:ag},RV h x v->RV h' x v
 | .none,_,r=>r
 | .bool _,_,r=>r
 | .int _,_,r=>r
 | .str _,_,r=>r
 | .d_ _ _,_,r=>r
 | .val _,_,r=>r
 | .al,_,r=>r
 | .tup xs,v,r=>by
  rw[RV] at r |-
  obtain ⟨a,o,vs,n,e,ho,hc,hd,hr⟩:=r
  refine aP (u a o ho λws q=>by replace q:=hd▸q;cases q) λsl hs=>?_
  exact⟨a,_,vs,n,e,hs,hc,hd,aB.up u hr⟩
theorem aB.up{h h':am}(u:h.UpToSlots h'):∀{xs:List PV} {vs:List ag},aB h xs vs->aB h' xs vs
 | [],_,r=>r
 | x::xs,vs,r=>by
  rw[aB] at r |-
  refine bM r λv q e r1 r2=>?_;clear r
  exact(eV v q e (RV.up u r1) (aB.up u r2))
end
theorem cb.up{h h':am}{P:az}(u:h.UpToSlots h'):∀{ens:List dB} {es:List (af×PV)},cb h P ens es->cb h' P ens es
 | [],_,r=>r
 | e::ens,es,r=>by
  refine gN r λk v es' q r1 r2 r3 r4=>?_;clear r
  exact(mz k v es' q r1 r2 (RV.up u r3) (cb.up u r4))
theorem RO.up{h h':am}{P:az}(u:h.UpToSlots h'){a:aj}:∀{x:AO},RO h P a x->RO h' P a x
 | .lst xs,r=>by
  unfold RO at r |-
  obtain ⟨o,vs,n,ho,hc,hd,hr⟩:=r
  refine aP (u a o ho λws q=>by replace q:=hd▸q;cases q) λsl hs=>?_
  exact⟨_,vs,n,hs,hc,hd,aB.up u hr⟩
 | .bx es,r=>by
  unfold RO at r |-
  obtain ⟨o,ens,n,ho,hc,hd,hr⟩:=r
  refine aP (u a o ho λws q=>by replace q:=hd▸q;cases q) λsl hs=>?_
  exact⟨_,ens,n,hs,hc,hd,cb.up u hr⟩
 | .raw c d dt,r=>by
  unfold RO at r |-
  obtain ⟨o,ho,hc,hk,hd,hn,ht⟩:=r
  refine aP (u a o ho hn) λsl hs=>?_
  exact⟨_,hs,hc,hk,hd,hn,ht⟩
def TK(h h':am):Prop:=∀b o vs n,h.get? b=some o->o.cls = .type "tuple"->o.data = .seq vs n->∃o',h'.get? b=some o'/\o'.cls = .type "tuple"/\o'.data = .seq vs n
theorem TK.refl(h:am):TK h h:=λZ o Z Z e hc hd=>(bh o e hc hd)
theorem TK.trans{a b c:am}(x:TK a b)(y:TK b c):TK a c:=λi o vs n e hc hd=>
 (x i o vs n e hc hd).elim λo' h=>y i o' vs n h.1 h.2.1 h.2.2
theorem TK.Fe{h h':am}(u:h.UpToSlots h'):TK h h':=λb o vs n e hc hd=>by
 refine aP (u b o e λws q=>by replace q:=hd▸q;cases q) λsl hs=>?_
 exact(bh _ hs hc hd)
theorem TK.of_keeps{h h':am}(k:∀b o,h.get? b=some o->h'.get? b=some o):TK h h':=λb o Z Z e hc hd=>(bh o (k b o e) hc hd)
mutual
theorem RV.tk{h h':am}(u:TK h h'):∀{x:PV} {v:ag},RV h x v->RV h' x v
 | .none,_,r=>r
 | .bool _,_,r=>r
 | .int _,_,r=>r
 | .str _,_,r=>r
 | .d_ _ _,_,r=>r
 | .val _,_,r=>r
 | .al,_,r=>r
 | .tup xs,v,r=>by
  rw[RV] at r |-
  obtain ⟨a,o,vs,n,e,ho,hc,hd,hr⟩:=r
  refine br (u a o vs n ho hc hd) λo' ho' hc' hd'=>?_
  exact⟨a,o',vs,n,e,ho',hc',hd',aB.tk u hr⟩
theorem aB.tk{h h':am}(u:TK h h'):∀{xs:List PV} {vs:List ag},aB h xs vs->aB h' xs vs
 | [],_,r=>r
 | x::xs,vs,r=>by
  rw[aB] at r |-
  refine bM r λv q e r1 r2=>?_;clear r
  exact(eV v q e (RV.tk u r1) (aB.tk u r2))
end
theorem cb.tk{h h':am}{P:az}(u:TK h h'):∀{ens:List dB} {es:List (af×PV)},cb h P ens es->cb h' P ens es
 | [],_,r=>r
 | e::ens,es,r=>by
  refine gN r λk v es' q r1 r2 r3 r4=>?_;clear r
  exact(mz k v es' q r1 r2 (RV.tk u r3) (cb.tk u r4))
def V9(a:aj)(h h':am):Prop:=∀o,h.get? a=some o->(∀vs,o.data≠.fields vs)->∃sl,h'.get? a=some {o with slots:=sl}
theorem RO.tk{h h':am}{P:az}(u:TK h h'){a:aj}(k:V9 a h h'):∀{x:AO},RO h P a x->RO h' P a x
 | .lst xs,r=>by
  unfold RO at r |-
  obtain ⟨o,vs,n,ho,hc,hd,hr⟩:=r
  refine aP (k o ho λws q=>by replace q:=hd▸q;cases q) λsl hs=>?_
  exact⟨_,vs,n,hs,hc,hd,aB.tk u hr⟩
 | .bx es,r=>by
  unfold RO at r |-
  obtain ⟨o,ens,n,ho,hc,hd,hr⟩:=r
  refine aP (k o ho λws q=>by replace q:=hd▸q;cases q) λsl hs=>?_
  exact⟨_,ens,n,hs,hc,hd,cb.tk u hr⟩
 | .raw c d dt,r=>by
  unfold RO at r |-
  obtain ⟨o,ho,hc,hk,hd,hn,ht⟩:=r
  refine aP (k o ho hn) λsl hs=>?_
  exact⟨_,hs,hc,hk,hd,hn,ht⟩
theorem RO.there{h:am}{P:az}{a:aj}:∀{x:AO},RO h P a x->∃o,h.get? a=some o/\(∀vs,o.data≠.fields vs)/\o.cls≠.type "tuple"
 | .lst xs,r=>by
  obtain ⟨o,vs,n,ho,hc,hd,hr⟩:=r
  exact(aw o ho ⟨λws q=>(by replace q:=hd▸q;cases q),(by rw[hc.1];decide)⟩)
 | .bx es,r=>by
  obtain ⟨o,ens,n,ho,hc,hd,hr⟩:=r
  exact(aw o ho ⟨λws q=>(by replace q:=hd▸q;cases q),(by rw[hc.1];decide)⟩)
 | .raw c d dt,r=>by
  obtain ⟨o,ho,hc,hk,hd,hn,ht⟩:=r
  exact(bh o ho hn (by rw[hc];exact ht))
structure AS where
 loc:List (af×PV)
 st:List (aj×AO)
noncomputable def getL:List (af×PV)->af->PV
 | [],_=>.al
 | (y,v)::r,x=>match x==y with | true=>v | false=>getL r x
noncomputable def ja:List (af×PV)->af->PV->List (af×PV)
 | [],x,v=>[(x,v)]
 | (y,u)::r,x,v=>match x==y with | true=>(y,v)::r | false=>(y,u)::ja r x v
theorem Gn{x y:af}{v:PV}{r:List (af×PV)}(e:(x==y)=true):getL ((y,v)::r) x=v:=by unfold getL;rw[e]
theorem F0{x y:af}{v:PV}{r:List (af×PV)}(e:(x==y)=false):getL ((y,v)::r) x=getL r x:=by rw[getL,e]
theorem Px{x y:af}{u v:PV}{r:List (af×PV)}(e:(x==y)=true):ja ((y,u)::r) x v=(y,v)::r:=by rw[ja,e]
theorem Sv{x y:af}{u v:PV}{r:List (af×PV)}(e:(x==y)=false):ja ((y,u)::r) x v=(y,u)::ja r x v:=by rw[ja,e]
theorem yB(x:af)(v:PV)(y:af):∀l:List (af×PV),getL (ja l x v) y=if y=x then v else getL l y
 | []=>by
  unfold ja getL
  by_cases h:y=x
  .subst h;simp
  .simp[h,beq_eq_false_iff_ne.mpr h,getL]
 | (z,u)::r=>by
  unfold ja
  cases hxz:x==z with
  | true=>
   obtain rfl:=eq_of_beq hxz
   unfold getL
   by_cases h:y=x
   .subst h;simp
   .simp[h,beq_eq_false_iff_ne.mpr h]
  | false=>
   unfold getL
   cases hyz:y==z with
   | true=>
    obtain rfl:=eq_of_beq hyz
    simp[cV (beq_eq_false_iff_ne.mp hxz)]
   | false=>exact yB x v y r
noncomputable def AS.set(σ:AS)(x:af)(v:PV):AS:={σ with loc:=ja σ.loc x v}
noncomputable def AS.get(σ:AS)(x:af):PV:=getL σ.loc x
structure gJ where
 t:aj
 line:Int
 col:Int
 q:af
inductive T6(h:am)(x:gJ):Prop
 | mk (k:aj) (ok:ax) (vs:Array ag) (tk:bY) (h1:h.get? x.t=some {cls:=.none,data:=.fields #[bW x.line,bW x.col,.ref k]}) (h2:h.get? k=some ok) (h3:ok.data = .fields vs) (h4:vs[1]?=some (.str x.q tk))
def uj(h:am)(x:gJ):Prop:=h.get? x.t=some {cls:=.none,data:=.fields #[]}\/
 T6 h x
def mr(tb:List gJ)(h:am):Prop:=∀x∈tb,uj h x
theorem mr.stays{tb:List gJ}{h h':am}(x:mr tb h)(k:∀b o vs,h.get? b=some o->o.data = .fields vs->h'.get? b=some o):mr tb h':=by
 intro y hy
 rcases x y hy with e | ⟨c,ok,vs,tk,e1,e2,e3,e4⟩
 .exact .inl (k _ _ _ e rfl)
 .exact .inr ⟨c,ok,vs,tk,k _ _ _ e1 rfl,k _ _ _ e2 e3,e3,e4⟩
structure FC where
 w:aR
 A:bZ
 env:bB
 outer:List bB
 b0:am
 base:am
 D:aj->Prop
 tb:List gJ
 os:AW
 gens:Array de->Prop
 T:Nat
noncomputable abbrev FC.L(c:FC):aj:=c.env.locals
noncomputable abbrev FC.scope(c:FC):dA:=c.env.scope
noncomputable abbrev FC.cells(c:FC):List (af×aj):=c.env.cells
def RL(h:am)(x:PV)(v:Option ag):Prop:=match x with
 | .al=>v=none
 | x=>∃u,v=some u/\RV h x u
theorem RL.tk{h h':am}(u:TK h h'){x:PV}{v:Option ag}(r:RL h x v):RL h' x v:=by
 cases x <;> first | exact r | (refine aC r λy e q=>?_;clear r;exact(aw y e (q.tk u)))
structure jg(c:FC)(h:am)(mm:af->Option ag):Prop where
 ns:∃m,h.Ns c.L m/\∀x,c.cells.lookup x=none->m x=mm x
 cu:∀x a,c.cells.lookup x=some a->h.IsCell a (mm x)
def jR(o:ax)(vs:Array ag):Prop:=o.cls≠.none\/∃q t,vs[1]?=some (.str q t)
def fQ(c:FC)(a:aj):Prop:=∀o,c.base.get? a=some o->c.D a\/∃vs,o.data = .fields vs/\¬jR o vs
def Im(c:FC)(st:List (aj×AO))(h:am):Prop:=∀a es,(a,AO.bx es)∈st->(∀e∈c.outer,e.frame≠some a)/\∃o,h.get? a=some o/\o.slots = #[]
structure In(c:FC)(σ:AS)(s:ai):Prop where
 b0:c.b0.StaysIn s.heap
 fr:s.heap.FunFrames c.b0 c.outer
 up1:∀b o vs,c.base.get? b=some o->¬c.D b->jR o vs->o.data = .fields vs->s.heap.get? b=some o
 cq:∀b o,c.base.get? b=some o->¬c.D b->(∀vs,o.data≠.fields vs)->∃sl,s.heap.get? b=some {o with slots:=sl}
 ns:∃mm,jg c s.heap mm/\∀x,RL s.heap (σ.get x) (mm x)
 st:∀a ao,(a,ao)∈σ.st->RO s.heap c.w.params a ao/\a≠c.L/\fQ c a/\c.b0.get? a=none/\∀x b,c.cells.lookup x=some b->b≠a
 L0:c.b0.get? c.L=none
 L1:c.base.get? c.L=none
 Lo:∀e∈c.outer,e.frame≠some c.L
 tab:mr c.tb s.heap
 os:s.os=c.os
 gens:c.gens s.gens
 nd:(σ.st.map dq).Nodup
 tk:c.T<=s.toks
 dc:Im c σ.st s.heap
theorem In.pL{c:FC}{σ:AS}{s:ai}{h':am}(I:In c σ s)(k:∀b o,s.heap.get? b=some o->(∀vs,o.data≠.fields vs)->b≠c.L->(∀x y,c.cells.lookup x=some y->y≠b)->(∀e∈c.outer,e.frame≠some b)->h'.get? b=some o):Im c σ.st h':=λa es h=>by
 obtain ⟨p,o,e,q⟩:=I.dc a es h
 refine gj (I.st a _ h) λr h1 Z Z h2=>?_
 refine br r.there λo' e' n Z=>?_
 replace e':=e▸e';refine(λj0=>?_) (bj e');clear e';subst j0
 exact⟨p,o,k a o e n h1 h2 p,q⟩
theorem CU{L:aj}{h h' base:am}:∀{l:List bB},h.FunFrames base l->(∀e∈l,e.frame≠some L)->(∀b o,b≠L->h.get? b=some o->(∀vs,o.data≠.fields vs)->∃o',h'.get? b=some o'/\o'.data=o.data)->h'.FunFrames base l
 | [],_,_,_=>trivial
 | env::_,hx,hL,k=>by
  refine eO hx λhk j1 hr=>?_;clear hx;refine lH j1 λL' o hf hn ho hd=>?_;clear j1
  refine aC (k L' o (λq=>hL env (.head _) (q▸hf)) ho hd) λo' ho' hd'=>?_
  exact⟨hk,(fi L' o' hf hn ho' (λvs=>hd'▸hd vs)),CU hr (λe he=>hL e (.tail _ he)) k⟩
theorem u_{h h' base:am}:∀{l:List bB},h.FunFrames base l->(∀b o,h.get? b=some o->(∀vs,o.data≠.fields vs)->∃o',h'.get? b=some o'/\∀vs,o'.data≠.fields vs)->h'.FunFrames base l
 | [],_,_=>trivial
 | env::_,hx,k=>by
  refine eO hx λhk j1 hr=>?_;clear hx;refine lH j1 λL' o hf hn ho hd=>?_;clear j1
  refine aC (k L' o ho hd) λo' ho' hd'=>?_
  exact⟨hk,(fi L' o' hf hn ho' hd'),u_ hr k⟩
theorem Ux{h h':am}{a:aj}{v:Option ag}(u:h.UpToSlots h')(x:h.IsCell a v):h'.IsCell a v:=by
 refine aC x λo e d=>?_;clear x
 refine aP (u a o e λws q=>by replace q:=d▸q;cases q) λsl q=>?_
 exact(aw _ q d)
theorem jg.keeps{c:FC}{h h':am}{mm:af->Option ag}(x:jg c h mm)(k:∀b o,h.get? b=some o->h'.get? b=some o):jg c h' mm:=
 ⟨let ⟨m,hm,e⟩:=x.ns;⟨m,hm.keeps k,e⟩,λy a e=>(x.cu y a e).keeps k⟩
theorem jg.up{c:FC}{h h':am}{mm:af->Option ag}(x:jg c h mm)(u:h.UpToSlots h'):jg c h' mm:=
 ⟨let ⟨m,hm,e⟩:=x.ns;⟨m,u.ns hm,e⟩,λy a e=>Ux u (x.cu y a e)⟩
theorem In.grow{c:FC}{σ:AS}{s s':ai}(I:In c σ s)(k:∀b o,s.heap.get? b=some o->s'.heap.get? b=some o)(ho:s'.os=s.os:=by rfl)(hg:s'.gens=s.gens:=by rfl)(ht:s.toks<=s'.toks:=by walk_at "tk"):In c σ s':=by
 refine aC I.ns λmm hm hr=>?_
 refine⟨λb o e=>k b o (I.b0 b o e),I.fr.of_keeps λb o e Z=>(aw o (k b o e) rfl),λb o vs e h1 hc h2=>k _ _ (I.up1 b o vs e h1 hc h2),λb o e h1 h2=>?_,(aw mm (hm.keeps k) (λx=>(hr x).tk (.of_keeps k))),λa ao ha=>?_,I.L0,I.L1,I.Lo,I.tab.stays λb o Z e Z=>k b o e,ho.trans I.os,hg▸I.gens,I.nd,aJ I.tk ht,I.pL λb o e Z Z Z Z=>k b o e⟩
 .refine aP (I.cq b o e h1 h2) λsl q=>?_
  exact⟨sl,k _ _ q⟩
 .refine aN (I.st a ao ha) λr h1=>?_
  exact⟨r.tk (.of_keeps k) λo e Z=>⟨o.slots,k _ _ e⟩,h1⟩
theorem D4{h:am}{σ:AS}{x y:af}{pv:PV}{v:Option ag}{mm:af->Option ag}(hr:RL h (σ.get y) (mm y))(hv:RL h pv v) :
  RL h ((σ.set x pv).get y) (if y=x then v else mm y):=by
 show RL h (getL (ja σ.loc x pv) y) _
 rw[yB]
 by_cases q:y=x
 .rw[aA q,aA q];exact hv
 .rw[an q,an q];exact hr
theorem RL.of{h:am}{pv:PV}{v:ag}(hv:RV h pv v)(hu:pv≠.al):RL h pv (some v):=by
 cases pv <;> first | exact absurd rfl hu | exact(aw v rfl hv)
theorem VJ{h:am}{σ:AS}{x y:af}{pv:PV}{v:ag}{mm:af->Option ag}(hr:RL h (σ.get y) (mm y))(hv:RV h pv v)(hu:pv≠.al) :
  RL h ((σ.set x pv).get y) (if y=x then some v else mm y):=D4 hr (.of hv hu)
theorem In.zo{c:FC}{σ:AS}{s s':ai}{x:af}{pv:PV}{v:Option ag}{mm:af->Option ag}{m:af->Option ag}(I:In c σ s)(hx:c.cells.lookup x=none)(hm:jg c s.heap mm)(hns:s.heap.Ns c.L m)(hmm:∀x,c.cells.lookup x=none->m x=mm x)(hr:∀y,RL s.heap (σ.get y) (mm y))(hs:cW c.L s.heap s'.heap)
  (hm':s'.heap.Ns c.L (λy=>if y=x then v else m y)) (hv:RL s.heap pv v) (ho:s'.os=s.os:=by rfl) (hg:s'.gens=s.gens:=by rfl) (ht:s.toks<=s'.toks:=by walk_at "tk"):In c (σ.set x pv) s':=by
 have oL:=hns
 refine io oL λo es ep eL dL Z=>?_;clear oL
 have ne:∀b ob vs,s.heap.get? b=some ob->ob.data = .fields vs->b≠c.L:=λb ob vs e d q=>by
  replace e:=eL▸q▸e;refine(λj0=>?_) (bj e);clear e;subst j0;replace d:=dL▸d;cases d
 have neT:∀b ob vs n,s.heap.get? b=some ob->ob.data = .seq vs n->b≠c.L:=λb ob vs n e d q=>by
  replace e:=eL▸q▸e;refine(λj0=>?_) (bj e);clear e;subst j0;replace d:=dL▸d;cases d
 have tk:TK s.heap s'.heap:=λb ob vs n e hc hd=>(bh ob ((hs.2 b (neT b ob vs n e hd)).trans e) hc hd)
 refine⟨λb ob e=>(hs.2 b λq=>by exact bI (I.L0▸q▸e)).trans (I.b0 b ob e),CU I.fr I.Lo λb ob q e Z=>(aw ob ((hs.2 b q).trans e) rfl),λb ob vs e h1 hcn h2=>?_,λb ob e h1 h2=>?_,
  (aw (λy=>if y=x then v else mm y) ⟨(aw _ hm' (λy hy=>?_)),λy a hy=>?_⟩ (λy=>D4 ((hr y).tk tk) (hv.tk tk))),λa ao ha=>?_,I.L0,I.L1,I.Lo,I.tab.stays λb ob vs e d=>(hs.2 b (ne b ob vs e d)).trans e,ho.trans I.os,hg▸I.gens,I.nd,aJ I.tk ht,I.pL λb o e Z q Z Z=>(hs.2 b q).trans e⟩
 .exact(hs.2 b (ne b ob vs (I.up1 b ob vs e h1 hcn h2) h2)).trans (I.up1 b ob vs e h1 hcn h2)
 .refine aP (I.cq b ob e h1 h2) λsl q=>?_
  refine⟨sl,(hs.2 b λz=>?_).trans q⟩
  exact bI (I.L1▸z▸e)
 .show(if y=x then v else m y)=if y=x then v else mm y
  by_cases q:y=x
  .rw[aA q,aA q]
  .rw[an q,an q];exact hmm y hy
 .have:y≠x:=λq=>by exact bI (hx▸q▸hy)
  show s'.heap.IsCell a (if y=x then v else mm y)
  rw[an this]
  refine aC (hm.cu y a hy) λoc ec dc=>?_
  refine(aw oc ((hs.2 a λq=>?_).trans ec) dc)
  replace ec:=eL▸q▸ec;refine(λj0=>?_) (bj ec);clear ec;subst j0;replace dc:=dL▸dc;cases dc
 .refine eO (I.st a ao ha) λr h1 h2=>?_
  exact⟨r.tk tk λob e Z=>⟨ob.slots,(hs.2 a h1).trans e⟩,h1,h2⟩
theorem In.store{c:FC}{σ:AS}{s s':ai}{x:af}{pv:PV}{v:ag}{mm:af->Option ag}{m:af->Option ag}(I:In c σ s)(hx:c.cells.lookup x=none)(hm:jg c s.heap mm)(hns:s.heap.Ns c.L m)(hmm:∀x,c.cells.lookup x=none->m x=mm x)(hr:∀y,RL s.heap (σ.get y) (mm y))(hs:cW c.L s.heap s'.heap)
  (hm':s'.heap.Ns c.L (λy=>if y=x then some v else m y)) (hv:RV s.heap pv v) (hu:pv≠.al) (ho:s'.os=s.os:=by rfl) (hg:s'.gens=s.gens:=by rfl) (ht:s.toks<=s'.toks:=by walk_at "tk"):In c (σ.set x pv) s':=I.zo hx hm hns hmm hr hs hm' (.of hv hu) ho hg ht
noncomputable def cellIn(sc:dA)(x:af):Bool:=sc.names.any λp=>p.2==.cell&&p.1==x
structure FC.n6(c:FC):Prop where
 kind:c.scope.kind = .function
 glob:c.env.globals=eK
 blt:c.env.builtins=jv
 cu:∀x,(c.cells.lookup x).isSome=cellIn c.scope x
structure FC.Ok(c:FC):Prop extends FC.n6 c where
 frames:c.A.frames=some (c.env::c.outer)
 frame:c.env.frame=some c.env.locals
 lim:c.b0.NoLimit
 own:(∀x y a,c.cells.lookup x=some a->c.cells.lookup y=some a->x=y)/\∀x a,c.cells.lookup x=some a->c.b0.get? a=none/\c.base.get? a=none
 dn:∀b o vs,c.base.get? b=some o->o.data = .fields vs->¬c.D b
 t0:∀x∈c.tb,c.b0.get? x.t=none
theorem Je:∀{l:List (af×aj)},(l.map Prod.snd).Nodup->∀{n n':af} {a:aj},(n,a)∈l->(n',a)∈l->n=n'
 | x::r,h,n,n',a,h1,h2=>by
  have h:=jn.mp h
  rcases cB.mp h1 with e | h1 <;> rcases cB.mp h2 with e' | h2
  .replace e:=(bR e':_)▸e;exact(Yp e).1
  .exact absurd (cO.mpr (aw _ h2 (by rw[<-e]))) h.1
  .exact absurd (cO.mpr (aw _ h1 (by rw[<-e']))) h.1
  .exact Je h.2 h1 h2
theorem In.Qa{c:FC}{σ:AS}{s s':ai}{x:af}{pv:PV}{v:ag}{a:aj}{mm:af->Option ag}(K:c.Ok)(I:In c σ s)(hx:c.cells.lookup x=some a)(hm:jg c s.heap mm)(hr:∀y,RL s.heap (σ.get y) (mm y))(hs:cW a s.heap s'.heap)
  (hc':s'.heap.IsCell a (some v)) (hv:RV s.heap pv v) (hu:pv≠.al) (ho:s'.os=s.os:=by rfl) (hg:s'.gens=s.gens:=by rfl) (ht:s.toks<=s'.toks:=by walk_at "tk"):In c (σ.set x pv) s':=by
 refine aC (hm.cu x a hx) λoc ec dc=>?_
 refine aC hc' λoc' ec' dc'=>?_;clear hc'
 refine aC hm.ns λm hns hmm=>?_
 have hL:c.L≠a:=by
  rintro q
  refine io hns λo es ep eL dL Z=>?_;clear hns
  replace eL:=ec▸q▸eL;refine(λj0=>?_) (bj eL);clear eL;subst j0;replace dL:=dc▸dL;cases dL
 have ne:∀b ob vs,s.heap.get? b=some ob->ob.data = .fields vs->b≠a:=λb ob vs e d q=>by
  replace e:=ec▸q▸e;refine(λj0=>?_) (bj e);clear e;subst j0;replace d:=dc▸d;cases d
 have neT:∀b ob vs n,s.heap.get? b=some ob->ob.data = .seq vs n->b≠a:=λb ob vs n e d q=>by
  replace e:=ec▸q▸e;refine(λj0=>?_) (bj e);clear e;subst j0;replace d:=dc▸d;cases d
 have tk:TK s.heap s'.heap:=λb ob vs n e hc hd=>(bh ob ((hs.2 b (neT b ob vs n e hd)).trans e) hc hd)
 refine aN (K.own.2 _ _ hx) λh0 h1b=>?_
 refine⟨λb ob e=>(hs.2 b λq=>by replace e:=q▸e;exact bI ((show c.b0.get? a=none from h0)▸e)).trans (I.b0 b ob e),u_ I.fr λb ob e hn=>?_,λb ob vs e h1 hcn h2=>?_,λb ob e h1 h2=>?_,
  (aw (λy=>if y=x then some v else mm y) ⟨(aw m (hns.sameBut hs hL) (λy hy=>?_)),λy b hy=>?_⟩ (λy=>VJ ((hr y).tk tk) (hv.tk tk) hu)),λb ao ha=>?_,I.L0,I.L1,I.Lo,I.tab.stays λb ob vs e d=>(hs.2 b (ne b ob vs e d)).trans e,ho.trans I.os,hg▸I.gens,I.nd,aJ I.tk ht,I.pL λb o e Z Z q Z=>(hs.2 b λz=>q x a hx z.symm).trans e⟩
 .by_cases q:b=a
  .subst q;exact(aw oc' ec' (λvs h=>by replace h:=dc'▸h;cases h))
  .exact(aw ob ((hs.2 b q).trans e) hn)
 .exact(hs.2 b (ne b ob vs (I.up1 b ob vs e h1 hcn h2) h2)).trans (I.up1 b ob vs e h1 hcn h2)
 .refine aP (I.cq b ob e h1 h2) λsl q=>?_
  refine⟨sl,(hs.2 b λz=>?_).trans q⟩
  replace e:=z▸e;exact bI ((show c.base.get? a=none from h1b)▸e)
 .have:y≠x:=λq=>by exact nV (hx▸q▸hy)
  show m y=if y=x then some v else mm y
  rw[an this];exact hmm y hy
 .show s'.heap.IsCell b (if y=x then some v else mm y)
  by_cases q:y=x
  .rw[aA q]
   replace hy:=hx▸q▸hy;refine(λj0=>?_) (bj hy);clear hy;subst j0
   exact(aw oc' ec' dc')
  .rw[an q]
   exact(hm.cu y b hy).sameBut hs λz=>q (K.own.1 _ _ _ hy (z▸hx))
 .refine gj (I.st b ao ha) λr h1 h2 h3 h4=>?_
  exact(lh (r.tk tk λob e Z=>⟨ob.slots,(hs.2 b (λq=>h4 x a hx q.symm)).trans e⟩) h1 h2 h3 h4)
structure aG where
 cls:ag
 args:Option (List PV)
def jG(h:am)(a0:ag):Option (List PV)->Prop
 | none=>True
 | some l=>∃t vs,a0 = .ref t/\h.TupAt t vs/\aB h l vs
theorem jG.up{h h':am}(u:h.UpToSlots h'){a0:ag}:∀{l:Option (List PV)},jG h a0 l->jG h' a0 l
 | none,_=>trivial
 | some _,⟨t,vs,e,ht,hr⟩=>⟨t,vs,e,ht.of_slots u,hr.tk (.Fe u)⟩
structure iI(c:FC)(B:am):Prop where
 b0:c.b0.StaysIn B
 up1:∀b o vs,c.base.get? b=some o->¬c.D b->jR o vs->o.data = .fields vs->B.get? b=some o
 tab:mr c.tb B
def MR(c:FC)(h h':am):Prop:=∀b o,h.get? b=some o->(∀vs,o.data≠.fields vs)->b≠c.L->(∀e∈c.outer,e.frame≠some b)->h'.get? b=some o
theorem In.tP{c:FC}{σ:AS}{s:ai}{h' B:am}(I:In c σ s)(R:iI c B)(k:B.StaysIn h')(u:s.heap.UpToSlots h')(ux:MR c s.heap h'):In c σ {s with heap:=h'}:=by
 refine aC I.ns λmm hm hr=>?_
 refine⟨λb o e=>k b o (R.b0 b o e),I.fr.of_keeps λb o e hn=>?_,λb o vs e h1 hcn h2=>k _ _ (R.up1 b o vs e h1 hcn h2),λb o e h1 h2=>?_,(aw mm (hm.up u) (λx=>(hr x).tk (.Fe u))),λa ao ha=>?_,I.L0,I.L1,I.Lo,R.tab.stays λb o Z e Z=>k b o e,I.os,I.gens,I.nd,I.tk,I.pL λb o e n hl Z hf=>ux b o e n hl hf⟩
 .refine aP (u b o e hn) λsl q=>?_
  exact(aw _ q rfl)
 .refine aP (I.cq b o e h1 h2) λsl q=>?_
  refine aP (u b _ q h2) λsl' q'=>?_
  exact⟨sl',q'⟩
 .refine aN (I.st a ao ha) λr h1=>?_
  exact⟨r.up u,h1⟩
inductive Chain(B:am):ag->List aj->Prop
 | nil:Chain B .none []
 | link {e:aj} {o:ax} {vs:Array ag} {cx:ag} {l:List aj}:B.get? e=some o->o.cls≠.none->o.data = .fields vs->vs[2]?=some cx->e∉l->Chain B cx l->Chain B (.ref e) (e::l)
theorem Chain.mono{B B':am}{v:ag}{l:List aj}(x:Chain B v l)(k:∀b o vs,B.get? b=some o->o.cls≠.none->o.data = .fields vs->B'.get? b=some o):Chain B' v l:=by
 induction x with
 | nil=>exact .nil
 | link h1 hc h2 h3 h4 _ ih=>exact .link (k _ _ _ h1 hc h2) hc h2 h3 h4 ih
theorem Chain.there{B:am}{v:ag}{l:List aj}(x:Chain B v l):∀e∈l,∃o vs,B.get? e=some o/\o.data = .fields vs:=by
 induction x with
 | nil=>intro e h;cases h
 | link h1 hc h2 h3 h4 _ ih=>
  intro e h
  rcases cB.mp h with rfl | h
  .exact(cM _ _ h1 h2)
  .exact ih e h
theorem Chain.fresh{B:am}{v:ag}{l:List aj}(x:Chain B v l){e:aj}(h:B.get? e=none):e∉l:=λm=>by
 refine gE (x.there e m) λo Z q Z=>?_
 exact bI (h▸q)
inductive mD(h base:am)(e:aj)(cls a0 cx fl:ag):Prop
 | mk (oe:ax) (vs:Array ag) (T:aj) (oT:ax) (ts:Array ag) (h1:h.get? e=some oe) (h2:oe.cls=cls) (h3:oe.data = .fields vs) (h4:vs[0]?=some a0) (h5:vs[1]?=some (.ref T)) (h6:vs[2]?=some cx) (h7:base.get? T=none) (h8:T≠e) (h9:h.get? T=some oT) (ha:oT.data = .fields ts) (hb:ts[3]?=some fl)
section
variable {M:cP}{A:bZ}{s:ai}{E:ag->ai->Prop}
theorem DO{B:am}{env:bB}{outer:List bB}{L e:aj}{oe:ax}{vs:Array ag}{head a0 cx:ag}{hadNext:Bool}{Q:Unit->ai->Prop}
  (hA:A.frames=some (env::outer)) (hl:s.heap.FunFrames B (env::outer)) (hF:env.frame=some L) (he:s.heap.get? e=some oe) (k:B.StaysIn s.heap) (hen:B.get? e=none)
  (hd:oe.data = .fields vs) (h0:vs[0]?=some a0) (h2:vs[2]?=some cx)
  (h:∀h',B.StaysIn h'->h'.FunFrames B (env::outer)->mD h' B e oe.cls a0 cx (bW L)->s.heap.UpToSlots h'->(∀b o,s.heap.get? b=some o->(∀vs,o.data≠.fields vs)->b∉(env::outer).filterMap (·.frame)->h'.get? b=some o)->Q () {s with heap:=h'}) :
  au M A (do let a <-frameOf env;let pl <-entryPlaceOf L hadNext;let b <-Kz head a .none (bW L) .none pl;KA (.ref e) 1 b) Q E s:=by
 have hsz:2<vs.size:=(ql.mp h2).1
 have nofr:∀b,b∈(env::outer).filterMap (·.frame)->B.get? b=none/\b≠e:=λb hb=>⟨(hl.mem hb).1,λq=>by
  obtain ⟨_,o,e1,e2⟩:=hl.mem hb
  replace e1:=he▸q▸e1;refine(λj0=>?_) (bj e1);clear e1;subst j0;exact e2 _ hd⟩
 refine ah (wpAny_frameOf_fun hA hl hF λbX hs=>?_)
 refine ah (wpAny_entryPlaceOf λpl hpl=>?_)
 unfold Kz sP
 refine ah (kf ?_ (hpl.sizeOk5 _ _ _ _ _))
 have Mi:bX.get? e=some oe:=(hs.2.1 e λm=>(nofr e m).2 rfl).trans he
 have k₁:B.StaysIn bX:=λb o q=>(hs.2.1 b λm=>by exact bI (((nofr b m).1)▸q)).trans (k b o q)
 generalize hob:({cls:=.type "traceback",dict:=none,data:=.fields ([head,.ref L,.none,bW L,.none]++(if pl.isEmpty then jx 6 fJ else pl)).toArray}:ax)=ob
 have Mj:(bX.push ob).get? e=some oe:=dy _ Mi
 have hTe:bX.objs.size≠e:=lR (dR Mi)
 refine sQ Mj hd (by exact oz ‹_›) ?_
 generalize hg:(jy (λx=>x.setIfInBounds 1 (dz bX.objs.size)))=g
 have hdg:(g oe).data = .fields (vs.setIfInBounds 1 (.ref bX.objs.size)):=by rw[<-hg];exact KB hd _
 have oth:∀b o,b≠e->bX.get? b=some o->((bX.push ob).update e g).get? b=some o:=λb o hb q=>by
  rw[wg _ _ (cV hb)];exact dy _ q
 have ne:∀b o,s.heap.get? b=some o->(∀vs,o.data≠.fields vs)->b≠e:=λb o q n z=>by replace q:=he▸z▸q;refine(λj0=>?_) (bj q);clear q;subst j0;exact n _ hd
 refine h _ (λb o q=>oth b o (λz=>by exact bI (hen▸z▸q)) (k₁ b o q)) (hl.of_keeps λb o q n=>?_) ?_ (λb o q n=>?_) ?_
 .refine aP (hs.2.2 b o q) λsl w=>?_
  exact(aw _ (oth b _ (ne b o q n) w) rfl)
 .have heg:((bX.push ob).update e g).get? e=some (g oe):=iZ g Mj (Yq hdg)
  have hT:((bX.push ob).update e g).get? bX.objs.size=some ob:=(wg _ _ (cV hTe)).trans (cH bX (by rw[<-hob];rfl))
  refine⟨g oe,_,bX.objs.size,ob,_,heg,(by rw[<-hg];exact Obj.cls_mapFields _ _),hdg,?_,?_,?_,k₁.fresh,hTe,hT,by rw[<-hob],?_⟩
  .rw[vG (by decide)];exact h0
  .have:1<vs.size:=by exact oz ‹_›
   simp[this]
  .rw[vG (by decide)];exact h2
  .first | (simp;done) | (rcases hpl with rfl | ⟨_,_,_,_,_,_,_,rfl⟩ <;> simp)
 .refine aP (hs.2.2 b o q) λsl w=>?_
  exact⟨sl,oth b _ (ne b o q n) w⟩
 .exact λb o q n hb=>oth b o (ne b o q n) ((hs.2.1 b hb).trans q)
theorem Qi{B:am}{l:List bB}{e:aj}{cls a0 cx fl:ag}{f:Option aj}{Q:Unit->ai->Prop}(k:B.StaysIn s.heap)(hl:s.heap.FunFrames B l)(T:mD s.heap B e cls a0 cx fl)
  (h:∀h',B.StaysIn h'->h'.FunFrames B l->mD h' B e cls a0 cx (f.elim fJ λf=>bW f)->s.heap.UpToSlots h'->(∀b o,s.heap.get? b=some o->(∀vs,o.data≠.fields vs)->h'.get? b=some o)->Q () {s with heap:=h'}):au M A (mU (.ref e) f) Q E s:=by
 obtain ⟨oe,vs,T,oT,ts,he,hc,hd,h0,h1,h2,hn,hTe,hT,hdT,h3⟩:=T
 have hz:3<ts.size:=(ql.mp h3).1
 unfold mU
 refine ah (fV he hd h1 ?_)
 rw[aA (show(dz T !=fJ)=true from by simp)]
 refine sQ hT hdT hz ?_
 have oth:∀b,b≠T->(s.heap.update T (jy (·.setIfInBounds 3 (f.elim fJ λf=>bW f)))).get? b=s.heap.get? b:=λb hb=>wg _ _ (cV hb)
 have ne:∀b o,s.heap.get? b=some o->(∀vs,o.data≠.fields vs)->b≠T:=λb o q n z=>by replace q:=hT▸z▸q;refine(λj0=>?_) (bj q);clear q;subst j0;exact n _ hdT
 refine h _ (λb o q=>(oth b λz=>by exact bI (hn▸z▸q)).trans (k b o q)) (hl.of_keeps λb o q n=>(aw o ((oth b (ne b o q n)).trans q) rfl)) ?_ (λb o q n=>⟨o.slots,(oth b (ne b o q n)).trans q⟩) λb o q n=>(oth b (ne b o q n)).trans q
 exact⟨oe,vs,T,_,_,(oth e (cV hTe)).trans he,hc,hd,h0,h1,h2,hn,hTe,iZ _ hT (Yq (KB hdT _)),KB hdT _,by simp[hz]⟩
end
inductive Pe(h:am)(e:aj)(cls a0 cx:ag):Prop
 | mk (oe:ax) (vs:Array ag) (h1:h.get? e=some oe) (h2:oe.cls=cls) (h3:oe.data = .fields vs) (h4:vs[0]?=some a0) (h5:vs[1]?=some .none) (h6:vs[2]?=some cx)
inductive jU(c:FC)(x:aG)(e:aj)(h:am):Prop
 | mk (B:am) (a0 cx:ag) (h1:iI c B) (h2:B.StaysIn h) (h3:B.get? e=none) (h4:h.FunFrames B (c.env::c.outer)) (h5:jG h a0 x.args) (h6:x.cls≠.none/\∃l,Chain B cx l) (h7:Pe h e x.cls a0 cx\/mD h B e x.cls a0 cx .none\/mD h B e x.cls a0 cx (bW c.L))
inductive rm(c:FC)(x:aG)(e:aj)(h:am)(fl:ag):Prop
 | mk (B:am) (a0 cx:ag) (h1:iI c B) (h2:B.StaysIn h) (h3:B.get? e=none) (h4:h.FunFrames B (c.env::c.outer)) (h5:jG h a0 x.args) (h6:x.cls≠.none/\∃l,Chain B cx l) (h7:mD h B e x.cls a0 cx fl)
abbrev nN(c:FC)(x:aG)(e:aj)(h:am):Prop:=rm c x e h (bW c.L)
abbrev jV(c:FC)(x:aG)(e:aj)(h:am):Prop:=rm c x e h .none
theorem jU.re{c d:FC}{x:aG}{e:aj}{h:am}(n:jU d x e h)(f:∀B,iI d B->iI c B)(g:d.env=c.env/\d.outer=c.outer/\d.L=c.L):jU c x e h:=by
 cases n with | mk B a0 cx h1 h2 h3 h4 h5 h6 h7=>exact⟨B,a0,cx,f B h1,h2,h3,g.1▸g.2.1▸h4,h5,h6,g.2.2▸h7⟩
theorem rm.tb{c:FC}{x:aG}{e:aj}{h:am}{fl:ag}(T:rm c x e h fl):∃oe vs T1,h.get? e=some oe/\oe.data = .fields vs/\vs[1]?=some (.ref T1):=by
 cases T with | mk _ _ _ _ _ _ _ _ _ T=>cases T with | mk oe vs T1 _ _ h1 _ h3 _ h5=>exact(ly oe vs T1 h1 h3 h5)
theorem nN.thrown{c:FC}{x:aG}{e:aj}{h:am}(n:nN c x e h):jU c x e h:=by
 cases n with | mk B a0 cx h1 h2 h3 h4 h5 h6 h7=>exact⟨B,a0,cx,h1,h2,h3,h4,h5,h6,.inr (.inr h7)⟩
section
variable {c:FC}{σ:AS}{s:ai}{x:aG}{e:aj}{M:cP}{A:bZ}{E:ag->ai->Prop}{Q:Unit->ai->Prop}
theorem u0(hA:A.frames=some (c.env::c.outer))(hF:c.env.frame=some c.env.locals)(I:In c σ s)(T:jU c x e s.heap)
  (h:∀h',In c σ {s with heap:=h'}->nN c x e h'->Q () {s with heap:=h'}):au M A (wi (.ref e) c.env) Q E s:=by
 obtain ⟨B,a0,cx,R,k,hen,hl,ha,hc,T⟩:=T
 have e0:wi (.ref e) c.env=(do
   let head <-field (.ref e) 1
   if head !=.none then
    if(<-field head 3)==bW c.L then return
    KA head 3 .none
   KA (.ref e) 1 (<-Kz head (<-frameOf c.env) .none (bW c.L) .none (<-entryPlaceOf c.L (head !=.none)))):=by
  unfold wi;rw[hF]
 rw[e0]
 have nfr:∀b,b≠c.L->(∀e∈c.outer,e.frame≠some b)->b∉(c.env::c.outer).filterMap (·.frame):=λb h1 h2 hb=>by
  refine aC (qm.mp hb) λenv he hf=>?_
  rcases cB.mp he with rfl | he
  .replace hf:=hF▸hf;exact h1 (kN hf).symm
  .exact h2 env he hf
 rcases T with⟨oe,vs,he,hcl,hd,h0,h1,h2⟩ | ⟨oe,vs,T,oT,ts,he,hcl,hd,h0,h1,h2,hn,hTe,hT,hdT,h3⟩ | T
 .refine ah (fV he hd h1 ?_)
  rw[an (by decide)]
  refine DO hA hl hF he k hen hd h0 h2 λh' n1 n2 n3 n4 n5=>?_
  replace n3:=hcl▸n3
  exact h h' (I.tP R n1 n4 λb o q n z1 z2=>n5 b o q n (nfr b z1 z2)) ⟨B,a0,cx,R,n1,hen,n2,ha.up n4,hc,n3⟩
 .refine ah (fV he hd h1 ?_)
  rw[aA (show(dz T !=fJ)=true from by simp)]
  refine ah (fV hT hdT h3 ?_)
  rw[an (show ¬((fJ==bW c.L)=true) from by simp[bW])]
  refine ah (sQ hT hdT (ql.mp h3).1 ?_)
  have oth:∀b,b≠T->(s.heap.update T (jy (·.setIfInBounds 3 fJ))).get? b=s.heap.get? b:=λb hb=>wg _ _ (cV hb)
  have ne:∀b o,s.heap.get? b=some o->(∀vs,o.data≠.fields vs)->b≠T:=λb o q n z=>by replace q:=hT▸z▸q;refine(λj0=>?_) (bj q);clear q;subst j0;exact n _ hdT
  have u:s.heap.UpToSlots (s.heap.update T (jy (·.setIfInBounds 3 fJ))):=λb o q n=>⟨o.slots,(oth b (ne b o q n)).trans q⟩
  refine DO hA (hl.of_keeps λb o q n=>(aw o ((oth b (ne b o q n)).trans q) rfl)) hF ((oth e (cV hTe)).trans he) (λb o q=>(oth b λz=>by exact bI (hn▸z▸q)).trans (k b o q)) hen hd h0 h2 λh' n1 n2 n3 n4 n5=>?_
  replace n3:=hcl▸n3
  have u':s.heap.UpToSlots h':=λb o q n=>n4 b o ((oth b (ne b o q n)).trans q) n
  exact h h' (I.tP R n1 u' λb o q n z1 z2=>n5 b o ((oth b (ne b o q n)).trans q) n (nfr b z1 z2)) ⟨B,a0,cx,R,n1,hen,n2,ha.up u',hc,n3⟩
 .have Tc:=T
  obtain ⟨oe,vs,T,oT,ts,he,hcl,hd,h0,h1,h2,hn,hTe,hT,hdT,h3⟩:=T
  refine ah (fV he hd h1 ?_)
  rw[aA (show(dz T !=fJ)=true from by simp)]
  refine ah (fV hT hdT h3 ?_)
  rw[aA (show(bW c.L==bW c.L)=true from by exact Yr)]
  exact aE (h s.heap I ⟨B,a0,cx,R,k,hen,hl,ha,hc,Tc⟩)
theorem y0{f:Option aj}{fl:ag}{B:am}{a0 cx:ag}(I:In c σ s)(R:iI c B)(k:B.StaysIn s.heap)(hl:s.heap.FunFrames B (c.env::c.outer))(ha:jG s.heap a0 x.args)(T:mD s.heap B e x.cls a0 cx fl)
  (h:∀h',In c σ {s with heap:=h'}->B.StaysIn h'->h'.FunFrames B (c.env::c.outer)->jG h' a0 x.args->mD h' B e x.cls a0 cx (f.elim fJ λf=>bW f)->s.heap.UpToSlots h'->Q () {s with heap:=h'}):au M A (mU (.ref e) f) Q E s:=
 Qi k hl T λh' k1 k2 k3 k4 k5=>h h' (I.tP R k1 k4 λb o q n Z Z=>k5 b o q n) k1 k2 (ha.up k4) k3 k4
theorem CX(I:In c σ s)(T:nN c x e s.heap)
  (h:∀h',In c σ {s with heap:=h'}->jV c x e h'->Q () {s with heap:=h'}):au M A (mU (.ref e) none) Q E s:=by
 obtain ⟨B,a0,cx,R,k,hen,hl,ha,hc,T⟩:=T
 exact y0 I R k hl ha T λh' I' k1 k2 ha' T' Z=>h h' I' ⟨B,a0,cx,R,k1,hen,k2,ha',hc,T'⟩
theorem JN(I:In c σ s)(T:nN c x e s.heap\/jV c x e s.heap)
  (h:∀h',In c σ {s with heap:=h'}->nN c x e h'->Q () {s with heap:=h'}):au M A (mU (.ref e) (some c.L)) Q E s:=by
 have:∃fl,rm c x e s.heap fl:=T.elim (λT=>⟨_,T⟩) λT=>⟨_,T⟩
 refine aP this λfl T=>?_;clear this
 obtain ⟨B,a0,cx,R,k,hen,hl,ha,hc,T⟩:=T
 exact y0 I R k hl ha T λh' I' k1 k2 ha' T' Z=>h h' I' ⟨B,a0,cx,R,k1,hen,k2,ha',hc,T'⟩
end
inductive EPost(c:FC)(E:aG->AS->Prop)(v:ag)(s':ai):Prop
 | mk (e:aj) (x:aG) (σ':AS) (hv:v = .ref e) (I:In c σ' s') (T:jU c x e s'.heap) (q:E x σ')
inductive cw{α X:Type}(c:FC)(ρ:am->X->α->Prop)(s:ai)(Q:X->AS->Prop)(v:α)(s':ai):Prop
 | mk (x:X) (σ':AS) (I:In c σ' s') (r:ρ s'.heap x v) (k:TK s.heap s'.heap) (q:Q x σ')
theorem cw.elim{α X:Type}{c:FC}{ρ:am->X->α->Prop}{s:ai}{Q:X->AS->Prop}{v:α}{s':ai}{G:Prop}(h:cw c ρ s Q v s')(f:∀x σ',In c σ' s'->ρ s'.heap x v->TK s.heap s'.heap->Q x σ'->G):G:=by
 cases h;exact f _ _ ‹_› ‹_› ‹_› ‹_›
theorem EPost.elim{c:FC}{E:aG->AS->Prop}{v:ag}{s':ai}{G:Prop}(h:EPost c E v s')(f:∀e x σ',v = .ref e->In c σ' s'->jU c x e s'.heap->E x σ'->G):G:=by
 cases h;exact f _ _ _ ‹_› ‹_› ‹_› ‹_›
theorem EPost.no{c:FC}{v:ag}{s':ai}{G:Prop}(h:EPost c (λZ Z=>False) v s'):G:=h.elim λZ Z Z Z Z Z q=>q.elim
theorem bH{α X:Type}{c:FC}{ρ:am->X->α->Prop}{s aV:ai}{Q:X->AS->Prop}{M:cP}{A:bZ}{m:bf α}{P:α->ai->Prop}{F:ag->ai->Prop}(h:au M A m (cw c ρ aV Q) F s)
  (k:∀v ay x aq,In c aq ay->ρ ay.heap x v->TK aV.heap ay.heap->Q x aq->P v ay):au M A m P F s:=bn h (λv ay p=>p.elim λx aq I r t q=>k v ay x aq I r t q) λZ Z x=>x
def Tr{α X:Type}(c:FC)(ρ:am->X->α->Prop)(t:bf α)(σ:AS)(Q:X->AS->Prop)(E:aG->AS->Prop):Prop:=
 ∀s,In c σ s->au (av aF c.w) c.A t (cw c ρ s Q) (EPost c E) s
def fw{X:Type}:am->X->X->Prop:=λZ x v=>x=v
inductive bO where
 | next | brk | cont
 | ret (x:PV)
 | exc (x:aG)
inductive fD(c:FC)(h:am)(x:aG)(v:ag):Prop
 | mk (e t:aj) (hv:v = .ref e) (h1:h.get? e=some {cls:=x.cls,data:=.fields #[.ref t,.none,.none,.none,.bool false,.none]}) (h2:jG h (.ref t) x.args) (h3:fQ c e) (h4:c.b0.get? e=none)
def RF(c:FC)(h:am):bO->i5->Prop
 | .next,f=>f = .next
 | .brk,f=>f = .brk
 | .cont,f=>f = .cont
 | .ret x,f=>∃v,f = .ret v/\RV h x v
 | .exc x,f=>∃v,f = .ret v/\fD c h x v
section
variable (c:FC)
abbrev W{α X:Type}(ρ:am->X->α->Prop)(t:bf α)(s:ai)(Q:X->AS->Prop)(E:aG->AS->Prop):Prop:=au (av aF c.w) c.A t (cw c ρ s Q) (EPost c E) s
def Ev(e:aL)(σ:AS)(Q:PV->AS->Prop)(E:aG->AS->Prop):Prop:=Tr c RV (eval e c.env) σ Q E
def Et(e:aL)(σ:AS)(Q:Bool->AS->Prop)(E:aG->AS->Prop):Prop:=∀whole,whole=eval e c.env->Tr c fw (sR e c.env whole) σ Q E
inductive jN(Q:bO->AS->Prop)(f:i5)(s':ai):Prop
 | mk (x:bO) (σ':AS) (I:In c σ' s') (r:RF c s'.heap x f) (q:Q x σ')
theorem jN.elim{c:FC}{Q:bO->AS->Prop}{v:i5}{s':ai}{G:Prop}(h:jN c Q v s')(f:∀x σ',In c σ' s'->RF c s'.heap x v->Q x σ'->G):G:=by
 cases h;exact f _ _ ‹_› ‹_› ‹_›
theorem HX{c:FC}{s:ai}{Q:bO->AS->Prop}{M:cP}{A:bZ}{m:bf i5}{P:i5->ai->Prop}{F:ag->ai->Prop}(h:au M A m (jN c Q) F s)
  (k:∀v ay x aq,In c aq ay->RF c ay.heap x v->Q x aq->P v ay):au M A m P F s:=bn h (λv ay p=>p.elim λx aq I r q=>k v ay x aq I r q) λZ Z x=>x
def Ex(st:bA)(σ:AS)(Q:bO->AS->Prop)(E:aG->AS->Prop):Prop:=∀s,In c σ s->au (av aF c.w) c.A (exec st c.env) (jN c Q) (EPost c E) s
def dC(sts:List bA)(σ:AS)(Q:bO->AS->Prop)(E:aG->AS->Prop):Prop:=∀s,In c σ s->au (av aF c.w) c.A (jt sts c.env) (jN c Q) (EPost c E) s
def U1{α X:Type}(ρ:am->X->α->Prop)(f:ag->bf α)(x:PV)(σ:AS)(Q:X->AS->Prop)(E:aG->AS->Prop):Prop:=
 ∀s v,In c σ s->RV s.heap x v->W c ρ (f v) s Q E
def U2{α X:Type}(ρ:am->X->α->Prop)(f:ag->ag->bf α)(x y:PV)(σ:AS)(Q:X->AS->Prop)(E:aG->AS->Prop):Prop:=
 ∀s u v,In c σ s->RV s.heap x u->RV s.heap y v->W c ρ (f u v) s Q E
def RU:am->Unit->Unit->Prop:=λZ Z Z=>True
end
section
variable {c:FC}{σ:AS}{E:aG->AS->Prop}
theorem xM{α X:Type}{ρ:am->X->α->Prop}{s s':ai}{Q:X->AS->Prop}(k:TK s.heap s'.heap):∀v s'',cw c ρ s' Q v s''->cw c ρ s Q v s'':=
 λZ Z ⟨x,σ',I,r,k',q⟩=>⟨x,σ',I,r,k.trans k',q⟩
theorem iS{α X:Type}{ρ:am->X->α->Prop}{t:bf α}{s s':ai}{Q:X->AS->Prop}(k:TK s.heap s'.heap)(h:W c ρ t s' Q E):au (av aF c.w) c.A t (cw c ρ s Q) (EPost c E) s':=
 bn h (xM k) λZ Z x=>x
theorem In.tok{s:ai}(I:In c σ s)(n:Nat)(h:s.toks<=n:=by walk_at "tk"):In c σ {s with toks:=n}:=I.grow (λZ Z e=>e) (ht:=h)
theorem Ev.int{i:Int}{k:Nat}{pos:aT}{Q:PV->AS->Prop}(h:Q (.int i) σ):Ev c (.Constant (.int i) k pos) σ Q E:=λs I=>
 AX ⟨.int i,σ,I.tok _,⟨_,rfl⟩,TK.refl _,h⟩
theorem Ev.str{x:af}{k:Nat}{pos:aT}{Q:PV->AS->Prop}(h:Q (.str x) σ):Ev c (.Constant (.str x) k pos) σ Q E:=λs I=>
 oF ⟨.str x,σ,I.tok _,⟨_,rfl⟩,TK.refl _,h⟩
theorem Ev.bool{b:Bool}{k:Nat}{pos:aT}{Q:PV->AS->Prop}(h:Q (.bool b) σ):Ev c (.Constant (.bool b) k pos) σ Q E:=λs I=>
 aE ⟨.bool b,σ,I,rfl,TK.refl _,h⟩
theorem Ev.none{k:Nat}{pos:aT}{Q:PV->AS->Prop}(h:Q .none σ):Ev c (.Constant .none k pos) σ Q E:=λs I=>
 aE ⟨.none,σ,I,rfl,TK.refl _,h⟩
theorem VI{s:ai}{x:af}{mm:af->Option ag}(hr:∀y,RL s.heap (σ.get y) (mm y))(hu:σ.get x≠.al):∃v,mm x=some v/\RV s.heap (σ.get x) v:=by
 have r:=hr x
 revert r hu
 cases σ.get x <;> intro hu r <;> first | exact absurd rfl hu | exact r
def kE(c:FC)(x:af):Prop:=(c.env.kindOf x=some .local/\c.cells.lookup x=none)\/(c.env.kindOf x=some .cell/\∃a,c.cells.lookup x=some a)
theorem Fq{x:af}{s aV:ai}{Q:PV->AS->Prop}(K:c.n6)(hl:kE c x)(I:In c σ s)(k:TK aV.heap s.heap)(hu:σ.get x≠.al)(h:Q (σ.get x) σ) :
  au (av aF c.w) c.A (loadName c.env x) (cw c RV aV Q) (EPost c E) s:=by
 refine aC I.ns λmm hm hr=>?_
 refine aC (VI hr hu) λv e q=>?_
 rcases hl with⟨hl,hc⟩ | ⟨hl,a,hc⟩
 .refine aC hm.ns λm hns hmm=>?_
  exact wj K.kind hl hns ((hmm x hc).trans e) ⟨_,σ,I,q,k,h⟩
 .exact KC K.kind hl hc (e▸hm.cu x a hc) ⟨_,σ,I,q,k,h⟩
theorem Ev.local{x:af}{pos:aT}{Q:PV->AS->Prop}(K:c.n6)(hl:kE c x)(hd:(x==("__debug__" : af))=false)(hu:σ.get x≠.al)(h:Q (σ.get x) σ) :
  Ev c (.Name x pos) σ Q E:=λs I=>qo (Fq K hl I (TK.refl _) hu h) hd
theorem UK{l r:aL}{op:sS}{pos:aT}{Q:PV->AS->Prop}(h:Ev c l σ (λx aq=>Ev c r aq (λy a8=>U2 c RV (fy op) x y a8 Q E) E) E):Ev c (.BinOp l op r pos) σ Q E:=λs I=>
 wl (bH (h s I) (λa ay Z Z aQ aZ k₁ a7=>bH (a7 ay aQ) (λb bc Z Z a_ bV k₂ bz=>iS (k₁.trans k₂) (bz bc a b a_ (aZ.tk k₂) bV))))
theorem Qy{l r:aL}{op:qp}{pos:aT}{Q:PV->AS->Prop}(hm:wm op r=false)(h:Ev c l σ (λx aq=>Ev c r aq (λy a8=>U2 c RV (ce op) x y a8 Q E) E) E):Ev c (.Compare l [op] [r] pos) σ Q E:=λs I=>
 wpAny_Compare1 (bH (h s I) (λa ay Z Z aQ aZ k₁ a7=>bH (a7 ay aQ) (λb bc Z Z a_ bV k₂ bz=>iS (k₁.trans k₂) (bz bc a b a_ (aZ.tk k₂) bV)))) hm
theorem Fs{l r:aL}{op:qp}{pos:aT}{Q:Bool->AS->Prop}(hm:wm op r=false)(h:Ev c l σ (λx aq=>Ev c r aq (λy a8=>U2 c RV (ce op) x y a8 (λz dT=>U1 c fw eZ z dT Q E) E) E) E):Et c (.Compare l [op] [r] pos) σ Q E:=λZ Z s I=>
 wpAny_isTrue_Compare1 (bH (h s I) (λa ay Z Z aQ aZ k₁ a7=>bH (a7 ay aQ) (λb bc Z Z a_ bV k₂ bz=>bH (bz bc a b a_ (aZ.tk k₂) bV) (λv bg Z Z dM gY jD fz=>iS (k₁.trans (k₂.trans jD)) (fz bg v dM gY))))) hm
def Br(b:Bool)(P R:Prop):Prop:=(b=true->P)/\(b=false->R)
theorem Ex.if{test:aL}{body orelse:List bA}{pos:aT}{Q:bO->AS->Prop}(h:Et c test σ (λb aq=>Br b (dC c body aq Q E) (dC c orelse aq Q E)) E):Ex c (.If test body orelse pos) σ Q E:=λs I=>
 wpAny_If (bH (h _ rfl s I) (λb ay Z Z aQ aZ k₁ a7=>by
  cases aZ
  cases b with
  | true=>exact a7.1 rfl ay aQ
  | false=>exact a7.2 rfl ay aQ))
theorem dC.nil{Q:bO->AS->Prop}(h:Q .next σ):dC c [] σ Q E:=λZ I=>KD ⟨.next,σ,I,rfl,h⟩
theorem dC.cons{st:bA}{r:List bA}{Q:bO->AS->Prop}(h:Ex c st σ (λf aq=>match f with | .next=>dC c r aq Q E | f=>Q f aq) E):dC c (st::r) σ Q E:=λs I=>
 wn (HX (h s I) (λf ay x aq aQ aZ a7=>by
  cases x with
  | next=>cases aZ;exact a7 ay aQ
  | brk=>cases aZ;exact⟨.brk,aq,aQ,rfl,a7⟩
  | cont=>cases aZ;exact⟨.cont,aq,aQ,rfl,a7⟩
  | ret y=>refine aC aZ λv j1 q=>?_;clear aZ;subst j1;exact⟨.ret y,aq,aQ,(aw v rfl q),a7⟩
  | exc y=>refine aC aZ λv j1 q=>?_;clear aZ;subst j1;exact⟨.exc y,aq,aQ,(aw v rfl q),a7⟩))
theorem Ex.pass{pos:aT}{Q:bO->AS->Prop}(h:Q .next σ):Ex c (.Pass pos) σ Q E:=λZ I=>wpAny_Pass ⟨.next,σ,I,rfl,h⟩
theorem Ex.ret{e:aL}{pos:aT}{Q:bO->AS->Prop}(h:Ev c e σ (λx aq=>Q (.ret x) aq) E):Ex c (.Return (some e) pos) σ Q E:=λs I=>
 Ys (bH (h s I) (λv Z x aq aQ aZ k₁ a7=>⟨.ret x,aq,aQ,(aw v rfl aZ),a7⟩))
theorem RV.DD{h:am}{x:PV}{v:ag}(r:RV h x v):x≠.al:=by rintro rfl;exact r
theorem nk{x:af}{pv:PV}{v:ag}{s aV:ai}{Q:Unit->AS->Prop}(K:c.Ok)(hl:kE c x)(I:In c σ s)(hv:RV s.heap pv v)(k:TK aV.heap s.heap)(h:Q () (σ.set x pv)) :
  au (av aF c.w) c.A (KE c.env x v) (cw c RU aV Q) (EPost c E) s:=by
 refine aC I.ns λmm hm hr=>?_
 have hk:=K.kind
 rcases hl with⟨hl,hc⟩ | ⟨hl,a,hc⟩
 .refine aC hm.ns λm hns hmm=>?_
  refine wo hl hns (λh' hn hs=>?_) (by show(c.scope.kind==.class||(c.scope.kind==.module&&c.env.locals !=c.env.globals))=false;rw[hk];rfl)
  refine⟨(),_,I.store (x:=x) hc hm hns hmm hr hs hn hv hv.DD,trivial,k.trans ?_,h⟩
  refine io hns λo es ep eL dL Z=>?_;clear hns
  exact λb ob vs n e hc hd=>(bh ob ((hs.2 b λq=>by
   replace e:=eL▸q▸e;refine(λj0=>?_) (bj e);clear e;subst j0;replace hd:=dL▸hd;cases hd).trans e) hc hd)
 .refine wpAny_storeName_cell hk hl hc (hm.cu x a hc) λh' hn hs=>?_
  refine⟨(),_,I.Qa (x:=x) K hc hm hr hs hn hv hv.DD,trivial,k.trans ?_,h⟩
  refine aC (hm.cu x a hc) λo ec dc=>?_
  exact λb ob vs n e hc hd=>(bh ob ((hs.2 b λq=>by
   replace e:=ec▸q▸e;refine(λj0=>?_) (bj e);clear e;subst j0;replace hd:=dc▸hd;cases hd).trans e) hc hd)
theorem Ex.assign{x:af}{pos' pos:aT}{value:aL}{Q:bO->AS->Prop}(K:c.Ok)(hs:lW value (some (.Name x pos')) pos.line c.env=pure false)(hl:kE c x)
  (h:Ev c value σ (λv aq=>Q .next (aq.set x v)) E):Ex c (.Assign [.Name x pos'] value pos) σ Q E:=λs I=>
 KF (bH (h s I) (λv ay pv aq aQ aZ k₁ a7=>bH (nk (Q:=λZ σ=>Q .next σ) (E:=E) K hl aQ aZ k₁ a7) (λZ Z Z a8 a_ Z Z bz=>⟨.next,a8,a_,rfl,bz⟩))) hs
end
def noStar(l:List aL):Prop:=∀env,lX l env=l.map λe=>(false,eval e env)
theorem noStar.cons{x:aL}{r:List aL}(h:noStar r)(e:∀env,lX (x::r) env=(false,eval x env)::lX r env):noStar (x::r):=λenv=>(e env).trans (aI _ (h env))
section
variable (c:FC)
def b7:List aL->AS->(List PV->AS->Prop)->(aG->AS->Prop)->Prop
 | [],σ,Q,_=>Q [] σ
 | e::r,σ,Q,E=>Ev c e σ (λx aq=>b7 r aq (λxs a8=>Q (x::xs) a8) E) E
noncomputable def iV(f:ag)(vs:List ag)(kw:List (af×ag)):bf ag:=do
 let _ <-mV f
 call f vs kw
def cL{X:Type}(ρ:am->X->ag->Prop)(f:PV)(xs:List PV)(ks:List af)(kxs:List PV)(σ:AS)(Q:X->AS->Prop)(E:aG->AS->Prop):Prop:=
 ∀s fv vs kvs,In c σ s->RV s.heap f fv->aB s.heap xs vs->aB s.heap kxs kvs->W c ρ (iV fv vs (ks.zip kvs)) s Q E
abbrev aM(f:PV)(xs:List PV)(ks:List af)(kxs:List PV)(σ:AS)(Q:PV->AS->Prop)(E:aG->AS->Prop):Prop:=cL c RV f xs ks kxs σ Q E
def k9{X:Type}(ρ:am->X->ag->Prop)(e:aL)(σ:AS)(Q:X->AS->Prop)(E:aG->AS->Prop):Prop:=Tr c ρ (eval e c.env) σ Q E
end
section
variable {c:FC}{σ:AS}{E:aG->AS->Prop}
theorem aB.cons{h:am}{x:PV}{xs:List PV}{v:ag}{vs:List ag}(r:RV h x v)(rs:aB h xs vs):aB h (x::xs) (v::vs):=by
 rw[aB];exact(eV v vs rfl r rs)
theorem aB.nil{h:am}:aB h [] []:=by rw[aB]
theorem t7(pos:aT):∀(args:List aL) (σ:AS) (Q:List PV->AS->Prop),b7 c args σ Q E->∀s,In c σ s->
  au (av aF c.w) c.A (spliced (kR pos (args.map λe=>(false,eval e c.env)))) (cw c aB s Q) (EPost c E) s
 | [],σ,Q,h,s,I=>aE ⟨[],σ,I,aB.nil,TK.refl _,h⟩
 | e::r,σ,Q,h,s,I=>by
  show au _ _ (do let v <-eval e c.env;let here <-(pure [v]:bf (List ag));return here++(<-holding here (spliced (kR pos (r.map λe=>(false,eval e c.env)))))) _ _ s
  refine ah (bH (h s I) (λv ay x aq aQ aZ k₁ a7=>?_))
  refine ah (aE (ah (bT ?_)))
  refine bH (t7 pos r aq _ a7 ay aQ) (λvs bc xs a8 a_ bV k₂ bz=>?_)
  exact aE ⟨x::xs,a8,a_,aB.cons (aZ.tk k₂) bV,k₁.trans k₂,bz⟩
theorem HE(pos:aT):∀(kws:List gV) (σ:AS) (Q:List PV->AS->Prop),b7 c (kws.map (·.value)) σ Q E->∀s,In c σ s->
  au (av aF c.w) c.A (wr ((ie pos (ig kws c.env)).map (·.2))) (cw c aB s Q) (EPost c E) s
 | [],σ,Q,h,s,I=>aE ⟨[],σ,I,aB.nil,TK.refl _,h⟩
 | ⟨nm,e,kp⟩::r,σ,Q,h,s,I=>by
  show au _ _ (do let v <-(do let v <-eval e c.env;iF pos;pure v:bf ag);return v::(<-holding [v] (wr ((ie pos (ig r c.env)).map (·.2))))) _ _ s
  refine ah (ah (bH (h s I) (λv ay x aq aQ aZ k₁ a7=>?_)))
  refine ah (d9 (aE (ah (bT ?_))))
  refine bH (HE pos r aq _ a7 ay aQ) (λvs bc xs a8 a_ bV k₂ bz=>?_)
  exact aE ⟨x::xs,a8,a_,aB.cons (aZ.tk k₂) bV,k₁.trans k₂,bz⟩
noncomputable def iz:List gV->List af
 | []=>[]
 | ⟨some n,_,_⟩::r=>n::iz r
 | ⟨none,_,_⟩::r=>iz r
noncomputable def mA:List gV->Bool
 | []=>true
 | ⟨some _,_,_⟩::r=>mA r
 | ⟨none,_,_⟩::_=>false
theorem yS(pos:aT){env:bB}:∀{kws:List gV},mA kws=true->(ie pos (ig kws env)).filterMap (·.1)=iz kws/\(ie pos (ig kws env)).all (·.1.isSome)=true/\(ie pos (ig kws env)).any (·.1.isNone)=false
 | [],_=>⟨rfl,rfl,rfl⟩
 | ⟨some n,e,kp⟩::r,h=>by
  refine eO (yS pos (env:=env) (kws:=r) h) λa b d=>?_
  refine⟨?_,?_,?_⟩
  .show n::(ie pos (ig r env)).filterMap (·.1)=n::iz r
   rw[a]
  .show(true&&(ie pos (ig r env)).all (·.1.isSome))=true
   rw[b];rfl
  .show(false||(ie pos (ig r env)).any (·.1.isNone))=false
   rw[d];rfl
 | ⟨none,_,_⟩::_,h=>nomatch h
theorem yA{α β:Type}{M:cP}{A:bZ}{m:bf α}{f:α->bf β}{Q:β->ai->Prop}{E:ag->ai->Prop}{s:ai}{g:α->bf β}(h:au M A (m >>= f) Q E s)
  (hk:∀a Γ p s,Γ.In A->cj M Γ (f a) (λa Z s'=>Q a s') (λe Z s'=>E e s') p s->cj M Γ (g a) (λa Z s'=>Q a s') (λe Z s'=>E e s') p s):au M A (m >>= g) Q E s:=λΓ p hΓ=>by
 have h:=h Γ p hΓ
 rw[ic] at h |-
 exact ib _ _ _ (λa p' s' q=>hk a Γ p' s' hΓ q) (λZ Z Z q=>q) _ _ h
theorem xi{M:cP}{A:bZ}{f:ag}{pos:aT}{first:List ag}{args:List (Bool×bf ag)}{kws:List (Option af×bf ag)}{Q:ag->ai->Prop}{E:ag->ai->Prop}{s:ai}
  (h:au M A (KG f true args kws) (λa s'=>au M A (iV f (first++a.pos) a.kw) Q E s') E s):au M A (KH pos f first args kws) Q E s:=by
 unfold KH
 refine ah (bT (bn h (λa s' h'=>?_) λZ Z x=>x))
 refine ah (d9 ?_)
 dsimp only
 unfold iV at h'
 refine yA h' λk Γ p s'' hΓ q=>?_
 have fin:cj M Γ (call f (first++a.pos) a.kw) (λr p s=>cj M Γ (holding [r] point >>= λZ=>pure r) (λa Z s'=>Q a s') (λe Z s'=>E e s') p s) (λe Z s'=>E e s') p s'':=
  ib _ _ _ (λr p2 s2 q=>by rw[ic,Yd];exact q) (λZ Z Z q=>q) _ _ q
 cases k <;> cases (args.any (·.1)||kws.any (·.1.isNone)) <;> dsimp only <;> first
  | (rw[ic];unfold callMarked;rw[Sem.wp_keep];exact fin)
  | (rw[ic,AY];exact fin)
  | (rw[ic];exact fin)
  | (split <;> first | (rw[ic];unfold callMarked;rw[Sem.wp_keep];exact fin) | (rw[ic];exact fin))
inductive tF(c:FC)(ns:List af)(h:am)(Q:List PV->List PV->AS->Prop)(a:qg)(s':ai):Prop
 | mk (xs kxs:List PV) (kvs:List ag) (σ':AS) (I:In c σ' s') (r:aB s'.heap xs a.pos) (rk:aB s'.heap kxs kvs) (e:a.kw=ns.zip kvs) (k:TK h s'.heap) (q:Q xs kxs σ')
theorem IC{pos:aT}{fv:ag}{args:List aL}{kws:List gV}{Q:List PV->List PV->AS->Prop}{s:ai}(hn:noStar args)(hk:mA kws=true)(I:In c σ s)
  (h:b7 c args σ (λxs aq=>b7 c (kws.map (·.value)) aq (λkxs a8=>Q xs kxs a8) E) E) :
  au (av aF c.w) c.A (KG fv true (kR pos (lX args c.env)) (ie pos (ig kws c.env)))
   (tF c (iz kws) s.heap Q) (EPost c E) s:=by
 refine eO (yS pos (env:=c.env) hk) λk1 k2 k3=>?_
 rw[hn]
 generalize htr:kR pos (args.map λe=>(false,eval e c.env))=trees
 have hne:∀x,trees≠[(true,x)]:=by
  intro x q
  replace q:=(bR htr:_)▸q
  cases args with
  | nil=>cases q
  | cons e r=>
   have q2:=aI dq ((vZ q).1)
   cases q2
 have hsp:=t7 (c:=c) (E:=E) pos args σ _ h s I
 replace hsp:=htr▸hsp
 have fin:∀(K:List ag×Option ag->bf qg),(∀vs ay xs aq,In c aq ay->aB ay.heap xs vs->TK s.heap ay.heap->b7 c (kws.map (·.value)) aq (λkxs a8=>Q xs kxs a8) E->au (av aF c.w) c.A (K (vs,none)) (tF c (iz kws) s.heap Q) (EPost c E) ay)->
   au (av aF c.w) c.A (spliced trees >>= λx=>(pure (x,none):bf (List ag×Option ag)) >>= K) (tF c (iz kws) s.heap Q) (EPost c E) s:=λK hK=>
  ah (bH hsp (λvs ay xs aq aQ aZ k₁ a7=>ah (aE (hK vs ay xs aq aQ aZ k₁ a7))))
 have step:∀vs ay xs aq,In c aq ay->aB ay.heap xs vs->TK s.heap ay.heap->b7 c (kws.map (·.value)) aq (λkxs a8=>Q xs kxs a8) E->∀(L:List ag->bf (List ag)),(∀k,L k=pure vs)->
   au (av aF c.w) c.A (do
    let lift <-wr ((ie pos (ig kws c.env)).map (·.2))
    let r <-L ((((ie pos (ig kws c.env)).filterMap (·.1)).zip lift).map (·.2))
    pure (⟨r,((ie pos (ig kws c.env)).filterMap (·.1)).zip lift⟩:qg)) (tF c (iz kws) s.heap Q) (EPost c E) ay:=by
  intro vs ay xs aq aQ aZ k₁ a7 L hL
  refine ah (bH (HE pos kws aq _ a7 ay aQ) (λkvs bc kxs a8 a_ bV Mk bz=>?_))
  rw[hL]
  refine ah (aE (aE ⟨xs,kxs,kvs,a8,a_,aZ.tk Mk,bV,?_,k₁.trans Mk,bz⟩))
  show List.zip ((ie pos (ig kws c.env)).filterMap (·.1)) kvs=_
  rw[k1]
 clear hsp htr
 unfold KG
 rcases trees with _ | ⟨⟨b,t⟩,_ | ⟨t2,r⟩⟩
 .refine fin _ λvs ay xs aq aQ aZ k₁ a7=>?_
  refine bT ?_
  try dsimp only
  rw[aA k2]
  exact step vs ay xs aq aQ aZ k₁ a7 (λZ=>pure vs) λZ=>rfl
 .cases b with
  | true=>exact absurd rfl (hne t)
  | false=>
   refine fin _ λvs ay xs aq aQ aZ k₁ a7=>?_
   refine bT ?_
   try dsimp only
   rw[aA k2]
   exact step vs ay xs aq aQ aZ k₁ a7 (λZ=>pure vs) λZ=>rfl
 .cases b with
  | true=>
   refine fin _ λvs ay xs aq aQ aZ k₁ a7=>?_
   refine bT ?_
   try dsimp only
   rw[aA k2]
   exact step vs ay xs aq aQ aZ k₁ a7 (λZ=>pure vs) λZ=>rfl
  | false=>
   refine fin _ λvs ay xs aq aQ aZ k₁ a7=>?_
   refine bT ?_
   try dsimp only
   rw[aA k2]
   exact step vs ay xs aq aQ aZ k₁ a7 (λZ=>pure vs) λZ=>rfl
theorem aB.append{h:am}:∀{xs ys:List PV} {vs ws:List ag},aB h xs vs->aB h ys ws->aB h (xs++ys) (vs++ws)
 | [],_,_,_,r,r'=>by rewrite[aB] at r;subst r;exact r'
 | x::xs,ys,vs,ws,r,r'=>by
  refine bM r λv q j1 r1 r2=>?_;clear r;subst j1
  exact aB.cons r1 (aB.append r2 r')
theorem FO{X:Type}{ρ:am->X->ag->Prop}{pos:aT}{fv:ag}{f:PV}{first:List ag}{fs:List PV}{args:List aL}{kws:List gV}{Q:X->AS->Prop}{aV s:ai}(hn:noStar args)(hk:mA kws=true)(I:In c σ s)(Ml:TK aV.heap s.heap)(rf:RV s.heap f fv)(rs:aB s.heap fs first)
  (h:b7 c args σ (λxs aq=>b7 c (kws.map (·.value)) aq (λkxs a8=>cL c ρ f (fs++xs) (iz kws) kxs a8 Q E) E) E) :
  au (av aF c.w) c.A (KH pos fv first (kR pos (lX args c.env)) (ie pos (ig kws c.env))) (cw c ρ aV Q) (EPost c E) s:=by
 refine xi (bn (IC (Q:=λxs kxs a8=>cL c ρ f (fs++xs) (iz kws) kxs a8 Q E) hn hk I h) (λa ay A=>?_) λZ Z x=>x)
 cases A with | mk xs kxs kvs aq aQ aZ bV e k₁ q=>
 rw[e]
 exact iS (Ml.trans k₁) (q ay fv _ kvs aQ (rf.tk k₁) ((rs.tk k₁).append aZ) bV)
theorem k9.call{X:Type}{ρ:am->X->ag->Prop}{x:af}{np pos:aT}{args:List aL}{kws:List gV}{Q:X->AS->Prop}(hn:noStar args)(hk:mA kws=true)
  (h:Ev c (.Name x np) σ (λf aq=>b7 c args aq (λxs a8=>b7 c (kws.map (·.value)) a8 (λkxs dT=>cL c ρ f xs (iz kws) kxs dT Q E) E) E) E):k9 c ρ (.Call (.Name x np) args kws pos) σ Q E:=λs I=>
 Yt (bH (h s I) (λfv ay f aq aQ aZ k₁ a7=>FO (fs:=[]) hn hk aQ k₁ aZ aB.nil a7))
end
structure Sub(c:FC)(σ:AS)(s:ai)(c':FC):Prop where
 w:c'.w=c.w
 b0:c'.b0=c.b0
 tb:c'.tb=c.tb
 os:c'.os=c.os
 gens:c'.gens=c.gens
 base:c'.base=s.heap
 D:c'.D=λa=>∃ao,(a,ao)∈σ.st
 T:c'.T=c.T
section
variable {c c':FC}{σ a8:AS}{s bc:ai}
theorem In.uG(I:In c σ s){b:aj}(h:∃ao,(b,ao)∈σ.st):∃o,s.heap.get? b=some o/\(∀vs,o.data≠.fields vs)/\o.cls≠.type "tuple":=
 let ⟨ao,h⟩:=h;(I.st b ao h).1.there
theorem In.GA(X:Sub c σ s c')(I:In c σ s)(a_:In c' a8 bc):TK s.heap bc.heap:=λb o vs n e hc hd=>by
 have hD:¬c'.D b:=λq=>by
  replace q:=X.D▸q
  refine br (I.uG q) λo' e' Z h3=>?_
  replace e':=e▸e';refine(λj0=>?_) (bj e');clear e';subst j0;exact h3 hc
 refine aP (a_.cq b o (by rw[X.base];exact e) hD λws q=>by replace q:=hd▸q;cases q) λsl q=>?_
 exact(bh _ q hc hd)
theorem fQ.back(X:Sub c σ s c')(I:In c σ s){a:aj}(r3:fQ c' a):fQ c a:=by
 have r3:∀o,s.heap.get? a=some o->(∃ao,(a,ao)∈σ.st)\/∃vs,o.data = .fields vs/\¬jR o vs:=λo q=>by
  have:=r3 o (by rw[X.base];exact q)
  replace this:=X.D▸this;exact this
 intro o q
 refine iW λhN=>?_
 have hD:¬c.D a:=λz=>hN (.inl z)
 have fin:∀o',s.heap.get? a=some o'->o'.cls=o.cls->o'.data=o.data->False:=λo' w w1 w2=>by
  rcases r3 o' w with⟨ao',z⟩ | ⟨vs,z2,z1⟩
  .exact hN ((I.st a ao' z).2.2.1 o q)
  .exact hN (.inr (aw vs (w2▸z2) (λy=>z1 (by unfold jR at y |-;rw[w1];exact y))))
 by_cases hd:∃vs,o.data = .fields vs
 .refine(λj1=>?_) hd;clear hd;refine aP j1 λvs hd=>?_;clear j1
  exact fin o (I.up1 a o vs q hD (iW λz=>hN (.inr (aw vs hd z))) hd) rfl rfl
 .refine aP (I.cq a o q hD λvs h=>hd ⟨vs,h⟩) λsl w=>?_
  exact fin _ w rfl rfl
theorem In.vw(I:In c σ s){a:aj}(h:s.heap.get? a=none):fQ c a:=by
 intro o q
 refine iW λhN=>?_
 have hD:¬c.D a:=λz=>hN (.inl z)
 by_cases hd:∃vs,o.data = .fields vs
 .refine(λj1=>?_) hd;clear hd;refine aP j1 λvs hd=>?_;clear j1
  have:=I.up1 a o vs q hD (iW λz=>hN (.inr (aw vs hd z))) hd
  exact bI (h▸this)
 .refine aP (I.cq a o q hD λvs h=>hd ⟨vs,h⟩) λsl w=>?_
  exact bI (h▸w)
theorem fD.back(X:Sub c σ s c')(I:In c σ s){h:am}{x:aG}{v:ag}(r:fD c' h x v):fD c h x v:=
by
 cases r with | mk e t a1 a2 a3 a4 a5=>exact⟨e,t,a1,a2,a3,a4.back X I,X.b0▸a5⟩
theorem In.back(X:Sub c σ s c')(I:In c σ s)(a_:In c' a8 bc)(hfr:bc.heap.FunFrames c.b0 c.outer)(hsub:∀e∈c.outer,e∈c'.outer):In c {σ with st:=a8.st} bc:=by
 refine aC I.ns λmm hm hr=>?_
 have hD:∀b,¬(∃ao,(b,ao)∈σ.st)->¬c'.D b:=λb h q=>h (by replace q:=X.D▸q;exact q)
 have hcell:∀x a,c.cells.lookup x=some a->bc.heap.IsCell a (mm x)/\s.heap.get? a≠none:=λx a hx=>by
  refine aC (hm.cu x a hx) λo ec dc=>?_
  refine aP (a_.cq a o (by rw[X.base];exact ec) (hD _ λ⟨ao,q⟩=>(I.st _ ao q).2.2.2.2 x a hx rfl) λws q=>by replace q:=dc▸q;cases q) λsl e2=>?_
  exact⟨(aw _ e2 dc),by rw[ec];exact Option.some_ne_none o⟩
 refine⟨X.b0▸a_.b0,hfr,λb o vs e h1 hcn h2=>?_,λb o e h1 h2=>?_,(aw mm ⟨?_,λx a hx=>(hcell x a hx).1⟩ (λx=>(hr x).tk (I.GA X a_))),λa ao ha=>?_,I.L0,I.L1,I.Lo,X.tb▸a_.tab,X.os▸a_.os,X.gens▸a_.gens,a_.nd,X.T▸a_.tk,λa es h=>let ⟨p,q⟩:=a_.dc a es h;⟨λe he=>p e (hsub e he),q⟩⟩
 .have e':=I.up1 b o vs e h1 hcn h2
  refine a_.up1 b o vs (by rw[X.base];exact e') (hD _ λq=>?_) hcn h2
  refine br (I.uG q) λo' e2 h3 Z=>?_
  replace e2:=e'▸e2;refine(λj0=>?_) (bj e2);clear e2;subst j0;exact h3 _ h2
 .refine aP (I.cq b o e h1 h2) λsl e'=>?_
  refine aP (a_.cq b {o with slots:=sl} (by rw[X.base];exact e') (hD _ λq=>by
   refine(λj1=>?_) q;clear q;refine aP j1 λao q=>?_;clear j1
   rcases (I.st b ao q).2.2.1 o e with z | ⟨vs,z,_⟩
   .exact h1 z
   .exact h2 vs z) h2) λsl' e2=>?_
  exact⟨sl',e2⟩
 .refine aC hm.ns λm j1 hmm=>?_;refine io j1 λo es ep eL dL r=>?_;clear j1
  refine aP (a_.cq c.L o (by rw[X.base];exact eL) (hD _ λ⟨ao,q⟩=>(I.st _ ao q).2.1 rfl) λws q=>by replace q:=dL▸q;cases q) λsl e2=>?_
  exact(aw m (ly _ es ep e2 dL r) hmm)
 .refine gj (a_.st a ao ha) λr1 r2 r3 r4 r5=>?_
  have r3':=r3
  have r3:∀o,s.heap.get? a=some o->(∃ao,(a,ao)∈σ.st)\/∃vs,o.data = .fields vs/\¬jR o vs:=λo q=>by
   have:=r3 o (by rw[X.base];exact q)
   replace this:=X.D▸this;exact this
  refine(lh (X.w▸r1) ?_ ?_ (X.b0▸r4) (λx b hx q=>?_))
  .rintro rfl
   refine aC hm.ns λm j1 Z=>?_;refine io j1 λo es ep eL dL Z=>?_;clear j1
   rcases r3 o eL with⟨ao',z⟩ | ⟨vs,z,_⟩
   .exact(I.st _ ao' z).2.1 rfl
   .replace z:=dL▸z;cases z
  .exact fQ.back X I r3'
  .subst q
   refine aC (hm.cu x b hx) λoc ec dc=>?_
   rcases r3 oc ec with⟨ao',z⟩ | ⟨vs,z,_⟩
   .exact(I.st b ao' z).2.2.2.2 x b hx rfl
   .replace z:=dc▸z;cases z
theorem jV.back{x:aG}{e:aj}{h:am}(X:Sub c σ s c')(ho:c'.outer=c.env::c.outer)(I:In c σ s)(T:jV c' x e h):jU c x e h:=by
 obtain ⟨B,a0,cx,R,k,hen,hl,ha,hc,T⟩:=T
 replace hl:=ho▸hl
 refine⟨B,a0,cx,⟨X.b0▸R.b0,λb o vs e h1 hcn h2=>?_,X.tb▸R.tab⟩,k,hen,hl.2.2,ha,hc,.inr (.inl T)⟩
 have e':=I.up1 b o vs e h1 hcn h2
 refine R.up1 b o vs (by rw[X.base];exact e') (λq=>?_) hcn h2
 replace q:=X.D▸q
 refine br (I.uG q) λo' e2 h3 Z=>?_
 replace e2:=e'▸e2;refine(λj0=>?_) (bj e2);clear e2;subst j0;exact h3 _ h2
theorem fb{h:am}{a:aj}(q:h.objs.size<=a):h.get? a=none:=by
 cases e:h.get? a with
 | none=>rfl
 | some o=>exact absurd (dR e) (i0.mpr q)
theorem In.enter(X:Sub c σ s c')(I:In c σ s){bX:am}{tk:Nat}{loc:List (af×PV)}{mm:af->Option ag}(keep:∀b o,s.heap.get? b=some o->bX.get? b=some o)(hfr:bX.FunFrames c'.b0 c'.outer)(hout:∀e∈c'.outer,e∈c.env::c.outer)(hfm:c.env.frame=some c.L)
  (hns:jg c' bX mm) (hL:s.heap.objs.size<=c'.L) (hcl:∀x a,c'.cells.lookup x=some a->∀ao,(a,ao)∉σ.st)
  (hr:∀x,RL s.heap (getL loc x) (mm x)) (htk:s.toks<=tk):In c' ⟨loc,σ.st⟩ {s with heap:=bX,toks:=tk}:=by
 obtain ⟨mc,⟨⟨m,⟨oc,es,ep,eL,dL,rL⟩,_⟩,_⟩,_⟩:=I.ns
 refine⟨λb o e=>keep b o (I.b0 b o (X.b0▸e)),hfr,λb o vs e Z Z Z=>keep b o (X.base▸e),λb o e Z Z=>⟨o.slots,keep b o (X.base▸e)⟩,
  (aw mm hns (λx=>(hr x).tk (.of_keeps keep))),λa ao ha=>?_,?_,?_,?_,X.tb▸I.tab.stays λb o Z e Z=>keep b o e,X.os▸I.os,X.gens▸I.gens,I.nd,X.T▸aJ I.tk htk,λa es h=>let ⟨p,o,e,q⟩:=I.dc a es h;⟨λenv he hf=>?_,o,keep _ _ e,q⟩⟩
 .refine gj (I.st a ao ha) λr h1 h2 h3 h4=>?_
  refine aC r.there λo e Z=>?_
  refine(lh (X.w▸r.tk (.of_keeps keep) λo e Z=>⟨o.slots,keep _ _ e⟩) ?_ (λo Z=>by rw[X.D];exact .inl ⟨ao,ha⟩) (X.b0▸h3) (λx b hx q=>hcl x b hx ao (q▸ha)))
  intro q
  exact absurd (dR e) (i0.mpr (q▸hL))
 .cases q:c'.b0.get? c'.L with
  | none=>rfl
  | some o=>exact absurd (dR (I.b0 _ _ (X.b0▸q))) (i0.mpr hL)
 .rw[X.base];exact fb hL
 .intro env he hf
  have:∃o,s.heap.get? c'.L=some o:=by
   rcases cB.mp (hout env he) with rfl | he
   .replace hf:=hfm▸hf
    exact⟨oc,kN hf▸eL⟩
   .obtain ⟨_,o,e,_⟩:=I.fr.mem (qm.mpr (aw env he hf))
    exact⟨o,e⟩
  refine aP this λo e=>?_;clear this
  exact absurd (dR e) (i0.mpr hL)
 .rcases cB.mp (hout env he) with rfl | he
  .replace hf:=hfm▸hf
   exact(I.st a _ h).2.1 (kN hf).symm
  .exact p env he hf
end
end
section
section
variable {c:FC}{σ:AS}{s:ai}{E:aG->AS->Prop}
theorem GK{x:aG}{e:aj}(hF:c.env.frame=some c.env.locals)(I:In c σ s)(T:nN c x e s.heap)(h:E x σ):AZ (av aF c.w) c.A c.env (EPost c E) (.ref e) s:=by
 refine io T.tb λoe vs T1 he hdd h1=>?_
 unfold AZ
 refine ah (fV he hdd h1 ?_)
 rw[an (show ¬((dz T1==fJ)=true) from by simp),hF]
 exact JN I (.inl T) λh' I' T'=>⟨e,x,σ,rfl,I',T'.thrown,h⟩
theorem passes(K:c.Ok){v:ag}(h:EPost c E v s):kS (av aF c.w) c.A c.env (λe s'=>AZ (av aF c.w) c.A c.env (EPost c E) e s') v s:=by
 refine Internal.EPost.elim h λe x σ j1 I T q=>?_;clear h;subst j1
 exact u0 K.frames K.frame I T λh' I' T'=>GK K.frame I' T' q
def On(T:AS->(Bool->AS->Prop)->Prop)(B:AS->(bO->AS->Prop)->Prop)(σ:AS)(Q:bO->AS->Prop):Prop:=
 ∃(Inv:Nat->AS->Prop) (n:Nat),Inv n σ/\∀n σ,Inv n σ->T σ λb aq=>Br b (B aq λf a8=>match f with
  | .next | .cont=>∃m,m<n/\Inv m a8
  | .brk=>Q .next a8
  | .ret v=>Q (.ret v) a8
  | .exc y=>Q (.exc y) a8) (Q .next aq)
theorem ON(K:c.Ok){test:aL}{body:List bA}{pos:aT}{Q:bO->AS->Prop}(h:On (λσ Q=>Et c test σ Q E) (λσ Q=>dC c body σ Q E) σ Q):Ex c (.While test body [] pos) σ Q E:=by
 refine gE h λInv n h0 turn=>?_;clear h
 intro s I
 refine wpAny_While (codeAny_whileLoop (λn s'=>∃σ',In c σ' s'/\Inv n σ') ?_ n (aw σ I h0))
 intro n;intro s';intro j1;refine aC j1 λσ' I' hI=>?_;clear j1
 refine bn (turn n σ' hI _ rfl s' I') (λb ay p=>p.elim λZ aq aQ aZ k₁ a7=>?_) λv ay q=>passes K q
 cases aZ
 cases b with
 | false=>exact KD ⟨.next,aq,aQ,rfl,a7.2 rfl⟩
 | true=>
  refine bn (a7.1 rfl ay aQ) (λf bc p=>p.elim λx a8 a_ bV bz=>?_) λv ay q=>passes K q
  cases x with
  | next=>
   cases bV
   refine aC bz λm hm hi=>?_;clear bz
   exact(aw m hm ⟨a8,a_,hi⟩)
  | cont=>
   cases bV
   refine aC bz λm hm hi=>?_;clear bz
   exact(aw m hm ⟨a8,a_,hi⟩)
  | brk=>cases bV;exact⟨.next,a8,a_,rfl,bz⟩
  | ret y=>refine aC bV λv j1 r=>?_;clear bV;subst j1;exact⟨.ret y,a8,a_,(aw v rfl r),bz⟩
  | exc y=>refine aC bV λv j1 r=>?_;clear bV;subst j1;exact⟨.exc y,a8,a_,(aw v rfl r),bz⟩
theorem Ex.brk{pos:aT}{Q:bO->AS->Prop}(h:Q .brk σ):Ex c (.Break pos) σ Q E:=λZ I=>ah (d9 (aE ⟨.brk,σ,I,rfl,h⟩))
theorem Ex.cont{pos:aT}{Q:bO->AS->Prop}(h:Q .cont σ):Ex c (.Continue pos) σ Q E:=λZ I=>ah (d9 (aE ⟨.cont,σ,I,rfl,h⟩))
theorem Ex.aug{x:af}{np pos:aT}{op:sS}{e:aL}{Q:bO->AS->Prop}(K:c.Ok)(hl:kE c x)(hu:σ.get x≠.al)
  (h:Ev c e σ (λy aq=>U2 c RV (oG op) (σ.get x) y aq (λz a8=>Q .next (a8.set x z)) E) E):Ex c (.AugAssign (.Name x np) op e pos) σ Q E:=λs I=>by
 refine wpAny_AugAssign_Name (bn (Fq (Q:=λv σ'=>v=σ.get x/\σ'=σ) (E:=E) K.ton6 hl I (TK.refl _) hu ⟨rfl,rfl⟩) (λv aV p=>p.elim λZ Z aas q Ml qP=>?_) λZ Z x=>x)
 refine aN qP λe1 e2=>?_;clear qP
 subst e1 e2
 refine bH (h aV aas) (λu ay y aq aQ aZ k₁ a7=>?_)
 refine bH (a7 ay v u aQ (q.tk k₁) aZ) (λz bc pz a8 a_ bV k₂ bz=>?_)
 exact bH (nk (Q:=λZ σ=>Q .next σ) (E:=E) K hl a_ bV (k₁.trans k₂) bz) (λZ Z Z dT dM Z Z fz=>⟨.next,dT,dM,rfl,fz⟩)
end
noncomputable def noOwn(c:FC)(h:am):am:=jz h (c.L::c.cells.filterMap λp=>c.cells.lookup p.1)
noncomputable abbrev FC.rebase(c:FC)(σ:AS)(s:ai):FC:={c with base:=noOwn c s.heap,D:=λa=>∃ao,(a,ao)∈σ.st}
noncomputable abbrev FC.hand(c:FC)(σ:AS)(s:ai)(e:aj):FC:={c.rebase σ s with A:=c.A.mark (some (.ref e))}
theorem uh{c:FC}{b:aj}(h:b∈c.L::c.cells.filterMap λp=>c.cells.lookup p.1):b=c.L\/∃x,c.cells.lookup x=some b:=by
 rcases cB.mp h with q | q
 .exact .inl q
 .refine aC (qm.mp q) λp Z hp=>?_
  exact .inr ⟨p.1,hp⟩
theorem Rq{c:FC}{h:am}{x:af}{a:aj}(hx:c.cells.lookup x=some a):(noOwn c h).get? a=none:=
 qq _ (List.mem_cons_of_mem _ (qm.mpr (aw (x,a) (qr hx) hx)))
section
variable {c:FC}{σ τ:AS}{s s':ai}{E:aG->AS->Prop}
theorem nE(I:In c σ s){b:aj}{o:ax}{vs:Array ag}(e:s.heap.get? b=some o)(d:o.data = .fields vs):(noOwn c s.heap).get? b=some o:=by
 obtain ⟨mm,⟨⟨m,⟨ol,es,ep,eL,dL,_⟩,_⟩,hc⟩,_⟩:=I.ns
 refine lY _ e λhm=>?_
 rcases uh hm with q | ⟨x,q⟩
 .replace e:=eL▸q▸e;refine(λj0=>?_) (bj e);clear e;subst j0;replace d:=dL▸d;cases d
 .refine aC (hc x b q) λoc ec dc=>?_
  replace ec:=e▸ec;refine(λj0=>?_) (bj ec);clear ec;subst j0;replace dc:=d▸dc;cases dc
theorem In.rebase(K:c.Ok)(I:In c σ s):In (c.rebase σ s) σ s:=
 ⟨I.b0,I.fr,λb o vs e Z Z Z=>oH _ e,λb o e Z Z=>⟨o.slots,oH _ e⟩,(let ⟨mm,x,r⟩:=I.ns;⟨mm,⟨x.ns,x.cu⟩,r⟩),
  λa ao ha=>let ⟨r,h1,_,h3⟩:=I.st a ao ha;⟨r,h1,λZ Z=>.inl ⟨ao,ha⟩,h3⟩,I.L0,qq _ (.head _),I.Lo,I.tab,I.os,I.gens,I.nd,I.tk,I.dc⟩
theorem In.rN(I:In c σ s){b:aj}(h:∃ao,(b,ao)∈σ.st):∃o,s.heap.get? b=some o/\(∀vs,o.data≠.fields vs)/\o.cls≠.type "tuple":=
 let ⟨ao,h⟩:=h;(I.st b ao h).1.there
theorem xk(I:In c σ s){b:aj}{o:ax}{vs:Array ag}(e:c.base.get? b=some o)(h:¬c.D b)(hcn:jR o vs)(d:o.data = .fields vs):(noOwn c s.heap).get? b=some o/\¬∃ao,(b,ao)∈σ.st:=by
 have q:=I.up1 b o vs e h hcn d
 refine⟨nE I q d,λz=>?_⟩
 refine br (I.rN z) λo' e' n Z=>?_
 replace e':=q▸e';refine(λj0=>?_) (bj e');clear e';subst j0;exact n _ d
theorem DZ(K:c.Ok)(I:In c σ s){b:aj}{o:ax}(e:c.base.get? b=some o)(h:¬c.D b)(d:∀vs,o.data≠.fields vs):∃sl,(noOwn c s.heap).get? b=some {o with slots:=sl}/\¬∃ao,(b,ao)∈σ.st:=by
 refine aP (I.cq b o e h d) λsl q=>?_
 refine(aw sl (lY _ q λhm=>?_) (λ⟨ao,z⟩=>?_))
 .rcases uh hm with z | ⟨x,z⟩
  .exact bI (I.L1▸z▸e)
  .exact bI (((K.own.2 _ _ z).2)▸e)
 .rcases (I.st b ao z).2.2.1 o e with y | ⟨vs,y,_⟩
  .exact h y
  .exact d vs y
theorem fQ.eB(K:c.Ok)(I:In c σ s){a:aj}(r3:fQ (c.rebase σ s) a):fQ c a:=by
 intro o q
 refine iW λhN=>?_
 have hD:¬c.D a:=λz=>hN (.inl z)
 have fin:∀o',(noOwn c s.heap).get? a=some o'->o'.cls=o.cls->o'.data=o.data->False:=λo' w w1 w2=>by
  rcases r3 o' w with⟨ao',z⟩ | ⟨vs,z2,z1⟩
  .exact hN ((I.st a ao' z).2.2.1 o q)
  .exact hN (.inr (aw vs (w2▸z2) (λy=>z1 (by unfold jR at y |-;rw[w1];exact y))))
 by_cases hd:∃vs,o.data = .fields vs
 .refine(λj1=>?_) hd;clear hd;refine aP j1 λvs hd=>?_;clear j1
  exact fin o (xk I q hD (iW λz=>hN (.inr (aw vs hd z))) hd).1 rfl rfl
 .refine aC (DZ K I q hD λvs h=>hd ⟨vs,h⟩) λsl w Z=>?_
  exact fin _ w rfl rfl
theorem RF.eB(K:c.Ok)(I:In c σ s){h:am}{x:bO}{f:i5}(r:RF (c.rebase σ s) h x f):RF c h x f:=by
 cases x with
 | exc y=>
  obtain ⟨v,rfl,e,t,a1,a2,a3,a4,a5⟩:=r
  exact(aw v rfl ⟨e,t,a1,a2,a3,a4.eB K I,a5⟩)
 | _=>exact r
theorem Nw(K:c.Ok)(I:In c σ s){h:am}{x:bO}{f:i5}{e:aj}(r:RF (c.hand σ s e) h x f):RF c h x f:=by
 cases x with
 | exc y=>
  obtain ⟨v,rfl,e,t,a1,a2,a3,a4,a5⟩:=r
  exact(aw v rfl ⟨e,t,a1,a2,a3,fQ.eB K I (s:=s) (λo q=>a4 o q),a5⟩)
 | _=>exact r
theorem In.eB(K:c.Ok)(I:In c σ s)(a_:In (c.rebase σ s) τ s'):In c τ s':=by
 refine⟨a_.b0,a_.fr,λb o vs e h hcn d=>?_,λb o e h d=>?_,(let ⟨mm,x,r⟩:=a_.ns;⟨mm,⟨x.ns,x.cu⟩,r⟩),λa ao ha=>?_,I.L0,I.L1,I.Lo,a_.tab,a_.os,a_.gens,a_.nd,a_.tk,a_.dc⟩
 .refine aN (xk I e h hcn d) λq n=>?_
  exact a_.up1 b o vs q n hcn d
 .refine aC (DZ K I e h d) λsl q n=>?_
  refine aP (a_.cq b {o with slots:=sl} q n d) λsl' z=>?_
  exact⟨sl',z⟩
 .refine gj (a_.st a ao ha) λr1 r2 r3 r4 r5=>?_
  refine(lh r1 r2 ?_ r4 r5)
  exact fQ.eB K I r3
theorem iI.eB(I:In c σ s){B:am}(R:iI (c.rebase σ s) B):iI c B:=
 ⟨R.b0,λb o vs e h hcn d=>let ⟨q,n⟩:=xk I e h hcn d;R.up1 b o vs q n hcn d,R.tab⟩
theorem FC.Ok.rebase(K:c.Ok)(I:In c σ s):(c.rebase σ s).Ok:=⟨⟨K.kind,K.glob,K.blt,K.cu⟩,K.frames,K.frame,K.lim,⟨K.own.1,λx a h=>⟨(K.own.2 x a h).1,Rq h⟩⟩,λb o vs e d z=>by
 refine br (I.rN z) λo' e' n Z=>?_
 rewrite[oH _ e] at e';refine(λj0=>?_) (bj e');clear e';subst j0;exact n _ d,K.t0⟩
theorem In.hand{e:aj}:In (c.hand σ s e) τ s'<->In (c.rebase σ s) τ s':=⟨λI=>⟨I.b0,I.fr,I.up1,I.cq,(let ⟨mm,x,r⟩:=I.ns;⟨mm,⟨x.ns,x.cu⟩,r⟩),I.st,I.L0,I.L1,I.Lo,I.tab,I.os,I.gens,I.nd,I.tk,I.dc⟩,λI=>⟨I.b0,I.fr,I.up1,I.cq,(let ⟨mm,x,r⟩:=I.ns;⟨mm,⟨x.ns,x.cu⟩,r⟩),I.st,I.L0,I.L1,I.Lo,I.tab,I.os,I.gens,I.nd,I.tk,I.dc⟩⟩
theorem FC.Ok.hand(K:c.Ok)(I:In c σ s)(e:aj):(c.hand σ s e).Ok:=let K:=K.rebase I;⟨⟨K.kind,K.glob,K.blt,K.cu⟩,K.frames,K.frame,K.lim,K.own,K.dn,K.t0⟩
theorem EPost.hand(K:c.Ok)(I:In c σ s){e:aj}{v:ag}(h:EPost (c.hand σ s e) E v s'):EPost c E v s':=
 h.elim λe' x σ' h1 h2 T h4=>⟨e',x,σ',h1,I.eB K (In.hand.mp h2),T.re (λZ R=>iI.eB I ⟨R.b0,R.up1,R.tab⟩) ⟨rfl,rfl,rfl⟩,h4⟩
theorem EPost.eB(K:c.Ok)(I:In c σ s){v:ag}(h:EPost (c.rebase σ s) E v s'):EPost c E v s':=
 h.elim λe' x σ' h1 h2 T h4=>⟨e',x,σ',h1,I.eB K h2,T.re (λZ R=>iI.eB I R) ⟨rfl,rfl,rfl⟩,h4⟩
inductive uE(c:FC)(x:aG):Prop
 | mk (e:aj) (h1:c.A.handled=some (.ref e)) (h2:∃l,Chain c.base (.ref e) l) (oe:ax) (vs:Array ag) (a0:ag) (h3:c.base.get? e=some oe) (h4:oe.cls=x.cls) (h5:oe.data = .fields vs) (h6:vs[0]?=some a0) (h7:jG c.base a0 x.args)
structure kZ(c:FC)(x:aG)(c':FC):Prop where
 ok:c'.Ok
 env:c'.env=c.env
 w:c'.w=c.w
 b0:c'.b0=c.b0
 depth:c'.A.depth=c.A.depth
 os:c'.os=c.os
 tb:c'.tb=c.tb
 gens:c'.gens=c.gens
 T:c'.T=c.T
 hd:uE c' x
 units:c'.A.units=c.A.units
 dt:∀b o,c'.base.get? b=some o->o.cls = .type "tuple"->¬c'.D b
theorem OI{h:am}{as:List aj}(k:∀b o vs n,h.get? b=some o->o.cls = .type "tuple"->o.data = .seq vs n->(jz h as).get? b=some o):TK h (jz h as):=λb o vs n e hc hd=>(bh o (k b o vs n e hc hd) hc hd)
theorem zY(I:In c σ s):TK s.heap (noOwn c s.heap):=OI λb o vs n e hc hd=>by
 obtain ⟨mm,⟨⟨m,⟨ol,es,ep,eL,dL,_⟩,_⟩,hcl⟩,_⟩:=I.ns
 refine lY _ e λhm=>?_
 rcases uh hm with q | ⟨x,q⟩
 .replace e:=eL▸q▸e;refine(λj0=>?_) (bj e);clear e;subst j0;replace hd:=dL▸hd;cases hd
 .refine aC (hcl x b q) λoc ec dc=>?_
  replace ec:=e▸ec;refine(λj0=>?_) (bj ec);clear ec;subst j0;replace dc:=hd▸dc;cases dc
theorem Dp(K:c.Ok){x:aG}{e:aj}(I:In c σ s)(T:jV c x e s.heap):kZ c x (c.hand σ s e):=by
 obtain ⟨B,a0,cx,R,k,hen,hl,ha,⟨hcn,l,hc1⟩,oe,vs,T1,oT,ts,he,hcls,hdd,h0,h1,h2,hnT,hTe,hT,hdT,h3⟩:=T
 refine⟨K.hand I e,rfl,rfl,rfl,rfl,rfl,rfl,rfl,rfl,⟨e,rfl,⟨_,.link (nE I he hdd) (hcls▸hcn) hdd h2 (hc1.fresh hen) (hc1.mono λb o vs q Z d=>nE I (k b o q) d)⟩,oe,vs,a0,nE I he hdd,hcls,hdd,h0,?_⟩,rfl,λb o q hc z=>by
  refine br (I.rN z) λo' e' Z n=>?_
  rewrite[oH _ q] at e';refine(λj0=>?_) (bj e');clear e';subst j0;exact n hc⟩
 revert ha
 cases x.args with
 | none=>exact λh=>h
 | some l=>
  intro j1;refine bM j1 λt ws j2 j3 r=>?_;clear j1;subst j2;refine bM j3 λot n et hct hdt=>?_;clear j3
  refine br (zY I t ot _ n et hct hdt) λo' e' c' d'=>?_
  exact(eV t ws rfl (eV o' n e' c' d') (r.tk (zY I)))
theorem uf{A:bZ}(hA:A.frames=some (c.env::c.outer))(hF:c.env.frame=some c.env.locals){v:ag}(h:EPost c E v s):kS (av aF c.w) A c.env (λe s'=>AZ (av aF c.w) c.A c.env (EPost c E) e s') v s:=by
 refine Internal.EPost.elim h λe x σ j1 I T q=>?_;clear h;subst j1
 exact u0 hA hF I T λh' I' T'=>GK hF I' T' q
theorem GE{M:cP}{A:bZ}{E:ag->ai->Prop}{Q:Unit->ai->Prop}{x:aG}{e:aj}(I:In c σ s)(T:jV c x e s.heap)
  (h:∀h',In c σ {s with heap:=h'}->jV c x e h'->s.heap.UpToSlots h'->Q () {s with heap:=h'}):au M A (mU (.ref e) none) Q E s:=by
 obtain ⟨B,a0,cx,R,k,hen,hl,ha,hc,T⟩:=T
 exact y0 I R k hl ha T λh' I' k1 k2 ha' T' u=>h h' I' ⟨B,a0,cx,R,k1,hen,k2,ha',hc,T'⟩ u
def gG(c:FC)(x:aG)(t:aL)(σ:AS)(b:Bool):Prop:=∀e s A,In c σ s->jV c x e s.heap->
 au (av aF c.w) A (eval t c.env) (λty ay=>au (av aF c.w) A (excMatches (.ref e) ty) (λb' bc=>b'=b/\bc=s) (λZ Z=>False) ay) (λZ Z=>False) s
inductive nK(c:FC)(x:aG)(σ:AS)(Q:bO->AS->Prop)(E:aG->AS->Prop):List wt->Prop
 | nil (h:E x σ):nK c x σ Q E []
 | cls {t:aL} {oW:bA} {suite:List bA} {pos:aT} {rest:List wt} (b:Bool) (hc:gG c x t σ b) (h1:b=true->∀c',kZ c x c'->dC c' (oW::suite) σ Q E) (h2:b=false->nK c x σ Q E rest):nK c x σ Q E (.ExceptHandler (some t) none (oW::suite) pos::rest)
 | GX {t:aL} {nm:af} {oW:bA} {suite:List bA} {pos:aT} (hc:gG c x t σ true) (hk:c.env.kindOf nm=some .local) (hcl:c.cells.lookup nm=none)
   (h1:∀c' e,kZ c x c'->c'.A.handled=some (.ref e)->dC c' (oW::suite) (σ.set nm (.val (.ref e))) (λf a8=>f = .next/\∀z,Q .next (a8.set nm z)) (λZ Z=>False)):nK c x σ Q E [.ExceptHandler (some t) (some nm) (oW::suite) pos]
theorem TF(K:c.Ok){x:aG}{e:aj}{Q:bO->AS->Prop}{hs:List wt}(H:nK c x σ Q E hs):∀s,In c σ s->jV c x e s.heap->
  au (av aF c.w) c.A (handleBy (.ref e) c.env hs) (jN c Q) (EPost c E) s:=by
 induction H with
 | nil h=>
  intro s I T
  refine wpAny_handleBy_nil ?_
  unfold PySem.passOn
  refine io T.tb λoe vs T1 he hdd h1=>?_
  refine ah (fV he hdd h1 ?_)
  rw[an (show ¬((dz T1==fJ)=true) from by simp),K.frame]
  exact ah (JN I (.inr T) λh' I' T'=>KI ⟨e,x,σ,rfl,I',T'.thrown,h⟩)
 | @cls t oW suite pos rest b hc h1 h2 ih=>
  intro s I T
  refine Yu (Yv (bn (hc e s _ I T) (λty ay q=>bn q (λb' bc p=>?_) λZ Z x=>x.elim) λZ Z x=>x.elim)) nofun
  refine aN p λj1 j2=>?_;clear p;subst j1;subst j2
  cases b' with
  | false=>exact ih rfl bc I T
  | true=>
   refine codeAny_handlers_suite (GE I T λh' I' T' u=>?_)
   refine bn (h1 rfl _ (Dp K I' T') _ (In.hand.mpr (I'.rebase K))) (λf bg p=>p.elim λy dT dM gY fz=>⟨y,dT,I'.eB K (In.hand.mp dM),Nw K I' gY,fz⟩) λv bg q=>uf (A:=(c.A.mark (some (.ref e)))) K.frames K.frame (EPost.hand K I' q)
 | @GX t nm oW suite pos hc hk hcl h1=>
  intro s I T
  refine Yu (Yv (bn (hc e s _ I T) (λty ay q=>bn q (λb' bc p=>?_) λZ Z x=>x.elim) λZ Z x=>x.elim)) nofun
  refine aN p λj1 j2=>?_;clear p;subst j1;subst j2
  refine codeAny_handlers_suite_as (GE I T λh' I' T' u=>?_)
  have K2:=K.hand I' e
  refine bn (nk (aV:=_) (Q:=λZ aq=>aq=σ.set nm (.val (.ref e))) (E:=E) K2 (.inl ⟨hk,hcl⟩) (In.hand (e:=e).mpr (I'.rebase K)) (pv:=.val (.ref e)) rfl (TK.refl _) rfl) (λZ bg p=>p.elim λZ dT dM Z Z fz=>?_) λv bg q=>?_
  .subst fz
   refine bn (h1 _ e (Dp K I' T') rfl bg dM) (λf m5 p=>p.elim λy m6 ko B_ m7=>?_) λv m5 p=>p.no
   refine(λj2=>?_) m7;clear m7;refine aN j2 λj1 m7=>?_;clear j2;subst j1
   cases B_
   refine aC ko.ns λmm hm hr=>?_
   refine aC hm.ns λm hns hmm=>?_
   refine wpAny_nameGoes_keeps hk hns (by rw[show c.env.scope.kind = .function from K.kind];rfl) λh5 v hn5 hs5=>?_
   cases v with
   | none=>exact⟨.next,_,I'.eB K (In.hand.mp (ko.zo hcl hm hns hmm hr hs5 hn5 (pv:=.al) rfl)),rfl,m7 _⟩
   | some u=>exact⟨.next,_,I'.eB K (In.hand.mp (ko.zo hcl hm hns hmm hr hs5 hn5 (pv:=.val u) (aw u rfl rfl))),rfl,m7 _⟩
  .exact uf (A:=(c.A.mark (some (.ref e)))) K.frames K.frame (EPost.hand K I' q)
theorem Ex.try(K:c.Ok){body orelse:List bA}{h₀:wt}{hs:List wt}{pos:aT}{Q:bO->AS->Prop}
  (h:dC c body σ (λf aq=>match f with | .next=>dC c orelse aq Q E | f=>Q f aq) (λx aq=>nK c x aq Q E (h₀::hs))):Ex c (.Try body (h₀::hs) orelse [] pos) σ Q E:=λs I=>
 wpAny_Try_except (bn (h s I) (λf ay p=>p.elim λx aq aQ aZ a7=>by
  cases x with
  | next=>cases aZ;exact a7 ay aQ
  | brk=>cases aZ;exact⟨.brk,aq,aQ,rfl,a7⟩
  | cont=>cases aZ;exact⟨.cont,aq,aQ,rfl,a7⟩
  | ret y=>refine aC aZ λv j1 r=>?_;clear aZ;subst j1;exact⟨.ret y,aq,aQ,(aw v rfl r),a7⟩
  | exc y=>refine aC aZ λv j1 r=>?_;clear aZ;subst j1;exact⟨.exc y,aq,aQ,(aw v rfl r),a7⟩)
  λv ay p=>by
   cases p with | mk e x aq he aQ aat a7=>
   subst he
   exact u0 K.frames K.frame aQ aat λm8 a_ Ca=>CX a_ Ca λfY dM Cb=>TF K a7 _ dM Cb)
end
section
variable {c:FC}{σ:AS}{s:ai}{E:aG->AS->Prop}
theorem Et.plain{e:aL}{Q:Bool->AS->Prop}(hp:∀whole,sR e c.env whole=(do let v <-whole;iF e.pos;holding [v] (eZ v)))(h:Ev c e σ (λx aq=>U1 c fw eZ x aq Q E) E):Et c e σ Q E:=λwhole hw s I=>by
 rw[hp,hw]
 exact ah (bH (h s I) (λv ay x aq aQ aZ k₁ a7=>ah (d9 (bT (iS k₁ (a7 ay v aQ aZ))))))
theorem Et.not{x:aL}{p:aT}{Q:Bool->AS->Prop}(h:Et c x σ (λb aq=>Q (!b) aq) E):Et c (.UnaryOp .Not x p) σ Q E:=λwhole Z s I=>by
 show au _ _ (do return !(<-sR x c.env (eval x c.env))) _ _ s
 exact ah (bH (h _ rfl s I) (λb ay Z aq aQ aZ k₁ a7=>by cases aZ;exact aE ⟨!b,aq,aQ,rfl,k₁,a7⟩))
def iJ(c:FC)(op:eM)(Q:Bool->AS->Prop)(E:aG->AS->Prop):List aL->AS->Prop
 | [],σ=>Q (op==.And) σ
 | x::r,σ=>Et c x σ (λb aq=>match op,b with | .And,false=>Q false aq | .Or,true=>Q true aq | _,_=>iJ c op Q E r aq) E
theorem iJ.ok{op:eM}{Q:Bool->AS->Prop}:∀(l:List aL) (σ:AS),iJ c op Q E l σ->∀s aV,In c σ s->TK aV.heap s.heap->au (av aF c.w) c.A (allTrue op l c.env) (cw c fw aV Q) (EPost c E) s
 | [],σ,h,s,aV,I,k=>aE ⟨_,σ,I,rfl,k,h⟩
 | x::r,σ,h,s,aV,I,k=>by
  rw[arm_allTrue_cons]
  refine ah (bH (h _ rfl s I) (λb ay Z aq aQ aZ k₁ a7=>?_))
  cases aZ
  cases op <;> cases b <;> first | exact aE ⟨_,aq,aQ,rfl,k.trans k₁,a7⟩ | exact iJ.ok r aq a7 ay aV aQ (k.trans k₁)
theorem NK{op:eM}{l:List aL}{p:aT}{Q:Bool->AS->Prop}(h:iJ c op Q E l σ):Et c (.BoolOp op l p) σ Q E:=λwhole Z s I=>by
 show au _ _ (allTrue op l c.env) _ _ s
 exact iJ.ok l σ h s s I (TK.refl _)
theorem PI{t a b:aL}{p:aT}{Q:PV->AS->Prop}(h:Et c t σ (λk aq=>Br k (Ev c a aq Q E) (Ev c b aq Q E)) E):Ev c (.IfExp t a b p) σ Q E:=λs I=>by
 show au _ _ (do if <-sR t c.env (eval t c.env) then eval a c.env else eval b c.env) _ _ s
 refine ah (bH (h _ rfl s I) (λk ay Z aq aQ aZ k₁ a7=>?_))
 cases aZ
 cases k with
 | true=>exact iS k₁ (a7.1 rfl ay aQ)
 | false=>exact iS k₁ (a7.2 rfl ay aQ)
end
noncomputable def hV(o i:ag):bf ag:=do
 if <-A0 o then runValue (.builtin "lifetime.subscript" ⟨[o,i],[]⟩) else oK o i
noncomputable def ua(o i:ag):bf ag:=do
 let _ <-A0 o
 oK o i
def jS(c:FC)(x y z:PV)(σ:AS)(Q:PV->AS->Prop)(E:aG->AS->Prop):Prop:=∀s o l u,In c σ s->RV s.heap x o->RV s.heap y l->RV s.heap z u->
 au (av aF c.w) c.A (sP "slice" [l,u,.none]) (λi s'=>au (av aF c.w) c.A (ua o i) (cw c RV s Q) (EPost c E) s') (EPost c E) s
def tX(i:aL):Prop:=∀ov iv,subscripted i true ov iv=runValue (.builtin "lifetime.subscript" ⟨[ov,iv],[]⟩)/\subscripted i false ov iv=operate [ov,iv] (oK ov iv)
section
variable {c:FC}{σ:AS}{s:ai}{E:aG->AS->Prop}
theorem G9{A:bZ}{w:aR}{Q E:ag->ai->Prop}{b:aL}{o r:ag}(h:Q r s):au (av aF w) A (A5 b o r >>= λZ=>(pure r:bf ag)) Q E s:=
 ah (wpAny_letTemporaryGo (aE h))
section
variable {A:bZ}{E Q:ag->ai->Prop}{env:bB}
theorem uU{w:aR}{o i:aL}{p:aT}(hs:tX i)(h:au (av aF w) A (eval o env) (λov ay=>au (av aF w) A (eval i env) (λiv bc=>au (av aF w) A (hV ov iv) Q E bc) E ay) E s) :
  au (av aF w) A (eval (.Subscript o i p) env) Q E s:=by
 show au _ _ (do
  let ov <-eval o env
  let iv <-holding [ov] (eval i env)
  iF p
  let r <-subscripted i (<-A0 ov) ov iv
  A5 o ov r
  pure r) _ _ s
 refine ah (bn h (λov ay bX=>?_) λZ Z x=>x)
 refine ah (bT (bn bX (λiv bc q=>?_) λZ Z x=>x))
 refine ah (d9 ?_)
 unfold hV at q
 refine yA q λb Γ pp bg hΓ q=>?_
 rw[ic]
 have e:∀(t:bf ag),cj (av aF w) Γ t (λa Z s'=>Q a s') (λe Z s'=>E e s') pp bg->
   cj (av aF w) Γ t (λa p' s'=>cj (av aF w) Γ (A5 o ov a >>= λZ=>(pure a:bf ag)) (λa Z s'=>Q a s') (λe Z s'=>E e s') p' s') (λe Z s'=>E e s') pp bg:=λt ht=>
  ib _ _ _ (λa p' s' z=>(G9 (A:=A) (Q:=Q) (E:=E) z) Γ p' hΓ) (λZ Z Z z=>z) _ _ ht
 cases b with
 | true=>
  replace q:=(aA rfl)▸q
  rw[(hs ov iv).1];exact e _ q
 | false=>
  rewrite[an (by decide)] at q
  rw[(hs ov iv).2,AY];exact e _ q
end
theorem Ev.sub{o i:aL}{p:aT}{Q:PV->AS->Prop}(hs:tX i)(h:Ev c o σ (λx aq=>Ev c i aq (λy a8=>U2 c RV hV x y a8 Q E) E) E):Ev c (.Subscript o i p) σ Q E:=λs I=>
 uU hs (bH (h s I) λov ay x aq aQ aZ k₁ a7=>bH (a7 ay aQ) λiv bc y a8 a_ bV k₂ bz=>iS (k₁.trans k₂) (bz bc ov iv a_ (aZ.tk k₂) bV))
def lw(c:FC):Option aL->AS->(PV->AS->Prop)->(aG->AS->Prop)->Prop
 | some e,σ,Q,E=>Ev c e σ Q E
 | none,σ,Q,_=>Q .none σ
theorem lw.ok{o:Option aL}{Q:PV->AS->Prop}(h:lw c o σ Q E):Tr c RV (KJ (evalOpt o c.env)) σ Q E:=by
 cases o with
 | none=>exact λs I=>aE ⟨.none,σ,I,rfl,TK.refl _,h⟩
 | some e=>exact h
theorem UU{o:aL}{l u:Option aL}{p p':aT}{Q:PV->AS->Prop}(h:Ev c o σ (λx aq=>lw c l aq (λy a8=>lw c u a8 (λz dT=>jS c x y z dT Q E) E) E) E):Ev c (.Subscript o (.Slice l u fW p') p) σ Q E:=λs I=>by
 show au _ _ (do
  let ov <-eval o c.env
  let iv <-holding [ov] (do
   let l <-KJ (evalOpt l c.env)
   let u <-holding [l] (KJ (evalOpt u c.env))
   let s <-holding [l,u] (pure .none:bf ag)
   sP "slice" [l,u,s])
  iF p
  let b <-A0 ov
  let r <-operate [iv,ov] (oK ov iv)
  A5 o ov r
  pure r) _ _ s
 refine ah (bH (h s I) (λov ay x aq aQ aZ k₁ a7=>?_))
 refine ah (bT (ah (bH (lw.ok a7 ay aQ) (λlv bc y a8 a_ bV k₂ bz=>?_))))
 refine ah (bT (bH (lw.ok bz bc a_) (λuv bg z dT dM gY jD fz=>?_)))
 refine ah (bT (aE ?_))
 refine bn (fz bg ov lv uv dM (aZ.tk (k₂.trans jD)) (bV.tk jD) gY) (λiv m5 q=>?_) λZ Z x=>x
 refine ah (d9 ?_)
 have q:=bn q (xM (k₁.trans (k₂.trans jD))) λZ Z x=>x
 unfold ua at q
 refine yA q λb Γ pp fZ hΓ q=>?_
 rw[ic,AY]
 exact ib _ _ _ (λa p' s' z=>(G9 (A:=c.A) (Q:=cw c RV s Q) (E:=EPost c E) z) Γ p' hΓ) (λZ Z Z z=>z) _ _ q
end
section
variable {c:FC}{σ:AS}{s:ai}{E:aG->AS->Prop}
theorem In.push(I:In c σ s)(o:ax):In c σ {s with heap:=s.heap.push o}:=I.grow (λZ Z e=>dy o e)
theorem TK.push{h:am}(o:ax):TK h (h.push o):=.of_keeps λZ Z e=>dy o e
theorem aB.length{h:am}:∀{xs:List PV} {vs:List ag},aB h xs vs->vs.length=xs.length
 | [],vs,r=>by rewrite[aB] at r;subst r;rfl
 | x::xs,vs,r=>by
  refine bM r λv q j1 Z r2=>?_;clear r;subst j1
  rw[b_,b_,aB.length r2]
theorem Qp{xs:List PV}{vs:List ag}{Q:PV->AS->Prop}{aV:ai}(I:In c σ s)(r:aB s.heap xs vs)(k:TK aV.heap s.heap)(hsz:xs.length<=bN)(h:Q (.tup xs) σ) :
  au (av aF c.w) c.A (KL vs) (cw c RV aV Q) (EPost c E) s:=by
 refine kf ?_ (by show vs.toArray.size<=bN;rw[J3,r.length];exact hsz)
 refine⟨.tup xs,σ,I.push _,?_,k.trans (.push _),h⟩
 rw[RV]
 exact⟨_,_,_,_,rfl,cH _ rfl,rfl,rfl,r.tk (.push _)⟩
theorem Ev.tup{elts:List aL}{n:Nat}{pos:aT}{Q:PV->AS->Prop}(hn:noStar elts)(h:b7 c elts σ (λxs aq=>xs.length<=bN/\Q (.tup xs) aq) E):Ev c (.Tuple elts n pos) σ Q E:=λs I=>by
 show au _ _ (do iF pos;KL (<-spliced (kR pos (lX elts c.env)))) _ _ s
 rw[hn]
 exact ah (d9 (ah (bH (t7 pos elts σ _ h s I) (λvs ay xs aq aQ aZ k₁ a7=>Qp aQ aZ k₁ a7.1 a7.2))))
end
section
variable {c:FC}{σ:AS}{s:ai}{E:aG->AS->Prop}
theorem wpAny_operate'{M:cP}{A:bZ}{vs:List ag}{t:bf ag}{Q:ag->ai->Prop}{E:ag->ai->Prop}(h:au M A t Q E s):au M A (operate vs t) Q E s:=
 λΓ p hΓ=>by rw[AY];exact h Γ p hΓ
theorem wpAny_release'{M:cP}{A:bZ}{vs ws:List ag}{Q:Unit->ai->Prop}{E:ag->ai->Prop}(h:Q () s):au M A (release vs ws) Q E s:=
 λΓ p hΓ=>by rw[Sem.wp_release];exact h
end
section
variable {c:FC}{σ:AS}{E:aG->AS->Prop}{a b:Int}{x y:af}{Q:PV->AS->Prop}
theorem ml{s:ai}{i:Int}(I:In c σ s)(h:Q (.int i) σ):cw c RV s Q (.int i s.toks) {s with toks:=s.toks+1}:=⟨.int i,σ,I.tok _,⟨_,rfl⟩,TK.refl _,h⟩
theorem ip{s:ai}{k:Bool}(I:In c σ s)(h:Q (.bool k) σ):cw c RV s Q (.bool k) s:=⟨.bool k,σ,I,rfl,TK.refl _,h⟩
theorem EX(h:Q (.int (a+b)) σ):U2 c RV (fy .Add) (.int a) (.int b) σ Q E:=λs u v I ⟨t,e⟩ ⟨t',e'⟩=>by subst e e';exact add_int (ml I h)
theorem Rc(h:Q (.int (a-b)) σ):U2 c RV (fy .Sub) (.int a) (.int b) σ Q E:=λs u v I ⟨t,e⟩ ⟨t',e'⟩=>by subst e e';exact sub_int (ml I h)
theorem Rx(h:Q (.int (a+b)) σ):U2 c RV (oG .Add) (.int a) (.int b) σ Q E:=λs u v I ⟨t,e⟩ ⟨t',e'⟩=>by subst e e';exact iadd_int (ml I h)
theorem VP(hb:b≠0)(h:Q (.int (a.fmod b)) σ):U2 c RV (fy .Mod) (.int a) (.int b) σ Q E:=λs u v I ⟨t,e⟩ ⟨t',e'⟩=>by subst e e';exact mod_int hb (ml I h)
theorem Xm(h:Q (.bool (decide (a<b))) σ):U2 c RV (ce .Lt) (.int a) (.int b) σ Q E:=λs u v I ⟨t,e⟩ ⟨t',e'⟩=>by subst e e';exact lt_int (ip I h)
theorem W6(h:Q (.bool (decide (b<a))) σ):U2 c RV (ce .Gt) (.int a) (.int b) σ Q E:=λs u v I ⟨t,e⟩ ⟨t',e'⟩=>by subst e e';exact gt_int (ip I h)
theorem PP(h:Q (.bool (a==b)) σ):U2 c RV (ce .Eq) (.int a) (.int b) σ Q E:=λs u v I ⟨t,e⟩ ⟨t',e'⟩=>by subst e e';exact eq_int (ip I h)
theorem MD(h:Q (.bool (a !=b)) σ):U2 c RV (ce .NotEq) (.int a) (.int b) σ Q E:=λs u v I ⟨t,e⟩ ⟨t',e'⟩=>by subst e e';exact ne_int (ip I h)
theorem Rn(h:Q (.bool (x==y)) σ):U2 c RV (ce .Eq) (.str x) (.str y) σ Q E:=λs u v I ⟨t,e⟩ ⟨t',e'⟩=>by subst e e';exact eq_str (ip I h)
theorem qR{k:Bool}{Q:Bool->AS->Prop}(h:Q k σ):U1 c fw eZ (.bool k) σ Q E:=λs v I e=>by
 have e:v = .bool k:=e
 subst e
 exact sT ⟨k,σ,I,rfl,TK.refl _,h⟩
end
section
variable {c:FC}{σ:AS}{E:aG->AS->Prop}{a b:Int}{x y:af}{Q:PV->AS->Prop}
theorem yg{s:ai}{i:af}{t tk:Nat}(I:In c σ s)(h:Q (.str i) σ)(ht:s.toks<=tk):cw c RV s Q (.str i t) {s with toks:=tk}:=⟨.str i,σ,I.tok _ ht,⟨_,rfl⟩,TK.refl _,h⟩
theorem Rg(hsz:x.length+y.length<=bN)(h:Q (.str (x++y)) σ):U2 c RV (fy .Add) (.str x) (.str y) σ Q E:=λs u v I ⟨t,e⟩ ⟨t',e'⟩=>by subst e e';exact ii (bk _) (add_str (λZ Z ht=>yg I h ht) hsz)
theorem TU(hsz:x.length+y.length<=bN)(h:Q (.str (x++y)) σ):U2 c RV (oG .Add) (.str x) (.str y) σ Q E:=λs u v I ⟨t,e⟩ ⟨t',e'⟩=>by subst e e';exact ii (bk _) (iadd_str (λZ Z ht=>yg I h ht) hsz)
theorem M0(h:Q (.bool (x !=y)) σ):U2 c RV (ce .NotEq) (.str x) (.str y) σ Q E:=λs u v I ⟨t,e⟩ ⟨t',e'⟩=>by subst e e';exact ne_str (ip I h)
theorem Pj(h:Q (.bool !(jA x y 0 x.length 1).isEmpty) σ):U2 c RV (ce .In) (.str y) (.str x) σ Q E:=λs u v I ⟨t,e⟩ ⟨t',e'⟩=>by subst e e';exact in_str (ip I h)
theorem RR(h:Q (.bool (decide (a<=b))) σ):U2 c RV (ce .LtE) (.int a) (.int b) σ Q E:=λs u v I ⟨t,e⟩ ⟨t',e'⟩=>by subst e e';exact le_int (ip I h)
theorem SH(h:Q (.bool (decide (a>=b))) σ):U2 c RV (ce .GtE) (.int a) (.int b) σ Q E:=λs u v I ⟨t,e⟩ ⟨t',e'⟩=>by subst e e';exact ge_int (ip I h)
end
section
variable {c:FC}{σ:AS}{s:ai}{E:aG->AS->Prop}
def iO(c:FC)(op:eM)(Q:PV->AS->Prop)(E:aG->AS->Prop):List aL->AS->Prop
 | [],_=>False
 | [x],σ=>Ev c x σ Q E
 | x::r,σ=>Ev c x σ (λv aq=>U1 c fw eZ v aq (λb a8=>match op,b with | .And,false=>Q v a8 | .Or,true=>Q v a8 | _,_=>iO c op Q E r a8) E) E
set_option backward.match.sparseCases true in
theorem iO.ok{op:eM}{pos:aT}{Q:PV->AS->Prop}:∀(l:List aL) (σ:AS),iO c op Q E l σ->∀s aV,In c σ s->TK aV.heap s.heap->au (av aF c.w) c.A (boolOp pos op (sU l c.env)) (cw c RV aV Q) (EPost c E) s
 | [],σ,h,s,aV,I,k=>h.elim
 | [x],σ,h,s,aV,I,k=>iS k (h s I)
 | x::y::r,σ,h,s,aV,I,k=>by
  show au _ _ (do
   let v <-eval x c.env
   iF pos
   let t <-holding [v] (eZ v)
   match op,t with
   | .And,false | .Or,true=>pure v
   | _,_=>boolOp pos op (sU (y::r) c.env)) _ _ s
  refine ah (bH (h s I) (λv ay x aq aQ aZ k₁ a7=>?_))
  refine ah (d9 (ah (bT (bH (a7 ay v aQ aZ) (λb bc Z a8 a_ bV k₂ bz=>?_)))))
  cases bV
  cases op <;> cases b <;> first | exact aE ⟨_,a8,a_,aZ.tk k₂,k.trans (k₁.trans k₂),bz⟩ | exact iO.ok (y::r) a8 bz bc aV a_ (k.trans (k₁.trans k₂))
theorem MN{op:eM}{l:List aL}{p:aT}{Q:PV->AS->Prop}(h:iO c op Q E l σ):Ev c (.BoolOp op l p) σ Q E:=λs I=>iO.ok l σ h s s I (TK.refl _)
end
section
variable {c:FC}{σ:AS}{s:ai}{E:aG->AS->Prop}
theorem PZ{l r1 r2:aL}{o1 o2:qp}{pos:aT}{Q:PV->AS->Prop}(hm:wm o2 r2=false)
  (h:Ev c l σ (λx aq=>Ev c r1 aq (λy a8=>U2 c RV (ce o1) x y a8 (λk dT=>U1 c fw eZ k dT (λb m6=>Br b (Ev c r2 m6 (λz Mm=>U2 c RV (ce o2) y z Mm Q E) E) (Q k m6)) E) E) E) E) :
  Ev c (.Compare l [o1,o2] [r1,r2] pos) σ Q E:=λs I=>by
 have e:eval (.Compare l [o1,o2] [r1,r2] pos) c.env=(do
   let a <-eval l c.env
   let b <-holding [a] (eval r1 c.env)
   iF pos
   let k <-holding [a,b] (ce o1 a b)
   release [a,b] [k]
   if <-holding [k,b] (eZ k) then do
    let d <-holding [b] (markedBehindIn o2 r2 (eval r2 c.env))
    iF pos
    operate [b,d] (ce o2 b d)
   else pure k):=rfl
 rw[e,markedBehindIn_of_false hm]
 refine ah (bH (h s I) (λa ay x aq aQ aZ k₁ a7=>?_))
 refine ah (bT (bH (a7 ay aQ) (λb bc y a8 a_ bV k₂ bz=>?_)))
 refine ah (d9 (ah (bT (bH (bz bc a b a_ (aZ.tk k₂) bV) (λk bg z dT dM gY jD fz=>?_)))))
 refine ah (wpAny_release' ?_)
 refine ah (bT (bH (fz bg k dM gY) (λt m5 Z m6 ko B_ tC m7=>?_)))
 cases B_
 have kk:=k₁.trans (k₂.trans (jD.trans tC))
 cases t with
 | false=>exact aE ⟨z,m6,ko,gY.tk tC,kk,m7.2 rfl⟩
 | true=>
  rw[aA rfl]
  refine ah (bT (bH (m7.1 rfl m5 ko) (λd fZ w Mm aau aav Mn aaw=>?_)))
  exact ah (d9 (wpAny_operate' (iS (kk.trans Mn) (aaw fZ b d aau (bV.tk (jD.trans (tC.trans Mn))) aav))))
end
section
variable {c:FC}{σ:AS}{s:ai}{E:aG->AS->Prop}
def dZ(b0:am)(x:af)(v:ag):Prop:=(∃mg,b0.Ns eK mg/\mg x=some v)\/(∃mg mb,b0.Ns eK mg/\mg x=fW/\b0.Ns jv mb/\mb x=some v)
theorem Ev.glob{x:af}{pos:aT}{Q:PV->AS->Prop}{v:ag}(K:c.n6)(hx:c.env.kindOf x=some .globalImplicit)(hd:(x==("__debug__" : af))=false)
  (hg:dZ c.b0 x v) (h:Q (.val v) σ):Ev c (.Name x pos) σ Q E:=λs I=>by
 rcases hg with⟨mg,hg,hb⟩ | ⟨mg,mb,hg,hn,hB,hb⟩
 .exact oM K.kind hx (A6 (env:=c.env) (mg:=mg) (by rw[K.glob];exact hg.keeps I.b0) hb ⟨.val v,σ,I,rfl,TK.refl _,h⟩) hd
 .exact oM K.kind hx (A7 (env:=c.env) (mg:=mg) (mb:=mb) (by rw[K.glob];exact hg.keeps I.b0) hn (by rw[K.blt];exact hB.keeps I.b0) hb ⟨.val v,σ,I,rfl,TK.refl _,h⟩) hd
end
section
variable {c:FC}{σ:AS}{s:ai}{E:aG->AS->Prop}
theorem TC{e:aL}{pos:aT}{Q:bO->AS->Prop}(hi:interactive c.env=false)(hs:lW e fW pos.line c.env=pure false)(h:Ev c e σ (λZ aq=>Q .next aq) E):Ex c (.Expr e pos) σ Q E:=λs I=>
 wpAny_Expr_any (bH (h s I) (λZ Z Z aq aQ Z Z q=>⟨.next,aq,aQ,rfl,q⟩)) hi hs
end
end
section
noncomputable def eR:List (af×ag)->af->Option ag
 | [],_=>none
 | (n,v)::r,y=>(eR r y).or (if y=n then some v else none)
theorem Sh(n:af)(v:ag)(r:List (af×ag))(y:af):eR ((n,v)::r) y=(eR r y).or (if y=n then some v else none):=rfl
theorem zJ(k:af->Option wu)(y:af):∀(b:List (af×ag)) (m:af->Option ag),bindL k b m y=if k y=some .local then(eR b y).or (m y) else m y
 | [],m=>by exact left_eq_ite_iff.mpr (congrFun rfl)
 | (n,v)::r,m=>by
  unfold bindL eR
  rw[zJ k y r]
  by_cases hy:k y=some .local
  .rw[aA hy,aA hy]
   by_cases hn:y=n
   .subst hn;rw[aA hy];simp
   .by_cases hk:k n=some .local
    .rw[aA hk];simp[hn]
    .rw[an hk];simp[hn]
  .rw[an hy,an hy]
   by_cases hk:k n=some .local
   .rw[aA hk]
    have:y≠n:=λq=>hy (q▸hk)
    exact an this
   .rw[an hk]
theorem FI(k:af->Option wu)(y:af):∀(b:List (af×ag)) (m:af->Option ag),bindC k b m y=if(eR (b.filter λx=>k x.1 !=some .local) y).isSome then eR (b.filter λx=>k x.1 !=some .local) y else m y
 | [],m=>by exact(wv λx y a=>a).mp rfl
 | (n,v)::r,m=>by
  unfold bindC
  rw[FI k y r]
  by_cases hk:k n=some .local
  .rw[aA hk,ww (by simp[hk])]
  .rw[an hk,Yw (by exact bne_iff_ne.mpr hk),Sh]
   cases hh:eR (r.filter λx=>k x.1 !=some .local) y with
   | some u=>exact Bool.cond_eq_ite_iff.mp rfl
   | none=>
    by_cases hn:y=n
    .simp[hn]
    .simp[hn]
theorem Ai(k:af->Option wu)(y:af)(hy:k y≠some .local):∀(b:List (af×ag)),eR (b.filter λx=>k x.1 !=some .local) y=eR b y
 | []=>rfl
 | (n,v)::r=>by
  by_cases hk:k n=some .local
  .rw[ww (by simp[hk])]
   rw[Ai k y hy r]
   have:y≠n:=λq=>hy (q▸hk)
   simp[eR,this]
  .rw[Yw (by exact bne_iff_ne.mpr hk)]
   simp only[eR,Ai k y hy r]
theorem zC{b:List (af×ag)}{y:af}(h:∀x∈b,x.1≠y):eR b y=none:=by
 induction b with
 | nil=>rfl
 | cons x r ih=>
  obtain ⟨n,v⟩:=x
  have hn:y≠n:=λq=>h _ (.head _) q.symm
  simp[eR,hn,ih λx hx=>h x (.tail _ hx)]
theorem rg:∀(names:List (af×wu)) (n:Nat) (acc:List (af×aj)) (x:af),((wx n names acc).lookup x).isSome=((names.any λp=>p.2==.cell&&p.1==x)||(acc.lookup x).isSome)
 | [],_,_,_=>by simp[wx]
 | (nm,k)::r,n,acc,x=>by
  unfold wx
  by_cases hk:k==.cell
  .rw[aA hk,rg r]
   simp only[A9,hk,wy,AI]
   cases hx:x==nm with
   | true=>rw[beq_iff_eq.mp hx];simp
   | false=>
    have:(nm==x)=false:=by rw[beq_eq_false_iff_ne] at hx |-;exact λq=>hx q.symm
    simp[this]
  .rw[an hk,rg r]
   simp[A9,hk]
noncomputable def EJ(sc:dA):Bool:=sc.names.all λp=>p.2 !=.cell||sc.names.lookup p.1==some .cell
def f8(c:FC):Prop:=c.A.handled=none\/∃e,c.A.handled=some (.ref e)/\∃l,Chain c.base (.ref e) l
theorem uE.fP{c:FC}{x:aG}(h:uE c x):f8 c:=by
 cases h with | mk e h1 h2=>exact .inr (aw e h1 h2)
def tR(c:FC)(h:am):PV⊕aG->ag->Prop
 | .inl x,v=>RV h x v
 | .inr x,v=>fD c h x v
structure mE(c:FC)(fd:kg)(c':FC):Prop where
 ok:c'.Ok
 scope:c'.env.scope=fd.scope
 code:c'.env.code=fd.code
 qual:c'.env.qual=fd.qualname++".<locals>."
 w:c'.w=c.w
 b0:c'.b0=c.b0
 depth:c'.A.depth=c.A.depth+1
 os:c'.os=c.os
 tb:c'.tb=c.tb
 gens:c'.gens=c.gens
 T:c'.T=c.T
 handled:c'.A.handled=c.A.handled
 fP:f8 c->f8 c'
 units:c'.A.units=c.A.units+3
noncomputable def iw:List af->List PV->List (af×PV)
 | n::ns,v::vs=>(n,v)::iw ns vs
 | _,_=>[]
noncomputable def eU:List PV->Nat->PV
 | [],_=>.al
 | v::_,0=>v
 | _::r,i+1=>eU r i
inductive qJ:List PV->Nat->PV->List PV->Prop
 | zero {u v:PV} {r:List PV}:qJ (u::r) 0 v (v::r)
 | succ {u v:PV} {r r':List PV} {i:Nat}:qJ r i v r'->qJ (u::r) (i+1) v (u::r')
inductive Ix:List af->af->Nat->Prop
 | zero {x:af} {r:List af}:Ix (x::r) x 0
 | succ {x y:af} {r:List af} {i:Nat}:x≠y->Ix r x i->Ix (y::r) x (i+1)
theorem rn{ns:List af}{x:af}{i:Nat}(h:Ix ns x i):∀vals:List PV,getL (iw ns vals) x=eU vals i:=by
 induction h with
 | zero=>intro vals;cases vals with | nil=>rfl | cons v vs=>exact Gn BEq.rfl
 | succ hne _ ih=>
  intro vals
  cases vals with
  | nil=>(expose_names;exact(aI (getL (iw (y::r) []))∘λa=>a) rfl)
  | cons v vs=>exact(F0 (beq_eq_false_iff_ne.mpr hne)).trans (ih vs)
theorem ND{ns:List af}{x:af}{i:Nat}(h:Ix ns x i):∀{vals vals':List PV} {v:PV},qJ vals i v vals'->ja (iw ns vals) x v=iw ns vals':=by
 induction h with
 | zero=>intro vals vals' v hs;cases hs;exact Px BEq.rfl
 | succ hne _ ih=>
  intro vals vals' v hs
  cases hs with
  | succ hs=>exact(Sv (beq_eq_false_iff_ne.mpr hne)).trans (aI _ (ih hs))
noncomputable def mk(ns:List af)(vals:List PV)(st:List (aj×AO)):AS:=⟨iw ns vals,st⟩
noncomputable def zA:List af->af->Nat->Bool
 | [],_,_=>false
 | y::r,x,0=>y==x
 | y::r,x,i+1=>!(y==x)&&zA r x i
theorem Ix.of:∀{ns:List af} {x:af} {i:Nat},zA ns x i=true->Ix ns x i
 | y::r,x,0,h=>by
  have:y=x:=eq_of_beq h
  subst this;exact .zero
 | y::r,x,i+1,h=>by
  have h:=ff.mp h
  have hne:y≠x:=λq=>by simp[q] at h
  exact .succ (λq=>hne q.symm) (Ix.of h.2)
structure Lo(e:bB)(ns:List af)(x:af)(i:Nat):Prop where
 ok:(e.kindOf x=some .local/\e.cells.lookup x=none)\/(e.kindOf x=some .cell/\∃a,e.cells.lookup x=some a)
 lC:(x==("__debug__" : af))=false
 ix:Ix ns x i
noncomputable def qS(sc:dA)(ns:List af)(x:af)(i:Nat):Bool:=(sc.names.lookup x==some .local&&!(cellIn sc x)||sc.names.lookup x==some .cell&&cellIn sc x)&&!(x==("__debug__" : af))&&zA ns x i
theorem Lo.of{c:FC}{ns:List af}{x:af}{i:Nat}{sc:dA}(K:c.n6)(hs:c.env.scope=sc)(h:qS sc ns x i=true):Lo c.env ns x i:=by
 unfold qS at h
 subst hs
 refine aN (ff.mp h) λh h3=>?_
 refine aN (ff.mp h) λh1 h2=>?_
 refine⟨?_,by exact bR ((λ{x y}=>oC.mp) (id (bR h2))),Ix.of h3⟩
 have hc:=K.cu x
 rcases vR.mp h1 with h1 | h1
 .refine aN (ff.mp h1) λa b=>?_
  refine .inl ⟨eq_of_beq a,?_⟩
  replace hc:=(show cellIn c.scope x=false by exact bR ((λ{x y}=>oC.mp) (id (bR b))))▸hc
  show c.cells.lookup x=none
  cases q:c.cells.lookup x with
  | none=>rfl
  | some y=>replace hc:=q▸hc;cases hc
 .refine aN (ff.mp h1) λa b=>?_
  refine .inr ⟨eq_of_beq a,?_⟩
  replace hc:=(show cellIn c.scope x=true from b)▸hc
  exact mL.mp hc
structure Gl(e:bB)(b0:am)(x:af)(v:ag):Prop where
 kind:e.kindOf x=some .globalImplicit
 lC:(x==("__debug__" : af))=false
 val:dZ b0 x v
noncomputable def tL(sc:dA)(x:af):Bool:=sc.names.lookup x==some .globalImplicit&&!(x==("__debug__" : af))
theorem Gl.of{e:bB}{b0:am}{x:af}{v:ag}{sc:dA}(hs:e.scope=sc)(h:tL sc x=true)(g:dZ b0 x v):Gl e b0 x v:=by
 subst hs
 refine aN (ff.mp h) λa b=>?_
 exact⟨eq_of_beq a,by exact bR ((λ{x y}=>oC.mp) (id (bR b))),g⟩
noncomputable def vf:List gJ:=[⟨681,687,4,(ae "suffixed_err"++ae ".<locals>.")++ae "coord_repr"⟩,⟨582,440,30,(ae "key_value_rule"++ae ".<locals>.")++ae "<genexpr>"⟩]
structure Pl(c:FC)(ev:bB)(w:aR)(b:am)(n:Nat):Prop where
 ok:c.Ok
 env:c.env=ev
 w:c.w=w
 b0:c.b0=b
 room:c.A.depth+n<sV
 fP:f8 c
 tb:c.tb=vf
theorem mE.pl{c c':FC}{sc:kg}{ev:bB}{w:aR}{b:am}{n:Nat}(P:Pl c ev w b (n+1))(C:mE c sc c'):Pl c' c'.env w b n:=
 ⟨C.ok,rfl,C.w.trans P.w,C.b0.trans P.b0,by rw[C.depth];exact bL (da (gu _ 1 n)) P.room,C.fP P.fP,C.tb.trans P.tb⟩
theorem kZ.pl{c c':FC}{x:aG}{ev:bB}{w:aR}{b:am}{n:Nat}(P:Pl c ev w b n)(C:kZ c x c'):Pl c' ev w b n:=
 ⟨C.ok,C.env.trans P.env,C.w.trans P.w,C.b0.trans P.b0,by rw[C.depth];exact P.room,C.hd.fP,C.tb.trans P.tb⟩
section
variable {c:FC}{σ:AS}{s:ai}
theorem zp{h:am}:∀{ps:List af} {xs:List PV} {vs:List ag},ps.Nodup->ps.length=xs.length->aB h xs vs->∀(rest:List af) (k:Nat) y,RL h (getL (iw (ps++rest) (xs++jx k .al)) y) (eR (ps.zip vs) y)
 | [],[],vs,_,_,r,rest,k,y=>by
  rewrite[aB] at r;subst r
  have:∀(rest:List af) (k:Nat),getL (iw rest (jx k .al)) y = .al:=by
   intro rest
   induction rest with
   | nil=>intro k;exact(aI (getL (iw [] (jx k PV.al)))∘λa=>a) rfl
   | cons n r ih=>
    intro k
    cases k with
    | zero=>exact(aI (getL (iw (n::r) (jx 0 PV.al)))∘λa=>a) rfl
    | succ k=>
     cases e:y==n with
     | true=>exact Gn e
     | false=>exact(F0 e).trans (ih k)
  show RL h (getL (iw rest (jx k .al)) y) none
  rw[this];rfl
 | p::ps,x::xs,vs,hn,hl,r,rest,k,y=>by
  refine bM r λv q j1 r1 r2=>?_;clear r;subst j1
  refine aN (jn.mp hn) λhn1 hn2=>?_
  have ih:=zp hn2 (by exact wz hl) r2 rest k y
  show RL h (getL ((p,x)::iw (ps++rest) (xs++jx k .al)) y) ((eR (ps.zip q) y).or (if y=p then some v else none))
  unfold getL
  by_cases hy:y=p
  .subst hy
   have:eR (ps.zip q) y=none:=zC λz hz e=>hn1 (e▸(Yx hz).1)
   rw[this]
   simp only[beq_self_eq_true,if_true,Option.none_or]
   cases x <;> first | exact(aw v rfl r1) | exact absurd r1 (by intro h;exact h)
  .simp only[beq_eq_false_iff_ne.mpr hy,an hy,KN]
   exact ih
 | [],_::_,_,_,hl,_,_,_,_=>by simp at hl
 | _::_,[],_,_,hl,_,_,_,_=>by simp at hl
set_option backward.match.sparseCases true in
def c_(c:FC){X:Type}(ρ:am->X->ag->Prop)(fa:aj)(xs:List PV)(ks:List af)(kxs:List PV)(σ:AS)(Q:X->AS->Prop)(E:aG->AS->Prop):Prop:=
 ∀s vs kvs,In c σ s->aB s.heap xs vs->aB s.heap kxs kvs->kh (av aF c.w) c.A (.call (.ref fa) ⟨vs,ks.zip kvs⟩) (λr s'=>match r with | .ok (.ret v)=>cw c ρ s Q v s' | .ok _=>False | .error e=>EPost c E e s') s
noncomputable def pR(c:FC)(env:bB)(σ:AS)(h:am):FC:={w:=c.w,A:=c.A.deeper env,env:=env,outer:=c.env::c.outer,b0:=c.b0,base:=h,D:=λa=>∃ao,(a,ao)∈σ.st,tb:=c.tb,os:=c.os,gens:=c.gens,T:=c.T}
theorem ML{c:FC}{σ:AS}{s:ai}{env:bB}(K:c.Ok)(I:In c σ s)(hk:env.scope.kind = .function)(hg:env.globals=eK)(hb:env.builtins=jv)(hf:env.frame=some env.locals)(hcel:∀x,(env.cells.lookup x).isSome=cellIn env.scope x)
  (ha:∀y∈env.cells,s.heap.objs.size<=y.2) (ap:env.cells.Pairwise λx y=>x.2≠y.2):(pR c env σ s.heap).Ok/\(f8 c->f8 (pR c env σ s.heap)):=by
 refine⟨⟨⟨hk,hg,hb,hcel⟩,?_,hf,K.lim,⟨λy z a h1 h2=>Je (Yy.mpr ap) (qr h1) (qr h2),λy a hy=>⟨?_,fb (ha _ (qr hy))⟩⟩,λb o vs q d z=>?_,K.t0⟩,λh=>?_⟩
 .show(c.A.deeper env).frames=_
  unfold Around.deeper;rw[K.frames];rfl
 .cases q:c.b0.get? a with
  | none=>exact q
  | some o=>exact absurd (dR (I.b0 _ _ q)) (i0.mpr (ha _ (qr hy)))
 .refine br (I.uG z) λo' e' n Z=>?_
  exact n _ (kN (e'.symm.trans q)▸d)
 .rcases h with h | ⟨e,h,l,hch⟩
  .exact .inl h
  .exact .inr (aw e h ⟨l,hch.mono λb o vs q hcn d=>I.up1 b o vs q (K.dn b o vs q d) (.inl hcn) d⟩)
theorem PQ{Q:PV⊕aG->AS->Prop}{E:aG->AS->Prop}(K:c.Ok)(hd:c.A.depth<sV){fd:kg}{body:List bA}{fa:aj}{xs kxs ds:List PV}{ks ps rest:List af}{vals:List PV}{k:Nat}
  (hfo:∀s,In c σ s->∃o,s.heap.get? fa=some o/\o.data = .func fd/\s.heap.CodeRec fd.code fd.qualname) (hcl:fd.closure=[]) (hgl:fd.globals=eK) (hbl:fd.builtins=jv)
  (hbody:fd.body = .stmts body) (hco:fd.scope.isCoroutine=false) (hgen:fd.scope.isGenerator=false) (hk:fd.scope.kind = .function) (hsc:EJ fd.scope=true)
  (hps:(ps.all λx=>fd.scope.names.lookup x==some .local||fd.scope.names.lookup x==some .cell)=true) (ga:ps.Nodup) (hlen:ps.length=(xs++kxs++ds).length) (hv:vals=xs++kxs++ds++jx k .al)
  (hbind:∀(s:ai) (vs kvs:List ag),In c σ s->aB s.heap xs vs->aB s.heap kxs kvs->∃dvs,aB s.heap ds dvs/\au (av aF c.w) c.A.in1 (wA fd ⟨vs,ks.zip kvs⟩) (λb s'=>s'=s/\b=ps.zip (vs++kvs++dvs)) (λZ Z=>False) s)
  (h:∀c',mE c fd c'->dC c' body (mk (ps++rest) vals σ.st) (λf a8=>match f with | .ret x=>Q (.inl x) {σ with st:=a8.st} | .exc x=>Q (.inr x) {σ with st:=a8.st} | _=>Q (.inl .none) {σ with st:=a8.st}) (λx a8=>E x {σ with st:=a8.st})) :
  c_ c (tR c) fa xs ks kxs σ Q E:=by
 intro s vs kvs I rx rk
 refine br (hfo s I) λo ho' hdt hcr'=>?_
 refine aC (hbind s vs kvs I rx rk) λdvs rd hb=>?_
 refine Yz hd ho' hdt hco hgen hbody hcr' (bn hb (λb s' ⟨e1,e2⟩=>?_) λZ Z x=>x.elim)
 subst e1 e2
 rw[hcl,hgl,hbl]
 have hloc:∀x∈ps.zip (vs++kvs++dvs),fd.scope.names.lookup x.1=some .local\/(fd.scope.names.lookup x.1=some .cell/\((wx (s'.heap.objs.size+1) fd.scope.names []).lookup x.1).isSome=true):=λx hx=>by
  have:=fE.mp hps _ ((Yx hx).1)
  rcases vR.mp this with h | h
  .exact .inl (eq_of_beq h)
  .refine .inr ⟨eq_of_beq h,?_⟩
   rw[rg]
   have:=qr (eq_of_beq h)
   simp only[sW,KO]
   exact .inl (aw _ this (by simp))
 refine ii (bk _) (YA hk hloc λenv he ay x htk=>?_)
 have heL:env.locals=s'.heap.objs.size:=by rw[he];rfl
 refine⟨(K.lim.keeps I.b0).keeps x.toInCall.keep,?_⟩
 have hscope:env.scope=fd.scope:=by rw[he];rfl
 have hcells:env.cells=wx (s'.heap.objs.size+1) fd.scope.names []:=by rw[he];rfl
 have hcel:∀x,(env.cells.lookup x).isSome=cellIn env.scope x:=λx=>by
  rw[hcells,hscope,rg]
  simp[cellIn]
 have habove:∀y∈env.cells,s'.heap.objs.size<=y.2:=λy hy=>by
  have:=x.above y.1 y.2 hy
  replace this:=heL▸this
  exact eF this
 refine aN (ML (env:=env) K I (by rw[hscope];exact hk) (by rw[he];rfl) (by rw[he];rfl) (by rw[he];rfl) hcel habove x.apart) λhK hhok=>?_
 have X:Sub c σ s' (pR c env σ s'.heap):=⟨rfl,rfl,rfl,rfl,rfl,rfl,rfl,rfl⟩
 have hcle:mE c fd (pR c env σ s'.heap):=⟨hK,hscope,by show env.code=_;rw[he];rfl,by show env.qual=_;rw[he];rfl,rfl,rfl,rfl,rfl,rfl,rfl,rfl,rfl,hhok,rfl⟩
 refine dV x.toInCall.same λbX tk j1=>?_;subst j1
 have aQ:In (pR c env σ s'.heap) (mk (ps++rest) vals σ.st) {s' with heap:=bX,toks:=tk}:=by
  have hns:jg (pR c env σ s'.heap) bX (eR (ps.zip (vs++kvs++dvs))):=by
   constructor
   .refine(aw _ x.toInCall.ns (λy hy=>?_))
    rw[zJ]
    by_cases hk':env.kindOf y=some .local
    .rw[aA hk'];exact KN
    .rw[an hk']
     refine(zC λz hz q=>?_).symm
     have hk'':fd.scope.names.lookup y≠some .local:=by
      have:env.kindOf y=fd.scope.names.lookup y:=by unfold oN;rw[hscope]
      rw[<-this];exact hk'
     rcases hloc z hz with q1 | ⟨_,q2⟩
     .exact hk'' (q▸q1)
     .replace q2:=hy▸q▸(bR hcells:_)▸q2;cases q2
   .intro y a hy
    have hy:env.cells.lookup y=some a:=hy
    have:=x.cell y a hy
    have hk':env.kindOf y≠some .local:=by
     have h1:cellIn env.scope y=true:=by rw[<-hcel,hy];rfl
     replace h1:=hscope▸h1
     refine aC (KO.mp h1) λp hp hp2=>?_
     refine aN (ff.mp hp2) λhp3 hp4=>?_
     have:=fE.mp hsc p hp
     replace this:=(eq_of_beq hp4)▸(eq_of_beq hp3)▸this
     unfold oN
     rw[hscope,(by simpa using this:fd.scope.names.lookup y=some .cell)];decide
    replace this:=(FI ..)▸this;rewrite[Ai _ _ hk'] at this
    cases q:eR (ps.zip (vs++kvs++dvs)) y with
    | none=>replace this:=q▸this;simpa using this
    | some u=>replace this:=q▸this;simpa using this
  refine I.enter X x.toInCall.keep (mm:=eR (ps.zip (vs++kvs++dvs))) ?_ (λe he=>he) K.frame hns (da heL.symm) (λy a hy ao hm=>?_) (λy=>?_) htk
  .show bX.FunFrames c.b0 (c.env::c.outer)
   obtain ⟨mmc,⟨⟨m,⟨oc,es,ep,eL,dL,rL⟩,_⟩,_⟩,_⟩:=I.ns
   exact⟨by rw[show c.env.scope.kind = .function from K.kind];decide,(fi c.L oc K.frame I.L0 (x.toInCall.keep _ _ eL) (λvs q=>by replace q:=dL▸q;cases q)),I.fr.of_keeps λb o e Z=>(aw o (x.toInCall.keep b o e) rfl)⟩
  .have:=habove _ (qr hy)
   refine aC ((I.st a ao hm).1.there) λo e Z=>?_
   exact absurd (dR e) (i0.mpr this)
  .rw[hv]
   exact zp ga hlen ((rx.append rk).append rd) rest k y
 refine codeAny_func (bn (h _ hcle _ aQ) (λf bc p=>p.elim λy a8 a_ bV bz=>?_) λev bc p=>p.elim λe y a8 he' a_ Ca bz=>?_)
 .have tk:=I.GA X a_
  have IB:=I.back X a_ a_.fr.2.2 (λe he=>.tail _ he)
  cases y with
  | ret z=>
   refine aC bV λv j1 r=>?_;clear bV;subst j1
   exact⟨.inl z,_,IB,r,tk,bz⟩
  | exc z=>
   refine aC bV λv j1 r=>?_;clear bV;subst j1
   exact⟨.inr z,_,IB,r.back X I,tk,bz⟩
  | next=>cases bV;exact⟨.inl .none,_,IB,rfl,tk,bz⟩
  | brk=>cases bV;exact⟨.inl .none,_,IB,rfl,tk,bz⟩
  | cont=>cases bV;exact⟨.inl .none,_,IB,rfl,tk,bz⟩
 .subst he'
  unfold leaving
  refine ah (u0 hK.frames hK.frame a_ Ca λfY dM Cb=>?_)
  refine CX dM Cb λMo ko aax=>?_
  exact⟨e,y,_,rfl,I.back X ko ko.fr.2.2 (λe he=>.tail _ he),jV.back X rfl I aax,bz⟩
theorem c_.val{fa:aj}{xs kxs:List PV}{ks:List af}{Q:PV->AS->Prop}{E:aG->AS->Prop}(h:c_ c (tR c) fa xs ks kxs σ (λz σ=>match z with | .inl x=>Q x σ | .inr _=>False) E):c_ c RV fa xs ks kxs σ Q E:=λs vs kvs I b d=>
 wB (h s vs kvs I b d) (λr s' z=>by
  rcases r with e | (v | _ | _ | _) <;> first | exact z | exact z.elim | skip
  refine Internal.cw.elim z λx σ' I' r k q=>?_;clear z
  cases x with
  | inl x=>exact⟨x,σ',I',r,k,q⟩
  | inr x=>exact q.elim)
theorem cL.exc{f:PV}{xs kxs:List PV}{ks:List af}{Q:aG->AS->Prop}{E:aG->AS->Prop}(h:cL c (tR c) f xs ks kxs σ (λz σ=>match z with | .inl x=>False | .inr x=>Q x σ) E):cL c (fD c) f xs ks kxs σ Q E:=λs fv vs kvs I a b d=>
 bH (h s fv vs kvs I a b d) (λv s' z σ' I' r k q=>by
  cases z with
  | inl x=>exact q.elim
  | inr x=>exact⟨x,σ',I',r,k,q⟩)
end
end
section
def Fin(N:AS->Prop)(Q:bO->AS->Prop):bO->AS->Prop:=λf σ=>match f with | .next=>N σ | f=>Q f σ
def X1(c:FC)(st:bA)(σ:AS)(N:AS->Prop)(Q:bO->AS->Prop)(E:aG->AS->Prop):Prop:=Ex c st σ (Fin N Q) E
def XS(c:FC)(sts:List bA)(σ:AS)(N:AS->Prop)(Q:bO->AS->Prop)(E:aG->AS->Prop):Prop:=dC c sts σ (Fin N Q) E
structure vj(x:af)(v:PV)(N:AS->Prop)(σ:AS):Prop where
 mk' ::
 ok:N (σ.set x v)
section
variable {c:FC}{σ:AS}{N:AS->Prop}{Q:bO->AS->Prop}{E:aG->AS->Prop}
theorem Ev.mono{e:aL}{Q Q':PV->AS->Prop}{E E':aG->AS->Prop}(h:Ev c e σ Q E)(hq:∀x σ,Q x σ->Q' x σ)(he:∀x σ,E x σ->E' x σ):Ev c e σ Q' E':=λs I=>
 bn (h s I) (λZ Z ⟨x,aq,aQ,r,k,q⟩=>⟨x,aq,aQ,r,k,hq _ _ q⟩) λZ Z ⟨e,x,aq,h1,h2,h3,h4⟩=>⟨e,x,aq,h1,h2,h3,he _ _ h4⟩
variable {ns:List af}{vals:List PV}{st:List (aj×AO)}{i:Nat}{x:af}{v:PV}
variable {ev:bB}{w:aR}{b:am}{n:Nat}
theorem Ev.gl{pos:aT}{Q:PV->AS->Prop}{v:ag}(P:Pl c ev w b n)(g:Gl ev b x v)(h:Q (.val v) σ):Ev c (.Name x pos) σ Q E:=by
 obtain ⟨K,rfl,_,rfl,_,_,_⟩:=P
 exact Ev.glob K.ton6 g.kind g.lC g.val h
end
end
section
noncomputable def zU:aG:=⟨.type "IndexError",none⟩
section
variable {c:FC}{σ:AS}{E:aG->AS->Prop}{Q:PV->AS->Prop}{x:af}
noncomputable def o_(c:FC)(h:am):am:=jz h ((c.env::c.outer).filterMap (·.frame))
theorem In.frames{s:ai}(K:c.Ok)(I:In c σ s):s.heap.FunFrames c.b0 (c.env::c.outer):=by
 obtain ⟨mmc,⟨⟨m,⟨oc,es,ep,eL,dL,rL⟩,_⟩,_⟩,_⟩:=I.ns
 exact⟨by rw[show c.env.scope.kind = .function from K.kind];decide,(fi c.L oc K.frame I.L0 eL (λvs q=>by replace q:=dL▸q;cases q)),I.fr⟩
theorem In.o_{s:ai}(K:c.Ok)(I:In c σ s):iI c (o_ c s.heap):=by
 have F:=I.frames K
 have nf:∀b o vs,s.heap.get? b=some o->o.data = .fields vs->b∉(c.env::c.outer).filterMap (·.frame):=λb o vs e d hm=>by
  obtain ⟨_,o',e',n⟩:=F.mem hm
  replace e':=e▸e';refine(λj0=>?_) (bj e');clear e';subst j0;exact n _ d
 refine⟨λb o e=>lY _ (I.b0 b o e) λhm=>?_,λb o vs e h1 hcn h2=>lY _ (I.up1 b o vs e h1 hcn h2) (nf b o vs (I.up1 b o vs e h1 hcn h2) h2),I.tab.stays λb o vs e d=>lY _ e (nf b o vs e d)⟩
 refine aN (F.mem hm) λz Z=>?_
 exact bI (z▸e)
theorem jU.new{s:ai}{h':am}{x:aG}{e:aj}{a0 cx:ag}{ob:ax}{vs:Array ag}(K:c.Ok)(I:In c σ s)(k:∀b o,s.heap.get? b=some o->h'.get? b=some o)(hn:s.heap.get? e=none)
  (he:h'.get? e=some ob) (hc:ob.cls=x.cls) (hd:ob.data = .fields vs) (h0:vs[0]?=some a0) (h1:vs[1]?=some .none) (h2:vs[2]?=some cx) (hcx:x.cls≠.none/\∃l,Chain (Internal.o_ c s.heap) cx l) (ha:jG h' a0 x.args):jU c x e h':=by
 refine⟨Internal.o_ c s.heap,a0,cx,I.o_ K,λb o q=>k b o (oH _ q),?_,?_,ha,hcx,.inl ⟨ob,vs,he,hc,hd,h0,h1,h2⟩⟩
 .cases q:(Internal.o_ c s.heap).get? e with
  | none=>rfl
  | some o=>have:=oH _ q;exact bI (hn▸this)
 .exact(funFrames_hide (I.frames K) λenv he a ha=>qm.mpr (aw env he ha)).of_keeps λb o e Z=>(aw o (k b o e) rfl)
theorem Ea{s:ai}{cls:String}{h':am}{tk:Nat}{e:aj}(K:c.Ok)(I:In c σ s)(N:Heap.NewExc s.heap h' e cls)(h:E ⟨.type cls,none⟩ σ)(ht:s.toks<=tk):EPost c E (.ref e) {s with heap:=h',toks:=tk}:=by
 refine bM N.there λob t he hc hd=>?_
 exact⟨e,⟨.type cls,none⟩,σ,rfl,I.grow N.keeps (ht:=ht),jU.new K I N.keeps N.new he hc hd (a0:=t) (cx:=.none) rfl rfl rfl ⟨(λq=>by cases q),_,.nil⟩ trivial,h⟩
theorem jP{s:ai}{o i:ag}{T id:String}{Q:ag->ai->Prop}{E:ag->ai->Prop}(hT:s.TypeIs o T)
  (hl:typeLookup (.type T) "__getitem__" = pure (some (.builtin id))) (hg:au (av aF c.w) c.A (oK o i) Q E s):au (av aF c.w) c.A (hV o i) Q E s:=by
 unfold hV
 refine ah ?_
 rw[YB hT.not_modules]
 refine ah (wC hT hl ?_)
 exact aE hg
theorem rA{n:Nat}(hn:(n:Int)<2^63):(decide ((n:Int) < -(2^63:Int))||decide ((n:Int)>=2^63))=false:=by
 simp only[KP,decide_eq_false_iff_not];lia
theorem ug(n m:Nat):Ba (n:Int) m=if n<m then some n else none:=by
 unfold Ba
 have:¬((n:Int)<0):=by exact KQ n
 simp only[this,if_false]
 by_cases h:n<m
 .rw[aA h,aA (by simp;assumption)];exact Option.some_inj.mpr rfl
 .rw[an h,an (by simp;exact qt ‹_›)]
theorem str_idx(x:af)(n:Nat):(Ba (n:Int) x.length).bind (x.cps[·]?)=x.cps[n]?:=by
 rw[ug]
 by_cases h:n<x.length
 .rw[aA h];rfl
 .rw[an h];exact(Array.getElem?_eq_none (qt h)).symm
theorem WX{n:Nat}(K:c.Ok)(hh:c.A.handled=none)(hn:n<2^62)(h1:∀u,x.cps[n]?=some u->Q (.str (ch u)) σ)(h2:x.cps[n]?=none->E zU σ):U2 c RV hV (.str x) (.int n) σ Q E:=λs u v I ⟨t,e⟩ ⟨t',e'⟩=>by
 subst e e'
 have hn':(n:Int)<2^63:=KR (wD.mpr hn) (by decide)
 cases hc:x.cps[n]? with
 | some u=>
  refine jP (gW s x t) qv.lookup ?_
  exact Bc (c:=u) (rA hn') ((str_idx x n).trans hc) ⟨.str (ch u),σ,I.tok _,⟨_,rfl⟩,TK.refl _,h1 u hc⟩
 | none=>
  refine jP (gW s x t) qv.lookup ?_
  refine ii (bk _) ?_
  exact getItem_meets (gW s x t) (by decide) qv entry_str_getitem (args_str_getitem _ _) (raises_str_getitem x n t t' (rA hn') ((str_idx x n).trans hc)) ⟨hh,λh' tk e N ht=>Ea K I N (h2 hc) ht⟩
theorem GP{w:aR}{es:Array (Int×ag)}{t:dw}{L:List af}(D:b3 w es t L):ElemsOf (strKind aF w) es.toList:=D.rq aF
theorem D7{s:ai}{a:aj}{L:List af}{t:bY}{Q E:ag->ai->Prop}(F:bS c.w s.heap a L)(hb:L.length<4096)(h:Q (.bool (L.contains x)) {s with toks:=s.toks+1}) :
  au (av aF c.w) c.A (ce .In (.str x t) (.ref a)) Q E s:=by
 refine dU F λes ep tb ho D=>?_;clear F
 have hT:s.TypeIs (.ref a) "frozenset":=(aw _ ho rfl)
 have hk:(strKind aF c.w).is x (.str x t)=true:=hZ aF c.w x t
 have hm:∀k:af,L.contains k=true<->∃e∈es.toList,(strKind aF c.w).is k e.2=true:=λk=>by
  rw[jZ];exact D.mem k
 show au _ _ (do return .bool (<-contains (.ref a) (.str x t))) Q E s
 refine ah ?_
 unfold contains
 try with_reducible refine bT ?_
 refine ah (wC hT KS.lookup ?_)
 show au _ _ (if(some (KU "frozenset.__contains__")==some fJ)=true then _ else _) _ E s
 rw[an (by rw[beq_builtin_none];exact cm)]
 refine ah (wpAny_callSpecialUnlessNone?_slot (name:=ae "__contains__") hT KS
  (lZ KS hT FB.entry_frozenset_contains ?_ (FB.args_frozenset_contains_2 _ _)))
 unfold cn.«frozenset.__contains__» Builtin.Frozenset.oneOther
 simp only[YC,bind_assoc]
 unfold sC Builtin.Frozenset.withSetAsKey Bd
 refine ah (aE ?_)
 try dsimp only
 refine ah (aE ?_)
 try dsimp only
 refine ah (wpAny_tryCatch (bT (ah ((strKind aF c.w).pyHash hk ?_))))
 refine ah (setFind_any (s:={s with toks:=s.toks+1}) hk rfl ho rfl (GP D) hm (by rw[D.size];exact hb) D.fits λr hr=>aE ?_)
 show au _ _ (ret (wE r.isSome)) _ _ _
 rw[hr]
 exact aE (aw _ rfl (sT (aE h)))
theorem tJ{w:aR}{h h':am}{a:aj}{L:List af}(F:bS w h a L)(k:∀b o,h.get? b=some o->h'.get? b=some o):bS w h' a L:=
 let ⟨es,ep,t,ho,D⟩:=F;⟨es,ep,t,k _ _ ho,D⟩
theorem P9{a:aj}{L:List af}(F:bS c.w c.b0 a L)(hb:L.length<4096)(h:Q (.bool (L.contains x)) σ):U2 c RV (ce .In) (.str x) (.val (.ref a)) σ Q E:=λs u v I ⟨t,e⟩ e'=>by
 obtain rfl:v = .ref a:=e'
 subst e
 exact Internal.D7 (tJ F I.b0) hb ⟨.bool _,σ,I.tok _,rfl,TK.refl _,h⟩
theorem Gb{h:am}{y:aG}{e:aj}{cls:String}{s:ai}(hs:s.heap=h)(T:jV c y e h)(hc:y.cls = .type cls):s.TypeIs (.ref e) cls:=by
 obtain ⟨B,a0,cx,R,k,hen,hl,ha,hcx,oe,vs,T1,oT,ts,he,hcls,r⟩:=T
 exact(aw oe (by rw[hs];exact he) (by rw[hcls,hc]))
theorem gG.ty{y:aG}{X T:String}{k:Bool}{nm:af}{p:aT}{ev:bB}{w:aR}{b:am}{n:Nat}(P:Pl c ev w b n)(g:Gl ev b nm (.type T))(hc:y.cls = .type X)
  (hexc:ka (.type T) (.type "BaseException")=pure true) (hnt:ka (.type ((Manifest.find? T).elim "type" λx=>x.metatype)) (.type "tuple")=pure false)
  (hsub:ka (.type X) (.type T)=pure k):gG c y (.Name nm p) σ k:=λe s A I L=>by
 obtain ⟨K,rfl,_,rfl,_,_,_⟩:=P
 rcases g.val with⟨mg,hg,hb⟩ | ⟨mg,mb,hg,hn,hB,hb⟩
 .exact oM K.kind g.kind (A6 (env:=c.env) (mg:=mg) (by rw[K.glob];exact hg.keeps I.b0) hb (YD (Gb rfl L hc) hexc hnt hsub ⟨rfl,rfl⟩)) g.lC
 .exact oM K.kind g.kind (A7 (env:=c.env) (mg:=mg) (mb:=mb) (by rw[K.glob];exact hg.keeps I.b0) hn (by rw[K.blt];exact hB.keeps I.b0) hb (YD (Gb rfl L hc) hexc hnt hsub ⟨rfl,rfl⟩)) g.lC
theorem vg{nm:af}{p:aT}{ev:bB}{w:aR}{b:am}{n:Nat}(P:Pl c ev w b n)(g:Gl ev b nm (.type "IndexError")):gG c zU (.Name nm p) σ true:=
 gG.ty P g rfl PySem.F.isExc_IndexError PySem.F.notTuple_IndexError PySem.F.self_IndexError
end
end
section
section
variable {h:am}{vs:List ag}
theorem hW(r:aB h [] vs):vs=[]:=by rewrite[aB] at r;exact r
theorem uc{x0:PV}(r:aB h [x0] vs):∃a0,vs=[a0]:=by
 rewrite[aB] at r;refine(λj2=>?_) r;clear r;refine bM j2 λa q j1 Z r=>?_;clear j2;subst j1;exact⟨a,by rw[hW r]⟩
theorem rM{x0 x1:PV}(r:aB h [x0,x1] vs):∃a0 a1,vs=[a0,a1]:=by
 rewrite[aB] at r;refine(λj2=>?_) r;clear r;refine bM j2 λa q j1 Z r=>?_;clear j2;subst j1;refine aP (uc r) λb j1=>?_;subst j1;exact(jW a b rfl)
theorem zG{x0 x1 x2:PV}(r:aB h [x0,x1,x2] vs):∃a0 a1 a2,vs=[a0,a1,a2]:=by
 rewrite[aB] at r;refine(λj2=>?_) r;clear r;refine bM j2 λa q j1 Z r=>?_;clear j2;subst j1;refine dV (rM r) λb c j1=>?_;subst j1;exact(He a b c rfl)
theorem Vk{x0 x1 x2 x3:PV}(r:aB h [x0,x1,x2,x3] vs):∃a0 a1 a2 a3,vs=[a0,a1,a2,a3]:=by
 rewrite[aB] at r;refine(λj2=>?_) r;clear r;refine bM j2 λa q j1 Z r=>?_;clear j2;subst j1;refine jX (zG r) λb c d j1=>?_;subst j1;exact(TQ a b c d rfl)
theorem Ro{x0 x1 x2 x3 x4:PV}(r:aB h [x0,x1,x2,x3,x4] vs):∃a0 a1 a2 a3 a4,vs=[a0,a1,a2,a3,a4]:=by
 rewrite[aB] at r;refine(λj2=>?_) r;clear r;refine bM j2 λa q j1 Z r=>?_;clear j2;subst j1;refine lx (Vk r) λb c d e j1=>?_;subst j1;exact(Vc a b c d e rfl)
theorem pB{M:cP}{A:bZ}{s:ai}{t:bf (List (af×ag))}{binds:List (af×ag)}(e:t=pure binds):au M A t (λb s'=>s'=s/\b=binds) (λZ Z=>False) s:=by
 rw[e];exact aE ⟨rfl,rfl⟩
end
structure At(c:FC)(n:Nat):Prop where
 room:c.A.depth+n<sV
section
variable {c:FC}{σ:AS}{E:aG->AS->Prop}{Q:PV->AS->Prop}{x:af}
theorem b7.nil{Q:List PV->AS->Prop}(h:Q [] σ):b7 c [] σ Q E:=h
theorem Br.mk{b:Bool}{P R:Prop}(h1:b=true->P)(h2:b=false->R):Br b P R:=⟨h1,h2⟩
theorem Br.t{P R:Prop}(h:P):Br true P R:=⟨λZ=>h,λq=>(nomatch q)⟩
theorem Br.f{P R:Prop}(h:R):Br false P R:=⟨λq=>(nomatch q),λZ=>h⟩
end
end
section
noncomputable def ms(l:List Nat):af:=⟨l.toArray⟩
noncomputable def lit(s:String):List Nat:=cpsOfBytes 0 0 s.toByteArray.data.toList
theorem bP(l:List Nat):(ms l).length=l.length:=by exact len_of_list rfl
theorem kA(l:List Nat)(n:Nat):(ms l).cps[n]?=l[n]?:=by simp[ms]
theorem k_(a b:List Nat):ms a++ms b=ms (a++b):=by
 show Str.append _ _=_
 simp[ms,Str.append]
theorem mH(a b:List Nat):(ms a==ms b)=(a==b):=by
 rw[qe];simp[ms]
theorem xt{a b:List Nat}:ms a=ms b<->a=b:=by simp[ms]
theorem kL(x:af):x=ms x.cps.toList:=by exact Str.ext' rfl
noncomputable def sl(l:List Nat)(a b:Nat):List Nat:=(l.drop a).take (b-a)
theorem D9(l:List Nat)(a b:Nat):(sl l a b).Sublist l:=(List.take_sublist _ _).trans (List.drop_sublist _ _)
theorem tY(l:List Nat)(a b:Nat):(sl l a b).length<=l.length:=(D9 l a b).length_le
theorem Tw(a n:Nat):max (0:Int) (min (a:Int) (n:Int))=((min a n:Nat):Int):=by
 rcases AC a n with h | h
 .rw[gS h,Int.min_eq_left (wF.mpr h),KV (kT _)]
 .rw[ke h,Int.min_eq_right (wF.mpr h),KV (kT _)]
theorem QW(a b:Nat):sliceRange (a:Int) (b:Int) 1=(dQ (b-a)).map (a + ·):=by
 have h:(if(a:Int)<b then((b:Int)-a+1-1)/1 else 0).toNat=b-a:=by
  rcases Nat.lt_or_ge a b with h | h
  .rw[aA (wD.mpr h),Int.add_sub_cancel,Int.ediv_one,KW]
  .rw[an (Be.mpr (wF.mpr h)),AD h];rfl
 show(dQ (if(a:Int)<b then((b:Int)-a+1-1)/1 else 0).toNat).map _=_
 rw[h]
 refine Kc λk Z=>?_
 rw[Int.one_mul];exact KY (a+k)
theorem E7(a b n:Nat):ki (some (a:Int)) (some (b:Int)) 1 n=(dQ (min b n-min a n)).map (min a n + ·):=by
 have h:∀k:Nat,(if(1:Int)>0 then max 0 (min (if(k:Int)<0 then(k:Int)+n else k) (n:Int)) else max (-1) (min (if(k:Int)<0 then(k:Int)+n else k) ((n:Int)-1)))=((min k n:Nat):Int):=λk=>by
  rw[aA (by decide),an (Be.mpr (kT k)),Tw]
 exact(congr (aI (λx y=>sliceRange x y 1) (h a)) (h b)).trans (QW _ _)
theorem C0{α:Type}(l:List α)(a b:Nat):(l.drop (min a l.length)).take (min b l.length-min a l.length)=(l.drop a).take (b-a):=by
 rcases AC a l.length with h | h
 .rw[gS h,List.take_eq_take_iff,kb,YE,YE,Nat.min_assoc,X5]
 .rw[ke h,sX (bk _),sX h,YF,YF]
theorem SB(l:List Nat)(a b:Nat):(ki (some (a:Int)) (some (b:Int)) 1 (ms l).length).filterMap ((ms l).cps[·]?)=sl l a b:=by
 rw[bP,E7]
 refine((aI (λf=>List.filterMap f _) (funext (kA l))).trans (StrLaws.picks l _ _ ?_)).trans (C0 l a b)
 rcases AC (min a l.length) (min b l.length) with h | h
 .rw[Nat.add_sub_cancel' h];exact kU _ _
 .rw[AD h];exact kU _ _
theorem NC(a n:Nat):ki (some (a:Int)) none 1 n=ki (some (a:Int)) (some (n:Int)) 1 n:=StrLaws.sliceIdx_none_hi _ _
theorem Qj(u:Option Int)(n:Nat):ki none u 1 n=ki (some ((0:Nat):Int)) u 1 n:=StrLaws.sliceIdx_none_lo _ _
theorem neg_sub{n k:Nat}(hk:k<=n) : -(k:Int)+n=((n-k:Nat):Int):=by rw[YG hk,YH];rfl
theorem xg{k:Nat}(h:0<k) : -(k:Int)<0:=Int.neg_neg_of_pos (Int.natCast_pos.mpr h)
theorem Ch{n k:Nat}(h:k<=n) : -(n:Int)<=-(k:Int):=Int.neg_le_neg (wF.mpr h)
theorem ED{α β:Type}(f:α->Option β):∀(l:List α),(∀i∈l,(f i).isSome=true)->(l.filterMap f).length=l.length
 | [],_=>rfl
 | x::r,h=>by
  refine aP (mL.mp (h x (.head _))) λy hy=>?_
  rw[vz,hy,b_,b_,ED f r λi hi=>h i (.tail _ hi)]
inductive Part(n:Nat)(dflt:Nat):PV->Nat->Prop
 | nat {a:Nat}:Part n dflt (.int a) a
 | none:Part n dflt .none dflt
 | neg {k:Nat}:0<k->k<=n->Part n dflt (.int (-(k:Int))) (n-k)
section
variable {c:FC}{σ:AS}{E:aG->AS->Prop}{Q:PV->AS->Prop}
theorem zc{s:ai}{o i:ag}{T id:String}{Q:ag->ai->Prop}{E:ag->ai->Prop}(hT:s.TypeIs o T)
  (hl:typeLookup (.type T) "__getitem__" = pure (some (.builtin id))) (hg:au (av aF c.w) c.A (oK o i) Q E s):au (av aF c.w) c.A (ua o i) Q E s:=by
 unfold ua
 refine ah ?_
 rw[YB hT.not_modules]
 refine ah (wC hT hl ?_)
 exact aE hg
theorem Xj{n a:Nat}{p:PV}{v:ag}{h:am}(P:Part n 0 p a)(r:RV h p v):∃o:Option (Int×bY),v=sY o/\∀u,ki (o.map (·.1)) u 1 n=ki (some (a:Int)) u 1 n:=by
 cases P with
 | nat=>refine aP r λt j1=>?_;clear r;subst j1;exact(aw (some (_,t)) rfl (λZ=>rfl))
 | none=>cases r;exact(aw none rfl (λu=>Qj u n))
 | neg h1 h2=>refine aP r λt j1=>?_;clear r;subst j1;exact(aw (some (_,t)) rfl (λu=>(StrLaws.sliceIdx_neg_lo u n (xg h1) (Ch h2)).trans (by rw[neg_sub h2])))
theorem Na{n a:Nat}{p:PV}{v:ag}{h:am}(P:Part n n p a)(r:RV h p v):∃o:Option (Int×bY),v=sY o/\∀u:Nat,ki (some (u:Int)) (o.map (·.1)) 1 n=ki (some (u:Int)) (some (a:Int)) 1 n:=by
 cases P with
 | nat=>refine aP r λt j1=>?_;clear r;subst j1;exact(aw (some (_,t)) rfl (λZ=>rfl))
 | none=>cases r;exact(aw none rfl (λu=>NC u n))
 | neg h1 h2=>refine aP r λt j1=>?_;clear r;subst j1;exact(aw (some (_,t)) rfl (λu=>(StrLaws.sliceIdx_neg_hi _ n (xg h1) (Ch h2)).trans (by rw[neg_sub h2])))
theorem x9{l:List Nat}{p q:PV}{a b:Nat}(P:Part l.length 0 p a)(P':Part l.length l.length q b)(hz:l.length<=bN)(h:Q (.str (ms (sl l a b))) σ):jS c (.str (ms l)) p q σ Q E:=by
 intro s o lv uv I ⟨t,e⟩ r1 r2
 subst e
 refine aC (Xj P r1) λo1 j1 h1=>?_;subst j1
 refine aC (Na P' r2) λo2 j1 h2=>?_;subst j1
 unfold sP
 refine kf ?_
 have hs:(s.heap.push {cls:=.type "slice",data:=.fields #[sY o1,sY o2,.none]}).IsSlice s.heap.objs.size o1 o2 none:=(bh _ (cH _ rfl) rfl rfl)
 have I':In c σ {s with heap:=s.heap.push {cls:=.type "slice",data:=.fields #[sY o1,sY o2,.none]}}:=I.push _
 refine zc (gW _ _ t) qv.lookup (wpAny_getItem_str_slice hs rfl ?_)
 unfold sliceMade
 have hp:KZ (ms l) o1 o2 none=ki (some (a:Int)) (some (b:Int)) 1 (ms l).length:=by
  show ki (o1.map (·.1)) (o2.map (·.1)) 1 (ms l).length=_
  rw[bP,h1,h2]
 have hfm:(KZ (ms l) o1 o2 none).filterMap ((ms l).cps[·]?)=sl l a b:=by rw[hp,SB]
 split
 .rename_i hc
  have hlen:(KZ (ms l) o1 o2 none).length=(ms l).length:=by
   have:=(ff.mp hc).2
   exact eq_of_beq this
  have:sl l a b=l:=(D9 l a b).eq_of_length (by
   rw[<-hfm,<-bP l,<-hlen]
   refine ED _ _ λi hi=>?_
   replace hi:=hp▸hi;replace hi:=(bP ..)▸hi;replace hi:=(E7 ..)▸hi
   refine aC (cO.mp hi) λk hk j1=>?_;subst j1
   have:min a l.length+k<l.length:=bQ (XD (lJ.mp hk)) (kU _ _)
   rw[kA,qa this];rfl)
  exact⟨.str (ms l),σ,I',⟨t,rfl⟩,.push _,by replace h:=this▸h;exact h⟩
 .rw[hfm]
  refine⟨?_,⟨.str (ms (sl l a b)),σ,I'.tok _,⟨_,rfl⟩,.push _,h⟩⟩
  show(ms (sl l a b)).length<=bN
  rw[bP];exact aJ (tY l a b) hz
end
end
section
inductive Pf(c:FC)(h:am)(K:PV->List PV->AS->Prop)(r:ag×List ag)(s':ai):Prop
 | mk (f:PV) (fs:List PV) (σ':AS) (I:In c σ' s') (rf:RV s'.heap f r.1) (rfs:aB s'.heap fs r.2) (k:TK h s'.heap) (q:K f fs σ')
def dF(c:FC)(x:PV)(name:af)(σ:AS)(K:PV->List PV->AS->Prop)(E:aG->AS->Prop):Prop:=∀s ov (pl:bf Bool),In c σ s->RV s.heap x ov->
 au (av aF c.w) c.A (getMethod ov name pl) (Pf c s.heap K) (EPost c E) s
section
variable {c:FC}{σ:AS}{E:aG->AS->Prop}{Q:PV->AS->Prop}{l k:List Nat}
theorem Ev.g_{o:aL}{name:af}{apos pos:aT}{args:List aL}{kws:List gV}(hbase:wG o name c.env (eval o c.env)=eval o c.env)(hn:noStar args)(hk:mA kws=true)
  (hfew:(args.length+kws.length+1<30)) (hline:(apos.endLine==pos.line)=true)
  (h:Ev c o σ (λx aq=>dF c x name aq (λf fs a8=>b7 c args a8 (λxs dT=>b7 c (kws.map (·.value)) dT (λkxs m6=>aM c f (fs++xs) (iz kws) kxs m6 Q E) E) E) E) E) :
  Ev c (.Call (.Attribute o name apos) args kws pos) σ Q E:=λs I=>by
 rw[arm_eval_Call,hbase]
 refine ah (bH (h s I) (λov ay x aq aQ aZ k₁ a7=>?_))
 refine ah (d9 ?_)
 have hform:K1 (args.length+kws.length) (kR pos (lX args c.env)) (ie pos (ig kws c.env))=true:=by
  refine eO (yS pos (env:=c.env) hk) λZ k2 Z=>?_
  unfold K1
  have h1:(kR pos (lX args c.env)).all (λx=>!x.1)=true:=by
   rw[hn]
   unfold kR
   rw[fE]
   intro y hy
   simp only[fg,cO,Function.comp] at hy
   refine aC hy λe Z j1=>?_;clear hy;subst j1
   rfl
  rw[h1,k2]
  simp only[wy,decide_eq_true_eq]
  split <;> (first | assumption | exact oz ‹_›)
 unfold methodCall
 rw[hform]
 refine ah (bT (bn (a7 ay ov _ aQ aZ) (λr bc p=>?_) λZ Z e=>e))
 cases p with | mk f fs a8 a_ rf rfs k₂ bz=>
 obtain ⟨fv,first⟩:=r
 exact ah (mP (by unfold K3;exact aA hline) (FO hn hk a_ (k₁.trans k₂) rf rfs bz))
theorem dF.str{x:af}{name:af}{id:String}{K:PV->List PV->AS->Prop}(slot:Slot "str" name id)(ty:gw (.builtin id)=pure (.type "method_descriptor"))(h:K (.val (.builtin id)) [.str x] σ):dF c (.str x) name σ K E:=λs ov pl I ⟨t,e⟩=>by
 subst e
 refine GM.of (.str x t) (gW _ _ _) slot ty GM.noRef ?_
 exact⟨.val (.builtin id),[.str x],σ,I,rfl,aB.cons ⟨t,rfl⟩ aB.nil,TK.refl _,h⟩
theorem aM.blt{id:String}{xs:List PV}(h:∀s vs,In c σ s->aB s.heap xs vs->au (av aF c.w) c.A (call (.builtin id) vs) (cw c RV s Q) (EPost c E) s):aM c (.val (.builtin id)) xs [] [] σ Q E:=by
 intro s fv vs kvs I rf rx rk
 obtain rfl:fv = .builtin id:=rf
 unfold iV mV
 exact ah (aE (h s vs I rx))
theorem aM.type{id:String}{xs:List PV}(h:∀s vs,In c σ s->aB s.heap xs vs->au (av aF c.w) c.A (call (.type id) vs) (cw c RV s Q) (EPost c E) s):aM c (.val (.type id)) xs [] [] σ Q E:=by
 intro s fv vs kvs I rf rx rk
 obtain rfl:fv = .type id:=rf
 unfold iV mV
 exact ah (aE (h s vs I rx))
theorem iL{h:am}{x:PV}{vs:List ag}(r:aB h [x] vs):∃a,vs=[a]/\RV h x a:=by
 rewrite[aB] at r;refine(λj2=>?_) r;clear r;refine bM j2 λa q j1 ra r=>?_;clear j2;subst j1;rw[hW r];exact(aw a rfl ra)
theorem eQ{h:am}{x y:PV}{vs:List ag}(r:aB h [x,y] vs):∃a b,vs=[a,b]/\RV h x a/\RV h y b:=by
 rewrite[aB] at r;refine(λj2=>?_) r;clear r;refine bM j2 λa q j1 ra r=>?_;clear j2;subst j1;refine aC (iL r) λb j1 rb=>?_;subst j1;exact(eV a b rfl ra rb)
theorem pU{h:am}{x y z:PV}{vs:List ag}(r:aB h [x,y,z] vs):∃a b d,vs=[a,b,d]/\RV h x a/\RV h y b/\RV h z d:=by
 rewrite[aB] at r;refine(λj2=>?_) r;clear r;refine bM j2 λa q j1 ra r=>?_;clear j2;subst j1;refine gE (eQ r) λb d j1 rb=>?_;subst j1;exact(ly a b d rfl ra rb)
theorem CA{h:am}{x y z u:PV}{vs:List ag}(r:aB h [x,y,z,u] vs):∃a b d e,vs=[a,b,d,e]/\RV h x a/\RV h y b/\RV h z d/\RV h u e:=by
 rewrite[aB] at r;refine(λj2=>?_) r;clear r;refine bM j2 λa q j1 ra r=>?_;clear j2;subst j1;refine dU (pU r) λb d e j1 rb=>?_;subst j1;exact(RY a b d e rfl ra rb)
theorem mu{n:Nat}(K:c.Ok)(hh:c.A.handled=none)(hn:n<2^62)(h1:∀u,l[n]?=some u->Q (.str (ms [u])) σ)(h2:l[n]?=none->E zU σ):U2 c RV hV (.str (ms l)) (.int n) σ Q E:=
 WX K hh hn (λu hu=>h1 u (by rw[<-kA];exact hu)) (λhu=>h2 (by rw[<-kA];exact hu))
theorem cU(hsz:l.length+k.length<=bN)(h:Q (.str (ms (l++k))) σ):U2 c RV (fy .Add) (.str (ms l)) (.str (ms k)) σ Q E:=Rg (by rw[bP,bP];exact hsz) (by rw[k_];exact h)
theorem rX(hsz:l.length+k.length<=bN)(h:Q (.str (ms (l++k))) σ):U2 c RV (oG .Add) (.str (ms l)) (.str (ms k)) σ Q E:=TU (by rw[bP,bP];exact hsz) (by rw[k_];exact h)
theorem gL(h:Q (.bool (l==k)) σ):U2 c RV (ce .Eq) (.str (ms l)) (.str (ms k)) σ Q E:=Rn (by rw[mH];exact h)
theorem oj(h:Q (.bool (l !=k)) σ):U2 c RV (ce .NotEq) (.str (ms l)) (.str (ms k)) σ Q E:=M0 (by
 have:(ms l !=ms k)=(l !=k):=by unfold bne;rw[mH]
 rw[this];exact h)
theorem tW{a:aj}{L:List af}(F:bS c.w c.b0 a L)(hb:L.length<4096)(h:Q (.bool (L.contains (ms l))) σ):U2 c RV (ce .In) (.str (ms l)) (.val (.ref a)) σ Q E:=P9 F hb h
theorem iB(hz:l.length<2^60)(h:Q (.int l.length) σ):aM c (.val (.builtin "len")) [.str (ms l)] [] [] σ Q E:=aM.blt λs vs I r=>by
 obtain ⟨v,rfl,t,rfl⟩:=iL r
 refine PyProof.Rows.len_str (by rw[bP];lia) ?_
 rw[bP]
 exact⟨.int l.length,σ,I.tok _ (by lia),⟨_,rfl⟩,TK.refl _,h⟩
theorem Qw{n:Nat}(h:Q (.int n) σ):aM c (.val (.builtin "ord")) [.str (ms [n])] [] [] σ Q E:=aM.blt λs vs I r=>by
 obtain ⟨v,rfl,t,rfl⟩:=iL r
 exact P.ord_of_char ⟨.int n,σ,I.tok _,⟨_,rfl⟩,TK.refl _,h⟩
theorem WY{n:Nat}(hn:n<=1114111)(h:Q (.str (ms [n])) σ):aM c (.val (.builtin "chr")) [.int n] [] [] σ Q E:=aM.blt λs vs I r=>by
 obtain ⟨v,rfl,t,rfl⟩:=iL r
 refine P.chr_of_int (by simp only[KP,decide_eq_false_iff_not];lia) ⟨.str (ms [n]),σ,I.tok _,⟨_,rfl⟩,TK.refl _,h⟩
noncomputable def at_(l k:List Nat)(n:Nat):Bool:=sl l n (n+k.length)==k
theorem CB(l k:List Nat)(n:Nat):YI (ms l) (ms k) n=(sl l n (n+k.length)==k):=by
 unfold YI
 rw[qe]
 simp only[beq_iff_eq]
 rw[<-lU]
 have:((ms l).cps.extract n (n+(ms k).length)).toList=sl l n (n+k.length):=by
  rw[bP];simp[ms,sl]
 rw[this]
 exact YJ rfl
theorem Uw(l k:List Nat)(n:Nat):YK (ms l) (ms k) n=(decide (n+k.length<=l.length)&&at_ l k n):=by
 unfold YK
 have:i6 (ms l).length (n:Int)=n:=by
  unfold i6
  rw[an (by exact KQ n),KV (kT _)];rfl
 rw[this,CB,bP,bP];rfl
theorem pM{n:Nat}(h:at_ l k n=true)(hk:k≠[]):n+k.length<=l.length:=by
 have:=aI gR (eq_of_beq h)
 unfold sl at this
 replace this:=kb▸qw▸this
 exact uL (qx.mpr hk) (aJ (da this.symm) (kU _ _))
theorem pN{n:Nat}(hk:k≠[])(h:Q (.bool (at_ l k n)) σ):aM c (.val (.builtin "str.startswith")) [.str (ms l),.str (ms k),.int n] [] [] σ Q E:=aM.blt λs vs I r=>by
 refine i9 (pU r) λv1 v2 v3 j1 j2 j3 j4=>?_;subst j1;refine aP j2 λt j5=>?_;clear j2;subst j5;refine aP j3 λt2 j6=>?_;clear j3;subst j6;refine aP j4 λt3 j7=>?_;clear j4;subst j7
 refine SC.startswith3 ⟨.bool _,σ,I,rfl,TK.refl _,?_⟩
 rw[Internal.Uw]
 have:(decide (n+k.length<=l.length)&&at_ l k n)=at_ l k n:=by
  cases q:at_ l k n with
  | false=>exact sG (decide (n+k.length<=l.length))
  | true=>simp[pM q hk]
 rw[this];exact h
theorem nQ{x:af}{K:PV->List PV->AS->Prop}(h:K (.val (.builtin "str.startswith")) [.str x] σ):dF c (.str x) (ae "startswith") σ K E:=dF.str F.slot_str_startswith F.type_str_startswith h
end
end
section
theorem Chain.nodup{B:am}{v:ag}{l:List aj}(x:Chain B v l):l.Nodup:=by
 induction x with
 | nil=>exact K4
 | link _ _ _ _ h _ ih=>exact jn.mpr ⟨h,ih⟩
inductive VY(B:am)(e:aj)(l:List aj):Prop
 | mk (l':List aj) (o:ax) (vs:Array ag) (cx:ag) (el:l=e::l') (h1:B.get? e=some o) (h2:o.data = .fields vs) (h3:vs[2]?=some cx) (hn:e∉l') (hc:Chain B cx l')
theorem Chain.at{B:am}{e:aj}{l:List aj}(x:Chain B (.ref e) l):VY B e l:=by
 cases x with
 | link h1 hc h2 h3 h4 h5=>exact⟨_,_,_,_,rfl,h1,h2,h3,h4,h5⟩
theorem CY:kQ table "proto.unchain" = some cn.«proto.unchain»:=qf (by kernel_rfl)
section
variable {prog:iC}{w:aR}{A:bZ}{s:ai}
theorem Jq{id:String}{args:qg}{b:cn}{R:gU->ai->Prop}(hb:kQ table id=some b)
  (h:au (av prog w) (A.under (.builtin id args)) (b args) (λfin s'=>match fin with | .done f=>R (.ok f) s' | .again c'=>c'.quiet=true/\kh (av prog w) A c' R s') (λe s'=>R (.error e) s') s) :
  kh (av prog w) A (.builtin id args) R s:=by
 refine YL ?_
 show au _ _ (match kQ table id with | some b=>b args | none=>unsupported ((withoutEnding? id "#data").getD id)) _ _ s
 rw[hb];exact h
theorem x7{α:Type}{M:cP}{A:bZ}{E:ag->ai->Prop}{b:Bool}{x y:bf α}{Q:α->ai->Prop}(e:b=false)(h:au M A y Q E s):au M A (if b=true then x else y) Q E s:=by subst e;exact h
theorem Oi{v:aj}{R:gU->ai->Prop}(hR:R (.ok (.ret .none)) s):∀(l:List aj) (o sl:aj) (L pre:List aj) (tg:Bool),Chain s.heap (.ref o) (o::l)->Chain s.heap (.ref sl) L->L=pre++o::l->v∉o::l->
  kh (av prog w) A (.builtin "proto.unchain" ⟨[.ref v,.ref o,.ref sl,.bool tg],[]⟩) R s:=by
 intro l
 induction l with
 | nil=>
  intro o sl L pre tg h1 h2 hL hv
  cases h1.at with | mk l' ob vs cx e ho hd hx hn hc=>
  cases e
  cases hc
  refine Jq CY ?_
  show au _ _ (field (.ref o) 2 >>= _) _ _ s
  refine ah (fV ho hd hx ?_)
  show au _ _ (if(fJ==fJ)=true then ret .none else _) _ _ s
  rw[aA (by decide)]
  exact aE hR
 | cons o2 l2 ih=>
  intro o sl L pre tg h1 h2 hL hv
  cases h1.at with | mk l' ob vs cx e ho hd hx hn hc=>
  cases e
  have hcx:cx = .ref o2:=by cases hc;rfl
  subst hcx
  refine Jq CY ?_
  show au _ _ (field (.ref o) 2 >>= _) _ _ s
  refine ah (fV ho hd hx ?_)
  have e2:(dz o2==dz v)=false:=by
   have:o2≠v:=λq=>hv (by rw[<-q];exact .tail _ (.head _))
   simp[this]
  have hne:o2≠sl:=by
   rintro rfl
   cases h2.at with | mk L' _ _ _ eL=>
   have nd:=h2.nodup
   rw[hL] at nd eL
   cases pre with
   | nil=>cases eL;exact hn (.head _)
   | cons p pr=>
    cases eL
    exact(jn.mp nd).1 (jp.mpr (.inr (.tail _ (.head _))))
  refine x7 (by exact BEq.symm_false rfl) (x7 e2 (x7 (by simp[hne]) ?_))
  have hv':v∉o2::l2:=λq=>hv (.tail _ q)
  cases tg with
  | false=>
   show au _ _ (do let slow <-(pure (.ref sl):bf ag);again (.builtin "proto.unchain" ⟨[.ref v,.ref o2,slow,.bool true],[]⟩)) _ _ s
   refine ah (aE (aE ⟨wH _ (by decide +kernel),?_⟩))
   exact ih o2 sl L (pre++[o]) true hc h2 (by rw[hL];exact Bf pre o (o2::l2)) hv'
  | true=>
   cases h2.at with | mk L' ob' vs' cx' eL ho' hd' hx' hn' hc'=>
   show au _ _ (do let slow <-field (.ref sl) 2;again (.builtin "proto.unchain" ⟨[.ref v,.ref o2,slow,.bool false],[]⟩)) _ _ s
   refine ah (fV ho' hd' hx' (aE ?_))
   cases pre with
   | nil=>
    replace eL:=hL▸eL
    cases eL
    have:cx' = .ref o2:=by cases hc';rfl
    subst this
    exact⟨wH _ (by decide +kernel),ih o2 o2 _ [] false hc hc rfl hv'⟩
   | cons p pr=>
    replace eL:=hL▸eL
    cases eL
    obtain ⟨a,r,hr⟩:∃a r,pr++o::o2::l2=a::r:=by cases pr <;> exact(jW _ _ rfl)
    have hc':Chain s.heap cx' (pr++o::o2::l2):=hc'
    have hca:=hc'
    replace hca:=hr▸hca
    have hcx:cx' = .ref a:=by cases hca;rfl
    subst hcx
    exact⟨wH _ (by decide +kernel),ih o2 a _ (pr++[o]) false hc hc' (by exact Bf pr o (o2::l2)) hv'⟩
end
end
section
inductive gC(b:am)(C:aj):Prop
 | mk (nm q:af) (N:aj) (bs bm:List ag) (hdct:Bool) (sn:List af) (sub:List ag) (ab:Bool) (col:Option Bool) (dd:Option aj) (k0 k1 k2 k3 k5:Option ag) (newId:String) (h1:b.get? C=some (K5 nm q C N bs bm hdct sn sub ab col dd k0 k1 k2 k3 k5 newId)) (h2:bm.contains (.type "BaseException")=true)
theorem gC.keep{b b':am}{C:aj}(h:gC b C)(k:∀o,b.get? C=some o->b'.get? C=some o):gC b' C:=match h with
 | .mk _ _ _ _ _ _ _ _ _ _ _ _ _ _ _ _ _ h1 h2=>.mk _ _ _ _ _ _ _ _ _ _ _ _ _ _ _ _ _ (k _ h1) h2
theorem gC.none{b:am}{C:aj}(h:gC b C):b.get? C≠fW:=match h with
 | .mk _ _ _ _ _ _ _ _ _ _ _ _ _ _ _ _ _ h1 _=>λe=>by exact bI (e▸h1)
section
variable {M:cP}{A:bZ}{E:ag->ai->Prop}
theorem G5{h:am}{g:Array de}{d:Drawn}{t:Nat}{os:AW}{C e:aj}{fs:Array ag}{msg:String}{Q:ag->ai->Prop}(hC:gC h C)(he:h.get? e=some {cls:=.ref C,data:=.fields fs})(hq:Q (.ref e) ⟨h,g,d,t,os⟩) :
  au M A (excFromValue (.ref e) msg) Q E ⟨h,g,d,t,os⟩:=by
 obtain ⟨nm,q,N,bs,bm,hdct,sn,sub,ab,col,dd,k0,k1,k2,k3,k5,newId,hC,hbase⟩:=hC
 unfold excFromValue
 repeat (first | exact hq | with_reducible refine Bg he ?_ | with_reducible refine Bg hC ?_ | (with_reducible refine YM hC ?_;rw[(by rw[wI,hbase,YN]:(dz C::bm).contains (.type "BaseException")=true)]) | wp_step)
theorem MT{α:Type}{h:am}{g:Array de}{d:Drawn}{t:Nat}{os:AW}{C e:aj}{fs:Array ag}{Q:α->ai->Prop}{k:ag->bf α}{y:bf α}(hC:gC h C)(he:h.get? e=some {cls:=.ref C,data:=.fields fs})(hq:au M A (k (.ref e)) Q E ⟨h,g,d,t,os⟩) :
  au M A (Bh (.ref e) >>= λl=>if l=true then y else K6 (.ref e) >>= k) Q E ⟨h,g,d,t,os⟩:=by
 obtain ⟨nm,q,N,bs,bm,hdct,sn,sub,ab,col,dd,k0,k1,k2,k3,k5,newId,hC,hbase⟩:=hC
 unfold K6
 repeat (first | exact hq | with_reducible refine Bg he ?_ | with_reducible refine Bg hC ?_ | (with_reducible refine YM hC ?_;rw[(by rw[wI,hbase,YN])]) | wp_step)
end
section
variable {c:FC}{σ:AS}{E:aG->AS->Prop}{C:aj}
theorem Dw{x:aG}{e t:aj}{aV s:ai}{fs:Array ag}{α:Type}{Q:α->ai->Prop}(K:c.Ok)(H:f8 c)(hn:fQ c e)(hx:x.cls≠.none)(hb:c.b0.get? e=none)(I:In c σ aV)
  (hs:s.gens=aV.gens/\s.os=aV.os/\aV.toks<=s.toks) (sb:cW e aV.heap s.heap) (Mp:∃o vs,aV.heap.get? e=some o/\o.data = .fields vs/\vs.size=6/\vs[1]?=some .none) (he:s.heap.get? e=some {cls:=x.cls,data:=.fields fs})
  (h0:fs[0]?=some (.ref t)) (h1:fs[1]?=some .none) (h2:fs[2]?=some .none) (ha:jG aV.heap (.ref t) x.args) (h:E x σ):au (av aF c.w) c.A (sZ (.ref e):bf α) Q (EPost c E) s:=by
 refine lH Mp λo0 v0 e0 d0 z0 n0=>?_;clear Mp
 have F:=I.frames K
 have nofr:∀b,b∈(c.env::c.outer).filterMap (·.frame)->b≠e:=λb hb z=>by
  obtain ⟨_,o,q,n⟩:=F.mem hb
  replace q:=e0▸z▸q;refine(λj0=>?_) (bj q);clear q;subst j0;exact n _ d0
 have nb:∀b o vs,c.base.get? b=some o->¬c.D b->jR o vs->o.data = .fields vs->b≠e:=λb o vs q d hcn hdd z=>by
  rcases hn o (z▸q) with w | ⟨vs',w,n⟩
  .exact d (z▸w)
  .replace w:=hdd▸w;cases w;exact n hcn
 generalize hB:jz aV.heap (e::(c.env::c.outer).filterMap (·.frame))=B
 have hget:∀b o,aV.heap.get? b=some o->b≠e->b∉(c.env::c.outer).filterMap (·.frame)->B.get? b=some o:=λb o q n1 n2=>hB▸lY _ q λm=>by
  rcases cB.mp m with z | z
  .exact n1 z
  .exact n2 z
 have nf:∀b o vs,aV.heap.get? b=some o->o.data = .fields vs->b∉(c.env::c.outer).filterMap (·.frame):=λb o vs q d hm=>by
  obtain ⟨_,o',e',n⟩:=F.mem hm
  replace e':=q▸e';refine(λj0=>?_) (bj e');clear e';subst j0;exact n _ d
 have R:iI c B:=by
  refine⟨λb o q=>hget b o (I.b0 b o q) (λz=>by exact bI (hb▸z▸q)) λhm=>?_,λb o vs q n hcn d=>hget b o (I.up1 b o vs q n hcn d) (nb b o vs q n hcn d) (nf b o vs (I.up1 b o vs q n hcn d) d),λy hy=>?_⟩
  .refine aN (F.mem hm) λz Z=>?_
   exact bI (z▸q)
  .rcases I.tab y hy with q | ⟨k,ok,vs,tk,q1,q2,q3,q4⟩
   .refine .inl (hget _ _ q (λz=>?_) (nf _ _ _ q rfl))
    replace q:=e0▸z▸q;refine(λj0=>?_) (bj q);clear q;subst j0;cases d0;simp at z0
   .refine .inr ⟨k,ok,vs,tk,hget _ _ q1 (λz=>?_) (nf _ _ _ q1 rfl),hget _ _ q2 (λz=>?_) (nf _ _ _ q2 q3),q3,q4⟩
    .replace q1:=e0▸z▸q1;refine(λj0=>?_) (bj q1);clear q1;subst j0;cases d0;simp at z0
    .replace q2:=e0▸z▸q2;refine(λj0=>?_) (bj q2);clear q2;subst j0;replace q3:=d0▸q3;cases q3;replace q4:=n0▸q4;cases q4
 have st:∀h',cW e aV.heap h'->B.StaysIn h':=λh' sb b o q=>by
  refine(sb.2 b λz=>?_).trans (oH _ (hB▸q))
  have:B.get? e=none:=hB▸qq _ (.head _)
  exact bI (this▸z▸q)
 have up:∀h',cW e aV.heap h'->aV.heap.UpToSlots h':=λh' sb b o q n=>⟨o.slots,(sb.2 b λz=>by replace q:=e0▸z▸q;refine(λj0=>?_) (bj q);clear q;subst j0;exact n _ d0).trans q⟩
 have fin:∀(h':am) (fs':Array ag) (cx:ag),cW e aV.heap h'->h'.get? e=some {cls:=x.cls,data:=.fields fs'}->fs'[0]?=some (.ref t)->fs'[1]?=some .none->fs'[2]?=some cx->(∃l,Chain B cx l)->EPost c E (.ref e) {s with heap:=h'}:=by
  intro h' fs' cx sb q q0 q1 q2 hc
  have I':In c σ {aV with heap:=h'}:=I.tP R (st h' sb) (up h' sb) λb o q n Z Z=>(sb.2 b λz=>by replace q:=e0▸z▸q;refine(λj0=>?_) (bj q);clear q;subst j0;exact n _ d0).trans q
  refine⟨e,x,σ,rfl,(I'.grow (λZ Z z=>z) (ho:=hs.2.1) (hg:=hs.1) (ht:=hs.2.2)),⟨B,.ref t,cx,R,st h' sb,hB▸qq _ (.head _),?_,ha.up (up h' sb),⟨hx,hc⟩,.inl ⟨_,fs',q,rfl,rfl,q0,q1,q2⟩⟩,h⟩
  refine(funFrames_hide (as:=e::(c.env::c.outer).filterMap (·.frame)) F λenv he a ha=>.tail _ (qm.mpr (aw env he ha))).of_keeps (λb o q n=>?_) |> (hB▸·)
  refine aP (up h' sb b o q n) λsl w=>?_
  exact(aw _ w rfl)
 unfold sZ
 refine ah (wpAny_handled ?_)
 rcases H with H | ⟨hd,H,l,ch⟩
 .rw[H]
  exact ah (aE (KI (by simpa using fin s.heap fs .none sb he h0 h1 h2 ⟨_,.nil⟩)))
 .rw[H]
  have chB:=ch.mono (λb o vs q hcn d=>R.up1 b o vs q (K.dn b o vs q d) (.inl hcn) d)
  have hne:e∉l:=chB.fresh (hB▸qq _ (.head _))
  have chS:Chain s.heap (.ref hd) l:=chB.mono λb o vs q Z d=>st s.heap sb b o q
  cases chS.at with | mk l' _ _ _ el=>
  subst el
  have hdne:hd≠e:=λz=>hne (by rw[z];exact .head _)
  show au _ _ (if(dz hd !=dz e)=true then _ else _) _ _ _
  rw[aA (by simp[hdne])]
  refine ah (bT (wpAny_runValue (Oi (l:=l') ?_ hd hd (hd::l') [] false chS chS rfl hne)))
  have hz:2<fs.size:=(ql.mp h2).1
  refine ah ?_
  unfold updateField
  refine ah (s0 he ?_)
  show au _ _ (if 2<fs.size then _ else _) _ _ _
  rw[aA hz]
  refine wpAny_update he (KI ?_)
  have hd':(jy (λvs=>vs.setIfInBounds 2 (dz hd)) {cls:=x.cls,data:=.fields fs})={cls:=x.cls,data:=.fields (fs.setIfInBounds 2 (.ref hd))}:=rfl
  have hg:=iZ (h:=s.heap) (jy (λvs=>vs.setIfInBounds 2 (dz hd))) he rfl
  replace hg:=hd'▸hg
  refine fin _ _ (.ref hd) (sb.trans (j_ ..)) hg ?_ ?_ ?_ ⟨_,chB⟩
  .rw[vG (by decide)];exact h0
  .rw[vG (by decide)];exact h1
  .simp[hz]
theorem Fh{Q:i5->ai->Prop}{cause:Option (bf ag)}{env:bB}{ev:bf ag}{ay:ai}(K:c.Ok)(H:f8 c)(hC:gC c.b0 C)(hcause:cause=none\/∃ct,cause=some ct/\∀(s:ai) (Q:ag->ai->Prop),Q .none s->au (av aF c.w) c.A ct Q (EPost c E) s)
  (hev:au (av aF c.w) c.A ev (λv s=>∃x σ',In c σ' s/\fD c s.heap x v/\x.cls = .ref C/\E x σ') (EPost c E) ay):au (av aF c.w) c.A (raiseStmt env (some ev) cause) Q (EPost c E) ay:=by
 unfold raiseStmt
 refine ah (bn hev (λv s q=>?_) λZ Z y=>y)
 obtain ⟨x,σ,I,⟨e,t,rfl,he,ha,hn,hb⟩,hx,h⟩:=q
 have hC':gC s.heap C:=hC.keep λo=>I.b0 _ o
 have upd:∀{h':am},cW e s.heap h'->gC h' C:=λsb=>hC'.keep λo=>(sb.2 _ (λz=>hC.none (z▸hb):C≠e)).trans
 have he':=he
 replace he':=hx▸he'
 have tail:∀(s':ai) (fs:Array ag),s'.gens=s.gens/\s'.os=s.os/\s.toks<=s'.toks->cW e s.heap s'.heap->s'.heap.get? e=some {cls:=x.cls,data:=.fields fs}->fs[0]?=some (.ref t)->fs[1]?=some .none->fs[2]?=some .none->
   au (av aF c.w) c.A (Bh (.ref e) >>= λl=>if l=true then(holding [.ref e] (raisedFor (.ref e) (.ref e)) >>= λe'=>mU e' none >>= λZ=>sZ e') else K6 (.ref e) >>= λe'=>mU e' none >>= λZ=>sZ e') Q (EPost c E) s':=by
  intro s' fs hs sb he1 h0 h1 h2
  have he2:=he1
  replace he2:=hx▸he2
  refine MT (g:=s'.gens) (d:=s'.drawn) (t:=s'.toks) (os:=s'.os) (upd sb) he2 (ah ?_)
  unfold mU
  refine ah (fV he2 rfl h1 ?_)
  rw[an (by decide)]
  exact aE (Dw K H hn (by rw[hx];exact λq=>by cases q) hb I hs sb (fi _ _ he rfl rfl rfl) he1 h0 h1 h2 ha h)
 rcases hcause with rfl | ⟨ct,rfl,hct⟩
 .refine ah (aE ?_)
  refine ah (bT (G5 hC' he' ?_))
  exact tail s _ ⟨rfl,rfl,bk _⟩ (oA ..) he rfl rfl rfl
 .refine ah (bT (hct _ _ (ah (aE ?_))))
  refine ah (bT (G5 hC' he' ?_))
  dsimp only
  rw[aA (by decide)]
  refine ah (aE (ah (sQ he rfl (by show 3<6;decide) (ah ?_))))
  have g1:=iZ (h:=s.heap) (jy (λvs=>vs.setIfInBounds 3 fJ)) he rfl
  refine sQ g1 rfl (by show 4<6;decide) ?_
  have g2:=iZ (jy (λvs=>vs.setIfInBounds 4 (wE true))) g1 rfl
  exact tail {s with heap:=_} #[.ref t,.none,.none,.none,.bool true,.none] ⟨rfl,rfl,bk _⟩ ((j_ ..).trans (j_ ..)) g2 rfl rfl rfl
end
end
section
structure Rb(c c':FC):Prop where
 ok:c'.Ok
 env:c'.env=c.env
 w:c'.w=c.w
 b0:c'.b0=c.b0
 A:c'.A=c.A
 os:c'.os=c.os
 tb:c'.tb=c.tb
 gens:c'.gens=c.gens
 T:c'.T=c.T
 fP:f8 c->f8 c'
theorem Rb.pl{c c':FC}{ev:bB}{w:aR}{b:am}{n:Nat}(P:Pl c ev w b n)(C:Rb c c'):Pl c' ev w b n:=
 ⟨C.ok,C.env.trans P.env,C.w.trans P.w,C.b0.trans P.b0,by rw[C.A];exact P.room,C.fP P.fP,C.tb.trans P.tb⟩
def FnAt(c:FC)(fa:aj)(fd:kg):Prop:=∀σ s,In c σ s->∃o,s.heap.get? fa=some o/\o.data = .func fd/\s.heap.CodeRec fd.code fd.qualname
section
variable {c:FC}{σ:AS}{s:ai}{E:aG->AS->Prop}
theorem Vi(K:c.Ok)(I:In c σ s):Rb c (c.rebase σ s):=
 ⟨K.rebase I,rfl,rfl,rfl,rfl,rfl,rfl,rfl,rfl,λh=>h.elim .inl λ⟨e,h1,l,ch⟩=>.inr ⟨e,h1,l,ch.mono λb o vs q hcn d=>nE I (I.up1 b o vs q (K.dn b o vs q d) (.inl hcn) d) d⟩⟩
theorem In.tabs{h':am}{tk:Nat}{x:gJ}(K:c.Ok)(I:In c σ s)(hx:x∈c.tb)(k:s7 x.t s.heap h')(ht:mr c.tb h')(htk:s.toks<=tk):In c σ {s with heap:=h',toks:=tk}:=by
 have hp:∃o vs,s.heap.get? x.t=some o/\o.data = .fields vs/\¬jR o vs:=by
  rcases I.tab x hx with q | ⟨_,_,_,_,q,_⟩
  .exact(eV _ _ q rfl (by rintro (h | ⟨a,b,h⟩);exact h rfl;simp at h))
  .exact(eV _ _ q rfl (by rintro (h | ⟨a,b,h⟩);exact h rfl;simp[bW] at h))
 refine bM hp λop vp ep dp cp=>?_;clear hp
 have nf:∀b o,s.heap.get? b=some o->(∀vs,o.data≠.fields vs)->b≠x.t:=λb o q n z=>by replace q:=ep▸z▸q;refine(λj0=>?_) (bj q);clear q;subst j0;exact n _ dp
 have nc:∀b o vs,s.heap.get? b=some o->o.data = .fields vs->jR o vs->b≠x.t:=λb o vs q d n z=>by replace q:=ep▸z▸q;refine(λj0=>?_) (bj q);clear q;subst j0;replace d:=dp▸d;cases d;exact cp n
 obtain ⟨mm,⟨⟨m,⟨ol,es,ek,eL,dL,rL⟩,hmm⟩,hc⟩,hr⟩:=I.ns
 have tk':TK s.heap h':=λb o vs n e hc hd=>(bh o (k b o (nf b o e λws q=>by replace q:=hd▸q;cases q) e) hc hd)
 refine⟨λb o e=>k b o (λz=>?_) (I.b0 b o e),I.fr.of_keeps λb o e n=>(aw o (k b o (nf b o e n) e) rfl),λb o vs e h1 hcn h2=>?_,λb o e h1 h2=>?_,(aw mm ⟨(aw m (ly ol es ek (k _ _ (nf _ _ eL λws q=>by replace q:=dL▸q;cases q) eL) dL rL) hmm),λy a hy=>?_⟩ (λy=>(hr y).tk tk')),λa ao ha=>?_,I.L0,I.L1,I.Lo,ht,I.os,I.gens,I.nd,aJ I.tk htk,I.pL λb o e n Z Z Z=>k b o (nf b o e n) e⟩
 .exact bI ((K.t0 x hx)▸z▸e)
 .have q:=I.up1 b o vs e h1 hcn h2
  exact k b o (nc b o vs q h2 hcn) q
 .refine aP (I.cq b o e h1 h2) λsl q=>?_
  exact⟨sl,k b _ (nf b _ q h2) q⟩
 .refine aC (hc y a hy) λoc ec dc=>?_
  exact(aw oc (k _ _ (nf _ _ ec λws q=>by replace q:=dc▸q;cases q) ec) dc)
 .refine aN (I.st a ao ha) λr h1=>?_
  refine br r.there λo e n Z=>?_
  exact⟨r.tk tk' λo' e' n'=>⟨o'.slots,k _ _ (nf _ _ e' n') e'⟩,h1⟩
theorem GO{h h':am}{x:gJ}{tb:List gJ}(T:mr tb h)(k:s7 x.t h h')(hx:uj h' x)(hn:∀y∈tb,y.t=x.t->y=x)(hnc:∀o vs tk q,h.get? x.t=some o->o.data = .fields vs->vs[1]?≠some (.str q tk)):mr tb h':=by
 intro y hy
 by_cases e:y.t=x.t
 .rw[hn y hy e];exact hx
 .rcases T y hy with q | ⟨k1,ok,vs,tk,q1,q2,q3,q4⟩
  .exact .inl (k _ _ e q)
  .refine .inr ⟨k1,ok,vs,tk,k _ _ e q1,k _ _ (λz=>?_) q2,q3,q4⟩
   replace q2:=z▸q2
   exact hnc ok vs tk y.q q2 q3 q4
theorem EK{h:am}{x:gJ}(T:uj h x):∀o vs tk q,h.get? x.t=some o->o.data = .fields vs->vs[1]?≠some (.str q tk):=by
 intro o vs tk q e d z
 rcases T with w | ⟨_,_,_,_,w,_⟩
 .replace w:=e▸w;refine(λj0=>?_) (bj w);clear w;subst j0;cases d;simp at z
 .replace w:=e▸w;refine(λj0=>?_) (bj w);clear w;subst j0;cases d;simp[bW] at z
theorem SN{τ:AS}{Q:bO->AS->Prop}{f:i5}{s':ai}(K:c.Ok)(I:In c σ s)(h:jN (c.rebase σ s) Q f s'):jN c Q f s':=
 let ⟨x,σ',I',r,q⟩:=h;⟨x,σ',I.eB K I',RF.eB K I r,q⟩
theorem yP(x:gJ)(p:aT)(k:aj)(h1:x.line=p.line)(h2:x.col=p.col):s8 p (#[bW x.line,bW x.col,dz k]:Array ag).toList=some (.ref k):=by
 show(if x.line==(p.line:Int)&&x.col==(p.col:Int) then _ else _)=_
 rw[h1,h2];simp
set_option backward.match.sparseCases true in
theorem XS.def{name:af}{params:Kl}{body:List bA}{scope:dA}{pos:aT}{rest:List bA}{N:AS->Prop}{Q:bO->AS->Prop}{ev:bB}{w:aR}{b:am}{n i:Nat}{cc:aj}{x:gJ}{ns:List af}{mg:af->Option ag}
  (P:Pl c ev w b n) (l:Lo ev ns name i) (hcode:ev.code = .ref cc) (C:mW b cc x.t) (hx:x∈c.tb) (hn:∀y∈c.tb,y.t=x.t->y=x) (h1:x.line=pos.line) (h2:x.col=pos.col) (hq:K7 ev name name=x.q)
  (hmg:b.Ns eK mg) (hbl:b.BuiltinsAt mg x.t) (hcl:∀e,l5 scope e=pure []) (hd:params.defaults=[]) (hk:params.kw_defaults=[]) (ha:∀e,annTrees params none e=[])
  (h:∀c' fa cv doc ctv,Rb c c'->FnAt c' fa (s9 name x.q params (.stmts body) scope [] .none doc ((mg "__name__").getD .none) cv ctv)->
   vj name (.val (.ref fa)) (λaq=>XS c' rest aq N Q E) σ):XS c (.FunctionDef name params body [] none [] scope none name pos::rest) σ N Q E:=λs I=>by
 obtain ⟨K,rfl,_,rfl,_,_,_⟩:=P
 refine wn ?_
 rw[exec_def]
 refine ah (d9 (ah (bT ?_)))
 rw[defaultsOf_eq,hd,hk,ha]
 refine ah (aE (ah (bT (aE (bT (ah (aE ?_)))))))
 rw[makeFunction_eq]
 simp only[List.zip_nil_right,JX,YC,if_true,pure_bind]
 rw[hq]
 have hPt:eK≠x.t:=by
  rintro z
  refine dU hmg λo Z Z e Z=>?_;clear hmg
  exact bI ((K.t0 x hx)▸z▸e)
 have Cs:mW s.heap cc x.t:=C.keeps I.b0
 have hbs:s.heap.BuiltinsAt mg x.t:=by
  refine Db hbl λbm o g1 g2 g3 g4 g5 g6=>?_;clear hbl
  exact(En bm o g1 g2 g3 g4 (I.b0 _ _ g5) g6)
 have fin:∀(h':am) (tk:Nat) (fa:aj) (cv doc ctv:ag),In c σ {s with heap:=h',toks:=tk}->(∃o,h'.get? fa=some o/\o.data = .func (s9 name x.q params (.stmts body) scope [] .none doc ((mg "__name__").getD .none) cv ctv))->
   h'.CodeRec cv x.q->(∀ao,(fa,ao)∉σ.st)->
   au (av aF c.w) c.A (do iF pos;Bi c.env name (.ref fa);pure AK) (λf s'=>match f with | .next=>au (av aF c.w) c.A (jt rest c.env) (jN c (Fin N Q)) (EPost c E) s' | f=>jN c (Fin N Q) f s') (EPost c E) {s with heap:=h',toks:=tk}:=by
  intro h' tk fa cv doc ctv I' ⟨o,eo,ed⟩ ⟨k,ok,vs,t,ek,e1,e3,e4⟩ hnt
  generalize hs':({s with heap:=h',toks:=tk}:ai)=s' at I' |-
  have eh:s'.heap=h':=by rw[<-hs']
  have RB:=Vi K I'
  have hfa:(c.rebase σ s').base.get? fa=some o:=lY _ (by rw[eh];exact eo) λhm=>by
   obtain ⟨mm,⟨⟨m,⟨ol,es,ep,eL,dL,_⟩,_⟩,hc⟩,_⟩:=I'.ns
   replace eL:=eh▸eL
   rcases uh hm with q | ⟨y,q⟩
   .replace eo:=eL▸q▸eo;refine(λj0=>?_) (bj eo);clear eo;subst j0;replace ed:=dL▸ed;cases ed
   .refine aC (hc y fa q) λoc ec dc=>?_
    replace ec:=eo▸eh▸ec;refine(λj0=>?_) (bj ec);clear ec;subst j0;replace dc:=ed▸dc;cases dc
  have hka:(c.rebase σ s').base.get? k=some ok:=nE I' (by rw[eh];exact e1) e3
  have FA:FnAt (c.rebase σ s') fa (s9 name x.q params (.stmts body) scope [] .none doc ((mg "__name__").getD .none) cv ctv):=λτ s'' J=>by
   refine aP (J.cq fa o hfa (λ⟨ao,z⟩=>hnt ao z) λws z=>by replace z:=ed▸z;cases z) λsl q=>?_
   exact(bh _ q ed ⟨k,ok,vs,t,ek,(J.up1 k ok vs hka (K.rebase I' |>.dn k ok vs hka e3) (.inr (jW _ _ e4)) e3),e3,e4⟩)
  refine ah (d9 (ah (wpAny_bindName ?_)))
  refine bn (nk (c:=c.rebase σ s') (Q:=λZ aq=>XS (c.rebase σ s') rest aq N Q E) (E:=E) (aV:=s') (K.rebase I') l.ok (I'.rebase K) (v:=.ref fa) (pv:=.val (.ref fa)) rfl (TK.refl _) (h _ fa cv doc ctv RB FA).ok) (λZ bc ⟨_,a8,J,_,_,q⟩=>?_) λZ Z y=>EPost.eB K I' y
  refine aE ?_
  exact bn (q bc J) (λf bg y=>SN (τ:=σ) K I' y) λZ Z y=>EPost.eB K I' y
 have fr:∀(h':am),(∀b o,b≠x.t->s.heap.get? b=some o->h'.get? b=some o)->∀ao,(h'.objs.size,ao)∉σ.st:=λh' hk ao hm=>by
  refine br ((I.st _ ao hm).1.there) λo e n Z=>?_
  have ne:h'.objs.size≠x.t:=by
   rintro z
   replace e:=z▸e
   rcases I.tab x hx with q | ⟨_,_,_,_,q,_⟩ <;> (replace q:=e▸q;refine(λj0=>?_) (bj q);clear q;subst j0;exact n _ rfl)
  exact absurd (dR (hk _ o ne e)) (lN _)
 rcases I.tab x hx with q | ⟨k,ok,vs,tk,q1,q2,q3,q4⟩
 .refine ii (bk _) (kdv_makeTail (hcl _) K.glob (hmg.keeps I.b0) hcode Cs q trivial rfl hPt hbs λc' ctv doc h' tk hx' hge hlt hrec hP' htk=>?_)
  have kp:s7 x.t s.heap (h'.push (Bj name x.q params (.stmts body) scope [] .none doc ((mg "__name__").getD .none) c' ctv)):=λb o hb e=>dy _ (hx' b o hb e)
  have hrec':=hrec.push (Bj name x.q params (.stmts body) scope [] .none doc ((mg "__name__").getD .none) c' ctv)
  refine Dv (id hrec') λk0 ok vs t ek e1 e3 e4=>?_
  cases ek
  have T1:uj (h'.push (Bj name x.q params (.stmts body) scope [] .none doc ((mg "__name__").getD .none) c' ctv)) x:=.inr ⟨c',ok,vs,t,by
   have:=dy (Bj name x.q params (.stmts body) scope [] .none doc ((mg "__name__").getD .none) c' ctv) hP'
   rw[this,h1,h2];rfl,e1,e3,e4⟩
  exact fin _ tk _ (.ref c') doc ctv (In.tabs K I hx kp (GO I.tab kp T1 hn (EK (I.tab x hx))) htk) (aw _ (cH _ rfl) rfl) hrec' (fr h' hx')
 .refine ii (bk _) (kdv_makeTailHit (hcl _) K.glob (hmg.keeps I.b0) hcode Cs q1 trivial (yP x pos k h1 h2) hbs λctv doc h' tk hk' hsz htk=>?_)
  have kp:∀b o,s.heap.get? b=some o->(h'.push {cls:=.type "function",data:=.func (s9 name x.q params (.stmts body) scope [] .none doc ((mg "__name__").getD .none) (.ref k) ctv)}).get? b=some o:=λb o e=>dy _ (hk' b o e)
  exact fin _ tk _ (.ref k) doc ctv (I.grow kp (ht:=htk)) (aw _ (cH _ rfl) rfl) (tI k ok vs _ rfl (kp _ _ q2) q3 q4) (fr h' λb o Z e=>hk' b o e)
end
end
section
open Builtin Builtin.Str
theorem rK(l:List Nat)(k i:Nat):subAt (ms l) (ms [k]) i=decide (l[i]?=some k):=by
 rw[K8]
 show((YO i l).take 1==[k])=_
 cases h:l[i]? with
 | none=>rw[sX (by simpa using h)];exact Bool.beq_eq_decide_eq (YP 1 []) [k]
 | some a=>
  refine aP (dY.mp h) λhi hx=>?_
  rw[oO hi,hx]
  simp only[YQ,YR,Yn]
  rw[qe];simp
theorem vl{α β:Type}(f:α->β->Id (ForInStep β)):∀(a b:List α) (x:β),(∀i y,∃z,f i y=pure (.yield z))->forIn (a++b) x f=forIn a x f >>= λy=>forIn b y f
 | [],b,x,h=>by exact bR (Id.ext rfl)
 | i::a,b,x,h=>by
  rw[K9,i3,i3]
  refine aP (h i x) λz hz=>?_
  rw[hz,pure_bind,pure_bind]
  exact vl f a b z h
theorem Em(l:List Nat)(k lim:Nat)(h:Nat)(hh:h<=l.length)(hl:l.length<lim):(occurrences (ms l) (ms [k]) 0 h lim).length=(l.take h).count k:=by
 rw[YS]
 have key:∀n,n<=h+1->∃arr fr,(forIn (kj 0 n) ((#[]:Array Nat),0) (oP (ms l) (ms [k]) h lim)).run=(arr,fr)/\arr.size=(l.take (min n h)).count k/\fr<=n:=by
  intro n
  induction n with
  | zero=>intro Z;exact(eV (#[]) 0 rfl (by exact JU rfl) (bk _))
  | succ n ih=>
   intro hn
   refine bM (ih (by exact qy ‹_›)) λarr fr e hs hf=>?_
   rw[(by rw[K'];simp:kj 0 (n+1)=kj 0 n++[n]),vl _ _ _ _ (λi y=>by unfold oP;split <;> exact⟨_,rfl⟩)]
   have:(forIn (kj 0 n) ((#[]:Array Nat),0) (oP (ms l) (ms [k]) h lim))=(pure (arr,fr):Id _):=e
   rw[this,pure_bind,i3]
   unfold oP
   have hcnt:(l.take (min n h)).count k<=l.length:=aJ K_ (by simp;exact aJ (kU _ _) (kU _ _))
   by_cases hc:n+1<=h/\l[n]?=some k
   .have hc':((arr.size<lim/\fr<=n)/\n+(ms [k]).length<=h)/\subAt (ms l) (ms [k]) n=true:=by
     refine⟨⟨⟨by lia,hf⟩,?_⟩,by rw[rK];exact decide_eq_true hc.2⟩
     rw[bP];exact hc.1
    rw[aA hc']
    refine(eV (arr.push n) (n+1) (by exact Bl rfl rfl) ?_ (bk _))
    rw[sM,hs,gS (by exact mX ‹_›),gS hc.1,wJ,hc.2]
    simp
   .have hc':¬(((arr.size<lim/\fr<=n)/\n+(ms [k]).length<=h)/\subAt (ms l) (ms [k]) n=true):=by
     intro j1;refine aN j1 λj2 h3=>?_;clear j1;refine aN j2 λZ h2=>?_;clear j2
     replace h3:=(rK ..)▸h3
     replace h2:=(bP ..)▸h2
     exact hc ⟨h2,of_decide_eq_true h3⟩
    rw[an hc']
    refine(eV arr fr (by exact Bl rfl rfl) ?_ (kV hf))
    rw[hs]
    by_cases hnh:n+1<=h
    .rw[gS (by exact mX ‹_›),gS hnh,wJ]
     cases hg:l[n]? with
     | none=>simp
     | some a=>
      have:a≠k:=λq=>hc ⟨hnh,by rw[hg,q]⟩
      simp[YT,YU,this]
    .rw[ke (by lia),ke (by exact YV ‹_›)]
 refine bM (key (h+1) (bk _)) λarr fr e hs Z=>?_
 rw[lT,e]
 show arr.size=_
 rw[hs,ke (by exact dX _ _)]
noncomputable def d8(l:List Nat)(k:Nat):Nat->Option Nat
 | 0=>none
 | h+1=>if l[h]?=some k then some h else d8 l k h
theorem S9(l:List Nat)(k h:Nat)(hh:h<=l.length):lastOccurrence (ms l) (ms [k]) 0 h=d8 l k h:=by
 rw[StrLaws.last_eq]
 have key:∀n,n<=h+1->(forIn (kj 0 n) (none:Option Nat) (Bm (ms l) (ms [k]) h)).run=d8 l k (min n h):=by
  intro n
  induction n with
  | zero=>intro Z;exact(wv λx y a=>a).mp rfl
  | succ n ih=>
   intro hn
   rw[(by rw[K'];simp:kj 0 (n+1)=kj 0 n++[n]),vl _ _ _ _ (λi y=>by unfold Bm;split <;> exact⟨_,rfl⟩)]
   have:(forIn (kj 0 n) (none:Option Nat) (Bm (ms l) (ms [k]) h))=(pure (d8 l k (min n h)):Id _):=ih (by exact qy ‹_›)
   rw[this,pure_bind,i3]
   unfold Bm
   rw[rK,bP]
   by_cases hnh:n+1<=h
   .rw[gS (show n<=h by exact mX ‹_›),gS hnh]
    show _=if l[n]?=some k then some n else d8 l k n
    by_cases hg:l[n]?=some k
    .rw[aA ⟨hnh,decide_eq_true hg⟩,aA hg];exact wK.mp rfl
    .rw[an (λq=>hg (of_decide_eq_true q.2)),an hg];exact(wv λx y a=>a).mp rfl
   .rw[an (λq=>hnh q.1),ke (by lia),ke (by exact YV ‹_›)];exact(wv λx y a=>a).mp rfl
 rw[lT,key (h+1) (bk _),ke (by exact dX _ _)]
theorem tK(l:List Nat)(k:Nat):∀h,(l.take h).count k≠0->∃i,d8 l k h=some i/\i<h
 | 0,q=>absurd (by exact List.count_eq_zero.mpr λa=>q rfl) q
 | h+1,q=>by
  unfold d8
  by_cases hg:l[h]?=some k
  .rw[aA hg];exact(aw h rfl (dm _))
  .rw[an hg]
   have:(l.take h).count k≠0:=by
    replace q:=wJ▸q
    cases hg':l[h]? with
    | none=>replace q:=hg'▸q;simpa using q
    | some a=>
     have:a≠k:=λz=>hg (by rw[hg',z])
     replace q:=hg'▸q
     simpa[YT,YU,this] using q
   refine aC (tK l k h this) λi e hi=>?_
   exact(aw i e (ow hi))
end
section
open Builtin Builtin.Str Builtin.Int
theorem Uc(x y:af)(i j:Int)(t u v w:bY):wL («str.count» ⟨[.str x t,.str y u,.int i v,.int j w],[]⟩) (.int (occurrences x y (i6 x.length i) (min (i6 x.length j) x.length) (x.length+1)).length):=by
 show wL (retInt (occurrences x y (i6 x.length i) (min (i6 x.length j) x.length) (x.length+1)).length) _
 exact .of_eq rfl
theorem NW(x y:af)(i j:Int)(t u v w:bY)(k:Nat)(h:lastOccurrence x y (i6 x.length i) (min (i6 x.length j) x.length)=some k):wL («str.rindex» ⟨[.str x t,.str y u,.int i v,.int j w],[]⟩) (.int k):=by
 show wL (match lastOccurrence x y (i6 x.length i) (min (i6 x.length j) x.length) with | some i=>retInt i | none=>_) _
 rw[h]
 exact .of_eq rfl
theorem ut(n m:Nat):i6 n (m:Int)=m:=by
 unfold i6
 rw[an (by exact KQ m)];exact Al m
noncomputable def fu(i:Int):List Nat:=lit (toString i)
def l9(c:FC):List aL->List Nat->AS->(List Nat->AS->Prop)->(aG->AS->Prop)->Prop
 | [],acc,σ,Q,_=>acc.length<=bN/\Q acc σ
 | e::r,acc,σ,Q,E=>Ev c e σ (λv aq=>∃l,v = .str (ms l)/\acc.length+l.length<=bN/\l9 c r (acc++l) aq Q E) E
section
variable {c:FC}{σ:AS}{E:aG->AS->Prop}{Q:PV->AS->Prop}{l k:List Nat}
set_option backward.match.sparseCases true in
theorem l9.ok{Q:PV->AS->Prop}:∀(es:List aL) (acc:List Nat) (σ:AS),l9 c es acc σ (λl σ=>Q (.str (ms l)) σ) E->∀s aV,In c σ s->TK aV.heap s.heap->
  au (av aF c.w) c.A (joinParts (ms acc) (sU es c.env)) (cw c RV aV Q) (EPost c E) s
 | [],acc,σ,h,s,aV,I,k=>by
  show au _ _ (mkStr (ms acc)) _ _ s
  exact wpAny_mkStr ⟨.str (ms acc),σ,I.tok _,⟨_,rfl⟩,k,h.2⟩ (by rw[bP];exact h.1)
 | e::r,acc,σ,h,s,aV,I,k=>by
  show au _ _ (do
   let some s <-asStr? (<-eval e c.env) | unsupported "internal:joinedstr"
   if(ms acc).length+s.length>bN then unsupported "str:memory"
   joinParts (ms acc++s) (sU r c.env)) _ _ s
  refine ah (bn (h s I) (λv ay p=>p.elim λx aq aQ aZ k₁ qP=>?_) λZ Z y=>y)
  refine br qP λl hx hz a7=>?_;clear qP
  subst hx
  refine aP aZ λt j1=>?_;clear aZ;subst j1
  refine ah (mP (a:=some (ms l)) rfl ?_)
  dsimp only
  rw[an (by rw[bP,bP];exact wc ‹_›),k_]
  first
   | exact l9.ok r _ aq a7 ay aV aQ (k.trans k₁)
   | exact ah (aE (l9.ok r _ aq a7 ay aV aQ (k.trans k₁)))
theorem Oz{kY Cc:aL}{es:List aL}{p:aT}{Q:PV->AS->Prop}(h:l9 c (kY::Cc::es) [] σ (λl σ=>Q (.str (ms l)) σ) E):Ev c (.JoinedStr (kY::Cc::es) p) σ Q E:=λs I=>by
 rw[arm_eval_JoinedStr]
 exact l9.ok (kY::Cc::es) [] σ h s s I (TK.refl _)
theorem Ev.fmt{e:aL}{p:aT}(h:Ev c e σ (λx aq=>U1 c RV (λv=>Bn v qz) x aq Q E) E):Ev c (.FormattedValue e (-1) fW p) σ Q E:=λs I=>
 wpAny_FormattedValue_plain (bH (h s I) (λv ay x aq aQ aZ k₁ a7=>iS k₁ (a7 ay v aQ aZ)))
theorem D5(hz:l.length<=bN)(h:Q (.str (ms l)) σ):U1 c RV (λv=>Bn v qz) (.str (ms l)) σ Q E:=λs v I ⟨t,e⟩=>by
 subst e
 exact ii (bk _) (PyProof.Rows.formatField_str (λt' tk ht=>yg I h ht) (by rw[bP];exact hz))
theorem CT{i:Int}(hz:i.natAbs.log2<1920)(h:Q (.str (ms (fu i))) σ):U1 c RV (λv=>Bn v qz) (.int i) σ Q E:=λs v I ⟨t,e⟩=>by
 subst e
 exact PyProof.Rows.formatField_int_small hz ⟨.str (ms (fu i)),σ,I.tok _ (by lia),⟨_,rfl⟩,TK.refl _,h⟩
theorem dh.count{x:af}{K:PV->List PV->AS->Prop}(h:K (.val (.builtin "str.count")) [.str x] σ):dF c (.str x) (ae "count") σ K E:=dF.str YW F.type_str_count h
theorem dh.rindex{x:af}{K:PV->List PV->AS->Prop}(h:K (.val (.builtin "str.rindex")) [.str x] σ):dF c (.str x) (ae "rindex") σ K E:=dF.str YX F.type_str_rindex h
theorem M2{n:Nat}{u:Nat}(hn:n<=l.length)(h:Q (.int ((l.take n).count u:Nat)) σ):aM c (.val (.builtin "str.count")) [.str (ms l),.str (ms [u]),.int 0,.int n] [] [] σ Q E:=aM.blt λs vs I r=>by
 refine mj (CA r) λv1 v2 v3 v4 j1 j2 j3 j4 j5=>?_;subst j1;refine aP j2 λt j6=>?_;clear j2;subst j6;refine aP j3 λt2 j7=>?_;clear j3;subst j7;refine aP j4 λt3 j8=>?_;clear j4;subst j8;refine aP j5 λt4 j9=>?_;clear j5;subst j9
 refine La YW (gW _ _ _) F.entry_str_count (F.args_str_count_4 _ _ _ _) (Uc (ms l) (ms [u]) 0 n t t2 t3 t4) ?_
 have e0:i6 (ms l).length 0=0:=by
  have:=ut (ms l).length 0
  exact YY this
 rw[e0,ut,bP,gS hn,Em l u _ n hn (dm _)]
 exact⟨.int _,σ,I.tok _,⟨_,rfl⟩,TK.refl _,h⟩
theorem Vm{n:Nat}{u i:Nat}(hn:n<=l.length)(hi:d8 l u n=some i)(h:Q (.int i) σ):aM c (.val (.builtin "str.rindex")) [.str (ms l),.str (ms [u]),.int 0,.int n] [] [] σ Q E:=aM.blt λs vs I r=>by
 refine mj (CA r) λv1 v2 v3 v4 j1 j2 j3 j4 j5=>?_;subst j1;refine aP j2 λt j6=>?_;clear j2;subst j6;refine aP j3 λt2 j7=>?_;clear j3;subst j7;refine aP j4 λt3 j8=>?_;clear j4;subst j8;refine aP j5 λt4 j9=>?_;clear j5;subst j9
 have e0:i6 (ms l).length 0=0:=by
  have:=ut (ms l).length 0
  exact YY this
 refine La YX (gW _ _ _) F.entry_str_rindex (F.args_str_rindex_4 _ _ _ _) (NW (ms l) (ms [u]) 0 n t t2 t3 t4 i ?_) ?_
 .rw[e0,ut,bP,gS hn,S9 l u n hn,hi]
 .exact⟨.int _,σ,I.tok _,⟨_,rfl⟩,TK.refl _,h⟩
theorem Wk{C N:aj}{nm q:af}{bs bm:List ag}{hdct:Bool}{sn:List af}{sub:List ag}{ab:Bool}{col:Option Bool}{dd:Option aj}{k0 k1 k2 k3 k5:Option ag}{B newId initId:String}{mN:af->Option ag}{xs:List PV}{Q:aG->AS->Prop}
  (F:ExcBaseFacts B newId initId bm) (hC:c.b0.get? C=some (K5 nm q C N bs bm hdct sn sub ab col dd k0 k1 k2 k3 k5 newId)) (hn:c.b0.Ns N mN) (hni:mN "__init__" = none) (hz:xs.length<=bN)
  (h:Q ⟨.ref C,some xs⟩ σ):cL c (fD c) (.val (.ref C)) xs [] [] σ Q E:=by
 intro s fv vs kvs I rf rx rk
 obtain rfl:fv = .ref C:=rf
 have hC':=I.b0 _ _ hC
 unfold iV
 refine ah (wpAny_keeperOf_exc (h:=s.heap) (g:=s.gens) (d:=s.drawn) (t:=s.toks) (os:=s.os) hC' ?_)
 refine wpAny_call_exc_sub (h:=s.heap) (g:=s.gens) (d:=s.drawn) (t:=s.toks) (os:=s.os) F hC' (hn.keeps I.b0) hni (λh' e hm=>?_) (by rw[rx.length];exact hz)
 refine br hm.there λt he ht0 ht=>?_
 refine⟨⟨.ref C,some xs⟩,σ,(I.grow hm.keeps),⟨e,t,rfl,he,(eV t vs rfl (eV _ _ ht rfl rfl) (rx.tk (.of_keeps hm.keeps))),I.vw hm.new,?_⟩,.of_keeps hm.keeps,h⟩
 cases z:c.b0.get? e with
 | none=>rfl
 | some o=>have:=I.b0 _ _ z;exact bI (hm.new▸this)
end
end
section
noncomputable def kG(c:Nat):Nat:=if 48<=c/\c<=57 then c-48 else if 97<=c/\c<=102 then c-87 else c-55
def isHex(c:Nat):Prop:=(48<=c/\c<=57)\/(97<=c/\c<=102)\/(65<=c/\c<=70)
noncomputable def hexVal(l:List Nat):Nat:=l.foldl (λa c=>a*16+kG c) 0
open PySem.NumText
theorem WO{c:Nat}(h:isHex c):blank c=false:=by
 unfold blank
 rcases h with h | h | h <;> simp <;> lia
theorem OM{c:Nat}(h:isHex c):digit? c=some (kG c)/\kG c<16/\c≠95:=by
 rw[(rfl:digit? c=(if(decide (48<=c)&&decide (c<=57))=true then some (c-48) else if(decide (97<=c)&&decide (c<=122))=true then some (c-87) else if(decide (65<=c)&&decide (c<=90))=true then some (c-55) else none))]
 unfold kG
 rcases h with h | h | h
 .rw[aA (by simp;assumption),aA h];exact⟨rfl,by first | exact bL (oQ h.2 _) (by decide) | omega,by first | exact bL (oQ h.2 _) (by decide) | lia⟩
 .rw[an (by simp;lia),aA (by simp;lia),an (by lia),aA h];exact⟨rfl,by first | exact bL (oQ h.2 _) (by decide) | omega,by first | exact bL (oQ h.2 _) (by decide) | lia⟩
 .rw[an (by simp;lia),an (by simp;lia),aA (by simp;lia),an (by lia),an (by lia)];exact⟨rfl,by first | exact bL (oQ h.2 _) (by decide) | omega,by first | exact bL (oQ h.2 _) (by decide) | lia⟩
theorem DP:∀(l:List Nat),(∀c∈l,isHex c)->l.dropWhile blank=l
 | [],_=>rfl
 | c::r,h=>by rw[List.dropWhile_cons,WO (h c (.head _))];rfl
theorem JI:∀(l:List Nat) (acc:Array Nat) (f:Bool),(∀c∈l,isHex c)->l.foldlM (Bo 16) (acc,f)=some (acc++(l.map kG).toArray,f||!l.isEmpty)
 | [],acc,f,_=>by simp
 | c::r,acc,f,h=>by
  refine eO (OM (h c (.head _))) λh1 h2 h3=>?_
  rw[List.foldlM_cons]
  have e:Bo 16 (acc,f) c=some (acc.push (kG c),true):=by
   unfold Bo
   rw[an (by simp[h3]),h1]
   show(if kG c<16 then _ else _)=_
   rw[aA h2]
  rw[e]
  show r.foldlM (Bo 16) (acc.push (kG c),true)=_
  rw[JI r _ _ λc hc=>h c (.tail _ hc)]
  simp
set_option tactic.hygienic true in
theorem Ox(l:List Nat)(h:∀c∈l,isHex c)(hne:l≠[]):(int_private% "readNumeral") 0 16 l=(int_private% "Numeral.value") (hexVal l:Nat):=by
 have hrev:(l.reverse.dropWhile blank).reverse=l:=by
  rw[DP _ λc hc=>h c (YZ.mp hc),List.reverse_reverse]
 have nd:digits? 16 l=some (l.map kG).toArray:=by
  unfold digits?
  rw[JI l #[] false h]
  cases l with
  | nil=>exact absurd rfl hne
  | cons a r=>simp
 have hs:sign l=(false,l):=by
  cases l with
  | nil=>rfl
  | cons c0 r=>
   have h0:=h c0 (.head _)
   have e45:c0≠45:=by rcases h0 with q | q | q <;> lia
   have e43:c0≠43:=by rcases h0 with q | q | q <;> lia
   unfold sign
   split
   .rename_i q;cases q;exact absurd rfl e45
   .rename_i q;cases q;exact absurd rfl e43
   .rfl
 have hb:based 16 l=(16,false,l):=by
  unfold based
  split
  .rename_i p hp
   have:p≠16:=by
    unfold prefix? at hp
    split at hp
    .rename_i c r
     have hc:=h c (.tail _ (.head _))
     split at hp
     .rename_i q
      simp at q
      rcases hc with w | w | w <;> lia
     .split at hp
      .refine(λj0=>?_) (bj hp);clear hp;subst j0;decide
      .split at hp
       .refine(λj0=>?_) (bj hp);clear hp;subst j0;decide
       .exact bI hp
    .exact bI hp
   rw[an (by simp;exact neN (id (cV this)))]
  .rfl
 rw[readNumeral_eq,DP l h,hs]
 show judge 0 false (based 16 l).1 (based 16 l).2.1 (digits? (based 16 l).1 ((based 16 l).2.2.reverse.dropWhile blank).reverse)=_
 rw[hb]
 show judge 0 false 16 false (digits? 16 (l.reverse.dropWhile blank).reverse)=_
 rw[hrev,nd]
 unfold judge
 have:(Aw kG l).toArray.foldl (λacc d=>acc*16+d) 0=hexVal l:=by
  unfold hexVal
  rw[Y0,List.foldl_map]
 dsimp only
 rw[this]
 rfl
theorem xw(l:List Nat)(h:∀c∈l,isHex c):l.takeWhile (· !=0)=l:=by
 induction l with
 | nil=>rfl
 | cons c r ih=>
  have h0:=h c (.head _)
  have:(c !=0)=true:=by rcases h0 with q | q | q <;> simp <;> lia
  rw[wM,aA this,ih λc hc=>h c (.tail _ hc)]
theorem Mw{M:cP}{A:bZ}{E:ag->ai->Prop}{s:ai}{Q:ag->ai->Prop}{v:ag}{l:List Nat}(h:∀c∈l,isHex c)(hne:l≠[])(hz:l.length<=640)(hq:Q (.int (hexVal l:Nat) s.toks) {s with toks:=s.toks+1}) :
  au M A ((int_private% "intFromText") v l 16) Q E s:=by
 have hs:(l.takeWhile (· !=0)).length<=640:=by rw[xw l h];exact hz
 have hr:(int_private% "readNumeral") 0 16 (l.takeWhile (· !=0))=(int_private% "Numeral.value") (hexVal l:Nat):=by rw[xw l h];exact Ox l h hne
 have ha:((l.takeWhile (· !=0)).length==l.length)=true:=by rw[xw l h];exact Yr
 obtain ⟨hp,g,d,tk,os⟩:=s
 repeat (any_goals (first
  | assumption
  | (with_reducible refine oR (decide_eq_true hs) ?_)
  | (with_reducible refine oR (decide_eq_true ha) ?_)
  | wp_step))
 all_goals (try rw[hr])
 all_goals (try dsimp only)
 repeat (any_goals (first
  | assumption
  | (with_reducible refine oR (decide_eq_true hs) ?_)
  | (with_reducible refine oR (decide_eq_true ha) ?_)
  | wp_step))
theorem Vb(l:List Nat)(h:∀c∈l,isHex c):(if((ms l).cps.all (· < 128))=true then(ms l).cps.toList else Unicode.numberText (ms l).cps.toList)=l:=by
 have:(ms l).cps.all (· < 128)=true:=by
  rw[Y1]
  intro c hc
  have:=h c (by exact Y2.mp hc)
  rcases this with q | q | q <;> simp <;> exact bL ‹_/\_›.2 (by decide)
 rw[aA this]
 exact xt.mp rfl
set_option maxHeartbeats 4000000 in
theorem gives_hex{l:List Nat}{u t:bY}(h:∀c∈l,isHex c)(hne:l≠[])(hz:l.length<=640):wL (cn.«int.__new__» ⟨[.type "int",.str (ms l) u,.int 16 t],[]⟩) (.int (hexVal l:Nat)):=
 .of_wp λM A E s Q hq=>by
  obtain ⟨hp,g,d,tk,os⟩:=s
  have f1:=PySem.F.conv_sub_int
  have f2:=PySem.F.madeHere_int
  have f3:=KIN.str_int
  have f4:=KIN.str_idx
  have f5:=KIN.str_trunc
  have f6:gw (.str (ms l) u)=pure (.type "str"):=rfl
  repeat (any_goals (first
   | assumption
   | ((with_reducible show au _ _ ((int_private% "intFromText") _ _ _) _ _ _);rw[(Vb l h)];refine Mw h hne hz ?_)
   | wp_step))
  all_goals first | exact(aw _ rfl hq) | skip
theorem VZ(a b:ag):checkTypeCall "int" ⟨[a,b],[]⟩=pure ():=by kernel_rfl
theorem V3(a b:ag):Lb "int.__new__" ⟨[.type "int",a,b],[]⟩=pure ():=by kernel_rfl
section
variable {c:FC}{σ:AS}{E:aG->AS->Prop}{Q:PV->AS->Prop}{l:List Nat}
theorem SY(h:∀c∈l,isHex c)(hne:l≠[])(hz:l.length<=640)(hq:Q (.int (hexVal l:Nat)) σ):aM c (.val (.type "int")) [.str (ms l),.int 16] [] [] σ Q E:=aM.type λs vs I r=>by
 refine bM (eQ r) λv1 v2 j1 j2 j3=>?_;subst j1;refine aP j2 λt j4=>?_;clear j2;subst j4;refine aP j3 λt2 j5=>?_;clear j3;subst j5
 exact callType_new PySem.F.called_int PySem.F.newNe_int (VZ _ _) (V3 _ _) (λobj=>PySem.F.args_object_init_3 obj _ _) PySem.F.entry_int_new (gives_hex h hne hz).meets ⟨rfl,⟨.int (hexVal l:Nat),σ,I.tok _,⟨_,rfl⟩,TK.refl _,hq⟩⟩
end
end
section
namespace FS
theorem Sj:PlainAttrs "frozenset":=
 ⟨(aw ("object.__getattribute__") (by rw[Bp,Bq];kernel_rfl) (by decide +kernel)),by rw[Bp,Bq];kernel_rfl⟩
theorem yo:Slot "frozenset" "issuperset" "frozenset.issuperset":=
 .of (owner:="frozenset") (n:="issuperset") (by rw[Bp,Bq];kernel_rfl) (by decide +kernel) (by decide +kernel) (by decide +kernel)
  (by first | exact .inl (by decide +kernel) | exact .inr (by decide +kernel)) (by rw[jl];kernel_rfl)
theorem UB:gw (.builtin "frozenset.issuperset")=pure (.type "method_descriptor"):=by show builtinType _=_;rw[Y3];kernel_rfl
theorem WZ:kQ table "frozenset.issuperset" = some cn.«frozenset.issuperset»:=qf (by kernel_rfl)
theorem uB:kQ table "frozenset.issuperset.loop" = some cn.«frozenset.issuperset.loop»:=qf (by kernel_rfl)
theorem t9:plainId "frozenset.issuperset.loop" = true:=by decide +kernel
theorem Xp(a b:ag):s_ "frozenset.issuperset" ⟨[a,b],[]⟩:=by
 unfold s_;rw[signature?_of (id:="frozenset.issuperset") (n:=['t','e','s','r','e','p','u','s','s','i']) (o:=['t','e','s','n','e','z','o','r','f']) (by kernel_rfl) FB.owner_frozenset];kernel_rfl
theorem WQ(x:af)(t:bY):mQ (.str x t)=pure false:=by
 unfold mQ
 rw[(by show ka (.type "str") (.type "set")=_;rw[jl];kernel_rfl:iD (.str x t) (.type "set")=pure false),(by show ka (.type "str") (.type "frozenset")=_;rw[jl];kernel_rfl:iD (.str x t) (.type "frozenset")=pure false)];rfl
end FS
section
variable {c:FC}{σ:AS}{E:aG->AS->Prop}{Q:PV->AS->Prop}{l:List Nat}
theorem RC{w:aR}{A:bZ}{s:ai}{a:aj}{L:List af}{x:af}{t:bY}{Q:Bool->ai->Prop}{E:ag->ai->Prop}(F:bS w s.heap a L)(hb:L.length<4096)(h:Q (L.contains x) {s with toks:=s.toks+1}) :
  au (av aF w) A (Bd a (.str x t)) Q E s:=by
 refine dU F λes ep tb ho D=>?_;clear F
 have hk:(strKind aF w).is x (.str x t)=true:=hZ aF w x t
 have hm:∀k:af,L.contains k=true<->∃e∈es.toList,(strKind aF w).is k e.2=true:=λk=>by
  rw[jZ];exact D.mem k
 unfold Bd
 refine bT (ah ((strKind aF w).pyHash hk ?_))
 refine ah (setFind_any (s:={s with toks:=s.toks+1}) hk rfl ho rfl (GP D) hm (by rw[D.size];exact hb) D.fits λr hr=>aE ?_)
 rw[hr];exact h
noncomputable def f_(L:List af)(l:List Nat):Bool:=l.all λu=>L.contains (ms [u])
theorem Nd{w:aR}{A:bZ}{I a:aj}{L:List af}{St:Nat->am->Prop}{R:gU->ai->Prop}{h₀:am}{g:Array de}{d:Drawn}{os:AW}
  (W:Walks aF w A.in1 I [I] [I] l.length (SignAt (ms l)) St) (F:bS w h₀ a L) (hb:L.length<4096) (hI:h₀.get? I=none)
  (hR:∀h' tk,(∀b o,h₀.get? b=some o->h'.get? b=some o)->R (.ok (.ret (.bool (f_ L l)))) ⟨h',g,d,tk,os⟩) :
  ∀(k i:Nat) (h:am) (tk:Nat),l.length-i=k->i<=l.length->St i h->(∀b o,h₀.get? b=some o->h.get? b=some o)->f_ L (l.take i)=true->
  kh (av aF w) A (.builtin "frozenset.issuperset.loop" ⟨[.ref a,.ref I],[]⟩) R ⟨h,g,d,tk,os⟩:=by
 intro k
 induction k with
 | zero=>
  intro i h tk hk hi hst keep hall
  have:i=l.length:=by exact Y4 ‹_› (wN ‹_›)
  subst this
  refine Lc FS.uB ?_
  rw[Y5 FS.t9 _]
  show au _ A.in1 (i4 (.ref I) >>= _) _ _ _
  refine ah (W.done _ _ _ hst λh' tk' k'=>?_)
  refine aE ?_
  have:f_ L l=true:=by replace hall:=Bs▸hall;exact hall
  rw[<-this]
  exact hR h' tk' λb o e=>k' b o (λm=>by exact bI (hI▸(eX.mp m)▸e)) (keep b o e)
 | succ k ih=>
  intro i h tk hk hi hst keep hall
  have hlt:i<l.length:=by exact Au ‹_›
  refine Lc FS.uB ?_
  rw[Y5 FS.t9 _]
  show au _ A.in1 (i4 (.ref I) >>= _) _ _ _
  refine ah (W.item i _ _ _ hlt hst λv h' tk' hP hst' k'=>?_)
  have keep':∀b o,h₀.get? b=some o->h'.get? b=some o:=λb o e=>k' b o (λm=>by exact bI (hI▸(eX.mp m)▸e)) (keep b o e)
  refine gE hP λu tu hu j1=>?_;clear hP;subst j1
  replace hu:=(kA ..)▸hu
  show au _ _ (do if(<-holding [qA ⟨#[u]⟩ tu] (Bd a (qA ⟨#[u]⟩ tu)))=true then again (.builtin "frozenset.issuperset.loop" ⟨[.ref a,.ref I],[]⟩) else ret (.bool false)) _ _ _
  refine ah (bT (RC (tJ F keep') hb ?_))
  refine aP (dY.mp hu) λhn hx=>?_
  rw[(rfl:(⟨#[u]⟩:af)=ms [u])]
  cases hc:L.contains (ms [u]) with
  | true=>
   rw[aA rfl]
   refine aE ⟨plainId_quiet FS.t9 _,ih (i+1) h' (tk'+1) (aI Y6 hk) hlt hst' keep' ?_⟩
   unfold f_ at hall |-
   rw[wJ,hu,List.all_append,hall]
   exact bR ((λ{a b}=>Bool.eq_and_self.mpr) λa=>hc)
  | false=>
   rw[an (by decide)]
   refine aE ?_
   have:f_ L l=false:=by
    unfold f_
    rw[List.all_eq_false]
    exact(aw u (qB hu) (by rw[hc];decide))
   rw[<-this]
   exact hR h' (tk'+1) keep'
theorem P7{a:aj}{L:List af}{K:PV->List PV->AS->Prop}(F:bS c.w c.b0 a L)(h:K (.val (.builtin "frozenset.issuperset")) [.val (.ref a)] σ):dF c (.val (.ref a)) (ae "issuperset") σ K E:=λs ov pl I e=>by
 obtain rfl:ov = .ref a:=e
 refine dU (tJ F I.b0) λes ep tb ho D=>?_
 refine Ld (T:="frozenset") (aw _ ho rfl) FS.Sj FS.yo FS.UB (λa' e=>by cases e;exact(aw _ ho rfl)) ?_
 exact⟨.val (.builtin "frozenset.issuperset"),[.val (.ref a)],σ,I,rfl,aB.cons rfl aB.nil,TK.refl _,h⟩
theorem OK{a:aj}{L:List af}(K:c.Ok)(hh:c.A.handled=none)(F:bS c.w c.b0 a L)(hb:L.length<4096)(h:Q (.bool (f_ L l)) σ):aM c (.val (.builtin "frozenset.issuperset")) [.val (.ref a),.str (ms l)] [] [] σ Q E:=aM.blt λs vs I r=>by
 obtain ⟨v,u,rfl,rfl,t,rfl⟩:=eQ r
 have F':=tJ F I.b0
 refine dU (id F') λes ep tb ho D=>?_
 refine ii (bk _) ?_
 refine jB (wO FS.yo.plain FS.WZ (FS.yo.check _ _ _ _ _ _ _ _ ((aw _ ho rfl):s.TypeIs (.ref a) "frozenset") (FS.Xp _ _) ?_))
 show au _ _ (do
  let other <-(pure (qA (ms l) t):bf ag)
  if <-mQ other then return <-ret (.bool (<-Builtin.Frozenset.subsetOf "frozenset.issuperset" (<-sC other) a))
  again (.builtin "frozenset.issuperset.loop" ⟨[.ref a,<-wP other],[]⟩)) _ _ s
 refine ah (aE ?_)
 rw[FS.WQ]
 refine ah (aE ?_)
 rw[an (by decide)]
 refine ah (wpAny_pyIter_str λo St W hst=>?_)
 have keep:∀b o',s.heap.get? b=some o'->(s.heap.push o).get? b=some o':=λb o' e=>dy _ e
 have W':=W c.A.in1 hh
 have e:(ms l).cps.size=l.length:=bP l
 replace W':=e▸W'
 refine aE ⟨plainId_quiet FS.t9 _,Nd (h₀:=s.heap) W' F' hb (fb (bk _)) (λh' tk k'=>?_) l.length 0 _ _ (by exact lT l.length) (cQ _) hst keep rfl⟩
 exact λht=>⟨.bool _,σ,I.grow k' (ht:=ht),rfl,TK.of_keeps k',h⟩
end
end
section
section
variable {c:FC}{σ:AS}{E:aG->AS->Prop}{Q:PV->AS->Prop}{x y:aL}{r:List aL}
theorem iO.or(h:Ev c x σ (λv aq=>U1 c fw eZ v aq (λb a8=>Br b (Q v a8) (iO c .Or Q E (y::r) a8)) E) E):iO c .Or Q E (x::y::r) σ:=
 Ev.mono h (λv aq q s u I a=>bH (q s u I a) (λb s' z a8 a_ e k bz=>⟨z,a8,a_,e,k,by cases z <;> first | exact bz.2 rfl | exact bz.1 rfl⟩)) λZ Z q=>q
theorem U5(h:Ev c x σ (λv aq=>U1 c fw eZ v aq (λb a8=>Br b (iO c .And Q E (y::r) a8) (Q v a8)) E) E):iO c .And Q E (x::y::r) σ:=
 Ev.mono h (λv aq q s u I a=>bH (q s u I a) (λb s' z a8 a_ e k bz=>⟨z,a8,a_,e,k,by cases z <;> first | exact bz.2 rfl | exact bz.1 rfl⟩)) λZ Z q=>q
theorem iJ.or{Q:Bool->AS->Prop}(h:Et c x σ (λb aq=>Br b (Q true aq) (iJ c .Or Q E r aq)) E):iJ c .Or Q E (x::r) σ:=λw hw s I=>
 bH (h w hw s I) (λb s' z a8 a_ e k bz=>⟨z,a8,a_,e,k,by cases z <;> first | exact bz.2 rfl | exact bz.1 rfl⟩)
theorem O_{Q:Bool->AS->Prop}(h:Et c x σ (λb aq=>Br b (iJ c .And Q E r aq) (Q false aq)) E):iJ c .And Q E (x::r) σ:=λw hw s I=>
 bH (h w hw s I) (λb s' z a8 a_ e k bz=>⟨z,a8,a_,e,k,by cases z <;> first | exact bz.2 rfl | exact bz.1 rfl⟩)
theorem b7.len:∀{es:List aL} {σ:AS} {Q:List PV->AS->Prop},b7 c es σ Q E->b7 c es σ (λxs aq=>xs.length=es.length/\Q xs aq) E
 | [],_,_,h=>⟨rfl,h⟩
 | e::r,_,_,h=>Ev.mono h (λx aq q=>b7.mono (b7.len q) λxs a8 ⟨a,b⟩=>⟨by exact Nat.succ_inj.mpr a,b⟩) λZ Z z=>z
where
 b7.mono:∀{es:List aL} {σ:AS} {Q Q':List PV->AS->Prop},b7 c es σ Q E->(∀xs σ,Q xs σ->Q' xs σ)->b7 c es σ Q' E
 | [],_,_,_,h,k=>k _ _ h
 | e::r,_,_,_,h,k=>Ev.mono h (λx aq q=>b7.mono q λxs a8 z=>k _ _ z) λZ Z z=>z
theorem Pn{elts:List aL}{n:Nat}{pos:aT}(hn:noStar elts)(hl:elts.length<=1000)(h:b7 c elts σ (λxs aq=>Q (.tup xs) aq) E):Ev c (.Tuple elts n pos) σ Q E:=
 Ev.tup hn (b7.len.b7.mono (b7.len h) λxs a8 ⟨a,b⟩=>⟨by rw[a];have:bN=16777216:=eW;exact aJ ‹_› (by decide),b⟩)
end
section
variable {c:FC}{σ:AS}{E:aG->AS->Prop}{N:AS->Prop}{Qf:bO->AS->Prop}
def g9:List af->List PV->(AS->Prop)->AS->Prop
 | x::xs,v::vs,N,σ=>g9 xs vs N (σ.set x v)
 | [],[],N,σ=>N σ
 | _,_,_,_=>False
theorem zh(K:c.Ok):∀(ts:List (af×(ag->bf Unit))) (xs:List PV) (vs:List ag) (N:AS->Prop) (σ:AS) (s:ai),
  (∀t∈ts,kE c t.1/\∀v s Q E,au (av aF c.w) c.A (KE c.env t.1 v) Q E s->au (av aF c.w) c.A (t.2 v) Q E s)->In c σ s->aB s.heap xs vs->g9 (ts.map (·.1)) xs N σ->
  au (av aF c.w) c.A (Lf (ts.map (·.2)) vs) (λZ s'=>∃σ',In c σ' s'/\N σ') (EPost c E) s
 | [],xs,vs,N,σ,s,ht,I,r,h=>by
  cases xs with
  | nil=>unfold Lf;exact aE (aw σ I h)
  | cons a b=>exact h.elim
 | t::ts,[],vs,N,σ,s,ht,I,r,h=>h.elim
 | t::ts,x::xs,vs,N,σ,s,ht,I,r,h=>by
  refine bM r λv rest j1 r1 r2=>?_;clear r;subst j1
  refine aN (ht t (.head _)) λl k=>?_
  show au _ _ (do holding rest (t.2 v);Lf (ts.map (·.2)) rest) _ _ s
  refine ah (bT (k v s _ _ (bH (nk (E:=E) (aV:=s) (Q:=λZ σ'=>σ'=σ.set t.1 x) K l I r1 (TK.refl _) rfl) (λZ s' Z σ' I' Z k' e=>?_))))
  subst e
  exact zh K ts xs rest N _ s' (λt' m=>ht t' (.tail _ m)) I' (r2.tk k') h
theorem Ow{xs:List PV}{v:ag}{s:ai}{n:Nat}{Q:List ag->ai->Prop}{E':ag->ai->Prop}(hh:c.A.handled=none)(I:In c σ s)(r:RV s.heap (.tup xs) v)(hn:n=xs.length)
  (h:∀vs s',In c σ s'->aB s'.heap xs vs->Q vs s'):au (av aF c.w) c.A (Bt v n none) Q E' s:=by
 obtain ⟨a,o,vs,k,rfl,ho,hc,hd,rs⟩:=r
 have:n=vs.size:=by rw[hn,<-rs.length];exact eH
 subst this
 refine unpackItems_tuple hh (bh o ho hc ⟨k,hd⟩) λh' he=>?_
 have keep:∀b o,s.heap.get? b=some o->h'.get? b=some o:=λb o e=>he b o (jq (dR e)) e
 exact h _ _ (I.grow keep) (rs.tk (.of_keeps keep))
def kD(c:FC)(σ:AS)(xs:List PV):Prop:=∀(v:ag) (s:ai) (Q:List ag->ai->Prop) (E':ag->ai->Prop),In c σ s->RV s.heap (.tup xs) v->(∀vs s',In c σ s'->aB s'.heap xs vs->Q vs s')->au (av aF c.w) c.A (Bt v xs.length none) Q E' s
theorem kD.ok{xs:List PV}(hh:c.A.handled=none):kD c σ xs:=λZ Z Z Z I r h=>Ow hh I r rfl h
noncomputable def uK(e:bB)(p:af×aT):af×(ag->bf Unit):=(p.1,assign (.Name p.1 p.2) e)
theorem Gy{ps:List (af×aT)}{k:Nat}{tpos:aT}{x:PV}{v:ag}{ay:ai}(K:c.Ok)(hl:∀p∈ps,kE c p.1)(aQ:In c σ ay)(aZ:RV ay.heap x v)(h:∃xs,x = .tup xs/\kD c σ xs/\xs.length=ps.length/\g9 (ps.map (·.1)) xs N σ) :
  au (av aF c.w) c.A (assign (.Tuple (ps.map λp=>.Name p.1 p.2) k tpos) c.env v) (λZ s'=>∃σ',In c σ' s'/\N σ') (EPost c E) ay:=by
 refine mh h λxs hx U hlen q=>?_;clear h
 subst hx
 rw[assign_Tuple]
 refine ah (d9 ?_)
 have e:∀qs:List (af×aT),assignEach (qs.map λp=>td p.1 p.2) c.env=qs.map λp=>(false,assign (.Name p.1 p.2) c.env):=by
  intro qs
  induction qs with
  | nil=>rfl
  | cons p qs ih=>show(false,assign (.Name p.1 p.2) c.env)::assignEach (qs.map λp=>td p.1 p.2) c.env=_;rw[ih];rfl
 rw[e]
 unfold unpack
 have hstar:(ps.map λp=>(false,assign (.Name p.1 p.2) c.env)).findIdx? (·.1)=none:=by
  rw[sA]
  intro y hy
  refine aC (cO.mp hy) λp Z j1=>?_;subst j1
  rfl
 rw[hstar]
 rw[(by rw[db,hlen]:(ps.map λp=>(false,assign (.Name p.1 p.2) c.env)).length=xs.length)]
 refine ah (bT (U _ _ _ _ aQ aZ λvs s' I' rs=>?_))
 rw[(by simp[uK]:(ps.map λp=>(false,assign (.Name p.1 p.2) c.env)).map (·.2)=(ps.map (uK c.env)).map (·.2))]
 refine zh (E:=E) K (ps.map (uK c.env)) xs vs N σ s' (λt m=>?_) I' rs (by simpa[uK,Function.comp_def] using q)
 refine aC (cO.mp m) λp hp j1=>?_;subst j1
 exact⟨hl p hp,λv s Q E z=>assign_Name z⟩
theorem Jr{ps:List (af×aT)}{k:Nat}{tpos pos:aT}{value:aL}(K:c.Ok)(hl:∀p∈ps,kE c p.1)
  (hs:swapsWithSole [.Tuple (ps.map λp=>.Name p.1 p.2) k tpos] value pos.line c.env=pure false) (hw:qC [.Tuple (ps.map λp=>.Name p.1 p.2) k tpos] value c.env=pure none)
  (h:Ev c value σ (λv aq=>∃xs,v = .tup xs/\kD c aq xs/\xs.length=ps.length/\g9 (ps.map (·.1)) xs N aq) E):X1 c (.Assign [.Tuple (ps.map λp=>.Name p.1 p.2) k tpos] value pos) σ N Qf E:=λs I=>
 Assign_Tuple (bH (h s I) λv ay x aq aQ aZ k₁ q=>bn (Gy (E:=E) K hl aQ aZ q) (λZ s'' ⟨σ',I'',n⟩=>⟨.next,σ',I'',rfl,n⟩) λZ Z z=>z) hs hw
theorem Tu{ps:List (af×aT)}{k:Nat}{tpos pos:aT}{value:aL}(K:c.Ok)(hl:∀p∈ps,kE c p.1)
  (hs:swapsWithSole [.Tuple (ps.map λp=>.Name p.1 p.2) k tpos] value pos.line c.env=pure false) (hw:qC [.Tuple (ps.map λp=>.Name p.1 p.2) k tpos] value c.env=pure (some (ps.map (·.1))))
  (h:Ev c value σ (λv aq=>∃xs,v = .tup xs/\kD c aq xs/\xs.length=ps.length/\g9 (ps.map (·.1)).reverse xs.reverse N aq) E):X1 c (.Assign [.Tuple (ps.map λp=>.Name p.1 p.2) k tpos] value pos) σ N Qf E:=λs I=>by
 refine Assign_Tuple_swapped (bn (h s I) (λv ay p=>p.elim λx aq aQ aZ k₁ q=>?_) λZ Z z=>z) hs hw
 refine(λj2=>?_) q;clear q;refine mh j2 λxs j1 U hlen q=>?_;clear j2;subst j1
 rw[(by rw[db,hlen]:(ps.map (·.1)).length=xs.length)]
 refine U _ _ _ _ aQ aZ λvs s' I' rs=>?_
 have rv:∀{h:am} {xs:List PV} {vs:List ag},aB h xs vs->aB h xs.reverse vs.reverse:=by
  intro h xs
  induction xs with
  | nil=>intro vs r;rewrite[aB] at r;subst r;exact aB.nil
  | cons x xs ih=>
   intro vs r
   refine bM r λv rest j1 r1 r2=>?_;clear r;subst j1
   rw[Y7,Y7]
   exact(ih r2).append (aB.cons r1 aB.nil)
 have e2:((ps.map (·.1)).reverse.map λn=>Bi c.env n)=((ps.reverse.map λp=>(p.1,λv=>Bi c.env p.1 v)):List (af×(ag->bf Unit))).map (·.2):=by
  rw[<-Y8,fg,fg];rfl
 rw[e2]
 refine bn (zh (E:=E) K (ps.reverse.map λp=>(p.1,λv=>Bi c.env p.1 v)) xs.reverse vs.reverse N aq s' (λt m=>?_) I' (rv rs) (by rw[fg];replace q:=(bR Y8:_)▸q;exact q)) (λZ s'' ⟨σ',I'',n⟩=>⟨.next,σ',I'',rfl,n⟩) λZ Z z=>z
 refine aC (cO.mp m) λp hp j1=>?_;subst j1
 exact⟨hl p (YZ.mp hp),λv s Q E z=>bindName_ z⟩
variable {ev:bB}{w:aR}{b:am}{n:Nat}{ns:List af}{x y z u:af}{i j l m:Nat}
end
end
section
section
variable {c:FC}{σ:AS}{E:aG->AS->Prop}{Q:PV->AS->Prop}{a b:Nat}{l:List Nat}
theorem gM(h:Q (.int ((a+b:Nat):Int)) σ):U2 c RV (fy .Add) (.int (a:Int)) (.int (b:Int)) σ Q E:=EX (by rw[<-Y9];exact h)
theorem gr(h:Q (.int ((a+b:Nat):Int)) σ):U2 c RV (oG .Add) (.int (a:Int)) (.int (b:Int)) σ Q E:=Rx (by rw[<-Y9];exact h)
theorem zk(hb:b<=a)(h:Q (.int ((a-b:Nat):Int)) σ):U2 c RV (fy .Sub) (.int (a:Int)) (.int (b:Int)) σ Q E:=Rc (by rw[<-YG hb];exact h)
theorem pc(h:Q (.bool (decide (a<b))) σ):U2 c RV (ce .Lt) (.int (a:Int)) (.int (b:Int)) σ Q E:=Xm (by simpa using h)
theorem Ia(h:Q (.bool (decide (b<a))) σ):U2 c RV (ce .Gt) (.int (a:Int)) (.int (b:Int)) σ Q E:=W6 (by simpa using h)
theorem ve(h:Q (.bool (decide (a<=b))) σ):U2 c RV (ce .LtE) (.int (a:Int)) (.int (b:Int)) σ Q E:=RR (by simpa using h)
theorem W8(h:Q (.bool (decide (b<=a))) σ):U2 c RV (ce .GtE) (.int (a:Int)) (.int (b:Int)) σ Q E:=SH (by
 have:decide ((a:Int)>=b)=decide (b<=a):=by simp
 rw[this];exact h)
theorem ET(a b:Nat):((a:Int)==(b:Int))=(a==b):=by rw[qe,beq_iff_eq,beq_iff_eq];exact Int.ofNat_inj
theorem og(h:Q (.bool (a==b)) σ):U2 c RV (ce .Eq) (.int (a:Int)) (.int (b:Int)) σ Q E:=PP (by rw[ET];exact h)
theorem Ss(h:Q (.bool (a !=b)) σ):U2 c RV (ce .NotEq) (.int (a:Int)) (.int (b:Int)) σ Q E:=MD (by
 have:((a:Int)!=(b:Int))=(a !=b):=by unfold bne;rw[ET]
 rw[this];exact h)
theorem lF(hz:l.length<=bN)(h:Q (.str (ms (sl l a b))) σ):jS c (.str (ms l)) (.int (a:Int)) (.int (b:Int)) σ Q E:=x9 .nat .nat hz h
theorem zV(hz:l.length<=bN)(h:Q (.str (ms (l.drop a))) σ):jS c (.str (ms l)) (.int (a:Int)) .none σ Q E:=x9 .nat .none hz (by
 have:sl l a l.length=l.drop a:=by unfold sl;rw[AB (by simp)]
 rw[this];exact h)
end
end
section
section
variable {w:aR}{A:bZ}{E:ag->ai->Prop}{s:ai}{D:aj}{S:af->Bool}{n:Nat}
noncomputable abbrev sk(w:aR):=strKind aF w
theorem add_str{x:af}{t:bY}{Q:Bool->ai->Prop}(hS:s.heap.SetOf (sk w) D S n)(hr:n+1<Ao)
  (h:∀h' n',cW D s.heap h'->n'<=n+1->h'.SetOf (sk w) D (λk=>S k||decide (k=x)) n'->∀b,Q b {s with heap:=h',toks:=s.toks+1}):au (av aF w) A (vM D (.str x t)) Q E s:=by
 unfold vM
 refine bT (ah ((sk w).pyHash (hZ aF w x t) ?_))
 exact wpAny_setAddHashed_of (s:={s with toks:=s.toks+1}) (knd:=sk w) (hZ aF w x t) rfl hS hr λh' hsb hS'=>h h' _ hsb (by split <;> lia) hS' _
theorem Fp{Q:Unit->ai->Prop}(hS:s.heap.SetOf (sk w) D S n)(h:∀h',cW D s.heap h'->h'.SetOf (sk w) D S n->Q () {s with heap:=h'}):au (av aF w) A (setUnled D) Q E s:=by
 refine rQ hS λo es ep t ho hex hd hel hmem hb hf hn=>?_;clear hS
 unfold setUnled
 refine ah (h_ ho hd hf ?_)
 refine XN ho hd ?_ (by have:Ao<=100000:=(by decide);exact jh ‹_› (by decide))
 have e:(s.heap.update D (J5 es {t with led:=false})).get? D=some {o with data:=.set es (ep+1) {t with led:=false}}:=by
  have:=iZ (J5 es {t with led:=false}) ho (by rw[putSet_of es _ hd];rfl)
  replace this:=(putSet_of es _ hd)▸this;exact this
 exact h _ (j_ ..) (E8 _ es (ep+1) {t with led:=false} e hex rfl hel hmem hb hf hn)
theorem Pb{road:DisplayRoad}{b:Bool}{elts:List (Bool×bf ag)}{ts:List (bf ag)}{Q:ag->ai->Prop}(hroad:(road==.constants)=false)(hs:elts.findIdx? (·.1)=none)(hlen:elts.length<=30)(hm:elts.map (·.2)=ts)
  (h:∀h',h'.SetOf (sk w) s.heap.objs.size (λZ=>false) 0->(∀b o,s.heap.get? b=some o->h'.get? b=some o)->au (av aF w) A (wr ts) (λvs s'=>KdsFill (av aF w) A E (road==.unsure) s.heap.objs.size Q vs s') E {s with heap:=h'}) :
  au (av aF w) A (setDisplay road b elts) Q E s:=
 kds_core hroad hs hlen hm λled=>h _ ((setObjOf_fresh led).setOf (cH _ rfl) (by decide)) λb o e=>dy _ e
end
section
variable {c:FC}{σ:AS}{E:aG->AS->Prop}
def xP(c:FC):Prop:=∃k o vs,c.env.code = .ref k/\c.b0.get? k=some o/\o.data = .fields vs
theorem Op{s:ai}{Q:Bool->ai->Prop}{E':ag->ai->Prop}(H:xP c)(I:In c σ s)(h:∀b,Q b s):au (av aF c.w) c.A (inMainModule c.env) Q E' s:=by
 refine io H λk o vs e ho hd=>?_;clear H
 unfold inMainModule
 try dsimp only
 rw[e]
 split
 .exact aE (h _)
 .refine ah (wQ (I.b0 _ _ ho) hd ?_)
  split
  .exact ah (sE (aE (h _)))
  .exact aE (h _)
theorem TM{pos:aT}{Q:List ag->ai->Prop}{E':ag->ai->Prop}{k1 k2 k3:Nat}{p1 p2 p3:aT}{a b d:af}{s:ai}
  (h:∀t1 t2 t3 tk,s.toks<=tk->Q [.str a t1,.str b t2,.str d t3] {s with toks:=tk}) :
  au (av aF c.w) c.A (wr ((sU [.Constant (.str a) k1 p1,.Constant (.str b) k2 p2,.Constant (.str d) k3 p3] c.env).map λt=>do let v <-t;iF pos;pure v)) Q E' s:=by
 refine kds_all pos _ _ _ ?_
 refine oF (oF (oF ?_))
 exact h _ _ _ _ (by dsimp only;lia)
theorem MZ{l:aL}{k1 k2 k3:Nat}{p1 p2 p3 p pos:aT}{a b d:af}{Q:Bool->AS->Prop}(H:xP c)
  (h:Ev c l σ (λv aq=>∃x,v = .str x/\Q (x==a||x==b||x==d) aq) E):Et c (.Compare l [.In] [.Set [.Constant (.str a) k1 p1,.Constant (.str b) k2 p2,.Constant (.str d) k3 p3] 0 p] pos) σ Q E:=λwhole hw s I=>by
 refine kdi_test (by rfl) (bn (h s I) (λv ay pW=>pW.elim λz aq aQ aZ k₁ qP=>?_) λZ Z z=>z)
 refine aC qP λx hx q=>?_;clear qP
 subst hx
 refine aP aZ λt j1=>?_;clear aZ;subst j1
 rw[arm_eval_Set]
 refine ah (d9 ?_)
 refine ah (Op H aQ λm=>?_)
 rw[kds_star _ rfl,fg]
 refine Pb (ts:=(sU [.Constant (.str a) k1 p1,.Constant (.str b) k2 p2,.Constant (.str d) k3 p3] c.env).map λt=>do let v <-t;iF p;pure v) (by rfl) ?_ ?_ ?_ λh' hS keep=>?_
 .refine sA.mpr λx hx=>?_
  refine aC (cO.mp hx) λt Z j1=>?_;subst j1
  rfl
 .rw[db,kds_len];show 3<=30;decide
 .rewrite[fg];rfl
 have hD:=fb (bk ay.heap.objs.size)
 refine TM λt1 t2 t3 tk ht=>?_
 have kp:∀{h1 h2:am},(∀b o,ay.heap.get? b=some o->h1.get? b=some o)->cW ay.heap.objs.size h1 h2->∀b o,ay.heap.get? b=some o->h2.get? b=some o:=λk hs b o e=>
  (hs.2 b λq=>by exact bI (hD▸q▸e)).trans (k b o e)
 have sb:Ao=4096:=by decide
 refine add_str hS (by exact Au rfl) λh1 n1 hs1 hn1 hS1 Z=>?_
 refine add_str hS1 (by omega) λh2 n2 hs2 hn2 hS2 Z=>?_
 refine add_str hS2 (by rw[sb];exact bL (jo (aJ hn2 (jo hn1))) (by decide)) λh3 n3 hs3 hn3 hS3 Z=>?_
 refine kds_fill_unled (by rfl) ?_
 refine Fp hS3 λh4 hs4 hS4=>?_
 refine kdi_mark (Fp hS4 λh5 hs5 hS5=>?_)
 have K:=kp (kp (kp (kp (kp keep hs1) hs2) hs3) hs4) hs5
 refine wpAny_inSet_of (knd:=sk c.w) (k:=x) (hZ aF c.w x t) rfl hS5 ?_
 refine sT ⟨_,aq,aQ.grow K (ht:=aJ ht (dX _ 4)),rfl,k₁.trans (TK.of_keeps K),?_⟩
 have:(((false||decide (x=a))||decide (x=b))||decide (x=d))=(x==a||x==b||x==d):=by
  simp only[Y']
  rfl
 rw[this];exact q
end
end
section
namespace MP
theorem yf:Slot "mappingproxy" "__getitem__" "mappingproxy.__getitem__":=
 .of (owner:="mappingproxy") (n:="__getitem__") (by rw[Bp,Bq];kernel_rfl) (by decide +kernel) (by decide +kernel) (by decide +kernel)
  (by first | exact .inl (by decide +kernel) | exact .inr (by decide +kernel)) (by rw[jl];kernel_rfl)
theorem NI:kQ table "mappingproxy.__getitem__" = some cn.«mappingproxy.__getitem__»:=qf (by kernel_rfl)
theorem TR(a b:ag):s_ "mappingproxy.__getitem__" ⟨[a,b],[]⟩:=by unfold s_;kernel_rfl
end MP
noncomputable def HM:aG:=⟨.type "KeyError",none⟩
section
variable {c:FC}{σ:AS}{E:aG->AS->Prop}{Q:PV->AS->Prop}
theorem gG.key{nm:af}{p:aT}{ev:bB}{w:aR}{b:am}{n:Nat}(P:Pl c ev w b n)(g:Gl ev b nm (.type "KeyError")):gG c HM (.Name nm p) σ true:=
 gG.ty P g rfl (by rw[jl];kernel_rfl) (by rw[jl];kernel_rfl) (by rw[jl];kernel_rfl)
theorem Rd{m d:aj}{o:ax}{x:af}{f:af->Option ag}(K:c.Ok)(hh:c.A.handled=none)(hm:c.b0.get? m=some o)(hc:o.cls = .type "mappingproxy")(hd:o.data = .fields #[.ref d])(hD:c.b0.MapOf (sk c.w) d f)(hs:(d==oE)=false)
  (h1:∀v,f x=some v->∃y t,v = .str y t/\Q (.str y) σ) (h2:f x=none->E HM σ):U2 c RV hV (.val (.ref m)) (.str x) σ Q E:=λs u v I e ⟨t,e'⟩=>by
 have e:u = .ref m:=e
 subst e e'
 have ho:=I.b0 _ _ hm
 have hM:s.heap.MapOf (sk c.w) d f:=let ⟨o,es,ep,a,b⟩:=hD;⟨o,es,ep,I.b0 _ _ a,b⟩
 have hT:s.TypeIs (.ref m) "mappingproxy":=(aw _ ho hc)
 refine jP hT MP.yf.lookup ?_
 refine Y_ hT (by decide) MP.yf ?_
 refine lZ MP.yf hT MP.NI ?_ (MP.TR _ _)
 show au _ _ (field (.ref m) 0 >>= λmp=>oK mp (.str x t) >>= λv=>ret v) _ _ s
 refine ah (fV ho hd (x:=.ref d) rfl ?_)
 have hTd:s.TypeIs (.ref d) "dict":=hM.typeIs
 refine ah (Y_ hTd (by decide) Lg ?_)
 cases hf:f x with
 | some v=>
  refine gE (h1 v hf) λy ty j1 q=>?_;subst j1
  refine Lh Lg hTd Za (Zb _ _) (meets_dict_getitem (sk c.w) d (hZ aF c.w x t)) (eV f _ hM hf ?_)
  exact aE (aw _ rfl ⟨.str y,σ,I.tok _,⟨_,rfl⟩,TK.refl _,q⟩)
 | none=>
  refine Lh Lg hTd Za (Zb _ _) (meets_dict_getitem_missing (sk c.w) d (hZ aF c.w x t) hs) ⟨hh,f,hM,hf,λh' e N=>?_⟩
  exact Ea K I N (h2 hf) (fe _)
theorem T_{P R:Prop}(h:R):Br (!true) P R:=⟨λz=>(nomatch z),λZ=>h⟩
theorem Br.nf{P R:Prop}(h:P):Br (!false) P R:=⟨λZ=>h,λz=>(nomatch z)⟩
end
end
section
section
variable {c:FC}{σ:AS}{E:aG->AS->Prop}{Q:PV->AS->Prop}
theorem R8{u:Nat}(h:Q (.str (ms [u,u])) σ):U2 c RV (fy .Mult) (.str (ms [u])) (.int ((2:Nat):Int)) σ Q E:=λs v w I ⟨t,e⟩ ⟨t',e'⟩=>by
 subst e e'
 have zl:(ms [u]).length=1:=bP [u]
 refine P.mul_str (by decide) (λZ Z=>by rw[zl];decide) (λZ Z=>by rw[zl];decide +kernel) ?_
 rw[an (by decide),an (by rw[zl];decide)]
 exact⟨by show 2<=_;have:bN=16777216:=eW;exact wR rfl,.str (ms [u,u]),σ,I.tok _,⟨_,rfl⟩,TK.refl _,h⟩
end
end
section
structure pV(c c':FC):Prop where
 ok:c'.Ok
 env:c'.env=c.env
 w:c'.w=c.w
 b0:c'.b0=c.b0
 A:c'.A=c.A
 os:c'.os=c.os
 tb:c'.tb=c.tb
 gens:c'.gens=c.gens
 T:c'.T=c.T
theorem pV.pl{c c':FC}{ev:bB}{w:aR}{b:am}{n:Nat}(P:Pl c ev w b n)(qu:c.A.handled=none)(C:pV c c'):Pl c' ev w b n:=
 ⟨C.ok,C.env.trans P.env,C.w.trans P.w,C.b0.trans P.b0,by rw[C.A];exact P.room,(.inl (by rw[C.A];exact qu)),C.tb.trans P.tb⟩
theorem pV.qu{c c':FC}(C:pV c c')(qu:c.A.handled=none):c'.A.handled=none:=by rw[C.A];exact qu
noncomputable def Ic:List String:=["enumerate","zip","dict_itemiterator","dict_reverseitemiterator","odict_iterator","itertools.zip_longest","itertools.pairwise"]
structure u6(h:am)(I:aj):Prop where
 ok:∃o n vs,h.get? I=some o/\o.cls = .type n/\Ic.contains n=false/\o.data = .fields vs/\∀q t,vs[1]?≠some (.str q t)
structure Walk(c:FC)(I:aj)(G:AS->Prop)(St:List PV->am->Prop):Prop where
 obj:∀xs h,St xs h->u6 h I
 frame:∀xs h h',St xs h->h'.get? I=h.get? I->TK h h'->St xs h'
 item:∀x xs σ s Q E',St (x::xs) s.heap->In c σ s->G σ->(∀v h' tk,RV h' x v->St xs h'->(∀b o,b≠I->s.heap.get? b=some o->h'.get? b=some o)->s.toks<=tk->Q (some v) {s with heap:=h',toks:=tk})->au (av aF c.w) c.A (i4 (.ref I)) Q E' s
 done:∀σ s Q E',St [] s.heap->In c σ s->G σ->(∀h' tk,(∀b o,b≠I->s.heap.get? b=some o->h'.get? b=some o)->s.toks<=tk->Q none {s with heap:=h',toks:=tk})->au (av aF c.w) c.A (i4 (.ref I)) Q E' s
 self:∀xs s Q E',St xs s.heap->Q (.ref I) s->au (av aF c.w) c.A (wP (.ref I)) Q E' s
inductive EW(c:FC)(K:(AS->Prop)->List PV->AS->Prop)(h:am)(it:ag)(s':ai):Prop
 | mk (I:aj) (G:AS->Prop) (St:List PV->am->Prop) (xs:List PV) (σ':AS) (hit:it = .ref I) (I':In c σ' s') (W:Walk c I G St) (st:St xs s'.heap) (hF:fQ c I) (h0:c.b0.get? I=none) (k:TK h s'.heap) (q:K G xs σ')
def il(c:FC)(v:PV)(σ:AS)(K:(AS->Prop)->List PV->AS->Prop)(E:aG->AS->Prop):Prop:=∀s val,In c σ s->RV s.heap v val->
 au (av aF c.w) c.A (wP val) (EW c K s.heap) (EPost c E) s
def my(c:FC)(e:aL)(σ:AS)(K:(AS->Prop)->List PV->AS->Prop)(E:aG->AS->Prop):Prop:=∀s,In c σ s->
 au (av aF c.w) c.A (eval e c.env) (λval ay=>au (av aF c.w) c.A (wP val) (EW c K s.heap) (EPost c E) ay) (EPost c E) s
section
variable {c:FC}{σ:AS}{E:aG->AS->Prop}{N:AS->Prop}{Q:bO->AS->Prop}{s:ai}
theorem In.iter{I:aj}{h':am}{tk:Nat}(In0:In c σ s)(O:u6 s.heap I)(hF:fQ c I)(h0:c.b0.get? I=none)(k:∀b o,b≠I->s.heap.get? b=some o->h'.get? b=some o)(ht:s.toks<=tk):In c σ {s with heap:=h',toks:=tk}:=by
 refine gN O.ok λoI nI vI eI cI Z dI sI=>?_
 have nf:∀b o,s.heap.get? b=some o->(∀vs,o.data≠.fields vs)->b≠I:=λb o e n q=>by
  replace e:=eI▸q▸e;refine(λj0=>?_) (bj e);clear e;subst j0;exact n _ dI
 have tk':TK s.heap h':=λb o vs n e hc hd=>(bh o (k b o (nf b o e λws q=>by replace q:=hd▸q;cases q) e) hc hd)
 refine aC In0.ns λmm hm hr=>?_
 obtain ⟨⟨m,⟨oL,es,ep,eL,dL,rL⟩,hmm⟩,hcel⟩:=hm
 refine⟨λb o e=>k b o (λq=>by exact bI (h0▸q▸e)) (In0.b0 b o e),u_ In0.fr λb o e n=>(aw o (k b o (nf b o e n) e) n),λb o vs e h1 hcn h2=>?_,λb o e h1 h2=>?_,
  (aw mm ⟨(aw m (ly oL es ep (k _ _ (nf _ _ eL λws q=>by replace q:=dL▸q;cases q) eL) dL rL) hmm),λx a hx=>?_⟩ (λx=>(hr x).tk tk')),λa ao ha=>?_,In0.L0,In0.L1,In0.Lo,λy hy=>?_,In0.os,In0.gens,In0.nd,aJ In0.tk ht,In0.pL λb o e n Z Z Z=>k b o (nf b o e n) e⟩
 .refine k b o (λq=>?_) (In0.up1 b o vs e h1 hcn h2)
  rcases hF o (q▸e) with z | ⟨ws,z1,z2⟩
  .exact h1 (q▸z)
  .replace z1:=h2▸z1;cases z1;exact z2 hcn
 .refine aP (In0.cq b o e h1 h2) λsl q=>?_
  exact⟨sl,k _ _ (nf _ _ q h2) q⟩
 .refine aC (hcel x a hx) λoc ec dc=>?_
  exact(aw oc (k _ _ (nf _ _ ec λws q=>by replace q:=dc▸q;cases q) ec) dc)
 .refine aN (In0.st a ao ha) λr h1=>?_
  refine br r.there λo e n Z=>?_
  exact⟨r.tk tk' λo e n=>⟨o.slots,k _ _ (nf _ _ e n) e⟩,h1⟩
 .rcases In0.tab y hy with e | ⟨kk,ok,vs,tk,e1,e2,e3,e4⟩
  .exact .inl (k _ _ (λq=>by replace e:=eI▸q▸e;refine(λj0=>?_) (bj e);clear e;subst j0;cases cI) e)
  .exact .inr ⟨kk,ok,vs,tk,k _ _ (λq=>by replace e1:=eI▸q▸e1;refine(λj0=>?_) (bj e1);clear e1;subst j0;cases cI) e1,k _ _ (λq=>by replace e2:=eI▸q▸e2;refine(λj0=>?_) (bj e2);clear e2;subst j0;replace e3:=dI▸e3;cases e3;exact sI _ _ e4) e2,e3,e4⟩
theorem In.UI{τ:AS}{s':ai}(I:In c σ s)(a_:In (c.rebase σ s) τ s'):TK s.heap s'.heap:=λb o vs n e hc hd=>by
 refine br (zY I b o vs n e hc hd) λo' e' c' d'=>?_
 refine aP (a_.cq b o' e' (λz=>by
  refine br (I.rN z) λo2 e2 Z h3=>?_
  replace e2:=e▸e2;refine(λj0=>?_) (bj e2);clear e2;subst j0;exact h3 hc) λws q=>by replace q:=d'▸q;cases q) λsl q=>?_
 exact(bh _ q c' d')
theorem Vy(K:c.Ok)(I:In c σ s):pV c (c.rebase σ s):=⟨K.rebase I,rfl,rfl,rfl,rfl,rfl,rfl,rfl,rfl⟩
set_option backward.match.sparseCases true in
theorem F9{target:aL}{I:aj}{v:ag}{Q':Unit->ai->Prop}{E':ag->ai->Prop}(O:u6 s.heap I)(h:Q' () s):au (av aF c.w) c.A (Li target (.ref I) v) Q' E' s:=by
 refine gN O.ok λoI nI vI eI cI hn dI Z=>?_
 have main:au (av aF c.w) c.A (do
   let (.ref r,.ref a):=((dz I,v):ag×ag) | return
   let o <-load r
   match o.cls,o.data with
   | .type n,.fields vs=>
    if["enumerate","zip","dict_itemiterator","dict_reverseitemiterator","odict_iterator","itertools.zip_longest","itertools.pairwise"].contains n&&vs[0]?==some (bW a) then
     rule "for.unpacks-the-owned-tuple"
     updateField r 0 .none
   | _,_=>pure ()) Q' E' s:=by
  cases v <;> try exact aE h
  refine ah (s0 eI ?_)
  rw[cI,dI]
  dsimp only
  rw[an (by rw[show(["enumerate","zip","dict_itemiterator","dict_reverseitemiterator","odict_iterator","itertools.zip_longest","itertools.pairwise"].contains nI)=false from hn,Bu];exact cm)]
  exact aE h
 cases target <;> first | exact aE h | exact main
theorem Ff{R:gU->ai->Prop}{w:aR}{A:bZ}{target:aL}{it:ag}{body:List bA}{env:bB}(J:Nat->ai->Prop)
  (turn:∀n s,J n s->au (av aF w) A (i4 it) (λr ay=>match r with
   | none=>R (.ok .next) ay
   | some v=>au (av aF w) A (Li target it v) (λZ ay=>au (av aF w) A (assign target env v) (λZ bc=>au (av aF w) A (jt body env) (λf bg=>match f with
     | .next | .cont=>∃m,m<n/\J m bg
     | .brk=>R (.ok .next) bg
     | .ret v=>R (.ok (.ret v)) bg) (kS (av aF w) A env λe s'=>R (.error e) s') bc) (kS (av aF w) A env λe s'=>R (.error e) s') ay) (kS (av aF w) A env λe s'=>R (.error e) s') ay) (kS (av aF w) A env λe s'=>R (.error e) s') s)
  (n:Nat) (h:J n s):kh (av aF w) A (.forLoop target it body [] env) R s:=by
 refine codeAny_loop' rfl J (λn s hI=>?_) n h
 show au _ _ ((forTurn target it body [] env).onRaise (λx=>do wi x env;Zc x)) _ _ s
 refine wpAny_noted ?_
 simp only[forTurn]
 refine ah (d9 (ah (wpAny_onRaise (bn (turn n s hI) (λr ay bX=>?_) λZ Z h'=>d9 h'))))
 cases r with
 | none=>exact aE (.inr ⟨rfl,codeAny_block (KD bX)⟩)
 | some v=>
  refine ah (bn bX (λZ ay bX=>?_) λZ Z h'=>h')
  refine ah (bn bX (λZ bc m8=>ah (bn m8 (λf bg fY=>?_) λZ Z h'=>h')) λZ Z h'=>h')
  cases f with
  | next=>exact aE (.inl ⟨rfl,fY⟩)
  | cont=>exact aE (.inl ⟨rfl,fY⟩)
  | brk=>exact aE fY
  | ret v=>exact aE fY
end
section
variable {c:FC}{σ:AS}{E:aG->AS->Prop}{N:AS->Prop}{ev:bB}{w:aR}{b:am}{n:Nat}{ns:List af}{x y:af}{i j:Nat}
end
section
variable {c:FC}{σ:AS}{E:aG->AS->Prop}{K:(AS->Prop)->List PV->AS->Prop}
noncomputable def signs(l:List Nat):List PV:=l.map λu=>.str (ms [u])
theorem nS{s:ai}(I:In c σ s):fQ c s.heap.objs.size/\c.b0.get? s.heap.objs.size=none:=by
 have h:=fb (bk s.heap.objs.size)
 refine⟨I.vw h,?_⟩
 cases q:c.b0.get? s.heap.objs.size with
 | none=>rfl
 | some o=>have:=I.b0 _ _ q;exact bI (h▸this)
theorem il.str{l:List Nat}(hh:c.A.handled=none)(h:K (λZ=>True) (signs l) σ):il c (.str (ms l)) σ K E:=λs val I ⟨t,e⟩=>by
 subst e
 refine aN (nS I) λf1 f2=>?_
 have main:∀ty:String,Ic.contains ty=false->(∀(s:ai) (i c':Nat) (Q:Option ag->ai->Prop) (E':ag->ai->Prop) (it:aj),s.heap.IsStrIter it ty (ms l) t i->(ms l).cps[i]?=some c'->(∀h',h'.IsStrIter it ty (ms l) t (i+1)->cW it s.heap h'->Q (some (.str ⟨#[c']⟩ s.toks)) {s with heap:=h',toks:=s.toks+1})->au (av aF c.w) c.A (i4 (.ref it)) Q E' s)->
   (∀(s:ai) (i:Nat) (Q:Option ag->ai->Prop) (E':ag->ai->Prop) (it:aj),s.heap.IsStrIter it ty (ms l) t i->(ms l).cps[i]?=none->(∀h',s7 it s.heap h'->Q none {s with heap:=h'})->au (av aF c.w) c.A (i4 (.ref it)) Q E' s)->
   (∀(s:ai) (i:Nat) (Q:ag->ai->Prop) (E':ag->ai->Prop) (it:aj),s.heap.IsStrIter it ty (ms l) t i->Q (.ref it) s->au (av aF c.w) c.A (wP (.ref it)) Q E' s)->
   Walk c s.heap.objs.size (λZ=>True) (λxs h=>∃i,xs=signs (l.drop i)/\h.IsStrIter s.heap.objs.size ty (ms l) t i):=by
  intro ty ho hi hd hself
  refine⟨λxs h z=>z.elim λi z=>z.2.elim λo z=>⟨o,ty,_,z.1,z.2.1,ho,z.2.2,λq t z=>by simp at z⟩,λxs h h' z k Z=>z.elim λi z=>(aw i z.1 (z.2.elim λo z=>(aw o (k.trans z.1) z.2))),λx xs σ' s' Q E' z I' Z hQ=>?_,λσ' s' Q E' z I' Z hQ=>?_,λxs s' Q E' z q=>z.elim λi z=>hself s' i Q E' _ z.2 q⟩
  .refine aC z λi e hit=>?_;clear z
   cases hx:l[i]? with
   | none=>
    exact qX ((sX (by simpa using hx))▸e)
   | some u=>
    have hlt:=(dY.mp hx).1
    have hg:=(dY.mp hx).2
    replace e:=hg▸(oO hlt)▸e
    have e1:x = .str (ms [u]):=by injection e
    have e2:xs=signs (l.drop (i+1)):=by injection e
    subst e1 e2
    refine hi s' i u Q E' _ hit (by rw[kA];exact hx) λh' hit' hs'=>hQ _ h' _ ⟨_,rfl⟩ (aw (i+1) rfl hit') (λb o hb e=>(hs'.2 b hb).trans e) (fe _)
  .refine aC z λi e hit=>?_;clear z
   cases hx:l[i]? with
   | none=>exact hd s' i Q E' _ hit (by rw[kA];exact hx) λh' he=>hQ h' _ (λb o hb e=>he b o hb e) (bk _)
   | some u=>
    have hlt:=(dY.mp hx).1
    exact rW ((oO hlt)▸e)
 cases ha:(ms l).cps.all (· < 128)
 .refine wpAny_pyIter_wide ha ?_
  exact⟨_,_,_,_,σ,rfl,I.push _,main "str_iterator" (by decide) (λs i c' Q E' it a b d=>wpAny_pyNext_wide_item a b d) (λs i Q E' it a b d=>wpAny_pyNext_wide_end hh a b d) (λs i Q E' it a q=>wpAny_pyIter_striter_wide a q),(aw 0 rfl ⟨_,cH _ rfl,rfl,rfl⟩),f1,f2,TK.push _,h⟩
 .refine wpAny_pyIter_ascii ha ?_
  exact⟨_,_,_,_,σ,rfl,I.push _,main "str_ascii_iterator" (by decide) (λs i c' Q E' it a b d=>wpAny_pyNext_ascii_item a b d) (λs i Q E' it a b d=>wpAny_pyNext_ascii_end hh a b d) (λs i Q E' it a q=>wpAny_pyIter_striter_ascii a q),(aw 0 rfl ⟨_,cH _ rfl,rfl,rfl⟩),f1,f2,TK.push _,h⟩
theorem aB.drop{h:am}:∀{xs:List PV} {vs:List ag} (i:Nat),aB h xs vs->aB h (xs.drop i) (vs.drop i)
 | xs,vs,0,r=>r
 | [],vs,i+1,r=>by rewrite[aB] at r;subst r;exact aB.nil
 | x::xs,vs,i+1,r=>by
  refine bM r λv q j1 Z r2=>?_;clear r;subst j1
  exact aB.drop i r2
theorem aB.get{h:am}{xs:List PV}{vs:List ag}{i:Nat}{x:PV}{r:List PV}(R:aB h xs vs)(e:xs.drop i=x::r):∃v,vs[i]?=some v/\RV h x v:=by
 have R':=R.drop i
 replace R':=e▸R'
 rewrite[aB] at R'
 refine bM R' λv q e2 rv Z=>?_;clear R'
 refine(aw v ?_ rv)
 have:(vs.drop i)[0]?=some v:=by rw[e2];rfl
 replace this:=Zd▸this
 exact wK.mp this
theorem aB.end{h:am}{xs:List PV}{vs:List ag}{i:Nat}(R:aB h xs vs)(e:xs.drop i=[]):vs[i]?=none:=by
 have R':=R.drop i
 replace R':=e▸R'
 rewrite[aB] at R'
 have:vs.length<=i:=by exact Ze.mp R'
 simpa using this
theorem drop_tail{α:Type}{l:List α}{i:Nat}{x:α}{r:List α}(e:l.drop i=x::r):r=l.drop (i+1):=by
 rw[<-we,e];rfl
theorem il.lst{l:aj}{xs:List PV}(hh:c.A.handled=none)(hl:(l,.lst xs)∈σ.st)(h:K (λτ=>(l,.lst xs)∈τ.st) xs σ):il c (.val (.ref l)) σ K E:=λs val I e=>by
 obtain rfl:val = .ref l:=e
 refine aN (nS I) λf1 f2=>?_
 have lst:∀{σ':AS} {s':ai},In c σ' s'->(l,.lst xs)∈σ'.st->∃items:Array ag,s'.heap.IsList l items/\aB s'.heap xs items.toList:=λI' hm=>by
  refine aN (I'.st _ _ hm) λr Z=>?_
  obtain ⟨o,vs,n,e,hc,d,r⟩:=r
  exact(aw vs (bh o e hc.1 ⟨n,d⟩) r)
 refine aC (lst I hl) λitems hI Z=>?_
 refine wpAny_pyIter_list hI ?_
 refine⟨_,_,(λys h=>∃i,ys=xs.drop i/\h.IsListIter s.heap.objs.size l i),xs,σ,rfl,I.push _,⟨λys h z=>z.elim λi z=>z.2.elim λo z=>⟨o,_,_,z.1,z.2.1,by decide,z.2.2,λq t z=>by simp at z⟩,λys h h' z k Z=>z.elim λi z=>(aw i z.1 (z.2.elim λo z=>(aw o (k.trans z.1) z.2))),λx ys σ' s' Q E' z I' hm hQ=>?_,λσ' s' Q E' z I' hm hQ=>?_,λxs s' Q E' z q=>z.elim λi z=>wpAny_pyIter_listiter z.2 q⟩,(aw 0 rfl ⟨_,cH _ rfl,rfl,rfl⟩),f1,f2,TK.push _,h⟩
 .refine aC z λi e hit=>?_;clear z
  refine aC (lst I' hm) λits hL R=>?_
  refine aC (R.get e.symm) λv hv rv=>?_
  refine wpAny_pyNext_list_item hit hL (x:=v) (by simpa using hv) λh' hit' hs'=>?_
  have tk:TK s'.heap h':=λb o vs n e' hc hd=>(bh o ((hs'.2 b λq=>by
   refine br hit λoi ei ci di=>?_;clear hit
   replace e':=ei▸q▸e';refine(λj0=>?_) (bj e');clear e';subst j0;replace hd:=di▸hd;cases hd).trans e') hc hd)
  exact hQ v h' s'.toks (rv.tk tk) (aw (i+1) (drop_tail e.symm) hit') (λb o hb e=>(hs'.2 b hb).trans e) (bk _)
 .refine aC z λi e hit=>?_;clear z
  refine aC (lst I' hm) λits hL R=>?_
  exact wpAny_pyNext_list_end hh hit hL (by have:=R.end e.symm;simpa using this) λh' he=>hQ h' _ (λb o hb e=>he b o hb e) (bk _)
theorem il.tup{xs:List PV}(hh:c.A.handled=none)(h:K (λZ=>True) xs σ):il c (.tup xs) σ K E:=λs val I r=>by
 obtain ⟨a,o,vs,n,rfl,ho,hc,hd,rs⟩:=r
 refine aN (nS I) λf1 f2=>?_
 have up:∀{h:am},TK s.heap h->IsTup h a vs:=λtk=>(tk a o vs n ho hc hd).elim λo' z=>(bh o' z.1 z.2.1 ⟨n,z.2.2⟩)
 refine iter_tuple (up (TK.refl _)) ?_
 refine⟨_,_,(λys h=>TK s.heap h/\∃i,ys=xs.drop i/\IsTupIter h s.heap.objs.size a i),xs,σ,rfl,I.push _,⟨λys h z=>z.2.elim λi z=>z.2.elim λo z=>⟨o,_,_,z.1,z.2.1,by decide,z.2.2,λq t z=>by simp at z⟩,λys h h' z k tk'=>⟨z.1.trans tk',z.2.elim λi z=>(aw i z.1 (z.2.elim λo z=>(aw o (k.trans z.1) z.2)))⟩,λx ys σ' s' Q E' z I' hm hQ=>?_,λσ' s' Q E' z I' hm hQ=>?_,λxs s' Q E' z q=>z.2.elim λi z=>wpAny_pyIter_tupleiter z.2 q⟩,⟨TK.push _,0,rfl,_,cH _ rfl,rfl,rfl⟩,f1,f2,TK.push _,h⟩
 .obtain ⟨tk,i,e,hit⟩:=z
  refine aC (rs.get e.symm) λv hv rv=>?_
  refine next_tuple_item hit (up tk) (x:=v) (by simpa using hv) λh' hit' hs'=>?_
  have tk2:TK s'.heap h':=λb o vs n e' hc hd=>(bh o ((hs'.2 b λq=>by
   refine br hit λoi ei ci di=>?_;clear hit
   replace e':=ei▸q▸e';refine(λj0=>?_) (bj e');clear e';subst j0;replace hd:=di▸hd;cases hd).trans e') hc hd)
  exact hQ v h' s'.toks (rv.tk (tk.trans tk2)) ⟨tk.trans tk2,i+1,drop_tail e.symm,hit'⟩ (λb o hb e=>(hs'.2 b hb).trans e) (bk _)
 .obtain ⟨tk,i,e,hit⟩:=z
  exact next_tuple_end hh hit (up tk) (by have:=rs.end e.symm;simpa using this) λh' he=>hQ h' _ (λb o hb e=>he b o hb e) (bk _)
end
end
section
def nJ(h:am)(r:Int×Int×Int)(v:ag):Prop:=∃a t u w,v = .ref a/\IsRange h a r.1 r.2.1 r.2.2 t u w
noncomputable def nZ:Nat->Int->Int->List PV
 | 0,_,_=>[]
 | n+1,x,d=>.int x::nZ n (x+d) d
section
variable {c:FC}{σ:AS}{E:aG->AS->Prop}{N:AS->Prop}{Q:bO->AS->Prop}{K:(AS->Prop)->List PV->AS->Prop}
theorem cL.type{X:Type}{ρ:am->X->ag->Prop}{id:String}{xs:List PV}{Q:X->AS->Prop}(h:∀s vs,In c σ s->aB s.heap xs vs->au (av aF c.w) c.A (call (.type id) vs) (cw c ρ s Q) (EPost c E) s):cL c ρ (.val (.type id)) xs [] [] σ Q E:=by
 intro s fv vs kvs I rf rx rk
 obtain rfl:fv = .type id:=rf
 unfold iV mV
 exact ah (aE (h s vs I rx))
theorem Ec{a b:Int}{Q:Int×Int×Int->AS->Prop}(h:Q (a,b,1) σ):cL c nJ (.val (.type "range")) [.int a,.int b] [] [] σ Q E:=cL.type λs vs I r=>by
 refine bM (eQ r) λv1 v2 j1 j2 j3=>?_;subst j1;refine aP j2 λt1 j4=>?_;clear j2;subst j4;refine aP j3 λt2 j5=>?_;clear j3;subst j5
 exact call_range_2 ⟨(a,b,1),σ,(I.push _).tok _,(F4 _ _ _ _ rfl (IsRange.new _ _ _ _ _ _ _)),TK.push _,h⟩
theorem Oj{a b d:Int}{Q:Int×Int×Int->AS->Prop}(hd:d≠0)(hp:Builtin.divisionGoesByPylong (b-a) d=false)(h:Q (a,b,d) σ):cL c nJ (.val (.type "range")) [.int a,.int b,.int d] [] [] σ Q E:=cL.type λs vs I r=>by
 refine i9 (pU r) λv1 v2 v3 j1 j2 j3 j4=>?_;subst j1;refine aP j2 λt1 j5=>?_;clear j2;subst j5;refine aP j3 λt2 j6=>?_;clear j3;subst j6;refine aP j4 λt3 j7=>?_;clear j4;subst j7
 exact call_range_3 hd ⟨(a,b,d),σ,(I.push _),(F4 _ _ _ _ rfl (IsRange.new _ _ _ _ _ _ _)),TK.push _,h⟩ (.inl hp)
theorem my.of{e:aL}(h:Ev c e σ (λv aq=>il c v aq K E) E):my c e σ K E:=λs I=>
 bH (h s I) (λval ay v aq aQ aZ k₁ a7=>bn (a7 ay val aQ aZ) (λit s' p=>by
  cases p with | mk I G St xs σ' h1 h2 h3 h4 h5 h6 h8 h7=>exact⟨I,G,St,xs,σ',h1,h2,h3,h4,h5,h6,k₁.trans h8,h7⟩) λZ Z z=>z)
theorem my.range{e:aL}(hh:c.A.handled=none)(h:k9 c nJ e σ (λr aq=>Bv r.1 r.2.1 r.2.2=true/\K (λZ=>True) (nZ (kl r.1 r.2.1 r.2.2).toNat r.1 r.2.2) aq) E):my c e σ K E:=λs I=>by
 refine bH (h s I) λval ay r aq aQ hr k₁ a7=>?_
 refine(λj1=>?_) a7;clear a7;refine aN j1 λhsm a7=>?_;clear j1
 obtain ⟨a,b,d⟩:=r
 refine(λj2=>?_) hr;clear hr;refine Hh j2 λr t u w j1 hr=>?_;clear j2;subst j1
 dsimp only at hr hsm a7
 refine aN (nS aQ) λf1 f2=>?_
 refine Zf hr hsm ?_
 have hsz:0<=kl a b d:=by
  unfold kl
  split
  .split
   .rename_i h1 h2
    have:=Zg (a:=b-a-1) (b:=d) (by lia) (by exact Zh ‹_›)
    exact Zi ‹_›
   .exact Lj 0
  .split
   .rename_i h1 h2
    have:=Zg (a:=a-b-1) (b:=-d) (by lia) (by lia)
    exact Zi ‹_›
   .exact Lj 0
 refine⟨_,_,(λxs h=>∃(n:Nat) (x:Int),xs=nZ n x d/\Bw h ay.heap.objs.size x n d),_,aq,rfl,aQ.push _,⟨λxs h z=>z.elim λn z=>z.elim λx z=>⟨_,_,_,z.2,rfl,by decide,rfl,λq t z=>by simp[bW] at z⟩,λxs h h' z k Z=>z.elim λn z=>z.elim λx z=>(cM n x z.1 (k.trans z.2)),λx xs σ' s' Q E' z I' Z hQ=>?_,λσ' s' Q E' z I' Z hQ=>?_,λxs s' Q E' z q=>z.elim λn z=>z.elim λy z=>Zj z.2 q⟩,(cM ((kl a b d).toNat) a rfl ?_),f1,f2,k₁.trans (TK.push _),a7⟩
 .refine gE z λn y e hit=>?_;clear z
  cases n with
  | zero=>exact qX e
  | succ n=>
   have e1:x = .int y:=by injection e
   have e2:xs=nZ n (y+d) d:=by injection e
   subst e1 e2
   refine wpAny_pyNext_range_item hit (by exact Int.ofNat_succ_pos _) λh' hit' hs'=>hQ _ h' _ ⟨_,rfl⟩ (cM n (y+d) rfl ?_) (λb o hb e=>(hs'.2 b hb).trans e) (fe _)
   have:(((n+1:Nat):Int)-1)=(n:Int):=by exact Int.sub_eq_iff_eq_add.mpr rfl
   replace hit':=this▸hit';exact hit'
 .refine gE z λn y e hit=>?_;clear z
  cases n with
  | succ n=>exact rW e
  | zero=>exact Zk hh hit (by decide) λh' he=>hQ h' _ (λb o hb e=>he b o hb e) (bk _)
 .have:=cH ay.heap (o:={cls:=.type "range_iterator",data:=.fields #[bW a,bW (kl a b d),bW d]}) rfl
  show(ay.heap.push _).get? _=_
  rw[(Zl hsz)];exact this
end
end
section
section
variable {c:FC}{σ:AS}{E:aG->AS->Prop}{Q:PV->AS->Prop}{s s':ai}
theorem In.jc{a:aj}{ao:AO}(I:In c σ s)(I':In c σ s')(hn:s.heap.get? a=none)(hro:RO s'.heap c.w.params a ao)(hsl:∀es,ao = .bx es->∃o,s'.heap.get? a=some o/\o.slots = #[]:=by exact λZ h=>nomatch h):In c {σ with st:=(a,ao)::σ.st} s':=by
 obtain ⟨mm,⟨⟨m,⟨oL,es,ep,eL,dL,rL⟩,hmm⟩,hcel⟩,hr⟩:=I.ns
 have hnst:∀ao,(a,ao)∉σ.st:=λao h=>by
  refine aC ((I.st a ao h).1.there) λo e Z=>?_
  exact bI (hn▸e)
 refine⟨I'.b0,I'.fr,I'.up1,I'.cq,I'.ns,λb bo hb=>?_,I'.L0,I'.L1,I'.Lo,I'.tab,I'.os,I'.gens,?_,I'.tk,λb es hb=>?_⟩
 .rcases cB.mp hb with q | hb
  .cases q
   refine(lh hro (λq=>?_) (I.vw hn) ?_ (λx b hx q=>?_))
   .replace hn:=q▸hn;exact nV (eL▸hn)
   .cases q:c.b0.get? a with
    | none=>rfl
    | some o=>have:=I.b0 _ _ q;exact bI (hn▸this)
   .refine aC (hcel x b hx) λo e Z=>?_
    exact bI (hn▸q▸e)
  .exact I'.st b bo hb
 .rw[cJ,jn]
  refine⟨λh=>?_,I'.nd⟩
  refine aC (cO.mp h) λp hp e=>?_
  exact hnst p.2 (by obtain ⟨p1,p2⟩:=p;dsimp only at e;rw[<-e];exact hp)
 .rcases cB.mp hb with q | hb
  .cases q
   refine⟨λe he hf=>?_,hsl es rfl⟩
   obtain ⟨_,o,e1,_⟩:=I.fr.mem (qm.mpr (aw e he hf))
   exact bI (hn▸e1)
  .exact I'.dc b es hb
inductive Binds:aL->PV->List (af×PV)->Prop
 | name {x:af} {p:aT} {v:PV}:Binds (.Name x p) v [(x,v)]
 | zT {x y:af} {p q t:aT} {k:Nat} {a b:PV}:(x==y)=false->Binds (.Tuple [.Name x p,.Name y q] k t) (.tup [a,b]) [(x,a),(y,b)]
def EE(h:am)(m:af->Option ag)(bs:List (af×PV)):Prop:=∀p∈bs,∃v,m p.1=some v/\RV h p.2 v
abbrev R6(s:ai)(y:PV)(yv:ag)(s':ai):Prop:=∃h' tk',s'={s with heap:=h',toks:=tk'}/\(∀b o,s.heap.get? b=some o->h'.get? b=some o)/\s.toks<=tk'/\RV h' y yv
def iu(c:FC)(σ:AS)(scope:dA)(cl:List (af×aj))(elt:aL)(bs:List (af×PV))(y:PV):Prop:=∀(s:ai) (C:aj) (m:af->Option ag) (E':ag->ai->Prop),In c σ s->s.heap.Ns C m->EE s.heap m bs->
 au (av aF c.w) c.A (eval elt (gy scope cl C c.env)) (R6 s y) E' s
def jM(c:FC)(σ:AS)(scope:dA)(cl:List (af×aj))(elt cG:aL):List PV->List PV->Prop
 | [],ys=>ys=[]
 | x::xs,ys=>∃y r bs,ys=y::r/\Binds cG x bs/\iu c σ scope cl elt bs y/\jM c σ scope cl elt cG xs r
noncomputable def um:aL->List af
 | .Name x _=>[x]
 | .Tuple [.Name x _,.Name y _] _ _=>[x,y]
 | _=>[]
set_option tactic.hygienic true in
theorem WF{cG:aL}{x:PV}{bs:List (af×PV)}{scope:dA}{cl:List (af×aj)}{C:aj}{m:af->Option ag}{v:ag}{Q':Unit->ai->Prop}{E':ag->ai->Prop}(hh:c.A.handled=none)(hkind:scope.kind = .function)(B:Binds cG x bs)(hx:∀n∈um cG,scope.names.lookup n=some .local)
  (hns:s.heap.Ns C m) (r:RV s.heap x v) (h:∀h' m' tk',(∀b o,b≠C->s.heap.get? b=some o->h'.get? b=some o)->TK s.heap h'->h'.Ns C m'->EE h' m' bs->s.toks<=tk'->Q' () {s with heap:=h',toks:=tk'}):au (av aF c.w) c.A (assign cG (gy scope cl C c.env) v) Q' E' s:=by
 have hp:((gy scope cl C c.env).scope.kind==.class||((gy scope cl C c.env).scope.kind==.module&&(gy scope cl C c.env).locals !=(gy scope cl C c.env).globals))=false:=by simp[gy,relabel,hkind]
 have tkC:∀{h h':am} {m:af->Option ag},h.Ns C m->cW C h h'->TK h h':=λhn hs b o vs n e hc hd=>(bh o ((hs.2 b λq=>by
  refine io hn λoc es ep ec dc Z=>?_;clear hn
  replace e:=ec▸q▸e;refine(λj0=>?_) (bj e);clear e;subst j0;replace hd:=dc▸hd;cases hd).trans e) hc hd)
 cases B with
 | name=>
  rename_i n p
  refine assign_Name (wo (te (hx n (.head _))) hns (λh' hn' hs'=>?_) hp)
  refine h h' _ _ (λb o hb e=>(hs'.2 b hb).trans e) (tkC hns hs') hn' (λq hq=>?_) (fe _)
  rw[eX.mp hq]
  exact(aw v (by exact aA rfl) (r.tk (tkC hns hs')))
 | zT hxy=>
  rename_i n1 n2 p1 p2 tp k a b
  obtain ⟨t,o,vs,n,rfl,ho,hc,hd,rs⟩:=r
  refine bM (eQ rs) λva vb hvs ra rb=>?_
  have hvs:vs = #[va,vb]:=by rw[<-lU,hvs]
  subst hvs
  refine assign_Tuple_tuple hh (bh o ho hc ⟨n,hd⟩) rfl rfl λh5 he=>?_
  have he':∀b o,s.heap.get? b=some o->h5.get? b=some o:=λb o e=>he b o (jq (dR e)) e
  refine assignInOrder_cons (Zm (wo (te (hx n1 (.head _))) (hns.at' λo e=>he' _ o e) (λw9 l8 tE=>?_) hp))
  refine assignInOrder_cons (Zm (wo (te (hx n2 (.tail _ (.head _)))) l8 (λfY aay Mq=>?_) hp))
  refine assignInOrder_nil ?_
  have tk6:=tkC (hns.at' λo e=>he' _ o e) tE
  have tk3:=tkC l8 Mq
  have tk:=(.of_keeps he':TK s.heap h5).trans (tk6.trans tk3)
  refine h fY _ _ (λb o hb e=>(Mq.2 b hb).trans ((tE.2 b hb).trans (he' b o e))) tk aay (λq hq=>?_) (by dsimp only;lia)
  have hne:n1≠n2:=λq=>by replace hxy:=q▸hxy;simp at hxy
  simp only[cB,th,or_false] at hq
  rcases hq with rfl | rfl
  .exact(aw va (by simp[hne]) (ra.tk tk))
  .exact(aw vb (by exact aA rfl) (rb.tk tk))
theorem NP{R:gU->ai->Prop}{w:aR}{A:bZ}{elt cG iter:aL}{scope:dA}{pos:aT}{it acc:ag}{env:bB}(J:Nat->ai->Prop)
  (turn:∀n s,J n s->au (av aF w) A (i4 it) (λr ay=>match r with
   | none=>R (.ok .next) ay
   | some v=>au (av aF w) A (Li cG it v) (λZ Mr=>au (av aF w) A (assign cG env v) (λZ bc=>
     au (av aF w) A (eval elt env) (λx m5=>
       au (av aF w) A (call (.builtin "list.append") [acc,x]) (λZ fZ=>∃m,m<n/\J m fZ) (kS (av aF w) A env λe s'=>R (.error e) s') m5) (kS (av aF w) A env λe s'=>R (.error e) s') bc)
     (kS (av aF w) A env λe s'=>R (.error e) s') Mr) (kS (av aF w) A env λe s'=>R (.error e) s') ay) (kS (av aF w) A env λe s'=>R (.error e) s') s)
  (n:Nat) (h:J n s):kh (av aF w) A (.compLoop (.ListComp elt [⟨cG,iter,[],0⟩] scope pos) 0 it acc env) R s:=by
 refine codeAny_loop rfl J (λn s hI=>?_) n h
 show au _ A ((compTurn (.ListComp elt [⟨cG,iter,[],0⟩] scope pos) 0 it acc env).onRaise (λx=>do wi x env;Zc x)) _ _ s
 refine wpAny_noted ?_
 rw[compTurn_list]
 refine ah (d9 (ah (bn (turn n s hI) (λr ay bX=>?_) λZ Z h'=>h')))
 cases r with
 | none=>exact aE bX
 | some v=>
  refine ah (bn bX (λZ Mr aaz=>?_) λZ Z h'=>h')
  refine ah (bn aaz (λZ bc m8=>ah (bn (wpAny_tests_nil (Q:=λok bg=>ok=true/\bg=bc) ⟨rfl,rfl⟩) (λok bg fY=>?_) λZ Z h'=>h')) λZ Z h'=>h')
  refine aN fY λj1 j2=>?_;clear fY;subst j1;subst j2
  exact ah (ah (bn m8 (λx m5 Mo=>ah (bn Mo (λZ fZ aaA=>aE (aE ⟨rfl,aaA⟩)) λZ Z h'=>h')) λZ Z h'=>h'))
inductive Xb(c:FC)(aq:AS)(scope:dA)(cl:List (af×aj))(elt cG:aL)(bc:ai)(It D C:aj)(St:List PV->am->Prop)(N:Nat)(ys:List PV)(n:Nat)(s':ai):Prop
 | mk (h':am) (tk:Nat) (xs' ysd ysr:List PV) (its:Array ag) (k:Nat) (m':af->Option ag) (es:s'={bc with heap:=h',toks:=tk}) (en:n=xs'.length) (ht:bc.toks<=tk) (st:St xs' h') (keep:∀b o,b≠It->bc.heap.get? b=ij o->h'.get? b=ij o)
  (ho:h'.get? D=ij {cls:=.type "list",data:=.seq its k}) (hr:aB h' ysd its.toList) (hlen:its.size+xs'.length=N) (hys:ys=ysd++ysr) (hC:jM c aq scope cl elt cG xs' ysr) (hns:h'.Ns C m')
theorem Ev.comp{elt iter cG:aL}{scope:dA}{cl:List (af×aj)}{pos:aT}(hh:c.A.handled=fW)(hs:∀x,Zn iter c.env x=pure x)(hclos:l5 scope c.env=pure cl)
  (hcell:(scope.names.all λy=>y.2 !=.cell)=true) (hkind:scope.kind = .function) (hnames:(scope.names.all λy=>y.2 !=.local||scope.names.lookup y.1==ij .local)=true) (hx:((um cG).all λn=>scope.names.lookup n==ij .local)=true)
  (h:my c iter σ (λG xs aq=>G aq/\∃ys,jM c aq scope cl elt cG xs ys/\xs.length<=16777216/\∀a,(∀ao,(a,ao)∉aq.st)->Q (.val (.ref a)) {aq with st:=(a,.lst ys)::aq.st}) E) :
  Ev c (.ListComp elt [⟨cG,iter,[],0⟩] scope pos) σ Q E:=λs I=>by
 have hcell':∀y∈scope.names,y.2≠.cell:=λy hy q=>by have:=fE.mp hcell y hy;replace this:=q▸this;exact absurd this (by decide)
 have hnames':∀y∈scope.names,y.2 = .local->scope.names.lookup y.1=ij .local:=λy hy q=>by
  have:=fE.mp hnames y hy
  replace this:=q▸this
  simpa using this
 have hx':∀n∈um cG,scope.names.lookup n=ij .local:=λn hn=>eq_of_beq (fE.mp hx n hn)
 rw[eval_ListComp]
 refine wpAny_comprehension_free (g:=⟨cG,iter,[],0⟩) (gs:=[]) (use:=fW) rfl hs hclos hkind hnames' (bn (h s I) (λxv ay bX=>bn bX (λit bc m8=>?_) λZ Z e=>e) λZ Z e=>e)
 cases m8 with | mk It G St xs aq hit a_ W hst hF h0 aaB q=>
 obtain ⟨hG,ys,hC,hsz,hQ⟩:=q
 subst hit
 refine kf (wpAny_newFunctionEnv hcell' (by intro y hy;simp at hy) (λbX Cd w'=>?_) hkind)
 dsimp only at Cd w' |-
 generalize hH2:bc.heap.push {cls:=.type "list",dict:=fW,data:=.seq ([]:List ag).toArray}=H2 at Cd w' |-
 have hCs:H2.objs.size=bc.heap.objs.size+1:=by rw[<-hH2,mR]
 have hDC:bc.heap.objs.size≠H2.objs.size:=by rw[hCs];exact jq (dm _)
 have hDn:bc.heap.get? bc.heap.objs.size=fW:=fb (bk _)
 have hCn:bc.heap.get? H2.objs.size=fW:=fb (by rw[hCs];exact fe _)
 have old:∀b o,bc.heap.get? b=ij o->bX.get? b=ij o:=λb o e=>(w'.2 b (λq=>by exact bI (hCn▸q▸e))).trans (dy _ (hH2▸dy _ e))
 have hacc:bX.get? bc.heap.objs.size=ij {cls:=.type "list",data:=.seq #[] 0}:=(w'.2 _ hDC).trans (dy _ (hH2▸cH _ rfl))
 have O:=W.obj _ _ hst
 refine gN O.ok λoI nI vI eI cI hnI dI sI=>?_
 have hIC:It≠H2.objs.size:=λq=>by exact bI (hCn▸q▸eI)
 have hID:It≠bc.heap.objs.size:=λq=>by exact bI (hDn▸q▸eI)
 generalize hD:bc.heap.objs.size=D at *
 generalize hCC:H2.objs.size=C at *
 have fin:∀(h':am) (tk:Nat) (its:Array ag) (n:Nat),(∀b o,b≠It->bc.heap.get? b=ij o->h'.get? b=ij o)->bc.toks<=tk->h'.get? D=ij {cls:=.type "list",data:=.seq its n}->aB h' ys its.toList->
   cw c RV s Q (.ref D) {bc with heap:=h',toks:=tk}:=by
  intro h' tk its n k ht ho hr
  refine⟨.val (.ref D),_,a_.jc (a_.iter O hF h0 k ht) hDn (ao:=.lst ys) ?_,rfl,?_,hQ D λao hm=>?_⟩
  .unfold RO;exact⟨_,its,n,ho,⟨rfl,rfl⟩,rfl,hr⟩
  .exact aaB.trans λb o vs n e hc hd=>(bh o (k b o (λq=>by replace e:=eI▸q▸e;refine(λj0=>?_) (bj e);clear e;subst j0;replace hd:=dI▸hd;cases hd) e) hc hd)
  .refine aC ((a_.st D ao hm).1.there) λo e Z=>?_
   exact bI (hDn▸e)
 have loop:∀bg:ai,bg={bc with heap:=bX,toks:=bc.toks+([]:List (af×ag)).length}->
   kh (av aF c.w) c.A (.compLoop (.ListComp elt [⟨cG,iter,[],0⟩] scope pos) 0 (.ref It) (.ref D) (gy scope cl C c.env)) (compPost (av aF c.w) c.A (EPost c E) fW (cw c RV s Q) (.ref D) C) bg:=by
  rintro bg rfl
  refine NP (Xb c aq scope cl elt cG bc It D C St xs.length ys) ?_ xs.length
   ⟨bX,_,xs,[],ys,#[],0,_,rfl,rfl,bk _,W.frame _ _ _ hst (by rw[eI];exact old _ _ eI) (.of_keeps old),λb o Z e=>old b o e,hacc,aB.nil,by exact Nat.add_eq_right.mpr rfl,rfl,hC,Cd⟩
  intro n s' J
  cases J with | mk h' tk xs' ysd ysr its k m' es en ht hst' keep ho hr hlen hys hC' hns'=>
  subst es en
  have I':In c aq {bc with heap:=h',toks:=tk}:=a_.iter O hF h0 keep ht
  cases xs' with
  | nil=>
   have hys':ysr=[]:=hC'
   subst hys'
   replace hys:=(gQ ..)▸hys
   subst hys
   refine W.done aq _ _ _ hst' I' hG λh2 tk2 k2 ht2=>?_
   have tkI:TK h' h2:=λb o vs n e hc hd=>(bh o (k2 b o (λq=>by
    refine gN ((W.obj _ _ hst').ok) λoJ Z Z eJ Z Z dJ Z=>?_
    replace e:=eJ▸q▸e;refine(λj0=>?_) (bj e);clear e;subst j0;replace hd:=dJ▸hd;cases hd) e) hc hd)
   have nC:h2.Ns C m':=hns'.at' λo e=>k2 _ o (cV hIC) e
   refine(aw m' nC (λh3 hs3=>?_))
   have tk3:TK h2 h3:=λb o vs n e hc hd=>(bh o ((hs3.2 b λq=>by
    refine io nC λoc es ep ec dc Z=>?_;clear nC
    replace e:=ec▸q▸e;refine(λj0=>?_) (bj e);clear e;subst j0;replace hd:=dc▸hd;cases hd).trans e) hc hd)
   exact fin h3 tk2 its k (λb o hb e=>(hs3.2 b (λq=>by exact bI (hCn▸q▸e))).trans (k2 b o hb (keep b o hb e))) (aJ ht ht2) ((hs3.2 D hDC).trans (k2 D _ (cV hID) ho)) (hr.tk (tkI.trans tk3))
  | cons x xs'=>
   refine i9 hC' λy r bs hy hB hE hC2=>?_;clear hC'
   subst hy
   refine W.item x xs' aq _ _ _ hst' I' hG λv h2 tk2 rv st2 k2 ht2=>?_
   have tkI:TK h' h2:=λb o vs n e hc hd=>(bh o (k2 b o (λq=>by
    refine gN ((W.obj _ _ hst').ok) λoJ Z Z eJ Z Z dJ Z=>?_
    replace e:=eJ▸q▸e;refine(λj0=>?_) (bj e);clear e;subst j0;replace hd:=dJ▸hd;cases hd) e) hc hd)
   refine F9 (W.obj _ _ st2) ?_
   refine WF hh hkind hB hx' (hns'.at' λo e=>k2 _ o (cV hIC) e) rv λh3 m3 tk3 k3 tkA nC3 bd ht3=>?_
   have keep3:∀b o,b≠It->bc.heap.get? b=ij o->h3.get? b=ij o:=λb o hb e=>k3 b o (λq=>by exact bI (hCn▸q▸e)) (k2 b o hb (keep b o hb e))
   refine bn (hE {bc with heap:=h3,toks:=tk3} C m3 _ (a_.iter O hF h0 keep3 (aJ ht (aJ ht2 ht3))) nC3 bd) (λyv s4 p=>?_) λZ Z e=>e
   refine lH p λh4 tk4 j1 k4 ht4 ry=>?_;clear p;subst j1
   have hoD:h4.get? D=ij {cls:=.type "list",data:=.seq its k}:=k4 _ _ (k3 D _ hDC (k2 D _ (cV hID) ho))
   refine append_at hoD (λh5 hs5 hD5=>?_) (by rw[eW];lia)
   have tk5:TK h4 h5:=λb o vs n e hc hd=>(bh o ((hs5.2 b λq=>by replace e:=hoD▸q▸e;refine(λj0=>?_) (bj e);clear e;subst j0;exact absurd (show mY "list" = mY "tuple" from hc) (by decide)).trans e) hc hd)
   have st3:St xs' h3:=W.frame _ _ _ st2 (by
    refine dU ((W.obj _ _ st2).ok) λoJ Z Z eJ Z=>?_
    rw[eJ];exact k3 _ _ hIC eJ) tkA
   have st4:St xs' h4:=W.frame _ _ _ st3 (by
    refine dU ((W.obj _ _ st3).ok) λoJ Z Z eJ Z=>?_
    rw[eJ];exact k4 _ _ eJ) (.of_keeps k4)
   refine(aw xs'.length (dm _) ⟨h5,tk4,xs',ysd++[y],r,its.push yv,k+1,m3,rfl,rfl,aJ ht (aJ ht2 (aJ ht3 ht4)),W.frame _ _ _ st4 (hs5.2 _ hID) tk5,
    λb o hb e=>(hs5.2 b (λq=>by exact bI (hDn▸q▸e))).trans (k4 _ _ (keep3 b o hb e)),hD5,?_,by rw[sM];simp only[b_] at hlen;((with_reducible refine(gu _ _ _).trans ?h1);(case h1=>assumption)),by rw[hys,fF];rfl,hC2,(nC3.keeps k4).at' λo e=>(hs5.2 _ (cV hDC)).trans e⟩)
   rw[oy]
   exact(hr.tk (tkI.trans (tkA.trans ((TK.of_keeps k4).trans tk5)))).append (aB.cons (ry.tk tk5) aB.nil)
 exact codeAny_compStart_list (loop _ rfl) (W.self _ _ _ _ (W.frame _ _ _ hst (by rw[eI];exact old _ _ eI) (.of_keeps old)) (loop _ rfl))
end
end
section
inductive fC(a:aj)(y:AO):List (aj×AO)->List (aj×AO)->Prop
 | head {x:AO} {r:List (aj×AO)}:fC a y ((a,x)::r) ((a,y)::r)
 | tail {b:aj} {x:AO} {r r':List (aj×AO)}:fC a y r r'->fC a y ((b,x)::r) ((b,x)::r')
theorem fC.keys{a:aj}{y:AO}{r r':List (aj×AO)}(U:fC a y r r'):r'.map dq=r.map dq:=by
 induction U with
 | head=>rfl
 | tail _ ih=>simp[ih]
theorem fC.old{a:aj}{y:AO}{r r':List (aj×AO)}(U:fC a y r r'):∃x,(a,x)∈r:=by
 induction U with
 | head=>exact⟨_,.head _⟩
 | tail _ ih=>refine aP ih λx h=>?_;clear ih;exact⟨x,.tail _ h⟩
theorem fC.mem{a:aj}{y:AO}{r r':List (aj×AO)}(U:fC a y r r')(nd:(r.map dq).Nodup):∀{b:aj} {z:AO},(b,z)∈r'->(b=a/\z=y)\/(b≠a/\(b,z)∈r):=by
 induction U with
 | @head x r=>
  intro b z h
  replace nd:=cJ▸nd;rewrite[jn] at nd
  rcases cB.mp h with q | h
  .cases q;exact .inl ⟨rfl,rfl⟩
  .refine .inr ⟨λq=>nd.1 (cO.mpr (aw (b,z) h q)),.tail _ h⟩
 | @tail b' x r r' U ih=>
  intro b z h
  replace nd:=cJ▸nd;rewrite[jn] at nd
  rcases cB.mp h with q | h
  .cases q
   refine .inr ⟨λq=>?_,.head _⟩
   refine aP U.old λx' hx=>?_
   exact nd.1 (cO.mpr (aw (a,x') hx q.symm))
  .rcases ih nd.2 h with q | ⟨q1,q2⟩
   .exact .inl q
   .exact .inr ⟨q1,.tail _ q2⟩
section
variable {c:FC}{σ:AS}{E:aG->AS->Prop}{Q:PV->AS->Prop}{s:ai}{a:aj}{xs ys:List PV}{st':List (aj×AO)}
theorem In.upd{y:AO}{h':am}{tk:Nat}(I:In c σ s)(U:fC a y σ.st st')(hs:cW a s.heap h')(hro:RO h' c.w.params a y)(ht:s.toks<=tk)(hsl:∀es,y = .bx es->(∃es',(a,.bx es')∈σ.st)/\∃o,h'.get? a=some o/\o.slots = #[]:=by exact λZ h=>nomatch h):In c ⟨σ.loc,st'⟩ {s with heap:=h',toks:=tk}:=by
 refine aP U.old λx hx=>?_
 refine gj (I.st a x hx) λrx hL hF hb hcl=>?_
 refine br rx.there λoa ea na ta=>?_
 refine br hro.there λoa' ea' na' ta'=>?_
 have nf:∀b o vs,s.heap.get? b=some o->o.data = .fields vs->b≠a:=λb o vs e d q=>by replace e:=ea▸q▸e;refine(λj0=>?_) (bj e);clear e;subst j0;exact na _ d
 have tk':TK s.heap h':=λb o vs n e hc hd=>(bh o ((hs.2 b λq=>by replace e:=ea▸q▸e;refine(λj0=>?_) (bj e);clear e;subst j0;exact ta hc).trans e) hc hd)
 obtain ⟨mm,⟨⟨m,hns,hmm⟩,hcel⟩,hr⟩:=I.ns
 refine⟨λb o e=>(hs.2 b λq=>by exact bI (hb▸q▸e)).trans (I.b0 b o e),u_ I.fr λb o e n=>?_,λb o vs e h1 hcn h2=>(hs.2 b (nf b o vs (I.up1 b o vs e h1 hcn h2) h2)).trans (I.up1 b o vs e h1 hcn h2),λb o e h1 h2=>?_,
  (aw mm ⟨(aw m (hns.sameBut hs (cV hL)) hmm),λz b hz=>(hcel z b hz).sameBut hs (hcl z b hz)⟩ (λz=>(hr z).tk tk')),λb bo hbm=>?_,I.L0,I.L1,I.Lo,λy hy=>?_,I.os,I.gens,by rw[U.keys];exact I.nd,aJ I.tk ht,λb es hbm=>?_⟩
 .by_cases q:b=a
  .exact(aw oa' (q▸ea') na')
  .exact(aw o ((hs.2 b q).trans e) n)
 .refine aP (I.cq b o e h1 h2) λsl q=>?_
  refine⟨sl,(hs.2 b λz=>?_).trans q⟩
  rcases hF o (z▸e) with w | ⟨vs,w,_⟩
  .exact h1 (z▸w)
  .exact h2 _ w
 .rcases U.mem I.nd hbm with⟨rfl,rfl⟩ | ⟨q,hb'⟩
  .exact(lh hro hL hF hb hcl)
  .refine aN (I.st b bo hb') λr h1=>?_
   exact⟨r.tk tk' λo e Z=>⟨o.slots,(hs.2 b q).trans e⟩,h1⟩
 .rcases I.tab y hy with e | ⟨kk,ok,vs,tk,e1,e2,e3,e4⟩
  .exact .inl ((hs.2 _ (nf _ _ _ e rfl)).trans e)
  .exact .inr ⟨kk,ok,vs,tk,(hs.2 _ (nf _ _ _ e1 rfl)).trans e1,(hs.2 _ (nf _ _ _ e2 e3)).trans e2,e3,e4⟩
 .rcases U.mem I.nd hbm with⟨rfl,e⟩ | ⟨q,hb'⟩
  .refine aN (hsl es e.symm) λj1 h2=>?_;refine aP j1 λes' h1=>?_;clear j1
   exact⟨(I.dc _ _ h1).1,h2⟩
  .obtain ⟨p,o,e,q2⟩:=I.dc b es hb'
   exact⟨p,o,(hs.2 b q).trans e,q2⟩
theorem In.lst(I:In c σ s)(hm:(a,.lst xs)∈σ.st):∃o vs n,s.heap.get? a=some o/\o.cls = .type "list"/\o.dict=none/\o.data = .seq vs n/\aB s.heap xs vs.toList/\vs.size=xs.length:=by
 refine aN (I.st _ _ hm) λr Z=>?_
 obtain ⟨o,vs,n,e,⟨hc,hk⟩,d,r⟩:=r
 exact(xD o vs n e hc hk d r (by rw[<-r.length];simp))
theorem iy:bN=16777216:=eW
theorem WD{vs:List ag}{aV:ai}(I:In c σ s)(r:aB s.heap xs vs)(k:TK aV.heap s.heap)(hz:xs.length<=16777216)(h:∀a,(∀ao,(a,ao)∉σ.st)->Q (.val (.ref a)) {σ with st:=(a,.lst xs)::σ.st}) :
  au (av aF c.w) c.A (newList vs) (cw c RV aV Q) (EPost c E) s:=by
 have hn:=fb (bk s.heap.objs.size)
 have hl:=r.length
 refine kf ?_ (by show vs.toArray.size<=bN;rw[iy];simp;lia)
 refine⟨.val (.ref s.heap.objs.size),_,I.jc (I.push _) hn (ao:=.lst xs) ?_,rfl,k.trans (TK.push _),h _ λao hm=>?_⟩
 .unfold RO
  exact⟨_,vs.toArray,0,cH _ rfl,⟨rfl,rfl⟩,rfl,r.tk (TK.push _)⟩
 .refine aC ((I.st _ ao hm).1.there) λo e Z=>?_
  exact bI (hn▸e)
theorem Ev.list{elts:List aL}{pos:aT}(hn:noStar elts)(hl:elts.length<=1000)(h:b7 c elts σ (λxs aq=>∀a,(∀ao,(a,ao)∉aq.st)->Q (.val (.ref a)) {aq with st:=(a,.lst xs)::aq.st}) E):Ev c (.List elts pos) σ Q E:=λs I=>by
 show au _ _ (do iF pos;newList (<-spliced (kR pos (lX elts c.env)))) _ _ s
 refine ah (d9 ?_)
 rw[hn]
 refine ah (bn (t7 pos elts σ _ (b7.len h) s I) (λvs ay p=>p.elim λxs aq aQ aZ k₁ qP=>?_) λZ Z x=>x)
 refine aN qP λa7 bz=>?_;clear qP
 exact WD aQ aZ k₁ (by lia) bz
theorem dh.lst{name:af}{id:String}{K:PV->List PV->AS->Prop}(hm:(a,.lst xs)∈σ.st)(slot:Slot "list" name id)(ty:gw (.builtin id)=pure (.type "method_descriptor"))(h:K (.val (.builtin id)) [.val (.ref a)] σ):dF c (.val (.ref a)) name σ K E:=λs ov pl I e=>by
 obtain rfl:ov = .ref a:=e
 refine eu (I.lst hm) λo vs n eo hc hk hd r hz=>?_
 exact Ld (aw o eo hc) PySem.F.plainAttrs_list slot ty (λb e=>by cases e;exact(aw o eo hk)) ⟨.val (.builtin id),[.val (.ref a)],σ,I,rfl,aB.cons rfl aB.nil,TK.refl _,h⟩
theorem dh.append{K:PV->List PV->AS->Prop}(hm:(a,.lst xs)∈σ.st)(h:K (.val (.builtin "list.append")) [.val (.ref a)] σ):dF c (.val (.ref a)) (ae "append") σ K E:=dh.lst hm Zo PySem.F.type_list_append h
theorem OX{K:PV->List PV->AS->Prop}(hm:(a,.lst xs)∈σ.st)(h:K (.val (.builtin "list.extend")) [.val (.ref a)] σ):dF c (.val (.ref a)) (ae "extend") σ K E:=dh.lst hm Zp PySem.F.type_list_extend h
theorem CC{A:bZ}{o:ax}{vs ws:Array ag}{n:Nat}{f:Array ag->Array ag}{Q':Unit->ai->Prop}{E':ag->ai->Prop}(I:In c σ s)(U:fC a (.lst ys) σ.st st')(eo:s.heap.get? a=some o)(hc:o.cls = .type "list")(hk:o.dict=none)(hd:o.data = .seq vs n)(hf:f vs=ws)(r:aB s.heap ys ws.toList)(hz:vs.size<=16777216)(hz':ws.size<=16777216+1)
  (h:∀h',In c ⟨σ.loc,st'⟩ {s with heap:=h'}->TK s.heap h'->Q' () {s with heap:=h'}):au (av aF c.w) A (Lk a f) Q' E' s:=by
 subst hf
 have hobj:∃k,Bx f o={o with data:=.seq (f vs) k}:=by
  obtain ⟨oc,od,odt,osl⟩:=o
  simp only at hd
  subst hd
  exact⟨_,rfl⟩
 refine aP hobj λk hmap=>?_;clear hobj
 have e2:(s.heap.update a (Bx f)).get? a=some {o with data:=.seq (f vs) k}:=by
  rewrite[iZ _ eo (by rw[hmap];cases hq:o.cls <;> first | rfl | (rw[hc] at hq;cases hq;rfl)),hmap];rfl
 have sb:=j_ s.heap a (Bx f)
 have tk:TK s.heap (s.heap.update a (Bx f)):=λb o' vs n e hc' hd'=>(bh o' ((sb.2 b λq=>by
  replace e:=eo▸q▸e;refine(λj0=>?_) (bj e);clear e;subst j0;replace hc':=hc▸hc';exact absurd hc' (by decide)).trans e) hc' hd')
 refine wpAny_updateSeq eo hd (h _ (I.upd U sb ?_ (bk _)) tk) (by rw[iy];exact hz) (by rw[iy];exact hz')
 unfold RO
 exact⟨_,f vs,k,e2,⟨hc,hk⟩,rfl,r.tk tk⟩
theorem uq{x:PV}(hm:(a,.lst xs)∈σ.st)(U:fC a (.lst (xs++[x])) σ.st st')(hz:xs.length<=1000000)(h:Q .none ⟨σ.loc,st'⟩):aM c (.val (.builtin "list.append")) [.val (.ref a),x] [] [] σ Q E:=aM.blt λs vs I r=>by
 refine bM (eQ r) λv u j1 e ru=>?_;subst j1
 obtain rfl:v = .ref a:=e
 refine eu (I.lst hm) λo vs n eo hc hk hd rs hzs=>?_
 refine lZ Zo (aw _ eo hc) PySem.F.entry_list_append ?_ (PySem.F.args_list_append_2 _ _)
 show au _ _ (Lk a (·.push u) >>= λZ=>ret .none) _ _ s
 refine ah (CC (f:=(·.push u)) I U eo hc hk hd rfl ?_ (by lia) (by show(vs.push u).size<=_;rw[sM];lia) λh' I' tk=>?_)
 .show aB _ _ (vs.push u).toList
  rw[oy];exact rs.append (aB.cons ru aB.nil)
 .exact aE (aw _ rfl ⟨.none,_,I',rfl,tk,h⟩)
theorem ze(hm:(a,.lst xs)∈σ.st)(hz:xs.length<2^60)(h:Q (.int (xs.length:Nat)) σ):aM c (.val (.builtin "len")) [.val (.ref a)] [] [] σ Q E:=aM.blt λs vs I r=>by
 refine aC (iL r) λv j1 e=>?_;subst j1
 obtain rfl:v = .ref a:=e
 refine eu (I.lst hm) λo vs n eo hc hk hd rs hzs=>?_
 refine Calls.call_function_entry kind_len plain_len entry_len (args_len1 _) (wpAny_len_body_list (bh o eo hc ⟨n,hd⟩) (by lia) ?_)
 rw[hzs]
 exact⟨.int (xs.length:Nat),σ,I.tok _ (by lia),⟨_,rfl⟩,TK.refl _,h⟩
theorem IX{Q:Bool->AS->Prop}(hm:(a,.lst xs)∈σ.st)(hz:xs.length<2^60)(h:Q (!xs.isEmpty) σ):U1 c fw eZ (.val (.ref a)) σ Q E:=λs v I e=>by
 obtain rfl:v = .ref a:=e
 refine eu (I.lst hm) λo vs n eo hc hk hd rs hzs=>?_
 refine wpAny_truthy_list (bh o eo hc ⟨n,hd⟩) (by lia) ?_
 have:(!vs.isEmpty) = !xs.isEmpty:=by
  rw[(by unfold Zq;cases vs.size <;> rfl:vs.isEmpty=(vs.size==0)),hzs]
  cases xs <;> rfl
 rw[this]
 exact⟨_,σ,I.tok _ (by lia),rfl,TK.refl _,h⟩
theorem aB.at{h:am}{x:PV}:∀{xs:List PV} {vs:List ag} {i:Nat},aB h xs vs->xs[i]?=some x->∃v,vs[i]?=some v/\RV h x v
 | [],_,_,_,e=>by simp at e
 | y::xs,vs,0,r,e=>by
  refine bM r λv q j1 r1 Z=>?_;clear r;subst j1
  simp at e
  subst e
  exact(aw v rfl r1)
 | y::xs,vs,i+1,r,e=>by
  refine bM r λv q j1 Z r2=>?_;clear r;subst j1
  simpa using aB.at (i:=i) r2 (by simpa using e)
theorem R5{i:Nat}{x:PV}(hm:(a,.lst xs)∈σ.st)(hi:xs[i]?=some x)(hz:xs.length<2^60)(h:Q x σ):U2 c RV hV (.val (.ref a)) (.int (i:Int)) σ Q E:=λs u v I e ⟨t,e'⟩=>by
 obtain rfl:u = .ref a:=e
 subst e'
 refine eu (I.lst hm) λo vs n eo hc hk hd rs hzs=>?_
 refine aC (rs.at (i:=i) hi) λv hv rv=>?_
 have hlt:i<xs.length:=(dY.mp hi).1
 refine jP (aw o eo hc) Ll.lookup ?_
 exact wpAny_getItem_list (bh o eo hc ⟨n,hd⟩) (by exact kT _) (KR (wD.mpr (fG hlt hz)) (by decide)) (by simpa using hv) ⟨x,σ,I,rv,TK.refl _,h⟩
theorem Fy{i:Nat}{x:PV}(hm:(a,.lst xs)∈σ.st)(h0:0<i)(hi:i<=xs.length)(hx:xs[xs.length-i]?=some x)(hz:xs.length<2^60)(h:Q x σ):U2 c RV hV (.val (.ref a)) (.int (-(i:Int))) σ Q E:=λs u v I e ⟨t,e'⟩=>by
 obtain rfl:u = .ref a:=e
 subst e'
 refine eu (I.lst hm) λo vs n eo hc hk hd rs hzs=>?_
 refine aC (rs.at hx) λv hv rv=>?_
 refine jP (aw o eo hc) Ll.lookup ?_
 refine wpAny_getItem_list_neg (bh o eo hc ⟨n,hd⟩) (by lia) (by lia) (by lia) (x:=v) ?_ ⟨x,σ,I,rv,TK.refl _,h⟩
 have:((-(i:Int))+(vs.size:Int)).toNat=xs.length-i:=by rw[neg_sub (hzs▸hi),hzs];rfl
 rw[this];simpa using hv
theorem aB.take{h:am}:∀{xs:List PV} {vs:List ag} (i:Nat),aB h xs vs->aB h (xs.take i) (vs.take i)
 | xs,vs,0,r=>by simpa using aB.nil
 | [],vs,i+1,r=>by rewrite[aB] at r;subst r;exact aB.nil
 | x::xs,vs,i+1,r=>by
  refine bM r λv q j1 r1 r2=>?_;clear r;subst j1
  exact aB.cons r1 (aB.take i r2)
theorem TY{i j:Nat}(hm:(a,.lst xs)∈σ.st)(hz:xs.length<=1000000)(h:∀b,(∀ao,(b,ao)∉σ.st)->Q (.val (.ref b)) {σ with st:=(b,.lst ((xs.drop i).take (j-i)))::σ.st}):jS c (.val (.ref a)) (.int (i:Int)) (.int (j:Int)) σ Q E:=by
 intro s o lv uv I e ⟨t1,e1⟩ ⟨t2,e2⟩
 obtain rfl:o = .ref a:=e
 subst e1 e2
 refine eu (I.lst hm) λol vs n eo hc hk hd rs hzs=>?_
 unfold sP
 refine kf ?_
 have e1:=dy {cls:=.type "slice",data:=.fields #[.int (i:Int) t1,.int (j:Int) t2,.none]} eo
 refine zc (aw ol e1 hc) Ll.lookup ?_
 refine wpAny_getItem_list_slice (bh ol e1 hc ⟨n,hd⟩) (Heap.IsSliceOf.new _ _ _ _) (.int _ _) (.int _ _) .none (by simp) ?_ (by rw[iy];lia)
 have hn:=fb (bk s.heap.objs.size)
 have hn2:=fb (h:=s.heap) (a:=s.heap.objs.size+1) (fe _)
 have hsz:(s.heap.push {cls:=.type "slice",data:=.fields #[.int (i:Int) t1,.int (j:Int) t2,.none]}).objs.size=s.heap.objs.size+1:=mR _ _
 rw[slicePick_plain]
 simp only[Option.elim,clipAt_nat]
 have I1:=I.push {cls:=.type "slice",data:=.fields #[.int (i:Int) t1,.int (j:Int) t2,.none]}
 have hpick:aB s.heap ((xs.drop i).take (j-i)) ((vs.toList.drop (min i vs.size)).take (min j vs.size-min i vs.size)):=by
  have:=C0 vs.toList i j
  replace this:=(show vs.toList.length=vs.size from eH)▸this
  rw[this];exact((rs.drop i).take (j-i))
 refine⟨.val (.ref _),_,In.jc (s:=s) I (I1.push _) (a:=(s.heap.push {cls:=.type "slice",data:=.fields #[.int (i:Int) t1,.int (j:Int) t2,.none]}).objs.size) (by rw[hsz];exact hn2) (ao:=.lst ((xs.drop i).take (j-i))) ?_,rfl,(TK.push _).trans (TK.push _),h _ λao hm'=>?_⟩
 .unfold RO
  exact⟨_,_,0,cH _ rfl,⟨rfl,rfl⟩,rfl,hpick.tk ((TK.push _).trans (TK.push _))⟩
 .refine aC ((I.st _ ao hm').1.there) λo e Z=>?_
  exact bI (hn2▸hsz▸e)
theorem QY{b:aj}(hm:(a,.lst xs)∈σ.st)(hm':(b,.lst ys)∈σ.st)(hz:xs.length+ys.length<=1000000)(h:∀d,(∀ao,(d,ao)∉σ.st)->Q (.val (.ref d)) {σ with st:=(d,.lst (xs++ys))::σ.st}):U2 c RV (fy .Add) (.val (.ref a)) (.val (.ref b)) σ Q E:=λs u v I e e'=>by
 obtain rfl:u = .ref a:=e
 obtain rfl:v = .ref b:=e'
 refine eu (I.lst hm) λo vs n eo hc hk hd rs hzs=>?_
 refine eu (I.lst hm') λo' vs' n' eo' hc' hk' hd' rs' hzs'=>?_
 have hT:s.TypeIs (.ref a) "list":=(aw o eo hc)
 have hT':s.TypeIs (.ref b) "list":=(aw o' eo' hc')
 refine Zr hT hT' Zs seq_list_add (lZ Zt hT Zu ?_ (Zv _ _))
 have hI:iD (.ref b) (.type "list")=(do
   let t <-gw (.ref b)
   ka t (.type "list")):=by rfl
 show au _ _ (iD (.ref b) (.type "list") >>= _) _ _ s
 refine ah (Lm hT' (b:=true) (by rw[jl];kernel_rfl) ?_)
 refine ah (tj eo hd ?_)
 refine ah (tj eo' hd' ?_)
 have hn:=fb (bk s.heap.objs.size)
 refine ah (kf ?_ (by show(vs++vs').size<=bN;rw[iy];simp;lia))
 refine aE (aw _ rfl ⟨.val (.ref s.heap.objs.size),_,I.jc (I.push _) hn (ao:=.lst (xs++ys)) ?_,rfl,TK.push _,h _ λao hm=>?_⟩)
 .unfold RO
  exact⟨_,vs++vs',0,cH _ rfl,⟨rfl,rfl⟩,rfl,by rw[AA];exact(rs.tk (TK.push _)).append (rs'.tk (TK.push _))⟩
 .refine aC ((I.st _ ao hm).1.there) λo e Z=>?_
  exact bI (hn▸e)
theorem Xc{b:aj}(hm:(a,.lst xs)∈σ.st)(hm':(b,.lst ys)∈σ.st)(U:fC a (.lst (xs++ys)) σ.st st')(hz:xs.length+ys.length<=1000000)(h:Q .none ⟨σ.loc,st'⟩):aM c (.val (.builtin "list.extend")) [.val (.ref a),.val (.ref b)] [] [] σ Q E:=aM.blt λs vs I r=>by
 refine bM (eQ r) λv u j1 e e'=>?_;subst j1
 obtain rfl:v = .ref a:=e
 obtain rfl:u = .ref b:=e'
 refine eu (I.lst hm) λo vs n eo hc hk hd rs hzs=>?_
 refine eu (I.lst hm') λo' vs' n' eo' hc' hk' hd' rs' hzs'=>?_
 refine lZ Zp (aw _ eo hc) PySem.F.entry_list_extend ?_ (PySem.F.args_list_extend_2 _ _)
 show au _ _ (Zw (.ref a) (.ref b) .none) _ _ s
 unfold Zw
 refine ah (Ln (T:="list") (aw o' eo' hc') ?_)
 rw[aA (by simp)]
 refine ah (tj eo' hd' ?_)
 refine ah (tj eo hd ?_)
 rw[an (by
  rw[jr]
  intro j1;refine aN j1 λZ z=>?_;clear j1
  have:Zx (vs.size+vs'.size)=false:=by
   unfold Zx
   simp only[decide_eq_false_iff_not]
   rw[iy];lia
  replace z:=this▸z;cases z)]
 show au _ _ (Lk a (·++vs') >>= λZ=>_) _ _ s
 refine ah (CC (f:=(·++vs')) I U eo hc hk hd rfl ?_ (by lia) (by show(vs++vs').size<=_;simp;lia) λh' I' tk=>?_)
 .show aB _ _ (vs++vs').toList
  rw[AA];exact rs.append rs'
 .exact aE (aw _ rfl ⟨.none,_,I',rfl,tk,h⟩)
end
end
section
section
variable {c:FC}{σ:AS}{E:aG->AS->Prop}{Q:PV->AS->Prop}{s:ai}{a:aj}{xs ys:List PV}
noncomputable def cY(ls:List (List Nat)):List PV:=ls.map λl=>.str (ms l)
theorem t8{h:am}:∀{ls:List (List Nat)} {vs:List ag},aB h (cY ls) vs->∃l:List (af×bY),vs=l6 l/\l.map (·.1)=ls.map ms
 | [],vs,r=>by unfold cY aB at r;exact(aw [] r rfl)
 | x::ls,vs,r=>by
  have r':aB h (.str (ms x)::cY ls) vs:=r
  rewrite[aB] at r'
  refine bM r' λv q j1 j2 r2=>?_;clear r';subst j1;refine aP j2 λt j3=>?_;clear j2;subst j3
  refine aC (t8 r2) λl j1 e=>?_;subst j1
  exact(aw ((ms x,t)::l) rfl (by simp[e]))
theorem NU:∀(ls:List (List Nat)),Zy (ms []) (ls.map ms)=ms ls.flatten
 | []=>rfl
 | x::ls=>by
  unfold Zy
  have key:∀(ls:List (List Nat)) (acc:List Nat),((ls.map ms).foldl (λacc p=>acc++(ms []).cps++p.cps) (ms acc).cps)=(ms (acc++ls.flatten)).cps:=by
   intro ls
   induction ls with
   | nil=>intro acc;simp
   | cons y ls ih=>
    intro acc
    rw[cJ,J0]
    have:(ms acc).cps++(ms []).cps++(ms y).cps=(ms (acc++y)).cps:=by simp[ms]
    rw[this,ih]
    simp
  show(⟨((ls.map ms).foldl (λacc p=>acc++(ms []).cps++p.cps) (ms x).cps)⟩:af)=_
  rw[key];rfl
theorem I7{f:PV}{xs kxs:List PV}{ks:List af}(h:aM c f xs ks kxs σ (λv τ=>∃y P,v = .d_ y P/\Q (.str y) τ) E):aM c f xs ks kxs σ Q E:=λs fv vs kvs I a b d=>
 bn (h s fv vs kvs I a b d) (λv s' ⟨x,τ,I',r,kt,y,P,e,q⟩=>by
  subst e
  refine aC r λt j1 Z=>?_;clear r;subst j1
  exact⟨.str y,τ,I',⟨t,rfl⟩,kt,q⟩) λZ Z z=>z
theorem Jt{ls:List (List Nat)}{P:Nat->Prop}(hm:(a,.lst xs)∈σ.st)(hx:∀h vs,aB h xs vs->∃l:List (af×bY),vs=l6 l/\l.map (·.1)=ls.map ms/\∀p∈l,P p.2)(hT:∀n,c.T<=n->P n)(hz:ls.flatten.length<=1000000)(h:Q (.d_ (ms ls.flatten) P) σ):aM c (.val (.builtin "str.join")) [.str (ms []),.val (.ref a)] [] [] σ Q E:=aM.blt λs vs I r=>by
 refine bM (eQ r) λv u j1 j2 e'=>?_;subst j1;refine aP j2 λt j3=>?_;clear j2;subst j3
 obtain rfl:u = .ref a:=e'
 refine eu (I.lst hm) λo vs n eo hc hk hd rs hzs=>?_
 refine br (hx _ _ rs) λl hl hmap hP=>?_
 have hvs:vs=(l6 l).toArray:=by rw[<-lU,hl]
 subst hvs
 have tot:∀(l:List af) (acc:Nat),l.foldl (λa p=>a+p.length+(ms []).length) acc=acc+(l.map (·.length)).sum:=by
  intro l
  induction l with
  | nil=>intro acc;exact bR ((λ{a b}=>Lp.mpr) rfl)
  | cons x l ih=>intro acc;rw[J0,ih];simp[bP];exact(lK _ _ _)
 have len:∀ls:List (List Nat),((ls.map ms).map (·.length)).sum=ls.flatten.length:=by
  intro ls
  induction ls with
  | nil=>rfl
  | cons x ls ih=>simp only[cJ,List.sum_cons,ih,bP,By,bt]
 refine Bz PySem.F.slot_str_join (gW s _ t) PySem.F.entry_str_join (PySem.F.args_str_join_2 _ _) (meets_str_join_list (ms []) t a l ?_) ⟨(bh o eo hc ⟨n,hd⟩),?_⟩
 .rw[hmap,Y0,tot,len,jY]
  have:bN=16777216:=iy
  show decide _=false
  simp only[decide_eq_false_iff_not]
  lia
 .have big:(ms ls.flatten).length<=bN:=by rw[bP,iy];exact aJ ‹_› (by decide)
  have fin':∀t' n,P t'->s.toks<=n->cw c RV s Q (.str (ms ls.flatten) t') {s with toks:=n}:=λt' n hp hn=>⟨.d_ (ms ls.flatten) P,σ,I.tok n,(aw _ rfl hp),TK.refl _,h⟩
  have gl:=NU ls
  replace gl:=(bR hmap:_)▸gl
  cases l with
  | nil=>
   show(Made.str _).post _ s
   rw[gl]
   exact⟨big,fin' _ _ (hT _ I.tk) (fe _)⟩
  | cons p l=>
   cases l with
   | nil=>
    show(Made.val (.str p.1 p.2)).post _ s
    have:p.1=ms ls.flatten:=by rw[<-gl];rfl
    rw[this]
    exact fin' _ _ (hP p (.head _)) (bk _)
   | cons q l=>
    show(Made.str _).post _ s
    rw[gl]
    exact⟨big,fin' _ _ (hT _ I.tk) (fe _)⟩
theorem RW{ls:List (List Nat)}(hm:(a,.lst (cY ls))∈σ.st)(hz:ls.flatten.length<=1000000)(h:Q (.str (ms ls.flatten)) σ):aM c (.val (.builtin "str.join")) [.str (ms []),.val (.ref a)] [] [] σ Q E:=
 I7 (Jt (P:=λZ=>True) hm (λh vs r=>let ⟨l,e1,e2⟩:=t8 r;⟨l,e1,e2,λZ Z=>trivial⟩) (λZ Z=>trivial) hz ⟨_,_,rfl,h⟩)
theorem dh.join{x:af}{K:PV->List PV->AS->Prop}(h:K (.val (.builtin "str.join")) [.str x] σ):dF c (.str x) (ae "join") σ K E:=dF.str F.slot_str_join F.type_str_join h
theorem Qv{x:af}{K:PV->List PV->AS->Prop}(h:K (.val (.builtin "str.index")) [.str x] σ):dF c (.str x) (ae "index") σ K E:=dF.str F.slot_str_index F.type_str_index h
theorem vr{i:Nat}{x:PV}(hi:xs[i]?=some x)(hz:xs.length<2^60)(h:Q x σ):U2 c RV hV (.tup xs) (.int (i:Int)) σ Q E:=λs u v I r ⟨t,e'⟩=>by
 obtain ⟨a,o,vs,n,rfl,ho,hc,hd,rs⟩:=r
 subst e'
 refine aC (rs.at (i:=i) hi) λv hv rv=>?_
 have hlt:i<xs.length:=(dY.mp hi).1
 refine jP (aw o ho hc) BA.lookup ?_
 refine Lq (bh o ho hc ⟨n,hd⟩) (by exact Lr (2^63) i) (by lia) (j:=i) ?_ (x:=v) (by simpa using hv) ⟨x,σ,I,rv,TK.refl _,h⟩
 rw[ug,(by rw[<-rs.length];exact Ls:vs.size=xs.length),aA hlt]
theorem PD{i:Nat}{x:PV}(h0:0<i)(hi:i<=xs.length)(hx:xs[xs.length-i]?=some x)(hz:xs.length<2^60)(h:Q x σ):U2 c RV hV (.tup xs) (.int (-(i:Int))) σ Q E:=λs u v I r ⟨t,e'⟩=>by
 obtain ⟨a,o,vs,n,rfl,ho,hc,hd,rs⟩:=r
 subst e'
 refine aC (rs.at hx) λv hv rv=>?_
 have hsz:vs.size=xs.length:=by rw[<-rs.length];exact Ls
 refine jP (aw o ho hc) BA.lookup ?_
 refine Lq (bh o ho hc ⟨n,hd⟩) (by lia) (by lia) (j:=xs.length-i) ?_ (x:=v) (by simpa using hv) ⟨x,σ,I,rv,TK.refl _,h⟩
 rw[seqIndex_neg (by exact xg h0) (by lia)]
 congr 1;exact(aI Int.toNat (YH _ _)).trans (hsz▸KW _ _)
theorem HQ{x:Int}{b:Nat}(hb:0<b)(hb':b<1073741824)(h:Q (.int (x/(b:Int))) σ):U2 c RV (fy .FloorDiv) (.int x) (.int (b:Int)) σ Q E:=λs u v I ⟨t,e⟩ ⟨t',e'⟩=>by
 subst e e'
 refine Zz (by simp;exact lR ‹_›) (by rw[BB (by exact hb')];decide) ?_
 rw[Lu _ (by exact kT _)]
 exact ml I h
theorem FE{x:Int}{b:Nat}(hb:0<b)(h:Q (.int (x%(b:Int))) σ):U2 c RV (fy .Mod) (.int x) (.int (b:Int)) σ Q E:=VP (by lia) (by rw[Lv _ (by exact kT _)];exact h)
theorem y8{x b:Nat}(hb:0<b)(hb':b<1073741824)(h:Q (.int ((x/b:Nat):Int)) σ):U2 c RV (fy .FloorDiv) (.int (x:Int)) (.int (b:Int)) σ Q E:=HQ hb hb' (by rw[<-Lw];exact h)
theorem zw{x b:Nat}(hb:0<b)(h:Q (.int ((x%b:Nat):Int)) σ):U2 c RV (fy .Mod) (.int (x:Int)) (.int (b:Int)) σ Q E:=FE hb (by rw[<-Lx];exact h)
theorem xZ{x b:Nat}(hb:0<b)(hb':b<1073741824)(h:Q (.tup [.int ((x/b:Nat):Int),.int ((x%b:Nat):Int)]) σ):aM c (.val (.builtin "divmod")) [.int (x:Int),.int (b:Int)] [] [] σ Q E:=aM.blt λs vs I r=>by
 refine bM (eQ r) λv u j1 j2 j3=>?_;subst j1;refine aP j2 λt j4=>?_;clear j2;subst j4;refine aP j3 λt' j5=>?_;clear j3;subst j5
 refine divmod_int (by exact ZA.mpr hb) ?_ (.inl (BB (by exact Nat.lt_of_succ_le hb')))
 have e1:(x:Int).fdiv (b:Int)=((x/b:Nat):Int):=by rw[Lu _ (by exact kT _),Lw]
 rw[e1,(by rw[Lv _ (by exact kT _),Lx]:(x:Int).fmod (b:Int)=((x%b:Nat):Int))]
 refine⟨.tup [.int ((x/b:Nat):Int),.int ((x%b:Nat):Int)],σ,(I.push _).tok _ (by dsimp only;lia),?_,TK.push _,h⟩
 rw[RV]
 exact⟨_,_,_,_,rfl,cH _ rfl,rfl,rfl,aB.cons ⟨_,rfl⟩ (aB.cons ⟨_,rfl⟩ aB.nil)⟩
end
end
section
section
variable {c:FC}{σ:AS}{E:aG->AS->Prop}{Q:PV->AS->Prop}{s:ai}{a:aj}{xs ys:List PV}{l:List Nat}{u:Nat}
theorem In.drop{loc:List (af×PV)}{p:aj×AO}{st:List (aj×AO)}(I:In c ⟨loc,p::st⟩ s):In c ⟨loc,st⟩ s:=
 ⟨I.b0,I.fr,I.up1,I.cq,I.ns,λa ao h=>I.st a ao (.tail _ h),I.L0,I.L1,I.Lo,I.tab,I.os,I.gens,(jn.mp I.nd).2,I.tk,λa es h=>I.dc a es (.tail _ h)⟩
theorem DE{loc:List (af×PV)}{st:List (aj×AO)}{ls:List (List Nat)}(hz:ls.flatten.length<=1000000)(h:Q (.str (ms ls.flatten)) ⟨loc,st⟩):aM c (.val (.builtin "str.join")) [.str (ms []),.val (.ref a)] [] [] ⟨loc,(a,.lst (cY ls))::st⟩ Q E:=by
 have t:aM c (.val (.builtin "str.join")) [.str (ms []),.val (.ref a)] [] [] ⟨loc,(a,.lst (cY ls))::st⟩ (λx σ'=>x = .str (ms ls.flatten)/\σ'=⟨loc,(a,.lst (cY ls))::st⟩) E:=RW (.head _) hz ⟨rfl,rfl⟩
 intro s fv vs kvs I r1 r2 r3
 refine bn (t s fv vs kvs I r1 r2 r3) (λv s' p=>p.elim λx σ' I' r k qP=>?_) λZ Z z=>z
 refine aN qP λe1 e2=>?_;clear qP
 subst e1 e2
 exact⟨_,_,I'.drop,r,k,h⟩
theorem uY(h:Q (.bool (l.contains u)) σ):U2 c RV (ce .In) (.str (ms [u])) (.str (ms l)) σ Q E:=Pj (by
 have:(!(jA (ms l) (ms [u]) 0 (ms l).length 1).isEmpty)=l.contains u:=by
  refine(StrLaws.found_one (ms l) u).trans ?_
  rw[qe,decide_eq_true_iff,jZ]
  show u∈(ms l).cps.toList<->u∈l
  exact YJ rfl
 rw[this];exact h)
theorem Tb{i:Nat}(ho:jA (ms l) (ms [u]) 0 (ms l).length 1=[i])(h:Q (.int (i:Int)) σ):aM c (.val (.builtin "str.index")) [.str (ms l),.str (ms [u])] [] [] σ Q E:=aM.blt λs vs I r=>by
 refine bM (eQ r) λv w j1 j2 j3=>?_;subst j1;refine aP j2 λt j4=>?_;clear j2;subst j4;refine aP j3 λt' j5=>?_;clear j3;subst j5
 exact La PySem.F.slot_str_index (gW s _ t) PySem.F.entry_str_index (PySem.F.args_str_index_2 _ _) (gives_str_index (ms l) (ms [u]) t t' i [] ho) (ml I h)
theorem nG{i:Int}(h:Q (.int (-i)) σ):U1 c RV (wS .USub) (.int i) σ Q E:=λs v I ⟨t,e⟩=>by subst e;exact neg_int (ml I h)
variable {N:AS->Prop}{Qf:bO->AS->Prop}{ev:bB}{w:aR}{b:am}{n:Nat}{ns:List af}{x y z:af}{i j k':Nat}
end
end
section
section
variable {c:FC}{σ:AS}{scope:dA}{cl:List (af×aj)}{bs:List (af×PV)}{y:PV}
theorem iu.name{x:af}{p:aT}(hk:scope.kind = .function)(hx:scope.names.lookup x=some .local)(hd:(x==("__debug__" : af))=false)(hm:(x,y)∈bs):iu c σ scope cl (.Name x p) bs y:=λs C m E' I hn hb=>by
 refine aC (hb _ hm) λv e r=>?_
 refine qo (wj (env:=gy scope cl C c.env) (by exact((λa=>hk)∘m) x) (te hx) hn e ?_) hd
 exact(fi s.heap s.toks rfl (λZ Z e=>e) (bk _) r)
theorem jM.map{α:Type}{elt cG:aL}(f:α->PV)(g:α->PV)(h:∀x,∃bs,Binds cG (f x) bs/\iu c σ scope cl elt bs (g x)):∀l:List α,jM c σ scope cl elt cG (l.map f) (l.map g)
 | []=>rfl
 | x::l=>by
  refine aC (h x) λbs h1 h2=>?_
  exact(k6 (g x) _ bs rfl h1 h2 (jM.map f g h l))
end
end
section
def flat:PV->Prop
 | .tup _=>False
 | _=>True
theorem SS{x:PV}{v:ag}{h h':am}(f:flat x)(r:RV h x v):RV h' x v:=by
 cases x <;> first | exact r | exact f.elim
theorem ER{h h':am}:∀{xs:List PV} {vs:List ag},(∀x∈xs,flat x)->aB h xs vs->aB h' xs vs
 | [],_,_,r=>r
 | x::xs,vs,f,r=>by
  rw[aB] at r |-
  refine bM r λv q e r1 r2=>?_;clear r
  exact(eV v q e (SS (f x (.head _)) r1) (ER (λy hy=>f y (.tail _ hy)) r2))
section
variable {c:FC}{σ:AS}{E:aG->AS->Prop}{s:ai}
noncomputable def yq:aG:=⟨.type "StopIteration",none⟩
theorem O'{α:Type}{Q:α->ai->Prop}(K:c.Ok)(H:f8 c)(I:In c σ s):au (av aF c.w) c.A (do sZ (<-BC (.type "StopIteration") []):bf α) Q (EPost c (λx τ=>x=yq/\τ=σ)) s:=by
 show au _ _ (BC (.type "StopIteration") [] >>= _) _ _ _
 refine ah ?_
 simp only[BC,KL]
 refine ah (kf ?_ (by size_fits))
 refine ah (m:=ZB _ _) (mP (a:=fJ) (by first | rfl | (simp only[ZB];rfl)) ?_)
 refine kf ?_ (by size_fits)
 rw[(rfl:ownMembersOf (.type "StopIteration") [] = #[])]
 have I1:=(I.push {cls:=.type "tuple",data:=.seq (#[]:Array ag)}).push {cls:=.type "StopIteration",data:=.fields (#[.ref s.heap.objs.size,.none,.none,.none,.bool false,.none]++#[])}
 have hn:s.heap.get? (s.heap.push {cls:=.type "tuple",data:=.seq (#[]:Array ag)}).objs.size=none:=fb (by rw[(mR _ _)];exact fe _)
 have hg:=cH (s.heap.push {cls:=.type "tuple",data:=.seq (#[]:Array ag)}) (o:={cls:=.type "StopIteration",data:=.fields (#[.ref s.heap.objs.size,.none,.none,.none,.bool false,.none]++#[])}) rfl
 refine Dw (x:=yq) (t:=s.heap.objs.size) (E:=λx τ=>x=yq/\τ=σ) K H (I.vw hn) (by decide) ?_ I1 ⟨rfl,rfl,bk _⟩ (oA ..) (fi _ _ hg rfl rfl rfl) hg rfl rfl rfl trivial ⟨rfl,rfl⟩
 cases q:c.b0.get? (s.heap.push {cls:=.type "tuple",data:=.seq (#[]:Array ag)}).objs.size with
 | none=>rfl
 | some o=>have:=I.b0 _ _ q;exact bI (hn▸this)
noncomputable def FC.in1(c:FC):FC:={c with A:=c.A.in1}
theorem FC.Ok.in1(K:c.Ok):c.in1.Ok:=⟨⟨K.kind,K.glob,K.blt,K.cu⟩,K.frames,K.frame,K.lim,K.own,K.dn,K.t0⟩
theorem In.in1(I:In c σ s):In c.in1 σ s:=⟨I.b0,I.fr,I.up1,I.cq,(let ⟨mm,x,r⟩:=I.ns;⟨mm,⟨x.ns,x.cu⟩,r⟩),I.st,I.L0,I.L1,I.Lo,I.tab,I.os,I.gens,I.nd,I.tk,I.dc⟩
theorem In.We(I:In c.in1 σ s):In c σ s:=⟨I.b0,I.fr,I.up1,I.cq,(let ⟨mm,x,r⟩:=I.ns;⟨mm,⟨x.ns,x.cu⟩,r⟩),I.st,I.L0,I.L1,I.Lo,I.tab,I.os,I.gens,I.nd,I.tk,I.dc⟩
theorem NN{it t:aj}{i:Nat}{items:Array ag}{Q:Option ag->ai->Prop}{E':ag->ai->Prop}(K:c.Ok)(H:f8 c)(I:In c σ s)(hF:fQ c it)(h0:c.b0.get? it=none)
  (hit:IsTupIter s.heap it t i) (ht:IsTup s.heap t items) (hx:items[i]?=none) (hQ:∀s',In c σ s'->Q none s'):au (av aF c.w) c.A (i4 (.ref it)) Q E' s:=by
 refine br (id hit) λo ho hc hd=>?_
 obtain ⟨ol,hol,_,nl,hdl⟩:=ht
 unfold i4
 refine ah (wpAny_attempt (Ly (name:=ae "__next__") hit.typeIs slot_tupleiter_next
  (lZ slot_tupleiter_next hit.typeIs entry_tupleiter_next ?_ (args_tupleiter_next _))))
 show au _ _ (field (.ref it) 0 >>= _) _ _ s
 refine ah (fV ho hd (x:=.ref t) rfl ?_)
 show au _ _ (if(dz t==fJ)=true then _ else _) _ _ s
 rw[an (show ¬((dz t==fJ)=true) from cm)]
 show au _ _ (field (.ref it) 1 >>= _) _ _ s
 refine ah (fV ho hd (x:=.int i 0) rfl ?_)
 show au _ _ (seqItems? (.ref t) >>= _) _ _ s
 refine ah (BD hol hdl ?_)
 simp only[KY,hx]
 refine ah (p0 (ah (sQ ho hd (by exact size_pos_of_not_empty rfl) ?_)))
 have I1:In c σ {s with heap:=s.heap.update it (jy (·.setIfInBounds 0 .none))}:=I.iter ⟨o,_,_,ho,hc,by decide,hd,λq t z=>by simp at z⟩ hF h0 (λb o hb e=>(wg _ _ (cV hb)).trans e) (bk _)
 show au _ _ (do sZ (<-BC (.type "StopIteration") []):bf BE) _ _ _
 refine bn (O' (c:=c.in1) (α:=BE) (Q:=λZ Z=>False) K.in1 H I1.in1) (λZ Z f=>f.elim) λe s' ⟨e',x,τ,he,I',T,hx,hτ⟩=>?_
 subst he hx hτ
 have hT:s'.TypeIs (.ref e') "StopIteration":=by
  obtain ⟨B,a0,cx,R,k,hen,hl,ha,hcx,T⟩:=T
  rcases T with⟨oe,vs,q,qc,_⟩ | ⟨oe,vs,T1,oT,ts,q,qc,_⟩ | ⟨oe,vs,T1,oT,ts,q,qc,_⟩ <;> exact(aw oe q qc)
 refine ah (Lm (T:="StopIteration") (b:=true) hT isSubtype_stop ?_)
 exact aE (hQ s' I'.We)
theorem Xf{xs:List PV}{v:ag}{n:Nat}{Q:List ag->ai->Prop}{E':ag->ai->Prop}(K:c.Ok)(H:f8 c)(I:In c σ s)(r:RV s.heap (.tup xs) v)(hn:n=xs.length)(hfl:∀x∈xs,flat x)
  (h:∀vs s',In c σ s'->aB s'.heap xs vs->Q vs s'):au (av aF c.w) c.A (Bt v n none) Q E' s:=by
 obtain ⟨a,o,vs,k,rfl,ho,hc,hd,rs⟩:=r
 have:n=vs.size:=by rw[hn,<-rs.length];exact eH
 subst this
 have ht:IsTup s.heap a vs:=(bh o ho hc ⟨k,hd⟩)
 have hlt:a≠s.heap.objs.size:=jq (dR ho)
 refine aN (nS I) λf1 f2=>?_
 unfold Bt
 refine ah ?_
 unfold notIterableAtAll
 refine ah (wC ht.typeIs slot_tuple_iter.lookup ?_)
 refine aE ?_
 simp only[AP,if_false]
 refine ah (bT (iter_tuple ht ?_))
 refine ah (bT (draw_tuple hlt vs.size 0 _ _ (bh _ (cH _ rfl) rfl rfl) (ht.push _) (by lia) λbX aaC Ms=>?_))
 have hall:YP vs.size (YO 0 vs.toList)=vs.toList:=by
  rw[qd];exact AB (by exact bk vs.toList.length)
 rw[hall]
 rw[an (by exact lN vs.toList.length)]
 have I1:In c σ {s with heap:=bX}:=I.grow (s':={s with heap:=bX}) λb o e=>(Ms.2 b (jq (dR e))).trans (dy _ e)
 refine ah (bT (NN K H I1 f1 f2 aaC ((ht.push _).extBut Ms.extBut hlt) (by simp) λs2 I2=>?_))
 simp only[Option.isSome_none,AP,if_false]
 exact aE (h _ _ I2 (ER hfl rs))
variable {N:AS->Prop}{Qf:bO->AS->Prop}{ev:bB}{w:aR}{b:am}{n:Nat}{ns:List af}{x y:af}{i j:Nat}
theorem kD.flat{xs:List PV}(K:c.Ok)(H:f8 c)(hfl:∀x∈xs,flat x):kD c σ xs:=λZ Z Z Z I r h=>Xf K H I r rfl hfl h
end
end
section
section
variable {c:FC}{σ:AS}{E:aG->AS->Prop}{N:AS->Prop}{Q:bO->AS->Prop}{cG:aL}{body:List bA}{G:AS->Prop}
theorem Ps(a b:Nat)(h:a<=b):(kl (a:Int) (b:Int) 1).toNat=b-a:=by
 rw[rangeSize_one]
 split
 .exact KW _ _
 .exact(AD (wF.mp (Be.mp ‹_›))).symm
end
end
section
section
variable {c:FC}{σ:AS}{E:aG->AS->Prop}{Q:PV->AS->Prop}{l k:List Nat}
theorem U'(h:Q (.bool (k.isPrefixOf l)) σ):aM c (.val (.builtin "str.startswith")) [.str (ms l),.str (ms k)] [] [] σ Q E:=aM.blt λs vs I r=>by
 refine bM (eQ r) λv1 v2 j1 j2 j3=>?_;subst j1;refine aP j2 λt j4=>?_;clear j2;subst j4;refine aP j3 λt2 j5=>?_;clear j3;subst j5
 refine SC.startswith ⟨.bool _,σ,I,rfl,TK.refl _,?_⟩
 have:ZC (ms l) (ms k)=k.isPrefixOf l:=by
  unfold ZC
  rw[CB,bP,bP,qe]
  simp only[jY,jr,decide_eq_true_eq,beq_iff_eq,ZD,ZE]
  unfold sl
  simp only[qd,lT]
  constructor
  .intro j1;refine aN j1 λZ h=>?_;clear j1;exact h.symm
  .intro h
   refine⟨?_,h.symm⟩
   have:=aI gR h
   simp only[qw] at this
   lia
 rw[this];exact h
end
end
section
section
variable {M:cP}{A:bZ}{E Q:ag->ai->Prop}{s:ai}{env:bB}
theorem DU{w:aR}{x:af}{np pos:aT}{a:aL}(hn:noStar [a])(h:au (av aF w) A (eval (.Name x np) env) (λf ay=>au (av aF w) A (eval a env) (λv bc=>au (av aF w) A (iV f [v] []) Q E bc) E ay) E s) :
  au (av aF w) A (eval (.Call (.Name x np) [a] [] pos) env) Q E s:=by
 refine Yt (bn h (λf ay bX=>?_) λZ Z z=>z)
 rw[hn]
 refine xi (Calls.evalArgs_plain (Calls.spliced_cons ?_))
 show au _ _ (eval a env) _ _ ay
 exact bn bX (λv bc m8=>Calls.spliced_nil m8) λZ Z z=>z
end
section
variable {c:FC}{σ:AS}{scope:dA}{cl:List (af×aj)}
def xG(x:PV)(y:af):Prop:=x = .str y\/∃P,x = .d_ y P
theorem Rp{w:aR}{A:bZ}{b:am}{env:bB}{x:af}{p:aT}{val:ag}{s:ai}{Q E:ag->ai->Prop}(hfn:env.scope.kind = .function)(hk:env.kindOf x=some .globalImplicit)(h1:env.globals=eK)(h2:env.builtins=jv)(g:dZ b x val)(k:b.StaysIn s.heap)(hd:(x==("__debug__" : af))=false)(h:Q val s) :
  au (av aF w) A (eval (.Name x p) env) Q E s:=by
 rcases g with⟨mg,hg,hb⟩ | ⟨mg,mb,hg,hn,hB,hb⟩
 .exact oM hfn hk (A6 (env:=env) (mg:=mg) (by rw[h1];exact hg.keeps k) hb h) hd
 .exact oM hfn hk (A7 (env:=env) (mg:=mg) (mb:=mb) (by rw[h1];exact hg.keeps k) hn (by rw[h2];exact hB.keeps k) hb h) hd
theorem SF{w:aR}{A:bZ}{kk:Nat}{t1 t2:bY}{s:ai}{Q E:ag->ai->Prop}(hk:kk<=7)(h:∀n t3,s.toks<=n->Q (.int ((16^kk:Nat):Int) t3) {s with toks:=n}):au (av aF w) A (fy .Pow (.int 16 t1) (.int (kk:Int) t2)) Q E s:=by
 by_cases h0:kk=0
 .subst h0
  exact AutoIntOps.pow_0 (by decide) (by decide) (h _ _ (fe _))
 .refine AutoIntOps.pow_4 (by exact kT _) (by simp;assumption) (by decide) (by decide) ((by decide +kernel:∀k,k<=7->¬Builtin.Int.intTooBig (((Builtin.Int.intBits 16:Nat):Int)*((k:Nat):Int))=true) kk hk) ?_
  rw[KY,show(16:Int)=((16:Nat):Int) from rfl,<-Int.natCast_pow]
  exact h _ _ (fe _)
theorem VS{D S K:af}{p1 p2 p3 p4 p5 p6 p7 p8 p9 p10 p11:aT}{kc1 kc2:Nat}{dg:List Nat}{u g kk:Nat}{aS aD:aj}(K0:c.n6)(hkind:scope.kind = .function)
  (hD:∀C,(gy scope cl C c.env).kindOf D=some .cell) (hS:∀C,(gy scope cl C c.env).kindOf S=some .cell) (hO:∀C,(gy scope cl C c.env).kindOf (ae "ord")=some .globalImplicit) (hK:scope.names.lookup K=some .local)
  (lD:cl.lookup D=some aD) (lS:cl.lookup S=some aS) (cD:c.cells.lookup D=some aD) (cS:c.cells.lookup S=some aS) (dD:(D==("__debug__" : af))=false) (dS:(S==("__debug__" : af))=false) (dK:(K==("__debug__" : af))=false)
  (vD:σ.get D = .str (ms dg)) (vS:xG (σ.get S) (ms [u])) (gO:dZ c.b0 (ae "ord") (.builtin "ord")) (hk:kk<=7) (hg:dg[u/16^kk%16]?=some g) :
  iu c σ scope cl (.Subscript (.Name D p1) (.BinOp (.BinOp (.Call (.Name (ae "ord") p2) [.Name S p3] [] p4) .FloorDiv (.BinOp (.Constant (.int 16) kc1 p5) .Pow (.Name K p6) p7) p8) .Mod (.Constant (.int 16) kc2 p9) p10) p11) [(K,.int (kk:Int))] (.str (ms [g])):=λs C m E' I hn hb=>by
 have hfn:(gy scope cl C c.env).scope.kind = .function:=by exact((λa=>hkind)∘m) D
 refine aC I.ns λmm hm hr=>?_
 have getc:∀{X:af} {aX:aj} {y:af},c.cells.lookup X=some aX->xG (σ.get X) y->∃t,s.heap.IsCell aX (some (.str y t)):=λ{X aX y} h1 h2=>by
  have r:=hr X
  rcases h2 with h2 | ⟨P,h2⟩ <;> replace r:=h2▸r
  .obtain ⟨v,e,t,rfl⟩:=r
   exact⟨t,e▸hm.cu X aX h1⟩
  .obtain ⟨v,e,t,rfl,_⟩:=r
   exact⟨t,e▸hm.cu X aX h1⟩
 refine aP (getc cD (.inl vD)) λtD hcD=>?_
 refine aP (getc cS vS) λtS hcS=>?_
 obtain ⟨vk,hvk,tk,rfl⟩:=hb (K,.int (kk:Int)) (.head _)
 have hlt:u/16^kk%16<16:=lM _ (by decide)
 have hpos:0<16^kk:=Nat.pow_pos (by decide)
 refine uU (λZ Z=>⟨rfl,rfl⟩) ?_
 refine qo (KC hfn (hD C) lD hcD ?_) dD
 refine wl (wl (DU (λZ=>rfl) ?_))
 refine Rp hfn (hO C) K0.glob K0.blt gO I.b0 (by decide +kernel) ?_
 refine qo (KC hfn (hS C) lS hcS ?_) dS
 unfold iV mV
 refine ah (aE (P.ord_of_char ?_))
 refine wl (AX ?_)
 refine qo (wj hfn (te hK) hn hvk ?_) dK
 refine SF hk λn t3 hn'=>?_
 have hn':s.toks+1+1<=n:=hn'
 refine Zz (by rw[beq_iff_eq];exact ZA.mpr hpos) (by rw[BB (by rw[ZF];exact bL (Nat.pow_le_pow_right (by decide) hk) (by decide))];decide) ?_
 rw[Lu _ (by exact kT _),<-Lw]
 refine AX ?_
 refine mod_int (by decide) ?_
 rw[(rfl:(16:Int)=((16:Nat):Int)),Lv _ (by exact Lj 16),<-Lx]
 refine jP (gW _ _ _) qv.lookup ?_
 refine Bc (c:=g) (rA (KR (wD.mpr (lM _ (by decide:0<16))) (by decide))) ((str_idx _ _).trans (by rw[kA];exact hg)) ?_
 exact(fi s.heap _ rfl (λZ Z e=>e) (by dsimp only;lia) ⟨_,rfl⟩)
end
end
section
theorem cb.keys{h:am}{w:aR}:∀{ens:List dB} {es:List (af×PV)},cb h w.params ens es->∀e∈ens,∃k,(sk w).is k e.key=true/\e.hash=(sk w).hash k
 | [],_,_,e,he=>nomatch he
 | e::r,es,h,x,hx=>by
  refine gN h λk v es' j1 h1 j2 Z h4=>?_;clear h;subst j1;refine aP j2 λt h2=>?_;clear j2
  rcases cB.mp hx with rfl | hx
  .exact(aw k (by rw[h2];exact hZ aF w k t) h1)
  .exact cb.keys h4 x hx
noncomputable def eT:List (af×PV)->af->Option PV
 | [],_=>none
 | (y,v)::r,x=>if y=x then some v else eT r x
theorem x_{h:am}{w:aR}:∀{ens:List dB} {es:List (af×PV)} (x:af),cb h w.params ens es->
  match eT es x with | some v=>∃e,ens.find? (λe=>(sk w).is x e.key)=some e/\RV h v e.val | none=>ens.find? (λe=>(sk w).is x e.key)=none
 | [],es,x,r=>by cases (r:es=[]);rfl
 | e::ens,es,x,r=>by
  refine gN r λk v es' j1 h1 j2 h3 h4=>?_;clear r;subst j1;refine aP j2 λt h2=>?_;clear j2
  rw[eT]
  have hk:(sk w).is x e.key=(k==x):=by
   rw[h2];rfl
  by_cases q:k=x
  .rw[aA q]
   exact(aw e (by rw[BG,hk,q];simp) h3)
  .rw[an q]
   have:=x_ x h4
   rw[BG,hk,beq_eq_false_iff_ne.mpr q]
   exact this
section
variable {prog:iC}{w:aR}{A:bZ}{E:ag->ai->Prop}{s:ai}
theorem Ru{d:aj}{o:ax}{es:Array dB}{ep:Nat}{x:af}{t:bY}{Q:Option ag->ai->Prop}(ho:s.heap.get? d=some o)(hd:o.data = .dict es ep)
  (hk:KeysOf (sk w) es) (h:Q (wT (sk w).is es x) {s with toks:=s.toks+1}):au (av aF w) A (dictGet d (.str x t)) Q E s:=by
 unfold dictGet
 refine bT ?_
 have hkey:(sk w).is x (.str x t)=true:=hZ aF w x t
 refine ah ((sk w).pyHash hkey (ah (ZG (s:={s with toks:=s.toks+1}) hkey ho hd hk ?_)))
 replace h:=(findBy_of_findIdx? ..)▸h
 cases hi:es.findIdx? λe=>(sk w).is x e.key with
 | none=>replace h:=hi▸h;exact aE h
 | some i=>replace h:=hi▸h;exact ah (wpAny_dictEntries (s:={s with toks:=s.toks+1}) ho hd (aE h))
end
section
variable {c:FC}{σ:AS}{E:aG->AS->Prop}{Q:PV->AS->Prop}{s:ai}{a:aj}{es:List (af×PV)}{x:af}
theorem In.bx(I:In c σ s)(hm:(a,.bx es)∈σ.st):∃o ens n,s.heap.get? a=some o/\o.cls = .type "dict"/\o.dict=none/\o.data = .dict ens n/\cb s.heap c.w.params ens.toList es/\KeysOf (sk c.w) ens:=by
 refine aN (I.st _ _ hm) λr Z=>?_
 obtain ⟨o,ens,n,e,⟨hc,hk⟩,d,r⟩:=r
 exact(xD o ens n e hc hk d r (λx hx=>r.keys x (Lz.mpr hx)))
theorem Pk(hm:(a,.bx es)∈σ.st)(hs:(a==oE)=false)(h:Q (.bool (eT es x).isSome) σ):U2 c RV (ce .In) (.str x) (.val (.ref a)) σ Q E:=λs u v I ⟨t,e⟩ e'=>by
 obtain rfl:v = .ref a:=e'
 subst e
 refine eu (I.bx hm) λo ens n eo hc hk hd r hks=>?_
 have hT:s.TypeIs (.ref a) "dict":=(aw o eo hc)
 show au _ _ (do return wE (<-contains (.ref a) (.str x t))) _ _ s
 refine ah (wpAny_contains_slot hT ZH (lZ ZH hT PySem.F.entry_dict_contains ?_ (PySem.F.args_dict_contains_2 _ _)))
 show au _ _ (dictGet a (.str x t) >>= _) _ _ s
 refine ah (Ru eo hd hks ?_)
 have hf:=x_ x r
 have hfb:wT (sk c.w).is ens x=(ens.toList.find? λe=>(sk c.w).is x e.key).map (·.val):=by
  unfold wT
  rw[<-Array.find?_toList]
 cases hx:eT es x with
 | some v=>
  rw[hx] at hf h
  refine aC hf λe he Z=>?_;clear hf
  rw[hfb,he]
  exact aE (aw _ rfl (sT (aE ⟨.bool _,σ,I.tok _,rfl,TK.refl _,h⟩)))
 | none=>
  rw[hx] at hf h
  rw[hfb,hf]
  show au _ _ (Builtin.Dict.pendingKey? a (.str x t) >>= _) _ _ _
  exact ah (wpAny_pendingKey_other hs (aE (aw _ rfl (sT (aE ⟨.bool _,σ,I.tok _,rfl,TK.refl _,h⟩)))))
end
end
section
theorem cb.append{h:am}{P:az}{e:dB}{k:af}{v:PV}{t:bY}(h1:e.hash=oD P k)(h2:e.key = .str k t)(h3:RV h v e.val):∀{ens:List dB} {es:List (af×PV)},cb h P ens es->cb h P (ens++[e]) (es++[(k,v)])
 | [],es,r=>by
  cases (r:es=[])
  exact(mz k v [] rfl h1 ⟨t,h2⟩ h3 rfl:cb h P [e] [(k,v)])
 | x::ens,es,r=>by
  refine gN r λk' v' es' j1 a b c d=>?_;clear r;subst j1
  exact(mz k' v' _ rfl a b c (cb.append h1 h2 h3 d):cb h P (x::(ens++[e])) ((k',v')::(es'++[(k,v)])))
theorem cb.length{h:am}{P:az}:∀{ens:List dB} {es:List (af×PV)},cb h P ens es->ens.length=es.length
 | [],es,r=>by cases (r:es=[]);rfl
 | e::ens,es,r=>by
  refine gN r λk v es' j1 Z Z Z d=>?_;clear r;subst j1
  simp[cb.length d]
section
variable {c:FC}{σ:AS}{s:ai}{a:aj}{es:List (af×PV)}{x:af}{pv:PV}{v:ag}{st':List (aj×AO)}
theorem OV{A:bZ}{t:bY}{Q E:ag->ai->Prop}{Q':Unit->ai->Prop}(I:In c σ s)(hm:(a,.bx es)∈σ.st)(hx:eT es x=none)(U:fC a (.bx (es++[(x,pv)])) σ.st st')(rv:RV s.heap pv v)(hz:es.length<=100000)
  (h:∀h',In c ⟨σ.loc,st'⟩ {s with heap:=h',toks:=s.toks+1}->TK s.heap h'->Q' () {s with heap:=h',toks:=s.toks+1}):au (av aF c.w) A (dictSet a (.str x t) v) Q' E s:=by
 refine eu (I.bx hm) λo ens n eo hc hk hd r hks=>?_
 have hkey:(sk c.w).is x (.str x t)=true:=hZ aF c.w x t
 have hf:=x_ x r
 replace hf:=hx▸hf
 have hfi:ens.findIdx? (λe=>(sk c.w).is x e.key)=none:=by
  obtain ⟨l⟩:=ens
  rw[ZI,sA]
  intro y hy
  have:=JW.mp hf y hy
  exact eq_false_of_ne_true this
 unfold dictSet
 refine bT (ah ((sk c.w).pyHash hkey ?_))
 unfold dictSetHashed
 refine bT (ah (ZG (s:={s with toks:=s.toks+1}) hkey eo hd hks ?_))
 rw[hfi]
 refine ah (p0 (wpAny_updateDictKeys (hz:=by rw[iy];rw[<-eH,r.length];exact aJ ‹_› (by decide)) (s:={s with toks:=s.toks+1}) eo hd ?_))
 have e2:=iZ (LA (·.push ⟨(sk c.w).hash x,.str x t,v⟩)) eo (LB (ZK hd _))
 have sb:=j_ s.heap a (LA (·.push ⟨(sk c.w).hash x,.str x t,v⟩))
 have tk:TK s.heap (s.heap.update a (LA (·.push ⟨(sk c.w).hash x,.str x t,v⟩))):=λb o' vs n e hc' hd'=>(bh o' ((sb.2 b λq=>by
  replace e:=eo▸q▸e;refine(λj0=>?_) (bj e);clear e;subst j0;replace hc':=hc▸hc';exact absurd hc' (by decide)).trans e) hc' hd')
 obtain ⟨_,o2,eo2,hs2⟩:=I.dc _ _ hm
 replace eo2:=eo▸eo2;refine(λj0=>?_) (bj eo2);clear eo2;subst j0
 refine h _ (I.upd U sb ?_ (fe _) (λZ Z=>⟨⟨_,hm⟩,_,e2,by obtain ⟨oc,od,odt,osl⟩:=o;simp only at hd;subst hd;exact hs2⟩)) tk
 unfold RO
 refine⟨_,_,_,e2,⟨?_,?_⟩,ZK hd _,?_⟩
 .obtain ⟨oc,od,odt,osl⟩:=o;simp only at hd;subst hd;exact hc
 .obtain ⟨oc,od,odt,osl⟩:=o;simp only at hd;subst hd;exact hk
 .rw[oy]
  exact cb.append rfl rfl (rv.tk tk) (r.tk tk)
end
end
section
section
variable {c:FC}{σ:AS}{E:aG->AS->Prop}{N:AS->Prop}{Qf:bO->AS->Prop}
theorem Qx{o i value:aL}{pos' pos:aT}(hs:lW value (some (.Subscript o i pos')) pos.line c.env=pure false)
  (h:Ev c value σ (λpv aq=>Ev c o aq (λd a8=>Ev c i a8 (λk dT=>∃a es x st',d = .val (.ref a)/\k = .str x/\(a,.bx es)∈dT.st/\eT es x=none/\fC a (.bx (es++[(x,pv)])) dT.st st'/\es.length<=100000/\N ⟨dT.loc,st'⟩) E) E) E) :
  X1 c (.Assign [.Subscript o i pos'] value pos) σ N Qf E:=λs I=>by
 refine wpAny_Assign_Subscript (bH (h s I) (λv ay pv aq aQ aZ k₁ a7=>bH (a7 ay aQ) (λov bc d a8 a_ bV k₂ bz=>bn (bz bc a_) (λiv bg p=>p.elim λk dT dM gY jD fz=>?_) λZ Z z=>z))) hs
 refine Oh fz λa es x st' j1 j2 hm hx U hz hN=>?_;clear fz;subst j1;subst j2
 obtain rfl:ov = .ref a:=bV
 refine aP gY λt j1=>?_;clear gY;subst j1
 refine eu (dM.bx hm) λob ens n eo hc hkk hdt r hks=>?_
 have hT:bg.TypeIs (.ref a) "dict":=(aw ob eo hc)
 unfold setItem
 refine bT ?_
 refine ah (ZL hT (by decide) ?_)
 refine ah (Ly (name:=ae "__setitem__") hT ZM (lZ ZM hT PySem.F.entry_dict_setitem ?_ (PySem.F.args_dict_setitem_3 _ _ _)))
 show au _ _ (Builtin.Dict.notOrdered "__setitem__" ⟨[.ref a,.str x t,v],[]⟩ >>= _) _ _ bg
 refine ah (wpAny_notOrdered_dict hT ?_)
 show au _ _ (dictSet a (.str x t) v >>= _) _ _ bg
 refine ah (OV (Q:=λZ Z=>True) (E:=EPost c E) dM hm hx U ((aZ.tk k₂).tk jD) hz λh' I' tk=>?_)
 exact aE (aw .none rfl (aE ⟨.next,_,I',rfl,hN⟩))
end
end
section
theorem cb.look{h:am}{P:az}:∀{ens:List dB} {es:List (af×PV)} (x:af),cb h P ens es->
  (match eT es x with | some v=>∃e,ens.find? (·.key.isStr x)=some e/\RV h v e.val | none=>ens.find? (·.key.isStr x)=none)/\ens.any (·.refKey)=false
 | [],es,x,r=>by cases (r:es=[]);exact⟨rfl,rfl⟩
 | e::ens,es,x,r=>by
  refine gN r λk v es' j1 h1 j2 h3 h4=>?_;clear r;subst j1;refine aP j2 λt h2=>?_;clear j2
  refine aN (cb.look x h4) λi1 i2=>?_
  have hk:e.key.isStr x=(k==x):=by rw[h2];rfl
  refine⟨?_,?_⟩
  .rw[eT]
   by_cases q:k=x
   .rw[aA q]
    exact(aw e (by rw[BG,hk,q];simp) h3)
   .rw[an q,BG,hk,beq_eq_false_iff_ne.mpr q]
    exact i1
  .rw[A9,i2,ZN]
   unfold DictEntry.refKey
   rw[h2]
theorem cb.lookIn{h:am}{P:az}{od:ax}{ens:Array dB}{n:Nat}{es:List (af×PV)}(hd:od.data = .dict ens n)(r:cb h P ens.toList es)(x:af) :
  match eT es x with | some pv=>∃v,lookIn x od=some (some v)/\RV h pv v | none=>lookIn x od=some none:=by
 refine aN (r.look x) λi1 i2=>?_
 unfold ZO
 rw[hd]
 cases e:eT es x with
 | some pv=>
  replace i1:=e▸i1
  refine aC i1 λen h1 h2=>?_;clear i1
  exact(aw en.val (by dsimp only;rw[h1]) h2)
 | none=>
  replace i1:=e▸i1
  dsimp only at i1 |-
  rw[i1]
  dsimp only
  rw[i2];rfl
section
variable {c:FC}{σ:AS}{E:aG->AS->Prop}{N:AS->Prop}{Qf:bO->AS->Prop}{Q:PV->AS->Prop}{s:ai}{x dx C:aj}{dt:mT}{es:List (af×PV)}{K:bE}{name:af}{pv:PV}
theorem In.raw{a:aj}{C:ag}{d:Option aj}(I:In c σ s)(hm:(a,.raw C d dt)∈σ.st):∃o,s.heap.get? a=some o/\o.cls=C/\o.dict=d/\o.data=dt:=by
 refine aN (I.st _ _ hm) λr Z=>?_
 obtain ⟨o,h1,h2,h3,h4,_⟩:=r
 exact(jE o h1 h2 h3 h4)
noncomputable def pT:mT->Bool
 | .cls _=>false
 | _=>true
theorem In.inst(I:In c σ s)(hx:(x,.raw (.ref C) (some dx) dt)∈σ.st)(hd:(dx,.bx es)∈σ.st)(hn:pT dt=true) :
  ∃ox od ens n,InstAt s.heap x ox C (some od)/\ox.dict=some dx/\ox.data=dt/\s.heap.get? dx=some od/\od.data = .dict ens n/\od.cls = .type "dict"/\od.dict=none/\cb s.heap c.w.params ens.toList es:=by
 refine mh (I.raw hx) λox h1 h2 h3 h4=>?_
 refine eu (I.bx hd) λod ens n e1 e2 e3 e4 e5 Z=>?_
 refine(E8 ox od ens n ⟨h1,h2,?_,?_⟩ h3 h4 e1 e4 e2 e3 e5)
 .unfold notCls;rw[h4];cases dt <;> first | rfl | cases hn
 .rw[h3];exact e1
theorem GZ{attr:Option ag}(X:K.In c.b0)(hx:(x,.raw (.ref C) (some dx) dt)∈σ.st)(hd:(dx,.bx es)∈σ.st)(hn:pT dt=true)
  (hg:km K (.ref C) "__getattribute__" = some (some (.builtin "object.__getattribute__"))) (hh:LC K C=true) (ha:km K (.ref C) name=some attr) (hno:noGet K attr=true) (hv:eT es name=some pv)
  (hf:∀h v,RV h pv v->qD v=true) (h:Q pv σ):U1 c RV (λv=>mZ v name true) (.val (.ref x)) σ Q E:=λs v I e=>by
 obtain rfl:v = .ref x:=e
 refine rQ (I.inst hx hd hn) λox od ens n IA Z Z ho hod Z Z r=>?_
 have hl:=r.lookIn hod name
 replace hl:=hv▸hl
 refine(λj1=>?_) hl;clear hl;refine aC j1 λv hl rv=>?_;clear j1
 exact get_value (X.keeps I.b0) IA hg (findObj_own hh ha hno hl) (hf _ _ rv) ⟨pv,σ,I.tok _,rv,TK.refl _,h⟩
theorem Ev.attr{value:aL}{attr:af}{pos:aT}(hb:wG value attr c.env (eval value c.env)=eval value c.env)(h:Ev c value σ (λx aq=>U1 c RV (λv=>mZ v attr true) x aq Q E) E):Ev c (.Attribute value attr pos) σ Q E:=λs I=>by
 refine Attribute_any_ (bH (h s I) (λo ay y aq aQ aZ k₁ a7=>?_)) (by rw[PySem.arm_eval_Attribute,hb])
 exact iS k₁ (a7 ay o aQ aZ)
theorem O1{mc v:ag}(X:K.In c.b0)(hr:readsIn K C mc=true)(e:findCls K (.ref C) mc name=some (.val v))(hh:qD v=true)(rv:∀h,RV h pv v)(h:Q pv σ) :
  U1 c RV (λv=>mZ v name true) (.val (.ref C)) σ Q E:=λs u I e'=>by
 obtain rfl:u = .ref C:=e'
 exact cls_value (X.keeps I.b0) hr e hh ⟨pv,σ,I.tok _,rv _,TK.refl _,h⟩
theorem dh.inst{f:aj}{Kk:PV->List PV->AS->Prop}(X:K.In c.b0)(hx:(x,.raw (.ref C) (some dx) dt)∈σ.st)(hd:(dx,.bx es)∈σ.st)(hn:pT dt=true)
  (hg:plainGet K C name=true) (hf:km K (.ref C) name=some (some (.ref f))) (ht:isFn K (.ref f)=true) (hv:eT es name=none)
  (h:Kk (.val (.ref f)) [.val (.ref x)] σ):dF c (.val (.ref x)) name σ Kk E:=λs ov pl I e=>by
 obtain rfl:ov = .ref x:=e
 refine rQ (I.inst hx hd hn) λox od ens n IA Z Z ho hod Z Z r=>?_
 have hl:=r.lookIn hod name
 replace hl:=hv▸hl
 refine method_fn (X.keeps I.b0) IA (plainGet_of hg).1 (plainGet_of hg).2 hf (beq_iff_eq.mp ht) (by show(ZO name od).map _=_;rw[hl];rfl) ⟨.val (.ref f),[.val (.ref x)],σ,I,rfl,?_,TK.refl _,h⟩
 exact aB.cons rfl aB.nil
noncomputable def FC.gP(c:FC)(A:bZ):FC:={c with A:=A}
theorem In.gP{A:bZ}(I:In c σ s):In (c.gP A) σ s:=⟨I.b0,I.fr,I.up1,I.cq,(let ⟨mm,x,r⟩:=I.ns;⟨mm,⟨x.ns,x.cu⟩,r⟩),I.st,I.L0,I.L1,I.Lo,I.tab,I.os,I.gens,I.nd,I.tk,I.dc⟩
theorem In.uI{A:bZ}(I:In (c.gP A) σ s):In c σ s:=⟨I.b0,I.fr,I.up1,I.cq,(let ⟨mm,x,r⟩:=I.ns;⟨mm,⟨x.ns,x.cu⟩,r⟩),I.st,I.L0,I.L1,I.Lo,I.tab,I.os,I.gens,I.nd,I.tk,I.dc⟩
theorem Pl.gP{ev:bB}{w:aR}{b:am}{n m:Nat}{A:bZ}(P:Pl c ev w b n)(hf:A.frames=c.A.frames)(hh:A.handled=c.A.handled)(hd:A.depth+m<=c.A.depth+n):Pl (c.gP A) ev w b m:=
 ⟨⟨⟨P.ok.kind,P.ok.glob,P.ok.blt,P.ok.cu⟩,hf.trans P.ok.frames,P.ok.frame,P.ok.lim,P.ok.own,P.ok.dn,P.ok.t0⟩,P.env,P.w,P.b0,by show A.depth+m<_;have:=P.room;exact bL ‹_› ‹_›,by
  rcases P.fP with h | ⟨e,h,l,hc⟩
  .exact .inl (hh.trans h)
  .exact .inr (aw e (hh.trans h) ⟨l,hc⟩),P.tb⟩
end
end
section
open PySem PySem.W PyProof.Rows Builtin.ObjectAttr
section
variable {c:FC}{σ:AS}{E:aG->AS->Prop}{N:AS->Prop}{Qf:bO->AS->Prop}{Q:PV->AS->Prop}{s:ai}{x dx C:aj}{dt:mT}{es:List (af×PV)}{K:bE}{name:af}{pv:PV}
theorem FW{fI:aj}{xs:List PV}(X:K.In c.b0)(hm:makesIn K C=true)(hi:km K (.ref C) "__init__" = some (some (.ref fI)))(hf:typeIn K (.ref fI)=some (.type "function"))
  (h:∀x dx A,A.frames=c.A.frames->A.handled=c.A.handled->A.depth=c.A.depth+1->x≠dx->(∀ao,(x,ao)∉σ.st)->(∀ao,(dx,ao)∉σ.st)->
   c_ (c.gP A) RV fI (.val (.ref x)::xs) [] [] {σ with st:=(x,.raw (.ref C) (some dx) .plain)::(dx,.bx [])::σ.st} (λv a8=>v = .none/\Q (.val (.ref x)) a8) (λZ Z=>False)) :
  aM c (.val (.ref C)) xs [] [] σ Q E:=by
 intro s fv vs kvs I rf rx rk
 obtain rfl:fv = .ref C:=rf
 obtain rfl:kvs=[]:=hW rk
 have Xs:=X.keeps I.b0
 have Y:=makes_of (M:=av aF c.w) Xs hm
 obtain ⟨⟨oc,od,cd,sl,hC,e1,e2,e4⟩,made,base,self,top,call,typ⟩:=id Y
 unfold iV
 refine ah ?_
 unfold mV
 refine ah (s0 hC ?_)
 dsimp only
 refine ah (call.here ?_)
 refine aE ?_
 obtain ⟨hh,g,d,t,os⟩:=s
 refine jB (make_core Y (tm Xs hi) (λself=>bind_fn Xs self hf) (.inl rfl) ?_)
 have k1:∀b o,hh.get? b=some o->(hh.push fX).get? b=some o:=λb o e=>dy _ e
 have k2:∀b o,(hh.push fX).get? b=some o->((hh.push fX).push (wU C hh.objs.size)).get? b=some o:=λb o e=>dy _ e
 have gd:(hh.push fX).get? hh.objs.size=some fX:=cH _ rfl
 have I2:In c {σ with st:=(hh.objs.size,.bx [])::σ.st} ⟨hh.push fX,g,d,t,os⟩:=I.jc (I.grow k1) (fb (bk _)) (by
  unfold RO
  exact⟨fX,#[],0,gd,⟨rfl,rfl⟩,rfl,rfl⟩) (λZ Z=>(aw fX gd rfl))
 have hz:(hh.push fX).objs.size=hh.objs.size+1:=mR _ _
 have gx:((hh.push fX).push (wU C hh.objs.size)).get? (hh.objs.size+1)=some (wU C hh.objs.size):=by rw[<-hz];exact cH _ rfl
 have I4:In c {σ with st:=(hh.objs.size+1,.raw (.ref C) (some hh.objs.size) .plain)::(hh.objs.size,.bx [])::σ.st} ⟨(hh.push fX).push (wU C hh.objs.size),g,d,t,os⟩:=
  I2.jc (I2.grow k2) (fb (by rw[hz];exact bk _)) (by
   unfold RO
   exact⟨_,gx,rfl,rfl,rfl,λvs q=>(nomatch q),λq=>(nomatch q)⟩)
 have nf:∀a,hh.objs.size<=a->∀ao,(a,ao)∉σ.st:=λa ha ao hm=>by
  refine aC ((I.st a ao hm).1.there) λo e Z=>?_
  exact absurd (dR e) (i0.mpr ha)
 have kt:TK hh ((hh.push fX).push (wU C hh.objs.size)):=.of_keeps λb o e=>k2 b o (k1 b o e)
 have hc:=h (hh.objs.size+1) hh.objs.size (c.A.under (.builtin "type.__call__" ⟨.ref C::vs,[]⟩)) (by have e:(Code.builtin "type.__call__" ⟨.ref C::vs,[]⟩).envs=[]:=rfl;unfold Around.under;dsimp only;rw[e];rfl) rfl rfl (LD _) (nf _ (fe _)) (nf _ (bk _))
  _ (.ref (hh.objs.size+1)::vs) [] I4.gP (aB.cons rfl (rx.tk kt)) aB.nil
 refine wB hc λr s' z=>?_
 rcases r with e | (v | _ | _ | _) <;> first | exact z.elim | skip
 .refine(λj1=>?_) z;clear z;refine Internal.EPost.elim j1 λZ Z Z Z Z Z z=>?_;clear j1;exact z.elim
 .obtain ⟨y,σ',I',r,k,rfl,q⟩:=z
  exact⟨r,.val (.ref (hh.objs.size+1)),σ',I'.uI,rfl,kt.trans k,q⟩
theorem Po{od:ax}{ens:Array dB}{n:Nat}{hsh:Int}{key v:ag}(hd:od.data = .dict ens n)(hf:ens.toList.find? (·.key.isStr name)=none) :
  BH name hsh key v od={od with data:=.dict (ens.push ⟨hsh,key,v⟩) (n+1)}:=by
 obtain ⟨oc,odi,oda,osl⟩:=od
 dsimp only at hd
 subst hd
 rw[Obj.putName_eq]
 unfold Obj.putNameByArray
 have hfi:ens.findIdx? (λe=>e.key.isStr name)=none:=by
  obtain ⟨l⟩:=ens
  rw[ZI,sA]
  intro y hy
  have:=JW.mp hf y hy
  exact eq_false_of_ne_true this
 dsimp only
 rw[hfi]
theorem Tz{v:ag}{Q':Unit->ai->Prop}{E':ag->ai->Prop}{st':List (aj×AO)}(X:K.In c.b0)(I:In c σ s)(rv:RV s.heap pv v)(hx:(x,.raw (.ref C) (some dx) dt)∈σ.st)(hd:(dx,.bx es)∈σ.st)(hn:pT dt=true)
  (hs:km K (.ref C) "__setattr__" = some (some (.builtin "object.__setattr__"))) (hp:plainOver K C=true) (ht:takerIn K C name=some none) (hh:LC K C=true) (hv:eT es name=none) (hz:es.length<=1000)
  (U:fC dx (.bx (es++[(name,pv)])) σ.st st')
  (h:∀h' tk,In c ⟨σ.loc,st'⟩ {s with heap:=h',toks:=tk}->TK s.heap h'->Q' () {s with heap:=h',toks:=tk}):au (av aF c.w) c.A (setAttr (.ref x) name v) Q' E' s:=by
 refine rQ (I.inst hx hd hn) λox od ens n IA hdx hdt ho hod hcd hdd r=>?_
 have Xs:=X.keeps I.b0
 refine aN (r.look name) λi1 i2=>?_
 replace i1:=hv▸i1
 dsimp only at i1
 refine set_plain Xs IA hs (osa_open (s:={s with toks:=s.toks+1}) Xs IA hp ht λb=>?_)
 refine aC (any_some hh) λcd hc hd'=>?_
 obtain ⟨hx',hcl,hno,-⟩:=IA
 obtain ⟨oc,odi,oda,osl⟩:=ox
 dsimp only at hcl hdx
 subst hcl hdx
 refine ah (aE (ah (ah (Aq hx' (ah (LF Xs hc _ _ _ _ (λZ Z e=>e) ?_))))))
 rw[hd']
 refine aE (a:=some dx) (ah (aE (ah ?_)))
 unfold nsSet
 refine ah (ah (sE (aE (ah (oF (ah (Aq ho ?_)))))))
 rw[hod]
 dsimp only
 rw[aRefKeyMayBeTheName_at,(by rw[<-ZP (p:=λx:dB=>x.refKey),i2,sG]:(!ens.any (·.key.isStr name)&&ens.any (·.refKey))=false)]
 refine wpAny_updatePart ho ?_
 have ga:od.isFreed=false:=LB hod
 have hput:=Po (hsh:=oD c.w.params name) (key:=.str name (s.toks+1)) (v:=v) hod i1
 have D':=iZ (BH name (oD c.w.params name) (.str name (s.toks+1)) v) ho (by rw[hput];rfl)
 have sb:=j_ s.heap dx (BH name (oD c.w.params name) (.str name (s.toks+1)) v)
 have tk:TK s.heap (s.heap.update dx (BH name (oD c.w.params name) (.str name (s.toks+1)) v)):=λb o' vs n e hc' hd'=>(bh o' ((sb.2 b λq=>by
  replace e:=ho▸q▸e;refine(λj0=>?_) (bj e);clear e;subst j0;replace hc':=hcd▸hc';exact absurd hc' (by decide)).trans e) hc' hd')
 refine ah (wpAny_lookBehind D' (by
  rw[hput]
  have:=r.length
  replace this:=eH▸this
  exact pastItsLine_dict (by rw[sM,this,iy];omega)) ?_)
 obtain ⟨_,o2,eo2,hs2⟩:=I.dc _ _ hd
 replace eo2:=ho▸eo2;refine(λj0=>?_) (bj eo2);clear eo2;subst j0
 refine aE (h _ _ (I.upd U sb ?_ (by dsimp only;lia) (λZ Z=>⟨⟨_,hd⟩,_,D',by rw[hput];exact hs2⟩)) tk)
 unfold RO
 refine⟨_,_,_,D',⟨?_,?_⟩,by rw[hput],?_⟩
 .rw[hput];exact hcd
 .rw[hput];exact hdd
 .rw[oy]
  exact cb.append rfl rfl (rv.tk tk) (r.tk tk)
end
end
section
section
variable {c:FC}{σ:AS}{E:aG->AS->Prop}{Q:PV->AS->Prop}{s:ai}{x dx C:aj}{K:bE}{name:af}{pv:PV}{xs ys:List PV}
theorem QG{a:aj}(h:Q (.bool false) σ):U2 c RV (ce .Is) (.val (.ref a)) .none σ Q E:=λs u v I e e'=>by
 obtain rfl:u = .ref a:=e
 obtain rfl:v = .none:=e'
 exact wpAny_is_other rfl (λq=>nomatch q) (ip I h)
theorem on{h:am}{v:ag}(r:RV h (.tup xs) v):∃a o vs n,v = .ref a/\h.get? a=some o/\o.cls = .type "tuple"/\o.data = .seq vs n/\aB h xs vs.toList/\vs.size=xs.length:=by
 obtain ⟨a,o,vs,n,e,ho,hc,hd,hr⟩:=r
 exact(PM a o vs n e ho hc hd hr (by rw[<-hr.length];exact Ls))
theorem Ui{Q:Bool->AS->Prop}(hz:xs.length<2^60)(h:Q (!xs.isEmpty) σ):U1 c fw eZ (.tup xs) σ Q E:=λs v I r=>by
 refine oX (on r) λa o vs n j1 ho hc hd hr hs=>?_;subst j1
 refine truthy_tuple (bh o ho hc ⟨n,hd⟩) (by lia) ?_
 have:(!vs.isEmpty) = !xs.isEmpty:=by
  rw[(by unfold Zq;cases vs.size <;> rfl:vs.isEmpty=(vs.size==0)),hs]
  cases xs <;> rfl
 rw[this]
 exact⟨_,σ,I.tok _ (by lia),rfl,TK.refl _,h⟩
theorem V4(h:Q (.tup ys) σ):U2 c RV (fy .Add) (.tup []) (.tup ys) σ Q E:=λs u v I r r'=>by
 obtain ⟨a,⟨c1,d1,dt1,s1⟩,vs,n,rfl,ho,hc,hd,hr,hs⟩:=on r
 obtain ⟨b,⟨c2,d2,dt2,s2⟩,ws,m,rfl,ho',hc',hd',hr',hs'⟩:=on r'
 dsimp only at hc hd hc' hd'
 subst hc hd hc' hd'
 exact concat_meets (aw _ ho rfl) (aw _ ho' rfl) noFill_tuple_add seq_tuple_add PySem.F.slot_tuple_add PySem.F.entry_tuple_add (PySem.F.args_tuple_add_2 _ _)
  (tuple_addW0 a b vs ws n m d1 d2 s1 s2 (by have h0:vs.size=0:=hs;exact Array.isEmpty_iff_size_eq_zero.mpr hs)) ⟨ho,ho',⟨.tup ys,σ,I,r',TK.refl _,h⟩⟩
theorem N_{y:PV}(h:Q (.tup []) σ):jS c (.tup [y]) .none (.int (-((1:Nat):Int))) σ Q E:=λs o lv uv I r e1 ⟨t2,e2⟩=>by
 obtain rfl:lv = .none:=e1
 subst e2
 refine oX (on r) λa ot vs n j1 ho hc hd hr hz=>?_;subst j1
 unfold sP
 refine kf ?_
 have e1:=dy {cls:=.type "slice",data:=.fields #[.none,.int (-((1:Nat):Int)) t2,.none]} ho
 have es:=cH s.heap (o:={cls:=.type "slice",data:=.fields #[.none,.int (-((1:Nat):Int)) t2,.none]}) rfl
 have hT:({s with heap:=s.heap.push {cls:=.type "slice",data:=.fields #[.none,.int (-((1:Nat):Int)) t2,.none]}}:ai).TypeIs (.ref a) "tuple":=(aw ot e1 hc)
 refine zc hT BA.lookup ?_
 unfold oK
 refine bT ?_
 refine ah (ZL hT (by decide) ?_)
 refine ah (Ly (name:=ae "__getitem__") hT LG (lZ LG hT entry_tuple_getitem ?_ (args_tuple_getitem _ _)))
 show au _ _ (LH (.ref a) >>= _) _ _ _
 refine ah (tupleItemsOf_ (items:=vs) (bh ot e1 hc ⟨n,hd⟩) ?_)
 refine ah (Ln (aw _ es rfl) ?_)
 rw[aA (by decide)]
 refine ah ?_
 unfold Builtin.Slice.sliceApplied Builtin.Slice.sliceFields
 refine ah (ah (fV es rfl (x:=.none) rfl (ah (fV es rfl (x:=.int (-((1:Nat):Int)) t2) rfl (ah (fV es rfl (x:=.none) rfl (aE ?_)))))))
 refine ah (slicePart_none ?_)
 show au _ _ (if((1:Int)==0)=true then _ else _) _ _ _
 rw[an (by decide)]
 refine ah (slicePart_none (ah (slicePart_int (ah (aE ?_)))))
 rw[hz]
 refine aE (a:=((0:Int),(1:Int),0)) ?_
 show au _ _ (if((0:Int)==0&&(1:Int)==1&&0==1)=true then _ else _) _ _ _
 rw[an (by decide)]
 refine ah (m:=Builtin.Tuple.tupleExact _) (kf ?_ (by show _<=_;exact cQ _))
 refine aE (aw _ rfl (aE ?_))
 refine⟨.tup [],σ,(I.push {cls:=.type "slice",data:=.fields #[.none,.int (-((1:Nat):Int)) t2,.none]}).push _,?_,(TK.push _).trans (TK.push _),h⟩
 rw[RV]
 exact⟨_,_,#[],0,rfl,cH _ rfl,rfl,rfl,aB.nil⟩
theorem SK{pos:aT}(h:∀a,(∀ao,(a,ao)∉σ.st)->Q (.val (.ref a)) {σ with st:=(a,.bx [])::σ.st}):Ev c (.Dict [] [] pos) σ Q E:=λs I=>by
 refine wpAny_Dict_empty ?_
 have hn:=fb (bk s.heap.objs.size)
 refine⟨.val (.ref s.heap.objs.size),_,I.jc (I.push _) hn ?_ (λZ Z=>(aw _ (cH _ rfl) rfl)),rfl,TK.push _,h s.heap.objs.size λao hm=>?_⟩
 .unfold RO
  exact⟨_,#[],0,cH _ rfl,⟨rfl,rfl⟩,rfl,rfl⟩
 .refine aC ((I.st _ ao hm).1.there) λo e Z=>?_
  exact bI (hn▸e)
theorem Ut(h:∀a,Q (.val (.ref a)) σ):aM c (.val (.type "set")) [] [] [] σ Q E:=aM.type λs vs I r=>by
 obtain rfl:=hW r
 exact call_set_0 λled=>⟨.val (.ref s.heap.objs.size),σ,I.push _,rfl,TK.push _,h _⟩
theorem VL{d:Option aj}{dt:mT}(hx:(x,.raw (.ref C) d dt)∈σ.st)(h:Q (.val (.ref C)) σ):aM c (.val (.type "type")) [.val (.ref x)] [] [] σ Q E:=aM.type λs vs I r=>by
 refine aC (iL r) λv j1 j2=>?_;subst j1;subst j2
 refine br (I.raw hx) λo ho hc Z=>?_
 obtain ⟨hh,g,d,t,os⟩:=s
 exact call_type_obj ho (by rw[hc];rfl) (by rw[hc];exact⟨.val (.ref C),σ,I,rfl,TK.refl _,h⟩)
theorem GU{M:cP}{h:am}{cd:ClassData}(X:K.In h)(e:l7 K C=some cd):eN M h (Bh (.ref C)) true:=by
 unfold l7 at e
 split at e
 .rename_i ho
  exact(wV (X _ _ ho)).andThen .now
 .exact bI e
theorem QT{T:String}(h1:(l7 K C).isSome=true)(ht:gw (.type T)=pure (.type "type"))(h3:tn K (.ref C) (.type T)=some true) :
  Meets (cn.«issubclass» ⟨[.ref C,.type T],[]⟩) (λZ R s=>K.In s.heap/\R (.ok (.ret (.bool true))) s):=λprog w A R s ⟨Xs,hq⟩=>by
 refine issubclass_outer ?_
 refine aP (mL.mp h1) λcd hc=>?_
 have L1:=GU (M:=av prog w) Xs hc
 unfold cn.«issubclass.nested»
 show au _ _ (gw (.type T) >>= _) _ _ _
 rw[ht]
 refine ah (aE ?_)
 rw[aA (by decide)]
 k_delta "plainIsSubclass"
 refine ah (ah (L1.here (ah (aE ?_))))
 rw[aA (by rfl)]
 exact(wW (M:=av prog w) Xs h3).here (aE hq)
theorem Rv{T:String}(X:K.In c.b0)(h1:(l7 K C).isSome=true)(ht:gw (.type T)=pure (.type "type"))(h3:tn K (.ref C) (.type T)=some true)(h:Q (.bool true) σ) :
  aM c (.val (.builtin "issubclass")) [.val (.ref C),.val (.type T)] [] [] σ Q E:=aM.blt λs vs I r=>by
 refine bM (eQ r) λv u j1 j2 j3=>?_;subst j1;subst j2;subst j3
 exact call_issubclass (QT h1 ht h3) ⟨X.keeps I.b0,⟨.bool true,σ,I,rfl,TK.refl _,h⟩⟩
end
end
section
section
variable {c:FC}{σ:AS}{E:aG->AS->Prop}{Q:PV->AS->Prop}{s:ai}{x dx C:aj}{K:bE}{name:af}{pv:PV}{xs ys:List PV}
theorem dh.type{T:String}{v:ag}{Kk:PV->List PV->AS->Prop}(ht:gw (.type T)=pure (.type "type"))(hs:Manifest.isStub T=false)(e:findCls [] (.type T) (.type "type") name=some (.val v))(hh:qD v=true)
  (h:Kk (.val v) [] σ):dF c (.val (.type T)) name σ Kk E:=λs ov pl I e'=>by
 obtain rfl:ov = .type T:=e'
 have X:BI [] s.heap:=λa o q=>nomatch q
 have L0:eN (av aF c.w) s.heap (gw (.type T)) (.type "type"):=qE ht
 unfold getMethod specialOf
 refine ah (ah (L0.here ((tm X type_tga).here ?_)))
 dsimp only
 rw[aA canon_tga]
 refine ah (cls_open X (qE (by unfold opaqueClassAbove;dsimp only;rw[hs];rfl)) L0 type_tga (looks_hook X (r:=none) (by rfl)) (by show tn [] _ _=_;rfl) e (aE ?_))
 show au _ _ (handedOut v) _ _ _
 rw[handedOut_of hh]
 exact aE (aE ⟨.val v,[],σ,I.tok _,rfl,aB.nil,TK.refl _,h⟩)
theorem VH{d:Option aj}{vs:Array ag}{n i:Nat}{v:ag}(X:K.In c.b0)(hx:(x,.raw (.ref C) d (.seq vs n))∈σ.st)(hC:tn K (.ref C) (.type "tuple")=some true)(hi:vs[i]?=some v)(hz:i<1000)(h:Q (.val v) σ) :
  aM c (.val (.builtin "tuple.__getitem__")) [.val (.ref x),.int (i:Int)] [] [] σ Q E:=aM.blt λs ws I r=>by
 refine bM (eQ r) λv1 v2 j1 j2 j3=>?_;subst j1;subst j2;refine aP j3 λt j4=>?_;clear j3;subst j4
 refine mh (I.raw hx) λo ho hc Z hd=>?_
 have Xs:=X.keeps I.b0
 have hI:eN (av aF c.w) s.heap (iD (.ref x) (.type "tuple")) true:=by
  refine Looks.andThen (a:=dz C) ?_ (wW Xs hC)
  exact hc▸(wV ho).andThen .now
 refine jB (wO LG.plain entry_tuple_getitem ?_)
 refine @check_slot (av aF c.w) _ _ s "tuple.__getitem__" "tuple" "__getitem__" (.ref x) [.int (i:Int) t] [] _ (by decide +kernel) (by decide +kernel) hI (args_tuple_getitem _ _) ?_
 show au _ _ (LH (.ref x) >>= _) _ _ s
 unfold LH
 refine ah (ah (BD ho hd (aE ?_)))
 refine ah (Ln (typeIs_int s _ t) ?_)
 rw[an (by decide)]
 refine ah (wC (T:="int") (typeIs_int s _ t) int_index ?_)
 rw[an (by simp)]
 refine ah (mP (a:=(i:Int)) rfl ?_)
 rw[an (by simp only[sW,decide_eq_true_eq];lia)]
 have hlt:i<vs.size:=(ql.mp hi).1
 have hj:Ba (i:Int) vs.size=some i:=by rw[ug,aA hlt]
 simp only[hj,kO,hi]
 exact aE ⟨.val v,σ,I,rfl,TK.refl _,h⟩
structure jL(K:bE)(C:aj):Prop where
 obj:∃oc od cd sl,K.lookup C=some ⟨oc,od,.cls cd,sl⟩/\cd.mro=[.ref C,.type "tuple",.type "object"]/\cd.bases=[.type "tuple"]/\sl[4]?=some (some .none)/\cd.hasDel=false
 init:km K (.ref C) "__init__" = some (some (.builtin "object.__init__"))
 sub:tn K (.ref C) (.type "tuple")=some true
 typ:instIn K (.ref C) (.type "type")=some true
section
variable {M:cP}{h:am}
theorem jL.mro(T:jL K C)(X:K.In h):eN M h (mroOf (.ref C)) [.ref C,.type "tuple",.type "object"]:=by
 refine TX T.obj λoc od cd sl e e1 Z=>?_
 exact e1▸(LF X (by unfold l7;rw[e])).andThen .now
theorem jL.made(T:jL K C)(X:K.In h):eN M h (tq (.ref C)) none:=by
 refine mj T.obj λoc od cd sl e e1 e2 e3 Z=>?_
 intro A Q E s k q
 unfold tq
 refine ah (T.mro X A _ E s k ?_)
 rw[i3]
 refine ah (ah (ah (ah (Aq (k _ _ (X _ _ e)) (aE ?_)))))
 dsimp only
 rw[e3]
 exact aE (aE (aE q))
theorem EZ:tq (.type "tuple")=pure (some "tuple.__new__"):=PySem.F.called_tuple.made
theorem jL.base(T:jL K C)(X:K.In h):eN M h (LI (.ref C)) (.type "tuple"):=by
 refine mj T.obj λoc od cd sl e e1 e2 e3 Z=>?_
 intro A Q E s k q
 unfold LI
 refine ah (T.mro X A _ E s k ?_)
 rw[i3]
 refine ah (ah (ah (T.made X A _ E s k ?_)))
 refine ah (LF X (by unfold l7;rw[e]) A _ E s k ?_)
 rw[e2]
 refine ah (m:=Builtin.Slots.bestBase [.type "tuple"]) (mP (a:=mY "tuple") (by kernel_rfl) (aE ?_))
 show au _ _ (forIn [mY "tuple",mY "object"] _ _) _ _ _
 rw[i3]
 refine ah (ah ?_)
 show au _ _ (tq (.type "tuple")) _ _ _
 rw[EZ]
 exact aE (aE (aE (aE q)))
end
end
end
section
theorem Xg:ZQ "tuple.__new__" = some ⟨.constructor,"tuple","tuple",.cls,[⟨"iterable",.posOnly,false⟩]⟩:=by kernel_rfl
theorem Uj(a b:ag):ZR "tuple.__new__" ⟨.constructor,"tuple","tuple",.cls,[⟨"iterable",.posOnly,false⟩]⟩ ⟨[a,b],[]⟩=pure ():=by kernel_rfl
theorem zB{α:Type}{M:cP}{A:bZ}{E:ag->ai->Prop}{s:ai}{c:Prop}[Decidable c]{a b:bf α}{Q:α->ai->Prop}(h:au M A b Q E s)(hc:¬c):au M A (if c then a else b) Q E s:=(an hc).symm▸h
theorem TV{M:cP}{A:bZ}{E:ag->ai->Prop}{s:ai}{i owner made:String}{C:aj}{b:ag}{rest:List ag}{sig:Manifest.Signature}{Q:Unit->ai->Prop}
  (hk:builtinKind i=some .builtinFn) (hs:splitId i=some (owner,"__new__")) (hg:ZQ i=some sig) (h1:eN M s.heap (Bh (.ref C)) true) (h2:eN M s.heap (ka (.ref C) (.type owner)) true)
  (h3:eN M s.heap (LI (.ref C)) b) (h4:eN M s.heap (tq b) (some made)) (h5:¬(ZS made !=ZS i)=true) (ha:ZR i sig ⟨.ref C::rest,[]⟩=pure ()) (q:Q () s) :
  au M A (Lb i ⟨.ref C::rest,[]⟩) Q E s:=by
 unfold Lb
 rw[hk,hs,hg]
 refine ah (h1.here (zB (ah (h2.here (zB (ah (h3.here (ah (h4.here (zB ?_ h5))))) (by decide)))) (by decide)))
 exact mP ha q
noncomputable abbrev pj(C dx:aj)(us:Array ag):ax:={cls:=.ref C,dict:=some dx,data:=.seq us}
section
variable {prog:iC}{w:aR}{A:bZ}{R:gU->ai->Prop}{s:ai}{C t:aj}{K:bE}{o:ax}{us:Array ag}{n:Nat}
theorem VT(T:jL K C)(X:K.In s.heap)(ho:s.heap.get? t=some o)(hc:o.cls = .type "tuple")(hd:o.data = .seq us n)(hz:us.size<=1000)
  (h:∀h':am,(∀b o,s.heap.get? b=some o->h'.get? b=some o)->R (.ok (.ret (.ref (h'.objs.size+1)))) {s with heap:=(h'.push fX).push (pj C h'.objs.size us)}) :
  kh (av prog w) A (.call (.builtin "tuple.__new__") ⟨[.ref C,.ref t],[]⟩) R s:=by
 refine mj T.obj λoc od cd sl e e1 e2 e3 e5=>?_
 have L1:=GU (M:=av prog w) X (by unfold l7;rw[e])
 have L2:=wW (M:=av prog w) X T.sub
 have L3:=T.base (M:=av prog w) X
 have L4:eN (av prog w) s.heap (tq (.type "tuple")) (some "tuple.__new__"):=qE EZ
 have L5:=tm (M:=av prog w) X T.init
 have L6:eN (av prog w) s.heap (Bind.madeHere "tuple.__new__" (.ref C)) ():=L3.andThen (L4.andThen (qE (an (by decide +kernel))))
 refine codeAny_call_builtin_code (wH _ (by decide +kernel)) ?_
 with_reducible refine TV (by decide +kernel) (by decide +kernel) Xg L1 L2 L3 L4 ?f (Uj _ _) ?_
 case f=>decide +kernel
 have fin:∀h':am,(∀b o,s.heap.get? b=some o->h'.get? b=some o)->au (av prog w) A.in1 (do ret (<-newObj (.ref C) (.seq us.toList.toArray) (some (<-alloc {cls:=.type "dict",data:=.dict #[]}))))
   (λfin s'=>match fin with | .done f=>R (.ok f) s' | .again c'=>c'.quiet=true/\kh (av prog w) A c' R s') (λe s'=>R (.error e) s') {s with heap:=h'}:=by
  intro h' k
  refine ah (J8 (ah ?_))
  show au _ _ (if us.toList.toArray.size>bN then _ else _) _ _ _
  rw[an (by simp only[ZT];rw[iy];lia)]
  unfold newObjAsIs classHasDel
  refine ah (J8 (ah (ah (s0 (dy _ (dy _ (k _ _ (X _ _ e)))) (aE ?_)))))
  rw[e5]
  refine aE (aE ?_)
  have:=h h' k
  simp only[ZT]
  show R _ _
  rw[mR]
  exact this
 refine Lc PySem.F.entry_tuple_new ?_
 rw[Around.under_plain rfl rfl]
 unfold cn.«tuple.__new__»
 repeat (first | with_reducible refine wpAny_collect_seq t (.inr rfl) ho hc hd ?_ (by rw[iy];exact aJ ‹_› (by decide)) | with_reducible refine Looks.here (by assumption) ?_ | ((with_reducible refine BJ ?hh ?_);(case hh=>rfl)) | ((with_reducible refine oR ?hh ?_);(case hh=>rfl)) | lk)
 intro h' k
 exact ah (aE (fin h' k))
end
section
variable {c:FC}{σ:AS}{E:aG->AS->Prop}{Q:PV->AS->Prop}{s:ai}{x dx C:aj}{K:bE}
theorem zz{h:am}:∀{us:List ag} {vs:List ag},aB h (us.map PV.val) vs->vs=us
 | [],vs,r=>hW r
 | u::us,vs,r=>by
  replace r:=cJ▸r
  refine bM r λv q j1 r1 r2=>?_;clear r;subst j1
  rw[show v=u from r1,zz r2]
theorem In.pj{us:Array ag}{h':am}(I:In c σ s)(k:∀b o,s.heap.get? b=some o->h'.get? b=some o) :
  In c {σ with st:=(h'.objs.size+1,.raw (.ref C) (some h'.objs.size) (.seq us))::(h'.objs.size,.bx [])::σ.st} {s with heap:=(h'.push fX).push (pj C h'.objs.size us)}:=by
 obtain ⟨hh,g,d,t,os⟩:=s
 have I0:In c σ ⟨h',g,d,t,os⟩:=I.grow k
 have I2:In c {σ with st:=(h'.objs.size,.bx [])::σ.st} ⟨h'.push fX,g,d,t,os⟩:=I0.jc (I0.push _) (fb (bk _)) (by
  unfold RO
  exact⟨fX,#[],0,cH _ rfl,⟨rfl,rfl⟩,rfl,rfl⟩) (λZ Z=>(aw fX (cH _ rfl) rfl))
 have hz:(h'.push fX).objs.size=h'.objs.size+1:=mR _ _
 have gx:((h'.push fX).push (pj C h'.objs.size us)).get? (h'.objs.size+1)=some (pj C h'.objs.size us):=by rw[<-hz];exact cH _ rfl
 exact I2.jc (I2.push _) (fb (by rw[hz];exact bk _)) (by
  unfold RO
  exact⟨_,gx,rfl,rfl,rfl,λvs q=>(nomatch q),λq=>(nomatch q)⟩)
theorem size_le{h h':am}(k:∀b o,h.get? b=some o->h'.get? b=some o){a:aj}{o:ax}(e:h.get? a=some o):a<h'.objs.size:=dR (k _ _ e)
theorem In.F8{a:aj}{h':am}(I:In c σ s)(k:∀b o,s.heap.get? b=some o->h'.get? b=some o)(ha:h'.objs.size<=a):∀ao,(a,ao)∉σ.st:=λao hm=>by
 refine aC ((I.st a ao hm).1.there) λo e Z=>?_
 exact absurd (size_le k e) (i0.mpr ha)
theorem Od{us:List ag}(X:K.In c.b0)(T:jL K C)(hz:us.length<=1000)
  (h:∀x dx,x≠dx->(∀ao,(x,ao)∉σ.st)->(∀ao,(dx,ao)∉σ.st)->Q (.val (.ref x)) {σ with st:=(x,.raw (.ref C) (some dx) (.seq us.toArray))::(dx,.bx [])::σ.st}) :
  aM c (.val (.builtin "tuple.__new__")) [.val (.ref C),.tup (us.map .val)] [] [] σ Q E:=aM.blt λs vs I r=>by
 refine bM (eQ r) λv u j1 j2 r2=>?_;subst j1;subst j2
 refine oX (on r2) λa o ws n j1 ho hc hd hr hs=>?_;subst j1
 have hws:ws=us.toArray:=by rw[<-(zz hr)]
 subst hws
 refine jB (VT T (X.keeps I.b0) ho hc hd (by exact String.Pos.Raw.mk_le_mk.mp hz) λh' k=>?_)
 exact⟨.val (.ref (h'.objs.size+1)),_,I.pj k,rfl,.of_keeps λb o e=>dy _ (dy _ (k b o e)),h _ _ (LD _) (I.F8 k (fe _)) (I.F8 k (bk _))⟩
theorem TB(a b d:ag):s_ "object.__init__" ⟨[a,b,d],[]⟩:=by unfold s_;kernel_rfl
theorem UD{p f:aj}{y1 y2:PV}{rest:List ag}(X:K.In c.b0)(T:jL K C)(hr:readsIn K C (.type "type")=true)(hcall:specialIn K (.ref C) "__call__" = some (some (.builtin "type.__call__")))
  (hn:findCls K (.ref C) (.type "type") "__new__" = some (.get (.builtin "staticmethod.__get__") (.ref p) .none (.ref C))) (hp:recIn K p "staticmethod" = some (.ref f::rest))
  (h:∀A,A.frames=c.A.frames->A.handled=c.A.handled->A.depth=c.A.depth+1->
   c_ (c.gP A) RV f [.val (.ref C),y1,y2] [] [] σ (λv a8=>∃x d dt,v = .val (.ref x)/\(x,.raw (.ref C) d dt)∈a8.st/\Q v a8) (λZ Z=>False)) :
  aM c (.val (.ref C)) [y1,y2] [] [] σ Q E:=by
 intro s fv vs kvs I rf rx rk
 obtain rfl:fv = .ref C:=rf
 obtain rfl:kvs=[]:=hW rk
 refine bM (eQ rx) λv1 v2 j1 rx1 rx2=>?_;subst j1
 have Xs:=X.keeps I.b0
 refine mj T.obj λoc od cd sl e e1 e2 e3 e5=>?_
 have hcl:l7 K C=some cd:=by unfold l7;rw[e]
 have hC:=Xs _ _ e
 have call:=looks_specialIn (M:=av aF c.w) Xs hcall
 have typ:=looks_instIn (M:=av aF c.w) Xs T.typ
 have mro:=T.mro (M:=av aF c.w) Xs
 have made:=T.made (M:=av aF c.w) Xs
 unfold iV
 refine ah ?_
 unfold mV
 refine ah (s0 hC ?_)
 dsimp only
 refine ah (call.here ?_)
 refine aE ?_
 obtain ⟨hh,g,d,t,os⟩:=s
 refine jB (YL ?_)
 show au _ _ (callAny (.ref C) _) _ _ _
 refine nd_load hC ?_
 show au _ _ (ZU (.ref C) _) _ _ _
 unfold ZU
 refine ah (call.at ?_)
 dsimp only
 rw[tc_bind]
 refine ah (aE (ah (aE ?_)))
 refine aE (a:=Fin.again (.call (.builtin "type.__call__") ⟨[.ref C,v1,v2],[]⟩)) (Yg rfl ?_)
 refine codeAny_call_builtin_at (wH _ (by decide +kernel)) entry_typeCall (check_slot tc_kind tc_split typ (tc_args _ _ _) ?_)
 have hA:(c.A.under (.builtin "type.__call__" ⟨[.ref C,v1,v2],[]⟩)).frames=c.A.frames:=by
  have e:(Code.builtin "type.__call__" ⟨[.ref C,v1,v2],[]⟩).envs=[]:=rfl
  unfold Around.under;dsimp only;rw[e];rfl
 unfold cn.«type.__call__»
 have hcode:kh (av aF c.w) (c.A.under (.builtin "type.__call__" ⟨[.ref C,v1,v2],[]⟩)) (.call (.ref f) ⟨[.ref C,v1,v2],[]⟩) _ ⟨hh,g,d,t+1,os⟩:=h _ hA rfl rfl ⟨hh,g,d,t+1,os⟩ [.ref C,v1,v2] [] (I.tok _).gP (aB.cons rfl rx) aB.nil
 repeat (first | with_reducible refine cls_bind Xs hr hn ?_ | with_reducible refine jB (sm_get (s:=⟨hh,g,d,t+1,os⟩) Xs hp ?_) | with_reducible refine jB (wB hcode λr s' z=>?_) | ((with_reducible refine BJ ?hh ?_);(case hh=>rfl)) | ((with_reducible refine oR ?hh ?_);(case hh=>rfl)) | lk)
 cases r with
 | error e=>refine(λj1=>?_) z;clear z;refine Internal.EPost.elim j1 λZ Z Z Z Z Z z=>?_;clear j1;exact z.elim
 | ok fl=>
 cases fl with
 | next=>exact z.elim
 | brk=>exact z.elim
 | cont=>exact z.elim
 | ret v=>
 obtain ⟨y,σ',I',rr,kt,x,dd,dt,rfl,hm,q⟩:=z
 obtain rfl:v = .ref x:=rr
 refine br (I'.raw hm) λox ho hcx Z=>?_
 have Xs':=X.keeps I'.uI.b0
 obtain ⟨h2,g2,d2,t2,os2⟩:=s'
 have t1:eN (av aF c.w) h2 (gw (.ref x)) (.ref C):=hcx▸(wV ho).andThen .now
 have mro2:=T.mro (M:=av aF c.w) Xs'
 have made2:=T.made (M:=av aF c.w) Xs'
 have s1:eN (av aF c.w) h2 (ka (.ref C) (.ref C)) true:=looks_mroIn Xs' (by unfold mroIn;rw[hcl,kO,e1];rw[an (by simp)];simp)
 have i1:eN (av aF c.w) h2 (iD (.ref x) (.type "object")) true:=t1.andThen (looks_mroIn Xs' (by unfold mroIn;rw[hcl,kO,e1];rw[an (by simp)];simp))
 have i2:eN (av aF c.w) h2 (iD (.ref x) (.ref C)) true:=t1.andThen s1
 have l1:=tm (M:=av aF c.w) Xs' T.init
 have b1:eN (av aF c.w) h2 (LJ (.builtin "object.__init__") (.ref x)) (.builtin "object.__init__",[.ref x]):=qE (oi_bind _)
 have hinit:kh (av aF c.w) (c.A.under (.builtin "type.__call__" ⟨[.ref C,v1,v2],[]⟩)) (.call (.builtin "object.__init__") ⟨[.ref x]++[v1,v2],[]⟩) (λr s'=>r = .ok (.ret .none)/\s'=⟨h2,g2,d2,t2,os2⟩) ⟨h2,g2,d2,t2,os2⟩:=by
  refine wO oi_plain entry_oi (@check_slot (av aF c.w) _ _ _ "object.__init__" "object" "__init__" (.ref x) [v1,v2] [] _ oi_kind oi_split i1 (TB (.ref x) v1 v2) ?_)
  unfold cn.«object.__init__»
  repeat (first | ((with_reducible refine BJ ?hh ?_);(case hh=>rfl)) | ((with_reducible refine oR ?hh ?_);(case hh=>rfl)) | lk)
  exact⟨rfl,rfl⟩
 dsimp only
 unfold callSpecial? specialOf
 repeat (first | with_reducible refine jB (wB hinit λr s' z=>?_) | ((with_reducible refine BJ ?hh ?_);(case hh=>rfl)) | ((with_reducible refine oR ?hh ?_);(case hh=>rfl)) | lk)
 refine aN z λj1 j2=>?_;clear z;subst j1;subst j2
 refine aE ?_
 dsimp only
 rw[an (by decide)]
 exact aE ⟨.val (.ref x),σ',I'.uI,rfl,kt,q⟩
end
end
section
section
variable {prog:iC}{w:aR}{A:bZ}{E:ag->ai->Prop}{s:ai}{tp:aj}{o:ax}{vs:Array ag}{n:Nat}{y:af}{t:bY}
theorem Qz{cs:List ag}{bs:List Bool}{tk:bY}{Q:BE->ai->Prop}(ho:s.heap.get? tp=some o)(hc:o.cls = .type "tuple")(hd:o.data = .seq cs.toArray n)
  (ha:AnswersAll (λs=>s.TypeIs (.str y t) "str") (.str y t) cs bs) (hq:∀tk',Q (.done (.ret (.bool (bs.any id)))) {s with toks:=tk'}):au (av prog w) A (cn.«isinstance.nested» ⟨[.str y t,.ref tp,.int 0 tk],[]⟩) Q E s:=by
 have L1:eN (av prog w) s.heap (gw (.str y t)) (.type "str"):=qE rfl
 have L2:eN (av prog w) s.heap (gw (.ref tp)) (.type "tuple"):=hc▸(wV ho).andThen .now
 have L3:eN (av prog w) s.heap (iD (.ref tp) (.type "tuple")) true:=L2.andThen (qE PySem.F.isi_sub_tuple)
 have L4:eN (av prog w) s.heap (seqItems? (.ref tp)) (some cs.toArray):=by
  intro A Q E s' k q
  exact BD (k _ _ ho) hd q
 obtain ⟨h,g,d,tt,os⟩:=s
 unfold cn.«isinstance.nested»
 repeat (first | (refine wpAny_arrayLoop ?_;simp only[Option.getD_some,XM];refine isinstance_items (dep:=0) (λZ tk h=>h.toks tk) cs bs _ _ ha rfl (λtk'=>?_)) | lk)
 cases hv:bs.any id with
 | true=>
  simp only[if_true]
  repeat lk
  exact hv▸hq tk'
 | false=>
  simp only[AP,if_false]
  repeat lk
  exact hv▸hq tk'
theorem TW{y:af}{t:bY}:AnswersAll (λs=>s.TypeIs (.str y t) "str") (.str y t) [.type "dict",.type "list"] [false,false]:=
 ⟨.of_false_str (by decide) rfl (by rw[jl];kernel_rfl),.of_false_str (by decide) rfl (by rw[jl];kernel_rfl),trivial⟩
end
section
variable {c:FC}{σ:AS}{E:aG->AS->Prop}{Q:PV->AS->Prop}{s:ai}{y:af}
theorem M4(h:Q (.bool false) σ):aM c (.val (.builtin "isinstance")) [.str y,.tup [.val (.type "dict"),.val (.type "list")]] [] [] σ Q E:=aM.blt λs vs I r=>by
 refine bM (eQ r) λv u j1 j2 r2=>?_;subst j1;refine aP j2 λt j3=>?_;clear j2;subst j3
 refine oX (on r2) λa o ws n j1 ho hc hd hr hs=>?_;subst j1
 have hw:ws=[mY "dict",mY "list"].toArray:=by
  have:=zz (us:=[mY "dict",mY "list"]) hr
  rw[<-this]
 subst hw
 refine ii (bk s.toks) ?_
 exact ZV (S:=λZ R s=>s.heap.get? a=some o/\∀tk,R (.ok (.ret (.bool false))) {s with toks:=tk})
  (λprog w A R s hh=>isinstance_outer (Qz hh.1 hc hd TW hh.2)) ⟨ho,λtk htk=>⟨.bool false,σ,I.tok tk htk,rfl,TK.refl _,h⟩⟩
end
end
section
def dP(g:Array de):Prop:=g[0]?=some .finished/\∀x∈g,x.bare=true
theorem dP.push{g:Array de}{x:de}(h:dP g)(hx:x.bare=true):dP (g.push x):=by
 refine⟨?_,λy hy=>?_⟩
 .refine aP (ql.mp h.1) λhl Z=>?_
  rw[Array.getElem?_push,an (by exact jq ‹_›)];exact h.1
 .rcases Array.mem_push.mp hy with hy | rfl
  .exact h.2 y hy
  .exact hx
theorem dP.only{g:Nat}{a b:Array de}(h:dP a)(hg:0<g)(k:GenOnlyQ g a b):dP b:=by
 refine⟨?_,k.bare h.2⟩
 rcases k with rfl | ⟨⟨_,k⟩,_⟩
 .exact h.1
 .exact(k 0 (jq hg)).trans h.1
section
variable {c:FC}{σ:AS}{E:aG->AS->Prop}{N:AS->Prop}{Q:bO->AS->Prop}{s:ai}
theorem In.gen{gs:Array de}(I:In c σ s)(h:c.gens gs):In c σ {s with gens:=gs}:=⟨I.b0,I.fr,I.up1,I.cq,I.ns,I.st,I.L0,I.L1,I.Lo,I.tab,I.os,h,I.nd,I.tk,I.dc⟩
theorem Vj{cc:aj}{x:gJ}{pos:aT}{scope:dA}{Q':ag->ai->Prop}{E':ag->ai->Prop}{A:bZ}(K:c.Ok)(I:In c σ s)(hcode:c.env.code = .ref cc)(C:mW c.b0 cc x.t)(hx:x∈c.tb)(hn:∀y∈c.tb,y.t=x.t->y=x)
  (h1:x.line=pos.line) (h2:x.col=pos.col)
  (h:∀code h' tk,In c σ {s with heap:=h',toks:=tk}->s7 x.t s.heap h'->Q' code {s with heap:=h',toks:=tk}):au (av aF c.w) A (genexprCode c.env pos x.q scope) Q' E' s:=by
 have Cs:mW s.heap cc x.t:=C.keeps I.b0
 refine QX Cs λo vs file tf flags tg D7 text tt ho hcls hd h11 h11' e18 e7 e9 e10 hne=>?_;clear Cs
 refine ii (bk s.toks) ?_
 unfold genexprCode codeAt
 rw[hcode,an (show ¬((dz cc==fJ)=true) from cm)]
 refine ah (wQ ho hd ?_)
 rw[h11']
 rcases I.tab x hx with q | ⟨k,ok,ws,tk,q1,q2,q3,q4⟩
 .refine ah (wQ q rfl ?_)
  rw[show s8 pos (#[]:Array ag).toList=none from rfl]
  dsimp only
  rw[e18,e7,e9,e10]
  refine ah (wpAny_newCode λc' P' h' tk hk hc' hP' hcode' hrec=>?_)
  have q':=hk _ _ q
  refine ah (wpAny_updateFieldsOfTheText q' rfl ?_)
  refine Dv hrec λk0 ok ws t ek r1 r3 r4=>?_;clear hrec
  cases ek
  have hnot:c'≠x.t:=by
   rintro rfl
   replace r1:=q'▸r1;refine(λj0=>?_) (bj r1);clear r1;subst j0;cases r3;simp at r4
  have sb:=j_ h' x.t (jy λvs=>if(s8 pos vs.toList).isSome=true then vs else vs++#[bW pos.line,bW pos.col,.ref c'])
  have hget:=iZ (h:=h') (jy λvs=>if(s8 pos vs.toList).isSome=true then vs else vs++#[bW pos.line,bW pos.col,.ref c']) q' rfl
  have hget2:(h'.update x.t (jy λvs=>if(s8 pos vs.toList).isSome=true then vs else vs++#[bW pos.line,bW pos.col,.ref c'])).get? x.t=some {cls:=.none,data:=.fields #[bW x.line,bW x.col,.ref c']}:=by
   rw[hget,h1,h2];rfl
  refine ah (wQ hget2 rfl ?_)
  rw[yP x pos c' h1 h2]
  refine aE λhtk=>?_
  have kp:s7 x.t s.heap (h'.update x.t (jy λvs=>if(s8 pos vs.toList).isSome=true then vs else vs++#[bW pos.line,bW pos.col,.ref c'])):=λb o hb e=>(sb.2 b hb).trans (hk b o e)
  exact h _ _ _ (In.tabs K I hx kp (GO I.tab kp (.inr ⟨c',ok,ws,t,hget2,(sb.2 c' hnot).trans r1,r3,r4⟩) hn (EK (I.tab x hx))) htk) kp
 .refine ah (wQ q1 rfl ?_)
  rw[yP x pos k h1 h2]
  refine aE λhtk=>?_
  exact h _ s.heap s.toks I (λb o Z e=>e)
end
end
section
section
variable {c:FC}{σ:AS}{E:aG->AS->Prop}{N:AS->Prop}{Q:bO->AS->Prop}{s:ai}
theorem SW{w:aR}{I:aj}{x d:Int}:∀A':bZ,A'.handled=none->Walks aF w A' I [I,fH] [I] 0 (λZ Z=>False) (λZ h=>Bw h I x 0 d):=λA' hh=>
 ⟨λb hb=>by simp only[eX] at hb;subst hb;exact .head _,λi h h' st k=>k I (.head _) _ st,λi s Q E hi=>absurd hi (m0 _),λs Q E st hQ=>
  Zk hh st (by decide) λh' he=>hQ h' _ λb o hb e=>he b o (λq=>hb (q▸.head _)) e,λi s Q E st q=>Zj st q⟩
theorem QL{h h':am}{a:aj}{m m':af->Option ag}{o:ax}(x:h.Ns a m)(y:h'.Ns a m')(e:h.get? a=some o)(e':h'.get? a=some o):m=m':=by
 refine i9 x λo1 es ep e1 e2 Z e3=>?_;clear x
 refine i9 y λo2 es' ep' f1 f2 Z f3=>?_;clear y
 replace e:=e1▸e;refine(λj0=>?_) (bj e);clear e;subst j0
 replace e':=f1▸e';refine(λj0=>?_) (bj e');clear e';subst j0
 replace f2:=e2▸f2;cases f2
 funext n
 exact(e3 n).symm.trans (f3 n)
theorem R3{x z:af}{px2 pz pos2:aT}{body rest:List bA}{aq:AS}{bg fZ:ai}{g i:aj}(K:c.Ok)(hG:c.gens=dP)(hl:c.env.kindOf x=some .local)(hxc:c.cells.lookup x=none)(hd:(x==("__debug__" : af))=false)
  (I3:In c aq bg) (I5:In c aq fZ) (k5:∀b o,bg.heap.get? b=some o->fZ.heap.get? b=some o) (t5:bg.toks<=fZ.toks) (o5:fZ.os=bg.os) (hsz:g=bg.heap.objs.size+1) (hIL:i≠c.L) (hcsL:fH≠c.L) (It3:u6 bg.heap i) (f1:fQ c i) (f2:c.b0.get? i=none)
  (WS:WalksS aF c.w c.A g [g,bg.heap.objs.size,i,fH] [bg.heap.objs.size,i] (GenOnlyQ bg.gens.size) (passing (λZ=>true) 0 0).length (λj y=>∃i,(passing (λZ=>true) 0 0)[j]?=some i/\True) (GenAt aF c.w c.A g bg.gens.size bg.heap.objs.size [i,fH] [i] (λZ=>true) 0 (λZ Z=>True)))
  (gen0:GenAt aF c.w c.A g bg.gens.size bg.heap.objs.size [i,fH] [i] (λZ=>true) 0 (λZ Z=>True) 0 fZ) (hrest:vj x (.val (.ref g)) (λτ=>XS c rest τ N Q E) aq) :
  au (av aF c.w) c.A (KE c.env x (.ref g)) (λZ s'=>au (av aF c.w) c.A (jt (.For (.Name z pz) (.Name x px2) body [] pos2::rest) c.env) (jN c (Fin N Q)) (EPost c E) s') (EPost c E) fZ:=by
 have hL:∀a,bg.heap.objs.size<=a->a≠c.L:=λa ha q=>by
  obtain ⟨mm,⟨⟨m,⟨o,_,_,e,_⟩,_⟩,_⟩,_⟩:=I3.ns
  exact absurd (dR e) (i0.mpr (q▸ha))
 refine aC I5.ns λmm hm hr=>?_
 refine aC hm.ns λm hns hmm=>?_
 refine wo hl hns (λw9 l8 tE=>?_) (by show(c.scope.kind==.class||(c.scope.kind==.module&&c.env.locals !=c.env.globals))=false;rw[K.kind];rfl)
 have gen6:=WS.frame 0 fZ w9 (fZ.toks+1) gen0 (fe _) λb hb o e=>(tE.2 b (by
  simp only[cB,th,or_false] at hb
  rcases hb with rfl | rfl | rfl | rfl
  .exact hL _ (hsz▸fe _)
  .exact hL _ (bk _)
  .exact hIL
  .exact hcsL)).trans e
 refine wn (wpAny_For ?_ λZ=>rfl)
 refine qo (wj K.kind hl l8 (v:=.ref g) (by exact aA rfl) ?_) hd
 refine wpAny_pyIter_gen gen6.1 ?_
 refine Ff (λn s=>s={fZ with heap:=w9,toks:=fZ.toks+1}) ?_ 0 rfl
 rintro n s' rfl
 refine WS.done _ _ _ gen6 λm9 mv=>?_
 refine i9 (id hns) λoL zf epL eL dL sL nL=>?_
 have eL3:bg.heap.get? c.L=some oL:=by
  obtain ⟨mm3,⟨⟨m3,⟨o3,_,_,e3,_⟩,_⟩,_⟩,_⟩:=I3.ns
  have:=k5 _ _ e3
  replace this:=eL▸this;refine(λj0=>?_) (bj this);clear this;subst j0;exact e3
 have eL8:m9.heap.get? c.L=w9.get? c.L:=by
  refine dU l8 λo6 Z Z e6 Z=>?_;clear l8
  exact(mv.heap _ _ (by
   simp only[cB,th,or_false,not_or]
   exact⟨λq=>hL _ (bk _) q.symm,λq=>hIL q.symm⟩) e6).trans e6.symm
 refine dU (id l8) λo8 ox8 xx8 e8 Z=>?_
 have sb:=j_ m9.heap c.L (λZ=>oL)
 have u8:=iZ (λZ=>oL) (eL8.trans e8) (LB dL)
 have k8:∀b o,b≠i->bg.heap.get? b=some o->(m9.heap.update c.L (λZ=>oL)).get? b=some o:=λb o hb e=>by
  by_cases q:b=c.L
  .rw[q] at e |-
   replace e:=eL3▸e;refine(λj0=>?_) (bj e);clear e;subst j0;exact u8
  .refine(sb.2 b q).trans (mv.heap b o ?_ ((tE.2 b q).trans (k5 b o e)))
   simp only[cB,th,or_false,not_or]
   exact⟨jq (dR e),hb⟩
 have ht5:bg.toks<=m9.toks:=aJ t5 (aJ (fe _) mv.toks)
 have hg8:dP m9.gens:=dP.only (hG▸I5.gens) (by
  have:=(hG▸I3.gens:dP bg.gens).1
  exact(ql.mp this).1) mv.gens
 have I9:=(I3.iter It3 f1 f2 k8 ht5).gen (gs:=m9.gens) (by rw[hG];exact hg8)
 refine aC I9.ns λmm' hm' hr'=>?_
 refine aC hm'.ns λm' hns' hmm'=>?_
 have hns8:m9.heap.Ns c.L (λy=>if y=x then some (.ref g) else m' y):=by
  refine i9 l8 λo6 es6 ep6 f1 f2 f3 f4=>?_;clear l8
  exact(k6 o6 es6 ep6 (eL8.trans f1) f2 f3 (λn=>by rw[(QL hns' hns u8 eL)];exact f4 n))
 exact hrest.ok m9 (I9.store hxc hm' hns' hmm' hr' ⟨sb.1.symm,λb hb=>(sb.2 b hb).symm⟩ hns8 rfl (λq=>nomatch q) (mv.os.trans o5) rfl (bk _))
theorem QS{x y z:af}{px py px2 pz pos pos1 pos2:aT}{elt iter:aL}{scope:dA}{body rest:List bA}{cl:List (af×aj)}{cc:aj}{t:gJ}{mg:af->Option ag}{a b d:Int}
  (K:c.Ok) (hroom:c.A.depth<sV) (qu:c.A.handled=none) (hG:c.gens=dP) (hcs:c.b0.get? fH≠none)
  (hl:c.env.kindOf x=some .local) (hxc:c.cells.lookup x=none) (hd:(x==("__debug__" : af))=false) (hs:lW (.GeneratorExp elt [⟨.Name y py,iter,[],0⟩] scope pos) (some (.Name x px)) pos1.line c.env=pure false)
  (hco:scope.isCoroutine=false) (hclos:l5 scope c.env=pure cl) (hcell:∀y∈scope.names,y.2≠.cell) (h0:scope.names.lookup (".0" : af)=some NameKind.local) (hy:scope.names.lookup y=some .local) (hkind:scope.kind = .function)
  (hfold:∀x,genFold iter c.env x=pure x)
  (hcode:c.env.code = .ref cc) (C:mW c.b0 cc t.t) (hx:t∈c.tb) (hn:∀y∈c.tb,y.t=t.t->y=t) (h1:t.line=pos.line) (h2:t.col=pos.col) (hq:c.env.qual++ae "<genexpr>" = t.q)
  (hmg:c.b0.Ns eK mg) (hbl:c.b0.BuiltinsAt mg t.t)
  (hsm:Bv a b d=true) (hz:kl a b d=0)
  (h:k9 c nJ iter σ (λr aq=>r=(a,b,d)/\∀v,vj x (.val v) (λτ=>XS c rest τ N Q E) aq) E) :
  XS c (.Assign [.Name x px] (.GeneratorExp elt [⟨.Name y py,iter,[],0⟩] scope pos) pos1::.For (.Name z pz) (.Name x px2) body [] pos2::rest) σ N Q E:=λs I=>by
 refine wn (KF ?_ hs)
 refine wpAny_GeneratorExp_make hco hclos hcell h0 hkind hroom (bn (h s I) (λxv ay p=>p.elim λx0 aq aQ aZ k₁ a7=>?_) λZ Z z=>z) hfold
 refine aN a7 λj1 hrest=>?_;clear a7;subst j1
 refine Hh aZ λr t1 t2 t3 j1 hr=>?_;clear aZ;subst j1
 refine Zf hr hsm ?_
 have I2:=aQ.push {cls:=.type "range_iterator",data:=.fields #[bW a,bW (kl a b d),bW d]}
 refine⟨K.lim.keeps I2.b0,?_⟩
 rw[hq]
 have hit:Bw ({ay with heap:=ay.heap.push {cls:=.type "range_iterator",data:=.fields #[bW a,bW (kl a b d),bW d]}}:ai).heap ay.heap.objs.size a 0 d:=by
  have:=cH ay.heap (o:={cls:=.type "range_iterator",data:=.fields #[bW a,bW (kl a b d),bW d]}) rfl
  rw[hz] at this |-
  exact this
 refine Vj K I2 hcode C hx hn h1 h2 λcode fY tk I3 kp=>?_
 have hIt:ay.heap.objs.size≠t.t:=by
  intro q
  rcases I2.tab t hx with e | ⟨_,_,_,_,e,_⟩ <;> (replace e:=(bR q:_)▸e;have:=hit.symm.trans e;injection this with this;injection this with c1;cases c1)
 have hit3:Bw fY ay.heap.objs.size a 0 d:=kp _ _ hIt hit
 generalize hs3:({ay with heap:=fY,toks:=tk}:ai)=bg at I3 |-
 have eh3:bg.heap=fY:=by rw[<-hs3]
 replace hit3:=(bR eh3:_)▸hit3
 refine S4 hbl λbm ob hbm hne0 Z hneP hbo hcls hdict hdata=>?_;clear hbl
 have hs3':({heap:=fY,gens:=ay.gens,drawn:=ay.drawn,toks:=tk,os:=ay.os}:ai)=bg:=hs3
 rw[show c.env.globals=eK from K.glob]
 refine wpAny_builtinsFor (hmg.keeps I3.b0) hbm hne0 (I3.b0 _ _ hbo) hcls hdict hdata ?_
 intro h' hn' hs'
 have hsz:h'.objs.size=bg.heap.objs.size+1:=by rw[hs'.1,mR]
 have keep':∀b o,bg.heap.get? b=some o->h'.get? b=some o:=λb o e=>hs'.extBut b o (jq (dR e)) (dy _ e)
 generalize hgo:({cls:=.type "generator",data:=.fields #[.int bg.gens.size 0,.str "<genexpr>" (bg.toks+1),.str t.q (bg.toks+1+1)]}:ax)=go
 generalize hgc:(Ye (.compStart (.GeneratorExp elt [⟨.Name y py,iter,[],0⟩] scope pos) 0 (.ref ay.heap.objs.size) .none (genEnv scope cl bg.heap.objs.size code jv c.env)))=gst
 have hbare:gst.bare=true:=by rw[<-hgc];rfl
 have k5:∀b o,bg.heap.get? b=some o->(h'.push go).get? b=some o:=λb o e=>dy _ (keep' b o e)
 have I5:In c aq {bg with gens:=bg.gens.push gst,toks:=bg.toks+1+1+1,heap:=h'.push go}:=
  (I3.gen (gs:=bg.gens.push gst) (by rw[hG];exact dP.push (hG▸I3.gens) hbare)).grow k5 (ht:=by show bg.toks<=bg.toks+1+1+1;lia)
 have hIL:ay.heap.objs.size≠c.L:=λq=>by
  obtain ⟨mm,⟨⟨m,⟨o,_,_,e,_⟩,_⟩,_⟩,_⟩:=aQ.ns
  exact absurd (dR e) (q▸lN _)
 have hcsL:fH≠c.L:=λq=>hcs (q▸I.L0)
 have hcsC:fH<bg.heap.objs.size:=by
  cases e:c.b0.get? fH with
  | none=>exact absurd e hcs
  | some o=>exact dR (I3.b0 _ _ e)
 have hI3:ay.heap.objs.size<bg.heap.objs.size:=dR hit3
 have hCf:bg.heap.objs.size∉[ay.heap.objs.size,fH]:=by
  simp only[cB,th,or_false,not_or]
  exact⟨lR hI3,lR hcsC⟩
 have gen0:GenAt aF c.w c.A h'.objs.size bg.gens.size bg.heap.objs.size [ay.heap.objs.size,fH] [ay.heap.objs.size] (λZ=>true) 0 (λZ Z=>True) 0 {bg with gens:=bg.gens.push gst,toks:=bg.toks+1+1+1,heap:=h'.push go}:=by
  refine GenAt.fresh (cenv:=genEnv scope cl bg.heap.objs.size code jv c.env) (m:=λy=>if y = ".0" then some (.ref ay.heap.objs.size) else none) (P:=λZ Z=>False) (elt:=elt) (iter:=iter) (x:=y) (px:=py) (ifs:=[]) (scope:=scope) (pos:=pos) (I:=ay.heap.objs.size) qu SW _ _ hy (by simp[genEnv,hkind]) hco hCf
   ⟨λZ Z Z Z Z Z Z h=>h.elim,λZ Z Z Z Z Z Z h=>h.elim⟩ (k6 go (.str "<genexpr>" (bg.toks+1)) (.str t.q (bg.toks+1+1)) (cH _ (by rw[<-hgo];rfl)) (by rw[<-hgo]) (by rw[<-hgo]) (by rw[<-hgo])) (by rw[<-hgc];exact Array.getElem?_push_size ..) (k5 _ _ hit3) (hn'.push _) (K.lim.keeps I5.b0)
 have WS:=WalksS.genexpQ (prog:=aF) (w:=c.w) (A:=c.A) qu h'.objs.size bg.gens.size bg.heap.objs.size [ay.heap.objs.size,fH] [ay.heap.objs.size] (λZ=>true) 0 (λZ Z=>True) (by rw[hsz];exact LD _)
  (by simp only[cB,th,or_false,not_or];exact⟨λq=>by replace hsz:=q▸hsz;lia,λq=>lN _ (fG (dm _) (show bg.heap.objs.size+1<bg.heap.objs.size from(q.symm.trans hsz)▸hcsC))⟩) (λb hb=>by simp only[eX] at hb;subst hb;exact .head _) hroom (.tail _ (.head _)) (jq hcsC)
  (by simp only[eX];intro q;have:=aQ;rcases hcs0:c.b0.get? fH with _ | o;exact hcs hcs0;exact absurd (dR (aQ.b0 _ _ hcs0)) (by rw[q];exact lN _))
 generalize hs5:({bg with gens:=bg.gens.push gst,toks:=bg.toks+1+1+1,heap:=h'.push go}:ai)=fZ at I5 gen0 |-
 exact R3 K hG hl hxc hd I3 I5 (by rw[<-hs5];exact k5) (by rw[<-hs5];exact dX bg.toks 3) (by rw[<-hs5]) hsz hIL hcsL ⟨_,_,_,hit3,rfl,by decide,rfl,λq t z=>by simp[bW] at z⟩ (nS aQ).1 (nS aQ).2 WS gen0 (hrest _)
end
end
section
open PySem PySem.W PyProof.Rows Builtin.ObjectAttr
section
variable {c:FC}{σ:AS}{E:aG->AS->Prop}{Q:PV->AS->Prop}{s:ai}{x dx C:aj}{dt:mT}{es:List (af×PV)}{K:bE}{name:af}
theorem Iu{fa:aj}{a:ag}(X:K.In c.b0)(T:jL K C)(hx:(x,.raw (.ref C) (some dx) dt)∈σ.st)(hd:(dx,.bx es)∈σ.st)(hn:pT dt=true)
  (hga:km K (.ref C) "__getattribute__" = some (some (.builtin "tuple.__getattribute__"))) (hk:km K (.ref C) "__getattr__" = some none) (hc:(l7 K C).isSome=true)
  (ha:km K (.ref C) name=some (some a)) (hget:specialIn K a "__get__" = some (some (.ref fa))) (ht:takesIn K a=some true)
  (h:c_ (c.gP c.A.in1) RV fa [.val a,.val (.ref x),.val (.ref C)] [] [] σ (λy aq=>(∀h v,RV h y v->qD v=true)/\Q y aq) (λZ Z=>False)) :
  U1 c RV (λv=>mZ v name true) (.val (.ref x)) σ Q E:=λs v I e=>by
 obtain rfl:v = .ref x:=e
 refine rQ (I.inst hx hd hn) λox od ens n IA Z Z ho hod Z Z r=>?_
 have Xs:=X.keeps I.b0
 have h:=h {s with toks:=s.toks+1} [a,.ref x,.ref C] [] (I.tok _).gP (aB.cons rfl (aB.cons rfl (aB.cons rfl aB.nil))) aB.nil
 obtain ⟨hh,g,d,t,os⟩:=s
 have L0:=IA.type (M:=av aF c.w)
 have L1:=tm (M:=av aF c.w) Xs hga
 have L2:eN (av aF c.w) hh (hookBefore (.ref C)) none:=looks_hook Xs hk
 have L3:=looks_find (M:=av aF c.w) Xs IA (findObj_data hc ha hget ht)
 unfold mZ getAttrBy
 refine ah (oF (bT (ah (L0.at (ah (L1.at ?_))))))
 dsimp only
 rw[an (by rw[show(KU "tuple.__getattribute__"==KU "object.__getattribute__")=false from by decide +kernel,sG];exact cm)]
 unfold getAttrByItsOwn
 refine ah (L2.at (ah (wpAny_attempt (bT ?_))))
 unfold callGetattribute
 rw[an (by decide)]
 unfold boundAndCalled
 rw[ZW.bind]
 refine ah (aE ?_)
 refine jB (wO ZW.plain am_entry_tuple_getattribute ?_)
 refine @check_slot (av aF c.w) _ _ ⟨hh,g,d,t+1,os⟩ "tuple.__getattribute__" "tuple" "__getattribute__" (.ref x) [.str name t] [] _ (by decide +kernel) (by decide +kernel) (L0.andThen (wW Xs T.sub):eN (av aF c.w) hh (iD (.ref x) (.type "tuple")) true) (PySem.F.args_tuple_getattribute_2 _ _) ?_
 refine ah (aE ?_)
 refine ah (aE (ah (L0.at (ah (L3.at ?_)))))
 refine ah (bT (jB (wB h λr s' z=>?_)))
 rcases r with e | (v | _ | _ | _) <;> first | exact z.elim | skip
 .refine(λj1=>?_) z;clear z;refine Internal.EPost.elim j1 λZ Z Z Z Z Z z=>?_;clear j1;exact z.elim
 .obtain ⟨y,σ',I',r,k,hy,q⟩:=z
  exact aE (handed_on (hy _ _ r) ⟨y,σ',I'.uI,r,k,q⟩)
end
end
section
noncomputable abbrev cR(T:Nat)(l:List Nat):PV:=.d_ (ms l) (λt=>T<=t)
noncomputable def ln(T:Nat)(ls:List (List Nat)):List PV:=ls.map (cR T)
theorem Ed{T:Nat}{h:am}:∀{ls:List (List Nat)} {vs:List ag},aB h (ln T ls) vs->∃l:List (af×bY),vs=l6 l/\l.map (·.1)=ls.map ms/\∀p∈l,T<=p.2
 | [],vs,r=>by unfold ln aB at r;exact(bh [] r rfl (λp hp=>nomatch hp))
 | x::ls,vs,r=>by
  have r':aB h (cR T x::ln T ls) vs:=r
  rewrite[aB] at r'
  refine bM r' λv q j1 j2 r2=>?_;clear r';subst j1;refine aC j2 λt j3 ht=>?_;clear j2;subst j3
  refine br (Ed r2) λl j1 e hp=>?_;subst j1
  exact(bh ((ms x,t)::l) rfl (by simp[e]) (λp hq=>by rcases cB.mp hq with rfl | hq;exact ht;exact hp p hq))
section
variable {c:FC}{σ:AS}{E:aG->AS->Prop}{Q:PV->AS->Prop}{s:ai}{a:aj}{l k:List Nat}
theorem Pa{n:Nat}(hn:n<2^62){u:Nat}(hu:l[n]?=some u)(h:Q (cR c.T [u]) σ):U2 c RV hV (.str (ms l)) (.int n) σ Q E:=λs v w I ⟨t,e⟩ ⟨t',e'⟩=>by
 subst e e'
 refine jP (gW s _ t) qv.lookup ?_
 exact Bc (c:=u) (rA (by lia)) ((str_idx _ _).trans (by rw[kA];exact hu)) ⟨cR c.T [u],σ,I.tok _,(aw _ rfl I.tk),TK.refl _,h⟩
theorem Nq{loc:List (af×PV)}{st:List (aj×AO)}{ls:List (List Nat)}(hz:ls.flatten.length<=1000000)(h:Q (cR c.T ls.flatten) ⟨loc,st⟩):aM c (.val (.builtin "str.join")) [.str (ms []),.val (.ref a)] [] [] ⟨loc,(a,.lst (ln c.T ls))::st⟩ Q E:=by
 have t:aM c (.val (.builtin "str.join")) [.str (ms []),.val (.ref a)] [] [] ⟨loc,(a,.lst (ln c.T ls))::st⟩ (λx σ'=>x=cR c.T ls.flatten/\σ'=⟨loc,(a,.lst (ln c.T ls))::st⟩) E:=Jt (.head _) (λZ Z r=>Ed r) (λZ h=>h) hz ⟨rfl,rfl⟩
 intro s fv vs kvs I r1 r2 r3
 refine bn (t s fv vs kvs I r1 r2 r3) (λv s' p=>p.elim λx σ' I' r k qP=>?_) λZ Z z=>z
 refine aN qP λe1 e2=>?_;clear qP
 subst e1 e2
 exact⟨_,_,I'.drop,r,k,h⟩
theorem HF{x y z:List Nat}{t0:Nat}(hb:BK c.b0)(h0:t0≠0)(h1:t0<c.T)(hz:x.length+(x.length+1)*z.length<=1000000)(h:Q (.str (wX (ms x) (ms y) (ms z))) σ) :
  aM c (.val (.builtin "str.replace")) [.str (ms x),.d_ (ms y) (λt=>t=t0),cR c.T z] [] [] σ Q E:=aM.blt λs vs I r=>by
 refine i9 (pU r) λv1 v2 v3 j1 j2 j3 j4=>?_;subst j1;refine aP j2 λt j5=>?_;clear j2;subst j5;refine aC j3 λu j6 j7=>?_;clear j3;subst j6;subst j7;refine aC j4 λv j8 hv=>?_;clear j4;subst j8
 have hv:c.T<=v:=hv
 refine ii (bk s.toks) ?_
 exact SC.replaceA h0 (lR (bQ (XY h0) (aJ (eF h1) hv))) (jq (bQ h1 hv)) (by rw[bP,bP];exact aJ ‹_› (by decide)) (λt' k hk=>⟨.str _,σ,I.tok k hk,⟨_,rfl⟩,TK.refl _,h⟩) (let ⟨mc,h1,h2⟩:=hb;⟨mc,h1.keeps I.b0,h2⟩)
theorem dh.replace{x:af}{K:PV->List PV->AS->Prop}(h:K (.val (.builtin "str.replace")) [.str x] σ):dF c (.str x) (ae "replace") σ K E:=dF.str ZX PySem.F.type_str_replace h
end
end
section
def nM(c:FC)(a:aj)(ns:List Int):Prop:=∃o vs n,c.b0.get? a=some o/\o.cls = .type "list"/\o.data = .seq vs n/\wf vs.toList ns
section
variable {c:FC}{σ:AS}{E:aG->AS->Prop}{Q:PV->AS->Prop}{s:ai}{a:aj}{xs ys:List PV}{ns:List Int}
theorem Xl{h:am}{vs:List ag}{ns:List Int}(hi:wf vs ns):aB h (ns.map PV.int) vs:=by
 induction hi with
 | nil=>exact aB.nil
 | cons n t _ ih=>exact aB.cons ⟨_,rfl⟩ ih
theorem OZ(hh:c.A.handled=none)(hl:nM c a ns)(h:Q (.int ns.sum) σ):aM c (.val (.builtin "sum")) [.val (.ref a)] [] [] σ Q E:=aM.blt λs vs I r=>by
 refine aC (iL r) λv j1 e=>?_;subst j1
 obtain rfl:v = .ref a:=e
 refine i9 hl λo vs n ho hc hd hi=>?_;clear hl
 have hn:=hi.numsOf
 refine aP hi.allInts.items λxs ex=>?_
 have ex':vs=intItems xs:=by rw[<-ex]
 subst ex'
 replace hn:=(nums_intItems ..)▸hn
 refine ii (bk s.toks) ?_
 refine sum_intListG hh (bh o (I.b0 _ _ ho) hc ⟨n,hd⟩) λh' tk t' hk htk=>?_
 rw[(by rw[preSum_eq,<-hn,AB (by simp)]:preSum (numAt xs) xs.size=ns.sum)]
 exact⟨.int ns.sum,σ,I.grow hk (ht:=htk),⟨_,rfl⟩,TK.of_keeps hk,h⟩
theorem Su{b:aj}(hm:(a,.lst xs)∈σ.st)(hm':nM c b ns)(hz:xs.length+ns.length<=1000000)(h:∀d,(∀ao,(d,ao)∉σ.st)->Q (.val (.ref d)) {σ with st:=(d,.lst (xs++ns.map PV.int))::σ.st}):U2 c RV (fy .Add) (.val (.ref a)) (.val (.ref b)) σ Q E:=λs u v I e e'=>by
 obtain rfl:u = .ref a:=e
 obtain rfl:v = .ref b:=e'
 refine eu (I.lst hm) λo vs n eo hc hk hd rs hzs=>?_
 refine i9 hm' λo' vs' n' eo' hc' hd' hi=>?_;clear hm'
 have eo':=I.b0 _ _ eo'
 have rs':aB s.heap (ns.map PV.int) vs'.toList:=Xl hi
 have hzs':vs'.size=ns.length:=by have:=rs'.length;exact intsAre_size hi
 have hT:s.TypeIs (.ref a) "list":=(aw o eo hc)
 have hT':s.TypeIs (.ref b) "list":=(aw o' eo' hc')
 refine Zr hT hT' Zs seq_list_add (lZ Zt hT Zu ?_ (Zv _ _))
 have hI:iD (.ref b) (.type "list")=(do
   let t <-gw (.ref b)
   ka t (.type "list")):=by rfl
 show au _ _ (iD (.ref b) (.type "list") >>= _) _ _ s
 refine ah (Lm hT' (b:=true) (by rw[jl];kernel_rfl) ?_)
 refine ah (tj eo hd ?_)
 refine ah (tj eo' hd' ?_)
 have hn:=fb (bk s.heap.objs.size)
 refine ah (kf ?_ (by show(vs++vs').size<=bN;rw[iy];simp;lia))
 refine aE (aw _ rfl ⟨.val (.ref s.heap.objs.size),_,I.jc (I.push _) hn (ao:=.lst (xs++ns.map PV.int)) ?_,rfl,TK.push _,h _ λao hm=>?_⟩)
 .unfold RO
  exact⟨_,vs++vs',0,cH _ rfl,⟨rfl,rfl⟩,rfl,by rw[AA];exact(rs.tk (TK.push _)).append (rs'.tk (TK.push _))⟩
 .refine aC ((I.st _ ao hm).1.there) λo e Z=>?_
  exact bI (hn▸e)
theorem xj{x:Int}{b:Nat}(hb:0<b)(hb':b<1073741824)(h:Q (.int (x/(b:Int))) σ):U2 c RV (fy .FloorDiv) (.int x) (.int (b:Int)) σ Q E:=HQ hb hb' h
theorem pQ{x:Int}{b:Nat}(hb:0<b)(h:Q (.int ((x%(b:Int)).toNat:Int)) σ):U2 c RV (fy .Mod) (.int x) (.int (b:Int)) σ Q E:=FE hb (by rw[<-Zl (JZ x (by lia:(b:Int)≠0))];exact h)
theorem VQ{x y:Nat}(hm:IntMulOk (x:Int) (y:Int))(h:Q (.int ((x*y:Nat):Int)) σ):U2 c RV (fy .Mult) (.int (x:Int)) (.int (y:Int)) σ Q E:=λs u v I ⟨t,e⟩ ⟨t',e'⟩=>by subst e e';exact mul_int (by rw[<-Int.natCast_mul];exact ml I h) hm
theorem WH{x:Int}(h:Q (.int (x.natAbs:Nat)) σ):aM c (.val (.builtin "abs")) [.int x] [] [] σ Q E:=aM.blt λs vs I r=>by
 obtain ⟨v,rfl,t,rfl⟩:=iL r
 refine ii (bk s.toks) ?_
 refine call_abs_int λu tk htk=>?_
 rw[(by split;exact(Int.ofNat_natAbs_of_nonpos (Zh ‹_›)).symm;exact(Int.natAbs_of_nonneg (Be.mp ‹_›)).symm:(if x<0 then -x else x)=(x.natAbs:Nat))]
 exact⟨.int (x.natAbs:Nat),σ,I.tok _ htk,⟨_,rfl⟩,TK.refl _,h⟩
theorem VO(hm:(a,.lst xs)∈σ.st)(h:Q (.bool true) σ):aM c (.val (.builtin "isinstance")) [.val (.ref a),.val (.type "list")] [] [] σ Q E:=aM.blt λs vs I r=>by
 refine bM (eQ r) λv u j1 e e'=>?_;subst j1
 obtain rfl:v = .ref a:=e
 obtain rfl:u = .type "list":=e'
 refine io (I.lst hm) λo vs n eo hc Z=>?_
 exact ZV (isinstance_true (Tx:="list") PySem.F.isi_meta_list PySem.F.isi_self_list) ⟨(aw o eo hc),ip I h⟩
theorem S'{y:af}(h:Q (.bool false) σ):aM c (.val (.builtin "isinstance")) [.str y,.val (.type "list")] [] [] σ Q E:=aM.blt λs vs I r=>by
 refine bM (eQ r) λv u j1 j2 e'=>?_;subst j1;refine aP j2 λt j3=>?_;clear j2;subst j3
 obtain rfl:u = .type "list":=e'
 exact IsiPair.str_list ⟨.bool false,σ,I.tok _,rfl,TK.refl _,h⟩
noncomputable def si(x:af):ag->Bool
 | .str y _=>y==x
 | _=>false
theorem S1(ls:List (List Nat))(l:List Nat):ls.any (λy=>y==l)=ls.contains l:=by
 induction ls with
 | nil=>rfl
 | cons a ls ih=>rw[A9,wI,ih,Bool.beq_comm]
theorem DT{ls:List (List Nat)}{l:List Nat}{h:am}{vs:Array ag}(r:aB h (cY ls) vs.toList):vs.any (si (ms l))=ls.contains l:=by
 refine aC (t8 r) λp e1 e2=>?_
 rw[<-ZP,e1,<-S1]
 unfold l6
 rw[LK,show(si (ms l)∘λp:af×bY=>qA p.1 p.2)=(λy:af=>y==ms l)∘dq from rfl,<-LK,e2,LK]
 congr 1
 funext y
 exact mH y l
theorem Cn{ls:List (List Nat)}{l:List Nat}{t:bY}{A:bZ}{s:ai}{vs:Array ag}(r:aB s.heap (cY ls) vs.toList):∀y,y∈vs->LL A s y (.str (ms l) t) (si (ms l) y):=λy hy=>by
 refine aC (t8 r) λp e1 e2=>?_
 have:y∈l6 p:=by rw[<-e1];exact Lz.mpr hy
 unfold l6 at this
 refine aC (cO.mp this) λq Z j1=>?_;subst j1
 exact LN _ _ _ _
theorem UE{ls:List (List Nat)}{l:List Nat}(hm:(a,.lst (cY ls))∈σ.st)(h:Q (.bool (!ls.contains l)) σ):U2 c RV (ce .NotIn) (.str (ms l)) (.val (.ref a)) σ Q E:=λs u v I ⟨t,e⟩ e'=>by
 subst e
 obtain rfl:v = .ref a:=e'
 refine eu (I.lst hm) λo vs n eo hc Z hd r Z=>?_
 refine SeqAt.notIn_listAt (si (ms l)) (bh o eo hc ⟨n,hd⟩) (Cn r) ?_
 rw[DT r]
 exact ip I h
theorem Nr{ls:List (List Nat)}{l:List Nat}(hm:(a,.lst (cY ls))∈σ.st)(h:Q (.bool (ls.contains l)) σ):U2 c RV (ce .In) (.str (ms l)) (.val (.ref a)) σ Q E:=λs u v I ⟨t,e⟩ e'=>by
 subst e
 obtain rfl:v = .ref a:=e'
 refine eu (I.lst hm) λo vs n eo hc Z hd r Z=>?_
 refine SeqAt.in_listAt (si (ms l)) (bh o eo hc ⟨n,hd⟩) (Cn r) ?_
 rw[DT r]
 exact ip I h
theorem Jl{i:Int}(hz:i.natAbs.log2<1920)(h:Q (.str (ms (fu i))) σ):aM c (.val (.type "str")) [.int i] [] [] σ Q E:=aM.type λs vs I r=>by
 obtain ⟨v,rfl,t,rfl⟩:=iL r
 exact P.str_of_int hz ⟨.str (ms (fu i)),σ,I.tok _,⟨_,rfl⟩,TK.refl _,h⟩
theorem dh.split{x:af}{K:PV->List PV->AS->Prop}(h:K (.val (.builtin "str.split")) [.str x] σ):dF c (.str x) (ae "split") σ K E:=dF.str BL PySem.F.type_str_split h
noncomputable def mK(xs:List af):List PV:=xs.map PV.str
theorem Ej{h:am}:∀(l:List (af×bY)),aB h (mK (l.map (·.1))) (l6 l)
 | []=>aB.nil
 | p::l=>aB.cons ⟨_,rfl⟩ (Ej l)
theorem xY{l:List (af×bY)}{k:Nat}(I:In c σ s)(hk:s.toks<=k)(h:∀d,(∀ao,(d,ao)∉σ.st)->Q (.val (.ref d)) {σ with st:=(d,.lst (mK (l.map (·.1))))::σ.st}) :
  cw c RV s Q (.ref s.heap.objs.size) {s with toks:=k,heap:=s.heap.push {cls:=.type "list",data:=.seq (l6 l).toArray}}:=by
 have hn:=fb (bk s.heap.objs.size)
 refine⟨.val (.ref s.heap.objs.size),_,I.jc ((I.push _).tok k hk) hn (ao:=.lst (mK (l.map (·.1)))) ?_,rfl,TK.push _,h _ λao hm=>?_⟩
 .unfold RO
  exact⟨_,(l6 l).toArray,0,cH _ rfl,⟨rfl,rfl⟩,rfl,Ej l⟩
 .refine aC ((I.st _ ao hm).1.there) λo e Z=>?_
  exact bI (hn▸e)
theorem R2{x y:af}(hy:(y.length==0)=false)(hz:x.length<=bN)(hz2:(tr x (jA x y 0 x.length (x.length+1)) y.length).length<=bN)
  (h:∀d,(∀ao,(d,ao)∉σ.st)->Q (.val (.ref d)) {σ with st:=(d,.lst (mK (kW x y)))::σ.st}):aM c (.val (.builtin "str.split")) [.str x,.str y] [] [] σ Q E:=aM.blt λs vs I r=>by
 refine bM (eQ r) λv w j1 j2 j3=>?_;subst j1;refine aP j2 λt j4=>?_;clear j2;subst j4;refine aP j3 λt' j5=>?_;clear j3;subst j5
 cases h1:(decide (x.length<y.length)||decide (ZY x<ZY y))
 .cases hf:(jA x y 0 x.length (x.length+1)).isEmpty
  .refine Bz BL (gW _ _ _) LO (LP _ _) (meets_str_split_sep x y t t' h1 hy hf hz hz2) ?_
   show wants (cw c RV s Q) (EPost c E) _ {s with toks:=_,heap:=s.heap.push {cls:=.type "list",data:=.seq (strsFrom s.toks (tr x (jA x y 0 x.length (x.length+1)) y.length)).toArray}}
   rw[strsFrom_eq]
   have e:kW x y=(numbered s.toks (tr x (jA x y 0 x.length (x.length+1)) y.length)).map (·.1):=(((numbered_texts _ _).trans ((an (ne_true_of_eq_false h1)).trans (an (ne_true_of_eq_false hf))).symm)).symm
   replace h:=e▸h
   exact xY I (dX _ _) h
  .have e:kW x y=[(x,t)].map (·.1):=(an (ne_true_of_eq_false h1)).trans (aA hf)
   replace h:=e▸h
   exact Bz BL (gW _ _ _) LO (LP _ _) (meets_str_split_not_found x y t t' h1 hy hf) (xY (l:=[(x,t)]) I (bk _) h)
 .have e:kW x y=[(x,t)].map (·.1):=aA h1
  replace h:=e▸h
  exact Bz BL (gW _ _ _) LO (LP _ _) (meets_str_split_cannot_occur x y t t' h1) (xY (l:=[(x,t)]) I (bk _) h)
theorem R0{scope:dA}{cl:List (af×aj)}{bs:List (af×PV)}{y:PV}{ys:List PV}{x:af}{p1 p2 p3:aT}{k:Nat}(hk:scope.kind = .function)(hx:scope.names.lookup x=some .local)(hd:(x==("__debug__" : af))=false)(hz:ys.length<1000)(hm:(x,.tup (y::ys))∈bs) :
  iu c σ scope cl (.Subscript (.Name x p1) (.Constant (.int 0) k p2) p3) bs y:=λs C m E' I hn hb=>by
 refine aC (hb _ hm) λv e r=>?_
 obtain ⟨a,o,vs,n,rfl,ho,hc,hd',rs⟩:=r
 refine uU (λZ Z=>⟨rfl,rfl⟩) (qo (wj (env:=gy scope cl C c.env) (by exact((λa=>hk)∘m) x) (te hx) hn e ?_) hd)
 refine AX ?_
 refine aC (rs.at (i:=0) rfl) λv hv rv=>?_
 have hsz:vs.size=ys.length+1:=by have:=rs.length;exact wz (congrFun (aI HAdd.hAdd this) k)
 refine jP (s:={s with toks:=s.toks+1}) (aw o ho hc) BA.lookup ?_
 refine Lq (s:={s with toks:=s.toks+1}) (bh o ho hc ⟨n,hd'⟩) (by exact Int.neg_ofNat_le_ofNat (2^63) 0) (by decide) (j:=0) ?_ (x:=v) (by simpa using hv) (fi s.heap (s.toks+1) rfl (λZ Z e=>e) (fe _) rv)
 rw[show(0:Int)=((0:Nat):Int) from rfl,ug,aA (by exact Au hsz)]
end
end
section
inductive Jg(c:FC)(h:am)(Q:af->AS->Prop)(v:ag)(s':ai):Prop
 | mk (y:af) (t:bY) (σ':AS) (hv:v = .str y t) (h1:c.T<=t) (h2:t<s'.toks) (I:In c σ' s') (k:TK h s'.heap) (q:Q y σ')
def gn(c:FC)(e:aL)(σ:AS)(Q:af->AS->Prop)(E:aG->AS->Prop):Prop:=∀s,In c σ s->au (av aF c.w) c.A (eval e c.env) (Jg c s.heap Q) (EPost c E) s
noncomputable abbrev FC.at(c:FC)(T:Nat):FC:={c with T:=T}
section
variable {c:FC}{σ:AS}{E:aG->AS->Prop}{Q:af->AS->Prop}{s:ai}
theorem gn.sub{o i:aL}{p:aT}(hs:tX i)(h:Ev c o σ (λx aq=>Ev c i aq (λy a8=>∃l n u,x = .str (ms l)/\y = .int ((n:Nat):Int)/\n<2^62/\l[n]?=some u/\Q (ms [u]) a8) E) E):gn c (.Subscript o i p) σ Q E:=λs I=>by
 refine uU hs (bH (h s I) (λov ay x aq aQ aZ k₁ a7=>?_))
 refine bH (a7 ay aQ) λiv bc y a8 a_ bV k₂ q=>?_
 refine(λj3=>?_) q;clear q;refine gN j3 λl n u j1 j2 hn hu q=>?_;clear j3;subst j1;subst j2
 refine aP aZ λt j1=>?_;clear aZ;subst j1
 refine aP bV λt' j1=>?_;clear bV;subst j1
 refine jP (gW bc _ t) qv.lookup ?_
 exact Bc (c:=u) (rA (by lia)) ((str_idx _ _).trans (by rw[kA];exact hu)) ⟨ms [u],bc.toks,a8,rfl,a_.tk,dm _,a_.tok _,k₁.trans k₂,q⟩
theorem gn.mid{e:aL}{Q':af->AS->Prop}(h:gn c e σ Q' E)(hq:∀y σ,Q' y σ->Q y σ):gn c e σ Q E:=λs I=>
 bn (h s I) (λv s' p=>by
  cases p with | mk y t σ' a1 a2 a3 a4 a5 a6=>exact⟨y,t,σ',a1,a2,a3,a4,a5,hq _ _ a6⟩) λZ Z z=>z
theorem gn.str{x:af}{k:Nat}{pos:aT}(h:Q x σ):gn c (.Constant (.str x) k pos) σ Q E:=λs I=>
 oF ⟨x,s.toks,σ,rfl,I.tk,dm _,I.tok _,TK.refl _,h⟩
theorem Tt{t a b:aL}{p:aT}(h:Et c t σ (λk aq=>Br k (gn c a aq Q E) (gn c b aq Q E)) E):gn c (.IfExp t a b p) σ Q E:=λs I=>by
 show au _ _ (do if <-sR t c.env (eval t c.env) then eval a c.env else eval b c.env) _ _ s
 refine ah (bH (h _ rfl s I) (λk ay Z aq aQ aZ k₁ a7=>?_))
 cases aZ
 have go:∀{e:aL},gn c e aq Q E->au (av aF c.w) c.A (eval e c.env) (Jg c s.heap Q) (EPost c E) ay:=λq=>
  bn (q ay aQ) (λv s' p=>by
   cases p with | mk y t σ' a1 a2 a3 a4 a5 a6=>exact⟨y,t,σ',a1,a2,a3,a4,k₁.trans a5,a6⟩) λZ Z z=>z
 cases k with
 | true=>rw[aA rfl];exact go (a7.1 rfl)
 | false=>rw[an (by decide)];exact go (a7.2 rfl)
theorem len0{x:af}(h:(x.length==0)=true):x=ms []:=by
 rw[(kL x)] at h |-
 replace h:=(bP ..)▸h
 have:x.cps.toList=[]:=sF.mp (eq_of_beq h)
 rw[this]
theorem V5{l r:aL}{pos:aT}(h:gn c l σ (λx aq=>gn c r aq (λy a8=>x.length+y.length<=bN/\Q (x++y) a8) E) E):gn c (.BinOp l .Add r pos) σ Q E:=λs I=>by
 refine wl (bn (h s I) (λa ay p=>?_) λZ Z x=>x)
 cases p with | mk x t aq e1 a1 b1 aQ k₁ a7=>
 refine ii (bk ay.toks) (bn (a7 ay aQ) (λb bc p hle=>?_) λZ Z x Z=>x)
 cases p with | mk y u a8 e2 a2 b2 a_ k₂ bz=>
 refine(λj1=>?_) bz;clear bz;refine aN j1 λhz bz=>?_;clear j1
 subst e1 e2
 refine P.add_str ?_
 have k:=k₁.trans k₂
 have hlen:(x++y).length=x.length+y.length:=by
  rw[kL x,kL y,k_,bP,bP,bP,bt]
 split
 .rename_i h0
  exact⟨y,u,a8,rfl,a2,b2,a_,k,(by rw[len0 h0,kL y,k_];rfl:x++y=y)▸bz⟩
 .split
  .rename_i h0
   exact⟨x,t,a8,rfl,a1,(bQ b1 hle:t<bc.toks),a_,k,(by rw[len0 h0,kL x,k_,gQ]:x++y=x)▸bz⟩
  .exact⟨by rw[hlen];exact hz,⟨x++y,bc.toks,a8,rfl,a_.tk,dm _,a_.tok _,k,bz⟩⟩
theorem In.raise{t:Nat}(I:In c σ s)(h:t<=s.toks):In (c.at t) σ s:=⟨I.b0,I.fr,I.up1,I.cq,(let ⟨mm,x,r⟩:=I.ns;⟨mm,⟨x.ns,x.cu⟩,r⟩),I.st,I.L0,I.L1,I.Lo,I.tab,I.os,I.gens,I.nd,h,I.dc⟩
theorem In.lower{t:Nat}(I:In (c.at t) σ s)(h:c.T<=t):In c σ s:=⟨I.b0,I.fr,I.up1,I.cq,(let ⟨mm,x,r⟩:=I.ns;⟨mm,⟨x.ns,x.cu⟩,r⟩),I.st,I.L0,I.L1,I.Lo,I.tab,I.os,I.gens,I.nd,aJ h I.tk,I.dc⟩
theorem FC.Ok.at(K:c.Ok)(t:Nat):(c.at t).Ok:=⟨⟨K.kind,K.glob,K.blt,K.cu⟩,K.frames,K.frame,K.lim,K.own,K.dn,K.t0⟩
theorem EPost.lower{t:Nat}(h:c.T<=t){v:ag}{s':ai}(q:EPost (c.at t) E v s'):EPost c E v s':=
 q.elim λe' x σ' h1 h2 T h4=>⟨e',x,σ',h1,h2.lower h,T.re (λZ R=>⟨R.b0,R.up1,R.tab⟩) ⟨rfl,rfl,rfl⟩,h4⟩
theorem RF.lower{t:Nat}{h:am}{x:bO}{f:i5}(r:RF (c.at t) h x f):RF c h x f:=by
 cases x with
 | exc x=>
  refine(λj1=>?_) r;clear r;refine aC j1 λv e r=>?_;clear j1
  cases r with | mk e' t h0 h1 h2 h3 h4=>exact(aw v e ⟨e',t,h0,h1,h2,h3,h4⟩)
 | _=>exact r
variable {ev:bB}{w:aR}{b:am}{n:Nat}
theorem Pl.at(P:Pl c ev w b n)(t:Nat):Pl (c.at t) ev w b n:=⟨P.ok.at t,P.env,P.w,P.b0,P.room,P.fP,P.tb⟩
theorem In.Tg{loc:List (af×PV)}{st st':List (aj×AO)}(I:In c ⟨loc,st'⟩ s)(h:st.Sublist st'):In c ⟨loc,st⟩ s:=
 ⟨I.b0,I.fr,I.up1,I.cq,I.ns,λa ao ha=>I.st a ao (h.subset ha),I.L0,I.L1,I.Lo,I.tab,I.os,I.gens,I.nd.sublist (h.map _),I.tk,λa es ha=>I.dc a es (h.subset ha)⟩
def nW(a b:List (aj×AO)):Prop:=∃l:List (aj×AO),l.Perm a/\l.Sublist b
theorem nW.of{a b:List (aj×AO)}(h:a.Sublist b):nW a b:=(aw a (.refl _) h)
theorem nW.mem{a b:List (aj×AO)}(h:nW a b){x:aj×AO}(hx:x∈a):x∈b:=let ⟨_,p,q⟩:=h;q.subset (p.mem_iff.mpr hx)
theorem In.U0{loc:List (af×PV)}{st st':List (aj×AO)}(I:In c ⟨loc,st'⟩ s)(h:nW st st'):In c ⟨loc,st⟩ s:=
 ⟨I.b0,I.fr,I.up1,I.cq,I.ns,λa ao ha=>I.st a ao (h.mem ha),I.L0,I.L1,I.Lo,I.tab,I.os,I.gens,let ⟨l,p,q⟩:=h;(p.map dq).nodup_iff.mp (I.nd.sublist (q.map _)),I.tk,λa es ha=>I.dc a es (h.mem ha)⟩
end
end
section
section
variable {prog:iC}{w:aR}{A:bZ}{E:ag->ai->Prop}{s:ai}{e t0 C:aj}{K:bE}{m:af}{tk:bY}
structure t6(K:bE)(C:aj)(h:am)(e:aj)(m:af)(tk:bY):Prop where
 k:K.In h
 ex:∃o vs t0 ot n,h.get? e=some o/\o.cls = .ref C/\o.data = .fields vs/\vs[0]?=some (.ref t0)/\h.get? t0=some ot/\ot.data = .seq #[.str m tk] n
structure uo(K:bE)(C:aj):Prop where
 str:km K (.ref C) "__str__" = some (some (.builtin "BaseException.__str__"))
 sub:tn K (.ref C) (.type "BaseException")=some true
theorem T7(self:ag):LJ (.builtin "BaseException.__str__") self=pure (.builtin "BaseException.__str__",[self]):=by
 unfold LJ
 rw[show gw (.builtin "BaseException.__str__")=pure (.type "wrapper_descriptor") by show builtinType _=_;rw[Y3];kernel_rfl]
 rfl
theorem VR{Q:BE->ai->Prop}(x:t6 K C s.heap e m tk)(hq:Q (.done (.ret (.str m tk))) s) :
  au (av prog w) A (cn.«BaseException.__str__» ⟨[.ref e],[]⟩) Q E s:=by
 refine DB x.ex λo vs t0 ot n ho hc hd h0 hto htd=>?_
 unfold cn.«BaseException.__str__»
 have ba:∀{Q:ag×List ag->ai->Prop},Q (.ref t0,[.str m tk]) s->au (av prog w) A (ZZ (.ref e)) Q E s:=λhq=>by
  unfold ZZ
  refine ah (fV ho hd h0 (ah (BD hto htd ?_)))
  exact aE hq
 repeat (first | with_reducible refine ba ?_ | wp_step)
 exact hq
theorem Qm(S:uo K C)(hu:A.units<gX){Q:ag->ai->Prop}(x:t6 K C s.heap e m tk)(hq:Q (.str m tk) s):au (av prog w) A (Z0 (.ref e)) Q E s:=by
 refine DB x.ex λo vs t0 ot n ho hc hd h0 hto htd=>?_
 have L1:eN (av prog w) s.heap (gw (.ref e)) (.ref C):=hc▸(wV ho).andThen .now
 unfold Z0
 rw[an (show ¬Builtin.Str.isExactStr (dz e)=true from cm)]
 refine ah (wpAny_cRoomFor hu ?_)
 refine ah ?_
 simp only[callSpecial?]
 refine ah ((L1.andThen (tm x.k S.str)).here ?_)
 dsimp only
 rw[T7]
 refine bT (ah (aE (ah ?_)))
 refine jB (wO (by decide +kernel) PySem.F.entry_bexc_str ?_)
 refine @check_slot (av prog w) _ _ s "BaseException.__str__" "BaseException" "__str__" (.ref e) [] [] _ (by decide +kernel) (by decide +kernel) (L1.andThen (wW x.k S.sub)) (PySem.F.args_bexc_str _) ?_
 refine VR x ?_
 refine aE ?_
 dsimp only
 rw[(rfl:asStr? (qA m tk)=pure (some m))]
 refine ah (aE ?_)
 rw[an (by simp)]
 exact aE hq
theorem Tf(S:uo K C)(hu:A.units+2<gX){Q:ag->ai->Prop}(x:t6 K C s.heap e m tk)(hq:Q (.str m tk) s):au (av prog w) A (call (.type "str") [.ref e]) Q E s:=
 callType_new PySem.F.called_str (by decide) (PySem.F.typeCall_str_1 _) (PySem.F.newCall_str_1 _) (λobj=>PySem.F.args_object_init_2 obj _) PySem.F.entry_str_new
  (meets_str_new (S:=λA' R s'=>A'.units+1<gX/\t6 K C s'.heap e m tk/\R (.ok (.ret (.str m tk))) s')
   λZ Z A' Z Z hq=>Qm (A:=A'.in1) S hq.1 hq.2.1 hq.2.2)
  ⟨(show A.units+1+1<gX from hu),x,gW _ _ _,hq⟩
end
section
variable {c:FC}{σ:AS}{E:aG->AS->Prop}{Q:PV->AS->Prop}{s:ai}{e C:aj}{K:bE}{m:af}
set_option tactic.hygienic true in
theorem Pd{x:aG}(X:K.In c.b0)(S:uo K C)(hu:c.A.units+2<gX)(hd:uE c x)(he:c.A.handled=some (.ref e))(hx:x.cls = .ref C)(ha:x.args=some [.str m])(hdn:∀b o vs,c.base.get? b=some o->o.data = .fields vs->¬c.D b)(hdt:∀b o,c.base.get? b=some o->o.cls = .type "tuple"->¬c.D b)
  (h:Q (.str m) σ):aM c (.val (.type "str")) [.val (.ref e)] [] [] σ Q E:=aM.type λs vs I r=>by
 refine aC (iL r) λv j1 e'=>?_;subst j1
 obtain rfl:v = .ref e:=e'
 cases hd
 rename_i e2 h1 hch oe vs a0 h2 h3 h4 h5 h6
 replace h1:=he▸h1
 cases h1
 replace h6:=ha▸h6
 refine bM h6 λt ws j1 j2 g4=>?_;clear h6;subst j1;refine bM j2 λot n g1 g2 g3=>?_;clear j2
 obtain ⟨v1,rfl,tk,rfl⟩:=iL g4
 have u1:=I.up1 e oe vs h2 (hdn _ _ _ h2 h4) (.inl (by rw[h3,hx];exact λz=>nomatch z)) h4
 refine aP (I.cq t ot g1 (hdt _ _ g1 g2) λws q=>by replace q:=g3▸q;cases q) λsl u2=>?_
 refine Tf (m:=m) (tk:=tk) S hu ⟨X.keeps I.b0,oe,vs,t,_,n,u1,h3.trans hx,h4,h5,u2,g3⟩ ⟨.str m,σ,I,⟨tk,rfl⟩,TK.refl _,h⟩
end
end
section
noncomputable def mJ(es:List (af×PV)):List PV:=es.map λp=>.tup [.str p.1,p.2]
theorem cb.kvs{h:am}{w:aR}:∀{ens:List dB} {es:List (af×PV)},cb h w.params ens es->
  ∃kvs:List (af×ag),Pairs (sk w) ens kvs/\kvs.map dq=es.map dq/\(∀(j:Nat) (k:af) (v:ag),kvs[j]?=some (k,v)->∃pv,es[j]?=some (k,pv)/\RV h pv v)
 | [],es,r=>by cases (r:es=[]);exact(bh [] .nil rfl (λj k v q=>by simp at q))
 | e::ens,es,r=>by
  refine gN r λk v es' j1 h1 j2 h3 h4=>?_;clear r;subst j1;refine aP j2 λt h2=>?_;clear j2
  refine br (cb.kvs h4) λkvs p q z=>?_
  refine(bh ((k,e.val)::kvs) (.cons (by rw[h2];exact hZ aF w k t) rfl p) (by simp[q]) (λj k' v' g=>?_))
  .cases j with
   | zero=>simp at g;refine aN g λj1 j2=>?_;clear g;subst j1;subst j2;exact(aw v rfl h3)
   | succ j=>exact z j k' v' (by exact wK.mp g)
section
variable {c:FC}{σ:AS}{E:aG->AS->Prop}{Q:PV->AS->Prop}{s:ai}{d:aj}{es:List (af×PV)}
theorem In.dictAt(I:In c σ s)(hm:(d,.bx es)∈σ.st)(hn:(es.map dq).Nodup) :
  ∃kvs ep,s.heap.DictAt (sk c.w) d kvs ep/\kvs.length=es.length/\∀(j:Nat) (k:af) (v:ag),kvs[j]?=some (k,v)->∃pv,es[j]?=some (k,pv)/\RV s.heap pv v:=by
 refine eu (I.bx hm) λo ens n eo hc hk hd r hks=>?_
 obtain ⟨_,o2,eo2,hs2⟩:=I.dc _ _ hm
 replace eo2:=eo▸eo2;refine(λj0=>?_) (bj eo2);clear eo2;subst j0
 refine br (cb.kvs r) λkvs p q z=>?_
 exact(eV kvs n (En o ens eo ⟨hc,hk,hs2⟩ hd hks p (by rw[show kvs.map (·.1)=es.map dq from q];exact hn)) (by have:=aI gR q;simpa using this) z)
theorem dh.items{K:PV->List PV->AS->Prop}(hm:(d,.bx es)∈σ.st)(h:K (.val (.builtin "dict.items")) [.val (.ref d)] σ):dF c (.val (.ref d)) (ae "items") σ K E:=λs ov pl I e=>by
 obtain rfl:ov = .ref d:=e
 refine eu (I.bx hm) λo ens n eo hc hk hd r hks=>?_
 exact Ld (aw o eo hc) PySem.F.plainAttrs_dict Z1 PySem.F.type_dict_items (λb e=>by cases e;exact(aw o eo hk)) ⟨.val (.builtin "dict.items"),[.val (.ref d)],σ,I,rfl,aB.cons rfl aB.nil,TK.refl _,h⟩
theorem Hy{h:am}{w:aR}:∀{kvs:List (af×ag)} {es:List (af×PV)} {as:List aj},kvs.length=es.length->as.length=kvs.length->(∀(j:Nat) (k:af) (v:ag),kvs[j]?=some (k,v)->∃pv,es[j]?=some (k,pv)/\RV h pv v)->
  (∀(j:Nat) (a:aj),as[j]?=some a->∃key k x,kvs[j]?=some (k,x)/\(sk w).is k key=true/\h.get? a=some {cls:=.type "tuple",data:=.seq #[key,x]})->aB h (mJ es) (as.map dz)
 | [],[],[],_,_,_,_=>aB.nil
 | [],_::_,_,q,_,_,_=>by simp at q
 | _::_,[],_,q,_,_,_=>by simp at q
 | [],[],_::_,_,q,_,_=>by simp at q
 | _::_,_,[],_,q,_,_=>by simp at q
 | kv::kvs,e::es,a::as,h1,h2,h3,h4=>by
  have ih:=Hy (w:=w) (h:=h) (kvs:=kvs) (es:=es) (as:=as) (by exact wz h1) (by exact wz h2) (λj k v q=>h3 (j+1) k v (by exact wK.mp q)) (λj a' q=>h4 (j+1) a' (by exact wK.mp q))
  refine io (h4 0 a rfl) λkey k x e1 e2 e3=>?_
  obtain rfl:kv=(k,x):=by simpa using e1
  refine aC (h3 0 k x rfl) λpv e4 e5=>?_
  obtain rfl:e=(k,pv):=by simpa using e4
  have hk:∃t,key = .str k t:=by
   have e2:(Z2 aF w).is k key=true:=e2
   unfold Z2 at e2
   cases key <;> simp[sz] at e2
   exact⟨_,by rw[e2]⟩
  refine aP hk λt j1=>?_;clear hk;subst j1
  refine aB.cons (x:=.tup [.str k,pv]) ?_ ih
  rw[RV]
  exact⟨a,_,#[.str k t,x],0,rfl,e3,rfl,rfl,aB.cons ⟨t,rfl⟩ (aB.cons e5 aB.nil)⟩
theorem SE(hh:c.A.handled=none)(hs:(d==oE)=false)(I:In c σ s)(hm:(d,.bx es)∈σ.st)(hn:(es.map dq).Nodup)(hz:es.length<=100000)(h:∀m,(∀ao,(m,ao)∉σ.st)->Q (.val (.ref m)) {σ with st:=(m,.lst (mJ es))::σ.st}) :
  au (av aF c.w) c.A (call (.builtin "dict.items") [.ref d]) (λv ay=>au (av aF c.w) c.A (call (.type "list") [v]) (cw c RV s Q) (EPost c E) ay) (EPost c E) s:=by
 refine bM (I.dictAt hm hn) λkvs ep hd hl hp=>?_
 have ho:s.heap.DictOf (sk c.w) d kvs:=by
  refine Db hd λo es' a1 a2 a3 a4 a5 a6=>?_;clear hd
  exact(xD o es' ep a1 a2 a3 a4 a5 a6)
 refine Lh Z1 (let ⟨o,_,a1,a2,_⟩:=hd;⟨o,a1,a2.1⟩) PySem.F.entry_dict_items (PySem.F.args_dict_items_1 _) (meets_dict_items (sk c.w) d hs) ⟨⟨kvs,ho⟩,?_⟩
 have I1:In c σ {s with heap:=s.heap.push {cls:=.type "dict_items",data:=.fields #[.ref d]}}:=I.push _
 refine ii (bk _) ?_
 refine PySem.W.kdx_call (knd:=sk c.w) (kvs:=kvs) (ep:=ep) hh (bh _ (cH _ rfl) rfl rfl) (hd.push _) (by rw[iy];lia) λh' tk acc cc as hk hS hla hG hacc htk=>?_
 have hn1:=fb (h:=s.heap.push {cls:=.type "dict_items",data:=.fields #[.ref d]}) (bk _)
 have tk':TK s.heap h':=.of_keeps λb o e=>hk b o (dy _ e)
 refine⟨.val (.ref _),_,I1.jc (I1.grow hk (ht:=htk)) hn1 (ao:=.lst (mJ es)) ?_,rfl,tk',h _ λao hm=>?_⟩
 .unfold RO
  refine⟨_,acc,cc,hS,⟨rfl,rfl⟩,rfl,?_⟩
  rw[hacc]
  exact Hy (w:=c.w) hl hla (λj k v q=>let ⟨pv,a1,a2⟩:=hp j k v q;⟨pv,a1,a2.tk tk'⟩) hG.pairs
 .refine aC ((I1.st _ ao hm).1.there) λo e Z=>?_
  exact bI (hn1▸e)
end
end
section
section
variable {c:FC}{σ:AS}{E:aG->AS->Prop}{Q:PV->AS->Prop}{s:ai}{ev:bB}{w:aR}{b:am}{n:Nat}
noncomputable def ft(p:af×af):PV:=.tup [.str p.1,.str p.2]
theorem NE{h:am}{A:bZ}{s:ai}{p:af×af}{u v:ag}(r:RV s.heap (ft p) u)(r':RV s.heap (ft p) v)(hu:A.units<gX):LL A s u v true:=by
 unfold ft RV at r r'
 obtain ⟨a,o,ws,k,rfl,ho,hc,hd,rs⟩:=r
 obtain ⟨b,o',ws',k',rfl,ho',hc',hd',rs'⟩:=r'
 by_cases q:a=b
 .subst q;exact Z3 _
 refine bM (eQ rs) λx1 x2 e j1 j2=>?_;refine aP j1 λt1 j3=>?_;clear j1;subst j3;refine aP j2 λt2 j4=>?_;clear j2;subst j4
 refine bM (eQ rs') λy1 y2 e' j1 j2=>?_;refine aP j1 λu1 j3=>?_;clear j1;subst j3;refine aP j2 λu2 j4=>?_;clear j2;subst j4
 have e:ws = #[.str p.1 t1,.str p.2 t2]:=by rw[<-lU,e]
 have e':ws' = #[.str p.1 u1,.str p.2 u2]:=by rw[<-lU,e']
 subst e e'
 have:=SeqAt.RcAt.tuples (A:=A) (s:=s) (e:=λZ=>true) (bh o ho hc ⟨k,hd⟩) (bh o' ho' hc' ⟨k',hd'⟩) hu (λj h1 h2=>by
  match j,h1,h2 with
  | 0,_,_=>have:=LN (A:=A.in1) (s:=s) p.1 t1 p.1 u1;rewrite[beq_self_eq_true] at this;exact this
  | 1,_,_=>have:=LN (A:=A.in1) (s:=s) p.2 t2 p.2 u2;rewrite[beq_self_eq_true] at this;exact this
  | k+2,h1,_=>simp at h1;exact Z3 #[qA p.fst t1,qA p.snd t2][k+2])
 exact SeqAt.EqAt.of_refs q this
theorem T5{a d:aj}{ps:List (af×af)}(hm:(a,.lst (ps.map ft))∈σ.st)(hm':(d,.lst (ps.map ft))∈σ.st)(hu:c.A.units+2<gX)(h:Q (.bool true) σ):U2 c RV (ce .Eq) (.val (.ref a)) (.val (.ref d)) σ Q E:=λs u v I e e'=>by
 obtain rfl:u = .ref a:=e
 obtain rfl:v = .ref d:=e'
 refine eu (I.lst hm) λo vs k eo hc Z hd r hz=>?_
 refine eu (I.lst hm') λo' vs' k' eo' hc' Z hd' r' hz'=>?_
 have key:∀j (h1:j<vs.size) (h2:j<vs'.size),LL c.A.in1 s vs[j] vs'[j] ((λZ=>true) j):=λj h1 h2=>by
  have hj':j<ps.length:=by simpa using(by rw[<-hz];exact h1:j<(ps.map ft).length)
  have e:(ps.map ft)[j]?=some (ft ps[j]):=by simp[hj']
  refine aC (r.at e) λx hx rx=>?_
  refine aC (r'.at e) λy hy ry=>?_
  have ex:vs[j]=x:=by
   have:vs[j]?=some x:=by simpa using hx
   replace this:=(vC h1)▸this;exact kN this
  have ey:vs'[j]=y:=by
   have:vs'[j]?=some y:=by simpa using hy
   replace this:=(vC h2)▸this;exact kN this
  rw[ex,ey]
  exact NE (h:=s.heap) rx ry (by show c.A.units+1<gX;exact oz ‹_›)
 refine SeqAt.eq_listAt (e:=λZ=>true) (bh o eo hc ⟨k,hd⟩) (bh o' eo' hc' ⟨k',hd'⟩) (hz.trans hz'.symm) (by exact BM ‹_›) key ?_
 rw[(by exact fE.mpr λx=>congrFun rfl:(dQ vs.size).all (λZ=>true)=true)]
 exact ip I h
theorem PX{o:aL}{p1 p2 p3 p4:aT}(P:Pl c ev w b n)(g:Gl ev b (ae "list") (.type "list"))(hbase:wG o (ae "items") c.env (eval o c.env)=eval o c.env)(hline:(p2.endLine==p3.line)=true)(hh:c.A.handled=fW)(hsm:c.b0.get? oE≠fW)
  (h:Ev c o σ (λx aq=>∃d es,x = .val (.ref d)/\(d,.bx es)∈aq.st/\(es.map dq).Nodup/\es.length<=100000/\∀m,(∀ao,(m,ao)∉aq.st)->Q (.val (.ref m)) {aq with st:=(m,.lst (mJ es))::aq.st}) E) :
  Ev c (.Call (.Name (ae "list") p1) [.Call (.Attribute o (ae "items") p2) [] [] p3] [] p4) σ Q E:=λs I=>by
 refine DU (λZ=>rfl) (bn (Ev.gl (E:=λZ Z=>False) (Q:=λx τ=>x = .val (.type "list")/\τ=σ) P g ⟨rfl,rfl⟩ s I) (λfv ay p=>p.elim λx τ aQ rf k₁ e=>?_) λZ Z z=>z.no)
 refine aN e λj1 j2=>?_;clear e;subst j1;subst j2
 cases (show fv = .type "list" from rf)
 rw[arm_eval_Call,hbase]
 refine ah (bH (h ay aQ) λov bc x aq a_ bV k₂ q=>?_)
 refine zt q λd es j1 hm ga hz hq=>?_;clear q;subst j1
 cases (show ov = .ref d from bV)
 have hs:(d==oE)=false:=beq_eq_false_iff_ne.mpr λq=>hsm (q▸(a_.st _ _ hm).2.2.2.1)
 refine ah (d9 ?_)
 unfold methodCall
 rw[(rfl:K1 (([]:List aL).length+([]:List gV).length) (kR p3 (lX [] c.env)) (ie p3 (ig [] c.env))=true)]
 refine ah (bT (bn (dh.items (E:=λZ Z=>False) (K:=λf fs τ=>f = .val (.builtin "dict.items")/\fs=[.val (.ref d)]/\τ=aq) hm ⟨rfl,rfl,rfl⟩ bc (.ref d) _ a_ rfl) (λr bg p=>?_) λZ Z z=>z.no))
 cases p with | mk f fs dT dM rf rfs jD q=>
 refine eO q λj1 j2 j3=>?_;clear q;subst j1;subst j2;subst j3
 obtain ⟨fv,first⟩:=r
 cases (show fv = .builtin "dict.items" from rf)
 refine aC (iL rfs) λv j1 ev=>?_;subst j1
 cases (show v = .ref d from ev)
 refine ah (mP (by unfold K3;exact aA hline:K3 true o c.env p2 p3=pure p3) ?_)
 refine xi ?_
 refine bn (IC (args:=[]) (kws:=[]) (Q:=λxs kxs τ=>xs=[]/\kxs=[]/\τ=dT) (E:=λZ Z=>False) (pos:=p3) (λZ=>rfl) rfl dM (b7.nil (b7.nil ⟨rfl,rfl,rfl⟩))) (λa m5 A=>?_) λZ Z z=>z.no
 cases A with | mk xs kxs kvs m6 ko rx rk ek tC e=>
 refine eO e λj1 j2 j3=>?_;clear e;subst j1;subst j2;subst j3
 rw[hW rx,show a.kw=[] from ek]
 unfold iV mV
 refine ah (aE ?_)
 refine bn (SE hh hs ko hm ga hz hq) (λv fZ q=>?_) λZ Z z=>z
 exact ah (aE (bn q (λv s' z=>xM (k₁.trans (k₂.trans (jD.trans tC))) v s' z) λZ Z z=>z))
end
end
section
noncomputable abbrev nT(P:az):bE:=gZ.F P
noncomputable def tabs:List aj:=[681,582]
structure aO(w:aR)(b:am):Prop where
 all:∀a o,tabs.contains a=false->(nT w.params).lookup a=some o->b.get? a=some o
 sets:∀q∈gZ.G,bS w b q.1 q.2
section
variable {w:aR}{b:am}
theorem aO.at(S:aO w b)(a:aj){o:ax}(e:(nT w.params).lookup a=some o)(h:tabs.contains a=false:=by decide +kernel):b.get? a=some o:=S.all a o h e
theorem aO.f(S:aO w b)(i:Nat){q:Nat×List af}(h:gZ.G[i]?=some q):bS w b q.1 q.2:=S.sets q (qB h)
theorem aO.m3(S:aO w b):b.get? 3=some (lE w.params):=S.at 3 (by kernel_rfl)
theorem aO.MW(S:aO w b):bS w b 324 qQ:=S.f 6 (q:=(324,qQ)) rfl
theorem aO.V6(S:aO w b):bS w b 329 rO:=S.f 5 (q:=(329,rO)) rfl
theorem aO.r8(S:aO w b):bS w b 330 bG:=S.f 4 (q:=(330,bG)) rfl
theorem aO.CV(S:aO w b):bS w b 338 fK:=S.f 3 (q:=(338,fK)) rfl
theorem aO.Sp(S:aO w b):bS w b 339 nR:=S.f 2 (q:=(339,nR)) rfl
theorem aO.Sc(S:aO w b):bS w b 347 pP:=S.f 1 (q:=(347,pP)) rfl
theorem aO.EF(S:aO w b):bS w b 348 gp:=S.f 0 (q:=(348,gp)) rfl
theorem Xe{es:Array dB}(h:es.all (λe=>match e.key with | .str ..=>true | _=>false)=true):∀e∈es,∃x t,e.key = .str x t:=by
 intro e he
 have:=Y1.mp h e he
 revert this
 cases e.key with
 | str x t=>exact λZ=>⟨x,t,rfl⟩
 | _=>exact λh=>oS h
end
end
section
noncomputable def jI(o:ax):Array dB:=match o.data with | .dict es _=>es | _=>#[]
noncomputable def pA(P:az):af->Option ag:=tv (jI (lE P))
noncomputable def Hz(P:az):af->Option ag:=tv (jI (o0 P))
noncomputable def CO(es:Array dB):Bool:=es.all λe=>match e.key with | .str ..=>true | _=>false
theorem Jw{es:Array dB}(h:CO es=true):StrKeys es:=Xe h
section
variable {w:aR}{b:am}
noncomputable def Uk(o:ax):Bool:=match o.data with | .dict _ _=>true | _=>false
theorem uX{b:am}{a:aj}{o:ax}(h:b.get? a=some o)(hd:Uk o=true)(hs:CO (jI o)=true):b.Ns a (tv (jI o)):=by
 obtain ⟨c,d,x,l⟩:=o
 cases x with
 | dict es n=>exact(k6 _ es n h rfl (Jw hs) (λZ=>rfl))
 | _=>exact absurd hd (by intro h;cases h)
theorem aO.main(S:aO w b):b.Ns eK (pA w.params):=uX (o:=lE w.params) S.m3 (by kernel_rfl) (by kernel_rfl)
theorem aO.blt(S:aO w b):b.Ns jv (Hz w.params):=uX (S.at 0 (o:=o0 w.params) (by kernel_rfl)) (by kernel_rfl) (by kernel_rfl)
end
end
section
set_option genCtorIdx false
inductive pd where
 | bin (op:sS) | cmp (op:qp) | aug (op:sS) | sub
inductive qU where
 | un (op:UnaryOp) | tT (m:af) | fmt
inductive Ce where
 | loc (i:Nat) | gl (j:Nat) | nat (n:Nat) | str (l:List Nat) | none | bool (b:Bool)
 | o2 (o:pd) (a b:Ce) | o1 (o:qU) (a:Ce) | kB (op:eM) (l:Ce) | iQ (t a b:Ce)
 | cut (a lo hi:Ce) | call (f as ks:Ce) | g_ (o:Ce) (m:af) (as:Ce) | tup (l:Ce) | lst (l:Ce) | fst (a b r:Ce)
 | nil | cons (a r:Ce) | lu (n:af) (a r:Ce)
 | raw (e:aL)
inductive Cs where
 | fin
 | asg (i:Nat) (e:Ce) (r:Cs) | eE (is:List Nat) (e:Ce) (r:Cs) | aug (i:Nat) (op:sS) (e:Ce) (r:Cs) | exp (e:Ce) (r:Cs)
 | ret (e:Ce) (r:Cs) | lt (nn:Bool) (f as:Ce) (r:Cs) | ite (t:Ce) (a b r:Cs) | qY (t:Ce) (b r:Cs) | for (is:List Nat) (it:Ce) (b r:Cs)
 | try (b:Cs) (x:Nat) (h e r:Cs) | pass (r:Cs) | brk (r:Cs) | cont (r:Cs)
 | raw (s:bA) (r:Cs)
 | mark (r:Cs)
structure Fn where
 nm:List af
 gs:List (af×ag)
section
noncomputable def Ce.isNil:Ce->Bool
 | .nil=>true
 | _=>false
noncomputable def Fn.b6(F:Fn)(i:Nat)(e:aL):aL:=match F.nm[i]? with
 | some x=>.Name x e.pos
 | none=>.Starred e ⟨0,0,0,0⟩
noncomputable def Fn.yZ(F:Fn)(i:Nat)(e:aL):aL:=match F.gs[i]? with
 | some x=>.Name x.1 e.pos
 | none=>.Starred e ⟨0,0,0,0⟩
noncomputable def Fn.name(F:Fn)(i:Nat):af:=(F.nm[i]?).getD qz
noncomputable def Fn.glob(F:Fn)(j:Nat):af:=(F.gs[j]?.map (·.1)).getD qz
noncomputable def Fn.val(F:Fn)(j:Nat):ag:=(F.gs[j]?.map (·.2)).getD .none
noncomputable abbrev q0:aT:=⟨0,0,0,0⟩
noncomputable def x0:aL:=.Name qz q0
noncomputable def eD:aL->List aL×Nat×List gV
 | .BinOp a _ b _=>([a,b],0,[])
 | .UnaryOp _ a _=>([a],0,[])
 | .IfExp a b d _=>([a,b,d],0,[])
 | .Compare a _ bs _=>(a::bs,0,[])
 | .Call f as ks _=>(f::as,0,ks)
 | .FormattedValue a _ _ _=>([a],0,[])
 | .Attribute a _ _=>([a],0,[])
 | .Subscript a b _=>([a,b],0,[])
 | .BoolOp _ l _=>(l,0,[])
 | .JoinedStr l _=>(l,0,[])
 | .List l _=>(l,0,[])
 | .Constant _ n _=>([],n,[])
 | .Tuple l n _=>(l,n,[])
 | .Slice a b _ _=>([a.getD x0,b.getD x0],0,[])
 | _=>([],0,[])
noncomputable abbrev hd(l:List aL):aL:=l.headD x0
noncomputable abbrev k1(e:aL):aL:=hd (eD e).1
noncomputable abbrev k2(e:aL):aL:=hd (eD e).1.tail
noncomputable abbrev k3(e:aL):aL:=hd (eD e).1.tail.tail
noncomputable abbrev hk(l:List gV):gV:=l.headD ⟨.none,x0,q0⟩
noncomputable def Vp(p q:aT):aT:={p with endLine:=q.line}
mutual
noncomputable def Fn.rb(F:Fn):Ce->aL->aL
 | .loc i,e=>F.b6 i e
 | .gl j,e=>F.yZ j e
 | .nat n,e=>.Constant (.int (n:Nat)) (eD e).2.1 e.pos
 | .str l,e=>.Constant (.str (ms l)) (eD e).2.1 e.pos
 | .none,e=>.Constant .none (eD e).2.1 e.pos
 | .bool b,e=>.Constant (.bool b) (eD e).2.1 e.pos
 | .o2 o a b,e=>match o with
  | .bin op=>.BinOp (F.rb a (k1 e)) op (F.rb b (k2 e)) e.pos
  | .cmp op=>.Compare (F.rb a (k1 e)) [op] [F.rb b (k2 e)] e.pos
  | .sub=>.Subscript (F.rb a (k1 e)) (F.rb b (k2 e)) e.pos
  | .aug _=>.Starred e q0
 | .o1 o a,e=>match o with
  | .un op=>.UnaryOp op (F.rb a (k1 e)) e.pos
  | .tT m=>.Attribute (F.rb a (k1 e)) m e.pos
  | .fmt=>.FormattedValue (F.rb a (k1 e)) (-1) fW e.pos
 | .kB op l,e=>.BoolOp op (F.cf l (eD e).1) e.pos
 | .iQ t a b,e=>.IfExp (F.rb t (k1 e)) (F.rb a (k2 e)) (F.rb b (k3 e)) e.pos
 | .cut a lo hi,e=>.Subscript (F.rb a (k1 e)) (.Slice (cond lo.isNil fW (some (F.rb lo (k1 (k2 e))))) (cond hi.isNil fW (some (F.rb hi (k2 (k2 e))))) fW (k2 e).pos) e.pos
 | .call f as ks,e=>.Call (F.rb f (k1 e)) (F.cf as (eD e).1.tail) (F.ni ks (eD e).2.2) e.pos
 | .g_ o m as,e=>.Call (.Attribute (F.rb o (k1 (k1 e))) m (Vp (k1 e).pos e.pos)) (F.cf as (eD e).1.tail) [] e.pos
 | .tup l,e=>.Tuple (F.cf l (eD e).1) (eD e).2.1 e.pos
 | .lst l,e=>.List (F.cf l (eD e).1) e.pos
 | .fst a b r,e=>.JoinedStr (F.rb a (k1 e)::F.rb b (k2 e)::F.cf r (eD e).1.tail.tail) e.pos
 | .nil,_=>x0
 | .cons _ _,_=>x0
 | .lu _ _ _,_=>x0
 | .raw e,_=>e
noncomputable def Fn.cf(F:Fn):Ce->List aL->List aL
 | .cons a r,es=>F.rb a (hd es)::F.cf r es.tail
 | _,_=>[]
noncomputable def Fn.ni(F:Fn):Ce->List gV->List gV
 | .lu n a r,ks=>⟨some n,F.rb a (hk ks).value,(hk ks).pos⟩::F.ni r ks.tail
 | _,_=>[]
end
structure SD where
 e:aL:=x0
 t:aL:=x0
 a:List bA:=[]
 b:List bA:=[]
 h:List bA:=[]
 p:aT:=q0
 q:aT:=q0
noncomputable def sD:bA->SD
 | .Return (some e) _=>{e:=e}
 | .Assign ts e _=>{e:=e,t:=hd ts}
 | .AugAssign t _ e _=>{e:=e,t:=t}
 | .Expr e _=>{e:=e}
 | .If e a b _=>{e:=e,a:=a,b:=b}
 | .While e a _ _=>{e:=e,a:=a}
 | .For t e a _ _=>{e:=e,t:=t,a:=a}
 | .Raise (some e) q _=>{e:=e,t:=q.getD x0}
 | .Try a (.ExceptHandler (some t) _ h p::_) b _ _=>{a:=a,b:=b,h:=h,p:=t.pos,q:=p}
 | _=>{}
noncomputable abbrev hs(l:List bA):bA:=l.headD (.Pass q0)
noncomputable abbrev hD(l:List bA):SD:=sD (hs l)
noncomputable def Fn.ps(F:Fn):List Nat->List aL->List aL
 | [],_=>[]
 | i::is,es=>F.b6 i (hd es)::F.ps is es.tail
noncomputable def Fn.tup(F:Fn)(is:List Nat)(e:aL):aL:=.Tuple (F.ps is (eD e).1) (eD e).2.1 e.pos
noncomputable def Fn.cG(F:Fn)(is:List Nat)(e:aL):aL:=match is with
 | [i]=>F.b6 i e
 | is=>F.tup is e
noncomputable def Fn.bw(F:Fn):Cs->List bA->List bA
 | .fin,_=>[]
 | .asg i e r,l=>.Assign [F.b6 i (hD l).t] (F.rb e (hD l).e) (hs l).pos::F.bw r l.tail
 | .eE is e r,l=>.Assign [F.tup is (hD l).t] (F.rb e (hD l).e) (hs l).pos::F.bw r l.tail
 | .aug i op e r,l=>.AugAssign (F.b6 i (hD l).t) op (F.rb e (hD l).e) (hs l).pos::F.bw r l.tail
 | .exp e r,l=>.Expr (F.rb e (hD l).e) (hs l).pos::F.bw r l.tail
 | .ret e r,l=>.Return (some (F.rb e (hD l).e)) (hs l).pos::F.bw r l.tail
 | .lt nn f as r,l=>.Raise (some (.Call (F.rb f (k1 (hD l).e)) (F.cf as (eD (hD l).e).1.tail) [] (hD l).e.pos)) (cond nn (some (.Constant .none (eD (hD l).t).2.1 (hD l).t.pos)) none) (hs l).pos::F.bw r l.tail
 | .ite t a b r,l=>.If (F.rb t (hD l).e) (F.bw a (hD l).a) (F.bw b (hD l).b) (hs l).pos::F.bw r l.tail
 | .qY t b r,l=>.While (F.rb t (hD l).e) (F.bw b (hD l).a) [] (hs l).pos::F.bw r l.tail
 | .for is it b r,l=>.For (F.cG is (hD l).t) (F.rb it (hD l).e) (F.bw b (hD l).a) [] (hs l).pos::F.bw r l.tail
 | .try b x h e r,l=>.Try (F.bw b (hD l).a) [.ExceptHandler (some (.Name (F.glob x) (hD l).p)) none (F.bw h (hD l).h) (hD l).q] (F.bw e (hD l).b) [] (hs l).pos::F.bw r l.tail
 | .pass r,l=>.Pass (hs l).pos::F.bw r l.tail
 | .brk r,l=>.Break (hs l).pos::F.bw r l.tail
 | .cont r,l=>.Continue (hs l).pos::F.bw r l.tail
 | .raw s r,l=>s::F.bw r l.tail
 | .mark r,l=>F.bw r l
end
end
section
set_option genCtorIdx false
inductive Kt where
 | top | seq (r:Cs) (k:Kt) | pS (x:Nat) (h e:Cs) (k:Kt)
 | asg (i:Nat) (k:Kt) | eE (is:List Nat) (k:Kt) | ret (k:Kt) | pop (k:Kt)
 | o2 (o:pd) (b:Ce) (k:Kt) | pO (o:pd) (x:PV) (k:Kt) | o1 (o:qU) (k:Kt)
 | qZ (lo hi:Ce) (k:Kt) | sm (x:PV) (hi:Ce) (k:Kt) | q9 (x y:PV) (k:Kt)
 | sq (as ks:Ce) (k:Kt) | qM (f:PV) (ks:Ce) (k:Kt) | sh (f:PV) (xs:List PV) (ns:List af) (k:Kt) | met (m:af) (as:Ce) (k:Kt) | qV (f:PV) (fs:List PV) (k:Kt) | rz (as:Ce) (k:Kt) | rR (f:PV) (k:Kt)
 | tup (k:Kt) | lst (k:Kt) | fj (r:Ce) (acc:List Nat) (k:Kt) | arg (r:Ce) (k:Kt) | rh (r:Ce) (k:Kt) | got (x:PV) (k:Kt)
 | bv (op:eM) (r:Ce) (k:Kt) | rE (op:eM) (v:PV) (r:Ce) (k:Kt) | ky (k:Kt)
 | ite (a b:Cs) (k:Kt) | ss (b:Cs) (k:Kt) | not (k:Kt) | rc (op:eM) (r:Ce) (k:Kt) | iQ (a b:Ce) (k:Kt)
structure Gm(F:Fn) where
 c:FC
 R:bO->AS->Prop
 E:aG->AS->Prop
structure Dn where
 e:PV->AS->Prop:=λZ Z=>False
 b:Bool->AS->Prop:=λZ Z=>False
 l:List PV->AS->Prop:=λZ Z=>False
 f:bO->AS->Prop:=λZ Z=>False
 x:aG->AS->Prop
section
noncomputable def Fn.has(F:Fn)(i:Nat):Prop:=F.nm[i]?=some (F.name i)
noncomputable def su:pd->ag->ag->bf ag
 | .bin op=>fy op
 | .cmp op=>ce op
 | .aug op=>oG op
 | .sub=>hV
noncomputable def uw:qU->ag->bf ag
 | .un op=>wS op
 | .tT m=>λv=>mZ v m true
 | .fmt=>λv=>Bn v qz
noncomputable def n7:Ce->List af
 | .lu n _ r=>n::n7 r
 | _=>[]
section
variable {F:Fn}(Γ:Gm F)
noncomputable def bK(e:Ce)(σ:AS)(Q:PV->AS->Prop)(E:aG->AS->Prop):Prop:=∀x,F.rb e x=x->Ev Γ.c x σ Q E
noncomputable def iU(e:Ce)(σ:AS)(Q:Bool->AS->Prop)(E:aG->AS->Prop):Prop:=∀x,F.rb e x=x->Et Γ.c x σ Q E
noncomputable def f7(e:Ce)(σ:AS)(Q:List PV->AS->Prop)(E:aG->AS->Prop):Prop:=∀x,F.cf e x=x->b7 Γ.c x σ Q E
noncomputable def kz(e:Ce)(σ:AS)(Q:List PV->AS->Prop)(E:aG->AS->Prop):Prop:=∀x,F.ni e x=x->b7 Γ.c (x.map (·.value)) σ Q E
noncomputable def mf(e:Ce)(acc:List Nat)(σ:AS)(Q:List Nat->AS->Prop)(E:aG->AS->Prop):Prop:=∀x,F.cf e x=x->l9 Γ.c x acc σ Q E
noncomputable def le(op:eM)(e:Ce)(σ:AS)(Q:PV->AS->Prop)(E:aG->AS->Prop):Prop:=∀x,F.cf e x=x->iO Γ.c op Q E x σ
noncomputable def mF(op:eM)(e:Ce)(σ:AS)(Q:Bool->AS->Prop)(E:aG->AS->Prop):Prop:=∀x,F.cf e x=x->iJ Γ.c op Q E x σ
noncomputable def bl(b:Cs)(σ:AS)(Q:bO->AS->Prop)(E:aG->AS->Prop):Prop:=∀l,F.bw b l=l->dC Γ.c l σ Q E
noncomputable def jH(e:Ce)(σ:AS)(Q:PV->AS->Prop)(E:aG->AS->Prop):Prop:=cond e.isNil (Q .none σ) (bK Γ e σ Q E)
noncomputable def dk(r:Cs)(d:Dn):bO->AS->Prop:=λf τ=>match f with
 | .next=>bl Γ r τ d.f d.x
 | f=>d.f f τ
noncomputable def tM(x:Nat)(h:Cs)(y:aG)(τ:AS)(d:Dn):Prop:=∀l p q,F.bw h l=l->nK Γ.c y τ d.f d.x [.ExceptHandler (some (.Name (F.glob x) p)) none l q]
noncomputable def iM(op:eM)(b:Bool)(p q:Prop):Prop:=match op with
 | .And=>Br b q p
 | .Or=>Br b p q
noncomputable def u3(as:Ce)(d:Dn)(f:PV)(fs:List PV)(τ:AS):Prop:=f7 Γ as τ (λxs τ=>aM Γ.c f (fs++xs) [] [] τ d.e d.x) d.x
noncomputable def po(e:Ce)(b:Cs)(τ:AS)(d:Dn):Prop:=∀x l p,F.rb e x=x->F.bw b l=l->Ex Γ.c (.While x l [] p) τ d.f d.x
noncomputable def pn(is:List Nat)(e:Ce)(b:Cs)(τ:AS)(d:Dn):Prop:=∀g x l p,F.cG is g=g->F.rb e x=x->F.bw b l=l->Ex Γ.c (.For g x l [] p) τ d.f d.x
noncomputable def D:Kt->Dn
 | .top=>{f:=Γ.R,x:=Γ.E}
 | .seq r k=>{f:=dk Γ r (D k),x:=(D k).x}
 | .pS x h e k=>{f:=dk Γ e (D k),x:=λy τ=>tM Γ x h y τ (D k)}
 | .asg i k=>{e:=λv τ=>F.has i->(D k).f .next (τ.set (F.name i) v),x:=(D k).x}
 | .eE is k=>{e:=λv τ=>(∀i∈is,F.has i)->∃xs,v = .tup xs/\xs.length=is.length/\g9 (is.map F.name) xs ((D k).f .next) τ,x:=(D k).x}
 | .ret k=>{e:=λv τ=>(D k).f (.ret v) τ,x:=(D k).x}
 | .pop k=>{e:=λv τ=>(D k).f .next τ,x:=(D k).x}
 | .o2 o b k=>{e:=λx τ=>bK Γ b τ (λy τ=>U2 Γ.c RV (su o) x y τ (D k).e (D k).x) (D k).x,x:=(D k).x}
 | .pO o x k=>{e:=λy τ=>U2 Γ.c RV (su o) x y τ (D k).e (D k).x,x:=(D k).x}
 | .o1 o k=>{e:=λx τ=>U1 Γ.c RV (uw o) x τ (D k).e (D k).x,x:=(D k).x}
 | .qZ lo hi k=>{e:=λx τ=>jH Γ lo τ (λy τ=>jH Γ hi τ (λz τ=>jS Γ.c x y z τ (D k).e (D k).x) (D k).x) (D k).x,x:=(D k).x}
 | .sm x hi k=>{e:=λy τ=>jH Γ hi τ (λz τ=>jS Γ.c x y z τ (D k).e (D k).x) (D k).x,x:=(D k).x}
 | .q9 x y k=>{e:=λz τ=>jS Γ.c x y z τ (D k).e (D k).x,x:=(D k).x}
 | .sq as ks k=>{e:=λf τ=>f7 Γ as τ (λxs τ=>kz Γ ks τ (λkxs τ=>aM Γ.c f xs (n7 ks) kxs τ (D k).e (D k).x) (D k).x) (D k).x,x:=(D k).x}
 | .qM f ks k=>{l:=λxs τ=>kz Γ ks τ (λkxs τ=>aM Γ.c f xs (n7 ks) kxs τ (D k).e (D k).x) (D k).x,x:=(D k).x}
 | .sh f xs ns k=>{l:=λkxs τ=>aM Γ.c f xs ns kxs τ (D k).e (D k).x,x:=(D k).x}
 | .met m as k=>{e:=λx τ=>dF Γ.c x m τ (u3 Γ as (D k)) (D k).x,x:=(D k).x}
 | .qV f fs k=>{l:=λxs τ=>aM Γ.c f (fs++xs) [] [] τ (D k).e (D k).x,x:=(D k).x}
 | .rz as k=>{e:=λf τ=>f7 Γ as τ (λxs τ=>cL Γ.c (fD Γ.c) f xs [] [] τ (λx τ=>x.cls = .ref 364/\(D k).x x τ) (D k).x) (D k).x,x:=(D k).x}
 | .rR f k=>{l:=λxs τ=>cL Γ.c (fD Γ.c) f xs [] [] τ (λx τ=>x.cls = .ref 364/\(D k).x x τ) (D k).x,x:=(D k).x}
 | .tup k=>{l:=λxs τ=>(D k).e (.tup xs) τ,x:=(D k).x}
 | .lst k=>{l:=λxs τ=>∀a,(∀ao,(a,ao)∉τ.st)->(D k).e (.val (.ref a)) {τ with st:=(a,.lst xs)::τ.st},x:=(D k).x}
 | .fj r acc k=>{e:=λv τ=>∃l,v = .str (ms l)/\acc.length+l.length<=bN/\mf Γ r (acc++l) τ (λl τ=>(D k).e (.str (ms l)) τ) (D k).x,x:=(D k).x}
 | .arg r k=>{e:=λx τ=>f7 Γ r τ (λxs τ=>(D k).l (x::xs) τ) (D k).x,x:=(D k).x}
 | .rh r k=>{e:=λx τ=>kz Γ r τ (λxs τ=>(D k).l (x::xs) τ) (D k).x,x:=(D k).x}
 | .got x k=>{l:=λxs τ=>(D k).l (x::xs) τ,x:=(D k).x}
 | .bv op r k=>{e:=λv τ=>U1 Γ.c fw eZ v τ (λb τ=>iM op b ((D k).e v τ) (le Γ op r τ (D k).e (D k).x)) (D k).x,x:=(D k).x}
 | .rE op v r k=>{b:=λb τ=>iM op b ((D k).e v τ) (le Γ op r τ (D k).e (D k).x),x:=(D k).x}
 | .ky k=>{e:=λz τ=>U1 Γ.c fw eZ z τ (D k).b (D k).x,x:=(D k).x}
 | .ite a b k=>{b:=λβ τ=>Br β (bl Γ a τ (D k).f (D k).x) (bl Γ b τ (D k).f (D k).x),x:=(D k).x}
 | .ss b k=>{b:=λβ τ=>Br β (bl Γ b τ (D k).f (D k).x) ((D k).f .brk τ),x:=(D k).x}
 | .not k=>{b:=λβ τ=>(D k).b (!β) τ,x:=(D k).x}
 | .rc op r k=>{b:=λb τ=>iM op b ((D k).b (op==.Or) τ) (mF Γ op r τ (D k).b (D k).x),x:=(D k).x}
 | .iQ a b k=>{b:=λβ τ=>Br β (bK Γ a τ (D k).e (D k).x) (bK Γ b τ (D k).e (D k).x),x:=(D k).x}
end
end
end
section
section
noncomputable def nj:PV->Bool
 | .al=>true
 | _=>false
noncomputable def g8:List PV->Nat->PV->Option (List PV)
 | [],_,_=>none
 | _::r,0,x=>some (x::r)
 | y::r,i+1,x=>(g8 r i x).map (y::·)
noncomputable def pK:List PV->List Nat->List PV->Option (List PV)
 | v,i::is,x::xs=>(g8 v i x).bind λv=>pK v is xs
 | v,[],[]=>some v
 | _,_,_=>none
noncomputable def Ce.odd:Ce->Bool
 | .raw _=>true
 | .call _ .nil _=>true
 | .call _ (.cons _ _) _=>false
 | .call _ _ _=>true
 | _=>false
noncomputable def Ce.isCall:Ce->Bool
 | .call _ _ _=>true
 | _=>false
noncomputable def Cs.rJ:Cs->Bool
 | .fin=>true
 | .mark _=>true
 | _=>false
noncomputable def Ce.isNm:Ce->Bool
 | .loc _=>true
 | .gl _=>true
 | _=>false
noncomputable def Ce.oZ:Ce->Bool
 | .raw (.ListComp _ _ _ _)=>true
 | .raw _=>false
 | _=>true
noncomputable def Ce.nt:Nat->Ce->Bool
 | 0,.cons _ _=>false
 | n+1,.cons a r=>cond a.oZ (nt n r) false
 | _,_=>true
noncomputable abbrev Ce.jd:Ce->Bool:=Ce.nt 4
noncomputable def Ce.nv:Ce->Bool
 | .tup _=>false
 | .raw _=>false
 | _=>true
noncomputable def Cq(x:PV)(is:List Nat)(v:List PV)(N:List PV->Prop)(L:Prop):Prop:=match x with
 | .tup xs=>match pK v is xs with
  | some v'=>N v'
  | none=>False
 | _=>L
noncomputable abbrev Fn.at(F:Fn)(v:List PV)(t:List (aj×AO)):AS:=Internal.mk F.nm v t
variable {F:Fn}(Γ:Gm F)
mutual
noncomputable def vE:Nat->Ce->List PV->List (aj×AO)->Kt->Prop
 | 0,e,v,t,k=>bK Γ e (F.at v t) (D Γ k).e (D Γ k).x
 | n+1,e,v,t,k=>match e with
  | .loc i=>cond (nj (eU v i)) False (vV n (eU v i) v t k)
  | .gl j=>vV n (.val (F.val j)) v t k
  | .nat m=>vV n (.int (m:Nat)) v t k
  | .str l=>vV n (.str (ms l)) v t k
  | .none=>vV n .none v t k
  | .bool b=>vV n (.bool b) v t k
  | .o2 o a b=>cond b.odd False (vE n a v t (.o2 o b k))
  | .o1 o a=>cond a.odd False (vE n a v t (.o1 o k))
  | .kB op l=>vB n op l v t k
  | .iQ c a b=>vT n c v t (.iQ a b k)
  | .cut a lo hi=>vE n a v t (.qZ lo hi k)
  | .call f as ks=>cond f.isNm (cond (as.nt 9) (vE n f v t (.sq as ks k)) False) False
  | .g_ o m as=>cond o.odd False (cond as.jd (vE n o v t (.met m as k)) False)
  | .tup l=>cond l.jd (vL n l v t (.tup k)) False
  | .lst l=>cond l.jd (vL n l v t (.lst k)) False
  | .fst a b r=>vJ n (.cons a (.cons b r)) [] v t k
  | .raw e=>Ev Γ.c e (F.at v t) (D Γ k).e (D Γ k).x
  | _=>False
noncomputable def vT:Nat->Ce->List PV->List (aj×AO)->Kt->Prop
 | 0,e,v,t,k=>iU Γ e (F.at v t) (D Γ k).b (D Γ k).x
 | n+1,e,v,t,k=>match e with
  | .o2 (.cmp op) a b=>cond b.odd False (vE n a v t (.o2 (.cmp op) b (.ky k)))
  | .o1 (.un .Not) a=>vT n a v t (.not k)
  | .kB op l=>vA n op l v t k
  | .loc i=>vE n (.loc i) v t (.ky k)
  | .gl i=>vE n (.gl i) v t (.ky k)
  | .bool i=>vE n (.bool i) v t (.ky k)
  | .call f as ks=>vE n (.call f as ks) v t (.ky k)
  | .g_ f as ks=>vE n (.g_ f as ks) v t (.ky k)
  | .raw e=>Et Γ.c e (F.at v t) (D Γ k).b (D Γ k).x
  | _=>False
noncomputable def vL:Nat->Ce->List PV->List (aj×AO)->Kt->Prop
 | 0,e,v,t,k=>f7 Γ e (F.at v t) (D Γ k).l (D Γ k).x
 | n+1,e,v,t,k=>match e with
  | .nil=>vX n [] v t k
  | .cons a r=>vE n a v t (.arg r k)
  | _=>False
noncomputable def vK:Nat->Ce->List PV->List (aj×AO)->Kt->Prop
 | 0,e,v,t,k=>kz Γ e (F.at v t) (D Γ k).l (D Γ k).x
 | n+1,e,v,t,k=>match e with
  | .nil=>vX n [] v t k
  | .lu _ a r=>vE n a v t (.rh r k)
  | _=>False
noncomputable def vO:Nat->Ce->List PV->List (aj×AO)->Kt->Prop
 | 0,e,v,t,k=>jH Γ e (F.at v t) (D Γ k).e (D Γ k).x
 | n+1,e,v,t,k=>cond e.isNil (vV n .none v t k) (vE n e v t k)
noncomputable def vB:Nat->eM->Ce->List PV->List (aj×AO)->Kt->Prop
 | 0,op,e,v,t,k=>le Γ op e (F.at v t) (D Γ k).e (D Γ k).x
 | n+1,op,e,v,t,k=>match e with
  | .cons a .nil=>vE n a v t k
  | .cons a (.cons b r)=>vE n a v t (.bv op (.cons b r) k)
  | _=>False
noncomputable def vA:Nat->eM->Ce->List PV->List (aj×AO)->Kt->Prop
 | 0,op,e,v,t,k=>mF Γ op e (F.at v t) (D Γ k).b (D Γ k).x
 | n+1,op,e,v,t,k=>match e with
  | .nil=>vY n (op==.And) v t k
  | .cons a r=>vT n a v t (.rc op r k)
  | _=>False
noncomputable def vJ:Nat->Ce->List Nat->List PV->List (aj×AO)->Kt->Prop
 | 0,e,acc,v,t,k=>mf Γ e acc (F.at v t) (λl τ=>(D Γ k).e (.str (ms l)) τ) (D Γ k).x
 | n+1,e,acc,v,t,k=>match e with
  | .nil=>acc.length<=bN/\vV n (.str (ms acc)) v t k
  | .cons a r=>vE n a v t (.fj r acc k)
  | _=>False
noncomputable def vX:Nat->List PV->List PV->List (aj×AO)->Kt->Prop
 | 0,xs,v,t,k=>(D Γ k).l xs (F.at v t)
 | n+1,xs,v,t,k=>match k with
  | .tup k=>vV n (.tup xs) v t k
  | .lst k=>∀a,(∀ao,(a,ao)∉t)->vV n (.val (.ref a)) v ((a,.lst xs)::t) k
  | .got x k=>vX n (x::xs) v t k
  | .qM f ks k=>vK n ks v t (.sh f xs (n7 ks) k)
  | .sh f ys ns k=>aM Γ.c f ys ns xs (F.at v t) (D Γ k).e (D Γ k).x
  | .qV f fs k=>aM Γ.c f (fs++xs) [] [] (F.at v t) (D Γ k).e (D Γ k).x
  | .rR f k=>cL Γ.c (fD Γ.c) f xs [] [] (F.at v t) (λx τ=>x.cls = .ref 364/\(D Γ k).x x τ) (D Γ k).x
  | _=>False
noncomputable def vY:Nat->Bool->List PV->List (aj×AO)->Kt->Prop
 | 0,b,v,t,k=>(D Γ k).b b (F.at v t)
 | n+1,b,v,t,k=>match k with
  | .ite p q k=>Br b (vS n p v t k) (vS n q v t k)
  | .ss p k=>Br b (vS n p v t k) (vF n .brk v t k)
  | .not k=>vY n (!b) v t k
  | .rc op r k=>iM op b (vY n (op==.Or) v t k) (vA n op r v t k)
  | .iQ p q k=>Br b (vE n p v t k) (vE n q v t k)
  | .rE op x r k=>iM op b (vV n x v t k) (vB n op r v t k)
  | _=>False
noncomputable def vV:Nat->PV->List PV->List (aj×AO)->Kt->Prop
 | 0,x,v,t,k=>(D Γ k).e x (F.at v t)
 | n+1,x,v,t,k=>match k with
  | .asg i k=>match g8 v i x with
   | some v'=>vF n .next v' t k
   | none=>False
  | .eE is k=>Cq x is v (λv'=>vF n .next v' t k) ((D Γ (.eE is k)).e x (F.at v t))
  | .ret k=>vF n (.ret x) v t k
  | .pop k=>vF n .next v t k
  | .o2 o b k=>vE n b v t (.pO o x k)
  | .pO o y k=>U2 Γ.c RV (su o) y x (F.at v t) (D Γ k).e (D Γ k).x
  | .o1 o k=>U1 Γ.c RV (uw o) x (F.at v t) (D Γ k).e (D Γ k).x
  | .qZ lo hi k=>vO n lo v t (.sm x hi k)
  | .sm y hi k=>vO n hi v t (.q9 y x k)
  | .q9 y z k=>jS Γ.c y z x (F.at v t) (D Γ k).e (D Γ k).x
  | .sq as ks k=>vL n as v t (.qM x ks k)
  | .met m as k=>dF Γ.c x m (F.at v t) (u3 Γ as (D Γ k)) (D Γ k).x
  | .rz as k=>vL n as v t (.rR x k)
  | .fj r acc k=>∃l,x = .str (ms l)/\acc.length+l.length<=bN/\vJ n r (acc++l) v t k
  | .arg r k=>vL n r v t (.got x k)
  | .rh r k=>vK n r v t (.got x k)
  | .bv op r k=>U1 Γ.c fw eZ x (F.at v t) (D Γ (.rE op x r k)).b (D Γ k).x
  | .ky k=>U1 Γ.c fw eZ x (F.at v t) (D Γ k).b (D Γ k).x
  | _=>False
noncomputable def vF:Nat->bO->List PV->List (aj×AO)->Kt->Prop
 | 0,f,v,t,k=>(D Γ k).f f (F.at v t)
 | n+1,f,v,t,k=>match k with
  | .top=>Γ.R f (F.at v t)
  | .seq r k=>match f with
   | .next=>vS n r v t k
   | f=>vF n f v t k
  | .pS _ _ r k=>match f with
   | .next=>vS n r v t k
   | f=>vF n f v t k
  | _=>False
noncomputable def vS:Nat->Cs->List PV->List (aj×AO)->Kt->Prop
 | 0,b,v,t,k=>bl Γ b (F.at v t) (D Γ k).f (D Γ k).x
 | n+1,b,v,t,k=>match b with
  | .fin=>vF n .next v t k
  | .asg i e r=>cond e.odd (cond e.isCall (vE n e v t (.asg i (.seq r k))) False) (vE n e v t (.asg i (.seq r k)))
  | .eE is e r=>cond e.nv (Γ.c.A.handled=none/\vE n e v t (.eE is (.seq r k))) (bl Γ (.eE is e r) (F.at v t) (D Γ k).f (D Γ k).x)
  | .aug i op e r=>cond (nj (eU v i)) False (vE n e v t (.pO (.aug op) (eU v i) (.asg i (.seq r k))))
  | .exp e r=>cond e.odd (cond e.isCall (vE n e v t (.pop (.seq r k))) False) (vE n e v t (.pop (.seq r k)))
  | .ret e r=>vE n e v t (.ret k)
  | .lt _ f as r=>cond f.isNm (cond as.jd (vE n f v t (.rz as k)) False) False
  | .ite c p q r=>vT n c v t (.ite p q (.seq r k))
  | .qY c p r=>po Γ c p (F.at v t) (D Γ (.seq r k))
  | .for is e p r=>pn Γ is e p (F.at v t) (D Γ (.seq r k))
  | .try p x h e r=>cond h.rJ False (vS n p v t (.pS x h e (.seq r k)))
  | .pass r=>vS n r v t k
  | .brk r=>vF n .brk v t k
  | .cont r=>vF n .cont v t k
  | .raw s r=>bl Γ (.raw s r) (F.at v t) (D Γ k).f (D Γ k).x
  | .mark r=>bl Γ r (F.at v t) (D Γ k).f (D Γ k).x
end
end
end
section
structure Good(c:FC)(F:Fn):Prop where
 ok:c.Ok
 lo:∀(i:Nat) (x:af),F.nm[i]?=some x->Lo c.env F.nm x i
 gl:∀(j:Nat) (p:af×ag),F.gs[j]?=some p->Gl c.env c.b0 p.1 p.2
 H:f8 c
 hC:gC c.b0 364
structure De(x:aL):Prop where
 m:∀op,wm op x=false
 s:tX x
 n:∀r,noStar r->noStar (x::r)
 w:∀t l e,lW x t l e=pure false
 f:∀e v,Zn x e v=pure v
theorem qN{e:aL}{p:aT}(h:Expr.Starred e p=e):False:=by
 have:=aI sizeOf h
 simp at this
 lia
noncomputable def UO:aL->Option af
 | .Name x _=>some x
 | _=>none
section
variable {F:Fn}{Γ:Gm F}{σ:AS}{Q:PV->AS->Prop}{E:aG->AS->Prop}
theorem hX{i:Nat}{e:aL}(h:F.b6 i e=e):∃x,F.nm[i]?=some x/\F.name i=x/\td x e.pos=e:=by
 unfold Fn.b6 at h
 unfold Fn.name
 cases q:F.nm[i]? with
 | none=>replace h:=q▸h;exact(qN h).elim
 | some x=>replace h:=q▸h;exact(bh x rfl rfl h)
theorem pm{i:Nat}{e:aL}(h:F.yZ i e=e):∃x,F.gs[i]?=some x/\F.val i=x.2/\td x.1 e.pos=e:=by
 unfold Fn.yZ at h
 unfold Fn.val
 cases q:F.gs[i]? with
 | none=>replace h:=q▸h;exact(qN h).elim
 | some x=>replace h:=q▸h;exact(bh x rfl rfl h)
theorem Jk{x:af}{p:aT}:De (.Name x p):=⟨λZ=>rfl,λZ Z=>⟨rfl,rfl⟩,λZ h=>h.cons λZ=>rfl,λZ Z Z=>rfl,λZ Z=>rfl⟩
theorem ik{b:Ce}{x:aL}(h:F.rb b x=x)(hb:b.odd=false\/b.isCall=true):De x:=by
 cases b with
 | loc i=>refine br (hX h) λy Z Z h=>?_;rw[<-h];exact Jk
 | gl i=>refine br (pm h) λy Z Z h=>?_;rw[<-h];exact Jk
 | o2 o a b=>
  cases o with
  | aug _=>exact(qN h).elim
  | _=>rw[<-h];exact⟨λZ=>rfl,λZ Z=>⟨rfl,rfl⟩,λZ h=>h.cons λZ=>rfl,λZ Z Z=>rfl,λZ Z=>rfl⟩
 | o1 o a=>rw[<-h];cases o <;> exact⟨λZ=>rfl,λZ Z=>⟨rfl,rfl⟩,λZ h=>h.cons λZ=>rfl,λZ Z Z=>rfl,λZ Z=>rfl⟩
 | raw e=>exact hb.elim (λz=>nomatch z) λz=>nomatch z
 | _=>rw[<-h];exact⟨λZ=>rfl,λZ Z=>⟨rfl,rfl⟩,λZ h=>h.cons λZ=>rfl,λZ Z Z=>rfl,λZ Z=>rfl⟩
theorem W4{f a:aL}{r:List aL}{ks:List gV}{p:aT}{m:af}{e:bB}{w:bf ag}:wG (.Call f (a::r) ks p) m e w=w:=by cases f <;> rfl
theorem DS{b:Ce}{x:aL}(h:F.rb b x=x)(hb:b.odd=false)(m:af)(e:bB)(w:bf ag):wG x m e w=w:=by
 cases b with
 | loc i=>refine br (hX h) λy Z Z h=>?_;rw[<-h];rfl
 | gl i=>refine br (pm h) λy Z Z h=>?_;rw[<-h];rfl
 | o2 o a b=>rw[<-h];cases o <;> rfl
 | o1 o a=>rw[<-h];cases o <;> rfl
 | raw e=>cases hb
 | call f as ks=>
  rw[<-h]
  cases as with
  | cons a r=>exact W4
  | _=>cases hb
 | _=>rw[<-h];rfl
theorem W.mn{α X:Type}{c:FC}{ρ:am->X->α->Prop}{t:bf α}{s:ai}{Q Q':X->AS->Prop}(h:W c ρ t s Q E)(hq:∀x σ,Q x σ->Q' x σ):W c ρ t s Q' E:=
 bn h (λZ Z p=>p.elim λx σ I r k q=>⟨x,σ,I,r,k,hq _ _ q⟩) λZ Z z=>z
theorem Tr.mono{α X:Type}{c:FC}{ρ:am->X->α->Prop}{t:bf α}{Q Q':X->AS->Prop}(h:Tr c ρ t σ Q E)(hq:∀x σ,Q x σ->Q' x σ):Tr c ρ t σ Q' E:=λs I=>W.mn (h s I) hq
theorem Ev.mn{c:FC}{e:aL}{Q Q':PV->AS->Prop}(h:Ev c e σ Q E)(hq:∀x σ,Q x σ->Q' x σ):Ev c e σ Q' E:=Tr.mono h hq
theorem Et.mn{c:FC}{e:aL}{Q Q':Bool->AS->Prop}(h:Et c e σ Q E)(hq:∀x σ,Q x σ->Q' x σ):Et c e σ Q' E:=λw hw=>Tr.mono (h w hw) hq
theorem b7.mn{c:FC}:∀{l:List aL} {σ:AS} {Q Q':List PV->AS->Prop},b7 c l σ Q E->(∀x σ,Q x σ->Q' x σ)->b7 c l σ Q' E
 | [],_,_,_,h,q=>q _ _ h
 | _::_,_,_,_,h,q=>Ev.mn h λZ Z z=>b7.mn z λZ Z z=>q _ _ z
theorem gk{o:pd}{a b:Ce}(hb:b.odd=false)(H:bK Γ a σ (λx τ=>bK Γ b τ (λy τ=>U2 Γ.c RV (su o) x y τ Q E) E) E):bK Γ (.o2 o a b) σ Q E:=λx h=>by
 have ha:=aI (F.rb a) (aI k1 h)
 have hb':=aI (F.rb b) (aI k2 h)
 cases o with
 | aug op=>exact(qN h).elim
 | bin op=>rw[<-h];exact UK ((H _ ha).mn λZ Z q=>q _ hb')
 | cmp op=>rw[<-h];exact Qy ((ik hb' (.inl hb)).m op) ((H _ ha).mn λZ Z q=>q _ hb')
 | sub=>rw[<-h];exact Ev.sub (ik hb' (.inl hb)).s ((H _ ha).mn λZ Z q=>q _ hb')
theorem V8{c:FC}{op:UnaryOp}{e:aL}{pos:aT}{Q:PV->AS->Prop}(h:Ev c e σ (λx aq=>U1 c RV (wS op) x aq Q E) E):Ev c (.UnaryOp op e pos) σ Q E:=λs I=>by
 rw[arm_eval_UnaryOp]
 exact ah (bH (h s I) λv ay x aq aQ aZ k₁ a7=>ah (d9 (bT (iS k₁ (a7 ay v aQ aZ)))))
theorem Ag{o:qU}{a:Ce}(hb:a.odd=false)(H:bK Γ a σ (λx τ=>U1 Γ.c RV (uw o) x τ Q E) E):bK Γ (.o1 o a) σ Q E:=λx h=>by
 have ha:=aI (F.rb a) (aI k1 h)
 rw[<-h]
 cases o with
 | un op=>exact V8 (H _ ha)
 | tT m=>exact Ev.attr (DS ha hb _ _ _) (H _ ha)
 | fmt=>exact Ev.fmt (H _ ha)
theorem PF{c a b:Ce}(H:iU Γ c σ (λβ τ=>Br β (bK Γ a τ Q E) (bK Γ b τ Q E)) E):bK Γ (.iQ c a b) σ Q E:=λx h=>by
 have h1:=aI (F.rb c) (aI k1 h)
 have h2:=aI (F.rb a) (aI k2 h)
 have h3:=aI (F.rb b) (aI k3 h)
 rw[<-h]
 exact PI (Et.mn (H _ h1) λZ Z q=>⟨λz=>q.1 z _ h2,λz=>q.2 z _ h3⟩)
theorem du{i:Nat}{v:List PV}{t:List (aj×AO)}(G:Good Γ.c F)(hu:nj (eU v i)=false)(h:Q (eU v i) (F.at v t)):bK Γ (.loc i) (F.at v t) Q E:=λx hx=>by
 refine br (hX hx) λy h1 Z h2=>?_
 have l:=G.lo _ _ h1
 have e:(F.at v t).get y=eU v i:=rn l.ix v
 rw[<-h2]
 exact Ev.local G.ok.ton6 l.ok l.lC (λz=>by replace z:=e▸z;replace hu:=z▸hu;cases hu) (by rw[e];exact h)
theorem jF{j:Nat}(G:Good Γ.c F)(h:Q (.val (F.val j)) σ):bK Γ (.gl j) σ Q E:=λx hx=>by
 refine br (pm hx) λy h1 hv h2=>?_
 have g:=G.gl _ _ h1
 rw[<-h2]
 replace h:=hv▸h
 exact Ev.glob G.ok.ton6 g.kind g.lC g.val h
theorem dj{n:Nat}(h:Q (.int (n:Nat)) σ):bK Γ (.nat n) σ Q E:=λx hx=>by rw[<-hx];exact Ev.int h
theorem yI{n:List Nat}(h:Q (.str (ms n)) σ):bK Γ (.str n) σ Q E:=λx hx=>by rw[<-hx];exact Ev.str h
theorem T3(h:Q .none σ):bK Γ .none σ Q E:=λx hx=>by rw[<-hx];exact Ev.none h
theorem s_bool{b:Bool}(h:Q (.bool b) σ):bK Γ (.bool b) σ Q E:=λx hx=>by rw[<-hx];exact Ev.bool h
theorem gz{Q:List PV->AS->Prop}(h:Q [] σ):f7 Γ .nil σ Q E:=λx hx=>by rw[<-hx];exact h
theorem dE{a r:Ce}{Q:List PV->AS->Prop}(H:bK Γ a σ (λx τ=>f7 Γ r τ (λxs τ=>Q (x::xs) τ) E) E):f7 Γ (.cons a r) σ Q E:=λx h=>by
 have ha:=aI (F.rb a) (aI hd h)
 have hr:=aI (F.cf r) (aI tw h)
 rw[<-h]
 exact(H _ ha).mn λZ Z q=>q _ hr
theorem nh{Q:List PV->AS->Prop}(h:Q [] σ):kz Γ .nil σ Q E:=λx hx=>by rw[<-hx];exact h
theorem UH{n:af}{a r:Ce}{Q:List PV->AS->Prop}(H:bK Γ a σ (λx τ=>kz Γ r τ (λxs τ=>Q (x::xs) τ) E) E):kz Γ (.lu n a r) σ Q E:=λx h=>by
 have ha:=aI (λl=>F.rb a (hk l).value) h
 have hr:=aI (F.ni r) (aI tw h)
 rw[<-h]
 exact(H _ ha).mn λZ Z q=>q _ hr
theorem Vw{acc:List Nat}{Q:List Nat->AS->Prop}(h:acc.length<=bN/\Q acc σ):mf Γ .nil acc σ Q E:=λx hx=>by rw[<-hx];exact h
theorem Sb{a r:Ce}{acc:List Nat}{Q:List Nat->AS->Prop}(H:bK Γ a σ (λv τ=>∃l,v = .str (ms l)/\acc.length+l.length<=bN/\mf Γ r (acc++l) τ Q E) E):mf Γ (.cons a r) acc σ Q E:=λx h=>by
 have ha:=aI (F.rb a) (aI hd h)
 have hr:=aI (F.cf r) (aI tw h)
 rw[<-h]
 exact(H _ ha).mn λZ Z q=>let ⟨l,e,z,q⟩:=q;⟨l,e,z,q _ hr⟩
theorem Jc{op:eM}{a:Ce}(H:bK Γ a σ Q E):le Γ op (.cons a .nil) σ Q E:=λx h=>by
 have ha:=aI (F.rb a) (aI hd h)
 rw[<-h]
 exact H _ ha
theorem Hj{op:eM}{a b r:Ce}(H:bK Γ a σ (λv τ=>U1 Γ.c fw eZ v τ (λβ τ=>iM op β (Q v τ) (le Γ op (.cons b r) τ Q E)) E) E):le Γ op (.cons a (.cons b r)) σ Q E:=λx h=>by
 have ha:=aI (F.rb a) (aI hd h)
 have hr:=aI (F.cf (.cons b r)) (aI tw h)
 rw[<-h]
 cases op with
 | Or=>exact iO.or ((H _ ha).mn λv τ q s u I r=>W.mn (q s u I r) λβ τ z=>⟨z.1,λe=>z.2 e _ hr⟩)
 | And=>exact U5 ((H _ ha).mn λv τ q s u I r=>W.mn (q s u I r) λβ τ z=>⟨λe=>z.1 e _ hr,z.2⟩)
theorem PU{op:eM}{Q:Bool->AS->Prop}(h:Q (op==.And) σ):mF Γ op .nil σ Q E:=λx hx=>by rw[<-hx];exact h
theorem TH{op:eM}{a r:Ce}{Q:Bool->AS->Prop}(H:iU Γ a σ (λβ τ=>iM op β (Q (op==.Or) τ) (mF Γ op r τ Q E)) E):mF Γ op (.cons a r) σ Q E:=λx h=>by
 have ha:=aI (F.rb a) (aI hd h)
 have hr:=aI (F.cf r) (aI tw h)
 rw[<-h]
 cases op with
 | Or=>exact iJ.or ((H _ ha).mn λβ τ z=>⟨z.1,λe=>z.2 e _ hr⟩)
 | And=>exact O_ ((H _ ha).mn λβ τ z=>⟨λe=>z.1 e _ hr,z.2⟩)
theorem Gc{op:eM}{l:Ce}(H:le Γ op l σ Q E):bK Γ (.kB op l) σ Q E:=λx h=>by
 have hl:=aI (λe=>F.cf l (eD e).1) h
 rw[<-h]
 exact MN (H _ hl)
theorem U3{op:eM}{l:Ce}{Q:Bool->AS->Prop}(H:mF Γ op l σ Q E):iU Γ (.kB op l) σ Q E:=λx h=>by
 have hl:=aI (λe=>F.cf l (eD e).1) h
 rw[<-h]
 exact NK (H _ hl)
theorem WC{a lo hi:Ce}(H:bK Γ a σ (λx τ=>jH Γ lo τ (λy τ=>jH Γ hi τ (λz τ=>jS Γ.c x y z τ Q E) E) E) E):bK Γ (.cut a lo hi) σ Q E:=λx h=>by
 have h1:=aI (F.rb a) (aI k1 h)
 have h2:=aI (λe=>k1 (k2 e)) h
 have h3:=aI (λe=>k2 (k2 e)) h
 have eo:∀{l:Ce} {y z:aL} {τ:AS} {Q:PV->AS->Prop},(cond l.isNil fW (some (F.rb l y))).getD x0=y->jH Γ l τ Q E->lw Γ.c (cond l.isNil fW (some (F.rb l y))) τ Q E:=λ{l y z τ Q} hy q=>by
  unfold jH at q
  cases hn:l.isNil with
  | true=>replace q:=hn▸q;exact q
  | false=>rw[hn] at q hy;exact q _ (aI (F.rb l) hy)
 have om:∀{o:Option aL} {τ:AS} {Q Q':PV->AS->Prop},lw Γ.c o τ Q E->(∀x σ,Q x σ->Q' x σ)->lw Γ.c o τ Q' E:=λ{o τ Q Q'} z hq=>by
  cases o with
  | none=>exact hq _ _ z
  | some e=>exact Ev.mn z hq
 rw[<-h]
 exact UU ((H _ h1).mn λZ Z q=>om (eo (z:=x) h2 q) λZ Z q=>eo (z:=x) h3 q)
theorem TG{b:Ce}{x:aL}(h:F.rb b x=x)(hb:b.oZ=true)(r:List aL):noStar r->noStar (x::r):=by
 cases b with
 | raw e=>rw[<-h];cases e <;> first | exact λz=>z.cons λZ=>rfl | cases hb
 | call f as ks=>exact(ik h (.inr rfl)).n r
 | _=>exact(ik h (.inl rfl)).n r
theorem me:∀(n:Nat) (e:Ce),Ce.nt n e=true->∀x,F.cf e x=x->noStar x/\x.length<=n:=by
 have z:∀{n} {x:List aL},[]=x->noStar x/\x.length<=n:=λh=>h▸⟨λZ=>rfl,cQ _⟩
 intro n
 induction n with
 | zero=>
  intro e hf x h
  cases e with
  | cons a r=>exact nomatch hf
  | _=>exact z h
 | succ n ih=>
  intro e hf x h
  cases e with
  | cons a r=>
   have hf:cond a.oZ (Ce.nt n r) false=true:=hf
   have f1:a.oZ=true:=by cases q:a.oZ;replace hf:=q▸hf;cases hf;rfl
   refine aN (ih r (by replace hf:=f1▸hf;exact hf) _ (aI (λl=>F.cf r l.tail) h)) λi1 i2=>?_
   exact h▸⟨TG (aI (λl=>F.rb a (hd l)) h) f1 _ i1,jo i2⟩
  | _=>exact z h
theorem qW{b:Ce}{x:aL}(h:F.rb b x=x)(hb:b.isNm=true):∃y p,x = .Name y p:=by
 cases b with
 | loc i=>refine br (hX h) λy Z Z h=>?_;exact(jW _ _ h.symm)
 | gl i=>refine br (pm h) λy Z Z h=>?_;exact(jW _ _ h.symm)
 | _=>cases hb
theorem Nz:∀(e:Ce) (x:List gV),F.ni e x=x->mA x=true/\iz x=n7 e:=by
 intro e
 induction e with
 | lu n a r _ ih=>
  intro x h
  refine aN (ih _ (aI (F.ni r) (aI tw h))) λi1 i2=>?_
  rw[<-h]
  exact⟨i1,aI (n::·) i2⟩
 | _=>intro x h;rw[<-h];exact⟨rfl,rfl⟩
theorem rT{X:Type}{ρ:am->X->ag->Prop}{c:FC}{Q:X->AS->Prop}{f:aL}{as:List aL}{ks:List gV}{p:aT}{ns:List af}(hf:∃y p,f = .Name y p)(hn:noStar as)(hk:mA ks=true/\iz ks=ns)
  (h:Ev c f σ (λf τ=>b7 c as τ (λxs τ=>b7 c (ks.map (·.value)) τ (λkxs τ=>cL c ρ f xs ns kxs τ Q E) E) E) E):k9 c ρ (.Call f as ks p) σ Q E:=by
 refine dV hf λy q j1=>?_;clear hf;subst j1
 replace h:=(bR hk.2:_)▸h
 exact k9.call hn hk.1 h
theorem s_call{f as ks:Ce}(hf:f.isNm=true)(ha:as.nt 9=true)(H:bK Γ f σ (λf τ=>f7 Γ as τ (λxs τ=>kz Γ ks τ (λkxs τ=>aM Γ.c f xs (n7 ks) kxs τ Q E) E) E) E):bK Γ (.call f as ks) σ Q E:=λx h=>by
 have h1:=aI (λe=>F.rb f (k1 e)) h
 have h2:=aI (λe=>F.cf as (eD e).1.tail) h
 have h3:=aI (λe=>F.ni ks (eD e).2.2) h
 rw[<-h]
 exact rT (qW h1 hf) (me 9 as ha _ h2).1 (Nz ks _ h3) ((H _ h1).mn λZ Z q=>(q _ h2).mn λZ Z q=>q _ h3)
theorem QK{o as:Ce}{m:af}(ho:o.odd=false)(ha:as.jd=true)(H:bK Γ o σ (λx τ=>dF Γ.c x m τ (u3 Γ as ⟨Q,λZ Z=>False,λZ Z=>False,λZ Z=>False,E⟩) E) E):bK Γ (.g_ o m as) σ Q E:=λx h=>by
 have h1:=aI (λe=>F.rb o (k1 (k1 e))) h
 have h2:=aI (λe=>F.cf as (eD e).1.tail) h
 refine aN (me 4 as ha _ h2) λn1 n2=>?_
 rw[<-h]
 refine Ev.g_ (DS h1 ho _ _ _) n1 rfl (bL (jo (show(F.cf as (eD x).1.tail).length<=4 from n2)) (by decide)) (beq_self_eq_true _) ((H _ h1).mn λZ Z q s ov pl I r=>?_)
 exact bn (q s ov pl I r) (λZ Z p=>by
  cases p with | mk f fs σ' a1 a2 a3 a4 a5=>exact⟨f,fs,σ',a1,a2,a3,a4,(a5 _ h2).mn λZ Z z=>z⟩) λZ Z z=>z
theorem vd{l:Ce}(ha:l.jd=true)(H:f7 Γ l σ (λxs τ=>Q (.tup xs) τ) E):bK Γ (.tup l) σ Q E:=λx h=>by
 have h2:=aI (λe=>F.cf l (eD e).1) h
 refine aN (me 4 l ha _ h2) λn1 n2=>?_
 rw[<-h]
 exact Pn n1 (aJ n2 (by decide)) (H _ h2)
theorem yR{l:Ce}(ha:l.jd=true)(H:f7 Γ l σ (λxs τ=>∀a,(∀ao,(a,ao)∉τ.st)->Q (.val (.ref a)) {τ with st:=(a,.lst xs)::τ.st}) E):bK Γ (.lst l) σ Q E:=λx h=>by
 have h2:=aI (λe=>F.cf l (eD e).1) h
 refine aN (me 4 l ha _ h2) λn1 n2=>?_
 rw[<-h]
 exact Ev.list n1 (aJ n2 (by decide)) (H _ h2)
theorem Un{a b r:Ce}(H:mf Γ (.cons a (.cons b r)) [] σ (λl τ=>Q (.str (ms l)) τ) E):bK Γ (.fst a b r) σ Q E:=λx h=>by
 have h2:=aI (λe=>F.cf (.cons a (.cons b r)) (eD e).1) h
 rw[<-h]
 exact Oz (H _ h2)
theorem HJ{op:qp}{a b:Ce}{Q:Bool->AS->Prop}(hb:b.odd=false)(H:bK Γ a σ (λx τ=>bK Γ b τ (λy τ=>U2 Γ.c RV (ce op) x y τ (λz τ=>U1 Γ.c fw eZ z τ Q E) E) E) E):iU Γ (.o2 (.cmp op) a b) σ Q E:=λx h=>by
 have ha:=aI (F.rb a) (aI k1 h)
 have hb':=aI (F.rb b) (aI k2 h)
 rw[<-h];exact Fs ((ik hb' (.inl hb)).m op) ((H _ ha).mn λZ Z q=>q _ hb')
theorem Pp{a:Ce}{Q:Bool->AS->Prop}(H:iU Γ a σ (λβ τ=>Q (!β) τ) E):iU Γ (.o1 (.un .Not) a) σ Q E:=λx h=>by
 have ha:=aI (F.rb a) (aI k1 h)
 rw[<-h];exact Et.not (H _ ha)
theorem Sy{e:aL}{Q:Bool->AS->Prop}(H:Et Γ.c e σ Q E):iU Γ (.raw e) σ Q E:=λx h=>h▸H
theorem se{e:Ce}{Q:Bool->AS->Prop}(hp:∀x,F.rb e x=x->∀whole,sR x Γ.c.env whole=(do let v <-whole;iF x.pos;holding [v] (eZ v)))(H:bK Γ e σ (λx τ=>U1 Γ.c fw eZ x τ Q E) E):iU Γ e σ Q E:=λx h=>Et.plain (hp x h) (H x h)
variable {d:Dn}{r:Cs}{l:List bA}
theorem Ex.mn{c:FC}{st:bA}{Q Q':bO->AS->Prop}(h:Ex c st σ Q E)(hq:∀x σ,Q x σ->Q' x σ):Ex c st σ Q' E:=λs I=>
 bn (h s I) (λZ Z p=>p.elim λx σ I r q=>⟨x,σ,I,r,hq _ _ q⟩) λZ Z z=>z
theorem dC.mn{c:FC}{st:List bA}{Q Q':bO->AS->Prop}{E':aG->AS->Prop}(h:dC c st σ Q E)(hq:∀x σ,Q x σ->Q' x σ)(he:∀x σ,E x σ->E' x σ):dC c st σ Q' E':=λs I=>
 bn (h s I) (λZ Z p=>p.elim λx σ I r q=>⟨x,σ,I,r,hq _ _ q⟩) λZ Z p=>p.elim λe x σ a b d q=>⟨e,x,σ,a,b,d,he _ _ q⟩
theorem gA{st:bA}(h:st::F.bw r l.tail=l)(H:Ex Γ.c st σ (dk Γ r d) d.x):dC Γ.c l σ d.f d.x:=by
 have hr:=aI (λl=>F.bw r l.tail) h
 rw[<-h]
 exact dC.cons (H.mn λf τ q=>by cases f <;> first | exact q | exact q _ hr)
theorem UY(H:d.f .next σ):bl Γ .fin σ d.f d.x:=λl h=>by rw[<-h];exact dC.nil H
theorem CM{i:Nat}{e:Ce}(G:Good Γ.c F)(he:e.odd=false\/e.isCall=true)(H:bK Γ e σ (λv τ=>F.has i->dk Γ r d .next (τ.set (F.name i) v)) d.x):bl Γ (.asg i e r) σ d.f d.x:=λl h=>by
 have hx:=aI (λl=>F.rb e (hD l).e) h
 refine br (hX (aI (λl=>F.b6 i (hD l).t) h)) λy h1 h2 h3=>?_
 refine gA h ?_
 have h3:td y (F.b6 i (hD l).t).pos=F.b6 i (hD l).t:=h3
 rw[<-h3]
 have H:=(H _ hx).mn λZ Z q=>q (by unfold Fn.has;rw[h1,h2]:F.has i)
 replace H:=h2▸H
 exact Ex.assign G.ok ((ik hx he).w _ _ _) (G.lo _ _ h1).ok H
theorem SZ{i:Nat}{op:sS}{e:Ce}{v:List PV}{t:List (aj×AO)}(G:Good Γ.c F)(hu:nj (eU v i)=false)(H:bK Γ e (F.at v t) (λy τ=>U2 Γ.c RV (oG op) (eU v i) y τ (λz τ=>F.has i->dk Γ r d .next (τ.set (F.name i) z)) d.x) d.x):bl Γ (.aug i op e r) (F.at v t) d.f d.x:=λl h=>by
 have hx:=aI (λl=>F.rb e (hD l).e) h
 refine br (hX (aI (λl=>F.b6 i (hD l).t) h)) λy h1 h2 h3=>?_
 refine gA h ?_
 have h3:td y (F.b6 i (hD l).t).pos=F.b6 i (hD l).t:=h3
 rw[<-h3]
 have lo:=G.lo _ _ h1
 have e:(F.at v t).get y=eU v i:=rn lo.ix v
 have H:=(H _ hx).mn (Q':=λy τ=>U2 Γ.c RV (oG op) (eU v i) y τ (λz τ=>dk Γ r d .next (τ.set (F.name i) z)) d.x) λZ Z q s u v I a b=>W.mn (q s u v I a b) λZ Z q=>q (by unfold Fn.has;rw[h1,h2]:F.has i)
 replace H:=(bR e:_)▸h2▸H
 exact Ex.aug G.ok lo.ok (λz=>by replace hu:=z▸(bR e:_)▸hu;cases hu) H
theorem R1{e:Ce}(G:Good Γ.c F)(he:e.odd=false\/e.isCall=true)(H:bK Γ e σ (λv τ=>dk Γ r d .next τ) d.x):bl Γ (.exp e r) σ d.f d.x:=λl h=>by
 have hx:=aI (λl=>F.rb e (hD l).e) h
 exact gA h (TC (by unfold interactive;rw[show Γ.c.env.scope.kind = .function from G.ok.kind];rfl) ((ik hx he).w _ _ _) (H _ hx))
theorem WT{e:Ce}(H:bK Γ e σ (λv τ=>d.f (.ret v) τ) d.x):bl Γ (.ret e r) σ d.f d.x:=λl h=>
 gA h (Ex.ret (H _ (aI (λl=>F.rb e (hD l).e) h)))
theorem Jp{t:Ce}{a b:Cs}(H:iU Γ t σ (λβ τ=>Br β (bl Γ a τ (dk Γ r d) d.x) (bl Γ b τ (dk Γ r d) d.x)) d.x):bl Γ (.ite t a b r) σ d.f d.x:=λl h=>by
 have h1:=aI (λl=>F.rb t (hD l).e) h
 have h2:=aI (λl=>F.bw a (hD l).a) h
 have h3:=aI (λl=>F.bw b (hD l).b) h
 exact gA h (Ex.if ((H _ h1).mn λZ Z q=>⟨λz=>q.1 z _ h2,λz=>q.2 z _ h3⟩))
theorem S6{t:Ce}{b:Cs}(H:po Γ t b σ {d with f:=dk Γ r d}):bl Γ (.qY t b r) σ d.f d.x:=λl h=>
 gA h (H _ _ _ (aI (λl=>F.rb t (hD l).e) h) (aI (λl=>F.bw b (hD l).a) h))
theorem Ra{is:List Nat}{t:Ce}{b:Cs}(H:pn Γ is t b σ {d with f:=dk Γ r d}):bl Γ (.for is t b r) σ d.f d.x:=λl h=>
 gA h (H _ _ _ _ (aI (λl=>F.cG is (hD l).t) h) (aI (λl=>F.rb t (hD l).e) h) (aI (λl=>F.bw b (hD l).a) h))
theorem Se(H:dk Γ r d .next σ):bl Γ (.pass r) σ d.f d.x:=λl h=>gA h (Ex.pass H)
theorem Vr(H:d.f .brk σ):bl Γ (.brk r) σ d.f d.x:=λl h=>gA h (Ex.brk H)
theorem Ou(H:d.f .cont σ):bl Γ (.cont r) σ d.f d.x:=λl h=>gA h (Ex.cont H)
theorem yL{s:bA}(H:Ex Γ.c s σ (dk Γ r d) d.x):bl Γ (.raw s r) σ d.f d.x:=λl h=>gA h H
theorem R_{x:Nat}{b h e:Cs}(G:Good Γ.c F)(hf:h.rJ=false)(H:bl Γ b σ (dk Γ e {d with f:=dk Γ r d}) (λy τ=>tM Γ x h y τ {d with f:=dk Γ r d})):bl Γ (.try b x h e r) σ d.f d.x:=λl hl=>by
 have h1:=aI (λl=>F.bw b (hD l).a) hl
 have h2:=aI (λl=>F.bw h (hD l).h) hl
 have h3:=aI (λl=>F.bw e (hD l).b) hl
 exact gA hl (Ex.try G.ok ((H _ h1).mn (λf τ q=>by cases f <;> first | exact q | exact q _ h3) λy τ q=>q _ _ _ h2))
theorem uZ{c:FC}(G:Good c F):∀(is:List Nat) (es:List aL),F.ps is es=es->∃ps:List (af×aT),es=ps.map (λp=>.Name p.1 p.2)/\ps.map (·.1)=is.map F.name/\(∀p∈ps,kE c p.1)/\∀i∈is,F.has i
 | [],es,h=>(jE [] h.symm rfl (λZ h=>nomatch h) (λZ h=>nomatch h))
 | i::is,es,h=>by
  refine br (hX (aI (λl=>F.b6 i (hd l)) h)) λy h1 h2 h3=>?_
  refine mh (uZ G is _ (aI (λl=>F.ps is l.tail) h)) λps e1 e2 e3 e4=>?_
  refine(jE ((y,(hd (F.ps (i::is) es)).pos)::ps) ?_ ?_ (λp hp=>?_) (λj hj=>?_))
  .have z:=congr (aI Z4 h3.symm) e1
   exact h.symm.trans z
  .exact congr (aI Z4 h2.symm) e2
  .rcases cB.mp hp with rfl | hp
   .exact(G.lo _ _ h1).ok
   .exact e3 p hp
  .rcases cB.mp hj with rfl | hj
   .unfold Fn.has;rw[h1,h2]
   .exact e4 j hj
theorem MA{e:Ce}{x:aL}(h:F.rb e x=x)(he:e.nv=true){ts:List aL}{k:Nat}{p:aT}{env:bB}:qC [.Tuple ts k p] x env=pure none:=by
 cases e with
 | loc i=>refine br (hX h) λy Z Z h=>?_;rw[<-h];rfl
 | gl i=>refine br (pm h) λy Z Z h=>?_;rw[<-h];rfl
 | o2 o a b=>
  cases o with
  | aug _=>exact(qN h).elim
  | _=>rw[<-h];rfl
 | o1 o a=>rw[<-h];cases o <;> rfl
 | raw e=>cases he
 | tup e=>cases he
 | _=>rw[<-h];rfl
theorem To{is:List Nat}{e:Ce}(G:Good Γ.c F)(hh:Γ.c.A.handled=none)(hs:∀x,F.rb e x=x->∀t n,lW x t n Γ.c.env=pure false)(hw:∀x ts k p,F.rb e x=x->ts.map UO=is.map (λi=>some (F.name i))->qC [.Tuple ts k p] x Γ.c.env=pure none)
  (H:bK Γ e σ (λv τ=>(∀i∈is,F.has i)->∃xs,v = .tup xs/\xs.length=is.length/\g9 (is.map F.name) xs (dk Γ r d .next) τ) d.x):bl Γ (.eE is e r) σ d.f d.x:=λl h=>by
 have hx:=aI (λl=>F.rb e (hD l).e) h
 have ht:=aI (λl=>F.ps is (eD (hD l).t).1) h
 refine mh (uZ G is _ ht) λps e1 e2 e3 e4=>?_
 refine gA h ?_
 unfold Fn.tup
 have e1:F.ps is (eD (hD l).t).1=ps.map (λp=>.Name p.1 p.2):=e1
 rw[e1]
 have H:=(H _ hx).mn (Q':=λv τ=>∃xs,v = .tup xs/\kD Γ.c τ xs/\xs.length=ps.length/\g9 (ps.map (·.1)) xs (dk Γ r d .next) τ) λv τ q=>let ⟨xs,a1,a2,a3⟩:=q e4;⟨xs,a1,.ok hh,a2.trans (by have:=aI gR e2;simpa using this.symm),by rw[e2];exact a3⟩
 have hsw:∀t n,lW (F.rb e (hD l).e) (some t) n Γ.c.env=pure false:=λt n=>hs _ hx _ _
 refine Ex.mn (Jr (N:=dk Γ r d .next) (Qf:=d.f) G.ok e3 (hsw (.Tuple (ps.map λp=>.Name p.1 p.2) (eD (hD l).t).2.1 (hD l).t.pos) (Internal.hs l).pos.line) (hw _ _ _ _ hx (by have:=aI (Aw some) e2;replace this:=fg▸fg▸this;rw[fg];exact this)) H) λf τ q=>by cases f <;> exact q
theorem Q1{is:List Nat}{e:Ce}(G:Good Γ.c F)(hh:Γ.c.A.handled=none)(he:e.nv=true)(ho:e.odd=false\/e.isCall=true)(H:bK Γ e σ (λv τ=>(∀i∈is,F.has i)->∃xs,v = .tup xs/\xs.length=is.length/\g9 (is.map F.name) xs (dk Γ r d .next) τ) d.x):bl Γ (.eE is e r) σ d.f d.x:=
 To G hh (λx hx t n=>(ik hx ho).w t n _) (λx ts k p hx Z=>MA hx he) H
theorem Ex.lt{c:FC}{e:aL}{q:Option aL}{pos:aT}{C:aj}{Q:bO->AS->Prop}(K:c.Ok)(H:f8 c)(hC:gC c.b0 C)(hq:q=none\/∃k p,q=some (.Constant .none k p))
  (h:k9 c (fD c) e σ (λx aq=>x.cls = .ref C/\E x aq) E):Ex c (.Raise (some e) q pos) σ Q E:=λs I=>by
 rw[arm_exec_Raise]
 refine ah (d9 ?_)
 have hv:au (av aF c.w) c.A (do let v <-eval e c.env;iF pos;pure v) (λv s'=>∃x σ',In c σ' s'/\fD c s'.heap x v/\x.cls = .ref C/\E x σ') (EPost c E) s:=ah (bH (h s I) λv s' x σ' I' r Z q=>ah (d9 (aE (fi x σ' I' r q.1 q.2))))
 rcases hq with rfl | ⟨k,p,rfl⟩
 .exact Fh (cause:=none) K H hC (.inl rfl) hv
 .exact Fh (cause:=some (do let v <-(pure .none:bf ag);iF pos;pure v)) K H hC (.inr (aw _ rfl (λs Q q=>ah (aE (ah (d9 (aE q))))))) hv
theorem OW{nn:Bool}{f as:Ce}(G:Good Γ.c F)(hf:f.isNm=true)(ha:as.jd=true)(H:bK Γ f σ (λf τ=>f7 Γ as τ (λxs τ=>cL Γ.c (fD Γ.c) f xs [] [] τ (λx τ=>x.cls = .ref 364/\d.x x τ) d.x) d.x) d.x):bl Γ (.lt nn f as r) σ d.f d.x:=λl h=>by
 have h1:=aI (λl=>F.rb f (k1 (hD l).e)) h
 have h2:=aI (λl=>F.cf as (eD (hD l).e).1.tail) h
 exact gA h (Ex.lt G.ok G.H G.hC (by cases nn;exact .inl rfl;exact .inr (jW _ _ rfl)) (rT (qW h1 hf) (me 4 as ha _ h2).1 ⟨rfl,rfl⟩ ((H _ h1).mn λZ Z q=>q _ h2)))
end
end
section
theorem cF{b:Bool}{P:Prop}(h:cond b False P):b=false/\P:=by cases b;exact⟨rfl,h⟩;exact h.elim
theorem cT{b:Bool}{P:Prop}(h:cond b P False):b=true/\P:=by cases b;exact h.elim;exact⟨rfl,h⟩
theorem cC{a b:Bool}{P:Prop}(h:cond a (cond b P False) P):(a=false\/b=true)/\P:=by
 cases a;exact⟨.inl rfl,h⟩;exact⟨.inr (cT h).1,(cT h).2⟩
structure So{F:Fn}(Γ:Gm F)(n:Nat):Prop where
 e:∀{x v t k},vE Γ n x v t k->bK Γ x (F.at v t) (D Γ k).e (D Γ k).x
 t:∀{x v t k},vT Γ n x v t k->iU Γ x (F.at v t) (D Γ k).b (D Γ k).x
 l:∀{x v t k},vL Γ n x v t k->f7 Γ x (F.at v t) (D Γ k).l (D Γ k).x
 k:∀{x v t k},vK Γ n x v t k->kz Γ x (F.at v t) (D Γ k).l (D Γ k).x
 o:∀{x v t k},vO Γ n x v t k->jH Γ x (F.at v t) (D Γ k).e (D Γ k).x
 b:∀{op x v t k},vB Γ n op x v t k->le Γ op x (F.at v t) (D Γ k).e (D Γ k).x
 a:∀{op x v t k},vA Γ n op x v t k->mF Γ op x (F.at v t) (D Γ k).b (D Γ k).x
 j:∀{x acc v t k},vJ Γ n x acc v t k->mf Γ x acc (F.at v t) (λl τ=>(D Γ k).e (.str (ms l)) τ) (D Γ k).x
 x:∀{xs v t k},vX Γ n xs v t k->(D Γ k).l xs (F.at v t)
 y:∀{b v t k},vY Γ n b v t k->(D Γ k).b b (F.at v t)
 v:∀{x v t k},vV Γ n x v t k->(D Γ k).e x (F.at v t)
 f:∀{f v t k},vF Γ n f v t k->(D Γ k).f f (F.at v t)
 s:∀{b v t k},vS Γ n b v t k->bl Γ b (F.at v t) (D Γ k).f (D Γ k).x
section
variable {F:Fn}{Γ:Gm F}{n:Nat}{v:List PV}{t:List (aj×AO)}{k:Kt}
theorem So.zero:So Γ 0:=⟨id,id,id,id,id,id,id,id,id,id,id,id,id⟩
theorem Vs(G:Good Γ.c F)(S:So Γ n){x:Ce}(h:vE Γ (n+1) x v t k):bK Γ x (F.at v t) (D Γ k).e (D Γ k).x:=by
 cases x with
 | loc i=>exact du G (cF h).1 (S.v (cF h).2)
 | gl j=>exact jF G (S.v h)
 | nat m=>exact dj (S.v h)
 | str l=>exact yI (S.v h)
 | none=>exact T3 (S.v h)
 | bool b=>exact s_bool (S.v h)
 | o2 o a b=>exact gk (cF h).1 (S.e (cF h).2)
 | o1 o a=>exact Ag (cF h).1 (S.e (cF h).2)
 | kB op l=>exact Gc (S.b h)
 | iQ c a b=>exact PF (S.t h)
 | cut a lo hi=>exact WC (S.e h)
 | call f as ks=>exact s_call (cT h).1 (cT (cT h).2).1 (S.e (cT (cT h).2).2)
 | g_ o m as=>
  have:=S.e (cT (cF h).2).2
  exact QK (cF h).1 (cT (cF h).2).1 this
 | tup l=>exact vd (cT h).1 (S.l (cT h).2)
 | lst l=>exact yR (cT h).1 (S.l (cT h).2)
 | fst a b r=>exact Un (S.j h)
 | raw e=>exact λx hx=>hx▸h
 | nil=>exact h.elim
 | cons a r=>exact h.elim
 | lu m a r=>exact h.elim
theorem Nn(G:Good Γ.c F)(S:So Γ n){x:Ce}(h:vT Γ (n+1) x v t k):iU Γ x (F.at v t) (D Γ k).b (D Γ k).x:=by
 cases x with
 | loc i=>exact se (λx hx w=>by refine br (hX hx) λy Z Z e=>?_;rw[<-e];rfl) (S.e h)
 | gl i=>exact se (λx hx w=>by refine br (pm hx) λy Z Z e=>?_;rw[<-e];rfl) (S.e h)
 | bool b=>exact se (λx hx w=>by rw[<-hx];rfl) (S.e h)
 | call f as ks=>exact se (λx hx w=>by rw[<-hx];rfl) (S.e h)
 | g_ f as ks=>exact se (λx hx w=>by rw[<-hx];rfl) (S.e h)
 | kB op l=>exact U3 (S.a h)
 | raw e=>exact Sy h
 | o2 o a b=>
  cases o with
  | cmp op=>exact HJ (cF h).1 (S.e (cF h).2)
  | _=>exact h.elim
 | o1 o a=>
  cases o with
  | un op=>
   cases op with
   | Not=>exact Pp (S.t h)
   | _=>exact h.elim
  | _=>exact h.elim
 | _=>exact h.elim
theorem OS(S:So Γ n){x:Ce}(h:vL Γ (n+1) x v t k):f7 Γ x (F.at v t) (D Γ k).l (D Γ k).x:=by
 cases x with
 | nil=>exact gz (S.x h)
 | cons a r=>exact dE (S.e h)
 | _=>exact h.elim
theorem Tl(S:So Γ n){x:Ce}(h:vK Γ (n+1) x v t k):kz Γ x (F.at v t) (D Γ k).l (D Γ k).x:=by
 cases x with
 | nil=>exact nh (S.x h)
 | lu m a r=>exact UH (S.e h)
 | _=>exact h.elim
theorem Vh(S:So Γ n){x:Ce}(h:vO Γ (n+1) x v t k):jH Γ x (F.at v t) (D Γ k).e (D Γ k).x:=by
 have h:cond x.isNil (vV Γ n .none v t k) (vE Γ n x v t k):=h
 unfold jH
 cases q:x.isNil with
 | true=>replace h:=q▸h;exact S.v h
 | false=>replace h:=q▸h;exact S.e h
theorem My(S:So Γ n){op:eM}{x:Ce}(h:vB Γ (n+1) op x v t k):le Γ op x (F.at v t) (D Γ k).e (D Γ k).x:=by
 cases x with
 | cons a r=>
  cases r with
  | nil=>exact Jc (S.e h)
  | cons b r=>exact Hj (S.e h)
  | _=>exact h.elim
 | _=>exact h.elim
theorem PH(S:So Γ n){op:eM}{x:Ce}(h:vA Γ (n+1) op x v t k):mF Γ op x (F.at v t) (D Γ k).b (D Γ k).x:=by
 cases x with
 | nil=>exact PU (S.y h)
 | cons a r=>exact TH (S.t h)
 | _=>exact h.elim
theorem SP(S:So Γ n){x:Ce}{acc:List Nat}(h:vJ Γ (n+1) x acc v t k):mf Γ x acc (F.at v t) (λl τ=>(D Γ k).e (.str (ms l)) τ) (D Γ k).x:=by
 cases x with
 | nil=>exact Vw ⟨h.1,S.v h.2⟩
 | cons a r=>exact Sb (S.e h)
 | _=>exact h.elim
theorem O9(S:So Γ n){xs:List PV}(h:vX Γ (n+1) xs v t k):(D Γ k).l xs (F.at v t):=by
 cases k with
 | tup k=>exact S.v h
 | lst k=>exact λa ha=>S.v (h a ha)
 | got x k=>exact S.x (k:=k) (xs:=x::xs) h
 | qM f ks k=>exact S.k h
 | sh f ys ns k=>exact h
 | qV f fs k=>exact h
 | rR f k=>exact h
 | _=>exact h.elim
theorem Br.mn{b:Bool}{P Q P' Q':Prop}(h:Br b P Q)(p:P->P')(q:Q->Q'):Br b P' Q':=⟨λe=>p (h.1 e),λe=>q (h.2 e)⟩
theorem iM.mn{op:eM}{b:Bool}{P Q P' Q':Prop}(h:iM op b P Q)(p:P->P')(q:Q->Q'):iM op b P' Q':=by
 cases op
 .exact Br.mn h q p
 .exact Br.mn h p q
theorem Q9(S:So Γ n){b:Bool}(h:vY Γ (n+1) b v t k):(D Γ k).b b (F.at v t):=by
 cases k with
 | ite p q k=>exact Br.mn h S.s S.s
 | ss p k=>exact Br.mn h S.s S.f
 | not k=>exact S.y (k:=k) (b:=!b) h
 | rc op r k=>exact iM.mn h S.y S.a
 | iQ p q k=>exact Br.mn h S.e S.e
 | rE op x r k=>exact iM.mn h S.v S.b
 | _=>exact h.elim
theorem OP{ns:List af}{x:af}{i:Nat}(h:Ix ns x i):∀{v v':List PV} {y:PV},g8 v i y=some v'->qJ v i y v':=by
 induction h with
 | zero=>
  intro v v' y e
  cases v with
  | nil=>cases e
  | cons a r=>cases e;exact .zero
 | succ _ _ ih=>
  intro v v' y e
  cases v with
  | nil=>cases e
  | cons a r=>
   refine aC (LR.mp e) λr' e1 j1=>?_;subst j1
   exact .succ (ih e1)
theorem lz(G:Good Γ.c F){i:Nat}{v':List PV}{y:PV}(hi:F.has i)(h:g8 v i y=some v'):(F.at v t).set (F.name i) y=F.at v' t:=by
 unfold Fn.at Internal.mk AS.set
 rw[ND (G.lo _ _ hi).ix (OP (G.lo _ _ hi).ix h)]
theorem vm(G:Good Γ.c F){N:AS->Prop}:∀{is:List Nat} {xs:List PV} {v v':List PV},(∀i∈is,F.has i)->pK v is xs=some v'->N (F.at v' t)->xs.length=is.length/\g9 (is.map F.name) xs N (F.at v t)
 | [],[],v,v',_,h,hN=>by cases h;exact⟨rfl,hN⟩
 | i::is,x::xs,v,v',hi,h,hN=>by
  refine aC (BN.mp h) λw h1 h2=>?_
  refine aN (vm G (λj hj=>hi j (.tail _ hj)) h2 hN) λl1 l2=>?_
  refine⟨aI jm l1,?_⟩
  show g9 (is.map F.name) xs N ((F.at v t).set (F.name i) x)
  rw[lz G (hi i (.head _)) h1]
  exact l2
 | [],_::_,_,_,_,h,_=>nomatch h
 | _::_,[],_,_,_,h,_=>nomatch h
theorem Vu(G:Good Γ.c F)(S:So Γ n){x:PV}(h:vV Γ (n+1) x v t k):(D Γ k).e x (F.at v t):=by
 cases k with
 | asg i k=>
  have h:match g8 v i x with | some v'=>vF Γ n .next v' t k | none=>False:=h
  intro hi
  cases q:g8 v i x with
  | none=>replace h:=q▸h;exact h.elim
  | some v'=>
   replace h:=q▸h
   rw[lz G hi q]
   exact S.f h
 | eE is k=>
  intro hi
  cases x with
  | tup xs=>
   have h:match pK v is xs with | some v'=>vF Γ n .next v' t k | none=>False:=h
   cases q:pK v is xs with
   | none=>replace h:=q▸h;exact h.elim
   | some v'=>
    replace h:=q▸h
    exact(aw xs rfl (vm G hi q (S.f h)))
  | _=>
   exact h hi
 | ret k=>exact S.f (show vF Γ n (.ret x) v t k from h)
 | pop k=>exact S.f (show vF Γ n .next v t k from h)
 | o2 o b k=>exact S.e h
 | qZ lo hi k=>exact S.o h
 | sm y hi k=>exact S.o h
 | sq as ks k=>exact S.l h
 | rz as k=>exact S.l h
 | fj r acc k=>
  refine br (h:∃l,x = .str (ms l)/\acc.length+l.length<=bN/\vJ Γ n r (acc++l) v t k) λl e z q=>?_
  exact(bh l e z (S.j q))
 | arg r k=>exact S.l (show vL Γ n r v t (.got x k) from h)
 | rh r k=>exact S.k (show vK Γ n r v t (.got x k) from h)
 | pO o y k=>exact h
 | o1 o k=>exact h
 | q9 y z k=>exact h
 | met m as k=>exact h
 | bv op r k=>exact h
 | ky k=>exact h
 | _=>exact h.elim
theorem QB(S:So Γ n){f:bO}(h:vF Γ (n+1) f v t k):(D Γ k).f f (F.at v t):=by
 cases k with
 | top=>exact h
 | seq r k=>
  cases f with
  | next=>exact S.s h
  | _=>exact S.f (k:=k) h
 | pS x h' r k=>
  cases f with
  | next=>exact S.s h
  | _=>exact S.f (k:=k) h
 | _=>exact h.elim
theorem Uq(G:Good Γ.c F)(S:So Γ n){b:Cs}(h:vS Γ (n+1) b v t k):bl Γ b (F.at v t) (D Γ k).f (D Γ k).x:=by
 cases b with
 | fin=>exact UY (S.f h)
 | asg i e r=>exact CM G (cC h).1 (S.e (cC h).2)
 | aug i op e r=>exact SZ G (cF h).1 (S.e (cF h).2)
 | exp e r=>exact R1 G (cC h).1 (S.e (cC h).2)
 | ret e r=>exact WT (S.e h)
 | lt nn f as r=>exact OW G (cT h).1 (cT (cT h).2).1 (S.e (cT (cT h).2).2)
 | ite c p q r=>exact Jp (S.t h)
 | qY c p r=>exact S6 h
 | «for» is e p r=>exact Ra h
 | «try» p x h' e r=>exact R_ G (cF h).1 (S.s (cF h).2)
 | pass r=>exact Se (S.s h)
 | brk r=>exact Vr (S.f h)
 | cont r=>exact Ou (S.f h)
 | raw s r=>exact h
 | mark r=>exact h
 | eE is e r=>
  cases q:e.nv with
  | true=>
   have h:cond e.nv (Γ.c.A.handled=none/\vE Γ n e v t (.eE is (.seq r k))) _:=h
   replace h:=q▸h
   exact Q1 G h.1 q (by cases e <;> first | exact .inl rfl | exact .inr rfl | cases q) (S.e h.2)
  | false=>
   have h:cond e.nv _ (bl Γ (.eE is e r) (F.at v t) (D Γ k).f (D Γ k).x):=h
   replace h:=q▸h
   exact h
theorem so(G:Good Γ.c F):∀n,So Γ n
 | 0=>.zero
 | n+1=>have S:=so G n;⟨Vs G S,Nn G S,OS S,Tl S,Vh S,My S,PH S,SP S,O9 S,Q9 S,Vu G S,QB S,Uq G S⟩
end
end
section
def d6(c:FC)(τ τ':AS):Prop:=∀s,In c τ s->In c τ' s
theorem d6.refl{c:FC}{τ:AS}:d6 c τ τ:=λZ I=>I
structure e_{F:Fn}(Γ:Gm F)(σ:AS)(Q:PV->AS->Prop)(E:aG->AS->Prop):Prop where
 ret:∀{x v t},Q x {σ with st:=t}->Γ.R (.ret x) (F.at v t)
 dW:∀{v t},Q .none {σ with st:=t}->Γ.R .next (F.at v t)
 exc:∀{x v t},E x {σ with st:=t}->Γ.E x (F.at v t)
structure f0{F:Fn}(Γ':Gm F)(d:Dn)(I:List PV->List (aj×AO)->Prop):Prop where
 dW:∀{v t} (v' t'),d6 Γ'.c (F.at v t) (F.at v' t')->I v' t'->Γ'.R .next (F.at v t)
 cnt:∀{v t} (v' t'),d6 Γ'.c (F.at v t) (F.at v' t')->I v' t'->Γ'.R .cont (F.at v t)
 brk:∀{v t},d.f .next (F.at v t)->Γ'.R .brk (F.at v t)
 ret:∀{x v t},d.f (.ret x) (F.at v t)->Γ'.R (.ret x) (F.at v t)
 exc:∀{x v t},d.x x (F.at v t)->Γ'.E x (F.at v t)
structure nr{F:Fn}(Γ':Gm F)(d:Dn):Prop where
 f:∀{f v t},d.f f (F.at v t)->Γ'.R f (F.at v t)
 exc:∀{x v t},d.x x (F.at v t)->Γ'.E x (F.at v t)
noncomputable def Hf(F:Fn)(c:FC)(I:List PV->List (aj×AO)->Prop)(d:Dn):bO->AS->Prop
 | .next,τ=>∃v t,d6 c τ (F.at v t)/\I v t
 | .cont,τ=>∃v t,d6 c τ (F.at v t)/\I v t
 | .brk,τ=>d.f .next τ
 | f,τ=>d.f f τ
noncomputable def cz{F:Fn}(Γ:Gm F)(y:aG)(τ:AS):Kt->Prop
 | .top=>Γ.E y τ
 | .pS x h e k=>tM Γ x h y τ (D Γ k)
 | .seq _ k=>cz Γ y τ k | .asg _ k=>cz Γ y τ k | .eE _ k=>cz Γ y τ k | .ret k=>cz Γ y τ k | .pop k=>cz Γ y τ k | .o2 _ _ k=>cz Γ y τ k | .pO _ _ k=>cz Γ y τ k | .o1 _ k=>cz Γ y τ k
 | .qZ _ _ k=>cz Γ y τ k | .sm _ _ k=>cz Γ y τ k | .q9 _ _ k=>cz Γ y τ k | .sq _ _ k=>cz Γ y τ k | .qM _ _ k=>cz Γ y τ k | .sh _ _ _ k=>cz Γ y τ k | .met _ _ k=>cz Γ y τ k | .qV _ _ k=>cz Γ y τ k
 | .rz _ k=>cz Γ y τ k | .rR _ k=>cz Γ y τ k | .tup k=>cz Γ y τ k | .lst k=>cz Γ y τ k | .fj _ _ k=>cz Γ y τ k | .arg _ k=>cz Γ y τ k | .rh _ k=>cz Γ y τ k | .got _ k=>cz Γ y τ k
 | .bv _ _ k=>cz Γ y τ k | .rE _ _ _ k=>cz Γ y τ k | .ky k=>cz Γ y τ k | .ite _ _ k=>cz Γ y τ k | .ss _ k=>cz Γ y τ k | .not k=>cz Γ y τ k | .rc _ _ k=>cz Γ y τ k | .iQ _ _ k=>cz Γ y τ k
section
variable {F:Fn}{Γ:Gm F}{σ τ:AS}{v:List PV}{t:List (aj×AO)}{d:Dn}{k:Kt}
set_option tactic.hygienic true in
theorem gx{y:aG}(h:cz Γ y (F.at v t) k):(D Γ k).x y (F.at v t):=by
 induction k with
 | top=>exact h
 | pS=>exact h
 | _=>rename_i ih;exact ih h
theorem ge{x:PV}(G:Good Γ.c F)(h:vV Γ 99 x v t k):(D Γ k).e x (F.at v t):=(so G 99).v h
theorem gf{f:bO}(G:Good Γ.c F)(h:vF Γ 99 f v t k):(D Γ k).f f (F.at v t):=(so G 99).f h
theorem gb{b:Bool}(G:Good Γ.c F)(h:vY Γ 99 b v t k):(D Γ k).b b (F.at v t):=(so G 99).y h
theorem gm{as:Ce}{f:PV}{fs:List PV}(G:Good Γ.c F)(h:vL Γ 99 as v t (.qV f fs k)):u3 Γ as (D Γ k) f fs (F.at v t):=(so G 99).l h
theorem Good.ga{c c':FC}{y:aG}(G:Good c F)(H:kZ c y c'):Good c' F:=⟨H.ok,H.env▸G.lo,H.env▸H.b0▸G.gl,H.hd.fP,H.b0▸G.hC⟩
theorem pi{x:Nat}{h:Cs}{y:aG}(G:Good Γ.c F)(hf:h.rJ=false)(hc:∀p,gG Γ.c y (.Name (F.glob x) p) (F.at v t) true)(H:∀Γ':Gm F,kZ Γ.c y Γ'.c->Good Γ'.c F->nr Γ' d->vS Γ' 99 h v t .top):tM Γ x h y (F.at v t) d:=λl p q hl=>by
 have K:∀c',kZ Γ.c y c'->dC c' l (F.at v t) d.f d.x:=λc' Hc=>(so (Γ:=⟨c',d.f,d.x⟩) (G.ga Hc) 99).s (H ⟨c',d.f,d.x⟩ Hc (G.ga Hc) ⟨id,id⟩) l hl
 have nf:∃a r,l=a::r:=by
  cases h with
  | fin=>cases hf
  | mark=>cases hf
  | _=>exact(jW _ _ hl.symm)
 refine dV nf λa r j1=>?_;clear nf;subst j1
 exact .cls true (hc p) (λZ=>K) λz=>nomatch z
theorem wh{α:Type}{e:Ce}{b:Cs}(G:Good Γ.c F)(V:α->List PV)(T:α->List (aj×AO))(μ:α->Nat)(I:α->Prop)(a:α)(h0:I a)(hw:d6 Γ.c (F.at v t) (F.at (V a) (T a)))
  (turn:∀a,I a->∀Γ':Gm F,Γ'.c=Γ.c->Good Γ'.c F->f0 Γ' d (λv t=>∃a',v=V a'/\t=T a'/\μ a'<μ a/\I a')->vT Γ' 99 e (V a) (T a) (.ss b .top)):po Γ e b (F.at v t) d:=λx l p hx hl=>by
 have main:Ex Γ.c (.While x l [] p) (F.at (V a) (T a)) d.f d.x:=
  ON G.ok ⟨λn τ=>∃a,τ=F.at (V a) (T a)/\n=μ a/\I a,μ a,(bh a rfl rfl h0),λn τ hI=>by
   refine(λj1=>?_) hI;clear hI;refine br j1 λa e1 e2 hI=>?_;clear j1
   subst e1 e2
   refine((so (Γ:=(⟨Γ.c,Hf F Γ.c (λv t=>∃a',v=V a'/\t=T a'/\μ a'<μ a/\I a') d,d.x⟩:Gm F)) G 99).t (turn a hI _ rfl G ⟨λv' t' w i=>(cM v' t' w i),λv' t' w i=>(cM v' t' w i),id,id,id⟩) x hx).mn λβ τ q=>⟨λz s Is=>?_,q.2⟩
   have wk:∀{τ s},In Γ.c τ s->(∃v t,d6 Γ.c τ (F.at v t)/\∃a',v=V a'/\t=T a'/\μ a'<μ a/\I a')->∃τ',In Γ.c τ' s/\∃m,m<μ a/\∃a,τ'=F.at (V a) (T a)/\m=μ a/\I a:=λIs z=>by
    obtain ⟨v,t,w,a',rfl,rfl,hm,hi⟩:=z
    exact(aw _ (w _ Is) ⟨_,hm,a',rfl,rfl,hi⟩)
   refine HX (q.1 z l hl s Is) λf ay x aq aQ aZ a7=>?_
   cases x with
   | next=>refine aC (wk aQ a7) λτ' i q=>?_;exact⟨.next,τ',i,aZ,q⟩
   | cont=>refine aC (wk aQ a7) λτ' i q=>?_;exact⟨.cont,τ',i,aZ,q⟩
   | _=>exact⟨_,aq,aQ,aZ,a7⟩⟩
 exact λs Is=>main s (hw s Is)
structure RA{F:Fn}(Γ':Gm F)(d:Dn)(I:List PV->List (aj×AO)->Prop):Prop where
 dW:∀{v t} (v' t'),d6 Γ'.c (F.at v t) (F.at v' t')->I v' t'->Γ'.R .next (F.at v t)
 brk:∀{v t},d.f .brk (F.at v t)->Γ'.R .brk (F.at v t)
 cnt:∀{v t},d.f .cont (F.at v t)->Γ'.R .cont (F.at v t)
 ret:∀{x v t},d.f (.ret x) (F.at v t)->Γ'.R (.ret x) (F.at v t)
 exc:∀{x v t},d.x x (F.at v t)->Γ'.E x (F.at v t)
noncomputable def C3(F:Fn)(c:FC)(I:List PV->List (aj×AO)->Prop)(d:Dn):bO->AS->Prop
 | .next,τ=>∃v t,d6 c τ (F.at v t)/\I v t
 | f,τ=>d.f f τ
theorem Hu{r:Cs}{I:List PV->List (aj×AO)->Prop}(h:∀v t,I v t->bl Γ r (F.at v t) d.f d.x){f:bO}(q:C3 F Γ.c I d f τ):dk Γ r d f τ:=by
 cases f with
 | next=>refine gE (q:∃v t,_/\_) λv t w i=>?_;exact λl hl s Is=>h v t i l hl s (w s Is)
 | _=>exact q
theorem Qs{t0:Ce}{a b r:Cs}(G:Good Γ.c F)(I:List PV->List (aj×AO)->Prop)(h1:∀Γ':Gm F,Γ'.c=Γ.c->Good Γ'.c F->RA Γ' (D Γ k) I->vT Γ' 99 t0 v t (.ite a b .top))(h2:∀v t,I v t->vS Γ 99 r v t k):bl Γ (.ite t0 a b r) (F.at v t) (D Γ k).f (D Γ k).x:=
 Jp λx hx=>((so (Γ:=(⟨Γ.c,C3 F Γ.c I (D Γ k),(D Γ k).x⟩:Gm F)) G 99).t (h1 _ rfl G ⟨λv' t' w i=>(cM v' t' w i),id,id,id,id⟩) x hx).mn λβ τ q=>Br.mn q (λq l hl=>(q l hl).mn (λf τ z=>Hu (λv t i=>(so G 99).s (h2 v t i)) z) λZ Z z=>z) (λq l hl=>(q l hl).mn (λf τ z=>Hu (λv t i=>(so G 99).s (h2 v t i)) z) λZ Z z=>z)
def tH(Γ:Gm F)(e:Ce)(σ:AS)(K:(AS->Prop)->List PV->AS->Prop)(E:aG->AS->Prop):Prop:=∀x,F.rb e x=x->my Γ.c x σ K E
theorem pF{e:Ce}{K:(AS->Prop)->List PV->AS->Prop}{E:aG->AS->Prop}(H:bK Γ e σ (λv τ=>il Γ.c v τ K E) E):tH Γ e σ K E:=λx h=>my.of (H x h)
theorem Gr{f as:Ce}{K:(AS->Prop)->List PV->AS->Prop}{E:aG->AS->Prop}(hh:Γ.c.A.handled=none)(hf:f.isNm=true)(ha:as.jd=true)
  (H:bK Γ f σ (λf τ=>f7 Γ as τ (λxs τ=>cL Γ.c nJ f xs [] [] τ (λr τ=>Bv r.1 r.2.1 r.2.2=true/\K (λZ=>True) (nZ (kl r.1 r.2.1 r.2.2).toNat r.1 r.2.2) τ) E) E) E):tH Γ (.call f as .nil) σ K E:=λx h=>by
 have h1:=aI (λe=>F.rb f (k1 e)) h
 have h2:=aI (λe=>F.cf as (eD e).1.tail) h
 rw[<-h]
 exact my.range hh (rT (qW h1 hf) (me 4 as ha _ h2).1 ⟨rfl,rfl⟩ ((H _ h1).mn λZ Z q=>q _ h2))
noncomputable def xB(is:List Nat)(b:Cs):Kt:=match is with
 | [i]=>.asg i (.seq b .top)
 | is=>.eE is (.seq b .top)
theorem Nj{is:List Nat}{b:Cs}{g:aL}{x:PV}{val:ag}{s:ai}(G:Good Γ.c F)(hh:Γ.c.A.handled=none)(hg:F.cG is g=g)(I:In Γ.c (F.at v t) s)(r:RV s.heap x val)(h:vV Γ 99 x v t (xB is b)) :
  au (av aF Γ.c.w) Γ.c.A (assign g Γ.c.env val) (λZ s'=>∃σ',In Γ.c σ' s'/\bl Γ b σ' Γ.R Γ.E) (EPost Γ.c Γ.E) s:=by
 have h:=(so G 99).v h
 have one:∀i,F.b6 i g=g->(D Γ (.asg i (.seq b .top))).e x (F.at v t)->au (av aF Γ.c.w) Γ.c.A (assign g Γ.c.env val) (λZ s'=>∃σ',In Γ.c σ' s'/\bl Γ b σ' Γ.R Γ.E) (EPost Γ.c Γ.E) s:=λi hg h=>by
  refine br (hX hg) λy h1 h2 h3=>?_
  have h:=h (by unfold Fn.has;rw[h1,h2])
  replace h:=h2▸h
  rw[<-h3]
  exact assign_Name (bH (nk (E:=Γ.E) (aV:=s) (Q:=λZ σ'=>σ'=(F.at v t).set y x) G.ok (G.lo _ _ h1).ok I r (TK.refl _) rfl) λZ Z Z σ' I' Z Z e=>(aw σ' I' (e▸h)))
 have many:∀is,F.tup is g=g->(D Γ (.eE is (.seq b .top))).e x (F.at v t)->au (av aF Γ.c.w) Γ.c.A (assign g Γ.c.env val) (λZ s'=>∃σ',In Γ.c σ' s'/\bl Γ b σ' Γ.R Γ.E) (EPost Γ.c Γ.E) s:=λis hg h=>by
  refine mh (uZ G is _ (aI (λe=>F.ps is (eD e).1) hg)) λps e1 e2 e3 e4=>?_
  have e1:F.ps is (eD g).1=ps.map (λp=>.Name p.1 p.2):=e1
  rw[<-hg]
  unfold Fn.tup
  rw[e1]
  refine br (h e4) λxs a1 a2 a3=>?_
  exact Gy (N:=λτ=>bl Γ b τ Γ.R Γ.E) G.ok e3 I r (jE xs a1 (.ok hh) (a2.trans (by have:=aI gR e2;simpa using this.symm)) (by rw[e2];exact a3))
 match is with
 | [i]=>exact one i hg h
 | []=>exact many _ hg h
 | i::j::is=>exact many _ hg h
theorem fo{α B:Type}{is:List Nat}{e:Ce}{b:Cs}(G:Good Γ.c F)(hh:Γ.c.A.handled=none)(ho:e.odd=false\/e.isCall=true)(V:α->List PV)(T:α->List (aj×AO))(I:B->List PV->α->Prop)
  (start:tH Γ e (F.at v t) (λGd xs τ=>∃β,(∀xs a,I β xs a->Gd (F.at (V a) (T a)))/\∃a,d6 Γ.c τ (F.at (V a) (T a))/\I β xs a) d.x) (fin:∀β a,I β [] a->d.f .next (F.at (V a) (T a)))
  (turn:∀β x xs a,I β (x::xs) a->∀Γ':Gm F,pV Γ.c Γ'.c->Good Γ'.c F->f0 Γ' d (λv t=>∃a',v=V a'/\t=T a'/\I β xs a')->vV Γ' 99 x (V a) (T a) (xB is b)):pn Γ is e b (F.at v t) d:=λg x l p hg hx hl s Is=>by
 refine wpAny_For (bn (start x hx s Is) (λval ay a7=>?_) λZ Z z=>z) ((ik hx ho).f _)
 refine bn a7 (λit bc p=>?_) λZ Z z=>z
 cases p with | mk It Gd St xs a8 hit a_ W hst hF h0 _ q=>
 obtain ⟨β,hGd,a,hw,hI⟩:=q
 subst hit
 refine Ff (λn s=>∃xs a,n=xs.length/\In Γ.c (F.at (V a) (T a)) s/\St xs s.heap/\I β xs a) ?_ xs.length (fi xs a rfl (hw _ a_) hst hI)
 intro n;intro s';intro j1;refine lH j1 λxs a j2 I' st' hI=>?_;clear j1;subst j2
 cases xs with
 | nil=>exact W.done _ s' _ _ st' I' (hGd _ _ hI) λh' tk k ht=>⟨.next,_,I'.iter (W.obj _ _ st') hF h0 k ht,rfl,fin β a hI⟩
 | cons x xs=>
  refine W.item x xs _ s' _ _ st' I' (hGd _ _ hI) λv h' tk rv st2 k ht=>?_
  have I2:=I'.iter (W.obj _ _ st') hF h0 k ht
  refine F9 (W.obj _ _ st2) ?_
  generalize hs4:({s' with heap:=h',toks:=tk}:ai)=s4 at I2 |-
  have st2:St xs s4.heap:=by rw[<-hs4];exact st2
  have R:=Vy G.ok I2
  have G':Good (Γ.c.rebase (F.at (V a) (T a)) s4) F:=⟨R.ok,R.env▸G.lo,G.gl,.inl hh,G.hC⟩
  generalize hΓ:(⟨Γ.c.rebase (F.at (V a) (T a)) s4,Hf F (Γ.c.rebase (F.at (V a) (T a)) s4) (λv t=>∃a',v=V a'/\t=T a'/\I β xs a') d,d.x⟩:Gm F)=Γ'
  have ec:Γ'.c=Γ.c.rebase (F.at (V a) (T a)) s4:=by rw[<-hΓ]
  have A:=Nj (ec▸G') (ec▸hh) hg (ec▸I2.rebase G.ok) (by rw[<-hs4];exact rv) (turn β x xs a hI Γ' (ec▸R) (ec▸G') (by rw[<-hΓ];exact⟨λv' t' w i=>(cM v' t' w i),λv' t' w i=>(cM v' t' w i),id,id,id⟩))
  subst hΓ
  refine bn A (λZ s5 p=>p.elim λσ5 z=>?_) λZ Z z=>uf G.ok.frames G.ok.frame (EPost.eB G.ok I2 z)
  refine aN z λI5 q5=>?_;clear z
  refine bn (q5 l hl s5 I5) (λf s6 p=>p.elim λy σ6 I6 r6 q6=>?_) λZ Z z=>uf G.ok.frames G.ok.frame (EPost.eB G.ok I2 z)
  have stI:St xs s6.heap:=by
   refine gN ((W.obj _ _ st2).ok) λoI nI vI eI cI Z dI sI=>?_
   refine W.frame _ _ _ st2 ?_ (I2.UI I6)
   rw[eI]
   refine I6.up1 It oI vI (nE I2 eI dI) (λz=>?_) (.inl (by rw[cI];exact λz=>nomatch z)) dI
   refine br (I2.rN z) λo' e' n Z=>?_
   replace e':=eI▸e';refine(λj0=>?_) (bj e');clear e';subst j0;exact n _ dI
  have r6:=RF.eB G.ok I2 r6
  have nx:(∃v t,d6 _ σ6 (F.at v t)/\∃a',v=V a'/\t=T a'/\I β xs a')->∃m,m<xs.length+1/\∃xs a,m=xs.length/\In Γ.c (F.at (V a) (T a)) s6/\St xs s6.heap/\I β xs a:=λz=>by
   obtain ⟨v,t,w,a',rfl,rfl,hi⟩:=z
   exact(aw _ (dm _) ⟨xs,a',rfl,I2.eB G.ok (w _ I6),stI,hi⟩)
  have I6':=I2.eB G.ok I6
  cases y with
  | next=>cases r6;exact nx q6
  | cont=>cases r6;exact nx q6
  | brk=>cases r6;exact⟨.next,σ6,I6',rfl,q6⟩
  | ret z=>refine aC r6 λval j1 r=>?_;clear r6;subst j1;exact⟨.ret z,σ6,I6',(aw val rfl r),q6⟩
  | exc z=>refine aC r6 λval j1 r=>?_;clear r6;subst j1;exact⟨.exc z,σ6,I6',(aw val rfl r),q6⟩
noncomputable def rZ(fd:kg)(F:Fn)(np:Nat):Bool:=
 fd.closure.isEmpty&&fd.globals==eK&&fd.builtins==jv&&!fd.scope.isCoroutine&&!fd.scope.isGenerator&&fd.scope.kind==.function&&EJ fd.scope
  && ((F.nm.take np).all λx=>fd.scope.names.lookup x==some .local||fd.scope.names.lookup x==some .cell)&&decide (F.nm.take np).Nodup&&Km np F.nm.length
  && (F.nm.zipIdx.all λp=>qS fd.scope F.nm p.1 p.2)&&(F.gs.all λp=>tL fd.scope p.1)
theorem Sm{c:FC}{fd:kg}(K:c.Ok)(hs:c.env.scope=fd.scope)(H:f8 c)(hC:gC c.b0 364)(hl:(F.nm.zipIdx.all λp=>qS fd.scope F.nm p.1 p.2)=true)(hg:(F.gs.all λp=>tL fd.scope p.1)=true)
  (hv:∀p∈F.gs,dZ c.b0 p.1 p.2):Good c F:=
 ⟨K,λi x h=>Lo.of K.ton6 hs (fE.mp hl (x,i) (Z5.mpr h)),λj p h=>have m:=qB h;Gl.of hs (fE.mp hg p m) (hv p m),H,hC⟩
end
structure yF{F:Fn}(Γ:Gm F)(σ:AS)(Q:PV⊕aG->AS->Prop)(E:aG->AS->Prop):Prop where
 ret:∀{x v t},Q (.inl x) {σ with st:=t}->Γ.R (.ret x) (F.at v t)
 dW:∀{v t},Q (.inl .none) {σ with st:=t}->Γ.R .next (F.at v t)
 exc:∀{x v t},E x {σ with st:=t}->Γ.E x (F.at v t)
 Xd:∀{x v t},Q (.inr x) {σ with st:=t}->Γ.R (.exc x) (F.at v t)
structure Ent(c c':FC):Prop where
 hd:c'.A.handled=c.A.handled
 T:c'.T=c.T
 gens:c'.gens=c.gens
theorem c_.gen{c:FC}{σ:AS}{Q:PV⊕aG->AS->Prop}{E:aG->AS->Prop}{ev:bB}{w:aR}{b:am}{n:Nat}(P:Pl c ev w b (n+1)){fa np:Nat}{fd:kg}{body:List bA}{F:Fn}{cd:Cs}{xs kxs ds vals:List PV}{ks:List af}
  (hfo:∀s,In c σ s->∃o,s.heap.get? fa=some o/\o.data = .func fd/\s.heap.CodeRec fd.code fd.qualname) (hbody:fd.body = .stmts body) (hck:rZ fd F np=true) (hv:∀p∈F.gs,dZ b p.1 p.2) (hrb:F.bw cd body=body) (hC:gC b 364)
  (hnp:np=(xs++kxs++ds).length) (hvals:vals=xs++kxs++ds++jx (F.nm.length-np) .al)
  (hbind:∀(s:ai) (vs kvs:List ag),In c σ s->aB s.heap xs vs->aB s.heap kxs kvs->∃dvs,aB s.heap ds dvs/\au (av aF c.w) c.A.in1 (wA fd ⟨vs,ks.zip kvs⟩) (λb s'=>s'=s/\b=(F.nm.take np).zip (vs++kvs++dvs)) (λZ Z=>False) s)
  (h:∀Γ:Gm F,mE c fd Γ.c->Pl Γ.c Γ.c.env w b n->Good Γ.c F->yF Γ σ Q E->vS Γ 99 cd vals σ.st .top):c_ c (tR c) fa xs ks kxs σ Q E:=by
 unfold rZ at hck
 simp only[jr,LU,beq_iff_eq,decide_eq_true_eq,AM,Nat.ble_eq] at hck
 refine aN hck λj1 h12=>?_;clear hck;refine aN j1 λj2 h11=>?_;clear j1;refine aN j2 λj3 h10=>?_;clear j2;refine aN j3 λj4 h9=>?_;clear j3;refine aN j4 λj5 h8=>?_;clear j4;refine aN j5 λj6 h7=>?_;clear j5;refine aN j6 λj7 h6=>?_;clear j6;refine aN j7 λj8 h5=>?_;clear j7;refine aN j8 λj9 h4=>?_;clear j8;refine aN j9 λj10 h3=>?_;clear j9;refine aN j10 λh1 h2=>?_;clear j10
 refine PQ P.ok (by have:=P.room;exact BM ‹_›) (ps:=F.nm.take np) (rest:=F.nm.drop np) (ds:=ds) hfo h1 h2 h3 hbody h4 h5 h6 h7 h8 h9 ((List.length_take_of_le h10).trans hnp) hvals hbind λc' C=>?_
 have P':=C.pl P
 have G:Good c' F:=Sm P'.ok C.scope P'.fP (P'.b0▸hC) h11 h12 (P'.b0▸hv)
 rw[sO]
 exact(so (Γ:=⟨c',_,_⟩) G 99).s (h ⟨c',_,_⟩ C P' G ⟨id,id,id,id⟩) body hrb
theorem mG{c:FC}{σ:AS}{Q:PV->AS->Prop}{E:aG->AS->Prop}{ev:bB}{w:aR}{b:am}{n:Nat}(P:Pl c ev w b (n+1)){fa np:Nat}{o:ax}{fd:kg}{body:List bA}{F:Fn}{cd:Cs}{xs kxs ds vals:List PV}{ks:List af}
  (ho:b.get? fa=some o) (hdt:o.data = .func fd) (hcr:b.CodeRec fd.code fd.qualname) (hbody:fd.body = .stmts body) (hck:rZ fd F np=true) (hv:∀p∈F.gs,dZ b p.1 p.2) (hrb:F.bw cd body=body) (hC:gC b 364)
  (hnp:np=(xs++kxs++ds).length) (hvals:vals=xs++kxs++ds++jx (F.nm.length-np) .al)
  (hbind:∀(s:ai) (vs kvs:List ag),In c σ s->aB s.heap xs vs->aB s.heap kxs kvs->∃dvs,aB s.heap ds dvs/\au (av aF c.w) c.A.in1 (wA fd ⟨vs,ks.zip kvs⟩) (λb s'=>s'=s/\b=(F.nm.take np).zip (vs++kvs++dvs)) (λZ Z=>False) s)
  (h:∀Γ:Gm F,mE c fd Γ.c->Pl Γ.c Γ.c.env w b n->Good Γ.c F->e_ Γ σ Q E->vS Γ 99 cd vals σ.st .top):c_ c RV fa xs ks kxs σ Q E:=
 c_.val (c_.gen P (λs I=>(bh o (I.b0 _ _ (P.b0▸ho)) hdt ((P.b0▸hcr:c.b0.CodeRec _ _).keeps I.b0))) hbody hck hv hrb hC hnp hvals hbind λΓ C P' G N=>h Γ C P' G ⟨N.ret,N.dW,N.exc⟩)
theorem cL.gen{X:Type}{ρ:am->X->ag->Prop}{c:FC}{σ:AS}{Q:X->AS->Prop}{E:aG->AS->Prop}{fa:aj}{xs kxs:List PV}{ks:List af}(ho:∀s,In c σ s->∃o fd,s.heap.get? fa=some o/\o.data = .func fd)(h:c_ c ρ fa xs ks kxs σ Q E):cL c ρ (.val (.ref fa)) xs ks kxs σ Q E:=by
 intro s fval vs kvs I rf rx rk
 obtain rfl:fval = .ref fa:=rf
 refine gE (ho s I) λo fd ho hd=>?_
 unfold iV
 refine ah ?_
 unfold mV
 refine ah (s0 ho ?_)
 rw[hd]
 exact aE (jB (h s vs kvs I rx rk))
theorem c_.call{X:Type}{ρ:am->X->ag->Prop}{c:FC}{σ:AS}{Q:X->AS->Prop}{E:aG->AS->Prop}{fa:aj}{xs kxs:List PV}{ks:List af}{o:ax}{fd:kg}(ho:c.b0.get? fa=some o)(hd:o.data = .func fd)(h:c_ c ρ fa xs ks kxs σ Q E):cL c ρ (.val (.ref fa)) xs ks kxs σ Q E:=cL.gen (λs I=>(cM o fd (I.b0 _ _ ho) hd)) h
theorem mE.ent{c c':FC}{fd:kg}(C:mE c fd c'):Ent c c':=⟨C.handled,C.T,C.gens⟩
theorem codeRec_of{b:am}{a:aj}{o:ax}{vs:Array ag}{q:af}{t:bY}(h:b.get? a=some o)(d:o.data = .fields vs)(h1:vs[1]?=some (.str q t)):b.CodeRec (.ref a) q:=(tI a o vs t rfl h d h1)
section
variable {t:qg->bf (List (af×ag))}{ps:List af}{M:cP}{A:bZ}{h:am}{s:ai}{vs kvs:List ag}{x y z u v:PV}{k:af}
def nu(t:qg->bf (List (af×ag)))(ps:List af)(M:cP)(A:bZ)(xs:List PV)(ks:List af)(kxs:List PV):Prop:=∀(s:ai) (vs kvs:List ag),aB s.heap xs vs->aB s.heap kxs kvs->∃dvs,aB s.heap [] dvs/\au M A (t ⟨vs,ks.zip kvs⟩) (λb s'=>s'=s/\b=ps.zip (vs++kvs++dvs)) (λZ Z=>False) s
theorem pJ(h:∀a,t ⟨[a],[]⟩=pure (ps.zip [a])):nu t ps M A [x] [] []:=λs vs kvs rx rk=>by
 refine aP (uc rx) λa j1=>?_;subst j1;obtain rfl:=hW rk;exact(aw [] aB.nil (pB (h a)))
theorem pE(h:∀a b,t ⟨[a,b],[]⟩=pure (ps.zip [a,b])):nu t ps M A [x,y] [] []:=λs vs kvs rx rk=>by
 refine dV (rM rx) λa b j1=>?_;subst j1;obtain rfl:=hW rk;exact(aw [] aB.nil (pB (h a b)))
theorem jb(h:∀a b d,t ⟨[a,b,d],[]⟩=pure (ps.zip [a,b,d])):nu t ps M A [x,y,z] [] []:=λs vs kvs rx rk=>by
 refine jX (zG rx) λa b d j1=>?_;subst j1;obtain rfl:=hW rk;exact(aw [] aB.nil (pB (h a b d)))
theorem OY(h:∀a b d e f,t ⟨[a,b,d,e,f],[]⟩=pure (ps.zip [a,b,d,e,f])):nu t ps M A [x,y,z,u,v] [] []:=λs vs kvs rx rk=>by
 refine sf (Ro rx) λa b d e f j1=>?_;subst j1;obtain rfl:=hW rk;exact(aw [] aB.nil (pB (h a b d e f)))
theorem Ab(h:∀a b d,t ⟨[a,b],[(k,d)]⟩=pure (ps.zip [a,b,d])):nu t ps M A [x,y] [k] [z]:=λs vs kvs rx rk=>by
 refine dV (rM rx) λa b j1=>?_;subst j1;refine aP (uc rk) λd j1=>?_;subst j1;exact(aw [] aB.nil (pB (h a b d)))
end
end
inductive Wm(b:am):Prop
 | mk (q:af) (N:aj) (bs:List ag) (hdct:Bool) (sn:List af) (sub:List ag) (ab:Bool) (col:Option Bool) (dd:Option aj) (k0 k1 k2 k3 k5:Option ag) (h1:b.get? 364=some (K5 (Internal.S "TOMLDecodeError") q 364 N bs [.type "ValueError",.type "Exception",.type "BaseException",.type "object"] hdct sn sub ab col dd k0 k1 k2 k3 k5 "ValueError.__new__")) (h2:N=363)
theorem aO.pb{w:aR}{b:am}(S:aO w b):Wm b:=
 ⟨_,_,_,_,_,_,_,_,_,_,_,_,_,_,S.at 364 (o:=zZ w.params) (by kernel_rfl),rfl⟩
theorem aO.jK{w:aR}{b:am}(S:aO w b):gC b 364:=match S.pb with
 | .mk _ _ _ _ _ _ _ _ _ _ _ _ _ _ h _=>.mk _ _ _ _ _ _ _ _ _ _ _ _ _ _ _ _ _ h (by decide +kernel)
abbrev Hx(c:FC)(σ:AS)(Q:PV->AS->Prop)(E:aG->AS->Prop)(w:aR)(b:am)(n:Nat)(F:Fn)(cd:Cs)(vals:List PV):Prop:=∀Γ:Gm F,Ent c Γ.c->Pl Γ.c Γ.c.env w b n->Good Γ.c F->e_ Γ σ Q E->vS Γ 99 cd vals σ.st .top
theorem ur{c:FC}{σ:AS}{Q:PV->AS->Prop}{E:aG->AS->Prop}{ev:bB}{w:aR}{b:am}{n:Nat}{fa ca np:Nat}{o oc:ax}{fd:kg}{body:List bA}{F:Fn}{cd:Cs}{xs kxs vals:List PV}{ks:List af}{vs:Array ag}{t:bY}
  (P:Pl c ev w b (n+1)) (S:aO w b) (ho:(nT w.params).lookup fa=some o) (hoc:(nT w.params).lookup ca=some oc) (ht:tabs.contains fa=false/\tabs.contains ca=false) (hdt:o.data = .func fd) (hcd:fd.code = .ref ca) (hvs:oc.data = .fields vs) (h1:vs[1]?=some (.str fd.qualname t))
  (hbody:fd.body = .stmts body) (hck:rZ fd F np=true) (hv:∀p∈F.gs,dZ b p.1 p.2) (hrb:F.bw cd body=body) (hnp:np=(xs++kxs++[]).length) (hvals:vals=xs++kxs++[]++jx (F.nm.length-np) .al)
  (hbind:nu (wA fd) (F.nm.take np) (av aF c.w) c.A.in1 xs ks kxs) (h:Hx c σ Q E w b n F cd vals):c_ c RV fa xs ks kxs σ Q E:=by
 exact(mG P (ds:=[]) (S.at fa ho ht.1) hdt (hcd▸codeRec_of (S.at ca hoc ht.2) hvs h1) hbody hck hv hrb S.jK hnp hvals (λs vs kvs Z rx rk=>hbind s vs kvs rx rk) λΓ C=>h Γ C.ent)
theorem fk{c:FC}{σ:AS}{Q:PV->AS->Prop}{E:aG->AS->Prop}{ev:bB}{w:aR}{b:am}{n:Nat}{fa ca np:Nat}{o oc:ax}{fd:kg}{body:List bA}{F:Fn}{cd:Cs}{xs kxs vals:List PV}{ks:List af}{vs:Array ag}{t:bY}
  (P:Pl c ev w b (n+1)) (S:aO w b) (h:Hx c σ Q E w b n F cd vals) (hv:∀p∈F.gs,dZ b p.1 p.2) (hbind:nu (wA fd) (F.nm.take np) (av aF c.w) c.A.in1 xs ks kxs) (hdt:o.data = .func fd:=by rfl) (hcd:fd.code = .ref ca:=by rfl) (ho:(nT w.params).lookup fa=some o:=by kernel_rfl) (hoc:(nT w.params).lookup ca=some oc:=by kernel_rfl) (ht:tabs.contains fa=false/\tabs.contains ca=false:=by decide +kernel) (hvs:oc.data = .fields vs:=by rfl) (h1:vs[1]?=some (.str fd.qualname t):=by rfl)
  (hbody:fd.body = .stmts body:=by rfl) (hck:rZ fd F np=true:=by kernel_rfl) (hrb:F.bw cd body=body:=by kernel_rfl) (hnp:np=(xs++kxs++[]).length:=by rfl) (hvals:vals=xs++kxs++[]++jx (F.nm.length-np) .al:=by rfl):aM c (.val (.ref fa)) xs ks kxs σ Q E:=c_.call (P.b0▸S.at fa ho ht.1) hdt (ur P S ho hoc ht hdt hcd hvs h1 hbody hck hv hrb hnp hvals hbind h)
theorem TT:(BO==BO)=true:=rfl
theorem Xi:(BO==BP)=false:=rfl
theorem WG:(BP==BO)=false:=rfl
theorem QH:(BP==BP)=true:=rfl
noncomputable def GM:List (af×ag):=[((ae "HEXDIGIT_CHARS"),(.ref 348)),((ae "suffixed_err"),(.ref 686)),((ae "is_unicode_scalar_value"),(.ref 693)),((ae "parse_basic_str_escape"),(.ref 637)),((ae "ILLEGAL_MULTILINE_BASIC_STR_CHARS"),(.ref 329)),((ae "parse_basic_str_escape_multiline"),(.ref 644)),((ae "ILLEGAL_BASIC_STR_CHARS"),(.ref 324)),((ae "parse_basic_str"),(.ref 672)),((ae "ILLEGAL_MULTILINE_LITERAL_STR_CHARS"),(.ref 329)),((ae "skip_until"),(.ref 552)),((ae "parse_multiline_str"),(.ref 665)),((ae "parse_one_line_basic_str"),(.ref 615)),((ae "parse_literal_str"),(.ref 658)),((ae "parse_array"),(.ref 622)),((ae "parse_inline_table"),(.ref 629)),((ae "RE_DATETIME"),(.ref 117)),((ae "RE_LOCALTIME"),(.ref 112)),((ae "match_to_localtime"),(.ref 252)),((ae "RE_NUMBER"),(.ref 107)),((ae "match_to_number"),(.ref 259)),((ae "BARE_KEY_CHARS"),(.ref 339)),((ae "skip_chars"),(.ref 545)),((ae "parse_value"),(.ref 679)),((ae "TOMLDecodeError"),(.ref 364)),((ae "_law_sources"),(.ref 710)),((ae "_law_text"),(.ref 715)),((ae "parse_key_part"),(.ref 608)),((ae "_law_right"),(.ref 722)),((ae "TOML_WS"),(.ref 330)),((ae "MAX_KEY_PARTS"),(.int (1000) 1536)),((ae "ILLEGAL_COMMENT_CHARS"),(.ref 324)),((ae "parse_key"),(.ref 601)),((ae "TOML_WS_AND_NEWLINE"),(.ref 338)),((ae "parse_hex_char"),(.ref 651)),((ae "BASIC_STR_ESCAPE_REPLACEMENTS"),(.ref 354)),((ae "_wall"),(.ref 73)),((ae "parse_key_value_pair"),(.ref 594)),((ae "Flags"),(.ref 427)),((ae "Output"),(.ref 535)),((ae "NestedDict"),(.ref 463)),((ae "make_safe_parse_float"),(.ref 700)),((ae "KEY_INITIAL_CHARS"),(.ref 347)),((ae "key_value_rule"),(.ref 587)),((ae "create_list_rule"),(.ref 580)),((ae "create_dict_rule"),(.ref 573)),((ae "skip_comment"),(.ref 559)),((ae "_law_units"),(.ref 705)),((ae "_law_row"),(.ref 743)),((ae "_law_list"),(.ref 736)),((ae "_law_tool"),(.ref 729)),((ae "loads"),(.ref 375))]
noncomputable def GB:List (af×ag):=[((ae "IndexError"),(.type "IndexError")),((ae "len"),(.builtin "len")),((ae "int"),(.type "int")),((ae "chr"),(.builtin "chr")),((ae "range"),(.type "range")),((ae "float"),(.type "float")),((ae "divmod"),(.builtin "divmod")),((ae "ord"),(.builtin "ord")),((ae "RecursionError"),(.type "RecursionError")),((ae "KeyError"),(.type "KeyError")),((ae "issubclass"),(.builtin "issubclass")),((ae "type"),(.type "type")),((ae "tuple"),(.type "tuple")),((ae "isinstance"),(.builtin "isinstance")),((ae "list"),(.type "list")),((ae "dict"),(.type "dict")),((ae "sum"),(.builtin "sum")),((ae "abs"),(.builtin "abs")),((ae "str"),(.type "str")),((ae "set"),(.type "set"))]
theorem Xu(P:az):GM.map (λp=>pA P p.1)=GM.map (λp=>some p.2):=by kernel_rfl
theorem OL(P:az):GB.map (λp=>(pA P p.1,Hz P p.1))=GB.map (λp=>(none,some p.2)):=by kernel_rfl
noncomputable def xA(j:Nat):af×ag:=(GM++GB).getD j ((ae "HEXDIGIT_CHARS"),(.ref 348))
theorem MQ{w:aR}{b:am}(S:aO w b){p:af×ag}(h:p∈GM++GB):dZ b p.1 p.2:=by
 rcases jp.mp h with h | h
 .exact .inl (aw _ S.main (LV.mp (Xu w.params) p h))
 .have e:=Yp (LV.mp (OL w.params) p h)
  exact .inr (fi _ _ S.main e.1 S.blt e.2)
theorem MU(j:Nat):xA j∈GM++GB:=by
 unfold xA
 rw[Z6]
 cases h:(GM++GB)[j]? with
 | none=>exact Z7 _ (.head _)
 | some p=>exact qB h
theorem gv{w:aR}{b:am}(S:aO w b){l:List (af×ag)}(js:List Nat)(h:l=js.map xA):∀p∈l,dZ b p.1 p.2:=λp hp=>by
 replace hp:=h▸hp
 refine aC (cO.mp hp) λj Z j1=>?_;subst j1
 exact MQ S (MU j)
section
section
open Ce renaming loc->l,gl->g,nat->n,str->t,bool->b,o2->o,o1->p,kB->B,iQ->I,cut->c,call->f,g_->m,tup->u,lst->L,nil->z,cons->a,lu->k
open Cs renaming fin->F,asg->A,eE->T,aug->G,exp->X,ret->q,lt->Z,ite->h,qY->w,mark->M
open pd renaming bin->v,cmp->C,sub->j
open qU renaming un->U,tT->V
open PySem.Operator renaming Add->d
open PySem.CmpOp renaming Eq->y,NotEq->N,In->H
noncomputable def Jx:Cs:=.try (w (o (C H) (o j (l 0) (l 1)) (l 2)) (G 1 d (n 1) F) F) 0 (.pass F) F (q (l 1) F)
noncomputable def FJ:Cs:=q (B .Or (a (.raw (hd (((eD ((hD (fB (stN 68))).e)).1)))) (a (.raw (hd (((eD ((hD (fB (stN 68))).e)).1).tail))) z))) F
noncomputable def DY:Cs:=A 3 (c (l 0) (l 1) (o (v d) (l 1) (l 2))) (h (B .Or (a (o (C N) (f (g 0) (a (l 3) z) z) (l 2)) (a (p (U .Not) (m (g 1) (ae "issuperset") (a (l 3) z))) z))) (Z false (g 2) (a (l 0) (a (l 1) (a (t (lit "Invalid hex value")) z))) F) F (G 1 d (l 2) (A 4 (f (g 3) (a (l 3) (a (n 16) z)) z) (h (p (U .Not) (f (g 4) (a (l 4) z) z)) (Z false (g 2) (a (l 0) (a (l 1) (a (t (lit "Escaped character is not a Unicode scalar value")) z))) F) F (q (u (a (l 1) (a (f (g 5) (a (l 4) z) z) z))) F)))))
noncomputable def Hi:Cs:=q (f (g 0) (a (l 0) (a (l 1) z)) (k (ae "multiline") (b true) z)) F
noncomputable def FH:Cs:=h (l 2) (A 3 (g 0) (A 4 (g 1) F)) (A 3 (g 2) (A 4 (g 3) F)) (A 5 (t []) (A 6 (l 1) (w (b true) (.try (A 7 (o j (l 0) (l 1)) F) 4 (Z true (g 5) (a (l 0) (a (l 1) (a (t (lit "Unterminated string")) z))) F) F (h (o (C y) (l 7) (t [34])) (h (p (U .Not) (l 2)) (q (u (a (o (v d) (l 1) (n 1)) (a (o (v d) (l 5) (c (l 0) (l 6) (l 1))) z))) F) F (h (m (l 0) (ae "startswith") (a (t [34,34,34]) (a (l 1) z))) (q (u (a (o (v d) (l 1) (n 3)) (a (o (v d) (l 5) (c (l 0) (l 6) (l 1))) z))) F) F (G 1 d (n 1) (.cont F)))) F (h (o (C y) (l 7) (t [92])) (G 5 d (c (l 0) (l 6) (l 1)) (T [1,8] (f (l 4) (a (l 0) (a (l 1) z)) z) (G 5 d (l 8) (A 6 (l 1) (.cont F))))) F (h (o (C H) (l 7) (l 3)) (Z false (g 5) (a (l 0) (a (l 1) (a (.fst (t (lit "Illegal character ")) (.raw (hd ((eD (hd (((eD ((hD ((hD (((((hD ((((fB (stN 65)).tail).tail).tail)).a).tail).tail).tail)).a)).e)).1.tail).tail.tail))).1.tail))) z) z))) F) F (G 1 d (n 1) F))))) F)))
noncomputable def JK:Cs:=G 1 d (n 1) (q (f (g 0) (a (l 0) (a (l 1) z)) (k (ae "multiline") (b false) z)) F)
noncomputable def Ho:Cs:=G 1 d (n 3) (h (m (l 0) (ae "startswith") (a (t [10]) (a (l 1) z))) (G 1 d (n 1) F) F (h (l 2) (A 3 (t [39]) (A 4 (f (g 1) (a (l 0) (a (l 1) (a (t [39,39,39]) z))) (k (ae "error_on") (g 0) (k (ae "error_on_eof") (b true) z))) (A 5 (c (l 0) (l 1) (l 4)) (A 1 (o (v d) (l 4) (n 3)) F)))) (A 3 (t [34]) (T [1,5] (f (g 2) (a (l 0) (a (l 1) z)) (k (ae "multiline") (b true) z)) F)) (h (p (U .Not) (m (l 0) (ae "startswith") (a (l 3) (a (l 1) z)))) (q (u (a (l 1) (a (l 5) z))) F) F (G 1 d (n 1) (h (p (U .Not) (m (l 0) (ae "startswith") (a (l 3) (a (l 1) z)))) (q (u (a (l 1) (a (o (v d) (l 5) (l 3)) z))) F) F (G 1 d (n 1) (q (u (a (l 1) (a (o (v d) (l 5) (o (v .Mult) (l 3) (n 2))) z))) F)))))))
noncomputable def Ci:Cs:=.try (A 3 (o j (l 0) (l 1)) F) 0 (A 3 .none F) F (h (o (C y) (l 3) (t [34])) (h (m (l 0) (ae "startswith") (a (t [34,34,34]) (a (l 1) z))) (q (f (g 1) (a (l 0) (a (l 1) z)) (k (ae "literal") (b false) z)) F) F (q (f (g 2) (a (l 0) (a (l 1) z)) z) F)) F (h (o (C y) (l 3) (t [39])) (h (m (l 0) (ae "startswith") (a (t [39,39,39]) (a (l 1) z))) (q (f (g 1) (a (l 0) (a (l 1) z)) (k (ae "literal") (b true) z)) F) F (q (f (g 3) (a (l 0) (a (l 1) z)) z) F)) F (h (o (C y) (l 3) (t [116])) (h (m (l 0) (ae "startswith") (a (t [116,114,117,101]) (a (l 1) z))) (q (u (a (o (v d) (l 1) (n 4)) (a (b true) z))) F) F F) F (h (o (C y) (l 3) (t [102])) (h (m (l 0) (ae "startswith") (a (t [102,97,108,115,101]) (a (l 1) z))) (q (u (a (o (v d) (l 1) (n 5)) (a (b false) z))) F) F F) F (h (o (C y) (l 3) (t [91])) (q (f (g 4) (a (l 0) (a (l 1) (a (l 2) z))) z) F) F (h (o (C y) (l 3) (t [123])) (q (f (g 5) (a (l 0) (a (l 1) (a (l 2) z))) z) F) F (A 4 (m (g 6) (ae "match") (a (l 0) (a (l 1) z))) (h (l 4) (.raw (hs ((hD (((((((((fB (stN 66)).tail).tail).tail).tail).tail).tail).tail).tail)).a)) (q (u (a (m (l 4) (ae "end") z) (a (l 5) z))) F)) F (A 7 (m (g 7) (ae "match") (a (l 0) (a (l 1) z))) (h (l 7) (q (u (a (m (l 7) (ae "end") z) (a (f (g 8) (a (l 7) z) z) z))) F) F (A 8 (m (g 9) (ae "match") (a (l 0) (a (l 1) z))) (h (l 8) (q (u (a (m (l 8) (ae "end") z) (a (f (g 10) (a (l 8) (a (l 2) z)) z) z))) F) F (A 9 (c (l 0) (l 1) (o (v d) (l 1) (n 3))) (h (.raw ((hD (((((((((((((((fB (stN 66)).tail).tail).tail).tail).tail).tail).tail).tail).tail).tail).tail).tail).tail).tail)).e)) (q (u (a (o (v d) (l 1) (n 3)) (a (f (l 2) (a (l 9) z) z) z))) F) F (A 10 (c (l 0) (l 1) (o (v d) (l 1) (n 4))) (h (.raw ((hD (((((((((((((((((fB (stN 66)).tail).tail).tail).tail).tail).tail).tail).tail).tail).tail).tail).tail).tail).tail).tail).tail)).e)) (q (u (a (o (v d) (l 1) (n 4)) (a (f (l 2) (a (l 10) z) z) z))) F) F (Z false (g 11) (a (l 0) (a (l 1) (a (t [73,110,118,97,108,105,100,32,118,97,108,117,101]) z))) F)))))))))))))))))
noncomputable def Dj:Cs:=.try (A 2 (o j (l 0) (l 1)) F) 0 (A 2 .none F) F (h (o (C H) (l 2) (g 1)) (A 3 (l 1) (A 1 (f (g 2) (a (l 0) (a (l 1) (a (g 1) z))) z) (q (u (a (l 1) (a (c (l 0) (l 3) (l 1)) z))) F))) F (h (o (C y) (l 2) (t [39])) (q (f (g 3) (a (l 0) (a (l 1) z)) z) F) F (h (o (C y) (l 2) (t [34])) (q (f (g 4) (a (l 0) (a (l 1) z)) z) F) F (Z false (g 5) (a (l 0) (a (l 1) (a (t (lit "Invalid initial character for a key part")) z))) F))))
noncomputable def Gx:Cs:=q (m (t []) (ae "join") (a (.raw (hd (((eD ((hD (fB (stN 72))).e)).1.tail)))) z)) F
noncomputable def CW:Cs:=q (m (t []) (ae "join") (a (.raw (hd (((eD ((hD (fB (stN 73))).e)).1.tail)))) z)) F
noncomputable def xO:Cs:=h (B .And (a (o (C y) (l 6) (o (v d) (o (v .Sub) (o (v d) (f (g 1) (a (l 3) z) z) (l 5)) (l 1)) (f (g 1) (a (l 4) z) z))) (a (o (C N) (l 7) (t [])) z))) (q (l 5) F) F F
noncomputable def CI:Cs:=T [3,4] (I (l 2) (u (a (t [34,34,34,10]) (a (t [34,34,34]) z))) (u (a (t [34]) (a (t [34]) z)))) (.for [5] (f (g 0) (a (o (v d) (l 1) (n 1)) (a (f (g 1) (a (l 0) z) z) z)) z) (.try (T [6,7] (f (g 2) (a (o (v d) (o (v d) (l 3) (c (l 0) (l 1) (l 5))) (l 4)) (a (n 0) (a (g 3) z))) z) F) 4 (T [6,7] (u (a (n 0) (a (t []) z))) F) F (M xO)) (q (f (g 1) (a (l 0) z) z) F))
noncomputable def ID:Cs:=A 3 (o (v d) (o (v d) (t [34]) (f (g 0) (a (l 0) z) z)) (t [34,32,61,32])) (q (o (v d) (o (v d) (l 3) (I (l 2) (o (v d) (o (v d) (t [34,34,34,10]) (f (g 0) (a (l 1) z) z)) (t [34,34,34])) (o (v d) (o (v d) (t [34]) (f (g 0) (a (l 1) z) z)) (t [34])))) (t [10])) F)
noncomputable def FD:Cs:=T [3,4] (u (a (L z) (a (n 0) z))) (w (o (C .Lt) (l 4) (f (g 0) (a (l 0) z) z)) (h (o (C y) (f (g 1) (a (c (l 0) (l 4) (o (v d) (l 4) (f (g 0) (a (l 1) z) z))) z) z) (l 1)) (X (m (l 3) (ae "extend") (a (l 2) z)) (G 4 d (f (g 0) (a (l 1) z) z) F)) (X (m (l 3) (ae "append") (a (o j (l 0) (l 4)) z)) (G 4 d (n 1) F)) F) (q (l 3) F))
noncomputable def xe:Cs:=T [9,10] (I (l 8) (u (a (t [34,34,34,10]) (a (t [34,34,34]) z))) (u (a (t [34]) (a (t [34]) z)))) (T [11,12,3] (u (a (c (l 0) (o (v d) (l 4) (f (g 0) (a (l 9) z) z)) (o (v .Sub) (l 6) (f (g 0) (a (l 10) z) z))) (a (n 0) (a (o (v d) (l 3) (l 9)) z)))) (w (o (C .Lt) (l 12) (f (g 0) (a (l 11) z) z)) (h (m (l 7) (ae "startswith") (a (l 1) z)) (G 3 d (l 2) (.for [13] (l 1) (A 12 (f (g 4) (a (l 11) (a (l 12) (a (l 8) z))) z) F) (A 7 (c (l 7) (f (g 0) (a (l 1) z) z) z) F))) (A 14 (f (g 4) (a (l 11) (a (l 12) (a (l 8) z))) z) (T [3,12,7] (u (a (o (v d) (l 3) (c (l 11) (l 12) (l 14))) (a (l 14) (a (c (l 7) (n 1) z) z)))) F)) F) (T [3,4,5] (u (a (o (v d) (o (v d) (l 3) (l 10)) (I (l 5) (t [10]) (t [32,61,32]))) (a (o (v d) (l 6) (I (l 5) (n 1) (n 3))) (a (p (U .Not) (l 5)) z)))) F)))
noncomputable def yT:Cs:=A 8 (B .And (a (l 5) (a (m (l 0) (ae "startswith") (a (t [34,34,34]) (a (l 4) z))) z))) (M xe)
noncomputable def DR:Cs:=T [3,4,5] (u (a (t []) (a (n 0) (a (b false) z)))) (w (o (C .Lt) (l 4) (f (g 0) (a (l 0) z) z)) (T [6,7] (I (l 5) (f (g 1) (a (l 0) (a (l 4) (a (g 2) z))) z) (f (g 3) (a (l 0) (a (l 4) z)) z)) (M yT)) (q (l 3) F))
noncomputable def zK:Cs:=X (m (l 3) (ae "append") (a (u (a (l 7) (a (l 5) z))) z)) F
noncomputable def iP:Cs:=h (B .And (a (o (C y) (l 7) (t [34])) (a (l 3) (a (o (C y) (o j (o j (l 3) (p (U .USub) (n 1))) (n 0)) (t [34])) z)))) (A 7 (t [92,34]) F) F (M zK)
noncomputable def xy:Cs:=h (B .And (a (l 2) (a (o (C y) (l 6) (n 1)) (a (o (C N) (l 5) (t [32])) z)))) (A 7 (o (v d) (o (v d) (t [92]) (o j (u (a (t [10]) (a (t [32,10,9,10]) (a (t [9,32,10]) (a (t [32,32,10,32]) z))))) (o (v .Mod) (l 0) (n 4)))) (l 5)) F) F F
noncomputable def Ad:Cs:=A 7 (o (v d) (t [92]) (o j (t [34,92,110,116,98,102,114]) (m (t [34,92,10,9,8,12,13]) (ae "index") (a (l 5) z)))) F
noncomputable def yt:Cs:=A 8 (o j (u (a (t (lit "0123456789abcdef")) (a (t (lit "0123456789ABCDEF")) z))) (o (v .Mod) (l 0) (n 2))) (A 9 (m (t []) (ae "join") (a (.raw (hd (((eD ((hD (((hD (((((hD ((fB (stN 71)).tail)).a).tail).tail).tail)).a).tail)).e)).1.tail)))) z)) (A 7 (I (B .And (a (o (C .Lt) (l 6) (n 3)) (a (o (C .Lt) (f (g 2) (a (l 5) z) z) (n 65536)) z))) (o (v d) (t [92,117]) (c (l 9) (n 4) z)) (o (v d) (t [92,85]) (l 9))) F))
noncomputable def zb:Cs:=A 3 (L z) (w (B .And (a (o (C .Gt) (l 0) (n 0)) (a (o (C .Lt) (f (g 0) (a (l 3) z) z) (l 1)) z))) (T [0,4] (f (g 1) (a (l 0) (a (n 64) z)) z) (T [5,6] (u (a (o j (t [97,98,34,92,10,32,9,233,8,12,13,33,127,39612,128522,1114111]) (o (v .FloorDiv) (l 4) (n 4))) (a (o (v .Mod) (l 4) (n 4)) z))) (A 7 (l 5) (h (B .Or (a (o (C .Gt) (l 6) (n 1)) (a (o (C y) (l 5) (t [127])) z))) (M yt) (h (B .Or (a (o (C H) (l 5) (t [92,8,12,13])) (a (B .And (a (o (C H) (l 5) (t [34,10])) (a (p (U .Not) (l 2)) z))) (a (B .And (a (o (C H) (l 5) (t [34,10,9])) (a (o (C y) (l 6) (n 1)) z))) z)))) (M Ad) (M xy) F) (M iP))))) (q (l 3) F))
noncomputable def Cg:Cs:=T [1,2] (f (g 0) (a (l 0) (a (l 1) z)) z) (A 3 (u (a (l 2) z)) (A 1 (f (g 1) (a (l 0) (a (l 1) (a (g 2) z))) z) (w (b true) (.try (A 4 (o j (l 0) (l 1)) F) 3 (A 4 .none F) F (h (o (C N) (l 4) (t [46])) (q (u (a (l 1) (a (l 3) z))) F) F (G 1 d (n 1) (A 1 (f (g 1) (a (l 0) (a (l 1) (a (g 2) z))) z) (T [1,2] (f (g 0) (a (l 0) (a (l 1) z)) z) (G 3 d (u (a (l 2) z)) (h (o (C .Gt) (f (g 4) (a (l 3) z) z) (g 5)) (Z false (g 6) (a (.fst (t (lit "TOML key has more than the allowed ")) (p .fmt (g 5)) (a (t [32,112,97,114,116,115]) z)) z) F) F (A 1 (f (g 1) (a (l 0) (a (l 1) (a (g 2) z))) z) F)))))))) F)))
noncomputable def HH:Cs:=.try (A 2 (o j (l 0) (l 1)) F) 0 (A 2 .none F) F (h (o (C y) (l 2) (t [35])) (q (f (g 2) (a (l 0) (a (o (v d) (l 1) (n 1)) (a (t [10]) z))) (k (ae "error_on") (g 1) (k (ae "error_on_eof") (b false) z))) F) F (q (l 1) F))
noncomputable def HT:Cs:=T [1,3] (f (g 0) (a (l 0) (a (l 1) z)) z) (.try (A 4 (o j (l 0) (l 1)) F) 1 (A 4 .none F) F (h (o (C N) (l 4) (t [61])) (Z false (g 2) (a (l 0) (a (l 1) (a (t (lit "Expected '=' after a key in a key/value pair")) z))) F) F (G 1 d (n 1) (A 1 (f (g 3) (a (l 0) (a (l 1) (a (g 4) z))) z) (T [1,5] (f (g 5) (a (l 0) (a (l 1) (a (l 2) z))) z) (q (u (a (l 1) (a (l 3) (a (l 5) z)))) F))))))
noncomputable def Fz:Cs:=X (t (lit "A decorator to make `parse_float` safe.\n\n`parse_float` must not return dicts or lists, because these types\nwould be mixed with parsed TOML tables and arrays, thus confusing\nthe parser. The returned decorated callable raises `ValueError`\ninstead of returning illegal types.\n")) (h (o (C .Is) (l 0) (g 0)) (q (g 0) F) F (.raw (hs (((fB (stN 69)).tail).tail)) (q (l 1) F)))
noncomputable def D8:Cs:=h (p (U .Not) (l 1)) (q (b false) F) F (A 3 (p (V (ae "_flags")) (l 0)) (.for [4] (c (l 1) z (p (U .USub) (n 1))) (h (o (C .NotIn) (l 4) (l 3)) (q (b false) F) F (A 5 (o j (l 3) (l 4)) (h (o (C H) (l 2) (o j (l 5) (t (lit "recursive_flags")))) (q (b true) F) F (A 3 (o j (l 5) (t [110,101,115,116,101,100])) F)))) (A 6 (o j (l 1) (p (U .USub) (n 1))) (h (o (C H) (l 6) (l 3)) (A 3 (o j (l 3) (l 6)) (q (B .Or (a (o (C H) (l 2) (o j (l 3) (t [102,108,97,103,115]))) (a (o (C H) (l 2) (o j (l 3) (t (lit "recursive_flags")))) z))) F)) F (q (b false) F)))))
noncomputable def yJ:Cs:=X (t (lit "Return a `TOMLDecodeError` where error message is suffixed with\ncoordinates in source.")) (.raw (hs ((fB (stN 67)).tail)) (q (f (g 0) (a (.fst (p .fmt (l 2)) (t [32,40,97,116,32]) (a (p .fmt (f (l 3) (a (l 0) (a (l 1) z)) z)) (a (t [41]) z))) z) z) F))
noncomputable def xS:Cs:=h (o (C .Is) (l 1) .none) (q (l 0) F) F (h (p (U .Not) (f (g 0) (a (f (g 1) (a (l 1) z) z) (a (g 2) z)) z)) (X (f (g 3) (a (n 4) z) z) F) F (q (m (g 2) (ae "__getitem__") (a (l 1) (a (p (V (ae "index")) (l 0)) z))) F))
noncomputable def Ds:Cs:=.raw (hs (fB (cX (stN 45) 0))) F
noncomputable def CG:Cs:=.raw (hs (fB (cX (stN 44) 3))) (.raw (hs ((fB (cX (stN 44) 3)).tail)) F)
noncomputable def zO:Cs:=A 3 (p (V (ae "dict")) (l 0)) (.for [4] (l 1) (h (o (C .NotIn) (l 4) (l 3)) (.raw (hs ((hD ((hD ((fB (cX (stN 45) 1)).tail)).a)).a)) F) F (A 3 (o j (l 3) (l 4)) (h (B .And (a (l 2) (a (f (g 0) (a (l 3) (a (g 1) z)) z) z))) (A 3 (o j (l 3) (p (U .USub) (n 1))) F) F (h (p (U .Not) (f (g 0) (a (l 3) (a (g 2) z)) z)) (Z false (g 3) (a (t (lit "There is no nest behind this key")) z) F) F F)))) (q (l 3) F))
noncomputable def IL:Cs:=X (t (lit "Create new instance of Output(data, flags)")) (q (m (g 0) (ae "__new__") (a (l 0) (a (u (a (l 1) (a (l 2) z))) z))) F)
noncomputable def yG:Cs:=T [1,12,5] (f (g 0) (a (l 0) (a (l 1) (a (l 4) z))) z) (T [6,7] (u (a (c (l 12) z (p (U .USub) (n 1))) (a (o j (l 12) (p (U .USub) (n 1))) z))) (A 8 (o (v d) (l 3) (l 6)) (.raw (hs ((((fB (stN 53)).tail).tail).tail)) (.for [10] (l 9) (h (m (p (V (ae "flags")) (l 2)) (ae "is_") (a (l 10) (a (p (V (ae "EXPLICIT_NEST")) (g 1)) z))) (Z false (g 2) (a (l 0) (a (l 1) (a (.fst (t (lit "Cannot redefine namespace ")) (p .fmt (l 10)) z) z))) F) F (X (m (p (V (ae "flags")) (l 2)) (ae "add_pending") (a (l 10) (a (p (V (ae "EXPLICIT_NEST")) (g 1)) z))) F)) (h (m (p (V (ae "flags")) (l 2)) (ae "is_") (a (l 8) (a (p (V (ae "FROZEN")) (g 1)) z))) (Z false (g 2) (a (l 0) (a (l 1) (a (.fst (t (lit "Cannot mutate immutable namespace ")) (p .fmt (l 8)) z) z))) F) F (.try (A 11 (m (p (V (ae "data")) (l 2)) (ae "get_or_create_nest") (a (l 8) z)) F) 3 (Z true (g 2) (a (l 0) (a (l 1) (a (t [67,97,110,110,111,116,32,111,118,101,114,119,114,105,116,101,32,97,32,118,97,108,117,101]) z))) F) F (h (o (C H) (l 7) (l 11)) (Z false (g 2) (a (l 0) (a (l 1) (a (t [67,97,110,110,111,116,32,111,118,101,114,119,114,105,116,101,32,97,32,118,97,108,117,101]) z))) F) F (h (f (g 4) (a (l 5) (a (u (a (g 5) (a (g 6) z))) z)) z) (X (.raw ((hD ((hD (((((((((fB (stN 53)).tail).tail).tail).tail).tail).tail).tail).tail)).a)).e)) F) F (.raw (hs ((((((((((fB (stN 53)).tail).tail).tail).tail).tail).tail).tail).tail).tail)) (q (l 1) F))))))))))
noncomputable def zg:Cs:=X (t (lit "Parse TOML from a string.")) (A 2 (m (l 0) (ae "replace") (a (t [13,10]) (a (t [10]) z))) (A 3 (n 0) (A 4 (f (g 0) (a (f (g 1) z z) (a (f (g 2) z z) z)) z) (A 5 (u z) (A 1 (f (g 3) (a (l 1) z) z) (w (b true) (A 3 (f (g 4) (a (l 2) (a (l 3) (a (g 5) z))) z) (.try (A 6 (o j (l 2) (l 3)) F) 6 (.brk F) F (h (o (C y) (l 6) (t [10])) (G 3 d (n 1) (.cont F)) F (h (o (C H) (l 6) (g 7)) (A 3 (f (g 8) (a (l 2) (a (l 3) (a (l 4) (a (l 5) (a (l 1) z))))) z) (A 3 (f (g 4) (a (l 2) (a (l 3) (a (g 5) z))) z) F)) (h (o (C y) (l 6) (t [91])) (.try (A 7 (o j (l 2) (o (v d) (l 3) (n 1))) F) 6 (A 7 .none F) F (X (m (p (V (ae "flags")) (l 4)) (ae "finalize_pending") z) (h (o (C y) (l 7) (t [91])) (T [3,5] (f (g 9) (a (l 2) (a (l 3) (a (l 4) z))) z) F) (T [3,5] (f (g 10) (a (l 2) (a (l 3) (a (l 4) z))) z) F) (A 3 (f (g 4) (a (l 2) (a (l 3) (a (g 5) z))) z) F)))) (h (o (C N) (l 6) (t [35])) (Z false (g 11) (a (l 2) (a (l 3) (a (t (lit "Invalid statement")) z))) F) F F) F) (A 3 (f (g 12) (a (l 2) (a (l 3) z)) z) (.try (A 6 (o j (l 2) (l 3)) F) 6 (.brk F) F (h (o (C N) (l 6) (t [10])) (Z false (g 11) (a (l 2) (a (l 3) (a (t (lit "Expected newline or end of document after a statement")) z))) F) F (G 3 d (n 1) F)))))))) (q (p (V (ae "dict")) (p (V (ae "data")) (l 4))) F)))))))
noncomputable def zH:Cs:=h (f (g 7) (a (l 8) (a (g 8) z)) z) (A 16 (u (a (m (f (g 4) (a (l 14) z) z) (ae "replace") (a (l 3) (a (f (g 4) (a (l 4) z) z) z))) (a (m (f (g 4) (a (l 15) z) z) (ae "replace") (a (l 3) (a (f (g 4) (a (l 4) z) z) z))) z))) (h (.raw ((hD (((hD ((((((hD (((((hD ((((((fB (stN 78)).tail).tail).tail).tail).tail)).a).tail).tail).tail)).a).tail).tail).tail).tail)).a).tail)).e)) (A 17 (m (c (l 6) z (p (U .USub) (n 1))) (ae "split") (a (t [10]) z)) (A 8 (o (v d) (o (v d) (o (v d) (o (v d) (t [67,97,110,110,111,116,32,111,118,101,114,119,114,105,116,101,32,97,32,118,97,108,117,101,32,40,97,116,32,108,105,110,101,32]) (f (g 9) (a (f (g 10) (a (l 17) z) z) z) z)) (t [44,32,99,111,108,117,109,110,32])) (f (g 9) (a (o (v d) (f (g 10) (a (o j (l 17) (p (U .USub) (n 1))) z) z) (n 1)) z) z)) (t [41])) F)) (X (m (l 8) (ae "append") (a (l 16) z)) F) F)) F F
noncomputable def yh:Cs:=A 18 (f (g 11) (a (l 5) (a (l 3) (a (f (g 12) (a (l 4) z) z) z))) z) (.raw (hs ((((((((fB (stN 78)).tail).tail).tail).tail).tail).tail).tail)) (q (B .And (a (o (C y) (l 18) (l 6)) (a (o (C y) (l 19) (l 8)) z))) F))
noncomputable def Ih:Cs:=T [13,14] (u (a (o (C y) (o (v .Mod) (l 9) (n 2)) (n 1)) (a (B .Or (a (f (g 1) (a (l 12) (a (n 3) (a (b false) z))) z) (a (L (a (u (a (t [97]) (a (t [97]) z))) z)) z))) z))) (h (o (C .NotIn) (f (g 4) (a (l 14) z) z) (l 7)) (X (m (l 7) (ae "append") (a (f (g 4) (a (l 14) z) z) z)) (A 15 (o (v d) (f (g 1) (a (l 11) (a (n 2) (a (l 13) z))) z) (f (g 1) (a (l 10) (a (n 4) (a (l 13) z))) z)) (G 5 d (f (g 5) (a (l 14) (a (l 15) (a (l 13) z))) z) (G 6 d (f (g 5) (a (f (g 6) (a (l 14) (a (l 3) (a (l 4) z))) z) (a (f (g 6) (a (l 15) (a (l 3) (a (l 4) z))) z) (a (l 13) z))) z) (M zH))))) F F)
noncomputable def vc:Cs:=T [5,6,7,8] (u (a (t []) (a (t []) (a (L z) (a (L z) z))))) (.for [9] (o (v d) (L (a (n 6444549252) (a (n 1133873513603) z))) (l 0)) (T [10,11] (f (g 2) (a (o (v .FloorDiv) (f (g 3) (a (l 9) z) z) (n 2)) (a (n 4096) z)) z) (T [10,12] (f (g 2) (a (l 10) (a (n 262144) z)) z) (M Ih))) (M yh))
noncomputable def tN:Cs:=A 4 (B .Or (a (f (g 1) (a (o (v .Mod) (o (v .FloorDiv) (l 1) (n 128)) (n 262144)) (a (o (v d) (n 1) (o (v .Mult) (o (v .FloorDiv) (o (v .Mod) (l 1) (n 3)) (n 2)) (n 2))) (a (b false) z))) z) (a (L (a (u (a (t [98]) (a (t [98]) z))) z)) z))) (M vc)
noncomputable def yD:Cs:=A 3 (o (v d) (o j (l 2) (o (v .Mod) (l 1) (n 8))) (I (o (C y) (o (v .Mod) (o (v .FloorDiv) (l 1) (n 8)) (n 2)) (n 1)) (o j (l 2) (o (v .Mod) (o (v .FloorDiv) (l 1) (n 16)) (n 8))) (t []))) (M tN)
noncomputable def EV:Cs:=A 2 (t [97,98,34,92,10,32,9,233]) (M yD)
noncomputable def z8:Cs:=A 1 (o (v d) (f (g 0) (a (l 0) z) z) (n 1408)) (M EV)
end
section
variable {c:FC}{σ:AS}{Q:PV->AS->Prop}{E:aG->AS->Prop}{ev:bB}{w:aR}{b:am}{n:Nat}{x y z u v:PV}
noncomputable def U7:Fn:=⟨[ae "src",ae "pos",ae "chars"],[(ae "IndexError",.type "IndexError")]⟩
theorem NL(P:Pl c ev w b (n+1))(S:aO w b)(h:Hx c σ Q E w b n U7 Jx [x,y,z]):aM c (.val (.ref 545)) [x,y,z] [] [] σ Q E:=
 fk P S h (gv S [51] rfl) (jb λZ Z Z=>by kernel_rfl) (o:=Ga w.params) (oc:=HC w.params) (np:=3)
noncomputable def V':Fn:=⟨[ae "codepoint"],[]⟩
theorem Ta(P:Pl c ev w b (n+1))(S:aO w b)(h:Hx c σ Q E w b n V' FJ [x]):aM c (.val (.ref 693)) [x] [] [] σ Q E:=
 fk P S h (gv S [] rfl) (pJ λZ=>by kernel_rfl) (o:=IU w.params) (oc:=EH w.params) (np:=1)
noncomputable def Vl:Fn:=⟨[ae "src",ae "pos",ae "hex_len",ae "hex_str",ae "hex_int"],[(ae "len",.builtin "len"),(ae "HEXDIGIT_CHARS",.ref 348),(ae "suffixed_err",.ref 686),(ae "int",.type "int"),(ae "is_unicode_scalar_value",.ref 693),(ae "chr",.builtin "chr")]⟩
theorem VD(P:Pl c ev w b (n+1))(S:aO w b)(h:Hx c σ Q E w b n Vl DY [x,y,z,.al,.al]):aM c (.val (.ref 651)) [x,y,z] [] [] σ Q E:=
 fk P S h (gv S [52,0,1,53,2,54] rfl) (jb λZ Z Z=>by kernel_rfl) (o:=Eh w.params) (oc:=Jn w.params) (np:=3)
noncomputable def Sz:Fn:=⟨[ae "src",ae "pos"],[(ae "parse_basic_str_escape",.ref 637)]⟩
theorem QM(P:Pl c ev w b (n+1))(S:aO w b)(h:Hx c σ Q E w b n Sz Hi [x,y]):aM c (.val (.ref 644)) [x,y] [] [] σ Q E:=
 fk P S h (gv S [3] rfl) (pE λZ Z=>by kernel_rfl) (o:=Dc w.params) (oc:=EL w.params) (np:=2)
noncomputable def Dh:Fn:=⟨[ae "src",ae "pos",ae "multiline",ae "error_on",ae "parse_escapes",ae "result",ae "start_pos",ae "char",ae "parsed_escape"],[(ae "ILLEGAL_MULTILINE_BASIC_STR_CHARS",.ref 329),(ae "parse_basic_str_escape_multiline",.ref 644),(ae "ILLEGAL_BASIC_STR_CHARS",.ref 324),(ae "parse_basic_str_escape",.ref 637),(ae "IndexError",.type "IndexError"),(ae "suffixed_err",.ref 686)]⟩
theorem WW(P:Pl c ev w b (n+1))(S:aO w b)(h:Hx c σ Q E w b n Dh FH [x,y,z,.al,.al,.al,.al,.al,.al]):aM c (.val (.ref 672)) [x,y] [ae "multiline"] [z] σ Q E:=
 fk P S h (gv S [4,5,6,3,51,1] rfl) (Ab λZ Z Z=>by kernel_rfl) (o:=Iy w.params) (oc:=CP w.params) (np:=3)
noncomputable def NQ:Fn:=⟨[ae "src",ae "pos"],[(ae "parse_basic_str",.ref 672)]⟩
theorem MF(P:Pl c ev w b (n+1))(S:aO w b)(h:Hx c σ Q E w b n NQ JK [x,y]):aM c (.val (.ref 615)) [x,y] [] [] σ Q E:=
 fk P S h (gv S [7] rfl) (pE λZ Z=>by kernel_rfl) (o:=Ef w.params) (oc:=Io w.params) (np:=2)
noncomputable def Ik:Fn:=⟨[ae "src",ae "pos",ae "literal",ae "delim",ae "end_pos",ae "result"],[(ae "ILLEGAL_MULTILINE_LITERAL_STR_CHARS",.ref 329),(ae "skip_until",.ref 552),(ae "parse_basic_str",.ref 672)]⟩
theorem UL(P:Pl c ev w b (n+1))(S:aO w b)(h:Hx c σ Q E w b n Ik Ho [x,y,z,.al,.al,.al]):aM c (.val (.ref 665)) [x,y] [ae "literal"] [z] σ Q E:=
 fk P S h (gv S [8,9,7] rfl) (Ab λZ Z Z=>by kernel_rfl) (o:=Dy w.params) (oc:=Cp w.params) (np:=3)
noncomputable def O2:Fn:=⟨[ae "src",ae "pos",ae "parse_float",ae "char",ae "datetime_match",ae "datetime_obj",ae "e",ae "localtime_match",ae "number_match",ae "first_three",ae "first_four"],[(ae "IndexError",.type "IndexError"),(ae "parse_multiline_str",.ref 665),(ae "parse_one_line_basic_str",.ref 615),(ae "parse_literal_str",.ref 658),(ae "parse_array",.ref 622),(ae "parse_inline_table",.ref 629),(ae "RE_DATETIME",.ref 117),(ae "RE_LOCALTIME",.ref 112),(ae "match_to_localtime",.ref 252),(ae "RE_NUMBER",.ref 107),(ae "match_to_number",.ref 259),(ae "suffixed_err",.ref 686)]⟩
theorem TP(P:Pl c ev w b (n+1))(S:aO w b)(h:Hx c σ Q E w b n O2 Ci [x,y,z,.al,.al,.al,.al,.al,.al,.al,.al]):aM c (.val (.ref 679)) [x,y,z] [] [] σ Q E:=
 fk P S h (gv S [51,10,11,12,13,14,15,16,17,18,19,1] rfl) (jb λZ Z Z=>by kernel_rfl) (o:=Go w.params) (oc:=Gg w.params) (np:=3)
noncomputable def TJ:Fn:=⟨[ae "src",ae "pos",ae "char",ae "start_pos"],[(ae "IndexError",.type "IndexError"),(ae "BARE_KEY_CHARS",.ref 339),(ae "skip_chars",.ref 545),(ae "parse_literal_str",.ref 658),(ae "parse_one_line_basic_str",.ref 615),(ae "suffixed_err",.ref 686)]⟩
theorem WM(P:Pl c ev w b (n+1))(S:aO w b)(h:Hx c σ Q E w b n TJ Dj [x,y,.al,.al]):aM c (.val (.ref 608)) [x,y] [] [] σ Q E:=
 fk P S h (gv S [51,20,21,12,11,1] rfl) (pE λZ Z=>by kernel_rfl) (o:=FV w.params) (oc:=C9 w.params) (np:=2)
noncomputable def OQ:Fn:=⟨[ae "units"],[]⟩
theorem W7(P:Pl c ev w b (n+1))(S:aO w b)(h:Hx c σ Q E w b n OQ Gx [x]):aM c (.val (.ref 710)) [x] [] [] σ Q E:=
 fk P S h (gv S [] rfl) (pJ λZ=>by kernel_rfl) (o:=JM w.params) (oc:=JF w.params) (np:=1)
noncomputable def WJ:Fn:=⟨[ae "units"],[]⟩
theorem Vx(P:Pl c ev w b (n+1))(S:aO w b)(h:Hx c σ Q E w b n WJ CW [x]):aM c (.val (.ref 715)) [x] [] [] σ Q E:=
 fk P S h (gv S [] rfl) (pJ λZ=>by kernel_rfl) (o:=FY w.params) (oc:=DQ w.params) (np:=1)
noncomputable def xz:Fn:=⟨[ae "body",ae "place",ae "many",ae "head",ae "marks",ae "k",ae "end",ae "value"],[(ae "range",.type "range"),(ae "len",.builtin "len"),(ae "parse_value",.ref 679),(ae "float",.type "float"),(ae "TOMLDecodeError",.ref 364)]⟩
theorem PL(P:Pl c ev w b (n+1))(S:aO w b)(h:Hx c σ Q E w b n xz CI [x,y,z,.al,.al,.al,.al,.al]):aM c (.val (.ref 722)) [x,y,z] [] [] σ Q E:=
 fk P S h (gv S [55,52,22,56,23] rfl) (jb λZ Z Z=>by kernel_rfl) (o:=Il w.params) (oc:=CL w.params) (np:=3)
noncomputable def Qe:Fn:=⟨[ae "name",ae "text",ae "many",ae "row"],[(ae "_law_sources",.ref 710)]⟩
theorem Oc(P:Pl c ev w b (n+1))(S:aO w b)(h:Hx c σ Q E w b n Qe ID [x,y,z,.al]):aM c (.val (.ref 743)) [x,y,z] [] [] σ Q E:=
 fk P S h (gv S [24] rfl) (jb λZ Z Z=>by kernel_rfl) (o:=C1 w.params) (oc:=Ek w.params) (np:=3)
noncomputable def Us:Fn:=⟨[ae "units",ae "old",ae "new",ae "made",ae "k"],[(ae "len",.builtin "len"),(ae "_law_text",.ref 715)]⟩
theorem UV(P:Pl c ev w b (n+1))(S:aO w b)(h:Hx c σ Q E w b n Us FD [x,y,z,.al,.al]):aM c (.val (.ref 736)) [x,y,z] [] [] σ Q E:=
 fk P S h (gv S [52,25] rfl) (jb λZ Z Z=>by kernel_rfl) (o:=Jb w.params) (oc:=Fo w.params) (np:=3)
noncomputable def tO:Fn:=⟨[ae "src",ae "old",ae "new",ae "made",ae "pos",ae "named",ae "end",ae "value",ae "many",ae "head",ae "marks",ae "body",ae "place",ae "sign",ae "behind"],[(ae "len",.builtin "len"),(ae "parse_value",.ref 679),(ae "float",.type "float"),(ae "parse_key_part",.ref 608),(ae "_law_right",.ref 722)]⟩
theorem Nv(P:Pl c ev w b (n+1))(S:aO w b)(h:Hx c σ Q E w b n tO DR [x,y,z,.al,.al,.al,.al,.al,.al,.al,.al,.al,.al,.al,.al]):aM c (.val (.ref 729)) [x,y,z] [] [] σ Q E:=
 fk P S h (gv S [52,22,56,26,27] rfl) (jb λZ Z Z=>by kernel_rfl) (o:=JA w.params) (oc:=JP w.params) (np:=3)
noncomputable def lb:Fn:=⟨[ae "left",ae "most",ae "many",ae "units",ae "digit",ae "sign",ae "way",ae "source",ae "digits_v",ae "figures"],[(ae "len",.builtin "len"),(ae "divmod",.builtin "divmod"),(ae "ord",.builtin "ord"),(ae "range",.type "range")]⟩
theorem Tv:lb.bw zb (fB (stN 71))=fB (stN 71):=by kernel_rfl
theorem Nb(S:aO w b):∀p∈lb.gs,dZ b p.1 p.2:=gv S [52,57,58,55] rfl
noncomputable def Q6:Fn:=⟨[ae "src",ae "pos",ae "key_part",ae "key",ae "char"],[(ae "parse_key_part",.ref 608),(ae "skip_chars",.ref 545),(ae "TOML_WS",.ref 330),(ae "IndexError",.type "IndexError"),(ae "len",.builtin "len"),(ae "MAX_KEY_PARTS",(.int (1000) 1536)),(ae "RecursionError",.type "RecursionError")]⟩
theorem MM(P:Pl c ev w b (n+1))(S:aO w b)(h:Hx c σ Q E w b n Q6 Cg [x,y,.al,.al,.al]):aM c (.val (.ref 601)) [x,y] [] [] σ Q E:=
 fk P S h (gv S [26,21,28,51,52,29,59] rfl) (pE λZ Z=>by kernel_rfl) (o:=FU w.params) (oc:=GG w.params) (np:=2)
noncomputable def QV:Fn:=⟨[ae "src",ae "pos",ae "char"],[(ae "IndexError",.type "IndexError"),(ae "ILLEGAL_COMMENT_CHARS",.ref 324),(ae "skip_until",.ref 552)]⟩
theorem SX(P:Pl c ev w b (n+1))(S:aO w b)(h:Hx c σ Q E w b n QV HH [x,y,.al]):aM c (.val (.ref 559)) [x,y] [] [] σ Q E:=
 fk P S h (gv S [51,30,9] rfl) (pE λZ Z=>by kernel_rfl) (o:=HK w.params) (oc:=Cf w.params) (np:=2)
noncomputable def V1:Fn:=⟨[ae "src",ae "pos",ae "parse_float",ae "key",ae "char",ae "value"],[(ae "parse_key",.ref 601),(ae "IndexError",.type "IndexError"),(ae "suffixed_err",.ref 686),(ae "skip_chars",.ref 545),(ae "TOML_WS",.ref 330),(ae "parse_value",.ref 679)]⟩
theorem VC(P:Pl c ev w b (n+1))(S:aO w b)(h:Hx c σ Q E w b n V1 HT [x,y,z,.al,.al,.al]):aM c (.val (.ref 594)) [x,y,z] [] [] σ Q E:=
 fk P S h (gv S [31,51,1,21,28,22] rfl) (jb λZ Z Z=>by kernel_rfl) (o:=HL w.params) (oc:=Gp w.params) (np:=3)
noncomputable def RZ:Fn:=⟨[ae "parse_float",ae "safe_parse_float"],[(ae "float",.type "float")]⟩
theorem Py(P:Pl c ev w b (n+1))(S:aO w b)(h:Hx c σ Q E w b n RZ Fz [x,.al]):aM c (.val (.ref 700)) [x] [] [] σ Q E:=
 fk P S h (gv S [56] rfl) (pJ λZ=>by kernel_rfl) (o:=GC w.params) (oc:=Hk w.params) (np:=1)
noncomputable def NG:Fn:=⟨[ae "self",ae "key",ae "flag",ae "cont",ae "k",ae "inner_cont",ae "key_stem"],[]⟩
theorem T4(P:Pl c ev w b (n+1))(S:aO w b)(h:Hx c σ Q E w b n NG D8 [x,y,z,.al,.al,.al,.al]):aM c (.val (.ref 424)) [x,y,z] [] [] σ Q E:=
 fk P S h (gv S [] rfl) (jb λZ Z Z=>by kernel_rfl) (o:=za w.params) (oc:=Jf w.params) (np:=3)
noncomputable def y5:Fn:=⟨[ae "src",ae "pos",ae "msg",ae "coord_repr"],[(ae "TOMLDecodeError",.ref 364)]⟩
theorem UJ:y5.bw yJ (fB (stN 67))=fB (stN 67):=by kernel_rfl
theorem Sn(S:aO w b):∀p∈y5.gs,dZ b p.1 p.2:=gv S [23] rfl
noncomputable def nz:Fn:=⟨[ae "src",ae "pos",ae "multiline",ae "escape_id",ae "char"],[(ae "skip_chars",.ref 545),(ae "TOML_WS",.ref 330),(ae "IndexError",.type "IndexError"),(ae "suffixed_err",.ref 686),(ae "TOML_WS_AND_NEWLINE",.ref 338),(ae "parse_hex_char",.ref 651),(ae "BASIC_STR_ESCAPE_REPLACEMENTS",.ref 354),(ae "KeyError",.type "KeyError")]⟩
theorem DW(S:aO w b):∀p∈nz.gs,dZ b p.1 p.2:=gv S [21,28,51,1,32,33,34,60] rfl
noncomputable def uQ:Fn:=⟨[ae "self",ae "obj",ae "objtype"],[(ae "issubclass",.builtin "issubclass"),(ae "type",.type "type"),(ae "tuple",.type "tuple"),(ae "_wall",.ref 73)]⟩
theorem OJ:uQ.bw xS (fB (cX (stN 19) 1))=fB (cX (stN 19) 1):=by kernel_rfl
theorem TZ(S:aO w b):∀p∈uQ.gs,dZ b p.1 p.2:=gv S [61,62,63,35] rfl
noncomputable def Jh:Fn:=⟨[ae "self"],[]⟩
theorem OT:Jh.bw Ds (fB (cX (stN 45) 0))=fB (cX (stN 45) 0):=by kernel_rfl
theorem Uh(S:aO w b):∀p∈Jh.gs,dZ b p.1 p.2:=gv S [] rfl
noncomputable def FK:Fn:=⟨[ae "self"],[(ae "set",.type "set")]⟩
theorem RT:FK.bw CG (fB (cX (stN 44) 3))=fB (cX (stN 44) 3):=by kernel_rfl
theorem Wc(S:aO w b):∀p∈FK.gs,dZ b p.1 p.2:=gv S [70] rfl
noncomputable def yV:Fn:=⟨[ae "self",ae "key",ae "access_lists",ae "cont",ae "k"],[(ae "isinstance",.builtin "isinstance"),(ae "list",.type "list"),(ae "dict",.type "dict"),(ae "KeyError",.type "KeyError")]⟩
theorem P6:yV.bw zO (fB (cX (stN 45) 1))=fB (cX (stN 45) 1):=by kernel_rfl
theorem Oy(S:aO w b):∀p∈yV.gs,dZ b p.1 p.2:=gv S [64,65,66,60] rfl
noncomputable def Cv:Fn:=⟨[ae "_cls",ae "data",ae "flags"],[(ae "tuple",.type "tuple")]⟩
theorem RS:Cv.bw IL (fB (cX (stN 46) 4))=fB (cX (stN 46) 4):=by kernel_rfl
theorem UC(S:aO w b):∀p∈Cv.gs,dZ b p.1 p.2:=gv S [63] rfl
noncomputable def yU:Fn:=⟨[ae "src",ae "pos",ae "out",ae "header",ae "parse_float",ae "value",ae "key_parent",ae "key_stem",ae "abs_key_parent",ae "relative_path_cont_keys",ae "cont_key",ae "nest",ae "key"],[(ae "parse_key_value_pair",.ref 594),(ae "Flags",.ref 427),(ae "suffixed_err",.ref 686),(ae "KeyError",.type "KeyError"),(ae "isinstance",.builtin "isinstance"),(ae "dict",.type "dict"),(ae "list",.type "list"),(ae "range",.type "range"),(ae "len",.builtin "len")]⟩
theorem TL:yU.bw yG (fB (stN 53))=fB (stN 53):=by kernel_rfl
theorem Sd(S:aO w b):∀p∈yU.gs,dZ b p.1 p.2:=gv S [36,37,1,60,64,66,65,55,52] rfl
noncomputable def yw:Fn:=⟨[ae "s",ae "parse_float",ae "src",ae "pos",ae "out",ae "header",ae "char",ae "second_char"],[(ae "Output",.ref 535),(ae "NestedDict",.ref 463),(ae "Flags",.ref 427),(ae "make_safe_parse_float",.ref 700),(ae "skip_chars",.ref 545),(ae "TOML_WS",.ref 330),(ae "IndexError",.type "IndexError"),(ae "KEY_INITIAL_CHARS",.ref 347),(ae "key_value_rule",.ref 587),(ae "create_list_rule",.ref 580),(ae "create_dict_rule",.ref 573),(ae "suffixed_err",.ref 686),(ae "skip_comment",.ref 559)]⟩
theorem Wb:yw.bw zg (fB (stN 43))=fB (stN 43):=by kernel_rfl
theorem O8(S:aO w b):∀p∈yw.gs,dZ b p.1 p.2:=gv S [38,39,37,40,21,28,51,41,42,43,44,1,45] rfl
noncomputable def cg:Fn:=⟨[ae "script",ae "total",ae "signs",ae "old",ae "new",ae "src",ae "due_src",ae "names",ae "due",ae "x",ae "left",ae "some",ae "digits_v",ae "many",ae "name",ae "text",ae "pair",ae "rows",ae "made",ae "told",ae "error"],[(ae "sum",.builtin "sum"),(ae "_law_units",.ref 705),(ae "divmod",.builtin "divmod"),(ae "abs",.builtin "abs"),(ae "_law_text",.ref 715),(ae "_law_row",.ref 743),(ae "_law_list",.ref 736),(ae "isinstance",.builtin "isinstance"),(ae "list",.type "list"),(ae "str",.type "str"),(ae "len",.builtin "len"),(ae "_law_tool",.ref 729),(ae "_law_sources",.ref 710),(ae "loads",.ref 375),(ae "TOMLDecodeError",.ref 364)]⟩
theorem Sg:cg.bw z8 (fB (stN 78))=fB (stN 78):=by kernel_rfl
theorem OE(S:aO w b):∀p∈cg.gs,dZ b p.1 p.2:=gv S [67,46,57,68,25,47,48,64,65,69,52,49,24,50,23] rfl
end
end
section
theorem M8{α:Type}{x y u:α}{P:α->Prop}{c1 c2 c3 c4 c5:Prop}[Decidable c1][Decidable c2][Decidable c3][Decidable c4][Decidable c5](hx:P x)(hc:c4\/¬c5)(hy:¬c1->¬c3->P y) :
  P (if c1 then x else if c2 then x else if c3 then x else if c4 then x else if c5 then u else y):=by
 by_cases h1:c1
 .rw[aA h1];exact hx
 .rw[an h1]
  by_cases h2:c2
  .rw[aA h2];exact hx
  .rw[an h2]
   by_cases h3:c3
   .rw[aA h3];exact hx
   .rw[an h3]
    by_cases h4:c4
    .rw[aA h4];exact hx
    .rw[an h4,an (hc.resolve_left h4)];exact hy h1 h3
theorem PC{α β:Type}(f:α->Option β)(g:α->β)(hf:∀p,f p=none\/f p=some (g p)):∀ps:List α,(ps.filterMap f).length<=ps.length/\((ps.filterMap f).length=ps.length->ps.filterMap f=ps.map g):=λps=>by
 induction ps with
 | nil=>exact⟨bk _,λZ=>rfl⟩
 | cons p ps ih=>
  rcases hf p with h | h
  .rw[List.filterMap_cons_none h,b_]
   exact⟨kV ih.1,λe=>absurd ih.1 (by lia)⟩
  .rw[List.filterMap_cons_some h,b_,b_,cJ]
   exact⟨jo ih.1,λe=>by rw[ih.2 (BQ e)]⟩
theorem IP{a b:Bool}(h:¬(a||b)=true):a=false/\b=false:=by
 cases a <;> cases b <;> first | exact⟨rfl,rfl⟩ | exact absurd rfl h
theorem C6{a b:Nat}(h:(a !=b)=false):a=b:=by
 by_cases e:a=b
 .exact e
 .replace h:=(bne_iff_ne.mpr e)▸h;cases h
theorem Wg{ps:List (af×aT)}{vs:List aL}{k k':Nat}{p q:aT}{env:bB}(hc:vs.all (LW 8)=true\/¬vs.all (LX 8)=true) :
  qC [.Tuple (ps.map λp=>.Name p.1 p.2) k p] (.Tuple vs k' q) env=pure none\/(qC [.Tuple (ps.map λp=>.Name p.1 p.2) k p] (.Tuple vs k' q) env=pure (some (ps.map (·.1)))/\(ps.length=2\/ps.length=3)):=by
 unfold qC
 refine M8 (P:=λm=>m=pure none\/(m=pure (some (ps.map (·.1)))/\(ps.length=2\/ps.length=3))) (.inl rfl) hc λh1 h3=>.inr ⟨?_,?_⟩
 .rw[J9]
  refine aI (λx=>pure (some x)) ((PC _ _ (λp=>?_) ps).2 ?_)
  .exact(Classical.em _).elim (λh=>.inr (aA h)) λh=>.inl (an h)
  .have:=C6 (IP h3).1
   replace this:=J9▸this;replace this:=(db ..)▸this
   exact this
 .have h:=(KP.mp (IP h1).1).1
  replace h:=(db ..)▸h
  exact(vR.mp (by rw[<-Bool.not_not (_||_),h];rfl)).imp eq_of_beq eq_of_beq
theorem DC{c:FC}{σ τ:AS}(hs:σ.st=τ.st)(hg:∀x,σ.get x=τ.get x):d6 c σ τ:=λs I=>
 ⟨I.b0,I.fr,I.up1,I.cq,let ⟨mm,h1,h2⟩:=I.ns;⟨mm,h1,λx=>hg x▸h2 x⟩,hs▸I.st,I.L0,I.L1,I.Lo,I.tab,I.os,I.gens,hs▸I.nd,I.tk,hs▸I.dc⟩
theorem nP(σ:AS)(x y:af)(v:PV):(σ.set x v).get y=if y=x then v else σ.get y:=yB x v y σ.loc
theorem set_comm{σ τ:AS}{x y:af}{a b:PV}(h:∀z,σ.get z=τ.get z)(n:x≠y)(z:af):((σ.set x a).set y b).get z=((τ.set y b).set x a).get z:=by
 rw[nP,nP,nP,nP,h]
 by_cases h1:z=y
 .rw[aA h1,an (λh2=>n (h2.symm.trans h1)),aA h1]
 .rw[an h1,an h1]
theorem set_same{σ τ:AS}{x:af}{a:PV}(h:∀z,σ.get z=τ.get z)(z:af):(σ.set x a).get z=(τ.set x a).get z:=by rw[nP,nP,h]
theorem zW{α:Type}{l:List α}(h:l.length=2):∃a b,l=[a,b]:=by
 cases l with
 | nil=>cases h
 | cons a l=>
  cases l with
  | nil=>cases h
  | cons b l=>exact(jW a b (by rw[List.eq_nil_of_length_eq_zero (BQ (BQ h))]))
theorem Ez{α:Type}{l:List α}(h:l.length=3):∃a b d,l=[a,b,d]:=by
 cases l with
 | nil=>cases h
 | cons a l=>refine dV (zW (BQ h)) λb d e=>?_;exact(He a b d (by rw[e]))
theorem Nm{c:FC}{N:AS->Prop}(hN:∀{σ τ},d6 c τ σ->N σ->N τ){ns:List af}{xs:List PV}{σ:AS}(hl:ns.length=2\/ns.length=3)(hx:xs.length=ns.length)(hn:ns.Nodup)(h:g9 ns xs N σ):g9 ns.reverse xs.reverse N σ:=by
 rcases hl with hl | hl
 .refine dV (zW hl) λx y j1=>?_;subst j1
  refine dV (zW hx) λa b j1=>?_;subst j1
  have nxy:x≠y:=λz=>(jn.mp hn).1 (z▸.head _)
  exact(hN (σ:=(σ.set x a).set y b) (DC rfl λz=>set_comm (λZ=>rfl) (cV nxy) z) h:N ((σ.set y b).set x a))
 .refine jX (Ez hl) λx y z j1=>?_;subst j1
  refine jX (Ez hx) λa b d j1=>?_;subst j1
  have hn:=jn.mp hn
  have nxy:x≠y:=λq=>hn.1 (q▸.head _)
  have nxz:x≠z:=λq=>hn.1 (q▸.tail _ (.head _))
  have nyz:y≠z:=λq=>(jn.mp hn.2).1 (q▸.head _)
  refine(hN (σ:=((σ.set x a).set y b).set z d) (DC rfl λq=>?_) h:N (((σ.set z d).set y b).set x a))
  exact(set_same (λq=>set_comm (λZ=>rfl) (cV nyz) q) q).trans ((set_comm (σ:=σ.set y b) (λZ=>rfl) (cV nxz) q).trans (set_same (λq=>set_comm (λZ=>rfl) (cV nxy) q) q))
section
variable {F:Fn}{Γ:Gm F}{σ:AS}{d:Dn}{v:List PV}{t:List (aj×AO)}{k:Kt}
theorem bl.wk{r:Cs}{τ:AS}(w:d6 Γ.c τ σ)(h:bl Γ r σ d.f d.x):bl Γ r τ d.f d.x:=λl hl s I=>h l hl s (w s I)
theorem xp{is:List Nat}{l:Ce}{r:Cs}(G:Good Γ.c F)(hn:(is.map F.name).Nodup)(hc:(∀es,(F.cf l es).all (LW 8)=true)\/∀es,(F.cf l es).all (LX 8)=false)
  (H:bK Γ (.tup l) σ (λv τ=>(∀i∈is,F.has i)->∃xs,v = .tup xs/\kD Γ.c τ xs/\xs.length=is.length/\g9 (is.map F.name) xs (dk Γ r d .next) τ) d.x):bl Γ (.eE is (.tup l) r) σ d.f d.x:=λst h=>by
 have hx:=aI (λl'=>F.rb (.tup l) (hD l').e) h
 refine mh (uZ G is _ (aI (λl=>F.ps is (eD (hD l).t).1) h)) λps e1 e2 e3 e4=>?_
 refine gA h ?_
 unfold Fn.tup
 have e1:F.ps is (eD (hD st).t).1=ps.map (λp=>.Name p.1 p.2):=e1
 rw[e1]
 have H:=(H _ hx).mn (Q':=λv τ=>∃xs,v = .tup xs/\kD Γ.c τ xs/\xs.length=ps.length/\g9 (ps.map (·.1)) xs (dk Γ r d .next) τ) λv τ q=>let ⟨xs,a1,U,a2,a3⟩:=q e4;⟨xs,a1,U,a2.trans (by have:=aI gR e2;rwa [db,db] at this:ps.length=is.length).symm,by rw[e2];exact a3⟩
 rcases Wg (k:=(eD (hD st).t).2.1) (p:=(hD st).t.pos) (k':=(eD (hD st).e).2.1) (q:=(hD st).e.pos) (env:=Γ.c.env) (hc.imp (λz=>z _) λz=>by rw[z];exact cm) with hw | ⟨hw,h23⟩
 .exact Ex.mn (Jr (N:=dk Γ r d .next) (Qf:=d.f) G.ok e3 rfl hw H) λf τ q=>by cases f <;> exact q
 .refine Ex.mn (Tu (N:=dk Γ r d .next) (Qf:=d.f) G.ok e3 rfl hw (H.mn λv τ ⟨xs,a1,U,a2,a3⟩=>⟨xs,a1,U,a2,Nm (λw q=>bl.wk w q) (by rw[db];exact h23) (by rw[db];exact a2) (e2▸hn) a3⟩)) λf τ q=>by cases f <;> exact q
theorem gK{x:PV}{t':List (aj×AO)}(G:Good Γ.c F)(h:vV Γ 99 x v t' k):(D Γ k).e x ⟨(F.at v t).loc,t'⟩:=ge G h
theorem UR{x:PV}(G:Good Γ.c F)(h:vV Γ 99 x v t k):(D Γ k).e x ⟨iw F.nm v,t⟩:=ge G h
theorem d6.drop{c:FC}{p:aj×AO}:d6 c (F.at v (p::t)) (F.at v t):=λZ I=>I.drop
theorem xr{c:FC}{t':List (aj×AO)}(h:t.Sublist t'):d6 c (F.at v t') (F.at v t):=λZ I=>I.Tg h
theorem mq{is:List Nat}{l:Ce}{r:Cs}(G:Good Γ.c F)(hh:Γ.c.A.handled=none)(hn:(is.map F.name).Nodup)(hc:(∀es,(F.cf l es).all (LW 8)=true)\/∀es,(F.cf l es).all (LX 8)=false)
  (H:vE Γ 99 (.tup l) v t (.eE is (.seq r k))):bl Γ (.eE is (.tup l) r) (F.at v t) (D Γ k).f (D Γ k).x:=xp G hn hc (λx hx=>((so G 99).e H x hx).mn λv τ q hi=>let ⟨xs,a1,a2⟩:=q hi;⟨xs,a1,.ok hh,a2⟩)
end
end
local macro_rules | `(tactic| walk_at "n")=>`(tactic| dsimp only[vE,vT,vL,vK,vO,vB,vA,vJ,vX,vY,vV,vF,vS,cz,xB,Cq,g8,pK,nj,eU,su,uw,iM,n7,cond_true,cond_false,Ce.odd,Ce.isCall,Ce.isNm,Ce.isNil,Ce.jd,Ce.nt,Ce.oZ,Ce.nv,Cs.rJ,XK,Option.bind,Bool.not_true,Bool.not_false,TT,Xi,WG,QH,List.append,jx])
local macro_rules | `(tactic| walk_at "g1")=>`(tactic| first
 | ((with_reducible refine ge (by assumption) ?_);walk_at "n")
 | ((with_reducible refine gf (by assumption) ?_);walk_at "n")
 | ((with_reducible refine gb (by assumption) ?_);walk_at "n")
 | ((with_reducible refine gm (by assumption) ?_);walk_at "n")
 | ((with_reducible refine gx ?_);walk_at "n")
 | with_reducible refine e_.ret (by assumption) ?_
 | with_reducible refine Br.t ?_
 | with_reducible refine Br.f ?_
 | with_reducible refine qR ?_)
local macro_rules | `(tactic| walk_at "go")=>`(tactic| repeat walk_at "g1")
section
noncomputable def bu(l:List Nat)(L:List af)(n:Nat):Nat:=n+((l.drop n).takeWhile λu=>L.contains (ms [u])).length
theorem Vf{l:List Nat}{L:List af}{n u:Nat}(h:l[n]?=some u)(hu:L.contains (ms [u])=true):bu l L n=bu l L (n+1):=by
 refine aP (dY.mp h) λhn hx=>?_
 unfold bu
 rw[oO hn,hx,wM,aA hu]
 simp;lia
theorem Nf{l:List Nat}{L:List af}{n u:Nat}(h:l[n]?=some u)(hu:L.contains (ms [u])=false):bu l L n=n:=by
 refine aP (dY.mp h) λhn hx=>?_
 unfold bu
 rw[oO hn,hx,wM,an (by rw[hu];decide)]
 exact Lp.mpr rfl
theorem V_{l:List Nat}{L:List af}{n:Nat}(h:l[n]?=none):bu l L n=n:=by
 unfold bu
 rw[sX (by simpa using h)];exact Lp.mpr rfl
theorem rH{l:List Nat}{L:List af}{n:Nat}(h:n<=l.length):bu l L n<=l.length:=by
 unfold bu
 have:=(List.takeWhile_prefix (l:=l.drop n) (p:=λu=>L.contains (ms [u]))).length_le
 simp only[kb] at this
 exact(Nat.le_sub_iff_add_le' ‹_›).mp ‹_›
theorem r_{i:Nat}(h:i<2^60):((i:Int)).natAbs.log2<1920:=by
 rw[ZF]
 by_cases h0:i=0
 .subst h0;decide
 .have:=(Nat.log2_lt h0).mpr h
  exact bQ ‹_› (by decide)
theorem pa{i:Nat}(h:i<2^60):(fu i).length<=1921:=by
 have:=PyProof.Rows.int_text_len_1921 (r_ h)
 replace this:=(show ae (toString (i:Int))=ms (fu i) from rfl)▸this;replace this:=(bP ..)▸this
 exact this
noncomputable def kq(l:List Nat)(p:Nat):List Nat:=
 if l.length<=p then lit "end of document" else
 lit "line "++fu (((l.take p).count 10+1:Nat):Int)++lit ", column "++fu ((if(l.take p).count 10=0 then p+1 else p-(d8 l 10 p).getD 0:Nat):Int)
noncomputable def kC(l:List Nat)(p:Nat)(m:List Nat):List Nat:=m++lit " (at "++kq l p++lit ")"
noncomputable def g0(m:List Nat):aG:=⟨.ref 364,some [.str (ms m)]⟩
theorem aO.PY{w:aR}{b:am}(S:aO w b):b.Ns 363 (tv (jI (uD w.params))):=
 uX (S.at 363 (o:=uD w.params) (by kernel_rfl)) (by kernel_rfl) (by kernel_rfl)
theorem aO.NZ{w:aR}{b:am}(S:aO w b):mW b 685 681:=
 (I8 _ _ _ _ _ _ _ _ _ (S.at 685 (o:=uy w.params) (by kernel_rfl)) rfl rfl rfl rfl rfl rfl rfl rfl (by decide))
theorem aO.HR{w:aR}{b:am}(S:aO w b){p:aj}(hp:p=681\/p=582):b.BuiltinsAt (pA w.params) p:=
 (Wr 4 _ (by kernel_rfl:pA w.params (ae "__builtins__")=some (.ref 4)) (by decide) (by decide) (by rcases hp with rfl | rfl <;> decide) (S.at 4 (o:=o4 w.params) (by kernel_rfl)) rfl rfl rfl)
noncomputable def Cm:Fn:=⟨[ae "src",ae "pos",ae "line",ae "column"],[(ae "len",.builtin "len")]⟩
noncomputable def xJ:Cs:=.ite (.o2 (.cmp .GtE) (.loc 1) (.call (.gl 0) (.cons (.loc 0) .nil) .nil)) (.ret (.str [101,110,100,32,111,102,32,100,111,99,117,109,101,110,116]) .fin) .fin
 (.asg 2 (.o2 (.bin .Add) (.g_ (.loc 0) (ae "count") (.cons (.str [10]) (.cons (.nat 0) (.cons (.loc 1) .nil)))) (.nat 1))
 (.mark (.ite (.o2 (.cmp .Eq) (.loc 2) (.nat 1)) (.asg 3 (.o2 (.bin .Add) (.loc 1) (.nat 1)) .fin) (.asg 3 (.o2 (.bin .Sub) (.loc 1) (.g_ (.loc 0) (ae "rindex") (.cons (.str [10]) (.cons (.nat 0) (.cons (.loc 1) .nil))))) .fin)
 (.ret (.fst (.str [108,105,110,101,32]) (.o1 .fmt (.loc 2)) (.cons (.str [44,32,99,111,108,117,109,110,32]) (.cons (.o1 .fmt (.loc 3)) .nil))) .fin))))
theorem U6:Cm.bw xJ (fB (cX (stN 67) 1))=fB (cX (stN 67) 1):=by kernel_rfl
section
variable {c:FC}{σ:AS}{Q:PV->AS->Prop}{E:aG->AS->Prop}{ev:bB}{w:aR}{b:am}{n:Nat}
theorem nY(P:Pl c ev w b (n+1))(S:aO w b)(qu:c.A.handled=none){l:List Nat}{k:Nat}{a:aj}{L:List af}(F:bS w b a L)(hL:L.length<4096)(hl:l.length<2^60)(hk:k<=l.length)
  (h:Q (.int (bu l L k:Nat)) σ):aM c (.val (.ref 545)) [.str (ms l),.int k,.val (.ref a)] [] [] σ Q E:=by
 refine NL P S λΓ C P' G N=>?_
 unfold Jx
 walk_at "n"
 refine wh G (λp:Nat=>[.str (ms l),.int p,.val (.ref a)]) (λZ=>σ.st) (λp=>l.length-p) (λp=>p<=l.length/\bu l L p=bu l L k) k ⟨hk,rfl⟩ .refl λp ⟨hp,he⟩ bC ec ck Le=>?_
 have b9:Pl bC.c bC.c.env w b n:=ec▸P'
 walk_at "n"
 refine mu b9.ok (ec▸(C.hd.trans qu)) (by exact bQ (bL ‹_› ‹_›) (by decide)) (λu hu=>?_) (λhu=>?_)
 .walk_at "go"
  refine tW (L:=L) (by rw[b9.w,b9.b0];exact F) hL ?_
  walk_at "go"
  have hpl:p<l.length:=(dY.mp hu).1
  refine Br.mk (λhb=>?_) (λhb=>?_)
  .refine gr ?_;walk_at "go"
   exact Le.dW _ _ .refl (xU (p+1) rfl rfl (by((with_reducible refine wY ?h1 ?h2);(case h1=>assumption);(case h2=>exact dm _))) (by exact jC ‹_›) (by rw[<-he,Vf hu hb]))
  .refine f0.brk ‹_› ?_;walk_at "go"
   replace h:=(Nf hu hb)▸(bR he:_)▸h
   exact h
 .walk_at "go";refine f0.exc ‹_› ?_;walk_at "go"
  refine pi G rfl (λp=>vg P' (P'.b0▸G.gl 0 _ rfl)) λi8 H iH A=>?_
  walk_at "n"
  refine nr.f ‹_› ?_;walk_at "go"
  replace h:=(V_ hu)▸(bR he:_)▸h
  exact h
theorem VB(P:Pl c ev w b (n+1))(S:aO w b){l:List Nat}{k:Nat}{fa:aj}{cv doc ctv:ag}(hl:l.length<2^60)
  (FA:FnAt c fa (s9 (Internal.S "coord_repr") ((Internal.S "suffixed_err"++Internal.S ".<locals>.")++Internal.S "coord_repr") (fA (cX (stN 67) 1)) (.stmts (fB (cX (stN 67) 1))) (fS (cX (stN 67) 1)) [] .none doc (((pA w.params) "__name__").getD .none) cv ctv))
  (h:Q (.str (ms (kq l k))) σ):aM c (.val (.ref fa)) [.str (ms l),.int k] [] [] σ Q E:=by
 refine cL.gen (λs I=>let ⟨o,a,b,_⟩:=FA σ s I;⟨o,_,a,b⟩) (c_.val (c_.gen P (F:=Cm) (cd:=xJ) (np:=2) (ds:=[]) (vals:=[.str (ms l),.int k,.al,.al]) (λs I=>FA σ s I) rfl (by kernel_rfl) (gv S [52] rfl) U6 S.jK rfl rfl (λs vs kvs Z rx rk=>pE (λZ Z=>by kernel_rfl) s vs kvs rx rk) λΓ C P' G N=>?_))
 unfold xJ
 walk_at "n"
 refine iB hl ?_
 walk_at "go";refine W8 ?_;walk_at "go"
 refine Br.mk (λhb=>?_) (λhb=>?_)
 .refine yF.ret ‹_› ?_
  have:kq l k=[101,110,100,32,111,102,32,100,111,99,117,109,101,110,116]:=by unfold kq;rw[aA (by have:=of_decide_eq_true hb;assumption)];decide +kernel
  rw[<-this];exact h
 .replace hb:=of_decide_eq_false hb
  have hk:k<l.length:=by exact m4 ‹_›
  have hcnt:(l.take k).count 10<=k:=aJ K_ (by simp;exact LY _ _)
  refine dh.count ?_;walk_at "go"
  refine M2 (u:=10) (l:=l) (n:=k) (by exact eF ‹_›) ?_
  walk_at "go";refine gM ?_;walk_at "go"
  refine Qs G (λv t=>v=[.str (ms l),.int k,.int ((l.take k).count 10+1:Nat),.int (if(l.take k).count 10=0 then k+1 else k-(d8 l 10 k).getD 0:Nat)]/\t=σ.st) (λbC ec ck M=>?_) (λv t ⟨ev,et⟩=>?_)
  .walk_at "n"
   refine og ?_;walk_at "go"
   refine Br.mk (λhb=>?_) (λhb=>?_)
   .refine gM ?_;walk_at "go"
    exact M.dW _ _ .refl ⟨by rw[aA (by have:=eq_of_beq hb;exact wz ‹_›)],rfl⟩
   .have hb:(l.take k).count 10≠0:=by
     intro q
     replace hb:=q▸hb
     exact absurd hb (by decide)
    refine aC (tK l 10 k hb) λi hi hik=>?_
    refine dh.rindex ?_;walk_at "go"
    refine Vm (u:=10) (l:=l) (n:=k) (by exact eF ‹_›) hi ?_
    walk_at "go";refine' zk ?h ?_;(case h=>omega);walk_at "go"
    exact M.dW _ _ .refl ⟨by rw[an hb,hi];rfl,rfl⟩
  .subst ev et
   have z3:(fu (((l.take k).count 10+1:Nat):Int)).length<=1921:=pa (bL (jC (bL hcnt (m4 hb))) hl)
   have zs:bN=16777216:=eW
   generalize hcol:(if(l.take k).count 10=0 then k+1 else k-(d8 l 10 k).getD 0)=col at *
   have hc:col<=k+1:=by
    rw[<-hcol]
    split
    .exact bk _
    .exact kV (lI _ _)
   have z4:(fu ((col:Nat):Int)).length<=1921:=pa (bL (aJ hc (m4 hb)) hl)
   have e:kq l k=[]++[108,105,110,101,32]++fu (((l.take k).count 10+1:Nat):Int)++[44,32,99,111,108,117,109,110,32]++fu ((col:Nat):Int):=by
    unfold kq
    rw[an (by assumption),hcol,show lit "line " = [108,105,110,101,32] by decide +kernel,show lit ", column " = [44,32,99,111,108,117,109,110,32] by decide +kernel];rfl
   replace h:=e▸h
   walk_at "n"
   refine(bh _ rfl (by simp;omega) ?_)
   refine CT (i:=(((l.take k).count 10+1:Nat):Int)) (r_ (bL (jC (bL hcnt (m4 hb))) hl)) ?_
   walk_at "go"
   refine(bh _ rfl (by simp;lia) (bh _ rfl (by simp;lia) ?_))
   refine CT (i:=((col:Nat):Int)) (r_ (bL (aJ hc (m4 hb)) hl)) ?_
   walk_at "go"
   refine(jE _ rfl (by simp;lia) (by simp;lia) ?_)
   refine yF.ret ‹_› ?_
   exact h
end
section
variable {F:Fn}{Γ:Gm F}{v:List PV}{t:List (aj×AO)}
theorem Wv{e:Ce}{r:Cs}{j:Nat}(G:Good Γ.c F)(he:(Ce.cons e .nil).jd=true)
  (H:∀Γ':Gm F,Γ'.c=Γ.c->Good Γ'.c F->(∀{x v t},cL Γ.c (fD Γ.c) (.val (F.val j)) [x] [] [] (F.at v t) (λx τ=>Γ.R (.exc x) τ) Γ.E->Γ'.R (.ret x) (F.at v t))->(∀{x v t},Γ.E x (F.at v t)->Γ'.E x (F.at v t))->vE Γ' 99 e v t (.ret .top)) :
  bl Γ (.ret (.call (.gl j) (.cons e .nil) .nil) r) (F.at v t) Γ.R Γ.E:=λl h=>by
 have h1:=aI (λl=>F.rb (.gl j) (k1 (hD l).e)) h
 have h2:=aI (λl=>F.cf (.cons e .nil) (eD (hD l).e).1.tail) h
 have H0:bK Γ (.gl j) (F.at v t) (λf τ=>f7 Γ (.cons e .nil) τ (λxs τ=>cL Γ.c (fD Γ.c) f xs [] [] τ (λx τ=>Γ.R (.exc x) τ) Γ.E) Γ.E) Γ.E:=
  jF G (dE λx hx=>((so (Γ:=(⟨Γ.c,λf τ=>∃x,f = .ret x/\cL Γ.c (fD Γ.c) (.val (F.val j)) [x] [] [] τ (λx τ=>Γ.R (.exc x) τ) Γ.E,Γ.E⟩:Gm F)) G 99).e (H _ rfl G (λq=>(aw _ rfl q)) id) x hx).mn λx τ q=>by refine(λj1=>?_) q;clear q;refine aC j1 λy e q=>?_;clear j1;cases e;exact gz q)
 refine gA (d:={f:=Γ.R,x:=Γ.E}) h λs I=>?_
 exact Ys (bH ((rT (ks:=[]) (ns:=[]) (qW h1 rfl) (me 4 _ he _ h2).1 ⟨rfl,rfl⟩ ((H0 _ h1).mn λZ Z q=>q _ h2):k9 Γ.c (fD Γ.c) _ (F.at v t) (λx τ=>Γ.R (.exc x) τ) Γ.E) s I) λv Z x aq aQ aZ k₁ a7=>⟨.exc x,aq,aQ,(aw v rfl aZ),a7⟩)
theorem Qt{st:bA}{name:af}{params:Kl}{body:List bA}{scope:dA}{pos:aT}{r:Cs}{ev:bB}{w:aR}{b:am}{n i:Nat}{cc:aj}{x:gJ}{mg:af->Option ag}(hst:st = .FunctionDef name params body [] none [] scope none name pos)(G:Good Γ.c F)(P:Pl Γ.c ev w b n)(hi:F.nm[i]?=some name)(hcode:ev.code = .ref cc)(C:mW b cc x.t)(hx:x∈Γ.c.tb)(hn:∀y∈Γ.c.tb,y.t=x.t->y=x)
  (h1:x.line=pos.line) (h2:x.col=pos.col) (hq:K7 ev name name=x.q) (hmg:b.Ns eK mg) (hbl:b.BuiltinsAt mg x.t) (hcl:∀e,l5 scope e=pure []) (hd:params.defaults=[]) (hk:params.kw_defaults=[]) (ha:∀e,annTrees params none e=[])
  (h:∀c' fa cv doc ctv,Rb Γ.c c'->FnAt c' fa (s9 name x.q params (.stmts body) scope [] .none doc ((mg "__name__").getD .none) cv ctv)->Good c' F->∃v',g8 v i (.val (.ref fa))=some v'/\bl (⟨c',Γ.R,Γ.E⟩:Gm F) r (F.at v' t) Γ.R Γ.E) :
  bl Γ (.raw st r) (F.at v t) Γ.R Γ.E:=λl hl=>by
 replace hl:=hst▸hl
 have hr:=aI (λl=>F.bw r l.tail) hl
 have hnm:F.name i=name:=by unfold Fn.name;rw[hi];rfl
 rw[<-hl]
 refine(XS.def (N:=Γ.R .next) (Q:=Γ.R) (E:=Γ.E) P (P.env▸G.lo i _ hi) hcode C hx hn h1 h2 hq hmg hbl hcl hd hk ha λc' fa cv doc ctv R FA=>⟨?_⟩).mn (λf τ q=>by cases f <;> exact q) λZ Z q=>q
 refine aC (h c' fa cv doc ctv R FA ⟨R.ok,R.env▸G.lo,R.env▸R.b0▸G.gl,R.fP G.H,R.b0▸G.hC⟩) λv' hv H=>?_
 have e:=lz (t:=t) G (by unfold Fn.has;rw[hnm,hi]) hv
 replace e:=hnm▸e
 rw[e]
 exact(H _ hr).mn (λf τ q=>by cases f <;> exact q) λZ Z q=>q
end
section
variable {c:FC}{σ:AS}{E:aG->AS->Prop}{ev:bB}{w:aR}{b:am}{n:Nat}
theorem Sf{l:List Nat}{k:Nat}(hl:l.length<2^60):(kq l k).length<=4000:=by
 unfold kq
 have hcnt:(l.take k).count 10<=min k l.length:=aJ K_ (by simp)
 split
 .exact aJ (da (by decide +kernel:(lit "end of document").length=15)) (by decide)
 .rename_i hk
  have y3:(fu (((l.take k).count 10+1:Nat):Int)).length<=1921:=pa (bL (bL (aJ hcnt (LY _ _)) (m4 hk)) hl)
  have y4:(fu ((if(l.take k).count 10=0 then k+1 else k-(d8 l 10 k).getD 0:Nat):Int)).length<=1921:=pa (by
   split
   .exact bL (m4 hk) hl
   .exact bL (lI _ _) (fG (m4 hk) hl))
  simp only[bt,(by decide +kernel:(lit "line ").length=5),(by decide +kernel:(lit ", column ").length=9)];exact aJ (fx (iG (eG y3 5) 9) y4) (by decide)
theorem nq{Q:aG->AS->Prop}(P:Pl c ev w b (n+2))(S:aO w b){l m:List Nat}{k:Nat}(hl:l.length<2^60)(hm:m.length<=1000000)
  (h:Q (g0 (kC l k m)) σ):cL c (fD c) (.val (.ref 686)) [.str (ms l),.int k,.str (ms m)] [] [] σ Q E:=by
 have ho:=S.at 686 (o:=F7 w.params) (by kernel_rfl)
 refine cL.exc (cL.gen (λs I=>(cM _ _ (I.b0 _ _ (P.b0▸ho)) rfl)) (c_.gen P (F:=y5) (cd:=yJ) (np:=3) (ds:=[]) (vals:=[.str (ms l),.int k,.str (ms m),.al]) (λs I=>(bh _ (I.b0 _ _ (P.b0▸ho)) rfl ((P.b0▸((tI 685 _ _ _ rfl (S.at 685 (o:=uy w.params) (by kernel_rfl)) rfl rfl):b.CodeRec (.ref 685) (Internal.S "suffixed_err")):c.b0.CodeRec _ _).keeps I.b0))) rfl (by kernel_rfl) (Sn S) UJ S.jK rfl rfl (λs vs kvs Z rx rk=>jb (λZ Z Z=>by kernel_rfl) s vs kvs rx rk) λΓ C P' G N=>?_))
 have zs:bN=16777216:=eW
 have hkd:(Γ.c.env.kindOf (Internal.S "coord_repr")==some .globalExplicit)=false:=by
  unfold oN;rw[C.scope];kernel_rfl
 unfold yJ
 walk_at "n"
 refine Qt (name:=Internal.S "coord_repr") (params:=fA (cX (stN 67) 1)) (body:=fB (cX (stN 67) 1)) (scope:=fS (cX (stN 67) 1)) (pos:=⟨687,4,695,46⟩) (i:=3) (x:=⟨681,687,4,(ae "suffixed_err"++ae ".<locals>.")++ae "coord_repr"⟩) (by kernel_rfl) G P' rfl C.code S.NZ (by rw[P'.tb];exact .head _) (λy hy e=>?_) rfl rfl (by unfold K7;rw[hkd,(C.qual:Γ.c.env.qual=Internal.S "suffixed_err"++Internal.S ".<locals>.")];rfl) S.main (S.HR (.inl rfl)) (λZ=>rfl) rfl rfl (λZ=>rfl) λc₂ fa cv doc ctv R FA ck=>(aw _ rfl ?_)
 .replace hy:=P'.tb▸hy
  rcases cB.mp hy with rfl | hy
  .rfl
  .rcases cB.mp hy with rfl | hy
   .exact absurd e (by decide)
   .cases hy
 have b9:=R.pl P'
 refine Wv ck rfl λi8 ec iH hR hE=>?_
 have m_:Pl i8.c Γ.c.env w b (n+1):=ec▸b9
 have ec:i8.c=c₂:=ec
 replace FA:=(bR ec:_)▸FA
 have z3:=Sf (l:=l) (k:=k) hl
 walk_at "n"
 refine D5 (by exact aJ ‹_› (by decide)) ?_
 walk_at "go"
 refine(bh _ rfl (by simp;exact aJ ‹_› (by decide)) (bh _ rfl (by simp;omega) ?_))
 refine VB m_ S hl FA ?_
 walk_at "go"
 refine D5 (by exact aJ ‹_› (by decide)) ?_
 walk_at "go"
 refine(bh _ rfl (by simp;omega) (jE _ rfl (by simp;omega) (by simp;omega) ?_))
 walk_at "go"
 refine hR ?_
 obtain ⟨q,N',bs,hdct,sn,sub,ab,col,dd,k0,k1,k2,k3,k5,hC,rfl⟩:=S.pb
 refine Wk PySem.F.excBase_ValueError (by rw[b9.b0];exact hC) (by rw[b9.b0];exact S.PY) (by kernel_rfl) (by show(1:Nat)<=_;exact wR rfl) ?_
 refine N.Xd ?_
 have:kC l k m=(((([]++m)++[32,40,97,116,32])++kq l k)++[41]):=by
  unfold kC
  rw[show lit " (at " = [32,40,97,116,32] by decide +kernel,show lit ")" = [41] by decide +kernel];rfl
 unfold g0 at h
 replace h:=this▸h
 exact h
end
end
section
noncomputable def scalar(n:Nat):Bool:=decide (n<=55295)||(decide (57344<=n)&&decide (n<=1114111))
section
variable {F:Fn}{Γ:Gm F}
theorem FT{x:aL}{a b d:Ce}{o1 o2:qp}{σ:AS}{Q:PV->AS->Prop}{E:aG->AS->Prop}(hx:LZ (F.rb a (k1 x)) [o1,o2] [F.rb b (k2 x),F.rb d (k3 x)] x.pos=x)(hd:d.odd=false)
  (h:∀X,F.rb d X=X->bK Γ a σ (λx τ=>bK Γ b τ (λy τ=>U2 Γ.c RV (ce o1) x y τ (λk τ=>U1 Γ.c fw eZ k τ (λβ τ=>Br β (Ev Γ.c X τ (λz τ=>U2 Γ.c RV (ce o2) y z τ Q E) E) (Q k τ)) E) E) E) E):Ev Γ.c x σ Q E:=by
 have e1:=aI (λx=>F.rb a (k1 x)) hx
 have e2:=aI (λx=>F.rb b (k2 x)) hx
 have e3:=aI (λx=>F.rb d (k3 x)) hx
 rw[<-hx]
 exact PZ ((ik e3 (.inl hd)).m _) ((h _ e3 _ e1).mn λZ Z q=>q _ e2)
end
section
variable {c:FC}{σ:AS}{Q:PV->AS->Prop}{E:aG->AS->Prop}{ev:bB}{w:aR}{b:am}{n:Nat}
theorem SG(P:Pl c ev w b (n+1))(S:aO w b){k:Nat}(h:Q (.bool (scalar k)) σ):aM c (.val (.ref 693)) [.int k] [] [] σ Q E:=by
 refine Ta P S λΓ C P' G N=>?_
 unfold FJ
 walk_at "n"
 refine FT (a:=.nat 0) (b:=.loc 0) (d:=.nat 55295) (o1:=.LtE) (o2:=.LtE) (by kernel_rfl) rfl λX e3=>dj (du G rfl ?_)
 refine ve (qR (Br.mk (λhb=>?_) λhb=>absurd (of_decide_eq_false hb) (by exact of_decide_eq_false rfl)))
 refine dj (ve ?_) _ e3
 walk_at "go"
 unfold scalar at h
 refine Br.mk (λhb=>?_) (λhb=>?_)
 .walk_at "go"
  replace h:=hb▸h;replace h:=(Bool.true_or ..)▸h
  rw[hb];exact h
 .walk_at "go"
  replace h:=hb▸h;replace h:=(Y' ..)▸h
  refine FT (a:=.nat 57344) (b:=.loc 0) (d:=.nat 1114111) (o1:=.LtE) (o2:=.LtE) (by kernel_rfl) rfl λX e3=>dj (du G rfl ?_)
  refine ve (qR (Br.mk (λhc=>?_) λhc=>?_))
  .replace h:=hc▸h;replace h:=(wy ..)▸h
   refine dj (ve ?_) _ e3
   walk_at "go"
   exact h
  .replace h:=hc▸h;replace h:=(Bu ..)▸h
   walk_at "go"
   rw[hc];exact h
theorem Pw{u:Nat}(h:gp.contains (ms [u])=true):isHex u:=by
 have e:ms [u]=Internal.ch u:=rfl
 replace h:=e▸h;rewrite[jZ] at h
 unfold gp at h
 simp only[jp,cO,lJ] at h
 unfold isHex
 have inj:∀{a b:Nat},Internal.ch a=Internal.ch b->a=b:=λ{a b} q=>by
  have:ms [a]=ms [b]:=q
  exact one_inj q
 rcases h with(⟨a,ha,q⟩ | ⟨a,ha,q⟩) | ⟨a,ha,q⟩ <;> cases inj q
 .exact .inl ⟨dX _ _,eG (jj ha) 48⟩
 .exact .inr (.inl ⟨dX _ _,eG (jj ha) 97⟩)
 .exact .inr (.inr ⟨dX _ _,eG (jj ha) 65⟩)
noncomputable def fN(l:List Nat)(k m:Nat):Option (Nat×Nat):=
 if k+m<=l.length/\f_ gp (sl l k (k+m))=true/\scalar (hexVal (sl l k (k+m)))=true then some (k+m,hexVal (sl l k (k+m))) else none
theorem G_(P:Pl c ev w b (n+3))(S:aO w b)(qu:c.A.handled=none){l:List Nat}{k m:Nat}(hl:l.length<2^24)(hm:0<m/\m<=8)
  (h:match fN l k m with | some (p,u)=>Q (.tup [.int p,.str (ms [u])]) σ | none=>∀t,E (g0 t) σ):aM c (.val (.ref 651)) [.str (ms l),.int k,.int m] [] [] σ Q E:=by
 refine VD P S λΓ C P' G N=>?_
 have qu':=C.hd.trans qu
 have zs:bN=16777216:=eW
 have hlen:(sl l k (k+m)).length=min m (l.length-k):=by unfold sl;simp
 have bad:¬(k+m<=l.length/\f_ gp (sl l k (k+m))=true/\scalar (hexVal (sl l k (k+m)))=true)->∀t,E (g0 t) σ:=λq=>by
  have hx:fN l k m=none:=an q
  replace h:=hx▸h;exact h
 unfold DY
 walk_at "n"
 refine gM ?_;walk_at "go"
 refine lF (by exact jh ‹_› (by decide)) ?_
 walk_at "go"
 refine iB (by have:=bL (tY l k (k+m)) hl;exact bQ ‹_› (by decide)) ?_
 walk_at "go";refine Ss ?_;walk_at "go"
 refine Br.mk (λhb=>?_) (λhb=>?_)
 .walk_at "go"
  refine nq P' S (by exact bQ ‹_› (by decide)) (by decide +kernel) ⟨rfl,?_⟩
  walk_at "go";refine e_.exc ‹_› ?_
  refine bad (λ⟨z,_⟩=>?_) _
  have:(sl l k (k+m)).length=m:=hlen.trans (gS (Nat.le_sub_of_add_le' z))
  replace hb:=this▸hb;simp at hb
 .have hb:(sl l k (k+m)).length=m:=by exact C6 hb
  walk_at "go"
  refine P7 (L:=gp) (by rw[P'.w,P'.b0];exact S.EF) ?_
  walk_at "go"
  refine OK P'.ok qu' (L:=gp) (by rw[P'.w,P'.b0];exact S.EF) (by decide +kernel) ?_
  walk_at "go"
  refine Br.mk (λhc=>?_) (λhc=>?_)
  .walk_at "go"
   refine nq P' S (by exact bQ ‹_› (by decide)) (by decide +kernel) ⟨rfl,?_⟩
   walk_at "go";refine e_.exc ‹_› ?_
   refine bad (λ⟨_,z,_⟩=>?_) _
   replace hc:=z▸hc;exact absurd hc (by decide)
  .have hc:f_ gp (sl l k (k+m))=true:=by exact bR ((λ{x y}=>oC.mp) (id (bR hc)))
   have hle:m<=l.length-k:=aJ (da (hb.symm.trans hlen)) (kU _ _)
   walk_at "go";refine gr ?_;walk_at "go"
   refine SY (λu hu=>Pw (by unfold f_ at hc;exact fE.mp hc u hu):∀u∈sl l k (k+m),isHex u) (λz=>by replace hb:=z▸hb;exact absurd hm.1 (hb▸lN 0)) (by lia) ?_
   walk_at "go"
   refine SG P' S ?_
   walk_at "go"
   refine Br.mk (λhd=>?_) (λhd=>?_)
   .walk_at "go"
    refine nq P' S (by exact bQ ‹_› (by decide)) (by decide +kernel) ⟨rfl,?_⟩
    walk_at "go";refine e_.exc ‹_› ?_
    refine bad (λ⟨_,_,z⟩=>?_) _
    replace hd:=z▸hd;exact absurd hd (by decide)
   .have hd:scalar (hexVal (sl l k (k+m)))=true:=by exact bR ((λ{x y}=>oC.mp) (id (bR hd)))
    have hx:fN l k m=some (k+m,hexVal (sl l k (k+m))):=aA ⟨(JR (eF (Xw (bQ hm.1 hle))) hle),hc,hd⟩
    replace h:=hx▸h
    walk_at "go"
    refine WY (by
     unfold scalar at hd
     simp only[sW,jr,decide_eq_true_eq] at hd
     lia) ?_
    walk_at "go"
    exact h
end
end
section
noncomputable def pC:List (List Nat×Nat×bY):=[([92,98],8,1907),([92,116],9,1909),([92,110],10,1911),([92,102],12,1913),([92,114],13,1915),([92,34],34,1917),([92,92],92,1919)]
noncomputable def iq(e:List Nat):Option Nat:=(pC.find? λq=>q.1==e).map (·.2.1)
noncomputable def ee(multi:Bool)(l:List Nat)(p:Nat):Option (Nat×List Nat):=
 if multi=true/\(sl l p (p+2)=[92,32]\/sl l p (p+2)=[92,9]\/sl l p (p+2)=[92,10]) then
  if sl l p (p+2)=[92,10] then some (bu l fK (p+2),[])
  else match l[bu l bG (p+2)]? with
   | none=>some (bu l bG (p+2),[])
   | some u=>if u=10 then some (bu l fK (bu l bG (p+2)+1),[]) else none
 else if sl l p (p+2)=[92,117] then(fN l (p+2) 4).map λr=>(r.1,[r.2])
 else if sl l p (p+2)=[92,85] then(fN l (p+2) 8).map λr=>(r.1,[r.2])
 else(iq (sl l p (p+2))).map λu=>(p+2,[u])
theorem xq{l:List Nat}{p a b:Nat}(h:sl l p (p+2)=[a,b]):p+2<=l.length:=by
 have:=aI gR h
 unfold sl at this
 simp at this
 exact uL (by decide) (this▸kU _ _)
noncomputable def Te(P:az)(q:List Nat×Nat×bY):dB:=⟨oD P (ms q.1),.str (ms q.1) q.2.2,.str (ms [q.2.1]) (q.2.2+1)⟩
theorem Ct(P:az):jI (sd P)=(pC.map (Te P)).toArray:=by kernel_rfl
noncomputable def sp(w:aR)(x:af):Option ag:=wT (sk w).is (jI (sd w.params)) x
theorem NX(l k:List Nat)(t:bY):sz (ms l) (.str (ms k) t)=(k==l):=by
 show((ms k)==(ms l))=_
 rw[mH]
theorem O7(w:aR)(l:List Nat):match iq l with | some u=>∃t,sp w (ms l)=some (.str (ms [u]) t) | none=>sp w (ms l)=none:=by
 have e:sp w (ms l)=(pC.find? λq=>q.1==l).map λq=>.str (ms [q.2.1]) (q.2.2+1):=by
  unfold sp wT
  rw[Ct,List.find?_toArray,List.find?_map,Option.map_map]
  congr 2
  funext q
  exact NX l q.1 q.2.2
 unfold iq
 rw[e]
 cases pC.find? λq=>q.1==l with
 | none=>rfl
 | some q=>exact⟨_,rfl⟩
theorem aO.mp{w:aR}{b:am}(S:aO w b):b.MapOf (sk w) 353 (sp w):=by
 refine(mz _ _ _ (S.at 353 (o:=sd w.params) (by kernel_rfl)) ⟨rfl,rfl,rfl⟩ rfl ?_ (λk=>rfl))
 intro x hx
 have hx:x∈jI (sd w.params):=hx
 replace hx:=(Ct ..)▸hx
 refine aC (cO.mp (Y2.mp hx)) λq Z j1=>?_;subst j1
 exact(aw _ (hZ aF w _ _) rfl)
theorem Q0{b:am}{d:aj}{od:ax}(hd:b.get? d=some od){a:aj}{o:ax}(e:Z8 a [(d,od)]=some o):b.get? a=some o:=by
 rewrite[AI] at e
 cases q:a==d with
 | true=>replace e:=q▸e;refine(λj0=>?_) (bj e);clear e;subst j0;rw[eq_of_beq q];exact hd
 | false=>replace e:=q▸e;cases e
noncomputable def zf:aL->List aL
 | .Set l _ _=>l
 | _=>[]
noncomputable def cK:aL->Nat
 | .Constant _ k _=>k
 | _=>0
noncomputable def setC(x:aL)(i:Nat)(s:af):aL:=.Constant (.str s) (cK ((zf (k2 x)).getD i x0)) ((zf (k2 x)).getD i x0).pos
theorem SO{F:Fn}{Γ:Gm F}{x:aL}{a:Ce}{s1 s2 s3:af}{σ:AS}{Q:Bool->AS->Prop}{E:aG->AS->Prop}(hx:LZ (F.rb a (k1 x)) [.In] [.Set [setC x 0 s1,setC x 1 s2,setC x 2 s3] 0 (k2 x).pos] x.pos=x)(H:xP Γ.c)
  (h:bK Γ a σ (λv τ=>∃y,v = .str y/\Q (y==s1||y==s2||y==s3) τ) E):Et Γ.c x σ Q E:=by
 rw[<-hx]
 exact MZ H (h _ (aI (λx=>F.rb a (k1 x)) hx))
noncomputable def zj:Cs:=.ite (.o2 (.cmp .Eq) (.loc 3) (.str [92,117])) (.ret (.call (.gl 5) (.cons (.loc 0) (.cons (.loc 1) (.cons (.nat 4) .nil))) .nil) .fin) .fin (.ite (.o2 (.cmp .Eq) (.loc 3) (.str [92,85])) (.ret (.call (.gl 5) (.cons (.loc 0) (.cons (.loc 1) (.cons (.nat 8) .nil))) .nil) .fin) .fin (.try (.ret (.tup (.cons (.loc 1) (.cons (.o2 .sub (.gl 6) (.loc 3)) .nil))) .fin) 7 (.lt true (.gl 3) (.cons (.loc 0) (.cons (.loc 1) (.cons (.str [85,110,101,115,99,97,112,101,100,32,39,92,39,32,105,110,32,97,32,115,116,114,105,110,103]) .nil))) .fin) .fin .fin))
noncomputable def qT:Cs:=.asg 3 (.cut (.loc 0) (.loc 1) (.o2 (.bin .Add) (.loc 1) (.nat 2))) (.aug 1 .Add (.nat 2) (.ite (.kB .And (.cons (.loc 2) (.cons (.raw (hd (((eD ((hD (((fB (stN 60)).tail).tail)).e)).1).tail))) .nil))) (.ite (.o2 (.cmp .NotEq) (.loc 3) (.str [92,10])) (.asg 1 (.call (.gl 0) (.cons (.loc 0) (.cons (.loc 1) (.cons (.gl 1) .nil))) .nil) (.try (.asg 4 (.o2 .sub (.loc 0) (.loc 1)) .fin) 2 (.ret (.tup (.cons (.loc 1) (.cons (.str []) .nil))) .fin) .fin (.ite (.o2 (.cmp .NotEq) (.loc 4) (.str [10])) (.lt false (.gl 3) (.cons (.loc 0) (.cons (.loc 1) (.cons (.str [85,110,101,115,99,97,112,101,100,32,39,92,39,32,105,110,32,97,32,115,116,114,105,110,103]) .nil))) .fin) .fin (.aug 1 .Add (.nat 1) .fin)))) .fin (.asg 1 (.call (.gl 0) (.cons (.loc 0) (.cons (.loc 1) (.cons (.gl 4) .nil))) .nil) (.ret (.tup (.cons (.loc 1) (.cons (.str []) .nil))) .fin))) .fin (.mark zj)))
theorem Ij:nz.bw qT (fB (stN 60))=fB (stN 60):=by kernel_rfl
section
variable {c:FC}{σ:AS}{Q:PV->AS->Prop}{E:aG->AS->Prop}{ev:bB}{w:aR}{b:am}{n:Nat}
theorem DA{Γ:Gm nz}(P':Pl Γ.c Γ.c.env w b (n+3))(G:Good Γ.c nz)(S:aO w b)(qu':Γ.c.A.handled=none)(N:e_ Γ σ Q E){l:List Nat}{p:Nat}{m:PV}(hl:l.length<2^24)
  (h:match(if sl l p (p+2)=[92,117] then(fN l (p+2) 4).map λr=>(r.1,[r.2]) else if sl l p (p+2)=[92,85] then(fN l (p+2) 8).map λr=>(r.1,[r.2]) else(iq (sl l p (p+2))).map λu=>(p+2,[u])) with
   | some (q,u)=>Q (.tup [.int q,.str (ms u)]) σ | none=>∀t,E (g0 t) σ) :
  bl Γ zj (nz.at [.str (ms l),.int (p+2:Nat),m,.str (ms (sl l p (p+2))),.al] σ.st) Γ.R Γ.E:=by
 refine(so G 99).s (k:=.top) ?_
 unfold zj
 walk_at "n"
 refine gL ?_;walk_at "go"
 refine Br.mk (λhb=>?_) (λhb=>?_)
 .replace h:=(aA (eq_of_beq hb))▸h
  walk_at "go"
  refine G_ P' S qu' hl (by decide) ?_
  cases hx:fN l (p+2) 4 with
  | none=>replace h:=hx▸h;intro t;walk_at "go";refine e_.exc ‹_› ?_;exact h t
  | some r=>replace h:=hx▸h;obtain ⟨q,u⟩:=r;walk_at "go";exact h
 .rewrite[an (λz=>by rw[z] at hb;simp at hb)] at h
  refine gL ?_;walk_at "go"
  refine Br.mk (λhb=>?_) (λhb=>?_)
  .replace h:=(aA (eq_of_beq hb))▸h
   walk_at "go"
   refine G_ P' S qu' hl (by decide) ?_
   cases hx:fN l (p+2) 8 with
   | none=>replace h:=hx▸h;intro t;walk_at "go";refine e_.exc ‹_› ?_;exact h t
   | some r=>replace h:=hx▸h;obtain ⟨q,u⟩:=r;walk_at "go";exact h
  .rewrite[an (λz=>by rw[z] at hb;simp at hb)] at h
   have hm:=O7 w (sl l p (p+2))
   walk_at "go"
   refine Rd P'.ok qu' (by rw[P'.b0];exact S.at 354 (o:=EC w.params) (by kernel_rfl)) rfl rfl (by rw[P'.b0,P'.w];exact S.mp) (by decide) (λv hv=>?_) (λhv=>?_)
   .cases he:iq (sl l p (p+2)) with
    | none=>replace hm:=he▸hm;replace hm:=hv▸hm;exact nomatch hm
    | some u=>
     rw[he] at hm h
     refine aP hm λt ht=>?_;clear hm
     replace ht:=hv▸ht
     refine(λj0=>?_) (bj ht);clear ht;subst j0
     refine(cM _ _ rfl ?_)
     walk_at "go"
     exact h
   .cases he:iq (sl l p (p+2)) with
    | some u=>replace hm:=he▸hm;refine aP hm λt ht=>?_;clear hm;replace ht:=hv▸ht;exact nomatch ht
    | none=>
     replace h:=he▸h
     walk_at "go"
     refine pi G rfl (λp=>gG.key P' (P'.b0▸G.gl 7 _ rfl)) λi8 H iH A=>?_
     walk_at "n"
     walk_at "go"
     refine nq (H.pl P') S (by exact bQ ‹_› (by decide)) (by decide +kernel) ⟨rfl,?_⟩
     walk_at "go";refine nr.exc ‹_› ?_;walk_at "go";refine e_.exc ‹_› ?_
     exact h _
theorem Om(P:Pl c ev w b (n+4))(S:aO w b)(qu:c.A.handled=none){l:List Nat}{p:Nat}(hl:l.length<2^24)
  (h:match ee false l p with | some (q,u)=>Q (.tup [.int q,.str (ms u)]) σ | none=>∀t,E (g0 t) σ):aM c (.val (.ref 637)) [.str (ms l),.int p] [] [] σ Q E:=by
 have ho:=S.at 637 (o:=xl w.params) (by kernel_rfl)
 refine c_.call (P.b0▸ho) rfl (mG P (F:=nz) (cd:=qT) (np:=3) (ds:=[.bool false]) (vals:=[.str (ms l),.int p,.bool false,.al,.al]) ho rfl (codeRec_of (S.at 636 (o:=uJ w.params) (by kernel_rfl)) rfl rfl) rfl (by kernel_rfl) (DW S) Ij S.jK rfl rfl
  (λs vs kvs I rx rk=>by refine dV (rM rx) λa0 a1 j1=>?_;subst j1;obtain rfl:=hW rk;exact(aw [.bool false] (aB.cons rfl aB.nil) (BR (K:=[(630,IF w.params)]) (λa o e=>I.b0 _ _ (by rw[P.b0];exact Q0 (S.at 630 (by kernel_rfl)) e)) (λS=>by kernel_rfl) _ _ _ _ ⟨rfl,rfl⟩))) λΓ C P' G N=>?_)
 have zs:bN=16777216:=eW
 unfold ee at h
 rewrite[an (λz=>absurd z.1 (by decide))] at h
 unfold qT
 walk_at "n"
 refine gM ?_;walk_at "go"
 refine lF (by exact jh ‹_› (by decide)) ?_
 walk_at "go";refine gr ?_;walk_at "go"
 exact DA P' G S (C.ent.hd.trans qu) N hl h
theorem RD(P:Pl c ev w b (n+4))(S:aO w b)(qu:c.A.handled=none){l:List Nat}{p:Nat}(hl:l.length<2^24)
  (h:match ee true l p with | some (q,u)=>Q (.tup [.int q,.str (ms u)]) σ | none=>∀t,E (g0 t) σ):aM c (.val (.ref 637)) [.str (ms l),.int p] [ae "multiline"] [.bool true] σ Q E:=by
 have ho:=S.at 637 (o:=xl w.params) (by kernel_rfl)
 refine c_.call (P.b0▸ho) rfl (mG P (F:=nz) (cd:=qT) (np:=3) (ds:=[]) (vals:=[.str (ms l),.int p,.bool true,.al,.al]) ho rfl (codeRec_of (S.at 636 (o:=uJ w.params) (by kernel_rfl)) rfl rfl) rfl (by kernel_rfl) (DW S) Ij S.jK rfl rfl
  (λs vs kvs Z rx rk=>Ab (λZ Z Z=>by kernel_rfl) s vs kvs rx rk) λΓ C P' G N=>?_)
 have zs:bN=16777216:=eW
 have qu':=C.ent.hd.trans qu
 unfold ee at h
 unfold qT
 walk_at "n"
 refine gM ?_;walk_at "go"
 refine lF (by exact jh ‹_› (by decide)) ?_
 walk_at "go";refine gr ?_;walk_at "go"
 refine SO (a:=.loc 3) (s1:=ms [92,32]) (s2:=ms [92,9]) (s3:=ms [92,10]) (by kernel_rfl) (ly 636 (uJ w.params) _ C.code (by rw[P'.b0];exact S.at 636 (by kernel_rfl)) rfl) (du G rfl (aw _ rfl ?_))
 rw[mH,mH,mH]
 walk_at "go"
 refine Br.mk (λhb=>?_) (λhb=>?_)
 .have hb:sl l p (p+2)=[92,32]\/sl l p (p+2)=[92,9]\/sl l p (p+2)=[92,10]:=by simpa[or_assoc] using hb
  rewrite[aA ⟨rfl,hb⟩] at h
  have hp2:p+2<=l.length:=by
   rcases hb with z | z | z <;> exact xq z
  walk_at "go";refine oj ?_;walk_at "go"
  refine Br.mk (λhc=>?_) (λhc=>?_)
  .replace h:=(an (by simpa using hc))▸h
   walk_at "go"
   refine nY P' S qu' S.r8 (by decide +kernel) (by exact bQ ‹_› (by decide)) hp2 ?_
   walk_at "go"
   have hle:=rH (L:=bG) hp2
   refine mu P'.ok qu' (by exact bQ (bL ‹_› ‹_›) (by decide)) (λu hu=>?_) (λhu=>?_)
   .replace h:=hu▸h
    walk_at "go";refine oj ?_;walk_at "go"
    refine Br.mk (λhd=>?_) (λhd=>?_)
    .have hd:u≠10:=by simpa using hd
     walk_at "go"
     refine nq P' S (by exact bQ ‹_› (by decide)) (by decide +kernel) ⟨rfl,?_⟩
     walk_at "go";refine e_.exc ‹_› ?_
     exact(by simpa[hd] using h:∀t,E (g0 t) σ) _
    .have hd:u=10:=by simpa using hd
     subst hd
     refine gr ?_;walk_at "go"
     have hlt:bu l bG (p+2)<l.length:=(dY.mp hu).1
     refine nY P' S qu' S.CV (by decide +kernel) (by exact bQ ‹_› (by decide)) (by exact jC ‹_›) ?_
     walk_at "go"
     exact h
   .replace h:=hu▸h
    walk_at "go"
    refine pi G rfl (λp=>vg P' (P'.b0▸G.gl 2 _ rfl)) λi8 H iH A=>?_
    walk_at "n"
    refine nr.f ‹_› ?_;walk_at "go"
    exact h
  .replace h:=(aA (by simpa using hc))▸h
   walk_at "go"
   refine nY P' S qu' S.CV (by decide +kernel) (by exact bQ ‹_› (by decide)) hp2 ?_
   walk_at "go"
   exact h
 .rewrite[an λz=>(by simpa[and_assoc] using hb:¬(sl l p (p+2)=[92,32]\/sl l p (p+2)=[92,9]\/sl l p (p+2)=[92,10])) z.2] at h
  walk_at "go"
  exact DA P' G S (C.ent.hd.trans qu) N hl h
end
end
section
theorem E3(l:List Nat)(p:Nat):sl l p p=[]:=by unfold sl;simp
theorem Td{l:List Nat}{s p u:Nat}(h:s<=p)(hu:l[p]?=some u):sl l s (p+1)=sl l s p++[u]:=by
 unfold sl
 rw[show p+1-s=(p-s)+1 by exact Nat.sub_add_comm ‹_›,wJ]
 congr 1
 rw[Zd,show s+(p-s)=p by exact iY ‹_›,hu];rfl
theorem mB(l:List Nat)(L:List af)(n:Nat):n<=bu l L n:=by unfold bu;exact dX _ _
theorem No{e:List Nat}{u:Nat}(h:iq e=some u):∃a b,e=[a,b]:=by
 unfold iq at h
 cases hf:pC.find? λq=>q.1==e with
 | none=>replace h:=hf▸h;cases h
 | some q=>
  have h1:=eq_of_beq (XB (p:=λq:List Nat×Nat×bY=>q.1==e) hf)
  have h2:∀q∈pC,q.1.length=2:=by decide
  have h2:=h2 q (XC hf)
  replace h2:=h1▸h2
  match e,h2 with
  | [a,b],_=>exact(jW a b rfl)
theorem Ve{l:List Nat}{p k:Nat}{r:Nat×Nat}(h:fN l p k=some r):r.1<=l.length/\r.1=p+k:=by
 unfold fN at h
 by_cases hz:p+k<=l.length/\f_ gp (sl l p (p+k))=true/\scalar (hexVal (sl l p (p+k)))=true
 .replace h:=(aA hz)▸h;refine(λj0=>?_) (bj h);clear h;subst j0;exact⟨hz.1,rfl⟩
 .exact bI ((an hz)▸h)
theorem zu{multi:Bool}{l:List Nat}{p q:Nat}{e:List Nat}(h:ee multi l p=some (q,e))(hu:l[p]?=some 92):q<=l.length/\e.length<=1/\p<q:=by
 have hlt:p<l.length:=(dY.mp hu).1
 have hx:∀{k:Nat},(fN l (p+2) k).map (λr=>(r.1,[r.2]))=some (q,e)->q<=l.length/\e.length<=1/\p<q:=λ{k} h=>by
  refine aC (LR.mp h) λr hr hq=>?_
  cases hq
  have:=Ve hr
  exact⟨this.1,bk _,by rw[this.2];exact bQ (ow (dm p)) (dX _ _)⟩
 unfold ee at h
 split at h
 .rename_i hz
  have hp2:p+2<=l.length:=by rcases hz.2 with z | z | z <;> exact xq z
  have g1:=mB l fK (p+2)
  have g2:=mB l bG (p+2)
  split at h
  .cases h;exact⟨rH hp2,cQ _,by exact oz g1⟩
  .cases hu2:l[bu l bG (p+2)]? with
   | none=>replace h:=hu2▸h;cases h;exact⟨rH hp2,cQ _,by exact oz g2⟩
   | some u=>
    have hq:=(dY.mp hu2).1
    have g3:=mB l fK (bu l bG (p+2)+1)
    replace h:=hu2▸h
    have h:(if u=10 then some (bu l fK (bu l bG (p+2)+1),[]) else none)=some (q,e):=h
    by_cases h10:u=10
    .replace h:=(aA h10)▸h;cases h
     exact⟨rH (by exact jC ‹_›),cQ _,by lia⟩
    .exact bI ((an h10)▸h)
 .split at h
  .exact hx h
  .split at h
   .exact hx h
   .refine aC (LR.mp h) λu he hq=>?_
    cases hq
    refine dV (No he) λa b z=>?_
    exact⟨xq z,bk _,by lia⟩
inductive Res where
 | ok (p:Nat) (t:List Nat)
 | err
 | bad
noncomputable def mw:Bool->List af
 | true=>rO
 | false=>qQ
noncomputable def b4(multi:Bool)(l:List Nat):Nat->Nat->List Nat->Res
 | 0,_,_=>.bad
 | f+1,p,t=>match l[p]? with
  | none=>.err
  | some u=>if u=34 then(if multi=true then(if at_ l [34,34,34] p=true then .ok (p+3) t else b4 multi l f (p+1) (t++[u])) else .ok (p+1) t)
   else if u=92 then(match ee multi l p with | none=>.err | some (q,e)=>b4 multi l f q (t++e))
   else if(mw multi).contains (ms [u])=true then .bad else b4 multi l f (p+1) (t++[u])
def Out(Q:PV->AS->Prop)(E:aG->AS->Prop)(σ:AS):Res->Prop
 | .ok p t=>Q (.tup [.int (p:Int),.str (ms t)]) σ
 | .err=>∀t,E (g0 t) σ
 | .bad=>False
section
variable {c:FC}{σ:AS}{Q:PV->AS->Prop}{E:aG->AS->Prop}{ev:bB}{w:aR}{b:am}{n:Nat}
theorem Ua(P:Pl c ev w b (n+5))(S:aO w b)(qu:c.A.handled=none){l:List Nat}{p:Nat}(hl:l.length<2^24)
  (h:match ee true l p with | some (q,u)=>Q (.tup [.int q,.str (ms u)]) σ | none=>∀t,E (g0 t) σ):aM c (.val (.ref 644)) [.str (ms l),.int p] [] [] σ Q E:=by
 refine QM P S λΓ C P' G N=>?_
 unfold Hi
 walk_at "n"
 refine RD P' S (C.hd.trans qu) hl ?_
 cases hx:ee true l p with
 | none=>replace h:=hx▸h;intro t;walk_at "go";refine e_.exc ‹_› ?_;exact h t
 | some r=>replace h:=hx▸h;obtain ⟨q,u⟩:=r;walk_at "go";exact h
noncomputable def yK(m:Bool):Nat:=cond m 329 324
noncomputable def Aa(m:Bool):Nat:=cond m 644 637
theorem aO.P_{w:aR}{b:am}(S:aO w b)(m:Bool):bS w b (yK m) (mw m):=by
 cases m with
 | true=>exact S.V6
 | false=>exact S.MW
theorem Pv(m:Bool)(P:Pl c ev w b (n+5))(S:aO w b)(qu:c.A.handled=none){l:List Nat}{p:Nat}(hl:l.length<2^24)
  (h:match ee m l p with | some (q,u)=>Q (.tup [.int q,.str (ms u)]) σ | none=>∀t,E (g0 t) σ):aM c (.val (.ref (Aa m))) [.str (ms l),.int p] [] [] σ Q E:=by
 cases m with
 | true=>exact Ua P S qu hl h
 | false=>exact Om P S qu hl h
theorem Tn{F:Fn}{Γ:Gm F}{m:Bool}{e:Ce}{b:Cs}{τ:Bool->AS}{d:Dn}(h:po Γ e b (τ m) d):Br m (po Γ e b (τ true) d) (po Γ e b (τ false) d):=Br.mk (λz=>by rw[<-z];exact h) (λz=>by rw[<-z];exact h)
theorem Cj(P:Pl c ev w b (n+6))(S:aO w b)(qu:c.A.handled=none)(multi:Bool){l:List Nat}{kX:Nat}(hl:l.length<2^24)(hp:kX<=l.length)
  (h:Out Q E σ (b4 multi l (l.length+1) kX [])):aM c (.val (.ref 672)) [.str (ms l),.int kX] [ae "multiline"] [.bool multi] σ Q E:=by
 refine WW P S λΓ C P' G N=>?_
 have qu':=C.hd.trans qu
 have zs:bN=16777216:=eW
 unfold FH
 walk_at "n"
 walk_at "go"
 refine Tn (τ:=λm=>Dh.at [.str (ms l),.int kX,.bool multi,.val (.ref (yK m)),.val (.ref (Aa m)),.str (ms []),.int kX,.al,.al] σ.st) ?_
 refine wh G (λq:Nat×Nat×List Nat×PV×PV×Nat=>[.str (ms l),.int q.1,.bool multi,.val (.ref (yK multi)),.val (.ref (Aa multi)),.str (ms q.2.2.1),.int q.2.1,q.2.2.2.1,q.2.2.2.2.1]) (λZ=>σ.st) (λq=>q.2.2.2.2.2) (λq=>q.1<=l.length/\q.2.1<=q.1/\q.2.2.1.length<=q.2.1/\Out Q E σ (b4 multi l q.2.2.2.2.2 q.1 (q.2.2.1++sl l q.2.1 q.1))) (kX,kX,[],.al,.al,l.length+1) (ud hp (bk _) (cQ _) (by rw[E3];exact h)) .refl λq I bC ec ck Le=>?_
 have b9:Pl bC.c bC.c.env w b (n+5):=ec▸P'
 have dN:bC.c.A.handled=none:=ec▸qu'
 clear h hp
 obtain ⟨p,s,a,v1,v2,m⟩:=q
 refine jO I λhpl hsp has h=>?_;clear I
 dsimp only at hpl hsp has h
 walk_at "n"
 walk_at "go"
 have hsl:(sl l s p).length=p-s:=by unfold sl;simp;exact gS (oQ ‹_› _)
 refine mu b9.ok dN (by exact bQ (bL ‹_› ‹_›) (by decide)) (λu hu=>?_) (λhu=>?_)
 .have hlt:p<l.length:=(dY.mp hu).1
  cases m with
  | zero=>exact h.elim
  | succ m=>
  rewrite[b4] at h
  replace h:=hu▸h
  dsimp only at h
  have nx:Out Q E σ (b4 multi l m (p+1) (a++sl l s p++[u]))->Out Q E σ (b4 multi l m (p+1) (a++sl l s (p+1))):=λh=>by rw[(Td hsp hu:sl l s (p+1)=sl l s p++[u]),<-fF];exact h
  walk_at "go";refine gL ?_;walk_at "go"
  refine Br.mk (λhb=>?_) (λhb=>?_)
  .replace h:=(aA (by simpa using eq_of_beq hb))▸h
   walk_at "go"
   refine Br.mk (λhm=>?_) (λhm=>?_)
   .rewrite[an (by simpa using hm)] at h
    refine gM ?_;walk_at "go"
    refine lF (by exact jh ‹_› (by decide)) ?_
    walk_at "go"
    refine cU (by first | exact jh (bL (aJ (fx has (da hsl)) (da (iY hsp))) (fG hlt hl)) (by decide) | omega) ?_
    walk_at "go";refine f0.ret ‹_› ?_;walk_at "go"
    exact h
   .replace h:=(aA (by simpa using hm))▸h
    refine nQ ?_;walk_at "go"
    refine pN (by decide) ?_
    walk_at "go"
    refine Br.mk (λhc=>?_) (λhc=>?_)
    .replace h:=(aA hc)▸h
     refine gM ?_;walk_at "go"
     refine lF (by exact jh ‹_› (by decide)) ?_
     walk_at "go"
     refine cU (by first | exact jh (bL (aJ (fx has (da hsl)) (da (iY hsp))) (fG hlt hl)) (by decide) | omega) ?_
     walk_at "go";refine f0.ret ‹_› ?_;walk_at "go"
     exact h
    .rewrite[an (by rw[hc];decide)] at h
     refine gr ?_;walk_at "go"
     exact Le.cnt _ _ .refl (rt (p+1,s,a,.str (ms [u]),v2,m) rfl rfl (dm _) hlt (kV hsp) has (nx h))
  .rewrite[an (λz=>by rw[z] at hb;exact absurd hb (by decide))] at h
   refine gL ?_;walk_at "go"
   refine Br.mk (λhc=>?_) (λhc=>?_)
   .replace h:=(aA (by simpa using eq_of_beq hc))▸h
    walk_at "go"
    refine lF (by exact jh ‹_› (by decide)) ?_
    walk_at "go"
    refine rX (by first | exact jh (bL (aJ (fx has (da hsl)) (da (iY hsp))) (fG hlt hl)) (by decide) | omega) ?_
    walk_at "go"
    refine⟨dN,?_⟩
    refine Pv multi b9 S dN hl ?_
    cases hx:ee multi l p with
    | none=>replace h:=hx▸h;intro t;walk_at "go";refine f0.exc ‹_› ?_;walk_at "go";refine e_.exc ‹_› ?_;exact h t
    | some r=>
     obtain ⟨q,e⟩:=r
     replace h:=hx▸h
     have hq:=zu hx (by rw[hu,show u=92 by simpa using eq_of_beq hc])
     walk_at "go"
     have hle:a.length+(p-s)+e.length<=q:=aJ (fx (aJ (iG has _) (da (iY hsp))) hq.2.1) hq.2.2
     refine rX (by rw[bt,hsl];exact aJ hle (aJ hq.1 (zs▸eF hl))) ?_
     walk_at "go"
     exact Le.cnt _ _ .refl (rt (q,q,a++sl l s p++e,.str (ms [u]),.str (ms e),m) rfl rfl (dm _) hq.1 (bk _) (by dsimp only;rw[bt,bt,hsl];exact hle) (by dsimp only;rw[E3,gQ];exact h))
   .rewrite[an (λz=>by rw[z] at hc;exact absurd hc (by decide))] at h
    walk_at "go"
    refine tW (L:=mw multi) (by rw[b9.w,b9.b0];exact S.P_ multi) (by cases multi <;> decide +kernel) ?_
    walk_at "go"
    refine Br.mk (λhd=>?_) (λhd=>?_)
    .replace h:=(aA hd)▸h;exact h.elim
    .rewrite[an (by rw[hd];decide)] at h
     refine gr ?_;walk_at "go"
     exact Le.dW _ _ .refl (rt (p+1,s,a,.str (ms [u]),v2,m) rfl rfl (dm _) hlt (kV hsp) has (nx h))
 .cases m with
  | zero=>exact h.elim
  | succ m=>
  rewrite[b4] at h
  replace h:=hu▸h
  walk_at "go"
  refine pi ck rfl (λp=>vg b9 (b9.b0▸ck.gl 4 _ rfl)) λi8 H iH A=>?_
  have m_:=H.pl b9
  walk_at "n"
  walk_at "go"
  refine nq m_ S (by exact bQ ‹_› (by decide)) (by decide +kernel) ⟨rfl,?_⟩
  walk_at "go";refine nr.exc ‹_› ?_;walk_at "go";refine f0.exc ‹_› ?_;walk_at "go";refine e_.exc ‹_› ?_
  exact h _
end
end
section
noncomputable def mC(l:List Nat)(p:Nat):Res:=
 match b4 true l (l.length+1) (if at_ l [10] (p+3)=true then p+4 else p+3) [] with
 | .ok q t=>if at_ l [34] q=true then(if at_ l [34] (q+1)=true then .ok (q+2) (t++[34,34]) else .ok (q+1) (t++[34])) else .ok q t
 | r=>r
noncomputable def eP(l:List Nat)(p:Nat):Res:=if at_ l [34,34,34] p=true then mC l p else b4 false l (l.length+1) (p+1) []
theorem uu{multi:Bool}{l:List Nat}:∀(f p:Nat) (t:List Nat) {q:Nat} {t':List Nat},p<=l.length->b4 multi l f p t = .ok q t'->q<=l.length/\t'.length+p<=t.length+q:=λf=>by
 induction f with
 | zero=>intro p t q t' hp h;cases h
 | succ f ih=>
  intro p t q t' hp h
  rewrite[b4] at h
  cases hu:l[p]? with
  | none=>replace h:=hu▸h;cases h
  | some u=>
   replace h:=hu▸h
   dsimp only at h
   have hlt:p<l.length:=(dY.mp hu).1
   have nx:b4 multi l f (p+1) (t++[u]) = .ok q t'->q<=l.length/\t'.length+p<=t.length+q:=λh=>by
    have:=ih _ _ hlt h
    replace this:=kn▸bt▸this
    exact⟨this.1,mX (aJ this.2 (da (gu _ 1 _)))⟩
   by_cases h1:u=34
   .replace h:=(aA h1)▸h
    by_cases hm:multi=true
    .replace h:=(aA hm)▸h
     by_cases ha:at_ l [34,34,34] p=true
     .replace h:=(aA ha)▸h
      have:p+3<=l.length:=pM ha (by decide)
      cases h
      exact⟨this,by lia⟩
     .replace h:=(an ha)▸h;exact nx h
    .replace h:=(an hm)▸h;cases h;exact⟨hlt,by exact fe (t.length+p)⟩
   .replace h:=(an h1)▸h
    by_cases h2:u=92
    .replace h:=(aA h2)▸h
     subst h2
     cases hx:ee multi l p with
     | none=>replace h:=hx▸h;cases h
     | some r=>
      replace h:=hx▸h
      have hq:=zu (q:=r.1) (e:=r.2) hx hu
      have:=ih _ _ hq.1 h
      replace this:=bt▸this
      exact⟨this.1,mX (aJ (eG hq.2.2 _) (aJ this.2 (aJ (iG (eG hq.2.1 _) _) (da (gu _ 1 _)))))⟩
    .replace h:=(an h2)▸h
     by_cases h3:(mw multi).contains (ms [u])=true
     .replace h:=(aA h3)▸h;cases h
     .replace h:=(an h3)▸h;exact nx h
section
variable {c:FC}{σ:AS}{Q Q':PV->AS->Prop}{E E':aG->AS->Prop}{ev:bB}{w:aR}{b:am}{n:Nat}
theorem Out.mn{τ τ':AS}{r:Res}(h:Out Q E τ r)(h1:∀v,Q v τ->Q' v τ')(h2:∀t,E (g0 t) τ->E' (g0 t) τ'):Out Q' E' τ' r:=by
 cases r with
 | ok p t=>exact h1 _ h
 | err=>exact λt=>h2 t (h t)
 | bad=>exact h
theorem Ck(P:Pl c ev w b (n+7))(S:aO w b)(qu:c.A.handled=none){l:List Nat}{p:Nat}(hl:l.length<2^24)(hp:p<l.length)
  (h:Out Q E σ (b4 false l (l.length+1) (p+1) [])):aM c (.val (.ref 615)) [.str (ms l),.int p] [] [] σ Q E:=by
 refine MF P S λΓ C P' G N=>?_
 unfold JK
 walk_at "n"
 refine gr ?_;walk_at "go"
 refine Cj P' S (C.hd.trans qu) false hl hp (h.mn (λv h=>?_) λt h=>?_)
 .walk_at "go";exact h
 .walk_at "go";refine e_.exc ‹_› ?_;exact h
noncomputable def zd:Cs:=.ite (.o1 (.un .Not) (.g_ (.loc 0) (ae "startswith") (.cons (.loc 3) (.cons (.loc 1) .nil)))) (.ret (.tup (.cons (.loc 1) (.cons (.loc 5) .nil))) .fin) .fin (.aug 1 .Add (.nat 1) (.ite (.o1 (.un .Not) (.g_ (.loc 0) (ae "startswith") (.cons (.loc 3) (.cons (.loc 1) .nil)))) (.ret (.tup (.cons (.loc 1) (.cons (.o2 (.bin .Add) (.loc 5) (.loc 3)) .nil))) .fin) .fin (.aug 1 .Add (.nat 1) (.ret (.tup (.cons (.loc 1) (.cons (.o2 (.bin .Add) (.loc 5) (.o2 (.bin .Mult) (.loc 3) (.nat 2))) .nil))) .fin))))
theorem SJ(P:Pl c ev w b (n+7))(S:aO w b)(qu:c.A.handled=none){l:List Nat}{p:Nat}(hl:l.length<2^24)(hp:at_ l [34,34,34] p=true)
  (h:Out Q E σ (mC l p)):aM c (.val (.ref 665)) [.str (ms l),.int p] [ae "literal"] [.bool false] σ Q E:=by
 refine UL P S λΓ C P' G N=>?_
 have qu':=C.hd.trans qu
 have zs:bN=16777216:=eW
 have rest:∀p1:Nat,3<=p1->p1<=l.length->Out Q E σ (match b4 true l (l.length+1) p1 [] with
   | .ok q t=>if at_ l [34] q=true then(if at_ l [34] (q+1)=true then .ok (q+2) (t++[34,34]) else .ok (q+1) (t++[34])) else .ok q t
   | r=>r)->aM Γ.c (.val (.ref 672)) [.str (ms l),.int p1] [ae "multiline"] [.bool true] (Ik.at [.str (ms l),.int p1,.bool false,.str (ms [34]),.al,.al] σ.st) (D Γ (.eE [1,5] (.seq .fin (.seq zd .top)))).e (D Γ (.eE [1,5] (.seq .fin (.seq zd .top)))).x:=λp1 h3 hp1 h=>by
  unfold zd
  refine Cj P' S qu' true hl hp1 ?_
  cases hx:b4 true l (l.length+1) p1 [] with
  | err=>replace h:=hx▸h;intro t;walk_at "go";refine e_.exc ‹_› ?_;exact h t
  | bad=>replace h:=hx▸h;exact h
  | ok q t=>
   replace h:=hx▸h
   dsimp only at h
   have hle:=uu _ _ _ hp1 hx
   simp only[i7,jY] at hle
   unfold Out
   walk_at "go";refine nQ ?_;walk_at "go"
   refine pN (by decide) ?_
   walk_at "go"
   refine Br.mk (λhb=>?_) (λhb=>?_)
   .rewrite[an (by exact bi_not.mp hb)] at h
    walk_at "go"
    exact h
   .replace h:=(aA (by simpa using hb))▸h
    refine gr ?_;walk_at "go";refine nQ ?_;walk_at "go"
    refine pN (by decide) ?_
    walk_at "go"
    refine Br.mk (λhc=>?_) (λhc=>?_)
    .rewrite[an (by simpa using hc)] at h
     walk_at "go"
     refine cU (by rw[kn];exact aJ (eG (aJ (by decide) h3) _) (aJ hle.2 (aJ hle.1 (zs▸eF hl)))) ?_
     walk_at "go"
     exact h
    .replace h:=(aA (by simpa using hc))▸h
     refine gr ?_;walk_at "go"
     refine R8 ?_
     walk_at "go"
     refine cU (by show _+2<=_;exact aJ (eG (aJ (by decide) h3) _) (aJ hle.2 (aJ hle.1 (zs▸eF hl)))) ?_
     walk_at "go"
     exact h
 unfold mC at h
 unfold Ho
 walk_at "n"
 refine gr ?_;walk_at "go";refine nQ ?_;walk_at "go"
 refine pN (by decide) ?_
 walk_at "go"
 refine Br.mk (λhn=>?_) (λhn=>?_)
 .replace h:=(aA hn)▸h
  refine gr ?_;walk_at "go"
  exact⟨qu',rest _ (by exact lV _ _) (pM hn (by decide)) h⟩
 .rewrite[an (by rw[hn];decide)] at h
  walk_at "go"
  exact⟨qu',rest _ (by exact lV _ _) (pM hp (by decide)) h⟩
theorem y9(P:Pl c ev w b (n+8))(S:aO w b)(qu:c.A.handled=none){l:List Nat}{p:Nat}{pf:PV}(hl:l.length<2^24)(hp:l[p]?=some 34)
  (h:Out Q E σ (eP l p)):aM c (.val (.ref 679)) [.str (ms l),.int p,pf] [] [] σ Q E:=by
 refine TP P S λΓ C P' G N=>?_
 have qu':=C.hd.trans qu
 have hlt:p<l.length:=(dY.mp hp).1
 unfold eP at h
 unfold Ci
 walk_at "n"
 walk_at "go"
 refine mu P'.ok qu' (by exact bQ (fG ‹_› ‹_›) (by decide)) (λu hu=>?_) (λhu=>by exact nV (hp▸hu))
 replace hu:=hp▸hu
 refine(λj0=>?_) (bj hu);clear hu;subst j0
 walk_at "go";refine gL ?_;walk_at "go"
 refine Br.mk (λhb=>?_) (λhb=>absurd hb (by decide))
 refine nQ ?_;walk_at "go"
 refine pN (by decide) ?_
 walk_at "go"
 refine Br.mk (λhc=>?_) (λhc=>?_)
 .replace h:=(aA hc)▸h
  walk_at "go"
  refine SJ P' S qu' hl hc (h.mn (λv h=>?_) λt h=>?_)
  .walk_at "go";exact h
  .walk_at "go";refine e_.exc ‹_› ?_;exact h
 .rewrite[an (by rw[hc];decide)] at h
  walk_at "go"
  refine Ck P' S qu' hl hlt (h.mn (λv h=>?_) λt h=>?_)
  .walk_at "go";exact h
  .walk_at "go";refine e_.exc ‹_› ?_;exact h
theorem HZ(P:Pl c ev w b (n+8))(S:aO w b)(qu:c.A.handled=none){l:List Nat}{p:Nat}(hl:l.length<2^24)(hp:l[p]?=some 34)
  (h:Out Q E σ (b4 false l (l.length+1) (p+1) [])):aM c (.val (.ref 608)) [.str (ms l),.int p] [] [] σ Q E:=by
 refine WM P S λΓ C P' G N=>?_
 have qu':=C.hd.trans qu
 have hlt:p<l.length:=(dY.mp hp).1
 unfold Dj
 walk_at "n"
 walk_at "go"
 refine mu P'.ok qu' (by exact bQ (fG ‹_› ‹_›) (by decide)) (λu hu=>?_) (λhu=>by exact nV (hp▸hu))
 replace hu:=hp▸hu
 refine(λj0=>?_) (bj hu);clear hu;subst j0
 walk_at "go"
 refine tW (L:=nR) (by rw[P'.w,P'.b0];exact S.Sp) (by decide +kernel) ?_
 rw[show nR.contains (ms [34])=false by decide +kernel]
 walk_at "go";refine gL ?_;walk_at "go"
 refine Br.mk (λhb=>absurd hb (by decide)) (λhb=>?_)
 refine gL ?_;walk_at "go"
 refine Br.mk (λhb=>?_) (λhb=>absurd hb (by decide))
 walk_at "go"
 refine Ck P' S qu' hl hlt (h.mn (λv h=>?_) λt h=>?_)
 .walk_at "go";exact h
 .walk_at "go";refine e_.exc ‹_› ?_;exact h
end
end
section
noncomputable def cr:aL->aL×aL×aL×dA
 | .ListComp e (g::_) s _=>(e,g.target,g.iter,s)
 | .GeneratorExp e (g::_) s _=>(e,g.target,g.iter,s)
 | x=>(x,x,x,default)
abbrev aW:=List (List Nat×Nat)
noncomputable def bF(T:Nat)(us:aW):List PV:=us.map λp=>.tup [.str (ms p.1),cR T [p.2]]
noncomputable def srcOf(us:aW):List Nat:=(us.map (·.1)).flatten
noncomputable def aY(us:aW):List Nat:=us.map (·.2)
theorem GT(us:aW):(us.map λp=>[p.2]).flatten=aY us:=by
 induction us with
 | nil=>rfl
 | cons p us ih=>rw[cJ,By,ih];rfl
theorem yk{b:Bool}{A:Prop}(h:b=true)(a:A):cond b A False:=by rw[h];exact a
section
variable {F:Fn}{Γ:Gm F}{σ:AS}{Q:PV->AS->Prop}{E:aG->AS->Prop}
theorem vo{x:aL}{it:Ce}{cl:List (af×aj)}(hh:Γ.c.A.handled=none)(hx:Expr.ListComp (cr x).1 [⟨(cr x).2.1,F.rb it (cr x).2.2.1,[],0⟩] (cr x).2.2.2 x.pos=x)(ho:it.odd=false\/it.isCall=true)
  (hc:l5 (cr x).2.2.2 Γ.c.env=pure cl) (h1:((cr x).2.2.2.names.all λy=>y.2 !=.cell)=true) (hk:(cr x).2.2.2.kind = .function) (h2:((cr x).2.2.2.names.all λy=>y.2 !=.local||(cr x).2.2.2.names.lookup y.1==some .local)=true) (h3:((um (cr x).2.1).all λn=>(cr x).2.2.2.names.lookup n==some .local)=true)
  (h:tH Γ it σ (λGd xs τ=>Gd τ/\∃ys,jM Γ.c τ (cr x).2.2.2 cl (cr x).1 (cr x).2.1 xs ys/\xs.length<=16777216/\∀a,(∀ao,(a,ao)∉τ.st)->Q (.val (.ref a)) {τ with st:=(a,.lst ys)::τ.st}) E):Ev Γ.c x σ Q E:=by
 have e1:=aI (λx=>F.rb it (cr x).2.2.1) hx
 generalize cr x=d at *
 rw[<-hx]
 exact Ev.comp hh ((ik e1 ho).f _) hc h1 hk h2 h3 (h _ e1)
end
section
variable {c:FC}{σ:AS}{Q:PV->AS->Prop}{E:aG->AS->Prop}{ev:bB}{w:aR}{b:am}{n:Nat}
theorem tU(P:Pl c ev w b (n+1))(S:aO w b)(qu:c.A.handled=none){us:aW}{a:aj}(hm:(a,.lst (bF c.T us))∈σ.st)(hl:us.length<=1000000)(hz:(srcOf us).length<=1000000)
  (h:Q (.str (ms (srcOf us))) σ):aM c (.val (.ref 710)) [.val (.ref a)] [] [] σ Q E:=by
 refine W7 P S λΓ C P' G N=>?_
 have qu':=C.hd.trans qu
 unfold Gx
 walk_at "n"
 refine yk (by kernel_rfl) ?_
 refine dh.join ?_;walk_at "go"
 refine vo (it:=.loc 0) (cl:=[]) qu' (by kernel_rfl) (.inl rfl) (by kernel_rfl) (by kernel_rfl) (by kernel_rfl) (by kernel_rfl) (by kernel_rfl) ?_
 refine pF (du G rfl ?_)
 refine il.lst qu' hm ⟨hm,cY (us.map λp:List Nat×Nat=>p.1),?_,by unfold bF;rw[db];exact aJ ‹_› (by decide),λd hd=>?_⟩
 .unfold cY bF
  rw[fg]
  refine jM.map (α:=List Nat×Nat) (λp=>(.tup [.str (ms p.1),cR c.T [p.2]]:PV)) (λp=>.str (ms p.1)) (λp=>(aw _ (.zT ?_) (iu.name ?_ ?_ ?_ (.head _)))) us
  .decide +kernel
  .rfl
  .kernel_rfl
  .decide +kernel
 .refine ge (v:=[.val (.ref a)]) (t:=(d,.lst (cY (us.map λp=>p.1)))::σ.st) G ?_
  walk_at "n"
  refine DE (a:=d) (ls:=us.map λp:List Nat×Nat=>p.1) hz ?_
  refine ge (v:=[.val (.ref a)]) (t:=σ.st) G ?_
  walk_at "n"
  walk_at "go"
  exact h
theorem xQ(P:Pl c ev w b (n+1))(S:aO w b)(qu:c.A.handled=none){us:aW}{a:aj}(hm:(a,.lst (bF c.T us))∈σ.st)(hl:us.length<=1000000)
  (h:Q (cR c.T (aY us)) σ):aM c (.val (.ref 715)) [.val (.ref a)] [] [] σ Q E:=by
 refine Vx P S λΓ C P' G N=>?_
 have qu':=C.hd.trans qu
 have hT:Γ.c.T=c.T:=C.T
 unfold CW
 walk_at "n"
 refine yk (by kernel_rfl) ?_
 refine dh.join ?_;walk_at "go"
 refine vo (it:=.loc 0) (cl:=[]) qu' (by kernel_rfl) (.inl rfl) (by kernel_rfl) (by kernel_rfl) (by kernel_rfl) (by kernel_rfl) (by kernel_rfl) ?_
 refine pF (du G rfl ?_)
 refine il.lst qu' hm ⟨hm,ln c.T (us.map λp:List Nat×Nat=>[p.2]),?_,by unfold bF;rw[db];exact aJ ‹_› (by decide),λd hd=>?_⟩
 .unfold ln bF
  rw[fg]
  refine jM.map (α:=List Nat×Nat) (λp=>(.tup [.str (ms p.1),cR c.T [p.2]]:PV)) (λp=>cR c.T [p.2]) (λp=>(aw _ (.zT ?_) (iu.name ?_ ?_ ?_ (.tail _ (.head _))))) us
  .decide +kernel
  .rfl
  .kernel_rfl
  .decide +kernel
 .refine ge (v:=[.val (.ref a)]) (t:=(d,.lst (ln c.T (us.map λp=>[p.2])))::σ.st) G ?_
  walk_at "n"
  rw[<-hT]
  refine Nq (a:=d) (ls:=us.map λp:List Nat×Nat=>[p.2]) (by rw[GT];unfold aY;rw[db];assumption) ?_
  refine ge (v:=[.val (.ref a)]) (t:=σ.st) G ?_
  walk_at "n"
  walk_at "go"
  rw[GT,hT]
  exact h
theorem sr(P:Pl c ev w b (n+1))(S:aO w b)(qu:c.A.handled=none){us:aW}{a:aj}(hm:(a,.lst (bF c.T us))∈σ.st)(hl:us.length<=1000000)
  (h:Q (.str (ms (aY us))) σ):aM c (.val (.ref 715)) [.val (.ref a)] [] [] σ Q E:=I7 (xQ P S qu hm hl (cM _ _ rfl h))
end
end
section
noncomputable def bq(many:Bool):List Nat:=if many=true then[34,34,34,10] else[34]
noncomputable def bp(many:Bool):List Nat:=if many=true then[34,34,34] else[34]
noncomputable def jQ(many:Bool)(body:List Nat)(place k:Nat):Bool:=
 match eP (bq many++sl body place k++bp many) 0 with
 | .ok e v=>(e==(bq many).length+(k-place)+(bp many).length)&&(v !=[])
 | _=>false
noncomputable def li(many:Bool)(body:List Nat)(place:Nat):Nat->Nat->Nat
 | 0,_=>body.length
 | f+1,k=>if jQ many body place k=true then k else li many body place f (k+1)
theorem Of{l:List Nat}{p q:Nat}{t:List Nat}(hp:p+3<=l.length)(h:mC l p = .ok q t):t.length<=l.length+2:=by
 unfold mC at h
 generalize hp:(if at_ l [10] (p+3)=true then p+4 else p+3)=p1 at h
 have hpl:p1<=l.length:=by
  rw[<-hp]
  by_cases h10:at_ l [10] (p+3)=true
  .rw[aA h10];exact(pM h10 (by decide):p+3+1<=_)
  .rw[an h10];assumption
 cases hx:b4 true l (l.length+1) p1 [] with
 | err=>replace h:=hx▸h;cases h
 | bad=>replace h:=hx▸h;cases h
 | ok q' t'=>
  replace h:=hx▸h
  have:=uu _ _ _ hpl hx
  simp only[i7,jY] at this
  have h:(if at_ l [34] q'=true then(if at_ l [34] (q'+1)=true then Res.ok (q'+2) (t'++[34,34]) else .ok (q'+1) (t'++[34])) else .ok q' t') = .ok q t:=h
  by_cases h1:at_ l [34] q'=true
  .replace h:=(aA h1)▸h
   by_cases h2:at_ l [34] (q'+1)=true
   .replace h:=(aA h2)▸h;cases h;rw[bt];exact iG (aJ (cN this.2) this.1) 2
   .replace h:=(an h2)▸h;cases h;rw[bt];exact kV (iG (aJ (cN this.2) this.1) 1)
  .replace h:=(an h1)▸h;cases h;exact L7 (aJ (cN this.2) this.1)
theorem MK{l:List Nat}{q:Nat}{t:List Nat}(hl:0<l.length)(h:eP l 0 = .ok q t):t.length<=l.length+2:=by
 unfold eP at h
 by_cases ha:at_ l [34,34,34] 0=true
 .replace h:=(aA ha)▸h
  exact Of (pM ha (by decide)) h
 .replace h:=(an ha)▸h
  have:=uu _ _ _ (by exact jC ‹_›) h
  simp only[i7,jY] at this
  exact L7 (aJ (cN this.2) this.1)
section
variable {c:FC}{σ:AS}{Q:PV->AS->Prop}{E:aG->AS->Prop}{ev:bB}{w:aR}{b:am}{n:Nat}
theorem gG.pb{y:aG}{nm:af}{p:aT}(P:Pl c ev w b n)(S:aO w b)(g:Gl ev b nm (.ref 364))(hy:y.cls = .ref 364):gG c y (.Name nm p) σ true:=λe s A I L=>by
 obtain ⟨K,rfl,_,rfl,_,_,_⟩:=P
 have fin:au (av aF c.w) A (excMatches (.ref e) (.ref 364)) (λb' bc=>b'=true/\bc=s) (λZ Z=>False) s:=by
  obtain ⟨q,N,bs,hdct,sn,sub,ab,col,dd,k0,k1,k2,k3,k5,hC,_⟩:=S.pb
  obtain ⟨B,a0,cx,R,k,hen,hl,ha,hcx,oe,vs,T1,oT,ts,he,hcls,r⟩:=L
  obtain ⟨h,gg,d,t,os⟩:=s
  exact wpAny_excMatches_sub_self (I.b0 _ _ hC) he (hcls.trans hy) (by decide +kernel) ⟨rfl,rfl⟩
 rcases g.val with⟨mg,hg,hb⟩ | ⟨mg,mb,hg,hn,hB,hb⟩
 .exact oM K.kind g.kind (A6 (env:=c.env) (mg:=mg) (by rw[K.glob];exact hg.keeps I.b0) hb fin) g.lC
 .exact oM K.kind g.kind (A7 (env:=c.env) (mg:=mg) (mb:=mb) (by rw[K.glob];exact hg.keeps I.b0) hn (by rw[K.blt];exact hB.keeps I.b0) hb fin) g.lC
theorem QO{F:Fn}{Γ:Gm F}{m:Bool}{is:List Nat}{e:Ce}{b:Cs}{τ:Bool->AS}{d:Dn}(h:pn Γ is e b (τ m) d):Br m (pn Γ is e b (τ true) d) (pn Γ is e b (τ false) d):=Br.mk (λz=>by rw[<-z];exact h) (λz=>by rw[<-z];exact h)
theorem Ww(P:Pl c ev w b (n+9))(S:aO w b)(qu:c.A.handled=none){body:List Nat}{place:Nat}{many:Bool}(hl:body.length<1000000)(hp:place<body.length)
  (hbad:∀k,place<k->k<body.length->eP (bq many++sl body place k++bp many) 0≠.bad)
  (h:Q (.int (li many body place (body.length-(place+1)) (place+1):Nat)) σ):aM c (.val (.ref 722)) [.str (ms body),.int place,.bool many] [] [] σ Q E:=by
 refine PL P S λΓ C P' G N=>?_
 have qu':=C.hd.trans qu
 have zs:bN=16777216:=eW
 unfold CI
 walk_at "n"
 refine⟨qu',?_⟩
 walk_at "go"
 refine QO (τ:=λm=>xz.at [.str (ms body),.int place,.bool many,.str (ms (bq m)),.str (ms (bp m)),.al,.al,.al] σ.st) ?_
 refine fo G qu' (.inr rfl) (λq:PV×PV×PV=>[.str (ms body),.int place,.bool many,.str (ms (bq many)),.str (ms (bp many)),q.1,q.2.1,q.2.2]) (λZ=>σ.st) (λ(Z:Unit) xs Z=>∃f k:Nat,xs=nZ f k 1/\place<k/\k+f=body.length/\Q (.int (li many body place f k:Nat)) σ) ?_ ?_ ?_
 .refine Gr qu' rfl rfl (jF G (dE (gk rfl (du G rfl (dj (gM (dE (s_call rfl rfl (jF G (dE (du G rfl (gz (nh (iB (by exact bQ ‹_› (by decide)) (gz (Ec ?_))))))))))))))))
  refine⟨small_one (by dsimp only;exact Lr (2^62) (place+1)) (by dsimp only;lia) (by dsimp only;exact Lr (2^62) body.length) (by dsimp only;lia),(),λZ Z Z=>trivial,(.al,.al,.al),.refl,_,_,?_,dm _,?_,h⟩
  .dsimp only
   rw[Ps _ _ (by exact jC ‹_›)]
  .exact iY hp
 .rintro _ ⟨v1,v2,v3⟩ ⟨f,k,hx,hk,hf,h⟩
  cases f with
  | succ f=>exact rW hx
  | zero=>
   walk_at "go"
   refine iB (by exact bQ ‹_› (by decide)) ?_
   walk_at "go"
   exact h
 .rintro _ x xs ⟨v1,v2,v3⟩ ⟨f,k,hx,hk,hf,h⟩ bC R ck Le
  cases f with
  | zero=>exact qX hx
  | succ f=>
  have hx1:x = .int k:=by injection hx
  have hx2:xs=nZ f (k+1:Nat) 1:=by injection hx
  subst hx1 hx2
  have b9:Pl bC.c bC.c.env w b (n+8):=R.env▸R.pl P' qu'
  have dN:=R.qu qu'
  have hkl:k<body.length:=hf▸wZ (sw f)
  have hks:k-place<=1000000:=aJ (lI _ _) (eF (fG hkl hl))
  have hslen:(sl body place k).length=k-place:=by unfold sl;rw[qw,kb];exact gS (oQ (eF hkl) _)
  have hhead:(bq many).length<=4:=by cases many <;> decide
  have hmark:(bp many).length<=3:=by cases many <;> decide
  have h34:(bq many++sl body place k++bp many)[0]?=some 34:=by cases many <;> rfl
  have hlen:(bq many++sl body place k++bp many).length=(bq many).length+(k-place)+(bp many).length:=by rw[bt,bt,hslen]
  have rest:∀(e:Nat) (v:List Nat),jQ many body place k=((e==(bq many).length+(k-place)+(bp many).length)&&(v !=[]))->v.length<2^30->
    bl bC xO (xz.at [.str (ms body),.int place,.bool many,.str (ms (bq many)),.str (ms (bp many)),.int k,.int e,.str (ms v)] σ.st) (D bC .top).f (D bC .top).x:=λe v hgood hv=>by
   refine(so ck 99).s (k:=.top) ?_
   unfold xO
   walk_at "n"
   walk_at "go"
   refine iB (by exact bL ‹_› (by decide)) ?_
   walk_at "go";refine gM ?_;walk_at "go";refine' zk ?h ?_;(case h=>omega);walk_at "go"
   refine iB (by exact bL ‹_› (by decide)) ?_
   walk_at "go";refine gM ?_;walk_at "go";refine og ?_;walk_at "go"
   rw[(Nat.add_sub_assoc (eF hk) _)]
   rewrite[li] at h
   have nx:Br (e==(bq many).length+(k-place)+(bp many).length&&(v !=[])) (Q (.int k) σ) (Q (.int (li many body place f (k+1):Nat)) σ):=hgood▸Br.mk (λz=>by replace h:=(aA z)▸h;exact h) λz=>by rewrite[an (by rw[z];exact cm)] at h;exact h
   refine Br.mk (λhb=>?_) (λhb=>?_)
   .replace nx:=hb▸nx;replace nx:=(wy ..)▸nx
    refine oj ?_;walk_at "go"
    refine Br.mk (λhc=>?_) (λhc=>?_)
    .walk_at "go";refine f0.ret ‹_› ?_;walk_at "go"
     exact nx.1 hc
    .walk_at "go"
     exact Le.dW _ _ .refl (bh (.int k,.int e,.str (ms v)) rfl rfl ⟨f,k+1,rfl,ow hk,(gu k 1 f).trans hf,nx.2 hc⟩)
   .replace nx:=hb▸nx;replace nx:=(Bu ..)▸nx
    walk_at "go"
    exact Le.dW _ _ .refl (bh (.int k,.int e,.str (ms v)) rfl rfl ⟨f,k+1,rfl,ow hk,(gu k 1 f).trans hf,nx.2 rfl⟩)
  walk_at "n"
  refine⟨dN,?_⟩
  refine lF (by exact jh ‹_› (by decide)) ?_
  walk_at "go"
  refine cU (by rw[hslen];exact nF (fx hhead hks) (by decide)) ?_
  walk_at "go"
  refine cU (by rw[bt,hslen];exact nF (fx (fx hhead hks) hmark) (by decide)) ?_
  walk_at "go"
  refine y9 b9 S dN (by rw[hlen];exact bL (fx (fx hhead hks) hmark) (by decide)) h34 ?_
  cases hx:eP (bq many++sl body place k++bp many) 0 with
  | bad=>exact(hbad k hk hkl hx).elim
  | ok e v=>
   unfold Out
   walk_at "go"
   refine rest e v (by unfold jQ;rw[hx]) ?_
   have:=MK (by rw[hlen];cases many <;> simp[bq,bp]) hx
   replace this:=hlen▸this
   exact bL (aJ this (iG (fx (fx hhead hks) hmark) 2)) (by decide)
  | err=>
   intro t
   walk_at "go"
   refine pi ck rfl (λp=>gG.pb b9 S (b9.b0▸ck.gl 4 _ rfl) rfl) λi8 H iH A=>?_
   have m_:=H.pl b9
   walk_at "n"
   refine xp (d:=D i8 .top) iH (by decide +kernel) (.inl λZ=>by kernel_rfl) (vd rfl (dE (dj (dE (yI (gz λhi=>(bh _ rfl (.flat m_.ok iH.H (λx hx=>?_)) (vm iH hi (v':=[.str (ms body),.int place,.bool many,.str (ms (bq many)),.str (ms (bp many)),.int k,.int (0:Nat),.str (ms [])]) rfl (gf (k:=.seq .fin .top) (f:=.next) iH ?_)))))))))
   .rcases cB.mp hx with rfl | hx
    .trivial
    .rw[eX.mp hx];trivial
   .walk_at "n"
    refine nr.f ‹_› ?_;walk_at "go"
    exact rest 0 [] (by unfold jQ;rw[hx,show([]!=([]:List Nat))=false from rfl,sG]) (by decide)
end
end
section
noncomputable def rowOf(name text:aW)(many:Bool):List Nat:=[34]++srcOf name++lit "\" = "++(bq many++srcOf text++bp many)++[10]
theorem VU(name text:aW)(many:Bool):rowOf name text many=[34]++srcOf name++[34,32,61,32]++(bq many++srcOf text++bp many)++[10]:=by unfold rowOf;rw[show lit "\" = " = [34,32,61,32] by decide +kernel]
section
variable {c:FC}{σ:AS}{Q:PV->AS->Prop}{E:aG->AS->Prop}{ev:bB}{w:aR}{b:am}{n:Nat}
theorem Dq(P:Pl c ev w b (n+2))(S:aO w b)(qu:c.A.handled=none){us ts:aW}{many:Bool}{a d:aj}(hm:(a,.lst (bF c.T us))∈σ.st)(hm':(d,.lst (bF c.T ts))∈σ.st)(hl:us.length<=1000)(hl':ts.length<=1000)(hz:(srcOf us).length<=10000)(hz':(srcOf ts).length<=10000)
  (h:Q (.str (ms (rowOf us ts many))) σ):aM c (.val (.ref 743)) [.val (.ref a),.val (.ref d),.bool many] [] [] σ Q E:=by
 refine Oc P S λΓ C P' G N=>?_
 have qu':=C.hd.trans qu
 have hT:Γ.c.T=c.T:=C.T
 have zs:bN=16777216:=eW
 have z1:([34]:List Nat).length=1:=rfl
 have z3:([34,34,34]:List Nat).length=3:=rfl
 have z4:([34,34,34,10]:List Nat).length=4:=rfl
 have z5:([34,32,61,32]:List Nat).length=4:=rfl
 have z6:([10]:List Nat).length=1:=rfl
 replace h:=(VU ..)▸h
 unfold ID
 walk_at "n"
 refine tU P' S qu' (hT▸hm) (by exact aJ ‹_› (by decide)) (by exact aJ ‹_› (by decide)) ?_
 walk_at "go"
 refine cU (by omega) ?_
 walk_at "go"
 refine cU (by rw[bt];omega) ?_
 walk_at "go"
 refine Br.mk (λhc=>?_) (λhc=>?_)
 .subst hc
  walk_at "go"
  refine tU P' S qu' (hT▸hm') (by exact aJ ‹_› (by decide)) (by exact aJ ‹_› (by decide)) ?_
  walk_at "go"
  refine cU (by omega) ?_
  walk_at "go"
  refine cU (by rw[bt];omega) ?_
  walk_at "go"
  refine cU (by simp only[bt];omega) ?_
  walk_at "go"
  refine cU (by simp only[bt];omega) ?_
  walk_at "go"
  exact h
 .subst hc
  walk_at "go"
  refine tU P' S qu' (hT▸hm') (by exact aJ ‹_› (by decide)) (by exact aJ ‹_› (by decide)) ?_
  walk_at "go"
  refine cU (by omega) ?_
  walk_at "go"
  refine cU (by rw[bt];omega) ?_
  walk_at "go"
  refine cU (by simp only[bt];omega) ?_
  walk_at "go"
  refine cU (by simp only[bt];omega) ?_
  walk_at "go"
  exact h
end
end
section
noncomputable def d7(old:List Nat)(new:aW):Nat->aW->aW
 | 0,_=>[]
 | _,[]=>[]
 | f+1,u::us=>if aY ((u::us).take old.length)=old then new++d7 old new f ((u::us).drop old.length) else u::d7 old new f us
theorem n_(old:List Nat)(new:aW)(f:Nat)(u:List Nat×Nat)(us:aW):d7 old new (f+1) (u::us)=if aY ((u::us).take old.length)=old then new++d7 old new f ((u::us).drop old.length) else u::d7 old new f us:=rfl
theorem gt(T:Nat)(us:aW):(bF T us).length=us.length:=db _
theorem uC(T:Nat)(us ws:aW):bF T (us++ws)=bF T us++bF T ws:=mO
theorem Nl(T:Nat)(us:aW)(k m:Nat):((bF T us).drop k).take m=bF T ((us.drop k).take m):=by unfold bF;rw[<-w0,<-L8]
section
variable {c:FC}{σ:AS}{Q:PV->AS->Prop}{E:aG->AS->Prop}{ev:bB}{w:aR}{b:am}{n:Nat}
theorem FG(P:Pl c ev w b (n+2))(S:aO w b)(qu:c.A.handled=none){us nw:aW}{old:List Nat}{a d:aj}(hm:(a,.lst (bF c.T us))∈σ.st)(hm':(d,.lst (bF c.T nw))∈σ.st)(hl:us.length<=100)(hl':nw.length<=100)(ho:0<old.length)(ho':old.length<=100)
  (h:∀m,(∀ao,(m,ao)∉σ.st)->Q (.val (.ref m)) {σ with st:=(m,.lst (bF c.T (d7 old nw (us.length+1) us)))::σ.st}):aM c (.val (.ref 736)) [.val (.ref a),.str (ms old),.val (.ref d)] [] [] σ Q E:=by
 refine UV P S λΓ C P' G N=>?_
 have qu':=C.hd.trans qu
 have hT:Γ.c.T=c.T:=C.T
 unfold FD
 walk_at "n"
 refine mq G qu' (by decide +kernel) (.inr λZ=>by kernel_rfl) ?_
 walk_at "n"
 intro m hmf
 refine wh G (λq:Nat×Nat×aW=>[.val (.ref a),.str (ms old),.val (.ref d),.val (.ref m),.int q.1]) (λq=>(m,.lst (bF c.T q.2.2))::σ.st) (λq=>us.length-q.1) (λq=>q.1<=us.length/\us.length-q.1<q.2.1/\q.2.2.length<=100*q.1/\q.2.2++d7 old nw q.2.1 (us.drop q.1)=d7 old nw (us.length+1) us) (0,us.length+1,[]) (ud (cQ _) (by exact Nat.sub_lt_succ (gR us) (0,gR us+1,[]).fst) (cQ _) rfl) .refl λq I bC ec ck Le=>?_
 obtain ⟨k,f,acc⟩:=q
 refine jO I λhk hff hacc he=>?_;clear I
 dsimp only at hk hff hacc he
 have ma:(a,.lst (bF c.T us))∈(m,.lst (bF c.T acc))::σ.st:=.tail _ hm
 walk_at "n"
 refine ze ma (by rw[gt];exact bL ‹_› (by decide)) ?_
 rw[gt]
 walk_at "go";refine pc ?_;walk_at "go"
 refine Br.mk (λhb=>?_) (λhb=>?_)
 .replace hb:k<us.length:=of_decide_eq_true hb
  cases f with
  | zero=>exact absurd ‹_› (m0 _)
  | succ f=>
  walk_at "go"
  refine iB (by exact bL ‹_› (by decide)) ?_
  walk_at "go";refine gM ?_;walk_at "go"
  refine TY ma (by rw[gt];exact aJ ‹_› (by decide)) λt htf=>?_
  refine gK ‹_› ?_;walk_at "n"
  rw[Nl,BU]
  have hdl:us.drop k=us[k]::us.drop (k+1):=oO hb
  replace he:=hdl▸he;replace he:=(n_ ..)▸he;replace he:=(bR hdl:_)▸he
  refine sr (ec▸P') S (ec▸qu') (us:=(us.drop k).take old.length) ((ec▸hT)▸.head _) (by rw[qw];exact aJ (aJ (LY _ _) ‹_›) (by decide)) ?_
  walk_at "go";refine gL ?_;walk_at "go"
  refine Br.mk (λhc=>?_) (λhc=>?_)
  .replace hc:=eq_of_beq hc
   replace he:=(aA hc)▸he
   have hlen:=aI gR hc
   unfold aY at hlen
   replace hlen:=(db ..)▸hlen;replace hlen:=kb▸qw▸hlen
   walk_at "go"
   refine OX (xs:=bF c.T acc) (.tail _ (.head _)) ?_
   walk_at "go"
   refine Xc (xs:=bF c.T acc) (ys:=bF c.T nw) (.tail _ (.head _)) (.tail _ (.tail _ hm')) (.tail .head) (by rw[gt,gt];exact aJ (fx (aJ hacc (oU 100 (aJ (eF hb) hl))) hl') (by decide)) ?_
   rw[<-uC]
   refine gK ‹_› ?_;walk_at "n"
   refine iB (by exact bL ‹_› (by decide)) ?_
   walk_at "go";refine gr ?_;walk_at "go"
   exact Le.dW _ _ .drop (rt (k+old.length,f,acc++nw) rfl rfl (wY hb (wZ ho)) (JR (eF hb) (aJ (da hlen.symm) (kU _ _))) (bQ (wY hb (wZ ho)) (jj hff)) (by dsimp only;rw[bt];exact aJ (fx hacc (aJ hl' (oU 100 ho))) (da (BV 100 k _).symm)) (by dsimp only;rw[<-he,we,fF]))
  .rewrite[an (λq=>by rw[q] at hc;simp at hc)] at he
   walk_at "go"
   refine dh.append (xs:=bF c.T acc) (.tail _ (.head _)) ?_
   walk_at "go"
   refine R5 (i:=k) (x:=.tup [.str (ms us[k].1),cR c.T [us[k].2]]) (.tail _ ma) (by unfold bF;rw[L9,qa hb];rfl) (by rw[gt];exact bL ‹_› (by decide)) ?_
   walk_at "go"
   refine uq (xs:=bF c.T acc) (.tail _ (.head _)) (.tail .head) (by rw[gt];exact aJ hacc (aJ (oU 100 (aJ (eF hb) hl)) (by decide))) ?_
   rw[show bF c.T acc++[.tup [.str (ms us[k].1),cR c.T [us[k].2]]]=bF c.T (acc++[us[k]]) from(uC c.T acc [us[k]]).symm]
   refine gK ‹_› ?_;walk_at "n";refine gr ?_;walk_at "go"
   exact Le.dW _ _ .drop (rt (k+1,f,acc++[us[k]]) rfl rfl (wY hb (dm k)) hb (bQ (wY hb (dm k)) (jj hff)) (by dsimp only;rw[bt,kn];exact aJ (fx hacc (by decide:1<=100)) (da (Z9 100 k).symm)) (by dsimp only;rw[<-he,fF];rfl))
 .replace hb:¬k<us.length:=of_decide_eq_false hb
  replace he:=(by cases f <;> rfl:d7 old nw f []=[])▸(sX (by exact qt ‹_›):us.drop k=[])▸he;replace he:=(gQ ..)▸he
  refine f0.brk ‹_› ?_;walk_at "go"
  rw[he]
  exact h m hmf
end
end
section
open Classical in
noncomputable def la(many:Bool)(body:List Nat)(place:Nat):Option Nat:=
 if place<body.length/\body.length<1000000/\(∀k,place<k->k<body.length->eP (bq many++sl body place k++bp many) 0≠.bad) then some (li many body place (body.length-(place+1)) (place+1)) else none
noncomputable def lq(many:Bool)(body:List Nat):Nat->Nat->Option Nat
 | 0,p=>some p
 | n+1,p=>(la many body p).bind (lq many body n)
noncomputable def gc(many:Bool)(old new body:List Nat):Nat->Nat->List Nat->List Nat->Option (List Nat)
 | 0,_,_,_=>none
 | f+1,place,value,made=>if 1000000<made.length\/1000000<value.length then none else if place<body.length then
   (if old.isPrefixOf value=true then(lq many body old.length place).bind λp=>gc many old new body f p (value.drop old.length) (made++new)
    else(la many body place).bind λp=>gc many old new body f p (value.drop 1) (made++sl body place p))
  else some made
noncomputable def jT(named:Bool)(src:List Nat)(pos:Nat):Res:=if src[pos]?=some 34 then(if named=true then eP src pos else b4 false src (src.length+1) (pos+1) []) else .bad
noncomputable def iR(src old new:List Nat):Nat->Nat->Bool->List Nat->Option (List Nat)
 | 0,_,_,_=>none
 | f+1,pos,named,made=>if 1000000<made.length then none else if pos<src.length then
   (match jT named src pos with
    | .ok e v=>if(bp (named&&at_ src [34,34,34] pos)).length<=e/\e<=src.length/\v.length<=1000000 then
      (gc (named&&at_ src [34,34,34] pos) old new (sl src (pos+(bq (named&&at_ src [34,34,34] pos)).length) (e-(bp (named&&at_ src [34,34,34] pos)).length)) (src.length+1) 0 v (made++bq (named&&at_ src [34,34,34] pos))).bind λm=>
       if 1000000<m.length then none else iR src old new f (e+(if named=true then 1 else 3)) (!named) (m++bp (named&&at_ src [34,34,34] pos)++(if named=true then[10] else lit " = "))
     else none
    | _=>none)
  else some made
structure yC where
 f:Nat:=0
 i:Nat:=0
 b:Bool:=false
 l:List Nat:=[]
 m:List Nat:=[]
 v1:PV:=.al
 v2:PV:=.al
 v3:PV:=.al
 v4:PV:=.al
 v5:PV:=.al
 v6:PV:=.al
 v7:PV:=.al
 v8:PV:=.al
 v9:PV:=.al
section
variable {c:FC}{σ:AS}{Q:PV->AS->Prop}{E:aG->AS->Prop}{ev:bB}{w:aR}{b:am}{n:Nat}
theorem CD(P:Pl c ev w b (n+9))(S:aO w b)(qu:c.A.handled=none){body:List Nat}{place p:Nat}{many:Bool}(hr:la many body place=some p)(h:Q (.int (p:Nat)) σ):aM c (.val (.ref 722)) [.str (ms body),.int place,.bool many] [] [] σ Q E:=by
 unfold la at hr
 by_cases z:place<body.length/\body.length<1000000/\(∀k,place<k->k<body.length->eP (bq many++sl body place k++bp many) 0≠.bad)
 .replace hr:=(aA z)▸hr
  refine(λj0=>?_) (bj hr);clear hr;subst j0
  exact Ww P S qu z.2.1 z.1 z.2.2 h
 .exact bI ((an z)▸hr)
theorem Ib{k:Bool}{Q:PV->AS->Prop}(h:Q (.bool (!k)) σ):U1 c RV (wS .Not) (.bool k) σ Q E:=λs v I e=>by
 obtain rfl:v = .bool k:=e
 unfold wS
 refine bT ?_
 show au _ _ (eZ (wE k) >>= λr=>pure (wE (!r))) _ _ s
 exact ah (sT (aE ⟨.bool (!k),σ,I,rfl,TK.refl _,h⟩))
theorem PE{F:Fn}{Γ:Gm F}{m:Bool}{r:Cs}{τ:Bool->AS}{f:bO->AS->Prop}{x:aG->AS->Prop}(h:bl Γ r (τ m) f x):Br m (bl Γ r (τ true) f x) (bl Γ r (τ false) f x):=Br.mk (λz=>by rw[<-z];exact h) (λz=>by rw[<-z];exact h)
noncomputable def kJ(Q:PV->AS->Prop)(σ:AS):Option (List Nat)->Prop
 | some m=>Q (.str (ms m)) σ
 | none=>False
theorem r9{many:Bool}{old new body:List Nat}{F p:Nat}{v l m:List Nat}(h:gc many old new body F p v l=some m):∃f,F=f+1/\¬(1000000<l.length\/1000000<v.length)/\(if p<body.length then
   (if old.isPrefixOf v=true then(lq many body old.length p).bind λp=>gc many old new body f p (v.drop old.length) (l++new)
    else(la many body p).bind λp'=>gc many old new body f p' (v.drop 1) (l++sl body p p'))
  else some l)=some m:=by
 cases F with
 | zero=>exact bI h
 | succ f=>
 by_cases z:1000000<l.length\/1000000<v.length
 .exact bI ((aA z).symm.trans h)
 exact bh f rfl z ((an z).symm.trans h)
theorem Ob{many:Bool}{old new body:List Nat}{F p:Nat}{v l m:List Nat}(h:gc many old new body F p v l=some m)(hp:p<body.length)(hc:old.isPrefixOf v=true):∃f p',f<F/\lq many body old.length p=some p'/\gc many old new body f p' (v.drop old.length) (l++new)=some m:=by
 refine br (r9 h) λf e Z h=>?_
 refine aC (BN.mp (aA hc▸aA hp▸h)) λp' h1 h2=>?_
 exact eV f p' (e▸dm _) h1 h2
theorem Tq{many:Bool}{old new body:List Nat}{F p:Nat}{v l m:List Nat}(h:gc many old new body F p v l=some m)(hp:p<body.length)(hc:old.isPrefixOf v=false):∃f p',f<F/\la many body p=some p'/\gc many old new body f p' (v.drop 1) (l++sl body p p')=some m:=by
 refine br (r9 h) λf e Z h=>?_
 refine aC (BN.mp (an (hc▸cm)▸aA hp▸h)) λp' h1 h2=>?_
 exact eV f p' (e▸dm _) h1 h2
theorem ME{many:Bool}{old new body:List Nat}{F p:Nat}{v l m:List Nat}(h:gc many old new body F p v l=some m)(hp:¬p<body.length):l=m:=
 br (r9 h) λf e Z h=>kN ((an hp).symm.trans h)
theorem xW{src old new:List Nat}{F i:Nat}{b:Bool}{l:List Nat}(h:kJ Q σ (iR src old new F i b l)):∃f,F=f+1/\l.length<=1000000/\kJ Q σ (if i<src.length then
   (match jT b src i with
    | .ok e v=>if(bp (b&&at_ src [34,34,34] i)).length<=e/\e<=src.length/\v.length<=1000000 then
      (gc (b&&at_ src [34,34,34] i) old new (sl src (i+(bq (b&&at_ src [34,34,34] i)).length) (e-(bp (b&&at_ src [34,34,34] i)).length)) (src.length+1) 0 v (l++bq (b&&at_ src [34,34,34] i))).bind λm=>
       if 1000000<m.length then none else iR src old new f (e+(if b=true then 1 else 3)) (!b) (m++bp (b&&at_ src [34,34,34] i)++(if b=true then[10] else lit " = "))
     else none
    | _=>none)
  else some l):=by
 cases F with
 | zero=>exact h.elim
 | succ f=>
 by_cases z:1000000<l.length
 .exact False.elim (aI (kJ Q σ) (aA z)▸h:kJ Q σ none)
 exact bh f rfl (qt z) (aI (kJ Q σ) (an z)▸h)
theorem RN{src old new:List Nat}{F i:Nat}{b:Bool}{l:List Nat}{G:Prop}(h:kJ Q σ (iR src old new F i b l))(hi:i<src.length)
  (k:∀f e v many m,(b&&at_ src [34,34,34] i)=many->f<F->jT b src i = .ok e v->(bp many).length<=e->e<=src.length->v.length<=1000000->gc many old new (sl src (i+(bq many).length) (e-(bp many).length)) (src.length+1) 0 v (l++bq many)=some m->m.length<=1000000->kJ Q σ (iR src old new f (e+(if b=true then 1 else 3)) (!b) (m++bp many++(if b=true then[10] else lit " = ")))->G):G:=by
 refine br (xW h) λf e0 Z h=>?_
 replace h:=aA hi▸h
 generalize hmany:(b&&at_ src [34,34,34] i)=many at h
 cases htok:jT b src i with
 | err=>rw[htok] at h;exact h.elim
 | bad=>rw[htok] at h;exact h.elim
 | ok e v=>
 replace h:=htok▸h
 dsimp only at h
 by_cases hev:(bp many).length<=e/\e<=src.length/\v.length<=1000000
 .replace h:=(aA hev)▸h
  cases hin:gc many old new (sl src (i+(bq many).length) (e-(bp many).length)) (src.length+1) 0 v (l++bq many) with
  | none=>replace h:=hin▸h;exact h.elim
  | some m=>
  replace h:=hin▸h
  dsimp only[kO] at h
  by_cases hm:1000000<m.length
  .replace h:=(aA hm)▸h;exact h.elim
  replace h:=(an hm)▸h
  exact k f e v many m hmany (e0▸dm _) htok hev.1 hev.2.1 hev.2.2 hin (qt hm) h
 .replace h:=(an hev)▸h;exact h.elim
theorem Vv(P:Pl c ev w b (n+10))(S:aO w b)(qu:c.A.handled=none){src old new:List Nat}(hl:src.length<1000000)(ho:old.length<=100)(hn:new.length<=1000)
  (h:kJ Q σ (iR src old new (src.length+1) 0 false [])):aM c (.val (.ref 729)) [.str (ms src),.str (ms old),.str (ms new)] [] [] σ Q E:=by
 refine Nv P S λΓ C P' G N=>?_
 have qu':=C.hd.trans qu
 have zs:bN=16777216:=eW
 unfold DR
 walk_at "n"
 refine mq G qu' (by decide +kernel) (.inl λZ=>by kernel_rfl) ?_
 walk_at "n"
 refine wh G (λq:yC=>[.str (ms src),.str (ms old),.str (ms new),.str (ms q.l),.int q.i,.bool q.b,q.v1,q.v2,q.v3,q.v4,q.v5,q.v6,q.v7,q.v8,q.v9]) (λZ=>σ.st) (λq=>q.f) (λq=>kJ Q σ (iR src old new q.f q.i q.b q.l)) {f:=src.length+1} h .refl λq h bC ec ck Le=>?_
 have b9:Pl bC.c bC.c.env w b (n+9):=ec▸P'
 have dN:bC.c.A.handled=none:=ec▸qu'
 have hmade:q.l.length<=1000000:=br (xW h) λZ Z z Z=>z
 walk_at "n"
 refine iB (by exact bQ ‹_› (by decide)) ?_
 walk_at "go";refine pc ?_;walk_at "go"
 refine Br.mk (λhb=>?_) (λhb=>?_)
 .refine RN h (of_decide_eq_true hb) λf e v many m hmany hf htok hev1 hev2 hev3 hin hm h=>?_
  have rest2:bl bC xe (tO.at [.str (ms src),.str (ms old),.str (ms new),.str (ms q.l),.int q.i,.bool q.b,.int e,.str (ms v),.bool many,q.v4,q.v5,q.v6,q.v7,q.v8,q.v9] σ.st) (D bC .top).f (D bC .top).x:=by
   refine(so ck 99).s (k:=.top) ?_
   unfold xe
   walk_at "n"
   walk_at "go"
   refine⟨dN,?_⟩
   walk_at "go"
   refine PE (τ:=λm=>tO.at [.str (ms src),.str (ms old),.str (ms new),.str (ms q.l),.int q.i,.bool q.b,.int e,.str (ms v),.bool many,.str (ms (bq m)),.str (ms (bp m)),q.v6,q.v7,q.v8,q.v9] σ.st) ?_
   refine mq ck dN (by decide +kernel) (.inr λZ=>by kernel_rfl) ?_
   walk_at "n"
   have hhead:(bq many).length<=4:=by cases many <;> decide
   have hmark:(bp many).length<=3:=by cases many <;> decide
   refine iB (by exact bL ‹_› (by decide)) ?_
   walk_at "go";refine gM ?_;walk_at "go"
   refine iB (by exact bL ‹_› (by decide)) ?_
   walk_at "go";refine' zk ?h ?_;(case h=>omega);walk_at "go"
   refine lF (by exact jh ‹_› (by decide)) ?_
   walk_at "go"
   refine cU (by omega) ?_
   walk_at "go"
   have hbl:(sl src (q.i+(bq many).length) (e-(bp many).length)).length<=src.length:=tY _ _ _
   generalize sl src (q.i+(bq many).length) (e-(bp many).length)=body at hin hbl |-
   refine wh ck (λz:yC=>[.str (ms src),.str (ms old),.str (ms new),.str (ms z.l),.int q.i,.bool q.b,.int e,.str (ms z.m),.bool many,.str (ms (bq many)),.str (ms (bp many)),.str (ms body),.int z.i,z.v1,z.v2]) (λZ=>σ.st) (λz=>z.f) (λz=>gc many old new body z.f z.i z.m z.l=some m) {f:=src.length+1,m:=v,l:=q.l++bq many,v1:=q.v8,v2:=q.v9} hin .refl λz hg i8 Mt iH Mu=>?_
   have m_:Pl i8.c i8.c.env w b (n+9):=Mt▸b9
   have qH:i8.c.A.handled=none:=Mt▸dN
   have hz1:z.l.length<=1000000:=qt λh=>br (r9 hg) λZ Z z Z=>z (.inl h)
   have hz2:z.m.length<=1000000:=qt λh=>br (r9 hg) λZ Z z Z=>z (.inr h)
   walk_at "n"
   refine iB (by exact bQ (bL ‹_› ‹_›) (by decide)) ?_
   walk_at "go";refine pc ?_;walk_at "go"
   refine Br.mk (λhq=>?_) (λhq=>?_)
   .replace hq:=of_decide_eq_true hq
    refine nQ ?_;walk_at "go"
    refine U' ?_
    walk_at "go"
    refine Br.mk (λhc=>?_) (λhc=>?_)
    .refine bM (Ob hg hq hc) λg p' hzf hrs hg=>?_
     walk_at "go"
     refine rX (by omega) ?_
     walk_at "go"
     refine fo iH qH (.inl rfl) (λy:Nat×PV=>[.str (ms src),.str (ms old),.str (ms new),.str (ms (z.l++new)),.int q.i,.bool q.b,.int e,.str (ms z.m),.bool many,.str (ms (bq many)),.str (ms (bp many)),.str (ms body),.int y.1,y.2,z.v2]) (λZ=>σ.st) (λ(Z:Unit) xs y=>∃r:List Nat,xs=signs r/\lq many body r.length y.1=some p') (pF (du iH rfl (il.str qH (aw () (λZ Z Z=>trivial) ⟨(z.i,z.v1),.refl,old,rfl,hrs⟩)))) ?_ ?_
     .intro Z y ⟨r,hr,hp⟩
      cases r with
      | cons u r=>exact rW hr
      | nil=>
      walk_at "go"
      refine iB (by exact bL ‹_› (by decide)) ?_
      walk_at "go"
      refine zV (by omega) ?_
      walk_at "go"
      exact Mu.dW _ _ .refl (jE {f:=g,i:=y.1,l:=z.l++new,m:=z.m.drop old.length,v1:=y.2,v2:=z.v2} rfl rfl hzf ((kN hp)▸hg))
     .intro Z x xs y ⟨r,hr,hp⟩ aaK R aaL aaD
      cases r with
      | nil=>exact qX hr
      | cons u r=>
      have e1:x = .str (ms [u]):=by injection hr
      have e2:xs=signs r:=by injection hr
      subst e1 e2
      refine aC (BN.mp (hp:(la many body y.1).bind (lq many body r.length)=some p')) λp1 h1 hp=>?_
      walk_at "n"
      refine CD (R.pl m_ qH) S (R.qu qH) h1 ?_
      walk_at "go"
      exact aaD.dW _ _ .refl (bh (p1,.str (ms [u])) rfl rfl ⟨r,rfl,hp⟩)
    .refine bM (Tq hg hq hc) λg p1 hzf h1 hg=>?_
     walk_at "go"
     refine CD m_ S qH h1 ?_
     walk_at "go"
     refine mq iH qH (by decide +kernel) (.inr λZ=>by kernel_rfl) ?_
     walk_at "n"
     have hcut:=tY body z.i p1
     refine lF (by exact aJ (eF (bL ‹_› ‹_›)) (by decide)) ?_
     walk_at "go"
     refine cU (by omega) ?_
     walk_at "go"
     refine zV (by omega) ?_
     walk_at "go"
     exact Mu.dW _ _ .refl (jE {f:=g,i:=p1,l:=z.l++sl body z.i p1,m:=z.m.drop 1,v1:=z.v1,v2:=.int p1} rfl rfl hzf hg)
   .replace hg:=ME hg (of_decide_eq_false hq)
    refine f0.brk ‹_› ?_;walk_at "go"
    refine mq ck dN (by decide +kernel) (.inr λZ=>by kernel_rfl) ?_
    walk_at "n"
    rw[hg]
    refine cU (by omega) ?_
    walk_at "go"
    refine Br.mk (λhq=>?_) (λhq=>?_)
    .replace h:=(aA hq)▸(aA hq)▸h
     refine cU (by rw[bt,kn];lia) ?_
     walk_at "go"
     refine Br.mk (λhq=>?_) (λhr=>absurd (hq.symm.trans hr) oS)
     refine gM ?_;walk_at "go"
     refine Ib ?_
     walk_at "go"
     exact Le.dW _ _ .refl (jE {f:=f,i:=e+1,b:=!q.b,l:=m++bp many++[10],v1:=.int e,v2:=.str (ms z.m),v3:=.bool many,v4:=.str (ms (bq many)),v5:=.str (ms (bp many)),v6:=.str (ms body),v7:=.int z.i,v8:=z.v1,v9:=z.v2} rfl rfl hf h)
    .rewrite[an (by rw[hq];exact cm)] at h;rewrite[an (by rw[hq];exact cm)] at h;replace h:=(show lit " = " = [32,61,32] by decide +kernel)▸h
     refine cU (by rw[bt,show[32,61,32].length=3 from rfl];lia) ?_
     walk_at "go"
     refine Br.mk (λhr=>absurd (hq.symm.trans hr) oS) (λhq=>?_)
     refine gM ?_;walk_at "go"
     refine Ib ?_
     walk_at "go"
     exact Le.dW _ _ .refl (jE {f:=f,i:=e+3,b:=!q.b,l:=m++bp many++[32,61,32],v1:=.int e,v2:=.str (ms z.m),v3:=.bool many,v4:=.str (ms (bq many)),v5:=.str (ms (bp many)),v6:=.str (ms body),v7:=.int z.i,v8:=z.v1,v9:=z.v2} rfl rfl hf h)
  have rest:bl bC yT (tO.at [.str (ms src),.str (ms old),.str (ms new),.str (ms q.l),.int q.i,.bool q.b,.int e,.str (ms v),q.v3,q.v4,q.v5,q.v6,q.v7,q.v8,q.v9] σ.st) (D bC .top).f (D bC .top).x:=by
   refine(so ck 99).s (k:=.top) ?_
   unfold yT
   walk_at "n"
   walk_at "go"
   refine Br.mk (λhq=>?_) (λhq=>?_)
   .refine nQ ?_;walk_at "go"
    refine pN (by decide) ?_
    replace hmany:=hq▸hmany;replace hmany:=(wy ..)▸hmany
    rw[hmany]
    walk_at "go"
    exact rest2
   .replace hmany:=hq▸hmany;replace hmany:=(Bu ..)▸hmany
    replace rest2:=(show many=q.b from hmany.symm.trans hq.symm)▸rest2
    walk_at "go"
    exact rest2
  walk_at "go"
  refine⟨dN,?_⟩
  walk_at "go"
  unfold jT at htok
  by_cases h34:src[q.i]?=some 34
  .replace htok:=(aA h34)▸htok
   refine Br.mk (λhq=>?_) (λhq=>?_)
   .replace htok:=(aA hq)▸htok
    walk_at "go"
    refine y9 b9 S dN (by exact bQ ‹_› (by decide)) h34 ?_
    rw[htok]
    unfold Out
    walk_at "go"
    exact rest
   .rewrite[an (by rw[hq];exact cm)] at htok
    walk_at "go"
    refine HZ b9 S dN (by exact bQ ‹_› (by decide)) h34 ?_
    rw[htok]
    unfold Out
    walk_at "go"
    exact rest
  .replace htok:=(an h34)▸htok;cases htok
 .refine br (xW h) λZ Z Z h=>?_
  replace h:=(an (of_decide_eq_false hb))▸h
  refine f0.brk ‹_› ?_;walk_at "go"
  exact h
end
end
section
noncomputable def rI:List Nat:=[97,98,34,92,10,32,9,233,8,12,13,33,127,39612,128522,1114111]
noncomputable def rY(up:Bool):List Nat:=if up=true then[48,49,50,51,52,53,54,55,56,57,65,66,67,68,69,70] else[48,49,50,51,52,53,54,55,56,57,97,98,99,100,101,102]
noncomputable def lA(up:Bool)(u:Nat):List Nat:=[7,6,5,4,3,2,1,0].map λk=>((rY up)[u/16^k%16]?).getD 0
noncomputable def yW:Nat->Nat
 | 10=>110 | 9=>116 | 8=>98 | 12=>102 | 13=>114 | g=>g
noncomputable def ny:Nat->List Nat
 | 0=>[10] | 1=>[32,10,9,10] | 2=>[9,32,10] | _=>[32,32,10,32]
noncomputable def signOf(digit:Nat):Nat:=(rI[digit/4]?).getD 0
noncomputable def fM(many:Bool)(left digit:Nat):List Nat:=
 if 1<digit%4\/signOf digit=127 then(if digit%4<3/\signOf digit<65536 then[92,117]++(lA (left%2==1) (signOf digit)).drop 4 else[92,85]++lA (left%2==1) (signOf digit))
 else if[92,8,12,13].contains (signOf digit)=true\/([34,10].contains (signOf digit)=true/\many=false)\/([34,10,9].contains (signOf digit)=true/\digit%4=1) then[92,yW (signOf digit)]
 else if many=true/\digit%4=1/\signOf digit≠32 then[92]++ny (left%4)++[signOf digit]
 else[signOf digit]
noncomputable def lr(acc:aW)(s:List Nat):List Nat:=if s=[34]/\acc.getLast?.map (·.1)=some [34] then[92,34] else s
noncomputable def fm(most:Nat)(many:Bool):Nat->Nat->aW->aW
 | 0,_,acc=>acc
 | f+1,left,acc=>if 0<left/\acc.length<most then fm most many f (left/64) (acc++[(lr acc (fM many (left/64) (left%64)),signOf (left%64))]) else acc
theorem C_{most:Nat}{many:Bool}{f left:Nat}{acc:aW}(h:¬(0<left/\acc.length<most)):fm most many f left acc=acc:=by
 cases f with
 | zero=>rfl
 | succ f=>exact an h
theorem SM{c:FC}{σ:AS}{scope:dA}{cl:List (af×aj)}{α:Type}{elt cG:aL}(f:α->PV)(g:α->PV)(l:List α)(h:∀x∈l,∃bs,Binds cG (f x) bs/\iu c σ scope cl elt bs (g x)):jM c σ scope cl elt cG (l.map f) (l.map g):=by
 induction l with
 | nil=>rfl
 | cons x l ih=>
  refine aC (h x (.head _)) λbs h1 h2=>?_
  exact(k6 (g x) _ bs rfl h1 h2 (ih λy hy=>h y (.tail _ hy)))
noncomputable def NF:Fn:=⟨[ae "digits_v",ae "sign",ae "k",ae "ord"],[]⟩
noncomputable def CF:Ce:=.o2 .sub (.loc 0) (.o2 (.bin .Mod) (.o2 (.bin .FloorDiv) (.call (.loc 3) (.cons (.loc 1) .nil) .nil) (.o2 (.bin .Pow) (.nat 16) (.loc 2))) (.nat 16))
theorem Wp(up:Bool):(rY up).length=16:=by cases up <;> rfl
theorem Cw(l:List Nat):(l.map λd=>[d]).flatten=l:=by
 induction l with
 | nil=>rfl
 | cons x l ih=>rw[cJ,By,ih];rfl
noncomputable def sv:List (af×wu):=[(ae ".0",.local),(ae "k",.local),(ae "ord",.globalImplicit),(ae "digits_v",.free),(ae "sign",.free)]
theorem TD{e:bB}{scope:dA}{aS aD:aj}(hn:scope.names=sv)
  (hs:e.cells.lookup (ae "sign")=some aS) (hd:e.cells.lookup (ae "digits_v")=some aD):l5 scope e=pure [(ae "sign",aS),(ae "digits_v",aD)]:=by
 have c1:oV e (ae "sign")=pure aS:=by unfold oV;rw[hs]
 have c2:oV e (ae "digits_v")=pure aD:=by unfold oV;rw[hd]
 unfold l5
 rw[hn]
 unfold sv
 simp only[i3,sH,c1,c2,pure_bind,reduceIte,reduceCtorEq,beq_iff_eq]
theorem iu.rb{c:FC}{σ:AS}{scope:dA}{cl:List (af×aj)}{elt:aL}{bs:List (af×PV)}{y:PV}{F:Fn}{CE:Ce}(h:F.rb CE elt=elt)(H:iu c σ scope cl (F.rb CE elt) bs y):iu c σ scope cl elt bs y:=by replace H:=h▸H;exact H
theorem zv{e:bB}{scope:dA}{cl:List (af×aj)}{C:aj}(hf:e.scope.kind = .function)(hs:e.kindOf (ae "sign")=some .cell)(hd:e.kindOf (ae "digits_v")=some .cell)(hn:scope.names=sv) :
  (gy scope cl C e).kindOf (ae "digits_v")=some .cell/\(gy scope cl C e).kindOf (ae "sign")=some .cell/\(gy scope cl C e).kindOf (ae "ord")=some .globalImplicit:=by
 have key:(relabel scope e).names=[(ae ".0",.local),(ae "k",.local),(ae "ord",.globalImplicit),(ae "digits_v",.cell),(ae "sign",.cell)]:=by
  unfold relabel
  dsimp only
  rw[hn]
  unfold sv
  simp only[cJ,Ay,hf,hs,hd]
  rfl
 unfold oN gy
 dsimp only
 rw[key]
 exact⟨by kernel_rfl,by kernel_rfl,by kernel_rfl⟩
theorem OH{c:FC}{σ:AS}{scope:dA}{dg:List Nat}{u g kk:Nat}{aS aD:aj}{e:aL}(K0:c.n6)(hkind:scope.kind = .function)(hs:c.env.kindOf (ae "sign")=some .cell)(hd:c.env.kindOf (ae "digits_v")=some .cell)(hn:scope.names=sv)
  (cD:c.cells.lookup (ae "digits_v")=some aD) (cS:c.cells.lookup (ae "sign")=some aS) (vD:σ.get (ae "digits_v") = .str (ms dg)) (vS:xG (σ.get (ae "sign")) (ms [u])) (gO:dZ c.b0 (ae "ord") (.builtin "ord")) (hk:kk<=7) (hg:dg[u/16^kk%16]?=some g) :
  iu c σ scope [(ae "sign",aS),(ae "digits_v",aD)] (NF.rb CF e) [(ae "k",.int (kk:Int))] (.str (ms [g])):=
 VS (aS:=aS) (aD:=aD) K0 hkind (λC=>(zv K0.kind hs hd hn).1) (λC=>(zv K0.kind hs hd hn).2.1) (λC=>(zv K0.kind hs hd hn).2.2) (by rw[hn];kernel_rfl) (by kernel_rfl) (by kernel_rfl) cD cS (by decide +kernel) (by decide +kernel) (by decide +kernel) vD vS gO hk hg
section
variable {F:Fn}{Γ:Gm F}{c:FC}{σ:AS}{v v':List PV}{t:List (aj×AO)}{E:aG->AS->Prop}
theorem pD{op:ag->ag->bf ag}{x:af}{P:Nat->Prop}{y:PV}{Q:PV->AS->Prop}(h:U2 c RV op (.str x) y σ Q E):U2 c RV op (.d_ x P) y σ Q E:=λs u w I r r'=>h s u w I (let ⟨t,e,_⟩:=r;⟨t,e⟩) r'
theorem W1{op:ag->ag->bf ag}{x:af}{P:Nat->Prop}{y:PV}{Q:PV->AS->Prop}(h:U2 c RV op y (.str x) σ Q E):U2 c RV op y (.d_ x P) σ Q E:=λs u w I r r'=>h s u w I r (let ⟨t,e,_⟩:=r';⟨t,e⟩)
theorem QE{f:PV}{x:af}{P:Nat->Prop}{ys:List PV}{Q:PV->AS->Prop}(h:aM c f (.str x::ys) [] [] σ Q E):aM c f (.d_ x P::ys) [] [] σ Q E:=λs fv vs kvs I rf rx rk=>h s fv vs kvs I rf (by rw[aB] at rx |-;refine bM rx λv r e j1 h=>?_;clear rx;refine aC j1 λt z Z=>?_;clear j1;exact(eV v r e ⟨t,z⟩ h)) rk
theorem VW{f y:PV}{x:af}{P:Nat->Prop}{Q:PV->AS->Prop}(h:aM c f [y,.str x] [] [] σ Q E):aM c f [y,.d_ x P] [] [] σ Q E:=λs fv vs kvs I rf rx rk=>h s fv vs kvs I rf (by obtain ⟨v,w,e,h1,t,h2,_⟩:=eQ rx;rw[aB];exact(eV v [w] e h1 (by rw[aB];exact(eV w [] rfl ⟨t,h2⟩ aB.nil)))) rk
theorem OG{i T:Nat}{l:List Nat}{x:af}(G:Good Γ.c F)(hx:F.nm[i]?=some x)(hn:eU v i=cR T l)(hv:g8 v i (.str (ms l))=some v'):d6 Γ.c (F.at v t) (F.at v' t):=λs I=>by
 have hf:F.name i=x:=by unfold Fn.name;rw[hx];rfl
 have e:=lz (t:=t) G (by unfold Fn.has;rw[hf,hx]) hv
 replace e:=hf▸e
 have hg:(F.at v t).get x=eU v i:=rn (G.lo _ _ hx).ix v
 rw[<-e]
 refine⟨I.b0,I.fr,I.up1,I.cq,let ⟨mm,h1,h2⟩:=I.ns;⟨mm,h1,λy=>?_⟩,I.st,I.L0,I.L1,I.Lo,I.tab,I.os,I.gens,I.nd,I.tk,I.dc⟩
 rw[nP]
 by_cases h:y=x
 .rw[aA h]
  have z:=h2 x
  replace z:=hn▸hg▸z
  obtain ⟨u,e1,tk,e2,_⟩:=z
  exact(aw u (h▸e1) ⟨tk,e2⟩)
 .rw[an h];exact h2 y
end
section
variable {c:FC}{σ:AS}{Q:PV->AS->Prop}{E:aG->AS->Prop}{ev:bB}{w:aR}{b:am}{n:Nat}
theorem P5:∀u∈[34,92,10,9,8,12,13],∃i,i<7/\jA (ms [34,92,10,9,8,12,13]) (ms [u]) 0 (ms [34,92,10,9,8,12,13]).length 1=[i]/\[34,92,110,116,98,102,114][i]?=some (yW u):=by
 intro u hu
 refine⟨[34,92,10,9,8,12,13].idxOf u,?_⟩
 revert u
 decide +kernel
theorem uz(P:Pl c ev w b (n+2))(S:aO w b)(qu:c.A.handled=none){l0 most:Nat}{many:Bool}(hm:most<=100)
  (h:∀m,(∀ao,(m,ao)∉σ.st)->Q (.val (.ref m)) {σ with st:=(m,.lst (bF c.T (fm most many (most+1) l0 [])))::σ.st}):aM c (.val (.ref 705)) [.int (l0:Nat),.int (most:Nat),.bool many] [] [] σ Q E:=by
 have ho:=S.at 705 (o:=EA w.params) (by kernel_rfl)
 refine c_.call (P.b0▸ho) rfl (mG P (F:=lb) (cd:=zb) (np:=3) (ds:=[]) (vals:=[.int (l0:Nat),.int (most:Nat),.bool many,.al,.al,.al,.al,.al,.al,.al]) ho rfl (codeRec_of (S.at 704 (o:=Hr w.params) (by kernel_rfl)) rfl rfl) rfl (by kernel_rfl) (Nb S) Tv S.jK rfl rfl (λs vs kvs Z rx rk=>jb (λZ Z Z=>by kernel_rfl) s vs kvs rx rk) λΓ C P' G N=>?_)
 have hT:Γ.c.T=c.T:=C.T
 have zs:bN=16777216:=eW
 generalize hR:fm most many (most+1) l0 []=R at h
 unfold zb
 walk_at "n"
 intro m hmf
 refine wh G (λq:yC×aW=>[.int q.1.i,.int most,.bool many,.val (.ref m),q.1.v1,q.1.v2,q.1.v3,q.1.v4,q.1.v5,q.1.v6]) (λq=>(m,.lst (bF c.T q.2))::σ.st) (λq=>q.1.f) (λq=>q.2.length+q.1.f=most+1/\fm most many q.1.f q.1.i q.2=R) ({f:=most+1,i:=l0},[]) ⟨jY _,hR⟩ .refl λq I bC ec ck Le=>?_
 have b9:Pl bC.c bC.c.env w b (n+1):=ec▸P'
 have dN:bC.c.A.handled=none:=ec▸(C.ent.hd.trans qu)
 have kc:bC.c.env.kindOf (ae "sign")=some .cell/\bC.c.env.kindOf (ae "digits_v")=some .cell:=by rw[ec];unfold oN;rw[C.scope];exact⟨by kernel_rfl,by kernel_rfl⟩
 obtain ⟨q,acc⟩:=q
 refine aN I λhz hu=>?_;clear I
 dsimp only at hz hu
 walk_at "n"
 refine Ia ?_;walk_at "go"
 refine Br.mk (λhb=>?_) (λhb=>?_)
 .walk_at "go"
  refine ze (.head _) (by rw[gt];exact bL (aJ (cN (da hz)) (jo hm)) (by decide)) ?_
  walk_at "go";refine pc ?_;walk_at "go"
  rw[gt]
  refine Br.mk (λhc=>?_) (λhc=>?_)
  .replace hb:0<q.i:=of_decide_eq_true hb
   replace hc:acc.length<most:=of_decide_eq_true hc
   cases hqf:q.f with
   | zero=>exact absurd ((aI (acc.length + ·) hqf).symm.trans hz) (jq (ow hc))
   | succ z=>
   replace hu:=hqf▸hu
   rewrite[fm] at hu
   rewrite[aA ⟨hb,hc⟩] at hu
   walk_at "go"
   refine⟨dN,?_⟩
   refine xZ (b:=64) (by decide) (by decide) ?_
   have hd:q.i%64<64:=lM _ (by decide)
   generalize q.i/64=left' at hu |-
   generalize q.i%64=digit at hu hd |-
   walk_at "go"
   refine mq ck dN (by decide +kernel) (.inr λZ=>by kernel_rfl) ?_
   walk_at "n"
   refine y8 (b:=4) (by decide) (by decide) ?_
   have hs16:rI.length=16:=by decide
   obtain ⟨u,hu2⟩:∃u,rI[digit/4]?=some u:=⟨_,qa (by exact Ak hd)⟩
   have hsg:signOf digit=u:=by unfold signOf;rw[hu2];rfl
   walk_at "go"
   refine Pa (bL (Kh _ _) (fG hd (by decide))) hu2 ?_
   walk_at "go"
   refine zw (b:=4) (by decide) ?_
   walk_at "go";refine Ia ?_;walk_at "go"
   have hu1:u<2000000:=by
    have:u∈rI:=qB hu2
    revert this
    exact(by decide:∀u∈rI,u<2000000) u
   have app:∀(s:List Nat) (w5 w6:PV),s=lr acc (fM many left' digit)->bl bC zK (lb.at [.int left',.int most,.bool many,.val (.ref m),.int digit,cR bC.c.T [u],.int (digit%4:Nat),.str (ms s),w5,w6] ((m,.lst (bF c.T acc))::σ.st)) (D bC .top).f (D bC .top).x:=λs w5 w6 hs=>by
    refine(so ck 99).s (k:=.top) ?_
    unfold zK
    walk_at "n"
    refine dh.append (xs:=bF c.T acc) (.head _) ?_
    walk_at "go"
    refine uq (xs:=bF c.T acc) (.head _) .head (by rw[gt];exact aJ (eF hc) (aJ hm (by decide))) ?_
    refine gK ‹_› ?_;walk_at "n"
    refine Le.dW _ _ .refl (xU ({f:=z,i:=left',v1:=.int digit,v2:=cR bC.c.T [u],v3:=.int (digit%4:Nat),v4:=.str (ms s),v5:=w5,v6:=w6},acc++[(s,u)]) rfl ?_ ?_ ?_ ?_)
    .rw[uC,(ec▸hT:bC.c.T=c.T)];rfl
    .exact hqf▸dm _
    .dsimp only;rw[bt,kn];exact(gu _ 1 _).trans ((aI (acc.length + ·) hqf).symm.trans hz)
    .dsimp only;rw[hs,<-hsg];exact hu
   have fin:∀(s:List Nat) (w5 w6:PV),s=fM many left' digit->bl bC iP (lb.at [.int left',.int most,.bool many,.val (.ref m),.int digit,cR bC.c.T [u],.int (digit%4:Nat),.str (ms s),w5,w6] ((m,.lst (bF c.T acc))::σ.st)) (D bC .top).f (D bC .top).x:=λs w5 w6 hs=>by
    refine(so ck 99).s (k:=.top) ?_
    unfold iP
    walk_at "n"
    refine gL ?_;walk_at "go"
    have no:¬(s=[34]/\acc.getLast?.map (·.1)=some [34])->s=lr acc (fM many left' digit):=λn=>by rw[<-hs];exact(an n).symm
    refine Br.mk (λhq=>?_) (λhq=>?_)
    .replace hq:=eq_of_beq hq
     walk_at "go"
     refine IX (.head _) (by rw[gt];exact bQ (bQ ‹_› ‹_›) (by decide)) ?_
     walk_at "go"
     refine Br.mk (λhne=>?_) (λhne=>?_)
     .have hne:acc≠[]:=λz=>by replace hne:=z▸hne;exact absurd hne cm
      have hgl:acc.getLast?=some (acc.getLast hne):=List.getLast?_eq_some_getLast hne
      have hpos:0<acc.length:=qx.mpr hne
      generalize acc.getLast hne=p at hgl
      have hgi:(bF c.T acc)[(bF c.T acc).length-1]?=some (.tup [.str (ms p.1),cR c.T [p.2]]):=by
       replace hgl:=Z_▸hgl
       rw[gt]
       unfold bF
       rw[L9,hgl];rfl
      refine nG ?_;walk_at "go"
      refine Fy (i:=1) (.head _) (by decide) (by rw[gt];exact jC ‹_›) hgi (by rw[gt];exact bQ (bQ ‹_› ‹_›) (by decide)) ?_
      walk_at "go"
      refine vr (i:=0) (x:=.str (ms p.1)) rfl (by show 2<2^60;decide) ?_
      walk_at "go";refine gL ?_;walk_at "go"
      refine Br.mk (λhr=>?_) (λhr=>?_)
      .replace hr:=eq_of_beq hr
       walk_at "go"
       exact app _ _ _ (by rw[<-hs];exact(aA ⟨hq,by rw[hgl,<-hr];rfl⟩).symm)
      .walk_at "go"
       exact app _ _ _ (no λz=>by replace z:=hgl▸z;have e:p.1=[34]:=kN z.2;replace hr:=e▸hr;exact absurd hr (by decide))
     .walk_at "go"
      refine app _ _ _ (no λz=>?_)
      cases acc with
      | nil=>cases z.2
      | cons a r=>exact absurd hne (by exact Bool.not_not_eq.mpr rfl)
    .walk_at "go"
     exact app _ _ _ (no λz=>by replace hq:=z.1▸hq;exact absurd hq (by decide))
   have figB:(1<digit%4\/signOf digit=127)->bl bC yt (lb.at [.int left',.int most,.bool many,.val (.ref m),.int digit,cR bC.c.T [u],.int (digit%4:Nat),cR bC.c.T [u],q.v5,q.v6] ((m,.lst (bF c.T acc))::σ.st)) (D bC (.seq (.mark iP) .top)).f (D bC (.seq (.mark iP) .top)).x:=λhA=>by
    have hs:fM many left' digit=if digit%4<3/\u<65536 then[92,117]++(lA (left'%2==1) u).drop 4 else[92,85]++lA (left'%2==1) u:=by unfold fM;rw[aA hA,hsg]
    refine(so ck 99).s (k:=.seq (.mark iP) .top) ?_
    unfold yt
    walk_at "n"
    refine zw (b:=2) (by decide) ?_
    walk_at "go"
    refine vr (i:=left'%2) (x:=.str (ms (rY (left'%2==1)))) (by
     rcases Kj left' with e | e <;> rw[e] <;> rfl) (by show 2<2^60;decide) ?_
    generalize (left'%2==1)=up at hs |-
    walk_at "go"
    refine yk (by kernel_rfl) ?_
    refine dh.join ?_;walk_at "go"
    have hsS:∃a,bC.c.env.cells.lookup (ae "sign")=some a:=(ck.lo 5 _ rfl).ok.elim (λz=>nomatch kc.1.symm.trans z.1) λz=>z.2
    have hsD:∃a,bC.c.env.cells.lookup (ae "digits_v")=some a:=(ck.lo 8 _ rfl).ok.elim (λz=>nomatch kc.2.symm.trans z.1) λz=>z.2
    refine aP hsS λaS hcS=>?_;clear hsS
    refine aP hsD λaD hcD=>?_;clear hsD
    have hfg:(lA up u).length=8:=rfl
    refine vo (it:=.call (.gl 3) (.cons (.nat 7) (.cons (.o1 (.un .USub) (.nat 1)) (.cons (.o1 (.un .USub) (.nat 1)) .nil))) .nil) (cl:=[(ae "sign",aS),(ae "digits_v",aD)]) dN (by kernel_rfl) (.inr rfl) (TD (by kernel_rfl) hcS hcD) (by kernel_rfl) (by kernel_rfl) (by kernel_rfl) (by kernel_rfl) ?_
    refine Gr dN rfl rfl (jF ck (dE (dj (dE (Ag rfl (dj (nG (dE (Ag rfl (dj (nG (gz (Oj (by decide) (BB (by decide)) ?_)))))))))))))
    refine⟨by decide +kernel,trivial,cY ((lA up u).map λd=>[d]),?_,by decide +kernel,λd hd=>?_⟩
    .refine SM (α:=Nat) (λk=>(.int (k:Int):PV)) (λk=>.str (ms [((rY up)[u/16^k%16]?).getD 0])) [7,6,5,4,3,2,1,0] (λk hk=>(aw _ .name ?_))
     have hk7:k<=7:=(by decide:∀k∈[7,6,5,4,3,2,1,0],k<=7) k hk
     refine iu.rb (F:=NF) (CE:=CF) (by kernel_rfl) ?_
     refine OH b9.ok.ton6 (by kernel_rfl) kc.1 kc.2 (by kernel_rfl) hcD hcS (rn (ck.lo 8 _ rfl).ix _) (.inr ⟨_,rn (ck.lo 5 _ rfl).ix _⟩) (b9.b0▸(ck.gl 2 _ rfl).val) hk7 ?_
     rw[qa (by rw[Wp];exact lM _ (by decide))];rfl
    .refine ge (v:=[.int left',.int most,.bool many,.val (.ref m),.int digit,cR bC.c.T [u],.int (digit%4:Nat),cR bC.c.T [u],.str (ms (rY up)),q.v6]) (t:=(d,.lst (cY ((lA up u).map λd=>[d])))::(m,.lst (bF c.T acc))::σ.st) ck ?_
     walk_at "n"
     refine DE (a:=d) (ls:=(lA up u).map λd=>[d]) (by rw[Cw,hfg];decide) ?_
     rw[Cw]
     refine UR ‹_› ?_;walk_at "n";refine pc ?_;walk_at "go"
     refine Br.mk (λhJ=>?_) (λhJ=>?_)
     .replace hJ:=of_decide_eq_true hJ
      walk_at "go"
      refine QE (Qw ?_)
      walk_at "go";refine pc ?_;walk_at "go"
      refine Br.mk (λhK=>?_) (λhK=>?_)
      .rewrite[aA ⟨hJ,of_decide_eq_true hK⟩] at hs
       walk_at "go"
       refine zV (by lia) ?_
       walk_at "go"
       refine cU (by rw[kb,hfg];show 2+(8-4)<=_;exact wR rfl) ?_
       walk_at "go"
       exact fin _ _ _ hs.symm
      .rewrite[an λz=>of_decide_eq_false hK z.2] at hs
       walk_at "go"
       refine cU (by rw[hfg];show 2+8<=_;exact wR rfl) ?_
       walk_at "go"
       exact fin _ _ _ hs.symm
     .rewrite[an λz=>of_decide_eq_false hJ z.1] at hs
      walk_at "go"
      refine cU (by rw[hfg];show 2+8<=_;exact wR rfl) ?_
      walk_at "go"
      exact fin _ _ _ hs.symm
   have padB:¬(1<digit%4\/signOf digit=127)->¬([92,8,12,13].contains (signOf digit)=true\/([34,10].contains (signOf digit)=true/\many=false)\/([34,10,9].contains (signOf digit)=true/\digit%4=1))->bl bC xy (lb.at [.int left',.int most,.bool many,.val (.ref m),.int digit,cR bC.c.T [u],.int (digit%4:Nat),cR bC.c.T [u],q.v5,q.v6] ((m,.lst (bF c.T acc))::σ.st)) (D bC (.seq .fin (.seq (.mark iP) .top))).f (D bC (.seq .fin (.seq (.mark iP) .top))).x:=λhA hB=>by
    have hs:fM many left' digit=if many=true/\digit%4=1/\u≠32 then[92]++ny (left'%4)++[u] else[u]:=by unfold fM;rw[an hA,an hB,hsg]
    have keep:¬(many=true/\digit%4=1/\u≠32)->bl bC iP (lb.at [.int left',.int most,.bool many,.val (.ref m),.int digit,cR bC.c.T [u],.int (digit%4:Nat),cR bC.c.T [u],q.v5,q.v6] ((m,.lst (bF c.T acc))::σ.st)) (D bC .top).f (D bC .top).x:=λn=>bl.wk (OG (i:=7) ck rfl rfl rfl) (fin [u] _ _ (by rw[hs,an n]))
    refine(so ck 99).s (k:=.seq .fin (.seq (.mark iP) .top)) ?_
    unfold xy
    walk_at "n"
    walk_at "go"
    refine Br.mk (λhG=>?_) (λhG=>?_)
    .refine og ?_;walk_at "go"
     refine Br.mk (λhH=>?_) (λhH=>?_)
     .walk_at "go"
      refine pD ?_
      refine oj ?_;walk_at "go"
      refine Br.mk (λhI=>?_) (λhI=>?_)
      .rewrite[aA ⟨hG,(by simpa using hH),(by simpa using hI)⟩] at hs
       walk_at "go"
       refine zw (b:=4) (by decide) ?_
       have h4:left'%4<4:=lM _ (by decide)
       generalize left'%4=r at h4 hs |-
       have hpl:(ny r).length<=4/\[PV.str (ms [10]),.str (ms [32,10,9,10]),.str (ms [9,32,10]),.str (ms [32,32,10,32])][r]?=some (.str (ms (ny r))):=by
        have:r=0\/r=1\/r=2\/r=3:=(by decide:∀r,r<4->r=0\/r=1\/r=2\/r=3) r h4
        rcases this with rfl | rfl | rfl | rfl <;> exact⟨by decide,rfl⟩
       walk_at "go"
       refine vr (i:=r) (x:=.str (ms (ny r))) hpl.2 (by show 4<2^60;decide) ?_
       walk_at "go"
       refine cU (by rw[kn];exact nF (eG hpl.1 1) (by decide)) ?_
       walk_at "go"
       refine W1 (cU (by rw[bt,kn,kn];exact nF (iG (eG hpl.1 1) 1) (by decide)) ?_)
       walk_at "go"
       exact fin _ _ _ hs.symm
      .walk_at "go"
       exact keep λz=>by simp[z.2.2] at hI
     .walk_at "go"
      exact keep λz=>by replace hH:=z.2.1▸hH;exact absurd hH (by decide)
    .walk_at "go"
     exact keep λz=>by replace hG:=z.1▸hG;cases hG
   have escB:¬(1<digit%4\/signOf digit=127)->u∈[34,92,10,9,8,12,13]->([92,8,12,13].contains (signOf digit)=true\/([34,10].contains (signOf digit)=true/\many=false)\/([34,10,9].contains (signOf digit)=true/\digit%4=1))->bl bC Ad (lb.at [.int left',.int most,.bool many,.val (.ref m),.int digit,cR bC.c.T [u],.int (digit%4:Nat),cR bC.c.T [u],q.v5,q.v6] ((m,.lst (bF c.T acc))::σ.st)) (D bC (.seq .fin (.seq (.mark iP) .top))).f (D bC (.seq .fin (.seq (.mark iP) .top))).x:=λhA hm hB=>by
    refine br (P5 u hm) λi hi hx hy=>?_
    refine(so ck 99).s (k:=.seq .fin (.seq (.mark iP) .top)) ?_
    unfold Ad
    walk_at "n"
    refine Qv ?_;walk_at "go"
    refine VW (Tb (i:=i) hx ?_)
    walk_at "go"
    refine mu b9.ok dN (by exact bQ ‹_› (by decide)) (λy hy'=>?_) (λhy'=>by exact nV (hy▸hy'))
    replace hy':=hy▸hy'
    refine(λj0=>?_) (bj hy');clear hy';subst j0
    walk_at "go"
    refine cU (by show 1+1<=bN;omega) ?_
    walk_at "go"
    exact fin _ _ _ (by unfold fM;rw[an hA,aA hB,hsg]:fM many left' digit=[92,yW u]).symm
   refine Br.mk (λhA=>?_) (λhA=>?_)
   .exact⟨λZ=>figB (.inl (of_decide_eq_true hA)),λz=>nomatch z⟩
   .refine pD ?_
    refine gL ?_;walk_at "go"
    have mem:∀{l:List Nat},(∀x∈l,x∈[34,92,10,9,8,12,13])->l.contains u=true->u∈[34,92,10,9,8,12,13]:=λh z=>h u (jZ.mp z)
    refine Br.mk (λhB=>?_) (λhB=>?_)
    .exact⟨λZ=>figB (.inr (hsg.trans (by simpa using eq_of_beq hB))),λz=>nomatch z⟩
    .have nA:¬(1<digit%4\/signOf digit=127):=λz=>z.elim (of_decide_eq_false hA) λz=>by replace hB:=z▸(bR hsg:_)▸hB;exact absurd hB (by decide)
     refine⟨(λz=>nomatch z),λZ=>pD ?_⟩
     refine uY ?_;walk_at "go"
     refine Br.mk (λhC=>?_) (λhC=>?_)
     .walk_at "go"
      exact escB nA (mem (by decide) hC) (.inl (hsg▸hC))
     .have nB:¬([34,10].contains u=true/\many=false)->¬([34,10,9].contains u=true/\digit%4=1)->¬([92,8,12,13].contains (signOf digit)=true\/([34,10].contains (signOf digit)=true/\many=false)\/([34,10,9].contains (signOf digit)=true/\digit%4=1)):=λn1 n2 z=>by
       replace z:=hsg▸z
       exact z.elim (λz=>oS (hC.symm.trans z)) λz=>z.elim n1 n2
      walk_at "go"
      refine pD ?_
      refine uY ?_;walk_at "go"
      refine Br.mk (λhD=>?_) (λhD=>?_)
      .walk_at "go"
       refine Br.mk (λhM=>?_) (λhM=>?_)
       .walk_at "go"
        exact escB nA (mem (by decide) hD) (.inr (.inl ⟨hsg▸hD,by simpa using hM⟩))
       .skip
        walk_at "go"
        refine pD ?_
        refine uY ?_;walk_at "go"
        refine Br.mk (λhE=>?_) (λhE=>?_)
        .refine og ?_;walk_at "go"
         refine Br.mk (λhF=>?_) (λhF=>?_)
         .walk_at "go"
          exact escB nA (mem (by decide) hE) (.inr (.inr ⟨hsg▸hE,by simpa using hF⟩))
         .walk_at "go"
          exact padB nA (nB (λz=>by replace hM:=z.2▸hM;exact absurd hM (by decide)) λz=>by replace hF:=z.2▸hF;exact absurd hF (by decide))
        .walk_at "go"
         exact padB nA (nB (λz=>by replace hM:=z.2▸hM;exact absurd hM (by decide)) λz=>oS (hE.symm.trans z.1))
      .skip
       walk_at "go"
       refine pD ?_
       refine uY ?_;walk_at "go"
       refine Br.mk (λhE=>?_) (λhE=>?_)
       .refine og ?_;walk_at "go"
        refine Br.mk (λhF=>?_) (λhF=>?_)
        .walk_at "go"
         exact escB nA (mem (by decide) hE) (.inr (.inr ⟨hsg▸hE,by simpa using hF⟩))
        .walk_at "go"
         exact padB nA (nB (λz=>oS (hD.symm.trans z.1)) λz=>by replace hF:=z.2▸hF;exact absurd hF (by decide))
       .walk_at "go"
        exact padB nA (nB (λz=>oS (hD.symm.trans z.1)) λz=>oS (hE.symm.trans z.1))
  .walk_at "go";refine f0.brk ‹_› ?_;walk_at "go"
   replace h:=(bR hu:_)▸h;rewrite[C_ λz=>of_decide_eq_false hc z.2] at h
   exact h m hmf
 .walk_at "go";refine f0.brk ‹_› ?_;walk_at "go"
  replace h:=(bR hu:_)▸h;rewrite[C_ λz=>of_decide_eq_false hb z.1] at h
  exact h m hmf
end
end
section
section
noncomputable abbrev fl:ag:=.type "float"
variable {c:FC}{σ:AS}{Q:PV->AS->Prop}{E:aG->AS->Prop}{ev:bB}{w:aR}{b:am}{n:Nat}
theorem vq{l:List Nat}{k u:Nat}(K:c.Ok)(hh:c.A.handled=none)(hn:k<2^62)(hu:l[k]?=some u)(h:Q (.str (ms [u])) σ):U2 c RV hV (.str (ms l)) (.int k) σ Q E:=
 mu K hh hn (λv hv=>by replace hv:=hu▸hv;refine(λj0=>?_) (bj hv);clear hv;subst j0;exact h) (λhv=>by exact nV (hu▸hv))
theorem Pi(P:Pl c ev w b (n+9))(S:aO w b)(qu:c.A.handled=none){l:List Nat}{p q u:Nat}{t:List Nat}(hl:l.length<2^24)(hp:l[p]?=some 34)
  (hb:b4 false l (l.length+1) (p+1) [] = .ok q t) (hu:l[bu l bG q]?=some u) (hd:u≠46)
  (h:Q (.tup [.int (bu l bG q:Nat),.tup [.str (ms t)]]) σ):aM c (.val (.ref 601)) [.str (ms l),.int p] [] [] σ Q E:=by
 refine MM P S λΓ C P' G N=>?_
 have qu':=C.hd.trans qu
 have hlt:p<l.length:=(dY.mp hp).1
 have hlt2:bu l bG q<l.length:=(dY.mp hu).1
 unfold Cg
 walk_at "n"
 refine⟨qu',HZ P' S qu' hl hp ?_⟩
 rw[hb];unfold Out
 walk_at "go"
 refine nY P' S qu' S.r8 (by decide +kernel) (by exact bQ ‹_› (by decide)) ((uu _ _ _ hlt hb).1) ?_
 walk_at "go"
 refine wh G (λZ:Unit=>[.str (ms l),.int (bu l bG q:Nat),.str (ms t),.tup [.str (ms t)],.al]) (λZ=>σ.st) (λZ=>0) (λZ=>True) () trivial .refl λZ Z bC ec ck Le=>?_
 walk_at "n"
 walk_at "go"
 refine vq ck.ok (ec▸qu') (by exact bQ (fG ‹_› ‹_›) (by decide)) hu ?_
 walk_at "go";refine oj ?_;walk_at "go"
 refine Br.mk (λhb=>?_) (λhb=>absurd (by simpa using hb) hd)
 refine f0.ret ‹_› ?_;walk_at "go"
 exact h
theorem US(P:Pl c ev w b (n+1))(S:aO w b)(qu:c.A.handled=none){l:List Nat}{p u:Nat}(hl:l.length<2^24)(hp:l[p]?=some u)(hd:u≠35)
  (h:Q (.int (p:Nat)) σ):aM c (.val (.ref 559)) [.str (ms l),.int p] [] [] σ Q E:=by
 refine SX P S λΓ C P' G N=>?_
 have hlt:p<l.length:=(dY.mp hp).1
 unfold HH
 walk_at "n"
 walk_at "go"
 refine vq P'.ok (C.hd.trans qu) (by exact bQ (fG ‹_› ‹_›) (by decide)) hp ?_
 walk_at "go";refine gL ?_;walk_at "go"
 refine Br.mk (λhb=>absurd (by simpa using hb) hd) (λhb=>?_)
 walk_at "go"
 exact h
theorem OR(P:Pl c ev w b (n+10))(S:aO w b)(qu:c.A.handled=none){l:List Nat}{p q e:Nat}{t v:List Nat}(hl:l.length<2^24)(hp:l[p]?=some 34)
  (hb:b4 false l (l.length+1) (p+1) [] = .ok q t) (hu:l[bu l bG q]?=some 61) (hv:l[bu l bG (bu l bG q+1)]?=some 34) (hx:eP l (bu l bG (bu l bG q+1)) = .ok e v)
  (h:Q (.tup [.int (e:Nat),.tup [.str (ms t)],.str (ms v)]) σ):aM c (.val (.ref 594)) [.str (ms l),.int p,.val fl] [] [] σ Q E:=by
 refine VC P S λΓ C P' G N=>?_
 have qu':=C.hd.trans qu
 have hlt2:bu l bG q<l.length:=(dY.mp hu).1
 unfold HT
 walk_at "n"
 refine⟨qu',Pi P' S qu' hl hp hb hu (by decide) ?_⟩
 walk_at "go"
 refine vq P'.ok qu' (by exact bQ (fG ‹_› ‹_›) (by decide)) hu ?_
 walk_at "go";refine oj ?_;walk_at "go"
 refine Br.mk (λhb=>absurd hb (by decide)) (λhb=>?_)
 refine gr ?_;walk_at "go"
 refine nY P' S qu' S.r8 (by decide +kernel) (by exact bQ ‹_› (by decide)) (by exact jC ‹_›) ?_
 walk_at "go"
 refine⟨qu',y9 P' S qu' hl hv ?_⟩
 rw[hx];unfold Out
 walk_at "go"
 exact h
theorem Rs{v:ag}(hp:plainIs v v=true)(h:Q (.bool true) σ):U2 c RV (ce .Is) (.val v) (.val v) σ Q E:=λs x y I e e'=>by
 obtain rfl:x=v:=e
 obtain rfl:y=x:=e'
 exact wpAny_is_self hp ⟨.bool true,σ,I,rfl,TK.refl _,h⟩
theorem M1(P:Pl c ev w b (n+1))(S:aO w b)(qu:c.A.handled=none)(h:Q (.val fl) σ):aM c (.val (.ref 700)) [.val fl] [] [] σ Q E:=by
 refine Py P S λΓ C P' G N=>?_
 unfold Fz
 walk_at "n"
 refine Rs (by decide) ?_
 walk_at "go"
 exact h
end
end
section
open PySem PySem.W PyProof.Rows Builtin.ObjectAttr
noncomputable def KX(P:az):bE:=[(2,o2 P),(427,Eb P),(426,Ee P),(463,Fx P),(462,F5 P),(535,zx P),(534,Es P),(298,Fl P),(297,II P),(527,zM P),(526,w_ P),(530,Ah P),(529,xL P),(536,F_ P),(281,y6 P),(288,Gz P),(424,za P),(453,yz P),(445,xd P),(389,Af P),(485,x6 P)]
theorem Wj{b:am}:BI [] b:=λZ Z e=>nomatch e
theorem Tk{b:am}{d:aj}{od:ax}{K:bE}(hd:b.get? d=some od)(h:BI K b):BI ((d,od)::K) b:=λa o e=>by
 have e:Z8 a ((d,od)::K)=some o:=e
 rewrite[AI] at e
 cases q:a==d with
 | true=>replace e:=q▸e;refine(λj0=>?_) (bj e);clear e;subst j0;rw[eq_of_beq q];exact hd
 | false=>replace e:=q▸e;exact h a o e
theorem aO.sg{w:aR}{b:am}(S:aO w b):∀K:bE,(K.all λp=>!tabs.contains p.1)=true->(∀p∈K,(nT w.params).lookup p.1=some p.2)->K.In b:=λK=>by
 induction K with
 | nil=>exact λZ Z=>Wj
 | cons p K ih=>
  intro h1 h2
  have h1:=ff.mp h1
  exact Tk (S.at p.1 (h2 p (.head _)) (by simpa using h1.1)) (ih h1.2 λq hq=>h2 q (.tail _ hq))
theorem sj{K F:bE}(h:K.map (λp=>F.lookup p.1)=K.map λp=>some p.2):∀p∈K,F.lookup p.1=some p.2:=LV.mp h
theorem aO.kx{w:aR}{b:am}(S:aO w b):(KX w.params).In b:=S.sg _ (by kernel_rfl) (sj (by kernel_rfl))
section
variable {c:FC}{σ:AS}{Q:PV->AS->Prop}{E:aG->AS->Prop}{ev:bB}{w:aR}{b:am}{n:Nat}{st:List (aj×AO)}{loc:List (af×PV)}
theorem Pl.kx(P:Pl c ev w b n)(S:aO w b):(KX w.params).In c.b0:=P.b0▸S.kx
theorem Fw{K:bE}{x dx C:aj}{ox od:ax}{v:ag}{pv:PV}{name:af}(X:K.In c.b0)(hx:K.lookup x=some ox)(hc:ox.cls = .ref C)(hn:notCls ox=true)(hdx:ox.dict=some dx)(ho:K.lookup dx=some od)
  (hg:km K (.ref C) "__getattribute__" = some (some (.builtin "object.__getattribute__"))) (hf:findObj K C (some od) name=some (.value v)) (hh:qD v=true) (rv:∀h,RV h pv v) (h:Q pv σ) :
  U1 c RV (λv=>mZ v name true) (.val (.ref x)) σ Q E:=λs u I e=>by
 obtain rfl:u = .ref x:=e
 have Xs:=X.keeps I.b0
 exact get_value Xs ⟨Xs _ _ hx,hc,hn,by rw[hdx];exact Xs _ _ ho⟩ hg hf hh ⟨pv,σ,I.tok _,rv _,TK.refl _,h⟩
theorem HD(P:Pl c ev w b (n+1))(S:aO w b)(qu:c.A.handled=none){D x i:Nat}{d:Option aj}{vs:Array ag}{m:Nat}{v:ag}(hD:(D=527/\i=0)\/(D=530/\i=1))(hx:(x,.raw (.ref 535) d (.seq vs m))∈σ.st)(hv:vs[i]?=some v)
  (h:Q (.val v) σ):c_ c RV 281 [.val (.ref D),.val (.ref x),.val (.ref 535)] [] [] σ Q E:=by
 refine mG P (F:=uQ) (cd:=xS) (np:=3) (ds:=[]) (vals:=[.val (.ref D),.val (.ref x),.val (.ref 535)]) (S.at 281 (o:=y6 w.params) (by kernel_rfl)) rfl (codeRec_of (S.at 280 (o:=DF w.params) (by kernel_rfl)) rfl rfl) rfl (by kernel_rfl) (TZ S) OJ S.jK rfl rfl
  (λs vs kvs I rx rk=>by refine jX (zG rx) λa0 a1 a2 j1=>?_;subst j1;obtain rfl:=hW rk;exact(aw [] aB.nil (BR (K:=[(274,CR w.params)]) ((S.sg _ (by kernel_rfl) (sj (by kernel_rfl))).keeps (P.b0▸I.b0)) (λS=>by kernel_rfl) _ _ _ _ ⟨rfl,rfl⟩))) λΓ C P' G N=>?_
 have X:=P'.kx S
 unfold xS
 walk_at "n"
 refine QG ?_
 walk_at "go"
 refine VL hx ?_
 walk_at "go"
 refine Rv X (by kernel_rfl) (by kernel_rfl) (by kernel_rfl) ?_
 walk_at "go";refine T_ ?_
 refine dh.type (v:=.builtin "tuple.__getitem__") (by kernel_rfl) (by kernel_rfl) (by kernel_rfl) (by decide) ?_
 walk_at "go"
 have gi:∀v:Int,v=(i:Int)->aM Γ.c (.val (.builtin "tuple.__getitem__")) [.val (.ref x),.int v] [] [] (uQ.at [.val (.ref D),.val (.ref x),.val (.ref 535)] σ.st) (Internal.D Γ (.ret .top)).e (Internal.D Γ (.ret .top)).x:=λz hz=>by
  rw[hz]
  refine VH X hx (by kernel_rfl) hv (by rcases hD with⟨_,rfl⟩ | ⟨_,rfl⟩ <;> decide) ?_
  walk_at "go"
  exact h
 rcases hD with⟨e1,e2⟩ | ⟨e1,e2⟩
 .rw[e1]
  refine Fw X (x:=527) (dx:=526) (C:=298) (ox:=zM w.params) (od:=w_ w.params) (v:=.int 0 2196) (pv:=.int 0) (by kernel_rfl) rfl rfl rfl (by kernel_rfl) (by kernel_rfl) (by kernel_rfl) rfl (λh=>⟨_,rfl⟩) ?_
  walk_at "go"
  have z:=gi 0 (by rw[e2];rfl)
  replace z:=e1▸z
  exact z
 .rw[e1]
  refine Fw X (x:=530) (dx:=529) (C:=298) (ox:=Ah w.params) (od:=xL w.params) (v:=.int 1 2206) (pv:=.int 1) (by kernel_rfl) rfl rfl rfl (by kernel_rfl) (by kernel_rfl) (by kernel_rfl) rfl (λh=>⟨_,rfl⟩) ?_
  walk_at "go"
  have z:=gi 1 (by rw[e2];rfl)
  replace z:=e1▸z
  exact z
structure Ry(K:bE)(C:aj)(dt:mT)(name:af)(es:List (af×PV)):Prop where
 n:pT dt=true
 s:km K (.ref C) "__setattr__" = some (some (.builtin "object.__setattr__"))
 p:plainOver K C=true
 t:takerIn K C name=some none
 h:LC K C=true
 v:eT es name=none
 z:es.length<=1000
theorem xK{F:Fn}{Γ:Gm F}{d:Dn}{r:Cs}{v:List PV}{t:List (aj×AO)}{s:bA}{i:Nat}{x:aj}{K:bE}{name:af}(G:Good Γ.c F)(X:K.In Γ.c.b0)
  (hx:L_ [.Attribute (F.rb (.loc i) (k1 (sD s).t)) name (sD s).t.pos] (sD s).e s.pos=s) (hs:∀t n e,lW (sD s).e t n e=pure false) (hn:eU v i = .val (.ref x))
  (h:Ev Γ.c (sD s).e (F.at v t) (λpv τ=>∃t1 t2 dx C dt es,τ=F.at v t1/\(x,.raw (.ref C) (some dx) dt)∈t1/\(dx,.bx es)∈t1/\Ry K C dt name es/\fC dx (.bx (es++[(name,pv)])) t1 t2/\bl Γ r (F.at v t2) d.f d.x) d.x):bl Γ (.raw s r) (F.at v t) d.f d.x:=by
 have e1:=aI (λs=>F.rb (.loc i) (k1 (sD s).t)) hx
 refine yL λst I=>?_
 generalize sD s=q at *
 rw[<-hx]
 refine plainObj_wpAny_Assign_Attribute (bH (h st I) (λw ay pv aq aQ aZ k₁ a7=>?_)) (hs _ _ _)
 refine PA a7 λt1 t2 dx C dt es e h1 h2 z U hN=>?_;clear a7
 subst e
 refine bH (du G (by rw[hn];rfl) (Q:=λy τ=>y = .val (.ref x)/\τ=F.at v t1) ⟨hn,rfl⟩ _ e1 ay aQ) λov bc y τ a_ bV k₂ bz=>?_
 refine aN bz λj1 j2=>?_;clear bz;subst j1;subst j2
 obtain rfl:ov = .ref x:=bV
 exact Tz X a_ (aZ.tk k₂) h1 h2 z.n z.s z.p z.t z.h z.v z.z U λh' tk I' Z=>⟨.next,_,I',rfl,hN⟩
theorem IQ{x:aL}(hx:Expr.Dict [] [] x.pos=x)(h:∀a,(∀ao,(a,ao)∉σ.st)->Q (.val (.ref a)) {σ with st:=(a,.bx [])::σ.st}):Ev c x σ Q E:=hx▸SK h
theorem PO(P:Pl c ev w b (n+1))(S:aO w b){x dx:aj}
  (h:∀dd,(∀ao,(dd,ao)∉(x,.raw (.ref 463) (some dx) .plain)::(dx,.bx [])::st)->Q .none ⟨loc,(dd,.bx [])::(x,.raw (.ref 463) (some dx) .plain)::(dx,.bx [(ae "dict",.val (.ref dd))])::st⟩) :
  c_ c RV 445 [.val (.ref x)] [] [] ⟨loc,(x,.raw (.ref 463) (some dx) .plain)::(dx,.bx [])::st⟩ Q E:=by
 refine ur P S (o:=xd w.params) (oc:=Di w.params) (np:=1) (vals:=[.val (.ref x)]) (by kernel_rfl) (by kernel_rfl) (by decide +kernel) rfl rfl rfl rfl rfl (by kernel_rfl) (Uh S) OT rfl rfl (pJ λZ=>by kernel_rfl) λΓ C P' G N=>?_
 unfold Ds
 walk_at "n"
 refine xK (i:=0) (name:=ae "dict") G (P'.kx S) (by kernel_rfl) (λZ Z Z=>by kernel_rfl) rfl (IQ (by kernel_rfl) λdd hf=>?_)
 refine(xN ((dd,.bx [])::(x,.raw (.ref 463) (some dx) .plain)::(dx,.bx [])::st) _ dx 463 .plain [] rfl (.tail _ (.head _)) (.tail _ (.tail _ (.head _))) ⟨rfl,by kernel_rfl,by kernel_rfl,by kernel_rfl,by kernel_rfl,rfl,cQ _⟩ (.tail (.tail .head)) ?_)
 refine(so G 99).s (k:=.top) ?_
 walk_at "n"
 walk_at "go"
 exact N.dW (h dd hf)
theorem UW(P:Pl c ev w b (n+1))(S:aO w b){x dx:aj}
  (h:∀f1 f2,Q .none ⟨loc,(x,.raw (.ref 427) (some dx) .plain)::(dx,.bx [(ae "_flags",.val (.ref f1)),(ae "_pending_flags",.val (.ref f2))])::st⟩) :
  c_ c RV 389 [.val (.ref x)] [] [] ⟨loc,(x,.raw (.ref 427) (some dx) .plain)::(dx,.bx [])::st⟩ Q E:=by
 refine ur P S (o:=Af w.params) (oc:=IJ w.params) (np:=1) (vals:=[.val (.ref x)]) (by kernel_rfl) (by kernel_rfl) (by decide +kernel) rfl rfl rfl rfl rfl (by kernel_rfl) (Wc S) RT rfl rfl (pJ λZ=>by kernel_rfl) λΓ C P' G N=>?_
 unfold CG
 walk_at "n"
 refine xK (i:=0) (name:=ae "_flags") G (P'.kx S) (by kernel_rfl) (λZ Z Z=>by kernel_rfl) rfl (IQ (by kernel_rfl) λf1 hf=>?_)
 refine(xN ((f1,.bx [])::(x,.raw (.ref 427) (some dx) .plain)::(dx,.bx [])::st) _ dx 427 .plain [] rfl (.tail _ (.head _)) (.tail _ (.tail _ (.head _))) ⟨rfl,by kernel_rfl,by kernel_rfl,by kernel_rfl,by kernel_rfl,rfl,cQ _⟩ (.tail (.tail .head)) ?_)
 refine bl.wk d6.drop (xK (i:=0) (name:=ae "_pending_flags") G (P'.kx S) (by kernel_rfl) (λZ Z Z=>by kernel_rfl) rfl ((s_call rfl rfl (jF G (gz (nh (Ut λf2=>?_)))):bK Γ (.call (.gl 0) .nil .nil) _ _ _) _ (by kernel_rfl)))
 refine(xN ((x,.raw (.ref 427) (some dx) .plain)::(dx,.bx [(ae "_flags",.val (.ref f1))])::st) _ dx 427 .plain _ rfl (.head _) (.tail _ (.head _)) ⟨rfl,by kernel_rfl,by kernel_rfl,by kernel_rfl,by kernel_rfl,by kernel_rfl,Yh rfl⟩ (.tail .head) ?_)
 refine(so G 99).s (k:=.top) ?_
 walk_at "n"
 walk_at "go"
 exact N.dW (h f1 f2)
theorem Xa(P:Pl c ev w b (n+1))(S:aO w b){x:aj}{i:Int}
  (h:Q (.bool false) σ):aM c (.val (.ref 424)) [.val (.ref x),.tup [],.int i] [] [] σ Q E:=by
 refine T4 P S λΓ C P' G N=>?_
 unfold D8
 walk_at "n"
 refine Ui (by decide) ?_
 walk_at "go"
 show Br true _ _
 walk_at "go"
 exact h
theorem Q2(P:Pl c ev w b (n+1))(S:aO w b)(qu:c.A.handled=none){x dx dd:aj}(hx:(x,.raw (.ref 463) (some dx) .plain)∈σ.st)(hd:(dx,.bx [(ae "dict",.val (.ref dd))])∈σ.st)
  (h:Q (.val (.ref dd)) σ):aM c (.val (.ref 453)) [.val (.ref x),.tup []] [] [] σ Q E:=by
 have ho:=S.at 453 (o:=yz w.params) (by kernel_rfl)
 refine c_.call (P.b0▸ho) rfl (mG P (F:=yV) (cd:=zO) (np:=3) (ds:=[.bool true]) (vals:=[.val (.ref x),.tup [],.bool true,.al,.al]) ho rfl (codeRec_of (S.at 452 (o:=CS w.params) (by kernel_rfl)) rfl rfl) rfl (by kernel_rfl) (Oy S) P6 S.jK rfl rfl
  (λs vs kvs I rx rk=>by refine dV (rM rx) λa0 a1 j1=>?_;subst j1;obtain rfl:=hW rk;exact(aw [.bool true] (aB.cons rfl aB.nil) (BR (K:=[(446,FN w.params)]) ((S.sg _ (by kernel_rfl) (sj (by kernel_rfl))).keeps (P.b0▸I.b0)) (λS=>by kernel_rfl) _ _ _ _ ⟨rfl,rfl⟩))) λΓ C P' G N=>?_)
 have qu':=C.ent.hd.trans qu
 unfold zO
 walk_at "n"
 refine GZ (P'.kx S) hx hd rfl (by kernel_rfl) (by kernel_rfl) (attr:=none) (by kernel_rfl) rfl (pv:=.val (.ref dd)) (by kernel_rfl) (λh v e=>by cases e;rfl) ?_
 walk_at "go"
 refine fo G qu' (.inl rfl) (λZ:Unit=>[.val (.ref x),.tup [],.bool true,.val (.ref dd),.al]) (λZ=>σ.st) (λ(Z:Unit) xs Z=>xs=[]) (pF (du G rfl (il.tup qu' (aw () (λZ Z Z=>trivial) ⟨(),.refl,rfl⟩)))) (λZ Z Z=>?_) λZ x xs Z z=>nomatch z
 walk_at "go"
 exact h
theorem uk(P:az):jL (KX P) 535:=⟨(xm _ _ _ _ (by kernel_rfl:(KX P).lookup 535=some (zx P)) rfl rfl rfl rfl),by kernel_rfl,by kernel_rfl,by kernel_rfl⟩
theorem UZ(P:Pl c ev w b (n+1))(S:aO w b){u v:ag}
  (h:∀x dx,x≠dx->(∀ao,(x,ao)∉σ.st)->(∀ao,(dx,ao)∉σ.st)->Q (.val (.ref x)) {σ with st:=(x,.raw (.ref 535) (some dx) (.seq #[u,v]))::(dx,.bx [])::σ.st}) :
  c_ c RV 485 [.val (.ref 535),.val u,.val v] [] [] σ Q E:=by
 refine ur P S (o:=x6 w.params) (oc:=Dm w.params) (np:=3) (vals:=[.val (.ref 535),.val u,.val v]) (by kernel_rfl) (by kernel_rfl) (by decide +kernel) rfl rfl rfl rfl rfl (by kernel_rfl) (UC S) RS rfl rfl (jb λZ Z Z=>by kernel_rfl) λΓ C P' G N=>?_
 unfold IL
 walk_at "n"
 refine dh.type (v:=.builtin "tuple.__new__") (by kernel_rfl) (by kernel_rfl) (by kernel_rfl) (by decide) ?_
 walk_at "go"
 refine Od (us:=[u,v]) (P'.kx S) (uk _) (by show 2<=1000;decide) (λx dx h1 h2 h3=>?_)
 refine gK ‹_› ?_;walk_at "n";walk_at "go"
 exact h x dx h1 h2 h3
theorem Ti(P:Pl c ev w b (n+1))(S:aO w b)(qu:c.A.handled=none){x dx:aj}{u v:ag}{es:List (af×PV)}(hx:(x,.raw (.ref 535) (some dx) (.seq #[u,v]))∈σ.st)(hd:(dx,.bx es)∈σ.st)(hv:qD v=true)
  (h:Q (.val v) σ):U1 c RV (λv=>mZ v (ae "flags") true) (.val (.ref x)) σ Q E:=
 Iu (P.kx S) (uk _) hx hd rfl (by kernel_rfl) (by kernel_rfl) (by kernel_rfl) (a:=.ref 530) (fa:=281) (by kernel_rfl) (by kernel_rfl) (by kernel_rfl)
  (HD (P.gP (A:=c.A.in1) rfl rfl (bk _)) S qu (.inr ⟨rfl,rfl⟩) hx rfl ⟨λZ y e=>by cases e;exact hv,h⟩)
theorem HW(P:Pl c ev w b (n+1))(S:aO w b)(qu:c.A.handled=none){x dx:aj}{u v:ag}{es:List (af×PV)}(hx:(x,.raw (.ref 535) (some dx) (.seq #[u,v]))∈σ.st)(hd:(dx,.bx es)∈σ.st)(hv:qD u=true)
  (h:Q (.val u) σ):U1 c RV (λv=>mZ v (ae "data") true) (.val (.ref x)) σ Q E:=
 Iu (P.kx S) (uk _) hx hd rfl (by kernel_rfl) (by kernel_rfl) (by kernel_rfl) (a:=.ref 527) (fa:=281) (by kernel_rfl) (by kernel_rfl) (by kernel_rfl)
  (HD (P.gP (A:=c.A.in1) rfl rfl (bk _)) S qu (.inl ⟨rfl,rfl⟩) hx rfl ⟨λZ y e=>by cases e;exact hv,h⟩)
inductive C7(x xn xf dd:aj)(es:List (af×PV))(st:List (aj×AO)):Prop
 | mk (dx dn df f1 f2:aj) (h1:(x,.raw (.ref 535) (some dx) (.seq #[.ref xn,.ref xf]))∈st) (h2:(dx,.bx [])∈st) (h3:(xn,.raw (.ref 463) (some dn) .plain)∈st) (h4:(dn,.bx [(ae "dict",.val (.ref dd))])∈st)
  (h5:(xf,.raw (.ref 427) (some df) .plain)∈st) (h6:(df,.bx [(ae "_flags",.val (.ref f1)),(ae "_pending_flags",.val (.ref f2))])∈st) (h7:(dd,.bx es)∈st)
end
end
section
theorem Wa{e:bB}{scope:dA}{aH aK:aj}(hn:scope.names=[(ae ".0",.local),(ae "i",.local),(ae "header",.free),(ae "key",.free)])
  (hs:e.cells.lookup (ae "header")=some aH) (hd:e.cells.lookup (ae "key")=some aK):l5 scope e=pure [(ae "key",aK),(ae "header",aH)]:=by
 have c1:oV e (ae "header")=pure aH:=by unfold oV;rw[hs]
 have c2:oV e (ae "key")=pure aK:=by unfold oV;rw[hd]
 unfold l5
 rw[hn]
 simp only[i3,sH,c1,c2,pure_bind,reduceIte,reduceCtorEq,beq_iff_eq]
theorem aO.O3{w:aR}{b:am}(S:aO w b):mW b 586 582:=
 (I8 _ _ _ _ _ _ _ _ _ (S.at 586 (o:=vv w.params) (by kernel_rfl)) rfl rfl rfl rfl rfl rfl rfl rfl (by decide))
section
variable {F:Fn}{Γ:Gm F}{d:Dn}{v v':List PV}{t:List (aj×AO)}
theorem Wy{s:bA}{y:af}{i k:Nat}{f as:Ce}{B R:Cs}{cl:List (af×aj)}{cc:aj}{x:gJ}{mg:af->Option ag}{a b e:Int}(G:Good Γ.c F)
  (hst:L_ [F.b6 i (sD s).t] (.GeneratorExp (cr (sD s).e).1 [⟨.Name y (cr (sD s).e).2.1.pos,F.rb (.call f as .nil) (cr (sD s).e).2.2.1,[],0⟩] (cr (sD s).e).2.2.2 (sD s).e.pos) s.pos=s) (hf:f.isNm=true) (ha:as.jd=true)
  (hroom:Γ.c.A.depth<sV) (qu:Γ.c.A.handled=none) (hG:Γ.c.gens=dP) (hcs:Γ.c.b0.get? fH≠none) (hl:Γ.c.env.kindOf (F.name i)=some .local) (hxc:Γ.c.cells.lookup (F.name i)=none)
  (hco:(cr (sD s).e).2.2.2.isCoroutine=false) (hclos:l5 (cr (sD s).e).2.2.2 Γ.c.env=pure cl) (hcell:((cr (sD s).e).2.2.2.names.all λy=>y.2 !=.cell)=true) (h0:(cr (sD s).e).2.2.2.names.lookup (".0" : af)=some NameKind.local) (hy:(cr (sD s).e).2.2.2.names.lookup y=some .local) (hkind:(cr (sD s).e).2.2.2.kind = .function)
  (hcode:Γ.c.env.code = .ref cc) (C:mW Γ.c.b0 cc x.t) (hx:x∈Γ.c.tb) (hn:∀y∈Γ.c.tb,y.t=x.t->y=x) (h1:x.line=(sD s).e.pos.line) (h2:x.col=(sD s).e.pos.col) (hq:Γ.c.env.qual++ae "<genexpr>" = x.q)
  (hmg:Γ.c.b0.Ns eK mg) (hbl:Γ.c.b0.BuiltinsAt mg x.t) (hsm:Bv a b e=true) (hz:kl a b e=0)
  (h:bK Γ f (F.at v t) (λf τ=>f7 Γ as τ (λxs τ=>cL Γ.c nJ f xs [] [] τ (λr τ=>r=(a,b,e)/\∀z,∃v',τ.set (F.name i) (.val z)=F.at v' t/\bl Γ R (F.at v' t) d.f d.x) d.x) d.x) d.x) :
  bl Γ (.raw s (.for [k] (.loc i) B R)) (F.at v t) d.f d.x:=λl hl'=>by
 have el:s::.For (F.b6 k (hD l.tail).t) (F.b6 i (hD l.tail).e) (F.bw B (hD l.tail).a) [] (hs l.tail).pos::F.bw R l.tail.tail=l:=hl'
 have N1:F.b6 i (F.b6 i (sD s).t)=F.b6 i (sD s).t:=aI (λs=>F.b6 i (sD s).t) hst
 have N2:F.b6 k (F.b6 k (hD l.tail).t)=F.b6 k (hD l.tail).t:=aI (λl:List bA=>F.b6 k (hD l.tail).t) el
 have N3:F.b6 i (F.b6 i (hD l.tail).e)=F.b6 i (hD l.tail).e:=aI (λl:List bA=>F.b6 i (hD l.tail).e) el
 have e1:F.rb f (F.rb f (k1 (cr (sD s).e).2.2.1))=F.rb f (k1 (cr (sD s).e).2.2.1):=aI (λs=>F.rb f (k1 (cr (sD s).e).2.2.1)) hst
 have e2:F.cf as (F.cf as (eD (cr (sD s).e).2.2.1).1.tail)=F.cf as (eD (cr (sD s).e).2.2.1).1.tail:=aI (λs=>F.cf as (eD (cr (sD s).e).2.2.1).1.tail) hst
 have r3:F.bw R (F.bw R l.tail.tail)=F.bw R l.tail.tail:=aI (λl:List bA=>F.bw R l.tail.tail) el
 refine br (hX N1) λx1 n1 n2 n3=>?_
 refine br (hX N2) λx2 Z Z z3=>?_
 refine br (hX N3) λx3 Z w2 w3=>?_
 have iter:k9 Γ.c nJ (F.rb (.call f as .nil) (cr (sD s).e).2.2.1) (F.at v t) (λr aq=>r=(a,b,e)/\∀z,vj x1 (.val z) (λτ=>XS Γ.c (F.bw R l.tail.tail) τ (d.f .next) d.f d.x) aq) d.x:=
  rT (qW e1 hf) (me 4 as ha _ e2).1 ⟨rfl,rfl⟩ ((h _ e1).mn λZ Z q=>(q _ e2).mn λxs τ q s fv vs kvs I rf rx rk=>W.mn (q s fv vs kvs I rf rx rk) λr τ q=>⟨q.1,λz=>⟨let ⟨v',a1,a2⟩:=q.2 z;n2▸a1▸(a2 _ r3).mn (λf τ q=>by cases f <;> exact q) λZ Z q=>q⟩⟩)
 rw[<-el,<-z3,<-w3,(w2.symm.trans n2)]
 have key:=(QS (x:=x1) (z:=x2) (elt:=(cr (sD s).e).1) (px:=(F.b6 i (sD s).t).pos) (px2:=(F.b6 i (hD l.tail).e).pos) (pz:=(F.b6 k (hD l.tail).t).pos) (py:=(cr (sD s).e).2.1.pos) (pos1:=s.pos) (pos2:=(hs l.tail).pos) (body:=F.bw B (hD l.tail).a) G.ok hroom qu hG hcs (n2▸hl) (n2▸hxc) (G.lo _ _ n1).lC rfl hco hclos (λy hy q=>by have:=fE.mp hcell y hy;replace this:=q▸this;exact absurd this (by decide)) h0 hy hkind (λZ=>rfl) hcode C hx hn h1 h2 hq hmg hbl hsm hz iter).mn (Q':=d.f) (E':=d.x) (λf τ q=>by cases f <;> exact q) λZ Z q=>q
 replace key:=n3▸key
 exact(aI (λz=>dC Γ.c (z::_) (F.at v t) d.f d.x) hst).mp key
theorem QF{s:bA}{r:Cs}{i j m:Nat}{a:aj}{es:List (af×PV)}{x:af}{t':List (aj×AO)}(G:Good Γ.c F)(hst:L_ [F.rb (.o2 .sub (.loc i) (.loc j)) (sD s).t] (F.rb (.loc m) (sD s).e) s.pos=s)
  (hi:eU v i = .val (.ref a)) (hj:eU v j = .str x) (hm:nj (eU v m)=false) (hd:(a,.bx es)∈t) (hx:eT es x=none) (U:fC a (.bx (es++[(x,eU v m)])) t t') (hz:es.length<=100000) (h:bl Γ r (F.at v t') d.f d.x) :
  bl Γ (.raw s r) (F.at v t) d.f d.x:=by
 have e1:F.rb (.loc m) (F.rb (.loc m) (sD s).e)=F.rb (.loc m) (sD s).e:=aI (λs=>F.rb (.loc m) (sD s).e) hst
 have e2:F.rb (.loc i) (F.rb (.loc i) (k1 (sD s).t))=F.rb (.loc i) (k1 (sD s).t):=aI (λs=>F.rb (.loc i) (k1 (sD s).t)) hst
 have e3:F.rb (.loc j) (F.rb (.loc j) (k2 (sD s).t))=F.rb (.loc j) (k2 (sD s).t):=aI (λs=>F.rb (.loc j) (k2 (sD s).t)) hst
 have hs:lW (F.rb (.loc m) (sD s).e) (some (F.rb (.o2 .sub (.loc i) (.loc j)) (sD s).t)) s.pos.line Γ.c.env=pure false:=(ik e1 (.inl rfl)).w _ _ _
 refine yL ?_
 exact(aI (λz=>Ex Γ.c z (F.at v t) (dk Γ r d) d.x) hst).mp (Ex.mn (Qx hs (du G hm (du G (by rw[hi];rfl) (du G (by rw[hj];rfl) (QN a es x t' hi hj hd hx U hz h) _ e3) _ e2) _ e1)) λf τ q=>by cases f <;> exact q)
end
section
variable {c:FC}{σ:AS}{Q:PV->AS->Prop}{E:aG->AS->Prop}{ev:bB}{w:aR}{b:am}{n:Nat}
theorem UQ{xs:List PV}(hz:xs.length<2^60)(h:Q (.int (xs.length:Nat)) σ):aM c (.val (.builtin "len")) [.tup xs] [] [] σ Q E:=aM.blt λs vs I r=>by
 refine aC (iL r) λv j1 r1=>?_;subst j1
 refine oX (on r1) λa o ws m j1 ho hc hd hr hs=>?_;subst j1
 refine len_tuple (bh o ho hc ⟨m,hd⟩) (by lia) ?_
 rw[hs]
 exact⟨.int _,σ,I.tok _ (by lia),⟨_,rfl⟩,TK.refl _,h⟩
theorem WR{a:aj}{es:List (af×PV)}{x:af}(hm:(a,.bx es)∈σ.st)(hs:c.b0.get? oE≠none)(h:Q (.bool (eT es x).isSome) σ):U2 c RV (ce .In) (.str x) (.val (.ref a)) σ Q E:=λs u v I r r'=>
 Pk hm (beq_eq_false_iff_ne.mpr λq=>hs (q▸(I.st _ _ hm).2.2.2.1)) h s u v I r r'
theorem Qk(P:Pl c ev w b (n+12))(S:aO w b)(qu:c.A.handled=none)(hG:c.gens=dP){l:List Nat}{p q e x xn xf dd:Nat}{t v:List Nat}{es:List (af×PV)}(hl:l.length<2^24)(hp:l[p]?=some 34)
  (hb:b4 false l (l.length+1) (p+1) [] = .ok q t) (hu:l[bu l bG q]?=some 61) (hv:l[bu l bG (bu l bG q+1)]?=some 34) (hx:eP l (bu l bG (bu l bG q+1)) = .ok e v)
  (O:C7 x xn xf dd es σ.st) (hz:es.length<=100000) (hU:∃st',fC dd (.bx (es++[(ms t,.str (ms v))])) σ.st st'/\(eT es (ms t)=none->Q (.int (e:Nat)) {σ with st:=st'}))
  (hE:(eT es (ms t)).isSome=true->E (g0 (kC l e (lit "Cannot overwrite a value"))) σ) :
  aM c (.val (.ref 587)) [.str (ms l),.int p,.val (.ref x),.tup [],.val fl] [] [] σ Q E:=by
 have ho:=S.at 587 (o:=Ie w.params) (by kernel_rfl)
 refine c_.call (P.b0▸ho) rfl (mG P (F:=yU) (cd:=yG) (np:=5) (ds:=[]) (vals:=[.str (ms l),.int p,.val (.ref x),.tup [],.val fl,.al,.al,.al,.al,.al,.al,.al,.al]) ho rfl (codeRec_of (S.at 586 (o:=vv w.params) (by kernel_rfl)) rfl rfl) rfl (by kernel_rfl) (Sd S) TL S.jK rfl rfl (λs vs kvs Z rx rk=>OY (λZ Z Z Z Z=>by kernel_rfl) s vs kvs rx rk) λΓ C P' G N=>?_)
 have qu':=C.ent.hd.trans qu
 have X:=P'.kx S
 have cu:∀y,(Γ.c.env.cells.lookup y).isSome=cellIn _ y:=λy=>(C.ok.cu y).trans (by rw[show Γ.c.scope=_ from C.scope])
 have hc1:∃a,Γ.c.env.cells.lookup (ae "header")=some a:=mL.mp ((cu _).trans (by kernel_rfl))
 have hc2:∃a,Γ.c.env.cells.lookup (ae "key")=some a:=mL.mp ((cu _).trans (by kernel_rfl))
 refine(λj1=>?_) hc1;clear hc1;refine aP j1 λaH hc1=>?_;clear j1
 refine(λj1=>?_) hc2;clear hc2;refine aP j1 λaK hc2=>?_;clear j1
 unfold yG
 walk_at "n"
 refine⟨qu',OR P' S qu' hl hp hb hu hv hx ?_⟩
 walk_at "go"
 refine mq G qu' (by decide +kernel) (.inr λZ=>by kernel_rfl) ?_
 walk_at "n"
 refine nG ?_;walk_at "go"
 refine N_ ?_
 walk_at "go";refine nG ?_;walk_at "go"
 refine PD (i:=1) (by decide) (bk 1) (x:=.str (ms t)) rfl (show 1<2^60 by decide) ?_
 walk_at "go"
 refine V4 ?_
 walk_at "go"
 refine Wy (y:=ae "i") (f:=.gl 7) (as:=.cons (.nat 1) (.cons (.call (.gl 8) (.cons (.loc 12) .nil) .nil) .nil)) (a:=1) (b:=1) (e:=1) (x:=⟨582,440,30,(ae "key_value_rule"++ae ".<locals>.")++ae "<genexpr>"⟩) G (by kernel_rfl) rfl rfl (by have:=P'.room;exact BM ‹_›) qu' (C.gens.trans hG:Γ.c.gens=dP) (by rw[P'.b0];show b.get? 2≠none;rw[S.at 2 (o:=o2 w.params) (by kernel_rfl)];nofun) (by unfold oN;rw[C.scope];kernel_rfl:Γ.c.env.kindOf (ae "relative_path_cont_keys")=some .local) (An.mp (by rw[<-aaa,(cu (ae "relative_path_cont_keys")).trans (by kernel_rfl:_=false)];rfl):Γ.c.env.cells.lookup (ae "relative_path_cont_keys")=none) (by kernel_rfl) (Wa (by kernel_rfl) hc1 hc2)
  (by kernel_rfl) (by kernel_rfl) (by kernel_rfl) (by kernel_rfl) C.code (P'.b0▸S.O3) (by rw[P'.tb];exact .tail _ (.head _)) (λy hy e=>?_) (by kernel_rfl) (by kernel_rfl) (by rw[C.qual]) (P'.b0▸S.main) (P'.b0▸S.HR (.inr rfl)) rfl rfl ?_
 .replace hy:=P'.tb▸hy
  rcases cB.mp hy with rfl | hy
  .cases e
  .exact eX.mp hy
 refine jF G (dE (dj (dE (s_call rfl rfl (jF G (dE (du G rfl (gz (nh (UQ (show 1<2^60 by decide) (gz (Ec ⟨rfl,λgv=>(aw [.str (ms l),.int e,.val (.ref x),.tup [],.val fl,.str (ms v),.tup [],.str (ms t),.tup [],.val gv,.al,.al,.tup [.str (ms t)]] (lz G rfl rfl) ?_)⟩))))))))))))
 refine(so G 99).s (k:=.top) ?_
 obtain ⟨dx,dn,df,f1,f2,q1,q2,q3,q4,q5,q6,q7⟩:=O
 walk_at "n"
 refine Ti P' S qu' (x:=x) (dx:=dx) (u:=.ref xn) (v:=.ref xf) q1 q2 rfl ?_
 walk_at "go"
 refine dh.inst X q5 q6 rfl (by kernel_rfl) (f:=424) (by kernel_rfl) (by kernel_rfl) (by kernel_rfl) ?_
 walk_at "go"
 refine O1 X (mc:=.type "type") (v:=.int 0 1980) (pv:=.int 0) (by kernel_rfl) (by kernel_rfl) rfl (λh=>⟨_,rfl⟩) ?_
 walk_at "go"
 refine Xa P' S ?_
 walk_at "go"
 refine HW P' S qu' (x:=x) (dx:=dx) (u:=.ref xn) (v:=.ref xf) q1 q2 rfl ?_
 walk_at "go"
 refine dh.inst X q3 q4 rfl (by kernel_rfl) (f:=453) (by kernel_rfl) (by kernel_rfl) (by kernel_rfl) ?_
 walk_at "go"
 refine Q2 P' S qu' q3 q4 ?_
 walk_at "go"
 refine WR q7 (by rw[P'.b0];show b.get? 1≠none;rw[S.at 1 (o:=o1 w.params) (by kernel_rfl)];nofun) ?_
 walk_at "go"
 refine Br.mk (λhi=>?_) (λhi=>?_)
 .walk_at "go"
  refine nq P' S (by exact bQ ‹_› (by decide)) (by decide +kernel) ⟨rfl,?_⟩
  walk_at "go";refine e_.exc ‹_› ?_
  have z:=hE hi
  replace z:=(show lit "Cannot overwrite a value" = [67,97,110,110,111,116,32,111,118,101,114,119,114,105,116,101,32,97,32,118,97,108,117,101] by decide +kernel)▸z
  exact z
 walk_at "go"
 refine M4 ?_
 walk_at "go"
 have hno:eT es (ms t)=none:=An.mp (by rw[<-aaa,hi];rfl)
 refine aC hU λst' U hq=>?_;clear hU
 refine QF (i:=11) (j:=7) (m:=5) G (by kernel_rfl) rfl rfl rfl q7 hno U hz ?_
 refine(so G 99).s (k:=.top) ?_
 walk_at "n"
 walk_at "go"
 exact hq hno
end
end
section
inductive Doc where
 | ok (es:List (List Nat×List Nat))
 | again (e:Nat)
 | bad
noncomputable def kH(l:List Nat):Nat->Nat->List (List Nat×List Nat)->Doc
 | 0,_,_=>.bad
 | f+1,p,es=>match l[bu l bG p]? with
  | none=>.ok es
  | some u=>if u=10 then kH l f (bu l bG p+1) es else if u≠34 then .bad else
   match b4 false l (l.length+1) (bu l bG p+1) [] with
   | .ok q t=>if l[bu l bG q]?≠some 61\/l[bu l bG (bu l bG q+1)]?≠some 34 then .bad else
    match eP l (bu l bG (bu l bG q+1)) with
    | .ok e v=>if t∈es.map dq then .again e else if l[bu l bG e]?≠some 10\/100000<=es.length then .bad else kH l f (bu l bG e+1) (es++[(t,v)])
    | _=>.bad
   | _=>.bad
noncomputable def ents(es:List (List Nat×List Nat)):List (af×PV):=es.map λp=>(ms p.1,.str (ms p.2))
theorem HV{t:List Nat}{es:List (List Nat×List Nat)}:(eT (ents es) (ms t)).isSome=decide (t∈es.map dq):=by
 induction es with
 | nil=>exact Bool.le_antisymm (λa=>a) λa=>a
 | cons p es ih=>
  unfold ents at ih |-
  rw[cJ,eT]
  by_cases q:p.1=t
  .rw[aA (by rw[q])];simp[q]
  .rw[an (λz=>q (xt.mp z)),ih]
   simp[cV q]
section
variable {c:FC}{σ:AS}{Q:PV->AS->Prop}{E:aG->AS->Prop}{ev:bB}{w:aR}{b:am}{n:Nat}
theorem aO.booked(S:aO w b):BK b:=
 (aw (tv (jI (o2 w.params))) (uX (S.at 2 (o:=o2 w.params) (by kernel_rfl)) (by kernel_rfl) (by kernel_rfl)) (by kernel_rfl))
theorem RM{x y z:af}(hb:BK c.b0)(hc:jA x y 0 x.length (x.length+1)=[])(h:Q (.str x) σ):aM c (.val (.builtin "str.replace")) [.str x,.str y,.str z] [] [] σ Q E:=aM.blt λs vs I r=>by
 refine i9 (pU r) λv1 v2 v3 j1 j2 j3 j4=>?_;subst j1;refine aP j2 λt j5=>?_;clear j2;subst j5;refine aP j3 λu j6=>?_;clear j3;subst j6;refine aP j4 λv j7=>?_;clear j4;subst j7
 have e:((jA x y 0 x.length (x.length+1)).isEmpty||(y.length==0&&z.length==0))=true:=by rw[hc];rfl
 have g:=gives_str_replace2 x y z t u v λq=>by replace q:=e▸q;cases q
 replace g:=(aA e)▸g
 exact call_givesAt ZX (gW _ _ _) PySem.F.entry_str_replace (PySem.F.args_str_replace_3 _ _ _) g (let ⟨mc,h1,h2⟩:=hb;⟨mc,h1.keeps I.b0,h2⟩) ⟨.str x,σ,I,⟨_,rfl⟩,TK.refl _,h⟩
def Jm(l:List Nat)(Q:PV->AS->Prop)(E:aG->AS->Prop)(σ:AS):Doc->Prop
 | .ok es=>∀dd st A,st=A++σ.st->(dd,.bx (ents es))∈st->Q (.val (.ref dd)) {σ with st:=st}
 | .again e=>∀st A,st=A++σ.st->E (g0 (kC l e (lit "Cannot overwrite a value"))) {σ with st:=st}
 | .bad=>False
noncomputable def o9(xo dxo xn xf dn df dd f1 f2:aj)(es:List (List Nat×List Nat))(st:List (aj×AO)):List (aj×AO):=
 (xo,.raw (.ref 535) (some dxo) (.seq #[.ref xn,.ref xf]))::(dxo,.bx [])::(xf,.raw (.ref 427) (some df) .plain)::(df,.bx [(ae "_flags",.val (.ref f1)),(ae "_pending_flags",.val (.ref f2))])::(dd,.bx (ents es))::(xn,.raw (.ref 463) (some dn) .plain)::(dn,.bx [(ae "dict",.val (.ref dd))])::st
theorem Vn(P:Pl c ev w b (n+14))(S:aO w b)(qu:c.A.handled=none)(hG:c.gens=dP){l:List Nat}{f:Nat}(hl:l.length<2^24)(hr:jA (ms l) (ae "\r\n") 0 (ms l).length ((ms l).length+1)=[])
  (h:Jm l Q E σ (kH l f 0 [])):aM c (.val (.ref 375)) [.str (ms l)] [] [] σ Q E:=by
 have ho:=S.at 375 (o:=EP w.params) (by kernel_rfl)
 refine c_.call (P.b0▸ho) rfl (mG P (F:=yw) (cd:=zg) (np:=2) (ds:=[.val fl]) (vals:=[.str (ms l),.val fl,.al,.al,.al,.al,.al,.al]) ho rfl (codeRec_of (S.at 374 (o:=GF w.params) (by kernel_rfl)) rfl rfl) rfl (by kernel_rfl) (O8 S) Wb S.jK rfl rfl
  (λs vs kvs I rx rk=>by refine aP (uc rx) λa0 j1=>?_;subst j1;obtain rfl:=hW rk;exact(aw [fl] (aB.cons rfl aB.nil) (BR (K:=[(368,JE w.params)]) ((S.sg _ (by kernel_rfl) (sj (by kernel_rfl))).keeps (P.b0▸I.b0)) (λS=>by kernel_rfl) _ _ _ _ ⟨rfl,rfl⟩))) λΓ C P' G N=>?_)
 have qu':=C.ent.hd.trans qu
 have X:=P'.kx S
 have hG':Γ.c.gens=dP:=C.gens.trans hG
 unfold zg
 walk_at "n"
 walk_at "go"
 refine dh.replace ?_
 walk_at "go"
 refine RM (P'.b0▸S.booked) hr ?_
 walk_at "go"
 refine FW X (by kernel_rfl) (fI:=445) (by kernel_rfl) (by kernel_rfl) λxn dn A e1 e2 e3 hne h2 h3=>PO (n:=n) (P'.gP e1 e2 (by rw[e3];lia)) S λdd h4=>⟨rfl,?_⟩
 refine gK ‹_› ?_;walk_at "n"
 refine FW X (by kernel_rfl) (fI:=389) (by kernel_rfl) (by kernel_rfl) λxf df A e1 e2 e3 hne h2 h3=>UW (n:=n) (P'.gP e1 e2 (by rw[e3];lia)) S λf1 f2=>⟨rfl,?_⟩
 refine gK ‹_› ?_;walk_at "n"
 refine UD X (uk _) (by kernel_rfl) (by kernel_rfl) (p:=536) (f:=485) (rest:=[]) (by kernel_rfl) (by kernel_rfl) λA e1 e2 e3=>UZ (n:=n) (P'.gP e1 e2 (by rw[e3];lia)) S λxo dxo Z Z Z=>(ly xo _ _ rfl (.head _) ?_)
 refine ge (v:=[.str (ms l),.val fl,.str (ms l),.int (0:Nat),.al,.al,.al,.al]) (t:=o9 xo dxo xn xf dn df dd f1 f2 [] σ.st) G ?_
 walk_at "n"
 refine M1 P' S qu' ?_
 walk_at "go"
 have key:∀es st,C7 xo xn xf dd (ents es) (o9 xo dxo xn xf dn df dd f1 f2 es st):=λes st=>
  ⟨dxo,dn,df,f1,f2,.head _,.tail _ (.head _),.tail _ (.tail _ (.tail _ (.tail _ (.tail _ (.head _))))),.tail _ (.tail _ (.tail _ (.tail _ (.tail _ (.tail _ (.head _)))))),.tail _ (.tail _ (.head _)),.tail _ (.tail _ (.tail _ (.head _))),.tail _ (.tail _ (.tail _ (.tail _ (.head _))))⟩
 have app:∀es,o9 xo dxo xn xf dn df dd f1 f2 es σ.st=o9 xo dxo xn xf dn df dd f1 f2 es []++σ.st:=λZ=>rfl
 refine wh G (λq:Nat×Nat×PV×List (List Nat×List Nat)=>[.str (ms l),.val fl,.str (ms l),.int q.2.1,.val (.ref xo),.tup [],q.2.2.1,.al]) (λq=>o9 xo dxo xn xf dn df dd f1 f2 q.2.2.2 σ.st) (λq=>q.1) (λq=>q.2.1<=l.length/\q.2.2.2.length<=100000/\Jm l Q E σ (kH l q.1 q.2.1 q.2.2.2)) (f,0,.al,[]) ⟨cQ _,cQ _,h⟩ .refl λq I bC ec ck Le=>?_
 have b9:Pl bC.c bC.c.env w b (n+13):=ec▸P'
 have dN:bC.c.A.handled=none:=ec▸qu'
 have aaM:=b9.kx S
 obtain ⟨z,p,ch,es⟩:=q
 refine eO I λhp hle hs=>?_;clear I
 dsimp only at hp hle hs
 cases z with
 | zero=>exact hs.elim
 | succ z=>
 rewrite[kH] at hs
 walk_at "n"
 walk_at "go"
 refine nY b9 S dN S.r8 (by decide +kernel) (by exact bQ ‹_› (by decide)) hp ?_
 walk_at "go"
 refine mu b9.ok dN (by have:=rH (L:=bG) hp;exact bQ (bL ‹_› ‹_›) (by decide)) (λu hu=>?_) (λhu=>?_)
 .replace hs:=hu▸hs
  dsimp only at hs
  have hlt:bu l bG p<l.length:=(dY.mp hu).1
  walk_at "go";refine gL ?_;walk_at "go"
  refine Br.mk (λhb=>?_) (λhb=>?_)
  .replace hs:=(aA (by simpa using eq_of_beq hb))▸hs
   refine gr ?_;walk_at "go"
   exact Le.cnt _ _ .refl (zF (z,bu l bG p+1,.str (ms [u]),es) rfl rfl (dm _) hlt hle hs)
  rewrite[an (λz=>by rw[z] at hb;exact absurd hb (by decide))] at hs
  by_cases h34:u≠34
  .replace hs:=(aA h34)▸hs;exact hs.elim
  replace hs:=(an h34)▸hs
  obtain rfl:u=34:=iW h34
  walk_at "go"
  cases hbs:b4 false l (l.length+1) (bu l bG p+1) [] with
  | err=>replace hs:=hbs▸hs;exact hs.elim
  | bad=>replace hs:=hbs▸hs;exact hs.elim
  | ok q t=>
  replace hs:=hbs▸hs
  dsimp only at hs
  by_cases hc1:l[bu l bG q]?≠some 61\/l[bu l bG (bu l bG q+1)]?≠some 34
  .replace hs:=(aA hc1)▸hs;exact hs.elim
  replace hs:=(an hc1)▸hs
  have h61:l[bu l bG q]?=some 61:=iW λz=>hc1 (.inl z)
  cases hv:eP l (bu l bG (bu l bG q+1)) with
  | err=>replace hs:=hv▸hs;exact hs.elim
  | bad=>replace hs:=hv▸hs;exact hs.elim
  | ok e v=>
  replace hs:=hv▸hs
  dsimp only at hs
  refine tW (L:=pP) (by rw[b9.w,b9.b0];exact S.Sc) (by decide +kernel) ?_
  rw[show pP.contains (ms [34])=true by decide +kernel]
  walk_at "go"
  have he:ents es++[(ms t,.str (ms v))]=ents (es++[(t,v)]):=(mO (l₁:=es) (l₂:=[(t,v)])).symm
  refine Qk (xn:=xn) (xf:=xf) (dd:=dd) (es:=ents es) b9 S dN (ec▸hG') hl hu hbs h61 (iW λz=>hc1 (.inr z)) hv ?_ ?_ (aw (o9 xo dxo xn xf dn df dd f1 f2 (es++[(t,v)]) σ.st) ?_ (λhno=>?_)) λhi=>?_
  .exact key es σ.st
  .unfold ents;rw[db];exact hle
  .rw[he]
   exact .tail (.tail (.tail (.tail .head)))
  .rewrite[an (λhm=>by have:=HV (t:=t) (es:=es);rw[hno,decide_eq_true hm] at this;cases this)] at hs
   by_cases hc2:l[bu l bG e]?≠some 10\/100000<=es.length
   .replace hs:=(aA hc2)▸hs;exact hs.elim
   replace hs:=(an hc2)▸hs
   have h10:l[bu l bG e]?=some 10:=iW λz=>hc2 (.inl z)
   have hl2:bu l bG e<l.length:=(dY.mp h10).1
   have hge:=mB l bG e
   refine gK ‹_› ?_;walk_at "n"
   refine nY b9 S dN S.r8 (by decide +kernel) (by exact bQ ‹_› (by decide)) (by lia) ?_
   walk_at "go"
   refine US b9 S dN hl h10 (by decide) ?_
   walk_at "go"
   refine vq b9.ok dN (by exact bQ (fG ‹_› ‹_›) (by decide)) h10 ?_
   walk_at "go";refine oj ?_;walk_at "go"
   refine Br.mk (λhb=>absurd hb (by decide)) (λhb=>?_)
   refine gr ?_;walk_at "go"
   exact Le.dW _ _ .refl (zF (z,bu l bG e+1,.str (ms [10]),es++[(t,v)]) rfl rfl (dm _) hl2 (by dsimp only;rw[bt,kn];exact(m4 λz=>hc2 (.inr z))) hs)
  .replace hi:=HV▸hi
   replace hs:=(aA (of_decide_eq_true hi))▸hs
   walk_at "go";refine f0.exc ‹_› ?_;walk_at "go";refine e_.exc ‹_› ?_
   exact hs _ _ (app es)
 .replace hs:=hu▸hs
  dsimp only at hs
  walk_at "go"
  refine pi ck rfl (λp=>vg b9 (b9.b0▸ck.gl 6 _ rfl)) λi8 H iH A=>?_
  walk_at "n"
  refine nr.f ‹_› ?_;walk_at "go";refine f0.brk ‹_› ?_;walk_at "go"
  refine HW P' S qu' (x:=xo) (dx:=dxo) (u:=.ref xn) (v:=.ref xf) (.head _) (.tail _ (.head _)) rfl ?_
  walk_at "go"
  refine GZ X (.tail _ (.tail _ (.tail _ (.tail _ (.tail _ (.head _)))))) (.tail _ (.tail _ (.tail _ (.tail _ (.tail _ (.tail _ (.head _))))))) rfl (by kernel_rfl) (by kernel_rfl) (attr:=none) (by kernel_rfl) rfl (pv:=.val (.ref dd)) (by kernel_rfl) (λh v e=>by cases e;rfl) ?_
  walk_at "go"
  exact hs dd _ _ (app es) (.tail _ (.tail _ (.tail _ (.tail _ (.head _)))))
end
end
noncomputable def ji(us:aW)(u:Nat):aW:=if us.isEmpty then[([u],u)] else us
noncomputable def gB:List Nat:=lit "ab\"\\\n \té"
noncomputable def bJ(total:Int):List Nat:=[gB.getD (total%8).toNat 0]++(if((total/8)%2).toNat=1 then[gB.getD ((total/16)%8).toNat 0] else[])
noncomputable def newOf(total:Int):aW:=ji (fm (1+(total%3).toNat/2*2) false (1+(total%3).toNat/2*2+1) ((total/128)%262144).toNat []) 98
noncomputable def gH(x:Int):Bool:=decide ((x%2).toNat=1)
noncomputable def nameOf(x:Int):aW:=ji (fm 3 false 4 (x.natAbs/2/4096%262144) []) 97
noncomputable def fL(x:Int):aW:=fm 2 (gH x) 3 (x.natAbs/2%4096) []++fm 4 (gH x) 5 (x.natAbs/2/4096/262144) []
noncomputable def uO(old new t:List Nat):List Nat:=(wX (ms t) (ms old) (ms new)).cps.toList
noncomputable def rowsOf(l:List Nat):List af:=kW (ms l.dropLast) (ms [10])
noncomputable def words(l:List Nat):List Nat:=lit "Cannot overwrite a value (at line "++fu ((rowsOf l).length:Nat)++lit ", column "++fu (((rowsOf l).getLast?.getD (ms [])).cps.toList.length+1:Nat)++lit ")"
structure LS where
 src:List Nat
 b8:List Nat
 names:List (List Nat)
 gF:List (List Nat×List Nat)⊕List Nat
noncomputable def dO(old:List Nat)(new:aW)(us:aW):aW:=d7 old new (us.length+1) us
noncomputable def pairOf(old:List Nat)(new:aW)(x:Int):List Nat×List Nat:=(uO old (aY new) (aY (nameOf x)),uO old (aY new) (aY (fL x)))
noncomputable def yj(x:Int):List Nat:=rowOf (nameOf x) (fL x) (gH x)
noncomputable def lB(old:List Nat)(new:aW)(x:Int):List Nat:=rowOf (dO old new (nameOf x)) (dO old new (fL x)) (gH x)
noncomputable def nX(old:List Nat)(new:aW)(x:Int)(b8:List Nat):List (List Nat×List Nat)⊕List Nat->List (List Nat×List Nat)⊕List Nat
 | .inr w=>.inr w
 | .inl ps=>if(ps.map dq).contains (pairOf old new x).1 then .inr (words b8) else .inl (ps++[pairOf old new x])
noncomputable def oo(old:List Nat)(new:aW)(x:Int)(s:LS):LS:=
 if s.names.contains (aY (nameOf x)) then s else
 ⟨s.src++yj x,s.b8++lB old new x,s.names++[aY (nameOf x)],nX old new x (s.b8++lB old new x) s.gF⟩
noncomputable def fp(old:List Nat)(new:aW):List Int->LS->LS
 | [],s=>s
 | x::xs,s=>fp old new xs (oo old new x s)
structure r0(old:List Nat)(new:aW)(s:LS):Prop where
 W0:iR s.src old (srcOf new) (s.src.length+1) 0 false []=some s.b8
 S_:jA (ms s.b8) (ae "\r\n") 0 (ms s.b8).length ((ms s.b8).length+1)=[]
 doc:∃f,match kH s.b8 f 0 [] with
  | .ok es=>s.gF = .inl es/\(es.map dq).Nodup
  | .again e=>s.gF = .inr (kC s.b8 e (lit "Cannot overwrite a value"))
  | .bad=>False
noncomputable def Small(n:Nat)(us:aW):Prop:=us.length<=n/\∀p∈us,p.1.length<=10
theorem UP(up:Bool)(u:Nat):(lA up u).length=8:=rfl
theorem PJ(r:Nat):(ny r).length<=4:=by
 unfold ny;split <;> simp
theorem PS(many:Bool)(left digit:Nat):(fM many left digit).length<=10:=by
 unfold fM
 have h2:=PJ (left%4)
 repeat' split
 all_goals simp only[bt,kb,b_,i7,(UP (left%2==1) (signOf digit))];lia
theorem VX(acc:aW){s:List Nat}(h:s.length<=10):(lr acc s).length<=10:=by
 unfold lr;split
 .simp
 .exact h
theorem lm(most:Nat)(many:Bool):∀(f left:Nat) (acc:aW),Small most acc->Small most (fm most many f left acc)
 | 0,_,_,h=>h
 | f+1,left,acc,h=>by
  rw[fm]
  split
  .rename_i z
   refine lm most many f _ _ ⟨by simp;lia,λp hp=>?_⟩
   rcases jp.mp hp with hp | hp
   .exact h.2 p hp
   .rw[eX.mp hp];exact VX _ (PS _ _ _)
  .exact h
theorem Small.nil(n:Nat):Small n []:=⟨cQ _,λp hp=>nomatch hp⟩
theorem Small.app{n m:Nat}{a b:aW}(x:Small n a)(y:Small m b):Small (n+m) (a++b):=
 ⟨by rw[bt];have:=x.1;have:=y.1;exact fx ‹_› ‹_›,λp hp=>by rcases jp.mp hp with h | h;exact x.2 p h;exact y.2 p h⟩
theorem Small.or{n:Nat}{a:aW}(x:Small n a)(u:Nat)(hn:1<=n):Small n (ji a u):=by
 unfold ji;split
 .exact⟨hn,λp hp=>by rw[eX.mp hp];simp⟩
 .exact x
theorem Small.mono{n m:Nat}{a:aW}(x:Small n a)(h:n<=m):Small m a:=⟨aJ x.1 h,x.2⟩
theorem Small.src{n:Nat}{a:aW}(x:Small n a):(srcOf a).length<=10*n:=by
 have:∀(a:aW),(∀p∈a,p.1.length<=10)->(srcOf a).length<=10*a.length:=by
  intro a
  induction a with
  | nil=>intro Z;exact cQ _
  | cons p a ih=>
   intro h
   have:=ih λq hq=>h q (.tail _ hq)
   have:=h p (.head _)
   unfold srcOf at *
   rw[cJ,By,bt,b_]
   rw[Z9,pY];exact fx (by assumption) (by assumption)
 exact aJ (this a x.2) (oU _ x.1)
theorem yd{old:List Nat}{new:aW}{m:Nat}(ho:0<old.length)(hn:Small m new)(hm:1<=m):∀(f:Nat) (us:aW),(∀p∈us,p.1.length<=10)->Small (m*us.length) (d7 old new f us)
 | 0,us,_=>by unfold d7;exact Small.nil _
 | f+1,[],_=>by unfold d7;exact Small.nil _
 | f+1,u::us,h=>by
  rw[n_]
  split
  .refine(hn.app (yd ho hn hm f ((u::us).drop old.length) λp hp=>h p (BW hp))).mono ?_
   rw[b_,BV,Ma,pY]
   exact iG (oU _ (by simp;exact jC ‹_›)) _
  .have ih:=yd ho hn hm f us λp hp=>h p (.tail _ hp)
   refine⟨?_,λp hp=>?_⟩
   .have:=ih.1
    rw[b_,b_,BV,Ma];exact fx ‹_› ‹_›
   .rcases cB.mp hp with rfl | hp
    .exact h _ (.head _)
    .exact ih.2 p hp
theorem ue(x:Int):Small 3 (nameOf x):=(lm 3 false _ _ _ (Small.nil _)).or _ (by decide)
theorem tV(x:Int):Small 6 (fL x):=(lm 2 _ _ _ _ (Small.nil _)).app (lm 4 _ _ _ _ (Small.nil _))
theorem t_(t:Int)(k:Nat)(h:0<k):(t%k).toNat<k:=(XG (JZ _ (Int.ofNat_ne_zero.mpr (lR h)))).mpr (XH _ (wD.mpr h))
theorem Df(t:Int):(t%3).toNat/2<=1:=jj (Ak (fG (t_ t 3 (by decide)) (by decide)))
theorem ng(t:Int):Small 3 (newOf t):=by
 exact((lm _ false _ _ _ (Small.nil _)).or _ (by exact dX _ _)).mono (eG (Mb 2 (Df t)) 1)
theorem pt(t:Int):0<(bJ t).length/\(bJ t).length<=2:=by
 unfold bJ;split <;> simp
theorem l_{old:List Nat}{new us:aW}{n:Nat}(ho:0<old.length)(hn:Small 3 new)(hu:Small n us):Small (3*n) (dO old new us):=
 (yd ho hn (by decide) _ us hu.2).mono (oU _ hu.1)
theorem uN{us ts:aW}{many:Bool}{n m:Nat}(hu:Small n us)(ht:Small m ts):(rowOf us ts many).length<=10*n+10*m+13:=by
 have h1:=hu.src
 have h2:=ht.src
 have h3:(bq many).length<=4:=by cases many <;> decide
 have h4:(bp many).length<=3:=by cases many <;> decide
 have h5:(lit "\" = ").length=4:=by decide +kernel
 unfold rowOf
 simp only[bt,b_,i7,h5]
 lia
section
section
variable {F:Fn}{Γ:Gm F}{σ:AS}{d:Dn}{v v':List PV}{t:List (aj×AO)}{E:aG->AS->Prop}
noncomputable def kI(Γ:Gm F)(e:Ce)(σ:AS)(Q:af->AS->Prop)(E:aG->AS->Prop):Prop:=∀x,F.rb e x=x->gn Γ.c x σ Q E
theorem GH{l:List Nat}{Q:af->AS->Prop}(h:Q (ms l) σ):kI Γ (.str l) σ Q E:=λx hx=>by rw[<-hx];exact gn.str h
theorem MG{a b:Ce}{Q:af->AS->Prop}(H:kI Γ a σ (λx τ=>kI Γ b τ (λy τ=>x.length+y.length<=bN/\Q (x++y) τ) E) E):kI Γ (.o2 (.bin .Add) a b) σ Q E:=λx h=>by
 have e1:=aI (λx=>F.rb a (k1 x)) h
 rw[<-h]
 exact V5 ((H _ e1).mid λZ Z q=>q _ (aI (λx=>F.rb b (k2 x)) h))
theorem Gf{a b:Ce}{Q:af->AS->Prop}(hb:b.odd=false\/b.isCall=true)(H:bK Γ a σ (λx τ=>bK Γ b τ (λy τ=>∃l n u,x = .str (ms l)/\y = .int ((n:Nat):Int)/\n<2^62/\l[n]?=some u/\Q (ms [u]) τ) E) E):kI Γ (.o2 .sub a b) σ Q E:=λx h=>by
 have e1:=aI (λx=>F.rb a (k1 x)) h
 have e2:=aI (λx=>F.rb b (k2 x)) h
 rw[<-h]
 exact gn.sub (ik e2 hb).s ((H _ e1).mn λZ Z q=>q _ e2)
theorem Uv{c a b:Ce}{Q:af->AS->Prop}(H:iU Γ c σ (λβ τ=>Br β (kI Γ a τ Q E) (kI Γ b τ Q E)) E):kI Γ (.iQ c a b) σ Q E:=λx h=>by
 have e1:=aI (λx=>F.rb c (k1 x)) h
 have e2:=aI (λx=>F.rb a (k2 x)) h
 rw[<-h]
 exact Tt ((H _ e1).mn λZ Z q=>Br.mn q (λz=>z _ e2) λz=>z _ (aI (λx=>F.rb b (k3 x)) h))
theorem Good.at{c:FC}(G:Good c F)(t:Nat):Good (c.at t) F:=⟨G.ok.at t,G.lo,G.gl,G.H,G.hC⟩
theorem Dt{i:Nat}{e:Ce}{r:Cs}(G:Good Γ.c F)(he:e.odd=false\/e.isCall=true)
  (H:kI Γ e (F.at v t) (λy τ=>τ=F.at v t/\∀tk,Γ.c.T<=tk->∃z v',(∀h,RV h z (.str y tk))/\nj z=false/\g8 v i z=some v'/\bl (⟨Γ.c.at (tk+1),Γ.R,Γ.E⟩:Gm F) r (F.at v' t) d.f d.x) d.x):bl Γ (.asg i e r) (F.at v t) d.f d.x:=λl hl=>by
 have el : .Assign [F.b6 i (hD l).t] (F.rb e (hD l).e) (hs l).pos::F.bw r l.tail=l:=hl
 have N1:F.b6 i (F.b6 i (hD l).t)=F.b6 i (hD l).t:=aI (λl:List bA=>F.b6 i (hD l).t) el
 have e1:F.rb e (F.rb e (hD l).e)=F.rb e (hD l).e:=aI (λl:List bA=>F.rb e (hD l).e) el
 have r1:F.bw r (F.bw r l.tail)=F.bw r l.tail:=aI (λl:List bA=>F.bw r l.tail) el
 refine br (hX N1) λx n1 n2 n3=>?_
 rw[<-el,<-n3]
 intro s I
 refine wn (KF (bn (H _ e1 s I) (λw ay p=>?_) λZ Z z=>z) ((ik e1 he).w _ _ _))
 cases p with | mk y tk aq ew a1 b1 aQ k₁ a7=>
 subst ew
 refine aN a7 λj1 q=>?_;clear a7;subst j1
 refine lH (q tk a1) λz v' hz Z hv hq=>?_
 have hset:(F.at v t).set x z=F.at v' t:=by have:=lz (t:=t) G (by unfold Fn.has;rw[n2,n1]) hv;rwa [n2] at this
 refine bn (nk (c:=Γ.c.at (tk+1)) (aV:=ay) (Q:=λZ σ=>σ=F.at v' t) (E:=d.x) (G.ok.at _) (G.lo _ _ n1).ok (aQ.raise b1) (pv:=z) (hz _) (TK.refl _) hset) (λZ bc p=>p.elim λZ a8 a_ Z Z bz=>?_) λZ Z z=>EPost.lower (kV a1) z
 subst bz
 exact bn (hq _ r1 bc a_) (λf bg p=>p.elim λy dT dM gY fz=>⟨y,dT,dM.lower (kV a1),gY.lower,fz⟩) λZ Z z=>EPost.lower (kV a1) z
theorem U4{l:List Nat}{Q:PV->AS->Prop}(h:Q (cR Γ.c.T l) σ):bK Γ (.str l) σ Q E:=λx hx=>by
 rw[<-hx]
 exact λs I=>oF ⟨cR Γ.c.T l,σ,I.tok _,(aw _ rfl I.tk),TK.refl _,h⟩
theorem CZ{a:Ce}{u:Nat}{Q:PV->AS->Prop}(H:bK Γ a (F.at v t) (λx τ=>∃m us,x = .val (.ref m)/\τ=F.at v ((m,.lst (bF Γ.c.T us))::t)/\us.length<=1000/\∀m' st',((m',AO.lst (bF Γ.c.T (ji us u)))::t).Sublist st'->Q (.val (.ref m')) (F.at v st')) E) :
  bK Γ (.kB .Or (.cons a (.cons (.lst (.cons (.tup (.cons (.str [u]) (.cons (.str [u]) .nil))) .nil)) .nil))) (F.at v t) Q E:=
 Gc (Hj (λx hx=>(H x hx).mn λy τ p=>by
  refine lH p λm us j1 j2 hl h=>?_;clear p;subst j1;subst j2
  refine IX (xs:=bF Γ.c.T us) (.head _) (by rw[gt];exact bL ‹_› (by decide)) ?_
  have he:(bF Γ.c.T us).isEmpty=us.isEmpty:=by cases us <;> rfl
  rw[he]
  refine Br.mk (λhb=>?_) (λhb=>?_)
  .have:ji us u=us:=by unfold ji;rw[an (by exact bi_not.mp hb)]
   replace h:=this▸h
   exact h m _ (qF _)
  .have:ji us u=[([u],u)]:=by unfold ji;rw[aA (by exact true_of_not_false hb)]
   replace h:=this▸h
   exact Jc (yR rfl (dE (vd rfl (dE (yI (dE (U4 (gz (gz λm' Z=>h m' _ (.cons_cons _ (.cons _ (.refl _))))))))))))))
theorem d6.sub{c:FC}{t':List (aj×AO)}(h:nW t t'):d6 c (F.at v t') (F.at v t):=λZ I=>I.U0 h
theorem Os{s:bA}{i k x:Nat}{Hb r:Cs}(G:Good Γ.c F)
  (hx:Stmt.Try [.Assign [F.b6 i (sD (hs (sD s).a)).t] (sD (hs (sD s).a)).e (hs (sD s).a).pos] [.ExceptHandler (some (.Name (F.glob x) (sD s).p)) (some (F.name k)) (F.bw Hb (sD s).h) (sD s).q] [] [] s.pos=s) (hf:Hb.rJ=false)
  (hw:∀t n e,lW (sD (hs (sD s).a)).e t n e=pure false) (hh:F.has k) (hk:Γ.c.env.kindOf (F.name k)=some .local) (hcl:Γ.c.cells.lookup (F.name k)=none)
  (h:Ev Γ.c (sD (hs (sD s).a)).e (F.at v t) (λy τ=>∃v1 t1 v2,τ=F.at v1 t1/\g8 v1 i y=some v2/\bl Γ r (F.at v2 t1) d.f d.x)
   (λy τ=>∃v1 t1,τ=F.at v1 t1/\(∀p,gG Γ.c y (.Name (F.glob x) p) τ true)/\∀Γ':Gm F,kZ Γ.c y Γ'.c->Good Γ'.c F->∀e,Γ'.c.A.handled=some (.ref e)->∃v2,g8 v1 k (.val (.ref e))=some v2/\
    ((∀v3 t3,(∀z,∃v4,g8 v3 k z=some v4/\bl Γ r (F.at v4 t3) d.f d.x)->Γ'.R .next (F.at v3 t3))->vS Γ' 99 Hb v2 t1 .top))) :
  bl Γ (.raw s r) (F.at v t) d.f d.x:=by
 have N1:F.b6 i (F.b6 i (sD (hs (sD s).a)).t)=F.b6 i (sD (hs (sD s).a)).t:=aI (λs=>F.b6 i (sD (hs (sD s).a)).t) hx
 have e1:F.bw Hb (F.bw Hb (sD s).h)=F.bw Hb (sD s).h:=aI (λs=>F.bw Hb (sD s).h) hx
 refine br (hX N1) λnm n1 n2 n3=>?_
 have hkh:∀{a b:List PV} {z:PV},g8 a k z=some b->∀t,(F.at a t).set (F.name k) z=F.at b t:=λe Z=>lz G hh e
 refine yL ((aI (λz=>Ex Γ.c z (F.at v t) (dk Γ r d) d.x) hx).mp (Ex.try G.ok ?_))
 rw[<-n3]
 refine dC.cons ((Ex.assign (Q:=λf τ=>f = .next/\dk Γ r d .next τ) G.ok (hw _ _ _) (G.lo _ _ n1).ok ?_).mn λf τ q=>?_)
 .refine Ev.mono h (λy τ p=>?_) λy τ p=>?_
  .refine io p λv1 t1 v2 j1 hv q=>?_;clear p;subst j1
   have z:=lz (t:=t1) G (by unfold Fn.has;rw[n2,n1]) hv
   replace z:=n2▸z
   exact⟨rfl,by rw[z];exact q⟩
  .refine bM p λv1 t1 e hc q=>?_;clear p
   have nf:∃a q,F.bw Hb (sD s).h=a::q:=by
    cases Hb with
    | fin=>cases hf
    | mark=>cases hf
    | _=>exact(jW _ _ rfl)
   refine dV nf λa l hl=>?_;clear nf
   rw[hl] at e1 |-
   refine .GX (hc _) hk hcl λc' e' H he=>?_
   subst e
   refine aC (q ⟨c',λf τ=>f = .next/\∀z,dk Γ r d .next (τ.set (F.name k) z),λZ Z=>False⟩ H (G.ga H) e' he) λv2 hv2 q=>?_
   rw[hkh hv2]
   exact(so (G.ga H) 99).s (q λv3 t3 w=>⟨rfl,λz=>let ⟨v4,a1,a2⟩:=w z;by rw[hkh a1];exact a2⟩) _ e1
 .refine(λj1=>?_) q;clear q;refine aN j1 λe q=>?_;clear j1
  subst e
  exact dC.nil (dC.nil q)
end
end
section
noncomputable def GL(c:FC):Gm cg:=⟨c,λf Z=>f = .ret (.bool true),λZ Z=>False⟩
theorem WP{F:Fn}{Γ:Gm F}{x:aL}{a:Ce}{op:qp}{σ:AS}{Q:Bool->AS->Prop}{E:aG->AS->Prop}(hx:LZ (F.rb a (k1 x)) [op] [k2 x] x.pos=x)(hm:wm op (k2 x)=false)
  (H:bK Γ a σ (λy τ=>Ev Γ.c (k2 x) τ (λz τ=>U2 Γ.c RV (ce op) y z τ (λz τ=>U1 Γ.c fw eZ z τ Q E) E) E) E):Et Γ.c x σ Q E:=by
 rw[<-hx]
 exact Fs hm (H _ (aI (λx=>F.rb a (k1 x)) hx))
theorem V2(a:List (List Nat))(x:List Nat):cY (a++[x])=cY a++[.str (ms x)]:=mO
theorem yx{c:FC}{σ:AS}{f y z:PV}{x:af}{P:Nat->Prop}{Q:PV->AS->Prop}{E:aG->AS->Prop}(h:aM c f [y,.str x,z] [] [] σ Q E):aM c f [y,.d_ x P,z] [] [] σ Q E:=λs fv vs kvs I rf rx rk=>h s fv vs kvs I rf (by
 refine i9 (pU rx) λa b d e h1 j1 h3=>?_;refine aC j1 λt h2 Z=>?_;clear j1
 rw[e]
 exact aB.cons h1 (aB.cons ⟨t,h2⟩ (aB.cons h3 aB.nil))) rk
theorem E0(x:af)(cuts:List Nat)(w:Nat):(tr x cuts w).length=cuts.length+1:=by
 unfold tr;simp
theorem Rr(l:List Nat):1<=(rowsOf l).length/\(rowsOf l).length<=l.length+2:=by
 unfold rowsOf kW
 have h1:=aab (ms l.dropLast) (ms [10]) 0 (ms l.dropLast).length ((ms l.dropLast).length+1)
 have h2:l.dropLast.length<=l.length:=by rw[BX];exact lI _ _
 replace h1:=(bP ..)▸h1
 split
 .simp
 .split
  .simp
  .rw[E0,bP];lia
theorem split_le{x y p:af}(h:p∈kW x y):p.length<=x.length:=by
 unfold kW at h
 split at h
 .rw[eX.mp h];exact bk _
 .split at h
  .rw[eX.mp h];exact bk _
  .unfold tr at h
   refine aC (cO.mp h) λq Z j1=>?_;subst j1
   unfold Builtin.Str.strSub Str.length
   simp
   exact aJ (kU _ _) (dX _ _)
theorem Oo(l:List Nat):((rowsOf l).getLast?.getD (ms [])).cps.toList.length<=l.length:=by
 cases h:(rowsOf l).getLast? with
 | none=>simp[ms]
 | some p=>
  have:=split_le (List.mem_of_getLast? h)
  replace this:=BX▸bP l.dropLast▸this
  show p.cps.toList.length<=_
  exact(by exact KWk.len_list:p.length=p.cps.toList.length)▸aJ this (lI _ _)
theorem Wi(l:List Nat):words l=[67,97,110,110,111,116,32,111,118,101,114,119,114,105,116,101,32,97,32,118,97,108,117,101,32,40,97,116,32,108,105,110,101,32]++fu ((rowsOf l).length:Nat)++[44,32,99,111,108,117,109,110,32]++fu (((rowsOf l).getLast?.getD (ms [])).cps.toList.length+1:Nat)++[41]:=by
 unfold words
 rw[show lit "Cannot overwrite a value (at line " = [67,97,110,110,111,116,32,111,118,101,114,119,114,105,116,101,32,97,32,118,97,108,117,101,32,40,97,116,32,108,105,110,101,32] by decide +kernel,show lit ", column " = [44,32,99,111,108,117,109,110,32] by decide +kernel,show lit ")" = [41] by decide +kernel]
theorem Ha{old:List Nat}{new:aW}{x:Int}{l:List Nat}{ps:List (List Nat×List Nat)}:nX old new x l (.inl ps)=if(ps.map dq).contains (pairOf old new x).1 then .inr (words l) else .inl (ps++[pairOf old new x]):=rfl
theorem PR{c:FC}{w:aR}{b:am}{n:Nat}{sc:dA}(P:Pl c c.env w b n)(S:aO w b)(hs:c.env.scope=sc)(hl:(cg.nm.zipIdx.all λp=>qS sc cg.nm p.1 p.2)=true)(hg:(cg.gs.all λp=>tL sc p.1)=true):Good c cg:=
 ⟨P.ok,λi x h=>Lo.of P.ok.ton6 hs (fE.mp hl (x,i) (Z5.mpr h)),λj p h=>have m:=qB h;Gl.of hs (fE.mp hg p m) (P.b0▸OE S p m),P.fP,P.b0▸S.jK⟩
theorem Pm:gB=[97,98,34,92,10,32,9,233]:=by decide +kernel
theorem signs_at(x:Int):gB[(x%8).toNat]?=some (gB.getD (x%8).toNat 0):=by
 have h1:(x%8).toNat<8:=t_ x 8 (by decide)
 have h2:gB.length=8:=by decide +kernel
 rw[Z6,qa (by exact bQ ‹_› (by decide))];rfl
noncomputable def KT(P:az):bE:=[(364,zZ P),(363,uD P)]
theorem aO.kt{w:aR}{b:am}(S:aO w b):(KT w.params).In b:=S.sg _ (by kernel_rfl) (sj (by kernel_rfl))
theorem NO(P:az):uo (KT P) 364:=⟨by kernel_rfl,by kernel_rfl⟩
def FZ(dd:aj)(k:Nat)(gF:List (List Nat×List Nat)⊕List Nat)(dl:List PV)(dv:PV):Prop:=match gF with
 | .inl ps=>dv = .val (.ref dd)/\dl=ps.map (λp=>ft (ms p.1,ms p.2))/\ps.length+k<=65
 | .inr w=>dv = .str (ms w)
section
variable {w:aR}{b:am}{n:Nat}{t:List (aj×AO)}
structure q8(T:Nat)(old:List Nat)(new:aW)(xs0:List Int)(dd nm it m:aj)(t:List (aj×AO))(ys:List Int)(s:LS)(dl:List PV)(dv:PV)(st:List (aj×AO)):Prop where
 run:fp old new ys s=fp old new xs0 ⟨[],[],[],.inl []⟩
 len:ys.length<=65
 names:s.names.length+ys.length<=65
 src:s.src.length+103*ys.length<=6695
 b8:s.b8.length+283*ys.length<=18395
 gF:FZ dd ys.length s.gF dl dv
 st:nW ((dd,.lst dl)::(nm,.lst (cY s.names))::(it,.lst (xs0.map PV.int))::(m,.lst (bF T new))::t) st
set_option genInjectivity false in
structure LQ where
 s:LS
 dl:List PV
 dv:PV
 v1:PV
 v2:PV
 v3:PV
 v4:PV
 v5:PV
 v6:PV
 v7:PV
 v8:PV
 v9:PV
 st:List (aj×AO)
noncomputable def LQ.vs(q:LQ)(sc m nm:aj)(total:Int)(t0:Nat):List PV:=[.val (.ref sc),.int total,.str (ms gB),.d_ (ms (bJ total)) (λt'=>t'=t0),.val (.ref m),.str (ms q.s.src),.str (ms q.s.b8),.val (.ref nm),q.dv,q.v1,q.v2,q.v3,q.v4,q.v5,q.v6,q.v7,q.v8,q.v9,.al,.al,.al]
noncomputable def pI:Ce:=.call (.gl 13) (.cons (.loc 18) .nil) .nil
noncomputable def Wx:Ce:=.call (.gl 8) (.cons (.g_ pI (ae "items") .nil) .nil) .nil
theorem Oq{Γ:Gm cg}{e:aL}{v:List PV}{t:List (aj×AO)}{x:af}{Q:PV->AS->Prop}{E:aG->AS->Prop}(P:Pl Γ.c Γ.c.env w b n)(S:aO w b)(qu:Γ.c.A.handled=none)(G:Good Γ.c cg)(hx:cg.rb Wx e=e)(hv:eU v 18 = .str x)
  (h:aM Γ.c (.val (.ref 375)) [.str x] [] [] (cg.at v t) (λx aq=>∃d es,x = .val (.ref d)/\(d,.bx es)∈aq.st/\(es.map dq).Nodup/\es.length<=100000/\∀m,(∀ao,(m,ao)∉aq.st)->Q (.val (.ref m)) {aq with st:=(m,.lst (mJ es))::aq.st}) E):Ev Γ.c e (cg.at v t) Q E:=by
 have e1:cg.rb pI (cg.rb pI (k1 (k1 (hd (eD e).1.tail))))=cg.rb pI (k1 (k1 (hd (eD e).1.tail))):=by
  have z:=aI (λe=>cg.rb pI (k1 (k1 (hd (eD e).1.tail)))) hx
  exact z
 rw[<-hx]
 exact PX P (P.b0▸G.gl 8 _ rfl) rfl (beq_self_eq_true _) qu (by rw[P.b0];show b.get? 1≠none;rw[S.at 1 (o:=o1 w.params) (by kernel_rfl)];nofun) ((s_call rfl rfl (jF G (dE (du G (by rw[hv];rfl) (gz (nh (hv▸h)))))):bK Γ pI _ _ _) _ e1)
theorem MJ{c2:FC}{sc m dd nm it:aj}{total:Int}{t0:Nat}{xs0:List Int}{q:LQ}(P2:Pl c2 c2.env w b (n+19))(S:aO w b)(hk2:c2.env.scope=fS (stN 78))(qu2:c2.A.handled=none)(hG2:c2.gens=dP)(hu2:c2.A.units+7<gX)(G2:Good (GL c2).c cg)
  (H:r0 (bJ total) (newOf total) (fp (bJ total) (newOf total) xs0 ⟨[],[],[],.inl []⟩)) (L:q8 c2.T (bJ total) (newOf total) xs0 dd nm it m t [] q.s q.dl q.dv q.st) :
  bl (GL c2) yh (cg.at (q.vs sc m nm total t0) q.st) (D (GL c2) .top).f (D (GL c2) .top).x:=by
 refine bl.wk (d6.sub L.st) ?_
 have zs:bN=16777216:=eW
 have hnew:=ng total
 have hol:=pt total
 have hnl:=hnew.1
 have hrun:q.s=fp (bJ total) (newOf total) xs0 ⟨[],[],[],.inl []⟩:=L.run
 replace H:=(bR hrun:_)▸H
 have hsrc:=L.src
 have hdsrc:=L.b8
 rw[i7] at hsrc hdsrc
 have k_error:c2.env.kindOf (ae "error")=some .local:=by unfold oN;rw[hk2];kernel_rfl
 have hcl:c2.cells.lookup (ae "error")=none:=(G2.lo 20 _ rfl).ok.elim (λz=>z.2) λz=>nomatch k_error.symm.trans z.1
 refine(so G2 99).s (k:=.top) ?_
 unfold yh LQ.vs
 walk_at "n"
 refine tU P2 S qu2 (us:=newOf total) (.tail _ (.tail _ (.tail _ (.head _)))) (by exact aJ ‹_› (by decide)) (by have:=hnew.src;exact aJ ‹_› (by decide)) ?_
 walk_at "go"
 refine yx (Vv P2 S qu2 (by exact bL (cN ‹_›) (by decide)) (by exact aJ ‹_/\_›.2 (by decide)) (by have:=hnew.src;exact aJ ‹_› (by decide)) ?_)
 rw[H.W0]
 unfold kJ
 walk_at "go"
 refine Os (i:=19) (k:=20) (x:=14) (Hb:=.asg 19 (.call (.gl 9) (.cons (.loc 20) .nil) .nil) .fin) G2 (by kernel_rfl) rfl (λZ Z Z=>by kernel_rfl) rfl k_error hcl ?_
 refine Oq (x:=ms q.s.b8) P2 S qu2 G2 (by kernel_rfl) rfl ?_
 refine aP H.doc λf hdoc=>?_
 refine Vn P2 S qu2 hG2 (f:=f) (by exact bL (cN ‹_›) (by decide)) H.S_ ?_
 have hdue:=L.gF
 cases hd:kH q.s.b8 f 0 [] with
 | bad=>replace hdoc:=hd▸hdoc;exact hdoc.elim
 | ok es=>
  replace hdoc:=hd▸hdoc
  refine aN hdoc λhdu ga=>?_;clear hdoc
  replace hdue:=hdu▸hdue
  intro d st A hA hmem
  have hents:mJ (ents es)=(es.map λp=>(ms p.1,ms p.2)).map ft:=by
   unfold mJ ents;rw[fg,fg];rfl
  have hnd2:((ents es).map dq).Nodup:=by
   unfold ents
   rw[fg]
   have e:(dq∘λp:List Nat×List Nat=>((ms p.1,PV.str (ms p.2)):af×PV))=ms∘dq:=rfl
   rw[e,<-fg]
   exact Yy.mpr (List.Pairwise.imp (λh q=>h (xt.mp q)) ga)
  have hpl:=hdue.2.2
  replace hpl:=i7▸hpl
  refine(Fv d (ents es) rfl hmem hnd2 (by unfold ents;rw[db];exact aJ (cN ‹_›) (by decide)) (λm1 hm1=>(ly _ ((m1,.lst (mJ (ents es)))::st) _ rfl rfl ?_)))
  refine(so G2 99).s (k:=.top) ?_
  walk_at "n"
  refine gL ?_
  rw[beq_self_eq_true]
  walk_at "go"
  have hdl:=hdue.2.1
  rw[show(λp:List Nat×List Nat=>ft (ms p.1,ms p.2))=ft∘(λp=>(ms p.1,ms p.2)) from rfl,<-fg,] at hdl
  rw[hdue.1]
  refine T5 (ps:=es.map λp=>(ms p.1,ms p.2)) (by rw[hents];exact .head _) (.tail _ (by rw[hA,<-hdl];exact tz _ (.head _))) (by show c2.A.units+2<gX;exact bL (eG (by decide) _) hu2) ?_
  walk_at "go"
  rfl
 | again e=>
  replace hdoc:=hd▸hdoc
  replace hdue:=hdoc▸hdue
  have hdv:q.dv = .str (ms (kC q.s.b8 e (lit "Cannot overwrite a value"))):=hdue
  intro st A hA
  refine(eV _ st rfl (λp=>gG.pb P2 S (P2.b0▸G2.gl 14 _ rfl) rfl) (λΓ' H4 G4 e' he=>(aw _ rfl (λnx=>?_))))
  have P4:Pl Γ'.c c2.env w b (n+19):=H4.pl P2
  walk_at "n"
  refine Pd (by rw[P4.b0];exact S.kt) (NO w.params) (by rw[H4.units];show c2.A.units+2<gX;exact bL (eG (by decide) _) hu2) H4.hd he rfl rfl H4.ok.dn H4.dt ?_
  walk_at "go"
  refine nx _ _ λz=>(aw _ rfl ?_)
  refine(so G2 99).s (k:=.top) ?_
  walk_at "n"
  refine gL ?_
  rw[beq_self_eq_true]
  walk_at "go"
  rw[hdv]
  refine gL ?_
  rw[beq_self_eq_true]
  walk_at "go"
  rfl
theorem WK{Γ':Gm cg}{sc m dd nm it mn mt:aj}{total:Int}{t0 T:Nat}{xs0 ys:List Int}{y:Int}{s:LS}{src2 dsrc2:List Nat}{names2:List (List Nat)}{dl:List PV}{dv w10 w11 w12 w16 w17:PV}(P3:Pl Γ'.c Γ'.c.env w b (n+19))(S:aO w b)(qu3:Γ'.c.A.handled=none)(G3:Good Γ'.c cg)(ht0:t0≠0)(hT2:T=t0+1)(hT:Γ'.c.T=T)
  (hstep:∀due',nX (bJ total) (newOf total) y dsrc2 s.gF=due'->fp (bJ total) (newOf total) ys ⟨src2,dsrc2,names2,due'⟩=fp (bJ total) (newOf total) xs0 ⟨[],[],[],.inl []⟩) (hyl:ys.length+1<=65) (hlen1:src2.length+103*ys.length<=6695) (hlen2:dsrc2.length+283*ys.length<=18395) (hlen3:names2.length+ys.length<=65) (hdn:dsrc2.length≠0)
  (hdue:FZ dd (ys.length+1) s.gF dl dv)
  (Nx:∀q':LQ,q8 T (bJ total) (newOf total) xs0 dd nm it m t ys q'.s q'.dl q'.dv q'.st->Γ'.R .next (cg.at (q'.vs sc m nm total t0) q'.st)) :
  bl Γ' zH (cg.at [.val (.ref sc),.int total,.str (ms gB),.d_ (ms (bJ total)) (λt'=>t'=t0),.val (.ref m),.str (ms src2),.str (ms dsrc2),.val (.ref nm),dv,.int y,w10,w11,w12,.bool (gH y),.val (.ref mn),.val (.ref mt),w16,w17,.al,.al,.al]
   ((mt,.lst (bF T (fL y)))::(mn,.lst (bF T (nameOf y)))::(dd,.lst dl)::(nm,.lst (cY names2))::(it,.lst (xs0.map PV.int))::(m,.lst (bF T (newOf total)))::t)) (D Γ' (.seq .fin .top)).f (D Γ' (.seq .fin .top)).x:=by
 have zs:bN=16777216:=eW
 have hnm:=ue y
 have htx:=tV y
 have hol:=pt total
 have hnl:=(ng total).1
 have hT4:t0<Γ'.c.T:=by rw[hT,hT2];exact dm _
 have hnb:BK Γ'.c.b0:=P3.b0▸S.booked
 refine(so G3 99).s (k:=.seq .fin .top) ?_
 unfold zH
 walk_at "n"
 cases hdu:s.gF with
 | inr wd=>
  rw[hdu] at hdue hstep
  obtain rfl:dv = .str (ms wd):=hdue
  refine S' ?_
  walk_at "go"
  exact Nx ⟨⟨src2,dsrc2,names2,.inr wd⟩,dl,_,_,_,_,_,_,_,_,_,_,_⟩ ⟨hstep _ rfl,by exact aJ (cN ‹_›) (by decide),hlen3,hlen1,hlen2,rfl,.of (.cons _ (.cons _ (qF _)))⟩
 | inl ps=>
  rw[hdu] at hdue hstep
  refine eO hdue λj1 j2 hps=>?_;clear hdue;subst j1;subst j2
  refine VO (xs:=ps.map λp=>ft (ms p.1,ms p.2)) (.tail _ (.tail _ (.head _))) ?_
  walk_at "go"
  have hnl2:(aY (nameOf y)).length<=3:=by have:=hnm.1;unfold aY;rw[db];exact this
  have htl2:(aY (fL y)).length<=6:=by have:=htx.1;unfold aY;rw[db];exact this
  have hwl2:(aY (newOf total)).length<=3:=by unfold aY;rw[db];exact hnl
  have hp1:wX (ms (aY (nameOf y))) (ms (bJ total)) (ms (aY (newOf total)))=ms (pairOf (bJ total) (newOf total) y).1:=kL _
  have hp2:wX (ms (aY (fL y))) (ms (bJ total)) (ms (aY (newOf total)))=ms (pairOf (bJ total) (newOf total) y).2:=kL _
  refine sr P3 S qu3 (us:=nameOf y) (hT▸.tail _ (.head _)) (by have:=hnm.1;exact aJ ‹_› (by decide)) ?_
  walk_at "go"
  refine dh.replace ?_
  walk_at "go"
  refine xQ P3 S qu3 (us:=newOf total) (hT▸.tail _ (.tail _ (.tail _ (.tail _ (.tail _ (.head _)))))) (by exact aJ ‹_› (by decide)) ?_
  walk_at "go"
  refine HF hnb ht0 hT4 (by have:=aac (show(aY (nameOf y)).length+1<=4 by exact iG ‹_› _) hwl2;omega) ?_
  walk_at "go"
  refine sr P3 S qu3 (us:=fL y) (hT▸.head _) (by have:=htx.1;exact aJ ‹_› (by decide)) ?_
  walk_at "go"
  refine dh.replace ?_
  walk_at "go"
  refine xQ P3 S qu3 (us:=newOf total) (hT▸.tail _ (.tail _ (.tail _ (.tail _ (.tail _ (.head _)))))) (by exact aJ ‹_› (by decide)) ?_
  walk_at "go"
  refine HF hnb ht0 hT4 (by have:=aac (show(aY (fL y)).length+1<=7 by exact iG ‹_› _) hwl2;omega) ?_
  rw[hp1,hp2]
  walk_at "go"
  refine WP (op:=.In) (a:=.o2 .sub (.loc 16) (.nat 0)) (by kernel_rfl) (by kernel_rfl) (gk rfl (du G3 rfl (dj ?_)))
  refine vr (i:=0) (x:=.str (ms (pairOf (bJ total) (newOf total) y).1)) rfl (by show 2<2^60;decide) ?_
  refine vo (it:=.loc 8) (cl:=[]) qu3 (by kernel_rfl) (.inl rfl) (by kernel_rfl) (by kernel_rfl) (by kernel_rfl) (by kernel_rfl) (by kernel_rfl) ?_
  refine pF (du G3 rfl ?_)
  refine il.lst qu3 (xs:=ps.map λp=>ft (ms p.1,ms p.2)) (.tail _ (.tail _ (.head _))) ⟨.tail _ (.tail _ (.head _)),cY (ps.map dq),?_,by rw[db];exact aJ (cN ‹_›) (by decide),λfs hfs=>?_⟩
  .unfold cY
   rw[fg]
   refine jM.map (α:=List Nat×List Nat) (λp=>ft (ms p.1,ms p.2)) (λp=>.str (ms p.1)) (λp=>(aw _ .name (R0 ?_ ?_ ?_ ?_ (.head _)))) ps
   .kernel_rfl
   .kernel_rfl
   .decide +kernel
   .show 1<1000;decide
  refine Nr (.head _) (qR (gb (v:=[.val (.ref sc),.int total,.str (ms gB),.d_ (ms (bJ total)) (λt'=>t'=t0),.val (.ref m),.str (ms src2),.str (ms dsrc2),.val (.ref nm),.val (.ref dd),.int y,w10,w11,w12,.bool (gH y),.val (.ref mn),.val (.ref mt),.tup [.str (ms (pairOf (bJ total) (newOf total) y).1),.str (ms (pairOf (bJ total) (newOf total) y).2)],w17,.al,.al,.al])
   (t:=(fs,.lst (cY (ps.map dq)))::(mt,.lst (bF T (fL y)))::(mn,.lst (bF T (nameOf y)))::(dd,.lst (ps.map λp=>ft (ms p.1,ms p.2)))::(nm,.lst (cY names2))::(it,.lst (xs0.map PV.int))::(m,.lst (bF T (newOf total)))::t) G3 ?_))
  walk_at "n"
  refine Br.mk (λhc=>?_) (λhc=>?_)
  .refine nG ?_;walk_at "go"
   refine x9 (a:=0) (b:=dsrc2.length-1) .none (.neg (by decide) (by exact Nat.one_le_iff_ne_zero.mpr hdn)) (by exact aJ (cN ‹_›) (by decide)) ?_
   rw[(by unfold sl;rw[qd,lT,aad]:sl dsrc2 0 (dsrc2.length-1)=dsrc2.dropLast)]
   walk_at "go"
   refine dh.split ?_
   walk_at "go"
   have hdl:dsrc2.dropLast.length<=18395:=by rw[BX];omega
   refine aN (Rr dsrc2) λhr1 hr2=>?_
   refine R2 (by decide) (by rw[bP];exact aJ ‹_› (by decide)) (by rw[E0];have:=aab (ms dsrc2.dropLast) (ms [10]) 0 (ms dsrc2.dropLast).length ((ms dsrc2.dropLast).length+1);rw[bP] at this |-;exact nF (iG (aJ this (iG hdl 1)) 1) (by decide)) λrr hrr=>?_
   have hrl:(mK (rowsOf dsrc2)).length=(rowsOf dsrc2).length:=db _
   refine gK ‹_› ?_;walk_at "n"
   refine ze (xs:=mK (rowsOf dsrc2)) (.head _) (by rw[hrl];exact bL (aJ hr2 (iG (cN hlen2) 2)) (by decide)) ?_
   walk_at "go"
   rw[hrl]
   refine Jl (r_ (by lia)) ?_
   walk_at "go"
   have z1:[67,97,110,110,111,116,32,111,118,101,114,119,114,105,116,101,32,97,32,118,97,108,117,101,32,40,97,116,32,108,105,110,101,32].length=34:=rfl
   have z2:[44,32,99,111,108,117,109,110,32].length=9:=rfl
   have z3:[41].length=1:=rfl
   have z4:=pa (i:=(rowsOf dsrc2).length) (by lia)
   refine cU (by omega) ?_
   walk_at "go"
   refine cU (by rw[bt];omega) ?_
   walk_at "go";refine nG ?_;walk_at "go"
   have hlast:(rowsOf dsrc2)[(rowsOf dsrc2).length-1]?=some ((rowsOf dsrc2).getLast?.getD (ms [])):=by
    rw[Z_,qa (by lia)];rfl
   refine Fy (xs:=mK (rowsOf dsrc2)) (x:=.str ((rowsOf dsrc2).getLast?.getD (ms []))) (i:=1) (.head _) (by decide) (by rw[hrl];assumption) (by rw[hrl];unfold mK;rw[L9,hlast];rfl) (by rw[hrl];lia) ?_
   walk_at "go"
   have hll:=Oo dsrc2
   have hw:=Wi dsrc2
   have hom:=kL ((rowsOf dsrc2).getLast?.getD (ms []))
   generalize ((rowsOf dsrc2).getLast?.getD (ms [])).cps.toList=lst at hll hom hw
   rw[hom]
   refine iB (by lia) ?_
   walk_at "go";refine gM ?_;walk_at "go"
   have z5:=pa (i:=lst.length+1) (by lia)
   refine Jl (r_ (by lia)) ?_
   walk_at "go"
   refine cU (by rw[bt,bt];omega) ?_
   walk_at "go"
   refine cU (by rw[bt,bt,bt];omega) ?_
   walk_at "go"
   rw[<-hw]
   have hdue':nX (bJ total) (newOf total) y dsrc2 (.inl ps) = .inr (words dsrc2):=by
    rw[Ha,aA hc]
   exact Nx ⟨⟨src2,dsrc2,names2,.inr (words dsrc2)⟩,_,_,_,_,_,_,_,_,_,_,_,_⟩ ⟨hstep _ hdue',by exact aJ (cN ‹_›) (by decide),hlen3,hlen1,hlen2,rfl,.of (.cons _ (.cons _ (.cons _ (.cons _ (qF _)))))⟩
  .have hdue':nX (bJ total) (newOf total) y dsrc2 (.inl ps) = .inl (ps++[pairOf (bJ total) (newOf total) y]):=by
    rw[Ha,an (by rw[hc];exact cm)]
   walk_at "go"
   refine dh.append (xs:=ps.map λp=>ft (ms p.1,ms p.2)) (.tail _ (.tail _ (.tail _ (.head _)))) ?_
   walk_at "go"
   refine uq (xs:=ps.map λp=>ft (ms p.1,ms p.2)) (.tail _ (.tail _ (.tail _ (.head _)))) (.tail (.tail (.tail .head))) (by rw[db];exact aJ (cN ‹_›) (by decide)) ?_
   have hpa:(ps.map λp=>ft (ms p.1,ms p.2))++[.tup [.str (ms (pairOf (bJ total) (newOf total) y).1),.str (ms (pairOf (bJ total) (newOf total) y).2)]]=(ps++[pairOf (bJ total) (newOf total) y]).map λp=>ft (ms p.1,ms p.2):=by
    rw[mO];rfl
   rw[hpa]
   refine gK ‹_› ?_;walk_at "n"
   exact Nx ⟨⟨src2,dsrc2,names2,.inl (ps++[pairOf (bJ total) (newOf total) y])⟩,_,_,_,_,_,_,_,_,_,_,_,_⟩ ⟨hstep _ hdue',by exact aJ (cN ‹_›) (by decide),hlen3,hlen1,hlen2,⟨rfl,rfl,by rw[bt,kn];lia⟩,.of (.cons _ (.cons _ (.cons _ (qF _))))⟩
theorem S5{Γ':Gm cg}{sc m dd nm it:aj}{total:Int}{t0 T:Nat}{xs0 ys:List Int}{y:Int}{q:LQ}(P3:Pl Γ'.c Γ'.c.env w b (n+19))(S:aO w b)(qu3:Γ'.c.A.handled=none)(G3:Good Γ'.c cg)(ht0:t0≠0)(hT2:T=t0+1)(hT:Γ'.c.T=T)
  (L:q8 T (bJ total) (newOf total) xs0 dd nm it m t (y::ys) q.s q.dl q.dv q.st)
  (Nx:∀q':LQ,q8 T (bJ total) (newOf total) xs0 dd nm it m t ys q'.s q'.dl q'.dv q'.st->Γ'.R .next (cg.at (q'.vs sc m nm total t0) q'.st)) :
  bl Γ' Ih (cg.at [.val (.ref sc),.int total,.str (ms gB),.d_ (ms (bJ total)) (λt'=>t'=t0),.val (.ref m),.str (ms q.s.src),.str (ms q.s.b8),.val (.ref nm),q.dv,.int y,.int (y.natAbs/2/4096/262144:Nat),.int (y.natAbs/2%4096:Nat),.int (y.natAbs/2/4096%262144:Nat),q.v5,q.v6,q.v7,q.v8,q.v9,.al,.al,.al] q.st) (D Γ' .top).f (D Γ' .top).x:=by
 refine bl.wk (d6.sub L.st) ?_
 have hm2:((y%((2:Nat):Int)).toNat==1)=gH y:=rfl
 refine xp G3 (by decide +kernel) (.inr λZ=>by kernel_rfl) (vd rfl (dE (gk rfl (gk rfl (du G3 rfl (dj (pQ (b:=2) (by decide) (dj (og ?_)))))))))
 refine dE (CZ (s_call rfl rfl (jF G3 (dE (du G3 rfl ?_)))))
 refine dE (dj (dE (s_bool (gz (nh (uz P3 S qu3 (by decide) λm1 hm1=>(fi m1 _ rfl rfl (aJ (lm _ _ _ _ _ (Small.nil _)).1 (by decide)) (λmn st' hst=>gz λhi=>(jE _ rfl (.ok qu3) rfl ((vm G3 hi (v':=[.val (.ref sc),.int total,.str (ms gB),.d_ (ms (bJ total)) (λt'=>t'=t0),.val (.ref m),.str (ms q.s.src),.str (ms q.s.b8),.val (.ref nm),q.dv,.int y,.int (y.natAbs/2/4096/262144:Nat),.int (y.natAbs/2%4096:Nat),.int (y.natAbs/2/4096%262144:Nat),.bool (gH y),.val (.ref mn),q.v7,q.v8,q.v9,.al,.al,.al]) rfl ?_).2))))))))))
 refine bl.wk (d:=D Γ' .top) (xr hst) ?_
 rw[hT]
 refine(so G3 99).s (k:=.top) ?_
 walk_at "n"
 have zs:bN=16777216:=eW
 have hnm:=ue y
 have htx:=tV y
 have hnew:=ng total
 have hol:=pt total
 have hnl:=hnew.1
 show aM Γ'.c (.val (.ref 715)) _ _ _ (cg.at _ ((mn,.lst (bF T (nameOf y)))::_)) _ _
 refine sr P3 S qu3 (us:=nameOf y) (hT▸.head _) (by have:=hnm.1;exact aJ ‹_› (by decide)) ?_
 walk_at "go"
 refine UE (.tail _ (.tail _ (.head _))) ?_
 walk_at "go"
 have hlen:=L.len
 have hnames:=L.names
 have hsrc:=L.src
 have hdsrc:=L.b8
 rw[b_] at hlen hnames hsrc hdsrc
 refine Br.mk (λhb=>?_) (λhb=>?_)
 .walk_at "go"
  refine dh.append (xs:=cY q.s.names) (.tail _ (.tail _ (.head _))) ?_
  walk_at "go"
  refine sr P3 S qu3 (us:=nameOf y) (hT▸.head _) (by have:=hnm.1;exact aJ ‹_› (by decide)) ?_
  walk_at "go"
  refine uq (xs:=cY q.s.names) (.tail _ (.tail _ (.head _))) (.tail (.tail .head)) (by unfold cY;rw[db];exact aJ (cN ‹_›) (by decide)) ?_
  rw[show cY q.s.names++[.str (ms (aY (nameOf y)))]=cY (q.s.names++[aY (nameOf y)]) from(V2 _ _).symm]
  refine gK ‹_› ?_;walk_at "n"
  refine uz P3 S qu3 (by decide) λm2 hm2'=>?_
  refine gK ‹_› ?_;walk_at "n"
  refine uz P3 S qu3 (by decide) λm3 hm3'=>?_
  refine gK ‹_› ?_;walk_at "n"
  have hs2:(fm 2 (gH y) 3 (y.natAbs/2%4096) []).length<=2:=(lm 2 _ _ _ _ (Small.nil _)).1
  have hs4:(fm 4 (gH y) 5 (y.natAbs/2/4096/262144) []).length<=4:=(lm 4 _ _ _ _ (Small.nil _)).1
  refine QY (xs:=bF Γ'.c.T (fm 2 (gH y) (2+1) (y.natAbs/2%4096) [])) (ys:=bF Γ'.c.T (fm 4 (gH y) (4+1) (y.natAbs/2/4096/262144) [])) (.tail _ (.head _)) (.head _) (by rw[gt,gt];omega) λtl htl=>?_
  rw[<-uC,hT]
  show(D Γ' _).e _ ⟨_,(tl,.lst (bF T (fL y)))::_⟩
  refine gK ‹_› ?_;walk_at "n"
  have hrs:=uN (many:=gH y) hnm htx
  have hrd:=uN (many:=gH y) (l_ hol.1 hnew hnm) (l_ hol.1 hnew htx)
  refine Dq P3 S qu3 (us:=nameOf y) (ts:=fL y) (hT▸.tail _ (.tail _ (.tail _ (.head _)))) (hT▸.head _) (by have:=hnm.1;exact aJ ‹_› (by decide)) (by have:=htx.1;exact aJ ‹_› (by decide)) (by have:=hnm.src;exact aJ ‹_› (by decide)) (by have:=htx.src;exact aJ ‹_› (by decide)) ?_
  walk_at "go"
  refine rX (by omega) ?_
  walk_at "go"
  refine yx (FG P3 S qu3 (us:=nameOf y) (nw:=newOf total) (old:=bJ total) (hT▸.tail _ (.tail _ (.tail _ (.head _)))) (hT▸.tail _ (.tail _ (.tail _ (.tail _ (.tail _ (.tail _ (.tail _ (.head _)))))))) (by have:=hnm.1;exact aJ ‹_› (by decide)) (by exact aJ ‹_› (by decide)) hol.1 (by exact aJ ‹_/\_›.2 (by decide)) λl1 hl1=>?_)
  refine gK ‹_› ?_;walk_at "n"
  refine yx (FG P3 S qu3 (us:=fL y) (nw:=newOf total) (old:=bJ total) (hT▸.tail _ (.head _)) (hT▸.tail _ (.tail _ (.tail _ (.tail _ (.tail _ (.tail _ (.tail _ (.tail _ (.head _))))))))) (by have:=htx.1;exact aJ ‹_› (by decide)) (by exact aJ ‹_› (by decide)) hol.1 (by exact aJ ‹_/\_›.2 (by decide)) λl2 hl2=>?_)
  refine gK ‹_› ?_;walk_at "n"
  refine Dq P3 S qu3 (us:=dO (bJ total) (newOf total) (nameOf y)) (ts:=dO (bJ total) (newOf total) (fL y)) (.tail _ (.head _)) (.head _) (by have:=(l_ hol.1 hnew hnm).1;exact aJ ‹_› (by decide)) (by have:=(l_ hol.1 hnew htx).1;exact aJ ‹_› (by decide)) (by have:=(l_ hol.1 hnew hnm).src;exact aJ ‹_› (by decide)) (by have:=(l_ hol.1 hnew htx).src;exact aJ ‹_› (by decide)) ?_
  walk_at "go"
  refine rX (by omega) ?_
  walk_at "go"
  refine bl.wk (d:=D Γ' (.seq .fin .top)) (xr (t:=(tl,.lst (bF T (fL y)))::(mn,.lst (bF T (nameOf y)))::(dd,.lst q.dl)::(nm,.lst (cY (q.s.names++[aY (nameOf y)])))::(it,.lst (xs0.map PV.int))::(m,.lst (bF T (newOf total)))::t) (.cons _ (.cons _ (.cons_cons _ (.cons _ (.cons _ (qF _))))))) ?_
  refine WK (ys:=ys) (s:=q.s) P3 S qu3 G3 ht0 hT2 hT (λdue' e=>?_) hlen ?_ ?_ ?_ ?_ L.gF Nx
  .rw[<-L.run,<-e]
   show _=fp _ _ ys (oo _ _ y q.s)
   unfold oo
   rw[an (by rw[(by simpa using hb:q.s.names.contains (aY (nameOf y))=false)];exact cm)]
   rfl
  .show(q.s.src++yj y).length+_<=_
   rw[bt];unfold yj;exact aJ (da (gu _ _ _)) (aJ (eG hrs _) (aJ (da (lK _ _ _)) hsrc))
  .show(q.s.b8++lB (bJ total) (newOf total) y).length+_<=_
   rw[bt];unfold lB;exact aJ (da (gu _ _ _)) (aJ (eG hrd _) (aJ (da (lK _ _ _)) hdsrc))
  .rw[bt,kn];exact aJ (da (gu _ _ _)) hnames
  .show(q.s.b8++lB (bJ total) (newOf total) y).length≠0
   unfold lB rowOf
   simp only[bt,b_,i7];lia
 .walk_at "go"
  refine Nx ⟨q.s,q.dl,q.dv,_,_,_,_,_,_,_,_,_,_⟩ ⟨?_,by exact aJ (cN ‹_›) (by decide),by exact qy hnames,by exact aJ (eG (oU _ (fe _)) _) hsrc,by exact aJ (eG (oU _ (fe _)) _) hdsrc,?_,.of (.cons _ (qF _))⟩
  .rw[<-L.run]
   show _=fp _ _ ys (oo _ _ y q.s)
   unfold oo
   rw[aA (by simpa using hb)]
  .have hdue:=L.gF
   cases hdu:q.s.gF with
   | inr wd=>replace hdue:=hdu▸hdue;exact hdue
   | inl ps=>replace hdue:=hdu▸hdue;exact⟨hdue.1,hdue.2.1,by have:=hdue.2.2;replace this:=b_▸this;lia⟩
theorem WU{c2:FC}{sc m:aj}{script:List Int}{total:Int}{t0:Nat}(P2:Pl c2 c2.env w b (n+19))(S:aO w b)(hk2:c2.env.scope=fS (stN 78))(qu2:c2.A.handled=none)(hG2:c2.gens=dP)(hu2:c2.A.units+7<gX)(hsc2:nM c2 sc script)(hlen:script.length<=63)(ht0:t0≠0)(hT2:c2.T=t0+1)(G2:Good (GL c2).c cg)
  (H:r0 (bJ total) (newOf total) (fp (bJ total) (newOf total) ([6444549252,1133873513603]++script) ⟨[],[],[],.inl []⟩)) :
  bl (GL c2) vc (cg.at [.val (.ref sc),.int total,.str (ms gB),.d_ (ms (bJ total)) (λt'=>t'=t0),.val (.ref m),.al,.al,.al,.al,.al,.al,.al,.al,.al,.al,.al,.al,.al,.al,.al,.al] ((m,.lst (bF c2.T (newOf total)))::t)) (D (GL c2) .top).f (D (GL c2) .top).x:=by
 have hol:=pt total
 have hnl:=(ng total).1
 refine(so G2 99).s (k:=.top) ?_
 unfold vc
 walk_at "n"
 refine mq G2 qu2 (by decide +kernel) (.inr λZ=>by kernel_rfl) ?_
 walk_at "n"
 intro nm hnm dd hdd
 have hlc:([.int 6444549252,.int 1133873513603]++script.map PV.int:List PV)=(([6444549252,1133873513603]++script:List Int)).map PV.int:=by rw[mO];rfl
 have hxl:([6444549252,1133873513603]++script:List Int).length<=65:=by show script.length+1+1<=65;omega
 refine fo (α:=LQ) (B:=aj) G2 qu2 (.inl rfl) (λq=>q.vs sc m nm total t0) (λq=>q.st) (λit xs q=>∃ys:List Int,xs=ys.map PV.int/\q8 c2.T (bJ total) (newOf total) ([6444549252,1133873513603]++script) dd nm it m t ys q.s q.dl q.dv q.st) ?_ ?_ ?_
 .refine pF ?_
  refine gk rfl ?_
  refine yR rfl ?_
  refine dE (dj (dE (dj (gz λcs hcs=>?_))))
  refine du (t:=(cs,.lst [.int (6444549252:Nat),.int (1133873513603:Nat)])::(dd,.lst [])::(nm,.lst [])::(m,.lst (bF c2.T (newOf total)))::t) G2 rfl ?_
  refine Su (xs:=[.int 6444549252,.int 1133873513603]) (.head _) hsc2 (by show 2+script.length<=1000000;omega) λit hit=>?_
  refine il.lst qu2 (xs:=[.int 6444549252,.int 1133873513603]++script.map PV.int) (.head _) ?_
  rw[hlc]
  generalize ([6444549252,1133873513603]++script:List Int)=xs0 at hxl H |-
  refine⟨it,λxs a ⟨ys,_,L⟩=>L.st.mem (.tail _ (.tail _ (.head _))),⟨⟨[],[],[],.inl []⟩,[],.val (.ref dd),.al,.al,.al,.al,.al,.al,.al,.al,.al,_⟩,.refl,xs0,rfl,⟨rfl,hxl,by show 0+_<=65;exact eG ‹_› _,by show 0+_<=6695;lia,by show 0+_<=18395;lia,⟨rfl,rfl,by show 0+_<=65;exact eG ‹_› _⟩,?_⟩⟩
  exact(aw _ ((XW _ _ _).trans (.cons _ (.swap _ _ _))) (.cons_cons _ (.cons _ (qF _))))
 .intro it a ⟨ys,hx,L⟩
  cases ys with
  | cons y ys=>exact rW hx
  | nil=>
  walk_at "go"
  exact MJ P2 S hk2 qu2 hG2 hu2 G2 H L
 .intro it x xs a ⟨ys,hx,L⟩ Γ' R G3 Le
  cases ys with
  | nil=>exact qX hx
  | cons y ys=>
  replace hx:=cJ▸hx
  refine aN (vZ hx) λj1 j2=>?_;subst j1;subst j2
  have qu3:=R.qu qu2
  unfold LQ.vs
  walk_at "n"
  refine⟨qu3,?_⟩
  refine WH ?_
  walk_at "go"
  refine y8 (b:=2) (by decide) (by decide) ?_
  walk_at "go"
  refine xZ (b:=4096) (by decide) (by decide) ?_
  walk_at "go"
  refine⟨qu3,?_⟩
  refine xZ (b:=262144) (by decide) (by decide) ?_
  walk_at "go"
  exact S5 (R.env▸R.pl P2 qu2) S qu3 G3 ht0 hT2 R.T L λq' L'=>Le.dW _ _ .refl (bh q' rfl rfl ⟨ys,rfl,L'⟩)
theorem Qg{c2:FC}{sc:aj}{script:List Int}{total:Int}{t0:Nat}(P2:Pl c2 c2.env w b (n+19))(S:aO w b)(hk2:c2.env.scope=fS (stN 78))(qu2:c2.A.handled=none)(hG2:c2.gens=dP)(hu2:c2.A.units+7<gX)(hsc2:nM c2 sc script)(hlen:script.length<=63)(ht0:t0≠0)(hT2:c2.T=t0+1)(G2:Good (GL c2).c cg)
  (H:r0 (bJ total) (newOf total) (fp (bJ total) (newOf total) ([6444549252,1133873513603]++script) ⟨[],[],[],.inl []⟩)) :
  bl (GL c2) tN (cg.at [.val (.ref sc),.int total,.str (ms gB),.d_ (ms (bJ total)) (λt'=>t'=t0),.al,.al,.al,.al,.al,.al,.al,.al,.al,.al,.al,.al,.al,.al,.al,.al,.al] t) (GL c2).R (GL c2).E:=by
 have hol:=pt total
 have hnl:=(ng total).1
 unfold tN
 have h3:(total%3).toNat/2<=1:=Df total
 refine CM (Γ:=GL c2) (d:=D (GL c2) .top) G2 (.inl rfl) (CZ (s_call rfl rfl (jF G2 (dE (gk rfl (gk rfl (du G2 rfl (dj (xj (b:=128) (by decide) (by decide) (dj (pQ (b:=262144) (by decide) ?_)))))))))))
 refine dE (gk rfl (dj (gk rfl (gk rfl (gk rfl (du G2 rfl (dj (pQ (b:=3) (by decide) (dj (y8 (b:=2) (by decide) (by decide) (dj (VQ ?_ (gM ?_)))))))))))))
 .have:(total%3).toNat/2=0\/(total%3).toNat/2=1:=by exact Nat.le_one_iff_eq_zero_or_eq_one.mp h3
  rcases this with e | e <;> rw[show(total%((3:Nat):Int)).toNat/2=_ from e] <;> exact IntMulOk.of_left (by decide +kernel)
 refine dE (s_bool (gz (nh (uz P2 S qu2 (aJ (eG (Mb 2 h3) 1) (by decide)) λm hmf=>(fi m _ rfl rfl (aJ (lm _ _ _ _ _ (Small.nil _)).1 (aJ (eG (Mb 2 h3) 1) (by decide))) (λm' st' hst hi=>?_))))))
 rw[lz (Γ:=GL c2) G2 hi (v':=[.val (.ref sc),.int total,.str (ms gB),.d_ (ms (bJ total)) (λt'=>t'=t0),.val (.ref m'),.al,.al,.al,.al,.al,.al,.al,.al,.al,.al,.al,.al,.al,.al,.al,.al]) rfl]
 exact bl.wk (Γ:=GL c2) (r:=vc) (d:=D (GL c2) .top) (xr hst) (WU P2 S hk2 qu2 hG2 hu2 hsc2 hlen ht0 hT2 G2 H)
theorem T8{c':FC}{sc:aj}{script:List Int}(P':Pl c' c'.env w b (n+19))(S:aO w b)(hsc0:c'.env.scope=fS (stN 78))(qu':c'.A.handled=none)(hG':c'.gens=dP)(hu':c'.A.units+7<gX)(hsc':nM c' sc script)(hlen:script.length<=63)
  (H:r0 (bJ (script.sum+1408)) (newOf (script.sum+1408)) (fp (bJ (script.sum+1408)) (newOf (script.sum+1408)) ([6444549252,1133873513603]++script) ⟨[],[],[],.inl []⟩)) :
  dC c' (fB (stN 78)) (cg.at [.val (.ref sc),.al,.al,.al,.al,.al,.al,.al,.al,.al,.al,.al,.al,.al,.al,.al,.al,.al,.al,.al,.al] t) (λf Z=>f = .ret (.bool true)) (λZ Z=>False):=by
 have G':Good (GL c').c cg:=PR P' S hsc0 (by kernel_rfl) (by kernel_rfl)
 refine(so (Γ:=GL c') G' 99).s (b:=z8) (k:=.top) ?_ _ Sg
 unfold z8
 walk_at "n"
 refine OZ qu' hsc' ?_
 walk_at "go";refine EX ?_;walk_at "go"
 rw[(rfl:script.sum+((1408:Nat):Int)=script.sum+1408)]
 generalize script.sum+1408=total at H |-
 unfold EV
 refine Dt (Γ:=GL c') G' (.inl rfl) (GH ⟨rfl,λts hts=>(fi (.str _) _ (λZ=>⟨_,rfl⟩) rfl rfl ?_)⟩)
 show bl (GL (c'.at (ts+1))) yD _ _ _
 have P1:=P'.at (ts+1)
 have G1:Good (GL (c'.at (ts+1))).c cg:=G'.at _
 have qu1:(c'.at (ts+1)).A.handled=none:=qu'
 have hG1:(c'.at (ts+1)).gens=dP:=hG'
 have hsc1:nM (c'.at (ts+1)) sc script:=hsc'
 have hu1:(c'.at (ts+1)).A.units+7<gX:=hu'
 have hT1:1<=(c'.at (ts+1)).T:=jo (cQ _)
 have hk1:(c'.at (ts+1)).env.scope=fS (stN 78):=hsc0
 clear P' G' qu' hG' hsc' hu' hts hsc0
 have P1:Pl (c'.at (ts+1)) (c'.at (ts+1)).env w b (n+19):=P1
 generalize c'.at (ts+1)=c1 at P1 G1 qu1 hG1 hsc1 hu1 hT1 hk1 |-
 have zs:bN=16777216:=eW
 rw[<-Pm]
 unfold yD
 refine Dt (Γ:=GL c1) G1 (.inl rfl) ?_
 have old:kI (GL c1) (.o2 (.bin .Add) (.o2 .sub (.loc 2) (.o2 (.bin .Mod) (.loc 1) (.nat 8))) (.iQ (.o2 (.cmp .Eq) (.o2 (.bin .Mod) (.o2 (.bin .FloorDiv) (.loc 1) (.nat 8)) (.nat 2)) (.nat 1)) (.o2 .sub (.loc 2) (.o2 (.bin .Mod) (.o2 (.bin .FloorDiv) (.loc 1) (.nat 16)) (.nat 8))) (.str []))) (cg.at [.val (.ref sc),.int total,.str (ms gB),.al,.al,.al,.al,.al,.al,.al,.al,.al,.al,.al,.al,.al,.al,.al,.al,.al,.al] t) (λy τ=>y=ms (bJ total)/\τ=cg.at [.val (.ref sc),.int total,.str (ms gB),.al,.al,.al,.al,.al,.al,.al,.al,.al,.al,.al,.al,.al,.al,.al,.al,.al,.al] t) (λZ Z=>False):=by
  refine MG (Gf (.inl rfl) (du G1 rfl (gk rfl (du G1 rfl (dj (pQ (b:=8) (by decide) (mz _ _ _ rfl rfl (fG (t_ total 8 (by decide)) (by decide)) (signs_at total) ?_)))))))
  refine Uv (HJ rfl (gk rfl (gk rfl (du G1 rfl (dj (xj (b:=8) (by decide) (by decide) (dj (pQ (b:=2) (by decide) (dj (og (qR ?_)))))))))))
  refine Br.mk (λhb=>?_) (λhb=>?_)
  .refine Gf (.inl rfl) (du G1 rfl (gk rfl (gk rfl (du G1 rfl (dj (xj (b:=16) (by decide) (by decide) (dj (pQ (b:=8) (by decide) (mz _ _ _ rfl rfl (fG (t_ (total/16) 8 (by decide)) (by decide)) (signs_at (total/16)) ?_)))))))))
   refine⟨by rw[bP,bP,zs];show 1+1<=16777216;decide,?_,rfl⟩
   rw[k_]
   unfold bJ
   rw[aA (by simpa using hb)]
  .refine GH ⟨by rw[bP,bP,zs];show 1+0<=16777216;decide,?_,rfl⟩
   rw[k_]
   unfold bJ
   rw[an (by exact not_eq_of_beq_eq_false hb)]
 refine λx hx=>(old x hx).mid λy τ ⟨e1,e2⟩=>⟨e2,λt0 ht0=>(fi (.d_ y (λt'=>t'=t0)) _ (λZ=>(aw t0 rfl rfl)) rfl rfl ?_)⟩
 clear old
 rw[e1]
 clear e1 e2 hx
 show bl (GL (c1.at (t0+1))) tN _ _ _
 have P2:Pl (c1.at (t0+1)) (c1.at (t0+1)).env w b (n+19):=P1.at (t0+1)
 have G2:Good (GL (c1.at (t0+1))).c cg:=G1.at _
 have qu2:(c1.at (t0+1)).A.handled=none:=qu1
 have hG2:(c1.at (t0+1)).gens=dP:=hG1
 have hsc2:nM (c1.at (t0+1)) sc script:=hsc1
 have hu2:(c1.at (t0+1)).A.units+7<gX:=hu1
 have hT2:(c1.at (t0+1)).T=t0+1:=rfl
 have hk2:(c1.at (t0+1)).env.scope=fS (stN 78):=hk1
 have ht0:t0≠0:=by have:c1.T<=t0:=ht0;lia
 clear P1 G1 qu1 hG1 hsc1 hu1 hk1
 generalize c1.at (t0+1)=c2 at P2 G2 qu2 hG2 hsc2 hu2 hT2 hk2 |-
 exact Qg P2 S hk2 qu2 hG2 hu2 hsc2 hlen ht0 hT2 G2 H
end
end
noncomputable def x8:List Nat:=[0,1,2,3,4,5,6,7,8,10,11,12,13,14,15,16,17,18,19,20,21,22,23,24,25,26,27,28,29,30,31,127]
noncomputable def zL:List Nat:=[0,1,2,3,4,5,6,7,8,11,12,13,14,15,16,17,18,19,20,21,22,23,24,25,26,27,28,29,30,31,127]
noncomputable def kF(multi:Bool):List Nat:=if multi=true then zL else x8
theorem u5(ks:List Nat)(u:Nat):(ks.map λk=>ms [k]).contains (ms [u])=ks.contains u:=by
 induction ks with
 | nil=>rfl
 | cons k ks ih=>
  rw[cJ,wI,wI,ih]
  congr 1
  rw[mH]
  simp
theorem EN(multi:Bool)(u:Nat):(mw multi).contains (ms [u])=(kF multi).contains u:=by
 cases multi with
 | false=>
  rw[(by kernel_rfl:mw false=x8.map λk=>ms [k]),u5];rfl
 | true=>
  rw[(by kernel_rfl:mw true=zL.map λk=>ms [k]),u5];rfl
theorem sa(u:Nat):bG.contains (ms [u])=[32,9].contains u:=by
 rw[(by kernel_rfl:bG=[32,9].map λk=>ms [k]),u5]
theorem uA(u:Nat):fK.contains (ms [u])=[32,9,10].contains u:=by
 rw[(by kernel_rfl:fK=[32,9,10].map λk=>ms [k]),u5]
noncomputable def eA(multi:Bool)(l:List Nat):Prop:=∀u∈l,(kF multi).contains u=false
theorem eA.app{multi:Bool}{a b:List Nat}(x:eA multi a)(y:eA multi b):eA multi (a++b):=λu h=>by
 rcases jp.mp h with h | h;exact x u h;exact y u h
theorem E_{multi:Bool}{l:List Nat}{p q:Nat}{e:List Nat}(h:ee multi l p=some (q,e)):p+2<=q:=by
 unfold ee at h
 split at h
 .split at h
  .cases h;exact mB l fK (p+2)
  .split at h
   .cases h;exact mB l bG (p+2)
   .split at h
    .cases h;have:=mB l bG (p+2);have:=mB l fK (bu l bG (p+2)+1);lia
    .exact bI h
 .split at h
  .cases hx:fN l (p+2) 4 with
   | none=>replace h:=hx▸h;cases h
   | some r=>
    replace h:=hx▸h;cases h
    unfold fN at hx;split at hx
    .refine(λj0=>?_) (bj hx);clear hx;subst j0;exact dX (p+2) 4
    .exact bI hx
  .split at h
   .cases hx:fN l (p+2) 8 with
    | none=>replace h:=hx▸h;cases h
    | some r=>
     replace h:=hx▸h;cases h
     unfold fN at hx;split at hx
     .refine(λj0=>?_) (bj hx);clear hx;subst j0;exact dX (p+2) 8
     .exact bI hx
   .cases hx:iq (sl l p (p+2)) with
    | none=>replace h:=hx▸h;cases h
    | some u=>replace h:=hx▸h;cases h;exact bk _
theorem qL{multi:Bool}{l:List Nat}(hL:eA multi l):∀(f p:Nat) (t:List Nat),l.length<f+p->0<f->b4 multi l f p t≠.bad
 | 0,p,t,h,h0=>by
  exact absurd ‹_› (m0 _)
 | f+1,p,t,h,_=>by
  rw[b4]
  cases hu:l[p]? with
  | none=>exact λq=>by cases q
  | some u=>
   dsimp only
   have hlt:p<l.length:=(dY.mp hu).1
   split
   .split
    .split
     .exact λq=>by cases q
     .exact qL hL f (p+1) _ (by lia) (by lia)
    .exact λq=>by cases q
   .split
    .cases he:ee multi l p with
     | none=>exact λq=>by cases q
     | some r=>
      obtain ⟨q,e⟩:=r
      have:=E_ he
      have:=zu he
      exact qL hL f q _ (by lia) (by lia)
    .rw[EN,hL u (qB hu),an cm]
     exact qL hL f (p+1) _ (by lia) (by lia)
theorem uM{multi:Bool}{l:List Nat}:∀(f g p:Nat) (t:List Nat),f<=g->b4 multi l f p t≠.bad->b4 multi l g p t=b4 multi l f p t
 | 0,g,p,t,_,h=>by exact absurd (by rw[b4]) h
 | f+1,0,p,t,hg,_=>by lia
 | f+1,g+1,p,t,hg,h=>by
  rewrite[b4] at h
  rw[b4,b4]
  cases hu:l[p]? with
  | none=>rfl
  | some u=>
   replace h:=hu▸h
   dsimp only at h |-
   by_cases h34:u=34
   .rw[aA h34] at h |-
    rw[aA h34]
    by_cases hm:multi=true
    .rw[aA hm] at h |-
     rw[aA hm]
     by_cases ha:at_ l [34,34,34] p=true
     .rw[aA ha,aA ha]
     .rw[an ha] at h |-
      rw[an ha]
      exact uM f g _ _ (by exact mX ‹_›) h
    .rw[an hm,an hm]
   .rw[an h34] at h |-
    rw[an h34]
    by_cases h92:u=92
    .rw[aA h92] at h |-
     rw[aA h92]
     cases he:ee multi l p with
     | none=>rfl
     | some r=>
      replace h:=he▸h
      exact uM f g _ _ (by exact mX ‹_›) h
    .rw[an h92] at h |-
     rw[an h92]
     by_cases hb:(mw multi).contains (ms [u])=true
     .rw[aA hb,aA hb]
     .rw[an hb] at h |-
      rw[an hb]
      exact uM f g _ _ (by exact mX ‹_›) h
noncomputable def R(multi:Bool)(l:List Nat)(p:Nat)(t:List Nat)(r:Res):Prop:=∃f,f+p<=l.length+1/\b4 multi l f p t=r/\r≠.bad
theorem R.eq{multi:Bool}{l:List Nat}{p:Nat}{t:List Nat}{r:Res}(h:R multi l p t r):b4 multi l (l.length+1) p t=r:=by
 refine br h λf h1 h2 h3=>?_;clear h
 rw[uM f _ p t (by exact cN ‹_›) (by rw[h2];exact h3),h2]
noncomputable def yO(ws:List Nat):Prop:=ws=[10]\/ws=[32,10,9,10]\/ws=[9,32,10]\/ws=[32,32,10,32]
inductive ez(multi:Bool):List Nat->Nat->Prop
 | bare {g:Nat}:g≠34->g≠92->(kF multi).contains g=false->ez multi [g] g
 | quote:multi=true->ez multi [34] 34
 | short {c g:Nat}:iq [92,c]=some g->ez multi [92,c] g
 | u4 {hs:List Nat}:hs.length=4->f_ gp hs=true->scalar (hexVal hs)=true->ez multi ([92,117]++hs) (hexVal hs)
 | u8 {hs:List Nat}:hs.length=8->f_ gp hs=true->scalar (hexVal hs)=true->ez multi ([92,85]++hs) (hexVal hs)
 | pad {ws:List Nat} {g:Nat}:multi=true->yO ws->g≠34->g≠92->[32,9,10].contains g=false->(kF multi).contains g=false->ez multi ([92]++ws++[g]) g
theorem Ip{multi:Bool}{g:Nat}(h:(kF false).contains g=false):(kF multi).contains g=false:=by
 cases multi with
 | false=>exact h
 | true=>
  have:∀x∈zL,x∈x8:=by decide
  rw[XA] at h |-
  intro q
  exact h (jZ.mpr (this g (jZ.mp q)))
theorem ez.up{multi:Bool}{s:List Nat}{g:Nat}(h:ez false s g):ez multi s g:=by
 cases h with
 | bare a b c=>exact .bare a b (Ip c)
 | quote a=>cases a
 | short a=>exact .short a
 | u4 a b c=>exact .u4 a b c
 | u8 a b c=>exact .u8 a b c
 | pad a=>cases a
theorem ez.ne{multi:Bool}{s:List Nat}{g:Nat}(h:ez multi s g):s≠[]:=by
 cases h <;> simp
theorem im{l:List Nat}{p x:Nat}{r:List Nat}(h:l.drop p=x::r):l[p]?=some x:=by
 have:=aI (λm=>m[0]?) h
 simpa using this
theorem b5{l a b:List Nat}{p:Nat}(h:l.drop p=a++b):l.drop (p+a.length)=b:=by
 rw[<-we,h,aae]
theorem zS{l a b:List Nat}{p:Nat}(h:l.drop p=a++b)(ha:a≠[]):p+a.length<=l.length:=by
 have:=aI gR h
 replace this:=bt▸kb▸this
 exact uL (qx.mpr ha) (this▸dX _ _)
theorem k7{l a b:List Nat}{p n:Nat}(h:l.drop p=a++b)(hn:n=a.length):sl l p (p+n)=a:=by
 unfold sl
 rw[h,show p+n-p=a.length from(BU ..).trans hn,List.take_left]
theorem rj{l a b k:List Nat}{p:Nat}(h:l.drop p=a++b)(hn:k.length=a.length):at_ l k p=(a==k):=by
 unfold at_
 rw[k7 h hn]
theorem SA{a r:List Nat}{L:List af}{x:Nat}(ha:∀u∈a,L.contains (ms [u])=true)(hx:L.contains (ms [x])=false):((a++x::r).takeWhile λu=>L.contains (ms [u])).length=a.length:=by
 induction a with
 | nil=>rw[tA,wM,an (by rw[hx];exact cm)]
 | cons u a ih=>rw[K9,wM,aA (ha u (.head _)),b_,b_,ih λw hw=>ha w (.tail _ hw)]
theorem lG{l a r:List Nat}{L:List af}{n x:Nat}(h:l.drop n=a++x::r)(ha:∀u∈a,L.contains (ms [u])=true)(hx:L.contains (ms [x])=false):bu l L n=n+a.length:=by
 unfold bu
 rw[h,SA ha hx]
theorem Ja{multi:Bool}{l:List Nat}{p g:Nat}{r t:List Nat}{x:Res}(h:l.drop p=g::r)(h1:g≠34)(h2:g≠92)(h3:(kF multi).contains g=false)(k:R multi l (p+1) (t++[g]) x):R multi l p t x:=by
 refine br k λf k1 k2 k3=>?_;clear k
 refine(bh (f+1) (by lia) ?_ k3)
 rw[b4]
 rw[(im h)]
 dsimp only
 rw[an h1,an h2,EN,h3,an cm]
 exact k2
theorem uV{multi:Bool}{l:List Nat}{p q:Nat}{r t e:List Nat}{x:Res}(h:l.drop p=92::r)(he:ee multi l p=some (q,e))(k:R multi l q (t++e) x):R multi l p t x:=by
 have hq:=E_ he
 refine br k λf k1 k2 k3=>?_;clear k
 refine(bh (f+1) (by lia) ?_ k3)
 rw[b4]
 rw[(im h)]
 dsimp only
 rw[an (by decide),aA rfl,he]
 exact k2
theorem Va{l:List Nat}{p:Nat}{r t:List Nat}{x:Res}(h:l.drop p=34::r)(ha:at_ l [34,34,34] p=false)(k:R true l (p+1) (t++[34]) x):R true l p t x:=by
 refine br k λf k1 k2 k3=>?_;clear k
 refine(bh (f+1) (by lia) ?_ k3)
 rw[b4]
 rw[(im h)]
 dsimp only
 rw[aA rfl,aA rfl,an (by rw[ha];exact cm)]
 exact k2
theorem Ng{l:List Nat}{p:Nat}{r t:List Nat}(h:l.drop p=34::r):R false l p t (.ok (p+1) t):=by
 have hg:=im h
 have hlt:p<l.length:=(dY.mp hg).1
 refine(bh 1 (by lia) ?_ (λq=>by cases q))
 rw[b4]
 rw[hg]
 dsimp only
 rw[aA rfl,an (by decide)]
theorem ym{l:List Nat}{p:Nat}{r t:List Nat}(h:l.drop p=34::34::34::r):R true l p t (.ok (p+3) t):=by
 have hg:=im h
 have hlt:p<l.length:=(dY.mp hg).1
 refine(bh 1 (by lia) ?_ (λq=>by cases q))
 rw[b4]
 rw[hg]
 dsimp only
 rw[aA rfl,aA rfl,aA (by rw[rj (a:=[34,34,34]) (b:=r) h rfl];rfl)]
theorem Qu{c g:Nat}(h:iq [92,c]=some g):c≠32/\c≠9/\c≠10/\c≠117/\c≠85:=by
 refine(lh ?_ ?_ ?_ ?_ ?_) <;> (rintro rfl;exact nomatch h.symm.trans (by decide +kernel:iq _=none))
theorem Pq{multi:Bool}{l r:List Nat}{p c g:Nat}(h:l.drop p=92::c::r)(he:iq [92,c]=some g):ee multi l p=some (p+2,[g]):=by
 refine gj (Qu he) λh1 h2 h3 h4 h5=>?_
 unfold ee
 rw[(k7 (a:=[92,c]) (b:=r) h rfl),an (by simp[h1,h2,h3]),an (by simp[h4]),an (by simp[h5]),he]
 rfl
theorem E1{multi:Bool}{l r hs:List Nat}{p:Nat}(w:Nat)(hw:w=117/\hs.length=4\/w=85/\hs.length=8)(h:l.drop p=92::w::(hs++r))(h1:f_ gp hs=true)(h2:scalar (hexVal hs)=true):ee multi l p=some (p+2+hs.length,[hexVal hs]):=by
 have e:sl l p (p+2)=[92,w]:=k7 (a:=[92,w]) (b:=hs++r) h rfl
 have hd:l.drop (p+2)=hs++r:=b5 (a:=[92,w]) h
 have hne:hs≠[]:=by rintro rfl;rcases hw with⟨_,q⟩ | ⟨_,q⟩ <;> cases q
 have hx:∀m,m=hs.length->fN l (p+2) m=some (p+2+hs.length,hexVal hs):=by
  rintro m rfl
  unfold fN
  rw[k7 hd rfl,aA ⟨(zS hd hne),h1,h2⟩]
 unfold ee
 rcases hw with⟨rfl,hl⟩ | ⟨rfl,hl⟩
 .rw[e,an (by simp),aA rfl,hx 4 hl.symm];rfl
 .rw[e,an (by simp),an (by simp),aA rfl,hx 8 hl.symm];rfl
theorem Uo{l r ws:List Nat}{p g:Nat}(hw:yO ws)(h:l.drop p=92::(ws++g::r))(hg:[32,9,10].contains g=false):ee true l p=some (p+1+ws.length,[]):=by
 have hn:fK.contains (ms [g])=false:=by rw[uA];exact hg
 have w10:bG.contains (ms [10])=false:=by rw[sa];rfl
 have w32:bG.contains (ms [32])=true:=by rw[sa];rfl
 have n32:fK.contains (ms [32])=true:=by rw[uA];rfl
 unfold ee
 rcases hw with rfl | rfl | rfl | rfl
 .rw[(k7 (a:=[92,10]) (b:=g::r) h rfl),aA ⟨rfl,by simp⟩,aA rfl,lG (l:=l) (n:=p+2) (a:=[]) (x:=g) (r:=r) (b5 (a:=[92,10]) h) (λu hu=>nomatch hu) hn]
  rfl
 .have e:sl l p (p+2)=[92,32]:=k7 (a:=[92,32]) (b:=10::9::10::g::r) h rfl
  have d2:l.drop (p+2)=10::9::10::g::r:=b5 (a:=[92,32]) h
  have d3:l.drop (p+3)=[9,10]++g::r:=b5 (a:=[92,32,10]) h
  rw[e,aA ⟨rfl,by exact Or.symm (Or.inr rfl)⟩,an (by simp),lG (a:=[]) d2 (λu hu=>nomatch hu) w10]
  show(match l[p+2+0]? with | none=>_ | some u=>_)=_
  rw[Al,im d2]
  dsimp only
  rw[aA rfl]
  show some (bu l fK (p+3),_)=_
  rw[lG d3 (λu hu=>by simp at hu;rcases hu with rfl | rfl;exact(by rw[uA];rfl);exact(by rw[uA];rfl)) hn]
  rfl
 .have e:sl l p (p+2)=[92,9]:=k7 (a:=[92,9]) (b:=32::10::g::r) h rfl
  have d2:l.drop (p+2)=[32]++10::g::r:=b5 (a:=[92,9]) h
  have d3:l.drop (p+3)=10::g::r:=b5 (a:=[92,9,32]) h
  have d4:l.drop (p+4)=[]++g::r:=b5 (a:=[92,9,32,10]) h
  rw[e,aA ⟨rfl,by simp⟩,an (by simp),lG d2 (λu hu=>by simp at hu;rw[hu];exact w32) w10]
  show(match l[p+3]? with | none=>_ | some u=>_)=_
  rw[im d3]
  dsimp only
  rw[aA rfl]
  show some (bu l fK (p+4),_)=_
  rw[lG d4 (λu hu=>nomatch hu) hn]
  rfl
 .have e:sl l p (p+2)=[92,32]:=k7 (a:=[92,32]) (b:=32::10::32::g::r) h rfl
  have d2:l.drop (p+2)=[32]++10::32::g::r:=b5 (a:=[92,32]) h
  have d3:l.drop (p+3)=10::32::g::r:=b5 (a:=[92,32,32]) h
  have d4:l.drop (p+4)=[32]++g::r:=b5 (a:=[92,32,32,10]) h
  rw[e,aA ⟨rfl,by exact Or.symm (Or.inr rfl)⟩,an (by simp),lG d2 (λu hu=>by simp at hu;rw[hu];exact w32) w10]
  show(match l[p+3]? with | none=>_ | some u=>_)=_
  rw[im d3]
  dsimp only
  rw[aA rfl]
  show some (bu l fK (p+4),_)=_
  rw[lG d4 (λu hu=>by simp at hu;rw[hu];exact n32) hn]
  rfl
set_option tactic.hygienic true in
theorem DV{multi:Bool}{l:List Nat}{p g:Nat}{s r t:List Nat}{x:Res}(U:ez multi s g)(h:l.drop p=s++r)(hq:s=[34]->at_ l [34,34,34] p=false)(k:R multi l (p+s.length) (t++[g]) x):R multi l p t x:=by
 cases U with
 | bare a b c=>exact Ja h a b c k
 | quote a=>subst a;exact Va h (hq rfl) k
 | short a=>exact uV h (Pq h a) k
 | u4 a b c=>exact uV h (E1 117 (.inl ⟨rfl,a⟩) h b c) (by replace k:=bt▸k;replace k:=(bR (lK ..):_)▸k;exact k)
 | u8 a b c=>exact uV h (E1 85 (.inr ⟨rfl,a⟩) h b c) (by replace k:=bt▸k;replace k:=(bR (lK ..):_)▸k;exact k)
 | pad a b c d e f=>
  rename_i ws
  subst a
  have h':l.drop p=92::(ws++g::r):=by rw[h];simp
  have h2:l.drop (p+1+ws.length)=g::r:=by
   have:=b5 (a:=92::ws) (b:=g::r) (by rw[h'];rfl)
   replace this:=b_▸this
   rw[show p+1+ws.length=p+(ws.length+1) by exact aaf p ws.length];exact this
  refine uV h' (Uo b h' e) ?_
  rw[gQ]
  refine Ja h2 c d f ?_
  have:p+([92]++ws++[g]).length=p+1+ws.length+1:=by simp;lia
  replace k:=this▸k
  exact k
noncomputable def jJ(multi:Bool)(us:aW):Prop:=∀p∈us,ez multi p.1 p.2
theorem gI(u:List Nat×Nat)(us:aW):srcOf (u::us)=u.1++srcOf us:=rfl
theorem rC(a b:aW):srcOf (a++b)=srcOf a++srcOf b:=by unfold srcOf;simp
theorem pH(u:List Nat×Nat)(us:aW):aY (u::us)=u.2::aY us:=rfl
theorem Rl(a b:aW):aY (a++b)=aY a++aY b:=by unfold aY;exact mO
theorem ez.first{multi:Bool}{s:List Nat}{g:Nat}(h:ez multi s g)(hn:s≠[34]):∃y r,s=y::r/\y≠34:=by
 cases h with
 | bare a b c=>exact(cM _ _ rfl a)
 | quote a=>exact absurd rfl hn
 | short a=>exact(cM _ _ rfl (by decide))
 | u4 a b c=>exact(cM 92 _ rfl (by decide))
 | u8 a b c=>exact(cM 92 _ rfl (by decide))
 | pad a b c d e f=>exact(cM 92 _ rfl (by decide))
theorem ez.yn{s:List Nat}{g:Nat}(h:ez false s g):s≠[34]:=by
 rintro q
 cases h with
 | bare a b c=>exact a (by exact one_inj (aI Str.mk (aI J2 q)))
 | quote a=>cases a
 | short a=>cases q
 | u4 a b c=>cases q
 | u8 a b c=>cases q
 | pad a=>cases a
theorem ez.zR{multi:Bool}{g:Nat}(h:ez multi [34] g):g=34:=by
 generalize hs:[34]=s at h
 cases h with
 | bare a b c=>exact(by simpa using hs:34=g).symm
 | quote a=>rfl
 | short a=>simp at hs
 | u4 a b c=>simp at hs
 | u8 a b c=>simp at hs
 | pad a b c d e f=>simp at hs
theorem Gq{multi:Bool}{l:List Nat}{x:Res}:∀(us:aW) {p:Nat} {r t:List Nat},jJ multi us->(∀u∈us,u.1≠[34])->l.drop p=srcOf us++r->R multi l (p+(srcOf us).length) (t++aY us) x->R multi l p t x
 | [],p,r,t,_,_,_,k=>by
  have k:R multi l (p+0) (t++[]) x:=k
  replace k:=(gQ ..)▸k;exact k
 | u::us,p,r,t,h,hq,hd,k=>by
  replace hd:=(gI ..)▸hd;replace hd:=(fF ..)▸hd
  refine DV (h u (.head _)) hd (λq=>absurd q (hq u (.head _))) ?_
  refine Gq us (r:=r) (λv hv=>h v (.tail _ hv)) (λv hv=>hq v (.tail _ hv)) (b5 hd) ?_
  replace k:=(gI ..)▸k;replace k:=bt▸k;replace k:=(bR (lK ..):_)▸k;replace k:=(pH ..)▸k
  rw[fF]
  exact k
theorem CK{l r:List Nat}{p y:Nat}(h:l.drop p=34::y::r)(hy:y≠34):at_ l [34,34,34] p=false:=by
 unfold at_ sl
 rw[h,show p+[34,34,34].length-p=3 by exact Nat.add_sub_self_left p [34,34,34].length]
 show((34::y::r.take 1)==[34,34,34])=false
 rw[beq_eq_false_iff_ne]
 intro q
 simp at q
 exact hy q.1
theorem Ge{l r:List Nat}{p y:Nat}(h:l.drop p=34::34::y::r)(hy:y≠34):at_ l [34,34,34] p=false:=by
 rw[rj (k:=[34,34,34]) (a:=[34,34,y]) (b:=r) h rfl,beq_eq_false_iff_ne]
 intro q
 simp at q
 exact hy q
theorem rG{l r:List Nat}{p y:Nat}(h:l.drop p=y::r):at_ l [34] p=(y==34):=by
 rw[rj (k:=[34]) (a:=[y]) (b:=r) h rfl]
 simp
theorem zD{l r t:List Nat}{us:aW}{p:Nat}(hu:jJ false us)(h:l.drop p=srcOf us++34::r):b4 false l (l.length+1) p [] = .ok (p+(srcOf us).length+1) (aY us):=by
 refine R.eq (Gq us hu (λu hu'=>(hu u hu').yn) h ?_)
 exact Ng (b5 h)
theorem SL{l r:List Nat}{us:aW}{p x:Nat}(hu:jJ false us)(h:l.drop p=34::(srcOf us++34::x::r))(hx:x≠34):at_ l [34,34,34] p=false/\eP l p = .ok (p+1+(srcOf us).length+1) (aY us):=by
 have ha:at_ l [34,34,34] p=false:=by
  cases us with
  | nil=>exact Ge h hx
  | cons u us=>
   refine gE ((hu u (.head _)).first (hu u (.head _)).yn) λy r' e hy=>?_
   replace h:=(gI ..)▸h;replace h:=e▸h
   exact CK h hy
 refine⟨ha,?_⟩
 unfold eP
 rw[ha,an cm]
 exact zD (t:=[]) hu (b5 (a:=[34]) h)
noncomputable def lead:aW->Nat
 | []=>0
 | u::us=>if u.1=[34] then lead us+1 else 0
noncomputable def gD:aW->Prop
 | []=>True
 | u::us=>lead (u::us)<=2/\gD us
noncomputable def ui(l:List Nat):Res->Res
 | .ok q t=>if at_ l [34] q=true then(if at_ l [34] (q+1)=true then .ok (q+2) (t++[34,34]) else .ok (q+1) (t++[34])) else .ok q t
 | r=>r
theorem Er{us:aW}(h:lead us=0):us=[]\/∃v us',us=v::us'/\v.1≠[34]:=by
 cases us with
 | nil=>exact .inl rfl
 | cons v us=>
  refine .inr (cM v us rfl (λq=>?_))
  rewrite[lead] at h
  replace h:=(aA q)▸h
  lia
theorem Uf{l:List Nat}(us:aW):∀{p x:Nat} {r t:List Nat},jJ true us->gD us->l.drop p=srcOf us++34::34::34::x::r->x≠34->∃y,R true l p t y/\ui l y = .ok (p+(srcOf us).length+3) (t++aY us):=by
 induction us with
 | nil=>
  intro p x r t Z Z hd hx
  have hd:l.drop p=34::34::34::x::r:=hd
  refine(aw _ (ym hd) ?_)
  have d3:l.drop (p+3)=x::r:=b5 (a:=[34,34,34]) hd
  show(if at_ l [34] (p+3)=true then _ else Res.ok (p+3) t) = .ok (p+0+3) (t++[])
  rw[rG d3,an (by simpa using hx),gQ]
 | cons u us IH=>
  intro p x r t h hq hd hx
  have hu:=h u (.head _)
  have hd':=hd
  replace hd:=(gI ..)▸hd;replace hd:=(fF ..)▸hd
  have ih:∀t,∃y,R true l (p+u.1.length) t y/\ui l y = .ok (p+u.1.length+(srcOf us).length+3) (t++aY us):=λt=>IH (λv hv=>h v (.tail _ hv)) hq.2 (b5 hd) hx
  have go:(u.1=[34]->at_ l [34,34,34] p=false)->∃y,R true l p t y/\ui l y = .ok (p+(srcOf (u::us)).length+3) (t++aY (u::us)):=λha=>by
   refine aC (ih (t++[u.2])) λy h1 h2=>?_
   refine(aw y (DV hu hd ha h1) ?_)
   rw[h2,gI,bt,pH,fF,lK p]
   rfl
  by_cases h34:u.1=[34]
  .have hg:u.2=34:=by replace hu:=h34▸hu;exact hu.zR
   have hl:=hq.1
   rewrite[lead] at hl
   replace hl:=(aA h34)▸hl
   replace hd:=h34▸hd
   rcases us with _ | ⟨v,us⟩
   .have hd:l.drop p=34::34::34::34::x::r:=hd
    refine(aw _ (ym hd) ?_)
    have d3:l.drop (p+3)=34::x::r:=b5 (a:=[34,34,34]) hd
    have d4:l.drop (p+3+1)=x::r:=b5 (a:=[34,34,34,34]) hd
    show(if at_ l [34] (p+3)=true then(if at_ l [34] (p+3+1)=true then _ else Res.ok (p+3+1) (t++[34])) else _)=_
    rw[rG d3,aA (show((34:Nat)==34)=true from rfl),rG d4,an (by simpa using hx),gI,h34,pH,hg]
    rfl
   .by_cases hv:v.1=[34]
    .have hg2:v.2=34:=by have:=h v (.tail _ (.head _));replace this:=hv▸this;exact this.zR
     rewrite[lead] at hl
     replace hl:=(aA hv)▸hl
     rcases Er (us:=us) (by lia) with rfl | ⟨w,us',rfl,hw⟩
     .replace hd:=(gI ..)▸hd;replace hd:=hv▸hd
      have hd:l.drop p=34::34::34::34::34::x::r:=hd
      refine(aw _ (ym hd) ?_)
      have d3:l.drop (p+3)=34::34::x::r:=b5 (a:=[34,34,34]) hd
      have d4:l.drop (p+3+1)=34::x::r:=b5 (a:=[34,34,34,34]) hd
      show(if at_ l [34] (p+3)=true then(if at_ l [34] (p+3+1)=true then Res.ok (p+3+2) (t++[34,34]) else _) else _)=_
      rw[rG d3,aA (show((34:Nat)==34)=true from rfl),rG d4,aA (show((34:Nat)==34)=true from rfl),gI,h34,gI,hv,pH,hg,pH,hg2]
      rfl
     .refine go λZ=>?_
      refine gE ((h w (.tail _ (.tail _ (.head _)))).first hw) λy r' e hy=>?_
      replace hd:=(gI ..)▸hd;replace hd:=hv▸hd;replace hd:=(gI ..)▸hd;replace hd:=e▸hd
      exact Ge hd hy
    .refine go λZ=>?_
     refine gE ((h v (.tail _ (.head _))).first hv) λy r' e hy=>?_
     replace hd:=(gI ..)▸hd;replace hd:=e▸hd
     exact CK hd hy
  .exact go λq=>absurd q h34
set_option backward.match.sparseCases true in
theorem MX{l r:List Nat}{us:aW}{p x:Nat}(hu:jJ true us)(hq:gD us)(h:l.drop p=34::34::34::10::(srcOf us++34::34::34::x::r))(hx:x≠34):at_ l [34,34,34] p=true/\eP l p = .ok (p+4+(srcOf us).length+3) (aY us):=by
 have ha:at_ l [34,34,34] p=true:=by rw[rj (a:=[34,34,34]) h rfl];rfl
 refine⟨ha,?_⟩
 have h10:at_ l [10] (p+3)=true:=by exact(rj (k:=[10]) (a:=[10]) (p:=p+3) (b5 (a:=[34,34,34]) h) rfl).trans rfl
 refine aC (Uf us (t:=[]) hu hq (b5 (a:=[34,34,34,10]) h) hx) λy h1 h2=>?_
 unfold eP
 rw[aA ha]
 unfold mC
 rw[aA h10,h1.eq]
 show ui l y=_
 exact h2
theorem DK{l r:List Nat}{us:aW}{many:Bool}{p x:Nat}(hu:jJ many us)(hq:gD us)(h:l.drop p=bq many++(srcOf us++(bp many++x::r)))(hx:x≠34) :
  at_ l [34,34,34] p=many/\eP l p = .ok (p+(bq many).length+(srcOf us).length+(bp many).length) (aY us):=by
 cases many with
 | true=>exact MX hu hq h hx
 | false=>exact SL hu h hx
noncomputable def Ew:List (List Nat):=[[10],[32,10,9,10],[9,32,10],[32,32,10,32]]
noncomputable def x5(many:Bool)(s:List Nat)(g:Nat):Bool:=
 (s==[g]&&g !=34&&g !=92&&!(kF many).contains g)||(many&&s==[34]&&g==34)||(s.length==2&&s.take 1==[92]&&iq s==some g)
 || (s.take 2==[92,117]&&(s.drop 2).length==4&&f_ gp (s.drop 2)&&scalar (hexVal (s.drop 2))&&hexVal (s.drop 2)==g)
 || (s.take 2==[92,85]&&(s.drop 2).length==8&&f_ gp (s.drop 2)&&scalar (hexVal (s.drop 2))&&hexVal (s.drop 2)==g)
 || (many&&Ew.any (λws=>s==[92]++ws++[g])&&g !=34&&g !=92&&!([32,9,10].contains g)&&!(kF many).contains g)
theorem OA{many:Bool}{s:List Nat}{g:Nat}(h:x5 many s g=true):ez many s g:=by
 unfold x5 at h
 simp only[sW,jr,beq_iff_eq,bne_iff_ne,LU,KO] at h
 rcases h with((((h | h) | h) | h) | h) | h
 .refine aN h λj1 h3=>?_;clear h;refine aN j1 λj2 h2=>?_;clear j1;refine aN j2 λj3 h1=>?_;clear j2;subst j3
  exact .bare h1 h2 h3
 .refine aN h λj1 j2=>?_;clear h;refine aN j1 λh1 j3=>?_;clear j1;subst j3;subst j2
  exact .quote h1
 .refine aN h λj1 h3=>?_;clear h;refine aN j1 λh1 h2=>?_;clear j1
  match s,h1,h2,h3 with
  | [a,b],_,h2,h3=>
   have:a=92:=by exact one_inj (aI Str.mk (aI J2 h2))
   subst this
   exact .short h3
 .refine aN h λj1 j2=>?_;clear h;refine aN j1 λj3 h4=>?_;clear j1;refine aN j3 λj4 h3=>?_;clear j3;refine aN j4 λh1 h2=>?_;clear j4;subst j2
  have:=ez.u4 (multi:=many) h2 h3 h4
  replace this:=(bR (by rw[<-h1,sO]:s=[92,117]++s.drop 2):_)▸this
  exact this
 .refine aN h λj1 j2=>?_;clear h;refine aN j1 λj3 h4=>?_;clear j1;refine aN j3 λj4 h3=>?_;clear j3;refine aN j4 λh1 h2=>?_;clear j4;subst j2
  have:=ez.u8 (multi:=many) h2 h3 h4
  replace this:=(bR (by rw[<-h1,sO]:s=[92,85]++s.drop 2):_)▸this
  exact this
 .obtain ⟨⟨⟨⟨⟨h1,ws,hw,rfl⟩,h2⟩,h3⟩,h4⟩,h5⟩:=h
  refine .pad h1 ?_ h2 h3 h4 h5
  unfold Ew at hw
  simpa[yO] using hw
noncomputable def iA(many:Bool)(p:List Nat×Nat):Bool:=
 x5 many p.1 p.2&&p.1.all (λu=>!(kF many).contains u)&&(dQ p.1.length).all (λi=>i==0||!jQ many p.1 0 i)&&jQ many p.1 0 p.1.length
noncomputable def mi(many:Bool):List (List Nat×Nat):=(dQ 4).flatMap (λlf=>(dQ 64).map λd=>(fM many lf d,signOf d))++[([97],97),([98],98),([92,34],34)]
theorem M3:(mi false).eraseDups.all (iA false)=true:=by decide +kernel
theorem R7:(mi true).eraseDups.all (iA true)=true:=by decide +kernel
theorem nH{many:Bool}{p:List Nat×Nat}(h:p∈mi many):iA many p=true:=by
 have h':p∈(mi many).eraseDups:=List.mem_eraseDups.mpr h
 cases many with
 | false=>exact fE.mp M3 p h'
 | true=>exact fE.mp R7 p h'
theorem Up(many:Bool)(left digit:Nat):fM many left digit=fM many (left%4) digit:=by
 unfold fM
 rw[(Nat.mod_mod_of_dvd _ (by decide):left%4%2=left%2),(by exact Nat.mod_mod _ _:left%4%4=left%4)]
theorem Tj(many:Bool)(left digit:Nat)(hd:digit<64):(fM many left digit,signOf digit)∈mi many:=by
 rw[Up]
 refine Z7 _ (List.mem_flatMap.mpr (aw (left%4) (lJ.mpr (lM _ (by decide))) (cO.mpr (aw digit (lJ.mpr hd) rfl))))
noncomputable def ej(many:Bool)(us:aW):Prop:=∀p∈us,p∈mi many
theorem r7{many:Bool}{p:List Nat×Nat}(h:iA many p=true):ez many p.1 p.2:=by
 unfold iA at h
 simp only[jr] at h
 exact OA h.1.1.1
theorem JD{many:Bool}{p:List Nat×Nat}(h:iA many p=true):eA many p.1:=by
 unfold iA at h
 simp only[jr,fE] at h
 intro u hu
 have:=h.1.1.2 u hu
 exact bR ((λ{x y}=>oC.mp) (id (bR this)))
theorem SV{many:Bool}{p:List Nat×Nat}(h:iA many p=true){i:Nat}(h0:0<i)(hi:i<p.1.length):jQ many p.1 0 i=false:=by
 unfold iA at h
 simp only[jr,fE] at h
 have:=h.1.2 i (lJ.mpr hi)
 simp only[sW,beq_iff_eq,LU] at this
 rcases this with q | q
 .lia
 .exact q
theorem OU{many:Bool}{p:List Nat×Nat}(h:iA many p=true):jQ many p.1 0 p.1.length=true:=by
 unfold iA at h
 simp only[jr] at h
 exact h.2
theorem ej.oq{many:Bool}{us:aW}(h:ej many us):jJ many us:=λp hp=>r7 (nH (h p hp))
theorem ej.app{many:Bool}{a b:aW}(x:ej many a)(y:ej many b):ej many (a++b):=λp hp=>by
 rcases jp.mp hp with h | h;exact x p h;exact y p h
theorem ej.nil{many:Bool}:ej many []:=λp hp=>nomatch hp
theorem ej.Gv{many:Bool}{us:aW}(h:ej many us):eA many (srcOf us):=by
 intro u hu
 unfold srcOf at hu
 refine aC (Mc.mp hu) λs hs hm=>?_
 refine aC (cO.mp hs) λp hp j1=>?_;subst j1
 exact JD (nH (h p hp)) u hm
theorem Pc{many:Bool}{acc:aW}{s:List Nat}{g:Nat}(h:(s,g)∈mi many):(lr acc s,g)∈mi many:=by
 unfold lr
 split
 .rename_i z
  have:g=34:=by
   have u:=r7 (nH h)
   replace u:=z.1▸u
   exact u.zR
  subst this
  exact tz _ (.tail _ (.tail _ (.head _)))
 .exact h
noncomputable def je:aW->Prop
 | []=>True
 | u::us=>(u.1=[34]->lead us=0)/\je us
theorem je.snoc:∀{acc:aW} {u:List Nat×Nat},je acc->(acc.getLast?.map (·.1)=some [34]->u.1≠[34])->je (acc++[u])
 | [],u,_,_=>⟨λZ=>rfl,trivial⟩
 | [v],u,h,hq=>⟨λhv=>by
   have:=hq (by simp[hv])
   show lead [u]=0
   rw[lead];rw[an this],λZ=>rfl,trivial⟩
 | v::w::acc,u,h,hq=>by
  have ih:=je.snoc (acc:=w::acc) (u:=u) h.2 (by replace hq:=Md▸hq;exact hq)
  refine⟨λhv=>?_,ih⟩
  have:=h.1 hv
  rewrite[lead] at this
  show lead (w::(acc++[u]))=0
  rw[lead]
  split at this
  .lia
  .rename_i z;rw[an z]
theorem xH(most:Nat)(many:Bool):∀(f left:Nat) (acc:aW),je acc->je (fm most many f left acc)
 | 0,_,_,h=>h
 | f+1,left,acc,h=>by
  rw[fm]
  split
  .refine xH most many f _ _ (h.snoc λhl=>?_)
   show lr acc (fM many (left/64) (left%64))≠[34]
   unfold lr
   split
   .decide
   .rename_i z;exact λq=>z ⟨q,hl⟩
  .exact h
theorem rS(most:Nat)(many:Bool):∀(f left:Nat) (acc:aW),ej many acc->ej many (fm most many f left acc)
 | 0,_,_,h=>h
 | f+1,left,acc,h=>by
  rw[fm]
  split
  .refine rS most many f _ _ (h.app λp hp=>?_)
   rw[eX.mp hp]
   exact Pc (Tj many _ _ (lM _ (by decide)))
  .exact h
theorem Cy:∀{a b:aW},je a->je b->gD (a++b)/\lead (a++b)<=2/\(∀u a',a=u::a'->u.1≠[34]->lead (a++b)=0)
 | [],b,_,hb=>by
  have key:∀b:aW,je b->gD b/\lead b<=1:=by
   intro b
   induction b with
   | nil=>intro Z;exact⟨trivial,cQ _⟩
   | cons v b ih=>
    intro h
    refine aN (ih h.2) λh1 h2=>?_
    have hl:lead (v::b)<=1:=by
     rw[lead]
     split
     .rename_i z;have:=h.1 z;exact wN this
     .exact lV _ _
    exact⟨⟨by exact aJ ‹_› (lV _ _),h1⟩,hl⟩
  refine aN (key b hb) λh1 h2=>?_
  exact⟨h1,aJ h2 (by decide),λu a' e=>nomatch e⟩
 | u::a,b,ha,hb=>by
  refine eO (Cy ha.2 hb) λh1 h2 h3=>?_
  have hl1:lead ([]++b)<=1:=by
   cases b with
   | nil=>exact cQ _
   | cons v b=>
    show lead (v::b)<=1
    rw[lead]
    split
    .rename_i z;have:=hb.1 z;exact wN this
    .exact lV _ _
  have hl:lead (u::(a++b))<=2:=by
   rw[lead]
   split
   .rename_i z
    rcases Er (ha.1 z) with rfl | ⟨v,a',rfl,hv⟩
    .exact iG ‹_› _
    .have:=h3 v a' rfl hv
     lia
   .exact lV _ _
  refine⟨⟨hl,h1⟩,hl,λv a' e hv=>?_⟩
  cases e
  show lead (u::(a++b))=0
  rw[lead]
  rw[an hv]
theorem yH(x:Int):ej false (nameOf x):=by
 unfold nameOf ji
 split
 .intro p hp;rw[eX.mp hp];exact tz _ (.head _)
 .exact rS _ _ _ _ _ .nil
theorem rD(x:Int):ej false (newOf x):=by
 unfold newOf ji
 split
 .intro p hp;rw[eX.mp hp];exact tz _ (.tail _ (.head _))
 .exact rS _ _ _ _ _ .nil
theorem y_(x:Int):ej (gH x) (fL x):=(rS _ _ _ _ _ .nil).app (rS _ _ _ _ _ .nil)
theorem IS(x:Int):gD (fL x):=(Cy (xH _ _ _ _ _ (show je [] from trivial)) (xH _ _ _ _ _ (show je [] from trivial))).1
theorem QI(x:Int):newOf x≠[]:=by
 unfold newOf ji
 split
 .exact Me ([98],98) []
 .rename_i z;intro q;replace z:=q▸z;exact z rfl
theorem WI{l:List Nat}{multi:Bool}(h:eA false l):eA multi l:=λu hu=>Ip (h u hu)
theorem Xq{l:List Nat}(h:at_ l [34,34,34] 0=true/\eA true l\/eA false l):eP l 0≠.bad:=by
 unfold eP
 have hm:eA true l->mC l 0≠.bad:=λhL=>by
  unfold mC
  generalize (if at_ l [10] (0+3)=true then 0+4 else 0+3)=p
  have hb:=qL hL (l.length+1) p [] (by lia) (by exact sw _)
  cases hx:b4 true l (l.length+1) p [] with
  | bad=>exact absurd hx hb
  | err=>exact λq=>by cases q
  | ok q t=>
   dsimp only
   split
   .split
    .exact λq=>by cases q
    .exact λq=>by cases q
   .exact λq=>by cases q
 rcases h with⟨h1,h2⟩ | h
 .rw[aA h1];exact hm h2
 .split
  .exact hm (WI h)
  .exact qL h _ _ _ (by lia) (by exact sw _)
theorem MO(many:Bool):eA many (bq many):=by cases many <;> (unfold eA;decide)
theorem Og(many:Bool):eA many (bp many):=by cases many <;> (unfold eA;decide)
theorem eA.sl{many:Bool}{l:List Nat}(h:eA many l)(a b:Nat):eA many (sl l a b):=λu hu=>h u (BW (aag hu))
theorem Cu{A s C:List Nat}{i:Nat}(hi:i<=s.length):Internal.sl (A++(s++C)) A.length (A.length+i)=Internal.sl s 0 i:=by
 unfold Internal.sl
 rw[aae,BU,qd,lT,aah hi]
theorem T2{many:Bool}{A s C:List Nat}{i:Nat}(hi:i<=s.length):jQ many (A++(s++C)) A.length (A.length+i)=jQ many s 0 i:=by
 unfold jQ
 rw[Cu hi,BU,lT]
theorem Hw{many:Bool}{A C:List Nat}{p:List Nat×Nat}(h:iA many p=true):∀(f i:Nat),0<i->i<=p.1.length->f=(A++(p.1++C)).length-(A.length+i)->li many (A++(p.1++C)) A.length f (A.length+i)=A.length+p.1.length
 | 0,i,h0,hi,hf=>by
  rw[li]
  simp only[bt] at hf |-
  exact aI (A.length + ·) (Y4 (aJ (Nat.le_of_add_le_add_left (wN hf.symm)) hi) (dX _ _))
 | f+1,i,h0,hi,hf=>by
  rw[li]
  rw[T2 hi]
  by_cases q:i=p.1.length
  .subst q
   rw[OU h,aA rfl]
  .rw[SV h h0 (by exact Nat.lt_of_le_of_ne ‹_› ‹_›),an cm,lK]
   exact Hw h f (i+1) (by exact bQ ‹_› (dX _ _)) (by lia) (aI Y6 hf)
theorem Jj{many:Bool}{A C:List Nat}{p:List Nat×Nat}(h:iA many p=true)(hL:eA many (A++(p.1++C)))(hz:(A++(p.1++C)).length<1000000):la many (A++(p.1++C)) A.length=some (A.length+p.1.length):=by
 have hp:0<p.1.length:=qx.mpr ((r7 h).ne)
 have hb:∀k,A.length<k->k<(A++(p.1++C)).length->eP (bq many++Internal.sl (A++(p.1++C)) A.length k++bp many) 0≠.bad:=λk Z Z=>by
  have hl:eA many (bq many++Internal.sl (A++(p.1++C)) A.length k++bp many):=((MO many).app (hL.sl _ _)).app (Og many)
  refine Xq ?_
  cases many with
  | false=>exact .inr hl
  | true=>exact .inl ⟨rfl,hl⟩
 unfold la
 rw[aA ⟨by simp only[bt];lia,hz,hb⟩,Hw h _ 1 (by decide) hp (by exact Al ((A++(p.fst++C)).length.sub A.length).pred)]
theorem GR(done:aW)(u:List Nat×Nat)(us:aW):srcOf (done++u::us)=srcOf done++(u.1++srcOf us):=by rw[rC,gI]
theorem GI{many:Bool}:∀(n:Nat) (done us:aW),ej many (done++us)->(srcOf (done++us)).length<1000000->n<=us.length->lq many (srcOf (done++us)) n (srcOf done).length=some (srcOf (done++us.take n)).length
 | 0,done,us,_,_,_=>by rw[lq];rw[YR,gQ]
 | n+1,done,[],_,_,hn=>by simp at hn
 | n+1,done,u::us,h,hz,hn=>by
  rw[lq]
  have e:=GR done u us
  have hL:=h.Gv
  rw[e] at hL hz |-
  rw[Jj (nH (h u (tz _ (.head _)))) hL hz,kO,<-e]
  have e2:done++u::us=(done++[u])++us:=by exact Bf done u us
  rw[e2,(by rw[rC,bt];simp[srcOf]:(srcOf done).length+u.1.length=(srcOf (done++[u])).length),GI n (done++[u]) us (e2▸h) (by rw[<-e2,e];exact hz) (by exact mX hn)]
  simp
theorem Ae{old:List Nat}{new:aW}(ho:0<old.length):∀(f g:Nat) (us:aW),us.length<f->us.length<g->d7 old new f us=d7 old new g us
 | 0,g,us,hf,_=>by exact absurd ‹_› (m0 _)
 | f+1,0,us,_,hg=>by exact absurd ‹_› (m0 _)
 | f+1,g+1,[],_,_=>by unfold d7;rfl
 | f+1,g+1,u::us,hf,hg=>by
  rw[n_,n_]
  rw[b_] at hf hg
  have hd:((u::us).drop old.length).length<=us.length:=by simp;exact jC ‹_›
  rw[Ae ho f g _ (by lia) (by lia),Ae ho f g us (by exact vy ‹_›) (by exact vy ‹_›)]
theorem yr{old:List Nat}{new:aW}(ho:0<old.length)(u:List Nat×Nat)(us:aW):dO old new (u::us)=if aY ((u::us).take old.length)=old then new++dO old new ((u::us).drop old.length) else u::dO old new us:=by
 unfold dO
 rw[b_,n_]
 have hd:((u::us).drop old.length).length<=us.length:=by simp;exact jC ‹_›
 rw[Ae ho (us.length+1) (((u::us).drop old.length).length+1) _ (by exact pX ‹_›) (by exact dm _)]
theorem G6{old:List Nat}{new:aW}:dO old new []=[]:=rfl
theorem IR{old:List Nat}{us:aW}:old.isPrefixOf (aY us)=true<->aY (us.take old.length)=old:=by
 rw[ZD,ZE]
 unfold aY
 rw[L8]
 exact eq_comm
theorem yN{many:Bool}{old:List Nat}{new:aW}(ho:0<old.length):∀(f:Nat) (done us:aW) (made:List Nat),ej many (done++us)->(srcOf (done++us)).length<1000000->us.length<f->made.length+(srcOf (dO old new us)).length<=1000000->us.length<=1000000->
  gc many old (srcOf new) (srcOf (done++us)) f (srcOf done).length (aY us) made=some (made++srcOf (dO old new us))
 | 0,done,us,made,_,_,hf,_,_=>by exact absurd ‹_› (m0 _)
 | f+1,done,[],made,h,hz,hf,hm,_=>by
  have hm':made.length<=1000000:=by exact cN ‹_›
  refine(an (by simp[aY];assumption)).trans ?_
  rw[gQ,an (lN _),G6]
  simp[srcOf]
 | f+1,done,u::us,made,h,hz,hf,hm,hu1=>by
  have hu:iA many u=true:=nH (h u (tz _ (.head _)))
  have hne:0<u.1.length:=qx.mpr (r7 hu).ne
  have e:=GR done u us
  rw[b_] at hf hu1
  have hr:=yr (new:=new) ho u us
  refine(an (by simp[aY];lia)).trans ?_
  rw[aA (by rw[e];simp only[bt];lia)]
  by_cases hp:aY ((u::us).take old.length)=old
  .have hlen:old.length<=(u::us).length:=by
    have:=aI gR hp
    unfold aY at this
    replace this:=(db ..)▸this;replace this:=qw▸this
    lia
   replace hr:=(aA hp)▸hr
   rw[aA (IR.mpr hp),GI old.length done (u::us) h hz hlen,kO]
   have e2:done++u::us=(done++(u::us).take old.length)++(u::us).drop old.length:=by rw[fF,sO]
   have hd:((u::us).drop old.length).length<=us.length:=by simp;exact jC ‹_›
   replace hm:=hr▸hm;replace hm:=(rC ..)▸hm;replace hm:=bt▸hm
   rw[(by unfold aY;rw[w0]:(aY (u::us)).drop old.length=aY ((u::us).drop old.length))]
   have ih:=yN (many:=many) (new:=new) ho f (done++(u::us).take old.length) ((u::us).drop old.length) (made++srcOf new) (e2▸h) (e2▸hz) (by lia) (by rw[bt];lia) (by lia)
   replace ih:=(bR e2:_)▸ih
   rw[ih,hr,rC,fF]
  .replace hr:=(an hp)▸hr
   rw[an (λq=>hp (IR.mp q))]
   have hL:=h.Gv
   have hz':=hz
   rw[e] at hL hz'
   rw[e,Jj hu hL hz',kO,<-e]
   have e2:done++u::us=(done++[u])++us:=by exact Bf done u us
   have e3:(srcOf done).length+u.1.length=(srcOf (done++[u])).length:=by rw[rC,bt];simp[srcOf]
   have e4:Internal.sl (srcOf (done++u::us)) (srcOf done).length ((srcOf done).length+u.1.length)=u.1:=by
    rw[e,Cu (bk _)];unfold Internal.sl;simp
   replace hm:=hr▸hm;replace hm:=(gI ..)▸hm;replace hm:=bt▸hm
   rw[e4,(rfl:(aY (u::us)).drop 1=aY us),e3]
   have ih:=yN (many:=many) (new:=new) ho f (done++[u]) us (made++u.1) (e2▸h) (e2▸hz) (by exact vy ‹_›) (by rw[bt];lia) (by exact qy ‹_›)
   replace ih:=(bR e2:_)▸ih
   rw[ih,hr,gI,fF]
abbrev Row:=aW×aW×Bool
structure Hm(r:Row):Prop where
 n:ej false r.1
 t:ej r.2.2 r.2.1
 q:gD r.2.1
noncomputable def g7(r:Row):List Nat:=rowOf r.1 r.2.1 r.2.2
noncomputable def fileOf(rs:List Row):List Nat:=(rs.map g7).flatten
noncomputable def dG(old:List Nat)(new:aW)(r:Row):Row:=(dO old new r.1,dO old new r.2.1,r.2.2)
theorem mI(r:Row)(rs:List Row):fileOf (r::rs)=g7 r++fileOf rs:=rfl
theorem GW:lit "\" = " = [34,32,61,32]:=by decide +kernel
theorem Um:lit " = " = [32,61,32]:=by decide +kernel
theorem ph(r:Row):g7 r=34::(srcOf r.1++34::32::61::32::(bq r.2.2++(srcOf r.2.1++(bp r.2.2++[10])))):=by
 unfold g7 rowOf
 rw[GW]
 simp
theorem Oe{src:List Nat}{pos:Nat}{us:aW}{r:List Nat}(hu:jJ false us)(h:src.drop pos=34::(srcOf us++34::r)):jT false src pos = .ok (pos+1+(srcOf us).length+1) (aY us):=by
 unfold jT
 rw[im h,aA rfl,an (by decide)]
 exact zD (t:=[]) hu (b5 (a:=[34]) h)
theorem Fi(many:Bool):∃r,bq many=34::r:=by cases many <;> exact⟨_,rfl⟩
theorem O4{src:List Nat}{pos x:Nat}{us:aW}{many:Bool}{r:List Nat}(hu:jJ many us)(hq:gD us)(h:src.drop pos=bq many++(srcOf us++(bp many++x::r)))(hx:x≠34) :
  at_ src [34,34,34] pos=many/\jT true src pos = .ok (pos+(bq many).length+(srcOf us).length+(bp many).length) (aY us):=by
 refine aN (DK hu hq h hx) λh1 h2=>?_
 refine⟨h1,?_⟩
 refine aP (Fi many) λhr e=>?_
 have h':=h
 replace h':=e▸h'
 unfold jT
 rw[im h',aA rfl,aA rfl,h2]
theorem tZ(us:aW):(aY us).length=us.length:=by unfold aY;simp
theorem GS{many:Bool}:∀{us:aW},ej many us->us.length<=(srcOf us).length
 | [],_=>cQ _
 | u::us,h=>by
  have:=GS (us:=us) λp hp=>h p (.tail _ hp)
  have hne:0<u.1.length:=qx.mpr (r7 (nH (h u (.head _)))).ne
  rw[gI,bt,b_];lia
theorem IT(src old new:List Nat)(f pos:Nat)(named:Bool)(made:List Nat):iR src old new (f+1) pos named made=if 1000000<made.length then none else if pos<src.length then
   (match jT named src pos with
    | .ok e v=>if(bp (named&&at_ src [34,34,34] pos)).length<=e/\e<=src.length/\v.length<=1000000 then
      (gc (named&&at_ src [34,34,34] pos) old new (sl src (pos+(bq (named&&at_ src [34,34,34] pos)).length) (e-(bp (named&&at_ src [34,34,34] pos)).length)) (src.length+1) 0 v (made++bq (named&&at_ src [34,34,34] pos))).bind λm=>
       if 1000000<m.length then none else iR src old new f (e+(if named=true then 1 else 3)) (!named) (m++bp (named&&at_ src [34,34,34] pos)++(if named=true then[10] else lit " = "))
     else none
    | _=>none)
  else some made:=rfl
theorem EI{src old rest:List Nat}{new us:aW}{f pos:Nat}{named many:Bool}{made:List Nat}(ho:0<old.length)(hin:ej many us)(hsz:src.length<1000000)(hm:made.length+(bq many).length+(srcOf (dO old new us)).length<=1000000)
  (hd:src.drop pos=bq many++(srcOf us++(bp many++rest))) (hn:(named&&at_ src [34,34,34] pos)=many) (ht:jT named src pos = .ok (pos+(bq many).length+(srcOf us).length+(bp many).length) (aY us)) :
  iR src old (srcOf new) (f+1) pos named made=iR src old (srcOf new) f (pos+(bq many).length+(srcOf us).length+(bp many).length+(if named=true then 1 else 3)) (!named) (made++bq many++srcOf (dO old new us)++bp many++(if named=true then[10] else lit " = ")):=by
 have hhl:0<(bq many).length:=by cases many <;> decide
 have hle:pos+(bq many++(srcOf us++bp many)).length<=src.length:=zS (a:=bq many++(srcOf us++bp many)) (b:=rest) (by rw[hd];simp) (by
  intro q
  have:=aI gR q
  simp only[bt,i7] at this
  lia)
 simp only[bt] at hle
 have hul:=GS hin
 have hS:0+(srcOf us).length<src.length:=bQ (bQ (Nat.add_lt_add_right hhl _) (eG (dX _ _) _)) (Yo hle)
 replace hS:=jY _▸hS
 rw[IT,hn,ht,an (by lia),aA (bQ (wZ (bQ hhl (dX _ _))) hle)]
 dsimp only
 rw[aA ⟨by exact lV _ _,by lia,by rw[tZ];lia⟩]
 have hb:Internal.sl src (pos+(bq many).length) (pos+(bq many).length+(srcOf us).length+(bp many).length-(bp many).length)=srcOf us:=by
  rw[XR]
  exact k7 (b5 hd) rfl
 rw[hb]
 have:=yN (many:=many) (old:=old) (new:=new) ho (src.length+1) [] us (made++bq many) hin (by simp only[tA];exact fG hS hsz) (ow (bL hul hS)) (by rw[bt];assumption) (eF (bL hul (fG hS hsz)))
 replace this:=(tA ..)▸this
 replace this:=(show(srcOf []).length=0 from rfl)▸this
 rw[this,kO,an (by simp only[bt];exact wc ‹_›)]
set_option maxHeartbeats 2000000 in
theorem JB{old:List Nat}{new:aW}{src:List Nat}(ho:0<old.length)(hsz:src.length<1000000):∀(rs:List Row) (f pos:Nat) (made:List Nat),(∀r∈rs,Hm r)->src.drop pos=fileOf rs->pos<=src.length->2*rs.length<f->made.length+(fileOf (rs.map (dG old new))).length<=1000000->
  iR src old (srcOf new) f pos false made=some (made++fileOf (rs.map (dG old new)))
 | [],0,pos,made,_,_,_,hf,_=>by exact absurd ‹_› (m0 _)
 | [],f+1,pos,made,h,hd,hp,hf,hm=>by
  have hpos:src.length<=pos:=by
   have:=aI gR hd
   replace this:=kb▸this
   have e:(fileOf []).length=0:=rfl
   exact Ze.mp hd
  rw[IT,an (wc (cN hm)),an (by exact wc ‹_›)]
  simp[fileOf]
 | r::rs,0,pos,made,_,_,_,hf,_=>by exact absurd ‹_› (m0 _)
 | r::rs,1,pos,made,_,_,_,hf,_=>by simp at hf
 | r::rs,f+2,pos,made,h,hd,hp,hf,hm=>by
  have hr:=h r (.head _)
  replace hd:=(mI ..)▸hd;replace hd:=(ph ..)▸hd
  rw[cJ,mI,ph] at hm |-
  have hm2:made.length+1+(srcOf (dO old new r.1)).length+4+(bq r.2.2).length+(srcOf (dO old new r.2.1)).length+(bp r.2.2).length+1+(fileOf (rs.map (dG old new))).length<=1000000:=by
   simp only[dG,bt,b_,i7] at hm
   lia
  have d0:src.drop pos=bq false++(srcOf r.1++(bp false++([32,61,32]++(bq r.2.2++(srcOf r.2.1++(bp r.2.2++10::fileOf rs)))))):=by rw[hd];simp[bq,bp]
  have k0:src.drop pos=34::(srcOf r.1++34::32::61::32::(bq r.2.2++(srcOf r.2.1++(bp r.2.2++10::fileOf rs)))):=by rw[hd];simp
  rw[EI (many:=false) (us:=r.1) ho hr.n hsz (by show made.length+1+_<=_;exact cN (cN (cN (cN (cN (cN hm2)))))) d0 rfl (Oe hr.n.oq k0)]
  have d1:src.drop (pos+(bq false).length+(srcOf r.1).length+(bp false).length+3)=bq r.2.2++(srcOf r.2.1++(bp r.2.2++10::fileOf rs)):=b5 (a:=[32,61,32]) (b5 (b5 (b5 d0)))
  rw[an (by decide),an (by decide),Um]
  refine aN (O4 hr.t.oq hr.q d1 (by decide)) λhat t1=>?_
  rw[show(!false)=true from rfl]
  rw[EI (many:=r.2.2) (us:=r.2.1) ho hr.t hsz (by simp only[bt,b_,i7];show made.length+1+_+1+_+_+_<=_;exact cN (cN (cN hm2))) d1 (by rw[hat];rfl) t1]
  rw[aA rfl,aA rfl,show(!true)=false from rfl]
  have d2:src.drop (pos+(bq false).length+(srcOf r.1).length+(bp false).length+3+(bq r.2.2).length+(srcOf r.2.1).length+(bp r.2.2).length)=[10]++fileOf rs:=b5 (b5 (b5 d1))
  have hle:=zS d2 (Me _ _)
  replace hf:=b_▸hf
  rw[JB ho hsz rs f (_+1) _ (λx hx=>h x (.tail _ hx)) (b5 d2) hle (by exact Nat.add_lt_add_iff_right.mp hf) (by simp only[bt,b_,i7];show made.length+1+_+1+_+_+_+_+_+_<=_;assumption)]
  congr 1
  show _=made++((34::(srcOf (dO old new r.1)++34::32::61::32::(bq r.2.2++(srcOf (dO old new r.2.1)++(bp r.2.2++[10])))))++fileOf (rs.map (dG old new)))
  rw[show bq false=[34] from rfl,show bp false=[34] from rfl]
  simp
section
open Builtin Builtin.Str
theorem Qd(l:List Nat)(k lim:Nat)(hl:l.length<lim):(occurrences (ms l) (ms [k]) 0 l.length lim).getLast?=d8 l k l.length:=by
 rw[YS]
 have key:∀n,n<=l.length+1->∃arr fr,(forIn (kj 0 n) ((#[]:Array Nat),0) (oP (ms l) (ms [k]) l.length lim)).run=(arr,fr)/\arr.size<=n/\arr.toList.getLast?=d8 l k (min n l.length)/\fr<=n:=by
  intro n
  induction n with
  | zero=>intro Z;exact(fi (#[]) 0 rfl (bk _) (by exact(wv λx y a=>a).mp rfl) (bk _))
  | succ n ih=>
   intro hn
   refine lH (ih (by exact qy ‹_›)) λarr fr e hs hg hf=>?_
   rw[(by rw[K'];simp:kj 0 (n+1)=kj 0 n++[n]),vl _ _ _ _ (λi y=>by unfold oP;split <;> exact⟨_,rfl⟩)]
   have:(forIn (kj 0 n) ((#[]:Array Nat),0) (oP (ms l) (ms [k]) l.length lim))=(pure (arr,fr):Id _):=e
   rw[this,pure_bind,i3]
   unfold oP
   by_cases hc:n+1<=l.length/\l[n]?=some k
   .have hc':((arr.size<lim/\fr<=n)/\n+(ms [k]).length<=l.length)/\subAt (ms l) (ms [k]) n=true:=by
     refine⟨⟨⟨by lia,hf⟩,?_⟩,by rw[rK];exact decide_eq_true hc.2⟩
     rw[bP];exact hc.1
    rw[aA hc']
    refine(fi (arr.push n) (n+1) (by exact Bl rfl rfl) (by rw[sM];exact iG ‹_› _) ?_ (bk _))
    rw[oy,gS hc.1]
    unfold d8
    rw[aA hc.2]
    exact last_of_append rfl
   .have hc':¬(((arr.size<lim/\fr<=n)/\n+(ms [k]).length<=l.length)/\subAt (ms l) (ms [k]) n=true):=by
     intro j1;refine aN j1 λj2 h3=>?_;clear j1;refine aN j2 λZ h2=>?_;clear j2
     replace h3:=(rK ..)▸h3
     replace h2:=(bP ..)▸h2
     exact hc ⟨h2,of_decide_eq_true h3⟩
    rw[an hc']
    refine(fi arr fr (by exact Bl rfl rfl) (by exact L7 ‹_›) ?_ (kV hf))
    rw[hg]
    by_cases hnh:n+1<=l.length
    .rw[gS (by exact qy ‹_›),gS hnh]
     show _=if l[n]?=some k then some n else d8 l k n
     rw[an λq=>hc ⟨hnh,q⟩]
    .rw[ke (by lia),ke (by exact Nat.le_of_not_ge ‹_›)]
 refine lH (key (l.length+1) (bk _)) λarr fr e hs hg Z=>?_
 rw[lT,e]
 show arr.toList.getLast?=_
 rw[hg,ke (by exact dX _ _)]
theorem DX(x:af)(w:Nat):∀(cuts:List Nat) (a:Nat),(BY x w a cuts).getLast?=some (strSub x ((cuts.getLast?.map (· + w)).getD a) x.length)
 | [],a=>rfl
 | c::r,a=>by
  refine dV (aai x w (c+w) r) λp q e=>?_
  have ih:=DX x w r (c+w)
  show(strSub x a c::BY x w (c+w) r).getLast?=_
  rw[e] at ih |-
  rw[Md,ih]
  cases r with
  | nil=>rfl
  | cons d r=>rw[Md];cases h:(d::r).getLast? with
   | none=>simp at h
   | some z=>rfl
theorem QR(x:af):decide (Str.strKind x<Str.strKind (ms [10]))=false:=by
 rw[(by decide +kernel:Str.strKind (ms [10])=1)]
 unfold Str.strKind
 split
 .rfl
 .split <;> rfl
theorem MS(q:List Nat):(kW (ms q) (ms [10])).length=q.count 10+1/\∃p,(kW (ms q) (ms [10])).getLast?=some p/\p.length=(if q.count 10=0 then q.length else q.length-((d8 q 10 q.length).getD 0+1)):=by
 have hc:=Em q 10 (q.length+1) q.length (bk _) (dm _)
 replace hc:=Bs▸hc
 have hg:=Qd q 10 (q.length+1) (dm _)
 unfold kW
 rw[QR,ZN,bP,bP]
 by_cases h0:q.length<[10].length
 .have:q=[]:=sF.mp (by simp at h0;exact List.eq_nil_iff_length_eq_zero.mp h0)
  subst this
  rw[aA (by exact decide_eq_true h0)]
  exact⟨rfl,_,rfl,rfl⟩
 .rw[an (by simpa using h0)]
  by_cases hz:q.count 10=0
  .rw[(sF.mp (by rw[hc];exact hz):occurrences (ms q) (ms [10]) 0 q.length (q.length+1)=[]),aA (show([]:List Nat).isEmpty=true from rfl),hz]
   exact⟨rfl,ms q,rfl,by rw[aA rfl,bP]⟩
  .rw[an (by rw[AM];exact(λz=>hz (by rw[<-hc,z];rfl))),Mf]
   refine⟨?_,?_⟩
   .rw[<-Mf]
    unfold partsBetween
    simp[hc]
   .rw[DX,hg]
    refine aC (tK q 10 q.length (by rw[Bs];exact hz)) λi hi hlt=>?_
    refine(aw _ rfl ?_)
    rw[hi,an hz]
    unfold strSub Str.length
    simp[ms]
theorem Hs{l m:List Nat}{k:Nat}:∀(h:Nat),(∀i,i<h->l[i]?=m[i]?)->d8 l k h=d8 m k h
 | 0,_=>rfl
 | h+1,e=>by
  unfold d8
  rw[e h (dm _),Hs h λi hi=>e i (ow hi)]
theorem QQ{P r:List Nat}(hP:P≠[]):words P=kC (P++r) (P.length-1) (lit "Cannot overwrite a value"):=by
 have hl:0<P.length:=qx.mpr hP
 obtain ⟨h1,p,h2,h3⟩:=MS P.dropLast
 have hd:P.dropLast.length=P.length-1:=BX
 have hla:d8 (P++r) 10 (P.length-1)=d8 P.dropLast 10 (P.length-1):=Hs _ λi hi=>by
  rw[List.getElem?_append_left (by exact Nat.lt_of_lt_pred ‹_›),List.getElem?_dropLast];exact bR (aA hi)
 unfold words rowsOf kC kq
 rw[h1,h2,(by rw[aah (by exact lI _ _),aad]:(P++r).take (P.length-1)=P.dropLast),an (by rw[bt];exact Nat.not_le_of_lt (bQ (Nat.sub_lt hl (by decide)) (dX _ _))),hla]
 show lit "Cannot overwrite a value (at line "++fu _++lit ", column "++fu ((p.cps.toList.length+1:Nat):Int)++lit ")" = _
 rw[(by exact bR KWk.len_list:p.cps.toList.length=p.length),h3,hd]
 have hcol:((if P.dropLast.count 10=0 then P.length-1 else P.length-1-((d8 P.dropLast 10 (P.length-1)).getD 0+1))+1:Nat)=(if P.dropLast.count 10=0 then P.length-1+1 else P.length-1-(d8 P.dropLast 10 (P.length-1)).getD 0):=by
  split
  .rfl
  .rename_i z
   refine aC (tK P.dropLast 10 (P.length-1) (by rw[<-hd,Bs];exact z)) λi hi hlt=>?_
   rw[hi]
   show P.length-1-(i+1)+1=P.length-1-i
   exact Ke (Xz hlt)
 rw[hcol,(by decide +kernel:lit "Cannot overwrite a value (at line " = lit "Cannot overwrite a value"++lit " (at "++lit "line ")]
 simp only[fF]
end
section
open Builtin Builtin.Str
theorem EQ{old:List Nat}{us:aW}{i:Nat}:w4 (ms (aY us)) (ms old) (ms (aY us)).length i<->i+old.length<=us.length/\aY ((us.drop i).take old.length)=old:=by
 unfold w4
 rw[K8,bP,bP,tZ]
 show _/\(((aY us).drop i).take (ms old).length==old)=true<->_
 rw[bP,beq_iff_eq]
 unfold aY
 rw[L8,w0]
theorem at_of{old:List Nat}{us:aW}{i:Nat}(ho:0<old.length)(h:aY ((us.drop i).take old.length)=old):w4 (ms (aY us)) (ms old) (ms (aY us)).length i:=by
 refine EQ.mpr ⟨?_,h⟩
 have:=aI gR h
 replace this:=(tZ ..)▸this;replace this:=kb▸qw▸this
 exact uL ho (aJ (da this.symm) (kU _ _))
theorem xa{old:List Nat}{new us:aW}(ho:0<old.length):∀(n a:Nat),a+n<=us.length->(∀k,a<=k->k<a+n->¬w4 (ms (aY us)) (ms old) (ms (aY us)).length k)->
  aY (dO old new (us.drop a))=((aY us).drop a).take n++aY (dO old new (us.drop (a+n)))
 | 0,a,_,_=>by exact List.self_eq_append_left.mpr rfl
 | n+1,a,h,hn=>by
  have hd:us.drop a=us[a]::us.drop (a+1):=oO (by exact BM h)
  have ih:=xa (old:=old) (new:=new) (us:=us) ho n (a+1) (by lia) (λk h1 h2=>hn k (by exact qy ‹_›) (by lia))
  rw[hd,yr ho,an (λq=>hn a (bk _) (by lia) (at_of ho (by rw[hd];exact q))),pH,ih,show a+1+n=a+(n+1) by exact aaf a n]
  have ht:(aY us).drop a=us[a].2::(aY us).drop (a+1):=by
   unfold aY
   rw[<-w0,hd,cJ,w0]
  rw[ht,YQ,K9]
theorem join_cons(z p:af){l:List af}(h:l≠[]):(w7 z (p::l)).cps.toList=p.cps.toList++z.cps.toList++(w7 z l).cps.toList:=by
 cases l with
 | nil=>exact absurd rfl h
 | cons q r=>
  have app:∀a b:af,(a++b).cps.toList=a.cps.toList++b.cps.toList:=λa b=>by
   have:=k_ a.cps.toList b.cps.toList
   replace this:=(bR (kL b):_)▸(bR (kL a):_)▸this
   rw[this];rfl
  show(p++z++w7 z (q::r)).cps.toList=_
  rw[app,app]
theorem GY{old:List Nat}{new us:aW}(ho:0<old.length):∀(cuts:List Nat) (a f:Nat),a<=us.length->StrLaws.ChainG (ms (aY us)) (ms old) (ms (aY us)).length a cuts f->(∀k,f<=k->¬w4 (ms (aY us)) (ms old) (ms (aY us)).length k)->
  (w7 (ms (aY new)) (BY (ms (aY us)) old.length a cuts)).cps.toList=aY (dO old new (us.drop a))
 | [],a,f,ha,h,hn=>by
  obtain rfl:f=a:=h
  have:=xa (new:=new) ho (us.length-f) f (da (iY ha)) (λk h1 Z=>hn k h1)
  rw[this,show f+(us.length-f)=us.length by exact iY ‹_›,List.drop_length]
  show(strSub (ms (aY us)) f (ms (aY us)).length).cps.toList=_
  rw[aaj,bP,tZ]
  show((aY us).drop f).take _=_
  rw[G6]
  simp[aY]
 | c::r,a,f,ha,h,hn=>by
  refine jO h λh1 h2 h3 h4=>?_;clear h
  refine aN (EQ.mp h2) λh5 h6=>?_
  replace h4:=(bP ..)▸h4
  have ih:=GY (new:=new) ho r (c+old.length) f (by assumption) h4 hn
  rw[(xa (new:=new) ho (c-a) a (aJ (da (iY h1)) (cN h5)) (λk q1 q2=>h3 k q1 (bQ q2 (da (iY h1))))),show a+(c-a)=c by exact iY ‹_›]
  have hd:us.drop c=us[c]::us.drop (c+1):=oO (bQ (wZ ho) h5)
  have hr:dO old new (us.drop c)=new++dO old new ((us.drop c).drop old.length):=by
   rw[hd,yr ho,<-hd,aA h6]
  rw[hr,we,Rl,<-ih]
  show(w7 (ms (aY new)) (strSub (ms (aY us)) a c::BY (ms (aY us)) old.length (c+old.length) r)).cps.toList=_
  refine dV (aai (ms (aY us)) old.length (c+old.length) r) λp q e=>?_
  rw[join_cons _ _ (by rw[e];exact Me p q),aaj,fF]
  rfl
theorem GJ{old:List Nat}{new us:aW}(ho:0<old.length):uO old (aY new) (aY us)=aY (dO old new us):=by
 unfold uO wX
 refine aC (StrLaws.occ_tight (ms (aY us)) (ms old) (by rw[bP];exact ho)) λf h1 h2=>?_
 have hw:(ms old).length=old.length:=bP old
 have key:=GY (new:=new) ho _ 0 f (cQ _) h1 h2
 replace key:=qd▸key
 split
 .rename_i hz
  have hz:occurrences (ms (aY us)) (ms old) 0 (ms (aY us)).length ((ms (aY us)).length+1)=[]:=by
   simp only[sW,jr,beq_iff_eq,AM] at hz
   rcases hz with q | ⟨q,_⟩
   .exact q
   .replace q:=hw▸q;lia
  replace key:=hz▸key
  rw[<-key]
  show aY us=(strSub (ms (aY us)) 0 (ms (aY us)).length).cps.toList
  rw[StrLaws.sub_whole]
  rfl
 .rw[StrLaws.glued_eq_join,Mf,hw]
  exact key
end
structure HN(r:Row):Prop where
 n:jJ false r.1
 t:jJ r.2.2 r.2.1
 q:gD r.2.1
noncomputable def q_:Nat->List Row->List (List Nat×List Nat)->Doc
 | _,[],es=>.ok es
 | pos,r::rs,es=>if aY r.1∈es.map dq then .again (pos+(g7 r).length-1) else q_ (pos+(g7 r).length) rs (es++[(aY r.1,aY r.2.1)])
theorem Ep{l r:List Nat}{p x:Nat}(h:l.drop p=x::r)(hx:[32,9].contains x=false):bu l bG p=p:=lG (a:=[]) h (λu hu=>nomatch hu) (by rw[sa];exact hx)
theorem Jv{l r:List Nat}{p x:Nat}(h:l.drop p=32::x::r)(hx:[32,9].contains x=false):bu l bG p=p+1:=
 lG (a:=[32]) h (λu hu=>by rw[eX.mp hu,sa];rfl) (by rw[sa];exact hx)
theorem Ig{l:List Nat}:∀(rs:List Row) (f pos:Nat) (es:List (List Nat×List Nat)),(∀r∈rs,HN r)->l.drop pos=fileOf rs->rs.length<f->es.length+rs.length<=100->kH l f pos es=q_ pos rs es
 | rs,0,pos,es,_,_,hf,_=>by exact absurd ‹_› (m0 _)
 | [],f+1,pos,es,_,hd,_,_=>by
  have hd:l.drop pos=[]:=hd
  have hn:l[pos]?=none:=by
   have:=aI gR hd
   replace this:=kb▸this
   simp at this |-
   exact wN ‹_›
  rw[kH]
  rw[(by unfold bu;rw[hd];rfl:bu l bG pos=pos),hn]
  rfl
 | r::rs,f+1,pos,es,h,hd,hf,hz=>by
  have hr:=h r (.head _)
  have hlen:(g7 r).length=1+(srcOf r.1).length+4+(bq r.2.2).length+(srcOf r.2.1).length+(bp r.2.2).length+1:=by
   rw[ph];simp only[bt,b_,i7];lia
  have hd2:=hd
  replace hd:=(mI ..)▸hd;replace hd:=(ph ..)▸hd
  have d0:l.drop pos=34::(srcOf r.1++34::32::61::32::(bq r.2.2++(srcOf r.2.1++(bp r.2.2++10::fileOf rs)))):=by rw[hd];simp
  have hq:b4 false l (l.length+1) (pos+1) [] = .ok (pos+1+(srcOf r.1).length+1) (aY r.1):=zD (t:=[]) hr.n (b5 (a:=[34]) d0)
  have d1:l.drop (pos+1+(srcOf r.1).length+1)=32::61::32::(bq r.2.2++(srcOf r.2.1++(bp r.2.2++10::fileOf rs))):=b5 (a:=[34]) (b5 (b5 (a:=[34]) d0))
  have d2:l.drop (pos+1+(srcOf r.1).length+1+1)=61::32::(bq r.2.2++(srcOf r.2.1++(bp r.2.2++10::fileOf rs))):=b5 (a:=[32]) d1
  have d3:l.drop (pos+1+(srcOf r.1).length+1+1+1)=32::(bq r.2.2++(srcOf r.2.1++(bp r.2.2++10::fileOf rs))):=b5 (a:=[61]) d2
  have d4:l.drop (pos+1+(srcOf r.1).length+1+1+1+1)=bq r.2.2++(srcOf r.2.1++(bp r.2.2++10::fileOf rs)):=b5 (a:=[32]) d3
  refine aP (Fi r.2.2) λhh ehh=>?_
  have d3':=d3
  have d4':=d4
  rw[ehh] at d3' d4'
  refine aN (DK hr.t hr.q d4 (by decide)) λZ hv=>?_
  have d5:=b5 (b5 (b5 d4))
  generalize he:pos+1+(srcOf r.1).length+1+1+1+1+(bq r.2.2).length+(srcOf r.2.1).length+(bp r.2.2).length=e at hv d5
  unfold kH q_
  rw[Ep d0 rfl,im d0]
  dsimp only
  rw[an (by decide),an (by decide),hq]
  dsimp only
  rw[Jv d1 rfl,im d2,Jv d3' rfl,im d4',an (by simp),hv]
  dsimp only
  by_cases hm:aY r.1∈es.map dq
  .rw[aA hm,aA hm,(by rw[hlen];lia:e=pos+(g7 r).length-1)]
  .rw[b_] at hf hz
   rw[an hm,an hm,Ep d5 rfl,im d5,an (by simp;lia)]
   rw[Ig rs f (e+1) _ (λx hx=>h x (.tail _ hx)) (b5 (a:=[10]) d5:l.drop (e+1)=fileOf rs) (by exact vy ‹_›) (by rw[bt,kn];exact aJ (da (gu _ 1 _)) hz),(by rw[hlen];lia:e+1=pos+(g7 r).length)]
noncomputable def cZ(x:Int):Row:=(nameOf x,fL x,gH x)
noncomputable def keep:List Int->List (List Nat)->List Int
 | [],_=>[]
 | x::xs,names=>if names.contains (aY (nameOf x)) then keep xs names else x::keep xs (names++[aY (nameOf x)])
noncomputable def nO(old:List Nat)(new:aW):List Int->List Nat->List (List Nat×List Nat)⊕List Nat->List (List Nat×List Nat)⊕List Nat
 | [],_,d=>d
 | x::ks,b8,d=>nO old new ks (b8++lB old new x) (nX old new x (b8++lB old new x) d)
theorem CQ(old:List Nat)(new:aW):∀(xs:List Int) (s:LS),(fp old new xs s).src=s.src++fileOf ((keep xs s.names).map cZ)/\(fp old new xs s).b8=s.b8++fileOf ((keep xs s.names).map λx=>dG old new (cZ x))/\(fp old new xs s).gF=nO old new (keep xs s.names) s.b8 s.gF
 | [],s=>⟨by simp[fp,keep,fileOf],by simp[fp,keep,fileOf],rfl⟩
 | x::xs,s=>by
  refine eO (CQ old new xs (oo old new x s)) λh1 h2 h3=>?_
  unfold fp keep
  rw[h1,h2,h3]
  unfold oo
  by_cases hc:s.names.contains (aY (nameOf x))=true
  .rw[aA hc,aA hc]
   exact⟨rfl,rfl,rfl⟩
  .rw[an hc,an hc]
   refine⟨?_,?_,rfl⟩
   .rw[cJ,mI,<-fF];rfl
   .rw[cJ,mI,<-fF];rfl
theorem xX:∀(xs:List Int) (names:List (List Nat)),(keep xs names).length<=xs.length
 | [],_=>bk _
 | x::xs,names=>by
  unfold keep
  split
  .exact kV (xX xs _)
  .exact jo (xX xs _)
theorem Hg(old:List Nat)(new:aW)(w:List Nat):∀(ks:List Int) (b8:List Nat),nO old new ks b8 (.inr w) = .inr w
 | [],_=>rfl
 | x::ks,b8=>by rw[nO];exact Hg old new w ks _
theorem SI{old:List Nat}{new:aW}(ho:0<old.length)(x:Int):pairOf old new x=(aY (dG old new (cZ x)).1,aY (dG old new (cZ x)).2.1):=by
 unfold pairOf
 rw[GJ ho,GJ ho]
 rfl
theorem Wu{old:List Nat}{new:aW}{x:Int}{l:List Nat}{ps:List (List Nat×List Nat)}:nX old new x l (.inl ps)=if(ps.map dq).contains (pairOf old new x).1 then .inr (words l) else .inl (ps++[pairOf old new x]):=rfl
theorem Iz{old:List Nat}{new:aW}(ho:0<old.length){l:List Nat}:∀(ks:List Int) (b8:List Nat) (es:List (List Nat×List Nat)),l=b8++fileOf (ks.map λx=>dG old new (cZ x))->(es.map dq).Nodup->
  match q_ b8.length (ks.map λx=>dG old new (cZ x)) es with
  | .ok es'=>nO old new ks b8 (.inl es) = .inl es'/\(es'.map dq).Nodup
  | .again e=>nO old new ks b8 (.inl es) = .inr (kC l e (lit "Cannot overwrite a value"))
  | .bad=>False
 | [],b8,es,hl,hn=>⟨rfl,hn⟩
 | x::ks,b8,es,hl,hn=>by
  replace hl:=cJ▸hl;replace hl:=(mI ..)▸hl;replace hl:=(bR (fF ..):_)▸hl
  unfold q_ nO
  rw[cJ]
  dsimp only
  rw[Wu,SI ho,(rfl:lB old new x=g7 (dG old new (cZ x)))]
  by_cases hm:aY (dG old new (cZ x)).1∈es.map dq
  .rw[aA hm,aA (jZ.mpr hm)]
   dsimp only
   rw[Hg,QQ (r:=fileOf (ks.map λx=>dG old new (cZ x))) (by rw[ph];simp),<-hl,bt]
  .rw[an hm,an (λq=>hm (jZ.mp q))]
   have ih:=Iz ho (l:=l) ks (b8++g7 (dG old new (cZ x))) (es++[(aY (dG old new (cZ x)).1,aY (dG old new (cZ x)).2.1)]) hl (by
    rw[mO,List.nodup_append]
    refine⟨hn,by simp,λa ha b hb q=>?_⟩
    simp at hb
    subst hb
    exact hm (q▸ha))
   replace ih:=bt▸ih
   exact ih
theorem pG{old:List Nat}{new:aW}:∀(f:Nat) (us:aW) (p:List Nat×Nat),p∈d7 old new f us->p∈us\/p∈new
 | 0,us,p,h=>by unfold d7 at h;cases h
 | f+1,[],p,h=>by unfold d7 at h;cases h
 | f+1,u::us,p,h=>by
  replace h:=(n_ ..)▸h
  split at h
  .rcases jp.mp h with h | h
   .exact .inr h
   .rcases pG f _ p h with h | h
    .exact .inl (BW h)
    .exact .inr h
  .rcases cB.mp h with rfl | h
   .exact .inl (.head _)
   .rcases pG f us p h with h | h
    .exact .inl (.tail _ h)
    .exact .inr h
theorem SQ{new X:aW}(hn:new≠[])(hq:∀u∈new,u.1≠[34]):lead (new++X)=0:=by
 cases new with
 | nil=>exact absurd rfl hn
 | cons u us=>
  show lead (u::(us++X))=0
  unfold lead
  rw[an (hq u (.head _))]
theorem Jo:∀{new X:aW},(∀u∈new,u.1≠[34])->gD X->gD (new++X)
 | [],X,_,h=>h
 | u::new,X,hq,h=>by
  refine⟨?_,Jo (λv hv=>hq v (.tail _ hv)) h⟩
  show lead (u::(new++X))<=2
  unfold lead
  rw[an (hq u (.head _))]
  exact cQ _
theorem C8:∀(n:Nat) {us:aW},gD us->gD (us.drop n)
 | 0,us,h=>by rw[qd];exact h
 | n+1,[],h=>by exact((λa=>h)∘λa=>n) n
 | n+1,u::us,h=>by rw[List.drop_succ_cons];exact C8 n h.2
theorem y'{old:List Nat}{new:aW}(hn:new≠[])(hq:∀u∈new,u.1≠[34]):∀(f:Nat) (us:aW),gD us->gD (d7 old new f us)/\lead (d7 old new f us)<=lead us
 | 0,us,h=>by unfold d7;exact⟨trivial,cQ _⟩
 | f+1,[],h=>by unfold d7;exact⟨trivial,cQ _⟩
 | f+1,u::us,h=>by
  rw[n_]
  split
  .exact⟨Jo hq (y' (old:=old) hn hq f _ (C8 old.length h)).1,by rw[SQ hn hq];exact cQ _⟩
  .have ih:=y' (old:=old) hn hq f us h.2
   have hl:lead (u::d7 old new f us)<=lead (u::us):=by
    unfold lead
    split
    .exact jo ih.2
    .exact bk _
   exact⟨⟨aJ hl h.1,ih.1⟩,hl⟩
theorem ej.u7{many:Bool}{us:aW}(h:ej many us):∀p∈us,eA many p.1:=λp hp=>JD (nH (h p hp))
theorem RH(t:Int):∀u∈newOf t,u.1≠[34]:=λu hu=>((rD t).oq u hu).yn
theorem RX(x:Int):Hm (cZ x):=⟨yH x,y_ x,IS x⟩
theorem Mx{old:List Nat}(t x:Int):HN (dG old (newOf t) (cZ x)):=by
 refine⟨λp hp=>?_,λp hp=>?_,?_⟩
 .rcases pG _ _ p hp with h | h
  .exact(yH x).oq p h
  .exact(rD t).oq p h
 .rcases pG _ _ p hp with h | h
  .exact(y_ x).oq p h
  .exact((rD t).oq p h).up
 .exact(y' (QI t) (RH t) _ _ (IS x)).1
noncomputable def eS(l:List Nat):Prop:=∀u∈l,u≠13
theorem vi{many:Bool}{l:List Nat}(h:eA many l):eS l:=λu hu q=>by
 have:=h u hu
 subst q
 cases many <;> exact absurd this (by decide)
theorem eS.app{a b:List Nat}(x:eS a)(y:eS b):eS (a++b):=λu h=>by
 rcases jp.mp h with h | h;exact x u h;exact y u h
theorem DN{us:aW}(h:∀p∈us,eS p.1):eS (srcOf us):=λu hu=>by
 unfold srcOf at hu
 refine aC (Mc.mp hu) λs hs hm=>?_
 refine aC (cO.mp hs) λp hp j1=>?_;subst j1
 exact h p hp u hm
theorem O6{old:List Nat}(t x:Int):eS (g7 (dG old (newOf t) (cZ x))):=by
 have hn:eS (srcOf (dG old (newOf t) (cZ x)).1):=DN λp hp=>by
  rcases pG _ _ p hp with h | h
  .exact vi ((yH x).u7 p h)
  .exact vi ((rD t).u7 p h)
 have ht:eS (srcOf (dG old (newOf t) (cZ x)).2.1):=DN λp hp=>by
  rcases pG _ _ p hp with h | h
  .exact vi ((y_ x).u7 p h)
  .exact vi ((rD t).u7 p h)
 have hh:∀m,eS (bq m):=λm=>by cases m <;> (unfold eS;decide)
 have hm:∀m,eS (bp m):=λm=>by cases m <;> (unfold eS;decide)
 have h1:eS [34]:=by unfold eS;decide
 have h2:eS [34,32,61,32]:=by unfold eS;decide
 unfold g7 rowOf
 rw[GW]
 exact(((h1.app hn).app h2).app (((hh _).app ht).app (hm _))).app (by unfold eS;decide)
theorem Sr{rs:List Row}(h:∀r∈rs,eS (g7 r)):eS (fileOf rs):=λu hu=>by
 unfold fileOf at hu
 refine aC (Mc.mp hu) λs hs hm=>?_
 refine aC (cO.mp hs) λr hr j1=>?_;subst j1
 exact h r hr u hm
theorem occ_none{l:List Nat}(h:eS l):jA (ms l) (ae "\r\n") 0 (ms l).length ((ms l).length+1)=[]:=by
 rw[List.eq_nil_iff_forall_not_mem]
 intro i hi
 refine aN (StrLaws.occ_spec _ _ _ _ _ i hi) λh1 h2=>?_
 replace h2:=(K8 ..)▸h2
 have e:(ae "\r\n").cps.toList=[13,10]:=by decide +kernel
 have e2:(ae "\r\n").length=2:=by decide +kernel
 replace h2:=e2▸e▸h2;rewrite[beq_iff_eq] at h2
 have h3:(l.drop i).take 2=[13,10]:=h2
 have hm:13∈l:=by
  have:13∈(l.drop i).take 2:=by rw[h3];exact X9
  exact BW (aag this)
 exact h 13 hm rfl
theorem zQ{k:Nat}:∀{rs:List Row},(∀r∈rs,(g7 r).length<=k)->(fileOf rs).length<=k*rs.length
 | [],_=>cQ _
 | r::rs,h=>by
  have:=zQ (rs:=rs) λx hx=>h x (.tail _ hx)
  have:=h r (.head _)
  rw[mI,bt,b_,BV,Ma,pY];exact fx (by assumption) (by assumption)
theorem Jz:∀(rs:List Row),2*rs.length<=(fileOf rs).length
 | []=>cQ _
 | r::rs=>by
  have:=Jz rs
  rw[mI,bt,b_,ph]
  simp only[b_,bt]
  exact aJ (da (pY (2*rs.length) 2)) (fx (jo (aJ (jo (cQ _)) (lV _ _))) this)
theorem QJ(t:Int)(xs:List Int)(hx:xs.length<=65):r0 (bJ t) (newOf t) (fp (bJ t) (newOf t) xs ⟨[],[],[],.inl []⟩):=by
 have ho:=(pt t).1
 refine eO (CQ (bJ t) (newOf t) xs ⟨[],[],[],.inl []⟩) λh1 h2 h3=>?_
 have hk:=xX xs []
 generalize hks:keep xs []=ks at h1 h2 h3 hk
 generalize fp (bJ t) (newOf t) xs ⟨[],[],[],.inl []⟩=s at h1 h2 h3
 have h2:s.b8=fileOf (ks.map λx=>dG (bJ t) (newOf t) (cZ x)):=h2.trans (tA _)
 have hkl:ks.length<=65:=aJ hk hx
 have hl1:(fileOf (ks.map cZ)).length<=103*ks.length:=by
  have:=zQ (k:=103) (rs:=ks.map cZ) λr hr=>by
   refine aC (cO.mp hr) λx Z j1=>?_;subst j1
   exact aJ (uN (ue x) (tV x)) (by decide)
  simpa using this
 have hl2:(fileOf (ks.map λx=>dG (bJ t) (newOf t) (cZ x))).length<=283*ks.length:=by
  have:=zQ (k:=283) (rs:=ks.map λx=>dG (bJ t) (newOf t) (cZ x)) λr hr=>by
   refine aC (cO.mp hr) λx Z j1=>?_;subst j1
   exact aJ (uN (l_ ho (ng t) (ue x)) (l_ ho (ng t) (tV x))) (by decide)
  simpa using this
 have hmap:(ks.map cZ).map (dG (bJ t) (newOf t))=ks.map λx=>dG (bJ t) (newOf t) (cZ x):=by rw[fg];rfl
 refine⟨?_,?_,ks.length+1,?_⟩
 .rw[(h1.trans (tA _)),h2,<-hmap]
  have:=JB (new:=newOf t) (src:=fileOf (ks.map cZ)) ho (by lia) (ks.map cZ) ((fileOf (ks.map cZ)).length+1) 0 [] (λr hr=>by
   refine aC (cO.mp hr) λx Z j1=>?_;subst j1
   exact RX x) rfl (cQ _) (by have:=Jz (ks.map cZ);exact pX ‹_›) (by rw[hmap];simp only[i7];lia)
  rw[this,tA]
 .rw[h2]
  exact occ_none (Sr λr hr=>by
   refine aC (cO.mp hr) λx Z j1=>?_;subst j1
   exact O6 t x)
 .rw[h2,Ig (l:=fileOf (ks.map λx=>dG (bJ t) (newOf t) (cZ x))) (ks.map λx=>dG (bJ t) (newOf t) (cZ x)) (ks.length+1) 0 [] (λr hr=>by
   refine aC (cO.mp hr) λx Z j1=>?_;subst j1
   exact Mx t x) rfl (by simp) (by simp;exact aJ ‹_› (lV _ _)),h3]
  exact Iz ho ks [] [] rfl K4
theorem S2{w:aR}{ay:ai}{b:am}(hA:fq gZ w ay)(hk:∀a o,tabs.contains a=false->ay.heap.get? a=some o->b.get? a=some o):aO w b:=by
 have e:(gZ.G.all λq=>!tabs.contains q.1)=true:=by kernel_rfl
 exact⟨λa o h e=>hk a o h (hA.get a e),λq hq=>(hA.sets q hq).keep λo=>hk _ o (rU (fE.mp e q hq))⟩
theorem aO.limit{w:aR}{b:am}(S:aO w b):b.NoLimit:=
 (aw (tv (jI (o2 w.params))) (k6 _ _ _ (S.at 2 (o:=o2 w.params) (by kernel_rfl)) rfl (Jw (es:=jI (o2 w.params)) (by kernel_rfl)) (λZ=>rfl)) (by kernel_rfl))
theorem MB{w:aR}{b h:am}(S:aO w b)(hb:∀x o,b.get? x=some o->h.get? x=some o):Mg h 681/\Mg h 582:=by
 refine⟨(k6 685 _ _ (hb _ _ (S.at 685 (o:=uy w.params) (by kernel_rfl))) rfl rfl (by kernel_rfl)),(k6 586 _ _ (hb _ _ (S.at 586 (o:=vv w.params) (by kernel_rfl))) rfl rfl (by kernel_rfl))⟩
theorem W5{w:aR}{ay:ai}(hA:fq gZ w ay):ay.heap.get? 681=some {cls:=.none,data:=.fields #[]}/\ay.heap.get? 582=some {cls:=.none,data:=.fields #[]}:=
 ⟨hA.get 681 (by kernel_rfl),hA.get 582 (by kernel_rfl)⟩
noncomputable def ES:List af:=[ae "script"]++[ae "total",ae "signs",ae "old",ae "new",ae "src",ae "due_src",ae "names",ae "due",ae "x",ae "left",ae "some",ae "digits_v",ae "many",ae "name",ae "text",ae "pair",ae "rows",ae "made",ae "told",ae "error"]
theorem Oa:xh:=by
 intro w ay s a o vs n script hA keep hg ho hc hd hi hlog hlen
 have hk:∀x ob,tabs.contains x=false->ay.heap.get? x=some ob->(jz s.heap [681,582]).get? x=some ob:=λx ob ht e=>lY _ (keep _ _ e) (by
  intro q
  have:tabs.contains x=true:=jZ.mpr q
  replace ht:=this▸ht;cases ht)
 have S:=S2 hA hk
 have hb:∀x ob,(jz s.heap [681,582]).get? x=some ob->s.heap.get? x=some ob:=λx ob e=>oH _ e
 have hb1:(jz s.heap [681,582]).get? 681=none:=qq _ (.head _)
 have hb2:(jz s.heap [681,582]).get? 582=none:=qq _ (.tail _ (.head _))
 have tabs0:=W5 hA
 have t1:=keep _ _ tabs0.1
 have t2:=keep _ _ tabs0.2
 have hold:∀x ob,s.heap.get? x=some ob->x≠681->x≠582->(jz s.heap [681,582]).get? x=some ob:=λx ob e h1 h2=>lY _ e (by
  intro q
  rcases cB.mp q with q | q
  .exact h1 q
  .exact h2 (eX.mp q))
 have hsc:(jz s.heap [681,582]).get? a=some o:=hold a o ho (λq=>by replace ho:=t1▸q▸ho;refine(λj0=>?_) (bj ho);clear ho;subst j0;cases hc) (λq=>by replace ho:=t2▸q▸ho;refine(λj0=>?_) (bj ho);clear ho;subst j0;cases hc)
 have tc:=MB S hb
 have hlaw:=S.at 748 (o:=vu w.params) (by kernel_rfl)
 have hcode:(jz s.heap [681,582]).CodeRec (.ref 747) (Internal.S "law"):=(tI 747 _ _ _ rfl (S.at 747 (o:=Ju w.params) (by kernel_rfl)) rfl rfl)
 generalize hB:jz s.heap [681,582]=b at *
 refine jB ?_
 refine Yz (body:=fB (stN 78)) (by decide +kernel) (hb _ _ hlaw) rfl rfl rfl rfl (hcode.keeps hb) (bn (pB (binds:=[(ae "script",.ref a)]) (by kernel_rfl)) (λbb s' ⟨e1,e2⟩=>?_) λZ Z x=>x.elim)
 subst e1 e2
 refine ii (bk _) (YA rfl ?_ λenv he bc x htk=>?_)
 .intro y hy
  rw[eX.mp hy]
  exact .inl (by kernel_rfl)
 refine⟨(S.limit.keeps hb).keeps x.toInCall.keep,?_⟩
 have heL:env.locals=s'.heap.objs.size:=by rw[he];rfl
 have hscope:env.scope=fS (stN 78):=by rw[he];rfl
 have hnc:∀y,env.cells.lookup y=none:=λy=>by
  have h1:(env.cells.lookup y).isSome=((fS (stN 78)).names.any (λp=>p.2==.cell&&p.1==y)||(([]:List (af×aj)).lookup y).isSome):=by rw[he];exact rg (fS (stN 78)).names (s'.heap.objs.size+1) [] y
  have h2:((fS (stN 78)).names.any λp=>p.2==.cell)=false:=by kernel_rfl
  have h3:((fS (stN 78)).names.any λp=>p.2==.cell&&p.1==y)=false:=by
   rw[aak] at h2 |-
   intro p hp q
   replace q:=(jr ..)▸q
   exact h2 p hp q.1
  replace h1:=h3▸h1
  have h1:(env.cells.lookup y).isSome=false:=h1
  cases q:env.cells.lookup y with
  | none=>rfl
  | some z=>replace h1:=q▸h1;cases h1
 have hcn:∀y,cellIn (fS (stN 78)) y=false:=λy=>by
  have h2:((fS (stN 78)).names.any λp=>p.2==.cell)=false:=by kernel_rfl
  unfold cellIn
  rw[aak] at h2 |-
  intro p hp q
  replace q:=(jr ..)▸q
  exact h2 p hp q.1
 refine dV x.toInCall.same λbX tk j1=>?_;subst j1
 have kk:=x.toInCall.keep
 generalize hc':({w:=w,A:=qj.deeper env,env:=env,outer:=[],b0:=b,base:=s'.heap,D:=λZ=>False,tb:=vf,os:=s'.os,gens:=dP,T:=s'.toks}:FC)=c'
 have e1:c'.env=env:=by rw[<-hc']
 have K:c'.Ok:=by
  rw[<-hc']
  have no1:∀{y:af} {q:aj},env.cells.lookup y=some q->False:=λh=>by exact bI ((hnc ..)▸h)
  exact{
   kind:=by show env.scope.kind=_;rw[hscope];rfl
   glob:=by show env.globals=_;rw[he];rfl
   blt:=by show env.builtins=_;rw[he];rfl
   cu:=λy=>by show(env.cells.lookup y).isSome=cellIn env.scope y;rw[hscope,hcn,hnc];rfl
   frames:=rfl
   frame:=by show env.frame=some env.locals;rw[he];rfl
   lim:=S.limit
   own:=⟨λy z q h Z=>(no1 h).elim,λy q h=>(no1 h).elim⟩
   dn:=λZ Z Z Z Z h=>h
   t0:=λy hy=>by
    rcases cB.mp hy with rfl | hy
    .exact hb1
    .rw[eX.mp hy];exact hb2}
 have hLn:s'.heap.get? env.locals=none:=by rw[heL];exact fb (bk _)
 have aQ:In c' (mk ES [.val (.ref a),.al,.al,.al,.al,.al,.al,.al,.al,.al,.al,.al,.al,.al,.al,.al,.al,.al,.al,.al,.al] []) {s' with heap:=bX,toks:=tk}:=by
  rw[<-hc']
  have no1:∀{y:af} {q:aj},env.cells.lookup y=some q->False:=λh=>by exact bI ((hnc ..)▸h)
  have hns:∃m,bX.Ns env.locals m/\∀y,env.cells.lookup y=none->m y=eR ([ae "script"].zip [dz a]) y:=by
   refine(aw _ x.toInCall.ns (λy Z=>?_))
   show bindL env.kindOf ([ae "script"].zip [dz a]) (λZ=>none) y=_
   rw[zJ]
   by_cases hk':env.kindOf y=some .local
   .rw[aA hk'];exact KN
   .rw[an hk']
    refine(zC λz hz q=>?_).symm
    replace q:=(eX.mp hz)▸q
    subst q
    refine hk' ?_
    unfold oN
    rw[hscope]
    kernel_rfl
  have hrl:∀y,RL bX (getL (iw ES [.val (.ref a),.al,.al,.al,.al,.al,.al,.al,.al,.al,.al,.al,.al,.al,.al,.al,.al,.al,.al,.al,.al]) y) (eR ([ae "script"].zip [dz a]) y):=λy=>
   zp (ps:=[ae "script"]) (xs:=[.val (.ref a)]) (vs:=[.ref a]) (by simp) rfl (aB.cons rfl aB.nil) _ 20 y
  exact{
   b0:=λy ob e=>kk y ob (hb y ob e)
   fr:=trivial
   up1:=λy ob vs e Z Z Z=>kk y ob e
   cq:=λy ob e Z Z=>⟨ob.slots,kk y ob e⟩
   ns:=(aw _ ⟨hns,λy q h=>(no1 h).elim⟩ hrl)
   st:=λy ao h=>nomatch h
   L0:=by
    show b.get? env.locals=none
    cases q:b.get? env.locals with
    | none=>rfl
    | some ob=>have:=hb _ _ q;exact bI (hLn▸this)
   L1:=hLn
   Lo:=λe h=>nomatch h
   tab:=λy hy=>by
    rcases cB.mp hy with rfl | hy
    .exact .inl (kk _ _ t1)
    .rw[eX.mp hy];exact .inl (kk _ _ t2)
   os:=rfl
   gens:=by
    show dP s'.gens
    rw[hg]
    exact⟨rfl,λy hy=>by
     have:=Lz.mpr hy
     rw[eX.mp this];rfl⟩
   nd:=K4
   tk:=htk
   dc:=λy es h=>nomatch h}
 have body:=T8 (c':=c') (t:=[]) (n:=0) ⟨K,rfl,by rw[<-hc'],by rw[<-hc'],by rw[<-hc'];show qj.depth+1+(0+19)<sV;decide +kernel,.inl (by rw[<-hc'];rfl),by rw[<-hc']⟩ S (e1▸hscope) (by rw[<-hc'];rfl) (by rw[<-hc']) (by rw[<-hc'];show qj.units+3+7<gX;decide) (sc:=a) (script:=script) (k6 o vs n (by rw[<-hc'];exact hsc) hc hd hi) hlen (QJ _ _ (by simp;assumption))
 have hbody:=body _ aQ
 have hw:c'.w=w:=by rw[<-hc']
 have hA':c'.A=qj.deeper env:=by rw[<-hc']
 replace hbody:=e1▸hA'▸hw▸hbody
 refine codeAny_func (bn hbody (λf bg ⟨y,dT,dM,gY,fz⟩=>?_) λv bg ⟨_,_,_,_,_,_,q⟩=>q.elim)
 have fin:(∀x ob,s'.heap.get? x=some ob->asItWas s'.heap bg.heap x ob)/\bg.os=s'.os/\bg.gens[0]?=some .finished/\AT bg.gens=false:=by
  have G:=dM.gens
  replace G:=(by rw[<-hc']:c'.gens=dP)▸G
  refine(ud (λx ob e=>?_) (dM.os.trans (by rw[<-hc']:c'.os=s'.os)) G.1 (leftWithCleanup_false_of_bare G.2))
  have T:=dM.tab
  replace T:=(by rw[<-hc']:c'.tb=vf)▸T
  have grow:∀z∈vf,z.t=x->Mg s'.heap x->s'.heap.get? x=some {cls:=.none,data:=.fields #[]}->asItWas s'.heap bg.heap x ob:=λz hz hx ht h0=>by
   replace e:=h0▸e
   refine(λj0=>?_) (bj e);clear e;subst j0
   rcases T z hz with q | ⟨k,ok,vs',tk',q,_⟩
   .exact .inl (hx▸q)
   .exact .inr (.inl ⟨ht,rfl,#[],#[bW z.line,bW z.col,dz k],rfl,by rw[<-hx];exact q⟩)
  by_cases h1:x=681
  .subst h1;exact grow _ (.head _) rfl tc.1 t1
  by_cases h2:x=582
  .subst h2;exact grow _ (.tail _ (.head _)) rfl tc.2 t2
  exact .inl (dM.b0 x ob ((by rw[<-hc']:c'.b0=b)▸hold x ob e h1 h2))
 have fz:y = .ret (.bool true):=fz
 subst fz
 refine aC gY λv j1 r=>?_;clear gY;subst j1
 exact⟨(r:v = .bool true),fin⟩
theorem Hv(lk:Look):∀a b:List bA,tB lk (a++b)=(tB lk a&&tB lk b)
 | [],_=>rfl
 | s::a,b=>(aI (noRoadLS lk s&&·) (Hv lk a b)).trans (Bool.and_assoc ..).symm
noncomputable abbrev kr:List bA:=qi.row.prog.main.body
theorem P0:BZ qi.row.prog kr "vars" = false:=by decide +kernel
theorem M9:BZ qi.row.prog kr "dir" = false:=by decide +kernel
theorem M6:BZ qi.row.prog kr "locals" = false:=by decide +kernel
theorem Nc:(!(AN kr).all cThrough.contains)=false:=by decide +kernel
theorem Sk:tB {strict:=false,foot:=none,bare:=[]} (kr.take 44)=true:=(congrFun (congrFun aal _) _).trans (by decide +kernel)
theorem Ue:tB {strict:=false,foot:=none,bare:=[]} (kr.drop 44)=true:=(congrFun (congrFun aal _) _).trans (by decide +kernel)
theorem Sw:tB {strict:=!(AN kr).all cThrough.contains,foot:=none,bare:=(["vars","dir","locals"]:List af).filter (BZ qi.row.prog kr)} kr=true:=by
 rewrite[Nc,ww (by rw[P0];decide),ww (by rw[M9];decide),ww (by rw[M6];decide),List.filter_nil]
 exact(aI _ (sO 44 kr).symm).trans ((Hv _ _ _).trans (qG Sk Ue))
theorem aaI:OpenLaw.wellSaid qi=true:=by
 iterate 33 refine qG ?_ (by decide +kernel)
 refine qG ?_ ((congrFun (congrFun (congrFun PySem.W.Fast.te17119622794617984870 _) _) _).trans (by decide +kernel))
 refine qG ?_ Sw
 refine qG ?_ (by decide +kernel)
 refine qG ?_ ((congrFun PySem.W.Fast.te8377067652309620493 _).trans (by decide +kernel))
 refine qG ?_ (by decide +kernel)
 decide +kernel
theorem aaG:hY.row.wellSaid=true->hY.row.Holds:=Rz Oa
end Internal
theorem PySem.Challenge.cw_io0026_03_holds : PySem.Challenge.rw_io0026_03.Holds := by
 exact PySem.W.holds_law Internal.aaI Internal.aaG
