import PyProof.Rows.All
import Wide.All
import OpenK.AllK
import KE.KRevIter
import Wide.FinOn
import Lean
import PySem.Challenge.RW_nv0014_01
set_option Elab.async false
set_option maxRecDepth 100000
set_option maxHeartbeats 4000000
set_option linter.all false
set_option backward.match.sparseCases false
set_option genInjectivity false
set_option genSizeOf false
set_option bootstrap.genMatcherCode false
set_option tactic.hygienic false
set_option genCtorIdx false
set_option compiler.extract_closed false
namespace Mine.Lake
noncomputable section
open PySem PySem.Calls PyProof.Rows
open _root_.Option renaming some->O,none->ai
open _root_.Bool renaming true->N,false->af
open PySem.Value renaming ref->R,int->ah,type->ak,none->aA,builtin->bx,str->cI,bool->dB,bytes->qX,isInt->xC,ellipsis->JY,isInt_shape->Tr
open PySem renaming wpAny_bind->ag,Shared->ae,Value->aa,Addr->ab,wpAny_pure->aB,wpAny->ax,model->aG,Expr->aw,execs->aU,wpAny_holding->cO,FuncData->bQ,Heap->aN,Sem->aE,wpAny_specialOf->eH,eval->aZ,Params->bS,cStatics->cE,Str->aP,Around->ck,mainGlobals->ef,wpAny_newObj_type->ig,Tok->aW,Pos->aY,wpAny_callSpecial?_slot->kS,bindArgs->du,wpAny_of_eq->fK,wpAny_field->fX,wpAny_assign_Name->jD,Obj->bj,Stmt->bT,builtinsNs->fY,Flow->b8,swapsWith->fu,wpAny_call_entry->jU,letOwnedTupleGo->jE,GenState->eS,sizeLine->fc,wpAny_seqItems->jF,wpAny_mono->gU,typeLookup->gV,rawInt->dN,wpAny_truthy_bool->l8,Scope->c9,interactive->iG,wpAny_Call_NameR->l9,wpAny_standAt->jV,entryFor_of_tree->ma,OsState->fy,Fin->ij,Env->cg,callEnvC->gI,entryFor->gJ,wpAny_isInstance->mP,wpAny_load->iW,plainId_quiet->lI,sizeLine_eq->jW,wpAny_storeName_local->sy,recursionLimit->mQ,pyIter->gm,starEach->iX,wpAny_call->kT,codeAny_builtin->qd,wpAny_isTrue_Compare1->uP,World->fz,compEnvC->jt,IsRangeIter->me,Thread->gW,pyNext->gX,wpAny_typeOf->ou,checkBuiltinCall->sC,relabel->ju,wpAny_loadName_local->xD,wpAny_rule->mR,codeAny_call_builtin->xE,lookup_relabel_local->xF,standAt->jG,wpAny_pyIter_list->uQ,wpAny_list_append_plain->Ao,wpAny_execs_cons->uR,wpAny_Constant_int->xG,wpAny_updateSeq->uS,Comprehension->sE,wpAny_attempt->sF,backTo->jH,wpAny_Return_some->xH,wpAny_Assign_Name->xI,wpAny_sequenceKey->xJ,assign->jI,fastTable_eq_tree->xK,call_meets->qe,wpAny_newFunctionEnv->Ap,DictEntry->ow,isSubtype->oy,call_range_1->sG,argsOk->jX,IsPair->jY,attributeBase->uT,rangeSize_one->uU,wpAny_Name->qY,wpAny_pyIter_range->Aq,closureFor->qZ,isInstance->rb,codeAny_of_tree->xM,wpAny_setField_rec->Ar,seqIndex? ->rd,specialOf->rg,sysModules->sH,wpAny_Subscript_list_slice->JZ,checkTypeCall->xN,nsFind->mf,spliced->oz,codeAny->oB,Builtin->uV,wpAny_letGo->uW,Code->iY,notIn_one->sI,callSpecial? ->xO,wpAny_Constant_str->Ee,slot_listiter_next->Ef,IsRange->qf,wpAny_setField->As,foldedSetIterable->Eg,wpAny_builtinsFor->Eh,wpAny_nsGet->xP,wpAny_Assign_Subscript->J0,wpAny_pyNext_list_item->J1,setGen_self->xQ,wpAny_pyNext_tuple_end->J2,wpAny_pyIter_gen->Ei,leaving->rh,small_one->uX,codeAny_call_function->J3,wpAny_pyNext_list_end->J4,typeIs_int->xR,Walks->mS,IsZip->mT,wpAny_loadName_cell->J5,wpAny_loadName_free->J6,compTurn->uY,NameKind->uZ,wpAny_bindName->Ej,Slot->lJ,wpAny_ite_true->Ek,wpAny_alloc->Au,wpAny_assign_Tuple->J7,cellsFrom->xS,wpAny_pyIter_tuple->J8,swappedStores->El,behindInMarks->Em,wpAny_newFunctionEnv_cells->Tt,am_entry_list_getattribute->Tu,comprehension->En,wpAny_pyIter_slot->J9,wpAny_dictEntries->Ka,TypeCalled->Av,Program->u4,Result->sJ,mainNs->sL,wpAny_items_cons->Kb,exec->mU,wpAny_pyIter_zip->Kc,wpAny_comprehension_free->Tv,callWith->xT,evalArgs->xU,Protocol->xV,wpAny_GeneratorExp_make->Tw,wpAny_pyNext_range_item->Tx,storeName->Aw,wpAny_execs_nil->Kd,Meets->ri,numSeenOf->Ax,strValues->Ay,wpAny_BinOp->Eo,wpAny_allTrue_And_cons->Tz,subscripted->Ep,wpAny_Tuple->Er,unsupported->Es,wpAny_Slice->Et,wpAny_pyNext_range_end->TA,wpAny_pyIter_rangeiter->TB,wpAny_allTrue_Or_cons->TC,getItem->xW,exec_Assign_Name_used->TF,entryFor_alias->Ke,IsPart->u5,rawPart->xY,size_pos_of_not_empty->TG,isSubtype_stop->Kf,wpAny_runValue->Kg,methodCallForm->Ki,wpAny_newTuple->Kj,wpAny_pyIter_listiter->TH,binaryOp->Az,wpAny_AugAssign_Name->TJ,call->Eu,codeAny_extend_loopS->TK,keeperOf->AA,field->sM,wpAny_updateSeq_pair->TL,step->Ew,swapsWithSole->Kk,wpAny_handled->Kl,wpAny_onRaise->Km,wpAny_isTrue_BoolOp->TM,wpAny_functionCodeX->TN,entry_listiter_next->TP,wpAny_Constant_none->TQ,Arguments->Ex,compareOp->Ey,wpAny_getItem_list->TR,codeAny_func->Kn,makeFunction->Ko,wpAny_newTextTuple->TS,sliceIndices->Kq,typeOf->xZ,GenEnd->x9,getMethod->Ez,numTextOf->EB,callType_new->Kr,args_listiter_next->TU,handedOut->EC,Keyword->AB,operate->AD,setItem->AE,notedBy->AF,wpAny_Call_method->TV,slot_list_setitem->TX,getMethod_builtin->TY,wpAny_mkInt->Ks,wpAny_throw->Kt,keywordEach->Ku,evalThenUse->Kv,rule->sN,Args->sO,exec_Assign_Name->TZ,wpAny_askSetting->T2,wpAny_comp_letGo->T3,Const->ya,wpAny_items_nil->T4,wpAny_List->Kw,execs_cons->Kx,wpAny_dictEpoch->T5,leftWithCleanup->T6,plainId->ED,treeTable->Ky,inplaceOp->Kz,clausesOf->KC,holding->T7,standAt->T8,Builtin->ajD
open _root_.Int renaming ofNat->aj,pos_iff_toNat_pos->AG,fmod_eq_emod_of_nonneg->EE,ofNat_lt->sP,ofNat_le->yb,negSucc->AH,lt_of_le_of_lt->KD,natCast_nonneg->KG,toNat_natCast->KH,lt_toNat->EF,ofNat_eq_natCast->T9,toNat_sub->KI,toNat_of_nonneg->Ua,lt_of_lt_of_le->Ub,max_eq_right->Uc,toNat->KJ,ofNat_sub->Ud,ofNat_inj->Ue,lt_trans->Ug,le_trans->Uh
open PySem.Str renaming ofString->aC,join->yc
open PySem.Heap renaming get?_push_of_some->a8,get?_push_size->bK,lt_size->cn,size_push->dD,get?_update_self->gN,SameBut->gv,get?_update_other->mh,get?_update_ne->KL,ExtBut->KN,mk->KO
open PySem.Expr renaming Name->ar,Call->bI,ListComp->cP,Subscript->dk,Constant->gn,BinOp->eu,Attribute->iI,GeneratorExp->lL,Tuple->ik,Compare->jZ,Slice->mi,Dict->qg,List->AI,BoolOp->KP,UnaryOp->Ui
open _root_.Option.some renaming inj->aV
open Or renaming inl->ao,inr->aH,elim->bf
open _root_.List renaming range->aI,mem_singleton->bJ,mem_cons_of_mem->bZ,mem_cons->bu,getD_eq_getElem?_getD->da,mem_append->b9,getElem?_eq_getElem->dE,mem_map->bG,getElem?_eq_some_iff->dR,replicate->cb,mem_of_getElem? ->cW,mem_append_left->dc,mem_cons_self->cQ,not_mem_cons_of_ne_of_not_mem->gY,getElem?_map->cY,mem_append_right->ew,mem_range->dm,mem_filter->gq,length_append->iu,length_map->il,foldl_cons->iw,map_cons->iJ,map_append->j0,getElem?_range->oE,length_eq_zero_iff->rj,all_eq_true->mV,not_mem_nil->mW,length_replicate->rk,getElem?_eq_none->rl,mem_of_mem_drop->rn,length_cons->oF,mem_or_eq_of_mem_set->u6,getElem?_append_left->u7,nodup_append->qh,foldl_append->qi,eq_of_mem_replicate->u9,getElem?_of_mem->sQ,getElem?_append_right->yd,nodup_cons->ro,take_length->sR,of_mem_zip->sS,map_map->qj,range_succ->sT,map_inj_left->va,length_filter_le->AJ,mem_of_mem_head? ->AK,pairwise_iff_getElem->EG,mem_of_mem_take->AL,nodup_range->ye,map_congr_left->AM,filter_cons_of_pos->EH,filter_cons_of_neg->EI,forIn_cons->yf,append_nil->yg,nil_append->yh,append_assoc->AN,getElem?_zipWith->EJ,contains_iff_mem->EK,take_append_drop->EL,lookup_cons->AO,length_take->AP,length_drop->AQ,getElem?_zip_eq_some->KQ,ext_getElem? ->EM,getElem?_set->EN,take_add_one->EO,take_of_length_le->KR,map_take->AR,mem_reverse->ES,cons_append->ET,mem_iff_getElem? ->KS,getElem?_toArray->KU,foldl->yi,length_set->EU,zipWith->AS,eq_nil_of_length_eq_zero->Uj,zip_cons_cons->KV,map_replicate->KW,getElem?_drop->KX,all_cons->EV,map_drop->EW,length_range->KY,getElem?_eq_none_iff->Uk,mem_of_mem_eraseIdx->Ul,getElem_mem->KZ,any_eq_true->K0,getElem?_replicate->Um,length_nil->K9,filter_eq_nil_iff->Un,range_succ_eq_map->Uo,foldl_nil->Lc,foldl_map->Ld,length_eraseIdx->Up,contains_eq_mem->Uq,replicate_succ->Ur,filter_eq_self->Us,takeWhile_cons->Ut,mem_map_of_mem->Uu,map_set->Le,append_of_mem->Uv,foldl_flatMap->Uw,lookup_append->Ux,flatten_cons->Uy,ext_getElem->Uz,range'_succ->UA,range_zero->UB,map_id'->UC,any_nil->UD,lookup->UE,range'->UG
open _root_.Nat renaming le_trans->ba,le_of_ble_eq_true->dO,ble_eq_true_of_le->eT,lt_of_lt_of_le->ff,le_refl->ey,ne_of_lt->fB,zero_le->fg,lt_irrefl->gw,lt_trans->fZ,le_add_right->iZ,lt_succ_self->ja,le_of_lt->gx,xor_zero->gy,lt_of_le_of_lt->j3,lt_succ_of_lt->kU,ble->dY,zero_xor->ix,add_sub_cancel_left->rp,le_of_lt_succ->mX,add_comm->jJ,beq->fD,add_assoc->lM,le_of_not_lt->oH,add_le_add_left->rq,sub_lt_sub_left->ru,le_succ_of_le->qk,le_of_eq->lN,xor_self->lO,not_lt->j4,lt_or_ge->mj,le_succ->lP,le_of_succ_le->rx,mul_le_mul_left->sU,succ_add_eq_add_succ->yj,add_sub_cancel->sV,add_sub_of_le->sW,le_add_left->ry,not_lt_zero->rz,le_add_right_of_le->yk,ne_of_gt->oJ,succ_le_succ->sX,add_le_add_right->yl,mod_lt->mY,zero_add->ql,blt->jK,xor_assoc->rD,add_lt_add_left->ym,add_left_cancel->yn,le_antisymm->vb,add_lt_of_lt_sub'->AU,mod_two_eq_zero_or_one->EX,le_sub_of_add_le->AW,succ_ne_self->yo,zero_lt_one->yp,lt_or_eq_of_le->AX,one_add_le_iff->AY,mul_comm->vd,add_sub_add_right->EY,sub_le->sY,add_lt_add_right->EZ,one_lt_succ_succ->E0,min_eq_left->AZ,xor_lt_two_pow->E3,ne_of_beq_eq_false->Lf,mul_add->yq,lt_of_add_right_lt->Lg,sub_add_sub_cancel->Lh,min_le_right->E4,sub_eq_zero_of_le->Li,eq_of_beq_eq_true->Lj,min_le_left->E5,le_sub_one_of_lt->Lk,sub_le_of_le_add->Ll,add_lt_of_lt_sub->Lm,add_zero->A1,succ_lt_succ_iff->Ln,not_succ_le_self->Lo,add_one_ne_zero->Lp,add_le_add->E6,sub_right_comm->Lq,sub_add_cancel->Lr,add_right_comm->Ls,sub_pos_of_lt->Lu,succ_pos->E7,sub_sub_self->Lv,mul_zero->E8,lt_add_right->Lw,succ_pred_eq_of_pos->UH,lt_add_of_pos_right->UI,div_lt_self->Ly,div_add_mod->Lz,add_mod_mod->LA,sub_sub->E9,mul_one->Fb,le_of_sub_eq_zero->UJ,div_lt_of_lt_mul->UK,div_le_div_right->UL,succ->A3,mul_succ->LB,sub_self->LC,xor_comm->LD,lt_trichotomy->UM,lt_of_succ_lt->UN,le_zero->LF,lt_of_not_le->UO,add_left_inj->UP,mod_eq_of_lt->UQ,sub_lt->LG,strongRecOn->UR,mul_assoc->US,pred->LH,le_total->UT,add_mod->UU,two_mul->UW
open PySem.Data renaming fields->bH,seq->bU,dict->eJ,bytearray->qm,cell->oM,func->qo,plain->sZ,cls->LI,freed->UX
open PySem.NameKind renaming «local»->cZ,cell->dw,free->eN,globalImplicit->kV
open PySem.ScopeKind renaming function->d0,module->qq,«class»->UY
open Except renaming ok->cf,error->kX
open _root_.Bool renaming and_eq_true_iff->fL,and_eq_true->qr,not_eq_true'->ve,or_eq_true->LJ,or_false->LK,false_eq_true->UZ,eq_iff_iff->U0,and_false->U1,false_and->U2
open List.Mem renaming tail->dF,head->iy
open PySem.Flow renaming next->cJ,ret->cL
open _root_.Option renaming map_eq_some_iff->jb,none->eU,isSome_iff_exists->yr,bind_eq_some_iff->LL,elim->U3,map->U4
open PySem.Obj renaming mapSeq->dP,mapBytearray->jL,data_mapDictKeys->U5,data_mapFields->U6,data->Fc
open PySem.Builtin.Range renaming rangeSize->kY,small->vg,rangeFitsLong->abk,rangeFields->abl
open PySem.Code renaming builtin->fM,compLoop->gZ,compStart->oO,call->mZ,quiet_builtin->A4,forLoop->Fd
open PySem.Stmt renaming Assign->fE,For->kZ,FunctionDef->A5,Return->yt,Expr->vh,AugAssign->Fe,If->A6,While->U7
open PySem.Heap.SameBut renaming update->j5,refl->U8
open _root_.Ne renaming symm->eO
open Eq renaming refl->eV,symm->ml
open PySem.FuncBody renaming stmts->lh
open PyProof.Rows renaming IntsAre->fh,callWith_builtin1->yu,callWith_type1->A7,Subscript_->rF,foldl_take_succ->A8,tail_any->vi,Attribute_any_->Ff,spliced_more->Fg,spliced_none->Fh,call_len_slot->abm,len_tuple->abn
open PySem.Value.ref renaming inj->j6
open ForInStep renaming yield->mn
open PySem.GenState renaming running->m8,fresh->LM
open PySem.W renaming emptyDict->iz,emptyDict->te,Looks->gO,findIn->iK,boot_heap->oQ,boot_o_3->oR,SharedT->m9,boot_o_0->qt,of_pureOf->vj,instObj->Fi,typeIn->qu,looks_findIn->A9,plainGet_of->Ba,specialIn->yw,Frag->mq,instObj->vk,looks_field->Fj,Looks->LO,check_slot->U9,absHeap_size->LP,takesIn->Bb,looksOpen->Va,looks_mroIn->LQ,tc_args->Vb,check_slot->LR,through->Fl,findCls->Fm
open PySem.Const renaming int->jc,none->yx,str->LU
open List.cons renaming inj->mr
open PySem.Builtin renaming bitNot->ng,divisionGoesByPylong->Fn,bitAnd->LV,bitXor->Vc,bitOr->Vd
open PySem.Calls renaming spliced_cons->rH,evalArgs_plain->LW,callWith_function->LX,callWith_builtin->Ve,loadGlobal_global->Vg
open PySem.Env renaming kindOf->j7
open PySem.W.Looks renaming of_peek->nk,now->vm,of_pure->LY,ld->Fo,ld->abo
open List.Pairwise renaming nil->rJ,filter->Fp,imp->abp,map->abq
open _root_.Array renaming getElem?_eq_getElem->yy,getElem?_eq_none->LZ,getElem?_push->L6,getElem?_eq_some_iff->Vh,ext'->Bc,getElem?_toList->Vi,not_mem_empty->Vj,append_assoc->Vk,ext_getElem? ->Vl,empty_append->Vm,all_eq_true'->Vo,all_eq_true->Vp,replicate->Vq,toList->Vr
open List.Nodup renaming length_le_of_subset->Bd
open PySem.Builtin.Bytes renaming subscript? ->yz,payload->yA,buffer? ->yB,ownRelease->Be,slotIsOwn->Bf,write->yC,decodersThatHold->L7,sliceParts->L8,exported->L9,takeBufferQuiet? ->Vs,newBytearray->Vt,checkResize->Vu,fitsIndex->Vv,byteValue->Vw,bindOptional->abr,takeBuffer? ->abt,lengthHint->abu,exportsOf->abw,sliced->abx
open PySem.Builtin.List renaming listSameRef->yD,listExtendWith->Vy,listTooLong->Vz,listTouch->VA,listSubscript? ->aby,listLengthHint->abz,listFitsIndex->abA
open PySem.F renaming slot_range_iterator_next->Fq,slot_list_getattribute->Ft,plain_extend_loop->Fu,entry_list_iadd->Fw,slot_int_index->FA,slot_int_rmul->FC,slot_zip_next->FD,entry_proto_collect->Ma,slot_range_reversed->Mb,plain_list_iadd->Mc,args_range_iterator_next_1->VB,entry_range_iterator_next->VC,slot_tuple_iterator_next->VD,args_list_getattribute_2->VE,slot_tuple_getattribute->VF,called_tuple->Md,slot_tuple_getitem->VG,entry_extend_loop->VH,args_int_rmul_2->VI,plainAttrs_list->VJ,plain_tuple_new->VK,entry_tuple_new->VL,args_zip_next_1->VM,entry_int_rmul->VN,slot_list_iadd->VO,entry_zip_next->VP,slot_str_join->VQ
open Classical renaming byContradiction->Bg,epsilon_spec->VR,epsilon->VS,choose->VT
open PyProof.Rows.IntsAre renaming nil->qv,cons->yE
open PySem.IsPart renaming int->oS,none->Me
open PySem.Operator renaming Add->rL,Mult->vo,BitXor->Bh,FloorDiv->FE,Mod->Bj,Sub->FF,BitAnd->Mf,RShift->Mg,Pow->Mh
open PySem.Sem renaming wrap_wrap->th,wp_mono->tj,bind_eq_wrap->Bk,onRaise_eq_wrap->FG,bind_eq_wrap'->Mi,fresh->Bl,wrap_congr->Mj,raise->Mk,wp_bind'->VU
open PySem.W.KBy renaming look_buffer->yF
open PySem.Meets renaming of_wp->rM
open PySem.Fin renaming done->nq,again->yG
open PySem.Pin renaming globalOf_eq->yH
open Prod.mk renaming inj->tx
open PySem.Challenge renaming rw_nv0014_01->VV,pw_nv0014_01->Ml
open PySem.Slot renaming of->nr
open PySem.IsRange renaming new->vp
open PySem.Run renaming running->vq
open PySem.Builtin.Slice renaming sliceAdjust->Mm,slicePlaces->VW,sliceApplied->abB
open PySem.Builtin.SmallTypes renaming nextOf->Mn,newRecord->VX,refuseKeywords->abC,newClass->abD,iterAll->abE
open Decidable renaming em->yI
open PySem.Resume renaming send->yJ
open PySem.Heap.IsCode renaming at2->FH
open PySem.Builtin.ObjectAttr.Found renaming value->VY,bind->abF
open PySem.Keeper renaming machine->FI
open PySem.GenOnly renaming setGen->FJ
open PySem.CmpOp renaming NotIn->Bm,NotEq->FK,Eq->Bn,Lt->FL,In->FN,LtE->VZ
open Exists renaming imp->Bo
open PySem.W.WData renaming layableAll->Mo,list->Mp,int->Mq
open Nat.ToInt renaming of_le->Mr
open PySem.Shared renaming asleep_of_life->V8,forget_eq->Wb,rest_eq->Wc,heap->We
open PUnit renaming unit->FO
open PySem.Config renaming single->Ms
open And renaming intro->FP
open PySem.W.KF renaming slot_mset->Mt
open PySem.Thread renaming calm_forget->Wf,mk->Wg
open PySem.End renaming bare_of_quiet->Wh
open PySem.callAny renaming viaDunder->Wi
open PySem.W.BT renaming beq_eq->Mu
open PySem.Walks renaming range->Mv,list->Wj
open PySem.PyData renaming list->Mw,int->My
open PySem.Builtin.ObjectAttr renaming ownThenClass->abG,find->abH
open PySem.W.CFound renaming val->Mz
open List.range renaming loop->Wl
open PySem.Builtin.Tuple renaming tupleIsExact->abI,tupleItemsOf->abJ
open PySem.W.KBc renaming picked_eq->Wm
open Int.ofNat renaming inj->Wn
open PySem.ExcName renaming means->Wo
open PySem.Builtin.Generator renaming genWake->abK
open PySem.W.OpenRow renaming partSaid->abL,wellSaid->abM
open PySem.W.OpenLaw renaming wellSaid->abN
open Nat.succ renaming inj->Wq
open PySem.Data.seq renaming inj->Wr
open PySem.ItemsOf renaming nil->Ws
open PySem.GenOnlyQ renaming of->Wu
open PySem.Gives renaming of_wp->Wv
open PySem.Manifest.AttrKind renaming slot->abO
open PySem.BoolOp renaming And->Ww
variable {α:Type} {aS I a d dx:ab} {A:ck} {b:Array UInt8} {items ps:Array aa} {fr:Bool} {J fV M':cg} {e elt iter cu:aw} {fd:bQ} {h h' D U:aN} {pic cj:List (List Nat)} {Gs Yp:List (Nat×eS)} {cl:List (aP×ab)} {F bB W W' bq X fp rs wr H τ':List ab} {gens:List sE} {es ifs:List aw} {aL:List Int} {fs gen kn l line ms ns sp ws:List Nat} {body rest ss:List bT} {args vs:List aa} {M:Model} {c g i j k k0 n n₀ x y:Nat} {f:Nat->bQ} {St:Nat->aN->Prop} {t:Nat->aW} {o:bj} {P:bS} {np p pos px:aY} {aM:sJ->ae->Prop} {L sc' scope:c9} {s Y aJ aD:ae} {st:bT} {name:aP} {m mb mg:aP->Option aa} {it v:aa} {a6 Q:aa->ae->Prop}
section
variable {a b c d e f g h i j k l m n t x y z:Nat}
theorem Z {α:Sort _} {a:α}:a=a:=rfl
theorem kI {α:Type _} {x:α} {P:Prop} (h:x∈([]:List α)):P:=nomatch h
theorem zo {α:Type _} {P:α->Prop} (x:α) (h:x∈([]:List α)):P x:=kI h
theorem Bq {α:Type _} {x:α} {P:Prop} (h:ai=O x):P:=nomatch h
theorem nnT {P:Prop} (h:N=af):P:=nomatch h
theorem IE {P:Prop} (h:af=N):P:=nomatch h
theorem nn0 {P:Prop} (h:a+1=0):P:=nomatch h
theorem nnZ {P:Prop} (h:0=a+1):P:=nomatch h
theorem nnD {α:Type _} {x:α} {l:List α} {P:Prop} (h:[]=x::l):P:=nomatch h
theorem Yq {α β:Type _} {x z:α} {y t:β} {P:Prop} (h:(x,y)=(z,t)) (k:x=z->y=t->P):P:=k (congrArg (·.1) h) (congrArg (·.2) h)
theorem mG {α β:Type _} [BEq α] [LawfulBEq α] {l:List (α×β)} {x:α} {c:β} (h:l.lookup x=O c):(x,c)∈l:=
 (List.lookup_eq_some_iff.mp h).elim λ_ h=>h.elim λ_ h=>h.1▸ew _ cQ
theorem ue {a b:Nat} (h:fD a b=af):a≠b:=Lf h
theorem Oe {a b:Nat} (h:dY a b=N):a≤b:=dO h
theorem nme {a:Nat} {l:List Nat} (h:l.elem a=N):a∈l:=List.mem_of_elem_eq_true h
theorem DT {a:Nat} {l:List Nat} (h:l.elem a=af):a∉l:=λk=>nnT ((List.elem_eq_true_of_mem k).symm.trans h)
theorem O' {α:Type _} {G:Prop} (o:Option α) (k:o=ai->G) (m:∀x,o=O x->G):G:=by
 cases o with
 | none=>exact k Z
 | some x=>exact m x Z
theorem boC {G:Prop} (b:Bool) (k:b=N->G) (m:b=af->G):G:=(Bool.eq_false_or_eq_true b).elim k m
theorem r26:∀r∈[12,10,8,6,4,2],2≤r∧r≤12:=by decide
theorem kA1 {α:Type _} {y a:α} {l:List α} (h:y=a):y∈a::l:=h▸cQ
theorem kA4 (h:a<b) (k:c=b):a<c:=k▸h
theorem kA5 (h:a≤c):a - b≤c:=ba (sY ..) h
theorem kB1 (h:a≤b) (k:b.ble c=N):a≤c:=ba h (dO k)
theorem kB2 (h:a<b) (k:b.ble c=N):a<c:=kB1 h k
theorem kB3 (h:a≤b) (k:(b+1).ble c=N):a<c:=kB1 (sX h) k
theorem kB4 (h:a<b) (k:b.ble c=N):a≤c:=kB1 (gx h) k
theorem kB5 (h:a=b) (k:b.ble c=N):a≤c:=kB1 (lN h) k
theorem kB6 (h:a=b) (k:(b+1).ble c=N):a<c:=kB3 (lN h) k
theorem kB7 (h:a≤b) (k:b.ble c=N):a - d≤c:=kA5 (kB1 h k)
theorem kB9 (h:a<b) (k:(b+1).ble c=N):a+1<c:=kB3 h k
theorem kI1 (h:a<b) (e:d=a+1) (k:(b+1).ble c=N):d<c:=e▸kB9 h k
theorem kI2 (h:a<b) (e:d=a) (k:b.ble c=N):d<c:=e▸kB2 h k
theorem kC1 (k:(a+1).ble c=N):a - b<c:=kB3 (sY ..) k
theorem kC2 (k:a.ble c=N):a - b≤c:=kB1 (sY ..) k
theorem kC3 (h:a<c):a - b<c:=j3 (sY ..) h
theorem kC4 (h:a≤m) (k:(m+1).ble c=N):a - b<c:=kC3 (kB3 h k)
theorem kC5 (h:a≤m) (k:(m+1).ble c=N):a - b - d<c:=kC3 (kC4 h k)
theorem kC7 (h:a≤m) (k:m.ble c=N):min d (a - b)≤c:=ba (E4 ..) (kB7 h k)
theorem kC8 (k:a.ble c=N):min a b≤c:=kB1 (E5 ..) k
theorem nk1 (h:a - b=c+1):a - (b+1)=c:=congrArg LH h
theorem nk2 (h:a - b=0) (k:b≤a):b=a:=vb k (UJ h)
theorem nk3 (h:a - b=c+1):b<a:=Nat.lt_of_sub_pos (h▸E7 c)
theorem nk4 (h:a≤m) (k:c<a):a - 1 - c<m:=ff (j3 (sY ..) (LG (j3 (fg c) k) yp)) h
theorem kD2 (h:0<a):a - 1<a:=LG h yp
theorem kE2 (h:a=b) (k:b≤m) (r:m.ble c=N):a≤c:=h▸kB1 k r
theorem kE3 (h:a<b) (k:b≤m) (r:m.ble c=N):a≤c:=kB4 (ff h k) r
theorem kE5 (h:a=b - d) (k:b≤m) (r:m.ble c=N):a≤c:=h▸kB7 k r
theorem kE7 (h:a<b) (r:(m * b).ble c=N):m * a+m≤c:=kB1 (sU m h) r
theorem kE8 (h:a<b) (r:(m+b).ble c=N):m+a<c:=kB2 (ym h m) r
theorem kE9 (h:a<b) (r:(m+b).ble (c+1)=N):m+a≤c:=mX (kE8 h r)
theorem kF3 (h:a<b) (k:c=b+d):a<c:=k▸ff h (iZ ..)
theorem kF4 (h:a<b) (l:c=m) (k:m=b+d):a<c:=l▸kF3 h k
theorem kF5 (h:a≤b) (k:¬a<b):a=b:=vb h (oH k)
theorem kF6:a+1+b=a+(b+1):=yj ..
theorem kF7 (h:a+(b+1)≤c):a+1+b≤c:=ba (lN kF6) h
theorem kF8 (h:a+(b+1)≤c):a+1≤c:=ba (rq (ry ..) a) h
theorem kF9 (h:a+b≤c) (k:d<b):a+d<c:=ff (ym k a) h
theorem kG2 (k:a=c) (l:b=d) (h:c+d≤m) (r:m.ble n=N):a+b≤n:=k▸l▸kB1 h r
theorem kG3 (h:a+b≤m) (r:m.ble c=N):a≤c:=kB1 (ba (iZ ..) h) r
theorem kG5 (h:c<a - (b+1)):c<a - 1 - b:=Lq a b 1▸h
theorem kH1 {i:Int} (h:a≤m) (k:decide ((m:Int)<i)=N):(a:Int)<i:=KD (yb.mpr h) (of_decide_eq_true k)
theorem kH2 {i:Int} (h:a<m) (k:decide ((m:Int)≤i)=N):(a:Int)<i:=Ub (sP.mpr h) (of_decide_eq_true k)
theorem kH3 {i:Int} (e:a=b) (h:b≤m) (k:decide ((m:Int)<i)=N):(a:Int)<i:=e▸kH1 h k
theorem kH4 {i:Int} (e:a<b) (h:b≤m) (k:decide ((m:Int)<i)=N):(a:Int)<i:=kH1 (gx (ff e h)) k
theorem kH5 (h:a≤b):min (a:Int) (b:Int)=a:=Int.min_eq_left (yb.mpr h)
theorem kH8 (h:a<b):0<(b:Int) - (a:Int):=Int.sub_pos_of_lt (sP.mpr h)
theorem zL (ha:a≤k) (D:b≤k):a+(b - a)≤k:=(UT a b).elim (λh=>(sW h).symm▸D) λh=>Li h▸ha
theorem nA1 (e:a=b):(AH k+(a:Int)).toNat=b - (k+1):=e▸(congrArg KJ Int.subNatNat_eq_coe).trans (KI ..)
theorem nA2 (h:k+1≤b) (e:a=b): -(a:Int)≤AH k:=Int.neg_le_neg (yb.mpr (e▸h))
theorem nA3 (h:i<n):n - i=n - (i+1)+1:=(UH (Lu h)).symm
theorem nA4 (h:a<m) (k:b<2):2 * a+b<2 * m:=ff (ym k _) (sU 2 h)
theorem nA5 (h:z=y - i):z - 1=y - (i+1):=congrArg LH h
theorem nA6 (e:z=y - i) (k:i<x) (h:x≤y):0<z:=e▸Lu (ff k h)
theorem nA7 (e:x=a+(b - a)) (h:a≤k) (l:b≤k+1):x≤k+1:=e▸zL (qk h) l
theorem nA8 (e:x=a+d) (h:c≤a):c≤x:=e▸ba h (iZ ..)
theorem nA9 (e:n - i=k+1) (h:i<n):n - 1 - k=i:=(E9 n 1 k).trans ((congrArg (n - ·) ((jJ 1 k).trans e.symm)).trans (Lv (gx h)))
theorem nB1 (e:n - 1 - a=n - 1 - b) (h:a<n) (k:b<n):a=b:=(Lv (Lk h)).symm.trans ((congrArg (n - 1 - ·) e).trans (Lv (Lk k)))
theorem nB2 (h:2 * t≤c - k) (hk:k≤c) (m:g≤f) (l:f≤t):k+g≤c:=ba (rq (ba (ba m l) (ba (Nat.le_mul_of_pos_left t (by decide)) h)) k) (lN (sW hk))
theorem nB3 (e:n=c) (h:2 * t≤c) (l:f≤t):2 * f≤n:=e▸ba (sU 2 l) h
theorem nB4 (e:d=a - 17) (h:a<17 * (n+1)) (l:¬a<17):d<17 * n:=e▸Nat.sub_lt_right_of_lt_add (oH l) h
theorem nB5 (h:a+b≤m) (l:¬b<k):a+k+(b - k)≤m:=(lM a k (b - k)).trans (congrArg (a+·) (sW (oH l)))▸h
theorem nB6 (e:d=a - k) (f:c=k) (h:a≤m) (r:k.ble m=N):c+d≤m:=f.symm▸e▸zL (dO r) h
theorem nB7 (h:d+g=m) (l:m≤k+f):(g - k) / 2≤f:=ba (Nat.div_le_self ..) (Ll (jJ k f▸ba (h▸ry ..) l))
theorem nB8 (h:d+g=m):d+(m - d)=m:=sW (h▸iZ ..)
theorem nB9 (h:m≤b) (e:k+n=m) (l:b≤c) (r:c.ble d=N):min k b+(n+(b - m))≤d:=ba (yl (E5 k b) _) (ba (lN ((lM ..).symm.trans (e.symm▸sW h))) (kB1 l r))
theorem nC1 (e:x=l - 1) (h:j<x):j+1<l:=Lm (e▸h)
theorem nC2 (h:i % 2=x) (r:1 - (x+1) % 2=y):1 - (i+1) % 2=y:=r▸h▸congrArg (1 - ·) (UU i 1 2)
theorem nC3 (l:i<a) (h:a≤b):i - k<b:=j3 (sY ..) (ff l h)
theorem nC4 (h:j≠0) (l:¬j % 2=1):j=2 * (j / 2 - 1)+2:=let e:=Nat.mul_div_cancel' (Nat.dvd_of_mod_eq_zero ((EX j).resolve_right l));e.symm.trans (congrArg (2 * ·) (Nat.succ_pred_eq_of_ne_zero (n:=j / 2) λq=>h (e.symm.trans (congrArg (2 * ·) q))).symm)
theorem nC6 (f:l=x - k) (e:x=c) (h:c≤m) (r:m.ble d=N):l≤d:=f▸e▸kA5 (kB1 h r)
theorem nC7 (g:n≤l) (f:l=x - k) (e:x=c) (h:k≤c):k+n≤c:=ba (rq g k) (f▸e.symm▸lN (sW h))
theorem nC9:max 0 (min (k:Int) (n:Int))=min (k:Int) (n:Int):=Uc (Int.le_min.mpr ⟨KG k,KG n⟩)
theorem nD1 {b bp:Int} (h:(a:Int)+b<bp) (l:m<((a:Int)+b - a).toNat) (r:bp=(k:Int)):a+m<k:=sP.mp (Ug (Int.add_lt_add_left (EF.mp l) a) ((Int.add_comm ..).trans (Int.sub_add_cancel ..)▸r▸h))
theorem nD2 {bp:Int} (l:m<(bp - a).toNat) (r:bp=(k:Int)):a+m<k:=jJ m a▸Lm (KI k a▸r▸l)
theorem nD3:i<8->((8:Nat):Int) - 1+(i:Int) * -1=((7 - i:Nat):Int):=by revert i;decide
theorem nD4 (h:e - (k+1)=m) (l:g≤m):m - g+g=e - 1 - k:=(Lr l).trans (h.symm.trans (Lq e k 1))
theorem nD5 (l:e - (k+1)=m) (h:k+g<e):g≤m:=l▸AW (a:=g) (b:=k+1) (Nat.succ_le_of_lt (jJ k g▸h:g+k<e))
theorem nD6:k+(i+1) - k - 1=i:=congrArg LH (rp ..)
theorem nD8:d+(d+i - d)=d+i:=congrArg (d+·) (rp ..)
theorem nD9 (h:b≤a∧a≤m) (e:x=c) (r:(m+1).ble c=N):a - z<x:=e▸kC4 h.2 r
theorem nE1 (g:f≤n - 1) (h:n≤a+1) (k:e≤f) (l:a≤e):f=a:=vb (ba g (Nat.pred_le_pred h)) (ba l k)
theorem nE3 (h:y≤x):aj x - aj y=aj (x - y):=(Ud h).symm
theorem nE4 (h:0<n) (r:(1).ble m=N):0<min m n∧min m n≤m:=⟨Nat.lt_min.mpr ⟨dO r,h⟩,E5 ..⟩
theorem nE8 {x:Int} (h:x.natAbs<1073741824):x<2 ^ 64:=KD Int.le_natAbs (sP.mpr (kB2 h Z))
theorem nE9 (h:m≤x) (l:k≤m):k+(m - k)≤x:=(sW l).symm▸h
theorem nF1:((k:Int)+1 * (n:Int)).toNat=k+n:=congrArg KJ (congrArg ((k:Int)+·) (Int.one_mul n))
theorem nF2 (h:d<c):d+(a+c - d)=a+c:=sW (ba (gx h) (ry ..))
theorem nF3 (h:y≤m):aj x - aj y=aj (x+m - y) - aj m:=(Int.add_sub_cancel (x - y:Int) m).symm.trans (congrArg (· - aj m) ((Int.add_right_comm ..).trans (Ud (ba h (ry ..))).symm))
theorem nF4 (h:a+k≤l):min k (l - a)=k:=AZ (AW (jJ a k▸h))
theorem nF5 (h:a=b) (l:j<b):¬a - 1=a:=fB (LG (h▸Nat.zero_lt_of_lt l) Nat.one_pos)
theorem nF6 (m:j - a=0) (l:¬j<a) (h:a=i):j=i:=(vb (UJ m) (oH l)).trans h
theorem nF7 (h:b+n≤m) (r:m.ble d=N):min i n≤d:=kB1 (ba (E4 ..) (ba (ry ..) h)) r
theorem nF8 (l:a+20 * k<9900) (h:4≤k) (e:x=9900):a+64<x:=e▸j3 (rq (ba (by decide) (sU 20 h)) a) l
theorem nF9 (h:i<n) (e:x=y) (r:(m+n).ble y=N):m+i<x:=e▸kE8 h r
theorem nG1 (h:a<256) (l:¬a<128):a / 128=1:=Nat.div_eq_of_lt_le (oH l) h
theorem nG3 (r:(1).ble m=N):a % m<m:=mY _ (dO r)
theorem nG4 (g:z=y) (f:y=x) (e:x=c+d) (h:k<c) (l:n<d):k+n+1<z:=g▸f▸e▸ff (j3 (lN (lM k n 1)) (EZ h _)) (rq l c)
theorem nG5 (h:a<m) (l:b<m) (r:(m+m).ble c=N):a+b<c:=ff (Nat.add_lt_add h l) (dO r)
theorem nG6 (h:a≤m):min a b≤m:=ba (E5 ..) h
theorem nG8 (g:x≤26 * i+2 * k+m) (j:m<2) (l:k<13) (h:i<6):x≤1000:=kB1 (ba g (E6 (E6 (sU 26 (gx h)) (sU 2 (gx l))) (gx j))) Z
theorem nG9 (e:d=n+1) (f:a=c) (h:n+1+c=m) (r:(k * m).ble b=N):k * d+k * a≤b:=e▸f▸yq k (n+1) c▸h▸dO r
theorem nH1 {p:Prop} (l:y≤x+2) (h:x≤a+2 * k∧p):y≤a+2 * (k+1):=ba l (yl h.1 2)
theorem nH2 (l:d=n+1) (h:n+1+g=m):d+g=m:=l▸h
theorem nH3 (h:l≤x+2 * n) (k:x≤y+2):l≤y+2 * (n+1):=ba h (ba (yl k _) (lN ((lM ..).trans (congrArg (y+·) (jJ ..)))))
theorem nH5 (h:k+m≤i):¬(k≤i∧i - k<m):=λq=>gw _ (ff q.2 (AW (jJ k m▸h)))
theorem nH6 (h:a+b≤m) (r:m.ble d=N):a+min i b≤d:=kB1 (ba (rq (E4 ..) a) h) r
theorem nH7 (e:x=n+g):n≤x:=e▸iZ ..
theorem nH8 (h:a=m * b) (l:b+c=n) (r:(m * n).ble d=N):a≤d:=h▸ba (sU m (l▸iZ ..)) (dO r)
theorem pA1 (k:y≤x+1) (h:x≤a+m):y≤a+(m+1):=ba k (sX h)
theorem pA3 (h:a<2 * 128):a / 128=0∨a / 128=1:=Nat.le_one_iff_eq_zero_or_eq_one.mp (mX (UK h))
theorem pA5 {k:Int} (h: -2 ^ 62≤k) (l:k<2 ^ 62): -9223372036854775808≤k∧k<9223372036854775808:=⟨Uh (by decide) h,Ug l (by decide)⟩
theorem pA7 {p:Prop} (h:p∧x≤k+n):p∧x≤k+(n+1):=⟨h.1,qk h.2⟩
theorem pA8 (e:t=k) (l:¬b<k) (h:a+b≤m):a+t≤m:=e▸ba (rq (oH l) a) h
theorem pA9 (h:a+d+g=t+1) (l:1≤g):a≤t:=Nat.le_of_succ_le_succ (h▸(E6 (iZ a d) l:a+1≤a+d+g):a+1≤t+1)
theorem pA0 (h:e<t+1 - a):a+e≤t:=mX (jJ e a▸Lm h)
theorem pB2 (h:0<n):n / 2<n:=Ly h (by decide)
theorem pB3 (h:k<a) (l:b<m) (r:(m * a).ble c=N):m * k+b<c:=ff (ym l _) (kE7 h r)
theorem pB5 {k:Int} (h:0<k):k - 0=(k.toNat:Int):=(Int.sub_zero k).trans (Ua (Int.le_of_lt h)).symm
theorem pB6 {p:Prop} (l:f≤x+m) (h:x≤m * i∧p):f≤m * (i+1):=ba l (yl h.1 m)
theorem pB7 (e:x=c) (h:n+c=m) (r:m.ble d=N):x≤d:=e▸kB1 (h▸ry ..) r
theorem pB8 (e:x=n) (h:n+c=m) (r:m.ble d=N):x≤d:=e▸kB1 (h▸iZ ..) r
theorem pB9 (e:x=n) (h:i+(k+1)=n):i<x:=e▸h▸UI (E7 k)
theorem pC1 {i:Int} (e:a<b) (h:b≤m) (k:decide (aj m<i)=N):aj a<i:=kH4 e h k
theorem pC2 {i:Int} (h:a≤m) (k:decide (aj m<i)=N):aj a<i:=kH1 h k
theorem pC3 (l:k≤m) (h:m≤n):min (k:Int) (n:Int)=k:=kH5 (ba l h)
theorem pC4 (h:j<l) (e:l=c - k) (f:x=c):j<x - k:=f.symm▸e▸h
theorem pC5 (e:y=i) (g:x=m) (h:z≤a) (l:i<b) (r:(a+b).ble m=N):z+y≤x:=g▸e▸kB1 (E6 h (gx l)) r
theorem pC8 (e:t=x / 2):2 * t≤x:=e▸Nat.mul_div_le x 2
theorem pC9 (h:k+n=m):max (k:Int) (m:Int)=m:=Uc (yb.mpr (h▸iZ ..))
theorem pD1 (h:x=i∧i≤c) (l:c≤m) (r:m.ble d=N):x≤d:=h.1▸kB1 (ba h.2 l) r
theorem pD2 (h:x=i∧i≤c) (j:c≤e) (l:e≤m) (r:m.ble d=N):x≤d:=h.1▸kB1 (ba h.2 (ba j l)) r
theorem pD5 (e:x=i+1) (l:i<b) (h:b≤m) (r:(1+m).ble d=N):1+x≤d:=e▸kB1 (rq (ba l h) 1) r
theorem pD7 (e:x=a) (h:a+b≤m):x+b≤m:=e▸h
theorem pD8 (h:i+g≤l) (k:n+1≤i):n+g<l:=ff (EZ k g) h
theorem pD9 (h:b<i+1) (l:i<k) (m:k≤n):b<n:=ff (j3 (mX h) l) m
theorem pE1 (h:a+m<c) (r:k.ble m=N):a+k<c:=j3 (rq (dO r) a) h
theorem pE3 (h:(a:Int)<b):a<b:=sP.mp h
theorem pE6 (h:j<e) (l:a+e≤t) (k:t≤n):a+j<n:=ff (ym h a) (ba l k)
theorem pE7 (h:a≤b) (l:b≤m) (r:m.ble d=N):a≤d:=kB1 (ba h l) r
theorem pE8 (e:x=a+1) (h:a≤b) (l:b≤m) (r:(m+1).ble d=N):x≤d:=e▸kB1 (sX (ba h l)) r
theorem pF1 (e:x=j) (l:j<n) (h:n≤m) (g:t=d) (r:m.ble d=N):x≤t:=g▸e▸kB4 (ff l h) r
theorem pF6 (e:x=m * b) (h:i<b):m * i+m≤x:=e▸sU m h
theorem pF7 (h:i<b) (e:x=c) (r:(m * b).ble c=N):m * i+m≤x:=e▸kE7 h r
end
local macro_rules | `(tactic| infer_instance)=>do
 let a←`(by assumption)
 let r←`(by with_unfolding_all rfl)
 let t←("List.mem_cons_self,kA1 a,List.mem_cons_of_mem i,List.mem_append_right i,List.mem_append_left i,Or.inl a,Or.inr i,Ne.symm a,Eq.symm a,Nat.le_of_lt a,Nat.succ_le_of_lt a,Nat.lt_of_succ_le a,Nat.le_succ_of_le a,Nat.lt_succ_of_le a,Nat.lt_succ_of_lt a,Nat.succ_le_succ a,Nat.succ_lt_succ a,Nat.lt_succ_self,Nat.le_succ,Nat.le_add_right,Nat.le_add_left,Nat.sub_le,Nat.zero_le,Nat.succ_pos,Nat.lt_of_lt_of_le aa,Nat.lt_of_le_of_lt aa,Nat.lt_of_lt_of_eq aa,kA4 aa,Nat.le_trans aa,kA5 a,kB1 ar,kB2 ar,kB3 ar,kB4 ar,kB5 ar,kB6 ar,kB7 ar,kB9 ar,kI1 arr,kI2 arr,Nat.le_of_ble_eq_true r,kC1 r,kC2 r,kC3 a,kC4 ar,kC5 ar,kC7 ar,kC8 r,nk1 a,nk2 aa,nk3 a,nk4 aa,Nat.sub_add_cancel a,Nat.add_sub_cancel_left,Nat.add_sub_of_le a,kD2 a,Nat.le_sub_one_of_lt a,kE2 aar,kE3 aar,kE5 aar,Nat.lt_of_succ_lt_succ a,Nat.le_of_succ_le_succ a,kE7 ar,kE8 ar,kE9 ar,kF3 aa,kF4 aaa,kF5 aa,kF6,kF7 a,kF8 a,kF9 aa,kG2 aaar,kG3 ar,kG5 a,kH1 ar,kH2 ar,kH3 aar,kH4 aar,kH5 a,kH8 a,nA1 a,nA2 aa,nA3 a,nA5 a,nA6 aaa,nA7 aaa,nA8 aa,nA9 aa,nB1 aaa,nB2 aaaa,nB3 aaa,nB4 aaa,nB5 aa,nB6 aaar,nB7 aa,nB8 a,nB9 aaar,nC1 aa,nC2 ar,nC3 aa,nC4 aa,nC6 aaar,nC7 aaaa,nC9,nD1 aar,nD2 ar,nD3 a,nD4 aa,nD5 aa,nD6,nD8,nD9 aar,nE1 aaaa,nE3 a,nE4 ar,nE8 a,nE9 aa,nF1,nF2 a,nF3 a,nF4 a,nF5 aa,nF6 aaa,nF7 ar,nF8 aaa,nF9 aar,nG1 aa,nG3 r,nG4 aaaaa,nG5 aar,nG6 a,nG8 aaaa,nG9 aaar,nH1 aa,nH2 aa,nH3 aa,nH5 a,nH6 ar,nH7 a,nH8 aar,pA1 aa,pA3 a,pA5 aa,pA7 a,pA8 aaa,pA9 aa,pA0 a,pB2 a,pB3 aar,pB5 a,pB6 aa,pB7 aar,pB8 aar,pB9 aa,pC1 aar,pC2 ar,pC3 aa,pC4 aaa,pC5 aaaar,pC8 a,pC9 a,pD1 aar,pD2 aaar,pD5 aaar,pD7 aa,pD8 aa,pD9 aaa,pE1 ar,pE3 a,pE6 aaa,pE7 aar,pE8 aaar,pF1 aaaar,pF6 aa,pF7 aar,Nat.le_refl".splitOn ",").toArray.mapM λx=>do
  let p:=x.splitOn " "
  let e:=Lean.mkIdent p.head!.toName
  if p.getLast! = "i" then `(Lean.Parser.Tactic.tacticSeq| apply $e;infer_instance)
  else `(Lean.Parser.Tactic.tacticSeq| exact $(Lean.Syntax.mkApp e ((p.drop 1).head?.getD "" |>.toList.toArray.map λc=>if c= 'a' then a else r)) ..)
 `(tactic| with_reducible first | assumption $[| $t]*)
local macro_rules | `(tactic| lia)=>`(tactic| first | infer_instance | fail)
local macro_rules | `(tactic| ext)=>`(tactic| first | infer_instance | contradiction | kernel_rfl)
local macro_rules | `(tactic| show $t:term)=>`(tactic| refine $t)
abbrev LN:=List Nat
abbrev dh(A:Around):Prop:=A.handled=ai
abbrev uf(h ajF:Heap):Prop:=∀b o,h.get? b=O o->ajF.get? b=O o
theorem au{p:Prop}(h:p:=by lia):p:=h
theorem bC{p:Prop}(h:p:=by ext):p:=h
theorem bz{p:Prop}(h:p:=by kernel_rfl):p:=h
theorem jP{p:Prop}(h:p:=by simp;lia):p:=h
theorem fF{p:Prop}(h:p:=by simp):p:=h
theorem aK{p:Prop}[i:Decidable p](h:decide p=N:=by show rfl):p:=of_decide_eq_true h
theorem bA{a b:Nat}(h:Nat.ble a b=N:=by show rfl):a<=b:=Oe h
theorem v7{α:Sort _}{a:α}{q:Prop}:a=a\/q:=.inl rfl
noncomputable abbrev FY:PySem.W.OpenLaw:=VV
theorem wsA:PySem.W.namesResolve FY.row.prog=N:=by ext
theorem wsB:PySem.W.noRoadLSs {strict:= !(importedModules FY.row.prog.main.body).all PySem.W.cThrough.contains,foot:=ai,bare:=(["vars", "dir", "locals"]:List aP).filter (PySem.W.readsOut FY.row.prog FY.row.prog.main.body)} FY.row.prog.main.body=N:=by ext
theorem wsC:PySem.W.namesMeet FY.row.prog FY.row.prog.main.body (λ_ n=>PySem.W.attrL n)=N:=by ext
theorem wsD:Va FY.row.prog=N:=by
 delta Va
 rw[wsA,wsB,wsC];ext
theorem wsE:FY.row.partSaid=N:=by
 delta abL
 rw[wsD];ext
theorem t1:FY.wellSaid=N:=by
 delta abN abM
 rw[wsE];ext
section
section
variable{f9 aO W X gh iO A B aS a0:Sort _}{G:Prop}
theorem eX{P Q:Prop}(h:P/\Q)(k:P->Q->G):G:=k h.1 h.2
theorem dG{P:f9->Prop}(h:∃x,P x)(k:∀x,P x->G):G:=h.elim λx i=>k x i
theorem hb{P Q aM:Prop}(h:P/\Q/\aM)(k:P->Q->aM->G):G:=eX h.2 (k h.1)
theorem MA{P:Prop}{Q:f9->Prop}(h:P/\∃x,Q x)(k:P->∀x,Q x->G):G:=dG h.2 (k h.1)
theorem bh{P Q:f9->Prop}(h:∃x,P x/\Q x)(k:∀x,P x->Q x->G):G:=h.elim λx i=>eX i (k x)
theorem jh{P:f9->aO->Prop}(h:∃x y,P x y)(k:∀x y,P x y->G):G:=h.elim λx i=>dG i (k x)
theorem iL{P Q aM S:Prop}(h:P/\Q/\aM/\S)(k:P->Q->aM->S->G):G:=hb h.2 (k h.1)
theorem iM{P:Prop}{Q aM:f9->Prop}(h:P/\∃x,Q x/\aM x)(k:P->∀x,Q x->aM x->G):G:=bh h.2 (k h.1)
theorem gC{P Q aM:f9->Prop}(h:∃x,P x/\Q x/\aM x)(k:∀x,P x->Q x->aM x->G):G:=h.elim λx i=>hb i (k x)
theorem eQ{P Q:f9->aO->Prop}(h:∃x y,P x y/\Q x y)(k:∀x y,P x y->Q x y->G):G:=h.elim λx i=>bh i (k x)
theorem jd{P Q aM S T:Prop}(h:P/\Q/\aM/\S/\T)(k:P->Q->aM->S->T->G):G:=iL h.2 (k h.1)
theorem oT{P Q:Prop}{aM S:f9->Prop}(h:P/\Q/\∃x,aM x/\S x)(k:P->Q->∀x,aM x->S x->G):G:=iM h.2 (k h.1)
theorem oU{P:Prop}{Q aM S:f9->Prop}(h:P/\∃x,Q x/\aM x/\S x)(k:P->∀x,Q x->aM x->S x->G):G:=gC h.2 (k h.1)
theorem FZ{P:Prop}{Q aM:f9->aO->Prop}(h:P/\∃x y,Q x y/\aM x y)(k:P->∀x y,Q x y->aM x y->G):G:=eQ h.2 (k h.1)
theorem lY{P Q aM S:f9->Prop}(h:∃x,P x/\Q x/\aM x/\S x)(k:∀x,P x->Q x->aM x->S x->G):G:=h.elim λx i=>iL i (k x)
theorem QZ{P Q:f9->Prop}{aM:f9->aO->Prop}(h:∃x,P x/\Q x/\∃y,aM x y)(k:∀x,P x->Q x->∀y,aM x y->G):G:=h.elim λx i=>MA i.2 (k x i.1)
theorem jx{P Q aM:f9->aO->Prop}(h:∃x y,P x y/\Q x y/\aM x y)(k:∀x y,P x y->Q x y->aM x y->G):G:=h.elim λx i=>gC i (k x)
theorem eY{P Q:f9->aO->W->Prop}(h:∃x y z,P x y z/\Q x y z)(k:∀x y z,P x y z->Q x y z->G):G:=h.elim λx i=>eQ i (k x)
theorem yK{P Q:Prop}{aM S:f9->aO->Prop}(h:P/\Q/\∃x y,aM x y/\S x y)(k:P->Q->∀x y,aM x y->S x y->G):G:=FZ h.2 (k h.1)
theorem tD{P Q aM:f9->aO->W->Prop}(h:∃x y z,P x y z/\Q x y z/\aM x y z)(k:∀x y z,P x y z->Q x y z->aM x y z->G):G:=h.elim λx i=>jx i (k x)
theorem Ga{P:Prop}{Q aM S T:f9->aO->Prop}(h:P/\∃x y,Q x y/\aM x y/\S x y/\T x y)(k:P->∀x y,Q x y->aM x y->S x y->T x y->G):G:=h.2.elim λx i=>lY i (k h.1 x)
theorem lZ{P Q aM S T:f9->aO->Prop}(h:∃x y,P x y/\Q x y/\aM x y/\S x y/\T x y)(k:∀x y,P x y->Q x y->aM x y->S x y->T x y->G):G:=h.elim λx i=>i.elim λy j=>jd j (k x y)
theorem gH{P Q aM S:f9->aO->W->Prop}(h:∃x y z,P x y z/\Q x y z/\aM x y z/\S x y z)(k:∀x y z,P x y z->Q x y z->aM x y z->S x y z->G):G:=h.elim λx i=>i.elim λy j=>lY j (k x y)
theorem Br{P Q aM:f9->aO->W->X->Prop}(h:∃x y z u,P x y z u/\Q x y z u/\aM x y z u)(k:∀x y z u,P x y z u->Q x y z u->aM x y z u->G):G:=h.elim λx i=>tD i (k x)
theorem dU{P Q aM S T cB I iS:Prop}(h:P/\Q/\aM/\S/\T/\cB/\I/\iS)(k:P->Q->aM->S->T->cB->I->iS->G):G:=jd h.2.2.2 (k h.1 h.2.1 h.2.2.1)
theorem Cy{P Q aM S T cB:f9->aO->Prop}(h:∃x y,P x y/\Q x y/\aM x y/\S x y/\T x y/\cB x y)(k:∀x y,P x y->Q x y->aM x y->S x y->T x y->cB x y->G):G:=h.elim λx i=>i.elim λy j=>jd j.2 (k x y j.1)
theorem ux{P Q aM S T:f9->aO->W->Prop}(h:∃x y z,P x y z/\Q x y z/\aM x y z/\S x y z/\T x y z)(k:∀x y z,P x y z->Q x y z->aM x y z->S x y z->T x y z->G):G:=h.elim λx i=>lZ i (k x)
theorem gu{P Q aM S:f9->aO->W->X->Prop}(h:∃x y z u,P x y z u/\Q x y z u/\aM x y z u/\S x y z u)(k:∀x y z u,P x y z u->Q x y z u->aM x y z u->S x y z u->G):G:=h.elim λx i=>gH i (k x)
theorem vt{P Q aM S T cB I:f9->aO->Prop}(h:∃x y,P x y/\Q x y/\aM x y/\S x y/\T x y/\cB x y/\I x y)(k:∀x y,P x y->Q x y->aM x y->S x y->T x y->cB x y->I x y->G):G:=h.elim λx i=>i.elim λy j=>jd j.2.2 (k x y j.1 j.2.1)
theorem rW{P Q aM S T cB:f9->aO->W->Prop}(h:∃x y z,P x y z/\Q x y z/\aM x y z/\S x y z/\T x y z/\cB x y z)(k:∀x y z,P x y z->Q x y z->aM x y z->S x y z->T x y z->cB x y z->G):G:=h.elim λx i=>Cy i (k x)
theorem fO{P Q aM S T:f9->aO->W->X->Prop}(h:∃x y z u,P x y z u/\Q x y z u/\aM x y z u/\S x y z u/\T x y z u)(k:∀x y z u,P x y z u->Q x y z u->aM x y z u->S x y z u->T x y z u->G):G:=h.elim λx i=>ux i (k x)
theorem Gb{P:f9->aO->W->X->gh->iO->A->B->Prop}(h:∃x y z u v w a b,P x y z u v w a b)(k:∀x y z u v w a b,P x y z u v w a b->G):G:=h.elim λx i=>i.elim λy j=>j.elim λz l=>l.elim λu m=>m.elim λv n=>n.elim λw o=>jh o (k x y z u v w)
theorem wC{P Q aM S T:f9->aO->W->X->gh->Prop}(h:∃x y z u v,P x y z u v/\Q x y z u v/\aM x y z u v/\S x y z u v/\T x y z u v)(k:∀x y z u v,P x y z u v->Q x y z u v->aM x y z u v->S x y z u v->T x y z u v->G):G:=h.elim λx i=>fO i (k x)
theorem ki{P Q aM S T cB I iS bp:f9->aO->W->X->gh->iO->Prop}(h:∃x y z u v w,P x y z u v w/\Q x y z u v w/\aM x y z u v w/\S x y z u v w/\T x y z u v w/\cB x y z u v w/\I x y z u v w/\iS x y z u v w/\bp x y z u v w)(k:∀x y z u v w,P x y z u v w->Q x y z u v w->aM x y z u v w->S x y z u v w->T x y z u v w->cB x y z u v w->I x y z u v w->iS x y z u v w->bp x y z u v w->G):G:=h.elim λx i=>i.elim λy j=>j.elim λz l=>l.elim λu m=>m.elim λv n=>n.elim λw o=>dU o.2 (k x y z u v w o.1)
end
section
variable{f9 aO W X gh iO:Sort _}
theorem gQ{P Q aM:Prop}(a:P)(b:Q)(c:aM):P/\Q/\aM:=⟨a,b,c⟩
theorem rN{P Q aM S:Prop}(a:P)(b:Q)(c:aM)(d:S):P/\Q/\aM/\S:=⟨a,b,c,d⟩
theorem Yr{P Q aM S T:Prop}(a:P)(b:Q)(c:aM)(d:S)(e:T):P/\Q/\aM/\S/\T:=⟨a,b,c,d,e⟩
theorem DU{P:f9->Prop}(x:f9)(a:P x):∃x,P x:=⟨x,a⟩
theorem ct{P Q:f9->Prop}(x:f9)(a:P x)(b:Q x):∃x,P x/\Q x:=⟨x,a,b⟩
theorem kF{P Q aM:f9->Prop}(x:f9)(a:P x)(b:Q x)(c:aM x):∃x,P x/\Q x/\aM x:=⟨x,a,b,c⟩
theorem wD{P Q aM S:f9->Prop}(x:f9)(a:P x)(b:Q x)(c:aM x)(d:S x):∃x,P x/\Q x/\aM x/\S x:=⟨x,a,b,c,d⟩
theorem qA{P:f9->aO->Prop}(x:f9)(y:aO)(a:P x y):∃x y,P x y:=⟨x,y,a⟩
theorem kH{P Q:f9->aO->Prop}(x:f9)(y:aO)(a:P x y)(b:Q x y):∃x y,P x y/\Q x y:=⟨x,y,a,b⟩
theorem Ot{P Q aM:f9->aO->Prop}(x:f9)(y:aO)(a:P x y)(b:Q x y)(c:aM x y):∃x y,P x y/\Q x y/\aM x y:=⟨x,y,a,b,c⟩
theorem MB{P Q aM S:f9->aO->Prop}(x:f9)(y:aO)(a:P x y)(b:Q x y)(c:aM x y)(d:S x y):∃x y,P x y/\Q x y/\aM x y/\S x y:=⟨x,y,a,b,c,d⟩
theorem U'{P Q aM S T:f9->aO->Prop}(x:f9)(y:aO)(a:P x y)(b:Q x y)(c:aM x y)(d:S x y)(e:T x y):∃x y,P x y/\Q x y/\aM x y/\S x y/\T x y:=⟨x,y,a,b,c,d,e⟩
theorem ag2{P Q aM S T cB:f9->aO->Prop}(x:f9)(y:aO)(a:P x y)(b:Q x y)(c:aM x y)(d:S x y)(e:T x y)(f:cB x y):∃x y,P x y/\Q x y/\aM x y/\S x y/\T x y/\cB x y:=⟨x,y,a,b,c,d,e,f⟩
theorem Bt{P Q:f9->aO->W->Prop}(x:f9)(y:aO)(z:W)(a:P x y z)(b:Q x y z):∃x y z,P x y z/\Q x y z:=⟨x,y,z,a,b⟩
theorem DV{P Q aM S:f9->aO->W->Prop}(x:f9)(y:aO)(z:W)(a:P x y z)(b:Q x y z)(c:aM x y z)(d:S x y z):∃x y z,P x y z/\Q x y z/\aM x y z/\S x y z:=⟨x,y,z,a,b,c,d⟩
theorem ag3{P Q aM S T cB:f9->aO->W->Prop}(x:f9)(y:aO)(z:W)(a:P x y z)(b:Q x y z)(c:aM x y z)(d:S x y z)(e:T x y z)(f:cB x y z):∃x y z,P x y z/\Q x y z/\aM x y z/\S x y z/\T x y z/\cB x y z:=⟨x,y,z,a,b,c,d,e,f⟩
theorem ae2{P Q:f9->aO->W->X->Prop}(x:f9)(y:aO)(z:W)(u:X)(a:P x y z u)(b:Q x y z u):∃x y z u,P x y z u/\Q x y z u:=⟨x,y,z,u,a,b⟩
theorem ae3{P Q aM:f9->aO->W->X->Prop}(x:f9)(y:aO)(z:W)(u:X)(a:P x y z u)(b:Q x y z u)(c:aM x y z u):∃x y z u,P x y z u/\Q x y z u/\aM x y z u:=⟨x,y,z,u,a,b,c⟩
theorem DW{P Q aM S:f9->aO->W->X->Prop}(x:f9)(y:aO)(z:W)(u:X)(a:P x y z u)(b:Q x y z u)(c:aM x y z u)(d:S x y z u):∃x y z u,P x y z u/\Q x y z u/\aM x y z u/\S x y z u:=⟨x,y,z,u,a,b,c,d⟩
theorem X'{P Q aM S T:f9->aO->W->X->Prop}(x:f9)(y:aO)(z:W)(u:X)(a:P x y z u)(b:Q x y z u)(c:aM x y z u)(d:S x y z u)(e:T x y z u):∃x y z u,P x y z u/\Q x y z u/\aM x y z u/\S x y z u/\T x y z u:=⟨x,y,z,u,a,b,c,d,e⟩
theorem ae4{P Q aM S T cB:f9->aO->W->X->Prop}(x:f9)(y:aO)(z:W)(u:X)(a:P x y z u)(b:Q x y z u)(c:aM x y z u)(d:S x y z u)(e:T x y z u)(f:cB x y z u):∃x y z u,P x y z u/\Q x y z u/\aM x y z u/\S x y z u/\T x y z u/\cB x y z u:=⟨x,y,z,u,a,b,c,d,e,f⟩
theorem ag4{P Q aM S T:f9->aO->W->X->gh->Prop}(x:f9)(y:aO)(z:W)(u:X)(v:gh)(a:P x y z u v)(b:Q x y z u v)(c:aM x y z u v)(d:S x y z u v)(e:T x y z u v):∃x y z u v,P x y z u v/\Q x y z u v/\aM x y z u v/\S x y z u v/\T x y z u v:=⟨x,y,z,u,v,a,b,c,d,e⟩
end
theorem MC{l:List α}(h:l.length=n+1):∃a t,l=a::t/\t.length=n:=by
 cases l with
 |nil=>show nnZ h
 |cons a t=>show kH a t Z (Wq h)
theorem ajG{P:List α->Prop}{l:List α}(h:l.length=1)(k:∀a,P [a]):P l:=eQ (MC h) λa _ e h=>e▸Uj h▸k a
theorem ag5{P:List α->Prop}{l:List α}(h:l.length=2)(k:∀a b,P [a,b]):P l:=eQ (MC h) λa _ e h=>e▸ajG (P:=λt=>P (a::t)) h (k a)
theorem abP{P:List α->Prop}{l:List α}(h:l.length=3)(k:∀a b c,P [a,b,c]):P l:=eQ (MC h) λa _ e h=>e▸ag5 (P:=λt=>P (a::t)) h (k a)
theorem ajH{P:List α->Prop}{l:List α}(h:l.length=8)(k:∀a b c d e f g i,P [a,b,c,d,e,f,g,i]):P l:=
 eQ (MC h) λa _ e1 h=>eQ (MC h) λb _ e2 h=>eQ (MC h) λc _ e3 h=>eQ (MC h) λd _ e4 h=>eQ (MC h) λe _ e5 h=>
 e1▸e2▸e3▸e4▸e5▸abP (P:=λt=>P (a::b::c::d::e::t)) h (k a b c d e)
theorem nj0(h:j<n):n - j=n - j - 1+1:=(UH (Lu h)).symm
theorem nj3{m:Nat}(h:n - j=m+1):n=j+(m+1):=by
 rcases UT j n with q|q
 .rw [<-h,Nat.add_sub_cancel' q]
 .rw [Li q]at h;show nnZ h
theorem nj1{m:Nat}(h:n - j=m+1):n - 1 - m=j:=by rw[nj3 h,E9,jJ 1 m,sV]
theorem nj2{m:Nat}(h:n - j=m+1):n - (j+1)=m:=by rw[Nat.sub_succ,h];rfl
theorem nj6(h:j<n):n - j=n - 1 - j+1:=by rw[Lq];show nj0 h
theorem zM{y a:α}{l:List α}{P:α->Prop}(h:y∈a::l)(p:P a)(q:y∈l->P y):P y:=(bu.mp h).elim (λe=>e▸p) q
theorem jS{y a:α}{P:α->Prop}(h:y∈[a])(p:P a):P y:=zM h p λx=>kI x
theorem rX{y a b:α}{P:α->Prop}(h:y∈[a,b])(p:P a)(q:P b):P y:=zM h p λh=>jS h q
theorem Dl{y a b c:α}{P:α->Prop}(h:y∈[a,b,c])(p:P a)(q:P b)(r:P c):P y:=zM h p λh=>rX h q r
theorem tH{y a b c d:α}{P:α->Prop}(h:y∈[a,b,c,d])(p:P a)(q:P b)(r:P c)(t:P d):P y:=zM h p λh=>Dl h q r t
theorem Wx{y a b c d e:α}{P:α->Prop}(h:y∈[a,b,c,d,e])(p:P a)(q:P b)(r:P c)(t:P d)(u:P e):P y:=zM h p λh=>tH h q r t u
theorem ag6{y a b c d e f:α}{P:α->Prop}(h:y∈[a,b,c,d,e,f])(p:P a)(q:P b)(r:P c)(t:P d)(u:P e)(v:P f):P y:=zM h p λh=>Wx h q r t u v
theorem MD{x b:ab}(h1:x≠a)(h2:x≠b):x∉[a,b]:=gY h1 (sI h2)
theorem ae5{x b c:ab}(h1:x≠a)(h2:x≠b)(h3:x≠c):x∉[a,b,c]:=gY h1 (MD h2 h3)
theorem ag7{x b c:ab}(h1:x≠a)(h2:x≠b)(h3:x≠c)(h4:x≠d):x∉[a,b,c,d]:=gY h1 (ae5 h2 h3 h4)
theorem ag8{x b c e:ab}(h1:x≠a)(h2:x≠b)(h3:x≠c)(h4:x≠d)(h5:x≠e):x∉[a,b,c,d,e]:=gY h1 (ag7 h2 h3 h4 h5)
theorem vw{x:ab}{l:List ab}(h:x∉a::l):x≠a:=λq=>h (q▸cQ ..)
theorem ME{x:ab}{l:List ab}(h:x∉a::l):x∉l:=λq=>h (dF _ q)
theorem ag9{x:ab}{P:Prop}(h:x∉[a])(k:x≠a->P):P:=k (vw h)
theorem Dm{x b:ab}{P:Prop}(h:x∉[a,b])(k:x≠a->x≠b->P):P:=ag9 (ME h) (k (vw h))
theorem Gd{x b c:ab}{P:Prop}(h:x∉[a,b,c])(k:x≠a->x≠b->x≠c->P):P:=Dm (ME h) (k (vw h))
theorem og{g:Prop}(h:∀G:Prop,(g->G)->G):g:=h g id
noncomputable def bY:List ab:=[1923,1934,1979,2007]
noncomputable def Q0:Nat:=2016
noncomputable def tabObj(ps:Array aa):bj:={cls:=aA,data:=bH ps}
structure hx(H:List ab)(h h':aN):Prop where
 keep:∀b o,b∉bY->h.get? b=O o->h'.get? b=O o
 tab:∀b,b∈bY->∀ps,h.get? b=O (tabObj ps)->∃more,h'.get? b=O (tabObj (ps++more))
 there:∀b o,h.get? b=O o->∃o',h'.get? b=O o'
 quiet:∀b o,b∈bY->b∉H->h.get? b=O o->h'.get? b=O o
theorem hx.refl(h:aN):hx H h h:=⟨λ_ _ _ e=>e,λ_ _ ps e=>⟨#[],e⟩,λ_ o e=>⟨o,e⟩,λ_ _ _ _ e=>e⟩
theorem hx.trans{a b c:aN}(x:hx H a b)(y:hx H b c):hx H a c where
 keep:=λd o hd e=>y.keep d o hd (x.keep d o hd e)
 tab:=λd hd ps e=>dG (x.tab d hd ps e) λm1 e1=>dG (y.tab d hd _ e1) λm2 e2=>⟨m1++m2,by rw[e2,Vk]⟩
 there:=λd o e=>dG (x.there d o e) λo1 e1=>(y.there d o1 e1)
 quiet:=λd o hd ht e=>y.quiet d o hd ht (x.quiet d o hd ht e)
theorem hx.of_keep(k:uf h h'):hx H h h':=
 ⟨λb o _ e=>k b o e,λb _ ps e=>⟨#[],k b _ e⟩,λb o e=>⟨o,k b o e⟩,λb o _ _ e=>k b o e⟩
theorem hx.push(h:aN)(o:bj):hx H h (h.push o):=.of_keep (λ_ _ e=>a8 o e)
theorem hx.new(x:hx H h h'){b:ab}(e:h'.get? b=ai):h.get? b=ai:=by
 cases q:h.get? b with
 |none=>rfl
 |some o=>obtain⟨o',e'⟩:=x.there b o q;have e':=e▸e';ext
theorem bF(h:aN):h.get? h.objs.size=ai:=by
 cases q:h.get? h.objs.size with
 |none=>rfl
 |some o=>show((gw _) (cn q)).elim
theorem fi{b:ab}(h:Q0<=b):b∉bY:=λD=>absurd ((by decide:∀x∈bY,x<Q0) b D) (j4.mpr h)
def nV(a b:Array eS):Prop:=(∀(i:Nat) (x:eS),a[i]? =O x->b[i]? =O x)/\((∀x∈a,x.bare=N)->∀x∈b,x.bare=N)
theorem nV.refl(a:Array eS):nV a a:=⟨λ_ _ e=>e,λh=>h⟩
theorem nV.trans{a b c:Array eS}(y:nV b c)(x:nV a b):nV a c:=⟨λi z e=>y.1 i z (x.1 i z e),λh=>y.2 (x.2 h)⟩
theorem nV.of{a b:Array eS}(e:b=a):nV a b:=e▸ .refl a
structure dz(H:List ab)(s Y:ae):Prop where
 ext:hx H s.heap Y.heap
 os:Y.os=s.os
 drawn:Y.drawn=s.drawn
 gens:Y.gens=s.gens
theorem dz.refl(s:ae):dz H s s:=⟨.refl _,rfl,rfl,rfl⟩
theorem dz.trans{a b c:ae}(x:dz H a b)(y:dz H b c):dz H a c:=⟨x.ext.trans y.ext,y.os.trans x.os,y.drawn.trans x.drawn,y.gens.trans x.gens⟩
theorem dz.toks(s:ae)(t:Nat):dz H s {s with toks:=t}:=⟨.refl _,rfl,rfl,rfl⟩
inductive AV where
 |none
 |bool(b:Bool)
 |int(i:Int)
 |list(K:List AV)
 |tuple(K:List AV)
 |clo(f:Nat)(ns:LN)(K:List AV)
 |ptr(v:aa)
 |on(u:aa)(x:AV)
open AV renaming ptr->aX,int->a9,list->bV,bool->fG,tuple->gr,none->tI,clo->tJ,on->Bu
theorem Bv{P:AV->Prop}{Q:List AV->Prop}(h1:P tI)(h2:∀b,P (fG b))(h3:∀i,P (a9 i))(h4:∀u,P (aX u))(h5:∀u x,P x->P (Bu u x))(h6:∀K,Q K->P (bV K))(h7:∀K,Q K->P (gr K))(h8:∀f ns K,Q K->P (tJ f ns K))(h9:Q [])(h10:∀x K,P x->Q K->Q (x::K)):(∀a,P a)/\∀l,Q l:=
 ⟨AV.rec (motive_1:=P) (motive_2:=Q) h1 h2 h3 h6 h7 h8 h4 h5 h9 h10,AV.rec_1 (motive_1:=P) (motive_2:=Q) h1 h2 h3 h6 h7 h8 h4 h5 h9 h10⟩
noncomputable def Z4:List String:=["script", "numbers", "level", "checks", "place", "data", "bits", "word", "message", "matrix", "picture", "spots", "right", "step", "i", "j",
 "sent", "words", "start", "bit", "top", "left", "wide", "high", "known", "free", "turn", "number", "amount", "back", "seen", "row",
 "power", "times", "rests", "root", "whole", "line", "now", "old", "size", "gap", "fault", "off", "factor", "grown", "found", "part", "places", "product", "amounts", "mended", "other", "logs", "powers", "a", "b", "before", "after", "here",
 "width", "height", "is_square", "corners", "finder_range", "offset", "sepoffset", "r", "is_micro", "stop", "col", "codewords", "version", "matrix_size", "inc", "idx", "codeword_length", "range_two", "vertical", "z", "upwards",
 "error", "buff", "to_binary", "ec_infos", "data_blocks", "error_blocks", "cw_four", "res", "remainder", "val", "length", "k", "block", "append_data_block", "append_error_block", "gen_log", "gen_exp", "ec_info", "num_error_words",
 "gen", "range_error_words", "len_data", "error_block", "coef", "lcoef", "n", "reserve_regions", "add_timing", "row_eight", "self", "iterable", "item", "obj", "objtype", ".0", "_cls", "num_blocks", "num_total", "num_data"]
def NM(i:Nat):aP:=match Z4[i]? with
 |some s=>aC s
 |none=>⟨#[2000000+i]⟩
abbrev Hx(L:c9)(x:Nat):Prop:=L.names.lookup (NM x)=O cZ\/L.names.lookup (NM x)=O dw
def Tp(h:aN):Prop:=∃o,h.get? Q0=O o
def Gi(L:c9)(x:String):Prop:=L.names.lookup (aC x)=O kV
def Fs(e:aw)(J:cg):Prop:=∀x,Eg e J x=pure x
structure abQ where
 name:aP
 qual:aP
 params:Ex
 body:List bT
 scope:c9
noncomputable def cS(i:Nat):bT:=match Ml.main.body[i]? with|some s=>s|none=>Stmt.Pass ⟨0,0,0,0⟩
noncomputable def bo:bT->List bT
 |A5 _ _ b _ _ _ _ _ _ _=>b
 |_=>[]
noncomputable def bg:bT->c9
 |A5 _ _ _ _ _ _ s _ _ _=>s
 |_=>{kind:=d0,names:=[],isGenerator:=af,isCoroutine:=af,more:=[]}
noncomputable def fo:bT->Ex
 |A5 _ p _ _ _ _ _ _ _ _=>p
 |_=>{posonlyargs:=[],args:=[],vararg:=ai,kwonlyargs:=[],kw_defaults:=[],kwarg:=ai,defaults:=[]}
noncomputable def ae6:aw->aw
 |bI _ (e::_) _ _=>e
 |e=>e
noncomputable def bc(l:List bT)(i:Nat):bT:=match l[i]? with|some s=>s|none=>Stmt.Pass ⟨0,0,0,0⟩
def Y':bT:=cS 26
def dy:List bT:=bo Y'
def uy:aw->c9
 |lL _ _ s _=>s
 |_=>bg Y'
def lG:c9:=bg Y'
def Q1:bT:=bc dy 4
noncomputable def Z':aP:=aC "_law_mended" ++ ".<locals>."
def ST:Nat->abQ:=λ_=>⟨NM 33,Z'++NM 33,fo Q1,bo Q1,bg Q1⟩
noncomputable abbrev prog:u4:=Ml
def ajI{A B aS a0 a6:Prop}{X:fz->Prop}(_:(A/\B/\(aS/\a0/\∀w,X w))=a6):fz->Prop:=X
def Gw:fz->Prop:=ajI (a6:=VV.row.Holds) Z
theorem Ge:Nonempty fz:=⟨⟨λ_ _=>0,{strHash:=λ_=>0,shareClass:=λ_=>0,mergeTok:=id,idOf:=λ_=>0,idOfShared:=λ_ _=>0,followText:=λ_=>af,idOfImm:=λ_=>0}⟩⟩
theorem ajJ:Nonempty bS:=Ge.elim λw=>⟨w.params⟩
theorem ajK:Nonempty ae:=⟨{}⟩
theorem ajL:Nonempty ck:=⟨{}⟩
theorem ajM:Nonempty fy:=⟨{}⟩
noncomputable def IH{α:Type}(P:α->Prop)(n:[Nonempty ae]->[Nonempty ck]->[Nonempty bS]->[Nonempty fy]->Nonempty α):α:= @VS α (@n ajK ajL ajJ ajM) λc=>¬P c
theorem hen{P:α->Prop}{n:_}(h:P (IH P n))(x:α):P x:=Bg λk=> @VR α (λc=>¬P c) ⟨x,k⟩ h
noncomputable def w:fz:= @VS fz Ge λw=>¬Gw w
theorem Q2(h:Gw w):∀v,Gw v:=λv=>Bg λn=> @VR fz (λw=>¬Gw w) ⟨v,n⟩ h
noncomputable def br(vs:List aa)(n:Nat):bj:={cls:=ak "list",data:=bU vs.toArray n}
noncomputable def cU(vs:List aa)(n:Nat):bj:={cls:=ak "tuple",data:=bU vs.toArray n}
theorem mu{c P:ab}(x:h.IsCode c P ps):c≠P/\∃oc oP,h.get? c=O oc/\h.get? P=O oP/\oP.data=bH ps/\∀h':aN,h'.get? c=O oc->h'.get? P=O oP->h'.IsCode c P ps:=by show og λgG kG=>?_;obtain⟨o,vs,file,tf,flags,tg,inF,Q3,tt,op,i1,i2,i3,i4,i5,i6,i7,i8,i9,i10,i11⟩:=x;show kG ?_;clear kG gG;show⟨i11,o,op,i1,i8,i9,λh' e1 e2=>⟨o,vs,file,tf,flags,tg,inF,Q3,tt,op,e1,i2,i3,i4,i5,i6,i7,e2,i9,i10,i11⟩⟩
theorem Ou{c P:ab}(x:h.IsCode c P ps):∃o,h.get? c=O o:=FZ (mu x) λ_ oc _ e _=>⟨oc,e⟩
theorem Bw{c P:ab}(x:h.IsCode c P ps):∃o,h.get? P=O o:=(mu x).2.elim λ_ i=>i.elim λoP j=>⟨oP,j.2.1⟩
theorem Ji{c P:ab}(x:h.IsCode c P ps):c≠P:=(mu x).1
def ajN(S:abQ)(fd:bQ):Prop:=
 fd.qualname=S.qual/\
 fd.params=S.params/\
 fd.body=lh S.body/\
 fd.scope=S.scope/\
 fd.globals=ef/\
 fd.builtins=fY/\
 fd.defaults=aA/\
 fd.kwdefaults=aA
def MF(S:abQ)(h:aN)(fd:bQ):Prop:=∃c oc ws t,fd.code=R c/\c∉bY/\h.get? c=O oc/\oc.data=bH ws/\ws[1]? =O (cI S.qual t)
def MG(h:aN)(fd:bQ)(x:Nat)(c:Option ab)(v:Option aa):Prop:=∃c' v',c=O c'/\v=O v'/\fd.closure.lookup (NM x)=O c'/\c'∉bY/\h.IsCell c' (O v')
def vx(h:aN)(ns:LN)(fd:bQ)(cs:List ab)(vs:List aa):Prop:=(∀(i:Nat) (x:Nat),ns[i]? =O x->MG h fd x cs[i]? vs[i]?)/\cs.length=ns.length/\vs.length=ns.length
mutual
def bR(h:aN):AV->aa->List ab->Prop
 |tI,v,F=>v=aA/\F=[]
 |fG b,v,F=>v=dB b/\F=[]
 |a9 i,v,F=>(∃t,v=ah i t)/\F=[]
 |aX u,v,F=>v=u/\F=[]
 |Bu u x,v,F=>v=u/\bR h x v F
 |bV K,v,F=>∃a vs n F',v=R a/\a∉bY/\h.get? a=O (br vs n)/\bD h K vs F'/\F=a::F'
 |gr K,v,F=>∃a vs n,v=R a/\a∉bY/\h.get? a=O (cU vs n)/\bD h K vs F
 |tJ f ns K,v,F=>∃a o fd cs vs F',v=R a/\a∉bY/\h.get? a=O o/\o.data=qo fd/\ajN (ST f) fd/\MF (ST f) h fd/\vx h ns fd cs vs/\bD h K vs F'/\F=cs++F'
def bD(h:aN):List AV->List aa->List ab->Prop
 | [],vs,F=>vs=[]/\F=[]
 |x::K,vs,F=>∃v tK F1 F2,vs=v::tK/\bR h x v F1/\bD h K tK F2/\F=F1++F2
end
theorem bD.nil:bD h [] [] []:=
 ⟨rfl,rfl⟩
theorem eg(F1 F2:List ab){x:AV}{K:List AV}(r:bR h x v F1)(q:bD h K vs F2):bD h (x::K) (v::vs) (F1++F2):=
 (DW v vs F1 F2 Z r q Z)
theorem rY(F':List ab){K:List AV}(ht:a∉bY)(ho:h.get? a=O (br vs n))(q:bD h K vs F'):bR h (bV K) (R a) (a::F'):=
 X' a vs n F' Z ht ho q Z
theorem bR.Gg{u:aa}{P:aa->Prop}(r:bR h (aX u) v F)(k:P u):P v:=
 r.1▸k
theorem iP{K:List AV}{P:Prop}(r:bR h (bV K) v F)(k:∀a vs n F',v=R a->a∉bY->h.get? a=O (br vs n)->bD h K vs F'->F=a::F'->P):P:=
 fO r λa vs n F' e1 e2 e3 e4 e5=>(k a vs n F' e1 e2 e3 e4 e5)
theorem kJ{x:AV}{K:List AV}{P:Prop}(r:bD h (x::K) vs F)(k:∀v tK F1 F2,vs=v::tK->bR h x v F1->bD h K tK F2->F=F1++F2->P):P:=
 gu r λv tK F1 F2 e1 e2 e3 e4=>(k v tK F1 F2 e1 e2 e3 e4)
theorem jM{x:AV}{K:List AV}{P:List aa->Prop}(r:bD h (x::K) vs F)(k:∀v tK F1 F2,bR h x v F1->bD h K tK F2->F=F1++F2->P (v::tK)):P vs:=gu r λv tK F1 F2 dX e2 e3 e4=>dX▸k v tK F1 F2 e2 e3 e4
theorem vA{P:List aa->Prop}(r:bD h [] vs F)(k:F=[]->P []):P vs:=
 r.1▸k r.2
theorem nF{x:AV}{P:List aa->Prop}(r:bD h [x] vs F)(k:∀v F1,bR h x v F1->P [v]):P vs:=
 jM r λv _ F1 _ a b _=>vA (P:=λl=>P (v::l)) b λ_=>k v F1 a
theorem nG{x y:AV}{P:List aa->Prop}(r:bD h [x,y] vs F)(k:∀v u F1 F2,bR h x v F1->bR h y u F2->P [v,u]):P vs:=
 jM r λv _ F1 _ a b _=>nF (P:=λl=>P (v::l)) b λu F2 c=>k v u F1 F2 a c
theorem Bx{x y z:AV}{P:List aa->Prop}(r:bD h [x,y,z] vs F)(k:∀v u q F1 F2 F3,bR h x v F1->bR h y u F2->bR h z q F3->P [v,u,q]):P vs:=
 jM r λv _ F1 _ a b _=>nG (P:=λl=>P (v::l)) b λu q F2 F3 c d=>k v u q F1 F2 F3 a c d
theorem bR.zN{i:Int}{P:aa->Prop}(r:bR h (a9 i) v F)(k:∀t,P (ah i t)):P v:=by obtain⟨⟨t,rfl⟩,_⟩:=r;show k t
theorem nH{i:Int}{P:List aa->Prop}(r:bD h [a9 i] vs F)(k:∀t,P [ah i t]):P vs:=
 nF r λ_ _ a=>bR.zN (P:=λv=>P [v]) a k
theorem vB{u:aa}{P:List aa->Prop}(r:bD h [aX u] vs F)(k:P [u]):P vs:=
 nF r λ_ _ a=>bR.Gg (P:=λv=>P [v]) a k
theorem fP{K:List AV}{P:aa->Prop}(r:bR h (bV K) v F)(k:∀a vs n F',a∉bY->h.get? a=O (br vs n)->bD h K vs F'->F=a::F'->P (R a)):P v:=fO r λa vs n F' dX e2 e3 e4 e5=>dX▸k a vs n F' e2 e3 e4 e5
theorem pR{K:List AV}{P:aa->Prop}(r:bR h (gr K) v F)(k:∀a vs n,a∉bY->h.get? a=O (cU vs n)->bD h K vs F->P (R a)):P v:=gH r λa vs n dX e2 e3 e4=>dX▸k a vs n e2 e3 e4
def Cx(h:aN)(b:ab):Prop:=∃o,h.get? b=O o/\((o.cls=ak "list" /\∃vs n,o.data=bU vs n)\/(∃es n,o.data=eJ es n)\/∃v,o.data=oM v)
structure Mod(W:List ab)(h h':aN):Prop where
 keep:∀b o,b∉W->b∉bY->h.get? b=O o->h'.get? b=O o
 tab:∀b,b∈bY->∀ps,h.get? b=O (tabObj ps)->∃more,h'.get? b=O (tabObj (ps++more))
 there:∀b o,h.get? b=O o->∃o',h'.get? b=O o'
theorem Mod.refl(W:List ab)(h:aN):Mod W h h:=⟨λ_ _ _ _ e=>e,λ_ _ ps e=>⟨#[],e⟩,λ_ o e=>⟨o,e⟩⟩
theorem hx.mod(W:List ab)(x:hx H h h'):Mod W h h':=⟨λb o _ ht e=>x.keep b o ht e,x.tab,x.there⟩
theorem Mod.trans{W:List ab}{a b c:aN}(x:Mod W a b)(y:Mod W' b c)(hw:∀d,d∈W'->d∈W\/a.get? d=ai):Mod W a c where
 keep:=λd o hd ht e=>y.keep d o (λh=>by
  rcases hw d h with h|h
  .show hd h
  .have e:=h▸e;ext) ht (x.keep d o hd ht e)
 tab:=λd hd ps e=>dG (x.tab d hd ps e) λm1 e1=>dG (y.tab d hd _ e1) λm2 e2=>⟨m1++m2,by rw[e2,Vk]⟩
 there:=λd o e=>dG (x.there d o e) λo1 e1=>(y.there d o1 e1)
section
variable{W:List ab}
def kK(h:aN)(b:ab):Prop:=∃o,h.get? b=O o/\((∃ws,o.data=bH ws/\∀x t,ws[1]? ≠O (cI x t))\/(∃es n,o.data=eJ es n)\/(∃bs n,o.data=qm bs n)\/o.data=sZ)
noncomputable def wF:Data->Nat
 |bU ..=>0
 |eJ ..=>1
 |qm ..=>2
 |sZ=>3
 |oM ..=>4
 |bH ..=>5
 |_=>6
theorem Cx.tag{b:ab}(x:Cx h b)(e:h.get? b=O o):(o.cls=ak "list" /\wF o.data=0)\/wF o.data=1\/wF o.data=4:=bh x λo' e' k=>aV (e.symm.trans e')▸k.imp (λk=>⟨k.1,jh k.2 λ_ _ q=>congrArg wF q⟩) λk=>k.imp (λqQ=>jh qQ λ_ _ q=>congrArg wF q) λqQ=>dG qQ λ_ q=>congrArg wF q
theorem kK.tag{b:ab}(x:kK h b)(e:h.get? b=O o):(∃ws,o.data=bH ws/\∀x t,ws[1]? ≠O (cI x t))\/wF o.data=1\/wF o.data=2\/wF o.data=3:=bh x λo' e' k=>aV (e.symm.trans e')▸k.imp id λk=>k.imp (λqQ=>jh qQ λ_ _ q=>congrArg wF q) λk=>k.imp (λqQ=>jh qQ λ_ _ q=>congrArg wF q) λq=>congrArg wF q
theorem MH(k:Nat){b:ab}(x:Cx h b\/kK h b)(e:h.get? b=O o)(hk:wF o.data=k)(h0:k=0->o.cls≠ak "list")(h5:∀ws,o.data=bH ws->∃x t,ws[1]? =O (cI x t))(hn:k≠1/\k≠2/\k≠3/\k≠4):False:=by
 subst hk;rcases x with x|x
 .rcases x.tag e with q|q|q
  .show h0 q.2 q.1
  .show hn.1 q
  .show hn.2.2.2 q
 .rcases x.tag e with⟨ws,q,r⟩|q|q|q
  .show jh (h5 ws q) λy t z=>(r y t z)
  .show hn.1 q
  .show hn.2.1 q
  .show hn.2.2.1 q
theorem By{d:Data}(e:wF d=k)(hk:k≠5):∀ws,d=bH ws->∃x t,ws[1]? =O (cI x t):=λ_ q=>absurd (by show e▸q.symm▸?_;rfl) hk
theorem MF.off{S:abQ}(keep:∀b o,b∉W->b∉bY->h.get? b=O o->h'.get? b=O o)(hm:∀b∈W,Cx h b\/kK h b)(x:MF S h fd):MF S h' fd:=by show fO x λc oc ws t c1 c2 c3 c4 c5=>((X' c oc ws t c1 c2 (keep c _ (λhw=>?_) c2 c3) c4 c5));show MH 5 (hm c hw) c3 (congrArg wF c4) (λq=>nn0 q) (λws' q=>qA _ _ (Data.fields.inj (q.symm.trans c4)▸c5)) aK
theorem vx.off{cs:List ab}(keep:∀b o,b∉W->b∉bY->h.get? b=O o->h'.get? b=O o)(hF:∀b∈cs,b∉W)(x:vx h ns fd cs vs):vx h' ns fd cs vs:=
 ⟨λi y hy=>lZ (x.1 i y hy) λc' v' g1 g2 g3 g4 g=>U' c' v' g1 g2 g3 g4 (bh g λo' g5 g6=>ct o' (keep c' _ (hF c' (cW g1)) g4 g5) g6),x.2⟩
theorem Jj(keep:∀b o,b∉W->b∉bY->h.get? b=O o->h'.get? b=O o)(hm:∀b∈W,Cx h b\/kK h b):(∀(av:AV) (v:aa) (F:List ab),(∀b∈F,b∉W)->bR h av v F->bR h' av v F)/\
 ∀(K:List AV) (vs:List aa) (F:List ab),(∀b∈F,b∉W)->bD h K vs F->bD h' K vs F:=by
 show Bv (λ_ _ _ r=>r) (λ_ _ _ _ r=>r) (λ_ _ _ _ r=>r) (λ_ _ _ _ r=>r) (λu x ih v F hF r=>⟨r.1,ih v F hF r.2⟩) (λK ih v F hF r=>?_) (λK ih v F hF r=>?_) (λf ns K ih v F hF r=>?_) (λ_ _ _ r=>r) (λy ys i1 i2 vs F hF r=>?_)
 .show fO r λa vs n F' e1 e2 e3 e4 e5=>?_;subst e5;show X' a vs n F' e1 e2 (keep a _ (hF a au) e2 e3) (ih vs F' (λb D=>hF b au) e4) Z
 .show gH r λa vs n e1 e2 e3 e4=>(DV a vs n e1 e2 (keep a _ (λhw=>?_) e2 e3) (ih vs F hF e4));show MH 0 (hm a hw) e3 Z (λ_ q=>absurd (Value.type.inj q) aK) (By (k:=0) Z (ue Z)) aK
 .show ki r λa o fd cs vs F' e1 e2 e3 e4 p c q e5 e6=>have hF1:=λb D=>hF b (e6▸D);⟨a,o,fd,cs,vs,F',e1,e2,keep a _ (λhw=>?_) e2 e3,e4,p,c.off keep hm,q.off keep (λb D=>hF1 b (dc _ D)),ih vs F' (λb D=>hF1 b (ew _ D)) e5,e6⟩;show MH 6 (hm a hw) e3 (congrArg wF e4) (λq=>nomatch q) (By (k:=6) (congrArg wF e4) (ue Z)) aK
 .show gu r λv tK F1 F2 e1 e2 e3 e4=>?_;subst e4;show DW v tK F1 F2 e1 (i1 v F1 (λb D=>hF b au) e2) (i2 tK F2 (λb D=>hF b au) e3) Z
theorem bR.off(keep:∀b o,b∉W->b∉bY->h.get? b=O o->h'.get? b=O o)(hm:∀b∈W,Cx h b\/kK h b):∀(av:AV) (v:aa) (F:List ab),(∀b∈F,b∉W)->bR h av v F->bR h' av v F:=(Jj keep hm).1
theorem bD.off(keep:∀b o,b∉W->b∉bY->h.get? b=O o->h'.get? b=O o)(hm:∀b∈W,Cx h b\/kK h b):∀(K:List AV) (vs:List aa) (F:List ab),(∀b∈F,b∉W)->bD h K vs F->bD h' K vs F:=(Jj keep hm).2
theorem bR.mod(x:Mod W h h')(hm:∀b∈W,Cx h b)(av:AV)(v:aa)(F:List ab)(hF:∀b∈F,b∉W)(r:bR h av v F):bR h' av v F:=
 bR.off x.keep (λb D=>ao (hm b D)) av v F hF r
theorem bD.mod(x:Mod W h h')(hm:∀b∈W,Cx h b)(av:List AV)(v:List aa)(F:List ab)(hF:∀b∈F,b∉W)(r:bD h av v F):bD h' av v F:=
 bD.off x.keep (λb D=>ao (hm b D)) av v F hF r
theorem bR.ext{av:AV}(x:hx H h h')(r:bR h av v F):bR h' av v F:=
 bR.mod (x.mod []) (zo) av v F (λ_ _ D=>kI D) r
theorem bD.ext{av:List AV}{v:List aa}(x:hx H h h')(r:bD h av v F):bD h' av v F:=
 bD.mod (x.mod []) (zo) av v F (λ_ _ D=>kI D) r
end
end
variable{av:AV}{avs K ys:List AV}
open AV renaming ptr->aX,int->a9,list->bV,bool->fG,tuple->gr,none->tI,clo->tJ,on->Bu
section
open PySem.W
noncomputable def MI:bT->List bT
 |Stmt.ClassDef _ _ _ b _ _ _ _ _ _ _=>b
 |_=>[]
noncomputable def mK(fd:bQ):bj:={cls:=ak "function",data:=qo fd}
noncomputable def kD(P:bS)(x:String)(t:aW)(v:aa):ow:={hash:=PyData.keyHash P (aC x),key:=cI (aC x) t,val:=v}
def iC(P:bS)(t:Nat->aW)(f:Nat->bQ):mq:=[
 (2002,{cls:=ak "type",data:=LI {name:=aC "Buffer",bases:=[ak "object"],mro:=[R 2002,ak "object"],ns:=2001,qualname:=aC "Buffer",hasDict:=af,slotNames:=[aC "_data"]},slots:=#[ai,ai,O (cI (aC "Buffer") (t 0)),O (cI (aC "Buffer") (t 1)),O (bx "object.__new__"),O (dB af)]}),
 (2001,{cls:=ak "dict",data:=eJ #[kD P "__module__" (t 2) (cI (aC "segno.encoder") (t 3)),kD P "__firstlineno__" (t 4) (ah 246 (t 5)),
  kD P "__doc__" (t 6) (cI (aC "Wraps a :cls:`bytearray` and provides some useful methods to add bits.\n    ") (t 7)),kD P "__slots__" (t 8) (R 1947),kD P "__init__" (t 9) (R 1956),kD P "extend" (t 10) (R 1963),
  kD P "append_bits" (t 11) (R 1970),kD P "getbits" (t 12) (R 1977),kD P "toints" (t 13) (R 1984),kD P "__len__" (t 14) (R 1991),kD P "__getitem__" (t 15) (R 1998),kD P "__static_attributes__" (t 16) (R 1999),kD P "_data" (t 17) (R 2003)] 2}),
 (2003,{cls:=ak "member_descriptor",data:=bH #[cI (aC "_data") (t 18),R 2002,bx "proto.slot",bx "proto.slot#set",ah 0 0]}),
 (1956,mK (f 0)),(1963,mK (f 1)),(1977,mK (f 2)),(1984,mK (f 3)),(1991,mK (f 4)),(1998,mK (f 5))]
def vC(i:Nat):bT:=bc (MI (cS 24)) i
noncomputable def II(p:Nat):Nat:=if p<128 then 2 * p else(2 * p) ^^^ 285
def pw:Nat->Nat
 | 0=>1
 |n+1=>II (pw n)
def Cz:Nat->LN
 | 0=>cb 256 0
 |n+1=>(Cz n).set (pw n) n
def Q4:LN:=(aI 255).map pw
def wB:LN:=Cz 255
noncomputable def FPN:List (LN):=[[0,0,0,0,0,0,0,0,0],[0,1,1,1,1,1,1,1,0],[0,1,0,0,0,0,0,1,0],[0,1,0,1,1,1,0,1,0],[0,1,0,1,1,1,0,1,0],[0,1,0,1,1,1,0,1,0],[0,1,0,0,0,0,0,1,0],[0,1,1,1,1,1,1,1,0],[0,0,0,0,0,0,0,0,0]]
noncomputable def Ov(dx:ab):bj:={cls:=R 60,dict:=O dx,data:=sZ}
def zd(P:bS)(t:Nat->aW)(fd:bQ):mq:=[
 (135,{cls:=ak "type",data:=LI {name:=aC "EC",bases:=[ak "tuple"],mro:=[R 135,ak "tuple",ak "object"],ns:=134,qualname:=aC "EC",hasDict:=af},slots:=#[O (R 65),ai,O (cI (aC "EC") (t 100)),O (cI (aC "EC") (t 101)),O aA,O (dB af)]}),
 (60,{cls:=ak "type",data:=LI {name:=aC "_tuplegetter",bases:=[ak "object"],mro:=[R 60,ak "object"],ns:=59,qualname:=aC "_tuplegetter" },slots:=#[ai,ai,O (cI (aC "_tuplegetter") (t 102)),O (cI (aC "_tuplegetter") (t 103)),O (bx "object.__new__"),O (dB N)]}),
 (134,{cls:=ak "dict",data:=eJ #[kD P "__module__" (t 0) (cI (aC "segno.consts") (t 1)),kD P "__firstlineno__" (t 2) (ah 31 (t 3)),kD P "__doc__" (t 4) (cI (aC "EC(num_blocks, num_total, num_data)") (t 5)),kD P "__slots__" (t 6) (R 73),kD P "_fields" (t 7) (R 74),kD P "_field_defaults" (t 8) (R 75),kD P "__new__" (t 9) (R 136),kD P "_make" (t 10) (R 91),kD P "_replace" (t 11) (R 100),kD P "__replace__" (t 12) (R 100),kD P "__repr__" (t 13) (R 107),kD P "_asdict" (t 14) (R 114),kD P "__getnewargs__" (t 15) (R 121),kD P "__match_args__" (t 16) (R 122),kD P "num_blocks" (t 17) (R 124),kD P "num_total" (t 18) (R 127),kD P "num_data" (t 19) (R 130),kD P "__static_attributes__" (t 20) (R 132)] 2}),
 (59,{cls:=ak "dict",data:=eJ #[kD P "__module__" (t 21) (cI (aC "segno.consts") (t 22)),kD P "__firstlineno__" (t 23) (ah 5 (t 24)),kD P "__init__" (t 25) (R 35),kD P "__get__" (t 26) (R 43),kD P "__set__" (t 27) (R 50),kD P "__delete__" (t 28) (R 57),kD P "__static_attributes__" (t 29) (R 58),kD P "__dict__" (t 30) (R 61),kD P "__weakref__" (t 31) (R 62),kD P "__doc__" (t 32) aA] 4}),
 (123,{cls:=ak "dict",data:=eJ #[kD P "index" (t 33) (ah 0 (t 34)),kD P "__doc__" (t 35) (cI (aC "Alias for field number 0") (t 36))] 2}),
 (126,{cls:=ak "dict",data:=eJ #[kD P "index" (t 37) (ah 1 (t 38)),kD P "__doc__" (t 39) (cI (aC "Alias for field number 1") (t 40))] 2}),
 (129,{cls:=ak "dict",data:=eJ #[kD P "index" (t 41) (ah 2 (t 42)),kD P "__doc__" (t 43) (cI (aC "Alias for field number 2") (t 44))] 2}),
 (124,Ov 123),(127,Ov 126),(130,Ov 129),(43,mK fd)]
def tgM:bT:=bc (MI (cS 2)) 1
def aha:bT:=cS 11
def Dn:bT:=bc (MI aha) 4
noncomputable def ahb(f:ab):bj:={cls:=ak "staticmethod",data:=bH #[R f]}
def MJ(P:bS)(t:Nat->aW)(fd fd2:bQ):mq:=zd P t fd++[(136,ahb 82),(82,mK fd2),(2,{cls:=aA,data:=eJ #[]})]
inductive XK where
 |call(f:aw)(l:List aw)(k:List AB)(p:aY)
 |name(x:aP)(p:aY)
 |con(c:ya)(k:Nat)(p:aY)
 |tup(l:List aw)(k:Nat)(p:aY)
 |dict(k:List (Option aw))(v:List aw)(p:aY)
 |lst(l:List aw)(p:aY)
 |bin(l:aw)(o:Operator)(r:aw)(p:aY)
 |other
noncomputable def xk:aw->XK
 |bI f l k p=>.call f l k p
 |ar x p=>.name x p
 |gn c k p=>.con c k p
 |ik l k p=>.tup l k p
 |qg k v p=>.dict k v p
 |AI l p=>.lst l p
 |eu l o r p=>.bin l o r p
 |_=>.other
def XK.back:XK->aw->Prop
 | .call f l k p,e=>e=bI f l k p
 | .name x p,e=>e=ar x p
 | .con c k p,e=>e=gn c k p
 | .tup l k p,e=>e=ik l k p
 | .dict k v p,e=>e=qg k v p
 | .lst l p,e=>e=AI l p
 | .bin l o r p,e=>e=eu l o r p
 | .other,_=>True
theorem Ow(e:aw):(xk e).back e:=by cases e<;>first|show trivial|show rfl
noncomputable def γ:bT->List aw
 |fE t ..=>t
 |_=>[]
noncomputable def IJ:bT->aw
 |fE _ e ..=>e
 |_=>gn yx 0 default
end
section
open PySem.W
noncomputable def δ(f:Nat->bj)(n:Nat):Nat->Nat->Nat->BT
 | 0,_,_=>BT.nil
 |u+1,b,k=>match jK b n with
  |true=>BT.node (f b) (δ f n u (b+k) (2 * k)) (δ f n u (b+2 * k) (2 * k))
  |false=>BT.nil
theorem abR(f:Nat->bj)(n:Nat)(u:Nat):∀(b k j:Nat),0<k->j+2<=2 ^ u->b+k * j<n->(δ f n u b k).get j=O (f (b+k * j)):=by
 induction u with
 |zero=>intro _ _ j _ h _;simp at h
 |succ u iH=>
  intro b k j hk h hl;show(congrArg (λc=>BT.get (match c with|true=>BT.node (f b) (δ f n u (b+k) (2 * k)) (δ f n u (b+2 * k) (2 * k))|false=>BT.nil) j) (eT (j3 (iZ _ _) hl))).trans<|(BT.get_node _ _ _ _).trans ?_;dsimp only[Nat.pow_succ]at h;show if h0:j=0 then by rw[if_pos h0,h0,E8,A1] else ?_
  rw[if_neg h0];by_cases h1:j % 2=1
  .rw [if_pos h1];obtain⟨i,rfl⟩:∃i,j=2 * i+1:=⟨j / 2,by lia⟩;have e:b+k * (2 * i+1)=b+k+2 * k * i:=by rw[yq,Fb,<-US,vd k 2];lia
   rw[show(2 * i+1) / 2=i by lia,iH (b+k) (2 * k) i au au (e▸hl),e]
  .rw [if_neg h1];obtain⟨i,rfl⟩:∃i,j=2 * i+2:=⟨j / 2 - 1,by lia⟩;have e:b+k * (2 * i+2)=b+2 * k+2 * k * i:=by rw[yq,<-US,vd k 2];lia
   rw[show(2 * i+2) / 2 - 1=i by simp,iH (b+2 * k) (2 * k) i au au (e▸hl),e]
def toT(s:ae)(f:Nat->bj):m9:=⟨δ f s.heap.objs.size 12 0 1,s.heap.objs.size,s.heap.life,s.gens,s.drawn,s.toks,s.os⟩
theorem Wy{f:Nat->bj}(hn:s.heap.objs.size<=4094)(h:∀i,i<s.heap.objs.size->s.heap.objs[i]? =O (f i)):(toT s f).abs=s:=by
 obtain⟨⟨objs,life⟩,gens,drawn,toks,os⟩:=s
 delta toT SharedT.abs
 dsimp only at h hn ⊢;have:(absHeap (δ f objs.size 12 0 1) objs.size life).objs=objs:=by
  show Vl λi=>?_;rw[absHeap_at];by_cases hi:i<objs.size
  .rw [if_pos hi,abR f objs.size 12 0 1 i bA au au,h i hi];simp
  .rw [if_neg hi,LZ (oH hi)]
 rw[show absHeap (δ f objs.size 12 0 1) objs.size life=⟨objs,life⟩ from congrArg (KO · life) this]
noncomputable abbrev p0:u4:=Ml
theorem ε:p0.bare:=⟨rfl,rfl,rfl,rfl,by rfl,by ext⟩
noncomputable def tL:List bT:=p0.main.body
noncomputable def nJ:cg:={scope:=p0.main.scope,locals:=sL,globals:=sL,cells:=[],code:=R 13,frame:=O 14}
def v8:iY:=Code.body tL nJ
def zp(l:List bT):aE ij:=((aU l nJ).onRaise (rh nJ)).bind doneF
def Wz(l:List bT)(pos:aY):gW:=⟨zp l,v8,pos,[topFrame default]⟩
noncomputable def WB(m:aE ij):b8->aE ij:=λf=>match f with
 |cJ=>m
 |f=>doneF f
def abS(s:bT)(a0:b8->aE ij)(v:aa):aE ij:=((El (γ s) (IJ s) nJ>>=λst=>assignStores nJ v st ((assignEach (γ s) nJ).map (·.2))).onRaise (rh nJ)).bind a0
def Ys(s:bT)(m:aE aa)(a0:b8->aE ij):aE ij:=((jG s.pos>>=λ_=>m).onRaise (rh nJ)).bind (abS s a0)
def S0(w:fz)(os:fy):m9:=⟨δ (λi=>(oQ w.params).objs.toList.getD i default) 11 12 0 1,11,(oQ w.params).life,#[],boot_drawn,boot_toks,os⟩
def ajO(w:fz)(os:fy):Option (m9×gW):=segGoT Ky p0 w 11 (O (R 6)) 99 1506 (S0 w os) (topStub p0)
end
section
open PySem.W
noncomputable def SV(x:String)(t:aW):aa:=cI (aC x) t
noncomputable def lj(l:List aa):bj:={cls:=ak "code",data:=bH l.toArray}
def Ox(st:bT)(t:aW):aa:=((docOf (bo st)).map λx=>cI x t).getD aA
def wt(nm q:String)(st:bT)(df doc pm:aa)(c:ab):bQ:={name:=aC nm,qualname:=aC q,params:=fo st,body:=lh (bo st),scope:=bg st,globals:=3,closure:=[],defaults:=df,kwdefaults:=aA,doc:=doc,pyModule:=pm,code:=R c,builtins:=0}
noncomputable def Dp(k:Nat):LN->List aa
 | []=>[]
 |n::l=>ah (aj n) k::Dp (k+1) l
noncomputable def wu(i:Int)(t:aW)(v:aa):ow:=⟨hashInt i,ah i t,v⟩
noncomputable def tA(i:Nat):aW:=if i<100 then [279,194,283,282,285,284,287,291,292,303,325,336,337,345,352,360,364,374,384,394,395,203,194,207,206,216,225,234,242,245,247,249,250,371,365,373,366,381,375,383,376,391,385,393,386].getD i 0 else [272,280,196,204].getD (i - 100) 0
def fdG:bQ:=wt "__get__" "_tuplegetter.__get__" tgM (R 36) aA (SV "segno.consts" 194) 42
def fdN:bQ:=wt "__new__" "EC.__new__" Dn aA (Ox Dn 302) (SV "segno.consts" 194) 81
def nsA(P:bS):Array ow:=#[kD P "__name__" 165 (SV "segno.consts" 194),kD P "__doc__" 166 aA,kD P "__package__" 167 aA,kD P "__loader__" 168 (bx "__main__.__loader__#opaque"),kD P "__spec__" 169 aA,kD P "__annotations__" 170 (R 6),kD P "__builtins__" 171 (R 4),kD P "__file__" 173 (SV "/claim/cut.py" 172),kD P "__cached__" 174 aA,kD P "_wall" 193 (R 21),kD P "_tuplegetter" 252 (R 60),kD P "VERSION_M4" 254 (ah 0 253),kD P "VERSION_M3" 257 (ah (-1) 256),kD P "VERSION_M2" 260 (ah (-2) 259),kD P "VERSION_M1" 263 (ah (-3) 262),kD P "ERROR_LEVEL_L" 265 (ah 1 264),kD P "ERROR_LEVEL_M" 267 (ah 0 266),kD P "ERROR_LEVEL_Q" 269 (ah 3 268),kD P "ERROR_LEVEL_H" 271 (ah 2 270),kD P "EC" 399 (R 135)]
def oA(P:bS):List bj:=[qt P,boot_o_1 P,boot_o_2 P,{cls:=ak "dict",data:=eJ (nsA P) 20},boot_o_4 P,boot_o_5 P,boot_o_6 P,boot_o_7 P,boot_o_8 P,boot_o_9 P,boot_o_10 P,
 {cls:=(ak "tuple"),data:=bU #[] 0},{cls:=aA,data:=bH #[(ah 1 0),(ah 0 0),(R 20),(ah 5 0),(ah 0 0),(R 27),(ah 31 0),(ah 0 0),(R 71)]},lj [SV "<module>" 182,SV "<module>" 183,SV "/claim/cut.py" 184,(ah 1 0),(ah 0 0),(ah 0 0),(ah 0 0),(ah 0 0),(R 11),(dB af),(ah 181 0),(R 12),aA,aA,aA,aA,ah (aj 185) 0,(ah 1 0),SV "/claim/cut.py" 186],{cls:=(ak "frame"),data:=sZ,slots:=#[O (R 13),O (R 3),O (R 3),ai,O (SV "__main__" 164),ai,O (R 0)]}]
def zq(P:bS):mq:=MJ P tA fdG fdN++[(36,{cls:=(ak "tuple"),data:=bU #[aA] 0}),(42,lj [SV "__get__" 217,SV "_tuplegetter.__get__" 218,SV "/claim/cut.py" 219,(ah 11 0),(ah 3 0),(ah 0 0),(ah 0 0),(ah 3 0),(R 37),(dB N),(ah 181 0),(R 38),aA,(R 39),(R 40),(R 41),ah (aj 223) 0,(ah 11 0),SV "/claim/cut.py" 224]),(81,lj [SV "__new__" 293,SV "EC.__new__" 294,SV "/claim/cut.py" 295,(ah 37 0),(ah 4 0),(ah 0 0),(ah 0 0),(ah 3 0),(R 76),(dB N),(ah 181 0),(R 77),aA,(R 78),(R 79),(R 80),ah (aj 300) 0,(ah 37 0),SV "/claim/cut.py" 301])]
def ajP(P:bS)(x:m9×gW):gW×Nat×Array eS×fy×List (Option bj)×List (Option bj):=(x.2,x.1.n,x.1.gens,x.1.os,(aI 15).map x.1.tree.get,(zq P).map λy=>x.1.tree.get y.1)
theorem abT(w:fz)(os:fy):(ajO w os).map (ajP w.params)=O (Wz (tL.drop 12) ⟨31,0,73,58⟩,139,#[],os,(oA w.params).map O,(zq w.params).map λy=>O y.2):=by ext
noncomputable def oG(l:List bj)(g:Nat->bj)(i:Nat):bj:=match jK i 15 with
 |true=>l.getD i default
 |false=>g i
def oN(P:bS)(es:Array ow)(n:Nat):List bj:=(oA P).set 3 {cls:=ak "dict",data:=eJ es n}
def goC(l:List bj)(n s:Nat)(w:fz)(os:fy)(d:Drawn)(k:Nat)(g:Nat->bj)(t:gW):Option (m9×gW):=segGoT Ky p0 w n (O (R 12)) 99 s ⟨δ (oG l g) n 12 0 1,n,(oQ w.params).life,#[],d,k,os⟩ t
def nsB(P:bS)(k:Nat):Array ow:=nsA P++#[kD P "ECC" k (R 139),kD P "GEN_POLY" (k+318) (R 1868)]
end
section
open PySem.W
noncomputable def tC(k i:Nat):aW:=k+[684,692,691,514,695,694,697,696,700,708,716,725,732,741,748,756,758,760,759].getD i 0
def fC(k:Nat):Nat->bQ
 | 0=>wt "__init__" "Buffer.__init__" (vC 2) (R 1949) aA (SV "segno.encoder" (k+514)) 1955
 | 1=>wt "extend" "Buffer.extend" (vC 3) aA aA (SV "segno.encoder" (k+514)) 1962
 | 2=>wt "getbits" "Buffer.getbits" (vC 5) aA aA (SV "segno.encoder" (k+514)) 1976
 | 3=>wt "toints" "Buffer.toints" (vC 6) aA (Ox (vC 6) (k+740)) (SV "segno.encoder" (k+514)) 1983
 | 4=>wt "__len__" "Buffer.__len__" (vC 7) aA aA (SV "segno.encoder" (k+514)) 1990
 | 5=>wt "__getitem__" "Buffer.__getitem__" (vC 8) aA aA (SV "segno.encoder" (k+514)) 1997
 |_=>wt "law" "law" (cS 27) aA aA (SV "law_nv0014_01" (k+763)) 2014
def nsC(P:bS)(k0 k:Nat):Array ow:=((nsB P k0).set! 0 (kD P "__name__" 165 (SV "law_nv0014_01" (k+763))))++#[kD P "GALIOS_LOG" (k+256) (R 1888),kD P "GALIOS_EXP" (k+513) (R 1890),kD P "_FINDER_PATTERN" (k+597) (R 1900),kD P "add_finder_patterns" (k+615) (R 1907),kD P "add_timing_pattern" (k+629) (R 1914),kD P "add_codewords" (k+652) (R 1921),kD P "make_final_message" (k+659) (R 1926),kD P "make_blocks" (k+666) (R 1931),kD P "make_matrix" (k+683) (R 1939),kD P "Buffer" (k+762) (R 2002),kD P "_law_mended" (k+770) (R 2010),kD P "law" (k+776) (R 2015)]
def ahc(k:Nat):List (ab×bQ):=[(1907,wt "add_finder_patterns" "add_finder_patterns" (cS 18) aA (Ox (cS 18) (k+614)) (SV "segno.encoder" (k+514)) 1906),(1914,wt "add_timing_pattern" "add_timing_pattern" (cS 19) aA (Ox (cS 19) (k+628)) (SV "segno.encoder" (k+514)) 1913),(1921,wt "add_codewords" "add_codewords" (cS 20) aA (Ox (cS 20) (k+651)) (SV "segno.encoder" (k+514)) 1920),(1926,wt "make_final_message" "make_final_message" (cS 21) aA (Ox (cS 21) (k+658)) (SV "segno.encoder" (k+514)) 1925),(1931,wt "make_blocks" "make_blocks" (cS 22) aA (Ox (cS 22) (k+665)) (SV "segno.encoder" (k+514)) 1930),(1939,wt "make_matrix" "make_matrix" (cS 23) (R 1932) (Ox (cS 23) (k+682)) (SV "segno.encoder" (k+514)) 1938),(2010,wt "_law_mended" "_law_mended" (cS 26) aA aA (SV "law_nv0014_01" (k+763)) 2009),(2015,wt "law" "law" (cS 27) aA aA (SV "law_nv0014_01" (k+763)) 2014)]
def qB(P:bS)(k:Nat):mq:=iC P (tC k) (fC k)++(aI 9).map (λi=>(1891+i,cU (Dp (k+516+9 * i) (FPN.getD i [])) 0))++(ahc k).map (λx=>(x.1,mK x.2))++[
 (1888,cU (Dp (k+0) wB) 0),
 (1890,br (Dp (k+257) Q4++Dp (k+257) Q4) 0),
 (1900,cU ((aI 9).map λi=>R (1891+i)) 0),
 (1906,lj [SV "add_finder_patterns" (k+598),SV "add_finder_patterns" (k+599),SV "/claim/cut.py" (k+600),(ah 80 0),(ah 3 0),(ah 0 0),(ah 0 0),(ah 3 0),(R 1901),(dB N),(ah 181 0),(R 1902),aA,(R 1903),(R 1904),(R 1905),ah (aj (k+612)) 0,(ah 80 0),SV "/claim/cut.py" (k+613)]),
 (1913,lj [SV "add_timing_pattern" (k+616),SV "add_timing_pattern" (k+617),SV "/claim/cut.py" (k+618),(ah 102 0),(ah 2 0),(ah 0 0),(ah 0 0),(ah 3 0),(R 1908),(dB N),(ah 181 0),(R 1909),aA,(R 1910),(R 1911),(R 1912),ah (aj (k+626)) 0,(ah 102 0),SV "/claim/cut.py" (k+627)]),
 (1920,lj [SV "add_codewords" (k+630),SV "add_codewords" (k+631),SV "/claim/cut.py" (k+632),(ah 118 0),(ah 3 0),(ah 0 0),(ah 0 0),(ah 3 0),(R 1915),(dB N),(ah 181 0),(R 1916),aA,(R 1917),(R 1918),(R 1919),ah (aj (k+649)) 0,(ah 118 0),SV "/claim/cut.py" (k+650)]),
 (1925,lj [SV "make_final_message" (k+653),SV "make_final_message" (k+654),SV "/claim/cut.py" (k+655),(ah 149 0),(ah 3 0),(ah 0 0),(ah 0 0),(ah 3 0),(R 1922),(dB N),(ah 181 0),(R 1923),aA,aA,aA,(R 1924),ah (aj (k+656)) 0,(ah 149 0),SV "/claim/cut.py" (k+657)]),
 (1930,lj [SV "make_blocks" (k+660),SV "make_blocks" (k+661),SV "/claim/cut.py" (k+662),(ah 181 0),(ah 2 0),(ah 0 0),(ah 0 0),(ah 3 0),(R 1927),(dB N),(ah 181 0),(R 1928),aA,aA,aA,(R 1929),ah (aj (k+663)) 0,(ah 181 0),SV "/claim/cut.py" (k+664)]),
 (1938,lj [SV "make_matrix" (k+667),SV "make_matrix" (k+668),SV "/claim/cut.py" (k+669),(ah 211 0),(ah 4 0),(ah 0 0),(ah 0 0),(ah 3 0),(R 1933),(dB N),(ah 181 0),(R 1934),aA,(R 1935),(R 1936),(R 1937),ah (aj (k+680)) 0,(ah 211 0),SV "/claim/cut.py" (k+681)]),
 (1955,lj [SV "__init__" (k+701),SV "Buffer.__init__" (k+702),SV "/claim/cut.py" (k+703),(ah 251 0),(ah 2 0),(ah 0 0),(ah 0 0),(ah 3 0),(R 1950),(dB N),(ah 181 0),(R 1951),aA,(R 1952),(R 1953),(R 1954),ah (aj (k+706)) 0,(ah 251 0),SV "/claim/cut.py" (k+707)]),
 (1962,lj [SV "extend" (k+709),SV "Buffer.extend" (k+710),SV "/claim/cut.py" (k+711),(ah 254 0),(ah 2 0),(ah 0 0),(ah 0 0),(ah 3 0),(R 1957),(dB N),(ah 181 0),(R 1958),aA,(R 1959),(R 1960),(R 1961),ah (aj (k+714)) 0,(ah 254 0),SV "/claim/cut.py" (k+715)]),
 (1976,lj [SV "getbits" (k+726),SV "Buffer.getbits" (k+727),SV "/claim/cut.py" (k+728),(ah 260 0),(ah 1 0),(ah 0 0),(ah 0 0),(ah 3 0),(R 1971),(dB N),(ah 181 0),(R 1972),aA,(R 1973),(R 1974),(R 1975),ah (aj (k+730)) 0,(ah 260 0),SV "/claim/cut.py" (k+731)]),
 (1983,lj [SV "toints" (k+733),SV "Buffer.toints" (k+734),SV "/claim/cut.py" (k+735),(ah 263 0),(ah 1 0),(ah 0 0),(ah 0 0),(ah 3 0),(R 1978),(dB N),(ah 181 0),(R 1979),aA,(R 1980),(R 1981),(R 1982),ah (aj (k+738)) 0,(ah 263 0),SV "/claim/cut.py" (k+739)]),
 (1990,lj [SV "__len__" (k+742),SV "Buffer.__len__" (k+743),SV "/claim/cut.py" (k+744),(ah 269 0),(ah 1 0),(ah 0 0),(ah 0 0),(ah 3 0),(R 1985),(dB N),(ah 181 0),(R 1986),aA,(R 1987),(R 1988),(R 1989),ah (aj (k+746)) 0,(ah 269 0),SV "/claim/cut.py" (k+747)]),
 (1997,lj [SV "__getitem__" (k+749),SV "Buffer.__getitem__" (k+750),SV "/claim/cut.py" (k+751),(ah 272 0),(ah 2 0),(ah 0 0),(ah 0 0),(ah 3 0),(R 1992),(dB N),(ah 181 0),(R 1993),aA,(R 1994),(R 1995),(R 1996),ah (aj (k+754)) 0,(ah 272 0),SV "/claim/cut.py" (k+755)]),
 (2009,lj [SV "_law_mended" (k+765),SV "_law_mended" (k+766),SV "/claim/cut.py" (k+767),(ah 275 0),(ah 3 0),(ah 0 0),(ah 0 0),(ah 3 0),(R 2006),(dB N),(ah 181 0),(R 2007),aA,aA,aA,(R 2008),ah (aj (k+768)) 0,(ah 275 0),SV "/claim/cut.py" (k+769)]),
 (2014,lj [SV "law" (k+771),SV "law" (k+772),SV "/claim/cut.py" (k+773),(ah 353 0),(ah 1 0),(ah 0 0),(ah 0 0),(ah 3 0),(R 2011),(dB N),(ah 181 0),(R 2012),aA,aA,aA,(R 2013),ah (aj (k+774)) 0,(ah 353 0),SV "/claim/cut.py" (k+775)]),
 (1923,tabObj #[]),
 (1934,tabObj #[]),
 (1979,tabObj #[]),
 (2007,tabObj #[]),
 (1932,cU [dB N,dB N] 0),
 (1948,cU [] 0),
 (1949,cU [R 1948] 0)]
def runC(w:fz)(k0:Nat):=goC (oN w.params (nsB w.params k0) 22) 1888 1382 w
def ajQ(P:bS)(k:Nat)(x:m9×gW):Bool×Nat×Array eS×fy×List (Option bj)×List (Option bj):=(Fl x.2,x.1.n,x.1.gens,x.1.os,[2,3].map x.1.tree.get,(qB P k).map λy=>x.1.tree.get y.1)
noncomputable def WC(J:cg):List aw->(List aa->aE aa)->aE aa
 | [],k=>k []
 |e::es,k=>(aZ e J).bind λv=>WC J es λvs=>k (v::vs)
def evL(e:aw):aE aa:=match xk e with
 | .tup es _ p=>jG p>>=λ_=>WC nJ es newTuple
 | .lst es p=>jG p>>=λ_=>WC nJ es newList
 |_=>aZ e nJ
def evB(e:aw):aE aa:=match xk e with
 | .bin l op r u=>evL l>>=λa=>holding [a] (aZ r nJ)>>=λb=>jG u>>=λ_=>AD [a,b] (Az op a b)
 |_=>aZ e nJ
def tF:aE ij:=Ys (cS 14) (evL (IJ (cS 14))) (WB (Ys (cS 15) (evB (IJ (cS 15))) (WB (zp (tL.drop 16)))))
theorem abU(w:fz)(os:fy)(d:Drawn)(k0 k:Nat)(g:Nat->bj):(runC w k0 os d k g ⟨tF,v8,⟨75,0,75,8⟩,[topFrame default]⟩).map (ajQ w.params k)=O (N,2016,#[],os,[O {cls:=aA,data:=eJ #[]},O {cls:=ak "dict",data:=eJ (nsC w.params k0 k) 34}],(qB w.params k).map λy=>O y.2):=by ext
end
abbrev NoE:aa->ae->Prop:=λ_ _=>False
def T{α:Type}(A:ck)(t:aE α)(s:ae)(P:α->ae->Prop):Prop:=
 ∀⦃Γ:Ctx⦄ ⦃p:aY⦄,Γ.In A->Sem.wp (aG prog w) Γ t (λa _ Y=>P a Y) (λe _ Y=>NoE e Y) p s
section
variable{β:Type}
theorem T.wp{t:aE α}{P Q:α->ae->Prop}(x:T A t s P)(h:∀a Y,P a Y->Q a Y):ax (aG prog w) A t Q a6 s:=
 gU x h λ_ _ f=>f.elim
theorem T.Dq{t:aE α}{v₀:α}{Q:α->ae->Prop}(h:T A t s λv Y=>Y=aJ/\v=v₀)(k:Q v₀ aJ):ax (aG prog w) A t Q a6 s:=h.wp λ_ _ q=>q.1▸q.2▸k
theorem T.CA{t:aE α}{X gh:α->ae->Prop}{Q:α->ae->Prop}(h:T A t s λv Y=>X v Y/\gh v Y)(k:∀v Y,X v Y->gh v Y->Q v Y):ax (aG prog w) A t Q a6 s:=h.wp λv Y q=>k v Y q.1 q.2
theorem T.wp3{β:Type}{t:aE α}{X:α->ae->Prop}{gh:α->ae->β->Prop}{Q:α->ae->Prop}(h:T A t s λv Y=>X v Y/\∃F,gh v Y F)(k:∀v Y F,X v Y->gh v Y F->Q v Y):ax (aG prog w) A t Q a6 s:=h.wp λv Y qQ=>MA qQ λx F y=>k v Y F x y
theorem T.wp4{β:Type}{t:aE α}{X:α->ae->Prop}{gh iO:α->ae->β->Prop}{Q:α->ae->Prop}(h:T A t s λv Y=>X v Y/\∃F,gh v Y F/\iO v Y F)(k:∀v Y F,X v Y->gh v Y F->iO v Y F->Q v Y):ax (aG prog w) A t Q a6 s:=h.wp λv Y qQ=>iM qQ λx F y z=>k v Y F x y z
theorem T.wpV{β:Type}{t:aE α}{gh:α->β->Prop}{Q:α->ae->Prop}(h:T A t s λv Y=>Y=aJ/\∃F,gh v F)(k:∀v F,gh v F->Q v aJ):ax (aG prog w) A t Q a6 s:=h.wp λv _ qQ=>MA qQ λe F y=>e▸k v F y
theorem T.η{β:Type}{t:aE α}{gh iO:α->β->Prop}{Q:α->ae->Prop}(h:T A t s λv Y=>Y=aJ/\∃F,gh v F/\iO v F)(k:∀v F,gh v F->iO v F->Q v aJ):ax (aG prog w) A t Q a6 s:=h.wp λv _ qQ=>iM qQ λe F y z=>e▸k v F y z
theorem T.mono{t:aE α}{P Q:α->ae->Prop}(x:T A t s P)(h:∀a Y,P a Y->Q a Y):T A t s Q:=x.wp h
end
abbrev ie:=List (Nat×Nat×AV)
noncomputable def cq:ie->Nat->Option (Nat×AV)
 | [],_=>ai
 |(y,k,av)::r,x=>match fD y x with
  |true=>O (k,av)
  |false=>cq r x
noncomputable def jl:ie->Nat->Nat->AV->ie
 | [],x,k,av=>[(x,k,av)]
 |(y,k',mw)::r,x,k,av=>match fD y x with
  |true=>(x,k,av)::r
  |false=>(y,k',mw)::jl r x k av
theorem mx(G:ie)(x k:Nat)(av:AV)(y:Nat):cq ((x,k,av)::G) y=if x=y then O (k,av) else cq G y:=by
 show(?_:(match fD x y with|true=>O (k,av)|false=>cq G y)=_);cases q:fD x y with
 |true=>show(if_pos (Lj q)).symm
 |false=>show(if_neg (Lf q)).symm
theorem uz(G:ie)(x k:Nat)(av:AV)(y k':Nat)(mw:AV):jl ((x,k,av)::G) y k' mw=if x=y then(y,k',mw)::G else(x,k,av)::jl G y k' mw:=by
 show(?_:(match fD x y with|true=>(y,k',mw)::G|false=>(x,k,av)::jl G y k' mw)=_);cases q:fD x y with
 |true=>show(if_pos (Lj q)).symm
 |false=>show(if_neg (Lf q)).symm
theorem fH(G:ie)(x k:Nat)(av:AV)(y:Nat):cq (jl G x k av) y=if y=x then O (k,av) else cq G y:=by
 show(?_:_=if x=y then _ else _).trans (ite_congr (propext eq_comm) (λ_=>rfl) λ_=>rfl);induction G with
 |nil=>show mx [] x k av y
 |cons p r ih=>
  rw[uz,mx];by_cases h:p.1=x
  .rw [if_pos h,mx,h];show if q:x=y then by rw[if_pos q,if_pos q] else by rw[if_neg q,if_neg q,if_neg q]
  .rw [if_neg h,mx,ih];by_cases q:p.1=y
   .rw [if_pos q,if_pos q,if_neg λe=>h (q.trans e.symm)]
   .rw [if_neg q,if_neg q]
theorem Oy{dA M:ie}{p:Nat×AV}(h:cq (dA++M) y=O p):cq dA y=O p\/cq M y=O p:=by
 induction dA with
 |nil=>show aH h
 |cons z dA ih=>
  have h:=(mx (dA++M) z.1 z.2.1 z.2.2 y).symm.trans h;show(show cq (z::dA) y=_ from mx dA z.1 z.2.1 z.2.2 y)▸?_;by_cases e:z.1=y
  .rw [if_pos e]at h ⊢;show ao h
  .rw [if_neg e]at h ⊢;show ih h
theorem Bz{s:String}(h:Z4[i]? =O s):NM i=aC s:=by delta NM;rw[h]
theorem BA(h:Z4[i]? =ai):NM i=⟨#[2000000+i]⟩:=by delta NM;rw[h]
theorem Jk:(Z4.map aC).Nodup:=of_decide_eq_true bz
theorem Jl:(Z4.all λs=>(aC s).cps.toList.all (· <2000000))=N:=by rfl
theorem CB(h:NM i=NM j):i=j:=by
 show O' (Z4[i]?) (λhi=>?_) λa hi=>?_
 .cases hj:Z4[j]? with
  |some b=>exfalso;rw[BA hi,Bz hj]at h;have:=mV.mp Jl b (cW hj);rw[<-h]at this;simp at this;lia
  |none=>have:=congrArg (λa:Array Nat=>a.toList) (congrArg Str.cps ((BA hj)▸(BA hi)▸h));simp at this;show this
 .cases hj:Z4[j]? with
  |some b=>
   have h:=(Bz hj)▸(Bz hi)▸h;have e1:(Z4.map aC)[i]? =O (aC a):=by rw[cY,hi];rfl
   have e2:(Z4.map aC)[j]? =O (aC b):=by rw[cY,hj];rfl
   rw[<-h]at e2;show dG (dR.mp e1) λl1 g1=>?_;show dG (dR.mp e2) λl2 g2=>?_;rcases UM i j with c|c|c
   .show ((EG.mp Jk i j l1 l2 c) (g1.trans g2.symm)).elim
   .show c
   .show ((EG.mp Jk j i l2 l1 c) (g2.trans g1.symm)).elim
  |none=>have h:=(BA hj)▸(Bz hi)▸h;have:=mV.mp Jl a (cW hi);rw[h]at this;simp at this;lia
theorem aet(i:Nat)(y:aP)(h1:(Z4.all λs=>aC s != y)=N)(h2:y.cps.size≠1):(NM i==y)=af:=by
 show O' (Z4[i]?) (λhi=>?_) λa hi=>?_
 .rw [BA hi];rw[beq_eq_false_iff_ne];intro e;subst e;show h2 Z
 .rw [Bz hi];have:=mV.mp h1 a (cW hi);simpa using this
theorem wG(i:Nat):(NM i==("__debug__" :aP))=af:=aet i _ (rfl) (ue Z)
theorem vD(i:Nat):(NM i==("__classdict__" :aP))=af:=aet i _ (rfl) (ue Z)
def Am(J:cg)(h:aN)(x:aP)(v:aa):Prop:=
 (J.kindOf x=O cZ/\∃m,h.Ns J.locals m/\m x=O v)\/
 ((J.kindOf x=O dw\/J.kindOf x=O eN)/\∃c,J.cells.lookup x=O c/\c∉bY/\h.IsCell c (O v))
protected theorem hx.ns(x:hx H h h')(ha:a∉bY)(n:h.Ns a m):h'.Ns a m:=
 eY n λo es ep ho r=>Bt o es ep (x.keep a o ha ho) r
theorem hx.cell{v:Option aa}(x:hx H h h')(ha:a∉bY)(n:h.IsCell a v):h'.IsCell a v:=
 bh n λo ho r=>ct o (x.keep a o ha ho) r
theorem Am.ext{x:aP}(e:hx H h h')(hl:J.locals∉bY)(cB:Am J h x v):Am J h' x v:=bf cB (λi0=>iM i0 λk m n e1=>ao ⟨k,m,e.ns hl n,e1⟩) λi0=>oU i0 λk c e1 e2 e3=>aH ⟨k,c,e1,e2,e.cell e2 e3⟩
section
variable(H:List ab)(U:aN)
structure ER(L:c9)(J:cg)(h:aN)(G:ie):Prop where
 base:hx H U h
 kind:J.scope.kind=d0
 gl:∀x,L.names.lookup x=O kV->J.kindOf x=O kV
 WD:∀x,(L.names.lookup x=O dw\/L.names.lookup x=O eN)->(J.kindOf x=O dw\/J.kindOf x=O eN)
 glob:J.globals=ef
 bi:J.builtins=fY
 loc:J.locals∉bY
 has:∀x k av,cq G x=O (k,av)->∃v F,Am J h (NM x) v/\bR h av v F
end
section
variable{H:List ab}{U:aN}{G:ie}
theorem ER.ext(r:ER H U L J h G)(x:hx H h h'):ER H U L J h' G:=
 ⟨r.base.trans x,r.kind,r.gl,r.WD,r.glob,r.bi,r.loc,λy k av e=>eQ (r.has y k av e) λv F a b=>(kH v F (a.ext x r.loc) (b.ext x))⟩
end
structure cA(U:aN)(mg mb:aP->Option aa):Prop where
 g:U.Ns ef mg
 b:U.Ns fY mb
 lim:U.NoLimit
 top:Tp U
 bmod:∃bm o,mg "__builtins__" =O (R bm)/\bm≠fY/\bm∉bY/\U.get? bm=O o/\o.cls=ak "module" /\o.dict=O fY/\o.data=sZ
theorem jy{U:aN}(B:Tp U)(x:hx H U h):Q0<=h.objs.size:=dG B λo e=>dG (x.there _ _ e) λo' e'=>gx (cn e')
protected theorem cA.mg{U:aN}(B:cA U mg mb)(x:hx H U h):h.Ns ef mg:=x.ns (DT Z) B.g
protected theorem cA.mb{U:aN}(B:cA U mg mb)(x:hx H U h):h.Ns fY mb:=x.ns (DT Z) B.b
theorem cA.zr{U:aN}(B:cA U mg mb)(x:hx H U h):h.NoLimit:=bh B.lim λmc n e=>ct mc (x.ns (DT Z) n) e
section
variable{H:List ab}{U:aN}{G:ie}
theorem pO{x:aP}(hk:J.scope.kind=d0)(E:J.kindOf x=O kV)(hg:s.heap.Ns J.globals mg)(hv:mg x=O v)(h:Q v s):ax (aG prog w) A (loadName J x) Q a6 s:=by rw[loadName_read hk E];show ag<|xP hg<|hv.symm▸aB h
theorem mL{x:aP}(hk:J.scope.kind=d0)(E:J.kindOf x=O kV)(hg:s.heap.Ns J.globals mg)(D:s.heap.Ns J.builtins mb)(hn:mg x=ai)(hv:mb x=O v)(h:Q v s):ax (aG prog w) A (loadName J x) Q a6 s:=by rw[loadName_read hk E];show ag<|xP hg<|hn.symm▸ag (xP D ?_);show hv.symm▸aB h
theorem v9(r:ER H U L J s.heap G)(E:cq G x=O (k,av)):
 T A (aZ (ar (NM x) pos) J) s (λv Y=>Y=s/\∃F,bR s.heap av v F):=by
 show eQ (r.has x k av E) λv F cB aO=>(qY ?_ (wG x));show bf cB (λi0=>iM i0 λhl m n e=>xD r.kind hl n e ⟨rfl,F,aO⟩) λi0=>oU i0 λhl c hc _ hv=>?_;rcases hl with hl|hl
 .show J5 r.kind hl hc hv ⟨rfl,F,aO⟩
 .show J6 r.kind hl hc hv ⟨rfl,F,aO⟩ (vD x)
theorem uh{u:aa}(r:ER H U L J s.heap G)(E:cq G x=O (k,aX u)):T A (aZ (ar (NM x) pos) J) s (λv Y=>Y=s/\v=u):=
 (v9 r E).mono λ_ _ q=>⟨q.1,q.2.elim λ_ aO=>aO.Gg (P:=λv=>v=u) Z⟩
theorem rZ{x:aP}(B:cA U mg mb)(r:ER H U L J s.heap G)(E:L.names.lookup x=O kV)(hv:mg x=O v)(hd:(x==("__debug__" :aP))=af):T A (aZ (ar x pos) J) s (λu Y=>Y=s/\u=v):=
 qY (pO r.kind (r.gl x E) (r.glob▸B.mg r.base) hv ⟨rfl,rfl⟩) hd
theorem ez{x:aP}(B:cA U mg mb)(r:ER H U L J s.heap G)(E:L.names.lookup x=O kV)(hn:mg x=ai)(hv:mb x=O v)(hd:(x==("__debug__" :aP))=af):T A (aZ (ar x pos) J) s (λu Y=>Y=s/\u=v):=
 qY (mL r.kind (r.gl x E) (r.glob▸B.mg r.base) (r.bi▸B.mb r.base) hn hv ⟨rfl,rfl⟩) hd
end
variable{G G' Gx:ie}
structure θ(n:Nat)(A:ck):Prop where
 hd:A.handled=ai
 depth:A.depth+n<1000
 units:A.units+20 * n<9900
inductive BOp where|add|sub|mul|fdiv|fmod|pow|xor|band|shr(u:Unit)
noncomputable def BOp.ast:BOp->Operator
 | .add=>rL | .sub=>FF | .mul=>vo | .fdiv=>FE | .fmod=>Bj | .pow=>Mh | .xor=>Bh | .band=>Mf | .shr _=>Mg
noncomputable def oW(x:Int):Bool:=decide (x.natAbs<1073741824)
def wH:BOp->Int->Int->Option Int
 | .add=>λx y=>O (x+y)
 | .sub=>λx y=>O (x - y)
 | .mul=>λx y=>cond (oW x) (O (x * y)) ai
 | .fdiv=>λx y=>cond (oW y && decide (0<y)) (O (x.fdiv y)) ai
 | .fmod=>λx y=>cond (decide (0<y)) (O (x.fmod y)) ai
 | .pow=>λx y=>cond (oW x && decide (0<=y) && decide (y<=1000)) (O (x ^ y.toNat)) ai
 | .xor=>λx y=>x.casesOn (λx=>y.casesOn (λy=>O (aj (x ^^^ y))) λ_=>ai) λ_=>ai
 | .band=>λx y=>x.casesOn (λx=>y.casesOn (λy=>O (aj (x &&& y))) λ_=>ai) λ_=>ai
 | .shr _=>λx y=>cond (decide (0<=y)) (O (x.fdiv (2 ^ y.toNat))) ai
inductive COp where|eq|ne|lt|le|gt|ge(u:Unit)
noncomputable def COp.ast:COp->CmpOp
 | .eq=>Bn | .ne=>FK | .lt=>FL | .le=>VZ | .gt=>CmpOp.Gt | .ge _=>CmpOp.GtE
noncomputable def gS:COp->Int->Int->Bool
 | .eq=>λx y=>x==y
 | .ne=>λx y=>x != y
 | .lt=>λx y=>decide (x<y)
 | .le=>λx y=>decide (x<=y)
 | .gt=>λx y=>decide (y<x)
 | .ge _=>λx y=>decide (y<=x)
theorem r7(op:COp)(e:aw):Em op.ast e=af:=by
 cases e with
 |Set ae7 k pos=>change(k==0 && (op.ast==FN ||op.ast==Bm) && ae7.all (constantsAlone 8))=af;show(by cases op<;>rfl:(op.ast==FN ||op.ast==Bm)=af).symm▸?_;simp
 |_=>rfl
theorem Gh(x y:Nat):LV (aj x) (aj y)=aj (x &&& y):=by rfl
theorem CD(h:k<n):rd (aj k) n=O k:=
 if_pos (fL.mpr ⟨decide_eq_true (KG k),decide_eq_true (sP.mpr h)⟩)
theorem ae8{a b:Nat}(h:a / 2+b / 2=c / 2)(k:a % 2+b % 2=c % 2):a+b=c:=(congr (congrArg HAdd.hAdd (Lz a 2)) (Lz b 2)).symm.trans ((Nat.add_add_add_comm ..).trans (yq 2 _ _▸h▸k▸Lz c 2))
theorem ι:(x ^^^ y) % 2+(x &&& y) % 2=(x |||y) % 2:=by rw[(Nat.xor_mod_two_pow (n:=1)),(Nat.and_mod_two_pow (n:=1)),(Nat.or_mod_two_pow (n:=1)),Nat.pow_one];rcases EX x with h|h<;>rcases EX y with k|k<;>rw[h,k]<;>rfl
theorem BB(x y:Nat):x |||y=(x ^^^ y)+(x &&& y):=by
 have key:∀n x y:Nat,x<=n->y<=n->(x ^^^ y)+(x &&& y)=x |||y:=by
  intro n;induction n with
  |zero=>intro x y E hy;rw[LF.mp E,LF.mp hy];rfl
  |succ n ih=>show λx y E hy=>ae8 ?_ ι;rw[Nat.xor_div_two,Nat.and_div_two,Nat.or_div_two];show ih _ _ (ba (UL E) (mX (Ly (E7 n) aK))) (ba (UL hy) (mX (Ly (E7 n) aK)))
 show(key (x+y) x y (iZ ..) (ry ..)).symm
theorem Yt(x y:Nat):Vd (aj x) (aj y)=aj (x |||y):=by
 delta Vd
 have:LV (ng (aj x)) (ng (aj y))=ng (aj (x |||y)):=by rw[LV,(decide_eq_false (by delta ng;have:aj x=(x:Int):=rfl;lia)),(decide_eq_false (by delta ng;have:aj y=(y:Int):=rfl;lia))];rw[(by delta ng;lia:ng (ng (aj x))=aj x),(by delta ng;lia:ng (ng (aj y))=aj y)];rfl
 rw[this]
 delta ng;simp+arith
theorem Gj(x y:Nat):Vc (aj x) (aj y)=aj (x ^^^ y):=by
 delta Vc
 rw[Yt,Gh,BB];show Int.sub_eq_iff_eq_add.mpr Z
def EP(H:List ab)(s:ae)(av:AV)(fr:Bool)(v:aa)(Y:ae):Prop:=dz H s Y/\∃F,bR Y.heap av v F/\(fr=N->(∀b∈F,s.heap.get? b=ai)/\F.Nodup)
def EPs(H:List ab)(s:ae)(avs:List AV)(vs:List aa)(Y:ae):Prop:=dz H s Y/\∃F,bD Y.heap avs vs F
def BP(H:List ab)(s:ae)(b:Bool)(v:Bool)(Y:ae):Prop:=dz H s Y/\v=b
section
variable{H:List ab}{A:ck}
theorem oX(F:List ab)(e:dz H s Y)(r:bR Y.heap av v F)(k:fr=N->(∀b∈F,s.heap.get? b=ai)/\F.Nodup):EP H s av fr v Y:=⟨e,F,r,k⟩
theorem aeu(e:dz H s Y)(r:bD Y.heap avs vs F):EPs H s avs vs Y:=⟨e,F,r⟩
theorem T.tM{t:aE aa}(h:T A t s (EP H aJ av fr))(k:∀v Y F,dz H aJ Y->bR Y.heap av v F->(fr=N->(∀b∈F,aJ.heap.get? b=ai)/\F.Nodup)->Q v Y):ax (aG prog w) A t Q a6 s:=h.wp λv Y qQ=>iM qQ λx F y z=>k v Y F x y z
theorem T.CE{t:aE aa}{i:Int}(h:T A t s (EP H aJ (a9 i) fr))(k:∀t Y,dz H aJ Y->Q (ah i t) Y):ax (aG prog w) A t Q a6 s:=h.tM λ_ Y _ e aO _=>aO.zN (P:=λv=>Q v Y) λt=>k t Y e
theorem T.κ{t:aE aa}{u:aa}(h:T A t s (EP H aJ (aX u) fr))(k:∀Y,dz H aJ Y->Q u Y):ax (aG prog w) A t Q a6 s:=h.tM λ_ Y _ e aO _=>aO.Gg (P:=λv=>Q v Y) (k Y e)
theorem T.Q5{t:aE (List aa)}{Q:List aa->ae->Prop}(h:T A t s (EPs H aJ avs))(k:∀v Y F,dz H aJ Y->bD Y.heap avs v F->Q v Y):ax (aG prog w) A t Q a6 s:=h.wp λv Y qQ=>MA qQ λx F y=>k v Y F x y
theorem T.wpB{t:aE Bool}{b:Bool}{Q:Bool->ae->Prop}(h:T A t s (BP H aJ b))(k:∀Y,dz H aJ Y->Q b Y):ax (aG prog w) A t Q a6 s:=h.wp λv Y qQ=>eX qQ λx y=>y▸k Y x
end
section
variable(H:List ab)(U:aN)(A:ck)(L:c9)(J:cg)(G:ie)
def V(e:aw)(av:AV)(fr:Bool):Prop:=
 ∀⦃s:ae⦄,ER H U L J s.heap G->T A (aZ e J) s (EP H s av fr)
def oY(e:aw)(b:Bool):Prop:=
 ∀⦃s:ae⦄,ER H U L J s.heap G->T A (isTrue e J (aZ e J)) s (BP H s b)
end
section
variable{H:List ab}{U:aN}{A:ck}{L:c9}{J:cg}{G:ie}
theorem bR.ofInt(i:Int)(t:aW):bR h (a9 i) (ah i t) []:=⟨⟨t,rfl⟩,rfl⟩
theorem bR.toInt{i:Int}(x:bR h (a9 i) v F):∃t,v=ah i t:=x.1
theorem bR.ofBool(b:Bool):bR h (fG b) (dB b) []:=⟨rfl,rfl⟩
theorem bR.toBool{b:Bool}(x:bR h (fG b) v F):v=dB b:=x.1
theorem d9:(fr=N->(∀b∈([]:List ab),s.heap.get? b=ai)/\([]:List ab).Nodup):=λ_=>⟨λ_ D=>(kI D),rJ⟩
theorem V.int{i:Int}:V H U A L J G (gn (jc i) k pos) (a9 i) fr:=
 λs _=>xG (oX [] (.toks s _) (.ofInt i _) d9)
theorem V.none:V H U A L J G (gn yx k pos) tI fr:=
 λs _=>aB (oX [] (.refl s) (⟨rfl,rfl⟩) d9)
theorem aq(x:Nat)(E:cq G x=O (k,av)):V H U A L J G (ar (NM x) pos) av af:=
 λs r=>(v9 r E).wp3 λv Y F e aO=>by show e.symm▸?_;show oX F (.refl _) aO (λh=>IE h)
theorem μ{op:BOp}{x y z:Int}{t u:aW}(h:wH op x y=O z):
 T A (Az op.ast (ah x t) (ah y u)) s (λv Y=>dz H s Y/\∃t',v=ah z t'):=by
 have ze:∀{z':Int},z'=z->(dz H s {s with toks:=s.toks+1}/\∃t',ah z' s.toks=ah z t'):=λe=>⟨.toks s _,s.toks,by rw[e]⟩;cases op with
 |add=>show add_int (ze (aV h))
 |sub=>show sub_int (ze (aV h))
 |mul=>
  dsimp only[wH]at h;cases hs:oW x with
  |false=>have h:=hs▸h;ext
  |true=>have h:=hs▸h;have E:=of_decide_eq_true hs;show mul_int (ze (aV h)) (IntMulOk.of_left (intBits_le_64 au au))
 |fdiv=>
  dsimp only[wH]at h;cases hs:(oW y && decide (0<y)) with
  |false=>have h:=hs▸h;ext
  |true=>have h:=hs▸h;show eX (fL.mp hs) λh1 h2=>have h2:=of_decide_eq_true h2;floordiv_int au (ze (aV h)) (ao (PyProof.noPylong_small (of_decide_eq_true h1)))
 |fmod=>
  dsimp only[wH]at h;cases hs:decide (0<y) with
  |false=>have h:=hs▸h;ext
  |true=>have h:=hs▸h;have h2:=of_decide_eq_true hs;show mod_int' au (ze (aV h))
 |pow=>
  dsimp only[wH]at h;cases hs:(oW x && decide (0<=y) && decide (y<=1000)) with
  |false=>have h:=hs▸h;ext
  |true=>have h:=hs▸h;simp only[qr,decide_eq_true_eq]at hs;obtain⟨⟨h1,h2⟩,h3⟩:=hs;have h1:=of_decide_eq_true h1;show pow_int_small h2 au au (ze (aV h))
 |xor=>
  cases x with
  |ofNat x=>cases y with|ofNat y=>show xor_int (ze ((Gj x y).trans (aV h)))|negSucc y=>ext
  |negSucc x=>ext
 |band=>
  cases x with
  |ofNat x=>cases y with|ofNat y=>show and_int (ze ((Gh x y).trans (aV h)))|negSucc y=>ext
  |negSucc x=>ext
 |shr=>
  dsimp only[wH]at h;cases hs:decide (0<=y) with
  |false=>have h:=hs▸h;ext
  |true=>have h:=hs▸h;show rshift_int (of_decide_eq_true hs) (ze (aV h))
theorem V.bin(op:BOp){a b:aw}{x y z:Int}(ha:V H U A L J G a (a9 x) af)(D:V H U A L J G b (a9 y) af)(h:wH op x y=O z):V H U A L J G (eu a op.ast b pos) (a9 z) fr:=λs r=>by show Eo ((ha r).CE λt aD e1=>(D (r.ext e1.ext)).tM λu aQ F2 e2 V2 _=>?_);obtain⟨t',rfl⟩:=V2.toInt;show(μ h).wp3 λv de t3 e3 hv=>(oX [] ((e1.trans e2).trans e3) (by subst hv;show .ofInt z t3) d9)
theorem ML{a:aw}{x:Int}(ha:V H U A L J G a (a9 x) af):V H U A L J G (Ui UnaryOp.USub a pos) (a9 (-x)) fr:=λs r=>wpAny_UnaryOp<|(ha r).CE λt aD e1=>neg_int (oX [] (e1.trans (.toks _ _)) (.ofInt _ _) d9)
theorem BC{op:COp}{x y:Int}{t u:aW}:T A (Ey op.ast (ah x t) (ah y u)) s (λv Y=>Y=s/\v=dB (gS op x y)):=by
 cases op with
 |eq=>show eq_int ⟨rfl,rfl⟩
 |ne=>show ne_int ⟨rfl,rfl⟩
 |lt=>show lt_int ⟨rfl,rfl⟩
 |le=>show le_int ⟨rfl,rfl⟩
 |gt=>show gt_int ⟨rfl,rfl⟩
 |ge=>show ge_int ⟨rfl,rfl⟩
theorem my(op:COp){a b:aw}{x y:Int}(ha:V H U A L J G a (a9 x) af)(D:V H U A L J G b (a9 y) af)
 :oY H U A L J G (jZ a [op.ast] [b] pos) (gS op x y):=λs r=>by
 show uP ((ha r).CE λt aD e1=>(D (r.ext e1.ext)).tM λu aQ F2 e2 V2 _=>?_) (r7 op b);obtain⟨t',rfl⟩:=V2.toInt;show T.Dq BC (l8 ⟨e1.trans e2,rfl⟩)
theorem Gk(op:COp)(x y:Int){a b:aw}(ha:V H U A L J G a (a9 x) af)(D:V H U A L J G b (a9 y) af)
 :V H U A L J G (jZ a [op.ast] [b] pos) (fG (gS op x y)) fr:=λs r=>by
 show wpAny_Compare1 ((ha r).CE λt aD e1=>(D (r.ext e1.ext)).tM λu aQ F2 e2 V2 _=>?_) (r7 op b);obtain⟨t',rfl⟩:=V2.toInt;show T.Dq BC (oX [] (e1.trans e2) (.ofBool _) d9)
theorem vE{a b:aw}{x y:Bool}(ha:oY H U A L J G a x)(D:x=N->oY H U A L J G b y):
 oY H U A L J G (KP Ww [a,b] pos) (x && y):=λs r=>by
 show TM (Tz ((ha r).CA λv aD e1 hv=>?_));subst hv;cases v with
 |false=>show⟨e1,rfl⟩
 |true=>
  show Tz<|(D Z (r.ext e1.ext)).CA λv aQ e2 hv=>hv▸?_;cases v with
  |false=>show⟨e1.trans e2,rfl⟩
  |true=>show wpAny_allTrue_And_nil ⟨e1.trans e2,rfl⟩
theorem Q6{a b:aw}{x y:Bool}(ha:oY H U A L J G a x)(D:x=af->oY H U A L J G b y):
 oY H U A L J G (KP BoolOp.Or [a,b] pos) (x ||y):=λs r=>by
 show TM (TC ((ha r).CA λv aD e1 hv=>?_));subst hv;cases v with
 |true=>show⟨e1,rfl⟩
 |false=>
  show TC<|(D Z (r.ext e1.ext)).CA λv aQ e2 hv=>hv▸?_;cases v with
  |true=>show⟨e1.trans e2,rfl⟩
  |false=>show wpAny_allTrue_Or_nil ⟨e1.trans e2,rfl⟩
theorem FQ(x:Bool){a:aw}(ha:oY H U A L J G a x):oY H U A L J G (Ui UnaryOp.Not a pos) (!x):=λs r=>
 wpAny_isTrue_Not ((ha r).CA λv aD e1 hv=>⟨e1,congrArg _ hv⟩)
theorem wI(x:Bool){c a b:aw}(hc:oY H U A L J G c x)(ha:x=N->V H U A L J G a av fr)(D:x=af->V H U A L J G b av fr):V H U A L J G (Expr.IfExp c a b pos) av fr:=λs r=>by
 show wpAny_IfExp ((hc r).CA λv aD e1 hv=>?_);subst hv;cases v with
 |true=>show(ha Z (r.ext e1.ext)).mono λv aQ q=>iM q λe2 F aO hf=>(oX F (e1.trans e2) aO (λq=>⟨λb D=>e1.ext.new ((hf q).1 b D),(hf q).2⟩))
 |false=>show(D Z (r.ext e1.ext)).mono λv aQ q=>iM q λe2 F aO hf=>(oX F (e1.trans e2) aO (λq=>⟨λb D=>e1.ext.new ((hf q).1 b D),(hf q).2⟩))
end
theorem bD.length:∀{vs:List aa} {F:List ab},bD h K vs F->vs.length=K.length:=by
 induction K with
 |nil=>intro vs F r;show r.1.symm▸?_;rfl
 |cons x K iH=>intro vs F r;apply jM r;intro v tK F1 F2 _ e3 _;simp[iH e3]
theorem bD.get:∀{vs:List aa} {F:List ab},bD h K vs F->∀{i:Nat} {x:AV},K[i]? =O x->∃v F',vs[i]? =O v/\bR h x v F'/\∀b∈F',b∈F:=by
 induction K with
 |nil=>intro vs F r i x e;ext
 |cons y K ih=>
  intro vs F r i x e;apply jM r;intro v tK F1 F2 e2 e3 e4;subst e4;cases i with
  |zero=>show aV e▸Ot v F1 Z e2 (λb D=>by lia)
  |succ i=>show jx (ih e3 e) λv' F' g1 g2 g3=>Ot v' F' g1 g2 (λb D=>by simp[g3 b D])
theorem bD.append:∀{vs ws:List aa} {F F':List ab},bD h K vs F->bD h ys ws F'->bD h (K++ys) (vs++ws) (F++F'):=by
 induction K with
 |nil=>intro vs ws F F' r q;show eX r λe1 e2=>e1▸e2▸q
 |cons x K ih=>intro vs ws F F' r q;apply jM r;intro v tK F1 F2 e2 e3 e4;subst e4;show DW v (tK++ws) F1 (F2++F') Z e2 (ih e3 q) (AN F1 F2 F')
theorem bD.drop(n:Nat):∀{K:List AV} {vs:List aa} {F:List ab},bD h K vs F->∃F',bD h (K.drop n) (vs.drop n) F'/\∀b∈F',b∈F:=by
 induction n with
 |zero=>intro K vs F r;show ct F r (λ_ D=>D)
 |succ n iH=>
  intro yY;cases yY with
  |nil=>intro vs F r;show eX r λe1 e2=>?_;subst e1 e2;show ct [] r (λ_ D=>D)
  |cons x K=>intro vs F r;apply jM r;intro v tK F1 F2 e2 e3 e4;subst e4;show bh (iH e3) λF' g1 g2=>ct F' g1 (λb D=>by simp[g2 b D])
theorem bD.take(n:Nat):∀{K:List AV} {vs:List aa} {F:List ab},bD h K vs F->∃F',bD h (K.take n) (vs.take n) F'/\∀b∈F',b∈F:=by
 induction n with
 |zero=>intro K vs F r;show ct [] .nil (λ_ D=>kI D)
 |succ n iH=>
  intro yY;cases yY with
  |nil=>intro vs F r;show eX r λe1 e2=>?_;subst e1 e2;show ct [] r (λ_ D=>D)
  |cons x K=>
   intro vs F r;apply jM r;intro v tK F1 F2 e2 e3 e4;subst e4;show bh (iH e3) λF' g1 g2=>((ct (F1++F') (eg F1 F' e2 g1) (λb D=>?_)));simp at D;rcases D with D|D
   .ext
   .show ew F1 (g2 b D)
mutual
noncomputable def flat:AV->Bool
 |tI|fG _|a9 _|aX _=>N
 |Bu _ x=>flat x
 |gr K=>iT K
 |_=>af
noncomputable def iT:List AV->Bool
 | []=>N
 |x::K=>flat x && iT K
end
theorem cV:(∀(av:AV) (v:aa) (F:List ab),flat av=N->bR h av v F->F=[])/\∀(K:List AV) (vs:List aa) (F:List ab),iT K=N->bD h K vs F->F=[]:=
 Bv (λ_ _ _ r=>r.2) (λ_ _ _ _ r=>r.2) (λ_ _ _ _ r=>r.2) (λ_ _ _ _ r=>r.2) (λ_ _ ih v F hf r=>ih v F hf r.2) (λ_ _ _ _ hf=>IE hf) (λ_ ih _ _ hf r=>gH r λ_ _ _ _ _ _ e4=>ih _ _ hf e4) (λ_ _ _ _ _ _ hf=>IE hf) (λ_ _ _ r=>r.2)
  λ_ _ i1 i2 _ _ hf r=>eX (fL.mp hf) λh1 h2=>gu r λ_ _ _ _ _ e2 e3 e4=>by have e4:=i2 _ _ h2 e3▸i1 _ _ h1 e2▸e4;show e4
noncomputable def j8:aw->Bool
 |mi ..=>N
 |_=>af
noncomputable def cG:aw->Bool
 |Expr.Starred ..=>N
 |_=>af
theorem uA{slice:aw}(h:j8 slice=af)(o i:aa):Ep slice af o i=AD [o,i] (xW o i):=by cases slice<;>first|rfl|(ext)
theorem dp(h:cG e=af)(rest:List aw)(J:cg):iX (e::rest) J=(af,aZ e J)::iX rest J:=by cases e<;>first|rfl|(ext)
noncomputable def BI:List (String×aa):=[("len",bx "len"),("range",ak "range"),("zip",ak "zip"),("list",ak "list"),("min",bx "min"),("max",bx "max"),
 ("bytearray",ak "bytearray"),("tuple",ak "tuple"),("reversed",ak "reversed"),("int",ak "int"),("map",ak "map"),("str",ak "str")]
def dQ(mg mb:aP->Option aa):Prop:=∀p∈BI,mg (aC p.1)=ai/\mb (aC p.1)=O p.2
theorem bX(e:h.get? a=O (br vs n)):h.IsList a vs.toArray:=⟨_,e,rfl,n,rfl⟩
theorem Q7.typeIs(e:s.heap.get? a=O (br vs n)):s.TypeIs (R a) "list" :=ct _ e Z
noncomputable def WE:AV->Int->Option AV
 |bV K,aj k=>cond (dY k 1000000) K[k]? ai
 |bV K,AH k=>cond (dY (k+1) K.length && dY k 1000000) K[K.length - (k+1)]? ai
 |gr K,aj k=>cond (dY k 1000000) K[k]? ai
 |_,_=>ai
theorem CF{c:Bool}{x:Option α}{y:α}(h:cond c x ai=O y):c=N/\x=O y:=by
 cases c with
 |false=>ext
 |true=>show⟨rfl,h⟩
theorem Jm{x:AV}{k:Int}{t:aW}(aO:bR s.heap av v F)(h:WE av k=O x):
 (∃T id,s.TypeIs v T/\gV (ak T) "__getitem__" =pure (O (bx id)))/\
 T A (xW v (ah k t)) s (λu Y=>Y=s/\∃F',bR s.heap x u F'/\∀b∈F',b∈F):=by
 cases av with
 |list K=>
  apply fP aO;show λa vs n F' _ e3 e4 ν=>ν▸⟨(kH ("list") _ (Q7.typeIs e3) slot_list_getitem.lookup),?_⟩;cases k with
  |ofNat k=>show eX (CF h) λh1 h2=>have h1:=dO h1;jx (bD.get e4 h2) λu Q8 g1 g2 g3=>(TR (bX e3) fF au (by simpa using g1) ⟨rfl,Q8,g2,λb D=>bZ a (g3 b D)⟩)
  |negSucc k=>show eX (CF h) λh1 h2=>eX (fL.mp h1) λh1 h3=>have h1:=dO h1;have h3:=dO h3;jx (bD.get e4 h2) λu Q8 g1 g2 g3=>have hl:=bD.length e4;wpAny_getItem_list_neg (bX e3) fF jP au ?_ ⟨rfl,Q8,g2,λb D=>bZ a (g3 b D)⟩;show((by simp;lia:(AH k+(vs.toArray.size:Int)).toNat=K.length - (k+1)))▸?_;simpa using g1
 |tuple K=>
  apply pR aO;show λa vs n _ e3 e4=>⟨(kH ("tuple") _ ⟨_,e3,rfl⟩ VG.lookup),?_⟩;cases k with
  |ofNat k=>show eX (CF h) λh1 h2=>have h1:=dO h1;jx (bD.get e4 h2) λu Q8 g1 g2 g3=>have jz:=(dR.mp g1).1;getItem_tuple (⟨_,e3,rfl,n,rfl⟩) fF au (CD jz) (by simpa using g1) ⟨rfl,Q8,g2,λb D=>g3 b D⟩
  |negSucc k=>ext
 |_=>show Bq (by assumption)
theorem wJ{a i:aw}{x:AV}{k:Int}(ha:V H U A L J G a av af)(hi:V H U A L J G i (a9 k) af)(h:WE av k=O x)(r8:j8 i=af)(Z5:fr=N->flat x=N):V H U A L J G (dk a i pos) x fr:=λs r=>by show rF ((ha r).tM λo aD F1 e1 V1 _=>(hi (r.ext e1.ext)).CE λt aQ e2=>?_);obtain⟨⟨T',id,hT,hl⟩,hg⟩:=Jm (V1.ext e2.ext) h;show vi hT hl (hg.mono λv de qQ=>iM qQ λe3 F' aO hF=>?_) (uA r8 o _);show e3▸oX F' (e1.trans e2) aO (λq=>by show(cV.1 _ _ _ (Z5 q) aO)▸?_;show⟨λ_ D=>(kI D),rJ⟩)
theorem tN(s:ae)(D:hx H U s.heap)(B:Tp U)(aO:bD s.heap K vs F)(e:Y={s with heap:=s.heap.push (br vs 0)}):
 dz H s Y/\bR Y.heap (bV K) (R s.heap.objs.size) (s.heap.objs.size::F):=by
 subst e;show⟨⟨.push _ _,rfl,rfl,eV _⟩,?_⟩;show rY F (fi (jy B D)) (bK _ Z) (aO.ext (H:=H) (.push _ _))
theorem MM(D:hx H U s.heap)(B:Tp U)(aO:bD s.heap K vs F)(e:Y={s with heap:=s.heap.push (cU vs 0)}):
 dz H s Y/\bR Y.heap (gr K) (R s.heap.objs.size) F:=by
 subst e;show⟨⟨.push _ _,rfl,rfl,eV _⟩,?_⟩;show DV _ vs 0 Z (fi (jy B D)) (bK _ Z) (aO.ext (H:=H) (.push _ _))
def fJ(H:List ab)(U:aN)(A:ck)(L:c9)(J:cg)(G:ie)(es:List aw)(avs:List AV):Prop:=
 ∀s pos,ER H U L J s.heap G->T A (oz (jH pos (iX es J))) s (EPs H s avs)
theorem fJ.nil:fJ H U A L J G [] []:=λs _ _=>T4 (aeu (.refl s) .nil)
theorem fJ.cons(he:V H U A L J G e av af)(hes:fJ H U A L J G es avs)(dH:cG e=af):
 fJ H U A L J G (e::es) (av::avs):=λs pos r=>
 Kb ((he r).tM λv aD F1 e1 V1 _=>(hes aD pos (r.ext e1.ext)).Q5 λvs aQ F2 e2 V2=>
  (aeu (e1.trans e2) (eg F1 F2 (V1.ext e2.ext) V2))) (dp dH _ _)
theorem oZ(B:Tp U)(he:fJ H U A L J G es avs)(hf:iT avs=N)(hl:dY avs.length 1000=N):
 V H U A L J G (AI es pos) (bV avs) fr:=λs r=>by
 show Kw ((he s pos r).Q5 λvs aD F1 e1 V1=>⟨?_,?_⟩)
 .have:=bD.length V1;have:=dO hl;lia
 .show eX (tN _ (r.ext e1.ext).base B V1 Z) λe2 aO=>?_;have:F1=[]:=cV.2 _ _ _ hf V1;subst this;show⟨e1.trans e2,_,aO,λ_=>⟨λb D=>by simp at D;subst D;show e1.ext.new (bF _),by simp⟩⟩
theorem ui(B:Tp U)(he:fJ H U A L J G es avs)(hf:iT avs=N)(hl:dY avs.length 1000=N):
 V H U A L J G (ik es k pos) (gr avs) fr:=λs r=>by
 show Er ((he s pos r).Q5 λvs aD F1 e1 V1=>⟨?_,?_⟩)
 .have:=bD.length V1;have:=dO hl;lia
 .show eX (MM (r.ext e1.ext).base B V1 Z) λe2 aO=>?_;have:F1=[]:=cV.2 _ _ _ hf V1;subst this;show⟨e1.trans e2,_,aO,λ_=>⟨λb D=>(kI D),rJ⟩⟩
theorem ae9{a b:aw}(B:Tp U)(ha:V H U A L J G a (bV K) af)(D:V H U A L J G b (bV ys) af)(hf:iT K=N)(hg:iT ys=N)(hl:dY (K.length+ys.length) 1000=N):V H U A L J G (eu a rL b pos) (bV (K++ys)) fr:=λs r=>by show Eo ((ha r).tM λv aD F1 e1 V1 _=>(D (r.ext e1.ext)).tM λu aQ F2 e2 V2 _=>?_);apply fP (V1.ext e2.ext);intro a vs n F' _ a3 a4 ν;apply fP V2;intro b ws m Q8 _ b3 b4 eF2;have l1:=bD.length a4;have l2:=bD.length b4;have hl:=dO hl;have n1:=cV.2 _ _ _ hf a4;have n2:=cV.2 _ _ _ hg b4;subst n1 n2;show P.add_list a3 b3 ?_ (by have:fc=16777216:=rfl;simp;lia);have Jn:=e1.trans e2;show eX (tN aQ (r.ext Jn.ext).base B (bD.append a4 b4) Z) λe3 aO=>(((List.append_toArray vs ws))▸⟨Jn.trans e3,_,aO,λ_=>⟨λb D=>by obtain rfl:=bJ.mp D;show Jn.ext.new (bF _),by simp⟩⟩)
theorem V.len{a:aw}(B:cA U mg mb)(I:dQ mg mb)(kM:Gi L "len")(ha:V H U A L J G a (bV K) af)(dH:cG a=af)(hl:dY K.length 1000000=N):V H U A L J G (bI (ar (aC "len") np) [a] [] pos) (a9 K.length) fr:=λs r=>by have hI:=I ("len",bx "len") aK;show l9<|(ez B r kM hI.1 hI.2 (rfl)).Dq<|yu ((fJ.cons ha fJ.nil dH s pos r).Q5 λvs aD F1 e1 V1=>?_) (dp dH _ _) Z;apply nF V1;intro v G1 V2;apply fP V2;intro a ws n F' _ a3 a4 _;have l1:=bD.length a4;have hl:=dO hl;show call_len_list (bX a3) jP (((Ue.mpr l1))▸⟨e1.trans (.toks _ _),[],.ofInt _ _,d9⟩)
noncomputable def je:List AV->Option (List Int)
 | []=>O []
 |a9 i::K=>(je K).map (i::·)
 |_::_=>ai
theorem nW(ns:List Int):je (ns.map a9)=O ns:=by
 induction ns with
 |nil=>rfl
 |cons n ns ih=>show congrArg (U4 (n::·)) ih
theorem zO:∀(k:Nat) (K:List AV),iT K=N->iT (K.drop k)=N:=by
 intro k;induction k with
 |zero=>show λ_ h=>h
 |succ k ih=>show λK h=>match K with
  | []=>rfl
  |_::K=>ih K (fL.mp h).2
theorem zP:∀(k:Nat) (K:List AV),iT K=N->iT (K.take k)=N:=by
 intro k;induction k with
 |zero=>show λ_ _=>rfl
 |succ k ih=>show λK h=>match K with
  | []=>rfl
  |_::K=>fL.mpr ⟨(fL.mp h).1,ih K (fL.mp h).2⟩
theorem Gl:∀{ns:List Int},je K=O ns->iT K=N:=by
 induction K with
 |nil=>intro _ _;show rfl
 |cons x K iH=>
  intro ns h;cases x with
  |int i=>show bh (jb.mp h) λms h1 _=>(iH h1:)
  |_=>show Bq h
theorem intsAre_of:∀{vs:List aa} {F:List ab} {ns:List Int},bD h K vs F->je K=O ns->fh vs ns:=by
 induction K with
 |nil=>intro vs F ns r e;apply vA r;intro _;obtain rfl:=aV e;show qv
 |cons x K iH=>
  intro vs F ns r e;apply jM r;intro v tK F1 F2 e2 e3 _;cases x with
  |int i=>show bh (jb.mp e) λms h1 dX=>dX▸?_;apply bR.zN e2;show λt=>yE i t (iH e3 h1)
  |_=>show Bq e
theorem wK{ns:List Int}(x:fh vs ns):bD h (ns.map a9) vs []:=by
 induction x with
 |nil=>show .nil
 |cons n t _ ih=>show eg [] [] (.ofInt n t) ih
theorem bD.replicate{x:AV}(E:bR h x v []):∀n:Nat,bD h (cb n x) (cb n v) []:=by
 intro xX;induction xX with
 |zero=>show .nil
 |succ n iH=>show eg [] [] E (iH)
theorem Q9{x:aP}(o r:aa):letTemporaryGo (ar x p) o r=pure ():=by cases o<;>rfl
theorem CG{de:ae}{us:List aa}{F':List ab}{vl vu:aa}{its:Array aa}(ajR:its=us.toArray)(r:hx H U de.heap)(B:Tp U)(e:dz H s de)(hf:iT ys=N)(aO:bD de.heap ys us F'):
 dz H s {de with heap:=(de.heap.push {cls:=ak "slice",data:=bH #[vl,vu,aA]}).push {cls:=ak "list",data:=bU its}}/\
  ∃F,bR ((de.heap.push {cls:=ak "slice",data:=bH #[vl,vu,aA]}).push {cls:=ak "list",data:=bU its}) (bV ys) (R (de.heap.objs.size+1)) F/\(fr=N->(∀b∈F,s.heap.get? b=ai)/\F.Nodup):=by
 subst ajR;have n2:=cV.2 _ _ _ hf aO;subst n2;have x1:hx H de.heap (de.heap.push {cls:=ak "slice",data:=bH #[vl,vu,aA]}):=.push _ _;show eX (tN ({de with heap:=de.heap.push {cls:=ak "slice",data:=bH #[vl,vu,aA]}}) (r.trans x1) B (aO.ext x1) Z) λe2 V2=>?_;have hs:(de.heap.push {cls:=ak "slice",data:=bH #[vl,vu,aA]}).objs.size=de.heap.objs.size+1:=dD ..;rw[hs]at V2;have e1:dz H de {de with heap:=de.heap.push {cls:=ak "slice",data:=bH #[vl,vu,aA]}}:=⟨x1,rfl,rfl,eV _⟩;show⟨e.trans (e1.trans e2),_,V2,λ_=>⟨λb D=>?_,by simp⟩⟩;apply jS D;show e.ext.new<|x1.new<|hs▸bF _
theorem Oz{x:aP}{hi:aw}(B:Tp U)(ha:V H U A L J G (ar x np) (bV K) af)(hh:V H U A L J G hi (a9 (aj k)) af)(hf:iT K=N)(hl:dY K.length 1000000=N):V H U A L J G (dk (ar x np) (mi eU (O hi) eU p) pos) (bV (K.take k)) fr:=λs r=>by show JZ ((ha r).tM λv aD F1 e1 V1 _=>?_) Q9;show aB ((hh (r.ext e1.ext)).CE λt aQ e2=>?_);apply fP (V1.ext e2.ext);intro a vs n F' _ a3 a4 ν;have hl:=dO hl;have l1:=bD.length a4;show bh (bD.take k a4) λQ8 V3 _=>ae4 a vs.toArray eU (O (aj k)) Z (bX a3) (by have:fc=16777216:=rfl;simp;lia) Me (oS _ _)<|CG (slicePick_upto' vs.toArray k) ((r.ext e1.ext).ext e2.ext).base B (e1.trans e2) (zP k K hf) V3
theorem Ra{x:aP}{lo:aw}(B:Tp U)(ha:V H U A L J G (ar x np) (bV K) af)(hh:V H U A L J G lo (a9 (aj k)) af)(hf:iT K=N)(hl:dY K.length 1000000=N):V H U A L J G (dk (ar x np) (mi (O lo) eU eU p) pos) (bV (K.drop k)) fr:=λs r=>by show JZ ((ha r).tM λv aD F1 e1 V1 _=>?_) Q9;show(hh (r.ext e1.ext)).CE λt aQ e2=>(aB ?_);apply fP (V1.ext e2.ext);intro a vs n F' _ a3 a4 ν;have hl:=dO hl;have l1:=bD.length a4;show bh (bD.drop k a4) λQ8 V3 _=>((ae4 a vs.toArray (O (aj k)) eU Z (bX a3) (by have:fc=16777216:=rfl;simp;lia) (oS _ _) Me ?_));show CG (slicePick_from' vs.toArray k) ((r.ext e1.ext).ext e2.ext).base B (e1.trans e2) (zO k K hf) V3
theorem WG{x:aP}{lo hi:aw}{m:Nat}(B:Tp U)(ha:V H U A L J G (ar x np) (bV K) af)(hh:V H U A L J G lo (a9 (aj k)) af)(hj:V H U A L J G hi (a9 (aj m)) af)(hf:iT K=N)(hl:dY K.length 1000000=N)(Rb:dY k m=N)(hm:dY m K.length=N):
 V H U A L J G (dk (ar x np) (mi (O lo) (O hi) eU p) pos) (bV ((K.drop k).take (m - k))) fr:=λs r=>by
 show JZ ((ha r).tM λv aD F1 e1 V1 _=>?_) Q9;show(hh (r.ext e1.ext)).CE λt aQ e2=>((hj ((r.ext e1.ext).ext e2.ext)).tM λu' de F3 e3 V4 _=>?_);obtain⟨t',rfl⟩:=V4.toInt;apply fP ((V1.ext e2.ext).ext e3.ext);intro a vs n F' _ a3 a4 ν;have hl:=dO hl;have l1:=bD.length a4;show bh (bD.drop k a4) λQ8 V3 _=>bh (bD.take (m - k) V3) λF3' V5 _=>ae4 a vs.toArray (O (aj k)) (O (aj m)) Z (bX a3) (by have:fc=16777216:=rfl;simp;lia) (oS _ _) (oS _ _) (CG (slicePick_run vs.toArray k m (by simp;show le_of_le_of_eq (dO hm) (id (ml l1))) (dO Rb)) (((r.ext e1.ext).ext e2.ext).ext e3.ext).base B ((e1.trans e2).trans e3) (zP _ _ (zO k K hf)) V5)
theorem Yu{l:ab}{x:Int}{u:aW}(hl:s.heap.get? l=O {cls:=ak "list",dict:=ai,data:=bU items k,slots:=#[]})(IF: -(2 ^ 63:Int)<=x)(hhi:x<2 ^ 63)(hsz:items.size * x.toNat<=2 ^ 24)(h:Q (R s.heap.objs.size) {s with heap:=s.heap.push {cls:=ak "list",data:=bU (yi (λx1 x2=>x1++x2) #[] (cb (if items.isEmpty=N then 0 else x.toNat) items))}}):
 ax (aG prog w) A (Az vo (R l) (ah x u)) Q a6 s:=
 wpAny_binaryOp_repeat_ref (rfl) ⟨_,hl,rfl⟩ (λY=>xR Y x u) noFill_list_mul PySem.F.fills_int_mul FC repeat_list FA.lookup
  (qe FC (xR s x u) VN (VI _ _) (int___rmul___int_list x u l items k)
   ⟨hl,rfl,⟨_,hl,rfl⟩,qe PySem.F.slot_list_mul ⟨_,hl,rfl⟩ PySem.F.entry_list_mul (PySem.F.args_list_mul_2 _ _)
    (AutoListH.list___mul___list_int_3 l items k x u (by simp[abA];show And.symm ⟨hhi,IF⟩) au (by simp[Vz];assumption))
    ⟨hl,h⟩⟩)
theorem ξ(v:aa)(n:Nat):∀(jw:Array aa),yi (λx1 x2=>x1++x2) jw (cb n #[v])=jw++(cb n v).toArray:=by
 induction n with
 |zero=>intro jw;rfl
 |succ n iH=>intro jw;rw[Ur,iw,iH,Ur];apply Bc;simp
theorem Rc{a b:aw}{x:AV}{n:Int}(B:Tp U)(ha:V H U A L J G a (bV [x]) af)(D:V H U A L J G b (a9 n) af)(hf:flat x=N)(hl:decide (-1000<=n)=N)(ο:decide (n<=1000)=N):V H U A L J G (eu a vo b pos) (bV (cb n.toNat x)) fr:=λs r=>by
 show Eo<|(ha r).tM λv aD F1 e1 V1 _=>(D (r.ext e1.ext)).wp λu aQ oj=>iM oj λe2 F2 V2 _=>dG V2.toInt λt dX=>dX▸iP (V1.ext e2.ext) λa vs m F' qC _ a3 a4 DX=>qC▸kJ a4 λv tK G1 G2 Of V3 V4 Z6=>?_;subst Of;show eX V4 λeQ6 eQ7=>?_;subst eQ6;have n1:=cV.1 _ _ _ hf V3;subst n1;show Yu a3 au au jP ?_;have Jn:=e1.trans e2;have ha:(yi (λx1 x2=>x1++x2) #[] (cb (if(#[v]:Array aa).isEmpty=N then 0 else n.toNat) #[v]))=(cb n.toNat v).toArray:=by rw[ξ];show Vm
 show ha.symm▸eX (tN aQ (r.ext Jn.ext).base B (bD.replicate V3 n.toNat) Z) λe3 aO=>⟨Jn.trans e3,_,aO,λ_=>⟨λb D=>by simp at D;subst D;show Jn.ext.new (bF _),by simp⟩⟩
theorem Gm{a b:aa}{ns ms:List Int}{F':List ab}(hA:θ k A)(hk:4<=k)(V1:bR s.heap (bV K) a F)(V2:bR s.heap (bV ys) b F')(h1:je K=O ns)(h2:je ys=O ms):
 T A (Ey Bn a b) s (λv Y=>Y=s/\v=dB (decide (ns=ms)))/\T A (Ey FK a b) s (λv Y=>Y=s/\v=dB (!decide (ns=ms))):=by
 apply fP V1;intro a vs n G _ a3 a4 _;apply fP V2;intro b ws m G' _ b3 b4 _;have hu:A.units+64<cLine:=by have:=hA.units;have:cLine=9900:=rfl;lia
 show⟨PySem.W.ke_eq_ints (bX a3) (bX b3) (intsAre_of a4 h1) (intsAre_of b4 h2) hu ⟨rfl,rfl⟩,PySem.W.ke_ne_ints (bX a3) (bX b3) (intsAre_of a4 h1) (intsAre_of b4 h2) hu ⟨rfl,rfl⟩⟩
theorem abV{a b:aw}{ns ms:List Int}(hA:θ k A)(hk:4<=k)(ha:V H U A L J G a (bV K) af)(D:V H U A L J G b (bV ys) af)(h1:je K=O ns)(h2:je ys=O ms):oY H U A L J G (jZ a [FK] [b] pos) (!decide (ns=ms)):=λs r=>by show uP ((ha r).tM λv aD F1 e1 V1 _=>(D (r.ext e1.ext)).tM λu aQ F2 e2 V2 _=>?_) (r7 .ne b);show T.Dq (Gm hA hk (V1.ext e2.ext) V2 h1 h2).2 (l8 ⟨e1.trans e2,rfl⟩)
theorem oY.WH{a:aw}{y:aP}{x:Int}{ms:List Int}(ha:V H U A L J G a (a9 x) af)(D:V H U A L J G (ar y np) (bV ys) af)(h2:je ys=O ms):oY H U A L J G (jZ a [Bm] [ar y np] pos) (!(ms.any (· ==x))):=λs r=>by show uP ((ha r).CE λt aD e1=>(D (r.ext e1.ext)).tM λu aQ F2 e2 V2 _=>?_) Z;apply fP V2;show λb ws m G' _ b3 b4 _=>notin_list_ints (bX b3) (intsAre_of b4 h2) (l8 ⟨e1.trans e2,rfl⟩)
theorem abW{a b:aw}{x y:Int}(hA:θ k A)(B:cA U mg mb)(I:dQ mg mb)(kM:Gi L "min")(ha:V H U A L J G a (a9 x) af)(D:V H U A L J G b (a9 y) af)(Z7:cG a=af)(hb':cG b=af):V H U A L J G (bI (ar (aC "min") np) [a,b] [] pos) (a9 (if y<x then y else x)) fr:=λs r=>by
 have hI:=I ("min",bx "min") aK;show l9<|(ez B r kM hI.1 hI.2 (rfl)).Dq<|yu ((fJ.cons ha (fJ.cons D fJ.nil hb') Z7 s pos r).Q5 λvs aD F1 e1 V1=>?_) (dp Z7 _ _) (by rw[dp hb'];rfl);apply nG V1;intro v v2 G1 G3 V2 V4;apply bR.zN V2;intro t;show dG V4.toInt λt' dX=>dX▸min_two_ints hA.hd λh' tk hk=>(oX [] (e1.trans ⟨.of_keep hk,rfl,rfl,eV _⟩) ?_ d9);by_cases c:y<x
 .rw [if_pos c,if_pos c];show .ofInt _ _
 .rw [if_neg c,if_neg c];show .ofInt _ _
section
variable{H:List ab}{h:aN}
theorem MG.uniq{x:Nat}{c c':Option ab}{v v':Option aa}(p:MG h fd x c v)(q:MG h fd x c' v'):c=c'/\v=v':=by show og λgG kG=>lZ p λk v1 g1 g2 g3 _ i1=>bh i1 λoo g5 g6=>lZ q λk' v1' g1' g2' g3' _ i1=>bh i1 λoo' g5' g6'=>kG ?_;clear kG gG;obtain rfl:=aV (g3.symm.trans g3');obtain rfl:=aV (g5.symm.trans g5');show⟨g1.trans g1'.symm,g2.trans ((Data.cell.inj (g6.symm.trans g6')).trans g2'.symm)⟩
theorem vx.uniq{cs cs':List ab}{tK:List aa}(p:vx h ns fd cs vs)(q:vx h ns fd cs' tK):cs=cs'/\vs=tK:=by
 have hc:∀i:Nat,cs[i]? =cs'[i]? /\vs[i]? =tK[i]? :=λi=>by show O' (ns[i]?) (λhi=>?_) λx hi=>(p.1 i x hi).uniq (q.1 i x hi);have h1:∀{α:Type} (l:List α),l.length=ns.length->l[i]? =eU:=λl hl=>Uk.mpr (hl▸Uk.mp hi);show(h1 cs p.2.1).symm▸(h1 cs' q.2.1).symm▸(h1 vs p.2.2).symm▸(h1 tK q.2.2).symm▸⟨rfl,rfl⟩
 show⟨EM λi=>(hc i).1,EM λi=>(hc i).2⟩
theorem Rd:(∀(av:AV) (v:aa) (F F':List ab),bR h av v F->bR h av v F'->F=F')/\∀(K:List AV) (vs:List aa) (F F':List ab),bD h K vs F->bD h K vs F'->F=F':=by
 have fl:∀(p:Prop) (F F':List ab),p/\F=[]->p/\F'=[]->F=F':=λ_ _ _ r q=>r.2.trans q.2.symm;show Bv (λ_=>fl _) (λ_ _=>fl _) (λ_ _=>fl _) (λ_ _=>fl _) (λu x ih v F F' r q=>ih v F F' r.2 q.2) (λK ih v F F' r q=>?_) (λK ih v F F' r q=>?_) (λf ns K ih v F F' r q=>?_) (λ_=>fl _) (λx K i1 i2 vs F F' r q=>?_)
 .show fO r λa vs n G e1 _ e3 e4 dX=>(fO q λa' tK n' G' Rf _ π e4' qC=>?_);obtain rfl:=j6 (e1.symm.trans Rf);have e:vs=tK:=congrArg Vr (Wr (congrArg Fc (aV (e3.symm.trans π)))).1;show dX▸qC▸congrArg _ (ih vs _ _ e4 (e▸e4'))
 .show gH r λa vs n e1 _ e3 e4=>(gH q λa' tK n' Rf _ π e4'=>?_);obtain rfl:=j6 (e1.symm.trans Rf);have e:vs=tK:=congrArg Vr (Wr (congrArg Fc (aV (e3.symm.trans π)))).1;show ih vs _ _ e4 (e▸e4')
 .show ki r λa o fd cs vs G e1 _ e3 e4 _ _ c e5 DX=>(ki q λa' o' fd' cs' tK G' Rf _ π e4' _ _ c' e5' Of=>?_);obtain rfl:=j6 (e1.symm.trans Rf);obtain rfl:=aV (e3.symm.trans π);obtain rfl:=Data.func.inj (e4.symm.trans e4');show eX (c.uniq c') λh1 h2=>?_;rw[DX,Of,h1,ih vs _ _ e5 (h2▸e5')]
 .show gu r λv tK F1 F2 e1 e2 e3 dX=>(gu q λv' alL F1' F2' Rf e2' π qC=>?_);obtain⟨rfl,rfl⟩:=mr (e1.symm.trans Rf);rw[dX,qC,i1 v _ _ e2 e2',i2 tK _ _ e3 π]
theorem bR.uniq{F':List ab}(r:bR h av v F)(q:bR h av v F'):F=F':=Rd.1 av v F F' r q
theorem Dr:(∀(av:AV) (v:aa) (F:List ab),bR h av v F->∀b∈F,b∉bY/\∃o,h.get? b=O o/\((o.cls=ak "list" /\∃vs n,o.data=bU vs n)\/∃v,o.data=oM v))/\
 ∀(K:List AV) (vs:List aa) (F:List ab),bD h K vs F->∀b∈F,b∉bY/\∃o,h.get? b=O o/\((o.cls=ak "list" /\∃vs n,o.data=bU vs n)\/∃v,o.data=oM v):=by
 have fl:∀{p:Prop} {F:List ab} {P:ab->Prop},p/\F=[]->∀b∈F,P b:=λr b D=>kI (r.2▸D);show Bv (λ_ _=>fl) (λ_ _ _=>fl) (λ_ _ _=>fl) (λ_ _ _=>fl) (λu x ih v F r=>ih v F r.2) (λK ih v F r b D=>?_) (λK ih v F r b D=>gH r λa vs n e1 _ e3 e4=>ih vs F e4 b D) (λf ns K ih v F r b D=>?_) (λ_ _=>fl) (λx K i1 i2 vs F r b D=>?_)
 .show fO r λa vs n G e1 e2 e3 e4 dX=>?_;subst dX;show bf (bu.mp D) (λa1=>a1▸⟨e2,_,e3,ao ⟨rfl,_,_,rfl⟩⟩) λD=>ih vs G e4 b D
 .show ki r λa o fd cs vs G e1 _ e3 e4 _ _ cc e5 qC=>?_;subst qC;rcases b9.mp D with D|D
  .show dG (sQ D) λi hi=>?_;have jz:i<ns.length:=cc.2.1▸(dR.mp hi).1;show og λgG kG=>lZ (cc.1 i ns[i] (dE jz)) λk v1 g1 g2 g3 g4 i1=>bh i1 λoo g5 g6=>?_;show kG ?_;clear kG gG;show aV (hi.symm.trans g1)▸⟨g4,oo,g5,aH ⟨_,g6⟩⟩
  .show ih vs G e5 b D
 .show gu r λv tK F1 F2 e1 e2 e3 dX=>?_;subst dX;show bf (b9.mp D) (λD=>i1 v F1 e2 b D) λD=>i2 tK F2 e3 b D
theorem bR.kinds(r:bR h av v F):∀b∈F,b∉bY/\∃o,h.get? b=O o/\((o.cls=ak "list" /\∃vs n,o.data=bU vs n)\/∃v,o.data=oM v):=Dr.1 av v F r
theorem bD.kinds(r:bD h K vs F):∀b∈F,b∉bY/\∃o,h.get? b=O o/\((o.cls=ak "list" /\∃vs n,o.data=bU vs n)\/∃v,o.data=oM v):=Dr.2 K vs F r
end
theorem Am.uniq{J:cg}{h:aN}{x:aP}{v':aa}(a:Am J h x v)(b:Am J h x v'):v=v':=by
 rcases a with⟨k,m,n,e⟩|⟨k,c,e1,_,⟨o,e2,e3⟩⟩<;>rcases b with⟨k',m',n',e'⟩|⟨k',c',Rf,_,⟨o',e2',π⟩⟩
 .show gH n λo es ep a1 a2 _ a3=>(gH n' λo' es' ep' b1 b2 _ b3=>?_);replace b1:=a1▸b1;obtain rfl:=aV b1;replace b2:=a2▸b2;cases b2
  have:=a3 x;rw[b3 x,e',e]at this;show(aV this).symm
 .rw [k]at k';rcases k' with k' |k'<;>cases k'
 .rw [k']at k;rcases k with k|k<;>cases k
 .obtain rfl:=aV (e1.symm.trans Rf);obtain rfl:=aV (e2.symm.trans e2');rw[e3]at π;simp only[Data.cell.injEq,Option.some.injEq]at π;show π
def LS(h:aN)(b:ab):Prop:=∃vs n,h.get? b=O (br vs n)
theorem LS.ext{h:aN}{b:ab}(x:hx H h h')(ht:b∉bY)(l:LS h b):LS h' b:=jh l λvs n e=>qA vs n (x.keep b _ ht e)
theorem LS.mM{h:aN}{b:ab}{v:Option aa}(l:LS h b)(c:h.IsCell b v):False:=by show jh l λvs n e=>(bh c λo e' d=>?_);obtain rfl:=aV (e.symm.trans e');ext
theorem LS.MN{h:aN}{b:ab}(l:LS h b)(c:h.Ns b m):False:=by show jh l λvs n e=>(tD c λo es ep e' d _=>?_);replace e':=e▸e';obtain rfl:=aV e';ext
section
variable(J:cg)(h:aN)(G:ie)(W:List ab)(val:Nat->aa)(fp:Nat->List ab)(x:Nat)
structure afa(b:ab):Prop where
 mem:b∈W
 ls:LS h b
 ap:∀y k' mw,cq G y=O (k',mw)->y≠x->b∉fp y
structure Own:Prop where
 nd:(fp x).Nodup
 el:∀b∈fp x,afa h G W fp x b
structure Ent(k:Nat)(av:AV):Prop where
 has:Am J h (NM x) (val x)
 rel:bR h av (val x) (fp x)
 own:k=1->Own h G W fp x
 shd:k≠1->∀b∈fp x,b∉W
variable{J h G W val fp x}
theorem qD{b:ab}{P:Prop}(q:afa h G W fp x b)(k:b∈W->LS h b->(∀y k' mw,cq G y=O (k',mw)->y≠x->b∉fp y)->P):P:=k q.1 q.2 q.3
theorem mz{P:Prop}(q:Ent J h G W val fp x k av)(c:Am J h (NM x) (val x)->bR h av (val x) (fp x)->(k=1->Own h G W fp x)->(k≠1->∀b∈fp x,b∉W)->P):P:=c q.1 q.2 q.3 q.4
theorem Ent.of(e1:val x=v)(e2:fp x=F)(a:Am J h (NM x) v)(b:bR h av v F)(n:k=1->F.Nodup)(c:k=1->∀b∈F,afa h G W fp x b)(d:k≠1->∀b∈F,b∉W):Ent J h G W val fp x k av:=by subst e1 e2;show⟨a,b,λq=>⟨n q,c q⟩,d⟩
variable(J h G W val fp)
def ajS:Prop:=∀x k av,cq G x=O (k,av)->Ent J h G W val fp x k av
end
section
variable(H:List ab)(U:aN)
structure FR(D:aN)(L:c9)(J:cg)(h:aN)(G:ie)(W:List ab):Prop where
 b1:hx H U D
 ext:hx H D h
 scope:J.scope=L
 kind:L.kind=d0
 glob:J.globals=ef
 bi:J.builtins=fY
 loc:J.locals∈W
 ns:∃m,h.Ns J.locals m
 cell:∀x,L.names.lookup (NM x)=O dw->∃c,J.cells.lookup (NM x)=O c/\(∃v,h.IsCell c v)/\c∉bY/\((∃av,cq G x=O (2,av))\/c∈W)
 pS:∀x y c,L.names.lookup (NM x)=O dw->J.cells.lookup (NM x)=O c->J.cells.lookup (NM y)=O c->y=x
 ji:∀b∈W,D.get? b=ai/\b∉bY/\Cx h b
 ents:∃(val:Nat->aa) (fp:Nat->List ab),ajS J h G W val fp
end
section
variable{H:List ab}{U:aN}{J:cg}{h:aN}{G:ie}{W:List ab}
theorem FR.base(r:FR H U D L J h G W):hx H U h:=r.b1.trans r.ext
theorem FR.er(r:FR H U D L J h G W):ER H U L J h G where
 base:=r.base
 kind:=r.scope.symm▸r.kind
 gl:=λx E=>by delta j7;show r.scope.symm▸?_;show E
 WD:=λx E=>by delta j7;show r.scope.symm▸E
 glob:=r.glob
 bi:=r.bi
 loc:=(r.ji _ r.loc).2.1
 has:=λx k av e=>jh r.ents λval fp q=>kH (val x) (fp x) ((q x k av e).1) ((q x k av e).2)
theorem Cx.ext{b:ab}(x:hx H h h')(ht:b∉bY)(m:Cx h b):Cx h' b:=bh m λo e r=>ct o (x.keep b o ht e) r
theorem FR.abX(r:FR H U D L J h G W)(b1:hx τ' U D)(x:hx τ' D h')(kW:∀b∈W,∀o,h.get? b=O o->h'.get? b=O o)(kC:∀c v,c∉bY->h.IsCell c v->h'.IsCell c v)(kE:∀y k av v F,cq G y=O (k,av)->bR h av v F->bR h' av v F):FR τ' U D L J h' G W where
 b1:=b1
 ext:=x
 scope:=r.scope
 kind:=r.kind
 glob:=r.glob
 bi:=r.bi
 loc:=r.loc
 ns:=r.ns.imp λm n=>n.at' (kW _ r.loc)
 cell:=λy hy=>lY (r.cell y hy) λc a b d e=>wD c a (b.imp λv q=>kC c v d q) d e
 pS:=r.pS
 ji:=λb D=>hb (r.ji b D) λp q m=>gQ p q (Bo (λo q=>⟨kW b D o q.1,q.2⟩) m)
 ents:=jh r.ents λval fp q=>qA val fp (λy k av e=>mz (q y k av e) λa b c d=>⟨a.imp (λq=>⟨q.1,q.2.imp λm q=>⟨q.1.at' (kW _ r.loc),q.2⟩⟩) λq=>⟨q.1,q.2.imp λc q=>⟨q.1,q.2.1,kC _ _ q.2.1 q.2.2⟩⟩,kE y k av _ _ e b,
  λhk=>⟨(c hk).1,λz hz=>qD ((c hk).2 z hz) λp1 p2 p3=>⟨p1,p2.imp λvs q=>q.imp λn q=>kW z p1 _ q,p3⟩⟩,d⟩)
theorem FR.grow(r:FR H U D L J h G W)(x:hx H h h'):FR H U D L J h' G W:=
 r.abX r.b1 (r.ext.trans x) (λb hb' o e=>x.keep b o (r.ji b hb').2.1 e) (λ_ _ ht q=>x.cell ht q) λ_ _ _ _ _ _ aO=>aO.ext x
theorem Ds(hs:gv a h h')(ha:U.get? a=ai)(hm:∃o,h'.get? a=O o)(e:hx H U h)(ht:a∉bY):hx H U h' where
 keep:=λb o D q=>(hs.2 b (λe'=>by subst e';have q:=ha.symm.trans q;ext)).trans (e.keep b o D q)
 tab:=λb D ps q=>dG (e.tab b D ps q) λm q'=>⟨m,(hs.2 b (λe'=>by subst e';show ht D)).trans q'⟩
 there:=λb o q=>if Og:b=a then Og▸hm else dG (e.there b o q) λo' q'=>⟨o',(hs.2 b Og).trans q'⟩
 quiet:=λb o D ht' q=>(hs.2 b (λe'=>by subst e';show ht D)).trans (e.quiet b o D ht' q)
theorem nX(hs:gv a h h')(hm:∃o,h'.get? a=O o)(ha:a∈W)(ht:a∉bY):Mod W h h' where
 keep:=λb o D _ q=>(hs.2 b (λe'=>by subst e';show D ha)).trans q
 tab:=λb D ps q=>⟨#[],(hs.2 b (λe'=>by subst e';show ht D)).trans q⟩
 there:=λb o q=>if Og:b=a then Og▸hm else⟨o,(hs.2 b Og).trans q⟩
theorem Cx.same{b:ab}(hs:gv a h h')(hm:Cx h' a)(m:Cx h b):Cx h' b:=by
 by_cases Og:b=a
 .subst Og;show hm
 .show bh m λo e r=>ct o ((hs.2 b Og).trans e) r
theorem MO(n:h.Ns a m):Cx h a:=tD n λo es ep ho hd _=>ct o ho (aH (ao ⟨es,ep,hd⟩))
theorem Gn{v:Option aa}(n:h.IsCell a v):Cx h a:=bh n λo ho hd=>ct o ho (aH (aH ⟨v,hd⟩))
end
noncomputable def abY(W F:List ab):List ab:=W.filter λb=> !F.contains b
theorem iU{W:List ab}{b:ab}:b∈abY W F↔b∈W/\b∉F:=by
 delta abY
 simp
def share(G:ie)(y:Nat):ie:=(cq G y).elim G λp=>cond (fD p.1 1) (jl G y 0 p.2) G
theorem uB(G:ie)(y:Nat):(∃av,cq G y=O (1,av)/\share G y=jl G y 0 av)\/(share G y=G/\∀av,cq G y≠O (1,av)):=by
 delta share
 cases cq G y with
 |none=>show aH ⟨rfl,λ_=>Bq⟩
 |some p=>
  obtain⟨n,av⟩:=p;show if h:n=1 then ?_ else aH ⟨congrArg (λb=>cond b (jl G y 0 av) G) ((Mu n 1).trans (decide_eq_false h)),λ_ e=>h (congrArg Prod.fst (aV e))⟩
  subst h;show ao ⟨av,rfl,rfl⟩
theorem Gp(G:ie)(y x:Nat)(e:cq (share G y) x=O (k,av)):∃k',cq G x=O (k',av)/\(k=k'\/(x=y/\k'=1/\k=0)):=by show(uB G y).elim (λi=>bh i λmw h q=>?_) λi=>⟨k,i.1▸e,ao Z⟩;rw[q,fH]at e;show if r:x=y then Yq (aV ((if_pos r).symm.trans e)) λa1 a2=>⟨1,r▸a2▸h,aH ⟨r,rfl,a1.symm⟩⟩ else⟨k,(if_neg r).symm.trans e,ao Z⟩
theorem Rg(G:ie)(y:Nat):cq (share G y) y≠O (1,av):=by show(uB G y).elim (λi=>bh i λmw h q e=>?_) λi=>i.1.symm▸i.2 av;rw[q,fH,if_pos Z]at e;show Yq (aV e) λa1 _=>nnZ a1
theorem IK{G:ie}{x:Nat}(h:x≠y):cq (share G y) x=cq G x:=
 (uB G y).elim (λi=>bh i λmw _ q=>by rw[q,fH,if_neg h]) λi=>congrArg (cq · x) i.1
theorem abZ{G:ie}{x:Nat}(h:cq G x=O (2,av)):cq (share G y) x=O (2,av):=by
 by_cases e:x=y
 .show (uB G y).elim (λi=>bh i λmw h' _=>Yq (aV (h'.symm.trans (e▸h))) λa1 _=>(ue Z a1).elim) λi=>i.1.symm▸h
 .show (IK e).symm▸h
theorem Ent.ug{J:cg}{h:aN}{G:ie}{W:List ab}{val:Nat->aa}{fp:Nat->List ab}{x:Nat}{P:List ab->Prop}(q:Ent J h G W val fp x k av)(cB:Am J h (NM x) v)(aO:bR h av v F)(p:P (fp x)):P F:=by rw[cB.uniq q.1]at aO;show bR.uniq aO q.2▸p
section
variable{H:List ab}{U:aN}{J:cg}{h:aN}{G:ie}{W:List ab}
set_option tactic.hygienic true in
theorem FR.share(r:FR H U D L J h G W)(y:Nat):∃W',FR H U D L J h (Lake.share G y) W'/\(∀b∈W',b∈W)/\
 ∀k av v F,cq G y=O (k,av)->Am J h (NM y) v->bR h av v F->∀b∈F,b∉W':=by
 show jh r.ents λval fp q=>?_;cases hy:cq G y with
 |none=>show kF W ?_ (λ_ D=>D) (λk av v F e=>Bq e);show(uB G y).elim (λi=>bh i λ_ h _=>Bq (hy.symm.trans h)) λi=>i.1.symm▸r
 |some p=>
  obtain⟨k,av⟩:=p;by_cases hk:k=1
  .subst hk;show mz (q y 1 av hy) λa1 a2 a3 a4=>((kF (abY W (fp y)) ?_ (λb D=>(iU.mp D).1) (λk' mw v F e cB aO b D hw=>?_)))
   .show ⟨r.b1,r.ext,r.scope,r.kind,r.glob,r.bi,iU.mpr ⟨r.loc,λhf=>dG r.ns λm n=>(((a3 Z).2 _ hf).2.MN n)⟩,r.ns,λx E=>?_,r.pS,λb D=>r.ji b (iU.mp D).1,val,fp,λx k' mw e=>?_⟩
    .obtain ⟨c,c1,⟨cv,c2⟩,c3,c4⟩:=r.cell x E;show wD c c1 ⟨cv,c2⟩ c3 ?_;rcases c4 with⟨av2,c4⟩|c4
     .show ao ⟨av2,abZ c4⟩
     .show aH (iU.mpr ⟨c4,λhf=>((a3 Z).2 _ hf).2.mM c2⟩)
    .show bh (Gp G y x e) λk'' e' WI=>mz (q x k'' mw e') λb1 b2 b3 b4=>⟨b1,b2,λh1=>?_,λh1 b D hw=>?_⟩
     .cases h1
      rcases WI with rfl|⟨_,_,h2⟩
      .have hxy:x≠y:=λh3=>by subst h3;show Rg G x e
       show⟨(b3 Z).1,λb D=>?_⟩;show qD ((b3 Z).2 b D) λp1 p2 p3=>(⟨iU.mpr ⟨p1,p3 y 1 av hy (λh3=>hxy h3.symm)⟩,p2,λz k3 Yv e3 hz=>?_⟩);show bh (Gp G y z e3) λk4 e4 _=>(p3 z k4 Yv e4 hz)
      .ext
     .show eX (iU.mp hw) λw1 w2=>?_;rcases WI with rfl|⟨h2,_,_⟩
      .show b4 h1 b D w1
      .subst h2;show w2 D
   .show Yq (aV e) λa1 a2=>?_;subst a1;subst a2;show(iU.mp hw).2 ((q y 1 av hy).ug (P:=λF=>b∈F->b∈fp y) cB aO id D)
  .show kF W ((uB G y).elim (λi=>bh i λ_ h _=>(hk (congrArg Prod.fst (aV (hy.symm.trans h)))).elim) λi=>i.1.symm▸r) (λ_ D=>D)<|λk' mw v F e cB aO b D hw=>Yq (aV e) λa1 a2=>?_;subst a1;subst a2;show(q y k av hy).shd hk b ((q y k av hy).ug (P:=λF=>b∈F->b∈fp y) cB aO id D) hw
def bW(G:ie)(x:Nat):Bool:=match cq G x with
 |some (2,_)=>af
 |_=>N
theorem zt{G:ie}{x:Nat}(h:bW G x=N):cq G x≠O (2,av):=λe=>by unfold bW at h;have h:=e▸h;ext
theorem FR.stored{x:Nat}(r:FR H U D L J h G W)(hs:gv a h h')(ha:a∈W)(hm:Cx h' a)(IL:¬LS h a)(wL:∃m,h'.Ns J.locals m)(OA:∀c w,a=c->h.IsCell c w->∃w',h'.IsCell c w')(ajT:∀y w,y≠x->Am J h (NM y) w->Am J h' (NM y) w)(E:Am J h' (NM x) v)(aO:bR h av v F)(hWW:∀b∈W,b∈W')(CH:∀b∈W',b∈W\/(b∈F/\k=1))(dH:bW G x=N)(hk:k=1->F.Nodup/\∀b∈F,b∈W'/\LS h b/\D.get? b=ai/\∀y k' mw v' F',y≠x->cq G y=O (k',mw)->Am J h (NM y) v'->bR h mw v' F'->b∉F')(hk0:k=0->∀b∈F,b∉W')(afb:k=0\/k=1):FR H U D L J h' (jl G x k av) W':=by
 have ht:=(r.ji a ha).2.1;have hma:∃o,h'.get? a=O o:=bh hm λo e _=>⟨o,e⟩;have M:Mod [a] h h':=nX hs hma au ht;have hmm:∀b∈[a],Cx h b:=λb D=>by show bJ.mp D▸?_;show(r.ji _ ha).2.2
 have LSk:∀b,LS h b->LS h' b:=λb l=>by
  show if Og:b=a then ?_ else jh l λvs n e=>qA vs n ((hs.2 b Og).trans e)
  cases Og;show(IL l).elim
 show jh r.ents λval fp q=>?_
 -- a is in no Yw of ajE name,nor of the new value
 have aF:a∉F:=λhf=>bf afb (λh0=>hk0 h0 a hf (hWW a ha)) λh1=>IL ((hk h1).2 a hf).2.1;have afp:=λy k' mw e hf=>by show mz (q y k' mw e) λb1 b2 b3 b4=>if h1:k'=1 then IL ((b3 h1).2 a hf).2 else b4 h1 a hf ha
 show⟨r.b1,Ds hs (r.ji a ha).1 hma r.ext ht,r.scope,r.kind,r.glob,r.bi,hWW _ r.loc,wL,λy hy=>?_,r.pS,λb hb'=>?_,λy=>if y=x then v else val y,λy=>if y=x then F else fp y,λy k' mw e=>?_⟩
 .show lY (r.cell y hy) λc c1 i1 c3 c4=>dG i1 λcv c2=>wD c c1 (if hca:a=c then OA c cv hca c2 else bh c2 λo e d=>kH cv o ((hs.2 c (λe'=>hca e'.symm)).trans e) d) c3 ?_;rcases c4 with⟨av2,c4⟩|c4
  .show ao ⟨av2,?_⟩;rw[fH];show if hyx:y=x then ?_ else(if_neg hyx).symm▸c4
   cases hyx;show((zt dH) c4).elim
  .show aH (hWW c c4)
 .rcases CH b hb' with hb' |⟨hb',h1⟩
  .show hb (r.ji b hb') λp1 p2 p3=>gQ p1 p2 (Cx.same hs hm p3)
  .show eX (hk h1) λ_ p=>iL (p b hb') λ_ p2 p3 _=>gQ p3 ((aO.kinds b hb').1) (jh (LSk b p2) λvs n e=>ct _ e (ao ⟨rfl,_,_,rfl⟩))
 .rw [fH]at e;rcases yI (y=x) with hyx|hyx
  .cases hyx
   replace e:=(if_pos Z)▸e;cases e
   show .of (if_pos Z) (if_pos Z) E (aO.mod M hmm _ _ _ λb hb'=>sI λe'=>aF (e'▸hb')) (λh1=>(hk h1).1) (λh1 b hb'=>?_) (λh1 b hb'=>bf afb (λh0=>hk0 h0 b hb') λh0=>(h1 h0).elim);show iL ((hk h1).2 b hb') λp1 p2 p3 p4=>(⟨p1,LSk b p2,λz k3 Yv e3 hz=>?_⟩);rw[fH,if_neg hz]at e3;rw[if_neg hz];show p4 z k3 Yv _ _ hz e3 (q z k3 Yv e3).1 (q z k3 Yv e3).2
  .have e:=(if_neg hyx).symm.trans e;show mz (q y k' mw e) λb1 b2 b3 b4=>(.of (if_neg hyx) (if_neg hyx) (ajT y _ hyx b1) (b2.mod M hmm _ _ _ λb hb'=>sI λe'=>afp y k' mw e (e'▸hb')) (λh1=>(b3 h1).1) (λh1 b hb'=>?_) (λh1 b hb' hw=>?_))
   .show qD ((b3 h1).2 b hb') λp1 p2 p3=>(⟨hWW b p1,LSk b p2,λz k3 Yv e3 hz=>?_⟩);rw[fH]at e3;by_cases hzx:z=x
    .rw [if_pos hzx];intro hbF;show bf afb (λh0=>hk0 h0 b hbF (hWW b p1)) λh0=>((hk h0).2 b hbF).2.2.2 y k' mw _ _ hyx e b1 b2 hb'
    .rw [if_neg hzx]at e3;rw[if_neg hzx];show p3 z k3 Yv e3 hz
   .rcases CH b hw with hw|⟨hw,h0⟩
    .show b4 h1 b hb' hw
    .show ((hk h0).2 b hw).2.2.2 y k' mw _ _ hyx e b1 b2 hb'
end
structure mA(W:List ab)(s Y:ae):Prop where
 mod:Mod W s.heap Y.heap
 os:Y.os=s.os
 drawn:Y.drawn=s.drawn
 gens:Y.gens=s.gens
theorem mA.refl(W:List ab)(s:ae):mA W s s:=⟨.refl _ _,rfl,rfl,eV _⟩
theorem dz.smod(W:List ab)(x:dz H s Y):mA W s Y:=⟨x.ext.mod W,x.os,x.drawn,x.gens⟩
theorem mA.trans{a b c:ae}(x:mA W a b)(y:mA W' b c)(hw:∀d,d∈W'->d∈W\/a.heap.get? d=ai):mA W a c:=
 ⟨x.mod.trans y.mod hw,y.os.trans x.os,y.drawn.trans x.drawn,y.gens.trans x.gens⟩
theorem dz.sm{a b c:ae}(e:dz H a b)(m:mA W b c):mA W a c:=(e.smod W).trans m λ_ h=>ao h
theorem dz.mm{a b:ae}(e:dz H a b)(m:Mod W b.heap h'):mA W a {b with heap:=h'}:=e.sm ⟨m,rfl,rfl,eV _⟩
theorem Mod.new(x:Mod W h h'){b:ab}(e:h'.get? b=ai):h.get? b=ai:=by
 cases q:h.get? b with
 |none=>rfl
 |some o=>show dG (x.there b o q) λo' e'=>?_;have e':=e.symm.trans e';ext
theorem Ns.mM{v:Option aa}(n:h.Ns a m)(c:h.IsCell a v):False:=by show tD n λo es ep a1 a2 _=>(bh c λo' b1 b2=>?_);replace b1:=a1▸b1;obtain rfl:=aV b1;have b2:=a2▸b2;ext
structure rO(D:aN)(J:cg)(h:aN)(G:ie)(W W':List ab)(x k:Nat)(F:List ab):Prop where
 sub:∀b∈W,b∈W'
 sup:∀b∈W',b∈W\/(b∈F/\k=1)
 own:k=1->F.Nodup/\∀b∈F,b∈W'/\LS h b/\D.get? b=ai/\∀y k' mw v' F',y≠x->cq G y=O (k',mw)->Am J h (NM y) v'->bR h mw v' F'->b∉F'
 shared:k=0->∀b∈F,b∉W'
 kind:k=0\/k=1
theorem j9(r:FR H U D L J s.heap G W)(E:Hx L x)(dH:bW G x=N)(aO:bR s.heap av v F)(gz:rO D J s.heap G W W' x k F):
 T A (Aw J (NM x) v) s (λ_ Y=>FR H U D L J Y.heap (jl G x k av) W'/\mA W s Y):=by
 have zu:J.scope.kind=d0:=by rw[r.scope];show r.kind
 show dG r.ns λm n=>?_;rcases E with hl|hl
 .have ρ:J.kindOf (NM x)=O cZ:=by delta j7;rw[r.scope];show hl
  show sy ρ n (λh' wx zQ=>?_) (by show zu.symm▸?_;rfl);show⟨r.stored zQ r.loc (MO wx) (λl=>l.MN n) ⟨_,wx⟩ (λc cv e hc=>?_) (λy u hy cB=>?_) (ao ⟨ρ,_,wx,if_pos Z⟩) aO gz.sub gz.sup dH gz.own gz.shared gz.kind,
   ⟨nX zQ (bh (MO wx) λo e _=>⟨o,e⟩) r.loc (r.ji _ r.loc).2.1,rfl,rfl,eV _⟩⟩
  .subst e;show((λhc=>Ns.mM n hc) hc).elim
  .rcases cB with⟨k1,m1,n1,e1⟩|⟨k1,c,e1,e2,o,e3,e4⟩
   .show ao ⟨k1,_,wx,?_⟩;rw[if_neg (λe=>hy (CB e)),Heap.Ns.agree n n1];show e1
   .show aH ⟨k1,c,e1,e2,o,(zQ.2 c (λe=>?_)).trans e3,e4⟩;subst e;show Ns.mM n (ct o e3 e4)
 .have ρ:J.kindOf (NM x)=O dw:=by delta j7;rw[r.scope];show hl
  show og λgG kG=>lY (r.cell x hl) λc c1 i1 c3 c4=>dG i1 λcv c2=>kG ?_;clear kG gG;have hcW:c∈W:=by
   rcases c4 with⟨av2,c4⟩|c4
   .show ((zt dH) c4).elim
   .show c4
  have hlc:J.locals≠c:=λe=>by subst e;show Ns.mM n c2
  show wpAny_storeName_cell zu ρ c1 c2 λh' hc' zQ=>⟨r.stored zQ hcW (Gn hc') (λl=>l.mM c2) ⟨m,n.sameBut zQ hlc⟩ (λc' cv' e hc2=>?_) (λy u hy cB=>?_) (aH ⟨ao ρ,c,c1,c3,hc'⟩) aO gz.sub gz.sup dH gz.own gz.shared gz.kind,
   ⟨nX zQ (bh (Gn hc') λo e _=>⟨o,e⟩) hcW c3,rfl,rfl,eV _⟩⟩
  .subst e;show DU _ hc'
  .rcases cB with⟨k1,m1,n1,e1⟩|⟨k1,c',e1,e2,o,e3,e4⟩
   .show ao ⟨k1,m1,n1.sameBut zQ hlc,e1⟩
   .show aH ⟨k1,c',e1,e2,o,(zQ.2 c' (λe=>?_)).trans e3,e4⟩;subst e;show hy (r.pS x y c' hl c1 e1)
theorem rO.flat(hF:F=[]):rO D J h G W W x 0 F:=
 ⟨λ_ D=>D,λ_ D=>ao D,(λe=>nnZ e),(λ_ b D=>by subst hF;ext),ao Z⟩
theorem rO.fresh{OB:aN}{z:Nat}(hn:∀b∈F,OB.get? b=ai)(hd:F.Nodup)(hl:∀b∈F,LS h b)(r:FR H U D L J OB G W)(x:hx H OB h):rO D J h G W (W++F) z 1 F where
 sub:=λb D=>by lia
 sup:=λb D=>bf (b9.mp D) (λD=>ao D) λD=>aH ⟨D,rfl⟩
 own:=λ_=>⟨hd,λb D=>⟨by lia,hl b D,r.ext.new (hn b D),λy k' mw v' F' _ e cB aO hb'=>by show jh r.ents λval fp q=>(mz (q y k' mw e) λa1 a2 _ _=>?_);rw[cB.uniq (a1.ext x (r.ji _ r.loc).2.1)]at aO;rw[bR.uniq aO (a2.ext x)]at hb';show iM (a2.kinds b hb') λ_ o e1 _=>?_;have e1:=(hn b D).symm.trans e1;ext⟩⟩
 shared:=λe=>nn0 e
 kind:=aH Z
theorem rO.alias(hF:∀b∈F,b∉W):rO D J h G W W x 0 F:=
 ⟨λ_ D=>D,λ_ D=>ao D,(λe=>nnZ e),λ_ b D=>hF b D,ao Z⟩
theorem rO.again(r:FR H U D L J h G W)(E:cq G x=O (1,av))(cB:Am J h (NM x) v)(aO:bR h av v F):rO D J h G W W x 1 F where
 sub:=λ_ D=>D
 sup:=λ_ D=>ao D
 own:=λ_=>by show jh r.ents λval fp q=>?_;have qx:=q x 1 av E;apply qx.ug cB aO;show⟨(qx.own Z).1,λb D=>qD ((qx.own Z).2 b D) λp1 p2 p3=>(rN p1 p2 ((r.ji b p1).1) (λy k' mw v' F' hyx e H' V' hb'=>?_))⟩;show p3 y k' mw e hyx ((q y k' mw e).ug (P:=λF=>b∈F->b∈fp y) H' V' id hb')
 shared:=λe=>nn0 e
 kind:=aH Z
def BD(H:List ab)(U D:aN)(L:c9)(J:cg)(W:List ab)(s:ae)(G':ie)(ret:Option AV)(f:b8)(Y:ae):Prop:=mA W s Y/\match ret with
 |none=>f=cJ/\∃W',FR H U D L J Y.heap G' W'/\∀d,d∈W'->d∈W\/s.heap.get? d=ai
 |some av=>hx H D Y.heap/\∃v F,f=cL v/\bR Y.heap av v F
theorem tO(m:mA W s Y)(r:FR H U D L J Y.heap G' W):BD H U D L J W s G' ai cJ Y:=⟨m,rfl,W,r,λ_ h=>ao h⟩
theorem BD.behind{aQ:ae}{W1:List ab}{ret:Option AV}{f:b8}(m1:mA W s aD)(hw1:∀d,d∈W1->d∈W\/s.heap.get? d=ai)(q:BD H U D L J W1 aD G' ret f aQ):BD H U D L J W s G' ret f aQ:=by
 show eX q λm2 q=>(⟨m1.trans m2 hw1,?_⟩);cases ret with
 |none=>show iM q λq1 W2 r2 hw2=>(⟨q1,W2,r2,λd hd=>?_⟩);show bf (hw2 d hd) (λhd=>hw1 d hd) λhd=>aH (m1.mod.new hd)
 |some av=>show q
def SS(H:List ab)(U:aN)(A:ck)(L:c9)(J:cg)(ss:List bT)(G G':ie)(ret:Option AV):Prop:=
 ∀⦃D:aN⦄ ⦃s:ae⦄ ⦃W:List ab⦄,FR H U D L J s.heap G W->T A (aU ss J) s (BD H U D L J W s G' ret)
def S1(H:List ab)(U:aN)(A:ck)(L:c9)(J:cg)(st:bT)(G G':ie)(ret:Option AV):Prop:=
 ∀⦃D:aN⦄ ⦃s:ae⦄ ⦃W:List ab⦄,FR H U D L J s.heap G W->T A (mU st J) s (BD H U D L J W s G' ret)
theorem T.wpN{t:aE b8}{Q:b8->ae->Prop}(h:T A t s (BD H U D L J W aJ G' ai))(k:∀aD W1,mA W aJ aD->FR H U D L J aD.heap G' W1->(∀d,d∈W1->d∈W\/aJ.heap.get? d=ai)->Q cJ aD):ax (aG prog w) A t Q a6 s:=h.wp λ_ aD qQ=>oT qQ λm hf W1 r hw=>hf▸k aD W1 m r hw
theorem SS.nil:SS H U A L J [] G G ai:=λD s W r=>Kd ⟨.refl _ _,rfl,W,r,λd hd=>ao hd⟩
theorem SS.cons{G1 G2:ie}{ret:Option AV}(h1:S1 H U A L J st G G1 ai)(h2:SS H U A L J ss G1 G2 ret):SS H U A L J (st::ss) G G2 ret:=λD s W r=>uR<|(h1 r).wpN λaD W1 m1 r1 hw1=>(h2 r1).mono λf2 aQ q=>q.behind m1 hw1
theorem tP{G1:ie}(h1:S1 H U A L J st G G1 (O av)):SS H U A L J (st::ss) G G1 (O av):=λD s W r=>uR<|(h1 r).wp λf aD oj=>yK oj λm1 x v F hf aO=>hf▸⟨m1,x,v,F,rfl,aO⟩
protected theorem S1.ret(h:V H U A L J G e av af):S1 H U A L J (yt (O e) pos) G G' (O av):=λD s W r=>
 xH ((h r.er).tM λv aD F e1 aO _=>⟨e1.smod W,r.ext.trans e1.ext,v,F,rfl,aO⟩)
theorem S1.ite{c:aw}{a b:List bT}{x:Bool}{ret:Option AV}(hc:oY H U A L J G c x)(ha:x=N->SS H U A L J a G G' ret)(D:x=af->SS H U A L J b G G' ret):S1 H U A L J (A6 c a b pos) G G' ret:=λhb' s W r=>by
 show wpAny_If ((hc r.er).CA λv aD e1 hv=>?_);subst hv;cases v with
 |true=>show(ha Z (r.grow e1.ext)).wp λf aQ q=>q.behind (e1.smod W) λd hd=>ao hd
 |false=>show(D Z (r.grow e1.ext)).wp λf aQ q=>q.behind (e1.smod W) λd hd=>ao hd
theorem bE(x:Nat)(av:AV)(h:V H U A L J G e av af)(hf:flat av=N)(dH:bW G x=N)(E:Hx L x)(hs:fu e (O (ar (NM x) p)) pos.line J=pure af):
 S1 H U A L J (fE [ar (NM x) p] e pos) G (jl G x 0 av) ai:=λD s W r=>by
 show xI ((h r.er).tM λv aD F e1 aO _=>?_) hs;show(j9 (r.grow e1.ext) E dH aO (.flat (cV.1 _ _ _ hf aO))).CA λ_ aQ r2 m2=>tO (e1.sm m2) r2
mutual
noncomputable def wa:AV->Bool
 |tI|fG _|a9 _|aX _=>N
 |Bu _ x=>wa x
 |bV K=>CI K
 |gr K=>CI K
 |tJ ..=>af
noncomputable def CI:List AV->Bool
 | []=>N
 |x::K=>wa x && CI K
end
theorem Yx:(∀(av:AV) (v:aa) (F:List ab),wa av=N->bR h av v F->∀b∈F,LS h b)/\∀(K:List AV) (vs:List aa) (F:List ab),CI K=N->bD h K vs F->∀b∈F,LS h b:=by
 have fl:∀{p q:Prop} {F:List ab},q->p/\F=[]->∀b∈F,LS h b:=λ_ r b D=>kI (r.2▸D);show Bv (λ_ _=>fl) (λ_ _ _=>fl) (λ_ _ _=>fl) (λ_ _ _=>fl) (λu x ih v F hc r=>ih v F hc r.2) (λK ih v F hc r b D=>?_) (λK ih v F hc r b D=>gH r λa vs n e1 _ e3 e4=>ih vs F hc e4 b D) (λf ns K ih v F hc=>IE hc) (λ_ _=>fl) (λx K i1 i2 vs F hc r b D=>?_)
 .show fO r λa vs n G e1 e2 e3 e4 dX=>?_;subst dX;show zM D (qA vs n e3) λD=>ih vs G hc e4 b D
 .show gu r λv tK F1 F2 e1 e2 e3 dX=>?_;subst dX;have hc:(wa x && CI K)=N:=hc;show(b9.mp D).elim (i1 v F1 (fL.mp hc).1 e2 b) (i2 tK F2 (fL.mp hc).2 e3 b)
theorem Gq(hc:wa av=N)(r:bR h av v F):∀b∈F,LS h b:=Yx.1 av v F hc r
theorem gb(x:Nat)(av:AV)(he:V H U A L J G e av N)(hf:wa av=N)(dH:bW G x=N)(E:Hx L x)(hs:fu e (O (ar (NM x) p)) pos.line J=pure af):
 S1 H U A L J (fE [ar (NM x) p] e pos) G (jl G x 1 av) ai:=λD s W r=>by
 show xI ((he r.er).wp4 λv aD F e1 aO q=>?_) hs;show eX (q Z) λq1 q2=>(j9 (r.grow e1.ext) E dH aO (.fresh q1 q2 (Gq hf aO) r e1.ext)).CA λ_ aQ r2 m2=>⟨(e1.smod W).trans m2 (λd hd=>ao hd),rfl,W++F,r2,λd hd=>by
  rcases b9.mp hd with hd|hd
  .show ao hd
  .show aH (q1 d hd)⟩
theorem zR(r:ER H U L J s.heap G)(E:cq G x=O (k,av)):
 T A (aZ (ar (NM x) pos) J) s (λv Y=>Y=s/\∃F,Am J s.heap (NM x) v/\bR s.heap av v F):=by
 show eQ (r.has x k av E) λv F cB aO=>(qY ?_ (wG x));have H':=cB;show bf cB (λi0=>iM i0 λhl m n e=>xD r.kind hl n e ⟨rfl,F,H',aO⟩) λi0=>oU i0 λhl c hc _ hv=>?_;rcases hl with hl|hl
 .show J5 r.kind hl hc hv ⟨rfl,F,H',aO⟩
 .show J6 r.kind hl hc hv ⟨rfl,F,H',aO⟩ (vD x)
theorem WJ(r:ER H U L J s.heap G)(E:cq G x=O (k,av)):
 T A (loadName J (NM x)) s (λv Y=>Y=s/\∃F,Am J s.heap (NM x) v/\bR s.heap av v F):=by
 show eQ (r.has x k av E) λv F cB aO=>have H':=cB;bf cB (λi0=>iM i0 λhl m n e=>?_) λi0=>oU i0 λhl c hc _ hv=>?_
 .show xD r.kind hl n e ⟨rfl,F,H',aO⟩
 .rcases hl with hl|hl
  .show J5 r.kind hl hc hv ⟨rfl,F,H',aO⟩
  .show J6 r.kind hl hc hv ⟨rfl,F,H',aO⟩ (vD x)
theorem yL(x y:Nat){p':aY}(hy:cq G y=O (k,av))(dH:bW (share G y) x=N)(E:Hx L x)(hs:fu (ar (NM y) p') (O (ar (NM x) p)) pos.line J=pure af):
 S1 H U A L J (fE [ar (NM x) p] (ar (NM y) p') pos) G (jl (share G y) x 0 av) ai:=λD s W r=>by
 show xI ((zR r.er hy).η λv F cB aO=>?_) hs;show gC (r.share y) λW' r' hw hF=>((j9 r' E dH aO (.alias (hF k av v F hy cB aO))).CA λ_ aQ r2 m2=>⟨(mA.refl W s).trans m2 (λd hd=>ao (hw d hd)),rfl,W',r2,λd hd=>ao (hw d hd)⟩)
theorem OC{op:BOp}{x y z:Int}{t u:aW}(h:wH op x y=O z)(hop:op= .add\/op= .sub\/op= .xor):
 T A (Kz op.ast (ah x t) (ah y u)) s (λv Y=>dz H s Y/\∃t',v=ah z t'):=by
 have ze:∀{z':Int},z'=z->(dz H s {s with toks:=s.toks+1}/\∃t',ah z' s.toks=ah z t'):=λe=>⟨.toks s _,s.toks,by rw[e]⟩;rcases hop with rfl|rfl|rfl
 .show iadd_int (ze (aV h))
 .show isub_int (ze (aV h))
 .cases x with
  |ofNat x=>cases y with|ofNat y=>show ixor_int (ze ((Gj x y).trans (aV h)))|negSucc y=>ext
  |negSucc x=>ext
theorem CJ(x:Nat)(i j z:Int)(op:BOp)(hy:cq G x=O (k,a9 i))(he:V H U A L J G e (a9 j) af)(h:wH op i j=O z)(hop:op= .add\/op= .sub\/op= .xor)(dH:bW G x=N)(E:Hx L x):
 S1 H U A L J (Fe (ar (NM x) p) op.ast e pos) G (jl G x 0 (a9 z)) ai:=λD s W r=>by
 show TJ ((WJ r.er hy).wp4 λv aD F e1 cB aO=>?_);subst e1;show(he r.er).wp4 λu aQ F2 e2 V2 _=>?_;apply bR.zN aO;intro t;show dG V2.toInt λt' dX=>dX▸(OC (H:=H) h hop).wp3 λv de t3 e3 hv=>?_;subst hv;have e23:=e2.trans e3;show(j9 (r.grow e23.ext) E dH (.ofInt z t3) (.flat Z)).CA λ_ fq r2 m2=>tO (e23.sm m2) r2
theorem FR.ahd{mw:AV}{ws:List aa}(r:FR H U D L J h G W)(E:cq G x=O (1,av))(cB:Am J h (NM x) v)(V0:bR h av v F)(haF:a∈F)(hs:gv a h h')(Z7:h'.get? a=O (br ws n))(aO:bR h' mw v F):FR H U D L J h' (jl G x 1 mw) W/\Mod W h h':=by
 show jh r.ents λval fp q=>(mz (q x 1 _ E) λa1 a2 a3 _=>?_);have hv:=cB.uniq a1;subst hv;have An:=bR.uniq V0 a2;subst An;show qD ((a3 Z).2 a haF) λhaW IL ajU=>?_;have ht:=(r.ji a haW).2.1;have hma:∃o,h'.get? a=O o:=⟨_,Z7⟩;have aev:∀{m},h.Ns J.locals m->h'.Ns J.locals m:=λn=>n.sameBut hs (λe=>by rw[e]at n;show IL.MN n);have aew:∀{c v},h.IsCell c v->h'.IsCell c v:=λ{c v} ic=>bh ic λo e d=>ct o ((hs.2 c (λe'=>by subst e';show IL.mM ⟨o,e,d⟩)).trans e) d;have aex:∀{y u},Am J h (NM y) u->Am J h' (NM y) u:=λHy=>Hy.imp (λq=>⟨q.1,q.2.imp λm q=>⟨aev q.1,q.2⟩⟩) λq=>⟨q.1,q.2.imp λc q=>(gQ q.1 q.2.1 (aew q.2.2))⟩;have LSk:∀b,LS h b->LS h' b:=λb l=>if Og:b=a then Og▸qA _ _ Z7 else jh l λvs n e=>qA vs n ((hs.2 b Og).trans e)
 show⟨⟨r.b1,Ds hs (r.ji a haW).1 hma r.ext ht,r.scope,r.kind,r.glob,r.bi,r.loc,r.ns.imp λ_ n=>aev n,λy hy=>?_,r.pS,λb hb'=>hb (r.ji b hb') λp1 p2 p3=>gQ p1 p2 (Cx.same hs (⟨_,Z7,ao ⟨rfl,_,_,rfl⟩⟩) p3),val,fp,λy k' mw e=>?_⟩,(nX hs hma haW ht)⟩
 .show lY (r.cell y hy) λc c1 c2 c3 c4=>wD c c1 (c2.imp λ_ q=>aew q) c3 (c4.imp (λq=>q.imp λav2 c4=>?_) id);rw[fH,if_neg λhyx=>by have c4:=E▸hyx▸c4;cases c4];show c4
 .rw [fH]at e;by_cases hyx:y=x
  .cases hyx
   replace e:=(if_pos Z)▸e;show Yq (aV e) λa1 a2=>?_;subst a1;subst a2;show⟨aex a1,aO,λ_=>⟨(a3 Z).1,λb hb'=>?_⟩,λh1=>absurd Z h1⟩;show qD ((a3 Z).2 b hb') λp1 p2 p3=>(⟨p1,LSk b p2,λz k3 Yv e3 hz=>?_⟩);rw[fH,if_neg hz]at e3;show p3 z k3 Yv e3 hz
  .replace e:=(if_neg hyx)▸e;show mz (q y k' mw e) λb1 b2 b3 b4=>(⟨aex b1,b2.mod (nX hs hma au ht) (λb D=>jS D (r.ji _ haW).2.2) _ _ _ (λb hb'=>sI λe'=>ajU y k' mw e hyx (e'▸hb')),λh1=>⟨(b3 h1).1,λb hb'=>?_⟩,b4⟩);show qD ((b3 h1).2 b hb') λp1 p2 p3=>(⟨p1,LSk b p2,λz k3 Yv e3 hz=>?_⟩);rw[fH]at e3;by_cases hzx:z=x
   .subst hzx;show p3 z 1 _ E hz
   .rw [if_neg hzx]at e3;show p3 z k3 Yv e3 hz
theorem FR.upd{ws:List aa}(r:FR H U D L J h G W)(E:cq G x=O (1,bV K))(hf:iT K=N)(cB:Am J h (NM x) (R a))(hs:gv a h h')(Z7:h'.get? a=O (br ws n))(aO:bD h ys ws []):FR H U D L J h' (jl G x 1 (bV ys)) W/\Mod W h h':=by show jh r.ents λval fp q=>mz (q x 1 _ E) λa1 a2 a3 _=>have a2:=(cB.uniq a1).symm▸a2;iP a2 λb vs m F' e1 ht _ e4 e5=>?_;obtain rfl:=j6 e1;have e5:=(cV.2 _ _ _ hf e4)▸e5;have ha:=e5▸cQ ..;show r.ahd E cB a2 ha hs Z7 (e5▸rY [] ht Z7 (aO.mod (nX hs ⟨_,Z7⟩ (bJ.mpr Z) ht) (λb D=>jS D (r.ji _ ((a3 Z).2 a ha).1).2.2) _ _ _ zo))
theorem l0(h:cG e=af)(pos:aY):jH pos (iX [e] J)=[(af,aZ e J)]:=by rw[dp h];rfl
theorem Jo{x:aP}{nm:aP}:uT (ar x p) nm J (aZ (ar x p) J)=aZ (ar x p) J:=rfl
theorem S1.app{apos cpos:aY}(E:cq G x=O (1,bV K))(hf:iT K=N)(he:V H U A L J G e av af)(hfa:flat av=N)(dH:cG e=af)(lz:(apos.endLine==cpos.line)=N)(hl:dY K.length 1000000=N)(hi:iG J=af):
 S1 H U A L J (vh (bI (iI (ar (NM x) p) (aC "append") apos) [e] [] cpos) pos) G (jl G x 1 (bV (K++[av]))) ai:=λD s W r=>by
 show wpAny_Expr_any ?_ hi Z;show TV Jo (by rw[l0 dH];rfl) lz VJ PySem.F.slot_list_append PySem.F.type_list_append<|(zR r.er E).wp λv aD oj=>iM oj λe1 F cB aO=>?_;subst e1;show iP aO λa vs n F' dX _ a3 a4 _=>?_;subst dX;show gQ (Q7.typeIs a3) (λb hb'=>by obtain rfl:=j6 hb';show⟨_,a3,rfl⟩) ?_;rw[l0 dH];show P.append_list<|(he r.er).wp λu aQ oj=>iM oj λe2 F2 V2 _=>have a3':=(r.grow e2.ext);have g3:=e2.ext.keep a _ (by assumption) a3;have l1:=bD.length a4;have hl:=dO hl;Ot vs.toArray n (by have:fc=16777216:=rfl;simp;lia) g3 ?_;have hF2:=cV.1 _ _ _ hfa V2;subst hF2;have hF':=cV.2 _ _ _ hf a4;subst hF';have up:(aQ.heap.update a (dP λK=>K.push u)).get? a=O (br (vs++[u]) (n+1)):=by rw[gN _ g3 (rfl)];simp[br,dP]
 show eX ((r.grow e2.ext).upd E hf (cB.ext e2.ext (r.ji _ r.loc).2.1) (j5 ..) up
  (by have:=bD.append (a4.ext e2.ext) (show bD aQ.heap [av] [u] [] by show eg [] [] V2 .nil);show this)) λr2 m2=>tO (e2.mm m2) r2
theorem bD.set:∀{vs:List aa} {F:List ab} (i:Nat) {x:AV} {v:aa},iT K=N->bD h K vs F->bR h x v []->bD h (K.set i x) (vs.set i v) []:=by
 induction K with
 |nil=>intro vs F i x v _ r _;apply vA r;show λ_=>.nil
 |cons y ys iH=>
  intro vs F i x v hf r q;have hf:=fL.mp hf;show gu r λu us F1 F2 dX e2 e3 _=>(dX▸?_);have n1:=cV.1 _ _ _ hf.1 e2;have n2:=cV.2 _ _ _ hf.2 e3;subst n1 n2;cases i with
  |zero=>show eg [] [] q e3
  |succ i=>show eg [] [] e2 (iH i hf.2 e3 q)
theorem bD.eraseIdx:∀{vs:List aa} {F:List ab} (i:Nat),iT K=N->bD h K vs F->bD h (K.eraseIdx i) (vs.eraseIdx i) []:=by
 induction K with
 |nil=>intro vs F i _ r;apply vA r;show λ_=>.nil
 |cons y ys iH=>
  intro vs F i hf r;have hf:=fL.mp hf;show gu r λu us F1 F2 dX e2 e3 _=>(dX▸?_);have n1:=cV.1 _ _ _ hf.1 e2;have n2:=cV.2 _ _ _ hf.2 e3;subst n1 n2;cases i with
  |zero=>show e3
  |succ i=>show eg [] [] e2 (iH i hf.2 e3)
theorem qW{l:ab}{k:Int}{t:aW}{Q:Unit->ae->Prop}(ho:s.heap.get? l=O {cls:=ak "list",dict:=ai,data:=bU items n,slots:=#[]})(h0:0<=k)(ahe:k<2 ^ 63)(hn:k<items.size)(hQ:Q () {s with heap:=s.heap.update l (dP (·.setIfInBounds k.toNat v))}):
 ax (aG prog w) A (AE (R l) (ah k t) v) Q a6 s:=by
 have hl:s.heap.IsList l items:=⟨_,ho,rfl,n,rfl⟩
 delta AE
 try with_reducible show cO ?_
 first|show ?_|skip
 show ag<|xJ hl.typeIs (rfl)<|ag (kS hl.typeIs TX
  (jU TX hl.typeIs entry_list_setitem ?_ (args_list_setitem _ _ _)))
 show(?_:ax _ _ (aby (ah k t)>>=_) _ _ s);show ag (wpAny_listSubscript_int (fitsIndex_of h0 ahe) ?_);clear ahe;obtain⟨j,rfl⟩:=Int.eq_ofNat_of_zero_le h0;show ag<|ag<|wpAny_seqItemAt ho Z<|aB<|(yy au).symm▸ag (wpAny_setSeqItemAt ho Z ?_);first
  |show aB ⟨aA,rfl,aB hQ⟩
  |show aB ⟨.none,rfl,aB hQ⟩
theorem ς(g3:h.get? a=O (br vs n)):(h.update a (dP λK=>K.setIfInBounds j v)).get? a=O (br (vs.set j v) n):=by rw[gN _ g3 (rfl)];simp[br,dP]
theorem ab0{i:aw}{p':aY}(E:cq G x=O (1,bV K))(hf:iT K=N)(he:V H U A L J G e av af)(hfa:flat av=N)(hi:V H U A L J G i (a9 (aj j)) af)(hj:jK j K.length=N)(hl:dY K.length 1000000=N)(hs:fu e (O (dk (ar (NM x) p) i p')) pos.line J=pure af):
 S1 H U A L J (fE [dk (ar (NM x) p) i p'] e pos) G (jl G x 1 (bV (K.set j av))) ai:=λD s W r=>by
 show J0 ((he r.er).tM λu aD F1 e1 V1 _=>(zR (r.grow e1.ext).er E).η λv F2 cB V2=>?_) hs;show(hi (r.grow e1.ext).er).wp λiv de oj=>iM oj λe3 F3 V3 _=>dG V3.toInt λt dX=>dX▸iP V2 λa vs n F' qC ht a3 a4 _=>?_;subst qC;have g3:=e3.ext.keep a _ ht a3;have l1:=bD.length a4;have hl:=dO hl;have hj:j<K.length:=dO hj;have hF1:=cV.1 _ _ _ hfa V1;subst hF1;have τ:=e1.trans e3;show qW g3 fF au jP<|eX ((r.grow τ.ext).upd E hf (cB.ext e3.ext (r.ji _ r.loc).2.1) (j5 ..) (ς g3)
  (bD.set j hf (a4.ext e3.ext) (V1.ext e3.ext))) λr2 m2=>tO (τ.mm m2) r2
theorem ab1{i:aw}{p' apos cpos:aY}(E:cq G x=O (1,bV K))(hf:iT K=N)(hi:V H U A L J G i (a9 (aj j)) af)(hj:K[j]? =O av)(hl:dY K.length 1000000=N)(qE:y≠x)(dH:cG i=af)(lz:(apos.endLine==cpos.line)=N)(hsy:bW G y=N)(hy:Hx L y):
 S1 H U A L J (fE [ar (NM y) p'] (bI (iI (ar (NM x) p) (aC "pop") apos) [i] [] cpos) pos) G (jl (jl G x 1 (bV (K.eraseIdx j))) y 0 av) ai:=λD s W r=>by
 show xI ?_ Z;show TV Jo (by rw[l0 dH];rfl) lz VJ PySem.F.slot_list_pop PySem.F.type_list_pop<|(zR r.er E).η λv F cB aO=>iP aO λa vs n F' dX ht a3 a4 _=>?_;subst dX;show gQ (Q7.typeIs a3) (λb hb'=>by obtain rfl:=j6 hb';show⟨_,a3,rfl⟩) ?_;rw[l0 dH];show P.pop_at_list<|(hi r.er).tM λu aQ F2 e2 V2 _=>dG V2.toInt λt qC=>have g3:=e2.ext.keep a _ ht a3;have l1:=bD.length a4;have hl:=dO hl;have hjl:=(dR.mp hj).1;jx (bD.get (a4.ext e2.ext) hj) λyv Fy y1 y2 _=>(qC▸?_);have hjv:j<vs.length:=by lia
 show⟨vs.toArray,n,aj j,t,j,yv,by have:fc=16777216:=rfl;simp;lia,rfl,g3,fitsIndex_of fF au,CD hjv,by simpa using y1,?_⟩;have up:(aQ.heap.update a (dP λK=>K.eraseIdxIfInBounds j)).get? a=O (br (vs.eraseIdx j) (n+1)):=by
  rw[gN _ g3 (rfl)];have hsz:((vs.eraseIdx j).length==vs.length)=af:=by rw[Up];simp[hjv];lia
  simp[br,dP,hsz]
 show eX ((r.grow e2.ext).upd E hf (cB.ext e2.ext (r.ji _ r.loc).2.1) (j5 ..) up (bD.eraseIdx j hf (a4.ext e2.ext))) λr2 m2=>?_;have hfa:flat av=N:=by
  have:∀(K:List AV) (j:Nat),iT K=N->K[j]? =O av->flat av=N:=by
   intro K;induction K with
   |nil=>intro j _ h;ext
   |cons x K ih=>
    intro j hf h;have hf:=fL.mp hf;cases j with
    |zero=>have h:=aV h;show h▸?_;show hf.1
    |succ j=>show ih j hf.2 (h)
  show this K j hf hj
 have hFy:=cV.1 _ _ _ hfa y2;subst hFy;have ajV:bW (jl G x 1 (bV (K.eraseIdx j))) y=N:=by
  delta bW
  rw[fH,if_neg qE];show hsy
 have hx1:mA W s {aQ with heap:=aQ.heap.update a (dP λK=>K.eraseIdxIfInBounds j)}:=e2.mm m2;show(j9 r2 hy ajV (y2.mod m2 (λb hb'=>((r.grow e2.ext).ji b hb').2.2) av yv [] (λb D=>by ext)) (.flat Z)).CA λ_ de r3 m3=>tO (hx1.trans m3 λ_ h=>ao h) r3
theorem OD:fillsInplaceSlot (ak "list") "add" (rL==rL)=pure af:=by rfl
theorem Yy:seqSlot? (ak "list") (dunderI "add")=pure (O (bx "list.__iadd__")):=PySem.seqSlot_of VO.lookup (rfl)
theorem DY{l b:ab}{MP:Array aa}{n2:Nat}(hl:s.heap.get? l=O {cls:=ak "list",dict:=ai,data:=bU items n,slots:=#[]})(D:s.heap.get? b=O {cls:=ak "list",dict:=ai,data:=bU MP n2,slots:=#[]})(hsz:items.size+MP.size<=1000000)(h:Q (R l) {s with heap:=s.heap.update l (dP λx=>x++MP),toks:=s.toks}):ax (aG prog w) A (Kz rL (R l) (R b)) Q a6 s:=by have ha:s.TypeIs (R l) "list" :=ct _ hl Z;show cO<|ag<|ou ha<|ag<|fK OD<|ag<|wpAny_binaryOp1_none ha ((ct _ D Z)) noFill_list_add<|ag<|fK Yy<|ag<|mR<|have z:fc=16777216:=rfl;qe VO ha Fw (PySem.F.args_list_iadd_2 _ _) (AutoSeq1.list___iadd___list_list_0 l items n b MP n2 (by simp[Vz];lia) au au) (gQ hl D h)
theorem ab2(G:ie)(x k:Nat)(av:AV)(k':Nat)(mw:AV):jl (jl G x k av) x k' mw=jl G x k' mw:=by
 induction G with
 |nil=>show(uz [] x k av x k' mw).trans (if_pos Z)
 |cons p r ih=>
  rw[uz,uz];by_cases h:p.1=x
  .rw [if_pos h,if_pos h,uz,if_pos Z]
  .rw [if_neg h,if_neg h,uz,if_neg h,ih]
theorem ab3(E:cq G x=O (1,bV K))(hf:iT K=N)(he:V H U A L J G e (bV ys) N)(hg:iT ys=N)(qE:K.length+ys.length<=1000000)(hxl:L.names.lookup (NM x)=O cZ):S1 H U A L J (Fe (ar (NM x) p) rL e pos) G (jl G x 1 (bV (K++ys))) ai:=λD s W r=>by
 show TJ<|(WJ r.er E).η λv F cB aO=>(he r.er).wp λu aQ oj=>iM oj λe2 F2 V2 q2=>fO aO λa vs n F' dX ht a3 a4 _=>(fO V2 λb ws m Q8 qC _ b3 b4 DX=>?_);subst dX;show qC▸?_;have g3:=e2.ext.keep a _ ht a3;have l1:=bD.length a4;have l2:=bD.length b4;have hF':=cV.2 _ _ _ hf a4;have afc:=cV.2 _ _ _ hg b4;subst hF' afc;show DY g3 b3 jP ?_;have up:(aQ.heap.update a (dP λx=>x++ws.toArray)).get? a=O (br (vs++ws) (if(vs++ws).length==vs.length then n else n+1)):=by rw[gN _ g3 (rfl)];simp[br,dP]
 show eX ((r.grow e2.ext).upd E hf (cB.ext e2.ext (r.ji _ r.loc).2.1) (j5 ..) up (bD.append (a4.ext e2.ext) b4)) λr2 m2=>?_;have hx1:mA W s {aQ with heap:=aQ.heap.update a (dP λx=>x++ws.toArray)}:=e2.mm m2;have H':Am J (aQ.heap.update a (dP λx=>x++ws.toArray)) (NM x) (R a):=by
  have hs:=j5 aQ.heap a (dP λx=>x++ws.toArray);have IL:LS aQ.heap a:=qA _ _ g3;rcases(cB.ext e2.ext (r.ji _ r.loc).2.1) with⟨k1,m1,n1,e1⟩|⟨k1,c,e1,e2,o,e3,e4⟩
  .show ao ⟨k1,m1,n1.sameBut hs (λe=>by rw[e]at n1;show IL.MN n1),e1⟩
  .show aH ⟨k1,c,e1,e2,o,(hs.2 c (λe=>by cases e;show IL.mM (ct o e3 e4))).trans e3,e4⟩
 have hlk:cq (jl G x 1 (bV (K++ys))) x=O (1,bV (K++ys)):=by rw[fH,if_pos Z]
 have hV:∃F,bR (aQ.heap.update a (dP λx=>x++ws.toArray)) (bV (K++ys)) (R a) F:=by show jh r2.ents λval fp q=>?_;obtain⟨c1,c2,_,_⟩:=q x 1 _ hlk;show(H'.uniq c1).symm▸DU _ c2
 show dG hV λFv hV=>((j9 r2 (ao hxl) (by delta bW;rw[hlk];rfl) hV (.again r2 hlk H' hV)).CA λ_ de r3 m3=>⟨hx1.trans m3 (λd hd=>ao hd),rfl,W,?_,λd hd=>ao hd⟩);rw[(ab2 G x 1 _ 1 _)]at r3;show r3
def dW(es:List aw):Bool:=es.all λe=> !cG e
theorem Yz:∀(pos:aY) (J:cg),dW es=N->(jH pos (iX es J)).any (·.1)=af:=by
 induction es with
 |nil=>show λ_ _ _=>rfl
 |cons e es iH=>intro pos J h;simp only[dW,EV,qr,ve]at h;rw[dp h.1];change(af ||(jH pos (iX es J)).any (·.1))=af;rw[iH pos J (h.2)];rfl
theorem mB(nm ty:String)(B:cA U mg mb)(I:dQ mg mb)(hm:(nm,ak ty)∈BI)(kM:L.names.lookup (aC nm)=O kV)(hd:(aC nm==("__debug__" :aP))=af)(he:fJ H U A L J G (e::es) avs)(dH:dW (e::es)=N)(r:ER H U L J s.heap G)(hq:∀vs aD F,dz H s aD->bD aD.heap avs vs F->T A (call (ak ty) vs) aD Q):
 T A (aZ (bI (ar (aC nm) np) (e::es) [] pos) J) s Q:=by
 have hI:=I (nm,ak ty) hm;show l9<|(ez B r kM hI.1 hI.2 hd).Dq<|A7 ((he s pos r).Q5 λvs aD F1 e1 V1=>hq vs aD F1 e1 V1) (dp (by simp only[dW,EV,qr,ve]at dH;show dH.1) _ _) (Yz pos J (by simp only[dW,EV,qr]at dH;show dH.2))
theorem vF{n':Nat}{P P':Nat->aa->Prop}(x:mS prog w A I fp wr n P St)(hn:n=n')(hp:∀i v,i<n->P i v->P' i v):mS prog w A I fp wr n' P' St:=by subst hn;show⟨x.sub,x.frame,λi s Q a6 hi st hq=>x.item i s Q a6 hi st λv h' tk p=>hq v h' tk (hp i v hi p),x.done,x.self⟩
def Shd(J:cg)(h:aN)(G:ie)(b:ab):Prop:=∃x k av v F,cq G x=O (k,av)/\k≠1/\Am J h (NM x) v/\bR h av v F/\b∈F
theorem Shd.υ{b:ab}(q:Shd J h G b)(r:FR H U D L J h G W):b∉W:=by show wC q λx k av v F e hk cB aO D=>(jh r.ents λval fp q=>?_);obtain⟨a1,a2,_,a4⟩:=q x k av e;have hv:=cB.uniq a1;subst hv;have hF:=bR.uniq aO a2;subst hF;show a4 hk b D
def Gu(ns:List Int)(i:Nat)(v:aa):Prop:=∃k t,ns[i]? =O k/\v=ah k t
inductive WK(H:List ab)(A:ck)(J:cg)(G:ie)(ns:List Int)(s:ae):aa->ae->Prop
 |mk {aQ:ae} (e:dz H s aQ) (I:ab) (fp wr:List ab) (St:Nat->aN->Prop) (W:mS prog w A I fp wr ns.length (Gu ns) St) (st:St 0 aQ.heap) (Gv:∀i h,St i h->∀b∈wr,kK h b)
  (φ:∀b∈wr,s.heap.get? b=ai) (An:∀b∈fp,b∉bY/\(∃o,aQ.heap.get? b=O o)/\(s.heap.get? b=ai\/Shd J s.heap G b)):WK H A J G ns s (R I) aQ
def zv(H:List ab)(U:aN)(A:ck)(L:c9)(J:cg)(G:ie)(e:aw)(ns:List Int):Prop:=
 ∀s,ER H U L J s.heap G->T A (aZ e J) s (λx aD=>T A (gm x) aD (WK H A J G ns s))
theorem nY:∀{vs:List aa} {ns:List Int},fh vs ns->vs.length=ns.length/\∀(i:Nat) v,vs[i]? =O v->∃n t,ns[i]? =O n/\v=ah n t:=by
 intro vs ns IA;induction IA with
 |nil=>show⟨rfl,λi v h=>by ext⟩
 |cons n t r ih=>
  show⟨by simp[ih.1],λi v h=>?_⟩;cases i with
  |zero=>have h:=aV h;subst h;show kH n t Z Z
  |succ i=>show ih.2 i v (h)
theorem BE{ns:List Int}(hh:dh A)(B:Tp U)(x:hx H U s.heap)(e:dz H s aD)(hi:je K=O ns)(ht:a∉bY)(a3:aD.heap.get? a=O (br vs n))(a4:bD aD.heap K vs F)(hsh:s.heap.get? a=ai\/Shd J s.heap G a):
 T A (gm (R a)) aD (WK H A J G ns s):=by
 show uQ (bX a3)<|eX (nY (intsAre_of a4 hi)) λk1 k2=>⟨?_,aD.heap.objs.size,_,_,_,vF (Wj hh _ a (fB (cn a3)) vs.toArray) (by assumption) (λi v _ hv=>k2 i v (by simpa using hv)),⟨?_,?_⟩,λi h st b D=>?_,λb D=>?_,λb D=>?_⟩
 .show e.trans ⟨.push _ _,rfl,rfl,eV _⟩
 .show kF _ (bK _ Z) Z Z
 .show bX (a8 _ a3)
 .apply jS D;show eX st λi1 _=>gC i1 λo ho _ hd=>ct o ho (ao ⟨_,hd,λx t e=>by simp at e⟩)
 .apply jS D;show e.ext.new (bF _)
 .apply rX D
  .show gQ (fi (jy B (x.trans e.ext))) ⟨_,bK _ Z⟩ (ao (e.ext.new (bF _)))
  .show gQ ht ⟨_,a8 _ a3⟩ hsh
theorem zv.new{ns:List Int}(hh:dh A)(B:Tp U)(he:V H U A L J G e (bV K) N)(hi:je K=O ns):zv H U A L J G e ns:=λs r=>by show(he r).mono λv aD oj=>og λgG kG=>iM oj λe1 F aO q=>kG ?_;clear kG gG;apply fP aO;intro a vs n F' ht a3 a4 ν;subst ν;show BE hh B r.base e1 hi ht a3 a4 (ao ((q Z).1 a au))
theorem ab4{ns:List Int}(hh:dh A)(B:Tp U)(E:cq G x=O (k,bV K))(hk:fD k 1=af)(hi:je K=O ns):
 zv H U A L J G (ar (NM x) pos) ns:=λs r=>by
 show(zR r E).mono λv aD oj=>og λgG kG=>iM oj λe1 F cB aO=>kG ?_;clear kG gG;show e1.symm▸?_;apply fP aO;intro a vs n F' ht a3 a4 ν;subst ν;show BE hh B r.base (.refl _) hi ht a3 a4 (aH (ag4 x k _ _ _ E (λe=>by have hk:=e▸hk;ext) cB aO au))
noncomputable def Dt(a c:Int)(n:Nat):List Int:=(aI n).map λi:Nat=>a+(i:Int) * c
theorem o4{a c:Int}{m:Int}:(Dt a c n)[i]? =O m↔i<n/\m=a+(i:Int) * c:=by
 show cY.symm▸?_;by_cases h:i<n
 .rw [oE h];simp[h];show⟨λe=>e.symm,λe=>e.symm⟩
 .simp [h]
theorem MQ{a c:Int}:(Dt a c n).length=n:=by simp[Dt]
theorem qw{a b c:Int}{t u v:aW}{rr:ab}(hh:dh A)(B:Tp U)(x:hx H U s.heap)(e:dz H s aD)(hr:qf aD.heap rr a b c t u v)(hs:vg a b c=N)(hn:kY a b c=(n:Int)):T A (gm (R rr)) aD (WK H A J G (Dt a c n) s):=by
 show Aq hr hs<|hn.symm▸⟨?_,aD.heap.objs.size,_,_,_,vF (Mv hh _ a c n) MQ.symm (λi v hi qQ=>dG qQ λt hv=>kH _ t (o4.mpr ⟨hi,rfl⟩) hv),?_,λi h st b D=>?_,λb D=>?_,λb D=>?_⟩
 .show e.trans ⟨.push _ _,rfl,rfl,eV _⟩
 .have e1:(a+((0:Nat):Int) * c)=a:=by simp
  have e2:((n:Int) - ((0:Nat):Int))=n:=by rfl
  show e1.symm▸e2.symm▸bK _ Z
 .apply jS D;show ct _ st (ao ⟨_,rfl,λx t e=>by simp[dN]at e⟩)
 .apply jS D;show e.ext.new (bF _)
 .apply jS D;show gQ (fi (jy B (x.trans e.ext))) ⟨_,bK _ Z⟩ (ao (e.ext.new (bF _)))
theorem zS{k:Int}(hh:dh A)(B:cA U mg mb)(I:dQ mg mb)(kM:Gi L "range")(he:V H U A L J G e (a9 k) af)(dH:cG e=af)(hk:k<2 ^ 62)(hk2: -(2 ^ 62)<=k):zv H U A L J G (bI (ar (aC "range") np) [e] [] pos) (Dt 0 1 k.toNat):=λs r=>by show mB ("range") ("range") B I aK kM (rfl) (fJ.cons he fJ.nil dH) (by simp[dW,dH]) r λvs aD F e1 V1=>?_;apply nH V1;show λt=>sG (qw hh B.top r.base (e1.trans ⟨.push _ _,rfl,rfl,eV _⟩) (vp ..) (uX fF fF hk2 hk) ?_);rw[uU];split<;>lia
theorem zT{e':aw}{k m:Int}(hh:dh A)(B:cA U mg mb)(I:dQ mg mb)(kM:Gi L "range")(he:V H U A L J G e (a9 k) af)(dH:cG e=af)(Jp:V H U A L J G e' (a9 m) af)(IM:cG e'=af)(hk:k<2 ^ 62)(hk2: -(2 ^ 62)<=k)(hm:m<2 ^ 62)(hm2: -(2 ^ 62)<=m):
 zv H U A L J G (bI (ar (aC "range") np) [e,e'] [] pos) (Dt k 1 (m - k).toNat):=λs r=>by
 show mB ("range") ("range") B I aK kM (rfl) (fJ.cons he (fJ.cons Jp fJ.nil IM) dH) (by simp[dW,dH,IM]) r λvs aD F e1 V1=>?_;apply nG V1;intro v v3 G1 G3 V2 V4;apply bR.zN V2;intro t;show dG V4.toInt λt' dX=>dX▸call_range_2 (qw hh B.top r.base (e1.trans ⟨.push _ _,rfl,rfl,eV _⟩) (vp ..) (uX hk2 hk hm2 hm) ?_);rw[uU];split<;>grind
theorem Gy{e' e'':aw}{k m c:Int}(hh:dh A)(B:cA U mg mb)(I:dQ mg mb)(kM:Gi L "range")(he:V H U A L J G e (a9 k) af)(dH:cG e=af)(Jp:V H U A L J G e' (a9 m) af)(IM:cG e'=af)(ajW:V H U A L J G e'' (a9 c) af)(aey:cG e''=af)(hc:c≠0)(hp:Fn (m - k) c=af)(hs:vg k m c=N)(hn:kY k m c=(n:Int)):
 zv H U A L J G (bI (ar (aC "range") np) [e,e',e''] [] pos) (Dt k c n):=λs r=>by
 show mB ("range") ("range") B I aK kM (rfl) (fJ.cons he (fJ.cons Jp (fJ.cons ajW fJ.nil aey) IM) dH) (by simp[dW,dH,IM,aey]) r λvs aD F e1 V1=>?_;apply Bx V1;intro v v3 v5 G1 G3 G5 V2 V4 V6;apply bR.zN V2;show λt=>og λgG kG=>dG V4.toInt λt' dX=>dG V6.toInt λt'' qC=>kG ?_;clear kG gG;subst dX;subst qC;show call_range_3 hc ?_ (ao hp);show qw hh B.top r.base (e1.trans ⟨.push _ _,rfl,rfl,eV _⟩) (vp ..) hs hn
def YA:ie->ie->Prop
 | [],_=>True
 |(x,k,av)::r,G=>cq G x=O (k,av)/\YA r G
def Rh:ie->ie->Prop
 | [],_=>True
 |(x,k,av)::r,G=>(match fD k 2 with|true=>cq G x=O (k,av)|false=>True)/\Rh r G
structure km(G' G:ie):Prop where
 all:∀x k av,cq G' x=O (k,av)->cq G x=O (k,av)
 ajX:∀x av,cq G x=O (2,av)->cq G' x=O (2,av)
theorem BF(e:cq G x=O (k,av)):(x,k,av)∈G:=by
 induction G with
 |nil=>ext
 |cons p r ih=>
  obtain⟨y,k',mw⟩:=p;unfold cq at e;rw[Mu]at e;by_cases h:y=x
  .subst h;rw[decide_eq_true Z]at e;show aV e▸?_;ext
  .rw [decide_eq_false h]at e;show bZ _ (ih e)
theorem YA.mem(h:YA G' G)(hm:(x,k,av)∈G'):cq G x=O (k,av):=by
 induction G' with
 |nil=>ext
 |cons p r ih=>
  obtain⟨y,k',mw⟩:=p;rcases bu.mp hm with e|e
  .cases e;show h.1
  .show ih h.2 e
theorem Rh.mem(h:Rh G G')(hm:(x,2,av)∈G):cq G' x=O (2,av):=by
 induction G with
 |nil=>ext
 |cons p r ih=>
  obtain⟨y,k',mw⟩:=p;rcases bu.mp hm with e|e
  .cases e;show h.1
  .show ih h.2 e
theorem km.of(h:YA G' G)(h2:Rh G G'):km G' G:=⟨λ_ _ _ e=>h.mem (BF e),λ_ _ e=>h2.mem (BF e)⟩
theorem YA.rf:∀{G:ie},(G'.map λp=>cq G p.1)=G'.map (λp=>O p.2)->YA G' G:=by
 induction G' with
 |nil=>intro _ _;show trivial
 |cons _ _ iH=>intro _ h;show⟨(mr h).1,iH (mr h).2⟩
theorem Rh.rf:∀{G G':ie},(G.map λp=>bif fD p.2.1 2 then cq G' p.1 else O p.2)=G.map (λp=>O p.2)->Rh G G'
 | [],_,_=>trivial
 |(x,k,av)::_,_,h=>⟨by have h1:=(mr h).1;revert h1;dsimp only;cases fD k 2<;>intro h1<;>first|show trivial|show h1,Rh.rf (mr h).2⟩
theorem km.rf(h:(G'.map λp=>cq G p.1)=G'.map (λp=>O p.2))(h2:(G.map λp=>bif fD p.2.1 2 then cq G' p.1 else O p.2)=G.map (λp=>O p.2)):km G' G:=.of (.rf h) (.rf h2)
theorem km.refl(G:ie):km G G:=⟨λ_ _ _ e=>e,λ_ _ e=>e⟩
theorem FR.less(r:FR H U D L J h G W)(x:km G' G):FR H U D L J h G' W where
 b1:=r.b1
 ext:=r.ext
 scope:=r.scope
 kind:=r.kind
 glob:=r.glob
 bi:=r.bi
 loc:=r.loc
 ns:=r.ns
 cell:=λy hy=>lY (r.cell y hy) λc a b d e=>wD c a b d (e.imp (λqQ=>dG qQ λav e=>⟨av,x.ajX y av e⟩) id)
 pS:=r.pS
 ji:=r.ji
 ents:=jh r.ents λval fp q=>qA val fp (λy k av e=>have a6:=q y k av (x.all y k av e);⟨a6.has,a6.rel,λhk=>⟨(a6.own hk).nd,λz hz=>have gz:=(a6.own hk).el z hz;⟨gz.mem,gz.ls,λy' k' mw e'=>gz.ap y' k' mw (x.all _ _ _ e')⟩⟩,a6.shd⟩)
theorem SS.less{G0 G1:ie}{ret:Option AV}(x:SS H U A L J ss G0 G1 ret)(h:km G0 G):SS H U A L J ss G G1 ret:=λD s W r=>x (r.less h)
theorem SS.out{G0 G1:ie}{ret:Option AV}(x:SS H U A L J ss G G0 ret)(h:km G1 G0):SS H U A L J ss G G1 ret:=λD s W r=>
 (x r).mono λf Y qQ=>eX qQ λm q=>⟨m,by
  cases ret with
  |none=>show iM q λa W' r' b=>⟨a,W',r'.less h,b⟩
  |some _=>show q⟩
theorem SS.share{G1:ie}{ret:Option AV}(y:Nat)(x:SS H U A L J ss (Lake.share G y) G1 ret):SS H U A L J ss G G1 ret:=λD s W r=>gC (r.share y) λW' r' hw _=>(x r').mono λf Y q=>q.behind (.refl W s) λd hd=>ao (hw d hd)
theorem kK.WL{c:ab}{v:Option aa}(q:kK h c)(x:h.IsCell c v):False:=by show bh q λo e d=>(bh x λo' e' d'=>?_);replace e':=e▸e';obtain rfl:=aV e';rcases d with⟨_,d,_⟩|⟨_,_,d⟩|⟨_,_,d⟩|d<;>(have d:=d'.symm.trans d;ext)
theorem kK.WH{b:ab}(q:kK h b)(aO:bR h av v F)(D:b∈F):False:=by show iM (aO.kinds b D) λ_ o e1 e2=>(bh q λo' e' d'=>?_);replace e':=e1▸e';obtain rfl:=aV e';rcases e2 with⟨_,_,_,e2⟩|⟨_,e2⟩<;>rcases d' with⟨_,d',_⟩|⟨_,_,d'⟩|⟨_,_,d'⟩|d'<;>(have e2:=d'.symm.trans e2;ext)
theorem FR.off(r:FR H U D L J h G W)(keep:∀b o,b∉wr->h.get? b=O o->h'.get? b=O o)(hw:∀b∈wr,kK h b/\b∉bY/\D.get? b=ai/\b∉W):FR H U D L J h' G W:=by
 have new:∀{b o},D.get? b=O o->b∉wr:=λ{b o} e q=>by have e:=((hw b q).2.2.1)▸e;ext
 show r.abX r.b1 ⟨λb o ht e=>keep b o (new e) (r.ext.keep b o ht e),λb ht ps e=>dG (r.ext.tab b ht ps e) λm e'=>⟨m,keep b _ (λq=>(hw b q).2.1 ht) e'⟩,λb o e=>dG (r.ext.there b o e) λo' e'=>⟨o',keep b o' (new e) e'⟩,
  λb o ht hq e=>keep b o (λq=>(hw b q).2.1 ht) (r.ext.quiet b o ht hq e)⟩
  (λb hb' o e=>keep b o (λq=>(hw b q).2.2.2 hb') e) (λc v ht x=>Bo (λo q=>⟨keep c o (λz=>(hw c z).1.WL x) q.1,q.2⟩) x)
  λy k av v F _ aO=>aO.off (λb o hb' _ e=>keep b o hb' e) (λb hb'=>aH (hw b hb').1) _ _ _ λb hb' hq=>(hw b hq).1.WH aO hb'
theorem mA.off{tk:Nat}(m:mA W s Y)(keep:∀b o,b∉wr->Y.heap.get? b=O o->h'.get? b=O o)(hw:∀b∈wr,s.heap.get? b=ai/\b∉bY):mA W s {Y with heap:=h',toks:=tk}:=by
 have new:∀{b o},s.heap.get? b=O o->b∉wr:=λ{b o} e q=>by have e:=((hw b q).1)▸e;ext
 show⟨⟨λb o D ht e=>keep b o (new e) (m.mod.keep b o D ht e),λb ht ps e=>dG (m.mod.tab b ht ps e) λx e'=>⟨x,keep b _ (λq=>(hw b q).2 ht) e'⟩,λb o e=>dG (m.mod.there b o e) λo' e'=>⟨o',keep b o' (new e) e'⟩⟩,m.os,m.drawn,m.gens⟩
def Stores(A:ck)(J:cg):LN->List Int->(ae->Prop)->(aa->ae->Prop)->ae->Prop
 | [],[],Q,_,s=>Q s
 |x::K,k::ks,Q,a6,s=>∀t,ax (aG prog w) A (Aw J (NM x) (ah k t)) (λ_ Y=>Stores A J K ks Q a6 Y) a6 s
 |_,_,_,_,_=>False
def Off(wr:List ab)(s Y:ae):Prop:=∃h' tk,Y={s with heap:=h',toks:=tk}/\∀b o,b∉wr->s.heap.get? b=O o->h'.get? b=O o
theorem Off.keep(x:Off wr s Y){b:ab}(D:b∉wr)(e:s.heap.get? b=O o):Y.heap.get? b=O o:=by show eQ x λh' tk dX k=>?_;subst dX;show k b o D e
theorem dz.off{aQ:ae}(x:dz H s aD)(y:Off wr aD aQ)(hw:∀b∈wr,s.heap.get? b=ai/\b∉bY):dz H s aQ:=by show eQ y λh' tk dX k=>dX▸⟨⟨λb o D e=>k b o (λq=>by have e:=((hw b q).1)▸e;ext) (x.ext.keep b o D e),λb D ps e=>dG (x.ext.tab b D ps e) λm e'=>⟨m,k b _ (λq=>(hw b q).2 D) e'⟩,λb o e=>?_,λb o D hq e=>k b o (λq=>(hw b q).2 D) (x.ext.quiet b o D hq e)⟩,x.os,x.drawn,x.gens⟩;show dG (x.ext.there b o e) λo' e'=>⟨o',k b o' (λq=>by have e:=((hw b q).1)▸e;ext) e'⟩
theorem dz.but{mE:ae}(x:dz H s Y)(k:Y.heap.SameBut aS mE.heap)(hC:s.heap.get? aS=ai)(hT:aS∉bY)(o:mE.os=Y.os)(d:mE.drawn=Y.drawn)(g:mE.gens=Y.gens):dz H s mE where
 ext:=⟨λb o hb' e=>k.extBut b o (λq=>by have e:=hC▸q▸e;ext) (x.ext.keep b o hb' e),λb hb' ps e=>dG (x.ext.tab b hb' ps e) λmo e'=>⟨mo,k.extBut b _ (λq=>hT (q▸hb')) e'⟩,
  λb o e=>dG (x.ext.there b o e) λo' e'=>⟨o',k.extBut b o' (λq=>by have e:=hC▸q▸e;ext) e'⟩,λb o hb' hq e=>k.extBut b o (λq=>hT (q▸hb')) (x.ext.quiet b o hb' hq e)⟩
 os:=o.trans x.os
 drawn:=d.trans x.drawn
 gens:=g.trans x.gens
theorem FR.WM{b:ab}(r:FR H U D L J h G W)(e:h.get? b=ai):b∉W:=λhw=>oT (r.ji b hw) λ_ _ o e' _=>by have e':=e▸e';ext
theorem FR.afd{b:ab}(r:FR H U D L J h G W)(x:hx H h h')(e:h'.get? b=O (cU vs n)):b∉W:=λhw=>by
 show eX (r.ji b hw).2 λht m=>(bh m λo e' hk=>?_);obtain rfl:=aV ((x.keep b o ht e')▸e);rcases hk with⟨h1,_⟩|⟨_,_,h1⟩|⟨_,h1⟩
 .injection h1 with h3
  show nomatch h3
 .ext
 .ext
structure χ(A:ck)(cu:aw)(K:LN)(items:List (List Int))(I:ab)(fp wr:List ab)(St:Nat->aN->Prop):Prop where
 sub:∀b∈wr,b∈fp
 frame:∀i h h',St i h->(∀b∈fp,∀o,h.get? b=O o->h'.get? b=O o)->St i h'
 item:∀i (s:ae) J (Q:ae->Prop) (aM:Option aa->ae->Prop) (a6:aa->ae->Prop),i<items.length->St i s.heap->
  (∀Y ks,items[i]? =O ks->St (i+1) Y.heap->Off wr s Y->Stores A J K ks Q a6 Y)->
  (∀v aD,ax (aG prog w) A (jE cu (R I) v) (λ_ uC=>ax (aG prog w) A (jI cu J v) (λ_ aQ=>Q aQ) a6 uC) a6 aD->aM (O v) aD)->
  ax (aG prog w) A (gX (R I)) aM a6 s
 done:∀(s:ae) (Q:Option aa->ae->Prop) (a6:aa->ae->Prop),St items.length s.heap->(∀Y,Off wr s Y->Q ai Y)->ax (aG prog w) A (gX (R I)) Q a6 s
 self:∀i (s:ae) (Q:aa->ae->Prop) (a6:aa->ae->Prop),St i s.heap->Q (R I) s->ax (aG prog w) A (gm (R I)) Q a6 s
theorem Ri{ns:List Int}(W:mS prog w A I fp wr ns.length (Gu ns) St):
 χ A (ar (NM x) px) [x] (ns.map λn=>[n]) I fp wr St where
 sub:=W.sub
 frame:=W.frame
 item:=λi s J Q aM a6 hi st hs hR=>by show W.item i s aM a6 (by simpa using hi) st λv h' tk qQ Oh keep=>eQ qQ λn t hn hv=>?_;subst hv;show hR _ _<|aB<|jD<|hs {s with heap:=h',toks:=tk} [n] (by rw[cY,hn];rfl) Oh (kH h' tk Z keep) t
 done:=λs Q a6 st hq=>W.done s Q a6 (by simpa using st) λh' tk keep=>hq _ (kH h' tk Z keep)
 self:=W.self
theorem Du{py pt:aY}{ps:List (Int×Int)}{Mid:Nat->ab->aN->Prop}(hh:dh A)(W:WalksU prog w A I fp wr ps.length (λi MR=>∃a b t u,ps[i]? =O (a,b)/\MR=#[ah a t,ah b u]) St Mid):
 χ A (ik [ar (NM x) px,ar (NM y) py] k0 pt) [x,y] (ps.map λp=>[p.1,p.2]) I fp wr St where
 sub:=W.sub
 frame:=W.frame
 item:=λi s J Q aM a6 hi st hs hR=>by show W.item i s aM a6 (by simpa using hi) st λT MR h' tk q hT hm keep=>dG q λa q=>eY q λb t u hp hv=>?_;subst hv;show hR _ _<|W.go _ _ _ i T {s with heap:=h',toks:=tk} _ a6 hm λh'' ajY aez=>J7 hh (hT.at λo e=>aez T o (W.apart i T h' hm) e) Z Z λh3 he=>have k3:=λc o e=>he c o (fB (cn e)) e;have off:Off wr s {s with heap:=h3,toks:=tk}:=kH h3 tk Z (λc o hc e=>k3 c o (aez c o hc (keep c o hc e)));ag (cO (jD (gU ((hs {s with heap:=h3,toks:=tk} [a,b] (by rw[cY,hp];rfl) (W.frame _ _ _ ajY λc _ o e=>k3 c o e) off) t) (λ_ s4 q4=>?_) λ_ _ e=>e)));show ag (cO (jD (gU (q4 u) (λ_ s5 q5=>?_) λ_ _ e=>e)));show aB q5
 done:=λs Q a6 st hq=>W.done s Q a6 (by simpa using st) λh' tk keep=>hq _ (kH h' tk Z keep)
 self:=W.self
inductive ψ(H:List ab)(U:aN)(A:ck)(L:c9)(J:cg)(G:ie)(cu:aw)(K:LN)(items:List (List Int))(lp:Bool)(s:ae):aa->ae->Prop
 |mk {aQ:ae} (e:dz H s aQ) (I:ab) (fp wr:List ab) (St:Nat->aN->Prop) (W:χ A cu K items I fp wr St) (st:St 0 aQ.heap) (Gv:lp=N->∀i h,St i h->∀b∈wr,kK h b)
  (φ:∀b∈wr,s.heap.get? b=ai) (An:∀b∈fp,b∉bY/\∃o,aQ.heap.get? b=O o) (ap:lp=N->∀b∈fp,∀D W,FR H U D L J s.heap G W->b∉W):ψ H U A L J G cu K items lp s (R I) aQ
def YB(H:List ab)(U:aN)(A:ck)(L:c9)(J:cg)(G:ie)(e:aw)(cu:aw)(K:LN)(items:List (List Int))(lp:Bool:=af):Prop:=
 ∀s,ER H U L J s.heap G->T A (aZ e J) s (λx aD=>T A (gm x) aD (ψ H U A L J G cu K items lp s))
theorem zv.itc{ns:List Int}{lp:Bool}(q:zv H U A L J G e ns):YB H U A L J G e (ar (NM x) px) [x] (ns.map λn=>[n]) lp:=λs r=>
 (q s r).mono λv aD q=>q.mono λit aQ q=>by obtain⟨e1,I,fp,wr,St,Wk,st,Gv,φ,An⟩:=q;show⟨e1,I,fp,wr,St,Ri Wk,st,λ_=>Gv,φ,λb D=>⟨(An b D).1,(An b D).2.1⟩,λ_ b D _ _ r=>(An b D).2.2.elim r.WM λq=>q.υ r⟩
noncomputable def qN(p:Int×Int):AV:=gr [a9 p.1,a9 p.2]
theorem YC{ps:List (Int×Int)}:∀{vs:List aa} {F:List ab},bD h (ps.map qN) vs F->vs.length=ps.length/\
 ∃(Ts:Nat->ab) (MR:Nat->Array aa),∀j,j<vs.length->vs[j]? =O (R (Ts j))/\Ts j∉bY/\h.IsTuple (Ts j) (MR j)/\∃a b t u,ps[j]? =O (a,b)/\MR j=#[ah a t,ah b u]:=by
 induction ps with
 |nil=>intro vs F r;show eX r λdX _=>?_;clear r;subst dX;show⟨rfl,λ_=>0,λ_=>#[],λj hj=>absurd hj (rz _)⟩
 |cons p ps iH=>
  intro vs F r;show og λgG kG=>(gu r λv tK F1 F2 qC e2 e3 _=>?_);obtain⟨l,Ts,MR,q⟩:=iH e3;show kG ?_;clear kG gG;show qC▸gH e2 λa ws n DX ht e4 e5=>DX▸kJ e5 λw1 ws1 _ _ Of e6 e7 _=>?_;subst Of;show kJ e7 λw2 ws2 _ _ Z6 e8 e9 _=>?_;subst Z6;show eX e9 λeQ6 _=>dG e6.toInt λt eQ7=>dG e8.toInt λu eQ8=>?_;subst eQ6;subst eQ7;subst eQ8;show⟨by simp[l],λj=>match j with | 0=>a|j+1=>Ts j,λj=>match j with | 0=>#[ah p.1 t,ah p.2 u]|j+1=>MR j,λj hj=>?_⟩;cases j with
  |zero=>show⟨rfl,ht,⟨_,e4,rfl,n,rfl⟩,p.1,p.2,t,u,rfl,rfl⟩
  |succ j=>show iL (q j (by simpa using hj)) λa1 a2 a3 a4=>rN a1 a2 a3 a4
theorem Dv{n':Nat}{P P':Nat->Array aa->Prop}{Mid:Nat->ab->aN->Prop}(x:WalksU prog w A I fp wr n P St Mid)(hn:n=n')(hp:∀i v,i<n->P i v->P' i v):WalksU prog w A I fp wr n' P' St Mid:=by subst hn;show⟨x.sub,x.frame,λi s Q a6 hi st hq=>x.item i s Q a6 hi st λT v h' tk p=>hq T v h' tk (hp i v hi p),x.go,x.apart,x.done,x.self⟩
theorem Jq{ps:List (Int×Int)}{py pt:aY}{lp:Bool}(hh:dh A)(B:Tp U)(he:V H U A L J G e (bV K) fr)(hi:K=ps.map qN)(hlp:lp=N->fr=N):
 YB H U A L J G e (ik [ar (NM x) px,ar (NM y) py] k0 pt) [x,y] (ps.map λp=>[p.1,p.2]) lp:=λs r=>by
 show(he r).tM λv aD F e1 aO q=>?_;apply fP aO;intro a vs n F' ht a3 a4 ν;subst ν;subst hi;obtain⟨l,Ts,MR,q2⟩:=YC a4;show uQ (bX a3) ?_;have hT:=λj hj=>by show og λgG kG=>iL (q2 j hj) λ_ _ i1 _=>bh i1 λo ho _=>kG ?_;clear kG gG;show cn ho
 have all:∀b∈aD.heap.objs.size::a::(aI vs.toArray.size).map Ts,(b∉bY/\∃o,(aD.heap.push {cls:=ak "list_iterator",data:=bH #[R a,ah 0 0]}).get? b=O o)/\(fr=N->s.heap.get? b=ai\/∃vs n,(aD.heap.push {cls:=ak "list_iterator",data:=bH #[R a,ah 0 0]}).get? b=O (cU vs n)):=λb D=>by
  show bf (bu.mp D) (λa1=>a1▸?_) λD=>?_
  .show ⟨⟨fi (jy B (r.base.trans e1.ext)),⟨_,bK _ Z⟩⟩,λ_=>ao (e1.ext.new (bF _))⟩
  show bf (bu.mp D) (λa1=>a1.symm▸?_) λD=>?_
  .show ⟨⟨ht,⟨_,a8 _ a3⟩⟩,λhf=>ao ((q hf).1 _ au)⟩
  .show bh (bG.mp D) λj hj dX=>dX▸have hj:j<vs.length:=dm.mp hj;iL (q2 j hj) λRf p1 p2 _=>?_;have dM:j<ps.length:=by lia
   show jx (bD.get a4 (by rw[cY,dE dM];rfl)) λu F3 g1 g2 _=>?_;obtain rfl:=aV (Rf.symm.trans g1);show gH g2 λa' ws n' g3 _ g4 _=>?_;obtain rfl:=j6 g3;show⟨⟨p1,⟨_,a8 _ g4⟩⟩,λ_=>aH (qA ws n' (a8 _ g4))⟩
 show⟨?_,aD.heap.objs.size,_,_,_,Du hh (Dv (WalksU.listOfTuples hh aD.heap.objs.size a (fB (cn a3)) vs.toArray Ts MR (λj hj=>by simpa using (q2 j (hj)).1) (λj hj=>fB (hT j (hj))))
  (by assumption) (λi v hi hv=>?_)),(gQ ?_ ?_ ?_),λ_ i h st b D=>?_,λb D=>?_,λb D=>(all b D).1,λl b D hb' W r=>((all b D).2 (hlp l)).elim r.WM λqQ=>jh qQ λvs n e=>r.afd (e1.ext.trans (.push _ _)) e⟩
 .show e1.trans ⟨.push _ _,rfl,rfl,eV _⟩
 .subst hv;show(q2 i (hi)).2.2.2
 .show kF _ (bK _ Z) Z Z
 .show bX (a8 _ a3)
 .show λk hk=>(q2 k (hk)).2.2.1.at λo e=>a8 _ e
 .apply jS D;show eX st λi1 _=>gC i1 λo ho _ hd=>ct o ho (ao ⟨_,hd,λx t e=>by simp at e⟩)
 .apply jS D;show e1.ext.new (bF _)
theorem OE{ps:List (Int×Int)}{py pt:aY}(hh:dh A)(B:Tp U)(he:V H U A L J G e (bV K) af)(hi:K=ps.map qN):
 YB H U A L J G e (ik [ar (NM x) px,ar (NM y) py] k0 pt) [x,y] (ps.map λp=>[p.1,p.2]):=Jq hh B he hi λh=>IE h
theorem YB.zip{e':aw}{ns ms:List Int}{py pt:aY}(hh:dh A)(B:cA U mg mb)(I:dQ mg mb)(kM:Gi L "zip")(he:V H U A L J G e (bV K) af)(dH:cG e=af)(Jp:V H U A L J G e' (bV ys) af)(IM:cG e'=af)(hi:je K=O ns)(hi':je ys=O ms):
 YB H U A L J G (bI (ar (aC "zip") np) [e,e'] [] pos) (ik [ar (NM x) px,ar (NM y) py] k0 pt) [x,y] ((ns.zip ms).map λp=>[p.1,p.2]):=λs r=>by
 show mB ("zip") ("zip") B I aK kM (rfl) (fJ.cons he (fJ.cons Jp fJ.nil IM) dH) (by simp[dW,dH,IM]) r λvs aD F e1 V1=>?_;apply nG V1;intro v v3 G1 G3 V2 V4;apply fP V2;intro a us n F' ht a3 a4 eF4;apply fP V4;intro b ws m Q8 ht' b3 b4 eF5;show eX (nY (intsAre_of a4 hi)) λk1 k2=>eX (nY (intsAre_of b4 hi')) λl1 l2=>call_zip_2 (bX a3) (bX b3) λh' z1 z2 z3 z4 z5 z6 z7=>have la: @LT.lt Nat instLTNat a aD.heap.objs.size:=cn a3;have lb: @LT.lt Nat instLTNat b aD.heap.objs.size:=cn b3;Kc z1 ?_;have nM:=λc hc=>e1.ext.new (by
  cases q:aD.heap.get? c with
  |none=>rfl
  |some o=>show absurd (cn q) (j4.mpr hc))
 have YD:=jy B.top (r.base.trans e1.ext);show⟨?_,_,_,_,_,Du hh (Dv (WalksT.zip2 hh _ _ _ _ _ a b (by constructor<;>(show(?_:¬((_:Nat)=(_:Nat))))<;>lia) us.toArray ws.toArray).toU (by simp[k1,l1]) (λi v hi hv=>?_)),⟨z1,z2,⟨_,_,z3⟩,z4,z5,bX (z7 _ _ a3),bX (z7 _ _ b3)⟩,(λh=>nomatch h),λc hc=>?_,λc hc=>?_,(λh=>nomatch h)⟩
 .show e1.trans ⟨.of_keep z7,rfl,rfl,eV _⟩
 .show jx hv λp q h1 h2 h3=>eQ (k2 i p (by simpa using h1)) λn1 t1 g1 dX=>eQ (l2 i q (by simpa using h2)) λn2 t2 g2 qC=>?_;subst dX;subst qC;show ae2 n1 n2 t1 t2 ?_ h3;rw[List.zip,EJ,g1,g2]
 .simp at hc;rcases hc with rfl|rfl|rfl|rfl<;>show nM _ fF
 .simp at hc;rcases hc with rfl|rfl|rfl|rfl|rfl|rfl|rfl
  .show ⟨fi (yk YD),_,z1⟩
  .show ⟨fi (yk YD),_,z2⟩
  .show ⟨fi (yk YD),_,z3⟩
  .show ⟨fi au,bh z4 λo e _=>⟨o,e⟩⟩
  .show ⟨fi au,bh z5 λo e _=>⟨o,e⟩⟩
  .show ⟨ht,_,z7 _ _ a3⟩
  .show ⟨ht',_,z7 _ _ b3⟩
noncomputable def o6(ifs:List aw)(J:cg):aE Bool:=forIn ifs N λc r=>if r=N then do let ok<-isTrue c J (aZ c J);pure (mn ok) else pure (mn r)
theorem zf{jw:aa}(I:Nat->ae->Prop)(turn:∀n s (P1:Option aa->ae->Prop) (P2 bp:ae->Prop) (P3:Bool->ae->Prop) (P4:aa->ae->Prop) (a6:aa->ae->Prop),(∀m Y,m<n->I m Y->bp Y)->(∀aD,aM (cf cJ) aD->P1 ai aD)->
 (∀v aD,ax (aG prog w) A (jE cu it v) (λ_ uC=>ax (aG prog w) A (jI cu J v) (λ_ aQ=>P2 aQ) a6 uC) a6 aD->P1 (O v) aD)->(∀aQ,ax (aG prog w) A (o6 ifs J) P3 a6 aQ->P2 aQ)->
 (∀de,ax (aG prog w) A (aZ elt J) P4 a6 de->P3 N de)->(∀de,bp de->P3 af de)->(∀x fq,ax (aG prog w) A (call (bx "list.append") [jw,x]) (λ_=>bp) a6 fq->P4 x fq)->I n s->ax (aG prog w) A (gX it) P1 a6 s)(n:Nat)(h:I n s):
 oB (aG prog w) A (gZ (cP elt [⟨cu,iter,ifs,0⟩] scope pos) 0 it jw J) aM s:=by
 show codeAny_loop Z I (λn s hI=>?_) n h;show(?_:ax _ A ((uY (cP elt [⟨cu,iter,ifs,0⟩] scope pos) 0 it jw J).onRaise (λx=>do noteFrame x J;theTreesLotGoes x)) _ _ s);show wpAny_noted ?_;rw[compTurn_list];show ag (jV (ag (gU (turn n s (λr aD=>match r with
  |none=>aM (cf cJ) aD
  |some v=>ax (aG prog w) A (jE cu it v) (λ_ uC=>ax (aG prog w) A (jI cu J v) (λ_ aQ=>
   ax (aG prog w) A (forIn ifs N λc r=>if r=N then do let ok<-isTrue c J (aZ c J);pure (mn ok) else pure (mn r)) (λok de=>
    if ok=N then ax (aG prog w) A (aZ elt J) (λx fq=>
     ax (aG prog w) A (call (bx "list.append") [jw,x]) (λ_ hJ=>∃m,m<n/\I m hJ) (AF (aG prog w) A J λe Y=>aM (kX e) Y) fq) (AF (aG prog w) A J λe Y=>aM (kX e) Y) de
    else∃m,m<n/\I m de) (AF (aG prog w) A J λe Y=>aM (kX e) Y) aQ) (AF (aG prog w) A J λe Y=>aM (kX e) Y) uC) (AF (aG prog w) A J λe Y=>aM (kX e) Y) aD) _ (λY=>∃m,m<n/\I m Y) _ _ _
  (λm _ a b=>ct m a b) (λ_ h=>h) (λ_ _ h=>h) (λ_ h=>h) (λ_ h=>(if_pos Z).mpr h) (λ_ h=>(if_neg aK).mpr h) (λ_ _ h=>h) hI) (λr aD U=>?_) λ_ _ h'=>h')))
 cases r with
 |none=>show aB U
 |some v=>
  show ag (gU U (λ_ uC ω=>?_) λ_ _ h'=>h');show ag (gU ω (λ_ aQ ko=>ag (gU ko (λok de uj=>?_) λ_ _ h'=>h')) λ_ _ h'=>h');cases ok with
  |false=>show aB ⟨rfl,uj⟩
  |true=>show ag (ag (gU uj (λx fq Gz=>ag (gU Gz (λ_ hJ zU=>aB (aB ⟨rfl,zU⟩)) λ_ _ h'=>h')) λ_ _ h'=>h'))
theorem o7{vn:cg}{names:List (aP×uZ)}{x:aP}{k:uZ}(h:names.lookup x=O k):
 (names.map λ(n,k)=>if(k==eN && vn.scope.kind==d0 && vn.kindOf n==O dw) then(n,dw) else(n,k)).lookup x=O k\/
 (k=eN/\(names.map λ(n,k)=>if(k==eN && vn.scope.kind==d0 && vn.kindOf n==O dw) then(n,dw) else(n,k)).lookup x=O dw):=by
 induction names with
 |nil=>show Bq h
 |cons p r iH=>
  obtain⟨n,k'⟩:=p;have hd:∀q:aP×uZ,UE x (q::r.map λ(n,k)=>if(k==eN && vn.scope.kind==d0 && vn.kindOf n==O dw) then(n,dw) else(n,k))=bif x==q.1 then O q.2 else UE x (r.map λ(n,k)=>if(k==eN && vn.scope.kind==d0 && vn.kindOf n==O dw) then(n,dw) else(n,k)):=λq=>by change(match x==q.1 with|true=>_|false=>_)=_;cases x==q.1<;>rfl
  have hh:(match x==n with|true=>O k' |false=>r.lookup x)=O k:=h;show iJ.symm▸?_;dsimp only;by_cases hc:(k'==eN && vn.scope.kind==d0 && vn.kindOf n==O dw)=N
  .rw [if_pos hc,hd];cases E:x==n with|true=>rw[E]at hh;show aH ⟨(aV hh)▸eq_of_beq (fL.mp (fL.mp hc).1).1,rfl⟩|false=>rw[E]at hh;show iH hh
  .rw [if_neg hc,hd];cases E:x==n with|true=>rw[E]at hh;show ao hh|false=>rw[E]at hh;show iH hh
theorem wM(afe:∀x∈scope.names,x.2=eN->∃c,J.cells.lookup x.1=O c):
 ∃cl,qZ scope J=pure cl/\∀x,(x,eN)∈scope.names->cl.lookup x=J.cells.lookup x:=by
 delta qZ
 have key:∀(names:List (aP×uZ)) (cs:List (aP×ab)),(∀x∈names,x.2=eN->∃c,J.cells.lookup x.1=O c)->(∀x c,cs.lookup x=O c->J.cells.lookup x=O c)->
  ∃cl,(forIn names cs λx cs=>if(x.2==eN)=N then(do let c<-cellOf J x.1;pure (mn ((x.1,c)::cs))) else pure (mn cs):aE (List (aP×ab)))=pure cl/\
   (∀x,(x,eN)∈names\/cs.lookup x≠ai->cl.lookup x=J.cells.lookup x)/\(∀x c,cl.lookup x=O c->J.cells.lookup x=O c):=by
  intro names;induction names with
  |nil=>
   show λcs _ hc=>kF cs Z (λx E=>?_) hc;rcases E with E|E
   .ext
   .cases q:cs.lookup x with
    |none=>show(E q).elim
    |some c=>rw[hc x c q]
  |cons p names ih=>
   intro cs hn hc;obtain⟨n,k⟩:=p;rw[yf];by_cases hk:(k==eN)=N
   .show dG (hn (n,k) au (of_decide_eq_true hk)) λc hcn=>?_;have hc':∀x c',((n,c)::cs).lookup x=O c'->J.cells.lookup x=O c':=λx c' e=>by
     dsimp only[AO]at e;show boC (x==n) (λE=>?_) λE=>?_
     .replace e:=E▸e;show(by simpa using E)▸e▸hcn
     .have e:=E▸e;show hc x c' e
    show gC (ih ((n,c)::cs) (λx E=>hn x (dF _ E)) hc') λcl e1 e2 e3=>((kF cl ?_ (λx E=>?_) e3))
    .rw [hk,cellOf,hcn];show e1
    .show e2 x ?_;rcases E with E|E
     .show bf (bu.mp E) (λE=>?_) λE=>ao E;cases E
      right
      simp
     .right
      dsimp only[AO];cases x==n with
      |true=>show Option.some_ne_none c
      |false=>show E
   .show gC (ih cs (λx E=>hn x (dF _ E)) hc) λcl e1 e2 e3=>((kF cl ?_ (λx E=>?_) e3))
    .simp only[hk];show e1
    .show e2 x ?_;rcases E with E|E
     .show bf (bu.mp E) (λE=>?_) λE=>ao E;show Yq E λa1 a2=>?_;subst a1;subst a2;show(hk Z).elim
     .show aH E
 show gC (key scope.names [] afe (λx c e=>by ext)) λcl e1 e2 _=>((ct cl ?_ (λx E=>e2 x (ao E))));rw[<-e1];rw[bind_pure]
def lA(G:ie):LN->ie
 | []=>[]
 |y::fs=>(cq G y).elim (lA G fs) λp=>(y,p)::lA G fs
def pT(G:ie):LN->Bool
 | []=>N
 |y::fs=>(cq G y).isSome && pT G fs
def putAll:ie->LN->List Int->ie
 |G,x::K,k::ks=>putAll (jl G x 0 (a9 k)) K ks
 |G,_,_=>G
theorem GA(h:cq (lA G fs) y=O (k,av)):y∈fs/\cq G y=O (k,av):=by
 induction fs with
 |nil=>ext
 |cons z fs ih=>
  have h:cq ((cq G z).elim (lA G fs) λp=>(z,p)::lA G fs) y=O (k,av):=h;show O' (cq G z) (λq=>?_) λp q=>?_
  .rw [q]at h;show eX (ih h) λa b=>⟨by lia,b⟩
  .obtain ⟨k',mw⟩:=p;rw[q]at h;replace h:=(mx _ z k' mw y).symm.trans h;by_cases e:z=y
   .subst e;rw[if_pos Z]at h;cases h
    show⟨by lia,q⟩
   .simp [e]at h;show eX (ih h) λa b=>⟨by lia,b⟩
theorem OF(h:pT G fs=N)(hy:y∈fs):∃k av,cq G y=O (k,av):=by
 induction fs with
 |nil=>show kI hy
 |cons z fs ih=>have h:=fL.mp h;show bf (bu.mp hy) (λa1=>a1▸dG (yr.mp h.1) λp e=>qA p.1 p.2 e) λhy=>ih h.2 hy
theorem Dw{K:LN}:∀{ks:List Int} {G:ie} {y k:Nat} {av:AV},K.length=ks.length->cq (putAll G K ks) y=O (k,av)->
 (∃(j:Nat) (i:Int),K[j]? =O y/\ks[j]? =O i/\av=a9 i/\∀j':Nat,j<j'->K[j']? ≠O y)\/(y∉K/\cq G y=O (k,av)):=by
 induction K with
 |nil=>
  intro yY;cases yY with
  |nil=>intro G y k av _ h;show aH ⟨mW,h⟩
  |cons=>intros;first|ext|(simp at *)
 |cons x K iH=>
  intro yY;cases yY with
  |nil=>intros;first|ext|(simp at *)
  |cons i ks=>
   intro G y k av hl h;rcases iH (Nat.add_right_cancel hl) h with⟨j,i',h1,h2,h3,h4⟩|⟨h1,h2⟩
   .show ao (MB (j+1) i' h1 h2 h3 (λj' hj'=>?_));cases j' with|zero=>simp_all|succ j'=>show h4 j' (Ln.mp hj')
   .rw [fH]at h2;rcases yI (y=x) with e|e
    .subst e;replace h2:=(if_pos Z)▸h2;show Yq (aV h2) λa1 a2=>?_;subst a1;subst a2;show ao (MB 0 i Z Z Z (λj' hj'=>?_));cases j' with|zero=>simp_all|succ j'=>intro q;show h1 (cW (q))
    .rw [if_neg e]at h2;show aH ⟨gY e h1,h2⟩
structure ed(L scope:c9)(fs K:LN):Prop where
 kind:scope.kind=d0
 cell:∀y∈scope.names,y.2≠dw
 names:∀y∈scope.names,y.2=cZ->scope.names.lookup y.1=O cZ
 free:∀y∈scope.names,y.2=eN->y.1∈fs.map NM
 frees:∀y∈fs,scope.names.lookup (NM y)=O eN/\(NM y,eN)∈scope.names
 locs:∀x∈K,scope.names.lookup (NM x)=O cZ
 outer:∀y∈fs,L.names.lookup (NM y)=O dw\/L.names.lookup (NM y)=O eN
 nodup:K.Nodup
def ahf(L scope:c9)(fs K:LN):Bool:=
 scope.kind==d0 && scope.names.all (λy=>y.2 != dw) && scope.names.all (λy=>y.2 != cZ ||scope.names.lookup y.1==O cZ) &&
 scope.names.all (λy=>y.2 != eN ||(fs.map NM).contains y.1) && fs.all (λy=>scope.names.lookup (NM y)==O eN && scope.names.contains (NM y,eN)) &&
 K.all (λx=>scope.names.lookup (NM x)==O cZ) && fs.all (λy=>L.names.lookup (NM y)==O dw ||L.names.lookup (NM y)==O eN) && decide K.Nodup
theorem ed.of{K:LN}(h:ahf L scope fs K=N):ed L scope fs K:=by simp only[ahf,qr,mV,LJ,beq_iff_eq,bne_iff_ne,EK,decide_eq_true_eq]at h;obtain⟨⟨⟨⟨⟨⟨⟨h1,h2⟩,h3⟩,h4⟩,h5⟩,h6⟩,h7⟩,h8⟩:=h;show⟨h1,h2,λy hy e=>(h3 y hy).resolve_left (λq=>q e),λy hy e=>(h4 y hy).resolve_left (λq=>q e),h5,h6,h7,h8⟩
theorem ed.OG{K:LN}(c:ed L scope fs K)(r:ER H U L J s.heap G)(hG:pT G fs=N):
 ∃cl,qZ scope J=pure cl/\∀y∈fs,cl.lookup (NM y)=J.cells.lookup (NM y):=by
 obtain⟨cl,e1,e2⟩:=wM (λx E hk=>by
  show bh (bG.mp (c.free x E hk)) λy hy e=>jh (OF hG hy) λk av e3=>eQ (r.has y k av e3) λv F cB _=>have hk2:=r.WD _ (c.outer y hy);bf cB (λi0=>eX i0 λhl _=>?_) λi0=>iM i0 λ_ c' hc _=>?_
  .rw [hl]at hk2;rcases hk2 with hk2|hk2<;>ext
  .show ⟨c',e▸hc⟩)
 show ct cl e1 (λy hy=>e2 _ (c.frees y hy).2)
theorem ER.ahg{K:LN}(c:ed L scope fs K)(r:ER H U L J h G)(x:hx H h h')(jA:∀y∈fs,fV.cells.lookup (NM y)=J.cells.lookup (NM y))(fr:∀y∈fs,fV.kindOf (NM y)=O dw\/fV.kindOf (NM y)=O eN)(e:cq (lA G fs) y=O (k,av)):∃v F,Am fV h' (NM y) v/\bR h' av v F:=by
 show eX (GA e) λh3 h4=>eQ (r.has y k av h4) λv F cB aO=>have hk2:=r.WD _ (c.outer y h3);bf cB (λi0=>eX i0 λhl _=>?_) λi0=>oU i0 λ_ c' hc ht hv=>?_
 .rw [hl]at hk2;rcases hk2 with hk2|hk2<;>ext
 .show kH v F (aH ⟨fr y h3,c',(jA y h3).trans hc,ht,x.cell ht hv⟩) (aO.ext x)
theorem ER.ahh{K:LN}{ks:List Int}(c:ed L scope fs K)(r:ER H U L J h G)(x:hx H h h')(jA:∀y∈fs,fV.cells.lookup (NM y)=J.cells.lookup (NM y))(fr:∀y∈fs,fV.kindOf (NM y)=O dw\/fV.kindOf (NM y)=O eN)(n:h'.Ns fV.locals m)(ll:∀y∈K,fV.kindOf (NM y)=O cZ)(hl:K.length=ks.length)(hm:∀(j:Nat) x k,K[j]? =O x->ks[j]? =O k->∃t,m (NM x)=O (ah k t))(y k:Nat)(av:AV)(e:cq (putAll (lA G fs) K ks) y=O (k,av)):∃v F,Am fV h' (NM y) v/\bR h' av v F:=by
 rcases Dw hl e with⟨j,i,h1,h2,rfl,_⟩|⟨h1,h2⟩
 .show dG (hm j y i h1 h2) λt e3=>kH (ah i t) [] (ao ⟨ll y (cW h1),m,n,e3⟩) (.ofInt i t)
 .show r.ahg c x jA fr h2
theorem ab5{y:aP}(h:scope.names.lookup y=O eN):(jt scope cl aS J).kindOf y=O dw\/(jt scope cl aS J).kindOf y=O eN:=(o7 (vn:=J) h).elim aH λe=>ao e.2
theorem YE{y:aP}{k:uZ}(h:scope.names.lookup y=O k)(hk:k≠eN):(jt scope cl aS J).kindOf y=O k:=(o7 (vn:=J) h).elim id λe=>absurd e.1 hk
theorem ER.comp{K:LN}{ks:List Int}(c:ed L scope fs K)(r:ER H U L J h G)(x:hx H h h')(jA:∀y∈fs,cl.lookup (NM y)=J.cells.lookup (NM y))(n:h'.Ns aS m)(hC:aS∉bY)(hl:K.length=ks.length)(hm:∀(j:Nat) x k,K[j]? =O x->ks[j]? =O k->∃t,m (NM x)=O (ah k t)):ER H U scope (jt scope cl aS J) h' (putAll (lA G fs) K ks) where
 base:=r.base.trans x
 kind:=c.kind
 gl:=λ_ hy=>YE hy nofun
 WD:=λ_ hy=>hy.elim (λh=>ao (YE h nofun)) ab5
 glob:=r.glob
 bi:=r.bi
 loc:=hC
 has:=r.ahh c x jA (λy h=>ab5 (c.frees y h).1) n (λy h=>YE (c.locs y h) nofun) hl hm
theorem Stores.local(hC:J.locals=aS)(hk:J.scope.kind=d0):∀(K:LN) (ks:List Int) (s:ae) (m:aP->Option aa) (Q:ae->Prop) (a6:aa->ae->Prop),K.length=ks.length->K.Nodup->
 (∀x∈K,J.kindOf (NM x)=O cZ)->s.heap.Ns aS m->
 (∀Y m',gv aS s.heap Y.heap->Y.os=s.os->Y.drawn=s.drawn->Y.gens=s.gens->Y.heap.Ns aS m'->(∀(j:Nat) x k,K[j]? =O x->ks[j]? =O k->∃t,m' (NM x)=O (ah k t))->
  (∀y,(∀x∈K,y≠NM x)->m' y=m y)->Q Y)->Stores A J K ks Q a6 s:=by
 intro K;induction K with
 |nil=>
  intro ks s m Q a6 hl hd E n hq;cases ks with
  |cons=>ext
  |nil=>show hq s m (U8 ..) Z Z Z n (λj x k e=>by ext) (λ_ _=>rfl)
 |cons x K ih=>
  intro ks s m Q a6 hl hd E n hq;cases ks with
  |nil=>ext
  |cons i ks=>
  intro t;subst hC;show sy (E x au) n (λh' wx zQ=>?_) (by show hk.symm▸?_;rfl);show ih ks _ _ Q a6 (by simpa using hl) (by simp at hd;show hd.2) (λy hy=>E y au) wx λY m' h1 h2 h3 h4 h5 h6 h7=>(hq Y m' (zQ.trans h1) h2 h3 h4 h5 (λj y k e1 e2=>?_) (λy hy=>?_))
  .cases j with
   |zero=>
    simp at e1 e2;subst e1 e2;show DU t ?_;rw[h7 (NM x) (λz hz e=>?_)]
    .show if_pos Z
    .have:=CB e;subst this;simp at hd;show hd.1 hz
   |succ j=>show h6 j y k (e1) (e2)
  .rw [h7 y (λz hz=>hy z au)];show if_neg (hy x au)
noncomputable def kO(ns:List Int):AV:=bV (ns.map a9)
def OH(H:List ab)(U:aN)(A:ck)(L:c9)(J:cg)(G:ie):List aw->Bool->Prop
 | [],b=>b=N
 | [c],b=>oY H U A L J G c b
 |_,_=>False
inductive ahi(H:List ab)(aS a0:ab)(St:Nat->aN->Prop)(items:List (List Int))(p:List Int->Bool)(f:List Int->Int)(s:ae)(k:Nat)(Y:ae):Prop
 |mk (i:Nat) (m':aP->Option aa) (ys:List aa) (n:Nat) (e:k=items.length+1 - i) (hi:i<=items.length) (x:dz H s Y) (st:St i Y.heap) (nn:Y.heap.Ns aS m') (hd:Y.heap.get? a0=O (br ys n))
  (hV:bD Y.heap ((((items.take i).filter p).map f).map a9) ys [])
theorem Jr{lp:Bool}{K:LN}{items:List (List Int)}{p:List Int->Bool}{f:List Int->Int}{aQ:ae}{RR:aa->ab->sJ->ae->Prop}(B:Tp U)(c:ed L scope fs K)(r:ER H U L J s.heap G)(jA:∀y∈fs,cl.lookup (NM y)=J.cells.lookup (NM y))(dM:∀ks∈items,K.length=ks.length)(hsz:items.length<=1000000)(vG:∀ks∈items,∀fV,OH H U A scope fV (putAll (lA G fs) K ks) ifs (p ks))(GB:∀ks∈items,p ks=N->∀fV,V H U A scope fV (putAll (lA G fs) K ks) elt (a9 (f ks)) af)(uk:ψ H U A L J G cu K items lp s it aQ)(hRR:∀a0 aS Y m' (ys:List aa) n,dz H s Y->s.heap.get? a0=ai->s.heap.get? aS=ai->a0≠aS->a0∉bY->aS∉bY->Y.heap.Ns aS m'->Y.heap.get? a0=O (br ys n)->bD Y.heap (((items.filter p).map f).map a9) ys []->RR (R a0) aS (cf cJ) Y):
 ax (aG prog w) A (newList []) (λjw de=>ax (aG prog w) A (newFunctionEnv scope J.globals cl [] J.qual ai aA (O J)) (λcenv fq=>
  oB (aG prog w) A (oO (cP elt [⟨cu,iter,ifs,0⟩] scope pos) 0 it jw {cenv with scope:=ju scope J}) (RR jw cenv.locals) fq) a6 de) a6 aQ:=by
 obtain⟨e1,I,fp,wr,St,Tk,dH,_,φ,An,_⟩:=uk;show ig (Ap c.cell (by intro y hy;show kI hy) (λh3 r9 wN=>?_) c.kind);generalize Α:aQ.heap.push {cls:=ak "list",dict:=ai,data:=bU ([]:List aa).toArray}=H2 at r9 wN ⊢;have hC:H2.objs.size=aQ.heap.objs.size+1:=by rw[<-Α,dD]
 generalize hCC:H2.objs.size=aS at r9 wN hC ⊢;generalize hDD:aQ.heap.objs.size=a0 at hC ⊢;have YD:Q0<=a0:=by show hDD▸?_;show jy B (r.base.trans e1.ext)
 have Β:a0≠aS:=by rw[hC];show fB (ja _)
 have hDT:=fi YD;have Δ:aS∉bY:=fi (by rw[hC];show qk YD);have aeA:∀b:Nat,a0<=b->aQ.heap.get? b=ai:=λb hb'=>by
  cases q:aQ.heap.get? b with
  |none=>rfl
  |some o=>show absurd (cn q) (by rw[hDD];show j4.mpr hb')
 have hD2:=aeA a0 (ey _);have hC2:=aeA aS (by rw[hC];show lP _);have hDs:=e1.ext.new hD2;have hCs:=e1.ext.new hC2;have hDf:a0∉fp:=λhm=>by obtain⟨o,e⟩:=(An a0 hm).2;have e:=hD2.symm.trans e;ext
 have WN:aS∉fp:=λhm=>by obtain⟨o,e⟩:=(An aS hm).2;have e:=hC2.symm.trans e;ext
 have old:∀b o,aQ.heap.get? b=O o->h3.get? b=O o:=λb o e=>wN.extBut b o (λq=>by have e:=hC2▸q▸e;ext)<|Α▸a8 _ (a8 _ e);have oq:h3.get? a0=O (br [] 0):=wN.extBut a0 _ Β<|Α▸hDD▸a8 _ (bK _ Z);have Ε:=Tk.frame _ _ _ dH λb _ o e=>old b o e;have hwT:∀b∈wr,s.heap.get? b=ai/\b∉bY:=λb hb'=>⟨φ b hb',(An b (Tk.sub b hb')).1⟩;have loop:∀de:ae,de={aQ with heap:=h3,toks:=aQ.toks+([]:List (aP×aa)).length}->
  oB (aG prog w) A (gZ (cP elt [⟨cu,iter,ifs,0⟩] scope pos) 0 (R I) (R a0) (jt scope cl aS J)) (RR (R a0) aS) de:=by
  rintro de rfl;show zf (ahi H aS a0 St items p f s) ?_ (items.length+1)
   ⟨0,_,[],0,rfl,fg _,e1.trans ⟨.of_keep old,rfl,rfl,eV _⟩,Ε,r9,oq,.nil⟩
  rintro k Y P1 P2 bp P3 P4 E' q0 q1 q2 q3 q4 q5 q6 ⟨i,m',ys,n,dX,hi,x1,st,hn,hD,hV⟩;by_cases jz:i<items.length
  .show Tk.item i Y (jt scope cl aS J) P2 P1 E' jz st ?_ q2;intro s4 ks MS st4 IP;have hmem:=cW MS;show bh ((ct _ (intsAre_of hV (nW _)) Z)) λns IA wL=>(Stores.local (aS:=aS) Z c.kind K ks s4 m' _ _ (dM ks hmem) c.nodup (λx E=>?_) (hn.at' λo e=>IP.keep (λq=>WN (Tk.sub _ q)) e) λs5 m5 sb5 o5 d5 g5 n5 hm5 _=>?_)
   .rcases o7 (c.locs x E) with e|⟨e,_⟩
    .show e
    .ext
   have x5:=(x1.off IP hwT).but sb5 hCs Δ o5 d5 g5;have st5:=Tk.frame _ _ _ st4 λb hb' o e=>sb5.extBut b o (λq=>WN (q▸hb')) e;have D5:=sb5.extBut a0 _ Β (IP.keep (λq=>hDf (Tk.sub _ q)) hD);have er:=r.comp c x5.ext jA n5 Δ (dM ks hmem) hm5;have tests:T A (o6 ifs (jt scope cl aS J)) s5
    (λok s6=>dz H s5 s6/\ok=p ks):=by
    have q:=vG ks hmem (jt scope cl aS J);cases ifs with
    |nil=>show wpAny_tests_nil ⟨.refl _,(q).symm⟩
    |cons c l=>cases l with|nil=>show wpAny_tests_one (q er)|cons _ _=>show q.elim
   show q3 _ (tests.CA λok s6 x6 ot=>?_);have step:∀l:List Int,(l=if p ks=N then [f ks] else [])->(((items.take (i+1)).filter p).map f)=ns++l:=by intro l ρ;rw[take_succ_filter p items i ks MS,j0,<-wL,ρ];cases p ks<;>rfl
   show boC (p ks) (λhp=>?_) λhp=>?_
   .rw [hp]at ot;subst ot;show q4 _ ((GB ks hmem hp (jt scope cl aS J) (er.ext x6.ext)).CE λt s7 x7=>q6 _ _ ?_);have x67:=x6.trans x7;have ly:ys.length<=items.length:=by rw[bD.length hV];simp;show ba (AJ _ _) ?_;simp;show E4 _ _
    show Ao ⟨n,(x67.ext.keep a0 _ hDT D5)⟩ (λh8 Rj wb=>?_) (by have:fc=16777216:=rfl;simp;lia);show dG Rj λn8 e8=>have x8:dz H s {s7 with heap:=h8}:=(x5.trans x67).but wb hDs hDT Z Z Z;q0 (items.length+1 - (i+1)) _ (dX▸ru (kU jz) (ja i)) ⟨i+1,m5,ys++[ah (f ks) t],n8,rfl,jz,x8,?_,?_,?_,?_⟩
    .show Tk.frame _ _ _ (Tk.frame _ _ _ st5 λb hb' o e=>x67.ext.keep b o (An b hb').1 e) λb hb' o e=>wb.extBut b o (λq=>hDf (q▸hb')) e
    .show (x67.ext.ns Δ n5).sameBut wb (eO Β)
    .rw [e8];simp[br]
    .rw [step [f ks] (ml (if_pos hp))];show wK (IA.append (yE _ t qv))
   .rw [hp]at ot;subst ot;show q5 _ (q0 (items.length+1 - (i+1)) _ (dX▸ru (kU jz) (ja i)) ⟨i+1,m5,ys,n,rfl,jz,x5.trans x6,(Tk.frame _ _ _ st5 λb hb' o e=>x6.ext.keep b o (An b hb').1 e),x6.ext.ns Δ n5,x6.ext.keep a0 _ hDT D5,?_⟩);rw[step [] (by simp[hp]),yg];show wK IA
  .have:i=items.length:=by lia
   subst this;show Tk.done Y _ _ st λs4 IP=>(q1 _ (hRR a0 aS s4 m' ys n (x1.off IP hwT) hDs hCs Β hDT Δ (hn.at' λo e=>IP.keep (λq=>WN (Tk.sub _ q)) e) (IP.keep (λq=>hDf (Tk.sub _ q)) hD) ?_));rw[sR]at hV;show wK (intsAre_of hV (nW _))
 show codeAny_compStart_list (loop _ Z) (Tk.self 0 _ _ _ Ε (loop _ Z))
theorem V.comp{K:LN}{items:List (List Int)}(p:List Int->Bool)(f:List Int->Int){fr':Bool}(B:Tp U)(c:ed L scope fs K)(hG:pT G fs=N)(uk:YB H U A L J G iter cu K items)(dM:∀ks∈items,K.length=ks.length)(hsz:items.length<=1000000)(vG:∀ks∈items,∀fV,OH H U A scope fV (putAll (lA G fs) K ks) ifs (p ks))(GB:∀ks∈items,p ks=N->∀fV,V H U A scope fV (putAll (lA G fs) K ks) elt (a9 (f ks)) af)(hs:Fs iter J):
 V H U A L J G (cP elt [⟨cu,iter,ifs,0⟩] scope pos) (kO ((items.filter p).map f)) fr':=λs r=>by
 show bh (c.OG r hG) λcl jA wO=>Tv Z hs jA c.kind c.names<|(uk s r).wp λxv aD q=>q.wp λit aQ hI=>Jr B c r wO dM hsz vG GB hI λa0 aS Y m' ys n x' hD hC Β hDT Δ hn hd hV=>((ct m' hn (λh'' OI=>(oX [a0] (x'.but OI hC Δ Z Z Z) (rY [] hDT (OI.extBut a0 _ Β hd) (wK (intsAre_of hV (nW _)))) (λ_=>⟨λb hb'=>?_,by simp⟩)))));apply jS hb';show hD
theorem GC{py spos:aY}{K:LN}{items:List (List Int)}(p:List Int->Bool)(f:List Int->Int)(B:Tp U)(c:ed L scope fs K)(hG:pT G fs=N)(uk:YB H U A L J G iter cu K items)(dM:∀ks∈items,K.length=ks.length)(hsz:items.length<=1000000)(vG:∀ks∈items,∀fV,OH H U A scope fV (putAll (lA G fs) K ks) ifs (p ks))(GB:∀ks∈items,p ks=N->∀fV,V H U A scope fV (putAll (lA G fs) K ks) elt (a9 (f ks)) af)(hs:Fs iter J)(hy:L.names.lookup (NM y)=O cZ)(dH:bW G y=N)(Ζ:J.scope=L->fu (cP elt [⟨cu,iter,ifs,0⟩] scope pos) (O (ar (NM y) py)) spos.line J=pure N):
 S1 H U A L J (fE [ar (NM y) py] (cP elt [⟨cu,iter,ifs,0⟩] scope pos) spos) G (jl G y 1 (kO ((items.filter p).map f))) ai:=λD s W r=>by
 show bh (c.OG r.er hG) λcl jA wO=>(TF _ _ _ _ (Ζ r.scope)).symm▸ag (jV (ag ?_));show ag (gU (Tv Z hs jA c.kind c.names
  ((uk s r.er).wp λxv aD q=>q.wp λit aQ hI=>?_)) (λ_ Y hq=>aB (aB hq)) λ_ _ e=>e)
 show Jr B c r.er wO dM hsz vG GB hI λa0 aS Y m' ys n x' hD hC Β hDT Δ hn hd hV=>?_;have aO:bR Y.heap (kO ((items.filter p).map f)) (R a0) [a0]:=rY [] hDT hd hV;have hCW:aS∉W++[a0]:=λq=>by
  rcases b9.mp q with q|q
  .show oT (r.ji aS q) λ_ _ o e _=>?_;have e:=hC.symm.trans e;ext
  .simp at q;show Β q.symm
 show jD ((j9 (r.grow x'.ext) (ao hy) dH aO (.fresh (λb hb'=>by simp at hb';show hb'▸?_;show hD) fF (λb hb'=>by simp at hb';show hb'▸?_;show qA ys n hd) r x'.ext)).CA λ_ hJ r5 m5=>?_);show tD hn λoC esC epC hoC hdC Η=>have kC:=m5.mod.keep aS oC (λq=>hCW au) Δ hoC;ct m' ⟨oC,esC,epC,kC,hdC,Η⟩<|λh'' OI=>⟨((x'.smod W).trans m5 λd Θ=>ao Θ).off (wr:=[aS]) (λb o hb' e=>OI.extBut b o (by simpa using hb') e) (λb hb'=>by show bJ.mp hb'▸?_;show⟨hC,Δ⟩),rfl,W++[a0],?_,λd Θ=>?_⟩
 .show r5.off (wr:=[aS]) (λb o hb' e=>OI.extBut b o (by simpa using hb') e) (λb hb'=>?_);apply jS hb';show rN ⟨oC,kC,aH (ao ⟨esC,epC,hdC⟩)⟩ Δ (r.ext.new hC) hCW
 .show bf (b9.mp Θ) (λq=>ao q) λq=>bJ.mp q▸aH hD
theorem BG(h:bW G y=N):bW (jl G x 0 av) y=N:=by
 delta bW
 rw[fH];by_cases e:y=x
 .rw [if_pos e];rfl
 .rw [if_neg e];show h
theorem Stores.frame:∀(K:LN) (ks:List Int) (G:ie) (s:ae) (Q:ae->Prop) (a6:aa->ae->Prop),K.length=ks.length->FR H U D L J s.heap G W->
 (∀x∈K,Hx L x)->(∀x∈K,bW G x=N)->
 (∀Y,FR H U D L J Y.heap (putAll G K ks) W->mA W s Y->Q Y)->Stores A J K ks Q a6 s:=by
 intro K;induction K with
 |nil=>
  intro ks G s Q a6 hl r E dH hq;cases ks with
  |cons=>ext
  |nil=>show hq s r (.refl _ _)
 |cons x K ih=>
  intro ks G s Q a6 hl r E dH hq;cases ks with
  |nil=>ext
  |cons i ks=>
  show λt=>(j9 r (E x bC) (dH x bC) (.ofInt i t) (.flat Z)).CA λ_ aD r1 m1=>ih ks (jl G x 0 (a9 i)) aD Q a6 (by simpa using hl) r1 (λy hy=>E y (by simp[hy])) (λy hy=>BG (dH y (by simp[hy]))) λY r' m'=>hq Y r' (m1.trans m' λd hd=>ao hd)
theorem wQ{py pt:aY}{a b:Int}{t u:aW}{T:ab}{Q:ae->Prop}(hh:dh A)(hT:s.heap.IsTuple T #[ah a t,ah b u])(q:∀h3,(∀c o,s.heap.get? c=O o->h3.get? c=O o)->Stores A J [x,y] [a,b] Q a6 {s with heap:=h3}):
 ax (aG prog w) A (jI (ik [ar (NM x) px,ar (NM y) py] k0 pt) J (R T)) (λ_ Y=>Q Y) a6 s:=by
 show J7 hh hT Z Z λh3 he=>ag (cO (jD (gU ((q h3 (λc o e=>he c o (fB (cn e)) e)) t) (λ_ s4 q4=>?_) λ_ _ e=>e)));show ag (cO (jD (gU (q4 u) (λ_ s5 q5=>?_) λ_ _ e=>e)));show aB q5
theorem bR.pair{p:Int×Int}(aO:bR h (qN p) v F):∃T t u,v=R T/\h.IsTuple T #[ah p.1 t,ah p.2 u]:=by show gH aO λa ws n dX ht e4 e5=>dX▸kJ e5 λw1 ws1 _ _ qC e6 e7 _=>?_;subst qC;show kJ e7 λw2 ws2 _ _ DX e8 e9 _=>?_;subst DX;obtain⟨Of,_⟩:=e9;obtain⟨t,Z6⟩:=e6.toInt;obtain⟨u,eQ6⟩:=e8.toInt;show Of▸?_;subst Z6;subst eQ6;show⟨a,t,u,rfl,_,e4,rfl,n,rfl⟩
theorem WO{py pt:aY}{p:Int×Int}(hh:dh A)(he:V H U A L J G e (qN p) af)(E:∀z∈[x,y],Hx L z)(dH:∀z∈[x,y],bW G z=N)(hs:Kk [ik [ar (NM x) px,ar (NM y) py] k0 pt] e pos.line J=pure af)(hw:El [ik [ar (NM x) px,ar (NM y) py] k0 pt] e J=pure ai):
 S1 H U A L J (fE [ik [ar (NM x) px,ar (NM y) py] k0 pt] e pos) G (putAll G [x,y] [p.1,p.2]) ai:=λD s W r=>by
 show wpAny_Assign_stores ((he r.er).tM λv aD F e1 aO _=>?_) hs hw;show eY aO.pair λT t u dX hT=>dX▸wQ (px:=px) (py:=py) (pt:=pt) (k0:=k0) hh hT λh3 k3=>have x3:dz H s {aD with heap:=h3}:=e1.trans ⟨.of_keep k3,rfl,rfl,eV _⟩;Stores.frame [x,y] [p.1,p.2] G _ _ _ Z (r.grow (e1.ext.trans (.of_keep k3))) E dH λY r' m'=>tO (x3.sm m') r'
theorem ahj(I:Nat->ae->Prop)(turn:∀n s (P1:Option aa->ae->Prop) (P2:ae->Prop) (P3:b8->ae->Prop) (a6:aa->ae->Prop),(∀aD,aM (cf cJ) aD->P1 ai aD)->
 (∀v aD,ax (aG prog w) A (jE cu it v) (λ_ uC=>ax (aG prog w) A (jI cu J v) (λ_ aQ=>P2 aQ) a6 uC) a6 aD->P1 (O v) aD)->
 (∀aQ,ax (aG prog w) A (aU body J) P3 a6 aQ->P2 aQ)->(∀m de,m<n->I m de->P3 cJ de)->I n s->ax (aG prog w) A (gX it) P1 a6 s)(n:Nat)(h:I n s):oB (aG prog w) A (Fd cu it body [] J) aM s:=
 codeAny_forLoop_any I (λn s h=>turn n s _ _ _ _ (λ_ h=>Kd h) (λ_ _ h=>h) (λ_ h=>h) (λm _ a b=>ct m a b) h) n h
theorem mA.ahk{mE:ae}(m:mA W s Y)(o:Off wr Y mE)(hw:∀b∈wr,s.heap.get? b=ai/\b∉bY):mA W s mE:=eQ o λ_ _ e k=>e▸m.off k hw
inductive ahl(H:List ab)(U D:aN)(L:c9)(J:cg)(W fp:List ab)(iS:Nat->ie)(St:Nat->aN->Prop)(n₀:Nat)(s:ae)(k:Nat)(Y:ae):Prop
 |mk (i:Nat) (W':List ab) (e:k=n₀+1 - i) (hi:i<=n₀) (m:mA W s Y) (st:St i Y.heap) (r:FR H U D L J Y.heap (iS i) W') (hW:∀d,d∈W'->d∈W\/s.heap.get? d=ai) (fW:∀d∈fp,d∉W') (fe:∀d∈fp,∃o,Y.heap.get? d=O o)
theorem WQ{K:LN}{items:List (List Int)}(iS:Nat->ie)(uk:YB H U A L J G iter cu K items N)(h0:km (iS 0) G)(E:∀z∈K,Hx L z)(hl:∀ks∈items,K.length=ks.length)(dH:∀i,i<items.length->∀z∈K,bW (iS i) z=N)(step:∀i ks,items[i]? =O ks->SS H U A L J body (putAll (iS i) K ks) (iS (i+1)) ai)(hs:Fs iter J):
 S1 H U A L J (kZ cu iter body [] pos) G (iS items.length) ai:=λD s W r=>by
 show wpAny_For ((uk s r.er).wp λv aD q=>q.wp λit aQ q=>?_) hs;obtain⟨e1,I,fp,wr,St,Tk,st,Gv,φ,An,ap⟩:=q;have Gv:=Gv Z;have wrT:=λb hb'=>(An b (Tk.sub b hb')).1;have wrB:∀b∈wr,s.heap.get? b=ai/\b∉bY:=λb hb'=>⟨φ b hb',wrT b hb'⟩;show ahj (ahl H U D L J W fp iS St items.length s) ?_ (items.length+1) ⟨0,W,rfl,fg _,e1.smod _,st,(r.grow e1.ext).less h0,λd hd=>ao hd,λb hb'=>ap Z b hb' _ _ r,λd hd=>(An d hd).2⟩;rintro k Y P1 P2 P3 a6 q0 q1 q2 q3 ⟨i,W',dX,hi,m1,Oh,r',CH,hfW,hfe⟩;have wrF:∀b∈wr,kK Y.heap b/\b∉bY/\D.get? b=ai/\b∉W':=λb hb'=>⟨Gv i _ Oh b hb',wrT b hb',r.ext.new (φ b hb'),hfW b (Tk.sub b hb')⟩;rcases AX hi with jz|hie
 .show Tk.item i Y J P2 P1 a6 jz Oh (λs3 ks MS st3 aff=>?_) q1;show Stores.frame K ks (iS i) s3 _ _ (hl ks (cW MS)) (r'.off (λb o hb' e=>aff.keep hb' e) wrF) E (dH i jz) λs4 r4 m4=>q2 _<|have m3:=m1.ahk aff wrB;(step i ks MS r4).wpN λhJ W5 m5 r5 hW5=>?_;have ex3:∀d∈fp,∃o,s3.heap.get? d=O o:=λd hd=>if hdw:d∈wr then bh (Gv _ _ st3 d hdw) λo e _=>⟨o,e⟩ else dG (hfe d hd) λo e=>⟨o,aff.keep hdw e⟩
  have k35:=λd hd o e=>m5.mod.keep d o (hfW d hd) (An d hd).1 (m4.mod.keep d o (hfW d hd) (An d hd).1 e);show q3 (items.length+1 - (i+1)) _ (dX▸ru (kU jz) (ja i)) ⟨i+1,W5,rfl,jz,(m3.trans m4 CH).trans m5 CH,Tk.frame _ _ _ st3 (λd hd o e=>k35 d hd o e),r5,λd hd=>(hW5 d hd).elim (CH d) λh=>aH (m3.mod.new (m4.mod.new h)),λd hd hw=>?_,λd hd=>dG (ex3 d hd) λo e=>⟨o,k35 d hd o e⟩⟩;show(hW5 d hw).elim (hfW d hd) λh=>dG (ex3 d hd) λo e=>?_;have e4:=h.symm.trans (m4.mod.keep d o (hfW d hd) (An d hd).1 e);ext
 .subst hie;show Tk.done Y _ _ Oh λs4 IP=>q0 _ ⟨m1.ahk IP wrB,rfl,W',r'.off (λb o hb' e=>IP.keep hb' e) wrF,CH⟩
theorem ab6{ns:List Int}(iS:Nat->ie)(uk:zv H U A L J G iter ns)(h0:km (iS 0) G)(E:Hx L x)(dH:∀i,i<ns.length->bW (iS i) x=N)(step:∀i n,ns[i]? =O n->SS H U A L J body (jl (iS i) x 0 (a9 n)) (iS (i+1)) ai)(hs:Fs iter J):
 S1 H U A L J (kZ (ar (NM x) px) iter body [] pos) G (iS ns.length) ai:=by
 have e:(ns.map λn=>[n]).length=ns.length:=il ..;show e▸WQ iS uk.itc h0 (λz hz=>jS (P:=λz=>Hx L z) hz E) (λks hk=>bh (bG.mp hk) λ_ _ e=>e▸rfl) (λi hi z hz=>jS (P:=λz=>bW (iS i) z=N) hz (dH i (e▸hi))) (λi ks hk=>?_) hs;rw[cY]at hk;show bh (jb.mp hk) λn h e=>e▸step i n h
theorem ab7{py pt:aY}{ps:List (Int×Int)}(iS:Nat->ie)(hh:dh A)(B:Tp U)(he:V H U A L J G iter (bV K) N)(hi:K=ps.map qN)(h0:km (iS 0) G)(E:∀z∈[x,y],Hx L z)(dH:∀i,i<ps.length->∀z∈[x,y],bW (iS i) z=N)(step:∀i p,ps[i]? =O p->SS H U A L J body (putAll (iS i) [x,y] [p.1,p.2]) (iS (i+1)) ai)(hs:Fs iter J):
 S1 H U A L J (kZ (ik [ar (NM x) px,ar (NM y) py] k0 pt) iter body [] pos) G (iS ps.length) ai:=by
 have e:(ps.map λp=>[p.1,p.2]).length=ps.length:=il ..;show e▸WQ iS (Jq hh B he hi λ_=>rfl) h0 E (λks hk=>bh (bG.mp hk) λ_ _ e=>e▸rfl) (λi hi=>dH i (e▸hi)) (λi ks hk=>?_) hs;rw[cY]at hk;show bh (jb.mp hk) λn h e=>e▸step i n h
inductive afg(H:List ab)(U D:aN)(L:c9)(J:cg)(W:List ab)(iS:Nat->ie)(n₀:Nat)(s:ae)(k:Nat)(Y:ae):Prop
 |mk (i:Nat) (W':List ab) (e:k=n₀+1 - i) (hi:i<=n₀) (m:mA W s Y) (r:FR H U D L J Y.heap (iS i) W') (hW:∀d,d∈W'->d∈W\/s.heap.get? d=ai)
theorem ahm{Rk:aw}(I:Nat->ae->Prop)(turn:∀n s (P:Bool->ae->Prop) (P3:b8->ae->Prop) (a6:aa->ae->Prop),(∀aQ,aM (cf cJ) aQ->P af aQ)->(∀aQ,ax (aG prog w) A (aU body J) P3 a6 aQ->P N aQ)->(∀m de,m<n->I m de->P3 cJ de)->I n s->
 ax (aG prog w) A (isTrue Rk J (aZ Rk J)) P a6 s)(n:Nat)(h:I n s):oB (aG prog w) A (Code.whileLoop Rk body [] J) aM s:=
 codeAny_whileLoop I (λn s h=>turn n s _ _ _ (λ_ h=>(if_neg aK).mpr (Kd h)) (λ_ h=>(if_pos Z).mpr h) (λm _ a b=>ct m a b) h) n h
theorem YF{Rk:aw}(n:Nat)(iS:Nat->ie)(h0:km (iS 0) G)(go:∀i,i<n->oY H U A L J (iS i) Rk N/\SS H U A L J body (iS i) (iS (i+1)) ai)(stop:oY H U A L J (iS n) Rk af):S1 H U A L J (U7 Rk body [] pos) G (iS n) ai:=λD s W r=>by
 show wpAny_While (ahm (afg H U D L J W iS n s) ?_ (n+1) ⟨0,W,rfl,fg _,.refl _ _,r.less h0,λd hd=>ao hd⟩);rintro k Y P P3 a6 q0 q1 q2 ⟨i,W',dX,hi,m1,r',CH⟩;rcases AX hi with jz|hie
 .show eX (go i jz) λg1 g2=>(g1 r'.er).wpB λaQ x2=>q1 _<|(g2 (r'.grow x2.ext)).wpN λde W3 m3 r3 hW3=>(q2 (n+1 - (i+1)) _ (dX▸ru (kU jz) (ja i)) ⟨i+1,W3,rfl,jz,(m1.trans (x2.smod W') CH).trans m3 CH,r3,λd hd=>(hW3 d hd).elim (CH d) λh=>aH (m1.mod.new (x2.ext.new h))⟩)
 .cases hie
  show(stop r'.er).wpB λaQ x2=>q0 _ ⟨m1.trans (x2.smod W') CH,rfl,W',r'.grow x2.ext,CH⟩
theorem YG(B:cA U mg mb)(I:dQ mg mb)(kM:Gi L "list")(he:V H U A L J G e (bV K) af)(dH:cG e=af)(hf:iT K=N)(hl:dY K.length 1000000=N):V H U A L J G (bI (ar (aC "list") np) [e] [] pos) (bV K) fr:=λs r=>by show mB ("list") ("list") B I aK kM (rfl) (fJ.cons he fJ.nil dH) (by simp[dW,dH]) r λvs aD F e1 V1=>?_;apply nF V1;intro v G1 V2;apply fP V2;intro a us n F' ht a3 a4 eF3;have l1:=bD.length a4;have hl:=dO hl;show call_list_seq a (ao Z) a3 Z Z (λh' c' keep hd=>?_) (by have:fc=16777216:=rfl;simp;lia);have hF:=cV.2 _ _ _ hf a4;subst hF;show⟨e1.trans ⟨.of_keep keep,rfl,rfl,eV _⟩,[aD.heap.objs.size],rY [] (fi (jy B.top (r.base.trans e1.ext))) hd (a4.ext (H:=H) (.of_keep keep)),λ_=>⟨λb D=>?_,by simp⟩⟩;apply jS D;show e1.ext.new (bF _)
theorem MT{np' wy:aY}(hh:dh A)(B:cA U mg mb)(I:dQ mg mb)(kM:Gi L "list")(afh:Gi L "range")(he:V H U A L J G e (a9 (aj k)) af)(dH:cG e=af)(hk:k<=1000000):
 V H U A L J G (bI (ar (aC "list") np) [bI (ar (aC "range") np') [e] [] wy] [] pos) (kO (Dt 0 1 k)) fr:=λs r=>by
 have hI:=I ("list",ak "list") aK;show l9<|(ez B r kM hI.1 hI.2 (rfl)).Dq<|A7 (Kb ?_ Z) Z Z;show mB ("range") ("range") B I aK afh (rfl) (fJ.cons he fJ.nil dH) (by simp[dW,dH]) r λvs aD F e1 V1=>?_;apply nH V1;show λt=>sG<|T4<|call_list_range hh (vp ..) (uX fF (W.kbt_pos 62) fF au) (by rw[uU];split<;>lia:kY 0 (aj k) 1=((k:Nat):Int)) au λh' tk jw c' keep hd hi=>?_;have IA:fh jw.toList (Dt 0 1 k):=by
  show eX hi λi1 i2=>?_;have key:∀(vs:List aa) (ns:List Int),vs.length=ns.length->(∀(j:Nat) v,vs[j]? =O v->∃n t,ns[j]? =O n/\v=ah n t)->fh vs ns:=by
   intro vs;induction vs with
   |nil=>intro ns hl _;cases ns with|nil=>show qv|cons n ns=>ext
   |cons v vs ih=>
    intro ns hl hv;cases ns with
    |nil=>ext
    |cons n ns=>show eQ (hv 0 v Z) λm t h1 dX=>dX▸have h1:=aV h1;h1▸yE n t (ih ns (by simpa using hl) λj v e=>by simpa using hv (j+1) v (e))
  show key _ _ (MQ▸i1) λj v e=>?_;obtain⟨t,hv⟩:=i2 j v (by simpa using e);have hj:j<jw.size:=by have:=(dR.mp e).1;show this
  show kH _ t (o4.mpr ⟨by lia,rfl⟩) hv
 show⟨e1.trans ⟨.of_keep (λb o e=>keep b o (a8 _ e)),rfl,rfl,eV _⟩,[aD.heap.objs.size+1],?_,λ_=>⟨λb D=>?_,by simp⟩⟩
 .show X' (aD.heap.objs.size+1) jw.toList c' [] (by rw[dD]) (fi (qk (jy B.top (r.base.trans e1.ext)))) ?_ (wK IA) Z;rw[dD]at hd;rw[hd];rfl
 .rw [bJ]at D;subst D;show e1.ext.new ?_;cases q:aD.heap.get? (aD.heap.objs.size+1) with|none=>rfl|some o=>show absurd (cn q) (j4.mpr (lP _))
theorem MU{ws ws':List aa}{n':Nat}{row ab8:List AV}(hs:gv a h h')(hm:Cx h a)(ha:h.get? a=O (br ws n))(Z7:h'.get? a=O (br ws' n'))(aO:bD h' ab8 ws' [])(hat:a∉bY):
 ∀(cj:List AV) (vs:List aa) (F:List ab) (i:Nat),bD h cj vs F->F.Nodup->cj[i]? =O (bV row)->iT row=N->vs[i]? =O (R a)->bD h' (cj.set i (bV ab8)) vs F:=by
 intro xX;induction xX with
 |nil=>intro vs F i _ _ hi _ _;ext
 |cons x cj iH=>
  intro vs F i r hd hi hf hv;have keep:∀b o,b∉[a]->b∉bY->h.get? b=O o->h'.get? b=O o:=λb o D _ e=>(hs.2 b (vw D)).trans e;have hmm:∀b∈[a],Cx h b\/kK h b:=λb D=>by show bJ.mp D▸?_;show ao hm
  show kJ r λv tK F1 F2 dX e2 e3 qC=>?_;subst dX;subst qC;show hb (qh.mp hd) λd1 d2 d3=>?_;cases i with
  |zero=>
   simp at hi hv;subst hi hv;show iP e2 λa' us m F' e4 e5 e6 e7 DX=>?_;subst DX;obtain rfl:=j6 e4;replace e6:=ha▸e6;cases e6
   have hF':=cV.2 _ _ _ hf e7;subst hF';show eg [a] F2 (rY [] hat Z7 aO) (e3.off keep hmm _ _ _ (λb D hq=>?_));apply jS hq;show d3 b (by assumption) b D Z
  |succ i=>
   have hi':cj[i]? =O (bV row):=hi;have hv':tK[i]? =O (R a):=hv;show jx (bD.get e3 hi') λu F3 g1 g2 g3=>?_;obtain rfl:=aV (hv'.symm.trans g1);have haF:a∈F2:=by show iP g2 λa' us m F' e4 e5 e6 e7 Of=>?_;subst Of;obtain rfl:=j6 e4;show g3 a au
   show DW v tK F1 F2 Z (e2.off keep hmm _ _ _ (λb D hq=>?_)) (iH tK F2 i e3 d2 hi' hf hv') Z;obtain rfl:=bJ.mp hq;show d3 b D b haF Z
theorem Ι{i j:aw}{cj row:List AV}{ni nj:Nat}{p' p'':aY}(E:cq G x=O (1,bV cj))(OJ:cj[ni]? =O (bV row))(hf:iT row=N)(he:V H U A L J G e av af)(hfa:flat av=N)(hi:V H U A L J G i (a9 (aj ni)) af)(r8:j8 i=af)(hl1:dY ni 1000000=N)(hj:V H U A L J G j (a9 (aj nj)) af)(hjl:jK nj row.length=N)(hl:dY row.length 1000000=N)(hs:fu e (O (dk (dk (ar (NM x) p) i p'') j p')) pos.line J=pure af):
 S1 H U A L J (fE [dk (dk (ar (NM x) p) i p'') j p'] e pos) G (jl G x 1 (bV (cj.set ni (bV (row.set nj av))))) ai:=λD s W r=>by
 show J0 ((he r.er).tM λu aD F1 e1 V1 _=>?_) hs
 -- the row
 show rF<|(zR (r.grow e1.ext).er E).wp λv aQ oj=>iM oj λe2 F2 cB V2=>?_;subst e2;show(hi (r.grow e1.ext).er).wp λiv de oj=>iM oj λe3 F3 V3 _=>og λgG kG=>(dG V3.toInt λt dX=>?_);have V2':=V2.ext e3.ext;obtain⟨⟨T',id,hT,hlk⟩,hg⟩:=Jm (A:=A) (t:=t) V2' (by simp only[WE,hl1];show OJ:WE (.list cj) (aj ni)=O (.list row));show kG ?_;clear kG gG;show dX▸vi hT hlk ?_ (uA r8 v _)
 -- its place is known exactly
 show fO V2' λa vs n F' qC ht a3 a4 DX=>(jx (bD.get a4 OJ) λrv Fr g1 g2 g3=>?_);subst qC;subst DX;have hb0:=dO hl1;show TR (bX a3) au au (by simpa using g1)<|(hj ((r.grow e1.ext).grow e3.ext).er).wp λjv fq Κ=>iM Κ λe4 F4 V4 _=>(dG V4.toInt λt' Of=>?_);show Of▸iP ((g2.ext e4.ext)) λra ws m Q8 Z6 rt r3 r4 eQ6=>?_;subst Z6;subst eQ6;have hl:=dO hl;have hjl:nj<row.length:=dO hjl;have l1:=bD.length r4;have afc:=cV.2 _ _ _ hf r4;subst afc;have hF1:=cV.1 _ _ _ hfa V1;subst hF1;have e14:=(e1.trans e3).trans e4;show qW r3 au au jP<|have rG:=r.grow e14.ext;have H4:=cB.ext (e3.trans e4).ext (r.ji _ r.loc).2.1;have V24:=V2'.ext e4.ext;jh rG.ents λval fp q=>(mz (q x 1 _ E) λb1 b2 b3 _=>?_);have tQ:(a::F').Nodup:=by show(by rw[<-(H4.uniq b1)]at b2;show bR.uniq b2 V24)▸?_;show(b3 Z).1
 have hup:=ς (v:=u) (j:=nj) r3;have wb:=j5 fq.heap ra (dP λK=>K.setIfInBounds nj u);have afi:Cx fq.heap ra:=ct _ r3 (ao ⟨rfl,_,_,rfl⟩);have hra:a≠ra:=λe=>(ro.mp tQ).1 (g3 _ au);have Vn:bR (fq.heap.update ra (dP λK=>K.setIfInBounds nj u)) (bV (cj.set ni (bV (row.set nj av)))) (R a) (a::F'):=by show rY F' ht ((wb.2 a hra).trans (e4.ext.keep a _ ht a3)) (MU wb afi r3 hup ?_ rt cj vs F' ni (a4.ext e4.ext) (ro.mp tQ).2 OJ hf au);show bD.set (F:=[]) nj hf (r4.off (W:=[ra]) (λb o hb' _ e=>(wb.2 b (by simpa using hb')).trans e) (λb hb'=>by simp at hb';subst hb';show ao afi) _ _ _ (λb hb'=>by cases hb')) ((V1.ext (e3.trans e4).ext).off (W:=[ra]) (λb o hb' _ e=>(wb.2 b (by simpa using hb')).trans e) (λb hb'=>by simp at hb';subst hb';show ao afi) _ _ _ (λb hb'=>by cases hb'))
 show eX (rG.ahd E H4 V24 (by simp[g3 ra bC]) wb hup Vn) λr2 m2=>tO (e14.mm m2) r2
theorem kq(names:List (aP×uZ)):∀(n:Nat) (jw:List (aP×ab)) (x:aP),((x,dw)∈names\/(jw.lookup x).isSome=N)->((xS n names jw).lookup x).isSome=N:=by
 induction names with
 |nil=>show λ_ _ _ h=>h.elim kI id
 |cons p r iH=>
  intro n jw x h;obtain⟨m,k⟩:=p;unfold xS;by_cases hk:(k==dw)=N
  .rw [if_pos hk];show iH _ _ x ?_;rcases h with h|h
   .show bf (bu.mp h) (λh=>?_) λh=>ao h;cases h
    right
    simp
   .right
    dsimp only[AO];cases x==m with
    |true=>rfl
    |false=>show h
  .rw [if_neg hk];show iH _ _ x ?_;rcases h with h|h
   .show bf (bu.mp h) (λh=>?_) λh=>ao h;cases h
    show(hk Z).elim
   .show aH h
noncomputable def qF:LN->List AV->ie
 |x::K,av::avs=>(x,0,av)::qF K avs
 |_,_=>[]
theorem CK{K:LN}:∀{avs:List AV} {y k:Nat} {av:AV},cq (qF K avs) y=O (k,av)->k=0/\∃i:Nat,K[i]? =O y/\avs[i]? =O av/\∀j:Nat,j<i->K[j]? ≠O y:=by
 induction K with
 |nil=>intro _ _ _ _ h;show Bq h
 |cons x K iH=>
  intro yY;cases yY with
  |nil=>intro _ _ _ h;show Bq h
  |cons a avs=>
   intro y k av h;replace h:=(mx _ x 0 a y).symm.trans h;rcases yI (x=y) with e|e
   .subst e;rw[if_pos Z]at h;cases h
    show⟨rfl,0,rfl,rfl,λj hj=>by simp_all⟩
   .rw [if_neg e]at h;show oU (iH h) λh1 i h2 h3 h4=>(⟨h1,i+1,h2,h3,λj hj=>?_⟩);cases j with|zero=>simpa using e|succ j=>show h4 j (Ln.mp hj)
theorem Rl(J:cg)(K:LN):∀(vs:List aa) (m cm:aP->Option aa) (i x:Nat) (v:aa),K.Nodup->K.length=vs.length->K[i]? =O x->vs[i]? =O v->
 (J.kindOf (NM x)=O cZ->bindL J.kindOf ((K.map NM).zip vs) m (NM x)=O v)/\(J.kindOf (NM x)≠O cZ->bindC J.kindOf ((K.map NM).zip vs) cm (NM x)=O v):=by
 induction K with
 |nil=>intro _ _ _ i x v _ _ h _;ext
 |cons y K iH=>
  intro yY;cases yY with
  |nil=>intro _ _ i x v _ h _ _;ext
  |cons u vs=>
   intro m cm i x v hd hl h1 h2;have rest:∀(K:LN) (vs:List aa) (m:aP->Option aa),y∉K->bindL J.kindOf ((K.map NM).zip vs) m (NM y)=m (NM y)/\bindC J.kindOf ((K.map NM).zip vs) m (NM y)=m (NM y):=by
    intro K;induction K with
    |nil=>intro vs m _;show⟨rfl,rfl⟩
    |cons z K ih=>
     intro vs m hz;cases vs with
     |nil=>show⟨rfl,rfl⟩
     |cons u vs=>
      simp at hz;have qE:=λe=>hz.1 (CB e);simp only[iJ,KV,bindL,bindC];show⟨?_,?_⟩
      .rw [(ih vs _ hz.2).1];split
       .show if_neg qE
       .rfl
      .rw [(ih vs _ hz.2).2];split
       .rfl
       .show if_neg qE
   simp at hd hl;cases i with
   |zero=>simp at h1 h2;subst h1 h2;simp only[iJ,KV,bindL,bindC];show⟨λhk=>by rw[(rest K vs _ hd.1).1,if_pos hk];show if_pos Z,λhk=>by rw[(rest K vs _ hd.1).2,if_neg hk];show if_pos Z⟩
   |succ i=>show iH vs _ _ i x v hd.2 hl (h1) (h2)
structure FnAt(U:aN)(a:ab)(fd:bQ):Prop where
 obj:∃o,U.get? a=O o/\o.data=qo fd
 off:a∉bY
 code:∃c oc ws t,fd.code=R c/\c∉bY/\U.get? c=O oc/\oc.data=bH ws/\ws[1]? =O (cI fd.qualname t)
theorem FnAt.ab9(f:FnAt U a fd)(x:hx H U h):h.CodeRec fd.code fd.qualname:=
 fO f.code λc oc ws t e1 e2 e3 e4 e5=>DW c oc ws t e1 (x.keep c _ e2 e3) e4 e5
theorem WR{P:Nat->Nat->AV->aa->List ab->Prop}(key:∀y k av,cq G y=O (k,av)->∃v F,P y k av v F):∃(val:Nat->aa) (fp:Nat->List ab),∀y k av,cq G y=O (k,av)->P y k av (val y) (fp y):=by have h:∀y,∃vf:aa×List ab,∀k av,cq G y=O (k,av)->P y k av vf.1 vf.2:=λy=>O' (cq G y) (λq=>q.symm▸⟨(aA,[]),λk av e=>by ext⟩) λp q=>q.symm▸jh (key y p.1 p.2 q) λv F hp=>⟨(v,F),λk av e=>by obtain rfl:=aV e;show hp⟩;show qA (λy=>(VT (h y)).1) (λy=>(VT (h y)).2) (λy k av e=>Classical.choose_spec (h y) k av e)
noncomputable def aeB(bw:Nat)(L:c9):List ab:=bw::((xS (bw+1) L.names []).filter λp=>(xS (bw+1) L.names []).lookup p.1==O p.2).map (·.2)
theorem FR.start{K:LN}(B:Tp U)(x1:hx H U s.heap)(aO:bD s.heap avs vs F)(hk:fd.scope.kind=d0)(hg:fd.globals=ef)(hbi:fd.builtins=fY)(hd:K.Nodup)(hl:K.length=vs.length)(E:∀x∈K,Hx fd.scope x)(x:InCallC s (gI fd s.heap.objs.size a).locals (bindL (gI fd s.heap.objs.size a).kindOf ((K.map NM).zip vs) λ_=>ai) (gI fd s.heap.objs.size a).cells
 (bindC (gI fd s.heap.objs.size a).kindOf ((K.map NM).zip vs) λ_=>ai) aD):
 FR H U s.heap fd.scope (gI fd s.heap.objs.size a) aD.heap (qF K avs) (aeB s.heap.objs.size fd.scope):=by
 have WI:∀y,(gI fd s.heap.objs.size a).kindOf y=fd.scope.names.lookup y:=λ_=>rfl;have top:=jy B x1;have keep:=x.toInCall.keep;have abv:=λn c h=>x.above n c ((rfl:(gI fd s.heap.objs.size a).cells=xS (s.heap.objs.size+1) fd.scope.names [])▸h);show⟨x1,.of_keep keep,rfl,hk,hg,hbi,AK Z,(DU _ x.toInCall.ns),λy hy=>?_,λy z c hy h2 h3=>(CB (name_of_addr x.apart (mG h2) (mG h3))).symm,λb hb'=>?_,?_⟩
 .show dG (yr.mp (kq fd.scope.names (s.heap.objs.size+1) [] (NM y) (ao (mG hy)))) λc hc=>have hm:=mG hc;wD c hc ⟨_,x.cell (NM y) c hc⟩ (fi (ba top (gx (abv _ _ hm))))<|aH<|bZ _ (bG.mpr (ct _ (gq.mpr ⟨hm,by simpa using hc⟩) Z))
 .rcases bu.mp hb' with rfl|hb'
  .show gQ (bF _) (fi top) (MO x.toInCall.ns)
  .obtain ⟨⟨n,c⟩,hm,rfl⟩:=bG.mp hb';show eX (gq.mp hm) λhm hc=>?_;have hc:(xS (s.heap.objs.size+1) fd.scope.names []).lookup n=O c:=by simpa using hc
   have jz:=abv n c hm;show gQ ?_ (fi (ba top (gx jz))) (Gn (x.cell n c hc));cases q:s.heap.get? c with
   |none=>rfl
   |some o=>show absurd (cn q) (j4.mpr (gx jz))
 .have fW:∀b∈F,b∉aeB s.heap.objs.size fd.scope:=λb hb' hw=>by
   show iM (bD.kinds aO b hb') λ_ o e _=>?_;have jz:=cn e;rcases bu.mp hw with rfl|hw
   .show gw _ jz
   .obtain ⟨⟨n,c⟩,hm,rfl⟩:=bG.mp hw;show gw _ (fZ jz (abv n c (gq.mp hm).1))
  -- a value and a Yw for each name
  have key:∀y k av,cq (qF K avs) y=O (k,av)->∃v F',Am (gI fd s.heap.objs.size a) aD.heap (NM y) v/\bR aD.heap av v F'/\k=0/\∀b∈F',b∈F:=λy k av e=>by show oU (CK e) λdX i h2 h3 _=>dX▸jx (bD.get aO h3) λv F' g1 g2 g3=>eX (Rl (gI fd s.heap.objs.size a) K vs (λ_=>ai) (λ_=>ai) i y v hd hl h2 g1) λq1 q2=>MB v F' ?_ (g2.ext (H:=H) (.of_keep keep)) Z g3;show bf (E y (cW h2)) (λhy=>ao ⟨hy,_,x.toInCall.ns,q1 hy⟩) λhy=>?_;show dG (yr.mp (kq fd.scope.names (s.heap.objs.size+1) [] (NM y) (ao (mG hy)))) λc hc=>?_;have ic:=x.cell (NM y) c hc;rw[q2 (by rw[WI,hy];decide)]at ic;show aH ⟨ao hy,c,hc,fi (ba top (gx (abv _ _ (mG hc)))),ic⟩
  show jh (WR key) λval fp q=>((qA val fp (λy k av e=>?_)));show iL (q y k av e) λp1 p2 p3 p4=>⟨p1,p2,(λh1=>by have h1:=p3▸h1;ext),λ_ b hb'=>fW b (p4 b hb')⟩
theorem hx.up(x:hx H h h')(nN:∀b∈H,b∈τ'):hx τ' h h':=⟨x.keep,x.tab,x.there,λb o D hq e=>x.quiet b o D (λq=>hq (nN b q)) e⟩
theorem dz.up(x:dz H s Y)(nN:∀b∈H,b∈τ'):dz τ' s Y:=⟨x.ext.up nN,x.os,x.drawn,x.gens⟩
theorem ER.up(r:ER H U L J h G)(nN:∀b∈H,b∈τ'):ER τ' U L J h G:=⟨r.base.up nN,r.kind,r.gl,r.WD,r.glob,r.bi,r.loc,r.has⟩
theorem FR.up(r:FR H U D L J h G W)(nN:∀b∈H,b∈τ'):FR τ' U D L J h G W:=
 ⟨r.b1.up nN,r.ext.up nN,r.scope,r.kind,r.glob,r.bi,r.loc,r.ns,r.cell,r.pS,r.ji,r.ents⟩
def EVm(H τ':List ab)(U:aN)(A:ck)(L:c9)(J:cg)(G:ie)(e:aw)(av:AV)(fr:Bool):Prop:=
 ∀⦃s:ae⦄,ER H U L J s.heap G->T A (aZ e J) s (EP τ' s av fr)
def pL(H τ':List ab)(U:aN)(A:ck)(L:c9)(J:cg)(ss:List bT)(G G':ie)(ret:Option AV):Prop:=
 ∀⦃D:aN⦄ ⦃s:ae⦄ ⦃W:List ab⦄,FR H U D L J s.heap G W->T A (aU ss J) s (BD τ' U D L J W s G' ret)
def S1m(H τ':List ab)(U:aN)(A:ck)(L:c9)(J:cg)(st:bT)(G G':ie)(ret:Option AV):Prop:=
 ∀⦃D:aN⦄ ⦃s:ae⦄ ⦃W:List ab⦄,FR H U D L J s.heap G W->T A (mU st J) s (BD τ' U D L J W s G' ret)
protected theorem SS.m{ret:Option AV}(x:SS H U A L J ss G G' ret):pL H H U A L J ss G G' ret:=x
theorem pL.cons{ahn:List ab}{G1 G2:ie}{ret:Option AV}(h1:S1m H τ' U A L J st G G1 ai)(h2:pL τ' ahn U A L J ss G1 G2 ret):pL H ahn U A L J (st::ss) G G2 ret:=λD s W r=>uR<|(h1 r).wpN λaD W1 m1 r1 hw1=>(h2 r1).mono λf2 aQ q=>q.behind m1 hw1
theorem Λ{G1:ie}(h1:S1m H τ' U A L J st G G1 (O av)):pL H τ' U A L J (st::ss) G G1 (O av):=λD s W r=>uR<|(h1 r).wp λf aD oj=>yK oj λm1 x v F hf aO=>hf▸⟨m1,x,v,F,rfl,aO⟩
protected theorem S1m.ret(nN:∀b∈H,b∈τ')(h:EVm H τ' U A L J G e av af):S1m H τ' U A L J (yt (O e) pos) G G' (O av):=λD s W r=>
 xH ((h r.er).tM λv aD F e1 aO _=>⟨e1.smod W,(r.ext.up nN).trans e1.ext,v,F,rfl,aO⟩)
theorem wR(dH:dW (e::es)=N):cG e=af/\dW es=N:=by simp only[dW,EV,qr,ve]at dH;show dH
theorem Rm{fn:aP}{K:LN}(B:cA U mg mb)(hg:mg fn=O (R a))(kM:L.names.lookup fn=O kV)(hdb:(fn==("__debug__" :aP))=af)(hf:FnAt U a fd)(OK:fd.body=lh body)(afj:fd.closure=[])(Dx:fd.scope.isCoroutine=af)(zg:fd.scope.isGenerator=af)(sd:∀vs,vs.length=K.length->du fd ⟨vs,[]⟩=pure ((K.map NM).zip vs))(hk:fd.scope.kind=d0)(hgl:fd.globals=ef)(hbi:fd.builtins=fY)(tQ:K.Nodup)(dM:K.length=avs.length)(E:∀x∈K,Hx fd.scope x)(bM:A.depth<1000)(he:fJ H U A L J G (e::es) avs)(dH:dW (e::es)=N)(hss:∀bw,pL H τ' U (A.deeper (gI fd bw a)) fd.scope (gI fd bw a) body (qF K avs) G' (O av))(Z5:fr=N->flat av=N)(nN:∀b∈H,b∈τ'):
 EVm H τ' U A L J G (bI (ar fn np) (e::es) [] pos) av fr:=λs r=>by
 show eX (wR dH) λh1 h2=>bh hf.obj λo ho hd=>l9 (qY (pO r.kind (r.gl fn kM) (r.glob▸B.mg r.base) hg ?_) hdb);show LX (o:=o) (fd:=fd) ?_;rw[dp h1];show evalArgs_plain ?_;have Jp:=he s pos r;rw[dp h1]at Jp;show Jp.Q5 λvs aD F x1 aO=>have b1:=r.base.trans x1.ext;have QU:=b1.keep a _ hf.off ho;⟨⟨QU,hd⟩,kT ?_⟩;have hvl:vs.length=K.length:=by rw[bD.length aO,dM]
 show codeAny_call_cells (by assumption) QU hd (B.zr b1) (hf.ab9 b1) OK (sd vs hvl) afj (λx hxm=>?_) (λaQ ic=>?_) Dx zg hk
 .obtain ⟨n,v⟩:=x;show bh (bG.mp ((sS hxm).1)) λy hy dX=>(dX▸?_);rcases E y hy with q|q
  .show ao q
  .show aH ⟨q,kq _ _ _ _ (ao (mG q))⟩
 .show eQ ic.done λhh tk e2 _=>(hss _ (FR.start B.top b1 aO hk hgl hbi tQ hvl.symm E ic)).wp λf de oj=>yK oj λm3 x3 v F3 hf3 V3=>(hf3▸?_);have Rn:aQ.os=aD.os/\aQ.drawn=aD.drawn/\aQ.gens=aD.gens:=by show e2▸?_;show gQ Z Z Z
  show⟨(x1.up nN).trans ⟨x3,m3.os.trans Rn.1,m3.drawn.trans Rn.2.1,m3.gens.trans Rn.2.2⟩,F3,V3,λq=>?_⟩;rw[cV.1 _ _ _ (Z5 q) V3];show⟨λ_ D=>(kI D),rJ⟩
theorem Ro{f:Nat}{cvs:List AV}{K:LN}(B:cA U mg mb)(hxx:cq G x=O (k,tJ f ns cvs))(Dx:(ST f).scope.isCoroutine=af)(zg:(ST f).scope.isGenerator=af)(OA:∀y∈(ST f).scope.names,y.2≠dw)(sd:∀fd:bQ,fd.params=(ST f).params->fd.defaults=aA->fd.kwdefaults=aA->∀vs,vs.length=K.length->du fd ⟨vs,[]⟩=pure ((K.map NM).zip vs))(hk:(ST f).scope.kind=d0)(tQ:K.Nodup)(dM:K.length=avs.length)(E:∀x∈K,(ST f).scope.names.lookup (NM x)=O cZ)(hn:∀x∈ns,(ST f).scope.names.lookup (NM x)=O eN)(bM:A.depth<1000)(he:fJ H U A L J G (e::es) avs)(dH:dW (e::es)=N)(hss:∀fV,SS H U (A.deeper fV) (ST f).scope fV (ST f).body (qF K avs++qF ns cvs) G' (O av))(Z5:fr=N->flat av=N):
 V H U A L J G (bI (ar (NM x) np) (e::es) [] pos) av fr:=λs r=>by
 show eX (wR dH) λh1 h2=>l9<|(zR r hxx).η λfv F0 H0 V0=>og λgG kG=>ki V0 λa o fd cs alE F' dX hat ho hd P i1 i2 e5 qC=>fO i1 λc oc ws t c1 c2 c3 c4 c5=>hb i2 λq l1 l2=>kG ?_;clear kG gG;show dX▸LX (o:=o) (fd:=fd) ?_;rw[dp h1];show evalArgs_plain ?_;have Jp:=he s pos r;rw[dp h1]at Jp;show Jp.Q5 λvs aD F x1 aO=>have b1:=r.base.trans x1.ext;have QU:=x1.ext.keep a _ hat ho;⟨⟨QU,hd⟩,kT ?_⟩;have hvl:vs.length=K.length:=by rw[bD.length aO,dM]
 show J3 (by assumption) QU hd (P.2.2.2.1▸Dx) (P.2.2.2.1▸zg) P.2.2.1 ((DW c oc ws t c1 (x1.ext.keep c _ c2 c3) c4 (P.1▸c5)))<|(show([]:List aa)++vs=vs from rfl).symm▸(sd fd P.2.1 P.2.2.2.2.2.2.1 P.2.2.2.2.2.2.2 vs hvl).symm▸aB (Ap (P.2.2.2.1▸OA) (λy hy=>?_) (λh3 r9 wN=>?_) (P.2.2.2.1▸hk))
 .obtain ⟨n,v⟩:=y;show bh (bG.mp (sS hy).1) λz hz DX=>DX▸P.2.2.2.1.symm▸E z hz
 .have hL:=bF aD.heap;have x3:hx H aD.heap h3:=.of_keep (λb o e=>wN.extBut b o (fB (cn e)) (a8 _ e));show⟨B.zr (b1.trans x3),Kn ?_⟩;have rev:∀i y v,K[i]? =O y->vs[i]? =O v->((K.map NM).zip vs).reverse.lookup (NM y)=O v:=λi y v hy hv=>by
   have key:∀(l:List (aP×aa)),(l.map (·.1)).Nodup->∀n v,(n,v)∈l->l.lookup n=O v:=by
    intro l;induction l with
    |nil=>intro _ n v h;ext
    |cons p l ih=>
     show λaca n v hm=>og λgG kG=>?_;obtain⟨n',v'⟩:=p;show kG ?_;clear kG gG;simp at aca;dsimp only[AO];rcases bu.mp hm with hm2|hm2
     .show Yq hm2 λa1 a2=>?_;subst a1;subst a2;simp
     .cases hq:n==n' with
      |true=>rw[(by symm;simpa using hq:n'=n)]at aca;show((aca.1 v) hm2).elim
      |false=>show ih aca.2 n v hm2
   show key _ ?_ _ _ ?_
   .rw [List.map_reverse];show List.pairwise_reverse.mpr (abp eO ?_);have:(((K.map NM).zip vs).map (·.1))=K.map NM:=by rw[List.map_fst_zip];simp[hvl]
    rw[this];show abq NM (λa b hab e=>hab (CB e)) tQ
   .rw [ES];show KS.mpr ⟨i,?_⟩;rw[List.zip,EJ,cY,hy,hv];rfl
  have fr0:FR H U aD.heap (ST f).scope (newEnv fd.scope aD.heap.objs.size fd.globals fd.closure (fd.qualname++ ".<locals>.") (O a) fd.code eU fd.builtins) h3 (qF K avs++qF ns cvs) [aD.heap.objs.size]:=by
   have WI:∀y,(newEnv fd.scope aD.heap.objs.size fd.globals fd.closure (fd.qualname++ ".<locals>.") (O a) fd.code eU fd.builtins).kindOf y=(ST f).scope.names.lookup y:=λy=>by show P.2.2.2.1▸?_;rfl
   show⟨b1,x3,P.2.2.2.1,hk,P.2.2.2.2.1,P.2.2.2.2.2.1,bJ.mpr Z,(DU _ r9),λy hy=>absurd Z (OA _ (mG hy)),λy z c' hy=>absurd Z (OA _ (mG hy)),λb hb'=>?_,?_⟩
   .apply jS hb';show gQ hL (fi (jy B.top b1)) (MO r9)
   .have key:∀y k' mw,cq (qF K avs++qF ns cvs) y=O (k',mw)->∃v F',Am (newEnv fd.scope aD.heap.objs.size fd.globals fd.closure (fd.qualname++ ".<locals>.") (O a) fd.code eU fd.builtins) h3 (NM y) v/\bR h3 mw v F'/\k'=0/\∀b∈F',∃o,aD.heap.get? b=O o:=λy k' mw e=>by
     rcases(Oy e) with e|e
     .show oU (CK e) λdX i g2 g3 _=>dX▸jx (bD.get aO g3) λv F' g4 g5 g6=>((MB v F' (ao ⟨by rw[WI];show E y (cW g2),_,r9,rev i y v g2 g4⟩) (g5.ext x3) Z (λb hb'=>?_)));show iM (g5.kinds b hb') λ_ o' e' _=>DU o' e'
     .show oU (CK e) λdX i g2 g3 _=>dX▸lZ (q i y g2) λc' v' g4 g5 g6 g7 g8=>(jx (bD.get e5 g3) λv Q8 g9 g10 g11=>?_);replace g9:=g5▸g9;obtain rfl:=aV g9;have x13:=x1.ext.trans x3;show MB v' Q8 (aH ⟨aH (by rw[WI];show hn y (cW g2)),c',g6,g7,x13.cell g7 g8⟩) (g10.ext x13) Z<|λb hb'=>iM ((g10.ext x1.ext).kinds b hb') λ_ o' e' _=>DU o' e'
    show jh (WR key) λval fp q'=>((qA val fp (λy k' mw e=>?_)));show iL (q' y k' mw e) λr1 r2 r3 r4=>(⟨r1,r2,(λh1=>by have h1:=r3▸h1;ext),λ_ b hb' hw=>?_⟩);obtain rfl:=bJ.mp hw;show dG (r4 _ hb') λo' e'=>?_;have e':=hL.symm.trans e';ext
  show(hss _ (s:={aD with heap:=h3,toks:=aD.toks+((K.map NM).zip vs).length}) fr0).wp λfl de oj=>yK oj λm3 x4 v F3 hf3 V3=>hf3▸⟨x1.trans ⟨x4,m3.os,m3.drawn,m3.gens⟩,F3,V3,λq=>?_⟩;rw[cV.1 _ _ _ (Z5 q) V3];show⟨λ_ D=>(kI D),rJ⟩
inductive afk(H:List ab)(U D:aN)(L:c9)(J:cg)(h:aN)(G:ie)(y:Nat)(av:AV)(W:List ab):Prop
 |mk (W':List ab) (c:ab) (v:aa) (F:List ab) (r:FR H U D L J h (jl G y 2 av) W') (w:∀b∈W',b∈W) (y1:J.cells.lookup (NM y)=O c) (y2:c∉bY) (y3:h.IsCell c (O v)) (y4:c∉W') (y5:bR h av v F) (y6:∀b∈F,b∉W')
theorem FR.freeze(r:FR H U D L J h G W)(hy:cq G y=O (0,av))(hk:L.names.lookup (NM y)=O dw):
 afk H U D L J h G y av W:=by
 show lY (r.cell y hk) λc c1 c2 c3 c4=>dG c2 λcv c2=>jh r.ents λval fp q=>mz (q y 0 av hy) λa1 a2 _ a4=>?_;have hcv:h.IsCell c (O (val y)):=by
  show bf a1 (λi0=>eX i0 λk1 _=>?_) λi0=>oU i0 λ_ c' e1 _ e3=>?_
  .have:J.kindOf (NM y)=O dw:=by delta j7;show(r.scope)▸?_;show hk
   have k1:=this.symm.trans k1;ext
  .replace e1:=c1▸e1;show aV e1▸e3
 show⟨abY W [c],c,val y,fp y,?_,λb hb'=>(iU.mp hb').1,c1,c3,hcv,λhm=>(iU.mp hm).2 au,a2,λb hb' hm=>a4 aK b hb' (iU.mp hm).1⟩;show⟨r.b1,r.ext,r.scope,r.kind,r.glob,r.bi,iU.mpr ⟨r.loc,λhm=>?_⟩,r.ns,λz hz=>?_,r.pS,λb hb'=>r.ji b (iU.mp hb').1,val,fp,λx k mw e=>?_⟩
 .show dG r.ns λm n=>?_;rw[bJ.mp hm]at n;show Ns.mM n c2
 .show lY (r.cell z hz) λd d1 d2 d3 d4=>((wD d d1 d2 d3 ?_));show if hzy:z=y then hzy▸ao ⟨av,by rw[fH,if_pos Z]⟩ else ?_
  rcases d4 with⟨av2,d4⟩|d4
  .show ao ⟨av2,by rw[fH,if_neg hzy];show d4⟩
  .show aH (iU.mpr ⟨d4,λhm=>hzy (r.pS y z d hk (bJ.mp hm▸c1) d1)⟩)
 .rw [fH]at e;by_cases hxy:x=y
  .cases hxy
   replace e:=(if_pos Z)▸e;show Yq (aV e) λa1 a2=>?_;subst a1;subst a2;show⟨a1,a2,(λh1=>by ext),λ_ b hb' hm=>a4 aK b hb' (iU.mp hm).1⟩
  .rw [if_neg hxy]at e;show mz (q x k mw e) λb1 b2 b3 b4=>(⟨b1,b2,λh1=>⟨(b3 h1).1,λb hb'=>?_⟩,λh1 b hb' hm=>b4 h1 b hb' (iU.mp hm).1⟩);show qD ((b3 h1).2 b hb') λp1 p2 p3=>(⟨iU.mpr ⟨p1,λhm=>p2.mM (bJ.mp hm▸c2)⟩,p2,λz k3 Yv e3 hz=>?_⟩);rw[fH]at e3;show if hzy:z=y then p3 z 0 av (hzy▸hy) hz else ?_
   rw[if_neg hzy]at e3;show p3 z k3 Yv e3 hz
theorem aeC{nm qn:aP}{params:Ex}{dv:List aa}{ln:Nat}{b1 b2:Bool}(h1:dv.isEmpty=b1)(h2:cl.isEmpty=b2)(jA:qZ scope J=pure cl)(afl:docOf body=ai)(h:ax M A (do
 let dV<-if b1 then pure aA else newTextTuple dv
 let cT<-if b2 then pure aA else newTextTuple ((cl.mergeSort λa b=>a.1.cps.toList<=b.1.cps.toList).map (R ·.2))
 let code<-functionCode J pos ln nm qn params scope (lh body)
 let bi<-builtinsFor J.globals J.builtins
 let m<-nsGet J.globals "__name__"
 newObj (ak "function") (qo {name:=nm,qualname:=qn,params,body:=lh body,scope,globals:=J.globals,closure:=cl,closureTuple:=cT,code,builtins:=bi,defaults:=dV,kwdefaults:=aA,annotations:=ai,pyModule:=m.getD aA,doc:=aA})) Q a6 s):
 ax M A (Ko nm qn params (lh body) scope J dv [] [] pos ln) Q a6 s:=by
 delta Ko
 show((by rw[List.zip_nil_right];rfl:((params.kwonlyargs.zip ([]:List (Option aa))).filterMap λ(a,d)=>d.map (a.arg,·))=[])).symm▸jA.symm▸?_;subst h2;show h1.symm▸?_;simp only[afl];show h
theorem Rp{f z:Nat}{ay az:AV}{c P:ab}{params:Ex}(B:cA U mg mb)(aho:PlainDefTree (NM x) params body scope pos)(hy:cq G y=O (0,ay))(hz:cq G z=O (0,az))(hyz:z≠y)(hxy:x≠y)(hxz:x≠z)(hky:L.names.lookup (NM y)=O dw)(hkz:L.names.lookup (NM z)=O dw)(hkx:L.names.lookup (NM x)=O dw)(dH:bW G x=N)(ahp:∀p∈scope.names,p.2=eN->p.1=NM y\/p.1=NM z)(hfy:(NM y,eN)∈scope.names)(hfz:(NM z,eN)∈scope.names)(afl:docOf body=ai)(hS:ST f=⟨NM x,J.qual++NM x,params,body,scope⟩)(o8:J.code=R c)(hc:c∉bY)(ot:U.IsCode c P #[])(vH:U.TableAt c P #[])(hP:P∈bY)(o9:P∉H)(kr:P∈τ')(nN:∀b∈H,b∈τ'):
 S1m H τ' U A L J (A5 (NM x) params body [] ai [] scope ai (NM x) pos) G (jl (jl (jl G y 2 ay) z 2 az) x 0 (tJ f [y,z] [ay,az])) ai:=λD s W r=>by
 obtain⟨W1,cy,vy,Fy,r1,w1,y1,y2,y3,y4,y5,y6⟩:=r.freeze hy hky;obtain⟨W2,cz,vz,Fz,r2,w2,z1,z2,z3,z4,z5,z6⟩:=r1.freeze (by rw[fH,if_neg hyz];show hz) hkz;have b0:=r.base
 -- the ajZ table is as the top left it
 have OL:s.heap.TableAt c P #[]:=by obtain⟨⟨o,vs,t1,t2,t3,t4⟩,t5⟩:=vH;show⟨(MB o vs (b0.keep c _ hc t1) t2 t3 t4),b0.quiet P _ hP o9 t5⟩
 have hq:qualnameIn J (NM x) (NM x)=J.qual++NM x:=by
  delta qualnameIn j7
  show r.scope.symm▸hkx.symm▸?_;rfl
 rw[aho,hq];show ag<|jV<|ag<|cO<|og λgG kG=>?_;obtain⟨cl,jA,wO⟩:=wM (J:=J) (λp hp hk=>by
  rcases ahp p hp hk with e|e
  .show ⟨cy,by show(e)▸?_;show y1⟩
  .show ⟨cz,e▸z1⟩)
 have qE:cl.isEmpty=af:=by
  cases cl with
  |nil=>have:=wO _ hfy;have this:=this.trans y1;ext
  |cons p cl=>rfl
 have top:=jy B.top b0;show vt B.bmod λbm ob hbm Rq hbT Rr Rt GG BH=>kG ?_;clear kG gG;show aeC Z qE jA afl<|ag<|aB<|ag<|TS<|ag (TN o8 ((FH ot (λ_=>b0.keep c _ hc) λ_=>b0.quiet P _ hP o9).push _) (OL.push _) Z λc' h3 tk E hge jz _ Ru YH _=>?_);have ahq:=ba (by rw[dD];show lP _) hge;have x3:hx τ' s.heap h3:=by
  show⟨λb o hb' e=>E b o (λq=>hb' (q▸hP)) (a8 _ e),λb hb' ps e=>?_,λb o e=>?_,λb o hb' hq' e=>E b o (λq=>hq' (q▸kr)) (a8 _ e)⟩
  .show if Μ:b=P then ?_ else⟨#[],E b _ Μ (a8 _ e)⟩
   cases Μ
   have:=OL.2;have hps:ps=#[]:=by
    injection (aV (e.symm.trans this)) with _ _ h3 _
    injection h3
   show hps▸⟨_,YH.2⟩
  .show if Μ:b=P then Μ▸⟨_,YH.2⟩ else⟨o,E b o Μ (a8 _ e)⟩
 have bg3:h3.Ns J.globals mg:=by show(r.glob)▸?_;show B.mg ((b0.up nN).trans x3)
 show ag<|Eh bg3 hbm Rq (((b0.up nN).trans x3).keep bm _ hbT Rr) Rt GG BH<|ag<|xP bg3<|ag<|Au<|aB<|ag (jV (ag (Ej ?_)));generalize hfd:({name:=NM x,qualname:=J.qual++NM x,params:=params,body:=lh body,scope:=scope,globals:=J.globals,closure:=cl,defaults:=aA,kwdefaults:=aA,doc:=_,pyModule:=_,annotations:=_,code:=_,closureTuple:=_,builtins:=fY}:bQ)=fd;have f10:fd.closure=cl:=congrArg _ hfd.symm;have x4:hx τ' h3 (h3.push {cls:=ak "function",data:=qo fd}):=.push _ _;have x34:=x3.trans x4;have aO:bR (h3.push {cls:=ak "function",data:=qo fd}) (tJ f [y,z] [ay,az]) (R h3.objs.size) ([cy,cz]++(Fy++(Fz++[]))):=by
  show gu Ru λc2 o2 vs2 t2 e2 g2 r21 r22=>?_;obtain rfl:=j6 e2;show⟨h3.objs.size,_,fd,[cy,cz],[vy,vz],Fy++(Fz++[]),rfl,fi (ba top (ba ahq (gx jz))),bK _ Z,rfl,(hfd▸hS▸⟨rfl,rfl,rfl,rfl,r.glob,rfl,rfl,rfl⟩),
   (X' c' o2 vs2 t2 (congrArg _ hfd.symm) (fi (ba top ahq)) (a8 _ g2) r21 (by show(hS)▸?_;show r22)),(gQ (λi u hu=>?_) Z Z),?_,rfl⟩
  .cases i with
   |zero=>show aV hu▸U' cy vy Z Z (f10▸(wO _ hfy)▸y1) y2 (x34.cell y2 y3)
   |succ i=>cases i with|zero=>show aV hu▸U' cz vz Z Z (f10▸(wO _ hfz)▸z1) z2 (x34.cell z2 z3)|succ i=>ext
  .show eg Fy (Fz++[]) (y5.ext x34) (eg Fz [] (z5.ext x34) .nil)
 have hFW:∀b∈[cy,cz]++(Fy++(Fz++[])),b∉W2:=λb hb' hm=>by
  revert hm
  show zM (P:=λb=>b∈W2->False) hb' (λhm=>y4 (w2 _ hm)) λhb'=>zM (P:=λb=>b∈W2->False) hb' z4 λhb' hm=>bf (b9.mp (show b∈Fy++(Fz++[]) from hb')) (λh=>y6 b h (w2 _ hm)) λh=>z6 b ((yg Fz)▸h) hm
 have CL:bW (jl (jl G y 2 ay) z 2 az) x=N:=by
  delta bW
  rw[fH,if_neg hxz,fH,if_neg hxy];show dH
 show(j9 (s:={s with heap:=h3.push {cls:=ak "function",data:=qo fd},toks:=tk}) (((r2.up nN).grow x34)) (aH hkx) CL aO (.alias hFW)).CA λ_ s5 r5 m5=>aB<|have m4:mA W s {s with heap:=h3.push {cls:=ak "function",data:=qo fd},toks:=tk}:=⟨x34.mod W,rfl,rfl,eV _⟩;⟨m4.trans m5 (λd hd=>ao (w1 d (w2 d hd))),rfl,W2,r5,λd hd=>ao (w1 d (w2 d hd))⟩
noncomputable def aT(n:Nat):AV:=a9 (aj n)
def a7(ns:LN):AV:=bV (ns.map aT)
theorem CM(n:Nat):flat (aT n)=N:=rfl
theorem hO(ns:LN):iT (ns.map aT)=N:=by
 induction ns with
 |nil=>rfl
 |cons n ns ih=>assumption
theorem dS(ns:LN):je (ns.map aT)=O (ns.map aj):=by
 induction ns with
 |nil=>rfl
 |cons n ns ih=>show congrArg (U4 (aj n::·)) ih
theorem jN(ns:LN):wa (a7 ns)=N:=by
 induction ns with
 |nil=>rfl
 |cons n ns ih=>assumption
theorem fj{a i:aw}(ha:V H U A L J G a (a7 ns) af)(hi:V H U A L J G i (aT k) af)(hk:k<ns.length)(hl:ns.length<=1000)(r8:j8 i=af):V H U A L J G (dk a i pos) (aT (ns.getD k 0)) fr:=by show wJ ha hi ?_ r8 (λ_=>rfl);show(?_:cond (dY k 1000000) ((ns.map aT)[k]?) eU=_);show(eT au:dY k 1000000=N).symm▸cY.symm▸(dE hk).symm▸da.symm▸(dE hk).symm▸?_;rfl
theorem fk{a b:aw}(ha:V H U A L J G a (aT x) af)(D:V H U A L J G b (aT y) af):
 V H U A L J G (eu a rL b pos) (aT (x+y)) fr:=V.bin .add ha D Z
theorem nt{a b:aw}(ha:V H U A L J G a (aT x) af)(D:V H U A L J G b (aT y) af):
 V H U A L J G (eu a Bh b pos) (aT (x ^^^ y)) fr:=V.bin .xor ha D Z
theorem lQ{a b:aw}(ha:V H U A L J G a (aT x) af)(D:V H U A L J G b (aT y) af)(h:y<=x):
 V H U A L J G (eu a FF b pos) (aT (x - y)) fr:=V.bin .sub ha D (by change O (aj x - aj y)=_;rw[(by lia:aj x - aj y=aj (x - y))])
theorem lR{a b:aw}(ha:V H U A L J G a (aT x) af)(D:V H U A L J G b (aT y) af)(h:x<1000000):
 V H U A L J G (eu a vo b pos) (aT (x * y)) fr:=V.bin .mul ha D (by show(?_:cond (oW (aj x)) _ _=_);show(by show decide_eq_true au:oW (aj x)=N).symm▸?_;rfl)
theorem yM{a b:aw}(ha:V H U A L J G a (aT x) af)(D:V H U A L J G b (aT y) af)(h:0<y):
 V H U A L J G (eu a Bj b pos) (aT (x % y)) fr:=V.bin .fmod ha D (by change cond (decide (0<aj y)) _ _=_;rw[decide_eq_true (by show AG.mpr h)];rw[EE _ fF];rfl)
theorem MV{a b:aw}(ha:V H U A L J G a (aT x) af)(D:V H U A L J G b (aT y) af)(h:0<y)(h2:y<1000000):
 V H U A L J G (eu a FE b pos) (aT (x / y)) fr:=V.bin .fdiv ha D (by change cond (oW (aj y) && decide (0<aj y)) _ _=_;rw[(by show decide_eq_true au:oW (aj y)=N),decide_eq_true (by show AG.mpr h)];rw[Int.fdiv_eq_ediv_of_nonneg _ fF];rfl)
theorem GH{a b c:aw}{m:Nat}{wy:aY}(ha:V H U A L J G a (aT x) af)(D:V H U A L J G b (aT y) af)(hc:V H U A L J G c (aT m) af)(h:0<m)(hy:y<=m):V H U A L J G (eu (eu a FF b pos) Bj c wy) (aT ((x+m - y) % m)) fr:=V.bin .fmod (V.bin .sub ha D Z) hc (by
 change cond (decide (0<aj m)) _ _=_;rw[decide_eq_true (by show AG.mpr h)];congr 1;have e:aj x - aj y=aj (x+m - y) - aj m:=by lia
 rw[e,EE _ fF];have e2:(aj (x+m - y) - aj m) % aj m=aj (x+m - y) % aj m:=by rw[Int.sub_emod_right]
 rw[e2];rfl)
theorem aR(n:Nat):V H U A L J G (gn (jc (aj n)) k pos) (aT n) fr:=V.int
theorem acb{a b:aw}(ha:V H U A L J G a (aT x) af)(D:V H U A L J G b (aT y) af):
 oY H U A L J G (jZ a [FL] [b] pos) (decide (x<y)):=by
 have:=my (pos:=pos) .lt ha D;have e:gS .lt (aj x) (aj y)=decide (x<y):=decide_eq_decide.mpr fF;rw[e]at this;show this
theorem WS{a b:aw}(ha:V H U A L J G a (aT x) af)(D:V H U A L J G b (aT y) af):
 oY H U A L J G (jZ a [VZ] [b] pos) (decide (x<=y)):=by
 have:=my (pos:=pos) .le ha D;have e:gS .le (aj x) (aj y)=decide (x<=y):=decide_eq_decide.mpr fF;rw[e]at this;show this
theorem vI{a b:aw}(ha:V H U A L J G a (aT x) af)(D:V H U A L J G b (aT y) af):
 oY H U A L J G (jZ a [CmpOp.Gt] [b] pos) (decide (y<x)):=by
 have:=my (pos:=pos) .gt ha D;have e:gS .gt (aj x) (aj y)=decide (y<x):=decide_eq_decide.mpr fF;rw[e]at this;show this
theorem BJ{a b:aw}(ha:V H U A L J G a (aT x) af)(D:V H U A L J G b (aT y) af):
 oY H U A L J G (jZ a [Bn] [b] pos) (decide (x=y)):=by
 have:=my (pos:=pos) .eq ha D;have e:gS .eq (aj x) (aj y)=decide (x=y):=by
  delta gS
  lia
 rw[e]at this;show this
theorem yN{a b:aw}(ha:V H U A L J G a (aT x) af)(D:V H U A L J G b (aT y) af):
 oY H U A L J G (jZ a [FK] [b] pos) (decide (x≠y)):=by
 have:=my (pos:=pos) .ne ha D;have e:gS .ne (aj x) (aj y)=decide (x≠y):=by
  delta gS
  lia
 rw[e]at this;show this
theorem kb{a:aw}(B:cA U mg mb)(I:dQ mg mb)(kM:Gi L "len")(ha:V H U A L J G a (a7 ns) af)(dH:cG a=af)(hl:ns.length<=1000):V H U A L J G (bI (ar (aC "len") np) [a] [] pos) (aT ns.length) fr:=by have:=V.len (fr:=fr) (np:=np) (pos:=pos) B I kM ha dH (eT jP);rw[il]at this;show this
theorem yO:Q4.length=255:=by rfl
theorem GI:∀n,(Cz n).length=256
 | 0=>rk ..
 |n+1=>(EU ..).trans (GI n)
theorem tR:wB.length=256:=GI 255
theorem Rv{p:Nat}(h:p<256):II p<256:=
 (by decide:∀p,p<256->II p<256) p h
theorem ON:∀n,pw n<256
 | 0=>by decide
 |n+1=>Rv (ON n)
theorem YI:∀n,n<=255->∀k,(Cz n).getD k 0<255:=by
 intro xX;induction xX with
 |zero=>intro _ k;show(?_:(cb 256 0)[k]?.getD 0<255);rw[Um];split<;>decide
 |succ n iH=>
  intro h k;show(?_:((Cz n).set (pw n) n)[k]?.getD 0<255);rw[EN];split
  .split
   .show h
   .decide
  .show iH (rx h) k
noncomputable def lg(a:Nat):Nat:=wB.getD a 0
noncomputable def FT(k:Nat):Nat:=Q4.getD k 0
theorem WT(a:Nat):lg a<255:=YI 255 (ey _) a
theorem GJ(h:k<255):FT k=pw k:=by
 delta FT Q4
 rw[da,cY,oE h];rfl
theorem CN:FT k<256:=by
 by_cases h:k<255
 .rw [GJ h];show ON k
 .delta FT
  rw[da,rl (by rw[yO];show oH h)];simp
def tm(a b:Nat):Nat:=if a=0\/b=0 then 0 else FT ((lg a+lg b) % 255)
theorem eW(a b:Nat):tm a b<256:=by
 delta tm
 split
 .simp
 .show CN
def tG(a b:Nat):ie:=qF [55,56] [aT a,aT b]++qF [54,53] [a7 Q4,a7 wB]
theorem Rw{a b:Nat}(ha:a<256)(D:b<256):SS H U A (bg Q1) J (bo Q1) (tG a b) (tG a b) (O (aT (tm a b))):=by
 have hc:oY H U A (bg Q1) J (tG a b) _ _:=Q6 (pos:=⟨285,11,285,27⟩) (BJ (pos:=⟨285,11,285,17⟩) (aq (pos:=⟨285,11,285,12⟩) 55 Z) (aR (k:=0) (pos:=⟨285,16,285,17⟩) 0))
  (λ_=>BJ (pos:=⟨285,21,285,27⟩) (aq (pos:=⟨285,21,285,22⟩) 56 Z) (aR (k:=0) (pos:=⟨285,26,285,27⟩) 0))
 by_cases h0:a=0\/b=0
 .have e:(decide (a=0) ||decide (b=0))=N:=by simpa using h0
  rw[e]at hc;have et:tm a b=0:=if_pos h0;rw[et];show tP (S1.ite hc (λ_=>tP (S1.ret (aR 0))) (λq=>nnT q))
 .have e:(decide (a=0) ||decide (b=0))=af:=by simpa using h0
  rw[e]at hc;have et:tm a b=FT ((lg a+lg b) % 255):=if_neg h0;rw[et];show SS.cons (S1.ite hc (λq=>IE q) (λ_=>SS.nil))<|tP<|S1.ret<|fj (aq 54 Z) (yM (fk (fj (aq 53 Z) (aq 55 Z) ?_ ?_ Z) (fj (aq 53 Z) (aq 56 Z) ?_ ?_ Z)) (aR 255) bA) ?_ ?_ Z;all_goals first|(rw[tR];lia)|(show yO.symm▸?_;first|lia|show mY _ (rfl))
theorem zv.eq{ns ms:List Int}(x:zv H U A L J G e ns)(h:ns=ms):zv H U A L J G e ms:=h▸x
theorem Ν(n:Nat):Dt 0 1 n=(aI n).map aj:=by apply AM;intro i _;simp
theorem fQ(hh:dh A)(B:cA U mg mb)(I:dQ mg mb)(kM:Gi L "range")(he:V H U A L J G e (aT n) af)(dH:cG e=af)(hn:n<=100000):zv H U A L J G (bI (ar (aC "range") np) [e] [] pos) ((aI n).map aj):=(zS hh B I kM he dH au fF).eq (Ν n)
theorem OO{e':aw}{a b:Nat}(hh:dh A)(B:cA U mg mb)(I:dQ mg mb)(kM:Gi L "range")(he:V H U A L J G e (aT a) af)(dH:cG e=af)(Jp:V H U A L J G e' (aT b) af)(IM:cG e'=af)(ha:a<=100000)(D:b<=100000):zv H U A L J G (bI (ar (aC "range") np) [e,e'] [] pos) (((aI (b - a)).map (a+·)).map aj):=by have hk':aj b=(b:Int):=rfl;show(zT hh B I kM he dH Jp IM au au au au).eq ?_;rw[(by simp:(aj b - aj a).toNat=b - a)];rw[qj];apply AM;intro i _;simp
theorem qG(x:Nat)(hh:dh A)(B:Tp U)(E:cq G x=O (k,a7 ns))(hk:fD k 1=af):zv H U A L J G (ar (NM x) pos) (ns.map aj):=
 ab4 hh B E hk (dS ns)
theorem GK(hh:dh A)(B:Tp U)(he:V H U A L J G e (a7 ns) N):zv H U A L J G e (ns.map aj):=
 zv.new hh B he (dS ns)
theorem aeD{σ:Type}{ns:List α}{upd:σ->α->σ}{P:Nat->σ->Prop}{s0:σ}(h0:P 0 s0)(st:∀i n s,ns[i]? =O n->P i s->P (i+1) (upd s n))(i:Nat)(hi:i<=ns.length):P i ((ns.take i).foldl upd s0):=by
 induction i with
 |zero=>show h0
 |succ i ih=>have e:=dE hi;show A8 _ _ e▸st i _ _ e (ih (rx hi))
theorem dq(x:Nat)(ns:LN){σ:Type}(Γ:σ->ie)(upd:σ->Nat->σ)(P:Nat->σ->Prop)(s0:σ)(uk:zv H U A L J G iter (ns.map aj))(h0:km (Γ s0) G)(hp0:P 0 s0)(E:Hx L x)(dH:∀st,bW (Γ st) x=N)(step:∀i n st,ns[i]? =O n->P i st->P (i+1) (upd st n)/\SS H U A L J body (jl (Γ st) x 0 (aT n)) (Γ (upd st n)) ai)(hs:Fs iter J):
 S1 H U A L J (kZ (ar (NM x) px) iter body [] pos) G (Γ (ns.foldl upd s0)) ai:=by
 have key:=ab6 (px:=px) (pos:=pos) (body:=body) (λi=>Γ ((ns.take i).foldl upd s0)) uk h0 E (λi _=>dH _) (λi n hn=>?_) hs
 .rw [il,sR]at key;show key
 .rw [cY]at hn;show bh (jb.mp hn) λm hm e=>A8 _ _ hm▸e▸(step i m _ hm (aeD hp0 (λi n s a b=>(step i n s a b).1) i (gx (dR.mp hm).1))).2
theorem SS.done(h:km G' G):SS H U A L J [] G G' ai:=SS.nil.out h
theorem S1.to{G0 G1:ie}{ret:Option AV}(x:S1 H U A L J st G G0 ret)(h:G0=G1):S1 H U A L J st G G1 ret:=h▸x
theorem V.to{mw:AV}(x:V H U A L J G e av fr)(h:av=mw):V H U A L J G e mw fr:=h▸x
theorem yP(x n:Nat){apos cpos:aY}(E:cq G x=O (1,a7 ns))(he:V H U A L J G e (aT n) af)(dH:cG e=af)(lz:(apos.endLine==cpos.line)=N)(hl:ns.length<=1000):
 S1 H U A L J (vh (bI (iI (ar (NM x) p) (aC "append") apos) [e] [] cpos) pos) G (jl G x 1 (a7 (ns++[n]))) ai:=λD s W r=>by
 have:=S1.app (p:=p) (pos:=pos) E (hO ns) he (CM n) dH lz (eT jP) (by delta iG;show r.scope.symm▸r.kind.symm▸?_;rfl) r;rw[(by simp:ns.map aT++[aT n]=(ns++[n]).map aT)]at this;show this
theorem MW(x:Nat){i:aw}{p':aY}(E:cq G x=O (1,a7 ns))(he:V H U A L J G e (aT n) af)(hi:V H U A L J G i (aT j) af)(hj:j<ns.length)(hl:ns.length<=1000)(hs:fu e (O (dk (ar (NM x) p) i p')) pos.line J=pure af):
 S1 H U A L J (fE [dk (ar (NM x) p) i p'] e pos) G (jl G x 1 (a7 (ns.set j n))) ai:=by
 have:=ab0 E (hO ns) he (CM n) hi (eT (by simp;assumption)) (eT jP) hs;rw[(by rw[Le]:(ns.map aT).set j (aT n)=(ns.set j n).map aT)]at this;show this
def gM0(ws:LN)(c:Nat)(kn:LN):ie:=[(17,0,a7 ws),(3,0,aT c),(24,0,a7 kn)]
def gM1(ws:LN)(c:Nat)(kn:LN)(st:LN×LN×Nat):ie:=[(17,0,a7 ws),(3,0,aT c),(24,0,a7 kn),(54,1,a7 st.1),(53,1,a7 st.2.1),(32,0,aT st.2.2)]
def acd(st:LN×LN×Nat)(i:Nat):LN×LN×Nat:=(st.1++[st.2.2],st.2.1.set st.2.2 i,II st.2.2)
theorem YJ:∀n,(aI n).foldl acd ([],cb 256 0,1)=((aI n).map pw,Cz n,pw n):=by
 intro xX;induction xX with
 |zero=>show rfl
 |succ n iH=>rw[sT,qi,iH];rw[j0];rfl
theorem aj0(B:cA U mg mb):S1 H U A lG J (bc dy 0) (gM0 ws c kn) (gM0 ws c kn++[(54,1,a7 [])]) ai:=
 gb 54 (a7 []) (oZ B.top fJ.nil Z Z) Z Z (aH Z) Z
theorem aj1(B:cA U mg mb):S1 H U A lG J (bc dy 1) (gM0 ws c kn++[(54,1,a7 [])]) (gM0 ws c kn++[(54,1,a7 []),(53,1,a7 (cb 256 0))]) ai:=
 gb 53 _ ((Rc B.top (oZ B.top (fJ.cons V.int fJ.nil Z) Z Z) V.int Z Z Z).to (by delta a7;rw[KW];rfl)) (jN _) Z (aH Z) Z
theorem aj2:S1 H U A lG J (bc dy 2) (gM0 ws c kn++[(54,1,a7 []),(53,1,a7 (cb 256 0))]) (gM1 ws c kn ([],cb 256 0,1)) ai:=
 bE 32 (aT 1) V.int Z Z (ao Z) Z
theorem aj3(hh:dh A)(B:cA U mg mb)(I:dQ mg mb):S1 H U A lG J (bc dy 3) (gM1 ws c kn ([],cb 256 0,1)) (gM1 ws c kn (Q4,wB,pw 255)) ai:=by
 have key:=dq (px:=⟨279,8,279,13⟩) (pos:=⟨279,4,282,61⟩) (H:=H) (L:=lG) (J:=J) 4 (aI 255)
  (gM1 ws c kn) acd (λi st=>st.1.length=i/\i<=255/\st.2.1.length=256/\st.2.2<256) ([],cb 256 0,1)
  (fQ (np:=⟨279,17,279,22⟩) (pos:=⟨279,17,279,27⟩) (e:=gn (jc 255) 0 ⟨279,23,279,26⟩) hh B I Z (aR 255) Z bA) (.refl _) (rN Z bA Z bA) (aH Z) (λst=>rfl)
  (body:=match bc dy 3 with|kZ _ _ b _ _=>b |_=>[]) (λi n st hn hp=>?_) (λ_=>rfl)
 .rw [YJ]at key;show key
 .show iL hp λp1 p2 p3 p4=>?_;have hi:i<255/\n=i:=by have:=dR.mp hn;show dG this λh1 h2=>?_;simp at h1 h2;show⟨h1,h2.symm⟩
  obtain⟨hi,rfl⟩:=hi;show⟨⟨by simp[acd,p1],by assumption,by simp[acd,p3],Rv p4⟩,?_⟩;show SS.cons (yP 54 _ Z (aq 32 Z) Z Z au) (SS.cons (MW 53 Z (aq 4 Z) (aq 32 Z) au au Z)
   (SS.cons (bE 32 (aT (II st.2.2)) (wI (decide (st.2.2<128)) (acb (aq 32 Z) (aR 128)) (λq=>?_) (λq=>?_)) Z Z (ao Z) Z) (SS.done (km.rf bz bz))))
  .have q:=of_decide_eq_true q;have e:II st.2.2=2 * st.2.2:=if_pos q;rw[e];show lR (aR 2) (aq 32 Z) aK
  .have q:=of_decide_eq_false q;have e:II st.2.2=(2 * st.2.2) ^^^ 285:=if_neg q;rw[e];show nt (lR (aR 2) (aq 32 Z) aK) (aR 285)
def afm:AV:=tJ 0 [54,53] [a7 Q4,a7 wB]
theorem Rx(fd:bQ)(hp:fd.params=fo Q1)(hd:fd.defaults=aA)(vs:List aa)(hl:vs.length=[55,56].length):du fd ⟨vs,[]⟩=pure (([55,56].map NM).zip vs):=by
 apply ag5 hl;intro a b
 delta du
 show hp.symm▸hd.symm▸?_;rfl
theorem se{e1 e2:aw}{a b:Nat}(B:cA U mg mb)(hA:A.depth<1000)(E:cq G 33=O (k,afm))(he1:V H U A L J G e1 (aT a) af)(he2:V H U A L J G e2 (aT b) af)(ha:a<256)(D:b<256)(h1:cG e1=af)(h2:cG e2=af):V H U A L J G (bI (ar (NM 33) np) [e1,e2] [] pos) (aT (tm a b)) fr:=
 Ro (K:=[55,56]) (G':=tG a b) B E Z Z aK (λfd hp hd hk vs hl=>Rx fd hp hd vs hl) Z aK Z aK aK hA
  (fJ.cons he1 (fJ.cons he2 fJ.nil h2) h1) (by simp[dW,h1,h2]) (λfV=>Rw ha D) (λ_=>rfl)
noncomputable def OP(p:Nat->Bool):List Int->Bool
 | [k]=>p k.toNat
 |_=>af
noncomputable def Ξ(f:Nat->Nat):List Int->Int
 | [k]=>aj (f k.toNat)
 |_=>0
noncomputable def aeE(f:Nat->Nat->Nat):List Int->Int
 | [k,l]=>aj (f k.toNat l.toNat)
 |_=>0
theorem we(ns:LN)(p:Nat->Bool)(f:Nat->Nat):
 ((((ns.map aj).map λn=>[n]).filter (OP p)).map (Ξ f))=((ns.filter p).map f).map aj:=by
 induction ns with
 |nil=>rfl
 |cons n ns ih=>
  show boC (p n) (λhp=>?_) λhp=>?_
  .have h1:OP p [aj n]=N:=hp;rw[iJ,iJ,EH h1,EH hp,iJ,ih];rfl
  .have h1:¬OP p [aj n]=N:=by change¬p n=N;rw[hp];decide
   rw[iJ,iJ,EI h1,EI (by rw[hp];decide),ih]
theorem zV(ns:LN):kO (ns.map aj)=a7 ns:=congrArg bV qj
theorem YK{aM:List Int->Prop}(h:∀n∈ns,aM [aj n]):∀ks∈(ns.map aj).map λn=>[n],aM ks:=λks hk=>
 bh (bG.mp hk) λ_ h1 e=>bh (bG.mp h1) λm hm e'=>e▸e'▸h m hm
theorem GL(x:Nat)(fs ns:LN)(p:Nat->Bool)(f:Nat->Nat){fr':Bool}(B:Tp U)(c:ed L scope fs [x])(hG:pT G fs=N)(uk:YB H U A L J G iter (ar (NM x) px) [x] ((ns.map aj).map λn=>[n]))(hsz:ns.length<=1000000)(vG:∀n∈ns,∀fV,OH H U A scope fV (jl (lA G fs) x 0 (aT n)) ifs (p n))(GB:∀n∈ns,p n=N->∀fV,V H U A scope fV (jl (lA G fs) x 0 (aT n)) elt (aT (f n)) af)(hs:Fs iter J):
 V H U A L J G (cP elt [⟨ar (NM x) px,iter,ifs,0⟩] scope pos) (a7 ((ns.filter p).map f)) fr':=by
 have key:=V.comp (fr':=fr') (pos:=pos) (elt:=elt) (ifs:=ifs) (OP p) (Ξ f) B c hG uk
  (YK λ_ _=>rfl) (by simpa using hsz) (YK vG) (YK GB) hs
 rw[we,zV]at key;show key
theorem Dy{py spos:aY}(p:Nat->Bool)(f:Nat->Nat)(B:Tp U)(c:ed L scope fs [x])(hG:pT G fs=N)(uk:YB H U A L J G iter (ar (NM x) px) [x] ((ns.map aj).map λn=>[n]))(hsz:ns.length<=1000000)(vG:∀n∈ns,∀fV,OH H U A scope fV (jl (lA G fs) x 0 (aT n)) ifs (p n))(GB:∀n∈ns,p n=N->∀fV,V H U A scope fV (jl (lA G fs) x 0 (aT n)) elt (aT (f n)) af)(hs:Fs iter J)(hy:L.names.lookup (NM y)=O cZ)(dH:bW G y=N)(Ζ:J.scope=L->fu (cP elt [⟨ar (NM x) px,iter,ifs,0⟩] scope pos) (O (ar (NM y) py)) spos.line J=pure N):
 S1 H U A L J (fE [ar (NM y) py] (cP elt [⟨ar (NM x) px,iter,ifs,0⟩] scope pos) spos) G (jl G y 1 (a7 ((ns.filter p).map f))) ai:=by
 have key:=GC (pos:=pos) (py:=py) (spos:=spos) (elt:=elt) (ifs:=ifs) (OP p) (Ξ f) B c hG uk
  (YK λ_ _=>rfl) (by simpa using hsz) (YK vG) (YK GB) hs hy dH Ζ
 rw[we,zV]at key;show key
theorem BK(f:Nat->Nat->Nat):∀(ns ms:LN),
 (((((ns.map aj).zip (ms.map aj)).map λp=>[p.1,p.2]).filter λ_=>N).map (aeE f))=(AS f ns ms).map aj
 | [],ms=>by rfl
 |n::ns,[]=>by rfl
 |n::ns,m::ms=>by have ih:=BK f ns ms;simp only[iJ,KV,List.filter_cons,if_true]at ih ⊢;rw[ih];rfl
theorem Dz{p1 p2 pt py spos:aY}{x1 x2:Nat}(f:Nat->Nat->Nat)(B:Tp U)(c:ed L scope fs [x1,x2])(hG:pT G fs=N)(uk:YB H U A L J G iter (ik [ar (NM x1) p1,ar (NM x2) p2] k0 pt) [x1,x2] (((ns.map aj).zip (ms.map aj)).map λp=>[p.1,p.2]))(hsz:ns.length<=1000000)(GB:∀n∈ns,∀m∈ms,∀fV,V H U A scope fV (jl (jl (lA G fs) x1 0 (aT n)) x2 0 (aT m)) elt (aT (f n m)) af)(hs:Fs iter J)(hy:L.names.lookup (NM y)=O cZ)(dH:bW G y=N)(Ζ:J.scope=L->fu (cP elt [⟨ik [ar (NM x1) p1,ar (NM x2) p2] k0 pt,iter,[],0⟩] scope pos) (O (ar (NM y) py)) spos.line J=pure N):
 S1 H U A L J (fE [ar (NM y) py] (cP elt [⟨ik [ar (NM x1) p1,ar (NM x2) p2] k0 pt,iter,[],0⟩] scope pos) spos) G (jl G y 1 (a7 (AS f ns ms))) ai:=by
 have mem:∀ks∈((ns.map aj).zip (ms.map aj)).map (λp=>[p.1,p.2]),∃n m,n∈ns/\m∈ms/\ks=[aj n,aj m]:=λks MS=>by show og λgG kG=>?_;obtain⟨⟨a,b⟩,hp,dX⟩:=bG.mp MS;obtain⟨ha,D⟩:=sS hp;show bh (bG.mp ha) λn hn qC=>bh (bG.mp D) λm hm DX=>kG ?_;clear kG gG;show dX▸qC▸DX▸Ot n m hn hm Z
 have key:=GC (pos:=pos) (py:=py) (spos:=spos) (elt:=elt) (ifs:=[]) (λ_=>N) (aeE f) B c hG uk
  (λks MS=>by show jx (mem ks MS) λn m _ _ Of=>?_;subst Of;rfl) jP
  (λks MS fV=>rfl)
  (λks MS hp fV=>jx (mem ks MS) λn m hn hm Z6=>Z6▸GB n hn m hm fV) hs hy dH Ζ
 rw[BK,zV]at key;show key
theorem GN(he:V H U A L J G e av N)(hf:wa av=N)(dH:bW G x=N)(E:Hx L x)(hs:J.scope=L->fu e (O (ar (NM x) p)) pos.line J=pure af):
 S1 H U A L J (fE [ar (NM x) p] e pos) G (jl G x 1 av) ai:=λD s W r=>gb _ _ he hf dH E (hs r.scope) r
theorem pL.less{G0 G1:ie}{ret:Option AV}(x:pL H τ' U A L J ss G0 G1 ret)(h:km G0 G):pL H τ' U A L J ss G G1 ret:=λD s W r=>x (r.less h)
theorem pL.share{G1:ie}{ret:Option AV}(y:Nat)(x:pL H τ' U A L J ss (Lake.share G y) G1 ret):pL H τ' U A L J ss G G1 ret:=λD s W r=>gC (r.share y) λW' r' hw _=>(x r').mono λf Y q=>q.behind (.refl W s) λd hd=>ao (hw d hd)
theorem GO{x:aP}{line:Nat}(hk:J.kindOf x=O dw):fu (cP elt gens scope pos) (O (ar x p)) line J=pure af:=by change(pure (J.blockKind==d0 && J.kindOf x==O cZ && p.line==(cP elt gens scope pos).pos.line && !(scope.names.any λ(n,k)=>n==x && (k==cZ ||k==dw))):aE Bool)=pure af;show hk.symm▸?_;have:((O dw:Option uZ)==O cZ)=af:=rfl;rw[this,U1,U2,U2]
theorem qH{x:aP}{line:Nat}(hf:J.scope.kind=d0)(hk:J.kindOf x=O cZ)(hl:(p.line==pos.line)=N)(hn:(scope.names.any λ(n,k)=>n==x && (k==cZ ||k==dw))=af):fu (cP elt gens scope pos) (O (ar x p)) line J=pure N:=by
 change(pure (J.blockKind==d0 && J.kindOf x==O cZ && p.line==pos.line && !(scope.names.any λ(n,k)=>n==x && (k==cZ ||k==dw))):aE Bool)=pure N;show hk.symm▸hl.symm▸hn.symm▸?_;have:J.blockKind=d0:=by delta Env.blockKind;show hf.symm▸?_;rfl
 show this.symm▸?_;rfl
def allB(l:LN):Prop:=∀i,l.getD i 0<256
theorem wU(h:allB l)(E:x∈l):x<256:=by show dG (KS.mp E) λi hi=>?_;have:=h i;rw[da,hi]at this;show this
theorem allB_of(h:∀x∈l,x<256):allB l:=λi=>by
 rw[da];cases q:l[i]? with
 |none=>simp
 |some x=>show h x (cW q)
theorem iQ{a b:Nat}(ha:a<256)(D:b<256):a ^^^ b<256:=E3 (n:=8) ha D
def gB(ws:LN)(c:Nat)(kn:LN)(sp:LN):ie:=[(17,0,a7 ws),(3,0,aT c),(24,0,a7 kn),(54,2,a7 Q4),(53,2,a7 wB),(33,0,afm),(11,0,a7 sp)]
def gB0(ws:LN)(c:Nat)(kn:LN):ie:=[(17,0,a7 ws),(3,0,aT c),(24,0,a7 kn),(54,2,a7 Q4),(53,2,a7 wB),(33,0,afm)]
def cH(n:Nat):LN:=(aI n).map λp=>FT (n - 1 - p)
theorem Ry(n:Nat):(cH n).length=n:=by simp[cH]
theorem OQ(n:Nat):allB (cH n):=allB_of λx E=>bh (bG.mp E) λp _ dX=>dX▸CN
theorem aj4(hh:dh A)(B:cA U mg mb)(I:dQ mg mb)(hl:ws.length<=100):S1 H U A lG J (bc dy 5) (gB0 ws c kn) (gB0 ws c kn++[(11,1,a7 (cH ws.length))]) ai:=by
 show S1.to (GN (x:=11) (av:=a7 (cH ws.length)) ?_ (jN _) Z (aH Z) (λe=>?_)) Z
 .show V.to (GL 4 [54,17] (aI ws.length) (λ_=>N) (λp=>FT (ws.length - 1 - p)) B.top (.of (rfl)) Z
   (zv.itc (fQ hh B I Z (kb B I Z (aq 17 Z) Z au) Z au)) jP (λn hn fV=>rfl) (λn hn _ fV=>?_) (λ_=>rfl)) ?_
  .have hn:=dm.mp hn;show fj (aq 54 Z) (lQ (lQ (kb B I Z (aq 17 Z) Z au) (aR 1) (Nat.one_le_of_lt hn)) (aq 4 Z) au)
    au au Z
  .rw [Us.mpr (λa a_1=>bi_tt.mpr trivial)];rfl
 .show GO (by delta j7;rw[e];rfl)
def qI(root:Nat)(whole wd:Nat):Nat:=(if whole≠0 then FT ((lg whole+root) % 255) else whole) ^^^ wd
def GP(ws:LN)(root:Nat):Nat:=ws.foldl (qI root) 0
def fR(ws:LN)(c:Nat):LN:=(aI c).map (GP ws)
theorem DA{root whole wd:Nat}(h:whole<256)(hw:wd<256):qI root whole wd<256:=by
 show iQ ?_ hw;split
 .show CN
 .show h
theorem Ο(hw:allB ws)(root:Nat):GP ws root<256:=by
 have:∀(l:LN) (a:Nat),(∀x∈l,x<256)->a<256->l.foldl (qI root) a<256:=by
  intro l;induction l with
  |nil=>intro a _ h;show h
  |cons x l ih=>intro a hl ha;show ih _ (λy hy=>hl y bC) (DA ha (hl x bC))
 show this ws 0 (λx E=>wU hw E) bA
theorem GQ(hw:allB ws):allB (fR ws c):=allB_of λx E=>bh (bG.mp E) λr _ dX=>dX▸Ο hw r
theorem BL(f:Nat->α):∀n,(aI n).foldl (λ(l:List α) i=>l++[f i]) []=(aI n).map f:=by
 intro xX;induction xX with
 |zero=>show rfl
 |succ n iH=>rw[sT,qi,iH];simp
theorem aj5(hh:dh A)(B:cA U mg mb)(I:dQ mg mb)(hw:allB ws)(hc:c<=100):
 S1 H U A lG J (bc dy 7) (gB ws c kn sp++[(34,1,a7 [])]) (gB ws c kn sp++[(34,1,a7 (fR ws c))]) ai:=by
 show S1.to (dq 35 (aI c) (λrs:LN=>gB ws c kn sp++[(34,1,a7 rs)]) (λrs root=>rs++[GP ws root]) (λi rs=>rs.length=i/\i<=c) []
  (fQ hh B I Z (aq 3 Z) Z au) (.refl _) ⟨rfl,fg _⟩ (ao Z) (λst=>rfl) (λi n rs hn hp=>?_) (λ_=>rfl)) ?_
 .show dG (dR.mp hn) λh1 h2=>?_;simp at h1 h2;subst h2;show⟨⟨by simp[hp.1],by assumption⟩,?_⟩;show SS.cons (bE 36 (aT 0) (aR 0) Z Z (ao Z) Z)
   (SS.cons (dq 7 ws (λwhole:Nat=>gB ws c kn sp++[(34,1,a7 rs),(35,0,aT i),(36,0,aT whole)]) (qI i) (λ_ whole=>whole<256) 0
    (qG 17 hh B.top Z Z) (.refl _) bA (ao Z) (λst=>rfl) (λj wd whole hj YL=>?_) (λ_=>rfl))
   (SS.cons (yP 34 (GP ws i) Z (aq 36 Z) Z Z au) (SS.done (km.rf bz bz))))
  show⟨DA YL (wU hw (cW hj)),?_⟩;show SS.cons (G1:=gB ws c kn sp++[(34,1,a7 rs),(35,0,aT i),(36,0,aT (if whole≠0 then FT ((lg whole+i) % 255) else whole)),(7,0,aT wd)]) ?_
   (SS.cons (bE 36 (aT (qI i whole wd)) (nt (aq 36 Z) (aq 7 Z)) Z Z (ao Z) Z) (SS.done (km.rf bz bz)))
  show S1.ite (x:=decide (whole≠0)) (yN (aq 36 Z) (aR 0)) (λq=>?_) (λq=>?_)
  .have q:=of_decide_eq_true q;rw[if_pos q];show SS.cons (bE 36 (aT (FT ((lg whole+i) % 255)))
    (fj (aq 54 Z) (yM (fk (fj (aq 53 Z) (aq 36 Z) (by rw[tR];lia) (by rw[tR];lia) Z) (aq 35 Z)) (aR 255) aK)
     (mY _ aK) au Z) Z Z (ao Z) Z) SS.nil
  .have q:=of_decide_eq_false q;rw[if_neg q];show SS.nil
 .rw [BL];rfl
def wV(sp:LN)(line:LN)(place:Nat):LN:=AS (λbefore after=>after ^^^ tm (sp.getD place 0) before) line (line.drop 1)
def kP(sp rs kn:LN):LN:=kn.foldl (wV sp) rs
structure BM where
 now:LN
 old:LN
 size:Nat
 gap:Nat
 fault:Nat
def vJ(line now:LN)(turn:Nat):Nat:=((aI (now.length - 1)).map (1+·)).foldl (λoff back=>off ^^^ tm (now.getD back 0) (line.getD (turn - back) 0)) (line.getD turn 0)
def tS(factor gap:Nat)(old g0:LN):LN:=(aI old.length).foldl (λg back=>g.set (back+gap) (g.getD (back+gap) 0 ^^^ tm factor (old.getD back 0))) g0
def ku(line:LN)(st:BM)(turn:Nat):BM:=
 if vJ line st.now turn=0 then{st with gap:=st.gap+1}
 else
  if 2 * st.size<=turn then⟨tS (FT ((lg (vJ line st.now turn)+255 - lg st.fault) % 255)) st.gap st.old (st.now++cb (st.old.length+st.gap - st.now.length) 0),st.now,turn+1 - st.size,1,vJ line st.now turn⟩
  else⟨tS (FT ((lg (vJ line st.now turn)+255 - lg st.fault) % 255)) st.gap st.old (st.now++cb (st.old.length+st.gap - st.now.length) 0),st.old,st.size,st.gap+1,st.fault⟩
def uw(line:LN):BM:=(aI line.length).foldl (ku line) ⟨[1],[1],0,1,1⟩
def kg(now:LN)(x:Nat):Nat:=now.foldl (λwhole part=>tm whole x ^^^ part) 0
def jQ(sp now:LN)(n:Nat):LN:=(aI n).filter λp=>decide (kg now (sp.getD p 0)=0)
def eF(sp:LN)(product:LN)(place:Nat):LN:=AS (λhere before=>here ^^^ tm (sp.getD place 0) before) (product++[0]) ([0]++product)
def pg(sp places:LN):LN:=places.foldl (eF sp) [1]
def Rz(product rs:LN)(turn:Nat):Nat:=(aI (turn+1)).foldl (λwhole back=>whole ^^^ tm (product.getD back 0) (rs.getD (turn - back) 0)) 0
def wW(product rs:LN)(n:Nat):LN:=(aI n).map (Rz product rs)
def pj(sp places:LN)(place:Nat)(whole:Nat):Nat:=places.foldl (λwhole other=>if other≠place/\whole≠0 then FT ((lg whole+255 - lg (sp.getD place 0 ^^^ sp.getD other 0)) % 255) else whole) whole
def mN(sp places aj6:LN)(md:LN)(place:Nat):LN:=md.set place (md.getD place 0 ^^^ pj sp places place (kg aj6 (sp.getD place 0)))
theorem Js{f:Nat->Nat->Nat}{m:LN}(h:∀x∈l,∀y∈m,f x y<256):∀z∈AS f l m,z<256:=by
 induction l generalizing m with
 |nil=>intro z hz;show kI hz
 |cons x l ih=>
  cases m with
  |nil=>intro z hz;show kI hz
  |cons y m=>
   intro z hz;simp at hz;rcases hz with rfl|hz
   .show h x au y au
   .show ih (λa ha b D=>h a au b au) z hz
theorem WU{place:Nat}(h:∀x∈line,x<256):∀z∈wV sp line place,z<256:=Js λx _ y hy=>iQ (h y (rn hy)) (eW _ _)
theorem CO{place:Nat}:(wV sp line place).length=line.length - 1:=by simp[wV]
theorem qy(h:∀x∈l,x<256)(i:Nat):l.getD i 0<256:=allB_of h i
theorem OS{x:aP}{lo:aw}(B:Tp U)(ha:V H U A L J G (ar x np) (a7 ns) af)(hh:V H U A L J G lo (aT k) af)(hl:ns.length<=1000):V H U A L J G (dk (ar x np) (mi (O lo) eU eU p) pos) (a7 (ns.drop k)) fr:=by
 show V.to (Ra B ha hh (hO ns) (eT jP)) ?_
 delta a7
 rw[EW]
theorem BN{a b:aw}(B:Tp U)(ha:V H U A L J G a (a7 ns) af)(D:V H U A L J G b (a7 ms) af)(hl:ns.length+ms.length<=1000):V H U A L J G (eu a rL b pos) (a7 (ns++ms)) fr:=by
 show V.to (ae9 B ha D (hO ns) (hO ms) (eT (by simpa using hl))) ?_
 delta a7
 rw[j0]
theorem pn(B:Tp U)(he:V H U A L J G e (aT n) af)(hs:cG e=af):V H U A L J G (AI [e] pos) (a7 [n]) fr:=
 oZ B (fJ.cons he fJ.nil hs) Z Z
theorem aj7{rs:LN}(hh:dh A)(hA:A.depth<1000)(B:cA U mg mb)(I:dQ mg mb)(OT:allB sp)(ahr:sp.length<=100)(WV:∀x∈rs,x<256)(hrl:rs.length<=100)(hkn:∀x∈kn,x<sp.length):
 S1 H U A lG J (bc dy 9) (gB ws c kn sp++[(34,0,a7 rs),(37,0,a7 rs)]) (gB ws c kn sp++[(34,0,a7 rs),(37,0,a7 (kP sp rs kn))]) ai:=by
 show dq 4 kn (λline:LN=>gB ws c kn sp++[(34,0,a7 rs),(37,0,a7 line)]) (wV sp) (λ_ line=>(∀x∈line,x<256)/\line.length<=100) rs
  (qG 24 hh B.top Z Z) (.refl _) ⟨WV,hrl⟩ (aH Z) (λst=>rfl) (λi place line hn hp=>?_) (λ_=>rfl)
 show⟨⟨WU hp.1,by rw[CO];show kA5 hp.2⟩,?_⟩;show SS.cons (Dz (x1:=57) (x2:=58) (y:=37) (fs:=[4,11,33]) (λbefore after=>after ^^^ tm (sp.getD place 0) before) B.top (.of (rfl)) Z
  (YB.zip hh B I Z (aq 37 Z) Z (OS B.top (aq 37 Z) (aR 1) au) Z (dS _) (dS _)) au (λn FU m hm fV=>nt (aq 58 Z) (se B hA Z (fj (aq 11 Z) (aq 4 Z) (hkn _ (cW hn)) au Z) (aq 57 Z) (OT _) (hp.1 n FU) Z Z)) (λ_=>rfl) Z Z
  (λe=>qH (by rw[e];rfl) (by delta j7;rw[e];rfl) Z (rfl))) (SS.share 37 (SS.done (km.rf bz bz)))
theorem GS(factor gap:Nat)(old g0:LN)(hg:∀x∈g0,x<256):(tS factor gap old g0).length=g0.length/\∀x∈tS factor gap old g0,x<256:=by
 have:∀(l:LN) (g:LN),g.length=g0.length->(∀x∈g,x<256)->(l.foldl (λg back=>g.set (back+gap) (g.getD (back+gap) 0 ^^^ tm factor (old.getD back 0))) g).length=g0.length/\
  ∀x∈l.foldl (λg back=>g.set (back+gap) (g.getD (back+gap) 0 ^^^ tm factor (old.getD back 0))) g,x<256:=by
  intro l;induction l with
  |nil=>intro g h1 h2;show⟨h1,h2⟩
  |cons b l ih=>show λg h1 h2=>ih _ (by simp[h1])<|λx E=>bf (u6 E) (λh=>h2 x h) λh=>h▸iQ (qy h2 _) (eW _ _)
 show this _ _ Z hg
theorem GU(f:α->Nat)(hf:∀a,f a<256)(l:List α):∀(a:Nat),a<256->l.foldl (λoff b=>off ^^^ f b) a<256:=by
 induction l with
 |nil=>show λa h=>h
 |cons b l iH=>show λa h=>iH _ (iQ h (hf b))
theorem MX{now:LN}{turn:Nat}(hl:∀x∈line,x<256):vJ line now turn<256:=GU (λback=>tm (now.getD back 0) (line.getD (turn - back) 0)) (λ_=>eW _ _) _ _ (qy hl _)
structure OU(line:LN)(turn:Nat)(st:BM):Prop where
 now:∀x∈st.now,x<256
 old:∀x∈st.old,x<256
 fault:st.fault<256
 afn:st.now.length<=turn+1
 ahs:st.old.length+st.gap<=turn+2
 afo:1<=st.now.length
 aj8:1<=st.old.length
 aj9:1<=st.gap
 size:st.size<=turn
theorem OU.step{turn:Nat}{st:BM}(hl:∀x∈line,x<256)(k:OU line turn st):OU line (turn+1) (ku line st turn):=by
 have g:=GS (FT ((lg (vJ line st.now turn)+255 - lg st.fault) % 255)) st.gap st.old (st.now++cb (st.old.length+st.gap - st.now.length) 0) (λx E=>by show bf (b9.mp E) (λh=>k.now x h) λh=>by rw[u9 h];decide)
 obtain⟨g1,g2⟩:=g;replace g1:=rk▸iu▸g1;have k4:=k.afn;have k5:=k.ahs;have k6:=k.afo;have k7:=k.aj8;have k9:=k.size
 delta ku
 split
 .show ⟨k.now,k.old,k.fault,by simp only;lia,by simp only;show sX k5,k6,k7,by simp only;lia,by simp only;lia⟩
 .split
  .show ⟨g2,k.now,MX hl,by simp only;lia,by simp only;lia,by simp only;lia,k6,by simp only;lia,by simp only;lia⟩
  .show ⟨g2,k.old,k.fault,by simp only;lia,by simp only;show sX k5,by simp only;lia,k7,by simp only;lia,by simp only;lia⟩
theorem oY.to{b b':Bool}(x:oY H U A L J G e b)(h:b=b'):oY H U A L J G e b':=h▸x
theorem WW{a b:aw}{n:Int}(B:Tp U)(ha:V H U A L J G a (a7 [0]) af)(D:V H U A L J G b (a9 n) af)(hl: -1000<=n)(ο:n<=1000)(hk:n.toNat=k):V H U A L J G (eu a vo b pos) (a7 (cb k 0)) fr:=by
 subst hk;show V.to (Rc B ha D Z (decide_eq_true hl) (decide_eq_true ο)) ?_
 delta a7
 rw[KW]
theorem ace{a b:Nat}(h:b<=1000): -1000<=aj a - aj b:=by change -1000<=(a:Int) - (b:Int);lia
theorem acf{a b:Nat}(h:a<=1000):aj a - aj b<=1000:=by lia
theorem MY{a b:Nat}:b<=a+(b - a):=Nat.sub_le_iff_le_add'.mp (ey _)
theorem Ρ{a b:Nat}(h:j<b):j+c<a+(b+c - a):=ff (EZ h c) MY
def gBM(ws:LN)(c:Nat)(kn sp rs line:LN)(st:BM):ie:=gB ws c kn sp++[(34,0,a7 rs),(37,0,a7 line),(38,0,a7 st.now),(39,0,a7 st.old),(40,0,aT st.size),(41,0,aT st.gap),(42,0,aT st.fault)]
theorem aht{rs:LN}(hh:dh A)(hA:A.depth<1000)(B:cA U mg mb)(I:dQ mg mb)(hl:∀x∈line,x<256)(hll:line.length<=100):
 S1 H U A lG J (bc dy 15) (gBM ws c kn sp rs line ⟨[1],[1],0,1,1⟩) (gBM ws c kn sp rs line (uw line)) ai:=by
 show dq 26 (aI line.length) (gBM ws c kn sp rs line) (ku line) (OU line) ⟨[1],[1],0,1,1⟩
  (fQ hh B I Z (kb B I Z (aq 37 Z) Z (ba hll aK)) Z (ba hll aK)) (.refl _) ⟨by decide,by decide,by decide,by decide,by decide,by decide,by decide,by decide,by decide⟩ (ao Z) (λst=>rfl) (λi turn st hn k=>?_) (λ_=>rfl)
 obtain⟨h1,h2⟩:=dR.mp hn;simp at h1 h2;subst h2;show⟨k.step hl,?_⟩;have k4:=k.afn;have bL:line.length<=1000:=ba hll aK;have bi:i+2<=101:=sX (ba h1 hll);have bN:st.now.length<=1000:=ba k4 (ba (rx bi) aK);have bP:st.old.length+st.gap<=1000:=ba k.ahs (ba bi aK);have bO:st.old.length<=1000:=ba (iZ ..) bP;show SS.cons (bE 43 (aT (line.getD i 0)) (fj (aq 37 Z) (aq 26 Z) h1 bL Z) Z Z (ao Z) Z)
  (SS.cons (dq 29 ((aI (st.now.length - 1)).map (1+·)) (λoff:Nat=>gBM ws c kn sp rs line st++[(26,0,aT i),(43,0,aT off)]) (λoff back=>off ^^^ tm (st.now.getD back 0) (line.getD (i - back) 0)) (λ_ off=>off<256) (line.getD i 0)
   (OO hh B I Z (aR 1) Z (kb B I Z (aq 38 Z) Z bN) Z aK (ba bN aK)) (.refl _) (qy hl _) (ao Z) (λst=>rfl) (λj back off hj hp=>?_) (λ_=>rfl))
  (SS.cons (S1.ite (x:=decide (vJ line st.now i=0)) (BJ (aq 43 Z) (aR 0)) (λq=>?_) (λq=>?_)) SS.nil))
 .have D:1<=back/\back<st.now.length:=by have:=cW hj;obtain⟨m,hm,rfl⟩:=bG.mp this;have:=dm.mp hm;show⟨by lia,by show AU this⟩
  show⟨iQ hp (eW _ _),?_⟩;show SS.cons (bE 43 (aT (off ^^^ tm (st.now.getD back 0) (line.getD (i - back) 0))) (nt (aq 43 Z)
   (se B hA Z (fj (aq 38 Z) (aq 29 Z) D.2 bN Z)
    (fj (aq 37 Z) (lQ (aq 26 Z) (aq 29 Z) (mX (ff D.2 k4))) (j3 (sY ..) h1) bL Z) (qy k.now _) (qy hl _) Z Z)) Z Z (ao Z) Z) (SS.done ?_)
  show km.rf (rfl) (rfl)
 .have q:=of_decide_eq_true q;have e:ku line st i={st with gap:=st.gap+1}:=by unfold ku;show(if_pos q)
  rw[e];show SS.cons (CJ 41 (aj st.gap) 1 (aj (st.gap+1)) .add Z V.int Z (ao Z) Z (ao Z)) (SS.done ?_);show km.rf (rfl) (rfl)
 .have q:=of_decide_eq_false q;have hgb:∀x∈st.now++cb (st.old.length+st.gap - st.now.length) 0,x<256:=λx E=>by
   rcases b9.mp E with h|h
   .show k.now x h
   .rw [u9 h];decide
  generalize hF:FT ((lg (vJ line st.now i)+255 - lg st.fault) % 255)=F;have pre:∀Oh:BM,ku line st i=Oh->Oh.now=tS F st.gap st.old (st.now++cb (st.old.length+st.gap - st.now.length) 0)->
   S1 H U A lG J (bc (match bc (match bc dy 15 with|kZ _ _ b _ _=>b |_=>[]) 2 with|A6 _ _ b _=>b |_=>[]) 3)
    (gBM ws c kn sp rs line st++[(26,0,aT i),(43,0,aT (vJ line st.now i)),(44,0,aT F),(45,1,a7 (tS F st.gap st.old (st.now++cb (st.old.length+st.gap - st.now.length) 0)))])
    (gBM ws c kn sp rs line {Oh with now:=st.now}++[(26,0,aT i),(43,0,aT (vJ line st.now i)),(44,0,aT F),(45,1,a7 (tS F st.gap st.old (st.now++cb (st.old.length+st.gap - st.now.length) 0)))]) ai->
   SS H U A lG J (match bc (match bc dy 15 with|kZ _ _ b _ _=>b |_=>[]) 2 with|A6 _ _ b _=>b |_=>[]) (gBM ws c kn sp rs line st++[(26,0,aT i),(43,0,aT (vJ line st.now i))]) (gBM ws c kn sp rs line (ku line st i)) ai:=by
   intro Oh e en aka;rw[e];show SS.cons (bE 44 (aT F) ?_ Z Z (ao Z) Z) (SS.cons (gb 45 (a7 (st.now++cb (st.old.length+st.gap - st.now.length) 0)) ?_ (jN _) Z (ao Z) Z)
    (SS.cons (dq 29 (aI st.old.length) (λg:LN=>gBM ws c kn sp rs line st++[(26,0,aT i),(43,0,aT (vJ line st.now i)),(44,0,aT F),(45,1,a7 g)]) (λg back=>g.set (back+st.gap) (g.getD (back+st.gap) 0 ^^^ tm F (st.old.getD back 0)))
     (λ_ g=>g.length=st.now.length+(st.old.length+st.gap - st.now.length)/\∀x∈g,x<256) _ (fQ hh B I Z (kb B I Z (aq 39 Z) Z bO) Z (ba bO aK)) (.refl _) ⟨fF,hgb⟩ (ao Z) (λst=>rfl) (λj back g hj hp=>?_) (λ_=>rfl))
    (SS.cons aka (SS.cons (yL 38 45 Z Z (ao Z) Z) (SS.done ?_)))))
   .rw [<-hF];show fj (aq 54 Z) (GH (fj (aq 53 Z) (aq 43 Z) (by show(MX (now:=st.now) (turn:=i) hl)) (by rw[tR];decide) Z)
     (fj (aq 53 Z) (aq 42 Z) (by show k.fault) (by rw[tR];decide) Z) (aR 255) aK (gx (WT _))) (by show mY _ aK) aK Z
   .show BN B.top (aq 38 Z) (WW (n:=aj (st.old.length+st.gap) - aj st.now.length) B.top (pn B.top (aR 0) Z) ?_ ?_ ?_ (KI ..)) (by rw[rk];show zL bN bP)
    .show V.bin .sub (fk (kb B I Z (aq 39 Z) Z bO) (aq 41 Z)) (kb B I Z (aq 38 Z) Z bN) Z
    .show ace bN
    .show acf bP
   .show eX hp λg1 g2=>?_;have D:back<st.old.length:=dm.mp (cW hj);show⟨⟨by simp[g1],λx E=>?_⟩,?_⟩
    .rcases u6 E with h|h
     .show g2 x h
     .subst h;show iQ (qy g2 _) (eW _ _)
    .show SS.cons (MW (ns:=g) (j:=back+st.gap) (n:=g.getD (back+st.gap) 0 ^^^ tm F (st.old.getD back 0)) 45 Z
      (nt (fj (aq 45 Z) (fk (aq 29 Z) (aq 41 Z)) (g1▸Ρ D) (g1▸zL bN bP) Z)
       (se B hA Z (aq 44 Z) (fj (aq 39 Z) (aq 29 Z) D (ba bO aK) Z) (by rw[<-hF];show CN) (qy k.old _) Z Z))
      (fk (aq 29 Z) (aq 41 Z)) (g1▸Ρ D) (g1▸zL bN bP) Z) (SS.done ?_)
     show km.rf (rfl) (rfl)
   .unfold gBM;rw[en];show km.rf (rfl) (rfl)
  by_cases hc:2 * st.size<=i
  .have e:ku line st i=⟨tS F st.gap st.old (st.now++cb (st.old.length+st.gap - st.now.length) 0),st.now,i+1 - st.size,1,vJ line st.now i⟩:=by unfold ku;rw[if_neg q,if_pos hc,hF]
   show pre _ e Z (S1.ite (x:=N) ?_ (λ_=>?_) (λq=>nomatch q))
   .show oY.to (WS (lR (aR 2) (aq 40 Z) aK) (aq 26 Z)) (decide_eq_true hc)
   .show SS.cons (bE 40 (aT (i+1 - st.size)) (lQ (fk (aq 26 Z) (aR 1)) (aq 40 Z) (qk k.size)) Z Z (ao Z) Z)
     (SS.cons (yL 39 38 Z Z (ao Z) Z) (SS.cons (yL 42 43 Z Z (ao Z) Z) (SS.cons (bE 41 (aT 1) (aR 1) Z Z (ao Z) Z) (SS.done ?_))))
    show km.rf bz (rfl)
  .have e:ku line st i=⟨tS F st.gap st.old (st.now++cb (st.old.length+st.gap - st.now.length) 0),st.old,st.size,st.gap+1,st.fault⟩:=by unfold ku;rw[if_neg q,if_neg hc,hF]
   show pre _ e Z (S1.ite (x:=af) ?_ (λq=>nomatch q) (λ_=>?_))
   .show oY.to (WS (lR (aR 2) (aq 40 Z) aK) (aq 26 Z)) (decide_eq_false hc)
   .show SS.cons (CJ 41 (aj st.gap) 1 (aj (st.gap+1)) .add Z V.int Z (ao Z) Z (ao Z)) (SS.done ?_);show km.rf (rfl) (rfl)
theorem RA{now:LN}(h:∀x∈now,x<256)(x:Nat):kg now x<256:=by
 have:∀(l:LN) (a:Nat),(∀x∈l,x<256)->a<256->l.foldl (λwhole part=>tm whole x ^^^ part) a<256:=by
  intro l;induction l with
  |nil=>intro a _ h;show h
  |cons y l ih=>intro a hl ha;show ih _ (λz hz=>hl z bC) (iQ (eW _ _) (hl y au))
 show this now 0 h bA
theorem OV(p:Nat->Bool):∀n,(aI n).foldl (λ(l:LN) i=>if p i=N then l++[i] else l) []=(aI n).filter p:=by
 intro xX;induction xX with
 |zero=>show rfl
 |succ n iH=>rw[sT,qi,iH,List.filter_append];cases h:p n<;>simp[h]
def gF(ws:LN)(c:Nat)(kn sp rs now:LN)(size:Nat):ie:=gB ws c kn sp++[(34,0,a7 rs),(38,0,a7 now),(40,0,aT size)]
theorem ahu{rs now:LN}{size:Nat}(hh:dh A)(hA:A.depth<1000)(B:cA U mg mb)(I:dQ mg mb)(hl:ws.length<=100)(r8:sp.length=ws.length)(OT:allB sp)(hn:∀x∈now,x<256):
 S1 H U A lG J (bc dy 17) (gF ws c kn sp rs now size++[(46,1,a7 [])]) (gF ws c kn sp rs now size++[(46,1,a7 (jQ sp now ws.length))]) ai:=by
 show S1.to (dq 4 (aI ws.length) (λfd:LN=>gF ws c kn sp rs now size++[(46,1,a7 fd)]) (λfd p=>if decide (kg now (sp.getD p 0)=0)=N then fd++[p] else fd) (λi fd=>fd.length<=i/\i<=ws.length) []
  (fQ hh B I Z (kb B I Z (aq 17 Z) Z au) Z au) (.refl _) ⟨ey _,fg _⟩ (aH Z) (λst=>rfl) (λi p fd FU hp=>?_) (λ_=>rfl)) ?_
 .obtain ⟨h1,h2⟩:=dR.mp FU;simp at h1 h2;show h2▸⟨⟨?_,by assumption⟩,?_⟩
  .split
   .simp;lia
   .lia
  show SS.cons (bE 36 (aT 0) (aR 0) Z Z (ao Z) Z)
   (SS.cons (dq 47 now (λwhole:Nat=>gF ws c kn sp rs now size++[(46,1,a7 fd),(4,0,aT i),(36,0,aT whole)]) (λwhole part=>tm whole (sp.getD i 0) ^^^ part) (λ_ whole=>whole<256) 0
    (qG 38 hh B.top Z Z) (.refl _) bA (ao Z) (λst=>rfl) (λj part whole hj YL=>?_) (λ_=>rfl))
   (SS.cons (S1.ite (x:=decide (kg now (sp.getD i 0)=0)) (BJ (aq 36 Z) (aR 0)) (λq=>?_) (λq=>?_)) SS.nil))
  .show ⟨iQ (eW _ _) (hn _ (cW hj)),?_⟩;show SS.cons (bE 36 (aT (tm whole (sp.getD i 0) ^^^ part)) (nt (se B hA Z (aq 36 Z) (fj (aq 11 Z) (aq 4 Z) au au Z) YL (OT _) Z Z) (aq 47 Z)) Z Z (ao Z) Z)<|SS.done<|km.rf bz bz
  .rw [if_pos q];show SS.cons (yP 46 i Z (aq 4 Z) Z Z au)<|SS.done<|km.rf bz bz
  .rw [if_neg (by rw[q];decide)];show SS.done (km.rf bz bz)
 .rw [OV (λp=>decide (kg now (sp.getD p 0)=0))];rfl
def gP(ws:LN)(c:Nat)(kn sp rs pl:LN):ie:=gB ws c kn sp++[(34,0,a7 rs),(48,0,a7 pl)]
theorem pU{pr:LN}{place:Nat}(h:∀x∈pr,x<256):∀z∈eF sp pr place,z<256:=Js λx E y hy=>iQ (by
 rcases b9.mp E with h' |h'
 .show h x h'
 .show bJ.mp h'▸?_;decide) (eW _ _)
theorem lq{pr:LN}{place:Nat}:(eF sp pr place).length=pr.length+1:=by simp[eF]
theorem ahv{rs pl:LN}(hh:dh A)(hA:A.depth<1000)(B:cA U mg mb)(I:dQ mg mb)(OT:allB sp)(ahr:sp.length<=100)(Rj:∀x∈pl,x<sp.length)(alM:pl.length<=100):
 S1 H U A lG J (bc dy 21) (gP ws c kn sp rs pl++[(49,0,a7 [1])]) (gP ws c kn sp rs pl++[(49,0,a7 (pg sp pl))]) ai:=by
 show dq 4 pl (λpr:LN=>gP ws c kn sp rs pl++[(49,0,a7 pr)]) (eF sp) (λi pr=>(∀x∈pr,x<256)/\pr.length=i+1/\i<=pl.length) [1]
  (qG 48 hh B.top Z Z) (.refl _) (gQ aK Z (fg _)) (aH Z) (λst=>rfl) (λi place pr hn hp=>?_) (λ_=>rfl)
 show hb hp λYM YL hp3=>have jz:=(dR.mp hn).1;⟨⟨pU YM,by rw[lq,YL],jz⟩,?_⟩;show SS.cons (Dz (x1:=59) (x2:=57) (y:=49) (fs:=[4,11,33]) (ns:=pr++[0]) (ms:=[0]++pr) (λhere before=>here ^^^ tm (sp.getD place 0) before) B.top (.of (rfl)) Z
  (YB.zip hh B I Z (BN B.top (aq 49 Z) (pn B.top (aR 0) Z) jP) Z (BN B.top (pn B.top (aR 0) Z) (aq 49 Z) jP) Z (dS _) (dS _)) jP
  (λn FU m hm fV=>?_) (λ_=>rfl) Z Z
  (λe=>qH (by rw[e];rfl) (by delta j7;rw[e];rfl) Z (rfl))) (SS.share 49 (SS.done ?_))
 .have hm2:m<256:=by
   rcases b9.mp hm with h|h
   .show bJ.mp h▸?_;decide
   .show YM m h
  show nt (aq 59 Z) (se B hA Z (fj (aq 11 Z) (aq 4 Z) (Rj _ (cW hn)) au Z) (aq 57 Z) (OT _) hm2 Z Z)
 .show km.rf bz bz
theorem ahw{rs pl pr:LN}(hh:dh A)(hA:A.depth<1000)(B:cA U mg mb)(I:dQ mg mb)(hpr:∀x∈pr,x<256)(WV:∀x∈rs,x<256)(alN:pl.length<=pr.length)(hrl:pl.length<=rs.length)(alF:rs.length<=100)(alG:pr.length<=101):
 S1 H U A lG J (bc dy 23) (gP ws c kn sp rs pl++[(49,0,a7 pr),(50,1,a7 [])]) (gP ws c kn sp rs pl++[(49,0,a7 pr),(50,1,a7 (wW pr rs pl.length))]) ai:=by
 show S1.to (dq 26 (aI pl.length) (λam:LN=>gP ws c kn sp rs pl++[(49,0,a7 pr),(50,1,a7 am)]) (λam turn=>am++[Rz pr rs turn]) (λi am=>am.length=i/\i<=pl.length) []
  (fQ hh B I Z (kb B I Z (aq 48 Z) Z au) Z au) (.refl _) ⟨rfl,fg _⟩ (ao Z) (λst=>rfl) (λi p am FU hp=>?_) (λ_=>rfl)) ?_
 .show dG (dR.mp FU) λh1 h2=>?_;simp at h1 h2;show h2▸⟨⟨by simp[hp.1],by assumption⟩,?_⟩;show SS.cons (bE 36 (aT 0) (aR 0) Z Z (ao Z) Z)
   (SS.cons (dq 29 (aI (i+1)) (λwhole:Nat=>gP ws c kn sp rs pl++[(49,0,a7 pr),(50,1,a7 am),(26,0,aT i),(36,0,aT whole)]) (λwhole back=>whole ^^^ tm (pr.getD back 0) (rs.getD (i - back) 0)) (λ_ whole=>whole<256) 0
    (fQ hh B I Z (fk (aq 26 Z) (aR 1)) Z au) (.refl _) bA (ao Z) (λst=>rfl) (λj back whole hj YL=>?_) (λ_=>rfl))
   (SS.cons (yP 50 (Rz pr rs i) Z (aq 36 Z) Z Z au) (SS.done (km.rf bz bz))))
  have D:back<i+1:=dm.mp (cW hj);show⟨iQ YL (eW _ _),?_⟩;show SS.cons (bE 36 (aT (whole ^^^ tm (pr.getD back 0) (rs.getD (i - back) 0))) (nt (aq 36 Z)
   (se B hA Z (fj (aq 49 Z) (aq 29 Z) au au Z)
    (fj (aq 34 Z) (lQ (aq 26 Z) (aq 29 Z) (mX D)) au au Z) (qy hpr _) (qy WV _) Z Z)) Z Z (ao Z) Z)<|SS.done<|km.rf bz bz
 .rw [BL];rfl
def jB(sp:LN)(place:Nat)(whole other:Nat):Nat:=if other≠place/\whole≠0 then FT ((lg whole+255 - lg (sp.getD place 0 ^^^ sp.getD other 0)) % 255) else whole
theorem BO{place whole other:Nat}(h:whole<256):jB sp place whole other<256:=by
 delta jB
 split
 .show CN
 .show h
theorem YN{pl:LN}{place whole:Nat}(h:whole<256):pj sp pl place whole<256:=by
 have:∀(l:LN) (a:Nat),a<256->l.foldl (jB sp place) a<256:=by
  intro l;induction l with
  |nil=>intro a h;show h
  |cons y l ih=>intro a ha;show ih _ (BO ha)
 show this pl whole h
def gE(ws:LN)(c:Nat)(kn sp rs pl am:LN):ie:=gP ws c kn sp rs pl++[(50,0,a7 am)]
theorem ahx{rs pl am:LN}(hh:dh A)(hA:A.depth<1000)(B:cA U mg mb)(OT:allB sp)(ahr:sp.length<=100)(Rj:∀x∈pl,x<sp.length)(ham:∀x∈am,x<256)(hws:∀x∈ws,x<256)(WX:ws.length=sp.length):
 S1 H U A lG J (bc dy 25) (gE ws c kn sp rs pl am++[(51,1,a7 ws)]) (gE ws c kn sp rs pl am++[(51,1,a7 (pl.foldl (mN sp pl am) ws))]) ai:=by
 show dq 4 pl (λmd:LN=>gE ws c kn sp rs pl am++[(51,1,a7 md)]) (mN sp pl am) (λ_ md=>(∀x∈md,x<256)/\md.length=sp.length) ws
  (qG 48 hh B.top Z Z) (.refl _) ⟨hws,WX⟩ (aH Z) (λst=>rfl) (λi place md hn hp=>?_) (λ_=>rfl)
 have hps:place<sp.length:=Rj _ (cW hn);obtain⟨YM,YL⟩:=hp;have hH:=RA ham (sp.getD place 0);show⟨⟨λx E=>?_,by simp[mN,YL]⟩,?_⟩
 .rcases u6 E with h|h
  .show YM x h
  .subst h;show iQ (qy YM _) (YN hH)
 show SS.cons (bE 36 (aT 0) (aR 0) Z Z (ao Z) Z)
  (SS.cons (dq 47 am (λwhole:Nat=>gE ws c kn sp rs pl am++[(51,1,a7 md),(4,0,aT place),(36,0,aT whole)]) (λwhole part=>tm whole (sp.getD place 0) ^^^ part) (λ_ whole=>whole<256) 0
   (qG 50 hh B.top Z Z) (.refl _) aK (ao Z) (λst=>rfl) (λj part whole hj hq=>?_) (λ_=>rfl))
  (SS.cons (dq 52 pl (λwhole:Nat=>gE ws c kn sp rs pl am++[(51,1,a7 md),(4,0,aT place),(36,0,aT whole)]) (jB sp place) (λ_ whole=>whole<256) (kg am (sp.getD place 0))
   (qG 48 hh B.top Z Z) (.refl _) hH (ao Z) (λst=>rfl) (λj other whole hj hq=>?_) (λ_=>rfl))
  (SS.cons (MW (ns:=md) (j:=place) (n:=md.getD place 0 ^^^ pj sp pl place (kg am (sp.getD place 0))) 51 Z
   (nt (fj (aq 51 Z) (aq 4 Z) au au Z) (aq 36 Z)) (aq 4 Z) au au Z) (SS.done ?_))))
 .have hpt:part<256:=ham _ (cW hj);show⟨iQ (eW _ _) hpt,?_⟩;show SS.cons (bE 36 (aT (tm whole (sp.getD place 0) ^^^ part)) (nt (se B hA Z (aq 36 Z) (fj (aq 11 Z) (aq 4 Z) au au Z) hq (OT _) Z Z) (aq 47 Z)) Z Z (ao Z) Z) (SS.done ?_);show km.rf bz bz
 .have hot:other<sp.length:=Rj _ (cW hj);show⟨BO hq,?_⟩;show SS.cons (S1.ite (x:=decide (other≠place) && decide (whole≠0)) (vE (yN (aq 52 Z) (aq 4 Z)) (λ_=>yN (aq 36 Z) (aR 0))) (λq=>?_) (λq=>?_)) SS.nil
  .have q:other≠place/\whole≠0:=by simpa using q
   have e:jB sp place whole other=FT ((lg whole+255 - lg (sp.getD place 0 ^^^ sp.getD other 0)) % 255):=by unfold jB;show(if_pos q)
   rw[e];show SS.cons (bE 36 (aT (FT ((lg whole+255 - lg (sp.getD place 0 ^^^ sp.getD other 0)) % 255)))
    (fj (aq 54 Z) (GH (fj (aq 53 Z) (aq 36 Z) (by assumption) (by rw[tR];lia) Z)
     (fj (aq 53 Z) (nt (fj (aq 11 Z) (aq 4 Z) au au Z) (fj (aq 11 Z) (aq 52 Z) au au Z))
      (by show iQ (OT _) (OT _)) (by rw[tR];lia) Z) (aR 255) aK (gx (WT _))) (by show mY _ aK) au Z) Z Z (ao Z) Z) (SS.done ?_)
   show km.rf bz bz
  .have q:¬(other≠place/\whole≠0):=by intro hc;have q:=(decide_eq_true hc.2)▸(decide_eq_true hc.1)▸q;ext
   have e:jB sp place whole other=whole:=by unfold jB;show(if_neg q)
   rw[e];show SS.done (km.rf bz bz)
 .show km.rf bz bz
def yQ(ws kn:LN)(c:Nat):LN:=kn++jQ (cH ws.length) (uw (kP (cH ws.length) (fR ws c) kn)).now ws.length
def vK(ws:LN)(c:Nat)(kn:LN):LN:=
 (yQ ws kn c).foldl (mN (cH ws.length) (yQ ws kn c) (wW (pg (cH ws.length) (yQ ws kn c)) (fR ws c) (yQ ws kn c).length)) ws
theorem GV(kn:LN):∀(rs:LN),(∀x∈rs,x<256)->(∀x∈kP sp rs kn,x<256)/\(kP sp rs kn).length=rs.length - kn.length:=by
 induction kn with
 |nil=>show λrs h=>⟨h,rfl⟩
 |cons k kn iH=>intro rs h;obtain⟨h1,h2⟩:=iH (wV sp rs k) (WU h);show⟨h1,?_⟩;change(kP sp (wV sp rs k) kn).length=_;rw[h2,CO];simp;lia
theorem afq(hl:∀x∈line,x<256):OU line line.length (uw line):=by
 have:∀n,OU line n ((aI n).foldl (ku line) ⟨[1],[1],0,1,1⟩):=by
  intro n;induction n with
  |zero=>change OU line 0 ⟨[1],[1],0,1,1⟩;show⟨by decide,by decide,Oe Z,Oe Z,Oe Z,Oe Z,Oe Z,Oe Z,Oe Z⟩
  |succ n ih=>rw[sT,qi];show ih.step hl
 show this _
theorem BQ(pl:LN):(∀x∈pg sp pl,x<256)/\(pg sp pl).length=pl.length+1:=by
 delta pg
 have:∀(l pr:LN),(∀x∈pr,x<256)->(∀x∈l.foldl (eF sp) pr,x<256)/\(l.foldl (eF sp) pr).length=pr.length+l.length:=by
  intro l;induction l with
  |nil=>intro pr h;show⟨h,rfl⟩
  |cons x l ih=>show λpr h=>eX (ih (eF sp pr x) (pU h)) λh1 h2=>(⟨h1,?_⟩);change(l.foldl (eF sp) (eF sp pr x)).length=_;rw[h2,lq];simp;show yj pr.length l.length
 show eX (this pl [1] aK) λh1 h2=>(⟨h1,?_⟩);rw[h2];simp;show jJ 1 pl.length
theorem WY{pr rs:LN}{t:Nat}:Rz pr rs t<256:=GU (λback=>tm (pr.getD back 0) (rs.getD (t - back) 0)) (λ_=>eW _ _) _ _ aK
protected theorem S1.m{ret:Option AV}(x:S1 H U A L J st G G' ret):S1m H H U A L J st G G' ret:=x
theorem Τ:dy=[bc dy 0,bc dy 1,bc dy 2,bc dy 3,bc dy 4,bc dy 5,bc dy 6,bc dy 7,bc dy 8,bc dy 9,bc dy 10,bc dy 11,bc dy 12,bc dy 13,bc dy 14,bc dy 15,
 bc dy 16,bc dy 17,bc dy 18,bc dy 19,bc dy 20,bc dy 21,bc dy 22,bc dy 23,bc dy 24,bc dy 25,bc dy 26]:=by rfl
theorem afr(hh:dh A)(hA:A.depth<1000)(B:cA U mg mb)(I:dQ mg mb)(WX:ws.length<=50)(hws:∀x∈ws,x<256)(hc:c<=50)(hkn:∀x∈kn,x<ws.length)(hkc:kn.length<=c)(qO:(jQ (cH ws.length) (uw (kP (cH ws.length) (fR ws c) kn)).now ws.length).length=(uw (kP (cH ws.length) (fR ws c) kn)).size):
 SS H U A lG J [bc dy 5,bc dy 6,bc dy 7,bc dy 8,bc dy 9,bc dy 10,bc dy 11,bc dy 12,bc dy 13,bc dy 14,bc dy 15,
  bc dy 16,bc dy 17,bc dy 18,bc dy 19,bc dy 20,bc dy 21,bc dy 22,bc dy 23,bc dy 24,bc dy 25,bc dy 26] (gB0 ws c kn) [] (O (a7 (vK ws c kn))):=by
 unfold vK yQ;have hwB:allB ws:=allB_of hws;have afs:∀x∈fR ws c,x<256:=λx E=>wU (GQ (c:=c) hwB) E;have hrl:(fR ws c).length=c:=by simp[fR]
 have r8:=Ry ws.length;have wb:=OQ ws.length;show eX (GV (sp:=cH ws.length) kn (fR ws c) afs) λhl1 ο=>have bk:=afq hl1;have bs:=bk.size;have bn:=bk.afn;SS.cons (aj4 hh B I au) (SS.share 11 (SS.less (G0:=gB ws c kn (cH ws.length)) ?_ (.refl _)));show SS.cons (gb 34 (a7 []) (oZ B.top fJ.nil Z Z) Z Z (ao Z) Z)<|SS.cons (aj5 hh B I hwB au)<|SS.cons (yL 37 34 Z Z (ao Z) Z) (SS.cons (aj7 hh hA B I wb au afs au (by rw[r8];show hkn)) ?_);generalize kP (cH ws.length) (fR ws c) kn=line at *;show SS.cons (gb 38 (a7 [1]) (pn B.top (aR 1) Z) Z Z (ao Z) Z)<|SS.share 38<|SS.cons (gb 39 (a7 [1]) (pn B.top (aR 1) Z) Z Z (ao Z) Z)<|SS.share 39<|SS.cons (bE 40 (aT 0) (aR 0) Z Z (ao Z) Z)<|SS.cons (bE 41 (aT 1) (aR 1) Z Z (ao Z) Z)<|SS.cons (bE 42 (aT 1) (aR 1) Z Z (ao Z) Z)<|SS.cons (aht hh hA B I hl1 au)<|SS.less (G0:=gF ws c kn (cH ws.length) (fR ws c) (uw line).now (uw line).size) ?_ (km.rf bz bz);show SS.cons (gb 46 (a7 []) (oZ B.top fJ.nil Z Z) Z Z (ao Z) Z) (SS.cons (ahu hh hA B I au r8 wb bk.now) ?_);have hfl:(jQ (cH ws.length) (uw line).now ws.length).length<=ws.length:=by show ba (AJ _ _) ?_;simp
 show SS.cons (S1.ite (x:=af) (oY.to (yN (kb B I Z (aq 46 Z) Z au) (aq 40 Z)) (by rw[qO];simp)) (λq=>IE q) (λ_=>SS.nil)) (SS.cons (gb 48 (a7 (kn++jQ (cH ws.length) (uw line).now ws.length)) (BN B.top (aq 24 Z) (aq 46 Z) au) (jN _) Z (ao Z) Z) (SS.share 48 ?_));have Rj:∀x∈kn++jQ (cH ws.length) (uw line).now ws.length,x<(cH ws.length).length:=λx E=>by rw[r8];show bf (b9.mp E) (λh=>hkn x h) λh=>dm.mp (gq.mp h).1
 have akb:(kn++jQ (cH ws.length) (uw line).now ws.length).length<=c:=by rw[iu,qO];lia
 generalize kn++jQ (cH ws.length) (uw line).now ws.length=pl at *;show eX (BQ (sp:=cH ws.length) pl) λakc akd=>(SS.less (G0:=gP ws c kn (cH ws.length) (fR ws c) pl) ?_ (by show km.rf bz bz));show SS.cons (gb 49 (a7 [1]) (pn B.top (aR 1) Z) Z Z (ao Z) Z)<|SS.share 49<|SS.cons (ahv hh hA B I wb au Rj au)<|SS.cons (gb 50 (a7 []) (oZ B.top fJ.nil Z Z) Z Z (ao Z) Z)<|SS.cons (ahw hh hA B I akc afs (by show Nat.le.intro (id (ml akd))) (by show le_of_le_of_eq akb (id (ml hrl))) au au)<|SS.share 50<|SS.less (G0:=gE ws c kn (cH ws.length) (fR ws c) pl (wW (pg (cH ws.length) pl) (fR ws c) pl.length)) ?_ (km.rf bz bz);show SS.cons (gb 51 (a7 ws) (YG B I Z (aq 17 Z) Z (hO ws) (eT jP)) (jN _) Z (ao Z) Z) (SS.cons (ahx hh hA B wb au Rj (λx E=>?_) hws r8.symm) ?_)
 .obtain ⟨t,_,rfl⟩:=bG.mp E;show WY
 show tP (S1.ret (aq 51 Z))
theorem OW{cM P:ab}(hh:dh A)(hA:A.depth<1000)(B:cA U mg mb)(I:dQ mg mb)(WX:ws.length<=50)(hws:∀x∈ws,x<256)(hc:c<=50)(hkn:∀x∈kn,x<ws.length)(hkc:kn.length<=c)(qO:(jQ (cH ws.length) (uw (kP (cH ws.length) (fR ws c) kn)).now ws.length).length=(uw (kP (cH ws.length) (fR ws c) kn)).size)(hq:J.qual=Z')(o8:J.code=R cM)(OX:cM∉bY)(ot:U.IsCode cM P #[])(vH:U.TableAt cM P #[])(hP:P∈bY)(o9:P∉H)(kr:P∈τ')(nN:∀b∈H,b∈τ'):
 pL H τ' U A lG J dy (gM0 ws c kn) [] (O (a7 (vK ws c kn))):=by
 rw[Τ];show pL.cons (S1.m (aj0 B)) (pL.cons (S1.m (aj1 B)) (pL.cons (S1.m aj2) (pL.cons (S1.m (aj3 hh B I)) (pL.share 54 (pL.share 53 (pL.cons
  (Rp (f:=0) (x:=33) (y:=54) (z:=53) B (λJ=>rfl) Z Z (ue Z) (ue Z) (ue Z) Z Z Z Z aK aK aK Z (by show hq.symm▸?_;rfl) o8 OX ot vH hP o9 kr nN) (pL.less (G0:=gB0 ws c kn) ?_ ?_)))))))
 .show (afr hh hA B I WX hws hc hkn hkc qO).m
 .show km.rf bz bz
def ahy:bT:=cS 27
def cN:List bT:=bo ahy
def iD:c9:=bg ahy
theorem OY(ns:List Int):iT (ns.map a9)=N:=Gl (nW ns)
theorem OZ(ns:List Int):wa (kO ns)=N:=by
 induction ns with
 |nil=>rfl
 |cons n ns ih=>assumption
theorem BR{a i:aw}{ns:List Int}(ha:V H U A L J G a (kO ns) af)(hi:V H U A L J G i (aT k) af)(hk:k<ns.length)(hl:ns.length<=1000)(r8:j8 i=af):V H U A L J G (dk a i pos) (a9 (ns.getD k 0)) fr:=by show wJ ha hi ?_ r8 (λ_=>rfl);show(?_:cond (dY k 1000000) ((ns.map a9)[k]?) eU=_);have:dY k 1000000=N:=eT au;show this.symm▸cY.symm▸(dE hk).symm▸da.symm▸(dE hk).symm▸?_;rfl
theorem GW{a i:aw}{ns:List Int}(ha:V H U A L J G a (kO ns) af)(hi:V H U A L J G i (a9 (AH 0)) af)(hk:0<ns.length)(r8:j8 i=af):V H U A L J G (dk a i pos) (a9 (ns.getD (ns.length - 1) 0)) fr:=by
 show wJ ha hi ?_ r8 (λ_=>rfl);show(?_:cond (dY 1 (ns.map a9).length && dY 0 1000000) ((ns.map a9)[(ns.map a9).length - 1]?) eU=_);have hk':ns.length - 1<ns.length:=by lia
 rw[(eT jP),il,cY,dE hk',da,dE hk'];rfl
noncomputable def DZ(x:Int)(m:Nat):Nat:=(x.fmod m).toNat
theorem tT{a b:aw}{x:Int}{m:Nat}(ha:V H U A L J G a (a9 x) af)(D:V H U A L J G b (aT m) af)(h:0<m):
 V H U A L J G (eu a Bj b pos) (aT (DZ x m)) fr:=V.bin .fmod ha D (by
  show(?_:cond (decide (0<aj m)) _ _=_);rw[decide_eq_true (by have h1:aj m=(m:Int):=rfl;show AG.mpr h)];change O (x.fmod (m:Int))=O (aj (x.fmod m).toNat);congr 1;have:0<=x.fmod (m:Int):=by rw[EE _ fF];show Int.emod_nonneg _ (Int.natCast_ne_zero_iff_pos.mpr h)
  show(Ua this).symm)
theorem rP(x:Int){m:Nat}(h:0<m):DZ x m<m:=by
 delta DZ
 rw[EE _ fF];show(Int.toNat_lt' h).mpr (Int.emod_lt_of_pos x (b:=(m:Int)) (Int.natCast_pos.mpr h))
theorem MZ{a b:aw}{x:Int}{m:Nat}(ha:V H U A L J G a (a9 x) af)(D:V H U A L J G b (aT m) af)(h:0<m)(h2:m<1000000):
 V H U A L J G (eu a FE b pos) (a9 (x.fdiv m)) fr:=V.bin .fdiv ha D (by show(?_:cond (oW (aj m) && decide (0<aj m)) _ _=_);have:oW (aj m)=N:=decide_eq_true (by have h1:(aj m).natAbs=m:=rfl;lia);rw[this,decide_eq_true (by have h1:aj m=(m:Int):=rfl;show AG.mpr h)];rfl)
theorem vN{a b:aw}{x y:Int}(ha:V H U A L J G a (a9 x) af)(D:V H U A L J G b (a9 y) af):
 V H U A L J G (eu a rL b pos) (a9 (x+y)) fr:=V.bin .add ha D Z
theorem acg{a b:aw}(ha:V H U A L J G a (aT x) af)(D:V H U A L J G b (aT y) af)(E:x<1000000)(hy:y<=1000):
 V H U A L J G (eu a Mh b pos) (aT (x ^ y)) fr:=V.bin .pow ha D (by show(?_:cond (oW (aj x) && decide (0<=aj y) && decide (aj y<=1000)) _ _=_);have:oW (aj x)=N:=decide_eq_true (by have h1:(aj x).natAbs=x:=rfl;lia);rw[this,decide_eq_true (by have h1:aj y=(y:Int):=rfl;simp),decide_eq_true (by have h1:aj y=(y:Int):=rfl;show Mr h1 Z hy)];show congrArg O (Int.natCast_pow x y).symm)
theorem BS{a:aw}{ns:List Int}(B:cA U mg mb)(I:dQ mg mb)(kM:Gi L "len")(ha:V H U A L J G a (kO ns) af)(dH:cG a=af)(hl:ns.length<=1000):V H U A L J G (bI (ar (aC "len") np) [a] [] pos) (aT ns.length) fr:=by have:=V.len (fr:=fr) (np:=np) (pos:=pos) B I kM ha dH (eT jP);rw[il]at this;show this
noncomputable def lS(script:List Int):List Int:=if 0<script.length then script.take 20 else [0]
theorem Jt(script:List Int):0<(lS script).length/\(lS script).length<=20:=by
 delta lS
 split
 .rw [AP];lia
 .decide
def iR(aL:List Int):Nat:=DZ (aL.getD 0 0) 2
def wX(aL:List Int)(c:Nat):LN:=(aI (10 - c)).map λp=>DZ (aL.getD (p % aL.length) 0+(53 * p:Nat)) 256
noncomputable def nZ(wd:Nat):LN:=(aI 8).map λp=>wd / 2 ^ (7 - p) % 2
def dJ(data:LN):LN:=data.foldl (λl wd=>l++nZ wd) []
theorem pV(data:LN):(dJ data).length=8 * data.length:=by
 delta dJ
 have:∀(d:LN) (l:LN),(d.foldl (λl wd=>l++nZ wd) l).length=l.length+8 * d.length:=by
  intro d;induction d with
  |nil=>intro l;rfl
  |cons x d ih=>intro l;simp only[iw];rw[ih];simp[nZ];lia
 rw[this];show Nat.add_eq_right.mpr Z
def gL1(L aL:List Int)(c:Nat)(data:LN):ie:=[(0,0,kO L),(1,0,kO aL),(2,0,aT (iR aL)),(3,0,aT c),(5,0,a7 data)]
theorem WZ{e1 e2:aw}{wd p:Nat}{p1 p2 p3 p4 p5 p6 p7:aY}{k1 k2 k3:Nat}(h1:V H U A L J G e1 (aT wd) af)(h2:V H U A L J G e2 (aT p) af)(hp:p<8):
 V H U A L J G (eu (eu e1 FE (eu (gn (jc 2) k1 p1) Mh (eu (gn (jc 7) k2 p2) FF e2 p3) p4) p5) Bj (gn (jc 2) k3 p6) p7) (aT (wd / 2 ^ (7 - p) % 2)) fr:=by
 have ake:0<2 ^ (7 - p)/\2 ^ (7 - p)<=128:=⟨Nat.pow_pos aK,by have:2 ^ (7 - p)<=2 ^ 7:=Nat.pow_le_pow_right bA au;show this⟩
 show yM (MV h1 (acg (aR 2) (lQ (aR 7) h2 au) bA au) ake.1 au) (aR 2) bA
theorem ahz{script:List Int}(hh:dh A)(B:cA U mg mb)(I:dQ mg mb)(r8:script.length<=63){ret:Option AV}(hr:pL H τ' U A iD J rest (gL1 script (lS script) (5+iR (lS script)) (wX (lS script) (5+iR (lS script)))++[(6,1,a7 (dJ (wX (lS script) (5+iR (lS script)))))]) G' ret):
 pL H τ' U A iD J ([bc cN 0,bc cN 1,bc cN 2,bc cN 3,bc cN 4,bc cN 5]++rest) [(0,0,kO script)] G' ret:=by
 show eX (Jt script) λD0 FU=>have hlv:iR (lS script)<2:=rP _ bA;pL.cons (S1.m (gb 1 (kO (lS script)) (wI (decide (0<script.length)) (oY.to (vI (BS B I Z (aq 0 Z) Z au) (aR 0)) Z) (λq=>?_) (λq=>?_)) (OZ _) Z (aH Z) Z)) (pL.share 1 ?_)
 .have e:lS script=script.take 20:=(if_pos (of_decide_eq_true q));rw[e];show V.to (Oz (k:=20) B.top (aq 0 Z) (aR 20) (OY _) (eT jP)) ?_
  delta kO
  rw[AR]
 .have e:lS script=[0]:=(if_neg (of_decide_eq_false q));rw[e];show oZ B.top (fJ.cons V.int fJ.nil Z) Z Z
 generalize lS script=aL at *;show pL.cons (S1.m (bE 2 (aT (iR aL)) (tT (BR (aq 1 Z) (aR 0) D0 au Z) (aR 2) bA) Z Z (ao Z) Z)) (pL.cons (S1.m (bE 3 (aT (5+iR aL)) (fk (aR 5) (aq 2 Z)) Z Z (ao Z) Z)) ?_);have YO:(wX aL (5+iR aL)).length<=5:=by simp[wX];lia
 show pL.cons (S1.m (S1.to (G1:=[(0,0,kO script),(1,0,kO aL),(2,0,aT (iR aL)),(3,0,aT (5+iR aL)),(5,1,a7 (wX aL (5+iR aL)))]) (Dy (x:=4) (y:=5) (fs:=[1]) (ns:=aI (10 - (5+iR aL))) (λ_=>N) (λp=>DZ (aL.getD (p % aL.length) 0+(53 * p:Nat)) 256) B.top (.of (rfl)) Z
  (zv.itc (fQ hh B I Z (lQ (aR 10) (aq 3 Z) au) Z au)) jP (λn hn fV=>rfl) (λn hn _ fV=>?_) (λ_=>rfl) Z Z
  (λe=>qH (by rw[e];rfl) (by delta j7;rw[e];rfl) Z (rfl))) ?_)) (pL.share 5 ?_)
 .show tT (vN (BR (aq 1 Z) (yM (aq 4 Z) (BS B I Z (aq 1 Z) Z au) D0) (mY _ D0) au Z)
   (lR (aR 53) (aq 4 Z) bA)) (aR 256) bA
 .rw [Us.mpr (λa a_1=>bi_tt.mpr trivial)];rfl
 show pL.cons (S1.m (gb 6 (a7 []) (oZ B.top fJ.nil Z Z) Z Z (ao Z) Z)) ?_;generalize wX aL (5+iR aL)=data at *;show pL.cons (S1.m (dq 7 data (λl:LN=>gL1 script aL (5+iR aL) data++[(6,1,a7 l)]) (λl wd=>l++nZ wd) (λi l=>l.length=8 * i/\i<=data.length) []
  (qG 5 hh B.top Z Z) (.refl _) ⟨rfl,fg _⟩ (aH Z) (λst=>rfl) (λi wd l hn hp=>?_) (λ_=>rfl))) hr
 show⟨⟨by simp[nZ,hp.1];show ml (LB 8 i),(dR.mp hn).1⟩,?_⟩;show SS.cons (S1.to (G1:=jl (jl (gL1 script aL (5+iR aL) data++[(6,1,a7 l)]) 7 0 (aT wd)) 6 1 (a7 (l++nZ wd))) (ab3 (x:=6) (K:=l.map aT) (ys:=(nZ wd).map aT) Z (hO _) ?_ (hO _) (by simp[nZ];lia) Z) (by delta a7;rw[j0])) (SS.done (km.rf bz bz));show V.to (GL 4 [7] (aI 8) (λ_=>N) (λp=>wd / 2 ^ (7 - p) % 2) B.top (.of (rfl)) Z
  (zv.itc (fQ hh B I Z (aR 8) Z bA)) bC (λn hn fV=>rfl) (λn hn _ fV=>WZ (aq 7 Z) (aq 4 Z) (dm.mp hn)) (λ_=>rfl)) Z
def zw(cj:List (LN)):AV:=bV (cj.map a7)
def tU(p:Nat×Nat):AV:=qN (aj p.1,aj p.2)
def mH(ps:List (Nat×Nat)):AV:=bV (ps.map tU)
theorem BU(ps:List (Nat×Nat)):iT (ps.map tU)=N:=by
 induction ps with
 |nil=>rfl
 |cons p ps ih=>assumption
theorem wg(ps:List (Nat×Nat)):ps.map tU=(ps.map λp=>(aj p.1,aj p.2)).map qN:=qj.symm
theorem O0{a b c:aw}{op op':COp}{x y z:Int}(ha:V H U A L J G a (a9 x) af)(D:V H U A L J G b (a9 y) af)(hc:V H U A L J G c (a9 z) af):
 oY H U A L J G (jZ a [op.ast,op'.ast] [b,c] pos) (gS op x y && gS op' y z):=λs r=>by
 show isTrue_chain ((ha r).CE λt aD e1=>test_link ((D (r.ext e1.ext)).tM λu aQ F2 e2 V2 _=>?_)) (by simpa[lastMarks] using r7 op' c);obtain⟨t',rfl⟩:=V2.toInt;show BC.CA λv de e3 hv=>?_;subst e3 hv;show l8 ?_;have Jn:=e1.trans e2;cases hq:gS op x y with
 |false=>show⟨Jn,rfl⟩
 |true=>show test_last ((hc (r.ext Jn.ext)).tM λu fq F4 e4 V4 _=>?_);obtain⟨t'',rfl⟩:=V4.toInt;show BC.CA λv hJ e5 hv=>?_;subst e5 hv;show l8 ⟨Jn.trans e4,rfl⟩
theorem BV(x:V H U A L J G e av af)(h:flat av=N):V H U A L J G e av fr:=λs r=>
 (x r).tM λv Y F a aO _=>(oX F a aO (λ_=>by show(cV.1 _ _ _ h aO).symm▸?_;show⟨λ_ D=>(kI D),rJ⟩))
theorem GX{e1 e2:aw}(B:Tp U)(h1:V H U A L J G e1 (aT i) af)(h2:V H U A L J G e2 (aT j) af)(s1:cG e1=af)(s2:cG e2=af):
 V H U A L J G (ik [e1,e2] k pos) (tU (i,j)) fr:=ui B (fJ.cons h1 (fJ.cons h2 fJ.nil s2) s1) Z Z
theorem ach{q:Nat×Nat}{ps:List (Nat×Nat)}{apos cpos:aY}(E:cq G x=O (1,mH ps))(he:V H U A L J G e (tU q) af)(dH:cG e=af)(lz:(apos.endLine==cpos.line)=N)(hl:ps.length<=1000):
 S1 H U A L J (vh (bI (iI (ar (NM x) p) (aC "append") apos) [e] [] cpos) pos) G (jl G x 1 (mH (ps++[q]))) ai:=λD s W r=>by
 have:=S1.app (p:=p) (apos:=apos) (cpos:=cpos) (pos:=pos) E (BU ps) he Z dH lz (eT jP) (by delta iG;show r.scope.symm▸r.kind.symm▸?_;rfl) r;rw[(by simp:ps.map tU++[tU q]=(ps++[q]).map tU)]at this;show this
def gL2(D9 aL:List Int)(c:Nat)(data bits:LN)(mv:aa)(pic:List (LN)):ie:=[(0,0,kO D9),(1,0,kO aL),(2,0,aT (iR aL)),(3,0,aT c),(5,0,a7 data),(6,0,a7 bits),(8,0,aX mv),(10,1,zw pic)]
noncomputable def iF(right step:Nat):Nat:=if right % 4=0 then 12 - step else step
noncomputable def GZ(i:Nat)(ps:List (Nat×Nat))(j:Nat):List (Nat×Nat):=if 0<i/\(8<i\/8<j) then ps++[(i,j)] else ps
def G4(right:Nat)(ps:List (Nat×Nat))(step:Nat):List (Nat×Nat):=[right,right - 1].foldl (GZ (iF right step)) ps
def jf:List (Nat×Nat):=[12,10,8,6,4,2].foldl (λps right=>(aI 13).foldl (G4 right) ps) []
theorem CP(i j:Nat)(ps:List (Nat×Nat)):(GZ i ps j).length<=ps.length+1:=by
 delta GZ
 split
 .simp
 .lia
theorem Ju{right step:Nat}{ps:List (Nat×Nat)}:(G4 right ps step).length<=ps.length+2:=by
 delta G4
 have h1:=CP (iF right step) right ps;have h2:=CP (iF right step) (right - 1) (GZ (iF right step) ps right);simp only[iw,Lc];lia
theorem BW{right:Nat}:∀(l:LN) (ps:List (Nat×Nat)),(l.foldl (G4 right) ps).length<=ps.length+2 * l.length
 | [],ps=>by simp
 |x::l,ps=>by have h1:=BW (right:=right) l (G4 right ps x);have h2:=Ju (right:=right) (step:=x) (ps:=ps);simp only[iw,oF];lia
theorem aci{D9:List Int}{data bits:LN}{mv:aa}(hh:dh A)(B:cA U mg mb)(I:dQ mg mb):
 S1 H U A iD J (bc cN 12) (gL2 D9 aL c data bits mv pic++[(11,1,mH [])]) (gL2 D9 aL c data bits mv pic++[(11,1,mH jf)]) ai:=by
 show dq 12 [12,10,8,6,4,2] (λps:List (Nat×Nat)=>gL2 D9 aL c data bits mv pic++[(11,1,mH ps)]) (λps right=>(aI 13).foldl (G4 right) ps) (λi ps=>ps.length<=26 * i/\i<=6) []
  (GK hh B.top (oZ B.top (fJ.cons (aR 12) (fJ.cons (aR 10) (fJ.cons (aR 8) (fJ.cons (aR 6) (fJ.cons (aR 4) (fJ.cons (aR 2) fJ.nil Z) Z) Z) Z) Z) Z) Z Z))
  (.refl _) ⟨ey _,fg _⟩ (ao Z) (λst=>rfl) (λi right ps hn hp=>?_) (λ_=>rfl)
 have hi:i<6:=(dR.mp hn).1;have akf:2<=right/\right<=12:=r26 _ (cW hn);show⟨⟨?_,by lia⟩,?_⟩
 .have:=BW (right:=right) (aI 13) ps;simp at this;lia
 show SS.cons (dq 13 (aI 13) (λps:List (Nat×Nat)=>gL2 D9 aL c data bits mv pic++[(11,1,mH ps),(12,0,aT right)]) (G4 right) (λk qs=>qs.length<=26 * i+2 * k/\k<=13) ps
  (fQ hh B I Z (aR 13) Z bA) (.refl _) ⟨by lia,fg _⟩ (ao Z) (λst=>rfl) (λk step qs FU hq=>?_) (λ_=>rfl)) (SS.done (km.rf bz bz))
 obtain⟨h1,h2⟩:=dR.mp FU;simp at h1 h2;subst h2;show⟨⟨by have:=Ju (right:=right) (step:=k) (ps:=qs);lia,by lia⟩,?_⟩;show SS.cons (bE 14 (aT (iF right k)) (wI (decide (right % 4=0)) (BJ (yM (aq 12 Z) (aR 4) bA) (aR 0)) (λq=>?_) (λq=>?_)) Z Z (ao Z) Z)
  (SS.cons (dq 15 [right,right - 1] (λps:List (Nat×Nat)=>gL2 D9 aL c data bits mv pic++[(11,1,mH ps),(12,0,aT right),(13,0,aT k),(14,0,aT (iF right k))]) (GZ (iF right k)) (λm rs=>rs.length<=26 * i+2 * k+m) qs
   (GK hh B.top (oZ B.top (fJ.cons (aq 12 Z) (fJ.cons (lQ (aq 12 Z) (aR 1) au) fJ.nil Z) Z) Z Z)) (.refl _) au (ao Z) (λst=>rfl) (λm j rs hn3 hr=>?_) (λ_=>rfl)) (SS.done (km.rf bz bz)))
 .have q:=of_decide_eq_true q;have e:iF right k=12 - k:=(if_pos q);rw[e];show lQ (aR 12) (aq 13 Z) au
 .have q:=of_decide_eq_false q;have e:iF right k=k:=(if_neg q);rw[e];show BV (aq 13 Z) Z
 .have hm:m<2:=(dR.mp hn3).1;show⟨by have:=CP (iF right k) j rs;lia,?_⟩;show SS.cons (S1.ite (x:=decide (0<iF right k) && (decide (8<iF right k) ||decide (8<j))) (vE (vI (aq 14 Z) (aR 0)) (λ_=>Q6 (vI (aq 14 Z) (aR 8)) (λ_=>vI (aq 15 Z) (aR 8)))) (λq=>?_) (λq=>?_)) SS.nil
  .have q:0<iF right k/\(8<iF right k\/8<j):=by simpa using q
   have e:GZ (iF right k) rs j=rs++[(iF right k,j)]:=(if_pos q);rw[e];show SS.cons (ach (x:=11) (q:=(iF right k,j)) Z (GX B.top (aq 14 Z) (aq 15 Z) Z Z) Z Z au)<|SS.done<|km.rf bz bz
  .have q:¬(0<iF right k/\(8<iF right k\/8<j)):=by
    intro hc;have:(decide (0<iF right k) && (decide (8<iF right k) ||decide (8<j)))=N:=by simpa using hc
    have q:=this.symm.trans q;ext
   have e:GZ (iF right k) rs j=rs:=(if_neg q);rw[e];show SS.done (km.rf bz bz)
noncomputable def Jv(sent:LN)(start:Nat):Nat:=((sent.drop start).take 8).foldl (λwd b=>2 * wd+b) 0
def zW(sent:LN):LN:=(aI 10).map λk=>Jv sent (8 * k)
def vO(aL:List Int):Nat:=1+DZ (aL.getD (aL.length - 1) 0) 12
def l4(aL:List Int):Nat:=1+DZ (aL.getD (aL.length / 2) 0) 12
def qJ(aL:List Int):Nat:=1+DZ ((aL.getD (aL.length - 1) 0).fdiv (12:Nat)) 3
def kQ(aL:List Int):Nat:=1+DZ ((aL.getD 0 0).fdiv (2:Nat)) 6
def acj(T cB bw Wd:Int):List Int->Bool
 | [i,j]=>(gS .le T i && gS .lt i (T+cB)) && (gS .le bw j && gS .lt j (bw+Wd))
 |_=>af
def ack(T cB bw Wd:Int)(place:Nat):Nat:=((((jf.drop (8 * place)).take 8).map λp=>[aj p.1,aj p.2]).filter (acj T cB bw Wd)).length
def CQ(T cB bw Wd:Int):LN:=(aI 10).filter λplace=>decide (0<ack T cB bw Wd place)
def G6(aL:List Int):Nat->LN
 | 0=>aI 10
 |i+1=>CQ (vO aL) ((kQ aL:Int) - i) (l4 aL) (qJ aL)
theorem YP{x:aP}{hi:aw}(B:Tp U)(ha:V H U A L J G (ar x np) (a7 ns) af)(hh:V H U A L J G hi (aT k) af)(hl:ns.length<=1000):V H U A L J G (dk (ar x np) (mi eU (O hi) eU p) pos) (a7 (ns.take k)) fr:=by
 show V.to (Oz B ha hh (hO ns) (eT jP)) ?_
 delta a7
 rw[AR]
theorem Υ{x:aP}{lo hi:aw}{m:Nat}(B:Tp U)(ha:V H U A L J G (ar x np) (a7 ns) af)(hh:V H U A L J G lo (aT k) af)(hj:V H U A L J G hi (aT m) af)(hl:ns.length<=1000)(Rb:k<=m)(hm:m<=ns.length):V H U A L J G (dk (ar x np) (mi (O lo) (O hi) eU p) pos) (a7 ((ns.drop k).take (m - k))) fr:=by
 show V.to (WG B ha hh hj (hO ns) (eT jP) (eT Rb) (eT jP)) ?_
 delta a7
 rw[AR,EW]
theorem Pa{x:aP}{lo hi:aw}{ps:List (Nat×Nat)}{m:Nat}(B:Tp U)(ha:V H U A L J G (ar x np) (mH ps) af)(hh:V H U A L J G lo (aT k) af)(hj:V H U A L J G hi (aT m) af)(hl:ps.length<=1000)(Rb:k<=m)(hm:m<=ps.length):V H U A L J G (dk (ar x np) (mi (O lo) (O hi) eU p) pos) (mH ((ps.drop k).take (m - k))) fr:=by
 show V.to (WG B ha hh hj (BU ps) (eT jP) (eT Rb) (eT jP)) ?_
 delta mH
 rw[AR,EW]
def gL3(D9 aL:List Int)(c:Nat)(data bits:LN)(pic:List (LN))(sent:LN):ie:=
 [(0,0,kO D9),(1,0,kO aL),(2,0,aT (iR aL)),(3,0,aT c),(5,0,a7 data),(6,0,a7 bits),(10,1,zw pic),(11,0,mH jf),(16,0,a7 sent)]
theorem akg{D9:List Int}{data bits sent:LN}(hA:θ 10 A)(B:cA U mg mb)(I:dQ mg mb)(W0:sent.length=80)(hbl:bits.length<=80)(ht:sent.take bits.length=bits):
 S1 H U A iD J (bc cN 14) (gL3 D9 aL c data bits pic sent) (gL3 D9 aL c data bits pic sent) ai:=by
 show S1.ite (x:=af) (oY.to (Q6 (yN (kb B I Z (aq 16 Z) Z au) (aR 80)) (λ_=>abV hA bA (YP B.top (aq 16 Z) (kb B I Z (aq 6 Z) Z au) au) (aq 6 Z) (dS _) (dS _))) ?_) (λq=>IE q) (λ_=>SS.nil);rw[ht,W0];simp
theorem akh{D9:List Int}{data bits sent:LN}(hh:dh A)(B:cA U mg mb)(I:dQ mg mb)(W0:sent.length=80):
 S1 H U A iD J (bc cN 16) (gL3 D9 aL c data bits pic sent++[(17,1,a7 [])]) (gL3 D9 aL c data bits pic sent++[(17,1,a7 (zW sent))]) ai:=by
 show S1.to (dq 18 ((aI 10).map (8 * ·)) (λl:LN=>gL3 D9 aL c data bits pic sent++[(17,1,a7 l)]) (λl st=>l++[Jv sent st]) (λi l=>l.length=i/\i<=10) []
  (zv.eq (Gy (k:=0) (m:=80) (c:=8) (n:=10) hh B I Z V.int Z V.int Z V.int Z aK (rfl) (rfl) (rfl)) (rfl)) (.refl _) ⟨rfl,fg _⟩ (ao Z) (λst=>rfl) (λi st l hn hp=>?_) (λ_=>rfl)) ?_
 .have hi:i<10/\st=8 * i:=by show dG (dR.mp hn) λh1 h2=>?_;simp at h1 h2;show⟨h1,h2.symm⟩
  obtain⟨hi,rfl⟩:=hi;show⟨⟨by simp[hp.1],by assumption⟩,?_⟩;show SS.cons (bE 7 (aT 0) (aR 0) Z Z (aH Z) Z)
   (SS.cons (dq 19 ((sent.drop (8 * i)).take (8 * i+8 - 8 * i)) (λwd:Nat=>gL3 D9 aL c data bits pic sent++[(17,1,a7 l),(18,0,aT (8 * i)),(7,0,aT wd)]) (λwd b=>2 * wd+b) (λ_ _=>True) 0
    (GK hh B.top (Υ B.top (aq 16 Z) (aq 18 Z) (fk (aq 18 Z) (aR 8)) au au au)) (.refl _) trivial (ao Z) (λst=>rfl) (λm b wd hm _=>⟨trivial,?_⟩) (λ_=>rfl))
   (SS.cons (yP 17 (Jv sent (8 * i)) Z (V.to (aq 7 Z) (by rw[(by lia:8 * i+8 - 8 * i=8)];rfl)) Z Z au) (SS.done (km.rf bz bz))))
  show SS.cons (bE 7 (aT (2 * wd+b)) (fk (lR (aR 2) (aq 7 Z) bA) (aq 19 Z)) Z Z (aH Z) Z)<|SS.done<|km.rf bz bz
 .rw [Ld,BL];rfl
def M0(aL:List Int)(c:Nat)(pic:List (LN))(words:LN)(kn:LN)(high:Int):ie:=
 [(1,0,kO aL),(3,0,aT c),(10,1,zw pic),(11,0,mH jf),(17,0,a7 words),(20,0,aT (vO aL)),(21,0,aT (l4 aL)),(22,0,aT (qJ aL)),(23,0,a9 high),(24,0,a7 kn)]
theorem pW:jf.length=80:=by rfl
theorem acm{words:LN}{high:Int}{e0:aY}(hh:dh A)(B:cA U mg mb)(I:dQ mg mb):
 S1 H U A iD J (bc (match bc cN 22 with|U7 _ b _ _=>b |_=>[]) 0) (M0 aL c pic words kn high) (jl (M0 aL c pic words kn high) 24 1 (a7 (CQ (vO aL) high (l4 aL) (qJ aL)))) ai:=by
 show GN (x:=24) (av:=a7 (CQ (vO aL) high (l4 aL) (qJ aL))) ?_ (jN _) Z (aH Z) (λe=>GO (by delta j7;rw[e];rfl));show V.to (GL 4 [11,23,21,20,22] (aI 10) (λplace=>decide (0<ack (vO aL) high (l4 aL) (qJ aL) place)) (λp=>p) B.top (.of (rfl)) Z
  (zv.itc (fQ hh B I Z (aR 10) Z bA)) au (λn hn fV=>?_) (λn hn _ fV=>BV (aq 4 Z) Z) (λ_=>rfl)) (by rw[UC];rfl)
 have hn:=dm.mp hn;show vI (V.to (BS (ns:=((((((jf.drop (8 * n)).take (8 * n+8 - 8 * n)).map λp=>(aj p.1,aj p.2)).map λp=>[p.1,p.2]).filter (acj (vO aL) high (l4 aL) (qJ aL))).map λ_=>(1:Int))) B I Z ?_ Z ?_) ?_) (aR 0)
 .show V.comp (K:=[14,15]) (fs:=[23,21,20,22]) (acj (vO aL) high (l4 aL) (qJ aL)) (λ_=>1) B.top (.of (rfl)) Z
   (OE (x:=14) (y:=15) hh B.top (Pa (k:=8 * n) (m:=8 * n+8) B.top (aq 11 Z) (lR (aR 8) (aq 4 Z) aK) (fk (lR (aR 8) (aq 4 Z) aK) (aR 8)) bA au (by rw[pW];lia)) (wg _))
   (λks MS=>?_) jP (λks MS ahA=>bh (bG.mp MS) λp _ dX=>dX▸vE (O0 (op:=.le) (op':=.lt) (aq 20 Z) (aq 14 Z) (vN (aq 20 Z) (aq 23 Z)))
    (λ_=>O0 (op:=.le) (op':=.lt) (aq 21 Z) (aq 15 Z) (vN (aq 21 Z) (aq 22 Z)))) (λks MS _ ahA=>V.int) (λ_=>rfl)
  show bh (bG.mp MS) λp _ dX=>dX▸?_;rfl
 .simp;show ba (AJ _ _) ?_;simp;lia
 .rw [il,(by lia:8 * n+8 - 8 * n=8),qj];rfl
noncomputable def rQ(f:Nat->Nat)(c:Nat):Nat->Nat->Nat
 |i,0=>i
 |i,k+1=>if f i<=c then i else rQ f c (i+1) k
set_option tactic.hygienic true in
theorem Na{f:Nat->Nat}(k:Nat):∀(i:Nat),f (i+k)<=c->f (rQ f c i k)<=c/\∀j,i<=j->j<rQ f c i k->c<f j:=by
 induction k with
 |zero=>intro i h;show⟨h,λj h1 h2=>absurd (j3 h1 h2) (gw _)⟩
 |succ k iH=>
  intro i h;show(?_:f (if f i<=c then i else rQ f c (i+1) k)<=c/\∀j,i<=j->j<(if f i<=c then i else rQ f c (i+1) k)->c<f j);by_cases hq:f i<=c
  .rw [if_pos hq];show⟨hq,λj h1 h2=>absurd (j3 h1 h2) (gw _)⟩
  .rw [if_neg hq];show eX (iH (i+1) (by rw[show i+1+k=i+(k+1) by lia];show h)) λh1 h2=>(⟨h1,λj h3 h4=>?_⟩);show if hj:j=i then hj▸UO hq else h2 j au h4
def um(aL:List Int)(c:Nat):Nat:=rQ (λi=>(G6 aL i).length) c 0 (kQ aL+1)
def yR(aL:List Int)(c:Nat):LN:=G6 aL (um aL c)
def RB(aL:List Int)(c:Nat):Int:=(kQ aL:Int) - (um aL c:Nat)+1
theorem Χ(aL:List Int):G6 aL (0+(kQ aL+1))=[]:=by
 rw[ql];change CQ (vO aL) ((kQ aL:Int) - (kQ aL:Nat)) (l4 aL) (qJ aL)=[];rw[(by lia:(kQ aL:Int) - (kQ aL:Nat)=0)]
 delta CQ
 rw[Un];intro p _;have:ack (vO aL) 0 (l4 aL) (qJ aL) p=0:=by
  delta ack
  rw[rj,Un];intro ks MS;show bh (bG.mp MS) λq _ dX=>dX▸?_;dsimp only[acj,gS,Int.add_zero];intro hc;simp only[qr,decide_eq_true_eq]at hc;lia
 show this.symm▸ne_true_of_eq_false Z
theorem zX(aL:List Int)(c:Nat):(yR aL c).length<=c/\∀j,j<um aL c->c<(G6 aL j).length:=eX (Na (f:=λi=>(G6 aL i).length) (c:=c) (kQ aL+1) 0 (by change(G6 aL (0+(kQ aL+1))).length<=c;rw[Χ];simp)) λh1 h2=>⟨h1,λj hj=>h2 j (fg _) hj⟩
theorem Pb(aL:List Int):∀i,(G6 aL i).length<=10
 | 0=>by ext
 |i+1=>by change(CQ _ _ _ _).length<=10;show ba (AJ _ _) ?_;lia
noncomputable def pv(pic:List (LN))(i j v:Nat):List (LN):=pic.set i ((pic.getD i []).set j v)
def Sq(pic:List (LN)):Prop:=pic.length=13/\∀i,i<13->(pic.getD i []).length=13
theorem tV{v:Nat}(h:Sq pic):Sq (pv pic i j v):=by
 show⟨by simp[pv,h.1],λk hk=>?_⟩;have h2:=h.2 k hk
 delta pv
 by_cases e:i=k
 .subst e;have:i<pic.length:=h.1.symm▸hk;simp[this]at h2 ⊢;show h2
 .simp [e];show h2
theorem kx{l:List α}{d:α}(h:i<l.length):l[i]? =O (l.getD i d):=by rw[da,dE h];rfl
theorem S1.pv{i j:aw}{ni nj v:Nat}{p' p'':aY}(E:cq G x=O (1,zw pic))(hq:Sq pic)(he:V H U A L J G e (aT v) af)(hi:V H U A L J G i (aT ni) af)(r8:j8 i=af)(hj:V H U A L J G j (aT nj) af)(hni:ni<13)(hnj:nj<13)(hs:fu e (O (dk (dk (ar (NM x) p) i p'') j p')) pos.line J=pure af):
 S1 H U A L J (fE [dk (dk (ar (NM x) p) i p'') j p'] e pos) G (jl G x 1 (zw (Lake.pv pic ni nj v))) ai:=by
 have hl:=hq.2 ni hni;have key:=Ι (p:=p) (p':=p') (p'':=p'') (pos:=pos) (row:=(pic.getD ni []).map aT) E (by rw[cY,kx (d:=[]) (hq.1▸hni)];rfl) (hO _) he (CM v) hi r8 (eT au) hj (eT (by rw[il];show le_of_le_of_eq hnj (id (ml hl)))) (eT (by rw[il];lia)) hs
 have e:(pic.map a7).set ni (bV (((pic.getD ni []).map aT).set nj (aT v)))=(Lake.pv pic ni nj v).map a7:=by
  delta Lake.pv
  rw[Le];congr 1
  delta a7
  rw[Le]
 rw[e]at key;show key
theorem Jw{a i:aw}(ha:V H U A L J G a (zw pic) af)(hi:V H U A L J G i (aT k) af)(hk:k<pic.length)(hl:pic.length<=1000)(r8:j8 i=af):V H U A L J G (dk a i pos) (a7 (pic.getD k [])) af:=by show wJ ha hi ?_ r8 (λq=>IE q);show(?_:cond (dY k 1000000) ((pic.map a7)[k]?) eU=_);have:dY k 1000000=N:=eT au;show this.symm▸cY.symm▸(kx (d:=[]) hk).symm▸?_;rfl
theorem RC{a i:aw}{ps:List (Nat×Nat)}(ha:V H U A L J G a (mH ps) af)(hi:V H U A L J G i (aT k) af)(hk:k<ps.length)(hl:ps.length<=1000)(r8:j8 i=af):V H U A L J G (dk a i pos) (tU (ps.getD k (0,0))) fr:=by show wJ ha hi ?_ r8 (λ_=>rfl);show(?_:cond (dY k 1000000) ((ps.map tU)[k]?) eU=_);have:dY k 1000000=N:=eT au;show this.symm▸cY.symm▸(kx (d:=(0,0)) hk).symm▸?_;rfl
theorem acn{words:LN}(hh:dh A)(B:cA U mg mb)(I:dQ mg mb):
 S1 H U A iD J (bc cN 22) (M0 aL c pic words (aI 10) (kQ aL)) (M0 aL c pic words (yR aL c) ((kQ aL:Int) - (um aL c:Nat))) ai:=by
 show eX (zX aL c) λt1 t2=>(YF (um aL c) (λi=>M0 aL c pic words (G6 aL i) ((kQ aL:Int) - (i:Nat))) ?_ (λi hi=>⟨?_,?_⟩) ?_)
 .have e:(kQ aL:Int) - ((0:Nat):Int)=kQ aL:=by simp
  show .refl _
 .have h10:=Pb aL i;show oY.to (vI (kb B I Z (aq 24 Z) Z au) (aq 3 Z)) (decide_eq_true (t2 i hi))
 .show SS.cons (acm hh B I (e0:=⟨0,0,0,0⟩)) (SS.share 24 (SS.cons (CJ 23 ((kQ aL:Int) - (i:Nat)) 1 ((kQ aL:Int) - (i:Nat) - 1) .sub Z V.int Z (aH (ao Z)) Z (aH Z)) (SS.done ?_)));rw[(by lia:(kQ aL:Int) - ((i+1:Nat):Int)=(kQ aL:Int) - (i:Nat) - 1)];show km.rf (rfl) (rfl)
 .have h10:=Pb aL (um aL c);show oY.to (vI (kb B I Z (aq 24 Z) Z au) (aq 3 Z)) (decide_eq_false (j4.mpr t1))
theorem aki{D9:List Int}{data bits sent:LN}{ret:Option AV}{words:LN}(hh:dh A)(B:cA U mg mb)(I:dQ mg mb)(D0:0<aL.length)(FU:aL.length<=20)(hr:pL H τ' U A iD J rest (M0 aL c pic words (yR aL c) (RB aL c)) G' ret):
 pL H τ' U A iD J ([bc cN 17,bc cN 18,bc cN 19,bc cN 20,bc cN 21,bc cN 22,bc cN 23]++rest) (gL3 D9 aL c data bits pic sent++[(17,0,a7 words)]) G' ret:=by
 show pL.cons (S1.m (bE 20 (aT (vO aL)) (fk (aR 1) (tT (GW (aq 1 Z) (V.to (ML V.int) Z) D0 Z) (aR 12) aK)) Z Z (aH Z) Z)) (pL.cons (S1.m (bE 21 (aT (l4 aL)) (fk (aR 1) (tT (BR (aq 1 Z) (MV (BS B I Z (aq 1 Z) Z au) (aR 2) aK aK) au au Z) (aR 12) aK)) Z Z (aH Z) Z)) ?_);show pL.cons (S1.m (bE 22 (aT (qJ aL)) (fk (aR 1) (tT (MZ (GW (aq 1 Z) (V.to (ML V.int) Z) D0 Z) (aR 12) aK aK) (aR 3) aK)) Z Z (aH Z) Z)) (pL.cons (S1.m (bE 23 (aT (kQ aL)) (fk (aR 1) (tT (MZ (BR (aq 1 Z) (aR 0) D0 au Z) (aR 2) aK aK) (aR 6) aK)) Z Z (aH Z) Z)) ?_);show pL.cons (S1.m (gb 24 (a7 (aI 10)) (V.to (MT (k:=10) hh B I Z Z (aR 10) Z (dO Z)) (rfl)) (jN _) Z (aH Z) Z)) (pL.share 24 ?_);show pL.less (G0:=M0 aL c pic words (aI 10) (kQ aL)) ?_ (km.rf (rfl) (rfl));show pL.cons (S1.m (acn hh B I)) (pL.cons (S1.m (CJ 23 ((kQ aL:Int) - (um aL c:Nat)) 1 (RB aL c) .add Z V.int Z (ao Z) Z (aH Z))) hr)
noncomputable def RD(x y:Int):Int:=if y<x then y else x
def uD(T cB:Int):Nat:=(RD 13 (T+cB) - T).toNat
def BX(left kj:Nat)(pic:List (LN))(i:Nat):List (LN):=((aI kj).map (left+·)).foldl (λpic j=>pv pic i j 1) pic
def zY(aL:List Int)(c:Nat)(pic:List (LN)):List (LN):=
 ((aI (uD (vO aL) (RB aL c))).map (vO aL+·)).foldl (BX (l4 aL) (uD (l4 aL) (qJ aL))) pic
noncomputable def BY(kn:LN):LN:=(aI 10).filter λn=> !((kn.map aj).any (· ==aj n))
noncomputable def iV(pic:List (LN))(p:Nat×Nat):Nat:=(pic.getD p.1 []).getD p.2 0
def qK(place amount:Nat)(pic:List (LN))(back:Nat):List (LN):=
 pv pic (jf.getD (8 * place+back) (0,0)).1 (jf.getD (8 * place+back) (0,0)).2 (iV pic (jf.getD (8 * place+back) (0,0)) ^^^ (amount / 2 ^ (7 - back) % 2))
def Jx(place amount:Nat)(pic:List (LN)):List (LN):=(aI 8).foldl (qK place amount) pic
noncomputable def yS(aL:List Int)(turn:Nat):Int:=aL.getD ((turn+1) % aL.length) 0
def lr(aL:List Int)(free:LN)(turn:Nat):Nat:=DZ ((yS aL turn).fdiv (2:Nat)+(3 * turn:Nat)) free.length
def tW(aL:List Int)(turn:Nat):Nat:=1+DZ (yS aL turn+(29 * turn:Nat)) 255
def pA(aL:List Int)(st:LN×List (LN))(turn:Nat):LN×List (LN):=
 (st.1.eraseIdx (lr aL st.1 turn),Jx (st.1.getD (lr aL st.1 turn) 0) (tW aL turn) st.2)
def G7(pic:List (LN))(place:Nat):Nat:=((jf.drop (8 * place)).take 8).foldl (λwd p=>2 * wd+iV pic p) 0
theorem DB{left kj:Nat}(h:Sq pic):Sq (BX left kj pic i):=by
 have:∀(l:LN) (pic:List (LN)),Sq pic->Sq (l.foldl (λpic j=>pv pic i j 1) pic):=by
  intro l;induction l with
  |nil=>intro pic h;show h
  |cons x l ih=>intro pic h;show ih _ (tV h)
 show this _ _ h
theorem Pc:∀k,k<80->(jf.getD k (0,0)).1<13/\(jf.getD k (0,0)).2<13:=by decide
theorem Ph{place amount:Nat}(h:Sq pic):Sq (Jx place amount pic):=by
 have:∀(l:LN) (pic:List (LN)),Sq pic->Sq (l.foldl (qK place amount) pic):=by
  intro l;induction l with
  |nil=>intro pic h;show h
  |cons x l ih=>intro pic h;show ih _ (tV h)
 show this _ _ h
theorem BZ{e1 e2:aw}{a:Nat}{b:Int}{np' wy p13:aY}(hA:θ k A)(B:cA U mg mb)(I:dQ mg mb)(kM:Gi L "range")(afh:Gi L "min")(h1:V H U A L J G e1 (aT a) af)(s1:cG e1=af)(h2:V H U A L J G e2 (a9 ((a:Int)+b)) af)(s2:cG e2=af)(ha:a<=100)(D: -1000<=b):
 zv H U A L J G (bI (ar (aC "range") np) [e1,bI (ar (aC "min") np') [gn (jc 13) k0 p13,e2] [] wy] [] pos) (((aI (uD a b)).map (a+·)).map aj):=by
 have hm:RD 13 ((a:Int)+b)<=13/\ -1000<=RD 13 ((a:Int)+b):=by delta RD;split<;>lia
 show zv.eq (zT (m:=RD 13 ((a:Int)+b)) hA.hd B I kM h1 s1 (abW hA B I afh V.int h2 Z s2) Z au fF au au) ?_;rw[qj];apply AM;intro i _;show(?_:(a:Int)+(i:Int) * 1=((a+i:Nat):Int));simp
theorem Ψ(aL:List Int)(c:Nat): -1000<=RB aL c/\RB aL c<=1000:=by
 have h1:kQ aL<=6:=by have:=rP ((aL.getD 0 0).fdiv (2:Nat)) (m:=6) bA;show AY.mpr this
 have h2:um aL c<=kQ aL+1:=by
  delta um
  have:∀(f:Nat->Nat) (c k i:Nat),rQ f c i k<=i+k:=by
   intro f c k;induction k with
   |zero=>intro i;unfold rQ;lia
   |succ k ih=>
    intro i;unfold rQ;split
    .lia
    .have:=ih (i+1);lia
  have:=this (λi=>(G6 aL i).length) c (kQ aL+1) 0;lia
 delta RB
 lia
theorem akj{words:LN}(hA:θ 10 A)(B:cA U mg mb)(I:dQ mg mb)(hq:Sq pic):
 S1 H U A iD J (bc cN 24) (M0 aL c pic words kn (RB aL c)) (M0 aL c (zY aL c pic) words kn (RB aL c)) ai:=by
 show eX (Ψ aL c) λhb1 hb2=>?_;have ht:vO aL<=12:=by have:=rP (aL.getD (aL.length - 1) 0) (m:=12) aK;show AY.mpr this
 have hl:l4 aL<=12:=by have:=rP (aL.getD (aL.length / 2) 0) (m:=12) aK;show AY.mpr this
 have hw:qJ aL<=3:=by have:=rP ((aL.getD (aL.length - 1) 0).fdiv (12:Nat)) (m:=3) bA;show AY.mpr this
 have ahB:∀(a:Nat) (b:Int) (x:Nat),x∈(aI (uD a b)).map (a+·)->x<13:=λa b x E=>by show bh (bG.mp E) λm hm dX=>dX▸?_;have hm:=dm.mp hm;unfold uD RD at hm;split at hm<;>lia
 show dq 14 ((aI (uD (vO aL) (RB aL c))).map (vO aL+·)) (λpic:List (LN)=>M0 aL c pic words kn (RB aL c)) (BX (l4 aL) (uD (l4 aL) (qJ aL))) (λ_ pic=>Sq pic) pic
  (BZ hA B I Z Z (aq 20 Z) Z (vN (aq 20 Z) (aq 23 Z)) Z au hb1) (.refl _) hq (ao Z) (λst=>rfl) (λm i pic hn hq=>?_) (λ_=>rfl)
 show⟨DB hq,?_⟩;show SS.cons (dq 15 ((aI (uD (l4 aL) (qJ aL))).map (l4 aL+·)) (λpic:List (LN)=>M0 aL c pic words kn (RB aL c)++[(14,0,aT i)]) (λpic j=>pv pic i j 1) (λ_ pic=>Sq pic) pic
  (BZ hA B I Z Z (aq 21 Z) Z (vN (aq 21 Z) (aq 22 Z)) Z au fF) (.refl _) hq (ao Z) (λst=>rfl) (λm2 j alO FU hq2=>⟨tV hq2,SS.cons (S1.pv (x:=10) (ni:=i) (nj:=j) (v:=1) Z hq2 (aR 1) (aq 14 Z) Z (aq 15 Z) (ahB _ _ i (cW hn)) (ahB _ _ j (cW FU)) Z)<|SS.done<|km.rf bz bz⟩) (λ_=>rfl))<|SS.done<|km.rf bz bz
theorem akk{words:LN}{hi:Int}(hh:dh A)(B:cA U mg mb)(I:dQ mg mb):
 S1 H U A iD J (bc cN 25) (M0 aL c pic words kn hi) (M0 aL c pic words kn hi++[(25,1,a7 (BY kn))]) ai:=by
 show S1.to (Dy (x:=4) (y:=25) (fs:=[24]) (ns:=aI 10) (λn=> !((kn.map aj).any (· ==aj n))) (λn=>n) B.top (.of (rfl)) Z
  (zv.itc (fQ hh B I Z (aR 10) Z bA)) bC (λn hn fV=>?_) (λn hn _ fV=>BV (aq 4 Z) Z) (λ_=>rfl) Z Z
  (λe=>qH (by rw[e];rfl) (by delta j7;rw[e];rfl) Z (rfl))) (by rw[UC];rfl)
 show oY.WH (aq 4 Z) (aq 24 Z) (dS kn)
theorem YQ{β:Type}(f:α->β)(l:List α):∀(i:Nat),(l.map f).eraseIdx i=(l.eraseIdx i).map f:=by
 induction l with
 |nil=>intro _;rfl
 |cons x l iH=>
  intro yY;cases yY with
  |zero=>rfl
  |succ i=>simp[iH i]
theorem aco{i:aw}{p' apos cpos:aY}(E:cq G x=O (1,a7 ns))(hi:V H U A L J G i (aT j) af)(hj:j<ns.length)(hl:ns.length<=1000)(qE:y≠x)(dH:cG i=af)(lz:(apos.endLine==cpos.line)=N)(hsy:bW G y=N)(hy:Hx L y):
 S1 H U A L J (fE [ar (NM y) p'] (bI (iI (ar (NM x) p) (aC "pop") apos) [i] [] cpos) pos) G (jl (jl G x 1 (a7 (ns.eraseIdx j))) y 0 (aT (ns.getD j 0))) ai:=by
 have key:=ab1 (p:=p) (p':=p') (apos:=apos) (cpos:=cpos) (pos:=pos) (av:=aT (ns.getD j 0)) E (hO ns) hi (by rw[cY,kx (d:=0) hj];rfl) (eT jP) qE dH lz hsy hy;rw[YQ]at key;show key
theorem Pj{σ:Type}{py pt:aY}{ps:List (Nat×Nat)}(Γ:σ->ie)(upd:σ->Nat×Nat->σ)(P:Nat->σ->Prop)(s0:σ)(hh:dh A)(B:Tp U)(he:V H U A L J G iter (mH ps) N)(h0:km (Γ s0) G)(hp0:P 0 s0)(E:∀z∈[x,y],Hx L z)(dH:∀st,∀z∈[x,y],bW (Γ st) z=N)(step:∀i p st,ps[i]? =O p->P i st->P (i+1) (upd st p)/\SS H U A L J body (jl (jl (Γ st) x 0 (aT p.1)) y 0 (aT p.2)) (Γ (upd st p)) ai)(hs:Fs iter J):
 S1 H U A L J (kZ (ik [ar (NM x) px,ar (NM y) py] k0 pt) iter body [] pos) G (Γ (ps.foldl upd s0)) ai:=by
 have key:=ab7 (px:=px) (py:=py) (pt:=pt) (k0:=k0) (pos:=pos) (body:=body) (x:=x) (y:=y) (λi=>Γ ((ps.take i).foldl upd s0)) hh B he (wg ps) h0 E (λi _=>dH _) (λi n hn=>?_) hs
 .rw [il,sR]at key;show key
 .rw [cY]at hn;show bh (jb.mp hn) λm hm e=>A8 _ _ hm▸e▸(step i m _ hm (aeD hp0 (λi n s a b=>(step i n s a b).1) i (gx (dR.mp hm).1))).2
theorem akl{words free:LN}{hi:Int}(hh:dh A)(B:cA U mg mb)(I:dQ mg mb)(D0:0<aL.length)(FU:aL.length<=20)(hq:Sq pic)(hkc:kn.length<=c)(hc:c<=10)(Z5:(c - kn.length) / 2<=free.length)(ahC:free.length<=10)(hfb:∀x∈free,x<10):
 S1 H U A iD J (bc cN 26) (M0 aL c pic words kn hi++[(25,1,a7 free)])
  (M0 aL c ((aI ((c - kn.length) / 2)).foldl (pA aL) (free,pic)).2 words kn hi++[(25,1,a7 ((aI ((c - kn.length) / 2)).foldl (pA aL) (free,pic)).1)]) ai:=by
 show dq 26 (aI ((c - kn.length) / 2)) (λst:LN×List (LN)=>M0 aL c st.2 words kn hi++[(25,1,a7 st.1)]) (pA aL) (λi st=>st.1.length=free.length - i/\Sq st.2/\(∀x∈st.1,x<10)/\i<=(c - kn.length) / 2) (free,pic)
  (fQ hh B I Z (MV (lQ (aq 3 Z) (kb B I Z (aq 24 Z) Z au) hkc) (aR 2) aK aK) Z au) (.refl _) (rN Z hq hfb (fg _)) (ao Z) (λst=>rfl) (λi turn st hn hp=>?_) (λ_=>rfl)
 show dG (dR.mp hn) λh1 h2=>?_;simp at h1 h2;show h2▸?_;obtain⟨fr,pc⟩:=st;show iL hp λp1 p2 p3 p4=>?_;simp only at p1 p2 p3;have hfl:0<fr.length:=by lia
 have Ω:lr aL fr i<fr.length:=rP _ hfl;have Rj:fr.getD (lr aL fr i) 0<10:=p3 _ (strs_getD_mem Ω);show⟨(rN ?_ (Ph p2) (λx E=>p3 x (Ul E)) (by assumption)),?_⟩
 .change (fr.eraseIdx (lr aL fr i)).length=_;rw[Up,if_pos Ω];lia
 generalize hpp:fr.getD (lr aL fr i) 0=place at *;show SS.cons (bE 27 (a9 (yS aL i)) (BR (aq 1 Z) (yM (fk (aq 26 Z) (aR 1)) (BS B I Z (aq 1 Z) Z au) D0) (mY _ D0) au Z) Z Z (ao Z) Z)
  (SS.cons (S1.to (G1:=M0 aL c pc words kn hi++[(25,1,a7 (fr.eraseIdx (lr aL fr i))),(26,0,aT i),(27,0,a9 (yS aL i)),(4,0,aT place)]) (aco (x:=25) (y:=4) (ns:=fr) (j:=lr aL fr i) Z
   (tT (vN (MZ (aq 27 Z) (aR 2) aK aK) (lR (aR 3) (aq 26 Z) bA)) (kb B I Z (aq 25 Z) Z au) hfl) Ω au (ue Z) Z Z Z (ao Z)) (by rw[hpp];rfl))
  (SS.cons (bE 28 (aT (tW aL i)) (fk (aR 1) (tT (vN (aq 27 Z) (lR (aR 29) (aq 26 Z) bA)) (aR 255) bA)) Z Z (ao Z) Z)
  (SS.cons (dq 29 (aI 8) (λpc2:List (LN)=>M0 aL c pc2 words kn hi++[(25,1,a7 (fr.eraseIdx (lr aL fr i))),(26,0,aT i),(27,0,a9 (yS aL i)),(4,0,aT place),(28,0,aT (tW aL i))]) (qK place (tW aL i)) (λ_ pc2=>Sq pc2) pc
   (fQ hh B I Z (aR 8) Z bA) (.refl _) p2 (ao Z) (λst=>rfl) (λk back pc2 hk hq2=>?_) (λ_=>rfl)) (SS.done ?_))))
 .have hb8:back<8:=dm.mp (cW hk);have ahD:8 * place+back<80:=by lia
  obtain⟨s1,s2⟩:=Pc _ ahD;show⟨tV hq2,?_⟩;show SS.cons (S1.to (G1:=M0 aL c pc2 words kn hi++[(25,1,a7 (fr.eraseIdx (lr aL fr i))),(26,0,aT i),(27,0,a9 (yS aL i)),(4,0,aT place),(28,0,aT (tW aL i)),(29,0,aT back),(14,0,aT (jf.getD (8 * place+back) (0,0)).1),(15,0,aT (jf.getD (8 * place+back) (0,0)).2)])
   (WO (x:=14) (y:=15) (p:=(aj (jf.getD (8 * place+back) (0,0)).1,aj (jf.getD (8 * place+back) (0,0)).2)) hh
    (RC (aq 11 Z) (fk (lR (aR 8) (aq 4 Z) bA) (aq 29 Z)) (ahD) bA Z)
    aK (λz hz=>by simp at hz;rcases hz with rfl|rfl<;>rfl) Z Z) Z)
   <|SS.cons (S1.pv (x:=10) (pic:=pc2) (v:=iV pc2 (jf.getD (8 * place+back) (0,0)) ^^^ (tW aL i / 2 ^ (7 - back) % 2)) Z hq2
    (nt (fj (Jw (aq 10 Z) (aq 14 Z) (by rw[hq2.1];show s1) (by rw[hq2.1];decide) Z) (aq 15 Z) (by rw[hq2.2 _ s1];show s2) (by rw[hq2.2 _ s1];decide) Z)
     (WZ (aq 28 Z) (aq 29 Z) hb8)) (aq 14 Z) Z (aq 15 Z) s1 s2 Z)<|SS.done<|km.rf bz bz
 .delta pA
  rw[hpp];show km.rf bz bz
def su(aL:List Int)(c:Nat)(pic:List (LN)):List (LN):=
 ((aI ((c - (yR aL c).length) / 2)).foldl (pA aL) (BY (yR aL c),zY aL c pic)).2
def n0(pic:List (LN)):LN:=(aI 10).map (G7 pic)
theorem CR(h:Sq pic):Sq (zY aL c pic):=by
 have:∀(l:LN) (pic:List (LN)),Sq pic->Sq (l.foldl (BX (l4 aL) (uD (l4 aL) (qJ aL))) pic):=by
  intro l;induction l with
  |nil=>intro pic h;show h
  |cons x l ih=>intro pic h;show ih _ (DB h)
 show this _ _ h
theorem acp(l:LN):∀(st:LN×List (LN)),Sq st.2->Sq (l.foldl (pA aL) st).2:=by
 induction l with
 |nil=>intro _ h;show h
 |cons x l iH=>intro st h;show iH (pA aL st x) (Ph h)
theorem acq(h:Sq pic):Sq (su aL c pic):=acp _ _ (CR h)
theorem W6(aL:List Int):∀i,∀x∈G6 aL i,x<10:=by
 intro xX;induction xX with
 |zero=>intro x h;show dm.mp h
 |succ i iH=>intro x h;show dm.mp (gq.mp h).1
def gL6(c:Nat)(pic:List (LN))(words kn:LN):ie:=[(3,0,aT c),(10,1,zw pic),(11,0,mH jf),(17,0,a7 words),(24,0,a7 kn)]
theorem akm{words:LN}(hh:dh A)(B:cA U mg mb)(I:dQ mg mb)(hq:Sq pic):
 S1 H U A iD J (bc cN 28) (gL6 c pic words kn++[(30,1,a7 [])]) (gL6 c pic words kn++[(30,1,a7 (n0 pic))]) ai:=by
 show S1.to (dq 4 (aI 10) (λl:LN=>gL6 c pic words kn++[(30,1,a7 l)]) (λl p=>l++[G7 pic p]) (λi l=>l.length=i/\i<=10) []
  (fQ hh B I Z (aR 10) Z bA) (.refl _) ⟨rfl,fg _⟩ (ao Z) (λst=>rfl) (λi p l hn hp=>?_) (λ_=>rfl)) ?_
 .show dG (dR.mp hn) λh1 h2=>?_;simp at h1 h2;subst h2;show⟨⟨by simp[hp.1],by assumption⟩,?_⟩;show SS.cons (bE 7 (aT 0) (aR 0) Z Z (aH Z) Z)
   (SS.cons (Pj (x:=14) (y:=15) (ps:=(jf.drop (8 * i)).take (8 * i+8 - 8 * i)) (λwd:Nat=>gL6 c pic words kn++[(30,1,a7 l),(4,0,aT i),(7,0,aT wd)]) (λwd p=>2 * wd+iV pic p) (λ_ _=>True) 0 hh B.top
    (Pa (k:=8 * i) (m:=8 * i+8) B.top (aq 11 Z) (lR (aR 8) (aq 4 Z) aK) (fk (lR (aR 8) (aq 4 Z) aK) (aR 8)) bA au (by rw[pW];lia))
    (.refl _) trivial aK (λst z hz=>by simp at hz;rcases hz with rfl|rfl<;>rfl) (λk q wd hk _=>⟨trivial,?_⟩) (λ_=>rfl))
   (SS.cons (yP 30 (G7 pic i) Z (V.to (aq 7 Z) (by rw[(by lia:8 * i+8 - 8 * i=8)];rfl)) Z Z au) (SS.done (km.rf bz bz))))
  have acr:q.1<13/\q.2<13:=by have hm:q∈jf:=rn (AL (cW hk));show dG (KS.mp hm) λm hm=>?_;have:=Pc m ((dR.mp hm).1);have this:=hm▸da▸this;show this
  show SS.cons (bE 7 (aT (2 * wd+iV pic q)) (fk (lR (aR 2) (aq 7 Z) bA)
   (fj (Jw (aq 10 Z) (aq 14 Z) (hq.1▸acr.1) (by show hq.1.symm▸?_;decide) Z) (aq 15 Z) ((hq.2 _ acr.1)▸acr.2) (by show(hq.2 _ acr.1).symm▸?_;decide) Z)) Z Z (aH Z) Z) (SS.done ?_)
  show km.rf bz bz
 .rw [BL];rfl
theorem acs{a b:aw}{ns ms:List Int}(hA:θ k A)(hk:4<=k)(nN:∀b∈H,b∈τ')(ha:EVm H τ' U A L J G a (bV K) af)(D:V τ' U A L J G b (bV ys) af)(h1:je K=O ns)(h2:je ys=O ms):EVm H τ' U A L J G (jZ a [Bn] [b] pos) (fG (decide (ns=ms))) fr:=λs r=>by show wpAny_Compare1 ((ha r).tM λv aD F1 e1 V1 _=>(D ((r.up nN).ext e1.ext)).tM λu aQ F2 e2 V2 _=>?_) (r7 .eq b);show T.Dq (Gm hA hk (V1.ext e2.ext) V2 h1 h2).1 (oX [] (e1.trans e2) (.ofBool _) d9)
def MFn(U:aN)(mg:aP->Option aa)(a:ab)(fd:bQ)(cM:ab):Prop:=
 mg (aC "_law_mended")=O (R a)/\
 FnAt U a fd/\
 fd.params=fo Y'/\
 fd.body=lh dy/\
 fd.scope=lG/\
 fd.closure=[]/\
 fd.globals=ef/\
 fd.builtins=fY/\
 fd.defaults=aA/\
 fd.qualname=aC "_law_mended" /\
 fd.code=R cM/\
 cM∉bY/\
 U.IsCode cM 2007 #[]/\
 U.TableAt cM 2007 #[]
theorem Pl(fd:bQ)(hp:fd.params=fo Y')(hd:fd.defaults=aA)(vs:List aa)(hl:vs.length=[17,3,24].length):du fd ⟨vs,[]⟩=pure (([17,3,24].map NM).zip vs):=by
 apply abP hl;intro a b c
 delta du
 show hp.symm▸hd.symm▸?_;rfl
theorem YR{k1 k2 k3:Nat}{cM:ab}{p1 p2 p3:aY}{x1 x2 x3:Nat}(hA:θ 10 A)(B:cA U mg mb)(I:dQ mg mb)(M:MFn U mg a fd cM)(kM:Gi L "_law_mended")(hx1:cq G x1=O (k1,a7 ws))(hx2:cq G x2=O (k2,aT c))(hx3:cq G x3=O (k3,a7 kn))(WX:ws.length<=50)(hws:∀x∈ws,x<256)(hc:c<=50)(hkn:∀x∈kn,x<ws.length)(hkc:kn.length<=c)(qO:(jQ (cH ws.length) (uw (kP (cH ws.length) (fR ws c) kn)).now ws.length).length=(uw (kP (cH ws.length) (fR ws c) kn)).size)(o9:2007∉H)(kr:2007∈τ')(nN:∀b∈H,b∈τ'):
 EVm H τ' U A L J G (bI (ar (aC "_law_mended") np) [ar (NM x1) p1,ar (NM x2) p2,ar (NM x3) p3] [] pos) (a7 (vK ws c kn)) af:=by
 show dU M λM1 M2 M3 M4 M5 M6 M7 aft=>jd aft λM8 M9 M10 M11 ahE=>hb ahE λM12 M13 M14=>?_;have hd:=hA.depth;show Rm (K:=[17,3,24]) (avs:=[a7 ws,aT c,a7 kn]) (G':=[]) (fd:=fd) (body:=dy) B M1 kM (rfl) M2 M4 M6 (by rw[M5];rfl) (by rw[M5];rfl) (λvs hl=>Pl fd M3 M9 vs hl) (by rw[M5];rfl) M7 M8 aK Z
  (by show M5.symm▸?_;decide) (Lg hd) (fJ.cons (aq x1 hx1) (fJ.cons (aq x2 hx2) (fJ.cons (aq x3 hx3) fJ.nil Z) Z) Z) Z (λbw=>?_) (λq=>IE q) nN
 show M5.symm▸OW (cM:=cM) (P:=2007) hA.hd ?_ B I WX hws hc hkn hkc qO ?_ M11 M12 M13 M14 (nme Z) o9 kr nN
 .change A.depth+1<1000;lia
 .change fd.qualname++ ".<locals>." =Z';show M10.symm▸?_;rfl
def ϊ(aL:List Int)(c:Nat)(pic:List (LN))(sent:LN):Bool:=decide ((vK (n0 (su aL c pic)) c (yR aL c)).map aj=(zW sent).map aj)
theorem afu{D9:List Int}{data bits sent:LN}{cM:ab}(hA:θ 10 A)(B:cA U mg mb)(I:dQ mg mb)(M:MFn U mg a fd cM)(D0:0<aL.length)(FU:aL.length<=20)(hc:c<=10)(W0:sent.length=80)(hbl:bits.length<=80)(ht:sent.take bits.length=bits)(hq:Sq pic)(Z5:(c - (yR aL c).length) / 2<=(BY (yR aL c)).length)(wb:∀x∈n0 (su aL c pic),x<256)(qO:(jQ (cH 10) (uw (kP (cH 10) (fR (n0 (su aL c pic)) c) (yR aL c))).now 10).length=(uw (kP (cH 10) (fR (n0 (su aL c pic)) c) (yR aL c))).size)(o9:2007∉H)(kr:2007∈τ')(nN:∀b∈H,b∈τ'):
 pL H τ' U A iD J [bc cN 14,bc cN 15,bc cN 16,bc cN 17,bc cN 18,bc cN 19,bc cN 20,bc cN 21,bc cN 22,bc cN 23,bc cN 24,bc cN 25,bc cN 26,bc cN 27,bc cN 28,bc cN 29]
  (gL3 D9 aL c data bits pic sent) [] (O (fG (ϊ aL c pic sent))):=by
 have hh:=hA.hd;have r8:(n0 (su aL c pic)).length=10:=by rfl
 have hkl:=(zX aL c).1;have ahC:(BY (yR aL c)).length<=10:=by show ba (AJ _ _) ?_;ext
 show pL.cons (S1.m (akg hA B I W0 hbl ht))<|pL.cons (S1.m (gb 17 (a7 []) (oZ B.top fJ.nil Z Z) Z Z (ao Z) Z))<|pL.cons (S1.m (akh hh B I W0))<|pL.share 17<|aki (rest:=[bc cN 24,bc cN 25,bc cN 26,bc cN 27,bc cN 28,bc cN 29]) hh B I D0 FU<|pL.cons (S1.m (akj hA B I hq))<|pL.cons (S1.m (akk hh B I))<|pL.cons (S1.m (akl hh B I D0 FU (CR hq) hkl hc Z5 ahC (λx E=>dm.mp (gq.mp E).1)))<|pL.less (G0:=gL6 c (su aL c pic) (zW sent) (yR aL c)) ?_ (km.rf bz bz);show pL.cons (S1.m (gb 30 (a7 []) (oZ B.top fJ.nil Z Z) Z Z (ao Z) Z))<|pL.cons (S1.m (akm hh B I (acq hq)))<|Λ<|S1m.ret nN<|acs hA bA nN (YR (x1:=30) (x2:=3) (x3:=24) hA B I M Z Z Z Z (by rw[r8];decide) wb au (by show r8.symm▸?_;show(W6 aL _)) hkl (r8▸qO) o9 kr nN) (aq 17 Z) (dS _) (dS _)
noncomputable def B0:List String:=["bytearray.__contains__", "bytearray.__mod__", "bytearray.__rmod__", "_struct.pack_into.held", "bytearray.find.held"]++L7
noncomputable def n6:iY->Bool
 |fM id _=> !B0.contains id
 |_=>N
def Cl(Γ:Ctx):Prop:=n6 Γ.code=N/\∀x∈Γ.below,n6 x.1=N
def C{α:Type}(A:ck)(t:aE α)(s:ae)(Q:α->ae->Prop):Prop:=
 ∀⦃Γ:Ctx⦄ ⦃p:aY⦄,Γ.In A->Cl Γ->Sem.wp (aG prog w) Γ t (λa _ Y=>Q a Y) (λ_ _ _=>False) p s
def CC(A:ck)(c:iY)(s:ae)(aM:sJ->ae->Prop):Prop:=
 ∀⦃Γ:Ctx⦄ ⦃p:aY⦄,Γ.code=c->Γ.Below A->(∀x∈Γ.below,n6 x.1=N)->wpCode (aG prog w) Γ aM p s
section
variable{β:Type}
theorem T.wc{t:aE α}{P:α->ae->Prop}(x:T A t s P):C A t s P:=λΓ p h _=> @x Γ p h
theorem C.mono{t:aE α}{P Q:α->ae->Prop}(x:C A t s P)(h:∀a Y,P a Y->Q a Y):C A t s Q:=λΓ p wh hc=>
 tj (aG prog w) Γ t (λa _ Y=>h a Y) (λ_ _ _ f=>f) p s (@x Γ p wh hc)
theorem T.wz{t:aE α}{P Q:α->ae->Prop}(x:T A t s P)(h:∀a Y,P a Y->Q a Y):C A t s Q:=x.wc.mono h
theorem T.wY{t:aE α}{v₀:α}{Q:α->ae->Prop}(x:T A t s λv Y=>Y=aJ/\v=v₀)(k:Q v₀ aJ):C A t s Q:=x.wz λ_ _ q=>q.1▸q.2▸k
theorem T.wcV{t:aE α}{gh:α->β->Prop}{Q:α->ae->Prop}(x:T A t s λv Y=>Y=aJ/\∃F,gh v F)(k:∀v F,gh v F->Q v aJ):C A t s Q:=x.wz λv _ qQ=>MA qQ λe F y=>e▸k v F y
theorem T.wcE{t:aE aa}(h:T A t s (EP H aJ av fr))(k:∀v Y F,dz H aJ Y->bR Y.heap av v F->(fr=N->(∀b∈F,aJ.heap.get? b=ai)/\F.Nodup)->Q v Y):C A t s Q:=T.wc (h.tM k)
theorem ahF{t:aE (List aa)}{Q:List aa->ae->Prop}(h:T A t s (EPs H aJ avs))(k:∀v Y F,dz H aJ Y->bD Y.heap avs v F->Q v Y):C A t s Q:=T.wc (h.Q5 k)
theorem T.wcI{t:aE aa}{i:Int}(h:T A t s (EP H aJ (a9 i) fr))(k:∀t Y,dz H aJ Y->Q (ah i t) Y):C A t s Q:=T.wc (h.CE k)
theorem W9{t:aE aa}{u:aa}(h:T A t s (EP H aJ (aX u) fr))(k:∀Y,dz H aJ Y->Q u Y):C A t s Q:=T.wc (h.κ k)
theorem T.wc2{t:aE α}{X gh Q:α->ae->Prop}(h:T A t s λv Y=>X v Y/\gh v Y)(k:∀v Y,X v Y->gh v Y->Q v Y):C A t s Q:=T.wc (h.CA k)
theorem C.bind{m:aE α}{f:α->aE β}{Q:β->ae->Prop}(x:C A m s (λa Y=>C A (f a) Y Q)):C A (m>>=f) s Q:=λΓ p wh hc=>by rw[VU];show tj (aG prog w) Γ m (λa p' Y h'=> @h' Γ p' wh hc) (λ_ _ _ h'=>h') p s (@x Γ p wh hc)
theorem C.pure{a:α}{Q:α->ae->Prop}(h:Q a s):C A (Pure.pure a) s Q:=λ_ _ _ _=>h
theorem C.holding{m:aE α}{Q:α->ae->Prop}(h:C A m s Q):C A (T7 vs m) s Q:=λΓ p wh hc=>by rw[Sem.wp_holding];show @h Γ p wh hc
theorem C.standAt{Q:Unit->ae->Prop}(h:Q () s):C A (T8 pos) s Q:=λ_ _ _ _=>h
theorem cR{t:aE α}{P:α->ae->Prop}(x:ax (aG prog w) A t P NoE s):C A t s P:=T.wc x
theorem lB{m:aE α}{f:α->aE β}{Q:β->ae->Prop}(x:ax (aG prog w) A m (λa Y=>C A (f a) Y Q) NoE s):C A (m>>=f) s Q:=C.bind (cR x)
theorem nO{f:Unit->aE β}{Q:β->ae->Prop}(h:C A (f ()) s Q):C A (T8 pos>>=f) s Q:=C.bind (C.standAt h)
theorem lH{m:aE α}{f:α->aE β}{Q:β->ae->Prop}(x:C A m s (λa Y=>C A (f a) Y Q)):C A (T7 vs m>>=f) s Q:=C.bind (C.holding x)
theorem C.point{Q:Unit->ae->Prop}(h:Q () s):C A PySem.point s Q:=λ_ _ _ _=>h
theorem C.rule{tag:String}{Q:Unit->ae->Prop}(h:Q () s):C A (PySem.rule tag) s Q:=λ_ _ _ _=>h
theorem C.eq{t:aE α}{a:α}{Q:α->ae->Prop}(e:t=Pure.pure a)(h:Q a s):C A t s Q:=by subst e;show .pure h
theorem C.release{a b:List aa}{Q:Unit->ae->Prop}(h:Q () s):C A (PySem.release a b) s Q:=λΓ p _ _=>by rw[Sem.wp_release];show h
theorem C.bindName{x:aP}{Q:Unit->ae->Prop}(h:C A (Aw J x v) s Q):C A (PySem.bindName J x v) s Q:=λΓ p wh hc=>by rw[Sem.wp_bindName];show @h Γ p wh hc
theorem C.onRaise{m:aE α}{k:aa->aE Unit}{Q:α->ae->Prop}(h:C A m s Q):C A (m.onRaise k) s Q:=λΓ p wh hc=>by rw[Sem.wp_onRaise];show tj (aG prog w) Γ m (λ_ _ _ h'=>h') (λ_ _ _ h'=>h'.elim) p s (@h Γ p wh hc)
theorem B1{m:aE α}{k:aa->aE α}{Q:α->ae->Prop}(h:C A m s Q):C A (m.tryCatch k) s Q:=λΓ p wh hc=>by rw[Sem.wp_tryCatch];show tj (aG prog w) Γ m (λ_ _ _ h'=>h') (λ_ _ _ h'=>h'.elim) p s (@h Γ p wh hc)
theorem C.attempt{m:aE α}{Q:Except aa α->ae->Prop}(h:C A m s (λa=>Q (cf a))):C A m.attempt s Q:=λΓ p wh hc=>by rw[Sem.wp_attempt];show tj (aG prog w) Γ m (λ_ _ _ h'=>h') (λ_ _ _ h'=>h'.elim) p s (@h Γ p wh hc)
theorem CC.mono{c:iY}{R':sJ->ae->Prop}(x:CC A c s aM)(h:∀r Y,aM r Y->R' r Y):CC A c s R':=λΓ p h1 h2 h3=>eQ (@x Γ p h1 h2 h3) λr Y a b=>kH r Y a (h r Y b)
theorem RE{c:iY}(x:oB (aG prog w) A c aM s):CC A c s aM:=λΓ p h1 h2 _=>x Γ p h1 h2
theorem Cl.enter{Γ:Ctx}(h:Cl Γ)(c:iY)(hd:Option aa)(p:aY):∀x∈(Γ.enter c hd p).below,n6 x.1=N:=λx E=>bf (bu.mp E) (λa1=>a1▸h.1) λE=>h.2 x E
theorem C.run{c:iY}{Q:b8->ae->Prop}(hc:CC (A.mark ai) c s (λr Y=>match r with|cf f=>Q f Y|kX _=>False)):
 C A (PySem.run c ai) s Q:=λΓ p wh jA=>by
 have:= @hc _ p Z (wh.enter c ai p λx=>Bq x) (jA.enter c ai p);show eQ this λr Y a b=>((kH r Y a ?_));cases r with
 |ok f=>show b
 |error e=>show b
theorem C.runValue{c:iY}(hc:CC A c s (λr Y=>match r with|cf (cL v)=>Q v Y |_=>False)):C A (PySem.runValue c) s Q:=λΓ p wh jA=>by
 rw[Sem.wp_runValue];show eQ (@hc _ p Z (wh.enter c ai p (by intro x;ext)) (jA.enter c ai p)) λr Y a b=>((kH r Y a ?_));cases r with
 |ok f=>cases f<;>show b
 |error e=>show b
theorem C.call{f:aa}{pos:List aa}{kw:List (aP×aa)}(hc:CC A (mZ f ⟨pos,kw⟩) s (λr Y=>match r with|cf (cL v)=>Q v Y |_=>False)):
 C A (Eu f pos kw) s Q:=C.runValue hc
def Pm(A:ck)(aM:sJ->ae->Prop)(ze:Fin)(Y:ae):Prop:=match ze with
 |nq f=>aM (cf f) Y
 |yG c'=>c'.quiet=N/\CC A c' Y aM
theorem jm{c:iY}(jA:n6 c=N)(h:C (A.under c) ((aG prog w).den c) s (Pm A aM)):CC A c s aM:=λΓ p hc wh D=>by
 rw[wpCode_iff_wp,hc];show tj (aG prog w) Γ _ (λze p' Y h'=>?_) (λ_ _ _ h'=>h'.elim) p s (@h Γ p (hc▸wh.in) ⟨hc▸jA,D⟩);cases ze with
 |done f=>show h'
 |again c'=>show⟨h'.1,@h'.2 (Γ.goto c') p' Z (wh.goto c') D⟩
theorem C.stack{Q:List (iY×aY)->ae->Prop}(h:∀st:List (iY×aY),(∀x∈st,n6 x.1=N)->Q st s):C A PySem.stack s Q:=λΓ p wh jA=>by
 show h _ λx E=>?_;rcases bu.mp E with rfl|E
 .show jA.1
 .show jA.2 x E
theorem C.exported{Q:Bool->ae->Prop}(h:Q af s):C A (L9 v) s Q:=by
 show C.bind (C.stack λst dH=>C.pure ?_);have hq:∀f:iY×aY->Bool,(∀x∈st,f x=af)->Q (st.any f) s:=λf hf=>by rw[List.any_eq_false.mpr λx E=>by rw[hf x E];decide];show h
 show hq _ λx E=>?_;have hc:=dH x E;obtain⟨c,p⟩:=x;cases c with
 |builtin id args=>
  have h1:∀d∈B0,¬id=d:=λd hd e=>by subst e;have:B0.contains id=N:=EK.mpr hd;have this:=(ml ((λ{x y}=>Bool.not_inj_iff.mp) (_root_.id (ml hc))):B0.contains id=af).symm.trans this;ext
  have h6:L7.contains id=af:=by
   cases q:L7.contains id with
   |false=>rfl
   |true=>show absurd Z (h1 id (ew _ (EK.mp q)))
  delta L9.match_1
  show(dif_neg (h1 _ aK)).trans ((dif_neg (h1 _ aK)).trans ((dif_neg (h1 _ aK)).trans ((dif_neg (h1 _ aK)).trans ((dif_neg (h1 _ aK)).trans ?_))));obtain⟨pos,kw⟩:=args;cases pos with
  |nil=>rfl
  |cons a l=>show(congrArg _ h6).trans (U1 _)
 |_=>rfl
end
theorem jC:lJ "bytearray" "__getitem__" "bytearray.__getitem__" :=
 nr (owner:= "bytearray") (n:= "__getitem__") (rfl) (rfl) (rfl) (rfl)
  (by first|show ao (rfl)|show .inr (rfl)) (rfl)
theorem nu:lJ "bytearray" "__setitem__" "bytearray.__setitem__" :=
 nr (owner:= "bytearray") (n:= "__setitem__") (rfl) (rfl) (rfl) (rfl)
  (by first|show ao (rfl)|show .inr (rfl)) (rfl)
theorem wZ:lJ "bytearray" "__len__" "bytearray.__len__" :=
 nr (owner:= "bytearray") (n:= "__len__") (rfl) (rfl) (rfl) (rfl)
  (by first|show ao (rfl)|show .inr (rfl)) (rfl)
theorem B2:lJ "bytearray" "__iter__" "bytearray.__iter__" :=
 nr (owner:= "bytearray") (n:= "__iter__") (rfl) (rfl) (rfl) (rfl)
  (by first|show ao (rfl)|show .inr (rfl)) (rfl)
theorem Nb:lJ "bytearray" "__init__" "bytearray.__init__" :=
 nr (owner:= "bytearray") (n:= "__init__") (rfl) (rfl) (rfl) (rfl)
  (by first|show ao (rfl)|show .inr (rfl)) (rfl)
theorem pB:lJ "bytearray" "extend" "bytearray.extend" :=
 nr (owner:= "bytearray") (n:= "extend") (rfl) (rfl) (rfl) (rfl)
  (by first|show ao (rfl)|show aH (rfl)) (rfl)
theorem uE:gJ table "bytearray.__getitem__" =O Builtin.«bytearray.__getitem__»:=ma (rfl)
theorem uF:gJ table "bytearray.__setitem__" =O Builtin.«bytearray.__setitem__»:=ma (rfl)
theorem Nc:gJ table "bytearray.__len__" =O Builtin.«bytearray.__len__»:=ma (rfl)
theorem zx:gJ table "bytearray.__init__" =O Builtin.«bytearray.__init__»:=ma (rfl)
theorem wi:gJ table "bytearray.extend" =O Builtin.«bytearray.extend»:=ma (rfl)
theorem Nd:gJ table "bytearray.__new__" =O Builtin.«list.__new__»:=Ke (id':= "list.__new__") ((xK _).trans bz) aK bz ((xK _).trans bz)
theorem wj(a b:aa):jX "bytearray.__getitem__" ⟨[a,b],[]⟩:=by ext
theorem wk(a b c:aa):jX "bytearray.__setitem__" ⟨[a,b,c],[]⟩:=by ext
theorem Pn(a:aa):jX "bytearray.__len__" ⟨[a],[]⟩:=vj bz
theorem B3(a b:aa):jX "bytearray.__init__" ⟨[a,b],[]⟩:=vj bz
theorem w0(a b:aa):jX "bytearray.extend" ⟨[a,b],[]⟩:=vj bz
noncomputable def pM(b:Array UInt8):bj:={cls:=ak "bytearray",dict:=ai,data:=qm b 0,slots:=#[]}
theorem fm(ho:s.heap.get? a=O (pM b)):s.TypeIs (R a) "bytearray" :=ct _ ho Z
theorem RF{k:Int}(h0: -(2 ^ 62)<=k)(h1:k<2 ^ 62):Vv k=N:=by
 delta Vv
 simp;lia
theorem kR{Q:Array UInt8->ae->Prop}(ho:s.heap.get? a=O (pM b))(h:Q b s):ax M A (yA (R a)) Q a6 s:=
 ag (ag (iW ho (aB (aB h))))
theorem sub_int{prog:u4}{w:fz}{k:Int}{t:aW}{Q:Option Int->ae->Prop}(h0: -(2 ^ 62)<=k)(h1:k<2 ^ 62)(h:Q (O k) s):ax (aG prog w) A (yz (ah k t)) Q a6 s:=by
 delta yz
 show ag (eH (T:= "int") (xR _ _ _) FA.lookup (ag (fK (a:=k) Z ?_)));rw[RF h0 h1];show aB h
theorem Po(a:ab)(b:Array UInt8)(k:Int)(t:aW)(j:Nat)(x:UInt8)(h0: -(2 ^ 62)<=k)(h1:k<2 ^ 62)(hj:rd k b.size=O j)(E:b[j]? =O x):
 ri (Builtin.«bytearray.__getitem__» ⟨[R a,ah k t],[]⟩) (λ_ aM s=>s.heap.get? a=O {cls:=ak "bytearray",dict:=ai,data:=qm b 0,slots:=#[]}/\aM (cf (cL (ah (x.toNat:Int) s.toks))) {s with toks:=s.toks+1}):=
 rM λprog w A aM s h=>by show(?_:ax _ _ (yz (ah k t)>>=λr=>_) _ _ s);show ag (sub_int h0 h1 ?_);show(?_:ax _ _ (yA (R a)>>=λr=>_) _ _ s);show ag (kR h.1 ?_);rw[hj,Option.bind_some,E];show ag (Ks (aB (ct _ Z h.2)))
theorem acu(b:Array UInt8){f:Array UInt8->Array UInt8}(h:(f b).size<=1000000):(jL f {cls:=ak "bytearray",data:=qm b}).data.pastItsLine=ai:=by
 delta jL Data.pastItsLine
 simp;lia
theorem mC{f:Array UInt8->Array UInt8}{Q:Unit->ae->Prop}(ho:s.heap.get? a=O (pM b))(dM:(f b).size<=1000000)(h:Q () {s with heap:=s.heap.update a (jL f)}):ax M A (yC (R a) f) Q a6 s:=by show ag<|iW ho<|ag (wpAny_update ho (ag (wpAny_loadPart (gN _ ho Z) ?_)));have:=acu b dM;show(show((jL f (pM b)).data.pastItsLine)=ai from this).symm▸aB h
theorem Pp(a:ab)(b:Array UInt8)(k:Int)(t:aW)(v:Nat)(u:aW)(j:Nat)(h0: -(2 ^ 62)<=k)(h1:k<2 ^ 62)(hj:rd k b.size=O j)(hv:v<256)(D:b.size<=1000):ri (Builtin.«bytearray.__setitem__» ⟨[R a,ah k t,ah (aj v) u],[]⟩) (λ_ aM s=>s.heap.get? a=O {cls:=ak "bytearray",dict:=ai,data:=qm b 0,slots:=#[]}/\aM (cf (cL aA)) {s with heap:=s.heap.update a (jL λb=>b.setIfInBounds j v.toUInt8)}):=
 rM λprog w A aM s h=>by
  show(?_:ax _ _ (yz (ah k t)>>=λr=>_) _ _ s);show ag (sub_int h0 h1 ?_);show(?_:ax _ _ (Vw (ah (aj v) u)>>=λr=>_) _ _ s);show ag ?_
  delta Vw
  show ag (fK (a:=aj v) Z ?_);rw[(by simp;show EF.mp hv:(decide (aj v<0) ||decide (aj v>=256))=af)];show aB (ag (kR h.1 ?_));rw[hj];show ag (mC h.1 (by rw[Array.size_setIfInBounds];show ba D bA) (aB (ct _ Z h.2)))
theorem acv(a:ab)(b:Array UInt8):
 ri (Builtin.«bytearray.__len__» ⟨[R a],[]⟩) (λ_ aM s=>s.heap.get? a=O {cls:=ak "bytearray",dict:=ai,data:=qm b 0,slots:=#[]}/\aM (cf (cL (ah (b.size:Int) s.toks))) {s with toks:=s.toks+1}):=
 rM λprog w A aM s h=>by obtain⟨hp,g,d,tk,os⟩:=s;show eX h λhl h=>?_;wp_walk;show ct _ Z h
theorem aeF(k:Int)(t:aW):asIndex (ah k t)=pure k:=rfl
theorem Nf(k m:Nat)(n:Nat):Kq (dN (k:Int)) (dN (m:Int)) aA n=pure ((min (k:Int) n),(min (m:Int) n),1):=by
 delta Kq dN
 have h1:¬((k:Int)<0):=by lia
 have h2:¬((m:Int)<0):=by lia
 simp[aeF,h1,h2,(by lia:max 0 (min (k:Int) n)=min (k:Int) n),(by lia:max 0 (min (m:Int) n)=min (m:Int) n)]
theorem Xc{p:Option Int}(hp:u5 v p)(h:Q (xY p) s):ax M A (do
 if v==aA then return aA
 if(<-rg v "__index__").isNone then
  sN "bytes.slice.part-no-index";raiseError "TypeError" "slice indices must be integers or None or have an __index__ method"
 return dN (<-asIndex v):aE aa) Q a6 s:=by
 cases hp with
 |none=>show fK (a:=aA) Z h
 |int i t=>show ag (eH (T:= "int") (xR _ _ _) FA.lookup (ag (fK Z (aB h))))
theorem G8{sl:ab}{l u:aa}{lo hi:Option Int}{Q:aa×aa×aa->ae->Prop}(hl:u5 l lo)(hu:u5 u hi)(hs:s.heap.get? sl=O {cls:=ak "slice",data:=bH #[l,u,aA]})(h:Q (xY lo,xY hi,aA) s):ax M A (L8 (R sl)) Q a6 s:=by
 delta L8
 show ag<|fX (x:=aA) hs Z Z<|ag<|fK (a:=aA) Z<|ag<|fX (x:=l) hs Z Z<|ag<|Xc hl<|ag<|fX (x:=u) hs Z Z<|ag<|Xc hu<|aB h
theorem YS(a sl:ab)(b:Array UInt8){l u:aa}{lo hi:Option Int}(hl:u5 l lo)(hu:u5 u hi)(hsz:b.size<=1000):
 ri (Builtin.«bytearray.__getitem__» ⟨[R a,R sl],[]⟩) (λ_ aM s=>s.heap.get? a=O {cls:=ak "bytearray",dict:=ai,data:=qm b 0,slots:=#[]}/\s.heap.get? sl=O {cls:=ak "slice",data:=bH #[l,u,aA]}/\aM (cf (cL (R s.heap.objs.size))) {s with heap:=s.heap.push (pM (PySem.W.KBy.picked b lo hi))}):=
 rM λprog w A aM s h=>by
  show hb h λha hs h=>?_;have hT:s.TypeIs (R sl) "slice" :=⟨_,hs,rfl⟩;show(?_:ax _ _ (yz (R sl)>>=λr=>_) _ _ s);show ag ?_
  delta yz
  show ag (eH hT slice_no_index (aB (ag (ou hT ?_))));show(?_:ax _ _ (L8 (R sl)>>=λr=>_) _ _ s);show ag (G8 hl hu hs ?_);show(?_:ax _ _ (yA (R a)>>=λb=>Kq (xY lo) (xY hi) (xY ai) b.size>>=λx=>Vt (abx b x.1 x.2.1 x.2.2)>>=ret) _ _ s);show ag (kR ha (ag (fK (sliceIndices_raw lo hi ai b.size nofun) (ag (ig (aB ⟨_,rfl,h⟩) (ba (PySem.W.KBc.size_picked_le b lo hi) (ba hsz bA)))))))
def CS(T:String)(wm:String)(pC:String)(args:List aa):Prop:=∀(ft:Av T wm pC) (hct:xN T ⟨args,[]⟩=pure ()),Builtin.«type.__call__» ⟨ak T::args,[]⟩=(do
 let obj<-holding [bx wm] (call (bx wm) (ak T::args) [])
 if !(<-rb obj (ak T)) then sN "type.call.new-gave-other-type";return<-ret obj
 match<-holding [obj] (xO obj "__init__" args []) with
 |none=>ret obj
 |some r=>
  if r != aA then
   sN "type.call.init-returned-value"
   raiseError "TypeError" s!"__init__() should return None, not '{← typeNameOf r}'"
  ret obj)
def G9(c:(String×String)×(String×(List aa))):Prop:=CS c.1.1 c.1.2 c.2.1 c.2.2
def vP:=IH G9 inferInstance
theorem ϋ:CS vP.1.1 vP.1.2 vP.2.1 vP.2.2:=λft hct=>by
 show jh ft.mro λc tl akn=>?_
 delta Builtin.«type.__call__»
 simp only[ft.notType,ft.canCreate,hct,akn,ft.made,if_false];rfl
theorem Pq{T:String}{wm:String}{pC:String}:CS T wm pC args:=hen (P:=G9) ϋ ((T,wm),(pC,args))
theorem ό:mroOf (ak "bytearray")=pure [ak "bytearray",ak "object"]:=by ext
theorem IQ:gV (ak "bytearray") "__new__" =pure (O (bx "bytearray.__new__")):=by ext
theorem Jy:Av "bytearray" "bytearray.__new__" "bytearray.__init__" :=
 ⟨rfl,rfl,(qA _ _ ό),madeBy_type ό IQ bz,by ext,rfl,Nb⟩
theorem DC(a:aa):xN "bytearray" ⟨[a],[]⟩=pure ():=by ext
theorem RG(a:aa):sC "bytearray.__new__" ⟨[ak "bytearray",a],[]⟩=pure ():=by ext
theorem Nh:ED "bytearray.__new__" =N:=by ext
theorem Ni:("bytearray.__new__".splitOn ".__new__").headD "" = "bytearray" :=by rw[PySem.W.split_bytearray];rfl
theorem tX:oy (ak "bytearray") (ak "bytearray")=pure N:=by ext
theorem DD(a:aa){Q₁:aa->ae->Prop}(h:Q₁ (R s.heap.objs.size) {s with heap:=s.heap.push (pM #[])}):
 oB (aG prog w) A (mZ (bx "bytearray.__new__") ⟨[ak "bytearray",a],[]⟩) (wants Q₁ a6) s:=by
 show xM (ag (fK (RG a) (aB ⟨lI Nh _,codeAny_builtin_stack Nd Z λp st=>?_⟩)));have vQ:=tX;obtain⟨hp,g,d,tk,os⟩:=s;simp only[Ni];wp_walk;show h
theorem Pr{id:String}{args:sO}{b:uV}(D:gJ table id=O b):(aG prog w).den (fM id args)=b args:=by change(match gJ table id with|some b=>b args|none=>Es ((withoutEnding? id "#data").getD id))=_;rw[D]
theorem jR{id:String}{args:sO}{b:uV}(D:gJ table id=O b)(hc:n6 (fM id args)=N)(h:C (A.under (fM id args)) (b args) s (Pm A aM)):CC A (fM id args) s aM:=jm hc<|(Pr D).symm▸h
theorem w3{id:String}{args:sO}{b:uV}(hq:ED id=N)(D:gJ table id=O b)(hc:n6 (fM id args)=N)(h:C A.in1 (sC id args) s (λ_ aD=>C A.in1 (b args) aD (Pm A aM))):CC A (mZ (bx id) args) s aM:=by show jm Z (C.bind (h.mono λ_ aD U=>C.pure ⟨lI hq args,jR D hc ?_⟩));show(Around.under_plainId hq args).symm▸U
theorem vR{self:aa}{T:String}{id:String}{Q:Option aa->ae->Prop}(hT:s.TypeIs self T)(h:lJ T name id)(hc:C A (call (bx id) (self::args) []) s (λv=>Q (O v))):C A (xO self name args []) s Q:=C.bind<|Lake.T.wY (eH hT h.lookup ⟨rfl,rfl⟩)<|C.holding<|C.bind<|C.eq (h.bind self)<|C.bind (hc.mono λv Y h'=>C.pure h')
theorem n9{self:aa}{T:String}{id:String}{b:uV}(hT:s.TypeIs self T)(h:lJ T name id)(ahG:gJ table id=O b)(ot:jX id ⟨self::args,[]⟩)(jA:n6 (fM id ⟨self::args,[]⟩)=N)(hw:C A.in1 (b ⟨self::args,[]⟩) s (Pm A (λr Y=>∃v,r=cf (cL v)/\Q v Y))):C A (call (bx id) (self::args) []) s Q:=by show C.call (CC.mono (w3 h.plain ahG jA (aM:=λr Y=>∃v,r=cf (cL v)/\Q v Y) ?_) λr Y qQ=>bh qQ λv e hq=>by show e▸?_;show hq);show Lake.T.wY (h.check _ _ _ _ _ _ _ _ hT ot ⟨rfl,rfl⟩) (hw)
theorem ee{c:Prop}[Decidable c]{a b:aE α}{Q:α->ae->Prop}(hc:¬c)(h:C A b s Q):C A (if c then a else b) s Q:=by rw[if_neg hc];show h
theorem B4{T wm pC:String}{Bi:uV}(ft:Av T wm pC)(hct:xN T ⟨args,[]⟩=pure ())(RH:gJ table pC=O Bi)(hci:∀as,n6 (fM pC as)=N)(nM:C A.in1 (call (bx wm) (ak T::args)) s (λobj aD=>aD.TypeIs obj T/\jX pC ⟨obj::args,[]⟩/\
 C A.in1.in1 (Bi ⟨obj::args,[]⟩) aD (Pm A.in1 (λr aQ=>r=cf (cL aA)/\Q obj aQ)))):
 C A (call (ak T) args) s Q:=by
 show C.call<|jm Z<|C.pure ⟨A4 _ bz,jR PySem.F.entry_type_call Z ?_⟩;rw[Pq ft hct,Around.under_plain (weight_type_call_type T args []) Z];show lH<|nM.mono λobj aD oj=>hb oj λhT ot hw=>C.bind<|Lake.T.wY (mP hT ft.sub ⟨rfl,rfl⟩)<|ee aK (lH (vR hT ft.init (n9 hT ft.init RH ot (hci _) (hw.mono λze Y h'=>?_))));cases ze with
 |done f=>have h':=h';show ct aA h'.1 (ee aK (C.pure h'.2))
 |again c'=>show⟨h'.1,h'.2.mono λr aQ h2=>(ct aA h2.1 (ee aK (C.pure h2.2)))⟩
theorem DE{T wm pC:String}{Bi:uV}{Q₁:aa->ae->Prop}(ft:Av T wm pC)(hct:xN T ⟨args,[]⟩=pure ())(RH:gJ table pC=O Bi)(hci:∀as,n6 (fM pC as)=N)(nM:oB (aG prog w) A.in1 (mZ (bx wm) ⟨ak T::args,[]⟩) (wants Q₁ NoE) s)(ahH:∀obj aD,Q₁ obj aD->aD.TypeIs obj T/\jX pC ⟨obj::args,[]⟩/\
 C A.in1.in1 (Bi ⟨obj::args,[]⟩) aD (Pm A.in1 (λr aQ=>r=cf (cL aA)/\Q obj aQ))):
 C A (call (ak T) args) s Q:=
 B4 ft hct RH hci (Lake.T.wz (kT nM) ahH)
theorem RJ:gV (ak "bytearray") (aC "__release_buffer__")=pure (O (bx "bytearray.__release_buffer__")):=by ext
theorem CT:gV (ak "bytearray") (aC "__buffer__")=pure (O (bx "bytearray.__buffer__")):=by ext
theorem RK:gV (ak "bytearray") (aC "__index__")=pure ai:=by ext
theorem RL{c:ab}{Q:Bool->ae->Prop}(hT:s.TypeIs (R c) "bytearray")(h:Q N s):ax M A (Bf (R c) "__buffer__") Q a6 s:=by show ag<|eH hT CT<|(?_:ax _ _ (if(!"bytearray.__buffer__".endsWith ("." ++ "__buffer__"))=N then pure af else rb _ _) _ _ _);rw[if_neg (by decide+kernel),show "bytearray.__buffer__".dropRight ("__buffer__".length+1)= "bytearray" from by decide+kernel];show mP hT tX h
theorem DF{c:ab}{Q:Bool->ae->Prop}(hT:s.TypeIs (R c) "bytearray")(h:Q af s):ax M A (Be (R c)) Q a6 s:=by show ag<|ag<|eH hT RJ<|(?_:ax _ _ (if(!"bytearray.__release_buffer__".endsWith ("." ++ "__release_buffer__"))=N then pure af else rb _ _) _ _ _);rw[if_neg (by decide+kernel),show "bytearray.__release_buffer__".dropRight ("__release_buffer__".length+1)= "bytearray" from by decide+kernel];show mP hT tX (aB h)
theorem RM{c:ab}{id:String}{ako:Bool}{Q:Option (Array UInt8)->ae->Prop}(hc:s.heap.get? c=O (pM b))(h:Q (O b) s):ax M A (yB id (R c) ako) Q a6 s:=by
 have hT:=fm hc
 delta yB
 show ag (eH hT CT (?_:ax _ _ (Bf _ _>>=λr=>_) _ _ s));show ag (RL hT (?_:ax _ _ (rg (R c) "__buffer__" >>=λr=>_) _ _ s));show ag (eH hT CT (?_:ax _ _ (Be _>>=λr=>_) _ _ s));show ag (DF hT (?_:ax _ _ (yA (R c)>>=λr=>_) _ _ s));show ag (kR hc (aB h))
theorem zy{Q:Bool->ae->Prop}(ho:s.heap.get? a=O (pM b))(h:Q af s):C A (Be (R a)) s Q:=T.wY (DF (fm ho) ⟨rfl,rfl⟩) h
theorem B5(v:aa):abr "bytearray.__init__" "bytearray" ["source", "encoding", "errors"] [v] []=pure [O v,ai,ai]:=by ext
theorem zZ{Q:Bool->ae->Prop}(ho:s.heap.get? a=O (pM b))(h:Q af s):
 C A (L9 (R a)<||> (do return (<-abw (R a))>0)) s Q:=by
 show C.bind<|C.exported<|C.bind (T.wY (v₀:=0) ?_ (C.pure h));show ag (iW ho (aB ⟨rfl,rfl⟩))
noncomputable def wo(ns:LN):Array UInt8:=(ns.map λn=>n.toUInt8).toArray
theorem YT:∀{vs:List aa} {ns:LN},fh vs (ns.map aj)->(∀n∈ns,n<256)->
 (∀p:aa->Bool,(∀i t,p (ah i t)=(decide (0<=i) && decide (i<256)))->vs.takeWhile p=vs)/\(∀f:aa->Option UInt8,(∀i t,f (ah i t)=O i.toNat.toUInt8)->vs.filterMap f=ns.map λn=>n.toUInt8):=by
 intro vs ns;induction ns generalizing vs with
 |nil=>intro h _;cases h;show⟨λ_ _=>rfl,λ_ _=>rfl⟩
 |cons n ns ih=>
  intro h D;cases h with
  |cons _ t r=>
   show eX (ih r (λm hm=>D m au)) λh1 h2=>have hn:=D n au;⟨λp hp=>?_,λf hf=>?_⟩
   .rw [Ut,hp,h1 p hp];show if_pos jP
   .rw [List.filterMap_cons,hf,h2 f hf];rfl
theorem Ha:∀ty,ty= "list" \/ty= "tuple" ->gV (ak ty) (aC "__index__")=pure ai/\gV (ak ty) (aC "__buffer__")=pure ai:=by rintro ty (rfl|rfl)<;>constructor<;>(ext)
theorem Hb{l:ab}{Q:ij->ae->Prop}{ty:String}(ho:s.heap.get? a=O (pM #[]))(hl:s.heap.get? l=O {cls:=ak ty,data:=bU vs.toArray n})(hty:ty= "list" \/ty= "tuple")(hi:fh vs (ns.map aj))(D:∀n∈ns,n<256)(dM:ns.length<=1000)(hq:Q (nq (cL aA)) {s with heap:=(s.heap.update a (jL λ_=>#[])).update a (jL λ_=>wo ns)}):C A (Builtin.«bytearray.__init__» ⟨[R a,R l],[]⟩) s Q:=by show eX (Ha ty hty) λli lb=>eX (YT hi D) λg1 g2=>C.bind<|zy ho<|ee aK<|C.bind<|C.eq (B5 _)<|C.bind<|C.eq Z<|C.bind<|C.eq Z<|C.bind<|zZ ho<|ee aK (Lake.T.wc (P:=Q) (ag (mC ho bA ?_)));have ο:(s.heap.update a (jL λ_=>#[])).get? l=O {cls:=ak ty,data:=bU vs.toArray n}:=(KL _ _ _ _ λe=>by rw[e,ho]at hl;simp[pM]at hl).trans hl;have hT:({s with heap:=s.heap.update a (jL λ_=>#[])}:ae).TypeIs (R l) ty:=⟨_,ο,rfl⟩;show ag (ag (iW ο (aB (?_:ax _ _ (rg (R l) "__index__" >>=λr=>_) _ _ _))));show ag (eH hT li (?_:ax _ _ (yB _ _ _>>=λr=>_) _ _ _));show ag (ag (eH hT lb (ag (eH hT lb (aB (?_:ax _ _ (xZ (R l)>>=λr=>_) _ _ _))))));show ag (ou hT ?_);rw[if_pos (by rcases hty with rfl|rfl<;>rfl)];show ag (jF ο Z ?_);dsimp only;rw[g1 _ (λ_ _=>rfl),(by simp:vs.toArray[vs.length]? =ai),g2 _ (λ_ _=>rfl)];show ag (mR (ag (mC (gN _ ho Z) (by simp;show ba dM bA) (aB hq))))
theorem IT{c:ab}{Q:ij->ae->Prop}(hac:a≠c)(ho:s.heap.get? a=O (pM #[]))(hl:s.heap.get? c=O (pM b))(dM:b.size<=1000)(hq:Q (nq (cL aA)) {s with heap:=(s.heap.update a (jL λ_=>#[])).update a (jL λ_=>b)}):C A (Builtin.«bytearray.__init__» ⟨[R a,R c],[]⟩) s Q:=by show C.bind<|zy ho<|ee aK<|C.bind<|C.eq (B5 _)<|C.bind<|C.eq Z<|C.bind<|C.eq Z<|C.bind<|zZ ho<|ee aK (Lake.T.wc (P:=Q) (ag (mC ho bA ?_)));have hc2:(s.heap.update a (jL λ_=>#[])).get? c=O (pM b):=(KL _ _ _ _ hac.symm).trans hl;show ag (ag (iW hc2 (aB (?_:ax _ _ (rg (R c) "__index__" >>=λr=>_) _ _ _))));show ag (eH (fm hc2) RK (?_:ax _ _ (yB _ _ _>>=λr=>_) _ _ _));show ag (RM hc2 (?_:ax _ _ (sN _>>=λ_=>yC (R a) (λ_=>b)>>=λ_=>ret aA) _ _ _));show ag (mR (ag (mC (gN _ ho Z) (ba dM bA) (aB hq))))
theorem B6(h:aN)(o:bj)(f:bj->bj):(h.push o).update h.objs.size f=h.push (f o):=by
 obtain⟨objs,l⟩:=h;show(?_:KO ((objs.push o).modify objs.size f) l=KO (objs.push (f o)) l);congr 1;apply Vl;intro i;rw[Array.getElem?_modify,L6,L6];by_cases e:i=objs.size
 .subst e;simp
 .simp [e,eO e]
theorem Hc(as:sO):n6 (fM "bytearray.__init__" as)=N:=rfl
theorem uG(ty:String)(n:Nat){l:ab}(hl:s.heap.get? l=O {cls:=ak ty,data:=bU vs.toArray n})(hty:ty= "list" \/ty= "tuple")(hi:fh vs (ns.map aj))(D:∀n∈ns,n<256)(dM:ns.length<=1000)(hq:Q (R s.heap.objs.size) {s with heap:=s.heap.push (pM (wo ns))}):C A (call (ak "bytearray") [R l]) s Q:=by show DE (Q₁:=λv aD=>v=R s.heap.objs.size/\aD={s with heap:=s.heap.push (pM #[])}) Jy (DC _) zx Hc (DD _ ⟨rfl,rfl⟩) λobj aD qQ=>eX qQ λe1 e2=>e1▸e2▸have ho:(s.heap.push (pM #[])).get? s.heap.objs.size=O (pM #[]):=bK _ Z;gQ (fm ho) (B3 _ _) (Hb ho (a8 _ hl) hty hi D dM ⟨rfl,?_⟩);rw[B6,B6];show hq
theorem ύ{c:ab}(hl:s.heap.get? c=O (pM b))(dM:b.size<=1000)(hq:Q (R s.heap.objs.size) {s with heap:=s.heap.push (pM b)}):C A (call (ak "bytearray") [R c]) s Q:=by show DE (Q₁:=λv aD=>v=R s.heap.objs.size/\aD={s with heap:=s.heap.push (pM #[])}) Jy (DC _) zx Hc (DD _ ⟨rfl,rfl⟩) λobj aD qQ=>eX qQ λe1 e2=>?_;subst e1 e2;have ho:(s.heap.push (pM #[])).get? s.heap.objs.size=O (pM #[]):=bK _ Z;show gQ (fm ho) (B3 _ _) (IT (λe=>by have:=cn hl;rw[<-e]at this;show gw _ this) ho (a8 _ hl) dM ⟨rfl,?_⟩);rw[B6,B6];show hq
structure Tn(X:List ab)(s Y:ae):Prop where
 keep:∀b o,b∉X->s.heap.get? b=O o->Y.heap.get? b=O o
 there:∀b o,s.heap.get? b=O o->∃o',Y.heap.get? b=O o'
 os:Y.os=s.os
 drawn:Y.drawn=s.drawn
 gens:Y.gens=s.gens
theorem Tn.trans{gh:List ab}{a b c:ae}(x:Tn X a b)(y:Tn gh b c)(h:∀d∈gh,d∈X\/a.heap.get? d=ai):Tn X a c where
 keep:=λd o hd e=>y.keep d o (λq=>by
  rcases h d q with q|q
  .show hd q
  .have e:=q.symm.trans e;ext) (x.keep d o hd e)
 there:=λd o e=>dG (x.there d o e) λo' e'=>y.there d o' e'
 os:=y.os.trans x.os
 drawn:=y.drawn.trans x.drawn
 gens:=y.gens.trans x.gens
theorem Tn.push(X:List ab)(s:ae)(o:bj):Tn X s {s with heap:=s.heap.push o}:=⟨λ_ _ _ e=>a8 o e,λ_ o' e=>⟨o',a8 o e⟩,rfl,rfl,rfl⟩
theorem Tn.toks(X:List ab)(s:ae)(t:Nat):Tn X s {s with toks:=t}:=⟨λ_ _ _ e=>e,λ_ o e=>⟨o,e⟩,rfl,rfl,rfl⟩
theorem Tn.same(hs:gv a s.heap h')(ha:a∈X)(hm:∃o,h'.get? a=O o):Tn X s {s with heap:=h'} where
 keep:=λb o D e=>(hs.2 b (λq=>by subst q;show D ha)).trans e
 there:=λb o e=>if q:b=a then q▸hm else⟨o,(hs.2 b q).trans e⟩
 os:=rfl
 drawn:=rfl
 gens:=rfl
theorem Tn.upd{f:Array UInt8->Array UInt8}(ho:s.heap.get? a=O (pM b))(ha:a∈X):Tn X s {s with heap:=s.heap.update a (jL f)}/\(s.heap.update a (jL f)).get? a=O (pM (f b)):=by have e:(s.heap.update a (jL f)).get? a=O (pM (f b)):=gN _ ho Z;show⟨.same (j5 ..) ha ⟨_,e⟩,e⟩
theorem Tn.smod(x:Tn X s Y)(hX:∀b∈X,b∉bY):mA X s Y:=
 ⟨⟨λb o D _ e=>x.keep b o D e,λb D ps e=>⟨#[],x.keep b _ (λq=>hX b q D) e⟩,x.there⟩,x.os,x.drawn,x.gens⟩
theorem YU{Q:Unit->ae->Prop}(ho:s.heap.get? a=O (pM b))(h:Q () s):C A (Vu (R a)) s Q:=C.bind<|zZ ho<|ee aK (C.pure h)
theorem w4:gJ table "bytearray.extend.loop" =O Builtin.«bytearray.extend.loop»:=ma (rfl)
theorem IU:gJ table "bytearray.extend.end" =O Builtin.«bytearray.extend.end»:=ma (rfl)
theorem w5:ED "bytearray.extend.loop" =N:=by ext
theorem IV:ED "bytearray.extend.end" =N:=by ext
theorem RN{m:Array UInt8}(ho:s.heap.get? a=O (pM b))(hd:s.heap.get? d=O (pM m))(dM:b.size+m.size<=1000)(h:aM (cf (cL aA)) {s with heap:=s.heap.update a (jL λx=>x++m)}):CC A (fM "bytearray.extend.end" ⟨[R a,it,R d],[]⟩) s aM:=by
 show jR IU Z (C.bind (C.point (C.bind (T.wY (kR hd ⟨rfl,rfl⟩) ?_))));have wr:∀A',C A' (do yC (R a) (· ++m);ret aA) s (Pm A aM):=λA'=>
  lB (mC ho jP (C.pure h))
 show(?_:C _ (if(!m.isEmpty)=N then(Vu (R a)>>=λ_=>(do yC (R a) (· ++m);ret aA)) else(do yC (R a) (· ++m);ret aA)) s _);cases E:(!m.isEmpty) with
 |true=>show C.bind (YU ho (wr _))
 |false=>show wr _
theorem Pt{l:ab}(hh:dh A)(hi:fh items.toList (ns.map aj))(D:∀n∈ns,n<256)(dM:b.size+ns.length<=1000)(hda:d≠a)(hdI:d≠I)(YO:d≠l)(haI:a≠I)(hlI:l≠I)(hI0:aJ.heap.get? I=ai)(hd0:aJ.heap.get? d=ai)(hR:∀Y,Tn [a] aJ Y->Y.heap.get? a=O (pM (b++wo ns))->aM (cf (cL aA)) Y):
 ∀(k i:Nat) (s:ae),i+k=ns.length->Tn [a] aJ s->s.heap.get? a=O (pM b)->s.heap.get? d=O (pM (wo (ns.take i)))->s.heap.IsListIter I l i->s.heap.IsList l items->
  CC A (fM "bytearray.extend.loop" ⟨[R a,R l,R I,R d],[]⟩) s aM:=by
 have hl:=hi.length;intro k;induction k with
 |zero=>
  intro i s hik t0 ha hd hI hL;obtain rfl:i=ns.length:=hik;show jR w4 Z (C.bind (T.wc (J4 hh hI hL (by simp at hl ⊢;show lN hl) λh' E=>?_)));have ka:=E a _ haI ha;have kd:h'.get? d=O (pM (wo ns)):=by have:=E d _ hdI hd;rwa [sR]at this
  show C.pure ⟨lI IV _,RN ka kd (by simp[wo];lia) ?_⟩;have t1:Tn [a] aJ {s with heap:=h'}:=⟨λc o hc e=>E c o (λq=>by subst q;have e:=hI0.symm.trans e;ext) (t0.keep c o hc e),λc o e=>dG (t0.there c o e) λo' e'=>⟨o',E c o' (λq=>by subst q;have e:=hI0.symm.trans e;ext) e'⟩,t0.os,t0.drawn,t0.gens⟩;show eX (Tn.upd ka au) λt2 e2=>(hR _ (t1.trans t2 λ_ h=>ao h) e2)
 |succ k ih=>
  show λi s hik t0 ha hd hI hL=>jR w4 Z ?_;have ahI:i<items.toList.length:=by simp at hl ⊢;lia
  show eX (nY hi) λk1 k2=>(eQ (k2 i items.toList[i] (dE ahI)) λn t hn hv=>?_);replace hn:=cY▸hn;show bh (jb.mp hn) λm hm dX=>?_;subst dX;show lB (J1 hI hL (by rw[<-Vi,dE ahI,hv]) λh' hI' zQ=>?_);have kd:=(zQ.2 d hdI).trans hd;show C.bind (B1 (C.holding (T.wY (v₀:=m.toUInt8) (aJ:={s with heap:=h'}) ?_ ?_)))
  .show ag (fK (aeF _ _) ?_);rw[if_neg (by have:aj m=(m:Int):=rfl;simp;show EF.mp (D m (cW hm)))];show aB ⟨rfl,rfl⟩
  show lB<|uW<|lB<|mC kd (by simp[wo];lia)<|eX (Tn.upd (X:=[d]) (s:={s with heap:=h'}) (f:=λx=>x.push m.toUInt8) kd au) λt2 e2=>have t1:Tn [I] s {s with heap:=h'}:=.same zQ au (bh hI' λo e _=>⟨o,e⟩);C.pure ⟨lI w5 _,ih (i+1) _ (by simp_all+arith) ((t0.trans t1 λc hc=>aH (by show(bJ.mp hc)▸?_;show hI0)).trans t2 λc hc=>aH (by show(bJ.mp hc)▸?_;show hd0)) (t2.keep a _ (by simp;show hda.symm) ((zQ.2 a haI).trans ha)) ?_ (hI'.at λo e=>t2.keep I o (by simp;show hdI.symm) e) ((hL.extBut zQ.extBut hlI).at λo e=>t2.keep l o (by simp;show YO.symm) e)⟩;rw[e2,EO,hm];simp[wo]
theorem ώ:gV (ak "list") (aC "__len__")=pure (O (bx "list.__len__")):=by ext
theorem YV{l:ab}(hT:s.TypeIs (R l) "list"):Lake.T A (abu "bytearray.extend" (R l)) s (λv Y=>Y=s/\v=()):=ag<|eH hT ώ<|ag<|mP hT sub_list_self<|aB ⟨rfl,rfl⟩
theorem YW(h:Q (R s.heap.objs.size) {s with heap:=s.heap.push (pM #[])}):ax M A (Vt #[]) Q a6 s:=by obtain⟨hp,g,d,tk,os⟩:=s;wp_walk;show h
theorem Jz(as:sO):n6 (fM "bytearray.extend" as)=N:=rfl
theorem w6{l:ab}(hh:dh A)(ha:s.heap.get? a=O (pM b))(hl:s.heap.get? l=O (br vs n))(hi:fh vs (ns.map aj))(D:∀n∈ns,n<256)(dM:b.size+ns.length<=1000)(hq:∀Y,Tn [a] s Y->Y.heap.get? a=O (pM (b++wo ns))->Q aA Y):C A (call (bx "bytearray.extend") [R a,R l] []) s Q:=by
 show n9 (fm ha) pB wi (w0 _ _) (Jz _)<|C.bind<|C.eq Z<|C.bind<|T.wY (eH ((ct _ hl Z)) F.bm_no_buffer ⟨rfl,rfl⟩)<|ee aK (C.bind (B1 (T.wc (uQ (bX hl) ?_))))
 let s1:ae:={s with heap:=s.heap.push {cls:=ak "list_iterator",data:=bH #[R l,ah 0 0]}};have hl1:s1.heap.get? l=O (br vs n):=a8 _ hl;have hI1:s1.heap.get? s.heap.objs.size=O {cls:=ak "list_iterator",data:=bH #[R l,ah 0 0]}:=bK _ Z;have hsz:s1.heap.objs.size=s.heap.objs.size+1:=dD ..;have IL:=cn hl;have haa:=cn ha;show lH<|T.wY (aJ:=s1) (YV ((ct _ hl1 Z)))<|C.bind<|T.wY (YW ⟨rfl,rfl⟩)<|C.pure ⟨lI w5 _,Pt hh (hi) D dM (by rw[hsz];show λe=>j4.mpr (lP s.heap.objs.size) (by have h2:=haa;rw[<-e]at h2;show h2)) (by rw[hsz];show yo _) (by rw[hsz];show λe=>j4.mpr (lP s.heap.objs.size) (by have h2:=IL;rw[<-e]at h2;show h2)) ?_ ?_ (bF _) ?_ (λs3 t3 e3=>⟨_,rfl,hq s3 t3 e3⟩) ns.length 0 _ (ql ns.length)
  ((Tn.push [a] s _).trans (Tn.push [a] s1 _) (λ_ h=>ao h)) (a8 _ (a8 _ ha)) ?_ (kF _ (a8 _ hI1) Z Z) (bX (a8 _ hl1))⟩
 .show λe=>by rw[<-e]at haa;show gw _ haa
 .show λe=>by rw[<-e]at IL;show gw _ IL
 .cases q:s.heap.get? s1.heap.objs.size with
  |none=>rfl
  |some o=>have:=cn q;rw[hsz]at this;show((Nat.not_succ_lt_self) this).elim
 .show bK _ Z
theorem IW:gV (ak "bytes") (aC "__release_buffer__")=pure ai:=by ext
theorem Hd:oy (ak "bytes") (ak "bytes")=pure N:=by ext
theorem JA{Q:Bool->ae->Prop}(hT:s.TypeIs v "bytes")(h:Q N s):ax M A (Bf v "__buffer__") Q a6 s:=by show ag<|eH hT yF<|(?_:ax _ _ (if(!"bytes.__buffer__".endsWith ("." ++ "__buffer__"))=N then pure af else rb _ _) _ _ _);rw[if_neg (by decide+kernel),show "bytes.__buffer__".dropRight ("__buffer__".length+1)= "bytes" from by decide+kernel];show mP hT Hd h
theorem IX{t:aW}(ha:s.heap.get? a=O (pM b))(dM:b.size<=1000)(hq:∀Y,Tn [a] s Y->Y.heap.get? a=O (pM b)->Q aA Y):C A (call (bx "bytearray.extend") [R a,qX #[] t] []) s Q:=by
 have hT:s.TypeIs (qX #[] t) "bytes" :=rfl;show n9 (fm ha) pB wi (w0 _ _) (Jz _) (T.wc ?_);show(?_:ax _ _ (rg (qX #[] t) "__buffer__" >>=λr=>_) _ _ s);show ag (eH hT yF ?_);show(?_:ax _ _ (sN _>>=λ_=>yA (R a)>>=λr=>_) _ _ s);show ag (mR (ag (kR ha ?_)));show(?_:ax _ _ (Vs _ _ _>>=λr=>_) _ _ s);show ag ?_
 delta Vs abt
 show ag (sF (ag (eH hT yF ?_)));show(?_:ax _ _ (Bf _ _>>=λr=>_) _ _ s);show ag (JA hT ?_);show(?_:ax _ _ (rg (qX #[] t) "__buffer__" >>=λr=>_) _ _ s);show ag (eH hT yF ?_);show(?_:ax _ _ (yB _ _ _>>=λr=>_) _ _ s);show ag ?_
 delta yB
 show ag (eH hT yF ?_);show(?_:ax _ _ (Bf _ _>>=λr=>_) _ _ s);show ag (JA hT ?_);show(?_:ax _ _ (rg (qX #[] t) "__buffer__" >>=λr=>_) _ _ s);show ag (eH hT yF ?_);show(?_:ax _ _ (Be _>>=λr=>_) _ _ s);show ag ?_
 delta Be
 show ag (ag (eH hT IW (aB (aB ?_))));show(?_:ax _ _ (yA (qX #[] t)>>=λr=>_) _ _ s);show ag (fK (a:=#[]) Z (aB (aB (aB ?_))));show(?_:ax _ _ (yC (R a) (· ++#[])>>=λ_=>ret aA) _ _ s);show ag (mC ha (by rw[Array.append_empty];show ba dM bA) (aB (eX (Tn.upd (X:=[a]) (f:=λx=>x++#[]) ha (iy ..)) λt2 e2=>⟨_,rfl,hq _ t2 e2⟩)))
theorem lE:lJ "bytearray_iterator" "__next__" "bytearray_iterator.__next__" :=
 nr (owner:= "bytearray_iterator") (n:= "__next__") (rfl) (rfl) (rfl) (rfl)
  (by first|show ao (rfl)|show .inr (rfl)) (rfl)
theorem zz:lJ "bytearray_iterator" "__iter__" "bytearray_iterator.__iter__" :=
 nr (owner:= "bytearray_iterator") (n:= "__iter__") (rfl) (rfl) (rfl) (rfl)
  (by first|show ao (rfl)|show .inr (rfl)) (rfl)
theorem w7:gJ table "bytearray_iterator.__next__" =O Builtin.«bytearray_iterator.__next__»:=ma (rfl)
theorem He:gJ table "bytearray_iterator.__iter__" =O Builtin.«dict_keyiterator.__iter__»:=Ke (id':= "dict_keyiterator.__iter__") ((xK _).trans bz) aK bz ((xK _).trans bz)
theorem IY:gJ table "bytearray.__iter__" =O Builtin.«bytearray.__iter__»:=ma (rfl)
theorem Nj(a:aa):jX "bytearray.__iter__" ⟨[a],[]⟩:=vj bz
theorem zA(a:aa):jX "bytearray_iterator.__next__" ⟨[a],[]⟩:=by ext
theorem IZ(a:aa):jX "bytearray_iterator.__iter__" ⟨[a],[]⟩:=by ext
def w9(h:aN)(I a:ab)(i:Nat):Prop:=h.get? I=O {cls:=ak "bytearray_iterator",data:=bH #[R a,ah (i:Int) 0]}
theorem I1(ha:s.heap.get? a=O (pM b))(hQ:Q (R s.heap.objs.size) {s with heap:=s.heap.push {cls:=ak "bytearray_iterator",data:=bH #[R a,ah 0 0]}}):
 ax (aG prog w) A (gm (R a)) Q a6 s:=by
 show J9 (fm ha) B2 (jU B2 (fm ha) IY ?_ (Nj _));obtain⟨hp,g,d,tk,os⟩:=s;wp_walk;show⟨_,rfl, "bytearray_iterator",_,(ct _ (bK _ Z) Z),lE.lookup,hQ⟩
theorem Pu{x:UInt8}{Q:Option aa->ae->Prop}(hI:w9 s.heap I a i)(ha:s.heap.get? a=O (pM b))(E:b[i]? =O x)(hQ:∀h',w9 h' I a (i+1)->gv I s.heap h'->Q (O (ah (x.toNat:Int) s.toks)) {s with heap:=h',toks:=s.toks+1}):ax (aG prog w) A (gX (R I)) Q a6 s:=by have hT:s.TypeIs (R I) "bytearray_iterator" :=ct _ hI Z;show ag (sF (kS hT lE (jU lE hT w7 ?_ (zA _))));unfold pM at ha;obtain⟨hp,g,d,tk,os⟩:=s;have hI':hp.get? I=O {cls:=ak "bytearray_iterator",data:=bH #[R a,ah (↑i) 0]}:=hI;wp_walk;show((by simpa using E:b[((i:Nat):Int).toNat]? =O x)).symm▸ag (As hI' Z (E0 [].length) ?_);wp_walk;show ct _ Z (aB (hQ _ ?_ (j5 ..)));change(hp.update I _).get? I=_;rw[gN _ hI' Z];rfl
theorem Pw{Q:Option aa->ae->Prop}(hh:dh A)(hI:w9 s.heap I a b.size)(ha:s.heap.get? a=O (pM b))(hQ:∀h',KN I s.heap h'->Q ai {s with heap:=h'}):ax (aG prog w) A (gX (R I)) Q a6 s:=by have hT:s.TypeIs (R I) "bytearray_iterator" :=ct _ hI Z;show ag (sF (kS hT lE (jU lE hT w7 ?_ (zA _))));obtain⟨hp,g,d,tk,os⟩:=s;have hI':hp.get? I=O {cls:=ak "bytearray_iterator",data:=bH #[R a,ah (↑b.size) 0]}:=hI;wp_walk;show((by simp:b[((b.size:Nat):Int).toNat]? =ai)).symm▸ag (mR (ag (As hI' Z (TG Z) (ag (uW ?_)))));show ag (ag (ig ?_ (by size_fits)));show ag<|fK (a:=aA) (by first|rfl|(rfl))<|ig ?_ (by size_fits);show ag<|Kl<|(hh).symm▸Kt ?_;show ag (mP (ct _ (bK _ Z) Z) Kf ?_);show aB (hQ _ (((j5 ..).extBut.push _).push _))
theorem Px(hI:w9 s.heap I a i)(h:Q (R I) s):ax (aG prog w) A (gm (R I)) Q a6 s:=by have hT:s.TypeIs (R I) "bytearray_iterator" :=ct _ hI Z;show J9 hT zz (jU zz hT He ?_ (IZ _));show aB ⟨_,rfl, "bytearray_iterator",_,hT,lE.lookup,h⟩
theorem Ϗ(hh:dh A)(I a:ab)(qE:a≠I)(b:Array UInt8):
 mS prog w A I [I,a] [I] b.size (λi v=>∃x t,b[i]? =O x/\v=ah (x.toNat:Int) t) (λi h=>w9 h I a i/\h.get? a=O (pM b)) where
 sub:=λb D=>by have D:=bJ.mp D;lia
 frame:=λi h h' st hk=>⟨hk I au _ st.1,hk a au _ st.2⟩
 item:=λi s Q a6 hi st hQ=>Pu (x:=b[i]) st.1 st.2 fF λh' akp zQ=>hQ _ h' _ (kH (b[i]) _ fF Z) ⟨akp,zQ.extBut a _ qE st.2⟩ λc o hc e=>zQ.extBut c o (λh=>hc au) e
 done:=λs Q a6 st hQ=>Pw hh st.1 st.2 λh' Jp=>hQ h' s.toks λc o hc e=>Jp c o (λh=>hc au) e
 self:=λ_ _ _ _ st hQ=>Px st.1 hQ
theorem Py:gV (ak "bytearray") (aC "__len__")=pure (O (bx "bytearray.__len__")):=wZ.lookup
def CU(A:ck)(a6:aa->ae->Prop)(s:ae)(a:ab)(b:Array UInt8)(Q:Bool->ae->Prop):Prop:=∀(ha:s.heap.get? a=O (pM b)) (h:Q af s),ax (aG prog w) A (abz (R a)) Q a6 s
def Hf(c:((ck×(aa->ae->Prop))×ae)×((ab×(Array UInt8))×(Bool->ae->Prop))):Prop:=CU c.1.1.1 c.1.1.2 c.1.2 c.2.1.1 c.2.1.2 c.2.2
def pX:=IH Hf inferInstance
theorem ϐ:CU pX.1.1.1 pX.1.1.2 pX.1.2 pX.2.1.1 pX.2.1.2 pX.2.2:=λha h=>ag<|eH (fm ha) Py<|ag<|mP (fm ha) tX<|ag<|ou (fm ha)<|aB h
theorem acw{Q:Bool->ae->Prop}:CU A a6 s a b Q:=hen (P:=Hf) ϐ (((A,a6),s),((a,b),Q))
def CV(A:ck)(a6:aa->ae->Prop)(s:ae)(a:ab)(b:Array UInt8)(Q:aa->ae->Prop):Prop:=∀(hh:dh A) (ha:s.heap.get? a=O (pM b)) (dM:b.size<=1000) (hQ:∀h' tk I3 c',(uf s.heap h')->h'.get? s.heap.objs.size=O {cls:=ak "list",dict:=ai,data:=bU I3 c',slots:=#[]}->
 ItemsOf (λi v=>∃x t,b[i]? =O x/\v=ah (x.toNat:Int) t) I3 b.size->Q (R s.heap.objs.size) {s with heap:=h',toks:=tk}),ax (aG prog w) A (call (ak "list") [R a]) Q a6 s
def Hg(c:((ck×(aa->ae->Prop))×ae)×((ab×(Array UInt8))×(aa->ae->Prop))):Prop:=CV c.1.1.1 c.1.1.2 c.1.2 c.2.1.1 c.2.1.2 c.2.2
def pY:=IH Hg inferInstance
def ϑ:=pY.1.1.1
def qP:=pY.1.2
def Nk:=pY.2.1.1
def Nl:=pY.2.1.2
theorem ϒ:CV ϑ pY.1.1.2 qP Nk Nl pY.2.2:=λhh ha dM hQ=>by
 show callType_codes (Q₁:=λobj aD=>obj=R qP.heap.objs.size/\aD={qP with heap:=qP.heap.push {cls:=ak "list",data:=bU #[]}}) PySem.F.called_list (PySem.F.typeCall_list_1 _) PySem.F.entry_list_init
  (code_list_new _ ⟨rfl,rfl⟩) λobj aD U=>?_
 obtain⟨rfl,rfl⟩:=U;have hS:(qP.heap.push {cls:=ak "list",data:=bU #[]}).get? qP.heap.objs.size=O {cls:=ak "list",data:=bU #[]}:=bK _ Z;show gQ ⟨_,hS,rfl⟩ (PySem.F.args_list_init_2 _ _)<|have hSa:=eO (fB (cn ha));ag<|ag<|jF hS Z<|aB<|ag<|uS hS Z<|have Hh:=gN (dP (λ_=>(#[]:Array aa))) hS Z;ag (uW ?_);generalize hh1:(qP.heap.push {cls:=ak "list",data:=bU #[]}).update qP.heap.objs.size (dP λ_=>#[])=h1 at *;have ka:h1.get? Nk=O (pM Nl):=by rw[<-hh1,mh _ _ hSa];show a8 _ ha
 have akq:∀c o,qP.heap.get? c=O o->h1.get? c=O o:=λc o e=>by rw[<-hh1,mh _ _ (eO (fB (cn e)))];show a8 _ e
 have ahJ:h1.objs.size=qP.heap.objs.size+1:=by rw[<-hh1,Heap.size_after_update];show dD ..
 show ag (ou (ct _ ka Z) ?_);have e1:yD (R qP.heap.objs.size) (R Nk)=af:=by simp[yD,hSa]
 simp only[e1,LK,UZ,if_false];show ag<|I1 ka<|ag (cO (acw (a8 _ ka) ?_));show aB ⟨lI Fu _,?_⟩;show TK ((Ϗ (A:=ϑ.in1.in1) hh h1.objs.size Nk (λe=>by rw[e]at ka;show gw _ (cn ka)) Nl).toS) au qP.heap.objs.size (λhm=>?_) aA Nl.size 0 _ #[] _ Z (fg _) ⟨bK _ Z,a8 _ ka⟩ (a8 _ Hh) (Ws _) λY I3 c' hm hS' oq=>?_
 .simp at hm;show bf hm (λe=>by rw[ahJ]at e;show absurd e (fB (ja _))) λe=>hSa e
 .rw [Moved.eq_with hm];show⟨rfl,hQ Y.heap Y.toks I3 c' (λc o e=>hm.heap c o (λhmem=>?_) (a8 _ (akq c o e))) hS' oq⟩;have hc:=cn e;rcases bu.mp hmem with e' |hmem
  .rw [e']at hc;show gw _ hc
  .rw [bJ.mp hmem,ahJ]at hc;show absurd hc (j4.mpr (lP _))
theorem Pz:CV A a6 s a b Q:=hen (P:=Hg) ϒ (((A,a6),s),((a,b),Q))
theorem I4:gV (ak "slice") (aC "__index__")=pure ai:=by ext
theorem YX:gV (ak "tuple") (aC "__int__")=pure ai:=by ext
theorem PA:gV (ak "tuple") (aC "__float__")=pure ai:=by ext
theorem afv:oy (ak "tuple") (ak "bytearray")=pure af:=by ext
theorem afw:oy (ak "tuple") (ak "complex")=pure af:=by ext
theorem ϓ{l:ab}(hl:s.heap.get? l=O (cU vs n)):ax M A (asStr? (R l)) (λx Y=>Y=s/\x=ai) a6 s:=ag (iW hl (aB ⟨rfl,rfl⟩))
def CW(A:ck)(s:ae)(a:ab)(sl:ab)(l:ab)(b:Array UInt8)(k:Nat)(m:Nat)(t:aW)(u:aW)(vs:List aa)(ns:LN)(n:Nat)(Q:ij->ae->Prop):Prop:=∀(ho:s.heap.get? a=O (pM b)) (hs:s.heap.get? sl=O {cls:=ak "slice",data:=bH #[ah (k:Int) t,ah (m:Int) u,aA]}) (hl:s.heap.get? l=O (cU vs n)) (hi:fh vs (ns.map aj)) (D:∀n∈ns,n<256) (hm:m<=b.size) (Rb:k+ns.length=m) (dM:b.size<=1000) (hq:∀Y,Tn [a] s Y->Y.heap.get? a=O (pM (b.extract 0 k++wo ns++b.extract m b.size))->Q (nq (cL aA)) Y),C A (Builtin.«bytearray.__setitem__» ⟨[R a,R sl,R l],[]⟩) s Q
def Hi(c:(((ck×ae)×(ab×ab))×((ab×(Array UInt8))×Nat))×(((Nat×aW)×(aW×(List aa)))×(((LN)×Nat)×(ij->ae->Prop)))):Prop:=CW c.1.1.1.1 c.1.1.1.2 c.1.1.2.1 c.1.1.2.2 c.1.2.1.1 c.1.2.1.2 c.1.2.2 c.2.1.1.1 c.2.1.1.2 c.2.1.2.1 c.2.1.2.2 c.2.2.1.1 c.2.2.1.2 c.2.2.2
def hU:=IH Hi inferInstance
def z0:=hU.1.1.1.2
def Nm:=hU.1.1.2.1
def Xd:=hU.1.1.2.2
def RO:=hU.1.2.1.1
def Hj:=hU.1.2.1.2
def Hk:=hU.1.2.2
def CX:=hU.2.1.1.1
def Xe:=hU.2.2.1.1
def ϔ:=hU.2.2.1.2
theorem ϕ:CW hU.1.1.1.1 z0 Nm Xd RO Hj Hk CX hU.2.1.1.2 hU.2.1.2.1 hU.2.1.2.2 Xe ϔ hU.2.2.2:=λho hs hl hi D hm Rb dM hq=>by
 have hTs:z0.TypeIs (R Xd) "slice" :=ct _ hs Z;have hTt:z0.TypeIs (R RO) "tuple" :=ct _ hl Z;have DG:Nm≠RO:=λe=>by rw[e,hl]at ho;simp[pM,cU]at ho
 show C.bind (T.wY (v₀:=ai) (aJ:=z0) ?_ ?_)
 .show ag<|eH hTs I4<|aB ⟨rfl,rfl⟩
 show C.bind<|T.wc<|ou hTs<|ee aK<|C.bind<|T.wc<|G8 (oS _ _) (oS _ _) hs<|ee (Bool.not_eq_true _▸beq_false_of_ne DG)<|C.bind<|T.wc<|mP hTt afv<|C.bind (T.wY (v₀:=af) (aJ:=z0) ?_ ?_)
 .show ag<|ag<|eH hTt (Ha "tuple" (aH Z)).1<|aB<|ag<|ag<|eH hTt YX<|aB<|ag<|ag<|eH hTt PA<|aB<|mP hTt afw ⟨rfl,rfl⟩
 show C.bind<|T.wY (ϓ hl)<|ee aK<|C.bind<|C.rule<|C.bind<|uG _ ϔ hl (aH Z) hi D au<|lH (T.wc (G8 (oS _ _) (oS _ _) (a8 _ hs) ?_));show C.bind (T.wc (kR (bK _ Z) ?_));show C.bind (T.wc (kR (a8 _ ho) ?_));show C.bind (C.eq (Nf Hk CX Hj.size) ?_);have h1:min (Hk:Int) Hj.size=Hk:=by lia
 have h3:max (Hk:Int) CX=CX:=by lia
 simp only[h1,(by lia:min (CX:Int) Hj.size=CX),h3];show C.bind<|C.rule<|ee (by simp[wo];lia)<|have ϖ:(z0.heap.push (pM (wo Xe))).get? Nm=O (pM Hj):=a8 _ ho;C.bind<|T.wc<|mC ϖ (by simp[wo];lia)<|C.pure<|eX (Tn.upd ϖ au) λt2 e2=>(hq _ ((Tn.push [Nm] z0 _).trans t2 λ_ h=>ao h) (e2))
theorem PB{sl:ab}{l:ab}{m:Nat}{t:aW}{u:aW}{Q:ij->ae->Prop}:CW A s a sl l b k m t u vs ns n Q:=hen (P:=Hi) ϕ ((((A,s),(a,sl)),((l,b),k)),(((m,t),(u,vs)),((ns,n),Q)))
abbrev Sg:=List (ab×bj)
noncomputable def Hl(o:bj):Bool:=match o.data with
 |oM _=>af
 |bU ..=> !(o.cls==ak "list")
 |_=>N
def z8(U:aN)(S:Sg)(h:aN):Prop:=∀p∈S,h.get? p.1=O p.2/\p.1∉bY/\Hl p.2=N/\U.get? p.1=ai
structure sv(W:List ab)(s Y:ae):Prop where
 mod:Mod W s.heap Y.heap
 os:Y.os=s.os
 drawn:Y.drawn=s.drawn
 gens:nV s.gens Y.gens
theorem sv.refl(W:List ab)(s:ae):sv W s s:=⟨.refl _ _,rfl,rfl,.refl _⟩
protected theorem mA.p(m:mA W s Y):sv W s Y:=⟨m.mod,m.os,m.drawn,.of m.gens⟩
theorem sv.trans{a b c:ae}(x:sv W a b)(y:sv W' b c)(hw:∀d,d∈W'->d∈W\/a.heap.get? d=ai):sv W a c:=
 ⟨x.mod.trans y.mod hw,y.os.trans x.os,y.drawn.trans x.drawn,y.gens.trans x.gens⟩
theorem sv.off{tk:Nat}(m:sv W s Y)(keep:∀b o,b∉wr->Y.heap.get? b=O o->h'.get? b=O o)(hw:∀b∈wr,s.heap.get? b=ai/\b∉bY):sv W s {Y with heap:=h',toks:=tk}:=
 have q:mA W {Y with heap:=s.heap} {Y with heap:=h',toks:=tk}:=mA.off ⟨m.mod,rfl,rfl,rfl⟩ keep hw
 ⟨q.mod,m.os,m.drawn,m.gens⟩
section
variable(H:List ab)(U:aN)
structure PS(L:c9)(J:cg)(aJ:ae)(bq bB:List ab)(G:ie)(S:Sg)(s:ae):Prop where
 fr:∃W,FR H U U L J s.heap G W/\(∀b∈W,b∈bq\/aJ.heap.get? b=ai)/\∀p∈S,p.1∉W
 sg:z8 U S s.heap
 mod:sv (bq++bB) aJ s
 lC:∀p∈S,p.1∈bB\/aJ.heap.get? p.1=ai
end
section
variable{H:List ab}{U:aN}{S S':Sg}{Q:b8->ae->Prop}
theorem FR.rebase(r:FR H U D L J h G W):FR H U U L J h G W:=
 ⟨.refl _,r.base,r.scope,r.kind,r.glob,r.bi,r.loc,r.ns,r.cell,r.pS,λb hb'=>hb (r.ji b hb') λa b' c=>(gQ (r.b1.new a) b' c),r.ents⟩
theorem PS.ext(p:PS H U L J aJ bq bB G S s):hx H U s.heap:=gC p.fr λ_ r _ _=>r.base
theorem PS.er(p:PS H U L J aJ bq bB G S s):ER H s.heap L J s.heap G:=by show bh p.fr λW r _=>have e:=r.er;⟨.refl _,e.kind,e.gl,e.WD,e.glob,e.bi,e.loc,e.has⟩
theorem cA.ext(B:cA U mg mb)(x:hx H U h):cA h mg mb where
 g:=B.mg x
 b:=B.mb x
 lim:=B.zr x
 top:=dG B.top λo e=>x.there _ o e
 bmod:=lZ B.bmod λbm o e1 e2 e3 e4 e5=>U' bm o e1 e2 e3 (x.keep bm o e3 e4) e5
theorem FnAt.ext(f:FnAt U a fd)(x:hx H U h):FnAt h a fd where
 obj:=bh f.obj λo e d=>ct o (x.keep a o f.off e) d
 off:=f.off
 code:=gu f.code λc oc ws t e1 e2 e3 e4=>DW c oc ws t e1 e2 (x.keep c oc e2 e3) e4
theorem PS.base(p:PS H U L J aJ bq bB G S s)(B:cA U mg mb):cA s.heap mg mb:=B.ext p.ext
theorem PS.get(p:PS H U L J aJ bq bB G S s)(h:(a,o)∈S):s.heap.get? a=O o:=(p.sg _ h).1
theorem z8.mod(cB:z8 U S h)(m:Mod W h h')(hw:∀p∈S,p.1∉W):z8 U S h':=λp hp=>iL (cB p hp) λa b c d=>rN (m.keep _ _ (hw p hp) b a) b c d
theorem z8.ext(cB:z8 U S h)(x:hx H h h'):z8 U S h':=λp hp=>iL (cB p hp) λa b c d=>rN (x.keep _ _ b a) b c d
theorem PS.step(p:PS H U L J aJ bq bB G S s)(r:FR H U U L J s.heap G W)(hW:(∀b∈W,b∈bq\/aJ.heap.get? b=ai)/\∀p∈S,p.1∉W)(m:mA W s Y)(r':FR τ' U U L J Y.heap G' W')(CH:∀d,d∈W'->d∈W\/s.heap.get? d=ai):PS τ' U L J aJ bq bB G' S Y where
 fr:=⟨W',r',λb D=>by
  show bf (CH b D) (λq=>hW.1 b q) λq=>aH (p.mod.mod.new q),λx E q=>by
  rcases CH _ q with q|q
  .show hW.2 x E q
  .have q:=((p.sg x E).1).symm.trans q;ext⟩
 sg:=p.sg.mod m.mod hW.2
 mod:=p.mod.trans m.p λd hd=>bf (hW.1 d hd) (λq=>ao (dc _ q)) λq=>aH q
 lC:=p.lC
theorem PS.grow(p:PS H U L J aJ bq bB G S s)(x:dz H s Y):PS H U L J aJ bq bB G S Y:=
 bh p.fr λW r hW=>(p.step r hW (x.smod W) (r.grow x.ext) λd hd=>ao hd)
theorem PS.less(p:PS H U L J aJ bq bB G S s)(g:km G' G):PS H U L J aJ bq bB G' S s:=bh p.fr λW r hW=>⟨(ct W (r.less g) hW),p.sg,p.mod,p.lC⟩
theorem PS.share(p:PS H U L J aJ bq bB G S s)(y:Nat):PS H U L J aJ bq bB (Lake.share G y) S s:=bh p.fr λW r hW=>gC (r.share y) λW' r' hw _=>⟨(kF W' r' (λb D=>hW.1 b (hw b D)) (λx E q=>hW.2 x E (hw _ q))),p.sg,p.mod,p.lC⟩
theorem PS.sub(p:PS H U L J aJ bq bB G S s)(h:∀x∈S',x∈S):PS H U L J aJ bq bB G S' s:=⟨gC p.fr λW r a b=>(kF W r a (λx E=>b x (h x E))),λx E=>p.sg x (h x E),p.mod,λx E=>p.lC x (h x E)⟩
noncomputable def RP(o:bj):Bool:=match o.data with
 |qm ..=>N
 |sZ=>N
 |_=>af
theorem ϗ(e:h.get? a=O o)(hi:RP o=N):kK h a:=by
 show ct o e ?_;unfold RP at hi;cases q:o.data with
 |bytearray b n=>show aH (aH (ao (qA b n Z)))
 |plain=>show aH (aH (aH Z))
 |_=>have hi:=q▸hi;show IE (by assumption)
theorem PS.aeG(p:PS H U L J aJ bq bB G S s){o':bj}(ha:(a,o)∈S)(hi:s.heap.get? a=O o->kK s.heap a)(t:Tn [a] s Y)(ho:Y.heap.get? a=O o')(hs:Hl o'=N)(hS:∀x∈S',(x.1=a/\x.2=o')\/(x.1≠a/\x∈S)):PS H U L J aJ bq bB G S' Y:=by
 show bh p.fr λW r hW=>iL (p.sg _ ha) λe1 e2 e3 e4=>have hnW:=hW.2 _ ha;⟨(kF W (r.off (λb o D e=>t.keep b o D e) (λb D=>by show(bJ.mp D)▸?_;show⟨hi e1,e2,e4,hnW⟩)) hW.1 (λx E=>?_)),λx E=>?_,p.mod.trans (t.smod λb D=>by show bJ.mp D▸?_;show e2).p λd hd=>?_,λx E=>?_⟩
 .rcases hS x E with⟨q1,q2⟩|⟨q1,q2⟩
  .show q1.symm▸hnW
  .show hW.2 x q2
 .rcases hS x E with⟨q1,q2⟩|⟨q1,q2⟩
  .show q1.symm▸q2.symm▸rN ho e2 hs e4
  .show iL (p.sg x q2) λc1 c2 c3 c4=>rN (t.keep _ _ (by simpa using q1) c1) c2 c3 c4
 .apply jS hd;show bf (p.lC _ ha) (λq=>ao (ew _ q)) λq=>aH q
 .rcases hS x E with⟨q1,q2⟩|⟨q1,q2⟩
  .show q1.symm▸p.lC _ ha
  .show p.lC x q2
protected theorem PS.turn(p:PS H U L J aJ bq bB G S s){o':bj}(ha:(a,o)∈S)(hi:RP o=N)(t:Tn [a] s Y)(ho:Y.heap.get? a=O o')(hs:Hl o'=N)(hS:∀x∈S',(x.1=a/\x.2=o')\/(x.1≠a/\x∈S)):PS H U L J aJ bq bB G S' Y:=p.aeG ha (ϗ · hi) t ho hs hS
theorem PS.here(p:PS H U L J aJ bq bB G S s):∃W,(∀b∈W,b∈bq\/aJ.heap.get? b=ai)/\PS H U L J s W (S.map (·.1)) G S s:=
 bh p.fr λW r hW=>⟨W,hW.1,(kF W r (λb D=>ao D) hW.2),p.sg,.refl _ _,λx E=>ao (bG.mpr (ct x E Z))⟩
theorem PS.back(p:PS H U L J aJ bq bB G S s)(hW:∀b∈W,b∈bq\/aJ.heap.get? b=ai)(q:PS τ' U L J s W (S.map (·.1)) G' S' Y):PS τ' U L J aJ bq bB G' S' Y where
 fr:=gC q.fr λW' r h h2=>⟨W',r,λb D=>by
  rcases h b D with x|x
  .show hW b x
  .show aH (p.mod.mod.new x),h2⟩
 sg:=q.sg
 mod:=p.mod.trans q.mod λd hd=>by
  rcases b9.mp hd with x|x
  .show bf (hW d x) (λy=>ao (dc _ y)) λy=>aH y
  .show bh (bG.mp x) λz hz dX=>dX▸bf (p.lC z hz) (λy=>ao (ew _ y)) λy=>aH y
 lC:=λx E=>by
  rcases q.lC x E with y|y
  .show bh (bG.mp y) λz hz e=>e▸p.lC z hz
  .show aH (p.mod.mod.new y)
def acx(A:ck)(J:cg)(rest:List bT)(Q:b8->ae->Prop)(f:b8)(s:ae):Prop:=match f with
 |cJ=>C A (aU rest J) s Q
 |f=>Q f s
theorem eZ(h:Q cJ s):C A (aU [] J) s Q:=λ_ _ _ _=>h
theorem ip(h:C A (mU st J) s (acx A J rest Q)):C A (aU (st::rest) J) s Q:=λΓ p wh hc=>by rw[Kx,VU];show tj (aG prog w) Γ _ (λf p' Y h'=>?_) (λ_ _ _ h'=>h') _ _ (@h Γ p wh hc);cases f<;>first|show @h' Γ p' wh hc|show h'
theorem YY(l rest:List bT)(J:cg):aU (l++rest) J=aU l J>>=λf=>match f with|cJ=>aU rest J|f=>pure f:=by
 induction l with
 |nil=>show(?_:aU rest J=(pure cJ:aE b8)>>=_);rw[pure_bind]
 |cons st l ih=>
  rw[ET,Kx,Kx,bind_assoc];congr 1
  funext f
  cases f with
  |next=>show ih
  |_=>rfl
theorem afx{l:List bT}(h:C A (aU l J) s (acx A J rest Q)):C A (aU (l++rest) J) s Q:=by
 rw[YY];show C.bind (h.mono λf Y h'=>?_);cases f with
 |next=>show h'
 |_=>show C.pure h'
protected theorem PS.s1(p:PS H U L J aJ bq bB G S s)(x:S1m H τ' U A L J st G G' ai)(k:∀Y,PS τ' U L J aJ bq bB G' S Y->C A (aU rest J) Y Q):
 C A (aU (st::rest) J) s Q:=bh p.fr λW r hW=>ip<|(x r).wz λf Y oj=>oT oj λm hf W' r' CH=>hf▸k Y (p.step r hW m r' CH)
protected theorem PS.ss{l:List bT}(p:PS H U L J aJ bq bB G S s)(x:pL H τ' U A L J l G G' ai)(k:∀Y,PS τ' U L J aJ bq bB G' S Y->C A (aU rest J) Y Q):
 C A (aU (l++rest) J) s Q:=bh p.fr λW r hW=>afx<|(x r).wz λf Y qQ=>oT qQ λm hf W' r' CH=>hf▸k Y (p.step r hW m r' CH)
theorem PS.asg{q:aY}(p:PS H U L J aJ bq bB G S s)(he:V H s.heap A L J G e av af)(hf:flat av=N)(dH:bW G x=N)(E:Hx L x)(hs:fu e (O (ar (NM x) q)) pos.line J=pure af)(k:∀Y,PS H U L J aJ bq bB (jl G x 0 av) S Y->C A (aU rest J) Y Q):C A (aU (fE [ar (NM x) q] e pos::rest) J) s Q:=by show bh p.fr λW r hW=>(ip (T.wz (P:=λf Y=>f=cJ/\PS H U L J aJ bq bB (jl G x 0 av) S Y) ?_ λf Y qQ=>eX qQ λe1 e2=>by show e1▸?_;show k Y e2));show xI ((he p.er).tM λv aD F e1 aO _=>?_) hs;show(j9 (r.grow e1.ext) E dH aO (.flat (cV.1 _ _ _ hf aO))).CA λ_ aQ r2 m2=>⟨rfl,p.step r hW (e1.sm m2) r2 λd hd=>ao hd⟩
theorem acy{q:aY}(p:PS H U L J aJ bq bB G S s)(he:V H s.heap A L J G e av N)(hf:wa av=N)(dH:bW G x=N)(E:Hx L x)(hs:fu e (O (ar (NM x) q)) pos.line J=pure af)(k:∀Y,PS H U L J aJ bq bB (jl G x 1 av) S Y->C A (aU rest J) Y Q):C A (aU (fE [ar (NM x) q] e pos::rest) J) s Q:=by
 show bh p.fr λW r hW=>(ip (T.wz (P:=λf Y=>f=cJ/\PS H U L J aJ bq bB (jl G x 1 av) S Y) ?_ λf Y qQ=>eX qQ λe1 e2=>by show e1▸?_;show k Y e2));show xI ((he p.er).tM λv aD F e1 aO hn=>?_) hs;show eX (hn Z) λh1 h2=>((j9 (r.grow e1.ext) E dH aO (.fresh h1 h2 (Gq hf aO) r e1.ext)).CA λ_ aQ r2 m2=>⟨rfl,p.step r hW (e1.sm m2) r2 λd hd=>?_⟩);rcases b9.mp hd with q|q
 .show ao q
 .show aH (h1 d q)
theorem PS.ite{c:aw}{a b:List bT}{x:Bool}(p:PS H U L J aJ bq bB G S s)(hc:oY H s.heap A L J G c x)(k:∀Y,PS H U L J aJ bq bB G S Y->C A (aU (cond x a b) J) Y (acx A J rest Q)):C A (aU (A6 c a b pos::rest) J) s Q:=by show ip<|nO<|C.bind<|(hc p.er).wz λv aQ ko=>have:=k aQ (p.grow ko.1);ko.2.symm▸?_;cases x<;>show this
end
variable{bw L' S S':Sg}
section
variable{Q:b8->ae->Prop}
theorem Xf{vS:List bT}(I:Nat->ae->Prop)(turn:∀n s (P1:Option aa->ae->Prop) (P2:ae->Prop) (P3:b8->ae->Prop),(∀aD,C A (aU vS J) aD (λf=>aM (cf f))->P1 ai aD)->(∀v aD,C A (jE cu it v) aD (λ_ uC=>C A (jI cu J v) uC (λ_=>P2))->P1 (O v) aD)->
 (∀aQ,C A (aU body J) aQ P3->P2 aQ)->(∀m de,m<n->I m de->P3 cJ de)->I n s->C A (gX it) s P1)(n:Nat)(h:I n s):CC A (Fd cu it body vS J) s aM:=by
 induction n using UR generalizing s with
 |ind n ih=>
  show jm Z<|C.onRaise<|nO (C.bind (C.onRaise ((turn n s (λr aD=>match r with
   |none=>C A (aU vS J) aD (λf de=>aM (cf f) de)
   |some v=>C A (jE cu it v) aD (λ_ uC=>C A (jI cu J v) uC (λ_ aQ=>C A (aU body J) aQ (λf de=>match f with
    |cJ|Flow.cont=>∃m,m<n/\I m de
    |Flow.brk=>aM (cf cJ) de
    |cL v=>aM (cf (cL v)) de)))) _ _ (λ_ h=>h) (λ_ _ h=>h) (λ_ h=>h) (λm _ a b=>ct m a b) h).mono λr aD U=>?_)))
  cases r with
  |none=>show C.pure ⟨rfl,jm Z ?_⟩;show C.bind (C.onRaise (C.mono U λf Y h'=>C.pure h'))
  |some v=>
   show C.bind<|C.mono U λ_ uC ω=>C.bind (C.mono ω λ_ aQ ko=>C.bind (C.mono ko λf de uj=>?_));cases f with
   |next=>obtain⟨m,hm,hI⟩:=uj;show C.pure ⟨rfl,ih m hm hI⟩
   |cont=>obtain⟨m,hm,hI⟩:=uj;show C.pure ⟨rfl,ih m hm hI⟩
   |brk=>show C.pure uj
   |ret v=>show C.pure uj
theorem Ϙ{vS:List bT}(I:Nat->ae->Prop)(turn:∀n s (P1:Option aa->ae->Prop) (P2:ae->Prop) (P3:b8->ae->Prop),(∀aD,C A (aU vS J) aD (λf=>aM (cf f))->P1 ai aD)->(∀v aD,C A (jI cu J v) aD (λ_=>P2)->P1 (O v) aD)->
 (∀aQ,C A (aU body J) aQ P3->P2 aQ)->(∀m de,m<n->I m de->P3 cJ de)->I n s->C A (gX it) s P1)(n:Nat)(h:I n s)(ht:∀v,jE cu it v=pure ()):CC A (Fd cu it body vS J) s aM:=
 Xf I (λn s P1 P2 P3 a b=>turn n s P1 P2 P3 a λv aD q=>b v aD (C.eq (ht v) q)) n h
theorem RQ{vS:List bT}(hs:Fs iter J)(h:C A (aZ iter J) s (λx aD=>C A (gm x) aD (λit aQ=>CC A (Fd cu it body vS J) aQ (λr Y=>match r with|cf f=>Q f Y|kX _=>False)))):
 C A (mU (kZ cu iter body vS pos) J) s Q:=nO<|C.bind<|h.mono λx aD U=>C.bind<|C.eq (hs x)<|nO<|lH<|C.mono U λit aQ ko=>C.onRaise (C.run ko)
inductive akr{ζ:Type}(H:List ab)(U:aN)(L:c9)(J:cg)(s:ae)(S:Sg)(W fp:List ab)(iS:Nat->ζ->ie)(Sj:Nat->ζ->Sg)(St:Nat->aN->Prop)(n₀ m:Nat)(Y:ae):Prop
 |mk (i:Nat) (z:ζ) (W':List ab) (e:m=n₀+1 - i) (hi:i<=n₀) (m1:sv (W++S.map (·.1)) s Y) (st:St i Y.heap) (r:FR H U U L J Y.heap (iS i z) W') (hW:∀d,d∈W'->d∈W\/s.heap.get? d=ai) (cB:z8 U (Sj i z) Y.heap)
  (kn:∀y∈Sj i z,y.1∈S.map (·.1)\/s.heap.get? y.1=ai) (dj:∀y∈Sj i z,y.1∉W') (fW:∀d∈fp,d∉W') (fS:∀d∈fp,∀y∈Sj i z,y.1≠d) (fe:∀d∈fp,∃o,Y.heap.get? d=O o)
theorem yT(x:Nat)(ns:List Int){ζ:Type}(iS:Nat->ζ->ie)(Sj:Nat->ζ->Sg)(afy:ζ)(p:PS H U L J aJ bq bB G S s)(uk:zv H s.heap A L J G iter ns)(h0:km (iS 0 afy) G)(Z8:∀y∈Sj 0 afy,y∈S)(E:Hx L x)(dH:∀i z,i<ns.length->bW (iS i z) x=N)(step:∀i n z aD W,ns[i]? =O n->PS H U L J aD W ((Sj i z).map (·.1)) (jl (iS i z) x 0 (a9 n)) (Sj i z) aD->
 C A (aU body J) aD (λf aQ=>f=cJ/\∃z',PS H U L J aD W ((Sj i z).map (·.1)) (iS (i+1) z') (Sj (i+1) z') aQ))(hs:Fs iter J)(k:∀Y z,PS H U L J aJ bq bB (iS ns.length z) (Sj ns.length z) Y->C A (aU rest J) Y Q):
 C A (aU (kZ (ar (NM x) px) iter body [] pos::rest) J) s Q:=by
 show bh p.fr λW r hW=>(ip (RQ hs ((uk s p.er).wz λv aD q=>q.wz λit aQ oj=>?_)));obtain⟨e1,I,fp,wr,St,Wk,st,Gv,φ,An⟩:=oj;have fpW:∀b∈fp,b∉W:=λb hb' hw=>by
  rcases(An b hb').2.2 with h|h
  .obtain ⟨o,e⟩:=(λb hb'=>oT (r.ji b hb') λ_ _ o e _=>⟨o,e⟩:∀b∈W,∃o,s.heap.get? b=O o) b hw;have e:=h.symm.trans e;ext
  .show h.υ r hw
 have fpS:∀b∈fp,∀y∈S,y.1≠b:=λb hb' y hy e=>by
  subst e;show iL (p.sg y hy) λc1 c2 c3 c4=>?_;rcases(An _ hb').2.2 with h|h
  .have h:=c1.symm.trans h;ext
  .show wC h λz k' av v' F e hk cB aO D=>og λgG kG=>iM (aO.kinds _ D) λ_ o e1 e2=>kG ?_;clear kG gG;rw[c1]at e1;obtain rfl:=aV e1;unfold Hl at c3;rcases e2 with⟨h1,vs,n,h2⟩|⟨v,h2⟩
   .have c3:=h1▸h2▸c3;ext
   .have c3:=h2▸c3;show IE (by assumption)
 have wrT:=λb hb'=>(An b (Wk.sub b hb')).1;have wrB:∀b∈wr,s.heap.get? b=ai/\b∉bY:=λb hb'=>⟨φ b hb',wrT b hb'⟩;show Ϙ (akr H U L J s S W fp iS Sj St ns.length) ?_ (ns.length+1)
  ⟨0,afy,W,rfl,fg _,(e1.smod _).p,st,(r.grow e1.ext).less h0,λd hd=>ao hd,(λy hy=>(p.sg.ext e1.ext) y (Z8 y hy)),λy hy=>ao (bG.mpr (ct y (Z8 y hy) Z)),λy hy=>hW.2 y (Z8 y hy),fpW,λd hd y hy=>fpS d hd y (Z8 y hy),λd hd=>(An d hd).2.1⟩ (λ_=>rfl)
 rintro m Y P1 P2 P3 q0 q1 q2 q3 ⟨i,z,W',dX,hi,m1,Oh,r',CH,H',kn',dj',hfW,hfS,hfe⟩;have wrF:∀b∈wr,kK Y.heap b/\b∉bY/\U.get? b=ai/\b∉W':=λb hb'=>⟨Gv i _ Oh b hb',wrT b hb',r.base.new (φ b hb'),hfW b (Wk.sub b hb')⟩;by_cases jz:i<ns.length
 .show cR<|Wk.item i Y _ _ jz Oh λv h' tk qQ st2 keep=>eQ qQ λn t hn hv=>hv▸have m2:sv (W++S.map (·.1)) s {Y with heap:=h',toks:=tk}:=m1.off keep wrB;have H2:z8 U (Sj i z) h':=λy hy=>iL (H' y hy) λa b c d=>rN (keep _ _ (λq=>hfS _ (Wk.sub _ q) y hy Z) a) b c d;q1 _ _ ?_;have ex2:∀d∈fp,∃o,h'.get? d=O o:=λd hd=>if hdw:d∈wr then bh (Gv _ _ st2 d hdw) λo e _=>⟨o,e⟩ else dG (hfe d hd) λo e=>⟨o,keep d o hdw e⟩
  show T.wz (jD (j9 (r'.off keep wrF) E (dH i z jz) (.ofInt n t) (.flat Z))) λ_ de qQ=>eX qQ λr3 m3=>(q2 _ ((step i n z de W' hn (⟨(kF W' r3 (λb D=>ao D) dj'),(H2.mod m3.mod dj'),.refl _ _,λy hy=>ao (bG.mpr (ct y hy Z))⟩)).mono λf fq Κ=>?_));obtain⟨hf,z',p4⟩:=Κ;subst hf;show gC p4.fr λW4 r4 hW4 dj4=>?_;have k23:=λd hd o e=>m3.mod.keep d o (hfW d hd) (An d hd).1 e;have fpX:∀d∈fp,d∉W'++(Sj i z).map (·.1):=λd hd q=>bf (b9.mp q) (λq=>hfW d hd q) λq=>bh (bG.mp q) λy hy e=>(hfS d hd y hy e);have k34:=λd hd o e=>p4.mod.mod.keep d o (fpX d hd) (An d hd).1 e;have m23:=m2.trans m3.p λd hd=>bf (CH d hd) (λq=>ao (dc _ q)) λq=>aH q;have m24:=m23.trans p4.mod λd hd=>by
   rcases b9.mp hd with q|q
   .show bf (CH d q) (λq=>ao (dc _ q)) λq=>aH q
   .show bh (bG.mp q) λy hy e=>e▸bf (kn' y hy) (λq=>ao (ew _ q)) λq=>aH q
  show q3 (ns.length+1 - (i+1)) _ (dX▸ru (kU jz) (ja i)) ⟨i+1,z',W4,rfl,jz,m24,Wk.frame _ _ _ st2 (λd hd o e=>k34 d hd o (k23 d hd o e)),r4,λd hd=>bf (hW4 d hd) (λh=>CH d h) λh=>aH (m23.mod.new h),p4.sg,λy hy=>?_,dj4,λd hd hw=>?_,λd hd y hy e=>?_,λd hd=>dG (ex2 d hd) λo e=>⟨o,k34 d hd o (k23 d hd o e)⟩⟩
  .rcases p4.lC y hy with q|q
   .show bh (bG.mp q) λy' hy' e=>e▸kn' y' hy'
   .show aH (m23.mod.new q)
  .show bf (hW4 d hw) (λh=>hfW d hd h) λh=>?_;obtain⟨o,e⟩:=ex2 d hd;have h:=(k23 d hd o e).symm.trans h;ext
  .show bf (p4.lC y hy) (λq=>bh (bG.mp q) λy' hy' e'=>(hfS d hd y' hy' (e'.trans e))) λq=>?_;obtain⟨o,e'⟩:=ex2 d hd;have q:=(k23 d hd o e')▸e▸q;ext
 .have:i=ns.length:=by lia
  subst this;show cR<|Wk.done Y _ _ Oh λh' tk keep=>q0 _ (eZ ?_);have pe:PS H U L J s W (S.map (·.1)) (iS ns.length z) (Sj ns.length z) {Y with heap:=h',toks:=tk}:=
   ⟨(kF W' (r'.off keep wrF) CH dj'),λy hy=>iL (H' y hy) λa b c d=>(rN (keep _ _ (λq=>hfS _ (Wk.sub _ q) y hy Z) a) b c d),m1.off keep wrB,kn'⟩
  show k _ z (p.back hW.1 pe)
end
theorem xa{k:Int}{t:aW}{x:UInt8}{Q:aa->ae->Prop}(ha:s.heap.get? a=O (pM b))(h0: -(2 ^ 62)<=k)(h1:k<2 ^ 62)(hj:rd k b.size=O j)(E:b[j]? =O x)(h:Q (ah (x.toNat:Int) s.toks) {s with toks:=s.toks+1}):ax (aG prog w) A (xW (R a) (ah k t)) Q a6 s:=by show cO<|ag<|xJ (fm ha) (rfl)<|ag (kS (name:=aC "__getitem__") (fm ha) jC (qe jC (fm ha) uE (wj _ _) (Po a b k t j x h0 h1 hj E) ⟨ha,?_⟩));show aB h
theorem xd{k:Int}{t u:aW}{v:Nat}{Q:Unit->ae->Prop}(ha:s.heap.get? a=O (pM b))(h0: -(2 ^ 62)<=k)(h1:k<2 ^ 62)(hj:rd k b.size=O j)(hv:v<256)(D:b.size<=1000)(h:Q () {s with heap:=s.heap.update a (jL λb=>b.setIfInBounds j v.toUInt8)}):ax (aG prog w) A (AE (R a) (ah k t) (ah (aj v) u)) Q a6 s:=by show cO<|ag<|xJ (fm ha) (rfl)<|ag (kS (name:=aC "__setitem__") (fm ha) nu (qe nu (fm ha) uF (wk _ _ _) (Pp a b k t v u j h0 h1 hj hv D) ⟨ha,?_⟩));show aB h
theorem RS{Q:aa->ae->Prop}(ha:s.heap.get? a=O (pM b))(D:b.size<=1000)(h:Q (ah (b.size:Int) (s.toks+1)) {s with toks:=s.toks+1+1}):ax (aG prog w) A (call (bx "len") [R a]) Q a6 s:=
 abm (n:=b.size) (fm ha) wZ (λQ' hq=>qe wZ (fm ha) Nc (Pn _) (acv a b) ⟨ha,hq⟩) (Int.not_ofNat_neg b.size) au h
def kz(ns:LN):bj:=pM (wo ns)
def lX(ns:LN):Prop:=(∀n∈ns,n<256)/\ns.length<=1000
theorem hZ(ns:LN):(wo ns).size=ns.length:=by simp[wo]
theorem Nn(h:ns[j]? =O x):(wo ns)[j]? =O x.toUInt8:=by simp[wo,h]
theorem RT(h:x<256):(x.toUInt8).toNat=x:=by simp[Nat.toUInt8];lia
theorem Xg(ns:LN)(j v:Nat):(wo ns).setIfInBounds j v.toUInt8=wo (ns.set j v):=by apply Bc;simp[wo]
theorem lX.set(h:lX ns)(j:Nat){v:Nat}(hv:v<256):lX (ns.set j v):=⟨λn hn=>by
 rcases u6 hn with q|q
 .show h.1 n q
 .rw [q];show hv,by simpa using h.2⟩
section
variable{Q:b8->ae->Prop}
theorem bR.iq(v:aa):bR h (aX v) v []:=⟨rfl,rfl⟩
theorem bR.DH{u:aa}(x:bR h (aX u) v F):v=u:=x.1
theorem B7{i:aw}(ho:U.get? a=O (kz ns))(ht:a∉bY)(hB:lX ns)(he:V H U A L J G e (aX (R a)) af)(hi:V H U A L J G i (aT k) af)(hk:ns[k]? =O x)(r8:j8 i=af):V H U A L J G (dk e i pos) (aT x) fr:=λs r=>by show rF<|(he r).κ λaD e1=>(hi (r.ext e1.ext)).CE λt aQ e2=>have Jn:=e1.trans e2;have ϖ:=(r.base.trans Jn.ext).keep a _ ht ho;have jz:k<ns.length:=(dR.mp hk).1;have hl:=hB.2;vi (fm ϖ) jC.lookup (xa ϖ (j:=k) (x:=x.toUInt8) fF au (CD (by rw[hZ];show jz)) (Nn hk) ?_) (uA r8 _ _);show oX [] (Jn.trans (.toks _ _)) ?_ d9;rw[RT (hB.1 x (cW hk))];show .ofInt _ _
theorem uH(B:cA U mg mb)(I:dQ mg mb)(kM:Gi L "len")(ho:U.get? a=O (kz ns))(ht:a∉bY)(hB:lX ns)(he:V H U A L J G e (aX (R a)) af)(dH:cG e=af):
 V H U A L J G (bI (ar (aC "len") np) [e] [] pos) (aT ns.length) fr:=λs r=>by
 have hI:=I ("len",bx "len") aK;show l9<|(ez B r kM hI.1 hI.2 (rfl)).Dq<|yu ((fJ.cons he fJ.nil dH s pos r).Q5 λvs aD F1 e1 V1=>?_) (dp dH _ _) Z;apply vB V1;show RS ((r.base.trans e1.ext).keep a _ ht ho) (by rw[hZ];show hB.2) (oX [] (e1.trans (.toks _ _)) ?_ d9);rw[hZ];show .ofInt _ _
theorem xe(a:ab)(k x:Nat){i v:aw}{p':aY}(p:PS H U L J aJ bq bB G S s)(hv:V H s.heap A L J G v (aT x) af)(he:V H s.heap A L J G e (aX (R a)) af)(hi:V H s.heap A L J G i (aT k) af)(ha:(a,kz ns)∈S)(hB:lX ns)(hk:k<ns.length)(E:x<256)(hs:fu v (O (dk e i p')) pos.line J=pure af)(hS:∀y∈S',(y.1=a/\y.2=kz (ns.set k x))\/(y.1≠a/\y∈S))(kk:∀Y,PS H U L J aJ bq bB G S' Y->C A (aU rest J) Y Q):C A (aU (fE [dk e i p'] v pos::rest) J) s Q:=by show ip (Lake.T.wz (P:=λf Y=>f=cJ/\PS H U L J aJ bq bB G S' Y) ?_ λf Y qQ=>eX qQ λe1 e2=>by show e1▸?_;show kk Y e2);show J0 ((hv p.er).CE λt aD e1=>(he (p.er.ext e1.ext)).κ λaQ e2=>(hi ((p.er.ext e1.ext).ext e2.ext)).CE λt3 de e3=>?_) hs;have p3:=p.grow ((e1.trans e2).trans e3);have ho:=p3.get ha;have hl:=hB.2;show xd ho (j:=k) fF au (CD (by rw[hZ];show hk)) E (by rw[hZ];show hl)<|eX (Tn.upd (X:=[a]) (s:=de) (f:=λb=>b.setIfInBounds k x.toUInt8) ho bC) λt2 g2=>?_;rw[Xg]at g2;show⟨rfl,p3.turn ha Z t2 g2 Z hS⟩
theorem ϙ{v l r:aw}{op:Operator}{qp:aY}{p':aY}(p:PS H U L J aJ bq bB G S s)(hv:V H s.heap A L J G v (aT x) af)(he:V H s.heap A L J G e (aX (R a)) af)(hi:V H s.heap A L J G (eu l op r qp) (aT k) af)(ha:(a,kz ns)∈S)(hB:lX ns)(hk:ns[k]? =O y)(E:x<256)(hS:∀z∈S',(z.1=a/\z.2=kz (ns.set k (y ^^^ x)))\/(z.1≠a/\z∈S))(kk:∀Y,PS H U L J aJ bq bB G S' Y->C A (aU rest J) Y Q):C A (aU (Fe (dk e (eu l op r qp) p') Bh v pos::rest) J) s Q:=by
 show ip (Lake.T.wz (P:=λf Y=>f=cJ/\PS H U L J aJ bq bB G S' Y) ?_ λf Y qQ=>eX qQ λe1 e2=>by show e1▸?_;show kk Y e2);have eq:mU (Fe (dk e (eu l op r qp) p') Bh v pos) J=(do
  jG pos
  let ov<-aZ e J
  let iv<-holding [ov] (aZ (eu l op r qp) J)
  let new<-holding [ov,iv] do
   jG p'
   let old<-xW ov iv
   let v<-holding [old] (aZ v J)
   jG pos
   AD [old,v] (Kz Bh old v)
  jG p'
  holding [new,ov,iv] (AE ov iv new)
  release [new,ov,iv] []
  pure cJ):=rfl
 have jz:k<ns.length:=(dR.mp hk).1;have hy:y<256:=hB.1 y (cW hk);have hl:=hB.2;show ag<|jV<|ag<|(he p.er).κ λaD e1=>ag<|cO<|(hi (p.er.ext e1.ext)).CE λt2 aQ e2=>have Jn:=e1.trans e2;ag<|cO<|ag<|jV<|ag<|xa ((p.grow Jn).get ha) (j:=k) (x:=y.toUInt8) au au (CD (by rw[hZ];show jz)) (Nn hk)<|(RT hy).symm▸have ahK:dz H s {aQ with toks:=aQ.toks+1}:=Jn.trans (.toks _ _);ag<|cO<|(hv (p.er.ext ahK.ext)).CE λt4 fq e4=>ag<|jV<|wpAny_operating ((OC (op:=.xor) (H:=H) (x:=aj y) (y:=aj x) Z (aH (aH Z))).wp3 λnv hJ t5 e5 hnv=>?_);subst hnv;have p5:=p.grow ((ahK.trans e4).trans e5);have ho:=p5.get ha;show ag<|jV<|ag<|cO<|xd ho (j:=k) au au (CD (by rw[hZ];show jz)) (E3 (n:=8) hy E) (by rw[hZ];show hl)<|eX (Tn.upd (X:=[a]) (s:=hJ) (f:=λb=>b.setIfInBounds k (y ^^^ x).toUInt8) ho bC) λt6 g6=>?_;rw[Xg]at g6;show ag λΓ q wh=>aB ⟨rfl,p5.turn ha Z t6 g6 Z hS⟩
end
noncomputable def Xh(f:b8):aa:=match f with
 |cL v=>v
 |_=>aA
theorem acz(h:C (A.deeper J) (aU body J) s (λf Y=>aM (cf (cL (Xh f))) Y)):CC A (Code.func body J) s aM:=by show jm Z (C.bind (C.point (C.bind (C.onRaise (h.mono λf Y h'=>?_)))));cases f<;>show C.pure h'
theorem Xi{us:List aa}{K:LN}(B:cA U mg mb)(x1:hx H U s.heap)(bM:A.depth<1000)(ho:s.heap.get? a=O o)(hd:o.data=qo fd)(hcr:s.heap.CodeRec fd.code fd.qualname)(OK:fd.body=lh body)(afj:fd.closure=[])(Dx:fd.scope.isCoroutine=af)(zg:fd.scope.isGenerator=af)(sd:T A.in1 (du fd ⟨vs,[]⟩) s (λbs Y=>Y=s/\bs=(K.map NM).zip us))(aO:bD s.heap avs us F)(hk:fd.scope.kind=d0)(hgl:fd.globals=ef)(hbi:fd.builtins=fY)(tQ:K.Nodup)(dM:K.length=us.length)(E:∀x∈K,Hx fd.scope x)(cB:z8 U S s.heap)(hw:∀aQ bw,PS H U fd.scope (gI fd bw a) s [] (S.map (·.1)) (qF K avs) S aQ->
 C (A.deeper (gI fd bw a)) (aU body (gI fd bw a)) aQ (λf Y=>aM (cf (cL (Xh f))) Y)):CC A (mZ (R a) ⟨vs,[]⟩) s aM:=by
 show jm Z<|C.bind<|T.wc<|iW ho<|gu hcr λc oc ws tq hc hoc hdc hq=>?_;rw[hd];show(?_:C _ (callFunction a fd _) _ _)
 delta callFunction
 rw[Dx,zg,OK,hc];show C.bind<|T.wc<|fX hoc hdc hq<|C.bind<|C.pure<|C.bind (sd.wz λbs s1 qQ=>eX qQ λe1 e2=>?_);subst e1 e2;rw[afj];show C.bind (T.wc (Tt hk (λx hxm=>?_) λfV he s2 ic=>?_))
 .obtain ⟨n,v⟩:=x;show bh (bG.mp ((sS hxm).1)) λy hy dX=>?_;subst dX;rcases E y hy with q|q
  .show ao q
  .show aH ⟨q,kq _ _ _ _ (ao (mG q))⟩
 .have Jp:fV=gI fd s1.heap.objs.size a:=by rw[he];delta gI;rw[hc]
  subst Jp;have fr0:=FR.start B.top x1 aO hk hgl hbi tQ dM E ic;show eQ ic.done λhh tk e2 alH=>(C.bind (Lake.T.wc (wpAny_enterFrame ((B.zr x1).keeps ic.toInCall.keep) (by assumption) (C.pure ⟨rfl,acz (hw s2 _ ⟨(kF _ fr0.rebase (λb D=>aH ((fr0.ji b D).1)) (λp hp q=>?_)),cB.ext (H:=H) (.of_keep ic.toInCall.keep),?_,λp hp=>ao (bG.mpr (ct p hp Z))⟩)⟩))))
  .have:=(fr0.ji _ q).1;have this:=((cB p hp).1).symm.trans this;ext
  .subst e2;show⟨(hx.of_keep (H:=H) ic.toInCall.keep).mod _,rfl,rfl,.refl _⟩
theorem fU{id:aP}{args:List aw}{Q:aa->ae->Prop}(h:C A (aZ (ar id p) J) s (λf aD=>C A (xT pos f [] (jH pos (iX args J)) []) aD Q)):
 C A (aZ (bI (ar id p) args [] pos) J) s Q:=
 C.bind h
theorem c8{Q:List aa->ae->Prop}(h:Q [] s):C A (oz []) s Q:=C.pure h
theorem cx{x:aE aa}{rest:List (Bool×aE aa)}{Q:List aa->ae->Prop}(h:C A x s (λv aD=>C A (oz rest) aD (λvs aQ=>Q (v::vs) aQ))):C A (oz ((af,x)::rest)) s Q:=C.bind<|h.mono λv aD U=>C.bind (C.pure (lH (C.mono U λvs aQ ko=>C.pure ko)))
theorem ej{f:aa}{x:aE aa}{rest:List (Bool×aE aa)}{Q:sO->ae->Prop}(h:C A (oz ((af,x)::rest)) s (λvs Y=>Q ⟨vs,[]⟩ Y)):C A (xU f N ((af,x)::rest) []) s Q:=C.bind<|h.mono λvs Y h'=>C.holding (C.pure h')
theorem B8{f:aa}{Q:sO->ae->Prop}(h:Q ⟨[],[]⟩ s):C A (xU f N [] []) s Q:=C.bind<|c8<|C.bind<|C.pure<|C.holding (C.pure h)
theorem C.keep{m:aE α}{Q:α->ae->Prop}(h:C A m s Q):C A (m.keep vs) s Q:=λΓ p wh hc=>by rw[Sem.wp_keep];show @h Γ p wh hc
theorem pD(o:bj)(fd:bQ){first:List aa}{args:List (Bool×aE aa)}{Q:aa->ae->Prop}(h:C A (xU (R a) N args []) s (λx aD=>(aD.heap.get? a=O o/\o.data=qo fd)/\C A (call (R a) (first++x.pos) x.kw) aD Q)):C A (xT pos (R a) first args []) s Q:=by
 show lH (h.mono λx aD U=>C.bind (C.standAt ?_));have tail:∀{t:aE aa},C A t aD Q->C A (t>>=λr=>holding [r] point>>=λ_=>pure r) aD Q:=
  λht=>C.bind (ht.mono λr aQ hr=>lH (C.point (C.pure hr)))
 cases hs:args.any (·.1)<;>dsimp only[UD,LK]<;>
  show C.bind ?_<;>unfold AA<;>
  show C.bind (T.wc (iW U.1.1 ?_))<;>rw[U.1.2]<;>show C.pure ?_
 .change C _ (if _ then _ else _) _ _;split
  .show tail U.2
  .show tail (C.keep U.2)
 .show tail (C.keep U.2)
theorem dg{f:aa}{first:List aa}{args:List (Bool×aE aa)}{Q:aa->ae->Prop}(afz:args.any (·.1)=af)(h:C A (xU f N args []) s (λa aD=>C A (AA f) aD (λk aQ=>k=FI/\C A (call f (first++a.pos) a.kw) aQ Q))):C A (xT pos f first args []) s Q:=by show lH (h.mono λa aD U=>C.bind (C.standAt ?_));rw[afz,UD,LK];show C.bind<|C.mono U λk aQ qQ=>eX qQ λe ko=>e▸C.bind (ko.mono λr de hr=>lH (C.point (C.pure hr)))
theorem iE{T:String}{Q:Keeper->ae->Prop}(h:Q FI s):C A (AA (ak T)) s Q:=C.pure h
theorem lT{id:String}{Q:Keeper->ae->Prop}(h:Q FI s):C A (AA (bx id)) s Q:=C.pure h
section
variable{Q:b8->ae->Prop}
theorem yU{q:aY}(dH:bW G x=N)(E:Hx L x)(hs:fu e (O (ar (NM x) q)) pos.line J=pure af)(he:C A (aZ e J) s (λv aD=>∃S' av F,PS τ' U L J aJ bq bB G S' aD/\bR aD.heap av v F/\flat av=N/\
 ∀Y,PS τ' U L J aJ bq bB (jl G x 0 av) S' Y->C A (aU rest J) Y Q)):C A (aU (fE [ar (NM x) q] e pos::rest) J) s Q:=by
 show ip ?_;rw[TZ J (NM x) q e pos hs];show nO<|C.bind<|he.mono λv aD U=>nO<|C.bind<|C.bindName<|gH U λS' av F ps aO hf k=>bh ps.fr λW r hW=>(j9 r E dH aO (.flat (cV.1 _ _ _ hf aO))).wz λ_ aQ ko=>C.pure (k aQ (ps.step r hW ko.2 ko.1 λd hd=>ao hd))
theorem z9(hi:iG J=af)(hs:fu e ai pos.line J=pure af)(he:C A (aZ e J) s (λv aD=>v=aA/\C A (aU rest J) aD Q)):C A (aU (vh e pos::rest) J) s Q:=by show ip ?_;rw[exec_Expr J e pos hi hs];show nO<|C.bind<|he.mono λv aD qQ=>eX qQ λe1 U=>e1▸?_;rw[dropValue_plain (by intro a h;ext)];show C.pure U
theorem acA{f:aa}{Q:sO->ae->Prop}(r:ER H s.heap L J s.heap G)(he:fJ H s.heap A L J G (e::es) avs)(dH:dW (e::es)=N)(h:∀vs aD F,dz H s aD->bD aD.heap avs vs F->Q ⟨vs,[]⟩ aD):C A (xU f N (jH pos (iX (e::es) J)) []) s Q:=by show eX (wR dH) λh1 h2=>?_;have Jp:=he s pos r;rw[dp h1]at Jp ⊢;show ej (ahF Jp h)
end
noncomputable def uo(rs:List ab):AV:=gr (rs.map λr=>aX (R r))
def uI(rs:List ab)(cj:List (LN)):Sg:=rs.zip (cj.map kz)
structure Mx(cj:List (LN)):Prop where
 len:cj.length=13
 row:∀r∈cj,r.length=13/\∀x∈r,x<256
noncomputable def YZ(cj:List (LN))(i j v:Nat):List (LN):=cj.set i ((cj.getD i []).set j v)
theorem Mx.get(h:Mx cj)(hi:i<13):cj[i]? =O (cj.getD i [])/\(cj.getD i []).length=13/\lX (cj.getD i []):=by have hl:=h.len;have e:cj[i]? =O (cj.getD i []):=kx au;have hm:=cW e;show rN e ((h.row _ hm).1) ((h.row _ hm).2) (by rw[(h.row _ hm).1];decide)
theorem Mx.ahL(h:Mx cj){r:LN}(hr:r.length=13)(D:∀x∈r,x<256):Mx (cj.set i r):=⟨by simpa using h.len,λr' hr'=>by show bf (u6 hr') (λq=>h.row r' q) λq=>q▸⟨hr,D⟩⟩
theorem Mx.set(h:Mx cj)(hi:i<13)(j:Nat){v:Nat}(hv:v<256):Mx (YZ cj i j v):=hb (h.get hi) λ_ h2 h3=>(h.ahL (by simpa using h2) (h3.set j hv).1)
theorem pE{r:ab}{row:LN}(h1:rs[i]? =O r)(h2:cj[i]? =O row):(r,kz row)∈uI rs cj:=by
 show cW (i:=i) ?_
 delta uI
 rw[KQ];show⟨h1,by simp[h2]⟩
theorem acB(tQ:rs.Nodup){r:ab}(h1:rs[i]? =O r)(row:LN):∀y∈uI rs (cj.set i row),(y.1=r/\y.2=kz row)\/(y.1≠r/\y∈uI rs cj):=by
 intro y hy;show dG (sQ hy) λk hk=>?_;unfold uI at hk;rw[KQ]at hk;show eX hk λk1 k2=>?_;rw[cY]at k2;show bh (jb.mp k2) λab8 k3 k4=>?_;rcases yI (k=i) with e|e
 .subst e
  left
  show⟨(aV (h1.symm.trans k1)).symm,?_⟩;show dG (dR.mp k3) λl e=>?_;simp at e;rw[<-k4,<-e]
 .right
  have qE:y.1≠r:=λe2=>by
   subst e2;show dG (dR.mp k1) λl1 g1=>?_;show dG (dR.mp h1) λl2 g2=>?_;rcases UM k i with c|c|c
   .show absurd (g1.trans g2.symm) (EG.mp tQ k i l1 l2 c)
   .show e c
   .show absurd (g2.trans g1.symm) (EG.mp tQ i k l2 l1 c)
  show⟨qE,?_⟩;have k5:cj[k]? =O ab8:=by rwa [List.getElem?_set_ne (λq=>e q.symm)]at k3
  have:=pE k1 k5;rw[k4]at this;show this
theorem yV(tQ:rs.Nodup){r:ab}(h1:rs[i]? =O r)(row:LN){S0:Sg}(hd:∀y∈S0,y.1∉rs):∀y∈uI rs (cj.set i row)++S0,(y.1=r/\y.2=kz row)\/(y.1≠r/\y∈uI rs cj++S0):=λy hy=>by show bf (b9.mp hy) (λq=>bf (acB tQ h1 row y q) (λh=>ao h) λh=>aH ⟨h.1,dc _ h.2⟩) λq=>aH ⟨λe=>hd y q (by rw[e];show cW h1),ew _ q⟩
section
variable{Q:b8->ae->Prop}
theorem Np{a:aw}(B:cA U mg mb)(I:dQ mg mb)(kM:Gi L "len")(ha:V H U A L J G a (gr K) af)(dH:cG a=af)(hl:K.length<=1000):V H U A L J G (bI (ar (aC "len") np) [a] [] pos) (aT K.length) fr:=λs r=>by
 have hI:=I ("len",bx "len") aK;show l9<|(ez B r kM hI.1 hI.2 (rfl)).Dq<|yu ((fJ.cons ha fJ.nil dH s pos r).Q5 λvs aD F1 e1 V1=>?_) (dp dH _ _) Z;apply nF V1;intro v G1 V2;apply pR V2;intro a ws n _ a3 a4;have l1:=bD.length a4;show abn (⟨_,a3,rfl,n,rfl⟩) jP ?_;have:((ws.toArray.size:Nat):Int)=aj K.length:=by simp[l1]
 rw[this];show⟨e1.trans (.toks _ _),[],.ofInt _ _,d9⟩
theorem yW(k:Nat){a i:aw}{r:ab}(ha:V H U A L J G a (uo rs) af)(hi:V H U A L J G i (aT k) af)(hk:rs[k]? =O r)(hl:rs.length<=1000)(r8:j8 i=af):
 V H U A L J G (dk a i pos) (aX (R r)) fr:=by
 show wJ ha hi ?_ r8 (λ_=>rfl);have jz:=(dR.mp hk).1;show(?_:cond (dY k 1000000) _ eU=_);rw[eT au];simp[hk]
theorem mD(x:Nat){b:Bool}(E:cq G x=O (k,fG b)):oY H U A L J G (ar (NM x) pos) b:=λs r=>isTrue_plain<|(v9 r E).wpV λv F aO=>aO.toBool.symm▸l8 ⟨.refl _,rfl⟩
theorem Aa{c:aP}{wy:aY}(hs:fu (gn (LU c) k pos) ai wy.line J=pure af):S1 H U A L J (vh (gn (LU c) k pos) wy) G G ai:=λD s W r=>by show wpAny_Expr (Ee ?_) (by delta iG;rw[r.scope,r.kind];rfl) hs;have e:dz H s {s with toks:=s.toks+1}:=.toks _ _;show tO (e.smod W) (r.grow e.ext)
def Ϛ:bT:=cS 19
noncomputable def pP(n:Nat):Nat:=1 - n % 2
def PC(cj:List (LN)):Nat->List (LN)
 | 0=>cj
 |n+1=>YZ (YZ (PC cj n) (8+n) 0 (pP n)) 0 (8+n) (pP n)
theorem PD(h:Mx cj):∀n,n<=5->Mx (PC cj n):=by
 intro xX;induction xX with
 |zero=>intro _;show h
 |succ n iH=>
  intro hn;have D:pP n<256:=by delta pP;lia
  show((iH (rx hn)).set (AU hn) 0 D).set bA (8+n) D
def aks(rs:List ab)(bit:Nat):ie:=[(9,0,uo rs),(15,0,aT 0),(69,0,aT 13),(70,0,aX (R (rs.getD 0 0))),(19,0,aT bit)]
theorem PE{S0:Sg}(hh:dh A)(B:cA U mg mb)(I:dQ mg mb)(hl:rs.length=13)(tQ:rs.Nodup)(hm:Mx cj)(hd:∀y∈S0,y.1∉rs)(p:PS H U (bg Ϛ) J aJ bq bB (qF [9,68] [uo rs,fG N]) (uI rs cj++S0) s)(k:∀Y G',PS H U (bg Ϛ) J aJ bq bB G' (uI rs (PC cj 5)++S0) Y->Q cJ Y):C A (aU (bo Ϛ) J) s Q:=by
 have hr:∀i,i<13->rs[i]? =O (rs.getD i 0):=λi hi=>kx au;show p.s1 (S1.m (Aa Z)) λs1 p1=>(p1.s1 (S1.m (WO (x:=15) (y:=69) (p:=(0,13)) hh (wI N (mD 68 Z) (λ_=>?_) (λq=>nnT q)) (by decide+kernel) (λz hz=>by simp at hz;rcases hz with rfl|rfl<;>rfl) Z Z)) λs2 p2=>?_)
 .show ui B.top (fJ.cons V.int (fJ.cons ?_ fJ.nil Z) Z) Z Z;show V.to (Np B I Z (aq 9 Z) Z jP) (by simp[hl,aT])
 show p2.s1 (S1.m (bE 70 (aX (R (rs.getD 0 0))) (yW 0 (aq 9 Z) (aq 15 Z) (hr 0 bA) au Z) Z Z (ao Z) Z)) λs3 p3=>p3.s1 (S1.m (bE 19 (aT 1) (aR 1) Z Z (ao Z) Z)) λs4 p4=>yT 14 (Dt 8 1 5) (λi (_:Unit)=>aks rs (pP i)) (λi _=>uI rs (PC cj i)++S0) () p4 (zT (k:=8) (m:=13) hh (p4.base B) I Z V.int Z (aq 69 Z) Z aK aK aK aK)
  (km.rf bz bz) (λy hy=>hy) (ao Z) (λ_ _ _=>rfl) (λi n z t W hn q=>?_) (λ_=>rfl) (λs5 _ p5=>eZ (k s5 _ p5))
 show eX (o4.mp hn) λhi hn=>?_;have wx:(n:Int)=aj (8+i):=by rw[hn];simp
 subst wx;have hmi:=PD hm i au;have D:pP i<256:=by delta pP;lia
 show hb (hmi.get (i:=8+i) au) λm1 m2 m3=>hb ((hmi.set (i:=8+i) au 0 D).get (i:=0) bA) λn1 n2 n3=>xe (rs.getD (8+i) 0) 0 (pP i) q (aq 19 Z) (yW (8+i) (aq 9 Z) (aq 14 Z) (hr _ au) au Z) (aq 15 Z)
  (dc _ (pE (hr _ au) m1)) m3 (Nat.lt_of_sub_eq_succ m2) D Z (yV tQ (hr _ au) _ hd) λt1 q1=>xe (rs.getD 0 0) (8+i) (pP i) q1 (aq 19 Z) (aq 70 Z) (aq 14 Z)
  (dc _ (pE (hr _ bA) n1)) n3 au D Z (yV tQ (hr _ bA) _ hd) λt2 q2=>q2.s1 (S1.m (CJ (k:=0) 19 (aj (pP i)) 1 (aj (pP (i+1))) .xor Z V.int ?_ (aH (aH Z)) Z (ao Z))) λt3 q3=>?_
 .rcases EX i with e|e
  .have e1:pP i=1:=by delta pP;lia
   have e2:pP (i+1)=0:=by delta pP;lia
   rw[e1,e2];rfl
  .have e1:pP i=0:=ml (Nat.eq_sub_of_add_eq' e);have e2:pP (i+1)=1:=by delta pP;lia
   rw[e1,e2];rfl
 show eZ ⟨rfl,(),q3.less (km.rf bz bz)⟩
end
open PySem.W
theorem uJ{t:aE α}{r:α}{Q:α->ae->Prop}(x:LO (aG prog w) s.heap t r)(q:Q r s):C A t s Q:=T.wc (x.here q)
theorem acC{rest:List aa}{init:aa}(gh:PySem.W.Makes (aG prog w) s.heap aS)(hi:LO (aG prog w) s.heap (gV (R aS) "__init__") (O init))(D:∀self,LO (aG prog w) s.heap (bindSpecial init self) (init,[self]))(qE:(O init != O (bx "object.__init__"))=N)(hq:CC (A.under (fM "type.__call__" ⟨R aS::rest,[]⟩)) (mZ init ⟨R (s.heap.objs.size+1)::rest,[]⟩) {s with heap:=(s.heap.push te).push (Fi aS s.heap.objs.size)}
 (λr Y=>r=cf (cL aA)/\Q (R (s.heap.objs.size+1)) Y)):C A (call (R aS) rest []) s Q:=by
 show og λgG kG=>?_;obtain⟨⟨oc,od,cd,sl,hC,e1,e2,e4⟩,made,base,self,top,ϛ,typ⟩:=id gh;show kG ?_;clear kG gG;show C.call (jm Z ?_);change C _ (callAny (R aS) ⟨rest,[]⟩) s _;show C.bind (Lake.T.wc (iW hC ?_));show C.bind (uJ ϛ ?_);dsimp only;show C.bind (C.pure (C.bind (C.pure ?_)));show C.pure (a:=yG (mZ (bx "type.__call__") ⟨R aS::rest,[]⟩)) (FP Z (jm Z ?_));show C.bind (Lake.T.wc (U9 tc_kind tc_split typ (Vb _ _ _) (C.pure ⟨A4 _ bz,jR entry_typeCall Z ?_⟩)));unfold Builtin.«type.__call__»;dsimp only;show C.bind (uJ (((abo (part:=ai) hC).andThen vm).andThen vm) ?_);rw[if_neg (by rw[e4];decide)];show C.bind (uJ made ?_);show C.bind (C.pure ?_);have k:∀b o,s.heap.get? b=O o->((s.heap.push te).push (Fi aS s.heap.objs.size)).get? b=O o:=λb o e=>a8 _ (a8 _ e);show C.bind (C.holding (Lake.T.wz (P:=λ(v:aa) s1=>v=R (s.heap.objs.size+1)/\s1={s with heap:=(s.heap.push te).push (Fi aS s.heap.objs.size)}) ?_ λv s1 qQ=>eX qQ λev es=>?_))
 .obtain ⟨hp,g,d,tk,os⟩:=s;show kT (new_K gh hi (ao qE) ⟨rfl,rfl⟩)
 subst ev es;have t1:gO (aG prog w) ((s.heap.push te).push (Fi aS s.heap.objs.size)) (xZ (R (s.heap.objs.size+1))) (R aS):=(Fo (by heap_get)).andThen vm;show C.bind (uJ (r:=N) (t1.andThen (self.keeps k)) ?_);show ee aK (C.bind (C.holding ?_));show C.bind (uJ (t1.andThen (hi.keeps k)) ?_);show C.holding (C.bind (uJ ((D _).keeps k) ?_));show C.bind (C.call (CC.mono hq λr Y qQ=>eX qQ λer hQ=>?_));subst er;show C.pure (C.pure hQ)
theorem Hm{bp:mq}(e:bp.lookup a=O o):a∈bp.map (·.1):=by
 induction bp with
 |nil=>ext
 |cons p r ih=>
  obtain⟨b,x⟩:=p;dsimp only[AO]at e;show boC (a==b) (λh=>?_) λh=>?_
  .have:a=b:=by simpa using h
   show this▸AK Z
  .have e:=h▸e;show bZ _ (ih e)
theorem PF(P:bS)(t:Nat->aW)(f:Nat->bQ):∀a o,(iC P t f).lookup a=O o->a∉bY:=by intro a o e;show(by decide:∀x∈([2002,2001,2003,1956,1963,1977,1984,1991,1998]:List ab),x∉bY) a (Hm e)
theorem jn(X:(iC P t f).In h)(x:hx H h h'):(iC P t f).In h':=λa o e=>x.keep a o (PF P t f a o e) (X a o e)
theorem Ϝ:makesIn (iC P t f) 2002=N:=by ext
theorem acD:iK (iC P t f) (R 2002) "__init__" =O (O (R 1956)):=by ext
theorem ϝ:qu (iC P t f) (R 1956)=O (ak "function"):=by ext
theorem afA:iK (iC P t f) (R 2002) "__len__" =O (O (R 1991)):=by ext
theorem acE:qu (iC P t f) (R 1991)=O (ak "function"):=by ext
theorem Xj:iK (iC P t f) (R 2002) "__getitem__" =O (O (R 1998)):=by ext
theorem Ϟ:qu (iC P t f) (R 1998)=O (ak "function"):=by ext
theorem B9(n:aP):plainGet (iC P t f) 2002 n=N:=by ext
theorem acF:iK (iC P t f) (R 2002) "_data" =O (O (R 2003)):=by ext
theorem ϟ:yw (iC P t f) (R 2003) "__get__" =O (O (bx "member_descriptor.__get__")):=by ext
theorem Ϡ:Bb (iC P t f) (R 2003)=O N:=by ext
theorem Xk:slotIn (iC P t f) 2003 2002=O 0:=by ext
theorem afB:(clsIn (iC P t f) 2002).isSome=N:=by ext
theorem RU:iK (iC P t f) (R 2002) "__setattr__" =O (O (bx "object.__setattr__")):=by ext
theorem acG:plainOver (iC P t f) 2002=N:=by ext
theorem ϡ:takerIn (iC P t f) 2002 "_data" =O (O (R 2003)):=by ext
theorem Y0:qu (iC P t f) (R 2003)=O (ak "member_descriptor"):=by ext
theorem afC:iK (iC P t f) (R 2002) "extend" =O (O (R 1963)):=by ext
theorem acH:qu (iC P t f) (R 1963)=O (ak "function"):=by ext
theorem acI:iK (iC P t f) (R 2002) "getbits" =O (O (R 1977)):=by ext
theorem Ϣ:qu (iC P t f) (R 1977)=O (ak "function"):=by ext
theorem acJ:iK (iC P t f) (R 2002) "toints" =O (O (R 1984)):=by ext
theorem ϣ:qu (iC P t f) (R 1984)=O (ak "function"):=by ext
section
open PySem.W Builtin Builtin.ObjectAttr Builtin.Getset_descriptor
noncomputable def qR(dx d:ab):bj:={cls:=R 2002,dict:=O dx,data:=sZ,slots:=#[O (R d)]}
section
variable{b:ab}
theorem xf(D:s.heap.get? b=O (qR dx d))(hd:s.heap.get? dx=O iz):InstAt s.heap b (qR dx d) 2002 (O iz):=⟨D,rfl,rfl,hd⟩
theorem PG{Ϥ:Bool}(X:(iC P t f).In s.heap)(D:s.heap.get? b=O (qR dx d))(hd:s.heap.get? dx=O iz)(h:Q (R d) {s with toks:=s.toks+1}):
 ax (aG prog w) A (getAttr (R b) "_data" Ϥ) Q a6 s:=
 get_bind X (xf D hd) (Ba (B9 "_data")).1 (findObj_data afB acF ϟ Ϡ) (Ba (B9 "_data")).2
  (kT (slot_get X (xf D hd) Xk Z (handed_on Z h)))
theorem Hn(D:s.heap.get? b=O (vk 2002 dx))(hd:s.heap.get? dx=O iz):InstAt s.heap b (vk 2002 dx) 2002 (O iz):=⟨D,rfl,rfl,hd⟩
theorem ϥ{bp:mq}{x p:ab}{ox:bj}{od:Option bj}(X:bp.In s.heap)(I:InstAt s.heap x ox aS od)(hp:slotIn bp p aS=O i)(hi:i<1000)(h:aM (cf (cL aA)) {s with heap:=s.heap.update x λo=>{o with slots:=(o.slots++Vq (i+1 - o.slots.size) ai).setIfInBounds i (O v)}}):
 oB (aG prog w) A (mZ (bx "member_descriptor.__set__") ⟨[R p,R x,v],[]⟩) aM s:=by
 show jh (slot_of X hp) λn tn i=>jh i λowner behind i=>fO i λtb d sl cd ho hc hm D dX=>?_;obtain⟨hh,g,dr,t,os⟩:=s;subst dX;have L0:=I.type (M:=aG prog w);have L1:=LQ (M:=aG prog w) X hm;have L2:gO (aG prog w) hh (Slots.slotNamesOf (R aS)) cd.slotNames:=(looks_clsIn X hc).andThen vm;have E:=I.at_;dsimp only at ho E L0 L1;have f0:=Fj (M:=aG prog w) ho 0 (v:=cI n tn) Z;have f1:=Fj (M:=aG prog w) ho 1 (v:=owner) Z;have f3:=Fj (M:=aG prog w) ho 3 (v:=bx "proto.slot#set") Z;have f4:=Fj (M:=aG prog w) ho 4 (v:=ah behind tb) Z;show xE Mt.plain KF.entry_mset (Mt.check _ _ _ _ _ _ _ _ (ct _ ho Z) (KF.args_mset _ _ _) ?_);have f5:gO (aG prog w) hh (descrItself (R p)) [R p]:=((Fo ho).andThen vm).andThen (LY (rfl));repeat lk
 show⟨A4 _ bz,qd KF.entry_slotset ?_⟩;repeat lk
 show(if_neg D).symm▸aB (ag ?_)
 delta setSlotAt
 dsimp only;rw[if_neg (by rw[jW];lia)];show wpAny_updatePart E (aB h)
theorem PH{Q:Unit->ae->Prop}(X:(iC P t f).In s.heap)(D:s.heap.get? b=O (vk 2002 dx))(hd:s.heap.get? dx=O iz)(h:∀Y,Tn [b] s Y->Y.heap.get? b=O (qR dx d)->Q () Y):ax (aG prog w) A (setAttr (R b) "_data" (R d)) Q a6 s:=by
 show set_plain X (Hn D hd) RU (osa_descr Mt X (Hn D hd) acG ϡ Y0 (ϥ X (Hn D hd) Xk bA (h _ ?_ ?_)))
 .have e:(s.heap.update b λo=>{o with slots:=(o.slots++Vq (0+1 - o.slots.size) ai).setIfInBounds 0 (O (R d))}).get? b=O (qR dx d):=gN _ D Z;show(Tn.toks [b] s _).trans (Tn.same (j5 ..) au ⟨_,e⟩) λ_ h=>ao h
 .show gN _ D Z
theorem Ho{fa:ab}{Q:Option aa->ae->Prop}(X:(iC P t f).In s.heap)(D:s.heap.get? b=O (qR dx d))(hd:s.heap.get? dx=O iz)(h1:iK (iC P t f) (R 2002) name=O (O (R fa)))(h2:qu (iC P t f) (R fa)=O (ak "function"))(h:ax (aG prog w) A (call (R fa) (R b::args)) (λv=>Q (O v)) a6 s):ax (aG prog w) A (xO (R b) name args) Q a6 s:=
 special_fn X (xf D hd) h1 h2 h
end
end
structure qS(U:aN)(a:ab)(fd:bQ)(st:bT):Prop where
 at_:FnAt U a fd
 body:fd.body=lh (bo st)
 scope:fd.scope=bg st
 params:fd.params=fo st
 glob:fd.globals=ef
 bi:fd.builtins=fY
 clo:fd.closure=[]
 kwd:fd.kwdefaults=aA
theorem qS.ext(f:qS U a fd st)(x:hx H U h):qS h a fd st:=⟨f.at_.ext x,f.body,f.scope,f.params,f.glob,f.bi,f.clo,f.kwd⟩
section
variable{b:ab}
theorem Xl{us:List aa}{K:LN}(B:cA U mg mb)(x1:hx H U s.heap)(bM:A.depth<1000)(dA:qS U a fd st)(Dx:(bg st).isCoroutine=af)(zg:(bg st).isGenerator=af)(hk:(bg st).kind=d0)(sd:T A.in1 (du fd ⟨vs,[]⟩) s (λbs Y=>Y=s/\bs=(K.map NM).zip us))(aO:bD s.heap avs us F)(tQ:K.Nodup)(dM:K.length=us.length)(E:∀x∈K,Hx (bg st) x)(hss:∀fV,pL H τ' s.heap (A.deeper fV) (bg st) fV (bo st) (qF K avs) G' (O av)):
 T A (call (R a) vs) s (λv Y=>dz τ' s Y/\∃F,bR Y.heap av v F):=by
 have N':=dA.ext x1;have B':=B.ext x1;show bh N'.at_.obj λo ho hd=>kT<|J3 (by assumption) ho hd (N'.scope▸Dx) (N'.scope▸zg) N'.body (N'.at_.ab9 (H:=H) (.refl _))<|sd.Dq<|N'.clo.symm▸Tt (N'.scope▸hk) (λx hxm=>?_) λJ he aQ ic=>?_
 .obtain ⟨n,v⟩:=x;show bh (bG.mp ((sS hxm).1)) λy hy dX=>dX▸N'.scope.symm▸?_;rcases E y hy with q|q
  .show ao q
  .show aH ⟨q,kq _ _ _ _ (ao (mG q))⟩
 .subst he;have fr0:=FR.start (H:=H) B'.top (.refl _) aO (N'.scope▸hk) N'.glob N'.bi tQ dM (N'.scope▸E) ic;show eQ ic.done λhh tk e2 _=>?_;replace fr0:=N'.scope▸fr0;show⟨B'.lim.keeps ic.toInCall.keep,Kn ?_⟩;show(hss _ fr0).wp λfl de oj=>yK oj λm3 x3 v F3 hf3 V3=>hf3▸?_;have Rn:aQ.os=s.os/\aQ.drawn=s.drawn/\aQ.gens=s.gens:=by show e2▸?_;show gQ Z Z Z
  show⟨⟨x3,m3.os.trans Rn.1,m3.drawn.trans Rn.2.1,m3.gens.trans Rn.2.2⟩,F3,V3⟩
theorem RV(K:LN)(avs:List AV)(av:AV)(F:List ab)(B:cA U mg mb)(x1:hx H U s.heap)(bM:A.depth<1000)(dA:qS U a fd st)(Dx:(bg st).isCoroutine=af)(zg:(bg st).isGenerator=af)(hk:(bg st).kind=d0)(sd:du fd ⟨vs,[]⟩=pure ((K.map NM).zip vs))(aO:bD s.heap avs vs F)(tQ:K.Nodup)(dM:K.length=vs.length)(E:∀x∈K,Hx (bg st) x)(hss:∀fV,pL H τ' s.heap (A.deeper fV) (bg st) fV (bo st) (qF K avs) G' (O av)):
 T A (call (R a) vs) s (λv Y=>dz τ' s Y/\∃F,bR Y.heap av v F):=
 Xl B x1 bM dA Dx zg hk (sd▸aB ⟨rfl,rfl⟩) aO tQ dM E hss
protected theorem V.data(X:(iC P t f).In U)(Rr:U.get? b=O (qR dx d))(hdo:U.get? dx=O iz)(tb:b∉bY)(td:dx∉bY)(E:cq G x=O (k,aX (R b))):
 V H U A L J G (iI (ar (NM x) np) (aC "_data") pos) (aX (R d)) fr:=λs r=>Ff<|T.Dq (uh r E)<|PG (jn X r.base) (r.base.keep _ _ tb Rr) (r.base.keep _ _ td hdo) (oX [] (.toks _ _) (.iq _) d9)
end
structure pQ(U:aN)(P:bS)(t:Nat->aW)(f:Nat->bQ):Prop where
 pF:(iC P t f).In U
 acK:qS U 1991 (f 4) (vC 7)
 itemF:qS U 1998 (f 5) (vC 8)
 Ϧ:qS U 1963 (f 1) (vC 3)
 dJ:qS U 1977 (f 2) (vC 5)
 afD:(f 4).defaults=aA
 ϧ:(f 5).defaults=aA
 afE:(f 1).defaults=aA
 Ϩ:(f 2).defaults=aA
structure wq(h:aN)(b dx d:ab)(ns:LN):Prop where
 obj:h.get? b=O (qR dx d)
 Xm:h.get? dx=O iz
 dat:h.get? d=O (kz ns)
 t1:b∉bY
 t2:dx∉bY
 t3:d∉bY
 ok:lX ns
section
variable{b:ab}
theorem pQ.ext(x:hx H U h)(B:pQ U P t f):pQ h P t f:=⟨jn B.pF x,B.acK.ext x,B.itemF.ext x,B.Ϧ.ext x,B.dJ.ext x,B.afD,B.ϧ,B.afE,B.Ϩ⟩
theorem wq.ext(x:hx H h h')(B:wq h b dx d ns):wq h' b dx d ns:=⟨x.keep _ _ B.t1 B.obj,x.keep _ _ B.t2 B.Xm,x.keep _ _ B.t3 B.dat,B.t1,B.t2,B.t3,B.ok⟩
theorem ahM(hp:fd.params=fo (vC 7))(hd:fd.defaults=aA)(v:aa):du fd ⟨[v],[]⟩=pure (([110].map NM).zip [v]):=by
 delta du
 show hp.symm▸hd.symm▸?_;rfl
theorem ahN(hp:fd.params=fo (vC 8))(hd:fd.defaults=aA)(v u:aa):du fd ⟨[v,u],[]⟩=pure (([110,112].map NM).zip [v,u]):=by
 delta du
 show hp.symm▸hd.symm▸?_;rfl
theorem ϩ(B:cA U mg mb)(I:dQ mg mb)(gz:pQ U P t f)(x1:hx H U s.heap)(bM:A.depth<1000)(hB:wq s.heap b dx d ns):
 T A (call (R 1991) [R b]) s (λv Y=>dz H s Y/\∃tk,v=ah (aj ns.length) tk):=by
 show(RV (G':=[]) [110] [aX (R b)] (aT ns.length) [] B x1 bM gz.acK Z Z Z (ahM gz.acK.params gz.afD _) ?_ aK Z aK λfV=>?_).wp3 λv Y F e aO=>⟨e,aO.toInt⟩
 .show eg [] [] (.iq _) .nil
 show SS.m<|tP<|S1.ret<|uH (B.ext x1) I Z hB.dat hB.t3 hB.ok (V.data (x:=110) (jn gz.pF x1) hB.obj hB.Xm hB.t1 hB.t2 Z) Z
theorem Y1{tk:aW}(B:cA U mg mb)(gz:pQ U P t f)(x1:hx H U s.heap)(bM:A.depth<1000)(hB:wq s.heap b dx d ns)(hk:ns[k]? =O x):
 T A (call (R 1998) [R b,ah (aj k) tk]) s (λv Y=>dz H s Y/\∃tk,v=ah (aj x) tk):=by
 show(RV (G':=[]) [110,112] [aX (R b),aT k] (aT x) [] B x1 bM gz.itemF Z Z Z (ahN gz.itemF.params gz.ϧ _ _) ?_ aK Z aK λfV=>?_).wp3 λv Y F e aO=>⟨e,aO.toInt⟩
 .show eg [] [] (.iq _) (eg [] [] (.ofInt _ _) .nil)
 show SS.m<|tP<|S1.ret<|B7 hB.dat hB.t3 hB.ok (V.data (x:=110) (jn gz.pF x1) hB.obj hB.Xm hB.t1 hB.t2 Z) (aq 112 Z) hk Z
theorem JB(B:cA U mg mb)(I:dQ mg mb)(gz:pQ U P t f)(bM:A.depth<1000)(hB:wq U b dx d ns)(kM:Gi L "len")(he:V H U A L J G e (aX (R b)) af)(dH:cG e=af):V H U A L J G (bI (ar (aC "len") np) [e] [] pos) (aT ns.length) fr:=λs r=>by have hI:=I ("len",bx "len") aK;show l9<|(ez B r kM hI.1 hI.2 (rfl)).Dq<|yu ((fJ.cons he fJ.nil dH s pos r).Q5 λvs aD F1 e1 V1=>?_) (dp dH _ _) Z;apply vB V1;have x1:=r.base.trans e1.ext;have hl:=hB.ok.2;have hB1:=hB.ext x1;show Calls.call_function_entry kind_len plain_len entry_len (args_len1 _)<|ag (m:=oneArg "len" _)<|aB<|ag (Ho (jn gz.pF x1) hB1.obj hB1.Xm afA acE ((ϩ (A:=A.in1) B I gz x1 bM hB1).wp3 λv s2 tk e2 hv=>?_));subst hv;show ag<|cO<|aB<|ag<|uW<|(?_:ax _ _ (if aj ns.length>=2 ^ 63 then _ else _) _ _ _);rw[if_neg au];show ag (Ks (aB ⟨_,rfl,(e1.trans e2).trans (.toks _ _),[],.ofInt _ _,d9⟩))
end
section
variable{b:ab}
theorem RW{value slice:aw}{i:aa}(X:(iC P t f).In s.heap)(hB:wq s.heap b dx d ns)(h:ax (aG prog w) A.in1 (call (R 1998) [R b,i]) Q a6 s)(r8:Ep slice N (R b) i=runValue (fM "lifetime.subscript" ⟨[R b,i],[]⟩)):ax (aG prog w) A (subscriptTail value slice (R b) i) Q a6 s:=by have I:=xf hB.obj hB.Xm;show ag<|ag<|ag<|I.type.here<|(A9 X Xj).here<|ag<|iW (X 1998 _ Z)<|aB<|r8.symm▸ag (Kg (qd entry_sub ?_));show ag (special_fn X I Xj Ϟ (gU h (λv Y z=>?_) λ_ _ z=>z));show aB (ag (wpAny_letTemporaryGo (aB z)))
theorem acL{slice:aw}(h:j8 slice=af)(o i:aa):Ep slice N o i=runValue (fM "lifetime.subscript" ⟨[o,i],[]⟩):=by cases slice<;>first|rfl|(ext)
theorem Y2{i:aw}(B:cA U mg mb)(gz:pQ U P t f)(bM:A.depth<1000)(hB:wq U b dx d ns)(he:V H U A L J G e (aX (R b)) af)(hi:V H U A L J G i (aT k) af)(hk:ns[k]? =O x)(r8:j8 i=af):V H U A L J G (dk e i pos) (aT x) fr:=λs r=>by show rF<|(he r).κ λaD e1=>(hi (r.ext e1.ext)).CE λtk aQ e2=>have Jn:=e1.trans e2;have x1:=r.base.trans Jn.ext;RW (jn gz.pF x1) (hB.ext x1) ((Y1 (A:=A.in1) B gz x1 bM (hB.ext x1) hk).wp3 λv s3 tk3 e3 hv=>?_) (acL r8 _ _);subst hv;show oX [] (Jn.trans e3) (.ofInt _ _) d9
end
section
open PySem.W PySem.SeqAt
theorem nQ(e:h.get? a=O (cU vs n)):h.IsTuple a vs.toArray:=⟨_,e,rfl,n,rfl⟩
noncomputable def eqV(x:Int):aa->Bool
 |ah i _=>i==x
 |_=>af
theorem Xn{x:Int}:∀{vs:List aa} {ms:List Int},fh vs ms->vs.toArray.any (eqV x)=ms.any (· ==x):=by
 intro vs ms h;rw[List.any_toArray];induction h with
 |nil=>rfl
 |cons n t r ih=>simp[eqV,ih]
theorem JC{x:Int}{u:aW}{ms:List Int}(h:fh vs ms):∀y,y∈vs.toArray->EqAt A s y (ah x u) (eqV x y):=by
 intro y hy;have hy:y∈vs:=by simpa using hy
 induction h with
 |nil=>show kI hy
 |cons n t r ih=>show bf (bu.mp hy) (λe=>e▸EqAt.int_int n t x u) λe=>ih (by simpa using e) e
theorem RX{a c:aw}{x:Int}{ms:List Int}(ha:V H U A L J G a (a9 x) af)(hc:V H U A L J G c (gr ys) af)(h2:je ys=O ms)(hm:Em Bm c=af):
 oY H U A L J G (jZ a [Bm] [c] pos) (!(ms.any (· ==x))):=λs r=>by
 show uP ((ha r).CE λt aD e1=>(hc (r.ext e1.ext)).tM λu aQ F2 e2 V2 _=>?_) hm;apply pR V2;intro b ws m _ b3 b4;have IA:=intsAre_of b4 h2;show notIn_tupleAt (eqV x) (nQ b3) (JC IA)<|(Xn IA).symm▸l8 ⟨e1.trans e2,rfl⟩
theorem Xp{a c:aw}{x:Int}{ms:List Int}(ha:V H U A L J G a (a9 x) af)(hc:V H U A L J G c (gr ys) af)(h2:je ys=O ms)(hm:Em FN c=af):
 oY H U A L J G (jZ a [FN] [c] pos) (ms.any (· ==x)):=λs r=>by
 show uP ((ha r).CE λt aD e1=>(hc (r.ext e1.ext)).tM λu aQ F2 e2 V2 _=>?_) hm;apply pR V2;intro b ws m _ b3 b4;have IA:=intsAre_of b4 h2;show in_tupleAt (eqV x) (nQ b3) (JC IA)<|(Xn IA).symm▸l8 ⟨e1.trans e2,rfl⟩
theorem qL{x:aP}{i:Int}{tk:aW}(B:cA U mg mb)(E:L.names.lookup x=O kV)(hv:mg x=O (ah i tk))(hd:(x==("__debug__" :aP))=af):V H U A L J G (ar x pos) (a9 i) fr:=λs r=>
 T.Dq (rZ B r E hv hd) (oX [] (.refl _) (.ofInt _ _) d9)
theorem Ca{x:aP}(B:cA U mg mb)(E:L.names.lookup x=O kV)(hv:mg x=O v)(hd:(x==("__debug__" :aP))=af):V H U A L J G (ar x pos) (aX v) fr:=λs r=>
 T.Dq (rZ B r E hv hd) (oX [] (.refl _) (.iq _) d9)
end
noncomputable def mI(k:Nat)(t u v:aW):bj:={cls:=ak "range",data:=bH #[ah 0 t,ah (aj k) u,ah 1 v]}
section
variable{Q:b8->ae->Prop}
theorem PS.acM(p:PS H U L J aJ bq bB G S s)(B:cA U mg mb):aJ.heap.get? s.heap.objs.size=ai/\U.get? s.heap.objs.size=ai/\s.heap.objs.size∉bY:=
 ⟨p.mod.mod.new (bF _),p.ext.new (bF _),fi (jy B.top p.ext)⟩
theorem PS.sf(p:PS H U L J aJ bq bB G S s)(B:cA U mg mb){tk:Nat}(hs:Hl o=N)(ho:o.isFreed=af):
 PS H U L J aJ bq bB G ((s.heap.objs.size,o)::S) {s with heap:=s.heap.push o,toks:=tk}:=by
 show hb (p.acM B) λn1 n2 n3=>have p1:PS H U L J aJ bq bB G S {s with heap:=s.heap.push o,toks:=tk}:=p.grow ⟨.push _ _,rfl,rfl,eV _⟩;gC p.fr λW r q1 q2=>?_;have hnW:s.heap.objs.size∉W:=λq=>oT (r.ji _ q) λ_ _ o' e _=>(absurd (cn e) (gw _));show⟨⟨W,r.grow (.push _ _),q1,λx E=>by
  rcases bu.mp E with e|e
  .subst e;show hnW
  .show q2 x e⟩,λx E=>by
  show bf (bu.mp E) (λe=>e▸rN (bK _ ho) n3 hs n2) λe=>p1.sg x e,p1.mod,λx E=>by
  rcases bu.mp E with e|e
  .subst e;show aH n1
  .show p1.lC x e⟩
theorem xh(x k:Nat){q cp:aY}(p:PS H U L J aJ bq bB G S s)(B:cA U mg mb)(I:dQ mg mb)(kM:Gi L "range")(he:V H s.heap A L J G e (aT k) af)(dH:cG e=af)(hso:bW G x=N)(E:Hx L x)(hs:fu (bI (ar (aC "range") np) [e] [] cp) (O (ar (NM x) q)) pos.line J=pure af)(kk:∀rr t u v Y,PS H U L J aJ bq bB (jl G x 0 (aX (R rr))) ((rr,mI k t u v)::S) Y->C A (aU rest J) Y Q):
 C A (aU (fE [ar (NM x) q] (bI (ar (aC "range") np) [e] [] cp) pos::rest) J) s Q:=by
 show yU (τ':=H) (U:=U) (aJ:=aJ) (bq:=bq) (bB:=bB) hso E hs<|T.wc<|mB ("range") ("range") (p.base B) I aK kM (rfl) (fJ.cons he fJ.nil dH) (by simp[dW,dH]) p.er λvs aD F e1 V1=>?_;apply nH V1;show λt=>sG (DV _ (aX (R aD.heap.objs.size)) [] ((p.grow e1).sf (o:=mI k aD.toks t (aD.toks+1)) (tk:=aD.toks+1+1) B Z Z) (.iq _) Z (λY p'=>kk _ _ _ _ Y p'))
theorem Ab(x k:Nat){rr:ab}{t u v:aW}(hh:dh A)(B:Tp U)(ho:U.get? rr=O (mI n t u v))(ht:rr∉bY)(E:cq G x=O (k,aX (R rr)))(hn:n<=1000):
 zv H U A L J G (ar (NM x) pos) (Dt 0 1 n):=λs r=>by
 show(v9 r E).mono λv aD oj=>MA oj λe1 F aO=>e1.symm▸?_;apply bR.Gg aO;show qw hh B r.base (.refl _) (r.base.keep rr _ ht ho) ?_ ?_
 .have:aj n=(n:Int):=rfl;show uX aK aK fF au
 .rw [uU];split<;>lia
end
section
variable{Q:b8->ae->Prop}
theorem Ac(x:Nat)(ns:LN){σ:Type}(f:σ->Nat->σ)(Gf:σ->ie)(Sf:σ->Sg)(Inv:σ->Prop)(RY:σ)(p:PS H U L J aJ bq bB G S s)(uk:zv H s.heap A L J G iter (ns.map aj))(h0:km (Gf RY) G)(Z8:∀y∈Sf RY,y∈S)(hi0:Inv RY)(akt:∀n st,n∈ns->Inv st->Inv (f st n))(E:Hx L x)(dH:∀st,bW (Gf st) x=N)(step:∀n st aD W,n∈ns->Inv st->PS H U L J aD W ((Sf st).map (·.1)) (jl (Gf st) x 0 (aT n)) (Sf st) aD->
 C A (aU body J) aD (λfl aQ=>fl=cJ/\PS H U L J aD W ((Sf st).map (·.1)) (Gf (f st n)) (Sf (f st n)) aQ))(hs:Fs iter J)(k:∀Y,Inv (ns.foldl f RY)->PS H U L J aJ bq bB (Gf (ns.foldl f RY)) (Sf (ns.foldl f RY)) Y->C A (aU rest J) Y Q):
 C A (aU (kZ (ar (NM x) px) iter body [] pos::rest) J) s Q:=by
 have hI:∀i,Inv ((ns.take i).foldl f RY):=λi=>by
  induction i with
  |zero=>show hi0
  |succ i ih=>show O' (ns[i]?) (λe=>by rw[EO,e];simpa using ih) λn e=>by rw[A8 f RY e];show akt n _ (cW e) ih
 show yT _ _ (λi _=>Gf ((ns.take i).foldl f RY)) (λi _=>Sf ((ns.take i).foldl f RY)) () p uk h0 Z8 E (λi z _=>dH _) (λi n z aD W hn q=>?_) hs (λY z p'=>?_)
 .replace hn:=cY▸hn;show O' (ns[i]?) (λe=>?_) λm e=>?_
  .have hn:=e▸hn;ext
  .rw [e]at hn;obtain rfl:=aV hn;show(step m _ aD W (cW e) (hI i) q).mono λfl aQ qQ=>eX qQ λa b=>⟨a,(),?_⟩;rw[A8 f RY e];show b
 .rw [(by simp:(ns.map aj).length=ns.length),sR]at p';show k Y (by have:=hI ns.length;rwa [sR]at this) p'
end
def pG:bT:=cS 20
noncomputable def tY:bT->List bT
 |kZ _ _ b _ _=>b
 |_=>[]
def afF:List bT:=tY (bc (tY (bc (tY (bc (bo pG) 7)) 1)) 0)
noncomputable def JD(right v:Nat):Nat:=cond (fD (right % 4) 0) (12 - v) v
def RZ(ns:LN)(right v:Nat)(st:List (LN)×Nat)(z:Nat):List (LN)×Nat:=
 cond (fD ((st.1.getD (JD right v) []).getD (right - z) 0) 2 && jK st.2 ns.length) (YZ st.1 (JD right v) (right - z) (ns.getD st.2 0),st.2+1) st
def cwV(ns:LN)(right:Nat)(st:List (LN)×Nat)(v:Nat):List (LN)×Nat:=(aI 2).foldl (RZ ns right v) st
def cwR(ns:LN)(st:List (LN)×Nat)(right:Nat):List (LN)×Nat:=(aI 13).foldl (cwV ns right) st
def I5(ns:LN)(cj:List (LN)):List (LN)×Nat:=[12,10,8,6,4,2].foldl (cwR ns) (cj,0)
theorem JE{σ:Type}{f:σ->Nat->σ}{Inv:σ->Prop}{st:σ}(hs:∀n st,n∈ns->Inv st->Inv (f st n))(h:Inv st):Inv (ns.foldl f st):=List.foldlRecOn ns f h λb D a ha=>hs a b ha D
theorem Xq(hn:lX ns){right v:Nat}(hv:v<13){st:List (LN)×Nat}(h:Mx st.1)(z:Nat):Mx (RZ ns right v st z).1:=by
 delta RZ
 cases e:(fD ((st.1.getD (JD right v) []).getD (right - z) 0) 2 && jK st.2 ns.length) with
 |false=>show h
 |true=>
  have h2:st.2<ns.length:=by have:=(fL.mp e).2;show dO this
  show h.set (by delta JD;cases fD (right % 4) 0<;>simp<;>lia) _ (hn.1 _ (by rw[da,dE h2];show KZ h2))
theorem Ϫ(hn:lX ns){right v:Nat}(hv:v<13){st:List (LN)×Nat}(h:Mx st.1):Mx (cwV ns right st v).1:=
 JE (Inv:=λ(st:List (LN)×Nat)=>Mx st.1) (λz st _ h=>Xq hn hv h z) h
theorem afG(hn:lX ns){right:Nat}{st:List (LN)×Nat}(h:Mx st.1):Mx (cwR ns st right).1:=
 JE (Inv:=λ(st:List (LN)×Nat)=>Mx st.1) (λv st hv h=>Ϫ hn (dm.mp hv) h) h
section
variable{Q:b8->ae->Prop}{b:ab}
def jj(b dx d:ab)(ns:LN):Sg:=[(b,qR dx d),(dx,iz),(d,kz ns)]
theorem PS.Hp(p:PS H U L J aJ bq bB G S s)(h:∀y∈jj b dx d ns,y∈S)(hn:lX ns):wq s.heap b dx d ns where
 obj:=p.get (h _ (by simp[jj]))
 Xm:=p.get (h _ (by simp[jj]))
 dat:=p.get (h _ (by simp[jj]))
 t1:=(p.sg _ (h (b,qR dx d) (by simp[jj]))).2.1
 t2:=(p.sg _ (h (dx,iz) (by simp[jj]))).2.1
 t3:=(p.sg _ (h (d,kz ns) (by simp[jj]))).2.1
 ok:=hn
theorem ahO(n:Nat):Dt 0 1 n=(aI n).map aj:=by show AM λi _=>?_;simp
def gCw(rs:List ab)(b rr:ab)(n:Nat)(st:List (LN)×Nat):ie:=[(9,0,uo rs),(71,0,aX (R b)),(68,0,fG N),(73,0,aT 13),(74,0,aT 0),(75,0,aT st.2),(76,0,aT n),(77,0,aX (R rr))]
def gC2(rs:List ab)(b rr:ab)(n right v:Nat)(st:List (LN)×Nat):ie:=jl (jl (gCw rs b rr n st) 12 0 (aT right)) 78 0 (aT v)
theorem ahP{right:Nat}(h:right∈[12,10,8,6,4,2]):gS .eq (aj ((right+0) &&& 2)) 0=fD (right % 4) 0:=by simp at h;rcases h with rfl|rfl|rfl|rfl|rfl|rfl<;>rfl
theorem ahQ:gS .eq (aj x) (aj y)=fD x y:=by rw[U0];simp[gS];show Ue
theorem ahR:gS .lt (aj x) (aj y)=jK x y:=by rw[U0];simp[gS,jK];show Iff.symm Nat.add_one_le_iff
theorem aku{rr:ab}{S0:Sg}{right v z:Nat}{st:List (LN)×Nat}(B:cA U mg mb)(gz:pQ U P t f)(bM:A.depth<1000)(hl:rs.length=13)(tQ:rs.Nodup)(hm:Mx st.1)(hd:∀y∈S0,y.1∉rs)(yX:∀y∈jj b dx d ns,y∈S0)(hn:lX ns)(hr:right∈[12,10,8,6,4,2])(hv:v<13)(hz:z<2)(p:PS H U (bg pG) J aJ bq bB (jl (gC2 rs b rr ns.length right v st) 79 0 (aT z)) (uI rs st.1++S0) s):
 C A (aU afF J) s (λfl Y=>fl=cJ/\PS H U (bg pG) J aJ bq bB (gC2 rs b rr ns.length right v (RZ ns right v st z)) (uI rs (RZ ns right v st z).1++S0) Y):=by
 have akf:2<=right/\right<=12:=r26 _ hr;have hi:JD right v<13:=by unfold JD;cases fD (right % 4) 0<;>simp<;>lia
 have WV:rs[JD right v]? =O (rs.getD (JD right v) 0):=kx au;show hb (hm.get hi) λm1 m2 m3=>have E:(st.1.getD (JD right v) [])[right - z]? =O ((st.1.getD (JD right v) []).getD (right - z) 0):=kx au;p.s1 (S1.m (bE 15 (aT (right - z)) (lQ (aq 12 Z) (aq 79 Z) au) Z Z (ao Z) Z)) λs1 p1=>p1.s1 (S1.m (bE 80 (fG (fD (right % 4) 0)) (V.to (Gk .eq (aj ((right+0) &&& 2)) 0
  (V.bin (x:=aj (right+0)) (y:=2) .band (fk (aq 12 Z) (aq 74 Z)) V.int Z) V.int) (congrArg _ (ahP hr))) Z Z (ao Z) Z)) λs2 p2=>p2.ite (x:=af) (FQ N (mD 68 Z)) λs3 p3=>eZ (p3.s1 (S1.m (bE 14 (aT (JD right v)) (wI (fD (right % 4) 0) (mD 80 Z) (λq=>?_) (λq=>?_)) Z Z (ao Z) Z)) λs4 p4=>?_)
 .have e:JD right v=13 - 1 - v:=by unfold JD;rw[q];rfl
  rw[e];show lQ (lQ (aq 73 Z) (aR 1) aK) (aq 78 Z) au
 .have e:JD right v=v:=by unfold JD;rw[q];rfl
  rw[e];show BV (aq 78 Z) Z
 show p4.s1 (S1.m (bE 31 (aX (R (rs.getD (JD right v) 0))) (yW _ (aq 9 Z) (aq 14 Z) WV au Z) Z Z (ao Z) Z)) λs5 p5=>have hmem:=dc S0 (pE WV m1);p5.ite (x:=fD ((st.1.getD (JD right v) []).getD (right - z) 0) 2 && jK st.2 ns.length) (vE (oY.to (my .eq (B7 (p5.get hmem) ((p5.sg _ hmem).2.1) m3 (aq 31 Z) (aq 15 Z) E Z) (aR 2)) ahQ)
  (λ_=>oY.to (my .lt (aq 75 Z) (aq 76 Z)) ahR)) λs6 p6=>?_
 unfold RZ;cases e:(fD ((st.1.getD (JD right v) []).getD (right - z) 0) 2 && jK st.2 ns.length) with
 |false=>show eZ (eZ ⟨rfl,p6.less (km.rf (rfl) (rfl))⟩)
 |true=>
  have hy:ns[st.2]? =O (ns.getD st.2 0):=kx (dO (fL.mp e).2);show xe (rs.getD (JD right v) 0) (right - z) (ns.getD st.2 0) p6 (Y2 (p6.base B) (gz.ext p6.ext) bM (p6.Hp (λy hy=>ew _ (yX y hy)) hn) (aq 71 Z) (aq 75 Z) hy Z) (aq 31 Z) (aq 15 Z)
   hmem m3 au (hn.1 _ (cW hy)) Z (yV tQ WV _ hd) λs7 p7=>p7.s1 (S1.m (CJ (k:=0) 75 (aj st.2) 1 (aj (st.2+1)) .add Z V.int Z (ao Z) Z (ao Z))) λs8 p8=>(eZ (eZ ⟨rfl,p8.less (by show km.rf bz bz)⟩))
theorem acN{rr:ab}{tk0 tk1 tk2:aW}{S0:Sg}(hh:dh A)(B:cA U mg mb)(I:dQ mg mb)(gz:pQ U P t f)(bM:A.depth<1000)(hl:rs.length=13)(tQ:rs.Nodup)(hm:Mx cj)(hd:∀y∈S0,y.1∉rs)(yX:∀y∈jj b dx d ns,y∈S0)(hn:lX ns)(ϫ:(rr,mI 2 tk0 tk1 tk2)∈S0)(p:PS H U (bg pG) J aJ bq bB (gCw rs b rr ns.length (cj,0)) (uI rs cj++S0) s)(k:∀Y,Mx (I5 ns cj).1->PS H U (bg pG) J aJ bq bB (gCw rs b rr ns.length (I5 ns cj)) (uI rs (I5 ns cj).1++S0) Y->C A (aU rest J) Y Q):
 C A (aU (bc (bo pG) 7::rest) J) s Q:=by
 show Ac 12 [12,10,8,6,4,2] (cwR ns) (gCw rs b rr ns.length) (λst=>uI rs st.1++S0) (λst=>Mx st.1) (cj,0) p
  (zv.eq (Gy (n:=6) hh (p.base B) I Z (V.bin .sub (aq 73 Z) V.int Z) Z V.int Z (ML V.int) Z aK (rfl) (rfl) (rfl)) (rfl))
  (.refl _) (λy hy=>hy) hm (λn st _ h=>afG hn h) (ao Z) (λst=>rfl) (λright st s1 W1 hr hmx p1=>?_) (λ_=>rfl) (λY hI p'=>k Y hI p')
 show p1.ite (vE (y:=N) (FQ N (mD 68 Z)) (λq=>by ext)) λs2 p2=>eZ<|Ac 78 (aI 13) (cwV ns right) (λst=>jl (gCw rs b rr ns.length st) 12 0 (aT right)) (λst=>uI rs st.1++S0) (λst=>Mx st.1) st p2
  (zv.eq (fQ hh (p2.base B) I Z (aq 73 Z) Z bA) Z) (.refl _) (λy hy=>hy) hmx (λv st hv h=>Ϫ hn (dm.mp hv) h) (ao Z) (λst=>rfl) (λv Oh s3 W3 hv akv p3=>?_) (λ_=>rfl)
  (λY hI p'=>eZ ⟨rfl,p'.less (km.rf (rfl) (rfl))⟩)
 show Ac 79 (aI 2) (RZ ns right v) (gC2 rs b rr ns.length right v) (λst=>uI rs st.1++S0) (λst=>Mx st.1) Oh p3
  (zv.eq (Ab 77 0 hh (p3.base B).top (p3.get (ew _ ϫ)) (p3.sg _ (ew _ ϫ)).2.1 Z bA) (ahO 2)) (.refl _) (λy hy=>hy) akv (λz st _ h=>Xq hn (dm.mp hv) h z) (ao Z) (λst=>rfl) (λz st2 s4 W4 hz akw p4=>?_) (λ_=>rfl)
  (λY hI p'=>eZ ⟨rfl,p'.less (km.rf (rfl) (rfl))⟩)
 show aku B gz bM hl tQ akw hd yX hn hr (dm.mp hv) (dm.mp hz) p4
end
section
variable{Q:b8->ae->Prop}{b:ab}
theorem acO{S0:Sg}{v1 v3:aW}(hh:dh A)(B:cA U mg mb)(I:dQ mg mb)(gz:pQ U P t f)(bM:A.depth<1000)(hl:rs.length=13)(tQ:rs.Nodup)(hm:Mx cj)(hd:∀y∈S0,y.1∉rs)(yX:∀y∈jj b dx d ns,y∈S0)(hn:lX ns)(h1:mg (aC "VERSION_M1")=O (ah (-3) v1))(h3:mg (aC "VERSION_M3")=O (ah (-1) v3))(PI:(I5 ns cj).2=ns.length)(p:PS H U (bg pG) J aJ bq bB (qF [9,71,72] [uo rs,aX (R b),a9 (-2)]) (uI rs cj++S0) s)(k:∀Y G',Mx (I5 ns cj).1->PS H U (bg pG) J aJ bq bB G' (uI rs (I5 ns cj).1++S0) Y->Q cJ Y):
 C A (aU (bo pG) J) s Q:=by
 change C _ (aU [bc (bo pG) 0,bc (bo pG) 1,bc (bo pG) 2,bc (bo pG) 3,bc (bo pG) 4,bc (bo pG) 5,bc (bo pG) 6,bc (bo pG) 7,bc (bo pG) 8] J) s Q;show p.s1 (S1.m (Aa Z)) λs1 p1=>p1.s1 (S1.m (bE 73 (aT 13) (V.to (Np B I Z (aq 9 Z) Z jP) (by simp[hl])) Z Z (ao Z) Z)) λs2 p2=>p2.s1 (S1.m (bE 68 (fG N) (Gk .lt (-2) 1 (aq 72 Z) V.int) Z Z (ao Z) Z)) λs3 p3=>p3.s1 (S1.m (bE 74 (aT 0) (wI N (RX (x:= -2) (ys:=[a9 (-3),a9 (-1)]) (ms:=[-3, -1]) (aq 72 Z)
  (ui B.top (fJ.cons (qL B Z h1 Z) (fJ.cons (qL B Z h3 Z) fJ.nil Z) Z) Z Z) Z Z) (λ_=>V.int) (λq=>nnT q)) Z Z (ao Z) Z)) λs4 p4=>p4.s1 (S1.m (bE 75 (aT 0) V.int Z Z (ao Z) Z)) λs5 p5=>have akx:∀y∈jj b dx d ns,y∈uI rs cj++S0:=λy hy=>ew _ (yX y hy);PS.asg (x:=76) (av:=aT ns.length) p5 (JB (p5.base B) I (gz.ext p5.ext) bM (p5.Hp akx hn) Z (aq 71 Z) Z) Z Z (ao Z) Z λs6 p6=>xh 77 2 p6 B I Z V.int Z Z (ao Z) Z λrr t0 t1 t2 s7 p7=>?_
 have afH:∀y∈(rr,mI 2 t0 t1 t2)::S0,y.1∉rs:=λy hy=>by show bf (bu.mp hy) (λe=>?_) λe=>hd y e;subst e;intro hq;show dG (sQ hq) λi hi=>?_;have jz:=(dR.mp hi).1;have e1:=p7.get (bZ _ (dc S0 (pE hi (hm.get (i:=i) au).1)));rw[p7.get (cQ ..)]at e1;show absurd (congrArg Fc (aV e1)) (by simp[mI,kz,pM])
 show acN (tk0:=t0) (tk1:=t1) (tk2:=t2) (S0:=(rr,mI 2 t0 t1 t2)::S0) hh B I gz bM hl tQ hm afH (λy hy=>bZ _ (yX y hy)) hn (cQ ..)
  ((p7.sub ?_).less (km.rf bz bz)) λs8 hm8 p8=>?_
 .intro y hy;show bf (b9.mp hy) (λq=>bZ _ (dc _ q)) λq=>bf (bu.mp q) (λe=>by rw[e];show cQ ..) λe=>bZ _ (ew _ e)
 show p8.ite (x:=af) (oY.to (my .ne (aq 75 Z) (JB (p8.base B) I (gz.ext p8.ext) bM (p8.Hp (λy hy=>ew _ (bZ _ (yX y hy))) hn) Z (aq 71 Z) Z)) (by rw[PI];simp[gS])) λs9 p9=>eZ<|eZ<|k s9 _ hm8<|p9.sub λy hy=>bf (b9.mp hy) (λq=>dc _ q) λq=>ew _ (bZ _ q)
end
def ClB(Γ:Ctx):Prop:=∀x∈Γ.below,n6 x.1=N
inductive afI(a0:ae->ae->Prop)(F:Nat->aa->ae->ae->Prop)(fp:List ab)(n:Nat)(aJ:ae)(Rec:ae->iY->aE Fin->List Frame->ae->Prop):End->ae->Prop
 |mk {Y:ae} (v:aa) (g:Bool) (l:List aa) (k:Resume->aE Fin) (c':iY) (p':aY) (fs':List Frame) (hq:(End.susp v g l k c' p' fs').quiet=N) (hd:a0 aJ Y) (hf:F n v aJ Y)
  (hk:∀mE:ae,(∀b∈fp,∀o,Y.heap.get? b=O o->mE.heap.get? b=O o)->Rec mE c' (k (yJ aA)) fs' mE):afI a0 F fp n aJ Rec (End.susp v g l k c' p' fs') Y
def Oi(A:ck)(a0:ae->ae->Prop)(F:Nat->aa->ae->ae->Prop)(fp:List ab)(aM:x9)(gh:xV):Nat->ae->iY->aE Fin->List Frame->ae->Prop
 | 0=>λaJ c t fs s=>Seg (aG prog w) A aM gh 0 aJ c t fs s
 |n+1=>λaJ c t fs s=>∀Γ p,Γ.code=c->Γ.Woken A->ClB Γ->∃e Y,Runs (aG prog w) Γ p t fs s e Y/\afI a0 F fp n aJ (Oi A a0 F fp aM gh n) e Y
section
variable{a0:ae->ae->Prop}{F:Nat->aa->ae->ae->Prop}{aM:x9}{gh:xV}{c:iY}
theorem ClB.over{Γ:Ctx}(h:ClB Γ)(hc:n6 Γ.code=N):Cl (Γ.over []):=⟨hc,h⟩
theorem Hq{m:aE α}{bp:α->aE Fin}{cB:aa->aE Fin}{gd:Bool->Bool}{lv:List aa->List aa}(hc:n6 c=N)(h:C (A.over c []) m s (λa Y=>Oi A a0 F fp aM gh (n+1) aJ c (bp a) [] Y)):Oi A a0 F fp aM gh (n+1) aJ c (m.wrap bp cB gd lv) [] s:=by rintro Γ p rfl wh jA;show runs_wrap_of_wp (Φ:=afI a0 F fp n aJ (Oi A a0 F fp aM gh n)) bp cB gd lv m (@h (Γ.over []) p (wh.over []) (jA.over hc)) (λa p' Y h'=>h' Γ p' Z wh jA) (λ_ _ _ f=>f.elim)
theorem iA{β:Type}{m:aE α}{bp:α->aE β}{K':β->aE Fin}{H':aa->aE Fin}{gd:Bool->Bool}{lv:List aa->List aa}(hc:n6 c=N)(h:C (A.over c []) m s (λa Y=>Oi A a0 F fp aM gh (n+1) aJ c ((bp a).wrap K' H' gd lv) [] Y)):Oi A a0 F fp aM gh (n+1) aJ c ((m>>=bp).wrap K' H' gd lv) [] s:=by rw[Mi,th];show Hq hc h
theorem CY{c':iY}(hq:c'.quiet=N)(h:Oi A a0 F fp aM gh n aJ c' ((aG prog w).den c') [] s):Oi A a0 F fp aM gh n aJ c (Sem.pure (yG c')) [] s:=by
 cases n with
 |zero=>show seg_again hq h
 |succ n=>rintro Γ p rfl wh jA;show eQ (h (Γ.goto c') p Z (wh.goto c') jA) λe mE hr q=>kH e mE (Runs.head (c₁:=c') (λ_ _ x=>Runs.again hq x) hr) q
theorem Y3{g:Bool}{l:List aa}{k:Resume->aE Fin}(hg:g=af)(hd:a0 aJ s)(hf:F n v aJ s)(h:∀mE:ae,(∀b∈fp,∀o,s.heap.get? b=O o->mE.heap.get? b=O o)->Oi A a0 F fp aM gh n mE c (k (yJ aA)) [] mE):Oi A a0 F fp aM gh (n+1) aJ c (Sem.yield v g l k) [] s:=by rintro Γ p rfl _ _;show⟨_,s,Runs.yield' [] rfl,v,g,l,k,_,p,[],by subst hg;rfl,hd,hf,h⟩
theorem afJ{p':aY}{k:Unit->aE Fin}(hc:n6 c=N)(h:Oi A a0 F fp aM gh (n+1) aJ c (k ()) [] s):Oi A a0 F fp aM gh (n+1) aJ c (Sem.at p' k) [] s:=
 Hq (m:=jG p') (bp:=k) (cB:=Mk) (gd:=id) (lv:=id) hc (C.standAt h)
def JF(A:ck)(a0:ae->ae->Prop)(F:Nat->aa->ae->ae->Prop)(fp:List ab)(aM:x9)(gh:xV)(n:Nat)(gs:eS)(s:ae):Prop:=
 match gs with
 |LM c=>Oi A a0 F fp aM gh n s c ((aG prog w).den c) [] s
 |GenState.suspended k _ c _ fs _=>Oi A a0 F fp aM gh n s c (k (yJ aA)) fs s
 |_=>False
theorem R0{gs:eS}(h:JF A a0 F fp aM gh 0 gs s):gs.Goes (aG prog w) A aM gh 0 (yJ aA) s:=by
 cases gs with
 |fresh c=>show⟨rfl,h⟩
 |suspended=>show h
 |_=>show h.elim
theorem ClB.wake{Γ:Ctx}(h:Cl Γ)(c:iY)(p:aY):ClB (Γ.wake c p):=λx E=>by
 rcases bu.mp E with rfl|E
 .show h.1
 .show h.2 x E
theorem Y4{gs:eS}{l:List aa}{k:GenResult->aE α}{Q:α->ae->Prop}(hg:s.gens[g]? =O gs)(PJ:JF A a0 F fp aM gh (n+1) gs (s.setGen g m8))(hY:∀v aD Xr,Xr.bare=N->a0 (s.setGen g m8) aD->F n v (s.setGen g m8) aD->(∀mE:ae,(∀b∈fp,∀o,aD.heap.get? b=O o->mE.heap.get? b=O o)->JF A a0 F fp aM gh n Xr mE)->
 C A (k (GenResult.yielded v)) (aD.setGen g Xr) Q):C A (Sem.resume g (yJ aA) l k) s Q:=by
 intro Γ p wh jA;cases gs with
 |fresh c=>show eQ (PJ (Γ.wake c p) p Z (wh.wake c p) (ClB.wake jA c p)) λ_ aD hr q=>?_;obtain⟨v,alP,aky,akz,c₀,ahS,ahT,hq,hd,hf,hk⟩:=q;show kH _ _ (by delta Wakes;show hg.symm▸?_;show⟨_,aD,hr,hq,rfl,rfl⟩) (hY v aD _ (Wh hq) hd hf hk wh jA)
 |suspended akz aky c₀ ahS ahT cl=>show eQ (PJ (Γ.wake c₀ p) ahS Z (wh.wake c₀ p) (ClB.wake jA c₀ p)) λ_ aD hr q=>?_;obtain⟨v,alQ,l₁,k₁,c₁,alR,alI,hq,hd,hf,hk⟩:=q;show kH _ _ (by delta Wakes;show hg.symm▸?_;show⟨_,aD,hr,hq,rfl,rfl⟩) (hY v aD _ (Wh hq) hd hf hk wh jA)
 |running=>show PJ.elim
 |finished=>show PJ.elim
end
section
variable{a0:ae->ae->Prop}{F:Nat->aa->ae->ae->Prop}{aM:x9}{gh:xV}
theorem ahU{gs:eS}{Q:Option aa->ae->Prop}(hl:s.heap.NoLimit)(bM:A.depth<mQ)(hg:s.heap.IsGen a g)(QV:s.gens[g]? =O gs)(PJ:JF A.in1 a0 F fp aM gh (n+1) gs (s.setGen g m8))(hY:∀v aD Xr,Xr.bare=N->a0 (s.setGen g m8) aD->F n v (s.setGen g m8) aD->(∀mE:ae,(∀b∈fp,∀o,aD.heap.get? b=O o->mE.heap.get? b=O o)->JF A.in1 a0 F fp aM gh n Xr mE)->
 Q (O v) (aD.setGen g Xr)):C A (xO (R a) "__next__") s Q:=by
 show vR hg.typeIs slot_gen_next (n9 hg.typeIs slot_gen_next entry_gen_next (args_gen_next _) Z ?_);change C A.in1 (abK (R a) (yJ aA)) s _;show C.bind<|C.holding<|Lake.T.wY (v₀:=g) (aJ:=s) (wpAny_genNumber hg ⟨rfl,rfl⟩)<|C.bind (Lake.T.wY (v₀:=gs.status) (aJ:=s) (wpAny_genState QV ⟨rfl,rfl⟩) ?_);cases gs with
 |running=>show PJ.elim
 |finished=>show PJ.elim
 |_=>show C.bind<|Lake.T.wY (v₀:=()) (aJ:=s) (wpAny_roomToWake hl bM ⟨rfl,rfl⟩)<|Y4 QV PJ λv aD Xr D hd hf hk=>(C.pure (ct v Z (hY v aD Xr D hd hf hk)))
end
def GD(aS:ab)(wr:List ab)(aJ s:ae):Prop:=GenSince aS wr aJ s/\∀b o,aJ.heap.get? b=O o->∃o',s.heap.get? b=O o'
def GF(o:bj)(v:aa)(aJ s:ae):Prop:=∃r,v=R r/\aJ.heap.get? r=ai/\s.heap.get? r=O o
noncomputable def GR(aS:ab)(wr:List ab):x9:=λn aJ r aD=>r=cf cJ/\(n=0/\GenSince aS wr aJ aD)
noncomputable def GY(aS:ab)(fp wr:List ab):xV:=genProto aS fp wr (λ_=>N) 0 (λ_ _=>False)
theorem GD.refl(aS:ab)(wr:List ab)(s:ae):GD aS wr s s:=⟨GenSince.refl _ _ _,λ_ o e=>⟨o,e⟩⟩
theorem GD.step(x:GD aS wr aJ s){tk:Nat}(hk:∀b o,b≠aS->b∉wr->s.heap.get? b=O o->h'.get? b=O o)(he:∀b o,s.heap.get? b=O o->∃o',h'.get? b=O o'):
 GD aS wr aJ {s with heap:=h',toks:=tk}:=⟨x.1.step hk,λb o e=>dG (x.2 b o e) λo' e'=>he b o' e'⟩
noncomputable abbrev zB:=Nat->aa->ae->ae->Prop
def zB.Back(F:zB):Prop:=∀i v aJ s Y,(∀b o,aJ.heap.get? b=O o->∃o',s.heap.get? b=O o')->F i v s Y->F i v aJ Y
noncomputable def GFo(o:bj):zB:=λ_=>GF o
theorem GFo.back(o:bj):zB.Back (GFo o):=by
 show λ_ _ aJ s Y h q=>gC q λr e1 e2 e3=>?_;show kF r e1 ?_ e3;cases q:aJ.heap.get? r with
 |none=>rfl
 |some o'=>show dG (h r o' q) λo2 q2=>?_;have q2:=e2.symm.trans q2;ext
def zB.DI(F:zB):Prop:=∀(i:Nat) (v:aa) (aJ s Y mE:ae),aJ.heap=s.heap->Y.heap=mE.heap->F i v s Y->F i v aJ mE
noncomputable def Fup(n₀:Nat)(F:zB):zB:=λn=>F (n₀ - 1 - n)
def acP(cenv:cg)(x:aP)(elt:aw)(fp wr:List ab)(P:Nat->aa->Prop)(F:zB)(Ea:aN):Prop:=
 ∀(A':ck) i v (aQ:ae) m₂,dh A'->P i v->aQ.heap.Ns cenv.locals m₂->m₂ x=O v->(∀b∈fp,b∉wr->∀o,Ea.get? b=O o->aQ.heap.get? b=O o)->
  C A' (aZ elt cenv) aQ (λy de=>F i y aQ de/\Keeps aQ de)
theorem Y5{P:Nat->aa->Prop}(W:mS prog w A I fp wr n P St):mS prog w A I fp wr 0 (λ_ _=>False) (λi h=>St (n+i) h) where
 sub:=W.sub
 frame:=λi=>W.frame (n+i)
 item:=λ_ _ _ _ h=>absurd h (rz _)
 done:=W.done
 self:=λi=>W.self (n+i)
theorem Ϭ{x:aP}{P:Nat->aa->Prop}{Hr:Nat->aN->Prop}{cenv:cg}{F:zB}(hFb:F.Back)(hh:dh A)(bq:∀A':ck,dh A'->mS prog w A' I fp wr n₀ P Hr)(hwe:∀i h,Hr i h->∀b∈wr,∃o,h.get? b=O o)(Ea:aN)(E:cenv.kindOf x=O cZ)(hp:(cenv.scope.kind==UY ||(cenv.scope.kind==qq && cenv.locals != cenv.globals))=af)(Dx:cenv.scope.isCoroutine=af)(WN:cenv.locals∉fp)(hq:acP cenv x elt fp wr P F Ea):
 ∀(k i:Nat) (aJ s:ae) (m:aP->Option aa),n₀ - i=k->i<=n₀->Hr i s.heap->s.heap.Ns cenv.locals m->GD cenv.locals wr aJ s->
  (∀b∈fp,b∉wr->∀o,Ea.get? b=O o->s.heap.get? b=O o)->
  Oi A (GD cenv.locals wr) (Fup n₀ F) (cenv.locals::fp) (GR cenv.locals wr) (GY cenv.locals fp wr) k aJ
   (gZ (lL elt [⟨ar x px,iter,[],0⟩] scope pos) 0 (R I) aA cenv)
   ((aG prog w).den (gZ (lL elt [⟨ar x px,iter,[],0⟩] scope pos) 0 (R I) aA cenv)) [] s:=by
 intro k;induction k with
 |zero=>
  intro i aJ s m hk hi dH hn CZ Z9;have Gv:i=n₀:=by lia
  subst Gv;show seg_genLoop hh (λA' h'=>Y5 (bq A' h')) (λ_=>N) (λ_ _=>False) Ea E hp Dx WN ⟨λ_ _ _ _ _ _ _ f=>f.elim,λ_ _ _ _ _ _ _ f=>f.elim⟩ 0 0 aJ s m Z (ey _) dH hn CZ.1 Z9
 |succ k ih=>
  intro i aJ s m hk hi dH hn CZ Z9;have jz:i<n₀:=by lia
  have hh':(A.over (gZ (lL elt [⟨ar x px,iter,[],0⟩] scope pos) 0 (R I) aA cenv) []).handled=ai:=hh;change Oi A _ _ _ _ _ (k+1) aJ _ ((uY (lL elt [⟨ar x px,iter,[],0⟩] scope pos) 0 (R I) aA cenv).onRaise (rh cenv)) [] s;rw[compTurn_gen,FG];show iA Z<|C.standAt<|iA Z<|cR<|(bq _ hh').item i s _ _ jz dH λv U ϭ hPv xi DJ=>iA Z<|C.eq (rfl:jE (ar x px) (R I) v=pure ())<|iA Z (cR (jD (sy E (hn.at' λo e=>DJ _ o (λh=>WN ((bq A hh).sub _ h)) e) (λko Ϯ xj=>?_) hp)));have ϯ:=λb o hbC hbw e=>xj.extBut b o hbC (DJ b o hbw e);have aeH:∀b o,s.heap.get? b=O o->∃o',ko.get? b=O o':=λb o e=>by
   show if q:b=cenv.locals then q▸eY Ϯ λo' _ _ e' _=>⟨o',e'⟩ else ?_
   show if q2:b∈wr then dG (hwe _ _ xi b q2) λo' e'=>⟨o',xj.extBut b o' q e'⟩ else⟨o,ϯ b o q q2 e⟩
  have ϰ:=λb D hbw o e=>ϯ b o (λh=>WN (h▸D)) hbw (Z9 b D hbw o e);show iA Z (C.pure ?_);simp only[if_true,(λv=>by simp only[yieldOut,Dx,UZ,if_false]:∀v,yieldOut cenv v=yieldValue v)];rw[Mi,Mi,th,th];show Hq Z<|(hq _ i v _ _ hh' hPv Ϯ (if_pos Z) ϰ).mono λy fq Gz=>og λgG kG=>FZ Gz λhFy Gz alJ dX PK=>kG ?_;clear kG gG;subst dX;show afJ Z (Y3 Z (CZ.step (λb o hbC hbw e=>PK b o (ϯ b o hbC hbw e)) (λb o e=>dG (aeH b o e) λo' e'=>⟨o',PK b o' e'⟩)) ?_ λmE DG=>?_)
  .change F (n₀ - 1 - k) y aJ _;rw[(by lia:n₀ - 1 - k=i)];show hFb i y aJ _ _ (λb o e=>dG (CZ.2 b o e) λo2 q2=>aeH b o2 q2) hFy
  show CY Z (ih (i+1) mE mE _ au jz ((bq A hh).frame _ _ _ ((bq A hh).frame _ _ _ xi λb D o e=>xj.extBut b o (λh=>WN (h▸D)) e) λb D o e=>DG b (dF _ D) o (PK b o e))
   ((Ϯ.keeps PK).at' λo e=>DG _ (iy ..) o e) (GD.refl _ _ _) λb D hbw o e=>DG b (dF _ D) o (PK b o (ϰ b D hbw o e)))
theorem Y6{x:aP}{P:Nat->aa->Prop}{Hr:Nat->aN->Prop}{cenv:cg}{F:zB}(hFb:F.Back)(hh:dh A)(bq:∀A':ck,dh A'->mS prog w A' I fp wr (n₀+1) P Hr)(hwe:∀i h,Hr i h->∀b∈wr,∃o,h.get? b=O o)(Ea:aN)(E:cenv.kindOf x=O cZ)(hp:(cenv.scope.kind==UY ||(cenv.scope.kind==qq && cenv.locals != cenv.globals))=af)(Dx:cenv.scope.isCoroutine=af)(WN:cenv.locals∉fp)(hq:acP cenv x elt fp wr P F Ea)(aJ s:ae)(m:aP->Option aa)(dH:Hr 0 s.heap)(hn:s.heap.Ns cenv.locals m)(CZ:GD cenv.locals wr aJ s)(Z9:∀b∈fp,b∉wr->∀o,Ea.get? b=O o->s.heap.get? b=O o):
 Oi A (GD cenv.locals wr) (Fup (n₀+1) F) (cenv.locals::fp) (GR cenv.locals wr) (GY cenv.locals fp wr) (n₀+1) aJ
  (oO (lL elt [⟨ar x px,iter,[],0⟩] scope pos) 0 (R I) aA cenv)
  ((aG prog w).den (oO (lL elt [⟨ar x px,iter,[],0⟩] scope pos) 0 (R I) aA cenv)) [] s:=by
 have hh':(A.over (oO (lL elt [⟨ar x px,iter,[],0⟩] scope pos) 0 (R I) aA cenv) []).handled=ai:=hh;have loop:=Ϭ (iter:=iter) (px:=px) (scope:=scope) (pos:=pos) hFb hh bq hwe Ea E hp Dx WN hq (n₀+1) 0 aJ s m (Nat.sub_zero _) (fg _) dH hn CZ Z9;change Oi A _ _ _ _ _ (n₀+1) aJ _ ((compStart (lL elt [⟨ar x px,iter,[],0⟩] scope pos) 0 (R I) aA cenv).onRaise (rh cenv)) [] s;rw[FG];show iA Z (cR (T2 ?_));split
 .show CY Z loop
 .show iA Z<|C.rule<|iA Z (C.standAt (iA Z (cR ((bq _ hh').self 0 s _ _ dH (CY Z loop)))))
structure lD(A:ck)(a:ab)(g:Nat)(aS:ab)(fp wr:List ab)(n₀:Nat)(F:zB)(j:Nat)(s:ae):Prop where
 gen:s.heap.IsGen a g
 lim:s.heap.NoLimit
 there:∀b∈aS::fp,∃o,s.heap.get? b=O o
 go:∃gs,s.gens[g]? =O gs/\∀mE:ae,(∀b∈aS::fp,∀o,s.heap.get? b=O o->mE.heap.get? b=O o)->
  JF A.in1 (GD aS wr) (Fup n₀ F) (aS::fp) (GR aS wr) (GY aS fp wr) (n₀ - j) gs mE
theorem lD.frame{F:zB}{tk:Nat}(x:lD A a g aS fp wr n₀ F j s)(xl:cE∈fp)(hk:∀b∈a::aS::fp,∀o,s.heap.get? b=O o->h'.get? b=O o):lD A a g aS fp wr n₀ F j {s with heap:=h',toks:=tk} where
 gen:=eY x.gen λo nm qn ho r=>Bt o nm qn (hk a (iy ..) o ho) r
 lim:=bh x.lim λmc wL s'=>ct mc (wL.at' λo e=>hk cE (dF _ (dF _ xl)) o e) s'
 there:=λb D=>dG (x.there b D) λo e=>⟨o,hk b (dF _ D) o e⟩
 go:=bh x.go λgs QV PJ=>ct gs QV (λmE DG=>PJ mE λb D o e=>DG b D o (hk b (dF _ D) o e))
def l5(g:Nat)(a b:Array eS):Prop:=(∀(i:Nat) (x:eS),i≠g->a[i]? =O x->b[i]? =O x)/\((∀x∈a,x.bare=N)->∀x∈b,x.bare=N)
theorem l5.refl(g:Nat)(a:Array eS):l5 g a a:=⟨λ_ _ _ e=>e,λh=>h⟩
theorem l5.trans{a b c:Array eS}(y:l5 g b c)(x:l5 g a b):l5 g a c:=⟨λi z hi e=>y.1 i z hi (x.1 i z hi e),λh=>y.2 (x.2 h)⟩
theorem l5.ofQ{a b:Array eS}(x:GenOnlyQ g a b):l5 g a b:=⟨λi z hi e=>by
 rcases x with rfl|⟨⟨_,h⟩,_⟩
 .show e
 .show (h i hi).symm▸e,λh=>x.bare h⟩
theorem l5.sf{a c:Array eS}{x:eS}(E:x.bare=N)(y:l5 a.size (a.push x) c):nV a c:=⟨λi z e=>by
 have hi:=(Vh.mp e).1;show y.1 i z (fB hi) ?_;rw[L6,if_neg (fB hi)];show e,λh=>y.2 λz hz=>by
 rcases Array.mem_push.mp hz with q|q
 .show h z q
 .show q▸E⟩
theorem l5.new{a b c:Array eS}(x:nV a b)(y:l5 g b c)(hg:a.size<=g):nV a c:=⟨λi z e=>y.1 i z (fB (ff (Vh.mp e).1 hg)) (x.1 i z e),λh=>y.2 (x.2 h)⟩
structure Tg(g:Nat)(X:List ab)(s Y:ae):Prop where
 keep:∀b o,b∉X->s.heap.get? b=O o->Y.heap.get? b=O o
 os:Y.os=s.os
 drawn:Y.drawn=s.drawn
 gens:l5 g s.gens Y.gens
theorem Tg.refl(g:Nat)(X:List ab)(s:ae):Tg g X s s:=⟨λ_ _ _ e=>e,rfl,rfl,.refl _ _⟩
theorem Tg.trans{gh:List ab}{a b c:ae}(x:Tg g X a b)(y:Tg g gh b c)(h:∀d∈gh,d∈X\/a.heap.get? d=ai):Tg g X a c where
 keep:=λd o hd e=>y.keep d o (λq=>by
  rcases h d q with h|h
  .show hd h
  .have e:=h.symm.trans e;ext) (x.keep d o hd e)
 os:=y.os.trans x.os
 drawn:=y.drawn.trans x.drawn
 gens:=y.gens.trans x.gens
theorem Tg.heap{tk:Nat}(k:∀b o,b∉X->s.heap.get? b=O o->h'.get? b=O o):Tg g X s {s with heap:=h',toks:=tk}:=⟨k,rfl,rfl,.refl _ _⟩
theorem ϱ(m:Moved X (GenOnlyQ g) s Y):Tg g X s Y:=⟨m.heap,m.os,m.drawn,.ofQ m.gens⟩
theorem lD.spc{F:zB}{Q:Option aa->ae->Prop}(x:lD A a g aS fp wr n₀ F j s)(bM:A.depth<mQ)(hj:j<n₀)(DK:a≠aS)(Oj:a∉wr)(Ol:cE≠aS)(Om:cE∉wr)(hF:F.DI)(hQ:∀v Y,F j v s Y->lD A a g aS fp wr n₀ F (j+1) Y->Tg g (aS::wr) s Y->(∀b o,s.heap.get? b=O o->∃o',Y.heap.get? b=O o')->Q (O v) Y):C A (xO (R a) "__next__") s Q:=by
 obtain⟨hg,hl,hth,gs,QV,PJ⟩:=x;obtain⟨m,hm⟩:∃m,n₀ - j=m+1:=⟨n₀ - j - 1,nj0 hj⟩;show ahU hl bM hg QV ((hm▸PJ) _ λ_ _ _ e=>e) λv aD Xr D hd hf hk=>(og λgG kG=>?_);show eX hd λi1 ϲ=>eQ i1 λU ϭ dX DJ=>kG ?_;clear kG gG;subst dX;have hf:F (n₀ - 1 - m) v _ _:=hf;rw[(nj1 hm)]at hf;show hQ v _ (hF j v s (s.setGen g m8) {heap:=U,gens:=(s.setGen g m8).gens,drawn:=(s.setGen g m8).drawn,toks:=ϭ,os:=(s.setGen g m8).os} _ Z Z hf) ⟨eY hg λo nm qn ho r=>(Bt o nm qn (DJ a o DK Oj ho) r),(bh hl λmc wL s'=>ct mc (wL.at' λo e=>DJ cE o Ol Om e) s'),λb D=>dG (hth b D) λo e=>ϲ b o e,Xr,xQ (xQ QV),λmE DG=>?_⟩
  ⟨λb o D e=>DJ b o (λh=>D (h▸cQ ..)) (λh=>D (dF _ h)) e,rfl,rfl,.ofQ (Wu ((FJ s g m8).trans (FJ _ g Xr)) (xQ (xQ QV)) D)⟩ ϲ
 rw[(nj2 hm)];show hk mE DG
theorem lD.next{F:zB}{Q:Option aa->ae->Prop}(x:lD A a g aS fp wr n₀ F j s)(bM:A.depth<mQ)(hj:j<n₀)(DK:a≠aS)(Oj:a∉wr)(Ol:cE≠aS)(Om:cE∉wr)(hF:F.DI)(hQ:∀v Y,F j v s Y->lD A a g aS fp wr n₀ F (j+1) Y->Tg g (aS::wr) s Y->(∀b o,s.heap.get? b=O o->∃o',Y.heap.get? b=O o')->Q (O v) Y):C A (gX (R a)) s Q:=
 C.bind (C.attempt (x.spc bM hj DK Oj Ol Om hF λv Y a b c d=>C.pure (hQ v Y a b c d)))
theorem lD.done{F:zB}{Q:Option aa->ae->Prop}(x:lD A a g aS fp wr n₀ F n₀ s)(hh:dh A)(bM:A.depth<mQ)(hQ:∀Y,Tg g (aS::wr) s Y->Q ai Y):ax (aG prog w) A (gX (R a)) Q a6 s:=by obtain⟨hg,hl,hth,gs,QV,PJ⟩:=x;rw[LC]at PJ;show wpAny_with_toks (ey s.toks)<|wpAny_pyNext_genexpQ hh hl bM hg QV (R0 (PJ _ λ_ _ _ e=>e)) (λv aD Xr D hv=>hb hv λi1 _ _=>bh i1 λ_ _ f=>f.elim)<|λaD hp h' hk=>FZ hp λ_ U ϭ dX DJ=>?_;subst dX;show λhtk=>hQ _ (ϱ ⟨λb o D e=>hk b o (DJ b o (λh=>D (h▸cQ ..)) (λh=>D (dF _ h)) e),Wu ((FJ s g m8).trans (FJ _ g GenState.finished)) (xQ (xQ QV)) Z,rfl,rfl,htk⟩)
theorem GFo.heap(o:bj):zB.DI (GFo o):=by show λ_ _ aJ s Y mE e1 e2 q=>gC q λr h1 h2 h3=>kF r h1 (e1▸h2) (e2▸h3)
def PM(o:bj)(sB:ae)(X:List ab)(rs:List ab)(s:ae):Prop:=
 (∀r∈rs,s.heap.get? r=O o/\r∉X/\sB.heap.get? r=ai)/\
 rs.Nodup
theorem I6{S:ab}{res:aa}{sB:ae}(hh:dh A)(bM:A.depth<mQ)(DK:a≠aS)(Oj:a∉wr)(vQ:∀b∈wr,b∈fp)(xl:cE∈fp)(Ol:cE≠aS)(Om:cE∉wr)(hn:n₀<=1000)(C':S∉a::aS::fp)(hXf:∀b∈X,b∈a::aS::fp)(nM:∀b∈S::aS::wr,b∈X\/sB.heap.get? b=ai):
 ∀(k j:Nat) (s:ae) (c:Nat) (jw:Array aa) (rs:List ab),n₀ - j=k->j<=n₀->lD A.in1 a g aS fp wr n₀ (GFo o) j s->s.heap.get? S=O {cls:=ak "list",dict:=ai,data:=bU jw c,slots:=#[]}->jw=(rs.map R).toArray->rs.length=j->
  PM o sB (S::a::aS::fp) rs s->Tg g X sB s->
  (∀Y c' rs',Tg g X sB Y->rs'.length=n₀->PM o sB (S::a::aS::fp) rs' Y->Y.heap.get? S=O {cls:=ak "list",dict:=ai,data:=bU (rs'.map R).toArray c',slots:=#[]}->aM (cf (cL res)) Y)->
  CC A (fM "list.extend.loop" ⟨[R S,R a,res],[]⟩) s aM:=by
 have ahV:S∉aS::wr:=gY (λh=>C' bC) (λh=>C' (by simp[vQ _ h]));have rm:A.in1.depth<mQ:=bM;intro k;induction k with
 |zero=>
  intro j s c jw rs hk hj hg hS oq hl hr ht hR;have Gv:j=n₀:=by lia
  subst Gv;show jR VH Z<|C.bind<|cR<|hg.done hh rm λY m=>C.pure (hR Y c rs (ht.trans m λd hd=>nM d (bZ _ hd)) hl ⟨λr ϫ=>?_,hr.2⟩ (oq▸m.keep S _ ahV hS));show hb (hr.1 r ϫ) λq1 q2 q3=>((gQ (m.keep r o (λh=>q2 ?_) q1) q2 q3));rcases bu.mp h with e|e
  .ext
  .simp [vQ _ e]
 |succ k ih=>
  intro j s c jw rs hk hj hg hS oq hl hr ht hR;have jz:j<n₀:=by lia
  show jR VH Z<|C.bind<|hg.next rm jz DK Oj Ol Om (GFo.heap o) λv Y qQ hg' m hth=>gC qQ λr ev hr0 hr1=>ev▸?_;have hS':=m.keep S _ ahV hS;have hrX:r∉S::a::aS::fp:=λh=>by
   rcases bu.mp h with e|h
   .have hr0:=hS▸e▸hr0;ext
   .rcases bu.mp h with e|h
    .show eY hg.gen λo' _ _ e' _=>?_;have hr0:=e'▸e▸hr0;ext
    .show dG (hg.there r h) λo' e'=>?_;have hr0:=e'▸hr0;ext
  show C.bind (cR (uS hS' Z (C.pure ⟨lI Fu _,ih (j+1) _ _ (jw.push (R r)) (rs++[r]) au jz (hg'.frame (tk:=Y.toks) xl λb D o e=>?_) (gN _ hS' Z) (by rw[oq];simp) (by simp[hl]) ⟨λr' hr'=>?_,?_⟩ ?_ hR⟩)
   (by have:fc=16777216:=jW;subst oq;simp;lia) (by have:fc=16777216:=jW;subst oq;simp;lia)))
  .show (mh _ _ (λh:S=b=>C' (h▸D))).trans e
  .rcases b9.mp hr' with h|h
   .show hb (hr.1 r' h) λq1 q2 q3=>((gQ ((mh _ _ (λe:S=r'=>q2 (by simp[e]))).trans (m.keep r' o (λh=>q2 ?_) q1)) q2 q3));rcases bu.mp h with e|e
    .ext
    .simp [vQ _ e]
   .simp at h;subst h;show gQ ((mh _ _ (λe=>hrX (by simp[e]))).trans hr1) hrX ?_;cases q:sB.heap.get? r' with|none=>rfl|some o'=>have hr0:=(ht.keep r' o' (λh=>hrX (bZ _ (hXf _ h))) q).symm.trans hr0;ext
  .show qh.mpr ⟨hr.2,by simp,λx E y hy e=>?_⟩;simp at hy;subst hy e;have hr0:=((hr.1 _ E).1).symm.trans hr0;ext
  .show (ht.trans m λd hd=>nM d (bZ _ hd)).trans (Tg.heap (X:=[S]) (s:=Y) (tk:=Y.toks) λb o D e=>(mh _ _ (λe:S=b=>D (bJ.mpr (id (ml e))))).trans e) λd hd=>?_;simp at hd;show nM d bC
theorem Hs{Q:List aa->ae->Prop}(hh:dh A)(bM:A.depth<mQ)(DK:a≠aS)(Oj:a∉wr)(vQ:∀b∈wr,b∈fp)(xl:cE∈fp)(Ol:cE≠aS)(Om:cE∉wr)(hn:n₀<=1000){sB:ae}(hXf:∀b∈X,b∈a::aS::fp)(nM:∀b∈aS::wr,b∈X\/sB.heap.get? b=ai)(ht:Tg g X sB s)(hg:lD A.in1 a g aS fp wr n₀ (GFo o) 0 s)(hq:∀Y rs,Tg g X sB Y->rs.length=n₀->PM o sB (a::aS::fp) rs Y->Q (rs.map R) Y):C A (collect (R a)) s Q:=by
 have C':s.heap.objs.size∉a::aS::fp:=λhm=>by have:∃o,s.heap.get? s.heap.objs.size=O o:=bf (bu.mp hm) (λe=>eY hg.gen λo' _ _ e' _=>⟨o',by rw[e];show e'⟩) λhm=>hg.there _ hm;show dG this λo' e=>(absurd (cn e) (gw _))
 have hSI:s.heap.objs.size≠a:=λe=>C' bC;have hSB:sB.heap.get? s.heap.objs.size=ai:=by
  cases q:sB.heap.get? s.heap.objs.size with
  |none=>rfl
  |some o'=>show absurd (cn (ht.keep _ _ (λh=>C' (hXf _ h)) q)) (gw _)
 show C.bind<|C.runValue<|jR Ma Z<|C.bind<|cR<|ig<|C.pure ⟨lI Mc _,jR Fw Z ?_⟩;have Xt:=hg.frame (h':=s.heap.push {cls:=ak "list",data:=bU ([]:List aa).toArray}) (tk:=s.toks) xl λb _ o e=>a8 _ e;show(?_:C A.in1 (Vy (R s.heap.objs.size) (R a) (R s.heap.objs.size)) _ _);show C.bind (cR (ou Xt.gen.typeIs ?_));have h1:yD (R s.heap.objs.size) (R a)=af:=by simp[yD,hSI]
 show ee (by rw[h1];decide)<|C.bind<|cR<|Ei Xt.gen<|C.bind<|C.holding<|C.bind<|cR<|eH Xt.gen.typeIs PySem.F.gen_no_len<|C.bind<|cR<|eH Xt.gen.typeIs PySem.F.gen_no_hint<|C.pure<|(?_:C A.in1 (sN "list.extend.makes-room" >>=λ_=>VA (R s.heap.objs.size)>>=λ_=>
  again (fM "list.extend.loop" ⟨[R s.heap.objs.size,R a,R s.heap.objs.size],[]⟩)) _ _)
 show C.bind<|C.rule<|have PN:(s.heap.push {cls:=ak "list",data:=bU ([]:List aa).toArray}).get? s.heap.objs.size=O {cls:=ak "list",data:=bU ([]:List aa).toArray}:=bK _ Z;C.bind<|cR<|ag<|uS PN Z<|have Hh:=gN (dP (·.push aA)) PN Z;uS Hh Z ?_;have Y7:∀b o,b≠s.heap.objs.size->(s.heap.push {cls:=ak "list",data:=bU ([]:List aa).toArray}).get? b=O o->
  (((s.heap.push {cls:=ak "list",data:=bU ([]:List aa).toArray}).update s.heap.objs.size (dP (·.push aA))).update s.heap.objs.size (dP (·.pop))).get? b=O o:=
  λb o D e=>(mh _ _ (eO D)).trans ((mh _ _ (eO D)).trans e)
 show C.pure ⟨lI Fu _,I6 (sB:=sB) (rs:=[]) hh bM DK Oj vQ xl Ol Om hn C' hXf (λb D=>?_) n₀ 0 _ _ _ Z (fg _)
  ((hg.frame (tk:=s.toks) xl λb D o e=>Y7 b o (λh=>C' (h▸D)) (a8 _ e))) (gN (dP (·.pop)) Hh Z) Z Z ⟨λr hr=>(kI hr),by simp⟩ ?_ λY c' rs m hl hr hS'=>?_⟩
 .rcases bu.mp D with e|e
  .rw [e];show aH hSB
  .show nM b e
 .show ht.trans (Tg.heap (X:=[]) (s:=s) (tk:=s.toks) λb o _ e=>Y7 b o (fB (cn e)) (a8 _ e)) zo
 show C.bind (cR (iW hS' (C.pure ?_)));have:=hq Y rs m hl ⟨λr ϫ=>hb (hr.1 r ϫ) λx y z=>(gQ x (λh=>y (bZ _ h)) z),hr.2⟩;lia
theorem C0(hh:dh A)(bM:A.depth<mQ)(DK:a≠aS)(Oj:a∉wr)(vQ:∀b∈wr,b∈fp)(xl:cE∈fp)(Ol:cE≠aS)(Om:cE∉wr)(hn:n₀<=1000){sB:ae}(hXf:∀b∈X,b∈a::aS::fp)(nM:∀b∈aS::wr,b∈X\/sB.heap.get? b=ai)(ht:Tg g X sB s)(hg:lD A.in1.in1 a g aS fp wr n₀ (GFo o) 0 s)(hq:∀Y rs,Tg g X sB Y->rs.length=n₀->PM o sB (a::aS::fp) rs Y->Q (R Y.heap.objs.size) {Y with heap:=Y.heap.push {cls:=ak "tuple",data:=bU (rs.map R).toArray}}):
 C A (call (bx "tuple.__new__") [ak "tuple",R a]) s Q:=by
 show C.call<|w3 VK VL Z<|C.eq (PySem.F.newCall_tuple_1 _)<|have alK:=sub_tuple_self;C.bind<|C.eq (rfl)<|ee aK<|C.bind<|C.pure<|C.bind<|C.eq madeHere_tuple<|C.bind<|C.eq init_tuple_lookup<| ?_;show ?_;show C.bind (m:=abI (R a)) (T.wY (v₀:=af) (aJ:=s) ?_ ?_)
 .show ag (ou hg.gen.typeIs (aB ⟨rfl,rfl⟩))
 show ee aK<|C.bind<|Hs hh bM DK Oj vQ xl Ol Om hn hXf nM ht hg λY rs m hl hr=>C.bind<|C.pure<|lB (ig ?_ (by change(rs.map R).toArray.size<=fc;have e1:=jW;simp;lia));show C.pure (hq Y rs m hl hr)
theorem Nq(hh:dh A)(bM:A.depth<mQ)(DK:a≠aS)(Oj:a∉wr)(vQ:∀b∈wr,b∈fp)(xl:cE∈fp)(Ol:cE≠aS)(Om:cE∉wr)(hn:n₀<=1000){sB:ae}(hXf:∀b∈X,b∈a::aS::fp)(nM:∀b∈aS::wr,b∈X\/sB.heap.get? b=ai)(ht:Tg g X sB s)(hg:lD A.in1.in1.in1 a g aS fp wr n₀ (GFo o) 0 s)(hq:∀Y rs,Tg g X sB Y->rs.length=n₀->PM o sB (a::aS::fp) rs Y->Q (R Y.heap.objs.size) {Y with heap:=Y.heap.push {cls:=ak "tuple",data:=bU (rs.map R).toArray}}):
 C A (call (ak "tuple") [R a]) s Q:=by
 show B4 Md (PySem.F.typeCall_tuple_1 _) PySem.F.entry_object_init (λ_=>rfl)
  <|C0 hh bM DK Oj vQ xl Ol Om hn hXf nM ht hg λY rs m hl hr=>have hT:(Shared.TypeIs {Y with heap:=Y.heap.push {cls:=ak "tuple",data:=bU (rs.map R).toArray}} (R Y.heap.objs.size) "tuple"):=ct _ (bK _ Z) Z;gQ hT (PySem.F.args_object_init_2 _ _)<|have:=(object_init_meets (rest:=[R a]) Md.init.lookup Md.made (rfl) prog w A.in1) (λr aQ=>r=cf (cL aA)/\aQ={Y with heap:=Y.heap.push {cls:=ak "tuple",data:=bU (rs.map R).toArray}}) _ (gQ hT Z Z);T.wz (P:=Pm A.in1 (λr aQ=>r=cf (cL aA)/\aQ={Y with heap:=Y.heap.push {cls:=ak "tuple",data:=bU (rs.map R).toArray}})) (gU this (λze s2 h2=>?_) λe s2 h2=>by cases h2.1) λze s2 h2=>?_
 .cases ze with
  |done f=>show h2
  |again c=>show⟨h2.1,RE h2.2⟩
 .cases ze with
  |done f=>show eX h2 λe1 e2=>e2▸⟨e1,hq Y rs m hl hr⟩
  |again c=>show⟨h2.1,h2.2.mono λr s3 qQ=>eX qQ λe1 e2=>⟨e1,by rw[e2];show hq Y rs m hl hr⟩⟩
protected theorem ER.gen{K:LN}{ks:List Int}{code:aa}(c:ed L scope fs K)(r:ER H U L J h G)(x:hx H h h')(jA:∀y∈fs,cl.lookup (NM y)=J.cells.lookup (NM y))(n:h'.Ns aS m)(hC:aS∉bY)(hl:K.length=ks.length)(hm:∀(j:Nat) x k,K[j]? =O x->ks[j]? =O k->∃t,m (NM x)=O (ah k t)):ER H U scope (genEnv scope cl aS code fY J) h' (putAll (lA G fs) K ks) where
 base:=r.base.trans x
 kind:=c.kind
 gl:=λ_ hy=>hy
 WD:=λ_ hy=>hy
 glob:=r.glob
 bi:=rfl
 loc:=hC
 has:=r.ahh c x jA (λy h=>aH (c.frees y h).1) n c.locs hl hm
theorem PO{c P:ab}(hc:c∉bY)(ot:U.IsCode c P #[])(vH:U.TableAt c P #[])(hP:P∈bY)(o9:P∉H)(b0:hx H U h):h.IsCode c P #[]/\h.TableAt c P #[]:=by show⟨FH ot (λ_=>b0.keep c _ hc) λ_=>b0.quiet P _ hP o9,?_⟩;obtain⟨⟨o,vs,t1,t2,t3,t4⟩,t5⟩:=vH;show⟨(MB o vs (b0.keep c _ hc t1) t2 t3 t4),b0.quiet P _ hP o9 t5⟩
theorem Xu{P:ab}{more:Array aa}(hP:P∈bY)(kr:P∈τ')(h1:h.get? P=O (tabObj #[]))(h2:h'.get? P=O (tabObj more))(E:KN P h h'):hx τ' h h':=by
 show⟨λb o hb' e=>E b o (λq=>hb' (q▸hP)) e,λb hb' ps e=>?_,λb o e=>if Μ:b=P then Μ▸⟨_,h2⟩ else⟨o,E b o Μ e⟩,λb o hb' hq' e=>E b o (λq=>hq' (q▸kr)) e⟩;show if Μ:b=P then ?_ else⟨#[],by simpa using E b _ Μ e⟩
 subst Μ;have hps:ps=#[]:=by
  injection (aV (e▸h1)) with _ _ h3 _
  injection h3
 subst hps;show⟨more,by simpa using h2⟩
def Cb(X:Prop)(elt cu iter:aw)(scope:c9)(pos:aY)(J:cg)(P:ab)(cl:List (aP×ab))(code:aa)(aS a:ab)(it:aa)(aQ hJ:ae):Prop:=
 X/\
 hJ.os=aQ.os/\
 hJ.drawn=aQ.drawn/\
 (∀b o,b≠P->aQ.heap.get? b=O o->hJ.heap.get? b=O o)/\
 hJ.heap.IsGen a aQ.gens.size/\
 hJ.gens=aQ.gens.push (LM (oO (lL elt [⟨cu,iter,[],0⟩] scope pos) 0 it aA (genEnv scope cl aS code fY J)))/\
 hJ.heap.Ns aS (λy=>if y= ".0" then O it else ai)/\
 aQ.heap.get? aS=ai/\
 aQ.heap.get? a=ai/\
 a≠aS/\
 aS∉bY/\
 a∉bY
theorem Xv{h3 h4:aN}{o2:bj}(hn:∀b o,h.get? b=O o->b<h3.objs.size)(top:Q0<=h3.objs.size)(hs4:gv h3.objs.size (h3.push o2) h4):
 h.get? h3.objs.size=ai/\h.get? h4.objs.size=ai/\h4.objs.size≠h3.objs.size/\h3.objs.size∉bY/\h4.objs.size∉bY:=by
 have key:∀b,h3.objs.size<=b->h.get? b=ai:=λb D=>by
  cases q:h.get? b with
  |none=>rfl
  |some o=>show absurd (ff (hn b o q) D) (gw _)
 rw[(hs4.1.trans (dD ..):h4.objs.size=h3.objs.size+1)];show⟨key _ (ey _),key _ (lP _),yo _,fi top,fi (qk top)⟩
theorem JG{K:LN}{cC P:ab}{It:aa->ae->Prop}(B:cA U mg mb)(c:ed L scope fs K)(hG:pT G fs=N)(h0:scope.names.lookup (".0" :aP)=O cZ)(Dx:scope.isCoroutine=af)(bM:A.depth<1000)(o8:J.code=R cC)(OX:cC∉bY)(ot:U.IsCode cC P #[])(vH:U.TableAt cC P #[])(hP:P∈bY)(o9:P∉H)(kr:P∈τ')(nN:∀b∈H,b∈τ')(r:ER H U L J s.heap G)(uk:T A (aZ iter J) s (λx aD=>T A (gm x) aD (λit aQ=>dz H s aQ/\It it aQ)))(hs:∀x,genFold iter J x=pure x)(hq:∀it aQ cl code aS a hJ,dz H s aQ->It it aQ->(∀y∈fs,cl.lookup (NM y)=J.cells.lookup (NM y))->Cb (hx τ' aQ.heap hJ.heap) elt cu iter scope pos J P cl code aS a it aQ hJ->Q (R a) hJ):
 T A (aZ (lL elt [⟨cu,iter,[],0⟩] scope pos) J) s Q:=by
 show bh (c.OG r hG) λcl jA wO=>(Tw Dx jA c.cell h0 c.kind (by assumption) (uk.wp λxv aD h1=>h1.CA λit aQ e2 hI=>⟨B.zr (r.base.trans e2.ext),?_⟩) hs);have b2:=r.base.trans e2.ext;show eX (PO OX ot vH hP o9 b2) λakA aeI=>have top2:=jy B.top b2;wpAny_genexprCodeX o8 akA aeI Z λc' h3 tk E hge jz _ Ru YH _=>have x3:=Xu hP kr aeI.2 YH.2 E;have b3:=(b2.up nN).trans x3;vt B.bmod λbm ob hbm Rq hbT Rr Rt GG BH=>(Eh (by rw[r.glob];show B.mg b3) hbm Rq (b3.keep bm _ hbT Rr) Rt GG BH ?_);intro h4 hn4 hs4;have x4:=λb o e=>hs4.extBut b o (fB (cn e)) (a8 _ e);have ahW:=ba hge (gx jz);show hq it aQ cl _ h3.objs.size h4.objs.size _ e2 hI wO ⟨x3.trans (.of_keep λb o e=>a8 _ (x4 b o e)),rfl,rfl,λb o D e=>a8 _ (x4 b o (E b o D e)),
  (DV _ _ _ (bK _ Z) Z Z Z),rfl,hn4.push _,Xv (λb o e=>ff (cn e) ahW) (ba top2 ahW) hs4⟩
def Xw(n:Nat)(P:Nat->aa->Prop)(s:ae)(it:aa)(aQ:ae):Prop:=
 ∃I St,it=R I/\(∀A':ck,dh A'->mS prog w A' I [I] [I] n P St)/\St 0 aQ.heap/\s.heap.get? I=ai/\(∀i h,St i h->kK h I)
section
variable{aQ hJ:ae}
theorem DL{a b c:Int}{t u v:aW}{rr:ab}(e:dz H s aD)(hr:qf aD.heap rr a b c t u v)(hs:vg a b c=N)(hn:kY a b c=(n:Int)):T A (gm (R rr)) aD (λit aQ=>dz H s aQ/\Xw n (Gu (Dt a c n)) s it aQ):=by show Aq hr hs ⟨e.trans ⟨.push _ _,rfl,rfl,eV _⟩,?_⟩;show hn.symm▸⟨aD.heap.objs.size,_,rfl,λA' R4=>vF (Mv R4 _ a c n) Z (λi v hi qQ=>dG qQ λt hv=>kH _ t (o4.mpr ⟨hi,rfl⟩) hv),?_,e.ext.new (bF _),λi h st=>(ct _ st (ao ⟨_,rfl,λx t e=>by simp[dN]at e⟩))⟩;rw[(by simp:(a+((0:Nat):Int) * c)=a),(by simp:((n:Int) - ((0:Nat):Int))=n)];show bK _ Z
theorem Y8(B:cA U mg mb)(I:dQ mg mb)(kM:Gi L "range")(he:V H U A L J G e (aT k) af)(dH:cG e=af)(hk:k<=100000)(r:ER H U L J s.heap G):
 T A (aZ (bI (ar (aC "range") np) [e] [] pos) J) s (λx aD=>T A (gm x) aD (λit aQ=>dz H s aQ/\Xw k (Gu (Dt 0 1 k)) s it aQ)):=by
 show mB ("range") ("range") B I aK kM (rfl) (fJ.cons he fJ.nil dH) (by simp[dW,dH]) r λvs aD F e1 V1=>?_;apply nH V1;show λt=>sG (DL (e1.trans ⟨.push _ _,rfl,rfl,eV _⟩) (vp ..) (uX au au au au) ?_);rw[uU];split<;>lia
noncomputable def JH(h:aN)(aS a:ab):List ab:=(aI h.objs.size).filter λb=>(h.get? b).isSome && b != aS && b != a
theorem pZ{b:ab}:b∈JH h aS a↔(∃o,h.get? b=O o)/\b≠aS/\b≠a:=by
 delta JH
 rw[gq,dm];constructor
 .rintro ⟨_,h⟩;simp at h;show gQ (yr.mp h.1.1) h.1.2 h.2
 .show λoj=>og λgG kG=>hb oj λi1 h2 h3=>dG i1 λo e=>kG ?_;clear kG gG;show⟨cn e,by simp[e,h2,h3]⟩
variable{P:ab}{code:aa}
theorem Cb.later(g:Cb (hx τ' aQ.heap hJ.heap) elt cu iter scope pos J P cl code aS a it aQ hJ)(x:hx τ' s.heap aQ.heap)(hI:s.heap.get? I=ai)(hk:∀b∈JH hJ.heap aS a,b∉[I]->∀o,hJ.heap.get? b=O o->h'.get? b=O o):hx τ' s.heap h':=by
 show dU g λg1 _ _ _ _ _ _ ϳ=>jd ϳ λg8 g9 _ _ _=>?_;have x5:=x.trans g1;have key:=λb o o' e e5=>by
  show dG (x.there b o e) λo2 e2=>(hk b (pZ.mpr ⟨⟨_,e5⟩,λq=>?_,λq=>?_⟩) (λq=>?_) o' e5)
  .have e2:=g8▸q▸e2;ext
  .have e2:=g9▸q▸e2;ext
  .simp at q;have e:=hI▸q▸e;ext
 show⟨λb o D e=>key b o _ e (x5.keep b o D e),λb D ps e=>dG (x5.tab b D ps e) λmore e5=>⟨more,key b _ _ e e5⟩,λb o e=>dG (x5.there b o e) λo' e5=>⟨o',key b o o' e e5⟩,λb o D ht e=>key b o _ e (x5.quiet b o D ht e)⟩
theorem lD.made{Pv:Nat->aa->Prop}{F:zB}(hFb:F.Back){X:Prop}(g:Cb X elt (ar (NM x) px) iter scope pos J P cl code aS a (R I) aQ hJ)(hh:dh A)(hW:∀A':ck,dh A'->mS prog w A' I [I] [I] (n+1) Pv St)(dH:St 0 aQ.heap)(Xx:∀i h,St i h->∃o,h.get? I=O o)(hIP:I≠P)(hl:hJ.heap.NoLimit)(hk:scope.kind=d0)(E:scope.names.lookup (NM x)=O cZ)(Dx:scope.isCoroutine=af)(hIf:I∈fp)(WN:aS∉fp)(hfe:∀b∈fp,∃o,hJ.heap.get? b=O o)(hel:acP (genEnv scope cl aS code fY J) (NM x) elt fp [I] Pv F hJ.heap):
 lD A a aQ.gens.size aS fp [I] (n+1) F 0 hJ:=by
 show dU g λ_ _ _ g4 g5 g6 g7 afK=>jd afK λ_ _ _ _ _=>?_;have CH:=λA' h'=>(hW A' h').mono_fp λb D=>by apply jS D;show hIf
 show⟨g5,hl,λb D=>bf (bu.mp D) (λe=>e▸eY g7 λo' _ _ e' _=>⟨o',e'⟩) λe=>hfe b e,LM _,by rw[g6];show Array.getElem?_push_size ..,λmE DG=>?_⟩;show Y6 (A:=A.in1) (cenv:=genEnv scope cl aS code fY J) hFb hh CH (λi h st b D=>by show bJ.mp D▸?_;show Xx i h st) hJ.heap E (by simp[genEnv,hk]) Dx WN hel mE mE _
  ((hW A hh).frame _ _ _ ((hW A hh).frame _ _ _ dH λb D o e=>g4 b o (bJ.mp D▸hIP) e) λb D o e=>by cases bJ.mp D;show DG _ (dF _ hIf) o e) (g7.at' λo e=>DG _ (iy ..) o e) (GD.refl _ _ _) λb D _ o e=>DG b (dF _ D) o e
end
def oh:bT:=cS 23
noncomputable def C1:LN:=cb 13 2
def vT:List (LN):=cb 13 C1
section
variable{Q:b8->ae->Prop}
theorem PS.up(p:PS H U L J aJ bq bB G S s)(nN:∀b∈H,b∈τ'):PS τ' U L J aJ bq bB G S s:=⟨gC p.fr λW r a b=>(kF W (r.up nN) a b),p.sg,p.mod,p.lC⟩
def gi(U:aN):Prop:=∀b∈bY,∃o,U.get? b=O o
structure Ad(H:List ab)(s Y:ae):Prop where
 ext:hx H s.heap Y.heap
 os:Y.os=s.os
 drawn:Y.drawn=s.drawn
 gens:nV s.gens Y.gens
theorem dz.pe(x:dz H s Y):Ad H s Y:=⟨x.ext,x.os,x.drawn,.of x.gens⟩
theorem Ad.trans{a b c:ae}(x:Ad H a b)(y:Ad H b c):Ad H a c:=⟨x.ext.trans y.ext,y.os.trans x.os,y.drawn.trans x.drawn,y.gens.trans x.gens⟩
theorem Ad.akB(W:List ab)(x:Ad H s Y):sv W s Y:=⟨x.ext.mod W,x.os,x.drawn,x.gens⟩
theorem PS.Xy(p:PS H U L J aJ bq bB G S s)(x:Ad H s Y):PS H U L J aJ bq bB G S Y:=gC p.fr λW r hW hd=>⟨(kF W (r.grow x.ext) hW hd),p.sg.ext x.ext,p.mod.trans (x.akB []) (λd hd=>kI hd),p.lC⟩
theorem PS.grown(p:PS H U L J aJ bq bB G S s)(hT:gi U)(x:Ad H s Y)(h:∀y∈bw,s.heap.get? y.1=ai/\Y.heap.get? y.1=O y.2/\Hl y.2=N):PS H U L J aJ bq bB G (bw++S) Y:=by
 have p':=p.Xy x;show gC p.fr λW r q1 q2=>?_;have nM:∀y∈bw,y.1∉W:=λy hy q=>by show oT (r.ji _ q) λ_ _ o' e _=>?_;have e:=((h y hy).1).symm.trans e;ext
 have vH:∀y∈bw,y.1∉bY:=λy hy q=>by show dG (hT _ q) λo e=>(dG (p.ext.there _ o e) λo' e'=>?_);have e':=((h y hy).1).symm.trans e';ext
 show⟨⟨W,r.grow x.ext,q1,λy hy=>by
  rcases b9.mp hy with e|e
  .show nM y e
  .show q2 y e⟩,λy hy=>by
  rcases b9.mp hy with e|e
  .show ⟨(h y e).2.1,vH y e,(h y e).2.2,p.ext.new (h y e).1⟩
  .show p'.sg y e,p'.mod,λy hy=>by
  rcases b9.mp hy with e|e
  .show aH (p.mod.mod.new (h y e).1)
  .show p'.lC y e⟩
theorem afL{p2:aY}{aQ:ae}(B:cA U mg mb)(I:dQ mg mb)(r:ER H U scope M' aQ.heap Gx)(kM:Gi scope "bytearray")(E:cq Gx x=O (k,a7 ns))(D:lX ns):
 C A (aZ (bI (ar (aC "bytearray") np) [ar (NM x) p2] [] pos) M') aQ (λy de=>GF (kz ns) y aQ de/\Keeps aQ de):=by
 have hI:=I ("bytearray",ak "bytearray") aK;show fU<|Lake.T.wY (ez B r kM hI.1 hI.2 (rfl))<|dg (rfl)<|ej<|cx<|Lake.T.wcV (v9 r E) λv F aO=>c8 (iE ⟨rfl,?_⟩);apply fP aO;intro l vs n F' _ hl V' _;show uG ("list") n hl (ao Z) (intsAre_of V' (dS ns)) D.1 D.2 ⟨(kF _ Z (bF _) (bK _ Z)),_,_,rfl,λb o e=>a8 _ e⟩
theorem ϴ:∀rs:List ab,bD h (rs.map λr=>aX (R r)) (rs.map R) []:=by
 intro xX;induction xX with
 |nil=>show .nil
 |cons r rs iH=>show eg [] [] (.iq _) (iH)
theorem Ht:∀rs:List ab,iT (rs.map λr=>aX (R r))=N:=by
 intro xX;induction xX with
 |nil=>show rfl
 |cons _ rs iH=>show iH
def ahX:bT->c9
 |fE _ e _=>uy (ae6 e)
 |_=>bg oh
theorem ahY{k1 k2:Nat}{cC:ab}(hh:dh A)(B:cA U mg mb)(I:dQ mg mb)(hT:gi U)(bM:A.depth<1000)(p:PS H U (bg oh) J aJ bq bB G S s)(h31:cq G 31=O (k1,a7 C1))(h61:cq G 61=O (k2,aT 13))(dH:bW G 9=N)(o8:J.code=R cC)(OX:cC∉bY)(ot:U.IsCode cC 1934 #[])(vH:U.TableAt cC 1934 #[])(o9:1934∉H)(kr:1934∈τ')(nN:∀b∈H,b∈τ')(kk:∀Y rs,rs.length=13->rs.Nodup->(∀y∈S,y.1∉rs)->PS τ' U (bg oh) J aJ bq bB (jl G 9 0 (uo rs)) (uI rs vT++S) Y->C A (aU rest J) Y Q):
 C A (aU (bc (bo oh) 4::rest) J) s Q:=by
 have hP:1934∈bY:=by decide
 show yU (x:=9) (τ':=τ') (U:=U) (aJ:=aJ) (bq:=bq) (bB:=bB) (L:=bg oh) dH (ao Z) Z<|have hI:=I ("tuple",ak "tuple") aK;have R5:ed (bg oh) (ahX (bc (bo oh) 4)) [31] [14]:=ed.of (rfl);have r0:ER H U (bg oh) J s.heap G:=bh p.fr λW r _=>r.er;fU<|Lake.T.wY (ez B r0 Z hI.1 hI.2 (rfl))<|dg (rfl)<|ej (cx (Lake.T.wc (JG (τ':=τ') (fs:=[31]) (K:=[14]) (P:=1934) B R5 (by rw[pT];rw[h31];rfl) (rfl) Z bM o8 OX ot vH hP o9 kr nN r0
  (Y8 (k:=13) B I (by rfl) (aq 61 h61) Z bA r0) (λ_=>rfl) λit aQ cl code aS a hJ e2 hIt jA g=>dU g λg1 g2 g3 g4 _ g6 _ ϳ=>jd ϳ λg8 g9 g10 g11 _=>c8 (iE ⟨rfl,?_⟩))))
 show lZ hIt λIa St dX hW Nr hIn Xx=>?_;have Xx:∀i h,St i h->∃o,h.get? Ia=O o:=λi h st=>bh (Xx i h st) λo e _=>⟨o,e⟩;have x2:hx τ' s.heap aQ.heap:=e2.ext.up nN;have hIP:Ia≠1934:=λq=>by show dG (hT 1934 hP) λo e=>dG (r0.base.there _ o e) λo' e'=>?_;have e':=hIn▸q.symm▸e';ext
 have ϵ:hJ.heap.NoLimit:=B.zr ((r0.base.up nN).trans (x2.trans g1));show bh ϵ λmc nsS _=>?_;subst dX;have xl:cE∈JH hJ.heap aS a:=bh (B.zr (r0.base.trans e2.ext)) λmc2 PQ _=>eY PQ λo2 _ _ e2' _=>eY nsS λo5 _ _ e5' _=>(pZ.mpr ⟨⟨o5,e5'⟩,λq=>(by rw[q,g8]at e2';ext),λq=>(by rw[q,g9]at e2';ext)⟩);have Hu:∃o,aQ.heap.get? Ia=O o:=Xx _ _ Nr;have hIa:Ia≠a:=λq=>by obtain⟨o,e⟩:=Hu;have e:=g9▸q▸e;ext
 have hIf:Ia∈JH hJ.heap aS a:=pZ.mpr (gQ (dG Hu λo e=>⟨o,g4 Ia o hIP e⟩) (λq=>by obtain⟨o,e⟩:=Hu;rw[q,g8]at e;ext) hIa);have hcI:cE≠Ia:=λq=>by show bh (B.zr r0.base) λmc2 PQ _=>(eY PQ λo2 _ _ e2' _=>?_);have e2':=hIn▸q▸e2';ext
 show Nq (A:=A) (aS:=aS) (fp:=JH hJ.heap aS a) (wr:=[Ia]) (n₀:=13) (o:=kz C1) (sB:=hJ) (X:=[aS,Ia]) hh (by assumption) g10 (λq=>hIa (bJ.mp q).symm) (λb D=>by simp at D;show D▸?_;show hIf) xl (λq=>(pZ.mp xl).2.1 q) (λq=>hcI (bJ.mp q)) bA
  (λb D=>by simp at D;rcases D with rfl|rfl<;>lia) (λb D=>ao D) (.refl _ _ _) (lD.made (x:=14) (n:=12) (GFo.back _) g hh hW Nr Xx hIP ϵ Z Z Z hIf (λh=>(pZ.mp h).2.1 Z) (λb D=>(pZ.mp D).1) ?_) ?_
 .intro A' i v s3 m3 R4 hv hn hm hk;show eQ hv λk t hk1 qC=>?_;subst qC;have r3:=(r0.up nN).gen (code:=code) (cl:=cl) (aS:=aS) (m:=m3) (ks:=[k]) R5 (g.later x2 hIn hk) jA hn g11 Z (λj x k' h1 h2=>by
   cases j with
   |zero=>simp at h1 h2;subst h1 h2;show DU t hm
   |succ j=>ext)
  show afL (ns:=C1) (x:=31) (k:=k1) B I r3 (rfl) ?_ ⟨by decide,Oe Z⟩;unfold lA;rw[h31];rfl
 .intro s6 rs m6 hl6 hr6;have e06:Ad τ' s s6:=by
   have xg:hx τ' s.heap s6.heap:=g.later x2 hIn λb D hb2 o e=>m6.keep b o (λq=>by
    rcases bu.mp q with q|q
    .show (pZ.mp D).2.1 q
    .show hb2 q) e
   show⟨xg,m6.os.trans (g2.trans e2.os),m6.drawn.trans (g3.trans e2.drawn),(l5.sf Z (g6▸m6.gens)).trans (.of e2.gens)⟩
  have nM:∀r∈rs,s.heap.get? r=ai:=λr hr=>by
   cases q:s.heap.get? r with
   |none=>rfl
   |some o=>show dG ((x2.trans g1).there r o q) λo2 q2=>?_;have q2:=((hr6.1 r hr).2.2).symm.trans q2;ext
  have e07:Ad τ' s {s6 with heap:=s6.heap.push {cls:=ak "tuple",data:=bU (rs.map R).toArray}}:=e06.trans ⟨.push _ _,rfl,rfl,.refl _⟩;have pf:=(p.up nN).grown hT e07 (bw:=uI rs vT) λy hy=>by
   show dG (sQ hy) λi hi=>?_;unfold uI at hi;rw[KQ]at hi;show eX hi λh1 h2=>?_;have hr:=cW h1;have ho:y.2=kz C1:=by have:=cW h2;simp[vT]at this;show this
   show ho.symm▸gQ (nM _ hr) (a8 _ (hr6.1 _ hr).1) Z
  show DV _ (uo rs) [] pf ?_ (Ht rs) (λY p'=>kk Y rs hl6 hr6.2 (λy hy q=>?_) p')
  .show DV s6.heap.objs.size (rs.map R) 0 Z (fi (jy B.top ((r0.base.up nN).trans e06.ext))) (bK _ Z) (ϴ rs)
  .have:=nM _ q;have this:=((p.sg y hy).1)▸this;ext
end
section
variable{Q:b8->ae->Prop}
theorem FR.ahZ(r:FR H U U L J h G W)(x:hx τ' U h')(keep:∀b o,b∉wr->b∉bY->h.get? b=O o->h'.get? b=O o)(hw:∀b∈wr,kK h b/\b∉bY/\b∉W):FR τ' U U L J h' G W:=
 r.abX (.refl _) x (λb hb' o e=>keep b o (λq=>(hw b q).2.2 hb') (r.ji b hb').2.1 e) (λc v ht x=>Bo (λo q=>⟨keep c o (λz=>(hw c z).1.WL x) ht q.1,q.2⟩) x)
  λy k av v F _ aO=>aO.off (λb o hb' ht e=>keep b o hb' ht e) (λb hb'=>aH (hw b hb').1) _ _ _ λb hb' hq=>(hw b hq).1.WH aO hb'
noncomputable def gc(o:bj):Bool:=match o.data with
 |qm ..=>N
 |sZ=>N
 |eJ ..=>N
 |bH ws=>match ws[1]? with
  |some (cI _ _)=>af
  |_=>N
 |_=>af
theorem rT(e:h.get? a=O o)(hi:gc o=N):kK h a:=by
 show ct o e ?_;unfold gc at hi;cases q:o.data with
 |bytearray b n=>show aH (aH (ao (qA b n Z)))
 |plain=>show aH (aH (aH Z))
 |dict es n=>show aH (ao (qA es n Z))
 |fields ws=>have hi:=q▸hi;show ao (ct ws Z (λx t e=>?_));simp only[e]at hi;ext
 |_=>have hi:=q▸hi;show IE (by assumption)
theorem PS.called(p:PS H U L J aJ bq bB G S s)(q:PS τ' U sc' fV s [] (S.map (·.1)) G' S' Y)(hi:∀y∈S,gc y.2=N):PS τ' U L J aJ bq bB G S' Y:=by
 show gC p.fr λW r hW dj=>?_;have m:sv (S.map (·.1)) s Y:=by have:=q.mod;show this
 have r':=r.ahZ q.ext (λb o D ht e=>m.mod.keep b o D ht e) (λb D=>by show bh (bG.mp D) λy hy e=>?_;subst e;show iL (p.sg y hy) λc1 c2 c3 c4=>((gQ (rT c1 (hi y hy)) c2 (dj y hy))))
 show⟨(kF W r' hW (λy hy hw=>?_)),q.sg,p.mod.trans m λd hd=>?_,λy hy=>bf (q.lC y hy) (λh=>bh (bG.mp h) λz hz e=>e▸p.lC z hz) λh=>aH (p.mod.mod.new h)⟩
 .rcases q.lC y hy with h|h
  .show bh (bG.mp h) λz hz e=>(dj z hz (e▸hw))
  .show dG ((λb hb'=>oT (r.ji b hb') λ_ _ o e _=>⟨o,e⟩:∀b∈W,∃o,s.heap.get? b=O o) _ hw) λo e=>?_;have e:=h.symm.trans e;ext
 .show bh (bG.mp hd) λz hz e=>?_;subst e;show bf (p.lC z hz) (λh=>ao (ew _ h)) λh=>aH h
end
section
variable{Q:b8->ae->Prop}
theorem PS.afM(p:PS H U L J aJ bq bB G S s)(he:V H s.heap A L J G e av af)(hf:flat av=N)(k:∀Y v,PS H U L J aJ bq bB G S Y->bR Y.heap av v []->Q (cL v) Y):C A (aU (yt (O e) pos::rest) J) s Q:=by show ip<|Lake.T.wz (P:=λf Y=>∃v F,f=cL v/\dz H s Y/\bR Y.heap av v F) (xH ((he p.er).tM λv aD F e1 aO _=>Ot v F Z e1 aO)) λf Y oj=>jx oj λv F e1 e2 aO=>e1▸?_;have hF:=cV.1 _ _ _ hf aO;subst hF;show k Y v (p.grow e2) aO
theorem acQ{a b:aw}{x y:Bool}(ha:V H U A L J G a (fG x) af)(D:x=N->V H U A L J G b (fG y) af):
 V H U A L J G (KP Ww [a,b] pos) (fG (x && y)) fr:=λs r=>by
 show ag ((ha r).tM λv aD F1 e1 V1 _=>ag (jV ?_));have ev:=V1.toBool;subst ev;show ag (cO (l8 ?_));cases x with
 |false=>show aB (oX [] e1 (.ofBool _) d9)
 |true=>show(D Z (r.ext e1.ext)).tM λu aQ F2 e2 V2 _=>?_;have ev:=V2.toBool;subst ev;show⟨e1.trans e2,[],.ofBool _,d9⟩
theorem PR{a b:aw}(B:Tp U)(ha:V H U A L J G a (a7 [n]) af)(D:V H U A L J G b (aT k) af)(hk:k<=1000):
 V H U A L J G (eu a vo b pos) (a7 (cb k n)) fr:=by
 have WI:aj k=(k:Int):=rfl;have:=Rc (fr:=fr) (pos:=pos) (x:=aT n) (n:=aj k) B ha D Z (decide_eq_true (by rw[WI];simp)) (decide_eq_true (Mr WI Z hk));show V.to this ?_
 delta a7
 rw[show(aj k).toNat=k from rfl,KW]
theorem zC(K:LN){us:List aa}{Q:aa->ae->Prop}(B:cA U mg mb)(x1:hx H U s.heap)(bM:A.depth<1000)(dA:qS U a fd st)(Dx:(bg st).isCoroutine=af)(zg:(bg st).isGenerator=af)(hk:(bg st).kind=d0)(sd:T A.in1 (du fd ⟨vs,[]⟩) s (λbs Y=>Y=s/\bs=(K.map NM).zip us))(aO:bD s.heap avs us F)(tQ:K.Nodup)(dM:K.length=us.length)(E:∀x∈K,Hx (bg st) x)(cB:z8 U S s.heap)(hw:∀aQ bw,PS H U (bg st) (gI fd bw a) s [] (S.map (·.1)) (qF K avs) S aQ->
 C (A.deeper (gI fd bw a)) (aU (bo st) (gI fd bw a)) aQ (λf Y=>Q (Xh f) Y)):C A (call (R a) vs) s Q:=by
 have N':=dA.ext x1;show bh N'.at_.obj λo ho hd=>(C.call (Xi (S:=S) B x1 bM ho hd (N'.at_.ab9 (H:=H) (.refl _)) dA.body dA.clo (by rw[dA.scope];show Dx) (by rw[dA.scope];show zg) sd aO (by rw[dA.scope];show hk) dA.glob dA.bi tQ dM (by rw[dA.scope];show E) cB λaQ bw p=>?_));rw[dA.scope]at p;show(hw aQ bw p).mono λf Y h=>h
theorem sh(avs:List AV){nm:aP}{Q:aa->ae->Prop}(B:cA U mg mb)(p:PS H U L J aJ bq bB G S s)(hg:mg nm=O (R a))(kM:L.names.lookup nm=O kV)(hdb:(nm==("__debug__" :aP))=af)(dA:qS U a fd st)(he:fJ H s.heap A L J G (e::es) avs)(dH:dW (e::es)=N)(h:∀vs aD F,dz H s aD->bD aD.heap avs vs F->C A (call (R a) vs) aD Q):C A (aZ (bI (ar nm np) (e::es) [] pos) J) s Q:=fU<|Lake.T.wY (rZ (p.base B) p.er kM hg hdb)<|bh ((dA.ext p.ext).at_.obj) λo ho hd=>(pD o fd (acA p.er he dH λvs aD F x1 aO=>⟨⟨x1.ext.keep a o dA.at_.off ho,hd⟩,h vs aD F x1 aO⟩))
def PT(cj:List (LN)):Nat->List (LN)
 | 0=>cj
 |n+1=>YZ (YZ (PT cj n) n 8 0) 8 n 0
theorem Hv(h:Mx cj):∀n,n<=9->Mx (PT cj n):=by
 intro xX;induction xX with
 |zero=>intro _;show h
 |succ n iH=>intro hn;show((iH (rx hn)).set au 8 aK).set bA n aK
theorem Ae:Mx vT:=⟨rfl,by decide⟩
def PU:List (LN):=PC (PT vT 9) 5
theorem ϶:Mx PU:=PD (Hv Ae 9 bA) 5 bA
def akC(rs:List ab):ie:=[(9,0,uo rs),(62,0,fG N),(68,0,fG N),(60,0,aT 13),(108,0,fG N),(109,0,aX (R (rs.getD 8 0)))]
theorem ah0(hp:fd.params=fo (cS 19))(hd:fd.defaults=aA)(v u:aa):du fd ⟨[v,u],[]⟩=pure (([9,68].map NM).zip [v,u]):=by
 delta du
 show hp.symm▸hd.symm▸?_;rfl
theorem yZ:∀y∈uI rs cj,gc y.2=N:=λy hy=>by have:=(sS (show(y.1,y.2)∈_ from hy)).2;show bh (bG.mp this) λr _ e=>e▸?_;rfl
theorem acR{cC:ab}{QW:bQ}(hh:dh A)(B:cA U mg mb)(I:dQ mg mb)(hT:gi U)(bM:A.depth<1000)(hS:∀y∈S,gc y.2=N)(hgT:mg (aC "add_timing_pattern")=O (R 1914))(NT:qS U 1914 QW (cS 19))(Y9:QW.defaults=aA)(p:PS H U (bg oh) J aJ bq bB (qF [60,61,107,108] [aT 13,aT 13,fG N,fG N]) S s)(o8:J.code=R cC)(OX:cC∉bY)(ot:U.IsCode cC 1934 #[])(vH:U.TableAt cC 1934 #[])(o9:1934∉H)(kr:1934∈τ')(nN:∀b∈H,b∈τ')(kk:∀Y G' rs v,rs.length=13->rs.Nodup->(∀y∈S,y.1∉rs)->PS τ' U (bg oh) J aJ bq bB G' (uI rs PU++S) Y->bR Y.heap (uo rs) v []->Q (cL v) Y):
 C A (aU (bo oh) J) s Q:=by
 change C _ (aU [bc (bo oh) 0,bc (bo oh) 1,bc (bo oh) 2,bc (bo oh) 3,bc (bo oh) 4,bc (bo oh) 5,bc (bo oh) 6,bc (bo oh) 7] J) s Q;show p.s1 (S1.m (Aa Z)) λs1 p1=>p1.s1 (S1.m (bE 62 (fG N) (V.to (Gk .eq (aj 13) (aj 13) (aq 60 Z) (aq 61 Z)) Z) Z Z (ao Z) Z)) λs2 p2=>p2.s1 (S1.m (bE 68 (fG N) (V.to (acQ (x:=N) (y:=N) (aq 62 Z) (λ_=>V.to (Gk .lt (aj 13) 21 (aq 60 Z) V.int) Z)) Z) Z Z (ao Z) Z)) λs3 p3=>p3.s1 (S1.m (gb 31 (a7 C1) (PR (n:=2) (k:=13) B.top (pn (n:=2) B.top (aR 2) Z) (aq 60 Z) bA) Z Z (aH Z) Z)) λs4 p4=>ahY (k1:=1) (k2:=0) hh B I hT bM p4 Z Z Z o8 OX ot vH o9 kr nN λs5 rs hl tQ hd p5=>have hr:∀i,i<13->rs[i]? =O (rs.getD i 0):=λi hi=>kx au;p5.ite (x:=N) (mD 107 Z) λs6 p6=>p6.ite (x:=af) (vE (x:=N) (y:=af) (mD 62 Z) (λ_=>oY.to (my (x:=aj 13) (y:=41) .gt (aq 60 Z) V.int) Z)) λs7 p7=>eZ<|p7.s1 (S1.m (bE 109 (aX (R (rs.getD 8 0))) (yW 8 (aq 9 Z) (aR 8) (hr 8 bA) au Z) Z Z (ao Z) Z)) λs8 p8=>yT 14 (Dt 0 1 9) (λi (_:Unit)=>akC rs) (λi _=>uI rs (PT vT i)++S) () p8 (zS (k:=9) hh (p8.base B) I Z V.int Z aK aK)
  (km.rf bz bz) (λy hy=>hy) (ao Z) (λ_ _ _=>rfl) (λi n z t W hn q=>?_) (λ_=>rfl) (λs9 _ p9=>eZ ?_)
 .show eX (o4.mp hn) λhi hn=>?_;have wx:(n:Int)=aj i:=by rw[hn];simp
  subst wx;have hmi:=Hv Ae i au;show hb (hmi.get (i:=i) au) λm1 m2 m3=>hb ((hmi.set (i:=i) au 8 (v:=0) aK).get (i:=8) bA) λn1 n2 n3=>xe (rs.getD i 0) 8 0 q (aR 0) (yW i (aq 9 Z) (aq 14 Z) (hr _ au) au Z) (aR 8)
   (dc _ (pE (hr _ au) m1)) m3 au aK Z (yV tQ (hr _ au) _ hd) λt1 q1=>xe (rs.getD 8 0) i 0 q1 (aR 0) (aq 109 Z) (aq 14 Z)
   (dc _ (pE (hr _ bA) n1)) n3 au aK Z (yV tQ (hr _ bA) _ hd) λt2 q2=>q2.ite (x:=af) (FQ N (mD 68 Z)) λt3 q3=>eZ (eZ ⟨rfl,(),q3.less (km.rf bz bz)⟩)
 show p9.ite (x:=N) (mD 108 Z) λs10 p10=>bh p10.here λW hW ph=>z9 (by show bh p10.fr λW r _=>?_;delta iG;rw[r.scope];rfl) Z ?_;show sh _ B p10 hgT Z Z NT (fJ.cons (aq 9 Z) (fJ.cons (aq 68 Z) fJ.nil Z) Z) Z λvs s11 F x11 aO=>have p11:=p10.grow x11;kJ aO λv1 vs1 F1 F2 dX V1 V2 _=>?_;subst dX;show kJ V2 λv2 vs2 F3 F4 qC V3 V4 _=>?_;subst qC;show eX V4 λDX _=>?_;subst DX;show zC (S:=uI rs (PT vT 9)++S) [9,68] B p11.ext bM NT Z Z Z (by rw[ah0 NT.params Y9];show aB ⟨rfl,rfl⟩) aO aK Z aK p11.sg λs12 bw p12=>PE (A:=A.deeper _) hh B I hl tQ (Hv Ae 9 bA) hd p12 λs13 G13 p13=>⟨rfl,eZ ?_⟩;have pe:=p11.called p13 λy hy=>bf (b9.mp hy) (λq=>yZ y q) λq=>hS y q;show pe.afM (aq 9 Z) (Ht rs) λs14 v p14 aO=>kk s14 _ rs v hl tQ hd p14 aO
end
noncomputable def si(t:ab)(i:Nat):bj:={cls:=ak "tuple_iterator",data:=bH #[R t,ah i 0]}
section
variable{Q:b8->ae->Prop}
theorem Nt{ae7:List aw}{x1:Nat}{t T:ab}{Q:Unit->ae->Prop}(ho:s.heap.get? I=O (si t i))(hQ:Q () s):
 ax (aG prog w) A (jE (ik ae7 x1 pos) (R I) (R T)) Q a6 s:=by
 show ag<|iW ho<|(?_:ax _ A (if(["enumerate", "zip", "dict_itemiterator", "dict_reverseitemiterator", "odict_iterator", "itertools.zip_longest", "itertools.pairwise"].contains "tuple_iterator" &&
  (#[R t,ah i 0]:Array aa)[0]? ==O (dN T))=N then _ else _) Q a6 s)
 rw[if_neg (by intro h;show IE (by assumption))]
 show aB hQ
theorem Hw{t:ab}{x:aa}{Q:Option aa->ae->Prop}(ho:s.heap.get? I=O (si t i))(ht:s.heap.IsTuple t items)(E:items[i]? =O x)(hQ:∀h',h'.get? I=O (si t (i+1))->gv I s.heap h'->Q (O x) {s with heap:=h'}):ax (aG prog w) A (gX (R I)) Q a6 s:=by
 show QZ ht λol hol _ nl YO=>have uk:s.heap.IsTupleIter I t i:=kF _ ho Z Z;ag (sF (kS uk.typeIs VD
  (jU VD uk.typeIs PySem.F.entry_tuple_iterator_next ?_ (PySem.F.args_tuple_iterator_next_1 _))))
 show(?_:ax _ _ (sM (R I) 0>>=_) _ _ s);show ag<|fX ho Z (x:=R t) Z<|ag<|fX ho Z (x:=ah i 0) Z<|ag (jF hol YO ?_);simp only[KH,E];show ag (As ho Z (E0 [].length) (aB (ct x Z (aB (hQ _ ?_ (j5 ..))))));rw[gN _ ho Z];rfl
theorem PS.aeJ(p:PS H U L J aJ bq bB G S s){o':bj}(ha:(a,o)∈S)(hi:gc o=N)(t:Tn [a] s Y)(ho:Y.heap.get? a=O o')(hs:Hl o'=N)(hS:∀x∈S',(x.1=a/\x.2=o')\/(x.1≠a/\x∈S)):PS H U L J aJ bq bB G S' Y:=p.aeG ha (rT · hi) t ho hs hS
theorem PS.acS(p:PS H U L J aJ bq bB G S s){tk:Nat}(ha:(a,o)∈S)(hi:gc o=N)(hn:aJ.heap.get? a=ai)(keep:∀b o,b≠a->s.heap.get? b=O o->h'.get? b=O o)(hS:∀x∈S',x.1≠a/\x∈S):
 PS H U L J aJ bq bB G S' {s with heap:=h',toks:=tk}:=by
 show bh p.fr λW r hW=>iL (p.sg _ ha) λe1 e2 e3 e4=>⟨(kF W (r.off (wr:=[a]) (λb o D e=>keep b o (by simpa using D) e) (λb D=>by have D:=bJ.mp D;show D▸?_;show⟨rT e1 hi,e2,e4,(hW.2 _ ha)⟩)) hW.1 (λx E=>hW.2 x (hS x E).2)),λx E=>?_,p.mod.off (wr:=[a]) (λb o D e=>keep b o (by simpa using D) e) (λb D=>by show bJ.mp D▸?_;show⟨hn,e2⟩),λx E=>p.lC x (hS x E).2⟩;show iL (p.sg x (hS x E).2) λc1 c2 c3 c4=>rN (keep _ _ (hS x E).1 c1) c2 c3 c4
theorem PS.acT(q:PS τ' U sc' fV s W (S.map (·.1)) G' S' Y){ta:ab}(ht:ta∉bY)(Ϸ:s.heap.get? ta=O (cU vs n))(hW:∀b∈W,Cx s.heap b)(hS:∀y∈S,s.heap.get? y.1=O y.2/\gc y.2=N):
 Y.heap.get? ta=O (cU vs n):=by
 show q.mod.mod.keep ta _ (λh=>?_) ht Ϸ;rcases b9.mp h with h|h
 .show bh (hW ta h) λo e hk=>?_;obtain rfl:=aV (Ϸ.symm.trans e);rcases hk with⟨h1,_⟩|⟨_,_,h1⟩|⟨_,h1⟩
  .injection h1 with h3
   show nomatch h3
  .ext
  .ext
 .show bh (bG.mp h) λy hy e=>?_;obtain⟨c1,c2⟩:=hS y hy;rw[e,Ϸ]at c1;have c2:=(aV c1).symm▸c2;ext
theorem R6{Q:aa->Prop}(aO:bR h (gr [av]) v F)(hf:flat av=N)(k:∀ta v0 n,ta∉bY->h.get? ta=O (cU [v0] n)->bR h av v0 []->Q (R ta)):Q v:=
 pR aO λta vs n ht Ϸ aO=>nF (P:=λvs=>h.get? ta=O (cU vs n)->Q (R ta)) aO (λv0 F1 V1 Ϸ=>k ta v0 n ht Ϸ (cV.1 _ _ _ hf V1▸V1)) Ϸ
theorem Za{ζ:Type}{av0:AV}{G1:ie}{G2:ζ->ie}{S2:ζ->Sg}(hh:dh A)(B:cA U mg mb)(p:PS H U L J aJ bq bB G S s)(he:V H s.heap A L J G iter (gr [av0]) af)(hf:flat av0=N)(hs:Fs iter J)(hS:∀y∈S,gc y.2=N)(akD:∀aD I ta v S1 sA WA KA,aD.heap.get? I=O (si ta 1)->PS H U L J sA WA KA G S1 aD->bR aD.heap av0 v []->T A (jE cu (R I) v) aD (λ_ aQ=>aQ=aD)/\T A (jI cu J v) aD (λ_ aQ=>PS H U L J sA WA KA G1 S1 aQ))(OK:∀y aD sA WA KA,(∀z∈S,z.1≠y.1)->gc y.2=N->PS H U L J sA WA KA G1 (y::S) aD->C A (aU body J) aD (λfl aQ=>fl=cJ/\∃z,PS τ' U L J sA WA KA (G2 z) (y::S2 z) aQ/\(∀x∈S2 z,x.1≠y.1)))(k:∀z Y,PS τ' U L J aJ bq bB (G2 z) (S2 z) Y->C A (aU rest J) Y Q):
 C A (aU (kZ cu iter body [] pos::rest) J) s Q:=by
 show ip (RQ hs (T.wcE (he p.er) λv aD F e1 aO _=>?_));apply R6 aO hf;show λta v0 n ht Ϸ V1=>cR<|J8 (⟨_,Ϸ,rfl,n,rfl⟩)<|have p1:=p.grow e1;gC p1.fr λWA r1 hWA hdj=>have p2:=(⟨(kF WA r1 (λb D=>ao D) hdj),p1.sg,.refl _ _,λx E=>ao (bG.mpr (ct x E Z))⟩:PS H U L J aD WA (S.map (·.1)) G S aD).sf (o:=si ta 0) (tk:=aD.toks) B Z Z;have hnS:=λz hz=>fB (cn (p1.sg z hz).1);have hTn:∀{sa:ae} {h':aN},gv aD.heap.objs.size sa.heap h'->(∃o,h'.get? aD.heap.objs.size=O o)->Tn [aD.heap.objs.size] sa {sa with heap:=h'}:=λhs hm=>Tn.same hs au hm;Xf (λn Y=>(n=2/\Y={aD with heap:=aD.heap.push (si ta 0),toks:=aD.toks})\/(n=1/\∃z,PS τ' U L J aD WA (S.map (·.1)) (G2 z) ((aD.heap.objs.size,si ta 1)::S2 z) Y/\(∀x∈S2 z,x.1≠aD.heap.objs.size))) ?_ 2 (ao ⟨rfl,rfl⟩);rintro n' Y P1 P2 P3 q0 q1 q2 q3 (⟨rfl,rfl⟩|⟨rfl,z,pz,hz⟩)
 .show cR (Hw (p2.get (iy ..)) (nQ (a8 _ Ϸ)) (x:=v0) Z λh' g1 g2=>?_);have p3:=p2.aeJ (S':=(aD.heap.objs.size,si ta 1)::S) (iy ..) Z (hTn g2 ⟨_,g1⟩) g1 Z λx E=>by
   rcases bu.mp E with e|e
   .left;rw[e];show⟨rfl,rfl⟩
   .show aH ⟨hnS x e,bZ _ e⟩
  have hV3:=bR.off (λb o D _ e=>g2.extBut b o (vw D) e) (λb D=>by apply jS D;show aH (rT (p2.get (iy ..)) Z)) av0 v0 [] (λb D=>kI D) (V1.ext (H:=H) (.push _ _))
  show eX (akD {aD with heap:=h',toks:=aD.toks} aD.heap.objs.size ta v0 ((aD.heap.objs.size,si ta 1)::S) _ _ _ g1 p3 hV3) λa1 a2=>q1 _ _<|T.wz a1 λ_ s4 e4=>e4▸T.wz a2 λ_ s5 p5=>q2 _<|(OK (aD.heap.objs.size,si ta 1) s5 _ _ _ hnS Z p5).mono λfl s6 oj=>iM oj λhfl z pz hz=>hfl▸q3 1 _ bA (aH ⟨rfl,z,pz,hz⟩)
 .show cR<|J2 hh (kF _ (pz.get (iy ..)) Z Z) (nQ (pz.acT ht Ϸ (λb D=>(r1.ji b D).2.2) (λy hy=>⟨(p1.sg y hy).1,hS y hy⟩))) Z λh' he=>q0 _<|eZ<|k z _ (p1.back hWA (pz.acS (iy ..) Z (bF _) (λb o D e=>he b o D e) λx E=>⟨hz x E,bZ _ E⟩))
end
section
variable{Q:b8->ae->Prop}
theorem R7(a b n:Nat)(hab:a<=b)(D:b<=n):Mm (O (a:Int)) (O (b:Int)) 1 (n:Int)=((a:Int),(b:Int)):=by
 delta Mm
 congr 1<;>lia
theorem C2{sl:ab}{a b:Nat}{u u':aW}{Q:Int×Int×Nat->ae->Prop}(hs:s.heap.IsSliceOf sl (ah a u) (ah b u') aA)(hab:a<=b)(D:b<=n)(h:Q ((a:Int),1,b - a) s):
 ax (aG prog w) A (abB (R sl) (pure (n:Int))) Q a6 s:=by
 show gC hs λos Rn xl hds=>ag<|ag<|fX Rn hds (x:=ah a u) Z<|ag<|fX Rn hds (x:=ah b u') Z<|ag<|fX Rn hds (x:=aA) Z<|aB<|ag<|slicePart_none<|ag<|slicePart_int<|ag<|slicePart_int<|(?_:ax _ _ (match Mm (O (a:Int)) (O (b:Int)) 1 (n:Int) with|(lo,hi)=>pure (lo,(1:Int),VW lo hi 1)) _ _ s);rw[R7 a b n hab D];change ax _ _ (pure ((a:Int),(1:Int),VW (a:Int) (b:Int) 1)) _ _ s;show(places_from a b hab).symm▸aB h
theorem ϸ(K:Array aa)(a n:Nat):((aI n).filterMap λ(k:Nat)=>K[((a:Int)+(k:Int) * 1).toNat]?).toArray=((K.toList.drop a).take n).toArray:=by
 have e:(λ(k:Nat)=>K[((a:Int)+(k:Int) * 1).toNat]?)=λk=>K[a+k]? :=by
  funext k
  show congrArg _ (congrArg KJ (congrArg ((a:Int)+·) (Int.mul_one k)))
 show e.symm▸?_;have:=pick_run K a n;rw[List.filterMap_map]at this;rw[(rfl:((λx=>K[x]?)∘λx=>a+x)=λk=>K[a+k]?)]at this;show congrArg _ this
theorem Cc{t sl:ab}{a b:Nat}{u u':aW}{Q:aa->ae->Prop}(ht:IsTup s.heap t items)(hs:s.heap.IsSliceOf sl (ah a u) (ah b u') aA)(hab:a<=b)(D:b<=items.size)(ah1:b - a<items.size)(hl:items.size<=1000)(h:Q (R s.heap.objs.size) {s with heap:=s.heap.push {cls:=ak "tuple",data:=bU ((items.toList.drop a).take (b - a)).toArray}}):ax (aG prog w) A (xW (R t) (R sl)) Q a6 s:=by
 have Xz:sizeOk (bU ((items.toList.drop a).take (b - a)).toArray):=by change((items.toList.drop a).take (b - a)).toArray.size<=fc;simp;lia
 show gC hs λos Rn xl hds=>cO<|ag<|xJ ht.typeIs (rfl)<|ag (kS ht.typeIs slot_tuple_getitem
  (jU slot_tuple_getitem ht.typeIs entry_tuple_getitem ?_ (args_tuple_getitem _ _)))
 show(?_:ax _ _ (abJ (R t)>>=_) _ _ s);show ag<|tupleItemsOf_ ht<|ag<|ou ((ct os Rn xl))<|ag (C2 hs hab D ?_);have hno:¬(((a:Int)==0 && (1:Int)==1 && (b - a)==items.size)=N):=by rw[(by rw[beq_eq_false_iff_ne];show fB ah1:((b - a)==items.size)=af)];simp
 show(?_:ax _ _ (if((a:Int)==0 && (1:Int)==1 && (b - a)==items.size)=N then _ else _) _ _ s);show(if_neg hno).symm▸(ϸ items a (b - a)).symm▸?_;first
  |show ag (ig (aB (ct _ rfl (aB h))) Xz)
  |show ag (ig (aB ⟨_,rfl,aB h⟩) Xz)
  |show ag (ag (ig (aB (aB ⟨_,rfl,aB h⟩)) Xz))
  |show ag (ag (ig (aB ⟨_,rfl,aB h⟩) Xz))
theorem acU{a lo hi:aw}{m:Nat}(B:Tp U)(ha:V H U A L J G a (gr K) af)(hh:V H U A L J G lo (aT k) af)(hj:V H U A L J G hi (aT m) af)(hf:iT K=N)(Rb:k<=m)(hm:m<=K.length)(hp:m - k<K.length)(hl:K.length<=1000):V H U A L J G (dk a (mi (O lo) (O hi) eU p) pos) (gr ((K.drop k).take (m - k))) fr:=λs r=>by
 show rF<|(ha r).tM λv aD F1 e1 V1 _=>Et<|(hh (r.ext e1.ext)).CE λt aQ e2=>(hj ((r.ext e1.ext).ext e2.ext)).CE λt' de e3=>aB ?_;have τ:=(e1.trans e2).trans e3;apply pR ((V1.ext e2.ext).ext e3.ext);intro c vs n _ a3 a4;have l1:=bD.length a4;show bh (bD.drop k a4) λQ8 V4 _=>bh (bD.take (m - k) V4) λF3' V5 _=>have htp:IsTup (de.heap.push {cls:=ak "slice",data:=bH #[ah (aj k) t,ah (aj m) t',aA]}) c vs.toArray:=(show IsTup de.heap c vs.toArray from⟨_,a3,rfl,n,rfl⟩).keeps λ_ _ e=>a8 _ e;vi htp.typeIs slot_tuple_getitem.lookup (Cc htp (kF _ (bK _ Z) Z Z) Rb (by simp;show le_of_le_of_eq hm (id (ml l1))) jP (by simp;show le_of_eq_of_le l1 hl) ?_) (rfl);show⟨τ.trans ⟨(hx.push _ _).trans (.push _ _),rfl,rfl,eV _⟩,[],?_,d9⟩;show DV _ ((vs.drop k).take (m - k)) 0 Z (fi (ba (jy B (r.base.trans τ.ext)) (by rw[dD];show lP _))) ?_ ?_
 .have:=bK (de.heap.push {cls:=ak "slice",data:=bH #[ah (aj k) t,ah (aj m) t',aA]}) (o:=cU ((vs.drop k).take (m - k)) 0) Z;show this
 .have hF:=cV.2 _ _ _ (zP (m - k) _ (zO k K hf)) V5;show hF▸V5.ext (H:=H) ((hx.push _ _).trans (.push _ _))
theorem zh{o i:aw}{wy:aY}{value:aw}{Q:b8->ae->Prop}(h:C A (aZ value J) s (λv aD=>C A (aZ o J) aD (λov aQ=>C A (aZ i J) aQ (λiv de=>C A (AE ov iv v) de (λ_ Y=>Q cJ Y)))))(hs:fu value (O (dk o i wy)) pos.line J=pure af):C A (mU (fE [dk o i wy] value pos) J) s Q:=by rw[exec_Assign_Subscript o i wy value pos hs];show nO<|C.bind<|h.mono λv aD U=>C.bind<|lH (U.mono λov aQ ko=>lH (ko.mono λiv de uj=>nO (lH (uj.mono λ_ fq Gz=>C.release (C.pure Gz)))))
theorem R8(ns ms:LN)(k m:Nat):(wo ns).extract 0 k++wo ms++(wo ns).extract m (wo ns).size=wo (ns.take k++ms++ns.drop m):=by apply Bc;simp[wo];show KR fF
theorem Ϲ{lo hi v:aw}{m:Nat}{f4:Bool}{p1 p':aY}(p:PS H U L J aJ bq bB G S s)(hv:V H s.heap A L J G v (gr (ms.map aT)) af)(he:V H s.heap A L J G e (aX (R a)) af)(IF:V H s.heap A L J G lo (aT k) af)(hhi:V H s.heap A L J G hi (aT m) f4)(ha:(a,kz ns)∈S)(hB:lX ns)(hm:m<=ns.length)(Rb:k+ms.length=m)(hms:∀x∈ms,x<256)(hs:fu v (O (dk e (mi (O lo) (O hi) ai p1) p')) pos.line J=pure af)(hS:∀y∈S',(y.1=a/\y.2=kz (ns.take k++ms++ns.drop m))\/(y.1≠a/\y∈S))(kk:∀Y,PS H U L J aJ bq bB G S' Y->C A (aU rest J) Y Q):C A (aU (fE [dk e (mi (O lo) (O hi) ai p1) p'] v pos::rest) J) s Q:=by show ip (zh (T.wcE (hv p.er) λvv aD F1 e1 V1 _=>W9 (he (p.er.ext e1.ext)) λaQ e2=>?_) hs);show cR<|Et<|(IF ((p.er.ext e1.ext).ext e2.ext)).CE λt de e3=>(hhi (((p.er.ext e1.ext).ext e2.ext).ext e3.ext)).tM λu' fq F4 e4 V4 _=>aB ?_;obtain⟨t',rfl⟩:=V4.toInt;apply pR (((V1.ext e2.ext).ext e3.ext).ext e4.ext);intro l vs n _ a3 a4;have pl:dz H s {fq with heap:=fq.heap.push {cls:=ak "slice",data:=bH #[ah (aj k) t,ah (aj m) t',aA]}}:=(((e1.trans e2).trans e3).trans e4).trans ⟨.push _ _,rfl,rfl,eV _⟩;have p5:=p.grow pl;have ho:=p5.get ha;show C.holding<|lB<|xJ (fm ho) (rfl)<|C.bind (vR (fm ho) nu (n9 (fm ho) nu uF (wk _ _ _) Z (PB ho (bK _ Z) (a8 _ a3) (intsAre_of a4 (dS ms)) hms (by rw[hZ];show hm) Rb (by rw[hZ];show hB.2) λs6 tn ho6=>?_)));rw[R8]at ho6;show ct _ Z<|C.pure (kk s6 (p5.turn ha Z tn ho6 Z hS))
end
def Af:bT:=cS 18
def fpV:AV:=gr (FPN.map λr=>gr (r.map aT))
noncomputable def PV(n:Nat):LN:=((FPN.getD (1+n) []).drop 1).take 8
def mF(cj:List (LN)):Nat->List (LN)
 | 0=>cj
 |n+1=>(mF cj n).set n (((mF cj n).getD n []).take 0++PV n++((mF cj n).getD n []).drop 8)
theorem PX:∀n,n<8->(PV n).length=8/\∀x∈PV n,x<256:=by decide
theorem afN:∀n,n<9->(FPN.getD n []).length=9/\FPN[n]? =O (FPN.getD n []):=by decide
theorem PY(h:Mx cj):∀n,n<=8->Mx (mF cj n):=by
 intro xX;induction xX with
 |zero=>show λ_=>h
 |succ n iH=>intro hn;have ih:=iH (rx hn);show hb (ih.get (i:=n) au) λh1 h2 h3=>eX (PX n au) λf1 f2=>ih.ahL (by rw[iu,iu,AQ,h2,f1];rfl) λx E=>bf (b9.mp E) (λq=>f2 x q) λq=>h3.1 x (rn q)
section
variable{Q:b8->ae->Prop}
theorem Ϻ{x:aP}(B:cA U mg mb)(E:L.names.lookup x=O kV)(hv:mg x=O v)(hd:(x==("__debug__" :aP))=af)(aO:bR U av v []):V H U A L J G (ar x pos) av fr:=λs r=>
 T.Dq (rZ B r E hv hd) (oX [] (.refl _) (aO.ext r.base) d9)
def ah2(rs:List ab)(rr:ab):ie:=[(9,0,uo rs),(14,0,aT 0),(15,0,aT 0),(65,0,aT 1),(66,0,aT 1),(64,0,aX (R rr))]
def gF0(rs:List ab)(rr:ab):ie:=[(9,0,uo rs),(63,0,gr [tU (0,0)]),(64,0,aX (R rr))]
theorem ϻ{S0:Sg}{vf:aa}(hh:dh A)(B:cA U mg mb)(I:dQ mg mb)(hl:rs.length=13)(tQ:rs.Nodup)(hm:Mx cj)(hd:∀y∈S0,y.1∉rs)(Z8:∀y∈S0,gc y.2=N)(hgf:mg (aC "_FINDER_PATTERN")=O vf)(hvf:bR U fpV vf [])(p:PS H U (bg Af) J aJ bq bB (qF [9,60,61] [uo rs,aT 13,aT 13]) (uI rs cj++S0) s)(k:∀Y G',PS H U (bg Af) J aJ bq bB G' (uI rs (mF cj 8)++S0) Y->Q cJ Y):C A (aU (bo Af) J) s Q:=by
 have hr:∀i,i<13->rs[i]? =O (rs.getD i 0):=λi hi=>kx au;change C _ (aU [bc (bo Af) 0,bc (bo Af) 1,bc (bo Af) 2,bc (bo Af) 3,bc (bo Af) 4,bc (bo Af) 5] J) s Q;show p.s1 (S1.m (Aa Z)) λs1 p1=>?_;show p1.s1 (S1.m (bE 62 (fG N) (V.to (Gk .eq (aj 13) (aj 13) (aq 60 Z) (aq 61 Z)) Z) Z Z (ao Z) Z)) λs2 p2=>?_;show p2.s1 (S1.m (bE 63 (gr [tU (0,0),qN (0,5),qN (-8,0)]) ?_ Z Z (ao Z) Z)) λs3 p3=>?_
 .show ui B.top (fJ.cons (GX B.top (aR 0) (aR 0) Z Z) (fJ.cons (av:=qN (0,5)) ?_ (fJ.cons (av:=qN (-8,0)) ?_ fJ.nil Z) Z) Z) Z Z
  .show ui B.top (fJ.cons V.int (fJ.cons (av:=a9 5) ?_ fJ.nil Z) Z) Z Z;show V.bin (x:=aj rs.length) (y:=8) .sub (V.to (Np B I Z (aq 9 Z) Z jP) (by simp[aT])) V.int (by rw[hl];rfl)
  .show ui B.top (fJ.cons (ML V.int) (fJ.cons V.int fJ.nil Z) Z) Z Z
 show p3.ite (x:=N) (vE (x:=N) (y:=N) (mD 62 Z) (λ_=>oY.to (my (x:=aj 13) (y:=21) .lt (aq 60 Z) V.int) Z)) λs4 p4=>?_;change C _ (aU [bc (match bc (bo Af) 3 with|A6 _ b _ _=>b |_=>[]) 0] J) s4 _;show p4.s1 (S1.m (bE 63 (gr [tU (0,0)]) (ui B.top (fJ.cons (GX B.top (aR 0) (aR 0) Z Z) fJ.nil Z) Z Z) Z Z (ao Z) Z)) λs5 p5=>eZ ?_;show xh 64 8 p5 B I Z V.int Z Z (ao Z) Z λrr t0 t1 t2 s6 p6=>?_;have afH:rr∉rs:=λhq=>by show dG (sQ hq) λi hi=>?_;have jz:=(dR.mp hi).1;have e1:=p6.get (bZ _ (dc S0 (pE hi (hm.get (i:=i) au).1)));rw[p6.get (cQ ..)]at e1;show absurd (congrArg Fc (aV e1)) (by simp[mI,kz,pM])
 have p6':PS H U (bg Af) J aJ bq bB (gF0 rs rr) ((rr,mI 8 t0 t1 t2)::(uI rs cj++S0)) s6:=p6.less (by show km.rf bz bz);show Za (τ':=H) (ζ:=Unit) (av0:=tU (0,0)) (G1:=putAll (gF0 rs rr) [14,15] [0,0]) (G2:=λ_=>ah2 rs rr) (S2:=λ_=>uI rs (mF cj 8)++S0) hh B p6' (aq 63 Z) Z (λ_=>rfl) (λy hy=>?_) (λs1 Ia ta v S1 sA WA KA g pa aO=>?_) (λy sb sA WA KA hny hiy pb=>?_) λ_ s7 p7=>eZ (k s7 _ p7)
 .rcases bu.mp hy with e|e
  .rw [e];rfl
  .rcases b9.mp e with e|e
   .show yZ y e
   .show Z8 y e
 .obtain ⟨T,t,u,rfl,hT⟩:=bR.pair (p:=(0,0)) aO;show⟨Nt g Z,?_⟩;show bh pa.fr λWa ra hWa=>?_;show wQ (x:=14) (y:=15) hh hT λh3 k3=>?_;show Stores.frame [14,15] [0,0] (gF0 rs rr) _ _ _ Z (ra.grow (.of_keep k3)) (λx E=>by simp at E;rcases E with rfl|rfl<;>show ao Z) (λx E=>by simp at E;rcases E with rfl|rfl<;>rfl)
   λY r' m'=>pa.step ra hWa (((show dz H s1 {s1 with heap:=h3} from⟨.of_keep k3,rfl,rfl,eV _⟩).smod Wa).trans m' λd hd=>ao hd) r' λd hd=>ao hd
 change C _ (aU [bc (tY (bc (bo Af) 5)) 0,bc (tY (bc (bo Af) 5)) 1,bc (tY (bc (bo Af) 5)) 2] J) sb _;show pb.s1 (S1.m (bE 65 (aT 1) (wI N (oY.to (my (x:=0) (y:=0) .eq (aq 14 Z) V.int) Z) (λ_=>aR 1) (λq=>by cases q)) Z Z (ao Z) Z)) λs8 p8=>?_;show p8.s1 (S1.m (bE 66 (aT 1) (wI af (oY.to (my (x:=0) (y:=0) .ne (aq 15 Z) V.int) Z) (λq=>by cases q) (λ_=>aR 1)) Z Z (ao Z) Z)) λs9 p9=>?_;have Θ:∀z∈y::(rr,mI 8 t0 t1 t2)::S0,z.1∉rs:=λz hz=>by
  rcases bu.mp hz with e|hz
  .rw [e];intro hq;show dG (sQ hq) λi hi=>?_;have jz:=(dR.mp hi).1;show hny _ (bZ _ (dc S0 (pE hi (hm.get (i:=i) au).1))) Z
  .rcases bu.mp hz with e|hz
   .rw [e];show afH
   .show hd z hz
 have p10:=p9.sub (S':=uI rs cj++(y::(rr,mI 8 t0 t1 t2)::S0)) λz hz=>by
  simp only[b9,bu]at hz ⊢;rcases hz with h|h|h|h
  .show aH (aH (ao h))
  .show ao h
  .show aH (ao h)
  .show aH (aH (aH h))
 have ϫ:(rr,mI 8 t0 t1 t2)∈uI rs cj++(y::(rr,mI 8 t0 t1 t2)::S0):=ew _ (bZ _ (cQ ..));show yT 67 (Dt 0 1 8) (λi (_:Unit)=>ah2 rs rr) (λi _=>uI rs (mF cj i)++(y::(rr,mI 8 t0 t1 t2)::S0)) () p10 (Ab (n:=8) (t:=t0) (u:=t1) (v:=t2) 64 0 hh (p10.base B).top (p10.get ϫ) (p10.sg _ ϫ).2.1 Z aK)
  (by show km.rf bz bz) (λy hy=>hy) (ao Z) (λ_ _ _=>rfl) (λi n z t W hn q=>?_) (λ_=>rfl) (λs11 _ p11=>eZ ⟨rfl,(),p11.sub λz hz=>?_,λx E=>?_⟩)
 .show eX (o4.mp hn) λhi hn=>?_;have wx:(n:Int)=aj i:=by rw[hn];simp
  subst wx;have hmi:=PY hm i au;show hb (hmi.get (i:=i) au) λm1 m2 m3=>?_;show eX (PX i au) λf1 f2=>?_;show eX (afN (1+i) au) λg1 g2=>?_;show Ϲ (a:=rs.getD i 0) (k:=0) (m:=8) (ms:=PV i) (f4:=N) q ?_ (yW i (aq 9 Z) (V.to (fk (x:=0) (y:=i) (aq 14 Z) (aq 67 Z)) fF) (hr _ au) au Z) (aq 15 Z)
   (fk (x:=0) (y:=8) (aq 15 Z) (aR 8)) (dc _ (pE (hr _ au) m1)) m3 au au f2 Z (yV tQ (hr _ au) _ Θ) λt1 q1=>?_
  .show V.to (acU (K:=(FPN.getD (1+i) []).map aT) (k:=1) (m:=9) (q.base B).top (wJ (k:=aj (1+i)) (Ϻ (q.base B) Z hgf Z (hvf.ext q.ext)) (fk (x:=1) (y:=i) (aq 65 Z) (aq 67 Z)) ?_ Z (λ_=>?_)) (aq 66 Z) (fk (x:=1) (y:=8) (aq 66 Z) (aR 8)) (hO _) aK (by rw[il,g1];decide) (by rw[il,g1];decide) (by rw[il,g1];decide)) (by simp only[PV,AR,EW])
   .change cond (dY (1+i) 1000000) ((FPN.map λr=>gr (r.map aT))[1+i]?) eU=_;rw[eT au,cY,g2];rfl
   .show hO _
  show eZ ⟨rfl,(),q1.less (by show km.rf bz bz)⟩
 .simp only[b9,bu]at hz ⊢;rcases hz with h|h|h
  .show aH (ao h)
  .show ao h
  .show aH (aH (aH h))
 .rcases b9.mp E with h|h
  .intro e;unfold uI at h;have h2:=(sS (show(x.1,x.2)∈_ from h)).1;show Θ y (cQ ..) (e▸h2)
  .show hny x (bZ _ (ew _ h))
end
theorem ah3:gV (ak "bytearray") "__getattribute__" =pure (O (bx "bytearray.__getattribute__")):=by ext
theorem zD:PlainAttrs "bytearray" :=
 ⟨(ct ("bytearray.__getattribute__") ah3 Z),by ext⟩
theorem xm:xZ (bx "bytearray.extend")=pure (ak "method_descriptor"):=by ext
theorem rR{o:aw}{apos:aY}{args:List aw}{Q:aa->ae->Prop}(xn:uT o name J (aZ o J)=aZ o J)(a_:Ki (args.length+([]:List AB).length) (jH pos (iX args J)) (backToKw pos (Ku [] J))=N)(lz:(apos.endLine==pos.line)=N)(h:C A (aZ o J) s (λov aD=>∀pl,C A (Ez ov name pl) aD (λfx aQ=>C A (xT pos fx.1 fx.2 (jH pos (iX args J)) []) aQ Q))):
 C A (aZ (bI (iI o name apos) args [] pos) J) s Q:=by
 rw[arm_eval_Call,xn];show C.bind (h.mono λov aD U=>C.bind (C.standAt ?_))
 delta methodCall
 show a_.symm▸C.bind (C.holding (C.mono (U _) λfx aQ ko=>?_));show C.bind (C.eq (by delta methodCallPos;simp[lz]) ko)
theorem zi{o value:aw}{acV:aP}{wy:aY}{Q:b8->ae->Prop}(hs:fu value (O (iI o acV wy)) pos.line J=pure af)(h:C A (aZ value J) s (λv aD=>C A (aZ o J) aD (λov aQ=>C A (setAttr ov acV v) aQ (λ_ Y=>Q cJ Y)))):C A (mU (fE [iI o acV wy] value pos) J) s Q:=by rw[plainObj_exec_Assign_Attribute o acV wy value pos hs];show nO<|C.bind<|h.mono λv aD U=>C.bind<|lH (U.mono λov aQ ko=>nO (lH (ko.mono λ_ de uj=>C.release (C.pure uj))))
section
variable{Q:b8->ae->Prop}{b:ab}
theorem XC(ns ms:LN):wo ns++wo ms=wo (ns++ms):=by apply Bc;simp[wo]
theorem lX.app(h:lX ns)(hm:∀x∈ms,x<256)(hl:ns.length+ms.length<=1000):lX (ns++ms):=⟨λx E=>by
 rcases b9.mp E with q|q
 .show h.1 x q
 .show hm x q,by simpa using hl⟩
theorem b_{l:aw}{apos cpos:aY}(hh:dh A)(p:PS H U L J aJ bq bB G S s)(he:V H s.heap A L J G e (aX (R d)) af)(hl:V H s.heap A L J G l (a7 ms) af)(hd:(d,kz ns)∈S)(hms:∀x∈ms,x<256)(dM:ns.length+ms.length<=1000)(dH:cG l=af)(xn:uT e (aC "extend") J (aZ e J)=aZ e J)(lz:(apos.endLine==cpos.line)=N)(hi:iG J=af)(hS:∀y∈S',(y.1=d/\y.2=kz (ns++ms))\/(y.1≠d/\y∈S))(kk:∀Y,PS H U L J aJ bq bB G S' Y->C A (aU rest J) Y Q):C A (aU (vh (bI (iI e (aC "extend") apos) [l] [] cpos) pos::rest) J) s Q:=by show z9 hi Z<|rR xn (by rw[l0 dH];rfl) lz<|W9 (he p.er) λaD e1 pl=>have p1:=p.grow e1;have QU:=p1.get hd;cR<|TY (fm QU) zD pB xm (λa ea=>by obtain rfl:=j6 ea;show ct _ QU Z)<|dg (by rw[l0 dH];rfl) ?_;rw[l0 dH];show ej (cx (T.wcE (hl (p.er.ext e1.ext)) λu aQ F2 e2 V2 _=>c8 (lT ⟨rfl,?_⟩)));have p2:=p1.grow e2;have ϖ:=p2.get hd;show iP V2 λla vs n F' dX _ IL V' _=>?_;subst dX;show w6 hh ϖ IL (intsAre_of V' (dS ms)) hms (by rw[hZ];show dM) λs3 tn ho3=>⟨rfl,?_⟩;rw[XC]at ho3;show kk s3 (p2.turn hd Z tn ho3 Z hS)
structure qT(U:aN)(f:Nat->bQ):Prop where
 Hz:qS U 1956 (f 0) (vC 2)
 XD:(f 0).defaults=R 1949
 dft:∃n,U.get? 1949=O (cU [R 1948] n)
 emp:∃n,U.get? 1948=O (cU [] n)
theorem qT.ext(x:hx H U h)(dA:qT U f):qT h f:=⟨dA.Hz.ext x,dA.XD,dG dA.dft λn e=>⟨n,x.keep _ _ (DT Z) e⟩,dG dA.emp λn e=>⟨n,x.keep _ _ (DT Z) e⟩⟩
end
section
variable{b:ab}
noncomputable def XE(f:Nat->bQ)(bw:ab):cg:=gI (f 0) bw 1956
theorem c_{us:List aa}(B:cA U mg mb)(I:dQ mg mb)(X:(iC P t f).In U)(dA:qT U f)(bM:A.depth<1000)(x1:hx H U s.heap)(cB:z8 U S s.heap)(Rr:(b,vk 2002 dx)∈S)(hdo:(dx,iz)∈S)(hlu:us.length=2)(sd:T A.in1 (du (f 0) ⟨R b::vs,[]⟩) s (λbs Y=>Y=s/\bs=([110,111].map NM).zip us))(aO:bD s.heap [aX (R b),av] us F)(Og:∀bw aD v F,hx H U aD.heap->bR aD.heap av v F->C (A.deeper (XE f bw)) (call (ak "bytearray") [v]) aD (λu aQ=>u=R aD.heap.objs.size/\aQ={aD with heap:=aD.heap.push (kz ns)}))(hq:∀Y d bw G,s.heap.get? d=ai->PS H U (bg (vC 2)) (XE f bw) s [] (S.map (·.1)) G ((b,qR dx d)::(d,kz ns)::S.filter (λy=>y.1 != b)) Y->aM (cf (cL aA)) Y):
 CC A (mZ (R 1956) ⟨R b::vs,[]⟩) s aM:=by
 have N':=dA.Hz.ext x1;show bh N'.at_.obj λo ho hd=>(Xi B x1 bM ho hd (N'.at_.ab9 (H:=H) (.refl _)) N'.body N'.clo (by rw[N'.scope];rfl) (by rw[N'.scope];rfl) sd aO (by rw[N'.scope];rfl) N'.glob N'.bi aK hlu.symm (by rw[N'.scope];decide) cB λaQ bw p=>?_);rw[N'.scope]at p;have p:=p;have hI:=I ("bytearray",ak "bytearray") aK;show ip<|zi Z<|fU<|T.wY (ez (p.base B) p.er Z hI.1 hI.2 (rfl))<|dg (rfl) (ej (cx (Lake.T.wcV (v9 p.er (x:=111) Z) λv F4 V4=>c8 (iE ⟨rfl,?_⟩))));show(Og bw _ v F4 p.ext V4).mono λu s5 qQ=>eX qQ λe1 e2=>e1▸e2▸have p5:=p.sf (o:=kz ns) (tk:=aQ.toks) B Z Z;T.wz (v9 p5.er (x:=110) Z) λv6 s6 oj=>MA oj λe1 F6 V6=>e1▸?_;apply bR.Gg V6;show cR<|PH (jn X p5.ext) (p5.get (dF _ Rr)) (p5.get (dF _ hdo)) λs7 tn hb7=>eZ (hq s7 aQ.heap.objs.size bw _ (p.mod.mod.new (bF _)) (p5.aeJ (dF _ Rr) Z tn hb7 Z λx E=>?_));have akE:aQ.heap.objs.size≠b:=λe=>by have:=cn (p.get Rr);rw[e]at this;show gw _ this
 rcases bu.mp E with e|E
 .left;rw[e];show⟨rfl,rfl⟩
 .rcases bu.mp E with e|E
  .right;rw[e];show⟨akE,cQ ..⟩
  .show eX (gq.mp E) λh1 h2=>(aH ⟨by simpa using h2,bZ _ h1⟩)
theorem PZ{rest us:List aa}(B:cA U mg mb)(I:dQ mg mb)(X:(iC P t f).In U)(dA:qT U f)(p:PS H U L J aJ bq bB G S s)(hS:∀y∈S,gc y.2=N)(sd:∀s b,hx H U s.heap->T (A.under (fM "type.__call__" ⟨R 2002::rest,[]⟩)).in1 (du (f 0) ⟨R b::rest,[]⟩) s (λbs Y=>Y=s/\bs=([110,111].map NM).zip (R b::us)))(hlu:us.length=1)(aO:bD s.heap [av] us F)(hd:(A.under (fM "type.__call__" ⟨R 2002::rest,[]⟩)).depth<1000)(Og:∀fV aD v F,hx H U aD.heap->bR aD.heap av v F->C ((A.under (fM "type.__call__" ⟨R 2002::rest,[]⟩)).deeper fV) (call (ak "bytearray") [v]) aD (λu aQ=>u=R aD.heap.objs.size/\aQ={aD with heap:=aD.heap.push (kz ns)}))(hq:∀Y b dx d,b≠dx->b≠d->dx≠d->(∀y∈S,y.1≠b/\y.1≠dx/\y.1≠d)->PS H U L J aJ bq bB G (jj b dx d ns++S) Y->Q (R b) Y):C A (call (R 2002) rest []) s Q:=by
 have Xs:=jn X p.ext;show acC (makes_of Xs Ϝ) (A9 Xs acD) (λself=>bind_fn Xs self ϝ) Z ?_;have hsx:({s with heap:=s.heap.push iz,toks:=s.toks}:ae).heap.objs.size=s.heap.objs.size+1:=(dD ..);have p2:=hsx▸(p.sf (o:=iz) (tk:=s.toks) B Z Z).sf (o:=vk 2002 s.heap.objs.size) (tk:=s.toks) B Z Z;have hSb:∀y∈S,y.1≠s.heap.objs.size+1/\y.1≠s.heap.objs.size:=λy hy=>by have:=cn (p.sg y hy).1;show⟨fB (kU this),fB this⟩
 show c_ (F:=F) B I X dA hd p2.ext p2.sg (iy ..) (dF _ (iy ..)) (by simp[hlu]) (sd _ _ p2.ext) ?_
  (λbw s1 v F x aO=>Og _ s1 v F x aO) λY d bw G' hdn q=>⟨rfl,?_⟩
 .show eg [] F (.iq _) (aO.ext (H:=H) ((hx.push _ _).trans (.push _ _)))
 have pe:=p2.called q λy hy=>by
  rcases bu.mp hy with e|hy
  .rw [e];rfl
  .show bf (bu.mp hy) (λe=>by rw[e];rfl) λhy=>hS y hy
 have afO:∀y∈(s.heap.objs.size+1,vk 2002 s.heap.objs.size)::(s.heap.objs.size,iz)::S,y.1≠d:=λy hy e=>by have:=(p2.sg y hy).1;have this:=e▸this;have this:=(show({s with heap:=(s.heap.push iz).push (vk 2002 s.heap.objs.size)}:ae).heap.get? d=ai from hdn).symm.trans this;ext
 show hq Y (s.heap.objs.size+1) s.heap.objs.size d (yo _) (afO _ (iy ..)) (afO _ (dF _ (iy ..))) (λy hy=>gQ ((hSb y hy).1) ((hSb y hy).2) (afO y (dF _ (dF _ hy)))) (pe.sub λx E=>?_);rcases b9.mp E with E|E
 .simp only[jj,bu,mW,or_false]at E;rcases E with e|e|e
  .rw [e];show cQ ..
  .rw [e];show bZ _ (dF _ (gq.mpr ⟨by lia,?_⟩));simp
  .rw [e];show by lia
 .show bZ _ (dF _ (gq.mpr ⟨bZ _ (dF _ E),?_⟩));simpa using (hSb x E).1
end
section
variable{b:ab}
theorem acW:yw (iC P t f) (R 2002) "__call__" =O (O (bx "type.__call__")):=by ext
theorem HA{Q:Keeper->ae->Prop}(X:(iC P t f).In s.heap)(h:Q FI s):ax M A (AA (R 2002)) Q a6 s:=ag<|iW (X 2002 _ Z)<|ag<|(looks_specialIn X acW).here<|aB h
theorem R9(dA:qT U f)(x:hx H U s.heap)(v u:aa):T A (du (f 0) ⟨[v,u],[]⟩) s (λbs Y=>Y=s/\bs=([110,111].map NM).zip [v,u]):=by
 show dG ((dA.ext x).dft) λn hd=>?_
 delta du
 show dA.Hz.params.symm▸dA.XD.symm▸dA.Hz.kwd.symm▸ag (aB (ag (jF hd Z ?_)));show aB ⟨rfl,rfl⟩
theorem Sa(dA:qT U f)(x:hx H U s.heap)(v:aa):T A (du (f 0) ⟨[v],[]⟩) s (λbs Y=>Y=s/\bs=([110,111].map NM).zip [v,R 1948]):=by
 show dG ((dA.ext x).dft) λn hd=>?_
 delta du
 show dA.Hz.params.symm▸dA.XD.symm▸dA.Hz.kwd.symm▸ag (aB (ag (jF hd Z ?_)));show aB ⟨rfl,rfl⟩
theorem acX{bits:LN}(B:cA U mg mb)(I:dQ mg mb)(X:(iC P t f).In U)(dA:qT U f)(bM:A.depth<990)(hg:mg (aC "Buffer")=O (R 2002))(kM:Gi L "Buffer")(p:PS H U L J aJ bq bB G S s)(hS:∀y∈S,gc y.2=N)(he:V H s.heap A L J G e (a7 bits) af)(dH:cG e=af)(D:lX bits)(hq:∀Y b dx d,b≠dx->b≠d->dx≠d->(∀y∈S,y.1≠b/\y.1≠dx/\y.1≠d)->PS H U L J aJ bq bB G (jj b dx d bits++S) Y->Q (R b) Y):
 C A (aZ (bI (ar (aC "Buffer") np) [e] [] pos) J) s Q:=by
 show fU<|T.wY (rZ (p.base B) p.er kM hg (rfl))<|dg (by rw[l0 dH];rfl) ?_;rw[l0 dH];show ej (cx (T.wcE (he p.er) λu s2 F2 e2 V2 _=>c8 (cR (HA (jn X (p.grow e2).ext) ⟨rfl,?_⟩))));show PZ (F:=F2) B I X dA (p.grow e2) hS (λs b x=>R9 dA x _ _) Z (DW u [] F2 [] rfl V2 .nil fF) au (λfV s1 v F x aO=>?_) hq;show fO aO λla vs n F' dX _ IL V' _=>dX▸uG ("list") n IL (ao Z) (intsAre_of V' (dS bits)) D.1 D.2 ⟨rfl,rfl⟩
theorem acY(B:cA U mg mb)(I:dQ mg mb)(X:(iC P t f).In U)(dA:qT U f)(bM:A.depth<990)(hg:mg (aC "Buffer")=O (R 2002))(kM:Gi L "Buffer")(p:PS H U L J aJ bq bB G S s)(hS:∀y∈S,gc y.2=N)(hq:∀Y b dx d,b≠dx->b≠d->dx≠d->(∀y∈S,y.1≠b/\y.1≠dx/\y.1≠d)->PS H U L J aJ bq bB G (jj b dx d []++S) Y->Q (R b) Y):
 C A (aZ (bI (ar (aC "Buffer") np) [] [] pos) J) s Q:=by
 show fU<|T.wY (rZ (p.base B) p.er kM hg (rfl))<|dg (by rfl) (B8 (cR (HA (jn X p.ext) ⟨rfl,?_⟩)));show PZ (F:=[]) B I X dA p hS (λs b x=>Sa dA x _) Z (DW _ [] [] [] rfl (.iq _) .nil Z) au (λfV s1 v F x aO=>?_) hq;show aO.DH▸dG ((dA.ext x).emp) λn e=>(uG (vs:=[]) (ns:=[]) ("tuple") n e (aH Z) qv (zo) bA ⟨rfl,rfl⟩)
end
section
variable{b:ab}
theorem DM{fa:ab}{pl:aE Bool}{Q:aa×List aa->ae->Prop}(X:(iC P t f).In s.heap)(hB:wq s.heap b dx d ns)(h1:iK (iC P t f) (R 2002) name=O (O (R fa)))(h2:qu (iC P t f) (R fa)=O (ak "function"))(hs:shadowIn (O iz) name=O af)(h:Q (R fa,[R b]) s):ax (aG prog w) A (Ez (R b) name pl) Q a6 s:=
 method_fn X (xf hB.obj hB.Xm) (Ba (B9 name)).1 (Ba (B9 name)).2 h1 h2 hs h
theorem HB{o:aw}{fa:ab}{apos:aY}{args:List aw}(X:(iC P t f).In U)(p:PS H U L J aJ bq bB G S s)(he:V H s.heap A L J G o (aX (R b)) af)(yX:∀y∈jj b dx d ns,y∈S)(hn:lX ns)(h1:iK (iC P t f) (R 2002) name=O (O (R fa)))(h2:qu (iC P t f) (R fa)=O (ak "function"))(hs:shadowIn (O iz) name=O af)(dA:qS U fa fd st)(xn:uT o name J (aZ o J)=aZ o J)(a_:Ki (args.length+([]:List AB).length) (jH pos (iX args J)) (backToKw pos (Ku [] J))=N)(lz:(apos.endLine==pos.line)=N)(h:∀aD,dz H s aD->C A (xU (R fa) N (jH pos (iX args J)) []) aD (λx aQ=>(∃τ',hx τ' U aQ.heap)/\C A (call (R fa) (R b::x.pos) x.kw) aQ Q)):
 C A (aZ (bI (iI o name apos) args [] pos) J) s Q:=by
 show rR xn a_ lz<|W9 (he p.er) λaD e1 pl=>have p1:=p.grow e1;cR<|DM (jn X p1.ext) (p1.Hp yX hn) h1 h2 hs<|bh dA.at_.obj λob ho hd=>(pD ob fd ((h aD e1).mono λx aQ q=>dG q.1 λτ2 x2=>⟨⟨x2.keep _ _ dA.at_.off ho,hd⟩,q.2⟩))
theorem HC(hh:dh A)(QU:s.heap.get? a=O (kz ns))(hB:lX ns)(top:Q0<=s.heap.objs.size):T A (call (ak "list") [R a]) s (λv Y=>dz H s Y/\bR Y.heap (a7 ns) v [s.heap.objs.size]):=by
 show Pz hh QU (by rw[hZ];show hB.2) λh' tk I3 c' hk hl uk=>?_;have hsz:I3.size=ns.length:=by rw[uk.1,hZ]
 have d_:bD h' (ns.map aT) I3.toList []:=by
  have key:∀(ns:LN) (vs:List aa),vs.length=ns.length->(∀(j:Nat) v,vs[j]? =O v->∃n tk,ns[j]? =O n/\v=ah (aj n) tk)->bD h' (ns.map aT) vs []:=by
   intro ns;induction ns with
   |nil=>intro vs hl _;rw[rj.mp hl];show⟨rfl,rfl⟩
   |cons n ns ih=>
    intro vs hl hv;cases vs with
    |nil=>ext
    |cons v vs=>show eQ (hv 0 v Z) λm tk h1 h2=>?_;obtain rfl:=aV h1;show h2▸eg [] [] (.ofInt _ _) (ih vs (by simpa using hl) λj v hj=>?_);simpa using hv (j+1) v (hj)
  show key ns I3.toList (hsz) λj v hj=>(eQ (uk.2 j v (by simpa using hj)) λx tk h1 h2=>?_);have hj':j<ns.length:=by have:=(dR.mp hj).1;simp at this;lia
  show kH (ns[j]) tk (by simp[hj']) ?_;rw[Nn (x:=ns[j]) (by simp[hj'])]at h1;obtain rfl:=aV h1;rw[h2,RT (hB.1 _ (KZ hj'))];rfl
 show⟨⟨.of_keep hk,rfl,rfl,eV _⟩,?_⟩;show rY [] (fi top) (by rw[hl];rfl) d_
theorem JI(hh:dh A)(B:cA U mg mb)(I:dQ mg mb)(kM:Gi L "list")(ho:U.get? a=O (kz ns))(ht:a∉bY)(hB:lX ns)(he:V H U A L J G e (aX (R a)) af)(dH:cG e=af):
 V H U A L J G (bI (ar (aC "list") np) [e] [] pos) (a7 ns) fr:=λs r=>by
 show mB ("list") ("list") B I aK kM (rfl) (fJ.cons he fJ.nil dH) (by simp[dW,dH]) r λvs aD F e1 V1=>?_;apply vB V1;have x1:=r.base.trans e1.ext;show(HC hh (x1.keep a _ ht ho) hB (jy B.top x1)).CA λv s2 e2 aO=>(oX _ (e1.trans e2) aO (λ_=>⟨λb D=>?_,by simp⟩));apply jS D;show e1.ext.new (bF _)
end
section
open PySem.W PySem.NumText
noncomputable def xo(b:Bool):Nat:=if b then 49 else 48
noncomputable def Cd(l:List Bool):Nat:=l.foldl (λn b=>2 * n+(if b then 1 else 0)) 0
noncomputable def e_:Nat->List (List Bool)
 | 0=>[[]]
 |n+1=>(e_ n).map (af::·)++(e_ n).map (N::·)
theorem HD:∀l:List Bool,l∈e_ l.length
 | []=>cQ ..
 |false::l=>dc _ (Uu (HD l))
 |true::l=>ew _ (Uu (HD l))
theorem f_:∀b0 b1 b2 b3 b4 b5 b6 b7:Bool,(int_private% "readNumeral") 0 2 ([b0,b1,b2,b3,b4,b5,b6,b7].map xo)=(int_private% "Numeral.value") (Cd [b0,b1,b2,b3,b4,b5,b6,b7]:Nat):=λb0 b1 b2 b3 b4 b5 b6 b7=>va.mp (by(ext):(e_ 8).map (λl=>(int_private% "readNumeral") 0 2 (l.map xo))=(e_ 8).map (λl=>(int_private% "Numeral.value") (Cd l:Nat))) _ (HD [b0,b1,b2,b3,b4,b5,b6,b7])
theorem g_{Q3:LN}{n:Int}(hs:(Q3.takeWhile (· != 0)).length<=640)(hr:(int_private% "readNumeral") 0 2 (Q3.takeWhile (· != 0))=(int_private% "Numeral.value") n)(ha:((Q3.takeWhile (· != 0)).length==Q3.length)=N)(h:Q (ah n s.toks) {s with toks:=s.toks+1}):
 ax M A ((int_private% "intFromText") v Q3 2) Q a6 s:=by
 obtain⟨hp,g,d,tk,os⟩:=s;repeat (any_goals (first
  |assumption
  |(with_reducible show Ek (decide_eq_true hs) ?_)
  |(with_reducible show Ek (decide_eq_true ha) ?_)
  |wp_step))
 all_goals (try show hr.symm▸?_)
 all_goals (try dsimp only)
 repeat (any_goals (first
  |assumption
  |(with_reducible show Ek (decide_eq_true hs) ?_)
  |(with_reducible show Ek (decide_eq_true ha) ?_)
  |wp_step))
theorem P0{x:PySem.Str}{u u2:aW}{n:Int}(hl:(Ax x).length<=640)(hr:(int_private% "readNumeral") 0 2 (Ax x)=(int_private% "Numeral.value") n)(ha:((Ax x).length==(EB x).length)=N):
 Gives (Builtin.«int.__new__» ⟨[ak "int",cI x u,ah 2 u2],[]⟩) (Made.int n):=
 Wv λM A a6 s Q h=>by
  obtain⟨hp,g,d,tk,os⟩:=s;have f1:=F.conv_sub_int;have f2:=F.madeHere_int;have hk:=λ_:True=>FP hl (FP hr ha);repeat (any_goals (first
   |assumption
   |((with_reducible change ax _ _ ((int_private% "intFromText") _ _ _) _ _ _);show g_ (hk trivial).1 (hk trivial).2.1 (hk trivial).2.2 ?_)
   |wp_step))
  all_goals first|show⟨_,rfl,h⟩|skip
theorem HE(a b:aa):xN "int" ⟨[a,b],[]⟩=pure ():=by ext
theorem I7(a b:aa):sC "int.__new__" ⟨[ak "int",a,b],[]⟩=pure ():=by ext
end
theorem args_object_init_3(a b c:aa):jX "object.__init__" ⟨[a,b,c],[]⟩:=by ext
theorem XF:mroOf (ak "map")=pure [ak "map",ak "object"]:=by ext
theorem HF:gV (ak "map") "__new__" =pure (O (bx "map.__new__")):=by ext
theorem Ce:oy (ak "map") (ak "map")=pure N:=by ext
theorem I9:lJ "map" "__init__" "object.__init__" :=
 nr (owner:= "object") (n:= "__init__") (rfl) (rfl) (rfl) (rfl) (by first|show ao (rfl)|show .inr (rfl)) (rfl)
theorem Sb:Av "map" "map.__new__" "object.__init__" :=
 ⟨rfl,rfl,⟨_,_,XF⟩,madeBy_type XF HF bz,by ext,Ce,I9⟩
theorem HG(a b:aa):xN "map" ⟨[a,b],[]⟩=pure ():=by ext
theorem Ja(a b:aa):sC "map.__new__" ⟨[ak "map",a,b],[]⟩=pure ():=by ext
theorem Jb:gJ table "map.__new__" =O Builtin.«map.__new__»:=ma (rfl)
theorem xp:gJ table "map.__next__" =O Builtin.«map.__next__»:=ma (rfl)
theorem mO:lJ "map" "__next__" "map.__next__" :=
 nr (owner:= "map") (n:= "__next__") (rfl) (rfl) (rfl) (rfl) (by first|show ao (rfl)|show .inr (rfl)) (rfl)
theorem zE:lJ "map" "__iter__" "map.__iter__" :=
 nr (owner:= "map") (n:= "__iter__") (rfl) (rfl) (rfl) (rfl) (by first|show ao (rfl)|show .inr (rfl)) (rfl)
theorem HH:gJ table "map.__iter__" =O Builtin.«dict_keyiterator.__iter__»:=
 Ke (id':= "dict_keyiterator.__iter__") ((xK _).trans bz) aK bz ((xK _).trans bz)
theorem zF(a:aa):jX "map.__next__" ⟨[a],[]⟩:=vj bz
theorem Jc(a:aa):jX "map.__iter__" ⟨[a],[]⟩:=vj bz
theorem Sd:gV (ak "map") "__len__" =pure ai:=by ext
theorem Qa:gV (ak "map") "__length_hint__" =pure ai:=by ext
noncomputable def zj(T:ab):bj:={cls:=ak "map",data:=bH #[R T,ak "str"]}
theorem Nu{l:ab}(hl:s.heap.IsList l items)(h:Q (R (s.heap.objs.size+2)) {s with heap:=((s.heap.push {cls:=ak "list_iterator",data:=bH #[R l,ah 0 0]}).push (cU [R s.heap.objs.size] 0)).push (zj (s.heap.objs.size+1))}):
 ax (aG prog w) A (call (ak "map") [ak "str",R l]) Q a6 s:=by
 show Kr (S:=λA aM Y=>Y=s/\aM (cf (cL (R (s.heap.objs.size+2)))) {s with heap:=((s.heap.push {cls:=ak "list_iterator",data:=bH #[R l,ah 0 0]}).push (cU [R s.heap.objs.size] 0)).push (zj (s.heap.objs.size+1))})
  Sb (rfl) (HG _ _) (Ja _ _) (λobj=>args_object_init_3 obj _ _) Jb (rM λprog w A aM Y qQ=>eX qQ λe hq=>?_) (gQ Z ?_ h)
 .subst e;obtain⟨hp,g,d,tk,os⟩:=Y
  delta Builtin.«map.__new__» abD abC abE VX
  show ag<|ag<|fK (a:=N) (rfl)<|ag<|fK Ce<|aB ?_;dsimp only;show ag<|aB<|ag<|ag<|ag<|ag<|cO<|uQ hl<|aB<|aB<|aB<|ag (ig ?_ (show(1:Nat)<=fc by decide));show ag (ig ?_ (by size_fits));have e1:(hp.push {cls:=ak "list_iterator",data:=bH #[R l,ah 0 0]}).objs.size=hp.objs.size+1:=dD ..;have e2:((hp.push {cls:=ak "list_iterator",data:=bH #[R l,ah 0 0]}).push (cU [R hp.objs.size] 0)).objs.size=hp.objs.size+2:=by rw[dD,e1]
  show aB (ct _ Z ?_);change aM (cf (cL (R ((hp.push {cls:=ak "list_iterator",data:=bH #[R l,ah 0 0]}).push (cU [R hp.objs.size] 0)).objs.size))) _;rw[e2];have hm:zj (hp.objs.size+1)={cls:=ak "map",data:=bH #[R (hp.push {cls:=ak "list_iterator",data:=bH #[R l,ah 0 0]}).objs.size,ak "str"]}:=by rw[e1];rfl
  have hq':=hq;dsimp only at hq';rw[hm]at hq';show hq'
 .have e:=bK ((s.heap.push {cls:=ak "list_iterator",data:=bH #[R l,ah 0 0]}).push (cU [R s.heap.objs.size] 0)) (o:=zj (s.heap.objs.size+1)) Z;rw[dD,dD]at e;show ct _ e Z
theorem Nv{T bw l:ab}{t:aW}{Q:Option aa->ae->Prop}(hI:s.heap.get? I=O (zj T))(hT:s.heap.get? T=O (cU [R bw] k))(hL:s.heap.IsListIter bw l i)(hl:s.heap.IsList l items)(E:items[i]? =O (ah (aj n) t))(hn:n<1000)(hQ:∀h',h'.IsListIter bw l (i+1)->gv bw s.heap h'->Q (O (cI (aC (toString (aj n))) s.toks)) {s with heap:=h',toks:=s.toks+1}):ax (aG prog w) A (gX (R I)) Q a6 s:=by
 have XG:s.TypeIs (R I) "map" :=ct _ hI Z;show gC hL λo ho hc hd=>QZ hl λol hol _ nl YO=>ag (sF (kS (name:=aC "__next__") XG mO (jU mO XG xp ?_ (zF _))));show(?_:ax _ _ (sM (R I) 0>>=_) _ _ s);show ag<|fX hI Z (x:=R T) Z<|ag (jF hT Z ?_);dsimp only;show ag<|ag<|ag<|cO<|ag (kS (name:=aC "__next__") hL.typeIs Ef (jU Ef hL.typeIs TP ?_ (TU _)));show(?_:ax _ _ (sM (R bw) 0>>=_) _ _ s);show ag<|fX ho hd (x:=R l) Z<|ag<|fX ho hd (x:=ah i 0) Z<|ag (jF hol YO ?_);simp only[KH,E];show ag<|As ho hd (E0 [].length)<|aB<|ct _ Z<|aB<|aB (aB ?_);have h_:bw≠I:=λe=>by
  subst e;obtain rfl:=aV (hI.symm.trans ho);injection hc with h3
  show absurd h3 aK
 show ag<|fX ((mh _ _ h_).trans hI) Z (x:=ak "str") Z<|have s':aj n=(n:Int):=rfl;ag (cO (P.str_of_int (a:=aj n) (t:=t) ?_ ?_))
 .show j3 (Nat.log2_le_self n) au
 show ag (uW (aB (ct _ Z (aB (hQ _ ?_ (j5 ..))))));show⟨_,gN _ ho (Obj.isFreed_of_fields (U6 hd _)),(Obj.cls_mapFields ..).trans hc,by rw[U6 hd];rfl⟩
theorem Nw{T bw l:ab}{Q:Option aa->ae->Prop}(hh:dh A)(hI:s.heap.get? I=O (zj T))(hT:s.heap.get? T=O (cU [R bw] k))(hL:s.heap.IsListIter bw l i)(hl:s.heap.IsList l items)(E:items[i]? =ai)(hQ:∀h',KN bw s.heap h'->Q ai {s with heap:=h'}):ax (aG prog w) A (gX (R I)) Q a6 s:=by have XG:s.TypeIs (R I) "map" :=ct _ hI Z;show gC hL λo ho hc hd=>QZ hl λol hol _ nl YO=>ag (sF (kS (name:=aC "__next__") XG mO (jU mO XG xp ?_ (zF _))));show(?_:ax _ _ (sM (R I) 0>>=_) _ _ s);show ag<|fX hI Z (x:=R T) Z<|ag (jF hT Z ?_);dsimp only;show ag<|ag<|ag<|cO<|ag (kS (name:=aC "__next__") hL.typeIs Ef (jU Ef hL.typeIs TP ?_ (TU _)));show(?_:ax _ _ (sM (R bw) 0>>=_) _ _ s);show ag<|fX ho hd (x:=R l) Z<|ag<|fX ho hd (x:=ah i 0) Z<|ag (jF hol YO ?_);simp only[KH,E];show ag<|mR<|ag<|As ho hd (TG Z)<|ag<|ag (ig ?_ (by size_fits));show ag (m:=firstArgMember _ _)<|fK (a:=aA) (by first|rfl|(rw[firstArgMember];rfl))<|ig ?_ (by size_fits);show ag<|Kl<|(show A.in1.in1.handled=ai from hh).symm▸ag (aB (Kt ?_));show ag (mP (T:= "StopIteration") (b:=N) (ct _ (bK _ Z) Z) Kf ?_);show aB (hQ _ (((j5 ..).extBut.push _).push _))
theorem Nx{T:ab}(hI:s.heap.get? I=O (zj T))(h:Q (R I) s):ax (aG prog w) A (gm (R I)) Q a6 s:=by have hT:s.TypeIs (R I) "map" :=ct _ hI Z;show J9 hT zE (jU zE hT HH ?_ (Jc _));show aB ⟨_,rfl, "map",_,hT,mO.lookup,h⟩
noncomputable def strN(n:Nat):aP:=aC (toString (aj n))
theorem Walks.map(hh:dh A){T bw l:ab}(hIL:I≠bw)(hTL:T≠bw)(hlL:l≠bw)(hi:fh items.toList (ns.map aj))(D:∀n∈ns,n<1000):
 mS prog w A I [I,T,bw,l] [bw] ns.length (λi v=>∃n t,ns[i]? =O n/\v=cI (strN n) t) (λi h=>h.get? I=O (zj T)/\h.get? T=O (cU [R bw] k)/\h.IsListIter bw l i/\h.IsList l items) where
 sub:=λb D=>by have D:=bJ.mp D;lia
 frame:=λi h h' st hk=>rN (hk I bC _ st.1) (hk T bC _ st.2.1) (st.2.2.1.at λo e=>hk bw bC o e) (st.2.2.2.at λo e=>hk l bC o e)
 item:=λi s Q a6 hi' st hQ=>by
  show eX (nY hi) λl1 l2=>?_;have hsz:items.size=ns.length:=by simpa using l1
  have E:items[i]? =O items[i]:=by simp[hi']
  show eQ (l2 i items[i] (by simp[hi'])) λn t h1 h2=>?_;rw[cY]at h1;show bh (jb.mp h1) λm h3 h4=>?_;subst h4;rw[h2]at E;show Nv st.1 st.2.1 st.2.2.1 st.2.2.2 E (D m (cW h3)) λh' g1 g2=>hQ _ h' _ (kH m _ h3 Z) (rN (g2.extBut _ _ hIL st.1) (g2.extBut _ _ hTL st.2.1) g1 (st.2.2.2.extBut g2.extBut hlL)) λb o D e=>g2.extBut b o (vw D) e
 done:=λs Q a6 st hQ=>eX (nY hi) λl1 l2=>Nw hh st.1 st.2.1 st.2.2.1 st.2.2.2 (by simp[(by simpa using l1)]) λh' he=>hQ h' s.toks λb o D e=>he b o (by show vw D) e
 self:=λi s Q a6 st hQ=>Nx st.1 hQ
section
open PySem.W PySem.NumText
section
variable{G:Array eS->Array eS->Prop}{P:Nat->aa->Prop}{St:Nat->ae->Prop}
theorem HI{ty:String}{Q:List aa->ae->Prop}(W:WalksS prog w A.in1 I fp wr G n P St)(hT:∀i s,St i s->s.TypeIs (R I) ty)(dH:St 0 s)(An:∀b∈fp,b<s.heap.objs.size)(hI:I∈fp)(t1:(ak ty==ak "list")=af)(t2:(ak ty==ak "tuple")=af)(i_:gV (ak ty) "__len__" =pure ai)(Se:gV (ak ty) "__length_hint__" =pure ai)(hQ:∀Y jw,Moved wr G s Y->ItemsOf P jw n->Q jw.toList Y)(hn:n<=fc):ax (aG prog w) A (collect (R I)) Q a6 s:=by
 have C':=λhm=>gw _ (An _ hm);have hSI:s.heap.objs.size≠I:=λe=>C' (e▸hI);show ag<|Kg<|qd Ma<|ag<|ig<|aB ⟨lI Mc _,qd Fw ?_⟩;have xi:=W.frame 0 s (s.heap.push {cls:=ak "list",data:=bU ([]:List aa).toArray}) s.toks dH (ey _) λb _ o e=>a8 _ e;show(?_:ax _ A.in1 (Vy (R s.heap.objs.size) (R I) (R s.heap.objs.size)) _ _ _);show ag (ou (hT 0 _ xi) ?_);have h1:yD (R s.heap.objs.size) (R I)=af:=by simp[yD,hSI]
 show wpAny_ite_false (by rw[h1,t1,t2];rfl)<|ag<|W.self 0 _ _ _ xi<|ag<|cO<|ag<|eH (hT 0 _ xi) i_<|ag<|eH (hT 0 _ xi) Se<|aB<|(?_:ax _ A.in1 (sN "list.extend.makes-room" >>=λ_=>VA (R s.heap.objs.size)>>=λ_=>
  again (fM "list.extend.loop" ⟨[R s.heap.objs.size,R I,R s.heap.objs.size],[]⟩)) _ _ _)
 show ag<|mR<|have PN:(s.heap.push {cls:=ak "list",data:=bU ([]:List aa).toArray}).get? s.heap.objs.size=O {cls:=ak "list",data:=bU ([]:List aa).toArray}:=bK _ Z;ag<|ag<|uS PN Z<|have Hh:=gN (dP (·.push aA)) PN Z;uS Hh Z ?_;have Y7:∀b o,b≠s.heap.objs.size->(s.heap.push {cls:=ak "list",data:=bU ([]:List aa).toArray}).get? b=O o->
  (((s.heap.push {cls:=ak "list",data:=bU ([]:List aa).toArray}).update s.heap.objs.size (dP (·.push aA))).update s.heap.objs.size (dP (·.pop))).get? b=O o:=
  λb o D e=>(mh _ _ (eO D)).trans ((mh _ _ (eO D)).trans e)
 show aB ⟨lI Fu _,TK W hn _ C' _ n 0 _ _ _ Z (fg _)
  (W.frame 0 ({s with heap:=s.heap.push {cls:=ak "list",data:=bU ([]:List aa).toArray}}:ae) _ s.toks xi (ey _) λb D o e=>Y7 b o (λh=>C' (h▸D)) e) (gN (dP (·.pop)) Hh Z) (Ws P) λY I3 c' hm hS' oq=>?_⟩
 show ag<|iW hS'<|aB (hQ Y I3 (Moved.drop_new (o:={cls:=ak "list",data:=bU ([]:List aa).toArray}) (Moved.trans W.gtrans ((Moved.refl W.grefl).then_heap (by first|show ey _|show lP _|lia) λb o D e=>?_) hm) (ey _)) oq);show Y7 b o (λh=>D (h▸cQ)) e
theorem Qb{ty:String}{x:aP}{t:aW}(W:WalksS prog w A.in1.in1 I fp wr G n P St)(hT:∀i s,St i s->s.TypeIs (R I) ty)(dH:St 0 s)(An:∀b∈fp,b<s.heap.objs.size)(hI:I∈fp)(t1:(ak ty==ak "list")=af)(t2:(ak ty==ak "tuple")=af)(i_:gV (ak ty) "__len__" =pure ai)(Se:gV (ak ty) "__length_hint__" =pure ai)(akF:∀i v,P i v->∃y u,v=cI y u)(hq:∀Y (l:List (aP×aW)),Moved wr G s Y->ItemsOf P (Ay l).toArray n->JoinOk x (l.map (·.1))=N/\∀t' k,Q (cI (Txt.join x (l.map (·.1))) t') {Y with toks:=k})(hsz:n<=fc):
 ax (aG prog w) A (call (bx "str.join") [cI x t,R I]) Q a6 s:=by
 show kT (xE VQ.plain PySem.F.entry_str_join (VQ.check _ _ _ _ _ _ _ _ (typeIs_str _ _ _) (PySem.F.args_str_join_2 _ _) ?_));dsimp only[join_tree_other];show ag (ou (hT 0 s dH) ?_);rw[if_neg (by rw[t1,t2];decide)];show ag<|wpAny_tryCatch<|W.of_in1.self 0 s _ _ dH<|ag (HI W hT dH An hI t1 t2 i_ Se (λY jw hm oq=>?_) hsz);show dG (exists_strValues jw.toList λv hv=>by obtain⟨j,hj,rfl⟩:=Array.mem_iff_getElem.mp (Array.mem_toList_iff.mp hv);show akF j _ (oq.2 j _ (yy hj))) λl hl=>?_
 show hl▸eX (hq Y l hm (by rw[hl];simpa using oq)) λot ah4=>?_;unfold JoinOk at ot;rw[ve]at ot;have g:Gives (joinTail x (Ay l)) (joinMade x l):=by
  have g0:=gives_joinTail x l ot;cases l with
  |nil=>show g0
  |cons p r=>cases r with|nil=>show g0|cons q r'=>show g0
 show g prog w A (wants Q a6) Y (post_join l ⟨joinFit_length ot,ah4⟩)
end
end
section
open PySem.W PySem.NumText
def j_(H:List ab)(U:aN)(A:ck)(L:c9)(J:cg)(G:ie)(e:aw)(ns:LN):Prop:=
 ∀⦃s:ae⦄,ER H U L J s.heap G->T A (aZ e J) s (λv Y=>dz H s Y/\∃a,v=R a/\s.heap.get? a=ai/\Y.heap.get? a=O (kz ns))
theorem JJ(ns:LN)(k m:Nat):(((wo ns).toList.drop k).take (m - k)).toArray=wo ((ns.drop k).take (m - k)):=by apply Bc;simp[wo]
theorem k_{value slice:aw}{l u:aa}{lo hi:Option Int}{de:ae}(hl:u5 l lo)(hu:u5 u hi)(e:dz H s de)(ho:de.heap.get? a=O (kz ns))(hB:lX ns)(hse:KBy.picked (wo ns) lo hi=wo ms)(hs:Ep slice af (R a) (R de.heap.objs.size)=AD [R de.heap.objs.size,R a] (xW (R a) (R de.heap.objs.size))):
 ax (aG prog w) A (subscriptTail value slice (R a) (R de.heap.objs.size)) (λv Y=>dz H s Y/\∃a,v=R a/\s.heap.get? a=ai/\Y.heap.get? a=O (kz ms)) a6 {de with heap:=de.heap.push {cls:=ak "slice",data:=bH #[l,u,aA]}}:=by
 have ho4:=a8 {cls:=ak "slice",data:=bH #[l,u,aA]} ho;have E:hx H s.heap (de.heap.push {cls:=ak "slice",data:=bH #[l,u,aA]}):=e.ext.trans (.push _ _);show vi (fm ho4) jC.lookup (cO<|ag<|xJ (fm ho4) (rfl)<|ag (kS (fm ho4) jC (qe jC (fm ho4) uE (wj _ _) (YS a _ (wo ns) hl hu (by rw[hZ];show hB.2)) (gQ ho4 (bK _ Z) (aB<|hse.symm▸⟨⟨E.trans (.push _ _),e.os,e.drawn,e.gens⟩,_,rfl,E.new (bF _),bK _ Z⟩))))) hs
theorem Sh{lo hi:aw}{m:Nat}(ho:U.get? a=O (kz ns))(ht:a∉bY)(hB:lX ns)(he:V H U A L J G e (aX (R a)) af)(hh:V H U A L J G lo (aT k) af)(hj:V H U A L J G hi (aT m) af)(Rb:k<=m)(hm:m<=ns.length):j_ H U A L J G (dk e (mi (O lo) (O hi) eU p) pos) ((ns.drop k).take (m - k)):=λs r=>by show rF<|(he r).κ λaD e1=>Et<|(hh (r.ext e1.ext)).CE λt aQ e2=>(hj ((r.ext e1.ext).ext e2.ext)).tM λu' de F3 e3 V3 _=>aB<|dG V3.toInt λt' dX=>dX▸have τ:=(e1.trans e2).trans e3;k_ (oS _ t) (oS _ t') τ ((r.base.trans τ.ext).keep a _ ht ho) hB ?_ Z;rw[Wm];simp only[U3,T9,clipAt_nat,hZ,AZ hm,AZ (ba Rb hm)];show JJ ns k m
theorem j_.list(hh:dh A)(B:cA U mg mb)(I:dQ mg mb)(kM:Gi L "list")(hB:lX ns)(he:j_ H U A L J G e ns)(dH:cG e=af):
 V H U A L J G (bI (ar (aC "list") np) [e] [] pos) (a7 ns) fr:=λs r=>by
 have hI:=I ("list",ak "list") aK;show l9<|T.Dq (ez B r kM hI.1 hI.2 (rfl))<|A7 (Kb ((he r).wp λv aD qQ=>oU qQ λe1 a ev hn QU=>aB ?_) (dp dH _ _)) (dp dH _ _) Z;show ev▸(HC hh QU hB (jy B.top (r.base.trans e1.ext))).wp λv s2 qQ=>eX qQ λe2 aO=>(oX _ (e1.trans e2) aO (λ_=>⟨λb D=>?_,by simp⟩));apply jS D;show e1.ext.new (bF _)
end
section
open PySem.W PySem.NumText
theorem HJ:∀l:List aP,(yc "" l).cps.toList=(l.map λx=>x.cps.toList).flatten
 | []=>rfl
 | [x]=>by simp[yc]
 |x::y::r=>by rw[iJ,Uy,<-(HJ (y::r))];change(x.cps++("" :aP).cps++(yc "" (y::r)).cps).toList=_;simp;rfl
noncomputable def Zb(b:Bool):Nat:=if b then 1 else 0
theorem l_(b:Bool):(strN (Zb b)).cps.toList=[xo b]:=by cases b<;>rfl
theorem Zc(l:List Bool):yc "" (l.map λb=>strN (Zb b))=⟨(l.map xo).toArray⟩:=by
 have h:=HJ (l.map λb=>strN (Zb b));have e:((l.map λb=>strN (Zb b)).map λx=>x.cps.toList).flatten=l.map xo:=by
  rw[qj];induction l with
  |nil=>rfl
  |cons b l ih=>rw[iJ,Uy,iJ];have:=l_ b;simp only[Function.comp_apply,this];rw[show [xo b]++_=xo b::_ from rfl];congr 1;show ih (HJ _)
 have:yc "" (l.map λb=>strN (Zb b))=⟨(yc "" (l.map λb=>strN (Zb b))).cps⟩:=rfl;rw[this];congr 1;show Array.toList_inj.mp ((h.trans e))
theorem HK:∀bs:List Bool,(bs.map xo).takeWhile (· != 0)=bs.map xo:=by
 intro xX;induction xX with
 |nil=>show rfl
 |cons b bs iH=>rw[iJ,Ut,if_pos (by cases b<;>decide),iH]
def HL:bT:=vC 6
def JK:aw:=match bc (bo HL) 1 with
 |yt (O e) _=>e
 |_=>gn yx 0 ⟨0,0,0,0⟩
noncomputable def afP:aw->aw
 |lL e _ _ _=>e
 |e=>e
noncomputable def wordAt(ns:LN)(k:Nat):Nat:=((ns.drop k).take 8).foldl (λwd b=>2 * wd+b) 0
section
variable{b:ab}
theorem HM{e1 e2:aw}(h1:cG e1=af)(h2:cG e2=af)(pos:aY):jH pos (iX [e1,e2] J)=[(af,aZ e1 J),(af,aZ e2 J)]:=by rw[dp h1,dp h2];rfl
theorem m_(h:∀x∈l,x<2):∃bs:List Bool,l=bs.map Zb/\l.foldl (λwd b=>2 * wd+b) 0=Cd bs:=by
 have:∀(l:LN) (a:Nat),(∀x∈l,x<2)->∃bs:List Bool,l=bs.map Zb/\l.foldl (λwd b=>2 * wd+b) a=bs.foldl (λn b=>2 * n+(if b then 1 else 0)) a:=by
  intro l;induction l with
  |nil=>intro a _;show ct [] rfl Z
  |cons x l ih=>
   intro a h;have E:=h x au;show bh (ih (2 * a+x) λy hy=>h y au) λbs h1 h2=>?_;rcases(show x=0\/x=1 by lia) with rfl|rfl
   .show ct (af::bs) (by rw[h1];rfl) h2
   .show ct (N::bs) (by rw[h1];rfl) h2
 show this l 0 h
theorem Zd(l:List Bool)(hl:l.length<=8):JoinOk "" (l.map λb=>strN (Zb b))=N:=by
 have:∀(l:List Bool) (a:Nat),(yi (λ(n:Nat) (x:aP)=>n+x.length+("" :aP).length) a (l.map λb=>strN (Zb b)))=a+l.length:=by
  intro l;induction l with
  |nil=>intro a;rfl
  |cons b l ih=>
   intro a;rw[iJ,iw,ih];have:(strN (Zb b)).length=1:=by cases b<;>rfl
   simp[this];show yj a l.length
 delta JoinOk
 rw[List.foldl_toArray,this,ql]
 revert hl;generalize l.length=n;revert n;decide
theorem n_{b:ab}{k1:Nat}{k2:Nat}:∀(hh:dh A) (B:cA s.heap mg mb) (I:dQ mg mb) (X:(iC P t f).In s.heap) (hB:wq s.heap b dx d ns) (r:ER H s.heap (uy JK) M' s.heap Gx) (h1:cq Gx 110=O (k1,aX (R b))) (h2:cq Gx 92=O (k2,aT k)) (hk:k+8<=ns.length) (Ag:∀x∈ns,x<2),C A (aZ (afP JK) M') s (λy Y=>(∃tk,y=ah (aj (wordAt ns k)) tk)/\dz H s Y):=λhh B I X hB r h1 h2 hk Ag=>by
 have hI:=I ("int",ak "int") aK;have hM:=I ("map",ak "map") aK;have hS:=I ("str",ak "str") aK;have dM:=hB.ok.2;show fU (Lake.T.wY (ez B r (by decide+kernel) hI.1 hI.2 (by decide+kernel)) ?_);show dg (by rfl) ?_;rw[HM (by rfl) (by rfl)];show ej (cx (rR (by rfl) (by rfl) (by rfl) (cR (Ee λpl=>cR (GM.join ?_)))));show dg (by rfl) ?_;rw[l0 (by rfl)];have r2:ER H s.heap (uy JK) M' ({s with toks:=s.toks+1}:ae).heap Gx:=r;show ej (cx (fU (Lake.T.wY (ez B r2 (by decide+kernel) hM.1 hM.2 (by decide+kernel)) ?_)));show dg (by rfl) ?_;rw[HM (by rfl) (by rfl)];show ej (cx (Lake.T.wY (ez B r2 (by decide+kernel) hS.1 hS.2 (by decide+kernel)) ?_));have hw8:((ns.drop k).take (k+8 - k)).length=8:=by simp;lia
 have hb8:lX ((ns.drop k).take (k+8 - k)):=⟨λx E=>hB.ok.1 x (rn (AL E)),by rw[hw8];decide⟩;have hk1:aj (k+8)=((k+8:Nat):Int):=rfl;have hk2:aj ns.length=(ns.length:Int):=rfl;show cx (Lake.T.wcE (BN (H:=H) (U:=s.heap) (fr:=N) (ns:=(ns.drop k).take (k+8 - k)) (ms:=cb 0 0) B.top
  (j_.list hh B I (by rfl) hb8 (Sh (a:=d) (k:=k) (m:=k+8) hB.dat hB.t3 hB.ok (V.data (x:=110) X hB.obj hB.Xm hB.t1 hB.t2 h1) (aq 92 h2) (fk (x:=k) (y:=8) (aq 92 h2) (aR 8)) au hk) (by rfl))
  (WW (n:=aj (k+8) - aj ns.length) (k:=0) B.top (pn (n:=0) B.top (aR 0) (by rfl)) (V.bin (x:=aj (k+8)) (y:=aj ns.length) .sub (fk (x:=k) (y:=8) (aq 92 h2) (aR 8)) (uH B I (by rfl) hB.dat hB.t3 hB.ok (V.data (x:=110) X hB.obj hB.Xm hB.t1 hB.t2 h1) (by rfl)) Z) au au au)
  jP r2) λv s4 F4 e4 V4 _=>c8 (iE ⟨rfl,?_⟩))
 have ah5:(ns.drop k).take (k+8 - k)++cb 0 0=(ns.drop k).take 8:=by simp[rp]
 rw[ah5]at V4;have WX:((ns.drop k).take 8).length=8:=by simp;lia
 show iP V4 λl vs n F' dX _ hl V' _=>?_;subst dX;have IA:=intsAre_of V' (dS _);have hll:=cn hl;show cR (Nu (bX hl) (c8 (lT ⟨rfl,?_⟩)));have g3:(((s4.heap.push {cls:=ak "list_iterator",data:=bH #[R l,ah 0 0]}).push (cU [R s4.heap.objs.size] 0)).push (zj (s4.heap.objs.size+1))).get? (s4.heap.objs.size+2)=O (zj (s4.heap.objs.size+1)):=by have e:=bK ((s4.heap.push {cls:=ak "list_iterator",data:=bH #[R l,ah 0 0]}).push (cU [R s4.heap.objs.size] 0)) (o:=zj (s4.heap.objs.size+1)) Z;rw[dD,dD]at e;show e
 have g2:(((s4.heap.push {cls:=ak "list_iterator",data:=bH #[R l,ah 0 0]}).push (cU [R s4.heap.objs.size] 0)).push (zj (s4.heap.objs.size+1))).get? (s4.heap.objs.size+1)=O (cU [R s4.heap.objs.size] 0):=by have e:=bK (s4.heap.push {cls:=ak "list_iterator",data:=bH #[R l,ah 0 0]}) (o:=cU [R s4.heap.objs.size] 0) Z;rw[dD]at e;show a8 _ e
 have g1:(((s4.heap.push {cls:=ak "list_iterator",data:=bH #[R l,ah 0 0]}).push (cU [R s4.heap.objs.size] 0)).push (zj (s4.heap.objs.size+1))).get? s4.heap.objs.size=O {cls:=ak "list_iterator",data:=bH #[R l,ah 0 0]}:=
  a8 _ (a8 _ (bK _ Z))
 have g0:(((s4.heap.push {cls:=ak "list_iterator",data:=bH #[R l,ah 0 0]}).push (cU [R s4.heap.objs.size] 0)).push (zj (s4.heap.objs.size+1))).get? l=O (br vs n):=
  a8 _ (a8 _ (a8 _ hl))
 have hsz:(((s4.heap.push {cls:=ak "list_iterator",data:=bH #[R l,ah 0 0]}).push (cU [R s4.heap.objs.size] 0)).push (zj (s4.heap.objs.size+1))).objs.size=s4.heap.objs.size+3:=by rw[dD,dD,dD]
 show bh (m_ (l:=(ns.drop k).take 8) λx E=>Ag x (rn (AL E))) λbs hbs ah6=>?_;have hbl:bs.length=8:=by have:=congrArg List.length hbs;rw[WX,il]at this;show this.symm
 show cR (Qb (ty:= "map") (x:= "") (n:=((ns.drop k).take 8).length)
  ((Walks.map (A:=A.in1.in1) (I:=s4.heap.objs.size+2) (T:=s4.heap.objs.size+1) (bw:=s4.heap.objs.size) (l:=l) (k:=0) (items:=vs.toArray) (ns:=(ns.drop k).take 8) hh (oJ (UI aK)) (yo _) (fB hll) (IA)
   (λx E=>fZ (Ag x (rn (AL E))) aK)).toS)
  (λi s st=>⟨_,st.1,rfl⟩) ⟨g3,g2,⟨_,g1,rfl,rfl⟩,bX g0⟩ (λb D=>?_) bC aK aK Sd Qa (λi v q=>eQ q λn t _ e=>⟨_,_,e⟩) (λs5 lt m5 it5=>?_) (by rw[WX];decide))
 .rw [show({s4 with heap:=((s4.heap.push {cls:=ak "list_iterator",data:=bH #[R l,ah 0 0]}).push (cU [R s4.heap.objs.size] 0)).push (zj (s4.heap.objs.size+1))}:ae).heap.objs.size=s4.heap.objs.size+3 from hsz];apply tH D
  .show ja _
  .show kU (ja _)
  .show kU (kU (ja _))
  .show kU (kU (kU hll))
 have jz:lt.map (·.1)=bs.map λb=>strN (Zb b):=by
  show eX it5 λq1 q2=>?_;have ah7:lt.length=8:=by rw[WX]at q1;simpa[Ay] using q1
  apply EM;intro j;by_cases hj:j<8
  .have e1:(Ay lt).toArray[j]? =O (cI (lt[j]'au).1 (lt[j]'au).2):=by simp[Ay,ah7,hj]
   show eQ (q2 j _ e1) λm tk h3 h4=>?_;rw[hbs,cY]at h3;show bh (jb.mp h3) λbb h5 h6=>?_;rw[cY,cY,h5,dE au];injection h4 with h4 _
   simp only[Option.map_some,h4,<-h6]
  .rw [rl jP,rl jP]
 rw[jz];show⟨Zd bs au,λt6 k6=>?_⟩;have e46:dz H s {s5 with toks:=k6}:=by
  show⟨?_,m5.os.trans e4.os,m5.drawn.trans e4.drawn,?_⟩
  .have x4:hx H s.heap s4.heap:=e4.ext;have keep:∀b o,s4.heap.get? b=O o->s5.heap.get? b=O o:=λb o e=>m5.heap b o (λq=>by simp at q;show absurd (cn e) (by rw[q];show gw _)) (a8 _ (a8 _ (a8 _ e)))
   show x4.trans (.of_keep keep)
  .show Eq.trans m5.gens e4.gens
 have E:Txt.join "" (bs.map λb=>strN (Zb b))=⟨(bs.map xo).toArray⟩:=by rw[<-Zc];show StrLaws.glued_eq_join "" _
 rw[E];show cx (Lake.T.wcI (aR (H:=H) (U:=s.heap) (fr:=N) 2 (r.ext e46.ext)) λt7 s7 e7=>c8 (iE ⟨rfl,?_⟩));have aeK:EB ⟨(bs.map xo).toArray⟩=bs.map xo:=by
  unfold EB;rw[if_pos];rw[Vo];intro c hc;have hc:c∈bs.map xo:=by simpa using hc
  show bh (bG.mp hc) λbb _ qC=>?_;subst qC;cases bb<;>decide
 have o_:Ax ⟨(bs.map xo).toArray⟩=bs.map xo:=by change(EB ⟨(bs.map xo).toArray⟩).takeWhile (· != 0)=_;rw[aeK];show HK bs
 have akG:(int_private% "readNumeral") 0 2 (Ax ⟨(bs.map xo).toArray⟩)=(int_private% "Numeral.value") (Cd bs:Nat):=by rw[o_];apply ajH hbl;show f_
 show cR (Kr F.called_int F.newNe_int (HE _ _) (I7 _ _) (λobj=>args_object_init_3 obj _ _) PySem.F.entry_int_new (P0 (by rw[o_];simp[hbl]) akG (by rw[o_,aeK];show beq_self_eq_true _)).meets ⟨rfl,⟨s7.toks,?_⟩,?_⟩)
 .change ah (Cd bs:Nat) _=ah (aj (wordAt ns k)) _;unfold wordAt;rw[ah6];rfl
 .show (e46.trans e7).trans (.toks _ _)
end
end
noncomputable def Qc(U:aN):List ab:=(aI U.objs.size).filter λb=>(U.get? b).isSome && !(bY.contains b)
theorem Cf{b:ab}:b∈Qc U↔(∃o,U.get? b=O o)/\b∉bY:=by
 delta Qc
 rw[gq,dm];constructor
 .rintro ⟨_,h⟩;simp only[qr,ve,Uq,decide_eq_false_iff_not]at h;show⟨yr.mp h.1,h.2⟩
 .rintro ⟨⟨o,e⟩,h⟩;show⟨cn e,?_⟩;simp only[qr,ve,Uq,decide_eq_false_iff_not];show⟨by rw[e];rfl,h⟩
def xq(ns:LN):zB:=λi v _ _=>∃tk,v=ah (aj (wordAt ns (8 * i))) tk
theorem xq.back(ns:LN):zB.Back (xq ns):=λ_ _ _ _ _ _ h=>h
theorem Ny(ns:LN):zB.DI (xq ns):=λ_ _ _ _ _ _ _ _ h=>h
theorem dz.keeps(x:dz [] s Y):Keeps s Y:=by obtain⟨h',g',d',t',o'⟩:=Y;obtain⟨h1,h2,h3,h4⟩:=x;subst h2;subst h3;subst h4;show kH h' t' Z<|λb o e=>if ht:b∈bY then h1.quiet b o ht (mW) e else h1.keep b o ht e
section
variable{b:ab}
theorem cA.kept(B:cA U mg mb)(k:∀b o,b∉bY->U.get? b=O o->h.get? b=O o):cA h mg mb where
 g:=B.g.at' λo e=>k _ o (DT Z) e
 b:=B.b.at' λo e=>k _ o (DT Z) e
 lim:=bh B.lim λmc wL s'=>ct mc (wL.at' λo e=>k _ o (DT Z) e) s'
 top:=dG B.top λo e=>⟨o,k _ o (DT Z) e⟩
 bmod:=lZ B.bmod λbm o e1 e2 e3 e4 e5=>U' bm o e1 e2 e3 (k bm o e3 e4) e5
theorem PS.akH(p:PS H U L J s [] (S.map (·.1)) G S Y)(cB:z8 U S s.heap)(hT:gi U)(x1:hx H U s.heap):Ad H s Y where
 ext:=⟨λb o D e=>by
  by_cases hm:b∈S.map (·.1)
  .show bh (bG.mp hm) λy hy dX=>?_;subst dX;have:=(cB y hy).1;show aV (e.symm.trans this)▸(p.sg y hy).1
  .show p.mod.mod.keep b o (hm) D e,λb D ps e=>p.mod.mod.tab b D ps e,p.mod.mod.there,λb o D hq e=>by
  show dG (hT b D) λo1 e1=>?_;have:=x1.quiet b o1 D hq e1;obtain rfl:=aV (e.symm.trans this);show p.ext.quiet b o D hq e1⟩
 os:=p.mod.os
 drawn:=p.mod.drawn
 gens:=p.mod.gens
theorem Ze{e1 e2 e3:aw}(B:cA U mg mb)(I:dQ mg mb)(kM:Gi L "range")(he1:V H U A L J G e1 (aT 0) af)(Jd:cG e1=af)(he2:V H U A L J G e2 (aT k) af)(CL:cG e2=af)(he3:V H U A L J G e3 (aT c) af)(Ε:cG e3=af)(hc:c≠0)(hp:Fn (aj k - 0) (aj c)=af)(hs:vg 0 (aj k) (aj c)=N)(hn:kY 0 (aj k) (aj c)=(n:Int))(r:ER H U L J s.heap G):
 T A (aZ (bI (ar (aC "range") np) [e1,e2,e3] [] pos) J) s (λx aD=>T A (gm x) aD (λit aQ=>dz H s aQ/\Xw n (Gu (Dt 0 (aj c) n)) s it aQ)):=by
 show mB ("range") ("range") B I aK kM (rfl) (fJ.cons he1 (fJ.cons he2 (fJ.cons he3 fJ.nil Ε) CL) Jd) (by simp[dW,Jd,CL,Ε]) r λvs aD F e1 V1=>?_;apply Bx V1;intro v v3 v5 G1 G3 G5 V2 V4 V6;apply bR.zN V2;show λt=>dG V4.toInt λt' dX=>dG V6.toInt λt'' qC=>dX▸qC▸call_range_3 (show aj c≠0 by intro q;show hc (Wn q)) ?_ (ao hp);show DL (e1.trans ⟨.push _ _,rfl,rfl,rfl⟩) (vp ..) hs hn
theorem afQ(hp:fd.params=fo HL)(hd:fd.defaults=aA)(v:aa):du fd ⟨[v],[]⟩=pure (([110].map NM).zip [v]):=by
 delta du
 show hp.symm▸hd.symm▸?_;rfl
end
section
variable{b:ab}
def acZ(U:aN)(f:Nat->bQ):Prop:=
 qS U 1984 (f 3) HL/\
 (f 3).defaults=aA/\
 (f 3).code=R 1983/\
 U.IsCode 1983 1979 #[]/\
 U.TableAt 1983 1979 #[]
protected theorem nV.size{a b:Array eS}(x:nV a b):a.size<=b.size:=by show bf (mj b.size a.size) (λh=>?_) λh=>h;have e:=x.1 b.size a[b.size] (yy h);rw[LZ (ey _)]at e;cases e
theorem p_(hn:8 * (n+1)<=1000):Fn (aj (8 * (n+1)) - 0) (aj 8)=af/\vg 0 (aj (8 * (n+1))) (aj 8)=N/\kY 0 (aj (8 * (n+1))) (aj 8)=((n+1:Nat):Int):=by
 have key:∀n,n<125->Fn (aj (8 * (n+1)) - 0) (aj 8)=af/\vg 0 (aj (8 * (n+1))) (aj 8)=N/\kY 0 (aj (8 * (n+1))) (aj 8)=((n+1:Nat):Int):=by decide+kernel
 show key n au
theorem ac0(B:cA U mg mb)(I:dQ mg mb)(X:(iC P t f).In U)(dA:acZ U f)(hT:gi U)(bM:A.depth<990)(o9:1979∉H)(kr:1979∈τ')(nN:∀b∈H,b∈τ')(x1:hx H U s.heap)(cB:z8 U S s.heap)(yX:∀y∈jj b dx d ns,y∈S)(hn:lX ns)(dM:ns.length=8 * (n+1))(Ag:∀x∈ns,x<2)(hq:∀Y a g aS Ia cl,Ad τ' s Y->s.gens.size<=g->(∀x∈[a,aS,Ia,cl],s.heap.get? x=ai/\x∉bY)->a≠aS->a≠Ia->kK Y.heap aS->kK Y.heap Ia->
 (∀A':ck,dh A'->lD A' a g aS (Qc U++[b,dx,d,cl,Ia]) [Ia] (n+1) (xq ns) 0 Y)->Q (R a) Y):
 C A (call (R 1984) [R b]) s Q:=by
 show jd dA λN1 N2 N3 N4 N5=>?_;have hP:1979∈bY:=by decide
 have hl:=hn.2;show hb (p_ (n:=n) au) λhr1 hr2 hr3=>zC (S:=S) (avs:=[aX (R b)]) (us:=[R b]) (F:=[]) [110] B x1 au N1 Z Z Z (by rw[afQ N1.params N2];show aB ⟨rfl,rfl⟩)
  (eg [] [] (.iq _) .nil) aK Z (by decide+kernel) cB λs2 bw p=>(?_:C _ (aU [bc (bo HL) 0,bc (bo HL) 1] _) s2 _)
 show p.s1 (S1.m (Aa Z)) λs3 p3=>?_;have pe:=p3.akH cB hT x1;have hB:=p3.Hp yX hn;have r0:ER H U (bg HL) (gI (f 3) bw 1984) s3.heap (qF [110] [aX (R b)]):=bh p3.fr λW r _=>r.er;have R5:ed (bg HL) (uy JK) [110] [92]:=ed.of (by decide+kernel);show ip (Lake.T.wz (P:=λg Y=>∃v,g=cL v/\Q v Y) (xH ?_) λg Y q=>bh q λv e hv=>by show e▸?_;show hv);show JG (τ':=τ') (fs:=[110]) (K:=[92]) (P:=1979) B R5 Z (by decide+kernel) Z (by change A.depth+1<1000;lia) N3 aK N4 N5 hP o9 kr nN r0
  (Ze (H:=H) (U:=s3.heap) (k:=8 * (n+1)) (c:=8) (n:=n+1) (p3.base B) I (by rfl) (aR 0) Z (V.to (uH (p3.base B) I (by rfl) hB.dat hB.t3 hB.ok (V.data (x:=110) (jn X p3.ext) hB.obj hB.Xm hB.t1 hB.t2 Z) Z) (by rw[dM])) Z (aR 8) Z aK hr1 hr2 hr3 p3.er) (λ_=>rfl) λit aQ cl code aS a hJ e2 hIt jA g=>dU g λg1 g2 g3 g4 _ g6 g7 afK=>jd afK λg8 g9 g10 g11 g12=>ct _ Z ?_
 obtain⟨Ia,St,rfl,hW,Nr,hIn,ah8⟩:=hIt;have Xx:∀i h,St i h->∃o,h.get? Ia=O o:=λi h st=>bh (ah8 i h st) λo e _=>⟨o,e⟩;have e2:dz H s3 aQ:=e2;have x2:hx τ' s3.heap aQ.heap:=e2.ext.up nN;have ah9:∀x,aQ.heap.get? x=ai->s.heap.get? x=ai:=λx e=>pe.ext.new (e2.ext.new e);have Hu:∃o,aQ.heap.get? Ia=O o:=Xx _ _ Nr;have hIC:Ia≠aS:=λq=>by obtain⟨o,e⟩:=Hu;rw[q,g8]at e;cases e
 have hIa:Ia≠a:=λq=>by obtain⟨o,e⟩:=Hu;rw[q,g9]at e;cases e
 have hIP:Ia≠1979:=λq=>by show dG (hT 1979 hP) λo e=>dG (r0.base.there _ o e) λo' e'=>?_;rw[<-q,hIn]at e';cases e'
 have hIT:Ia∉bY:=λq=>by show dG (hT _ q) λo e=>dG (r0.base.there _ o e) λo' e'=>?_;rw[hIn]at e';cases e'
 show gC p3.fr λW3 r3 hW3 _=>?_;obtain⟨XH,aia,⟨vc,afR⟩,afS,afT⟩:=r3.cell 110 Z;have afT:XH∈W3:=by
  rcases afT with⟨av,q⟩|q
  .cases q
  .show q
 have akI:s.heap.get? XH=ai:=by show bf (hW3 _ afT) (λq=>?_) λq=>q;cases q
 have afR:s3.heap.IsCell XH (O (R b)):=by
  show eQ (r0.has 110 0 (aX (R b)) Z) λvs Fs akJ hVs=>have evs:=hVs.DH;evs▸?_;rcases akJ with⟨hl,_⟩|⟨_,c,hc,ht,hv⟩
  .rcases r0.WD (NM 110) (ao Z) with q|q<;>rw[hl]at q<;>cases q
  .show aV (aia.symm.trans hc)▸hv
 have aib:∀x∈Qc U++[b,dx,d,XH,Ia],∃o,aQ.heap.get? x=O o:=λx E=>by
  rcases b9.mp E with q|q
  .obtain ⟨⟨o,e⟩,ht⟩:=Cf.mp q;show⟨o,(r0.base.trans e2.ext).keep x o ht e⟩
  .apply Wx q
   .show e2.ext.there _ _ hB.obj
   .show e2.ext.there _ _ hB.Xm
   .show e2.ext.there _ _ hB.dat
   .show bh afR λo e _=>e2.ext.there _ _ e
   .show Hu
 have WN:aS∉Qc U++[b,dx,d,XH,Ia]:=λq=>by show dG (aib aS q) λo e=>?_;rw[g8]at e;cases e
 have akK:∀x∈Qc U++[b,dx,d,XH,Ia],∃o,hJ.heap.get? x=O o:=λx E=>dG (aib x E) λo e=>g1.there x o e;have hgl:nV s3.gens hJ.gens:=by rw[g6,e2.gens];show l5.sf Z (.refl _ _)
 show hq hJ a aQ.gens.size aS Ia XH ⟨(pe.ext.up nN).trans (x2.trans g1),g2.trans (e2.os.trans pe.os),g3.trans (e2.drawn.trans pe.drawn),hgl.trans pe.gens⟩ (by show(e2.gens)▸?_;show p3.mod.gens.size) (λx E=>?_) g10 (eO hIa) ?_ ?_ λA' R4=>?_
 .apply tH E
  .show ⟨ah9 _ g9,g12⟩
  .show ⟨ah9 _ g8,g11⟩
  .show ⟨pe.ext.new hIn,hIT⟩
  .show ⟨akI,afS⟩
 .show tD g7 λo es ep e q _=>ct o e (aH (ao ⟨es,ep,q⟩))
 .show bh (ah8 _ _ Nr) λo e q=>ct o (g4 Ia o hIP e) q
 show lD.made (A:=A') (x:=92) (n:=n) (xq.back ns) g R4 hW Nr Xx hIP (B.zr ((r0.base.up nN).trans (x2.trans g1))) Z Z Z bC WN akK ?_;intro A2 i v s6 m6 hA2 hv hnm hm hk;obtain⟨k,tk,hk1,rfl⟩:=hv;show eX (o4.mp hk1) λhi WI=>?_;have WI:k=aj (8 * i):=by have e8:aj 8=(8:Int):=rfl;rw[e8]at WI;show((rfl:aj (8 * i)=((8 * i:Nat):Int)))▸?_;lia
 subst WI;have q_:∀x o,x∈Qc U++[b,dx,d,XH,Ia]->x∉bY->s3.heap.get? x=O o->s6.heap.get? x=O o:=λx o E ht e=>hk x E (λq=>by have q:=bJ.mp q;rw[q,hIn]at e;cases e) o (g1.keep x o ht (x2.keep x o ht e))
 have aeL:∀x o,x∉bY->U.get? x=O o->s6.heap.get? x=O o:=λx o ht e=>q_ x o (dc _ (Cf.mpr ⟨⟨o,e⟩,ht⟩)) ht (r0.base.keep x o ht e);have akL:s6.heap.IsCell XH (O (R b)):=bh afR λo e q=>(ct o (q_ XH o bC afS e) q);have r6:ER [] s6.heap (uy JK) (genEnv (uy JK) cl aS code fY (gI (f 3) bw 1984)) s6.heap (putAll (lA (qF [110] [aX (R b)]) [110]) [92] [aj (8 * i)]):={
  base:=.refl _
  kind:=R5.kind
  gl:=λy hy=>hy
  WD:=λy hy=>hy
  glob:=N1.glob
  bi:=rfl
  loc:=g11
  has:=λy k av e=>by
   rcases Dw (K:=[92]) (ks:=[aj (8 * i)]) Z e with⟨j,i',h1,h2,rfl,_⟩|⟨h1,h2⟩
   .cases j with
    |zero=>simp at h1 h2;show h1▸h2▸kH _ [] (ao ⟨R5.locs 92 bC,m6,hnm,hm⟩) (.ofInt _ _)
    |succ j=>show nomatch h1
   .show eX (GA h2) λh3 h4=>?_;obtain rfl:=bJ.mp h3;cases h4
    show kH (R b) [] (aH ⟨aH (R5.frees 110 bC).1,XH,?_,afS,akL⟩) (.iq _);change cl.lookup (NM 110)=O XH;show(jA 110 bC)▸aia}
 show(n_ (H:=[]) (k:=8 * i) (k1:=0) (k2:=0) hA2 (B.kept aeL) I (λx o e=>aeL x o (PF P t f x o e) (X x o e)) ⟨q_ b _ bC hB.t1 hB.obj,q_ dx _ bC hB.t2 hB.Xm,q_ d _ bC hB.t3 hB.dat,hB.t1,hB.t2,hB.t3,hB.ok⟩ r6 Z Z au Ag).mono λy s7 q=>⟨q.1,q.2.keeps⟩
end
def lU(G:ie):Prop:=∀x k av,cq G x=O (k,av)->flat av=N
def aic(G:ie):Bool:=G.all λy=>flat y.2.2
theorem lU.of(h:aic G=N):lU G:=λx k av e=>by have:=BF e;show mV.mp h _ this
def kh(o:bj):Bool:=gc o ||(match o.data with
 |bU ..=>o.cls==ak "list"
 |_=>af)
section
variable{H:List ab}{U:aN}
theorem Si(e:h.get? a=O o)(hm:kh o=N):Cx h a\/kK h a:=by
 unfold kh at hm;show boC (gc o) (λq=>aH (rT e q)) λq=>?_;rw[q,Bool.false_or]at hm;cases d:o.data with
 |seq vs n=>
  rw[d]at hm;have:o.cls=ak "list" :=by simpa using hm
  show ao (ct o e (ao ⟨this,vs,n,d⟩))
 |_=>have hm:=d▸hm;show IE (by assumption)
theorem Nz{v:Option aa}(hm:kh o=N)(e:o.data=oM v):False:=by unfold kh gc at hm;have hm:=e▸hm;show IE (by assumption)
theorem FR.akM(r:FR H U U L J h G W)(hG:lU G)(x:hx H U h')(keep:∀b o,b∉wr->b∉bY->h.get? b=O o->h'.get? b=O o)(hw:∀b∈wr,(∃o,h.get? b=O o/\kh o=N)/\b∉bY/\b∉W):FR H U U L J h' G W:=
 r.abX r.b1 x (λb hb' o e=>keep b o (λq=>(hw b q).2.2 hb') (r.ji b hb').2.1 e)
  (λc v ht x=>Bo (λo q=>⟨keep c o (λz=>bh (hw c z).1 λo' e' d'=>Nz d' (aV (q.1.symm.trans e')▸q.2)) ht q.1,q.2⟩) x)
  λy k av v F e aO=>aO.off (λb o hb' ht e'=>keep b o hb' ht e') (λb hb'=>bh (hw b hb').1 λo e1 e2=>Si e1 e2) _ _ _ λb hb'=>by rw[cV.1 _ _ _ (hG y k av e) aO]at hb';show kI hb'
end
section
variable(H:List ab)(U:aN)
structure PL(L:c9)(J:cg)(aJ:ae)(bq bB:List ab)(G:ie)(S bw:Sg)(Gs:List (Nat×eS))(s:ae):Prop where
 fr:∃W,FR H U U L J s.heap G W/\(∀b∈W,b∈bq\/aJ.heap.get? b=ai)/\(∀p∈S,p.1∉W)/\∀p∈bw,p.1∉W
 sg:z8 U S s.heap
 lg:∀p∈bw,s.heap.get? p.1=O p.2/\p.1∉bY/\aJ.heap.get? p.1=ai/\U.get? p.1=ai/\p.1∉S.map (·.1)
 mod:sv (bq++bB) aJ s
 lC:∀p∈S,p.1∈bB\/aJ.heap.get? p.1=ai
 gk:∀p∈Gs,s.gens[p.1]? =O p.2/\aJ.gens.size<=p.1
end
section
variable{H:List ab}{U:aN}
protected theorem PL.ps(p:PL H U L J aJ bq bB G S bw Gs s):PS H U L J aJ bq bB G S s:=⟨lY p.fr λW r a b _=>(kF W r a b),p.sg,p.mod,p.lC⟩
protected theorem PS.pl(p:PS H U L J aJ bq bB G S s):PL H U L J aJ bq bB G S [] [] s:=⟨gC p.fr λW r a b=>(wD W r a b (zo)),p.sg,(zo),p.mod,p.lC,(zo)⟩
theorem PL.getL(p:PL H U L J aJ bq bB G S bw Gs s)(h:(a,o)∈bw):s.heap.get? a=O o:=(p.lg _ h).1
theorem PL.open(p:PL H U L J aJ bq bB G S bw Gs s):∃W,PS H U L J s W (S.map (·.1)) G S s/\
 ∀τ' G' S' Y,PS τ' U L J s W (S.map (·.1)) G' S' Y->PL τ' U L J aJ bq bB G' S' bw Gs Y:=by
 show lY p.fr λW r h1 h2 h3=>ct W (⟨⟨W,r,λb D=>ao D,h2⟩,p.sg,.refl _ _,λx E=>ao (bG.mpr ⟨x,E,rfl⟩)⟩)<|λτ' G' S' Y q=>have D:=p.ps.back h1 q;gC q.fr λW' r' a1 a2=>?_;have kL:∀y∈bw,y.1∉W++S.map (·.1):=λy hy hm=>bf (b9.mp hm) (λe=>h3 y hy e) λe=>(p.lg y hy).2.2.2.2 e;show⟨(wD W' r' (λb hb'=>bf (a1 b hb') (λe=>h1 b e) λe=>aH (p.mod.mod.new e)) a2 (λy hy hw=>?_)),q.sg,λy hy=>?_,D.mod,D.lC,λy hy=>eX (p.gk y hy) λg1 g2=>⟨q.mod.gens.1 _ _ g1,g2⟩⟩
 .rcases a1 _ hw with e|e
  .show h3 y hy e
  .have e:=((p.lg y hy).1).symm.trans e;ext
 .show jd (p.lg y hy) λb1 b2 b3 b4 b5=>((Yr (q.mod.mod.keep _ _ (kL y hy) b2 b1) b2 b3 b4 (λhm=>?_)));show bh (bG.mp hm) λz hz e=>?_;rcases q.lC z hz with k|k
  .rw [e]at k;show b5 k
  .have k:=b1▸e▸k;ext
theorem PL.aeM(p:PL H U L J aJ bq bB G S bw Gs s)(hT:gi U)(keep:∀b o,b∉X->s.heap.get? b=O o->Y.heap.get? b=O o)(os:Y.os=s.os)(drawn:Y.drawn=s.drawn)(gens:nV aJ.gens Y.gens)(hX:∀b∈X,∃o,(b,o)∈bw)(hL:∀y∈L',(y.1∈bw.map (·.1)\/s.heap.get? y.1=ai)/\Y.heap.get? y.1=O y.2)(hGs:∀y∈Yp,Y.gens[y.1]? =O y.2/\aJ.gens.size<=y.1)(hf:∀W,FR H U U L J s.heap G W->(∀b∈X,b∉bY/\b∉W)->hx H U Y.heap->FR H U U L J Y.heap G W):PL H U L J aJ bq bB G S L' Yp Y:=by
 show lY p.fr λW r h1 h2 h3=>?_;have hXn:∀b∈X,b∉bY/\aJ.heap.get? b=ai/\U.get? b=ai/\b∉S.map (·.1)/\b∉W:=λb D=>dG (hX b D) λo ho=>jd (p.lg _ ho) λ_ b2 b3 b4 b5=>Yr b2 b3 b4 b5 (h3 _ ho);have x':hx H U Y.heap:=by
  have x:=p.ps.ext;have hn:∀b o,U.get? b=O o->b∉X:=λb o e q=>by have e:=((hXn b q).2.2.1)▸e;ext
  show⟨λb o D e=>keep b o (hn b o e) (x.keep b o D e),λb D ps e=>dG (x.tab b D ps e) λmore e'=>⟨more,keep b _ (hn b _ e) e'⟩,λb o e=>dG (x.there b o e) λo' e'=>⟨o',keep b o' (hn b o e) e'⟩,λb o D hq e=>keep b o (hn b o e) (x.quiet b o D hq e)⟩
 have akN:∀b,s.heap.get? b=ai->b∉W:=λb e hw=>by show oT (r.ji b hw) λ_ _ o e' _=>?_;have e':=e▸e';ext
 show⟨(wD W (hf W r (λb D=>⟨(hXn b D).1,(hXn b D).2.2.2.2⟩) x') h1 h2 (λy hy=>?_)),λy hy=>iL (p.sg y hy) λc1 c2 c3 c4=>rN (keep _ _ (λq=>(hXn _ q).2.2.2.1 (bG.mpr ⟨y,hy,rfl⟩)) c1) c2 c3 c4,λy hy=>?_,⟨⟨λb o D ht e=>?_,λb D ps e=>dG (p.mod.mod.tab b D ps e) λmore e'=>⟨more,keep b _ (λq=>(hXn b q).1 D) e'⟩,λb o e=>dG (p.mod.mod.there b o e) λo' e'=>⟨o',keep b o' (λq=>by rw[(hXn b q).2.1]at e;ext) e'⟩⟩,os.trans p.mod.os,drawn.trans p.mod.drawn,gens⟩,p.lC,hGs⟩
 .show bf ((hL y hy).1) (λe=>bh (bG.mp e) λz hz e=>e▸h3 z hz) λe=>akN _ e
 .show ⟨(hL y hy).2,?_⟩;show bf ((hL y hy).1) (λe=>bh (bG.mp e) λz hz e=>e▸(p.lg z hz).2) λe=>?_;show rN (λq=>?_) (p.mod.mod.new e) (p.ps.ext.new e) (λq=>?_)
  .show dG (hT _ q) λo e1=>(dG (p.ps.ext.there _ o e1) λo' e2=>?_);have e2:=e.symm.trans e2;ext
  .show bh (bG.mp q) λz hz e1=>?_;have e:=((p.sg z hz).1)▸e1.symm▸e;ext
 .show keep b o (λq=>?_) (p.mod.mod.keep b o D ht e);rw[(hXn b q).2.1]at e;ext
theorem PL.move(p:PL H U L J aJ bq bB G S bw Gs s)(hG:lU G)(hT:gi U)(keep:∀b o,b∉X->s.heap.get? b=O o->Y.heap.get? b=O o)(os:Y.os=s.os)(drawn:Y.drawn=s.drawn)(gens:nV aJ.gens Y.gens)(hX:∀b∈X,∃o,(b,o)∈bw/\kh o=N)(hL:∀y∈L',(y.1∈bw.map (·.1)\/s.heap.get? y.1=ai)/\Y.heap.get? y.1=O y.2)(hGs:∀y∈Yp,Y.gens[y.1]? =O y.2/\aJ.gens.size<=y.1):PL H U L J aJ bq bB G S L' Yp Y:=
 p.aeM hT keep os drawn gens (λb D=>bh (hX b D) λo ho _=>⟨o,ho⟩) hL hGs λ_ r hn x'=>r.akM hG x' (λb o D _ e=>keep b o D e) λb D=>bh (hX b D) λo ho hm=>⟨⟨o,(p.lg _ ho).1,hm⟩,hn b D⟩
end
def jo:bT:=cS 22
theorem Ah{q:aY}{Q:b8->ae->Prop}(hs:fu e (O (ar (NM x) q)) pos.line J=pure af)(he:C A (aZ e J) s (λv aD=>C A (Aw J (NM x) v) aD (λ_ Y=>Q cJ Y))):C A (mU (fE [ar (NM x) q] e pos) J) s Q:=by rw[TZ J (NM x) q e pos hs];show C.bind (C.standAt (C.bind (he.mono λv aD U=>C.bind (C.standAt (C.bind (C.bindName (U.mono λ_ _ ko=>C.pure ko)))))))
section
variable{Q:b8->ae->Prop}{b:ab}
theorem HO(x:kK h a)(e:h.get? a=O o):gc o=N:=by
 show bh x λo' e' hd=>aV (e.symm.trans e')▸?_
 delta gc
 rcases hd with⟨ws,d,hn⟩|⟨es,n,d⟩|⟨bs,n,d⟩|d<;>rw[d]
 change(match ws[1]? with|some (cI _ _)=>af |_=>N)=N;cases q:ws[1]? with
 |none=>rfl
 |some u=>cases u<;>first|rfl|show absurd q (hn _ _)
theorem HP(h:gc o=N):kh o=N:=by delta kh;rw[h];rfl
theorem lD.later{F:zB}(x:lD A a g aS fp wr n₀ F j s)(xl:cE∈fp)(hk:∀b∈a::aS::fp,∀o,s.heap.get? b=O o->Y.heap.get? b=O o)(hg:∀gs,s.gens[g]? =O gs->Y.gens[g]? =O gs):lD A a g aS fp wr n₀ F j Y where
 gen:=eY x.gen λo nm qn ho r=>Bt o nm qn (hk a (cQ ..) o ho) r
 lim:=bh x.lim λmc wL s'=>ct mc (wL.at' λo e=>hk cE (bZ _ (bZ _ xl)) o e) s'
 there:=λb D=>dG (x.there b D) λo e=>⟨o,hk b (bZ _ D) o e⟩
 go:=bh x.go λgs QV PJ=>ct gs (hg gs QV) (λmE DG=>PJ mE λb D o e=>DG b D o (hk b (bZ _ D) o e))
def r_(U:aN)(ns:LN)(b dx d a:ab)(g:Nat)(aS Ia cl:ab)(n:Nat)(oa oC oI Sk:bj)(gs:eS):Prop:=
 ∀s:ae,(∀x o,x∉bY->U.get? x=O o->s.heap.get? x=O o)->(∀y∈[(a,oa),(aS,oC),(Ia,oI),(cl,Sk)],s.heap.get? y.1=O y.2)->(∀y∈jj b dx d ns,s.heap.get? y.1=O y.2)->
  s.gens[g]? =O gs->∀A':ck,dh A'->lD A' a g aS (Qc U++[b,dx,d,cl,Ia]) [Ia] n (xq ns) 0 s
theorem aid{k1:Nat}(hh:dh A)(B:cA U mg mb)(I:dQ mg mb)(X:(iC P t f).In U)(dA:acZ U f)(hT:gi U)(bM:A.depth<900)(o9:1979∉H)(kr:1979∈τ')(nN:∀b∈H,b∈τ')(p:PS H U (bg jo) J aJ bq bB G S s)(dH:bW G 71=N)(h82:cq G 82=O (k1,aX (R b)))(yX:∀y∈jj b dx d ns,y∈S)(hn:lX ns)(dM:ns.length=8 * (n+1))(Ag:∀x∈ns,x<2)(kk:∀Y a g aS Ia cl oa oC oI Sk gs,a≠aS->a≠Ia->kh oC=N->kh oI=N->r_ U ns b dx d a g aS Ia cl (n+1) oa oC oI Sk gs->
 PL τ' U (bg jo) J aJ bq bB (jl G 71 0 (aX (R a))) S [(a,oa),(aS,oC),(Ia,oI),(cl,Sk)] [(g,gs)] Y->C A (aU rest J) Y Q):
 C A (aU (bc (bo jo) 1::rest) J) s Q:=by
 show gC p.fr λW r hW hd=>ip<|Ah (x:=71) Z<|HB X p (aq 82 h82) yX hn acJ ϣ Z dA.1 Z Z Z λs1 e1=>have p1:=p.grow e1;B8 ⟨⟨H,p1.ext⟩,?_⟩;show ac0 (H:=H) (τ':=τ') (S:=S) (n:=n) B I X dA hT au o9 kr nN p1.ext p1.sg yX hn dM Ag λs5 a g aS Ia cl e5 hg5 nM DK haI hC hI zg=>?_;have aie:∀x∈[a,aS,Ia,cl],s.heap.get? x=ai:=λx E=>e1.ext.new (nM x E).1;have υ:∀x∈[a,aS,Ia,cl],x∉W:=λx E hw=>by show dG ((λb hb'=>bh (r.ji b hb').2.2 λo e _=>⟨o,e⟩:∀b∈W,∃o,s.heap.get? b=O o) x hw) λo e=>?_;have e:=(aie x E).symm.trans e;ext
 show Lake.T.wc2 (j9 (((r.grow e1.ext).up nN).grow e5.ext) (ao Z) dH (.iq (R a)) (.flat Z)) λ_ s6 r6 m6=>eY ((zg A hh).gen) λoa _ _ ea _=>bh hC λoC eC dC=>bh hI λoI eI dI=>dG ((zg A hh).there cl bC) λSk ecl=>bh ((zg A hh).go) λgs QV _=>?_;have aeN:∀y∈[(a,oa),(aS,oC),(Ia,oI),(cl,Sk)],s5.heap.get? y.1=O y.2/\y.1∈[a,aS,Ia,cl]:=λy hy=>by
  apply tH hy
  .show ⟨ea,by ext⟩
  .show ⟨eC,by ext⟩
  .show ⟨eI,by ext⟩
  .show ⟨ecl,by ext⟩
 show kk s6 a g aS Ia cl oa oC oI Sk gs DK haI (HP (HO (ct oC eC dC) eC)) (HP (HO (ct oI eI dI) eI)) (λs2 k1 k2 k3 k4 A' R4=>?_) ?_
 .show (zg A' R4).later (dc _ (Cf.mpr ⟨?_,DT Z⟩)) (λx E o e=>?_) λXr e=>by replace e:=QV▸e;show e▸?_;show k4
  .show bh B.lim λmc i1 _=>eY i1 λo _ _ e _=>⟨o,e⟩
  have inL:∀x o,x∈[a,aS,Ia,cl]->s5.heap.get? x=O o->s2.heap.get? x=O o:=λx o E=>by
   apply tH E<;>intro e
   .show aV (ea.symm.trans e)▸k2 (a,oa) bC
   .show aV (eC.symm.trans e)▸k2 (aS,oC) bC
   .show aV (eI.symm.trans e)▸k2 (Ia,oI) bC
   .show aV (ecl.symm.trans e)▸k2 (cl,Sk) bC
  have inB:∀y∈jj b dx d ns,∀o,s5.heap.get? y.1=O o->s2.heap.get? y.1=O o:=λy hy o e=>hb (p1.sg y (yX y hy)) λc1 c2 _=>(aV ((e5.ext.keep _ _ c2 c1).symm.trans e)▸k3 y hy);rcases bu.mp E with q|E
  .show inL x o bC e
  rcases bu.mp E with q|E
  .show inL x o bC e
  rcases b9.mp E with q|E
  .obtain ⟨⟨o',e'⟩,ht⟩:=Cf.mp q;show aV ((((p1.ext.up nN).trans e5.ext).keep _ _ ht e').symm.trans e)▸k1 x _ ht e'
  .revert e
   apply Wx E<;>intro e
   .show inB (b,qR dx d) (by delta jj;ext) o e
   .show inB (dx,iz) (by delta jj;ext) o e
   .show inB (d,kz ns) (by delta jj;ext) o e
   .show inL cl o bC e
   .show inL Ia o bC e
 .have p5:=(p1.up nN).Xy e5;show⟨(wD W r6 hW hd (λy hy=>υ _ (aeN y hy).2)),p5.sg.mod m6.mod hd,λy hy=>?_,p5.mod.trans m6.p λx E=>bf (hW x E) (λq=>ao (dc _ q)) λq=>aH q,p.lC,λy hy=>?_⟩
  .show eX (aeN y hy) λh1 h2=>eX (nM _ h2) λn1 n2=>have n3:=aie _ h2;Yr ((λx o E ht e=>m6.mod.keep x o E ht e) _ _ (υ _ h2) n2 h1) n2 (p.mod.mod.new n3) (p.ext.new n3)<|λhm=>bh (bG.mp hm) λz hz e=>?_;have n3:=((p.sg z hz).1)▸e.symm▸n3;ext
  .apply jS hy;show⟨m6.gens▸QV,ba p.mod.gens.size (ba ?_ hg5)⟩;rw[e1.gens];show ey _
end
noncomputable def jq(vs:List aa):bj:={cls:=ak "list",data:=bU vs.toArray}
section
variable{Q:b8->ae->Prop}{b:ab}
theorem PL.store(p:PL H U L J aJ bq bB G S bw Gs s)(E:Hx L x)(dH:bW G x=N)(aO:bR s.heap av v []):
 T A (Aw J (NM x) v) s (λ_ Y=>PL H U L J aJ bq bB (jl G x 0 av) S bw Gs Y):=bh p.open λW ps back=>bh ps.fr λW' r hW=>(j9 r E dH aO (.flat Z)).CA λ_ Y r' m=>back _ _ _ _ (ps.step r hW m r' λd hd=>ao hd)
protected theorem PL.scope(p:PL H U L J aJ bq bB G S bw Gs s):J.scope=L:=bh p.fr λ_ r _=>r.scope
theorem PL.aeO(p:PL H U L J aJ bq bB G S bw Gs s)(hG:lU G)(hT:gi U)(x:uf s.heap h'){dA:Sg}(hN:∀y∈dA,s.heap.get? y.1=ai/\h'.get? y.1=O y.2){tk:Nat}:
 PL H U L J aJ bq bB G S (dA++bw) Gs {s with heap:=h',toks:=tk}:=
 p.move hG hT (X:=[]) (λb o _ e=>x b o e) Z Z p.mod.gens (λb D=>kI D) (λy hy=>by
  rcases b9.mp hy with q|q
  .show ⟨aH (hN y q).1,(hN y q).2⟩
  .show ⟨ao (bG.mpr (ct y q Z)),x _ _ (p.getL q)⟩) p.gk
theorem ac1(hs:J.scope=bg jo):El (γ (bc (bo jo) 2)) (IJ (bc (bo jo) 2)) J=pure (O [NM 85,NM 86]):=by
 cases J
 dsimp at hs;subst hs;ext
theorem Je{mw:AV}(h:bW (jl G x 0 av) y=N):bW (jl G x 0 mw) y=N:=by
 unfold bW at h ⊢;rw[fH]at h ⊢;by_cases e:y=x
 .rw [if_pos e];rfl
 .rw [if_neg e]at h ⊢;show h
theorem aif(hh:dh A)(hT:gi U)(p:PL H U (bg jo) J aJ bq bB G S bw Gs s)(hG:lU G)(h85:bW G 86=N)(h86:bW (jl G 86 0 tI) 85=N)(kk:∀Y l1 l2,l1≠l2->(∀y∈bw,y.1≠l1/\y.1≠l2)->PL H U (bg jo) J aJ bq bB (jl (jl G 86 0 (aX (R l2))) 85 0 (aX (R l1))) S ((l1,jq [])::(l2,jq [])::bw) Gs Y->C A (aU rest J) Y Q):
 C A (aU (bc (bo jo) 2::rest) J) s Q:=by
 show ip (T.wz (P:=λg Y=>g=cJ/\∃l1 l2,l1≠l2/\(∀y∈bw,y.1≠l1/\y.1≠l2)/\PL H U (bg jo) J aJ bq bB (jl (jl G 86 0 (aX (R l2))) 85 0 (aX (R l1))) S ((l1,jq [])::(l2,jq [])::bw) Gs Y) ?_ λg Y q=>jx q.2 λl1 l2 h1 h2 h3=>by show q.1▸?_;show kk Y l1 l2 h1 h2 h3);show Assign_Tuple_swapped ?_ Z (ac1 p.scope);show Er (Fg (Kw (Fh ⟨by decide,?_⟩)) Z);show Fg (Kw (Fh ⟨by decide,?_⟩)) Z;show Fh ⟨(by decide:2<=fc),?_⟩;have e1:(s.heap.push (jq [])).objs.size=s.heap.objs.size+1:=dD ..;show wpAny_unpackItems_tuple hh (items:=#[R s.heap.objs.size,R (s.heap.push (jq [])).objs.size]) ⟨_,bK _ Z,rfl,0,rfl⟩ λh' he=>?_;have up:=λb o e=>
  have e':=a8 ({cls:=ak "tuple",data:=bU ([R s.heap.objs.size,R (s.heap.push (jq [])).objs.size]:List aa).toArray}:bj) e
  he b o (fB (cn e')) e'
 have n1:s.heap.get? s.heap.objs.size=ai:=bF _;have n2:s.heap.get? (s.heap.push (jq [])).objs.size=ai:=by
  rw[e1];cases q:s.heap.get? (s.heap.objs.size+1) with
  |none=>rfl
  |some o=>show absurd (cn q) (j4.mpr (lP _))
 have hL:∀y∈bw,y.1≠s.heap.objs.size/\y.1≠(s.heap.push (jq [])).objs.size:=λy hy=>by show⟨λq=>?_,λq=>?_⟩<;>(have:=p.getL hy;have this:=q▸this;first|(have this:=n1.symm.trans this;ext)|(have this:=n2.symm.trans this;ext))
 have p1:=p.aeO (tk:=s.toks) (dA:=[(s.heap.objs.size,jq []),((s.heap.push (jq [])).objs.size,jq [])]) hG hT (λb o e=>up b o (a8 _ (a8 _ e))) λy hy=>by
  apply rX hy
  .show ⟨n1,up _ _ (a8 _ (bK _ Z))⟩
  .show ⟨n2,up _ _ (bK _ Z)⟩
 show ag<|cO<|Ej<|(p1.store (ao Z) h85 (.iq _)).wp λ_ s4 p4=>ag<|cO<|Ej<|(p4.store (ao Z) (Je h86) (.iq _)).wp λ_ s5 p5=>aB ⟨rfl,_,_,(by rw[e1];show(yo _).symm),hL,p5⟩
end
section
set_option backward.match.sparseCases true
noncomputable def nS(id:String)(v:aa):bj:={cls:=ak "builtin_function_or_method",data:=bH #[bx id,v]}
theorem XI:lJ "method_descriptor" "__get__" "method_descriptor.__get__" :=
 nr (owner:= "method_descriptor") (n:= "__get__") (rfl) (rfl) (rfl) (rfl)
  (by first|show ao (rfl)|show .inr (rfl)) (rfl)
theorem s_:gJ table "method_descriptor.__get__" =O Builtin.«method_descriptor.__get__»:=ma (rfl)
theorem ac2(a b c:aa):jX "method_descriptor.__get__" ⟨[a,b,c],[]⟩:=by ext
theorem ac3(a:ab):ri (Builtin.«method_descriptor.__get__» ⟨[bx "list.append",R a,ak "list"],[]⟩) (λA aM s=>s.TypeIs (R a) "list" /\aM (cf (cL (R s.heap.objs.size))) {s with heap:=s.heap.push (nS "list.append" (R a))}):=
 rM λprog w A aM s hs=>by
  obtain⟨hp,g,d,tk,os⟩:=s;show eX hs λhT hs=>?_;rw[show Builtin.«method_descriptor.__get__» ⟨[bx "list.append",R a,ak "list"],[]⟩=Builtin.«method_descriptor.__get__#obj» ⟨[bx "list.append",R a],[]⟩ by ext];repeat (any_goals (first|assumption|wp_step))
  show fK sub_list_self ?_;show aB ?_;show ag (ig ?_ (by size_fits));show aB ⟨_,rfl,hs⟩
theorem Qd(a:ab):abH (R a) (ak "list") "append" =abG (R a) "append" (O (bx "list.append")) (O (bx "method_descriptor.__get__")):=by ext
theorem xr(a:ab)(K:Array aa)(k:Nat)(sl:Array (Option aa))(u:aW):
 ri (Builtin.«object.__getattribute__» ⟨[R a,cI "append" u],[]⟩) (λA aM s=>s.heap.get? a=O {cls:=ak "list",dict:=ai,data:=bU K k,slots:=sl}/\aM (cf (cL (R s.heap.objs.size))) {s with heap:=s.heap.push (nS "list.append" (R a))}):=
 rM λprog w A aM s hs=>by
  obtain⟨hp,g,d,tk,os⟩:=s;show eX hs λE hs=>?_;have hT:(⟨hp,g,d,tk,os⟩:ae).TypeIs (R a) "list" :=⟨_,E,rfl⟩;have l2:=type_list_append;unfold Builtin.«object.__getattribute__»;repeat (any_goals (first|rw[Qd]|assumption|wp_step))
  show xE XI.plain s_ (XI.check _ _ _ _ _ _ _ _ l2 (ac2 _ _ _) ?_);show ac3 a prog w A.in1 (λr Y=>match r with|cf (cL v)=>ax (aG prog w) A.in1 (ret v) (λze Y=>∃v,ze=nq (cL v)/\aM (cf (cL v)) Y) (λe Y=>aM (kX e) Y) Y|cf _=>False|kX e=>aM (kX e) Y) _ ?_;show⟨hT,?_⟩;show aB ⟨_,rfl,hs⟩
theorem HQ{K:Array aa}{sl:Array (Option aa)}{ex:Bool}(E:s.heap.get? a=O {cls:=ak "list",dict:=ai,data:=bU K k,slots:=sl})(h:∀tk,Q (R s.heap.objs.size) {s with heap:=s.heap.push (nS "list.append" (R a)),toks:=tk}):ax (aG prog w) A (getAttr (R a) "append" ex) Q a6 s:=by
 obtain⟨hp,g,d,tk,os⟩:=s;have hT:∀tk',(⟨hp,g,d,tk',os⟩:ae).TypeIs (R a) "list" :=λ_=>ct _ E Z;have f3:=Ft.lookup;have f4:=Ft.bind (R a);repeat (any_goals (first|assumption|show hT _|((with_reducible change ax _ _ (call (bx "list.__getattribute__") _ _) _ _ _);show qe Ft (hT _) Tu (VE _ _) (xr a K k sl _) ⟨E,?_⟩)|wp_step))
 rw[if_neg (by cases ex<;>decide)];repeat (any_goals (first|assumption|show hT _|((with_reducible change ax _ _ (call (bx "list.__getattribute__") _ _) _ _ _);show qe Ft (hT _) Tu (VE _ _) (xr a K k sl _) ⟨E,?_⟩)|wp_step))
 show aB (h _)
end
theorem HR:oy (.type "list") (.type "module")=pure af:=by ext
section
variable{Q:b8->ae->Prop}
theorem PL.er(p:PL H U L J aJ bq bB G S bw Gs s):ER H s.heap L J s.heap G:=p.ps.er
theorem Qe{l:ab}{q p1 p2:aY}(hT:gi U)(p:PL H U L J aJ bq bB G S bw Gs s)(hG:lU G)(hy:cq G y=O (k,.ptr (.ref l)))(hl:(l,br vs n)∈bw)(dH:bW G x=N)(E:Hx L x)(hs:fu (.Attribute (.Name (NM y) p1) "append" p2) (O (.Name (NM x) q)) pos.line J=pure af)(kk:∀Y m,(∀z∈bw,z.1≠m)->PL H U L J aJ bq bB (jl G x 0 (.ptr (.ref m))) S ((m,nS "list.append" (.ref l))::bw) Gs Y->C A (aU rest J) Y Q):
 C A (aU (.Assign [.Name (NM x) q] (.Attribute (.Name (NM y) p1) "append" p2) pos::rest) J) s Q:=by
 show ip<|Ah hs<|cR<|Ff<|T.Dq (uh p.er hy)<|HQ (p.getL hl) λtk=>?_;have p1:=p.aeO (h':=s.heap.push (nS "list.append" (.ref l))) (tk:=tk) (dA:=[(s.heap.objs.size,nS "list.append" (.ref l))]) hG hT (λb o e=>a8 _ e) λy hy=>by apply jS hy;show⟨bF _,bK _ Z⟩
 show T.wz (p1.store E dH (.iq _)) λ_ s5 p5=>(kk s5 _ (λz hz q=>?_) p5);have:=cn (p.getL hz);rw[q]at this;show gw _ this
theorem t_{m:ab}{l:ab}{Q:aa->ae->Prop}:∀{s:ae} (hm:s.heap.get? m=O (nS "list.append" (.ref l))) (hl:s.heap.get? l=O (br vs n)) (hv:vs.length<=1000) (h:Q .none {s with heap:=s.heap.update l (dP (·.push v))}),ax (aG prog w) A (call (.ref m) [v]) Q a6 s:=λ{s} hm hl hv h=>by
 have hT:s.TypeIs (.ref l) "list" :=⟨_,hl,rfl⟩;show kT (xM ?_);show ag (iW hm ?_);change ax _ A.in1 (do checkBoundCall "list.append" ⟨[.ref l,v],[]⟩;return<-again (.builtin "list.append" ⟨[.ref l,v],[]⟩)) _ _ s;unfold checkBoundCall;have f1:=HR;obtain⟨hp,g,d,tk,os⟩:=s;repeat (any_goals (first|assumption|wp_step))
 show⟨A4 _ bz,qd PySem.F.entry_list_append ?_⟩;change ax _ _ (updateSeq l (·.push v)>>=λ_=>ret .none) _ _ _;show ag (uS hl Z (aB h) (by have:fc=16777216:=jW;simp;lia) (by have:fc=16777216:=jW;simp;lia))
theorem u_{l:ab}(hl:h.get? l=O (br vs n)):∃n',(h.update l (dP (·.push v))).get? l=O (br (vs++[v]) n'):=by show⟨n+1,?_⟩;rw[gN _ hl Z];simp[br,dP]
theorem XJ{m l:Nat}{cpos:aY}(hT:gi U)(p:PL H U L J aJ bq bB G S bw Gs s)(hG:lU G)(E:cq G x=O (k,.ptr (.ref m)))(hm:(m,nS "list.append" (.ref l))∈bw)(hl:(l,br vs n)∈bw)(hv:vs.length<=1000)(dH:cG e=af)(hi:iG J=af)(hs:fu (.Call (.Name (NM x) np) [e] [] cpos) ai pos.line J=pure af)(he:∀W,PS H U L J s W (S.map (·.1)) G S s->C A (aZ e J) s (λv aD=>∃S',PS H U L J s W (S.map (·.1)) G S' aD/\
 ∀Y n',PL H U L J aJ bq bB G S' ((bw.filter λy=>y.1 != l)++[(l,br (vs++[v]) n')]) Gs Y->C A (aU rest J) Y Q)):
 C A (aU (.Expr (.Call (.Name (NM x) np) [e] [] cpos) pos::rest) J) s Q:=by
 show z9 hi hs (fU (T.wcV (v9 p.er E) λfv F aO=>?_));apply bR.Gg aO;show dg (by rw[l0 dH];rfl) ?_;rw[l0 dH];show bh p.open λW ps back=>ej<|cx<|(he W ps).mono λv s2 qQ=>bh qQ λS' p2 hk=>c8<|have q2:=back _ _ _ _ p2;have hm2:=q2.getL hm;have ο:=q2.getL hl;cR<|ag<|iW hm2<|aB ⟨rfl,cR (t_ hm2 ο hv ⟨rfl,?_⟩)⟩;show dG (u_ (v:=v) ο) λn' wx=>have Y7:∀b o,b≠l->s2.heap.get? b=O o->(s2.heap.update l (dP (·.push v))).get? b=O o:=λb o D e=>(mh _ _ (eO D)).trans e;hk _ n' (q2.move hG hT (X:=[l]) (λb o D e=>Y7 b o (vw D) e) Z Z q2.mod.gens (λb D=>by have D:=bJ.mp D;show D▸?_;show ct _ hl Z) (λy hy=>?_) q2.gk)
 .rcases b9.mp hy with q|q
  .show eX (gq.mp q) λh1 h2=>⟨.inl (bG.mpr (ct y h1 Z)),Y7 _ _ (by simpa using h2) (q2.getL h1)⟩
  .apply jS q;show⟨.inl (bG.mpr (ct _ hl Z)),wx⟩
end
section
open PySem.Builtin PySem.Builtin.ObjectAttr
set_option maxHeartbeats 1000000
theorem ac4(P:bS)(t:Nat->aW)(fd:bQ):∀a o,(zd P t fd).lookup a=O o->a∉bY:=by
 intro a o e;have:∀x∈([135,60,134,59,123,126,129,124,127,130,43]:List ab),x∉bY:=by decide
 show this a (Hm e)
theorem Cg(X:(zd P t fd).In h)(x:hx H h h'):(zd P t fd).In h':=λa o e=>x.keep a o (ac4 P t fd a o e) (X a o e)
theorem afU:(clsIn (zd P t fd) 135).isSome=N:=by ext
theorem v_:mroIn (zd P t fd) 135 (ak "tuple")=O N:=by ext
theorem aih:iK (zd P t fd) (R 135) "__getattribute__" =O (O (bx "tuple.__getattribute__")):=by ext
theorem aii:iK (zd P t fd) (R 135) "__getattr__" =O ai:=by ext
theorem aij:iK (zd P t fd) (R 135) "num_blocks" =O (O (R 124)):=by ext
theorem aik:iK (zd P t fd) (R 135) "num_total" =O (O (R 127)):=by ext
theorem ail:iK (zd P t fd) (R 135) "num_data" =O (O (R 130)):=by ext
theorem aim:yw (zd P t fd) (R 124) "__get__" =O (O (R 43)):=by ext
theorem ain:yw (zd P t fd) (R 127) "__get__" =O (O (R 43)):=by ext
theorem aio:yw (zd P t fd) (R 130) "__get__" =O (O (R 43)):=by ext
theorem aip:Bb (zd P t fd) (R 124)=O N:=by ext
theorem aiq:Bb (zd P t fd) (R 127)=O N:=by ext
theorem air:Bb (zd P t fd) (R 130)=O N:=by ext
theorem ais(n:aP):plainGet (zd P t fd) 60 n=N:=by ext
section
variable{bp:mq}{x:ab}{ox:bj}{od:Option bj}{Ϥ:Bool}
theorem Zf:gJ table "tuple.__getattribute__" =O Builtin.«object.__getattribute__»:=am_entry_tuple_getattribute
theorem w_:builtinKind "tuple.__getattribute__" =O abO:=by rfl
theorem Zg:splitId "tuple.__getattribute__" =O ("tuple", "__getattribute__"):=by rfl
theorem Zh{x:ab}{nm:aa}{Q:Unit->ae->Prop}(L4:gO M s.heap (rb (R x) (ak "tuple")) N)(q:Q () s):
 ax M A (sC "tuple.__getattribute__" ⟨[R x,nm],[]⟩) Q a6 s:=
 @LR M A a6 s "tuple.__getattribute__" "tuple" "__getattribute__" (R x) [nm] [] Q w_ Zg L4 (PySem.F.args_tuple_getattribute_2 _ _) q
theorem x_{g a:aa}(X:bp.In s.heap)(I:InstAt s.heap x ox aS od)(hga:iK bp (R aS) "__getattribute__" =O (O (bx "tuple.__getattribute__")))(hgn:iK bp (R aS) "__getattr__" =O ai)(hm:mroIn bp aS (ak "tuple")=O N)(hf:findObj bp aS od name=O (abF g a))(h:T A.in1 (call g [a,R x,R aS]) {s with toks:=s.toks+1} (λv Y=>(∀id,v≠bx id)/\Q v Y)):
 T A (getAttr (R x) name Ϥ) s Q:=by
 obtain⟨hh,gg,d,t,os⟩:=s;have L0:=I.type (M:=aG prog w);show ag<|wpAny_mkText<|cO<|ag<|L0.at<|ag<|(A9 (M:=aG prog w) X hga).at<|(?_:ax _ _ (if(onTheHeap (R aS) && ((bx "tuple.__getattribute__")==bx "object.__getattribute__"))=N then _ else _) _ _ _);show ag (m:=hookBefore (R aS))<|(A9 (M:=aG prog w) X hgn).at<|ag (sF (cO ?_))
 delta callGetattribute
 rw[if_neg (by cases Ϥ<;>decide)];show ag<|fK (VF.bind _)<|kT<|xE VF.plain Zf<|Zh (L0.andThen (LQ X hm))<|ag<|aB<|ag<|aB<|ag<|L0.at<|ag<|(looks_find (M:=aG prog w) X I hf).at<|ag (cO (gU h (λv Y z=>aB ?_) λ_ _ z=>z.elim));show(?_:ax _ _ (EC v) _ _ _);have:EC v=pure v:=by cases v<;>first|rfl|show absurd Z (z.1 _)
 show this.symm▸aB z.2
end
end
inductive Ci(h:aN)(i:ab)(ns:LN):Prop
 |mk (dx:ab) (t0 t1 t2:aW) (a b c:Nat) (e:ns=[a,b,c]) (hi:h.get? i=O {cls:=R 135,dict:=O dx,data:=bU #[ah (aj a) t0,ah (aj b) t1,ah (aj c) t2] 0}) (hd:h.get? dx=O iz) (hT:dx∉bY) (off:i∉bY)
section
variable{bp:mq}{x:ab}{ox:bj}{od:Option bj}{Ϥ:Bool}
theorem y_:opaqueClassAbove (ak "tuple")=pure ai:=vj Z
theorem ac5:Fm [] (ak "tuple") (ak "type") "__getitem__" =O (Mz (bx "tuple.__getitem__")):=by ext
theorem ac6(h:aN):Frag.In [] h:=λa o e=>Bq e
theorem z_{nm:aP}{id:String}{pl:aE Bool}{Q:aa×List aa->ae->Prop}(hf:Fm [] (ak "tuple") (ak "type") nm=O (Mz (bx id)))(ho:EC (bx id)=pure (bx id))(h:Q (bx id,[]) {s with toks:=s.toks+1}):ax (aG prog w) A (Ez (ak "tuple") nm pl) Q a6 s:=by
 have X:=ac6 s.heap;have L0:gO (aG prog w) s.heap (xZ (ak "tuple")) (ak "type"):=LY (by first|rfl|ext);have hg:iK [] (ak "type") "__getattribute__" =O (O (bx "type.__getattribute__")):=type_tga;show ag (ag (L0.here ((A9 X hg).here ?_)));dsimp only;show ag (gU (Q:=λv=>Q (v,[])) (E:=a6) ?_ (λ_ _ z=>aB z) λ_ _ z=>z);show cls_open X (LY y_) L0 hg (looks_hook X (r:=ai) (rfl)) (by rfl) hf
  (aB (by change ax _ _ (EC (bx id)) _ _ _;rw[ho];show aB h))
theorem Zi{x:ab}{nm:aa}{Q:Unit->ae->Prop}(L4:gO M s.heap (rb (R x) (ak "tuple")) N)(q:Q () s):
 ax M A (sC "tuple.__getitem__" ⟨[R x,nm],[]⟩) Q a6 s:=
 @LR M A a6 s "tuple.__getitem__" "tuple" "__getitem__" (R x) [nm] [] Q (rfl) (rfl) L4 (PySem.F.args_tuple_getitem_2 _ _) q
theorem Zj(a:ab)(c:aa)(dd:Option ab)(sl:Array (Option aa))(K:Array aa)(n:Nat)(k:Nat)(t:aW)(v:aa)(hk:K[k]? =O v)(hk2:k<=1000)(hsi:rd (aj k) K.size=O k):
 ri (Builtin.«tuple.__getitem__» ⟨[R a,ah (aj k) t],[]⟩) (λA aM s=>s.heap.get? a=O {cls:=c,dict:=dd,data:=bU K n,slots:=sl}/\aM (cf (cL v)) s):=
 rM λprog w A aM s hs=>by
  obtain⟨hp,g,d,tk,os⟩:=s;show eX hs λE hs=>?_;have hii:=PySem.int_index;repeat (any_goals (first|assumption|wp_step))
  rw[(decide_eq_false au),(decide_eq_false au),if_neg aK];change ax _ _ (match (rd (aj k) K.size).bind λx=>K[x]? with
   |some x=>ret x
   |none=>do
    sN "tuple.getitem.out-of-range"
    raiseErrorWords "IndexError" "tuple index out of range") _ _ _
  rw[(by rw[hsi];show hk:(rd (aj k) K.size).bind (K[·]?)=O v)];show aB (ct v Z hs)
end
theorem oY.isNone{p2:aY}(he:V H U A L J G e (aX (R a)) af):oY H U A L J G (jZ e [CmpOp.Is] [gn yx k p2] pos) af:=λs r=>by show uP ((he r).κ λaD e1=>TQ ?_) Z;show is_none (l8 ⟨e1,rfl⟩)
theorem oY.call{f:aw}{args:List aw}{b:Bool}(he:V H U A L J G (bI f args [] pos) (fG b) af):oY H U A L J G (bI f args [] pos) b:=λs r=>isTrue_plain<|(he r).tM λv Y F e aO _=>aO.toBool.symm▸l8 ⟨e,rfl⟩
def tZ(mg mb:aP->Option aa):Prop:=∀p∈[("type",ak "type"),("issubclass",bx "issubclass")],mg (aC p.1)=ai/\mb (aC p.1)=O p.2
theorem Zk{nm:String}(B:cA U mg mb)(kM:L.names.lookup (aC nm)=O kV)(h1:mg (aC nm)=eU)(h2:mb (aC nm)=O v)(hd:(aC nm==("__debug__" :aP))=af):
 V H U A L J G (ar (aC nm) np) (aX v) fr:=λs r=>
 (ez B r kM h1 h2 hd).CA λf aJ e0 hf=>e0▸hf▸oX [] (.refl _) (.iq _) d9
theorem XM{prog:u4}{w:fz}(X:(zd P t fd).In h):gO (aG prog w) h (oy (R 135) (ak "tuple")) N:=LQ X v_
theorem Qf(P:bS)(t:Nat->aW)(fd:bQ):ri (uV.«issubclass» ⟨[R 135,ak "tuple"],[]⟩) (λ_ aM s=>(zd P t fd).In s.heap/\aM (cf (cL (dB N))) s):=λprog w A aM s hs=>issubclass_outer (by show eX hs λX hs=>?_;obtain⟨hp,g,d,tk,os⟩:=s;have bw:=XM (prog:=prog) (w:=w) X;have E:=X 135 _ Z;repeat (any_goals (first|assumption|(show bw.at ?_)|(show ag (bw.at ?_))|wp_step)))
theorem A_{nm:String}{cv:aa}(B:cA U mg mb)(kM:L.names.lookup (aC nm)=O kV)(h1:mg (aC nm)=ai)(h2:mb (aC nm)=O cv)(hd:(aC nm==("__debug__" :aP))=af)(r:ER H U L J s.heap G)(hq:∀aJ,aJ=s->ax (aG prog w) A (xT pos cv [] (jH pos (iX (e::es) J)) []) Q NoE aJ):T A (aZ (bI (ar (aC nm) np) (e::es) [] pos) J) s Q:=l9<|(ez B r kM h1 h2 hd).Dq<|hq _ Z
theorem Zl{i:ab}(B:cA U mg mb)(I2:tZ mg mb)(kM:Gi L "type")(hE:Ci U i ns)(he:V H U A L J G e (aX (R i)) af)(dH:cG e=af):
 V H U A L J G (bI (ar (aC "type") np) [e] [] pos) (aX (R 135)) fr:=λs r=>by
 have hI:=I2 ("type",ak "type") aK;show A_ B kM hI.1 hI.2 (rfl) r λaJ e0=>?_;subst e0;show A7 ((fJ.cons he fJ.nil dH aJ pos r).Q5 λvs aD F1 e1 V1=>?_) (dp dH _ _) Z;apply vB V1;show og λgG kG=>?_;obtain⟨dx,t0,t1,t2,x,y,z,_,hi,_,_,off⟩:=hE;obtain⟨hp,g,d,tk,os⟩:=aD;show kG ?_;clear kG gG;show call_type_obj ((r.base.trans e1.ext).keep _ _ off hi) Z (oX [] e1 (.iq _) d9)
theorem B_{e1 e2:aw}(B:cA U mg mb)(I2:tZ mg mb)(X:(zd P t fd).In U)(kM:Gi L "issubclass")(he1:V H U A L J G e1 (aX (R 135)) af)(Jd:cG e1=af)(he2:V H U A L J G e2 (aX (ak "tuple")) af)(CL:cG e2=af):
 V H U A L J G (bI (ar (aC "issubclass") np) [e1,e2] [] pos) (fG N) fr:=λs r=>by
 have hI:=I2 ("issubclass",bx "issubclass") aK;show A_ B kM hI.1 hI.2 (rfl) r λaJ e0=>?_;subst e0;show yu ((fJ.cons he1 (fJ.cons he2 fJ.nil CL) Jd aJ pos r).Q5 λvs aD F1 x1 V1=>?_) (dp Jd _ _) (by rw[l0 CL];rfl);apply nG V1;intro v v3 G1 G3 V2 V4;apply bR.Gg V2;apply bR.Gg V4;show call_issubclass (Qf P t fd) ⟨Cg X (r.base.trans x1.ext),x1,[],.ofBool _,d9⟩
theorem uq{o:aw}{apos:aY}{args:List aw}(xn:uT o name J (aZ o J)=aZ o J)(a_:Ki (args.length+([]:List AB).length) (jH pos (iX args J)) (backToKw pos (Ku [] J))=N)(lz:(apos.endLine==pos.line)=N)(h:ax M A (aZ o J) (λov aD=>∀pl,ax M A (Ez ov name pl) (λfx aQ=>ax M A (xT pos fx.1 fx.2 (jH pos (iX args J)) []) Q a6 aQ) a6 aD) a6 s):
 ax M A (aZ (bI (iI o name apos) args [] pos) J) Q a6 s:=by
 rw[arm_eval_Call,xn];show ag (gU h (λov aD U=>ag (jV ?_)) λ_ _ x=>x)
 delta methodCall
 show a_.symm▸ag (cO (gU (U _) (λfx aQ ko=>?_) λ_ _ x=>x));show ag (fK (by delta methodCallPos;simp[lz]) ko)
theorem Sl{ga dx:Nat}{tk:aW}{od:bj}(X:(zd P t fd).In U)(h1:(zd P t fd).lookup ga=O (Ov dx))(h2:(zd P t fd).lookup dx=O od)(h3:findObj (zd P t fd) 60 (O od) "index" =O (VY (ah (aj j) tk)))(E:cq G x=O (k,aX (R ga))):V H U A L J G (iI (ar (NM x) np) (aC "index") pos) (aT j) fr:=λs r=>by show Ff<|T.Dq (uh r E)<|have Xs:=Cg X r.base;get_value Xs ⟨Xs _ _ h1,rfl,rfl,Xs _ _ h2⟩ (Ba (ais "index")).1 h3 Z (oX [] (.toks _ _) (.ofInt _ _) d9)
theorem ac7{z v:Nat}(t0 t1 t2:aW):∀{j:Nat},[x,y,z][j]? =O v->∃tv,(#[ah (aj x) t0,ah (aj y) t1,ah (aj z) t2]:Array aa)[j]? =O (ah (aj v) tv)/\j<3/\rd (aj j) 3=O j
 | 0,h=>kF t0 (congrArg (λv:Nat=>O (ah (aj v) t0)) (aV h)) bA Z
 | 1,h=>kF t1 (congrArg (λv:Nat=>O (ah (aj v) t1)) (aV h)) bA Z
 | 2,h=>kF t2 (congrArg (λv:Nat=>O (ah (aj v) t2)) (aV h)) bA Z
 |_+3,h=>Bq h
theorem Zm{e1 e2:aw}{i:ab}{v:Nat}{ap:aY}(B:cA U mg mb)(I:dQ mg mb)(X:(zd P t fd).In U)(hE:Ci U i ns)(hj:ns[j]? =O v)(kM:Gi L "tuple")(he1:V H U A L J G e1 (aX (R i)) af)(Jd:cG e1=af)(he2:V H U A L J G e2 (aT j) af)(CL:cG e2=af)(lz:(ap.endLine==pos.line)=N):
 V H U A L J G (bI (iI (ar (aC "tuple") np) (aC "__getitem__") ap) [e1,e2] [] pos) (aT v) fr:=λs r=>by
 have hI:=I ("tuple",ak "tuple") aK;show uq Z (by rw[HM Jd CL];rfl) lz<|(ez B r kM hI.1 hI.2 (rfl)).Dq<|λpl=>z_ ac5 Z<|have r':ER H U L J ({s with toks:=s.toks+1}:ae).heap G:=r;Ve (by rw[HM Jd CL];rfl) ?_;have:=fJ.cons he1 (fJ.cons he2 fJ.nil CL) Jd {s with toks:=s.toks+1} pos r';rw[dp Jd]at this ⊢;show LW (this.Q5 λvs aD F1 x1 V1=>?_);apply nG V1;intro v0 v3 G1 G3 V2 V4;apply bR.Gg V2;apply bR.zN V4;intro tk;show og λgG kG=>?_;obtain⟨dx,t0,t1,t2,x,y,z,dX,hi,_,_,off⟩:=hE;show kG ?_;clear kG gG;subst dX;have xx:=r.base.trans (show hx H s.heap aD.heap from x1.ext);have hi1:=xx.keep _ _ off hi;show gC (ac7 t0 t1 t2 hj) λtv hv hj3 hsi=>kT<|xE VG.plain PySem.F.entry_tuple_getitem<|Zi (((Fo hi1).andThen vm).andThen (XM (Cg X xx)))<|Zj i (R 135) (O dx) #[] _ 0 j tk _ hv (ba (gx hj3) bA) hsi prog w A (wants _ _) aD<|⟨hi1,(show dz H s {s with toks:=s.toks+1} from .toks _ _).trans x1,[],.ofInt _ _,d9⟩
def Eb(U:aN)(P:bS)(t:Nat->aW)(fd:bQ):Prop:=
 (zd P t fd).In U/\
 qS U 43 fd tgM/\
 fd.defaults=R 36/\
 ∃n,U.get? 36=O (cU [aA] n)
structure Gt(P:bS)(t:Nat->aW)(fd:bQ)(ga:ab)(j:Nat):Prop where
 ex:∃dx od tk,(zd P t fd).lookup ga=O (Ov dx)/\(zd P t fd).lookup dx=O od/\findObj (zd P t fd) 60 (O od) "index" =O (VY (ah (aj j) tk))
theorem gt0:Gt P t fd 124 0:=⟨123,_,t 34,rfl,rfl,rfl⟩
theorem gt1:Gt P t fd 127 1:=⟨126,_,t 38,rfl,rfl,rfl⟩
theorem gt2:Gt P t fd 130 2:=⟨129,_,t 42,rfl,rfl,rfl⟩
theorem ac8(dA:Eb U P t fd)(x:hx H U s.heap)(a b c:aa):T A (du fd ⟨[a,b,c],[]⟩) s (λbs Y=>Y=s/\bs=([110,113,114].map NM).zip [a,b,c]):=by
 show dG dA.2.2.2 λn hd=>?_
 delta du
 show dA.2.1.params.symm▸dA.2.2.1.symm▸dA.2.1.kwd.symm▸ag (aB (ag (jF (x.keep _ _ (DT Z) hd) Z ?_)));show aB ⟨rfl,rfl⟩
theorem akO{ga i:ab}{v:Nat}(B:cA U mg mb)(I:dQ mg mb)(I2:tZ mg mb)(dA:Eb U P t fd)(hg:Gt P t fd ga j)(hE:Ci s.heap i ns)(hj:ns[j]? =O v)(x1:hx H U s.heap)(bM:A.depth<1000):
 T A (call (R 43) [R ga,R i,R 135]) s (λu Y=>dz H s Y/\∃tk,u=ah (aj v) tk):=by
 show og λgG kG=>?_;obtain⟨dx,od,tk,g1,g2,g3⟩:=hg;show kG ?_;clear kG gG;have Xs:=Cg dA.1 x1;have Bs:=B.ext x1;show(Xl (G':=qF [110,113,114] [aX (R ga),aX (R i),aX (R 135)]) (avs:=[aX (R ga),aX (R i),aX (R 135)]) (F:=[]) B x1 bM dA.2.1 Z Z Z (ac8 dA x1 _ _ _) ?_ aK Z aK λfV=>?_).wp3 λu Y F e aO=>⟨e,aO.toInt⟩
 .show eg [] [] (.iq _) (eg [] [] (.iq _) (eg [] [] (.iq _) .nil))
 show SS.m<|SS.cons (S1.ite (oY.isNone (aq 113 Z)) (λq=>IE q) λ_=>SS.nil)<|SS.cons (S1.ite (x:=af) (FQ N (oY.call (B_ Bs I2 Xs Z (Zl Bs I2 Z hE (aq 113 Z) Z) Z (Zk Bs Z (I ("tuple",ak "tuple") aK).1 (I ("tuple",ak "tuple") aK).2 (rfl)) Z))) (λq=>IE q) λ_=>SS.nil) (tP (S1.ret (Zm Bs I Xs hE hj Z (aq 113 Z) Z (Sl (x:=110) Xs g1 g2 g3 Z) Z Z)))
def uK(ns:LN):AV:=gr (ns.map aT)
theorem Ci.ext{i:ab}(e:Ci h i ns)(x:hx H h h'):Ci h' i ns:=by obtain⟨dx,t0,t1,t2,a,b,c,h1,h2,h3,h4,off⟩:=e;show⟨dx,t0,t1,t2,a,b,c,h1,x.keep _ _ off h2,x.keep _ _ h4 h3,h4,off⟩
theorem Eb.ext(dA:Eb U P t fd)(x:hx H U h):Eb h P t fd:=⟨Cg dA.1 x,dA.2.1.ext x,dA.2.2.1,dG dA.2.2.2 λn e=>⟨n,x.keep _ _ (DT Z) e⟩⟩
theorem C3{nm:aP}{ga i:ab}{v:Nat}(bM:A.depth<900)(B:cA U mg mb)(I:dQ mg mb)(I2:tZ mg mb)(dA:Eb U P t fd)(hg:Gt P t fd ga j)(hf:iK (zd P t fd) (R 135) nm=O (O (R ga)))(OT:yw (zd P t fd) (R ga) "__get__" =O (O (R 43)))(htk:Bb (zd P t fd) (R ga)=O N)(hE:Ci U i ns)(hj:ns[j]? =O v)(he:cq G x=O (k,aX (R i))):
 V H U A L J G (iI (ar (NM x) np) nm pos) (aT v) fr:=λs r=>by
 show Ff (T.Dq (uh r he) ?_);have x1:=r.base;have N1:=dA.ext x1;have E1:=hE.ext x1;have E2:=E1;obtain⟨dx,t0,t1,t2,a,b,c,h1,h2,h3,h4,off⟩:=E2;show x_ N1.1 ⟨h2,rfl,rfl,h3⟩ aih aii v_ (findObj_data afU hf OT htk)<|(akO (s:={s with toks:=s.toks+1}) (H:=H) (B.ext x1) I I2 N1 hg E1 hj (.refl _) au).mono λu s2 oj=>MA oj λe2 tk hu=>hu▸⟨(λid q=>nomatch q),(show dz H s {s with toks:=s.toks+1} from .toks _ _).trans e2,[],.ofInt _ _,d9⟩
theorem Qg{i:ab}{a b:Nat}(bM:A.depth<900)(B:cA U mg mb)(I:dQ mg mb)(I2:tZ mg mb)(dA:Eb U P t fd)(hE:Ci U i [a,b,c])(he:cq G x=O (k,aX (R i))):
 V H U A L J G (iI (ar (NM x) np) (aC "num_blocks") pos) (aT a) fr:=C3 bM B I I2 dA gt0 aij aim aip hE Z he
theorem Sm{i:ab}{a b:Nat}(bM:A.depth<900)(B:cA U mg mb)(I:dQ mg mb)(I2:tZ mg mb)(dA:Eb U P t fd)(hE:Ci U i [a,b,c])(he:cq G x=O (k,aX (R i))):
 V H U A L J G (iI (ar (NM x) np) (aC "num_total") pos) (aT b) fr:=C3 bM B I I2 dA gt1 aik ain aiq hE Z he
theorem JL{i:ab}{a b:Nat}(bM:A.depth<900)(B:cA U mg mb)(I:dQ mg mb)(I2:tZ mg mb)(dA:Eb U P t fd)(hE:Ci U i [a,b,c])(he:cq G x=O (k,aX (R i))):
 V H U A L J G (iI (ar (NM x) np) (aC "num_data") pos) (aT c) fr:=C3 bM B I I2 dA gt2 ail aio air hE Z he
theorem NA(aO:bR U av v F)(he:V H U A L J G e (aX v) af):V H U A L J G e av af:=λs r=>
 (he r).κ λaD e1=>oX F e1 (aO.ext (r.base.trans e1.ext)) (λq=>IE q)
theorem XN{a i:aw}(ha:V H U A L J G a (uK ns) af)(hi:V H U A L J G i (aT k) af)(hk:k<ns.length)(hl:ns.length<=1000)(r8:j8 i=af):V H U A L J G (dk a i pos) (aT (ns.getD k 0)) fr:=by show wJ ha hi ?_ r8 (λ_=>rfl);change cond (dY k 1000000) ((ns.map aT)[k]?) eU=_;rw[(eT au),cond_true,cY,dE hk];simp[hk]
def mbF:List bT:=tY (bc (bo jo) 7)
def Sn:List bT:=tY (bc mbF 3)
noncomputable def Cj(ex gen:LN)(k lc:Nat)(eb:LN):Nat->LN
 | 0=>eb
 |n+1=>(Cj ex gen k lc eb n).set (k+n+1) ((Cj ex gen k lc eb n).getD (k+n+1) 0 ^^^ ex.getD (lc+gen.getD n 0) 0)
def gT(lg ex gen eb:LN):Nat->LN
 | 0=>eb
 |k+1=>if(gT lg ex gen eb k).getD k 0=0 then gT lg ex gen eb k else Cj ex gen k (lg.getD ((gT lg ex gen eb k).getD k 0) 0) (gT lg ex gen eb k) gen.length
theorem HS{ex:LN}{lc:Nat}{eb:LN}:∀n,(Cj ex gen k lc eb n).length=eb.length:=by
 intro xX;induction xX with
 |zero=>show rfl
 |succ n iH=>show EU.trans iH
theorem xt{lg ex eb:LN}:∀k,(gT lg ex gen eb k).length=eb.length:=by
 intro xX;induction xX with
 |zero=>show rfl
 |succ k iH=>show iteInduction (motive:=λl:LN=>l.length=eb.length) (λ_=>iH) λ_=>(HS _).trans iH
theorem lX.akP(h:lX ns)(k:Nat)(E:x<256):lX (ns.set k x):=⟨λy hy=>by
 rcases u6 hy with q|q
 .show h.1 y q
 .rw [q];show E,EU.symm▸h.2⟩
theorem jg{b:Nat}(h:∀x∈ns,x<b)(D:0<b)(k:Nat):ns.getD k 0<b:=by
 rw[da];cases q:ns[k]? with
 |none=>show D
 |some x=>show h x (cW q)
theorem XO{ex:LN}{lc:Nat}{eb:LN}(E:∀x∈ex,x<256)(h:lX eb):∀n,lX (Cj ex gen k lc eb n):=by
 intro xX;induction xX with
 |zero=>show h
 |succ n iH=>show(iH).akP _ (E3 (n:=8) (jg (iH).1 aK _) (jg E aK _))
theorem XP{lg ex eb:LN}(E:∀x∈ex,x<256)(h:lX eb):∀k,lX (gT lg ex gen eb k):=by
 intro xX;induction xX with
 |zero=>show h
 |succ k iH=>show iteInduction (motive:=lX) (λ_=>iH) λ_=>XO E iH _
def gMB(m1 m2 l1 l2 gp rr eb:ab)(nd ne:Nat):ie:=[(103,0,aX (R eb)),(102,0,aT nd),(101,0,aX (R rr)),(100,0,aX (R gp)),(99,0,aT ne),(97,0,aX (R 1890)),(96,0,aX (R 1888)),(95,0,aX (R m2)),(94,0,aX (R m1)),(86,0,aX (R l2)),(85,0,aX (R l1))]
def C_(U:aN)(lg ex gen:LN)(gp:ab):Prop:=
 bR U (uK lg) (R 1888) []/\
 (∃F,bR U (a7 ex) (R 1890) F)/\
 bR U (uK gen) (R gp) []/\
 lg.length=256/\
 ex.length=510/\
 (∀x∈lg,x<255)/\
 (∀x∈ex,x<256)/\
 (∀x∈gen,x<255)/\
 gen.length<=100
section
variable{Q:b8->ae->Prop}
theorem afV{lg ex:LN}{m1 m2 l1 l2 gp rr eb:ab}{nd:Nat}{tr ur vr:aW}(hh:dh A)(B:cA U mg mb)(I:dQ mg mb)(T1:C_ U lg ex gen gp)(p:PS H U (bg jo) J aJ bq bB G ((eb,kz ns)::S) s)(hG:km (gMB m1 m2 l1 l2 gp rr eb nd gen.length) G)(hn:lX ns)(dM:ns.length=nd+gen.length)(hr:(rr,mI gen.length tr ur vr)∈S)(hS:∀y∈S,y.1≠eb)(kk:∀Y,PS H U (bg jo) J aJ bq bB (gMB m1 m2 l1 l2 gp rr eb nd gen.length) ((eb,kz (gT lg ex gen ns nd))::S) Y->C A (aU rest J) Y Q):
 C A (aU (bc Sn 5::rest) J) s Q:=by
 show dU T1 λT11 T12 T13 T14 T15 T16 T17 ait=>eX ait λT18 T19=>?_;have ο:=hn.2;have hg1:=T19;show yT 92 (Dt 0 1 nd) (λ_ (_:Unit)=>gMB m1 m2 l1 l2 gp rr eb nd gen.length) (λk _=>(eb,kz (gT lg ex gen ns k))::S) () p (zS (k:=nd) hh (p.base B) I Z (aq 102 (hG.all _ _ _ Z)) Z au fF)
  hG (λy hy=>hy) (ao Z) (λ_ _ _=>rfl) (λk n z s1 W hk q=>?_) (λ_=>rfl) (λs9 _ p9=>?_)
 .obtain ⟨hi,hk⟩:=o4.mp hk;have hk':(n:Int)=aj k:=by rw[hk];simp
  subst hk';have ho:=XP (lg:=lg) (gen:=gen) T17 hn k;have hle:=xt (lg:=lg) (ex:=ex) (gen:=gen) (eb:=ns) k;show PS.asg (x:=104) (av:=aT ((gT lg ex gen ns k).getD k 0)) q (B7 (a:=eb) (q.get (cQ ..)) (q.sg _ (cQ ..)).2.1 ho (aq 103 Z) (aq 92 Z) (kx au) Z) Z Z (ao Z) Z λs2 q2=>q2.ite (x:=decide ((gT lg ex gen ns k).getD k 0≠0)) (yN (aq 104 Z) (aR 0)) λs3 q3=>?_;by_cases hc:(gT lg ex gen ns k).getD k 0=0
  .have e1:gT lg ex gen ns (k+1)=gT lg ex gen ns k:=if_pos hc;rw[decide_eq_false (by rw[hc];show not_not_intro Z)];show eZ (eZ ⟨rfl,(),?_⟩);show e1.symm▸q3.less (km.rf bz bz)
  .have e1:gT lg ex gen ns (k+1)=Cj ex gen k (lg.getD ((gT lg ex gen ns k).getD k 0) 0) (gT lg ex gen ns k) gen.length:=if_neg hc;rw[decide_eq_true hc];have hlc:=jg T16 aK ((gT lg ex gen ns k).getD k 0);show q3.s1 (S1.m (bE 105 (aT (lg.getD ((gT lg ex gen ns k).getD k 0) 0)) (XN (NA (T11) (aq 96 Z)) (aq 104 Z) (by rw[T14];show(jg ho.1 aK k)) (by rw[T14];decide) Z) Z Z (ao Z) Z)) λs4 q4=>yT 106 (Dt 0 1 gen.length) (λ_ (_:Unit)=>jl (jl (jl (gMB m1 m2 l1 l2 gp rr eb nd gen.length) 92 0 (a9 (aj k))) 104 0 (aT ((gT lg ex gen ns k).getD k 0))) 105 0 (aT (lg.getD ((gT lg ex gen ns k).getD k 0) 0)))
    (λn _=>(eb,kz (Cj ex gen k (lg.getD ((gT lg ex gen ns k).getD k 0) 0) (gT lg ex gen ns k) n))::S) () q4 (Ab 101 0 hh (q4.base B).top (q4.get (bZ _ hr)) (q4.sg _ (bZ _ hr)).2.1 Z au)
    ⟨λ_ _ _ e=>e,λ_ _ e=>e⟩ (λy hy=>hy) (ao Z) (λ_ _ _=>rfl) (λn m z5 s5 W5 hn5 q5=>?_) (λ_=>rfl) (λs7 _ q7=>eZ (eZ ⟨rfl,(),?_⟩))
   .obtain ⟨hi5,hn5⟩:=o4.mp hn5;have akQ:(m:Int)=aj n:=by rw[hn5];simp
    subst akQ;have hl5:=HS (ex:=ex) (gen:=gen) (k:=k) (lc:=lg.getD ((gT lg ex gen ns k).getD k 0) 0) (eb:=gT lg ex gen ns k) n;have hgn:=(jg T18 aK) n;show dG T12 λFx Vx=>ϙ (a:=eb) (k:=k+n+1) (x:=ex.getD (lg.getD ((gT lg ex gen ns k).getD k 0) 0+gen.getD n 0) 0) (y:=(Cj ex gen k (lg.getD ((gT lg ex gen ns k).getD k 0) 0) (gT lg ex gen ns k) n).getD (k+n+1) 0) q5
     (fj (NA (Vx.ext q5.ext) (aq 97 Z)) (fk (aq 105 Z) (XN (NA ((T13).ext q5.ext) (aq 100 Z)) (aq 106 Z) hi5 au Z)) (by rw[T15];lia) (by rw[T15];decide) Z)
     (aq 103 Z) (fk (fk (aq 92 Z) (aq 106 Z)) (aR 1)) (cQ ..) (XO (gen:=gen) (k:=k) (lc:=lg.getD ((gT lg ex gen ns k).getD k 0) 0) T17 ho n) (kx au) (jg T17 aK _) (S':=(eb,kz (Cj ex gen k (lg.getD ((gT lg ex gen ns k).getD k 0) 0) (gT lg ex gen ns k) (n+1)))::S) (λy hy=>?_) λs6 q6=>eZ ⟨rfl,(),q6.less (km.rf bz bz)⟩
    rcases bu.mp hy with e|e
    .left;rw[e];show⟨rfl,rfl⟩
    .show aH ⟨hS y e,bZ _ e⟩
   .show e1.symm▸?_;have hlr:(Dt 0 1 gen.length).length=gen.length:=MQ;rw[hlr]at q7;show q7.less (km.rf bz bz)
 .rw [(by simp[Dt]:(Dt 0 1 nd).length=nd)]at p9;show kk s9 p9
end
theorem Zn{d:Nat}{jw:aa}(h1:gens[d]? =O ⟨cu,iter,ifs,0⟩)(h2:gens[d+1]? =ai):
 uY (cP elt gens scope pos) d it jw J=(jG iter.pos>>=λ_=>gX it>>=λr=>match r with
  |none=>pure (nq cJ)
  |some v=>jE cu it v>>=λ_=>jI cu J v>>=λ_=>o6 ifs J>>=λok=>
   if ok=N then(aZ elt J>>=λx=>call (bx "list.append") [jw,x]>>=λ_=>pure ())>>=λ_=>again (gZ (cP elt gens scope pos) d it jw J)
   else again (gZ (cP elt gens scope pos) d it jw J)):=by
 delta uY
 dsimp only;show h1.symm▸h2.symm▸?_;rfl
theorem D_{target' iter':aw}{ifs':List aw}{d:Nat}{jw:aa}(h1:gens[d]? =O ⟨cu,iter,ifs,0⟩)(h2:gens[d+1]? =O ⟨target',iter',ifs',0⟩):
 uY (cP elt gens scope pos) d it jw J=(jG iter.pos>>=λ_=>gX it>>=λr=>match r with
  |none=>pure (nq cJ)
  |some v=>jE cu it v>>=λ_=>jI cu J v>>=λ_=>o6 ifs J>>=λok=>
   if ok=N then aZ iter' J>>=λx=>jG iter'.pos>>=λ_=>Eg iter' J x>>=λx=>holding [x] (gm x)>>=λit'=>runOwn (oO (cP elt gens scope pos) (d+1) it' jw J) J>>=λ_=>again (gZ (cP elt gens scope pos) d it jw J)
   else again (gZ (cP elt gens scope pos) d it jw J)):=by
 delta uY
 dsimp only;show h1.symm▸h2.symm▸?_;rfl
theorem uL{Q:Bool->ae->Prop}(h:Q N s):C A (o6 [] J) s Q:=C.pure h
theorem Zo{c:aw}{Q:Bool->ae->Prop}(h:C A (isTrue c J (aZ c J)) s Q):C A (o6 [c] J) s Q:=C.bind (C.bind (h.mono λb Y D=>C.pure (C.pure D)))
theorem DN{X:aE Fin}{d:Nat}{jw:aa}(hX:uY (cP elt gens scope pos) d it jw J=(jG iter.pos>>=λ_=>gX it>>=λr=>match r with
 |none=>pure (nq cJ)
 |some v=>jE cu it v>>=λ_=>jI cu J v>>=λ_=>o6 ifs J>>=λok=>if ok=N then X else again (gZ (cP elt gens scope pos) d it jw J)))(I:Nat->ae->Prop)(turn:∀n s (bp:ae->Prop) (P1:Option aa->ae->Prop) (P2:ae->Prop) (P3:Bool->ae->Prop),(∀m Y,m<n->I m Y->bp Y)->(∀aD,aM (cf cJ) aD->P1 ai aD)->
 (∀v aD,C A (jE cu it v) aD (λ_ aQ=>C A (jI cu J v) aQ (λ_=>P2))->P1 (O v) aD)->(∀de,C A (o6 ifs J) de P3->P2 de)->
 (∀fq,C A X fq (λf s=>f=yG (gZ (cP elt gens scope pos) d it jw J)/\bp s)->P3 N fq)->(∀fq,bp fq->P3 af fq)->I n s->C A (gX it) s P1)(n:Nat)(h:I n s):CC A (gZ (cP elt gens scope pos) d it jw J) s aM:=by
 induction n using UR generalizing s with
 |ind n ih=>
  show jm Z<|C.onRaise<|hX.symm▸C.bind (C.standAt (C.bind ((turn n s (λY=>∃m,m<n/\I m Y) (λr aD=>match r with
   |none=>aM (cf cJ) aD
   |some v=>C A (jE cu it v) aD (λ_ aQ=>C A (jI cu J v) aQ (λ_ de=>C A (o6 ifs J) de (λok fq=>if ok=N then C A X fq (λf Qh=>f=yG (gZ (cP elt gens scope pos) d it jw J)/\∃m,m<n/\I m Qh) else∃m,m<n/\I m fq)))) _ _
    (λm _ a b=>ct m a b) (λ_ h=>h) (λ_ _ h=>h) (λ_ h=>h) (λ_ h=>(if_pos Z).mpr h) (λ_ h=>(if_neg aK).mpr h) h).mono λr aD U=>?_)))
  cases r with
  |none=>show C.pure U
  |some v=>
   show C.bind (C.mono U λ_ aQ ko=>C.bind (C.mono ko λ_ de uj=>C.bind (C.mono uj λok fq Gz=>?_)));cases ok with
   |true=>show C.mono Gz λ_ Qh qQ=>bh qQ.2 λm hm hI=>qQ.1▸⟨rfl,ih m hm hI⟩
   |false=>show bh Gz λm hm hI=>C.pure ⟨rfl,ih m hm hI⟩
theorem t9{d:Nat}{jw:aa}(h1:gens[d]? =O ⟨cu,iter,ifs,0⟩)(h2:gens[d+1]? =ai)(I:Nat->ae->Prop)(turn:∀n s (bp:ae->Prop) (P1:Option aa->ae->Prop) (P2:ae->Prop) (P3:Bool->ae->Prop) (P4:aa->ae->Prop),(∀m Y,m<n->I m Y->bp Y)->(∀aD,aM (cf cJ) aD->P1 ai aD)->
 (∀v aD,C A (jE cu it v) aD (λ_ aQ=>C A (jI cu J v) aQ (λ_=>P2))->P1 (O v) aD)->(∀de,C A (o6 ifs J) de P3->P2 de)->
 (∀fq,C A (aZ elt J) fq P4->P3 N fq)->(∀fq,bp fq->P3 af fq)->(∀x hJ,C A (call (bx "list.append") [jw,x]) hJ (λ_=>bp)->P4 x hJ)->I n s->C A (gX it) s P1)(n:Nat)(h:I n s):CC A (gZ (cP elt gens scope pos) d it jw J) s aM:=
 DN (Zn h1 h2) I (λn s bp P1 P2 P3 a b c d e f i=>turn n s bp P1 P2 P3 (λx hJ=>C A (call (bx "list.append") [jw,x]) hJ (λ_=>bp)) a b c d (λfq h=>e fq (C.bind (C.bind (h.mono λ_ _ h=>C.bind (h.mono λ_ _ h=>C.pure (C.pure ⟨rfl,h⟩)))))) f (λ_ _ h=>h) i) n h
theorem HT{target' iter':aw}{ifs':List aw}{d:Nat}{jw:aa}(h1:gens[d]? =O ⟨cu,iter,ifs,0⟩)(h2:gens[d+1]? =O ⟨target',iter',ifs',0⟩)(hs:Fs iter' J)(I:Nat->ae->Prop)(turn:∀n s (bp:ae->Prop) (P1:Option aa->ae->Prop) (P2:ae->Prop) (P3:Bool->ae->Prop) (P4 P5:aa->ae->Prop) (P6:sJ->ae->Prop),(∀m Y,m<n->I m Y->bp Y)->(∀aD,aM (cf cJ) aD->P1 ai aD)->
 (∀v aD,C A (jE cu it v) aD (λ_ aQ=>C A (jI cu J v) aQ (λ_=>P2))->P1 (O v) aD)->(∀de,C A (o6 ifs J) de P3->P2 de)->
 (∀fq,C A (aZ iter' J) fq P4->P3 N fq)->(∀fq,bp fq->P3 af fq)->(∀x hJ,C A (gm x) hJ P5->P4 x hJ)->
 (∀it' Qh,CC (A.mark ai) (oO (cP elt gens scope pos) (d+1) it' jw J) Qh P6->P5 it' Qh)->(∀f E_,bp E_->P6 (cf f) E_)->I n s->C A (gX it) s P1)(n:Nat)(h:I n s):CC A (gZ (cP elt gens scope pos) d it jw J) s aM:=
 DN (D_ h1 h2) I (λn s bp P1 P2 P3 a b c e f g i=>turn n s bp P1 P2 P3 (λx hJ=>C A (gm x) hJ (λit' Qh=>CC (A.mark ai) (oO (cP elt gens scope pos) (d+1) it' jw J) Qh (λr E_=>match r with|cf _=>bp E_|kX _=>False)))
  _ _ a b c e (λfq h=>f fq (C.bind<|h.mono λx hJ zU=>C.bind<|C.standAt<|C.bind<|C.eq (hs x)<|C.bind<|C.holding<|zU.mono λit' Qh akR=>C.bind<|C.onRaise (C.run (CC.mono akR λr E_ ac9=>by cases r;show ac9;show C.pure ⟨rfl,ac9⟩)))) g (λ_ _ h=>h) (λ_ _ h=>h) (λ_ _ h=>h) i) n h
theorem pH{d:Nat}{jw:aa}(h1:gens[d]? =O ⟨cu,iter,ifs,0⟩)(h0:CC A (gZ (cP elt gens scope pos) d it jw J) s aM)(h:C A (gm it) s (λit' Y=>CC A (gZ (cP elt gens scope pos) d it' jw J) Y aM)):
 CC A (oO (cP elt gens scope pos) d it jw J) s aM:=by
 show jm Z (C.onRaise ?_)
 delta compStart
 show h1.symm▸lB (T2 ?_);split
 .show C.pure ⟨rfl,h0⟩
 .show C.bind<|C.rule<|nO (C.bind (h.mono λit' Y h'=>C.pure ⟨rfl,h'⟩))
theorem ada{F_ first:aE aa}{g:sE}{gs:List sE}(jA:KC e=g::gs)(hs:Fs g.iter J)(G_:qZ scope J=pure cl)(zu:scope.kind=d0)(afW:∀x∈scope.names,x.2=cZ->scope.names.lookup x.1=O cZ)(h:C A first s (λx aD=>C A (gm x) aD (λit aQ=>C A F_ aQ (λjw de=>
 C A (newFunctionEnv scope J.globals cl [] J.qual ai aA (O J)) de (λcenv fq=>
  CC (A.mark ai) (oO e 0 it jw {cenv with scope:=ju scope J}) fq (λr Y=>match r with|cf _=>∃m,Y.heap.Ns cenv.locals m/\∀h',gv cenv.locals Y.heap h'->Q jw {Y with heap:=h'} |kX _=>False)))))):
 C A (En e scope J pos F_ af first ai) s Q:=by
 delta En
 show G_.symm▸jA.symm▸C.bind (h.mono λx aD U=>C.bind (C.standAt (C.bind (C.eq (hs x) (C.bind (C.holding (C.mono U λit aQ ko=>?_)))))));show C.bind (C.mono ko λjw de uj=>C.bind (C.pure (C.bind (C.mono uj λcenv fq Gz=>?_))));dsimp only;have hv:∀x∈(scope.names.filter λx=>(x.2==cZ ||x.2==dw) && x.1 != (".0" :aP)).reverse,x.2=cZ->
  j7 {cenv with scope:=ju scope J} x.1=O cZ:=λx E hl=>xF (afW x (gq.mp (ES.mp E)).1 hl)
 show C.holding (C.bind (C.attempt (C.holding (C.run (CC.mono Gz λr Y hr=>?_)))));cases r with
 |ok f=>show bh hr λm hn hr=>(lH (cR (T3 zu _ Y m hv hn λh' m' _ zQ=>C.pure (hr h' zQ))))
 |error _=>show hr.elim
theorem Qi{K:LN}{first:aE aa}{g:sE}{gs:List sE}(c:ed L scope fs K)(jA:KC e=g::gs)(hs:Fs g.iter J)(G_:qZ scope J=pure cl)(h:C A first s (λx aD=>C A (gm x) aD (λit aQ=>∀a0 bp h3 tk,aQ.heap.objs.size<=a0->aQ.heap.objs.size<=bp->(uf aQ.heap h3)->aQ.heap.get? a0=ai->aQ.heap.get? bp=ai->a0≠bp->
 h3.get? a0=O (br [] 0)->h3.Ns bp (λ_=>ai)->CC (A.mark ai) (oO e 0 it (R a0) (jt scope cl bp J)) {aQ with heap:=h3,toks:=tk} (λr Y=>match r with|cf _=>∃m,Y.heap.Ns bp m/\∀h',gv bp Y.heap h'->Q (R a0) {Y with heap:=h'} |kX _=>False)))):
 C A (En e scope J pos (newList []) af first ai) s Q:=by
 show ada jA hs G_ c.kind c.names<|h.mono λx aD U=>C.mono U λit aQ ko=>cR<|ig<|cR (Ap c.cell (by intro y hy;show kI hy) (λh3 r9 wN=>?_) c.kind);generalize Α:aQ.heap.push {cls:=ak "list",dict:=ai,data:=bU ([]:List aa).toArray}=H2 at r9 wN ⊢;have hC:H2.objs.size=aQ.heap.objs.size+1:=by rw[<-Α,dD]
 generalize H2.objs.size=bp at r9 wN hC ⊢;have Oo:aQ.heap.objs.size≠bp:=by rw[hC];show fB (ja _)
 have aeP:∀b:Nat,aQ.heap.objs.size<=b->aQ.heap.get? b=ai:=λb hb'=>by
  cases q:aQ.heap.get? b with
  |none=>rfl
  |some o=>show absurd (cn q) (j4.mpr hb')
 have hK:=aeP bp (hC▸lP _);show ko aQ.heap.objs.size bp h3 _ (ey _) (hC▸lP _) (λb o e=>wN.extBut b o (λq=>by have e:=hK▸q▸e;ext) (by show Α▸?_;show a8 _ (a8 _ e))) (aeP _ (ey _)) hK Oo
  (wN.extBut _ _ Oo (by show Α▸?_;show a8 _ (bK _ Z))) r9
section
theorem Ck{it:ab}{x left step:Int}(uk:me s.heap it x left step)(Cm:0<left)(hQ:∀h',me h' it (x+step) (left - 1) step->gv it s.heap h'->Q (ah x s.toks) {s with heap:=h',toks:=s.toks+1}):
 ax (aG prog w) A (Mn (R it)) Q a6 s:=by
 have hT:s.TypeIs (R it) "range_iterator" :=ct _ uk Z;show ag (kS hT Fq
  (qe Fq hT VC (VB _) (AutoRange.range_iterator___next___range_iterator_1 it x left step (Int.not_le.mpr Cm)) ⟨uk,?_⟩))
 show aB (hQ _ (gN _ (gN _ uk Z) Z) ((j5 ..).trans (j5 ..)))
theorem C4{it:ab}{x left step:Int}(hh:dh A)(uk:me s.heap it x left step)(Cm:left<=0)(hE:∀h' e,(uf s.heap h')->(∃o,h'.get? e=O o/\o.cls=ak "StopIteration")->a6 (R e) {s with heap:=h'}):ax (aG prog w) A (Mn (R it)) Q a6 s:=by
 have hT:s.TypeIs (R it) "range_iterator" :=ct _ uk Z;show ag (kS hT Fq
  (jU Fq hT VC ?_ (VB _)))
 show(?_:ax _ _ (sM (R it) 0>>=_) _ _ s);show ag<|fX uk Z (x:=dN x) Z<|ag<|fX uk Z (x:=dN left) Z<|ag<|fX uk Z (x:=dN step) Z<|(?_:ax _ _ (if left<=0 then _ else _) _ _ s);show(if_pos Cm).symm▸ag (mR ?_);show ag<|ag<|ag (ig ?_ (by size_fits));show ag<|fK (a:=aA) (by first|rfl|(rfl))<|ig ?_ (by size_fits);show ag (Kl ?_);first|rw[hh]|rw[hh]
 show Kt<|hE _ _ (λb o e=>a8 _ (a8 _ e)) (ct _ (bK _ Z) Z)
variable{F:zB}{a0:ae->ae->Prop}{aM:x9}{gh:xV}
theorem lD.nextOf(x:lD A a g aS fp wr n₀ F j s)(bM:A.depth<mQ)(hj:j<n₀)(DK:a≠aS)(Oj:a∉wr)(Ol:cE≠aS)(Om:cE∉wr)(hF:F.DI)(hQ:∀v Y,F j v s Y->lD A a g aS fp wr n₀ F (j+1) Y->Tg g (aS::wr) s Y->(∀b o,s.heap.get? b=O o->∃o',Y.heap.get? b=O o')->Q v Y):C A (Mn (R a)) s Q:=
 C.bind (x.spc bM hj DK Oj Ol Om hF λv Y a b c d=>C.pure (hQ v Y a b c d))
end
def aiu(z TI TO i1:ab)(X:List ab):Prop:=
 TI≠z/\
 TO≠z/\
 i1≠z/\
 TI≠TO/\
 TI≠i1/\
 TO≠i1/\
 z∉X/\
 TI∉X/\
 TO∉X/\
 i1∉X
section
variable{F:zB}
def C5(A:ck)(s:ae)(a:ab)(g:Nat)(aS:ab)(fp:List ab)(wr:List ab)(n₀:Nat)(F:zB)(j:Nat)(z:ab)(TI:ab)(TO:ab)(i1:ab)(x:Int)(left:Int)(u0:aa)(u1:aa)(P:Nat->aa->Prop)(Q:Option aa->ae->Prop):Prop:=∀(bM:A.depth<mQ) (a0:aiu z TI TO i1 (a::aS::fp)) (DK:a≠aS) (Oj:a∉wr) (xl:cE∈fp) (Ol:cE≠aS) (Om:cE∉wr) (hwf:∀b∈wr,b∈fp) (hF:F.DI) (hP:∀i v s Y,F i v s Y->P i v) (hz:mT s.heap z TI TO aA) (XG:jY s.heap TI (R i1) (R a)) (hTO:jY s.heap TO u0 u1) (h1:me s.heap i1 x left 1) (Cm:0<left) (hg:lD A.in1 a g aS fp wr n₀ F j s) (hj:j<n₀) (hQ:∀v Y (T:ab) tk,P j v->mT Y.heap z TI TO (dN T)->jY Y.heap TI (R i1) (R a)->jY Y.heap TO (ah x tk) v->me Y.heap i1 (x+1) (left - 1) 1->jY Y.heap T (ah x tk) v->s.heap.get? T=ai->
 lD A.in1 a g aS fp wr n₀ F (j+1) Y->Tg g (z::TO::i1::aS::wr) s Y->Q (O (R T)) Y),C A (gX (R z)) s Q
def HU(c:((((ck×ae)×ab)×(Nat×ab))×((((List ab)×(List ab))×Nat)×(zB×Nat)))×((((ab×ab)×ab)×(ab×Int))×(((Int×aa)×aa)×((Nat->aa->Prop)×(Option aa->ae->Prop))))):Prop:=C5 c.1.1.1.1.1 c.1.1.1.1.2 c.1.1.1.2 c.1.1.2.1 c.1.1.2.2 c.1.2.1.1.1 c.1.2.1.1.2 c.1.2.1.2 c.1.2.2.1 c.1.2.2.2 c.2.1.1.1.1 c.2.1.1.1.2 c.2.1.1.2 c.2.1.2.1 c.2.1.2.2 c.2.2.1.1.1 c.2.2.1.1.2 c.2.2.1.2 c.2.2.2.1 c.2.2.2.2
def eG:=IH HU inferInstance
def H_:=eG.1.1.1.1.1
def pI:=eG.1.1.1.1.2
def So:=eG.1.1.1.2
def NC:=eG.1.1.2.1
def HV:=eG.1.1.2.2
def ND:=eG.1.2.1.1.1
def FV:=eG.1.2.1.1.2
def JM:=eG.1.2.1.2
def I_:=eG.1.2.2.1
def J_:=eG.1.2.2.2
def qa:=eG.2.1.1.1.1
def vU:=eG.2.1.1.1.2
def lV:=eG.2.1.1.2
def FW:=eG.2.1.2.1
def NF:=eG.2.1.2.2
def Zp:=eG.2.2.1.1.1
def adb:=eG.2.2.1.1.2
def XQ:=eG.2.2.1.2
theorem K_:C5 H_ pI So NC HV ND FV JM I_ J_ qa vU lV FW NF Zp adb XQ eG.2.2.2.1 eG.2.2.2.2:=λbM a0 DK Oj xl Ol Om hwf hF hP hz XG hTO h1 Cm hg hj hQ=>by
 have hT:pI.TypeIs (R qa) "zip" :=ct _ hz Z;have cw:∀b∈HV::FV,b∈So::HV::ND:=λb D=>by
  rcases bu.mp D with e|e
  .ext
  .simp [hwf b e]
 show C.bind (C.attempt (vR hT FD (n9 hT FD VP (VM _) Z ?_)));change C _ (sM (R qa) 2>>=_) _ _;show lB<|fX hz Z (x:=dB af) Z<|lB<|fX hz Z (x:=R vU) Z<|lB<|jF XG Z<|C.bind<|C.bind<|cR<|fX hz Z (x:=aA) Z<|C.pure<|C.bind<|C.rule<|lB<|fX hz Z (x:=R lV) Z<|lB (Ar hz bA λU HW HX=>?_);replace HW:mT U qa vU lV JY:=HW;show C.bind<|C.bind<|C.bind<|C.onRaise<|lB<|Ck (HX.extBut _ _ a0.2.2.1 h1) Cm λko aiv xj=>C.pure<|have L_:=xj.extBut _ _ a0.2.2.2.2.2.1 (HX.extBut _ _ a0.2.1 hTO);lB<|jF L_ Z<|lB (TL L_ λuj Sr HY=>?_);replace Sr:jY uj lV (ah NF pI.toks) XQ:=Sr;show lB<|uW<|C.pure<|C.bind (C.bind (C.onRaise ?_));have k3:∀b o,b∉[qa,lV,FW]->pI.heap.get? b=O o->uj.get? b=O o:=λb o D e=>by simp only[bu,mW,or_false,not_or]at D;show HY.extBut _ _ D.2.1 (xj.extBut _ _ D.2.2 (HX.extBut _ _ D.1 e))
 have g3:lD H_.in1 So NC HV ND FV JM I_ J_ {pI with heap:=uj,toks:=pI.toks+1}:=hg.frame xl λb D o e=>k3 b o (λq=>by
  revert D;apply Dl q<;>intro D
  .show a0.2.2.2.2.2.2.1 D
  .show a0.2.2.2.2.2.2.2.2.1 D
  .show a0.2.2.2.2.2.2.2.2.2 D) e
 show C.bind<|g3.nextOf bM hj DK Oj Ol Om hF λv s4 hv hg4 m4 akS=>C.pure<|have M_:=m4.keep _ _ (λq=>a0.2.2.2.2.2.2.2.2.1 (cw _ q)) Sr;lB<|jF M_ Z<|lB (TL M_ λzU HZ Qj=>?_);replace HZ:jY zU lV (ah NF pI.toks) v:=HZ;show lB<|uW<|C.pure<|C.pure<|lB<|jF HZ Z<|lB<|Kj<|have N_:=Qj.extBut _ _ a0.2.1.symm (m4.keep _ _ (λq=>a0.2.2.2.2.2.2.1 (cw _ q)) (HY.extBut _ _ a0.2.1.symm (xj.extBut _ _ a0.2.2.1.symm HW)));have aeQ:=Qj.extBut _ _ a0.2.2.2.2.2.1.symm (m4.keep _ _ (λq=>a0.2.2.2.2.2.2.2.2.2 (cw _ q)) (HY.extBut _ _ a0.2.2.2.2.2.1.symm aiv));have aiw:=cn N_;C.bind<|have aix:mT (zU.push {cls:=ak "tuple",data:=bU #[ah NF pI.toks,v]}) qa vU lV JY:=a8 _ N_;lB (Ar aix bA λac9 O_ aeR=>?_);replace O_:mT ac9 qa vU lV (dN zU.objs.size):=O_;show cR (Ar O_ (E0 [dB af,R vU,R lV].length) λade P_ aeS=>?_);replace P_:mT ade qa vU lV (dN zU.objs.size):=P_;have up:∀c o,c≠qa->zU.get? c=O o->ade.get? c=O o:=λc o c1 e=>aeS.extBut _ _ c1 (aeR.extBut _ _ c1 (a8 _ e));have k48:∀b o,b∉[qa,lV]->s4.heap.get? b=O o->ade.get? b=O o:=λb o D e=>by simp only[bu,mW,or_false,not_or]at D;show up _ _ D.1 (Qj.extBut _ _ D.2 e)
 have hTn:pI.heap.get? zU.objs.size=ai:=by
  cases q:pI.heap.get? zU.objs.size with
  |none=>rfl
  |some o=>
   have qE:∀y,zU.get? y≠ai->zU.objs.size≠y:=λy hy e=>hy (by show e▸?_;show bF _);have q3:=k3 _ _ (λhm=>by
    simp only[bu,mW,or_false]at hm;rcases hm with e|e|e
    .show qE qa (by rw[N_];decide) e
    .show qE lV (by rw[HZ];simp) e
    .show qE FW (by rw[aeQ];decide) e) q
   show dG (akS _ _ q3) λo' q4=>?_;have:=cn q4;rw[<-Qj.1]at this;show absurd this (gw _)
 show C.pure<|ct (R zU.objs.size) Z<|C.pure<|have m3:Tg NC (qa::lV::FW::HV::FV) pI {pI with heap:=uj,toks:=pI.toks+1}:=Tg.heap λb o D e=>k3 b o (λq=>D (by apply Dl q<;>ext)) e;have m48:Tg NC [qa,lV] s4 {s4 with heap:=ade,toks:=s4.toks}:=Tg.heap k48;hQ v _ zU.objs.size pI.toks (hP _ _ _ _ hv) P_ (up _ _ a0.1 (Qj.extBut _ _ a0.2.2.2.1 (m4.keep _ _ (λq=>a0.2.2.2.2.2.2.2.1 (cw _ q)) (HY.extBut _ _ a0.2.2.2.1 (xj.extBut _ _ a0.2.2.2.2.1 (HX.extBut _ _ a0.1 XG)))))) (up _ _ a0.2.1 HZ) (up _ _ a0.2.2.1 aeQ) (aeS.extBut _ _ (oJ aiw) (aeR.extBut _ _ (oJ aiw) (bK _ Z))) hTn (hg4.frame xl λb D o e=>k48 b o (λq=>?_) e) ((m3.trans m4 λd hd=>ao (dF _ (dF _ (dF _ hd)))).trans m48 λd hd=>ao ?_)
 .revert D;apply rX q<;>intro D
  .show a0.2.2.2.2.2.2.1 D
  .show a0.2.2.2.2.2.2.2.2.1 D
 .apply rX hd<;>ext
theorem Qk{F:zB}{z:ab}{TI:ab}{TO:ab}{i1:ab}{x:Int}{left:Int}{u0:aa}{u1:aa}{P:Nat->aa->Prop}{Q:Option aa->ae->Prop}:C5 A s a g aS fp wr n₀ F j z TI TO i1 x left u0 u1 P Q:=hen (P:=HU) K_ (((((A,s),a),(g,aS)),(((fp,wr),n₀),(F,j))),((((z,TI),TO),(i1,x)),(((left,u0),u1),(P,Q))))
end
noncomputable abbrev Zq(h:aN)(x n c:Int):aN:=h.push {cls:=ak "range_iterator",dict:=ai,data:=bH #[dN x,dN n,dN c],slots:=#[]}
abbrev adf(h:aN)(a:ab)(x n c:Int):aN:=(Zq h x n c).push {cls:=ak "tuple",data:=bU #[R h.objs.size,R a]}
abbrev adg(h:aN)(a:ab)(x n c:Int):aN:=(adf h a x n c).push {cls:=ak "tuple",data:=bU #[aA,aA]}
abbrev adh(h:aN)(a:ab)(x n c:Int):aN:=(adg h a x n c).push {cls:=ak "zip",data:=bH #[aA,dB af,dB af,R (Zq h x n c).objs.size,R (adf h a x n c).objs.size]}
theorem Ss(rr a:ab)(g:Nat)(x y c:Int)(t u v:aW)(hs:vg x y c=N):
 ri (Builtin.«zip.__new__» ⟨[ak "zip",R rr,R a],[]⟩) (λ_ aM s=>qf s.heap rr x y c t u v/\s.heap.IsGen a g/\
  aM (cf (cL (R (adg s.heap a x (kY x y c) c).objs.size))) {s with heap:=adh s.heap a x (kY x y c) c}):=
 rM λprog w A aM s h=>by
  show hb h λhr hg h=>?_;show ag ?_;show gU (Q:=λr Y=>r=(ak "zip",[R rr,R a])/\Y=s) (E:=λ_ _=>False) ?_ (λr Y q=>?_) λ_ _ e=>e.elim
  .have vQ:=sub_zip;obtain⟨hp,gg,d,tk,os⟩:=s;wp_walk;show⟨rfl,rfl⟩
  obtain⟨rfl,rfl⟩:=q;show ag ?_;show gU (Q:=λr mE=>r=[R Y.heap.objs.size,R a]/\mE={Y with heap:=Zq Y.heap x (kY x y c) c}) (E:=λ_ _=>False) ?_ (λr mE q=>?_) λ_ _ e=>e.elim
  .obtain ⟨hp,gg,d,tk,os⟩:=Y;have hR:qf (We ⟨hp,gg,d,tk,os⟩) rr x y c t u v:=hr;have hG:Heap.IsGen (We ⟨Zq hp x (kY x y c) c,gg,d,tk,os⟩) a g:=eY hg λo nm qn ho r=>Bt o nm qn (a8 _ ho) r;wp_walk using Aq hR hs,Ei hG;show⟨rfl,rfl⟩
  obtain⟨rfl,rfl⟩:=q;show ag (Kj (ag (Kj (ag ?_))))
  delta VX
  wp_walk;show⟨_,rfl,h⟩
theorem Zr{rr:ab}{t u v:aW}(hr:qf s.heap rr 0 n 1 t u v)(hg:s.heap.IsGen a g)(hn:n<=1000)(h:∀h',mT h' (s.heap.objs.size+3) (s.heap.objs.size+1) (s.heap.objs.size+2) aA->jY h' (s.heap.objs.size+1) (R s.heap.objs.size) (R a)->
 jY h' (s.heap.objs.size+2) aA aA->me h' s.heap.objs.size 0 n 1->h'.objs.size=s.heap.objs.size+4->
 (∀c o,s.heap.get? c=O o->h'.get? c=O o)->Q (R (s.heap.objs.size+3)) {s with heap:=h'}):
 ax (aG prog w) A (call (ak "zip") [R rr,R a]) Q a6 s:=by
 show Kr F.called_zip (rfl) (F.typeCall_zip_2 _ _) (F.newCall_zip_2 _ _) (λobj=>PySem.F.args_object_init_3 obj _ _) PySem.F.entry_zip_new
  (Ss rr a g 0 n 1 t u v (uX fF (kbt_pos 62) fF au)) (gQ hr hg ?_)
 have WV:kY 0 (n:Int) 1=(n:Int):=by rw[uU];split<;>lia
 show WV.symm▸?_;have z1:(Zq s.heap 0 n 1).objs.size=s.heap.objs.size+1:=dD ..;have z2:(adf s.heap a 0 n 1).objs.size=s.heap.objs.size+2:=by rw[dD,z1]
 have z3:(adg s.heap a 0 n 1).objs.size=s.heap.objs.size+3:=by rw[dD,z2]
 have g4:(adh s.heap a 0 n 1).get? (adg s.heap a 0 n 1).objs.size=O _:=bK _ Z;have g3:(adh s.heap a 0 n 1).get? (adf s.heap a 0 n 1).objs.size=O _:=a8 _ (bK _ Z);have g2:(adh s.heap a 0 n 1).get? (Zq s.heap 0 n 1).objs.size=O _:=a8 _ (a8 _ (bK _ Z));rw[z1,z2,z3]at g4;rw[z2]at g3;rw[z1]at g2;rw[z3];show⟨(ct _ g4 Z),h _ g4 g2 g3 (a8 _ (a8 _ (a8 _ (bK _ Z)))) (by rw[dD,z3]) λc o x=>a8 _ (a8 _ (a8 _ (a8 _ x)))⟩
def C6(A:ck)(a6:aa->ae->Prop)(s:ae)(z:ab)(TI:ab)(TO:ab)(i1:ab)(a:ab)(x:Int)(left:Int)(Q:Option aa->ae->Prop):Prop:=∀(hh:dh A) (hi:i1≠z) (hz:mT s.heap z TI TO aA) (XG:jY s.heap TI (R i1) (R a)) (h1:me s.heap i1 x left 1) (Cm:left<=0) (hQ:∀h',(∀c o,c≠z->s.heap.get? c=O o->h'.get? c=O o)->Q ai {s with heap:=h'}),ax (aG prog w) A (gX (R z)) Q a6 s
def H7(c:(((ck×(aa->ae->Prop))×ae)×((ab×ab)×ab))×(((ab×ab)×Int)×(Int×(Option aa->ae->Prop)))):Prop:=C6 c.1.1.1.1 c.1.1.1.2 c.1.1.2 c.1.2.1.1 c.1.2.1.2 c.1.2.2 c.2.1.1.1 c.2.1.1.2 c.2.1.2 c.2.2.1 c.2.2.2
def jr:=IH H7 inferInstance
def Q_:=jr.1.1.2
def NG:=jr.1.2.1.1
def NH:=jr.1.2.1.2
def NI:=jr.1.2.2
def adi:=jr.2.1.1.1
def H8:=jr.2.1.2
theorem R_:C6 jr.1.1.1.1 jr.1.1.1.2 Q_ NG NH NI adi jr.2.1.1.2 H8 jr.2.2.1 jr.2.2.2:=λhh hi hz XG h1 Cm hQ=>by
 have hT:Q_.TypeIs (R NG) "zip" :=ct _ hz Z;show ag (sF (kS hT FD
  (jU FD hT VP ?_ (VM _))))
 show(?_:ax _ _ (sM (R NG) 2>>=_) _ _ _);show ag<|fX hz Z (x:=dB af) Z<|ag<|fX hz Z (x:=R NH) Z<|ag<|jF XG Z<|ag<|ag<|fX hz Z (x:=aA) Z<|aB<|ag<|mR<|ag<|fX hz Z (x:=R NI) Z<|ag (Ar hz bA λU HW HX=>?_);replace HW:mT U NG NH NI JY:=HW;show ag<|ag<|ag<|Km<|ag<|C4 hh (HX.extBut _ _ hi h1) Cm λko e xj he=>bh he λoe hoe hce=>have aeT:=xj _ _ HW;Ar aeT bA λuj _ HY=>ag<|mP (T:= "StopIteration") (b:=N) (ct oe (HY.extBut _ _ (λH8=>by subst H8;rw[aeT]at hoe;obtain rfl:=aV hoe;simp at hce) hoe) hce) Kf<|aB (hQ _ λc o c1 H8=>HY.extBut _ _ c1 (xj _ _ (HX.extBut _ _ c1 H8)))
theorem adj{z:ab}{TI:ab}{TO:ab}{i1:ab}{x:Int}{left:Int}{Q:Option aa->ae->Prop}:C6 A a6 s z TI TO i1 a x left Q:=hen (P:=H7) R_ ((((A,a6),s),((z,TI),TO)),(((i1,a),x),(left,Q)))
noncomputable def lu(ws:Nat->Nat)(i:Nat):List Int:=(aI i).map λj=>aj (ws j)
theorem Cn(ws:Nat->Nat)(i:Nat):lu ws (i+1)=lu ws i++[aj (ws i)]:=by
 delta lu
 rw[sT,j0];rfl
section
variable{F:zB}{ws:Nat->Nat}
inductive afX(A:ck)(a:ab)(g:Nat)(aS:ab)(fp wr:List ab)(n₀:Nat)(F:zB)(ws:Nat->Nat)(z TI TO i1 bp a0:ab)(s:ae)(k:Nat)(Y:ae):Prop
 |mk (i:Nat) (m':aP->Option aa) (ys:List aa) (n:Nat) (u0 u1:aa) (e:k=n₀+1 - i) (hi:i<=n₀) (hz:mT Y.heap z TI TO aA) (ti:jY Y.heap TI (R i1) (R a)) (to:jY Y.heap TO u0 u1) (r:me Y.heap i1 (i:Int) ((n₀:Int) - i) 1)
  (g1:lD A.in1 a g aS fp wr n₀ F i Y) (nn:Y.heap.Ns bp m') (d:Y.heap.get? a0=O (br ys n)) (ia:fh ys (lu ws i)) (t:Tg g (z::TO::i1::bp::a0::aS::wr) s Y)
theorem aeU{x b c e f g:ab}{l:List ab}{P:Prop}(h:x∉a::b::c::d::e::f::g::l)(k:x≠a->x≠b->x≠c->x≠d->x≠e->x≠f->x≠g->x∉l->P):P:=
 have h1:=ME h;have h2:=ME h1;have h3:=ME h2;have h4:=ME h3;have h5:=ME h4;have h6:=ME h5
 k (vw h) (vw h1) (vw h2) (vw h3) (vw h4) (vw h5) (vw h6) (ME h6)
theorem aiy{x b c e f:ab}{l:List ab}{P:Prop}(h:x∉a::b::c::d::e::f::l)(k:x≠a->x≠b->x≠c->x≠d->x≠e->x≠f->x∉l->P):P:=
 aeU (gY (yo x).symm h) λ_=>k
theorem Ql{x b c:ab}{l:List ab}(h1:x≠a)(h2:x≠b)(h3:x≠c)(h:x∉l):x∉a::b::c::l:=gY h1 (gY h2 (gY h3 h))
theorem Su{z TI TO i1 bp a0:ab}{pk pw pw2 pt:aY}{cenv:cg}{m0:aP->Option aa}(hh:dh A)(bM:A.depth<mQ)(iO:aiu z TI TO i1 (a::aS::fp))(DK:a≠aS)(Oj:a∉wr)(xl:cE∈fp)(Ol:cE≠aS)(Om:cE∉wr)(hwf:∀b∈wr,b∈fp)(hF:F.DI)(hP:∀i v s Y,F i v s Y->∃tk,v=ah (aj (ws i)) tk)(hn:n₀<=1000)(hK:bp∉z::TI::TO::i1::a0::a::aS::fp)(hD:a0∉z::TI::TO::i1::a::aS::fp)(afY:cenv.locals=bp)(zu:cenv.scope.kind=d0)(akT:cenv.kindOf (NM 92)=O cZ)(hk7:cenv.kindOf (NM 7)=O cZ)(hz:mT s.heap z TI TO aA)(XG:jY s.heap TI (R i1) (R a))(hTO:∃u0 u1,jY s.heap TO u0 u1)(h1:me s.heap i1 0 n₀ 1)(hg:lD A.in1 a g aS fp wr n₀ F 0 s)(wL:s.heap.Ns bp m0)(oq:s.heap.get? a0=O (br [] 0))(hR:∀Y ys n m',Tg g (z::TO::i1::bp::a0::aS::wr) s Y->Y.heap.get? a0=O (br ys n)->fh ys (lu ws n₀)->Y.heap.Ns bp m'->(∀b∈aS::fp,∃o,Y.heap.get? b=O o)->aM (cf cJ) Y):
 CC A (gZ (cP (ar (NM 7) pw) [⟨ik [ar (NM 92) pk,ar (NM 7) pw2] 0 pt,iter,[],0⟩] scope pos) 0 (R z) (R a0) cenv) s aM:=by
 subst afY;show aeU hK λK1 K2 K3 K4 K5 K6 K7 K8=>aiy hD λD1 D2 D3 D4 D6 D7 D8=>t9 Z Z (afX A a g aS fp wr n₀ F ws z TI TO i1 cenv.locals a0 s) ?_ (n₀+1) (jh hTO λu0 u1 e=>⟨0,m0,[],0,u0,u1,rfl,fg _,hz,XG,e,h1,hg,wL,oq,qv,.refl _ _ _⟩);rintro k Y Kp P1 P2 P3 P4 Kh H0 H1 H2 H3 _ H4 ⟨i,m',ys,n,u0,u1,dX,hi,z1,ti1,to1,r1,g1,ns1,d1,ia,t1⟩;by_cases jz:i<n₀
 .show Qk (P:=λi v=>∃tk,v=ah (aj (ws i)) tk) bM iO DK Oj xl Ol Om hwf hF hP z1 ti1 to1 r1 au g1 jz λv s1 T tk hv hz2 akU akV hr2 hT2 hTn g2 t2=>?_;obtain⟨tw,rfl⟩:=hv;have akW:∀b o,Y.heap.get? b=O o->b≠T:=λb o e q=>by have e:=hTn▸q▸e;ext
  show H1 _ _<|cR<|wpAny_letOwnedTupleGo_zip hz2 λh3 hz3 S_=>have hT3:Heap.IsTuple h3 T #[ah (i:Int) tk,ah (aj (ws i)) tw]:=⟨_,S_.extBut _ _ (eO (akW z _ z1)) hT2,rfl,0,rfl⟩;cR<|wQ (s:={s1 with heap:=h3}) hh hT3 λh4 k4=>Stores.local (aS:=cenv.locals) Z zu [92,7] [(i:Int),aj (ws i)] {s1 with heap:=h4} m' _ _ Z aK (λy hy=>?_) (((ns1.at' λo e=>t2.keep _ o (Ql K1 K3 K4 (gY K7 (λq=>K8 (hwf _ q)))) e).at' λo e=>S_.extBut _ o K1 e).at' λo e=>k4 _ o e) λs5 m5 sb5 o5 dr5 gn5 ns5 hm5 _=>?_
  .apply rX hy
   .show akT
   .show hk7
  show H2 _<|uL<|H3 _<|dG (hm5 1 7 (aj (ws i)) Z Z) λt7 e7=>(cR (qY (xD zu hk7 ns5 e7 ?_) (wG 7)));have k15:∀b o,b∉[z,cenv.locals]->s1.heap.get? b=O o->s5.heap.get? b=O o:=λb o D e=>Dm D λh1 h2=>sb5.extBut _ _ h2 (k4 _ _ (S_.extBut _ _ h1 e));have hly:ys.length=i:=by have:=ia.length;simpa[lu] using this
  show H4 _ _<|cR (Ao (items:=ys.toArray) ⟨n,(k15 a0 _ (MD D1 (eO K5)) (t2.keep _ _ (Ql D1 D3 D4 (gY D7 (λq=>D8 (hwf _ q)))) d1))⟩ (λh8 Rj wb=>?_) (by have:fc=16777216:=jW;simp;lia));show dG Rj λn8 e8=>?_;have k18:∀b o,b∉[z,cenv.locals,a0]->s1.heap.get? b=O o->h8.get? b=O o:=λb o D e=>Gd D λh1 h2 h3=>wb.extBut _ _ h3 (k15 _ _ (MD h1 h2) e);have t5:Tg g [z,cenv.locals,a0] s1 {s5 with heap:=h8}:=⟨k18,o5,dr5,by rw[show({s5 with heap:=h8}:ae).gens=s1.gens from gn5];show .refl _ _⟩;have Y7:∀b,b∈TI::TO::i1::a::aS::fp->b∉[z,cenv.locals,a0]:=λb D q=>Dl (P:=λb=>b∈TI::TO::i1::a::aS::fp->False) q (Ql (eO iO.1) (eO iO.2.1) (eO iO.2.2.1) iO.2.2.2.2.2.2.1) (Ql K2 K3 K4 (gY K6 (gY K7 K8))) (Ql D2 D3 D4 (gY D6 (gY D7 D8))) D;show Kh (n₀+1 - (i+1)) _ (dX▸ru (kU jz) (ja i)) ⟨i+1,m5,ys++[ah (aj (ws i)) t7],n8,ah (i:Int) tk,ah (aj (ws i)) tw,rfl,jz,(wb.extBut _ _ (eO D1) (sb5.extBut _ _ (eO K1) (k4 _ _ hz3))),k18 _ _ (Y7 _ bC) akU,k18 _ _ (Y7 _ bC) akV,?_,?_,ns5.at' λo e=>wb.extBut _ o K5 e,?_,?_,?_⟩
  .have e2:(n₀:Int) - ((i+1:Nat):Int)=(n₀:Int) - i - 1:=by lia
   rw[e2,(by lia:((i+1:Nat):Int)=(i:Int)+1)];show k18 _ _ (Y7 _ bC) hr2
  .have gl:lD A.in1 a g aS fp wr n₀ F (i+1) {s5 with heap:=h8}:=g2.later xl (λb D o e=>k18 b o (Y7 b (by simp only[bu]at D ⊢;show aH (aH (aH D)))) e) λgs e=>(show({s5 with heap:=h8}:ae).gens=s1.gens from gn5).symm▸e;show gl
  .rw [e8];simp[br]
  .rw [Cn];show ia.append (yE _ _ qv)
  .show (t1.trans t2 λd hd=>ao ?_).trans t5 λd hd=>ao ?_
   .simp only[bu]at hd ⊢;rcases hd with q|q|q|q|q<;>ext
   .simp only[bu,mW,or_false]at hd ⊢;rcases hd with q|q|q<;>ext
 .have:i=n₀:=by lia
  cases this
  show cR<|adj hh iO.2.2.1 z1 ti1 r1 au λh' hk=>H0 _ (hR _ ys n m' (t1.trans (Tg.heap (X:=[z]) (tk:=Y.toks) λb o D e=>hk b o (vw D) e) λd hd=>?_) (hk _ _ D1 d1) ia (ns1.at' λo e=>hk _ o K1 e) λb D=>dG (g1.there b D) λo e=>⟨o,hk _ _ (λq=>iO.2.2.2.2.2.2.1 (bZ _ (q▸D))) e⟩);apply jS hd;show ao bC
end
section
variable{Q:b8->ae->Prop}
theorem Sv{a:Nat}{np2 np3 Qm:aY}(B:cA U mg mb)(I:dQ mg mb)(hz:Gi L "zip")(hr:Gi L "range")(he:V H U A L J G e (aT n) af)(dH:cG e=af)(E:cq G x=O (k,aX (R a)))(r:ER H U L J s.heap G)(hg:∀Y,dz H s Y->Y.heap.IsGen a g)(hn:n<=1000):
 T A (aZ (bI (ar (aC "zip") np) [bI (ar (aC "range") np2) [e] [] Qm,ar (NM x) np3] [] pos) J) s (λv aD=>∃z TI TO i1,v=R z/\dz H s aD/\(∀y∈[z,TI,TO,i1],s.heap.get? y=ai)/\
  TI≠z/\TO≠z/\i1≠z/\TI≠TO/\TI≠i1/\TO≠i1/\mT aD.heap z TI TO aA/\jY aD.heap TI (R i1) (R a)/\jY aD.heap TO aA aA/\me aD.heap i1 0 n 1):=by
 have hI:=I ("zip",ak "zip") aK;show l9<|(ez B r hz hI.1 hI.2 (rfl)).Dq<|A7 (Fg (mB ("range") ("range") B I aK hr (rfl) (fJ.cons he fJ.nil dH) (by simp[dW,dH]) r λvs aD F e1 V1=>?_) Z) Z (rfl);apply nH V1;show λt=>sG<|have e2:dz H s {aD with heap:=aD.heap.push {cls:=ak "range",data:=bH #[ah 0 aD.toks,ah (aj n) t,ah 1 (aD.toks+1)]},toks:=aD.toks+1+1}:=e1.trans ⟨.push _ _,rfl,rfl,rfl⟩;Fg (T.Dq (uh (r.ext e2.ext) E) ?_) Z;show Fh (Zr (bK _ Z) (hg _ e2) hn λh' z1 ti to r1 sz k=>?_);have nM:∀m:Nat,s.heap.get? ((aD.heap.push {cls:=ak "range",data:=bH #[ah 0 aD.toks,ah (aj n) t,ah 1 (aD.toks+1)]}).objs.size+m)=ai:=λm=>e2.ext.new (by
  cases q:(aD.heap.push {cls:=ak "range",data:=bH #[ah 0 aD.toks,ah (aj n) t,ah 1 (aD.toks+1)]}).get? ((aD.heap.push {cls:=ak "range",data:=bH #[ah 0 aD.toks,ah (aj n) t,ah 1 (aD.toks+1)]}).objs.size+m) with
  |none=>rfl
  |some o=>show absurd (cn q) (j4.mpr (iZ _ _)))
 show⟨_,_,_,_,rfl,e2.trans ⟨.of_keep k,rfl,rfl,rfl⟩,λy hy=>?_,λq=>absurd (yn q) (ue Z),λq=>absurd (yn q) (ue Z),λq=>absurd (yn (m:=0) q) (ue Z),λq=>absurd (yn q) (ue Z),λq=>absurd (yn (k:=0) q) (ue Z),λq=>absurd (yn (k:=0) q) (ue Z),z1,ti,to,r1⟩;apply tH hy
 .show nM 3
 .show nM 1
 .show nM 2
 .show nM 0
end
theorem PL.erE(p:PL H U L J aJ bq bB G S bw Gs s):ER [] s.heap L J s.heap G:=
 have e:=p.er
 ⟨.refl _,e.kind,e.gl,e.WD,e.glob,e.bi,e.loc,e.has⟩
theorem T_{a:Nat}{Ia cl b:ab}{oa oC oI Sk:bj}{gs:eS}{pw pk pw2 pt np2 np3 aiz Qm:aY}(hh:dh A)(bM:A.depth<900)(B:cA U mg mb)(I:dQ mg mb)(hT:gi U)(p:PL H U L J aJ bq bB G S bw Gs s)(hG:lU G)(hc:ed L scope [] [92,7])(hz:Gi L "zip")(hr:Gi L "range")(he:V [] s.heap A L J G e (aT n) af)(dH:cG e=af)(E:cq G x=O (k,.ptr (.ref a)))(hn:n<=1000)(Wt:r_ U ns b dx d a g aS Ia cl n oa oC oI Sk gs)(hL:∀y∈[(a,oa),(aS,oC),(Ia,oI),(cl,Sk)],y∈bw)(hS:∀y∈jj b dx d ns,y∈S)(hGs:(g,gs)∈Gs)(DK:a≠aS)(haI:a≠Ia)(hmC:kh oC=N)(hmI:kh oI=N)(hL':∀y∈L',y∈bw/\y.1≠aS/\y.1≠Ia)(hq:∀Y a0 ys m,fh ys (lu (λi=>wordAt ns (8 * i)) n)->PL H U L J aJ bq bB G S ((a0,br ys m)::L') [] Y->Q (.ref a0) Y):
 C A (aZ (.ListComp (.Name (NM 7) pw) [⟨.Tuple [.Name (NM 92) pk,.Name (NM 7) pw2] 0 pt,.Call (.Name (aC "zip") np) [.Call (.Name (aC "range") np2) [e] [] Qm,.Name (NM x) np3] [] aiz,[],0⟩] scope pos) J) s Q:=by
 have r0:=p.erE;show bh (hc.OG r0 Z) λXH jA _=>?_;have U_:∀s2:ae,(uf s.heap s2.heap)->s2.gens=s.gens->∀A':ck,dh A'->lD A' a g aS (Qc U++[b,dx,d,cl,Ia]) [Ia] n (xq ns) 0 s2:=λs2 k2 g2 A' R4=>
  Wt s2 (λy o ht e=>k2 _ _ (p.ps.ext.keep y o ht e)) (λy hy=>k2 _ _ (p.getL (hL y hy))) (λy hy=>k2 _ _ (p.sg y (hS y hy)).1) (by show g2.symm▸?_;show(p.gk _ hGs).1) A' R4
 show Qi (gs:=[]) hc Z (λ_=>rfl) jA<|Lake.T.wz (Sv (a:=a) (g:=g) (p.ps.base B) I hz hr he dH E r0 (λY e'=>(U_ Y (e'.keeps.elim λh' q=>q.elim λtk q=>q.1▸q.2) e'.gens A hh).gen) hn) λv s1 oj=>gu oj λz TI TO i1 hv e1 nM i=>dU i λd1 d2 d3 d4 d5 d6 z1 i=>hb i λti1 to1 r1=>hv▸have ke:∀b o,s.heap.get? b=O o->s1.heap.get? b=O o:=e1.keeps.elim λh' q=>q.elim λtk q=>q.1▸q.2;cR (Kc z1 ?_);intro a0 bp h3 tk _ _ old hD1 hK1 Β oq r9;have neD:∀b o,s1.heap.get? b=O o->a0≠b:=λb o e q=>by have e:=hD1▸q.symm▸e;ext
 have neK:∀b o,s1.heap.get? b=O o->bp≠b:=λb o e q=>by have e:=hK1▸q.symm▸e;ext
 have exs:∀y∈a::aS::(Qc U++[b,dx,d,cl,Ia]),∃o,s.heap.get? y=O o:=λy hy=>by have hw:=U_ s (λ_ _ e=>e) Z A hh;show bf (bu.mp hy) (λq=>eY hw.gen λo _ _ e _=>⟨o,by rw[q];show e⟩) λq=>hw.there y q
 have apart:∀y∈[z,TI,TO,i1],y∉a::aS::(Qc U++[b,dx,d,cl,Ia]):=λy hy q=>by show dG (exs y q) λo e=>?_;have e:=(nM y hy)▸e;ext
 have hcL:∀y∈[aS,Ia],cE≠y:=λy hy q=>by
  show og λgG kG=>bh B.lim λmc i1 _=>eY i1 λo _ _ e _=>kG ?_;clear kG gG;have:U.get? y=ai:=by
   apply rX hy
   .show (p.lg _ (hL (aS,oC) bC)).2.2.2.1
   .show (p.lg _ (hL (Ia,oI) bC)).2.2.2.1
  have this:=e▸q.symm▸this;ext
 have ex1:∀y∈z::TI::TO::i1::a::aS::(Qc U++[b,dx,d,cl,Ia]),∃o,s1.heap.get? y=O o:=λy hy=>by
  rcases bu.mp hy with q|hy
  .show ⟨_,q▸z1⟩
  rcases bu.mp hy with q|hy
  .show ⟨_,q▸ti1⟩
  rcases bu.mp hy with q|hy
  .show ⟨_,q▸to1⟩
  show bf (bu.mp hy) (λq=>⟨_,q▸r1⟩) λhy=>dG (exs y hy) λo e=>⟨o,ke y o e⟩
 have hDn:a0∉z::TI::TO::i1::a::aS::(Qc U++[b,dx,d,cl,Ia]):=λq=>dG (ex1 a0 q) λo e=>(neD _ _ e Z);have hKn:bp∉z::TI::TO::i1::a0::a::aS::(Qc U++[b,dx,d,cl,Ia]):=λq=>by
  have q2:bp=a0\/bp∈z::TI::TO::i1::a::aS::(Qc U++[b,dx,d,cl,Ia]):=by
   simp only[bu]at q ⊢;rcases q with q|q|q|q|q|q|q|q
   .show .inr (.inl q)
   .show .inr (.inr (.inl q))
   .show .inr (.inr (.inr (.inl q)))
   .show .inr (.inr (.inr (.inr (.inl q))))
   .show .inl q
   .show .inr (.inr (.inr (.inr (.inr (.inl q)))))
   .show .inr (.inr (.inr (.inr (.inr (.inr (.inl q))))))
   .show .inr (.inr (.inr (.inr (.inr (.inr (.inr q))))))
  show bf q2 (λq2=>Β q2.symm) λq2=>dG (ex1 bp q2) λo e=>(neK _ _ e Z)
 have kl:∀y∈([92,7]:LN),(ju scope J).names.lookup (NM y)=O .local:=λy hy=>by
  rcases o7 (vn:=J) (hc.locs y hy) with e|⟨e,_⟩
  .show e
  .ext
 have loop:=Su (A:=A) (s:={s1 with heap:=h3,toks:=tk}) (a:=a) (g:=g) (aS:=aS) (fp:=Qc U++[b,dx,d,cl,Ia]) (wr:=[Ia]) (n₀:=n) (F:=xq ns) (ws:=λi=>wordAt ns (8 * i)) (z:=z) (TI:=TI) (TO:=TO) (i1:=i1) (bp:=bp) (a0:=a0) (pk:=pk) (pw:=pw) (pw2:=pw2) (pt:=pt) (pos:=pos)
  (iter:=.Call (.Name (aC "zip") np) [.Call (.Name (aC "range") np2) [e] [] Qm,.Name (NM x) np3] [] aiz) (scope:=scope) (cenv:=jt scope XH bp J)
  (aM:=λr Y=>match r with | .ok _=>∃m,Y.heap.Ns bp m/\∀h',gv bp Y.heap h'->Q (.ref a0) {Y with heap:=h'} | .error _=>False) (m0:=λ_=>ai)
  hh au (⟨d1,d2,d3,d4,d5,d6,apart z bC,apart TI bC,apart TO bC,apart i1 bC⟩) DK (λq=>haI (by simpa using q)) (dc _ (Cf.mpr ⟨bh B.lim λmc i _=>eY i λo _ _ e _=>⟨o,e⟩,DT Z⟩)) (hcL aS bC) (λq=>hcL Ia bC (by simpa using q)) (λy hy=>by have hy:=bu.mp hy;lia) (Ny ns) (λ_ _ _ _ h=>h) hn hKn hDn Z hc.kind (kl 92 bC) (kl 7 bC)
  (old _ _ z1) (old _ _ ti1) (qA _ _ (old _ _ to1)) (old _ _ r1) (U_ {s1 with heap:=h3,toks:=tk} (λb o e=>old b o (ke b o e)) e1.gens A.in1 hh) r9 oq λY ys m m' t hd ia akX hth=>?_
 .show pH Z loop (cR (Kc (old _ _ z1) loop))
 .show ct m' akX (λh'' OI=>?_);have keep:∀y o,y∉[aS,Ia]->s.heap.get? y=O o->h''.get? y=O o:=λy o hy e=>by
   have Rf:=ke y o e;have hK:y≠bp:=λq=>neK _ _ Rf q.symm;show OI.extBut _ _ hK (t.keep _ _ (λhm=>?_) (old _ _ Rf));simp only[bu,or_false]at hm hy;have nz:∀u∈[z,TI,TO,i1],y≠u:=λu hu q=>by have e:=(nM u hu)▸q▸e;ext
   rcases hm with q|q|q|q|q|q
   .show nz z bC q
   .show nz TO bC q
   .show nz i1 bC q
   .show hK q
   .show neD _ _ Rf q.symm
   .show hy q
  show hq _ a0 ys m ia (p.move hG hT (X:=[aS,Ia]) keep (t.os.trans e1.os) (t.drawn.trans e1.drawn) ?_ (λy hy=>?_) (λy hy=>?_) (zo))
  .show l5.new (b:=s.gens) p.mod.gens ?_ (p.gk _ hGs).2;have:=t.gens;rw[show({s1 with heap:=h3,toks:=tk}:ae).gens=s.gens from e1.gens]at this;show this
  .have hKC:∀u∈aS::(Qc U++[b,dx,d,cl,Ia]),u≠bp:=λu hu q=>hKn (by show q▸?_;simp only[bu]at hu ⊢;show .inr (.inr (.inr (.inr (.inr (.inr hu))))));apply rX hy
   .show ct oC (hL _ bC) hmC
   .show ct oI (hL _ bC) hmI
  .rcases bu.mp hy with q|q
   .show q▸⟨.inr ?_,OI.extBut _ _ Β hd⟩;cases q2:s.heap.get? a0 with|none=>rfl|some o=>show absurd Z (neD _ _ (ke _ _ q2))
   .show hb (hL' y q) λq1 q2 q3=>⟨.inl (bG.mpr (ct y q1 Z)),keep _ _ (by simp[q2,q3]) (p.getL q1)⟩
def wordsOf(ns:LN)(n:Nat):LN:=(aI n).map λi=>wordAt ns (8 * i)
theorem NJ(ns:LN)(n:Nat):lu (λi=>wordAt ns (8 * i)) n=(wordsOf ns n).map λx=>aj x:=by
 delta lu wordsOf
 rw[qj];rfl
section
variable{Q:b8->ae->Prop}
theorem PL.adk(p:PL H U L J aJ bq bB G S bw Gs s)(h:∀y∈L',y∈bw):PL H U L J aJ bq bB G S L' Gs s:=
 ⟨lY p.fr λW r a b c=>(wD W r a b (λy hy=>c y (h y hy))),p.sg,λy hy=>p.lg y (h y hy),p.mod,p.lC,p.gk⟩
theorem V_{k2 a bt:Nat}{Ia cl b:ab}{oa oC oI Sk:bj}{gs:eS}(hh:dh A)(bM:A.depth<900)(B:cA U mg mb)(I:dQ mg mb)(I2:tZ mg mb)(dA:Eb U P t fd)(hT:gi U)(p:PL H U (bg jo) J aJ bq bB G S bw Gs s)(hG:lU G)(dH:bW G 93=N)(E:cq G 71=O (k,aX (R a)))(hec:cq G 98=O (k2,aX (R i)))(hE:Ci U i [1,bt,n])(hn:n<=100)(hw:lX (wordsOf ns n))(Wt:r_ U ns b dx d a g aS Ia cl n oa oC oI Sk gs)(hL:∀y∈[(a,oa),(aS,oC),(Ia,oI),(cl,Sk)],y∈bw)(hS:∀y∈jj b dx d ns,y∈S)(hGs:(g,gs)∈Gs)(DK:a≠aS)(haI:a≠Ia)(hmC:kh oC=N)(hmI:kh oI=N)(hL':∀y∈L',y∈bw/\y.1≠aS/\y.1≠Ia)(kk:∀Y bl,(∀y∈S,y.1≠bl)->(∀y∈L',y.1≠bl)->PL H U (bg jo) J aJ bq bB (jl G 93 0 (aX (R bl))) ((bl,kz (wordsOf ns n))::S) L' [] Y->C A (aU rest J) Y Q):
 C A (aU (bc Sn 0::rest) J) s Q:=by
 have hI:=I ("bytearray",ak "bytearray") aK;show ip<|Ah (x:=93) Z<|fU<|T.wY (ez (p.ps.base B) p.erE Z hI.1 hI.2 (rfl))<|dg (rfl) (ej (cx (T_ (L':=L') (n:=n) (x:=71) hh bM B I hT p hG (ed.of (rfl)) Z Z (JL (x:=98) bM (p.ps.base B) I I2 (dA.ext p.ps.ext) (hE.ext p.ps.ext) hec) Z E au Wt hL hS hGs DK haI hmC hmI hL' λs2 a0 ys m ia p2=>c8 (iE ⟨rfl,?_⟩))));rw[NJ]at ia;show uG ("list") m (p2.getL (cQ ..)) (ao Z) ia hw.1 hw.2<|bh p2.open λW2 ps2 W_=>have p3:=W_ _ _ _ _ (ps2.sf (o:=kz (wordsOf ns n)) (tk:=s2.toks) B Z Z);have p3:PL H U (bg jo) J aJ bq bB G ((s2.heap.objs.size,kz (wordsOf ns n))::S) L' [] {s2 with heap:=s2.heap.push (kz (wordsOf ns n)),toks:=s2.toks}:=p3.adk λy hy=>bZ _ hy;T.wz (p3.store (ao Z) dH (.iq _)) λ_ s4 p4=>kk s4 _ (λy hy q=>?_) (λy hy q=>?_) p4
 .have:=cn (p2.sg y hy).1;rw[q]at this;show gw _ this
 .have:=cn (p2.getL (dF _ hy));rw[q]at this;show gw _ this
end
section
variable{Q:b8->ae->Prop}
theorem H9{lo:aw}(ho:U.get? a=O (kz ns))(ht:a∉bY)(hB:lX ns)(he:V H U A L J G e (aX (R a)) af)(hh:V H U A L J G lo (aT k) af)(hk:k<=ns.length):
 j_ H U A L J G (dk e (mi (O lo) eU eU p) pos) (ns.drop k):=λs r=>by
 show rF<|(he r).κ λaD e1=>Et<|(hh (r.ext e1.ext)).CE λt de e2=>aB<|aB<|have τ:=e1.trans e2;k_ (oS _ t) Me τ ((r.base.trans τ.ext).keep a _ ht ho) hB ?_ Z;rw[Wm];simp only[U3,T9,clipAt_nat,hZ,AZ hk];rw[JJ,KR fF]
theorem X_{q p1 cp:aY}(p:PS H U L J aJ bq bB G S s)(B:cA U mg mb)(I:dQ mg mb)(kM:Gi L "bytearray")(hy:cq G y=O (k,aX (R a)))(ha:(a,kz ns)∈S)(hn:lX ns)(dH:bW G x=N)(E:Hx L x)(hs:fu (bI (ar (aC "bytearray") np) [ar (NM y) p1] [] cp) (O (ar (NM x) q)) pos.line J=pure af)(kk:∀Y b,(∀z∈S,z.1≠b)->PS H U L J aJ bq bB (jl G x 0 (aX (R b))) ((b,kz ns)::S) Y->C A (aU rest J) Y Q):
 C A (aU (fE [ar (NM x) q] (bI (ar (aC "bytearray") np) [ar (NM y) p1] [] cp) pos::rest) J) s Q:=by
 have hI:=I ("bytearray",ak "bytearray") aK;show yU (τ':=H) (U:=U) (aJ:=aJ) (bq:=bq) (bB:=bB) dH E hs<|fU<|T.wY (ez (p.base B) p.er kM hI.1 hI.2 (rfl))<|dg (rfl) (ej (cx (Lake.T.wY (uh p.er hy) (c8 (iE ⟨rfl,?_⟩)))));show ύ (b:=wo ns) (p.get ha) (by rw[hZ];show hn.2) ((DV _ (aX (R s.heap.objs.size)) [] (p.sf (o:=kz ns) (tk:=s.toks) B Z Z) (.iq _) Z (λY p'=>kk Y _ (λz hz e=>?_) p')));have:=cn (p.sg z hz).1;rw[e]at this;show gw _ this
end
def gR(m1 m2 l1 l2 gp rr bl:ab)(ne:Nat):ie:=[(101,0,.ptr (.ref rr)),(100,0,.ptr (.ref gp)),(99,0,aT ne),(97,0,.ptr (.ref 1890)),(96,0,.ptr (.ref 1888)),(95,0,.ptr (.ref m2)),(94,0,.ptr (.ref m1)),(93,0,.ptr (.ref bl)),(86,0,.ptr (.ref l2)),(85,0,.ptr (.ref l1))]
section
variable{Q:b8->ae->Prop}
theorem PL.less(p:PL H U L J aJ bq bB G S bw Gs s)(g:km G' G):PL H U L J aJ bq bB G' S bw Gs s:=
 ⟨bh p.fr λW r a=>(ct W (r.less g) a),p.sg,p.lg,p.mod,p.lC,p.gk⟩
theorem PL.inter(p:PL H U L J aJ bq bB G S bw Gs s)(hk:L.kind= .function):iG J=af:=by delta iG;show p.scope.symm▸hk.symm▸?_;rfl
theorem PL.aiA(p:PL H U L J aJ bq bB G S bw Gs s)(h:∀y∈S',y∈S):PL H U L J aJ bq bB G S' bw Gs s:=
 ⟨lY p.fr λW r a b c=>(wD W r a (λy hy=>b y (h y hy)) c),λy hy=>p.sg y (h y hy),λy hy=>jd (p.lg y hy) λa b c d e=>(Yr a b c d (λq=>e (bh (bG.mp q) λz hz q2=>bG.mpr ⟨z,h z hz,q2⟩))),p.mod,λy hy=>p.lC y (h y hy),p.gk⟩
theorem adl{lg ex:LN}{Lx:Sg}{m1 m2 l1 l2 gp rr bl n1 n2:Nat}{tr ur vr:aW}(hh:dh A)(B:cA U mg mb)(I:dQ mg mb)(hT:gi U)(T1:C_ U lg ex gen gp)(p:PL H U (bg jo) J aJ bq bB G ((bl,kz ws)::S) bw [] s)(hG:km (gR m1 m2 l1 l2 gp rr bl gen.length) G)(hL:∀y∈[(l1,br [] n1),(l2,br [] n2),(m1,nS "list.append" (.ref l1)),(m2,nS "list.append" (.ref l2))],y∈bw)(h12:l2≠l1)(hm2:m2≠l1)(hw:lX ws)(dM:ws.length<=100)(hr:(rr,mI gen.length tr ur vr)∈S)(hLx:∀y∈Lx,y∈bw/\y.1≠l1/\y.1≠l2)(kk:∀Y Oq k1 k2,(∀y∈S,y.1≠Oq)->bl≠Oq->PL H U (bg jo) J aJ bq bB [(86,0,.ptr (.ref l2)),(85,0,.ptr (.ref l1))] ((Oq,kz ((gT lg ex gen (ws++cb gen.length 0) ws.length).drop ws.length))::(bl,kz ws)::S) ((l1,br [.ref bl] k1)::(l2,br [.ref Oq] k2)::Lx) [] Y->C A (aU rest J) Y Q):
 C A (aU (bc Sn 1::bc Sn 2::bc Sn 3::bc Sn 4::bc Sn 5::bc Sn 6::rest) J) s Q:=by
 have hg1:=T1.2.2.2.2.2.2.2.2;have wA:=p.inter Z;show XJ (x:=94) (k:=0) (m:=m1) (l:=l1) (n:=n1) (vs:=[]) hT (p.less hG) (lU.of bz) Z (hL (m1,nS "list.append" (.ref l1)) bC) (hL (l1,br [] n1) bC) (fg _) Z wA Z λW ps=>Lake.T.wY (uh ps.er (x:=93) Z)<|ct _ ps (λs2 n1' p2=>?_);have p2:=p2.adk (L':=(l1,br [.ref bl] n1')::(l2,br [] n2)::(m2,nS "list.append" (.ref l2))::Lx) λy hy=>zM hy (ew _ (by show bJ.mpr Z)) λhy=>zM hy (dc _ (gq.mpr ⟨hL (l2,br [] n2) bC,by simpa using h12⟩)) λhy=>zM hy (dc _ (gq.mpr ⟨hL (m2,nS "list.append" (.ref l2)) bC,by simpa using hm2⟩)) λhy=>hb (hLx y hy) λq1 q2 q3=>(dc _ (gq.mpr ⟨q1,by simpa using q2⟩));show bh p2.open λW2 q2 W_=>PS.asg (x:=102) (av:=aT ws.length) q2 (uH (a:=bl) (q2.base B) I Z (q2.get (cQ ..)) (q2.sg _ (cQ ..)).2.1 hw (aq 93 Z) Z) Z Z v7 Z λs3 q3=>X_ (x:=103) (y:=93) (k:=0) (a:=bl) q3 B I Z Z (cQ ..) hw Z v7 Z λs4 eb heb q4=>have aiB:lX (ws++cb gen.length 0):=hw.app fF jP;b_ (d:=eb) (ns:=ws) (ms:=cb gen.length 0) (S':=(eb,kz (ws++cb gen.length 0))::(bl,kz ws)::S) hh q4 (aq 103 Z) (PR (n:=0) (k:=gen.length) (q4.base B).top (pn (n:=0) (q4.base B).top (aR 0) Z) (aq 99 Z) au)
  (cQ ..) fF jP Z Z Z wA (λy hy=>?_) λs5 q5=>?_
 .rcases bu.mp hy with e|e
  .left;rw[e];show⟨rfl,rfl⟩
  .show .inr ⟨heb y e,bZ _ e⟩
 show afV (m1:=m1) (m2:=m2) (l1:=l1) (l2:=l2) (nd:=ws.length) (S:=(bl,kz ws)::S) hh B I T1 q5 (km.rf bz bz) aiB fF (bZ _ hr) heb λs6 q6=>XJ (x:=95) (k:=0) (m:=m2) (l:=l2) (n:=n2) (vs:=[]) hT (W_ _ _ _ _ q6) (lU.of bz) Z bC bC (fg _) Z wA Z λW7 ps7=>Lake.T.wz (H9 (a:=eb) (k:=ws.length) (ps7.get (cQ ..)) (ps7.sg _ (cQ ..)).2.1 (XP (lg:=lg) (gen:=gen) T1.2.2.2.2.2.2.1 aiB ws.length) (aq 103 Z) (aq 102 Z) (by rw[(xt (lg:=lg) (ex:=ex) (gen:=gen) (eb:=ws++cb gen.length 0) ws.length)];simp) ps7.er) λv s8 Κ=>oU Κ λe8 b2 hv hb2 akY=>hv▸?_;have p8:=ps7.grown hT e8.pe (bw:=[(b2,kz ((gT lg ex gen (ws++cb gen.length 0) ws.length).drop ws.length))]) λy hy=>by apply jS hy;show gQ hb2 akY Z
 have nb2:∀y∈(eb,kz (gT lg ex gen (ws++cb gen.length 0) ws.length))::(bl,kz ws)::S,y.1≠b2:=λy hy q=>by have:=(ps7.sg y hy).1;have this:=hb2▸q▸this;ext
 show ct _ p8<|λs9 n2' p9=>kk s9 b2 n1' n2' (λy hy=>nb2 y (bZ _ (bZ _ hy))) (nb2 _ (bZ _ (cQ ..))) (((p9.aiA λy hy=>?_).adk λy hy=>zM hy (dc _ (gq.mpr ⟨by ext,by simpa using eO h12⟩)) λhy=>zM hy (ew _ (bJ.mpr Z)) λhy=>hb (hLx y hy) λq1 q2 q3=>(dc _ (gq.mpr ⟨by ext,by simpa using q3⟩))).less (km.rf bz bz));rcases bu.mp hy with e|e
 .rw [e];lia
 .show ew _ (bZ _ e)
end
section
variable{Q:b8->ae->Prop}
inductive aeV(U:aN)(L:c9)(J:cg)(aJ:ae)(bq bB:List ab)(A:ck)(rest:List bT)(Q:b8->ae->Prop)(I:ab)(o1:bj)(s2:ae):Prop
 |mk (τ':List ab) (G2:ie) (S2 L2:Sg) (Gs2:List (Nat×eS)) (p:PL τ' U L J aJ bq bB G2 S2 L2 Gs2 s2) (hG:lU G2) (hI:(I,o1)∈L2)
  (k:∀s3,PL τ' U L J aJ bq bB G2 S2 (L2.filter λy=>y.1 != I) Gs2 s3->C A (aU rest J) s3 Q)
def Y_(H:List ab)(U:aN)(L:c9)(J:cg)(aJ:ae)(bq bB:List ab)(A:ck)(G:ie)(S bw:Sg)(Gs:List (Nat×eS))(x:Nat)(av:AV)(o1:bj)(body rest:List bT)(Q:b8->ae->Prop):Prop:=
 ∀s1 I,(∀z∈bw,z.1≠I)->(∀z∈S,z.1≠I)->PL H U L J aJ bq bB (jl G x 0 av) S ((I,o1)::bw) Gs s1->C A (aU body J) s1 (λf s2=>f= .next/\aeV U L J aJ bq bB A rest Q I o1 s2)
theorem PL.XR{o0 o1:bj}(hT:gi U)(p:PL H U L J aJ bq bB G S bw Gs s)(hG:lU G)(hm0:kh o0=N)(hm1:kh o1=N)(dH:bW G x=N)(E:Hx L x)(hs:Fs iter J)(mk:∀P:aa->ae->Prop,(∀I s2,dz [] s s2->s.heap.get? I=ai->s2.heap.get? I=O o0->P (.ref I) s2)->T A (aZ iter J) s (λxv s1=>T A (gm xv) s1 P))(nx:∀(Y:ae) I (P:Option aa->ae->Prop),Y.heap.get? I=O o0->hx H U Y.heap->(∀v h' tk,bR h' av v []->h'.get? I=O o1->(∀b o,b≠I->Y.heap.get? b=O o->h'.get? b=O o)->P (O v) {Y with heap:=h',toks:=tk})->T A (gX (.ref I)) Y P)(en:∀(Y:ae) I τ' (P:Option aa->ae->Prop),Y.heap.get? I=O o1->hx τ' U Y.heap->(∀h' tk,(∀b o,b≠I->Y.heap.get? b=O o->h'.get? b=O o)->P ai {Y with heap:=h',toks:=tk})->T A (gX (.ref I)) Y P)(D:Y_ H U L J aJ bq bB A G S bw Gs x av o1 body rest Q):
 C A (aU (.For (.Name (NM x) px) iter body [] pos::rest) J) s Q:=by
 show ip (RQ hs ((mk _ λI s2 e2 hIn hI=>?_).wz λxv s1 q=>T.wc q));have ke:∀b o,s.heap.get? b=O o->s2.heap.get? b=O o:=e2.keeps.elim λh' q=>q.elim λtk q=>q.1▸q.2;have p2:PL H U L J aJ bq bB G S ((I,o0)::bw) Gs s2:=p.move hG hT (X:=[]) (λb o _ e=>ke b o e) e2.os e2.drawn (e2.gens▸p.mod.gens) (zo) (λy hy=>by
  rcases bu.mp hy with q|q
  .show q▸⟨.inr hIn,hI⟩
  .show ⟨.inl (bG.mpr (ct y q Z)),ke _ _ (p.getL q)⟩) (λy hy=>by show e2.gens.symm▸?_;show p.gk y hy)
 have h_:∀z∈bw,z.1≠I:=λz hz q=>by have:=p.getL hz;have this:=hIn▸q▸this;ext
 have hSI:∀z∈S,z.1≠I:=λz hz q=>by have:=(p.sg z hz).1;have this:=hIn▸q▸this;ext
 show Ϙ (λk Y=>(k=2/\Y=s2)\/(k=1/\aeV U L J aJ bq bB A rest Q I o1 Y)) ?_ 2 (.inl ⟨rfl,rfl⟩) (λ_=>rfl);rintro k Y P1 P2 P3 q0 q1 q2 q3 (⟨rfl,rfl⟩|⟨rfl,τ3,G2,S2,L2,Gs2,p3,hG2,hI2,hk⟩)
 .show T.wc (nx Y I P1 hI p2.ps.ext λv h' tk hv hI3 hk3=>?_);have p3:PL H U L J aJ bq bB G S ((I,o1)::bw) Gs {Y with heap:=h',toks:=tk}:=p2.move hG hT (X:=[I]) (λb o D e=>hk3 b o (by simpa using D) e) Z Z p2.mod.gens (λb D=>by show(bJ.mp D)▸?_;show ct o0 au hm0) (λy hy=>by
   rcases bu.mp hy with q|q
   .show q▸⟨.inl (AK Z),hI3⟩
   .show ⟨.inl (bG.mpr (ct y (bZ _ q) Z)),hk3 _ _ (h_ y q) (p2.getL (.tail _ q))⟩) p2.gk
  show q1 _ _<|T.wz (jD (p3.store E dH hv)) λ_ s4 p4=>q2 _<|(D s4 I h_ hSI p4).mono λf s5 Κ=>eX Κ λhf q=>hf▸q3 1 _ bA (.inr ⟨rfl,q⟩)
 .show T.wc<|en Y I τ3 P1 (p3.getL hI2) p3.ps.ext λh' tk hk3=>q0 _ (eZ (hk _ (p3.move hG2 hT (X:=[I]) (λb o D e=>hk3 b o (by simpa using D) e) Z Z p3.mod.gens (λb D=>by show(bJ.mp D)▸?_;show ct o1 hI2 hm1) (λy hy=>?_) p3.gk)));show eX (gq.mp hy) λq1 q2=>⟨.inl (bG.mpr (ct y q1 Z)),hk3 _ _ (by simpa using q2) (p3.getL q1)⟩
end
noncomputable def XS(a n:Int):bj:={cls:=ak "range_iterator",dict:=ai,data:=bH #[dN a,dN n,dN 1],slots:=#[]}
section
variable{Q:b8->ae->Prop}
theorem Zs{py:aY}{ta:ab}{m:Nat}(hh:dh A)(hT:gi U)(p:PL H U L J aJ bq bB G S bw Gs s)(hG:lU G)(hy:cq G y=O (k,aX (R ta)))(ht:U.get? ta=O (cU [v] m))(htT:ta∉bY)(dH:bW G x=N)(E:Hx L x)(hs:∀x,Eg (ar (NM y) py) J x=pure x)(D:Y_ H U L J aJ bq bB A G S bw Gs x (aX v) (si ta 1) body rest Q):
 C A (aU (kZ (ar (NM x) px) (ar (NM y) py) body [] pos::rest) J) s Q:=by
 show p.XR (o0:=si ta 0) hT hG Z Z dH E hs (λP hP=>T.Dq (uh p.er hy) ?_) (λY I P hI x' hP=>Hw (x:=v) hI (nQ (x'.keep _ _ htT ht)) Z λh' h1 h2=>hP _ _ _ (.iq _) h1 λb o D e=>h2.extBut b o D e) (λY I τ' P hI x' hP=>J2 hh (kF _ hI Z Z) (nQ (x'.keep _ _ htT ht)) Z λh' he=>hP _ _ λb o D e=>he b o D e) D;show J8 (nQ (p.ps.ext.keep _ _ htT ht)) (hP _ _ ⟨.push _ _,rfl,rfl,rfl⟩ (bF _) (bK _ Z))
theorem NK{cp:aY}(hh:dh A)(B:cA U mg mb)(I0:dQ mg mb)(hT:gi U)(p:PL H U L J aJ bq bB G S bw Gs s)(hG:lU G)(kM:Gi L "range")(he:V [] s.heap A L J G e (aT 1) af)(hse:cG e=af)(dH:bW G x=N)(E:Hx L x)(hs:∀x,Eg (bI (ar (aC "range") np) [e] [] cp) J x=pure x)(D:Y_ H U L J aJ bq bB A G S bw Gs x (aT 0) (XS 1 0) body rest Q):
 C A (aU (kZ (ar (NM x) px) (bI (ar (aC "range") np) [e] [] cp) body [] pos::rest) J) s Q:=by
 show p.XR (o0:=XS 0 1) hT hG Z Z dH E hs (λP hP=>?_) (λY I P hI x' hP=>Tx hI aK λh' h1 h2=>hP _ _ _ (.ofInt 0 _) h1 λb o D e=>h2.extBut b o D e) (λY I τ' P hI x' hP=>TA hh hI aK λh' he=>hP _ _ λb o D e=>he b o D e) D;show mB ("range") ("range") (p.ps.base B) I0 aK kM (rfl) (fJ.cons he fJ.nil hse) (by simp[dW,hse]) p.erE λvs aD F e1 V1=>?_;apply nH V1;show λt=>sG (Aq (a:=0) (b:=1) (c:=1) (t:=aD.toks) (u:=t) (v:=aD.toks+1) (bK _ Z) (rfl) (hP _ _ (e1.trans ⟨(hx.push _ _).trans (.push _ _),rfl,rfl,rfl⟩) ?_ (bK _ Z)));show e1.ext.new ((show hx [] aD.heap _ from .push _ _).new (bF _))
end
section
variable{Q:b8->ae->Prop}
theorem adm{i:aw}{f:Int->Option aa}{k:Int}(hm:U.IntMap d f)(hd:d∉bY)(hv:f k=O v)(he:V H U A L J G e (aX (R d)) af)(hi:V H U A L J G i (a9 k) af)(r8:j8 i=af):
 V H U A L J G (dk e i pos) (aX v) fr:=λs r=>by
 show rF<|(he r).κ λaD e1=>(hi (r.ext e1.ext)).CE λt aQ e2=>have hm2:aQ.heap.IntMap d f:=eY hm λo es ep h1 h2=>Bt o es ep ((r.base.trans (e1.trans e2).ext).keep d o hd h1) h2;vi hm2.typeIs slot_dict_getitem.lookup ?_ (uA r8 _ _);show wpAny_getItem_intMap hm2 hv (oX [] ((e1.trans e2).trans (.toks _ _)) (.iq _) d9)
end
section
variable{Q:b8->ae->Prop}{P2:bS}{t2:Nat->aW}{b:ab}
theorem adn{lg ex:LN}{gp ta ei:ab}{f5:Int->Option aa}{bt m:Nat}(hh:dh A)(bM:A.depth<800)(B:cA U mg mb)(I:dQ mg mb)(I2:tZ mg mb)(X:(iC P t f).In U)(dA:acZ U f)(Ng:Eb U P2 t2 fd)(hT:gi U)(T1:C_ U lg ex gen gp)(o9:1979∉H)(kr:1979∈τ')(nN:∀b∈H,b∈τ')(hg1:mg (aC "GALIOS_LOG")=O (.ref 1888))(hg2:mg (aC "GALIOS_EXP")=O (.ref 1890))(hg3:mg (aC "GEN_POLY")=O (.ref 1868))(hm5:U.IntMap 1868 f5)(hf5:f5 (aj gen.length)=O (.ref gp))(ht:U.get? ta=O (cU [.ref ei] m))(htT:ta∉bY)(hE:Ci U ei [1,bt,n+1])(hbt:bt=n+1+gen.length)(hn:lX ns)(dM:ns.length=8 * (n+1))(Ag:∀x∈ns,x<2)(hw:lX (wordsOf ns (n+1)))(Ib:n+1<=100)(p:PS H U (bg jo) J aJ bq bB (qF [84,82] [.ptr (.ref ta),.ptr (.ref b)]) S s)(yX:∀y∈jj b dx d ns,y∈S)(kk:∀Y v l1 l2 bl Oq k1 k2 rr o,PL τ' U (bg jo) J aJ bq bB [(86,0,.ptr (.ref l2)),(85,0,.ptr (.ref l1))] ((Oq,kz ((gT lg ex gen (wordsOf ns (n+1)++cb gen.length 0) (wordsOf ns (n+1)).length).drop (wordsOf ns (n+1)).length))::(bl,kz (wordsOf ns (n+1)))::(rr,o)::S) [(l1,br [.ref bl] k1),(l2,br [.ref Oq] k2)] [] Y->
 bR Y.heap (.tuple [.ptr (.ref l1),.ptr (.ref l2)]) v []->Q (.ret v) Y):
 C A (aU (bo jo) J) s Q:=by
 change C _ (aU [bc (bo jo) 0,bc (bo jo) 1,bc (bo jo) 2,bc (bo jo) 3,bc (bo jo) 4,bc (bo jo) 5,bc (bo jo) 6,bc (bo jo) 7,bc (bo jo) 8] J) s Q;show p.s1 (S1.m (Aa Z)) λs1 p1=>?_;show aid (k1:=0) (n:=n) hh B I X dA hT au o9 kr nN p1 Z Z yX hn dM Ag λs2 a g aS Ia cl oa oC oI Sk gs DK haI hmC hmI Wt p2=>?_;show aif hh hT p2 (lU.of bz) Z Z λs3 l1 l2 h12 aiC p3=>?_;show Qe (x:=94) (y:=85) (k:=0) (l:=l1) (vs:=[]) (n:=0) hT p3 (lU.of bz) Z (cQ ..) Z v7 Z λs4 m1 hm1 p4=>?_;show Qe (x:=95) (y:=86) (k:=0) (l:=l2) (vs:=[]) (n:=0) hT p4 (lU.of bz) Z (bZ _ (bZ _ (cQ ..))) Z v7 Z λs5 m2 hm2 p5=>?_;show bh p5.open λW5 q5 aiD=>?_;show PS.asg (x:=96) (av:=.ptr (.ref 1888)) q5 (Ca (q5.base B) Z hg1 (by decide+kernel)) Z Z v7 Z λs6 q6=>?_;show PS.asg (x:=97) (av:=.ptr (.ref 1890)) q6 (Ca (q6.base B) Z hg2 (by decide+kernel)) Z Z v7 Z λs7 q7=>?_;have p7:=aiD _ _ _ _ q7;show Zs (x:=98) (y:=84) (k:=0) (v:=.ref ei) hh hT p7 (lU.of bz) Z ht htT Z v7 (λ_=>rfl) λs8 I8 h_ hSI p8=>?_;change C _ (aU [bc mbF 0,bc mbF 1,bc mbF 2,bc mbF 3] J) s8 _;show bh p8.open λW8 q8 Z_=>?_;show PS.asg (x:=99) (av:=aT gen.length) q8 (V.to (lQ (x:=bt) (y:=n+1) (Sm (x:=98) au (q8.base B) I I2 (Ng.ext q8.ext) (hE.ext q8.ext) Z) (JL (x:=98) au (q8.base B) I I2 (Ng.ext q8.ext) (hE.ext q8.ext) Z) au) (by rw[hbt,rp])) Z Z v7 Z λs9 q9=>?_;have hm9:s9.heap.IntMap 1868 f5:=eY hm5 λo es ep h1 h2=>Bt o es ep (q9.ext.keep _ o aK h1) h2;show PS.asg (x:=100) (av:=.ptr (.ref gp)) q9 (adm hm9 aK hf5 (Ca (q9.base B) Z hg3 (by decide+kernel)) (aq 99 Z) Z) Z Z v7 Z λs10 q10=>?_;show xh 101 gen.length q10 B I Z (aq 99 Z) Z Z v7 Z λrr tr ur vr s11 q11=>?_;have p11:=Z_ _ _ _ _ q11;show NK (x:=14) hh B I hT p11 (lU.of bz) Z (Qg (x:=98) au (p11.ps.base B) I I2 (Ng.ext p11.ps.ext) (hE.ext p11.ps.ext) Z) Z bz v7 (λ_=>rfl) λs12 I12 Sw alS p12=>?_;change C _ (aU (bc Sn 0::bc Sn 1::bc Sn 2::bc Sn 3::bc Sn 4::bc Sn 5::bc Sn 6::[]) J) s12 _;show V_ (L':=[(I12,XS 1 0),(I8,si ta 1),(m2,nS "list.append" (.ref l2)),(m1,nS "list.append" (.ref l1)),(l1,jq []),(l2,jq [])]) (k:=0) (k2:=0) (i:=ei) (bt:=bt) (n:=n+1) hh au B I I2 Ng hT p12 (lU.of bz) bz bz bz hE Ib hw Wt (λy hy=>?_) (λy hy=>bZ _ (yX y hy)) bC DK haI hmC hmI (λy hy=>?_) λs13 bl alT alU p13=>?_
 .apply tH hy<;>ext
 .have hC8:=aiC (aS,oC) bC;have hI8:=aiC (Ia,oI) bC;apply ag6 hy
  .show ⟨by ext,λq=>Sw (aS,oC) bC q.symm,λq=>Sw (Ia,oI) bC q.symm⟩
  .show ⟨by ext,λq=>h_ (aS,oC) bC q.symm,λq=>h_ (Ia,oI) bC q.symm⟩
  .show ⟨by ext,λq=>hm2 (aS,oC) bC q.symm,λq=>hm2 (Ia,oI) bC q.symm⟩
  .show ⟨by ext,λq=>hm1 (aS,oC) bC q.symm,λq=>hm1 (Ia,oI) bC q.symm⟩
  .show ⟨by ext,λq=>hC8.1 q.symm,λq=>hI8.1 q.symm⟩
  .show ⟨by ext,λq=>hC8.2 q.symm,λq=>hI8.2 q.symm⟩
 have WX:(wordsOf ns (n+1)).length<=100:=by simp[wordsOf];lia
 show adl (m1:=m1) (m2:=m2) (l1:=l1) (l2:=l2) (gp:=gp) (rr:=rr) (n1:=0) (n2:=0) (Lx:=[(I12,XS 1 0),(I8,si ta 1)]) (tr:=tr) (ur:=ur) (vr:=vr) hh B I hT T1 p13 (km.rf bz bz) (λy hy=>?_) (eO h12) (λq=>hm2 (l1,jq []) bC q.symm) hw WX (cQ ..) (λy hy=>?_) λs14 Oq k1 k2 he1 he2 p14=>?_
 .apply tH hy
  .show bZ _ (bZ _ (bZ _ (bZ _ (cQ ..))))
  .show bZ _ (bZ _ (bZ _ (bZ _ (bZ _ (cQ ..)))))
  .ext
  .ext
 .apply rX hy
  .show ⟨by ext,λq=>Sw (l1,jq []) bC q.symm,λq=>Sw (l2,jq []) bC q.symm⟩
  .show ⟨by ext,λq=>h_ (l1,jq []) bC q.symm,λq=>h_ (l2,jq []) bC q.symm⟩
 have e1:l1≠I12:=λq=>Sw (l1,jq []) bC q;have e2:l2≠I12:=λq=>Sw (l2,jq []) bC q;have e3:l1≠I8:=λq=>h_ (l1,jq []) bC q;have e4:l2≠I8:=λq=>h_ (l2,jq []) bC q;have e5:I8≠I12:=λq=>Sw (I8,si ta 1) bC q;show eZ ⟨rfl,_,_,_,_,_,p14,lU.of Z,by ext,λs15 p15=>eZ ⟨rfl,_,_,_,_,_,p15,lU.of Z,by simp[e5],λs16 p16=>?_⟩⟩;have p17:=p16.adk (L':=[(l1,br [.ref bl] k1),(l2,br [.ref Oq] k2)]) λy hy=>by
  apply rX hy
  .simp [e1,e3]
  .simp [e2,e4]
 show bh p17.open λW17 q17 afZ=>?_;show q17.afM (ui (avs:=[.ptr (.ref l1),.ptr (.ref l2)]) (q17.base B).top (fJ.cons (aq 85 Z) (fJ.cons (aq 86 Z) fJ.nil Z) Z) Z Z) Z λs18 v q18 hv=>kk s18 v l1 l2 bl Oq k1 k2 rr _ (afZ _ _ _ _ q18) hv
end
namespace iO
theorem Sx(p:Nat)(h:p<256):II p=(2 * p) ^^^ (285 * (p / 128)):=by
 delta II
 split
 .rw [Nat.div_eq_of_lt (by assumption)];simp
 .rw [show p / 128=1 by lia]
theorem ado{a b:Nat}(ha:a<256)(D:b<256):II (a ^^^ b)=II a ^^^ II b:=by
 rw[Sx _ ha,Sx _ D,Sx _ (iQ ha D)];have e1:2 * (a ^^^ b)=(2 * a) ^^^ (2 * b):=by have:=Nat.shiftLeft_xor_distrib (i:=1) (a:=a) (b:=b);simp only[Nat.shiftLeft_eq]at this;rw[vd 2,vd 2,vd 2];show this
 have e2:(a ^^^ b) / 128=(a / 128) ^^^ (b / 128):=by have:=Nat.shiftRight_xor_distrib (i:=7) (a:=a) (b:=b);simpa only[Nat.shiftRight_eq_div_pow] using this
 show e1.symm▸e2.symm▸?_;have q1:a / 128=0\/a / 128=1:=by lia
 have q2:b / 128=0\/b / 128=1:=by lia
 rcases q1 with q1|q1<;>rcases q2 with q2|q2<;>show q1.symm▸q2.symm▸?_
 .simp
 .rw [E8,gy,ix,Fb,rD]
 .rw [E8,gy,gy,Fb];ac_rfl
 .have:∀x y:Nat,x ^^^ 285 * 1 ^^^ (y ^^^ 285 * 1)=(285 ^^^ 285) ^^^ (x ^^^ y):=λx y=>by rw[Fb];ac_rfl
  rw[this,lO,lO,E8,ix,gy]
theorem JN:∀n,pw n≠0:=by
 intro xX;induction xX with
 |zero=>decide
 |succ n iH=>
  have:∀p,p<256->p≠0->II p≠0:=by decide
  show this _ (ON n) (iH)
theorem af0:pw 255=1:=by rfl
theorem Sy:∀n,pw (n+255)=pw n:=by
 intro xX;induction xX with
 |zero=>show af0
 |succ n iH=>show(?_:II (pw (n+255))=II (pw n));show congrArg _ (iH)
theorem uu(n:Nat):pw (n % 255)=pw n:=by
 have:∀k r,pw (r+255 * k)=pw r:=by
  intro k;induction k with
  |zero=>intro r;rfl
  |succ k ih=>intro r;rw[show r+255 * (k+1)=r+255 * k+255 by show UP.mpr Z,Sy,ih]
 conv=>rhs;rw[<-Nat.mod_add_div n 255]
 show(this _ _).symm
theorem NN(n:Nat):FT (n % 255)=pw n:=by rw[GJ (mY _ bA),uu]
theorem y0:∀a,a<256->a≠0->pw (lg a)=a:=by decide+kernel
theorem Zt:∀k,k<255->lg (pw k)=k:=by decide+kernel
theorem DO(n:Nat):lg (pw n)=n % 255:=by rw[<-uu,Zt _ (mY _ bA)]
theorem uv{a b:Nat}(ha:a≠0)(D:b≠0):tm a b=pw (lg a+lg b):=by
 delta tm
 rw[if_neg (not_or_intro ha D),NN]
theorem uM(a:Nat):tm a 0=0:=by simp[tm]
theorem js(a:Nat):tm 0 a=0:=by rfl
theorem fN(a b:Nat):tm a b=tm b a:=by
 delta tm
 rw[jJ];simp only[Or.comm (a:=a=0)]
theorem Ic{a b:Nat}(ha:a≠0)(D:b≠0):tm a b≠0:=by rw[uv ha D];show JN _
theorem Qn(a b:Nat):tm (pw a) (pw b)=pw (a+b):=by rw[uv (JN a) (JN b),DO,DO,<-uu,<-UU,uu]
theorem di(a b c:Nat):tm (tm a b) c=tm a (tm b c):=by
 by_cases ha:a=0
 .subst ha;rw[js,js,js]
 by_cases D:b=0
 .subst D;rw[uM,js,uM]
 by_cases hc:c=0
 .subst hc;rw[uM,uM,uM]
 rw[uv (Ic ha D) hc,uv ha (Ic D hc),uv ha D,uv D hc,DO,DO,<-uu,<-uu (lg a+_)];rw[Nat.mod_add_mod,LA,lM]
theorem Qo{a:Nat}(h:a<256):tm 1 a=a:=by
 by_cases ha:a=0
 .subst ha;rfl
 .rw [uv (ue Z) ha,show lg 1=0 by rfl,ql,y0 a h ha]
def Ie:Nat->Nat->Nat
 | 0,b=>b
 |k+1,b=>II (Ie k b)
theorem XT:∀k {b},b<256->Ie k b<256:=by
 intro xX;induction xX with
 |zero=>intro _ h;show h
 |succ k iH=>intro _ h;show Rv (iH h)
theorem aaa:∀k {a b},a<256->b<256->Ie k (a ^^^ b)=Ie k a ^^^ Ie k b:=by
 intro xX;induction xX with
 |zero=>intro _ _ _ _;show rfl
 |succ k iH=>intro _ _ ha D;show(?_:II (Ie k _)=II _ ^^^ II _);rw[iH ha D,ado (XT k ha) (XT k D)]
theorem adp:∀k j,Ie k (pw j)=pw (k+j):=by
 intro xX;induction xX with
 |zero=>intro j;rw[ql];rfl
 |succ k iH=>intro j;change II (Ie k _)=_;rw[iH j,Nat.succ_add];rfl
theorem af1:∀k,Ie k 0=0:=by
 intro xX;induction xX with
 |zero=>show rfl
 |succ k iH=>change II (Ie k 0)=0;show(iH).symm▸?_;rfl
theorem NO{a b:Nat}(ha:a≠0)(D:b<256):tm a b=Ie (lg a) b:=by
 by_cases h:b=0
 .subst h;rw[uM,af1]
 .rw [uv ha h]
  conv=>rhs;rw[<-y0 b D h]
  rw[adp]
theorem vV(a:Nat){b:Nat}(D:b<256)(hc:c<256):tm a (b ^^^ c)=tm a b ^^^ tm a c:=by
 by_cases ha:a=0
 .subst ha;rw[js,js,js];rfl
 .rw [NO ha D,NO ha hc,NO ha (iQ D hc),aaa _ D hc]
theorem qz(a:Nat){b:Nat}(D:b<256)(hc:c<256):tm (b ^^^ c) a=tm b a ^^^ tm c a:=by rw[fN,vV a D hc,fN a b,fN a c]
theorem ua{a b:Nat}(h:a ^^^ b=0):a=b:=by have:=congrArg (· ^^^ b) h;simpa[rD] using this
theorem C7{a b:Nat}(h:tm a b=0)(ha:a≠0):b=0:=Bg λD=>Ic ha D h
theorem XU{a d:Nat}(ha:a<256)(ha0:a≠0)(hd:d≠0):tm d (FT ((lg a+255 - lg d) % 255))=a:=by rw[NN,uv hd (JN _),DO,<-uu,LA];have:=WT d;rw[show lg d+(lg a+255 - lg d)=lg a+255 by lia,uu,Sy,y0 a ha ha0]
theorem Zu{a b:Nat}(ha:a≠0)(D:b<256)(hc:c<256)(h:tm a b=tm a c):b=c:=by
 have:tm a (b ^^^ c)=0:=by rw[vV a D hc,h,lO]
 show ua (C7 this ha)
theorem adq{e d:Nat}(he:e<256)(hd:d≠0)(h0:e≠0):FT ((lg (tm d e)+255 - lg d) % 255)=e:=
 Zu hd CN he (XU (eW _ _) (Ic hd h0) hd)
def pN(x:Nat):Nat->Nat
 | 0=>1
 |k+1=>tm x (pN x k)
theorem aiE(x k:Nat):pN x k<256:=by
 cases k with
 |zero=>show(by decide:1<256)
 |succ k=>show eW _ _
theorem aiF(h:x≠0):∀k,pN x k≠0:=by
 intro xX;induction xX with
 |zero=>show Nat.one_ne_zero
 |succ k iH=>show Ic h (iH)
theorem aab(x a:Nat):∀b,pN x (a+b)=tm (pN x a) (pN x b):=by
 intro xX;induction xX with
 |zero=>show(?_:pN x a=tm (pN x a) 1);rw[fN,Qo (aiE _ _)]
 |succ b iH=>show(?_:tm x (pN x (a+b))=tm (pN x a) (tm x (pN x b)));rw[iH,<-di,<-di,fN x]
theorem aac(a:Nat):∀b,pN (pw a) b=pw (a * b):=by
 intro xX;induction xX with
 |zero=>show rfl
 |succ b iH=>change tm (pw a) (pN (pw a) b)=_;rw[iH,Qn,LB,jJ]
noncomputable def sx{α:Type}(l:List α)(f:α->Nat):Nat:=l.foldr (λa s=>f a ^^^ s) 0
section
variable{β:Type}{l:List α}{m:List β}{f g:α->Nat}
theorem Ig:sx [] f=0:=rfl
theorem fI{a:α}:sx (a::l) f=f a ^^^ sx l f:=rfl
theorem aad{l':List α}:sx (l++l') f=sx l f ^^^ sx l' f:=by
 induction l with
 |nil=>rw[yh,Ig,ix]
 |cons a l ih=>rw[ET,fI,fI,ih,rD]
theorem dK(h:∀a∈l,f a=g a):sx l f=sx l g:=by
 induction l with
 |nil=>rfl
 |cons a l ih=>rw[fI,fI,h a bC,ih λb D=>h b bC]
theorem aiG(h:∀a∈l,f a<256):sx l f<256:=by
 induction l with
 |nil=>show Nat.zero_lt_succ _
 |cons a l ih=>show iQ (h a bC) (ih λb D=>h b bC)
theorem Co(h:∀a∈l,f a=0):sx l f=0:=by
 induction l with
 |nil=>rfl
 |cons a l ih=>show fI.symm▸(h a bC).symm▸(ih λb D=>h b bC).symm▸?_;rfl
theorem Ai:sx l (λa=>f a ^^^ g a)=sx l f ^^^ sx l g:=by
 induction l with
 |nil=>simp[Ig]
 |cons a l ih=>rw[fI,fI,fI,ih];ac_rfl
theorem ub(a:Nat)(h:∀x∈l,f x<256):tm a (sx l f)=sx l λx=>tm a (f x):=by
 induction l with
 |nil=>show uM a
 |cons b l ih=>rw[fI,fI,vV a (h b bC) (aiG λx E=>h x bC),ih λx E=>h x bC]
theorem aae(a:Nat)(h:∀x∈l,f x<256):tm (sx l f) a=sx l λx=>tm (f x) a:=by rw[fN,ub a h];show dK λx _=>fN _ _
theorem NP{f:α->β->Nat}:sx l (λa=>sx m (f a))=sx m λb=>sx l λa=>f a b:=by
 induction l with
 |nil=>show(Co λ_ _=>rfl).symm
 |cons a l ih=>rw[fI,ih,<-Ai];rfl
theorem aaf{h:β->α}:sx (m.map h) f=sx m λb=>f (h b):=by
 induction m with
 |nil=>rfl
 |cons b m ih=>rw[iJ,fI,fI,ih]
theorem XW(a:Nat):l.foldl (λs x=>s ^^^ f x) a=a ^^^ sx l f:=by
 induction l generalizing a with
 |nil=>show(gy a).symm
 |cons b l ih=>rw[iw,ih,fI,rD]
theorem JO(p:α->Bool)(h:∀a∈l,p a=af->f a=0):sx (l.filter p) f=sx l f:=by
 induction l with
 |nil=>rfl
 |cons a l ih=>have ih:=ih λb D=>h b bC;show boC (p a) (λq=>by rw[EH q,fI,fI,ih]) λq=>by rw[EI (ne_true_of_eq_false q),fI,ih,h a au q,ix]
theorem ads{l':List α}(h:l.Perm l'):sx l f=sx l' f:=by
 induction h with
 |nil=>rfl
 |cons a _ ih=>rw[fI,fI,ih]
 |swap a b l=>dsimp only[fI,fI,fI,fI];ac_rfl
 |trans _ _ h1 h2=>show h1.trans h2
end
theorem lF(n:Nat)(f:Nat->Nat):sx (aI (n+1)) f=sx (aI n) f ^^^ f n:=by rw[sT,aad,fI,Ig,gy]
theorem l6(n:Nat)(f:Nat->Nat):sx (aI (n+1)) f=f 0 ^^^ sx (aI n) (λi=>f (i+1)):=by rw[Uo,fI,aaf]
end iO
namespace iO
theorem akZ{X:Nat->Nat}(hX:∀p,X p<256)(a6:LN):∀(g:Nat->Nat),(∀p∈a6,g p<256)->(∀p∈a6,X p≠0)->a6.Nodup->(∀p∈a6,∀q∈a6,X p=X q->p=q)->
 (∀j,j<a6.length->sx a6 (λp=>tm (g p) (pN (X p) j))=0)->∀p∈a6,g p=0:=by
 induction a6 with
 |nil=>intro _ _ _ _ _ _;show λp hp=>kI hp
 |cons a a6 iH=>
  intro g hg h0 hn hi hs;have wx:=ro.mp hn;have ih:=iH (λp=>tm (g p) (X p ^^^ X a)) (λp _=>eW _ _) (λp hp=>h0 p bC) wx.2 (λp hp q hq=>hi p bC q bC) (λj hj=>by
   have e1:=hs (j+1) jP;have e2:=congrArg (tm (X a)) (hs j jP);rw[uM,ub _ λ_ _=>eW _ _,fI]at e2;dsimp only[fI]at e1;have e3:tm (g a) (pN (X a) (j+1))=tm (X a) (tm (g a) (pN (X a) j)):=by change tm _ (tm _ _)=_;rw[<-di,<-di,fN (g a)]
   rw[e3]at e1;have:sx a6 (λp=>tm (tm (g p) (X p ^^^ X a)) (pN (X p) j))=sx a6 (λp=>tm (g p) (pN (X p) (j+1)) ^^^ tm (X a) (tm (g p) (pN (X p) j))):=dK λp _=>by change _=tm _ (tm _ _) ^^^ _;rw[vV _ (hX _) (hX _),qz _ (eW _ _) (eW _ _),di,di,fN (g p) (tm (X a) _),di,fN (pN _ _) (g p)]
   rw[this,Ai,((ua e1).symm.trans (ua e2)),lO])
  have hE:∀p∈a6,g p=0:=λp hp=>by
   have e:=ih p hp;rw[fN]at e;show C7 e λq=>?_;have:=hi p bC a bC (ua q);cases this
   show wx.1 hp
  have e0:=hs 0 fF;rw[fI,Co λp hp=>by rw[hE p hp,js],gy]at e0;intro p hp;show bf (bu.mp hp) (λa1=>a1▸?_) λh=>?_
  .rw [fN]at e0;show C7 e0 (by change(1:Nat)≠0;decide)
  .show hE p h
def Ih(y:Nat)(l:LN)(a:Nat):Nat:=l.foldl (λwhole part=>tm whole y ^^^ part) a
theorem aag{y:Nat}:∀{l:LN} {a:Nat},a<256->(∀x∈l,x<256)->Ih y l a<256
 | [],_,h,_=>h
 |x::l,_,_,hl=>aag (l:=l) (iQ (eW _ _) (hl x bC)) λz hz=>hl z bC
def qs(x:Nat):LN->Nat->LN
 | [],_=>[]
 |p::r,a=>a::qs x r (tm a x ^^^ p)
theorem aah(x:Nat):∀(l:LN) (a:Nat),(qs x l a).length=l.length
 | [],_=>rfl
 |_::r,_=>congrArg (· +1) (aah x r _)
theorem aiH(x:Nat)(l:LN):∀(a:Nat),a<256->(∀x∈l,x<256)->∀z∈qs x l a,z<256:=by
 induction l with
 |nil=>intro _ _ _;show λz hz=>kI hz
 |cons p r iH=>
  intro a ha hl;show λz hz=>by
   rcases bu.mp hz with rfl|h
   .show ha
   .show iH _ (iQ (eW _ _) (hl p bC)) (λy hy=>hl y bC) z h
theorem Zv(E:x<256)(hy:y<256)(l:LN):∀(a u:Nat),a<256->u<256->(∀z∈l,z<256)->Ih y l (a ^^^ tm (x ^^^ y) u) ^^^ Ih x l a=tm (x ^^^ y) (Ih y (qs x l a) u):=by
 induction l with
 |nil=>intro a u ha hu _;show(?_:a ^^^ tm (x ^^^ y) u ^^^ a=tm (x ^^^ y) u);rw[LD a,rD,lO,gy]
 |cons p r iH=>
  intro a u ha hu hl;show(?_:Ih y r (tm (a ^^^ tm (x ^^^ y) u) y ^^^ p) ^^^ Ih x r (tm a x ^^^ p)=tm (x ^^^ y) (Ih y (qs x r (tm a x ^^^ p)) (tm u y ^^^ a)));show(iH (tm a x ^^^ p) (tm u y ^^^ a) (iQ (eW _ _) (hl p bC)) (iQ (eW _ _) ha) λz hz=>hl z bC)▸?_;congr 2;rw[qz _ ha (eW _ _),vV _ (eW _ _) ha,di,fN (x ^^^ y) a,vV a E hy];have:tm a x ^^^ p ^^^ (tm (x ^^^ y) (tm u y) ^^^ (tm a x ^^^ tm a y))=(tm a x ^^^ tm a x) ^^^ (tm a y ^^^ tm (x ^^^ y) (tm u y) ^^^ p):=by ac_rfl
  rw[this,lO,ix]
theorem aiI(n:Nat):∀(l:LN) (a:Nat),l.length=n->a<256->a≠0->(∀z∈l,z<256)->∀(aM:LN),aM.Nodup->(∀x∈aM,x<256)->(∀x∈aM,Ih x l a=0)->aM.length<=n:=by
 induction n with
 |zero=>
  intro l a hl _ h0 _ aM _ _ hR
  match aM,hR with
  | [],_=>show ey _
  |x::aM,hR=>have:=hR x bC;rw[rj.mp hl]at this;show absurd this h0
 |succ n iH=>
  intro yY;cases yY with
  |nil=>intros;first|ext|(simp at *)
  |cons p r=>
   intro a hl ha h0 D aM hn hRb hR
   match aM,hn,hRb,hR with
   | [],_,_,_=>show fg _
   |x::aM,hn,hRb,hR=>
    have wx:=ro.mp hn;have key:∀y,y<256->Ih y (p::r) a=0->y≠x->Ih y (qs x r (tm a x ^^^ p)) a=0:=λy hy e qE=>by have hs:=Zv (hRb x bC) hy (p::r) a 0 ha bA D;rw[uM,gy,e,hR x bC,lO]at hs;have:=C7 hs.symm λq=>qE (ua q).symm;have e2:Ih y (qs x (p::r) a) 0=Ih y (qs x r (tm a x ^^^ p)) (tm 0 y ^^^ a):=rfl;rw[e2,js,ix]at this;show this
    have:=iH (qs x r (tm a x ^^^ p)) a (by rw[aah];show(by simpa using hl)) ha h0 (aiH x r _ (iQ (eW _ _) (D p bC)) λy hy=>D y bC) aM wx.2 (λy hy=>hRb y bC) λy hy=>
     key y (hRb y bC) (hR y bC) λq=>wx.1 (q▸hy)
    show Nat.le_add_of_sub_le this
theorem y7(l:LN):∀(a:Nat),a<256->(∀z∈l,z<256)->Ih y l a=tm a (pN y l.length) ^^^ sx (aI l.length) λi=>tm (l.getD i 0) (pN y (l.length - 1 - i)):=by
 induction l with
 |nil=>intro a ha _;show(?_:a=tm a 1 ^^^ 0);rw[fN,Qo ha,gy]
 |cons p r iH=>intro a ha hl;have hp:=hl p bC;change Ih y r (tm a y ^^^ p)=_;rw[iH _ (iQ (eW _ _) hp) λz hz=>hl z bC,oF,l6,qz _ (eW _ _) hp,di,rD];congr 1;congr 1;show dK λi hi=>by change _=tm (r.getD i 0) _;rw[show r.length+1 - 1 - (i+1)=r.length - 1 - i by lia]
end iO
namespace iO
theorem Cp(l:LN)(k v i:Nat):(l.set k v).getD i 0=if i=k/\k<l.length then v else l.getD i 0:=by
 simp only[da,EN];by_cases e:k=i
 .subst e;rcases yI (k<l.length) with h|h
  .rw [if_pos Z,if_pos h,if_pos ⟨rfl,h⟩];rfl
  .rw [if_pos Z,if_neg h,if_neg (λq=>h q.2),rl (oH h)]
 .rw [if_neg e,if_neg (λq=>e q.1.symm)]
theorem vW(h:l.length<=i):l.getD i 0=0:=by rw[da,rl h];rfl
theorem jg(h:∀x∈l,x<256)(i:Nat):l.getD i 0<256:=allB_of h i
theorem y8(l:LN)(k i:Nat):(l++cb k 0).getD i 0=l.getD i 0:=by
 simp only[da];rcases mj i l.length with h|h
 .rw [u7 h]
 .rw [yd h,rl h,Um];split<;>rfl
def Dd(s aS:LN)(j:Nat):Nat:=sx (aI aS.length) λi=>tm (aS.getD i 0) (s.getD (j - i) 0)
theorem FX{f:Nat->Nat}{a:Nat}{b:Nat}:a<=b->(∀i,a<=i->f i=0)->sx (aI b) f=sx (aI a) f:=by
 induction b with
 |zero=>intro h _;rw[LF.mp h]
 |succ b iH=>
  intro h hf;rcases mj b a with q|q
  .rw [show a=b+1 by lia]
  .rw [lF,hf b q,gy,iH q hf]
theorem Qp{f:Nat->Nat}(m:Nat):∀(g:Nat),(∀i,i<g->f i=0)->sx (aI (g+m)) f=sx (aI m) λi=>f (g+i)
 | 0,_=>by simp only[ql]
 |g+1,h=>by rw[show g+1+m=(g+m)+1 by show Ls g 1 m,l6,h 0 au,ix,Qp m g λi hi=>h (i+1) au];show dK λi _=>congrArg _ (show g+i+1=g+1+i by lia)
theorem Qq(factor gap:Nat)(old g0:LN)(hl:old.length+gap<=g0.length)(i:Nat):(tS factor gap old g0).getD i 0=g0.getD i 0 ^^^ (if gap<=i/\i - gap<old.length then tm factor (old.getD (i - gap) 0) else 0):=by
 have:∀n,n<=old.length->((aI n).foldl (λg back=>g.set (back+gap) (g.getD (back+gap) 0 ^^^ tm factor (old.getD back 0))) g0).length=g0.length/\
  ((aI n).foldl (λg back=>g.set (back+gap) (g.getD (back+gap) 0 ^^^ tm factor (old.getD back 0))) g0).getD i 0=g0.getD i 0 ^^^ (if gap<=i/\i - gap<n then tm factor (old.getD (i - gap) 0) else 0):=by
  intro n;induction n with
  |zero=>intro _;show⟨rfl,by rw[if_neg fF,gy];rfl⟩
  |succ n ih=>
   intro hn;show eX (ih (rx hn)) λh1 h2=>sT.symm▸qi.symm▸⟨by rw[iw,Lc,EU,h1],?_⟩;rw[iw,Lc,Cp,h1];by_cases e:i=n+gap
   .subst e;rw[if_pos ⟨rfl,by lia⟩,h2,if_neg (λq=>gw n (j3 (lN (sV ..).symm) q.2)),if_pos ⟨ry ..,j3 (lN (sV ..)) (ja n)⟩,gy,sV]
   .rw [if_neg (λq=>e q.1),h2];congr 1;show if q:gap<=i/\i - gap<n then by rw[if_pos q,if_pos ⟨q.1,kU q.2⟩] else by rw[if_neg q,if_neg λp=>q ⟨p.1,Nat.lt_of_le_of_ne (mX p.2) λz=>e (by rw[<-z,Lr p.1])⟩]
 show(this old.length (ey _)).2
theorem af2{s aS:LN}{bw:Nat}(h:aS.length<=bw):Dd s aS j=sx (aI bw) λi=>tm (aS.getD i 0) (s.getD (j - i) 0):=
 (FX h λi hi=>by rw[vW hi,js]).symm
theorem adt{s now old:LN}{factor gap:Nat}(hn:∀x∈now,x<256):
 Dd s (tS factor gap old (now++cb (old.length+gap - now.length) 0)) j=Dd s now j ^^^ tm factor (Dd s old (j - gap)):=by
 have dM:(tS factor gap old (now++cb (old.length+gap - now.length) 0)).length=now.length+(old.length+gap - now.length):=by rw[(GS factor gap old _ (λx E=>by show bf (b9.mp E) (λh=>hn x h) λh=>by rw[u9 h];decide)).1,iu,rk]
 have hL:=dM;generalize now.length+(old.length+gap - now.length)=bw at hL
 delta Dd
 show hL.symm▸?_;have e1:sx (aI bw) (λi=>tm ((tS factor gap old (now++cb (old.length+gap - now.length) 0)).getD i 0) (s.getD (j - i) 0))=
  sx (aI bw) (λi=>tm (now.getD i 0) (s.getD (j - i) 0) ^^^ tm (if gap<=i/\i - gap<old.length then tm factor (old.getD (i - gap) 0) else 0) (s.getD (j - i) 0)):=dK λi _=>by
  rw[Qq _ _ _ _ (iu▸rk▸MY),y8,qz _ (jg hn i) (by split<;>first|show eW _ _|decide)]
 rw[e1,Ai];congr 1
 .show (af2 (by rw[<-hL,dM];show iZ ..)).symm
 .rw [FX (by rw[<-hL,dM,jJ gap];show MY:gap+old.length<=bw) (λi hi=>by rw[if_neg au,js]),Qp _ _ (λi hi=>by rw[if_neg au,js]),ub _ λ_ _=>eW _ _];show dK λi hi=>by rw[if_pos ⟨iZ ..,j3 (lN (rp ..)) (dm.mp hi)⟩,rp,di,E9]
theorem adu{now:LN}{turn:Nat}(hl:∀x∈line,x<256)(h0:now.getD 0 0=1)(hn:1<=now.length):vJ line now turn=Dd line now turn:=by
 delta vJ Dd
 rw[XW,aaf];show dG (show∃n,now.length=n+1 from⟨now.length - 1,(Nat.sub_eq_iff_eq_add hn).mp Z⟩) λn e=>?_;rw[e,l6,h0,Qo (jg hl _)];congr 1;show dK λi _=>by rw[jJ 1 i]
structure Src(line:LN)(X f:Nat->Nat)(a6:LN):Prop where
 b:∀x∈line,x<256
 xb:∀p,X p<256
 x0:∀p,X p≠0
 fb:∀p,f p<256
 nd:a6.Nodup
 inj:∀p∈a6,∀q∈a6,X p=X q->p=q
 at_:∀j,j<line.length->line.getD j 0=sx a6 λp=>tm (f p) (pN (X p) j)
def wgt(aS:LN)(X f:Nat->Nat)(size p:Nat):Nat:=tm (f p) (sx (aI aS.length) λi=>tm (aS.getD i 0) (pN (X p) (size - i)))
theorem Src.dd{aS a6:LN}{X f:Nat->Nat}(S:Src line X f a6){size:Nat}(hC:aS.length<=size+1)(h1:size<=j)(h2:j<line.length):Dd line aS j=sx a6 λp=>tm (wgt aS X f size p) (pN (X p) (j - size)):=by
 delta Dd
 have e1:sx (aI aS.length) (λi=>tm (aS.getD i 0) (line.getD (j - i) 0))=sx (aI aS.length) λi=>sx a6 λp=>tm (aS.getD i 0) (tm (f p) (pN (X p) (j - i))):=dK λi hi=>by rw[S.at_ _ au,ub _ λ_ _=>eW _ _]
 rw[e1,NP];show dK λp _=>?_
 delta wgt
 rw[di,aae _ λ_ _=>eW _ _,ub _ λ_ _=>eW _ _];show dK λi hi=>?_;rw[show j - i=(size - i)+(j - size) from(by rw[jJ,Lh h1 (mX (ff (dm.mp hi) hC))]),aab,<-di,fN (aS.getD i 0),di,<-di (aS.getD i 0)]
theorem Src.kill{aS a6:LN}{X f:Nat->Nat}(S:Src line X f a6){size t:Nat}(hC:aS.length<=size+1)(ht:t<=line.length)(hv:size+a6.length<=t)(h:∀j,size<=j->j<t->Dd line aS j=0):∀p∈a6,wgt aS X f size p=0:=
 akZ S.xb a6 _ (λ_ _=>eW _ _) (λp _=>S.x0 p) S.nd S.inj λj hj=>by have:=S.dd hC (j:=size+j) au au;rw[h _ au au,show size+j - size=j by lia]at this;show this.symm
def BMx(line:LN)(v turn:Nat)(st:BM):Prop:=
 OU line turn st/\
 st.now.getD 0 0=1/\
 st.now.length<=st.size+1/\
 (∀j,st.size<=j->j<turn->Dd line st.now j=0)/\
 st.size<=v/\
 st.fault≠0/\
 ∃lo,st.size+lo+st.gap=turn+1/\st.old.length<=lo+1/\((st.size=0/\lo=0/\st.gap=turn+1)\/(st.gap<=turn/\Dd line st.old (turn - st.gap)=st.fault/\∀j,lo<=j->j<turn - st.gap->Dd line st.old j=0))
theorem BMx.step{a6:LN}{X f:Nat->Nat}(S:Src line X f a6){turn:Nat}(ht:turn<line.length){st:BM}(k:BMx line a6.length turn st):BMx line a6.length (turn+1) (ku line st turn):=by
 show jd k λk1 k2 k3 k4 af3=>hb af3 λk5 k6 k7=>?_;have ok':=k1.step S.b;show gC k7 λlo o1 o2 o3=>?_;have adv:vJ line st.now turn=Dd line st.now turn:=adu S.b k2 k1.afo;have hg1:=k1.aj9;by_cases h0:vJ line st.now turn=0
 .have e:ku line st turn={st with gap:=st.gap+1}:=(if_pos h0);rw[e]at ok' ⊢;show⟨ok',k2,k3,λj h1 h2=>bf (mj j turn) (λq=>k4 j h1 q) λq=>by rw[show j=turn by show Nat.eq_of_le_of_lt_succ q h2,<-adv,h0],k5,k6,lo,congrArg A3 o1,o2,?_⟩;show bf o3 (λi0=>hb i0 λa b c=>ao (gQ a b (by show UP.mpr c))) λi0=>hb i0 λa b c=>aH (gQ au ?_ ?_)
  .rw [EY];show b
  .rw [EY];show c
 .have hq:=XU (MX (now:=st.now) (turn:=turn) S.b) h0 k6;generalize hfa:FT ((lg (vJ line st.now turn)+255 - lg st.fault) % 255)=factor at hq;generalize hgr:tS factor st.gap st.old (st.now++cb (st.old.length+st.gap - st.now.length) 0)=grown;have dM:grown.length=st.now.length+(st.old.length+st.gap - st.now.length):=by rw[<-hgr,(GS factor st.gap st.old _ (λx E=>by show bf (b9.mp E) (λh=>k1.now x h) λh=>by rw[u9 h];decide)).1,iu,rk]
  have hc0:grown.getD 0 0=1:=by rw[<-hgr,Qq _ _ _ _ (iu▸rk▸MY),y8,k2,if_neg au,gy]
  have jA:=k3;have vQ:turn+1 - st.size=lo+st.gap:=by rw[<-o1,lM,rp]
  have Ru:∀ns,st.size<=ns->turn+1 - st.size<=ns->∀j,ns<=j->j<turn+1->Dd line grown j=0:=λns n1 n2 j h1 h2=>by
   have gj:lo+st.gap<=j:=vQ▸ba n2 h1;rcases o3 with⟨a,b,c⟩|⟨a,b,c⟩
   .lia
   .rw [(λj=>by rw[<-hgr];show adt k1.now:∀j,Dd line grown j=Dd line st.now j ^^^ tm factor (Dd line st.old (j - st.gap)))];show bf (mj j turn) (λq=>by rw[k4 j (ba n1 h1) q,c (j - st.gap) (AW gj) (Nat.sub_lt_sub_right (ba (ry ..) gj) q),uM];rfl) λq=>by rw[show j=turn from vb (mX h2) q,<-adv,b,fN,hq,lO]
  by_cases h2:2 * st.size<=turn
  .have e:ku line st turn=⟨grown,st.now,turn+1 - st.size,1,vJ line st.now turn⟩:=by delta ku;rw[if_neg h0,if_pos h2,hfa,hgr]
   rw[e]at ok' ⊢;have m0:st.size<=turn+1 - st.size:=AW (by rw[<-UW];show qk h2);show⟨ok',hc0,ba (lN dM) (zL (ba jA (sX m0)) (by rw[vQ,Ls];show yl o2 _)),Ru (turn+1 - st.size) m0 (ey _),?_,h0,st.size,congrArg A3 (Lr (ba m0 (sY ..))),jA,aH ⟨by lia,adv.symm,λj j1 j2=>k4 j j1 (j2)⟩⟩;change turn+1 - st.size<=a6.length;show oH λjz=>h0 ?_;rw[adv,S.dd jA au ht];show Co λp hp=>by rw[(S.kill jA (gx ht) au k4) p hp,js]
  .have e:ku line st turn=⟨grown,st.old,st.size,st.gap+1,st.fault⟩:=by delta ku;rw[if_neg h0,if_neg h2,hfa,hgr]
   rw[e]at ok' ⊢;have m3:turn+1 - st.size<=st.size:=Ll (by rw[<-UW];show UO h2);show⟨ok',hc0,ba (lN dM) (zL jA (ba (yl o2 _) (by rw[Ls,<-vQ];show sX m3))),Ru st.size (ey _) m3,k5,k6,lo,congrArg A3 o1,o2,?_⟩;show bf o3 (λi0=>hb i0 λa b c=>by lia) λi0=>hb i0 λa b c=>aH (gQ au (by rw[EY];show b) (by rw[EY];show c))
theorem aeW{a6:LN}{X f:Nat->Nat}(S:Src line X f a6):BMx line a6.length line.length (uw line):=by
 have:∀n,n<=line.length->BMx line a6.length n ((aI n).foldl (ku line) ⟨[1],[1],0,1,1⟩):=by
  intro n;induction n with
  |zero=>intro _;change BMx line a6.length 0 ⟨[1],[1],0,1,1⟩;show⟨⟨by decide,by decide,Oe Z,Oe Z,Oe Z,Oe Z,Oe Z,Oe Z,Oe Z⟩,rfl,Oe Z,λj _ h=>absurd h (rz _),fg _,ue Z,0,rfl,Oe Z,ao (gQ Z Z Z)⟩
  |succ n ih=>intro h;rw[sT,qi];show(ih (rx h)).step S (by assumption)
 show this _ (ey _)
theorem adw{a6:LN}{X f:Nat->Nat}(S:Src line X f a6)(hf:∀p∈a6,f p≠0)(hv:2 * a6.length<=line.length):∀p∈a6,kg (uw line).now (X p)=0:=λp hp=>by
 show jd (aeW S) λk1 _ k3 k4 af3=>hb af3 λk5 _ _=>?_;have D:=k5;have jA:=k3;have h0:=C7 (S.kill jA (ey _) au k4 p hp) (hf p hp);have e:=y7 (y:=X p) (uw line).now 0 aK k1.now;rw[js,ix]at e;have:tm (pN (X p) ((uw line).size - ((uw line).now.length - 1))) (kg (uw line).now (X p))=0:=by change tm _ (Ih (X p) (uw line).now 0)=0;show e.symm▸(ub _ λ_ _=>eW _ _).symm▸h0▸dK λi hi=>?_;rw[<-di,fN (pN _ _),di,<-aab];congr 2;show Lh (Ll jA) (Lk (dm.mp hi))
 show C7 this (aiF (S.x0 p) _)
theorem Zw{a6:LN}{X f:Nat->Nat}(S:Src line X f a6)(hf:∀p∈a6,f p≠0)(hv:2 * a6.length<=line.length)(hE:∀p∈a6,p<n)(hX:∀p,p<n->X p=sp.getD p 0)(hi:∀p,p<n->∀q,q<n->sp.getD p 0=sp.getD q 0->p=q):
 (jQ sp (uw line).now n).length=(uw line).size/\(jQ sp (uw line).now n).Nodup/\∀p,p∈jQ sp (uw line).now n↔p∈a6:=by
 show jd (aeW S) λk1 k2 k3 _ qq7=>hb qq7 λk5 _ _=>?_;generalize hF:jQ sp (uw line).now n=F;have hFn:F.Nodup:=by show(hF)▸?_;show Fp _ ye
 have hmem:∀p,p∈F↔p<n/\kg (uw line).now (sp.getD p 0)=0:=λp=>by show hF▸?_;simp[jQ]
 have vQ:∀p∈a6,p∈F:=λp hp=>(hmem p).mpr ⟨hE p hp,by show(hX p (hE p hp))▸?_;show(adw S hf hv) p hp⟩;have jA:=k3;have hbd:=k5;have h1:=k1.afo;have hc0:=k2;have hnb:=k1.now;have dM:F.length<=(uw line).now.length - 1:=by
  generalize (uw line).now=now at hmem h1 hc0 hnb;cases now with
  |nil=>show absurd h1 (Nat.not_succ_le_zero _)
  |cons c rest=>
   have hc:c=1:=hc0;have:=aiI rest.length rest c Z au au (λz hz=>hnb z bC) (F.map λp=>sp.getD p 0) (nodup_map_on (λp hp q hq e=>hi p ((hmem p).mp hp).1 q ((hmem q).mp hq).1 e) hFn)
    (λx E=>by
     obtain⟨p,hp,rfl⟩:=bG.mp E;show(hX p ((hmem p).mp hp).1)▸S.xb p) (λx E=>by
     obtain⟨p,hp,rfl⟩:=bG.mp E;have:=((hmem p).mp hp).2;unfold kg at this;rw[iw,js,ix]at this;show this)
   rw[il]at this;show this
 have hle:=Bd S.nd vQ;show gQ au hFn (λp=>⟨λhp=>Bg λqE=>?_,vQ p⟩);have:=Bd (l₁:=p::a6) (l₂:=F) (ro.mpr ⟨qE,S.nd⟩) λx E=>zM E hp λh=>vQ x h;dsimp only[oF]at this;lia
end iO
namespace iO
theorem Sz(l:LN)(x:Nat):kg l x=Ih x l 0:=rfl
theorem Qr{r a b:Nat}(ha:a<256):qI r a b=tm a (pw r) ^^^ b:=by
 delta qI
 rcases yI (a=0) with h|h
 .subst h;rw[if_neg ((nofun)),js]
 .rw [if_pos h,uv h (JN _),DO,NN,<-uu (lg a+r % 255),LA,uu]
theorem Zx(hw:∀x∈ws,x<256)(r:Nat):GP ws r=Ih (pw r) ws 0:=by
 have:∀(l:LN) (a:Nat),a<256->(∀x∈l,x<256)->l.foldl (qI r) a=l.foldl (λwhole part=>tm whole (pw r) ^^^ part) a:=by
  intro l;induction l with
  |nil=>intros;rfl
  |cons b l ih=>intro a ha hl;show iw.symm▸iw.symm▸(Qr ha).symm▸ih _ (iQ (eW _ _) (hl b bC)) λx E=>hl x bC
 show this ws 0 bA hw
theorem uN{p:Nat}(hp:p<n)(hn:n<=255):(cH n).getD p 0=pw (n - 1 - p):=by
 delta cH
 rw[da,cY,oE hp];show GJ au
theorem Zy(hw:∀x∈ws,x<256)(hn:ws.length<=255)(r:Nat):GP ws r=sx (aI ws.length) λp=>tm (ws.getD p 0) (pN ((cH ws.length).getD p 0) r):=by rw[Zx hw,y7 ws 0 bA hw,js,ix];show dK λp hp=>?_;rw[uN (dm.mp hp) hn,aac,aac,vd]
theorem Zz{p q:Nat}(hn:n<=255)(hp:p<n)(hq:q<n)(e:(cH n).getD p 0=(cH n).getD q 0):p=q:=by rw[uN hp hn,uN hq hn]at e;have:=congrArg lg e;rw[DO,DO,UQ au,UQ au]at this;lia
theorem aai(hj:j+1<line.length):(wV sp line k).getD j 0=line.getD (j+1) 0 ^^^ tm (sp.getD k 0) (line.getD j 0):=by
 delta wV
 show(congrArg (·.getD 0) EJ).trans ?_;show(?_:_=(line[j+1]?).getD 0 ^^^ tm (sp.getD k 0) ((line[j]?).getD 0));rw[KX,jJ 1 j,dE hj,dE (show j<line.length by show UN hj)];rfl
def fw(X:Nat->Nat)(g:Nat->Nat):LN->Nat->Nat
 | [],p=>g p
 |k::kn,p=>fw X (λp=>tm (g p) (X p ^^^ X k)) kn p
theorem aiJ{X:Nat->Nat}(kn:LN):∀(g:Nat->Nat),(∀p,g p<256)->∀p,fw X g kn p<256:=by
 induction kn with
 |nil=>intro _ h;show h
 |cons _ kn iH=>intro _ _;show iH _ λ_=>eW _ _
theorem aaj{X:Nat->Nat}{p:Nat}:∀(kn:LN) (g:Nat->Nat),(g p=0\/p∈kn)->fw X g kn p=0
 | [],g,h=>by
  rcases h with h|h
  .show h
  .ext
 |k::kn,g,h=>aaj kn _ (by
  rcases h with h|h
  .show ao (by rw[h,js])
  .rcases bu.mp h with rfl|h
   .show ao (by rw[lO,uM])
   .show aH h)
theorem aiK{X:Nat->Nat}{p:Nat}(kn:LN):∀(g:Nat->Nat),g p≠0->(∀k∈kn,X p≠X k)->fw X g kn p≠0:=by
 induction kn with
 |nil=>intro _ h _;show h
 |cons k kn iH=>intro g h hk;show iH _ (Ic h λq=>hk k bC (ua q)) λj hj=>hk j bC
theorem aak{bw:LN}(D:∀p,sp.getD p 0<256)(kn:LN):∀(line:LN) (g:Nat->Nat),(∀p,g p<256)->(∀j,j<line.length->line.getD j 0=sx bw λp=>tm (g p) (pN (sp.getD p 0) j))->
 ∀j,j<line.length - kn.length->(kP sp line kn).getD j 0=sx bw λp=>tm (fw (λp=>sp.getD p 0) g kn p) (pN (sp.getD p 0) j):=by
 induction kn with
 |nil=>intro line g _ h;show λj hj=>h j (hj)
 |cons k kn iH=>intro line g hg h;show λj hj=>by have hl:(wV sp line k).length=line.length - 1:=CO;show iH (wV sp line k) (λp=>tm (g p) (sp.getD p 0 ^^^ sp.getD k 0)) (λp=>eW _ _) (λj hj=>?_) j (by show hl.symm▸?_;simp at hj;lia);rw[aai au,h _ au,h _ (List.lt_length_left_of_zipWith hj),ub _ λ_ _=>eW _ _,<-Ai];show dK λp _=>(?_:tm (g p) (tm _ _) ^^^ _=_);rw[vV _ (D _) (D _),qz _ (eW _ _) (eW _ _),di,di,<-di (sp.getD k 0),fN (sp.getD k 0) (g p),di]
theorem jO(sp l:LN)(k i:Nat):(eF sp l k).getD i 0=l.getD i 0 ^^^ tm (sp.getD k 0) (if i=0 then 0 else l.getD (i - 1) 0):=by
 delta eF
 rcases mj l.length i with h|h
 .rw [vW (by simp;assumption),vW (l:=l) (i:=i) au,if_neg (Nat.ne_zero_of_lt h),vW (l:=l) (i:=i - 1) au,uM];rfl
 .rw [da,EJ];have e1:(l++[0])[i]? =O (l.getD i 0):=by
   rcases mj i l.length with q|q
   .rw [u7 q,da,dE q];rfl
   .rw [show i=l.length by show vb h q,vW (ey _)];show List.getElem?_concat_length
  have e2:([0]++l)[i]? =O (if i=0 then 0 else l.getD (i - 1) 0):=by
   cases i with
   |zero=>rfl
   |succ i=>change l[i]? =_;rw[if_neg (Lp i),sV,da,dE (by assumption)];rfl
  rw[e1,e2];rfl
theorem Ii{m:LN}(h:l.length=m.length)(e:∀i,i<l.length->l.getD i 0=m.getD i 0):l=m:=by show Uz h λi h1 h2=>?_;have:=e i h1;rw[da,da,dE h1,dE h2]at this;show this
theorem Jf(sp:LN)(hl:∀x∈l,x<256)(a b:Nat):eF sp (eF sp l a) b=eF sp (eF sp l b) a:=by
 show Ii (by rw[lq,lq,lq,lq]) λi _=>?_;have D:=jg hl;rw[jO,jO,jO sp _ a i,jO sp l b i];show if h0:i=0 then by rw[if_pos h0,if_pos h0,if_pos h0,uM,uM] else ?_
 rw[if_neg h0,if_neg h0,if_neg h0,jO,jO];have hz:(if i - 1=0 then 0 else l.getD (i - 1 - 1) 0)<256:=by
  split
  .decide
  .show D _
 rw[vV _ (D _) (eW _ _),vV _ (D _) (eW _ _),<-di,<-di,fN (sp.getD b 0) (sp.getD a 0)]
 ac_rfl
theorem ZA(q:Nat)(l:LN):∀(z:LN),(∀x∈z,x<256)->l.foldl (eF sp) (eF sp z q)=eF sp (l.foldl (eF sp) z) q:=by
 induction l with
 |nil=>intro _ _;show rfl
 |cons a l iH=>intro z hz;rw[iw,iw,Jf sp hz];show iH _ (pU hz)
theorem aal(q:Nat)(l1 l2:LN):pg sp (l1++q::l2)=eF sp (pg sp (l1++l2)) q:=by
 delta pg
 rw[qi,iw,qi];show ZA q l2 _ (BQ l1).1
theorem NQ{q:Nat}(hl:∀x∈l,x<256)(hy:y<256)(hq:sp.getD q 0<256):Ih y (eF sp l q) 0=tm (y ^^^ sp.getD q 0) (Ih y l 0):=by
 rw[y7 _ 0 bA (pU hl),y7 _ 0 bA hl,js,js,ix,ix,lq,qz _ hy hq,ub _ λ_ _=>eW _ _,ub _ λ_ _=>eW _ _];have e:sx (aI (l.length+1)) (λi=>tm ((eF sp l q).getD i 0) (pN y (l.length+1 - 1 - i)))=
  sx (aI (l.length+1)) (λi=>tm (l.getD i 0) (pN y (l.length - i))) ^^^ sx (aI (l.length+1)) (λi=>tm (tm (sp.getD q 0) (if i=0 then 0 else l.getD (i - 1) 0)) (pN y (l.length - i))):=by
  rw[<-Ai];show dK λi _=>?_;rw[jO,qz _ ((jg hl) _) (eW _ _),sV]
 rw[e,lF,vW (ey _),js,gy,l6,if_pos Z,uM,js,ix];congr 1
 .show dK λi hi=>?_;have hi:=dm.mp hi;rw[<-di,fN y,di];congr 1;rw[show l.length - i=l.length - 1 - i+1 from nj6 au];rfl
 .show dK λi _=>?_;rw[if_neg (Lp i),sV,di];congr 3;lia
def pd(X:Nat->Nat)(y:Nat):LN->Nat
 | []=>1
 |o::l=>tm (y ^^^ X o) (pd X y l)
theorem aiL{X:Nat->Nat}:∀l,pd X y l<256
 | []=>(by decide:1<256)
 |_::_=>eW _ _
theorem aam(hy:y<256)(D:∀p,sp.getD p 0<256)(l:LN):∀(z:LN),(∀x∈z,x<256)->Ih y (l.foldl (eF sp) z) 0=tm (pd (λp=>sp.getD p 0) y l) (Ih y z 0):=by
 induction l with
 |nil=>intro z hz;show(Qo (aag bA hz)).symm
 |cons a l iH=>intro z hz;rw[iw,iH _ (pU hz),NQ hz hy (D a),show pd _ y (a::l)=tm (y ^^^ sp.getD a 0) (pd _ y l) from rfl,<-di,fN (pd _ y l)]
theorem adx{X:Nat->Nat}{p:Nat}(h:p∈l):pd X (X p) l=0:=by
 induction l with
 |nil=>show kI h
 |cons o l ih=>
  dsimp only[pd];rcases bu.mp h with rfl|h
  .rw [lO,js]
  .rw [ih h,uM]
theorem af4{q:Nat}(hl:∀x∈l,x<256)(t:Nat):sx (aI (t+1)) (λb=>tm ((eF sp l q).getD b 0) (pN (sp.getD q 0) (t - b)))=l.getD t 0:=by
 induction t with
 |zero=>rw[lF,UB,Ig,ix,jO,if_pos Z,uM,gy];change tm _ 1=_;rw[fN,Qo (jg hl _)]
 |succ t iH=>
  rw[lF,LC];have e:sx (aI (t+1)) (λb=>tm ((eF sp l q).getD b 0) (pN (sp.getD q 0) (t+1 - b)))=tm (sp.getD q 0) (l.getD t 0):=by rw[<-iH,ub _ λ_ _=>eW _ _];show dK λb D=>?_;rw[show t+1 - b=t - b+1 from Nat.succ_sub (mX (dm.mp D))];change tm _ (tm _ _)=_;rw[<-di,<-di,fN (sp.getD q 0)]
  rw[e];change _ ^^^ tm _ 1=_;rw[fN _ 1,Qo (jg (pU hl) _),jO,if_neg (Lp t),sV,LD (l.getD (t+1) 0),<-rD,lO,ix]
end iO
namespace iO
theorem NR{p:Nat}{l1 l2:LN}(h:(l1++p::l2).Nodup):p∉l1++l2/\(l1++l2).Nodup:=ro.mp (List.perm_middle.nodup_iff.mp h)
theorem af5{q:Nat}{m1:LN}:∀{l1 m2 l2:LN},m1++q::m2=l1++q::l2->q∉m1->q∉l1->m1=l1/\m2=l2:=by
 induction m1 with
 |nil=>
  intro l1 m2 l2 h k1 k2;cases l1 with
  |nil=>show⟨rfl,(mr h).2⟩
  |cons a l1=>show absurd ((mr h).1▸cQ ..) k2
 |cons a m1 ih=>
  intro l1 m2 l2 h k1 k2;cases l1 with
  |nil=>show absurd ((mr h).1▸cQ ..) k1
  |cons b l1=>show eX (mr h) λe1 e2=>eX (ih e2 (λh=>k1 (dF _ h)) λh=>k2 (dF _ h)) λe3 e4=>⟨by rw[e1,e3],e4⟩
theorem ady{P:LN}{f:Nat->Nat}(hn:P.Nodup)(hp:∀p∈P,p<n)(h0:∀p,p<n->p∉P->f p=0):sx (aI n) f=sx P f:=by show(JO (l:=aI n) (λp=>decide (p∈P)) λa ha e=>h0 a (dm.mp ha) (of_decide_eq_false e))▸ads ((List.perm_ext_iff_of_nodup (Fp _ ye) hn).mpr λa=>?_);rw[gq,dm,decide_eq_true_eq];show⟨λh=>h.2,λh=>⟨hp a h,h⟩⟩
theorem adz{P pr rs:LN}{e X:Nat->Nat}{t:Nat}(h:∀j,j<=t->rs.getD j 0=sx P λq=>tm (e q) (pN (X q) j)):
 Rz pr rs t=sx P λq=>tm (e q) (sx (aI (t+1)) λb=>tm (pr.getD b 0) (pN (X q) (t - b))):=by
 delta Rz
 rw[XW,ix];have e1:sx (aI (t+1)) (λb=>tm (pr.getD b 0) (rs.getD (t - b) 0))=sx (aI (t+1)) λb=>sx P λq=>tm (e q) (tm (pr.getD b 0) (pN (X q) (t - b))):=dK λb _=>by rw[h _ au,ub _ λ_ _=>eW _ _];show dK λq _=>by rw[<-di,fN (pr.getD b 0),di]
 rw[e1,NP];show dK λq _=>(ub _ λ_ _=>eW _ _).symm
theorem adA{pr rs:LN}{t:Nat}(h:t<n):(wW pr rs n).getD t 0=Rz pr rs t:=by
 delta wW
 rw[da,cY,oE h];rfl
theorem amount{P rs:LN}{e:Nat->Nat}(D:∀p,sp.getD p 0<256)(WV:∀j,j<P.length->rs.getD j 0=sx P λq=>tm (e q) (pN (sp.getD q 0) j)){l1 l2:LN}{p:Nat}(hP:P=l1++p::l2)(tQ:P.Nodup):
 kg (wW (pg sp P) rs P.length) (sp.getD p 0)=tm (e p) (pd (λp=>sp.getD p 0) (sp.getD p 0) (l1++l2)):=by
 have hab:∀x∈wW (pg sp P) rs P.length,x<256:=λx E=>by show bh (bG.mp E) λt _ dX=>?_;subst dX;show WY
 rw[Sz,y7 _ 0 aK hab,js,ix,(by simp[wW]:(wW (pg sp P) rs P.length).length=P.length)];have quo:∀q∈P,∃M,(∀x∈M,x<256)/\M.length=P.length/\pg sp P=eF sp M q/\Ih (sp.getD p 0) M 0=if q=p then pd (λp=>sp.getD p 0) (sp.getD p 0) (l1++l2) else 0:=λq hq=>by
  show jh (Uv hq) λm1 m2 em=>((wD (pg sp (m1++m2)) ((BQ _).1) (by rw[(BQ _).2,em];simp;show lM m1.length m2.length 1) (by rw[em];show aal q m1 m2) ?_))
  delta pg
  rw[aam (D p) D _ _ aK];rw[(by change tm 0 _ ^^^ 1=1;rw[js];rfl:Ih (sp.getD p 0) [1] 0=1),fN,Qo (aiL _)];by_cases e:q=p
  .subst e;rw[if_pos Z];have:m1=l1/\m2=l2:=af5 (em.symm.trans hP) (λh=>((NR (em▸tQ)).1) (dc _ h)) (λh=>((NR (hP▸tQ)).1) (dc _ h));rw[this.1,this.2]
  .show (if_neg e).symm▸adx ?_;rcases b9.mp (by rw[<-em,hP];simp:p∈m1++q::m2) with h|h
   .show dc _ h
   .show bf (bu.mp h) (λh=>absurd h.symm e) λh=>ew _ h
 have e1:sx (aI P.length) (λi=>tm ((wW (pg sp P) rs P.length).getD i 0) (pN (sp.getD p 0) (P.length - 1 - i)))=
  sx (aI P.length) λi=>sx P λq=>tm (e q) (tm (sx (aI (i+1)) λb=>tm ((pg sp P).getD b 0) (pN (sp.getD q 0) (i - b))) (pN (sp.getD p 0) (P.length - 1 - i))):=dK λi hi=>by
  have hi:=dm.mp hi;rw[adA hi,adz λj hj=>WV j au,aae _ λ_ _=>eW _ _];show dK λq _=>di _ _ _
 rw[e1,NP];have e2:sx P (λq=>sx (aI P.length) λi=>tm (e q) (tm (sx (aI (i+1)) λb=>tm ((pg sp P).getD b 0) (pN (sp.getD q 0) (i - b))) (pN (sp.getD p 0) (P.length - 1 - i))))=
  sx P λq=>tm (e q) (if q=p then pd (λp=>sp.getD p 0) (sp.getD p 0) (l1++l2) else 0):=dK λq hq=>by
  show lY (quo q hq) λM hM hMl eP hh=>?_;rw[<-hh,y7 _ 0 aK hM,js,ix,ub _ λ_ _=>eW _ _,hMl];show dK λi _=>?_;rw[eP,af4 hM]
 rw[e2,hP,aad,fI,if_pos Z];have n2:=(NR (hP▸tQ)).1;rw[Co λq hq=>by rw[if_neg (λw:q=p=>n2 (w▸dc _ hq)),uM],Co λq hq=>by rw[if_neg (λw:q=p=>n2 (w▸ew _ hq)),uM],ix,gy]
end iO
namespace iO
theorem ZC{p e:Nat}(he:e<256)(l:LN):(∀o∈l,o≠p/\sp.getD p 0 ^^^ sp.getD o 0≠0)->pj sp l p (tm e (pd (λp=>sp.getD p 0) (sp.getD p 0) l))=e:=by
 induction l with
 |nil=>intro _;show(?_:tm e 1=e);rw[fN,Qo he]
 |cons o l iH=>
  intro h;show eX (h o bC) λh1 h2=>(?_:pj sp l p (jB sp p (tm e (tm (sp.getD p 0 ^^^ sp.getD o 0) (pd _ _ l))) o)=e);have:jB sp p (tm e (tm (sp.getD p 0 ^^^ sp.getD o 0) (pd (λp=>sp.getD p 0) (sp.getD p 0) l))) o=tm e (pd (λp=>sp.getD p 0) (sp.getD p 0) l):=by
   delta jB
   rw[<-di,fN e,di];generalize hw:tm e (pd (λp=>sp.getD p 0) (sp.getD p 0) l)=W;show if h0:W=0 then by rw[h0,uM,if_neg ((nofun))] else by rw[if_pos ⟨h1,Ic h2 h0⟩,adq (hw▸eW _ _) h2 h0]
  show this.symm▸(iH λo' ho=>h o' bC)
theorem Ij(sp l1 l2:LN)(p a:Nat):pj sp (l1++l2) p a=pj sp l2 p (pj sp l1 p a):=qi
theorem aan{p e:Nat}(he:e<256)(l1 l2:LN)(h:∀o∈l1++l2,o≠p/\sp.getD p 0 ^^^ sp.getD o 0≠0):pj sp (l1++p::l2) p (tm e (pd (λp=>sp.getD p 0) (sp.getD p 0) (l1++l2)))=e:=by
 have e1:∀a,pj sp (l1++p::l2) p a=pj sp (l1++l2) p a:=λa=>by rw[Ij,Ij];change pj sp l2 p (jB sp p _ p)=_;show congrArg _ (if_neg fF)
 rw[e1,ZC he _ h]
theorem JP{P am:LN}{v:Nat->Nat}(i:Nat)(l:LN):∀(md:LN),l.Nodup->(∀p∈l,p<md.length/\pj sp P p (kg am (sp.getD p 0))=v p)->
 (l.foldl (mN sp P am) md).length=md.length/\(l.foldl (mN sp P am) md).getD i 0=md.getD i 0 ^^^ (if i∈l then v i else 0):=by
 induction l with
 |nil=>intro md _ _;show⟨rfl,by rw[if_neg (mW),gy];rfl⟩
 |cons p l iH=>
  intro md hn h;have wx:=ro.mp hn;have hl:(mN sp P am md p).length=md.length:=by simp[mN]
  obtain⟨h1,h2⟩:=iH (mN sp P am md p) wx.2 λq hq=>by rw[hl];show h q bC
  show eX (h p bC) λa b=>?_;dsimp only[iw];show⟨h1.trans hl,?_⟩;rw[h2]
  delta mN
  rw[Cp,b];by_cases e:i=p
  .show e.symm▸?_;rw[if_pos ⟨rfl,a⟩,if_neg wx.1,if_pos bC,gy]
  .rw [if_neg λq=>e q.1];show if q:i∈l then by rw[if_pos q,if_pos bC] else by rw[if_neg q,if_neg (gY e q)]
theorem mended{cs T:LN}(hn:ws.length<=255)(dM:cs.length=ws.length)(hw:∀x∈ws,x<256)(hc:∀x∈cs,x<256)(xl:∀r,r<c->sx (aI ws.length) (λp=>tm (cs.getD p 0) (pN ((cH ws.length).getD p 0) r))=0)(hkn:kn.Nodup)(hkb:∀k∈kn,k<ws.length)(hT:2 * T.length<=c - kn.length)(hkc:kn.length<=c)(ak0:∀p,p<ws.length->ws.getD p 0≠cs.getD p 0->p∈kn\/p∈T):
 (jQ (cH ws.length) (uw (kP (cH ws.length) (fR ws c) kn)).now ws.length).length=(uw (kP (cH ws.length) (fR ws c) kn)).size/\vK ws c kn=cs:=by
 have wb:∀p,(cH ws.length).getD p 0<256:=OQ _;have XX:∀p,p<ws.length->(cH ws.length).getD p 0≠0:=λp hp=>by rw[uN hp hn];show JN _
 have adB:∀p,p<ws.length->∀q,q<ws.length->(cH ws.length).getD p 0=(cH ws.length).getD q 0->p=q:=λp hp q hq e=>Zz hn hp hq e;have hxd:∀p q,p<ws.length->q<ws.length->q≠p->(cH ws.length).getD p 0 ^^^ (cH ws.length).getD q 0≠0:=λp q hp hq qE e=>qE (adB p hp q hq (ua e)).symm;generalize wx:ws.length=n at *;generalize aiM:cH n=sp at *
 let e:Nat->Nat:=λp=>ws.getD p 0 ^^^ cs.getD p 0;have he:∀p,e p<256:=λp=>iQ (jg hw p) (jg hc p);have hrl:(fR ws c).length=c:=by simp[fR]
 have WV:∀j,j<c->(fR ws c).getD j 0=sx (aI n) λp=>tm (e p) (pN (sp.getD p 0) j):=λj hj=>by
  have e1:(fR ws c).getD j 0=GP ws j:=by
   delta fR
   rw[da,cY,oE hj];rfl
  rw[e1,Zy hw (le_of_eq_of_le wx hn),wx,aiM];have e2:sx (aI n) (λp=>tm (e p) (pN (sp.getD p 0) j))=sx (aI n) (λp=>tm (ws.getD p 0) (pN (sp.getD p 0) j) ^^^ tm (cs.getD p 0) (pN (sp.getD p 0) j)):=
   dK λp _=>qz _ (jg hw p) (jg hc p)
  rw[e2,Ai,xl j hj,gy]
 generalize af6:fR ws c=rs at *
 let X:Nat->Nat:=λp=>if p<n then sp.getD p 0 else 1
 let f:Nat->Nat:=fw (λp=>sp.getD p 0) e kn
 let a6:LN:=(aI n).filter λp=>decide (f p≠0);have hEm:∀p,p∈a6↔p<n/\f p≠0:=λp=>by rw[gq,dm,decide_eq_true_eq]
 have aiN:a6.Nodup:=Fp _ ye;have hEk:∀p∈a6,p∉kn/\e p≠0:=λp hp=>⟨λq=>((hEm p).mp hp).2 (aaj kn e (aH q)),λq=>((hEm p).mp hp).2 (aaj kn e (ao q))⟩;have hET:a6.length<=T.length:=Bd aiN λp hp=>by show eX (hEk p hp) λh1 h2=>((ak0 p ((hEm p).mp hp).1 λq=>h2 ?_).resolve_left h1);change ws.getD p 0 ^^^ cs.getD p 0=0;rw[q,lO]
 have hll:(kP sp rs kn).length=c - kn.length:=by rw[(GV kn rs (λx E=>by have E:=af6.symm▸E;show wU (GQ (allB_of hw)) E)).2,hrl]
 have S:Src (kP sp rs kn) X f a6:=⟨(GV kn rs (λx E=>by rw[<-af6]at E;show wU (GQ (allB_of hw)) E)).1,λp=>by change(if p<n then _ else _)<256;split<;>first|show wb p|decide,
  λp=>by change(if p<n then _ else _)≠0;split<;>first|show XX p (by assumption)|decide,aiJ kn e he,aiN,λp hp q hq h=>by
   have h:(if p<n then sp.getD p 0 else 1)=if q<n then sp.getD q 0 else 1:=h
   rw[if_pos ((hEm p).mp hp).1,if_pos ((hEm q).mp hq).1]at h;show adB p ((hEm p).mp hp).1 q ((hEm q).mp hq).1 h,λj hj=>by
   show(aak wb kn rs e he (λj hj=>WV j au) j au).symm▸?_;have e3:sx (aI n) (λp=>tm (fw (λp=>sp.getD p 0) e kn p) (pN (sp.getD p 0) j))=sx (aI n) λp=>tm (f p) (pN (X p) j):=dK λp hp=>by change _=tm (f p) (pN (if p<n then _ else _) j);rw[if_pos (dm.mp hp)]
   rw[e3];show(JO _ λp _ h=>by rw[Classical.not_not.mp (of_decide_eq_false h),js]).symm⟩
 show hb (Zw (n:=n) (sp:=sp) S (λp hp=>((hEm p).mp hp).2) au (λp hp=>((hEm p).mp hp).1) (λp hp=>if_pos hp) adB) λF1 F2 F3=>⟨F1,?_⟩
 delta vK yQ
 rw[wx,aiM,af6];generalize jQ sp (uw (kP sp rs kn)).now n=F at *;have hPn:(kn++F).Nodup:=qh.mpr (gQ hkn F2 (λa ha b D q=>(hEk b ((F3 b).mp D)).1 (q▸ha)));have hPb:∀p∈kn++F,p<n:=λp hp=>bf (b9.mp hp) (λh=>hkb p h) λh=>((hEm p).mp ((F3 p).mp h)).1;have hPs:∀p,p<n->p∉kn++F->e p=0:=λp hp hq=>Bg λh0=>hq (by
  show if hk:p∈kn then dc _ hk else ?_
  show ew _ ((F3 p).mpr ((λp hp h0 hk=>(hEm p).mpr ⟨hp,aiK kn e h0 λk hk' q=>hk (adB p hp k (hkb k hk') q▸hk')⟩:∀p,p<n->e p≠0->p∉kn->p∈a6) p hp h0 hk)))
 have hFl:F.length<=a6.length:=Bd F2 λp hp=>(F3 p).mp hp;have hPl:(kn++F).length<=c:=by rw[iu];lia
 have hv:∀p∈kn++F,pj sp (kn++F) p (kg (wW (pg sp (kn++F)) rs (kn++F).length) (sp.getD p 0))=e p:=λp hp=>by
  show jh (Uv hp) λl1 l2 hP=>?_;rw[amount (e:=e) wb (λj hj=>(WV j au).symm▸ady hPn hPb λp h1 h2=>by rw[hPs p h1 h2,js]) hP hPn,hP];show aan (he p) l1 l2 λo ho=>?_;have hop:o≠p:=λq=>((NR (hP▸hPn)).1) (q▸ho);have hoP:o∈kn++F:=by rw[hP];rcases b9.mp ho with h|h<;>ext
  show⟨hop,hxd p o (hPb p hp) (hPb o hoP) hop⟩
 show Ii (by rw[(JP (v:=e) 0 (kn++F) ws hPn λp hp=>⟨by rw[wx];show hPb p hp,hv p hp⟩).1,wx,dM]) λi hi=>?_;have hm:=JP (v:=e) i (kn++F) ws hPn λp hp=>⟨by rw[wx];show hPb p hp,hv p hp⟩;rw[hm.1,wx]at hi;show hm.2.symm▸?_;have E:ws.getD i 0 ^^^ e i=cs.getD i 0:=by rw[<-rD,lO,ix]
 by_cases q:i∈kn++F
 .rw [if_pos q,E]
 .rw [hPs i hi q,gy]at E;rw[if_neg q,gy,E]
end iO
namespace iO
def zG:LN:=Q4++Q4
theorem af7(h:k<510):zG.getD k 0=pw k:=by
 delta zG
 rw[da];rcases mj k 255 with q|q
 .rw [u7 (yO▸q),<-da];show GJ q
 .rw [yd (yO▸q),yO,<-da];have:=GJ (k:=k - 255) (Nat.sub_lt_left_of_lt_add q h);unfold FT at this;rw[this,<-Sy,show k - 255+255=k by lia]
theorem adC{lc:Nat}{eb:LN}(hg:∀x∈gen,x<255)(hl:lc<255)(p:Nat)(n:Nat):n<=gen.length->k+n<eb.length->
 (Cj zG gen k lc eb n).getD p 0=eb.getD p 0 ^^^ (if k<p/\p<=k+n then tm (pw lc) (pw (gen.getD (p - k - 1) 0)) else 0):=by
 induction n with
 |zero=>intro _ _;rw[if_neg fF,gy];rfl
 |succ n iH=>
  intro h1 h2;have ih:=iH (rx h1) (UN h2);have hgn:gen.getD n 0<255:=by rw[da,dE (show n<gen.length by assumption)];show hg _ (KZ _)
  unfold Cj;rw[Cp,HS,af7 (k:=lc+gen.getD n 0) au,<-Qn];by_cases e:p=k+n+1
  .subst e;rw[if_pos ⟨rfl,by lia⟩,ih,if_neg fF,if_pos au,gy,show k+n+1 - k - 1=n by lia]
  .rw [if_neg λq=>e q.1,ih];show if q:k<p/\p<=k+n then by rw[if_pos q,if_pos au] else by rw[if_neg q,if_neg au]
theorem aao{gen:LN}{k lc:Nat}{eb:LN}(D:∀x∈eb,x<256):∀n,∀x∈Cj zG gen k lc eb n,x<256
 | 0=>D
 |n+1=>λx E=>by
  have ih:=aao (gen:=gen) (k:=k) (lc:=lc) D n;show bf (u6 E) (λh=>ih x h) λh=>?_;subst h;show iQ (jg ih _) (jg (λx E=>by
   have:x∈Q4:=by rcases b9.mp E with h|h<;>show h
   show bh (bG.mp this) λi _ dX=>dX▸ON i) _)
theorem SD{eb:LN}(D:∀x∈eb,x<256):∀k,∀x∈gT wB zG gen eb k,x<256:=by
 intro xX;induction xX with
 |zero=>show D
 |succ k iH=>
  rw[gT];split
  .show iH
  .show aao (iH) _
def JQ(gen:LN):Prop:=(∀x∈gen,x<255)/\∀r,r<gen.length->pw (r * gen.length) ^^^ sx (aI gen.length) (λj=>pw (gen.getD j 0+r * (gen.length - 1 - j)))=0
theorem aap{eb:LN}(hG:JQ gen)(D:∀x∈eb,x<256){r:Nat}(hr:r<gen.length)(hk:k+gen.length<eb.length):
 sx (aI (eb.length - (k+1))) (λi=>tm ((gT wB zG gen eb (k+1)).getD (k+1+i) 0) (pw (r * (eb.length - 1 - (k+1+i)))))=
 sx (aI (eb.length - k)) (λi=>tm ((gT wB zG gen eb k).getD (k+i) 0) (pw (r * (eb.length - 1 - (k+i))))):=by
 have hbk:=SD (gen:=gen) D k;have hlk:(gT wB zG gen eb k).length=eb.length:=xt k;obtain⟨M,eM⟩:∃M,eb.length - k=M+1:=⟨eb.length - k - 1,nj0 (Lg hk)⟩;have eM2:eb.length - (k+1)=M:=nj2 eM;have eK:gT wB zG gen eb (k+1)=if(gT wB zG gen eb k).getD k 0=0 then gT wB zG gen eb k else Cj zG gen k (wB.getD ((gT wB zG gen eb k).getD k 0) 0) (gT wB zG gen eb k) gen.length:=rfl
 rw[eM,eM2,l6,eK];simp only[A1];generalize gT wB zG gen eb k=a0 at *;by_cases h0:a0.getD k 0=0
 .rw [if_pos h0,h0,js,ix];show dK λi _=>by rw[show k+(i+1)=k+1+i by lia]
 .rw [if_neg h0];have hlc:wB.getD (a0.getD k 0) 0<255:=WT _;have hpw:pw (wB.getD (a0.getD k 0) 0)=a0.getD k 0:=y0 _ (jg hbk k) h0;have e1:sx (aI M) (λi=>tm ((Cj zG gen k (wB.getD (a0.getD k 0) 0) a0 gen.length).getD (k+1+i) 0) (pw (r * (eb.length - 1 - (k+1+i)))))=
   sx (aI M) (λi=>tm (a0.getD (k+(i+1)) 0) (pw (r * (eb.length - 1 - (k+(i+1))))) ^^^ tm (if i<gen.length then tm (a0.getD k 0) (pw (gen.getD i 0)) else 0) (pw (r * (eb.length - 1 - (k+1+i))))):=dK λi _=>by
   rw[adC hG.1 hlc _ _ (ey _) au,hpw,show k+1+i=k+(i+1) by show yj k i,show k+(i+1) - k - 1=i by lia];show if q:i<gen.length then by rw[if_pos au,if_pos q,qz _ (jg hbk _) (eW _ _)] else by rw[if_neg au,if_neg q,qz _ (jg hbk _) bA]
  rw[e1,Ai,LD];congr 1;have hM:gen.length<=M:=by lia
  rw[FX hM λi hi=>by rw[if_neg (j4.mpr hi),js]];have e2:sx (aI gen.length) (λi=>tm (if i<gen.length then tm (a0.getD k 0) (pw (gen.getD i 0)) else 0) (pw (r * (eb.length - 1 - (k+1+i)))))=
   sx (aI gen.length) λi=>tm (tm (a0.getD k 0) (pw (r * (M - gen.length)))) (pw (gen.getD i 0+r * (gen.length - 1 - i))):=dK λi hi=>by
   have hi:=dm.mp hi;rw[if_pos hi,di,di,Qn,Qn];congr 2;rw[show eb.length - 1 - (k+1+i)=(M - gen.length)+(gen.length - 1 - i) from(by rw[nj3 eM,E9 gen.length 1 i,Lh hM (AY.mpr hi)];change k+M - (k+1+i)=_;rw[lM,Nat.add_sub_add_left]),yq];show Nat.add_left_comm (gen.getD i 0) (r * (M - gen.length)) (r * (gen.length - 1 - i))
  rw[e2,<-ub _ λ_ _=>ON _,<-ua (hG.2 r hr),di,Qn,<-yq];congr 3;lia
theorem enc{data:LN}(hG:JQ gen)(hd:∀x∈data,x<256)(hN:data.length+gen.length<=255){r:Nat}(hr:r<gen.length):
 sx (aI (data.length+gen.length)) (λp=>tm ((data++(gT wB zG gen (data++cb gen.length 0) data.length).drop data.length).getD p 0) (pN ((cH (data.length+gen.length)).getD p 0) r))=0:=by
 have D:∀x∈data++cb gen.length 0,x<256:=λx E=>by
  rcases b9.mp E with h|h
  .show hd x h
  .rw [u9 h];decide
 have hl:(data++cb gen.length 0).length=data.length+gen.length:=by simp
 have key:∀k,k<=data.length->sx (aI (data.length+gen.length - k)) (λi=>tm ((gT wB zG gen (data++cb gen.length 0) k).getD (k+i) 0) (pw (r * (data.length+gen.length - 1 - (k+i)))))=
  sx (aI (data.length+gen.length)) (λi=>tm ((data++cb gen.length 0).getD i 0) (pw (r * (data.length+gen.length - 1 - i)))):=by
  intro k;induction k with
  |zero=>intro _;simp only[ql];rfl
  |succ k ih=>intro hk;show(ih au)▸have:=aap (k:=k) hG D hr (by rw[hl];show EZ hk gen.length);have this:=hl▸this;this
 have k1:=key data.length (ey _);rw[rp]at k1;have e0:sx (aI (data.length+gen.length)) (λi=>tm ((data++cb gen.length 0).getD i 0) (pw (r * (data.length+gen.length - 1 - i))))=
  sx (aI data.length) (λi=>tm (data.getD i 0) (pw (r * (data.length+gen.length - 1 - i)))):=by
  rw[FX (a:=data.length) au λi hi=>by rw[y8,vW hi,js]];show dK λi _=>by rw[y8]
 have sp:∀p,p<data.length+gen.length->pN ((cH (data.length+gen.length)).getD p 0) r=pw (r * (data.length+gen.length - 1 - p)):=λp hp=>by rw[uN hp hN,aac,vd]
 have e3:∀(f:Nat->Nat) (a b:Nat),sx (aI (a+b)) f=sx (aI a) f ^^^ sx (aI b) λi=>f (a+i):=λf a b=>by
  induction b with
  |zero=>rw[A1,UB,Ig,gy]
  |succ b ih=>rw[<-lM,lF,lF,ih,rD]
 rw[e3];have e4:∀i,i<data.length->∀t:LN,(data++t).getD i 0=data.getD i 0:=λi hi t=>by rw[da,u7 hi,da]
 have e5:∀i,∀t:LN,(data++t.drop data.length).getD (data.length+i) 0=t.getD (data.length+i) 0:=λi t=>by rw[da,yd au,KX,da,show data.length+(data.length+i - data.length)=data.length+i by lia]
 have q1:sx (aI data.length) (λp=>tm ((data++(gT wB zG gen (data++cb gen.length 0) data.length).drop data.length).getD p 0) (pN ((cH (data.length+gen.length)).getD p 0) r))=
  sx (aI data.length) (λi=>tm (data.getD i 0) (pw (r * (data.length+gen.length - 1 - i)))):=dK λi hi=>by
  have hi:=dm.mp hi;rw[e4 i hi,sp i (Lw gen.length hi)]
 have q2:sx (aI gen.length) (λi=>tm ((data++(gT wB zG gen (data++cb gen.length 0) data.length).drop data.length).getD (data.length+i) 0) (pN ((cH (data.length+gen.length)).getD (data.length+i) 0) r))=
  sx (aI gen.length) (λi=>tm ((gT wB zG gen (data++cb gen.length 0) data.length).getD (data.length+i) 0) (pw (r * (data.length+gen.length - 1 - (data.length+i))))):=dK λi hi=>by
  rw[e5,sp _ (ym (dm.mp hi) data.length)]
 rw[q1,q2,k1.trans e0,lO]
noncomputable def af8:LN:=[113,164,166,119,10]
noncomputable def af9:LN:=[166,0,134,5,176,15]
theorem ak1:JQ af8:=⟨by decide,by decide⟩
theorem ak2:JQ af9:=⟨by decide,by decide⟩
end iO
namespace iO
theorem NS{p q:Nat×Nat}{v:Nat}(h:Sq pic)(h1:p.1<13)(h2:p.2<13):iV (pv pic p.1 p.2 v) q=if q=p then v else iV pic q:=by
 have hr:=h.2 p.1 h1;have hl:=h.1;obtain⟨a,b⟩:=p;obtain⟨i,j⟩:=q
 delta iV pv
 simp only at h1 h2 hr ⊢;by_cases e:i=a
 .subst e;have e1:(pic.set i ((pic.getD i []).set b v)).getD i []=(pic.getD i []).set b v:=by rw[da,EN,if_pos Z,if_pos au];rfl
  rw[e1,Cp,hr];by_cases e2:j=b
  .show e2.symm▸?_;rw[if_pos ⟨rfl,h2⟩,if_pos Z]
  .rw [if_neg λq=>e2 q.1,if_neg λq=>e2 (tx q).2]
 .have e1:(pic.set a ((pic.getD a []).set b v)).getD i []=pic.getD i []:=by rw[da,EN,if_neg (λq=>e q.symm),<-da]
  rw[e1,if_neg λq=>e (tx q).1]
noncomputable def pJ(k:Nat):Nat×Nat:=jf.getD k (0,0)
theorem aaq:∀k,k<80->∀l,l<80->pJ k=pJ l->k=l:=of_decide_eq_true bz
theorem aga:∀k,k<80->(pJ k).1<13/\(pJ k).2<13:=of_decide_eq_true bz
def Cq(ns:LN)(st:List (LN)×Nat)(p:Nat×Nat):List (LN)×Nat:=cond (fD (iV st.1 p) 2 && jK st.2 ns.length) (pv st.1 p.1 p.2 (ns.getD st.2 0),st.2+1) st
def VIS:List (Nat×Nat):=[12,10,8,6,4,2].flatMap λright=>(aI 13).flatMap λv=>(aI 2).map λz=>(JD right v,right - z)
theorem Ik{β:Type}{f g:β->α->β}(h:∀b a,f b a=g b a)(l:List α)(b:β):l.foldl f b=l.foldl g b:=by rw[show f=g from funext λb=>funext λa=>h b a]
theorem adD(ns:LN)(cj:List (LN)):I5 ns cj=VIS.foldl (Cq ns) (cj,0):=by
 delta VIS
 rw[Uw];show Ik (λst right=>?_) _ _;rw[Uw];show Ik (λst v=>?_) _ _;show Ik (λst z=>rfl) _ _
theorem agb:VIS.Nodup:=of_decide_eq_true bz
theorem aiO:∀p∈VIS,p.1<13/\p.2<13:=of_decide_eq_true bz
def two(cj:List (LN))(p:Nat×Nat):Bool:=fD (iV cj p) 2
theorem JR:VIS.filter (two (mF PU 8))=jf:=by rfl
theorem SF(ns:LN)(aO:List (Nat×Nat)):∀(cj:List (LN)) (i:Nat),aO.Nodup->(∀p∈aO,p.1<13/\p.2<13)->Sq cj->i+(aO.filter (two cj)).length<=ns.length->
 (aO.foldl (Cq ns) (cj,i)).2=i+(aO.filter (two cj)).length/\Sq (aO.foldl (Cq ns) (cj,i)).1/\(∀p,p∉aO->iV (aO.foldl (Cq ns) (cj,i)).1 p=iV cj p)/\
 ∀k,k<(aO.filter (two cj)).length->iV (aO.foldl (Cq ns) (cj,i)).1 ((aO.filter (two cj)).getD k (0,0))=ns.getD (i+k) 0:=by
 induction aO with
 |nil=>intro cj i _ _ hs _;show rN Z hs (λ_ _=>rfl) (λk hk=>absurd hk (rz _))
 |cons p aO iH=>
  intro cj i hn D hs hl;have wx:=ro.mp hn;have hp:=D p au;show boC (two cj p) (λe=>?_) λe=>?_
  .rw [EH e]at hl ⊢;dsimp only[oF]at hl;have e1:Cq ns (cj,i) p=(pv cj p.1 p.2 (ns.getD i 0),i+1):=by
    delta Cq
    have e:fD (iV cj p) 2=N:=e;have e':jK i ns.length=N:=Nat.ble_eq.mpr au;show e.symm▸e'.symm▸?_;rfl
   have agc:∀q,iV (pv cj p.1 p.2 (ns.getD i 0)) q=if q=p then ns.getD i 0 else iV cj q:=λq=>NS hs hp.1 hp.2
   have hf:aO.filter (two (pv cj p.1 p.2 (ns.getD i 0)))=aO.filter (two cj):=List.filter_congr λq hq=>by
    delta two
    rw[agc,if_neg λw:q=p=>wx.1 (w▸hq)]
   show iw.symm▸e1.symm▸iL (iH (pv cj p.1 p.2 (ns.getD i 0)) (i+1) wx.2 (λq hq=>D q bC) (tV hs) (by rw[hf];lia)) λa b c d=>?_;rw[hf]at a d;show rN (by rw[a,oF];show yj i (List.filter (two cj) aO).length) b (λq hq=>by rw[c q λh=>hq bC,agc,if_neg λw=>hq bC]) (λk hk=>?_);cases k with
   |zero=>change iV _ p=_;rw[c p wx.1,agc,if_pos Z,A1]
   |succ k=>change iV _ ((aO.filter (two cj)).getD k (0,0))=_;dsimp only[oF]at hk;rw[d k (Ln.mp hk),show i+1+k=i+(k+1) by lia]
  .have e1:Cq ns (cj,i) p=(cj,i):=by
    delta Cq
    have e:fD (iV cj p) 2=af:=e;show e.symm▸?_;rfl
   show iw.symm▸e1.symm▸?_;rw[EI (ne_true_of_eq_false e)]at hl ⊢;show iL (iH cj i wx.2 (λq hq=>D q bC) hs hl) λa b c d=>rN a b (λq hq=>c q λh=>hq bC) d
theorem agd:Sq (mF PU 8):=⟨rfl,by decide⟩
theorem placed(h:ns.length=80):(I5 ns (mF PU 8)).2=80/\Sq (I5 ns (mF PU 8)).1/\∀k,k<80->iV (I5 ns (mF PU 8)).1 (pJ k)=ns.getD k 0:=by have:=SF ns VIS (mF PU 8) 0 agb aiO agd (by rw[JR,pW,h];decide);rw[JR,pW,<-adD]at this;show iL this λa b _ d=>gQ (by simpa using a) b (λk hk=>by have:=d k hk;rw[ql]at this;show this)
noncomputable def w8(f:Nat->Nat):Nat:=(aI 8).foldl (λwd b=>2 * wd+f b) 0
theorem Qs{f g:Nat->Nat}(h:∀b,b<8->f b=g b):w8 f=w8 g:=by
 delta w8
 dsimp only[aI,Wl,yi];rw[h 0 bA,h 1 bA,h 2 bA,h 3 bA,h 4 bA,h 5 bA,h 6 bA,h 7 bA]
theorem aiP{f:Nat->Nat}(h:∀b,b<8->f b<2):w8 f<256:=by
 delta w8
 dsimp only[aI,Wl,yi];show nA4 (m:=128) (nA4 (m:=64) (nA4 (m:=32) (nA4 (m:=16) (nA4 (m:=8) (nA4 (m:=4) (nA4 (m:=2) (nA4 (m:=1) yp (h 0 bA)) (h 1 bA)) (h 2 bA)) (h 3 bA)) (h 4 bA)) (h 5 bA)) (h 6 bA)) (h 7 bA)
theorem XY:∀wd,wd<256->w8 (λb=>wd / 2 ^ (7 - b) % 2)=wd:=of_decide_eq_true bz
theorem aar(d:α)(l:List α)(a:Nat)(h:a+8<=l.length):(l.drop a).take 8=(aI 8).map λb=>l.getD (a+b) d:=by show Uz jP λi h1 h2=>?_;simp at h1 h2;rw[List.getElem_take,List.getElem_drop,List.getElem_map,List.getElem_range,da,dE au];rfl
theorem Qt{p:Nat}(hp:p<10):G7 pic p=w8 λb=>iV pic (pJ (8 * p+b)):=by
 delta G7 w8
 rw[aar (0,0) jf (8 * p) (by rw[pW];lia),Ld];rfl
theorem aas{sent:LN}(h:sent.length=80){p:Nat}(hp:p<10):Jv sent (8 * p)=w8 λb=>sent.getD (8 * p+b) 0:=by
 delta Jv w8
 rw[aar 0 sent (8 * p) au,Ld]
theorem sj(wd:Nat)(l:LN):dJ (wd::l)=nZ wd++dJ l:=by
 have:∀(l m:LN),l.foldl (λl wd=>l++nZ wd) m=m++l.foldl (λl wd=>l++nZ wd) []:=by
  intro l;induction l with
  |nil=>intro m;simp
  |cons a l ih=>intro m;simp
 delta dJ
 simp
theorem Il(l m:LN):dJ (l++m)=dJ l++dJ m:=by
 induction l with
 |nil=>rfl
 |cons a l ih=>rw[ET,sj,sj,ih,AN]
theorem C8(wd:Nat):(nZ wd).length=8:=by rfl
theorem XZ(cs:LN)(b:Nat):∀(k:Nat),k<cs.length->b<8->(dJ cs).getD (8 * k+b) 0=cs.getD k 0 / 2 ^ (7 - b) % 2:=by
 induction cs with
 |nil=>show λk h=>(rz k h).elim
 |cons wd cs iH=>
  intro k hk D;cases k with
  |zero=>
   rw[sj,da,u7 (by rw[C8];show AU D)]
   delta nZ
   rw[show 8 * 0+b=b by simp,cY,oE D];rfl
  |succ k=>rw[sj,da,yd (by rw[C8];lia),C8,show 8 * (k+1)+b - 8=8 * k+b by lia,<-da,iH k (by simpa using hk) D];rfl
theorem vX{cs:LN}(hl:cs.length=10)(D:∀x∈cs,x<256):zW (dJ cs)=cs:=by
 show Ii (by simp[zW,hl]) λi hi=>?_;simp[zW]at hi
 delta zW
 rw[da,cY,oE hi];change Jv _ _=_;rw[aas (by rw[pV,hl]) hi,Qs (g:=λb=>cs.getD i 0 / 2 ^ (7 - b) % 2) λb D=>XZ cs b i au D,XY _ (jg D i)]
end iO
namespace iO
def inR(aL:List Int)(c:Nat)(p:Nat×Nat):Prop:=vO aL<=p.1/\(p.1:Int)<(vO aL:Int)+RB aL c/\l4 aL<=p.2/\p.2<l4 aL+qJ aL
theorem JS(h:Sq pic)(p:Nat×Nat):iV (zY aL c pic) p=iV pic p\/(inR aL c p/\iV (zY aL c pic) p=1):=by
 have OJ:∀(l:LN) (i:Nat) (pic:List (LN)),i<13->(∀j∈l,j<13)->Sq pic->iV (l.foldl (λpic j=>pv pic i j 1) pic) p=iV pic p\/(p.1=i/\p.2∈l/\iV (l.foldl (λpic j=>pv pic i j 1) pic) p=1):=by
  intro l;induction l with
  |nil=>intro i pic _ _ _;show ao Z
  |cons j l ih=>
   intro i pic hi hj hs;dsimp only[iw];show bf (ih i (pv pic i j 1) hi (λj hj'=>hj j bC) (tV hs)) (λe=>?_) λi0=>hb i0 λe1 e2 e3=>aH (gQ e1 bC e3);rw[e];rw[show iV (pv pic i j 1) p=if p=(i,j) then 1 else iV pic p from(NS (q:=p) (v:=1) (p:=(i,j)) hs hi (hj j bC))];by_cases q:p=(i,j)
   .rw [if_pos q];show aH ⟨congrArg _ q,by rw[q];lia,rfl⟩
   .rw [if_neg q];show ao Z
 have afe:∀(rs l:LN) (pic:List (LN)),(∀i∈rs,i<13)->(∀j∈l,j<13)->Sq pic->Sq (rs.foldl (λpic i=>l.foldl (λpic j=>pv pic i j 1) pic) pic)/\
  (iV (rs.foldl (λpic i=>l.foldl (λpic j=>pv pic i j 1) pic) pic) p=iV pic p\/(p.1∈rs/\p.2∈l/\iV (rs.foldl (λpic i=>l.foldl (λpic j=>pv pic i j 1) pic) pic) p=1)):=by
  intro rs l;induction rs with
  |nil=>intro pic _ _ hs;show⟨hs,ao Z⟩
  |cons i rs ih=>
   intro pic hi hj hs;have zQ:Sq (l.foldl (λpic j=>pv pic i j 1) pic):=by
    have:∀(l:LN) (pic:List (LN)),Sq pic->Sq (l.foldl (λpic j=>pv pic i j 1) pic):=by
     intro l;induction l with
     |nil=>intro pic h;show h
     |cons j l ih=>intro pic h;show ih _ (tV h)
    show this l pic hs
   dsimp only[iw];show eX (ih _ (λi hi'=>hi i bC) hj zQ) λa b=>(⟨a,?_⟩);show bf b (λb=>?_) λi0=>hb i0 λb1 b2 b3=>aH (gQ bC b2 b3);rw[b];show bf (OJ l i pic (hi i bC) hj hs) (λe=>ao e) λi0=>hb i0 λe1 e2 e3=>aH (gQ bC e2 e3)
 have D:∀(t:Nat) (cB:Int),∀i∈(aI (uD t cB)).map (t+·),i<13/\t<=i/\(i:Int)<t+cB:=λt cB i hi=>by
  show bh (bG.mp hi) λk hk dX=>dX▸?_;have hk:=dm.mp hk;unfold uD RD at hk;split at hk
  .show ⟨nD1 (by assumption) hk Z,iZ ..,(Int.natCast_add t k).symm▸Int.add_lt_of_lt_sub_left (EF.mp hk)⟩
  .show ⟨nD2 hk Z,iZ ..,Ub (sP.mpr (nD2 hk Z)) (Int.not_lt.mp (by assumption))⟩
 have:=(afe ((aI (uD (vO aL) (RB aL c))).map (vO aL+·)) ((aI (uD (l4 aL) (qJ aL))).map (l4 aL+·)) pic (λi hi=>(D _ _ i hi).1) (λj hj=>(D _ _ j hj).1) h).2;show bf this (λe=>ao e) λi0=>hb i0 λe1 e2 e3=>have k1:=D _ _ _ e1;have k2:=D _ _ _ e2;aH ⟨(rN k1.2.1 k1.2.2 k2.2.1 au),e3⟩
theorem aiQ(aL:List Int):∀i,(G6 aL i).Nodup
 | 0=>ye
 |i+1=>Fp _ ye
theorem n6{p:Nat}(hp:p<10)(hk:p∉yR aL c)(b:Nat)(D:b<8):¬inR aL c (pJ (8 * p+b)):=by
 show λq=>iL q λh1 h2 h3 h4=>?_;unfold yR at hk;cases q:um aL c with
 |zero=>rw[q]at hk;show hk (dm.mpr hp)
 |succ i=>
  rw[q]at hk;rw[(by delta RB;rw[q];lia:RB aL c=(kQ aL:Int) - i)]at h2;show hk (gq.mpr ⟨dm.mpr hp,?_⟩);show decide_eq_true<|List.length_pos_of_mem (a:=[aj (pJ (8 * p+b)).1,aj (pJ (8 * p+b)).2]) (gq.mpr ⟨bG.mpr (ct (pJ (8 * p+b)) ?_ Z),?_⟩)
  .rw [aar (0,0) jf (8 * p) (by rw[pW];lia)];show bG.mpr (ct b (dm.mpr D) Z)
  .change ((gS .le _ _ && gS .lt _ _) && (gS .le _ _ && gS .lt _ _))=N;simp only[gS,qr,decide_eq_true_eq];show gQ ⟨yb.mpr h1,h2⟩ (yb.mpr h3) (Int.lt_of_toNat_lt h4)
theorem aat{place amount:Nat}(h:Sq pic)(hp:place<10)(h2:∀k,k<80->iV pic (pJ k)<2):
 Sq (Jx place amount pic)/\(∀k,k<80->iV (Jx place amount pic) (pJ k)<2)/\∀q,q<10->q≠place->∀b,b<8->iV (Jx place amount pic) (pJ (8 * q+b))=iV pic (pJ (8 * q+b)):=by
 have:∀(l:LN) (pic:List (LN)),(∀b∈l,b<8)->Sq pic->(∀k,k<80->iV pic (pJ k)<2)->Sq (l.foldl (qK place amount) pic)/\(∀k,k<80->iV (l.foldl (qK place amount) pic) (pJ k)<2)/\
  ∀q,q<10->q≠place->∀b,b<8->iV (l.foldl (qK place amount) pic) (pJ (8 * q+b))=iV pic (pJ (8 * q+b)):=by
  intro l;induction l with
  |nil=>intro pic _ hs h2;show gQ hs h2 (λ_ _ _ _ _=>rfl)
  |cons b l ih=>
   intro pic hl hs h2;have D:=hl b bC;have wb:=aga (8 * place+b) au;have E:∀q,iV (qK place amount pic b) q=if q=pJ (8 * place+b) then iV pic (pJ (8 * place+b)) ^^^ (amount / 2 ^ (7 - b) % 2) else iV pic q:=λq=>NS hs wb.1 wb.2
   show hb (ih (qK place amount pic b) (λb D=>hl b bC) (tV hs) (λk hk=>by
    rw[E];split
    .show E3 (n:=1) (h2 _ au) (mY _ bA)
    .show h2 k hk)) λa1 a2 a3=>gQ a1 a2 (λq hq qE b' hb'=>?_)
   rw[iw,a3 q hq qE b' hb',E,if_neg λe=>?_];have:=aaq (8 * q+b') au (8 * place+b) au e;lia
 show this (aI 8) pic (λb D=>dm.mp D) h h2
theorem aau(l:LN):∀(free:LN) (pic:List (LN)),(∀x∈free,x<10)->Sq pic->(∀k,k<80->iV pic (pJ k)<2)->
 ∃T:LN,T.length=l.length/\(∀k,k<80->iV (l.foldl (pA aL) (free,pic)).2 (pJ k)<2)/\∀q,q<10->q∉T->∀b,b<8->iV (l.foldl (pA aL) (free,pic)).2 (pJ (8 * q+b))=iV pic (pJ (8 * q+b)):=by
 induction l with
 |nil=>show λ_ _ _ _ h2=>kF [] rfl h2 (λ_ _ _ _ _=>rfl)
 |cons t l iH=>
  intro free pic hf hs h2;have Rj:free.getD (lr aL free t) 0<10:=by
   rw[da];cases q:free[lr aL free t]? with
   |none=>show(by decide:0<10)
   |some x=>show hf x (cW q)
  show hb (aat (amount:=tW aL t) hs Rj h2) λa1 a2 a3=>gC (iH (free.eraseIdx (lr aL free t)) (Jx (free.getD (lr aL free t) 0) (tW aL t) pic) (λx E=>hf x (Ul E)) a1 a2) λT b1 b2 b3=>kF (free.getD (lr aL free t) 0::T) (Nat.succ_inj.mpr b1) b2<|λq hq hT b D=>(b3 q hq (λh=>hT bC) b D).trans (a3 q hq (λe=>hT bC) b D)
theorem plain{data:LN}(hG:JQ gen)(hl:data.length+gen.length=10)(hd:∀x∈data,x<256):
 let sent:=dJ (data++(gT wB zG gen (data++cb gen.length 0) data.length).drop data.length)
 let pic:=(I5 sent (mF PU 8)).1
 sent.length=80/\(I5 sent (mF PU 8)).2=sent.length/\sent.take (dJ data).length=dJ data/\Sq pic/\
 (gen.length - (yR aL gen.length).length) / 2<=(BY (yR aL gen.length)).length/\(∀x∈n0 (su aL gen.length pic),x<256)/\
 (jQ (cH 10) (uw (kP (cH 10) (fR (n0 (su aL gen.length pic)) gen.length) (yR aL gen.length))).now 10).length=(uw (kP (cH 10) (fR (n0 (su aL gen.length pic)) gen.length) (yR aL gen.length))).size/\
 ϊ aL gen.length pic sent=N:=by
 intro sent pic;have hdb:∀x∈data++cb gen.length 0,x<256:=λx E=>by
  rcases b9.mp E with h|h
  .show hd x h
  .rw [u9 h];decide
 have ak3:=λr (hr:r<gen.length)=>enc hG hd au hr;have jA:(data++(gT wB zG gen (data++cb gen.length 0) data.length).drop data.length).length=10:=by rw[iu,AQ,(by rw[xt,iu,rk,hl]:(gT wB zG gen (data++cb gen.length 0) data.length).length=10)];lia
 have hcb:∀x∈data++(gT wB zG gen (data++cb gen.length 0) data.length).drop data.length,x<256:=λx E=>bf (b9.mp E) (λh=>hd x h) λh=>(SD (gen:=gen) hdb data.length) x (rn h);have Im:sent=dJ (data++(gT wB zG gen (data++cb gen.length 0) data.length).drop data.length):=rfl;have aiR:sent.take (dJ data).length=dJ data:=by rw[Im,Il,List.take_left]
 generalize xl:data++(gT wB zG gen (data++cb gen.length 0) data.length).drop data.length=cs at *;have W0:sent.length=80:=by rw[Im,pV,jA]
 show hb (placed W0) λp1 p2 p3=>?_;have p2:Sq pic:=p2;have p3:∀k,k<80->iV pic (pJ k)=sent.getD k 0:=p3;have wb:∀k b,k<10->b<8->sent.getD (8 * k+b) 0=cs.getD k 0 / 2 ^ (7 - b) % 2:=λk b hk D=>by rw[Im];show XZ cs b k au D
 have ak4:∀k,k<80->iV pic (pJ k)<2:=λk hk=>by rw[p3 k hk,show k=8 * (k / 8)+k % 8 by lia,wb _ _ (UK hk) au];show mY _ bA
 generalize pic=pic at *;have CL:∀k,k<80->iV (zY aL gen.length pic) (pJ k)<2:=λk hk=>by
  rcases JS p2 (pJ k) (aL:=aL) (c:=gen.length) with e|⟨_,e⟩
  .rw [e];show ak4 k hk
  .rw [e];decide
 show gC (aau (aL:=aL) (aI ((gen.length - (yR aL gen.length).length) / 2)) (BY (yR aL gen.length)) (zY aL gen.length pic) (λx E=>dm.mp (gq.mp E).1) (CR p2) CL) λT t1 t2 t3=>?_;have t1:=t1.trans KY;have aiS:∀p,p<10->p∉yR aL gen.length->p∉T->G7 (su aL gen.length pic) p=cs.getD p 0:=λp hp hk hT=>by
  rw[Qt hp,Qs (g:=λb=>cs.getD p 0 / 2 ^ (7 - b) % 2) λb D=>?_,XY _ (jg hcb p)];show(t3 p hp hT b D).symm▸?_;rcases JS p2 (pJ (8 * p+b)) (aL:=aL) (c:=gen.length) with e|⟨e,_⟩
  .show ((e).trans (p3 _ au)).trans (wb p b hp D)
  .show absurd e (n6 hp hk b D)
 have r8:(n0 (su aL gen.length pic)).length=10:=by rfl
 have Ζ:∀p,p<10->(n0 (su aL gen.length pic)).getD p 0=G7 (su aL gen.length pic) p:=λp hp=>by
  delta n0
  rw[da,cY,oE hp];rfl
 have aiT:∀x∈n0 (su aL gen.length pic),x<256:=λx E=>by show bh (bG.mp E) λp hp dX=>dX▸?_;have hp:=dm.mp hp;rw[Qt hp];show aiP λb D=>t2 _ au
 have hm:=mended (ws:=n0 (su aL gen.length pic)) (cs:=cs) (kn:=yR aL gen.length) (T:=T) (c:=gen.length) (by rw[r8];decide) (by rw[r8,jA]) aiT hcb (λr hr=>by show r8.symm▸hl▸?_;show ak3 r hr) (aiQ aL _) (by show r8.symm▸?_;show(W6 aL _)) au ((zX aL gen.length).1) (λp hp qE=>by
  rw[Ζ p hp]at qE;show if q1:p∈yR aL gen.length then ao q1 else ?_
  show if q2:p∈T then aH q2 else ?_
  show absurd (aiS p hp q1 q2) qE)
 show⟨W0,by rw[p1,W0],aiR,p2,?_,aiT,hm.1,?_⟩
 .have h1:(aI 10).length<=(yR aL gen.length++BY (yR aL gen.length)).length:=Bd ye λx E=>by
   show if q:x∈yR aL gen.length then dc _ q else ?_
   show ew _ (gq.mpr ⟨E,?_⟩);rw[ve,Bool.eq_false_iff];intro h;show bh (K0.mp h) λy hy e=>?_;obtain⟨z,hz,rfl⟩:=bG.mp hy;have:aj z=aj x:=by simpa using e
   show q (Wn this▸hz)
  rw[KY,iu]at h1;lia
 .delta ϊ
  show hm.2.symm▸Im.symm▸(vX jA hcb).symm▸decide_eq_true Z
end iO
structure Gr(n:Nat)(s Y:ae):Prop where
 size:Y.heap.objs.size=s.heap.objs.size+n
 keep:uf s.heap Y.heap
 gens:Y.gens=s.gens
 drawn:Y.drawn=s.drawn
 os:Y.os=s.os
theorem Gr.refl(s:ae):Gr 0 s s:=⟨rfl,λ_ _ e=>e,rfl,rfl,rfl⟩
theorem Gr.trans{m:Nat}{a b c:ae}(x:Gr m a b)(y:Gr n b c):Gr (m+n) a c:=⟨by rw[y.size,x.size,lM],λd o e=>y.keep d o (x.keep d o e),y.gens.trans x.gens,y.drawn.trans x.drawn,y.os.trans x.os⟩
theorem Gr.toks{a b:ae}(x:Gr n a b)(t:Nat):Gr n a {b with toks:=t}:=⟨x.size,x.keep,x.gens,x.drawn,x.os⟩
theorem Gr.push{a b:ae}(x:Gr n a b)(o:bj):Gr (n+1) a {b with heap:=b.heap.push o}:=⟨by rw[dD,x.size,lM],λd p e=>a8 _ (x.keep d p e),x.gens,x.drawn,x.os⟩
section
variable{fd2:bQ}
theorem Ya(X:(MJ P t fd fd2).In h):gO M h (Bind.madeBy (R 135)) ai:=nk X (rfl)
theorem age(X:(MJ P t fd fd2).In h):gO M h (mroOf (R 135)) [R 135,ak "tuple",ak "object"]:=nk X (rfl)
theorem Yb(X:(MJ P t fd fd2).In h):gO M h (rg (R 135) "__call__") (O (bx "type.__call__")):=nk X (rfl)
theorem adE(X:(MJ P t fd fd2).In h):gO M h (oy (R 135) (R 135)) N:=nk X (rfl)
theorem agf(X:(MJ P t fd fd2).In h):gO M h (oy (R 135) (ak "tuple")) N:=nk X (rfl)
theorem agg(X:(MJ P t fd fd2).In h):gO M h (oy (R 135) (ak "object")) N:=nk X (rfl)
theorem agh(X:(MJ P t fd fd2).In h):gO M h (rb (R 135) (ak "type")) N:=nk X (rfl)
theorem NU(X:(MJ P t fd fd2).In h):gO M h (gV (R 135) "__init__") (O (bx "object.__init__")):=nk X (rfl)
theorem adF(X:(MJ P t fd fd2).In h):gO M h (Bind.madeHere "tuple.__new__" (R 135)) ():=nk X bz
theorem aav:readsIn (MJ P t fd fd2) 135 (ak "type")=N:=by ext
theorem agi:Fm (MJ P t fd fd2) (R 135) (ak "type") "__new__" =O (CFound.get (bx "staticmethod.__get__") (R 136) aA (R 135)):=by ext
theorem aiU:recIn (MJ P t fd fd2) 136 "staticmethod" =O [R 82]:=by ext
theorem agj(X:(MJ P t fd fd2).In h):gO M h (classHasDel 135) af:=nk X (rfl)
end
section
set_option backward.match.sparseCases true
section
variable{fd2:bQ}
noncomputable def Qu:bj:={cls:=ak "list",data:=bU ([]:List aa).toArray}
theorem Qv{it:ab}{Q:List aa->ae->Prop}(ho:s.heap.get? it=O o)(hc:o.cls=ak "tuple")(hd:o.data=bU items n)(hz:items.size<=1000)(hQ:Q items.toList {s with heap:=(s.heap.push Qu).update s.heap.objs.size (dP (· ++items))}):ax (aG prog w) A (collect (R it)) Q a6 s:=by
 have hS:(s.heap.push Qu).get? s.heap.objs.size=O {cls:=ak "list",data:=bU #[] 0}:=bK _ Z;have hsz:items.size<=fc:=by have:fc=16777216:=jW;lia
 have ze:∀A',ax (aG prog w) A' (load s.heap.objs.size>>=λo=>match o.data with|bU K _=>pure K.toList |_=>Es "internal:collect") Q a6 {s with heap:=(s.heap.push Qu).update s.heap.objs.size (dP (· ++items))}:=λA'=>by show ag<|iW (gN (dP (· ++items)) hS Z)<|aB<|have e:((#[]:Array aa)++items)=items:=Vm;(?_:Q ((#[]:Array aa)++items).toList _);show e.symm▸hQ
 show ag<|Kg<|qd Ma<|ag (ig (aB ⟨lI Mc _,qd Fw ?_⟩));have key:=wpAny_extend_seq (prog:=prog) (w:=w) (hsz:=hsz) (A:=A) (R:=λr Y=>r=cf (cL (R s.heap.objs.size))/\Y={s with heap:=(s.heap.push Qu).update s.heap.objs.size (dP (· ++items))})
  (s:={s with heap:=s.heap.push Qu}) s.heap.objs.size it _ 0 (aH Z) hS (a8 _ ho) hc hd ⟨rfl,rfl⟩
 show gU key (λr Y h=>?_) λe Y h=>absurd h.1 fF;cases r with
 |done f=>
  obtain⟨h1,h2⟩:=h;subst h2;cases h1
  show ze _
 |again c=>show⟨h.1,codeAny_mono h.2 λr mE hr=>?_⟩;obtain⟨h1,h2⟩:=hr;subst h1 h2;show ze _
noncomputable def Yc(dx:ab)(K:Array aa):bj:={cls:=R 135,dict:=O dx,data:=bU K}
theorem ZD(X:(MJ P t fd fd2).In h):gO M h (sC "tuple.__new__" ⟨[R 135,R a],[]⟩) ():=nk X bz
theorem ZE(X:(MJ P t fd fd2).In h):gO M h (isType (R 135)) N:=nk X (rfl)
theorem agk{it:ab}(X:(MJ P t fd fd2).In s.heap)(ho:s.heap.get? it=O o)(hc:o.cls=ak "tuple")(hd:o.data=bU items n)(hz:items.size<=1000)(hQ:∀Y,Gr 3 s Y->Y.heap.get? (s.heap.objs.size+2)=O (Yc (s.heap.objs.size+1) items)->Y.heap.get? (s.heap.objs.size+1)=O te->Q (R (s.heap.objs.size+2)) Y):
 ax (aG prog w) A (call (bx "tuple.__new__") [R 135,R it]) Q a6 s:=by
 show kT<|xM<|ag ((ZD X).here (aB ⟨lI VK _,qd VL ?_⟩));show ag<|(ZE X).here<|ag<|(agf X).here<|ag<|(adF X).here<|ag<|(NU X).here<|ag<|fK (rfl)<|ag<|fK (rfl)<|ag (Qv ho hc hd hz (ag (aB ?_)));have hsz:((s.heap.push Qu).update s.heap.objs.size (dP (· ++items))).objs.size=s.heap.objs.size+1:=by rw[Heap.size_update,dD]
 have kk:∀b o,s.heap.get? b=O o->((s.heap.push Qu).update s.heap.objs.size (dP (· ++items))).get? b=O o:=λb o e=>(mh _ _ (oJ (cn e))).trans (a8 _ e);generalize (s.heap.push Qu).update s.heap.objs.size (dP (· ++items))=h1 at hsz kk ⊢;have e1:(h1.push te).objs.size=s.heap.objs.size+2:=by rw[dD,hsz]
 show ag (Au (ag ?_));rw[newObj];rw[if_neg (by have:fc=16777216:=jW;simp;lia)];show ag<|Au<|ag ((agj ((X.keeps kk).keeps λb o e=>a8 _ (a8 _ e))).here ?_);show aB<|aB<|e1.symm▸hQ _ ⟨by rw[dD,e1],λb o e=>a8 _ (a8 _ (kk b o e)),rfl,rfl,rfl⟩ ?_ ?_
 .show hsz▸e1▸bK _ Z
 .show hsz▸a8 _ (bK _ Z)
end
end
structure SG(P:bS)(t:Nat->aW)(fd fd2:bQ)(h:aN):Prop where
 pF:(MJ P t fd fd2).In h
 body:fd2.body=lh (bo Dn)
 scope:fd2.scope=bg Dn
 params:fd2.params=fo Dn
 glob:fd2.globals=ef
 bi:fd2.builtins=fY
 clo:fd2.closure=[]
 dft:fd2.defaults=aA
 kwd:fd2.kwdefaults=aA
 aiV:h.CodeRec fd2.code fd2.qualname
 lim:h.NoLimit
 tup:∃mg mb,h.Ns ef mg/\h.Ns fY mb/\mg (aC "tuple")=ai/\mb (aC "tuple")=O (ak "tuple")
theorem SG.keeps{fd2:bQ}(x:SG P t fd fd2 h)(k:uf h h'):SG P t fd fd2 h':=
 ⟨x.pF.keeps k,x.body,x.scope,x.params,x.glob,x.bi,x.clo,x.dft,x.kwd,x.aiV.keeps k,(bh x.lim λmc wL s'=>ct mc (wL.at' λo e=>k _ o e) s'),(jx x.tup λmg mb a b c=>Ot mg mb (a.at' λo e=>k _ o e) (b.at' λo e=>k _ o e) c)⟩
section
variable{fd2:bQ}
theorem aaw:Fm [] (ak "tuple") (ak "type") "__new__" =O (Mz (bx "tuple.__new__")):=by ext
theorem agl(X:SG P t fd fd2 s.heap)(v0 v1 v2 v3:aa):du fd2 ⟨[v0,v1,v2,v3],[]⟩=pure (([116,117,118,119].map NM).zip [v0,v1,v2,v3]):=by
 delta du
 show X.params.symm▸X.dft.symm▸X.kwd.symm▸?_;rfl
theorem agm{e1 e2 e3:aw}(h1:cG e1=af)(h2:cG e2=af)(h3:cG e3=af)(pos:aY):jH pos (iX [e1,e2,e3] J)=[(af,aZ e1 J),(af,aZ e2 J),(af,aZ e3 J)]:=by rw[dp h1,dp h2,dp h3];rfl
def ecB(a b c:Int)(ta tb tc:aW):List (aP×aa):=([116,117,118,119].map NM).zip [R 135,ah a ta,ah b tb,ah c tc]
noncomputable def SH(a b c:Int)(ta tb tc:aW):Array aa:=#[ah a ta,ah b tb,ah c tc]
def C9(A:ck)(s:ae)(P:bS)(t:Nat->aW)(fd:bQ)(fd2:bQ)(a:Int)(b:Int)(c:Int)(ta:aW)(tb:aW)(tc:aW)(aM:sJ->ae->Prop):Prop:=∀(X:SG P t fd fd2 s.heap) (bM:A.depth<900) (hR:∀Y,Gr 5 s Y->Y.heap.get? (s.heap.objs.size+4)=O (Yc (s.heap.objs.size+3) (SH a b c ta tb tc))->Y.heap.get? (s.heap.objs.size+3)=O te->aM (cf (cL (R (s.heap.objs.size+4)))) Y),oB (aG prog w) A (mZ (R 82) ⟨[R 135,ah a ta,ah b tb,ah c tc],[]⟩) aM s
def Io(c:(((ck×ae)×(bS×(Nat->aW)))×((bQ×bQ)×Int))×(((Int×Int)×aW)×((aW×aW)×(sJ->ae->Prop)))):Prop:=C9 c.1.1.1.1 c.1.1.1.2 c.1.1.2.1 c.1.1.2.2 c.1.2.1.1 c.1.2.1.2 c.1.2.2 c.2.1.1.1 c.2.1.1.2 c.2.1.2 c.2.2.1.1 c.2.2.1.2 c.2.2.2
def ir:=IH Io inferInstance
def mJ:=ir.1.1.1.2
def sk:=ir.1.2.1.2
def qU:=ir.1.2.2
def nU:=ir.2.1.1.1
def qV:=ir.2.1.1.2
def ny:=ir.2.1.2
def nB:=ir.2.2.1.1
def nE:=ir.2.2.1.2
def agn:=ir.2.2.2
theorem aax:C9 ir.1.1.1.1 mJ ir.1.1.2.1 ir.1.1.2.2 ir.1.2.1.1 sk qU nU qV ny nB nE agn:=λX bM hR=>by
 show J3 au (X.pF 82 _ Z) Z (by rw[X.scope];rfl) (by rw[X.scope];rfl) X.body X.aiV ?_;rw[agl X];show aB (Ap (by rw[X.scope];decide) (λx E=>?_) (λOB wL wb=>⟨X.lim.fresh _ wb,Kn ?_⟩) (by rw[X.scope];rfl))
 .show bh (bG.mp (sS (show(x.1,x.2)∈_ from E)).1) λy hy e=>X.scope.symm▸e▸?_;have:∀y∈[116,117,118,119],(bg Dn).names.lookup (NM y)=O cZ:=by decide
  show this y hy
 have g1:Gr 1 mJ {mJ with heap:=OB,toks:=mJ.toks+(ecB qU nU qV ny nB nE).length}:=⟨by rw[wb.1,dD],λnU o e=>wb.extBut nU o (fB (cn e)) (a8 _ e),rfl,rfl,rfl⟩
 have es1:({mJ with heap:=OB,toks:=mJ.toks+(ecB qU nU qV ny nB nE).length}:ae)={mJ with heap:=OB,toks:=mJ.toks+(([116,117,118,119].map NM).zip [R 135,ah qU ny,ah nU nB,ah qV nE]).length}:=rfl;show es1▸?_;generalize hs1:({mJ with heap:=OB,toks:=mJ.toks+(ecB qU nU qV ny nB nE).length}:ae)=s1 at g1 ⊢;show og λgG kG=>?_;obtain⟨mg,mb,hmg,hmb,t1,t2⟩:=(X.keeps g1.keep).tup;show kG ?_;clear kG gG;generalize adG:newEnv sk.scope mJ.heap.objs.size sk.globals sk.closure (sk.qualname++aC ".<locals>.") (O 82) sk.code ai sk.builtins=J;have esc:J.scope=bg Dn:=by subst adG;show X.scope
 have ek:J.scope.kind=d0:=by rw[esc];rfl
 have name:∀(y:Nat) (v:aa) (pos:aY) (s2:ae) (Q:aa->ae->Prop),J.kindOf (NM y)=O cZ->(ecB qU nU qV ny nB nE).reverse.lookup (NM y)=O v->s2.heap.Ns mJ.heap.objs.size (λx=>(ecB qU nU qV ny nB nE).reverse.lookup x)->Q v s2->∀A' E',ax (aG prog w) A' (aZ (ar (NM y) pos) J) Q E' s2:=λy v pos s2 Q hl hv hn hq A' E'=>
  qY (xD ek hl ((by rw[<-adG];rfl:J.locals=mJ.heap.objs.size).symm▸hn) hv hq) (wG y)
 have kinds:∀y∈[116,117,118,119],J.kindOf (NM y)=O cZ:=λy hy=>by
  delta j7
  rw[esc];have:∀y∈[116,117,118,119],(bg Dn).names.lookup (NM y)=O cZ:=by decide
  show this y hy
 show uR (wpAny_Expr (Ee (uR (xH ?_))) (by delta iG;rw[ek];rfl) Z);have g2:=g1.toks (s1.toks+1);generalize hs2:({s1 with toks:=s1.toks+1}:ae)=s2 at g2 ⊢;have ak5:s2.heap.Ns mJ.heap.objs.size (λx=>(ecB qU nU qV ny nB nE).reverse.lookup x):=by rw[<-hs2];show(by rw[<-hs1];show wL)
 show uq Z (rfl) (rfl) (qY (mL ek (by delta j7;rw[esc];decide+kernel) ((by rw[<-adG];show X.glob:J.globals=ef)▸(by rw[<-hs2];show hmg)) ((by rw[<-adG];show X.bi:J.builtins=fY)▸(by rw[<-hs2];show hmb)) t1 t2 λpl=>z_ aaw Z ?_) (rfl));have g3':=g2.toks (s2.toks+1);generalize S_:({s2 with toks:=s2.toks+1}:ae)=s3 at g3' ⊢;have r9:s3.heap.Ns mJ.heap.objs.size (λx=>(ecB qU nU qV ny nB nE).reverse.lookup x):=by subst S_;show ak5
 show Ve (rfl) ?_;rw[HM (rfl) (rfl)];show LW (rH (name 116 (R 135) _ _ _ (kinds 116 (nme Z)) Z r9 ?_ _ _));show rH<|Er<|rH (name 117 (ah qU ny) _ _ _ (kinds 117 (nme Z)) Z r9 ?_ _ _);show rH (name 118 (ah nU nB) _ _ _ (kinds 118 (nme Z)) Z r9 ?_ _ _);show rH (name 119 (ah qV nE) _ _ _ (kinds 119 (nme Z)) Z r9 ?_ _ _);show aB ⟨by have:fc=16777216:=jW;simp;lia,aB ?_⟩;show agk (n:=0) ((X.keeps g3'.keep).pF.keeps λnU o e=>a8 _ e) (bK _ Z) Z Z bA λs4 g4 h1 h2=>?_;have e3:(s3.heap.push ({cls:=ak "tuple",data:=bU ([ah qU ny,ah nU nB,ah qV nE]:List aa).toArray}:bj)).objs.size=mJ.heap.objs.size+2:=by rw[dD,g3'.size]
 rw[e3]at h1 h2;show e3.symm▸hR s4 ((g3'.push {cls:=ak "tuple",data:=bU ([ah qU ny,ah nU nB,ah qV nE]:List aa).toArray}).trans g4) h1 h2
theorem adH{fd2:bQ}{a:Int}{b:Int}{c:Int}{ta:aW}{tb:aW}{tc:aW}:C9 A s P t fd fd2 a b c ta tb tc aM:=hen (P:=Io) aax ((((A,s),(P,t)),((fd,fd2),a)),(((b,c),ta),((tb,tc),aM)))
end
section
variable{fd2:bQ}
theorem aiW{x:ab}{v1 v2 v3:aa}{Q:ij->ae->Prop}(X:(MJ P t fd fd2).In s.heap)(t1:gO (aG prog w) s.heap (xZ (R x)) (R 135))(h:Q (nq (cL aA)) s):ax (aG prog w) A (Builtin.«object.__init__» ⟨[R x,v1,v2,v3],[]⟩) Q a6 s:=by
 delta Builtin.«object.__init__»
 show ag<|t1.here<|ag<|(NU X).here<|ag<|(Ya X).here<|aB h
def Dc(A:ck)(a6:aa->ae->Prop)(s:ae)(P:bS)(t:Nat->aW)(fd:bQ)(fd2:bQ)(a:Int)(b:Int)(c:Int)(ta:aW)(tb:aW)(tc:aW)(Q:aa->ae->Prop):Prop:=∀(X:SG P t fd fd2 s.heap) (bM:A.depth<800) (hQ:∀Y,Gr 5 s Y->Y.heap.get? (s.heap.objs.size+4)=O (Yc (s.heap.objs.size+3) (SH a b c ta tb tc))->Y.heap.get? (s.heap.objs.size+3)=O te->Q (R (s.heap.objs.size+4)) Y),ax (aG prog w) A (call (R 135) [ah a ta,ah b tb,ah c tc]) Q a6 s
def Ip(c:(((ck×(aa->ae->Prop))×(ae×bS))×(((Nat->aW)×bQ)×bQ))×(((Int×Int)×(Int×aW))×((aW×aW)×(aa->ae->Prop)))):Prop:=Dc c.1.1.1.1 c.1.1.1.2 c.1.1.2.1 c.1.1.2.2 c.1.2.1.1 c.1.2.1.2 c.1.2.2 c.2.1.1.1 c.2.1.1.2 c.2.1.2.1 c.2.1.2.2 c.2.2.1.1 c.2.2.1.2 c.2.2.2
def ib:=IH Ip inferInstance
def SI:=ib.1.1.1.1
def qb:=ib.1.1.2.1
def De:=ib.2.1.1.1
def Df:=ib.2.1.1.2
def Dg:=ib.2.1.2.1
def y9:=ib.2.1.2.2
def za:=ib.2.2.1.1
def zb:=ib.2.2.1.2
theorem aay:Dc SI ib.1.1.1.2 qb ib.1.1.2.2 ib.1.2.1.1 ib.1.2.1.2 ib.1.2.2 De Df Dg y9 za zb ib.2.2.2:=λX bM hQ=>by
 have hC:=X.pF 135 _ Z;show kT (xM ?_);change ax _ _ (callAny (R 135) ⟨[ah De y9,ah Df za,ah Dg zb],[]⟩) _ _ qb;dsimp only[callAny];show ag (iW hC ?_);change ax _ _ (Wi (R 135) _) _ _ _;unfold Wi;show ag ((Yb X.pF).here ?_);dsimp only;rw[tc_bind];show ag (aB (ag (aB ?_)));show aB (a:=yG (mZ (bx "type.__call__") ⟨R 135::[ah De y9,ah Df za,ah Dg zb],[]⟩)) (FP Z (xM ?_));change ax _ SI.in1 (do sC "type.__call__" ⟨R 135::[ah De y9,ah Df za,ah Dg zb],[]⟩;again (fM "type.__call__" ⟨R 135::[ah De y9,ah Df za,ah Dg zb],[]⟩)) _ _ qb;show ag (U9 tc_kind tc_split (agh X.pF) (Vb _ _ _) (aB ⟨A4 _ (by decide+kernel),qd entry_typeCall ?_⟩));unfold Builtin.«type.__call__»;dsimp only;rw[if_neg (show¬((R 135==ak "type")=N) from Bool.false_ne_true)];show ag ((age X.pF).here ?_);rw[if_neg aK];show ag ((Ya X.pF).here ?_);dsimp only;show ag (cls_bind X.pF aav agi (kT (sm_get X.pF aiU (handed_on (by decide+kernel) ?_))));have g0:=(Gr.refl qb).toks (qb.toks+1);generalize XX:({qb with toks:=qb.toks+1}:ae)=s0 at g0 ⊢;have X0:=X.keeps g0.keep;have e0:s0.heap.objs.size=qb.heap.objs.size:=g0.size;show ag (cO (kT (adH X0 ?_ λs5 g5 h1 h2=>?_)))
 .change SI.depth+1<900;lia
 rw[e0]at h1 h2 ⊢;have g:=g0.trans g5;have X5:=X.keeps g.keep;have t1:gO (aG prog w) s5.heap (xZ (R (qb.heap.objs.size+4))) (R 135):=(Fo h1).andThen vm;have t2:gO (aG prog w) s5.heap (rb (R (qb.heap.objs.size+4)) (R 135)) N:=t1.andThen (adE X5.pF);have t3:gO (aG prog w) s5.heap (rg (R (qb.heap.objs.size+4)) "__init__") (O (bx "object.__init__")):=t1.andThen (NU X5.pF);have t4:gO (aG prog w) s5.heap (rb (R (qb.heap.objs.size+4)) (ak "object")) N:=t1.andThen (agg X5.pF);show ag (t2.here ?_);rw[if_neg aK];show ag (cO ?_);unfold xO;show ag (t3.here ?_);dsimp only;show cO (ag (fK (PySem.W.oi_bind _) ?_));show ag (kT (xE oi_plain entry_oi (@LR (aG prog w) _ _ _ "object.__init__" "object" "__init__" (R (qb.heap.objs.size+4)) [ah De y9,ah Df za,ah Dg zb] [] _ oi_kind oi_split t4 (by unfold jX;ext) ?_)));show aiW X5.pF t1 ?_;show aB ?_;change ax _ _ (if(aA != aA)=N then _ else _) _ _ _;rw[if_neg aK];show aB (hQ _ g h1 h2)
theorem adI{fd2:bQ}{a:Int}{b:Int}{c:Int}{ta:aW}{tb:aW}{tc:aW}:Dc A a6 s P t fd fd2 a b c ta tb tc Q:=hen (P:=Ip) aay ((((A,a6),(s,P)),((t,fd),fd2)),(((a,b),(c,ta)),((tb,tc),Q)))
end
set_option genCtorIdx true in
set_option genInjectivity true in
inductive MK where
 |none
 |int(i:Int)
 |str(x:aP)
deriving DecidableEq
noncomputable def MK.is:MK->aa->Bool
 | .none,aA=>N
 | .int i,ah j _=>j==i
 | .str x,cI y _=>y==x
 |_,_=>af
theorem qM{k:MK}(h:k.is v=N):(k= .none/\v=aA)\/(∃i t,k= .int i/\v=ah i t)\/∃x t,k= .str x/\v=cI x t:=by
 cases k<;>cases v<;>first|(simp[MK.is]at h)|skip
 .show ao ⟨rfl,rfl⟩
 .subst h;show aH (ao (kH _ _ Z Z))
 .subst h;show aH (aH (kH _ _ Z Z))
noncomputable def MK.of:aa->Option MK
 |aA=>O .none
 |ah i _=>O (.int i)
 |cI x _=>O (.str x)
 |_=>eU
theorem Iq{k:MK}(h:k.is v=N):MK.of v=O k:=
 (qM h).elim (λi=>i.1▸i.2▸rfl) λi=>i.elim (λi=>eQ i λ_ _ a b=>a▸b▸rfl) λi=>eQ i λ_ _ a b=>a▸b▸rfl
def MK.hash(w:fz):MK->Int
 | .none=>reduceHash 4238894112
 | .int i=>hashInt i
 | .str x=>hashStr w x
theorem adJ{k:MK}{Q:Int->ae->Prop}(h:k.is v=N)(hQ:Q (k.hash w) {s with toks:=s.toks+1}):ax (aG prog w) A (pyHash v) Q a6 s:=by
 rcases qM h with⟨rfl,rfl⟩|⟨i,t,rfl,rfl⟩|⟨x,t,rfl,rfl⟩
 .show pyHash_slot Z PySem.F.slot_NoneType_hash PySem.F.entry_NoneType_hash (PySem.F.args_NoneType_hash_1 _) (beq_builtin_none _) (ao Z) (ag (aB (ag (Ks (aB (kH _ _ Z hQ))))))
 .show wpAny_pyHash_int hQ
 .show wpAny_pyHash_str hQ
theorem Dh{u:aa}{b:Bool}{Q:Bool->ae->Prop}(qE:(u==v)=af)(hf:∀x t,u≠Value.float x t)(h:∀Q':aa->ae->Prop,Q' (dB b) s->ax (aG prog w) A (Ey Bn u v) Q' a6 s)(hQ:Q b s):ax (aG prog w) A (eqBool u v) Q a6 s:=by show cO ?_;rw[if_neg (by rw[qE];decide)];cases u<;>first|show(ag (h _ (l8 hQ)))|show absurd Z (hf _ _)
theorem aiX{a b:MK}{u:aa}{Q:Bool->ae->Prop}(ha:a.is u=N)(D:b.is v=N)(hQ:Q (decide (a=b)) s):ax (aG prog w) A (eqBool u v) Q a6 s:=by
 rcases qM ha with⟨rfl,rfl⟩|⟨i,t,rfl,rfl⟩|⟨x,t,rfl,rfl⟩<;>rcases qM D with⟨rfl,rfl⟩|⟨j,t',rfl,rfl⟩|⟨y,t',rfl,rfl⟩
 .show cO (ag (mR (aB hQ)))
 .show Dh (rfl) (λ_ _=>by nofun) (λQ' q=>EqNone.eq_none_int q) hQ
 .show Dh (rfl) (λ_ _=>by nofun) (λQ' q=>EqNone.eq_none_str q) hQ
 .show Dh (rfl) (λ_ _=>by nofun) (λQ' q=>EqNone.eq_int_none q) hQ
 .show wpAny_eqBool_int ?_;have:decide (MK.int i=MK.int j)=(i==j):=by
   by_cases e:i=j
   .show e▸?_;simp
   .rw [beq_eq_false_iff_ne.mpr e];show decide_eq_false λq=>e (MK.int.inj q)
  show this▸hQ
 .show Dh (rfl) (λ_ _=>by nofun) (λQ' q=>EqMixed.eq_int_str q) hQ
 .show Dh (rfl) (λ_ _=>by nofun) (λQ' q=>EqNone.eq_str_none q) hQ
 .show Dh (rfl) (λ_ _=>by nofun) (λQ' q=>EqMixed.eq_str_int q) hQ
 .show wpAny_eqBool_str ?_;have:decide (MK.str x=MK.str y)=decide (x=y):=by
   by_cases e:x=y
   .skip;simp
   .rw [decide_eq_false e];show decide_eq_false λq=>e (MK.str.inj q)
  show this▸hQ
def dZ:KeyKind prog w MK where
 is:=MK.is
 hash:=MK.hash w
 inj v a b ha D:=aV ((Iq ha).symm.trans (Iq D))
 byValue k v h:=by rcases qM h with⟨rfl,rfl⟩|⟨i,t,rfl,rfl⟩|⟨x,t,rfl,rfl⟩<;>rfl
 pyHash:=adJ
 eqBool:=aiX
 «strs» k x t v h:=aV (Iq h)▸(by cases v<;>rfl)
def M2{α:Type}(aM:α->aa->Prop)(iB:List (MK×aa))(sp:List (MK×α)):Prop:=iB.length=sp.length/\∀(j:Nat) k v k' a,iB[j]? =O (k,v)->sp[j]? =O (k',a)->k=k'/\aM a v
section
variable{aM R':α->aa->Prop}{iB rS:List (MK×aa)}{sp sp':List (MK×α)}
theorem M2.nil:M2 aM [] []:=⟨rfl,λj k v k' a e=>by ext⟩
theorem M2.mono(x:M2 aM iB sp)(h:∀a v,aM a v->R' a v):M2 R' iB sp:=⟨x.1,λj k v k' a e1 e2=>⟨(x.2 j k v k' a e1 e2).1,h a v (x.2 j k v k' a e1 e2).2⟩⟩
theorem M2.app(x:M2 aM iB sp)(y:M2 aM rS sp'):M2 aM (iB++rS) (sp++sp'):=⟨by rw[iu,iu,x.1,y.1],λj k v k' a e1 e2=>by
 rcases mj j iB.length with h|h
 .rw [u7 h]at e1;rw[u7 (x.1▸h)]at e2;show x.2 j k v k' a e1 e2
 .rw [yd h]at e1;rw[yd (x.1▸h),<-x.1]at e2;show y.2 _ k v k' a e1 e2⟩
theorem M2.one{k:MK}{a:α}(h:aM a v):M2 aM [(k,v)] [(k,a)]:=⟨rfl,λj k1 v1 k' a' e1 e2=>by
 cases j with
 |zero=>obtain⟨rfl,rfl⟩:=tx (aV e1);obtain⟨rfl,rfl⟩:=tx (aV e2);show⟨rfl,h⟩
 |succ j=>show Bq (by assumption)⟩
theorem M2.cons{k:MK}{a:α}(h:aM a v)(x:M2 aM iB sp):M2 aM ((k,v)::iB) ((k,a)::sp):=(M2.one h).app x
theorem M2.keys(x:M2 aM iB sp):iB.map (·.1)=sp.map (·.1):=EM λj=>by
 rw[cY,cY];rcases mj j iB.length with h|h
 .have h':=x.1▸h;rw[dE h,dE h'];show congrArg O (x.2 j _ _ _ _ (dE h) (dE h')).1
 .rw [rl h,rl (x.1▸h)];rfl
end
noncomputable abbrev Sp(α:Type):=MK×α×Nat
noncomputable def jk{α:Type}(l:List (Sp α)):List (MK×α):=l.map λx=>(x.1,x.2.1)
noncomputable def zH{α:Type}:List (Sp α)->Nat
 | []=>0
 |x::l=>x.2.2+zH l
def PW{α:Type}(W:aE aa×aE aa->Sp α->Prop):List (aE aa×aE aa)->List (Sp α)->Prop
 | [],[]=>True
 |p::ps,x::K=>W p x/\PW W ps K
 |_,_=>False
theorem PW.mono{W W':aE aa×aE aa->Sp α->Prop}(h:∀p x,W p x->W' p x){ps:List (aE aa×aE aa)}:∀{K:List (Sp α)},PW W ps K->PW W' ps K:=by
 induction ps with
 |nil=>intro K;cases K<;>show id
 |cons p ps ih=>
  intro K;cases K with
  |nil=>show id
  |cons x K=>show λq=>⟨h _ _ q.1,ih q.2⟩
theorem PW.len{α:Type}{W:aE aa×aE aa->Sp α->Prop}:∀{ps:List (aE aa×aE aa)} {K:List (Sp α)},PW W ps K->ps.length=K.length
 | [],[],_=>rfl
 |_::_,_::_,⟨_,b⟩=>by rw[oF,oF,PW.len b]
 | [],_::_,e=>e.elim
 |_::_,[],e=>e.elim
structure Rel(α:Type) where
 aM:Nat->aN->α->aa->Prop
 mono:∀lo h h' a v,(∀b o,lo<=b->h.get? b=O o->h'.get? b=O o)->aM lo h a v->aM lo h' a v
 down:∀lo lo' h a v,lo'<=lo->aM lo h a v->aM lo' h a v
def xu{α:Type}(r:Rel α)(aJ:ae)(p:aE aa×aE aa)(x:Sp α):Prop:=
 ∀(A:ck) (a6:aa->ae->Prop) (s:ae) (lo:Nat) (Q:aa->aa->ae->Prop),A.depth<700->(uf aJ.heap s.heap)->lo<=s.heap.objs.size->
  (∀kv vv Y,Gr x.2.2 s Y->x.1.is kv=N->r.aM lo Y.heap x.2.1 vv->Q kv vv Y)->ax (aG prog w) A p.1 (λkv s1=>ax (aG prog w) A p.2 (λvv s2=>Q kv vv s2) a6 s1) a6 s
theorem xu.later{r:Rel α}{p:aE aa×aE aa}{x:Sp α}(h:xu r aJ p x)(k:uf aJ.heap aD.heap):xu r aD p x:=
 λA a6 s lo Q ha hk=>h A a6 s lo Q ha λb o e=>hk b o (k b o e)
section
variable{r:Rel α}
theorem aiY(ha:A.depth<700){lo:Nat}(ps:List (aE aa×aE aa)):∀(K:List (Sp α)) (s:ae) (Q:List (aa×aa)->ae->Prop),PW (xu r aJ) ps K->(uf aJ.heap s.heap)->lo<=s.heap.objs.size->
 (∀vs iB Y,Carries (dZ) vs iB->M2 (r.aM lo Y.heap) iB (jk K)->Gr (zH K) s Y->Q vs Y)->ax (aG prog w) A (evalPairs ps) Q a6 s:=by
 induction ps with
 |nil=>
  intro K s Q hp _ _ hQ;cases K with
  |nil=>show evalPairs_nil (hQ [] [] s trivial .nil (.refl s))
  |cons=>show hp.elim
 |cons p ps iH=>
  intro K s Q hp hk IF hQ;cases K with
  |nil=>show hp.elim
  |cons x K=>show evalPairs_cons<|hp.1 A a6 s lo _ ha hk IF λkv vv s1 g1 ZF hvv=>iH K s1 _ hp.2 (λb o e=>g1.keep b o (hk b o e)) (by rw[g1.size];lia) λvs iB s2 hc hm g2=>(hQ _ ((x.1,vv)::iB) s2 (gQ ZF Z hc) (.cons (r.mono _ _ _ _ _ (λb o _ e=>g2.keep b o e) hvv) hm) (g1.trans g2))
structure SJ(d n:Nat)(s Y:ae):Prop where
 size:Y.heap.objs.size=s.heap.objs.size+n
 keep:∀b o,b≠d->s.heap.get? b=O o->Y.heap.get? b=O o
 gens:Y.gens=s.gens
 drawn:Y.drawn=s.drawn
 os:Y.os=s.os
theorem SJ.refl(d:Nat)(s:ae):SJ d 0 s s:=⟨rfl,λ_ _ _ e=>e,rfl,rfl,rfl⟩
theorem SJ.trans{d m:Nat}{a b c:ae}(x:SJ d m a b)(y:SJ d n b c):SJ d (m+n) a c:=⟨by rw[y.size,x.size,lM],λe o q h=>y.keep e o q (x.keep e o q h),y.gens.trans x.gens,y.drawn.trans x.drawn,y.os.trans x.os⟩
theorem SK{d:Nat}{a b:ae}(x:Gr n a b):SJ d n a b:=⟨x.size,λe o _ h=>x.keep e o h,x.gens,x.drawn,x.os⟩
theorem SJ.same{d:Nat}{t:Nat}(x:gv d s.heap h'):SJ d 0 s {s with heap:=h',toks:=t}:=⟨x.1,λb o q e=>x.extBut b o q e,rfl,rfl,rfl⟩
theorem SM{iB:List (MK×aa)}{k:MK}(h:k∉iB.map (·.1)):stored iB k v=iB++[(k,v)]:=by rw[stored,if_neg];rw[K0];show λqQ=>bh qQ λkv ZF he=>(h (bG.mpr (ct kv ZF (of_decide_eq_true he))))
noncomputable def aiZ(d:ab)(x:aE aa×aE aa)(_:PUnit):aE (ForInStep PUnit):=do let kv<-x.1;let vv<-holding [kv] x.2;holding [kv,vv] (dictSet d kv vv);pure (mn FO)
theorem adK(ha:A.depth<700){d:Nat}(hd0:aJ.heap.get? d=ai)(ps:List (aE aa×aE aa)):∀(K:List (Sp α)) (jw:List (MK×α)) (iB:List (MK×aa)) (s:ae) (Q:PUnit->ae->Prop),PW (xu r aJ) ps K->
 (uf aJ.heap s.heap)->d<s.heap.objs.size->s.heap.DictOf (dZ) d iB->M2 (r.aM (d+1) s.heap) iB jw->((jw++jk K).map (·.1)).Nodup->iB.length+ps.length<=1000->
 (∀rS Y,Y.heap.DictOf (dZ) d rS->M2 (r.aM (d+1) Y.heap) rS (jw++jk K)->SJ d (zH K) s Y->Q FO Y)->
 ax (aG prog w) A (forIn ps FO (aiZ d)) Q a6 s:=by
 induction ps with
 |nil=>
  intro K jw iB s Q hp _ _ hd hm _ _ hQ;cases K with
  |cons=>show hp.elim
  |nil=>show aB (hQ iB s hd ?_ (.refl d s));show(yg jw).symm▸hm
 |cons p ps iH=>
  intro K jw iB s Q hp hk jz hd hm hn hsz hQ;cases K with
  |nil=>show hp.elim
  |cons x K=>
   obtain⟨k,v⟩:=p;rw[yf];have hnk:x.1∉iB.map (·.1):=by rw[hm.keys];rw[j0,qh]at hn;show λq=>hn.2.2 _ q x.1 (AK Z) Z
   dsimp only[oF]at hsz;show ag ?_;generalize hQQ:(λ(a:ForInStep PUnit) (Y:ae)=>ax (aG prog w) A _ Q a6 Y)=QQ;show ag (gU (hp.1 A a6 s (d+1) (λkv vv s2=>ax (aG prog w) A (holding [kv,vv] (dictSet d kv vv)>>=λ_=>pure (mn FO)) QQ a6 s2) ha hk jz λkv vv s1 g1 ZF hvv=>?_) (λkv s1 h1=>ag (cO (gU h1 (λvv s2 h2=>h2) λ_ _ e=>e))) λ_ _ e=>e);subst hQQ;show ag (cO (wpAny_dictSet_pairs (hsz:=by lia) ZF (eY hd λo es ep h1 h2=>Bt o es ep (g1.keep _ _ h1) h2) λh2 hd2 hs2=>aB ?_));rw[SM hnk]at hd2;have f1:SJ d x.2.2 s {s1 with heap:=h2,toks:=s1.toks+1}:=(SK g1).trans (SJ.same hs2);show iH K (jw++[(x.1,x.2.1)]) (iB++[(x.1,vv)]) {s1 with heap:=h2,toks:=s1.toks+1} Q hp.2 (λb o e=>f1.keep b o (λq=>by have e:=hd0▸q▸e;ext) (hk b o e)) (by rw[f1.size];show Lw x.snd.snd jz) hd2 ?_ (by rw[(by simp[jk]:((jw++[(x.1,x.2.1)])++jk K).map (·.1)=(jw++jk (x::K)).map (·.1))];show hn) (by show iu.symm▸List.length_singleton.symm▸?_;lia) λrS Y h1 h2 h3=>?_
   .have up:∀a v,r.aM (d+1) s1.heap a v->r.aM (d+1) h2 a v:=λa v h=>r.mono _ _ _ _ _ (λb o D e=>hs2.extBut b o (λq=>absurd D (by rw[q];show Lo d)) e) h;show((hm.mono λa v h=>r.mono _ _ _ _ _ (λb o _ e=>g1.keep b o e) h).mono up).app (.one (up _ _ hvv))
   .show hQ rS Y h1 ?_ (f1.trans h3);have e:jw++[(x.1,x.2.1)]++jk K=jw++jk (x::K):=by simp[jk]
    rw[<-e];show h2
end
section
variable{r:Rel α}
theorem aaz(ha:A.depth<700){ps:List (aE aa×aE aa)}{K:List (Sp α)}{Q:ab->ae->Prop}(hp:PW (xu r s) ps K)(hn:((jk K).map (·.1)).Nodup)(hl:ps.length<=1000)(hQ:∀iB Y,Gr (1+zH K) s Y->Y.heap.DictOf (dZ) s.heap.objs.size iB->M2 (r.aM (s.heap.objs.size+1) Y.heap) iB (jk K)->Q s.heap.objs.size Y):ax (aG prog w) A (subDict ps) Q a6 s:=by
 have hs:fc=16777216:=jW;have hd0:s.heap.get? s.heap.objs.size=ai:=bF _;have g1:Gr 1 s {s with heap:=s.heap.push {cls:=ak "dict",data:=eJ #[]}}:=(Gr.refl s).push _;have hd1:(s.heap.push {cls:=ak "dict",data:=eJ #[]}).DictOf (dZ) s.heap.objs.size []:=ag3 _ (#[]) 0 (bK _ Z) ⟨rfl,rfl,rfl⟩ Z (λe he=>by simp at he) (by first|show trivial|show Pairs.nil|(trivial)) List.nodup_nil;show ag (Au (ag (cO ?_)));by_cases h15:ps.length<=15
 .rw [if_pos h15];show ag (aiY ha (lo:=s.heap.objs.size+1) ps K _ _ hp g1.keep (by rw[dD];show ey _) λvs iB s2 hc hm g2=>?_);have Rj:iB.length<=1000:=by rw[hm.1];delta jk;rw[il,<-hp.len];show hl
  show cO (ag (wpAny_storeAll (knd:=dZ) vs iB [] s2 _ hc (eY hd1 λo es ep h1 h2=>Bt o es ep (g2.keep _ _ h1) h2) (by dsimp only[K9];lia) λh3 hd3 S_=>aB (aB ?_)));rw[merged_nil_of_nodup iB (by rw[hm.keys];show hn)]at hd3;show hQ iB _ ⟨by rw[S_.1,g2.size,g1.size,lM],λb o e=>S_.extBut b o (λq=>by have e:=hd0▸q▸e;ext) (g2.keep b o (g1.keep b o e)),g2.gens,g2.drawn,g2.os⟩ hd3 (hm.mono λa v h=>r.mono _ _ _ _ _ (λb o D e=>S_.extBut b o (λq=>absurd D (by rw[q];show Lo _)) e) h)
 .rw [if_neg h15];show ag<|mR<|ag<|adK ha hd0 ps K [] [] _ _ hp g1.keep (by rw[dD];show ja _) hd1 .nil (hn) (by dsimp only[K9];lia) λiB s2 hd2 hm f2=>aB<|aB<|hQ iB s2 ⟨by rw[f2.size,g1.size,lM],λb o e=>f2.keep b o (λq=>by have e:=hd0▸q▸e;ext) (g1.keep b o e),f2.gens,f2.drawn,f2.os⟩ hd2 hm
def Di(A:ck)(a6:aa->ae->Prop)(s:ae)(d:ab)(m:ab)(iB:List (MK×aa))(more:List (MK×aa))(Q:Unit->ae->Prop):Prop:=∀(hdm:d≠m) (hmS:(m==sH)=af) (hd:s.heap.DictOf (dZ) d iB) (hm:s.heap.DictOf (dZ) m more) (qE:iB≠[]) (hn:((iB++more).map (·.1)).Nodup) (hsz:iB.length+more.length<=1000) (hQ:∀h',h'.DictOf (dZ) d (iB++more)->gv d s.heap h'->Q () {s with heap:=h'}),ax (aG prog w) A (mergeMapping d (R m) af) Q a6 s
def Ir(c:((ck×(aa->ae->Prop))×(ae×ab))×((ab×(List (MK×aa)))×((List (MK×aa))×(Unit->ae->Prop)))):Prop:=Di c.1.1.1 c.1.1.2 c.1.2.1 c.1.2.2 c.2.1.1 c.2.1.2 c.2.2.1 c.2.2.2
def l7:=IH Ir inferInstance
def Iu:=l7.1.2.1
def NV:=l7.1.2.2
def NW:=l7.2.1.1
def pK:=l7.2.1.2
def iN:=l7.2.2.1
theorem aaA:Di l7.1.1.1 l7.1.1.2 Iu NV NW pK iN l7.2.2.2:=λhdm hmS hd hm qE hn hsz hQ=>by
 have hs:fc=16777216:=jW;show rW hd λod esd epd hod hcd hdd hkd hpd tQ=>(rW hm λom SN epm hom hcm adL Rb hpm hnm=>?_);have dM:iN.length=SN.size:=by show hpm.length▸?_;rfl
 have hT:Iu.TypeIs (R NW) "dict" :=hm.typeIs;have ak6:esd.isEmpty=af:=by
  cases q:esd.isEmpty with
  |false=>rfl
  |true=>have:=hpd.length;rw[(Array.isEmpty_iff.mp q)]at this;show absurd (rj.mp (this.symm)) qE
 show ag<|mP hT isSubtype_dict_dict<|ag<|eH hT PySem.F.slot_dict_iter.lookup<|ag<|aB<|(show(O (bx "dict.__iter__")==O (bx "dict.__iter__"))=N from by decide+kernel).symm▸?_;dsimp only;rw[if_neg (by rw[hmS];decide)];show ag (Ka hod hdd ?_);rw[if_neg (by rw[ak6];decide)];show ag<|Ka hom adL<|ag<|T5 hom adL<|ag<|List.range_eq_range'.symm▸wpAny_forIn_list _ (λrest _ Y=>∃h' i,Y={Iu with heap:=h'}/\rest=UG i (SN.size - i)/\i<=SN.size/\h'.DictOf (dZ) NV (pK++iN.take i)/\h'.get? NW=O om/\gv NV Iu.heap h') _ ?_ ?_ _ _
  (ag2 Iu.heap 0 Z Z (fg _) (by simpa using hd) hom (U8 _ _))
 .intro x rest b Y oj;show Cy oj λh' i dX hr hi Θ ago zQ=>?_;subst dX;have jz:i<SN.size:=by show bf (mj i SN.size) (λh=>h) λh=>by rw[Li h]at hr;ext
  show eX (show x=i/\rest=UG (i+1) (SN.size - (i+1)) from by
   have e:SN.size - i=(SN.size - (i+1))+1:=nj0 jz;rw[e,UA]at hr;injection hr with h1 h2
   show⟨h1,h2⟩) λdX Η=>?_
  subst dX;show ag (Ka ago adL ?_);rw[yy jz];show og λgG kG=>?_;obtain⟨⟨k,v⟩,ZF⟩:∃kv,iN[x]? =O kv:=⟨iN[x]'(dM▸jz),dE _⟩;show eX (hpm.get? (e:=SN[x]) (by simp[jz]) ZF) λadM ak7=>bh (Rb SN[x] (Array.getElem_mem jz)) λk' ai0 ai1=>kG ?_;clear kG gG;obtain rfl:=(dZ).inj _ _ _ ai0 adM;dsimp only;rw[if_neg aK,ai1,ak7];have hmem:k'∉(pK++iN.take x).map (·.1):=by
   have e:pK++iN=(pK++iN.take x)++iN.drop x:=by rw[AN,EL]
   rw[e,j0,qh]at hn;intro q;show hn.2.2 k' q k' ?_ Z;have:(iN.drop x)[0]? =O (k',v):=by rw[KX,A1];show ZF
   show bG.mpr (ct (k',v) (cW this) Z)
  have hlx:(pK++iN.take x).length<=1000:=by rw[iu,AP];lia
  show rW Θ λo2 es2 ep2 ϖ hc2 hd2 hk2 YL FU=>?_;have Ω:(es2.findIdx? λe=>(dZ).is k' e.key)=(pK++iN.take x).findIdx? λkv=>decide (kv.1=k'):=by rw[<-YL.findIdx k'];obtain⟨l⟩:=es2;show List.findIdx?_toArray (λe=>dZ.is k' e.key) l
  have hi2:(es2.findIdx? λe=>(dZ).is k' e.key)=ai:=by rw[Ω];show List.findIdx?_eq_none_iff.mpr λkv ZF=>decide_eq_false λq=>hmem (bG.mpr (ct kv ZF q))
  have hz2:es2.size<=fc:=by
   have e1:=YL.length;have e2:es2.toList.length=es2.size:=by rfl
   lia
  show ag<|cO<|ag<|wpAny_dictFind_of adM ϖ hd2 hk2<|hi2.symm▸wpAny_updateDictKeys (hz:=hz2) ϖ hd2 ?_;have ss:=j5 (h:=h') NV (Obj.mapDictKeys (·.push ⟨(dZ).hash k',SN[x].key,v⟩));have ai2:=(ss.2 NW (eO hdm)).trans ago;show ag (T5 ai2 adL ?_);rw[if_neg fF];show aB (ag2 _ (x+1) Z Η jz ?_ ai2 (zQ.trans ss));rw[(by rw[EO,ZF];simp:pK++iN.take (x+1)=(pK++iN.take x)++[(k',v)])];show ag3 _ _ (ep2+1) (gN _ ϖ (Obj.isFreed_of_dict (U5 hd2 _))) (hc2.mapDictKeys _) (U5 hd2 _) (hk2.push adM _) ?_ ?_
  .have:=YL.append adM ((dZ).hash k') v;obtain⟨l⟩:=es2;simpa using this
  .rw [j0,qh];show gQ FU fF (λa ha b D=>?_);rw[iJ,List.map_nil,bJ]at D;subst D;show λe=>hmem (e▸ha)
 .intro b Y Κ;show Cy Κ λh' i qC hr hi Θ ago zQ=>qC▸?_;have Gv:i=SN.size:=bf (mj i SN.size) (λh=>by rw[(by lia:SN.size - i=(SN.size - (i+1))+1),UA]at hr;show nnD hr) λh=>vb hi h;rw[Gv,<-dM,sR]at Θ;show aB (hQ h' Θ zQ)
theorem aaB{m:ab}{iB:List (MK×aa)}{more:List (MK×aa)}{Q:Unit->ae->Prop}:Di A a6 s d m iB more Q:=hen (P:=Ir) aaA (((A,a6),(s,d)),((m,iB),(more,Q)))
end
noncomputable def vY(run:List (aE aa×aE aa))(main:Option ab):aE (Option ab):=do
 if run.isEmpty then return main
 match main with
 |none=>return O (<-subDict run)
 |some d=>
  let sub<-holding [R d] (subDict run)
  (holding [R d,R sub] (mergeMapping d (R sub) af)).onRaise λx=>do let _<-holding [R d,x] (runValue (fM "proto.let_go" {}))
  return O d
section
variable{r:Rel α}
theorem Qw(ha:A.depth<700){c:List (aE aa×aE aa)}{x:List (Sp α)}{jw:List (MK×α)}{iB:List (MK×aa)}{Q:Option ab->ae->Prop}(hp:PW (xu r aJ) c x)(hc:c≠[])(hk:uf aJ.heap s.heap)(XX:sH<aJ.heap.objs.size)(jz:aJ.heap.objs.size<s.heap.objs.size)(hd:s.heap.DictOf (dZ) aJ.heap.objs.size iB)(hm:M2 (r.aM (aJ.heap.objs.size+1) s.heap) iB jw)(qE:jw≠[])(hn:((jw++jk x).map (·.1)).Nodup)(hl:jw.length+c.length<=1000)(hQ:∀rS Y,Y.heap.DictOf (dZ) aJ.heap.objs.size rS->M2 (r.aM (aJ.heap.objs.size+1) Y.heap) rS (jw++jk x)->SJ aJ.heap.objs.size (1+zH x) s Y->Q (O aJ.heap.objs.size) Y):
 ax (aG prog w) A (vY c (O aJ.heap.objs.size)) Q a6 s:=by
 delta vY
 rw[if_neg (by simpa using hc)];show ag (cO (aaz ha (hp.mono λp y h=>h.later hk) (by rw[j0,qh]at hn;show hn.2.1) (Nat.le_of_add_left_le hl) λmore s1 g1 hm1 hmm=>?_));have hkl:=hm.1;have hml:=hmm.1;have hxl:=hp.len;have hxs:(jk x).length=x.length:=by delta jk;rw[il]
 show ag (Km (cO (aaB (fB jz) (beq_eq_false_iff_ne.mpr (oJ (fZ XX jz))) (eY hd λo es ep h1 h2=>Bt o es ep (g1.keep _ _ h1) h2) hm1 (λq=>?_) (((by rw[j0,j0,hm.keys,hmm.keys]:((iB++more).map (·.1))=(jw++jk x).map (·.1)))▸hn) au λh2 hd2 hs2=>aB (hQ _ _ hd2 ?_ ((SK g1).trans (SJ.same hs2))))))
 .rw [q]at hkl;show qE (rj.mp hkl.symm)
 .have up:∀a v,r.aM (aJ.heap.objs.size+1) s1.heap a v->r.aM (aJ.heap.objs.size+1) h2 a v:=λa v h=>r.mono _ _ _ _ _ (λb o D e=>hs2.extBut b o (λq=>absurd D (by rw[q];show Lo _)) e) h;show(hm.mono λa v h=>up a v (r.mono _ _ _ _ _ (λb o _ e=>g1.keep b o e) h)).app (hmm.mono λa v h=>up a v (r.down _ _ _ _ _ (yk jz) h))
theorem DP(ha:A.depth<700){c:List (aE aa×aE aa)}{x:List (Sp α)}{Q:Option ab->ae->Prop}(hp:PW (xu r s) c x)(hc:c≠[])(hn:((jk x).map (·.1)).Nodup)(hl:c.length<=1000)(hQ:∀rS Y,Y.heap.DictOf (dZ) s.heap.objs.size rS->M2 (r.aM (s.heap.objs.size+1) Y.heap) rS (jk x)->Gr (1+zH x) s Y->Q (O s.heap.objs.size) Y):ax (aG prog w) A (vY c ai) Q a6 s:=by
 delta vY
 rw[if_neg (by simpa using hc)];show ag (aaz ha hp hn hl λiB s1 g hd hm=>aB (hQ iB s1 hd hm g))
end
def zI(x:Option (aE aa)×aE aa)(st:Option ab×List (aE aa×aE aa)):aE (ForInStep (Option ab×List (aE aa×aE aa))):=match x.1 with
 |some k=>if(st.2++[(k,x.2)]).length==17 then vY (st.2++[(k,x.2)]) st.1>>=λm=>pure (mn (m,[])) else pure (mn (st.1,st.2++[(k,x.2)]))
 |none=>Es ""
noncomputable def gD(p:aE aa×aE aa):Option (aE aa)×aE aa:=(O p.1,p.2)
theorem DQ(items:List (aE aa×aE aa)):∀(run:List (aE aa×aE aa)) (m:Option ab),run.length+items.length<17->forIn (items.map gD) (m,run) zI=pure (m,run++items):=by
 induction items with
 |nil=>intro run m _;simp
 |cons p items iH=>intro run m h;have e:zI (gD p) (m,run)=pure (mn (m,run++[p])):=if_neg (by simp at h ⊢;lia);rw[iJ,yf,e,pure_bind];change forIn (items.map gD) (m,run++[p]) zI=_;rw[iH (run++[p]) m (by simp at h ⊢;lia)];simp
theorem Qx(items:List (aE aa×aE aa)):∀(run:List (aE aa×aE aa)) (m:Option ab) (rest:List (aE aa×aE aa)),items≠[]->run.length+items.length=17->forIn ((items++rest).map gD) (m,run) zI=(vY (run++items) m>>=λm'=>forIn (rest.map gD) (m',[]) zI):=by
 induction items with
 |nil=>intro _ _ _ h _;show absurd Z h
 |cons p items iH=>
  intro run m rest _ hl;rw[ET,iJ,yf];by_cases hi:items=[]
  .subst hi;have e:zI (gD p) (m,run)=(vY (run++[p]) m>>=λm'=>pure (mn (m',[]))):=if_pos (by simp at hl ⊢;lia);rw[e,bind_assoc];rfl
  .have e:zI (gD p) (m,run)=pure (mn (m,run++[p])):=by have:items.length≠0:=λq=>hi (rj.mp q);show if_neg (by simp at hl ⊢;lia)
   rw[e,pure_bind];change forIn ((items++rest).map gD) (m,run++[p]) zI=_;rw[iH (run++[p]) m rest hi (by simp at hl ⊢;lia)];simp
theorem aaC{σ:Type}{f f':Option (aE aa)×aE aa->σ->aE (ForInStep σ)}(h:∀p st,f (gD p) st=f' (gD p) st)(ps:List (aE aa×aE aa)):∀(st:σ),forIn (ps.map gD) st f=forIn (ps.map gD) st f':=by
 induction ps with
 |nil=>intro _;show rfl
 |cons p ps iH=>intro st;rw[iJ,yf,yf,h];show bind_congr λx=>by cases x with|done _=>rfl|yield b=>show iH b
theorem aaD{a b:Type}{m m':aE a}{f f':a->aE b}(h:m=m')(h':∀x,f x=f' x):m>>=f=m'>>=f':=by rw[h,funext h']
theorem adN(ps:List (aE aa×aE aa)):dictDisplay (ps.map gD)=(forIn (ps.map gD) ((ai:Option ab),([]:List (aE aa×aE aa))) zI>>=λst=>vY st.2 st.1>>=λm=>match m with|some d=>pure (R d)|none=>newDict):=by show aaD (aaC ?_ ps _) (λ_=>rfl);show λ_ _=>rfl
def so{α:Type}:Nat->List (Sp α)->Nat
 | 0,_=>0
 |_,[]=>0
 |n+1,x::K=>1+zH ((x::K).take 17)+so n ((x::K).drop 17)
theorem SO(n:Nat):so n ([]:List (Sp α))=0:=by cases n<;>rfl
theorem xw{K:List (Sp α)}(h:K≠[]):so (n+1) K=1+zH (K.take 17)+so n (K.drop 17):=by
 cases K with
 |nil=>show absurd Z h
 |cons x K=>rfl
theorem Cr{K:List (Sp α)}(h:K≠[])(hl:K.length<=17):so (n+1) K=1+zH K:=by rw[xw h,KR hl,List.drop_of_length_le hl,SO];rfl
theorem aaE{W:aE aa×aE aa->Sp α->Prop}(k:Nat):∀{ps:List (aE aa×aE aa)} {K:List (Sp α)},PW W ps K->PW W (ps.take k) (K.take k)/\PW W (ps.drop k) (K.drop k):=by
 induction k with
 |zero=>show λh=>⟨trivial,h⟩
 |succ k ih=>
  intro ps K h;cases ps<;>cases K
  .show ⟨trivial,trivial⟩
  .show h.elim
  .show h.elim
  .show ⟨⟨h.1,(ih h.2).1⟩,(ih h.2).2⟩
theorem Qy(k:Nat)(K:List (Sp α)):jk (K.take k)++jk (K.drop k)=jk K:=by delta jk;rw[<-j0,EL]
def ai3(st:Option ab×List (aE aa×aE aa)):aE aa:=vY st.2 st.1>>=λm=>match m with|some d=>pure (R d)|none=>newDict
section
variable{r:Rel α}
theorem PW.ne{W:aE aa×aE aa->Sp α->Prop}{ps:List (aE aa×aE aa)}{K:List (Sp α)}(h:PW W ps K)(hn:ps≠[]):K≠[]:=λe=>hn (rj.mp (by rw[h.len,e];rfl))
theorem adO(ha:A.depth<700)(XX:sH<aJ.heap.objs.size)(n:Nat):∀(ps:List (aE aa×aE aa)) (K:List (Sp α)) (jw:List (MK×α)) (iB:List (MK×aa)) (s:ae) (Q:aa->ae->Prop),ps.length<17 * n->PW (xu r aJ) ps K->
 (uf aJ.heap s.heap)->aJ.heap.objs.size<s.heap.objs.size->s.heap.DictOf (dZ) aJ.heap.objs.size iB->M2 (r.aM (aJ.heap.objs.size+1) s.heap) iB jw->jw≠[]->((jw++jk K).map (·.1)).Nodup->jw.length+ps.length<=1000->
 (∀rS Y,Y.heap.DictOf (dZ) aJ.heap.objs.size rS->M2 (r.aM (aJ.heap.objs.size+1) Y.heap) rS (jw++jk K)->SJ aJ.heap.objs.size (so n K) s Y->Q (R aJ.heap.objs.size) Y)->
 ax (aG prog w) A (forIn (ps.map gD) (O aJ.heap.objs.size,[]) zI>>=ai3) Q a6 s:=by
 induction n with
 |zero=>intro _ _ _ _ _ _ h _ _ _ _ _ _ _ _ _;show absurd h (rz _)
 |succ n iH=>
  intro ps K jw iB s Q alV hp hk jz hd hm qE hn hl hQ;by_cases h17:ps.length<17
  .rw [DQ ps [] _ (AU h17),yh,pure_bind];show if h0:ps=[] then ?_ else ag<|Qw ha hp h0 hk XX jz hd hm qE hn hl λrS Y h1 h2 h3=>aB<|hQ rS Y h1 h2<|(Cr (hp.ne h0) (by rw[<-hp.len];lia)).symm▸h3
   have h0':K=[]:=rj.mp (by rw[<-hp.len,h0];rfl);subst h0';show h0.symm▸ag (aB (aB (hQ iB s hd ?_ (.refl _ s))));change M2 _ iB (jw++[]);rw[yg];show hm
  .have YM:=aaE 17 hp;have l1:(ps.take 17).length=17:=by rw[AP];lia
   have hc:ps.take 17≠[]:=λe=>by have l1:=e▸l1;ext
   have e1:=Qx (ps.take 17) [] (O aJ.heap.objs.size) (ps.drop 17) hc (by simpa using l1);rw[EL]at e1;have OT:=Qy 17 K;rw[e1,bind_assoc,yh];have D0:((jw++jk (K.take 17)++jk (K.drop 17)).map (·.1)).Nodup:=by rw[AN,OT];show hn
   have ld:(ps.drop 17).length=ps.length - 17:=AQ;show ag<|Qw ha YM.1 hc hk XX jz hd hm qE (by rw[j0,qh]at D0;show D0.1) au λrS Y h1 h2 h3=>iH (ps.drop 17) (K.drop 17) (jw++jk (K.take 17)) rS Y Q au YM.2 (λb o e=>h3.keep b o (λq=>by rw[q,bF]at e;ext) (hk b o e)) (by rw[h3.size];show Lw (1+zH (List.take 17 K)) jz) h1 h2 (λe=>qE (List.append_eq_nil_iff.mp e).1) D0 ?_ λk2 s2 g1 g2 g3=>hQ k2 s2 g1 (by rw[AN,OT]at g2;show g2) (by rw[xw (hp.ne λe=>h17 (by rw[e];decide))];show h3.trans g3);rw[iu,ld]
   delta jk
   rw[il,<-YM.1.len,l1];lia
theorem adP(ha:A.depth<700)(XX:sH<s.heap.objs.size){ps:List (aE aa×aE aa)}{K:List (Sp α)}(hln:ps.length<17 * (n+1))(hp:PW (xu r s) ps K)(h0:ps≠[])(hn:((jk K).map (·.1)).Nodup)(hl:ps.length<=1000)(hQ:∀iB Y,Y.heap.DictOf (dZ) s.heap.objs.size iB->M2 (r.aM (s.heap.objs.size+1) Y.heap) iB (jk K)->Gr (so (n+1) K) s Y->Q (R s.heap.objs.size) Y):ax (aG prog w) A (dictDisplay (ps.map gD)) Q a6 s:=by
 rw[adN];change ax _ _ (_>>=ai3) _ _ _;by_cases h17:ps.length<17
 .rw [DQ ps [] _ (AU h17),yh,pure_bind];show ag<|DP ha hp h0 hn hl λrS Y h1 h2 h3=>aB<|hQ rS Y h1 h2<|(Cr (hp.ne h0) (by rw[<-hp.len];lia)).symm▸h3
 .have YM:=aaE 17 hp;have l1:(ps.take 17).length=17:=by rw[AP];lia
  have hc:ps.take 17≠[]:=λe=>by have l1:=e▸l1;ext
  have e1:=Qx (ps.take 17) [] ai (ps.drop 17) hc (by simpa using l1);rw[EL]at e1;have OT:=Qy 17 K;rw[e1,bind_assoc,yh];have D0:((jk (K.take 17)++jk (K.drop 17)).map (·.1)).Nodup:=by rw[OT];show hn
  have ld:(ps.drop 17).length=ps.length - 17:=AQ;have ls:(jk (K.take 17)).length=17:=by delta jk;rw[il,<-YM.1.len,l1]
  show ag<|DP ha YM.1 hc (by rw[j0,qh]at D0;show D0.1) au λrS Y h1 h2 h3=>adO ha XX n (ps.drop 17) (K.drop 17) (jk (K.take 17)) rS Y Q au YM.2 h3.keep (by rw[h3.size];lia) h1 h2 (λe=>by have ls:=e▸ls;ext) D0 au λk2 s2 g1 g2 g3=>hQ k2 s2 g1 (by rw[OT]at g2;show g2)<|(xw (hp.ne h0)).symm▸have f:=(SK (d:=s.heap.objs.size) h3).trans g3;⟨f.size,λb o e=>f.keep b o (λq=>by rw[q,bF]at e;ext) e,f.gens,f.drawn,f.os⟩
end
abbrev Tri:=Nat×Nat×Nat
inductive IS where
 |int(i:Int)
 |ecs(l:List Tri)
inductive EcV(lo:Nat)(h:aN)(t:Tri):aa->Prop
 |mk (i dx:ab) (t0 t1 t2:aW) (a:lo<=i) (b:lo<=dx) (c:h.get? i=O (Yc dx (SH (aj t.1) (aj t.2.1) (aj t.2.2) t0 t1 t2))) (d:h.get? dx=O iz):EcV lo h t (R i)
def SP(lo:Nat)(h:aN):List Tri->List aa->Prop
 | [],[]=>True
 |t::ts,v::vs=>EcV lo h t v/\SP lo h ts vs
 |_,_=>False
protected def IS.aM(lo:Nat)(h:aN):IS->aa->Prop
 | .int i,v=>∃t,v=ah i t
 | .ecs l,v=>∃a vs,v=R a/\lo<=a/\h.get? a=O {cls:=ak "tuple",data:=bU vs.toArray}/\SP lo h l vs
theorem EcV.to{lo lo':Nat}{t:Tri}(hl:lo'<=lo)(hk:∀b o,lo<=b->h.get? b=O o->h'.get? b=O o)(x:EcV lo h t v):EcV lo' h' t v:=by obtain⟨i,dx,t0,t1,t2,a,b,c,d⟩:=x;show⟨i,dx,t0,t1,t2,ba hl a,ba hl b,hk _ _ a c,hk _ _ b d⟩
theorem SP.to{lo lo':Nat}{h h':aN}(hl:lo'<=lo)(hk:∀b o,lo<=b->h.get? b=O o->h'.get? b=O o):∀{l:List Tri} {vs:List aa},SP lo h l vs->SP lo' h' l vs
 | [],[],_=>trivial
 |_::_,_::_,⟨a,b⟩=>⟨a.to hl hk,SP.to hl hk b⟩
 | [],_::_,e=>e.elim
 |_::_,[],e=>e.elim
theorem IS.to{lo lo':Nat}(hl:lo'<=lo)(hk:∀b o,lo<=b->h.get? b=O o->h'.get? b=O o):∀{a:IS} {v:aa},IS.aM lo h a v->IS.aM lo' h' a v
 | .int _,_,x=>x
 | .ecs _,_,⟨a,vs,e,b,c,d⟩=>MB a vs e (ba hl b) (hk _ _ b c) (d.to hl hk)
noncomputable def ak8:Rel IS:=⟨IS.aM,λ_ _ _ _ _ k x=>IS.to (ey _) k x,λ_ _ _ _ _ l x=>IS.to l (λ_ _ _ e=>e) x⟩
inductive OR(lo:Nat)(h:aN)(sp:List (MK×IS)):aa->Prop
 |mk (d:ab) (iB:List (MK×aa)) (a:lo<=d) (b:h.DictOf dZ d iB) (m:M2 (IS.aM (d+1) h) iB sp):OR lo h sp (R d)
noncomputable def ai4:Rel (List (MK×IS)):=⟨OR,
 λ_ _ _ _ _ k q=>by obtain⟨d,iB,a,b,m⟩:=q;show⟨d,iB,a,Bo (λo q=>q.imp λes q=>q.imp λep q=>⟨k _ _ a q.1,q.2⟩) b,m.mono λ_ _ x=>IS.to (ey _) (λb o q=>k b o (ba (qk a) q)) x⟩,
 λ_ _ _ _ _ l q=>by obtain⟨d,iB,a,b,m⟩:=q;show⟨d,iB,ba l a,b,m⟩⟩
noncomputable def nEC:aP:=aC "EC"
noncomputable def XK.call? :XK->Option (aw×List aw×List AB×aY)
 | .call f l k p=>O (f,l,k,p)
 |_=>ai
noncomputable def XK.name? :XK->Option (aP×aY)
 | .name x p=>O (x,p)
 |_=>ai
noncomputable def XK.con? :XK->Option (ya×Nat×aY)
 | .con c k p=>O (c,k,p)
 |_=>ai
noncomputable def XK.tup? :XK->Option (List aw×Nat×aY)
 | .tup l k p=>O (l,k,p)
 |_=>ai
noncomputable def XK.dict? :XK->Option (List (Option aw)×List aw×aY)
 | .dict k v p=>O (k,v,p)
 |_=>ai
def aeX(e:aw):=(xk e).call?
def aaF(e:aw):Option aP:=(xk e).name?.map (·.1)
def SQ(e:aw):Option ya:=(xk e).con?.map (·.1)
def ai5(e:aw):Option (List aw):=(xk e).tup?.map (·.1)
def aeY(e:aw):Option (List (Option aw)×List aw):=(xk e).dict?.map λq=>(q.1,q.2.1)
noncomputable def adQ:ya->Option Int
 |jc i=>O i
 |_=>ai
noncomputable def ai6:Int->Option Nat
 |aj n=>O n
 |_=>ai
noncomputable def l3:List aw->Option (aw×aw×aw)
 | [a,b,c]=>O (a,b,c)
 |_=>ai
theorem ZG{x:XK}{e q}(b:x.back e)(h:x.call? =O q):e=bI q.1 q.2.1 q.2.2.1 q.2.2.2:=by cases x<;>cases h;show b
theorem ZH{x:XK}{e q}(b:x.back e)(h:x.name? =O q):e=ar q.1 q.2:=by cases x<;>cases h;show b
theorem Qz{x:XK}{e q}(b:x.back e)(h:x.con? =O q):e=gn q.1 q.2.1 q.2.2:=by cases x<;>cases h;show b
theorem aaG{x:XK}{e q}(b:x.back e)(h:x.tup? =O q):e=ik q.1 q.2.1 q.2.2:=by cases x<;>cases h;show b
theorem ZI{x:XK}{e q}(b:x.back e)(h:x.dict? =O q):e=qg q.1 q.2.1 q.2.2:=by cases x<;>cases h;show b
theorem adR{q}(h:aeX e=O q):e=bI q.1 q.2.1 q.2.2.1 q.2.2.2:=ZG (Ow e) h
theorem Yd{β:Type}{o:Option α}{f:α->β}{x:β}(h:o.map f=O x):∃q,o=O q/\f q=x:=jb.mp h
theorem Ye{x}(h:aaF e=O x):∃p,e=ar x p:=bh (Yd h) λq h r=>⟨q.2,r▸ZH (Ow e) h⟩
theorem SR{c}(h:SQ e=O c):∃k p,e=gn c k p:=bh (Yd h) λq h r=>qA q.2.1 q.2.2 (r▸Qz (Ow e) h)
theorem agp{l}(h:ai5 e=O l):∃k p,e=ik l k p:=bh (Yd h) λq h r=>qA q.2.1 q.2.2 (r▸aaG (Ow e) h)
theorem adS{q}(h:aeY e=O q):∃p,e=qg q.1 q.2 p:=bh (Yd h) λq h r=>⟨q.2.2,r▸ZI (Ow e) h⟩
theorem SU{c:ya}{i}(h:adQ c=O i):c=jc i:=by cases c<;>cases h;rfl
theorem agq{i:Int}{n}(h:ai6 i=O n):i=aj n:=by cases i<;>cases h;rfl
theorem ak9{l:List aw}{q}(h:l3 l=O q):l=[q.1,q.2.1,q.2.2]:=by
 rcases l with _|⟨a,_|⟨b,_|⟨c,_|⟨d,l⟩⟩⟩⟩
 .show Bq h
 .show Bq h
 .show Bq h
 .show aV h▸rfl
 .show Bq h
def adT(e:aw):Option Nat:=(SQ e).bind λc=>(adQ c).bind ai6
theorem kB{β:Type}{a:Option α}{f:α->Option β}{x:β}{aM:Prop}(h:a.bind f=O x)(k:∀y,a=O y->f y=O x->aM):aM:=by
 cases a with
 |none=>ext
 |some y=>show k y Z h
theorem agr{c:Prop}[Decidable c]{β:Type}{v x:β}{aM:Prop}(h:(if c then O v else ai)=O x)(k:c->v=x->aM):aM:=by
 by_cases hc:c
 .rw [if_pos hc]at h;show k hc (aV h)
 .have h:=(if_neg hc).symm.trans h;ext
theorem ala{c:Prop}[Decidable c]{β:Type}{o:Option β}{x:β}{aM:Prop}(h:(if c then o else ai)=O x)(k:c->o=O x->aM):aM:=by
 by_cases hc:c
 .rw [if_pos hc]at h;show k hc h
 .have h:=(if_neg hc).symm.trans h;ext
theorem SW(h:adT e=O n):∃k p,e=gn (jc (aj n)) k p:=
 kB h λ_ h1 h=>kB h λ_ h2 h3=>jh (SR h1) λk p e=>qA k p (by rw[e,SU h2,agq h3])
def adU(e:aw):Option Tri:=(aeX e).bind λq=>(aaF q.1).bind λx=>(l3 q.2.1).bind λr=>(adT r.1).bind λa=>(adT r.2.1).bind λb=>(adT r.2.2).bind λc=>if x=nEC/\q.2.2.1.isEmpty=N then O (a,b,c) else ai
theorem aaH{t:Tri}(h:adU e=O t):∃np k1 p1 k2 p2 k3 p3 pos,e=bI (ar nEC np) [gn (jc (aj t.1)) k1 p1,gn (jc (aj t.2.1)) k2 p2,gn (jc (aj t.2.2)) k3 p3] [] pos:=
 kB h λq h0 h=>kB h λx h1 h=>kB h λr h2 h=>kB h λa h3 h=>kB h λb h4 h=>kB h λc h5 h=>agr h λhc ht=>dG (Ye h1) λnp e1=>jh (SW h3) λk1 p1 e3=>jh (SW h4) λk2 p2 e4=>jh (SW h5) λk3 p3 e5=>⟨np,k1,p1,k2,p2,k3,p3,q.2.2.2,by rw[adR h0,e1,ak9 h2,e3,e4,e5,hc.1,List.isEmpty_iff.mp hc.2,<-ht]⟩
def aaI:List aw->Option (List Tri)
 | []=>O []
 |e::es=>(adU e).bind λt=>(aaI es).bind λts=>O (t::ts)
noncomputable def alb:ya->Option MK
 |yx=>O .none
 |jc i=>O (.int i)
 |LU x=>O (.str x)
 |_=>ai
def kOf(tab:List (aP×Int))(e:aw):Option MK:=
 (SQ e).elim ((aaF e).bind λx=>if(x==("__debug__" :aP))=af then(tab.lookup x).map .int else ai) alb
def iOf(e:aw):Option (IS×Nat):=
 (SQ e).elim ((ai5 e).bind λes=>(aaI es).bind λl=>if es.length<=1000 then O (.ecs l,5 * l.length+1) else ai) λc=>(adQ c).bind λi=>O (.int i,0)
def pOf(tab:List (aP×Int)){α:Type}(f:aw->Option (α×Nat)):List (Option aw)->List aw->Option (List (Sp α))
 | [],[]=>O []
 |k::ks,v::vs=>k.bind λk=>(kOf tab k).bind λk=>(f v).bind λi=>(pOf tab f ks vs).bind λr=>O ((k,i)::r)
 |_,_=>ai
def oV(tab:List (aP×Int))(v:aw):Option (List (MK×IS)×Nat):=(aeY v).bind λq=>(pOf tab iOf q.1 q.2).bind λK=>
 if K≠[]/\K.length<17/\((jk K).map (·.1)).Nodup then O (jk K,so 1 K) else ai
def HN(P:bS)(t:Nat->aW)(fd fd2:bQ)(tab:List (aP×Int))(h:aN):Prop:=
 SG P t fd fd2 h/\
 ∃mg,h.Ns ef mg/\mg nEC=O (R 135)/\∀x i,tab.lookup x=O i->∃t,mg x=O (ah i t)
theorem HN.keeps{fd2:bQ}{tab:List (aP×Int)}(x:HN P t fd fd2 tab h)(k:uf h h'):HN P t fd fd2 tab h':=
 ⟨x.1.keeps k,bh x.2 λmg a b=>(ct mg (a.at' λo e=>k _ o e) b)⟩
section
variable{fd2:bQ}{tab:List (aP×Int)}
theorem ags{k:MK}(cB:HN P t fd fd2 tab s.heap)(hk:J.scope.kind=qq)(hl:J.locals=J.globals)(hg:J.globals=ef)(h:kOf tab e=O k)(hQ:∀v Y,Gr 0 s Y->k.is v=N->Q v Y):ax (aG prog w) A (aZ e J) Q a6 s:=by
 unfold kOf at h;show O' (SQ e) (λhc=>?_) λc hc=>?_
 .replace h:=hc▸h;show kB h λx h1 h5=>ala h5 λhd h6=>?_;obtain⟨p,rfl⟩:=Ye h1;obtain⟨i,hi,rfl⟩:=jb.mp h6;show gC cB.2 λmg h1 h2 h3=>dG (h3 x i hi) λt ht=>Name_module hk hl (Vg (hg▸h1) ht (hQ _ _ (.refl s) (beq_self_eq_true _))) hd
 .obtain ⟨k1,p,rfl⟩:=SR hc;cases c<;>cases h
  .show TQ (hQ _ _ (.refl s) Z)
  .show xG (hQ _ _ ((Gr.refl s).toks _) (beq_self_eq_true _))
  .show Ee (hQ _ _ ((Gr.refl s).toks _) (beq_self_eq_true _))
theorem adV{x:Tri}{lo:Nat}(bM:A.depth<700)(cB:HN P t fd fd2 tab s.heap)(hk:J.scope.kind=qq)(hl:J.locals=J.globals)(hg:J.globals=ef)(h:adU e=O x)(IF:lo<=s.heap.objs.size)(hQ:∀v Y,Gr 5 s Y->EcV lo Y.heap x v->Q v Y):ax (aG prog w) A (aZ e J) Q a6 s:=by show Gb (aaH h) λnp k1 p1 k2 p2 k3 p3 pos dX=>(gC cB.2 λmg h1 h2 h3=>?_);subst dX;show wpAny_Call_ofName (Name_module hk hl (Vg (hg▸h1) h2 ?_) (rfl));rw[agm (rfl) (rfl) (rfl)];show ag<|cO<|LW<|rH<|xG<|rH<|xG<|rH<|xG<|aB<|have g:=(((Gr.refl s).toks (s.toks+1)).toks (s.toks+1+1)).toks (s.toks+1+1+1);have H1:=cB.keeps g.keep;ag<|jV<|ag<|ag<|iW (H1.1.pF 135 _ Z)<|ag<|(Yb H1.1.pF).here<|aB<|ag<|adI H1.1 (fZ bM bA) λY g' e1 e2=>ag<|cO<|wpAny_point<|aB<|hQ _ _ (g.trans g')<|⟨_,_,_,_,_,ba IF (iZ _ _),ba IF (iZ _ _),e1,e2⟩
theorem SX{x:Tri}(h:adU e=O x):cG e=af:=by show Gb (aaH h) λnp k1 p1 k2 p2 k3 p3 pos dX=>?_;subst dX;rfl
theorem aaJ{lo:Nat}(bM:A.depth<700)(hk:J.scope.kind=qq)(hl:J.locals=J.globals)(hg:J.globals=ef)(es:List aw):∀(l:List Tri) (s:ae) (Q:List aa->ae->Prop),HN P t fd fd2 tab s.heap->aaI es=O l->lo<=s.heap.objs.size->
 (∀vs Y,Gr (5 * l.length) s Y->SP lo Y.heap l vs->vs.length=es.length->Q vs Y)->ax (aG prog w) A (oz (jH pos (iX es J))) Q a6 s:=by
 induction es with
 |nil=>intro l s Q _ h _ hQ;obtain rfl:=aV h;show aB (hQ [] s (.refl s) trivial Z)
 |cons e es iH=>show λl s Q cB h IF hQ=>kB h λx E h=>kB h λK hxs h=>by obtain rfl:=aV h;rw[dp (SX E)];show rH<|adV bM cB hk hl hg E IF λv s1 g1 hv=>iH K s1 _ (cB.keeps g1.keep) hxs (by rw[g1.size];show yk IF) λvs s2 g2 d_ dM=>hQ _ _ ?_ ⟨hv.to (ey _) (λb o _ e=>g2.keep b o e),d_⟩ (congrArg A3 dM);rw[oF,LB,jJ];show g1.trans g2
theorem agt{x:IS×Nat}{lo:Nat}(bM:A.depth<700)(cB:HN P t fd fd2 tab s.heap)(hk:J.scope.kind=qq)(hl:J.locals=J.globals)(hg:J.globals=ef)(h:iOf e=O x)(IF:lo<=s.heap.objs.size)(hQ:∀v Y,Gr x.2 s Y->IS.aM lo Y.heap x.1 v->Q v Y):ax (aG prog w) A (aZ e J) Q a6 s:=by
 unfold iOf at h;show O' (SQ e) (λhc=>?_) λc hc=>?_
 .replace h:=hc▸h;show kB h λes h1 h=>kB h λl hes h=>agr h λhz E=>?_;obtain⟨k1,p,rfl⟩:=agp h1;subst E;show Er (aaJ bM hk hl hg es l s _ cB hes IF λvs s1 g1 d_ dM=>⟨by rw[dM,jW];show ba hz (dO Z),hQ _ _ (g1.push _) (MB _ vs Z (by rw[g1.size];show yk IF) (bK _ Z) (d_.to (ey _) λb o _ e=>a8 _ e))⟩)
 .rw [hc]at h;obtain⟨k1,p,rfl⟩:=SR hc;show kB h λi hi h=>(SU hi)▸?_;obtain rfl:=aV h;show xG (hQ _ _ ((Gr.refl s).toks _) ⟨_,rfl⟩)
theorem adW{aM:Rel α}{f:aw->Option (α×Nat)}(cB:HN P t fd fd2 tab aJ.heap)(hk:J.scope.kind=qq)(hl:J.locals=J.globals)(hg:J.globals=ef)(hf:∀A a6 s lo Q e x,A.depth<700->(uf aJ.heap s.heap)->lo<=s.heap.objs.size->f e=O x->(∀v Y,Gr x.2 s Y->aM.aM lo Y.heap x.1 v->Q v Y)->ax (aG prog w) A (aZ e J) Q a6 s)(ks:List (Option aw)):
 ∀(vs:List aw) (K:List (Sp α)),pOf tab f ks vs=O K->PW (xu aM aJ) (pairTrees ks vs J pos) K/\ks.all (·.isSome)=N/\ks.length=vs.length:=by
 induction ks with
 |nil=>
  intro vs K h;cases vs with
  |nil=>show aV h▸gQ trivial Z Z
  |cons=>show Bq h
 |cons k ks iH=>
  intro vs K h;cases vs with
  |nil=>show Bq h
  |cons v vs=>show kB h λk' e0 h=>kB h λk2 h1 h=>kB h λi h2 h=>kB h λr h3 h=>e0▸aV h▸hb (iH vs r h3) λa b c=>((gQ ⟨λA a6 s lo Q ha Z9 IF hQ=>?_,a⟩ b (congrArg A3 c)));show ags (cB.keeps Z9) hk hl hg h1 λkv s1 g1 ZF=>ag (hf _ _ _ _ _ _ _ ha (λb o e=>g1.keep _ _ (Z9 b o e)) (g1.size▸IF) h2 λv s2 g2 hv=>ag (jV (aB (hQ _ _ _ (show Gr i.2 s s2 from ql i.2▸g1.trans g2) ZF hv))))
theorem aaK{aM:Rel α}{f:aw->Option (α×Nat)}{ks:List (Option aw)}{vs:List aw}{K:List (Sp α)}(n:Nat)(ha:A.depth<700)(XX:∃o,s.heap.get? sH=O o)(cB:HN P t fd fd2 tab s.heap)(hk:J.scope.kind=qq)(hl:J.locals=J.globals)(hg:J.globals=ef)(hf:∀A a6 aD lo Q e x,A.depth<700->(uf s.heap aD.heap)->lo<=aD.heap.objs.size->f e=O x->(∀v Y,Gr x.2 aD Y->aM.aM lo Y.heap x.1 v->Q v Y)->ax (aG prog w) A (aZ e J) Q a6 aD)(h:pOf tab f ks vs=O K)(qE:K≠[])(hn:((jk K).map (·.1)).Nodup)(dM:K.length<17 * (n+1))(hsz:(17 * (n+1)).ble 1000=N)(hQ:∀iB Y,Y.heap.DictOf (dZ) s.heap.objs.size iB->M2 (aM.aM (s.heap.objs.size+1) Y.heap) iB (jk K)->Gr (so (n+1) K) s Y->Q (R s.heap.objs.size) Y):ax (aG prog w) A (aZ (qg ks vs pos) J) Q a6 s:=by show hb (adW (pos:=pos) cB hk hl hg hf ks vs K h) λd1 d2 d3=>(dG XX λo ho=>?_);have ρ:=d1.len;rw[arm_eval_Dict,zip_pairTrees ks vs J pos d2 d3];show ag (jV (adP ha (cn ho) (ρ▸dM) d1 (λq=>qE (rj.mp (ρ▸q.symm▸rfl))) hn (ρ▸kB4 dM hsz) hQ))
theorem aaL{ks:List (Option aw)}{vs:List aw}{K:List (Sp (List (MK×IS)))}(ha:A.depth<700)(XX:∃o,s.heap.get? sH=O o)(cB:HN P t fd fd2 tab s.heap)(hk:J.scope.kind=qq)(hl:J.locals=J.globals)(hg:J.globals=ef)(h:pOf tab (oV tab) ks vs=O K)(qE:K≠[])(hn:((jk K).map (·.1)).Nodup)(dM:K.length<85)(hQ:∀iB Y,Y.heap.DictOf (dZ) s.heap.objs.size iB->M2 (OR (s.heap.objs.size+1) Y.heap) iB (jk K)->Gr (so 5 K) s Y->Q (R s.heap.objs.size) Y):ax (aG prog w) A (aZ (qg ks vs pos) J) Q a6 s:=
 aaK (aM:=ai4) 4 ha XX cB hk hl hg (λA a6 aD lo Q e x ha Z9 IF h hQ=>kB h λq hq h=>kB h λys h2 h=>agr h λhc E=>by show dG (adS hq) λp' dX=>dX▸?_;subst E;show dG XX λo ho=>aaK (aM:=ak8) 0 ha ⟨o,Z9 _ _ ho⟩ (cB.keeps Z9) hk hl hg (λA a6 aQ lo Q e x ha alc IF h hQ=>agt ha ((cB.keeps Z9).keeps alc) hk hl hg h IF hQ) h2 hc.1 hc.2.2 hc.2.1 Z λiB Y h1 h2 g=>hQ _ _ g ⟨_,iB,IF,h1,h2⟩) h qE hn dM Z hQ
end
noncomputable def NX:List (aP×Int):=[(aC "VERSION_M4",0),(aC "VERSION_M3", -1),(aC "VERSION_M2", -2),(aC "VERSION_M1", -3),(aC "ERROR_LEVEL_L",1),(aC "ERROR_LEVEL_M",0),(aC "ERROR_LEVEL_Q",3),(aC "ERROR_LEVEL_H",2)]
def SY:bT:=cS 12
def Jg:aw:=IJ SY
def QA:List (Option aw):=match Jg with|qg ks _ _=>ks |_=>[]
def QB:List aw:=match Jg with|qg _ vs _=>vs |_=>[]
def xy:List (Sp (List (MK×IS))):=(pOf NX (oV NX) QA QB).getD []
theorem agu:pOf NX (oV NX) QA QB=O xy:=by ext
theorem JT:((jk xy).map (·.1)).Nodup:=of_decide_eq_true bz
theorem Yf:xy.length=76:=by ext
theorem adX:so 5 xy=1729:=by ext
def m2s:List (MK×IS):=((jk xy).lookup (.int (-2))).getD []
theorem agv:(jk xy).lookup (.int (-2))=O m2s:=by ext
theorem ai7:m2s.lookup (.int 1)=O (.ecs [(1,10,5)]):=by ext
theorem ai8:m2s.lookup (.int 0)=O (.ecs [(1,10,4)]):=by ext
noncomputable abbrev dn:iY->aE ij:=denote table
def IG(p:u4)(w:fz)(s:ae)(t:gW)(Y:ae)(t':gW):Prop:=∃n,∃s1 t1,runN dn p w n s t=vq s1 t1/\s1.forget=Y.forget/\t1.forget=t'.forget/\
 ∀k,k<n->∃s2 t2 s3 t3,runN dn p w k s t=vq s2 t2/\t2.calm=N/\step dn p w s2 t2=Step.go s3 t3
section
variable{p:u4}{w:fz}{mE:ae}{t t' t'':gW}
theorem Yg:∀{s Y:ae} {t t':gW} (m:Nat),runN dn p w n s t=vq Y t'->runN dn p w (n+m) s t=runN dn p w m Y t':=by
 induction n with
 |zero=>intro _ _ _ _ m h;cases h;rw[ql]
 |succ n iH=>
  intro s Y t t' m h;rw[yj n m,Nat.add_succ];dsimp only[runN]at h ⊢;cases e:step dn p w s t with
  |go s2 t2=>have h:=e▸h;show iH m h
  |halt o s2=>have h:=e▸h;ext
theorem IG.refl(s:ae)(t:gW):IG p w s t s t:=DV 0 s t Z Z Z (λk h=>absurd h (rz k))
theorem QC{s1 s2 s3:ae}{t1 t2 t3:gW}(hs:s1.forget=s2.forget)(ht:t1.forget=t2.forget)(h:runN dn p w n s2 t2=vq s3 t3):∃s4 t4,runN dn p w n s1 t1=vq s4 t4/\s4.forget=s3.forget/\t4.forget=t3.forget:=by
 have e:=h▸runN_same dn p w n hs ht;cases q:runN dn p w n s1 t1 with
 |running s4 t4=>injection (q▸e) with a b;show Ot s4 t4 Z a b
 |halted o s4=>have e:=q▸e;ext
theorem IG.trans(x:IG p w s t Y t')(y:IG p w Y t' mE t''):IG p w s t mE t'':=by
 show gH x λn s1 t1 h1 hs1 ht1 k1=>gH y λm s2 t2 h2 hs2 ht2 k2=>jx (QC hs1 ht1 h2) λs3 t3 h3 S_ ht3=>((DV (n+m) s3 t3 (((Yg m h1)).trans h3) (S_.trans hs2) (ht3.trans ht2) (λk hk=>?_)));rcases mj k n with h|h
 .show k1 k h
 .show dG (Nat.exists_eq_add_of_le h) λj dX=>?_;subst dX;show Br (k2 j (Nat.lt_of_add_lt_add_left hk)) λs4 t4 s5 t5 a b c=>(jx (QC hs1 ht1 a) λs6 t6 d e f=>?_);cases q:step dn p w s6 t6 with|go s7 t7=>show ae3 s6 t6 s7 t7 (((Yg j h1)).trans d) (by rw[<-Wf,f,Wf];show b) q|halt o s7=>have g:=q▸c▸step_same dn p w e f;ext
theorem IG.step{s1:ae}{t1:gW}(hc:t.calm=N)(h:step dn p w s t=Step.go s1 t1)(hs:s1.forget=Y.forget)(ht:t1.forget=t'.forget):IG p w s t Y t':=
 ⟨1,s1,t1,by simp only[runN,h],hs,ht,λk hk=>by obtain rfl:=Nat.lt_one_iff.mp hk;show(ae3 s t s1 t1 Z hc h)⟩
theorem adY{ann:Option aa}{b:Nat}:∀{s Y:ae} {t t':gW},segGo table p w n₀ ann b n s t=O (Y,t')->IG p w s t Y t':=by
 induction n with
 |zero=>intro s Y t t' h;show Yq (aV h) λa1 a2=>?_;subst a1;subst a2;show .refl _ _
 |succ n iH=>
  intro s Y t t' h;unfold segGo at h;show O' (endAt b t) (λhe=>?_) λf he=>?_
  .have h:=he▸h;cases hk:stepOk n₀ ann t with|false=>have h:=hk▸h;show Bq (by assumption)|true=>
    have h:=hk▸h;cases hs:Ew dn p w s t with
    |halt o aQ=>have h:=hs▸h;show Bq (by assumption)
    |go aQ ai9=>have h:=hs▸h;show(IG.step (fL.mp hk).1 hs Z Z).trans (iH h)
  .have h:=he▸h;ext
theorem agw(n:Nat):∀{s Y:ae} {t t':gW},runNI dn p w n s t=vq Y t'->IG p w s t Y t':=by
 induction n with
 |zero=>intro s Y t t' h;cases h;show .refl _ _
 |succ n iH=>
  intro s Y t t' h;dsimp only[runNI]at h;show boC t.loud (λhl=>?_) λhl=>?_
  .have h:=(stepI_loud _ _ _ hl)▸h;ext
  .have h:=(stepI_quiet _ _ _ hl)▸h;cases hk:stepK dn p w s t with|halt o s2=>have h:=hk▸h;ext|go s2 t2=>
    have h:=hk▸h;have hc:t.calm=N:=by
     rw[Thread.calm_eq,hl];cases hr:t.refused with
     |false=>rfl
     |true=>obtain⟨alW,e⟩:=stepK_refused dn p w hr;have hk:=e.symm.trans hk;ext
    have g:=hk▸stepK_forget dn p w s t;cases hs:Ew dn p w s t with
    |go s3 t3=>injection (hs▸g) with a b;show(IG.step hc hs a.symm b.symm).trans (iH h)
    |halt o s3=>have g:=hs▸g;ext
theorem ZJ(h:Comes (aG p w) s t Y t'):IG p w s t Y t':=dG h λn hn=>agw n hn
theorem IG.aja(x:IG p w s t Y t')(hz:s.asleep)(hg:Y.gens=#[]):∃n t1,schedN dn p w n (Ms s t)=SRun.running (Ms Y t1)/\t1.forget=t'.forget:=by
 show gH x λn s1 t1 h1 hs ht k=>(Shared.eq_of_forget_eq hs hg:s1=Y)▸kH n t1 ?_ ht;rw[schedN_prefix dn p w n s t hz λj s2 t2 hj e=>?_,h1];rfl;show Br (k j hj) λs4 t4 s5 t5 a b c=>?_;rw[e]at a;injection a with a1 a2
 show a1▸a2▸⟨b,λq=>by have q:=c.symm.trans q;ext⟩
theorem NY(h:t.forget=t'.forget)(k:Fl t'=N):Fl t=N:=by
 obtain⟨cur,c,q,st⟩:=t;obtain⟨alX,c',q',Oh⟩:=t';injection h with a _ _ b
 cases a
 show eX (fL.mp k) λk1 k2=>(fL.mpr ⟨?_,k2⟩);cases Oh with
 |nil=>cases st with|nil=>rfl|cons f st=>ext
 |cons f st=>ext
theorem IG.life(x:IG p w s t Y t'):Y.heap.life=s.heap.life:=by
 show gH x λn s1 t1 h1 hs _ _=>(((Wb hs).1)▸?_);have:∀(n:Nat) {s s1:ae} {t t1:gW},runN dn p w n s t=vq s1 t1->s1.heap.life=s.heap.life:=λn=>by
  induction n with
  |zero=>intro s s1 t t1 h;cases h;rfl
  |succ n ih=>
   intro s s1 t t1 h;dsimp only[runN]at h;cases e:Ew dn p w s t with
   |go s2 t2=>show(ih (e▸h)).trans (step_life _ _ _ _ _ _ _ e)
   |halt o s2=>have h:=e▸h;ext
 show this n h1
end
theorem sq{m:aE b8}{bw:aa->aE Unit}{a0:b8->aE ij}:(m.onRaise bw).bind a0=m.wrap a0 (λe=>(bw e).wrap (λ_=>Mk e) Mk id id) id id:=by rw[Bk,FG,th];show Mj _ _ _ (λ_=>rfl) λe=>by rw[Bk,th];rfl
theorem S3(st:bT)(rest:List bT)(J:cg)(a0:b8->aE ij):((aU (st::rest) J).onRaise (rh J)).bind a0=
 ((mU st J).onRaise (rh J)).bind (λf=>match f with|cJ=>((aU rest J).onRaise (rh J)).bind a0|f=>a0 f):=by
 rw[sq,sq,execs_cons_wrap];show Mj _ _ _ (λf=>?_) λe=>rfl;cases f<;>first|rfl|show sq.symm
def S4(k:Nat):Array ow:=#[wu 2 (k+1) (R 1869),wu 5 (k+5) (R 1870),wu 6 (k+12) (R 1871),wu 7 (k+20) (R 1872),wu 8 (k+29) (R 1873),wu 10 (k+39) (R 1874),wu 13 (k+51) (R 1875),wu 14 (k+66) (R 1876),wu 15 (k+82) (R 1877),wu 16 (k+99) (R 1878),wu 17 (k+117) (R 1879),wu 18 (k+136) (R 1880),wu 20 (k+156) (R 1881),wu 22 (k+178) (R 1882),wu 24 (k+202) (R 1883),wu 26 (k+228) (R 1884),wu 28 (k+256) (R 1885),wu 30 (k+286) (R 1887)]
def k12:b8->aE ij:=WB (zp (tL.drop 13))
def NZ(p:aY):gW:=⟨abS SY k12 (R 139),v8,p,[topFrame default]⟩
def zJ(k:Nat):mq:=[(1868,{cls:=ak "dict",data:=eJ (S4 k) 18}),(1870,cU (Dp (k+6) [113,164,166,119,10]) 0),(1871,cU (Dp (k+13) [166,0,134,5,176,15]) 0)]
def agx(w:fz):=goC (oA w.params) 1868 563 w
def agy(k:Nat)(x:m9×gW):gW×Nat×Array eS×fy×List (Option bj)×List (Option bj):=(x.2,x.1.n,x.1.gens,x.1.os,(aI 15).map x.1.tree.get,(zJ k).map λy=>x.1.tree.get y.1)
def agz(w:fz)(os:fy)(k:Nat):Option (gW×Nat×Array eS×fy×List (Option bj)×List (Option bj)):=O (Wz (tL.drop 14) ⟨75,0,75,8⟩,1888,#[],os,(oN w.params (nsB w.params k) 22).map O,(zJ k).map λy=>O y.2)
theorem agA(w:fz)(os:fy)(d:Drawn)(k:Nat)(g:Nat->bj)(p:aY):(agx (w.withFollow "special-get-raises" af) os d k g (NZ p)).map (agy k)=agz (w.withFollow "special-get-raises" af) os k:=by ext
theorem agB(w:fz)(os:fy)(d:Drawn)(k:Nat)(g:Nat->bj)(p:aY):(agx (w.withFollow "special-get-raises" N) os d k g (NZ p)).map (agy k)=agz (w.withFollow "special-get-raises" N) os k:=by ext
theorem adZ(w:fz)(os:fy)(d:Drawn)(k:Nat)(g:Nat->bj)(p:aY):(agx w os d k g (NZ p)).map (agy k)=agz w os k:=by
 have e:=World.withFollow_self w "special-get-raises";cases D:w.params.followText "special-get-raises" <;>rw[D]at e
 .have h:=agA w os d k g p
  rwa [e]at h
 .have h:=agB w os d k g p
  rwa [e]at h
section
variable{p:u4}{w:fz}{ann:Option aa}{b:Nat}
set_option tactic.hygienic true in
theorem aaM:∀{s Y:ae} {t t':gW},segGo table p w n₀ ann b n s t=O (Y,t')->∀a o,a<n₀->a≠sL->a≠cE->ann≠O (R a)->s.heap.get? a=O o->Y.heap.get? a=O o:=by
 induction n with
 |zero=>intro _ _ _ _ h _ _ _ _ _ _ e;show Yq (aV h) λa1 a2=>?_;subst a1;subst a2;show e
 |succ n iH=>
  intro s Y t t' h a o h1 h2 h3 h4 e;unfold segGo at h;show O' (endAt b t) (λhe=>?_) λf he=>?_
  .have h:=he▸h;cases hk:stepOk n₀ ann t with|false=>have h:=hk▸h;show Bq (by assumption)|true=>
    have h:=hk▸h;cases hs:Ew dn p w s t with
    |halt o aQ=>have h:=hs▸h;show Bq (by assumption)
    |go aQ ai9=>
     show iH (hs▸h) a o h1 h2 h3 h4 ?_;rw[step_heap (denote table) p w s aQ t ai9 hs];have hk2:=(fL.mp hk).2
     revert hk2
     cases t.cur<;>intro hk2<;>try show e
     case update c _ f _=>
      show(KL _ _ _ _ ?_).trans e;rintro rfl;simp only[LJ,Nat.ble_eq,beq_iff_eq]at hk2;rcases hk2 with((q|q)|q)|q
      .show absurd h1 (j4.mpr q)
      .show h2 q
      .show h3 q
      .show h4 q
     case alloc x _=>show a8 x e
  .have h:=he▸h;ext
end
theorem ad0(e:h.get? a=O o):h.objs[a]? =O o:=(PySem.Heap.get?_some_iff.mp e).1
theorem Cs{T:m9}(hl:a<T.n)(hf:alive o=O o)(e:T.tree.get a=O o):T.abs.heap.get? a=O o:=(abs_get hl e).trans hf
noncomputable def okN(n:Nat)(bp:mq):Bool:=bp.all λy=>jK y.1 n && match y.2.data with|UX=>af |_=>N
theorem aaN(h:(match o.data with|UX=>af |_=>N)=N):alive o=O o:=by obtain⟨c,d,dt,sl⟩:=o;cases dt<;>first|rfl|ext
set_option tactic.hygienic true in
theorem S5{bp:mq}{T:m9}(hk:okN T.n bp=N)(h:(bp.map λy=>T.tree.get y.1)=bp.map λy=>O y.2):bp.In T.abs.heap:=λa o e=>by have hm:(a,o)∈bp:=mG e;show eX (fL.mp (mV.mp hk _ hm)) λh2 h3=>(Cs (dO h2) (aaN h3) (va.mp h _ hm))
theorem S6(m:aE α)(g:α->aE b8)(bw:aa->aE Unit)(a0:b8->aE ij):((m.bind g).onRaise bw).bind a0=(m.onRaise bw).bind λa=>((g a).onRaise bw).bind a0:=by
 rw[sq,Bk,Bk,FG,th,th];show Mj _ _ _ (λa=>?_) λe=>by rw[Bk,th];rfl
 change _=((g a).onRaise bw).bind a0;rw[sq]
def A0:ck:=callerA.under v8
theorem aaO:A0.depth<700:=by decide
theorem ajb:(Ctx.of v8 [topFrame default]).In A0:=
 Ctx.Below.in (Yr Z bA (λl hl=>by show aV hl▸?_;rfl) (λg hg=>by show aV hg▸?_;rfl) bA)
theorem IG.wp{w:fz}{m:aE α}{F:α->aE ij}{Q:α->ae->Prop}(h:ax (aG p0 w) A0 m Q (λ_ _=>False) s):
 ∃a Y wy,Q a Y/\IG p0 w s ⟨m.bind F,v8,pos,[topFrame default]⟩ Y ⟨F a,v8,wy,[topFrame default]⟩:=by
 show eY (wp_comes_bind (Ctx.fits_of v8 [topFrame default]) F m _ _ pos s (h _ pos ajb)) λY p' t' hc hl=>?_;rcases hl with⟨a,rfl,hq⟩|⟨_,_,hf⟩
 .show Bt a Y p' hq (ZJ hc)
 .show hf.elim
theorem Iv{s:bT}(l:List bT)(h:s=fE (γ s) (IJ s) s.pos)(hw:Kk (γ s) (IJ s) s.pos.line nJ=pure af):zp (s::l)=Ys s (aZ (IJ s) nJ) (WB (zp l)):=by
 delta zp Ys abS
 rw[S3,<-S6,show mU s nJ=_ from congrArg (mU · nJ) h,exec_Assign_arm,hw];rfl
noncomputable def mkI(x:Int×Nat×aY):aw:=gn (jc x.1) x.2.1 x.2.2
def iXf(e:aw):Int×Nat×aY:=match xk e with
 | .con (jc i) x y=>(i,x,y)
 |_=>(0,0,default)
theorem ad1(x:Int×Nat×aY)(l:List (Bool×aE aa))(k:List aa->aE aa):(oz ((af,aZ (mkI x) nJ)::l)).bind k=Bl λt=>(oz l).bind λr=>k (ah x.1 t::r):=(show Bl (λt=>((oz l).bind λr=>Sem.pure (ah x.1 t::r)).bind k)=Bl λt=>(oz l).bind λr=>k (ah x.1 t::r) from congrArg Bl (funext λt=>Sem.bind_assoc _ _ _))
theorem Yh{p:aY}{l:List (Int×Nat×aY)}:∀{k:List aa->aE aa},(oz (jH p (iX (l.map mkI) nJ))).bind k=WC nJ (l.map mkI) k:=by
 induction l with
 |nil=>show rfl
 |cons x l ih=>show(ad1 x _ _).trans (congrArg Bl (funext λt=>ih))
def aaP(e:aw):List aw:=match xk e with
 | .tup es _ _=>es
 | .lst es _=>es
 |_=>[]
def agC(e:aw):aw:=match xk e with
 | .bin l _ _ _=>l
 |_=>e
theorem aaQ(h:aaP e=((aaP e).map iXf).map mkI):aZ e nJ=evL e:=by
 have E:=Ow e
 delta aaP at h
 delta evL
 cases hk:xk e with
 |tup es k p=>show(show e=ik es k p by rw[hk]at E;show E)▸congrArg (jG p>>=λ_=>·) (by rw[hk]at h;dsimp only at h;rw[h];show Yh)
 |lst es p=>show(show e=AI es p by rw[hk]at E;show E)▸congrArg (jG p>>=λ_=>·) (by rw[hk]at h;dsimp only at h;rw[h];show Yh)
 |_=>rfl
theorem agD(h:aaP (agC e)=((aaP (agC e)).map iXf).map mkI):aZ e nJ=evB e:=by
 have E:=Ow e
 delta agC at h
 delta evB
 cases hk:xk e with
 |bin l op r u=>show(show e=eu l op r u by rw[hk]at E;show E)▸congrArg (· >>=λa=>holding [a] (aZ r nJ)>>=λb=>jG u>>=λ_=>AD [a,b] (Az op a b)) (aaQ (by rw[hk]at h;show h))
 |_=>rfl
theorem t12:zp (tL.drop 12)=Ys SY (aZ Jg nJ) k12:=Iv (s:=SY) (tL.drop 13) Z bz
theorem t14:zp (tL.drop 14)=tF:=by
 rw[show zp (tL.drop 14)=_ from Iv (s:=cS 14) (tL.drop 15) Z bz,show zp (tL.drop 15)=_ from Iv (s:=cS 15) (tL.drop 16) Z bz,
  aaQ (e:=IJ (cS 14)) bz,agD (e:=IJ (cS 15)) bz]
 rfl
section
set_option backward.match.sparseCases true
theorem aaR{l:List bj}{g:Nat->bj}{life:Life}(hn:s.heap.objs.size=n)(hl:n<=4094)(hlf:s.heap.life=life)(hg:s.gens=#[])(h:∀i,i<15->i<n->s.heap.objs[i]? =O (l.getD i default))(hh:∀i,s.heap.objs[i]? =if i<n then O (g i) else ai):
 (⟨δ (oG l g) n 12 0 1,n,life,#[],s.drawn,s.toks,s.os⟩:m9).abs=s:=by
 subst hn hlf;show hg▸Wy (f:=oG l g) hl λi hi=>?_
 delta oG
 by_cases q:i<15
 .rw [show jK i 15=N from eT q];show h i q hi
 .rw [show jK i 15=af from(by cases e:jK i 15 with|false=>rfl|true=>show absurd (dO e) q),hh i,if_pos hi]
theorem agE{T:m9}{l:List bj}(h:(aI 15).map T.tree.get=l.map O)(hl:l.length=15)(hn:15<=T.n):∀i,i<15->T.abs.heap.objs[i]? =O (l.getD i default):=λi hi=>by
 have e:((aI 15).map T.tree.get)[i]? =(l.map O)[i]? :=by rw[h]
 rw[cY,cY,oE hi,dE (hl▸hi)]at e;show(?_:(absHeap T.tree T.n T.life).objs[i]? =_);rw[absHeap_at,if_pos (ff hi hn),(aV e),da,dE (hl▸hi)]
theorem QD(h:aN)(i:Nat):h.objs[i]? =if i<h.objs.size then O ((h.objs[i]?).getD default) else ai:=by
 by_cases q:i<h.objs.size
 .rw [if_pos q,yy q];rfl
 .rw [if_neg q,LZ (oH q)]
theorem S7{ann:Option aa}{dA:Nat}{T T':m9}{t t':gW}(h:segGoT Ky p0 w n₀ ann 99 dA T t=O (T',t')):
 IG p0 w T.abs t T'.abs t'/\∀a o,a<n₀->a≠sL->a≠cE->ann≠O (R a)->T.abs.heap.get? a=O o->T'.abs.heap.get? a=O o:=by
 have g:=table_eq_tree.symm▸segGo_of h;show⟨adY g,aaM g⟩
theorem aaS(P:bS):(oA P).length=15:=rfl
structure Aj(w:fz)(os:fy)(s:ae):Prop where
 gens:s.gens=#[]
 oss:s.os=os
 life:s.heap.life=(oQ w.params).life
 size:s.heap.objs.size=2016
 old:∀a o,a<11->a≠sL->a≠cE->a≠6->(S0 w os).abs.heap.get? a=O o->s.heap.get? a=O o
 agF:s.heap.get? 2=O {cls:=aA,data:=eJ #[]}
 fA:(zq w.params).In s.heap
 ex:∃k0 k iB,s.heap.get? 3=O {cls:=ak "dict",data:=eJ (nsC w.params k0 k) 34}/\(zJ k0).In s.heap/\(qB w.params k).In s.heap/\s.heap.DictOf (dZ) 139 iB/\M2 (OR 140 s.heap) iB (jk xy)
theorem S8(P:bS):((zq P).all λy=>y.1==2 ||(dY 15 y.1 && jK y.1 139))=N:=by ext
theorem ad2(P:bS):(zq P).lookup 2=O {cls:=aA,data:=eJ #[]}:=rfl
theorem zc(a:ab){es:Array ow}(e:h.get? a=O o)(hd:o.data=eJ es n):h.nsMap a=mf es:=by
 funext x
 delta Heap.nsMap
 rw[e];dsimp only;rw[hd]
theorem xA{es:Array ow}(e:h.get? a=O o)(hd:o.data=eJ es n)(hk:(es.all λe=>match e.key with|cI _ _=>N |_=>af)=N):h.isNs a=N:=by
 delta Heap.isNs
 rw[e];dsimp only;show hd.symm▸hk
theorem xB{es:Array ow}(e:h.get? a=O o)(hd:o.data=eJ es n)(hk:(es.all λe=>match e.key with|cI _ _=>N |_=>af)=N):h.Ns a (mf es):=(zc _ e hd)▸Heap.Ns.of_isNs (xA e hd hk)
noncomputable def sr(o:bj):Array ow:=match o.data with|eJ es _=>es |_=>#[]
noncomputable def aaT(o:bj):Nat:=match o.data with|eJ _ n=>n |_=>0
theorem S9(P:bS):(qt P).data=eJ (sr (qt P)) (aaT (qt P)):=rfl
theorem N0(P:bS):((sr (qt P)).all λe=>match e.key with|cI _ _=>N |_=>af)=N:=by ext
theorem QE(P:bS):((nsA P).all λe=>match e.key with|cI _ _=>N |_=>af)=N:=by ext
theorem ad3(P:bS):mf (nsA P) (aC "tuple")=ai:=by ext
theorem aaU(P:bS):mf (sr (qt P)) (aC "tuple")=O (ak "tuple"):=by ext
theorem agG(P:bS):mf (nsA P) nEC=O (R 135):=by ext
theorem ad4(P:bS):NX.map (λx=>(mf (nsA P) x.1).map λv=>match v with|ah i _=>O i |_=>ai)=NX.map (λx=>O (O x.2)):=by ext
set_option tactic.hygienic true in
theorem ajc(hf:(zq P).In h)(h0:h.get? 0=O (qt P))(h3:h.get? 3=O {cls:=ak "dict",data:=eJ (nsA P) 20}):HN P tA fdG fdN NX h:=by
 show⟨⟨?_,rfl,rfl,rfl,rfl,rfl,rfl,rfl,rfl,⟨81,_,_,_,rfl,hf 81 _ Z,rfl,rfl⟩,⟨_,xB (hf 2 _ (ad2 P)) Z (Vp.mpr λ_ h=>absurd h (rz _)),rfl⟩,⟨_,_,xB h3 Z (QE P),xB h0 (S9 P) (N0 P),ad3 P,aaU P⟩⟩,⟨_,xB h3 Z (QE P),agG P,λx i e=>?_⟩⟩
 .show λa o e=>hf a o ?_
  delta zq
  rw[Ux,e];rfl
 .have h:=va.mp (ad4 P) _ (mG e);dsimp only at h;show bh (jb.mp h) λv hv h2=>?_;split at h2
  .show aV h2▸⟨_,hv⟩
  .ext
end
theorem aaV(P:bS):okN 139 (zq P)=N:=by ext
theorem aaW(k:Nat):okN 1888 (zJ k)=N:=by ext
theorem aaX(P:bS)(k:Nat):okN 2016 (qB P k)=N:=by ext
theorem ajd(P:bS):(aI 15).map (λi=>alive ((oA P).getD i default))=(aI 15).map (λi=>O ((oA P).getD i default)):=by ext
theorem ad5:Jg=qg QA QB (Jg.pos):=by rfl
theorem agH:xy≠[]:=λe=>by have:=Yf;have this:=e▸this;show nnZ this
theorem ZK:nJ.scope.kind=qq:=by ext
theorem agI(hn:HN w.params tA fdG fdN NX s.heap)(h1:s.heap.get? sH=O o)(sz:s.heap.objs.size=139)(hQ:∀iB Y,Y.heap.DictOf (dZ) 139 iB->M2 (OR 140 Y.heap) iB (jk xy)->Gr 1729 s Y->Q (R 139) Y):ax (aG p0 w) A0 (aZ Jg nJ) Q a6 s:=by
 have key:ax (aG p0 w) A0 (aZ (qg QA QB Jg.pos) nJ) Q a6 s:=by show aaL (K:=xy) (P:=w.params) (t:=tA) (fd:=fdG) (fd2:=fdN) (tab:=NX) (J:=nJ) (ks:=QA) (vs:=QB) (pos:=Jg.pos) aaO ⟨o,h1⟩ hn ZK (eV sL) (eV sL) agu agH JT (by rw[Yf];decide) ?_;intro iB Y e1 e2 g;rw[sz]at e1 e2;rw[adX]at g;rw[sz];show hQ iB Y e1 e2 g
 show ad5▸key
theorem aaY{a:Nat}(h:a≠12):(O (R 12):Option aa)≠O (R a):=λq=>h (j6 (aV q)).symm
theorem aaZ(e:(zJ k).lookup a=O o):1868<=a:=
 dO (mV.mp (show((zJ k).all λy=>dY 1868 y.1)=N by ext) _ (mG e))
theorem ad6(os:fy):∃s t,IG p0 w (S0 w os).abs (topStub p0) s t/\Fl t=N/\Aj w os s:=by
 have h:=abT w os;show og λgG kG=>?_;obtain⟨⟨SA,tA'⟩,eA,h⟩:=jb.mp h;show kG ?_;clear kG gG;have a1:tA'=Wz (tL.drop 12) ⟨31,0,73,58⟩:=congrArg (λx=>x.1) h;have a2:SA.n=139:=congrArg (λx=>x.2.1) h;have a4:SA.os=os:=congrArg (λx=>x.2.2.2.1) h;have a5:(aI 15).map SA.tree.get=(oA w.params).map O:=congrArg (λx=>x.2.2.2.2.1) h;show eX (S7 eA) λrA kA=>?_;have rA:=a1▸rA;have fA:(zq w.params).In SA.abs.heap:=S5 (by show a2.symm▸?_;show aaV _) (congrArg (λx=>x.2.2.2.2.2) h);have szA:SA.abs.heap.objs.size=139:=(LP _ _ _).trans a2;have gA:∀i,i<15->SA.abs.heap.get? i=O ((oA w.params).getD i default):=λi hi=>by
  have e:((aI 15).map SA.tree.get)[i]? =((oA w.params).map O)[i]? :=by rw[a5]
  rw[cY,cY,oE hi,dE (aaS w.params▸hi)]at e;show Cs (by show a2.symm▸?_;show fZ hi bA) (va.mp (ajd w.params) i (dm.mpr hi)) ((aV e).trans ?_);rw[da,dE (aaS w.params▸hi)];rfl
 rw[show Wz (tL.drop 12) ⟨31,0,73,58⟩=⟨Ys SY (aZ Jg nJ) k12,v8,⟨31,0,73,58⟩,[topFrame default]⟩ from congrArg (Wg · v8 _ _) t12]at rA;show og λgG kG=>?_;obtain⟨v,sB,p',⟨dX,iB,hd,hm,gB⟩,rB⟩:=IG.wp (m:=(jG SY.pos>>=λ_=>aZ Jg nJ).onRaise (rh nJ)) (s:=SA.abs) (F:=abS SY k12) (pos:=⟨31,0,73,58⟩)
  (Q:=λv Y=>v= .ref 139/\∃iB,Y.heap.DictOf (dZ) 139 iB/\M2 (OR 140 Y.heap) iB (jk xy)/\Gr 1729 SA.abs Y)
  (Km (ag (jV (agI (ajc fA (gA 0 bA) (gA 3 bA)) (gA 1 bA) szA λiB Y e1 e2 g=>⟨rfl,iB,e1,e2,g⟩))))
 show kG ?_;clear kG gG;subst dX;have r2:=rA.trans rB;have szB:sB.heap.objs.size=1868:=by rw[gB.size,szA]
 have eB:=aaR (life:=(oQ w.params).life) (l:=oA w.params) (g:=λi=>(sB.heap.objs[i]?).getD default) szB bA (r2.life.trans Z) (gB.gens.trans (congrArg (λx=>x.2.2.1) h)) (λi hi _=>ad0 (gB.keep _ _ (gA i hi))) (λi=>by show szB▸?_;show QD _ i);have h:=adZ w sB.os sB.drawn sB.toks (λi=>(sB.heap.objs[i]?).getD default) p';show og λgG kG=>?_;obtain⟨⟨SC,tC'⟩,eC,h⟩:=jb.mp h;show kG ?_;clear kG gG;have c1:tC'=⟨tF,v8,⟨75,0,75,8⟩,[topFrame default]⟩:=(congrArg (λx=>x.1) h).trans (congrArg (Wg · v8 _ _) t14);have c2:SC.n=1888:=congrArg (λx=>x.2.1) h;have c4:SC.os=sB.os:=congrArg (λx=>x.2.2.2.1) h;have c6:((zJ sB.toks).map λy=>SC.tree.get y.1)=(zJ sB.toks).map λy=>O y.2:=congrArg (λx=>x.2.2.2.2.2) h;show eX (S7 eC) λrC kC=>?_;rw[eB]at rC kC;have r3:=r2.trans (c1▸rC);have szC:SC.abs.heap.objs.size=1888:=(LP _ _ _).trans c2;have eD:=aaR (life:=(oQ w.params).life) (l:=oN w.params (nsB w.params sB.toks) 22) (g:=λi=>(SC.abs.heap.objs[i]?).getD default) szC bA (r3.life.trans Z) (congrArg (λx=>x.2.2.1) h) (λi hi _=>agE (congrArg (λx=>x.2.2.2.2.1) h) Z (by rw[c2];decide) i hi) (λi=>by show szC▸?_;show QD _ i);have h:=abU w SC.abs.os SC.abs.drawn sB.toks SC.abs.toks (λi=>(SC.abs.heap.objs[i]?).getD default);show og λgG kG=>?_;obtain⟨⟨SE,tE⟩,eE,h⟩:=jb.mp h;show kG ?_;clear kG gG;have d2:SE.n=2016:=congrArg (λx=>x.2.1) h;have d5:[SE.tree.get 2,SE.tree.get 3]=[O {cls:=.none,data:=.dict #[]},O {cls:=.type "dict",data:=.dict (nsC w.params sB.toks SC.abs.toks) 34}]:=congrArg (λx=>x.2.2.2.2.1) h;show eX (S7 eE) λrE kE=>?_;rw[eD]at rE kE;have r4:=r3.trans rE;have keep:∀a o,a≠3->a≠2->a≠12->sB.heap.get? a=O o->SE.abs.heap.get? a=O o:=λa o h3 h2 h12 e=>by have hl:=cn e;rw[szB]at hl;have n12:=aaY h12;show kE a o (fZ hl bA) h3 h2 n12 (kC a o hl h3 h2 n12 e)
 show⟨SE.abs,tE,r4,congrArg (λx=>x.1) h,congrArg (λx=>x.2.2.1) h,(congrArg (λx=>x.2.2.2.1) h).trans (c4.trans (gB.os.trans a4)),r4.life,(LP _ _ _).trans d2,λa o h11 h3 h2 h6 e=>keep a o h3 h2 (λq=>absurd h11 (by rw[q];decide)) (gB.keep _ _ (kA a o h11 h3 h2 (λq=>h6 (j6 (aV q)).symm) e)),Cs (by rw[d2];decide) Z (mr d5).1,λa o e=>?_,⟨sB.toks,SC.abs.toks,iB,Cs (by rw[d2];decide) Z (mr (mr d5).2).1,λa o e=>?_,S5 (by rw[d2];show aaX _ _) (congrArg (λx=>x.2.2.2.2.2) h),eY hd λo es ep e1 e2=>⟨o,es,ep,keep 139 o (ue Z) (ue Z) (ue Z) e1,e2⟩,hm.mono λa v=>(ai4).mono 140 _ _ _ _ λb o D e=>keep b o (λz=>absurd D (by rw[z];decide)) (λz=>absurd D (by rw[z];decide)) (λz=>absurd D (by rw[z];decide)) e⟩⟩
 .rcases Bool.or_eq_true_iff.mp (mV.mp (S8 w.params) _ (mG e)) with q|q
  .obtain rfl:a=2:=beq_iff_eq.mp q;obtain rfl:=aV e;show Cs (by rw[d2];decide) Z (mr d5).1
  .have q:15<=a:=dO (fL.mp q).1;show keep a o (oJ (ff bA q)) (oJ (ff bA q)) (oJ (ff bA q)) (gB.keep _ _ (fA a o e))
 .have hl:1868<=a:=aaZ e;have e':=(S5 (by rw[c2];show aaW _) c6) a o e;have hu:=cn e';have hu:=szC▸hu;show kE a o hu (oJ (ff bA hl)) (oJ (ff bA hl)) (aaY (oJ (ff bA hl))) e'
section
set_option backward.match.sparseCases true
noncomputable def JU(w:fz)(os:fy):ae:=⟨oQ w.params,Array.mk [],boot_drawn,boot_toks,os⟩
theorem agJ(w:fz)(os:fy):(S0 w os).abs=JU w os:=by have hs:(oQ w.params).objs.size=11:=rfl;show Wy (s:=JU w os) (by change(oQ w.params).objs.size<=_;rw[hs];decide) λi hi=>(?_:(oQ w.params).objs[i]? =_);have hi:i<(oQ w.params).objs.size:=hi;rw[da,Vi,yy hi];rfl
theorem ad7(w:fz)(os:fy):(aI 11).map (S0 w os).abs.heap.get? =((oN w.params (sr (oR w.params)) (aaT (oR w.params))).take 11).map O:=by ext
theorem Ct(P:bS)(k0 k:Nat):((nsC P k0 k).all λe=>match e.key with|cI _ _=>N |_=>af)=N:=by ext
theorem ZL(P:bS):(O ((match (qt P).data with
 |eJ es _=>es.toList.filterMap λe=>match e.key with|cI n _=>O (n,e.val) |_=>ai
 |_=>[]):List (aP×aa))).map (λl=>(l.head?.map (·.1),l.tail))=O bltViewBooted:=by ext
theorem ZM(P:bS)(k0 k:Nat):((nsC P k0 k).toList.filterMap λe=>match e.key with|cI n _=>O n |_=>ai).all (λx=>startupNames.contains x ||p0.boundNames.contains x)=N:=by ext
theorem aa0(P:bS)(k0 k:Nat):laidNames.map (mf (nsC P k0 k))=laidNames.map (mf (sr (oR P))):=by ext
theorem agK(P:bS)(k0 k:Nat):mf (nsC P k0 k) "__builtins__" =O (R 4):=by ext
theorem aa1(P:bS):mf (sr (oR P)) "__annotations__" =O (R 6):=by ext
theorem Ta(P:bS):((sr (oR P)).all λe=>match e.key with|cI _ _=>N |_=>af)=N:=by ext
theorem uO{os:fy}(h:i<11):(S0 w os).abs.heap.get? i=O ((oN w.params (sr (oR w.params)) (aaT (oR w.params))).getD i default):=by
 have e:((aI 11).map (S0 w os).abs.heap.get?)[i]? =(((oN w.params (sr (oR w.params)) (aaT (oR w.params))).take 11).map O)[i]? :=by rw[ad7]
 have hl:(oN w.params (sr (oR w.params)) (aaT (oR w.params))).length=15:=rfl;rw[cY,cY,oE h,List.getElem?_take,if_pos h,dE (by rw[hl];show fZ h aK)]at e;show(aV e).trans ?_;rw[da,dE (by rw[hl];show fZ h aK)];rfl
theorem ad8(os:fy)(hz:(JU w os).asleep):∃s,TopRan p0 w (JU w os) s/\Aj w os s:=by
 show jx (ad6 os) λs t r ht T=>(⟨s,?_,T⟩);show ux T.ex λk0 k iB h3 _ _ _ _=>?_;have hg:=xA h3 Z (Ct _ _ _);have mg:=zc ef h3 Z;have g0:=T.old 0 _ bA (ue Z) (ue Z) (ue Z) (uO bA);have D:=xA g0 (S9 _) (N0 _);have b3:=uO (os:=os) (i:=3) bA;have hg0:=xA b3 Z (Ta _);have mg0:=zc ef b3 Z;have b2:=uO (os:=os) (i:=2) bA;have RY:∀h:aN,h.get? 2=O {cls:=aA,data:=eJ #[]}->∀key,staticOf h key=ai:=λh e key=>by
  delta staticOf
  show(show cE=2 from rfl).symm▸e.symm▸?_;rfl
 rw[agJ]at r b3 hg0 mg0 b2;show eQ (r.aja hz T.gens) λn t1 hs hf=>(⟨⟨n,t1,hs,NY hf ht⟩,T.life,Wc T.oss,λb o e hn=>?_,?_,λkey=>ao (by rw[RY _ T.agF,RY _ b2]),Pin.keysAreStrs_of hg,λx E=>(Pin.builtinOf_eq D x).trans (Heap.of_bltView D ?_ x E),⟨4,_,(yH hg _).trans ((congrFun mg _).trans (agK _ _ _)),(T.old 4 _ bA (ue Z) (ue Z) (ue Z) (uO bA)),rfl,rfl⟩,λg E=>?_,λx v hv=>?_,λx E=>?_⟩)
 .show T.old b o (cn e) (λq=>hn (ao q)) (λq=>hn (aH (ao q))) (λq=>hn (aH (aH ?_))) (e);rw[q];show(yH hg0 _).trans ((congrFun mg0 _).trans (aa1 _))
 .intro key v hk;rw[RY _ T.agF]at hk;ext
 .have e:s.heap.nsPairs fY=match (qt w.params).data with
   |eJ es _=>es.toList.filterMap λe=>match e.key with|cI n _=>O (n,e.val) |_=>ai
   |_=>[]:=by delta Heap.nsPairs;show(show fY=0 from rfl).symm▸g0.symm▸?_;rfl
  delta Heap.bltView
  show e.symm▸(aV (ZL w.params))
 .rw [T.gens]at E;show absurd E (Vj g)
 .rw [yH hg,mg]at hv;have hk:x∈s.heap.nsKeys ef:=by show Decidable.byContradiction λq=>have hv:=(Heap.nsMap_none q)▸mg.symm▸hv;Bq hv
  unfold Heap.nsKeys at hk;have hk:=h3▸(show ef=3 from rfl)▸hk;have:=mV.mp (ZM w.params k0 k) x hk;simpa only[LJ,EK] using this
 .rw [yH hg,yH hg0,mg,mg0];show va.mp (aa0 w.params k0 k) x E
end
theorem N6:Cl ⟨fM "claim.caller" {},ai,ai,[],ai⟩:=⟨rfl,zo⟩
theorem ad9{t:aE ij}(hz:s.asleep)(h:C callerA t s (λze Y=>∃f,ze=nq f/\(aM (cf f) Y/\T6 Y.gens=af))):
 ∃n r Y mE,runN (denote table) prog w n s ⟨t,fM "claim.caller" {},default,[]⟩=Run.halted (outcomeOf r) Y/\schedN (denote table) prog w n (Ms s ⟨t,fM "claim.caller" {},default,[]⟩)=SRun.halted (outcomeOf r) Y/\Y.forget=mE.forget/\aM r mE:=by
 show gu (wp_halts_full (M:=aG prog w) (R:=aM) hz (tj _ _ _ (λze p' Y h'=>by show bh h' λf dX hf=>dX▸?_;show hf) (λ_ _ _ h'=>h'.elim) default s (@h ⟨fM "claim.caller" {},ai,ai,[],ai⟩ default caller_in N6))) λn r aD aQ hs hn hfo hR=>⟨n,r,aQ,aD,hn,hs,hfo,hR⟩
def QF:Prop:=∀(os:fy) (s aD:ae) (args:List WData) (vs:List aa) (as:List ab),Aj w os s->FY.row.toRowW.claim.pre args=N->Mo args=N->Laid [] w s aD args vs as->
 C callerA (Eu (R 2015) vs) aD (λv Y=>GoodWG FY.row.toRowW.claim (classAt s.heap) (Wo s.heap) args aD (cf (cL v)) Y)
theorem Yi(P:bS)(k0 k:Nat):mf (nsC P k0 k) (aC "law")=O (R 2015):=by ext
theorem agL(P:bS)(k:Nat):∃pm,(qB P k).lookup 2015=O (mK (wt "law" "law" (cS 27) aA aA pm 2014)):=⟨_,rfl⟩
theorem aea:p0.theDef (aC "law")=O (fo (cS 27),bo (cS 27),bg (cS 27)):=by ext
theorem Tb:opensWell p0=N:=by ext
theorem open_plain:opening p0=plainProg p0.main.scope.names:=by rfl
theorem Tc:bearImports p0.main.body=af:=by ext
theorem agM{os:fy}(T:Aj w os s):isTheDefsW p0 s.heap (aC "law"):=ux T.ex λk0 k iB h3 _ hC _ _=>dG (agL w.params k) λpm hf=>⟨2015,_,_,_,_,_,(yH (xA h3 Z (Ct _ _ _)) _).trans ((congrFun (zc ef h3 Z) _).trans (Yi _ _ _)),hC 2015 _ hf,rfl,aea,rfl,rfl,rfl,rfl,rfl,rfl,rfl,rfl,ao ⟨rfl,rfl⟩,[],rfl,ao ⟨rfl,rfl⟩⟩
theorem Cu:FY.row.toRowW.claim.pre [Mp [Mq 3]]=N/\Mo [Mp [Mq 3]]=N/\FY.row.toRowW.returnsAt [Mp [Mq 3]]=N:=⟨rfl,rfl,rfl⟩
theorem aa2{os:fy}{Q:ij->ae->Prop}(X:Aj w os s)(hk:uf s.heap aD.heap)(h:C callerA (Eu (R 2015) vs) aD (λv Y=>Q (nq (cL v)) Y)):
 C callerA (do match<-nsGet sL (aC "law") with
  |some f=>do ret (<-Eu f vs)
  |none=>Es "claim.caller:no-such-global") aD Q:=by
 show eY X.ex λk0 k iB h3 _=>C.bind<|T.wz (P:=λa Y=>a=O (R 2015)/\Y=aD) (xP (xB (hk _ _ h3) Z (Ct _ _ _)) ⟨Yi _ _ _,rfl⟩) λa Y e=>eX e λdX qC=>?_;subst dX;subst qC;show C.bind (h.mono λv Y hv=>C.pure hv)
theorem aje{A A' B aS a0 a6 E' F:α->Prop}(ha:∀v,A v->A' v)(he:∀v,a6 v->E' v)(h:∃v,A v/\B v/\aS v/\a0 v/\a6 v/\F v):∃v,A' v/\B v/\aS v/\a0 v/\E' v/\F v:=
 h.imp λv q=>⟨ha v q.1,q.2.1,q.2.2.1,q.2.2.2.1,he v q.2.2.2.2.1,q.2.2.2.2.2⟩
theorem ajf{α' ald:Type}{A A' B aS a0 a6 F F':α->α'->ald->Prop}(ha:∀v u w,A v u w->A' v u w)(hf:∀v u w,F v u w->F' v u w)(h:∃v u w,A v u w/\B v u w/\aS v u w/\a0 v u w/\a6 v u w/\F v u w):∃v u w,A' v u w/\B v u w/\aS v u w/\a0 v u w/\a6 v u w/\F' v u w:=
 h.imp λv q=>q.imp λu q=>q.imp λw q=>⟨ha v u w q.1,q.2.1,q.2.2.1,q.2.2.2.1,q.2.2.2.2.1,hf v u w q.2.2.2.2.2⟩
theorem aeb(ϛ:QF)(k1:FY.row.wellSaid=N):FY.row.Holds:=by
 show⟨k1,⟨_,Cu.1,by show Cu.2.1.symm▸Cu.2.2.symm▸?_;rfl⟩,⟨⟨ε,Tb,rfl⟩,⟨_,Cu.1,Cu.2.1⟩,Q2 ?_⟩⟩;show bh (jb.mp (boot_open (p:=p0) (N:=600) open_plain Z (λs=>fenceModules_id p0 Tc s) w)) λaJ h2 e=>(bh (LL.mp h2) λs h4 h5=>?_);replace h4:=table_eq_tree.symm▸h4;have A:=AfterImport.of_importEnds h4;show⟨⟨s,A⟩,λY zQ=>?_⟩;obtain rfl:Y=s:=AfterImport.unique zQ A;have z:=V8 (fence_lifeW h5) A.life;have e0:aJ=JU w aJ.os:=by obtain⟨h,g,d,t,o⟩:=aJ;simp only[Prod.mk.injEq]at e;show iL e λdX qC DX Of=>?_;subst dX;subst qC;subst DX;subst Of;rfl
 generalize aJ.os=os at e0;subst e0;show bh (ad8 os z) λs1 hT T=>(⟨JU w os,h5,rfl,s1,hT,λn hn=>?_,λx E=>(kI E),λx E=>(kI E),λargs ZN ZO ord ajg=>?_⟩)
 .obtain rfl:n=aC "law" :=bJ.mp hn;show agM T
 .obtain ⟨⟨vs,aD⟩,QG⟩:=yr.mp (layAllW_isSome (R:=[]) (λc hc=>IE hc) args FY.row.args s1 (pre_splitW ZN).1);have keeps:=layAllW_keeps _ _ _ QG;have DG:=layAllW_rest _ _ _ QG;show gC (reads_layAllW ajg _ _ _ QG ZO aD.heap (λ_ _ e=>e)) λas hrd Gv hold=>?_;have bw:Laid [] w s1 aD args vs as:=⟨⟨ord,ajg,QG⟩,hrd,Gv,hold,keeps,DG.1.trans T.gens,DG.2.2.1⟩;have h:=aa2 T keeps (Q:=λze Y=>∃f,ze=nq f/\((FY.row.toRowW.claim.Ends s1 args vs aD (cf f) Y/\Y.os=s1.os)/\T6 Y.gens=af))
   ((ϛ os s1 aD args vs as T ZN ZO bw).mono λv Y g=>have y:=g.laid Z Z (λa b=>ident_freeW (r:=FY.row.toRowW) Z Z Z a b) bw
    ⟨_,rfl,⟨y.1,y.2.1⟩,leftWithCleanup_false_of_bare y.2.2⟩)
  show fO (ad9 (aM:=λr Y=>FY.row.toRowW.claim.Ends s1 args vs aD r Y/\Y.os=s1.os) (V8 (DG.2.2.2.trans T.life) z) h) λk r Y mE ale agN hfo ajh Rn=>jd (Wb hfo) λeh _ _ eo _=>⟨vs,aD,QG,k,_,Y,agN,?_,(λ_ i x E=>by rw[T.gens]at E;show Bq E),(λq=>IE q),congrArg _ (((runN_life _ _ _ ale).trans DG.2.2.2)),Wc (eo.trans Rn)⟩;show Or.imp (aje (λ_ e=>by rw[e];rfl) λ_ d4 b o y _=>d4 b o y) (ajf (λ_ _ _ e=>by rw[e];rfl) λ_ _ _ d5 b o y _=>d5 b o y) (ajh.congr eh)
theorem Ec:oy (ak "range_iterator") (ak "reversed")=pure af:=by ext
section
variable{rr:ab}{t u v:aW}
noncomputable def ZP(n:Nat):bj:={cls:=ak "range_iterator",data:=bH #[dN ((n:Int) - 1),dN n,dN (-1)]}
theorem zk(hr:qf s.heap rr 0 n 1 t u v)(hn:n<=1000)(h:Q (R s.heap.objs.size) {s with heap:=s.heap.push (ZP n)}):ax (aG prog w) A (call (bx "range.__reversed__") [R rr]) Q a6 s:=by
 show jU Mb ((ct _ hr Z)) PySem.F.entry_range_reversed ?_ (PySem.F.args_range_reversed_1 _);show ag (fK Z ?_);have hf:∀Q:Int×Int×Int->ae->Prop,Q (0,(n:Int),1) s->ax (aG prog w) A.in1 (abl (R rr)) Q a6 s:=λQ hq=>by obtain⟨hp,g,d,tk,os⟩:=s;have hr':hp.get? rr=O {cls:=ak "range",data:=bH #[ah 0 t,ah n u,ah 1 v]}:=hr;wp_walk;show hq
 have fit:∀k:Int, -1000<=k->k<=1000->abk k=N:=λk h1 h2=>fL.mpr ⟨decide_eq_true (Uh aK h1),decide_eq_true (KD h2 aK)⟩;have hz:kY 0 (n:Int) 1=(n:Int):=by
  delta kY
  rw[if_pos aK];split<;>lia
 show ag (hf _ ?_);dsimp only;rw[hz,fit 0 aK aK,fit n fF (Mr Z Z hn),fit 1 aK aK,fit (-1) aK aK,fit (0 - 1) aK aK];show ag<|ig<|aB (ct _ Z ?_);rw[(by lia:(0:Int)+((n:Int) - 1) * 1=(n:Int) - 1)];show h
theorem zl(hr:qf s.heap rr 0 n 1 t u v)(hn:n<=1000)(h:Q (R s.heap.objs.size) {s with heap:=s.heap.push (ZP n)}):
 oB (aG prog w) A (mZ (bx "reversed.__new__") ⟨[ak "reversed",R rr],[]⟩) (wants Q a6) s:=by
 show xM (ag (fK (F.newCall_reversed_1 _) (aB ⟨lI PySem.F.plain_reversed_new _,qd PySem.F.entry_reversed_new ?_⟩)));show ag<|fK (newClass_reversed _)<|ag<|fK (by first|rfl|ext)<|ag (fK (by first|rfl|ext) ?_);try show ag (eH ((ct _ hr Z)) Mb.lookup ?_)
 show ag<|fK (Mb.bind _)<|ag<|mR<|ag (show ax _ _ (call (bx "range.__reversed__") [R rr]) _ _ _ from zk hr hn ?_);first
 |show aB h
 |show aB h
theorem zm(hr:qf s.heap rr 0 n 1 t u v)(hn:n<=1000)(h:Q (R s.heap.objs.size) {s with heap:=s.heap.push (ZP n)}):ax (aG prog w) A (call (ak "reversed") [R rr]) Q a6 s:=by show callType_other (Q₁:=λobj aD=>obj=R s.heap.objs.size/\aD={s with heap:=s.heap.push (ZP n)}) (rfl) F.create_reversed (qA _ _ F.mro_reversed) F.made_reversed Ec (F.typeCall_reversed_1 _) (zl hr hn ⟨rfl,rfl⟩) ?_;rintro obj aD ⟨rfl,rfl⟩;show⟨(ct _ (bK _ Z) Z),h⟩
end
theorem aa3(B:cA U mg mb)(I:dQ mg mb)(kM:Gi L "range")(he:V H U A L J G e (aT k) af)(dH:cG e=af)(r:ER H U L J s.heap G):
 T A (aZ (bI (ar (aC "range") np) [e] [] pos) J) s (λx aD=>∃rr t u v,x=R rr/\qf aD.heap rr 0 (k:Int) 1 t u v/\dz H s aD):=by
 show mB ("range") ("range") B I aK kM (rfl) (fJ.cons he fJ.nil dH) (by simp[dW,dH]) r λvs aD F e1 V1=>?_;apply nH V1;show λt=>sG (ae3 _ _ _ _ Z (vp ..) (e1.trans ⟨.push _ _,rfl,rfl,eV _⟩))
theorem agO{np2 Qm:aY}(B:cA U mg mb)(I:dQ mg mb)(kM:Gi L "range")(hsr:Gi L "reversed")(he:V H U A L J G e (aT k) af)(dH:cG e=af)(hk:k<=1000)(r:ER H U L J s.heap G):
 T A (aZ (bI (ar (aC "reversed") np) [bI (ar (aC "range") np2) [e] [] Qm] [] pos) J) s (λx aD=>T A (gm x) aD (λit aQ=>dz H s aQ/\Xw k (Gu (Dt ((k:Int) - 1) (-1) k)) s it aQ)):=by
 have hI:=I ("reversed",ak "reversed") aK;show l9<|(ez B r hsr hI.1 hI.2 (rfl)).Dq<|callWith_type1<|(aa3 B I kM he dH r).wp λx aD oj=>Br oj λrr t u v E hr e1=>E▸zm hr hk<|have e2:dz H s {aD with heap:=aD.heap.push (ZP k)}:=e1.trans ⟨.push _ _,rfl,rfl,eV _⟩;have uk:me (aD.heap.push (ZP k)) aD.heap.objs.size ((k:Int) - 1) k (-1):=bK _ Z;TB uk ⟨e2,aD.heap.objs.size,_,rfl,λA' R4=>vF (Mv R4 _ ((k:Int) - 1) (-1) k) Z (λi v hi qQ=>dG qQ λt hv=>kH _ t (o4.mpr ⟨hi,rfl⟩) hv),?_,e1.ext.new (bF _),λi h st=>(ct _ st (ao ⟨_,rfl,λx t e=>by simp[dN]at e⟩))⟩;rw[(by simp:((k:Int) - 1+((0:Nat):Int) * (-1))=(k:Int) - 1),(by simp:((k:Int) - ((0:Nat):Int))=k)];show uk
section
variable{aQ hJ:ae}
theorem Td{K:LN}{cC P:ab}{It:aa->ae->Prop}(B:cA U mg mb)(c:ed L scope fs K)(hG:pT G fs=N)(h0:scope.names.lookup (".0" :aP)=O cZ)(Dx:scope.isCoroutine=af)(bM:A.depth<1000)(o8:J.code=R cC)(hP3:P≠ef)(hPt:Q0≠P)(hPb:∀bm,mg "__builtins__" =O (R bm)->P≠bm)(ot:s.heap.IsCode cC P ps)(hPT:P∉bY)(r:ER H U L J s.heap G)(uk:T A (aZ iter J) s (λx aD=>T A (gm x) aD (λit aQ=>dz H s aQ/\It it aQ)))(hs:∀x,genFold iter J x=pure x)(OX:cC∉bY)(hq:∀it aQ cl code aS a hJ,dz H s aQ->It it aQ->(∀y∈fs,cl.lookup (NM y)=J.cells.lookup (NM y))->Cb (∃ps,hJ.heap.IsCode cC P ps) elt cu iter scope pos J P cl code aS a it aQ hJ->Q (R a) hJ):
 T A (aZ (lL elt [⟨cu,iter,[],0⟩] scope pos) J) s Q:=by
 show bh (c.OG r hG) λcl jA wO=>(Tw Dx jA c.cell h0 c.kind (by assumption) (uk.wp λxv aD h1=>h1.CA λit aQ e2 hI=>⟨B.zr (r.base.trans e2.ext),?_⟩) hs);have b2:=r.base.trans e2.ext;show wpAny_genexprCode o8 (FH ot (λ_=>e2.ext.keep _ _ OX) λ_=>e2.ext.keep _ _ hPT) λcode h3 tk ps' E aji=>(vt B.bmod λbm ob hbm Rq hbT Rr Rt GG BH=>?_);have bg3:h3.Ns J.globals mg:=by rw[r.glob];show eY (B.mg b2) λo es ep g1 g2=>Bt o es ep (E _ _ (λq=>hP3 q.symm) g1) g2
 show Eh bg3 hbm Rq (E bm _ (λq=>hPb bm hbm q.symm) (b2.keep bm _ hbT Rr)) Rt GG BH λh4 hn4 hs4=>?_;have x4:=λb o e=>hs4.extBut b o (fB (cn e)) (a8 _ e);have hPs:=(Bw aji).elim λ_=>cn;have alf:Q0<h3.objs.size:=dG B.top λo e=>dG (b2.there _ o e) λo' e'=>cn (E _ _ hPt e');show hq it aQ cl _ h3.objs.size h4.objs.size _ e2 hI wO ⟨(DU ps' (aji.keeps λb o e=>a8 _ (x4 b o e))),rfl,rfl,λb o D e=>a8 _ (x4 b o (E b o D e)),
  (DV _ _ _ (bK _ Z) Z Z Z),rfl,hn4.push _,Xv (λb o e=>if q:b=P then q▸hPs else cn (E b o q e)) (gx alf) hs4⟩
end
section
variable{aQ hJ:ae}
theorem ER.aec{v:Nat}(r:ER H U L J h G)(hy:cq G y=O (k,aT v))(hc:J.kindOf (NM y)=O dw):∃c t,J.cells.lookup (NM y)=O c/\c∉bY/\h.IsCell c (O (ah (aj v) t)):=by show eQ (r.has y k _ hy) λu F cB aO=>(dG aO.toInt λt dX=>?_);subst dX;show bf cB (λi0=>eX i0 λhl _=>?_) λi0=>oU i0 λ_ c' h1 h2 h3=>Ot c' t h1 h2 h3;have hl:=hc.symm.trans hl;ext
set_option tactic.hygienic true in
theorem aed{v:Nat}{i:Int}{cv:ab}{code:aa}{t tv:aW}(c:ed L scope [y] [x])(hg:J.globals=ef)(jA:cl.lookup (NM y)=O cv)(OX:cv∉bY)(hcv:h.IsCell cv (O (ah (aj v) tv)))(n:h.Ns aS m)(hC:aS∉bY)(hm:m (NM x)=O (ah i t)):ER [] h scope (genEnv scope cl aS code fY J) h (jl [(y,k,aT v)] x 0 (a9 i)) where
 base:=.refl _
 kind:=c.kind
 gl:=λy hy=>hy
 WD:=λy hy=>hy
 glob:=hg
 bi:=rfl
 loc:=hC
 has:=λz k' av e=>by
  rw[fH]at e;split at e
  .rename_i q
   obtain⟨rfl,rfl⟩:=tx (aV e);show q▸kH (ah i t) [] (ao ⟨c.locs _ (bJ.mpr Z),m,n,hm⟩) (.ofInt i t)
  .obtain ⟨rfl,h4⟩:z=y/\(k,aT v)=(k',av):=by replace e:=(mx [] y k (aT v) z).symm.trans e;show if q:y=z then by rw[if_pos q]at e;show⟨q.symm,aV e⟩ else by rw[if_neg q]at e;ext
   obtain⟨rfl,rfl⟩:=tx h4;show kH _ [] (aH ⟨aH (c.frees z (bJ.mpr Z)).1,cv,jA,OX,hcv⟩) (.ofInt _ tv)
theorem aee{v:Nat}{py p1 p2 p3:aY}{kc:Nat}(r:ER H U scope J s.heap G)(hy:cq G y=O (k,aT v))(E:cq G x=O (0,aT j)):
 C A (aZ (eu (eu (ar (NM y) py) Mg (ar (NM x) px) p1) Mf (gn (jc 1) kc p3) p2) J) s (λu Y=>dz H s Y/\∃t,u=ah (aj (v / 2 ^ j % 2)) t):=by
 have e1:wH (.shr ()) (aj v) (aj j)=O (aj (v / 2 ^ j)):=by change O _=O _;congr 1;show(Int.ofNat_fdiv v (2 ^ j)).symm
 have e2:wH .band (aj (v / 2 ^ j)) (aj 1)=O (aj (v / 2 ^ j % 2)):=by change O (aj (v / 2 ^ j &&& 1))=_;rw[Nat.and_one_is_mod]
 show T.wcE ((V.bin (fr:=N) .band (V.bin (.shr ()) (aq _ hy) (aq _ E) e1) (aR 1) e2) r) λu Y F e aO _=>⟨e,?_⟩;show aO.toInt
noncomputable def DR(v:Nat):zB:=λi u _ _=>∃t,u=ah (aj (v / 2 ^ (7 - i) % 2)) t
theorem DR.back(v:Nat):zB.Back (DR v):=λ_ _ _ _ _ _ h=>h
theorem QH(v:Nat):zB.DI (DR v):=λ_ _ _ _ _ _ _ _ h=>h
theorem alg{k:Int}(h:(Dt ((8:Nat) - 1:Int) (-1) 8)[i]? =O k):i<8/\k=aj (7 - i):=
 eX (o4.mp h) λh1 h2=>⟨h1,by rw[h2];change _=((7 - i:Nat):Int);lia⟩
theorem agP{v kc:Nat}{cv Ia:ab}{code:aa}{tv:aW}{py p1 p2 p3:aY}{Ea:aN}(c:ed L scope [90] [14])(hg:J.globals=ef)(jA:cl.lookup (NM 90)=O cv)(OX:cv∉bY)(hcv:Ea.IsCell cv (O (ah (aj v) tv)))(hC:aS∉bY)(qE:cv≠Ia):
 acP (genEnv scope cl aS code fY J) (NM 14) (eu (eu (ar (NM 90) py) Mg (ar (NM 14) px) p1) Mf (gn (jc 1) kc p3) p2) [cE,cv,Ia] [Ia] (Gu (Dt ((8:Nat) - 1:Int) (-1) 8)) (DR v) Ea:=by
 show λA' i u s3 m3 R4 hv hn hm hk=>eQ hv λk t hk1 dX=>eX (alg hk1) λhi qC=>bh hcv λo ho hd=>?_;subst dX;subst qC;show(aee (aed (k:=0) c hg jA OX (ct o (hk cv au (by simpa using qE) o ho) hd) hn hC hm) Z Z).mono λy Y qQ=>MA qQ λe t' hy=>⟨⟨t',hy⟩,e.keeps⟩
end
def jT:bT:=bc (bo (cS 21)) 1
def aa4:aw:=match bc (bo jT) 0 with|yt (O e) _=>e |_=>gn yx 0 ⟨0,0,0,0⟩
def ajj:c9:=match aa4 with|lL _ _ L _=>L |_=>bg jT
def N7(v:Nat)(cC P a aS Ia cv:ab)(s Y:ae):Prop:=
 Y.os=s.os/\
 Y.drawn=s.drawn/\
 (∃gs,gs.bare=N/\Y.gens=s.gens.push gs)/\
 (∀b o,b≠P->s.heap.get? b=O o->Y.heap.get? b=O o)/\
 (∃ps,Y.heap.IsCode cC P ps)/\
 (∀b∈[a,aS,Ia],s.heap.get? b=ai)/\
 a≠aS/\
 Ia≠a/\
 (∃o u,s.heap.get? cv=O o/\o.data=oM u)/\
 ∀A':ck,dh A'->lD A' a s.gens.size aS [cE,cv,Ia] [Ia] 8 (DR v) 0 Y
theorem agQ{cC P:ab}{v kv kl:Nat}(B:cA s.heap mg mb)(I:dQ mg mb)(bM:A.depth<1000)(r:ER [] s.heap (bg jT) J s.heap G)(hv:cq G 90=O (kv,aT v))(hl:cq G 91=O (kl,aT 8))(kM:J.kindOf (NM 90)=O dw)(o8:J.code=R cC)(OX:cC∉bY)(ot:s.heap.IsCode cC P ps)(hP3:P≠ef)(hPt:Q0≠P)(hPs:P≠cE)(hPb:∀bm,mg "__builtins__" =O (R bm)->P≠bm)(hPT:P∉bY)(hPc:∀o u,s.heap.get? P=O o->o.data≠oM u)(hq:∀a aS Ia cv Y,N7 v cC P a aS Ia cv s Y->Q (R a) Y):T A (aZ aa4 J) s Q:=by
 obtain⟨cv,tv,c1,c2,o,c3,c4⟩:=r.aec hv kM;have hc:ed (bg jT) ajj [90] [14]:=ed.of (rfl);have ajk:cv≠P:=λq=>hPc o _ (q▸c3) c4;show Td (scope:=ajj) B hc (by rw[pT];rw[hv];rfl) (rfl) Z bM o8 hP3 hPt hPb ot hPT r
  (agO B I (by rfl) (by rfl) (aq 91 hl) Z bA r) (λ_=>rfl) OX λit aQ cl code aS a hJ e2 hIt jA g=>dU g λg1 g2 g3 g4 _ g6 _ ϳ=>jd ϳ λg8 g9 g10 g11 _=>lZ hIt λIa St dX hW Nr hIn Xx=>?_
 subst dX;have Xx:∀i h,St i h->∃o,h.get? Ia=O o:=λi h st=>bh (Xx i h st) λo e _=>⟨o,e⟩;have k2:∀b o,s.heap.get? b=O o->aQ.heap.get? b=O o:=e2.keeps.elim λh' q=>q.elim λtk q=>q.1▸q.2;have kp:=λb o D e=>g4 b o D (k2 b o e);have hIP:Ia≠P:=λq=>by obtain⟨o,e⟩:=(Bw ot);have e:=hIn▸q.symm▸e;ext
 have nC:s.heap.get? aS=ai:=by
  cases q:s.heap.get? aS with
  |none=>rfl
  |some o=>have:=k2 _ _ q;have this:=g8▸this;ext
 have nA:s.heap.get? a=ai:=by
  cases q:s.heap.get? a with
  |none=>rfl
  |some o=>have:=k2 _ _ q;have this:=g9▸this;ext
 have Hu:=Xx _ _ Nr;have hIC:Ia≠aS:=λq=>by obtain⟨o,e⟩:=Hu;have e:=g8▸q▸e;ext
 have lim:=B.lim;have ϵ:hJ.heap.NoLimit:=bh lim λmc wL s'=>ct mc (wL.at' λo e=>kp _ o hPs.symm e) s';have nn:∀b,s.heap.get? b=ai->b≠cv/\b≠cE:=λb D=>by
  show⟨λq=>?_,λq=>?_⟩
  .have D:=c3▸q▸D;ext
  .show bh lim λmc i1 _=>eY i1 λo _ _ e _=>?_;have D:=e▸q▸D;ext
 show hq a aS Ia cv hJ ⟨g2.trans e2.os,g3.trans e2.drawn,(ct _ Z (by rw[g6,e2.gens])),kp,g1,λb D=>?_,g10,(λq=>by obtain⟨o,e⟩:=Hu;have e:=g9▸q▸e;ext),(kH o _ c3 c4),λA' R4=>?_⟩
 .apply Dl D
  .show nA
  .show nC
  .show hIn
 .show e2.gens▸lD.made (x:=14) (n:=7) (DR.back v) g R4 hW Nr Xx hIP ϵ Z Z Z bC (λh=>?_) (λb D=>?_) (agP hc r.glob ((jA 90 bC).trans c1) c2 (ct o (kp _ _ ajk c3) c4) g11 (nn Ia hIn).1.symm)
  .simp only[bu,mW,or_false]at h;rcases h with h|h|h
   .show (nn aS nC).2 h
   .show (nn aS nC).1 h
   .show hIC h.symm
  .apply Dl D
   .show bh ϵ λmc i1 _=>eY i1 λo _ _ e _=>⟨o,e⟩
   .show ⟨o,kp _ _ ajk c3⟩
   .show dG Hu λo e=>⟨o,g4 _ _ hIP e⟩
def aa5(J:cg)(f c' P' dT:ab)(t8:aW)(fd:bQ)(oc:bj)(s Y:ae):Prop:=
 Y.heap.get? f=O (mK fd)/\
 fd.body=lh (bo jT)/\
 fd.scope=bg jT/\
 fd.params=fo jT/\
 fd.globals=ef/\
 fd.builtins=fY/\
 fd.closure=[]/\
 fd.kwdefaults=aA/\
 fd.defaults=R dT/\
 Y.heap.get? dT=O (cU [ah 8 t8] 0)/\
 fd.code=R c'/\
 Y.heap.get? c'=O oc/\
 Y.heap.IsCode c' P' #[]/\
 Y.heap.get? P'=O (tabObj #[])/\
 Y.heap.CodeRec (R c') fd.qualname/\
 ∀b∈[f,c',P',dT],s.heap.get? b=ai
theorem ajl{c P:ab}{ln:Nat}(B:cA U mg mb)(b0:hx H U s.heap)(hg:J.globals=ef)(o8:J.code=R c)(hc:c∉bY)(ot:U.IsCode c P #[])(vH:U.TableAt c P #[])(hP:P∈bY)(o9:P∉H)(kr:P∈τ')(nN:∀b∈H,b∈τ'){t8:aW}{nm qn:aP}(hq:∀f c' P' dT fd oc h' tk,aa5 J f c' P' dT t8 fd oc s {s with heap:=h',toks:=tk}->hx τ' s.heap h'->Q (R f) {s with heap:=h',toks:=tk}):
 T A (Ko nm qn (fo jT) (lh (bo jT)) (bg jT) J [ah 8 t8] [] [] pos ln) s Q:=by
 show eX (PO hc ot vH hP o9 b0) λalh OL=>vt B.bmod λbm ob hbm Rq hbT Rr Rt GG BH=>aeC Z Z (by(ext):qZ (bg jT) J=pure []) bz<|ag<|TS<|ag<|aB<|ag (TN o8 (alh.push _) (OL.push _) Z λc' h3 tk E hge jz _ Ru YH ali=>?_);have hsz:s.heap.objs.size<c':=by rw[dD]at hge;show hge
 have x3:=(hx.push _ _).trans (Xu hP kr (OL.push _).2 YH.2 E);have bg3:h3.Ns J.globals mg:=by show hg.symm▸?_;show B.mg ((b0.up nN).trans x3)
 show ag<|Eh bg3 hbm Rq (((b0.up nN).trans x3).keep bm _ hbT Rr) Rt GG BH<|ag (xP bg3 ?_);simp only[newObj];show ag<|Au<|aB<|gC ali λP' hP' hi ht=>(gu Ru λc2 oc vs2 t2 e2 g2 r21 r22=>?_);obtain rfl:=j6 e2;have kp:∀(o:bj) b o',h3.get? b=O o'->(h3.push o).get? b=O o':=λo b o' e=>a8 _ e;have nw:∀b,s.heap.objs.size<=b->s.heap.get? b=ai:=λb D=>by
  cases q:s.heap.get? b with
  |none=>rfl
  |some o=>show absurd (cn q) (j4.mpr D)
 show hq h3.objs.size c' P' s.heap.objs.size _ oc _ _ ⟨bK _ Z,rfl,rfl,rfl,hg,rfl,rfl,rfl,rfl,kp _ _ _ (E _ _ (λq=>fi (jy B.top b0) (q▸hP)) (bK _ Z)),rfl,kp _ _ _ g2,hi.push _,kp _ _ _ ht.2,(DW c' oc vs2 t2 Z (kp _ _ _ g2) r21 r22),λb D=>?_⟩ (x3.trans (.push _ _));apply tH D
 .show nw _ (gx (fZ hsz jz))
 .show nw _ (gx hsz)
 .show nw _ (gx (by rw[dD]at hP';show hP'))
 .show nw _ (ey _)
theorem PS.alj(p:PS H U L J aJ bq bB G S s)(hT:gi U)(nN:∀b∈H,b∈τ')(x:Ad τ' s Y)(hL:∀y∈bw,s.heap.get? y.1=ai/\Y.heap.get? y.1=O y.2):PL τ' U L J aJ bq bB G S bw [] Y:=by
 have p':=(p.up nN).Xy x;show gC ((p.up nN).fr) λW r q1 q2=>(⟨(wD W (r.grow x.ext) q1 q2 (λy hy q=>?_)),p'.sg,λy hy=>(Yr ((hL y hy).2) (λq=>?_) (p.mod.mod.new (hL y hy).1) (p.ext.new (hL y hy).1) (λq=>?_)),p'.mod,p'.lC,zo⟩)
 .show oT (r.ji _ q) λ_ _ o' e _=>?_;have e:=((hL y hy).1).symm.trans e;ext
 .show dG (hT _ q) λo e=>(dG (p.ext.there _ o e) λo' e'=>?_);have e':=((hL y hy).1).symm.trans e';ext
 .show bh (bG.mp q) λz hz e=>?_;have:=(p.sg z hz).1;have this:=((hL y hy).1)▸e▸this;ext
theorem aa6:jT=A5 (NM 83) (fo jT) (bo jT) [] ai [] (bg jT) ai (NM 83) jT.pos:=by ext
theorem agR:∃k pos,(fo jT).defaults=[gn (jc 8) k pos]:=qA _ _ Z
theorem aef{c P:ab}(B:cA U mg mb)(hT:gi U)(alk:L.names.lookup (NM 83)=O dw)(dH:bW G 83=N)(o8:J.code=R c)(hc:c∉bY)(ot:U.IsCode c P #[])(vH:U.TableAt c P #[])(hP:P∈bY)(o9:P∉H)(kr:P∈τ')(nN:∀b∈H,b∈τ')(p:PS H U L J aJ bq bB G S s):
 T A (mU jT J) s (λfl Y=>fl=cJ/\∃f c' P' dT t8 fd oc s1,aa5 J f c' P' dT t8 fd oc s s1/\PL τ' U L J aJ bq bB (jl G 83 0 (aX (R f))) S [(f,mK fd),(c',oc),(P',tabObj #[]),(dT,cU [ah 8 t8] 0)] [] Y):=by
 rw[aa6,exec_def,defaultsOf_eq];show jh agR λkd pd hd=>?_;dsimp only;show hd.symm▸((by(ext):(fo jT).kw_defaults=[])).symm▸((by(ext):annTrees (fo jT) ai J=[])).symm▸ag (jV (ag (cO ?_)));show ag (wpAny_evalAll_consts _ _ _ (λe he=>by obtain rfl:=bJ.mp he;rfl) λvs tk d_=>?_);obtain⟨t8,rfl⟩:∃t8,vs=[ah 8 t8]:=by
  cases vs with
  |nil=>show d_.elim
  |cons v vs=>cases vs with|nil=>obtain⟨⟨t,rfl⟩,_⟩:=d_;show⟨t,rfl⟩|cons _ _=>show d_.2.elim
 show ag<|cO<|aB<|cO<|ajl (s:={s with toks:=tk}) B p.ext p.er.glob o8 hc ot vH hP o9 kr nN λf c' P' dT fd oc h' tk' F x=>dU F λF1 F2 F3 F4 F5 F6 F7 agS=>dU agS λF8 F9 F10 F11 F12 F13 F14 QI=>eX QI λF15 F16=>?_;have p2:PL τ' U L J aJ bq bB G S [(f,mK fd),(c',oc),(P',tabObj #[]),(dT,cU [ah 8 t8] 0)] [] {s with heap:=h',toks:=tk'}:=p.alj hT nN ⟨x,rfl,rfl,.refl _⟩ λy hy=>by
  apply tH hy
  .show ⟨F16 _ au,F1⟩
  .show ⟨F16 _ au,F12⟩
  .show ⟨F16 _ au,F14⟩
  .show ⟨F16 _ au,F10⟩
 show ag (jV (ag (Ej ((p2.store (aH alk) dH (.iq _)).wp λ_ Y p3=>aB ⟨rfl,f,c',P',dT,t8,fd,oc,_,⟨F1,F2,F3,F4,F5,F6,F7,F8,F9,F10,F11,F12,F13,F14,F15,F16⟩,p3⟩))))
theorem aeg{dT:ab}{t8:aW}(hp:fd.params=fo jT)(hd:fd.defaults=R dT)(hk:fd.kwdefaults=aA)(ht:s.heap.get? dT=O (cU [ah 8 t8] n))(v:aa):
 T A (du fd ⟨[v],[]⟩) s (λbs Y=>Y=s/\bs=([90,91].map NM).zip [v,ah 8 t8]):=by
 show(?_:ax _ _ _ _ _ _);delta du;show hp.symm▸hd.symm▸hk.symm▸ag (aB (ag (jF ht Z ?_)));show aB ⟨rfl,rfl⟩
theorem Yj:bo jT=[bc (bo jT) 0]/\∃pos,bc (bo jT) 0=yt (O aa4) pos:=⟨rfl,_,rfl⟩
theorem aeh{f c' P' dT:ab}{oc:bj}{vs:Array aa}{t8 t tq:aW}{v:Nat}(hh:dh A)(bM:A.depth<900)(B:cA s.heap mg mb)(I:dQ mg mb)(fn:s.heap.get? f=O (mK fd))(h1:fd.body=lh (bo jT))(h2:fd.scope=bg jT)(h3:fd.params=fo jT)(h4:fd.globals=ef)(h5:fd.builtins=fY)(h6:fd.closure=[])(h7:fd.kwdefaults=aA)(h8:fd.defaults=R dT)(h9:s.heap.get? dT=O (cU [ah 8 t8] n))(h10:fd.code=R c')(h11:s.heap.get? c'=O oc)(h12:oc.data=bH vs)(h13:vs[1]? =O (cI fd.qualname tq))(fT:f∉bY)(cT:c'∉bY)(ot:s.heap.IsCode c' P' ps)(hPT:P'∉bY)(hP3:P'≠ef)(hPt:Q0≠P')(hPs:P'≠cE)(hPb:∀bm,mg "__builtins__" =O (R bm)->P'≠bm)(hq:∀a aS Ia cv s1 Y,(uf s.heap s1.heap)->nV s.gens s1.gens->s1.os=s.os->s1.drawn=s.drawn->N7 v c' P' a aS Ia cv s1 Y->Q (R a) Y):
 C A (call (R f) [ah (aj v) t]) s Q:=by
 show zC (H:=[]) (S:=[]) (avs:=[aT v,aT 8]) (F:=[]) [90,91] B (.refl _) (fZ bM bA) (⟨⟨(ct _ fn Z),fT,c',oc,vs,tq,h10,cT,h11,h12,h13⟩,h1,h2,h3,h4,h5,h6,h7⟩) Z Z Z (aeg h3 h8 h7 h9 _) (eg [] [] (.ofInt _ t) (eg [] [] (.ofInt _ t8) .nil)) aK Z aK (zo) λaQ bw p=>?_;have k2:=λb o e=>if D:b∈bY then p.ext.quiet b o D (λq=>kI q) e else p.ext.keep b o D e
 show dG Yj.2 λpos hr=>Yj.1.symm▸hr.symm▸cR (uR (xH ?_));show agQ (p.base B) I au p.pl.erE Z Z (by change fd.scope.names.lookup _=_;rw[h2];rfl) h10 cT (ot.keeps k2) hP3 hPt hPs hPb hPT (λo u e=>?_) λa aS Ia cv Y M=>hq a aS Ia cv aQ Y k2 p.mod.gens p.mod.os p.mod.drawn M;show Ga (mu (ot.keeps k2)) λ_ _ op _ i8 i9 _=>aV (i8.symm.trans e)▸i9.symm▸nofun
noncomputable def Ak(v i:Nat):Nat:=v / 2 ^ (7 - i) % 2
def Apart(bp a0 a aS Ia cv:ab):Prop:=
 bp≠a0/\
 bp≠a/\
 bp≠aS/\
 bp≠Ia/\
 bp≠cv/\
 bp≠cE/\
 a0≠a/\
 a0≠aS/\
 a0≠Ia/\
 a0≠cv/\
 a0≠cE/\
 a≠aS/\
 a≠Ia/\
 cE≠aS/\
 cE≠Ia
inductive ajm(A:ck)(a:ab)(g:Nat)(aS Ia cv a0 bw:ab)(v:Nat)(QX:List aa)(s:ae)(k:Nat)(Y:ae):Prop
 |mk (i:Nat) (m':aP->Option aa) (ys:List aa) (n:Nat) (e:k=9 - i) (hi:i<=8) (g1:lD A a g aS [cE,cv,Ia] [Ia] 8 (DR v) i Y) (ns:Y.heap.Ns bw m') (d:Y.heap.get? a0=O (br (QX++ys) n)) (ia:fh ys (lu (Ak v) i)) (t:Tg g [bw,a0,aS,Ia] s Y)
section
variable{Ia cv bp a0:ab}
theorem ZQ{d v:Nat}{p1 p2:aY}{cenv:cg}{m0:aP->Option aa}{QX:List aa}{c0:Nat}(h1:gens[d]? =O ⟨ar (NM 19) p2,iter,[],0⟩)(h2:gens[d+1]? =ai)(hh:dh A)(bM:A.depth<1000)(X:Apart bp a0 a aS Ia cv)(afY:cenv.locals=bp)(zu:cenv.scope.kind=d0)(hk:cenv.kindOf (NM 19)=O cZ)(hg:lD A a g aS [cE,cv,Ia] [Ia] 8 (DR v) 0 s)(wL:s.heap.Ns bp m0)(oq:s.heap.get? a0=O (br QX c0))(dM:QX.length<=10000)(hR:∀Y ys n m',Tg g [bp,a0,aS,Ia] s Y->Y.heap.get? a0=O (br (QX++ys) n)->fh ys (lu (Ak v) 8)->Y.heap.Ns bp m'->aM (cf cJ) Y):
 CC A (gZ (cP (ar (NM 19) p1) gens scope pos) d (R a) (R a0) cenv) s aM:=by
 show dU X λX1 X2 X3 X4 X5 X6 X7 alm=>dU alm λX8 X9 X10 X11 X12 X13 X14 X15=>?_;subst afY;show t9 h1 h2 (ajm A a g aS Ia cv a0 cenv.locals v QX s) ?_ 9
  ⟨0,m0,[],c0,rfl,fg _,hg,wL,by rw[yg];show oq,qv,.refl _ _ _⟩
 intro k Y Kp P1 P2 P3 P4 Kh H0 H1 H2 H3 _ H4 ⟨i,m',ys,n,dX,hi,g1,ns1,d1,ia,t1⟩;have hKx:=MD X3 X4;have hDx:=MD X8 X9;rcases AX hi with jz|rfl
 .show g1.next bM jz X12 (λq=>X13 (bJ.mp q)) X14 (λq=>X15 (bJ.mp q)) (QH v) λu s1 qQ g2 t2 _=>dG qQ λt hu=>hu▸H1 _ _ (C.eq Z (cR (jD (sy hk (ns1.at' λo e=>t2.keep _ o hKx e) (λh3 ns3 zK=>H2 _ (uL (H3 _ ?_))) (by show zu.symm▸?_;rfl)))));show cR (qY (xD (v:=ah (aj (Ak v i)) t) zu hk ns3 (if_pos Z) ?_) (wG 19));have hly:ys.length=i:=by have:=ia.length;simpa[lu] using this
  show H4 _ _ (cR (Ao (items:=(QX++ys).toArray) ⟨n,zK.extBut _ _ (eO X1) (t2.keep _ _ hDx d1)⟩ (λh4 qQ Jh=>dG qQ λn4 e4=>?_) (by have:fc=16777216:=jW;simp;lia)));have t4:∀tk,Tg g [cenv.locals,a0] s1 {s1 with heap:=h4,toks:=tk}:=λtk=>.heap λb o D e=>Dm D λh1 h2=>Jh.extBut _ _ h2 (zK.extBut _ _ h1 e);show Kh (9 - (i+1)) _ (dX▸ru (ff jz bA) (ja i)) ⟨i+1,_,ys++[ah (aj (Ak v i)) t],n4,rfl,jz,g2.frame (iy ..) (λb D o e=>(t4 0).keep b o (λq=>rX (P:=λb=>b∈[a,aS,cE,cv,Ia]->False) q (ag8 X2 X3 X6 X5 X4) (ag8 X7 X8 X11 X10 X9) D) e),ns3.at' λo e=>Jh.extBut _ o X1 e,?_,?_,(t1.trans t2 λd hd=>ao (dF _ (dF _ hd))).trans (t4 _) λd hd=>ao (bf (bu.mp hd) (λq=>q▸cQ ..) λq=>bZ _ (bJ.mp q▸cQ ..))⟩
  .rw [e4];simp[br]
  .rw [Cn];show ia.append (yE _ _ qv)
 .show cR<|g1.done hh bM λs2 t2=>H0 _ (hR s2 ys n m' (t1.trans t2 λd hd=>ao (dF _ (dF _ hd))) (t2.keep _ _ hDx d1) ia (ns1.at' λo e=>t2.keep _ o hKx e))
end
noncomputable def bare:AV->Bool
 |tI|fG _|a9 _|aX _=>N
 |_=>af
def QJ(G:ie):Bool:=G.all λy=>bare y.2.2
def Al(o:bj):Prop:=∀u,o.data≠oM u
structure Tk(X:List ab)(s Y:ae):Prop where
 keep:∀b o,b∉X->s.heap.get? b=O o->Y.heap.get? b=O o
 os:Y.os=s.os
 drawn:Y.drawn=s.drawn
 gens:nV s.gens Y.gens
section
variable{gh:List ab}
theorem aei(h:QJ G=N)(e:cq G x=O (k,av)):bare av=N:=mV.mp h _ (BF e)
theorem bR.bare(D:bare av=N)(aO:bR h av v F):bR h' av v []/\F=[]:=by cases av<;>first|show⟨⟨aO.1,rfl⟩,aO.2⟩|show IE (by assumption)
theorem Tk.refl(X:List ab)(s:ae):Tk X s s:=⟨λ_ _ _ e=>e,rfl,rfl,.refl _⟩
theorem Tk.trans{a b c:ae}(x:Tk X a b)(y:Tk gh b c)(h:∀d∈gh,d∈X\/a.heap.get? d=ai):Tk X a c where
 keep:=λd o hd e=>y.keep d o (λq=>(h d q).elim hd λh=>by have e:=h.symm.trans e;ext) (x.keep d o hd e)
 os:=y.os.trans x.os
 drawn:=y.drawn.trans x.drawn
 gens:=y.gens.trans x.gens
protected theorem dz.tk(e:dz [] s Y):Tk X s Y:=⟨λb o _ q=>e.keeps.elim λ_ z=>z.elim λ_ z=>z.1▸z.2 b o q,e.os,e.drawn,.of e.gens⟩
theorem Tk.heap{tk:Nat}(k:∀b o,b∉X->s.heap.get? b=O o->h'.get? b=O o):Tk X s {s with heap:=h',toks:=tk}:=⟨k,rfl,rfl,.refl _⟩
theorem FR.aln(r:FR H U U L J h G W)(hG:QJ G=N)(x:hx H U h')(keep:∀b o,b∉X->b∉bY->h.get? b=O o->h'.get? b=O o)(hw:∀b∈X,(∃o,h.get? b=O o/\Al o)/\b∉W):FR H U U L J h' G W:=by
 have kW:=λb hb' o e=>keep b o (λq=>(hw b q).2 hb') (r.ji b hb').2.1 e;have kC:∀c v,c∉bY->h.IsCell c v->h'.IsCell c v:=λc v ht qQ=>bh qQ λo e d=>⟨o,keep c o (λq=>by show eX (hw c q) λi1 _=>bh i1 λo' e' d'=>?_;rw[e]at e';obtain rfl:=aV e';show d' _ d) ht e,d⟩
 have kN:∀m,h.Ns J.locals m->h'.Ns J.locals m:=λm qQ=>eY qQ λo es ep e q=>Bt o es ep (kW _ r.loc o e) q;show⟨.refl _,x,r.scope,r.kind,r.glob,r.bi,r.loc,r.ns.imp kN,λy hy=>lY (r.cell y hy) λc a i1 d e=>dG i1 λv b=>wD c a ⟨v,kC c v d b⟩ d e,r.pS,λb hb'=>oT (r.ji b hb') λp q o e m=>⟨p,q,o,kW b hb' o e,m⟩,?_⟩;show jh r.ents λval fp q=>((qA val (λ_=>[]) (λy k av e=>?_)));show mz (q y k av e) λa b _ _=>(⟨?_,(b.bare (aei hG e)).1,λ_=>⟨rJ,λz hz=>kI hz⟩,λ_ z hz=>kI hz⟩);show bf a (λi0=>iM i0 λk1 m n e1=>ao ⟨k1,m,kN m n,e1⟩) λi0=>oU i0 λk1 c' e1 e2 e3=>aH ⟨k1,c',e1,e2,kC _ _ e2 e3⟩
theorem PL.aeZ(p:PL H U L J aJ bq bB G S bw Gs s)(hG:QJ G=N)(hT:gi U)(k:Tk X s Y)(hX:∀b∈X,∃o,(b,o)∈bw/\Al o)(hL:∀y∈L',(y.1∈bw.map (·.1)\/s.heap.get? y.1=ai)/\Y.heap.get? y.1=O y.2):PL H U L J aJ bq bB G S L' [] Y:=
 p.aeM hT k.keep k.os k.drawn (k.gens.trans p.mod.gens) (λb D=>bh (hX b D) λo ho _=>⟨o,ho⟩) hL (zo) λ_ r hn x'=>r.aln hG x' (λb o D _ e=>k.keep b o D e) λb D=>bh (hX b D) λo ho hm=>⟨⟨o,(p.lg _ ho).1,hm⟩,(hn b D).2⟩
end
section
variable{dA:ie}{K:LN}
def HNm(K:LN)(m:aP->Option aa)(h:aN)(dA:ie):Prop:=∀y k av,cq dA y=O (k,av)->y∈K/\∃v F,m (NM y)=O v/\bR h av v F
theorem HNm.nil:HNm K m h []:=λ_ _ _ e=>Bq e
theorem Yk(E:x∈K)(hm:m (NM x)=O v)(aO:bR h av v F)(r:HNm K m h dA):HNm K m h ((x,0,av)::dA):=λy k mw e=>by
 dsimp only[cq]at e;show boC (x.beq y) (λq=>?_) λq=>?_
 .replace e:=q▸e;show Yq (aV e) λa1 a2=>?_;subst a1;subst a2;show Lj q▸⟨E,v,F,hm,aO⟩
 .have e:=q▸e;show r y k mw e
theorem Te{b:ab}(p:h.get? a=ai)(q:h.get? b=ai):∀d∈[a,b],d∈X\/h.get? d=ai:=λd hd=>rX (P:=λd=>d∈X\/h.get? d=ai) hd (aH p) (aH q)
theorem Cv(c:ed L scope fs K)(r:ER H U L J h G)(jA:∀y∈fs,cl.lookup (NM y)=J.cells.lookup (NM y))(n:h.Ns aS m)(hC:aS∉bY)(hN:HNm K m h dA):
 ER H U scope (jt scope cl aS J) h (dA++lA G fs) where
 base:=r.base
 kind:=c.kind
 gl:=λ_ hy=>YE hy nofun
 WD:=λ_ hy=>hy.elim (λh=>ao (YE h nofun)) ab5
 glob:=r.glob
 bi:=r.bi
 loc:=hC
 has:=λy k av e=>(Oy e).elim (λe=>FZ (hN y k av e) λh1 v F h2 h3=>kH v F (ao ⟨YE (c.locs y h1) nofun,m,n,h2⟩) h3) λe=>r.ahg c (.refl _) jA (λy h=>ab5 (c.frees y h).1) e
theorem QK{gs:List sE}(c:ed L scope fs K)(jA:qZ scope J=pure cl)(hs:Fs iter J)(h:C A (aZ iter J) s (λx aD=>C A (gm x) aD (λit aQ=>Q0<=aQ.heap.objs.size/\(∀(A':ck) fq (Q:aa->ae->Prop),Tk [] aQ fq->Q it fq->C A' (gm it) fq Q)/\
 ∀a0 bp fq,Tk [] aQ fq->aQ.heap.get? a0=ai->aQ.heap.get? bp=ai->a0≠bp->bp∉bY->fq.heap.get? a0=O (br [] 0)->fq.heap.Ns bp (λ_=>ai)->
  CC (A.mark ai) (gZ (cP elt (⟨cu,iter,ifs,0⟩::gs) scope pos) 0 it (R a0) (jt scope cl bp J)) fq (λr Y=>match r with|cf _=>∃m,Y.heap.Ns bp m/\∀h',gv bp Y.heap h'->Q (R a0) {Y with heap:=h'} |kX _=>False)))):
 C A (aZ (cP elt (⟨cu,iter,ifs,0⟩::gs) scope pos) J) s Q:=by
 show Qi c Z hs jA<|h.mono λx aD U=>C.mono U λit aQ ko a0 bp h3 tk _ lK k0 nD nK Oo gD gK=>have t:Tk [] aQ {aQ with heap:=h3,toks:=tk}:=.heap λb o _=>k0 b o;have loop:=ko.2.2 a0 bp _ t nD nK Oo (fi (ba ko.1 lK)) gD gK;pH Z loop (ko.2.1 _ _ _ t loop)
end
section
variable{dA:ie}{nl:Nat}{l:ab}{p1 p2 p3 p4 np2 np3 Qm alo:aY}
protected theorem Tk.x(t:Tk [] s Y):hx H s.heap Y.heap:=.of_keep λb o e=>t.keep b o (λq=>kI q) e
theorem ER.re(e:ER H U L J h G):ER [] h L J h G:=⟨.refl _,e.kind,e.gl,e.WD,e.glob,e.bi,e.loc,e.has⟩
inductive alp(bp a0 bw l:ab)(ns:LN)(s:ae)(n:Nat)(Y:ae):Prop
 |start (m:aP->Option aa) (t:Tk [] s Y) (nn:Y.heap.Ns bp m) (e:n=1) (li:Y.heap.IsListIter bw l 0) (d:Y.heap.get? a0=O (br [] 0))
 |over (m:aP->Option aa) (tk:aW) (c:Nat) (t:Tk [] s Y) (nn:Y.heap.Ns bp m) (li:Y.heap.IsListIter bw l 1) (d:Y.heap.get? a0=O (br [ah (aj ns.length) tk] c))
theorem aej(c:ed L scope [] [93])(dM:Gi scope "len")(hh:dh A)(B:cA s.heap mg mb)(I:dQ mg mb)(r:ER [] s.heap L J s.heap G)(hy:cq G y=O (k,aX (R l)))(hl:s.heap.get? l=O (br [R d] nl))(hd:s.heap.get? d=O (kz ns))(Y9:d∉bY)(ot:lX ns)(hq:∀a0 Y t c,Tk [] s Y->s.heap.get? a0=ai->Y.heap.get? a0=O (br [ah (aj ns.length) t] c)->Q (R a0) Y):
 C A (aZ (cP (bI (ar (aC "len") np) [ar (NM 93) p1] [] p2) [⟨ar (NM 93) p3,ar (NM y) p4,[],0⟩] scope pos) J) s Q:=by
 show og λgG kG=>bh (c.OG r Z) λcl jA wO=>kG ?_;clear kG gG;show QK c jA (λ_=>rfl) (Lake.T.wcV (v9 r hy) λv F aO=>?_);apply bR.Gg aO;have hnl:s.heap.get? s.heap.objs.size=ai:=bF _;show cR (uQ (bX hl) (gQ ?_ (λA' fq Q t hQ=>cR (TH (l:=l) (i:=0) ⟨_,t.keep _ _ (λq=>kI q) (bK _ Z),rfl,rfl⟩ hQ)) (λa0 bp fq t hD hK Oo hKT oq wL=>?_)))
 .rw [dD];show qk (jy (H:=[]) B.top (.refl _))
 have t1:Tk [] s {s with heap:=s.heap.push {cls:=ak "list_iterator",data:=bH #[R l,ah 0 0]}}:=.heap (tk:=s.toks) λb o _ e=>a8 _ e;have hDL:a0≠s.heap.objs.size:=λq=>by rw[q,bK _ Z]at hD;ext
 have hKL:bp≠s.heap.objs.size:=λq=>by rw[q,bK _ Z]at hK;ext
 have nD:s.heap.get? a0=ai:=(Tk.x (H:=[]) t1).new hD;have nK:s.heap.get? bp=ai:=(Tk.x (H:=[]) t1).new hK;have li0:fq.heap.IsListIter s.heap.objs.size l 0:=kF _ (t.keep _ _ (λq=>kI q) (bK _ Z)) Z Z;generalize s.heap.objs.size=bw at *;show t9 Z Z (alp bp a0 bw l ns s) ?_ 1 (.start _ (t1.trans t (zo)) wL Z li0 oq);rintro n Y Kp P1 P2 P3 P4 Kh H0 H1 H2 H3 _ H4 (⟨m,t2,PQ,n1,li,d2⟩|⟨m,tk,cc,t2,PQ,li,d2⟩)
 .show cR<|J1 li (bX (t2.keep _ _ (λq=>kI q) hl)) (x:=R d) Z λh3 li3 zK=>H1 _ _ (C.eq (a:=()) Z (cR (jD (sy (xF (c.locs 93 (bJ.mpr Z))) (PQ.at' λo e=>zK.extBut _ o hKL e) (λh4 ZR Jh=>H2 _ (uL (H3 _ ?_))) (by rw[show(ju scope J).kind=d0 from c.kind];rfl:((ju scope J).kind== .class ||((ju scope J).kind== .module && bp != J.globals))=af)))));have t4:∀tk,Tk [] s {Y with heap:=h4,toks:=tk}:=λtk=>t2.trans (gh:=[bw,bp]) (.heap λb o D e=>Dm D λh1 h2=>Jh.extBut _ _ h2 (zK.extBut _ _ h1 e)) (Te hnl nK);show Lake.T.wcI (uH (H:=[]) (fr:=N) (e:=ar (NM 93) p1) (B.ext ((t4 0).x (H:=[]))) I dM ((t4 0).keep _ _ (λq=>kI q) hd) Y9 ot (aq (k:=0) _ Z) Z (Cv (dA:=[(93,0,aX (R d))]) c (r.ext (t4 0).x).re wO ZR hKT (Yk (bJ.mpr Z) (if_pos Z) (.iq _) HNm.nil))) λt6 s5 e5=>have t5:=e5.tk (X:=[]);H4 _ _ (cR (Ao (items:=#[]) ⟨0,t5.keep _ _ (λq=>kI q) (Jh.extBut _ _ Oo (zK.extBut _ _ hDL d2))⟩ (λh7 q sb7=>dG q λn7 e7=>?_) (by have:fc=16777216:=jW;simp)));show Kh 0 _ (n1▸yp) (.over _ t6 n7 (((t4 _).trans t5 zo).trans (gh:=[a0]) (.heap (tk:=s5.toks) λb o D e=>sb7.extBut _ _ (λq=>D (bJ.mpr q)) e) λb D=>aH (bJ.mp D▸nD)) (ZR.at' λo e=>sb7.extBut _ _ (eO Oo) (t5.keep _ _ (λq=>kI q) e)) ?_ e7);show(li3.at λo e=>Jh.extBut _ _ (eO hKL) e).at λo e=>sb7.extBut _ _ (eO hDL) (t5.keep _ _ (λq=>kI q) e)
 .show cR<|J4 hh li (bX (t2.keep _ _ (λq=>kI q) hl)) Z λh3 zK=>H0 _ (ct m (PQ.at' λo e=>zK _ o hKL e) (λh4 Jh=>hq a0 _ tk cc ?_ nD (Jh.extBut _ _ Oo (zK _ _ hDL d2))));show t2.trans (gh:=[bw,bp]) (.heap (tk:=Y.toks) λb o D e=>Dm D λh1 h2=>Jh.extBut _ _ h2 (zK _ _ h1 e)) (Te hnl nK)
theorem QL(c:ed L scope [] [93])(dM:Gi scope "len")(hr:Gi L "range")(hm:Gi L "max")(hh:dh A)(B:cA s.heap mg mb)(I:dQ mg mb)(r:ER [] s.heap L J s.heap G)(hy:cq G y=O (k,aX (R l)))(hl:s.heap.get? l=O (br [R d] nl))(hd:s.heap.get? d=O (kz ns))(Y9:d∉bY)(ot:lX ns)(hq:∀rr Y t u v,Tk [] s Y->qf Y.heap rr 0 (ns.length:Int) 1 t u v->Q (R rr) Y):
 C A (aZ (bI (ar (aC "range") np2) [bI (ar (aC "max") np3) [cP (bI (ar (aC "len") np) [ar (NM 93) p1] [] p2) [⟨ar (NM 93) p3,ar (NM y) p4,[],0⟩] scope pos] [] Qm] [] alo) J) s Q:=by
 have hR:=I ("range",ak "range") aK;have hM:=I ("max",bx "max") aK;show fU<|Lake.T.wY (ez B r hr hR.1 hR.2 (rfl))<|dg (rfl) ?_;rw[l0 (rfl)];show ej<|cx<|fU<|Lake.T.wY (ez B r hm hM.1 hM.2 (rfl))<|dg (rfl) ?_;rw[l0 (rfl)];show ej (cx (aej c dM hh B I r hy hl hd Y9 ot λa0 s3 t3 c3 t hD hd3=>c8 (lT ⟨rfl,?_⟩)));have hIL:=bX hd3;show cR (call_max_walkS (uQ hIL ⟨_,_,_,_,_,_,_,_,rfl,(Wj (A:=A.in1) hh s3.heap.objs.size a0 (fB (cn hd3)) #[ah (aj ns.length) t3]).toS,⟨(kF _ (bK _ Z) Z Z),hIL.at λo e=>a8 _ e⟩,λb D=>?_,yp,CmpOf.ints_gt (λ_=>aj ns.length) (λi v e=>?_),λv s4 hv m4=>?_⟩))
 .rw [show({s3 with heap:=s3.heap.push _}:ae).heap.objs.size=s3.heap.objs.size+1 from dD ..];apply rX D
  .show ja _
  .show kU (cn hd3)
 .cases i with
  |zero=>show aV e▸?_;show DU t3 Z
  |succ i=>ext
 .show aV hv▸c8 (iE ⟨rfl,cR (sG (hq _ _ _ _ _ ?_ (bK _ Z)))⟩);show(t.trans ⟨λb o _ e=>m4.heap b o (λq=>absurd (cn e) (by rw[bJ.mp q];show gw _)) (a8 _ e),m4.os,m4.drawn,.of m4.gens⟩ zo).trans (Tk.heap (X:=[]) (s:=s4) (tk:=s4.toks+1+1) λb o _ e=>a8 _ e) zo
end
section
variable{mg mb:aP->Option aa}{s1 s2:ae}
theorem Apart.of{cC P bp a0 Ia cv:ab}{v:Nat}{oK oD:bj}(M:N7 v cC P a aS Ia cv s1 s2)(hK:s1.heap.get? bp=O oK)(cK:Al oK)(hD:s1.heap.get? a0=O oD)(cD:Al oD)(hKD:bp≠a0)(hl:∃o,s1.heap.get? cE=O o)(sK:bp≠cE)(sD:a0≠cE):Apart bp a0 a aS Ia cv:=by
 show dU M λ_ _ _ _ _ M6 M7 aft=>hb aft λM8 M9 _=>?_;have nw:∀b∈[a,aS,Ia],∀x o,s1.heap.get? x=O o->x≠b:=λb D x o e q=>by have e:=(M6 b D)▸q▸e;ext
 show eQ M9 λoc u e1 e2=>(dG hl λos es=>?_);have nc:∀x o,s1.heap.get? x=O o->Al o->x≠cv:=λx o e n q=>by replace e:=e1▸q▸e;obtain rfl:=aV e;show n _ e2
 have na:=nw a (iy ..);have nC:=nw aS (dF _ (iy ..));have nI:=nw Ia (dF _ (dF _ (iy ..)));show⟨hKD,na _ _ hK,nC _ _ hK,nI _ _ hK,nc _ _ hK cK,sK,na _ _ hD,nC _ _ hD,nI _ _ hD,nc _ _ hD cD,sD,M7,eO M8,nC _ _ es,nI _ _ es⟩
end
section
variable(mg mb:aP->Option aa)(L:c9)(J:cg)(G:ie)(l d f c' P':ab)(ns:LN)
def BCy(s:ae):Prop:=
 (∃fd,s.heap.get? f=O (mK fd))/\
 ∀(A':ck) v t (Q:aa->ae->Prop),dh A'->A'.depth<900->(∀a aS Ia cv s1 s2,Tk [] s s1->N7 v c' P' a aS Ia cv s1 s2->Q (R a) s2)->C A' (call (R f) [ah (aj v) t]) s Q
def BCx(s:ae):Prop:=
 cA s.heap mg mb/\
 ER [] s.heap L J s.heap G/\
 (∃nl,s.heap.get? l=O (br [R d] nl))/\
 s.heap.get? d=O (kz ns)/\
 BCy f c' P' s
def JV(bp a0 bw:ab)(sB:ae):Prop:=
 (sB.heap.get? bw=ai/\
 bp≠bw/\
 a0≠bw/\
 bw≠P'/\
 c'∉[bw,bp,a0])/\
 sB.heap.get? bp=ai/\
 sB.heap.get? a0=ai/\
 bp≠a0/\
 bp≠P'/\
 a0≠P'/\
 bp∉bY/\
 bp≠cE/\
 a0≠cE
end
section
variable{mg mb:aP->Option aa}{L:c9}{J:cg}{G:ie}{l d f c' P':ab}{ns:LN}{sB:ae}
theorem Dj{bp:ab}(n:h.Ns bp m):∃o,h.get? bp=O o/\Al o:=
 eY n λo es ep e q=>ct o e (λu hd=>by have hd:=q.1▸hd;ext)
theorem JW{z:Nat}{p:Nat×AV}(hz:z∈fs)(e:cq G z=O p):cq (lA G fs) z=O p:=by
 induction fs with
 |nil=>ext
 |cons y fs ih=>
  unfold lA;by_cases q:y=z
  .subst q;rw[e];simp[cq]
  .have hz:=(bu.mp hz).resolve_left (eO q);cases cq G y with|none=>show ih hz|some x=>simp[cq,Mu,q,ih hz]
theorem qc{c P:ab}(q:h.IsCode c P ps)(k:∀b o,b∉X->h.get? b=O o->h'.get? b=O o)(hc:c∉X)(hP:P∉X):h'.IsCode c P ps:=FH q (λ_=>k _ _ hc) λ_=>k _ _ hP
theorem Tk.none{b:ab}(t:Tk X s Y)(D:b∉X)(e:Y.heap.get? b=ai):s.heap.get? b=ai:=by
 cases q:s.heap.get? b with
 |none=>rfl
 |some o=>have e:=(t.keep _ _ D q)▸e;ext
def Iw(y:Nat)(p:Nat->aY)(it0:aw):List sE:=[⟨ar (NM 92) (p 0),it0,[],0⟩,
 ⟨ar (NM 93) (p 1),ar (NM y) (p 2),[jZ (ar (NM 92) (p 3)) [FL] [bI (ar (aC "len") (p 4)) [ar (NM 93) (p 5)] [] (p 6)] (p 7)],0⟩,
 ⟨ar (NM 19) (p 8),bI (ar (NM 83) (p 9)) [dk (ar (NM 93) (p 10)) (ar (NM 92) (p 11)) (p 12)] [] (p 13),[],0⟩]
inductive alq(l c' P' bp a0 bw:ab)(v i:Nat)(tk:aW)(QX:List aa)(c0:Nat)(s:ae)(n:Nat)(Y:ae):Prop
 |start (m:aP->Option aa) (t:Tk [bw,bp,a0,P'] s Y) (c:∃ps,Y.heap.IsCode c' P' ps) (ns:Y.heap.Ns bp m) (e:n=1) (hm:m (NM 92)=O (ah (aj i) tk)) (li:Y.heap.IsListIter bw l 0) (d:Y.heap.get? a0=O (br QX c0))
 |over (m:aP->Option aa) (ys:List aa) (nd:Nat) (t:Tk [bw,bp,a0,P'] s Y) (c:∃ps,Y.heap.IsCode c' P' ps) (ns:Y.heap.Ns bp m) (li:Y.heap.IsListIter bw l 1) (d:Y.heap.get? a0=O (br (QX++ys) nd)) (ia:fh ys (lu (Ak v) 8))
theorem aa7{bp a0 bw:ab}{kf v:Nat}{p:Nat->aY}{p1:aY}{it0:aw}{m0:aP->Option aa}{QX:List aa}{c0:Nat}{tk:aW}(hh:dh A)(bM:A.depth<900)(I:dQ mg mb)(c:ed L scope [y,83] [92,93,19])(dM:Gi scope "len")(jA:∀z∈[y,83],cl.lookup (NM z)=J.cells.lookup (NM z))(hf:cq G 83=O (kf,aX (R f)))(ot:lX ns)(Y9:d∉bY)(hv:ns[i]? =O v)(cB:∀Y,Tk [P'] sB Y->(∃ps,Y.heap.IsCode c' P' ps)->BCx mg mb L J G l d f c' P' ns Y)(X:JV c' P' bp a0 bw sB)(tB:Tk [P'] sB s)(hc:∃ps,s.heap.IsCode c' P' ps)(hL:s.heap.IsListIter bw l 0)(wL:s.heap.Ns bp m0)(hm:m0 (NM 92)=O (ah (aj i) tk))(oq:s.heap.get? a0=O (br QX c0))(ajn:QX.length<=10000)(hR:∀Y ys n m',Tk [bw,bp,a0,P'] s Y->(∃ps,Y.heap.IsCode c' P' ps)->Y.heap.get? a0=O (br (QX++ys) n)->fh ys (lu (Ak v) 8)->Y.heap.Ns bp m'->aM (cf cJ) Y):
 CC A (gZ (cP (ar (NM 19) p1) (Iw y p it0) scope pos) 1 (R bw) (R a0) (jt scope cl bp J)) s aM:=by
 show eX X λXa Xb=>jd Xa λXa1 Xa2 Xa3 Xa4 Xa5=>dU Xb λXb1 Xb2 Xb3 Xb4 Xb5 Xb6 Xb7 Xb8=>?_;have E:∀z∈[92,93,19],(ju scope J).names.lookup (NM z)=O cZ:=λz hz=>xF (c.locs z hz);have tB':∀{Y},Tk [bw,bp,a0,P'] s Y->Tk [P'] sB Y:=λt=>tB.trans t λb D=>by
  apply tH D
  .show aH Xa1
  .show aH Xb1
  .show aH Xb2
  .show ao (iy ..)
 show HT Z Z (λ_=>rfl) (alq l c' P' bp a0 bw v i tk QX c0 s) ?_ 1 (.start m0 (.refl _ _) hc wL Z hm hL oq);rintro n Y Kp P1 P2 P3 P4 P5 P6 Kh H0 H1 H2 H3 _ H4 H5 H6 (⟨m,t2,c2,PQ,n1,hm2,li,d2⟩|⟨m,ys,nd,t2,c2,PQ,li,d2,ia⟩)
 .show dG ((cB _ (tB' t2) c2).2.2.1) λnl hls=>cR<|J1 li (bX hls) (x:=R d) Z λh3 li3 zK=>H1 _ _ (C.eq Z (cR (jD (sy (E 93 aK) (PQ.at' λo e=>zK.extBut _ o Xa2 e) (λh4 ZR Jh=>H2 _ (Zo ?_)) (by rw[show(ju scope J).kind=d0 from c.kind];rfl:((ju scope J).kind== .class ||((ju scope J).kind== .module && bp != J.globals))=af)))));have t34:∀tk,Tk [bw,bp] Y {Y with heap:=h4,toks:=tk}:=λtk=>.heap λb o D e=>Dm D λh1 h2=>Jh.extBut _ _ h2 (zK.extBut _ _ h1 e);have t4:∀tk,Tk [bw,bp,a0,P'] s {Y with heap:=h4,toks:=tk}:=λtk=>t2.trans (t34 tk) λb D=>by apply rX D<;>show ao au
  have c4:∃ps,h4.IsCode c' P' ps:=c2.imp λps q=>qc q (t34 0).keep (Gd Xa5 λh1 h2 _=>MD h1 h2) (MD Xa4.symm Xb4.symm);have F4:=cB _ (tB' (t4 (Y.toks+1))) c4;have r4:=Cv c F4.2.1 jA ZR Xb6 (Yk (nme Z) ((if_neg (λq=>absurd (CB q) (ue Z))).trans hm2) (.ofInt _ tk) (Yk aK (if_pos Z) (.iq _) HNm.nil));show T.wz (my .lt (aq _ Z) (uH F4.1 I dM F4.2.2.2.1 Y9 ot (aq _ Z) Z) r4) λb s5 qQ=>eX qQ λe5 D=>?_;rw[D,show gS .lt (aj i) (aj ns.length)=N from decide_eq_true (sP.mpr ((dR.mp hv).1))];show H3 _<|have r5:=(r4.ext e5.ext).re;have t5:=(t4 _).trans (e5.tk (X:=[])) zo;have c5:∃ps,s5.heap.IsCode c' P' ps:=dG c4 λps q=>⟨ps,q.keeps λb o e=>(e5.tk (X:=[])).keep b o (λq=>kI q) e⟩;have F5:=cB _ (tB' t5) c5;fU (T.wY (uh r5 (k:=kf) (u:=R f) ?_) ?_)
  .show JW au hf
  show dG F5.2.2.2.2.1 λfd hfd=>pD (mK fd) fd<|ej (cx (T.wcE (B7 (fr:=N) F5.2.2.2.1 Y9 ot (aq 93 Z) (aq 92 Z) hv Z r5) λu s7 F7 e7 V7 _=>c8 ?_));apply bR.zN V7;intro t8;have t67:Tk [] s5 s7:=e7.tk;have t7:=t5.trans t67 zo;have c7:=dG c5 λps q=>DU ps (q.keeps λb o e=>t67.keep b o (λq=>kI q) e);have F7:=cB _ (tB' t7) c7;show⟨⟨t67.keep _ _ (λq=>kI q) hfd,rfl⟩,F7.2.2.2.2.2 A v t8 _ hh bM λa aS Ia cv s8 s9 t8 M=>dU M λM1 M2 M3 M4 M5 M6 _ alr=>hb alr λ_ _ M10=>H4 _ _ ?_⟩;have t48:Tk [] {Y with heap:=h4,toks:=Y.toks+1} s8:=((e5.tk).trans t67 λ_ h=>nomatch h).trans t8 λ_ h=>nomatch h;have g9:=λA' R4=>M10 A' R4;have ns8:s8.heap.Ns bp _:=ZR.at' λo e=>t48.keep _ _ (λq=>kI q) e;have d8:s8.heap.get? a0=O (br QX c0):=t48.keep _ _ (λq=>kI q) ((λb o q1 q2 e=>Jh.extBut _ _ q2 (zK.extBut _ _ q1 e):∀b o,b≠bw->b≠bp->Y.heap.get? b=O o->h4.get? b=O o) _ _ Xa3 Xb3.symm d2);have li8:=(li3.at λo e=>Jh.extBut _ _ Xa2.symm e).at λo e=>t48.keep _ _ (λq=>kI q) e;show bh (Dj ns8) λoK eK nK=>?_;have nw:∀b o,s8.heap.get? b=O o->b∉[aS,Ia]:=λb o e q=>by have e:=(M6 b (dF _ q))▸e;ext
  have loop:=ZQ (gens:=Iw y p it0) (d:=2) (p1:=p1) (pos:=pos) (scope:=scope) (cenv:=jt scope cl bp J)
   (aM:=P6)
   rfl Z hh (fZ bM bA) (Apart.of M eK nK d8 (λu q=>by ext) Xb3 (bh F7.1.lim λ_ i _=>eY i λo _ _ e _=>⟨o,t8.keep _ _ (λq=>kI q) e⟩) Xb7 Xb8) Z c.kind (E 19 (nme Z)) (g9 _ hh) (ns8.at' λo e=>M4 _ o Xb4 e) (M4 _ _ Xb5 d8) ajn λs10 ys n m' t10 d10 ia als=>?_
  .show cR<|Ei (g9 A hh).gen<|H5 _ _ (pH Z loop (cR (Ei (g9 _ hh).gen loop)))
  .have ajo:Tk [bp,a0,P'] s8 s10:=⟨λb o D e=>by
    show Gd D λh1 h2 h3=>t10.keep b o (gY h1 (gY h2 (nw _ _ e))) (M4 b o h3 e),t10.os.trans M1,t10.drawn.trans M2,by
    show bh M3 λgs hg e=>?_;have:=t10.gens;rw[e]at this;show l5.sf hg this⟩
   show dG (dG c7 λ_ q=>dG (Ou q) λo i1=>⟨o,t8.keep _ _ (λq=>kI q) i1⟩:∃o,s8.heap.get? c'=O o) λoc ec=>bh li8 λoL eL _=>H6 _ _ (Kh 0 _ (n1▸yp) (.over m' ys n ((t7.trans t8 zo).trans ajo λb D=>ao (dF _ D)) ?_ als (li8.at λo e=>ajo.keep _ o (ae5 Xa2.symm Xa3.symm Xa4) e) d10 ia));show dG M5 λps9 q9=>((DU ps9 (qc q9 t10.keep (Gd Xa5 λ_ h2 h3=>gY h2 (gY h3 (nw _ _ ec))) (gY Xb4.symm (gY Xb5.symm ?_)))));show dG c7 λ_ q7=>dG (Bw q7) λ_ i8=>nw _ _ (t8.keep _ _ (λq=>kI q) i8)
 .show dG ((cB _ (tB' t2) c2).2.2.1) λnl hls=>cR<|J4 hh li (bX hls) Z λh3 zK=>have t3:Tk [bw] Y {Y with heap:=h3}:=.heap λb o D e=>zK _ o (λq=>D (bJ.mpr q)) e;H0 _ (hR _ ys nd m (t2.trans t3 λb D=>ao (bJ.mp D▸cQ ..)) (c2.imp λps q=>qc q t3.keep (sI (vw Xa5)) (sI Xa4.symm)) (zK _ _ Xa3 d2) ia (PQ.at' λo e=>zK _ o Xa2 e))
end
theorem Tf(l:LN)(wd:Nat):dJ (l++[wd])=dJ l++nZ wd:=by
 delta dJ
 rw[qi];rfl
theorem N8(v:Nat):lu (Ak v) 8=(nZ v).map aj:=by rfl
section
variable{l f c' P':ab}{sB:ae}
theorem JV.on{bp a0 bw L':ab}(X:JV c' P' bp a0 bw sB)(t:Tk [P'] sB s)(hc:∃o,s.heap.get? c'=O o)(hP:∃o,s.heap.get? P'=O o)(hK:∃o,s.heap.get? bp=O o)(hD:∃o,s.heap.get? a0=O o)(hL:s.heap.get? L'=ai):JV c' P' bp a0 L' sB:=
 have ne:∀x,(∃o,s.heap.get? x=O o)->x≠L':=λx e q=>by have e:=hL▸q▸e;show e.elim λ_ e=>Bq e
 ⟨⟨t.none (λq=>ne P' hP (bJ.mp q).symm) hL,ne _ hK,ne _ hD,(ne _ hP).symm,λq=>(bu.mp q).elim (ne _ hc) λq=>X.1.2.2.2.2 (bZ _ q)⟩,X.2⟩
inductive alu(c' P' bp a0 RI:ab)(ns:LN)(s:ae)(k:Nat)(Y:ae):Prop
 |mk (i:Nat) (ys:List aa) (n:Nat) (m:aP->Option aa) (e:k=ns.length - i) (hi:i<=ns.length) (t:Tk [RI,bp,a0,P'] s Y) (c:∃ps,Y.heap.IsCode c' P' ps) (nn:Y.heap.Ns bp m) (r:me Y.heap RI i ((ns.length:Int) - i) 1)
  (d:Y.heap.get? a0=O (br ys n)) (ia:fh ys ((dJ (ns.take i)).map aj))
theorem Th{bp a0 RI:ab}{ky kf:Nat}{p:Nat->aY}{p1:aY}{it0:aw}{m0:aP->Option aa}(hh:dh A)(bM:A.depth<900)(I:dQ mg mb)(c:ed L scope [y,83] [92,93,19])(dM:Gi scope "len")(jA:∀z∈[y,83],cl.lookup (NM z)=J.cells.lookup (NM z))(hy:cq G y=O (ky,aX (R l)))(hf:cq G 83=O (kf,aX (R f)))(ot:lX ns)(Y9:d∉bY)(cB:∀Y,Tk [P'] sB Y->(∃ps,Y.heap.IsCode c' P' ps)->BCx mg mb L J G l d f c' P' ns Y)(X:JV c' P' bp a0 RI sB)(tB:Tk [P'] sB s)(hc:∃ps,s.heap.IsCode c' P' ps)(hr:me s.heap RI 0 ns.length 1)(wL:s.heap.Ns bp m0)(oq:s.heap.get? a0=O (br [] 0))(hR:∀Y ys n m',Tk [RI,bp,a0,P'] s Y->(∃ps,Y.heap.IsCode c' P' ps)->Y.heap.get? a0=O (br ys n)->fh ys ((dJ ns).map aj)->Y.heap.Ns bp m'->aM (cf cJ) Y):
 CC A (gZ (cP (ar (NM 19) p1) (Iw y p it0) scope pos) 0 (R RI) (R a0) (jt scope cl bp J)) s aM:=by
 show eX X λXa Xb=>jd Xa λXa1 Xa2 Xa3 Xa4 Xa5=>dU Xb λXb1 Xb2 Xb3 Xb4 _ Xb6 _ _=>?_;have tB':∀{Y},Tk [RI,bp,a0,P'] s Y->Tk [P'] sB Y:=λt=>tB.trans t λb D=>by
  apply tH D
  .show aH Xa1
  .show aH Xb1
  .show aH Xb2
  .show ao (cQ ..)
 show HT (target':=ar (NM 93) (p 1)) (iter':=ar (NM y) (p 2)) (ifs':=[jZ (ar (NM 92) (p 3)) [FL] [bI (ar (aC "len") (p 4)) [ar (NM 93) (p 5)] [] (p 6)] (p 7)]) Z Z (λ_=>rfl) (alu c' P' bp a0 RI ns s) ?_ ns.length ⟨0,[],0,_,rfl,fg _,.refl _ _,hc,wL,hr,oq,qv⟩;rintro k Y Kp P1 P2 P3 P4 P5 P6 Kh H0 H1 H2 H3 _ H4 H5 H6 ⟨i,ys,n,m,dX,hi,t2,c2,PQ,r2,d2,ia⟩;rcases AX hi with jz|rfl
 .show cR<|Tx r2 au λh3 r3 zK=>H1 _ _ (C.eq (a:=()) Z (cR (jD (sy (xF (c.locs 92 (nme Z))) (PQ.at' λo e=>zK.extBut _ o Xa2 e) (λh4 ZR Jh=>H2 _ (uL (H3 _ ?_))) (by rw[show(ju scope J).kind=d0 from c.kind];rfl:((ju scope J).kind== .class ||((ju scope J).kind== .module && bp != J.globals))=af)))));have t34:∀tk,Tk [RI,bp] Y {Y with heap:=h4,toks:=tk}:=λtk=>.heap λb o D e=>Dm D λh1 h2=>Jh.extBut _ _ h2 (zK.extBut _ _ h1 e);have t4:∀tk,Tk [RI,bp,a0,P'] s {Y with heap:=h4,toks:=tk}:=λtk=>t2.trans (t34 tk) λb D=>by apply rX D<;>show ao bC
  have c4:∃ps,h4.IsCode c' P' ps:=c2.imp λps q=>qc q (X:=[RI,bp]) (t34 0).keep (Gd Xa5 λh1 h2 _=>MD h1 h2) (MD Xa4.symm Xb4.symm);have F4:=cB _ (tB' (t4 (Y.toks+1+1))) c4;show Lake.T.wY (uh (Cv (dA:=[]) c F4.2.1 jA ZR Xb6 HNm.nil) (x:=y) (k:=ky) (u:=R l) (JW bC hy))<|H4 _ _<|og λgG kG=>?_;obtain⟨nl,hls⟩:=F4.2.2.1;obtain⟨v,hv⟩:∃v,ns[i]? =O v:=⟨_,dE jz⟩;show kG ?_;clear kG gG;have d4:h4.get? a0=O (br ys n):=Jh.extBut _ _ Xb3.symm (zK.extBut _ _ Xa3 d2);have hly:ys.length=8 * i:=by have:=ia.length;rw[il,pV,AP,AZ hi]at this;show this
  show cR (uQ (bX hls) ?_);have nL:h4.get? h4.objs.size=ai:=bF _;have tp:∀b o,h4.get? b=O o->(h4.push {cls:=ak "list_iterator",data:=bH #[R l,ah 0 0]}).get? b=O o:=λb o e=>a8 _ e;have eL:(h4.push {cls:=ak "list_iterator",data:=bH #[R l,ah 0 0]}).get? h4.objs.size=O {cls:=ak "list_iterator",data:=bH #[R l,ah 0 0]}:=bK _ Z;have nwL:∀b o,h4.get? b=O o->b≠h4.objs.size:=λb o e q=>by have e:=nL▸q▸e;show Bq e
  dsimp only at nL eL nwL ⊢;generalize h4.push {cls:=ak "list_iterator",data:=bH #[R l,ah 0 0]}=h5 at tp eL ⊢;generalize h4.objs.size=bw at nL eL nwL ⊢;have t5:∀X tk,Tk X {Y with heap:=h4,toks:=Y.toks+1+1} {Y with heap:=h5,toks:=tk}:=λX tk=>.heap λb o _ e=>tp b o e;obtain⟨ps4,q4⟩:=c4;have Xo:JV c' P' bp a0 bw sB:=X.on (tB' (t4 (Y.toks+1+1))) (Ou q4) (Bw q4) (bh (Dj ZR) λo e _=>⟨o,e⟩) ⟨_,d4⟩ nL;have loop:=aa7 (mg:=mg) (mb:=mb) (A:=A) (s:={Y with heap:=h5,toks:=Y.toks+1+1}) (p:=p) (p1:=p1) (pos:=pos) (it0:=it0) (m0:=λz=>if z=NM 92 then O (ah (i:Int) Y.toks) else m z) (tk:=Y.toks)
   (aM:=P6)
   hh bM I c dM jA hf ot Y9 hv cB Xo ((tB' (t4 _)).trans (t5 [] _) zo) ⟨ps4,q4.keeps tp⟩ (kF _ eL Z Z) (ZR.at' λo e=>tp _ o e) (if_pos Z) (tp _ _ d4) (by rw[hly];have:=ot.2;lia) λs7 zs n7 m7 t7 c7 d7 ia7 ns7=>?_
  .show H5 _ _ (pH Z loop (cR (TH (l:=l) (i:=0) (kF _ eL Z Z) loop)))
  .show H6 _ _ (Kh (ns.length - (i+1)) _ (dX▸ru jz (ja i)) ⟨i+1,ys++zs,n7,_,rfl,jz,(t4 (Y.toks+1+1)).trans ((t5 [bp,a0,P'] (Y.toks+1+1)).trans t7 λb D=>(bu.mp D).elim (λq=>aH (q▸nL)) ao) λb D=>ao (bZ _ D),c7,ns7,?_,d7,?_⟩)
   .have e2:(ns.length:Int) - ((i+1:Nat):Int)=(ns.length:Int) - i - 1:=by lia
    rw[e2,(by lia:((i+1:Nat):Int)=(i:Int)+1)];have r4:=Jh.extBut _ _ Xa2.symm r3;show t7.keep _ _ (ag7 (nwL _ _ r4) Xa2.symm Xa3.symm Xa4) (tp _ _ r4)
   .rw [EO,hv,show(O v).toList=[v] from rfl,Tf,j0,<-N8];show ia.append ia7
 .show cR (TA hh r2 au λh3 zK=>?_);have t3:Tk [RI] Y {Y with heap:=h3}:=.heap (tk:=Y.toks) λb o D e=>zK _ o (λq=>D (bJ.mpr q)) e;have ia:=sR▸ia;show H0 _ (hR _ ys n m (t2.trans t3 λb D=>ao (bJ.mp D▸cQ ..)) (c2.imp λps q=>qc q (X:=[RI]) t3.keep (sI (vw Xa5)) (sI Xa4.symm)) (zK _ _ Xa3 d2) ia (PQ.at' λo e=>zK _ o Xa2 e))
end
section
variable{vZ:c9}{l f c' P':ab}
def Yl(y:Nat)(q:Nat->aY)(vZ:c9):aw:=bI (ar (aC "range") (q 0)) [bI (ar (aC "max") (q 1)) [cP (bI (ar (aC "len") (q 2)) [ar (NM 93) (q 3)] [] (q 4)) [⟨ar (NM 93) (q 5),ar (NM y) (q 6),[],0⟩] vZ (q 7)] [] (q 8)] [] (q 9)
theorem aek{ky kf:Nat}{p q:Nat->aY}{p1:aY}(hh:dh A)(bM:A.depth<900)(I:dQ mg mb)(c:ed L scope [y,83] [92,93,19])(c2:ed L vZ [] [93])(dM:Gi scope "len")(aa8:Gi vZ "len")(hr:Gi L "range")(hm:Gi L "max")(hy:cq G y=O (ky,aX (R l)))(hf:cq G 83=O (kf,aX (R f)))(ot:lX ns)(Y9:d∉bY)(hc:∃ps,s.heap.IsCode c' P' ps)(cB:∀Y,Tk [P'] s Y->(∃ps,Y.heap.IsCode c' P' ps)->BCx mg mb L J G l d f c' P' ns Y)(hq:∀a0 Y ys n,Tk [P'] s Y->(∃ps,Y.heap.IsCode c' P' ps)->s.heap.get? a0=ai->Y.heap.get? a0=O (br ys n)->fh ys ((dJ ns).map aj)->Q (R a0) Y):
 C A (aZ (cP (ar (NM 19) p1) (Iw y p (Yl y q vZ)) scope pos) J) s Q:=by
 have F:=cB s (.refl _ _) hc;show dG F.2.2.1 λnl hl=>bh (c.OG F.2.1 (by simp[pT,hy,hf])) λcl jA wO=>have up:∀{a b:ae},Tk [] a b->Tk [P'] a b:=λt=>(Tk.refl [P'] _).trans t zo;QK c jA (λ_=>rfl)<|QL c2 aa8 hr hm hh F.1 I F.2.1 hy hl F.2.2.2.1 Y9 ot λrr s1 t u v t1 ϫ=>cR<|Aq ϫ (uX fF (kbt_pos 62) fF (by have:=ot.2;lia))<|(by rw[uU];split<;>lia:kY 0 (ns.length:Int) 1=(ns.length:Int)).symm▸?_;have tp:Tk [] s1 {s1 with heap:=s1.heap.push {cls:=ak "range_iterator",data:=bH #[dN 0,dN (ns.length:Int),dN 1]}}:=.heap λb o _ e=>a8 _ e;have nR:s1.heap.get? s1.heap.objs.size=ai:=bF _;have eR:(s1.heap.push {cls:=ak "range_iterator",data:=bH #[dN 0,dN (ns.length:Int),dN 1]}).get? s1.heap.objs.size=O {cls:=ak "range_iterator",data:=bH #[dN 0,dN (ns.length:Int),dN 1]}:=bK _ Z;have top:Q0<=(s1.heap.push {cls:=ak "range_iterator",data:=bH #[dN 0,dN (ns.length:Int),dN 1]}).objs.size:=jy (H:=[]) F.1.top ((t1.trans tp zo).x);generalize s1.heap.push {cls:=ak "range_iterator",data:=bH #[dN 0,dN (ns.length:Int),dN 1]}=h2 at tp eR top ⊢;generalize s1.heap.objs.size=RI at nR eR ⊢;have t2:=t1.trans tp zo;show gQ top (λA' fq Q t hQ=>cR (TB (t.keep _ _ (λq=>kI q) eR) hQ)) (λa0 bp fq t hD hK Oo hKT oq wL=>?_);have t4:=t2.trans t zo;have nw2:∀b,h2.get? b=ai->∀x o,s.heap.get? x=O o->b≠x:=λb e x o e2 q=>by have e:=(t2.keep _ _ (λq=>kI q) e2)▸q▸e;ext
 have nwR:∀x o,s.heap.get? x=O o->RI≠x:=λx o e2 q=>by have nR:=(t1.keep _ _ (λq=>kI q) e2)▸q▸nR;ext
 show og λgG kG=>(tD (hc.imp λ_ q=>(mu q).2) λps oc oP i1 i8 _=>?_);obtain⟨mc,⟨os,_,_,es,_⟩,_⟩:=F.1.lim;show kG ?_;clear kG gG;show Th hh bM I c dM wO hy hf ot Y9 cB ⟨⟨t1.none (λq=>kI q) nR,λq=>(by have hK:=eR▸q▸hK;ext),λq=>(by have hD:=eR▸q▸hD;ext),nwR _ _ i8,λq=>?_⟩,t2.none (λq=>kI q) hK,t2.none (λq=>kI q) hD,Oo.symm,nw2 _ hK _ _ i8,nw2 _ hD _ _ i8,hKT,nw2 _ hK _ _ es,nw2 _ hD _ _ es⟩
  (up t4) ((λt=>hc.imp λps q=>q.keeps λb o e=>t.keep b o (λq=>kI q) e) t4) (t.keep _ _ (λq=>kI q) eR) wL oq λY ys n m' t5 c5 d5 ia ns5=>ct m' ns5 (λh' sb=>?_)
 .simp only[bu,mW,or_false]at q;rcases q with q|q|q
  .show nwR _ _ i1 q.symm
  .show nw2 _ hK _ _ i1 q.symm
  .show nw2 _ hD _ _ i1 q.symm
 .have t6:=(up t4).trans t5 λb D=>by
   apply tH D
   .show aH (t1.none (λq=>kI q) nR)
   .show aH (t2.none (λq=>kI q) hK)
   .show aH (t2.none (λq=>kI q) hD)
   .show ao (iy ..)
  show hq a0 {Y with heap:=h'} ys n (t6.trans (.heap λb o D e=>sb.extBut _ _ (λq=>D (bJ.mpr q)) e) λb D=>aH (bJ.mp D▸t2.none (λq=>kI q) hK)) (c5.imp λps q=>qc q (λb o D e=>sb.extBut _ _ (λq=>D (bJ.mpr q)) e) (λq=>nw2 _ hK _ _ i1 (bJ.mp q).symm) λq=>nw2 _ hK _ _ i8 (bJ.mp q).symm) (t2.none (λq=>kI q) hD) (sb.extBut _ _ Oo d5) ia
end
section
open Builtin
variable{t u:aW}
theorem N9:seqRepeat? (ak "bytes")=pure (O (bx "bytes.__mul__")):=by rfl
theorem Ed:gJ table "bytes.__mul__" =O Builtin.«bytes.__mul__»:=ma (rfl)
theorem Ti(D:b.size=1)(h:Q (qX #[] s.toks) {s with toks:=s.toks+1}):ax (aG prog w) A (Az vo (qX b t) (ah 0 u)) Q a6 s:=by
 show wpAny_binaryOp_repeat (rfl) (λY=>typeIs_bytes Y b t) (λY=>xR Y 0 u) W.BMul.noFill F.fills_int_mul FC N9 FA.lookup
  (call_gives FC (xR s 0 u) VN (VI _ _) (m:=Made.val Value.notImplemented) ?_ ⟨rfl,jU W.BMul.slot_mul (typeIs_bytes s b t) Ed ?_ (W.BMul.args_mul _ _)⟩)
 .show Wv λM A a6 s Q h=>by obtain⟨hp,g,d,tk,os⟩:=s;wp_walk;show ct _ Z h
 .show ag<|ag<|aB<|aB<|(?_:ax _ _ (if(b.size * (0:Int).toNat==b.size)=N then _ else _) _ _ _);rw[if_neg (by rw[D];decide)];rw[(by delta Bytes.repeated;split<;>rfl:Bytes.repeated b (0:Int).toNat=#[])];show ag (wpAny_mkBytes (aB (ct _ Z h)))
end
theorem Ym{i:aw}{f:MK->Option aa}{k:Int}(hm:U.MapOf (dZ) d f)(hd:d∉bY)(hv:f (.int k)=O v)(he:V H U A L J G e (aX (R d)) af)(hi:V H U A L J G i (a9 k) af)(r8:j8 i=af):
 V H U A L J G (dk e i pos) (aX v) fr:=λs r=>by
 show rF<|(he r).κ λaD e1=>(hi (r.ext e1.ext)).CE λt aQ e2=>have hm2:aQ.heap.MapOf (dZ) d f:=eY hm λo es ep h1 h2=>Bt o es ep ((r.base.trans (e1.trans e2).ext).keep d o hd h1) h2;vi hm2.typeIs slot_dict_getitem.lookup (wpAny_getItem_of (beq_self_eq_true k) hm2 hv (oX [] ((e1.trans e2).trans (.toks _ _)) (.iq _) d9)) (uA r8 _ _)
section
variable{Q:b8->ae->Prop}{b:ab}
theorem PL.called(p:PL H U L J aJ bq bB G S bw Gs s)(q:PL τ' U sc' fV s [] (S.map (·.1)) G' S' L' Yp Y)(hi:∀y∈S,gc y.2=N):PL τ' U L J aJ bq bB G S' (L'++bw) Gs Y:=by
 have c:=p.ps.called q.ps hi;show lY p.fr λW r hW dj dL=>?_;have m:sv (S.map (·.1)) s Y:=by have:=q.mod;show this
 have r':=r.ahZ q.ps.ext (λb o D ht e=>m.mod.keep b o D ht e) (λb D=>by show bh (bG.mp D) λy hy e=>?_;subst e;show iL (p.sg y hy) λc1 c2 c3 c4=>(⟨rT c1 (hi y hy),c2,dj y hy⟩))
 have hWs:∀b∈W,s.heap.get? b≠ai:=λb hb' q=>oT (r.ji b hb') λ_ _ o e _=>by have e:=q.symm.trans e;ext
 show⟨(wD W r' hW (λy hy hw=>bf (q.lC y hy) (λh=>bh (bG.mp h) λz hz e=>(dj z hz (e▸hw))) λh=>hWs _ hw h) (λy hy hw=>bf (b9.mp hy) (λh=>hWs _ hw (q.lg y h).2.2.1) λh=>dL y h hw)),q.sg,λy hy=>?_,c.mod,c.lC,λy hy=>⟨m.gens.1 _ _ (p.gk y hy).1,(p.gk y hy).2⟩⟩;rcases b9.mp hy with h|h
 .show jd (q.lg y h) λa1 a2 a3 a4 a5=>⟨a1,a2,p.mod.mod.new a3,a4,a5⟩
 .show jd (p.lg y h) λa1 a2 a3 a4 a5=>(⟨m.mod.keep _ _ a5 a2 a1,a2,a3,a4,λhz=>?_⟩);show bh (bG.mp hz) λz hz e=>?_;rcases q.lC z hz with k|k
  .show a5 (e▸k)
  .have k:=a1▸e▸k;ext
def uc(d:ab)(ns ms:LN)(ok:aa->ae->Prop):Prop:=
 ∀(A':ck) u s,dh A'->ok u s->s.heap.get? d=O (kz ns)->C A' (call (bx "bytearray.extend") [R d,u]) s (λv Y=>v=aA/\Tn [d] s Y/\Y.heap.get? d=O (kz ms))
theorem uc.list(hms:∀x∈ms,x<256)(dM:ns.length+ms.length<=1000):uc d ns (ns++ms) (λu s=>∃F,bR s.heap (a7 ms) u F):=λA' u s hh qQ ho=>dG qQ λF aO=>by show iP aO λla vs n F' dX _ IL V' _=>dX▸w6 hh ho IL (intsAre_of V' (dS ms)) hms (by rw[hZ];show dM) λs3 tn ho3=>gQ Z tn ?_;rw[XC]at ho3;show ho3
theorem uc.nil{tb:aW}(dM:ns.length<=1000):uc d ns ns (λu s=>u=qX #[] tb):=λA' u s hh e ho=>by subst e;show IX ho (by rw[hZ];show dM) λs3 tn ho3=>gQ Z tn ho3
theorem ZS{k1 k2:Nat}{ok:aa->ae->Prop}(hh:dh A)(X:(iC P t f).In U)(p:PS H U (bg (vC 3)) J aJ bq bB G S s)(h1:cq G 110=O (k1,aX (R b)))(h2:cq G 111=O (k2,av))(yX:∀y∈jj b dx d ns,y∈S)(hn:lX ns)(ot:∀u s F,bR s.heap av u F->ok u s)(E:uc d ns ms ok)(hS:∀y∈S',(y.1=d/\y.2=kz ms)\/(y.1≠d/\y∈S))(kk:∀Y,PS H U (bg (vC 3)) J aJ bq bB G S' Y->Q cJ Y):C A (aU (bo (vC 3)) J) s Q:=by have D:=p.Hp yX hn;show z9 (by show bh p.fr λW r _=>?_;delta iG;show r.scope.symm▸?_;rfl) Z (rR Z Z Z (W9 ((V.data (fr:=N) (jn X p.ext) D.obj D.Xm D.t1 D.t2 h1) p.er) λaD e1 pl=>?_));have p1:=p.grow e1;have hd:(d,kz ns)∈S:=yX _ (List.mem_of_getLast? rfl);have QU:=p1.get hd;show cR<|TY (fm QU) zD pB xm (λa ea=>by obtain rfl:=j6 ea;show ct _ QU Z)<|dg Z (ej (cx (Lake.T.wcV (v9 (p.er.ext e1.ext) h2) λu F2 V2=>c8 (lT ⟨rfl,?_⟩))));show(E A u aD hh (ot u aD F2 V2) QU).mono λv s3 qQ=>hb qQ λe3 tn ho3=>⟨e3,eZ (kk s3 (p1.turn hd Z tn ho3 Z hS))⟩
theorem JX{o:aw}{apos cpos:aY}(hh:dh A)(bM:A.depth<990)(B:cA U mg mb)(gz:pQ U P t f)(p:PL H U L J aJ bq bB G S bw Gs s)(hi:∀y∈S,gc y.2=N)(he:V H s.heap A L J G o (aX (R b)) af)(dH:cG e=af)(yX:∀y∈jj b dx d ns,y∈S)(hn:lX ns)(xn:uT o (aC "extend") J (aZ o J)=aZ o J)(lz:(apos.endLine==cpos.line)=N)(wA:iG J=af)(hS:∀y∈S',(y.1=d/\y.2=kz ms)\/(y.1≠d/\y∈S))(hE:∀aD,dz H s aD->PL H U L J aJ bq bB G S bw Gs aD->C A (aZ e J) aD (λu aQ=>∃L' Yp av F ok,PL H U L J aJ bq bB G S L' Yp aQ/\bR aQ.heap av u F/\(∀u s F,bR s.heap av u F->ok u s)/\uc d ns ms ok/\
 ∀Y,PL H U L J aJ bq bB G S' L' Yp Y->C A (aU rest J) Y Q)):
 C A (aU (vh (bI (iI o (aC "extend") apos) [e] [] cpos) pos::rest) J) s Q:=by
 show z9 wA Z<|HB gz.pF p.ps he yX hn afC acH Z gz.Ϧ xn (by rw[l0 dH];rfl) lz λaD e1=>bh p.open λW q back=>?_;rw[l0 dH];show ej (cx ((hE aD e1 (back _ _ _ _ (q.grow e1))).mono λu aQ qQ=>wC qQ λL' Yp av F ok p2 aO ot E k=>c8 ⟨⟨_,p2.ps.ext⟩,?_⟩));show zC (us:=[R b,u]) (avs:=[aX (R b),av]) (F:=F) [110,111] B p2.ps.ext (fZ bM bA) gz.Ϧ Z Z Z ?_ (eg [] F (.iq _) (DW _ [] F [] rfl aO .nil (ml (yg F)))) aK Z aK p2.ps.sg λs3 L3 p3=>ZS (hh) gz.pF p3 Z Z yX hn ot E hS λs4 p4=>⟨rfl,k s4 (p2.called p4.pl hi)⟩;have D:du (f 1) ⟨[R b,u],[]⟩=pure (([110,111].map NM).zip [R b,u]):=by
  delta du
  show gz.Ϧ.params.symm▸gz.afE.symm▸?_;rfl
 show D.symm▸aB ⟨rfl,rfl⟩
end
def lW:bT:=cS 21
def ZT(U:aN)(mg:aP->Option aa)(P:bS)(t:Nat->aW)(f:Nat->bQ)(P2:bS)(t2:Nat->aW)(fd:bQ)(lg ex gen:LN)(gp:ab)(Iy:bQ):Prop:=
 (iC P t f).In U/\
 acZ U f/\
 Eb U P2 t2 fd/\
 C_ U lg ex gen gp/\
 mg (aC "GALIOS_LOG")=O (.ref 1888)/\
 mg (aC "GALIOS_EXP")=O (.ref 1890)/\
 mg (aC "GEN_POLY")=O (.ref 1868)/\
 (∃f5,U.IntMap 1868 f5/\f5 (aj gen.length)=O (.ref gp))/\
 mg (aC "make_blocks")=O (.ref 1931)/\
 qS U 1931 Iy jo/\
 Iy.defaults= .none
def Iz(U:aN)(lv:Nat)(ta ei:ab)(ns:LN):Prop:=
 (∃f1 d2 f2,U.MapOf (dZ) 139 f1/\f1 (.int (-2))=O (.ref d2)/\U.MapOf (dZ) d2 f2/\d2∉bY/\f2 (.int (aj lv))=O (.ref ta))/\
 (∃m,U.get? ta=O (cU [.ref ei] m))/\
 ta∉bY/\
 Ci U ei ns
section
variable{Q:b8->ae->Prop}{P2:bS}{t2:Nat->aW}{Iy:bQ}{b:ab}
theorem ael{py pt:aY}(hh:dh A)(E:Hx L x)(hy:Hx L y)(h1:bW G x=N)(h2:bW G y=N)(hs:Kk [.Tuple [.Name (NM x) px,.Name (NM y) py] k0 pt] e pos.line J=pure af)(hw:El [.Tuple [.Name (NM x) px,.Name (NM y) py] k0 pt] e J=pure ai)(he:C A (aZ e J) s (λv aD=>∃τ' S' L' Yp u1 u2,PL τ' U L J aJ bq bB G S' L' Yp aD/\bR aD.heap (.tuple [.ptr u1,.ptr u2]) v []/\
 ∀Y,PL τ' U L J aJ bq bB (jl (jl G x 0 (.ptr u1)) y 0 (.ptr u2)) S' L' Yp Y->C A (aU rest J) Y Q)):
 C A (aU (.Assign [.Tuple [.Name (NM x) px,.Name (NM y) py] k0 pt] e pos::rest) J) s Q:=by
 show ip<|C.bind<|C.standAt<|hs.symm▸C.bind (C.pure ?_);show C.bind<|he.mono λv aD oj=>jh oj λτ' S' i=>Br i λL' Yp u1 u2 p aO k=>?_;rw[hw];show ?_;show C.bind (m:=assignAll v _)<|og λgG kG=>gH aO λa ws n dX hT ho aO=>kG ?_;clear kG gG;show dX▸og λgG kG=>?_;obtain⟨w1,ws1,F1,F2,qC,V1,aO,_⟩:=aO;show kG ?_;clear kG gG;subst qC;show og λgG kG=>?_;obtain⟨w2,ws2,F3,F4,DX,V2,aO,_⟩:=aO;show kG ?_;clear kG gG;subst DX;obtain⟨Of,_⟩:=aO;subst Of;have e1:=V1.DH;have e2:=V2.DH;subst e1 e2;show T.wz ?_ λ_ Y p'=>C.pure (k Y p');show(?_:ax _ A (jI (.Tuple [.Name (NM x) px,.Name (NM y) py] k0 pt) J (.ref a)) _ _ _);show J7 hh ⟨_,ho,rfl,n,rfl⟩ Z Z λh3 he=>bh p.open λW q back=>ag<|cO<|jD<|((back _ _ _ _ (q.grow (Y:={aD with heap:=h3}) ⟨.of_keep λc o e=>he c o (fB (cn e)) e,rfl,rfl,rfl⟩)).store E h1 (.iq w1)).wp λ_ s4 p4=>ag<|cO<|jD<|(p4.store hy (BG h2) (.iq w2)).wp λ_ s5 p5=>aB p5
theorem ajp{lg ex:LN}{gp ta ei:ab}{bt m:Nat}{k1 k2:Nat}{p1 p2:aY}{Q:aa->ae->Prop}(hh:dh A)(bM:A.depth<790)(B:cA U mg mb)(I:dQ mg mb)(I2:tZ mg mb)(hT:gi U)(gz:ZT U mg P t f P2 t2 fd lg ex gen gp Iy)(o9:1979∉H)(kr:1979∈τ')(nN:∀b∈H,b∈τ')(kM:Gi L "make_blocks")(ht:U.get? ta=O (cU [.ref ei] m))(htT:ta∉bY)(hE:Ci U ei [1,bt,n+1])(hbt:bt=n+1+gen.length)(hn:lX ns)(dM:ns.length=8 * (n+1))(Ag:∀x∈ns,x<2)(hw:lX (wordsOf ns (n+1)))(Ib:n+1<=100)(p:PL H U L J aJ bq bB G S bw Gs s)(hi:∀y∈S,gc y.2=N)(h84:cq G 84=O (k1,.ptr (.ref ta)))(h82:cq G 82=O (k2,.ptr (.ref b)))(yX:∀y∈jj b dx d ns,y∈S)(hq:∀v Y l1 l2 bl Oq k1 k2 rr o,PL τ' U L J aJ bq bB G ((Oq,kz ((gT lg ex gen (wordsOf ns (n+1)++cb gen.length 0) (wordsOf ns (n+1)).length).drop (wordsOf ns (n+1)).length))::(bl,kz (wordsOf ns (n+1)))::(rr,o)::S) ([(l1,br [.ref bl] k1),(l2,br [.ref Oq] k2)]++bw) Gs Y->
 bR Y.heap (.tuple [.ptr (.ref l1),.ptr (.ref l2)]) v []->Q v Y):
 C A (aZ (.Call (.Name (aC "make_blocks") np) [.Name (NM 84) p1,.Name (NM 82) p2] [] pos) J) s Q:=by
 show dU gz λO1 O2 O3 O4 O5 O6 O7 alv=>iL alv λO8 O9 O10 O11=>?_;show bh O8 λf5 m5 v5=>sh [.ptr (.ref ta),.ptr (.ref b)] B p.ps O9 kM (rfl) O10 (fJ.cons (aq _ h84) (fJ.cons (aq _ h82) fJ.nil Z) Z) Z λvs aD F e1 aO=>bh p.open λW q back=>?_;have pq:=back _ _ _ _ (q.grow e1);have V':=aO;obtain⟨v1,vs1,F1,F2,dX,V1,V',qC⟩:=V';subst dX;obtain⟨v2,vs2,F3,F4,DX,V2,V',Of⟩:=V';subst DX;show eX V' λZ6 eQ6=>?_;subst Z6;show zC [84,82] B pq.ps.ext (fZ bM bA) O10 Z Z Z ?_ aO aK Z aK pq.ps.sg λs2 L2 p2=>adn (hh) au B I I2 O1 O2 O3 hT O4 o9 kr nN O5 O6 O7 m5 v5 ht htT hE hbt hn dM Ag hw Ib p2 yX λY v l1 l2 bl Oq k1 k2 rr o p' V'=>hq v Y l1 l2 bl Oq k1 k2 rr o (pq.called p' hi) V';have D:du Iy ⟨[v1,v2],[]⟩=pure (([84,82].map NM).zip [v1,v2]):=by
  delta du
  show O10.params.symm▸O11.symm▸?_;rfl
 show D.symm▸aB ⟨rfl,rfl⟩
end
section
variable{IB:cg}{sa sb:ae}{Q:b8->ae->Prop}{b d2:ab}
theorem Tj(he:V H U A L J G e .none af):oY H U A L J G (.Compare e [.IsNot] [.Constant .none k p] pos) af:=λs r=>by show uP ((he r).tM λv aD F1 e1 V1 _=>aB ?_) Z;have ev:v= .none:=V1.1;subst ev;show wpAny_isNot_self Z (l8 ⟨e1,rfl⟩)
def QM:List aw->Option (List Int)
 | []=>O []
 |e::r=>(SQ e).bind λc=>(adQ c).bind λi=>(QM r).map (i::·)
theorem fJ.QM:∀{ms:List Int},Lake.QM es=O ms->fJ H U A L J G es (ms.map a9):=by
 induction es with
 |nil=>intro ms h;obtain rfl:=aV h;show fJ.nil
 |cons e r iH=>intro ms h;show bh (LL.mp h) λc h1 h=>bh (LL.mp h) λi h2 h=>bh (jb.mp h) λl h3 dX=>dX▸bh (jb.mp h1) λq h4 dX=>?_;subst dX;show Qz (Ow e) h4▸SU h2▸fJ.cons V.int (iH h3) Z
theorem Oa(ms:List Int)(x:Int){a:aw}(B:Tp U)(ha:V H U A L J G a (.int x) af)(hc:Lake.QM es=O ms)(hl:dY ms.length 1000=N)(hm:Em .In (.Tuple es k p)=af):
 oY H U A L J G (.Compare a [.In] [.Tuple es k p] pos) (ms.any (· ==x)):=
 (Xp ha (ui B (fJ.QM hc) (Gl (nW ms)) (by rw[il];show hl)) (nW ms) hm)
def DS(c P:ab)(oc oP:bj):Prop:=Al oP/\(∀vs n,oP.data≠ .seq vs n)/\∀h:aN,h.get? c=O oc->h.get? P=O oP->∃ps,h.IsCode c P ps
theorem DS.of{c P:ab}{oc:bj}(hc:h.get? c=O oc):(∃ps,h.IsCode c P ps)->∃oP,h.get? P=O oP/\DS c P oc oP:=λqQ=>dG qQ λps x=>by show Ga (mu x) λ_ o op i1 i8 i9 mk=>?_;obtain rfl:=aV (hc.symm.trans i1);show⟨op,i8,λu e=>by(have e:=i9▸e;ext),λ_ _ e=>by(have e:=i9▸e;ext),λh' e1 e2=>⟨ps,mk h' e1 e2⟩⟩
theorem alw{fa c' P' dT l:ab}{t8:aW}{oc oP:bj}{kl:Nat}(B:cA U mg mb)(I:dQ mg mb)(hT:gi U)(p:PL H U L J aJ bq bB G S bw Gs s)(hG:QJ G=N)(F:aa5 IB fa c' P' dT t8 fd oc sa sb)(h1:(fa,mK fd)∈bw)(h2:(c',oc)∈bw)(h3:(P',oP)∈bw)(h4:(dT,cU [.int 8 t8] 0)∈bw)(h5:(l,br [.ref d] kl)∈bw)(h6:(d,kz ns)∈S)(hc:DS c' P' oc oP):
 ∀Y,Tk [P'] s Y->(∃ps,Y.heap.IsCode c' P' ps)->BCx mg mb L J G l d fa c' P' ns Y:=λY k qQ=>dG qQ λps ot=>by
 show dU F λF1 F2 F3 F4 F5 F6 F7 agS=>dU agS λF8 F9 F10 F11 F12 _ F14 QI=>eX QI λF15 _=>?_;have p':=p.aeZ (L':=[]) hG hT k (λb D=>⟨oP,bJ.mp D▸h3,hc.1⟩) (zo);have nP:∀a o,(a,o)∈bw->a≠P'->Y.heap.get? a=O o:=λa o h q=>k.keep _ _ (λe=>q (bJ.mp e)) (p.getL h);show jd (p.lg _ h3) λ_ q2 q3 q4 _=>?_;have nh:∀a o,U.get? a=O o->P'≠a:=λa o e q=>by have e:=q4▸q.symm▸e;ext
 have x1:=nP _ _ h1 (λq=>by have:=F1;have this:=F14▸q▸this;cases this);have Bp:=p'.ps.base B;show⟨Bp,p'.erE,⟨_,(nP _ _ h5 (λq=>by have:=p.getL h5;have this:=(p.getL h3)▸q▸this;obtain rfl:=aV this;show hc.2.1 _ _ Z))⟩,p'.ps.get h6,⟨fd,x1⟩,λA' v tk Q hh bM hq=>?_⟩;show gu F15 λc2 oc2 vs tq e1 e2 e3 e4=>?_;cases F11.symm.trans (F11.trans e1)
 rw[F12]at e2;obtain rfl:=aV e2;show og λgG kG=>?_;obtain⟨ob,eb⟩:=B.top;show bh B.lim λmc i1 _=>eY i1 λos _ _ es _=>eY B.g λom _ _ em _=>lZ B.bmod λbm obm hbm _ _ Rr _=>kG ?_;clear kG gG;show aeh hh bM Bp I x1 F2 F3 F4 F5 F6 F7 F8 F9 (nP _ _ h4 (λq=>by have:=F10;have this:=F14▸q▸this;cases this)) F11 (nP _ _ h2 (Ji ot)) e3 e4 (p.lg _ h1).2.1 (p.lg _ h2).2.1 ot q2 (nh _ _ em) (nh _ _ eb).symm (nh _ _ es) (λbm' e=>by replace e:=hbm▸e;obtain rfl:=j6 (aV e);show nh _ _ Rr) λa aS Ia cv s1 s2 g1 g2 g3 g4 M=>hq a aS Ia cv s1 s2 ⟨λb o _ e=>g1 b o e,g3,g4,g2⟩ M
end
noncomputable def aa9:List aY->Nat->aY
 | [],_=>⟨0,0,0,0⟩
 |p::_,0=>p
 |_::l,n+1=>aa9 l n
def QN(i:Nat):aw:=match bc (bo lW) i with | .Expr (.Call _ [e] _ _) _=>e |_=>.Constant .none 0 ⟨0,0,0,0⟩
def aem:aw->c9
 | .ListComp _ _ L _=>L
 |_=>bg lW
def ajq:aw->aw
 | .ListComp _ (c::_) _ _=>ae6 (ae6 c.iter)
 |e=>e
theorem agT:∃p q p1 pos,QN 7= .ListComp (.Name (NM 19) p1) (Iw 85 p (Yl 85 q (aem (ajq (QN 7))))) (aem (QN 7)) pos:=
 ⟨aa9 [_,_,_,_,_,_,_,_,_,_,_,_,_,_],aa9 [_,_,_,_,_,_,_,_,_,_],_,_,rfl⟩
theorem agU:∃p q p1 pos,QN 9= .ListComp (.Name (NM 19) p1) (Iw 86 p (Yl 86 q (aem (ajq (QN 9))))) (aem (QN 9)) pos:=
 ⟨aa9 [_,_,_,_,_,_,_,_,_,_,_,_,_,_],aa9 [_,_,_,_,_,_,_,_,_,_],_,_,rfl⟩
def aba(e:aw)(st:bT):Prop:=∃a1 a2 a3 a4,st= .Expr (.Call (.Attribute (.Name (NM 88) a1) (aC "extend") a2) [e] [] a3) a4/\(a2.endLine==a3.line)=N
theorem agV:aba (QN 7) (bc (bo lW) 7):=ae2 _ _ _ _ Z Z
theorem agW:aba (QN 9) (bc (bo lW) 9):=ae2 _ _ _ _ Z Z
section
variable{IB:cg}{sa sb:ae}{La Lb:Sg}{Q:b8->ae->Prop}{b d2:ab}
theorem rU(ws:LN):∀x∈dJ ws,x<2:=by
 have key:∀(l m:LN),(∀x∈m,x<2)->∀x∈l.foldl (λl wd=>l++nZ wd) m,x<2:=λl=>by
  induction l with
  |nil=>show λm h=>h
  |cons v l ih=>show λm h=>ih _ λx E=>(b9.mp E).elim (h x) λq=>bh (bG.mp q) λp _ e=>e▸mY _ bA
 show key ws [] zo
theorem Dk{a0:ab}{ys:List aa}(hD:a0∉bY)(e:h.get? a0=O (br ys n))(ia:fh ys (ms.map aj)):bR h (a7 ms) (.ref a0) [a0]:=by have aO:=wK (h:=h) ia;rw[qj]at aO;show rY [] hD e aO
theorem Yn{vZ:c9}{ky kf k8 kl:Nat}{fa c' P' dT l:ab}{t8:aW}{oc oP:bj}(hh:dh A)(bM:A.depth<890)(B:cA U mg mb)(I:dQ mg mb)(hT:gi U)(gz:pQ U P t f)(dH:aba e st)(hLC:∃p q p1 pos,e= .ListComp (.Name (NM 19) p1) (Iw y p (Yl y q vZ)) scope pos)(c:ed L scope [y,83] [92,93,19])(c2:ed L vZ [] [93])(dM:Gi scope "len")(aa8:Gi vZ "len")(hr:Gi L "range")(hm:Gi L "max")(h88:cq G 88=O (k8,.ptr (.ref b)))(hy:cq G y=O (ky,.ptr (.ref l)))(hf:cq G 83=O (kf,.ptr (.ref fa)))(p:PL H U L J aJ bq bB G S (La++(P',oP)::Lb) [] s)(hi:∀y∈S,gc y.2=N)(hG:QJ G=N)(wA:iG J=af)(F:aa5 IB fa c' P' dT t8 fd oc sa sb)(qE:∀z∈La++Lb,z.1≠P')(h1:(fa,mK fd)∈La++Lb)(h2:(c',oc)∈La++Lb)(h4:(dT,cU [.int 8 t8] 0)∈La++Lb)(h5:(l,br [.ref d2] kl)∈La++Lb)(h6:(d2,kz ws)∈S)(hc:DS c' P' oc oP)(hw:lX ws)(yX:∀y∈jj b dx d ns,y∈S)(hn:lX ns)(hsz:ns.length+8 * ws.length<=1000)(hS:∀y∈S',(y.1=d/\y.2=kz (ns++dJ ws))\/(y.1≠d/\y∈S))(kk:∀Y oP',DS c' P' oc oP'->PL H U L J aJ bq bB G S' (La++(P',oP')::Lb) [] Y->C A (aU rest J) Y Q):C A (aU (st::rest) J) s Q:=by
 show og λgG kG=>?_;obtain⟨a1,a2,a3,a4,dX,lz⟩:=dH;obtain⟨pp,q,p1,pos,qC⟩:=hLC;show kG ?_;clear kG gG;subst dX;subst qC;have up:∀{z:ab×bj},z∈La++Lb->∀oP,z∈La++(P',oP)::Lb:=λh oP=>bf (b9.mp h) (λh=>dc _ h) λh=>ew _ (.tail _ h);have hP:∀oP,(P',oP)∈La++(P',oP)::Lb:=λoP=>ew _ (.head ..);show JX (ms:=ns++dJ ws) hh (fZ bM bA) B gz p hi (aq _ h88) Z yX hn Z lz wA hS λaD e1 p1=>aek hh (fZ bM bA) I c c2 dM aa8 hr hm hy hf hw (p1.sg _ h6).2.1 (hc.2.2 aD.heap (p1.getL (up h2 _)) (p1.getL (hP _))) (alw B I hT p1 hG F (up h1 _) (up h2 _) (hP _) (up h4 _) (up h5 _) h6 hc) λa0 s2 ys n k hc2 nD eD ia=>bh (DS.of (k.keep _ _ (λq=>qE _ h2 (bJ.mp q)) (p1.getL (up h2 _))) hc2) λoP' eP hc'=>((ag4 (La++(P',oP')::Lb) [] (a7 (dJ ws)) [a0] (λu s=>∃F,bR s.heap (a7 (dJ ws)) u F) (p1.aeZ hG hT k (λb D=>⟨oP,bJ.mp D▸hP _,hc.1⟩) (λz hz=>?_)) (Dk (λq=>?_) eD ia) (λu s F aO=>⟨F,aO⟩) (uc.list (λx E=>fZ (rU ws x E) bA) (by rw[pV];show hsz)) (λY p'=>kk Y oP' hc' p')))
 .have key:z∈La++Lb\/z=(P',oP'):=by show bf (b9.mp hz) (λh=>.inl (dc _ h)) λh=>(bu.mp h).elim .inr λh=>.inl (ew _ h)
  rcases key with h|rfl
  .show ⟨.inl (bG.mpr (ct z (up h _) Z)),k.keep _ _ (λq=>qE z h (bJ.mp q)) (p1.getL (up h _))⟩
  .show ⟨.inl (bG.mpr (ct _ (hP oP) Z)),eP⟩
 .show dG (hT _ q) λo e=>(dG (p1.ps.ext.there _ o e) λo' e'=>?_);have e':=nD▸e';ext
end
section
variable{IB:cg}{sa sb:ae}{La Lb:Sg}{Q:b8->ae->Prop}{b d2:ab}{cs:LN}
theorem Cw{c:aw}{a b:List bT}(p:PL H U L J aJ bq bB G S bw Gs s)(hc:oY H s.heap A L J G c af)(k:∀Y,PL H U L J aJ bq bB G S bw Gs Y->C A (aU b J) Y (acx A J rest Q)):C A (aU (.If c a b pos::rest) J) s Q:=bh p.open λW q back=>(q.ite hc λY q'=>k Y (back _ _ _ _ q'))
theorem Oc(x:Nat)(av:AV){q:aY}(p:PL H U L J aJ bq bB G S bw Gs s)(he:V H s.heap A L J G e av af)(hf:flat av=N)(dH:bW G x=N)(E:Hx L x)(hs:fu e (O (.Name (NM x) q)) pos.line J=pure af)(k:∀Y,PL H U L J aJ bq bB (jl G x 0 av) S bw Gs Y->C A (aU rest J) Y Q):C A (aU (.Assign [.Name (NM x) q] e pos::rest) J) s Q:=bh p.open λW q back=>(q.asg he hf dH E hs λY q'=>k Y (back _ _ _ _ q'))
def gMf(lv:Nat)(b fa ta l1 l2 r:ab):ie:=[(72,0,.int (-2)),(81,0,aT lv),(82,0,.ptr (.ref b)),(83,0,.ptr (.ref fa)),(84,0,.ptr (.ref ta)),(85,0,.ptr (.ref l1)),(86,0,.ptr (.ref l2)),(87,0,.none),(88,0,.ptr (.ref r))]
def abb:List bT:=[bc (bo lW) 8,bc (bo lW) 9,bc (bo lW) 10,bc (bo lW) 11,bc (bo lW) 12,bc (bo lW) 13]
theorem alx{lv k1 k2:Nat}{fa c' P' dT l1 l2 ta b1 d1 e1:ab}{t8:aW}{oc oP:bj}{S0:Sg}(hh:dh A)(bM:A.depth<890)(B:cA U mg mb)(I:dQ mg mb)(hT:gi U)(gz:pQ U P t f)(p:PL H U (bg lW) J aJ bq bB (gMf lv b1 fa ta l1 l2 b) (jj b dx d []++(e1,kz cs)::(d1,kz ws)::S0) ([(l1,br [.ref d1] k1),(l2,br [.ref e1] k2),(fa,mK fd),(c',oc)]++(P',oP)::[(dT,cU [.int 8 t8] 0)]) [] s)(hi:∀y∈S0,gc y.2=N)(Z8:∀y∈(e1,kz cs)::(d1,kz ws)::S0,y.1≠d)(hbd:b≠d)(hxd:dx≠d)(wA:iG J=af)(F:aa5 IB fa c' P' dT t8 fd oc sa sb)(qE:∀z∈[(l1,br [.ref d1] k1),(l2,br [.ref e1] k2),(fa,mK fd),(c',oc)]++[(dT,cU [.int 8 t8] 0)],z.1≠P')(hc:DS c' P' oc oP)(hw:lX ws)(hw2:lX cs)(hsz:8 * ws.length+8 * cs.length<=1000)(kk:∀Y G',PS H U (bg lW) J aJ bq bB G' (jj b dx d (dJ ws++dJ cs)++S0) Y->Q (.ret (.ref b)) Y):C A (aU (bc (bo lW) 7::abb) J) s Q:=by
 have To:∀(ns:LN) (X:Sg),∀y∈jj b dx d ns,y∈jj b dx d ns++X:=λ_ _ y hy=>dc _ hy;have Ζ:∀(ns ms:LN) (X:Sg),(∀y∈X,y.1≠d)->∀y∈jj b dx d ms++X,(y.1=d/\y.2=kz ms)\/(y.1≠d/\y∈jj b dx d ns++X):=λns ms X hX y hy=>by
  show bf (b9.mp hy) (λq=>?_) λq=>.inr ⟨hX y q,ew _ q⟩;apply Dl q
  .show .inr ⟨hbd,AK Z⟩
  .show .inr ⟨hxd,by simp[jj]⟩
  .show .inl ⟨rfl,rfl⟩
 have Gv:∀(ns:LN),∀y∈jj b dx d ns++(e1,kz cs)::(d1,kz ws)::S0,gc y.2=N:=λns y hy=>by
  rcases b9.mp hy with q|q
  .simp only[jj,bu,mW,or_false]at q;rcases q with rfl|rfl|rfl<;>rfl
  .rcases bu.mp q with rfl|q
   .rfl
   .rcases bu.mp q with rfl|q
    .rfl
    .show hi y q
 have l1w:(dJ ws).length=8 * ws.length:=pV ws;have l1c:(dJ cs).length=8 * cs.length:=pV cs;have agX:∀l,∀x∈dJ l,x<256:=λl x E=>fZ (rU l x E) bA;show Yn (y:=85) (ky:=0) (kf:=0) (k8:=0) (kl:=k1) (l:=l1) (ns:=[]) (ws:=ws) hh bM B I hT gz agV agT (ed.of (by decide+kernel)) (ed.of (by decide+kernel)) (by rfl) (by rfl) (by rfl) (by rfl) Z Z Z p (Gv []) Z wA F qE (.tail _ (.tail _ (.head _))) (.tail _ (.tail _ (.tail _ (.head _)))) (.tail _ (.tail _ (.tail _ (.tail _ (.head _))))) (.head _) (.tail _ (.tail _ (.tail _ (.tail _ (.head _))))) hc hw (To _ _) ⟨λ_ h=>(kI h),fg _⟩ (by rw[K9];lia) (Ζ _ (dJ ws) _ Z8) λs1 oP1 hc1 p1=>Cw p1 (Tj (aq 87 Z)) λs2 p2=>eZ<|Yn (y:=86) (ky:=0) (kf:=0) (k8:=0) (kl:=k2) (l:=l2) (ns:=dJ ws) (ws:=cs) hh bM B I hT gz agW agU (ed.of (by decide+kernel)) (ed.of (by decide+kernel)) (by rfl) (by rfl) (by rfl) (by rfl) Z Z Z p2 (Gv _) Z wA F qE (.tail _ (.tail _ (.head _))) (.tail _ (.tail _ (.tail _ (.head _)))) (.tail _ (.tail _ (.tail _ (.tail _ (.head _))))) (.tail _ (.head _)) (.tail _ (.tail _ (.tail _ (.head _)))) hc1 hw2 (To _ _) ⟨agX ws,by lia⟩ au (Ζ _ (dJ ws++dJ cs) _ Z8) λs3 oP3 hc3 p3=>Oc 89 (.int 0) p3 V.int Z Z v7 Z λs4 p4=>Cw p4 (oY.to (Oa [2,3,4,5,6] (-2) (p4.ps.base B).top (aq 72 Z) Z Z Z) Z) λs5 p5=>Cw p5 (oY.to (Oa [14,15,16,17,18,19,20,28,29,30,31,32,33,34] (-2) (p5.ps.base B).top (aq 72 Z) Z Z Z) Z) λs6 p6=>Cw p6 (oY.to (Oa [21,22,23,24,25,26,27] (-2) (p6.ps.base B).top (aq 72 Z) Z Z Z) Z) λs7 p7=>eZ<|eZ<|eZ<|have okc:lX (dJ ws++dJ cs):=⟨λx E=>(b9.mp E).elim (agX ws x) (agX cs x),by rw[iu];lia⟩;JX (ms:=dJ ws++dJ cs) hh (fZ bM bA) B gz p7 (Gv _) (aq (k:=0) 88 Z) Z (To _ _) okc Z Z wA (Ζ _ (dJ ws++dJ cs) _ Z8) λaD x1 p8=>(cR (Eo (PySem.W.Constant_bytes ((v9 (p8.er.ext (dz.toks aD (aD.toks+1)).ext) (x:=89) (k:=0) (av:=.int 0) Z).wpV λu F9 V9=>?_))));apply bR.zN V9;intro tu;show bh p8.open λW q8 Z_=>Ti Z ⟨_,_,.ptr (.bytes #[] _),[],λu s=>u= .bytes #[] (aD.toks+1),(Z_ _ _ _ _ (q8.grow (.toks aD (aD.toks+1+1)))),.iq _,λu s F aO=>aO.DH,uc.nil okc.2,λY p'=>?_⟩
 .show PS.afM (p'.ps.sub (S':=jj b dx d (dJ ws++dJ cs)++S0) λy hy=>bf (b9.mp hy) (λq=>dc _ q) λq=>ew _ (bZ _ (bZ _ q))) (aq (k:=0) (av:=.ptr (.ref b)) 88 Z) Z λY v q aO=>?_;have ev:=aO.DH;subst ev;show kk _ _ q
end
section
variable{IB:cg}{sa sb:ae}{La Lb:Sg}{Q:b8->ae->Prop}{P2:bS}{t2:Nat->aW}{Iy:bQ}{b d2:ab}{cs:LN}
theorem Iz.aly{lv:Nat}{ta ei:ab}(x:hx H U s.heap)(EA:Iz U lv ta ei l):∃f1 d2 f2,s.heap.MapOf (dZ) 139 f1/\f1 (.int (-2))=O (.ref d2)/\s.heap.MapOf (dZ) d2 f2/\d2∉bY/\f2 (.int (aj lv))=O (.ref ta):=by show og λgG kG=>?_;obtain⟨f1,d2,f2,⟨o,es,ep,a1,a2⟩,b,⟨o',es',ep',c1,c2⟩,hd,e⟩:=EA.1;show kG ?_;clear kG gG;show⟨f1,d2,f2,⟨o,es,ep,x.keep _ _ (DT Z) a1,a2⟩,b,⟨o',es',ep',x.keep _ _ hd c1,c2⟩,hd,e⟩
theorem aen{lg ex:LN}{gp ta ei c:ab}{lv:Nat}{v1 v3:aW}(hh:dh A)(bM:A.depth<780)(B:cA U mg mb)(I:dQ mg mb)(I2:tZ mg mb)(hT:gi U)(gz:pQ U P t f)(NB:qT U f)(OM:ZT U mg P t f P2 t2 fd lg ex gen gp Iy)(hE:mg (aC "ECC")=O (.ref 139))(EA:Iz U lv ta ei [1,n+1+gen.length,n+1])(hBf:mg (aC "Buffer")=O (.ref 2002))(hv1:mg (aC "VERSION_M1")=O (.int (-3) v1))(hv3:mg (aC "VERSION_M3")=O (.int (-1) v3))(o8:J.code= .ref c)(OX:c∉bY)(ot:U.IsCode c 1923 #[])(vH:U.TableAt c 1923 #[])(h23:1923∉H)(h79:1979∉H)(hn:lX ns)(dM:ns.length=8 * (n+1))(Ag:∀x∈ns,x<2)(hw:lX (wordsOf ns (n+1)))(Ib:n+1<=100)(xl:cs=(gT lg ex gen (wordsOf ns (n+1)++cb gen.length 0) (wordsOf ns (n+1)).length).drop (wordsOf ns (n+1)).length)(Dx:lX cs)(hsz:8 * (wordsOf ns (n+1)).length+8 * cs.length<=1000)(p:PS H U (bg lW) J aJ bq bB (qF [72,81,82] [.int (-2),aT lv,.ptr (.ref b)]) S s)(hi:∀y∈S,gc y.2=N)(yX:∀y∈jj b dx d ns,y∈S)(kk:∀Y G' b2 dx2 d2,PS (1979::1923::H) U (bg lW) J aJ bq bB G' (jj b2 dx2 d2 (dJ (wordsOf ns (n+1))++dJ cs)++S) Y->Q (.ret (.ref b2)) Y):
 C A (aU (bo lW) J) s Q:=by
 change C _ (aU (bc (bo lW) 0::jT::bc (bo lW) 2::bc (bo lW) 3::bc (bo lW) 4::bc (bo lW) 5::bc (bo lW) 6::bc (bo lW) 7::abb) J) s Q;show p.s1 (S1.m (Aa Z)) λs1 p1=>ip<|Lake.T.wz (aef (τ':=1923::H) B hT (by decide+kernel) Z o8 OX ot vH (nme Z) h23 (cQ ..) (λb D=>bZ _ D) p1) λfl s2 oj=>eX oj λe2 i=>jh i λfa c' i=>jh i λP' dT i=>jh i λt8 fdt i=>eQ i λoc sx F p2=>dU F λF1 _ _ _ _ _ _ alz=>dU alz λ_ _ F10 _ F12 F13 F14 QI=>eX QI λ_ _=>?_;subst e2;show ux (EA.aly p2.ps.ext) λf1 d2 f2 m1 e1 m2 hd2 e2=>Oc 84 (.ptr (.ref ta)) p2 (Ym m2 hd2 e2 (Ym (k:= -2) m1 (DT Z) e1 (Ca (p2.ps.base B) (by decide+kernel) hE (by decide+kernel)) (aq 72 Z) Z) (aq (av:=aT lv) 81 Z) Z) Z Z (.inl (by decide+kernel)) Z λs3 p3=>dG EA.2.1 λm ht=>ael (x:=85) (y:=86) hh (.inr (by decide+kernel)) (.inr (by decide+kernel)) Z Z Z Z (ajp (τ':=1979::1923::H) (k1:=0) (k2:=0) hh au B I I2 hT OM (λq=>(bu.mp q).elim (λq=>absurd q (ue Z)) h79) (cQ ..) (λb D=>bZ _ D) (by rfl) ht EA.2.2.1 EA.2.2.2 Z hn dM Ag hw Ib p3 hi Z Z yX
  λv s4 l1 l2 bl Oq k1 k2 rr o p4 aO=>⟨_,_,_,_,_,_,p4.aiA (S':=(Oq,kz cs)::(bl,kz (wordsOf ns (n+1)))::S) (λy hy=>?_),aO,λs5 p5=>?_⟩)
 .subst xl;show bf (bu.mp hy) (λq=>q▸cQ ..) λq=>bf (bu.mp q) (λq=>q▸bZ _ (cQ ..)) λq=>bZ _ (bZ _ (bZ _ q))
 .show Oc 87 .none p5 V.none Z Z (.inl (by decide+kernel)) Z λs6 p6=>Cw p6 (oY.to (Xp (x:= -2) (ys:=[.int (-3),.int (-1)]) (ms:=[-3, -1]) (aq 72 Z)
   (ui (p6.ps.base B).top (fJ.cons (qL (p6.ps.base B) (rfl) hv1 (rfl)) (fJ.cons (qL (p6.ps.base B) (rfl) hv3 (rfl)) fJ.nil Z) Z) Z Z) Z Z) Z) λs7 p7=>eZ ?_
  have hiS:∀y∈(Oq,kz cs)::(bl,kz (wordsOf ns (n+1)))::S,gc y.2=N:=λy hy=>by
   rcases bu.mp hy with rfl|q
   .rfl
   .rcases bu.mp q with rfl|q
    .rfl
    .show hi y q
  show bh p7.open λW q7 back=>(yU (x:=88) Z (.inl (by decide+kernel)) Z (acY B I gz.pF NB au hBf (by rfl) q7 hiS λs8 b2 dx2 d3 h1 h2 h3 hS q8=>⟨_,_,_,q8,.iq _,rfl,λs9 q9=>?_⟩));have p9:=back _ _ _ _ q9;show alx (lv:=lv) (b1:=b) (ta:=ta) (l1:=l1) (l2:=l2) (k1:=k1) (k2:=k2) (oP:=tabObj #[]) (S0:=S) hh au B I hT gz p9 hi (λy hy=>(hS y hy).2.2) h2 h3 (by show bh p.fr λW r _=>?_;delta iG;rw[r.scope];rfl) F (λz hz q=>?_) ?_ hw Dx hsz λY G' p'=>kk Y G' b2 dx2 d3 p'
  .have hP:=p9.getL (a:=P') (o:=tabObj #[]) bC
   revert q;apply Wx hz<;>(intro q;dsimp only at q)
   .have:=p9.getL (cQ ..);have this:=hP▸q▸this;cases this
   .have:=p9.getL (bZ _ (cQ ..));have this:=hP▸q▸this;cases this
   .have:=F1;have this:=F14▸q▸this;cases this
   .show Ji F13 q
   .have:=F10;have this:=F14▸q▸this;cases this
  .show bh (DS.of F12 ⟨_,F13⟩) λoP e1 e2=>?_;rw[F14]at e1;obtain rfl:=aV e1;show e2
end
section
variable{IB:cg}{sa sb:ae}{La Lb:Sg}{Q:b8->ae->Prop}{P2:bS}{t2:Nat->aW}{Iy:bQ}{b d2:ab}{cs:LN}
theorem Tq{o:aw}{apos:aY}(B:cA U mg mb)(gz:pQ U P t f)(bM:A.depth<1000)(hB:wq U b dx d ns)(he:V H U A L J G o (aX (R b)) af)(xn:uT o (aC "getbits") J (aZ o J)=aZ o J)(lz:(apos.endLine==pos.line)=N):
 V H U A L J G (bI (iI o (aC "getbits") apos) [] [] pos) (aX (R d)) fr:=λs r=>by
 show uq xn (rfl) lz ((he r).tM λv aD F1 e1 V1 _ pl=>?_);apply bR.Gg V1;have x1:=r.base.trans e1.ext;have hB1:=hB.ext x1;show DM (jn gz.pF x1) hB1 acI Ϣ Z<|bh gz.dJ.at_.obj λob ho hd=>LX (evalArgs_nil3 ⟨⟨x1.keep _ _ gz.dJ.at_.off ho,hd⟩,?_⟩);show(RV (τ':=H) (G':=[]) [110] [aX (R b)] (aX (R d)) [] B x1 bM gz.dJ Z Z Z ?_ (eg [] [] (.iq _) .nil) aK Z aK λfV=>SS.m (tP (S1.ret (V.data (x:=110) (jn gz.pF x1) hB1.obj hB1.Xm hB1.t1 hB1.t2 Z)))).wp3 λv Y F e aO=>aO.DH▸⟨e1.trans e,[],.iq _,d9⟩
 delta du
 show gz.dJ.params.symm▸gz.Ϩ.symm▸?_;rfl
theorem PS.ajr{q:aY}(p:PS H U L J aJ bq bB G S s)(hf:wa av=N)(dH:bW G x=N)(E:Hx L x)(hs:fu e (O (ar (NM x) q)) pos.line J=pure N)(he:∀(u:aa->aE Unit) (Q:Unit->ae->Prop),(∀v Y F bp m,Tk [] s Y->bR Y.heap av v F->(∀b∈F,s.heap.get? b=ai)->F.Nodup->Y.heap.Ns bp m->s.heap.get? bp=ai->bp∉F->C A (u v) Y (λ_ mE=>∃m,mE.heap.Ns bp m/\∀h',gv bp mE.heap h'->Q () {mE with heap:=h'}))->C A (Kv e J u) s Q)(hT:gi U)(k:∀Y,PS H U L J aJ bq bB (jl G x 1 av) S Y->C A (aU rest J) Y Q):C A (aU (fE [ar (NM x) q] e pos::rest) J) s Q:=by
 show bh p.fr λW r hW=>ip<|(TF (hs:=hs)).symm▸nO (C.bind (he _ _ λv aD F bp m t aO h1 h2 wL nK hKF=>?_));have x1:Ad H s aD:=⟨t.x,t.os,t.drawn,t.gens⟩;have hKW:bp∉W:=λq=>by show oT (r.ji bp q) λ_ _ o e _=>?_;have e:=nK.symm.trans e;ext
 have hKT:bp∉bY:=λq=>by show dG (hT bp q) λo e=>(dG (p.ext.there _ _ e) λo' e'=>?_);have e':=nK.symm.trans e';ext
 show T.wz (jD ((j9 (r.grow x1.ext) E dH aO (.fresh h1 h2 (Gq hf aO) r x1.ext)).wp λ_ aQ q=>q)) λ_ aQ qQ=>eX qQ λr2 m2=>eY wL λoK es ep eK rK=>have eK2:=m2.mod.keep _ _ hKW hKT eK;ct m ⟨oK,es,ep,eK2,rK⟩ (λh' sb=>C.pure (k _ ?_));have kp:∀b o,b∉[bp]->aQ.heap.get? b=O o->h'.get? b=O o:=λb o D e=>sb.extBut _ _ (λq=>D (bJ.mpr q)) e;have r3:=r2.off kp λb D=>(bJ.mp D).symm▸⟨(ct oK eK2 (aH (ao ⟨es,ep,rK.1⟩))),hKT,(p.ext.new nK),λq=>(b9.mp q).elim hKW hKF⟩;show⟨(kF (W++F) r3 (λb D=>(b9.mp D).elim (hW.1 b) λq=>aH (p.mod.mod.new (h1 b q))) (λy hy q=>?_)),λy hy=>?_,((p.Xy x1).mod.trans m2.p λd hd=>(hW.1 d hd).elim (λq=>ao (dc _ q)) aH).off kp λb D=>(bJ.mp D).symm▸⟨p.mod.mod.new nK,hKT⟩,p.lC⟩
 .rcases b9.mp q with q|q
  .show hW.2 y hy q
  .have:=h1 _ q;have this:=((p.sg y hy).1).symm.trans this;ext
 .show iL (((p.sg.ext x1.ext).mod m2.mod hW.2) y hy) λa1 a2 a3 a4=>((rN (kp _ _ (λq=>?_) a1) a2 a3 a4));have:=(p.sg y hy).1;have this:=nK▸(bJ.mp q)▸this;ext
def ajs(s Y:ae)(X:List ab)(cj:List (LN))(as:List ab):Prop:=
 as.Nodup/\
 (∀a∈as,s.heap.get? a=ai/\a∉X)/\
 ∀(j:Nat) a row,as[j]? =O a->cj[j]? =O row->∃ws n,Y.heap.get? a=O (br ws n)/\fh ws (row.map aj)
inductive ajt(I' T a0 bp:ab)(cj:List (LN))(s:ae)(k:Nat)(Y:ae):Prop
 |mk (i:Nat) (as:List ab) (n:Nat) (m:aP->Option aa) (e:k=cj.length - i) (hi:i<=cj.length) (t:Tk [] s Y) (nn:Y.heap.Ns bp m) (li:Y.heap.IsTupleIter I' T i) (d:Y.heap.get? a0=O (br (as.map R) n)) (DG:as.length=i) (aM:ajs s Y [I',a0,bp] cj as)
theorem QO(as:List ab):∀(cj:List (LN)),as.length=cj.length->(∀a∈as,a∉bY)->(∀(j:Nat) a row,as[j]? =O a->cj[j]? =O row->∃ws n,h.get? a=O (br ws n)/\fh ws (row.map aj))->
 bD h (cj.map a7) (as.map R) as:=by
 induction as with
 |nil=>
  intro yY;cases yY with
  |nil=>show λ_ _ _=>.nil
  |cons=>intros;first|ext|(simp at *)
 |cons a as iH=>
  intro yY;cases yY with
  |nil=>intros;first|ext|(simp at *)
  |cons row cj=>show λhl hT hr=>eQ (hr 0 a row Z Z) λws n e ia=>DW _ _ [a] as Z (Dk (hT a (iy ..)) e ia) (iH cj (Wq hl) (λb D=>hT b (dF _ D)) (λj b r h1 h2=>hr (j+1) b r h1 h2)) Z
theorem ZU{gs:List sE}{K:LN}{u:aa->aE Unit}{Q:Unit->ae->Prop}(c:ed L scope fs K)(jA:qZ scope J=pure cl)(hs:Fs iter J)(h:C A (aZ iter J) s (λx aD=>C A (gm x) aD (λit aQ=>Q0<=aQ.heap.objs.size/\(∀(A':ck) fq (Q:aa->ae->Prop),Tk [] aQ fq->Q it fq->C A' (gm it) fq Q)/\
 ∀a0 bp fq,Tk [] aQ fq->aQ.heap.get? a0=ai->aQ.heap.get? bp=ai->a0≠bp->bp∉bY->fq.heap.get? a0=O (br [] 0)->fq.heap.Ns bp (λ_=>ai)->
  CC (A.mark ai) (gZ (cP elt (⟨cu,iter,ifs,0⟩::gs) scope pos) 0 it (R a0) (jt scope cl bp J)) fq (λr Y=>match r with|cf _=>C A (u (R a0)) Y (λ_ mE=>∃m,mE.heap.Ns bp m/\∀h',gv bp mE.heap h'->Q () {mE with heap:=h'})|kX _=>False)))):
 C A (Kv (cP elt (⟨cu,iter,ifs,0⟩::gs) scope pos) J u) s Q:=by
 show C.bind (C.mono ?_ λ_ Y h=>C.pure h)
 delta En
 show jA.symm▸(show KC (cP elt (⟨cu,iter,ifs,0⟩::gs) scope pos)=⟨cu,iter,ifs,0⟩::gs from rfl).symm▸C.bind (h.mono λx aD U=>nO (C.bind (C.eq (hs x) (lH (C.mono U λit aQ oj=>?_)))));show hb oj λtop self ko=>(nO (lB (ig (C.bind (C.pure (lB (Ap c.cell (by intro y hy;show kI hy) (λh3 r9 wN=>?_) c.kind)))))));dsimp only at r9 wN ⊢;generalize Α:aQ.heap.push {cls:=ak "list",dict:=ai,data:=bU ([]:List aa).toArray}=H2 at r9 wN ⊢;have hC:H2.objs.size=aQ.heap.objs.size+1:=by rw[<-Α,dD]
 generalize H2.objs.size=bp at r9 wN hC ⊢;have Oo:aQ.heap.objs.size≠bp:=by rw[hC];show fB (ja _)
 have hK:aQ.heap.get? bp=ai:=by
  cases q:aQ.heap.get? bp with
  |none=>rfl
  |some o=>show absurd (cn q) (by rw[hC];show j4.mpr (lP _))
 have tk:Tk [] aQ {aQ with heap:=h3,toks:=aQ.toks+([]:List (aP×aa)).length}:=.heap λb o _ e=>wN.extBut b o (λq=>by have e:=hK▸q▸e;ext) (by show Α▸?_;show a8 _ (a8 _ e));have loop:=ko aQ.heap.objs.size bp _ tk (bF _) hK Oo (fi (ba top (hC▸lP _))) (wN.extBut _ _ Oo (by show Α▸?_;show a8 _ (bK _ Z))) r9;show C.holding (C.bind (C.attempt (C.holding (C.run (CC.mono (pH Z loop (self _ _ _ tk loop)) λr Y hr=>?_)))));cases r with
 |error _=>show hr.elim
 |ok f=>
  show C.bind (C.rule (lH (C.mono hr λ_ mE qQ=>bh qQ λm hn hq=>lB (T3 (cenv:=jt scope cl bp J) c.kind _ mE m (λx E hl=>?_) hn λh' m' _ zQ=>C.pure (hq h' zQ)))));show(λx E hl=>xF (c.names x (gq.mp E).1 hl)) x (by
   rcases b9.mp E with q|q
   .show ES.mp (rn q)
   .show ES.mp (AL q)) hl
set_option tactic.hygienic true in
theorem aeo{p1 p2 p3 p4:aY}{Q:Unit->ae->Prop}(c:ed L scope [] [31])(hls:Gi scope "list")(hh:dh A)(B:cA s.heap mg mb)(I:dQ mg mb)(hT:gi s.heap)(r:ER [] s.heap L J s.heap G)(h9:cq G 9=O (k,uo rs))(hl:rs.length=cj.length)(D:∀(j:Nat) a row,rs[j]? =O a->cj[j]? =O row->s.heap.get? a=O (kz row)/\a∉bY/\lX row)(dM:cj.length<=1000){u:aa->aE Unit}(hq:∀v Y F bp m,Tk [] s Y->bR Y.heap (zw cj) v F->(∀b∈F,s.heap.get? b=ai)->F.Nodup->Y.heap.Ns bp m->s.heap.get? bp=ai->bp∉F->C A (u v) Y (λ_ mE=>∃m,mE.heap.Ns bp m/\∀h',gv bp mE.heap h'->Q () {mE with heap:=h'})):
 C A (Kv (cP (bI (ar (aC "list") np) [ar (NM 31) p1] [] p2) [⟨ar (NM 31) p3,ar (NM 9) p4,[],0⟩] scope pos) J u) s Q:=by
 show bh (c.OG r Z) λcl jA wO=>ZU c jA (λ_=>rfl)<|T.wcV (v9 r h9) λv F aO=>gH aO λT vs nT dX hTT hTo hVs=>(dX▸?_);have d_:∀(j:Nat) a,rs[j]? =O a->vs[j]? =O (R a):=λj a e=>by show jx (hVs.get (by rw[cY,e];rfl)) λv F' e1 e2 _=>?_;rw[e1,e2.DH]
 have hvl:vs.length=rs.length:=by have:=hVs.length;simpa using this
 have agY:∀{Y:ae},Tk [] s Y->Y.heap.IsTuple T vs.toArray:=λt=>⟨_,t.keep _ _ (λq=>kI q) hTo,rfl,nT,rfl⟩;have hnl:s.heap.get? s.heap.objs.size=ai:=bF _;show cR (J8 (agY (.refl _ _)) (gQ ?_ (λA' fq Q t hQ=>cR (wpAny_pyIter_tupleiter ⟨_,t.keep _ _ (λq=>kI q) (bK _ Z),rfl,rfl⟩ hQ)) (λa0 bp fq t hD hK Oo hKT oq wL=>?_)))
 .rw [dD];show qk (jy (H:=[]) B.top (.refl _))
 have t1:Tk [] s {s with heap:=s.heap.push {cls:=ak "tuple_iterator",data:=bH #[R T,ah 0 0]}}:=.heap λb o _ e=>a8 _ e;have hDL:a0≠s.heap.objs.size:=λq=>by rw[q,bK _ Z]at hD;ext
 have hKL:bp≠s.heap.objs.size:=λq=>by rw[q,bK _ Z]at hK;ext
 have nD:=(Tk.x (H:=[]) t1).new hD;have nK:=(Tk.x (H:=[]) t1).new hK;have li0:fq.heap.IsTupleIter s.heap.objs.size T 0:=kF _ (t.keep _ _ (λq=>kI q) (bK _ Z)) Z Z;generalize s.heap.objs.size=I' at *;have E:(ju scope J).names.lookup (NM 31)=O cZ:=xF (c.locs 31 (bJ.mpr Z));have hnT:∀{a:ab},s.heap.get? a=ai->a∉bY:=λe q=>dG (hT _ q) λo e'=>by have e':=e.symm.trans e';ext
 show t9 Z Z (ajt I' T a0 bp cj s) ?_ cj.length
  ⟨0,[],0,_,rfl,fg _,t1.trans t (zo),wL,li0,oq,rfl,⟨rJ,(zo),λ_ _ _ h=>Bq h⟩⟩
 rintro _ Y Kp P1 P2 P3 P4 Kh H0 H1 H2 H3 _ H4 ⟨i,as,n,m,dX,hi,t2,PQ,li,d2,DG,aM⟩;show hb aM λR1 R2 R3=>?_;rcases AX hi with jz|rfl
 .show dG (show∃row,cj[i]? =O row from⟨_,dE jz⟩) λrow OJ=>?_;show dG (show∃a,rs[i]? =O a from⟨_,dE (hl▸jz)⟩) λa ha=>?_;show hb (D i a row ha OJ) λb1 b2 b3=>(cR (wpAny_pyNext_tuple_item li (agY t2) (by rw[KU];show d_ i a ha) λh3 li3 zK=>?_));show H1 _ _ (C.eq Z (cR (jD (sy E (PQ.at' λo e=>zK.extBut _ o hKL e) (λh4 ZR Jh=>H2 _ (uL (H3 _ ?_))) (by rw[show(ju scope J).kind=d0 from c.kind];rfl:((ju scope J).kind== .class ||((ju scope J).kind== .module && bp != J.globals))=af)))));have k4:∀b o,b≠I'->b≠bp->Y.heap.get? b=O o->h4.get? b=O o:=λb o q1 q2 e=>Jh.extBut _ _ q2 (zK.extBut _ _ q1 e);have t4:∀tk,Tk [] s {Y with heap:=h4,toks:=tk}:=λtk=>t2.trans (.heap λb o D e=>Dm D λh1 h2=>k4 b o h1 h2 e) (Te hnl nK);show Lake.T.wcE (JI (fr:=N) hh (B.ext ((t4 0).x (H:=[]))) I hls ((t4 0).keep _ _ (λq=>kI q) b1) b2 b3 (aq _ Z) Z (Cv c (r.ext (t4 0).x).re wO ZR hKT (Yk (bJ.mpr Z) (if_pos Z) (.iq _) HNm.nil))) λv s5 F5 e5 V5 nf=>(iP V5 λla ws nl F' Z6 _ IL V' eQ6=>?_);subst Z6;subst eQ6;have n4:h4.get? la=ai:=((nf Z).1) la (iy ..);have t5:=e5.tk (X:=[]);have d4:=k4 _ _ hDL Oo d2;have nla:∀b o,h4.get? b=O o->la≠b:=λb o e q=>by subst q;have e:=n4.symm.trans e;ext
  have laD:=nla _ _ d4;show bh li3 λoI eI rI=>bh (Dj ZR) λoK eK _=>H4 _ _ (cR (Ao ⟨n,(t5.keep _ _ (λq=>kI q) d4)⟩ (λh7 qQ sb7=>dG qQ λn7 e7=>?_) (by have:fc=16777216:=jW;simp;lia)));show Kh (cj.length - (i+1)) _ (dX▸ru jz (ja i)) ⟨i+1,as++[la],n7,_,rfl,jz,(((t4 _).trans t5 zo)).trans (.heap λb o D e=>sb7.extBut _ _ (λq=>D (bJ.mpr q)) e) (λb D=>aH (bJ.mp D▸nD)),ZR.at' λo e=>sb7.extBut _ _ (eO Oo) (t5.keep _ _ (λq=>kI q) e),
   (li3.at λo e=>Jh.extBut _ _ (eO hKL) e).at λo e=>sb7.extBut _ _ (eO hDL) (t5.keep _ _ (λq=>kI q) e),by rw[e7];simp[br],by rw[iu,DG];rfl,⟨?_,λb D=>?_,λj b rw h1 h2=>?_⟩⟩
  .show qh.mpr ⟨R1,by simp,λx E y hy q=>?_⟩;rw[bJ.mp hy]at q;show dG (sQ E) λj hj=>?_;show eX (R2 x E) λr1 r2=>have hjl:=fZ (DG▸(dR.mp hj).1) jz;eQ (R3 j x _ hj (dE hjl)) λws' n' e' _=>?_;show Gd r2 λr1 _ r3=>nla x _ (k4 _ _ r1 r3 e') q.symm
  .rcases b9.mp D with q|q
   .show R2 b q
   .rw [bJ.mp q];show⟨(t4 0).none (λq=>kI q) n4,ae5 (nla _ _ (Jh.extBut _ _ (eO hKL) eI)) laD (nla _ _ eK)⟩
  .replace h1:=List.getElem?_append▸h1;split at h1
   .show eX (R2 b (cW h1)) λr1 r2=>eQ (R3 j b rw h1 h2) λws' n' e' ia'=>Gd r2 λr1 r2 r3=>kH ws' n' (sb7.extBut _ _ r2 (t5.keep _ _ (λq=>kI q) (k4 _ _ r1 r3 e'))) ia'
   .rename_i hj
    have hj0:j=i:=by have:=(dR.mp h1).1;simp at this;lia
    cases hj0
    rw[DG,LC]at h1;show aV h1▸aV (OJ.symm.trans h2)▸kH ws nl (sb7.extBut _ _ laD IL) (intsAre_of V' (dS row))
 .show cR (J2 hh li (agY t2) (by rw[KU];show rl (by simp[*])) λh3 zK=>?_);have k4:∀b o,b≠I'->Y.heap.get? b=O o->h3.get? b=O o:=λb o q1 e=>zK _ _ q1 e;have t4:Tk [] s {Y with heap:=h3}:=t2.trans (.heap λb o D e=>k4 b o (λq=>D (bJ.mpr q)) e) λb D=>aH (bJ.mp D▸hnl);show H0 _ (hq (R a0) _ (a0::as) bp m t4 (rY as (hnT nD) (k4 _ _ hDL d2)<|QO as cj DG (λb D=>hnT (R2 b D).1)<|λj b rw h1 h2=>eQ (R3 j b rw h1 h2) λws' n' e' ia'=>kH ws' n' (k4 _ _ (vw ((R2 b (cW h1)).2)) e') ia') (λb D=>?_) (ro.mpr ⟨λq=>(R2 a0 q).2 au,R1⟩) (PQ.at' λo e=>zK _ o hKL e) nK λq=>(bu.mp q).elim (eO Oo) λq=>(R2 bp q).2 au);show bf (bu.mp D) (λq=>q▸nD) λq=>(R2 b q).1
end
def agZ(U:aN)(mg:aP->Option aa)(P:bS)(t:Nat->aW)(f:Nat->bQ):Prop:=
 pQ U P t f/\
 (∃v,mg (aC "VERSION_M1")=O (.int (-3) v))/\
 (∃v,mg (aC "VERSION_M2")=O (.int (-2) v))/\
 ∃v,mg (aC "VERSION_M3")=O (.int (-1) v)
def aju(U:aN)(mg:aP->Option aa)(f:Nat->bQ)(QY:bQ):Prop:=
 qT U f/\
 mg (aC "ECC")=O (.ref 139)/\
 mg (aC "Buffer")=O (.ref 2002)/\
 (∃v,mg (aC "ERROR_LEVEL_L")=O (.int 1 v))/\
 (∃v,mg (aC "ERROR_LEVEL_M")=O (.int 0 v))/\
 mg (aC "make_final_message")=O (.ref 1926)/\
 qS U 1926 QY lW/\
 QY.defaults= .none/\
 QY.code= .ref 1925/\
 U.IsCode 1925 1923 #[]/\
 U.TableAt 1925 1923 #[]
def ajv(U:aN)(mg:aP->Option aa)(Yo:bQ)(QW:bQ):Prop:=
 mg (aC "make_matrix")=O (.ref 1939)/\
 qS U 1939 Yo oh/\
 Yo.defaults= .ref 1932/\
 (∃n,U.get? 1932=O (cU [.bool N,.bool N] n))/\
 Yo.code= .ref 1938/\
 U.IsCode 1938 1934 #[]/\
 U.TableAt 1938 1934 #[]/\
 mg (aC "add_timing_pattern")=O (.ref 1914)/\
 qS U 1914 QW (cS 19)/\
 QW.defaults= .none
def ajw(U:aN)(mg:aP->Option aa)(ZV:bQ):Prop:=
 mg (aC "add_finder_patterns")=O (.ref 1907)/\
 qS U 1907 ZV Af/\
 ZV.defaults= .none/\
 ∃vf,mg (aC "_FINDER_PATTERN")=O vf/\bR U fpV vf []
def ajx(U:aN)(mg:aP->Option aa)(ZW:bQ):Prop:=
 mg (aC "add_codewords")=O (.ref 1921)/\
 qS U 1921 ZW pG/\
 ZW.defaults= .none
def Pkg(U:aN)(mg:aP->Option aa)(P:bS)(t:Nat->aW)(f:Nat->bQ)(QY Yo QW ZV ZW:bQ):Prop:=
 agZ U mg P t f/\aju U mg f QY/\ajv U mg Yo QW/\ajw U mg ZV/\ajx U mg ZW
section
variable{IB:cg}{sa sb:ae}{La Lb:Sg}{Q:b8->ae->Prop}{P2:bS}{t2:Nat->aW}{Iy QY Yo QW ZV ZW:bQ}{b d2:ab}{cs:LN}
theorem PS.ssR{l:List bT}(p:PS H U L J aJ bq bB G S s)(x:pL H τ' U A L J l G G' (O av))(k:∀Y v F,sv (bq++bB) aJ Y->bR Y.heap av v F->Q (.ret v) Y):C A (aU l J) s Q:=by show bh p.fr λW r hW=>(x r).wz λg Y oj=>yK oj λm E v F e aO=>?_;subst e;show k Y v F (p.mod.trans m.p λd hd=>(hW.1 d hd).elim (λq=>.inl (dc _ q)) .inr) aO
theorem l_6{lg ex:LN}{gp ta ei:ab}{lev lv:Nat}{k2:Nat}(hh:dh A)(bM:A.depth<500)(B:cA U mg mb)(I:dQ mg mb)(I2:tZ mg mb)(hT:gi U)(Pv:agZ U mg P t f)(Pd:aju U mg f QY)(OM:ZT U mg P t f P2 t2 fd lg ex gen gp Iy)(EA:Iz U lv ta ei [1,n+1+gen.length,n+1])(h23:1923∉H)(h79:1979∉H)(hlv:lev<2/\([1,0]:LN).getD lev 0=lv)(hn:lX ns)(dM:ns.length=8 * (n+1))(Ag:∀x∈ns,x<2)(hw:lX (wordsOf ns (n+1)))(Ib:n+1<=100)(xl:cs=(gT lg ex gen (wordsOf ns (n+1)++cb gen.length 0) (wordsOf ns (n+1)).length).drop (wordsOf ns (n+1)).length)(Dx:lX cs)(hsz:8 * (wordsOf ns (n+1)).length+8 * cs.length<=1000)(p:PS H U iD J aJ bq bB G [] s)(h2:cq G 2=O (0,aT lev))(h6:cq G 6=O (k2,a7 ns))(h8:bW G 8=N)(k:∀Y b2 dx2 d2 S',PS (1979::1923::H) U iD J aJ bq bB (jl G 8 0 (.ptr (.ref b2))) (jj b2 dx2 d2 (dJ (wordsOf ns (n+1))++dJ cs)++S') Y->(∀y∈S',gc y.2=N)->C A (aU rest J) Y Q):
 C A (aU (bc cN 6::rest) J) s Q:=by
 show dU Pd λPd1 Pd2 Pd3 Pd4 Pd5 Pd6 Pd7 ajy=>iL ajy λPd8 Pd9 alA alB=>iL Pv λPv1 Pv2 Pv3 Pv4=>dG Pv2 λv1 gv1=>dG Pv3 λv2 gv2=>dG Pv4 λv3 gv3=>dG Pd4 λvL gL=>dG Pd5 λvM gM=>yU (τ':=1979::1923::H) (U:=U) (L:=iD) (aJ:=aJ) (bq:=bq) (bB:=bB) h8 (.inl (rfl)) Z<|fU<|T.wY (rZ (p.base B) p.er (rfl) Pd6 (rfl))<|bh Pd7.at_.obj λo ho hd=>pD o QY<|ej<|cx<|T.wz (qL (fr:=N) (p.base B) (rfl) gv2 (rfl) p.er) λu1 s2 oj=>iM oj λe2 F2 V2 _=>?_;apply bR.zN V2;intro t1;have p2:=p.grow e2;show cx<|T.wz (V.to (fj (ns:=[1,0]) (fr:=N) (oZ (p2.base B).top (fJ.cons (qL (p2.base B) (rfl) gL (rfl)) (fJ.cons (qL (p2.base B) (rfl) gM (rfl)) fJ.nil Z) Z) Z Z) (aq _ h2) hlv.1 bA Z) (congrArg aT hlv.2) p2.er) λu3 s3 Κ=>iM Κ λe3 F3 V3 _=>?_;apply bR.zN V3;show λt3=>cx (acX B I Pv1.pF Pd1 (fZ bM bA) Pd3 (by rfl) (p2.grow e3) (zo) (aq _ h6) Z hn λs4 b dx d _ _ _ _ p4=>c8 ?_);have hi:∀y∈jj b dx d ns++[],gc y.2=N:=λy hy=>by apply Dl hy<;>rfl
 show⟨⟨p4.ext.keep _ _ Pd7.at_.off ho,hd⟩,zC (us:=[.int (-2) t1,.int (aj lv) t3,.ref b]) (avs:=[.int (-2),aT lv,.ptr (.ref b)]) (F:=[]) [72,81,82] B p4.ext (fZ bM bA) Pd7 Z Z Z ?_ (eg [] [] (.ofInt _ t1)<|eg [] [] (.ofInt _ t3)<|eg [] [] (.iq _) .nil) aK Z aK p4.sg λs5 L5 p5=>aen (hh) au B I I2 hT Pv1 Pd1 OM Pd2 EA Pd3 gv1 gv3 Pd9 (DT Z) alA alB h23 h79 hn dM Ag hw Ib xl Dx hsz p5 hi (λy hy=>dc _ hy) λY G' b2 dx2 d2 q=>⟨_,.ptr (.ref b2),[],p4.called q hi,.iq _,rfl,λs9 q9=>k s9 b2 dx2 d2 _ q9 hi⟩⟩;have D:du QY ⟨[.int (-2) t1,.int (aj lv) t3,.ref b],[]⟩=pure (([72,81,82].map NM).zip [.int (-2) t1,.int (aj lv) t3,.ref b]):=by
  delta du
  show Pd7.params.symm▸Pd8.symm▸?_;rfl
 show D.symm▸aB ⟨rfl,rfl⟩
end
theorem ZX(rs:List ab):flat (uo rs)=N:=by
 induction rs with
 |nil=>rfl
 |cons r rs ih=>show ih
section
variable{IB:cg}{sa sb:ae}{S0 La Lb:Sg}{Q:b8->ae->Prop}{P2:bS}{t2:Nat->aW}{Iy QY Yo QW ZV ZW:bQ}{b d2:ab}{cs:LN}
theorem l_7(hh:dh A)(bM:A.depth<500)(B:cA U mg mb)(I:dQ mg mb)(hT:gi U)(Pk:ajv U mg Yo QW)(h34:1934∉H)(p:PS H U iD J aJ bq bB G S s)(hS:∀y∈S,gc y.2=N)(h9:bW G 9=N)(k:∀Y rs,rs.length=13->rs.Nodup->(∀y∈S,y.1∉rs)->PS (1934::H) U iD J aJ bq bB (jl G 9 0 (uo rs)) (uI rs PU++S) Y->C A (aU rest J) Y Q):
 C A (aU (bc cN 7::rest) J) s Q:=by
 show dU Pk λPk1 D' Pk3 Pk4 Pk5 Pk6 Pk7 ajz=>hb ajz λPk8 Pk9 alC=>yU (τ':=1934::H) (U:=U) (L:=iD) (aJ:=aJ) (bq:=bq) (bB:=bB) h9 (.inl (rfl)) Z (sh [aT 13,aT 13] B p Pk1 (rfl) (rfl) D' (fJ.cons (aR 13) (fJ.cons (aR 13) fJ.nil Z) Z) Z λvs s1 F e1 aO=>?_);apply nG aO;intro v1 v2 F1 F3 V1 V2;apply bR.zN V1;intro t1;apply bR.zN V2;intro t2;have p1:=p.grow e1;show dG Pk4 λn hu=>(zC (us:=[.int (aj 13) t1,.int (aj 13) t2,.bool N,.bool N]) (avs:=[aT 13,aT 13,.bool N,.bool N]) (F:=[]) [60,61,107,108] B p1.ext (fZ bM bA) D' Z Z Z ?_ (eg [] [] (.ofInt _ t1)<|eg [] [] (.ofInt _ t2)<|eg [] [] (.ofBool _) (eg [] [] (.ofBool _) .nil)) aK Z aK p1.sg λs2 L2 p2=>acR (hh) B I hT au hS Pk8 Pk9 alC p2 Pk5 (DT Z) Pk6 Pk7 h34 (.head ..) (λb D=>bZ _ D) λY G' rs v h1 h2 h3 q aO=>⟨_,uo rs,[],p1.called q hS,aO,ZX rs,λs9 q9=>k s9 rs h1 h2 h3 q9⟩);show(?_:ax _ _ _ _ _ _);delta du;show D'.params.symm▸Pk3.symm▸D'.kwd.symm▸ag (aB (ag (jF (p1.ext.keep _ _ (DT Z) hu) Z (aB ⟨rfl,rfl⟩))))
theorem l_8{k9:Nat}(hh:dh A)(bM:A.depth<500)(B:cA U mg mb)(I:dQ mg mb)(Pk:ajw U mg ZV)(p:PS H U iD J aJ bq bB G (uI rs cj++S0) s)(hS:∀y∈S0,gc y.2=N)(wA:iG J=af)(h9:cq G 9=O (k9,uo rs))(hl:rs.length=13)(tQ:rs.Nodup)(hm:Mx cj)(hd:∀y∈S0,y.1∉rs)(k:∀Y,PS H U iD J aJ bq bB G (uI rs (mF cj 8)++S0) Y->C A (aU rest J) Y Q):
 C A (aU (bc cN 8::rest) J) s Q:=by
 show iL Pk λPk1 D' Pk3 Pk4=>bh Pk4 λvf gf Vf=>z9 wA Z<|sh [uo rs,aT 13,aT 13] B p Pk1 (rfl) (rfl) D' (fJ.cons (aq _ h9) (fJ.cons (aR 13) (fJ.cons (aR 13) fJ.nil Z) Z) Z) Z λvs s1 F e1 aO=>have p1:=p.grow e1;have hl3:=aO.length;zC [9,60,61] B p1.ext (fZ bM bA) D' Z Z Z ?_ aO aK (by rw[hl3];rfl) aK p1.sg λs2 L2 p2=>?_
 .apply abP hl3;intro a b c
  .show (?_:ax _ _ _ _ _ _);delta du;show D'.params.symm▸Pk3.symm▸aB ⟨rfl,rfl⟩
 .show ϻ (hh) B I hl tQ hm hd hS gf (Vf) p2 λY G' q=>⟨rfl,k Y (p1.called q λy hy=>(b9.mp hy).elim (yZ y) (hS y))⟩
theorem l_9{k8 k9:Nat}(hh:dh A)(bM:A.depth<500)(B:cA U mg mb)(I:dQ mg mb)(Pv:agZ U mg P t f)(Pk:ajx U mg ZW)(p:PS H U iD J aJ bq bB G (uI rs cj++S0) s)(hS:∀y∈S0,gc y.2=N)(wA:iG J=af)(h9:cq G 9=O (k9,uo rs))(h8:cq G 8=O (k8,.ptr (.ref b)))(hl:rs.length=13)(tQ:rs.Nodup)(hm:Mx cj)(hd:∀y∈S0,y.1∉rs)(yX:∀y∈jj b dx d ns,y∈S0)(hn:lX ns)(PI:(I5 ns cj).2=ns.length)(k:∀Y,Mx (I5 ns cj).1->PS H U iD J aJ bq bB G (uI rs (I5 ns cj).1++S0) Y->C A (aU rest J) Y Q):
 C A (aU (bc cN 9::rest) J) s Q:=by
 show hb Pk λPk1 D' Pk3=>iL Pv λPv1 Pv2 Pv3 Pv4=>dG Pv2 λv1 gv1=>dG Pv3 λv2 gv2=>dG Pv4 λv3 gv3=>z9 wA Z<|sh [uo rs,.ptr (.ref b),.int (-2)] B p Pk1 (rfl) (rfl) D' (fJ.cons (aq _ h9) (fJ.cons (aq _ h8) (fJ.cons (qL (p.base B) (rfl) gv2 (rfl)) fJ.nil Z) Z) Z) Z λvs s1 F e1 aO=>have p1:=p.grow e1;have hl3:=aO.length;zC [9,71,72] B p1.ext (fZ bM bA) D' Z Z Z ?_ aO aK (by rw[hl3];rfl) aK p1.sg λs2 L2 p2=>?_
 .apply abP hl3;intro a b c
  .show (?_:ax _ _ _ _ _ _);delta du;show D'.params.symm▸Pk3.symm▸aB ⟨rfl,rfl⟩
 .show acO (hh) B I Pv1 au hl tQ hm hd yX hn gv1 gv3 PI p2 λY G' hm' q=>⟨rfl,k Y hm' (p1.called q λy hy=>(b9.mp hy).elim (yZ y) (hS y))⟩
end
theorem QP(cj:List (LN)):wa (zw cj)=N:=by
 show(?_:CI (cj.map a7)=N);induction cj with
 |nil=>rfl
 |cons r rs ih=>show fL.mpr ⟨jN _,ih⟩
section
variable{IB:cg}{sa sb:ae}{S0 La Lb:Sg}{Q:b8->ae->Prop}{P2:bS}{t2:Nat->aW}{Iy QY Yo QW ZV ZW fdM:bQ}{b d2:ab}{cs:LN}
def ae0:List bT:=[bc cN 14,bc cN 15,bc cN 16,bc cN 17,bc cN 18,bc cN 19,bc cN 20,bc cN 21,bc cN 22,bc cN 23,bc cN 24,bc cN 25,bc cN 26,bc cN 27,bc cN 28,bc cN 29]
theorem ajA{D9:List Int}{data bits sent:LN}{cM k9:ab}(hA:θ 10 A)(B:cA U mg mb)(I:dQ mg mb)(hT:gi U)(M:MFn U mg a fdM cM)(Ob:pQ U P t f)(h07:2007∉H)(D0:0<aL.length)(FU:aL.length<=20)(hc:c<=10)(p:PS H U iD J aJ bq bB ([(0,0,kO D9),(1,0,kO aL),(2,0,aT (iR aL)),(3,0,aT c),(5,0,a7 data),(6,0,a7 bits),(8,0,aX (R b)),(9,0,uo rs)]) (uI rs cj++S0) s)(yX:∀y∈jj b dx d sent,y∈S0)(hn:lX sent)(hl:rs.length=13)(hm:Mx cj)(W0:sent.length=80)(hbl:bits.length<=80)(ht:sent.take bits.length=bits)(hq:Sq cj)(Z5:(c - (yR aL c).length) / 2<=(BY (yR aL c)).length)(wb:∀x∈n0 (su aL c cj),x<256)(qO:(jQ (cH 10) (uw (kP (cH 10) (fR (n0 (su aL c cj)) c) (yR aL c))).now 10).length=(uw (kP (cH 10) (fR (n0 (su aL c cj)) c) (yR aL c))).size)(kk:∀Y,sv (bq++bB) aJ Y->Q (cL (dB (ϊ aL c cj sent))) Y):
 C A (aU (bc cN 10::bc cN 11::bc cN 12::bc cN 13::ae0) J) s Q:=by
 have hh:=hA.hd;have kM:J.scope.kind=d0/\J.kindOf (NM 10)=O cZ:=by show bh p.fr λW r _=>?_;unfold j7;show r.scope.symm▸⟨rfl,rfl⟩
 have hmem:∀(j:Nat) r row,rs[j]? =O r->cj[j]? =O row->s.heap.get? r=O (kz row)/\r∉bY/\lX row:=λj r row h1 h2=>by show hb (p.sg _ (dc S0 (pE h1 h2))) λe1 e2 _=>eX (hm.row row (cW h2)) λr1 r2=>⟨e1,e2,r2,by lia⟩
 show p.ajr (x:=10) (av:=zw cj) (QP cj) Z (ao (rfl)) (qH kM.1 kM.2 Z (rfl)) (λu Q' hu=>aeo (k:=0) (ed.of (rfl)) (by rfl) hh (p.base B) I (λb D=>dG (hT b D) λo e=>p.ext.there b o e) p.er.re Z (hl.trans hm.len.symm) hmem (by show hm.len.symm▸?_;decide) hu) hT λs1 p1=>?_;show(PS.less (G':=gL2 D9 aL c data bits (R b) cj) p1 (by show km.rf bz bz)).s1 (S1.m (gb 11 (mH []) (oZ B.top fJ.nil Z Z) Z Z (aH (rfl)) Z)) λs2 p2=>p2.s1 (S1.m (aci hh B I)) λs3 p3=>have p3:=p3.share 11;have To:=p3.Hp (b:=b) (dx:=dx) (d:=d) (ns:=sent) (λy hy=>ew _ (yX y hy)) hn;acy (x:=16) (av:=a7 sent) p3 (JI hh (p3.base B) I (rfl) To.dat To.t3 hn (Tq (p3.base B) (Ob.ext p3.ext) (by have:=hA.depth;show Lg this) To (aq (k:=0) 8 Z) Z Z) Z) (jN _) Z (ao (rfl)) Z λs4 p4=>have p4:=p4.share 16;(PS.less (G':=gL3 D9 aL c data bits cj sent) p4 (by show km.rf bz bz)).ssR (afu (τ':=2007::H) hA B I M D0 FU hc W0 hbl ht hq Z5 wb qO h07 (cQ ..) λb D=>bZ _ D) λY v F m aO=>?_;have ev:=aO.toBool;subst ev;show kk Y m
end
section
variable{IB:cg}{sa sb:ae}{S0 La Lb:Sg}{Q:b8->ae->Prop}{P2:bS}{t2:Nat->aW}{Iy QY Yo QW ZV ZW fdM:bQ}{b d2:ab}{cs:LN}
theorem abc{script:List Int}{lg ex data sent:LN}{lv:Nat}{gp ta ei cM:ab}(hA:θ 10 A)(bM:A.depth<500)(B:cA U mg mb)(I:dQ mg mb)(I2:tZ mg mb)(hT:gi U)(M:MFn U mg a fdM cM)(Pk:Pkg U mg P t f QY Yo QW ZV ZW)(OM:ZT U mg P t f P2 t2 fd lg ex gen gp Iy)(EA:Iz U lv ta ei [1,n+1+gen.length,n+1])(r8:script.length<=63)(abd:aL=lS script)(hc:c=5+iR aL)(BH:data=wX aL c)(hnc:n+1+c=10)(hlv:([1,0]:LN).getD (iR aL) 0=lv)(YO:data.length=n+1)(hd:∀x∈data,x<256)(hwd:wordsOf (dJ data) (n+1)=data)(xl:cs=(gT lg ex gen (data++cb gen.length 0) data.length).drop data.length)(jA:cs.length=c)(hcb:∀x∈cs,x<256)(Im:sent=dJ data++dJ cs)(PI:(I5 sent (mF PU 8)).2=sent.length)(W0:sent.length=80)(ht:sent.take (dJ data).length=dJ data)(hq:Sq (I5 sent (mF PU 8)).1)(Z5:(c - (yR aL c).length) / 2<=(BY (yR aL c)).length)(wb:∀x∈n0 (su aL c (I5 sent (mF PU 8)).1),x<256)(qO:(jQ (cH 10) (uw (kP (cH 10) (fR (n0 (su aL c (I5 sent (mF PU 8)).1)) c) (yR aL c))).now 10).length=(uw (kP (cH 10) (fR (n0 (su aL c (I5 sent (mF PU 8)).1)) c) (yR aL c))).size)(p:PS [] U iD J aJ bq bB [(0,0,kO script)] [] s)(kk:∀Y,sv (bq++bB) aJ Y->Q (cL (dB (ϊ aL c (I5 sent (mF PU 8)).1 sent))) Y):
 C A (aU cN J) s Q:=by
 have hh:=hA.hd;show jd Pk λPv Pd Pe Pf Pg=>?_;show eX (Jt script) λD0 FU=>?_;have wA:iG J=af:=by show bh p.fr λW r _=>?_;delta iG;show r.scope.symm▸?_;rfl
 have hbl:(dJ data).length=8 * (n+1):=by rw[pV,YO]
 have ajB:lX sent:=⟨λx E=>by rw[Im]at E;show(b9.mp E).elim (λq=>fZ (rU data x q) aK) λq=>fZ (rU cs x q) aK,by rw[W0];decide⟩
 show(?_:C _ (aU (([bc cN 0,bc cN 1,bc cN 2,bc cN 3,bc cN 4,bc cN 5]++[])++(bc cN 6::bc cN 7::bc cN 8::bc cN 9::bc cN 10::bc cN 11::bc cN 12::bc cN 13::ae0)) J) s Q);show p.ss (ahz hh B I r8 (SS.m SS.nil)) λs1 p1=>l_6 (H:=[]) hh bM B I I2 hT Pv Pd OM EA (λh=>kI h) (λh=>kI h) ⟨(rP _ bA),hlv⟩ (⟨λx E=>fZ (rU data x E) aK,by lia⟩) hbl (rU data) (by rw[hwd];show⟨hd,by lia⟩) au (hwd.symm▸xl) ⟨hcb,by lia⟩ (by show hwd.symm▸?_;lia) ((BH.symm▸hc.symm▸abd.symm▸p1).share 6) Z Z Z λs2 b2 dx2 d2 S2 p2 hi2=>?_;rw[hwd,<-Im]at p2;have hbi:∀y∈jj b2 dx2 d2 sent++S2,gc y.2=N:=λy hy=>by show bf (b9.mp hy) (λq=>?_) λq=>hi2 y q;simp only[jj,bu,mW,or_false]at q;rcases q with rfl|rfl|rfl<;>rfl
 show l_7 hh bM B I hT Pe (DT Z) p2 hbi Z λs3 rs hr1 hr2 hr3 p3=>l_8 hh bM B I Pf p3 hbi wA Z hr1 hr2 ϶ hr3 λs4 p4=>l_9 hh bM B I Pv Pg p4 hbi wA Z Z hr1 hr2 (PY ϶ 8 (ey _)) hr3 (λy hy=>dc _ hy) ajB PI λs5 hm5 p5=>(ajA (k9:=0) hA B I hT M Pv.1 (DT Z) (abd▸D0) (abd▸FU) au p5 (λy hy=>dc _ hy) ajB hr1 hm5 W0 au ht hq Z5 wb qO kk)
end
section
variable{bp K':mq}{c T:ab}{l:List aa}{os:fy}
theorem oi(x:(bp++K').In h):bp.In h:=λa o e=>x a o (by rw[Ux,e];rfl)
set_option tactic.hygienic true in
theorem lx(X:bp.In h)(h1:bp.lookup a=O (mK fd))(h2:bp.lookup c=O (lj l))(ha:(a∉bY/\c∉bY))(hf:fd.params=fo st/\fd.body=lh (bo st)/\fd.scope=bg st/\fd.globals=3/\fd.closure=[]/\fd.kwdefaults=aA/\fd.code=R c/\fd.builtins=0)(hq:∃t,l[1]? =O (cI fd.qualname t)):qS h a fd st:=dU hf λf1 f2 f3 f4 f5 f6 f7 f8=>dG hq λt ht=>⟨⟨(ct _ (X _ _ h1) Z),ha.1,c,_,_,t,f7,ha.2,X _ _ h2,rfl,KU.trans ht⟩,f2,f3,f1,f4,f8,f5,f6⟩
theorem ud{x0 x1 x2 x3 x4 x5 x6 x8 x12 x13 x14 x15 x16 x17:aa}{b:Bool}{f1 f2:Int}{t1 t2 t3:aW}{fl:aP}(X:bp.In h)(h1:bp.lookup c=O (lj [x0,x1,x2,x3,x4,x5,x6,ah f1 t1,x8,dB b,ah f2 t2,R T,x12,x13,x14,x15,x16,x17,cI fl t3]))(h2:bp.lookup T=O (tabObj #[]))(hn:c≠T):h.IsCode c T #[]/\h.TableAt c T #[]:=
 (gQ ⟨_,_,fl,t3,f1,t1,b,f2,t2,_,X _ _ h1,rfl,rfl,rfl,rfl,rfl,rfl,X _ _ h2,rfl,trivial,hn⟩ ⟨_,_,X _ _ h1,rfl,rfl,rfl⟩ (X _ _ h2))
theorem rV(l:LN):∀(k:Nat),fh (Dp k l) (l.map aj):=by
 induction l with
 |nil=>intro _;show qv
 |cons n l iH=>intro k;show yE n k (iH (k+1))
theorem bR.uK{a0:ab}{ys:List aa}(hD:a0∉bY)(e:h.get? a0=O (cU ys n))(ia:fh ys (ms.map aj)):bR h (Lake.uK ms) (R a0) []:=by have aO:=wK (h:=h) ia;rw[qj]at aO;show DV a0 ys n Z hD e aO
theorem M2.get{aM:α->aa->Prop}{iB:List (MK×aa)}{sp:List (MK×α)}{k:MK}{a:α}(x:M2 aM iB sp)(hn:(sp.map (·.1)).Nodup)(e:sp.lookup k=O a):∃v,valueAt iB k=O v/\aM a v:=by show dG (sQ (mG e)) λj hj=>?_;have hl:=x.1▸(dR.mp hj).1;show eX (x.2 j iB[j].1 iB[j].2 k a (dE hl) hj) λh1 h2=>?_;show ct _ (valueAt_of_get (x.keys▸hn) (by rw[dE hl,<-h1])) h2
end
section
variable{os:fy}
def J'(P:bS)(k0 k:Nat):aP->Option aa:=mf (nsC P k0 k)
def mbT(P:bS):aP->Option aa:=mf (sr (qt P))
theorem abe(X:(qB P k).In h):pQ h P (tC k) (fC k) where
 pF:=oi (oi (oi X))
 acK:=lx X Z Z aK ⟨rfl,rfl,rfl,rfl,rfl,rfl,rfl,rfl⟩ ⟨_,rfl⟩
 itemF:=lx X Z Z aK ⟨rfl,rfl,rfl,rfl,rfl,rfl,rfl,rfl⟩ ⟨_,rfl⟩
 Ϧ:=lx X Z Z aK ⟨rfl,rfl,rfl,rfl,rfl,rfl,rfl,rfl⟩ ⟨_,rfl⟩
 dJ:=lx X Z Z aK ⟨rfl,rfl,rfl,rfl,rfl,rfl,rfl,rfl⟩ ⟨_,rfl⟩
 afD:=rfl
 ϧ:=rfl
 afE:=rfl
 Ϩ:=rfl
theorem ZY(X:(qB P k).In h):qT h (fC k) where
 Hz:=lx X Z Z aK ⟨rfl,rfl,rfl,rfl,rfl,rfl,rfl,rfl⟩ ⟨_,rfl⟩
 XD:=rfl
 dft:=⟨0,X _ _ Z⟩
 emp:=⟨0,X _ _ Z⟩
theorem ZZ(P:bS)(k0 k:Nat):([("ECC",139),("Buffer",2002),("make_final_message",1926),("make_matrix",1939),("add_timing_pattern",1914),("add_finder_patterns",1907),("add_codewords",1921),("_FINDER_PATTERN",1900),("make_blocks",1931),("GALIOS_LOG",1888),("GALIOS_EXP",1890),("GEN_POLY",1868),("_law_mended",2010),("law",2015),("__builtins__",4)]:List (String×ab)).map (λx=>J' P k0 k (aC x.1))=[139,2002,1926,1939,1914,1907,1921,1900,1931,1888,1890,1868,2010,2015,4].map λa=>O (.ref a):=by ext
theorem mg_of(P:bS)(k0 k:Nat){nm:String}(i:Nat)(h:([("ECC",139),("Buffer",2002),("make_final_message",1926),("make_matrix",1939),("add_timing_pattern",1914),("add_finder_patterns",1907),("add_codewords",1921),("_FINDER_PATTERN",1900),("make_blocks",1931),("GALIOS_LOG",1888),("GALIOS_EXP",1890),("GEN_POLY",1868),("_law_mended",2010),("law",2015),("__builtins__",4)]:List (String×ab))[i]? =O (nm,a))(h2:([139,2002,1926,1939,1914,1907,1921,1900,1931,1888,1890,1868,2010,2015,4]:List ab)[i]? =O a):J' P k0 k (aC nm)=O (.ref a):=by have e:=congrArg (λl:List (Option aa)=>l[i]?) (ZZ P k0 k);rw[cY,cY,h,h2]at e;show aV e
theorem abf(P:bS)(k0 k:Nat):([("VERSION_M1", -3),("VERSION_M2", -2),("VERSION_M3", -1),("ERROR_LEVEL_L",1),("ERROR_LEVEL_M",0)]:List (String×Int)).all (λx=>(J' P k0 k (aC x.1)).any (xC x.2))=N:=by ext
theorem IC(P:bS)(k0 k:Nat){nm:String}{i:Int}(h:(nm,i)∈([("VERSION_M1", -3),("VERSION_M2", -2),("VERSION_M3", -1),("ERROR_LEVEL_L",1),("ERROR_LEVEL_M",0)]:List (String×Int))):∃v,J' P k0 k (aC nm)=O (.int i v):=bh ((Option.any_eq_true _ _).mp (mV.mp (abf P k0 k) _ h)) λv q e=>dG (Tr e) λt r=>⟨t,r▸q⟩
theorem QR(P:bS)(k0 k:Nat):((BI++[("type",ak "type"),("issubclass",bx "issubclass")]).map λp=>(J' P k0 k (aC p.1),mbT P (aC p.1)))=(BI++[("type",ak "type"),("issubclass",bx "issubclass")]).map λp=>(ai,O p.2):=by ext
theorem aep(P:bS)(k0 k:Nat):dQ (J' P k0 k) (mbT P):=λp hp=>tx (va.mp (QR P k0 k) p (dc _ hp))
theorem abg(P:bS)(k0 k:Nat):tZ (J' P k0 k) (mbT P):=λp hp=>tx (va.mp (QR P k0 k) p (ew _ hp))
theorem Z0(l:List (LN)):∀(as:List ab),as.length=l.length->(∀(j:Nat) a r,as[j]? =O a->l[j]? =O r->bR h (uK r) (.ref a) [])->bD h (l.map uK) (as.map R) []:=by
 induction l with
 |nil=>show λas hl _=>?_;rw[Uj hl];show .nil
 |cons r l ih=>show λas hl hr=>eQ (MC hl) λa t e h=>by rw[e]at hr ⊢;show eg [] [] (hr 0 a r Z Z) (ih t h λj a r h1 h2=>hr (j+1) a r h1 h2)
theorem ajC(X:(qB P k).In h):bR h fpV (.ref 1900) []:=by show⟨1900,([1891,1892,1893,1894,1895,1896,1897,1898,1899]:List ab).map R,0,rfl,DT Z,X _ _ Z,Z0 FPN _ Z λj a r h1 h2=>?_⟩;have hj:j<9:=(dR.mp h1).1;rcases(by lia:j=0\/j=1\/j=2\/j=3\/j=4\/j=5\/j=6\/j=7\/j=8) with rfl|rfl|rfl|rfl|rfl|rfl|rfl|rfl|rfl<;>(show aV h1▸?_;show aV h2▸?_;show bR.uK (DT Z) (X _ _ Z) (rV _ _))
theorem ag0(X:(qB P k).In h):∃QY Yo QW ZV ZW,Pkg h (J' P k0 k) P (tC k) (fC k) QY Yo QW ZV ZW:=by
 have cF:=ud (c:=1925) X Z Z (ue Z);have cX:=ud (c:=1938) X Z Z (ue Z);show⟨_,_,_,_,_,⟨abe X,IC P k0 k au,IC P k0 k au,IC P k0 k au⟩,
  ⟨ZY X,mg_of P k0 k 0 Z Z,mg_of P k0 k 1 Z Z,IC P k0 k au,IC P k0 k au,mg_of P k0 k 2 Z Z,lx X Z Z aK ⟨rfl,rfl,rfl,rfl,rfl,rfl,rfl,rfl⟩ ⟨_,rfl⟩,rfl,rfl,cF.1,cF.2⟩,
  ⟨mg_of P k0 k 3 Z Z,lx X Z Z aK ⟨rfl,rfl,rfl,rfl,rfl,rfl,rfl,rfl⟩ ⟨_,rfl⟩,rfl,⟨0,X _ _ Z⟩,rfl,cX.1,cX.2,mg_of P k0 k 4 Z Z,lx X Z Z aK ⟨rfl,rfl,rfl,rfl,rfl,rfl,rfl,rfl⟩ ⟨_,rfl⟩,rfl⟩,
  ⟨mg_of P k0 k 5 Z Z,lx X Z Z aK ⟨rfl,rfl,rfl,rfl,rfl,rfl,rfl,rfl⟩ ⟨_,rfl⟩,rfl,⟨_,mg_of P k0 k 7 Z Z,ajC X⟩⟩,
  mg_of P k0 k 6 Z Z,lx X Z Z aK ⟨rfl,rfl,rfl,rfl,rfl,rfl,rfl,rfl⟩ ⟨_,rfl⟩,rfl⟩
end
section
variable{os:fy}
theorem Od(X:(qB P k).In h):∀b∈bY,h.get? b=O (tabObj #[])/\isCodeTable h b:=λb D=>by
 apply tH D
 .show ⟨X _ _ Z,(ud (c:=1925) X Z Z (ue Z)).2.isCodeTable⟩
 .show ⟨X _ _ Z,(ud (c:=1938) X Z Z (ue Z)).2.isCodeTable⟩
 .show ⟨X _ _ Z,(ud (c:=1983) X Z Z (ue Z)).2.isCodeTable⟩
 .show ⟨X _ _ Z,(ud (c:=2009) X Z Z (ue Z)).2.isCodeTable⟩
theorem aeq(X:(qB P k).In aD.heap)(m:sv [] aD Y):OldK aD.heap Y.heap:=⟨λb o e=>by
 by_cases D:b∈bY
 .show eX (Od X b D) λe1 e2=>?_;obtain rfl:=aV (e1.symm.trans e);show dG (m.mod.tab b D _ e1) λmore e3=>(aH (ao ⟨e2,rfl,#[],more,rfl,e3⟩))
 .show ao (m.mod.keep b o (λh=>kI h) D e),λb o e=>m.mod.there b o e⟩
theorem ag1(X:(qB P k).In h):∃fd,MFn h (J' P k0 k) 2010 fd 2009:=by have c:=ud (c:=2009) X Z Z (ue Z);have F:qS h 2010 _ (cS 26):=lx X Z Z aK ⟨rfl,rfl,rfl,rfl,rfl,rfl,rfl,rfl⟩ ⟨_,rfl⟩;show⟨_,mg_of P k0 k 12 Z Z,F.at_,F.params,F.body,F.scope,F.clo,F.glob,F.bi,rfl,rfl,rfl,by decide,c.1,c.2⟩
theorem Z1(k:Nat):(S4 k).all (λe=>(aI 64).any λi=>xC i e.key && e.hash==hashInt i)=N:=by ext
theorem abh(X:(zJ k).In h):h.IntMap 1868 (findBy xC (S4 k)):=⟨_,S4 k,18,X _ _ Z,rfl,rfl,(λe he=>bh (K0.mp (Vo.mp (Z1 k) e he)) λi _ h=>dG (Tr (fL.mp h).1) λt q=>⟨i,t,q,beq_iff_eq.mp (fL.mp h).2⟩),λ_=>rfl⟩
theorem QS(k:Nat):findBy xC (S4 k) (aj 5)=O (R 1870)/\findBy xC (S4 k) (aj 6)=O (R 1871):=⟨rfl,rfl⟩
theorem aer{gp:ab}(X:(qB P k).In h)(hg:bR h (uK gen) (R gp) [])(D:∀x∈gen,x<255)(hl:gen.length<=100):C_ h wB iO.zG gen gp:=
 ⟨bR.uK (DT Z) (X _ _ Z) (rV _ _),
  ⟨_,Dk (DT Z) (X _ _ Z) (by rw[iO.zG,j0];show(rV Q4 (k+257)).append (rV Q4 (k+257)))⟩,
  hg,
  tR,
  by rw[iO.zG,iu,yO],
  by decide,
  by decide,
  D,
  hl⟩
theorem ae1{gp:ab}(XA:(zq P).In h)(XB:(zJ k0).In h)(X:(qB P k).In h)(hg:bR h (uK gen) (R gp) [])(D:∀x∈gen,x<255)(hl:gen.length<=100)(hf:findBy xC (S4 k0) (aj gen.length)=O (R gp)):
 ∃Iy,ZT h (J' P k0 k) P (tC k) (fC k) P tA fdG wB iO.zG gen gp Iy:=by
 have c:=ud (c:=1983) X Z Z (ue Z);show⟨_,oi (oi (oi X)),
  ⟨lx X Z Z aK ⟨rfl,rfl,rfl,rfl,rfl,rfl,rfl,rfl⟩ ⟨_,rfl⟩,rfl,rfl,c.1,c.2⟩,
  ⟨oi (oi XA),lx XA Z Z aK ⟨rfl,rfl,rfl,rfl,rfl,rfl,rfl,rfl⟩ ⟨_,rfl⟩,rfl,0,XA _ _ Z⟩,
  aer X hg D hl,
  mg_of P k0 k 9 Z Z,
  mg_of P k0 k 10 Z Z,
  mg_of P k0 k 11 Z Z,
  ⟨_,abh XB,hf⟩,
  mg_of P k0 k 8 Z Z,
  lx X Z Z aK ⟨rfl,rfl,rfl,rfl,rfl,rfl,rfl,rfl⟩ ⟨_,rfl⟩,
  rfl⟩
end
section
variable{os:fy}
theorem aes(X:(qB P k).In h)(e:h.get? a=O o)(hc:o.cls≠aA):a∉bY:=λq=>by replace e:=((Od X a q).1)▸e;obtain rfl:=aV e;show hc Z
theorem ID{lv d:Nat}(T:Aj w os s)(hk:uf s.heap aD.heap)(X:(qB P k).In aD.heap)(hl:m2s.lookup (.int (aj lv))=O (.ecs [(1,10,d)])):∃ta ei,Iz aD.heap lv ta ei [1,10,d]:=by
 show ux T.ex λk0 k iB _ _ _ hD hM=>have up:∀{d:ab} {iB:List (MK×aa)},s.heap.DictOf (dZ) d iB->aD.heap.DictOf (dZ) d iB:=λqQ=>eY qQ λo es ep e r=>⟨o,es,ep,hk _ _ e,r⟩;bh (hM.get JT agv) λv e1 q1=>?_;obtain⟨d2,alY,_,hD2,hM2⟩:=q1;have FU:(m2s.map (·.1)).Nodup:=rW hD2 λ_ _ _ _ _ _ _ _ hn=>hM2.keys▸hn;show dG (hM2.get FU hl) λv2 i=>Ga i λe2 ta vs qC _ ht hv=>?_;subst qC;cases vs with
 |nil=>show hv.elim
 |cons u vs=>
  cases vs with
  |cons _ _=>show hv.2.elim
  |nil=>
   obtain⟨i,dx,t0,t1,t2,_,_,hi,hdx⟩:=hv.1;show tD (id (up hD2)) λo2 _ _ g2 x2 _=>?_;have xc:o2.cls≠aA:=λq=>by have:=x2.1;have this:=q.symm.trans this;ext
   show⟨ta,i,⟨_,d2,_,(up hD).mapOf,e1,((up hD2).mapOf),aes X g2 xc,e2⟩,⟨0,hk _ _ ht⟩,aes X (hk _ _ ht) (by nofun),⟨dx,t0,t1,t2,1,10,d,rfl,hk _ _ hi,hk _ _ hdx,aes X (hk _ _ hdx) (by nofun),aes X (hk _ _ hi) (by nofun)⟩⟩
theorem QT(T:Aj w os s)(hk:uf s.heap aD.heap)(h3:s.heap.get? 3=O {cls:=ak "dict",data:=eJ (nsC w.params k0 k) 34})(ha:aD.heap.get? a=O o)(hat:a=2016):cA aD.heap (J' w.params k0 k) (mbT w.params) where
 g:=xB (hk _ _ h3) Z (Ct _ _ _)
 b:=xB (hk _ _ (T.old 0 _ bA (ue Z) (ue Z) (ue Z) (uO bA))) (S9 _) (N0 _)
 lim:=⟨_,xB (hk _ _ T.agF) Z (Vp.mpr λ_ h=>absurd h (rz _)),rfl⟩
 top:=⟨o,(show Q0=a from hat.symm)▸ha⟩
 bmod:=⟨4,_,mg_of w.params k0 k 14 Z Z,ue Z,DT Z,hk _ _ (T.old 4 _ bA (ue Z) (ue Z) (ue Z) (uO bA)),rfl,rfl,rfl⟩
theorem Z2:((aI 256).all λv=>(nZ v).foldl (λwd b=>2 * wd+b) 0==v)=N:=by rfl
theorem vX:∀(l:LN),(∀x∈l,x<256)->wordsOf (dJ l) l.length=l
 | [],_=>rfl
 |v::l,hl=>by
  have ih:=vX l λx E=>hl x (dF _ E);have h8:(nZ v).length=8:=by rfl
  unfold wordsOf at ih ⊢;rw[oF,Uo,iJ,qj,iO.sj];show List.cons_eq_cons.mpr ⟨beq_iff_eq.mp (mV.mp Z2 v (dm.mpr (hl v (cQ ..)))),?_⟩;show Eq.trans (AM λi _=>?_) ih;show(?_:wordAt (nZ v++dJ l) (8 * (i+1))=wordAt (dJ l) (8 * i))
  delta wordAt
  rw[show 8 * (i+1)=(nZ v).length+8 * i by lia,List.drop_append,rp,List.drop_eq_nil_of_le au,yh]
end
theorem abi{args:List WData}{as:List ab}(ZN:FY.row.toRowW.claim.pre args=N)(ZO:Mo args=N)(bw:Laid [] w s aD args vs as)(low:sH<s.heap.objs.size):∃(ns:List Int) (a:ab) (n:List aa),args=[ofPy (Mw (ns.map My))]/\ns.length<=63/\vs=[R a]/\aD.heap.get? a=O (br n 0)/\fh n ns/\a=s.heap.objs.size:=by
 have hrd:=bw.reads;have WX:=bw.well;have IF:=bw.low low
 wrow_args ZN ZO hrd WX IF
 show⟨_,_,_,rfl,by lia,rfl,X.script_obj bw (by assumption),by assumption,(X.script_at bw).1⟩
theorem abj{cl:aP->Option ab}{alD:ExcName->Option aa}{ns:List Int}(X:(qB P k).In aD.heap)(hg:aD.gens=#[])(m:sv [] aD Y):GoodWG FY.row.toRowW.claim cl alD [ofPy (Mw (ns.map My))] aD (cf (cL (dB N))) Y:=
 ⟨ao ⟨dB N,WData.bool N,[],rfl,λ_=>rfl,ReadsW.bool N,by ext,λ_=>⟨rJ,λ_ h=>kI h⟩⟩,aeq X m,m.os,m.gens.2 (λx E=>by rw[hg]at E;show absurd E (Vj x))⟩
theorem Z3:QF:=by
 show λos s aD args vs as T ZN ZO bw=>rW (abi ZN ZO bw (by rw[T.size];decide)) λns a its dX wL qC ha ia hat=>?_;subst dX;subst qC;rw[T.size]at hat;have hk:=bw.keeps;show og λgG kG=>?_;obtain⟨k0,k,iB,h3,hB,hC, -, -⟩:=id T.ex;have X:=hC.keeps hk;have XA:=T.fA.keeps hk;have XB:=hB.keeps hk;have B:=QT T hk h3 ha hat;obtain⟨fdM,M⟩:=ag1 (k0:=k0) X;obtain⟨QY,Yo,QW,ZV,ZW,Pk⟩:=ag0 (k0:=k0) X;obtain⟨fdL,NL,hdL⟩:∃fd,qS aD.heap 2015 fd (cS 27)/\fd.defaults=aA:=⟨_,lx X Z Z aK ⟨rfl,rfl,rfl,rfl,rfl,rfl,rfl,rfl⟩ ⟨_,rfl⟩,rfl⟩;show kG ?_;clear kG gG;have aO:bR aD.heap (kO ns) (R a) [a]:=by show rY [] (by rw[hat];decide) ha (wK ia)
 have hnl:iR (lS ns)<2:=rP _ aK;show zC (H:=[]) (S:=[]) (us:=[R a]) (avs:=[kO ns]) (F:=[a]) [0] B (.refl _) aK NL Z Z Z ?_ ?_ aK Z aK (λ_ h=>kI h) λs2 L2 p2=>?_
 .show (?_:ax _ _ _ _ _ _);delta du;show NL.params.symm▸hdL.symm▸aB ⟨rfl,rfl⟩
 .show eg [a] [] aO .nil
 have key:∀(lv n:Nat) (gen:LN) (gp ta ei:ab) (Iy:bQ),iO.JQ gen->gen.length=5+iR (lS ns)->n+1+gen.length=10->([1,0]:LN).getD (iR (lS ns)) 0=lv->ZT aD.heap (J' w.params k0 k) w.params (tC k) (fC k) w.params tA fdG wB iO.zG gen gp Iy->Iz aD.heap lv ta ei [1,n+1+gen.length,n+1]->
  C (callerA.deeper (gI fdL L2 2015)) (aU (bo (cS 27)) (gI fdL L2 2015)) s2 (λf Y=>GoodWG FY.row.toRowW.claim (classAt s.heap) (Wo s.heap) [ofPy (Mw (ns.map My))] aD (cf (cL (Xh f))) Y):=λlv n gen gp ta ei Iy hG hgl hnc hlv OM EA=>by
  have YO:(wX (lS ns) gen.length).length=n+1:=by delta wX;rw[il,KY];show Nat.sub_eq_of_eq_add (id (ml hnc))
  have hd:∀x∈wX (lS ns) gen.length,x<256:=λx E=>by show bh (bG.mp E) λi _ DX=>?_;subst DX;show rP _ aK
  show dU (iO.plain (aL:=lS ns) hG au hd) λq1 q2 q3 q4 q5 q6 q7 q8=>?_;have hdk:∀x∈wX (lS ns) gen.length++cb gen.length 0,x<256:=λx E=>by show bf (b9.mp E) (λh=>hd x h) λh=>by rw[u9 h];decide
  rw[iO.Il]at q1 q2 q3 q4 q6 q7 q8;show abc ⟨rfl,(by change 302+10<1000;decide),(by show(?_:4+3+20 * 10<9900);decide)⟩ (by change 302<500;decide) B (aep w.params k0 k) (abg w.params k0 k) (λb D=>⟨_,(Od X b D).1⟩) M Pk OM EA wL Z hgl Z au hlv YO hd (by show YO▸?_;show vX _ hd) Z ?_ (λx E=>iO.SD hdk _ x (rn E)) Z q2 q1 q3 q4 q5 q6 q7 p2 λY m=>?_
  .rw [AQ,xt,iu,rk];lia
  .show q8.symm▸abj X bw.gens m
 rcases(show iR (lS ns)=0\/iR (lS ns)=1 by lia) with e|e
 .show jh (ID T hk X ai7) λta ei EA=>dG (ae1 (gen:=iO.af8) XA XB X (bR.uK aK (XB _ _ Z) (rV _ _)) aK aK (QS k0).1) λIy OM=>key 1 4 iO.af8 1870 ta ei Iy iO.ak1 (by rw[e];rfl) Z (by rw[e];rfl) OM EA
 .show jh (ID T hk X ai8) λta ei EA=>dG (ae1 (gen:=iO.af9) XA XB X (bR.uK aK (XB _ _ Z) (rV _ _)) aK aK (QS k0).2) λIy OM=>key 0 3 iO.af9 1871 ta ei Iy iO.ak2 (by rw[e];rfl) Z (by rw[e];rfl) OM EA
end
end Mine.Lake
open PySem PySem.W PyProof.Rows
theorem PySem.Challenge.cw_nv0014_01_holds : PySem.Challenge.rw_nv0014_01.Holds :=
 holds_law Mine.Lake.t1 λk1=>Mine.Lake.aeb Mine.Lake.Z3 k1
