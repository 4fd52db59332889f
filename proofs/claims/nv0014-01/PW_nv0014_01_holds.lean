import PyProof.Rows.All
import Wide.All
import OpenK.AllK
import KE.KRevIter
import Wide.FinOn
import Lean
import PySem.Challenge.RW_nv0014_01
set_option Elab.async false
set_option maxRecDepth 100000
set_option maxHeartbeats 4000000
set_option linter.all false
set_option backward.match.sparseCases false
set_option genInjectivity false
set_option genSizeOf false
set_option bootstrap.genMatcherCode false
set_option tactic.hygienic false
set_option genCtorIdx false
set_option compiler.extract_closed false
namespace Mine.Lake
noncomputable section
open PySem PySem.Calls PyProof.Rows
open _root_.Option renaming some->O,none->ai
open _root_.Bool renaming true->N,false->af
open PySem.Value renaming ref->R,int->ah,type->ak,none->aA,builtin->bx,str->cI,bool->dB,bytes->qY,isInt->xy,ellipsis->JJ,isInt_shape->S3
open PySem renaming wpAny_bind->ag,Shared->ae,Value->aa,Addr->ab,wpAny_pure->aB,wpAny->ax,model->aG,Expr->aw,execs->aU,wpAny_holding->cO,FuncData->bQ,Heap->aN,Sem->aE,wpAny_specialOf->eH,eval->aZ,Params->bS,cStatics->cE,Str->aP,Around->ck,mainGlobals->ef,wpAny_newObj_type->ij,Tok->aW,Pos->aY,wpAny_callSpecial?_slot->kT,bindArgs->du,wpAny_of_eq->fK,wpAny_field->fX,wpAny_assign_Name->jE,Obj->bj,Stmt->bT,builtinsNs->fY,Flow->b8,swapsWith->fu,wpAny_call_entry->jV,letOwnedTupleGo->jF,GenState->eS,sizeLine->fc,wpAny_seqItems->jG,wpAny_mono->gV,typeLookup->gW,rawInt->dN,wpAny_truthy_bool->l9,Scope->c9,interactive->iI,wpAny_Call_NameR->ma,wpAny_standAt->jW,entryFor_of_tree->me,OsState->fy,Fin->ik,Env->cg,callEnvC->gJ,entryFor->gN,wpAny_isInstance->mQ,wpAny_load->iX,plainId_quiet->lJ,sizeLine_eq->jX,wpAny_storeName_local->sC,recursionLimit->mR,pyIter->gm,starEach->iY,wpAny_call->kU,codeAny_builtin->qe,wpAny_isTrue_Compare1->uQ,World->fz,compEnvC->ju,IsRangeIter->mf,Thread->gX,pyNext->gY,wpAny_typeOf->ow,checkBuiltinCall->sE,relabel->jw,wpAny_loadName_local->xA,wpAny_rule->mS,codeAny_call_builtin->xB,lookup_relabel_local->xC,standAt->jH,wpAny_pyIter_list->uR,wpAny_list_append_plain->Aj,wpAny_execs_cons->uS,wpAny_Constant_int->xD,wpAny_updateSeq->uT,Comprehension->sF,wpAny_attempt->sG,backTo->jI,wpAny_Return_some->xE,wpAny_Assign_Name->xF,wpAny_sequenceKey->xG,assign->jJ,fastTable_eq_tree->xH,call_meets->qf,wpAny_newFunctionEnv->Ak,DictEntry->oy,isSubtype->oz,call_range_1->sH,argsOk->jY,IsPair->jZ,attributeBase->uU,rangeSize_one->uV,wpAny_Name->qZ,wpAny_pyIter_range->Al,closureFor->rb,isInstance->rd,codeAny_of_tree->xI,wpAny_setField_rec->Am,seqIndex? ->rg,specialOf->rh,sysModules->sI,wpAny_Subscript_list_slice->JK,checkTypeCall->xJ,nsFind->mh,spliced->oB,codeAny->oE,Builtin->uW,wpAny_letGo->uX,Code->iZ,notIn_one->sJ,callSpecial? ->xK,wpAny_Constant_str->DZ,slot_listiter_next->D0,IsRange->qg,wpAny_setField->An,foldedSetIterable->D9,wpAny_builtinsFor->Ea,wpAny_nsGet->xM,wpAny_Assign_Subscript->JL,wpAny_pyNext_list_item->JM,setGen_self->xN,wpAny_pyNext_tuple_end->JN,wpAny_pyIter_gen->Eb,leaving->ri,small_one->uY,codeAny_call_function->JO,wpAny_pyNext_list_end->JP,typeIs_int->xO,Walks->mT,IsZip->mU,wpAny_loadName_cell->JQ,wpAny_loadName_free->JR,compTurn->uZ,NameKind->u4,wpAny_bindName->Ec,Slot->lL,wpAny_ite_true->Ed,wpAny_alloc->Ao,wpAny_assign_Tuple->JS,cellsFrom->xP,wpAny_pyIter_tuple->JT,swappedStores->Ee,behindInMarks->Ef,wpAny_newFunctionEnv_cells->S4,am_entry_list_getattribute->S5,comprehension->Eg,wpAny_pyIter_slot->JU,wpAny_dictEntries->JV,TypeCalled->Ap,Program->u5,Result->sL,mainNs->sM,wpAny_items_cons->JW,exec->mV,wpAny_pyIter_zip->JX,wpAny_comprehension_free->S6,callWith->xQ,evalArgs->xR,Protocol->xS,wpAny_GeneratorExp_make->S7,wpAny_pyNext_range_item->S8,storeName->Aq,wpAny_execs_nil->JY,Meets->rj,numSeenOf->Ar,strValues->As,wpAny_BinOp->Eh,wpAny_allTrue_And_cons->S9,subscripted->Ei,wpAny_Tuple->Ej,unsupported->Ek,wpAny_Slice->El,wpAny_pyNext_range_end->Ta,wpAny_pyIter_rangeiter->Tb,wpAny_allTrue_Or_cons->Tc,getItem->xT,exec_Assign_Name_used->Td,entryFor_alias->JZ,IsPart->u6,rawPart->xU,size_pos_of_not_empty->Te,isSubtype_stop->J0,wpAny_runValue->J1,methodCallForm->J2,wpAny_newTuple->J3,wpAny_pyIter_listiter->Tf,binaryOp->Au,wpAny_AugAssign_Name->Th,call->Em,codeAny_extend_loopS->Ti,keeperOf->Av,field->sN,wpAny_updateSeq_pair->Tj,step->En,swapsWithSole->J4,wpAny_handled->J5,wpAny_onRaise->J6,wpAny_isTrue_BoolOp->To,wpAny_functionCodeX->Tq,entry_listiter_next->Tr,wpAny_Constant_none->Tt,Arguments->Eo,compareOp->Ep,wpAny_getItem_list->Tu,codeAny_func->J7,makeFunction->J8,wpAny_newTextTuple->Tv,sliceIndices->J9,typeOf->xV,GenEnd->xW,getMethod->Er,numTextOf->Es,callType_new->Ka,args_listiter_next->Tw,handedOut->Et,Keyword->Aw,operate->Ax,setItem->Ay,notedBy->Az,wpAny_Call_method->Tx,slot_list_setitem->Tz,getMethod_builtin->TA,wpAny_mkInt->Kb,wpAny_throw->Kc,keywordEach->Kd,evalThenUse->Ke,rule->sO,Args->sP,exec_Assign_Name->TB,wpAny_askSetting->TC,wpAny_comp_letGo->TF,Const->xY,wpAny_items_nil->TG,wpAny_List->Kf,execs_cons->Kg,wpAny_dictEpoch->TH,leftWithCleanup->TJ,plainId->Eu,treeTable->Ki,inplaceOp->Kj,clausesOf->Kk,holding->TK,standAt->TL,Builtin->ajl
open _root_.Int renaming ofNat->aj,pos_iff_toNat_pos->AA,fmod_eq_emod_of_nonneg->Ew,ofNat_lt->sQ,ofNat_le->xZ,negSucc->AB,lt_of_le_of_lt->Kl,natCast_nonneg->Km,toNat_natCast->Kn,lt_toNat->Ex,ofNat_eq_natCast->TM,toNat_sub->Ko,toNat_of_nonneg->TN,lt_of_lt_of_le->TP,max_eq_right->TQ,toNat->Kq,ofNat_sub->TR,ofNat_inj->TS,lt_trans->TU,le_trans->TV
open PySem.Str renaming ofString->aC,join->x9
open PySem.Heap renaming get?_push_of_some->a8,get?_push_size->bK,lt_size->cn,size_push->dD,get?_update_self->gO,SameBut->gw,get?_update_other->mi,get?_update_ne->Kr,ExtBut->Ks,mk->Kt
open PySem.Expr renaming Name->ar,Call->bI,ListComp->cP,Subscript->dk,Constant->gn,BinOp->eu,Attribute->iJ,GeneratorExp->lM,Tuple->il,Compare->j0,Slice->mj,Dict->qh,List->AD,BoolOp->Ku,UnaryOp->TX
open _root_.Option.some renaming inj->aV
open Or renaming inl->ao,inr->aH,elim->bf
open _root_.List renaming range->aI,mem_singleton->bJ,mem_cons_of_mem->bZ,mem_cons->bu,getD_eq_getElem?_getD->da,mem_append->b9,getElem?_eq_getElem->dE,mem_map->bG,getElem?_eq_some_iff->dR,replicate->cb,mem_of_getElem? ->cW,mem_append_left->dc,mem_cons_self->cQ,not_mem_cons_of_ne_of_not_mem->gZ,getElem?_map->cY,mem_append_right->ew,mem_range->dm,mem_filter->gq,length_append->iw,length_map->ip,foldl_cons->ix,map_cons->iK,map_append->j3,getElem?_range->oF,length_eq_zero_iff->rk,all_eq_true->mW,not_mem_nil->mX,length_replicate->rl,getElem?_eq_none->rn,mem_of_mem_drop->ro,length_cons->oH,mem_or_eq_of_mem_set->u7,getElem?_append_left->u9,nodup_append->qi,foldl_append->qj,eq_of_mem_replicate->va,getElem?_of_mem->sR,getElem?_append_right->ya,nodup_cons->rp,take_length->sS,of_mem_zip->sT,map_map->qk,range_succ->sU,map_inj_left->vb,length_filter_le->AE,mem_of_mem_head? ->AF,pairwise_iff_getElem->Ey,mem_of_mem_take->AG,nodup_range->yb,map_congr_left->AH,filter_cons_of_pos->Ez,filter_cons_of_neg->EB,forIn_cons->yc,append_nil->yd,nil_append->ye,append_assoc->AI,getElem?_zipWith->EC,contains_iff_mem->ED,take_append_drop->EE,lookup_cons->AJ,length_take->AK,length_drop->AL,getElem?_zip_eq_some->Kv,ext_getElem? ->EF,getElem?_set->EG,take_add_one->EH,take_of_length_le->Kw,map_take->AM,mem_reverse->EI,cons_append->EJ,mem_iff_getElem? ->Kx,getElem?_toArray->Ky,foldl->yf,length_set->EK,zipWith->AN,eq_nil_of_length_eq_zero->TY,zip_cons_cons->Kz,map_replicate->KC,getElem?_drop->KD,all_cons->EL,map_drop->EM,length_range->KG,getElem?_eq_none_iff->TZ,mem_of_mem_eraseIdx->T2,getElem_mem->KH,any_eq_true->KI,getElem?_replicate->T3,length_nil->KJ,filter_eq_nil_iff->T4,range_succ_eq_map->T5,foldl_nil->KL,foldl_map->KN,length_eraseIdx->T6,contains_eq_mem->T7,replicate_succ->T8,filter_eq_self->T9,takeWhile_cons->Ua,mem_map_of_mem->Ub,map_set->KO,append_of_mem->Uc,foldl_flatMap->Ud,lookup_append->Ue,flatten_cons->Ug,ext_getElem->Uh,range'_succ->Ui,range_zero->Uj,map_id'->Uk,any_nil->Ul,lookup->Um,range'->Un
open _root_.Nat renaming le_trans->ba,le_of_ble_eq_true->dO,ble_eq_true_of_le->eT,lt_of_lt_of_le->ff,le_refl->ey,ne_of_lt->fB,zero_le->fg,lt_irrefl->gx,lt_trans->fZ,le_add_right->ja,lt_succ_self->jb,le_of_lt->gy,xor_zero->gz,lt_of_le_of_lt->j4,lt_succ_of_lt->kV,ble->dY,zero_xor->iy,add_sub_cancel_left->rq,le_of_lt_succ->mY,add_comm->jK,beq->fD,add_assoc->lN,le_of_not_lt->oJ,add_le_add_left->ru,sub_lt_sub_left->rx,le_succ_of_le->ql,le_of_eq->lO,xor_self->lP,not_lt->j5,lt_or_ge->ml,le_succ->lQ,le_of_succ_le->ry,mul_le_mul_left->sV,succ_add_eq_add_succ->yg,add_sub_cancel->sW,add_sub_of_le->sX,le_add_left->rz,not_lt_zero->rD,le_add_right_of_le->yh,ne_of_gt->oM,succ_le_succ->sY,add_le_add_right->yi,mod_lt->mZ,zero_add->qm,blt->jL,xor_assoc->rF,add_lt_add_left->yj,add_left_cancel->yk,le_antisymm->vd,add_lt_of_lt_sub'->AO,mod_two_eq_zero_or_one->EN,le_sub_of_add_le->AP,succ_ne_self->yl,zero_lt_one->ym,lt_or_eq_of_le->AQ,one_add_le_iff->AR,mul_comm->ve,add_sub_add_right->EO,sub_le->sZ,add_lt_add_right->ES,one_lt_succ_succ->ET,min_eq_left->AS,xor_lt_two_pow->EU,ne_of_beq_eq_false->KP,mul_add->yn,lt_of_add_right_lt->KQ,sub_add_sub_cancel->KR,min_le_right->EV,sub_eq_zero_of_le->KS,eq_of_beq_eq_true->KU,min_le_left->EW,le_sub_one_of_lt->KV,sub_le_of_le_add->KW,add_lt_of_lt_sub->KX,add_zero->AU,succ_lt_succ_iff->KY,not_succ_le_self->KZ,add_one_ne_zero->K0,add_le_add->EX,sub_right_comm->K9,sub_add_cancel->Lc,add_right_comm->Ld,sub_pos_of_lt->Le,succ_pos->EY,sub_sub_self->Lf,mul_zero->EZ,lt_add_right->Lg,succ_pred_eq_of_pos->Uo,lt_add_of_pos_right->Up,div_lt_self->Lh,div_add_mod->Li,add_mod_mod->Lj,sub_sub->E0,mul_one->E3,le_of_sub_eq_zero->Uq,div_lt_of_lt_mul->Ur,div_le_div_right->Us,succ->AW,mul_succ->Lk,sub_self->Ll,xor_comm->Lm,lt_trichotomy->Ut,lt_of_succ_lt->Uu,le_zero->Ln,lt_of_not_le->Uv,add_left_inj->Uw,mod_eq_of_lt->Ux,sub_lt->Lo,strongRecOn->Uy,mul_assoc->Uz,pred->Lp,le_total->UA,add_mod->UB,two_mul->UC
open PySem.Data renaming fields->bH,seq->bU,dict->eJ,bytearray->qo,cell->oO,func->qq,plain->te,cls->Lq,freed->UD
open PySem.NameKind renaming «local»->cZ,cell->dw,free->eN,globalImplicit->kX
open PySem.ScopeKind renaming function->d0,module->qr,«class»->UE
open Except renaming ok->cf,error->kY
open _root_.Bool renaming and_eq_true_iff->fL,and_eq_true->qt,not_eq_true'->vg,or_eq_true->Lr,or_false->Ls,false_eq_true->UG,eq_iff_iff->UH,and_false->UI,false_and->UJ
open List.Mem renaming tail->dF,head->iz
open PySem.Flow renaming next->cJ,ret->cL
open _root_.Option renaming map_eq_some_iff->jc,none->eU,isSome_iff_exists->yo,bind_eq_some_iff->Lu,elim->UK,map->UL
open PySem.Obj renaming mapSeq->dP,mapBytearray->jM,data_mapDictKeys->UM,data_mapFields->UN,data->E4
open PySem.Builtin.Range renaming rangeSize->kZ,small->vh,rangeFitsLong->aa4,rangeFields->aa5
open PySem.Code renaming builtin->fM,compLoop->hb,compStart->oQ,call->m8,quiet_builtin->AX,forLoop->E5
open PySem.Stmt renaming Assign->fE,For->lh,FunctionDef->AY,Return->yp,Expr->vi,AugAssign->E6,If->AZ,While->UO
open PySem.Heap.SameBut renaming update->j6,refl->UP
open _root_.Ne renaming symm->eO
open Eq renaming refl->eV,symm->mn
open PySem.FuncBody renaming stmts->lj
open PyProof.Rows renaming IntsAre->fh,callWith_builtin1->yq,callWith_type1->A1,Subscript_->rH,foldl_take_succ->A3,tail_any->vj,Attribute_any_->E7,spliced_more->E8,spliced_none->E9,call_len_slot->aa6,len_tuple->aa7
open PySem.Value.ref renaming inj->j7
open ForInStep renaming yield->mq
open PySem.GenState renaming running->m9,fresh->Lv
open PySem.W renaming emptyDict->iA,emptyDict->th,Looks->gQ,findIn->iL,boot_heap->oR,boot_o_3->oS,SharedT->ng,boot_o_0->qu,instObj->Fb,typeIn->qv,looks_findIn->A4,plainGet_of->A5,specialIn->yr,Frag->mr,instObj->vk,looks_field->Fc,Looks->Lw,check_slot->UQ,absHeap_size->Ly,takesIn->A6,looksOpen->UR,looks_mroIn->Lz,tc_args->US,check_slot->LA,through->Fd,findCls->Fe
open PySem.Const renaming int->jd,none->yt,str->LB
open List.cons renaming inj->mu
open PySem.Builtin renaming bitNot->nk,divisionGoesByPylong->Ff,bitAnd->LC,bitXor->UT,bitOr->UU
open PySem.Calls renaming spliced_cons->rJ,evalArgs_plain->LD,callWith_function->LF,callWith_builtin->UW,loadGlobal_global->UX
open PySem.Env renaming kindOf->j8
open PySem.W.Looks renaming of_peek->nq,now->vm,of_pure->LG,ld->Fg,ld->aa8
open List.Pairwise renaming nil->rL,filter->Fh,imp->aa9,map->aba
open _root_.Array renaming getElem?_eq_getElem->yu,getElem?_eq_none->LH,getElem?_push->LI,getElem?_eq_some_iff->UY,ext'->A7,getElem?_toList->UZ,not_mem_empty->U0,append_assoc->U1,ext_getElem? ->U2,empty_append->U3,all_eq_true'->U4,all_eq_true->U5,replicate->U6,toList->U7
open List.Nodup renaming length_le_of_subset->A8
open PySem.Builtin.Bytes renaming subscript? ->yw,payload->yx,buffer? ->yy,ownRelease->A9,slotIsOwn->Ba,write->yz,decodersThatHold->LJ,sliceParts->LK,exported->LL,takeBufferQuiet? ->U8,newBytearray->U9,checkResize->Va,fitsIndex->Vb,byteValue->Vc,bindOptional->abb,takeBuffer? ->abc,lengthHint->abd,exportsOf->abe,sliced->abf
open PySem.Builtin.List renaming listSameRef->yA,listExtendWith->Vd,listTooLong->Ve,listTouch->Vg,listSubscript? ->abg,listLengthHint->abh,listFitsIndex->abi
open PySem.F renaming slot_range_iterator_next->Fi,slot_list_getattribute->Fj,plain_extend_loop->Fl,entry_list_iadd->Fm,slot_int_index->Fn,slot_int_rmul->Fo,slot_zip_next->Fp,entry_proto_collect->LM,slot_range_reversed->LO,plain_list_iadd->LP,args_range_iterator_next_1->Vh,entry_range_iterator_next->Vi,slot_tuple_iterator_next->Vj,args_list_getattribute_2->Vk,slot_tuple_getattribute->Vl,called_tuple->LQ,slot_tuple_getitem->Vm,entry_extend_loop->Vo,args_int_rmul_2->Vp,plainAttrs_list->Vq,plain_tuple_new->Vr,entry_tuple_new->Vs,args_zip_next_1->Vt,entry_int_rmul->Vu,slot_list_iadd->Vv,entry_zip_next->Vw,slot_str_join->Vy
open Classical renaming byContradiction->Bb,epsilon_spec->Vz,epsilon->VA,choose->VB
open PyProof.Rows.IntsAre renaming nil->qw,cons->yB
open PySem.IsPart renaming int->oT,none->LR
open PySem.Operator renaming Add->rM,Mult->vo,BitXor->Bc,FloorDiv->Fq,Mod->Bd,Sub->Ft,BitAnd->LU,RShift->LV,Pow->LW
open PySem.Sem renaming wrap_wrap->tj,wp_mono->tx,bind_eq_wrap->Be,onRaise_eq_wrap->Fu,bind_eq_wrap'->LX,fresh->Bf,wrap_congr->LY,raise->LZ,wp_bind'->VC
open PySem.W.KBy renaming look_buffer->yC
open PySem.Meets renaming of_wp->rN
open PySem.Fin renaming done->nr,again->yD
open PySem.Pin renaming globalOf_eq->yE
open Prod.mk renaming inj->tD
open PySem.Challenge renaming rw_nv0014_01->VD,pw_nv0014_01->L6
open PySem.Slot renaming of->nt
open PySem.IsRange renaming new->vp
open PySem.Run renaming running->vq
open PySem.Builtin.Slice renaming sliceAdjust->L7,slicePlaces->VE,sliceApplied->abj
open PySem.Builtin.SmallTypes renaming nextOf->L8,newRecord->VF,refuseKeywords->abk,newClass->abl,iterAll->abm
open Decidable renaming em->yF
open PySem.Resume renaming send->yG
open PySem.Heap.IsCode renaming at2->Fw
open PySem.Builtin.ObjectAttr.Found renaming value->VG,bind->abn
open PySem.Keeper renaming machine->FA
open PySem.GenOnly renaming setGen->FC
open PySem.CmpOp renaming NotIn->Bg,NotEq->FD,Eq->Bh,Lt->FE,In->FF,LtE->VH
open Exists renaming imp->Bj
open PySem.W.WData renaming layableAll->L9,list->Ma,int->Mb
open Nat.ToInt renaming of_le->Mc
open PySem.Shared renaming asleep_of_life->VI,forget_eq->VJ,rest_eq->VK,heap->VL
open PUnit renaming unit->FG
open PySem.Config renaming single->Md
open And renaming intro->FH
open PySem.W.KF renaming slot_mset->Me
open PySem.Thread renaming calm_forget->VM,mk->VN
open PySem.End renaming bare_of_quiet->VO
open PySem.callAny renaming viaDunder->VP
open PySem.W.BT renaming beq_eq->Mf
open PySem.Walks renaming range->Mg,list->VQ
open PySem.PyData renaming list->Mh,int->Mi
open PySem.Builtin.ObjectAttr renaming ownThenClass->abo,find->abp
open PySem.W.CFound renaming val->Mj
open List.range renaming loop->VR
open PySem.Builtin.Tuple renaming tupleIsExact->abq,tupleItemsOf->abr
open PySem.W.KBc renaming picked_eq->VS
open Int.ofNat renaming inj->VT
open PySem.ExcName renaming means->VU
open PySem.Builtin.Generator renaming genWake->abt
open PySem.W.OpenRow renaming partSaid->abu,wellSaid->abw
open PySem.W.OpenLaw renaming wellSaid->abx
open Nat.succ renaming inj->VV
open PySem.Data.seq renaming inj->VW
open PySem.ItemsOf renaming nil->VX
open PySem.GenOnlyQ renaming of->VY
open PySem.Gives renaming of_wp->VZ
open PySem.Manifest.AttrKind renaming slot->aby
open PySem.BoolOp renaming And->V8
variable {α:Type} {aS I a d dx:ab} {A:ck} {b:Array UInt8} {items ps:Array aa} {fr:Bool} {J fV ZV:cg} {e elt iter cu:aw} {fd:bQ} {h h' D U:aN} {pic cj:List (List Nat)} {Gs XX:List (Nat×eS)} {cl:List (aP×ab)} {F bA W W' bq X fp rs wr H τ':List ab} {gens:List sF} {es ifs:List aw} {aL:List Int} {fs gen kn l line ms ns sp ws:List Nat} {body rest ss:List bT} {args vs:List aa} {M:Model} {c g i j k k0 n n₀ x y:Nat} {f:Nat->bQ} {St:Nat->aN->Prop} {t:Nat->aW} {o:bj} {P:bS} {np p pos px:aY} {aM:sL->ae->Prop} {L sc' scope:c9} {s Y aJ aD:ae} {st:bT} {name:aP} {m mb mg:aP->Option aa} {it v:aa} {a6 Q:aa->ae->Prop}
section
variable {a b c d e f g h i j k l m n t x y z:Nat}
theorem Z {α:Sort _} {a:α}:a=a:=rfl
theorem kJ {α:Type _} {x:α} {P:Prop} (h:x∈([]:List α)):P:=nomatch h
theorem zk {α:Type _} {P:α->Prop} (x:α) (h:x∈([]:List α)):P x:=kJ h
theorem Bk {α:Type _} {x:α} {P:Prop} (h:ai=O x):P:=nomatch h
theorem nnT {P:Prop} (h:N=af):P:=nomatch h
theorem Ip {P:Prop} (h:af=N):P:=nomatch h
theorem nn0 {P:Prop} (h:a+1=0):P:=nomatch h
theorem nnZ {P:Prop} (h:0=a+1):P:=nomatch h
theorem nnD {α:Type _} {x:α} {l:List α} {P:Prop} (h:[]=x::l):P:=nomatch h
theorem XY {α β:Type _} {x z:α} {y t:β} {P:Prop} (h:(x,y)=(z,t)) (k:x=z->y=t->P):P:=k (congrArg (·.1) h) (congrArg (·.2) h)
theorem mH {α β:Type _} [BEq α] [LawfulBEq α] {l:List (α×β)} {x:α} {c:β} (h:l.lookup x=O c):(x,c)∈l:=
 (List.lookup_eq_some_iff.mp h).elim λ_ h=>h.elim λ_ h=>h.1▸ew _ cQ
theorem uf {a b:Nat} (h:fD a b=af):a≠b:=KP h
theorem NP {a b:Nat} (h:dY a b=N):a≤b:=dO h
theorem nme {a:Nat} {l:List Nat} (h:l.elem a=N):a∈l:=List.mem_of_elem_eq_true h
theorem DM {a:Nat} {l:List Nat} (h:l.elem a=af):a∉l:=λk=>nnT ((List.elem_eq_true_of_mem k).symm.trans h)
theorem ZW {α:Type _} {G:Prop} (o:Option α) (k:o=ai->G) (m:∀x,o=O x->G):G:=by
 cases o with
 | none=>exact k Z
 | some x=>exact m x Z
theorem boC {G:Prop} (b:Bool) (k:b=N->G) (m:b=af->G):G:=(Bool.eq_false_or_eq_true b).elim k m
theorem r26:∀r∈[12,10,8,6,4,2],2≤r∧r≤12:=by decide
theorem kA1 {α:Type _} {y a:α} {l:List α} (h:y=a):y∈a::l:=h▸cQ
theorem kA4 (h:a<b) (k:c=b):a<c:=k▸h
theorem kA5 (h:a≤c):a - b≤c:=ba (sZ ..) h
theorem kB1 (h:a≤b) (k:b.ble c=N):a≤c:=ba h (dO k)
theorem kB2 (h:a<b) (k:b.ble c=N):a<c:=kB1 h k
theorem kB3 (h:a≤b) (k:(b+1).ble c=N):a<c:=kB1 (sY h) k
theorem kB4 (h:a<b) (k:b.ble c=N):a≤c:=kB1 (gy h) k
theorem kB5 (h:a=b) (k:b.ble c=N):a≤c:=kB1 (lO h) k
theorem kB6 (h:a=b) (k:(b+1).ble c=N):a<c:=kB3 (lO h) k
theorem kB7 (h:a≤b) (k:b.ble c=N):a - d≤c:=kA5 (kB1 h k)
theorem kB9 (h:a<b) (k:(b+1).ble c=N):a+1<c:=kB3 h k
theorem kI1 (h:a<b) (e:d=a+1) (k:(b+1).ble c=N):d<c:=e▸kB9 h k
theorem kI2 (h:a<b) (e:d=a) (k:b.ble c=N):d<c:=e▸kB2 h k
theorem kC1 (k:(a+1).ble c=N):a - b<c:=kB3 (sZ ..) k
theorem kC2 (k:a.ble c=N):a - b≤c:=kB1 (sZ ..) k
theorem kC3 (h:a<c):a - b<c:=j4 (sZ ..) h
theorem kC4 (h:a≤m) (k:(m+1).ble c=N):a - b<c:=kC3 (kB3 h k)
theorem kC5 (h:a≤m) (k:(m+1).ble c=N):a - b - d<c:=kC3 (kC4 h k)
theorem kC7 (h:a≤m) (k:m.ble c=N):min d (a - b)≤c:=ba (EV ..) (kB7 h k)
theorem kC8 (k:a.ble c=N):min a b≤c:=kB1 (EW ..) k
theorem nk1 (h:a - b=c+1):a - (b+1)=c:=congrArg Lp h
theorem nk2 (h:a - b=0) (k:b≤a):b=a:=vd k (Uq h)
theorem nk3 (h:a - b=c+1):b<a:=Nat.lt_of_sub_pos (h▸EY c)
theorem nk4 (h:a≤m) (k:c<a):a - 1 - c<m:=ff (j4 (sZ ..) (Lo (j4 (fg c) k) ym)) h
theorem kD2 (h:0<a):a - 1<a:=Lo h ym
theorem kE2 (h:a=b) (k:b≤m) (r:m.ble c=N):a≤c:=h▸kB1 k r
theorem kE3 (h:a<b) (k:b≤m) (r:m.ble c=N):a≤c:=kB4 (ff h k) r
theorem kE5 (h:a=b - d) (k:b≤m) (r:m.ble c=N):a≤c:=h▸kB7 k r
theorem kE7 (h:a<b) (r:(m * b).ble c=N):m * a+m≤c:=kB1 (sV m h) r
theorem kE8 (h:a<b) (r:(m+b).ble c=N):m+a<c:=kB2 (yj h m) r
theorem kE9 (h:a<b) (r:(m+b).ble (c+1)=N):m+a≤c:=mY (kE8 h r)
theorem kF3 (h:a<b) (k:c=b+d):a<c:=k▸ff h (ja ..)
theorem kF4 (h:a<b) (l:c=m) (k:m=b+d):a<c:=l▸kF3 h k
theorem kF5 (h:a≤b) (k:¬a<b):a=b:=vd h (oJ k)
theorem kF6:a+1+b=a+(b+1):=yg ..
theorem kF7 (h:a+(b+1)≤c):a+1+b≤c:=ba (lO kF6) h
theorem kF8 (h:a+(b+1)≤c):a+1≤c:=ba (ru (rz ..) a) h
theorem kF9 (h:a+b≤c) (k:d<b):a+d<c:=ff (yj k a) h
theorem kG2 (k:a=c) (l:b=d) (h:c+d≤m) (r:m.ble n=N):a+b≤n:=k▸l▸kB1 h r
theorem kG3 (h:a+b≤m) (r:m.ble c=N):a≤c:=kB1 (ba (ja ..) h) r
theorem kG5 (h:c<a - (b+1)):c<a - 1 - b:=K9 a b 1▸h
theorem kH1 {i:Int} (h:a≤m) (k:decide ((m:Int)<i)=N):(a:Int)<i:=Kl (xZ.mpr h) (of_decide_eq_true k)
theorem kH2 {i:Int} (h:a<m) (k:decide ((m:Int)≤i)=N):(a:Int)<i:=TP (sQ.mpr h) (of_decide_eq_true k)
theorem kH3 {i:Int} (e:a=b) (h:b≤m) (k:decide ((m:Int)<i)=N):(a:Int)<i:=e▸kH1 h k
theorem kH4 {i:Int} (e:a<b) (h:b≤m) (k:decide ((m:Int)<i)=N):(a:Int)<i:=kH1 (gy (ff e h)) k
theorem kH5 (h:a≤b):min (a:Int) (b:Int)=a:=Int.min_eq_left (xZ.mpr h)
theorem kH8 (h:a<b):0<(b:Int) - (a:Int):=Int.sub_pos_of_lt (sQ.mpr h)
theorem zG (ha:a≤k) (D:b≤k):a+(b - a)≤k:=(UA a b).elim (λh=>(sX h).symm▸D) λh=>KS h▸ha
theorem nA1 (e:a=b):(AB k+(a:Int)).toNat=b - (k+1):=e▸(congrArg Kq Int.subNatNat_eq_coe).trans (Ko ..)
theorem nA2 (h:k+1≤b) (e:a=b): -(a:Int)≤AB k:=Int.neg_le_neg (xZ.mpr (e▸h))
theorem nA3 (h:i<n):n - i=n - (i+1)+1:=(Uo (Le h)).symm
theorem nA4 (h:a<m) (k:b<2):2 * a+b<2 * m:=ff (yj k _) (sV 2 h)
theorem nA5 (h:z=y - i):z - 1=y - (i+1):=congrArg Lp h
theorem nA6 (e:z=y - i) (k:i<x) (h:x≤y):0<z:=e▸Le (ff k h)
theorem nA7 (e:x=a+(b - a)) (h:a≤k) (l:b≤k+1):x≤k+1:=e▸zG (ql h) l
theorem nA8 (e:x=a+d) (h:c≤a):c≤x:=e▸ba h (ja ..)
theorem nA9 (e:n - i=k+1) (h:i<n):n - 1 - k=i:=(E0 n 1 k).trans ((congrArg (n - ·) ((jK 1 k).trans e.symm)).trans (Lf (gy h)))
theorem nB1 (e:n - 1 - a=n - 1 - b) (h:a<n) (k:b<n):a=b:=(Lf (KV h)).symm.trans ((congrArg (n - 1 - ·) e).trans (Lf (KV k)))
theorem nB2 (h:2 * t≤c - k) (hk:k≤c) (m:g≤f) (l:f≤t):k+g≤c:=ba (ru (ba (ba m l) (ba (Nat.le_mul_of_pos_left t (by decide)) h)) k) (lO (sX hk))
theorem nB3 (e:n=c) (h:2 * t≤c) (l:f≤t):2 * f≤n:=e▸ba (sV 2 l) h
theorem nB4 (e:d=a - 17) (h:a<17 * (n+1)) (l:¬a<17):d<17 * n:=e▸Nat.sub_lt_right_of_lt_add (oJ l) h
theorem nB5 (h:a+b≤m) (l:¬b<k):a+k+(b - k)≤m:=(lN a k (b - k)).trans (congrArg (a+·) (sX (oJ l)))▸h
theorem nB6 (e:d=a - k) (f:c=k) (h:a≤m) (r:k.ble m=N):c+d≤m:=f.symm▸e▸zG (dO r) h
theorem nB7 (h:d+g=m) (l:m≤k+f):(g - k) / 2≤f:=ba (Nat.div_le_self ..) (KW (jK k f▸ba (h▸rz ..) l))
theorem nB8 (h:d+g=m):d+(m - d)=m:=sX (h▸ja ..)
theorem nB9 (h:m≤b) (e:k+n=m) (l:b≤c) (r:c.ble d=N):min k b+(n+(b - m))≤d:=ba (yi (EW k b) _) (ba (lO ((lN ..).symm.trans (e.symm▸sX h))) (kB1 l r))
theorem nC1 (e:x=l - 1) (h:j<x):j+1<l:=KX (e▸h)
theorem nC2 (h:i % 2=x) (r:1 - (x+1) % 2=y):1 - (i+1) % 2=y:=r▸h▸congrArg (1 - ·) (UB i 1 2)
theorem nC3 (l:i<a) (h:a≤b):i - k<b:=j4 (sZ ..) (ff l h)
theorem nC4 (h:j≠0) (l:¬j % 2=1):j=2 * (j / 2 - 1)+2:=let e:=Nat.mul_div_cancel' (Nat.dvd_of_mod_eq_zero ((EN j).resolve_right l));e.symm.trans (congrArg (2 * ·) (Nat.succ_pred_eq_of_ne_zero (n:=j / 2) λq=>h (e.symm.trans (congrArg (2 * ·) q))).symm)
theorem nC6 (f:l=x - k) (e:x=c) (h:c≤m) (r:m.ble d=N):l≤d:=f▸e▸kA5 (kB1 h r)
theorem nC7 (g:n≤l) (f:l=x - k) (e:x=c) (h:k≤c):k+n≤c:=ba (ru g k) (f▸e.symm▸lO (sX h))
theorem nC9:max 0 (min (k:Int) (n:Int))=min (k:Int) (n:Int):=TQ (Int.le_min.mpr ⟨Km k,Km n⟩)
theorem nD1 {b bp:Int} (h:(a:Int)+b<bp) (l:m<((a:Int)+b - a).toNat) (r:bp=(k:Int)):a+m<k:=sQ.mp (TU (Int.add_lt_add_left (Ex.mp l) a) ((Int.add_comm ..).trans (Int.sub_add_cancel ..)▸r▸h))
theorem nD2 {bp:Int} (l:m<(bp - a).toNat) (r:bp=(k:Int)):a+m<k:=jK m a▸KX (Ko k a▸r▸l)
theorem nD3:i<8->((8:Nat):Int) - 1+(i:Int) * -1=((7 - i:Nat):Int):=by revert i;decide
theorem nD4 (h:e - (k+1)=m) (l:g≤m):m - g+g=e - 1 - k:=(Lc l).trans (h.symm.trans (K9 e k 1))
theorem nD5 (l:e - (k+1)=m) (h:k+g<e):g≤m:=l▸AP (a:=g) (b:=k+1) (Nat.succ_le_of_lt (jK k g▸h:g+k<e))
theorem nD6:k+(i+1) - k - 1=i:=congrArg Lp (rq ..)
theorem nD8:d+(d+i - d)=d+i:=congrArg (d+·) (rq ..)
theorem nD9 (h:b≤a∧a≤m) (e:x=c) (r:(m+1).ble c=N):a - z<x:=e▸kC4 h.2 r
theorem nE1 (g:f≤n - 1) (h:n≤a+1) (k:e≤f) (l:a≤e):f=a:=vd (ba g (Nat.pred_le_pred h)) (ba l k)
theorem nE3 (h:y≤x):aj x - aj y=aj (x - y):=(TR h).symm
theorem nE4 (h:0<n) (r:(1).ble m=N):0<min m n∧min m n≤m:=⟨Nat.lt_min.mpr ⟨dO r,h⟩,EW ..⟩
theorem nE8 {x:Int} (h:x.natAbs<1073741824):x<2 ^ 64:=Kl Int.le_natAbs (sQ.mpr (kB2 h Z))
theorem nE9 (h:m≤x) (l:k≤m):k+(m - k)≤x:=(sX l).symm▸h
theorem nF1:((k:Int)+1 * (n:Int)).toNat=k+n:=congrArg Kq (congrArg ((k:Int)+·) (Int.one_mul n))
theorem nF2 (h:d<c):d+(a+c - d)=a+c:=sX (ba (gy h) (rz ..))
theorem nF3 (h:y≤m):aj x - aj y=aj (x+m - y) - aj m:=(Int.add_sub_cancel (x - y:Int) m).symm.trans (congrArg (· - aj m) ((Int.add_right_comm ..).trans (TR (ba h (rz ..))).symm))
theorem nF4 (h:a+k≤l):min k (l - a)=k:=AS (AP (jK a k▸h))
theorem nF5 (h:a=b) (l:j<b):¬a - 1=a:=fB (Lo (h▸Nat.zero_lt_of_lt l) Nat.one_pos)
theorem nF6 (m:j - a=0) (l:¬j<a) (h:a=i):j=i:=(vd (Uq m) (oJ l)).trans h
theorem nF7 (h:b+n≤m) (r:m.ble d=N):min i n≤d:=kB1 (ba (EV ..) (ba (rz ..) h)) r
theorem nF8 (l:a+20 * k<9900) (h:4≤k) (e:x=9900):a+64<x:=e▸j4 (ru (ba (by decide) (sV 20 h)) a) l
theorem nF9 (h:i<n) (e:x=y) (r:(m+n).ble y=N):m+i<x:=e▸kE8 h r
theorem nG1 (h:a<256) (l:¬a<128):a / 128=1:=Nat.div_eq_of_lt_le (oJ l) h
theorem nG3 (r:(1).ble m=N):a % m<m:=mZ _ (dO r)
theorem nG4 (g:z=y) (f:y=x) (e:x=c+d) (h:k<c) (l:n<d):k+n+1<z:=g▸f▸e▸ff (j4 (lO (lN k n 1)) (ES h _)) (ru l c)
theorem nG5 (h:a<m) (l:b<m) (r:(m+m).ble c=N):a+b<c:=ff (Nat.add_lt_add h l) (dO r)
theorem nG6 (h:a≤m):min a b≤m:=ba (EW ..) h
theorem nG8 (g:x≤26 * i+2 * k+m) (j:m<2) (l:k<13) (h:i<6):x≤1000:=kB1 (ba g (EX (EX (sV 26 (gy h)) (sV 2 (gy l))) (gy j))) Z
theorem nG9 (e:d=n+1) (f:a=c) (h:n+1+c=m) (r:(k * m).ble b=N):k * d+k * a≤b:=e▸f▸yn k (n+1) c▸h▸dO r
theorem nH1 {p:Prop} (l:y≤x+2) (h:x≤a+2 * k∧p):y≤a+2 * (k+1):=ba l (yi h.1 2)
theorem nH2 (l:d=n+1) (h:n+1+g=m):d+g=m:=l▸h
theorem nH3 (h:l≤x+2 * n) (k:x≤y+2):l≤y+2 * (n+1):=ba h (ba (yi k _) (lO ((lN ..).trans (congrArg (y+·) (jK ..)))))
theorem nH5 (h:k+m≤i):¬(k≤i∧i - k<m):=λq=>gx _ (ff q.2 (AP (jK k m▸h)))
theorem nH6 (h:a+b≤m) (r:m.ble d=N):a+min i b≤d:=kB1 (ba (ru (EV ..) a) h) r
theorem nH7 (e:x=n+g):n≤x:=e▸ja ..
theorem nH8 (h:a=m * b) (l:b+c=n) (r:(m * n).ble d=N):a≤d:=h▸ba (sV m (l▸ja ..)) (dO r)
theorem pA1 (k:y≤x+1) (h:x≤a+m):y≤a+(m+1):=ba k (sY h)
theorem pA3 (h:a<2 * 128):a / 128=0∨a / 128=1:=Nat.le_one_iff_eq_zero_or_eq_one.mp (mY (Ur h))
theorem pA5 {k:Int} (h: -2 ^ 62≤k) (l:k<2 ^ 62): -9223372036854775808≤k∧k<9223372036854775808:=⟨TV (by decide) h,TU l (by decide)⟩
theorem pA7 {p:Prop} (h:p∧x≤k+n):p∧x≤k+(n+1):=⟨h.1,ql h.2⟩
theorem pA8 (e:t=k) (l:¬b<k) (h:a+b≤m):a+t≤m:=e▸ba (ru (oJ l) a) h
theorem pA9 (h:a+d+g=t+1) (l:1≤g):a≤t:=Nat.le_of_succ_le_succ (h▸(EX (ja a d) l:a+1≤a+d+g):a+1≤t+1)
theorem pA0 (h:e<t+1 - a):a+e≤t:=mY (jK e a▸KX h)
theorem pB2 (h:0<n):n / 2<n:=Lh h (by decide)
theorem pB3 (h:k<a) (l:b<m) (r:(m * a).ble c=N):m * k+b<c:=ff (yj l _) (kE7 h r)
theorem pB5 {k:Int} (h:0<k):k - 0=(k.toNat:Int):=(Int.sub_zero k).trans (TN (Int.le_of_lt h)).symm
theorem pB6 {p:Prop} (l:f≤x+m) (h:x≤m * i∧p):f≤m * (i+1):=ba l (yi h.1 m)
theorem pB7 (e:x=c) (h:n+c=m) (r:m.ble d=N):x≤d:=e▸kB1 (h▸rz ..) r
theorem pB8 (e:x=n) (h:n+c=m) (r:m.ble d=N):x≤d:=e▸kB1 (h▸ja ..) r
theorem pB9 (e:x=n) (h:i+(k+1)=n):i<x:=e▸h▸Up (EY k)
theorem pC1 {i:Int} (e:a<b) (h:b≤m) (k:decide (aj m<i)=N):aj a<i:=kH4 e h k
theorem pC2 {i:Int} (h:a≤m) (k:decide (aj m<i)=N):aj a<i:=kH1 h k
theorem pC3 (l:k≤m) (h:m≤n):min (k:Int) (n:Int)=k:=kH5 (ba l h)
theorem pC4 (h:j<l) (e:l=c - k) (f:x=c):j<x - k:=f.symm▸e▸h
theorem pC5 (e:y=i) (g:x=m) (h:z≤a) (l:i<b) (r:(a+b).ble m=N):z+y≤x:=g▸e▸kB1 (EX h (gy l)) r
theorem pC8 (e:t=x / 2):2 * t≤x:=e▸Nat.mul_div_le x 2
theorem pC9 (h:k+n=m):max (k:Int) (m:Int)=m:=TQ (xZ.mpr (h▸ja ..))
theorem pD1 (h:x=i∧i≤c) (l:c≤m) (r:m.ble d=N):x≤d:=h.1▸kB1 (ba h.2 l) r
theorem pD2 (h:x=i∧i≤c) (j:c≤e) (l:e≤m) (r:m.ble d=N):x≤d:=h.1▸kB1 (ba h.2 (ba j l)) r
theorem pD5 (e:x=i+1) (l:i<b) (h:b≤m) (r:(1+m).ble d=N):1+x≤d:=e▸kB1 (ru (ba l h) 1) r
theorem pD7 (e:x=a) (h:a+b≤m):x+b≤m:=e▸h
theorem pD8 (h:i+g≤l) (k:n+1≤i):n+g<l:=ff (ES k g) h
theorem pD9 (h:b<i+1) (l:i<k) (m:k≤n):b<n:=ff (j4 (mY h) l) m
theorem pE1 (h:a+m<c) (r:k.ble m=N):a+k<c:=j4 (ru (dO r) a) h
theorem pE3 (h:(a:Int)<b):a<b:=sQ.mp h
theorem pE6 (h:j<e) (l:a+e≤t) (k:t≤n):a+j<n:=ff (yj h a) (ba l k)
theorem pE7 (h:a≤b) (l:b≤m) (r:m.ble d=N):a≤d:=kB1 (ba h l) r
theorem pE8 (e:x=a+1) (h:a≤b) (l:b≤m) (r:(m+1).ble d=N):x≤d:=e▸kB1 (sY (ba h l)) r
theorem pF1 (e:x=j) (l:j<n) (h:n≤m) (g:t=d) (r:m.ble d=N):x≤t:=g▸e▸kB4 (ff l h) r
theorem pF6 (e:x=m * b) (h:i<b):m * i+m≤x:=e▸sV m h
theorem pF7 (h:i<b) (e:x=c) (r:(m * b).ble c=N):m * i+m≤x:=e▸kE7 h r
end
local macro_rules | `(tactic| infer_instance)=>do
 let a←`(by assumption)
 let r←`(by with_unfolding_all rfl)
 let t←("List.mem_cons_self,kA1 a,List.mem_cons_of_mem i,List.mem_append_right i,List.mem_append_left i,Or.inl a,Or.inr i,Ne.symm a,Eq.symm a,Nat.le_of_lt a,Nat.succ_le_of_lt a,Nat.lt_of_succ_le a,Nat.le_succ_of_le a,Nat.lt_succ_of_le a,Nat.lt_succ_of_lt a,Nat.succ_le_succ a,Nat.succ_lt_succ a,Nat.lt_succ_self,Nat.le_succ,Nat.le_add_right,Nat.le_add_left,Nat.sub_le,Nat.zero_le,Nat.succ_pos,Nat.lt_of_lt_of_le aa,Nat.lt_of_le_of_lt aa,Nat.lt_of_lt_of_eq aa,kA4 aa,Nat.le_trans aa,kA5 a,kB1 ar,kB2 ar,kB3 ar,kB4 ar,kB5 ar,kB6 ar,kB7 ar,kB9 ar,kI1 arr,kI2 arr,Nat.le_of_ble_eq_true r,kC1 r,kC2 r,kC3 a,kC4 ar,kC5 ar,kC7 ar,kC8 r,nk1 a,nk2 aa,nk3 a,nk4 aa,Nat.sub_add_cancel a,Nat.add_sub_cancel_left,Nat.add_sub_of_le a,kD2 a,Nat.le_sub_one_of_lt a,kE2 aar,kE3 aar,kE5 aar,Nat.lt_of_succ_lt_succ a,Nat.le_of_succ_le_succ a,kE7 ar,kE8 ar,kE9 ar,kF3 aa,kF4 aaa,kF5 aa,kF6,kF7 a,kF8 a,kF9 aa,kG2 aaar,kG3 ar,kG5 a,kH1 ar,kH2 ar,kH3 aar,kH4 aar,kH5 a,kH8 a,nA1 a,nA2 aa,nA3 a,nA5 a,nA6 aaa,nA7 aaa,nA8 aa,nA9 aa,nB1 aaa,nB2 aaaa,nB3 aaa,nB4 aaa,nB5 aa,nB6 aaar,nB7 aa,nB8 a,nB9 aaar,nC1 aa,nC2 ar,nC3 aa,nC4 aa,nC6 aaar,nC7 aaaa,nC9,nD1 aar,nD2 ar,nD3 a,nD4 aa,nD5 aa,nD6,nD8,nD9 aar,nE1 aaaa,nE3 a,nE4 ar,nE8 a,nE9 aa,nF1,nF2 a,nF3 a,nF4 a,nF5 aa,nF6 aaa,nF7 ar,nF8 aaa,nF9 aar,nG1 aa,nG3 r,nG4 aaaaa,nG5 aar,nG6 a,nG8 aaaa,nG9 aaar,nH1 aa,nH2 aa,nH3 aa,nH5 a,nH6 ar,nH7 a,nH8 aar,pA1 aa,pA3 a,pA5 aa,pA7 a,pA8 aaa,pA9 aa,pA0 a,pB2 a,pB3 aar,pB5 a,pB6 aa,pB7 aar,pB8 aar,pB9 aa,pC1 aar,pC2 ar,pC3 aa,pC4 aaa,pC5 aaaar,pC8 a,pC9 a,pD1 aar,pD2 aaar,pD5 aaar,pD7 aa,pD8 aa,pD9 aaa,pE1 ar,pE3 a,pE6 aaa,pE7 aar,pE8 aaar,pF1 aaaar,pF6 aa,pF7 aar,Nat.le_refl".splitOn ",").toArray.mapM λx=>do
  let p:=x.splitOn " "
  let e:=Lean.mkIdent p.head!.toName
  if p.getLast! = "i" then `(Lean.Parser.Tactic.tacticSeq| apply $e;infer_instance)
  else `(Lean.Parser.Tactic.tacticSeq| exact $(Lean.Syntax.mkApp e ((p.drop 1).head?.getD "" |>.toList.toArray.map λc=>if c= 'a' then a else r)) ..)
 `(tactic| with_reducible first | assumption $[| $t]*)
local macro_rules | `(tactic| lia)=>`(tactic| first | infer_instance | fail)
local macro_rules | `(tactic| ext)=>`(tactic| first | infer_instance | contradiction | kernel_rfl)
local macro_rules | `(tactic| show $t:term)=>`(tactic| refine $t)
abbrev LN:=List Nat
abbrev dh(A:Around):Prop:=A.handled=ai
abbrev uh(h ajn:Heap):Prop:=∀b o,h.get? b=O o->ajn.get? b=O o
theorem au{p:Prop}(h:p:=by lia):p:=h
theorem bB{p:Prop}(h:p:=by ext):p:=h
theorem bD{p:Prop}(h:p:=by kernel_rfl):p:=h
theorem jQ{p:Prop}(h:p:=by simp;lia):p:=h
theorem fF{p:Prop}(h:p:=by simp):p:=h
theorem aK{p:Prop}[i:Decidable p](h:decide p=N:=by show rfl):p:=of_decide_eq_true h
theorem bz{a b:Nat}(h:Nat.ble a b=N:=by show rfl):a<=b:=NP h
theorem v7{α:Sort _}{a:α}{q:Prop}:a=a\/q:=.inl rfl
noncomputable abbrev FP:PySem.W.OpenLaw:=VD
theorem wsA:PySem.W.namesResolve FP.row.prog=N:=by ext
theorem wsB:PySem.W.noRoadLSs {strict:= !(importedModules FP.row.prog.main.body).all PySem.W.cThrough.contains,foot:=ai,bare:=(["vars", "dir", "locals"]:List aP).filter (PySem.W.readsOut FP.row.prog FP.row.prog.main.body)} FP.row.prog.main.body=N:=by ext
theorem wsC:PySem.W.namesMeet FP.row.prog FP.row.prog.main.body (λ_ n=>PySem.W.attrL n)=N:=by ext
theorem wsD:UR FP.row.prog=N:=by
 delta UR
 rw[wsA,wsB,wsC];ext
theorem wsE:FP.row.partSaid=N:=by
 delta abu
 rw[wsD];ext
theorem t1:FP.wellSaid=N:=by
 delta abx abw
 rw[wsE];ext
section
section
variable{f9 aO W X gh iP A B aS a0:Sort _}{G:Prop}
theorem eX{P Q:Prop}(h:P/\Q)(k:P->Q->G):G:=k h.1 h.2
theorem dG{P:f9->Prop}(h:∃x,P x)(k:∀x,P x->G):G:=h.elim λx i=>k x i
theorem hx{P Q aM:Prop}(h:P/\Q/\aM)(k:P->Q->aM->G):G:=eX h.2 (k h.1)
theorem Mk{P:Prop}{Q:f9->Prop}(h:P/\∃x,Q x)(k:P->∀x,Q x->G):G:=dG h.2 (k h.1)
theorem bh{P Q:f9->Prop}(h:∃x,P x/\Q x)(k:∀x,P x->Q x->G):G:=h.elim λx i=>eX i (k x)
theorem ji{P:f9->aO->Prop}(h:∃x y,P x y)(k:∀x y,P x y->G):G:=h.elim λx i=>dG i (k x)
theorem iM{P Q aM S:Prop}(h:P/\Q/\aM/\S)(k:P->Q->aM->S->G):G:=hx h.2 (k h.1)
theorem iN{P:Prop}{Q aM:f9->Prop}(h:P/\∃x,Q x/\aM x)(k:P->∀x,Q x->aM x->G):G:=bh h.2 (k h.1)
theorem gH{P Q aM:f9->Prop}(h:∃x,P x/\Q x/\aM x)(k:∀x,P x->Q x->aM x->G):G:=h.elim λx i=>hx i (k x)
theorem eQ{P Q:f9->aO->Prop}(h:∃x y,P x y/\Q x y)(k:∀x y,P x y->Q x y->G):G:=h.elim λx i=>bh i (k x)
theorem je{P Q aM S T:Prop}(h:P/\Q/\aM/\S/\T)(k:P->Q->aM->S->T->G):G:=iM h.2 (k h.1)
theorem oU{P Q:Prop}{aM S:f9->Prop}(h:P/\Q/\∃x,aM x/\S x)(k:P->Q->∀x,aM x->S x->G):G:=iN h.2 (k h.1)
theorem oW{P:Prop}{Q aM S:f9->Prop}(h:P/\∃x,Q x/\aM x/\S x)(k:P->∀x,Q x->aM x->S x->G):G:=gH h.2 (k h.1)
theorem FQ{P:Prop}{Q aM:f9->aO->Prop}(h:P/\∃x y,Q x y/\aM x y)(k:P->∀x y,Q x y->aM x y->G):G:=eQ h.2 (k h.1)
theorem lZ{P Q aM S:f9->Prop}(h:∃x,P x/\Q x/\aM x/\S x)(k:∀x,P x->Q x->aM x->S x->G):G:=h.elim λx i=>iM i (k x)
theorem QG{P Q:f9->Prop}{aM:f9->aO->Prop}(h:∃x,P x/\Q x/\∃y,aM x y)(k:∀x,P x->Q x->∀y,aM x y->G):G:=h.elim λx i=>Mk i.2 (k x i.1)
theorem jy{P Q aM:f9->aO->Prop}(h:∃x y,P x y/\Q x y/\aM x y)(k:∀x y,P x y->Q x y->aM x y->G):G:=h.elim λx i=>gH i (k x)
theorem eY{P Q:f9->aO->W->Prop}(h:∃x y z,P x y z/\Q x y z)(k:∀x y z,P x y z->Q x y z->G):G:=h.elim λx i=>eQ i (k x)
theorem yH{P Q:Prop}{aM S:f9->aO->Prop}(h:P/\Q/\∃x y,aM x y/\S x y)(k:P->Q->∀x y,aM x y->S x y->G):G:=FQ h.2 (k h.1)
theorem tH{P Q aM:f9->aO->W->Prop}(h:∃x y z,P x y z/\Q x y z/\aM x y z)(k:∀x y z,P x y z->Q x y z->aM x y z->G):G:=h.elim λx i=>jy i (k x)
theorem FT{P:Prop}{Q aM S T:f9->aO->Prop}(h:P/\∃x y,Q x y/\aM x y/\S x y/\T x y)(k:P->∀x y,Q x y->aM x y->S x y->T x y->G):G:=h.2.elim λx i=>lZ i (k h.1 x)
theorem l0{P Q aM S T:f9->aO->Prop}(h:∃x y,P x y/\Q x y/\aM x y/\S x y/\T x y)(k:∀x y,P x y->Q x y->aM x y->S x y->T x y->G):G:=h.elim λx i=>i.elim λy j=>je j (k x y)
theorem gI{P Q aM S:f9->aO->W->Prop}(h:∃x y z,P x y z/\Q x y z/\aM x y z/\S x y z)(k:∀x y z,P x y z->Q x y z->aM x y z->S x y z->G):G:=h.elim λx i=>i.elim λy j=>lZ j (k x y)
theorem Bl{P Q aM:f9->aO->W->X->Prop}(h:∃x y z u,P x y z u/\Q x y z u/\aM x y z u)(k:∀x y z u,P x y z u->Q x y z u->aM x y z u->G):G:=h.elim λx i=>tH i (k x)
theorem dU{P Q aM S T cB I iT:Prop}(h:P/\Q/\aM/\S/\T/\cB/\I/\iT)(k:P->Q->aM->S->T->cB->I->iT->G):G:=je h.2.2.2 (k h.1 h.2.1 h.2.2.1)
theorem Cs{P Q aM S T cB:f9->aO->Prop}(h:∃x y,P x y/\Q x y/\aM x y/\S x y/\T x y/\cB x y)(k:∀x y,P x y->Q x y->aM x y->S x y->T x y->cB x y->G):G:=h.elim λx i=>i.elim λy j=>je j.2 (k x y j.1)
theorem uy{P Q aM S T:f9->aO->W->Prop}(h:∃x y z,P x y z/\Q x y z/\aM x y z/\S x y z/\T x y z)(k:∀x y z,P x y z->Q x y z->aM x y z->S x y z->T x y z->G):G:=h.elim λx i=>l0 i (k x)
theorem gv{P Q aM S:f9->aO->W->X->Prop}(h:∃x y z u,P x y z u/\Q x y z u/\aM x y z u/\S x y z u)(k:∀x y z u,P x y z u->Q x y z u->aM x y z u->S x y z u->G):G:=h.elim λx i=>gI i (k x)
theorem vt{P Q aM S T cB I:f9->aO->Prop}(h:∃x y,P x y/\Q x y/\aM x y/\S x y/\T x y/\cB x y/\I x y)(k:∀x y,P x y->Q x y->aM x y->S x y->T x y->cB x y->I x y->G):G:=h.elim λx i=>i.elim λy j=>je j.2.2 (k x y j.1 j.2.1)
theorem rX{P Q aM S T cB:f9->aO->W->Prop}(h:∃x y z,P x y z/\Q x y z/\aM x y z/\S x y z/\T x y z/\cB x y z)(k:∀x y z,P x y z->Q x y z->aM x y z->S x y z->T x y z->cB x y z->G):G:=h.elim λx i=>Cs i (k x)
theorem fO{P Q aM S T:f9->aO->W->X->Prop}(h:∃x y z u,P x y z u/\Q x y z u/\aM x y z u/\S x y z u/\T x y z u)(k:∀x y z u,P x y z u->Q x y z u->aM x y z u->S x y z u->T x y z u->G):G:=h.elim λx i=>uy i (k x)
theorem FU{P:f9->aO->W->X->gh->iP->A->B->Prop}(h:∃x y z u v w a b,P x y z u v w a b)(k:∀x y z u v w a b,P x y z u v w a b->G):G:=h.elim λx i=>i.elim λy j=>j.elim λz l=>l.elim λu m=>m.elim λv n=>n.elim λw o=>ji o (k x y z u v w)
theorem wA{P Q aM S T:f9->aO->W->X->gh->Prop}(h:∃x y z u v,P x y z u v/\Q x y z u v/\aM x y z u v/\S x y z u v/\T x y z u v)(k:∀x y z u v,P x y z u v->Q x y z u v->aM x y z u v->S x y z u v->T x y z u v->G):G:=h.elim λx i=>fO i (k x)
theorem km{P Q aM S T cB I iT bp:f9->aO->W->X->gh->iP->Prop}(h:∃x y z u v w,P x y z u v w/\Q x y z u v w/\aM x y z u v w/\S x y z u v w/\T x y z u v w/\cB x y z u v w/\I x y z u v w/\iT x y z u v w/\bp x y z u v w)(k:∀x y z u v w,P x y z u v w->Q x y z u v w->aM x y z u v w->S x y z u v w->T x y z u v w->cB x y z u v w->I x y z u v w->iT x y z u v w->bp x y z u v w->G):G:=h.elim λx i=>i.elim λy j=>j.elim λz l=>l.elim λu m=>m.elim λv n=>n.elim λw o=>dU o.2 (k x y z u v w o.1)
end
section
variable{f9 aO W X gh iP:Sort _}
theorem gS{P Q aM:Prop}(a:P)(b:Q)(c:aM):P/\Q/\aM:=⟨a,b,c⟩
theorem rO{P Q aM S:Prop}(a:P)(b:Q)(c:aM)(d:S):P/\Q/\aM/\S:=⟨a,b,c,d⟩
theorem XZ{P Q aM S T:Prop}(a:P)(b:Q)(c:aM)(d:S)(e:T):P/\Q/\aM/\S/\T:=⟨a,b,c,d,e⟩
theorem DN{P:f9->Prop}(x:f9)(a:P x):∃x,P x:=⟨x,a⟩
theorem ct{P Q:f9->Prop}(x:f9)(a:P x)(b:Q x):∃x,P x/\Q x:=⟨x,a,b⟩
theorem kH{P Q aM:f9->Prop}(x:f9)(a:P x)(b:Q x)(c:aM x):∃x,P x/\Q x/\aM x:=⟨x,a,b,c⟩
theorem wB{P Q aM S:f9->Prop}(x:f9)(a:P x)(b:Q x)(c:aM x)(d:S x):∃x,P x/\Q x/\aM x/\S x:=⟨x,a,b,c,d⟩
theorem qB{P:f9->aO->Prop}(x:f9)(y:aO)(a:P x y):∃x y,P x y:=⟨x,y,a⟩
theorem kI{P Q:f9->aO->Prop}(x:f9)(y:aO)(a:P x y)(b:Q x y):∃x y,P x y/\Q x y:=⟨x,y,a,b⟩
theorem N6{P Q aM:f9->aO->Prop}(x:f9)(y:aO)(a:P x y)(b:Q x y)(c:aM x y):∃x y,P x y/\Q x y/\aM x y:=⟨x,y,a,b,c⟩
theorem Ml{P Q aM S:f9->aO->Prop}(x:f9)(y:aO)(a:P x y)(b:Q x y)(c:aM x y)(d:S x y):∃x y,P x y/\Q x y/\aM x y/\S x y:=⟨x,y,a,b,c,d⟩
theorem ZX{P Q aM S T:f9->aO->Prop}(x:f9)(y:aO)(a:P x y)(b:Q x y)(c:aM x y)(d:S x y)(e:T x y):∃x y,P x y/\Q x y/\aM x y/\S x y/\T x y:=⟨x,y,a,b,c,d,e⟩
theorem agK{P Q aM S T cB:f9->aO->Prop}(x:f9)(y:aO)(a:P x y)(b:Q x y)(c:aM x y)(d:S x y)(e:T x y)(f:cB x y):∃x y,P x y/\Q x y/\aM x y/\S x y/\T x y/\cB x y:=⟨x,y,a,b,c,d,e,f⟩
theorem Bm{P Q:f9->aO->W->Prop}(x:f9)(y:aO)(z:W)(a:P x y z)(b:Q x y z):∃x y z,P x y z/\Q x y z:=⟨x,y,z,a,b⟩
theorem DO{P Q aM S:f9->aO->W->Prop}(x:f9)(y:aO)(z:W)(a:P x y z)(b:Q x y z)(c:aM x y z)(d:S x y z):∃x y z,P x y z/\Q x y z/\aM x y z/\S x y z:=⟨x,y,z,a,b,c,d⟩
theorem agL{P Q aM S T cB:f9->aO->W->Prop}(x:f9)(y:aO)(z:W)(a:P x y z)(b:Q x y z)(c:aM x y z)(d:S x y z)(e:T x y z)(f:cB x y z):∃x y z,P x y z/\Q x y z/\aM x y z/\S x y z/\T x y z/\cB x y z:=⟨x,y,z,a,b,c,d,e,f⟩
theorem aeK{P Q:f9->aO->W->X->Prop}(x:f9)(y:aO)(z:W)(u:X)(a:P x y z u)(b:Q x y z u):∃x y z u,P x y z u/\Q x y z u:=⟨x,y,z,u,a,b⟩
theorem aeL{P Q aM:f9->aO->W->X->Prop}(x:f9)(y:aO)(z:W)(u:X)(a:P x y z u)(b:Q x y z u)(c:aM x y z u):∃x y z u,P x y z u/\Q x y z u/\aM x y z u:=⟨x,y,z,u,a,b,c⟩
theorem DP{P Q aM S:f9->aO->W->X->Prop}(x:f9)(y:aO)(z:W)(u:X)(a:P x y z u)(b:Q x y z u)(c:aM x y z u)(d:S x y z u):∃x y z u,P x y z u/\Q x y z u/\aM x y z u/\S x y z u:=⟨x,y,z,u,a,b,c,d⟩
theorem ZY{P Q aM S T:f9->aO->W->X->Prop}(x:f9)(y:aO)(z:W)(u:X)(a:P x y z u)(b:Q x y z u)(c:aM x y z u)(d:S x y z u)(e:T x y z u):∃x y z u,P x y z u/\Q x y z u/\aM x y z u/\S x y z u/\T x y z u:=⟨x,y,z,u,a,b,c,d,e⟩
theorem aeM{P Q aM S T cB:f9->aO->W->X->Prop}(x:f9)(y:aO)(z:W)(u:X)(a:P x y z u)(b:Q x y z u)(c:aM x y z u)(d:S x y z u)(e:T x y z u)(f:cB x y z u):∃x y z u,P x y z u/\Q x y z u/\aM x y z u/\S x y z u/\T x y z u/\cB x y z u:=⟨x,y,z,u,a,b,c,d,e,f⟩
theorem agM{P Q aM S T:f9->aO->W->X->gh->Prop}(x:f9)(y:aO)(z:W)(u:X)(v:gh)(a:P x y z u v)(b:Q x y z u v)(c:aM x y z u v)(d:S x y z u v)(e:T x y z u v):∃x y z u v,P x y z u v/\Q x y z u v/\aM x y z u v/\S x y z u v/\T x y z u v:=⟨x,y,z,u,v,a,b,c,d,e⟩
end
theorem Mm{l:List α}(h:l.length=n+1):∃a t,l=a::t/\t.length=n:=by
 cases l with
 |nil=>show nnZ h
 |cons a t=>show kI a t Z (VV h)
theorem ajo{P:List α->Prop}{l:List α}(h:l.length=1)(k:∀a,P [a]):P l:=eQ (Mm h) λa _ e h=>e▸TY h▸k a
theorem agN{P:List α->Prop}{l:List α}(h:l.length=2)(k:∀a b,P [a,b]):P l:=eQ (Mm h) λa _ e h=>e▸ajo (P:=λt=>P (a::t)) h (k a)
theorem abz{P:List α->Prop}{l:List α}(h:l.length=3)(k:∀a b c,P [a,b,c]):P l:=eQ (Mm h) λa _ e h=>e▸agN (P:=λt=>P (a::t)) h (k a)
theorem ajp{P:List α->Prop}{l:List α}(h:l.length=8)(k:∀a b c d e f g i,P [a,b,c,d,e,f,g,i]):P l:=
 eQ (Mm h) λa _ e1 h=>eQ (Mm h) λb _ e2 h=>eQ (Mm h) λc _ e3 h=>eQ (Mm h) λd _ e4 h=>eQ (Mm h) λe _ e5 h=>
 e1▸e2▸e3▸e4▸e5▸abz (P:=λt=>P (a::b::c::d::e::t)) h (k a b c d e)
theorem nj0(h:j<n):n - j=n - j - 1+1:=(Uo (Le h)).symm
theorem nj3{m:Nat}(h:n - j=m+1):n=j+(m+1):=by
 rcases UA j n with q|q
 .rw [<-h,Nat.add_sub_cancel' q]
 .rw [KS q]at h;show nnZ h
theorem nj1{m:Nat}(h:n - j=m+1):n - 1 - m=j:=by rw[nj3 h,E0,jK 1 m,sW]
theorem nj2{m:Nat}(h:n - j=m+1):n - (j+1)=m:=by rw[Nat.sub_succ,h];rfl
theorem nj6(h:j<n):n - j=n - 1 - j+1:=by rw[K9];show nj0 h
theorem zH{y a:α}{l:List α}{P:α->Prop}(h:y∈a::l)(p:P a)(q:y∈l->P y):P y:=(bu.mp h).elim (λe=>e▸p) q
theorem jT{y a:α}{P:α->Prop}(h:y∈[a])(p:P a):P y:=zH h p λx=>kJ x
theorem rY{y a b:α}{P:α->Prop}(h:y∈[a,b])(p:P a)(q:P b):P y:=zH h p λh=>jT h q
theorem Df{y a b c:α}{P:α->Prop}(h:y∈[a,b,c])(p:P a)(q:P b)(r:P c):P y:=zH h p λh=>rY h q r
theorem tI{y a b c d:α}{P:α->Prop}(h:y∈[a,b,c,d])(p:P a)(q:P b)(r:P c)(t:P d):P y:=zH h p λh=>Df h q r t
theorem Wb{y a b c d e:α}{P:α->Prop}(h:y∈[a,b,c,d,e])(p:P a)(q:P b)(r:P c)(t:P d)(u:P e):P y:=zH h p λh=>tI h q r t u
theorem agO{y a b c d e f:α}{P:α->Prop}(h:y∈[a,b,c,d,e,f])(p:P a)(q:P b)(r:P c)(t:P d)(u:P e)(v:P f):P y:=zH h p λh=>Wb h q r t u v
theorem Mn{x b:ab}(h1:x≠a)(h2:x≠b):x∉[a,b]:=gZ h1 (sJ h2)
theorem aeN{x b c:ab}(h1:x≠a)(h2:x≠b)(h3:x≠c):x∉[a,b,c]:=gZ h1 (Mn h2 h3)
theorem agP{x b c:ab}(h1:x≠a)(h2:x≠b)(h3:x≠c)(h4:x≠d):x∉[a,b,c,d]:=gZ h1 (aeN h2 h3 h4)
theorem agQ{x b c e:ab}(h1:x≠a)(h2:x≠b)(h3:x≠c)(h4:x≠d)(h5:x≠e):x∉[a,b,c,d,e]:=gZ h1 (agP h2 h3 h4 h5)
theorem vw{x:ab}{l:List ab}(h:x∉a::l):x≠a:=λq=>h (q▸cQ ..)
theorem Mo{x:ab}{l:List ab}(h:x∉a::l):x∉l:=λq=>h (dF _ q)
theorem agR{x:ab}{P:Prop}(h:x∉[a])(k:x≠a->P):P:=k (vw h)
theorem Dg{x b:ab}{P:Prop}(h:x∉[a,b])(k:x≠a->x≠b->P):P:=agR (Mo h) (k (vw h))
theorem FV{x b c:ab}{P:Prop}(h:x∉[a,b,c])(k:x≠a->x≠b->x≠c->P):P:=Dg (Mo h) (k (vw h))
theorem og{g:Prop}(h:∀G:Prop,(g->G)->G):g:=h g id
noncomputable def bY:List ab:=[1923,1934,1979,2007]
noncomputable def QH:Nat:=2016
noncomputable def tabObj(ps:Array aa):bj:={cls:=aA,data:=bH ps}
structure hJ(H:List ab)(h h':aN):Prop where
 keep:∀b o,b∉bY->h.get? b=O o->h'.get? b=O o
 tab:∀b,b∈bY->∀ps,h.get? b=O (tabObj ps)->∃more,h'.get? b=O (tabObj (ps++more))
 there:∀b o,h.get? b=O o->∃o',h'.get? b=O o'
 quiet:∀b o,b∈bY->b∉H->h.get? b=O o->h'.get? b=O o
theorem hJ.refl(h:aN):hJ H h h:=⟨λ_ _ _ e=>e,λ_ _ ps e=>⟨#[],e⟩,λ_ o e=>⟨o,e⟩,λ_ _ _ _ e=>e⟩
theorem hJ.trans{a b c:aN}(x:hJ H a b)(y:hJ H b c):hJ H a c where
 keep:=λd o hd e=>y.keep d o hd (x.keep d o hd e)
 tab:=λd hd ps e=>dG (x.tab d hd ps e) λm1 e1=>dG (y.tab d hd _ e1) λm2 e2=>⟨m1++m2,by rw[e2,U1]⟩
 there:=λd o e=>dG (x.there d o e) λo1 e1=>(y.there d o1 e1)
 quiet:=λd o hd ht e=>y.quiet d o hd ht (x.quiet d o hd ht e)
theorem hJ.of_keep(k:uh h h'):hJ H h h':=
 ⟨λb o _ e=>k b o e,λb _ ps e=>⟨#[],k b _ e⟩,λb o e=>⟨o,k b o e⟩,λb o _ _ e=>k b o e⟩
theorem hJ.push(h:aN)(o:bj):hJ H h (h.push o):=.of_keep (λ_ _ e=>a8 o e)
theorem hJ.new(x:hJ H h h'){b:ab}(e:h'.get? b=ai):h.get? b=ai:=by
 cases q:h.get? b with
 |none=>rfl
 |some o=>obtain⟨o',e'⟩:=x.there b o q;have e':=e▸e';ext
theorem bF(h:aN):h.get? h.objs.size=ai:=by
 cases q:h.get? h.objs.size with
 |none=>rfl
 |some o=>show((gx _) (cn q)).elim
theorem fi{b:ab}(h:QH<=b):b∉bY:=λD=>absurd ((by decide:∀x∈bY,x<QH) b D) (j5.mpr h)
def nW(a b:Array eS):Prop:=(∀(i:Nat) (x:eS),a[i]? =O x->b[i]? =O x)/\((∀x∈a,x.bare=N)->∀x∈b,x.bare=N)
theorem nW.refl(a:Array eS):nW a a:=⟨λ_ _ e=>e,λh=>h⟩
theorem nW.trans{a b c:Array eS}(y:nW b c)(x:nW a b):nW a c:=⟨λi z e=>y.1 i z (x.1 i z e),λh=>y.2 (x.2 h)⟩
theorem nW.of{a b:Array eS}(e:b=a):nW a b:=e▸ .refl a
structure dz(H:List ab)(s Y:ae):Prop where
 ext:hJ H s.heap Y.heap
 os:Y.os=s.os
 drawn:Y.drawn=s.drawn
 gens:Y.gens=s.gens
theorem dz.refl(s:ae):dz H s s:=⟨.refl _,rfl,rfl,rfl⟩
theorem dz.trans{a b c:ae}(x:dz H a b)(y:dz H b c):dz H a c:=⟨x.ext.trans y.ext,y.os.trans x.os,y.drawn.trans x.drawn,y.gens.trans x.gens⟩
theorem dz.toks(s:ae)(t:Nat):dz H s {s with toks:=t}:=⟨.refl _,rfl,rfl,rfl⟩
inductive AV where
 |none
 |bool(b:Bool)
 |int(i:Int)
 |list(K:List AV)
 |tuple(K:List AV)
 |clo(f:Nat)(ns:LN)(K:List AV)
 |ptr(v:aa)
 |on(u:aa)(x:AV)
open AV renaming ptr->aX,int->a9,list->bV,bool->fG,tuple->gr,none->tJ,clo->tK,on->Bn
theorem Bo{P:AV->Prop}{Q:List AV->Prop}(h1:P tJ)(h2:∀b,P (fG b))(h3:∀i,P (a9 i))(h4:∀u,P (aX u))(h5:∀u x,P x->P (Bn u x))(h6:∀K,Q K->P (bV K))(h7:∀K,Q K->P (gr K))(h8:∀f ns K,Q K->P (tK f ns K))(h9:Q [])(h10:∀x K,P x->Q K->Q (x::K)):(∀a,P a)/\∀l,Q l:=
 ⟨AV.rec (motive_1:=P) (motive_2:=Q) h1 h2 h3 h6 h7 h8 h4 h5 h9 h10,AV.rec_1 (motive_1:=P) (motive_2:=Q) h1 h2 h3 h6 h7 h8 h4 h5 h9 h10⟩
noncomputable def ZL:List String:=["script", "numbers", "level", "checks", "place", "data", "bits", "word", "message", "matrix", "picture", "spots", "right", "step", "i", "j",
 "sent", "words", "start", "bit", "top", "left", "wide", "high", "known", "free", "turn", "number", "amount", "back", "seen", "row",
 "power", "times", "rests", "root", "whole", "line", "now", "old", "size", "gap", "fault", "off", "factor", "grown", "found", "part", "places", "product", "amounts", "mended", "other", "logs", "powers", "a", "b", "before", "after", "here",
 "width", "height", "is_square", "corners", "finder_range", "offset", "sepoffset", "r", "is_micro", "stop", "col", "codewords", "version", "matrix_size", "inc", "idx", "codeword_length", "range_two", "vertical", "z", "upwards",
 "error", "buff", "to_binary", "ec_infos", "data_blocks", "error_blocks", "cw_four", "res", "remainder", "val", "length", "k", "block", "append_data_block", "append_error_block", "gen_log", "gen_exp", "ec_info", "num_error_words",
 "gen", "range_error_words", "len_data", "error_block", "coef", "lcoef", "n", "reserve_regions", "add_timing", "row_eight", "self", "iterable", "item", "obj", "objtype", ".0", "_cls", "num_blocks", "num_total", "num_data"]
def NM(i:Nat):aP:=match ZL[i]? with
 |some s=>aC s
 |none=>⟨#[2000000+i]⟩
abbrev Hx(L:c9)(x:Nat):Prop:=L.names.lookup (NM x)=O cZ\/L.names.lookup (NM x)=O dw
def Tp(h:aN):Prop:=∃o,h.get? QH=O o
def Gi(L:c9)(x:String):Prop:=L.names.lookup (aC x)=O kX
def Fs(e:aw)(J:cg):Prop:=∀x,D9 e J x=pure x
structure abA where
 name:aP
 qual:aP
 params:Eo
 body:List bT
 scope:c9
noncomputable def cS(i:Nat):bT:=match L6.main.body[i]? with|some s=>s|none=>Stmt.Pass ⟨0,0,0,0⟩
noncomputable def bo:bT->List bT
 |AY _ _ b _ _ _ _ _ _ _=>b
 |_=>[]
noncomputable def bg:bT->c9
 |AY _ _ _ _ _ _ s _ _ _=>s
 |_=>{kind:=d0,names:=[],isGenerator:=af,isCoroutine:=af,more:=[]}
noncomputable def fo:bT->Eo
 |AY _ p _ _ _ _ _ _ _ _=>p
 |_=>{posonlyargs:=[],args:=[],vararg:=ai,kwonlyargs:=[],kw_defaults:=[],kwarg:=ai,defaults:=[]}
noncomputable def aeO:aw->aw
 |bI _ (e::_) _ _=>e
 |e=>e
noncomputable def bc(l:List bT)(i:Nat):bT:=match l[i]? with|some s=>s|none=>Stmt.Pass ⟨0,0,0,0⟩
def ZZ:bT:=cS 26
def dy:List bT:=bo ZZ
def uz:aw->c9
 |lM _ _ s _=>s
 |_=>bg ZZ
def lH:c9:=bg ZZ
def QI:bT:=bc dy 4
noncomputable def Z0:aP:=aC "_law_mended" ++ ".<locals>."
def ST:Nat->abA:=λ_=>⟨NM 33,Z0++NM 33,fo QI,bo QI,bg QI⟩
noncomputable abbrev prog:u5:=L6
def ajq{A B aS a0 a6:Prop}{X:fz->Prop}(_:(A/\B/\(aS/\a0/\∀w,X w))=a6):fz->Prop:=X
def Gw:fz->Prop:=ajq (a6:=VD.row.Holds) Z
theorem FW:Nonempty fz:=⟨⟨λ_ _=>0,{strHash:=λ_=>0,shareClass:=λ_=>0,mergeTok:=id,idOf:=λ_=>0,idOfShared:=λ_ _=>0,followText:=λ_=>af,idOfImm:=λ_=>0}⟩⟩
theorem ajr:Nonempty bS:=FW.elim λw=>⟨w.params⟩
theorem ajs:Nonempty ae:=⟨{}⟩
theorem ajt:Nonempty ck:=⟨{}⟩
theorem aju:Nonempty fy:=⟨{}⟩
noncomputable def Iu{α:Type}(P:α->Prop)(n:[Nonempty ae]->[Nonempty ck]->[Nonempty bS]->[Nonempty fy]->Nonempty α):α:= @VA α (@n ajs ajt ajr aju) λc=>¬P c
theorem hen{P:α->Prop}{n:_}(h:P (Iu P n))(x:α):P x:=Bb λk=> @Vz α (λc=>¬P c) ⟨x,k⟩ h
noncomputable def w:fz:= @VA fz FW λw=>¬Gw w
theorem QJ(h:Gw w):∀v,Gw v:=λv=>Bb λn=> @Vz fz (λw=>¬Gw w) ⟨v,n⟩ h
noncomputable def br(vs:List aa)(n:Nat):bj:={cls:=ak "list",data:=bU vs.toArray n}
noncomputable def cU(vs:List aa)(n:Nat):bj:={cls:=ak "tuple",data:=bU vs.toArray n}
theorem mw{c P:ab}(x:h.IsCode c P ps):c≠P/\∃oc oP,h.get? c=O oc/\h.get? P=O oP/\oP.data=bH ps/\∀h':aN,h'.get? c=O oc->h'.get? P=O oP->h'.IsCode c P ps:=by show og λgG kG=>?_;obtain⟨o,vs,file,tf,flags,tg,inF,QK,tt,op,i1,i2,i3,i4,i5,i6,i7,i8,i9,i10,i11⟩:=x;show kG ?_;clear kG gG;show⟨i11,o,op,i1,i8,i9,λh' e1 e2=>⟨o,vs,file,tf,flags,tg,inF,QK,tt,op,e1,i2,i3,i4,i5,i6,i7,e2,i9,i10,i11⟩⟩
theorem N7{c P:ab}(x:h.IsCode c P ps):∃o,h.get? c=O o:=FQ (mw x) λ_ oc _ e _=>⟨oc,e⟩
theorem Bq{c P:ab}(x:h.IsCode c P ps):∃o,h.get? P=O o:=(mw x).2.elim λ_ i=>i.elim λoP j=>⟨oP,j.2.1⟩
theorem I1{c P:ab}(x:h.IsCode c P ps):c≠P:=(mw x).1
def ajv(S:abA)(fd:bQ):Prop:=
 fd.qualname=S.qual/\
 fd.params=S.params/\
 fd.body=lj S.body/\
 fd.scope=S.scope/\
 fd.globals=ef/\
 fd.builtins=fY/\
 fd.defaults=aA/\
 fd.kwdefaults=aA
def Mp(S:abA)(h:aN)(fd:bQ):Prop:=∃c oc ws t,fd.code=R c/\c∉bY/\h.get? c=O oc/\oc.data=bH ws/\ws[1]? =O (cI S.qual t)
def Mq(h:aN)(fd:bQ)(x:Nat)(c:Option ab)(v:Option aa):Prop:=∃c' v',c=O c'/\v=O v'/\fd.closure.lookup (NM x)=O c'/\c'∉bY/\h.IsCell c' (O v')
def vx(h:aN)(ns:LN)(fd:bQ)(cs:List ab)(vs:List aa):Prop:=(∀(i:Nat) (x:Nat),ns[i]? =O x->Mq h fd x cs[i]? vs[i]?)/\cs.length=ns.length/\vs.length=ns.length
mutual
def bR(h:aN):AV->aa->List ab->Prop
 |tJ,v,F=>v=aA/\F=[]
 |fG b,v,F=>v=dB b/\F=[]
 |a9 i,v,F=>(∃t,v=ah i t)/\F=[]
 |aX u,v,F=>v=u/\F=[]
 |Bn u x,v,F=>v=u/\bR h x v F
 |bV K,v,F=>∃a vs n F',v=R a/\a∉bY/\h.get? a=O (br vs n)/\bC h K vs F'/\F=a::F'
 |gr K,v,F=>∃a vs n,v=R a/\a∉bY/\h.get? a=O (cU vs n)/\bC h K vs F
 |tK f ns K,v,F=>∃a o fd cs vs F',v=R a/\a∉bY/\h.get? a=O o/\o.data=qq fd/\ajv (ST f) fd/\Mp (ST f) h fd/\vx h ns fd cs vs/\bC h K vs F'/\F=cs++F'
def bC(h:aN):List AV->List aa->List ab->Prop
 | [],vs,F=>vs=[]/\F=[]
 |x::K,vs,F=>∃v tL F1 F2,vs=v::tL/\bR h x v F1/\bC h K tL F2/\F=F1++F2
end
theorem bC.nil:bC h [] [] []:=
 ⟨rfl,rfl⟩
theorem eg(F1 F2:List ab){x:AV}{K:List AV}(r:bR h x v F1)(q:bC h K vs F2):bC h (x::K) (v::vs) (F1++F2):=
 (DP v vs F1 F2 Z r q Z)
theorem rZ(F':List ab){K:List AV}(ht:a∉bY)(ho:h.get? a=O (br vs n))(q:bC h K vs F'):bR h (bV K) (R a) (a::F'):=
 ZY a vs n F' Z ht ho q Z
theorem bR.FX{u:aa}{P:aa->Prop}(r:bR h (aX u) v F)(k:P u):P v:=
 r.1▸k
theorem iQ{K:List AV}{P:Prop}(r:bR h (bV K) v F)(k:∀a vs n F',v=R a->a∉bY->h.get? a=O (br vs n)->bC h K vs F'->F=a::F'->P):P:=
 fO r λa vs n F' e1 e2 e3 e4 e5=>(k a vs n F' e1 e2 e3 e4 e5)
theorem kK{x:AV}{K:List AV}{P:Prop}(r:bC h (x::K) vs F)(k:∀v tL F1 F2,vs=v::tL->bR h x v F1->bC h K tL F2->F=F1++F2->P):P:=
 gv r λv tL F1 F2 e1 e2 e3 e4=>(k v tL F1 F2 e1 e2 e3 e4)
theorem jN{x:AV}{K:List AV}{P:List aa->Prop}(r:bC h (x::K) vs F)(k:∀v tL F1 F2,bR h x v F1->bC h K tL F2->F=F1++F2->P (v::tL)):P vs:=gv r λv tL F1 F2 dX e2 e3 e4=>dX▸k v tL F1 F2 e2 e3 e4
theorem vA{P:List aa->Prop}(r:bC h [] vs F)(k:F=[]->P []):P vs:=
 r.1▸k r.2
theorem nG{x:AV}{P:List aa->Prop}(r:bC h [x] vs F)(k:∀v F1,bR h x v F1->P [v]):P vs:=
 jN r λv _ F1 _ a b _=>vA (P:=λl=>P (v::l)) b λ_=>k v F1 a
theorem nH{x y:AV}{P:List aa->Prop}(r:bC h [x,y] vs F)(k:∀v u F1 F2,bR h x v F1->bR h y u F2->P [v,u]):P vs:=
 jN r λv _ F1 _ a b _=>nG (P:=λl=>P (v::l)) b λu F2 c=>k v u F1 F2 a c
theorem Br{x y z:AV}{P:List aa->Prop}(r:bC h [x,y,z] vs F)(k:∀v u q F1 F2 F3,bR h x v F1->bR h y u F2->bR h z q F3->P [v,u,q]):P vs:=
 jN r λv _ F1 _ a b _=>nH (P:=λl=>P (v::l)) b λu q F2 F3 c d=>k v u q F1 F2 F3 a c d
theorem bR.zI{i:Int}{P:aa->Prop}(r:bR h (a9 i) v F)(k:∀t,P (ah i t)):P v:=by obtain⟨⟨t,rfl⟩,_⟩:=r;show k t
theorem nJ{i:Int}{P:List aa->Prop}(r:bC h [a9 i] vs F)(k:∀t,P [ah i t]):P vs:=
 nG r λ_ _ a=>bR.zI (P:=λv=>P [v]) a k
theorem vB{u:aa}{P:List aa->Prop}(r:bC h [aX u] vs F)(k:P [u]):P vs:=
 nG r λ_ _ a=>bR.FX (P:=λv=>P [v]) a k
theorem fP{K:List AV}{P:aa->Prop}(r:bR h (bV K) v F)(k:∀a vs n F',a∉bY->h.get? a=O (br vs n)->bC h K vs F'->F=a::F'->P (R a)):P v:=fO r λa vs n F' dX e2 e3 e4 e5=>dX▸k a vs n F' e2 e3 e4 e5
theorem pS{K:List AV}{P:aa->Prop}(r:bR h (gr K) v F)(k:∀a vs n,a∉bY->h.get? a=O (cU vs n)->bC h K vs F->P (R a)):P v:=gI r λa vs n dX e2 e3 e4=>dX▸k a vs n e2 e3 e4
def Cr(h:aN)(b:ab):Prop:=∃o,h.get? b=O o/\((o.cls=ak "list" /\∃vs n,o.data=bU vs n)\/(∃es n,o.data=eJ es n)\/∃v,o.data=oO v)
structure Mod(W:List ab)(h h':aN):Prop where
 keep:∀b o,b∉W->b∉bY->h.get? b=O o->h'.get? b=O o
 tab:∀b,b∈bY->∀ps,h.get? b=O (tabObj ps)->∃more,h'.get? b=O (tabObj (ps++more))
 there:∀b o,h.get? b=O o->∃o',h'.get? b=O o'
theorem Mod.refl(W:List ab)(h:aN):Mod W h h:=⟨λ_ _ _ _ e=>e,λ_ _ ps e=>⟨#[],e⟩,λ_ o e=>⟨o,e⟩⟩
theorem hJ.mod(W:List ab)(x:hJ H h h'):Mod W h h':=⟨λb o _ ht e=>x.keep b o ht e,x.tab,x.there⟩
theorem Mod.trans{W:List ab}{a b c:aN}(x:Mod W a b)(y:Mod W' b c)(hw:∀d,d∈W'->d∈W\/a.get? d=ai):Mod W a c where
 keep:=λd o hd ht e=>y.keep d o (λh=>by
  rcases hw d h with h|h
  .show hd h
  .have e:=h▸e;ext) ht (x.keep d o hd ht e)
 tab:=λd hd ps e=>dG (x.tab d hd ps e) λm1 e1=>dG (y.tab d hd _ e1) λm2 e2=>⟨m1++m2,by rw[e2,U1]⟩
 there:=λd o e=>dG (x.there d o e) λo1 e1=>(y.there d o1 e1)
section
variable{W:List ab}
def kM(h:aN)(b:ab):Prop:=∃o,h.get? b=O o/\((∃ws,o.data=bH ws/\∀x t,ws[1]? ≠O (cI x t))\/(∃es n,o.data=eJ es n)\/(∃bs n,o.data=qo bs n)\/o.data=te)
noncomputable def wC:Data->Nat
 |bU ..=>0
 |eJ ..=>1
 |qo ..=>2
 |te=>3
 |oO ..=>4
 |bH ..=>5
 |_=>6
theorem Cr.tag{b:ab}(x:Cr h b)(e:h.get? b=O o):(o.cls=ak "list" /\wC o.data=0)\/wC o.data=1\/wC o.data=4:=bh x λo' e' k=>aV (e.symm.trans e')▸k.imp (λk=>⟨k.1,ji k.2 λ_ _ q=>congrArg wC q⟩) λk=>k.imp (λqQ=>ji qQ λ_ _ q=>congrArg wC q) λqQ=>dG qQ λ_ q=>congrArg wC q
theorem kM.tag{b:ab}(x:kM h b)(e:h.get? b=O o):(∃ws,o.data=bH ws/\∀x t,ws[1]? ≠O (cI x t))\/wC o.data=1\/wC o.data=2\/wC o.data=3:=bh x λo' e' k=>aV (e.symm.trans e')▸k.imp id λk=>k.imp (λqQ=>ji qQ λ_ _ q=>congrArg wC q) λk=>k.imp (λqQ=>ji qQ λ_ _ q=>congrArg wC q) λq=>congrArg wC q
theorem Mr(k:Nat){b:ab}(x:Cr h b\/kM h b)(e:h.get? b=O o)(hk:wC o.data=k)(h0:k=0->o.cls≠ak "list")(h5:∀ws,o.data=bH ws->∃x t,ws[1]? =O (cI x t))(hn:k≠1/\k≠2/\k≠3/\k≠4):False:=by
 subst hk;rcases x with x|x
 .rcases x.tag e with q|q|q
  .show h0 q.2 q.1
  .show hn.1 q
  .show hn.2.2.2 q
 .rcases x.tag e with⟨ws,q,r⟩|q|q|q
  .show ji (h5 ws q) λy t z=>(r y t z)
  .show hn.1 q
  .show hn.2.1 q
  .show hn.2.2.1 q
theorem Bt{d:Data}(e:wC d=k)(hk:k≠5):∀ws,d=bH ws->∃x t,ws[1]? =O (cI x t):=λ_ q=>absurd (by show e▸q.symm▸?_;rfl) hk
theorem Mp.off{S:abA}(keep:∀b o,b∉W->b∉bY->h.get? b=O o->h'.get? b=O o)(hm:∀b∈W,Cr h b\/kM h b)(x:Mp S h fd):Mp S h' fd:=by show fO x λc oc ws t c1 c2 c3 c4 c5=>((ZY c oc ws t c1 c2 (keep c _ (λhw=>?_) c2 c3) c4 c5));show Mr 5 (hm c hw) c3 (congrArg wC c4) (λq=>nn0 q) (λws' q=>qB _ _ (Data.fields.inj (q.symm.trans c4)▸c5)) aK
theorem vx.off{cs:List ab}(keep:∀b o,b∉W->b∉bY->h.get? b=O o->h'.get? b=O o)(hF:∀b∈cs,b∉W)(x:vx h ns fd cs vs):vx h' ns fd cs vs:=
 ⟨λi y hy=>l0 (x.1 i y hy) λc' v' g1 g2 g3 g4 g=>ZX c' v' g1 g2 g3 g4 (bh g λo' g5 g6=>ct o' (keep c' _ (hF c' (cW g1)) g4 g5) g6),x.2⟩
theorem I3(keep:∀b o,b∉W->b∉bY->h.get? b=O o->h'.get? b=O o)(hm:∀b∈W,Cr h b\/kM h b):(∀(av:AV) (v:aa) (F:List ab),(∀b∈F,b∉W)->bR h av v F->bR h' av v F)/\
 ∀(K:List AV) (vs:List aa) (F:List ab),(∀b∈F,b∉W)->bC h K vs F->bC h' K vs F:=by
 show Bo (λ_ _ _ r=>r) (λ_ _ _ _ r=>r) (λ_ _ _ _ r=>r) (λ_ _ _ _ r=>r) (λu x ih v F hF r=>⟨r.1,ih v F hF r.2⟩) (λK ih v F hF r=>?_) (λK ih v F hF r=>?_) (λf ns K ih v F hF r=>?_) (λ_ _ _ r=>r) (λy ys i1 i2 vs F hF r=>?_)
 .show fO r λa vs n F' e1 e2 e3 e4 e5=>?_;subst e5;show ZY a vs n F' e1 e2 (keep a _ (hF a au) e2 e3) (ih vs F' (λb D=>hF b au) e4) Z
 .show gI r λa vs n e1 e2 e3 e4=>(DO a vs n e1 e2 (keep a _ (λhw=>?_) e2 e3) (ih vs F hF e4));show Mr 0 (hm a hw) e3 Z (λ_ q=>absurd (Value.type.inj q) aK) (Bt (k:=0) Z (uf Z)) aK
 .show km r λa o fd cs vs F' e1 e2 e3 e4 p c q e5 e6=>have hF1:=λb D=>hF b (e6▸D);⟨a,o,fd,cs,vs,F',e1,e2,keep a _ (λhw=>?_) e2 e3,e4,p,c.off keep hm,q.off keep (λb D=>hF1 b (dc _ D)),ih vs F' (λb D=>hF1 b (ew _ D)) e5,e6⟩;show Mr 6 (hm a hw) e3 (congrArg wC e4) (λq=>nomatch q) (Bt (k:=6) (congrArg wC e4) (uf Z)) aK
 .show gv r λv tL F1 F2 e1 e2 e3 e4=>?_;subst e4;show DP v tL F1 F2 e1 (i1 v F1 (λb D=>hF b au) e2) (i2 tL F2 (λb D=>hF b au) e3) Z
theorem bR.off(keep:∀b o,b∉W->b∉bY->h.get? b=O o->h'.get? b=O o)(hm:∀b∈W,Cr h b\/kM h b):∀(av:AV) (v:aa) (F:List ab),(∀b∈F,b∉W)->bR h av v F->bR h' av v F:=(I3 keep hm).1
theorem bC.off(keep:∀b o,b∉W->b∉bY->h.get? b=O o->h'.get? b=O o)(hm:∀b∈W,Cr h b\/kM h b):∀(K:List AV) (vs:List aa) (F:List ab),(∀b∈F,b∉W)->bC h K vs F->bC h' K vs F:=(I3 keep hm).2
theorem bR.mod(x:Mod W h h')(hm:∀b∈W,Cr h b)(av:AV)(v:aa)(F:List ab)(hF:∀b∈F,b∉W)(r:bR h av v F):bR h' av v F:=
 bR.off x.keep (λb D=>ao (hm b D)) av v F hF r
theorem bC.mod(x:Mod W h h')(hm:∀b∈W,Cr h b)(av:List AV)(v:List aa)(F:List ab)(hF:∀b∈F,b∉W)(r:bC h av v F):bC h' av v F:=
 bC.off x.keep (λb D=>ao (hm b D)) av v F hF r
theorem bR.ext{av:AV}(x:hJ H h h')(r:bR h av v F):bR h' av v F:=
 bR.mod (x.mod []) (zk) av v F (λ_ _ D=>kJ D) r
theorem bC.ext{av:List AV}{v:List aa}(x:hJ H h h')(r:bC h av v F):bC h' av v F:=
 bC.mod (x.mod []) (zk) av v F (λ_ _ D=>kJ D) r
end
end
variable{av:AV}{avs K ys:List AV}
open AV renaming ptr->aX,int->a9,list->bV,bool->fG,tuple->gr,none->tJ,clo->tK,on->Bn
section
open PySem.W
noncomputable def Ms:bT->List bT
 |Stmt.ClassDef _ _ _ b _ _ _ _ _ _ _=>b
 |_=>[]
noncomputable def mL(fd:bQ):bj:={cls:=ak "function",data:=qq fd}
noncomputable def kF(P:bS)(x:String)(t:aW)(v:aa):oy:={hash:=PyData.keyHash P (aC x),key:=cI (aC x) t,val:=v}
def iD(P:bS)(t:Nat->aW)(f:Nat->bQ):mr:=[
 (2002,{cls:=ak "type",data:=Lq {name:=aC "Buffer",bases:=[ak "object"],mro:=[R 2002,ak "object"],ns:=2001,qualname:=aC "Buffer",hasDict:=af,slotNames:=[aC "_data"]},slots:=#[ai,ai,O (cI (aC "Buffer") (t 0)),O (cI (aC "Buffer") (t 1)),O (bx "object.__new__"),O (dB af)]}),
 (2001,{cls:=ak "dict",data:=eJ #[kF P "__module__" (t 2) (cI (aC "segno.encoder") (t 3)),kF P "__firstlineno__" (t 4) (ah 246 (t 5)),
  kF P "__doc__" (t 6) (cI (aC "Wraps a :cls:`bytearray` and provides some useful methods to add bits.\n    ") (t 7)),kF P "__slots__" (t 8) (R 1947),kF P "__init__" (t 9) (R 1956),kF P "extend" (t 10) (R 1963),
  kF P "append_bits" (t 11) (R 1970),kF P "getbits" (t 12) (R 1977),kF P "toints" (t 13) (R 1984),kF P "__len__" (t 14) (R 1991),kF P "__getitem__" (t 15) (R 1998),kF P "__static_attributes__" (t 16) (R 1999),kF P "_data" (t 17) (R 2003)] 2}),
 (2003,{cls:=ak "member_descriptor",data:=bH #[cI (aC "_data") (t 18),R 2002,bx "proto.slot",bx "proto.slot#set",ah 0 0]}),
 (1956,mL (f 0)),(1963,mL (f 1)),(1977,mL (f 2)),(1984,mL (f 3)),(1991,mL (f 4)),(1998,mL (f 5))]
def vC(i:Nat):bT:=bc (Ms (cS 24)) i
noncomputable def Iv(p:Nat):Nat:=if p<128 then 2 * p else(2 * p) ^^^ 285
def pw:Nat->Nat
 | 0=>1
 |n+1=>Iv (pw n)
def Ct:Nat->LN
 | 0=>cb 256 0
 |n+1=>(Ct n).set (pw n) n
def QL:LN:=(aI 255).map pw
def wz:LN:=Ct 255
noncomputable def FPN:List (LN):=[[0,0,0,0,0,0,0,0,0],[0,1,1,1,1,1,1,1,0],[0,1,0,0,0,0,0,1,0],[0,1,0,1,1,1,0,1,0],[0,1,0,1,1,1,0,1,0],[0,1,0,1,1,1,0,1,0],[0,1,0,0,0,0,0,1,0],[0,1,1,1,1,1,1,1,0],[0,0,0,0,0,0,0,0,0]]
noncomputable def N8(dx:ab):bj:={cls:=R 60,dict:=O dx,data:=te}
def za(P:bS)(t:Nat->aW)(fd:bQ):mr:=[
 (135,{cls:=ak "type",data:=Lq {name:=aC "EC",bases:=[ak "tuple"],mro:=[R 135,ak "tuple",ak "object"],ns:=134,qualname:=aC "EC",hasDict:=af},slots:=#[O (R 65),ai,O (cI (aC "EC") (t 100)),O (cI (aC "EC") (t 101)),O aA,O (dB af)]}),
 (60,{cls:=ak "type",data:=Lq {name:=aC "_tuplegetter",bases:=[ak "object"],mro:=[R 60,ak "object"],ns:=59,qualname:=aC "_tuplegetter" },slots:=#[ai,ai,O (cI (aC "_tuplegetter") (t 102)),O (cI (aC "_tuplegetter") (t 103)),O (bx "object.__new__"),O (dB N)]}),
 (134,{cls:=ak "dict",data:=eJ #[kF P "__module__" (t 0) (cI (aC "segno.consts") (t 1)),kF P "__firstlineno__" (t 2) (ah 31 (t 3)),kF P "__doc__" (t 4) (cI (aC "EC(num_blocks, num_total, num_data)") (t 5)),kF P "__slots__" (t 6) (R 73),kF P "_fields" (t 7) (R 74),kF P "_field_defaults" (t 8) (R 75),kF P "__new__" (t 9) (R 136),kF P "_make" (t 10) (R 91),kF P "_replace" (t 11) (R 100),kF P "__replace__" (t 12) (R 100),kF P "__repr__" (t 13) (R 107),kF P "_asdict" (t 14) (R 114),kF P "__getnewargs__" (t 15) (R 121),kF P "__match_args__" (t 16) (R 122),kF P "num_blocks" (t 17) (R 124),kF P "num_total" (t 18) (R 127),kF P "num_data" (t 19) (R 130),kF P "__static_attributes__" (t 20) (R 132)] 2}),
 (59,{cls:=ak "dict",data:=eJ #[kF P "__module__" (t 21) (cI (aC "segno.consts") (t 22)),kF P "__firstlineno__" (t 23) (ah 5 (t 24)),kF P "__init__" (t 25) (R 35),kF P "__get__" (t 26) (R 43),kF P "__set__" (t 27) (R 50),kF P "__delete__" (t 28) (R 57),kF P "__static_attributes__" (t 29) (R 58),kF P "__dict__" (t 30) (R 61),kF P "__weakref__" (t 31) (R 62),kF P "__doc__" (t 32) aA] 4}),
 (123,{cls:=ak "dict",data:=eJ #[kF P "index" (t 33) (ah 0 (t 34)),kF P "__doc__" (t 35) (cI (aC "Alias for field number 0") (t 36))] 2}),
 (126,{cls:=ak "dict",data:=eJ #[kF P "index" (t 37) (ah 1 (t 38)),kF P "__doc__" (t 39) (cI (aC "Alias for field number 1") (t 40))] 2}),
 (129,{cls:=ak "dict",data:=eJ #[kF P "index" (t 41) (ah 2 (t 42)),kF P "__doc__" (t 43) (cI (aC "Alias for field number 2") (t 44))] 2}),
 (124,N8 123),(127,N8 126),(130,N8 129),(43,mL fd)]
def tgM:bT:=bc (Ms (cS 2)) 1
def agS:bT:=cS 11
def Dh:bT:=bc (Ms agS) 4
noncomputable def agT(f:ab):bj:={cls:=ak "staticmethod",data:=bH #[R f]}
def NQ(P:bS)(t:Nat->aW)(fd fd2:bQ):mr:=za P t fd++[(136,agT 82),(82,mL fd2),(2,{cls:=aA,data:=eJ #[]})]
inductive XK where
 |call(f:aw)(l:List aw)(k:List Aw)(p:aY)
 |name(x:aP)(p:aY)
 |con(c:xY)(k:Nat)(p:aY)
 |tup(l:List aw)(k:Nat)(p:aY)
 |dict(k:List (Option aw))(v:List aw)(p:aY)
 |lst(l:List aw)(p:aY)
 |bin(l:aw)(o:Operator)(r:aw)(p:aY)
 |other
noncomputable def xk:aw->XK
 |bI f l k p=>.call f l k p
 |ar x p=>.name x p
 |gn c k p=>.con c k p
 |il l k p=>.tup l k p
 |qh k v p=>.dict k v p
 |AD l p=>.lst l p
 |eu l o r p=>.bin l o r p
 |_=>.other
def XK.back:XK->aw->Prop
 | .call f l k p,e=>e=bI f l k p
 | .name x p,e=>e=ar x p
 | .con c k p,e=>e=gn c k p
 | .tup l k p,e=>e=il l k p
 | .dict k v p,e=>e=qh k v p
 | .lst l p,e=>e=AD l p
 | .bin l o r p,e=>e=eu l o r p
 | .other,_=>True
theorem N9(e:aw):(xk e).back e:=by cases e<;>first|show trivial|show rfl
noncomputable def Z1:bT->List aw
 |fE t ..=>t
 |_=>[]
noncomputable def Iw:bT->aw
 |fE _ e ..=>e
 |_=>gn yt 0 default
end
section
open PySem.W
noncomputable def Z2(f:Nat->bj)(n:Nat):Nat->Nat->Nat->BT
 | 0,_,_=>BT.nil
 |u+1,b,k=>match jL b n with
  |true=>BT.node (f b) (Z2 f n u (b+k) (2 * k)) (Z2 f n u (b+2 * k) (2 * k))
  |false=>BT.nil
theorem abB(f:Nat->bj)(n:Nat)(u:Nat):∀(b k j:Nat),0<k->j+2<=2 ^ u->b+k * j<n->(Z2 f n u b k).get j=O (f (b+k * j)):=by
 induction u with
 |zero=>intro _ _ j _ h _;simp at h
 |succ u iH=>
  intro b k j hk h hl;show(congrArg (λc=>BT.get (match c with|true=>BT.node (f b) (Z2 f n u (b+k) (2 * k)) (Z2 f n u (b+2 * k) (2 * k))|false=>BT.nil) j) (eT (j4 (ja _ _) hl))).trans<|(BT.get_node _ _ _ _).trans ?_;dsimp only[Nat.pow_succ]at h;show if h0:j=0 then by rw[if_pos h0,h0,EZ,AU] else ?_
  rw[if_neg h0];by_cases h1:j % 2=1
  .rw [if_pos h1];obtain⟨i,rfl⟩:∃i,j=2 * i+1:=⟨j / 2,by lia⟩;have e:b+k * (2 * i+1)=b+k+2 * k * i:=by rw[yn,E3,<-Uz,ve k 2];lia
   rw[show(2 * i+1) / 2=i by lia,iH (b+k) (2 * k) i au au (e▸hl),e]
  .rw [if_neg h1];obtain⟨i,rfl⟩:∃i,j=2 * i+2:=⟨j / 2 - 1,by lia⟩;have e:b+k * (2 * i+2)=b+2 * k+2 * k * i:=by rw[yn,<-Uz,ve k 2];lia
   rw[show(2 * i+2) / 2 - 1=i by simp,iH (b+2 * k) (2 * k) i au au (e▸hl),e]
def toT(s:ae)(f:Nat->bj):ng:=⟨Z2 f s.heap.objs.size 12 0 1,s.heap.objs.size,s.heap.life,s.gens,s.drawn,s.toks,s.os⟩
theorem Wc{f:Nat->bj}(hn:s.heap.objs.size<=4094)(h:∀i,i<s.heap.objs.size->s.heap.objs[i]? =O (f i)):(toT s f).abs=s:=by
 obtain⟨⟨objs,life⟩,gens,drawn,toks,os⟩:=s
 delta toT SharedT.abs
 dsimp only at h hn ⊢;have:(absHeap (Z2 f objs.size 12 0 1) objs.size life).objs=objs:=by
  show U2 λi=>?_;rw[absHeap_at];by_cases hi:i<objs.size
  .rw [if_pos hi,abB f objs.size 12 0 1 i bz au au,h i hi];simp
  .rw [if_neg hi,LH (oJ hi)]
 rw[show absHeap (Z2 f objs.size 12 0 1) objs.size life=⟨objs,life⟩ from congrArg (Kt · life) this]
noncomputable abbrev p0:u5:=L6
theorem Z3:p0.bare:=⟨rfl,rfl,rfl,rfl,by rfl,by ext⟩
noncomputable def tM:List bT:=p0.main.body
noncomputable def nM:cg:={scope:=p0.main.scope,locals:=sM,globals:=sM,cells:=[],code:=R 13,frame:=O 14}
def v8:iZ:=Code.body tM nM
def zl(l:List bT):aE ik:=((aU l nM).onRaise (ri nM)).bind doneF
def We(l:List bT)(pos:aY):gX:=⟨zl l,v8,pos,[topFrame default]⟩
noncomputable def Wf(m:aE ik):b8->aE ik:=λf=>match f with
 |cJ=>m
 |f=>doneF f
def abC(s:bT)(a0:b8->aE ik)(v:aa):aE ik:=((Ee (Z1 s) (Iw s) nM>>=λst=>assignStores nM v st ((assignEach (Z1 s) nM).map (·.2))).onRaise (ri nM)).bind a0
def Ya(s:bT)(m:aE aa)(a0:b8->aE ik):aE ik:=((jH s.pos>>=λ_=>m).onRaise (ri nM)).bind (abC s a0)
def S0(w:fz)(os:fy):ng:=⟨Z2 (λi=>(oR w.params).objs.toList.getD i default) 11 12 0 1,11,(oR w.params).life,#[],boot_drawn,boot_toks,os⟩
def ajw(w:fz)(os:fy):Option (ng×gX):=segGoT Ki p0 w 11 (O (R 6)) 99 1506 (S0 w os) (topStub p0)
end
section
open PySem.W
noncomputable def SV(x:String)(t:aW):aa:=cI (aC x) t
noncomputable def lq(l:List aa):bj:={cls:=ak "code",data:=bH l.toArray}
def Oa(st:bT)(t:aW):aa:=((docOf (bo st)).map λx=>cI x t).getD aA
def wo(nm q:String)(st:bT)(df doc pm:aa)(c:ab):bQ:={name:=aC nm,qualname:=aC q,params:=fo st,body:=lj (bo st),scope:=bg st,globals:=3,closure:=[],defaults:=df,kwdefaults:=aA,doc:=doc,pyModule:=pm,code:=R c,builtins:=0}
noncomputable def Di(k:Nat):LN->List aa
 | []=>[]
 |n::l=>ah (aj n) k::Di (k+1) l
noncomputable def wq(i:Int)(t:aW)(v:aa):oy:=⟨hashInt i,ah i t,v⟩
noncomputable def tA(i:Nat):aW:=if i<100 then [279,194,283,282,285,284,287,291,292,303,325,336,337,345,352,360,364,374,384,394,395,203,194,207,206,216,225,234,242,245,247,249,250,371,365,373,366,381,375,383,376,391,385,393,386].getD i 0 else [272,280,196,204].getD (i - 100) 0
def fdG:bQ:=wo "__get__" "_tuplegetter.__get__" tgM (R 36) aA (SV "segno.consts" 194) 42
def fdN:bQ:=wo "__new__" "EC.__new__" Dh aA (Oa Dh 302) (SV "segno.consts" 194) 81
def nsA(P:bS):Array oy:=#[kF P "__name__" 165 (SV "segno.consts" 194),kF P "__doc__" 166 aA,kF P "__package__" 167 aA,kF P "__loader__" 168 (bx "__main__.__loader__#opaque"),kF P "__spec__" 169 aA,kF P "__annotations__" 170 (R 6),kF P "__builtins__" 171 (R 4),kF P "__file__" 173 (SV "/claim/cut.py" 172),kF P "__cached__" 174 aA,kF P "_wall" 193 (R 21),kF P "_tuplegetter" 252 (R 60),kF P "VERSION_M4" 254 (ah 0 253),kF P "VERSION_M3" 257 (ah (-1) 256),kF P "VERSION_M2" 260 (ah (-2) 259),kF P "VERSION_M1" 263 (ah (-3) 262),kF P "ERROR_LEVEL_L" 265 (ah 1 264),kF P "ERROR_LEVEL_M" 267 (ah 0 266),kF P "ERROR_LEVEL_Q" 269 (ah 3 268),kF P "ERROR_LEVEL_H" 271 (ah 2 270),kF P "EC" 399 (R 135)]
def oA(P:bS):List bj:=[qu P,boot_o_1 P,boot_o_2 P,{cls:=ak "dict",data:=eJ (nsA P) 20},boot_o_4 P,boot_o_5 P,boot_o_6 P,boot_o_7 P,boot_o_8 P,boot_o_9 P,boot_o_10 P,
 {cls:=(ak "tuple"),data:=bU #[] 0},{cls:=aA,data:=bH #[(ah 1 0),(ah 0 0),(R 20),(ah 5 0),(ah 0 0),(R 27),(ah 31 0),(ah 0 0),(R 71)]},lq [SV "<module>" 182,SV "<module>" 183,SV "/claim/cut.py" 184,(ah 1 0),(ah 0 0),(ah 0 0),(ah 0 0),(ah 0 0),(R 11),(dB af),(ah 181 0),(R 12),aA,aA,aA,aA,ah (aj 185) 0,(ah 1 0),SV "/claim/cut.py" 186],{cls:=(ak "frame"),data:=te,slots:=#[O (R 13),O (R 3),O (R 3),ai,O (SV "__main__" 164),ai,O (R 0)]}]
def zm(P:bS):mr:=NQ P tA fdG fdN++[(36,{cls:=(ak "tuple"),data:=bU #[aA] 0}),(42,lq [SV "__get__" 217,SV "_tuplegetter.__get__" 218,SV "/claim/cut.py" 219,(ah 11 0),(ah 3 0),(ah 0 0),(ah 0 0),(ah 3 0),(R 37),(dB N),(ah 181 0),(R 38),aA,(R 39),(R 40),(R 41),ah (aj 223) 0,(ah 11 0),SV "/claim/cut.py" 224]),(81,lq [SV "__new__" 293,SV "EC.__new__" 294,SV "/claim/cut.py" 295,(ah 37 0),(ah 4 0),(ah 0 0),(ah 0 0),(ah 3 0),(R 76),(dB N),(ah 181 0),(R 77),aA,(R 78),(R 79),(R 80),ah (aj 300) 0,(ah 37 0),SV "/claim/cut.py" 301])]
def ajx(P:bS)(x:ng×gX):gX×Nat×Array eS×fy×List (Option bj)×List (Option bj):=(x.2,x.1.n,x.1.gens,x.1.os,(aI 15).map x.1.tree.get,(zm P).map λy=>x.1.tree.get y.1)
theorem abD(w:fz)(os:fy):(ajw w os).map (ajx w.params)=O (We (tM.drop 12) ⟨31,0,73,58⟩,139,#[],os,(oA w.params).map O,(zm w.params).map λy=>O y.2):=by ext
noncomputable def oG(l:List bj)(g:Nat->bj)(i:Nat):bj:=match jL i 15 with
 |true=>l.getD i default
 |false=>g i
def oN(P:bS)(es:Array oy)(n:Nat):List bj:=(oA P).set 3 {cls:=ak "dict",data:=eJ es n}
def goC(l:List bj)(n s:Nat)(w:fz)(os:fy)(d:Drawn)(k:Nat)(g:Nat->bj)(t:gX):Option (ng×gX):=segGoT Ki p0 w n (O (R 12)) 99 s ⟨Z2 (oG l g) n 12 0 1,n,(oR w.params).life,#[],d,k,os⟩ t
def nsB(P:bS)(k:Nat):Array oy:=nsA P++#[kF P "ECC" k (R 139),kF P "GEN_POLY" (k+318) (R 1868)]
end
section
open PySem.W
noncomputable def tC(k i:Nat):aW:=k+[684,692,691,514,695,694,697,696,700,708,716,725,732,741,748,756,758,760,759].getD i 0
def fC(k:Nat):Nat->bQ
 | 0=>wo "__init__" "Buffer.__init__" (vC 2) (R 1949) aA (SV "segno.encoder" (k+514)) 1955
 | 1=>wo "extend" "Buffer.extend" (vC 3) aA aA (SV "segno.encoder" (k+514)) 1962
 | 2=>wo "getbits" "Buffer.getbits" (vC 5) aA aA (SV "segno.encoder" (k+514)) 1976
 | 3=>wo "toints" "Buffer.toints" (vC 6) aA (Oa (vC 6) (k+740)) (SV "segno.encoder" (k+514)) 1983
 | 4=>wo "__len__" "Buffer.__len__" (vC 7) aA aA (SV "segno.encoder" (k+514)) 1990
 | 5=>wo "__getitem__" "Buffer.__getitem__" (vC 8) aA aA (SV "segno.encoder" (k+514)) 1997
 |_=>wo "law" "law" (cS 27) aA aA (SV "law_nv0014_01" (k+763)) 2014
def nsC(P:bS)(k0 k:Nat):Array oy:=((nsB P k0).set! 0 (kF P "__name__" 165 (SV "law_nv0014_01" (k+763))))++#[kF P "GALIOS_LOG" (k+256) (R 1888),kF P "GALIOS_EXP" (k+513) (R 1890),kF P "_FINDER_PATTERN" (k+597) (R 1900),kF P "add_finder_patterns" (k+615) (R 1907),kF P "add_timing_pattern" (k+629) (R 1914),kF P "add_codewords" (k+652) (R 1921),kF P "make_final_message" (k+659) (R 1926),kF P "make_blocks" (k+666) (R 1931),kF P "make_matrix" (k+683) (R 1939),kF P "Buffer" (k+762) (R 2002),kF P "_law_mended" (k+770) (R 2010),kF P "law" (k+776) (R 2015)]
def agU(k:Nat):List (ab×bQ):=[(1907,wo "add_finder_patterns" "add_finder_patterns" (cS 18) aA (Oa (cS 18) (k+614)) (SV "segno.encoder" (k+514)) 1906),(1914,wo "add_timing_pattern" "add_timing_pattern" (cS 19) aA (Oa (cS 19) (k+628)) (SV "segno.encoder" (k+514)) 1913),(1921,wo "add_codewords" "add_codewords" (cS 20) aA (Oa (cS 20) (k+651)) (SV "segno.encoder" (k+514)) 1920),(1926,wo "make_final_message" "make_final_message" (cS 21) aA (Oa (cS 21) (k+658)) (SV "segno.encoder" (k+514)) 1925),(1931,wo "make_blocks" "make_blocks" (cS 22) aA (Oa (cS 22) (k+665)) (SV "segno.encoder" (k+514)) 1930),(1939,wo "make_matrix" "make_matrix" (cS 23) (R 1932) (Oa (cS 23) (k+682)) (SV "segno.encoder" (k+514)) 1938),(2010,wo "_law_mended" "_law_mended" (cS 26) aA aA (SV "law_nv0014_01" (k+763)) 2009),(2015,wo "law" "law" (cS 27) aA aA (SV "law_nv0014_01" (k+763)) 2014)]
def qC(P:bS)(k:Nat):mr:=iD P (tC k) (fC k)++(aI 9).map (λi=>(1891+i,cU (Di (k+516+9 * i) (FPN.getD i [])) 0))++(agU k).map (λx=>(x.1,mL x.2))++[
 (1888,cU (Di (k+0) wz) 0),
 (1890,br (Di (k+257) QL++Di (k+257) QL) 0),
 (1900,cU ((aI 9).map λi=>R (1891+i)) 0),
 (1906,lq [SV "add_finder_patterns" (k+598),SV "add_finder_patterns" (k+599),SV "/claim/cut.py" (k+600),(ah 80 0),(ah 3 0),(ah 0 0),(ah 0 0),(ah 3 0),(R 1901),(dB N),(ah 181 0),(R 1902),aA,(R 1903),(R 1904),(R 1905),ah (aj (k+612)) 0,(ah 80 0),SV "/claim/cut.py" (k+613)]),
 (1913,lq [SV "add_timing_pattern" (k+616),SV "add_timing_pattern" (k+617),SV "/claim/cut.py" (k+618),(ah 102 0),(ah 2 0),(ah 0 0),(ah 0 0),(ah 3 0),(R 1908),(dB N),(ah 181 0),(R 1909),aA,(R 1910),(R 1911),(R 1912),ah (aj (k+626)) 0,(ah 102 0),SV "/claim/cut.py" (k+627)]),
 (1920,lq [SV "add_codewords" (k+630),SV "add_codewords" (k+631),SV "/claim/cut.py" (k+632),(ah 118 0),(ah 3 0),(ah 0 0),(ah 0 0),(ah 3 0),(R 1915),(dB N),(ah 181 0),(R 1916),aA,(R 1917),(R 1918),(R 1919),ah (aj (k+649)) 0,(ah 118 0),SV "/claim/cut.py" (k+650)]),
 (1925,lq [SV "make_final_message" (k+653),SV "make_final_message" (k+654),SV "/claim/cut.py" (k+655),(ah 149 0),(ah 3 0),(ah 0 0),(ah 0 0),(ah 3 0),(R 1922),(dB N),(ah 181 0),(R 1923),aA,aA,aA,(R 1924),ah (aj (k+656)) 0,(ah 149 0),SV "/claim/cut.py" (k+657)]),
 (1930,lq [SV "make_blocks" (k+660),SV "make_blocks" (k+661),SV "/claim/cut.py" (k+662),(ah 181 0),(ah 2 0),(ah 0 0),(ah 0 0),(ah 3 0),(R 1927),(dB N),(ah 181 0),(R 1928),aA,aA,aA,(R 1929),ah (aj (k+663)) 0,(ah 181 0),SV "/claim/cut.py" (k+664)]),
 (1938,lq [SV "make_matrix" (k+667),SV "make_matrix" (k+668),SV "/claim/cut.py" (k+669),(ah 211 0),(ah 4 0),(ah 0 0),(ah 0 0),(ah 3 0),(R 1933),(dB N),(ah 181 0),(R 1934),aA,(R 1935),(R 1936),(R 1937),ah (aj (k+680)) 0,(ah 211 0),SV "/claim/cut.py" (k+681)]),
 (1955,lq [SV "__init__" (k+701),SV "Buffer.__init__" (k+702),SV "/claim/cut.py" (k+703),(ah 251 0),(ah 2 0),(ah 0 0),(ah 0 0),(ah 3 0),(R 1950),(dB N),(ah 181 0),(R 1951),aA,(R 1952),(R 1953),(R 1954),ah (aj (k+706)) 0,(ah 251 0),SV "/claim/cut.py" (k+707)]),
 (1962,lq [SV "extend" (k+709),SV "Buffer.extend" (k+710),SV "/claim/cut.py" (k+711),(ah 254 0),(ah 2 0),(ah 0 0),(ah 0 0),(ah 3 0),(R 1957),(dB N),(ah 181 0),(R 1958),aA,(R 1959),(R 1960),(R 1961),ah (aj (k+714)) 0,(ah 254 0),SV "/claim/cut.py" (k+715)]),
 (1976,lq [SV "getbits" (k+726),SV "Buffer.getbits" (k+727),SV "/claim/cut.py" (k+728),(ah 260 0),(ah 1 0),(ah 0 0),(ah 0 0),(ah 3 0),(R 1971),(dB N),(ah 181 0),(R 1972),aA,(R 1973),(R 1974),(R 1975),ah (aj (k+730)) 0,(ah 260 0),SV "/claim/cut.py" (k+731)]),
 (1983,lq [SV "toints" (k+733),SV "Buffer.toints" (k+734),SV "/claim/cut.py" (k+735),(ah 263 0),(ah 1 0),(ah 0 0),(ah 0 0),(ah 3 0),(R 1978),(dB N),(ah 181 0),(R 1979),aA,(R 1980),(R 1981),(R 1982),ah (aj (k+738)) 0,(ah 263 0),SV "/claim/cut.py" (k+739)]),
 (1990,lq [SV "__len__" (k+742),SV "Buffer.__len__" (k+743),SV "/claim/cut.py" (k+744),(ah 269 0),(ah 1 0),(ah 0 0),(ah 0 0),(ah 3 0),(R 1985),(dB N),(ah 181 0),(R 1986),aA,(R 1987),(R 1988),(R 1989),ah (aj (k+746)) 0,(ah 269 0),SV "/claim/cut.py" (k+747)]),
 (1997,lq [SV "__getitem__" (k+749),SV "Buffer.__getitem__" (k+750),SV "/claim/cut.py" (k+751),(ah 272 0),(ah 2 0),(ah 0 0),(ah 0 0),(ah 3 0),(R 1992),(dB N),(ah 181 0),(R 1993),aA,(R 1994),(R 1995),(R 1996),ah (aj (k+754)) 0,(ah 272 0),SV "/claim/cut.py" (k+755)]),
 (2009,lq [SV "_law_mended" (k+765),SV "_law_mended" (k+766),SV "/claim/cut.py" (k+767),(ah 275 0),(ah 3 0),(ah 0 0),(ah 0 0),(ah 3 0),(R 2006),(dB N),(ah 181 0),(R 2007),aA,aA,aA,(R 2008),ah (aj (k+768)) 0,(ah 275 0),SV "/claim/cut.py" (k+769)]),
 (2014,lq [SV "law" (k+771),SV "law" (k+772),SV "/claim/cut.py" (k+773),(ah 353 0),(ah 1 0),(ah 0 0),(ah 0 0),(ah 3 0),(R 2011),(dB N),(ah 181 0),(R 2012),aA,aA,aA,(R 2013),ah (aj (k+774)) 0,(ah 353 0),SV "/claim/cut.py" (k+775)]),
 (1923,tabObj #[]),
 (1934,tabObj #[]),
 (1979,tabObj #[]),
 (2007,tabObj #[]),
 (1932,cU [dB N,dB N] 0),
 (1948,cU [] 0),
 (1949,cU [R 1948] 0)]
def runC(w:fz)(k0:Nat):=goC (oN w.params (nsB w.params k0) 22) 1888 1382 w
def ajy(P:bS)(k:Nat)(x:ng×gX):Bool×Nat×Array eS×fy×List (Option bj)×List (Option bj):=(Fd x.2,x.1.n,x.1.gens,x.1.os,[2,3].map x.1.tree.get,(qC P k).map λy=>x.1.tree.get y.1)
noncomputable def Wg(J:cg):List aw->(List aa->aE aa)->aE aa
 | [],k=>k []
 |e::es,k=>(aZ e J).bind λv=>Wg J es λvs=>k (v::vs)
def evL(e:aw):aE aa:=match xk e with
 | .tup es _ p=>jH p>>=λ_=>Wg nM es newTuple
 | .lst es p=>jH p>>=λ_=>Wg nM es newList
 |_=>aZ e nM
def evB(e:aw):aE aa:=match xk e with
 | .bin l op r u=>evL l>>=λa=>holding [a] (aZ r nM)>>=λb=>jH u>>=λ_=>Ax [a,b] (Au op a b)
 |_=>aZ e nM
def tF:aE ik:=Ya (cS 14) (evL (Iw (cS 14))) (Wf (Ya (cS 15) (evB (Iw (cS 15))) (Wf (zl (tM.drop 16)))))
theorem abE(w:fz)(os:fy)(d:Drawn)(k0 k:Nat)(g:Nat->bj):(runC w k0 os d k g ⟨tF,v8,⟨75,0,75,8⟩,[topFrame default]⟩).map (ajy w.params k)=O (N,2016,#[],os,[O {cls:=aA,data:=eJ #[]},O {cls:=ak "dict",data:=eJ (nsC w.params k0 k) 34}],(qC w.params k).map λy=>O y.2):=by ext
end
abbrev NoE:aa->ae->Prop:=λ_ _=>False
def T{α:Type}(A:ck)(t:aE α)(s:ae)(P:α->ae->Prop):Prop:=
 ∀⦃Γ:Ctx⦄ ⦃p:aY⦄,Γ.In A->Sem.wp (aG prog w) Γ t (λa _ Y=>P a Y) (λe _ Y=>NoE e Y) p s
section
variable{β:Type}
theorem T.wp{t:aE α}{P Q:α->ae->Prop}(x:T A t s P)(h:∀a Y,P a Y->Q a Y):ax (aG prog w) A t Q a6 s:=
 gV x h λ_ _ f=>f.elim
theorem T.Dj{t:aE α}{v₀:α}{Q:α->ae->Prop}(h:T A t s λv Y=>Y=aJ/\v=v₀)(k:Q v₀ aJ):ax (aG prog w) A t Q a6 s:=h.wp λ_ _ q=>q.1▸q.2▸k
theorem T.Cu{t:aE α}{X gh:α->ae->Prop}{Q:α->ae->Prop}(h:T A t s λv Y=>X v Y/\gh v Y)(k:∀v Y,X v Y->gh v Y->Q v Y):ax (aG prog w) A t Q a6 s:=h.wp λv Y q=>k v Y q.1 q.2
theorem T.wp3{β:Type}{t:aE α}{X:α->ae->Prop}{gh:α->ae->β->Prop}{Q:α->ae->Prop}(h:T A t s λv Y=>X v Y/\∃F,gh v Y F)(k:∀v Y F,X v Y->gh v Y F->Q v Y):ax (aG prog w) A t Q a6 s:=h.wp λv Y qQ=>Mk qQ λx F y=>k v Y F x y
theorem T.wp4{β:Type}{t:aE α}{X:α->ae->Prop}{gh iP:α->ae->β->Prop}{Q:α->ae->Prop}(h:T A t s λv Y=>X v Y/\∃F,gh v Y F/\iP v Y F)(k:∀v Y F,X v Y->gh v Y F->iP v Y F->Q v Y):ax (aG prog w) A t Q a6 s:=h.wp λv Y qQ=>iN qQ λx F y z=>k v Y F x y z
theorem T.wpV{β:Type}{t:aE α}{gh:α->β->Prop}{Q:α->ae->Prop}(h:T A t s λv Y=>Y=aJ/\∃F,gh v F)(k:∀v F,gh v F->Q v aJ):ax (aG prog w) A t Q a6 s:=h.wp λv _ qQ=>Mk qQ λe F y=>e▸k v F y
theorem T.Z4{β:Type}{t:aE α}{gh iP:α->β->Prop}{Q:α->ae->Prop}(h:T A t s λv Y=>Y=aJ/\∃F,gh v F/\iP v F)(k:∀v F,gh v F->iP v F->Q v aJ):ax (aG prog w) A t Q a6 s:=h.wp λv _ qQ=>iN qQ λe F y z=>e▸k v F y z
theorem T.mono{t:aE α}{P Q:α->ae->Prop}(x:T A t s P)(h:∀a Y,P a Y->Q a Y):T A t s Q:=x.wp h
end
abbrev ig:=List (Nat×Nat×AV)
noncomputable def cq:ig->Nat->Option (Nat×AV)
 | [],_=>ai
 |(y,k,av)::r,x=>match fD y x with
  |true=>O (k,av)
  |false=>cq r x
noncomputable def jm:ig->Nat->Nat->AV->ig
 | [],x,k,av=>[(x,k,av)]
 |(y,k',mx)::r,x,k,av=>match fD y x with
  |true=>(x,k,av)::r
  |false=>(y,k',mx)::jm r x k av
theorem my(G:ig)(x k:Nat)(av:AV)(y:Nat):cq ((x,k,av)::G) y=if x=y then O (k,av) else cq G y:=by
 show(?_:(match fD x y with|true=>O (k,av)|false=>cq G y)=_);cases q:fD x y with
 |true=>show(if_pos (KU q)).symm
 |false=>show(if_neg (KP q)).symm
theorem uA(G:ig)(x k:Nat)(av:AV)(y k':Nat)(mx:AV):jm ((x,k,av)::G) y k' mx=if x=y then(y,k',mx)::G else(x,k,av)::jm G y k' mx:=by
 show(?_:(match fD x y with|true=>(y,k',mx)::G|false=>(x,k,av)::jm G y k' mx)=_);cases q:fD x y with
 |true=>show(if_pos (KU q)).symm
 |false=>show(if_neg (KP q)).symm
theorem fH(G:ig)(x k:Nat)(av:AV)(y:Nat):cq (jm G x k av) y=if y=x then O (k,av) else cq G y:=by
 show(?_:_=if x=y then _ else _).trans (ite_congr (propext eq_comm) (λ_=>rfl) λ_=>rfl);induction G with
 |nil=>show my [] x k av y
 |cons p r ih=>
  rw[uA,my];by_cases h:p.1=x
  .rw [if_pos h,my,h];show if q:x=y then by rw[if_pos q,if_pos q] else by rw[if_neg q,if_neg q,if_neg q]
  .rw [if_neg h,my,ih];by_cases q:p.1=y
   .rw [if_pos q,if_pos q,if_neg λe=>h (q.trans e.symm)]
   .rw [if_neg q,if_neg q]
theorem Oc{dA M:ig}{p:Nat×AV}(h:cq (dA++M) y=O p):cq dA y=O p\/cq M y=O p:=by
 induction dA with
 |nil=>show aH h
 |cons z dA ih=>
  have h:=(my (dA++M) z.1 z.2.1 z.2.2 y).symm.trans h;show(show cq (z::dA) y=_ from my dA z.1 z.2.1 z.2.2 y)▸?_;by_cases e:z.1=y
  .rw [if_pos e]at h ⊢;show ao h
  .rw [if_neg e]at h ⊢;show ih h
theorem Bu{s:String}(h:ZL[i]? =O s):NM i=aC s:=by delta NM;rw[h]
theorem Bv(h:ZL[i]? =ai):NM i=⟨#[2000000+i]⟩:=by delta NM;rw[h]
theorem I4:(ZL.map aC).Nodup:=of_decide_eq_true bD
theorem I5:(ZL.all λs=>(aC s).cps.toList.all (· <2000000))=N:=by rfl
theorem Cv(h:NM i=NM j):i=j:=by
 show ZW (ZL[i]?) (λhi=>?_) λa hi=>?_
 .cases hj:ZL[j]? with
  |some b=>exfalso;rw[Bv hi,Bu hj]at h;have:=mW.mp I5 b (cW hj);rw[<-h]at this;simp at this;lia
  |none=>have:=congrArg (λa:Array Nat=>a.toList) (congrArg Str.cps ((Bv hj)▸(Bv hi)▸h));simp at this;show this
 .cases hj:ZL[j]? with
  |some b=>
   have h:=(Bu hj)▸(Bu hi)▸h;have e1:(ZL.map aC)[i]? =O (aC a):=by rw[cY,hi];rfl
   have e2:(ZL.map aC)[j]? =O (aC b):=by rw[cY,hj];rfl
   rw[<-h]at e2;show dG (dR.mp e1) λl1 g1=>?_;show dG (dR.mp e2) λl2 g2=>?_;rcases Ut i j with c|c|c
   .show ((Ey.mp I4 i j l1 l2 c) (g1.trans g2.symm)).elim
   .show c
   .show ((Ey.mp I4 j i l2 l1 c) (g2.trans g1.symm)).elim
  |none=>have h:=(Bv hj)▸(Bu hi)▸h;have:=mW.mp I5 a (cW hi);rw[h]at this;simp at this;lia
theorem aeb(i:Nat)(y:aP)(h1:(ZL.all λs=>aC s != y)=N)(h2:y.cps.size≠1):(NM i==y)=af:=by
 show ZW (ZL[i]?) (λhi=>?_) λa hi=>?_
 .rw [Bv hi];rw[beq_eq_false_iff_ne];intro e;subst e;show h2 Z
 .rw [Bu hi];have:=mW.mp h1 a (cW hi);simpa using this
theorem wD(i:Nat):(NM i==("__debug__" :aP))=af:=aeb i _ (rfl) (uf Z)
theorem vD(i:Nat):(NM i==("__classdict__" :aP))=af:=aeb i _ (rfl) (uf Z)
def Ah(J:cg)(h:aN)(x:aP)(v:aa):Prop:=
 (J.kindOf x=O cZ/\∃m,h.Ns J.locals m/\m x=O v)\/
 ((J.kindOf x=O dw\/J.kindOf x=O eN)/\∃c,J.cells.lookup x=O c/\c∉bY/\h.IsCell c (O v))
protected theorem hJ.ns(x:hJ H h h')(ha:a∉bY)(n:h.Ns a m):h'.Ns a m:=
 eY n λo es ep ho r=>Bm o es ep (x.keep a o ha ho) r
theorem hJ.cell{v:Option aa}(x:hJ H h h')(ha:a∉bY)(n:h.IsCell a v):h'.IsCell a v:=
 bh n λo ho r=>ct o (x.keep a o ha ho) r
theorem Ah.ext{x:aP}(e:hJ H h h')(hl:J.locals∉bY)(cB:Ah J h x v):Ah J h' x v:=bf cB (λi0=>iN i0 λk m n e1=>ao ⟨k,m,e.ns hl n,e1⟩) λi0=>oW i0 λk c e1 e2 e3=>aH ⟨k,c,e1,e2,e.cell e2 e3⟩
section
variable(H:List ab)(U:aN)
structure ER(L:c9)(J:cg)(h:aN)(G:ig):Prop where
 base:hJ H U h
 kind:J.scope.kind=d0
 gl:∀x,L.names.lookup x=O kX->J.kindOf x=O kX
 Wh:∀x,(L.names.lookup x=O dw\/L.names.lookup x=O eN)->(J.kindOf x=O dw\/J.kindOf x=O eN)
 glob:J.globals=ef
 bi:J.builtins=fY
 loc:J.locals∉bY
 has:∀x k av,cq G x=O (k,av)->∃v F,Ah J h (NM x) v/\bR h av v F
end
section
variable{H:List ab}{U:aN}{G:ig}
theorem ER.ext(r:ER H U L J h G)(x:hJ H h h'):ER H U L J h' G:=
 ⟨r.base.trans x,r.kind,r.gl,r.Wh,r.glob,r.bi,r.loc,λy k av e=>eQ (r.has y k av e) λv F a b=>(kI v F (a.ext x r.loc) (b.ext x))⟩
end
structure cA(U:aN)(mg mb:aP->Option aa):Prop where
 g:U.Ns ef mg
 b:U.Ns fY mb
 lim:U.NoLimit
 top:Tp U
 bmod:∃bm o,mg "__builtins__" =O (R bm)/\bm≠fY/\bm∉bY/\U.get? bm=O o/\o.cls=ak "module" /\o.dict=O fY/\o.data=te
theorem jz{U:aN}(B:Tp U)(x:hJ H U h):QH<=h.objs.size:=dG B λo e=>dG (x.there _ _ e) λo' e'=>gy (cn e')
protected theorem cA.mg{U:aN}(B:cA U mg mb)(x:hJ H U h):h.Ns ef mg:=x.ns (DM Z) B.g
protected theorem cA.mb{U:aN}(B:cA U mg mb)(x:hJ H U h):h.Ns fY mb:=x.ns (DM Z) B.b
theorem cA.zo{U:aN}(B:cA U mg mb)(x:hJ H U h):h.NoLimit:=bh B.lim λmc n e=>ct mc (x.ns (DM Z) n) e
section
variable{H:List ab}{U:aN}{G:ig}
theorem pP{x:aP}(hk:J.scope.kind=d0)(E:J.kindOf x=O kX)(hg:s.heap.Ns J.globals mg)(hv:mg x=O v)(h:Q v s):ax (aG prog w) A (loadName J x) Q a6 s:=by rw[loadName_read hk E];show ag<|xM hg<|hv.symm▸aB h
theorem mM{x:aP}(hk:J.scope.kind=d0)(E:J.kindOf x=O kX)(hg:s.heap.Ns J.globals mg)(D:s.heap.Ns J.builtins mb)(hn:mg x=ai)(hv:mb x=O v)(h:Q v s):ax (aG prog w) A (loadName J x) Q a6 s:=by rw[loadName_read hk E];show ag<|xM hg<|hn.symm▸ag (xM D ?_);show hv.symm▸aB h
theorem v9(r:ER H U L J s.heap G)(E:cq G x=O (k,av)):
 T A (aZ (ar (NM x) pos) J) s (λv Y=>Y=s/\∃F,bR s.heap av v F):=by
 show eQ (r.has x k av E) λv F cB aO=>(qZ ?_ (wD x));show bf cB (λi0=>iN i0 λhl m n e=>xA r.kind hl n e ⟨rfl,F,aO⟩) λi0=>oW i0 λhl c hc _ hv=>?_;rcases hl with hl|hl
 .show JQ r.kind hl hc hv ⟨rfl,F,aO⟩
 .show JR r.kind hl hc hv ⟨rfl,F,aO⟩ (vD x)
theorem ui{u:aa}(r:ER H U L J s.heap G)(E:cq G x=O (k,aX u)):T A (aZ (ar (NM x) pos) J) s (λv Y=>Y=s/\v=u):=
 (v9 r E).mono λ_ _ q=>⟨q.1,q.2.elim λ_ aO=>aO.FX (P:=λv=>v=u) Z⟩
theorem r7{x:aP}(B:cA U mg mb)(r:ER H U L J s.heap G)(E:L.names.lookup x=O kX)(hv:mg x=O v)(hd:(x==("__debug__" :aP))=af):T A (aZ (ar x pos) J) s (λu Y=>Y=s/\u=v):=
 qZ (pP r.kind (r.gl x E) (r.glob▸B.mg r.base) hv ⟨rfl,rfl⟩) hd
theorem ez{x:aP}(B:cA U mg mb)(r:ER H U L J s.heap G)(E:L.names.lookup x=O kX)(hn:mg x=ai)(hv:mb x=O v)(hd:(x==("__debug__" :aP))=af):T A (aZ (ar x pos) J) s (λu Y=>Y=s/\u=v):=
 qZ (mM r.kind (r.gl x E) (r.glob▸B.mg r.base) (r.bi▸B.mb r.base) hn hv ⟨rfl,rfl⟩) hd
end
variable{G G' Gx:ig}
structure Z5(n:Nat)(A:ck):Prop where
 hd:A.handled=ai
 depth:A.depth+n<1000
 units:A.units+20 * n<9900
inductive BOp where|add|sub|mul|fdiv|fmod|pow|xor|band|shr(u:Unit)
noncomputable def BOp.ast:BOp->Operator
 | .add=>rM | .sub=>Ft | .mul=>vo | .fdiv=>Fq | .fmod=>Bd | .pow=>LW | .xor=>Bc | .band=>LU | .shr _=>LV
noncomputable def oX(x:Int):Bool:=decide (x.natAbs<1073741824)
def wF:BOp->Int->Int->Option Int
 | .add=>λx y=>O (x+y)
 | .sub=>λx y=>O (x - y)
 | .mul=>λx y=>cond (oX x) (O (x * y)) ai
 | .fdiv=>λx y=>cond (oX y && decide (0<y)) (O (x.fdiv y)) ai
 | .fmod=>λx y=>cond (decide (0<y)) (O (x.fmod y)) ai
 | .pow=>λx y=>cond (oX x && decide (0<=y) && decide (y<=1000)) (O (x ^ y.toNat)) ai
 | .xor=>λx y=>x.casesOn (λx=>y.casesOn (λy=>O (aj (x ^^^ y))) λ_=>ai) λ_=>ai
 | .band=>λx y=>x.casesOn (λx=>y.casesOn (λy=>O (aj (x &&& y))) λ_=>ai) λ_=>ai
 | .shr _=>λx y=>cond (decide (0<=y)) (O (x.fdiv (2 ^ y.toNat))) ai
inductive COp where|eq|ne|lt|le|gt|ge(u:Unit)
noncomputable def COp.ast:COp->CmpOp
 | .eq=>Bh | .ne=>FD | .lt=>FE | .le=>VH | .gt=>CmpOp.Gt | .ge _=>CmpOp.GtE
noncomputable def gT:COp->Int->Int->Bool
 | .eq=>λx y=>x==y
 | .ne=>λx y=>x != y
 | .lt=>λx y=>decide (x<y)
 | .le=>λx y=>decide (x<=y)
 | .gt=>λx y=>decide (y<x)
 | .ge _=>λx y=>decide (y<=x)
theorem r8(op:COp)(e:aw):Ef op.ast e=af:=by
 cases e with
 |Set aeP k pos=>change(k==0 && (op.ast==FF ||op.ast==Bg) && aeP.all (constantsAlone 8))=af;show(by cases op<;>rfl:(op.ast==FF ||op.ast==Bg)=af).symm▸?_;simp
 |_=>rfl
theorem FY(x y:Nat):LC (aj x) (aj y)=aj (x &&& y):=by rfl
theorem Cw(h:k<n):rg (aj k) n=O k:=
 if_pos (fL.mpr ⟨decide_eq_true (Km k),decide_eq_true (sQ.mpr h)⟩)
theorem aeQ{a b:Nat}(h:a / 2+b / 2=c / 2)(k:a % 2+b % 2=c % 2):a+b=c:=(congr (congrArg HAdd.hAdd (Li a 2)) (Li b 2)).symm.trans ((Nat.add_add_add_comm ..).trans (yn 2 _ _▸h▸k▸Li c 2))
theorem Z6:(x ^^^ y) % 2+(x &&& y) % 2=(x |||y) % 2:=by rw[(Nat.xor_mod_two_pow (n:=1)),(Nat.and_mod_two_pow (n:=1)),(Nat.or_mod_two_pow (n:=1)),Nat.pow_one];rcases EN x with h|h<;>rcases EN y with k|k<;>rw[h,k]<;>rfl
theorem Bw(x y:Nat):x |||y=(x ^^^ y)+(x &&& y):=by
 have key:∀n x y:Nat,x<=n->y<=n->(x ^^^ y)+(x &&& y)=x |||y:=by
  intro n;induction n with
  |zero=>intro x y E hy;rw[Ln.mp E,Ln.mp hy];rfl
  |succ n ih=>show λx y E hy=>aeQ ?_ Z6;rw[Nat.xor_div_two,Nat.and_div_two,Nat.or_div_two];show ih _ _ (ba (Us E) (mY (Lh (EY n) aK))) (ba (Us hy) (mY (Lh (EY n) aK)))
 show(key (x+y) x y (ja ..) (rz ..)).symm
theorem Yb(x y:Nat):UU (aj x) (aj y)=aj (x |||y):=by
 delta UU
 have:LC (nk (aj x)) (nk (aj y))=nk (aj (x |||y)):=by rw[LC,(decide_eq_false (by delta nk;have:aj x=(x:Int):=rfl;lia)),(decide_eq_false (by delta nk;have:aj y=(y:Int):=rfl;lia))];rw[(by delta nk;lia:nk (nk (aj x))=aj x),(by delta nk;lia:nk (nk (aj y))=aj y)];rfl
 rw[this]
 delta nk;simp+arith
theorem FZ(x y:Nat):UT (aj x) (aj y)=aj (x ^^^ y):=by
 delta UT
 rw[Yb,FY,Bw];show Int.sub_eq_iff_eq_add.mpr Z
def EP(H:List ab)(s:ae)(av:AV)(fr:Bool)(v:aa)(Y:ae):Prop:=dz H s Y/\∃F,bR Y.heap av v F/\(fr=N->(∀b∈F,s.heap.get? b=ai)/\F.Nodup)
def EPs(H:List ab)(s:ae)(avs:List AV)(vs:List aa)(Y:ae):Prop:=dz H s Y/\∃F,bC Y.heap avs vs F
def BP(H:List ab)(s:ae)(b:Bool)(v:Bool)(Y:ae):Prop:=dz H s Y/\v=b
section
variable{H:List ab}{A:ck}
theorem oY(F:List ab)(e:dz H s Y)(r:bR Y.heap av v F)(k:fr=N->(∀b∈F,s.heap.get? b=ai)/\F.Nodup):EP H s av fr v Y:=⟨e,F,r,k⟩
theorem aec(e:dz H s Y)(r:bC Y.heap avs vs F):EPs H s avs vs Y:=⟨e,F,r⟩
theorem T.tN{t:aE aa}(h:T A t s (EP H aJ av fr))(k:∀v Y F,dz H aJ Y->bR Y.heap av v F->(fr=N->(∀b∈F,aJ.heap.get? b=ai)/\F.Nodup)->Q v Y):ax (aG prog w) A t Q a6 s:=h.wp λv Y qQ=>iN qQ λx F y z=>k v Y F x y z
theorem T.Cx{t:aE aa}{i:Int}(h:T A t s (EP H aJ (a9 i) fr))(k:∀t Y,dz H aJ Y->Q (ah i t) Y):ax (aG prog w) A t Q a6 s:=h.tN λ_ Y _ e aO _=>aO.zI (P:=λv=>Q v Y) λt=>k t Y e
theorem T.Z7{t:aE aa}{u:aa}(h:T A t s (EP H aJ (aX u) fr))(k:∀Y,dz H aJ Y->Q u Y):ax (aG prog w) A t Q a6 s:=h.tN λ_ Y _ e aO _=>aO.FX (P:=λv=>Q v Y) (k Y e)
theorem T.QM{t:aE (List aa)}{Q:List aa->ae->Prop}(h:T A t s (EPs H aJ avs))(k:∀v Y F,dz H aJ Y->bC Y.heap avs v F->Q v Y):ax (aG prog w) A t Q a6 s:=h.wp λv Y qQ=>Mk qQ λx F y=>k v Y F x y
theorem T.wpB{t:aE Bool}{b:Bool}{Q:Bool->ae->Prop}(h:T A t s (BP H aJ b))(k:∀Y,dz H aJ Y->Q b Y):ax (aG prog w) A t Q a6 s:=h.wp λv Y qQ=>eX qQ λx y=>y▸k Y x
end
section
variable(H:List ab)(U:aN)(A:ck)(L:c9)(J:cg)(G:ig)
def V(e:aw)(av:AV)(fr:Bool):Prop:=
 ∀⦃s:ae⦄,ER H U L J s.heap G->T A (aZ e J) s (EP H s av fr)
def oZ(e:aw)(b:Bool):Prop:=
 ∀⦃s:ae⦄,ER H U L J s.heap G->T A (isTrue e J (aZ e J)) s (BP H s b)
end
section
variable{H:List ab}{U:aN}{A:ck}{L:c9}{J:cg}{G:ig}
theorem bR.ofInt(i:Int)(t:aW):bR h (a9 i) (ah i t) []:=⟨⟨t,rfl⟩,rfl⟩
theorem bR.toInt{i:Int}(x:bR h (a9 i) v F):∃t,v=ah i t:=x.1
theorem bR.ofBool(b:Bool):bR h (fG b) (dB b) []:=⟨rfl,rfl⟩
theorem bR.toBool{b:Bool}(x:bR h (fG b) v F):v=dB b:=x.1
theorem d9:(fr=N->(∀b∈([]:List ab),s.heap.get? b=ai)/\([]:List ab).Nodup):=λ_=>⟨λ_ D=>(kJ D),rL⟩
theorem V.int{i:Int}:V H U A L J G (gn (jd i) k pos) (a9 i) fr:=
 λs _=>xD (oY [] (.toks s _) (.ofInt i _) d9)
theorem V.none:V H U A L J G (gn yt k pos) tJ fr:=
 λs _=>aB (oY [] (.refl s) (⟨rfl,rfl⟩) d9)
theorem aq(x:Nat)(E:cq G x=O (k,av)):V H U A L J G (ar (NM x) pos) av af:=
 λs r=>(v9 r E).wp3 λv Y F e aO=>by show e.symm▸?_;show oY F (.refl _) aO (λh=>Ip h)
theorem Z8{op:BOp}{x y z:Int}{t u:aW}(h:wF op x y=O z):
 T A (Au op.ast (ah x t) (ah y u)) s (λv Y=>dz H s Y/\∃t',v=ah z t'):=by
 have zb:∀{z':Int},z'=z->(dz H s {s with toks:=s.toks+1}/\∃t',ah z' s.toks=ah z t'):=λe=>⟨.toks s _,s.toks,by rw[e]⟩;cases op with
 |add=>show add_int (zb (aV h))
 |sub=>show sub_int (zb (aV h))
 |mul=>
  dsimp only[wF]at h;cases hs:oX x with
  |false=>have h:=hs▸h;ext
  |true=>have h:=hs▸h;have E:=of_decide_eq_true hs;show mul_int (zb (aV h)) (IntMulOk.of_left (intBits_le_64 au au))
 |fdiv=>
  dsimp only[wF]at h;cases hs:(oX y && decide (0<y)) with
  |false=>have h:=hs▸h;ext
  |true=>have h:=hs▸h;show eX (fL.mp hs) λh1 h2=>have h2:=of_decide_eq_true h2;floordiv_int au (zb (aV h)) (ao (PyProof.noPylong_small (of_decide_eq_true h1)))
 |fmod=>
  dsimp only[wF]at h;cases hs:decide (0<y) with
  |false=>have h:=hs▸h;ext
  |true=>have h:=hs▸h;have h2:=of_decide_eq_true hs;show mod_int' au (zb (aV h))
 |pow=>
  dsimp only[wF]at h;cases hs:(oX x && decide (0<=y) && decide (y<=1000)) with
  |false=>have h:=hs▸h;ext
  |true=>have h:=hs▸h;simp only[qt,decide_eq_true_eq]at hs;obtain⟨⟨h1,h2⟩,h3⟩:=hs;have h1:=of_decide_eq_true h1;show pow_int_small h2 au au (zb (aV h))
 |xor=>
  cases x with
  |ofNat x=>cases y with|ofNat y=>show xor_int (zb ((FZ x y).trans (aV h)))|negSucc y=>ext
  |negSucc x=>ext
 |band=>
  cases x with
  |ofNat x=>cases y with|ofNat y=>show and_int (zb ((FY x y).trans (aV h)))|negSucc y=>ext
  |negSucc x=>ext
 |shr=>
  dsimp only[wF]at h;cases hs:decide (0<=y) with
  |false=>have h:=hs▸h;ext
  |true=>have h:=hs▸h;show rshift_int (of_decide_eq_true hs) (zb (aV h))
theorem V.bin(op:BOp){a b:aw}{x y z:Int}(ha:V H U A L J G a (a9 x) af)(D:V H U A L J G b (a9 y) af)(h:wF op x y=O z):V H U A L J G (eu a op.ast b pos) (a9 z) fr:=λs r=>by show Eh ((ha r).Cx λt aD e1=>(D (r.ext e1.ext)).tN λu aQ F2 e2 V2 _=>?_);obtain⟨t',rfl⟩:=V2.toInt;show(Z8 h).wp3 λv de t3 e3 hv=>(oY [] ((e1.trans e2).trans e3) (by subst hv;show .ofInt z t3) d9)
theorem Mt{a:aw}{x:Int}(ha:V H U A L J G a (a9 x) af):V H U A L J G (TX UnaryOp.USub a pos) (a9 (-x)) fr:=λs r=>wpAny_UnaryOp<|(ha r).Cx λt aD e1=>neg_int (oY [] (e1.trans (.toks _ _)) (.ofInt _ _) d9)
theorem Bx{op:COp}{x y:Int}{t u:aW}:T A (Ep op.ast (ah x t) (ah y u)) s (λv Y=>Y=s/\v=dB (gT op x y)):=by
 cases op with
 |eq=>show eq_int ⟨rfl,rfl⟩
 |ne=>show ne_int ⟨rfl,rfl⟩
 |lt=>show lt_int ⟨rfl,rfl⟩
 |le=>show le_int ⟨rfl,rfl⟩
 |gt=>show gt_int ⟨rfl,rfl⟩
 |ge=>show ge_int ⟨rfl,rfl⟩
theorem mz(op:COp){a b:aw}{x y:Int}(ha:V H U A L J G a (a9 x) af)(D:V H U A L J G b (a9 y) af)
 :oZ H U A L J G (j0 a [op.ast] [b] pos) (gT op x y):=λs r=>by
 show uQ ((ha r).Cx λt aD e1=>(D (r.ext e1.ext)).tN λu aQ F2 e2 V2 _=>?_) (r8 op b);obtain⟨t',rfl⟩:=V2.toInt;show T.Dj Bx (l9 ⟨e1.trans e2,rfl⟩)
theorem Ga(op:COp)(x y:Int){a b:aw}(ha:V H U A L J G a (a9 x) af)(D:V H U A L J G b (a9 y) af)
 :V H U A L J G (j0 a [op.ast] [b] pos) (fG (gT op x y)) fr:=λs r=>by
 show wpAny_Compare1 ((ha r).Cx λt aD e1=>(D (r.ext e1.ext)).tN λu aQ F2 e2 V2 _=>?_) (r8 op b);obtain⟨t',rfl⟩:=V2.toInt;show T.Dj Bx (oY [] (e1.trans e2) (.ofBool _) d9)
theorem vE{a b:aw}{x y:Bool}(ha:oZ H U A L J G a x)(D:x=N->oZ H U A L J G b y):
 oZ H U A L J G (Ku V8 [a,b] pos) (x && y):=λs r=>by
 show To (S9 ((ha r).Cu λv aD e1 hv=>?_));subst hv;cases v with
 |false=>show⟨e1,rfl⟩
 |true=>
  show S9<|(D Z (r.ext e1.ext)).Cu λv aQ e2 hv=>hv▸?_;cases v with
  |false=>show⟨e1.trans e2,rfl⟩
  |true=>show wpAny_allTrue_And_nil ⟨e1.trans e2,rfl⟩
theorem QN{a b:aw}{x y:Bool}(ha:oZ H U A L J G a x)(D:x=af->oZ H U A L J G b y):
 oZ H U A L J G (Ku BoolOp.Or [a,b] pos) (x ||y):=λs r=>by
 show To (Tc ((ha r).Cu λv aD e1 hv=>?_));subst hv;cases v with
 |true=>show⟨e1,rfl⟩
 |false=>
  show Tc<|(D Z (r.ext e1.ext)).Cu λv aQ e2 hv=>hv▸?_;cases v with
  |true=>show⟨e1.trans e2,rfl⟩
  |false=>show wpAny_allTrue_Or_nil ⟨e1.trans e2,rfl⟩
theorem FI(x:Bool){a:aw}(ha:oZ H U A L J G a x):oZ H U A L J G (TX UnaryOp.Not a pos) (!x):=λs r=>
 wpAny_isTrue_Not ((ha r).Cu λv aD e1 hv=>⟨e1,congrArg _ hv⟩)
theorem wG(x:Bool){c a b:aw}(hc:oZ H U A L J G c x)(ha:x=N->V H U A L J G a av fr)(D:x=af->V H U A L J G b av fr):V H U A L J G (Expr.IfExp c a b pos) av fr:=λs r=>by
 show wpAny_IfExp ((hc r).Cu λv aD e1 hv=>?_);subst hv;cases v with
 |true=>show(ha Z (r.ext e1.ext)).mono λv aQ q=>iN q λe2 F aO hf=>(oY F (e1.trans e2) aO (λq=>⟨λb D=>e1.ext.new ((hf q).1 b D),(hf q).2⟩))
 |false=>show(D Z (r.ext e1.ext)).mono λv aQ q=>iN q λe2 F aO hf=>(oY F (e1.trans e2) aO (λq=>⟨λb D=>e1.ext.new ((hf q).1 b D),(hf q).2⟩))
end
theorem bC.length:∀{vs:List aa} {F:List ab},bC h K vs F->vs.length=K.length:=by
 induction K with
 |nil=>intro vs F r;show r.1.symm▸?_;rfl
 |cons x K iH=>intro vs F r;apply jN r;intro v tL F1 F2 _ e3 _;simp[iH e3]
theorem bC.get:∀{vs:List aa} {F:List ab},bC h K vs F->∀{i:Nat} {x:AV},K[i]? =O x->∃v F',vs[i]? =O v/\bR h x v F'/\∀b∈F',b∈F:=by
 induction K with
 |nil=>intro vs F r i x e;ext
 |cons y K ih=>
  intro vs F r i x e;apply jN r;intro v tL F1 F2 e2 e3 e4;subst e4;cases i with
  |zero=>show aV e▸N6 v F1 Z e2 (λb D=>by lia)
  |succ i=>show jy (ih e3 e) λv' F' g1 g2 g3=>N6 v' F' g1 g2 (λb D=>by simp[g3 b D])
theorem bC.append:∀{vs ws:List aa} {F F':List ab},bC h K vs F->bC h ys ws F'->bC h (K++ys) (vs++ws) (F++F'):=by
 induction K with
 |nil=>intro vs ws F F' r q;show eX r λe1 e2=>e1▸e2▸q
 |cons x K ih=>intro vs ws F F' r q;apply jN r;intro v tL F1 F2 e2 e3 e4;subst e4;show DP v (tL++ws) F1 (F2++F') Z e2 (ih e3 q) (AI F1 F2 F')
theorem bC.drop(n:Nat):∀{K:List AV} {vs:List aa} {F:List ab},bC h K vs F->∃F',bC h (K.drop n) (vs.drop n) F'/\∀b∈F',b∈F:=by
 induction n with
 |zero=>intro K vs F r;show ct F r (λ_ D=>D)
 |succ n iH=>
  intro yY;cases yY with
  |nil=>intro vs F r;show eX r λe1 e2=>?_;subst e1 e2;show ct [] r (λ_ D=>D)
  |cons x K=>intro vs F r;apply jN r;intro v tL F1 F2 e2 e3 e4;subst e4;show bh (iH e3) λF' g1 g2=>ct F' g1 (λb D=>by simp[g2 b D])
theorem bC.take(n:Nat):∀{K:List AV} {vs:List aa} {F:List ab},bC h K vs F->∃F',bC h (K.take n) (vs.take n) F'/\∀b∈F',b∈F:=by
 induction n with
 |zero=>intro K vs F r;show ct [] .nil (λ_ D=>kJ D)
 |succ n iH=>
  intro yY;cases yY with
  |nil=>intro vs F r;show eX r λe1 e2=>?_;subst e1 e2;show ct [] r (λ_ D=>D)
  |cons x K=>
   intro vs F r;apply jN r;intro v tL F1 F2 e2 e3 e4;subst e4;show bh (iH e3) λF' g1 g2=>((ct (F1++F') (eg F1 F' e2 g1) (λb D=>?_)));simp at D;rcases D with D|D
   .ext
   .show ew F1 (g2 b D)
mutual
noncomputable def flat:AV->Bool
 |tJ|fG _|a9 _|aX _=>N
 |Bn _ x=>flat x
 |gr K=>iU K
 |_=>af
noncomputable def iU:List AV->Bool
 | []=>N
 |x::K=>flat x && iU K
end
theorem cV:(∀(av:AV) (v:aa) (F:List ab),flat av=N->bR h av v F->F=[])/\∀(K:List AV) (vs:List aa) (F:List ab),iU K=N->bC h K vs F->F=[]:=
 Bo (λ_ _ _ r=>r.2) (λ_ _ _ _ r=>r.2) (λ_ _ _ _ r=>r.2) (λ_ _ _ _ r=>r.2) (λ_ _ ih v F hf r=>ih v F hf r.2) (λ_ _ _ _ hf=>Ip hf) (λ_ ih _ _ hf r=>gI r λ_ _ _ _ _ _ e4=>ih _ _ hf e4) (λ_ _ _ _ _ _ hf=>Ip hf) (λ_ _ _ r=>r.2)
  λ_ _ i1 i2 _ _ hf r=>eX (fL.mp hf) λh1 h2=>gv r λ_ _ _ _ _ e2 e3 e4=>by have e4:=i2 _ _ h2 e3▸i1 _ _ h1 e2▸e4;show e4
noncomputable def j9:aw->Bool
 |mj ..=>N
 |_=>af
noncomputable def cG:aw->Bool
 |Expr.Starred ..=>N
 |_=>af
theorem uB{slice:aw}(h:j9 slice=af)(o i:aa):Ei slice af o i=Ax [o,i] (xT o i):=by cases slice<;>first|rfl|(ext)
theorem dp(h:cG e=af)(rest:List aw)(J:cg):iY (e::rest) J=(af,aZ e J)::iY rest J:=by cases e<;>first|rfl|(ext)
noncomputable def BI:List (String×aa):=[("len",bx "len"),("range",ak "range"),("zip",ak "zip"),("list",ak "list"),("min",bx "min"),("max",bx "max"),
 ("bytearray",ak "bytearray"),("tuple",ak "tuple"),("reversed",ak "reversed"),("int",ak "int"),("map",ak "map"),("str",ak "str")]
def dQ(mg mb:aP->Option aa):Prop:=∀p∈BI,mg (aC p.1)=ai/\mb (aC p.1)=O p.2
theorem bX(e:h.get? a=O (br vs n)):h.IsList a vs.toArray:=⟨_,e,rfl,n,rfl⟩
theorem QO.typeIs(e:s.heap.get? a=O (br vs n)):s.TypeIs (R a) "list" :=ct _ e Z
noncomputable def Wi:AV->Int->Option AV
 |bV K,aj k=>cond (dY k 1000000) K[k]? ai
 |bV K,AB k=>cond (dY (k+1) K.length && dY k 1000000) K[K.length - (k+1)]? ai
 |gr K,aj k=>cond (dY k 1000000) K[k]? ai
 |_,_=>ai
theorem Cy{c:Bool}{x:Option α}{y:α}(h:cond c x ai=O y):c=N/\x=O y:=by
 cases c with
 |false=>ext
 |true=>show⟨rfl,h⟩
theorem I6{x:AV}{k:Int}{t:aW}(aO:bR s.heap av v F)(h:Wi av k=O x):
 (∃T id,s.TypeIs v T/\gW (ak T) "__getitem__" =pure (O (bx id)))/\
 T A (xT v (ah k t)) s (λu Y=>Y=s/\∃F',bR s.heap x u F'/\∀b∈F',b∈F):=by
 cases av with
 |list K=>
  apply fP aO;show λa vs n F' _ e3 e4 Z9=>Z9▸⟨(kI ("list") _ (QO.typeIs e3) slot_list_getitem.lookup),?_⟩;cases k with
  |ofNat k=>show eX (Cy h) λh1 h2=>have h1:=dO h1;jy (bC.get e4 h2) λu QP g1 g2 g3=>(Tu (bX e3) fF au (by simpa using g1) ⟨rfl,QP,g2,λb D=>bZ a (g3 b D)⟩)
  |negSucc k=>show eX (Cy h) λh1 h2=>eX (fL.mp h1) λh1 h3=>have h1:=dO h1;have h3:=dO h3;jy (bC.get e4 h2) λu QP g1 g2 g3=>have hl:=bC.length e4;wpAny_getItem_list_neg (bX e3) fF jQ au ?_ ⟨rfl,QP,g2,λb D=>bZ a (g3 b D)⟩;show((by simp;lia:(AB k+(vs.toArray.size:Int)).toNat=K.length - (k+1)))▸?_;simpa using g1
 |tuple K=>
  apply pS aO;show λa vs n _ e3 e4=>⟨(kI ("tuple") _ ⟨_,e3,rfl⟩ Vm.lookup),?_⟩;cases k with
  |ofNat k=>show eX (Cy h) λh1 h2=>have h1:=dO h1;jy (bC.get e4 h2) λu QP g1 g2 g3=>have jA:=(dR.mp g1).1;getItem_tuple (⟨_,e3,rfl,n,rfl⟩) fF au (Cw jA) (by simpa using g1) ⟨rfl,QP,g2,λb D=>g3 b D⟩
  |negSucc k=>ext
 |_=>show Bk (by assumption)
theorem wH{a i:aw}{x:AV}{k:Int}(ha:V H U A L J G a av af)(hi:V H U A L J G i (a9 k) af)(h:Wi av k=O x)(r9:j9 i=af)(ZM:fr=N->flat x=N):V H U A L J G (dk a i pos) x fr:=λs r=>by show rH ((ha r).tN λo aD F1 e1 V1 _=>(hi (r.ext e1.ext)).Cx λt aQ e2=>?_);obtain⟨⟨T',id,hT,hl⟩,hg⟩:=I6 (V1.ext e2.ext) h;show vj hT hl (hg.mono λv de qQ=>iN qQ λe3 F' aO hF=>?_) (uB r9 o _);show e3▸oY F' (e1.trans e2) aO (λq=>by show(cV.1 _ _ _ (ZM q) aO)▸?_;show⟨λ_ D=>(kJ D),rL⟩)
theorem tO(s:ae)(D:hJ H U s.heap)(B:Tp U)(aO:bC s.heap K vs F)(e:Y={s with heap:=s.heap.push (br vs 0)}):
 dz H s Y/\bR Y.heap (bV K) (R s.heap.objs.size) (s.heap.objs.size::F):=by
 subst e;show⟨⟨.push _ _,rfl,rfl,eV _⟩,?_⟩;show rZ F (fi (jz B D)) (bK _ Z) (aO.ext (H:=H) (.push _ _))
theorem Mu(D:hJ H U s.heap)(B:Tp U)(aO:bC s.heap K vs F)(e:Y={s with heap:=s.heap.push (cU vs 0)}):
 dz H s Y/\bR Y.heap (gr K) (R s.heap.objs.size) F:=by
 subst e;show⟨⟨.push _ _,rfl,rfl,eV _⟩,?_⟩;show DO _ vs 0 Z (fi (jz B D)) (bK _ Z) (aO.ext (H:=H) (.push _ _))
def fJ(H:List ab)(U:aN)(A:ck)(L:c9)(J:cg)(G:ig)(es:List aw)(avs:List AV):Prop:=
 ∀s pos,ER H U L J s.heap G->T A (oB (jI pos (iY es J))) s (EPs H s avs)
theorem fJ.nil:fJ H U A L J G [] []:=λs _ _=>TG (aec (.refl s) .nil)
theorem fJ.cons(he:V H U A L J G e av af)(hes:fJ H U A L J G es avs)(dH:cG e=af):
 fJ H U A L J G (e::es) (av::avs):=λs pos r=>
 JW ((he r).tN λv aD F1 e1 V1 _=>(hes aD pos (r.ext e1.ext)).QM λvs aQ F2 e2 V2=>
  (aec (e1.trans e2) (eg F1 F2 (V1.ext e2.ext) V2))) (dp dH _ _)
theorem o4(B:Tp U)(he:fJ H U A L J G es avs)(hf:iU avs=N)(hl:dY avs.length 1000=N):
 V H U A L J G (AD es pos) (bV avs) fr:=λs r=>by
 show Kf ((he s pos r).QM λvs aD F1 e1 V1=>⟨?_,?_⟩)
 .have:=bC.length V1;have:=dO hl;lia
 .show eX (tO _ (r.ext e1.ext).base B V1 Z) λe2 aO=>?_;have:F1=[]:=cV.2 _ _ _ hf V1;subst this;show⟨e1.trans e2,_,aO,λ_=>⟨λb D=>by simp at D;subst D;show e1.ext.new (bF _),by simp⟩⟩
theorem uj(B:Tp U)(he:fJ H U A L J G es avs)(hf:iU avs=N)(hl:dY avs.length 1000=N):
 V H U A L J G (il es k pos) (gr avs) fr:=λs r=>by
 show Ej ((he s pos r).QM λvs aD F1 e1 V1=>⟨?_,?_⟩)
 .have:=bC.length V1;have:=dO hl;lia
 .show eX (Mu (r.ext e1.ext).base B V1 Z) λe2 aO=>?_;have:F1=[]:=cV.2 _ _ _ hf V1;subst this;show⟨e1.trans e2,_,aO,λ_=>⟨λb D=>(kJ D),rL⟩⟩
theorem aeR{a b:aw}(B:Tp U)(ha:V H U A L J G a (bV K) af)(D:V H U A L J G b (bV ys) af)(hf:iU K=N)(hg:iU ys=N)(hl:dY (K.length+ys.length) 1000=N):V H U A L J G (eu a rM b pos) (bV (K++ys)) fr:=λs r=>by show Eh ((ha r).tN λv aD F1 e1 V1 _=>(D (r.ext e1.ext)).tN λu aQ F2 e2 V2 _=>?_);apply fP (V1.ext e2.ext);intro a vs n F' _ a3 a4 Z9;apply fP V2;intro b ws m QP _ b3 b4 eF2;have l1:=bC.length a4;have l2:=bC.length b4;have hl:=dO hl;have n1:=cV.2 _ _ _ hf a4;have n2:=cV.2 _ _ _ hg b4;subst n1 n2;show P.add_list a3 b3 ?_ (by have:fc=16777216:=rfl;simp;lia);have I7:=e1.trans e2;show eX (tO aQ (r.ext I7.ext).base B (bC.append a4 b4) Z) λe3 aO=>(((List.append_toArray vs ws))▸⟨I7.trans e3,_,aO,λ_=>⟨λb D=>by obtain rfl:=bJ.mp D;show I7.ext.new (bF _),by simp⟩⟩)
theorem V.len{a:aw}(B:cA U mg mb)(I:dQ mg mb)(kO:Gi L "len")(ha:V H U A L J G a (bV K) af)(dH:cG a=af)(hl:dY K.length 1000000=N):V H U A L J G (bI (ar (aC "len") np) [a] [] pos) (a9 K.length) fr:=λs r=>by have hI:=I ("len",bx "len") aK;show ma<|(ez B r kO hI.1 hI.2 (rfl)).Dj<|yq ((fJ.cons ha fJ.nil dH s pos r).QM λvs aD F1 e1 V1=>?_) (dp dH _ _) Z;apply nG V1;intro v G1 V2;apply fP V2;intro a ws n F' _ a3 a4 _;have l1:=bC.length a4;have hl:=dO hl;show call_len_list (bX a3) jQ (((TS.mpr l1))▸⟨e1.trans (.toks _ _),[],.ofInt _ _,d9⟩)
noncomputable def jf:List AV->Option (List Int)
 | []=>O []
 |a9 i::K=>(jf K).map (i::·)
 |_::_=>ai
theorem nX(ns:List Int):jf (ns.map a9)=O ns:=by
 induction ns with
 |nil=>rfl
 |cons n ns ih=>show congrArg (UL (n::·)) ih
theorem zJ:∀(k:Nat) (K:List AV),iU K=N->iU (K.drop k)=N:=by
 intro k;induction k with
 |zero=>show λ_ h=>h
 |succ k ih=>show λK h=>match K with
  | []=>rfl
  |_::K=>ih K (fL.mp h).2
theorem zK:∀(k:Nat) (K:List AV),iU K=N->iU (K.take k)=N:=by
 intro k;induction k with
 |zero=>show λ_ _=>rfl
 |succ k ih=>show λK h=>match K with
  | []=>rfl
  |_::K=>fL.mpr ⟨(fL.mp h).1,ih K (fL.mp h).2⟩
theorem Gb:∀{ns:List Int},jf K=O ns->iU K=N:=by
 induction K with
 |nil=>intro _ _;show rfl
 |cons x K iH=>
  intro ns h;cases x with
  |int i=>show bh (jc.mp h) λms h1 _=>(iH h1:)
  |_=>show Bk h
theorem intsAre_of:∀{vs:List aa} {F:List ab} {ns:List Int},bC h K vs F->jf K=O ns->fh vs ns:=by
 induction K with
 |nil=>intro vs F ns r e;apply vA r;intro _;obtain rfl:=aV e;show qw
 |cons x K iH=>
  intro vs F ns r e;apply jN r;intro v tL F1 F2 e2 e3 _;cases x with
  |int i=>show bh (jc.mp e) λms h1 dX=>dX▸?_;apply bR.zI e2;show λt=>yB i t (iH e3 h1)
  |_=>show Bk e
theorem wI{ns:List Int}(x:fh vs ns):bC h (ns.map a9) vs []:=by
 induction x with
 |nil=>show .nil
 |cons n t _ ih=>show eg [] [] (.ofInt n t) ih
theorem bC.replicate{x:AV}(E:bR h x v []):∀n:Nat,bC h (cb n x) (cb n v) []:=by
 intro xX;induction xX with
 |zero=>show .nil
 |succ n iH=>show eg [] [] E (iH)
theorem QR{x:aP}(o r:aa):letTemporaryGo (ar x p) o r=pure ():=by cases o<;>rfl
theorem Cz{de:ae}{us:List aa}{F':List ab}{vl vu:aa}{its:Array aa}(ajz:its=us.toArray)(r:hJ H U de.heap)(B:Tp U)(e:dz H s de)(hf:iU ys=N)(aO:bC de.heap ys us F'):
 dz H s {de with heap:=(de.heap.push {cls:=ak "slice",data:=bH #[vl,vu,aA]}).push {cls:=ak "list",data:=bU its}}/\
  ∃F,bR ((de.heap.push {cls:=ak "slice",data:=bH #[vl,vu,aA]}).push {cls:=ak "list",data:=bU its}) (bV ys) (R (de.heap.objs.size+1)) F/\(fr=N->(∀b∈F,s.heap.get? b=ai)/\F.Nodup):=by
 subst ajz;have n2:=cV.2 _ _ _ hf aO;subst n2;have x1:hJ H de.heap (de.heap.push {cls:=ak "slice",data:=bH #[vl,vu,aA]}):=.push _ _;show eX (tO ({de with heap:=de.heap.push {cls:=ak "slice",data:=bH #[vl,vu,aA]}}) (r.trans x1) B (aO.ext x1) Z) λe2 V2=>?_;have hs:(de.heap.push {cls:=ak "slice",data:=bH #[vl,vu,aA]}).objs.size=de.heap.objs.size+1:=dD ..;rw[hs]at V2;have e1:dz H de {de with heap:=de.heap.push {cls:=ak "slice",data:=bH #[vl,vu,aA]}}:=⟨x1,rfl,rfl,eV _⟩;show⟨e.trans (e1.trans e2),_,V2,λ_=>⟨λb D=>?_,by simp⟩⟩;apply jT D;show e.ext.new<|x1.new<|hs▸bF _
theorem Od{x:aP}{hi:aw}(B:Tp U)(ha:V H U A L J G (ar x np) (bV K) af)(hh:V H U A L J G hi (a9 (aj k)) af)(hf:iU K=N)(hl:dY K.length 1000000=N):V H U A L J G (dk (ar x np) (mj eU (O hi) eU p) pos) (bV (K.take k)) fr:=λs r=>by show JK ((ha r).tN λv aD F1 e1 V1 _=>?_) QR;show aB ((hh (r.ext e1.ext)).Cx λt aQ e2=>?_);apply fP (V1.ext e2.ext);intro a vs n F' _ a3 a4 Z9;have hl:=dO hl;have l1:=bC.length a4;show bh (bC.take k a4) λQP V3 _=>aeM a vs.toArray eU (O (aj k)) Z (bX a3) (by have:fc=16777216:=rfl;simp;lia) LR (oT _ _)<|Cz (slicePick_upto' vs.toArray k) ((r.ext e1.ext).ext e2.ext).base B (e1.trans e2) (zK k K hf) V3
theorem QS{x:aP}{lo:aw}(B:Tp U)(ha:V H U A L J G (ar x np) (bV K) af)(hh:V H U A L J G lo (a9 (aj k)) af)(hf:iU K=N)(hl:dY K.length 1000000=N):V H U A L J G (dk (ar x np) (mj (O lo) eU eU p) pos) (bV (K.drop k)) fr:=λs r=>by show JK ((ha r).tN λv aD F1 e1 V1 _=>?_) QR;show(hh (r.ext e1.ext)).Cx λt aQ e2=>(aB ?_);apply fP (V1.ext e2.ext);intro a vs n F' _ a3 a4 Z9;have hl:=dO hl;have l1:=bC.length a4;show bh (bC.drop k a4) λQP V3 _=>((aeM a vs.toArray (O (aj k)) eU Z (bX a3) (by have:fc=16777216:=rfl;simp;lia) (oT _ _) LR ?_));show Cz (slicePick_from' vs.toArray k) ((r.ext e1.ext).ext e2.ext).base B (e1.trans e2) (zJ k K hf) V3
theorem Wj{x:aP}{lo hi:aw}{m:Nat}(B:Tp U)(ha:V H U A L J G (ar x np) (bV K) af)(hh:V H U A L J G lo (a9 (aj k)) af)(hj:V H U A L J G hi (a9 (aj m)) af)(hf:iU K=N)(hl:dY K.length 1000000=N)(QT:dY k m=N)(hm:dY m K.length=N):
 V H U A L J G (dk (ar x np) (mj (O lo) (O hi) eU p) pos) (bV ((K.drop k).take (m - k))) fr:=λs r=>by
 show JK ((ha r).tN λv aD F1 e1 V1 _=>?_) QR;show(hh (r.ext e1.ext)).Cx λt aQ e2=>((hj ((r.ext e1.ext).ext e2.ext)).tN λu' de F3 e3 V4 _=>?_);obtain⟨t',rfl⟩:=V4.toInt;apply fP ((V1.ext e2.ext).ext e3.ext);intro a vs n F' _ a3 a4 Z9;have hl:=dO hl;have l1:=bC.length a4;show bh (bC.drop k a4) λQP V3 _=>bh (bC.take (m - k) V3) λF3' V5 _=>aeM a vs.toArray (O (aj k)) (O (aj m)) Z (bX a3) (by have:fc=16777216:=rfl;simp;lia) (oT _ _) (oT _ _) (Cz (slicePick_run vs.toArray k m (by simp;show le_of_le_of_eq (dO hm) (id (mn l1))) (dO QT)) (((r.ext e1.ext).ext e2.ext).ext e3.ext).base B ((e1.trans e2).trans e3) (zK _ _ (zJ k K hf)) V5)
theorem Yc{l:ab}{x:Int}{u:aW}(hl:s.heap.get? l=O {cls:=ak "list",dict:=ai,data:=bU items k,slots:=#[]})(Iq: -(2 ^ 63:Int)<=x)(hhi:x<2 ^ 63)(hsz:items.size * x.toNat<=2 ^ 24)(h:Q (R s.heap.objs.size) {s with heap:=s.heap.push {cls:=ak "list",data:=bU (yf (λx1 x2=>x1++x2) #[] (cb (if items.isEmpty=N then 0 else x.toNat) items))}}):
 ax (aG prog w) A (Au vo (R l) (ah x u)) Q a6 s:=
 wpAny_binaryOp_repeat_ref (rfl) ⟨_,hl,rfl⟩ (λY=>xO Y x u) noFill_list_mul PySem.F.fills_int_mul Fo repeat_list Fn.lookup
  (qf Fo (xO s x u) Vu (Vp _ _) (int___rmul___int_list x u l items k)
   ⟨hl,rfl,⟨_,hl,rfl⟩,qf PySem.F.slot_list_mul ⟨_,hl,rfl⟩ PySem.F.entry_list_mul (PySem.F.args_list_mul_2 _ _)
    (AutoListH.list___mul___list_int_3 l items k x u (by simp[abi];show And.symm ⟨hhi,Iq⟩) au (by simp[Ve];assumption))
    ⟨hl,h⟩⟩)
theorem s'(v:aa)(n:Nat):∀(jx:Array aa),yf (λx1 x2=>x1++x2) jx (cb n #[v])=jx++(cb n v).toArray:=by
 induction n with
 |zero=>intro jx;rfl
 |succ n iH=>intro jx;rw[T8,ix,iH,T8];apply A7;simp
theorem QU{a b:aw}{x:AV}{n:Int}(B:Tp U)(ha:V H U A L J G a (bV [x]) af)(D:V H U A L J G b (a9 n) af)(hf:flat x=N)(hl:decide (-1000<=n)=N)(C':decide (n<=1000)=N):V H U A L J G (eu a vo b pos) (bV (cb n.toNat x)) fr:=λs r=>by
 show Eh<|(ha r).tN λv aD F1 e1 V1 _=>(D (r.ext e1.ext)).wp λu aQ oq=>iN oq λe2 F2 V2 _=>dG V2.toInt λt dX=>dX▸iQ (V1.ext e2.ext) λa vs m F' qD _ a3 a4 DQ=>qD▸kK a4 λv tL G1 G2 NR V3 V4 ZN=>?_;subst NR;show eX V4 λeQ6 eQ7=>?_;subst eQ6;have n1:=cV.1 _ _ _ hf V3;subst n1;show Yc a3 au au jQ ?_;have I7:=e1.trans e2;have ha:(yf (λx1 x2=>x1++x2) #[] (cb (if(#[v]:Array aa).isEmpty=N then 0 else n.toNat) #[v]))=(cb n.toNat v).toArray:=by rw[s'];show U3
 show ha.symm▸eX (tO aQ (r.ext I7.ext).base B (bC.replicate V3 n.toNat) Z) λe3 aO=>⟨I7.trans e3,_,aO,λ_=>⟨λb D=>by simp at D;subst D;show I7.ext.new (bF _),by simp⟩⟩
theorem Gd{a b:aa}{ns ms:List Int}{F':List ab}(hA:Z5 k A)(hk:4<=k)(V1:bR s.heap (bV K) a F)(V2:bR s.heap (bV ys) b F')(h1:jf K=O ns)(h2:jf ys=O ms):
 T A (Ep Bh a b) s (λv Y=>Y=s/\v=dB (decide (ns=ms)))/\T A (Ep FD a b) s (λv Y=>Y=s/\v=dB (!decide (ns=ms))):=by
 apply fP V1;intro a vs n G _ a3 a4 _;apply fP V2;intro b ws m G' _ b3 b4 _;have hu:A.units+64<cLine:=by have:=hA.units;have:cLine=9900:=rfl;lia
 show⟨PySem.W.ke_eq_ints (bX a3) (bX b3) (intsAre_of a4 h1) (intsAre_of b4 h2) hu ⟨rfl,rfl⟩,PySem.W.ke_ne_ints (bX a3) (bX b3) (intsAre_of a4 h1) (intsAre_of b4 h2) hu ⟨rfl,rfl⟩⟩
theorem abF{a b:aw}{ns ms:List Int}(hA:Z5 k A)(hk:4<=k)(ha:V H U A L J G a (bV K) af)(D:V H U A L J G b (bV ys) af)(h1:jf K=O ns)(h2:jf ys=O ms):oZ H U A L J G (j0 a [FD] [b] pos) (!decide (ns=ms)):=λs r=>by show uQ ((ha r).tN λv aD F1 e1 V1 _=>(D (r.ext e1.ext)).tN λu aQ F2 e2 V2 _=>?_) (r8 .ne b);show T.Dj (Gd hA hk (V1.ext e2.ext) V2 h1 h2).2 (l9 ⟨e1.trans e2,rfl⟩)
theorem oZ.Wl{a:aw}{y:aP}{x:Int}{ms:List Int}(ha:V H U A L J G a (a9 x) af)(D:V H U A L J G (ar y np) (bV ys) af)(h2:jf ys=O ms):oZ H U A L J G (j0 a [Bg] [ar y np] pos) (!(ms.any (· ==x))):=λs r=>by show uQ ((ha r).Cx λt aD e1=>(D (r.ext e1.ext)).tN λu aQ F2 e2 V2 _=>?_) Z;apply fP V2;show λb ws m G' _ b3 b4 _=>notin_list_ints (bX b3) (intsAre_of b4 h2) (l9 ⟨e1.trans e2,rfl⟩)
theorem abG{a b:aw}{x y:Int}(hA:Z5 k A)(B:cA U mg mb)(I:dQ mg mb)(kO:Gi L "min")(ha:V H U A L J G a (a9 x) af)(D:V H U A L J G b (a9 y) af)(ZO:cG a=af)(hb':cG b=af):V H U A L J G (bI (ar (aC "min") np) [a,b] [] pos) (a9 (if y<x then y else x)) fr:=λs r=>by
 have hI:=I ("min",bx "min") aK;show ma<|(ez B r kO hI.1 hI.2 (rfl)).Dj<|yq ((fJ.cons ha (fJ.cons D fJ.nil hb') ZO s pos r).QM λvs aD F1 e1 V1=>?_) (dp ZO _ _) (by rw[dp hb'];rfl);apply nH V1;intro v v2 G1 G3 V2 V4;apply bR.zI V2;intro t;show dG V4.toInt λt' dX=>dX▸min_two_ints hA.hd λh' tk hk=>(oY [] (e1.trans ⟨.of_keep hk,rfl,rfl,eV _⟩) ?_ d9);by_cases c:y<x
 .rw [if_pos c,if_pos c];show .ofInt _ _
 .rw [if_neg c,if_neg c];show .ofInt _ _
section
variable{H:List ab}{h:aN}
theorem Mq.uniq{x:Nat}{c c':Option ab}{v v':Option aa}(p:Mq h fd x c v)(q:Mq h fd x c' v'):c=c'/\v=v':=by show og λgG kG=>l0 p λk v1 g1 g2 g3 _ i1=>bh i1 λoo g5 g6=>l0 q λk' v1' g1' g2' g3' _ i1=>bh i1 λoo' g5' g6'=>kG ?_;clear kG gG;obtain rfl:=aV (g3.symm.trans g3');obtain rfl:=aV (g5.symm.trans g5');show⟨g1.trans g1'.symm,g2.trans ((Data.cell.inj (g6.symm.trans g6')).trans g2'.symm)⟩
theorem vx.uniq{cs cs':List ab}{tL:List aa}(p:vx h ns fd cs vs)(q:vx h ns fd cs' tL):cs=cs'/\vs=tL:=by
 have hc:∀i:Nat,cs[i]? =cs'[i]? /\vs[i]? =tL[i]? :=λi=>by show ZW (ns[i]?) (λhi=>?_) λx hi=>(p.1 i x hi).uniq (q.1 i x hi);have h1:∀{α:Type} (l:List α),l.length=ns.length->l[i]? =eU:=λl hl=>TZ.mpr (hl▸TZ.mp hi);show(h1 cs p.2.1).symm▸(h1 cs' q.2.1).symm▸(h1 vs p.2.2).symm▸(h1 tL q.2.2).symm▸⟨rfl,rfl⟩
 show⟨EF λi=>(hc i).1,EF λi=>(hc i).2⟩
theorem QV:(∀(av:AV) (v:aa) (F F':List ab),bR h av v F->bR h av v F'->F=F')/\∀(K:List AV) (vs:List aa) (F F':List ab),bC h K vs F->bC h K vs F'->F=F':=by
 have fl:∀(p:Prop) (F F':List ab),p/\F=[]->p/\F'=[]->F=F':=λ_ _ _ r q=>r.2.trans q.2.symm;show Bo (λ_=>fl _) (λ_ _=>fl _) (λ_ _=>fl _) (λ_ _=>fl _) (λu x ih v F F' r q=>ih v F F' r.2 q.2) (λK ih v F F' r q=>?_) (λK ih v F F' r q=>?_) (λf ns K ih v F F' r q=>?_) (λ_=>fl _) (λx K i1 i2 vs F F' r q=>?_)
 .show fO r λa vs n G e1 _ e3 e4 dX=>(fO q λa' tL n' G' QW _ D' e4' qD=>?_);obtain rfl:=j7 (e1.symm.trans QW);have e:vs=tL:=congrArg U7 (VW (congrArg E4 (aV (e3.symm.trans D')))).1;show dX▸qD▸congrArg _ (ih vs _ _ e4 (e▸e4'))
 .show gI r λa vs n e1 _ e3 e4=>(gI q λa' tL n' QW _ D' e4'=>?_);obtain rfl:=j7 (e1.symm.trans QW);have e:vs=tL:=congrArg U7 (VW (congrArg E4 (aV (e3.symm.trans D')))).1;show ih vs _ _ e4 (e▸e4')
 .show km r λa o fd cs vs G e1 _ e3 e4 _ _ c e5 DQ=>(km q λa' o' fd' cs' tL G' QW _ D' e4' _ _ c' e5' NR=>?_);obtain rfl:=j7 (e1.symm.trans QW);obtain rfl:=aV (e3.symm.trans D');obtain rfl:=Data.func.inj (e4.symm.trans e4');show eX (c.uniq c') λh1 h2=>?_;rw[DQ,NR,h1,ih vs _ _ e5 (h2▸e5')]
 .show gv r λv tL F1 F2 e1 e2 e3 dX=>(gv q λv' als F1' F2' QW e2' D' qD=>?_);obtain⟨rfl,rfl⟩:=mu (e1.symm.trans QW);rw[dX,qD,i1 v _ _ e2 e2',i2 tL _ _ e3 D']
theorem bR.uniq{F':List ab}(r:bR h av v F)(q:bR h av v F'):F=F':=QV.1 av v F F' r q
theorem Dk:(∀(av:AV) (v:aa) (F:List ab),bR h av v F->∀b∈F,b∉bY/\∃o,h.get? b=O o/\((o.cls=ak "list" /\∃vs n,o.data=bU vs n)\/∃v,o.data=oO v))/\
 ∀(K:List AV) (vs:List aa) (F:List ab),bC h K vs F->∀b∈F,b∉bY/\∃o,h.get? b=O o/\((o.cls=ak "list" /\∃vs n,o.data=bU vs n)\/∃v,o.data=oO v):=by
 have fl:∀{p:Prop} {F:List ab} {P:ab->Prop},p/\F=[]->∀b∈F,P b:=λr b D=>kJ (r.2▸D);show Bo (λ_ _=>fl) (λ_ _ _=>fl) (λ_ _ _=>fl) (λ_ _ _=>fl) (λu x ih v F r=>ih v F r.2) (λK ih v F r b D=>?_) (λK ih v F r b D=>gI r λa vs n e1 _ e3 e4=>ih vs F e4 b D) (λf ns K ih v F r b D=>?_) (λ_ _=>fl) (λx K i1 i2 vs F r b D=>?_)
 .show fO r λa vs n G e1 e2 e3 e4 dX=>?_;subst dX;show bf (bu.mp D) (λa1=>a1▸⟨e2,_,e3,ao ⟨rfl,_,_,rfl⟩⟩) λD=>ih vs G e4 b D
 .show km r λa o fd cs vs G e1 _ e3 e4 _ _ cc e5 qD=>?_;subst qD;rcases b9.mp D with D|D
  .show dG (sR D) λi hi=>?_;have jA:i<ns.length:=cc.2.1▸(dR.mp hi).1;show og λgG kG=>l0 (cc.1 i ns[i] (dE jA)) λk v1 g1 g2 g3 g4 i1=>bh i1 λoo g5 g6=>?_;show kG ?_;clear kG gG;show aV (hi.symm.trans g1)▸⟨g4,oo,g5,aH ⟨_,g6⟩⟩
  .show ih vs G e5 b D
 .show gv r λv tL F1 F2 e1 e2 e3 dX=>?_;subst dX;show bf (b9.mp D) (λD=>i1 v F1 e2 b D) λD=>i2 tL F2 e3 b D
theorem bR.kinds(r:bR h av v F):∀b∈F,b∉bY/\∃o,h.get? b=O o/\((o.cls=ak "list" /\∃vs n,o.data=bU vs n)\/∃v,o.data=oO v):=Dk.1 av v F r
theorem bC.kinds(r:bC h K vs F):∀b∈F,b∉bY/\∃o,h.get? b=O o/\((o.cls=ak "list" /\∃vs n,o.data=bU vs n)\/∃v,o.data=oO v):=Dk.2 K vs F r
end
theorem Ah.uniq{J:cg}{h:aN}{x:aP}{v':aa}(a:Ah J h x v)(b:Ah J h x v'):v=v':=by
 rcases a with⟨k,m,n,e⟩|⟨k,c,e1,_,⟨o,e2,e3⟩⟩<;>rcases b with⟨k',m',n',e'⟩|⟨k',c',QW,_,⟨o',e2',D'⟩⟩
 .show gI n λo es ep a1 a2 _ a3=>(gI n' λo' es' ep' b1 b2 _ b3=>?_);replace b1:=a1▸b1;obtain rfl:=aV b1;replace b2:=a2▸b2;cases b2
  have:=a3 x;rw[b3 x,e',e]at this;show(aV this).symm
 .rw [k]at k';rcases k' with k' |k'<;>cases k'
 .rw [k']at k;rcases k with k|k<;>cases k
 .obtain rfl:=aV (e1.symm.trans QW);obtain rfl:=aV (e2.symm.trans e2');rw[e3]at D';simp only[Data.cell.injEq,Option.some.injEq]at D';show D'
def LS(h:aN)(b:ab):Prop:=∃vs n,h.get? b=O (br vs n)
theorem LS.ext{h:aN}{b:ab}(x:hJ H h h')(ht:b∉bY)(l:LS h b):LS h' b:=ji l λvs n e=>qB vs n (x.keep b _ ht e)
theorem LS.mN{h:aN}{b:ab}{v:Option aa}(l:LS h b)(c:h.IsCell b v):False:=by show ji l λvs n e=>(bh c λo e' d=>?_);obtain rfl:=aV (e.symm.trans e');ext
theorem LS.Mv{h:aN}{b:ab}(l:LS h b)(c:h.Ns b m):False:=by show ji l λvs n e=>(tH c λo es ep e' d _=>?_);replace e':=e▸e';obtain rfl:=aV e';ext
section
variable(J:cg)(h:aN)(G:ig)(W:List ab)(val:Nat->aa)(fp:Nat->List ab)(x:Nat)
structure aeS(b:ab):Prop where
 mem:b∈W
 ls:LS h b
 ap:∀y k' mx,cq G y=O (k',mx)->y≠x->b∉fp y
structure Own:Prop where
 nd:(fp x).Nodup
 el:∀b∈fp x,aeS h G W fp x b
structure Ent(k:Nat)(av:AV):Prop where
 has:Ah J h (NM x) (val x)
 rel:bR h av (val x) (fp x)
 own:k=1->Own h G W fp x
 shd:k≠1->∀b∈fp x,b∉W
variable{J h G W val fp x}
theorem qE{b:ab}{P:Prop}(q:aeS h G W fp x b)(k:b∈W->LS h b->(∀y k' mx,cq G y=O (k',mx)->y≠x->b∉fp y)->P):P:=k q.1 q.2 q.3
theorem mA{P:Prop}(q:Ent J h G W val fp x k av)(c:Ah J h (NM x) (val x)->bR h av (val x) (fp x)->(k=1->Own h G W fp x)->(k≠1->∀b∈fp x,b∉W)->P):P:=c q.1 q.2 q.3 q.4
theorem Ent.of(e1:val x=v)(e2:fp x=F)(a:Ah J h (NM x) v)(b:bR h av v F)(n:k=1->F.Nodup)(c:k=1->∀b∈F,aeS h G W fp x b)(d:k≠1->∀b∈F,b∉W):Ent J h G W val fp x k av:=by subst e1 e2;show⟨a,b,λq=>⟨n q,c q⟩,d⟩
variable(J h G W val fp)
def ajA:Prop:=∀x k av,cq G x=O (k,av)->Ent J h G W val fp x k av
end
section
variable(H:List ab)(U:aN)
structure FR(D:aN)(L:c9)(J:cg)(h:aN)(G:ig)(W:List ab):Prop where
 b1:hJ H U D
 ext:hJ H D h
 scope:J.scope=L
 kind:L.kind=d0
 glob:J.globals=ef
 bi:J.builtins=fY
 loc:J.locals∈W
 ns:∃m,h.Ns J.locals m
 cell:∀x,L.names.lookup (NM x)=O dw->∃c,J.cells.lookup (NM x)=O c/\(∃v,h.IsCell c v)/\c∉bY/\((∃av,cq G x=O (2,av))\/c∈W)
 pT:∀x y c,L.names.lookup (NM x)=O dw->J.cells.lookup (NM x)=O c->J.cells.lookup (NM y)=O c->y=x
 jj:∀b∈W,D.get? b=ai/\b∉bY/\Cr h b
 ents:∃(val:Nat->aa) (fp:Nat->List ab),ajA J h G W val fp
end
section
variable{H:List ab}{U:aN}{J:cg}{h:aN}{G:ig}{W:List ab}
theorem FR.base(r:FR H U D L J h G W):hJ H U h:=r.b1.trans r.ext
theorem FR.er(r:FR H U D L J h G W):ER H U L J h G where
 base:=r.base
 kind:=r.scope.symm▸r.kind
 gl:=λx E=>by delta j8;show r.scope.symm▸?_;show E
 Wh:=λx E=>by delta j8;show r.scope.symm▸E
 glob:=r.glob
 bi:=r.bi
 loc:=(r.jj _ r.loc).2.1
 has:=λx k av e=>ji r.ents λval fp q=>kI (val x) (fp x) ((q x k av e).1) ((q x k av e).2)
theorem Cr.ext{b:ab}(x:hJ H h h')(ht:b∉bY)(m:Cr h b):Cr h' b:=bh m λo e r=>ct o (x.keep b o ht e) r
theorem FR.abH(r:FR H U D L J h G W)(b1:hJ τ' U D)(x:hJ τ' D h')(kW:∀b∈W,∀o,h.get? b=O o->h'.get? b=O o)(kC:∀c v,c∉bY->h.IsCell c v->h'.IsCell c v)(kE:∀y k av v F,cq G y=O (k,av)->bR h av v F->bR h' av v F):FR τ' U D L J h' G W where
 b1:=b1
 ext:=x
 scope:=r.scope
 kind:=r.kind
 glob:=r.glob
 bi:=r.bi
 loc:=r.loc
 ns:=r.ns.imp λm n=>n.at' (kW _ r.loc)
 cell:=λy hy=>lZ (r.cell y hy) λc a b d e=>wB c a (b.imp λv q=>kC c v d q) d e
 pT:=r.pT
 jj:=λb D=>hx (r.jj b D) λp q m=>gS p q (Bj (λo q=>⟨kW b D o q.1,q.2⟩) m)
 ents:=ji r.ents λval fp q=>qB val fp (λy k av e=>mA (q y k av e) λa b c d=>⟨a.imp (λq=>⟨q.1,q.2.imp λm q=>⟨q.1.at' (kW _ r.loc),q.2⟩⟩) λq=>⟨q.1,q.2.imp λc q=>⟨q.1,q.2.1,kC _ _ q.2.1 q.2.2⟩⟩,kE y k av _ _ e b,
  λhk=>⟨(c hk).1,λz hz=>qE ((c hk).2 z hz) λp1 p2 p3=>⟨p1,p2.imp λvs q=>q.imp λn q=>kW z p1 _ q,p3⟩⟩,d⟩)
theorem FR.grow(r:FR H U D L J h G W)(x:hJ H h h'):FR H U D L J h' G W:=
 r.abH r.b1 (r.ext.trans x) (λb hb' o e=>x.keep b o (r.jj b hb').2.1 e) (λ_ _ ht q=>x.cell ht q) λ_ _ _ _ _ _ aO=>aO.ext x
theorem Dl(hs:gw a h h')(ha:U.get? a=ai)(hm:∃o,h'.get? a=O o)(e:hJ H U h)(ht:a∉bY):hJ H U h' where
 keep:=λb o D q=>(hs.2 b (λe'=>by subst e';have q:=ha.symm.trans q;ext)).trans (e.keep b o D q)
 tab:=λb D ps q=>dG (e.tab b D ps q) λm q'=>⟨m,(hs.2 b (λe'=>by subst e';show ht D)).trans q'⟩
 there:=λb o q=>if NS:b=a then NS▸hm else dG (e.there b o q) λo' q'=>⟨o',(hs.2 b NS).trans q'⟩
 quiet:=λb o D ht' q=>(hs.2 b (λe'=>by subst e';show ht D)).trans (e.quiet b o D ht' q)
theorem nY(hs:gw a h h')(hm:∃o,h'.get? a=O o)(ha:a∈W)(ht:a∉bY):Mod W h h' where
 keep:=λb o D _ q=>(hs.2 b (λe'=>by subst e';show D ha)).trans q
 tab:=λb D ps q=>⟨#[],(hs.2 b (λe'=>by subst e';show ht D)).trans q⟩
 there:=λb o q=>if NS:b=a then NS▸hm else⟨o,(hs.2 b NS).trans q⟩
theorem Cr.same{b:ab}(hs:gw a h h')(hm:Cr h' a)(m:Cr h b):Cr h' b:=by
 by_cases NS:b=a
 .subst NS;show hm
 .show bh m λo e r=>ct o ((hs.2 b NS).trans e) r
theorem Mw(n:h.Ns a m):Cr h a:=tH n λo es ep ho hd _=>ct o ho (aH (ao ⟨es,ep,hd⟩))
theorem Ge{v:Option aa}(n:h.IsCell a v):Cr h a:=bh n λo ho hd=>ct o ho (aH (aH ⟨v,hd⟩))
end
noncomputable def abI(W F:List ab):List ab:=W.filter λb=> !F.contains b
theorem iV{W:List ab}{b:ab}:b∈abI W F↔b∈W/\b∉F:=by
 delta abI
 simp
def share(G:ig)(y:Nat):ig:=(cq G y).elim G λp=>cond (fD p.1 1) (jm G y 0 p.2) G
theorem uC(G:ig)(y:Nat):(∃av,cq G y=O (1,av)/\share G y=jm G y 0 av)\/(share G y=G/\∀av,cq G y≠O (1,av)):=by
 delta share
 cases cq G y with
 |none=>show aH ⟨rfl,λ_=>Bk⟩
 |some p=>
  obtain⟨n,av⟩:=p;show if h:n=1 then ?_ else aH ⟨congrArg (λb=>cond b (jm G y 0 av) G) ((Mf n 1).trans (decide_eq_false h)),λ_ e=>h (congrArg Prod.fst (aV e))⟩
  subst h;show ao ⟨av,rfl,rfl⟩
theorem Gg(G:ig)(y x:Nat)(e:cq (share G y) x=O (k,av)):∃k',cq G x=O (k',av)/\(k=k'\/(x=y/\k'=1/\k=0)):=by show(uC G y).elim (λi=>bh i λmx h q=>?_) λi=>⟨k,i.1▸e,ao Z⟩;rw[q,fH]at e;show if r:x=y then XY (aV ((if_pos r).symm.trans e)) λa1 a2=>⟨1,r▸a2▸h,aH ⟨r,rfl,a1.symm⟩⟩ else⟨k,(if_neg r).symm.trans e,ao Z⟩
theorem QX(G:ig)(y:Nat):cq (share G y) y≠O (1,av):=by show(uC G y).elim (λi=>bh i λmx h q e=>?_) λi=>i.1.symm▸i.2 av;rw[q,fH,if_pos Z]at e;show XY (aV e) λa1 _=>nnZ a1
theorem Iy{G:ig}{x:Nat}(h:x≠y):cq (share G y) x=cq G x:=
 (uC G y).elim (λi=>bh i λmx _ q=>by rw[q,fH,if_neg h]) λi=>congrArg (cq · x) i.1
theorem abJ{G:ig}{x:Nat}(h:cq G x=O (2,av)):cq (share G y) x=O (2,av):=by
 by_cases e:x=y
 .show (uC G y).elim (λi=>bh i λmx h' _=>XY (aV (h'.symm.trans (e▸h))) λa1 _=>(uf Z a1).elim) λi=>i.1.symm▸h
 .show (Iy e).symm▸h
theorem Ent.ug{J:cg}{h:aN}{G:ig}{W:List ab}{val:Nat->aa}{fp:Nat->List ab}{x:Nat}{P:List ab->Prop}(q:Ent J h G W val fp x k av)(cB:Ah J h (NM x) v)(aO:bR h av v F)(p:P (fp x)):P F:=by rw[cB.uniq q.1]at aO;show bR.uniq aO q.2▸p
section
variable{H:List ab}{U:aN}{J:cg}{h:aN}{G:ig}{W:List ab}
set_option tactic.hygienic true in
theorem FR.share(r:FR H U D L J h G W)(y:Nat):∃W',FR H U D L J h (Lake.share G y) W'/\(∀b∈W',b∈W)/\
 ∀k av v F,cq G y=O (k,av)->Ah J h (NM y) v->bR h av v F->∀b∈F,b∉W':=by
 show ji r.ents λval fp q=>?_;cases hy:cq G y with
 |none=>show kH W ?_ (λ_ D=>D) (λk av v F e=>Bk e);show(uC G y).elim (λi=>bh i λ_ h _=>Bk (hy.symm.trans h)) λi=>i.1.symm▸r
 |some p=>
  obtain⟨k,av⟩:=p;by_cases hk:k=1
  .subst hk;show mA (q y 1 av hy) λa1 a2 a3 a4=>((kH (abI W (fp y)) ?_ (λb D=>(iV.mp D).1) (λk' mx v F e cB aO b D hw=>?_)))
   .show ⟨r.b1,r.ext,r.scope,r.kind,r.glob,r.bi,iV.mpr ⟨r.loc,λhf=>dG r.ns λm n=>(((a3 Z).2 _ hf).2.Mv n)⟩,r.ns,λx E=>?_,r.pT,λb D=>r.jj b (iV.mp D).1,val,fp,λx k' mx e=>?_⟩
    .obtain ⟨c,c1,⟨cv,c2⟩,c3,c4⟩:=r.cell x E;show wB c c1 ⟨cv,c2⟩ c3 ?_;rcases c4 with⟨av2,c4⟩|c4
     .show ao ⟨av2,abJ c4⟩
     .show aH (iV.mpr ⟨c4,λhf=>((a3 Z).2 _ hf).2.mN c2⟩)
    .show bh (Gg G y x e) λk'' e' Wm=>mA (q x k'' mx e') λb1 b2 b3 b4=>⟨b1,b2,λh1=>?_,λh1 b D hw=>?_⟩
     .cases h1
      rcases Wm with rfl|⟨_,_,h2⟩
      .have hxy:x≠y:=λh3=>by subst h3;show QX G x e
       show⟨(b3 Z).1,λb D=>?_⟩;show qE ((b3 Z).2 b D) λp1 p2 p3=>(⟨iV.mpr ⟨p1,p3 y 1 av hy (λh3=>hxy h3.symm)⟩,p2,λz k3 Yd e3 hz=>?_⟩);show bh (Gg G y z e3) λk4 e4 _=>(p3 z k4 Yd e4 hz)
      .ext
     .show eX (iV.mp hw) λw1 w2=>?_;rcases Wm with rfl|⟨h2,_,_⟩
      .show b4 h1 b D w1
      .subst h2;show w2 D
   .show XY (aV e) λa1 a2=>?_;subst a1;subst a2;show(iV.mp hw).2 ((q y 1 av hy).ug (P:=λF=>b∈F->b∈fp y) cB aO id D)
  .show kH W ((uC G y).elim (λi=>bh i λ_ h _=>(hk (congrArg Prod.fst (aV (hy.symm.trans h)))).elim) λi=>i.1.symm▸r) (λ_ D=>D)<|λk' mx v F e cB aO b D hw=>XY (aV e) λa1 a2=>?_;subst a1;subst a2;show(q y k av hy).shd hk b ((q y k av hy).ug (P:=λF=>b∈F->b∈fp y) cB aO id D) hw
def bW(G:ig)(x:Nat):Bool:=match cq G x with
 |some (2,_)=>af
 |_=>N
theorem zp{G:ig}{x:Nat}(h:bW G x=N):cq G x≠O (2,av):=λe=>by unfold bW at h;have h:=e▸h;ext
theorem FR.stored{x:Nat}(r:FR H U D L J h G W)(hs:gw a h h')(ha:a∈W)(hm:Cr h' a)(Iz:¬LS h a)(wJ:∃m,h'.Ns J.locals m)(Oe:∀c w,a=c->h.IsCell c w->∃w',h'.IsCell c w')(ajB:∀y w,y≠x->Ah J h (NM y) w->Ah J h' (NM y) w)(E:Ah J h' (NM x) v)(aO:bR h av v F)(hWW:∀b∈W,b∈W')(CA:∀b∈W',b∈W\/(b∈F/\k=1))(dH:bW G x=N)(hk:k=1->F.Nodup/\∀b∈F,b∈W'/\LS h b/\D.get? b=ai/\∀y k' mx v' F',y≠x->cq G y=O (k',mx)->Ah J h (NM y) v'->bR h mx v' F'->b∉F')(hk0:k=0->∀b∈F,b∉W')(aeT:k=0\/k=1):FR H U D L J h' (jm G x k av) W':=by
 have ht:=(r.jj a ha).2.1;have hma:∃o,h'.get? a=O o:=bh hm λo e _=>⟨o,e⟩;have M:Mod [a] h h':=nY hs hma au ht;have hmm:∀b∈[a],Cr h b:=λb D=>by show bJ.mp D▸?_;show(r.jj _ ha).2.2
 have LSk:∀b,LS h b->LS h' b:=λb l=>by
  show if NS:b=a then ?_ else ji l λvs n e=>qB vs n ((hs.2 b NS).trans e)
  cases NS;show(Iz l).elim
 show ji r.ents λval fp q=>?_
 -- a is in no Ye of ajm name,nor of the new value
 have aF:a∉F:=λhf=>bf aeT (λh0=>hk0 h0 a hf (hWW a ha)) λh1=>Iz ((hk h1).2 a hf).2.1;have afp:=λy k' mx e hf=>by show mA (q y k' mx e) λb1 b2 b3 b4=>if h1:k'=1 then Iz ((b3 h1).2 a hf).2 else b4 h1 a hf ha
 show⟨r.b1,Dl hs (r.jj a ha).1 hma r.ext ht,r.scope,r.kind,r.glob,r.bi,hWW _ r.loc,wJ,λy hy=>?_,r.pT,λb hb'=>?_,λy=>if y=x then v else val y,λy=>if y=x then F else fp y,λy k' mx e=>?_⟩
 .show lZ (r.cell y hy) λc c1 i1 c3 c4=>dG i1 λcv c2=>wB c c1 (if hca:a=c then Oe c cv hca c2 else bh c2 λo e d=>kI cv o ((hs.2 c (λe'=>hca e'.symm)).trans e) d) c3 ?_;rcases c4 with⟨av2,c4⟩|c4
  .show ao ⟨av2,?_⟩;rw[fH];show if hyx:y=x then ?_ else(if_neg hyx).symm▸c4
   cases hyx;show((zp dH) c4).elim
  .show aH (hWW c c4)
 .rcases CA b hb' with hb' |⟨hb',h1⟩
  .show hx (r.jj b hb') λp1 p2 p3=>gS p1 p2 (Cr.same hs hm p3)
  .show eX (hk h1) λ_ p=>iM (p b hb') λ_ p2 p3 _=>gS p3 ((aO.kinds b hb').1) (ji (LSk b p2) λvs n e=>ct _ e (ao ⟨rfl,_,_,rfl⟩))
 .rw [fH]at e;rcases yF (y=x) with hyx|hyx
  .cases hyx
   replace e:=(if_pos Z)▸e;cases e
   show .of (if_pos Z) (if_pos Z) E (aO.mod M hmm _ _ _ λb hb'=>sJ λe'=>aF (e'▸hb')) (λh1=>(hk h1).1) (λh1 b hb'=>?_) (λh1 b hb'=>bf aeT (λh0=>hk0 h0 b hb') λh0=>(h1 h0).elim);show iM ((hk h1).2 b hb') λp1 p2 p3 p4=>(⟨p1,LSk b p2,λz k3 Yd e3 hz=>?_⟩);rw[fH,if_neg hz]at e3;rw[if_neg hz];show p4 z k3 Yd _ _ hz e3 (q z k3 Yd e3).1 (q z k3 Yd e3).2
  .have e:=(if_neg hyx).symm.trans e;show mA (q y k' mx e) λb1 b2 b3 b4=>(.of (if_neg hyx) (if_neg hyx) (ajB y _ hyx b1) (b2.mod M hmm _ _ _ λb hb'=>sJ λe'=>afp y k' mx e (e'▸hb')) (λh1=>(b3 h1).1) (λh1 b hb'=>?_) (λh1 b hb' hw=>?_))
   .show qE ((b3 h1).2 b hb') λp1 p2 p3=>(⟨hWW b p1,LSk b p2,λz k3 Yd e3 hz=>?_⟩);rw[fH]at e3;by_cases hzx:z=x
    .rw [if_pos hzx];intro hbF;show bf aeT (λh0=>hk0 h0 b hbF (hWW b p1)) λh0=>((hk h0).2 b hbF).2.2.2 y k' mx _ _ hyx e b1 b2 hb'
    .rw [if_neg hzx]at e3;rw[if_neg hzx];show p3 z k3 Yd e3 hz
   .rcases CA b hw with hw|⟨hw,h0⟩
    .show b4 h1 b hb' hw
    .show ((hk h0).2 b hw).2.2.2 y k' mx _ _ hyx e b1 b2 hb'
end
structure mB(W:List ab)(s Y:ae):Prop where
 mod:Mod W s.heap Y.heap
 os:Y.os=s.os
 drawn:Y.drawn=s.drawn
 gens:Y.gens=s.gens
theorem mB.refl(W:List ab)(s:ae):mB W s s:=⟨.refl _ _,rfl,rfl,eV _⟩
theorem dz.smod(W:List ab)(x:dz H s Y):mB W s Y:=⟨x.ext.mod W,x.os,x.drawn,x.gens⟩
theorem mB.trans{a b c:ae}(x:mB W a b)(y:mB W' b c)(hw:∀d,d∈W'->d∈W\/a.heap.get? d=ai):mB W a c:=
 ⟨x.mod.trans y.mod hw,y.os.trans x.os,y.drawn.trans x.drawn,y.gens.trans x.gens⟩
theorem dz.sm{a b c:ae}(e:dz H a b)(m:mB W b c):mB W a c:=(e.smod W).trans m λ_ h=>ao h
theorem dz.mm{a b:ae}(e:dz H a b)(m:Mod W b.heap h'):mB W a {b with heap:=h'}:=e.sm ⟨m,rfl,rfl,eV _⟩
theorem Mod.new(x:Mod W h h'){b:ab}(e:h'.get? b=ai):h.get? b=ai:=by
 cases q:h.get? b with
 |none=>rfl
 |some o=>show dG (x.there b o q) λo' e'=>?_;have e':=e.symm.trans e';ext
theorem Ns.mN{v:Option aa}(n:h.Ns a m)(c:h.IsCell a v):False:=by show tH n λo es ep a1 a2 _=>(bh c λo' b1 b2=>?_);replace b1:=a1▸b1;obtain rfl:=aV b1;have b2:=a2▸b2;ext
structure rP(D:aN)(J:cg)(h:aN)(G:ig)(W W':List ab)(x k:Nat)(F:List ab):Prop where
 sub:∀b∈W,b∈W'
 sup:∀b∈W',b∈W\/(b∈F/\k=1)
 own:k=1->F.Nodup/\∀b∈F,b∈W'/\LS h b/\D.get? b=ai/\∀y k' mx v' F',y≠x->cq G y=O (k',mx)->Ah J h (NM y) v'->bR h mx v' F'->b∉F'
 shared:k=0->∀b∈F,b∉W'
 kind:k=0\/k=1
theorem kb(r:FR H U D L J s.heap G W)(E:Hx L x)(dH:bW G x=N)(aO:bR s.heap av v F)(gC:rP D J s.heap G W W' x k F):
 T A (Aq J (NM x) v) s (λ_ Y=>FR H U D L J Y.heap (jm G x k av) W'/\mB W s Y):=by
 have zq:J.scope.kind=d0:=by rw[r.scope];show r.kind
 show dG r.ns λm n=>?_;rcases E with hl|hl
 .have J':J.kindOf (NM x)=O cZ:=by delta j8;rw[r.scope];show hl
  show sC J' n (λh' wt zL=>?_) (by show zq.symm▸?_;rfl);show⟨r.stored zL r.loc (Mw wt) (λl=>l.Mv n) ⟨_,wt⟩ (λc cv e hc=>?_) (λy u hy cB=>?_) (ao ⟨J',_,wt,if_pos Z⟩) aO gC.sub gC.sup dH gC.own gC.shared gC.kind,
   ⟨nY zL (bh (Mw wt) λo e _=>⟨o,e⟩) r.loc (r.jj _ r.loc).2.1,rfl,rfl,eV _⟩⟩
  .subst e;show((λhc=>Ns.mN n hc) hc).elim
  .rcases cB with⟨k1,m1,n1,e1⟩|⟨k1,c,e1,e2,o,e3,e4⟩
   .show ao ⟨k1,_,wt,?_⟩;rw[if_neg (λe=>hy (Cv e)),Heap.Ns.agree n n1];show e1
   .show aH ⟨k1,c,e1,e2,o,(zL.2 c (λe=>?_)).trans e3,e4⟩;subst e;show Ns.mN n (ct o e3 e4)
 .have J':J.kindOf (NM x)=O dw:=by delta j8;rw[r.scope];show hl
  show og λgG kG=>lZ (r.cell x hl) λc c1 i1 c3 c4=>dG i1 λcv c2=>kG ?_;clear kG gG;have hcW:c∈W:=by
   rcases c4 with⟨av2,c4⟩|c4
   .show ((zp dH) c4).elim
   .show c4
  have hlc:J.locals≠c:=λe=>by subst e;show Ns.mN n c2
  show wpAny_storeName_cell zq J' c1 c2 λh' hc' zL=>⟨r.stored zL hcW (Ge hc') (λl=>l.mN c2) ⟨m,n.sameBut zL hlc⟩ (λc' cv' e hc2=>?_) (λy u hy cB=>?_) (aH ⟨ao J',c,c1,c3,hc'⟩) aO gC.sub gC.sup dH gC.own gC.shared gC.kind,
   ⟨nY zL (bh (Ge hc') λo e _=>⟨o,e⟩) hcW c3,rfl,rfl,eV _⟩⟩
  .subst e;show DN _ hc'
  .rcases cB with⟨k1,m1,n1,e1⟩|⟨k1,c',e1,e2,o,e3,e4⟩
   .show ao ⟨k1,m1,n1.sameBut zL hlc,e1⟩
   .show aH ⟨k1,c',e1,e2,o,(zL.2 c' (λe=>?_)).trans e3,e4⟩;subst e;show hy (r.pT x y c' hl c1 e1)
theorem rP.flat(hF:F=[]):rP D J h G W W x 0 F:=
 ⟨λ_ D=>D,λ_ D=>ao D,(λe=>nnZ e),(λ_ b D=>by subst hF;ext),ao Z⟩
theorem rP.fresh{Of:aN}{z:Nat}(hn:∀b∈F,Of.get? b=ai)(hd:F.Nodup)(hl:∀b∈F,LS h b)(r:FR H U D L J Of G W)(x:hJ H Of h):rP D J h G W (W++F) z 1 F where
 sub:=λb D=>by lia
 sup:=λb D=>bf (b9.mp D) (λD=>ao D) λD=>aH ⟨D,rfl⟩
 own:=λ_=>⟨hd,λb D=>⟨by lia,hl b D,r.ext.new (hn b D),λy k' mx v' F' _ e cB aO hb'=>by show ji r.ents λval fp q=>(mA (q y k' mx e) λa1 a2 _ _=>?_);rw[cB.uniq (a1.ext x (r.jj _ r.loc).2.1)]at aO;rw[bR.uniq aO (a2.ext x)]at hb';show iN (a2.kinds b hb') λ_ o e1 _=>?_;have e1:=(hn b D).symm.trans e1;ext⟩⟩
 shared:=λe=>nn0 e
 kind:=aH Z
theorem rP.alias(hF:∀b∈F,b∉W):rP D J h G W W x 0 F:=
 ⟨λ_ D=>D,λ_ D=>ao D,(λe=>nnZ e),λ_ b D=>hF b D,ao Z⟩
theorem rP.again(r:FR H U D L J h G W)(E:cq G x=O (1,av))(cB:Ah J h (NM x) v)(aO:bR h av v F):rP D J h G W W x 1 F where
 sub:=λ_ D=>D
 sup:=λ_ D=>ao D
 own:=λ_=>by show ji r.ents λval fp q=>?_;have qx:=q x 1 av E;apply qx.ug cB aO;show⟨(qx.own Z).1,λb D=>qE ((qx.own Z).2 b D) λp1 p2 p3=>(rO p1 p2 ((r.jj b p1).1) (λy k' mx v' F' hyx e H' V' hb'=>?_))⟩;show p3 y k' mx e hyx ((q y k' mx e).ug (P:=λF=>b∈F->b∈fp y) H' V' id hb')
 shared:=λe=>nn0 e
 kind:=aH Z
def By(H:List ab)(U D:aN)(L:c9)(J:cg)(W:List ab)(s:ae)(G':ig)(ret:Option AV)(f:b8)(Y:ae):Prop:=mB W s Y/\match ret with
 |none=>f=cJ/\∃W',FR H U D L J Y.heap G' W'/\∀d,d∈W'->d∈W\/s.heap.get? d=ai
 |some av=>hJ H D Y.heap/\∃v F,f=cL v/\bR Y.heap av v F
theorem tP(m:mB W s Y)(r:FR H U D L J Y.heap G' W):By H U D L J W s G' ai cJ Y:=⟨m,rfl,W,r,λ_ h=>ao h⟩
theorem By.behind{aQ:ae}{W1:List ab}{ret:Option AV}{f:b8}(m1:mB W s aD)(hw1:∀d,d∈W1->d∈W\/s.heap.get? d=ai)(q:By H U D L J W1 aD G' ret f aQ):By H U D L J W s G' ret f aQ:=by
 show eX q λm2 q=>(⟨m1.trans m2 hw1,?_⟩);cases ret with
 |none=>show iN q λq1 W2 r2 hw2=>(⟨q1,W2,r2,λd hd=>?_⟩);show bf (hw2 d hd) (λhd=>hw1 d hd) λhd=>aH (m1.mod.new hd)
 |some av=>show q
def SS(H:List ab)(U:aN)(A:ck)(L:c9)(J:cg)(ss:List bT)(G G':ig)(ret:Option AV):Prop:=
 ∀⦃D:aN⦄ ⦃s:ae⦄ ⦃W:List ab⦄,FR H U D L J s.heap G W->T A (aU ss J) s (By H U D L J W s G' ret)
def S1(H:List ab)(U:aN)(A:ck)(L:c9)(J:cg)(st:bT)(G G':ig)(ret:Option AV):Prop:=
 ∀⦃D:aN⦄ ⦃s:ae⦄ ⦃W:List ab⦄,FR H U D L J s.heap G W->T A (mV st J) s (By H U D L J W s G' ret)
theorem T.wpN{t:aE b8}{Q:b8->ae->Prop}(h:T A t s (By H U D L J W aJ G' ai))(k:∀aD W1,mB W aJ aD->FR H U D L J aD.heap G' W1->(∀d,d∈W1->d∈W\/aJ.heap.get? d=ai)->Q cJ aD):ax (aG prog w) A t Q a6 s:=h.wp λ_ aD qQ=>oU qQ λm hf W1 r hw=>hf▸k aD W1 m r hw
theorem SS.nil:SS H U A L J [] G G ai:=λD s W r=>JY ⟨.refl _ _,rfl,W,r,λd hd=>ao hd⟩
theorem SS.cons{G1 G2:ig}{ret:Option AV}(h1:S1 H U A L J st G G1 ai)(h2:SS H U A L J ss G1 G2 ret):SS H U A L J (st::ss) G G2 ret:=λD s W r=>uS<|(h1 r).wpN λaD W1 m1 r1 hw1=>(h2 r1).mono λf2 aQ q=>q.behind m1 hw1
theorem tQ{G1:ig}(h1:S1 H U A L J st G G1 (O av)):SS H U A L J (st::ss) G G1 (O av):=λD s W r=>uS<|(h1 r).wp λf aD oq=>yH oq λm1 x v F hf aO=>hf▸⟨m1,x,v,F,rfl,aO⟩
protected theorem S1.ret(h:V H U A L J G e av af):S1 H U A L J (yp (O e) pos) G G' (O av):=λD s W r=>
 xE ((h r.er).tN λv aD F e1 aO _=>⟨e1.smod W,r.ext.trans e1.ext,v,F,rfl,aO⟩)
theorem S1.ite{c:aw}{a b:List bT}{x:Bool}{ret:Option AV}(hc:oZ H U A L J G c x)(ha:x=N->SS H U A L J a G G' ret)(D:x=af->SS H U A L J b G G' ret):S1 H U A L J (AZ c a b pos) G G' ret:=λhb' s W r=>by
 show wpAny_If ((hc r.er).Cu λv aD e1 hv=>?_);subst hv;cases v with
 |true=>show(ha Z (r.grow e1.ext)).wp λf aQ q=>q.behind (e1.smod W) λd hd=>ao hd
 |false=>show(D Z (r.grow e1.ext)).wp λf aQ q=>q.behind (e1.smod W) λd hd=>ao hd
theorem bE(x:Nat)(av:AV)(h:V H U A L J G e av af)(hf:flat av=N)(dH:bW G x=N)(E:Hx L x)(hs:fu e (O (ar (NM x) p)) pos.line J=pure af):
 S1 H U A L J (fE [ar (NM x) p] e pos) G (jm G x 0 av) ai:=λD s W r=>by
 show xF ((h r.er).tN λv aD F e1 aO _=>?_) hs;show(kb (r.grow e1.ext) E dH aO (.flat (cV.1 _ _ _ hf aO))).Cu λ_ aQ r2 m2=>tP (e1.sm m2) r2
mutual
noncomputable def wa:AV->Bool
 |tJ|fG _|a9 _|aX _=>N
 |Bn _ x=>wa x
 |bV K=>CB K
 |gr K=>CB K
 |tK ..=>af
noncomputable def CB:List AV->Bool
 | []=>N
 |x::K=>wa x && CB K
end
theorem Yf:(∀(av:AV) (v:aa) (F:List ab),wa av=N->bR h av v F->∀b∈F,LS h b)/\∀(K:List AV) (vs:List aa) (F:List ab),CB K=N->bC h K vs F->∀b∈F,LS h b:=by
 have fl:∀{p q:Prop} {F:List ab},q->p/\F=[]->∀b∈F,LS h b:=λ_ r b D=>kJ (r.2▸D);show Bo (λ_ _=>fl) (λ_ _ _=>fl) (λ_ _ _=>fl) (λ_ _ _=>fl) (λu x ih v F hc r=>ih v F hc r.2) (λK ih v F hc r b D=>?_) (λK ih v F hc r b D=>gI r λa vs n e1 _ e3 e4=>ih vs F hc e4 b D) (λf ns K ih v F hc=>Ip hc) (λ_ _=>fl) (λx K i1 i2 vs F hc r b D=>?_)
 .show fO r λa vs n G e1 e2 e3 e4 dX=>?_;subst dX;show zH D (qB vs n e3) λD=>ih vs G hc e4 b D
 .show gv r λv tL F1 F2 e1 e2 e3 dX=>?_;subst dX;have hc:(wa x && CB K)=N:=hc;show(b9.mp D).elim (i1 v F1 (fL.mp hc).1 e2 b) (i2 tL F2 (fL.mp hc).2 e3 b)
theorem Gh(hc:wa av=N)(r:bR h av v F):∀b∈F,LS h b:=Yf.1 av v F hc r
theorem gb(x:Nat)(av:AV)(he:V H U A L J G e av N)(hf:wa av=N)(dH:bW G x=N)(E:Hx L x)(hs:fu e (O (ar (NM x) p)) pos.line J=pure af):
 S1 H U A L J (fE [ar (NM x) p] e pos) G (jm G x 1 av) ai:=λD s W r=>by
 show xF ((he r.er).wp4 λv aD F e1 aO q=>?_) hs;show eX (q Z) λq1 q2=>(kb (r.grow e1.ext) E dH aO (.fresh q1 q2 (Gh hf aO) r e1.ext)).Cu λ_ aQ r2 m2=>⟨(e1.smod W).trans m2 (λd hd=>ao hd),rfl,W++F,r2,λd hd=>by
  rcases b9.mp hd with hd|hd
  .show ao hd
  .show aH (q1 d hd)⟩
theorem zM(r:ER H U L J s.heap G)(E:cq G x=O (k,av)):
 T A (aZ (ar (NM x) pos) J) s (λv Y=>Y=s/\∃F,Ah J s.heap (NM x) v/\bR s.heap av v F):=by
 show eQ (r.has x k av E) λv F cB aO=>(qZ ?_ (wD x));have H':=cB;show bf cB (λi0=>iN i0 λhl m n e=>xA r.kind hl n e ⟨rfl,F,H',aO⟩) λi0=>oW i0 λhl c hc _ hv=>?_;rcases hl with hl|hl
 .show JQ r.kind hl hc hv ⟨rfl,F,H',aO⟩
 .show JR r.kind hl hc hv ⟨rfl,F,H',aO⟩ (vD x)
theorem Wn(r:ER H U L J s.heap G)(E:cq G x=O (k,av)):
 T A (loadName J (NM x)) s (λv Y=>Y=s/\∃F,Ah J s.heap (NM x) v/\bR s.heap av v F):=by
 show eQ (r.has x k av E) λv F cB aO=>have H':=cB;bf cB (λi0=>iN i0 λhl m n e=>?_) λi0=>oW i0 λhl c hc _ hv=>?_
 .show xA r.kind hl n e ⟨rfl,F,H',aO⟩
 .rcases hl with hl|hl
  .show JQ r.kind hl hc hv ⟨rfl,F,H',aO⟩
  .show JR r.kind hl hc hv ⟨rfl,F,H',aO⟩ (vD x)
theorem yI(x y:Nat){p':aY}(hy:cq G y=O (k,av))(dH:bW (share G y) x=N)(E:Hx L x)(hs:fu (ar (NM y) p') (O (ar (NM x) p)) pos.line J=pure af):
 S1 H U A L J (fE [ar (NM x) p] (ar (NM y) p') pos) G (jm (share G y) x 0 av) ai:=λD s W r=>by
 show xF ((zM r.er hy).Z4 λv F cB aO=>?_) hs;show gH (r.share y) λW' r' hw hF=>((kb r' E dH aO (.alias (hF k av v F hy cB aO))).Cu λ_ aQ r2 m2=>⟨(mB.refl W s).trans m2 (λd hd=>ao (hw d hd)),rfl,W',r2,λd hd=>ao (hw d hd)⟩)
theorem Og{op:BOp}{x y z:Int}{t u:aW}(h:wF op x y=O z)(hop:op= .add\/op= .sub\/op= .xor):
 T A (Kj op.ast (ah x t) (ah y u)) s (λv Y=>dz H s Y/\∃t',v=ah z t'):=by
 have zb:∀{z':Int},z'=z->(dz H s {s with toks:=s.toks+1}/\∃t',ah z' s.toks=ah z t'):=λe=>⟨.toks s _,s.toks,by rw[e]⟩;rcases hop with rfl|rfl|rfl
 .show iadd_int (zb (aV h))
 .show isub_int (zb (aV h))
 .cases x with
  |ofNat x=>cases y with|ofNat y=>show ixor_int (zb ((FZ x y).trans (aV h)))|negSucc y=>ext
  |negSucc x=>ext
theorem CD(x:Nat)(i j z:Int)(op:BOp)(hy:cq G x=O (k,a9 i))(he:V H U A L J G e (a9 j) af)(h:wF op i j=O z)(hop:op= .add\/op= .sub\/op= .xor)(dH:bW G x=N)(E:Hx L x):
 S1 H U A L J (E6 (ar (NM x) p) op.ast e pos) G (jm G x 0 (a9 z)) ai:=λD s W r=>by
 show Th ((Wn r.er hy).wp4 λv aD F e1 cB aO=>?_);subst e1;show(he r.er).wp4 λu aQ F2 e2 V2 _=>?_;apply bR.zI aO;intro t;show dG V2.toInt λt' dX=>dX▸(Og (H:=H) h hop).wp3 λv de t3 e3 hv=>?_;subst hv;have e23:=e2.trans e3;show(kb (r.grow e23.ext) E dH (.ofInt z t3) (.flat Z)).Cu λ_ fq r2 m2=>tP (e23.sm m2) r2
theorem FR.agV{mx:AV}{ws:List aa}(r:FR H U D L J h G W)(E:cq G x=O (1,av))(cB:Ah J h (NM x) v)(V0:bR h av v F)(haF:a∈F)(hs:gw a h h')(ZO:h'.get? a=O (br ws n))(aO:bR h' mx v F):FR H U D L J h' (jm G x 1 mx) W/\Mod W h h':=by
 show ji r.ents λval fp q=>(mA (q x 1 _ E) λa1 a2 a3 _=>?_);have hv:=cB.uniq a1;subst hv;have Ai:=bR.uniq V0 a2;subst Ai;show qE ((a3 Z).2 a haF) λhaW Iz ajC=>?_;have ht:=(r.jj a haW).2.1;have hma:∃o,h'.get? a=O o:=⟨_,ZO⟩;have aed:∀{m},h.Ns J.locals m->h'.Ns J.locals m:=λn=>n.sameBut hs (λe=>by rw[e]at n;show Iz.Mv n);have aee:∀{c v},h.IsCell c v->h'.IsCell c v:=λ{c v} ic=>bh ic λo e d=>ct o ((hs.2 c (λe'=>by subst e';show Iz.mN ⟨o,e,d⟩)).trans e) d;have aef:∀{y u},Ah J h (NM y) u->Ah J h' (NM y) u:=λHy=>Hy.imp (λq=>⟨q.1,q.2.imp λm q=>⟨aed q.1,q.2⟩⟩) λq=>⟨q.1,q.2.imp λc q=>(gS q.1 q.2.1 (aee q.2.2))⟩;have LSk:∀b,LS h b->LS h' b:=λb l=>if NS:b=a then NS▸qB _ _ ZO else ji l λvs n e=>qB vs n ((hs.2 b NS).trans e)
 show⟨⟨r.b1,Dl hs (r.jj a haW).1 hma r.ext ht,r.scope,r.kind,r.glob,r.bi,r.loc,r.ns.imp λ_ n=>aed n,λy hy=>?_,r.pT,λb hb'=>hx (r.jj b hb') λp1 p2 p3=>gS p1 p2 (Cr.same hs (⟨_,ZO,ao ⟨rfl,_,_,rfl⟩⟩) p3),val,fp,λy k' mx e=>?_⟩,(nY hs hma haW ht)⟩
 .show lZ (r.cell y hy) λc c1 c2 c3 c4=>wB c c1 (c2.imp λ_ q=>aee q) c3 (c4.imp (λq=>q.imp λav2 c4=>?_) id);rw[fH,if_neg λhyx=>by have c4:=E▸hyx▸c4;cases c4];show c4
 .rw [fH]at e;by_cases hyx:y=x
  .cases hyx
   replace e:=(if_pos Z)▸e;show XY (aV e) λa1 a2=>?_;subst a1;subst a2;show⟨aef a1,aO,λ_=>⟨(a3 Z).1,λb hb'=>?_⟩,λh1=>absurd Z h1⟩;show qE ((a3 Z).2 b hb') λp1 p2 p3=>(⟨p1,LSk b p2,λz k3 Yd e3 hz=>?_⟩);rw[fH,if_neg hz]at e3;show p3 z k3 Yd e3 hz
  .replace e:=(if_neg hyx)▸e;show mA (q y k' mx e) λb1 b2 b3 b4=>(⟨aef b1,b2.mod (nY hs hma au ht) (λb D=>jT D (r.jj _ haW).2.2) _ _ _ (λb hb'=>sJ λe'=>ajC y k' mx e hyx (e'▸hb')),λh1=>⟨(b3 h1).1,λb hb'=>?_⟩,b4⟩);show qE ((b3 h1).2 b hb') λp1 p2 p3=>(⟨p1,LSk b p2,λz k3 Yd e3 hz=>?_⟩);rw[fH]at e3;by_cases hzx:z=x
   .subst hzx;show p3 z 1 _ E hz
   .rw [if_neg hzx]at e3;show p3 z k3 Yd e3 hz
theorem FR.upd{ws:List aa}(r:FR H U D L J h G W)(E:cq G x=O (1,bV K))(hf:iU K=N)(cB:Ah J h (NM x) (R a))(hs:gw a h h')(ZO:h'.get? a=O (br ws n))(aO:bC h ys ws []):FR H U D L J h' (jm G x 1 (bV ys)) W/\Mod W h h':=by show ji r.ents λval fp q=>mA (q x 1 _ E) λa1 a2 a3 _=>have a2:=(cB.uniq a1).symm▸a2;iQ a2 λb vs m F' e1 ht _ e4 e5=>?_;obtain rfl:=j7 e1;have e5:=(cV.2 _ _ _ hf e4)▸e5;have ha:=e5▸cQ ..;show r.agV E cB a2 ha hs ZO (e5▸rZ [] ht ZO (aO.mod (nY hs ⟨_,ZO⟩ (bJ.mpr Z) ht) (λb D=>jT D (r.jj _ ((a3 Z).2 a ha).1).2.2) _ _ _ zk))
theorem l4(h:cG e=af)(pos:aY):jI pos (iY [e] J)=[(af,aZ e J)]:=by rw[dp h];rfl
theorem I9{x:aP}{nm:aP}:uU (ar x p) nm J (aZ (ar x p) J)=aZ (ar x p) J:=rfl
theorem S1.app{apos cpos:aY}(E:cq G x=O (1,bV K))(hf:iU K=N)(he:V H U A L J G e av af)(hfa:flat av=N)(dH:cG e=af)(lA:(apos.endLine==cpos.line)=N)(hl:dY K.length 1000000=N)(hi:iI J=af):
 S1 H U A L J (vi (bI (iJ (ar (NM x) p) (aC "append") apos) [e] [] cpos) pos) G (jm G x 1 (bV (K++[av]))) ai:=λD s W r=>by
 show wpAny_Expr_any ?_ hi Z;show Tx I9 (by rw[l4 dH];rfl) lA Vq PySem.F.slot_list_append PySem.F.type_list_append<|(zM r.er E).wp λv aD oq=>iN oq λe1 F cB aO=>?_;subst e1;show iQ aO λa vs n F' dX _ a3 a4 _=>?_;subst dX;show gS (QO.typeIs a3) (λb hb'=>by obtain rfl:=j7 hb';show⟨_,a3,rfl⟩) ?_;rw[l4 dH];show P.append_list<|(he r.er).wp λu aQ oq=>iN oq λe2 F2 V2 _=>have a3':=(r.grow e2.ext);have g3:=e2.ext.keep a _ (by assumption) a3;have l1:=bC.length a4;have hl:=dO hl;N6 vs.toArray n (by have:fc=16777216:=rfl;simp;lia) g3 ?_;have hF2:=cV.1 _ _ _ hfa V2;subst hF2;have hF':=cV.2 _ _ _ hf a4;subst hF';have up:(aQ.heap.update a (dP λK=>K.push u)).get? a=O (br (vs++[u]) (n+1)):=by rw[gO _ g3 (rfl)];simp[br,dP]
 show eX ((r.grow e2.ext).upd E hf (cB.ext e2.ext (r.jj _ r.loc).2.1) (j6 ..) up
  (by have:=bC.append (a4.ext e2.ext) (show bC aQ.heap [av] [u] [] by show eg [] [] V2 .nil);show this)) λr2 m2=>tP (e2.mm m2) r2
theorem bC.set:∀{vs:List aa} {F:List ab} (i:Nat) {x:AV} {v:aa},iU K=N->bC h K vs F->bR h x v []->bC h (K.set i x) (vs.set i v) []:=by
 induction K with
 |nil=>intro vs F i x v _ r _;apply vA r;show λ_=>.nil
 |cons y ys iH=>
  intro vs F i x v hf r q;have hf:=fL.mp hf;show gv r λu us F1 F2 dX e2 e3 _=>(dX▸?_);have n1:=cV.1 _ _ _ hf.1 e2;have n2:=cV.2 _ _ _ hf.2 e3;subst n1 n2;cases i with
  |zero=>show eg [] [] q e3
  |succ i=>show eg [] [] e2 (iH i hf.2 e3 q)
theorem bC.eraseIdx:∀{vs:List aa} {F:List ab} (i:Nat),iU K=N->bC h K vs F->bC h (K.eraseIdx i) (vs.eraseIdx i) []:=by
 induction K with
 |nil=>intro vs F i _ r;apply vA r;show λ_=>.nil
 |cons y ys iH=>
  intro vs F i hf r;have hf:=fL.mp hf;show gv r λu us F1 F2 dX e2 e3 _=>(dX▸?_);have n1:=cV.1 _ _ _ hf.1 e2;have n2:=cV.2 _ _ _ hf.2 e3;subst n1 n2;cases i with
  |zero=>show e3
  |succ i=>show eg [] [] e2 (iH i hf.2 e3)
theorem qX{l:ab}{k:Int}{t:aW}{Q:Unit->ae->Prop}(ho:s.heap.get? l=O {cls:=ak "list",dict:=ai,data:=bU items n,slots:=#[]})(h0:0<=k)(agW:k<2 ^ 63)(hn:k<items.size)(hQ:Q () {s with heap:=s.heap.update l (dP (·.setIfInBounds k.toNat v))}):
 ax (aG prog w) A (Ay (R l) (ah k t) v) Q a6 s:=by
 have hl:s.heap.IsList l items:=⟨_,ho,rfl,n,rfl⟩
 delta Ay
 try with_reducible show cO ?_
 first|show ?_|skip
 show ag<|xG hl.typeIs (rfl)<|ag (kT hl.typeIs Tz
  (jV Tz hl.typeIs entry_list_setitem ?_ (args_list_setitem _ _ _)))
 show(?_:ax _ _ (abg (ah k t)>>=_) _ _ s);show ag (wpAny_listSubscript_int (fitsIndex_of h0 agW) ?_);clear agW;obtain⟨j,rfl⟩:=Int.eq_ofNat_of_zero_le h0;show ag<|ag<|wpAny_seqItemAt ho Z<|aB<|(yu au).symm▸ag (wpAny_setSeqItemAt ho Z ?_);first
  |show aB ⟨aA,rfl,aB hQ⟩
  |show aB ⟨.none,rfl,aB hQ⟩
theorem M'(g3:h.get? a=O (br vs n)):(h.update a (dP λK=>K.setIfInBounds j v)).get? a=O (br (vs.set j v) n):=by rw[gO _ g3 (rfl)];simp[br,dP]
theorem abK{i:aw}{p':aY}(E:cq G x=O (1,bV K))(hf:iU K=N)(he:V H U A L J G e av af)(hfa:flat av=N)(hi:V H U A L J G i (a9 (aj j)) af)(hj:jL j K.length=N)(hl:dY K.length 1000000=N)(hs:fu e (O (dk (ar (NM x) p) i p')) pos.line J=pure af):
 S1 H U A L J (fE [dk (ar (NM x) p) i p'] e pos) G (jm G x 1 (bV (K.set j av))) ai:=λD s W r=>by
 show JL ((he r.er).tN λu aD F1 e1 V1 _=>(zM (r.grow e1.ext).er E).Z4 λv F2 cB V2=>?_) hs;show(hi (r.grow e1.ext).er).wp λiv de oq=>iN oq λe3 F3 V3 _=>dG V3.toInt λt dX=>dX▸iQ V2 λa vs n F' qD ht a3 a4 _=>?_;subst qD;have g3:=e3.ext.keep a _ ht a3;have l1:=bC.length a4;have hl:=dO hl;have hj:j<K.length:=dO hj;have hF1:=cV.1 _ _ _ hfa V1;subst hF1;have O':=e1.trans e3;show qX g3 fF au jQ<|eX ((r.grow O'.ext).upd E hf (cB.ext e3.ext (r.jj _ r.loc).2.1) (j6 ..) (M' g3)
  (bC.set j hf (a4.ext e3.ext) (V1.ext e3.ext))) λr2 m2=>tP (O'.mm m2) r2
theorem abL{i:aw}{p' apos cpos:aY}(E:cq G x=O (1,bV K))(hf:iU K=N)(hi:V H U A L J G i (a9 (aj j)) af)(hj:K[j]? =O av)(hl:dY K.length 1000000=N)(qF:y≠x)(dH:cG i=af)(lA:(apos.endLine==cpos.line)=N)(hsy:bW G y=N)(hy:Hx L y):
 S1 H U A L J (fE [ar (NM y) p'] (bI (iJ (ar (NM x) p) (aC "pop") apos) [i] [] cpos) pos) G (jm (jm G x 1 (bV (K.eraseIdx j))) y 0 av) ai:=λD s W r=>by
 show xF ?_ Z;show Tx I9 (by rw[l4 dH];rfl) lA Vq PySem.F.slot_list_pop PySem.F.type_list_pop<|(zM r.er E).Z4 λv F cB aO=>iQ aO λa vs n F' dX ht a3 a4 _=>?_;subst dX;show gS (QO.typeIs a3) (λb hb'=>by obtain rfl:=j7 hb';show⟨_,a3,rfl⟩) ?_;rw[l4 dH];show P.pop_at_list<|(hi r.er).tN λu aQ F2 e2 V2 _=>dG V2.toInt λt qD=>have g3:=e2.ext.keep a _ ht a3;have l1:=bC.length a4;have hl:=dO hl;have hjl:=(dR.mp hj).1;jy (bC.get (a4.ext e2.ext) hj) λyv Fy y1 y2 _=>(qD▸?_);have hjv:j<vs.length:=by lia
 show⟨vs.toArray,n,aj j,t,j,yv,by have:fc=16777216:=rfl;simp;lia,rfl,g3,fitsIndex_of fF au,Cw hjv,by simpa using y1,?_⟩;have up:(aQ.heap.update a (dP λK=>K.eraseIdxIfInBounds j)).get? a=O (br (vs.eraseIdx j) (n+1)):=by
  rw[gO _ g3 (rfl)];have hsz:((vs.eraseIdx j).length==vs.length)=af:=by rw[T6];simp[hjv];lia
  simp[br,dP,hsz]
 show eX ((r.grow e2.ext).upd E hf (cB.ext e2.ext (r.jj _ r.loc).2.1) (j6 ..) up (bC.eraseIdx j hf (a4.ext e2.ext))) λr2 m2=>?_;have hfa:flat av=N:=by
  have:∀(K:List AV) (j:Nat),iU K=N->K[j]? =O av->flat av=N:=by
   intro K;induction K with
   |nil=>intro j _ h;ext
   |cons x K ih=>
    intro j hf h;have hf:=fL.mp hf;cases j with
    |zero=>have h:=aV h;show h▸?_;show hf.1
    |succ j=>show ih j hf.2 (h)
  show this K j hf hj
 have hFy:=cV.1 _ _ _ hfa y2;subst hFy;have ajD:bW (jm G x 1 (bV (K.eraseIdx j))) y=N:=by
  delta bW
  rw[fH,if_neg qF];show hsy
 have hx1:mB W s {aQ with heap:=aQ.heap.update a (dP λK=>K.eraseIdxIfInBounds j)}:=e2.mm m2;show(kb r2 hy ajD (y2.mod m2 (λb hb'=>((r.grow e2.ext).jj b hb').2.2) av yv [] (λb D=>by ext)) (.flat Z)).Cu λ_ de r3 m3=>tP (hx1.trans m3 λ_ h=>ao h) r3
theorem Oh:fillsInplaceSlot (ak "list") "add" (rM==rM)=pure af:=by rfl
theorem Yg:seqSlot? (ak "list") (dunderI "add")=pure (O (bx "list.__iadd__")):=PySem.seqSlot_of Vv.lookup (rfl)
theorem DR{l b:ab}{My:Array aa}{n2:Nat}(hl:s.heap.get? l=O {cls:=ak "list",dict:=ai,data:=bU items n,slots:=#[]})(D:s.heap.get? b=O {cls:=ak "list",dict:=ai,data:=bU My n2,slots:=#[]})(hsz:items.size+My.size<=1000000)(h:Q (R l) {s with heap:=s.heap.update l (dP λx=>x++My),toks:=s.toks}):ax (aG prog w) A (Kj rM (R l) (R b)) Q a6 s:=by have ha:s.TypeIs (R l) "list" :=ct _ hl Z;show cO<|ag<|ow ha<|ag<|fK Oh<|ag<|wpAny_binaryOp1_none ha ((ct _ D Z)) noFill_list_add<|ag<|fK Yg<|ag<|mS<|have z:fc=16777216:=rfl;qf Vv ha Fm (PySem.F.args_list_iadd_2 _ _) (AutoSeq1.list___iadd___list_list_0 l items n b My n2 (by simp[Ve];lia) au au) (gS hl D h)
theorem abM(G:ig)(x k:Nat)(av:AV)(k':Nat)(mx:AV):jm (jm G x k av) x k' mx=jm G x k' mx:=by
 induction G with
 |nil=>show(uA [] x k av x k' mx).trans (if_pos Z)
 |cons p r ih=>
  rw[uA,uA];by_cases h:p.1=x
  .rw [if_pos h,if_pos h,uA,if_pos Z]
  .rw [if_neg h,if_neg h,uA,if_neg h,ih]
theorem abN(E:cq G x=O (1,bV K))(hf:iU K=N)(he:V H U A L J G e (bV ys) N)(hg:iU ys=N)(qF:K.length+ys.length<=1000000)(hxl:L.names.lookup (NM x)=O cZ):S1 H U A L J (E6 (ar (NM x) p) rM e pos) G (jm G x 1 (bV (K++ys))) ai:=λD s W r=>by
 show Th<|(Wn r.er E).Z4 λv F cB aO=>(he r.er).wp λu aQ oq=>iN oq λe2 F2 V2 q2=>fO aO λa vs n F' dX ht a3 a4 _=>(fO V2 λb ws m QP qD _ b3 b4 DQ=>?_);subst dX;show qD▸?_;have g3:=e2.ext.keep a _ ht a3;have l1:=bC.length a4;have l2:=bC.length b4;have hF':=cV.2 _ _ _ hf a4;have aeU:=cV.2 _ _ _ hg b4;subst hF' aeU;show DR g3 b3 jQ ?_;have up:(aQ.heap.update a (dP λx=>x++ws.toArray)).get? a=O (br (vs++ws) (if(vs++ws).length==vs.length then n else n+1)):=by rw[gO _ g3 (rfl)];simp[br,dP]
 show eX ((r.grow e2.ext).upd E hf (cB.ext e2.ext (r.jj _ r.loc).2.1) (j6 ..) up (bC.append (a4.ext e2.ext) b4)) λr2 m2=>?_;have hx1:mB W s {aQ with heap:=aQ.heap.update a (dP λx=>x++ws.toArray)}:=e2.mm m2;have H':Ah J (aQ.heap.update a (dP λx=>x++ws.toArray)) (NM x) (R a):=by
  have hs:=j6 aQ.heap a (dP λx=>x++ws.toArray);have Iz:LS aQ.heap a:=qB _ _ g3;rcases(cB.ext e2.ext (r.jj _ r.loc).2.1) with⟨k1,m1,n1,e1⟩|⟨k1,c,e1,e2,o,e3,e4⟩
  .show ao ⟨k1,m1,n1.sameBut hs (λe=>by rw[e]at n1;show Iz.Mv n1),e1⟩
  .show aH ⟨k1,c,e1,e2,o,(hs.2 c (λe=>by cases e;show Iz.mN (ct o e3 e4))).trans e3,e4⟩
 have hlk:cq (jm G x 1 (bV (K++ys))) x=O (1,bV (K++ys)):=by rw[fH,if_pos Z]
 have hV:∃F,bR (aQ.heap.update a (dP λx=>x++ws.toArray)) (bV (K++ys)) (R a) F:=by show ji r2.ents λval fp q=>?_;obtain⟨c1,c2,_,_⟩:=q x 1 _ hlk;show(H'.uniq c1).symm▸DN _ c2
 show dG hV λFv hV=>((kb r2 (ao hxl) (by delta bW;rw[hlk];rfl) hV (.again r2 hlk H' hV)).Cu λ_ de r3 m3=>⟨hx1.trans m3 (λd hd=>ao hd),rfl,W,?_,λd hd=>ao hd⟩);rw[(abM G x 1 _ 1 _)]at r3;show r3
def dW(es:List aw):Bool:=es.all λe=> !cG e
theorem Yh:∀(pos:aY) (J:cg),dW es=N->(jI pos (iY es J)).any (·.1)=af:=by
 induction es with
 |nil=>show λ_ _ _=>rfl
 |cons e es iH=>intro pos J h;simp only[dW,EL,qt,vg]at h;rw[dp h.1];change(af ||(jI pos (iY es J)).any (·.1))=af;rw[iH pos J (h.2)];rfl
theorem mC(nm ty:String)(B:cA U mg mb)(I:dQ mg mb)(hm:(nm,ak ty)∈BI)(kO:L.names.lookup (aC nm)=O kX)(hd:(aC nm==("__debug__" :aP))=af)(he:fJ H U A L J G (e::es) avs)(dH:dW (e::es)=N)(r:ER H U L J s.heap G)(hq:∀vs aD F,dz H s aD->bC aD.heap avs vs F->T A (call (ak ty) vs) aD Q):
 T A (aZ (bI (ar (aC nm) np) (e::es) [] pos) J) s Q:=by
 have hI:=I (nm,ak ty) hm;show ma<|(ez B r kO hI.1 hI.2 hd).Dj<|A1 ((he s pos r).QM λvs aD F1 e1 V1=>hq vs aD F1 e1 V1) (dp (by simp only[dW,EL,qt,vg]at dH;show dH.1) _ _) (Yh pos J (by simp only[dW,EL,qt]at dH;show dH.2))
theorem vF{n':Nat}{P P':Nat->aa->Prop}(x:mT prog w A I fp wr n P St)(hn:n=n')(hp:∀i v,i<n->P i v->P' i v):mT prog w A I fp wr n' P' St:=by subst hn;show⟨x.sub,x.frame,λi s Q a6 hi st hq=>x.item i s Q a6 hi st λv h' tk p=>hq v h' tk (hp i v hi p),x.done,x.self⟩
def Shd(J:cg)(h:aN)(G:ig)(b:ab):Prop:=∃x k av v F,cq G x=O (k,av)/\k≠1/\Ah J h (NM x) v/\bR h av v F/\b∈F
theorem Shd.U'{b:ab}(q:Shd J h G b)(r:FR H U D L J h G W):b∉W:=by show wA q λx k av v F e hk cB aO D=>(ji r.ents λval fp q=>?_);obtain⟨a1,a2,_,a4⟩:=q x k av e;have hv:=cB.uniq a1;subst hv;have hF:=bR.uniq aO a2;subst hF;show a4 hk b D
def Gj(ns:List Int)(i:Nat)(v:aa):Prop:=∃k t,ns[i]? =O k/\v=ah k t
inductive Wo(H:List ab)(A:ck)(J:cg)(G:ig)(ns:List Int)(s:ae):aa->ae->Prop
 |mk {aQ:ae} (e:dz H s aQ) (I:ab) (fp wr:List ab) (St:Nat->aN->Prop) (W:mT prog w A I fp wr ns.length (Gj ns) St) (st:St 0 aQ.heap) (Gk:∀i h,St i h->∀b∈wr,kM h b)
  (X':∀b∈wr,s.heap.get? b=ai) (Ai:∀b∈fp,b∉bY/\(∃o,aQ.heap.get? b=O o)/\(s.heap.get? b=ai\/Shd J s.heap G b)):Wo H A J G ns s (R I) aQ
def zr(H:List ab)(U:aN)(A:ck)(L:c9)(J:cg)(G:ig)(e:aw)(ns:List Int):Prop:=
 ∀s,ER H U L J s.heap G->T A (aZ e J) s (λx aD=>T A (gm x) aD (Wo H A J G ns s))
theorem nZ:∀{vs:List aa} {ns:List Int},fh vs ns->vs.length=ns.length/\∀(i:Nat) v,vs[i]? =O v->∃n t,ns[i]? =O n/\v=ah n t:=by
 intro vs ns IA;induction IA with
 |nil=>show⟨rfl,λi v h=>by ext⟩
 |cons n t r ih=>
  show⟨by simp[ih.1],λi v h=>?_⟩;cases i with
  |zero=>have h:=aV h;subst h;show kI n t Z Z
  |succ i=>show ih.2 i v (h)
theorem Bz{ns:List Int}(hh:dh A)(B:Tp U)(x:hJ H U s.heap)(e:dz H s aD)(hi:jf K=O ns)(ht:a∉bY)(a3:aD.heap.get? a=O (br vs n))(a4:bC aD.heap K vs F)(hsh:s.heap.get? a=ai\/Shd J s.heap G a):
 T A (gm (R a)) aD (Wo H A J G ns s):=by
 show uR (bX a3)<|eX (nZ (intsAre_of a4 hi)) λk1 k2=>⟨?_,aD.heap.objs.size,_,_,_,vF (VQ hh _ a (fB (cn a3)) vs.toArray) (by assumption) (λi v _ hv=>k2 i v (by simpa using hv)),⟨?_,?_⟩,λi h st b D=>?_,λb D=>?_,λb D=>?_⟩
 .show e.trans ⟨.push _ _,rfl,rfl,eV _⟩
 .show kH _ (bK _ Z) Z Z
 .show bX (a8 _ a3)
 .apply jT D;show eX st λi1 _=>gH i1 λo ho _ hd=>ct o ho (ao ⟨_,hd,λx t e=>by simp at e⟩)
 .apply jT D;show e.ext.new (bF _)
 .apply rY D
  .show gS (fi (jz B (x.trans e.ext))) ⟨_,bK _ Z⟩ (ao (e.ext.new (bF _)))
  .show gS ht ⟨_,a8 _ a3⟩ hsh
theorem zr.new{ns:List Int}(hh:dh A)(B:Tp U)(he:V H U A L J G e (bV K) N)(hi:jf K=O ns):zr H U A L J G e ns:=λs r=>by show(he r).mono λv aD oq=>og λgG kG=>iN oq λe1 F aO q=>kG ?_;clear kG gG;apply fP aO;intro a vs n F' ht a3 a4 Z9;subst Z9;show Bz hh B r.base e1 hi ht a3 a4 (ao ((q Z).1 a au))
theorem abO{ns:List Int}(hh:dh A)(B:Tp U)(E:cq G x=O (k,bV K))(hk:fD k 1=af)(hi:jf K=O ns):
 zr H U A L J G (ar (NM x) pos) ns:=λs r=>by
 show(zM r E).mono λv aD oq=>og λgG kG=>iN oq λe1 F cB aO=>kG ?_;clear kG gG;show e1.symm▸?_;apply fP aO;intro a vs n F' ht a3 a4 Z9;subst Z9;show Bz hh B r.base (.refl _) hi ht a3 a4 (aH (agM x k _ _ _ E (λe=>by have hk:=e▸hk;ext) cB aO au))
noncomputable def Dm(a c:Int)(n:Nat):List Int:=(aI n).map λi:Nat=>a+(i:Int) * c
theorem o6{a c:Int}{m:Int}:(Dm a c n)[i]? =O m↔i<n/\m=a+(i:Int) * c:=by
 show cY.symm▸?_;by_cases h:i<n
 .rw [oF h];simp[h];show⟨λe=>e.symm,λe=>e.symm⟩
 .simp [h]
theorem Mz{a c:Int}:(Dm a c n).length=n:=by simp[Dm]
theorem qy{a b c:Int}{t u v:aW}{rr:ab}(hh:dh A)(B:Tp U)(x:hJ H U s.heap)(e:dz H s aD)(hr:qg aD.heap rr a b c t u v)(hs:vh a b c=N)(hn:kZ a b c=(n:Int)):T A (gm (R rr)) aD (Wo H A J G (Dm a c n) s):=by
 show Al hr hs<|hn.symm▸⟨?_,aD.heap.objs.size,_,_,_,vF (Mg hh _ a c n) Mz.symm (λi v hi qQ=>dG qQ λt hv=>kI _ t (o6.mpr ⟨hi,rfl⟩) hv),?_,λi h st b D=>?_,λb D=>?_,λb D=>?_⟩
 .show e.trans ⟨.push _ _,rfl,rfl,eV _⟩
 .have e1:(a+((0:Nat):Int) * c)=a:=by simp
  have e2:((n:Int) - ((0:Nat):Int))=n:=by rfl
  show e1.symm▸e2.symm▸bK _ Z
 .apply jT D;show ct _ st (ao ⟨_,rfl,λx t e=>by simp[dN]at e⟩)
 .apply jT D;show e.ext.new (bF _)
 .apply jT D;show gS (fi (jz B (x.trans e.ext))) ⟨_,bK _ Z⟩ (ao (e.ext.new (bF _)))
theorem zN{k:Int}(hh:dh A)(B:cA U mg mb)(I:dQ mg mb)(kO:Gi L "range")(he:V H U A L J G e (a9 k) af)(dH:cG e=af)(hk:k<2 ^ 62)(hk2: -(2 ^ 62)<=k):zr H U A L J G (bI (ar (aC "range") np) [e] [] pos) (Dm 0 1 k.toNat):=λs r=>by show mC ("range") ("range") B I aK kO (rfl) (fJ.cons he fJ.nil dH) (by simp[dW,dH]) r λvs aD F e1 V1=>?_;apply nJ V1;show λt=>sH (qy hh B.top r.base (e1.trans ⟨.push _ _,rfl,rfl,eV _⟩) (vp ..) (uY fF fF hk2 hk) ?_);rw[uV];split<;>lia
theorem zO{e':aw}{k m:Int}(hh:dh A)(B:cA U mg mb)(I:dQ mg mb)(kO:Gi L "range")(he:V H U A L J G e (a9 k) af)(dH:cG e=af)(Ja:V H U A L J G e' (a9 m) af)(IB:cG e'=af)(hk:k<2 ^ 62)(hk2: -(2 ^ 62)<=k)(hm:m<2 ^ 62)(hm2: -(2 ^ 62)<=m):
 zr H U A L J G (bI (ar (aC "range") np) [e,e'] [] pos) (Dm k 1 (m - k).toNat):=λs r=>by
 show mC ("range") ("range") B I aK kO (rfl) (fJ.cons he (fJ.cons Ja fJ.nil IB) dH) (by simp[dW,dH,IB]) r λvs aD F e1 V1=>?_;apply nH V1;intro v v3 G1 G3 V2 V4;apply bR.zI V2;intro t;show dG V4.toInt λt' dX=>dX▸call_range_2 (qy hh B.top r.base (e1.trans ⟨.push _ _,rfl,rfl,eV _⟩) (vp ..) (uY hk2 hk hm2 hm) ?_);rw[uV];split<;>grind
theorem Gl{e' e'':aw}{k m c:Int}(hh:dh A)(B:cA U mg mb)(I:dQ mg mb)(kO:Gi L "range")(he:V H U A L J G e (a9 k) af)(dH:cG e=af)(Ja:V H U A L J G e' (a9 m) af)(IB:cG e'=af)(ajE:V H U A L J G e'' (a9 c) af)(aeg:cG e''=af)(hc:c≠0)(hp:Ff (m - k) c=af)(hs:vh k m c=N)(hn:kZ k m c=(n:Int)):
 zr H U A L J G (bI (ar (aC "range") np) [e,e',e''] [] pos) (Dm k c n):=λs r=>by
 show mC ("range") ("range") B I aK kO (rfl) (fJ.cons he (fJ.cons Ja (fJ.cons ajE fJ.nil aeg) IB) dH) (by simp[dW,dH,IB,aeg]) r λvs aD F e1 V1=>?_;apply Br V1;intro v v3 v5 G1 G3 G5 V2 V4 V6;apply bR.zI V2;show λt=>og λgG kG=>dG V4.toInt λt' dX=>dG V6.toInt λt'' qD=>kG ?_;clear kG gG;subst dX;subst qD;show call_range_3 hc ?_ (ao hp);show qy hh B.top r.base (e1.trans ⟨.push _ _,rfl,rfl,eV _⟩) (vp ..) hs hn
def Yi:ig->ig->Prop
 | [],_=>True
 |(x,k,av)::r,G=>cq G x=O (k,av)/\Yi r G
def QY:ig->ig->Prop
 | [],_=>True
 |(x,k,av)::r,G=>(match fD k 2 with|true=>cq G x=O (k,av)|false=>True)/\QY r G
structure ko(G' G:ig):Prop where
 all:∀x k av,cq G' x=O (k,av)->cq G x=O (k,av)
 ajF:∀x av,cq G x=O (2,av)->cq G' x=O (2,av)
theorem BA(e:cq G x=O (k,av)):(x,k,av)∈G:=by
 induction G with
 |nil=>ext
 |cons p r ih=>
  obtain⟨y,k',mx⟩:=p;unfold cq at e;rw[Mf]at e;by_cases h:y=x
  .subst h;rw[decide_eq_true Z]at e;show aV e▸?_;ext
  .rw [decide_eq_false h]at e;show bZ _ (ih e)
theorem Yi.mem(h:Yi G' G)(hm:(x,k,av)∈G'):cq G x=O (k,av):=by
 induction G' with
 |nil=>ext
 |cons p r ih=>
  obtain⟨y,k',mx⟩:=p;rcases bu.mp hm with e|e
  .cases e;show h.1
  .show ih h.2 e
theorem QY.mem(h:QY G G')(hm:(x,2,av)∈G):cq G' x=O (2,av):=by
 induction G with
 |nil=>ext
 |cons p r ih=>
  obtain⟨y,k',mx⟩:=p;rcases bu.mp hm with e|e
  .cases e;show h.1
  .show ih h.2 e
theorem ko.of(h:Yi G' G)(h2:QY G G'):ko G' G:=⟨λ_ _ _ e=>h.mem (BA e),λ_ _ e=>h2.mem (BA e)⟩
theorem Yi.rf:∀{G:ig},(G'.map λp=>cq G p.1)=G'.map (λp=>O p.2)->Yi G' G:=by
 induction G' with
 |nil=>intro _ _;show trivial
 |cons _ _ iH=>intro _ h;show⟨(mu h).1,iH (mu h).2⟩
theorem QY.rf:∀{G G':ig},(G.map λp=>bif fD p.2.1 2 then cq G' p.1 else O p.2)=G.map (λp=>O p.2)->QY G G'
 | [],_,_=>trivial
 |(x,k,av)::_,_,h=>⟨by have h1:=(mu h).1;revert h1;dsimp only;cases fD k 2<;>intro h1<;>first|show trivial|show h1,QY.rf (mu h).2⟩
theorem ko.rf(h:(G'.map λp=>cq G p.1)=G'.map (λp=>O p.2))(h2:(G.map λp=>bif fD p.2.1 2 then cq G' p.1 else O p.2)=G.map (λp=>O p.2)):ko G' G:=.of (.rf h) (.rf h2)
theorem ko.refl(G:ig):ko G G:=⟨λ_ _ _ e=>e,λ_ _ e=>e⟩
theorem FR.less(r:FR H U D L J h G W)(x:ko G' G):FR H U D L J h G' W where
 b1:=r.b1
 ext:=r.ext
 scope:=r.scope
 kind:=r.kind
 glob:=r.glob
 bi:=r.bi
 loc:=r.loc
 ns:=r.ns
 cell:=λy hy=>lZ (r.cell y hy) λc a b d e=>wB c a b d (e.imp (λqQ=>dG qQ λav e=>⟨av,x.ajF y av e⟩) id)
 pT:=r.pT
 jj:=r.jj
 ents:=ji r.ents λval fp q=>qB val fp (λy k av e=>have a6:=q y k av (x.all y k av e);⟨a6.has,a6.rel,λhk=>⟨(a6.own hk).nd,λz hz=>have gC:=(a6.own hk).el z hz;⟨gC.mem,gC.ls,λy' k' mx e'=>gC.ap y' k' mx (x.all _ _ _ e')⟩⟩,a6.shd⟩)
theorem SS.less{G0 G1:ig}{ret:Option AV}(x:SS H U A L J ss G0 G1 ret)(h:ko G0 G):SS H U A L J ss G G1 ret:=λD s W r=>x (r.less h)
theorem SS.out{G0 G1:ig}{ret:Option AV}(x:SS H U A L J ss G G0 ret)(h:ko G1 G0):SS H U A L J ss G G1 ret:=λD s W r=>
 (x r).mono λf Y qQ=>eX qQ λm q=>⟨m,by
  cases ret with
  |none=>show iN q λa W' r' b=>⟨a,W',r'.less h,b⟩
  |some _=>show q⟩
theorem SS.share{G1:ig}{ret:Option AV}(y:Nat)(x:SS H U A L J ss (Lake.share G y) G1 ret):SS H U A L J ss G G1 ret:=λD s W r=>gH (r.share y) λW' r' hw _=>(x r').mono λf Y q=>q.behind (.refl W s) λd hd=>ao (hw d hd)
theorem kM.Wq{c:ab}{v:Option aa}(q:kM h c)(x:h.IsCell c v):False:=by show bh q λo e d=>(bh x λo' e' d'=>?_);replace e':=e▸e';obtain rfl:=aV e';rcases d with⟨_,d,_⟩|⟨_,_,d⟩|⟨_,_,d⟩|d<;>(have d:=d'.symm.trans d;ext)
theorem kM.Wl{b:ab}(q:kM h b)(aO:bR h av v F)(D:b∈F):False:=by show iN (aO.kinds b D) λ_ o e1 e2=>(bh q λo' e' d'=>?_);replace e':=e1▸e';obtain rfl:=aV e';rcases e2 with⟨_,_,_,e2⟩|⟨_,e2⟩<;>rcases d' with⟨_,d',_⟩|⟨_,_,d'⟩|⟨_,_,d'⟩|d'<;>(have e2:=d'.symm.trans e2;ext)
theorem FR.off(r:FR H U D L J h G W)(keep:∀b o,b∉wr->h.get? b=O o->h'.get? b=O o)(hw:∀b∈wr,kM h b/\b∉bY/\D.get? b=ai/\b∉W):FR H U D L J h' G W:=by
 have new:∀{b o},D.get? b=O o->b∉wr:=λ{b o} e q=>by have e:=((hw b q).2.2.1)▸e;ext
 show r.abH r.b1 ⟨λb o ht e=>keep b o (new e) (r.ext.keep b o ht e),λb ht ps e=>dG (r.ext.tab b ht ps e) λm e'=>⟨m,keep b _ (λq=>(hw b q).2.1 ht) e'⟩,λb o e=>dG (r.ext.there b o e) λo' e'=>⟨o',keep b o' (new e) e'⟩,
  λb o ht hq e=>keep b o (λq=>(hw b q).2.1 ht) (r.ext.quiet b o ht hq e)⟩
  (λb hb' o e=>keep b o (λq=>(hw b q).2.2.2 hb') e) (λc v ht x=>Bj (λo q=>⟨keep c o (λz=>(hw c z).1.Wq x) q.1,q.2⟩) x)
  λy k av v F _ aO=>aO.off (λb o hb' _ e=>keep b o hb' e) (λb hb'=>aH (hw b hb').1) _ _ _ λb hb' hq=>(hw b hq).1.Wl aO hb'
theorem mB.off{tk:Nat}(m:mB W s Y)(keep:∀b o,b∉wr->Y.heap.get? b=O o->h'.get? b=O o)(hw:∀b∈wr,s.heap.get? b=ai/\b∉bY):mB W s {Y with heap:=h',toks:=tk}:=by
 have new:∀{b o},s.heap.get? b=O o->b∉wr:=λ{b o} e q=>by have e:=((hw b q).1)▸e;ext
 show⟨⟨λb o D ht e=>keep b o (new e) (m.mod.keep b o D ht e),λb ht ps e=>dG (m.mod.tab b ht ps e) λx e'=>⟨x,keep b _ (λq=>(hw b q).2 ht) e'⟩,λb o e=>dG (m.mod.there b o e) λo' e'=>⟨o',keep b o' (new e) e'⟩⟩,m.os,m.drawn,m.gens⟩
def Stores(A:ck)(J:cg):LN->List Int->(ae->Prop)->(aa->ae->Prop)->ae->Prop
 | [],[],Q,_,s=>Q s
 |x::K,k::ks,Q,a6,s=>∀t,ax (aG prog w) A (Aq J (NM x) (ah k t)) (λ_ Y=>Stores A J K ks Q a6 Y) a6 s
 |_,_,_,_,_=>False
def Off(wr:List ab)(s Y:ae):Prop:=∃h' tk,Y={s with heap:=h',toks:=tk}/\∀b o,b∉wr->s.heap.get? b=O o->h'.get? b=O o
theorem Off.keep(x:Off wr s Y){b:ab}(D:b∉wr)(e:s.heap.get? b=O o):Y.heap.get? b=O o:=by show eQ x λh' tk dX k=>?_;subst dX;show k b o D e
theorem dz.off{aQ:ae}(x:dz H s aD)(y:Off wr aD aQ)(hw:∀b∈wr,s.heap.get? b=ai/\b∉bY):dz H s aQ:=by show eQ y λh' tk dX k=>dX▸⟨⟨λb o D e=>k b o (λq=>by have e:=((hw b q).1)▸e;ext) (x.ext.keep b o D e),λb D ps e=>dG (x.ext.tab b D ps e) λm e'=>⟨m,k b _ (λq=>(hw b q).2 D) e'⟩,λb o e=>?_,λb o D hq e=>k b o (λq=>(hw b q).2 D) (x.ext.quiet b o D hq e)⟩,x.os,x.drawn,x.gens⟩;show dG (x.ext.there b o e) λo' e'=>⟨o',k b o' (λq=>by have e:=((hw b q).1)▸e;ext) e'⟩
theorem dz.but{mF:ae}(x:dz H s Y)(k:Y.heap.SameBut aS mF.heap)(hC:s.heap.get? aS=ai)(hT:aS∉bY)(o:mF.os=Y.os)(d:mF.drawn=Y.drawn)(g:mF.gens=Y.gens):dz H s mF where
 ext:=⟨λb o hb' e=>k.extBut b o (λq=>by have e:=hC▸q▸e;ext) (x.ext.keep b o hb' e),λb hb' ps e=>dG (x.ext.tab b hb' ps e) λmo e'=>⟨mo,k.extBut b _ (λq=>hT (q▸hb')) e'⟩,
  λb o e=>dG (x.ext.there b o e) λo' e'=>⟨o',k.extBut b o' (λq=>by have e:=hC▸q▸e;ext) e'⟩,λb o hb' hq e=>k.extBut b o (λq=>hT (q▸hb')) (x.ext.quiet b o hb' hq e)⟩
 os:=o.trans x.os
 drawn:=d.trans x.drawn
 gens:=g.trans x.gens
theorem FR.Wr{b:ab}(r:FR H U D L J h G W)(e:h.get? b=ai):b∉W:=λhw=>oU (r.jj b hw) λ_ _ o e' _=>by have e':=e▸e';ext
theorem FR.aeV{b:ab}(r:FR H U D L J h G W)(x:hJ H h h')(e:h'.get? b=O (cU vs n)):b∉W:=λhw=>by
 show eX (r.jj b hw).2 λht m=>(bh m λo e' hk=>?_);obtain rfl:=aV ((x.keep b o ht e')▸e);rcases hk with⟨h1,_⟩|⟨_,_,h1⟩|⟨_,h1⟩
 .injection h1 with h3
  show nomatch h3
 .ext
 .ext
structure Y'(A:ck)(cu:aw)(K:LN)(items:List (List Int))(I:ab)(fp wr:List ab)(St:Nat->aN->Prop):Prop where
 sub:∀b∈wr,b∈fp
 frame:∀i h h',St i h->(∀b∈fp,∀o,h.get? b=O o->h'.get? b=O o)->St i h'
 item:∀i (s:ae) J (Q:ae->Prop) (aM:Option aa->ae->Prop) (a6:aa->ae->Prop),i<items.length->St i s.heap->
  (∀Y ks,items[i]? =O ks->St (i+1) Y.heap->Off wr s Y->Stores A J K ks Q a6 Y)->
  (∀v aD,ax (aG prog w) A (jF cu (R I) v) (λ_ uD=>ax (aG prog w) A (jJ cu J v) (λ_ aQ=>Q aQ) a6 uD) a6 aD->aM (O v) aD)->
  ax (aG prog w) A (gY (R I)) aM a6 s
 done:∀(s:ae) (Q:Option aa->ae->Prop) (a6:aa->ae->Prop),St items.length s.heap->(∀Y,Off wr s Y->Q ai Y)->ax (aG prog w) A (gY (R I)) Q a6 s
 self:∀i (s:ae) (Q:aa->ae->Prop) (a6:aa->ae->Prop),St i s.heap->Q (R I) s->ax (aG prog w) A (gm (R I)) Q a6 s
theorem QZ{ns:List Int}(W:mT prog w A I fp wr ns.length (Gj ns) St):
 Y' A (ar (NM x) px) [x] (ns.map λn=>[n]) I fp wr St where
 sub:=W.sub
 frame:=W.frame
 item:=λi s J Q aM a6 hi st hs hR=>by show W.item i s aM a6 (by simpa using hi) st λv h' tk qQ NU keep=>eQ qQ λn t hn hv=>?_;subst hv;show hR _ _<|aB<|jE<|hs {s with heap:=h',toks:=tk} [n] (by rw[cY,hn];rfl) NU (kI h' tk Z keep) t
 done:=λs Q a6 st hq=>W.done s Q a6 (by simpa using st) λh' tk keep=>hq _ (kI h' tk Z keep)
 self:=W.self
theorem Dn{py pt:aY}{ps:List (Int×Int)}{Mid:Nat->ab->aN->Prop}(hh:dh A)(W:WalksU prog w A I fp wr ps.length (λi MA=>∃a b t u,ps[i]? =O (a,b)/\MA=#[ah a t,ah b u]) St Mid):
 Y' A (il [ar (NM x) px,ar (NM y) py] k0 pt) [x,y] (ps.map λp=>[p.1,p.2]) I fp wr St where
 sub:=W.sub
 frame:=W.frame
 item:=λi s J Q aM a6 hi st hs hR=>by show W.item i s aM a6 (by simpa using hi) st λT MA h' tk q hT hm keep=>dG q λa q=>eY q λb t u hp hv=>?_;subst hv;show hR _ _<|W.go _ _ _ i T {s with heap:=h',toks:=tk} _ a6 hm λh'' ajG aeh=>JS hh (hT.at λo e=>aeh T o (W.apart i T h' hm) e) Z Z λh3 he=>have k3:=λc o e=>he c o (fB (cn e)) e;have off:Off wr s {s with heap:=h3,toks:=tk}:=kI h3 tk Z (λc o hc e=>k3 c o (aeh c o hc (keep c o hc e)));ag (cO (jE (gV ((hs {s with heap:=h3,toks:=tk} [a,b] (by rw[cY,hp];rfl) (W.frame _ _ _ ajG λc _ o e=>k3 c o e) off) t) (λ_ s4 q4=>?_) λ_ _ e=>e)));show ag (cO (jE (gV (q4 u) (λ_ s5 q5=>?_) λ_ _ e=>e)));show aB q5
 done:=λs Q a6 st hq=>W.done s Q a6 (by simpa using st) λh' tk keep=>hq _ (kI h' tk Z keep)
 self:=W.self
inductive Z'(H:List ab)(U:aN)(A:ck)(L:c9)(J:cg)(G:ig)(cu:aw)(K:LN)(items:List (List Int))(lp:Bool)(s:ae):aa->ae->Prop
 |mk {aQ:ae} (e:dz H s aQ) (I:ab) (fp wr:List ab) (St:Nat->aN->Prop) (W:Y' A cu K items I fp wr St) (st:St 0 aQ.heap) (Gk:lp=N->∀i h,St i h->∀b∈wr,kM h b)
  (X':∀b∈wr,s.heap.get? b=ai) (Ai:∀b∈fp,b∉bY/\∃o,aQ.heap.get? b=O o) (ap:lp=N->∀b∈fp,∀D W,FR H U D L J s.heap G W->b∉W):Z' H U A L J G cu K items lp s (R I) aQ
def Yj(H:List ab)(U:aN)(A:ck)(L:c9)(J:cg)(G:ig)(e:aw)(cu:aw)(K:LN)(items:List (List Int))(lp:Bool:=af):Prop:=
 ∀s,ER H U L J s.heap G->T A (aZ e J) s (λx aD=>T A (gm x) aD (Z' H U A L J G cu K items lp s))
theorem zr.itc{ns:List Int}{lp:Bool}(q:zr H U A L J G e ns):Yj H U A L J G e (ar (NM x) px) [x] (ns.map λn=>[n]) lp:=λs r=>
 (q s r).mono λv aD q=>q.mono λit aQ q=>by obtain⟨e1,I,fp,wr,St,Wk,st,Gk,X',Ai⟩:=q;show⟨e1,I,fp,wr,St,QZ Wk,st,λ_=>Gk,X',λb D=>⟨(Ai b D).1,(Ai b D).2.1⟩,λ_ b D _ _ r=>(Ai b D).2.2.elim r.Wr λq=>q.U' r⟩
noncomputable def qO(p:Int×Int):AV:=gr [a9 p.1,a9 p.2]
theorem Yk{ps:List (Int×Int)}:∀{vs:List aa} {F:List ab},bC h (ps.map qO) vs F->vs.length=ps.length/\
 ∃(Ts:Nat->ab) (MA:Nat->Array aa),∀j,j<vs.length->vs[j]? =O (R (Ts j))/\Ts j∉bY/\h.IsTuple (Ts j) (MA j)/\∃a b t u,ps[j]? =O (a,b)/\MA j=#[ah a t,ah b u]:=by
 induction ps with
 |nil=>intro vs F r;show eX r λdX _=>?_;clear r;subst dX;show⟨rfl,λ_=>0,λ_=>#[],λj hj=>absurd hj (rD _)⟩
 |cons p ps iH=>
  intro vs F r;show og λgG kG=>(gv r λv tL F1 F2 qD e2 e3 _=>?_);obtain⟨l,Ts,MA,q⟩:=iH e3;show kG ?_;clear kG gG;show qD▸gI e2 λa ws n DQ ht e4 e5=>DQ▸kK e5 λw1 ws1 _ _ NR e6 e7 _=>?_;subst NR;show kK e7 λw2 ws2 _ _ ZN e8 e9 _=>?_;subst ZN;show eX e9 λeQ6 _=>dG e6.toInt λt eQ7=>dG e8.toInt λu eQ8=>?_;subst eQ6;subst eQ7;subst eQ8;show⟨by simp[l],λj=>match j with | 0=>a|j+1=>Ts j,λj=>match j with | 0=>#[ah p.1 t,ah p.2 u]|j+1=>MA j,λj hj=>?_⟩;cases j with
  |zero=>show⟨rfl,ht,⟨_,e4,rfl,n,rfl⟩,p.1,p.2,t,u,rfl,rfl⟩
  |succ j=>show iM (q j (by simpa using hj)) λa1 a2 a3 a4=>rO a1 a2 a3 a4
theorem Dp{n':Nat}{P P':Nat->Array aa->Prop}{Mid:Nat->ab->aN->Prop}(x:WalksU prog w A I fp wr n P St Mid)(hn:n=n')(hp:∀i v,i<n->P i v->P' i v):WalksU prog w A I fp wr n' P' St Mid:=by subst hn;show⟨x.sub,x.frame,λi s Q a6 hi st hq=>x.item i s Q a6 hi st λT v h' tk p=>hq T v h' tk (hp i v hi p),x.go,x.apart,x.done,x.self⟩
theorem Jb{ps:List (Int×Int)}{py pt:aY}{lp:Bool}(hh:dh A)(B:Tp U)(he:V H U A L J G e (bV K) fr)(hi:K=ps.map qO)(hlp:lp=N->fr=N):
 Yj H U A L J G e (il [ar (NM x) px,ar (NM y) py] k0 pt) [x,y] (ps.map λp=>[p.1,p.2]) lp:=λs r=>by
 show(he r).tN λv aD F e1 aO q=>?_;apply fP aO;intro a vs n F' ht a3 a4 Z9;subst Z9;subst hi;obtain⟨l,Ts,MA,q2⟩:=Yk a4;show uR (bX a3) ?_;have hT:=λj hj=>by show og λgG kG=>iM (q2 j hj) λ_ _ i1 _=>bh i1 λo ho _=>kG ?_;clear kG gG;show cn ho
 have all:∀b∈aD.heap.objs.size::a::(aI vs.toArray.size).map Ts,(b∉bY/\∃o,(aD.heap.push {cls:=ak "list_iterator",data:=bH #[R a,ah 0 0]}).get? b=O o)/\(fr=N->s.heap.get? b=ai\/∃vs n,(aD.heap.push {cls:=ak "list_iterator",data:=bH #[R a,ah 0 0]}).get? b=O (cU vs n)):=λb D=>by
  show bf (bu.mp D) (λa1=>a1▸?_) λD=>?_
  .show ⟨⟨fi (jz B (r.base.trans e1.ext)),⟨_,bK _ Z⟩⟩,λ_=>ao (e1.ext.new (bF _))⟩
  show bf (bu.mp D) (λa1=>a1.symm▸?_) λD=>?_
  .show ⟨⟨ht,⟨_,a8 _ a3⟩⟩,λhf=>ao ((q hf).1 _ au)⟩
  .show bh (bG.mp D) λj hj dX=>dX▸have hj:j<vs.length:=dm.mp hj;iM (q2 j hj) λQW p1 p2 _=>?_;have dM:j<ps.length:=by lia
   show jy (bC.get a4 (by rw[cY,dE dM];rfl)) λu F3 g1 g2 _=>?_;obtain rfl:=aV (QW.symm.trans g1);show gI g2 λa' ws n' g3 _ g4 _=>?_;obtain rfl:=j7 g3;show⟨⟨p1,⟨_,a8 _ g4⟩⟩,λ_=>aH (qB ws n' (a8 _ g4))⟩
 show⟨?_,aD.heap.objs.size,_,_,_,Dn hh (Dp (WalksU.listOfTuples hh aD.heap.objs.size a (fB (cn a3)) vs.toArray Ts MA (λj hj=>by simpa using (q2 j (hj)).1) (λj hj=>fB (hT j (hj))))
  (by assumption) (λi v hi hv=>?_)),(gS ?_ ?_ ?_),λ_ i h st b D=>?_,λb D=>?_,λb D=>(all b D).1,λl b D hb' W r=>((all b D).2 (hlp l)).elim r.Wr λqQ=>ji qQ λvs n e=>r.aeV (e1.ext.trans (.push _ _)) e⟩
 .show e1.trans ⟨.push _ _,rfl,rfl,eV _⟩
 .subst hv;show(q2 i (hi)).2.2.2
 .show kH _ (bK _ Z) Z Z
 .show bX (a8 _ a3)
 .show λk hk=>(q2 k (hk)).2.2.1.at λo e=>a8 _ e
 .apply jT D;show eX st λi1 _=>gH i1 λo ho _ hd=>ct o ho (ao ⟨_,hd,λx t e=>by simp at e⟩)
 .apply jT D;show e1.ext.new (bF _)
theorem Oi{ps:List (Int×Int)}{py pt:aY}(hh:dh A)(B:Tp U)(he:V H U A L J G e (bV K) af)(hi:K=ps.map qO):
 Yj H U A L J G e (il [ar (NM x) px,ar (NM y) py] k0 pt) [x,y] (ps.map λp=>[p.1,p.2]):=Jb hh B he hi λh=>Ip h
theorem Yj.zip{e':aw}{ns ms:List Int}{py pt:aY}(hh:dh A)(B:cA U mg mb)(I:dQ mg mb)(kO:Gi L "zip")(he:V H U A L J G e (bV K) af)(dH:cG e=af)(Ja:V H U A L J G e' (bV ys) af)(IB:cG e'=af)(hi:jf K=O ns)(hi':jf ys=O ms):
 Yj H U A L J G (bI (ar (aC "zip") np) [e,e'] [] pos) (il [ar (NM x) px,ar (NM y) py] k0 pt) [x,y] ((ns.zip ms).map λp=>[p.1,p.2]):=λs r=>by
 show mC ("zip") ("zip") B I aK kO (rfl) (fJ.cons he (fJ.cons Ja fJ.nil IB) dH) (by simp[dW,dH,IB]) r λvs aD F e1 V1=>?_;apply nH V1;intro v v3 G1 G3 V2 V4;apply fP V2;intro a us n F' ht a3 a4 eF4;apply fP V4;intro b ws m QP ht' b3 b4 eF5;show eX (nZ (intsAre_of a4 hi)) λk1 k2=>eX (nZ (intsAre_of b4 hi')) λl1 l2=>call_zip_2 (bX a3) (bX b3) λh' z1 z2 z3 z4 z5 z6 z7=>have la: @LT.lt Nat instLTNat a aD.heap.objs.size:=cn a3;have lb: @LT.lt Nat instLTNat b aD.heap.objs.size:=cn b3;JX z1 ?_;have nN:=λc hc=>e1.ext.new (by
  cases q:aD.heap.get? c with
  |none=>rfl
  |some o=>show absurd (cn q) (j5.mpr hc))
 have Yl:=jz B.top (r.base.trans e1.ext);show⟨?_,_,_,_,_,Dn hh (Dp (WalksT.zip2 hh _ _ _ _ _ a b (by constructor<;>(show(?_:¬((_:Nat)=(_:Nat))))<;>lia) us.toArray ws.toArray).toU (by simp[k1,l1]) (λi v hi hv=>?_)),⟨z1,z2,⟨_,_,z3⟩,z4,z5,bX (z7 _ _ a3),bX (z7 _ _ b3)⟩,(λh=>nomatch h),λc hc=>?_,λc hc=>?_,(λh=>nomatch h)⟩
 .show e1.trans ⟨.of_keep z7,rfl,rfl,eV _⟩
 .show jy hv λp q h1 h2 h3=>eQ (k2 i p (by simpa using h1)) λn1 t1 g1 dX=>eQ (l2 i q (by simpa using h2)) λn2 t2 g2 qD=>?_;subst dX;subst qD;show aeK n1 n2 t1 t2 ?_ h3;rw[List.zip,EC,g1,g2]
 .simp at hc;rcases hc with rfl|rfl|rfl|rfl<;>show nN _ fF
 .simp at hc;rcases hc with rfl|rfl|rfl|rfl|rfl|rfl|rfl
  .show ⟨fi (yh Yl),_,z1⟩
  .show ⟨fi (yh Yl),_,z2⟩
  .show ⟨fi (yh Yl),_,z3⟩
  .show ⟨fi au,bh z4 λo e _=>⟨o,e⟩⟩
  .show ⟨fi au,bh z5 λo e _=>⟨o,e⟩⟩
  .show ⟨ht,_,z7 _ _ a3⟩
  .show ⟨ht',_,z7 _ _ b3⟩
noncomputable def o7(ifs:List aw)(J:cg):aE Bool:=forIn ifs N λc r=>if r=N then do let ok<-isTrue c J (aZ c J);pure (mq ok) else pure (mq r)
theorem zc{jx:aa}(I:Nat->ae->Prop)(turn:∀n s (P1:Option aa->ae->Prop) (P2 bp:ae->Prop) (P3:Bool->ae->Prop) (P4:aa->ae->Prop) (a6:aa->ae->Prop),(∀m Y,m<n->I m Y->bp Y)->(∀aD,aM (cf cJ) aD->P1 ai aD)->
 (∀v aD,ax (aG prog w) A (jF cu it v) (λ_ uD=>ax (aG prog w) A (jJ cu J v) (λ_ aQ=>P2 aQ) a6 uD) a6 aD->P1 (O v) aD)->(∀aQ,ax (aG prog w) A (o7 ifs J) P3 a6 aQ->P2 aQ)->
 (∀de,ax (aG prog w) A (aZ elt J) P4 a6 de->P3 N de)->(∀de,bp de->P3 af de)->(∀x fq,ax (aG prog w) A (call (bx "list.append") [jx,x]) (λ_=>bp) a6 fq->P4 x fq)->I n s->ax (aG prog w) A (gY it) P1 a6 s)(n:Nat)(h:I n s):
 oE (aG prog w) A (hb (cP elt [⟨cu,iter,ifs,0⟩] scope pos) 0 it jx J) aM s:=by
 show codeAny_loop Z I (λn s hI=>?_) n h;show(?_:ax _ A ((uZ (cP elt [⟨cu,iter,ifs,0⟩] scope pos) 0 it jx J).onRaise (λx=>do noteFrame x J;theTreesLotGoes x)) _ _ s);show wpAny_noted ?_;rw[compTurn_list];show ag (jW (ag (gV (turn n s (λr aD=>match r with
  |none=>aM (cf cJ) aD
  |some v=>ax (aG prog w) A (jF cu it v) (λ_ uD=>ax (aG prog w) A (jJ cu J v) (λ_ aQ=>
   ax (aG prog w) A (forIn ifs N λc r=>if r=N then do let ok<-isTrue c J (aZ c J);pure (mq ok) else pure (mq r)) (λok de=>
    if ok=N then ax (aG prog w) A (aZ elt J) (λx fq=>
     ax (aG prog w) A (call (bx "list.append") [jx,x]) (λ_ hO=>∃m,m<n/\I m hO) (Az (aG prog w) A J λe Y=>aM (kY e) Y) fq) (Az (aG prog w) A J λe Y=>aM (kY e) Y) de
    else∃m,m<n/\I m de) (Az (aG prog w) A J λe Y=>aM (kY e) Y) aQ) (Az (aG prog w) A J λe Y=>aM (kY e) Y) uD) (Az (aG prog w) A J λe Y=>aM (kY e) Y) aD) _ (λY=>∃m,m<n/\I m Y) _ _ _
  (λm _ a b=>ct m a b) (λ_ h=>h) (λ_ _ h=>h) (λ_ h=>h) (λ_ h=>(if_pos Z).mpr h) (λ_ h=>(if_neg aK).mpr h) (λ_ _ h=>h) hI) (λr aD U=>?_) λ_ _ h'=>h')))
 cases r with
 |none=>show aB U
 |some v=>
  show ag (gV U (λ_ uD γ=>?_) λ_ _ h'=>h');show ag (gV γ (λ_ aQ kq=>ag (gV kq (λok de uk=>?_) λ_ _ h'=>h')) λ_ _ h'=>h');cases ok with
  |false=>show aB ⟨rfl,uk⟩
  |true=>show ag (ag (gV uk (λx fq Gm=>ag (gV Gm (λ_ hO zP=>aB (aB ⟨rfl,zP⟩)) λ_ _ h'=>h')) λ_ _ h'=>h'))
theorem o8{vn:cg}{names:List (aP×u4)}{x:aP}{k:u4}(h:names.lookup x=O k):
 (names.map λ(n,k)=>if(k==eN && vn.scope.kind==d0 && vn.kindOf n==O dw) then(n,dw) else(n,k)).lookup x=O k\/
 (k=eN/\(names.map λ(n,k)=>if(k==eN && vn.scope.kind==d0 && vn.kindOf n==O dw) then(n,dw) else(n,k)).lookup x=O dw):=by
 induction names with
 |nil=>show Bk h
 |cons p r iH=>
  obtain⟨n,k'⟩:=p;have hd:∀q:aP×u4,Um x (q::r.map λ(n,k)=>if(k==eN && vn.scope.kind==d0 && vn.kindOf n==O dw) then(n,dw) else(n,k))=bif x==q.1 then O q.2 else Um x (r.map λ(n,k)=>if(k==eN && vn.scope.kind==d0 && vn.kindOf n==O dw) then(n,dw) else(n,k)):=λq=>by change(match x==q.1 with|true=>_|false=>_)=_;cases x==q.1<;>rfl
  have hh:(match x==n with|true=>O k' |false=>r.lookup x)=O k:=h;show iK.symm▸?_;dsimp only;by_cases hc:(k'==eN && vn.scope.kind==d0 && vn.kindOf n==O dw)=N
  .rw [if_pos hc,hd];cases E:x==n with|true=>rw[E]at hh;show aH ⟨(aV hh)▸eq_of_beq (fL.mp (fL.mp hc).1).1,rfl⟩|false=>rw[E]at hh;show iH hh
  .rw [if_neg hc,hd];cases E:x==n with|true=>rw[E]at hh;show ao hh|false=>rw[E]at hh;show iH hh
theorem wK(aeW:∀x∈scope.names,x.2=eN->∃c,J.cells.lookup x.1=O c):
 ∃cl,rb scope J=pure cl/\∀x,(x,eN)∈scope.names->cl.lookup x=J.cells.lookup x:=by
 delta rb
 have key:∀(names:List (aP×u4)) (cs:List (aP×ab)),(∀x∈names,x.2=eN->∃c,J.cells.lookup x.1=O c)->(∀x c,cs.lookup x=O c->J.cells.lookup x=O c)->
  ∃cl,(forIn names cs λx cs=>if(x.2==eN)=N then(do let c<-cellOf J x.1;pure (mq ((x.1,c)::cs))) else pure (mq cs):aE (List (aP×ab)))=pure cl/\
   (∀x,(x,eN)∈names\/cs.lookup x≠ai->cl.lookup x=J.cells.lookup x)/\(∀x c,cl.lookup x=O c->J.cells.lookup x=O c):=by
  intro names;induction names with
  |nil=>
   show λcs _ hc=>kH cs Z (λx E=>?_) hc;rcases E with E|E
   .ext
   .cases q:cs.lookup x with
    |none=>show(E q).elim
    |some c=>rw[hc x c q]
  |cons p names ih=>
   intro cs hn hc;obtain⟨n,k⟩:=p;rw[yc];by_cases hk:(k==eN)=N
   .show dG (hn (n,k) au (of_decide_eq_true hk)) λc hcn=>?_;have hc':∀x c',((n,c)::cs).lookup x=O c'->J.cells.lookup x=O c':=λx c' e=>by
     dsimp only[AJ]at e;show boC (x==n) (λE=>?_) λE=>?_
     .replace e:=E▸e;show(by simpa using E)▸e▸hcn
     .have e:=E▸e;show hc x c' e
    show gH (ih ((n,c)::cs) (λx E=>hn x (dF _ E)) hc') λcl e1 e2 e3=>((kH cl ?_ (λx E=>?_) e3))
    .rw [hk,cellOf,hcn];show e1
    .show e2 x ?_;rcases E with E|E
     .show bf (bu.mp E) (λE=>?_) λE=>ao E;cases E
      right
      simp
     .right
      dsimp only[AJ];cases x==n with
      |true=>show Option.some_ne_none c
      |false=>show E
   .show gH (ih cs (λx E=>hn x (dF _ E)) hc) λcl e1 e2 e3=>((kH cl ?_ (λx E=>?_) e3))
    .simp only[hk];show e1
    .show e2 x ?_;rcases E with E|E
     .show bf (bu.mp E) (λE=>?_) λE=>ao E;show XY E λa1 a2=>?_;subst a1;subst a2;show(hk Z).elim
     .show aH E
 show gH (key scope.names [] aeW (λx c e=>by ext)) λcl e1 e2 _=>((ct cl ?_ (λx E=>e2 x (ao E))));rw[<-e1];rw[bind_pure]
def lB(G:ig):LN->ig
 | []=>[]
 |y::fs=>(cq G y).elim (lB G fs) λp=>(y,p)::lB G fs
def pU(G:ig):LN->Bool
 | []=>N
 |y::fs=>(cq G y).isSome && pU G fs
def putAll:ig->LN->List Int->ig
 |G,x::K,k::ks=>putAll (jm G x 0 (a9 k)) K ks
 |G,_,_=>G
theorem Gn(h:cq (lB G fs) y=O (k,av)):y∈fs/\cq G y=O (k,av):=by
 induction fs with
 |nil=>ext
 |cons z fs ih=>
  have h:cq ((cq G z).elim (lB G fs) λp=>(z,p)::lB G fs) y=O (k,av):=h;show ZW (cq G z) (λq=>?_) λp q=>?_
  .rw [q]at h;show eX (ih h) λa b=>⟨by lia,b⟩
  .obtain ⟨k',mx⟩:=p;rw[q]at h;replace h:=(my _ z k' mx y).symm.trans h;by_cases e:z=y
   .subst e;rw[if_pos Z]at h;cases h
    show⟨by lia,q⟩
   .simp [e]at h;show eX (ih h) λa b=>⟨by lia,b⟩
theorem Oj(h:pU G fs=N)(hy:y∈fs):∃k av,cq G y=O (k,av):=by
 induction fs with
 |nil=>show kJ hy
 |cons z fs ih=>have h:=fL.mp h;show bf (bu.mp hy) (λa1=>a1▸dG (yo.mp h.1) λp e=>qB p.1 p.2 e) λhy=>ih h.2 hy
theorem Dq{K:LN}:∀{ks:List Int} {G:ig} {y k:Nat} {av:AV},K.length=ks.length->cq (putAll G K ks) y=O (k,av)->
 (∃(j:Nat) (i:Int),K[j]? =O y/\ks[j]? =O i/\av=a9 i/\∀j':Nat,j<j'->K[j']? ≠O y)\/(y∉K/\cq G y=O (k,av)):=by
 induction K with
 |nil=>
  intro yY;cases yY with
  |nil=>intro G y k av _ h;show aH ⟨mX,h⟩
  |cons=>intros;first|ext|(simp at *)
 |cons x K iH=>
  intro yY;cases yY with
  |nil=>intros;first|ext|(simp at *)
  |cons i ks=>
   intro G y k av hl h;rcases iH (Nat.add_right_cancel hl) h with⟨j,i',h1,h2,h3,h4⟩|⟨h1,h2⟩
   .show ao (Ml (j+1) i' h1 h2 h3 (λj' hj'=>?_));cases j' with|zero=>simp_all|succ j'=>show h4 j' (KY.mp hj')
   .rw [fH]at h2;rcases yF (y=x) with e|e
    .subst e;replace h2:=(if_pos Z)▸h2;show XY (aV h2) λa1 a2=>?_;subst a1;subst a2;show ao (Ml 0 i Z Z Z (λj' hj'=>?_));cases j' with|zero=>simp_all|succ j'=>intro q;show h1 (cW (q))
    .rw [if_neg e]at h2;show aH ⟨gZ e h1,h2⟩
structure ed(L scope:c9)(fs K:LN):Prop where
 kind:scope.kind=d0
 cell:∀y∈scope.names,y.2≠dw
 names:∀y∈scope.names,y.2=cZ->scope.names.lookup y.1=O cZ
 free:∀y∈scope.names,y.2=eN->y.1∈fs.map NM
 frees:∀y∈fs,scope.names.lookup (NM y)=O eN/\(NM y,eN)∈scope.names
 locs:∀x∈K,scope.names.lookup (NM x)=O cZ
 outer:∀y∈fs,L.names.lookup (NM y)=O dw\/L.names.lookup (NM y)=O eN
 nodup:K.Nodup
def agX(L scope:c9)(fs K:LN):Bool:=
 scope.kind==d0 && scope.names.all (λy=>y.2 != dw) && scope.names.all (λy=>y.2 != cZ ||scope.names.lookup y.1==O cZ) &&
 scope.names.all (λy=>y.2 != eN ||(fs.map NM).contains y.1) && fs.all (λy=>scope.names.lookup (NM y)==O eN && scope.names.contains (NM y,eN)) &&
 K.all (λx=>scope.names.lookup (NM x)==O cZ) && fs.all (λy=>L.names.lookup (NM y)==O dw ||L.names.lookup (NM y)==O eN) && decide K.Nodup
theorem ed.of{K:LN}(h:agX L scope fs K=N):ed L scope fs K:=by simp only[agX,qt,mW,Lr,beq_iff_eq,bne_iff_ne,ED,decide_eq_true_eq]at h;obtain⟨⟨⟨⟨⟨⟨⟨h1,h2⟩,h3⟩,h4⟩,h5⟩,h6⟩,h7⟩,h8⟩:=h;show⟨h1,h2,λy hy e=>(h3 y hy).resolve_left (λq=>q e),λy hy e=>(h4 y hy).resolve_left (λq=>q e),h5,h6,h7,h8⟩
theorem ed.Ol{K:LN}(c:ed L scope fs K)(r:ER H U L J s.heap G)(hG:pU G fs=N):
 ∃cl,rb scope J=pure cl/\∀y∈fs,cl.lookup (NM y)=J.cells.lookup (NM y):=by
 obtain⟨cl,e1,e2⟩:=wK (λx E hk=>by
  show bh (bG.mp (c.free x E hk)) λy hy e=>ji (Oj hG hy) λk av e3=>eQ (r.has y k av e3) λv F cB _=>have hk2:=r.Wh _ (c.outer y hy);bf cB (λi0=>eX i0 λhl _=>?_) λi0=>iN i0 λ_ c' hc _=>?_
  .rw [hl]at hk2;rcases hk2 with hk2|hk2<;>ext
  .show ⟨c',e▸hc⟩)
 show ct cl e1 (λy hy=>e2 _ (c.frees y hy).2)
theorem ER.agY{K:LN}(c:ed L scope fs K)(r:ER H U L J h G)(x:hJ H h h')(jB:∀y∈fs,fV.cells.lookup (NM y)=J.cells.lookup (NM y))(fr:∀y∈fs,fV.kindOf (NM y)=O dw\/fV.kindOf (NM y)=O eN)(e:cq (lB G fs) y=O (k,av)):∃v F,Ah fV h' (NM y) v/\bR h' av v F:=by
 show eX (Gn e) λh3 h4=>eQ (r.has y k av h4) λv F cB aO=>have hk2:=r.Wh _ (c.outer y h3);bf cB (λi0=>eX i0 λhl _=>?_) λi0=>oW i0 λ_ c' hc ht hv=>?_
 .rw [hl]at hk2;rcases hk2 with hk2|hk2<;>ext
 .show kI v F (aH ⟨fr y h3,c',(jB y h3).trans hc,ht,x.cell ht hv⟩) (aO.ext x)
theorem ER.agZ{K:LN}{ks:List Int}(c:ed L scope fs K)(r:ER H U L J h G)(x:hJ H h h')(jB:∀y∈fs,fV.cells.lookup (NM y)=J.cells.lookup (NM y))(fr:∀y∈fs,fV.kindOf (NM y)=O dw\/fV.kindOf (NM y)=O eN)(n:h'.Ns fV.locals m)(ll:∀y∈K,fV.kindOf (NM y)=O cZ)(hl:K.length=ks.length)(hm:∀(j:Nat) x k,K[j]? =O x->ks[j]? =O k->∃t,m (NM x)=O (ah k t))(y k:Nat)(av:AV)(e:cq (putAll (lB G fs) K ks) y=O (k,av)):∃v F,Ah fV h' (NM y) v/\bR h' av v F:=by
 rcases Dq hl e with⟨j,i,h1,h2,rfl,_⟩|⟨h1,h2⟩
 .show dG (hm j y i h1 h2) λt e3=>kI (ah i t) [] (ao ⟨ll y (cW h1),m,n,e3⟩) (.ofInt i t)
 .show r.agY c x jB fr h2
theorem abP{y:aP}(h:scope.names.lookup y=O eN):(ju scope cl aS J).kindOf y=O dw\/(ju scope cl aS J).kindOf y=O eN:=(o8 (vn:=J) h).elim aH λe=>ao e.2
theorem Ym{y:aP}{k:u4}(h:scope.names.lookup y=O k)(hk:k≠eN):(ju scope cl aS J).kindOf y=O k:=(o8 (vn:=J) h).elim id λe=>absurd e.1 hk
theorem ER.comp{K:LN}{ks:List Int}(c:ed L scope fs K)(r:ER H U L J h G)(x:hJ H h h')(jB:∀y∈fs,cl.lookup (NM y)=J.cells.lookup (NM y))(n:h'.Ns aS m)(hC:aS∉bY)(hl:K.length=ks.length)(hm:∀(j:Nat) x k,K[j]? =O x->ks[j]? =O k->∃t,m (NM x)=O (ah k t)):ER H U scope (ju scope cl aS J) h' (putAll (lB G fs) K ks) where
 base:=r.base.trans x
 kind:=c.kind
 gl:=λ_ hy=>Ym hy nofun
 Wh:=λ_ hy=>hy.elim (λh=>ao (Ym h nofun)) abP
 glob:=r.glob
 bi:=r.bi
 loc:=hC
 has:=r.agZ c x jB (λy h=>abP (c.frees y h).1) n (λy h=>Ym (c.locs y h) nofun) hl hm
theorem Stores.local(hC:J.locals=aS)(hk:J.scope.kind=d0):∀(K:LN) (ks:List Int) (s:ae) (m:aP->Option aa) (Q:ae->Prop) (a6:aa->ae->Prop),K.length=ks.length->K.Nodup->
 (∀x∈K,J.kindOf (NM x)=O cZ)->s.heap.Ns aS m->
 (∀Y m',gw aS s.heap Y.heap->Y.os=s.os->Y.drawn=s.drawn->Y.gens=s.gens->Y.heap.Ns aS m'->(∀(j:Nat) x k,K[j]? =O x->ks[j]? =O k->∃t,m' (NM x)=O (ah k t))->
  (∀y,(∀x∈K,y≠NM x)->m' y=m y)->Q Y)->Stores A J K ks Q a6 s:=by
 intro K;induction K with
 |nil=>
  intro ks s m Q a6 hl hd E n hq;cases ks with
  |cons=>ext
  |nil=>show hq s m (UP ..) Z Z Z n (λj x k e=>by ext) (λ_ _=>rfl)
 |cons x K ih=>
  intro ks s m Q a6 hl hd E n hq;cases ks with
  |nil=>ext
  |cons i ks=>
  intro t;subst hC;show sC (E x au) n (λh' wt zL=>?_) (by show hk.symm▸?_;rfl);show ih ks _ _ Q a6 (by simpa using hl) (by simp at hd;show hd.2) (λy hy=>E y au) wt λY m' h1 h2 h3 h4 h5 h6 h7=>(hq Y m' (zL.trans h1) h2 h3 h4 h5 (λj y k e1 e2=>?_) (λy hy=>?_))
  .cases j with
   |zero=>
    simp at e1 e2;subst e1 e2;show DN t ?_;rw[h7 (NM x) (λz hz e=>?_)]
    .show if_pos Z
    .have:=Cv e;subst this;simp at hd;show hd.1 hz
   |succ j=>show h6 j y k (e1) (e2)
  .rw [h7 y (λz hz=>hy z au)];show if_neg (hy x au)
noncomputable def kP(ns:List Int):AV:=bV (ns.map a9)
def Om(H:List ab)(U:aN)(A:ck)(L:c9)(J:cg)(G:ig):List aw->Bool->Prop
 | [],b=>b=N
 | [c],b=>oZ H U A L J G c b
 |_,_=>False
inductive ag0(H:List ab)(aS a0:ab)(St:Nat->aN->Prop)(items:List (List Int))(p:List Int->Bool)(f:List Int->Int)(s:ae)(k:Nat)(Y:ae):Prop
 |mk (i:Nat) (m':aP->Option aa) (ys:List aa) (n:Nat) (e:k=items.length+1 - i) (hi:i<=items.length) (x:dz H s Y) (st:St i Y.heap) (nn:Y.heap.Ns aS m') (hd:Y.heap.get? a0=O (br ys n))
  (hV:bC Y.heap ((((items.take i).filter p).map f).map a9) ys [])
theorem Jc{lp:Bool}{K:LN}{items:List (List Int)}{p:List Int->Bool}{f:List Int->Int}{aQ:ae}{RR:aa->ab->sL->ae->Prop}(B:Tp U)(c:ed L scope fs K)(r:ER H U L J s.heap G)(jB:∀y∈fs,cl.lookup (NM y)=J.cells.lookup (NM y))(dM:∀ks∈items,K.length=ks.length)(hsz:items.length<=1000000)(vG:∀ks∈items,∀fV,Om H U A scope fV (putAll (lB G fs) K ks) ifs (p ks))(Gp:∀ks∈items,p ks=N->∀fV,V H U A scope fV (putAll (lB G fs) K ks) elt (a9 (f ks)) af)(um:Z' H U A L J G cu K items lp s it aQ)(hRR:∀a0 aS Y m' (ys:List aa) n,dz H s Y->s.heap.get? a0=ai->s.heap.get? aS=ai->a0≠aS->a0∉bY->aS∉bY->Y.heap.Ns aS m'->Y.heap.get? a0=O (br ys n)->bC Y.heap (((items.filter p).map f).map a9) ys []->RR (R a0) aS (cf cJ) Y):
 ax (aG prog w) A (newList []) (λjx de=>ax (aG prog w) A (newFunctionEnv scope J.globals cl [] J.qual ai aA (O J)) (λcenv fq=>
  oE (aG prog w) A (oQ (cP elt [⟨cu,iter,ifs,0⟩] scope pos) 0 it jx {cenv with scope:=jw scope J}) (RR jx cenv.locals) fq) a6 de) a6 aQ:=by
 obtain⟨e1,I,fp,wr,St,Tk,dH,_,X',Ai,_⟩:=um;show ij (Ak c.cell (by intro y hy;show kJ hy) (λh3 sd wL=>?_) c.kind);generalize δ:aQ.heap.push {cls:=ak "list",dict:=ai,data:=bU ([]:List aa).toArray}=H2 at sd wL ⊢;have hC:H2.objs.size=aQ.heap.objs.size+1:=by rw[<-δ,dD]
 generalize hCC:H2.objs.size=aS at sd wL hC ⊢;generalize hDD:aQ.heap.objs.size=a0 at hC ⊢;have Yl:QH<=a0:=by show hDD▸?_;show jz B (r.base.trans e1.ext)
 have ε:a0≠aS:=by rw[hC];show fB (jb _)
 have hDT:=fi Yl;have η:aS∉bY:=fi (by rw[hC];show ql Yl);have aei:∀b:Nat,a0<=b->aQ.heap.get? b=ai:=λb hb'=>by
  cases q:aQ.heap.get? b with
  |none=>rfl
  |some o=>show absurd (cn q) (by rw[hDD];show j5.mpr hb')
 have hD2:=aei a0 (ey _);have hC2:=aei aS (by rw[hC];show lQ _);have hDs:=e1.ext.new hD2;have hCs:=e1.ext.new hC2;have hDf:a0∉fp:=λhm=>by obtain⟨o,e⟩:=(Ai a0 hm).2;have e:=hD2.symm.trans e;ext
 have Ws:aS∉fp:=λhm=>by obtain⟨o,e⟩:=(Ai aS hm).2;have e:=hC2.symm.trans e;ext
 have old:∀b o,aQ.heap.get? b=O o->h3.get? b=O o:=λb o e=>wL.extBut b o (λq=>by have e:=hC2▸q▸e;ext)<|δ▸a8 _ (a8 _ e);have ot:h3.get? a0=O (br [] 0):=wL.extBut a0 _ ε<|δ▸hDD▸a8 _ (bK _ Z);have θ:=Tk.frame _ _ _ dH λb _ o e=>old b o e;have hwT:∀b∈wr,s.heap.get? b=ai/\b∉bY:=λb hb'=>⟨X' b hb',(Ai b (Tk.sub b hb')).1⟩;have loop:∀de:ae,de={aQ with heap:=h3,toks:=aQ.toks+([]:List (aP×aa)).length}->
  oE (aG prog w) A (hb (cP elt [⟨cu,iter,ifs,0⟩] scope pos) 0 (R I) (R a0) (ju scope cl aS J)) (RR (R a0) aS) de:=by
  rintro de rfl;show zc (ag0 H aS a0 St items p f s) ?_ (items.length+1)
   ⟨0,_,[],0,rfl,fg _,e1.trans ⟨.of_keep old,rfl,rfl,eV _⟩,θ,sd,ot,.nil⟩
  rintro k Y P1 P2 bp P3 P4 E' q0 q1 q2 q3 q4 q5 q6 ⟨i,m',ys,n,dX,hi,x1,st,hn,hD,hV⟩;by_cases jA:i<items.length
  .show Tk.item i Y (ju scope cl aS J) P2 P1 E' jA st ?_ q2;intro s4 ks MB st4 IC;have hmem:=cW MB;show bh ((ct _ (intsAre_of hV (nX _)) Z)) λns IA wJ=>(Stores.local (aS:=aS) Z c.kind K ks s4 m' _ _ (dM ks hmem) c.nodup (λx E=>?_) (hn.at' λo e=>IC.keep (λq=>Ws (Tk.sub _ q)) e) λs5 m5 sb5 o5 d5 g5 n5 hm5 _=>?_)
   .rcases o8 (c.locs x E) with e|⟨e,_⟩
    .show e
    .ext
   have x5:=(x1.off IC hwT).but sb5 hCs η o5 d5 g5;have st5:=Tk.frame _ _ _ st4 λb hb' o e=>sb5.extBut b o (λq=>Ws (q▸hb')) e;have D5:=sb5.extBut a0 _ ε (IC.keep (λq=>hDf (Tk.sub _ q)) hD);have er:=r.comp c x5.ext jB n5 η (dM ks hmem) hm5;have tests:T A (o7 ifs (ju scope cl aS J)) s5
    (λok s6=>dz H s5 s6/\ok=p ks):=by
    have q:=vG ks hmem (ju scope cl aS J);cases ifs with
    |nil=>show wpAny_tests_nil ⟨.refl _,(q).symm⟩
    |cons c l=>cases l with|nil=>show wpAny_tests_one (q er)|cons _ _=>show q.elim
   show q3 _ (tests.Cu λok s6 x6 ou=>?_);have step:∀l:List Int,(l=if p ks=N then [f ks] else [])->(((items.take (i+1)).filter p).map f)=ns++l:=by intro l J';rw[take_succ_filter p items i ks MB,j3,<-wJ,J'];cases p ks<;>rfl
   show boC (p ks) (λhp=>?_) λhp=>?_
   .rw [hp]at ou;subst ou;show q4 _ ((Gp ks hmem hp (ju scope cl aS J) (er.ext x6.ext)).Cx λt s7 x7=>q6 _ _ ?_);have x67:=x6.trans x7;have ly:ys.length<=items.length:=by rw[bC.length hV];simp;show ba (AE _ _) ?_;simp;show EV _ _
    show Aj ⟨n,(x67.ext.keep a0 _ hDT D5)⟩ (λh8 Q0 wb=>?_) (by have:fc=16777216:=rfl;simp;lia);show dG Q0 λn8 e8=>have x8:dz H s {s7 with heap:=h8}:=(x5.trans x67).but wb hDs hDT Z Z Z;q0 (items.length+1 - (i+1)) _ (dX▸rx (kV jA) (jb i)) ⟨i+1,m5,ys++[ah (f ks) t],n8,rfl,jA,x8,?_,?_,?_,?_⟩
    .show Tk.frame _ _ _ (Tk.frame _ _ _ st5 λb hb' o e=>x67.ext.keep b o (Ai b hb').1 e) λb hb' o e=>wb.extBut b o (λq=>hDf (q▸hb')) e
    .show (x67.ext.ns η n5).sameBut wb (eO ε)
    .rw [e8];simp[br]
    .rw [step [f ks] (mn (if_pos hp))];show wI (IA.append (yB _ t qw))
   .rw [hp]at ou;subst ou;show q5 _ (q0 (items.length+1 - (i+1)) _ (dX▸rx (kV jA) (jb i)) ⟨i+1,m5,ys,n,rfl,jA,x5.trans x6,(Tk.frame _ _ _ st5 λb hb' o e=>x6.ext.keep b o (Ai b hb').1 e),x6.ext.ns η n5,x6.ext.keep a0 _ hDT D5,?_⟩);rw[step [] (by simp[hp]),yd];show wI IA
  .have:i=items.length:=by lia
   subst this;show Tk.done Y _ _ st λs4 IC=>(q1 _ (hRR a0 aS s4 m' ys n (x1.off IC hwT) hDs hCs ε hDT η (hn.at' λo e=>IC.keep (λq=>Ws (Tk.sub _ q)) e) (IC.keep (λq=>hDf (Tk.sub _ q)) hD) ?_));rw[sS]at hV;show wI (intsAre_of hV (nX _))
 show codeAny_compStart_list (loop _ Z) (Tk.self 0 _ _ _ θ (loop _ Z))
theorem V.comp{K:LN}{items:List (List Int)}(p:List Int->Bool)(f:List Int->Int){fr':Bool}(B:Tp U)(c:ed L scope fs K)(hG:pU G fs=N)(um:Yj H U A L J G iter cu K items)(dM:∀ks∈items,K.length=ks.length)(hsz:items.length<=1000000)(vG:∀ks∈items,∀fV,Om H U A scope fV (putAll (lB G fs) K ks) ifs (p ks))(Gp:∀ks∈items,p ks=N->∀fV,V H U A scope fV (putAll (lB G fs) K ks) elt (a9 (f ks)) af)(hs:Fs iter J):
 V H U A L J G (cP elt [⟨cu,iter,ifs,0⟩] scope pos) (kP ((items.filter p).map f)) fr':=λs r=>by
 show bh (c.Ol r hG) λcl jB wM=>S6 Z hs jB c.kind c.names<|(um s r).wp λxv aD q=>q.wp λit aQ hI=>Jc B c r wM dM hsz vG Gp hI λa0 aS Y m' ys n x' hD hC ε hDT η hn hd hV=>((ct m' hn (λh'' Oo=>(oY [a0] (x'.but Oo hC η Z Z Z) (rZ [] hDT (Oo.extBut a0 _ ε hd) (wI (intsAre_of hV (nX _)))) (λ_=>⟨λb hb'=>?_,by simp⟩)))));apply jT hb';show hD
theorem Gq{py spos:aY}{K:LN}{items:List (List Int)}(p:List Int->Bool)(f:List Int->Int)(B:Tp U)(c:ed L scope fs K)(hG:pU G fs=N)(um:Yj H U A L J G iter cu K items)(dM:∀ks∈items,K.length=ks.length)(hsz:items.length<=1000000)(vG:∀ks∈items,∀fV,Om H U A scope fV (putAll (lB G fs) K ks) ifs (p ks))(Gp:∀ks∈items,p ks=N->∀fV,V H U A scope fV (putAll (lB G fs) K ks) elt (a9 (f ks)) af)(hs:Fs iter J)(hy:L.names.lookup (NM y)=O cZ)(dH:bW G y=N)(ι:J.scope=L->fu (cP elt [⟨cu,iter,ifs,0⟩] scope pos) (O (ar (NM y) py)) spos.line J=pure N):
 S1 H U A L J (fE [ar (NM y) py] (cP elt [⟨cu,iter,ifs,0⟩] scope pos) spos) G (jm G y 1 (kP ((items.filter p).map f))) ai:=λD s W r=>by
 show bh (c.Ol r.er hG) λcl jB wM=>(Td _ _ _ _ (ι r.scope)).symm▸ag (jW (ag ?_));show ag (gV (S6 Z hs jB c.kind c.names
  ((um s r.er).wp λxv aD q=>q.wp λit aQ hI=>?_)) (λ_ Y hq=>aB (aB hq)) λ_ _ e=>e)
 show Jc B c r.er wM dM hsz vG Gp hI λa0 aS Y m' ys n x' hD hC ε hDT η hn hd hV=>?_;have aO:bR Y.heap (kP ((items.filter p).map f)) (R a0) [a0]:=rZ [] hDT hd hV;have hCW:aS∉W++[a0]:=λq=>by
  rcases b9.mp q with q|q
  .show oU (r.jj aS q) λ_ _ o e _=>?_;have e:=hC.symm.trans e;ext
  .simp at q;show ε q.symm
 show jE ((kb (r.grow x'.ext) (ao hy) dH aO (.fresh (λb hb'=>by simp at hb';show hb'▸?_;show hD) fF (λb hb'=>by simp at hb';show hb'▸?_;show qB ys n hd) r x'.ext)).Cu λ_ hO r5 m5=>?_);show tH hn λoC esC epC hoC hdC κ=>have kC:=m5.mod.keep aS oC (λq=>hCW au) η hoC;ct m' ⟨oC,esC,epC,kC,hdC,κ⟩<|λh'' Oo=>⟨((x'.smod W).trans m5 λd μ=>ao μ).off (wr:=[aS]) (λb o hb' e=>Oo.extBut b o (by simpa using hb') e) (λb hb'=>by show bJ.mp hb'▸?_;show⟨hC,η⟩),rfl,W++[a0],?_,λd μ=>?_⟩
 .show r5.off (wr:=[aS]) (λb o hb' e=>Oo.extBut b o (by simpa using hb') e) (λb hb'=>?_);apply jT hb';show rO ⟨oC,kC,aH (ao ⟨esC,epC,hdC⟩)⟩ η (r.ext.new hC) hCW
 .show bf (b9.mp μ) (λq=>ao q) λq=>bJ.mp q▸aH hD
theorem BB(h:bW G y=N):bW (jm G x 0 av) y=N:=by
 delta bW
 rw[fH];by_cases e:y=x
 .rw [if_pos e];rfl
 .rw [if_neg e];show h
theorem Stores.frame:∀(K:LN) (ks:List Int) (G:ig) (s:ae) (Q:ae->Prop) (a6:aa->ae->Prop),K.length=ks.length->FR H U D L J s.heap G W->
 (∀x∈K,Hx L x)->(∀x∈K,bW G x=N)->
 (∀Y,FR H U D L J Y.heap (putAll G K ks) W->mB W s Y->Q Y)->Stores A J K ks Q a6 s:=by
 intro K;induction K with
 |nil=>
  intro ks G s Q a6 hl r E dH hq;cases ks with
  |cons=>ext
  |nil=>show hq s r (.refl _ _)
 |cons x K ih=>
  intro ks G s Q a6 hl r E dH hq;cases ks with
  |nil=>ext
  |cons i ks=>
  show λt=>(kb r (E x bB) (dH x bB) (.ofInt i t) (.flat Z)).Cu λ_ aD r1 m1=>ih ks (jm G x 0 (a9 i)) aD Q a6 (by simpa using hl) r1 (λy hy=>E y (by simp[hy])) (λy hy=>BB (dH y (by simp[hy]))) λY r' m'=>hq Y r' (m1.trans m' λd hd=>ao hd)
theorem wN{py pt:aY}{a b:Int}{t u:aW}{T:ab}{Q:ae->Prop}(hh:dh A)(hT:s.heap.IsTuple T #[ah a t,ah b u])(q:∀h3,(∀c o,s.heap.get? c=O o->h3.get? c=O o)->Stores A J [x,y] [a,b] Q a6 {s with heap:=h3}):
 ax (aG prog w) A (jJ (il [ar (NM x) px,ar (NM y) py] k0 pt) J (R T)) (λ_ Y=>Q Y) a6 s:=by
 show JS hh hT Z Z λh3 he=>ag (cO (jE (gV ((q h3 (λc o e=>he c o (fB (cn e)) e)) t) (λ_ s4 q4=>?_) λ_ _ e=>e)));show ag (cO (jE (gV (q4 u) (λ_ s5 q5=>?_) λ_ _ e=>e)));show aB q5
theorem bR.pair{p:Int×Int}(aO:bR h (qO p) v F):∃T t u,v=R T/\h.IsTuple T #[ah p.1 t,ah p.2 u]:=by show gI aO λa ws n dX ht e4 e5=>dX▸kK e5 λw1 ws1 _ _ qD e6 e7 _=>?_;subst qD;show kK e7 λw2 ws2 _ _ DQ e8 e9 _=>?_;subst DQ;obtain⟨NR,_⟩:=e9;obtain⟨t,ZN⟩:=e6.toInt;obtain⟨u,eQ6⟩:=e8.toInt;show NR▸?_;subst ZN;subst eQ6;show⟨a,t,u,rfl,_,e4,rfl,n,rfl⟩
theorem Wu{py pt:aY}{p:Int×Int}(hh:dh A)(he:V H U A L J G e (qO p) af)(E:∀z∈[x,y],Hx L z)(dH:∀z∈[x,y],bW G z=N)(hs:J4 [il [ar (NM x) px,ar (NM y) py] k0 pt] e pos.line J=pure af)(hw:Ee [il [ar (NM x) px,ar (NM y) py] k0 pt] e J=pure ai):
 S1 H U A L J (fE [il [ar (NM x) px,ar (NM y) py] k0 pt] e pos) G (putAll G [x,y] [p.1,p.2]) ai:=λD s W r=>by
 show wpAny_Assign_stores ((he r.er).tN λv aD F e1 aO _=>?_) hs hw;show eY aO.pair λT t u dX hT=>dX▸wN (px:=px) (py:=py) (pt:=pt) (k0:=k0) hh hT λh3 k3=>have x3:dz H s {aD with heap:=h3}:=e1.trans ⟨.of_keep k3,rfl,rfl,eV _⟩;Stores.frame [x,y] [p.1,p.2] G _ _ _ Z (r.grow (e1.ext.trans (.of_keep k3))) E dH λY r' m'=>tP (x3.sm m') r'
theorem ag1(I:Nat->ae->Prop)(turn:∀n s (P1:Option aa->ae->Prop) (P2:ae->Prop) (P3:b8->ae->Prop) (a6:aa->ae->Prop),(∀aD,aM (cf cJ) aD->P1 ai aD)->
 (∀v aD,ax (aG prog w) A (jF cu it v) (λ_ uD=>ax (aG prog w) A (jJ cu J v) (λ_ aQ=>P2 aQ) a6 uD) a6 aD->P1 (O v) aD)->
 (∀aQ,ax (aG prog w) A (aU body J) P3 a6 aQ->P2 aQ)->(∀m de,m<n->I m de->P3 cJ de)->I n s->ax (aG prog w) A (gY it) P1 a6 s)(n:Nat)(h:I n s):oE (aG prog w) A (E5 cu it body [] J) aM s:=
 codeAny_forLoop_any I (λn s h=>turn n s _ _ _ _ (λ_ h=>JY h) (λ_ _ h=>h) (λ_ h=>h) (λm _ a b=>ct m a b) h) n h
theorem mB.ag2{mF:ae}(m:mB W s Y)(o:Off wr Y mF)(hw:∀b∈wr,s.heap.get? b=ai/\b∉bY):mB W s mF:=eQ o λ_ _ e k=>e▸m.off k hw
inductive ag3(H:List ab)(U D:aN)(L:c9)(J:cg)(W fp:List ab)(iT:Nat->ig)(St:Nat->aN->Prop)(n₀:Nat)(s:ae)(k:Nat)(Y:ae):Prop
 |mk (i:Nat) (W':List ab) (e:k=n₀+1 - i) (hi:i<=n₀) (m:mB W s Y) (st:St i Y.heap) (r:FR H U D L J Y.heap (iT i) W') (hW:∀d,d∈W'->d∈W\/s.heap.get? d=ai) (fW:∀d∈fp,d∉W') (fe:∀d∈fp,∃o,Y.heap.get? d=O o)
theorem Wv{K:LN}{items:List (List Int)}(iT:Nat->ig)(um:Yj H U A L J G iter cu K items N)(h0:ko (iT 0) G)(E:∀z∈K,Hx L z)(hl:∀ks∈items,K.length=ks.length)(dH:∀i,i<items.length->∀z∈K,bW (iT i) z=N)(step:∀i ks,items[i]? =O ks->SS H U A L J body (putAll (iT i) K ks) (iT (i+1)) ai)(hs:Fs iter J):
 S1 H U A L J (lh cu iter body [] pos) G (iT items.length) ai:=λD s W r=>by
 show wpAny_For ((um s r.er).wp λv aD q=>q.wp λit aQ q=>?_) hs;obtain⟨e1,I,fp,wr,St,Tk,st,Gk,X',Ai,ap⟩:=q;have Gk:=Gk Z;have wrT:=λb hb'=>(Ai b (Tk.sub b hb')).1;have wrB:∀b∈wr,s.heap.get? b=ai/\b∉bY:=λb hb'=>⟨X' b hb',wrT b hb'⟩;show ag1 (ag3 H U D L J W fp iT St items.length s) ?_ (items.length+1) ⟨0,W,rfl,fg _,e1.smod _,st,(r.grow e1.ext).less h0,λd hd=>ao hd,λb hb'=>ap Z b hb' _ _ r,λd hd=>(Ai d hd).2⟩;rintro k Y P1 P2 P3 a6 q0 q1 q2 q3 ⟨i,W',dX,hi,m1,NU,r',CA,hfW,hfe⟩;have wrF:∀b∈wr,kM Y.heap b/\b∉bY/\D.get? b=ai/\b∉W':=λb hb'=>⟨Gk i _ NU b hb',wrT b hb',r.ext.new (X' b hb'),hfW b (Tk.sub b hb')⟩;rcases AQ hi with jA|hie
 .show Tk.item i Y J P2 P1 a6 jA NU (λs3 ks MB st3 aeX=>?_) q1;show Stores.frame K ks (iT i) s3 _ _ (hl ks (cW MB)) (r'.off (λb o hb' e=>aeX.keep hb' e) wrF) E (dH i jA) λs4 r4 m4=>q2 _<|have m3:=m1.ag2 aeX wrB;(step i ks MB r4).wpN λhO W5 m5 r5 hW5=>?_;have ex3:∀d∈fp,∃o,s3.heap.get? d=O o:=λd hd=>if hdw:d∈wr then bh (Gk _ _ st3 d hdw) λo e _=>⟨o,e⟩ else dG (hfe d hd) λo e=>⟨o,aeX.keep hdw e⟩
  have k35:=λd hd o e=>m5.mod.keep d o (hfW d hd) (Ai d hd).1 (m4.mod.keep d o (hfW d hd) (Ai d hd).1 e);show q3 (items.length+1 - (i+1)) _ (dX▸rx (kV jA) (jb i)) ⟨i+1,W5,rfl,jA,(m3.trans m4 CA).trans m5 CA,Tk.frame _ _ _ st3 (λd hd o e=>k35 d hd o e),r5,λd hd=>(hW5 d hd).elim (CA d) λh=>aH (m3.mod.new (m4.mod.new h)),λd hd hw=>?_,λd hd=>dG (ex3 d hd) λo e=>⟨o,k35 d hd o e⟩⟩;show(hW5 d hw).elim (hfW d hd) λh=>dG (ex3 d hd) λo e=>?_;have e4:=h.symm.trans (m4.mod.keep d o (hfW d hd) (Ai d hd).1 e);ext
 .subst hie;show Tk.done Y _ _ NU λs4 IC=>q0 _ ⟨m1.ag2 IC wrB,rfl,W',r'.off (λb o hb' e=>IC.keep hb' e) wrF,CA⟩
theorem abQ{ns:List Int}(iT:Nat->ig)(um:zr H U A L J G iter ns)(h0:ko (iT 0) G)(E:Hx L x)(dH:∀i,i<ns.length->bW (iT i) x=N)(step:∀i n,ns[i]? =O n->SS H U A L J body (jm (iT i) x 0 (a9 n)) (iT (i+1)) ai)(hs:Fs iter J):
 S1 H U A L J (lh (ar (NM x) px) iter body [] pos) G (iT ns.length) ai:=by
 have e:(ns.map λn=>[n]).length=ns.length:=ip ..;show e▸Wv iT um.itc h0 (λz hz=>jT (P:=λz=>Hx L z) hz E) (λks hk=>bh (bG.mp hk) λ_ _ e=>e▸rfl) (λi hi z hz=>jT (P:=λz=>bW (iT i) z=N) hz (dH i (e▸hi))) (λi ks hk=>?_) hs;rw[cY]at hk;show bh (jc.mp hk) λn h e=>e▸step i n h
theorem abR{py pt:aY}{ps:List (Int×Int)}(iT:Nat->ig)(hh:dh A)(B:Tp U)(he:V H U A L J G iter (bV K) N)(hi:K=ps.map qO)(h0:ko (iT 0) G)(E:∀z∈[x,y],Hx L z)(dH:∀i,i<ps.length->∀z∈[x,y],bW (iT i) z=N)(step:∀i p,ps[i]? =O p->SS H U A L J body (putAll (iT i) [x,y] [p.1,p.2]) (iT (i+1)) ai)(hs:Fs iter J):
 S1 H U A L J (lh (il [ar (NM x) px,ar (NM y) py] k0 pt) iter body [] pos) G (iT ps.length) ai:=by
 have e:(ps.map λp=>[p.1,p.2]).length=ps.length:=ip ..;show e▸Wv iT (Jb hh B he hi λ_=>rfl) h0 E (λks hk=>bh (bG.mp hk) λ_ _ e=>e▸rfl) (λi hi=>dH i (e▸hi)) (λi ks hk=>?_) hs;rw[cY]at hk;show bh (jc.mp hk) λn h e=>e▸step i n h
inductive aeY(H:List ab)(U D:aN)(L:c9)(J:cg)(W:List ab)(iT:Nat->ig)(n₀:Nat)(s:ae)(k:Nat)(Y:ae):Prop
 |mk (i:Nat) (W':List ab) (e:k=n₀+1 - i) (hi:i<=n₀) (m:mB W s Y) (r:FR H U D L J Y.heap (iT i) W') (hW:∀d,d∈W'->d∈W\/s.heap.get? d=ai)
theorem ag4{Q1:aw}(I:Nat->ae->Prop)(turn:∀n s (P:Bool->ae->Prop) (P3:b8->ae->Prop) (a6:aa->ae->Prop),(∀aQ,aM (cf cJ) aQ->P af aQ)->(∀aQ,ax (aG prog w) A (aU body J) P3 a6 aQ->P N aQ)->(∀m de,m<n->I m de->P3 cJ de)->I n s->
 ax (aG prog w) A (isTrue Q1 J (aZ Q1 J)) P a6 s)(n:Nat)(h:I n s):oE (aG prog w) A (Code.whileLoop Q1 body [] J) aM s:=
 codeAny_whileLoop I (λn s h=>turn n s _ _ _ (λ_ h=>(if_neg aK).mpr (JY h)) (λ_ h=>(if_pos Z).mpr h) (λm _ a b=>ct m a b) h) n h
theorem Yn{Q1:aw}(n:Nat)(iT:Nat->ig)(h0:ko (iT 0) G)(go:∀i,i<n->oZ H U A L J (iT i) Q1 N/\SS H U A L J body (iT i) (iT (i+1)) ai)(stop:oZ H U A L J (iT n) Q1 af):S1 H U A L J (UO Q1 body [] pos) G (iT n) ai:=λD s W r=>by
 show wpAny_While (ag4 (aeY H U D L J W iT n s) ?_ (n+1) ⟨0,W,rfl,fg _,.refl _ _,r.less h0,λd hd=>ao hd⟩);rintro k Y P P3 a6 q0 q1 q2 ⟨i,W',dX,hi,m1,r',CA⟩;rcases AQ hi with jA|hie
 .show eX (go i jA) λg1 g2=>(g1 r'.er).wpB λaQ x2=>q1 _<|(g2 (r'.grow x2.ext)).wpN λde W3 m3 r3 hW3=>(q2 (n+1 - (i+1)) _ (dX▸rx (kV jA) (jb i)) ⟨i+1,W3,rfl,jA,(m1.trans (x2.smod W') CA).trans m3 CA,r3,λd hd=>(hW3 d hd).elim (CA d) λh=>aH (m1.mod.new (x2.ext.new h))⟩)
 .cases hie
  show(stop r'.er).wpB λaQ x2=>q0 _ ⟨m1.trans (x2.smod W') CA,rfl,W',r'.grow x2.ext,CA⟩
theorem Yo(B:cA U mg mb)(I:dQ mg mb)(kO:Gi L "list")(he:V H U A L J G e (bV K) af)(dH:cG e=af)(hf:iU K=N)(hl:dY K.length 1000000=N):V H U A L J G (bI (ar (aC "list") np) [e] [] pos) (bV K) fr:=λs r=>by show mC ("list") ("list") B I aK kO (rfl) (fJ.cons he fJ.nil dH) (by simp[dW,dH]) r λvs aD F e1 V1=>?_;apply nG V1;intro v G1 V2;apply fP V2;intro a us n F' ht a3 a4 eF3;have l1:=bC.length a4;have hl:=dO hl;show call_list_seq a (ao Z) a3 Z Z (λh' c' keep hd=>?_) (by have:fc=16777216:=rfl;simp;lia);have hF:=cV.2 _ _ _ hf a4;subst hF;show⟨e1.trans ⟨.of_keep keep,rfl,rfl,eV _⟩,[aD.heap.objs.size],rZ [] (fi (jz B.top (r.base.trans e1.ext))) hd (a4.ext (H:=H) (.of_keep keep)),λ_=>⟨λb D=>?_,by simp⟩⟩;apply jT D;show e1.ext.new (bF _)
theorem MC{np' wu:aY}(hh:dh A)(B:cA U mg mb)(I:dQ mg mb)(kO:Gi L "list")(aeZ:Gi L "range")(he:V H U A L J G e (a9 (aj k)) af)(dH:cG e=af)(hk:k<=1000000):
 V H U A L J G (bI (ar (aC "list") np) [bI (ar (aC "range") np') [e] [] wu] [] pos) (kP (Dm 0 1 k)) fr:=λs r=>by
 have hI:=I ("list",ak "list") aK;show ma<|(ez B r kO hI.1 hI.2 (rfl)).Dj<|A1 (JW ?_ Z) Z Z;show mC ("range") ("range") B I aK aeZ (rfl) (fJ.cons he fJ.nil dH) (by simp[dW,dH]) r λvs aD F e1 V1=>?_;apply nJ V1;show λt=>sH<|TG<|call_list_range hh (vp ..) (uY fF (W.kbt_pos 62) fF au) (by rw[uV];split<;>lia:kZ 0 (aj k) 1=((k:Nat):Int)) au λh' tk jx c' keep hd hi=>?_;have IA:fh jx.toList (Dm 0 1 k):=by
  show eX hi λi1 i2=>?_;have key:∀(vs:List aa) (ns:List Int),vs.length=ns.length->(∀(j:Nat) v,vs[j]? =O v->∃n t,ns[j]? =O n/\v=ah n t)->fh vs ns:=by
   intro vs;induction vs with
   |nil=>intro ns hl _;cases ns with|nil=>show qw|cons n ns=>ext
   |cons v vs ih=>
    intro ns hl hv;cases ns with
    |nil=>ext
    |cons n ns=>show eQ (hv 0 v Z) λm t h1 dX=>dX▸have h1:=aV h1;h1▸yB n t (ih ns (by simpa using hl) λj v e=>by simpa using hv (j+1) v (e))
  show key _ _ (Mz▸i1) λj v e=>?_;obtain⟨t,hv⟩:=i2 j v (by simpa using e);have hj:j<jx.size:=by have:=(dR.mp e).1;show this
  show kI _ t (o6.mpr ⟨by lia,rfl⟩) hv
 show⟨e1.trans ⟨.of_keep (λb o e=>keep b o (a8 _ e)),rfl,rfl,eV _⟩,[aD.heap.objs.size+1],?_,λ_=>⟨λb D=>?_,by simp⟩⟩
 .show ZY (aD.heap.objs.size+1) jx.toList c' [] (by rw[dD]) (fi (ql (jz B.top (r.base.trans e1.ext)))) ?_ (wI IA) Z;rw[dD]at hd;rw[hd];rfl
 .rw [bJ]at D;subst D;show e1.ext.new ?_;cases q:aD.heap.get? (aD.heap.objs.size+1) with|none=>rfl|some o=>show absurd (cn q) (j5.mpr (lQ _))
theorem MD{ws ws':List aa}{n':Nat}{row abS:List AV}(hs:gw a h h')(hm:Cr h a)(ha:h.get? a=O (br ws n))(ZO:h'.get? a=O (br ws' n'))(aO:bC h' abS ws' [])(hat:a∉bY):
 ∀(cj:List AV) (vs:List aa) (F:List ab) (i:Nat),bC h cj vs F->F.Nodup->cj[i]? =O (bV row)->iU row=N->vs[i]? =O (R a)->bC h' (cj.set i (bV abS)) vs F:=by
 intro xX;induction xX with
 |nil=>intro vs F i _ _ hi _ _;ext
 |cons x cj iH=>
  intro vs F i r hd hi hf hv;have keep:∀b o,b∉[a]->b∉bY->h.get? b=O o->h'.get? b=O o:=λb o D _ e=>(hs.2 b (vw D)).trans e;have hmm:∀b∈[a],Cr h b\/kM h b:=λb D=>by show bJ.mp D▸?_;show ao hm
  show kK r λv tL F1 F2 dX e2 e3 qD=>?_;subst dX;subst qD;show hx (qi.mp hd) λd1 d2 d3=>?_;cases i with
  |zero=>
   simp at hi hv;subst hi hv;show iQ e2 λa' us m F' e4 e5 e6 e7 DQ=>?_;subst DQ;obtain rfl:=j7 e4;replace e6:=ha▸e6;cases e6
   have hF':=cV.2 _ _ _ hf e7;subst hF';show eg [a] F2 (rZ [] hat ZO aO) (e3.off keep hmm _ _ _ (λb D hq=>?_));apply jT hq;show d3 b (by assumption) b D Z
  |succ i=>
   have hi':cj[i]? =O (bV row):=hi;have hv':tL[i]? =O (R a):=hv;show jy (bC.get e3 hi') λu F3 g1 g2 g3=>?_;obtain rfl:=aV (hv'.symm.trans g1);have haF:a∈F2:=by show iQ g2 λa' us m F' e4 e5 e6 e7 NR=>?_;subst NR;obtain rfl:=j7 e4;show g3 a au
   show DP v tL F1 F2 Z (e2.off keep hmm _ _ _ (λb D hq=>?_)) (iH tL F2 i e3 d2 hi' hf hv') Z;obtain rfl:=bJ.mp hq;show d3 b D b haF Z
theorem ν{i j:aw}{cj row:List AV}{ni nj:Nat}{p' p'':aY}(E:cq G x=O (1,bV cj))(Oq:cj[ni]? =O (bV row))(hf:iU row=N)(he:V H U A L J G e av af)(hfa:flat av=N)(hi:V H U A L J G i (a9 (aj ni)) af)(r9:j9 i=af)(hl1:dY ni 1000000=N)(hj:V H U A L J G j (a9 (aj nj)) af)(hjl:jL nj row.length=N)(hl:dY row.length 1000000=N)(hs:fu e (O (dk (dk (ar (NM x) p) i p'') j p')) pos.line J=pure af):
 S1 H U A L J (fE [dk (dk (ar (NM x) p) i p'') j p'] e pos) G (jm G x 1 (bV (cj.set ni (bV (row.set nj av))))) ai:=λD s W r=>by
 show JL ((he r.er).tN λu aD F1 e1 V1 _=>?_) hs
 -- the row
 show rH<|(zM (r.grow e1.ext).er E).wp λv aQ oq=>iN oq λe2 F2 cB V2=>?_;subst e2;show(hi (r.grow e1.ext).er).wp λiv de oq=>iN oq λe3 F3 V3 _=>og λgG kG=>(dG V3.toInt λt dX=>?_);have V2':=V2.ext e3.ext;obtain⟨⟨T',id,hT,hlk⟩,hg⟩:=I6 (A:=A) (t:=t) V2' (by simp only[Wi,hl1];show Oq:Wi (.list cj) (aj ni)=O (.list row));show kG ?_;clear kG gG;show dX▸vj hT hlk ?_ (uB r9 v _)
 -- its place is known exactly
 show fO V2' λa vs n F' qD ht a3 a4 DQ=>(jy (bC.get a4 Oq) λrv Fr g1 g2 g3=>?_);subst qD;subst DQ;have hb0:=dO hl1;show Tu (bX a3) au au (by simpa using g1)<|(hj ((r.grow e1.ext).grow e3.ext).er).wp λjv fq ξ=>iN ξ λe4 F4 V4 _=>(dG V4.toInt λt' NR=>?_);show NR▸iQ ((g2.ext e4.ext)) λra ws m QP ZN rt r3 r4 eQ6=>?_;subst ZN;subst eQ6;have hl:=dO hl;have hjl:nj<row.length:=dO hjl;have l1:=bC.length r4;have aeU:=cV.2 _ _ _ hf r4;subst aeU;have hF1:=cV.1 _ _ _ hfa V1;subst hF1;have e14:=(e1.trans e3).trans e4;show qX r3 au au jQ<|have rG:=r.grow e14.ext;have H4:=cB.ext (e3.trans e4).ext (r.jj _ r.loc).2.1;have V24:=V2'.ext e4.ext;ji rG.ents λval fp q=>(mA (q x 1 _ E) λb1 b2 b3 _=>?_);have tR:(a::F').Nodup:=by show(by rw[<-(H4.uniq b1)]at b2;show bR.uniq b2 V24)▸?_;show(b3 Z).1
 have hup:=M' (v:=u) (j:=nj) r3;have wb:=j6 fq.heap ra (dP λK=>K.setIfInBounds nj u);have ae0:Cr fq.heap ra:=ct _ r3 (ao ⟨rfl,_,_,rfl⟩);have hra:a≠ra:=λe=>(rp.mp tR).1 (g3 _ au);have Vn:bR (fq.heap.update ra (dP λK=>K.setIfInBounds nj u)) (bV (cj.set ni (bV (row.set nj av)))) (R a) (a::F'):=by show rZ F' ht ((wb.2 a hra).trans (e4.ext.keep a _ ht a3)) (MD wb ae0 r3 hup ?_ rt cj vs F' ni (a4.ext e4.ext) (rp.mp tR).2 Oq hf au);show bC.set (F:=[]) nj hf (r4.off (W:=[ra]) (λb o hb' _ e=>(wb.2 b (by simpa using hb')).trans e) (λb hb'=>by simp at hb';subst hb';show ao ae0) _ _ _ (λb hb'=>by cases hb')) ((V1.ext (e3.trans e4).ext).off (W:=[ra]) (λb o hb' _ e=>(wb.2 b (by simpa using hb')).trans e) (λb hb'=>by simp at hb';subst hb';show ao ae0) _ _ _ (λb hb'=>by cases hb'))
 show eX (rG.agV E H4 V24 (by simp[g3 ra bB]) wb hup Vn) λr2 m2=>tP (e14.mm m2) r2
theorem kr(names:List (aP×u4)):∀(n:Nat) (jx:List (aP×ab)) (x:aP),((x,dw)∈names\/(jx.lookup x).isSome=N)->((xP n names jx).lookup x).isSome=N:=by
 induction names with
 |nil=>show λ_ _ _ h=>h.elim kJ id
 |cons p r iH=>
  intro n jx x h;obtain⟨m,k⟩:=p;unfold xP;by_cases hk:(k==dw)=N
  .rw [if_pos hk];show iH _ _ x ?_;rcases h with h|h
   .show bf (bu.mp h) (λh=>?_) λh=>ao h;cases h
    right
    simp
   .right
    dsimp only[AJ];cases x==m with
    |true=>rfl
    |false=>show h
  .rw [if_neg hk];show iH _ _ x ?_;rcases h with h|h
   .show bf (bu.mp h) (λh=>?_) λh=>ao h;cases h
    show(hk Z).elim
   .show aH h
noncomputable def qG:LN->List AV->ig
 |x::K,av::avs=>(x,0,av)::qG K avs
 |_,_=>[]
theorem CE{K:LN}:∀{avs:List AV} {y k:Nat} {av:AV},cq (qG K avs) y=O (k,av)->k=0/\∃i:Nat,K[i]? =O y/\avs[i]? =O av/\∀j:Nat,j<i->K[j]? ≠O y:=by
 induction K with
 |nil=>intro _ _ _ _ h;show Bk h
 |cons x K iH=>
  intro yY;cases yY with
  |nil=>intro _ _ _ h;show Bk h
  |cons a avs=>
   intro y k av h;replace h:=(my _ x 0 a y).symm.trans h;rcases yF (x=y) with e|e
   .subst e;rw[if_pos Z]at h;cases h
    show⟨rfl,0,rfl,rfl,λj hj=>by simp_all⟩
   .rw [if_neg e]at h;show oW (iH h) λh1 i h2 h3 h4=>(⟨h1,i+1,h2,h3,λj hj=>?_⟩);cases j with|zero=>simpa using e|succ j=>show h4 j (KY.mp hj)
theorem Q2(J:cg)(K:LN):∀(vs:List aa) (m cm:aP->Option aa) (i x:Nat) (v:aa),K.Nodup->K.length=vs.length->K[i]? =O x->vs[i]? =O v->
 (J.kindOf (NM x)=O cZ->bindL J.kindOf ((K.map NM).zip vs) m (NM x)=O v)/\(J.kindOf (NM x)≠O cZ->bindC J.kindOf ((K.map NM).zip vs) cm (NM x)=O v):=by
 induction K with
 |nil=>intro _ _ _ i x v _ _ h _;ext
 |cons y K iH=>
  intro yY;cases yY with
  |nil=>intro _ _ i x v _ h _ _;ext
  |cons u vs=>
   intro m cm i x v hd hl h1 h2;have rest:∀(K:LN) (vs:List aa) (m:aP->Option aa),y∉K->bindL J.kindOf ((K.map NM).zip vs) m (NM y)=m (NM y)/\bindC J.kindOf ((K.map NM).zip vs) m (NM y)=m (NM y):=by
    intro K;induction K with
    |nil=>intro vs m _;show⟨rfl,rfl⟩
    |cons z K ih=>
     intro vs m hz;cases vs with
     |nil=>show⟨rfl,rfl⟩
     |cons u vs=>
      simp at hz;have qF:=λe=>hz.1 (Cv e);simp only[iK,Kz,bindL,bindC];show⟨?_,?_⟩
      .rw [(ih vs _ hz.2).1];split
       .show if_neg qF
       .rfl
      .rw [(ih vs _ hz.2).2];split
       .rfl
       .show if_neg qF
   simp at hd hl;cases i with
   |zero=>simp at h1 h2;subst h1 h2;simp only[iK,Kz,bindL,bindC];show⟨λhk=>by rw[(rest K vs _ hd.1).1,if_pos hk];show if_pos Z,λhk=>by rw[(rest K vs _ hd.1).2,if_neg hk];show if_pos Z⟩
   |succ i=>show iH vs _ _ i x v hd.2 hl (h1) (h2)
structure FnAt(U:aN)(a:ab)(fd:bQ):Prop where
 obj:∃o,U.get? a=O o/\o.data=qq fd
 off:a∉bY
 code:∃c oc ws t,fd.code=R c/\c∉bY/\U.get? c=O oc/\oc.data=bH ws/\ws[1]? =O (cI fd.qualname t)
theorem FnAt.abT(f:FnAt U a fd)(x:hJ H U h):h.CodeRec fd.code fd.qualname:=
 fO f.code λc oc ws t e1 e2 e3 e4 e5=>DP c oc ws t e1 (x.keep c _ e2 e3) e4 e5
theorem Ww{P:Nat->Nat->AV->aa->List ab->Prop}(key:∀y k av,cq G y=O (k,av)->∃v F,P y k av v F):∃(val:Nat->aa) (fp:Nat->List ab),∀y k av,cq G y=O (k,av)->P y k av (val y) (fp y):=by have h:∀y,∃vf:aa×List ab,∀k av,cq G y=O (k,av)->P y k av vf.1 vf.2:=λy=>ZW (cq G y) (λq=>q.symm▸⟨(aA,[]),λk av e=>by ext⟩) λp q=>q.symm▸ji (key y p.1 p.2 q) λv F hp=>⟨(v,F),λk av e=>by obtain rfl:=aV e;show hp⟩;show qB (λy=>(VB (h y)).1) (λy=>(VB (h y)).2) (λy k av e=>Classical.choose_spec (h y) k av e)
noncomputable def aej(bw:Nat)(L:c9):List ab:=bw::((xP (bw+1) L.names []).filter λp=>(xP (bw+1) L.names []).lookup p.1==O p.2).map (·.2)
theorem FR.start{K:LN}(B:Tp U)(x1:hJ H U s.heap)(aO:bC s.heap avs vs F)(hk:fd.scope.kind=d0)(hg:fd.globals=ef)(hbi:fd.builtins=fY)(hd:K.Nodup)(hl:K.length=vs.length)(E:∀x∈K,Hx fd.scope x)(x:InCallC s (gJ fd s.heap.objs.size a).locals (bindL (gJ fd s.heap.objs.size a).kindOf ((K.map NM).zip vs) λ_=>ai) (gJ fd s.heap.objs.size a).cells
 (bindC (gJ fd s.heap.objs.size a).kindOf ((K.map NM).zip vs) λ_=>ai) aD):
 FR H U s.heap fd.scope (gJ fd s.heap.objs.size a) aD.heap (qG K avs) (aej s.heap.objs.size fd.scope):=by
 have Wm:∀y,(gJ fd s.heap.objs.size a).kindOf y=fd.scope.names.lookup y:=λ_=>rfl;have top:=jz B x1;have keep:=x.toInCall.keep;have abv:=λn c h=>x.above n c ((rfl:(gJ fd s.heap.objs.size a).cells=xP (s.heap.objs.size+1) fd.scope.names [])▸h);show⟨x1,.of_keep keep,rfl,hk,hg,hbi,AF Z,(DN _ x.toInCall.ns),λy hy=>?_,λy z c hy h2 h3=>(Cv (name_of_addr x.apart (mH h2) (mH h3))).symm,λb hb'=>?_,?_⟩
 .show dG (yo.mp (kr fd.scope.names (s.heap.objs.size+1) [] (NM y) (ao (mH hy)))) λc hc=>have hm:=mH hc;wB c hc ⟨_,x.cell (NM y) c hc⟩ (fi (ba top (gy (abv _ _ hm))))<|aH<|bZ _ (bG.mpr (ct _ (gq.mpr ⟨hm,by simpa using hc⟩) Z))
 .rcases bu.mp hb' with rfl|hb'
  .show gS (bF _) (fi top) (Mw x.toInCall.ns)
  .obtain ⟨⟨n,c⟩,hm,rfl⟩:=bG.mp hb';show eX (gq.mp hm) λhm hc=>?_;have hc:(xP (s.heap.objs.size+1) fd.scope.names []).lookup n=O c:=by simpa using hc
   have jA:=abv n c hm;show gS ?_ (fi (ba top (gy jA))) (Ge (x.cell n c hc));cases q:s.heap.get? c with
   |none=>rfl
   |some o=>show absurd (cn q) (j5.mpr (gy jA))
 .have fW:∀b∈F,b∉aej s.heap.objs.size fd.scope:=λb hb' hw=>by
   show iN (bC.kinds aO b hb') λ_ o e _=>?_;have jA:=cn e;rcases bu.mp hw with rfl|hw
   .show gx _ jA
   .obtain ⟨⟨n,c⟩,hm,rfl⟩:=bG.mp hw;show gx _ (fZ jA (abv n c (gq.mp hm).1))
  -- a value and a Ye for each name
  have key:∀y k av,cq (qG K avs) y=O (k,av)->∃v F',Ah (gJ fd s.heap.objs.size a) aD.heap (NM y) v/\bR aD.heap av v F'/\k=0/\∀b∈F',b∈F:=λy k av e=>by show oW (CE e) λdX i h2 h3 _=>dX▸jy (bC.get aO h3) λv F' g1 g2 g3=>eX (Q2 (gJ fd s.heap.objs.size a) K vs (λ_=>ai) (λ_=>ai) i y v hd hl h2 g1) λq1 q2=>Ml v F' ?_ (g2.ext (H:=H) (.of_keep keep)) Z g3;show bf (E y (cW h2)) (λhy=>ao ⟨hy,_,x.toInCall.ns,q1 hy⟩) λhy=>?_;show dG (yo.mp (kr fd.scope.names (s.heap.objs.size+1) [] (NM y) (ao (mH hy)))) λc hc=>?_;have ic:=x.cell (NM y) c hc;rw[q2 (by rw[Wm,hy];decide)]at ic;show aH ⟨ao hy,c,hc,fi (ba top (gy (abv _ _ (mH hc)))),ic⟩
  show ji (Ww key) λval fp q=>((qB val fp (λy k av e=>?_)));show iM (q y k av e) λp1 p2 p3 p4=>⟨p1,p2,(λh1=>by have h1:=p3▸h1;ext),λ_ b hb'=>fW b (p4 b hb')⟩
theorem hJ.up(x:hJ H h h')(nO:∀b∈H,b∈τ'):hJ τ' h h':=⟨x.keep,x.tab,x.there,λb o D hq e=>x.quiet b o D (λq=>hq (nO b q)) e⟩
theorem dz.up(x:dz H s Y)(nO:∀b∈H,b∈τ'):dz τ' s Y:=⟨x.ext.up nO,x.os,x.drawn,x.gens⟩
theorem ER.up(r:ER H U L J h G)(nO:∀b∈H,b∈τ'):ER τ' U L J h G:=⟨r.base.up nO,r.kind,r.gl,r.Wh,r.glob,r.bi,r.loc,r.has⟩
theorem FR.up(r:FR H U D L J h G W)(nO:∀b∈H,b∈τ'):FR τ' U D L J h G W:=
 ⟨r.b1.up nO,r.ext.up nO,r.scope,r.kind,r.glob,r.bi,r.loc,r.ns,r.cell,r.pT,r.jj,r.ents⟩
def EVm(H τ':List ab)(U:aN)(A:ck)(L:c9)(J:cg)(G:ig)(e:aw)(av:AV)(fr:Bool):Prop:=
 ∀⦃s:ae⦄,ER H U L J s.heap G->T A (aZ e J) s (EP τ' s av fr)
def pM(H τ':List ab)(U:aN)(A:ck)(L:c9)(J:cg)(ss:List bT)(G G':ig)(ret:Option AV):Prop:=
 ∀⦃D:aN⦄ ⦃s:ae⦄ ⦃W:List ab⦄,FR H U D L J s.heap G W->T A (aU ss J) s (By τ' U D L J W s G' ret)
def S1m(H τ':List ab)(U:aN)(A:ck)(L:c9)(J:cg)(st:bT)(G G':ig)(ret:Option AV):Prop:=
 ∀⦃D:aN⦄ ⦃s:ae⦄ ⦃W:List ab⦄,FR H U D L J s.heap G W->T A (mV st J) s (By τ' U D L J W s G' ret)
protected theorem SS.m{ret:Option AV}(x:SS H U A L J ss G G' ret):pM H H U A L J ss G G' ret:=x
theorem pM.cons{ag5:List ab}{G1 G2:ig}{ret:Option AV}(h1:S1m H τ' U A L J st G G1 ai)(h2:pM τ' ag5 U A L J ss G1 G2 ret):pM H ag5 U A L J (st::ss) G G2 ret:=λD s W r=>uS<|(h1 r).wpN λaD W1 m1 r1 hw1=>(h2 r1).mono λf2 aQ q=>q.behind m1 hw1
theorem ο{G1:ig}(h1:S1m H τ' U A L J st G G1 (O av)):pM H τ' U A L J (st::ss) G G1 (O av):=λD s W r=>uS<|(h1 r).wp λf aD oq=>yH oq λm1 x v F hf aO=>hf▸⟨m1,x,v,F,rfl,aO⟩
protected theorem S1m.ret(nO:∀b∈H,b∈τ')(h:EVm H τ' U A L J G e av af):S1m H τ' U A L J (yp (O e) pos) G G' (O av):=λD s W r=>
 xE ((h r.er).tN λv aD F e1 aO _=>⟨e1.smod W,(r.ext.up nO).trans e1.ext,v,F,rfl,aO⟩)
theorem wO(dH:dW (e::es)=N):cG e=af/\dW es=N:=by simp only[dW,EL,qt,vg]at dH;show dH
theorem Q3{fn:aP}{K:LN}(B:cA U mg mb)(hg:mg fn=O (R a))(kO:L.names.lookup fn=O kX)(hdb:(fn==("__debug__" :aP))=af)(hf:FnAt U a fd)(Ot:fd.body=lj body)(ae1:fd.closure=[])(Dr:fd.scope.isCoroutine=af)(zd:fd.scope.isGenerator=af)(se:∀vs,vs.length=K.length->du fd ⟨vs,[]⟩=pure ((K.map NM).zip vs))(hk:fd.scope.kind=d0)(hgl:fd.globals=ef)(hbi:fd.builtins=fY)(tR:K.Nodup)(dM:K.length=avs.length)(E:∀x∈K,Hx fd.scope x)(bM:A.depth<1000)(he:fJ H U A L J G (e::es) avs)(dH:dW (e::es)=N)(hss:∀bw,pM H τ' U (A.deeper (gJ fd bw a)) fd.scope (gJ fd bw a) body (qG K avs) G' (O av))(ZM:fr=N->flat av=N)(nO:∀b∈H,b∈τ'):
 EVm H τ' U A L J G (bI (ar fn np) (e::es) [] pos) av fr:=λs r=>by
 show eX (wO dH) λh1 h2=>bh hf.obj λo ho hd=>ma (qZ (pP r.kind (r.gl fn kO) (r.glob▸B.mg r.base) hg ?_) hdb);show LF (o:=o) (fd:=fd) ?_;rw[dp h1];show evalArgs_plain ?_;have Ja:=he s pos r;rw[dp h1]at Ja;show Ja.QM λvs aD F x1 aO=>have b1:=r.base.trans x1.ext;have QB:=b1.keep a _ hf.off ho;⟨⟨QB,hd⟩,kU ?_⟩;have hvl:vs.length=K.length:=by rw[bC.length aO,dM]
 show codeAny_call_cells (by assumption) QB hd (B.zo b1) (hf.abT b1) Ot (se vs hvl) ae1 (λx hxm=>?_) (λaQ ic=>?_) Dr zd hk
 .obtain ⟨n,v⟩:=x;show bh (bG.mp ((sT hxm).1)) λy hy dX=>(dX▸?_);rcases E y hy with q|q
  .show ao q
  .show aH ⟨q,kr _ _ _ _ (ao (mH q))⟩
 .show eQ ic.done λhh tk e2 _=>(hss _ (FR.start B.top b1 aO hk hgl hbi tR hvl.symm E ic)).wp λf de oq=>yH oq λm3 x3 v F3 hf3 V3=>(hf3▸?_);have Q4:aQ.os=aD.os/\aQ.drawn=aD.drawn/\aQ.gens=aD.gens:=by show e2▸?_;show gS Z Z Z
  show⟨(x1.up nO).trans ⟨x3,m3.os.trans Q4.1,m3.drawn.trans Q4.2.1,m3.gens.trans Q4.2.2⟩,F3,V3,λq=>?_⟩;rw[cV.1 _ _ _ (ZM q) V3];show⟨λ_ D=>(kJ D),rL⟩
theorem Q5{f:Nat}{cvs:List AV}{K:LN}(B:cA U mg mb)(hxx:cq G x=O (k,tK f ns cvs))(Dr:(ST f).scope.isCoroutine=af)(zd:(ST f).scope.isGenerator=af)(Oe:∀y∈(ST f).scope.names,y.2≠dw)(se:∀fd:bQ,fd.params=(ST f).params->fd.defaults=aA->fd.kwdefaults=aA->∀vs,vs.length=K.length->du fd ⟨vs,[]⟩=pure ((K.map NM).zip vs))(hk:(ST f).scope.kind=d0)(tR:K.Nodup)(dM:K.length=avs.length)(E:∀x∈K,(ST f).scope.names.lookup (NM x)=O cZ)(hn:∀x∈ns,(ST f).scope.names.lookup (NM x)=O eN)(bM:A.depth<1000)(he:fJ H U A L J G (e::es) avs)(dH:dW (e::es)=N)(hss:∀fV,SS H U (A.deeper fV) (ST f).scope fV (ST f).body (qG K avs++qG ns cvs) G' (O av))(ZM:fr=N->flat av=N):
 V H U A L J G (bI (ar (NM x) np) (e::es) [] pos) av fr:=λs r=>by
 show eX (wO dH) λh1 h2=>ma<|(zM r hxx).Z4 λfv F0 H0 V0=>og λgG kG=>km V0 λa o fd cs alk F' dX hat ho hd P i1 i2 e5 qD=>fO i1 λc oc ws t c1 c2 c3 c4 c5=>hx i2 λq l1 l2=>kG ?_;clear kG gG;show dX▸LF (o:=o) (fd:=fd) ?_;rw[dp h1];show evalArgs_plain ?_;have Ja:=he s pos r;rw[dp h1]at Ja;show Ja.QM λvs aD F x1 aO=>have b1:=r.base.trans x1.ext;have QB:=x1.ext.keep a _ hat ho;⟨⟨QB,hd⟩,kU ?_⟩;have hvl:vs.length=K.length:=by rw[bC.length aO,dM]
 show JO (by assumption) QB hd (P.2.2.2.1▸Dr) (P.2.2.2.1▸zd) P.2.2.1 ((DP c oc ws t c1 (x1.ext.keep c _ c2 c3) c4 (P.1▸c5)))<|(show([]:List aa)++vs=vs from rfl).symm▸(se fd P.2.1 P.2.2.2.2.2.2.1 P.2.2.2.2.2.2.2 vs hvl).symm▸aB (Ak (P.2.2.2.1▸Oe) (λy hy=>?_) (λh3 sd wL=>?_) (P.2.2.2.1▸hk))
 .obtain ⟨n,v⟩:=y;show bh (bG.mp (sT hy).1) λz hz DQ=>DQ▸P.2.2.2.1.symm▸E z hz
 .have hL:=bF aD.heap;have x3:hJ H aD.heap h3:=.of_keep (λb o e=>wL.extBut b o (fB (cn e)) (a8 _ e));show⟨B.zo (b1.trans x3),J7 ?_⟩;have rev:∀i y v,K[i]? =O y->vs[i]? =O v->((K.map NM).zip vs).reverse.lookup (NM y)=O v:=λi y v hy hv=>by
   have key:∀(l:List (aP×aa)),(l.map (·.1)).Nodup->∀n v,(n,v)∈l->l.lookup n=O v:=by
    intro l;induction l with
    |nil=>intro _ n v h;ext
    |cons p l ih=>
     show λabU n v hm=>og λgG kG=>?_;obtain⟨n',v'⟩:=p;show kG ?_;clear kG gG;simp at abU;dsimp only[AJ];rcases bu.mp hm with hm2|hm2
     .show XY hm2 λa1 a2=>?_;subst a1;subst a2;simp
     .cases hq:n==n' with
      |true=>rw[(by symm;simpa using hq:n'=n)]at abU;show((abU.1 v) hm2).elim
      |false=>show ih abU.2 n v hm2
   show key _ ?_ _ _ ?_
   .rw [List.map_reverse];show List.pairwise_reverse.mpr (aa9 eO ?_);have:(((K.map NM).zip vs).map (·.1))=K.map NM:=by rw[List.map_fst_zip];simp[hvl]
    rw[this];show aba NM (λa b hab e=>hab (Cv e)) tR
   .rw [EI];show Kx.mpr ⟨i,?_⟩;rw[List.zip,EC,cY,hy,hv];rfl
  have fr0:FR H U aD.heap (ST f).scope (newEnv fd.scope aD.heap.objs.size fd.globals fd.closure (fd.qualname++ ".<locals>.") (O a) fd.code eU fd.builtins) h3 (qG K avs++qG ns cvs) [aD.heap.objs.size]:=by
   have Wm:∀y,(newEnv fd.scope aD.heap.objs.size fd.globals fd.closure (fd.qualname++ ".<locals>.") (O a) fd.code eU fd.builtins).kindOf y=(ST f).scope.names.lookup y:=λy=>by show P.2.2.2.1▸?_;rfl
   show⟨b1,x3,P.2.2.2.1,hk,P.2.2.2.2.1,P.2.2.2.2.2.1,bJ.mpr Z,(DN _ sd),λy hy=>absurd Z (Oe _ (mH hy)),λy z c' hy=>absurd Z (Oe _ (mH hy)),λb hb'=>?_,?_⟩
   .apply jT hb';show gS hL (fi (jz B.top b1)) (Mw sd)
   .have key:∀y k' mx,cq (qG K avs++qG ns cvs) y=O (k',mx)->∃v F',Ah (newEnv fd.scope aD.heap.objs.size fd.globals fd.closure (fd.qualname++ ".<locals>.") (O a) fd.code eU fd.builtins) h3 (NM y) v/\bR h3 mx v F'/\k'=0/\∀b∈F',∃o,aD.heap.get? b=O o:=λy k' mx e=>by
     rcases(Oc e) with e|e
     .show oW (CE e) λdX i g2 g3 _=>dX▸jy (bC.get aO g3) λv F' g4 g5 g6=>((Ml v F' (ao ⟨by rw[Wm];show E y (cW g2),_,sd,rev i y v g2 g4⟩) (g5.ext x3) Z (λb hb'=>?_)));show iN (g5.kinds b hb') λ_ o' e' _=>DN o' e'
     .show oW (CE e) λdX i g2 g3 _=>dX▸l0 (q i y g2) λc' v' g4 g5 g6 g7 g8=>(jy (bC.get e5 g3) λv QP g9 g10 g11=>?_);replace g9:=g5▸g9;obtain rfl:=aV g9;have x13:=x1.ext.trans x3;show Ml v' QP (aH ⟨aH (by rw[Wm];show hn y (cW g2)),c',g6,g7,x13.cell g7 g8⟩) (g10.ext x13) Z<|λb hb'=>iN ((g10.ext x1.ext).kinds b hb') λ_ o' e' _=>DN o' e'
    show ji (Ww key) λval fp q'=>((qB val fp (λy k' mx e=>?_)));show iM (q' y k' mx e) λr1 r2 r3 r4=>(⟨r1,r2,(λh1=>by have h1:=r3▸h1;ext),λ_ b hb' hw=>?_⟩);obtain rfl:=bJ.mp hw;show dG (r4 _ hb') λo' e'=>?_;have e':=hL.symm.trans e';ext
  show(hss _ (s:={aD with heap:=h3,toks:=aD.toks+((K.map NM).zip vs).length}) fr0).wp λfl de oq=>yH oq λm3 x4 v F3 hf3 V3=>hf3▸⟨x1.trans ⟨x4,m3.os,m3.drawn,m3.gens⟩,F3,V3,λq=>?_⟩;rw[cV.1 _ _ _ (ZM q) V3];show⟨λ_ D=>(kJ D),rL⟩
inductive ae2(H:List ab)(U D:aN)(L:c9)(J:cg)(h:aN)(G:ig)(y:Nat)(av:AV)(W:List ab):Prop
 |mk (W':List ab) (c:ab) (v:aa) (F:List ab) (r:FR H U D L J h (jm G y 2 av) W') (w:∀b∈W',b∈W) (y1:J.cells.lookup (NM y)=O c) (y2:c∉bY) (y3:h.IsCell c (O v)) (y4:c∉W') (y5:bR h av v F) (y6:∀b∈F,b∉W')
theorem FR.freeze(r:FR H U D L J h G W)(hy:cq G y=O (0,av))(hk:L.names.lookup (NM y)=O dw):
 ae2 H U D L J h G y av W:=by
 show lZ (r.cell y hk) λc c1 c2 c3 c4=>dG c2 λcv c2=>ji r.ents λval fp q=>mA (q y 0 av hy) λa1 a2 _ a4=>?_;have hcv:h.IsCell c (O (val y)):=by
  show bf a1 (λi0=>eX i0 λk1 _=>?_) λi0=>oW i0 λ_ c' e1 _ e3=>?_
  .have:J.kindOf (NM y)=O dw:=by delta j8;show(r.scope)▸?_;show hk
   have k1:=this.symm.trans k1;ext
  .replace e1:=c1▸e1;show aV e1▸e3
 show⟨abI W [c],c,val y,fp y,?_,λb hb'=>(iV.mp hb').1,c1,c3,hcv,λhm=>(iV.mp hm).2 au,a2,λb hb' hm=>a4 aK b hb' (iV.mp hm).1⟩;show⟨r.b1,r.ext,r.scope,r.kind,r.glob,r.bi,iV.mpr ⟨r.loc,λhm=>?_⟩,r.ns,λz hz=>?_,r.pT,λb hb'=>r.jj b (iV.mp hb').1,val,fp,λx k mx e=>?_⟩
 .show dG r.ns λm n=>?_;rw[bJ.mp hm]at n;show Ns.mN n c2
 .show lZ (r.cell z hz) λd d1 d2 d3 d4=>((wB d d1 d2 d3 ?_));show if hzy:z=y then hzy▸ao ⟨av,by rw[fH,if_pos Z]⟩ else ?_
  rcases d4 with⟨av2,d4⟩|d4
  .show ao ⟨av2,by rw[fH,if_neg hzy];show d4⟩
  .show aH (iV.mpr ⟨d4,λhm=>hzy (r.pT y z d hk (bJ.mp hm▸c1) d1)⟩)
 .rw [fH]at e;by_cases hxy:x=y
  .cases hxy
   replace e:=(if_pos Z)▸e;show XY (aV e) λa1 a2=>?_;subst a1;subst a2;show⟨a1,a2,(λh1=>by ext),λ_ b hb' hm=>a4 aK b hb' (iV.mp hm).1⟩
  .rw [if_neg hxy]at e;show mA (q x k mx e) λb1 b2 b3 b4=>(⟨b1,b2,λh1=>⟨(b3 h1).1,λb hb'=>?_⟩,λh1 b hb' hm=>b4 h1 b hb' (iV.mp hm).1⟩);show qE ((b3 h1).2 b hb') λp1 p2 p3=>(⟨iV.mpr ⟨p1,λhm=>p2.mN (bJ.mp hm▸c2)⟩,p2,λz k3 Yd e3 hz=>?_⟩);rw[fH]at e3;show if hzy:z=y then p3 z 0 av (hzy▸hy) hz else ?_
   rw[if_neg hzy]at e3;show p3 z k3 Yd e3 hz
theorem aek{nm qn:aP}{params:Eo}{dv:List aa}{ln:Nat}{b1 b2:Bool}(h1:dv.isEmpty=b1)(h2:cl.isEmpty=b2)(jB:rb scope J=pure cl)(ae3:docOf body=ai)(h:ax M A (do
 let dV<-if b1 then pure aA else newTextTuple dv
 let cT<-if b2 then pure aA else newTextTuple ((cl.mergeSort λa b=>a.1.cps.toList<=b.1.cps.toList).map (R ·.2))
 let code<-functionCode J pos ln nm qn params scope (lj body)
 let bi<-builtinsFor J.globals J.builtins
 let m<-nsGet J.globals "__name__"
 newObj (ak "function") (qq {name:=nm,qualname:=qn,params,body:=lj body,scope,globals:=J.globals,closure:=cl,closureTuple:=cT,code,builtins:=bi,defaults:=dV,kwdefaults:=aA,annotations:=ai,pyModule:=m.getD aA,doc:=aA})) Q a6 s):
 ax M A (J8 nm qn params (lj body) scope J dv [] [] pos ln) Q a6 s:=by
 delta J8
 show((by rw[List.zip_nil_right];rfl:((params.kwonlyargs.zip ([]:List (Option aa))).filterMap λ(a,d)=>d.map (a.arg,·))=[])).symm▸jB.symm▸?_;subst h2;show h1.symm▸?_;simp only[ae3];show h
theorem Q6{f z:Nat}{ay az:AV}{c P:ab}{params:Eo}(B:cA U mg mb)(ag6:PlainDefTree (NM x) params body scope pos)(hy:cq G y=O (0,ay))(hz:cq G z=O (0,az))(hyz:z≠y)(hxy:x≠y)(hxz:x≠z)(hky:L.names.lookup (NM y)=O dw)(hkz:L.names.lookup (NM z)=O dw)(hkx:L.names.lookup (NM x)=O dw)(dH:bW G x=N)(ag7:∀p∈scope.names,p.2=eN->p.1=NM y\/p.1=NM z)(hfy:(NM y,eN)∈scope.names)(hfz:(NM z,eN)∈scope.names)(ae3:docOf body=ai)(hS:ST f=⟨NM x,J.qual++NM x,params,body,scope⟩)(o9:J.code=R c)(hc:c∉bY)(ou:U.IsCode c P #[])(vH:U.TableAt c P #[])(hP:P∈bY)(pg:P∉H)(ku:P∈τ')(nO:∀b∈H,b∈τ'):
 S1m H τ' U A L J (AY (NM x) params body [] ai [] scope ai (NM x) pos) G (jm (jm (jm G y 2 ay) z 2 az) x 0 (tK f [y,z] [ay,az])) ai:=λD s W r=>by
 obtain⟨W1,cy,vy,Fy,r1,w1,y1,y2,y3,y4,y5,y6⟩:=r.freeze hy hky;obtain⟨W2,cz,vz,Fz,r2,w2,z1,z2,z3,z4,z5,z6⟩:=r1.freeze (by rw[fH,if_neg hyz];show hz) hkz;have b0:=r.base
 -- the ajH table is as the top left it
 have Ou:s.heap.TableAt c P #[]:=by obtain⟨⟨o,vs,t1,t2,t3,t4⟩,t5⟩:=vH;show⟨(Ml o vs (b0.keep c _ hc t1) t2 t3 t4),b0.quiet P _ hP pg t5⟩
 have hq:qualnameIn J (NM x) (NM x)=J.qual++NM x:=by
  delta qualnameIn j8
  show r.scope.symm▸hkx.symm▸?_;rfl
 rw[ag6,hq];show ag<|jW<|ag<|cO<|og λgG kG=>?_;obtain⟨cl,jB,wM⟩:=wK (J:=J) (λp hp hk=>by
  rcases ag7 p hp hk with e|e
  .show ⟨cy,by show(e)▸?_;show y1⟩
  .show ⟨cz,e▸z1⟩)
 have qF:cl.isEmpty=af:=by
  cases cl with
  |nil=>have:=wM _ hfy;have this:=this.trans y1;ext
  |cons p cl=>rfl
 have top:=jz B.top b0;show vt B.bmod λbm ob hbm Q7 hbT Q8 Q9 Gu BC=>kG ?_;clear kG gG;show aek Z qF jB ae3<|ag<|aB<|ag<|Tv<|ag (Tq o9 ((Fw ou (λ_=>b0.keep c _ hc) λ_=>b0.quiet P _ hP pg).push _) (Ou.push _) Z λc' h3 tk E hge jA _ Ra Yp _=>?_);have ag8:=ba (by rw[dD];show lQ _) hge;have x3:hJ τ' s.heap h3:=by
  show⟨λb o hb' e=>E b o (λq=>hb' (q▸hP)) (a8 _ e),λb hb' ps e=>?_,λb o e=>?_,λb o hb' hq' e=>E b o (λq=>hq' (q▸ku)) (a8 _ e)⟩
  .show if π:b=P then ?_ else⟨#[],E b _ π (a8 _ e)⟩
   cases π
   have:=Ou.2;have hps:ps=#[]:=by
    injection (aV (e.symm.trans this)) with _ _ h3 _
    injection h3
   show hps▸⟨_,Yp.2⟩
  .show if π:b=P then π▸⟨_,Yp.2⟩ else⟨o,E b o π (a8 _ e)⟩
 have bg3:h3.Ns J.globals mg:=by show(r.glob)▸?_;show B.mg ((b0.up nO).trans x3)
 show ag<|Ea bg3 hbm Q7 (((b0.up nO).trans x3).keep bm _ hbT Q8) Q9 Gu BC<|ag<|xM bg3<|ag<|Ao<|aB<|ag (jW (ag (Ec ?_)));generalize hfd:({name:=NM x,qualname:=J.qual++NM x,params:=params,body:=lj body,scope:=scope,globals:=J.globals,closure:=cl,defaults:=aA,kwdefaults:=aA,doc:=_,pyModule:=_,annotations:=_,code:=_,closureTuple:=_,builtins:=fY}:bQ)=fd;have f10:fd.closure=cl:=congrArg _ hfd.symm;have x4:hJ τ' h3 (h3.push {cls:=ak "function",data:=qq fd}):=.push _ _;have x34:=x3.trans x4;have aO:bR (h3.push {cls:=ak "function",data:=qq fd}) (tK f [y,z] [ay,az]) (R h3.objs.size) ([cy,cz]++(Fy++(Fz++[]))):=by
  show gv Ra λc2 o2 vs2 t2 e2 g2 r21 r22=>?_;obtain rfl:=j7 e2;show⟨h3.objs.size,_,fd,[cy,cz],[vy,vz],Fy++(Fz++[]),rfl,fi (ba top (ba ag8 (gy jA))),bK _ Z,rfl,(hfd▸hS▸⟨rfl,rfl,rfl,rfl,r.glob,rfl,rfl,rfl⟩),
   (ZY c' o2 vs2 t2 (congrArg _ hfd.symm) (fi (ba top ag8)) (a8 _ g2) r21 (by show(hS)▸?_;show r22)),(gS (λi u hu=>?_) Z Z),?_,rfl⟩
  .cases i with
   |zero=>show aV hu▸ZX cy vy Z Z (f10▸(wM _ hfy)▸y1) y2 (x34.cell y2 y3)
   |succ i=>cases i with|zero=>show aV hu▸ZX cz vz Z Z (f10▸(wM _ hfz)▸z1) z2 (x34.cell z2 z3)|succ i=>ext
  .show eg Fy (Fz++[]) (y5.ext x34) (eg Fz [] (z5.ext x34) .nil)
 have hFW:∀b∈[cy,cz]++(Fy++(Fz++[])),b∉W2:=λb hb' hm=>by
  revert hm
  show zH (P:=λb=>b∈W2->False) hb' (λhm=>y4 (w2 _ hm)) λhb'=>zH (P:=λb=>b∈W2->False) hb' z4 λhb' hm=>bf (b9.mp (show b∈Fy++(Fz++[]) from hb')) (λh=>y6 b h (w2 _ hm)) λh=>z6 b ((yd Fz)▸h) hm
 have CF:bW (jm (jm G y 2 ay) z 2 az) x=N:=by
  delta bW
  rw[fH,if_neg hxz,fH,if_neg hxy];show dH
 show(kb (s:={s with heap:=h3.push {cls:=ak "function",data:=qq fd},toks:=tk}) (((r2.up nO).grow x34)) (aH hkx) CF aO (.alias hFW)).Cu λ_ s5 r5 m5=>aB<|have m4:mB W s {s with heap:=h3.push {cls:=ak "function",data:=qq fd},toks:=tk}:=⟨x34.mod W,rfl,rfl,eV _⟩;⟨m4.trans m5 (λd hd=>ao (w1 d (w2 d hd))),rfl,W2,r5,λd hd=>ao (w1 d (w2 d hd))⟩
noncomputable def aT(n:Nat):AV:=a9 (aj n)
def a7(ns:LN):AV:=bV (ns.map aT)
theorem CG(n:Nat):flat (aT n)=N:=rfl
theorem hU(ns:LN):iU (ns.map aT)=N:=by
 induction ns with
 |nil=>rfl
 |cons n ns ih=>assumption
theorem dS(ns:LN):jf (ns.map aT)=O (ns.map aj):=by
 induction ns with
 |nil=>rfl
 |cons n ns ih=>show congrArg (UL (aj n::·)) ih
theorem jO(ns:LN):wa (a7 ns)=N:=by
 induction ns with
 |nil=>rfl
 |cons n ns ih=>assumption
theorem fj{a i:aw}(ha:V H U A L J G a (a7 ns) af)(hi:V H U A L J G i (aT k) af)(hk:k<ns.length)(hl:ns.length<=1000)(r9:j9 i=af):V H U A L J G (dk a i pos) (aT (ns.getD k 0)) fr:=by show wH ha hi ?_ r9 (λ_=>rfl);show(?_:cond (dY k 1000000) ((ns.map aT)[k]?) eU=_);show(eT au:dY k 1000000=N).symm▸cY.symm▸(dE hk).symm▸da.symm▸(dE hk).symm▸?_;rfl
theorem fk{a b:aw}(ha:V H U A L J G a (aT x) af)(D:V H U A L J G b (aT y) af):
 V H U A L J G (eu a rM b pos) (aT (x+y)) fr:=V.bin .add ha D Z
theorem nu{a b:aw}(ha:V H U A L J G a (aT x) af)(D:V H U A L J G b (aT y) af):
 V H U A L J G (eu a Bc b pos) (aT (x ^^^ y)) fr:=V.bin .xor ha D Z
theorem lR{a b:aw}(ha:V H U A L J G a (aT x) af)(D:V H U A L J G b (aT y) af)(h:y<=x):
 V H U A L J G (eu a Ft b pos) (aT (x - y)) fr:=V.bin .sub ha D (by change O (aj x - aj y)=_;rw[(by lia:aj x - aj y=aj (x - y))])
theorem lS{a b:aw}(ha:V H U A L J G a (aT x) af)(D:V H U A L J G b (aT y) af)(h:x<1000000):
 V H U A L J G (eu a vo b pos) (aT (x * y)) fr:=V.bin .mul ha D (by show(?_:cond (oX (aj x)) _ _=_);show(by show decide_eq_true au:oX (aj x)=N).symm▸?_;rfl)
theorem yJ{a b:aw}(ha:V H U A L J G a (aT x) af)(D:V H U A L J G b (aT y) af)(h:0<y):
 V H U A L J G (eu a Bd b pos) (aT (x % y)) fr:=V.bin .fmod ha D (by change cond (decide (0<aj y)) _ _=_;rw[decide_eq_true (by show AA.mpr h)];rw[Ew _ fF];rfl)
theorem ME{a b:aw}(ha:V H U A L J G a (aT x) af)(D:V H U A L J G b (aT y) af)(h:0<y)(h2:y<1000000):
 V H U A L J G (eu a Fq b pos) (aT (x / y)) fr:=V.bin .fdiv ha D (by change cond (oX (aj y) && decide (0<aj y)) _ _=_;rw[(by show decide_eq_true au:oX (aj y)=N),decide_eq_true (by show AA.mpr h)];rw[Int.fdiv_eq_ediv_of_nonneg _ fF];rfl)
theorem Gv{a b c:aw}{m:Nat}{wu:aY}(ha:V H U A L J G a (aT x) af)(D:V H U A L J G b (aT y) af)(hc:V H U A L J G c (aT m) af)(h:0<m)(hy:y<=m):V H U A L J G (eu (eu a Ft b pos) Bd c wu) (aT ((x+m - y) % m)) fr:=V.bin .fmod (V.bin .sub ha D Z) hc (by
 change cond (decide (0<aj m)) _ _=_;rw[decide_eq_true (by show AA.mpr h)];congr 1;have e:aj x - aj y=aj (x+m - y) - aj m:=by lia
 rw[e,Ew _ fF];have e2:(aj (x+m - y) - aj m) % aj m=aj (x+m - y) % aj m:=by rw[Int.sub_emod_right]
 rw[e2];rfl)
theorem aR(n:Nat):V H U A L J G (gn (jd (aj n)) k pos) (aT n) fr:=V.int
theorem abV{a b:aw}(ha:V H U A L J G a (aT x) af)(D:V H U A L J G b (aT y) af):
 oZ H U A L J G (j0 a [FE] [b] pos) (decide (x<y)):=by
 have:=mz (pos:=pos) .lt ha D;have e:gT .lt (aj x) (aj y)=decide (x<y):=decide_eq_decide.mpr fF;rw[e]at this;show this
theorem Wx{a b:aw}(ha:V H U A L J G a (aT x) af)(D:V H U A L J G b (aT y) af):
 oZ H U A L J G (j0 a [VH] [b] pos) (decide (x<=y)):=by
 have:=mz (pos:=pos) .le ha D;have e:gT .le (aj x) (aj y)=decide (x<=y):=decide_eq_decide.mpr fF;rw[e]at this;show this
theorem vI{a b:aw}(ha:V H U A L J G a (aT x) af)(D:V H U A L J G b (aT y) af):
 oZ H U A L J G (j0 a [CmpOp.Gt] [b] pos) (decide (y<x)):=by
 have:=mz (pos:=pos) .gt ha D;have e:gT .gt (aj x) (aj y)=decide (y<x):=decide_eq_decide.mpr fF;rw[e]at this;show this
theorem BD{a b:aw}(ha:V H U A L J G a (aT x) af)(D:V H U A L J G b (aT y) af):
 oZ H U A L J G (j0 a [Bh] [b] pos) (decide (x=y)):=by
 have:=mz (pos:=pos) .eq ha D;have e:gT .eq (aj x) (aj y)=decide (x=y):=by
  delta gT
  lia
 rw[e]at this;show this
theorem yK{a b:aw}(ha:V H U A L J G a (aT x) af)(D:V H U A L J G b (aT y) af):
 oZ H U A L J G (j0 a [FD] [b] pos) (decide (x≠y)):=by
 have:=mz (pos:=pos) .ne ha D;have e:gT .ne (aj x) (aj y)=decide (x≠y):=by
  delta gT
  lia
 rw[e]at this;show this
theorem kg{a:aw}(B:cA U mg mb)(I:dQ mg mb)(kO:Gi L "len")(ha:V H U A L J G a (a7 ns) af)(dH:cG a=af)(hl:ns.length<=1000):V H U A L J G (bI (ar (aC "len") np) [a] [] pos) (aT ns.length) fr:=by have:=V.len (fr:=fr) (np:=np) (pos:=pos) B I kO ha dH (eT jQ);rw[ip]at this;show this
theorem yL:QL.length=255:=by rfl
theorem Gy:∀n,(Ct n).length=256
 | 0=>rl ..
 |n+1=>(EK ..).trans (Gy n)
theorem tS:wz.length=256:=Gy 255
theorem Rb{p:Nat}(h:p<256):Iv p<256:=
 (by decide:∀p,p<256->Iv p<256) p h
theorem Ov:∀n,pw n<256
 | 0=>by decide
 |n+1=>Rb (Ov n)
theorem Yq:∀n,n<=255->∀k,(Ct n).getD k 0<255:=by
 intro xX;induction xX with
 |zero=>intro _ k;show(?_:(cb 256 0)[k]?.getD 0<255);rw[T3];split<;>decide
 |succ n iH=>
  intro h k;show(?_:((Ct n).set (pw n) n)[k]?.getD 0<255);rw[EG];split
  .split
   .show h
   .decide
  .show iH (ry h) k
noncomputable def lg(a:Nat):Nat:=wz.getD a 0
noncomputable def FJ(k:Nat):Nat:=QL.getD k 0
theorem Wy(a:Nat):lg a<255:=Yq 255 (ey _) a
theorem Gz(h:k<255):FJ k=pw k:=by
 delta FJ QL
 rw[da,cY,oF h];rfl
theorem CH:FJ k<256:=by
 by_cases h:k<255
 .rw [Gz h];show Ov k
 .delta FJ
  rw[da,rn (by rw[yL];show oJ h)];simp
def tm(a b:Nat):Nat:=if a=0\/b=0 then 0 else FJ ((lg a+lg b) % 255)
theorem eW(a b:Nat):tm a b<256:=by
 delta tm
 split
 .simp
 .show CH
def tG(a b:Nat):ig:=qG [55,56] [aT a,aT b]++qG [54,53] [a7 QL,a7 wz]
theorem Rc{a b:Nat}(ha:a<256)(D:b<256):SS H U A (bg QI) J (bo QI) (tG a b) (tG a b) (O (aT (tm a b))):=by
 have hc:oZ H U A (bg QI) J (tG a b) _ _:=QN (pos:=⟨285,11,285,27⟩) (BD (pos:=⟨285,11,285,17⟩) (aq (pos:=⟨285,11,285,12⟩) 55 Z) (aR (k:=0) (pos:=⟨285,16,285,17⟩) 0))
  (λ_=>BD (pos:=⟨285,21,285,27⟩) (aq (pos:=⟨285,21,285,22⟩) 56 Z) (aR (k:=0) (pos:=⟨285,26,285,27⟩) 0))
 by_cases h0:a=0\/b=0
 .have e:(decide (a=0) ||decide (b=0))=N:=by simpa using h0
  rw[e]at hc;have et:tm a b=0:=if_pos h0;rw[et];show tQ (S1.ite hc (λ_=>tQ (S1.ret (aR 0))) (λq=>nnT q))
 .have e:(decide (a=0) ||decide (b=0))=af:=by simpa using h0
  rw[e]at hc;have et:tm a b=FJ ((lg a+lg b) % 255):=if_neg h0;rw[et];show SS.cons (S1.ite hc (λq=>Ip q) (λ_=>SS.nil))<|tQ<|S1.ret<|fj (aq 54 Z) (yJ (fk (fj (aq 53 Z) (aq 55 Z) ?_ ?_ Z) (fj (aq 53 Z) (aq 56 Z) ?_ ?_ Z)) (aR 255) bz) ?_ ?_ Z;all_goals first|(rw[tS];lia)|(show yL.symm▸?_;first|lia|show mZ _ (rfl))
theorem zr.eq{ns ms:List Int}(x:zr H U A L J G e ns)(h:ns=ms):zr H U A L J G e ms:=h▸x
theorem ρ(n:Nat):Dm 0 1 n=(aI n).map aj:=by apply AH;intro i _;simp
theorem fQ(hh:dh A)(B:cA U mg mb)(I:dQ mg mb)(kO:Gi L "range")(he:V H U A L J G e (aT n) af)(dH:cG e=af)(hn:n<=100000):zr H U A L J G (bI (ar (aC "range") np) [e] [] pos) ((aI n).map aj):=(zN hh B I kO he dH au fF).eq (ρ n)
theorem Ow{e':aw}{a b:Nat}(hh:dh A)(B:cA U mg mb)(I:dQ mg mb)(kO:Gi L "range")(he:V H U A L J G e (aT a) af)(dH:cG e=af)(Ja:V H U A L J G e' (aT b) af)(IB:cG e'=af)(ha:a<=100000)(D:b<=100000):zr H U A L J G (bI (ar (aC "range") np) [e,e'] [] pos) (((aI (b - a)).map (a+·)).map aj):=by have hk':aj b=(b:Int):=rfl;show(zO hh B I kO he dH Ja IB au au au au).eq ?_;rw[(by simp:(aj b - aj a).toNat=b - a)];rw[qk];apply AH;intro i _;simp
theorem qH(x:Nat)(hh:dh A)(B:Tp U)(E:cq G x=O (k,a7 ns))(hk:fD k 1=af):zr H U A L J G (ar (NM x) pos) (ns.map aj):=
 abO hh B E hk (dS ns)
theorem GA(hh:dh A)(B:Tp U)(he:V H U A L J G e (a7 ns) N):zr H U A L J G e (ns.map aj):=
 zr.new hh B he (dS ns)
theorem ael{σ:Type}{ns:List α}{upd:σ->α->σ}{P:Nat->σ->Prop}{s0:σ}(h0:P 0 s0)(st:∀i n s,ns[i]? =O n->P i s->P (i+1) (upd s n))(i:Nat)(hi:i<=ns.length):P i ((ns.take i).foldl upd s0):=by
 induction i with
 |zero=>show h0
 |succ i ih=>have e:=dE hi;show A3 _ _ e▸st i _ _ e (ih (ry hi))
theorem dq(x:Nat)(ns:LN){σ:Type}(Γ:σ->ig)(upd:σ->Nat->σ)(P:Nat->σ->Prop)(s0:σ)(um:zr H U A L J G iter (ns.map aj))(h0:ko (Γ s0) G)(hp0:P 0 s0)(E:Hx L x)(dH:∀st,bW (Γ st) x=N)(step:∀i n st,ns[i]? =O n->P i st->P (i+1) (upd st n)/\SS H U A L J body (jm (Γ st) x 0 (aT n)) (Γ (upd st n)) ai)(hs:Fs iter J):
 S1 H U A L J (lh (ar (NM x) px) iter body [] pos) G (Γ (ns.foldl upd s0)) ai:=by
 have key:=abQ (px:=px) (pos:=pos) (body:=body) (λi=>Γ ((ns.take i).foldl upd s0)) um h0 E (λi _=>dH _) (λi n hn=>?_) hs
 .rw [ip,sS]at key;show key
 .rw [cY]at hn;show bh (jc.mp hn) λm hm e=>A3 _ _ hm▸e▸(step i m _ hm (ael hp0 (λi n s a b=>(step i n s a b).1) i (gy (dR.mp hm).1))).2
theorem SS.done(h:ko G' G):SS H U A L J [] G G' ai:=SS.nil.out h
theorem S1.to{G0 G1:ig}{ret:Option AV}(x:S1 H U A L J st G G0 ret)(h:G0=G1):S1 H U A L J st G G1 ret:=h▸x
theorem V.to{mx:AV}(x:V H U A L J G e av fr)(h:av=mx):V H U A L J G e mx fr:=h▸x
theorem yM(x n:Nat){apos cpos:aY}(E:cq G x=O (1,a7 ns))(he:V H U A L J G e (aT n) af)(dH:cG e=af)(lA:(apos.endLine==cpos.line)=N)(hl:ns.length<=1000):
 S1 H U A L J (vi (bI (iJ (ar (NM x) p) (aC "append") apos) [e] [] cpos) pos) G (jm G x 1 (a7 (ns++[n]))) ai:=λD s W r=>by
 have:=S1.app (p:=p) (pos:=pos) E (hU ns) he (CG n) dH lA (eT jQ) (by delta iI;show r.scope.symm▸r.kind.symm▸?_;rfl) r;rw[(by simp:ns.map aT++[aT n]=(ns++[n]).map aT)]at this;show this
theorem MF(x:Nat){i:aw}{p':aY}(E:cq G x=O (1,a7 ns))(he:V H U A L J G e (aT n) af)(hi:V H U A L J G i (aT j) af)(hj:j<ns.length)(hl:ns.length<=1000)(hs:fu e (O (dk (ar (NM x) p) i p')) pos.line J=pure af):
 S1 H U A L J (fE [dk (ar (NM x) p) i p'] e pos) G (jm G x 1 (a7 (ns.set j n))) ai:=by
 have:=abK E (hU ns) he (CG n) hi (eT (by simp;assumption)) (eT jQ) hs;rw[(by rw[KO]:(ns.map aT).set j (aT n)=(ns.set j n).map aT)]at this;show this
def gM0(ws:LN)(c:Nat)(kn:LN):ig:=[(17,0,a7 ws),(3,0,aT c),(24,0,a7 kn)]
def gM1(ws:LN)(c:Nat)(kn:LN)(st:LN×LN×Nat):ig:=[(17,0,a7 ws),(3,0,aT c),(24,0,a7 kn),(54,1,a7 st.1),(53,1,a7 st.2.1),(32,0,aT st.2.2)]
def abW(st:LN×LN×Nat)(i:Nat):LN×LN×Nat:=(st.1++[st.2.2],st.2.1.set st.2.2 i,Iv st.2.2)
theorem Yr:∀n,(aI n).foldl abW ([],cb 256 0,1)=((aI n).map pw,Ct n,pw n):=by
 intro xX;induction xX with
 |zero=>show rfl
 |succ n iH=>rw[sU,qj,iH];rw[j3];rfl
theorem ajI(B:cA U mg mb):S1 H U A lH J (bc dy 0) (gM0 ws c kn) (gM0 ws c kn++[(54,1,a7 [])]) ai:=
 gb 54 (a7 []) (o4 B.top fJ.nil Z Z) Z Z (aH Z) Z
theorem ajJ(B:cA U mg mb):S1 H U A lH J (bc dy 1) (gM0 ws c kn++[(54,1,a7 [])]) (gM0 ws c kn++[(54,1,a7 []),(53,1,a7 (cb 256 0))]) ai:=
 gb 53 _ ((QU B.top (o4 B.top (fJ.cons V.int fJ.nil Z) Z Z) V.int Z Z Z).to (by delta a7;rw[KC];rfl)) (jO _) Z (aH Z) Z
theorem ajK:S1 H U A lH J (bc dy 2) (gM0 ws c kn++[(54,1,a7 []),(53,1,a7 (cb 256 0))]) (gM1 ws c kn ([],cb 256 0,1)) ai:=
 bE 32 (aT 1) V.int Z Z (ao Z) Z
theorem ajL(hh:dh A)(B:cA U mg mb)(I:dQ mg mb):S1 H U A lH J (bc dy 3) (gM1 ws c kn ([],cb 256 0,1)) (gM1 ws c kn (QL,wz,pw 255)) ai:=by
 have key:=dq (px:=⟨279,8,279,13⟩) (pos:=⟨279,4,282,61⟩) (H:=H) (L:=lH) (J:=J) 4 (aI 255)
  (gM1 ws c kn) abW (λi st=>st.1.length=i/\i<=255/\st.2.1.length=256/\st.2.2<256) ([],cb 256 0,1)
  (fQ (np:=⟨279,17,279,22⟩) (pos:=⟨279,17,279,27⟩) (e:=gn (jd 255) 0 ⟨279,23,279,26⟩) hh B I Z (aR 255) Z bz) (.refl _) (rO Z bz Z bz) (aH Z) (λst=>rfl)
  (body:=match bc dy 3 with|lh _ _ b _ _=>b |_=>[]) (λi n st hn hp=>?_) (λ_=>rfl)
 .rw [Yr]at key;show key
 .show iM hp λp1 p2 p3 p4=>?_;have hi:i<255/\n=i:=by have:=dR.mp hn;show dG this λh1 h2=>?_;simp at h1 h2;show⟨h1,h2.symm⟩
  obtain⟨hi,rfl⟩:=hi;show⟨⟨by simp[abW,p1],by assumption,by simp[abW,p3],Rb p4⟩,?_⟩;show SS.cons (yM 54 _ Z (aq 32 Z) Z Z au) (SS.cons (MF 53 Z (aq 4 Z) (aq 32 Z) au au Z)
   (SS.cons (bE 32 (aT (Iv st.2.2)) (wG (decide (st.2.2<128)) (abV (aq 32 Z) (aR 128)) (λq=>?_) (λq=>?_)) Z Z (ao Z) Z) (SS.done (ko.rf bD bD))))
  .have q:=of_decide_eq_true q;have e:Iv st.2.2=2 * st.2.2:=if_pos q;rw[e];show lS (aR 2) (aq 32 Z) aK
  .have q:=of_decide_eq_false q;have e:Iv st.2.2=(2 * st.2.2) ^^^ 285:=if_neg q;rw[e];show nu (lS (aR 2) (aq 32 Z) aK) (aR 285)
def ae4:AV:=tK 0 [54,53] [a7 QL,a7 wz]
theorem Rd(fd:bQ)(hp:fd.params=fo QI)(hd:fd.defaults=aA)(vs:List aa)(hl:vs.length=[55,56].length):du fd ⟨vs,[]⟩=pure (([55,56].map NM).zip vs):=by
 apply agN hl;intro a b
 delta du
 show hp.symm▸hd.symm▸?_;rfl
theorem sf{e1 e2:aw}{a b:Nat}(B:cA U mg mb)(hA:A.depth<1000)(E:cq G 33=O (k,ae4))(he1:V H U A L J G e1 (aT a) af)(he2:V H U A L J G e2 (aT b) af)(ha:a<256)(D:b<256)(h1:cG e1=af)(h2:cG e2=af):V H U A L J G (bI (ar (NM 33) np) [e1,e2] [] pos) (aT (tm a b)) fr:=
 Q5 (K:=[55,56]) (G':=tG a b) B E Z Z aK (λfd hp hd hk vs hl=>Rd fd hp hd vs hl) Z aK Z aK aK hA
  (fJ.cons he1 (fJ.cons he2 fJ.nil h2) h1) (by simp[dW,h1,h2]) (λfV=>Rc ha D) (λ_=>rfl)
noncomputable def Ox(p:Nat->Bool):List Int->Bool
 | [k]=>p k.toNat
 |_=>af
noncomputable def ς(f:Nat->Nat):List Int->Int
 | [k]=>aj (f k.toNat)
 |_=>0
noncomputable def aem(f:Nat->Nat->Nat):List Int->Int
 | [k,l]=>aj (f k.toNat l.toNat)
 |_=>0
theorem we(ns:LN)(p:Nat->Bool)(f:Nat->Nat):
 ((((ns.map aj).map λn=>[n]).filter (Ox p)).map (ς f))=((ns.filter p).map f).map aj:=by
 induction ns with
 |nil=>rfl
 |cons n ns ih=>
  show boC (p n) (λhp=>?_) λhp=>?_
  .have h1:Ox p [aj n]=N:=hp;rw[iK,iK,Ez h1,Ez hp,iK,ih];rfl
  .have h1:¬Ox p [aj n]=N:=by change¬p n=N;rw[hp];decide
   rw[iK,iK,EB h1,EB (by rw[hp];decide),ih]
theorem zQ(ns:LN):kP (ns.map aj)=a7 ns:=congrArg bV qk
theorem Ys{aM:List Int->Prop}(h:∀n∈ns,aM [aj n]):∀ks∈(ns.map aj).map λn=>[n],aM ks:=λks hk=>
 bh (bG.mp hk) λ_ h1 e=>bh (bG.mp h1) λm hm e'=>e▸e'▸h m hm
theorem GB(x:Nat)(fs ns:LN)(p:Nat->Bool)(f:Nat->Nat){fr':Bool}(B:Tp U)(c:ed L scope fs [x])(hG:pU G fs=N)(um:Yj H U A L J G iter (ar (NM x) px) [x] ((ns.map aj).map λn=>[n]))(hsz:ns.length<=1000000)(vG:∀n∈ns,∀fV,Om H U A scope fV (jm (lB G fs) x 0 (aT n)) ifs (p n))(Gp:∀n∈ns,p n=N->∀fV,V H U A scope fV (jm (lB G fs) x 0 (aT n)) elt (aT (f n)) af)(hs:Fs iter J):
 V H U A L J G (cP elt [⟨ar (NM x) px,iter,ifs,0⟩] scope pos) (a7 ((ns.filter p).map f)) fr':=by
 have key:=V.comp (fr':=fr') (pos:=pos) (elt:=elt) (ifs:=ifs) (Ox p) (ς f) B c hG um
  (Ys λ_ _=>rfl) (by simpa using hsz) (Ys vG) (Ys Gp) hs
 rw[we,zQ]at key;show key
theorem Ds{py spos:aY}(p:Nat->Bool)(f:Nat->Nat)(B:Tp U)(c:ed L scope fs [x])(hG:pU G fs=N)(um:Yj H U A L J G iter (ar (NM x) px) [x] ((ns.map aj).map λn=>[n]))(hsz:ns.length<=1000000)(vG:∀n∈ns,∀fV,Om H U A scope fV (jm (lB G fs) x 0 (aT n)) ifs (p n))(Gp:∀n∈ns,p n=N->∀fV,V H U A scope fV (jm (lB G fs) x 0 (aT n)) elt (aT (f n)) af)(hs:Fs iter J)(hy:L.names.lookup (NM y)=O cZ)(dH:bW G y=N)(ι:J.scope=L->fu (cP elt [⟨ar (NM x) px,iter,ifs,0⟩] scope pos) (O (ar (NM y) py)) spos.line J=pure N):
 S1 H U A L J (fE [ar (NM y) py] (cP elt [⟨ar (NM x) px,iter,ifs,0⟩] scope pos) spos) G (jm G y 1 (a7 ((ns.filter p).map f))) ai:=by
 have key:=Gq (pos:=pos) (py:=py) (spos:=spos) (elt:=elt) (ifs:=ifs) (Ox p) (ς f) B c hG um
  (Ys λ_ _=>rfl) (by simpa using hsz) (Ys vG) (Ys Gp) hs hy dH ι
 rw[we,zQ]at key;show key
theorem BE(f:Nat->Nat->Nat):∀(ns ms:LN),
 (((((ns.map aj).zip (ms.map aj)).map λp=>[p.1,p.2]).filter λ_=>N).map (aem f))=(AN f ns ms).map aj
 | [],ms=>by rfl
 |n::ns,[]=>by rfl
 |n::ns,m::ms=>by have ih:=BE f ns ms;simp only[iK,Kz,List.filter_cons,if_true]at ih ⊢;rw[ih];rfl
theorem Dt{p1 p2 pt py spos:aY}{x1 x2:Nat}(f:Nat->Nat->Nat)(B:Tp U)(c:ed L scope fs [x1,x2])(hG:pU G fs=N)(um:Yj H U A L J G iter (il [ar (NM x1) p1,ar (NM x2) p2] k0 pt) [x1,x2] (((ns.map aj).zip (ms.map aj)).map λp=>[p.1,p.2]))(hsz:ns.length<=1000000)(Gp:∀n∈ns,∀m∈ms,∀fV,V H U A scope fV (jm (jm (lB G fs) x1 0 (aT n)) x2 0 (aT m)) elt (aT (f n m)) af)(hs:Fs iter J)(hy:L.names.lookup (NM y)=O cZ)(dH:bW G y=N)(ι:J.scope=L->fu (cP elt [⟨il [ar (NM x1) p1,ar (NM x2) p2] k0 pt,iter,[],0⟩] scope pos) (O (ar (NM y) py)) spos.line J=pure N):
 S1 H U A L J (fE [ar (NM y) py] (cP elt [⟨il [ar (NM x1) p1,ar (NM x2) p2] k0 pt,iter,[],0⟩] scope pos) spos) G (jm G y 1 (a7 (AN f ns ms))) ai:=by
 have mem:∀ks∈((ns.map aj).zip (ms.map aj)).map (λp=>[p.1,p.2]),∃n m,n∈ns/\m∈ms/\ks=[aj n,aj m]:=λks MB=>by show og λgG kG=>?_;obtain⟨⟨a,b⟩,hp,dX⟩:=bG.mp MB;obtain⟨ha,D⟩:=sT hp;show bh (bG.mp ha) λn hn qD=>bh (bG.mp D) λm hm DQ=>kG ?_;clear kG gG;show dX▸qD▸DQ▸N6 n m hn hm Z
 have key:=Gq (pos:=pos) (py:=py) (spos:=spos) (elt:=elt) (ifs:=[]) (λ_=>N) (aem f) B c hG um
  (λks MB=>by show jy (mem ks MB) λn m _ _ NR=>?_;subst NR;rfl) jQ
  (λks MB fV=>rfl)
  (λks MB hp fV=>jy (mem ks MB) λn m hn hm ZN=>ZN▸Gp n hn m hm fV) hs hy dH ι
 rw[BE,zQ]at key;show key
theorem GC(he:V H U A L J G e av N)(hf:wa av=N)(dH:bW G x=N)(E:Hx L x)(hs:J.scope=L->fu e (O (ar (NM x) p)) pos.line J=pure af):
 S1 H U A L J (fE [ar (NM x) p] e pos) G (jm G x 1 av) ai:=λD s W r=>gb _ _ he hf dH E (hs r.scope) r
theorem pM.less{G0 G1:ig}{ret:Option AV}(x:pM H τ' U A L J ss G0 G1 ret)(h:ko G0 G):pM H τ' U A L J ss G G1 ret:=λD s W r=>x (r.less h)
theorem pM.share{G1:ig}{ret:Option AV}(y:Nat)(x:pM H τ' U A L J ss (Lake.share G y) G1 ret):pM H τ' U A L J ss G G1 ret:=λD s W r=>gH (r.share y) λW' r' hw _=>(x r').mono λf Y q=>q.behind (.refl W s) λd hd=>ao (hw d hd)
theorem GG{x:aP}{line:Nat}(hk:J.kindOf x=O dw):fu (cP elt gens scope pos) (O (ar x p)) line J=pure af:=by change(pure (J.blockKind==d0 && J.kindOf x==O cZ && p.line==(cP elt gens scope pos).pos.line && !(scope.names.any λ(n,k)=>n==x && (k==cZ ||k==dw))):aE Bool)=pure af;show hk.symm▸?_;have:((O dw:Option u4)==O cZ)=af:=rfl;rw[this,UI,UJ,UJ]
theorem qI{x:aP}{line:Nat}(hf:J.scope.kind=d0)(hk:J.kindOf x=O cZ)(hl:(p.line==pos.line)=N)(hn:(scope.names.any λ(n,k)=>n==x && (k==cZ ||k==dw))=af):fu (cP elt gens scope pos) (O (ar x p)) line J=pure N:=by
 change(pure (J.blockKind==d0 && J.kindOf x==O cZ && p.line==pos.line && !(scope.names.any λ(n,k)=>n==x && (k==cZ ||k==dw))):aE Bool)=pure N;show hk.symm▸hl.symm▸hn.symm▸?_;have:J.blockKind=d0:=by delta Env.blockKind;show hf.symm▸?_;rfl
 show this.symm▸?_;rfl
def allB(l:LN):Prop:=∀i,l.getD i 0<256
theorem wQ(h:allB l)(E:x∈l):x<256:=by show dG (Kx.mp E) λi hi=>?_;have:=h i;rw[da,hi]at this;show this
theorem allB_of(h:∀x∈l,x<256):allB l:=λi=>by
 rw[da];cases q:l[i]? with
 |none=>simp
 |some x=>show h x (cW q)
theorem iR{a b:Nat}(ha:a<256)(D:b<256):a ^^^ b<256:=EU (n:=8) ha D
def gB(ws:LN)(c:Nat)(kn:LN)(sp:LN):ig:=[(17,0,a7 ws),(3,0,aT c),(24,0,a7 kn),(54,2,a7 QL),(53,2,a7 wz),(33,0,ae4),(11,0,a7 sp)]
def gB0(ws:LN)(c:Nat)(kn:LN):ig:=[(17,0,a7 ws),(3,0,aT c),(24,0,a7 kn),(54,2,a7 QL),(53,2,a7 wz),(33,0,ae4)]
def cH(n:Nat):LN:=(aI n).map λp=>FJ (n - 1 - p)
theorem Rf(n:Nat):(cH n).length=n:=by simp[cH]
theorem Oy(n:Nat):allB (cH n):=allB_of λx E=>bh (bG.mp E) λp _ dX=>dX▸CH
theorem ajM(hh:dh A)(B:cA U mg mb)(I:dQ mg mb)(hl:ws.length<=100):S1 H U A lH J (bc dy 5) (gB0 ws c kn) (gB0 ws c kn++[(11,1,a7 (cH ws.length))]) ai:=by
 show S1.to (GC (x:=11) (av:=a7 (cH ws.length)) ?_ (jO _) Z (aH Z) (λe=>?_)) Z
 .show V.to (GB 4 [54,17] (aI ws.length) (λ_=>N) (λp=>FJ (ws.length - 1 - p)) B.top (.of (rfl)) Z
   (zr.itc (fQ hh B I Z (kg B I Z (aq 17 Z) Z au) Z au)) jQ (λn hn fV=>rfl) (λn hn _ fV=>?_) (λ_=>rfl)) ?_
  .have hn:=dm.mp hn;show fj (aq 54 Z) (lR (lR (kg B I Z (aq 17 Z) Z au) (aR 1) (Nat.one_le_of_lt hn)) (aq 4 Z) au)
    au au Z
  .rw [T9.mpr (λa a_1=>bi_tt.mpr trivial)];rfl
 .show GG (by delta j8;rw[e];rfl)
def qJ(root:Nat)(whole wd:Nat):Nat:=(if whole≠0 then FJ ((lg whole+root) % 255) else whole) ^^^ wd
def GH(ws:LN)(root:Nat):Nat:=ws.foldl (qJ root) 0
def fR(ws:LN)(c:Nat):LN:=(aI c).map (GH ws)
theorem Du{root whole wd:Nat}(h:whole<256)(hw:wd<256):qJ root whole wd<256:=by
 show iR ?_ hw;split
 .show CH
 .show h
theorem τ(hw:allB ws)(root:Nat):GH ws root<256:=by
 have:∀(l:LN) (a:Nat),(∀x∈l,x<256)->a<256->l.foldl (qJ root) a<256:=by
  intro l;induction l with
  |nil=>intro a _ h;show h
  |cons x l ih=>intro a hl ha;show ih _ (λy hy=>hl y bB) (Du ha (hl x bB))
 show this ws 0 (λx E=>wQ hw E) bz
theorem GI(hw:allB ws):allB (fR ws c):=allB_of λx E=>bh (bG.mp E) λr _ dX=>dX▸τ hw r
theorem BF(f:Nat->α):∀n,(aI n).foldl (λ(l:List α) i=>l++[f i]) []=(aI n).map f:=by
 intro xX;induction xX with
 |zero=>show rfl
 |succ n iH=>rw[sU,qj,iH];simp
theorem ajN(hh:dh A)(B:cA U mg mb)(I:dQ mg mb)(hw:allB ws)(hc:c<=100):
 S1 H U A lH J (bc dy 7) (gB ws c kn sp++[(34,1,a7 [])]) (gB ws c kn sp++[(34,1,a7 (fR ws c))]) ai:=by
 show S1.to (dq 35 (aI c) (λrs:LN=>gB ws c kn sp++[(34,1,a7 rs)]) (λrs root=>rs++[GH ws root]) (λi rs=>rs.length=i/\i<=c) []
  (fQ hh B I Z (aq 3 Z) Z au) (.refl _) ⟨rfl,fg _⟩ (ao Z) (λst=>rfl) (λi n rs hn hp=>?_) (λ_=>rfl)) ?_
 .show dG (dR.mp hn) λh1 h2=>?_;simp at h1 h2;subst h2;show⟨⟨by simp[hp.1],by assumption⟩,?_⟩;show SS.cons (bE 36 (aT 0) (aR 0) Z Z (ao Z) Z)
   (SS.cons (dq 7 ws (λwhole:Nat=>gB ws c kn sp++[(34,1,a7 rs),(35,0,aT i),(36,0,aT whole)]) (qJ i) (λ_ whole=>whole<256) 0
    (qH 17 hh B.top Z Z) (.refl _) bz (ao Z) (λst=>rfl) (λj wd whole hj Yt=>?_) (λ_=>rfl))
   (SS.cons (yM 34 (GH ws i) Z (aq 36 Z) Z Z au) (SS.done (ko.rf bD bD))))
  show⟨Du Yt (wQ hw (cW hj)),?_⟩;show SS.cons (G1:=gB ws c kn sp++[(34,1,a7 rs),(35,0,aT i),(36,0,aT (if whole≠0 then FJ ((lg whole+i) % 255) else whole)),(7,0,aT wd)]) ?_
   (SS.cons (bE 36 (aT (qJ i whole wd)) (nu (aq 36 Z) (aq 7 Z)) Z Z (ao Z) Z) (SS.done (ko.rf bD bD)))
  show S1.ite (x:=decide (whole≠0)) (yK (aq 36 Z) (aR 0)) (λq=>?_) (λq=>?_)
  .have q:=of_decide_eq_true q;rw[if_pos q];show SS.cons (bE 36 (aT (FJ ((lg whole+i) % 255)))
    (fj (aq 54 Z) (yJ (fk (fj (aq 53 Z) (aq 36 Z) (by rw[tS];lia) (by rw[tS];lia) Z) (aq 35 Z)) (aR 255) aK)
     (mZ _ aK) au Z) Z Z (ao Z) Z) SS.nil
  .have q:=of_decide_eq_false q;rw[if_neg q];show SS.nil
 .rw [BF];rfl
def wR(sp:LN)(line:LN)(place:Nat):LN:=AN (λbefore after=>after ^^^ tm (sp.getD place 0) before) line (line.drop 1)
def kQ(sp rs kn:LN):LN:=kn.foldl (wR sp) rs
structure BM where
 now:LN
 old:LN
 size:Nat
 gap:Nat
 fault:Nat
def vJ(line now:LN)(turn:Nat):Nat:=((aI (now.length - 1)).map (1+·)).foldl (λoff back=>off ^^^ tm (now.getD back 0) (line.getD (turn - back) 0)) (line.getD turn 0)
def tT(factor gap:Nat)(old g0:LN):LN:=(aI old.length).foldl (λg back=>g.set (back+gap) (g.getD (back+gap) 0 ^^^ tm factor (old.getD back 0))) g0
def kx(line:LN)(st:BM)(turn:Nat):BM:=
 if vJ line st.now turn=0 then{st with gap:=st.gap+1}
 else
  if 2 * st.size<=turn then⟨tT (FJ ((lg (vJ line st.now turn)+255 - lg st.fault) % 255)) st.gap st.old (st.now++cb (st.old.length+st.gap - st.now.length) 0),st.now,turn+1 - st.size,1,vJ line st.now turn⟩
  else⟨tT (FJ ((lg (vJ line st.now turn)+255 - lg st.fault) % 255)) st.gap st.old (st.now++cb (st.old.length+st.gap - st.now.length) 0),st.old,st.size,st.gap+1,st.fault⟩
def ux(line:LN):BM:=(aI line.length).foldl (kx line) ⟨[1],[1],0,1,1⟩
def kh(now:LN)(x:Nat):Nat:=now.foldl (λwhole part=>tm whole x ^^^ part) 0
def jR(sp now:LN)(n:Nat):LN:=(aI n).filter λp=>decide (kh now (sp.getD p 0)=0)
def eF(sp:LN)(product:LN)(place:Nat):LN:=AN (λhere before=>here ^^^ tm (sp.getD place 0) before) (product++[0]) ([0]++product)
def pj(sp places:LN):LN:=places.foldl (eF sp) [1]
def Rg(product rs:LN)(turn:Nat):Nat:=(aI (turn+1)).foldl (λwhole back=>whole ^^^ tm (product.getD back 0) (rs.getD (turn - back) 0)) 0
def wU(product rs:LN)(n:Nat):LN:=(aI n).map (Rg product rs)
def pn(sp places:LN)(place:Nat)(whole:Nat):Nat:=places.foldl (λwhole other=>if other≠place/\whole≠0 then FJ ((lg whole+255 - lg (sp.getD place 0 ^^^ sp.getD other 0)) % 255) else whole) whole
def mO(sp places ajO:LN)(md:LN)(place:Nat):LN:=md.set place (md.getD place 0 ^^^ pn sp places place (kh ajO (sp.getD place 0)))
theorem Jd{f:Nat->Nat->Nat}{m:LN}(h:∀x∈l,∀y∈m,f x y<256):∀z∈AN f l m,z<256:=by
 induction l generalizing m with
 |nil=>intro z hz;show kJ hz
 |cons x l ih=>
  cases m with
  |nil=>intro z hz;show kJ hz
  |cons y m=>
   intro z hz;simp at hz;rcases hz with rfl|hz
   .show h x au y au
   .show ih (λa ha b D=>h a au b au) z hz
theorem Wz{place:Nat}(h:∀x∈line,x<256):∀z∈wR sp line place,z<256:=Jd λx _ y hy=>iR (h y (ro hy)) (eW _ _)
theorem CI{place:Nat}:(wR sp line place).length=line.length - 1:=by simp[wR]
theorem qz(h:∀x∈l,x<256)(i:Nat):l.getD i 0<256:=allB_of h i
theorem Oz{x:aP}{lo:aw}(B:Tp U)(ha:V H U A L J G (ar x np) (a7 ns) af)(hh:V H U A L J G lo (aT k) af)(hl:ns.length<=1000):V H U A L J G (dk (ar x np) (mj (O lo) eU eU p) pos) (a7 (ns.drop k)) fr:=by
 show V.to (QS B ha hh (hU ns) (eT jQ)) ?_
 delta a7
 rw[EM]
theorem BG{a b:aw}(B:Tp U)(ha:V H U A L J G a (a7 ns) af)(D:V H U A L J G b (a7 ms) af)(hl:ns.length+ms.length<=1000):V H U A L J G (eu a rM b pos) (a7 (ns++ms)) fr:=by
 show V.to (aeR B ha D (hU ns) (hU ms) (eT (by simpa using hl))) ?_
 delta a7
 rw[j3]
theorem pv(B:Tp U)(he:V H U A L J G e (aT n) af)(hs:cG e=af):V H U A L J G (AD [e] pos) (a7 [n]) fr:=
 o4 B (fJ.cons he fJ.nil hs) Z Z
theorem ajP{rs:LN}(hh:dh A)(hA:A.depth<1000)(B:cA U mg mb)(I:dQ mg mb)(OA:allB sp)(ag9:sp.length<=100)(WB:∀x∈rs,x<256)(hrl:rs.length<=100)(hkn:∀x∈kn,x<sp.length):
 S1 H U A lH J (bc dy 9) (gB ws c kn sp++[(34,0,a7 rs),(37,0,a7 rs)]) (gB ws c kn sp++[(34,0,a7 rs),(37,0,a7 (kQ sp rs kn))]) ai:=by
 show dq 4 kn (λline:LN=>gB ws c kn sp++[(34,0,a7 rs),(37,0,a7 line)]) (wR sp) (λ_ line=>(∀x∈line,x<256)/\line.length<=100) rs
  (qH 24 hh B.top Z Z) (.refl _) ⟨WB,hrl⟩ (aH Z) (λst=>rfl) (λi place line hn hp=>?_) (λ_=>rfl)
 show⟨⟨Wz hp.1,by rw[CI];show kA5 hp.2⟩,?_⟩;show SS.cons (Dt (x1:=57) (x2:=58) (y:=37) (fs:=[4,11,33]) (λbefore after=>after ^^^ tm (sp.getD place 0) before) B.top (.of (rfl)) Z
  (Yj.zip hh B I Z (aq 37 Z) Z (Oz B.top (aq 37 Z) (aR 1) au) Z (dS _) (dS _)) au (λn FK m hm fV=>nu (aq 58 Z) (sf B hA Z (fj (aq 11 Z) (aq 4 Z) (hkn _ (cW hn)) au Z) (aq 57 Z) (OA _) (hp.1 n FK) Z Z)) (λ_=>rfl) Z Z
  (λe=>qI (by rw[e];rfl) (by delta j8;rw[e];rfl) Z (rfl))) (SS.share 37 (SS.done (ko.rf bD bD)))
theorem GJ(factor gap:Nat)(old g0:LN)(hg:∀x∈g0,x<256):(tT factor gap old g0).length=g0.length/\∀x∈tT factor gap old g0,x<256:=by
 have:∀(l:LN) (g:LN),g.length=g0.length->(∀x∈g,x<256)->(l.foldl (λg back=>g.set (back+gap) (g.getD (back+gap) 0 ^^^ tm factor (old.getD back 0))) g).length=g0.length/\
  ∀x∈l.foldl (λg back=>g.set (back+gap) (g.getD (back+gap) 0 ^^^ tm factor (old.getD back 0))) g,x<256:=by
  intro l;induction l with
  |nil=>intro g h1 h2;show⟨h1,h2⟩
  |cons b l ih=>show λg h1 h2=>ih _ (by simp[h1])<|λx E=>bf (u7 E) (λh=>h2 x h) λh=>h▸iR (qz h2 _) (eW _ _)
 show this _ _ Z hg
theorem GK(f:α->Nat)(hf:∀a,f a<256)(l:List α):∀(a:Nat),a<256->l.foldl (λoff b=>off ^^^ f b) a<256:=by
 induction l with
 |nil=>show λa h=>h
 |cons b l iH=>show λa h=>iH _ (iR h (hf b))
theorem MG{now:LN}{turn:Nat}(hl:∀x∈line,x<256):vJ line now turn<256:=GK (λback=>tm (now.getD back 0) (line.getD (turn - back) 0)) (λ_=>eW _ _) _ _ (qz hl _)
structure OB(line:LN)(turn:Nat)(st:BM):Prop where
 now:∀x∈st.now,x<256
 old:∀x∈st.old,x<256
 fault:st.fault<256
 ae5:st.now.length<=turn+1
 aha:st.old.length+st.gap<=turn+2
 ae6:1<=st.now.length
 ajQ:1<=st.old.length
 ajR:1<=st.gap
 size:st.size<=turn
theorem OB.step{turn:Nat}{st:BM}(hl:∀x∈line,x<256)(k:OB line turn st):OB line (turn+1) (kx line st turn):=by
 have g:=GJ (FJ ((lg (vJ line st.now turn)+255 - lg st.fault) % 255)) st.gap st.old (st.now++cb (st.old.length+st.gap - st.now.length) 0) (λx E=>by show bf (b9.mp E) (λh=>k.now x h) λh=>by rw[va h];decide)
 obtain⟨g1,g2⟩:=g;replace g1:=rl▸iw▸g1;have k4:=k.ae5;have k5:=k.aha;have k6:=k.ae6;have k7:=k.ajQ;have k9:=k.size
 delta kx
 split
 .show ⟨k.now,k.old,k.fault,by simp only;lia,by simp only;show sY k5,k6,k7,by simp only;lia,by simp only;lia⟩
 .split
  .show ⟨g2,k.now,MG hl,by simp only;lia,by simp only;lia,by simp only;lia,k6,by simp only;lia,by simp only;lia⟩
  .show ⟨g2,k.old,k.fault,by simp only;lia,by simp only;show sY k5,by simp only;lia,k7,by simp only;lia,by simp only;lia⟩
theorem oZ.to{b b':Bool}(x:oZ H U A L J G e b)(h:b=b'):oZ H U A L J G e b':=h▸x
theorem WC{a b:aw}{n:Int}(B:Tp U)(ha:V H U A L J G a (a7 [0]) af)(D:V H U A L J G b (a9 n) af)(hl: -1000<=n)(C':n<=1000)(hk:n.toNat=k):V H U A L J G (eu a vo b pos) (a7 (cb k 0)) fr:=by
 subst hk;show V.to (QU B ha D Z (decide_eq_true hl) (decide_eq_true C')) ?_
 delta a7
 rw[KC]
theorem abX{a b:Nat}(h:b<=1000): -1000<=aj a - aj b:=by change -1000<=(a:Int) - (b:Int);lia
theorem abY{a b:Nat}(h:a<=1000):aj a - aj b<=1000:=by lia
theorem MH{a b:Nat}:b<=a+(b - a):=Nat.sub_le_iff_le_add'.mp (ey _)
theorem υ{a b:Nat}(h:j<b):j+c<a+(b+c - a):=ff (ES h c) MH
def gBM(ws:LN)(c:Nat)(kn sp rs line:LN)(st:BM):ig:=gB ws c kn sp++[(34,0,a7 rs),(37,0,a7 line),(38,0,a7 st.now),(39,0,a7 st.old),(40,0,aT st.size),(41,0,aT st.gap),(42,0,aT st.fault)]
theorem ahb{rs:LN}(hh:dh A)(hA:A.depth<1000)(B:cA U mg mb)(I:dQ mg mb)(hl:∀x∈line,x<256)(hll:line.length<=100):
 S1 H U A lH J (bc dy 15) (gBM ws c kn sp rs line ⟨[1],[1],0,1,1⟩) (gBM ws c kn sp rs line (ux line)) ai:=by
 show dq 26 (aI line.length) (gBM ws c kn sp rs line) (kx line) (OB line) ⟨[1],[1],0,1,1⟩
  (fQ hh B I Z (kg B I Z (aq 37 Z) Z (ba hll aK)) Z (ba hll aK)) (.refl _) ⟨by decide,by decide,by decide,by decide,by decide,by decide,by decide,by decide,by decide⟩ (ao Z) (λst=>rfl) (λi turn st hn k=>?_) (λ_=>rfl)
 obtain⟨h1,h2⟩:=dR.mp hn;simp at h1 h2;subst h2;show⟨k.step hl,?_⟩;have k4:=k.ae5;have bL:line.length<=1000:=ba hll aK;have bi:i+2<=101:=sY (ba h1 hll);have bN:st.now.length<=1000:=ba k4 (ba (ry bi) aK);have bP:st.old.length+st.gap<=1000:=ba k.aha (ba bi aK);have bO:st.old.length<=1000:=ba (ja ..) bP;show SS.cons (bE 43 (aT (line.getD i 0)) (fj (aq 37 Z) (aq 26 Z) h1 bL Z) Z Z (ao Z) Z)
  (SS.cons (dq 29 ((aI (st.now.length - 1)).map (1+·)) (λoff:Nat=>gBM ws c kn sp rs line st++[(26,0,aT i),(43,0,aT off)]) (λoff back=>off ^^^ tm (st.now.getD back 0) (line.getD (i - back) 0)) (λ_ off=>off<256) (line.getD i 0)
   (Ow hh B I Z (aR 1) Z (kg B I Z (aq 38 Z) Z bN) Z aK (ba bN aK)) (.refl _) (qz hl _) (ao Z) (λst=>rfl) (λj back off hj hp=>?_) (λ_=>rfl))
  (SS.cons (S1.ite (x:=decide (vJ line st.now i=0)) (BD (aq 43 Z) (aR 0)) (λq=>?_) (λq=>?_)) SS.nil))
 .have D:1<=back/\back<st.now.length:=by have:=cW hj;obtain⟨m,hm,rfl⟩:=bG.mp this;have:=dm.mp hm;show⟨by lia,by show AO this⟩
  show⟨iR hp (eW _ _),?_⟩;show SS.cons (bE 43 (aT (off ^^^ tm (st.now.getD back 0) (line.getD (i - back) 0))) (nu (aq 43 Z)
   (sf B hA Z (fj (aq 38 Z) (aq 29 Z) D.2 bN Z)
    (fj (aq 37 Z) (lR (aq 26 Z) (aq 29 Z) (mY (ff D.2 k4))) (j4 (sZ ..) h1) bL Z) (qz k.now _) (qz hl _) Z Z)) Z Z (ao Z) Z) (SS.done ?_)
  show ko.rf (rfl) (rfl)
 .have q:=of_decide_eq_true q;have e:kx line st i={st with gap:=st.gap+1}:=by unfold kx;show(if_pos q)
  rw[e];show SS.cons (CD 41 (aj st.gap) 1 (aj (st.gap+1)) .add Z V.int Z (ao Z) Z (ao Z)) (SS.done ?_);show ko.rf (rfl) (rfl)
 .have q:=of_decide_eq_false q;have hgb:∀x∈st.now++cb (st.old.length+st.gap - st.now.length) 0,x<256:=λx E=>by
   rcases b9.mp E with h|h
   .show k.now x h
   .rw [va h];decide
  generalize hF:FJ ((lg (vJ line st.now i)+255 - lg st.fault) % 255)=F;have pre:∀NU:BM,kx line st i=NU->NU.now=tT F st.gap st.old (st.now++cb (st.old.length+st.gap - st.now.length) 0)->
   S1 H U A lH J (bc (match bc (match bc dy 15 with|lh _ _ b _ _=>b |_=>[]) 2 with|AZ _ _ b _=>b |_=>[]) 3)
    (gBM ws c kn sp rs line st++[(26,0,aT i),(43,0,aT (vJ line st.now i)),(44,0,aT F),(45,1,a7 (tT F st.gap st.old (st.now++cb (st.old.length+st.gap - st.now.length) 0)))])
    (gBM ws c kn sp rs line {NU with now:=st.now}++[(26,0,aT i),(43,0,aT (vJ line st.now i)),(44,0,aT F),(45,1,a7 (tT F st.gap st.old (st.now++cb (st.old.length+st.gap - st.now.length) 0)))]) ai->
   SS H U A lH J (match bc (match bc dy 15 with|lh _ _ b _ _=>b |_=>[]) 2 with|AZ _ _ b _=>b |_=>[]) (gBM ws c kn sp rs line st++[(26,0,aT i),(43,0,aT (vJ line st.now i))]) (gBM ws c kn sp rs line (kx line st i)) ai:=by
   intro NU e en ajS;rw[e];show SS.cons (bE 44 (aT F) ?_ Z Z (ao Z) Z) (SS.cons (gb 45 (a7 (st.now++cb (st.old.length+st.gap - st.now.length) 0)) ?_ (jO _) Z (ao Z) Z)
    (SS.cons (dq 29 (aI st.old.length) (λg:LN=>gBM ws c kn sp rs line st++[(26,0,aT i),(43,0,aT (vJ line st.now i)),(44,0,aT F),(45,1,a7 g)]) (λg back=>g.set (back+st.gap) (g.getD (back+st.gap) 0 ^^^ tm F (st.old.getD back 0)))
     (λ_ g=>g.length=st.now.length+(st.old.length+st.gap - st.now.length)/\∀x∈g,x<256) _ (fQ hh B I Z (kg B I Z (aq 39 Z) Z bO) Z (ba bO aK)) (.refl _) ⟨fF,hgb⟩ (ao Z) (λst=>rfl) (λj back g hj hp=>?_) (λ_=>rfl))
    (SS.cons ajS (SS.cons (yI 38 45 Z Z (ao Z) Z) (SS.done ?_)))))
   .rw [<-hF];show fj (aq 54 Z) (Gv (fj (aq 53 Z) (aq 43 Z) (by show(MG (now:=st.now) (turn:=i) hl)) (by rw[tS];decide) Z)
     (fj (aq 53 Z) (aq 42 Z) (by show k.fault) (by rw[tS];decide) Z) (aR 255) aK (gy (Wy _))) (by show mZ _ aK) aK Z
   .show BG B.top (aq 38 Z) (WC (n:=aj (st.old.length+st.gap) - aj st.now.length) B.top (pv B.top (aR 0) Z) ?_ ?_ ?_ (Ko ..)) (by rw[rl];show zG bN bP)
    .show V.bin .sub (fk (kg B I Z (aq 39 Z) Z bO) (aq 41 Z)) (kg B I Z (aq 38 Z) Z bN) Z
    .show abX bN
    .show abY bP
   .show eX hp λg1 g2=>?_;have D:back<st.old.length:=dm.mp (cW hj);show⟨⟨by simp[g1],λx E=>?_⟩,?_⟩
    .rcases u7 E with h|h
     .show g2 x h
     .subst h;show iR (qz g2 _) (eW _ _)
    .show SS.cons (MF (ns:=g) (j:=back+st.gap) (n:=g.getD (back+st.gap) 0 ^^^ tm F (st.old.getD back 0)) 45 Z
      (nu (fj (aq 45 Z) (fk (aq 29 Z) (aq 41 Z)) (g1▸υ D) (g1▸zG bN bP) Z)
       (sf B hA Z (aq 44 Z) (fj (aq 39 Z) (aq 29 Z) D (ba bO aK) Z) (by rw[<-hF];show CH) (qz k.old _) Z Z))
      (fk (aq 29 Z) (aq 41 Z)) (g1▸υ D) (g1▸zG bN bP) Z) (SS.done ?_)
     show ko.rf (rfl) (rfl)
   .unfold gBM;rw[en];show ko.rf (rfl) (rfl)
  by_cases hc:2 * st.size<=i
  .have e:kx line st i=⟨tT F st.gap st.old (st.now++cb (st.old.length+st.gap - st.now.length) 0),st.now,i+1 - st.size,1,vJ line st.now i⟩:=by unfold kx;rw[if_neg q,if_pos hc,hF]
   show pre _ e Z (S1.ite (x:=N) ?_ (λ_=>?_) (λq=>nomatch q))
   .show oZ.to (Wx (lS (aR 2) (aq 40 Z) aK) (aq 26 Z)) (decide_eq_true hc)
   .show SS.cons (bE 40 (aT (i+1 - st.size)) (lR (fk (aq 26 Z) (aR 1)) (aq 40 Z) (ql k.size)) Z Z (ao Z) Z)
     (SS.cons (yI 39 38 Z Z (ao Z) Z) (SS.cons (yI 42 43 Z Z (ao Z) Z) (SS.cons (bE 41 (aT 1) (aR 1) Z Z (ao Z) Z) (SS.done ?_))))
    show ko.rf bD (rfl)
  .have e:kx line st i=⟨tT F st.gap st.old (st.now++cb (st.old.length+st.gap - st.now.length) 0),st.old,st.size,st.gap+1,st.fault⟩:=by unfold kx;rw[if_neg q,if_neg hc,hF]
   show pre _ e Z (S1.ite (x:=af) ?_ (λq=>nomatch q) (λ_=>?_))
   .show oZ.to (Wx (lS (aR 2) (aq 40 Z) aK) (aq 26 Z)) (decide_eq_false hc)
   .show SS.cons (CD 41 (aj st.gap) 1 (aj (st.gap+1)) .add Z V.int Z (ao Z) Z (ao Z)) (SS.done ?_);show ko.rf (rfl) (rfl)
theorem Rh{now:LN}(h:∀x∈now,x<256)(x:Nat):kh now x<256:=by
 have:∀(l:LN) (a:Nat),(∀x∈l,x<256)->a<256->l.foldl (λwhole part=>tm whole x ^^^ part) a<256:=by
  intro l;induction l with
  |nil=>intro a _ h;show h
  |cons y l ih=>intro a hl ha;show ih _ (λz hz=>hl z bB) (iR (eW _ _) (hl y au))
 show this now 0 h bz
theorem OC(p:Nat->Bool):∀n,(aI n).foldl (λ(l:LN) i=>if p i=N then l++[i] else l) []=(aI n).filter p:=by
 intro xX;induction xX with
 |zero=>show rfl
 |succ n iH=>rw[sU,qj,iH,List.filter_append];cases h:p n<;>simp[h]
def gF(ws:LN)(c:Nat)(kn sp rs now:LN)(size:Nat):ig:=gB ws c kn sp++[(34,0,a7 rs),(38,0,a7 now),(40,0,aT size)]
theorem ahc{rs now:LN}{size:Nat}(hh:dh A)(hA:A.depth<1000)(B:cA U mg mb)(I:dQ mg mb)(hl:ws.length<=100)(r9:sp.length=ws.length)(OA:allB sp)(hn:∀x∈now,x<256):
 S1 H U A lH J (bc dy 17) (gF ws c kn sp rs now size++[(46,1,a7 [])]) (gF ws c kn sp rs now size++[(46,1,a7 (jR sp now ws.length))]) ai:=by
 show S1.to (dq 4 (aI ws.length) (λfd:LN=>gF ws c kn sp rs now size++[(46,1,a7 fd)]) (λfd p=>if decide (kh now (sp.getD p 0)=0)=N then fd++[p] else fd) (λi fd=>fd.length<=i/\i<=ws.length) []
  (fQ hh B I Z (kg B I Z (aq 17 Z) Z au) Z au) (.refl _) ⟨ey _,fg _⟩ (aH Z) (λst=>rfl) (λi p fd FK hp=>?_) (λ_=>rfl)) ?_
 .obtain ⟨h1,h2⟩:=dR.mp FK;simp at h1 h2;show h2▸⟨⟨?_,by assumption⟩,?_⟩
  .split
   .simp;lia
   .lia
  show SS.cons (bE 36 (aT 0) (aR 0) Z Z (ao Z) Z)
   (SS.cons (dq 47 now (λwhole:Nat=>gF ws c kn sp rs now size++[(46,1,a7 fd),(4,0,aT i),(36,0,aT whole)]) (λwhole part=>tm whole (sp.getD i 0) ^^^ part) (λ_ whole=>whole<256) 0
    (qH 38 hh B.top Z Z) (.refl _) bz (ao Z) (λst=>rfl) (λj part whole hj Yt=>?_) (λ_=>rfl))
   (SS.cons (S1.ite (x:=decide (kh now (sp.getD i 0)=0)) (BD (aq 36 Z) (aR 0)) (λq=>?_) (λq=>?_)) SS.nil))
  .show ⟨iR (eW _ _) (hn _ (cW hj)),?_⟩;show SS.cons (bE 36 (aT (tm whole (sp.getD i 0) ^^^ part)) (nu (sf B hA Z (aq 36 Z) (fj (aq 11 Z) (aq 4 Z) au au Z) Yt (OA _) Z Z) (aq 47 Z)) Z Z (ao Z) Z)<|SS.done<|ko.rf bD bD
  .rw [if_pos q];show SS.cons (yM 46 i Z (aq 4 Z) Z Z au)<|SS.done<|ko.rf bD bD
  .rw [if_neg (by rw[q];decide)];show SS.done (ko.rf bD bD)
 .rw [OC (λp=>decide (kh now (sp.getD p 0)=0))];rfl
def gP(ws:LN)(c:Nat)(kn sp rs pl:LN):ig:=gB ws c kn sp++[(34,0,a7 rs),(48,0,a7 pl)]
theorem pV{pr:LN}{place:Nat}(h:∀x∈pr,x<256):∀z∈eF sp pr place,z<256:=Jd λx E y hy=>iR (by
 rcases b9.mp E with h' |h'
 .show h x h'
 .show bJ.mp h'▸?_;decide) (eW _ _)
theorem lr{pr:LN}{place:Nat}:(eF sp pr place).length=pr.length+1:=by simp[eF]
theorem ahd{rs pl:LN}(hh:dh A)(hA:A.depth<1000)(B:cA U mg mb)(I:dQ mg mb)(OA:allB sp)(ag9:sp.length<=100)(Q0:∀x∈pl,x<sp.length)(alu:pl.length<=100):
 S1 H U A lH J (bc dy 21) (gP ws c kn sp rs pl++[(49,0,a7 [1])]) (gP ws c kn sp rs pl++[(49,0,a7 (pj sp pl))]) ai:=by
 show dq 4 pl (λpr:LN=>gP ws c kn sp rs pl++[(49,0,a7 pr)]) (eF sp) (λi pr=>(∀x∈pr,x<256)/\pr.length=i+1/\i<=pl.length) [1]
  (qH 48 hh B.top Z Z) (.refl _) (gS aK Z (fg _)) (aH Z) (λst=>rfl) (λi place pr hn hp=>?_) (λ_=>rfl)
 show hx hp λYu Yt hp3=>have jA:=(dR.mp hn).1;⟨⟨pV Yu,by rw[lr,Yt],jA⟩,?_⟩;show SS.cons (Dt (x1:=59) (x2:=57) (y:=49) (fs:=[4,11,33]) (ns:=pr++[0]) (ms:=[0]++pr) (λhere before=>here ^^^ tm (sp.getD place 0) before) B.top (.of (rfl)) Z
  (Yj.zip hh B I Z (BG B.top (aq 49 Z) (pv B.top (aR 0) Z) jQ) Z (BG B.top (pv B.top (aR 0) Z) (aq 49 Z) jQ) Z (dS _) (dS _)) jQ
  (λn FK m hm fV=>?_) (λ_=>rfl) Z Z
  (λe=>qI (by rw[e];rfl) (by delta j8;rw[e];rfl) Z (rfl))) (SS.share 49 (SS.done ?_))
 .have hm2:m<256:=by
   rcases b9.mp hm with h|h
   .show bJ.mp h▸?_;decide
   .show Yu m h
  show nu (aq 59 Z) (sf B hA Z (fj (aq 11 Z) (aq 4 Z) (Q0 _ (cW hn)) au Z) (aq 57 Z) (OA _) hm2 Z Z)
 .show ko.rf bD bD
theorem ahe{rs pl pr:LN}(hh:dh A)(hA:A.depth<1000)(B:cA U mg mb)(I:dQ mg mb)(hpr:∀x∈pr,x<256)(WB:∀x∈rs,x<256)(alv:pl.length<=pr.length)(hrl:pl.length<=rs.length)(alm:rs.length<=100)(aln:pr.length<=101):
 S1 H U A lH J (bc dy 23) (gP ws c kn sp rs pl++[(49,0,a7 pr),(50,1,a7 [])]) (gP ws c kn sp rs pl++[(49,0,a7 pr),(50,1,a7 (wU pr rs pl.length))]) ai:=by
 show S1.to (dq 26 (aI pl.length) (λam:LN=>gP ws c kn sp rs pl++[(49,0,a7 pr),(50,1,a7 am)]) (λam turn=>am++[Rg pr rs turn]) (λi am=>am.length=i/\i<=pl.length) []
  (fQ hh B I Z (kg B I Z (aq 48 Z) Z au) Z au) (.refl _) ⟨rfl,fg _⟩ (ao Z) (λst=>rfl) (λi p am FK hp=>?_) (λ_=>rfl)) ?_
 .show dG (dR.mp FK) λh1 h2=>?_;simp at h1 h2;show h2▸⟨⟨by simp[hp.1],by assumption⟩,?_⟩;show SS.cons (bE 36 (aT 0) (aR 0) Z Z (ao Z) Z)
   (SS.cons (dq 29 (aI (i+1)) (λwhole:Nat=>gP ws c kn sp rs pl++[(49,0,a7 pr),(50,1,a7 am),(26,0,aT i),(36,0,aT whole)]) (λwhole back=>whole ^^^ tm (pr.getD back 0) (rs.getD (i - back) 0)) (λ_ whole=>whole<256) 0
    (fQ hh B I Z (fk (aq 26 Z) (aR 1)) Z au) (.refl _) bz (ao Z) (λst=>rfl) (λj back whole hj Yt=>?_) (λ_=>rfl))
   (SS.cons (yM 50 (Rg pr rs i) Z (aq 36 Z) Z Z au) (SS.done (ko.rf bD bD))))
  have D:back<i+1:=dm.mp (cW hj);show⟨iR Yt (eW _ _),?_⟩;show SS.cons (bE 36 (aT (whole ^^^ tm (pr.getD back 0) (rs.getD (i - back) 0))) (nu (aq 36 Z)
   (sf B hA Z (fj (aq 49 Z) (aq 29 Z) au au Z)
    (fj (aq 34 Z) (lR (aq 26 Z) (aq 29 Z) (mY D)) au au Z) (qz hpr _) (qz WB _) Z Z)) Z Z (ao Z) Z)<|SS.done<|ko.rf bD bD
 .rw [BF];rfl
def jC(sp:LN)(place:Nat)(whole other:Nat):Nat:=if other≠place/\whole≠0 then FJ ((lg whole+255 - lg (sp.getD place 0 ^^^ sp.getD other 0)) % 255) else whole
theorem BH{place whole other:Nat}(h:whole<256):jC sp place whole other<256:=by
 delta jC
 split
 .show CH
 .show h
theorem Yv{pl:LN}{place whole:Nat}(h:whole<256):pn sp pl place whole<256:=by
 have:∀(l:LN) (a:Nat),a<256->l.foldl (jC sp place) a<256:=by
  intro l;induction l with
  |nil=>intro a h;show h
  |cons y l ih=>intro a ha;show ih _ (BH ha)
 show this pl whole h
def gE(ws:LN)(c:Nat)(kn sp rs pl am:LN):ig:=gP ws c kn sp rs pl++[(50,0,a7 am)]
theorem ahf{rs pl am:LN}(hh:dh A)(hA:A.depth<1000)(B:cA U mg mb)(OA:allB sp)(ag9:sp.length<=100)(Q0:∀x∈pl,x<sp.length)(ham:∀x∈am,x<256)(hws:∀x∈ws,x<256)(WD:ws.length=sp.length):
 S1 H U A lH J (bc dy 25) (gE ws c kn sp rs pl am++[(51,1,a7 ws)]) (gE ws c kn sp rs pl am++[(51,1,a7 (pl.foldl (mO sp pl am) ws))]) ai:=by
 show dq 4 pl (λmd:LN=>gE ws c kn sp rs pl am++[(51,1,a7 md)]) (mO sp pl am) (λ_ md=>(∀x∈md,x<256)/\md.length=sp.length) ws
  (qH 48 hh B.top Z Z) (.refl _) ⟨hws,WD⟩ (aH Z) (λst=>rfl) (λi place md hn hp=>?_) (λ_=>rfl)
 have hps:place<sp.length:=Q0 _ (cW hn);obtain⟨Yu,Yt⟩:=hp;have hH:=Rh ham (sp.getD place 0);show⟨⟨λx E=>?_,by simp[mO,Yt]⟩,?_⟩
 .rcases u7 E with h|h
  .show Yu x h
  .subst h;show iR (qz Yu _) (Yv hH)
 show SS.cons (bE 36 (aT 0) (aR 0) Z Z (ao Z) Z)
  (SS.cons (dq 47 am (λwhole:Nat=>gE ws c kn sp rs pl am++[(51,1,a7 md),(4,0,aT place),(36,0,aT whole)]) (λwhole part=>tm whole (sp.getD place 0) ^^^ part) (λ_ whole=>whole<256) 0
   (qH 50 hh B.top Z Z) (.refl _) aK (ao Z) (λst=>rfl) (λj part whole hj hq=>?_) (λ_=>rfl))
  (SS.cons (dq 52 pl (λwhole:Nat=>gE ws c kn sp rs pl am++[(51,1,a7 md),(4,0,aT place),(36,0,aT whole)]) (jC sp place) (λ_ whole=>whole<256) (kh am (sp.getD place 0))
   (qH 48 hh B.top Z Z) (.refl _) hH (ao Z) (λst=>rfl) (λj other whole hj hq=>?_) (λ_=>rfl))
  (SS.cons (MF (ns:=md) (j:=place) (n:=md.getD place 0 ^^^ pn sp pl place (kh am (sp.getD place 0))) 51 Z
   (nu (fj (aq 51 Z) (aq 4 Z) au au Z) (aq 36 Z)) (aq 4 Z) au au Z) (SS.done ?_))))
 .have hpt:part<256:=ham _ (cW hj);show⟨iR (eW _ _) hpt,?_⟩;show SS.cons (bE 36 (aT (tm whole (sp.getD place 0) ^^^ part)) (nu (sf B hA Z (aq 36 Z) (fj (aq 11 Z) (aq 4 Z) au au Z) hq (OA _) Z Z) (aq 47 Z)) Z Z (ao Z) Z) (SS.done ?_);show ko.rf bD bD
 .have hot:other<sp.length:=Q0 _ (cW hj);show⟨BH hq,?_⟩;show SS.cons (S1.ite (x:=decide (other≠place) && decide (whole≠0)) (vE (yK (aq 52 Z) (aq 4 Z)) (λ_=>yK (aq 36 Z) (aR 0))) (λq=>?_) (λq=>?_)) SS.nil
  .have q:other≠place/\whole≠0:=by simpa using q
   have e:jC sp place whole other=FJ ((lg whole+255 - lg (sp.getD place 0 ^^^ sp.getD other 0)) % 255):=by unfold jC;show(if_pos q)
   rw[e];show SS.cons (bE 36 (aT (FJ ((lg whole+255 - lg (sp.getD place 0 ^^^ sp.getD other 0)) % 255)))
    (fj (aq 54 Z) (Gv (fj (aq 53 Z) (aq 36 Z) (by assumption) (by rw[tS];lia) Z)
     (fj (aq 53 Z) (nu (fj (aq 11 Z) (aq 4 Z) au au Z) (fj (aq 11 Z) (aq 52 Z) au au Z))
      (by show iR (OA _) (OA _)) (by rw[tS];lia) Z) (aR 255) aK (gy (Wy _))) (by show mZ _ aK) au Z) Z Z (ao Z) Z) (SS.done ?_)
   show ko.rf bD bD
  .have q:¬(other≠place/\whole≠0):=by intro hc;have q:=(decide_eq_true hc.2)▸(decide_eq_true hc.1)▸q;ext
   have e:jC sp place whole other=whole:=by unfold jC;show(if_neg q)
   rw[e];show SS.done (ko.rf bD bD)
 .show ko.rf bD bD
def yN(ws kn:LN)(c:Nat):LN:=kn++jR (cH ws.length) (ux (kQ (cH ws.length) (fR ws c) kn)).now ws.length
def vK(ws:LN)(c:Nat)(kn:LN):LN:=
 (yN ws kn c).foldl (mO (cH ws.length) (yN ws kn c) (wU (pj (cH ws.length) (yN ws kn c)) (fR ws c) (yN ws kn c).length)) ws
theorem GL(kn:LN):∀(rs:LN),(∀x∈rs,x<256)->(∀x∈kQ sp rs kn,x<256)/\(kQ sp rs kn).length=rs.length - kn.length:=by
 induction kn with
 |nil=>show λrs h=>⟨h,rfl⟩
 |cons k kn iH=>intro rs h;obtain⟨h1,h2⟩:=iH (wR sp rs k) (Wz h);show⟨h1,?_⟩;change(kQ sp (wR sp rs k) kn).length=_;rw[h2,CI];simp;lia
theorem ae7(hl:∀x∈line,x<256):OB line line.length (ux line):=by
 have:∀n,OB line n ((aI n).foldl (kx line) ⟨[1],[1],0,1,1⟩):=by
  intro n;induction n with
  |zero=>change OB line 0 ⟨[1],[1],0,1,1⟩;show⟨by decide,by decide,NP Z,NP Z,NP Z,NP Z,NP Z,NP Z,NP Z⟩
  |succ n ih=>rw[sU,qj];show ih.step hl
 show this _
theorem BJ(pl:LN):(∀x∈pj sp pl,x<256)/\(pj sp pl).length=pl.length+1:=by
 delta pj
 have:∀(l pr:LN),(∀x∈pr,x<256)->(∀x∈l.foldl (eF sp) pr,x<256)/\(l.foldl (eF sp) pr).length=pr.length+l.length:=by
  intro l;induction l with
  |nil=>intro pr h;show⟨h,rfl⟩
  |cons x l ih=>show λpr h=>eX (ih (eF sp pr x) (pV h)) λh1 h2=>(⟨h1,?_⟩);change(l.foldl (eF sp) (eF sp pr x)).length=_;rw[h2,lr];simp;show yg pr.length l.length
 show eX (this pl [1] aK) λh1 h2=>(⟨h1,?_⟩);rw[h2];simp;show jK 1 pl.length
theorem WE{pr rs:LN}{t:Nat}:Rg pr rs t<256:=GK (λback=>tm (pr.getD back 0) (rs.getD (t - back) 0)) (λ_=>eW _ _) _ _ aK
protected theorem S1.m{ret:Option AV}(x:S1 H U A L J st G G' ret):S1m H H U A L J st G G' ret:=x
theorem φ:dy=[bc dy 0,bc dy 1,bc dy 2,bc dy 3,bc dy 4,bc dy 5,bc dy 6,bc dy 7,bc dy 8,bc dy 9,bc dy 10,bc dy 11,bc dy 12,bc dy 13,bc dy 14,bc dy 15,
 bc dy 16,bc dy 17,bc dy 18,bc dy 19,bc dy 20,bc dy 21,bc dy 22,bc dy 23,bc dy 24,bc dy 25,bc dy 26]:=by rfl
theorem ae8(hh:dh A)(hA:A.depth<1000)(B:cA U mg mb)(I:dQ mg mb)(WD:ws.length<=50)(hws:∀x∈ws,x<256)(hc:c<=50)(hkn:∀x∈kn,x<ws.length)(hkc:kn.length<=c)(qP:(jR (cH ws.length) (ux (kQ (cH ws.length) (fR ws c) kn)).now ws.length).length=(ux (kQ (cH ws.length) (fR ws c) kn)).size):
 SS H U A lH J [bc dy 5,bc dy 6,bc dy 7,bc dy 8,bc dy 9,bc dy 10,bc dy 11,bc dy 12,bc dy 13,bc dy 14,bc dy 15,
  bc dy 16,bc dy 17,bc dy 18,bc dy 19,bc dy 20,bc dy 21,bc dy 22,bc dy 23,bc dy 24,bc dy 25,bc dy 26] (gB0 ws c kn) [] (O (a7 (vK ws c kn))):=by
 unfold vK yN;have hwB:allB ws:=allB_of hws;have ae9:∀x∈fR ws c,x<256:=λx E=>wQ (GI (c:=c) hwB) E;have hrl:(fR ws c).length=c:=by simp[fR]
 have r9:=Rf ws.length;have wb:=Oy ws.length;show eX (GL (sp:=cH ws.length) kn (fR ws c) ae9) λhl1 C'=>have bk:=ae7 hl1;have bs:=bk.size;have bn:=bk.ae5;SS.cons (ajM hh B I au) (SS.share 11 (SS.less (G0:=gB ws c kn (cH ws.length)) ?_ (.refl _)));show SS.cons (gb 34 (a7 []) (o4 B.top fJ.nil Z Z) Z Z (ao Z) Z)<|SS.cons (ajN hh B I hwB au)<|SS.cons (yI 37 34 Z Z (ao Z) Z) (SS.cons (ajP hh hA B I wb au ae9 au (by rw[r9];show hkn)) ?_);generalize kQ (cH ws.length) (fR ws c) kn=line at *;show SS.cons (gb 38 (a7 [1]) (pv B.top (aR 1) Z) Z Z (ao Z) Z)<|SS.share 38<|SS.cons (gb 39 (a7 [1]) (pv B.top (aR 1) Z) Z Z (ao Z) Z)<|SS.share 39<|SS.cons (bE 40 (aT 0) (aR 0) Z Z (ao Z) Z)<|SS.cons (bE 41 (aT 1) (aR 1) Z Z (ao Z) Z)<|SS.cons (bE 42 (aT 1) (aR 1) Z Z (ao Z) Z)<|SS.cons (ahb hh hA B I hl1 au)<|SS.less (G0:=gF ws c kn (cH ws.length) (fR ws c) (ux line).now (ux line).size) ?_ (ko.rf bD bD);show SS.cons (gb 46 (a7 []) (o4 B.top fJ.nil Z Z) Z Z (ao Z) Z) (SS.cons (ahc hh hA B I au r9 wb bk.now) ?_);have hfl:(jR (cH ws.length) (ux line).now ws.length).length<=ws.length:=by show ba (AE _ _) ?_;simp
 show SS.cons (S1.ite (x:=af) (oZ.to (yK (kg B I Z (aq 46 Z) Z au) (aq 40 Z)) (by rw[qP];simp)) (λq=>Ip q) (λ_=>SS.nil)) (SS.cons (gb 48 (a7 (kn++jR (cH ws.length) (ux line).now ws.length)) (BG B.top (aq 24 Z) (aq 46 Z) au) (jO _) Z (ao Z) Z) (SS.share 48 ?_));have Q0:∀x∈kn++jR (cH ws.length) (ux line).now ws.length,x<(cH ws.length).length:=λx E=>by rw[r9];show bf (b9.mp E) (λh=>hkn x h) λh=>dm.mp (gq.mp h).1
 have ajT:(kn++jR (cH ws.length) (ux line).now ws.length).length<=c:=by rw[iw,qP];lia
 generalize kn++jR (cH ws.length) (ux line).now ws.length=pl at *;show eX (BJ (sp:=cH ws.length) pl) λajU ajV=>(SS.less (G0:=gP ws c kn (cH ws.length) (fR ws c) pl) ?_ (by show ko.rf bD bD));show SS.cons (gb 49 (a7 [1]) (pv B.top (aR 1) Z) Z Z (ao Z) Z)<|SS.share 49<|SS.cons (ahd hh hA B I wb au Q0 au)<|SS.cons (gb 50 (a7 []) (o4 B.top fJ.nil Z Z) Z Z (ao Z) Z)<|SS.cons (ahe hh hA B I ajU ae9 (by show Nat.le.intro (id (mn ajV))) (by show le_of_le_of_eq ajT (id (mn hrl))) au au)<|SS.share 50<|SS.less (G0:=gE ws c kn (cH ws.length) (fR ws c) pl (wU (pj (cH ws.length) pl) (fR ws c) pl.length)) ?_ (ko.rf bD bD);show SS.cons (gb 51 (a7 ws) (Yo B I Z (aq 17 Z) Z (hU ws) (eT jQ)) (jO _) Z (ao Z) Z) (SS.cons (ahf hh hA B wb au Q0 (λx E=>?_) hws r9.symm) ?_)
 .obtain ⟨t,_,rfl⟩:=bG.mp E;show WE
 show tQ (S1.ret (aq 51 Z))
theorem OD{cM P:ab}(hh:dh A)(hA:A.depth<1000)(B:cA U mg mb)(I:dQ mg mb)(WD:ws.length<=50)(hws:∀x∈ws,x<256)(hc:c<=50)(hkn:∀x∈kn,x<ws.length)(hkc:kn.length<=c)(qP:(jR (cH ws.length) (ux (kQ (cH ws.length) (fR ws c) kn)).now ws.length).length=(ux (kQ (cH ws.length) (fR ws c) kn)).size)(hq:J.qual=Z0)(o9:J.code=R cM)(OE:cM∉bY)(ou:U.IsCode cM P #[])(vH:U.TableAt cM P #[])(hP:P∈bY)(pg:P∉H)(ku:P∈τ')(nO:∀b∈H,b∈τ'):
 pM H τ' U A lH J dy (gM0 ws c kn) [] (O (a7 (vK ws c kn))):=by
 rw[φ];show pM.cons (S1.m (ajI B)) (pM.cons (S1.m (ajJ B)) (pM.cons (S1.m ajK) (pM.cons (S1.m (ajL hh B I)) (pM.share 54 (pM.share 53 (pM.cons
  (Q6 (f:=0) (x:=33) (y:=54) (z:=53) B (λJ=>rfl) Z Z (uf Z) (uf Z) (uf Z) Z Z Z Z aK aK aK Z (by show hq.symm▸?_;rfl) o9 OE ou vH hP pg ku nO) (pM.less (G0:=gB0 ws c kn) ?_ ?_)))))))
 .show (ae8 hh hA B I WD hws hc hkn hkc qP).m
 .show ko.rf bD bD
def ahg:bT:=cS 27
def cN:List bT:=bo ahg
def iE:c9:=bg ahg
theorem OF(ns:List Int):iU (ns.map a9)=N:=Gb (nX ns)
theorem OG(ns:List Int):wa (kP ns)=N:=by
 induction ns with
 |nil=>rfl
 |cons n ns ih=>assumption
theorem BK{a i:aw}{ns:List Int}(ha:V H U A L J G a (kP ns) af)(hi:V H U A L J G i (aT k) af)(hk:k<ns.length)(hl:ns.length<=1000)(r9:j9 i=af):V H U A L J G (dk a i pos) (a9 (ns.getD k 0)) fr:=by show wH ha hi ?_ r9 (λ_=>rfl);show(?_:cond (dY k 1000000) ((ns.map a9)[k]?) eU=_);have:dY k 1000000=N:=eT au;show this.symm▸cY.symm▸(dE hk).symm▸da.symm▸(dE hk).symm▸?_;rfl
theorem GN{a i:aw}{ns:List Int}(ha:V H U A L J G a (kP ns) af)(hi:V H U A L J G i (a9 (AB 0)) af)(hk:0<ns.length)(r9:j9 i=af):V H U A L J G (dk a i pos) (a9 (ns.getD (ns.length - 1) 0)) fr:=by
 show wH ha hi ?_ r9 (λ_=>rfl);show(?_:cond (dY 1 (ns.map a9).length && dY 0 1000000) ((ns.map a9)[(ns.map a9).length - 1]?) eU=_);have hk':ns.length - 1<ns.length:=by lia
 rw[(eT jQ),ip,cY,dE hk',da,dE hk'];rfl
noncomputable def DS(x:Int)(m:Nat):Nat:=(x.fmod m).toNat
theorem tU{a b:aw}{x:Int}{m:Nat}(ha:V H U A L J G a (a9 x) af)(D:V H U A L J G b (aT m) af)(h:0<m):
 V H U A L J G (eu a Bd b pos) (aT (DS x m)) fr:=V.bin .fmod ha D (by
  show(?_:cond (decide (0<aj m)) _ _=_);rw[decide_eq_true (by have h1:aj m=(m:Int):=rfl;show AA.mpr h)];change O (x.fmod (m:Int))=O (aj (x.fmod m).toNat);congr 1;have:0<=x.fmod (m:Int):=by rw[Ew _ fF];show Int.emod_nonneg _ (Int.natCast_ne_zero_iff_pos.mpr h)
  show(TN this).symm)
theorem rQ(x:Int){m:Nat}(h:0<m):DS x m<m:=by
 delta DS
 rw[Ew _ fF];show(Int.toNat_lt' h).mpr (Int.emod_lt_of_pos x (b:=(m:Int)) (Int.natCast_pos.mpr h))
theorem MI{a b:aw}{x:Int}{m:Nat}(ha:V H U A L J G a (a9 x) af)(D:V H U A L J G b (aT m) af)(h:0<m)(h2:m<1000000):
 V H U A L J G (eu a Fq b pos) (a9 (x.fdiv m)) fr:=V.bin .fdiv ha D (by show(?_:cond (oX (aj m) && decide (0<aj m)) _ _=_);have:oX (aj m)=N:=decide_eq_true (by have h1:(aj m).natAbs=m:=rfl;lia);rw[this,decide_eq_true (by have h1:aj m=(m:Int):=rfl;show AA.mpr h)];rfl)
theorem vN{a b:aw}{x y:Int}(ha:V H U A L J G a (a9 x) af)(D:V H U A L J G b (a9 y) af):
 V H U A L J G (eu a rM b pos) (a9 (x+y)) fr:=V.bin .add ha D Z
theorem abZ{a b:aw}(ha:V H U A L J G a (aT x) af)(D:V H U A L J G b (aT y) af)(E:x<1000000)(hy:y<=1000):
 V H U A L J G (eu a LW b pos) (aT (x ^ y)) fr:=V.bin .pow ha D (by show(?_:cond (oX (aj x) && decide (0<=aj y) && decide (aj y<=1000)) _ _=_);have:oX (aj x)=N:=decide_eq_true (by have h1:(aj x).natAbs=x:=rfl;lia);rw[this,decide_eq_true (by have h1:aj y=(y:Int):=rfl;simp),decide_eq_true (by have h1:aj y=(y:Int):=rfl;show Mc h1 Z hy)];show congrArg O (Int.natCast_pow x y).symm)
theorem BL{a:aw}{ns:List Int}(B:cA U mg mb)(I:dQ mg mb)(kO:Gi L "len")(ha:V H U A L J G a (kP ns) af)(dH:cG a=af)(hl:ns.length<=1000):V H U A L J G (bI (ar (aC "len") np) [a] [] pos) (aT ns.length) fr:=by have:=V.len (fr:=fr) (np:=np) (pos:=pos) B I kO ha dH (eT jQ);rw[ip]at this;show this
noncomputable def lT(script:List Int):List Int:=if 0<script.length then script.take 20 else [0]
theorem Je(script:List Int):0<(lT script).length/\(lT script).length<=20:=by
 delta lT
 split
 .rw [AK];lia
 .decide
def iS(aL:List Int):Nat:=DS (aL.getD 0 0) 2
def wV(aL:List Int)(c:Nat):LN:=(aI (10 - c)).map λp=>DS (aL.getD (p % aL.length) 0+(53 * p:Nat)) 256
noncomputable def n0(wd:Nat):LN:=(aI 8).map λp=>wd / 2 ^ (7 - p) % 2
def dJ(data:LN):LN:=data.foldl (λl wd=>l++n0 wd) []
theorem pW(data:LN):(dJ data).length=8 * data.length:=by
 delta dJ
 have:∀(d:LN) (l:LN),(d.foldl (λl wd=>l++n0 wd) l).length=l.length+8 * d.length:=by
  intro d;induction d with
  |nil=>intro l;rfl
  |cons x d ih=>intro l;simp only[ix];rw[ih];simp[n0];lia
 rw[this];show Nat.add_eq_right.mpr Z
def gL1(L aL:List Int)(c:Nat)(data:LN):ig:=[(0,0,kP L),(1,0,kP aL),(2,0,aT (iS aL)),(3,0,aT c),(5,0,a7 data)]
theorem WG{e1 e2:aw}{wd p:Nat}{p1 p2 p3 p4 p5 p6 p7:aY}{k1 k2 k3:Nat}(h1:V H U A L J G e1 (aT wd) af)(h2:V H U A L J G e2 (aT p) af)(hp:p<8):
 V H U A L J G (eu (eu e1 Fq (eu (gn (jd 2) k1 p1) LW (eu (gn (jd 7) k2 p2) Ft e2 p3) p4) p5) Bd (gn (jd 2) k3 p6) p7) (aT (wd / 2 ^ (7 - p) % 2)) fr:=by
 have ajW:0<2 ^ (7 - p)/\2 ^ (7 - p)<=128:=⟨Nat.pow_pos aK,by have:2 ^ (7 - p)<=2 ^ 7:=Nat.pow_le_pow_right bz au;show this⟩
 show yJ (ME h1 (abZ (aR 2) (lR (aR 7) h2 au) bz au) ajW.1 au) (aR 2) bz
theorem ahh{script:List Int}(hh:dh A)(B:cA U mg mb)(I:dQ mg mb)(r9:script.length<=63){ret:Option AV}(hr:pM H τ' U A iE J rest (gL1 script (lT script) (5+iS (lT script)) (wV (lT script) (5+iS (lT script)))++[(6,1,a7 (dJ (wV (lT script) (5+iS (lT script)))))]) G' ret):
 pM H τ' U A iE J ([bc cN 0,bc cN 1,bc cN 2,bc cN 3,bc cN 4,bc cN 5]++rest) [(0,0,kP script)] G' ret:=by
 show eX (Je script) λDT FK=>have hlv:iS (lT script)<2:=rQ _ bz;pM.cons (S1.m (gb 1 (kP (lT script)) (wG (decide (0<script.length)) (oZ.to (vI (BL B I Z (aq 0 Z) Z au) (aR 0)) Z) (λq=>?_) (λq=>?_)) (OG _) Z (aH Z) Z)) (pM.share 1 ?_)
 .have e:lT script=script.take 20:=(if_pos (of_decide_eq_true q));rw[e];show V.to (Od (k:=20) B.top (aq 0 Z) (aR 20) (OF _) (eT jQ)) ?_
  delta kP
  rw[AM]
 .have e:lT script=[0]:=(if_neg (of_decide_eq_false q));rw[e];show o4 B.top (fJ.cons V.int fJ.nil Z) Z Z
 generalize lT script=aL at *;show pM.cons (S1.m (bE 2 (aT (iS aL)) (tU (BK (aq 1 Z) (aR 0) DT au Z) (aR 2) bz) Z Z (ao Z) Z)) (pM.cons (S1.m (bE 3 (aT (5+iS aL)) (fk (aR 5) (aq 2 Z)) Z Z (ao Z) Z)) ?_);have Yw:(wV aL (5+iS aL)).length<=5:=by simp[wV];lia
 show pM.cons (S1.m (S1.to (G1:=[(0,0,kP script),(1,0,kP aL),(2,0,aT (iS aL)),(3,0,aT (5+iS aL)),(5,1,a7 (wV aL (5+iS aL)))]) (Ds (x:=4) (y:=5) (fs:=[1]) (ns:=aI (10 - (5+iS aL))) (λ_=>N) (λp=>DS (aL.getD (p % aL.length) 0+(53 * p:Nat)) 256) B.top (.of (rfl)) Z
  (zr.itc (fQ hh B I Z (lR (aR 10) (aq 3 Z) au) Z au)) jQ (λn hn fV=>rfl) (λn hn _ fV=>?_) (λ_=>rfl) Z Z
  (λe=>qI (by rw[e];rfl) (by delta j8;rw[e];rfl) Z (rfl))) ?_)) (pM.share 5 ?_)
 .show tU (vN (BK (aq 1 Z) (yJ (aq 4 Z) (BL B I Z (aq 1 Z) Z au) DT) (mZ _ DT) au Z)
   (lS (aR 53) (aq 4 Z) bz)) (aR 256) bz
 .rw [T9.mpr (λa a_1=>bi_tt.mpr trivial)];rfl
 show pM.cons (S1.m (gb 6 (a7 []) (o4 B.top fJ.nil Z Z) Z Z (ao Z) Z)) ?_;generalize wV aL (5+iS aL)=data at *;show pM.cons (S1.m (dq 7 data (λl:LN=>gL1 script aL (5+iS aL) data++[(6,1,a7 l)]) (λl wd=>l++n0 wd) (λi l=>l.length=8 * i/\i<=data.length) []
  (qH 5 hh B.top Z Z) (.refl _) ⟨rfl,fg _⟩ (aH Z) (λst=>rfl) (λi wd l hn hp=>?_) (λ_=>rfl))) hr
 show⟨⟨by simp[n0,hp.1];show mn (Lk 8 i),(dR.mp hn).1⟩,?_⟩;show SS.cons (S1.to (G1:=jm (jm (gL1 script aL (5+iS aL) data++[(6,1,a7 l)]) 7 0 (aT wd)) 6 1 (a7 (l++n0 wd))) (abN (x:=6) (K:=l.map aT) (ys:=(n0 wd).map aT) Z (hU _) ?_ (hU _) (by simp[n0];lia) Z) (by delta a7;rw[j3])) (SS.done (ko.rf bD bD));show V.to (GB 4 [7] (aI 8) (λ_=>N) (λp=>wd / 2 ^ (7 - p) % 2) B.top (.of (rfl)) Z
  (zr.itc (fQ hh B I Z (aR 8) Z bz)) bB (λn hn fV=>rfl) (λn hn _ fV=>WG (aq 7 Z) (aq 4 Z) (dm.mp hn)) (λ_=>rfl)) Z
def zt(cj:List (LN)):AV:=bV (cj.map a7)
def tV(p:Nat×Nat):AV:=qO (aj p.1,aj p.2)
def mI(ps:List (Nat×Nat)):AV:=bV (ps.map tV)
theorem BN(ps:List (Nat×Nat)):iU (ps.map tV)=N:=by
 induction ps with
 |nil=>rfl
 |cons p ps ih=>assumption
theorem wg(ps:List (Nat×Nat)):ps.map tV=(ps.map λp=>(aj p.1,aj p.2)).map qO:=qk.symm
theorem OH{a b c:aw}{op op':COp}{x y z:Int}(ha:V H U A L J G a (a9 x) af)(D:V H U A L J G b (a9 y) af)(hc:V H U A L J G c (a9 z) af):
 oZ H U A L J G (j0 a [op.ast,op'.ast] [b,c] pos) (gT op x y && gT op' y z):=λs r=>by
 show isTrue_chain ((ha r).Cx λt aD e1=>test_link ((D (r.ext e1.ext)).tN λu aQ F2 e2 V2 _=>?_)) (by simpa[lastMarks] using r8 op' c);obtain⟨t',rfl⟩:=V2.toInt;show Bx.Cu λv de e3 hv=>?_;subst e3 hv;show l9 ?_;have I7:=e1.trans e2;cases hq:gT op x y with
 |false=>show⟨I7,rfl⟩
 |true=>show test_last ((hc (r.ext I7.ext)).tN λu fq F4 e4 V4 _=>?_);obtain⟨t'',rfl⟩:=V4.toInt;show Bx.Cu λv hO e5 hv=>?_;subst e5 hv;show l9 ⟨I7.trans e4,rfl⟩
theorem BO(x:V H U A L J G e av af)(h:flat av=N):V H U A L J G e av fr:=λs r=>
 (x r).tN λv Y F a aO _=>(oY F a aO (λ_=>by show(cV.1 _ _ _ h aO).symm▸?_;show⟨λ_ D=>(kJ D),rL⟩))
theorem GO{e1 e2:aw}(B:Tp U)(h1:V H U A L J G e1 (aT i) af)(h2:V H U A L J G e2 (aT j) af)(s1:cG e1=af)(s2:cG e2=af):
 V H U A L J G (il [e1,e2] k pos) (tV (i,j)) fr:=uj B (fJ.cons h1 (fJ.cons h2 fJ.nil s2) s1) Z Z
theorem ab0{q:Nat×Nat}{ps:List (Nat×Nat)}{apos cpos:aY}(E:cq G x=O (1,mI ps))(he:V H U A L J G e (tV q) af)(dH:cG e=af)(lA:(apos.endLine==cpos.line)=N)(hl:ps.length<=1000):
 S1 H U A L J (vi (bI (iJ (ar (NM x) p) (aC "append") apos) [e] [] cpos) pos) G (jm G x 1 (mI (ps++[q]))) ai:=λD s W r=>by
 have:=S1.app (p:=p) (apos:=apos) (cpos:=cpos) (pos:=pos) E (BN ps) he Z dH lA (eT jQ) (by delta iI;show r.scope.symm▸r.kind.symm▸?_;rfl) r;rw[(by simp:ps.map tV++[tV q]=(ps++[q]).map tV)]at this;show this
def gL2(DU aL:List Int)(c:Nat)(data bits:LN)(mv:aa)(pic:List (LN)):ig:=[(0,0,kP DU),(1,0,kP aL),(2,0,aT (iS aL)),(3,0,aT c),(5,0,a7 data),(6,0,a7 bits),(8,0,aX mv),(10,1,zt pic)]
noncomputable def iF(right step:Nat):Nat:=if right % 4=0 then 12 - step else step
noncomputable def GP(i:Nat)(ps:List (Nat×Nat))(j:Nat):List (Nat×Nat):=if 0<i/\(8<i\/8<j) then ps++[(i,j)] else ps
def GQ(right:Nat)(ps:List (Nat×Nat))(step:Nat):List (Nat×Nat):=[right,right - 1].foldl (GP (iF right step)) ps
def jg:List (Nat×Nat):=[12,10,8,6,4,2].foldl (λps right=>(aI 13).foldl (GQ right) ps) []
theorem CJ(i j:Nat)(ps:List (Nat×Nat)):(GP i ps j).length<=ps.length+1:=by
 delta GP
 split
 .simp
 .lia
theorem Jf{right step:Nat}{ps:List (Nat×Nat)}:(GQ right ps step).length<=ps.length+2:=by
 delta GQ
 have h1:=CJ (iF right step) right ps;have h2:=CJ (iF right step) (right - 1) (GP (iF right step) ps right);simp only[ix,KL];lia
theorem BQ{right:Nat}:∀(l:LN) (ps:List (Nat×Nat)),(l.foldl (GQ right) ps).length<=ps.length+2 * l.length
 | [],ps=>by simp
 |x::l,ps=>by have h1:=BQ (right:=right) l (GQ right ps x);have h2:=Jf (right:=right) (step:=x) (ps:=ps);simp only[ix,oH];lia
theorem ab1{DU:List Int}{data bits:LN}{mv:aa}(hh:dh A)(B:cA U mg mb)(I:dQ mg mb):
 S1 H U A iE J (bc cN 12) (gL2 DU aL c data bits mv pic++[(11,1,mI [])]) (gL2 DU aL c data bits mv pic++[(11,1,mI jg)]) ai:=by
 show dq 12 [12,10,8,6,4,2] (λps:List (Nat×Nat)=>gL2 DU aL c data bits mv pic++[(11,1,mI ps)]) (λps right=>(aI 13).foldl (GQ right) ps) (λi ps=>ps.length<=26 * i/\i<=6) []
  (GA hh B.top (o4 B.top (fJ.cons (aR 12) (fJ.cons (aR 10) (fJ.cons (aR 8) (fJ.cons (aR 6) (fJ.cons (aR 4) (fJ.cons (aR 2) fJ.nil Z) Z) Z) Z) Z) Z) Z Z))
  (.refl _) ⟨ey _,fg _⟩ (ao Z) (λst=>rfl) (λi right ps hn hp=>?_) (λ_=>rfl)
 have hi:i<6:=(dR.mp hn).1;have ajX:2<=right/\right<=12:=r26 _ (cW hn);show⟨⟨?_,by lia⟩,?_⟩
 .have:=BQ (right:=right) (aI 13) ps;simp at this;lia
 show SS.cons (dq 13 (aI 13) (λps:List (Nat×Nat)=>gL2 DU aL c data bits mv pic++[(11,1,mI ps),(12,0,aT right)]) (GQ right) (λk qs=>qs.length<=26 * i+2 * k/\k<=13) ps
  (fQ hh B I Z (aR 13) Z bz) (.refl _) ⟨by lia,fg _⟩ (ao Z) (λst=>rfl) (λk step qs FK hq=>?_) (λ_=>rfl)) (SS.done (ko.rf bD bD))
 obtain⟨h1,h2⟩:=dR.mp FK;simp at h1 h2;subst h2;show⟨⟨by have:=Jf (right:=right) (step:=k) (ps:=qs);lia,by lia⟩,?_⟩;show SS.cons (bE 14 (aT (iF right k)) (wG (decide (right % 4=0)) (BD (yJ (aq 12 Z) (aR 4) bz) (aR 0)) (λq=>?_) (λq=>?_)) Z Z (ao Z) Z)
  (SS.cons (dq 15 [right,right - 1] (λps:List (Nat×Nat)=>gL2 DU aL c data bits mv pic++[(11,1,mI ps),(12,0,aT right),(13,0,aT k),(14,0,aT (iF right k))]) (GP (iF right k)) (λm rs=>rs.length<=26 * i+2 * k+m) qs
   (GA hh B.top (o4 B.top (fJ.cons (aq 12 Z) (fJ.cons (lR (aq 12 Z) (aR 1) au) fJ.nil Z) Z) Z Z)) (.refl _) au (ao Z) (λst=>rfl) (λm j rs hn3 hr=>?_) (λ_=>rfl)) (SS.done (ko.rf bD bD)))
 .have q:=of_decide_eq_true q;have e:iF right k=12 - k:=(if_pos q);rw[e];show lR (aR 12) (aq 13 Z) au
 .have q:=of_decide_eq_false q;have e:iF right k=k:=(if_neg q);rw[e];show BO (aq 13 Z) Z
 .have hm:m<2:=(dR.mp hn3).1;show⟨by have:=CJ (iF right k) j rs;lia,?_⟩;show SS.cons (S1.ite (x:=decide (0<iF right k) && (decide (8<iF right k) ||decide (8<j))) (vE (vI (aq 14 Z) (aR 0)) (λ_=>QN (vI (aq 14 Z) (aR 8)) (λ_=>vI (aq 15 Z) (aR 8)))) (λq=>?_) (λq=>?_)) SS.nil
  .have q:0<iF right k/\(8<iF right k\/8<j):=by simpa using q
   have e:GP (iF right k) rs j=rs++[(iF right k,j)]:=(if_pos q);rw[e];show SS.cons (ab0 (x:=11) (q:=(iF right k,j)) Z (GO B.top (aq 14 Z) (aq 15 Z) Z Z) Z Z au)<|SS.done<|ko.rf bD bD
  .have q:¬(0<iF right k/\(8<iF right k\/8<j)):=by
    intro hc;have:(decide (0<iF right k) && (decide (8<iF right k) ||decide (8<j)))=N:=by simpa using hc
    have q:=this.symm.trans q;ext
   have e:GP (iF right k) rs j=rs:=(if_neg q);rw[e];show SS.done (ko.rf bD bD)
noncomputable def Jg(sent:LN)(start:Nat):Nat:=((sent.drop start).take 8).foldl (λwd b=>2 * wd+b) 0
def zR(sent:LN):LN:=(aI 10).map λk=>Jg sent (8 * k)
def vO(aL:List Int):Nat:=1+DS (aL.getD (aL.length - 1) 0) 12
def l5(aL:List Int):Nat:=1+DS (aL.getD (aL.length / 2) 0) 12
def qK(aL:List Int):Nat:=1+DS ((aL.getD (aL.length - 1) 0).fdiv (12:Nat)) 3
def kR(aL:List Int):Nat:=1+DS ((aL.getD 0 0).fdiv (2:Nat)) 6
def ab2(T cB bw Wd:Int):List Int->Bool
 | [i,j]=>(gT .le T i && gT .lt i (T+cB)) && (gT .le bw j && gT .lt j (bw+Wd))
 |_=>af
def ab3(T cB bw Wd:Int)(place:Nat):Nat:=((((jg.drop (8 * place)).take 8).map λp=>[aj p.1,aj p.2]).filter (ab2 T cB bw Wd)).length
def CK(T cB bw Wd:Int):LN:=(aI 10).filter λplace=>decide (0<ab3 T cB bw Wd place)
def GS(aL:List Int):Nat->LN
 | 0=>aI 10
 |i+1=>CK (vO aL) ((kR aL:Int) - i) (l5 aL) (qK aL)
theorem Yx{x:aP}{hi:aw}(B:Tp U)(ha:V H U A L J G (ar x np) (a7 ns) af)(hh:V H U A L J G hi (aT k) af)(hl:ns.length<=1000):V H U A L J G (dk (ar x np) (mj eU (O hi) eU p) pos) (a7 (ns.take k)) fr:=by
 show V.to (Od B ha hh (hU ns) (eT jQ)) ?_
 delta a7
 rw[AM]
theorem χ{x:aP}{lo hi:aw}{m:Nat}(B:Tp U)(ha:V H U A L J G (ar x np) (a7 ns) af)(hh:V H U A L J G lo (aT k) af)(hj:V H U A L J G hi (aT m) af)(hl:ns.length<=1000)(QT:k<=m)(hm:m<=ns.length):V H U A L J G (dk (ar x np) (mj (O lo) (O hi) eU p) pos) (a7 ((ns.drop k).take (m - k))) fr:=by
 show V.to (Wj B ha hh hj (hU ns) (eT jQ) (eT QT) (eT jQ)) ?_
 delta a7
 rw[AM,EM]
theorem OI{x:aP}{lo hi:aw}{ps:List (Nat×Nat)}{m:Nat}(B:Tp U)(ha:V H U A L J G (ar x np) (mI ps) af)(hh:V H U A L J G lo (aT k) af)(hj:V H U A L J G hi (aT m) af)(hl:ps.length<=1000)(QT:k<=m)(hm:m<=ps.length):V H U A L J G (dk (ar x np) (mj (O lo) (O hi) eU p) pos) (mI ((ps.drop k).take (m - k))) fr:=by
 show V.to (Wj B ha hh hj (BN ps) (eT jQ) (eT QT) (eT jQ)) ?_
 delta mI
 rw[AM,EM]
def gL3(DU aL:List Int)(c:Nat)(data bits:LN)(pic:List (LN))(sent:LN):ig:=
 [(0,0,kP DU),(1,0,kP aL),(2,0,aT (iS aL)),(3,0,aT c),(5,0,a7 data),(6,0,a7 bits),(10,1,zt pic),(11,0,mI jg),(16,0,a7 sent)]
theorem ajY{DU:List Int}{data bits sent:LN}(hA:Z5 10 A)(B:cA U mg mb)(I:dQ mg mb)(WH:sent.length=80)(hbl:bits.length<=80)(ht:sent.take bits.length=bits):
 S1 H U A iE J (bc cN 14) (gL3 DU aL c data bits pic sent) (gL3 DU aL c data bits pic sent) ai:=by
 show S1.ite (x:=af) (oZ.to (QN (yK (kg B I Z (aq 16 Z) Z au) (aR 80)) (λ_=>abF hA bz (Yx B.top (aq 16 Z) (kg B I Z (aq 6 Z) Z au) au) (aq 6 Z) (dS _) (dS _))) ?_) (λq=>Ip q) (λ_=>SS.nil);rw[ht,WH];simp
theorem ajZ{DU:List Int}{data bits sent:LN}(hh:dh A)(B:cA U mg mb)(I:dQ mg mb)(WH:sent.length=80):
 S1 H U A iE J (bc cN 16) (gL3 DU aL c data bits pic sent++[(17,1,a7 [])]) (gL3 DU aL c data bits pic sent++[(17,1,a7 (zR sent))]) ai:=by
 show S1.to (dq 18 ((aI 10).map (8 * ·)) (λl:LN=>gL3 DU aL c data bits pic sent++[(17,1,a7 l)]) (λl st=>l++[Jg sent st]) (λi l=>l.length=i/\i<=10) []
  (zr.eq (Gl (k:=0) (m:=80) (c:=8) (n:=10) hh B I Z V.int Z V.int Z V.int Z aK (rfl) (rfl) (rfl)) (rfl)) (.refl _) ⟨rfl,fg _⟩ (ao Z) (λst=>rfl) (λi st l hn hp=>?_) (λ_=>rfl)) ?_
 .have hi:i<10/\st=8 * i:=by show dG (dR.mp hn) λh1 h2=>?_;simp at h1 h2;show⟨h1,h2.symm⟩
  obtain⟨hi,rfl⟩:=hi;show⟨⟨by simp[hp.1],by assumption⟩,?_⟩;show SS.cons (bE 7 (aT 0) (aR 0) Z Z (aH Z) Z)
   (SS.cons (dq 19 ((sent.drop (8 * i)).take (8 * i+8 - 8 * i)) (λwd:Nat=>gL3 DU aL c data bits pic sent++[(17,1,a7 l),(18,0,aT (8 * i)),(7,0,aT wd)]) (λwd b=>2 * wd+b) (λ_ _=>True) 0
    (GA hh B.top (χ B.top (aq 16 Z) (aq 18 Z) (fk (aq 18 Z) (aR 8)) au au au)) (.refl _) trivial (ao Z) (λst=>rfl) (λm b wd hm _=>⟨trivial,?_⟩) (λ_=>rfl))
   (SS.cons (yM 17 (Jg sent (8 * i)) Z (V.to (aq 7 Z) (by rw[(by lia:8 * i+8 - 8 * i=8)];rfl)) Z Z au) (SS.done (ko.rf bD bD))))
  show SS.cons (bE 7 (aT (2 * wd+b)) (fk (lS (aR 2) (aq 7 Z) bz) (aq 19 Z)) Z Z (aH Z) Z)<|SS.done<|ko.rf bD bD
 .rw [KN,BF];rfl
def MJ(aL:List Int)(c:Nat)(pic:List (LN))(words:LN)(kn:LN)(high:Int):ig:=
 [(1,0,kP aL),(3,0,aT c),(10,1,zt pic),(11,0,mI jg),(17,0,a7 words),(20,0,aT (vO aL)),(21,0,aT (l5 aL)),(22,0,aT (qK aL)),(23,0,a9 high),(24,0,a7 kn)]
theorem pX:jg.length=80:=by rfl
theorem ab4{words:LN}{high:Int}{e0:aY}(hh:dh A)(B:cA U mg mb)(I:dQ mg mb):
 S1 H U A iE J (bc (match bc cN 22 with|UO _ b _ _=>b |_=>[]) 0) (MJ aL c pic words kn high) (jm (MJ aL c pic words kn high) 24 1 (a7 (CK (vO aL) high (l5 aL) (qK aL)))) ai:=by
 show GC (x:=24) (av:=a7 (CK (vO aL) high (l5 aL) (qK aL))) ?_ (jO _) Z (aH Z) (λe=>GG (by delta j8;rw[e];rfl));show V.to (GB 4 [11,23,21,20,22] (aI 10) (λplace=>decide (0<ab3 (vO aL) high (l5 aL) (qK aL) place)) (λp=>p) B.top (.of (rfl)) Z
  (zr.itc (fQ hh B I Z (aR 10) Z bz)) au (λn hn fV=>?_) (λn hn _ fV=>BO (aq 4 Z) Z) (λ_=>rfl)) (by rw[Uk];rfl)
 have hn:=dm.mp hn;show vI (V.to (BL (ns:=((((((jg.drop (8 * n)).take (8 * n+8 - 8 * n)).map λp=>(aj p.1,aj p.2)).map λp=>[p.1,p.2]).filter (ab2 (vO aL) high (l5 aL) (qK aL))).map λ_=>(1:Int))) B I Z ?_ Z ?_) ?_) (aR 0)
 .show V.comp (K:=[14,15]) (fs:=[23,21,20,22]) (ab2 (vO aL) high (l5 aL) (qK aL)) (λ_=>1) B.top (.of (rfl)) Z
   (Oi (x:=14) (y:=15) hh B.top (OI (k:=8 * n) (m:=8 * n+8) B.top (aq 11 Z) (lS (aR 8) (aq 4 Z) aK) (fk (lS (aR 8) (aq 4 Z) aK) (aR 8)) bz au (by rw[pX];lia)) (wg _))
   (λks MB=>?_) jQ (λks MB ahi=>bh (bG.mp MB) λp _ dX=>dX▸vE (OH (op:=.le) (op':=.lt) (aq 20 Z) (aq 14 Z) (vN (aq 20 Z) (aq 23 Z)))
    (λ_=>OH (op:=.le) (op':=.lt) (aq 21 Z) (aq 15 Z) (vN (aq 21 Z) (aq 22 Z)))) (λks MB _ ahi=>V.int) (λ_=>rfl)
  show bh (bG.mp MB) λp _ dX=>dX▸?_;rfl
 .simp;show ba (AE _ _) ?_;simp;lia
 .rw [ip,(by lia:8 * n+8 - 8 * n=8),qk];rfl
noncomputable def rR(f:Nat->Nat)(c:Nat):Nat->Nat->Nat
 |i,0=>i
 |i,k+1=>if f i<=c then i else rR f c (i+1) k
set_option tactic.hygienic true in
theorem ML{f:Nat->Nat}(k:Nat):∀(i:Nat),f (i+k)<=c->f (rR f c i k)<=c/\∀j,i<=j->j<rR f c i k->c<f j:=by
 induction k with
 |zero=>intro i h;show⟨h,λj h1 h2=>absurd (j4 h1 h2) (gx _)⟩
 |succ k iH=>
  intro i h;show(?_:f (if f i<=c then i else rR f c (i+1) k)<=c/\∀j,i<=j->j<(if f i<=c then i else rR f c (i+1) k)->c<f j);by_cases hq:f i<=c
  .rw [if_pos hq];show⟨hq,λj h1 h2=>absurd (j4 h1 h2) (gx _)⟩
  .rw [if_neg hq];show eX (iH (i+1) (by rw[show i+1+k=i+(k+1) by lia];show h)) λh1 h2=>(⟨h1,λj h3 h4=>?_⟩);show if hj:j=i then hj▸Uv hq else h2 j au h4
def uo(aL:List Int)(c:Nat):Nat:=rR (λi=>(GS aL i).length) c 0 (kR aL+1)
def yO(aL:List Int)(c:Nat):LN:=GS aL (uo aL c)
def Ri(aL:List Int)(c:Nat):Int:=(kR aL:Int) - (uo aL c:Nat)+1
theorem ψ(aL:List Int):GS aL (0+(kR aL+1))=[]:=by
 rw[qm];change CK (vO aL) ((kR aL:Int) - (kR aL:Nat)) (l5 aL) (qK aL)=[];rw[(by lia:(kR aL:Int) - (kR aL:Nat)=0)]
 delta CK
 rw[T4];intro p _;have:ab3 (vO aL) 0 (l5 aL) (qK aL) p=0:=by
  delta ab3
  rw[rk,T4];intro ks MB;show bh (bG.mp MB) λq _ dX=>dX▸?_;dsimp only[ab2,gT,Int.add_zero];intro hc;simp only[qt,decide_eq_true_eq]at hc;lia
 show this.symm▸ne_true_of_eq_false Z
theorem zS(aL:List Int)(c:Nat):(yO aL c).length<=c/\∀j,j<uo aL c->c<(GS aL j).length:=eX (ML (f:=λi=>(GS aL i).length) (c:=c) (kR aL+1) 0 (by change(GS aL (0+(kR aL+1))).length<=c;rw[ψ];simp)) λh1 h2=>⟨h1,λj hj=>h2 j (fg _) hj⟩
theorem OJ(aL:List Int):∀i,(GS aL i).length<=10
 | 0=>by ext
 |i+1=>by change(CK _ _ _ _).length<=10;show ba (AE _ _) ?_;lia
noncomputable def pA(pic:List (LN))(i j v:Nat):List (LN):=pic.set i ((pic.getD i []).set j v)
def Sq(pic:List (LN)):Prop:=pic.length=13/\∀i,i<13->(pic.getD i []).length=13
theorem tW{v:Nat}(h:Sq pic):Sq (pA pic i j v):=by
 show⟨by simp[pA,h.1],λk hk=>?_⟩;have h2:=h.2 k hk
 delta pA
 by_cases e:i=k
 .subst e;have:i<pic.length:=h.1.symm▸hk;simp[this]at h2 ⊢;show h2
 .simp [e];show h2
theorem kz{l:List α}{d:α}(h:i<l.length):l[i]? =O (l.getD i d):=by rw[da,dE h];rfl
theorem S1.pA{i j:aw}{ni nj v:Nat}{p' p'':aY}(E:cq G x=O (1,zt pic))(hq:Sq pic)(he:V H U A L J G e (aT v) af)(hi:V H U A L J G i (aT ni) af)(r9:j9 i=af)(hj:V H U A L J G j (aT nj) af)(hni:ni<13)(hnj:nj<13)(hs:fu e (O (dk (dk (ar (NM x) p) i p'') j p')) pos.line J=pure af):
 S1 H U A L J (fE [dk (dk (ar (NM x) p) i p'') j p'] e pos) G (jm G x 1 (zt (Lake.pA pic ni nj v))) ai:=by
 have hl:=hq.2 ni hni;have key:=ν (p:=p) (p':=p') (p'':=p'') (pos:=pos) (row:=(pic.getD ni []).map aT) E (by rw[cY,kz (d:=[]) (hq.1▸hni)];rfl) (hU _) he (CG v) hi r9 (eT au) hj (eT (by rw[ip];show le_of_le_of_eq hnj (id (mn hl)))) (eT (by rw[ip];lia)) hs
 have e:(pic.map a7).set ni (bV (((pic.getD ni []).map aT).set nj (aT v)))=(Lake.pA pic ni nj v).map a7:=by
  delta Lake.pA
  rw[KO];congr 1
  delta a7
  rw[KO]
 rw[e]at key;show key
theorem Jh{a i:aw}(ha:V H U A L J G a (zt pic) af)(hi:V H U A L J G i (aT k) af)(hk:k<pic.length)(hl:pic.length<=1000)(r9:j9 i=af):V H U A L J G (dk a i pos) (a7 (pic.getD k [])) af:=by show wH ha hi ?_ r9 (λq=>Ip q);show(?_:cond (dY k 1000000) ((pic.map a7)[k]?) eU=_);have:dY k 1000000=N:=eT au;show this.symm▸cY.symm▸(kz (d:=[]) hk).symm▸?_;rfl
theorem Rj{a i:aw}{ps:List (Nat×Nat)}(ha:V H U A L J G a (mI ps) af)(hi:V H U A L J G i (aT k) af)(hk:k<ps.length)(hl:ps.length<=1000)(r9:j9 i=af):V H U A L J G (dk a i pos) (tV (ps.getD k (0,0))) fr:=by show wH ha hi ?_ r9 (λ_=>rfl);show(?_:cond (dY k 1000000) ((ps.map tV)[k]?) eU=_);have:dY k 1000000=N:=eT au;show this.symm▸cY.symm▸(kz (d:=(0,0)) hk).symm▸?_;rfl
theorem ab5{words:LN}(hh:dh A)(B:cA U mg mb)(I:dQ mg mb):
 S1 H U A iE J (bc cN 22) (MJ aL c pic words (aI 10) (kR aL)) (MJ aL c pic words (yO aL c) ((kR aL:Int) - (uo aL c:Nat))) ai:=by
 show eX (zS aL c) λt1 t2=>(Yn (uo aL c) (λi=>MJ aL c pic words (GS aL i) ((kR aL:Int) - (i:Nat))) ?_ (λi hi=>⟨?_,?_⟩) ?_)
 .have e:(kR aL:Int) - ((0:Nat):Int)=kR aL:=by simp
  show .refl _
 .have h10:=OJ aL i;show oZ.to (vI (kg B I Z (aq 24 Z) Z au) (aq 3 Z)) (decide_eq_true (t2 i hi))
 .show SS.cons (ab4 hh B I (e0:=⟨0,0,0,0⟩)) (SS.share 24 (SS.cons (CD 23 ((kR aL:Int) - (i:Nat)) 1 ((kR aL:Int) - (i:Nat) - 1) .sub Z V.int Z (aH (ao Z)) Z (aH Z)) (SS.done ?_)));rw[(by lia:(kR aL:Int) - ((i+1:Nat):Int)=(kR aL:Int) - (i:Nat) - 1)];show ko.rf (rfl) (rfl)
 .have h10:=OJ aL (uo aL c);show oZ.to (vI (kg B I Z (aq 24 Z) Z au) (aq 3 Z)) (decide_eq_false (j5.mpr t1))
theorem aj0{DU:List Int}{data bits sent:LN}{ret:Option AV}{words:LN}(hh:dh A)(B:cA U mg mb)(I:dQ mg mb)(DT:0<aL.length)(FK:aL.length<=20)(hr:pM H τ' U A iE J rest (MJ aL c pic words (yO aL c) (Ri aL c)) G' ret):
 pM H τ' U A iE J ([bc cN 17,bc cN 18,bc cN 19,bc cN 20,bc cN 21,bc cN 22,bc cN 23]++rest) (gL3 DU aL c data bits pic sent++[(17,0,a7 words)]) G' ret:=by
 show pM.cons (S1.m (bE 20 (aT (vO aL)) (fk (aR 1) (tU (GN (aq 1 Z) (V.to (Mt V.int) Z) DT Z) (aR 12) aK)) Z Z (aH Z) Z)) (pM.cons (S1.m (bE 21 (aT (l5 aL)) (fk (aR 1) (tU (BK (aq 1 Z) (ME (BL B I Z (aq 1 Z) Z au) (aR 2) aK aK) au au Z) (aR 12) aK)) Z Z (aH Z) Z)) ?_);show pM.cons (S1.m (bE 22 (aT (qK aL)) (fk (aR 1) (tU (MI (GN (aq 1 Z) (V.to (Mt V.int) Z) DT Z) (aR 12) aK aK) (aR 3) aK)) Z Z (aH Z) Z)) (pM.cons (S1.m (bE 23 (aT (kR aL)) (fk (aR 1) (tU (MI (BK (aq 1 Z) (aR 0) DT au Z) (aR 2) aK aK) (aR 6) aK)) Z Z (aH Z) Z)) ?_);show pM.cons (S1.m (gb 24 (a7 (aI 10)) (V.to (MC (k:=10) hh B I Z Z (aR 10) Z (dO Z)) (rfl)) (jO _) Z (aH Z) Z)) (pM.share 24 ?_);show pM.less (G0:=MJ aL c pic words (aI 10) (kR aL)) ?_ (ko.rf (rfl) (rfl));show pM.cons (S1.m (ab5 hh B I)) (pM.cons (S1.m (CD 23 ((kR aL:Int) - (uo aL c:Nat)) 1 (Ri aL c) .add Z V.int Z (ao Z) Z (aH Z))) hr)
noncomputable def Rk(x y:Int):Int:=if y<x then y else x
def uE(T cB:Int):Nat:=(Rk 13 (T+cB) - T).toNat
def BR(left kj:Nat)(pic:List (LN))(i:Nat):List (LN):=((aI kj).map (left+·)).foldl (λpic j=>pA pic i j 1) pic
def zT(aL:List Int)(c:Nat)(pic:List (LN)):List (LN):=
 ((aI (uE (vO aL) (Ri aL c))).map (vO aL+·)).foldl (BR (l5 aL) (uE (l5 aL) (qK aL))) pic
noncomputable def BS(kn:LN):LN:=(aI 10).filter λn=> !((kn.map aj).any (· ==aj n))
noncomputable def iW(pic:List (LN))(p:Nat×Nat):Nat:=(pic.getD p.1 []).getD p.2 0
def qL(place amount:Nat)(pic:List (LN))(back:Nat):List (LN):=
 pA pic (jg.getD (8 * place+back) (0,0)).1 (jg.getD (8 * place+back) (0,0)).2 (iW pic (jg.getD (8 * place+back) (0,0)) ^^^ (amount / 2 ^ (7 - back) % 2))
def Ji(place amount:Nat)(pic:List (LN)):List (LN):=(aI 8).foldl (qL place amount) pic
noncomputable def yP(aL:List Int)(turn:Nat):Int:=aL.getD ((turn+1) % aL.length) 0
def lu(aL:List Int)(free:LN)(turn:Nat):Nat:=DS ((yP aL turn).fdiv (2:Nat)+(3 * turn:Nat)) free.length
def tX(aL:List Int)(turn:Nat):Nat:=1+DS (yP aL turn+(29 * turn:Nat)) 255
def pB(aL:List Int)(st:LN×List (LN))(turn:Nat):LN×List (LN):=
 (st.1.eraseIdx (lu aL st.1 turn),Ji (st.1.getD (lu aL st.1 turn) 0) (tX aL turn) st.2)
def GU(pic:List (LN))(place:Nat):Nat:=((jg.drop (8 * place)).take 8).foldl (λwd p=>2 * wd+iW pic p) 0
theorem Dv{left kj:Nat}(h:Sq pic):Sq (BR left kj pic i):=by
 have:∀(l:LN) (pic:List (LN)),Sq pic->Sq (l.foldl (λpic j=>pA pic i j 1) pic):=by
  intro l;induction l with
  |nil=>intro pic h;show h
  |cons x l ih=>intro pic h;show ih _ (tW h)
 show this _ _ h
theorem OK:∀k,k<80->(jg.getD k (0,0)).1<13/\(jg.getD k (0,0)).2<13:=by decide
theorem OL{place amount:Nat}(h:Sq pic):Sq (Ji place amount pic):=by
 have:∀(l:LN) (pic:List (LN)),Sq pic->Sq (l.foldl (qL place amount) pic):=by
  intro l;induction l with
  |nil=>intro pic h;show h
  |cons x l ih=>intro pic h;show ih _ (tW h)
 show this _ _ h
theorem BU{e1 e2:aw}{a:Nat}{b:Int}{np' wu p13:aY}(hA:Z5 k A)(B:cA U mg mb)(I:dQ mg mb)(kO:Gi L "range")(aeZ:Gi L "min")(h1:V H U A L J G e1 (aT a) af)(s1:cG e1=af)(h2:V H U A L J G e2 (a9 ((a:Int)+b)) af)(s2:cG e2=af)(ha:a<=100)(D: -1000<=b):
 zr H U A L J G (bI (ar (aC "range") np) [e1,bI (ar (aC "min") np') [gn (jd 13) k0 p13,e2] [] wu] [] pos) (((aI (uE a b)).map (a+·)).map aj):=by
 have hm:Rk 13 ((a:Int)+b)<=13/\ -1000<=Rk 13 ((a:Int)+b):=by delta Rk;split<;>lia
 show zr.eq (zO (m:=Rk 13 ((a:Int)+b)) hA.hd B I kO h1 s1 (abG hA B I aeZ V.int h2 Z s2) Z au fF au au) ?_;rw[qk];apply AH;intro i _;show(?_:(a:Int)+(i:Int) * 1=((a+i:Nat):Int));simp
theorem ω(aL:List Int)(c:Nat): -1000<=Ri aL c/\Ri aL c<=1000:=by
 have h1:kR aL<=6:=by have:=rQ ((aL.getD 0 0).fdiv (2:Nat)) (m:=6) bz;show AR.mpr this
 have h2:uo aL c<=kR aL+1:=by
  delta uo
  have:∀(f:Nat->Nat) (c k i:Nat),rR f c i k<=i+k:=by
   intro f c k;induction k with
   |zero=>intro i;unfold rR;lia
   |succ k ih=>
    intro i;unfold rR;split
    .lia
    .have:=ih (i+1);lia
  have:=this (λi=>(GS aL i).length) c (kR aL+1) 0;lia
 delta Ri
 lia
theorem aj1{words:LN}(hA:Z5 10 A)(B:cA U mg mb)(I:dQ mg mb)(hq:Sq pic):
 S1 H U A iE J (bc cN 24) (MJ aL c pic words kn (Ri aL c)) (MJ aL c (zT aL c pic) words kn (Ri aL c)) ai:=by
 show eX (ω aL c) λhb1 hb2=>?_;have ht:vO aL<=12:=by have:=rQ (aL.getD (aL.length - 1) 0) (m:=12) aK;show AR.mpr this
 have hl:l5 aL<=12:=by have:=rQ (aL.getD (aL.length / 2) 0) (m:=12) aK;show AR.mpr this
 have hw:qK aL<=3:=by have:=rQ ((aL.getD (aL.length - 1) 0).fdiv (12:Nat)) (m:=3) bz;show AR.mpr this
 have ahj:∀(a:Nat) (b:Int) (x:Nat),x∈(aI (uE a b)).map (a+·)->x<13:=λa b x E=>by show bh (bG.mp E) λm hm dX=>dX▸?_;have hm:=dm.mp hm;unfold uE Rk at hm;split at hm<;>lia
 show dq 14 ((aI (uE (vO aL) (Ri aL c))).map (vO aL+·)) (λpic:List (LN)=>MJ aL c pic words kn (Ri aL c)) (BR (l5 aL) (uE (l5 aL) (qK aL))) (λ_ pic=>Sq pic) pic
  (BU hA B I Z Z (aq 20 Z) Z (vN (aq 20 Z) (aq 23 Z)) Z au hb1) (.refl _) hq (ao Z) (λst=>rfl) (λm i pic hn hq=>?_) (λ_=>rfl)
 show⟨Dv hq,?_⟩;show SS.cons (dq 15 ((aI (uE (l5 aL) (qK aL))).map (l5 aL+·)) (λpic:List (LN)=>MJ aL c pic words kn (Ri aL c)++[(14,0,aT i)]) (λpic j=>pA pic i j 1) (λ_ pic=>Sq pic) pic
  (BU hA B I Z Z (aq 21 Z) Z (vN (aq 21 Z) (aq 22 Z)) Z au fF) (.refl _) hq (ao Z) (λst=>rfl) (λm2 j alw FK hq2=>⟨tW hq2,SS.cons (S1.pA (x:=10) (ni:=i) (nj:=j) (v:=1) Z hq2 (aR 1) (aq 14 Z) Z (aq 15 Z) (ahj _ _ i (cW hn)) (ahj _ _ j (cW FK)) Z)<|SS.done<|ko.rf bD bD⟩) (λ_=>rfl))<|SS.done<|ko.rf bD bD
theorem aj2{words:LN}{hi:Int}(hh:dh A)(B:cA U mg mb)(I:dQ mg mb):
 S1 H U A iE J (bc cN 25) (MJ aL c pic words kn hi) (MJ aL c pic words kn hi++[(25,1,a7 (BS kn))]) ai:=by
 show S1.to (Ds (x:=4) (y:=25) (fs:=[24]) (ns:=aI 10) (λn=> !((kn.map aj).any (· ==aj n))) (λn=>n) B.top (.of (rfl)) Z
  (zr.itc (fQ hh B I Z (aR 10) Z bz)) bB (λn hn fV=>?_) (λn hn _ fV=>BO (aq 4 Z) Z) (λ_=>rfl) Z Z
  (λe=>qI (by rw[e];rfl) (by delta j8;rw[e];rfl) Z (rfl))) (by rw[Uk];rfl)
 show oZ.Wl (aq 4 Z) (aq 24 Z) (dS kn)
theorem Yy{β:Type}(f:α->β)(l:List α):∀(i:Nat),(l.map f).eraseIdx i=(l.eraseIdx i).map f:=by
 induction l with
 |nil=>intro _;rfl
 |cons x l iH=>
  intro yY;cases yY with
  |zero=>rfl
  |succ i=>simp[iH i]
theorem ab6{i:aw}{p' apos cpos:aY}(E:cq G x=O (1,a7 ns))(hi:V H U A L J G i (aT j) af)(hj:j<ns.length)(hl:ns.length<=1000)(qF:y≠x)(dH:cG i=af)(lA:(apos.endLine==cpos.line)=N)(hsy:bW G y=N)(hy:Hx L y):
 S1 H U A L J (fE [ar (NM y) p'] (bI (iJ (ar (NM x) p) (aC "pop") apos) [i] [] cpos) pos) G (jm (jm G x 1 (a7 (ns.eraseIdx j))) y 0 (aT (ns.getD j 0))) ai:=by
 have key:=abL (p:=p) (p':=p') (apos:=apos) (cpos:=cpos) (pos:=pos) (av:=aT (ns.getD j 0)) E (hU ns) hi (by rw[cY,kz (d:=0) hj];rfl) (eT jQ) qF dH lA hsy hy;rw[Yy]at key;show key
theorem ON{σ:Type}{py pt:aY}{ps:List (Nat×Nat)}(Γ:σ->ig)(upd:σ->Nat×Nat->σ)(P:Nat->σ->Prop)(s0:σ)(hh:dh A)(B:Tp U)(he:V H U A L J G iter (mI ps) N)(h0:ko (Γ s0) G)(hp0:P 0 s0)(E:∀z∈[x,y],Hx L z)(dH:∀st,∀z∈[x,y],bW (Γ st) z=N)(step:∀i p st,ps[i]? =O p->P i st->P (i+1) (upd st p)/\SS H U A L J body (jm (jm (Γ st) x 0 (aT p.1)) y 0 (aT p.2)) (Γ (upd st p)) ai)(hs:Fs iter J):
 S1 H U A L J (lh (il [ar (NM x) px,ar (NM y) py] k0 pt) iter body [] pos) G (Γ (ps.foldl upd s0)) ai:=by
 have key:=abR (px:=px) (py:=py) (pt:=pt) (k0:=k0) (pos:=pos) (body:=body) (x:=x) (y:=y) (λi=>Γ ((ps.take i).foldl upd s0)) hh B he (wg ps) h0 E (λi _=>dH _) (λi n hn=>?_) hs
 .rw [ip,sS]at key;show key
 .rw [cY]at hn;show bh (jc.mp hn) λm hm e=>A3 _ _ hm▸e▸(step i m _ hm (ael hp0 (λi n s a b=>(step i n s a b).1) i (gy (dR.mp hm).1))).2
theorem aj3{words free:LN}{hi:Int}(hh:dh A)(B:cA U mg mb)(I:dQ mg mb)(DT:0<aL.length)(FK:aL.length<=20)(hq:Sq pic)(hkc:kn.length<=c)(hc:c<=10)(ZM:(c - kn.length) / 2<=free.length)(ahk:free.length<=10)(hfb:∀x∈free,x<10):
 S1 H U A iE J (bc cN 26) (MJ aL c pic words kn hi++[(25,1,a7 free)])
  (MJ aL c ((aI ((c - kn.length) / 2)).foldl (pB aL) (free,pic)).2 words kn hi++[(25,1,a7 ((aI ((c - kn.length) / 2)).foldl (pB aL) (free,pic)).1)]) ai:=by
 show dq 26 (aI ((c - kn.length) / 2)) (λst:LN×List (LN)=>MJ aL c st.2 words kn hi++[(25,1,a7 st.1)]) (pB aL) (λi st=>st.1.length=free.length - i/\Sq st.2/\(∀x∈st.1,x<10)/\i<=(c - kn.length) / 2) (free,pic)
  (fQ hh B I Z (ME (lR (aq 3 Z) (kg B I Z (aq 24 Z) Z au) hkc) (aR 2) aK aK) Z au) (.refl _) (rO Z hq hfb (fg _)) (ao Z) (λst=>rfl) (λi turn st hn hp=>?_) (λ_=>rfl)
 show dG (dR.mp hn) λh1 h2=>?_;simp at h1 h2;show h2▸?_;obtain⟨fr,pc⟩:=st;show iM hp λp1 p2 p3 p4=>?_;simp only at p1 p2 p3;have hfl:0<fr.length:=by lia
 have Α:lu aL fr i<fr.length:=rQ _ hfl;have Q0:fr.getD (lu aL fr i) 0<10:=p3 _ (strs_getD_mem Α);show⟨(rO ?_ (OL p2) (λx E=>p3 x (T2 E)) (by assumption)),?_⟩
 .change (fr.eraseIdx (lu aL fr i)).length=_;rw[T6,if_pos Α];lia
 generalize hpp:fr.getD (lu aL fr i) 0=place at *;show SS.cons (bE 27 (a9 (yP aL i)) (BK (aq 1 Z) (yJ (fk (aq 26 Z) (aR 1)) (BL B I Z (aq 1 Z) Z au) DT) (mZ _ DT) au Z) Z Z (ao Z) Z)
  (SS.cons (S1.to (G1:=MJ aL c pc words kn hi++[(25,1,a7 (fr.eraseIdx (lu aL fr i))),(26,0,aT i),(27,0,a9 (yP aL i)),(4,0,aT place)]) (ab6 (x:=25) (y:=4) (ns:=fr) (j:=lu aL fr i) Z
   (tU (vN (MI (aq 27 Z) (aR 2) aK aK) (lS (aR 3) (aq 26 Z) bz)) (kg B I Z (aq 25 Z) Z au) hfl) Α au (uf Z) Z Z Z (ao Z)) (by rw[hpp];rfl))
  (SS.cons (bE 28 (aT (tX aL i)) (fk (aR 1) (tU (vN (aq 27 Z) (lS (aR 29) (aq 26 Z) bz)) (aR 255) bz)) Z Z (ao Z) Z)
  (SS.cons (dq 29 (aI 8) (λpc2:List (LN)=>MJ aL c pc2 words kn hi++[(25,1,a7 (fr.eraseIdx (lu aL fr i))),(26,0,aT i),(27,0,a9 (yP aL i)),(4,0,aT place),(28,0,aT (tX aL i))]) (qL place (tX aL i)) (λ_ pc2=>Sq pc2) pc
   (fQ hh B I Z (aR 8) Z bz) (.refl _) p2 (ao Z) (λst=>rfl) (λk back pc2 hk hq2=>?_) (λ_=>rfl)) (SS.done ?_))))
 .have hb8:back<8:=dm.mp (cW hk);have ahl:8 * place+back<80:=by lia
  obtain⟨s1,s2⟩:=OK _ ahl;show⟨tW hq2,?_⟩;show SS.cons (S1.to (G1:=MJ aL c pc2 words kn hi++[(25,1,a7 (fr.eraseIdx (lu aL fr i))),(26,0,aT i),(27,0,a9 (yP aL i)),(4,0,aT place),(28,0,aT (tX aL i)),(29,0,aT back),(14,0,aT (jg.getD (8 * place+back) (0,0)).1),(15,0,aT (jg.getD (8 * place+back) (0,0)).2)])
   (Wu (x:=14) (y:=15) (p:=(aj (jg.getD (8 * place+back) (0,0)).1,aj (jg.getD (8 * place+back) (0,0)).2)) hh
    (Rj (aq 11 Z) (fk (lS (aR 8) (aq 4 Z) bz) (aq 29 Z)) (ahl) bz Z)
    aK (λz hz=>by simp at hz;rcases hz with rfl|rfl<;>rfl) Z Z) Z)
   <|SS.cons (S1.pA (x:=10) (pic:=pc2) (v:=iW pc2 (jg.getD (8 * place+back) (0,0)) ^^^ (tX aL i / 2 ^ (7 - back) % 2)) Z hq2
    (nu (fj (Jh (aq 10 Z) (aq 14 Z) (by rw[hq2.1];show s1) (by rw[hq2.1];decide) Z) (aq 15 Z) (by rw[hq2.2 _ s1];show s2) (by rw[hq2.2 _ s1];decide) Z)
     (WG (aq 28 Z) (aq 29 Z) hb8)) (aq 14 Z) Z (aq 15 Z) s1 s2 Z)<|SS.done<|ko.rf bD bD
 .delta pB
  rw[hpp];show ko.rf bD bD
def sv(aL:List Int)(c:Nat)(pic:List (LN)):List (LN):=
 ((aI ((c - (yO aL c).length) / 2)).foldl (pB aL) (BS (yO aL c),zT aL c pic)).2
def n6(pic:List (LN)):LN:=(aI 10).map (GU pic)
theorem CL(h:Sq pic):Sq (zT aL c pic):=by
 have:∀(l:LN) (pic:List (LN)),Sq pic->Sq (l.foldl (BR (l5 aL) (uE (l5 aL) (qK aL))) pic):=by
  intro l;induction l with
  |nil=>intro pic h;show h
  |cons x l ih=>intro pic h;show ih _ (Dv h)
 show this _ _ h
theorem ab7(l:LN):∀(st:LN×List (LN)),Sq st.2->Sq (l.foldl (pB aL) st).2:=by
 induction l with
 |nil=>intro _ h;show h
 |cons x l iH=>intro st h;show iH (pB aL st x) (OL h)
theorem ab8(h:Sq pic):Sq (sv aL c pic):=ab7 _ _ (CL h)
theorem WI(aL:List Int):∀i,∀x∈GS aL i,x<10:=by
 intro xX;induction xX with
 |zero=>intro x h;show dm.mp h
 |succ i iH=>intro x h;show dm.mp (gq.mp h).1
def gL6(c:Nat)(pic:List (LN))(words kn:LN):ig:=[(3,0,aT c),(10,1,zt pic),(11,0,mI jg),(17,0,a7 words),(24,0,a7 kn)]
theorem aj4{words:LN}(hh:dh A)(B:cA U mg mb)(I:dQ mg mb)(hq:Sq pic):
 S1 H U A iE J (bc cN 28) (gL6 c pic words kn++[(30,1,a7 [])]) (gL6 c pic words kn++[(30,1,a7 (n6 pic))]) ai:=by
 show S1.to (dq 4 (aI 10) (λl:LN=>gL6 c pic words kn++[(30,1,a7 l)]) (λl p=>l++[GU pic p]) (λi l=>l.length=i/\i<=10) []
  (fQ hh B I Z (aR 10) Z bz) (.refl _) ⟨rfl,fg _⟩ (ao Z) (λst=>rfl) (λi p l hn hp=>?_) (λ_=>rfl)) ?_
 .show dG (dR.mp hn) λh1 h2=>?_;simp at h1 h2;subst h2;show⟨⟨by simp[hp.1],by assumption⟩,?_⟩;show SS.cons (bE 7 (aT 0) (aR 0) Z Z (aH Z) Z)
   (SS.cons (ON (x:=14) (y:=15) (ps:=(jg.drop (8 * i)).take (8 * i+8 - 8 * i)) (λwd:Nat=>gL6 c pic words kn++[(30,1,a7 l),(4,0,aT i),(7,0,aT wd)]) (λwd p=>2 * wd+iW pic p) (λ_ _=>True) 0 hh B.top
    (OI (k:=8 * i) (m:=8 * i+8) B.top (aq 11 Z) (lS (aR 8) (aq 4 Z) aK) (fk (lS (aR 8) (aq 4 Z) aK) (aR 8)) bz au (by rw[pX];lia))
    (.refl _) trivial aK (λst z hz=>by simp at hz;rcases hz with rfl|rfl<;>rfl) (λk q wd hk _=>⟨trivial,?_⟩) (λ_=>rfl))
   (SS.cons (yM 30 (GU pic i) Z (V.to (aq 7 Z) (by rw[(by lia:8 * i+8 - 8 * i=8)];rfl)) Z Z au) (SS.done (ko.rf bD bD))))
  have ab9:q.1<13/\q.2<13:=by have hm:q∈jg:=ro (AG (cW hk));show dG (Kx.mp hm) λm hm=>?_;have:=OK m ((dR.mp hm).1);have this:=hm▸da▸this;show this
  show SS.cons (bE 7 (aT (2 * wd+iW pic q)) (fk (lS (aR 2) (aq 7 Z) bz)
   (fj (Jh (aq 10 Z) (aq 14 Z) (hq.1▸ab9.1) (by show hq.1.symm▸?_;decide) Z) (aq 15 Z) ((hq.2 _ ab9.1)▸ab9.2) (by show(hq.2 _ ab9.1).symm▸?_;decide) Z)) Z Z (aH Z) Z) (SS.done ?_)
  show ko.rf bD bD
 .rw [BF];rfl
theorem aca{a b:aw}{ns ms:List Int}(hA:Z5 k A)(hk:4<=k)(nO:∀b∈H,b∈τ')(ha:EVm H τ' U A L J G a (bV K) af)(D:V τ' U A L J G b (bV ys) af)(h1:jf K=O ns)(h2:jf ys=O ms):EVm H τ' U A L J G (j0 a [Bh] [b] pos) (fG (decide (ns=ms))) fr:=λs r=>by show wpAny_Compare1 ((ha r).tN λv aD F1 e1 V1 _=>(D ((r.up nO).ext e1.ext)).tN λu aQ F2 e2 V2 _=>?_) (r8 .eq b);show T.Dj (Gd hA hk (V1.ext e2.ext) V2 h1 h2).1 (oY [] (e1.trans e2) (.ofBool _) d9)
def MFn(U:aN)(mg:aP->Option aa)(a:ab)(fd:bQ)(cM:ab):Prop:=
 mg (aC "_law_mended")=O (R a)/\
 FnAt U a fd/\
 fd.params=fo ZZ/\
 fd.body=lj dy/\
 fd.scope=lH/\
 fd.closure=[]/\
 fd.globals=ef/\
 fd.builtins=fY/\
 fd.defaults=aA/\
 fd.qualname=aC "_law_mended" /\
 fd.code=R cM/\
 cM∉bY/\
 U.IsCode cM 2007 #[]/\
 U.TableAt cM 2007 #[]
theorem OO(fd:bQ)(hp:fd.params=fo ZZ)(hd:fd.defaults=aA)(vs:List aa)(hl:vs.length=[17,3,24].length):du fd ⟨vs,[]⟩=pure (([17,3,24].map NM).zip vs):=by
 apply abz hl;intro a b c
 delta du
 show hp.symm▸hd.symm▸?_;rfl
theorem Yz{k1 k2 k3:Nat}{cM:ab}{p1 p2 p3:aY}{x1 x2 x3:Nat}(hA:Z5 10 A)(B:cA U mg mb)(I:dQ mg mb)(M:MFn U mg a fd cM)(kO:Gi L "_law_mended")(hx1:cq G x1=O (k1,a7 ws))(hx2:cq G x2=O (k2,aT c))(hx3:cq G x3=O (k3,a7 kn))(WD:ws.length<=50)(hws:∀x∈ws,x<256)(hc:c<=50)(hkn:∀x∈kn,x<ws.length)(hkc:kn.length<=c)(qP:(jR (cH ws.length) (ux (kQ (cH ws.length) (fR ws c) kn)).now ws.length).length=(ux (kQ (cH ws.length) (fR ws c) kn)).size)(pg:2007∉H)(ku:2007∈τ')(nO:∀b∈H,b∈τ'):
 EVm H τ' U A L J G (bI (ar (aC "_law_mended") np) [ar (NM x1) p1,ar (NM x2) p2,ar (NM x3) p3] [] pos) (a7 (vK ws c kn)) af:=by
 show dU M λM1 M2 M3 M4 M5 M6 M7 afa=>je afa λM8 M9 M10 M11 ahm=>hx ahm λM12 M13 M14=>?_;have hd:=hA.depth;show Q3 (K:=[17,3,24]) (avs:=[a7 ws,aT c,a7 kn]) (G':=[]) (fd:=fd) (body:=dy) B M1 kO (rfl) M2 M4 M6 (by rw[M5];rfl) (by rw[M5];rfl) (λvs hl=>OO fd M3 M9 vs hl) (by rw[M5];rfl) M7 M8 aK Z
  (by show M5.symm▸?_;decide) (KQ hd) (fJ.cons (aq x1 hx1) (fJ.cons (aq x2 hx2) (fJ.cons (aq x3 hx3) fJ.nil Z) Z) Z) Z (λbw=>?_) (λq=>Ip q) nO
 show M5.symm▸OD (cM:=cM) (P:=2007) hA.hd ?_ B I WD hws hc hkn hkc qP ?_ M11 M12 M13 M14 (nme Z) pg ku nO
 .change A.depth+1<1000;lia
 .change fd.qualname++ ".<locals>." =Z0;show M10.symm▸?_;rfl
def Β(aL:List Int)(c:Nat)(pic:List (LN))(sent:LN):Bool:=decide ((vK (n6 (sv aL c pic)) c (yO aL c)).map aj=(zR sent).map aj)
theorem afb{DU:List Int}{data bits sent:LN}{cM:ab}(hA:Z5 10 A)(B:cA U mg mb)(I:dQ mg mb)(M:MFn U mg a fd cM)(DT:0<aL.length)(FK:aL.length<=20)(hc:c<=10)(WH:sent.length=80)(hbl:bits.length<=80)(ht:sent.take bits.length=bits)(hq:Sq pic)(ZM:(c - (yO aL c).length) / 2<=(BS (yO aL c)).length)(wb:∀x∈n6 (sv aL c pic),x<256)(qP:(jR (cH 10) (ux (kQ (cH 10) (fR (n6 (sv aL c pic)) c) (yO aL c))).now 10).length=(ux (kQ (cH 10) (fR (n6 (sv aL c pic)) c) (yO aL c))).size)(pg:2007∉H)(ku:2007∈τ')(nO:∀b∈H,b∈τ'):
 pM H τ' U A iE J [bc cN 14,bc cN 15,bc cN 16,bc cN 17,bc cN 18,bc cN 19,bc cN 20,bc cN 21,bc cN 22,bc cN 23,bc cN 24,bc cN 25,bc cN 26,bc cN 27,bc cN 28,bc cN 29]
  (gL3 DU aL c data bits pic sent) [] (O (fG (Β aL c pic sent))):=by
 have hh:=hA.hd;have r9:(n6 (sv aL c pic)).length=10:=by rfl
 have hkl:=(zS aL c).1;have ahk:(BS (yO aL c)).length<=10:=by show ba (AE _ _) ?_;ext
 show pM.cons (S1.m (ajY hA B I WH hbl ht))<|pM.cons (S1.m (gb 17 (a7 []) (o4 B.top fJ.nil Z Z) Z Z (ao Z) Z))<|pM.cons (S1.m (ajZ hh B I WH))<|pM.share 17<|aj0 (rest:=[bc cN 24,bc cN 25,bc cN 26,bc cN 27,bc cN 28,bc cN 29]) hh B I DT FK<|pM.cons (S1.m (aj1 hA B I hq))<|pM.cons (S1.m (aj2 hh B I))<|pM.cons (S1.m (aj3 hh B I DT FK (CL hq) hkl hc ZM ahk (λx E=>dm.mp (gq.mp E).1)))<|pM.less (G0:=gL6 c (sv aL c pic) (zR sent) (yO aL c)) ?_ (ko.rf bD bD);show pM.cons (S1.m (gb 30 (a7 []) (o4 B.top fJ.nil Z Z) Z Z (ao Z) Z))<|pM.cons (S1.m (aj4 hh B I (ab8 hq)))<|ο<|S1m.ret nO<|aca hA bz nO (Yz (x1:=30) (x2:=3) (x3:=24) hA B I M Z Z Z Z (by rw[r9];decide) wb au (by show r9.symm▸?_;show(WI aL _)) hkl (r9▸qP) pg ku nO) (aq 17 Z) (dS _) (dS _)
noncomputable def BV:List String:=["bytearray.__contains__", "bytearray.__mod__", "bytearray.__rmod__", "_struct.pack_into.held", "bytearray.find.held"]++LJ
noncomputable def n9:iZ->Bool
 |fM id _=> !BV.contains id
 |_=>N
def Cl(Γ:Ctx):Prop:=n9 Γ.code=N/\∀x∈Γ.below,n9 x.1=N
def C{α:Type}(A:ck)(t:aE α)(s:ae)(Q:α->ae->Prop):Prop:=
 ∀⦃Γ:Ctx⦄ ⦃p:aY⦄,Γ.In A->Cl Γ->Sem.wp (aG prog w) Γ t (λa _ Y=>Q a Y) (λ_ _ _=>False) p s
def CC(A:ck)(c:iZ)(s:ae)(aM:sL->ae->Prop):Prop:=
 ∀⦃Γ:Ctx⦄ ⦃p:aY⦄,Γ.code=c->Γ.Below A->(∀x∈Γ.below,n9 x.1=N)->wpCode (aG prog w) Γ aM p s
section
variable{β:Type}
theorem T.wc{t:aE α}{P:α->ae->Prop}(x:T A t s P):C A t s P:=λΓ p h _=> @x Γ p h
theorem C.mono{t:aE α}{P Q:α->ae->Prop}(x:C A t s P)(h:∀a Y,P a Y->Q a Y):C A t s Q:=λΓ p wh hc=>
 tx (aG prog w) Γ t (λa _ Y=>h a Y) (λ_ _ _ f=>f) p s (@x Γ p wh hc)
theorem T.wx{t:aE α}{P Q:α->ae->Prop}(x:T A t s P)(h:∀a Y,P a Y->Q a Y):C A t s Q:=x.wc.mono h
theorem T.wW{t:aE α}{v₀:α}{Q:α->ae->Prop}(x:T A t s λv Y=>Y=aJ/\v=v₀)(k:Q v₀ aJ):C A t s Q:=x.wx λ_ _ q=>q.1▸q.2▸k
theorem T.wcV{t:aE α}{gh:α->β->Prop}{Q:α->ae->Prop}(x:T A t s λv Y=>Y=aJ/\∃F,gh v F)(k:∀v F,gh v F->Q v aJ):C A t s Q:=x.wx λv _ qQ=>Mk qQ λe F y=>e▸k v F y
theorem T.wcE{t:aE aa}(h:T A t s (EP H aJ av fr))(k:∀v Y F,dz H aJ Y->bR Y.heap av v F->(fr=N->(∀b∈F,aJ.heap.get? b=ai)/\F.Nodup)->Q v Y):C A t s Q:=T.wc (h.tN k)
theorem ahn{t:aE (List aa)}{Q:List aa->ae->Prop}(h:T A t s (EPs H aJ avs))(k:∀v Y F,dz H aJ Y->bC Y.heap avs v F->Q v Y):C A t s Q:=T.wc (h.QM k)
theorem T.wcI{t:aE aa}{i:Int}(h:T A t s (EP H aJ (a9 i) fr))(k:∀t Y,dz H aJ Y->Q (ah i t) Y):C A t s Q:=T.wc (h.Cx k)
theorem WJ{t:aE aa}{u:aa}(h:T A t s (EP H aJ (aX u) fr))(k:∀Y,dz H aJ Y->Q u Y):C A t s Q:=T.wc (h.Z7 k)
theorem T.wc2{t:aE α}{X gh Q:α->ae->Prop}(h:T A t s λv Y=>X v Y/\gh v Y)(k:∀v Y,X v Y->gh v Y->Q v Y):C A t s Q:=T.wc (h.Cu k)
theorem C.bind{m:aE α}{f:α->aE β}{Q:β->ae->Prop}(x:C A m s (λa Y=>C A (f a) Y Q)):C A (m>>=f) s Q:=λΓ p wh hc=>by rw[VC];show tx (aG prog w) Γ m (λa p' Y h'=> @h' Γ p' wh hc) (λ_ _ _ h'=>h') p s (@x Γ p wh hc)
theorem C.pure{a:α}{Q:α->ae->Prop}(h:Q a s):C A (Pure.pure a) s Q:=λ_ _ _ _=>h
theorem C.holding{m:aE α}{Q:α->ae->Prop}(h:C A m s Q):C A (TK vs m) s Q:=λΓ p wh hc=>by rw[Sem.wp_holding];show @h Γ p wh hc
theorem C.standAt{Q:Unit->ae->Prop}(h:Q () s):C A (TL pos) s Q:=λ_ _ _ _=>h
theorem cR{t:aE α}{P:α->ae->Prop}(x:ax (aG prog w) A t P NoE s):C A t s P:=T.wc x
theorem lC{m:aE α}{f:α->aE β}{Q:β->ae->Prop}(x:ax (aG prog w) A m (λa Y=>C A (f a) Y Q) NoE s):C A (m>>=f) s Q:=C.bind (cR x)
theorem nQ{f:Unit->aE β}{Q:β->ae->Prop}(h:C A (f ()) s Q):C A (TL pos>>=f) s Q:=C.bind (C.standAt h)
theorem lI{m:aE α}{f:α->aE β}{Q:β->ae->Prop}(x:C A m s (λa Y=>C A (f a) Y Q)):C A (TK vs m>>=f) s Q:=C.bind (C.holding x)
theorem C.point{Q:Unit->ae->Prop}(h:Q () s):C A PySem.point s Q:=λ_ _ _ _=>h
theorem C.rule{tag:String}{Q:Unit->ae->Prop}(h:Q () s):C A (PySem.rule tag) s Q:=λ_ _ _ _=>h
theorem C.eq{t:aE α}{a:α}{Q:α->ae->Prop}(e:t=Pure.pure a)(h:Q a s):C A t s Q:=by subst e;show .pure h
theorem C.release{a b:List aa}{Q:Unit->ae->Prop}(h:Q () s):C A (PySem.release a b) s Q:=λΓ p _ _=>by rw[Sem.wp_release];show h
theorem C.bindName{x:aP}{Q:Unit->ae->Prop}(h:C A (Aq J x v) s Q):C A (PySem.bindName J x v) s Q:=λΓ p wh hc=>by rw[Sem.wp_bindName];show @h Γ p wh hc
theorem C.onRaise{m:aE α}{k:aa->aE Unit}{Q:α->ae->Prop}(h:C A m s Q):C A (m.onRaise k) s Q:=λΓ p wh hc=>by rw[Sem.wp_onRaise];show tx (aG prog w) Γ m (λ_ _ _ h'=>h') (λ_ _ _ h'=>h'.elim) p s (@h Γ p wh hc)
theorem BW{m:aE α}{k:aa->aE α}{Q:α->ae->Prop}(h:C A m s Q):C A (m.tryCatch k) s Q:=λΓ p wh hc=>by rw[Sem.wp_tryCatch];show tx (aG prog w) Γ m (λ_ _ _ h'=>h') (λ_ _ _ h'=>h'.elim) p s (@h Γ p wh hc)
theorem C.attempt{m:aE α}{Q:Except aa α->ae->Prop}(h:C A m s (λa=>Q (cf a))):C A m.attempt s Q:=λΓ p wh hc=>by rw[Sem.wp_attempt];show tx (aG prog w) Γ m (λ_ _ _ h'=>h') (λ_ _ _ h'=>h'.elim) p s (@h Γ p wh hc)
theorem CC.mono{c:iZ}{R':sL->ae->Prop}(x:CC A c s aM)(h:∀r Y,aM r Y->R' r Y):CC A c s R':=λΓ p h1 h2 h3=>eQ (@x Γ p h1 h2 h3) λr Y a b=>kI r Y a (h r Y b)
theorem Rl{c:iZ}(x:oE (aG prog w) A c aM s):CC A c s aM:=λΓ p h1 h2 _=>x Γ p h1 h2
theorem Cl.enter{Γ:Ctx}(h:Cl Γ)(c:iZ)(hd:Option aa)(p:aY):∀x∈(Γ.enter c hd p).below,n9 x.1=N:=λx E=>bf (bu.mp E) (λa1=>a1▸h.1) λE=>h.2 x E
theorem C.run{c:iZ}{Q:b8->ae->Prop}(hc:CC (A.mark ai) c s (λr Y=>match r with|cf f=>Q f Y|kY _=>False)):
 C A (PySem.run c ai) s Q:=λΓ p wh jB=>by
 have:= @hc _ p Z (wh.enter c ai p λx=>Bk x) (jB.enter c ai p);show eQ this λr Y a b=>((kI r Y a ?_));cases r with
 |ok f=>show b
 |error e=>show b
theorem C.runValue{c:iZ}(hc:CC A c s (λr Y=>match r with|cf (cL v)=>Q v Y |_=>False)):C A (PySem.runValue c) s Q:=λΓ p wh jB=>by
 rw[Sem.wp_runValue];show eQ (@hc _ p Z (wh.enter c ai p (by intro x;ext)) (jB.enter c ai p)) λr Y a b=>((kI r Y a ?_));cases r with
 |ok f=>cases f<;>show b
 |error e=>show b
theorem C.call{f:aa}{pos:List aa}{kw:List (aP×aa)}(hc:CC A (m8 f ⟨pos,kw⟩) s (λr Y=>match r with|cf (cL v)=>Q v Y |_=>False)):
 C A (Em f pos kw) s Q:=C.runValue hc
def OP(A:ck)(aM:sL->ae->Prop)(zb:Fin)(Y:ae):Prop:=match zb with
 |nr f=>aM (cf f) Y
 |yD c'=>c'.quiet=N/\CC A c' Y aM
theorem jn{c:iZ}(jB:n9 c=N)(h:C (A.under c) ((aG prog w).den c) s (OP A aM)):CC A c s aM:=λΓ p hc wh D=>by
 rw[wpCode_iff_wp,hc];show tx (aG prog w) Γ _ (λzb p' Y h'=>?_) (λ_ _ _ h'=>h'.elim) p s (@h Γ p (hc▸wh.in) ⟨hc▸jB,D⟩);cases zb with
 |done f=>show h'
 |again c'=>show⟨h'.1,@h'.2 (Γ.goto c') p' Z (wh.goto c') D⟩
theorem C.stack{Q:List (iZ×aY)->ae->Prop}(h:∀st:List (iZ×aY),(∀x∈st,n9 x.1=N)->Q st s):C A PySem.stack s Q:=λΓ p wh jB=>by
 show h _ λx E=>?_;rcases bu.mp E with rfl|E
 .show jB.1
 .show jB.2 x E
theorem C.exported{Q:Bool->ae->Prop}(h:Q af s):C A (LL v) s Q:=by
 show C.bind (C.stack λst dH=>C.pure ?_);have hq:∀f:iZ×aY->Bool,(∀x∈st,f x=af)->Q (st.any f) s:=λf hf=>by rw[List.any_eq_false.mpr λx E=>by rw[hf x E];decide];show h
 show hq _ λx E=>?_;have hc:=dH x E;obtain⟨c,p⟩:=x;cases c with
 |builtin id args=>
  have h1:∀d∈BV,¬id=d:=λd hd e=>by subst e;have:BV.contains id=N:=ED.mpr hd;have this:=(mn ((λ{x y}=>Bool.not_inj_iff.mp) (_root_.id (mn hc))):BV.contains id=af).symm.trans this;ext
  have h6:LJ.contains id=af:=by
   cases q:LJ.contains id with
   |false=>rfl
   |true=>show absurd Z (h1 id (ew _ (ED.mp q)))
  delta LL.match_1
  show(dif_neg (h1 _ aK)).trans ((dif_neg (h1 _ aK)).trans ((dif_neg (h1 _ aK)).trans ((dif_neg (h1 _ aK)).trans ((dif_neg (h1 _ aK)).trans ?_))));obtain⟨pos,kw⟩:=args;cases pos with
  |nil=>rfl
  |cons a l=>show(congrArg _ h6).trans (UI _)
 |_=>rfl
end
theorem jD:lL "bytearray" "__getitem__" "bytearray.__getitem__" :=
 nt (owner:= "bytearray") (n:= "__getitem__") (rfl) (rfl) (rfl) (rfl)
  (by first|show ao (rfl)|show .inr (rfl)) (rfl)
theorem ny:lL "bytearray" "__setitem__" "bytearray.__setitem__" :=
 nt (owner:= "bytearray") (n:= "__setitem__") (rfl) (rfl) (rfl) (rfl)
  (by first|show ao (rfl)|show .inr (rfl)) (rfl)
theorem wX:lL "bytearray" "__len__" "bytearray.__len__" :=
 nt (owner:= "bytearray") (n:= "__len__") (rfl) (rfl) (rfl) (rfl)
  (by first|show ao (rfl)|show .inr (rfl)) (rfl)
theorem BX:lL "bytearray" "__iter__" "bytearray.__iter__" :=
 nt (owner:= "bytearray") (n:= "__iter__") (rfl) (rfl) (rfl) (rfl)
  (by first|show ao (rfl)|show .inr (rfl)) (rfl)
theorem MM:lL "bytearray" "__init__" "bytearray.__init__" :=
 nt (owner:= "bytearray") (n:= "__init__") (rfl) (rfl) (rfl) (rfl)
  (by first|show ao (rfl)|show .inr (rfl)) (rfl)
theorem pC:lL "bytearray" "extend" "bytearray.extend" :=
 nt (owner:= "bytearray") (n:= "extend") (rfl) (rfl) (rfl) (rfl)
  (by first|show ao (rfl)|show aH (rfl)) (rfl)
theorem uF:gN table "bytearray.__getitem__" =O Builtin.«bytearray.__getitem__»:=me (rfl)
theorem uG:gN table "bytearray.__setitem__" =O Builtin.«bytearray.__setitem__»:=me (rfl)
theorem MN:gN table "bytearray.__len__" =O Builtin.«bytearray.__len__»:=me (rfl)
theorem zu:gN table "bytearray.__init__" =O Builtin.«bytearray.__init__»:=me (rfl)
theorem wi:gN table "bytearray.extend" =O Builtin.«bytearray.extend»:=me (rfl)
theorem Rm:gN table "bytearray.__new__" =O Builtin.«list.__new__»/\gN table "bytearray_iterator.__iter__" =O Builtin.«dict_keyiterator.__iter__»/\gN table "map.__iter__" =O Builtin.«dict_keyiterator.__iter__»:=⟨JZ (id':= "list.__new__") ((xH _).trans bD) aK bD ((xH _).trans bD),JZ (id':= "dict_keyiterator.__iter__") ((xH _).trans bD) aK bD ((xH _).trans bD),JZ (id':= "dict_keyiterator.__iter__") ((xH _).trans bD) aK bD ((xH _).trans bD)⟩
theorem gu:(∀a b:aa,jY "bytearray.__getitem__" ⟨[a,b],[]⟩)/\(∀a b c:aa,jY "bytearray.__setitem__" ⟨[a,b,c],[]⟩)/\(∀a:aa,jY "bytearray.__len__" ⟨[a],[]⟩)/\(∀a b:aa,jY "bytearray.__init__" ⟨[a,b],[]⟩)/\(∀a b:aa,jY "bytearray.extend" ⟨[a,b],[]⟩)/\(∀a:aa,xJ "bytearray" ⟨[a],[]⟩=pure ())/\(∀a:aa,sE "bytearray.__new__" ⟨[ak "bytearray",a],[]⟩=pure ())/\(∀a:aa,jY "bytearray.__iter__" ⟨[a],[]⟩)/\(∀a:aa,jY "bytearray_iterator.__next__" ⟨[a],[]⟩)/\(∀a:aa,jY "bytearray_iterator.__iter__" ⟨[a],[]⟩)/\(∀a b:aa,xJ "int" ⟨[a,b],[]⟩=pure ())/\(∀a b:aa,sE "int.__new__" ⟨[ak "int",a,b],[]⟩=pure ())/\(∀a b c:aa,jY "object.__init__" ⟨[a,b,c],[]⟩)/\(∀a b:aa,xJ "map" ⟨[a,b],[]⟩=pure ())/\(∀a b:aa,sE "map.__new__" ⟨[ak "map",a,b],[]⟩=pure ())/\(∀a:aa,jY "map.__next__" ⟨[a],[]⟩)/\(∀a:aa,jY "map.__iter__" ⟨[a],[]⟩)/\(∀a b c:aa,jY "method_descriptor.__get__" ⟨[a,b,c],[]⟩):=⟨λ_ _=>by ext,λ_ _ _=>by ext,λ_=>by ext,λ_ _=>by ext,λ_ _=>by ext,λ_=>by ext,λ_=>by ext,λ_=>by ext,λ_=>by ext,λ_=>by ext,λ_ _=>by ext,λ_ _=>by ext,λ_ _ _=>by ext,λ_ _=>by ext,λ_ _=>by ext,λ_=>by ext,λ_=>by ext,λ_ _ _=>by ext⟩
noncomputable def pO(b:Array UInt8):bj:={cls:=ak "bytearray",dict:=ai,data:=qo b 0,slots:=#[]}
theorem fm(ho:s.heap.get? a=O (pO b)):s.TypeIs (R a) "bytearray" :=ct _ ho Z
theorem Rn{k:Int}(h0: -(2 ^ 62)<=k)(h1:k<2 ^ 62):Vb k=N:=by
 delta Vb
 simp;lia
theorem kS{Q:Array UInt8->ae->Prop}(ho:s.heap.get? a=O (pO b))(h:Q b s):ax M A (yx (R a)) Q a6 s:=
 ag (ag (iX ho (aB (aB h))))
theorem sub_int{prog:u5}{w:fz}{k:Int}{t:aW}{Q:Option Int->ae->Prop}(h0: -(2 ^ 62)<=k)(h1:k<2 ^ 62)(h:Q (O k) s):ax (aG prog w) A (yw (ah k t)) Q a6 s:=by
 delta yw
 show ag (eH (T:= "int") (xO _ _ _) Fn.lookup (ag (fK (a:=k) Z ?_)));rw[Rn h0 h1];show aB h
theorem OQ(a:ab)(b:Array UInt8)(k:Int)(t:aW)(j:Nat)(x:UInt8)(h0: -(2 ^ 62)<=k)(h1:k<2 ^ 62)(hj:rg k b.size=O j)(E:b[j]? =O x):
 rj (Builtin.«bytearray.__getitem__» ⟨[R a,ah k t],[]⟩) (λ_ aM s=>s.heap.get? a=O {cls:=ak "bytearray",dict:=ai,data:=qo b 0,slots:=#[]}/\aM (cf (cL (ah (x.toNat:Int) s.toks))) {s with toks:=s.toks+1}):=
 rN λprog w A aM s h=>by show(?_:ax _ _ (yw (ah k t)>>=λr=>_) _ _ s);show ag (sub_int h0 h1 ?_);show(?_:ax _ _ (yx (R a)>>=λr=>_) _ _ s);show ag (kS h.1 ?_);rw[hj,Option.bind_some,E];show ag (Kb (aB (ct _ Z h.2)))
theorem acb(b:Array UInt8){f:Array UInt8->Array UInt8}(h:(f b).size<=1000000):(jM f {cls:=ak "bytearray",data:=qo b}).data.pastItsLine=ai:=by
 delta jM Data.pastItsLine
 simp;lia
theorem mD{f:Array UInt8->Array UInt8}{Q:Unit->ae->Prop}(ho:s.heap.get? a=O (pO b))(dM:(f b).size<=1000000)(h:Q () {s with heap:=s.heap.update a (jM f)}):ax M A (yz (R a) f) Q a6 s:=by show ag<|iX ho<|ag (wpAny_update ho (ag (wpAny_loadPart (gO _ ho Z) ?_)));have:=acb b dM;show(show((jM f (pO b)).data.pastItsLine)=ai from this).symm▸aB h
theorem OS(a:ab)(b:Array UInt8)(k:Int)(t:aW)(v:Nat)(u:aW)(j:Nat)(h0: -(2 ^ 62)<=k)(h1:k<2 ^ 62)(hj:rg k b.size=O j)(hv:v<256)(D:b.size<=1000):rj (Builtin.«bytearray.__setitem__» ⟨[R a,ah k t,ah (aj v) u],[]⟩) (λ_ aM s=>s.heap.get? a=O {cls:=ak "bytearray",dict:=ai,data:=qo b 0,slots:=#[]}/\aM (cf (cL aA)) {s with heap:=s.heap.update a (jM λb=>b.setIfInBounds j v.toUInt8)}):=
 rN λprog w A aM s h=>by
  show(?_:ax _ _ (yw (ah k t)>>=λr=>_) _ _ s);show ag (sub_int h0 h1 ?_);show(?_:ax _ _ (Vc (ah (aj v) u)>>=λr=>_) _ _ s);show ag ?_
  delta Vc
  show ag (fK (a:=aj v) Z ?_);rw[(by simp;show Ex.mp hv:(decide (aj v<0) ||decide (aj v>=256))=af)];show aB (ag (kS h.1 ?_));rw[hj];show ag (mD h.1 (by rw[Array.size_setIfInBounds];show ba D bz) (aB (ct _ Z h.2)))
theorem acd(a:ab)(b:Array UInt8):
 rj (Builtin.«bytearray.__len__» ⟨[R a],[]⟩) (λ_ aM s=>s.heap.get? a=O {cls:=ak "bytearray",dict:=ai,data:=qo b 0,slots:=#[]}/\aM (cf (cL (ah (b.size:Int) s.toks))) {s with toks:=s.toks+1}):=
 rN λprog w A aM s h=>by obtain⟨hp,g,d,tk,os⟩:=s;show eX h λhl h=>?_;wp_walk;show ct _ Z h
theorem aen(k:Int)(t:aW):asIndex (ah k t)=pure k:=rfl
theorem MO(k m:Nat)(n:Nat):J9 (dN (k:Int)) (dN (m:Int)) aA n=pure ((min (k:Int) n),(min (m:Int) n),1):=by
 delta J9 dN
 have h1:¬((k:Int)<0):=by lia
 have h2:¬((m:Int)<0):=by lia
 simp[aen,h1,h2,(by lia:max 0 (min (k:Int) n)=min (k:Int) n),(by lia:max 0 (min (m:Int) n)=min (m:Int) n)]
theorem WK{p:Option Int}(hp:u6 v p)(h:Q (xU p) s):ax M A (do
 if v==aA then return aA
 if(<-rh v "__index__").isNone then
  sO "bytes.slice.part-no-index";raiseError "TypeError" "slice indices must be integers or None or have an __index__ method"
 return dN (<-asIndex v):aE aa) Q a6 s:=by
 cases hp with
 |none=>show fK (a:=aA) Z h
 |int i t=>show ag (eH (T:= "int") (xO _ _ _) Fn.lookup (ag (fK Z (aB h))))
theorem GV{sl:ab}{l u:aa}{lo hi:Option Int}{Q:aa×aa×aa->ae->Prop}(hl:u6 l lo)(hu:u6 u hi)(hs:s.heap.get? sl=O {cls:=ak "slice",data:=bH #[l,u,aA]})(h:Q (xU lo,xU hi,aA) s):ax M A (LK (R sl)) Q a6 s:=by
 delta LK
 show ag<|fX (x:=aA) hs Z Z<|ag<|fK (a:=aA) Z<|ag<|fX (x:=l) hs Z Z<|ag<|WK hl<|ag<|fX (x:=u) hs Z Z<|ag<|WK hu<|aB h
theorem YA(a sl:ab)(b:Array UInt8){l u:aa}{lo hi:Option Int}(hl:u6 l lo)(hu:u6 u hi)(hsz:b.size<=1000):
 rj (Builtin.«bytearray.__getitem__» ⟨[R a,R sl],[]⟩) (λ_ aM s=>s.heap.get? a=O {cls:=ak "bytearray",dict:=ai,data:=qo b 0,slots:=#[]}/\s.heap.get? sl=O {cls:=ak "slice",data:=bH #[l,u,aA]}/\aM (cf (cL (R s.heap.objs.size))) {s with heap:=s.heap.push (pO (PySem.W.KBy.picked b lo hi))}):=
 rN λprog w A aM s h=>by
  show hx h λha hs h=>?_;have hT:s.TypeIs (R sl) "slice" :=⟨_,hs,rfl⟩;show(?_:ax _ _ (yw (R sl)>>=λr=>_) _ _ s);show ag ?_
  delta yw
  show ag (eH hT slice_no_index (aB (ag (ow hT ?_))));show(?_:ax _ _ (LK (R sl)>>=λr=>_) _ _ s);show ag (GV hl hu hs ?_);show(?_:ax _ _ (yx (R a)>>=λb=>J9 (xU lo) (xU hi) (xU ai) b.size>>=λx=>U9 (abf b x.1 x.2.1 x.2.2)>>=ret) _ _ s);show ag (kS ha (ag (fK (sliceIndices_raw lo hi ai b.size nofun) (ag (ij (aB ⟨_,rfl,h⟩) (ba (PySem.W.KBc.size_picked_le b lo hi) (ba hsz bz)))))))
def CM(T:String)(wj:String)(pD:String)(args:List aa):Prop:=∀(ft:Ap T wj pD) (hct:xJ T ⟨args,[]⟩=pure ()),Builtin.«type.__call__» ⟨ak T::args,[]⟩=(do
 let obj<-holding [bx wj] (call (bx wj) (ak T::args) [])
 if !(<-rd obj (ak T)) then sO "type.call.new-gave-other-type";return<-ret obj
 match<-holding [obj] (xK obj "__init__" args []) with
 |none=>ret obj
 |some r=>
  if r != aA then
   sO "type.call.init-returned-value"
   raiseError "TypeError" s!"__init__() should return None, not '{← typeNameOf r}'"
  ret obj)
def GW(c:(String×String)×(String×(List aa))):Prop:=CM c.1.1 c.1.2 c.2.1 c.2.2
def vP:=Iu GW inferInstance
theorem Δ:CM vP.1.1 vP.1.2 vP.2.1 vP.2.2:=λft hct=>by
 show ji ft.mro λc tl aj5=>?_
 delta Builtin.«type.__call__»
 simp only[ft.notType,ft.canCreate,hct,aj5,ft.made,if_false];rfl
theorem OT{T:String}{wj:String}{pD:String}:CM T wj pD args:=hen (P:=GW) Δ ((T,wj),(pD,args))
theorem Ε:mroOf (ak "bytearray")=pure [ak "bytearray",ak "object"]:=by ext
theorem ID:gW (ak "bytearray") "__new__" =pure (O (bx "bytearray.__new__")):=by ext
theorem Jj:Ap "bytearray" "bytearray.__new__" "bytearray.__init__" :=
 ⟨rfl,rfl,(qB _ _ Ε),madeBy_type Ε ID bD,by ext,rfl,MM⟩
theorem MP:Eu "bytearray.__new__" =N:=by ext
theorem MQ:("bytearray.__new__".splitOn ".__new__").headD "" = "bytearray" :=by rw[PySem.W.split_bytearray];rfl
theorem tY:oz (ak "bytearray") (ak "bytearray")=pure N:=by ext
theorem Dw(a:aa){Q₁:aa->ae->Prop}(h:Q₁ (R s.heap.objs.size) {s with heap:=s.heap.push (pO #[])}):
 oE (aG prog w) A (m8 (bx "bytearray.__new__") ⟨[ak "bytearray",a],[]⟩) (wants Q₁ a6) s:=by
 show xI (ag (fK (gu.2.2.2.2.2.2.1 a) (aB ⟨lJ MP _,codeAny_builtin_stack Rm.1 Z λp st=>?_⟩)));have vQ:=tY;obtain⟨hp,g,d,tk,os⟩:=s;simp only[MQ];wp_walk;show h
theorem OU{id:String}{args:sP}{b:uW}(D:gN table id=O b):(aG prog w).den (fM id args)=b args:=by change(match gN table id with|some b=>b args|none=>Ek ((withoutEnding? id "#data").getD id))=_;rw[D]
theorem jS{id:String}{args:sP}{b:uW}(D:gN table id=O b)(hc:n9 (fM id args)=N)(h:C (A.under (fM id args)) (b args) s (OP A aM)):CC A (fM id args) s aM:=jn hc<|(OU D).symm▸h
theorem wY{id:String}{args:sP}{b:uW}(hq:Eu id=N)(D:gN table id=O b)(hc:n9 (fM id args)=N)(h:C A.in1 (sE id args) s (λ_ aD=>C A.in1 (b args) aD (OP A aM))):CC A (m8 (bx id) args) s aM:=by show jn Z (C.bind (h.mono λ_ aD U=>C.pure ⟨lJ hq args,jS D hc ?_⟩));show(Around.under_plainId hq args).symm▸U
theorem vR{self:aa}{T:String}{id:String}{Q:Option aa->ae->Prop}(hT:s.TypeIs self T)(h:lL T name id)(hc:C A (call (bx id) (self::args) []) s (λv=>Q (O v))):C A (xK self name args []) s Q:=C.bind<|Lake.T.wW (eH hT h.lookup ⟨rfl,rfl⟩)<|C.holding<|C.bind<|C.eq (h.bind self)<|C.bind (hc.mono λv Y h'=>C.pure h')
theorem oh{self:aa}{T:String}{id:String}{b:uW}(hT:s.TypeIs self T)(h:lL T name id)(aho:gN table id=O b)(ou:jY id ⟨self::args,[]⟩)(jB:n9 (fM id ⟨self::args,[]⟩)=N)(hw:C A.in1 (b ⟨self::args,[]⟩) s (OP A (λr Y=>∃v,r=cf (cL v)/\Q v Y))):C A (call (bx id) (self::args) []) s Q:=by show C.call (CC.mono (wY h.plain aho jB (aM:=λr Y=>∃v,r=cf (cL v)/\Q v Y) ?_) λr Y qQ=>bh qQ λv e hq=>by show e▸?_;show hq);show Lake.T.wW (h.check _ _ _ _ _ _ _ _ hT ou ⟨rfl,rfl⟩) (hw)
theorem ee{c:Prop}[Decidable c]{a b:aE α}{Q:α->ae->Prop}(hc:¬c)(h:C A b s Q):C A (if c then a else b) s Q:=by rw[if_neg hc];show h
theorem BY{T wj pD:String}{Bi:uW}(ft:Ap T wj pD)(hct:xJ T ⟨args,[]⟩=pure ())(Ro:gN table pD=O Bi)(hci:∀as,n9 (fM pD as)=N)(nN:C A.in1 (call (bx wj) (ak T::args)) s (λobj aD=>aD.TypeIs obj T/\jY pD ⟨obj::args,[]⟩/\
 C A.in1.in1 (Bi ⟨obj::args,[]⟩) aD (OP A.in1 (λr aQ=>r=cf (cL aA)/\Q obj aQ)))):
 C A (call (ak T) args) s Q:=by
 show C.call<|jn Z<|C.pure ⟨AX _ bD,jS PySem.F.entry_type_call Z ?_⟩;rw[OT ft hct,Around.under_plain (weight_type_call_type T args []) Z];show lI<|nN.mono λobj aD oq=>hx oq λhT ou hw=>C.bind<|Lake.T.wW (mQ hT ft.sub ⟨rfl,rfl⟩)<|ee aK (lI (vR hT ft.init (oh hT ft.init Ro ou (hci _) (hw.mono λzb Y h'=>?_))));cases zb with
 |done f=>have h':=h';show ct aA h'.1 (ee aK (C.pure h'.2))
 |again c'=>show⟨h'.1,h'.2.mono λr aQ h2=>(ct aA h2.1 (ee aK (C.pure h2.2)))⟩
theorem Dx{T wj pD:String}{Bi:uW}{Q₁:aa->ae->Prop}(ft:Ap T wj pD)(hct:xJ T ⟨args,[]⟩=pure ())(Ro:gN table pD=O Bi)(hci:∀as,n9 (fM pD as)=N)(nN:oE (aG prog w) A.in1 (m8 (bx wj) ⟨ak T::args,[]⟩) (wants Q₁ NoE) s)(ahp:∀obj aD,Q₁ obj aD->aD.TypeIs obj T/\jY pD ⟨obj::args,[]⟩/\
 C A.in1.in1 (Bi ⟨obj::args,[]⟩) aD (OP A.in1 (λr aQ=>r=cf (cL aA)/\Q obj aQ))):
 C A (call (ak T) args) s Q:=
 BY ft hct Ro hci (Lake.T.wx (kU nN) ahp)
theorem Rp:gW (ak "bytearray") (aC "__release_buffer__")=pure (O (bx "bytearray.__release_buffer__")):=by ext
theorem CN:gW (ak "bytearray") (aC "__buffer__")=pure (O (bx "bytearray.__buffer__")):=by ext
theorem Rq:gW (ak "bytearray") (aC "__index__")=pure ai:=by ext
theorem Rr{c:ab}{Q:Bool->ae->Prop}(hT:s.TypeIs (R c) "bytearray")(h:Q N s):ax M A (Ba (R c) "__buffer__") Q a6 s:=by show ag<|eH hT CN<|(?_:ax _ _ (if(!"bytearray.__buffer__".endsWith ("." ++ "__buffer__"))=N then pure af else rd _ _) _ _ _);rw[if_neg (by decide+kernel),show "bytearray.__buffer__".dropRight ("__buffer__".length+1)= "bytearray" from by decide+kernel];show mQ hT tY h
theorem Dy{c:ab}{Q:Bool->ae->Prop}(hT:s.TypeIs (R c) "bytearray")(h:Q af s):ax M A (A9 (R c)) Q a6 s:=by show ag<|ag<|eH hT Rp<|(?_:ax _ _ (if(!"bytearray.__release_buffer__".endsWith ("." ++ "__release_buffer__"))=N then pure af else rd _ _) _ _ _);rw[if_neg (by decide+kernel),show "bytearray.__release_buffer__".dropRight ("__release_buffer__".length+1)= "bytearray" from by decide+kernel];show mQ hT tY (aB h)
theorem Rt{c:ab}{id:String}{aj6:Bool}{Q:Option (Array UInt8)->ae->Prop}(hc:s.heap.get? c=O (pO b))(h:Q (O b) s):ax M A (yy id (R c) aj6) Q a6 s:=by
 have hT:=fm hc
 delta yy
 show ag (eH hT CN (?_:ax _ _ (Ba _ _>>=λr=>_) _ _ s));show ag (Rr hT (?_:ax _ _ (rh (R c) "__buffer__" >>=λr=>_) _ _ s));show ag (eH hT CN (?_:ax _ _ (A9 _>>=λr=>_) _ _ s));show ag (Dy hT (?_:ax _ _ (yx (R c)>>=λr=>_) _ _ s));show ag (kS hc (aB h))
theorem zv{Q:Bool->ae->Prop}(ho:s.heap.get? a=O (pO b))(h:Q af s):C A (A9 (R a)) s Q:=T.wW (Dy (fm ho) ⟨rfl,rfl⟩) h
theorem BZ(v:aa):abb "bytearray.__init__" "bytearray" ["source", "encoding", "errors"] [v] []=pure [O v,ai,ai]:=by ext
theorem zU{Q:Bool->ae->Prop}(ho:s.heap.get? a=O (pO b))(h:Q af s):
 C A (LL (R a)<||> (do return (<-abe (R a))>0)) s Q:=by
 show C.bind<|C.exported<|C.bind (T.wW (v₀:=0) ?_ (C.pure h));show ag (iX ho (aB ⟨rfl,rfl⟩))
noncomputable def wk(ns:LN):Array UInt8:=(ns.map λn=>n.toUInt8).toArray
theorem YB:∀{vs:List aa} {ns:LN},fh vs (ns.map aj)->(∀n∈ns,n<256)->
 (∀p:aa->Bool,(∀i t,p (ah i t)=(decide (0<=i) && decide (i<256)))->vs.takeWhile p=vs)/\(∀f:aa->Option UInt8,(∀i t,f (ah i t)=O i.toNat.toUInt8)->vs.filterMap f=ns.map λn=>n.toUInt8):=by
 intro vs ns;induction ns generalizing vs with
 |nil=>intro h _;cases h;show⟨λ_ _=>rfl,λ_ _=>rfl⟩
 |cons n ns ih=>
  intro h D;cases h with
  |cons _ t r=>
   show eX (ih r (λm hm=>D m au)) λh1 h2=>have hn:=D n au;⟨λp hp=>?_,λf hf=>?_⟩
   .rw [Ua,hp,h1 p hp];show if_pos jQ
   .rw [List.filterMap_cons,hf,h2 f hf];rfl
theorem GX:∀ty,ty= "list" \/ty= "tuple" ->gW (ak ty) (aC "__index__")=pure ai/\gW (ak ty) (aC "__buffer__")=pure ai:=by rintro ty (rfl|rfl)<;>constructor<;>(ext)
theorem GZ{l:ab}{Q:ik->ae->Prop}{ty:String}(ho:s.heap.get? a=O (pO #[]))(hl:s.heap.get? l=O {cls:=ak ty,data:=bU vs.toArray n})(hty:ty= "list" \/ty= "tuple")(hi:fh vs (ns.map aj))(D:∀n∈ns,n<256)(dM:ns.length<=1000)(hq:Q (nr (cL aA)) {s with heap:=(s.heap.update a (jM λ_=>#[])).update a (jM λ_=>wk ns)}):C A (Builtin.«bytearray.__init__» ⟨[R a,R l],[]⟩) s Q:=by show eX (GX ty hty) λli lb=>eX (YB hi D) λg1 g2=>C.bind<|zv ho<|ee aK<|C.bind<|C.eq (BZ _)<|C.bind<|C.eq Z<|C.bind<|C.eq Z<|C.bind<|zU ho<|ee aK (Lake.T.wc (P:=Q) (ag (mD ho bz ?_)));have C':(s.heap.update a (jM λ_=>#[])).get? l=O {cls:=ak ty,data:=bU vs.toArray n}:=(Kr _ _ _ _ λe=>by rw[e,ho]at hl;simp[pO]at hl).trans hl;have hT:({s with heap:=s.heap.update a (jM λ_=>#[])}:ae).TypeIs (R l) ty:=⟨_,C',rfl⟩;show ag (ag (iX C' (aB (?_:ax _ _ (rh (R l) "__index__" >>=λr=>_) _ _ _))));show ag (eH hT li (?_:ax _ _ (yy _ _ _>>=λr=>_) _ _ _));show ag (ag (eH hT lb (ag (eH hT lb (aB (?_:ax _ _ (xV (R l)>>=λr=>_) _ _ _))))));show ag (ow hT ?_);rw[if_pos (by rcases hty with rfl|rfl<;>rfl)];show ag (jG C' Z ?_);dsimp only;rw[g1 _ (λ_ _=>rfl),(by simp:vs.toArray[vs.length]? =ai),g2 _ (λ_ _=>rfl)];show ag (mS (ag (mD (gO _ ho Z) (by simp;show ba dM bz) (aB hq))))
theorem IE{c:ab}{Q:ik->ae->Prop}(hac:a≠c)(ho:s.heap.get? a=O (pO #[]))(hl:s.heap.get? c=O (pO b))(dM:b.size<=1000)(hq:Q (nr (cL aA)) {s with heap:=(s.heap.update a (jM λ_=>#[])).update a (jM λ_=>b)}):C A (Builtin.«bytearray.__init__» ⟨[R a,R c],[]⟩) s Q:=by show C.bind<|zv ho<|ee aK<|C.bind<|C.eq (BZ _)<|C.bind<|C.eq Z<|C.bind<|C.eq Z<|C.bind<|zU ho<|ee aK (Lake.T.wc (P:=Q) (ag (mD ho bz ?_)));have hc2:(s.heap.update a (jM λ_=>#[])).get? c=O (pO b):=(Kr _ _ _ _ hac.symm).trans hl;show ag (ag (iX hc2 (aB (?_:ax _ _ (rh (R c) "__index__" >>=λr=>_) _ _ _))));show ag (eH (fm hc2) Rq (?_:ax _ _ (yy _ _ _>>=λr=>_) _ _ _));show ag (Rt hc2 (?_:ax _ _ (sO _>>=λ_=>yz (R a) (λ_=>b)>>=λ_=>ret aA) _ _ _));show ag (mS (ag (mD (gO _ ho Z) (ba dM bz) (aB hq))))
theorem B0(h:aN)(o:bj)(f:bj->bj):(h.push o).update h.objs.size f=h.push (f o):=by
 obtain⟨objs,l⟩:=h;show(?_:Kt ((objs.push o).modify objs.size f) l=Kt (objs.push (f o)) l);congr 1;apply U2;intro i;rw[Array.getElem?_modify,LI,LI];by_cases e:i=objs.size
 .subst e;simp
 .simp [e,eO e]
theorem G4(as:sP):n9 (fM "bytearray.__init__" as)=N:=rfl
theorem uH(ty:String)(n:Nat){l:ab}(hl:s.heap.get? l=O {cls:=ak ty,data:=bU vs.toArray n})(hty:ty= "list" \/ty= "tuple")(hi:fh vs (ns.map aj))(D:∀n∈ns,n<256)(dM:ns.length<=1000)(hq:Q (R s.heap.objs.size) {s with heap:=s.heap.push (pO (wk ns))}):C A (call (ak "bytearray") [R l]) s Q:=by show Dx (Q₁:=λv aD=>v=R s.heap.objs.size/\aD={s with heap:=s.heap.push (pO #[])}) Jj (gu.2.2.2.2.2.1 _) zu G4 (Dw _ ⟨rfl,rfl⟩) λobj aD qQ=>eX qQ λe1 e2=>e1▸e2▸have ho:(s.heap.push (pO #[])).get? s.heap.objs.size=O (pO #[]):=bK _ Z;gS (fm ho) (gu.2.2.2.1 _ _) (GZ ho (a8 _ hl) hty hi D dM ⟨rfl,?_⟩);rw[B0,B0];show hq
theorem Ζ{c:ab}(hl:s.heap.get? c=O (pO b))(dM:b.size<=1000)(hq:Q (R s.heap.objs.size) {s with heap:=s.heap.push (pO b)}):C A (call (ak "bytearray") [R c]) s Q:=by show Dx (Q₁:=λv aD=>v=R s.heap.objs.size/\aD={s with heap:=s.heap.push (pO #[])}) Jj (gu.2.2.2.2.2.1 _) zu G4 (Dw _ ⟨rfl,rfl⟩) λobj aD qQ=>eX qQ λe1 e2=>?_;subst e1 e2;have ho:(s.heap.push (pO #[])).get? s.heap.objs.size=O (pO #[]):=bK _ Z;show gS (fm ho) (gu.2.2.2.1 _ _) (IE (λe=>by have:=cn hl;rw[<-e]at this;show gx _ this) ho (a8 _ hl) dM ⟨rfl,?_⟩);rw[B0,B0];show hq
structure Tn(X:List ab)(s Y:ae):Prop where
 keep:∀b o,b∉X->s.heap.get? b=O o->Y.heap.get? b=O o
 there:∀b o,s.heap.get? b=O o->∃o',Y.heap.get? b=O o'
 os:Y.os=s.os
 drawn:Y.drawn=s.drawn
 gens:Y.gens=s.gens
theorem Tn.trans{gh:List ab}{a b c:ae}(x:Tn X a b)(y:Tn gh b c)(h:∀d∈gh,d∈X\/a.heap.get? d=ai):Tn X a c where
 keep:=λd o hd e=>y.keep d o (λq=>by
  rcases h d q with q|q
  .show hd q
  .have e:=q.symm.trans e;ext) (x.keep d o hd e)
 there:=λd o e=>dG (x.there d o e) λo' e'=>y.there d o' e'
 os:=y.os.trans x.os
 drawn:=y.drawn.trans x.drawn
 gens:=y.gens.trans x.gens
theorem Tn.push(X:List ab)(s:ae)(o:bj):Tn X s {s with heap:=s.heap.push o}:=⟨λ_ _ _ e=>a8 o e,λ_ o' e=>⟨o',a8 o e⟩,rfl,rfl,rfl⟩
theorem Tn.toks(X:List ab)(s:ae)(t:Nat):Tn X s {s with toks:=t}:=⟨λ_ _ _ e=>e,λ_ o e=>⟨o,e⟩,rfl,rfl,rfl⟩
theorem Tn.same(hs:gw a s.heap h')(ha:a∈X)(hm:∃o,h'.get? a=O o):Tn X s {s with heap:=h'} where
 keep:=λb o D e=>(hs.2 b (λq=>by subst q;show D ha)).trans e
 there:=λb o e=>if q:b=a then q▸hm else⟨o,(hs.2 b q).trans e⟩
 os:=rfl
 drawn:=rfl
 gens:=rfl
theorem Tn.upd{f:Array UInt8->Array UInt8}(ho:s.heap.get? a=O (pO b))(ha:a∈X):Tn X s {s with heap:=s.heap.update a (jM f)}/\(s.heap.update a (jM f)).get? a=O (pO (f b)):=by have e:(s.heap.update a (jM f)).get? a=O (pO (f b)):=gO _ ho Z;show⟨.same (j6 ..) ha ⟨_,e⟩,e⟩
theorem Tn.smod(x:Tn X s Y)(hX:∀b∈X,b∉bY):mB X s Y:=
 ⟨⟨λb o D _ e=>x.keep b o D e,λb D ps e=>⟨#[],x.keep b _ (λq=>hX b q D) e⟩,x.there⟩,x.os,x.drawn,x.gens⟩
theorem YC{Q:Unit->ae->Prop}(ho:s.heap.get? a=O (pO b))(h:Q () s):C A (Va (R a)) s Q:=C.bind<|zU ho<|ee aK (C.pure h)
theorem wZ:gN table "bytearray.extend.loop" =O Builtin.«bytearray.extend.loop»:=me (rfl)
theorem IF:gN table "bytearray.extend.end" =O Builtin.«bytearray.extend.end»:=me (rfl)
theorem w0:Eu "bytearray.extend.loop" =N:=by ext
theorem IG:Eu "bytearray.extend.end" =N:=by ext
theorem Ru{m:Array UInt8}(ho:s.heap.get? a=O (pO b))(hd:s.heap.get? d=O (pO m))(dM:b.size+m.size<=1000)(h:aM (cf (cL aA)) {s with heap:=s.heap.update a (jM λx=>x++m)}):CC A (fM "bytearray.extend.end" ⟨[R a,it,R d],[]⟩) s aM:=by
 show jS IF Z (C.bind (C.point (C.bind (T.wW (kS hd ⟨rfl,rfl⟩) ?_))));have wr:∀A',C A' (do yz (R a) (· ++m);ret aA) s (OP A aM):=λA'=>
  lC (mD ho jQ (C.pure h))
 show(?_:C _ (if(!m.isEmpty)=N then(Va (R a)>>=λ_=>(do yz (R a) (· ++m);ret aA)) else(do yz (R a) (· ++m);ret aA)) s _);cases E:(!m.isEmpty) with
 |true=>show C.bind (YC ho (wr _))
 |false=>show wr _
theorem OV{l:ab}(hh:dh A)(hi:fh items.toList (ns.map aj))(D:∀n∈ns,n<256)(dM:b.size+ns.length<=1000)(hda:d≠a)(hdI:d≠I)(Yw:d≠l)(haI:a≠I)(hlI:l≠I)(hI0:aJ.heap.get? I=ai)(hd0:aJ.heap.get? d=ai)(hR:∀Y,Tn [a] aJ Y->Y.heap.get? a=O (pO (b++wk ns))->aM (cf (cL aA)) Y):
 ∀(k i:Nat) (s:ae),i+k=ns.length->Tn [a] aJ s->s.heap.get? a=O (pO b)->s.heap.get? d=O (pO (wk (ns.take i)))->s.heap.IsListIter I l i->s.heap.IsList l items->
  CC A (fM "bytearray.extend.loop" ⟨[R a,R l,R I,R d],[]⟩) s aM:=by
 have hl:=hi.length;intro k;induction k with
 |zero=>
  intro i s hik t0 ha hd hI hL;obtain rfl:i=ns.length:=hik;show jS wZ Z (C.bind (T.wc (JP hh hI hL (by simp at hl ⊢;show lO hl) λh' E=>?_)));have ka:=E a _ haI ha;have kd:h'.get? d=O (pO (wk ns)):=by have:=E d _ hdI hd;rwa [sS]at this
  show C.pure ⟨lJ IG _,Ru ka kd (by simp[wk];lia) ?_⟩;have t1:Tn [a] aJ {s with heap:=h'}:=⟨λc o hc e=>E c o (λq=>by subst q;have e:=hI0.symm.trans e;ext) (t0.keep c o hc e),λc o e=>dG (t0.there c o e) λo' e'=>⟨o',E c o' (λq=>by subst q;have e:=hI0.symm.trans e;ext) e'⟩,t0.os,t0.drawn,t0.gens⟩;show eX (Tn.upd ka au) λt2 e2=>(hR _ (t1.trans t2 λ_ h=>ao h) e2)
 |succ k ih=>
  show λi s hik t0 ha hd hI hL=>jS wZ Z ?_;have ahq:i<items.toList.length:=by simp at hl ⊢;lia
  show eX (nZ hi) λk1 k2=>(eQ (k2 i items.toList[i] (dE ahq)) λn t hn hv=>?_);replace hn:=cY▸hn;show bh (jc.mp hn) λm hm dX=>?_;subst dX;show lC (JM hI hL (by rw[<-UZ,dE ahq,hv]) λh' hI' zL=>?_);have kd:=(zL.2 d hdI).trans hd;show C.bind (BW (C.holding (T.wW (v₀:=m.toUInt8) (aJ:={s with heap:=h'}) ?_ ?_)))
  .show ag (fK (aen _ _) ?_);rw[if_neg (by have:aj m=(m:Int):=rfl;simp;show Ex.mp (D m (cW hm)))];show aB ⟨rfl,rfl⟩
  show lC<|uX<|lC<|mD kd (by simp[wk];lia)<|eX (Tn.upd (X:=[d]) (s:={s with heap:=h'}) (f:=λx=>x.push m.toUInt8) kd au) λt2 e2=>have t1:Tn [I] s {s with heap:=h'}:=.same zL au (bh hI' λo e _=>⟨o,e⟩);C.pure ⟨lJ w0 _,ih (i+1) _ (by simp_all+arith) ((t0.trans t1 λc hc=>aH (by show(bJ.mp hc)▸?_;show hI0)).trans t2 λc hc=>aH (by show(bJ.mp hc)▸?_;show hd0)) (t2.keep a _ (by simp;show hda.symm) ((zL.2 a haI).trans ha)) ?_ (hI'.at λo e=>t2.keep I o (by simp;show hdI.symm) e) ((hL.extBut zL.extBut hlI).at λo e=>t2.keep l o (by simp;show Yw.symm) e)⟩;rw[e2,EH,hm];simp[wk]
theorem Η:gW (ak "list") (aC "__len__")=pure (O (bx "list.__len__")):=by ext
theorem YD{l:ab}(hT:s.TypeIs (R l) "list"):Lake.T A (abd "bytearray.extend" (R l)) s (λv Y=>Y=s/\v=()):=ag<|eH hT Η<|ag<|mQ hT sub_list_self<|aB ⟨rfl,rfl⟩
theorem YE(h:Q (R s.heap.objs.size) {s with heap:=s.heap.push (pO #[])}):ax M A (U9 #[]) Q a6 s:=by obtain⟨hp,g,d,tk,os⟩:=s;wp_walk;show h
theorem Jk(as:sP):n9 (fM "bytearray.extend" as)=N:=rfl
theorem w3{l:ab}(hh:dh A)(ha:s.heap.get? a=O (pO b))(hl:s.heap.get? l=O (br vs n))(hi:fh vs (ns.map aj))(D:∀n∈ns,n<256)(dM:b.size+ns.length<=1000)(hq:∀Y,Tn [a] s Y->Y.heap.get? a=O (pO (b++wk ns))->Q aA Y):C A (call (bx "bytearray.extend") [R a,R l] []) s Q:=by
 show oh (fm ha) pC wi (gu.2.2.2.2.1 _ _) (Jk _)<|C.bind<|C.eq Z<|C.bind<|T.wW (eH ((ct _ hl Z)) F.bm_no_buffer ⟨rfl,rfl⟩)<|ee aK (C.bind (BW (T.wc (uR (bX hl) ?_))))
 let s1:ae:={s with heap:=s.heap.push {cls:=ak "list_iterator",data:=bH #[R l,ah 0 0]}};have hl1:s1.heap.get? l=O (br vs n):=a8 _ hl;have hI1:s1.heap.get? s.heap.objs.size=O {cls:=ak "list_iterator",data:=bH #[R l,ah 0 0]}:=bK _ Z;have hsz:s1.heap.objs.size=s.heap.objs.size+1:=dD ..;have Iz:=cn hl;have haa:=cn ha;show lI<|T.wW (aJ:=s1) (YD ((ct _ hl1 Z)))<|C.bind<|T.wW (YE ⟨rfl,rfl⟩)<|C.pure ⟨lJ w0 _,OV hh (hi) D dM (by rw[hsz];show λe=>j5.mpr (lQ s.heap.objs.size) (by have h2:=haa;rw[<-e]at h2;show h2)) (by rw[hsz];show yl _) (by rw[hsz];show λe=>j5.mpr (lQ s.heap.objs.size) (by have h2:=Iz;rw[<-e]at h2;show h2)) ?_ ?_ (bF _) ?_ (λs3 t3 e3=>⟨_,rfl,hq s3 t3 e3⟩) ns.length 0 _ (qm ns.length)
  ((Tn.push [a] s _).trans (Tn.push [a] s1 _) (λ_ h=>ao h)) (a8 _ (a8 _ ha)) ?_ (kH _ (a8 _ hI1) Z Z) (bX (a8 _ hl1))⟩
 .show λe=>by rw[<-e]at haa;show gx _ haa
 .show λe=>by rw[<-e]at Iz;show gx _ Iz
 .cases q:s.heap.get? s1.heap.objs.size with
  |none=>rfl
  |some o=>have:=cn q;rw[hsz]at this;show((Nat.not_succ_lt_self) this).elim
 .show bK _ Z
theorem IH:gW (ak "bytes") (aC "__release_buffer__")=pure ai:=by ext
theorem G6:oz (ak "bytes") (ak "bytes")=pure N:=by ext
theorem Jl{Q:Bool->ae->Prop}(hT:s.TypeIs v "bytes")(h:Q N s):ax M A (Ba v "__buffer__") Q a6 s:=by show ag<|eH hT yC<|(?_:ax _ _ (if(!"bytes.__buffer__".endsWith ("." ++ "__buffer__"))=N then pure af else rd _ _) _ _ _);rw[if_neg (by decide+kernel),show "bytes.__buffer__".dropRight ("__buffer__".length+1)= "bytes" from by decide+kernel];show mQ hT G6 h
theorem II{t:aW}(ha:s.heap.get? a=O (pO b))(dM:b.size<=1000)(hq:∀Y,Tn [a] s Y->Y.heap.get? a=O (pO b)->Q aA Y):C A (call (bx "bytearray.extend") [R a,qY #[] t] []) s Q:=by
 have hT:s.TypeIs (qY #[] t) "bytes" :=rfl;show oh (fm ha) pC wi (gu.2.2.2.2.1 _ _) (Jk _) (T.wc ?_);show(?_:ax _ _ (rh (qY #[] t) "__buffer__" >>=λr=>_) _ _ s);show ag (eH hT yC ?_);show(?_:ax _ _ (sO _>>=λ_=>yx (R a)>>=λr=>_) _ _ s);show ag (mS (ag (kS ha ?_)));show(?_:ax _ _ (U8 _ _ _>>=λr=>_) _ _ s);show ag ?_
 delta U8 abc
 show ag (sG (ag (eH hT yC ?_)));show(?_:ax _ _ (Ba _ _>>=λr=>_) _ _ s);show ag (Jl hT ?_);show(?_:ax _ _ (rh (qY #[] t) "__buffer__" >>=λr=>_) _ _ s);show ag (eH hT yC ?_);show(?_:ax _ _ (yy _ _ _>>=λr=>_) _ _ s);show ag ?_
 delta yy
 show ag (eH hT yC ?_);show(?_:ax _ _ (Ba _ _>>=λr=>_) _ _ s);show ag (Jl hT ?_);show(?_:ax _ _ (rh (qY #[] t) "__buffer__" >>=λr=>_) _ _ s);show ag (eH hT yC ?_);show(?_:ax _ _ (A9 _>>=λr=>_) _ _ s);show ag ?_
 delta A9
 show ag (ag (eH hT IH (aB (aB ?_))));show(?_:ax _ _ (yx (qY #[] t)>>=λr=>_) _ _ s);show ag (fK (a:=#[]) Z (aB (aB (aB ?_))));show(?_:ax _ _ (yz (R a) (· ++#[])>>=λ_=>ret aA) _ _ s);show ag (mD ha (by rw[Array.append_empty];show ba dM bz) (aB (eX (Tn.upd (X:=[a]) (f:=λx=>x++#[]) ha (iz ..)) λt2 e2=>⟨_,rfl,hq _ t2 e2⟩)))
theorem lF:lL "bytearray_iterator" "__next__" "bytearray_iterator.__next__" :=
 nt (owner:= "bytearray_iterator") (n:= "__next__") (rfl) (rfl) (rfl) (rfl)
  (by first|show ao (rfl)|show .inr (rfl)) (rfl)
theorem zw:lL "bytearray_iterator" "__iter__" "bytearray_iterator.__iter__" :=
 nt (owner:= "bytearray_iterator") (n:= "__iter__") (rfl) (rfl) (rfl) (rfl)
  (by first|show ao (rfl)|show .inr (rfl)) (rfl)
theorem w4:gN table "bytearray_iterator.__next__" =O Builtin.«bytearray_iterator.__next__»:=me (rfl)
theorem IJ:gN table "bytearray.__iter__" =O Builtin.«bytearray.__iter__»:=me (rfl)
def w5(h:aN)(I a:ab)(i:Nat):Prop:=h.get? I=O {cls:=ak "bytearray_iterator",data:=bH #[R a,ah (i:Int) 0]}
theorem IK(ha:s.heap.get? a=O (pO b))(hQ:Q (R s.heap.objs.size) {s with heap:=s.heap.push {cls:=ak "bytearray_iterator",data:=bH #[R a,ah 0 0]}}):
 ax (aG prog w) A (gm (R a)) Q a6 s:=by
 show JU (fm ha) BX (jV BX (fm ha) IJ ?_ (gu.2.2.2.2.2.2.2.1 _));obtain⟨hp,g,d,tk,os⟩:=s;wp_walk;show⟨_,rfl, "bytearray_iterator",_,(ct _ (bK _ Z) Z),lF.lookup,hQ⟩
theorem OW{x:UInt8}{Q:Option aa->ae->Prop}(hI:w5 s.heap I a i)(ha:s.heap.get? a=O (pO b))(E:b[i]? =O x)(hQ:∀h',w5 h' I a (i+1)->gw I s.heap h'->Q (O (ah (x.toNat:Int) s.toks)) {s with heap:=h',toks:=s.toks+1}):ax (aG prog w) A (gY (R I)) Q a6 s:=by have hT:s.TypeIs (R I) "bytearray_iterator" :=ct _ hI Z;show ag (sG (kT hT lF (jV lF hT w4 ?_ (gu.2.2.2.2.2.2.2.2.1 _))));unfold pO at ha;obtain⟨hp,g,d,tk,os⟩:=s;have hI':hp.get? I=O {cls:=ak "bytearray_iterator",data:=bH #[R a,ah (↑i) 0]}:=hI;wp_walk;show((by simpa using E:b[((i:Nat):Int).toNat]? =O x)).symm▸ag (An hI' Z (ET [].length) ?_);wp_walk;show ct _ Z (aB (hQ _ ?_ (j6 ..)));change(hp.update I _).get? I=_;rw[gO _ hI' Z];rfl
theorem OX{Q:Option aa->ae->Prop}(hh:dh A)(hI:w5 s.heap I a b.size)(ha:s.heap.get? a=O (pO b))(hQ:∀h',Ks I s.heap h'->Q ai {s with heap:=h'}):ax (aG prog w) A (gY (R I)) Q a6 s:=by have hT:s.TypeIs (R I) "bytearray_iterator" :=ct _ hI Z;show ag (sG (kT hT lF (jV lF hT w4 ?_ (gu.2.2.2.2.2.2.2.2.1 _))));obtain⟨hp,g,d,tk,os⟩:=s;have hI':hp.get? I=O {cls:=ak "bytearray_iterator",data:=bH #[R a,ah (↑b.size) 0]}:=hI;wp_walk;show((by simp:b[((b.size:Nat):Int).toNat]? =ai)).symm▸ag (mS (ag (An hI' Z (Te Z) (ag (uX ?_)))));show ag (ag (ij ?_ (by size_fits)));show ag<|fK (a:=aA) (by first|rfl|(rfl))<|ij ?_ (by size_fits);show ag<|J5<|(hh).symm▸Kc ?_;show ag (mQ (ct _ (bK _ Z) Z) J0 ?_);show aB (hQ _ (((j6 ..).extBut.push _).push _))
theorem OY(hI:w5 s.heap I a i)(h:Q (R I) s):ax (aG prog w) A (gm (R I)) Q a6 s:=by have hT:s.TypeIs (R I) "bytearray_iterator" :=ct _ hI Z;show JU hT zw (jV zw hT Rm.2.1 ?_ (gu.2.2.2.2.2.2.2.2.2.1 _));show aB ⟨_,rfl, "bytearray_iterator",_,hT,lF.lookup,h⟩
theorem Θ(hh:dh A)(I a:ab)(qF:a≠I)(b:Array UInt8):
 mT prog w A I [I,a] [I] b.size (λi v=>∃x t,b[i]? =O x/\v=ah (x.toNat:Int) t) (λi h=>w5 h I a i/\h.get? a=O (pO b)) where
 sub:=λb D=>by have D:=bJ.mp D;lia
 frame:=λi h h' st hk=>⟨hk I au _ st.1,hk a au _ st.2⟩
 item:=λi s Q a6 hi st hQ=>OW (x:=b[i]) st.1 st.2 fF λh' aj7 zL=>hQ _ h' _ (kI (b[i]) _ fF Z) ⟨aj7,zL.extBut a _ qF st.2⟩ λc o hc e=>zL.extBut c o (λh=>hc au) e
 done:=λs Q a6 st hQ=>OX hh st.1 st.2 λh' Ja=>hQ h' s.toks λc o hc e=>Ja c o (λh=>hc au) e
 self:=λ_ _ _ _ st hQ=>OY st.1 hQ
theorem OZ:gW (ak "bytearray") (aC "__len__")=pure (O (bx "bytearray.__len__")):=wX.lookup
def CO(A:ck)(a6:aa->ae->Prop)(s:ae)(a:ab)(b:Array UInt8)(Q:Bool->ae->Prop):Prop:=∀(ha:s.heap.get? a=O (pO b)) (h:Q af s),ax (aG prog w) A (abh (R a)) Q a6 s
def G7(c:((ck×(aa->ae->Prop))×ae)×((ab×(Array UInt8))×(Bool->ae->Prop))):Prop:=CO c.1.1.1 c.1.1.2 c.1.2 c.2.1.1 c.2.1.2 c.2.2
def pY:=Iu G7 inferInstance
theorem Ι:CO pY.1.1.1 pY.1.1.2 pY.1.2 pY.2.1.1 pY.2.1.2 pY.2.2:=λha h=>ag<|eH (fm ha) OZ<|ag<|mQ (fm ha) tY<|ag<|ow (fm ha)<|aB h
theorem ace{Q:Bool->ae->Prop}:CO A a6 s a b Q:=hen (P:=G7) Ι (((A,a6),s),((a,b),Q))
def CP(A:ck)(a6:aa->ae->Prop)(s:ae)(a:ab)(b:Array UInt8)(Q:aa->ae->Prop):Prop:=∀(hh:dh A) (ha:s.heap.get? a=O (pO b)) (dM:b.size<=1000) (hQ:∀h' tk IL c',(uh s.heap h')->h'.get? s.heap.objs.size=O {cls:=ak "list",dict:=ai,data:=bU IL c',slots:=#[]}->
 ItemsOf (λi v=>∃x t,b[i]? =O x/\v=ah (x.toNat:Int) t) IL b.size->Q (R s.heap.objs.size) {s with heap:=h',toks:=tk}),ax (aG prog w) A (call (ak "list") [R a]) Q a6 s
def G8(c:((ck×(aa->ae->Prop))×ae)×((ab×(Array UInt8))×(aa->ae->Prop))):Prop:=CP c.1.1.1 c.1.1.2 c.1.2 c.2.1.1 c.2.1.2 c.2.2
def pZ:=Iu G8 inferInstance
def Κ:=pZ.1.1.1
def qR:=pZ.1.2
def MR:=pZ.2.1.1
def MS:=pZ.2.1.2
theorem Λ:CP Κ pZ.1.1.2 qR MR MS pZ.2.2:=λhh ha dM hQ=>by
 show callType_codes (Q₁:=λobj aD=>obj=R qR.heap.objs.size/\aD={qR with heap:=qR.heap.push {cls:=ak "list",data:=bU #[]}}) PySem.F.called_list (PySem.F.typeCall_list_1 _) PySem.F.entry_list_init
  (code_list_new _ ⟨rfl,rfl⟩) λobj aD U=>?_
 obtain⟨rfl,rfl⟩:=U;have hS:(qR.heap.push {cls:=ak "list",data:=bU #[]}).get? qR.heap.objs.size=O {cls:=ak "list",data:=bU #[]}:=bK _ Z;show gS ⟨_,hS,rfl⟩ (PySem.F.args_list_init_2 _ _)<|have hSa:=eO (fB (cn ha));ag<|ag<|jG hS Z<|aB<|ag<|uT hS Z<|have G9:=gO (dP (λ_=>(#[]:Array aa))) hS Z;ag (uX ?_);generalize hh1:(qR.heap.push {cls:=ak "list",data:=bU #[]}).update qR.heap.objs.size (dP λ_=>#[])=h1 at *;have ka:h1.get? MR=O (pO MS):=by rw[<-hh1,mi _ _ hSa];show a8 _ ha
 have aj8:∀c o,qR.heap.get? c=O o->h1.get? c=O o:=λc o e=>by rw[<-hh1,mi _ _ (eO (fB (cn e)))];show a8 _ e
 have ahr:h1.objs.size=qR.heap.objs.size+1:=by rw[<-hh1,Heap.size_after_update];show dD ..
 show ag (ow (ct _ ka Z) ?_);have e1:yA (R qR.heap.objs.size) (R MR)=af:=by simp[yA,hSa]
 simp only[e1,Ls,UG,if_false];show ag<|IK ka<|ag (cO (ace (a8 _ ka) ?_));show aB ⟨lJ Fl _,?_⟩;show Ti ((Θ (A:=Κ.in1.in1) hh h1.objs.size MR (λe=>by rw[e]at ka;show gx _ (cn ka)) MS).toS) au qR.heap.objs.size (λhm=>?_) aA MS.size 0 _ #[] _ Z (fg _) ⟨bK _ Z,a8 _ ka⟩ (a8 _ G9) (VX _) λY IL c' hm hS' ot=>?_
 .simp at hm;show bf hm (λe=>by rw[ahr]at e;show absurd e (fB (jb _))) λe=>hSa e
 .rw [Moved.eq_with hm];show⟨rfl,hQ Y.heap Y.toks IL c' (λc o e=>hm.heap c o (λhmem=>?_) (a8 _ (aj8 c o e))) hS' ot⟩;have hc:=cn e;rcases bu.mp hmem with e' |hmem
  .rw [e']at hc;show gx _ hc
  .rw [bJ.mp hmem,ahr]at hc;show absurd hc (j5.mpr (lQ _))
theorem O0:CP A a6 s a b Q:=hen (P:=G8) Λ (((A,a6),s),((a,b),Q))
theorem IM:gW (ak "slice") (aC "__index__")=pure ai:=by ext
theorem YF:gW (ak "tuple") (aC "__int__")=pure ai:=by ext
theorem Pa:gW (ak "tuple") (aC "__float__")=pure ai:=by ext
theorem afc:oz (ak "tuple") (ak "bytearray")=pure af:=by ext
theorem afd:oz (ak "tuple") (ak "complex")=pure af:=by ext
theorem Μ{l:ab}(hl:s.heap.get? l=O (cU vs n)):ax M A (asStr? (R l)) (λx Y=>Y=s/\x=ai) a6 s:=ag (iX hl (aB ⟨rfl,rfl⟩))
def CQ(A:ck)(s:ae)(a:ab)(sl:ab)(l:ab)(b:Array UInt8)(k:Nat)(m:Nat)(t:aW)(u:aW)(vs:List aa)(ns:LN)(n:Nat)(Q:ik->ae->Prop):Prop:=∀(ho:s.heap.get? a=O (pO b)) (hs:s.heap.get? sl=O {cls:=ak "slice",data:=bH #[ah (k:Int) t,ah (m:Int) u,aA]}) (hl:s.heap.get? l=O (cU vs n)) (hi:fh vs (ns.map aj)) (D:∀n∈ns,n<256) (hm:m<=b.size) (QT:k+ns.length=m) (dM:b.size<=1000) (hq:∀Y,Tn [a] s Y->Y.heap.get? a=O (pO (b.extract 0 k++wk ns++b.extract m b.size))->Q (nr (cL aA)) Y),C A (Builtin.«bytearray.__setitem__» ⟨[R a,R sl,R l],[]⟩) s Q
def Ha(c:(((ck×ae)×(ab×ab))×((ab×(Array UInt8))×Nat))×(((Nat×aW)×(aW×(List aa)))×(((LN)×Nat)×(ik->ae->Prop)))):Prop:=CQ c.1.1.1.1 c.1.1.1.2 c.1.1.2.1 c.1.1.2.2 c.1.2.1.1 c.1.2.1.2 c.1.2.2 c.2.1.1.1 c.2.1.1.2 c.2.1.2.1 c.2.1.2.2 c.2.2.1.1 c.2.2.1.2 c.2.2.2
def hZ:=Iu Ha inferInstance
def zV:=hZ.1.1.1.2
def MT:=hZ.1.1.2.1
def WL:=hZ.1.1.2.2
def Rv:=hZ.1.2.1.1
def Hb:=hZ.1.2.1.2
def Hc:=hZ.1.2.2
def CR:=hZ.2.1.1.1
def WM:=hZ.2.2.1.1
def Ν:=hZ.2.2.1.2
theorem Ξ:CQ hZ.1.1.1.1 zV MT WL Rv Hb Hc CR hZ.2.1.1.2 hZ.2.1.2.1 hZ.2.1.2.2 WM Ν hZ.2.2.2:=λho hs hl hi D hm QT dM hq=>by
 have hTs:zV.TypeIs (R WL) "slice" :=ct _ hs Z;have hTt:zV.TypeIs (R Rv) "tuple" :=ct _ hl Z;have Dz:MT≠Rv:=λe=>by rw[e,hl]at ho;simp[pO,cU]at ho
 show C.bind (T.wW (v₀:=ai) (aJ:=zV) ?_ ?_)
 .show ag<|eH hTs IM<|aB ⟨rfl,rfl⟩
 show C.bind<|T.wc<|ow hTs<|ee aK<|C.bind<|T.wc<|GV (oT _ _) (oT _ _) hs<|ee (Bool.not_eq_true _▸beq_false_of_ne Dz)<|C.bind<|T.wc<|mQ hTt afc<|C.bind (T.wW (v₀:=af) (aJ:=zV) ?_ ?_)
 .show ag<|ag<|eH hTt (GX "tuple" (aH Z)).1<|aB<|ag<|ag<|eH hTt YF<|aB<|ag<|ag<|eH hTt Pa<|aB<|mQ hTt afd ⟨rfl,rfl⟩
 show C.bind<|T.wW (Μ hl)<|ee aK<|C.bind<|C.rule<|C.bind<|uH _ Ν hl (aH Z) hi D au<|lI (T.wc (GV (oT _ _) (oT _ _) (a8 _ hs) ?_));show C.bind (T.wc (kS (bK _ Z) ?_));show C.bind (T.wc (kS (a8 _ ho) ?_));show C.bind (C.eq (MO Hc CR Hb.size) ?_);have h1:min (Hc:Int) Hb.size=Hc:=by lia
 have h3:max (Hc:Int) CR=CR:=by lia
 simp only[h1,(by lia:min (CR:Int) Hb.size=CR),h3];show C.bind<|C.rule<|ee (by simp[wk];lia)<|have Ο:(zV.heap.push (pO (wk WM))).get? MT=O (pO Hb):=a8 _ ho;C.bind<|T.wc<|mD Ο (by simp[wk];lia)<|C.pure<|eX (Tn.upd Ο au) λt2 e2=>(hq _ ((Tn.push [MT] zV _).trans t2 λ_ h=>ao h) (e2))
theorem Pb{sl:ab}{l:ab}{m:Nat}{t:aW}{u:aW}{Q:ik->ae->Prop}:CQ A s a sl l b k m t u vs ns n Q:=hen (P:=Ha) Ξ ((((A,s),(a,sl)),((l,b),k)),(((m,t),(u,vs)),((ns,n),Q)))
abbrev Sg:=List (ab×bj)
noncomputable def Hd(o:bj):Bool:=match o.data with
 |oO _=>af
 |bU ..=> !(o.cls==ak "list")
 |_=>N
def zW(U:aN)(S:Sg)(h:aN):Prop:=∀p∈S,h.get? p.1=O p.2/\p.1∉bY/\Hd p.2=N/\U.get? p.1=ai
structure sy(W:List ab)(s Y:ae):Prop where
 mod:Mod W s.heap Y.heap
 os:Y.os=s.os
 drawn:Y.drawn=s.drawn
 gens:nW s.gens Y.gens
theorem sy.refl(W:List ab)(s:ae):sy W s s:=⟨.refl _ _,rfl,rfl,.refl _⟩
protected theorem mB.p(m:mB W s Y):sy W s Y:=⟨m.mod,m.os,m.drawn,.of m.gens⟩
theorem sy.trans{a b c:ae}(x:sy W a b)(y:sy W' b c)(hw:∀d,d∈W'->d∈W\/a.heap.get? d=ai):sy W a c:=
 ⟨x.mod.trans y.mod hw,y.os.trans x.os,y.drawn.trans x.drawn,y.gens.trans x.gens⟩
theorem sy.off{tk:Nat}(m:sy W s Y)(keep:∀b o,b∉wr->Y.heap.get? b=O o->h'.get? b=O o)(hw:∀b∈wr,s.heap.get? b=ai/\b∉bY):sy W s {Y with heap:=h',toks:=tk}:=
 have q:mB W {Y with heap:=s.heap} {Y with heap:=h',toks:=tk}:=mB.off ⟨m.mod,rfl,rfl,rfl⟩ keep hw
 ⟨q.mod,m.os,m.drawn,m.gens⟩
section
variable(H:List ab)(U:aN)
structure PS(L:c9)(J:cg)(aJ:ae)(bq bA:List ab)(G:ig)(S:Sg)(s:ae):Prop where
 fr:∃W,FR H U U L J s.heap G W/\(∀b∈W,b∈bq\/aJ.heap.get? b=ai)/\∀p∈S,p.1∉W
 sg:zW U S s.heap
 mod:sy (bq++bA) aJ s
 lD:∀p∈S,p.1∈bA\/aJ.heap.get? p.1=ai
end
section
variable{H:List ab}{U:aN}{S S':Sg}{Q:b8->ae->Prop}
theorem FR.rebase(r:FR H U D L J h G W):FR H U U L J h G W:=
 ⟨.refl _,r.base,r.scope,r.kind,r.glob,r.bi,r.loc,r.ns,r.cell,r.pT,λb hb'=>hx (r.jj b hb') λa b' c=>(gS (r.b1.new a) b' c),r.ents⟩
theorem PS.ext(p:PS H U L J aJ bq bA G S s):hJ H U s.heap:=gH p.fr λ_ r _ _=>r.base
theorem PS.er(p:PS H U L J aJ bq bA G S s):ER H s.heap L J s.heap G:=by show bh p.fr λW r _=>have e:=r.er;⟨.refl _,e.kind,e.gl,e.Wh,e.glob,e.bi,e.loc,e.has⟩
theorem cA.ext(B:cA U mg mb)(x:hJ H U h):cA h mg mb where
 g:=B.mg x
 b:=B.mb x
 lim:=B.zo x
 top:=dG B.top λo e=>x.there _ o e
 bmod:=l0 B.bmod λbm o e1 e2 e3 e4 e5=>ZX bm o e1 e2 e3 (x.keep bm o e3 e4) e5
theorem FnAt.ext(f:FnAt U a fd)(x:hJ H U h):FnAt h a fd where
 obj:=bh f.obj λo e d=>ct o (x.keep a o f.off e) d
 off:=f.off
 code:=gv f.code λc oc ws t e1 e2 e3 e4=>DP c oc ws t e1 e2 (x.keep c oc e2 e3) e4
theorem PS.base(p:PS H U L J aJ bq bA G S s)(B:cA U mg mb):cA s.heap mg mb:=B.ext p.ext
theorem PS.get(p:PS H U L J aJ bq bA G S s)(h:(a,o)∈S):s.heap.get? a=O o:=(p.sg _ h).1
theorem zW.mod(cB:zW U S h)(m:Mod W h h')(hw:∀p∈S,p.1∉W):zW U S h':=λp hp=>iM (cB p hp) λa b c d=>rO (m.keep _ _ (hw p hp) b a) b c d
theorem zW.ext(cB:zW U S h)(x:hJ H h h'):zW U S h':=λp hp=>iM (cB p hp) λa b c d=>rO (x.keep _ _ b a) b c d
theorem PS.step(p:PS H U L J aJ bq bA G S s)(r:FR H U U L J s.heap G W)(hW:(∀b∈W,b∈bq\/aJ.heap.get? b=ai)/\∀p∈S,p.1∉W)(m:mB W s Y)(r':FR τ' U U L J Y.heap G' W')(CA:∀d,d∈W'->d∈W\/s.heap.get? d=ai):PS τ' U L J aJ bq bA G' S Y where
 fr:=⟨W',r',λb D=>by
  show bf (CA b D) (λq=>hW.1 b q) λq=>aH (p.mod.mod.new q),λx E q=>by
  rcases CA _ q with q|q
  .show hW.2 x E q
  .have q:=((p.sg x E).1).symm.trans q;ext⟩
 sg:=p.sg.mod m.mod hW.2
 mod:=p.mod.trans m.p λd hd=>bf (hW.1 d hd) (λq=>ao (dc _ q)) λq=>aH q
 lD:=p.lD
theorem PS.grow(p:PS H U L J aJ bq bA G S s)(x:dz H s Y):PS H U L J aJ bq bA G S Y:=
 bh p.fr λW r hW=>(p.step r hW (x.smod W) (r.grow x.ext) λd hd=>ao hd)
theorem PS.less(p:PS H U L J aJ bq bA G S s)(g:ko G' G):PS H U L J aJ bq bA G' S s:=bh p.fr λW r hW=>⟨(ct W (r.less g) hW),p.sg,p.mod,p.lD⟩
theorem PS.share(p:PS H U L J aJ bq bA G S s)(y:Nat):PS H U L J aJ bq bA (Lake.share G y) S s:=bh p.fr λW r hW=>gH (r.share y) λW' r' hw _=>⟨(kH W' r' (λb D=>hW.1 b (hw b D)) (λx E q=>hW.2 x E (hw _ q))),p.sg,p.mod,p.lD⟩
theorem PS.sub(p:PS H U L J aJ bq bA G S s)(h:∀x∈S',x∈S):PS H U L J aJ bq bA G S' s:=⟨gH p.fr λW r a b=>(kH W r a (λx E=>b x (h x E))),λx E=>p.sg x (h x E),p.mod,λx E=>p.lD x (h x E)⟩
noncomputable def Rw(o:bj):Bool:=match o.data with
 |qo ..=>N
 |te=>N
 |_=>af
theorem Ρ(e:h.get? a=O o)(hi:Rw o=N):kM h a:=by
 show ct o e ?_;unfold Rw at hi;cases q:o.data with
 |bytearray b n=>show aH (aH (ao (qB b n Z)))
 |plain=>show aH (aH (aH Z))
 |_=>have hi:=q▸hi;show Ip (by assumption)
theorem PS.aeo(p:PS H U L J aJ bq bA G S s){o':bj}(ha:(a,o)∈S)(hi:s.heap.get? a=O o->kM s.heap a)(t:Tn [a] s Y)(ho:Y.heap.get? a=O o')(hs:Hd o'=N)(hS:∀x∈S',(x.1=a/\x.2=o')\/(x.1≠a/\x∈S)):PS H U L J aJ bq bA G S' Y:=by
 show bh p.fr λW r hW=>iM (p.sg _ ha) λe1 e2 e3 e4=>have hnW:=hW.2 _ ha;⟨(kH W (r.off (λb o D e=>t.keep b o D e) (λb D=>by show(bJ.mp D)▸?_;show⟨hi e1,e2,e4,hnW⟩)) hW.1 (λx E=>?_)),λx E=>?_,p.mod.trans (t.smod λb D=>by show bJ.mp D▸?_;show e2).p λd hd=>?_,λx E=>?_⟩
 .rcases hS x E with⟨q1,q2⟩|⟨q1,q2⟩
  .show q1.symm▸hnW
  .show hW.2 x q2
 .rcases hS x E with⟨q1,q2⟩|⟨q1,q2⟩
  .show q1.symm▸q2.symm▸rO ho e2 hs e4
  .show iM (p.sg x q2) λc1 c2 c3 c4=>rO (t.keep _ _ (by simpa using q1) c1) c2 c3 c4
 .apply jT hd;show bf (p.lD _ ha) (λq=>ao (ew _ q)) λq=>aH q
 .rcases hS x E with⟨q1,q2⟩|⟨q1,q2⟩
  .show q1.symm▸p.lD _ ha
  .show p.lD x q2
protected theorem PS.turn(p:PS H U L J aJ bq bA G S s){o':bj}(ha:(a,o)∈S)(hi:Rw o=N)(t:Tn [a] s Y)(ho:Y.heap.get? a=O o')(hs:Hd o'=N)(hS:∀x∈S',(x.1=a/\x.2=o')\/(x.1≠a/\x∈S)):PS H U L J aJ bq bA G S' Y:=p.aeo ha (Ρ · hi) t ho hs hS
theorem PS.here(p:PS H U L J aJ bq bA G S s):∃W,(∀b∈W,b∈bq\/aJ.heap.get? b=ai)/\PS H U L J s W (S.map (·.1)) G S s:=
 bh p.fr λW r hW=>⟨W,hW.1,(kH W r (λb D=>ao D) hW.2),p.sg,.refl _ _,λx E=>ao (bG.mpr (ct x E Z))⟩
theorem PS.back(p:PS H U L J aJ bq bA G S s)(hW:∀b∈W,b∈bq\/aJ.heap.get? b=ai)(q:PS τ' U L J s W (S.map (·.1)) G' S' Y):PS τ' U L J aJ bq bA G' S' Y where
 fr:=gH q.fr λW' r h h2=>⟨W',r,λb D=>by
  rcases h b D with x|x
  .show hW b x
  .show aH (p.mod.mod.new x),h2⟩
 sg:=q.sg
 mod:=p.mod.trans q.mod λd hd=>by
  rcases b9.mp hd with x|x
  .show bf (hW d x) (λy=>ao (dc _ y)) λy=>aH y
  .show bh (bG.mp x) λz hz dX=>dX▸bf (p.lD z hz) (λy=>ao (ew _ y)) λy=>aH y
 lD:=λx E=>by
  rcases q.lD x E with y|y
  .show bh (bG.mp y) λz hz e=>e▸p.lD z hz
  .show aH (p.mod.mod.new y)
def acf(A:ck)(J:cg)(rest:List bT)(Q:b8->ae->Prop)(f:b8)(s:ae):Prop:=match f with
 |cJ=>C A (aU rest J) s Q
 |f=>Q f s
theorem eZ(h:Q cJ s):C A (aU [] J) s Q:=λ_ _ _ _=>h
theorem iq(h:C A (mV st J) s (acf A J rest Q)):C A (aU (st::rest) J) s Q:=λΓ p wh hc=>by rw[Kg,VC];show tx (aG prog w) Γ _ (λf p' Y h'=>?_) (λ_ _ _ h'=>h') _ _ (@h Γ p wh hc);cases f<;>first|show @h' Γ p' wh hc|show h'
theorem YG(l rest:List bT)(J:cg):aU (l++rest) J=aU l J>>=λf=>match f with|cJ=>aU rest J|f=>pure f:=by
 induction l with
 |nil=>show(?_:aU rest J=(pure cJ:aE b8)>>=_);rw[pure_bind]
 |cons st l ih=>
  rw[EJ,Kg,Kg,bind_assoc];congr 1
  funext f
  cases f with
  |next=>show ih
  |_=>rfl
theorem afe{l:List bT}(h:C A (aU l J) s (acf A J rest Q)):C A (aU (l++rest) J) s Q:=by
 rw[YG];show C.bind (h.mono λf Y h'=>?_);cases f with
 |next=>show h'
 |_=>show C.pure h'
protected theorem PS.s1(p:PS H U L J aJ bq bA G S s)(x:S1m H τ' U A L J st G G' ai)(k:∀Y,PS τ' U L J aJ bq bA G' S Y->C A (aU rest J) Y Q):
 C A (aU (st::rest) J) s Q:=bh p.fr λW r hW=>iq<|(x r).wx λf Y oq=>oU oq λm hf W' r' CA=>hf▸k Y (p.step r hW m r' CA)
protected theorem PS.ss{l:List bT}(p:PS H U L J aJ bq bA G S s)(x:pM H τ' U A L J l G G' ai)(k:∀Y,PS τ' U L J aJ bq bA G' S Y->C A (aU rest J) Y Q):
 C A (aU (l++rest) J) s Q:=bh p.fr λW r hW=>afe<|(x r).wx λf Y qQ=>oU qQ λm hf W' r' CA=>hf▸k Y (p.step r hW m r' CA)
theorem PS.asg{q:aY}(p:PS H U L J aJ bq bA G S s)(he:V H s.heap A L J G e av af)(hf:flat av=N)(dH:bW G x=N)(E:Hx L x)(hs:fu e (O (ar (NM x) q)) pos.line J=pure af)(k:∀Y,PS H U L J aJ bq bA (jm G x 0 av) S Y->C A (aU rest J) Y Q):C A (aU (fE [ar (NM x) q] e pos::rest) J) s Q:=by show bh p.fr λW r hW=>(iq (T.wx (P:=λf Y=>f=cJ/\PS H U L J aJ bq bA (jm G x 0 av) S Y) ?_ λf Y qQ=>eX qQ λe1 e2=>by show e1▸?_;show k Y e2));show xF ((he p.er).tN λv aD F e1 aO _=>?_) hs;show(kb (r.grow e1.ext) E dH aO (.flat (cV.1 _ _ _ hf aO))).Cu λ_ aQ r2 m2=>⟨rfl,p.step r hW (e1.sm m2) r2 λd hd=>ao hd⟩
theorem acg{q:aY}(p:PS H U L J aJ bq bA G S s)(he:V H s.heap A L J G e av N)(hf:wa av=N)(dH:bW G x=N)(E:Hx L x)(hs:fu e (O (ar (NM x) q)) pos.line J=pure af)(k:∀Y,PS H U L J aJ bq bA (jm G x 1 av) S Y->C A (aU rest J) Y Q):C A (aU (fE [ar (NM x) q] e pos::rest) J) s Q:=by
 show bh p.fr λW r hW=>(iq (T.wx (P:=λf Y=>f=cJ/\PS H U L J aJ bq bA (jm G x 1 av) S Y) ?_ λf Y qQ=>eX qQ λe1 e2=>by show e1▸?_;show k Y e2));show xF ((he p.er).tN λv aD F e1 aO hn=>?_) hs;show eX (hn Z) λh1 h2=>((kb (r.grow e1.ext) E dH aO (.fresh h1 h2 (Gh hf aO) r e1.ext)).Cu λ_ aQ r2 m2=>⟨rfl,p.step r hW (e1.sm m2) r2 λd hd=>?_⟩);rcases b9.mp hd with q|q
 .show ao q
 .show aH (h1 d q)
theorem PS.ite{c:aw}{a b:List bT}{x:Bool}(p:PS H U L J aJ bq bA G S s)(hc:oZ H s.heap A L J G c x)(k:∀Y,PS H U L J aJ bq bA G S Y->C A (aU (cond x a b) J) Y (acf A J rest Q)):C A (aU (AZ c a b pos::rest) J) s Q:=by show iq<|nQ<|C.bind<|(hc p.er).wx λv aQ kq=>have:=k aQ (p.grow kq.1);kq.2.symm▸?_;cases x<;>show this
end
variable{bw L' S S':Sg}
section
variable{Q:b8->ae->Prop}
theorem WN{vS:List bT}(I:Nat->ae->Prop)(turn:∀n s (P1:Option aa->ae->Prop) (P2:ae->Prop) (P3:b8->ae->Prop),(∀aD,C A (aU vS J) aD (λf=>aM (cf f))->P1 ai aD)->(∀v aD,C A (jF cu it v) aD (λ_ uD=>C A (jJ cu J v) uD (λ_=>P2))->P1 (O v) aD)->
 (∀aQ,C A (aU body J) aQ P3->P2 aQ)->(∀m de,m<n->I m de->P3 cJ de)->I n s->C A (gY it) s P1)(n:Nat)(h:I n s):CC A (E5 cu it body vS J) s aM:=by
 induction n using Uy generalizing s with
 |ind n ih=>
  show jn Z<|C.onRaise<|nQ (C.bind (C.onRaise ((turn n s (λr aD=>match r with
   |none=>C A (aU vS J) aD (λf de=>aM (cf f) de)
   |some v=>C A (jF cu it v) aD (λ_ uD=>C A (jJ cu J v) uD (λ_ aQ=>C A (aU body J) aQ (λf de=>match f with
    |cJ|Flow.cont=>∃m,m<n/\I m de
    |Flow.brk=>aM (cf cJ) de
    |cL v=>aM (cf (cL v)) de)))) _ _ (λ_ h=>h) (λ_ _ h=>h) (λ_ h=>h) (λm _ a b=>ct m a b) h).mono λr aD U=>?_)))
  cases r with
  |none=>show C.pure ⟨rfl,jn Z ?_⟩;show C.bind (C.onRaise (C.mono U λf Y h'=>C.pure h'))
  |some v=>
   show C.bind<|C.mono U λ_ uD γ=>C.bind (C.mono γ λ_ aQ kq=>C.bind (C.mono kq λf de uk=>?_));cases f with
   |next=>obtain⟨m,hm,hI⟩:=uk;show C.pure ⟨rfl,ih m hm hI⟩
   |cont=>obtain⟨m,hm,hI⟩:=uk;show C.pure ⟨rfl,ih m hm hI⟩
   |brk=>show C.pure uk
   |ret v=>show C.pure uk
theorem Τ{vS:List bT}(I:Nat->ae->Prop)(turn:∀n s (P1:Option aa->ae->Prop) (P2:ae->Prop) (P3:b8->ae->Prop),(∀aD,C A (aU vS J) aD (λf=>aM (cf f))->P1 ai aD)->(∀v aD,C A (jJ cu J v) aD (λ_=>P2)->P1 (O v) aD)->
 (∀aQ,C A (aU body J) aQ P3->P2 aQ)->(∀m de,m<n->I m de->P3 cJ de)->I n s->C A (gY it) s P1)(n:Nat)(h:I n s)(ht:∀v,jF cu it v=pure ()):CC A (E5 cu it body vS J) s aM:=
 WN I (λn s P1 P2 P3 a b=>turn n s P1 P2 P3 a λv aD q=>b v aD (C.eq (ht v) q)) n h
theorem Rx{vS:List bT}(hs:Fs iter J)(h:C A (aZ iter J) s (λx aD=>C A (gm x) aD (λit aQ=>CC A (E5 cu it body vS J) aQ (λr Y=>match r with|cf f=>Q f Y|kY _=>False)))):
 C A (mV (lh cu iter body vS pos) J) s Q:=nQ<|C.bind<|h.mono λx aD U=>C.bind<|C.eq (hs x)<|nQ<|lI<|C.mono U λit aQ kq=>C.onRaise (C.run kq)
inductive aj9{ζ:Type}(H:List ab)(U:aN)(L:c9)(J:cg)(s:ae)(S:Sg)(W fp:List ab)(iT:Nat->ζ->ig)(Sj:Nat->ζ->Sg)(St:Nat->aN->Prop)(n₀ m:Nat)(Y:ae):Prop
 |mk (i:Nat) (z:ζ) (W':List ab) (e:m=n₀+1 - i) (hi:i<=n₀) (m1:sy (W++S.map (·.1)) s Y) (st:St i Y.heap) (r:FR H U U L J Y.heap (iT i z) W') (hW:∀d,d∈W'->d∈W\/s.heap.get? d=ai) (cB:zW U (Sj i z) Y.heap)
  (kn:∀y∈Sj i z,y.1∈S.map (·.1)\/s.heap.get? y.1=ai) (dj:∀y∈Sj i z,y.1∉W') (fW:∀d∈fp,d∉W') (fS:∀d∈fp,∀y∈Sj i z,y.1≠d) (fe:∀d∈fp,∃o,Y.heap.get? d=O o)
theorem yQ(x:Nat)(ns:List Int){ζ:Type}(iT:Nat->ζ->ig)(Sj:Nat->ζ->Sg)(aff:ζ)(p:PS H U L J aJ bq bA G S s)(um:zr H s.heap A L J G iter ns)(h0:ko (iT 0 aff) G)(ZP:∀y∈Sj 0 aff,y∈S)(E:Hx L x)(dH:∀i z,i<ns.length->bW (iT i z) x=N)(step:∀i n z aD W,ns[i]? =O n->PS H U L J aD W ((Sj i z).map (·.1)) (jm (iT i z) x 0 (a9 n)) (Sj i z) aD->
 C A (aU body J) aD (λf aQ=>f=cJ/\∃z',PS H U L J aD W ((Sj i z).map (·.1)) (iT (i+1) z') (Sj (i+1) z') aQ))(hs:Fs iter J)(k:∀Y z,PS H U L J aJ bq bA (iT ns.length z) (Sj ns.length z) Y->C A (aU rest J) Y Q):
 C A (aU (lh (ar (NM x) px) iter body [] pos::rest) J) s Q:=by
 show bh p.fr λW r hW=>(iq (Rx hs ((um s p.er).wx λv aD q=>q.wx λit aQ oq=>?_)));obtain⟨e1,I,fp,wr,St,Wk,st,Gk,X',Ai⟩:=oq;have fpW:∀b∈fp,b∉W:=λb hb' hw=>by
  rcases(Ai b hb').2.2 with h|h
  .obtain ⟨o,e⟩:=(λb hb'=>oU (r.jj b hb') λ_ _ o e _=>⟨o,e⟩:∀b∈W,∃o,s.heap.get? b=O o) b hw;have e:=h.symm.trans e;ext
  .show h.U' r hw
 have fpS:∀b∈fp,∀y∈S,y.1≠b:=λb hb' y hy e=>by
  subst e;show iM (p.sg y hy) λc1 c2 c3 c4=>?_;rcases(Ai _ hb').2.2 with h|h
  .have h:=c1.symm.trans h;ext
  .show wA h λz k' av v' F e hk cB aO D=>og λgG kG=>iN (aO.kinds _ D) λ_ o e1 e2=>kG ?_;clear kG gG;rw[c1]at e1;obtain rfl:=aV e1;unfold Hd at c3;rcases e2 with⟨h1,vs,n,h2⟩|⟨v,h2⟩
   .have c3:=h1▸h2▸c3;ext
   .have c3:=h2▸c3;show Ip (by assumption)
 have wrT:=λb hb'=>(Ai b (Wk.sub b hb')).1;have wrB:∀b∈wr,s.heap.get? b=ai/\b∉bY:=λb hb'=>⟨X' b hb',wrT b hb'⟩;show Τ (aj9 H U L J s S W fp iT Sj St ns.length) ?_ (ns.length+1)
  ⟨0,aff,W,rfl,fg _,(e1.smod _).p,st,(r.grow e1.ext).less h0,λd hd=>ao hd,(λy hy=>(p.sg.ext e1.ext) y (ZP y hy)),λy hy=>ao (bG.mpr (ct y (ZP y hy) Z)),λy hy=>hW.2 y (ZP y hy),fpW,λd hd y hy=>fpS d hd y (ZP y hy),λd hd=>(Ai d hd).2.1⟩ (λ_=>rfl)
 rintro m Y P1 P2 P3 q0 q1 q2 q3 ⟨i,z,W',dX,hi,m1,NU,r',CA,H',kn',dj',hfW,hfS,hfe⟩;have wrF:∀b∈wr,kM Y.heap b/\b∉bY/\U.get? b=ai/\b∉W':=λb hb'=>⟨Gk i _ NU b hb',wrT b hb',r.base.new (X' b hb'),hfW b (Wk.sub b hb')⟩;by_cases jA:i<ns.length
 .show cR<|Wk.item i Y _ _ jA NU λv h' tk qQ st2 keep=>eQ qQ λn t hn hv=>hv▸have m2:sy (W++S.map (·.1)) s {Y with heap:=h',toks:=tk}:=m1.off keep wrB;have H2:zW U (Sj i z) h':=λy hy=>iM (H' y hy) λa b c d=>rO (keep _ _ (λq=>hfS _ (Wk.sub _ q) y hy Z) a) b c d;q1 _ _ ?_;have ex2:∀d∈fp,∃o,h'.get? d=O o:=λd hd=>if hdw:d∈wr then bh (Gk _ _ st2 d hdw) λo e _=>⟨o,e⟩ else dG (hfe d hd) λo e=>⟨o,keep d o hdw e⟩
  show T.wx (jE (kb (r'.off keep wrF) E (dH i z jA) (.ofInt n t) (.flat Z))) λ_ de qQ=>eX qQ λr3 m3=>(q2 _ ((step i n z de W' hn (⟨(kH W' r3 (λb D=>ao D) dj'),(H2.mod m3.mod dj'),.refl _ _,λy hy=>ao (bG.mpr (ct y hy Z))⟩)).mono λf fq ξ=>?_));obtain⟨hf,z',p4⟩:=ξ;subst hf;show gH p4.fr λW4 r4 hW4 dj4=>?_;have k23:=λd hd o e=>m3.mod.keep d o (hfW d hd) (Ai d hd).1 e;have fpX:∀d∈fp,d∉W'++(Sj i z).map (·.1):=λd hd q=>bf (b9.mp q) (λq=>hfW d hd q) λq=>bh (bG.mp q) λy hy e=>(hfS d hd y hy e);have k34:=λd hd o e=>p4.mod.mod.keep d o (fpX d hd) (Ai d hd).1 e;have m23:=m2.trans m3.p λd hd=>bf (CA d hd) (λq=>ao (dc _ q)) λq=>aH q;have m24:=m23.trans p4.mod λd hd=>by
   rcases b9.mp hd with q|q
   .show bf (CA d q) (λq=>ao (dc _ q)) λq=>aH q
   .show bh (bG.mp q) λy hy e=>e▸bf (kn' y hy) (λq=>ao (ew _ q)) λq=>aH q
  show q3 (ns.length+1 - (i+1)) _ (dX▸rx (kV jA) (jb i)) ⟨i+1,z',W4,rfl,jA,m24,Wk.frame _ _ _ st2 (λd hd o e=>k34 d hd o (k23 d hd o e)),r4,λd hd=>bf (hW4 d hd) (λh=>CA d h) λh=>aH (m23.mod.new h),p4.sg,λy hy=>?_,dj4,λd hd hw=>?_,λd hd y hy e=>?_,λd hd=>dG (ex2 d hd) λo e=>⟨o,k34 d hd o (k23 d hd o e)⟩⟩
  .rcases p4.lD y hy with q|q
   .show bh (bG.mp q) λy' hy' e=>e▸kn' y' hy'
   .show aH (m23.mod.new q)
  .show bf (hW4 d hw) (λh=>hfW d hd h) λh=>?_;obtain⟨o,e⟩:=ex2 d hd;have h:=(k23 d hd o e).symm.trans h;ext
  .show bf (p4.lD y hy) (λq=>bh (bG.mp q) λy' hy' e'=>(hfS d hd y' hy' (e'.trans e))) λq=>?_;obtain⟨o,e'⟩:=ex2 d hd;have q:=(k23 d hd o e')▸e▸q;ext
 .have:i=ns.length:=by lia
  subst this;show cR<|Wk.done Y _ _ NU λh' tk keep=>q0 _ (eZ ?_);have pe:PS H U L J s W (S.map (·.1)) (iT ns.length z) (Sj ns.length z) {Y with heap:=h',toks:=tk}:=
   ⟨(kH W' (r'.off keep wrF) CA dj'),λy hy=>iM (H' y hy) λa b c d=>(rO (keep _ _ (λq=>hfS _ (Wk.sub _ q) y hy Z) a) b c d),m1.off keep wrB,kn'⟩
  show k _ z (p.back hW.1 pe)
end
theorem w6{k:Int}{t:aW}{x:UInt8}{Q:aa->ae->Prop}(ha:s.heap.get? a=O (pO b))(h0: -(2 ^ 62)<=k)(h1:k<2 ^ 62)(hj:rg k b.size=O j)(E:b[j]? =O x)(h:Q (ah (x.toNat:Int) s.toks) {s with toks:=s.toks+1}):ax (aG prog w) A (xT (R a) (ah k t)) Q a6 s:=by show cO<|ag<|xG (fm ha) (rfl)<|ag (kT (name:=aC "__getitem__") (fm ha) jD (qf jD (fm ha) uF (gu.1 _ _) (OQ a b k t j x h0 h1 hj E) ⟨ha,?_⟩));show aB h
theorem w7{k:Int}{t u:aW}{v:Nat}{Q:Unit->ae->Prop}(ha:s.heap.get? a=O (pO b))(h0: -(2 ^ 62)<=k)(h1:k<2 ^ 62)(hj:rg k b.size=O j)(hv:v<256)(D:b.size<=1000)(h:Q () {s with heap:=s.heap.update a (jM λb=>b.setIfInBounds j v.toUInt8)}):ax (aG prog w) A (Ay (R a) (ah k t) (ah (aj v) u)) Q a6 s:=by show cO<|ag<|xG (fm ha) (rfl)<|ag (kT (name:=aC "__setitem__") (fm ha) ny (qf ny (fm ha) uG (gu.2.1 _ _ _) (OS a b k t v u j h0 h1 hj hv D) ⟨ha,?_⟩));show aB h
theorem Ry{Q:aa->ae->Prop}(ha:s.heap.get? a=O (pO b))(D:b.size<=1000)(h:Q (ah (b.size:Int) (s.toks+1)) {s with toks:=s.toks+1+1}):ax (aG prog w) A (call (bx "len") [R a]) Q a6 s:=
 aa6 (n:=b.size) (fm ha) wX (λQ' hq=>qf wX (fm ha) MN (gu.2.2.1 _) (acd a b) ⟨ha,hq⟩) (Int.not_ofNat_neg b.size) au h
def kB(ns:LN):bj:=pO (wk ns)
def lY(ns:LN):Prop:=(∀n∈ns,n<256)/\ns.length<=1000
theorem ib(ns:LN):(wk ns).size=ns.length:=by simp[wk]
theorem MU(h:ns[j]? =O x):(wk ns)[j]? =O x.toUInt8:=by simp[wk,h]
theorem Rz(h:x<256):(x.toUInt8).toNat=x:=by simp[Nat.toUInt8];lia
theorem WO(ns:LN)(j v:Nat):(wk ns).setIfInBounds j v.toUInt8=wk (ns.set j v):=by apply A7;simp[wk]
theorem lY.set(h:lY ns)(j:Nat){v:Nat}(hv:v<256):lY (ns.set j v):=⟨λn hn=>by
 rcases u7 hn with q|q
 .show h.1 n q
 .rw [q];show hv,by simpa using h.2⟩
section
variable{Q:b8->ae->Prop}
theorem bR.ir(v:aa):bR h (aX v) v []:=⟨rfl,rfl⟩
theorem bR.DA{u:aa}(x:bR h (aX u) v F):v=u:=x.1
theorem B1{i:aw}(ho:U.get? a=O (kB ns))(ht:a∉bY)(hB:lY ns)(he:V H U A L J G e (aX (R a)) af)(hi:V H U A L J G i (aT k) af)(hk:ns[k]? =O x)(r9:j9 i=af):V H U A L J G (dk e i pos) (aT x) fr:=λs r=>by show rH<|(he r).Z7 λaD e1=>(hi (r.ext e1.ext)).Cx λt aQ e2=>have I7:=e1.trans e2;have Ο:=(r.base.trans I7.ext).keep a _ ht ho;have jA:k<ns.length:=(dR.mp hk).1;have hl:=hB.2;vj (fm Ο) jD.lookup (w6 Ο (j:=k) (x:=x.toUInt8) fF au (Cw (by rw[ib];show jA)) (MU hk) ?_) (uB r9 _ _);show oY [] (I7.trans (.toks _ _)) ?_ d9;rw[Rz (hB.1 x (cW hk))];show .ofInt _ _
theorem uI(B:cA U mg mb)(I:dQ mg mb)(kO:Gi L "len")(ho:U.get? a=O (kB ns))(ht:a∉bY)(hB:lY ns)(he:V H U A L J G e (aX (R a)) af)(dH:cG e=af):
 V H U A L J G (bI (ar (aC "len") np) [e] [] pos) (aT ns.length) fr:=λs r=>by
 have hI:=I ("len",bx "len") aK;show ma<|(ez B r kO hI.1 hI.2 (rfl)).Dj<|yq ((fJ.cons he fJ.nil dH s pos r).QM λvs aD F1 e1 V1=>?_) (dp dH _ _) Z;apply vB V1;show Ry ((r.base.trans e1.ext).keep a _ ht ho) (by rw[ib];show hB.2) (oY [] (e1.trans (.toks _ _)) ?_ d9);rw[ib];show .ofInt _ _
theorem w9(a:ab)(k x:Nat){i v:aw}{p':aY}(p:PS H U L J aJ bq bA G S s)(hv:V H s.heap A L J G v (aT x) af)(he:V H s.heap A L J G e (aX (R a)) af)(hi:V H s.heap A L J G i (aT k) af)(ha:(a,kB ns)∈S)(hB:lY ns)(hk:k<ns.length)(E:x<256)(hs:fu v (O (dk e i p')) pos.line J=pure af)(hS:∀y∈S',(y.1=a/\y.2=kB (ns.set k x))\/(y.1≠a/\y∈S))(kk:∀Y,PS H U L J aJ bq bA G S' Y->C A (aU rest J) Y Q):C A (aU (fE [dk e i p'] v pos::rest) J) s Q:=by show iq (Lake.T.wx (P:=λf Y=>f=cJ/\PS H U L J aJ bq bA G S' Y) ?_ λf Y qQ=>eX qQ λe1 e2=>by show e1▸?_;show kk Y e2);show JL ((hv p.er).Cx λt aD e1=>(he (p.er.ext e1.ext)).Z7 λaQ e2=>(hi ((p.er.ext e1.ext).ext e2.ext)).Cx λt3 de e3=>?_) hs;have p3:=p.grow ((e1.trans e2).trans e3);have ho:=p3.get ha;have hl:=hB.2;show w7 ho (j:=k) fF au (Cw (by rw[ib];show hk)) E (by rw[ib];show hl)<|eX (Tn.upd (X:=[a]) (s:=de) (f:=λb=>b.setIfInBounds k x.toUInt8) ho bB) λt2 g2=>?_;rw[WO]at g2;show⟨rfl,p3.turn ha Z t2 g2 Z hS⟩
theorem Υ{v l r:aw}{op:Operator}{qp:aY}{p':aY}(p:PS H U L J aJ bq bA G S s)(hv:V H s.heap A L J G v (aT x) af)(he:V H s.heap A L J G e (aX (R a)) af)(hi:V H s.heap A L J G (eu l op r qp) (aT k) af)(ha:(a,kB ns)∈S)(hB:lY ns)(hk:ns[k]? =O y)(E:x<256)(hS:∀z∈S',(z.1=a/\z.2=kB (ns.set k (y ^^^ x)))\/(z.1≠a/\z∈S))(kk:∀Y,PS H U L J aJ bq bA G S' Y->C A (aU rest J) Y Q):C A (aU (E6 (dk e (eu l op r qp) p') Bc v pos::rest) J) s Q:=by
 show iq (Lake.T.wx (P:=λf Y=>f=cJ/\PS H U L J aJ bq bA G S' Y) ?_ λf Y qQ=>eX qQ λe1 e2=>by show e1▸?_;show kk Y e2);have eq:mV (E6 (dk e (eu l op r qp) p') Bc v pos) J=(do
  jH pos
  let ov<-aZ e J
  let iv<-holding [ov] (aZ (eu l op r qp) J)
  let new<-holding [ov,iv] do
   jH p'
   let old<-xT ov iv
   let v<-holding [old] (aZ v J)
   jH pos
   Ax [old,v] (Kj Bc old v)
  jH p'
  holding [new,ov,iv] (Ay ov iv new)
  release [new,ov,iv] []
  pure cJ):=rfl
 have jA:k<ns.length:=(dR.mp hk).1;have hy:y<256:=hB.1 y (cW hk);have hl:=hB.2;show ag<|jW<|ag<|(he p.er).Z7 λaD e1=>ag<|cO<|(hi (p.er.ext e1.ext)).Cx λt2 aQ e2=>have I7:=e1.trans e2;ag<|cO<|ag<|jW<|ag<|w6 ((p.grow I7).get ha) (j:=k) (x:=y.toUInt8) au au (Cw (by rw[ib];show jA)) (MU hk)<|(Rz hy).symm▸have ahs:dz H s {aQ with toks:=aQ.toks+1}:=I7.trans (.toks _ _);ag<|cO<|(hv (p.er.ext ahs.ext)).Cx λt4 fq e4=>ag<|jW<|wpAny_operating ((Og (op:=.xor) (H:=H) (x:=aj y) (y:=aj x) Z (aH (aH Z))).wp3 λnv hO t5 e5 hnv=>?_);subst hnv;have p5:=p.grow ((ahs.trans e4).trans e5);have ho:=p5.get ha;show ag<|jW<|ag<|cO<|w7 ho (j:=k) au au (Cw (by rw[ib];show jA)) (EU (n:=8) hy E) (by rw[ib];show hl)<|eX (Tn.upd (X:=[a]) (s:=hO) (f:=λb=>b.setIfInBounds k (y ^^^ x).toUInt8) ho bB) λt6 g6=>?_;rw[WO]at g6;show ag λΓ q wh=>aB ⟨rfl,p5.turn ha Z t6 g6 Z hS⟩
end
noncomputable def WQ(f:b8):aa:=match f with
 |cL v=>v
 |_=>aA
theorem ach(h:C (A.deeper J) (aU body J) s (λf Y=>aM (cf (cL (WQ f))) Y)):CC A (Code.func body J) s aM:=by show jn Z (C.bind (C.point (C.bind (C.onRaise (h.mono λf Y h'=>?_)))));cases f<;>show C.pure h'
theorem WR{us:List aa}{K:LN}(B:cA U mg mb)(x1:hJ H U s.heap)(bM:A.depth<1000)(ho:s.heap.get? a=O o)(hd:o.data=qq fd)(hcr:s.heap.CodeRec fd.code fd.qualname)(Ot:fd.body=lj body)(ae1:fd.closure=[])(Dr:fd.scope.isCoroutine=af)(zd:fd.scope.isGenerator=af)(se:T A.in1 (du fd ⟨vs,[]⟩) s (λbs Y=>Y=s/\bs=(K.map NM).zip us))(aO:bC s.heap avs us F)(hk:fd.scope.kind=d0)(hgl:fd.globals=ef)(hbi:fd.builtins=fY)(tR:K.Nodup)(dM:K.length=us.length)(E:∀x∈K,Hx fd.scope x)(cB:zW U S s.heap)(hw:∀aQ bw,PS H U fd.scope (gJ fd bw a) s [] (S.map (·.1)) (qG K avs) S aQ->
 C (A.deeper (gJ fd bw a)) (aU body (gJ fd bw a)) aQ (λf Y=>aM (cf (cL (WQ f))) Y)):CC A (m8 (R a) ⟨vs,[]⟩) s aM:=by
 show jn Z<|C.bind<|T.wc<|iX ho<|gv hcr λc oc ws tq hc hoc hdc hq=>?_;rw[hd];show(?_:C _ (callFunction a fd _) _ _)
 delta callFunction
 rw[Dr,zd,Ot,hc];show C.bind<|T.wc<|fX hoc hdc hq<|C.bind<|C.pure<|C.bind (se.wx λbs s1 qQ=>eX qQ λe1 e2=>?_);subst e1 e2;rw[ae1];show C.bind (T.wc (S4 hk (λx hxm=>?_) λfV he s2 ic=>?_))
 .obtain ⟨n,v⟩:=x;show bh (bG.mp ((sT hxm).1)) λy hy dX=>?_;subst dX;rcases E y hy with q|q
  .show ao q
  .show aH ⟨q,kr _ _ _ _ (ao (mH q))⟩
 .have Ja:fV=gJ fd s1.heap.objs.size a:=by rw[he];delta gJ;rw[hc]
  subst Ja;have fr0:=FR.start B.top x1 aO hk hgl hbi tR dM E ic;show eQ ic.done λhh tk e2 alo=>(C.bind (Lake.T.wc (wpAny_enterFrame ((B.zo x1).keeps ic.toInCall.keep) (by assumption) (C.pure ⟨rfl,ach (hw s2 _ ⟨(kH _ fr0.rebase (λb D=>aH ((fr0.jj b D).1)) (λp hp q=>?_)),cB.ext (H:=H) (.of_keep ic.toInCall.keep),?_,λp hp=>ao (bG.mpr (ct p hp Z))⟩)⟩))))
  .have:=(fr0.jj _ q).1;have this:=((cB p hp).1).symm.trans this;ext
  .subst e2;show⟨(hJ.of_keep (H:=H) ic.toInCall.keep).mod _,rfl,rfl,.refl _⟩
theorem fU{id:aP}{args:List aw}{Q:aa->ae->Prop}(h:C A (aZ (ar id p) J) s (λf aD=>C A (xQ pos f [] (jI pos (iY args J)) []) aD Q)):
 C A (aZ (bI (ar id p) args [] pos) J) s Q:=
 C.bind h
theorem c8{Q:List aa->ae->Prop}(h:Q [] s):C A (oB []) s Q:=C.pure h
theorem cx{x:aE aa}{rest:List (Bool×aE aa)}{Q:List aa->ae->Prop}(h:C A x s (λv aD=>C A (oB rest) aD (λvs aQ=>Q (v::vs) aQ))):C A (oB ((af,x)::rest)) s Q:=C.bind<|h.mono λv aD U=>C.bind (C.pure (lI (C.mono U λvs aQ kq=>C.pure kq)))
theorem ej{f:aa}{x:aE aa}{rest:List (Bool×aE aa)}{Q:sP->ae->Prop}(h:C A (oB ((af,x)::rest)) s (λvs Y=>Q ⟨vs,[]⟩ Y)):C A (xR f N ((af,x)::rest) []) s Q:=C.bind<|h.mono λvs Y h'=>C.holding (C.pure h')
theorem B2{f:aa}{Q:sP->ae->Prop}(h:Q ⟨[],[]⟩ s):C A (xR f N [] []) s Q:=C.bind<|c8<|C.bind<|C.pure<|C.holding (C.pure h)
theorem C.keep{m:aE α}{Q:α->ae->Prop}(h:C A m s Q):C A (m.keep vs) s Q:=λΓ p wh hc=>by rw[Sem.wp_keep];show @h Γ p wh hc
theorem pE(o:bj)(fd:bQ){first:List aa}{args:List (Bool×aE aa)}{Q:aa->ae->Prop}(h:C A (xR (R a) N args []) s (λx aD=>(aD.heap.get? a=O o/\o.data=qq fd)/\C A (call (R a) (first++x.pos) x.kw) aD Q)):C A (xQ pos (R a) first args []) s Q:=by
 show lI (h.mono λx aD U=>C.bind (C.standAt ?_));have tail:∀{t:aE aa},C A t aD Q->C A (t>>=λr=>holding [r] point>>=λ_=>pure r) aD Q:=
  λht=>C.bind (ht.mono λr aQ hr=>lI (C.point (C.pure hr)))
 cases hs:args.any (·.1)<;>dsimp only[Ul,Ls]<;>
  show C.bind ?_<;>unfold Av<;>
  show C.bind (T.wc (iX U.1.1 ?_))<;>rw[U.1.2]<;>show C.pure ?_
 .change C _ (if _ then _ else _) _ _;split
  .show tail U.2
  .show tail (C.keep U.2)
 .show tail (C.keep U.2)
theorem dg{f:aa}{first:List aa}{args:List (Bool×aE aa)}{Q:aa->ae->Prop}(afg:args.any (·.1)=af)(h:C A (xR f N args []) s (λa aD=>C A (Av f) aD (λk aQ=>k=FA/\C A (call f (first++a.pos) a.kw) aQ Q))):C A (xQ pos f first args []) s Q:=by show lI (h.mono λa aD U=>C.bind (C.standAt ?_));rw[afg,Ul,Ls];show C.bind<|C.mono U λk aQ qQ=>eX qQ λe kq=>e▸C.bind (kq.mono λr de hr=>lI (C.point (C.pure hr)))
theorem iG{T:String}{Q:Keeper->ae->Prop}(h:Q FA s):C A (Av (ak T)) s Q:=C.pure h
theorem lU{id:String}{Q:Keeper->ae->Prop}(h:Q FA s):C A (Av (bx id)) s Q:=C.pure h
section
variable{Q:b8->ae->Prop}
theorem yR{q:aY}(dH:bW G x=N)(E:Hx L x)(hs:fu e (O (ar (NM x) q)) pos.line J=pure af)(he:C A (aZ e J) s (λv aD=>∃S' av F,PS τ' U L J aJ bq bA G S' aD/\bR aD.heap av v F/\flat av=N/\
 ∀Y,PS τ' U L J aJ bq bA (jm G x 0 av) S' Y->C A (aU rest J) Y Q)):C A (aU (fE [ar (NM x) q] e pos::rest) J) s Q:=by
 show iq ?_;rw[TB J (NM x) q e pos hs];show nQ<|C.bind<|he.mono λv aD U=>nQ<|C.bind<|C.bindName<|gI U λS' av F ps aO hf k=>bh ps.fr λW r hW=>(kb r E dH aO (.flat (cV.1 _ _ _ hf aO))).wx λ_ aQ kq=>C.pure (k aQ (ps.step r hW kq.2 kq.1 λd hd=>ao hd))
theorem zX(hi:iI J=af)(hs:fu e ai pos.line J=pure af)(he:C A (aZ e J) s (λv aD=>v=aA/\C A (aU rest J) aD Q)):C A (aU (vi e pos::rest) J) s Q:=by show iq ?_;rw[exec_Expr J e pos hi hs];show nQ<|C.bind<|he.mono λv aD qQ=>eX qQ λe1 U=>e1▸?_;rw[dropValue_plain (by intro a h;ext)];show C.pure U
theorem aci{f:aa}{Q:sP->ae->Prop}(r:ER H s.heap L J s.heap G)(he:fJ H s.heap A L J G (e::es) avs)(dH:dW (e::es)=N)(h:∀vs aD F,dz H s aD->bC aD.heap avs vs F->Q ⟨vs,[]⟩ aD):C A (xR f N (jI pos (iY (e::es) J)) []) s Q:=by show eX (wO dH) λh1 h2=>?_;have Ja:=he s pos r;rw[dp h1]at Ja ⊢;show ej (ahn Ja h)
end
noncomputable def uq(rs:List ab):AV:=gr (rs.map λr=>aX (R r))
def uJ(rs:List ab)(cj:List (LN)):Sg:=rs.zip (cj.map kB)
structure Mx(cj:List (LN)):Prop where
 len:cj.length=13
 row:∀r∈cj,r.length=13/\∀x∈r,x<256
noncomputable def YH(cj:List (LN))(i j v:Nat):List (LN):=cj.set i ((cj.getD i []).set j v)
theorem Mx.get(h:Mx cj)(hi:i<13):cj[i]? =O (cj.getD i [])/\(cj.getD i []).length=13/\lY (cj.getD i []):=by have hl:=h.len;have e:cj[i]? =O (cj.getD i []):=kz au;have hm:=cW e;show rO e ((h.row _ hm).1) ((h.row _ hm).2) (by rw[(h.row _ hm).1];decide)
theorem Mx.aht(h:Mx cj){r:LN}(hr:r.length=13)(D:∀x∈r,x<256):Mx (cj.set i r):=⟨by simpa using h.len,λr' hr'=>by show bf (u7 hr') (λq=>h.row r' q) λq=>q▸⟨hr,D⟩⟩
theorem Mx.set(h:Mx cj)(hi:i<13)(j:Nat){v:Nat}(hv:v<256):Mx (YH cj i j v):=hx (h.get hi) λ_ h2 h3=>(h.aht (by simpa using h2) (h3.set j hv).1)
theorem pF{r:ab}{row:LN}(h1:rs[i]? =O r)(h2:cj[i]? =O row):(r,kB row)∈uJ rs cj:=by
 show cW (i:=i) ?_
 delta uJ
 rw[Kv];show⟨h1,by simp[h2]⟩
theorem acj(tR:rs.Nodup){r:ab}(h1:rs[i]? =O r)(row:LN):∀y∈uJ rs (cj.set i row),(y.1=r/\y.2=kB row)\/(y.1≠r/\y∈uJ rs cj):=by
 intro y hy;show dG (sR hy) λk hk=>?_;unfold uJ at hk;rw[Kv]at hk;show eX hk λk1 k2=>?_;rw[cY]at k2;show bh (jc.mp k2) λabS k3 k4=>?_;rcases yF (k=i) with e|e
 .subst e
  left
  show⟨(aV (h1.symm.trans k1)).symm,?_⟩;show dG (dR.mp k3) λl e=>?_;simp at e;rw[<-k4,<-e]
 .right
  have qF:y.1≠r:=λe2=>by
   subst e2;show dG (dR.mp k1) λl1 g1=>?_;show dG (dR.mp h1) λl2 g2=>?_;rcases Ut k i with c|c|c
   .show absurd (g1.trans g2.symm) (Ey.mp tR k i l1 l2 c)
   .show e c
   .show absurd (g2.trans g1.symm) (Ey.mp tR i k l2 l1 c)
  show⟨qF,?_⟩;have k5:cj[k]? =O abS:=by rwa [List.getElem?_set_ne (λq=>e q.symm)]at k3
  have:=pF k1 k5;rw[k4]at this;show this
theorem yS(tR:rs.Nodup){r:ab}(h1:rs[i]? =O r)(row:LN){S0:Sg}(hd:∀y∈S0,y.1∉rs):∀y∈uJ rs (cj.set i row)++S0,(y.1=r/\y.2=kB row)\/(y.1≠r/\y∈uJ rs cj++S0):=λy hy=>by show bf (b9.mp hy) (λq=>bf (acj tR h1 row y q) (λh=>ao h) λh=>aH ⟨h.1,dc _ h.2⟩) λq=>aH ⟨λe=>hd y q (by rw[e];show cW h1),ew _ q⟩
section
variable{Q:b8->ae->Prop}
theorem MV{a:aw}(B:cA U mg mb)(I:dQ mg mb)(kO:Gi L "len")(ha:V H U A L J G a (gr K) af)(dH:cG a=af)(hl:K.length<=1000):V H U A L J G (bI (ar (aC "len") np) [a] [] pos) (aT K.length) fr:=λs r=>by
 have hI:=I ("len",bx "len") aK;show ma<|(ez B r kO hI.1 hI.2 (rfl)).Dj<|yq ((fJ.cons ha fJ.nil dH s pos r).QM λvs aD F1 e1 V1=>?_) (dp dH _ _) Z;apply nG V1;intro v G1 V2;apply pS V2;intro a ws n _ a3 a4;have l1:=bC.length a4;show aa7 (⟨_,a3,rfl,n,rfl⟩) jQ ?_;have:((ws.toArray.size:Nat):Int)=aj K.length:=by simp[l1]
 rw[this];show⟨e1.trans (.toks _ _),[],.ofInt _ _,d9⟩
theorem yT(k:Nat){a i:aw}{r:ab}(ha:V H U A L J G a (uq rs) af)(hi:V H U A L J G i (aT k) af)(hk:rs[k]? =O r)(hl:rs.length<=1000)(r9:j9 i=af):
 V H U A L J G (dk a i pos) (aX (R r)) fr:=by
 show wH ha hi ?_ r9 (λ_=>rfl);have jA:=(dR.mp hk).1;show(?_:cond (dY k 1000000) _ eU=_);rw[eT au];simp[hk]
theorem mE(x:Nat){b:Bool}(E:cq G x=O (k,fG b)):oZ H U A L J G (ar (NM x) pos) b:=λs r=>isTrue_plain<|(v9 r E).wpV λv F aO=>aO.toBool.symm▸l9 ⟨.refl _,rfl⟩
theorem zY{c:aP}{wu:aY}(hs:fu (gn (LB c) k pos) ai wu.line J=pure af):S1 H U A L J (vi (gn (LB c) k pos) wu) G G ai:=λD s W r=>by show wpAny_Expr (DZ ?_) (by delta iI;rw[r.scope,r.kind];rfl) hs;have e:dz H s {s with toks:=s.toks+1}:=.toks _ _;show tP (e.smod W) (r.grow e.ext)
def Χ:bT:=cS 19
noncomputable def pQ(n:Nat):Nat:=1 - n % 2
def Pc(cj:List (LN)):Nat->List (LN)
 | 0=>cj
 |n+1=>YH (YH (Pc cj n) (8+n) 0 (pQ n)) 0 (8+n) (pQ n)
theorem Ph(h:Mx cj):∀n,n<=5->Mx (Pc cj n):=by
 intro xX;induction xX with
 |zero=>intro _;show h
 |succ n iH=>
  intro hn;have D:pQ n<256:=by delta pQ;lia
  show((iH (ry hn)).set (AO hn) 0 D).set bz (8+n) D
def aka(rs:List ab)(bit:Nat):ig:=[(9,0,uq rs),(15,0,aT 0),(69,0,aT 13),(70,0,aX (R (rs.getD 0 0))),(19,0,aT bit)]
theorem Pj{S0:Sg}(hh:dh A)(B:cA U mg mb)(I:dQ mg mb)(hl:rs.length=13)(tR:rs.Nodup)(hm:Mx cj)(hd:∀y∈S0,y.1∉rs)(p:PS H U (bg Χ) J aJ bq bA (qG [9,68] [uq rs,fG N]) (uJ rs cj++S0) s)(k:∀Y G',PS H U (bg Χ) J aJ bq bA G' (uJ rs (Pc cj 5)++S0) Y->Q cJ Y):C A (aU (bo Χ) J) s Q:=by
 have hr:∀i,i<13->rs[i]? =O (rs.getD i 0):=λi hi=>kz au;show p.s1 (S1.m (zY Z)) λs1 p1=>(p1.s1 (S1.m (Wu (x:=15) (y:=69) (p:=(0,13)) hh (wG N (mE 68 Z) (λ_=>?_) (λq=>nnT q)) (by decide+kernel) (λz hz=>by simp at hz;rcases hz with rfl|rfl<;>rfl) Z Z)) λs2 p2=>?_)
 .show uj B.top (fJ.cons V.int (fJ.cons ?_ fJ.nil Z) Z) Z Z;show V.to (MV B I Z (aq 9 Z) Z jQ) (by simp[hl,aT])
 show p2.s1 (S1.m (bE 70 (aX (R (rs.getD 0 0))) (yT 0 (aq 9 Z) (aq 15 Z) (hr 0 bz) au Z) Z Z (ao Z) Z)) λs3 p3=>p3.s1 (S1.m (bE 19 (aT 1) (aR 1) Z Z (ao Z) Z)) λs4 p4=>yQ 14 (Dm 8 1 5) (λi (_:Unit)=>aka rs (pQ i)) (λi _=>uJ rs (Pc cj i)++S0) () p4 (zO (k:=8) (m:=13) hh (p4.base B) I Z V.int Z (aq 69 Z) Z aK aK aK aK)
  (ko.rf bD bD) (λy hy=>hy) (ao Z) (λ_ _ _=>rfl) (λi n z t W hn q=>?_) (λ_=>rfl) (λs5 _ p5=>eZ (k s5 _ p5))
 show eX (o6.mp hn) λhi hn=>?_;have wt:(n:Int)=aj (8+i):=by rw[hn];simp
 subst wt;have hmi:=Ph hm i au;have D:pQ i<256:=by delta pQ;lia
 show hx (hmi.get (i:=8+i) au) λm1 m2 m3=>hx ((hmi.set (i:=8+i) au 0 D).get (i:=0) bz) λn1 n2 n3=>w9 (rs.getD (8+i) 0) 0 (pQ i) q (aq 19 Z) (yT (8+i) (aq 9 Z) (aq 14 Z) (hr _ au) au Z) (aq 15 Z)
  (dc _ (pF (hr _ au) m1)) m3 (Nat.lt_of_sub_eq_succ m2) D Z (yS tR (hr _ au) _ hd) λt1 q1=>w9 (rs.getD 0 0) (8+i) (pQ i) q1 (aq 19 Z) (aq 70 Z) (aq 14 Z)
  (dc _ (pF (hr _ bz) n1)) n3 au D Z (yS tR (hr _ bz) _ hd) λt2 q2=>q2.s1 (S1.m (CD (k:=0) 19 (aj (pQ i)) 1 (aj (pQ (i+1))) .xor Z V.int ?_ (aH (aH Z)) Z (ao Z))) λt3 q3=>?_
 .rcases EN i with e|e
  .have e1:pQ i=1:=by delta pQ;lia
   have e2:pQ (i+1)=0:=by delta pQ;lia
   rw[e1,e2];rfl
  .have e1:pQ i=0:=mn (Nat.eq_sub_of_add_eq' e);have e2:pQ (i+1)=1:=by delta pQ;lia
   rw[e1,e2];rfl
 show eZ ⟨rfl,(),q3.less (ko.rf bD bD)⟩
end
open PySem.W
theorem uK{t:aE α}{r:α}{Q:α->ae->Prop}(x:Lw (aG prog w) s.heap t r)(q:Q r s):C A t s Q:=T.wc (x.here q)
theorem ack{rest:List aa}{init:aa}(gh:PySem.W.Makes (aG prog w) s.heap aS)(hi:Lw (aG prog w) s.heap (gW (R aS) "__init__") (O init))(D:∀self,Lw (aG prog w) s.heap (bindSpecial init self) (init,[self]))(qF:(O init != O (bx "object.__init__"))=N)(hq:CC (A.under (fM "type.__call__" ⟨R aS::rest,[]⟩)) (m8 init ⟨R (s.heap.objs.size+1)::rest,[]⟩) {s with heap:=(s.heap.push th).push (Fb aS s.heap.objs.size)}
 (λr Y=>r=cf (cL aA)/\Q (R (s.heap.objs.size+1)) Y)):C A (call (R aS) rest []) s Q:=by
 show og λgG kG=>?_;obtain⟨⟨oc,od,cd,sl,hC,e1,e2,e4⟩,made,base,self,top,Ψ,typ⟩:=id gh;show kG ?_;clear kG gG;show C.call (jn Z ?_);change C _ (callAny (R aS) ⟨rest,[]⟩) s _;show C.bind (Lake.T.wc (iX hC ?_));show C.bind (uK Ψ ?_);dsimp only;show C.bind (C.pure (C.bind (C.pure ?_)));show C.pure (a:=yD (m8 (bx "type.__call__") ⟨R aS::rest,[]⟩)) (FH Z (jn Z ?_));show C.bind (Lake.T.wc (UQ tc_kind tc_split typ (US _ _ _) (C.pure ⟨AX _ bD,jS entry_typeCall Z ?_⟩)));unfold Builtin.«type.__call__»;dsimp only;show C.bind (uK (((aa8 (part:=ai) hC).andThen vm).andThen vm) ?_);rw[if_neg (by rw[e4];decide)];show C.bind (uK made ?_);show C.bind (C.pure ?_);have k:∀b o,s.heap.get? b=O o->((s.heap.push th).push (Fb aS s.heap.objs.size)).get? b=O o:=λb o e=>a8 _ (a8 _ e);show C.bind (C.holding (Lake.T.wx (P:=λ(v:aa) s1=>v=R (s.heap.objs.size+1)/\s1={s with heap:=(s.heap.push th).push (Fb aS s.heap.objs.size)}) ?_ λv s1 qQ=>eX qQ λev es=>?_))
 .obtain ⟨hp,g,d,tk,os⟩:=s;show kU (new_K gh hi (ao qF) ⟨rfl,rfl⟩)
 subst ev es;have t1:gQ (aG prog w) ((s.heap.push th).push (Fb aS s.heap.objs.size)) (xV (R (s.heap.objs.size+1))) (R aS):=(Fg (by heap_get)).andThen vm;show C.bind (uK (r:=N) (t1.andThen (self.keeps k)) ?_);show ee aK (C.bind (C.holding ?_));show C.bind (uK (t1.andThen (hi.keeps k)) ?_);show C.holding (C.bind (uK ((D _).keeps k) ?_));show C.bind (C.call (CC.mono hq λr Y qQ=>eX qQ λer hQ=>?_));subst er;show C.pure (C.pure hQ)
theorem He{bp:mr}(e:bp.lookup a=O o):a∈bp.map (·.1):=by
 induction bp with
 |nil=>ext
 |cons p r ih=>
  obtain⟨b,x⟩:=p;dsimp only[AJ]at e;show boC (a==b) (λh=>?_) λh=>?_
  .have:a=b:=by simpa using h
   show this▸AF Z
  .have e:=h▸e;show bZ _ (ih e)
theorem Pl(P:bS)(t:Nat->aW)(f:Nat->bQ):∀a o,(iD P t f).lookup a=O o->a∉bY:=by intro a o e;show(by decide:∀x∈([2002,2001,2003,1956,1963,1977,1984,1991,1998]:List ab),x∉bY) a (He e)
theorem jo(X:(iD P t f).In h)(x:hJ H h h'):(iD P t f).In h':=λa o e=>x.keep a o (Pl P t f a o e) (X a o e)
theorem Ω:makesIn (iD P t f) 2002=N:=by ext
theorem acm:iL (iD P t f) (R 2002) "__init__" =O (O (R 1956)):=by ext
theorem ϊ:qv (iD P t f) (R 1956)=O (ak "function"):=by ext
theorem afh:iL (iD P t f) (R 2002) "__len__" =O (O (R 1991)):=by ext
theorem acn:qv (iD P t f) (R 1991)=O (ak "function"):=by ext
theorem WS:iL (iD P t f) (R 2002) "__getitem__" =O (O (R 1998)):=by ext
theorem ϋ:qv (iD P t f) (R 1998)=O (ak "function"):=by ext
theorem B3(n:aP):plainGet (iD P t f) 2002 n=N:=by ext
theorem aco:iL (iD P t f) (R 2002) "_data" =O (O (R 2003)):=by ext
theorem ό:yr (iD P t f) (R 2003) "__get__" =O (O (bx "member_descriptor.__get__")):=by ext
theorem ύ:A6 (iD P t f) (R 2003)=O N:=by ext
theorem WT:slotIn (iD P t f) 2003 2002=O 0:=by ext
theorem afi:(clsIn (iD P t f) 2002).isSome=N:=by ext
theorem RA:iL (iD P t f) (R 2002) "__setattr__" =O (O (bx "object.__setattr__")):=by ext
theorem acp:plainOver (iD P t f) 2002=N:=by ext
theorem ώ:takerIn (iD P t f) 2002 "_data" =O (O (R 2003)):=by ext
theorem YI:qv (iD P t f) (R 2003)=O (ak "member_descriptor"):=by ext
theorem afj:iL (iD P t f) (R 2002) "extend" =O (O (R 1963)):=by ext
theorem acq:qv (iD P t f) (R 1963)=O (ak "function"):=by ext
theorem acr:iL (iD P t f) (R 2002) "getbits" =O (O (R 1977)):=by ext
theorem Ϗ:qv (iD P t f) (R 1977)=O (ak "function"):=by ext
theorem acs:iL (iD P t f) (R 2002) "toints" =O (O (R 1984)):=by ext
theorem ϐ:qv (iD P t f) (R 1984)=O (ak "function"):=by ext
section
open PySem.W Builtin Builtin.ObjectAttr Builtin.Getset_descriptor
noncomputable def qS(dx d:ab):bj:={cls:=R 2002,dict:=O dx,data:=te,slots:=#[O (R d)]}
section
variable{b:ab}
theorem xa(D:s.heap.get? b=O (qS dx d))(hd:s.heap.get? dx=O iA):InstAt s.heap b (qS dx d) 2002 (O iA):=⟨D,rfl,rfl,hd⟩
theorem Pm{ϑ:Bool}(X:(iD P t f).In s.heap)(D:s.heap.get? b=O (qS dx d))(hd:s.heap.get? dx=O iA)(h:Q (R d) {s with toks:=s.toks+1}):
 ax (aG prog w) A (getAttr (R b) "_data" ϑ) Q a6 s:=
 get_bind X (xa D hd) (A5 (B3 "_data")).1 (findObj_data afi aco ό ύ) (A5 (B3 "_data")).2
  (kU (slot_get X (xa D hd) WT Z (handed_on Z h)))
theorem Hf(D:s.heap.get? b=O (vk 2002 dx))(hd:s.heap.get? dx=O iA):InstAt s.heap b (vk 2002 dx) 2002 (O iA):=⟨D,rfl,rfl,hd⟩
theorem ϒ{bp:mr}{x p:ab}{ox:bj}{od:Option bj}(X:bp.In s.heap)(I:InstAt s.heap x ox aS od)(hp:slotIn bp p aS=O i)(hi:i<1000)(h:aM (cf (cL aA)) {s with heap:=s.heap.update x λo=>{o with slots:=(o.slots++U6 (i+1 - o.slots.size) ai).setIfInBounds i (O v)}}):
 oE (aG prog w) A (m8 (bx "member_descriptor.__set__") ⟨[R p,R x,v],[]⟩) aM s:=by
 show ji (slot_of X hp) λn tn i=>ji i λowner behind i=>fO i λtb d sl cd ho hc hm D dX=>?_;obtain⟨hh,g,dr,t,os⟩:=s;subst dX;have L0:=I.type (M:=aG prog w);have L1:=Lz (M:=aG prog w) X hm;have L2:gQ (aG prog w) hh (Slots.slotNamesOf (R aS)) cd.slotNames:=(looks_clsIn X hc).andThen vm;have E:=I.at_;dsimp only at ho E L0 L1;have f0:=Fc (M:=aG prog w) ho 0 (v:=cI n tn) Z;have f1:=Fc (M:=aG prog w) ho 1 (v:=owner) Z;have f3:=Fc (M:=aG prog w) ho 3 (v:=bx "proto.slot#set") Z;have f4:=Fc (M:=aG prog w) ho 4 (v:=ah behind tb) Z;show xB Me.plain KF.entry_mset (Me.check _ _ _ _ _ _ _ _ (ct _ ho Z) (KF.args_mset _ _ _) ?_);have f5:gQ (aG prog w) hh (descrItself (R p)) [R p]:=((Fg ho).andThen vm).andThen (LG (rfl));repeat lk
 show⟨AX _ bD,qe KF.entry_slotset ?_⟩;repeat lk
 show(if_neg D).symm▸aB (ag ?_)
 delta setSlotAt
 dsimp only;rw[if_neg (by rw[jX];lia)];show wpAny_updatePart E (aB h)
theorem Pn{Q:Unit->ae->Prop}(X:(iD P t f).In s.heap)(D:s.heap.get? b=O (vk 2002 dx))(hd:s.heap.get? dx=O iA)(h:∀Y,Tn [b] s Y->Y.heap.get? b=O (qS dx d)->Q () Y):ax (aG prog w) A (setAttr (R b) "_data" (R d)) Q a6 s:=by
 show set_plain X (Hf D hd) RA (osa_descr Me X (Hf D hd) acp ώ YI (ϒ X (Hf D hd) WT bz (h _ ?_ ?_)))
 .have e:(s.heap.update b λo=>{o with slots:=(o.slots++U6 (0+1 - o.slots.size) ai).setIfInBounds 0 (O (R d))}).get? b=O (qS dx d):=gO _ D Z;show(Tn.toks [b] s _).trans (Tn.same (j6 ..) au ⟨_,e⟩) λ_ h=>ao h
 .show gO _ D Z
theorem Hg{fa:ab}{Q:Option aa->ae->Prop}(X:(iD P t f).In s.heap)(D:s.heap.get? b=O (qS dx d))(hd:s.heap.get? dx=O iA)(h1:iL (iD P t f) (R 2002) name=O (O (R fa)))(h2:qv (iD P t f) (R fa)=O (ak "function"))(h:ax (aG prog w) A (call (R fa) (R b::args)) (λv=>Q (O v)) a6 s):ax (aG prog w) A (xK (R b) name args) Q a6 s:=
 special_fn X (xa D hd) h1 h2 h
end
end
structure qT(U:aN)(a:ab)(fd:bQ)(st:bT):Prop where
 at_:FnAt U a fd
 body:fd.body=lj (bo st)
 scope:fd.scope=bg st
 params:fd.params=fo st
 glob:fd.globals=ef
 bi:fd.builtins=fY
 clo:fd.closure=[]
 kwd:fd.kwdefaults=aA
theorem qT.ext(f:qT U a fd st)(x:hJ H U h):qT h a fd st:=⟨f.at_.ext x,f.body,f.scope,f.params,f.glob,f.bi,f.clo,f.kwd⟩
section
variable{b:ab}
theorem WU{us:List aa}{K:LN}(B:cA U mg mb)(x1:hJ H U s.heap)(bM:A.depth<1000)(dA:qT U a fd st)(Dr:(bg st).isCoroutine=af)(zd:(bg st).isGenerator=af)(hk:(bg st).kind=d0)(se:T A.in1 (du fd ⟨vs,[]⟩) s (λbs Y=>Y=s/\bs=(K.map NM).zip us))(aO:bC s.heap avs us F)(tR:K.Nodup)(dM:K.length=us.length)(E:∀x∈K,Hx (bg st) x)(hss:∀fV,pM H τ' s.heap (A.deeper fV) (bg st) fV (bo st) (qG K avs) G' (O av)):
 T A (call (R a) vs) s (λv Y=>dz τ' s Y/\∃F,bR Y.heap av v F):=by
 have N':=dA.ext x1;have B':=B.ext x1;show bh N'.at_.obj λo ho hd=>kU<|JO (by assumption) ho hd (N'.scope▸Dr) (N'.scope▸zd) N'.body (N'.at_.abT (H:=H) (.refl _))<|se.Dj<|N'.clo.symm▸S4 (N'.scope▸hk) (λx hxm=>?_) λJ he aQ ic=>?_
 .obtain ⟨n,v⟩:=x;show bh (bG.mp ((sT hxm).1)) λy hy dX=>dX▸N'.scope.symm▸?_;rcases E y hy with q|q
  .show ao q
  .show aH ⟨q,kr _ _ _ _ (ao (mH q))⟩
 .subst he;have fr0:=FR.start (H:=H) B'.top (.refl _) aO (N'.scope▸hk) N'.glob N'.bi tR dM (N'.scope▸E) ic;show eQ ic.done λhh tk e2 _=>?_;replace fr0:=N'.scope▸fr0;show⟨B'.lim.keeps ic.toInCall.keep,J7 ?_⟩;show(hss _ fr0).wp λfl de oq=>yH oq λm3 x3 v F3 hf3 V3=>hf3▸?_;have Q4:aQ.os=s.os/\aQ.drawn=s.drawn/\aQ.gens=s.gens:=by show e2▸?_;show gS Z Z Z
  show⟨⟨x3,m3.os.trans Q4.1,m3.drawn.trans Q4.2.1,m3.gens.trans Q4.2.2⟩,F3,V3⟩
theorem RB(K:LN)(avs:List AV)(av:AV)(F:List ab)(B:cA U mg mb)(x1:hJ H U s.heap)(bM:A.depth<1000)(dA:qT U a fd st)(Dr:(bg st).isCoroutine=af)(zd:(bg st).isGenerator=af)(hk:(bg st).kind=d0)(se:du fd ⟨vs,[]⟩=pure ((K.map NM).zip vs))(aO:bC s.heap avs vs F)(tR:K.Nodup)(dM:K.length=vs.length)(E:∀x∈K,Hx (bg st) x)(hss:∀fV,pM H τ' s.heap (A.deeper fV) (bg st) fV (bo st) (qG K avs) G' (O av)):
 T A (call (R a) vs) s (λv Y=>dz τ' s Y/\∃F,bR Y.heap av v F):=
 WU B x1 bM dA Dr zd hk (se▸aB ⟨rfl,rfl⟩) aO tR dM E hss
protected theorem V.data(X:(iD P t f).In U)(Q8:U.get? b=O (qS dx d))(hdo:U.get? dx=O iA)(tb:b∉bY)(td:dx∉bY)(E:cq G x=O (k,aX (R b))):
 V H U A L J G (iJ (ar (NM x) np) (aC "_data") pos) (aX (R d)) fr:=λs r=>E7<|T.Dj (ui r E)<|Pm (jo X r.base) (r.base.keep _ _ tb Q8) (r.base.keep _ _ td hdo) (oY [] (.toks _ _) (.ir _) d9)
end
structure pR(U:aN)(P:bS)(t:Nat->aW)(f:Nat->bQ):Prop where
 pG:(iD P t f).In U
 acu:qT U 1991 (f 4) (vC 7)
 itemF:qT U 1998 (f 5) (vC 8)
 ϓ:qT U 1963 (f 1) (vC 3)
 dJ:qT U 1977 (f 2) (vC 5)
 afk:(f 4).defaults=aA
 ϔ:(f 5).defaults=aA
 afl:(f 1).defaults=aA
 ϕ:(f 2).defaults=aA
structure wm(h:aN)(b dx d:ab)(ns:LN):Prop where
 obj:h.get? b=O (qS dx d)
 WV:h.get? dx=O iA
 dat:h.get? d=O (kB ns)
 t1:b∉bY
 t2:dx∉bY
 t3:d∉bY
 ok:lY ns
section
variable{b:ab}
theorem pR.ext(x:hJ H U h)(B:pR U P t f):pR h P t f:=⟨jo B.pG x,B.acu.ext x,B.itemF.ext x,B.ϓ.ext x,B.dJ.ext x,B.afk,B.ϔ,B.afl,B.ϕ⟩
theorem wm.ext(x:hJ H h h')(B:wm h b dx d ns):wm h' b dx d ns:=⟨x.keep _ _ B.t1 B.obj,x.keep _ _ B.t2 B.WV,x.keep _ _ B.t3 B.dat,B.t1,B.t2,B.t3,B.ok⟩
theorem ahu(hp:fd.params=fo (vC 7))(hd:fd.defaults=aA)(v:aa):du fd ⟨[v],[]⟩=pure (([110].map NM).zip [v]):=by
 delta du
 show hp.symm▸hd.symm▸?_;rfl
theorem ahv(hp:fd.params=fo (vC 8))(hd:fd.defaults=aA)(v u:aa):du fd ⟨[v,u],[]⟩=pure (([110,112].map NM).zip [v,u]):=by
 delta du
 show hp.symm▸hd.symm▸?_;rfl
theorem ϖ(B:cA U mg mb)(I:dQ mg mb)(gC:pR U P t f)(x1:hJ H U s.heap)(bM:A.depth<1000)(hB:wm s.heap b dx d ns):
 T A (call (R 1991) [R b]) s (λv Y=>dz H s Y/\∃tk,v=ah (aj ns.length) tk):=by
 show(RB (G':=[]) [110] [aX (R b)] (aT ns.length) [] B x1 bM gC.acu Z Z Z (ahu gC.acu.params gC.afk _) ?_ aK Z aK λfV=>?_).wp3 λv Y F e aO=>⟨e,aO.toInt⟩
 .show eg [] [] (.ir _) .nil
 show SS.m<|tQ<|S1.ret<|uI (B.ext x1) I Z hB.dat hB.t3 hB.ok (V.data (x:=110) (jo gC.pG x1) hB.obj hB.WV hB.t1 hB.t2 Z) Z
theorem YJ{tk:aW}(B:cA U mg mb)(gC:pR U P t f)(x1:hJ H U s.heap)(bM:A.depth<1000)(hB:wm s.heap b dx d ns)(hk:ns[k]? =O x):
 T A (call (R 1998) [R b,ah (aj k) tk]) s (λv Y=>dz H s Y/\∃tk,v=ah (aj x) tk):=by
 show(RB (G':=[]) [110,112] [aX (R b),aT k] (aT x) [] B x1 bM gC.itemF Z Z Z (ahv gC.itemF.params gC.ϔ _ _) ?_ aK Z aK λfV=>?_).wp3 λv Y F e aO=>⟨e,aO.toInt⟩
 .show eg [] [] (.ir _) (eg [] [] (.ofInt _ _) .nil)
 show SS.m<|tQ<|S1.ret<|B1 hB.dat hB.t3 hB.ok (V.data (x:=110) (jo gC.pG x1) hB.obj hB.WV hB.t1 hB.t2 Z) (aq 112 Z) hk Z
theorem Jm(B:cA U mg mb)(I:dQ mg mb)(gC:pR U P t f)(bM:A.depth<1000)(hB:wm U b dx d ns)(kO:Gi L "len")(he:V H U A L J G e (aX (R b)) af)(dH:cG e=af):V H U A L J G (bI (ar (aC "len") np) [e] [] pos) (aT ns.length) fr:=λs r=>by have hI:=I ("len",bx "len") aK;show ma<|(ez B r kO hI.1 hI.2 (rfl)).Dj<|yq ((fJ.cons he fJ.nil dH s pos r).QM λvs aD F1 e1 V1=>?_) (dp dH _ _) Z;apply vB V1;have x1:=r.base.trans e1.ext;have hl:=hB.ok.2;have hB1:=hB.ext x1;show Calls.call_function_entry kind_len plain_len entry_len (args_len1 _)<|ag (m:=oneArg "len" _)<|aB<|ag (Hg (jo gC.pG x1) hB1.obj hB1.WV afh acn ((ϖ (A:=A.in1) B I gC x1 bM hB1).wp3 λv s2 tk e2 hv=>?_));subst hv;show ag<|cO<|aB<|ag<|uX<|(?_:ax _ _ (if aj ns.length>=2 ^ 63 then _ else _) _ _ _);rw[if_neg au];show ag (Kb (aB ⟨_,rfl,(e1.trans e2).trans (.toks _ _),[],.ofInt _ _,d9⟩))
end
section
variable{b:ab}
theorem RC{value slice:aw}{i:aa}(X:(iD P t f).In s.heap)(hB:wm s.heap b dx d ns)(h:ax (aG prog w) A.in1 (call (R 1998) [R b,i]) Q a6 s)(r9:Ei slice N (R b) i=runValue (fM "lifetime.subscript" ⟨[R b,i],[]⟩)):ax (aG prog w) A (subscriptTail value slice (R b) i) Q a6 s:=by have I:=xa hB.obj hB.WV;show ag<|ag<|ag<|I.type.here<|(A4 X WS).here<|ag<|iX (X 1998 _ Z)<|aB<|r9.symm▸ag (J1 (qe entry_sub ?_));show ag (special_fn X I WS ϋ (gV h (λv Y z=>?_) λ_ _ z=>z));show aB (ag (wpAny_letTemporaryGo (aB z)))
theorem acv{slice:aw}(h:j9 slice=af)(o i:aa):Ei slice N o i=runValue (fM "lifetime.subscript" ⟨[o,i],[]⟩):=by cases slice<;>first|rfl|(ext)
theorem YK{i:aw}(B:cA U mg mb)(gC:pR U P t f)(bM:A.depth<1000)(hB:wm U b dx d ns)(he:V H U A L J G e (aX (R b)) af)(hi:V H U A L J G i (aT k) af)(hk:ns[k]? =O x)(r9:j9 i=af):V H U A L J G (dk e i pos) (aT x) fr:=λs r=>by show rH<|(he r).Z7 λaD e1=>(hi (r.ext e1.ext)).Cx λtk aQ e2=>have I7:=e1.trans e2;have x1:=r.base.trans I7.ext;RC (jo gC.pG x1) (hB.ext x1) ((YJ (A:=A.in1) B gC x1 bM (hB.ext x1) hk).wp3 λv s3 tk3 e3 hv=>?_) (acv r9 _ _);subst hv;show oY [] (I7.trans e3) (.ofInt _ _) d9
end
section
open PySem.W PySem.SeqAt
theorem nS(e:h.get? a=O (cU vs n)):h.IsTuple a vs.toArray:=⟨_,e,rfl,n,rfl⟩
noncomputable def eqV(x:Int):aa->Bool
 |ah i _=>i==x
 |_=>af
theorem WW{x:Int}:∀{vs:List aa} {ms:List Int},fh vs ms->vs.toArray.any (eqV x)=ms.any (· ==x):=by
 intro vs ms h;rw[List.any_toArray];induction h with
 |nil=>rfl
 |cons n t r ih=>simp[eqV,ih]
theorem Jn{x:Int}{u:aW}{ms:List Int}(h:fh vs ms):∀y,y∈vs.toArray->EqAt A s y (ah x u) (eqV x y):=by
 intro y hy;have hy:y∈vs:=by simpa using hy
 induction h with
 |nil=>show kJ hy
 |cons n t r ih=>show bf (bu.mp hy) (λe=>e▸EqAt.int_int n t x u) λe=>ih (by simpa using e) e
theorem RD{a c:aw}{x:Int}{ms:List Int}(ha:V H U A L J G a (a9 x) af)(hc:V H U A L J G c (gr ys) af)(h2:jf ys=O ms)(hm:Ef Bg c=af):
 oZ H U A L J G (j0 a [Bg] [c] pos) (!(ms.any (· ==x))):=λs r=>by
 show uQ ((ha r).Cx λt aD e1=>(hc (r.ext e1.ext)).tN λu aQ F2 e2 V2 _=>?_) hm;apply pS V2;intro b ws m _ b3 b4;have IA:=intsAre_of b4 h2;show notIn_tupleAt (eqV x) (nS b3) (Jn IA)<|(WW IA).symm▸l9 ⟨e1.trans e2,rfl⟩
theorem WX{a c:aw}{x:Int}{ms:List Int}(ha:V H U A L J G a (a9 x) af)(hc:V H U A L J G c (gr ys) af)(h2:jf ys=O ms)(hm:Ef FF c=af):
 oZ H U A L J G (j0 a [FF] [c] pos) (ms.any (· ==x)):=λs r=>by
 show uQ ((ha r).Cx λt aD e1=>(hc (r.ext e1.ext)).tN λu aQ F2 e2 V2 _=>?_) hm;apply pS V2;intro b ws m _ b3 b4;have IA:=intsAre_of b4 h2;show in_tupleAt (eqV x) (nS b3) (Jn IA)<|(WW IA).symm▸l9 ⟨e1.trans e2,rfl⟩
theorem qM{x:aP}{i:Int}{tk:aW}(B:cA U mg mb)(E:L.names.lookup x=O kX)(hv:mg x=O (ah i tk))(hd:(x==("__debug__" :aP))=af):V H U A L J G (ar x pos) (a9 i) fr:=λs r=>
 T.Dj (r7 B r E hv hd) (oY [] (.refl _) (.ofInt _ _) d9)
theorem B4{x:aP}(B:cA U mg mb)(E:L.names.lookup x=O kX)(hv:mg x=O v)(hd:(x==("__debug__" :aP))=af):V H U A L J G (ar x pos) (aX v) fr:=λs r=>
 T.Dj (r7 B r E hv hd) (oY [] (.refl _) (.ir _) d9)
end
noncomputable def mJ(k:Nat)(t u v:aW):bj:={cls:=ak "range",data:=bH #[ah 0 t,ah (aj k) u,ah 1 v]}
section
variable{Q:b8->ae->Prop}
theorem PS.acw(p:PS H U L J aJ bq bA G S s)(B:cA U mg mb):aJ.heap.get? s.heap.objs.size=ai/\U.get? s.heap.objs.size=ai/\s.heap.objs.size∉bY:=
 ⟨p.mod.mod.new (bF _),p.ext.new (bF _),fi (jz B.top p.ext)⟩
theorem PS.sh(p:PS H U L J aJ bq bA G S s)(B:cA U mg mb){tk:Nat}(hs:Hd o=N)(ho:o.isFreed=af):
 PS H U L J aJ bq bA G ((s.heap.objs.size,o)::S) {s with heap:=s.heap.push o,toks:=tk}:=by
 show hx (p.acw B) λn1 n2 n3=>have p1:PS H U L J aJ bq bA G S {s with heap:=s.heap.push o,toks:=tk}:=p.grow ⟨.push _ _,rfl,rfl,eV _⟩;gH p.fr λW r q1 q2=>?_;have hnW:s.heap.objs.size∉W:=λq=>oU (r.jj _ q) λ_ _ o' e _=>(absurd (cn e) (gx _));show⟨⟨W,r.grow (.push _ _),q1,λx E=>by
  rcases bu.mp E with e|e
  .subst e;show hnW
  .show q2 x e⟩,λx E=>by
  show bf (bu.mp E) (λe=>e▸rO (bK _ ho) n3 hs n2) λe=>p1.sg x e,p1.mod,λx E=>by
  rcases bu.mp E with e|e
  .subst e;show aH n1
  .show p1.lD x e⟩
theorem xd(x k:Nat){q cp:aY}(p:PS H U L J aJ bq bA G S s)(B:cA U mg mb)(I:dQ mg mb)(kO:Gi L "range")(he:V H s.heap A L J G e (aT k) af)(dH:cG e=af)(hso:bW G x=N)(E:Hx L x)(hs:fu (bI (ar (aC "range") np) [e] [] cp) (O (ar (NM x) q)) pos.line J=pure af)(kk:∀rr t u v Y,PS H U L J aJ bq bA (jm G x 0 (aX (R rr))) ((rr,mJ k t u v)::S) Y->C A (aU rest J) Y Q):
 C A (aU (fE [ar (NM x) q] (bI (ar (aC "range") np) [e] [] cp) pos::rest) J) s Q:=by
 show yR (τ':=H) (U:=U) (aJ:=aJ) (bq:=bq) (bA:=bA) hso E hs<|T.wc<|mC ("range") ("range") (p.base B) I aK kO (rfl) (fJ.cons he fJ.nil dH) (by simp[dW,dH]) p.er λvs aD F e1 V1=>?_;apply nJ V1;show λt=>sH (DO _ (aX (R aD.heap.objs.size)) [] ((p.grow e1).sh (o:=mJ k aD.toks t (aD.toks+1)) (tk:=aD.toks+1+1) B Z Z) (.ir _) Z (λY p'=>kk _ _ _ _ Y p'))
theorem zZ(x k:Nat){rr:ab}{t u v:aW}(hh:dh A)(B:Tp U)(ho:U.get? rr=O (mJ n t u v))(ht:rr∉bY)(E:cq G x=O (k,aX (R rr)))(hn:n<=1000):
 zr H U A L J G (ar (NM x) pos) (Dm 0 1 n):=λs r=>by
 show(v9 r E).mono λv aD oq=>Mk oq λe1 F aO=>e1.symm▸?_;apply bR.FX aO;show qy hh B r.base (.refl _) (r.base.keep rr _ ht ho) ?_ ?_
 .have:aj n=(n:Int):=rfl;show uY aK aK fF au
 .rw [uV];split<;>lia
end
section
variable{Q:b8->ae->Prop}
theorem z0(x:Nat)(ns:LN){σ:Type}(f:σ->Nat->σ)(Gf:σ->ig)(Sf:σ->Sg)(Inv:σ->Prop)(RE:σ)(p:PS H U L J aJ bq bA G S s)(um:zr H s.heap A L J G iter (ns.map aj))(h0:ko (Gf RE) G)(ZP:∀y∈Sf RE,y∈S)(hi0:Inv RE)(akb:∀n st,n∈ns->Inv st->Inv (f st n))(E:Hx L x)(dH:∀st,bW (Gf st) x=N)(step:∀n st aD W,n∈ns->Inv st->PS H U L J aD W ((Sf st).map (·.1)) (jm (Gf st) x 0 (aT n)) (Sf st) aD->
 C A (aU body J) aD (λfl aQ=>fl=cJ/\PS H U L J aD W ((Sf st).map (·.1)) (Gf (f st n)) (Sf (f st n)) aQ))(hs:Fs iter J)(k:∀Y,Inv (ns.foldl f RE)->PS H U L J aJ bq bA (Gf (ns.foldl f RE)) (Sf (ns.foldl f RE)) Y->C A (aU rest J) Y Q):
 C A (aU (lh (ar (NM x) px) iter body [] pos::rest) J) s Q:=by
 have hI:∀i,Inv ((ns.take i).foldl f RE):=λi=>by
  induction i with
  |zero=>show hi0
  |succ i ih=>show ZW (ns[i]?) (λe=>by rw[EH,e];simpa using ih) λn e=>by rw[A3 f RE e];show akb n _ (cW e) ih
 show yQ _ _ (λi _=>Gf ((ns.take i).foldl f RE)) (λi _=>Sf ((ns.take i).foldl f RE)) () p um h0 ZP E (λi z _=>dH _) (λi n z aD W hn q=>?_) hs (λY z p'=>?_)
 .replace hn:=cY▸hn;show ZW (ns[i]?) (λe=>?_) λm e=>?_
  .have hn:=e▸hn;ext
  .rw [e]at hn;obtain rfl:=aV hn;show(step m _ aD W (cW e) (hI i) q).mono λfl aQ qQ=>eX qQ λa b=>⟨a,(),?_⟩;rw[A3 f RE e];show b
 .rw [(by simp:(ns.map aj).length=ns.length),sS]at p';show k Y (by have:=hI ns.length;rwa [sS]at this) p'
end
def pH:bT:=cS 20
noncomputable def tZ:bT->List bT
 |lh _ _ b _ _=>b
 |_=>[]
def afm:List bT:=tZ (bc (tZ (bc (tZ (bc (bo pH) 7)) 1)) 0)
noncomputable def Jo(right v:Nat):Nat:=cond (fD (right % 4) 0) (12 - v) v
def RF(ns:LN)(right v:Nat)(st:List (LN)×Nat)(z:Nat):List (LN)×Nat:=
 cond (fD ((st.1.getD (Jo right v) []).getD (right - z) 0) 2 && jL st.2 ns.length) (YH st.1 (Jo right v) (right - z) (ns.getD st.2 0),st.2+1) st
def cwV(ns:LN)(right:Nat)(st:List (LN)×Nat)(v:Nat):List (LN)×Nat:=(aI 2).foldl (RF ns right v) st
def cwR(ns:LN)(st:List (LN)×Nat)(right:Nat):List (LN)×Nat:=(aI 13).foldl (cwV ns right) st
def IP(ns:LN)(cj:List (LN)):List (LN)×Nat:=[12,10,8,6,4,2].foldl (cwR ns) (cj,0)
theorem Jp{σ:Type}{f:σ->Nat->σ}{Inv:σ->Prop}{st:σ}(hs:∀n st,n∈ns->Inv st->Inv (f st n))(h:Inv st):Inv (ns.foldl f st):=List.foldlRecOn ns f h λb D a ha=>hs a b ha D
theorem WY(hn:lY ns){right v:Nat}(hv:v<13){st:List (LN)×Nat}(h:Mx st.1)(z:Nat):Mx (RF ns right v st z).1:=by
 delta RF
 cases e:(fD ((st.1.getD (Jo right v) []).getD (right - z) 0) 2 && jL st.2 ns.length) with
 |false=>show h
 |true=>
  have h2:st.2<ns.length:=by have:=(fL.mp e).2;show dO this
  show h.set (by delta Jo;cases fD (right % 4) 0<;>simp<;>lia) _ (hn.1 _ (by rw[da,dE h2];show KH h2))
theorem ϗ(hn:lY ns){right v:Nat}(hv:v<13){st:List (LN)×Nat}(h:Mx st.1):Mx (cwV ns right st v).1:=
 Jp (Inv:=λ(st:List (LN)×Nat)=>Mx st.1) (λz st _ h=>WY hn hv h z) h
theorem afn(hn:lY ns){right:Nat}{st:List (LN)×Nat}(h:Mx st.1):Mx (cwR ns st right).1:=
 Jp (Inv:=λ(st:List (LN)×Nat)=>Mx st.1) (λv st hv h=>ϗ hn (dm.mp hv) h) h
section
variable{Q:b8->ae->Prop}{b:ab}
def jk(b dx d:ab)(ns:LN):Sg:=[(b,qS dx d),(dx,iA),(d,kB ns)]
theorem PS.Hh(p:PS H U L J aJ bq bA G S s)(h:∀y∈jk b dx d ns,y∈S)(hn:lY ns):wm s.heap b dx d ns where
 obj:=p.get (h _ (by simp[jk]))
 WV:=p.get (h _ (by simp[jk]))
 dat:=p.get (h _ (by simp[jk]))
 t1:=(p.sg _ (h (b,qS dx d) (by simp[jk]))).2.1
 t2:=(p.sg _ (h (dx,iA) (by simp[jk]))).2.1
 t3:=(p.sg _ (h (d,kB ns) (by simp[jk]))).2.1
 ok:=hn
theorem ahw(n:Nat):Dm 0 1 n=(aI n).map aj:=by show AH λi _=>?_;simp
def gCw(rs:List ab)(b rr:ab)(n:Nat)(st:List (LN)×Nat):ig:=[(9,0,uq rs),(71,0,aX (R b)),(68,0,fG N),(73,0,aT 13),(74,0,aT 0),(75,0,aT st.2),(76,0,aT n),(77,0,aX (R rr))]
def gC2(rs:List ab)(b rr:ab)(n right v:Nat)(st:List (LN)×Nat):ig:=jm (jm (gCw rs b rr n st) 12 0 (aT right)) 78 0 (aT v)
theorem ahx{right:Nat}(h:right∈[12,10,8,6,4,2]):gT .eq (aj ((right+0) &&& 2)) 0=fD (right % 4) 0:=by simp at h;rcases h with rfl|rfl|rfl|rfl|rfl|rfl<;>rfl
theorem ahy:gT .eq (aj x) (aj y)=fD x y:=by rw[UH];simp[gT];show TS
theorem ahz:gT .lt (aj x) (aj y)=jL x y:=by rw[UH];simp[gT,jL];show Iff.symm Nat.add_one_le_iff
theorem akc{rr:ab}{S0:Sg}{right v z:Nat}{st:List (LN)×Nat}(B:cA U mg mb)(gC:pR U P t f)(bM:A.depth<1000)(hl:rs.length=13)(tR:rs.Nodup)(hm:Mx st.1)(hd:∀y∈S0,y.1∉rs)(yU:∀y∈jk b dx d ns,y∈S0)(hn:lY ns)(hr:right∈[12,10,8,6,4,2])(hv:v<13)(hz:z<2)(p:PS H U (bg pH) J aJ bq bA (jm (gC2 rs b rr ns.length right v st) 79 0 (aT z)) (uJ rs st.1++S0) s):
 C A (aU afm J) s (λfl Y=>fl=cJ/\PS H U (bg pH) J aJ bq bA (gC2 rs b rr ns.length right v (RF ns right v st z)) (uJ rs (RF ns right v st z).1++S0) Y):=by
 have ajX:2<=right/\right<=12:=r26 _ hr;have hi:Jo right v<13:=by unfold Jo;cases fD (right % 4) 0<;>simp<;>lia
 have WB:rs[Jo right v]? =O (rs.getD (Jo right v) 0):=kz au;show hx (hm.get hi) λm1 m2 m3=>have E:(st.1.getD (Jo right v) [])[right - z]? =O ((st.1.getD (Jo right v) []).getD (right - z) 0):=kz au;p.s1 (S1.m (bE 15 (aT (right - z)) (lR (aq 12 Z) (aq 79 Z) au) Z Z (ao Z) Z)) λs1 p1=>p1.s1 (S1.m (bE 80 (fG (fD (right % 4) 0)) (V.to (Ga .eq (aj ((right+0) &&& 2)) 0
  (V.bin (x:=aj (right+0)) (y:=2) .band (fk (aq 12 Z) (aq 74 Z)) V.int Z) V.int) (congrArg _ (ahx hr))) Z Z (ao Z) Z)) λs2 p2=>p2.ite (x:=af) (FI N (mE 68 Z)) λs3 p3=>eZ (p3.s1 (S1.m (bE 14 (aT (Jo right v)) (wG (fD (right % 4) 0) (mE 80 Z) (λq=>?_) (λq=>?_)) Z Z (ao Z) Z)) λs4 p4=>?_)
 .have e:Jo right v=13 - 1 - v:=by unfold Jo;rw[q];rfl
  rw[e];show lR (lR (aq 73 Z) (aR 1) aK) (aq 78 Z) au
 .have e:Jo right v=v:=by unfold Jo;rw[q];rfl
  rw[e];show BO (aq 78 Z) Z
 show p4.s1 (S1.m (bE 31 (aX (R (rs.getD (Jo right v) 0))) (yT _ (aq 9 Z) (aq 14 Z) WB au Z) Z Z (ao Z) Z)) λs5 p5=>have hmem:=dc S0 (pF WB m1);p5.ite (x:=fD ((st.1.getD (Jo right v) []).getD (right - z) 0) 2 && jL st.2 ns.length) (vE (oZ.to (mz .eq (B1 (p5.get hmem) ((p5.sg _ hmem).2.1) m3 (aq 31 Z) (aq 15 Z) E Z) (aR 2)) ahy)
  (λ_=>oZ.to (mz .lt (aq 75 Z) (aq 76 Z)) ahz)) λs6 p6=>?_
 unfold RF;cases e:(fD ((st.1.getD (Jo right v) []).getD (right - z) 0) 2 && jL st.2 ns.length) with
 |false=>show eZ (eZ ⟨rfl,p6.less (ko.rf (rfl) (rfl))⟩)
 |true=>
  have hy:ns[st.2]? =O (ns.getD st.2 0):=kz (dO (fL.mp e).2);show w9 (rs.getD (Jo right v) 0) (right - z) (ns.getD st.2 0) p6 (YK (p6.base B) (gC.ext p6.ext) bM (p6.Hh (λy hy=>ew _ (yU y hy)) hn) (aq 71 Z) (aq 75 Z) hy Z) (aq 31 Z) (aq 15 Z)
   hmem m3 au (hn.1 _ (cW hy)) Z (yS tR WB _ hd) λs7 p7=>p7.s1 (S1.m (CD (k:=0) 75 (aj st.2) 1 (aj (st.2+1)) .add Z V.int Z (ao Z) Z (ao Z))) λs8 p8=>(eZ (eZ ⟨rfl,p8.less (by show ko.rf bD bD)⟩))
theorem acx{rr:ab}{tk0 tk1 tk2:aW}{S0:Sg}(hh:dh A)(B:cA U mg mb)(I:dQ mg mb)(gC:pR U P t f)(bM:A.depth<1000)(hl:rs.length=13)(tR:rs.Nodup)(hm:Mx cj)(hd:∀y∈S0,y.1∉rs)(yU:∀y∈jk b dx d ns,y∈S0)(hn:lY ns)(Ϙ:(rr,mJ 2 tk0 tk1 tk2)∈S0)(p:PS H U (bg pH) J aJ bq bA (gCw rs b rr ns.length (cj,0)) (uJ rs cj++S0) s)(k:∀Y,Mx (IP ns cj).1->PS H U (bg pH) J aJ bq bA (gCw rs b rr ns.length (IP ns cj)) (uJ rs (IP ns cj).1++S0) Y->C A (aU rest J) Y Q):
 C A (aU (bc (bo pH) 7::rest) J) s Q:=by
 show z0 12 [12,10,8,6,4,2] (cwR ns) (gCw rs b rr ns.length) (λst=>uJ rs st.1++S0) (λst=>Mx st.1) (cj,0) p
  (zr.eq (Gl (n:=6) hh (p.base B) I Z (V.bin .sub (aq 73 Z) V.int Z) Z V.int Z (Mt V.int) Z aK (rfl) (rfl) (rfl)) (rfl))
  (.refl _) (λy hy=>hy) hm (λn st _ h=>afn hn h) (ao Z) (λst=>rfl) (λright st s1 W1 hr hmx p1=>?_) (λ_=>rfl) (λY hI p'=>k Y hI p')
 show p1.ite (vE (y:=N) (FI N (mE 68 Z)) (λq=>by ext)) λs2 p2=>eZ<|z0 78 (aI 13) (cwV ns right) (λst=>jm (gCw rs b rr ns.length st) 12 0 (aT right)) (λst=>uJ rs st.1++S0) (λst=>Mx st.1) st p2
  (zr.eq (fQ hh (p2.base B) I Z (aq 73 Z) Z bz) Z) (.refl _) (λy hy=>hy) hmx (λv st hv h=>ϗ hn (dm.mp hv) h) (ao Z) (λst=>rfl) (λv NU s3 W3 hv akd p3=>?_) (λ_=>rfl)
  (λY hI p'=>eZ ⟨rfl,p'.less (ko.rf (rfl) (rfl))⟩)
 show z0 79 (aI 2) (RF ns right v) (gC2 rs b rr ns.length right v) (λst=>uJ rs st.1++S0) (λst=>Mx st.1) NU p3
  (zr.eq (zZ 77 0 hh (p3.base B).top (p3.get (ew _ Ϙ)) (p3.sg _ (ew _ Ϙ)).2.1 Z bz) (ahw 2)) (.refl _) (λy hy=>hy) akd (λz st _ h=>WY hn (dm.mp hv) h z) (ao Z) (λst=>rfl) (λz st2 s4 W4 hz ake p4=>?_) (λ_=>rfl)
  (λY hI p'=>eZ ⟨rfl,p'.less (ko.rf (rfl) (rfl))⟩)
 show akc B gC bM hl tR ake hd yU hn hr (dm.mp hv) (dm.mp hz) p4
end
section
variable{Q:b8->ae->Prop}{b:ab}
theorem acy{S0:Sg}{v1 v3:aW}(hh:dh A)(B:cA U mg mb)(I:dQ mg mb)(gC:pR U P t f)(bM:A.depth<1000)(hl:rs.length=13)(tR:rs.Nodup)(hm:Mx cj)(hd:∀y∈S0,y.1∉rs)(yU:∀y∈jk b dx d ns,y∈S0)(hn:lY ns)(h1:mg (aC "VERSION_M1")=O (ah (-3) v1))(h3:mg (aC "VERSION_M3")=O (ah (-1) v3))(Po:(IP ns cj).2=ns.length)(p:PS H U (bg pH) J aJ bq bA (qG [9,71,72] [uq rs,aX (R b),a9 (-2)]) (uJ rs cj++S0) s)(k:∀Y G',Mx (IP ns cj).1->PS H U (bg pH) J aJ bq bA G' (uJ rs (IP ns cj).1++S0) Y->Q cJ Y):
 C A (aU (bo pH) J) s Q:=by
 change C _ (aU [bc (bo pH) 0,bc (bo pH) 1,bc (bo pH) 2,bc (bo pH) 3,bc (bo pH) 4,bc (bo pH) 5,bc (bo pH) 6,bc (bo pH) 7,bc (bo pH) 8] J) s Q;show p.s1 (S1.m (zY Z)) λs1 p1=>p1.s1 (S1.m (bE 73 (aT 13) (V.to (MV B I Z (aq 9 Z) Z jQ) (by simp[hl])) Z Z (ao Z) Z)) λs2 p2=>p2.s1 (S1.m (bE 68 (fG N) (Ga .lt (-2) 1 (aq 72 Z) V.int) Z Z (ao Z) Z)) λs3 p3=>p3.s1 (S1.m (bE 74 (aT 0) (wG N (RD (x:= -2) (ys:=[a9 (-3),a9 (-1)]) (ms:=[-3, -1]) (aq 72 Z)
  (uj B.top (fJ.cons (qM B Z h1 Z) (fJ.cons (qM B Z h3 Z) fJ.nil Z) Z) Z Z) Z Z) (λ_=>V.int) (λq=>nnT q)) Z Z (ao Z) Z)) λs4 p4=>p4.s1 (S1.m (bE 75 (aT 0) V.int Z Z (ao Z) Z)) λs5 p5=>have akf:∀y∈jk b dx d ns,y∈uJ rs cj++S0:=λy hy=>ew _ (yU y hy);PS.asg (x:=76) (av:=aT ns.length) p5 (Jm (p5.base B) I (gC.ext p5.ext) bM (p5.Hh akf hn) Z (aq 71 Z) Z) Z Z (ao Z) Z λs6 p6=>xd 77 2 p6 B I Z V.int Z Z (ao Z) Z λrr t0 t1 t2 s7 p7=>?_
 have afo:∀y∈(rr,mJ 2 t0 t1 t2)::S0,y.1∉rs:=λy hy=>by show bf (bu.mp hy) (λe=>?_) λe=>hd y e;subst e;intro hq;show dG (sR hq) λi hi=>?_;have jA:=(dR.mp hi).1;have e1:=p7.get (bZ _ (dc S0 (pF hi (hm.get (i:=i) au).1)));rw[p7.get (cQ ..)]at e1;show absurd (congrArg E4 (aV e1)) (by simp[mJ,kB,pO])
 show acx (tk0:=t0) (tk1:=t1) (tk2:=t2) (S0:=(rr,mJ 2 t0 t1 t2)::S0) hh B I gC bM hl tR hm afo (λy hy=>bZ _ (yU y hy)) hn (cQ ..)
  ((p7.sub ?_).less (ko.rf bD bD)) λs8 hm8 p8=>?_
 .intro y hy;show bf (b9.mp hy) (λq=>bZ _ (dc _ q)) λq=>bf (bu.mp q) (λe=>by rw[e];show cQ ..) λe=>bZ _ (ew _ e)
 show p8.ite (x:=af) (oZ.to (mz .ne (aq 75 Z) (Jm (p8.base B) I (gC.ext p8.ext) bM (p8.Hh (λy hy=>ew _ (bZ _ (yU y hy))) hn) Z (aq 71 Z) Z)) (by rw[Po];simp[gT])) λs9 p9=>eZ<|eZ<|k s9 _ hm8<|p9.sub λy hy=>bf (b9.mp hy) (λq=>dc _ q) λq=>ew _ (bZ _ q)
end
def ClB(Γ:Ctx):Prop:=∀x∈Γ.below,n9 x.1=N
inductive afq(a0:ae->ae->Prop)(F:Nat->aa->ae->ae->Prop)(fp:List ab)(n:Nat)(aJ:ae)(Rec:ae->iZ->aE Fin->List Frame->ae->Prop):End->ae->Prop
 |mk {Y:ae} (v:aa) (g:Bool) (l:List aa) (k:Resume->aE Fin) (c':iZ) (p':aY) (fs':List Frame) (hq:(End.susp v g l k c' p' fs').quiet=N) (hd:a0 aJ Y) (hf:F n v aJ Y)
  (hk:∀mF:ae,(∀b∈fp,∀o,Y.heap.get? b=O o->mF.heap.get? b=O o)->Rec mF c' (k (yG aA)) fs' mF):afq a0 F fp n aJ Rec (End.susp v g l k c' p' fs') Y
def NV(A:ck)(a0:ae->ae->Prop)(F:Nat->aa->ae->ae->Prop)(fp:List ab)(aM:xW)(gh:xS):Nat->ae->iZ->aE Fin->List Frame->ae->Prop
 | 0=>λaJ c t fs s=>Seg (aG prog w) A aM gh 0 aJ c t fs s
 |n+1=>λaJ c t fs s=>∀Γ p,Γ.code=c->Γ.Woken A->ClB Γ->∃e Y,Runs (aG prog w) Γ p t fs s e Y/\afq a0 F fp n aJ (NV A a0 F fp aM gh n) e Y
section
variable{a0:ae->ae->Prop}{F:Nat->aa->ae->ae->Prop}{aM:xW}{gh:xS}{c:iZ}
theorem ClB.over{Γ:Ctx}(h:ClB Γ)(hc:n9 Γ.code=N):Cl (Γ.over []):=⟨hc,h⟩
theorem Hi{m:aE α}{bp:α->aE Fin}{cB:aa->aE Fin}{gd:Bool->Bool}{lv:List aa->List aa}(hc:n9 c=N)(h:C (A.over c []) m s (λa Y=>NV A a0 F fp aM gh (n+1) aJ c (bp a) [] Y)):NV A a0 F fp aM gh (n+1) aJ c (m.wrap bp cB gd lv) [] s:=by rintro Γ p rfl wh jB;show runs_wrap_of_wp (Φ:=afq a0 F fp n aJ (NV A a0 F fp aM gh n)) bp cB gd lv m (@h (Γ.over []) p (wh.over []) (jB.over hc)) (λa p' Y h'=>h' Γ p' Z wh jB) (λ_ _ _ f=>f.elim)
theorem iB{β:Type}{m:aE α}{bp:α->aE β}{K':β->aE Fin}{H':aa->aE Fin}{gd:Bool->Bool}{lv:List aa->List aa}(hc:n9 c=N)(h:C (A.over c []) m s (λa Y=>NV A a0 F fp aM gh (n+1) aJ c ((bp a).wrap K' H' gd lv) [] Y)):NV A a0 F fp aM gh (n+1) aJ c ((m>>=bp).wrap K' H' gd lv) [] s:=by rw[LX,tj];show Hi hc h
theorem CS{c':iZ}(hq:c'.quiet=N)(h:NV A a0 F fp aM gh n aJ c' ((aG prog w).den c') [] s):NV A a0 F fp aM gh n aJ c (Sem.pure (yD c')) [] s:=by
 cases n with
 |zero=>show seg_again hq h
 |succ n=>rintro Γ p rfl wh jB;show eQ (h (Γ.goto c') p Z (wh.goto c') jB) λe mF hr q=>kI e mF (Runs.head (c₁:=c') (λ_ _ x=>Runs.again hq x) hr) q
theorem YL{g:Bool}{l:List aa}{k:Resume->aE Fin}(hg:g=af)(hd:a0 aJ s)(hf:F n v aJ s)(h:∀mF:ae,(∀b∈fp,∀o,s.heap.get? b=O o->mF.heap.get? b=O o)->NV A a0 F fp aM gh n mF c (k (yG aA)) [] mF):NV A a0 F fp aM gh (n+1) aJ c (Sem.yield v g l k) [] s:=by rintro Γ p rfl _ _;show⟨_,s,Runs.yield' [] rfl,v,g,l,k,_,p,[],by subst hg;rfl,hd,hf,h⟩
theorem afr{p':aY}{k:Unit->aE Fin}(hc:n9 c=N)(h:NV A a0 F fp aM gh (n+1) aJ c (k ()) [] s):NV A a0 F fp aM gh (n+1) aJ c (Sem.at p' k) [] s:=
 Hi (m:=jH p') (bp:=k) (cB:=LZ) (gd:=id) (lv:=id) hc (C.standAt h)
def Jq(A:ck)(a0:ae->ae->Prop)(F:Nat->aa->ae->ae->Prop)(fp:List ab)(aM:xW)(gh:xS)(n:Nat)(gs:eS)(s:ae):Prop:=
 match gs with
 |Lv c=>NV A a0 F fp aM gh n s c ((aG prog w).den c) [] s
 |GenState.suspended k _ c _ fs _=>NV A a0 F fp aM gh n s c (k (yG aA)) fs s
 |_=>False
theorem RG{gs:eS}(h:Jq A a0 F fp aM gh 0 gs s):gs.Goes (aG prog w) A aM gh 0 (yG aA) s:=by
 cases gs with
 |fresh c=>show⟨rfl,h⟩
 |suspended=>show h
 |_=>show h.elim
theorem ClB.wake{Γ:Ctx}(h:Cl Γ)(c:iZ)(p:aY):ClB (Γ.wake c p):=λx E=>by
 rcases bu.mp E with rfl|E
 .show h.1
 .show h.2 x E
theorem YM{gs:eS}{l:List aa}{k:GenResult->aE α}{Q:α->ae->Prop}(hg:s.gens[g]? =O gs)(Pp:Jq A a0 F fp aM gh (n+1) gs (s.setGen g m9))(hY:∀v aD WZ,WZ.bare=N->a0 (s.setGen g m9) aD->F n v (s.setGen g m9) aD->(∀mF:ae,(∀b∈fp,∀o,aD.heap.get? b=O o->mF.heap.get? b=O o)->Jq A a0 F fp aM gh n WZ mF)->
 C A (k (GenResult.yielded v)) (aD.setGen g WZ) Q):C A (Sem.resume g (yG aA) l k) s Q:=by
 intro Γ p wh jB;cases gs with
 |fresh c=>show eQ (Pp (Γ.wake c p) p Z (wh.wake c p) (ClB.wake jB c p)) λ_ aD hr q=>?_;obtain⟨v,alx,akg,akh,c₀,ahA,ahB,hq,hd,hf,hk⟩:=q;show kI _ _ (by delta Wakes;show hg.symm▸?_;show⟨_,aD,hr,hq,rfl,rfl⟩) (hY v aD _ (VO hq) hd hf hk wh jB)
 |suspended akh akg c₀ ahA ahB cl=>show eQ (Pp (Γ.wake c₀ p) ahA Z (wh.wake c₀ p) (ClB.wake jB c₀ p)) λ_ aD hr q=>?_;obtain⟨v,aly,l₁,k₁,c₁,alz,alp,hq,hd,hf,hk⟩:=q;show kI _ _ (by delta Wakes;show hg.symm▸?_;show⟨_,aD,hr,hq,rfl,rfl⟩) (hY v aD _ (VO hq) hd hf hk wh jB)
 |running=>show Pp.elim
 |finished=>show Pp.elim
end
section
variable{a0:ae->ae->Prop}{F:Nat->aa->ae->ae->Prop}{aM:xW}{gh:xS}
theorem ahC{gs:eS}{Q:Option aa->ae->Prop}(hl:s.heap.NoLimit)(bM:A.depth<mR)(hg:s.heap.IsGen a g)(QC:s.gens[g]? =O gs)(Pp:Jq A.in1 a0 F fp aM gh (n+1) gs (s.setGen g m9))(hY:∀v aD WZ,WZ.bare=N->a0 (s.setGen g m9) aD->F n v (s.setGen g m9) aD->(∀mF:ae,(∀b∈fp,∀o,aD.heap.get? b=O o->mF.heap.get? b=O o)->Jq A.in1 a0 F fp aM gh n WZ mF)->
 Q (O v) (aD.setGen g WZ)):C A (xK (R a) "__next__") s Q:=by
 show vR hg.typeIs slot_gen_next (oh hg.typeIs slot_gen_next entry_gen_next (args_gen_next _) Z ?_);change C A.in1 (abt (R a) (yG aA)) s _;show C.bind<|C.holding<|Lake.T.wW (v₀:=g) (aJ:=s) (wpAny_genNumber hg ⟨rfl,rfl⟩)<|C.bind (Lake.T.wW (v₀:=gs.status) (aJ:=s) (wpAny_genState QC ⟨rfl,rfl⟩) ?_);cases gs with
 |running=>show Pp.elim
 |finished=>show Pp.elim
 |_=>show C.bind<|Lake.T.wW (v₀:=()) (aJ:=s) (wpAny_roomToWake hl bM ⟨rfl,rfl⟩)<|YM QC Pp λv aD WZ D hd hf hk=>(C.pure (ct v Z (hY v aD WZ D hd hf hk)))
end
def GD(aS:ab)(wr:List ab)(aJ s:ae):Prop:=GenSince aS wr aJ s/\∀b o,aJ.heap.get? b=O o->∃o',s.heap.get? b=O o'
def GF(o:bj)(v:aa)(aJ s:ae):Prop:=∃r,v=R r/\aJ.heap.get? r=ai/\s.heap.get? r=O o
noncomputable def GR(aS:ab)(wr:List ab):xW:=λn aJ r aD=>r=cf cJ/\(n=0/\GenSince aS wr aJ aD)
noncomputable def GY(aS:ab)(fp wr:List ab):xS:=genProto aS fp wr (λ_=>N) 0 (λ_ _=>False)
theorem GD.refl(aS:ab)(wr:List ab)(s:ae):GD aS wr s s:=⟨GenSince.refl _ _ _,λ_ o e=>⟨o,e⟩⟩
theorem GD.step(x:GD aS wr aJ s){tk:Nat}(hk:∀b o,b≠aS->b∉wr->s.heap.get? b=O o->h'.get? b=O o)(he:∀b o,s.heap.get? b=O o->∃o',h'.get? b=O o'):
 GD aS wr aJ {s with heap:=h',toks:=tk}:=⟨x.1.step hk,λb o e=>dG (x.2 b o e) λo' e'=>he b o' e'⟩
noncomputable abbrev zx:=Nat->aa->ae->ae->Prop
def zx.Back(F:zx):Prop:=∀i v aJ s Y,(∀b o,aJ.heap.get? b=O o->∃o',s.heap.get? b=O o')->F i v s Y->F i v aJ Y
noncomputable def GFo(o:bj):zx:=λ_=>GF o
theorem GFo.back(o:bj):zx.Back (GFo o):=by
 show λ_ _ aJ s Y h q=>gH q λr e1 e2 e3=>?_;show kH r e1 ?_ e3;cases q:aJ.heap.get? r with
 |none=>rfl
 |some o'=>show dG (h r o' q) λo2 q2=>?_;have q2:=e2.symm.trans q2;ext
def zx.DB(F:zx):Prop:=∀(i:Nat) (v:aa) (aJ s Y mF:ae),aJ.heap=s.heap->Y.heap=mF.heap->F i v s Y->F i v aJ mF
noncomputable def Fup(n₀:Nat)(F:zx):zx:=λn=>F (n₀ - 1 - n)
def acz(cenv:cg)(x:aP)(elt:aw)(fp wr:List ab)(P:Nat->aa->Prop)(F:zx)(DV:aN):Prop:=
 ∀(A':ck) i v (aQ:ae) m₂,dh A'->P i v->aQ.heap.Ns cenv.locals m₂->m₂ x=O v->(∀b∈fp,b∉wr->∀o,DV.get? b=O o->aQ.heap.get? b=O o)->
  C A' (aZ elt cenv) aQ (λy de=>F i y aQ de/\Keeps aQ de)
theorem YN{P:Nat->aa->Prop}(W:mT prog w A I fp wr n P St):mT prog w A I fp wr 0 (λ_ _=>False) (λi h=>St (n+i) h) where
 sub:=W.sub
 frame:=λi=>W.frame (n+i)
 item:=λ_ _ _ _ h=>absurd h (rD _)
 done:=W.done
 self:=λi=>W.self (n+i)
theorem ϙ{x:aP}{P:Nat->aa->Prop}{Hj:Nat->aN->Prop}{cenv:cg}{F:zx}(hFb:F.Back)(hh:dh A)(bq:∀A':ck,dh A'->mT prog w A' I fp wr n₀ P Hj)(hwe:∀i h,Hj i h->∀b∈wr,∃o,h.get? b=O o)(DV:aN)(E:cenv.kindOf x=O cZ)(hp:(cenv.scope.kind==UE ||(cenv.scope.kind==qr && cenv.locals != cenv.globals))=af)(Dr:cenv.scope.isCoroutine=af)(Ws:cenv.locals∉fp)(hq:acz cenv x elt fp wr P F DV):
 ∀(k i:Nat) (aJ s:ae) (m:aP->Option aa),n₀ - i=k->i<=n₀->Hj i s.heap->s.heap.Ns cenv.locals m->GD cenv.locals wr aJ s->
  (∀b∈fp,b∉wr->∀o,DV.get? b=O o->s.heap.get? b=O o)->
  NV A (GD cenv.locals wr) (Fup n₀ F) (cenv.locals::fp) (GR cenv.locals wr) (GY cenv.locals fp wr) k aJ
   (hb (lM elt [⟨ar x px,iter,[],0⟩] scope pos) 0 (R I) aA cenv)
   ((aG prog w).den (hb (lM elt [⟨ar x px,iter,[],0⟩] scope pos) 0 (R I) aA cenv)) [] s:=by
 intro k;induction k with
 |zero=>
  intro i aJ s m hk hi dH hn CT ZQ;have Gk:i=n₀:=by lia
  subst Gk;show seg_genLoop hh (λA' h'=>YN (bq A' h')) (λ_=>N) (λ_ _=>False) DV E hp Dr Ws ⟨λ_ _ _ _ _ _ _ f=>f.elim,λ_ _ _ _ _ _ _ f=>f.elim⟩ 0 0 aJ s m Z (ey _) dH hn CT.1 ZQ
 |succ k ih=>
  intro i aJ s m hk hi dH hn CT ZQ;have jA:i<n₀:=by lia
  have hh':(A.over (hb (lM elt [⟨ar x px,iter,[],0⟩] scope pos) 0 (R I) aA cenv) []).handled=ai:=hh;change NV A _ _ _ _ _ (k+1) aJ _ ((uZ (lM elt [⟨ar x px,iter,[],0⟩] scope pos) 0 (R I) aA cenv).onRaise (ri cenv)) [] s;rw[compTurn_gen,Fu];show iB Z<|C.standAt<|iB Z<|cR<|(bq _ hh').item i s _ _ jA dH λv U Ϛ hPv xe DC=>iB Z<|C.eq (rfl:jF (ar x px) (R I) v=pure ())<|iB Z (cR (jE (sC E (hn.at' λo e=>DC _ o (λh=>Ws ((bq A hh).sub _ h)) e) (λkq ϛ xf=>?_) hp)));have Ϝ:=λb o hbC hbw e=>xf.extBut b o hbC (DC b o hbw e);have aep:∀b o,s.heap.get? b=O o->∃o',kq.get? b=O o':=λb o e=>by
   show if q:b=cenv.locals then q▸eY ϛ λo' _ _ e' _=>⟨o',e'⟩ else ?_
   show if q2:b∈wr then dG (hwe _ _ xe b q2) λo' e'=>⟨o',xf.extBut b o' q e'⟩ else⟨o,Ϝ b o q q2 e⟩
  have ϝ:=λb D hbw o e=>Ϝ b o (λh=>Ws (h▸D)) hbw (ZQ b D hbw o e);show iB Z (C.pure ?_);simp only[if_true,(λv=>by simp only[yieldOut,Dr,UG,if_false]:∀v,yieldOut cenv v=yieldValue v)];rw[LX,LX,tj,tj];show Hi Z<|(hq _ i v _ _ hh' hPv ϛ (if_pos Z) ϝ).mono λy fq Gm=>og λgG kG=>FQ Gm λhFy Gm alq dX Pq=>kG ?_;clear kG gG;subst dX;show afr Z (YL Z (CT.step (λb o hbC hbw e=>Pq b o (Ϝ b o hbC hbw e)) (λb o e=>dG (aep b o e) λo' e'=>⟨o',Pq b o' e'⟩)) ?_ λmF Dz=>?_)
  .change F (n₀ - 1 - k) y aJ _;rw[(by lia:n₀ - 1 - k=i)];show hFb i y aJ _ _ (λb o e=>dG (CT.2 b o e) λo2 q2=>aep b o2 q2) hFy
  show CS Z (ih (i+1) mF mF _ au jA ((bq A hh).frame _ _ _ ((bq A hh).frame _ _ _ xe λb D o e=>xf.extBut b o (λh=>Ws (h▸D)) e) λb D o e=>Dz b (dF _ D) o (Pq b o e))
   ((ϛ.keeps Pq).at' λo e=>Dz _ (iz ..) o e) (GD.refl _ _ _) λb D hbw o e=>Dz b (dF _ D) o (Pq b o (ϝ b D hbw o e)))
theorem YO{x:aP}{P:Nat->aa->Prop}{Hj:Nat->aN->Prop}{cenv:cg}{F:zx}(hFb:F.Back)(hh:dh A)(bq:∀A':ck,dh A'->mT prog w A' I fp wr (n₀+1) P Hj)(hwe:∀i h,Hj i h->∀b∈wr,∃o,h.get? b=O o)(DV:aN)(E:cenv.kindOf x=O cZ)(hp:(cenv.scope.kind==UE ||(cenv.scope.kind==qr && cenv.locals != cenv.globals))=af)(Dr:cenv.scope.isCoroutine=af)(Ws:cenv.locals∉fp)(hq:acz cenv x elt fp wr P F DV)(aJ s:ae)(m:aP->Option aa)(dH:Hj 0 s.heap)(hn:s.heap.Ns cenv.locals m)(CT:GD cenv.locals wr aJ s)(ZQ:∀b∈fp,b∉wr->∀o,DV.get? b=O o->s.heap.get? b=O o):
 NV A (GD cenv.locals wr) (Fup (n₀+1) F) (cenv.locals::fp) (GR cenv.locals wr) (GY cenv.locals fp wr) (n₀+1) aJ
  (oQ (lM elt [⟨ar x px,iter,[],0⟩] scope pos) 0 (R I) aA cenv)
  ((aG prog w).den (oQ (lM elt [⟨ar x px,iter,[],0⟩] scope pos) 0 (R I) aA cenv)) [] s:=by
 have hh':(A.over (oQ (lM elt [⟨ar x px,iter,[],0⟩] scope pos) 0 (R I) aA cenv) []).handled=ai:=hh;have loop:=ϙ (iter:=iter) (px:=px) (scope:=scope) (pos:=pos) hFb hh bq hwe DV E hp Dr Ws hq (n₀+1) 0 aJ s m (Nat.sub_zero _) (fg _) dH hn CT ZQ;change NV A _ _ _ _ _ (n₀+1) aJ _ ((compStart (lM elt [⟨ar x px,iter,[],0⟩] scope pos) 0 (R I) aA cenv).onRaise (ri cenv)) [] s;rw[Fu];show iB Z (cR (TC ?_));split
 .show CS Z loop
 .show iB Z<|C.rule<|iB Z (C.standAt (iB Z (cR ((bq _ hh').self 0 s _ _ dH (CS Z loop)))))
structure lE(A:ck)(a:ab)(g:Nat)(aS:ab)(fp wr:List ab)(n₀:Nat)(F:zx)(j:Nat)(s:ae):Prop where
 gen:s.heap.IsGen a g
 lim:s.heap.NoLimit
 there:∀b∈aS::fp,∃o,s.heap.get? b=O o
 go:∃gs,s.gens[g]? =O gs/\∀mF:ae,(∀b∈aS::fp,∀o,s.heap.get? b=O o->mF.heap.get? b=O o)->
  Jq A.in1 (GD aS wr) (Fup n₀ F) (aS::fp) (GR aS wr) (GY aS fp wr) (n₀ - j) gs mF
theorem lE.frame{F:zx}{tk:Nat}(x:lE A a g aS fp wr n₀ F j s)(xh:cE∈fp)(hk:∀b∈a::aS::fp,∀o,s.heap.get? b=O o->h'.get? b=O o):lE A a g aS fp wr n₀ F j {s with heap:=h',toks:=tk} where
 gen:=eY x.gen λo nm qn ho r=>Bm o nm qn (hk a (iz ..) o ho) r
 lim:=bh x.lim λmc wJ ZR=>ct mc (wJ.at' λo e=>hk cE (dF _ (dF _ xh)) o e) ZR
 there:=λb D=>dG (x.there b D) λo e=>⟨o,hk b (dF _ D) o e⟩
 go:=bh x.go λgs QC Pp=>ct gs QC (λmF Dz=>Pp mF λb D o e=>Dz b D o (hk b (dF _ D) o e))
def l6(g:Nat)(a b:Array eS):Prop:=(∀(i:Nat) (x:eS),i≠g->a[i]? =O x->b[i]? =O x)/\((∀x∈a,x.bare=N)->∀x∈b,x.bare=N)
theorem l6.refl(g:Nat)(a:Array eS):l6 g a a:=⟨λ_ _ _ e=>e,λh=>h⟩
theorem l6.trans{a b c:Array eS}(y:l6 g b c)(x:l6 g a b):l6 g a c:=⟨λi z hi e=>y.1 i z hi (x.1 i z hi e),λh=>y.2 (x.2 h)⟩
theorem l6.ofQ{a b:Array eS}(x:GenOnlyQ g a b):l6 g a b:=⟨λi z hi e=>by
 rcases x with rfl|⟨⟨_,h⟩,_⟩
 .show e
 .show (h i hi).symm▸e,λh=>x.bare h⟩
theorem l6.sh{a c:Array eS}{x:eS}(E:x.bare=N)(y:l6 a.size (a.push x) c):nW a c:=⟨λi z e=>by
 have hi:=(UY.mp e).1;show y.1 i z (fB hi) ?_;rw[LI,if_neg (fB hi)];show e,λh=>y.2 λz hz=>by
 rcases Array.mem_push.mp hz with q|q
 .show h z q
 .show q▸E⟩
theorem l6.new{a b c:Array eS}(x:nW a b)(y:l6 g b c)(hg:a.size<=g):nW a c:=⟨λi z e=>y.1 i z (fB (ff (UY.mp e).1 hg)) (x.1 i z e),λh=>y.2 (x.2 h)⟩
structure Tg(g:Nat)(X:List ab)(s Y:ae):Prop where
 keep:∀b o,b∉X->s.heap.get? b=O o->Y.heap.get? b=O o
 os:Y.os=s.os
 drawn:Y.drawn=s.drawn
 gens:l6 g s.gens Y.gens
theorem Tg.refl(g:Nat)(X:List ab)(s:ae):Tg g X s s:=⟨λ_ _ _ e=>e,rfl,rfl,.refl _ _⟩
theorem Tg.trans{gh:List ab}{a b c:ae}(x:Tg g X a b)(y:Tg g gh b c)(h:∀d∈gh,d∈X\/a.heap.get? d=ai):Tg g X a c where
 keep:=λd o hd e=>y.keep d o (λq=>by
  rcases h d q with h|h
  .show hd h
  .have e:=h.symm.trans e;ext) (x.keep d o hd e)
 os:=y.os.trans x.os
 drawn:=y.drawn.trans x.drawn
 gens:=y.gens.trans x.gens
theorem Tg.heap{tk:Nat}(k:∀b o,b∉X->s.heap.get? b=O o->h'.get? b=O o):Tg g X s {s with heap:=h',toks:=tk}:=⟨k,rfl,rfl,.refl _ _⟩
theorem Ϟ(m:Moved X (GenOnlyQ g) s Y):Tg g X s Y:=⟨m.heap,m.os,m.drawn,.ofQ m.gens⟩
theorem lE.spc{F:zx}{Q:Option aa->ae->Prop}(x:lE A a g aS fp wr n₀ F j s)(bM:A.depth<mR)(hj:j<n₀)(DD:a≠aS)(NW:a∉wr)(NX:cE≠aS)(NY:cE∉wr)(hF:F.DB)(hQ:∀v Y,F j v s Y->lE A a g aS fp wr n₀ F (j+1) Y->Tg g (aS::wr) s Y->(∀b o,s.heap.get? b=O o->∃o',Y.heap.get? b=O o')->Q (O v) Y):C A (xK (R a) "__next__") s Q:=by
 obtain⟨hg,hl,hth,gs,QC,Pp⟩:=x;obtain⟨m,hm⟩:∃m,n₀ - j=m+1:=⟨n₀ - j - 1,nj0 hj⟩;show ahC hl bM hg QC ((hm▸Pp) _ λ_ _ _ e=>e) λv aD WZ D hd hf hk=>(og λgG kG=>?_);show eX hd λi1 ϟ=>eQ i1 λU Ϛ dX DC=>kG ?_;clear kG gG;subst dX;have hf:F (n₀ - 1 - m) v _ _:=hf;rw[(nj1 hm)]at hf;show hQ v _ (hF j v s (s.setGen g m9) {heap:=U,gens:=(s.setGen g m9).gens,drawn:=(s.setGen g m9).drawn,toks:=Ϛ,os:=(s.setGen g m9).os} _ Z Z hf) ⟨eY hg λo nm qn ho r=>(Bm o nm qn (DC a o DD NW ho) r),(bh hl λmc wJ ZR=>ct mc (wJ.at' λo e=>DC cE o NX NY e) ZR),λb D=>dG (hth b D) λo e=>ϟ b o e,WZ,xN (xN QC),λmF Dz=>?_⟩
  ⟨λb o D e=>DC b o (λh=>D (h▸cQ ..)) (λh=>D (dF _ h)) e,rfl,rfl,.ofQ (VY ((FC s g m9).trans (FC _ g WZ)) (xN (xN QC)) D)⟩ ϟ
 rw[(nj2 hm)];show hk mF Dz
theorem lE.next{F:zx}{Q:Option aa->ae->Prop}(x:lE A a g aS fp wr n₀ F j s)(bM:A.depth<mR)(hj:j<n₀)(DD:a≠aS)(NW:a∉wr)(NX:cE≠aS)(NY:cE∉wr)(hF:F.DB)(hQ:∀v Y,F j v s Y->lE A a g aS fp wr n₀ F (j+1) Y->Tg g (aS::wr) s Y->(∀b o,s.heap.get? b=O o->∃o',Y.heap.get? b=O o')->Q (O v) Y):C A (gY (R a)) s Q:=
 C.bind (C.attempt (x.spc bM hj DD NW NX NY hF λv Y a b c d=>C.pure (hQ v Y a b c d)))
theorem lE.done{F:zx}{Q:Option aa->ae->Prop}(x:lE A a g aS fp wr n₀ F n₀ s)(hh:dh A)(bM:A.depth<mR)(hQ:∀Y,Tg g (aS::wr) s Y->Q ai Y):ax (aG prog w) A (gY (R a)) Q a6 s:=by obtain⟨hg,hl,hth,gs,QC,Pp⟩:=x;rw[Ll]at Pp;show wpAny_with_toks (ey s.toks)<|wpAny_pyNext_genexpQ hh hl bM hg QC (RG (Pp _ λ_ _ _ e=>e)) (λv aD WZ D hv=>hx hv λi1 _ _=>bh i1 λ_ _ f=>f.elim)<|λaD hp h' hk=>FQ hp λ_ U Ϛ dX DC=>?_;subst dX;show λhtk=>hQ _ (Ϟ ⟨λb o D e=>hk b o (DC b o (λh=>D (h▸cQ ..)) (λh=>D (dF _ h)) e),VY ((FC s g m9).trans (FC _ g GenState.finished)) (xN (xN QC)) Z,rfl,rfl,htk⟩)
theorem GFo.heap(o:bj):zx.DB (GFo o):=by show λ_ _ aJ s Y mF e1 e2 q=>gH q λr h1 h2 h3=>kH r h1 (e1▸h2) (e2▸h3)
def Pr(o:bj)(sB:ae)(X:List ab)(rs:List ab)(s:ae):Prop:=
 (∀r∈rs,s.heap.get? r=O o/\r∉X/\sB.heap.get? r=ai)/\
 rs.Nodup
theorem IQ{S:ab}{res:aa}{sB:ae}(hh:dh A)(bM:A.depth<mR)(DD:a≠aS)(NW:a∉wr)(vQ:∀b∈wr,b∈fp)(xh:cE∈fp)(NX:cE≠aS)(NY:cE∉wr)(hn:n₀<=1000)(ZS:S∉a::aS::fp)(hXf:∀b∈X,b∈a::aS::fp)(nN:∀b∈S::aS::wr,b∈X\/sB.heap.get? b=ai):
 ∀(k j:Nat) (s:ae) (c:Nat) (jx:Array aa) (rs:List ab),n₀ - j=k->j<=n₀->lE A.in1 a g aS fp wr n₀ (GFo o) j s->s.heap.get? S=O {cls:=ak "list",dict:=ai,data:=bU jx c,slots:=#[]}->jx=(rs.map R).toArray->rs.length=j->
  Pr o sB (S::a::aS::fp) rs s->Tg g X sB s->
  (∀Y c' rs',Tg g X sB Y->rs'.length=n₀->Pr o sB (S::a::aS::fp) rs' Y->Y.heap.get? S=O {cls:=ak "list",dict:=ai,data:=bU (rs'.map R).toArray c',slots:=#[]}->aM (cf (cL res)) Y)->
  CC A (fM "list.extend.loop" ⟨[R S,R a,res],[]⟩) s aM:=by
 have ahD:S∉aS::wr:=gZ (λh=>ZS bB) (λh=>ZS (by simp[vQ _ h]));have rm:A.in1.depth<mR:=bM;intro k;induction k with
 |zero=>
  intro j s c jx rs hk hj hg hS ot hl hr ht hR;have Gk:j=n₀:=by lia
  subst Gk;show jS Vo Z<|C.bind<|cR<|hg.done hh rm λY m=>C.pure (hR Y c rs (ht.trans m λd hd=>nN d (bZ _ hd)) hl ⟨λr Ϙ=>?_,hr.2⟩ (ot▸m.keep S _ ahD hS));show hx (hr.1 r Ϙ) λq1 q2 q3=>((gS (m.keep r o (λh=>q2 ?_) q1) q2 q3));rcases bu.mp h with e|e
  .ext
  .simp [vQ _ e]
 |succ k ih=>
  intro j s c jx rs hk hj hg hS ot hl hr ht hR;have jA:j<n₀:=by lia
  show jS Vo Z<|C.bind<|hg.next rm jA DD NW NX NY (GFo.heap o) λv Y qQ hg' m hth=>gH qQ λr ev hr0 hr1=>ev▸?_;have hS':=m.keep S _ ahD hS;have hrX:r∉S::a::aS::fp:=λh=>by
   rcases bu.mp h with e|h
   .have hr0:=hS▸e▸hr0;ext
   .rcases bu.mp h with e|h
    .show eY hg.gen λo' _ _ e' _=>?_;have hr0:=e'▸e▸hr0;ext
    .show dG (hg.there r h) λo' e'=>?_;have hr0:=e'▸hr0;ext
  show C.bind (cR (uT hS' Z (C.pure ⟨lJ Fl _,ih (j+1) _ _ (jx.push (R r)) (rs++[r]) au jA (hg'.frame (tk:=Y.toks) xh λb D o e=>?_) (gO _ hS' Z) (by rw[ot];simp) (by simp[hl]) ⟨λr' hr'=>?_,?_⟩ ?_ hR⟩)
   (by have:fc=16777216:=jX;subst ot;simp;lia) (by have:fc=16777216:=jX;subst ot;simp;lia)))
  .show (mi _ _ (λh:S=b=>ZS (h▸D))).trans e
  .rcases b9.mp hr' with h|h
   .show hx (hr.1 r' h) λq1 q2 q3=>((gS ((mi _ _ (λe:S=r'=>q2 (by simp[e]))).trans (m.keep r' o (λh=>q2 ?_) q1)) q2 q3));rcases bu.mp h with e|e
    .ext
    .simp [vQ _ e]
   .simp at h;subst h;show gS ((mi _ _ (λe=>hrX (by simp[e]))).trans hr1) hrX ?_;cases q:sB.heap.get? r' with|none=>rfl|some o'=>have hr0:=(ht.keep r' o' (λh=>hrX (bZ _ (hXf _ h))) q).symm.trans hr0;ext
  .show qi.mpr ⟨hr.2,by simp,λx E y hy e=>?_⟩;simp at hy;subst hy e;have hr0:=((hr.1 _ E).1).symm.trans hr0;ext
  .show (ht.trans m λd hd=>nN d (bZ _ hd)).trans (Tg.heap (X:=[S]) (s:=Y) (tk:=Y.toks) λb o D e=>(mi _ _ (λe:S=b=>D (bJ.mpr (id (mn e))))).trans e) λd hd=>?_;simp at hd;show nN d bB
theorem Hk{Q:List aa->ae->Prop}(hh:dh A)(bM:A.depth<mR)(DD:a≠aS)(NW:a∉wr)(vQ:∀b∈wr,b∈fp)(xh:cE∈fp)(NX:cE≠aS)(NY:cE∉wr)(hn:n₀<=1000){sB:ae}(hXf:∀b∈X,b∈a::aS::fp)(nN:∀b∈aS::wr,b∈X\/sB.heap.get? b=ai)(ht:Tg g X sB s)(hg:lE A.in1 a g aS fp wr n₀ (GFo o) 0 s)(hq:∀Y rs,Tg g X sB Y->rs.length=n₀->Pr o sB (a::aS::fp) rs Y->Q (rs.map R) Y):C A (collect (R a)) s Q:=by
 have ZS:s.heap.objs.size∉a::aS::fp:=λhm=>by have:∃o,s.heap.get? s.heap.objs.size=O o:=bf (bu.mp hm) (λe=>eY hg.gen λo' _ _ e' _=>⟨o',by rw[e];show e'⟩) λhm=>hg.there _ hm;show dG this λo' e=>(absurd (cn e) (gx _))
 have hSI:s.heap.objs.size≠a:=λe=>ZS bB;have hSB:sB.heap.get? s.heap.objs.size=ai:=by
  cases q:sB.heap.get? s.heap.objs.size with
  |none=>rfl
  |some o'=>show absurd (cn (ht.keep _ _ (λh=>ZS (hXf _ h)) q)) (gx _)
 show C.bind<|C.runValue<|jS LM Z<|C.bind<|cR<|ij<|C.pure ⟨lJ LP _,jS Fm Z ?_⟩;have W0:=hg.frame (h':=s.heap.push {cls:=ak "list",data:=bU ([]:List aa).toArray}) (tk:=s.toks) xh λb _ o e=>a8 _ e;show(?_:C A.in1 (Vd (R s.heap.objs.size) (R a) (R s.heap.objs.size)) _ _);show C.bind (cR (ow W0.gen.typeIs ?_));have h1:yA (R s.heap.objs.size) (R a)=af:=by simp[yA,hSI]
 show ee (by rw[h1];decide)<|C.bind<|cR<|Eb W0.gen<|C.bind<|C.holding<|C.bind<|cR<|eH W0.gen.typeIs PySem.F.gen_no_len<|C.bind<|cR<|eH W0.gen.typeIs PySem.F.gen_no_hint<|C.pure<|(?_:C A.in1 (sO "list.extend.makes-room" >>=λ_=>Vg (R s.heap.objs.size)>>=λ_=>
  again (fM "list.extend.loop" ⟨[R s.heap.objs.size,R a,R s.heap.objs.size],[]⟩)) _ _)
 show C.bind<|C.rule<|have Pt:(s.heap.push {cls:=ak "list",data:=bU ([]:List aa).toArray}).get? s.heap.objs.size=O {cls:=ak "list",data:=bU ([]:List aa).toArray}:=bK _ Z;C.bind<|cR<|ag<|uT Pt Z<|have G9:=gO (dP (·.push aA)) Pt Z;uT G9 Z ?_;have YP:∀b o,b≠s.heap.objs.size->(s.heap.push {cls:=ak "list",data:=bU ([]:List aa).toArray}).get? b=O o->
  (((s.heap.push {cls:=ak "list",data:=bU ([]:List aa).toArray}).update s.heap.objs.size (dP (·.push aA))).update s.heap.objs.size (dP (·.pop))).get? b=O o:=
  λb o D e=>(mi _ _ (eO D)).trans ((mi _ _ (eO D)).trans e)
 show C.pure ⟨lJ Fl _,IQ (sB:=sB) (rs:=[]) hh bM DD NW vQ xh NX NY hn ZS hXf (λb D=>?_) n₀ 0 _ _ _ Z (fg _)
  ((hg.frame (tk:=s.toks) xh λb D o e=>YP b o (λh=>ZS (h▸D)) (a8 _ e))) (gO (dP (·.pop)) G9 Z) Z Z ⟨λr hr=>(kJ hr),by simp⟩ ?_ λY c' rs m hl hr hS'=>?_⟩
 .rcases bu.mp D with e|e
  .rw [e];show aH hSB
  .show nN b e
 .show ht.trans (Tg.heap (X:=[]) (s:=s) (tk:=s.toks) λb o _ e=>YP b o (fB (cn e)) (a8 _ e)) zk
 show C.bind (cR (iX hS' (C.pure ?_)));have:=hq Y rs m hl ⟨λr Ϙ=>hx (hr.1 r Ϙ) λx y z=>(gS x (λh=>y (bZ _ h)) z),hr.2⟩;lia
theorem CU(hh:dh A)(bM:A.depth<mR)(DD:a≠aS)(NW:a∉wr)(vQ:∀b∈wr,b∈fp)(xh:cE∈fp)(NX:cE≠aS)(NY:cE∉wr)(hn:n₀<=1000){sB:ae}(hXf:∀b∈X,b∈a::aS::fp)(nN:∀b∈aS::wr,b∈X\/sB.heap.get? b=ai)(ht:Tg g X sB s)(hg:lE A.in1.in1 a g aS fp wr n₀ (GFo o) 0 s)(hq:∀Y rs,Tg g X sB Y->rs.length=n₀->Pr o sB (a::aS::fp) rs Y->Q (R Y.heap.objs.size) {Y with heap:=Y.heap.push {cls:=ak "tuple",data:=bU (rs.map R).toArray}}):
 C A (call (bx "tuple.__new__") [ak "tuple",R a]) s Q:=by
 show C.call<|wY Vr Vs Z<|C.eq (PySem.F.newCall_tuple_1 _)<|have alr:=sub_tuple_self;C.bind<|C.eq (rfl)<|ee aK<|C.bind<|C.pure<|C.bind<|C.eq madeHere_tuple<|C.bind<|C.eq init_tuple_lookup<| ?_;show ?_;show C.bind (m:=abq (R a)) (T.wW (v₀:=af) (aJ:=s) ?_ ?_)
 .show ag (ow hg.gen.typeIs (aB ⟨rfl,rfl⟩))
 show ee aK<|C.bind<|Hk hh bM DD NW vQ xh NX NY hn hXf nN ht hg λY rs m hl hr=>C.bind<|C.pure<|lC (ij ?_ (by change(rs.map R).toArray.size<=fc;have e1:=jX;simp;lia));show C.pure (hq Y rs m hl hr)
theorem MW(hh:dh A)(bM:A.depth<mR)(DD:a≠aS)(NW:a∉wr)(vQ:∀b∈wr,b∈fp)(xh:cE∈fp)(NX:cE≠aS)(NY:cE∉wr)(hn:n₀<=1000){sB:ae}(hXf:∀b∈X,b∈a::aS::fp)(nN:∀b∈aS::wr,b∈X\/sB.heap.get? b=ai)(ht:Tg g X sB s)(hg:lE A.in1.in1.in1 a g aS fp wr n₀ (GFo o) 0 s)(hq:∀Y rs,Tg g X sB Y->rs.length=n₀->Pr o sB (a::aS::fp) rs Y->Q (R Y.heap.objs.size) {Y with heap:=Y.heap.push {cls:=ak "tuple",data:=bU (rs.map R).toArray}}):
 C A (call (ak "tuple") [R a]) s Q:=by
 show BY LQ (PySem.F.typeCall_tuple_1 _) PySem.F.entry_object_init (λ_=>rfl)
  <|CU hh bM DD NW vQ xh NX NY hn hXf nN ht hg λY rs m hl hr=>have hT:(Shared.TypeIs {Y with heap:=Y.heap.push {cls:=ak "tuple",data:=bU (rs.map R).toArray}} (R Y.heap.objs.size) "tuple"):=ct _ (bK _ Z) Z;gS hT (PySem.F.args_object_init_2 _ _)<|have:=(object_init_meets (rest:=[R a]) LQ.init.lookup LQ.made (rfl) prog w A.in1) (λr aQ=>r=cf (cL aA)/\aQ={Y with heap:=Y.heap.push {cls:=ak "tuple",data:=bU (rs.map R).toArray}}) _ (gS hT Z Z);T.wx (P:=OP A.in1 (λr aQ=>r=cf (cL aA)/\aQ={Y with heap:=Y.heap.push {cls:=ak "tuple",data:=bU (rs.map R).toArray}})) (gV this (λzb s2 h2=>?_) λe s2 h2=>by cases h2.1) λzb s2 h2=>?_
 .cases zb with
  |done f=>show h2
  |again c=>show⟨h2.1,Rl h2.2⟩
 .cases zb with
  |done f=>show eX h2 λe1 e2=>e2▸⟨e1,hq Y rs m hl hr⟩
  |again c=>show⟨h2.1,h2.2.mono λr s3 qQ=>eX qQ λe1 e2=>⟨e1,by rw[e2];show hq Y rs m hl hr⟩⟩
protected theorem ER.gen{K:LN}{ks:List Int}{code:aa}(c:ed L scope fs K)(r:ER H U L J h G)(x:hJ H h h')(jB:∀y∈fs,cl.lookup (NM y)=J.cells.lookup (NM y))(n:h'.Ns aS m)(hC:aS∉bY)(hl:K.length=ks.length)(hm:∀(j:Nat) x k,K[j]? =O x->ks[j]? =O k->∃t,m (NM x)=O (ah k t)):ER H U scope (genEnv scope cl aS code fY J) h' (putAll (lB G fs) K ks) where
 base:=r.base.trans x
 kind:=c.kind
 gl:=λ_ hy=>hy
 Wh:=λ_ hy=>hy
 glob:=r.glob
 bi:=rfl
 loc:=hC
 has:=r.agZ c x jB (λy h=>aH (c.frees y h).1) n c.locs hl hm
theorem Pu{c P:ab}(hc:c∉bY)(ou:U.IsCode c P #[])(vH:U.TableAt c P #[])(hP:P∈bY)(pg:P∉H)(b0:hJ H U h):h.IsCode c P #[]/\h.TableAt c P #[]:=by show⟨Fw ou (λ_=>b0.keep c _ hc) λ_=>b0.quiet P _ hP pg,?_⟩;obtain⟨⟨o,vs,t1,t2,t3,t4⟩,t5⟩:=vH;show⟨(Ml o vs (b0.keep c _ hc t1) t2 t3 t4),b0.quiet P _ hP pg t5⟩
theorem W6{P:ab}{more:Array aa}(hP:P∈bY)(ku:P∈τ')(h1:h.get? P=O (tabObj #[]))(h2:h'.get? P=O (tabObj more))(E:Ks P h h'):hJ τ' h h':=by
 show⟨λb o hb' e=>E b o (λq=>hb' (q▸hP)) e,λb hb' ps e=>?_,λb o e=>if π:b=P then π▸⟨_,h2⟩ else⟨o,E b o π e⟩,λb o hb' hq' e=>E b o (λq=>hq' (q▸ku)) e⟩;show if π:b=P then ?_ else⟨#[],by simpa using E b _ π e⟩
 subst π;have hps:ps=#[]:=by
  injection (aV (e▸h1)) with _ _ h3 _
  injection h3
 subst hps;show⟨more,by simpa using h2⟩
def B5(X:Prop)(elt cu iter:aw)(scope:c9)(pos:aY)(J:cg)(P:ab)(cl:List (aP×ab))(code:aa)(aS a:ab)(it:aa)(aQ hO:ae):Prop:=
 X/\
 hO.os=aQ.os/\
 hO.drawn=aQ.drawn/\
 (∀b o,b≠P->aQ.heap.get? b=O o->hO.heap.get? b=O o)/\
 hO.heap.IsGen a aQ.gens.size/\
 hO.gens=aQ.gens.push (Lv (oQ (lM elt [⟨cu,iter,[],0⟩] scope pos) 0 it aA (genEnv scope cl aS code fY J)))/\
 hO.heap.Ns aS (λy=>if y= ".0" then O it else ai)/\
 aQ.heap.get? aS=ai/\
 aQ.heap.get? a=ai/\
 a≠aS/\
 aS∉bY/\
 a∉bY
theorem W9{h3 h4:aN}{o2:bj}(hn:∀b o,h.get? b=O o->b<h3.objs.size)(top:QH<=h3.objs.size)(hs4:gw h3.objs.size (h3.push o2) h4):
 h.get? h3.objs.size=ai/\h.get? h4.objs.size=ai/\h4.objs.size≠h3.objs.size/\h3.objs.size∉bY/\h4.objs.size∉bY:=by
 have key:∀b,h3.objs.size<=b->h.get? b=ai:=λb D=>by
  cases q:h.get? b with
  |none=>rfl
  |some o=>show absurd (ff (hn b o q) D) (gx _)
 rw[(hs4.1.trans (dD ..):h4.objs.size=h3.objs.size+1)];show⟨key _ (ey _),key _ (lQ _),yl _,fi top,fi (ql top)⟩
theorem Jr{K:LN}{cC P:ab}{It:aa->ae->Prop}(B:cA U mg mb)(c:ed L scope fs K)(hG:pU G fs=N)(h0:scope.names.lookup (".0" :aP)=O cZ)(Dr:scope.isCoroutine=af)(bM:A.depth<1000)(o9:J.code=R cC)(OE:cC∉bY)(ou:U.IsCode cC P #[])(vH:U.TableAt cC P #[])(hP:P∈bY)(pg:P∉H)(ku:P∈τ')(nO:∀b∈H,b∈τ')(r:ER H U L J s.heap G)(um:T A (aZ iter J) s (λx aD=>T A (gm x) aD (λit aQ=>dz H s aQ/\It it aQ)))(hs:∀x,genFold iter J x=pure x)(hq:∀it aQ cl code aS a hO,dz H s aQ->It it aQ->(∀y∈fs,cl.lookup (NM y)=J.cells.lookup (NM y))->B5 (hJ τ' aQ.heap hO.heap) elt cu iter scope pos J P cl code aS a it aQ hO->Q (R a) hO):
 T A (aZ (lM elt [⟨cu,iter,[],0⟩] scope pos) J) s Q:=by
 show bh (c.Ol r hG) λcl jB wM=>(S7 Dr jB c.cell h0 c.kind (by assumption) (um.wp λxv aD h1=>h1.Cu λit aQ e2 hI=>⟨B.zo (r.base.trans e2.ext),?_⟩) hs);have b2:=r.base.trans e2.ext;show eX (Pu OE ou vH hP pg b2) λaki aeq=>have top2:=jz B.top b2;wpAny_genexprCodeX o9 aki aeq Z λc' h3 tk E hge jA _ Ra Yp _=>have x3:=W6 hP ku aeq.2 Yp.2 E;have b3:=(b2.up nO).trans x3;vt B.bmod λbm ob hbm Q7 hbT Q8 Q9 Gu BC=>(Ea (by rw[r.glob];show B.mg b3) hbm Q7 (b3.keep bm _ hbT Q8) Q9 Gu BC ?_);intro h4 hn4 hs4;have x4:=λb o e=>hs4.extBut b o (fB (cn e)) (a8 _ e);have ahE:=ba hge (gy jA);show hq it aQ cl _ h3.objs.size h4.objs.size _ e2 hI wM ⟨x3.trans (.of_keep λb o e=>a8 _ (x4 b o e)),rfl,rfl,λb o D e=>a8 _ (x4 b o (E b o D e)),
  (DO _ _ _ (bK _ Z) Z Z Z),rfl,hn4.push _,W9 (λb o e=>ff (cn e) ahE) (ba top2 ahE) hs4⟩
def Xc(n:Nat)(P:Nat->aa->Prop)(s:ae)(it:aa)(aQ:ae):Prop:=
 ∃I St,it=R I/\(∀A':ck,dh A'->mT prog w A' I [I] [I] n P St)/\St 0 aQ.heap/\s.heap.get? I=ai/\(∀i h,St i h->kM h I)
section
variable{aQ hO:ae}
theorem DE{a b c:Int}{t u v:aW}{rr:ab}(e:dz H s aD)(hr:qg aD.heap rr a b c t u v)(hs:vh a b c=N)(hn:kZ a b c=(n:Int)):T A (gm (R rr)) aD (λit aQ=>dz H s aQ/\Xc n (Gj (Dm a c n)) s it aQ):=by show Al hr hs ⟨e.trans ⟨.push _ _,rfl,rfl,eV _⟩,?_⟩;show hn.symm▸⟨aD.heap.objs.size,_,rfl,λA' RH=>vF (Mg RH _ a c n) Z (λi v hi qQ=>dG qQ λt hv=>kI _ t (o6.mpr ⟨hi,rfl⟩) hv),?_,e.ext.new (bF _),λi h st=>(ct _ st (ao ⟨_,rfl,λx t e=>by simp[dN]at e⟩))⟩;rw[(by simp:(a+((0:Nat):Int) * c)=a),(by simp:((n:Int) - ((0:Nat):Int))=n)];show bK _ Z
theorem YQ(B:cA U mg mb)(I:dQ mg mb)(kO:Gi L "range")(he:V H U A L J G e (aT k) af)(dH:cG e=af)(hk:k<=100000)(r:ER H U L J s.heap G):
 T A (aZ (bI (ar (aC "range") np) [e] [] pos) J) s (λx aD=>T A (gm x) aD (λit aQ=>dz H s aQ/\Xc k (Gj (Dm 0 1 k)) s it aQ)):=by
 show mC ("range") ("range") B I aK kO (rfl) (fJ.cons he fJ.nil dH) (by simp[dW,dH]) r λvs aD F e1 V1=>?_;apply nJ V1;show λt=>sH (DE (e1.trans ⟨.push _ _,rfl,rfl,eV _⟩) (vp ..) (uY au au au au) ?_);rw[uV];split<;>lia
noncomputable def Js(h:aN)(aS a:ab):List ab:=(aI h.objs.size).filter λb=>(h.get? b).isSome && b != aS && b != a
theorem qa{b:ab}:b∈Js h aS a↔(∃o,h.get? b=O o)/\b≠aS/\b≠a:=by
 delta Js
 rw[gq,dm];constructor
 .rintro ⟨_,h⟩;simp at h;show gS (yo.mp h.1.1) h.1.2 h.2
 .show λoq=>og λgG kG=>hx oq λi1 h2 h3=>dG i1 λo e=>kG ?_;clear kG gG;show⟨cn e,by simp[e,h2,h3]⟩
variable{P:ab}{code:aa}
theorem B5.later(g:B5 (hJ τ' aQ.heap hO.heap) elt cu iter scope pos J P cl code aS a it aQ hO)(x:hJ τ' s.heap aQ.heap)(hI:s.heap.get? I=ai)(hk:∀b∈Js hO.heap aS a,b∉[I]->∀o,hO.heap.get? b=O o->h'.get? b=O o):hJ τ' s.heap h':=by
 show dU g λg1 _ _ _ _ _ _ Ϡ=>je Ϡ λg8 g9 _ _ _=>?_;have x5:=x.trans g1;have key:=λb o o' e e5=>by
  show dG (x.there b o e) λo2 e2=>(hk b (qa.mpr ⟨⟨_,e5⟩,λq=>?_,λq=>?_⟩) (λq=>?_) o' e5)
  .have e2:=g8▸q▸e2;ext
  .have e2:=g9▸q▸e2;ext
  .simp at q;have e:=hI▸q▸e;ext
 show⟨λb o D e=>key b o _ e (x5.keep b o D e),λb D ps e=>dG (x5.tab b D ps e) λmore e5=>⟨more,key b _ _ e e5⟩,λb o e=>dG (x5.there b o e) λo' e5=>⟨o',key b o o' e e5⟩,λb o D ht e=>key b o _ e (x5.quiet b o D ht e)⟩
theorem lE.made{Pv:Nat->aa->Prop}{F:zx}(hFb:F.Back){X:Prop}(g:B5 X elt (ar (NM x) px) iter scope pos J P cl code aS a (R I) aQ hO)(hh:dh A)(hW:∀A':ck,dh A'->mT prog w A' I [I] [I] (n+1) Pv St)(dH:St 0 aQ.heap)(Xd:∀i h,St i h->∃o,h.get? I=O o)(hIP:I≠P)(hl:hO.heap.NoLimit)(hk:scope.kind=d0)(E:scope.names.lookup (NM x)=O cZ)(Dr:scope.isCoroutine=af)(hIf:I∈fp)(Ws:aS∉fp)(hfe:∀b∈fp,∃o,hO.heap.get? b=O o)(hel:acz (genEnv scope cl aS code fY J) (NM x) elt fp [I] Pv F hO.heap):
 lE A a aQ.gens.size aS fp [I] (n+1) F 0 hO:=by
 show dU g λ_ _ _ g4 g5 g6 g7 afs=>je afs λ_ _ _ _ _=>?_;have CA:=λA' h'=>(hW A' h').mono_fp λb D=>by apply jT D;show hIf
 show⟨g5,hl,λb D=>bf (bu.mp D) (λe=>e▸eY g7 λo' _ _ e' _=>⟨o',e'⟩) λe=>hfe b e,Lv _,by rw[g6];show Array.getElem?_push_size ..,λmF Dz=>?_⟩;show YO (A:=A.in1) (cenv:=genEnv scope cl aS code fY J) hFb hh CA (λi h st b D=>by show bJ.mp D▸?_;show Xd i h st) hO.heap E (by simp[genEnv,hk]) Dr Ws hel mF mF _
  ((hW A hh).frame _ _ _ ((hW A hh).frame _ _ _ dH λb D o e=>g4 b o (bJ.mp D▸hIP) e) λb D o e=>by cases bJ.mp D;show Dz _ (dF _ hIf) o e) (g7.at' λo e=>Dz _ (iz ..) o e) (GD.refl _ _ _) λb D _ o e=>Dz b (dF _ D) o e
end
def oi:bT:=cS 23
noncomputable def CV:LN:=cb 13 2
def vT:List (LN):=cb 13 CV
section
variable{Q:b8->ae->Prop}
theorem PS.up(p:PS H U L J aJ bq bA G S s)(nO:∀b∈H,b∈τ'):PS τ' U L J aJ bq bA G S s:=⟨gH p.fr λW r a b=>(kH W (r.up nO) a b),p.sg,p.mod,p.lD⟩
def gi(U:aN):Prop:=∀b∈bY,∃o,U.get? b=O o
structure z8(H:List ab)(s Y:ae):Prop where
 ext:hJ H s.heap Y.heap
 os:Y.os=s.os
 drawn:Y.drawn=s.drawn
 gens:nW s.gens Y.gens
theorem dz.pe(x:dz H s Y):z8 H s Y:=⟨x.ext,x.os,x.drawn,.of x.gens⟩
theorem z8.trans{a b c:ae}(x:z8 H a b)(y:z8 H b c):z8 H a c:=⟨x.ext.trans y.ext,y.os.trans x.os,y.drawn.trans x.drawn,y.gens.trans x.gens⟩
theorem z8.akj(W:List ab)(x:z8 H s Y):sy W s Y:=⟨x.ext.mod W,x.os,x.drawn,x.gens⟩
theorem PS.Xe(p:PS H U L J aJ bq bA G S s)(x:z8 H s Y):PS H U L J aJ bq bA G S Y:=gH p.fr λW r hW hd=>⟨(kH W (r.grow x.ext) hW hd),p.sg.ext x.ext,p.mod.trans (x.akj []) (λd hd=>kJ hd),p.lD⟩
theorem PS.grown(p:PS H U L J aJ bq bA G S s)(hT:gi U)(x:z8 H s Y)(h:∀y∈bw,s.heap.get? y.1=ai/\Y.heap.get? y.1=O y.2/\Hd y.2=N):PS H U L J aJ bq bA G (bw++S) Y:=by
 have p':=p.Xe x;show gH p.fr λW r q1 q2=>?_;have nN:∀y∈bw,y.1∉W:=λy hy q=>by show oU (r.jj _ q) λ_ _ o' e _=>?_;have e:=((h y hy).1).symm.trans e;ext
 have vH:∀y∈bw,y.1∉bY:=λy hy q=>by show dG (hT _ q) λo e=>(dG (p.ext.there _ o e) λo' e'=>?_);have e':=((h y hy).1).symm.trans e';ext
 show⟨⟨W,r.grow x.ext,q1,λy hy=>by
  rcases b9.mp hy with e|e
  .show nN y e
  .show q2 y e⟩,λy hy=>by
  rcases b9.mp hy with e|e
  .show ⟨(h y e).2.1,vH y e,(h y e).2.2,p.ext.new (h y e).1⟩
  .show p'.sg y e,p'.mod,λy hy=>by
  rcases b9.mp hy with e|e
  .show aH (p.mod.mod.new (h y e).1)
  .show p'.lD y e⟩
theorem aft{p2:aY}{aQ:ae}(B:cA U mg mb)(I:dQ mg mb)(r:ER H U scope ZV aQ.heap Gx)(kO:Gi scope "bytearray")(E:cq Gx x=O (k,a7 ns))(D:lY ns):
 C A (aZ (bI (ar (aC "bytearray") np) [ar (NM x) p2] [] pos) ZV) aQ (λy de=>GF (kB ns) y aQ de/\Keeps aQ de):=by
 have hI:=I ("bytearray",ak "bytearray") aK;show fU<|Lake.T.wW (ez B r kO hI.1 hI.2 (rfl))<|dg (rfl)<|ej<|cx<|Lake.T.wcV (v9 r E) λv F aO=>c8 (iG ⟨rfl,?_⟩);apply fP aO;intro l vs n F' _ hl V' _;show uH ("list") n hl (ao Z) (intsAre_of V' (dS ns)) D.1 D.2 ⟨(kH _ Z (bF _) (bK _ Z)),_,_,rfl,λb o e=>a8 _ e⟩
theorem ϡ:∀rs:List ab,bC h (rs.map λr=>aX (R r)) (rs.map R) []:=by
 intro xX;induction xX with
 |nil=>show .nil
 |cons r rs iH=>show eg [] [] (.ir _) (iH)
theorem Hl:∀rs:List ab,iU (rs.map λr=>aX (R r))=N:=by
 intro xX;induction xX with
 |nil=>show rfl
 |cons _ rs iH=>show iH
def ahF:bT->c9
 |fE _ e _=>uz (aeO e)
 |_=>bg oi
theorem ahG{k1 k2:Nat}{cC:ab}(hh:dh A)(B:cA U mg mb)(I:dQ mg mb)(hT:gi U)(bM:A.depth<1000)(p:PS H U (bg oi) J aJ bq bA G S s)(h31:cq G 31=O (k1,a7 CV))(h61:cq G 61=O (k2,aT 13))(dH:bW G 9=N)(o9:J.code=R cC)(OE:cC∉bY)(ou:U.IsCode cC 1934 #[])(vH:U.TableAt cC 1934 #[])(pg:1934∉H)(ku:1934∈τ')(nO:∀b∈H,b∈τ')(kk:∀Y rs,rs.length=13->rs.Nodup->(∀y∈S,y.1∉rs)->PS τ' U (bg oi) J aJ bq bA (jm G 9 0 (uq rs)) (uJ rs vT++S) Y->C A (aU rest J) Y Q):
 C A (aU (bc (bo oi) 4::rest) J) s Q:=by
 have hP:1934∈bY:=by decide
 show yR (x:=9) (τ':=τ') (U:=U) (aJ:=aJ) (bq:=bq) (bA:=bA) (L:=bg oi) dH (ao Z) Z<|have hI:=I ("tuple",ak "tuple") aK;have RJ:ed (bg oi) (ahF (bc (bo oi) 4)) [31] [14]:=ed.of (rfl);have r0:ER H U (bg oi) J s.heap G:=bh p.fr λW r _=>r.er;fU<|Lake.T.wW (ez B r0 Z hI.1 hI.2 (rfl))<|dg (rfl)<|ej (cx (Lake.T.wc (Jr (τ':=τ') (fs:=[31]) (K:=[14]) (P:=1934) B RJ (by rw[pU];rw[h31];rfl) (rfl) Z bM o9 OE ou vH hP pg ku nO r0
  (YQ (k:=13) B I (by rfl) (aq 61 h61) Z bz r0) (λ_=>rfl) λit aQ cl code aS a hO e2 hIt jB g=>dU g λg1 g2 g3 g4 _ g6 _ Ϡ=>je Ϡ λg8 g9 g10 g11 _=>c8 (iG ⟨rfl,?_⟩))))
 show l0 hIt λIa St dX hW MX hIn Xd=>?_;have Xd:∀i h,St i h->∃o,h.get? Ia=O o:=λi h st=>bh (Xd i h st) λo e _=>⟨o,e⟩;have x2:hJ τ' s.heap aQ.heap:=e2.ext.up nO;have hIP:Ia≠1934:=λq=>by show dG (hT 1934 hP) λo e=>dG (r0.base.there _ o e) λo' e'=>?_;have e':=hIn▸q.symm▸e';ext
 have Ϣ:hO.heap.NoLimit:=B.zo ((r0.base.up nO).trans (x2.trans g1));show bh Ϣ λmc nsS _=>?_;subst dX;have xh:cE∈Js hO.heap aS a:=bh (B.zo (r0.base.trans e2.ext)) λmc2 Pw _=>eY Pw λo2 _ _ e2' _=>eY nsS λo5 _ _ e5' _=>(qa.mpr ⟨⟨o5,e5'⟩,λq=>(by rw[q,g8]at e2';ext),λq=>(by rw[q,g9]at e2';ext)⟩);have Hm:∃o,aQ.heap.get? Ia=O o:=Xd _ _ MX;have hIa:Ia≠a:=λq=>by obtain⟨o,e⟩:=Hm;have e:=g9▸q▸e;ext
 have hIf:Ia∈Js hO.heap aS a:=qa.mpr (gS (dG Hm λo e=>⟨o,g4 Ia o hIP e⟩) (λq=>by obtain⟨o,e⟩:=Hm;rw[q,g8]at e;ext) hIa);have hcI:cE≠Ia:=λq=>by show bh (B.zo r0.base) λmc2 Pw _=>(eY Pw λo2 _ _ e2' _=>?_);have e2':=hIn▸q▸e2';ext
 show MW (A:=A) (aS:=aS) (fp:=Js hO.heap aS a) (wr:=[Ia]) (n₀:=13) (o:=kB CV) (sB:=hO) (X:=[aS,Ia]) hh (by assumption) g10 (λq=>hIa (bJ.mp q).symm) (λb D=>by simp at D;show D▸?_;show hIf) xh (λq=>(qa.mp xh).2.1 q) (λq=>hcI (bJ.mp q)) bz
  (λb D=>by simp at D;rcases D with rfl|rfl<;>lia) (λb D=>ao D) (.refl _ _ _) (lE.made (x:=14) (n:=12) (GFo.back _) g hh hW MX Xd hIP Ϣ Z Z Z hIf (λh=>(qa.mp h).2.1 Z) (λb D=>(qa.mp D).1) ?_) ?_
 .intro A' i v s3 m3 RH hv hn hm hk;show eQ hv λk t hk1 qD=>?_;subst qD;have r3:=(r0.up nO).gen (code:=code) (cl:=cl) (aS:=aS) (m:=m3) (ks:=[k]) RJ (g.later x2 hIn hk) jB hn g11 Z (λj x k' h1 h2=>by
   cases j with
   |zero=>simp at h1 h2;subst h1 h2;show DN t hm
   |succ j=>ext)
  show aft (ns:=CV) (x:=31) (k:=k1) B I r3 (rfl) ?_ ⟨by decide,NP Z⟩;unfold lB;rw[h31];rfl
 .intro s6 rs m6 hl6 hr6;have e06:z8 τ' s s6:=by
   have xg:hJ τ' s.heap s6.heap:=g.later x2 hIn λb D hb2 o e=>m6.keep b o (λq=>by
    rcases bu.mp q with q|q
    .show (qa.mp D).2.1 q
    .show hb2 q) e
   show⟨xg,m6.os.trans (g2.trans e2.os),m6.drawn.trans (g3.trans e2.drawn),(l6.sh Z (g6▸m6.gens)).trans (.of e2.gens)⟩
  have nN:∀r∈rs,s.heap.get? r=ai:=λr hr=>by
   cases q:s.heap.get? r with
   |none=>rfl
   |some o=>show dG ((x2.trans g1).there r o q) λo2 q2=>?_;have q2:=((hr6.1 r hr).2.2).symm.trans q2;ext
  have e07:z8 τ' s {s6 with heap:=s6.heap.push {cls:=ak "tuple",data:=bU (rs.map R).toArray}}:=e06.trans ⟨.push _ _,rfl,rfl,.refl _⟩;have pf:=(p.up nO).grown hT e07 (bw:=uJ rs vT) λy hy=>by
   show dG (sR hy) λi hi=>?_;unfold uJ at hi;rw[Kv]at hi;show eX hi λh1 h2=>?_;have hr:=cW h1;have ho:y.2=kB CV:=by have:=cW h2;simp[vT]at this;show this
   show ho.symm▸gS (nN _ hr) (a8 _ (hr6.1 _ hr).1) Z
  show DO _ (uq rs) [] pf ?_ (Hl rs) (λY p'=>kk Y rs hl6 hr6.2 (λy hy q=>?_) p')
  .show DO s6.heap.objs.size (rs.map R) 0 Z (fi (jz B.top ((r0.base.up nO).trans e06.ext))) (bK _ Z) (ϡ rs)
  .have:=nN _ q;have this:=((p.sg y hy).1)▸this;ext
end
section
variable{Q:b8->ae->Prop}
theorem FR.ahH(r:FR H U U L J h G W)(x:hJ τ' U h')(keep:∀b o,b∉wr->b∉bY->h.get? b=O o->h'.get? b=O o)(hw:∀b∈wr,kM h b/\b∉bY/\b∉W):FR τ' U U L J h' G W:=
 r.abH (.refl _) x (λb hb' o e=>keep b o (λq=>(hw b q).2.2 hb') (r.jj b hb').2.1 e) (λc v ht x=>Bj (λo q=>⟨keep c o (λz=>(hw c z).1.Wq x) ht q.1,q.2⟩) x)
  λy k av v F _ aO=>aO.off (λb o hb' ht e=>keep b o hb' ht e) (λb hb'=>aH (hw b hb').1) _ _ _ λb hb' hq=>(hw b hq).1.Wl aO hb'
noncomputable def gc(o:bj):Bool:=match o.data with
 |qo ..=>N
 |te=>N
 |eJ ..=>N
 |bH ws=>match ws[1]? with
  |some (cI _ _)=>af
  |_=>N
 |_=>af
theorem rU(e:h.get? a=O o)(hi:gc o=N):kM h a:=by
 show ct o e ?_;unfold gc at hi;cases q:o.data with
 |bytearray b n=>show aH (aH (ao (qB b n Z)))
 |plain=>show aH (aH (aH Z))
 |dict es n=>show aH (ao (qB es n Z))
 |fields ws=>have hi:=q▸hi;show ao (ct ws Z (λx t e=>?_));simp only[e]at hi;ext
 |_=>have hi:=q▸hi;show Ip (by assumption)
theorem PS.called(p:PS H U L J aJ bq bA G S s)(q:PS τ' U sc' fV s [] (S.map (·.1)) G' S' Y)(hi:∀y∈S,gc y.2=N):PS τ' U L J aJ bq bA G S' Y:=by
 show gH p.fr λW r hW dj=>?_;have m:sy (S.map (·.1)) s Y:=by have:=q.mod;show this
 have r':=r.ahH q.ext (λb o D ht e=>m.mod.keep b o D ht e) (λb D=>by show bh (bG.mp D) λy hy e=>?_;subst e;show iM (p.sg y hy) λc1 c2 c3 c4=>((gS (rU c1 (hi y hy)) c2 (dj y hy))))
 show⟨(kH W r' hW (λy hy hw=>?_)),q.sg,p.mod.trans m λd hd=>?_,λy hy=>bf (q.lD y hy) (λh=>bh (bG.mp h) λz hz e=>e▸p.lD z hz) λh=>aH (p.mod.mod.new h)⟩
 .rcases q.lD y hy with h|h
  .show bh (bG.mp h) λz hz e=>(dj z hz (e▸hw))
  .show dG ((λb hb'=>oU (r.jj b hb') λ_ _ o e _=>⟨o,e⟩:∀b∈W,∃o,s.heap.get? b=O o) _ hw) λo e=>?_;have e:=h.symm.trans e;ext
 .show bh (bG.mp hd) λz hz e=>?_;subst e;show bf (p.lD z hz) (λh=>ao (ew _ h)) λh=>aH h
end
section
variable{Q:b8->ae->Prop}
theorem PS.afu(p:PS H U L J aJ bq bA G S s)(he:V H s.heap A L J G e av af)(hf:flat av=N)(k:∀Y v,PS H U L J aJ bq bA G S Y->bR Y.heap av v []->Q (cL v) Y):C A (aU (yp (O e) pos::rest) J) s Q:=by show iq<|Lake.T.wx (P:=λf Y=>∃v F,f=cL v/\dz H s Y/\bR Y.heap av v F) (xE ((he p.er).tN λv aD F e1 aO _=>N6 v F Z e1 aO)) λf Y oq=>jy oq λv F e1 e2 aO=>e1▸?_;have hF:=cV.1 _ _ _ hf aO;subst hF;show k Y v (p.grow e2) aO
theorem acA{a b:aw}{x y:Bool}(ha:V H U A L J G a (fG x) af)(D:x=N->V H U A L J G b (fG y) af):
 V H U A L J G (Ku V8 [a,b] pos) (fG (x && y)) fr:=λs r=>by
 show ag ((ha r).tN λv aD F1 e1 V1 _=>ag (jW ?_));have ev:=V1.toBool;subst ev;show ag (cO (l9 ?_));cases x with
 |false=>show aB (oY [] e1 (.ofBool _) d9)
 |true=>show(D Z (r.ext e1.ext)).tN λu aQ F2 e2 V2 _=>?_;have ev:=V2.toBool;subst ev;show⟨e1.trans e2,[],.ofBool _,d9⟩
theorem Px{a b:aw}(B:Tp U)(ha:V H U A L J G a (a7 [n]) af)(D:V H U A L J G b (aT k) af)(hk:k<=1000):
 V H U A L J G (eu a vo b pos) (a7 (cb k n)) fr:=by
 have Wm:aj k=(k:Int):=rfl;have:=QU (fr:=fr) (pos:=pos) (x:=aT n) (n:=aj k) B ha D Z (decide_eq_true (by rw[Wm];simp)) (decide_eq_true (Mc Wm Z hk));show V.to this ?_
 delta a7
 rw[show(aj k).toNat=k from rfl,KC]
theorem zy(K:LN){us:List aa}{Q:aa->ae->Prop}(B:cA U mg mb)(x1:hJ H U s.heap)(bM:A.depth<1000)(dA:qT U a fd st)(Dr:(bg st).isCoroutine=af)(zd:(bg st).isGenerator=af)(hk:(bg st).kind=d0)(se:T A.in1 (du fd ⟨vs,[]⟩) s (λbs Y=>Y=s/\bs=(K.map NM).zip us))(aO:bC s.heap avs us F)(tR:K.Nodup)(dM:K.length=us.length)(E:∀x∈K,Hx (bg st) x)(cB:zW U S s.heap)(hw:∀aQ bw,PS H U (bg st) (gJ fd bw a) s [] (S.map (·.1)) (qG K avs) S aQ->
 C (A.deeper (gJ fd bw a)) (aU (bo st) (gJ fd bw a)) aQ (λf Y=>Q (WQ f) Y)):C A (call (R a) vs) s Q:=by
 have N':=dA.ext x1;show bh N'.at_.obj λo ho hd=>(C.call (WR (S:=S) B x1 bM ho hd (N'.at_.abT (H:=H) (.refl _)) dA.body dA.clo (by rw[dA.scope];show Dr) (by rw[dA.scope];show zd) se aO (by rw[dA.scope];show hk) dA.glob dA.bi tR dM (by rw[dA.scope];show E) cB λaQ bw p=>?_));rw[dA.scope]at p;show(hw aQ bw p).mono λf Y h=>h
theorem si(avs:List AV){nm:aP}{Q:aa->ae->Prop}(B:cA U mg mb)(p:PS H U L J aJ bq bA G S s)(hg:mg nm=O (R a))(kO:L.names.lookup nm=O kX)(hdb:(nm==("__debug__" :aP))=af)(dA:qT U a fd st)(he:fJ H s.heap A L J G (e::es) avs)(dH:dW (e::es)=N)(h:∀vs aD F,dz H s aD->bC aD.heap avs vs F->C A (call (R a) vs) aD Q):C A (aZ (bI (ar nm np) (e::es) [] pos) J) s Q:=fU<|Lake.T.wW (r7 (p.base B) p.er kO hg hdb)<|bh ((dA.ext p.ext).at_.obj) λo ho hd=>(pE o fd (aci p.er he dH λvs aD F x1 aO=>⟨⟨x1.ext.keep a o dA.at_.off ho,hd⟩,h vs aD F x1 aO⟩))
def Py(cj:List (LN)):Nat->List (LN)
 | 0=>cj
 |n+1=>YH (YH (Py cj n) n 8 0) 8 n 0
theorem Hn(h:Mx cj):∀n,n<=9->Mx (Py cj n):=by
 intro xX;induction xX with
 |zero=>intro _;show h
 |succ n iH=>intro hn;show((iH (ry hn)).set au 8 aK).set bz n aK
theorem z9:Mx vT:=⟨rfl,by decide⟩
def Pz:List (LN):=Pc (Py vT 9) 5
theorem ϣ:Mx Pz:=Ph (Hn z9 9 bz) 5 bz
def akk(rs:List ab):ig:=[(9,0,uq rs),(62,0,fG N),(68,0,fG N),(60,0,aT 13),(108,0,fG N),(109,0,aX (R (rs.getD 8 0)))]
theorem ahI(hp:fd.params=fo (cS 19))(hd:fd.defaults=aA)(v u:aa):du fd ⟨[v,u],[]⟩=pure (([9,68].map NM).zip [v,u]):=by
 delta du
 show hp.symm▸hd.symm▸?_;rfl
theorem yV:∀y∈uJ rs cj,gc y.2=N:=λy hy=>by have:=(sT (show(y.1,y.2)∈_ from hy)).2;show bh (bG.mp this) λr _ e=>e▸?_;rfl
theorem acB{cC:ab}{QD:bQ}(hh:dh A)(B:cA U mg mb)(I:dQ mg mb)(hT:gi U)(bM:A.depth<1000)(hS:∀y∈S,gc y.2=N)(hgT:mg (aC "add_timing_pattern")=O (R 1914))(NT:qT U 1914 QD (cS 19))(YR:QD.defaults=aA)(p:PS H U (bg oi) J aJ bq bA (qG [60,61,107,108] [aT 13,aT 13,fG N,fG N]) S s)(o9:J.code=R cC)(OE:cC∉bY)(ou:U.IsCode cC 1934 #[])(vH:U.TableAt cC 1934 #[])(pg:1934∉H)(ku:1934∈τ')(nO:∀b∈H,b∈τ')(kk:∀Y G' rs v,rs.length=13->rs.Nodup->(∀y∈S,y.1∉rs)->PS τ' U (bg oi) J aJ bq bA G' (uJ rs Pz++S) Y->bR Y.heap (uq rs) v []->Q (cL v) Y):
 C A (aU (bo oi) J) s Q:=by
 change C _ (aU [bc (bo oi) 0,bc (bo oi) 1,bc (bo oi) 2,bc (bo oi) 3,bc (bo oi) 4,bc (bo oi) 5,bc (bo oi) 6,bc (bo oi) 7] J) s Q;show p.s1 (S1.m (zY Z)) λs1 p1=>p1.s1 (S1.m (bE 62 (fG N) (V.to (Ga .eq (aj 13) (aj 13) (aq 60 Z) (aq 61 Z)) Z) Z Z (ao Z) Z)) λs2 p2=>p2.s1 (S1.m (bE 68 (fG N) (V.to (acA (x:=N) (y:=N) (aq 62 Z) (λ_=>V.to (Ga .lt (aj 13) 21 (aq 60 Z) V.int) Z)) Z) Z Z (ao Z) Z)) λs3 p3=>p3.s1 (S1.m (gb 31 (a7 CV) (Px (n:=2) (k:=13) B.top (pv (n:=2) B.top (aR 2) Z) (aq 60 Z) bz) Z Z (aH Z) Z)) λs4 p4=>ahG (k1:=1) (k2:=0) hh B I hT bM p4 Z Z Z o9 OE ou vH pg ku nO λs5 rs hl tR hd p5=>have hr:∀i,i<13->rs[i]? =O (rs.getD i 0):=λi hi=>kz au;p5.ite (x:=N) (mE 107 Z) λs6 p6=>p6.ite (x:=af) (vE (x:=N) (y:=af) (mE 62 Z) (λ_=>oZ.to (mz (x:=aj 13) (y:=41) .gt (aq 60 Z) V.int) Z)) λs7 p7=>eZ<|p7.s1 (S1.m (bE 109 (aX (R (rs.getD 8 0))) (yT 8 (aq 9 Z) (aR 8) (hr 8 bz) au Z) Z Z (ao Z) Z)) λs8 p8=>yQ 14 (Dm 0 1 9) (λi (_:Unit)=>akk rs) (λi _=>uJ rs (Py vT i)++S) () p8 (zN (k:=9) hh (p8.base B) I Z V.int Z aK aK)
  (ko.rf bD bD) (λy hy=>hy) (ao Z) (λ_ _ _=>rfl) (λi n z t W hn q=>?_) (λ_=>rfl) (λs9 _ p9=>eZ ?_)
 .show eX (o6.mp hn) λhi hn=>?_;have wt:(n:Int)=aj i:=by rw[hn];simp
  subst wt;have hmi:=Hn z9 i au;show hx (hmi.get (i:=i) au) λm1 m2 m3=>hx ((hmi.set (i:=i) au 8 (v:=0) aK).get (i:=8) bz) λn1 n2 n3=>w9 (rs.getD i 0) 8 0 q (aR 0) (yT i (aq 9 Z) (aq 14 Z) (hr _ au) au Z) (aR 8)
   (dc _ (pF (hr _ au) m1)) m3 au aK Z (yS tR (hr _ au) _ hd) λt1 q1=>w9 (rs.getD 8 0) i 0 q1 (aR 0) (aq 109 Z) (aq 14 Z)
   (dc _ (pF (hr _ bz) n1)) n3 au aK Z (yS tR (hr _ bz) _ hd) λt2 q2=>q2.ite (x:=af) (FI N (mE 68 Z)) λt3 q3=>eZ (eZ ⟨rfl,(),q3.less (ko.rf bD bD)⟩)
 show p9.ite (x:=N) (mE 108 Z) λs10 p10=>bh p10.here λW hW ph=>zX (by show bh p10.fr λW r _=>?_;delta iI;rw[r.scope];rfl) Z ?_;show si _ B p10 hgT Z Z NT (fJ.cons (aq 9 Z) (fJ.cons (aq 68 Z) fJ.nil Z) Z) Z λvs s11 F x11 aO=>have p11:=p10.grow x11;kK aO λv1 vs1 F1 F2 dX V1 V2 _=>?_;subst dX;show kK V2 λv2 vs2 F3 F4 qD V3 V4 _=>?_;subst qD;show eX V4 λDQ _=>?_;subst DQ;show zy (S:=uJ rs (Py vT 9)++S) [9,68] B p11.ext bM NT Z Z Z (by rw[ahI NT.params YR];show aB ⟨rfl,rfl⟩) aO aK Z aK p11.sg λs12 bw p12=>Pj (A:=A.deeper _) hh B I hl tR (Hn z9 9 bz) hd p12 λs13 G13 p13=>⟨rfl,eZ ?_⟩;have pe:=p11.called p13 λy hy=>bf (b9.mp hy) (λq=>yV y q) λq=>hS y q;show pe.afu (aq 9 Z) (Hl rs) λs14 v p14 aO=>kk s14 _ rs v hl tR hd p14 aO
end
noncomputable def sj(t:ab)(i:Nat):bj:={cls:=ak "tuple_iterator",data:=bH #[R t,ah i 0]}
section
variable{Q:b8->ae->Prop}
theorem MY{aeP:List aw}{x1:Nat}{t T:ab}{Q:Unit->ae->Prop}(ho:s.heap.get? I=O (sj t i))(hQ:Q () s):
 ax (aG prog w) A (jF (il aeP x1 pos) (R I) (R T)) Q a6 s:=by
 show ag<|iX ho<|(?_:ax _ A (if(["enumerate", "zip", "dict_itemiterator", "dict_reverseitemiterator", "odict_iterator", "itertools.zip_longest", "itertools.pairwise"].contains "tuple_iterator" &&
  (#[R t,ah i 0]:Array aa)[0]? ==O (dN T))=N then _ else _) Q a6 s)
 rw[if_neg (by intro h;show Ip (by assumption))]
 show aB hQ
theorem Ho{t:ab}{x:aa}{Q:Option aa->ae->Prop}(ho:s.heap.get? I=O (sj t i))(ht:s.heap.IsTuple t items)(E:items[i]? =O x)(hQ:∀h',h'.get? I=O (sj t (i+1))->gw I s.heap h'->Q (O x) {s with heap:=h'}):ax (aG prog w) A (gY (R I)) Q a6 s:=by
 show QG ht λol hol _ nl Yw=>have um:s.heap.IsTupleIter I t i:=kH _ ho Z Z;ag (sG (kT um.typeIs Vj
  (jV Vj um.typeIs PySem.F.entry_tuple_iterator_next ?_ (PySem.F.args_tuple_iterator_next_1 _))))
 show(?_:ax _ _ (sN (R I) 0>>=_) _ _ s);show ag<|fX ho Z (x:=R t) Z<|ag<|fX ho Z (x:=ah i 0) Z<|ag (jG hol Yw ?_);simp only[Kn,E];show ag (An ho Z (ET [].length) (aB (ct x Z (aB (hQ _ ?_ (j6 ..))))));rw[gO _ ho Z];rfl
theorem PS.aer(p:PS H U L J aJ bq bA G S s){o':bj}(ha:(a,o)∈S)(hi:gc o=N)(t:Tn [a] s Y)(ho:Y.heap.get? a=O o')(hs:Hd o'=N)(hS:∀x∈S',(x.1=a/\x.2=o')\/(x.1≠a/\x∈S)):PS H U L J aJ bq bA G S' Y:=p.aeo ha (rU · hi) t ho hs hS
theorem PS.acC(p:PS H U L J aJ bq bA G S s){tk:Nat}(ha:(a,o)∈S)(hi:gc o=N)(hn:aJ.heap.get? a=ai)(keep:∀b o,b≠a->s.heap.get? b=O o->h'.get? b=O o)(hS:∀x∈S',x.1≠a/\x∈S):
 PS H U L J aJ bq bA G S' {s with heap:=h',toks:=tk}:=by
 show bh p.fr λW r hW=>iM (p.sg _ ha) λe1 e2 e3 e4=>⟨(kH W (r.off (wr:=[a]) (λb o D e=>keep b o (by simpa using D) e) (λb D=>by have D:=bJ.mp D;show D▸?_;show⟨rU e1 hi,e2,e4,(hW.2 _ ha)⟩)) hW.1 (λx E=>hW.2 x (hS x E).2)),λx E=>?_,p.mod.off (wr:=[a]) (λb o D e=>keep b o (by simpa using D) e) (λb D=>by show bJ.mp D▸?_;show⟨hn,e2⟩),λx E=>p.lD x (hS x E).2⟩;show iM (p.sg x (hS x E).2) λc1 c2 c3 c4=>rO (keep _ _ (hS x E).1 c1) c2 c3 c4
theorem PS.acD(q:PS τ' U sc' fV s W (S.map (·.1)) G' S' Y){ta:ab}(ht:ta∉bY)(Ϥ:s.heap.get? ta=O (cU vs n))(hW:∀b∈W,Cr s.heap b)(hS:∀y∈S,s.heap.get? y.1=O y.2/\gc y.2=N):
 Y.heap.get? ta=O (cU vs n):=by
 show q.mod.mod.keep ta _ (λh=>?_) ht Ϥ;rcases b9.mp h with h|h
 .show bh (hW ta h) λo e hk=>?_;obtain rfl:=aV (Ϥ.symm.trans e);rcases hk with⟨h1,_⟩|⟨_,_,h1⟩|⟨_,h1⟩
  .injection h1 with h3
   show nomatch h3
  .ext
  .ext
 .show bh (bG.mp h) λy hy e=>?_;obtain⟨c1,c2⟩:=hS y hy;rw[e,Ϥ]at c1;have c2:=(aV c1).symm▸c2;ext
theorem RK{Q:aa->Prop}(aO:bR h (gr [av]) v F)(hf:flat av=N)(k:∀ta v0 n,ta∉bY->h.get? ta=O (cU [v0] n)->bR h av v0 []->Q (R ta)):Q v:=
 pS aO λta vs n ht Ϥ aO=>nG (P:=λvs=>h.get? ta=O (cU vs n)->Q (R ta)) aO (λv0 F1 V1 Ϥ=>k ta v0 n ht Ϥ (cV.1 _ _ _ hf V1▸V1)) Ϥ
theorem YS{ζ:Type}{av0:AV}{G1:ig}{G2:ζ->ig}{S2:ζ->Sg}(hh:dh A)(B:cA U mg mb)(p:PS H U L J aJ bq bA G S s)(he:V H s.heap A L J G iter (gr [av0]) af)(hf:flat av0=N)(hs:Fs iter J)(hS:∀y∈S,gc y.2=N)(akl:∀aD I ta v S1 sA WA KA,aD.heap.get? I=O (sj ta 1)->PS H U L J sA WA KA G S1 aD->bR aD.heap av0 v []->T A (jF cu (R I) v) aD (λ_ aQ=>aQ=aD)/\T A (jJ cu J v) aD (λ_ aQ=>PS H U L J sA WA KA G1 S1 aQ))(Ot:∀y aD sA WA KA,(∀z∈S,z.1≠y.1)->gc y.2=N->PS H U L J sA WA KA G1 (y::S) aD->C A (aU body J) aD (λfl aQ=>fl=cJ/\∃z,PS τ' U L J sA WA KA (G2 z) (y::S2 z) aQ/\(∀x∈S2 z,x.1≠y.1)))(k:∀z Y,PS τ' U L J aJ bq bA (G2 z) (S2 z) Y->C A (aU rest J) Y Q):
 C A (aU (lh cu iter body [] pos::rest) J) s Q:=by
 show iq (Rx hs (T.wcE (he p.er) λv aD F e1 aO _=>?_));apply RK aO hf;show λta v0 n ht Ϥ V1=>cR<|JT (⟨_,Ϥ,rfl,n,rfl⟩)<|have p1:=p.grow e1;gH p1.fr λWA r1 hWA hdj=>have p2:=(⟨(kH WA r1 (λb D=>ao D) hdj),p1.sg,.refl _ _,λx E=>ao (bG.mpr (ct x E Z))⟩:PS H U L J aD WA (S.map (·.1)) G S aD).sh (o:=sj ta 0) (tk:=aD.toks) B Z Z;have hnS:=λz hz=>fB (cn (p1.sg z hz).1);have hTn:∀{sa:ae} {h':aN},gw aD.heap.objs.size sa.heap h'->(∃o,h'.get? aD.heap.objs.size=O o)->Tn [aD.heap.objs.size] sa {sa with heap:=h'}:=λhs hm=>Tn.same hs au hm;WN (λn Y=>(n=2/\Y={aD with heap:=aD.heap.push (sj ta 0),toks:=aD.toks})\/(n=1/\∃z,PS τ' U L J aD WA (S.map (·.1)) (G2 z) ((aD.heap.objs.size,sj ta 1)::S2 z) Y/\(∀x∈S2 z,x.1≠aD.heap.objs.size))) ?_ 2 (ao ⟨rfl,rfl⟩);rintro n' Y P1 P2 P3 q0 q1 q2 q3 (⟨rfl,rfl⟩|⟨rfl,z,pz,hz⟩)
 .show cR (Ho (p2.get (iz ..)) (nS (a8 _ Ϥ)) (x:=v0) Z λh' g1 g2=>?_);have p3:=p2.aer (S':=(aD.heap.objs.size,sj ta 1)::S) (iz ..) Z (hTn g2 ⟨_,g1⟩) g1 Z λx E=>by
   rcases bu.mp E with e|e
   .left;rw[e];show⟨rfl,rfl⟩
   .show aH ⟨hnS x e,bZ _ e⟩
  have hV3:=bR.off (λb o D _ e=>g2.extBut b o (vw D) e) (λb D=>by apply jT D;show aH (rU (p2.get (iz ..)) Z)) av0 v0 [] (λb D=>kJ D) (V1.ext (H:=H) (.push _ _))
  show eX (akl {aD with heap:=h',toks:=aD.toks} aD.heap.objs.size ta v0 ((aD.heap.objs.size,sj ta 1)::S) _ _ _ g1 p3 hV3) λa1 a2=>q1 _ _<|T.wx a1 λ_ s4 e4=>e4▸T.wx a2 λ_ s5 p5=>q2 _<|(Ot (aD.heap.objs.size,sj ta 1) s5 _ _ _ hnS Z p5).mono λfl s6 oq=>iN oq λhfl z pz hz=>hfl▸q3 1 _ bz (aH ⟨rfl,z,pz,hz⟩)
 .show cR<|JN hh (kH _ (pz.get (iz ..)) Z Z) (nS (pz.acD ht Ϥ (λb D=>(r1.jj b D).2.2) (λy hy=>⟨(p1.sg y hy).1,hS y hy⟩))) Z λh' he=>q0 _<|eZ<|k z _ (p1.back hWA (pz.acC (iz ..) Z (bF _) (λb o D e=>he b o D e) λx E=>⟨hz x E,bZ _ E⟩))
end
section
variable{Q:b8->ae->Prop}
theorem RL(a b n:Nat)(hab:a<=b)(D:b<=n):L7 (O (a:Int)) (O (b:Int)) 1 (n:Int)=((a:Int),(b:Int)):=by
 delta L7
 congr 1<;>lia
theorem CW{sl:ab}{a b:Nat}{u u':aW}{Q:Int×Int×Nat->ae->Prop}(hs:s.heap.IsSliceOf sl (ah a u) (ah b u') aA)(hab:a<=b)(D:b<=n)(h:Q ((a:Int),1,b - a) s):
 ax (aG prog w) A (abj (R sl) (pure (n:Int))) Q a6 s:=by
 show gH hs λos Q4 xh hds=>ag<|ag<|fX Q4 hds (x:=ah a u) Z<|ag<|fX Q4 hds (x:=ah b u') Z<|ag<|fX Q4 hds (x:=aA) Z<|aB<|ag<|slicePart_none<|ag<|slicePart_int<|ag<|slicePart_int<|(?_:ax _ _ (match L7 (O (a:Int)) (O (b:Int)) 1 (n:Int) with|(lo,hi)=>pure (lo,(1:Int),VE lo hi 1)) _ _ s);rw[RL a b n hab D];change ax _ _ (pure ((a:Int),(1:Int),VE (a:Int) (b:Int) 1)) _ _ s;show(places_from a b hab).symm▸aB h
theorem ϥ(K:Array aa)(a n:Nat):((aI n).filterMap λ(k:Nat)=>K[((a:Int)+(k:Int) * 1).toNat]?).toArray=((K.toList.drop a).take n).toArray:=by
 have e:(λ(k:Nat)=>K[((a:Int)+(k:Int) * 1).toNat]?)=λk=>K[a+k]? :=by
  funext k
  show congrArg _ (congrArg Kq (congrArg ((a:Int)+·) (Int.mul_one k)))
 show e.symm▸?_;have:=pick_run K a n;rw[List.filterMap_map]at this;rw[(rfl:((λx=>K[x]?)∘λx=>a+x)=λk=>K[a+k]?)]at this;show congrArg _ this
theorem B6{t sl:ab}{a b:Nat}{u u':aW}{Q:aa->ae->Prop}(ht:IsTup s.heap t items)(hs:s.heap.IsSliceOf sl (ah a u) (ah b u') aA)(hab:a<=b)(D:b<=items.size)(ahJ:b - a<items.size)(hl:items.size<=1000)(h:Q (R s.heap.objs.size) {s with heap:=s.heap.push {cls:=ak "tuple",data:=bU ((items.toList.drop a).take (b - a)).toArray}}):ax (aG prog w) A (xT (R t) (R sl)) Q a6 s:=by
 have Xf:sizeOk (bU ((items.toList.drop a).take (b - a)).toArray):=by change((items.toList.drop a).take (b - a)).toArray.size<=fc;simp;lia
 show gH hs λos Q4 xh hds=>cO<|ag<|xG ht.typeIs (rfl)<|ag (kT ht.typeIs slot_tuple_getitem
  (jV slot_tuple_getitem ht.typeIs entry_tuple_getitem ?_ (args_tuple_getitem _ _)))
 show(?_:ax _ _ (abr (R t)>>=_) _ _ s);show ag<|tupleItemsOf_ ht<|ag<|ow ((ct os Q4 xh))<|ag (CW hs hab D ?_);have hno:¬(((a:Int)==0 && (1:Int)==1 && (b - a)==items.size)=N):=by rw[(by rw[beq_eq_false_iff_ne];show fB ahJ:((b - a)==items.size)=af)];simp
 show(?_:ax _ _ (if((a:Int)==0 && (1:Int)==1 && (b - a)==items.size)=N then _ else _) _ _ s);show(if_neg hno).symm▸(ϥ items a (b - a)).symm▸?_;first
  |show ag (ij (aB (ct _ rfl (aB h))) Xf)
  |show ag (ij (aB ⟨_,rfl,aB h⟩) Xf)
  |show ag (ag (ij (aB (aB ⟨_,rfl,aB h⟩)) Xf))
  |show ag (ag (ij (aB ⟨_,rfl,aB h⟩) Xf))
theorem acE{a lo hi:aw}{m:Nat}(B:Tp U)(ha:V H U A L J G a (gr K) af)(hh:V H U A L J G lo (aT k) af)(hj:V H U A L J G hi (aT m) af)(hf:iU K=N)(QT:k<=m)(hm:m<=K.length)(hp:m - k<K.length)(hl:K.length<=1000):V H U A L J G (dk a (mj (O lo) (O hi) eU p) pos) (gr ((K.drop k).take (m - k))) fr:=λs r=>by
 show rH<|(ha r).tN λv aD F1 e1 V1 _=>El<|(hh (r.ext e1.ext)).Cx λt aQ e2=>(hj ((r.ext e1.ext).ext e2.ext)).Cx λt' de e3=>aB ?_;have O':=(e1.trans e2).trans e3;apply pS ((V1.ext e2.ext).ext e3.ext);intro c vs n _ a3 a4;have l1:=bC.length a4;show bh (bC.drop k a4) λQP V4 _=>bh (bC.take (m - k) V4) λF3' V5 _=>have htp:IsTup (de.heap.push {cls:=ak "slice",data:=bH #[ah (aj k) t,ah (aj m) t',aA]}) c vs.toArray:=(show IsTup de.heap c vs.toArray from⟨_,a3,rfl,n,rfl⟩).keeps λ_ _ e=>a8 _ e;vj htp.typeIs slot_tuple_getitem.lookup (B6 htp (kH _ (bK _ Z) Z Z) QT (by simp;show le_of_le_of_eq hm (id (mn l1))) jQ (by simp;show le_of_eq_of_le l1 hl) ?_) (rfl);show⟨O'.trans ⟨(hJ.push _ _).trans (.push _ _),rfl,rfl,eV _⟩,[],?_,d9⟩;show DO _ ((vs.drop k).take (m - k)) 0 Z (fi (ba (jz B (r.base.trans O'.ext)) (by rw[dD];show lQ _))) ?_ ?_
 .have:=bK (de.heap.push {cls:=ak "slice",data:=bH #[ah (aj k) t,ah (aj m) t',aA]}) (o:=cU ((vs.drop k).take (m - k)) 0) Z;show this
 .have hF:=cV.2 _ _ _ (zK (m - k) _ (zJ k K hf)) V5;show hF▸V5.ext (H:=H) ((hJ.push _ _).trans (.push _ _))
theorem ze{o i:aw}{wu:aY}{value:aw}{Q:b8->ae->Prop}(h:C A (aZ value J) s (λv aD=>C A (aZ o J) aD (λov aQ=>C A (aZ i J) aQ (λiv de=>C A (Ay ov iv v) de (λ_ Y=>Q cJ Y)))))(hs:fu value (O (dk o i wu)) pos.line J=pure af):C A (mV (fE [dk o i wu] value pos) J) s Q:=by rw[exec_Assign_Subscript o i wu value pos hs];show nQ<|C.bind<|h.mono λv aD U=>C.bind<|lI (U.mono λov aQ kq=>lI (kq.mono λiv de uk=>nQ (lI (uk.mono λ_ fq Gm=>C.release (C.pure Gm)))))
theorem RM(ns ms:LN)(k m:Nat):(wk ns).extract 0 k++wk ms++(wk ns).extract m (wk ns).size=wk (ns.take k++ms++ns.drop m):=by apply A7;simp[wk];show Kw fF
theorem Ϧ{lo hi v:aw}{m:Nat}{f4:Bool}{p1 p':aY}(p:PS H U L J aJ bq bA G S s)(hv:V H s.heap A L J G v (gr (ms.map aT)) af)(he:V H s.heap A L J G e (aX (R a)) af)(Iq:V H s.heap A L J G lo (aT k) af)(hhi:V H s.heap A L J G hi (aT m) f4)(ha:(a,kB ns)∈S)(hB:lY ns)(hm:m<=ns.length)(QT:k+ms.length=m)(hms:∀x∈ms,x<256)(hs:fu v (O (dk e (mj (O lo) (O hi) ai p1) p')) pos.line J=pure af)(hS:∀y∈S',(y.1=a/\y.2=kB (ns.take k++ms++ns.drop m))\/(y.1≠a/\y∈S))(kk:∀Y,PS H U L J aJ bq bA G S' Y->C A (aU rest J) Y Q):C A (aU (fE [dk e (mj (O lo) (O hi) ai p1) p'] v pos::rest) J) s Q:=by show iq (ze (T.wcE (hv p.er) λvv aD F1 e1 V1 _=>WJ (he (p.er.ext e1.ext)) λaQ e2=>?_) hs);show cR<|El<|(Iq ((p.er.ext e1.ext).ext e2.ext)).Cx λt de e3=>(hhi (((p.er.ext e1.ext).ext e2.ext).ext e3.ext)).tN λu' fq F4 e4 V4 _=>aB ?_;obtain⟨t',rfl⟩:=V4.toInt;apply pS (((V1.ext e2.ext).ext e3.ext).ext e4.ext);intro l vs n _ a3 a4;have pl:dz H s {fq with heap:=fq.heap.push {cls:=ak "slice",data:=bH #[ah (aj k) t,ah (aj m) t',aA]}}:=(((e1.trans e2).trans e3).trans e4).trans ⟨.push _ _,rfl,rfl,eV _⟩;have p5:=p.grow pl;have ho:=p5.get ha;show C.holding<|lC<|xG (fm ho) (rfl)<|C.bind (vR (fm ho) ny (oh (fm ho) ny uG (gu.2.1 _ _ _) Z (Pb ho (bK _ Z) (a8 _ a3) (intsAre_of a4 (dS ms)) hms (by rw[ib];show hm) QT (by rw[ib];show hB.2) λs6 tn ho6=>?_)));rw[RM]at ho6;show ct _ Z<|C.pure (kk s6 (p5.turn ha Z tn ho6 Z hS))
end
def Aa:bT:=cS 18
def fpV:AV:=gr (FPN.map λr=>gr (r.map aT))
noncomputable def PA(n:Nat):LN:=((FPN.getD (1+n) []).drop 1).take 8
def mG(cj:List (LN)):Nat->List (LN)
 | 0=>cj
 |n+1=>(mG cj n).set n (((mG cj n).getD n []).take 0++PA n++((mG cj n).getD n []).drop 8)
theorem PB:∀n,n<8->(PA n).length=8/\∀x∈PA n,x<256:=by decide
theorem afv:∀n,n<9->(FPN.getD n []).length=9/\FPN[n]? =O (FPN.getD n []):=by decide
theorem PC(h:Mx cj):∀n,n<=8->Mx (mG cj n):=by
 intro xX;induction xX with
 |zero=>show λ_=>h
 |succ n iH=>intro hn;have ih:=iH (ry hn);show hx (ih.get (i:=n) au) λh1 h2 h3=>eX (PB n au) λf1 f2=>ih.aht (by rw[iw,iw,AL,h2,f1];rfl) λx E=>bf (b9.mp E) (λq=>f2 x q) λq=>h3.1 x (ro q)
section
variable{Q:b8->ae->Prop}
theorem ϧ{x:aP}(B:cA U mg mb)(E:L.names.lookup x=O kX)(hv:mg x=O v)(hd:(x==("__debug__" :aP))=af)(aO:bR U av v []):V H U A L J G (ar x pos) av fr:=λs r=>
 T.Dj (r7 B r E hv hd) (oY [] (.refl _) (aO.ext r.base) d9)
def ahK(rs:List ab)(rr:ab):ig:=[(9,0,uq rs),(14,0,aT 0),(15,0,aT 0),(65,0,aT 1),(66,0,aT 1),(64,0,aX (R rr))]
def gF0(rs:List ab)(rr:ab):ig:=[(9,0,uq rs),(63,0,gr [tV (0,0)]),(64,0,aX (R rr))]
theorem Ϩ{S0:Sg}{vf:aa}(hh:dh A)(B:cA U mg mb)(I:dQ mg mb)(hl:rs.length=13)(tR:rs.Nodup)(hm:Mx cj)(hd:∀y∈S0,y.1∉rs)(ZP:∀y∈S0,gc y.2=N)(hgf:mg (aC "_FINDER_PATTERN")=O vf)(hvf:bR U fpV vf [])(p:PS H U (bg Aa) J aJ bq bA (qG [9,60,61] [uq rs,aT 13,aT 13]) (uJ rs cj++S0) s)(k:∀Y G',PS H U (bg Aa) J aJ bq bA G' (uJ rs (mG cj 8)++S0) Y->Q cJ Y):C A (aU (bo Aa) J) s Q:=by
 have hr:∀i,i<13->rs[i]? =O (rs.getD i 0):=λi hi=>kz au;change C _ (aU [bc (bo Aa) 0,bc (bo Aa) 1,bc (bo Aa) 2,bc (bo Aa) 3,bc (bo Aa) 4,bc (bo Aa) 5] J) s Q;show p.s1 (S1.m (zY Z)) λs1 p1=>?_;show p1.s1 (S1.m (bE 62 (fG N) (V.to (Ga .eq (aj 13) (aj 13) (aq 60 Z) (aq 61 Z)) Z) Z Z (ao Z) Z)) λs2 p2=>?_;show p2.s1 (S1.m (bE 63 (gr [tV (0,0),qO (0,5),qO (-8,0)]) ?_ Z Z (ao Z) Z)) λs3 p3=>?_
 .show uj B.top (fJ.cons (GO B.top (aR 0) (aR 0) Z Z) (fJ.cons (av:=qO (0,5)) ?_ (fJ.cons (av:=qO (-8,0)) ?_ fJ.nil Z) Z) Z) Z Z
  .show uj B.top (fJ.cons V.int (fJ.cons (av:=a9 5) ?_ fJ.nil Z) Z) Z Z;show V.bin (x:=aj rs.length) (y:=8) .sub (V.to (MV B I Z (aq 9 Z) Z jQ) (by simp[aT])) V.int (by rw[hl];rfl)
  .show uj B.top (fJ.cons (Mt V.int) (fJ.cons V.int fJ.nil Z) Z) Z Z
 show p3.ite (x:=N) (vE (x:=N) (y:=N) (mE 62 Z) (λ_=>oZ.to (mz (x:=aj 13) (y:=21) .lt (aq 60 Z) V.int) Z)) λs4 p4=>?_;change C _ (aU [bc (match bc (bo Aa) 3 with|AZ _ b _ _=>b |_=>[]) 0] J) s4 _;show p4.s1 (S1.m (bE 63 (gr [tV (0,0)]) (uj B.top (fJ.cons (GO B.top (aR 0) (aR 0) Z Z) fJ.nil Z) Z Z) Z Z (ao Z) Z)) λs5 p5=>eZ ?_;show xd 64 8 p5 B I Z V.int Z Z (ao Z) Z λrr t0 t1 t2 s6 p6=>?_;have afo:rr∉rs:=λhq=>by show dG (sR hq) λi hi=>?_;have jA:=(dR.mp hi).1;have e1:=p6.get (bZ _ (dc S0 (pF hi (hm.get (i:=i) au).1)));rw[p6.get (cQ ..)]at e1;show absurd (congrArg E4 (aV e1)) (by simp[mJ,kB,pO])
 have p6':PS H U (bg Aa) J aJ bq bA (gF0 rs rr) ((rr,mJ 8 t0 t1 t2)::(uJ rs cj++S0)) s6:=p6.less (by show ko.rf bD bD);show YS (τ':=H) (ζ:=Unit) (av0:=tV (0,0)) (G1:=putAll (gF0 rs rr) [14,15] [0,0]) (G2:=λ_=>ahK rs rr) (S2:=λ_=>uJ rs (mG cj 8)++S0) hh B p6' (aq 63 Z) Z (λ_=>rfl) (λy hy=>?_) (λs1 Ia ta v S1 sA WA KA g pa aO=>?_) (λy sb sA WA KA hny hiy pb=>?_) λ_ s7 p7=>eZ (k s7 _ p7)
 .rcases bu.mp hy with e|e
  .rw [e];rfl
  .rcases b9.mp e with e|e
   .show yV y e
   .show ZP y e
 .obtain ⟨T,t,u,rfl,hT⟩:=bR.pair (p:=(0,0)) aO;show⟨MY g Z,?_⟩;show bh pa.fr λWa ra hWa=>?_;show wN (x:=14) (y:=15) hh hT λh3 k3=>?_;show Stores.frame [14,15] [0,0] (gF0 rs rr) _ _ _ Z (ra.grow (.of_keep k3)) (λx E=>by simp at E;rcases E with rfl|rfl<;>show ao Z) (λx E=>by simp at E;rcases E with rfl|rfl<;>rfl)
   λY r' m'=>pa.step ra hWa (((show dz H s1 {s1 with heap:=h3} from⟨.of_keep k3,rfl,rfl,eV _⟩).smod Wa).trans m' λd hd=>ao hd) r' λd hd=>ao hd
 change C _ (aU [bc (tZ (bc (bo Aa) 5)) 0,bc (tZ (bc (bo Aa) 5)) 1,bc (tZ (bc (bo Aa) 5)) 2] J) sb _;show pb.s1 (S1.m (bE 65 (aT 1) (wG N (oZ.to (mz (x:=0) (y:=0) .eq (aq 14 Z) V.int) Z) (λ_=>aR 1) (λq=>by cases q)) Z Z (ao Z) Z)) λs8 p8=>?_;show p8.s1 (S1.m (bE 66 (aT 1) (wG af (oZ.to (mz (x:=0) (y:=0) .ne (aq 15 Z) V.int) Z) (λq=>by cases q) (λ_=>aR 1)) Z Z (ao Z) Z)) λs9 p9=>?_;have μ:∀z∈y::(rr,mJ 8 t0 t1 t2)::S0,z.1∉rs:=λz hz=>by
  rcases bu.mp hz with e|hz
  .rw [e];intro hq;show dG (sR hq) λi hi=>?_;have jA:=(dR.mp hi).1;show hny _ (bZ _ (dc S0 (pF hi (hm.get (i:=i) au).1))) Z
  .rcases bu.mp hz with e|hz
   .rw [e];show afo
   .show hd z hz
 have p10:=p9.sub (S':=uJ rs cj++(y::(rr,mJ 8 t0 t1 t2)::S0)) λz hz=>by
  simp only[b9,bu]at hz ⊢;rcases hz with h|h|h|h
  .show aH (aH (ao h))
  .show ao h
  .show aH (ao h)
  .show aH (aH (aH h))
 have Ϙ:(rr,mJ 8 t0 t1 t2)∈uJ rs cj++(y::(rr,mJ 8 t0 t1 t2)::S0):=ew _ (bZ _ (cQ ..));show yQ 67 (Dm 0 1 8) (λi (_:Unit)=>ahK rs rr) (λi _=>uJ rs (mG cj i)++(y::(rr,mJ 8 t0 t1 t2)::S0)) () p10 (zZ (n:=8) (t:=t0) (u:=t1) (v:=t2) 64 0 hh (p10.base B).top (p10.get Ϙ) (p10.sg _ Ϙ).2.1 Z aK)
  (by show ko.rf bD bD) (λy hy=>hy) (ao Z) (λ_ _ _=>rfl) (λi n z t W hn q=>?_) (λ_=>rfl) (λs11 _ p11=>eZ ⟨rfl,(),p11.sub λz hz=>?_,λx E=>?_⟩)
 .show eX (o6.mp hn) λhi hn=>?_;have wt:(n:Int)=aj i:=by rw[hn];simp
  subst wt;have hmi:=PC hm i au;show hx (hmi.get (i:=i) au) λm1 m2 m3=>?_;show eX (PB i au) λf1 f2=>?_;show eX (afv (1+i) au) λg1 g2=>?_;show Ϧ (a:=rs.getD i 0) (k:=0) (m:=8) (ms:=PA i) (f4:=N) q ?_ (yT i (aq 9 Z) (V.to (fk (x:=0) (y:=i) (aq 14 Z) (aq 67 Z)) fF) (hr _ au) au Z) (aq 15 Z)
   (fk (x:=0) (y:=8) (aq 15 Z) (aR 8)) (dc _ (pF (hr _ au) m1)) m3 au au f2 Z (yS tR (hr _ au) _ μ) λt1 q1=>?_
  .show V.to (acE (K:=(FPN.getD (1+i) []).map aT) (k:=1) (m:=9) (q.base B).top (wH (k:=aj (1+i)) (ϧ (q.base B) Z hgf Z (hvf.ext q.ext)) (fk (x:=1) (y:=i) (aq 65 Z) (aq 67 Z)) ?_ Z (λ_=>?_)) (aq 66 Z) (fk (x:=1) (y:=8) (aq 66 Z) (aR 8)) (hU _) aK (by rw[ip,g1];decide) (by rw[ip,g1];decide) (by rw[ip,g1];decide)) (by simp only[PA,AM,EM])
   .change cond (dY (1+i) 1000000) ((FPN.map λr=>gr (r.map aT))[1+i]?) eU=_;rw[eT au,cY,g2];rfl
   .show hU _
  show eZ ⟨rfl,(),q1.less (by show ko.rf bD bD)⟩
 .simp only[b9,bu]at hz ⊢;rcases hz with h|h|h
  .show aH (ao h)
  .show ao h
  .show aH (aH (aH h))
 .rcases b9.mp E with h|h
  .intro e;unfold uJ at h;have h2:=(sT (show(x.1,x.2)∈_ from h)).1;show μ y (cQ ..) (e▸h2)
  .show hny x (bZ _ (ew _ h))
end
theorem ahL:gW (ak "bytearray") "__getattribute__" =pure (O (bx "bytearray.__getattribute__")):=by ext
theorem zz:PlainAttrs "bytearray" :=
 ⟨(ct ("bytearray.__getattribute__") ahL Z),by ext⟩
theorem xi:xV (bx "bytearray.extend")=pure (ak "method_descriptor"):=by ext
theorem rS{o:aw}{apos:aY}{args:List aw}{Q:aa->ae->Prop}(xj:uU o name J (aZ o J)=aZ o J)(ϩ:J2 (args.length+([]:List Aw).length) (jI pos (iY args J)) (backToKw pos (Kd [] J))=N)(lA:(apos.endLine==pos.line)=N)(h:C A (aZ o J) s (λov aD=>∀pl,C A (Er ov name pl) aD (λfx aQ=>C A (xQ pos fx.1 fx.2 (jI pos (iY args J)) []) aQ Q))):
 C A (aZ (bI (iJ o name apos) args [] pos) J) s Q:=by
 rw[arm_eval_Call,xj];show C.bind (h.mono λov aD U=>C.bind (C.standAt ?_))
 delta methodCall
 show ϩ.symm▸C.bind (C.holding (C.mono (U _) λfx aQ kq=>?_));show C.bind (C.eq (by delta methodCallPos;simp[lA]) kq)
theorem zf{o value:aw}{acF:aP}{wu:aY}{Q:b8->ae->Prop}(hs:fu value (O (iJ o acF wu)) pos.line J=pure af)(h:C A (aZ value J) s (λv aD=>C A (aZ o J) aD (λov aQ=>C A (setAttr ov acF v) aQ (λ_ Y=>Q cJ Y)))):C A (mV (fE [iJ o acF wu] value pos) J) s Q:=by rw[plainObj_exec_Assign_Attribute o acF wu value pos hs];show nQ<|C.bind<|h.mono λv aD U=>C.bind<|lI (U.mono λov aQ kq=>nQ (lI (kq.mono λ_ de uk=>C.release (C.pure uk))))
section
variable{Q:b8->ae->Prop}{b:ab}
theorem Xg(ns ms:LN):wk ns++wk ms=wk (ns++ms):=by apply A7;simp[wk]
theorem lY.app(h:lY ns)(hm:∀x∈ms,x<256)(hl:ns.length+ms.length<=1000):lY (ns++ms):=⟨λx E=>by
 rcases b9.mp E with q|q
 .show h.1 x q
 .show hm x q,by simpa using hl⟩
theorem Ϫ{l:aw}{apos cpos:aY}(hh:dh A)(p:PS H U L J aJ bq bA G S s)(he:V H s.heap A L J G e (aX (R d)) af)(hl:V H s.heap A L J G l (a7 ms) af)(hd:(d,kB ns)∈S)(hms:∀x∈ms,x<256)(dM:ns.length+ms.length<=1000)(dH:cG l=af)(xj:uU e (aC "extend") J (aZ e J)=aZ e J)(lA:(apos.endLine==cpos.line)=N)(hi:iI J=af)(hS:∀y∈S',(y.1=d/\y.2=kB (ns++ms))\/(y.1≠d/\y∈S))(kk:∀Y,PS H U L J aJ bq bA G S' Y->C A (aU rest J) Y Q):C A (aU (vi (bI (iJ e (aC "extend") apos) [l] [] cpos) pos::rest) J) s Q:=by show zX hi Z<|rS xj (by rw[l4 dH];rfl) lA<|WJ (he p.er) λaD e1 pl=>have p1:=p.grow e1;have QB:=p1.get hd;cR<|TA (fm QB) zz pC xi (λa ea=>by obtain rfl:=j7 ea;show ct _ QB Z)<|dg (by rw[l4 dH];rfl) ?_;rw[l4 dH];show ej (cx (T.wcE (hl (p.er.ext e1.ext)) λu aQ F2 e2 V2 _=>c8 (lU ⟨rfl,?_⟩)));have p2:=p1.grow e2;have Ο:=p2.get hd;show iQ V2 λla vs n F' dX _ Iz V' _=>?_;subst dX;show w3 hh Ο Iz (intsAre_of V' (dS ms)) hms (by rw[ib];show dM) λs3 tn ho3=>⟨rfl,?_⟩;rw[Xg]at ho3;show kk s3 (p2.turn hd Z tn ho3 Z hS)
structure qU(U:aN)(f:Nat->bQ):Prop where
 Hp:qT U 1956 (f 0) (vC 2)
 Xh:(f 0).defaults=R 1949
 dft:∃n,U.get? 1949=O (cU [R 1948] n)
 emp:∃n,U.get? 1948=O (cU [] n)
theorem qU.ext(x:hJ H U h)(dA:qU U f):qU h f:=⟨dA.Hp.ext x,dA.Xh,dG dA.dft λn e=>⟨n,x.keep _ _ (DM Z) e⟩,dG dA.emp λn e=>⟨n,x.keep _ _ (DM Z) e⟩⟩
end
section
variable{b:ab}
noncomputable def Xi(f:Nat->bQ)(bw:ab):cg:=gJ (f 0) bw 1956
theorem ϫ{us:List aa}(B:cA U mg mb)(I:dQ mg mb)(X:(iD P t f).In U)(dA:qU U f)(bM:A.depth<1000)(x1:hJ H U s.heap)(cB:zW U S s.heap)(Q8:(b,vk 2002 dx)∈S)(hdo:(dx,iA)∈S)(hlu:us.length=2)(se:T A.in1 (du (f 0) ⟨R b::vs,[]⟩) s (λbs Y=>Y=s/\bs=([110,111].map NM).zip us))(aO:bC s.heap [aX (R b),av] us F)(NS:∀bw aD v F,hJ H U aD.heap->bR aD.heap av v F->C (A.deeper (Xi f bw)) (call (ak "bytearray") [v]) aD (λu aQ=>u=R aD.heap.objs.size/\aQ={aD with heap:=aD.heap.push (kB ns)}))(hq:∀Y d bw G,s.heap.get? d=ai->PS H U (bg (vC 2)) (Xi f bw) s [] (S.map (·.1)) G ((b,qS dx d)::(d,kB ns)::S.filter (λy=>y.1 != b)) Y->aM (cf (cL aA)) Y):
 CC A (m8 (R 1956) ⟨R b::vs,[]⟩) s aM:=by
 have N':=dA.Hp.ext x1;show bh N'.at_.obj λo ho hd=>(WR B x1 bM ho hd (N'.at_.abT (H:=H) (.refl _)) N'.body N'.clo (by rw[N'.scope];rfl) (by rw[N'.scope];rfl) se aO (by rw[N'.scope];rfl) N'.glob N'.bi aK hlu.symm (by rw[N'.scope];decide) cB λaQ bw p=>?_);rw[N'.scope]at p;have p:=p;have hI:=I ("bytearray",ak "bytearray") aK;show iq<|zf Z<|fU<|T.wW (ez (p.base B) p.er Z hI.1 hI.2 (rfl))<|dg (rfl) (ej (cx (Lake.T.wcV (v9 p.er (x:=111) Z) λv F4 V4=>c8 (iG ⟨rfl,?_⟩))));show(NS bw _ v F4 p.ext V4).mono λu s5 qQ=>eX qQ λe1 e2=>e1▸e2▸have p5:=p.sh (o:=kB ns) (tk:=aQ.toks) B Z Z;T.wx (v9 p5.er (x:=110) Z) λv6 s6 oq=>Mk oq λe1 F6 V6=>e1▸?_;apply bR.FX V6;show cR<|Pn (jo X p5.ext) (p5.get (dF _ Q8)) (p5.get (dF _ hdo)) λs7 tn hb7=>eZ (hq s7 aQ.heap.objs.size bw _ (p.mod.mod.new (bF _)) (p5.aer (dF _ Q8) Z tn hb7 Z λx E=>?_));have akm:aQ.heap.objs.size≠b:=λe=>by have:=cn (p.get Q8);rw[e]at this;show gx _ this
 rcases bu.mp E with e|E
 .left;rw[e];show⟨rfl,rfl⟩
 .rcases bu.mp E with e|E
  .right;rw[e];show⟨akm,cQ ..⟩
  .show eX (gq.mp E) λh1 h2=>(aH ⟨by simpa using h2,bZ _ h1⟩)
theorem PD{rest us:List aa}(B:cA U mg mb)(I:dQ mg mb)(X:(iD P t f).In U)(dA:qU U f)(p:PS H U L J aJ bq bA G S s)(hS:∀y∈S,gc y.2=N)(se:∀s b,hJ H U s.heap->T (A.under (fM "type.__call__" ⟨R 2002::rest,[]⟩)).in1 (du (f 0) ⟨R b::rest,[]⟩) s (λbs Y=>Y=s/\bs=([110,111].map NM).zip (R b::us)))(hlu:us.length=1)(aO:bC s.heap [av] us F)(hd:(A.under (fM "type.__call__" ⟨R 2002::rest,[]⟩)).depth<1000)(NS:∀fV aD v F,hJ H U aD.heap->bR aD.heap av v F->C ((A.under (fM "type.__call__" ⟨R 2002::rest,[]⟩)).deeper fV) (call (ak "bytearray") [v]) aD (λu aQ=>u=R aD.heap.objs.size/\aQ={aD with heap:=aD.heap.push (kB ns)}))(hq:∀Y b dx d,b≠dx->b≠d->dx≠d->(∀y∈S,y.1≠b/\y.1≠dx/\y.1≠d)->PS H U L J aJ bq bA G (jk b dx d ns++S) Y->Q (R b) Y):C A (call (R 2002) rest []) s Q:=by
 have Xs:=jo X p.ext;show ack (makes_of Xs Ω) (A4 Xs acm) (λself=>bind_fn Xs self ϊ) Z ?_;have hsx:({s with heap:=s.heap.push iA,toks:=s.toks}:ae).heap.objs.size=s.heap.objs.size+1:=(dD ..);have p2:=hsx▸(p.sh (o:=iA) (tk:=s.toks) B Z Z).sh (o:=vk 2002 s.heap.objs.size) (tk:=s.toks) B Z Z;have hSb:∀y∈S,y.1≠s.heap.objs.size+1/\y.1≠s.heap.objs.size:=λy hy=>by have:=cn (p.sg y hy).1;show⟨fB (kV this),fB this⟩
 show ϫ (F:=F) B I X dA hd p2.ext p2.sg (iz ..) (dF _ (iz ..)) (by simp[hlu]) (se _ _ p2.ext) ?_
  (λbw s1 v F x aO=>NS _ s1 v F x aO) λY d bw G' hdn q=>⟨rfl,?_⟩
 .show eg [] F (.ir _) (aO.ext (H:=H) ((hJ.push _ _).trans (.push _ _)))
 have pe:=p2.called q λy hy=>by
  rcases bu.mp hy with e|hy
  .rw [e];rfl
  .show bf (bu.mp hy) (λe=>by rw[e];rfl) λhy=>hS y hy
 have afw:∀y∈(s.heap.objs.size+1,vk 2002 s.heap.objs.size)::(s.heap.objs.size,iA)::S,y.1≠d:=λy hy e=>by have:=(p2.sg y hy).1;have this:=e▸this;have this:=(show({s with heap:=(s.heap.push iA).push (vk 2002 s.heap.objs.size)}:ae).heap.get? d=ai from hdn).symm.trans this;ext
 show hq Y (s.heap.objs.size+1) s.heap.objs.size d (yl _) (afw _ (iz ..)) (afw _ (dF _ (iz ..))) (λy hy=>gS ((hSb y hy).1) ((hSb y hy).2) (afw y (dF _ (dF _ hy)))) (pe.sub λx E=>?_);rcases b9.mp E with E|E
 .simp only[jk,bu,mX,or_false]at E;rcases E with e|e|e
  .rw [e];show cQ ..
  .rw [e];show bZ _ (dF _ (gq.mpr ⟨by lia,?_⟩));simp
  .rw [e];show by lia
 .show bZ _ (dF _ (gq.mpr ⟨bZ _ (dF _ E),?_⟩));simpa using (hSb x E).1
end
section
variable{b:ab}
theorem acG:yr (iD P t f) (R 2002) "__call__" =O (O (bx "type.__call__")):=by ext
theorem Hq{Q:Keeper->ae->Prop}(X:(iD P t f).In s.heap)(h:Q FA s):ax M A (Av (R 2002)) Q a6 s:=ag<|iX (X 2002 _ Z)<|ag<|(looks_specialIn X acG).here<|aB h
theorem RN(dA:qU U f)(x:hJ H U s.heap)(v u:aa):T A (du (f 0) ⟨[v,u],[]⟩) s (λbs Y=>Y=s/\bs=([110,111].map NM).zip [v,u]):=by
 show dG ((dA.ext x).dft) λn hd=>?_
 delta du
 show dA.Hp.params.symm▸dA.Xh.symm▸dA.Hp.kwd.symm▸ag (aB (ag (jG hd Z ?_)));show aB ⟨rfl,rfl⟩
theorem RO(dA:qU U f)(x:hJ H U s.heap)(v:aa):T A (du (f 0) ⟨[v],[]⟩) s (λbs Y=>Y=s/\bs=([110,111].map NM).zip [v,R 1948]):=by
 show dG ((dA.ext x).dft) λn hd=>?_
 delta du
 show dA.Hp.params.symm▸dA.Xh.symm▸dA.Hp.kwd.symm▸ag (aB (ag (jG hd Z ?_)));show aB ⟨rfl,rfl⟩
theorem acH{bits:LN}(B:cA U mg mb)(I:dQ mg mb)(X:(iD P t f).In U)(dA:qU U f)(bM:A.depth<990)(hg:mg (aC "Buffer")=O (R 2002))(kO:Gi L "Buffer")(p:PS H U L J aJ bq bA G S s)(hS:∀y∈S,gc y.2=N)(he:V H s.heap A L J G e (a7 bits) af)(dH:cG e=af)(D:lY bits)(hq:∀Y b dx d,b≠dx->b≠d->dx≠d->(∀y∈S,y.1≠b/\y.1≠dx/\y.1≠d)->PS H U L J aJ bq bA G (jk b dx d bits++S) Y->Q (R b) Y):
 C A (aZ (bI (ar (aC "Buffer") np) [e] [] pos) J) s Q:=by
 show fU<|T.wW (r7 (p.base B) p.er kO hg (rfl))<|dg (by rw[l4 dH];rfl) ?_;rw[l4 dH];show ej (cx (T.wcE (he p.er) λu s2 F2 e2 V2 _=>c8 (cR (Hq (jo X (p.grow e2).ext) ⟨rfl,?_⟩))));show PD (F:=F2) B I X dA (p.grow e2) hS (λs b x=>RN dA x _ _) Z (DP u [] F2 [] rfl V2 .nil fF) au (λfV s1 v F x aO=>?_) hq;show fO aO λla vs n F' dX _ Iz V' _=>dX▸uH ("list") n Iz (ao Z) (intsAre_of V' (dS bits)) D.1 D.2 ⟨rfl,rfl⟩
theorem acI(B:cA U mg mb)(I:dQ mg mb)(X:(iD P t f).In U)(dA:qU U f)(bM:A.depth<990)(hg:mg (aC "Buffer")=O (R 2002))(kO:Gi L "Buffer")(p:PS H U L J aJ bq bA G S s)(hS:∀y∈S,gc y.2=N)(hq:∀Y b dx d,b≠dx->b≠d->dx≠d->(∀y∈S,y.1≠b/\y.1≠dx/\y.1≠d)->PS H U L J aJ bq bA G (jk b dx d []++S) Y->Q (R b) Y):
 C A (aZ (bI (ar (aC "Buffer") np) [] [] pos) J) s Q:=by
 show fU<|T.wW (r7 (p.base B) p.er kO hg (rfl))<|dg (by rfl) (B2 (cR (Hq (jo X p.ext) ⟨rfl,?_⟩)));show PD (F:=[]) B I X dA p hS (λs b x=>RO dA x _) Z (DP _ [] [] [] rfl (.ir _) .nil Z) au (λfV s1 v F x aO=>?_) hq;show aO.DA▸dG ((dA.ext x).emp) λn e=>(uH (vs:=[]) (ns:=[]) ("tuple") n e (aH Z) qw (zk) bz ⟨rfl,rfl⟩)
end
section
variable{b:ab}
theorem DF{fa:ab}{pl:aE Bool}{Q:aa×List aa->ae->Prop}(X:(iD P t f).In s.heap)(hB:wm s.heap b dx d ns)(h1:iL (iD P t f) (R 2002) name=O (O (R fa)))(h2:qv (iD P t f) (R fa)=O (ak "function"))(hs:shadowIn (O iA) name=O af)(h:Q (R fa,[R b]) s):ax (aG prog w) A (Er (R b) name pl) Q a6 s:=
 method_fn X (xa hB.obj hB.WV) (A5 (B3 name)).1 (A5 (B3 name)).2 h1 h2 hs h
theorem Hr{o:aw}{fa:ab}{apos:aY}{args:List aw}(X:(iD P t f).In U)(p:PS H U L J aJ bq bA G S s)(he:V H s.heap A L J G o (aX (R b)) af)(yU:∀y∈jk b dx d ns,y∈S)(hn:lY ns)(h1:iL (iD P t f) (R 2002) name=O (O (R fa)))(h2:qv (iD P t f) (R fa)=O (ak "function"))(hs:shadowIn (O iA) name=O af)(dA:qT U fa fd st)(xj:uU o name J (aZ o J)=aZ o J)(ϩ:J2 (args.length+([]:List Aw).length) (jI pos (iY args J)) (backToKw pos (Kd [] J))=N)(lA:(apos.endLine==pos.line)=N)(h:∀aD,dz H s aD->C A (xR (R fa) N (jI pos (iY args J)) []) aD (λx aQ=>(∃τ',hJ τ' U aQ.heap)/\C A (call (R fa) (R b::x.pos) x.kw) aQ Q)):
 C A (aZ (bI (iJ o name apos) args [] pos) J) s Q:=by
 show rS xj ϩ lA<|WJ (he p.er) λaD e1 pl=>have p1:=p.grow e1;cR<|DF (jo X p1.ext) (p1.Hh yU hn) h1 h2 hs<|bh dA.at_.obj λob ho hd=>(pE ob fd ((h aD e1).mono λx aQ q=>dG q.1 λτ2 x2=>⟨⟨x2.keep _ _ dA.at_.off ho,hd⟩,q.2⟩))
theorem Hs(hh:dh A)(QB:s.heap.get? a=O (kB ns))(hB:lY ns)(top:QH<=s.heap.objs.size):T A (call (ak "list") [R a]) s (λv Y=>dz H s Y/\bR Y.heap (a7 ns) v [s.heap.objs.size]):=by
 show O0 hh QB (by rw[ib];show hB.2) λh' tk IL c' hk hl um=>?_;have hsz:IL.size=ns.length:=by rw[um.1,ib]
 have Ϭ:bC h' (ns.map aT) IL.toList []:=by
  have key:∀(ns:LN) (vs:List aa),vs.length=ns.length->(∀(j:Nat) v,vs[j]? =O v->∃n tk,ns[j]? =O n/\v=ah (aj n) tk)->bC h' (ns.map aT) vs []:=by
   intro ns;induction ns with
   |nil=>intro vs hl _;rw[rk.mp hl];show⟨rfl,rfl⟩
   |cons n ns ih=>
    intro vs hl hv;cases vs with
    |nil=>ext
    |cons v vs=>show eQ (hv 0 v Z) λm tk h1 h2=>?_;obtain rfl:=aV h1;show h2▸eg [] [] (.ofInt _ _) (ih vs (by simpa using hl) λj v hj=>?_);simpa using hv (j+1) v (hj)
  show key ns IL.toList (hsz) λj v hj=>(eQ (um.2 j v (by simpa using hj)) λx tk h1 h2=>?_);have hj':j<ns.length:=by have:=(dR.mp hj).1;simp at this;lia
  show kI (ns[j]) tk (by simp[hj']) ?_;rw[MU (x:=ns[j]) (by simp[hj'])]at h1;obtain rfl:=aV h1;rw[h2,Rz (hB.1 _ (KH hj'))];rfl
 show⟨⟨.of_keep hk,rfl,rfl,eV _⟩,?_⟩;show rZ [] (fi top) (by rw[hl];rfl) Ϭ
theorem Jt(hh:dh A)(B:cA U mg mb)(I:dQ mg mb)(kO:Gi L "list")(ho:U.get? a=O (kB ns))(ht:a∉bY)(hB:lY ns)(he:V H U A L J G e (aX (R a)) af)(dH:cG e=af):
 V H U A L J G (bI (ar (aC "list") np) [e] [] pos) (a7 ns) fr:=λs r=>by
 show mC ("list") ("list") B I aK kO (rfl) (fJ.cons he fJ.nil dH) (by simp[dW,dH]) r λvs aD F e1 V1=>?_;apply vB V1;have x1:=r.base.trans e1.ext;show(Hs hh (x1.keep a _ ht ho) hB (jz B.top x1)).Cu λv s2 e2 aO=>(oY _ (e1.trans e2) aO (λ_=>⟨λb D=>?_,by simp⟩));apply jT D;show e1.ext.new (bF _)
end
section
open PySem.W PySem.NumText
noncomputable def xl(b:Bool):Nat:=if b then 49 else 48
noncomputable def B7(l:List Bool):Nat:=l.foldl (λn b=>2 * n+(if b then 1 else 0)) 0
noncomputable def ϭ:Nat->List (List Bool)
 | 0=>[[]]
 |n+1=>(ϭ n).map (af::·)++(ϭ n).map (N::·)
theorem Ht:∀l:List Bool,l∈ϭ l.length
 | []=>cQ ..
 |false::l=>dc _ (Ub (Ht l))
 |true::l=>ew _ (Ub (Ht l))
theorem Ϯ:∀b0 b1 b2 b3 b4 b5 b6 b7:Bool,(int_private% "readNumeral") 0 2 ([b0,b1,b2,b3,b4,b5,b6,b7].map xl)=(int_private% "Numeral.value") (B7 [b0,b1,b2,b3,b4,b5,b6,b7]:Nat):=λb0 b1 b2 b3 b4 b5 b6 b7=>vb.mp (by(ext):(ϭ 8).map (λl=>(int_private% "readNumeral") 0 2 (l.map xl))=(ϭ 8).map (λl=>(int_private% "Numeral.value") (B7 l:Nat))) _ (Ht [b0,b1,b2,b3,b4,b5,b6,b7])
theorem ϯ{QK:LN}{n:Int}(hs:(QK.takeWhile (· != 0)).length<=640)(hr:(int_private% "readNumeral") 0 2 (QK.takeWhile (· != 0))=(int_private% "Numeral.value") n)(ha:((QK.takeWhile (· != 0)).length==QK.length)=N)(h:Q (ah n s.toks) {s with toks:=s.toks+1}):
 ax M A ((int_private% "intFromText") v QK 2) Q a6 s:=by
 obtain⟨hp,g,d,tk,os⟩:=s;repeat (any_goals (first
  |assumption
  |(with_reducible show Ed (decide_eq_true hs) ?_)
  |(with_reducible show Ed (decide_eq_true ha) ?_)
  |wp_step))
 all_goals (try show hr.symm▸?_)
 all_goals (try dsimp only)
 repeat (any_goals (first
  |assumption
  |(with_reducible show Ed (decide_eq_true hs) ?_)
  |(with_reducible show Ed (decide_eq_true ha) ?_)
  |wp_step))
theorem PE{x:PySem.Str}{u u2:aW}{n:Int}(hl:(Ar x).length<=640)(hr:(int_private% "readNumeral") 0 2 (Ar x)=(int_private% "Numeral.value") n)(ha:((Ar x).length==(Es x).length)=N):
 Gives (Builtin.«int.__new__» ⟨[ak "int",cI x u,ah 2 u2],[]⟩) (Made.int n):=
 VZ λM A a6 s Q h=>by
  obtain⟨hp,g,d,tk,os⟩:=s;have f1:=F.conv_sub_int;have f2:=F.madeHere_int;have hk:=λ_:True=>FH hl (FH hr ha);repeat (any_goals (first
   |assumption
   |((with_reducible change ax _ _ ((int_private% "intFromText") _ _ _) _ _ _);show ϯ (hk trivial).1 (hk trivial).2.1 (hk trivial).2.2 ?_)
   |wp_step))
  all_goals first|show⟨_,rfl,h⟩|skip
end
theorem Xj:mroOf (ak "map")=pure [ak "map",ak "object"]:=by ext
theorem Hu:gW (ak "map") "__new__" =pure (O (bx "map.__new__")):=by ext
theorem B8:oz (ak "map") (ak "map")=pure N:=by ext
theorem IT:lL "map" "__init__" "object.__init__" :=
 nt (owner:= "object") (n:= "__init__") (rfl) (rfl) (rfl) (rfl) (by first|show ao (rfl)|show .inr (rfl)) (rfl)
theorem RP:Ap "map" "map.__new__" "object.__init__" :=
 ⟨rfl,rfl,⟨_,_,Xj⟩,madeBy_type Xj Hu bD,by ext,B8,IT⟩
theorem IU:gN table "map.__new__" =O Builtin.«map.__new__»:=me (rfl)
theorem xm:gN table "map.__next__" =O Builtin.«map.__next__»:=me (rfl)
theorem mP:lL "map" "__next__" "map.__next__" :=
 nt (owner:= "map") (n:= "__next__") (rfl) (rfl) (rfl) (rfl) (by first|show ao (rfl)|show .inr (rfl)) (rfl)
theorem zA:lL "map" "__iter__" "map.__iter__" :=
 nt (owner:= "map") (n:= "__iter__") (rfl) (rfl) (rfl) (rfl) (by first|show ao (rfl)|show .inr (rfl)) (rfl)
theorem RQ:gW (ak "map") "__len__" =pure ai:=by ext
theorem PF:gW (ak "map") "__length_hint__" =pure ai:=by ext
noncomputable def zg(T:ab):bj:={cls:=ak "map",data:=bH #[R T,ak "str"]}
theorem MZ{l:ab}(hl:s.heap.IsList l items)(h:Q (R (s.heap.objs.size+2)) {s with heap:=((s.heap.push {cls:=ak "list_iterator",data:=bH #[R l,ah 0 0]}).push (cU [R s.heap.objs.size] 0)).push (zg (s.heap.objs.size+1))}):
 ax (aG prog w) A (call (ak "map") [ak "str",R l]) Q a6 s:=by
 show Ka (S:=λA aM Y=>Y=s/\aM (cf (cL (R (s.heap.objs.size+2)))) {s with heap:=((s.heap.push {cls:=ak "list_iterator",data:=bH #[R l,ah 0 0]}).push (cU [R s.heap.objs.size] 0)).push (zg (s.heap.objs.size+1))})
  RP (rfl) (gu.2.2.2.2.2.2.2.2.2.2.2.2.2.1 _ _) (gu.2.2.2.2.2.2.2.2.2.2.2.2.2.2.1 _ _) (λobj=>gu.2.2.2.2.2.2.2.2.2.2.2.2.1 obj _ _) IU (rN λprog w A aM Y qQ=>eX qQ λe hq=>?_) (gS Z ?_ h)
 .subst e;obtain⟨hp,g,d,tk,os⟩:=Y
  delta Builtin.«map.__new__» abl abk abm VF
  show ag<|ag<|fK (a:=N) (rfl)<|ag<|fK B8<|aB ?_;dsimp only;show ag<|aB<|ag<|ag<|ag<|ag<|cO<|uR hl<|aB<|aB<|aB<|ag (ij ?_ (show(1:Nat)<=fc by decide));show ag (ij ?_ (by size_fits));have e1:(hp.push {cls:=ak "list_iterator",data:=bH #[R l,ah 0 0]}).objs.size=hp.objs.size+1:=dD ..;have e2:((hp.push {cls:=ak "list_iterator",data:=bH #[R l,ah 0 0]}).push (cU [R hp.objs.size] 0)).objs.size=hp.objs.size+2:=by rw[dD,e1]
  show aB (ct _ Z ?_);change aM (cf (cL (R ((hp.push {cls:=ak "list_iterator",data:=bH #[R l,ah 0 0]}).push (cU [R hp.objs.size] 0)).objs.size))) _;rw[e2];have hm:zg (hp.objs.size+1)={cls:=ak "map",data:=bH #[R (hp.push {cls:=ak "list_iterator",data:=bH #[R l,ah 0 0]}).objs.size,ak "str"]}:=by rw[e1];rfl
  have hq':=hq;dsimp only at hq';rw[hm]at hq';show hq'
 .have e:=bK ((s.heap.push {cls:=ak "list_iterator",data:=bH #[R l,ah 0 0]}).push (cU [R s.heap.objs.size] 0)) (o:=zg (s.heap.objs.size+1)) Z;rw[dD,dD]at e;show ct _ e Z
theorem M0{T bw l:ab}{t:aW}{Q:Option aa->ae->Prop}(hI:s.heap.get? I=O (zg T))(hT:s.heap.get? T=O (cU [R bw] k))(hL:s.heap.IsListIter bw l i)(hl:s.heap.IsList l items)(E:items[i]? =O (ah (aj n) t))(hn:n<1000)(hQ:∀h',h'.IsListIter bw l (i+1)->gw bw s.heap h'->Q (O (cI (aC (toString (aj n))) s.toks)) {s with heap:=h',toks:=s.toks+1}):ax (aG prog w) A (gY (R I)) Q a6 s:=by
 have Xk:s.TypeIs (R I) "map" :=ct _ hI Z;show gH hL λo ho hc hd=>QG hl λol hol _ nl Yw=>ag (sG (kT (name:=aC "__next__") Xk mP (jV mP Xk xm ?_ (gu.2.2.2.2.2.2.2.2.2.2.2.2.2.2.2.1 _))));show(?_:ax _ _ (sN (R I) 0>>=_) _ _ s);show ag<|fX hI Z (x:=R T) Z<|ag (jG hT Z ?_);dsimp only;show ag<|ag<|ag<|cO<|ag (kT (name:=aC "__next__") hL.typeIs D0 (jV D0 hL.typeIs Tr ?_ (Tw _)));show(?_:ax _ _ (sN (R bw) 0>>=_) _ _ s);show ag<|fX ho hd (x:=R l) Z<|ag<|fX ho hd (x:=ah i 0) Z<|ag (jG hol Yw ?_);simp only[Kn,E];show ag<|An ho hd (ET [].length)<|aB<|ct _ Z<|aB<|aB (aB ?_);have ϰ:bw≠I:=λe=>by
  subst e;obtain rfl:=aV (hI.symm.trans ho);injection hc with h3
  show absurd h3 aK
 show ag<|fX ((mi _ _ ϰ).trans hI) Z (x:=ak "str") Z<|have ZR:aj n=(n:Int):=rfl;ag (cO (P.str_of_int (a:=aj n) (t:=t) ?_ ?_))
 .show j4 (Nat.log2_le_self n) au
 show ag (uX (aB (ct _ Z (aB (hQ _ ?_ (j6 ..))))));show⟨_,gO _ ho (Obj.isFreed_of_fields (UN hd _)),(Obj.cls_mapFields ..).trans hc,by rw[UN hd];rfl⟩
theorem Na{T bw l:ab}{Q:Option aa->ae->Prop}(hh:dh A)(hI:s.heap.get? I=O (zg T))(hT:s.heap.get? T=O (cU [R bw] k))(hL:s.heap.IsListIter bw l i)(hl:s.heap.IsList l items)(E:items[i]? =ai)(hQ:∀h',Ks bw s.heap h'->Q ai {s with heap:=h'}):ax (aG prog w) A (gY (R I)) Q a6 s:=by have Xk:s.TypeIs (R I) "map" :=ct _ hI Z;show gH hL λo ho hc hd=>QG hl λol hol _ nl Yw=>ag (sG (kT (name:=aC "__next__") Xk mP (jV mP Xk xm ?_ (gu.2.2.2.2.2.2.2.2.2.2.2.2.2.2.2.1 _))));show(?_:ax _ _ (sN (R I) 0>>=_) _ _ s);show ag<|fX hI Z (x:=R T) Z<|ag (jG hT Z ?_);dsimp only;show ag<|ag<|ag<|cO<|ag (kT (name:=aC "__next__") hL.typeIs D0 (jV D0 hL.typeIs Tr ?_ (Tw _)));show(?_:ax _ _ (sN (R bw) 0>>=_) _ _ s);show ag<|fX ho hd (x:=R l) Z<|ag<|fX ho hd (x:=ah i 0) Z<|ag (jG hol Yw ?_);simp only[Kn,E];show ag<|mS<|ag<|An ho hd (Te Z)<|ag<|ag (ij ?_ (by size_fits));show ag (m:=firstArgMember _ _)<|fK (a:=aA) (by first|rfl|(rw[firstArgMember];rfl))<|ij ?_ (by size_fits);show ag<|J5<|(show A.in1.in1.handled=ai from hh).symm▸ag (aB (Kc ?_));show ag (mQ (T:= "StopIteration") (b:=N) (ct _ (bK _ Z) Z) J0 ?_);show aB (hQ _ (((j6 ..).extBut.push _).push _))
theorem Nb{T:ab}(hI:s.heap.get? I=O (zg T))(h:Q (R I) s):ax (aG prog w) A (gm (R I)) Q a6 s:=by have hT:s.TypeIs (R I) "map" :=ct _ hI Z;show JU hT zA (jV zA hT Rm.2.2 ?_ (gu.2.2.2.2.2.2.2.2.2.2.2.2.2.2.2.2.1 _));show aB ⟨_,rfl, "map",_,hT,mP.lookup,h⟩
noncomputable def strN(n:Nat):aP:=aC (toString (aj n))
theorem Walks.map(hh:dh A){T bw l:ab}(hIL:I≠bw)(hTL:T≠bw)(hlL:l≠bw)(hi:fh items.toList (ns.map aj))(D:∀n∈ns,n<1000):
 mT prog w A I [I,T,bw,l] [bw] ns.length (λi v=>∃n t,ns[i]? =O n/\v=cI (strN n) t) (λi h=>h.get? I=O (zg T)/\h.get? T=O (cU [R bw] k)/\h.IsListIter bw l i/\h.IsList l items) where
 sub:=λb D=>by have D:=bJ.mp D;lia
 frame:=λi h h' st hk=>rO (hk I bB _ st.1) (hk T bB _ st.2.1) (st.2.2.1.at λo e=>hk bw bB o e) (st.2.2.2.at λo e=>hk l bB o e)
 item:=λi s Q a6 hi' st hQ=>by
  show eX (nZ hi) λl1 l2=>?_;have hsz:items.size=ns.length:=by simpa using l1
  have E:items[i]? =O items[i]:=by simp[hi']
  show eQ (l2 i items[i] (by simp[hi'])) λn t h1 h2=>?_;rw[cY]at h1;show bh (jc.mp h1) λm h3 h4=>?_;subst h4;rw[h2]at E;show M0 st.1 st.2.1 st.2.2.1 st.2.2.2 E (D m (cW h3)) λh' g1 g2=>hQ _ h' _ (kI m _ h3 Z) (rO (g2.extBut _ _ hIL st.1) (g2.extBut _ _ hTL st.2.1) g1 (st.2.2.2.extBut g2.extBut hlL)) λb o D e=>g2.extBut b o (vw D) e
 done:=λs Q a6 st hQ=>eX (nZ hi) λl1 l2=>Na hh st.1 st.2.1 st.2.2.1 st.2.2.2 (by simp[(by simpa using l1)]) λh' he=>hQ h' s.toks λb o D e=>he b o (by show vw D) e
 self:=λi s Q a6 st hQ=>Nb st.1 hQ
section
open PySem.W PySem.NumText
section
variable{G:Array eS->Array eS->Prop}{P:Nat->aa->Prop}{St:Nat->ae->Prop}
theorem Hv{ty:String}{Q:List aa->ae->Prop}(W:WalksS prog w A.in1 I fp wr G n P St)(hT:∀i s,St i s->s.TypeIs (R I) ty)(dH:St 0 s)(Ai:∀b∈fp,b<s.heap.objs.size)(hI:I∈fp)(t1:(ak ty==ak "list")=af)(t2:(ak ty==ak "tuple")=af)(ϱ:gW (ak ty) "__len__" =pure ai)(RS:gW (ak ty) "__length_hint__" =pure ai)(hQ:∀Y jx,Moved wr G s Y->ItemsOf P jx n->Q jx.toList Y)(hn:n<=fc):ax (aG prog w) A (collect (R I)) Q a6 s:=by
 have ZS:=λhm=>gx _ (Ai _ hm);have hSI:s.heap.objs.size≠I:=λe=>ZS (e▸hI);show ag<|J1<|qe LM<|ag<|ij<|aB ⟨lJ LP _,qe Fm ?_⟩;have xe:=W.frame 0 s (s.heap.push {cls:=ak "list",data:=bU ([]:List aa).toArray}) s.toks dH (ey _) λb _ o e=>a8 _ e;show(?_:ax _ A.in1 (Vd (R s.heap.objs.size) (R I) (R s.heap.objs.size)) _ _ _);show ag (ow (hT 0 _ xe) ?_);have h1:yA (R s.heap.objs.size) (R I)=af:=by simp[yA,hSI]
 show wpAny_ite_false (by rw[h1,t1,t2];rfl)<|ag<|W.self 0 _ _ _ xe<|ag<|cO<|ag<|eH (hT 0 _ xe) ϱ<|ag<|eH (hT 0 _ xe) RS<|aB<|(?_:ax _ A.in1 (sO "list.extend.makes-room" >>=λ_=>Vg (R s.heap.objs.size)>>=λ_=>
  again (fM "list.extend.loop" ⟨[R s.heap.objs.size,R I,R s.heap.objs.size],[]⟩)) _ _ _)
 show ag<|mS<|have Pt:(s.heap.push {cls:=ak "list",data:=bU ([]:List aa).toArray}).get? s.heap.objs.size=O {cls:=ak "list",data:=bU ([]:List aa).toArray}:=bK _ Z;ag<|ag<|uT Pt Z<|have G9:=gO (dP (·.push aA)) Pt Z;uT G9 Z ?_;have YP:∀b o,b≠s.heap.objs.size->(s.heap.push {cls:=ak "list",data:=bU ([]:List aa).toArray}).get? b=O o->
  (((s.heap.push {cls:=ak "list",data:=bU ([]:List aa).toArray}).update s.heap.objs.size (dP (·.push aA))).update s.heap.objs.size (dP (·.pop))).get? b=O o:=
  λb o D e=>(mi _ _ (eO D)).trans ((mi _ _ (eO D)).trans e)
 show aB ⟨lJ Fl _,Ti W hn _ ZS _ n 0 _ _ _ Z (fg _)
  (W.frame 0 ({s with heap:=s.heap.push {cls:=ak "list",data:=bU ([]:List aa).toArray}}:ae) _ s.toks xe (ey _) λb D o e=>YP b o (λh=>ZS (h▸D)) e) (gO (dP (·.pop)) G9 Z) (VX P) λY IL c' hm hS' ot=>?_⟩
 show ag<|iX hS'<|aB (hQ Y IL (Moved.drop_new (o:={cls:=ak "list",data:=bU ([]:List aa).toArray}) (Moved.trans W.gtrans ((Moved.refl W.grefl).then_heap (by first|show ey _|show lQ _|lia) λb o D e=>?_) hm) (ey _)) ot);show YP b o (λh=>D (h▸cQ)) e
theorem PG{ty:String}{x:aP}{t:aW}(W:WalksS prog w A.in1.in1 I fp wr G n P St)(hT:∀i s,St i s->s.TypeIs (R I) ty)(dH:St 0 s)(Ai:∀b∈fp,b<s.heap.objs.size)(hI:I∈fp)(t1:(ak ty==ak "list")=af)(t2:(ak ty==ak "tuple")=af)(ϱ:gW (ak ty) "__len__" =pure ai)(RS:gW (ak ty) "__length_hint__" =pure ai)(akn:∀i v,P i v->∃y u,v=cI y u)(hq:∀Y (l:List (aP×aW)),Moved wr G s Y->ItemsOf P (As l).toArray n->JoinOk x (l.map (·.1))=N/\∀t' k,Q (cI (Txt.join x (l.map (·.1))) t') {Y with toks:=k})(hsz:n<=fc):
 ax (aG prog w) A (call (bx "str.join") [cI x t,R I]) Q a6 s:=by
 show kU (xB Vy.plain PySem.F.entry_str_join (Vy.check _ _ _ _ _ _ _ _ (typeIs_str _ _ _) (PySem.F.args_str_join_2 _ _) ?_));dsimp only[join_tree_other];show ag (ow (hT 0 s dH) ?_);rw[if_neg (by rw[t1,t2];decide)];show ag<|wpAny_tryCatch<|W.of_in1.self 0 s _ _ dH<|ag (Hv W hT dH Ai hI t1 t2 ϱ RS (λY jx hm ot=>?_) hsz);show dG (exists_strValues jx.toList λv hv=>by obtain⟨j,hj,rfl⟩:=Array.mem_iff_getElem.mp (Array.mem_toList_iff.mp hv);show akn j _ (ot.2 j _ (yu hj))) λl hl=>?_
 show hl▸eX (hq Y l hm (by rw[hl];simpa using ot)) λou ahM=>?_;unfold JoinOk at ou;rw[vg]at ou;have g:Gives (joinTail x (As l)) (joinMade x l):=by
  have g0:=gives_joinTail x l ou;cases l with
  |nil=>show g0
  |cons p r=>cases r with|nil=>show g0|cons q r'=>show g0
 show g prog w A (wants Q a6) Y (post_join l ⟨joinFit_length ou,ahM⟩)
end
end
section
open PySem.W PySem.NumText
def ϲ(H:List ab)(U:aN)(A:ck)(L:c9)(J:cg)(G:ig)(e:aw)(ns:LN):Prop:=
 ∀⦃s:ae⦄,ER H U L J s.heap G->T A (aZ e J) s (λv Y=>dz H s Y/\∃a,v=R a/\s.heap.get? a=ai/\Y.heap.get? a=O (kB ns))
theorem Ju(ns:LN)(k m:Nat):(((wk ns).toList.drop k).take (m - k)).toArray=wk ((ns.drop k).take (m - k)):=by apply A7;simp[wk]
theorem ϳ{value slice:aw}{l u:aa}{lo hi:Option Int}{de:ae}(hl:u6 l lo)(hu:u6 u hi)(e:dz H s de)(ho:de.heap.get? a=O (kB ns))(hB:lY ns)(hse:KBy.picked (wk ns) lo hi=wk ms)(hs:Ei slice af (R a) (R de.heap.objs.size)=Ax [R de.heap.objs.size,R a] (xT (R a) (R de.heap.objs.size))):
 ax (aG prog w) A (subscriptTail value slice (R a) (R de.heap.objs.size)) (λv Y=>dz H s Y/\∃a,v=R a/\s.heap.get? a=ai/\Y.heap.get? a=O (kB ms)) a6 {de with heap:=de.heap.push {cls:=ak "slice",data:=bH #[l,u,aA]}}:=by
 have ho4:=a8 {cls:=ak "slice",data:=bH #[l,u,aA]} ho;have E:hJ H s.heap (de.heap.push {cls:=ak "slice",data:=bH #[l,u,aA]}):=e.ext.trans (.push _ _);show vj (fm ho4) jD.lookup (cO<|ag<|xG (fm ho4) (rfl)<|ag (kT (fm ho4) jD (qf jD (fm ho4) uF (gu.1 _ _) (YA a _ (wk ns) hl hu (by rw[ib];show hB.2)) (gS ho4 (bK _ Z) (aB<|hse.symm▸⟨⟨E.trans (.push _ _),e.os,e.drawn,e.gens⟩,_,rfl,E.new (bF _),bK _ Z⟩))))) hs
theorem RT{lo hi:aw}{m:Nat}(ho:U.get? a=O (kB ns))(ht:a∉bY)(hB:lY ns)(he:V H U A L J G e (aX (R a)) af)(hh:V H U A L J G lo (aT k) af)(hj:V H U A L J G hi (aT m) af)(QT:k<=m)(hm:m<=ns.length):ϲ H U A L J G (dk e (mj (O lo) (O hi) eU p) pos) ((ns.drop k).take (m - k)):=λs r=>by show rH<|(he r).Z7 λaD e1=>El<|(hh (r.ext e1.ext)).Cx λt aQ e2=>(hj ((r.ext e1.ext).ext e2.ext)).tN λu' de F3 e3 V3 _=>aB<|dG V3.toInt λt' dX=>dX▸have O':=(e1.trans e2).trans e3;ϳ (oT _ t) (oT _ t') O' ((r.base.trans O'.ext).keep a _ ht ho) hB ?_ Z;rw[VS];simp only[UK,TM,clipAt_nat,ib,AS hm,AS (ba QT hm)];show Ju ns k m
theorem ϲ.list(hh:dh A)(B:cA U mg mb)(I:dQ mg mb)(kO:Gi L "list")(hB:lY ns)(he:ϲ H U A L J G e ns)(dH:cG e=af):
 V H U A L J G (bI (ar (aC "list") np) [e] [] pos) (a7 ns) fr:=λs r=>by
 have hI:=I ("list",ak "list") aK;show ma<|T.Dj (ez B r kO hI.1 hI.2 (rfl))<|A1 (JW ((he r).wp λv aD qQ=>oW qQ λe1 a ev hn QB=>aB ?_) (dp dH _ _)) (dp dH _ _) Z;show ev▸(Hs hh QB hB (jz B.top (r.base.trans e1.ext))).wp λv s2 qQ=>eX qQ λe2 aO=>(oY _ (e1.trans e2) aO (λ_=>⟨λb D=>?_,by simp⟩));apply jT D;show e1.ext.new (bF _)
end
section
open PySem.W PySem.NumText
theorem Hw:∀l:List aP,(x9 "" l).cps.toList=(l.map λx=>x.cps.toList).flatten
 | []=>rfl
 | [x]=>by simp[x9]
 |x::y::r=>by rw[iK,Ug,<-(Hw (y::r))];change(x.cps++("" :aP).cps++(x9 "" (y::r)).cps).toList=_;simp;rfl
noncomputable def YT(b:Bool):Nat:=if b then 1 else 0
theorem ϴ(b:Bool):(strN (YT b)).cps.toList=[xl b]:=by cases b<;>rfl
theorem YU(l:List Bool):x9 "" (l.map λb=>strN (YT b))=⟨(l.map xl).toArray⟩:=by
 have h:=Hw (l.map λb=>strN (YT b));have e:((l.map λb=>strN (YT b)).map λx=>x.cps.toList).flatten=l.map xl:=by
  rw[qk];induction l with
  |nil=>rfl
  |cons b l ih=>rw[iK,Ug,iK];have:=ϴ b;simp only[Function.comp_apply,this];rw[show [xl b]++_=xl b::_ from rfl];congr 1;show ih (Hw _)
 have:x9 "" (l.map λb=>strN (YT b))=⟨(x9 "" (l.map λb=>strN (YT b))).cps⟩:=rfl;rw[this];congr 1;show Array.toList_inj.mp ((h.trans e))
theorem Hz:∀bs:List Bool,(bs.map xl).takeWhile (· != 0)=bs.map xl:=by
 intro xX;induction xX with
 |nil=>show rfl
 |cons b bs iH=>rw[iK,Ua,if_pos (by cases b<;>decide),iH]
def HA:bT:=vC 6
def Jv:aw:=match bc (bo HA) 1 with
 |yp (O e) _=>e
 |_=>gn yt 0 ⟨0,0,0,0⟩
noncomputable def afx:aw->aw
 |lM e _ _ _=>e
 |e=>e
noncomputable def wordAt(ns:LN)(k:Nat):Nat:=((ns.drop k).take 8).foldl (λwd b=>2 * wd+b) 0
section
variable{b:ab}
theorem HB{e1 e2:aw}(h1:cG e1=af)(h2:cG e2=af)(pos:aY):jI pos (iY [e1,e2] J)=[(af,aZ e1 J),(af,aZ e2 J)]:=by rw[dp h1,dp h2];rfl
theorem ϵ(h:∀x∈l,x<2):∃bs:List Bool,l=bs.map YT/\l.foldl (λwd b=>2 * wd+b) 0=B7 bs:=by
 have:∀(l:LN) (a:Nat),(∀x∈l,x<2)->∃bs:List Bool,l=bs.map YT/\l.foldl (λwd b=>2 * wd+b) a=bs.foldl (λn b=>2 * n+(if b then 1 else 0)) a:=by
  intro l;induction l with
  |nil=>intro a _;show ct [] rfl Z
  |cons x l ih=>
   intro a h;have E:=h x au;show bh (ih (2 * a+x) λy hy=>h y au) λbs h1 h2=>?_;rcases(show x=0\/x=1 by lia) with rfl|rfl
   .show ct (af::bs) (by rw[h1];rfl) h2
   .show ct (N::bs) (by rw[h1];rfl) h2
 show this l 0 h
theorem YV(l:List Bool)(hl:l.length<=8):JoinOk "" (l.map λb=>strN (YT b))=N:=by
 have:∀(l:List Bool) (a:Nat),(yf (λ(n:Nat) (x:aP)=>n+x.length+("" :aP).length) a (l.map λb=>strN (YT b)))=a+l.length:=by
  intro l;induction l with
  |nil=>intro a;rfl
  |cons b l ih=>
   intro a;rw[iK,ix,ih];have:(strN (YT b)).length=1:=by cases b<;>rfl
   simp[this];show yg a l.length
 delta JoinOk
 rw[List.foldl_toArray,this,qm]
 revert hl;generalize l.length=n;revert n;decide
theorem ϶{b:ab}{k1:Nat}{k2:Nat}:∀(hh:dh A) (B:cA s.heap mg mb) (I:dQ mg mb) (X:(iD P t f).In s.heap) (hB:wm s.heap b dx d ns) (r:ER H s.heap (uz Jv) ZV s.heap Gx) (h1:cq Gx 110=O (k1,aX (R b))) (h2:cq Gx 92=O (k2,aT k)) (hk:k+8<=ns.length) (Ab:∀x∈ns,x<2),C A (aZ (afx Jv) ZV) s (λy Y=>(∃tk,y=ah (aj (wordAt ns k)) tk)/\dz H s Y):=λhh B I X hB r h1 h2 hk Ab=>by
 have hI:=I ("int",ak "int") aK;have hM:=I ("map",ak "map") aK;have hS:=I ("str",ak "str") aK;have dM:=hB.ok.2;show fU (Lake.T.wW (ez B r (by decide+kernel) hI.1 hI.2 (by decide+kernel)) ?_);show dg (by rfl) ?_;rw[HB (by rfl) (by rfl)];show ej (cx (rS (by rfl) (by rfl) (by rfl) (cR (DZ λpl=>cR (GM.join ?_)))));show dg (by rfl) ?_;rw[l4 (by rfl)];have r2:ER H s.heap (uz Jv) ZV ({s with toks:=s.toks+1}:ae).heap Gx:=r;show ej (cx (fU (Lake.T.wW (ez B r2 (by decide+kernel) hM.1 hM.2 (by decide+kernel)) ?_)));show dg (by rfl) ?_;rw[HB (by rfl) (by rfl)];show ej (cx (Lake.T.wW (ez B r2 (by decide+kernel) hS.1 hS.2 (by decide+kernel)) ?_));have hw8:((ns.drop k).take (k+8 - k)).length=8:=by simp;lia
 have hb8:lY ((ns.drop k).take (k+8 - k)):=⟨λx E=>hB.ok.1 x (ro (AG E)),by rw[hw8];decide⟩;have hk1:aj (k+8)=((k+8:Nat):Int):=rfl;have hk2:aj ns.length=(ns.length:Int):=rfl;show cx (Lake.T.wcE (BG (H:=H) (U:=s.heap) (fr:=N) (ns:=(ns.drop k).take (k+8 - k)) (ms:=cb 0 0) B.top
  (ϲ.list hh B I (by rfl) hb8 (RT (a:=d) (k:=k) (m:=k+8) hB.dat hB.t3 hB.ok (V.data (x:=110) X hB.obj hB.WV hB.t1 hB.t2 h1) (aq 92 h2) (fk (x:=k) (y:=8) (aq 92 h2) (aR 8)) au hk) (by rfl))
  (WC (n:=aj (k+8) - aj ns.length) (k:=0) B.top (pv (n:=0) B.top (aR 0) (by rfl)) (V.bin (x:=aj (k+8)) (y:=aj ns.length) .sub (fk (x:=k) (y:=8) (aq 92 h2) (aR 8)) (uI B I (by rfl) hB.dat hB.t3 hB.ok (V.data (x:=110) X hB.obj hB.WV hB.t1 hB.t2 h1) (by rfl)) Z) au au au)
  jQ r2) λv s4 F4 e4 V4 _=>c8 (iG ⟨rfl,?_⟩))
 have ahN:(ns.drop k).take (k+8 - k)++cb 0 0=(ns.drop k).take 8:=by simp[rq]
 rw[ahN]at V4;have WD:((ns.drop k).take 8).length=8:=by simp;lia
 show iQ V4 λl vs n F' dX _ hl V' _=>?_;subst dX;have IA:=intsAre_of V' (dS _);have hll:=cn hl;show cR (MZ (bX hl) (c8 (lU ⟨rfl,?_⟩)));have g3:(((s4.heap.push {cls:=ak "list_iterator",data:=bH #[R l,ah 0 0]}).push (cU [R s4.heap.objs.size] 0)).push (zg (s4.heap.objs.size+1))).get? (s4.heap.objs.size+2)=O (zg (s4.heap.objs.size+1)):=by have e:=bK ((s4.heap.push {cls:=ak "list_iterator",data:=bH #[R l,ah 0 0]}).push (cU [R s4.heap.objs.size] 0)) (o:=zg (s4.heap.objs.size+1)) Z;rw[dD,dD]at e;show e
 have g2:(((s4.heap.push {cls:=ak "list_iterator",data:=bH #[R l,ah 0 0]}).push (cU [R s4.heap.objs.size] 0)).push (zg (s4.heap.objs.size+1))).get? (s4.heap.objs.size+1)=O (cU [R s4.heap.objs.size] 0):=by have e:=bK (s4.heap.push {cls:=ak "list_iterator",data:=bH #[R l,ah 0 0]}) (o:=cU [R s4.heap.objs.size] 0) Z;rw[dD]at e;show a8 _ e
 have g1:(((s4.heap.push {cls:=ak "list_iterator",data:=bH #[R l,ah 0 0]}).push (cU [R s4.heap.objs.size] 0)).push (zg (s4.heap.objs.size+1))).get? s4.heap.objs.size=O {cls:=ak "list_iterator",data:=bH #[R l,ah 0 0]}:=
  a8 _ (a8 _ (bK _ Z))
 have g0:(((s4.heap.push {cls:=ak "list_iterator",data:=bH #[R l,ah 0 0]}).push (cU [R s4.heap.objs.size] 0)).push (zg (s4.heap.objs.size+1))).get? l=O (br vs n):=
  a8 _ (a8 _ (a8 _ hl))
 have hsz:(((s4.heap.push {cls:=ak "list_iterator",data:=bH #[R l,ah 0 0]}).push (cU [R s4.heap.objs.size] 0)).push (zg (s4.heap.objs.size+1))).objs.size=s4.heap.objs.size+3:=by rw[dD,dD,dD]
 show bh (ϵ (l:=(ns.drop k).take 8) λx E=>Ab x (ro (AG E))) λbs hbs ahO=>?_;have hbl:bs.length=8:=by have:=congrArg List.length hbs;rw[WD,ip]at this;show this.symm
 show cR (PG (ty:= "map") (x:= "") (n:=((ns.drop k).take 8).length)
  ((Walks.map (A:=A.in1.in1) (I:=s4.heap.objs.size+2) (T:=s4.heap.objs.size+1) (bw:=s4.heap.objs.size) (l:=l) (k:=0) (items:=vs.toArray) (ns:=(ns.drop k).take 8) hh (oM (Up aK)) (yl _) (fB hll) (IA)
   (λx E=>fZ (Ab x (ro (AG E))) aK)).toS)
  (λi s st=>⟨_,st.1,rfl⟩) ⟨g3,g2,⟨_,g1,rfl,rfl⟩,bX g0⟩ (λb D=>?_) bB aK aK RQ PF (λi v q=>eQ q λn t _ e=>⟨_,_,e⟩) (λs5 lt m5 it5=>?_) (by rw[WD];decide))
 .rw [show({s4 with heap:=((s4.heap.push {cls:=ak "list_iterator",data:=bH #[R l,ah 0 0]}).push (cU [R s4.heap.objs.size] 0)).push (zg (s4.heap.objs.size+1))}:ae).heap.objs.size=s4.heap.objs.size+3 from hsz];apply tI D
  .show jb _
  .show kV (jb _)
  .show kV (kV (jb _))
  .show kV (kV (kV hll))
 have jA:lt.map (·.1)=bs.map λb=>strN (YT b):=by
  show eX it5 λq1 q2=>?_;have ahP:lt.length=8:=by rw[WD]at q1;simpa[As] using q1
  apply EF;intro j;by_cases hj:j<8
  .have e1:(As lt).toArray[j]? =O (cI (lt[j]'au).1 (lt[j]'au).2):=by simp[As,ahP,hj]
   show eQ (q2 j _ e1) λm tk h3 h4=>?_;rw[hbs,cY]at h3;show bh (jc.mp h3) λbb h5 h6=>?_;rw[cY,cY,h5,dE au];injection h4 with h4 _
   simp only[Option.map_some,h4,<-h6]
  .rw [rn jQ,rn jQ]
 rw[jA];show⟨YV bs au,λt6 k6=>?_⟩;have e46:dz H s {s5 with toks:=k6}:=by
  show⟨?_,m5.os.trans e4.os,m5.drawn.trans e4.drawn,?_⟩
  .have x4:hJ H s.heap s4.heap:=e4.ext;have keep:∀b o,s4.heap.get? b=O o->s5.heap.get? b=O o:=λb o e=>m5.heap b o (λq=>by simp at q;show absurd (cn e) (by rw[q];show gx _)) (a8 _ (a8 _ (a8 _ e)))
   show x4.trans (.of_keep keep)
  .show Eq.trans m5.gens e4.gens
 have E:Txt.join "" (bs.map λb=>strN (YT b))=⟨(bs.map xl).toArray⟩:=by rw[<-YU];show StrLaws.glued_eq_join "" _
 rw[E];show cx (Lake.T.wcI (aR (H:=H) (U:=s.heap) (fr:=N) 2 (r.ext e46.ext)) λt7 s7 e7=>c8 (iG ⟨rfl,?_⟩));have aes:Es ⟨(bs.map xl).toArray⟩=bs.map xl:=by
  unfold Es;rw[if_pos];rw[U4];intro c hc;have hc:c∈bs.map xl:=by simpa using hc
  show bh (bG.mp hc) λbb _ qD=>?_;subst qD;cases bb<;>decide
 have Ϸ:Ar ⟨(bs.map xl).toArray⟩=bs.map xl:=by change(Es ⟨(bs.map xl).toArray⟩).takeWhile (· != 0)=_;rw[aes];show Hz bs
 have ako:(int_private% "readNumeral") 0 2 (Ar ⟨(bs.map xl).toArray⟩)=(int_private% "Numeral.value") (B7 bs:Nat):=by rw[Ϸ];apply ajp hbl;show Ϯ
 show cR (Ka F.called_int F.newNe_int (gu.2.2.2.2.2.2.2.2.2.2.1 _ _) (gu.2.2.2.2.2.2.2.2.2.2.2.1 _ _) (λobj=>gu.2.2.2.2.2.2.2.2.2.2.2.2.1 obj _ _) PySem.F.entry_int_new (PE (by rw[Ϸ];simp[hbl]) ako (by rw[Ϸ,aes];show beq_self_eq_true _)).meets ⟨rfl,⟨s7.toks,?_⟩,?_⟩)
 .change ah (B7 bs:Nat) _=ah (aj (wordAt ns k)) _;unfold wordAt;rw[ahO];rfl
 .show (e46.trans e7).trans (.toks _ _)
end
end
noncomputable def PH(U:aN):List ab:=(aI U.objs.size).filter λb=>(U.get? b).isSome && !(bY.contains b)
theorem B9{b:ab}:b∈PH U↔(∃o,U.get? b=O o)/\b∉bY:=by
 delta PH
 rw[gq,dm];constructor
 .rintro ⟨_,h⟩;simp only[qt,vg,T7,decide_eq_false_iff_not]at h;show⟨yo.mp h.1,h.2⟩
 .rintro ⟨⟨o,e⟩,h⟩;show⟨cn e,?_⟩;simp only[qt,vg,T7,decide_eq_false_iff_not];show⟨by rw[e];rfl,h⟩
def xn(ns:LN):zx:=λi v _ _=>∃tk,v=ah (aj (wordAt ns (8 * i))) tk
theorem xn.back(ns:LN):zx.Back (xn ns):=λ_ _ _ _ _ _ h=>h
theorem Nc(ns:LN):zx.DB (xn ns):=λ_ _ _ _ _ _ _ _ h=>h
theorem dz.keeps(x:dz [] s Y):Keeps s Y:=by obtain⟨h',g',d',t',o'⟩:=Y;obtain⟨h1,h2,h3,h4⟩:=x;subst h2;subst h3;subst h4;show kI h' t' Z<|λb o e=>if ht:b∈bY then h1.quiet b o ht (mX) e else h1.keep b o ht e
section
variable{b:ab}
theorem cA.kept(B:cA U mg mb)(k:∀b o,b∉bY->U.get? b=O o->h.get? b=O o):cA h mg mb where
 g:=B.g.at' λo e=>k _ o (DM Z) e
 b:=B.b.at' λo e=>k _ o (DM Z) e
 lim:=bh B.lim λmc wJ ZR=>ct mc (wJ.at' λo e=>k _ o (DM Z) e) ZR
 top:=dG B.top λo e=>⟨o,k _ o (DM Z) e⟩
 bmod:=l0 B.bmod λbm o e1 e2 e3 e4 e5=>ZX bm o e1 e2 e3 (k bm o e3 e4) e5
theorem PS.akp(p:PS H U L J s [] (S.map (·.1)) G S Y)(cB:zW U S s.heap)(hT:gi U)(x1:hJ H U s.heap):z8 H s Y where
 ext:=⟨λb o D e=>by
  by_cases hm:b∈S.map (·.1)
  .show bh (bG.mp hm) λy hy dX=>?_;subst dX;have:=(cB y hy).1;show aV (e.symm.trans this)▸(p.sg y hy).1
  .show p.mod.mod.keep b o (hm) D e,λb D ps e=>p.mod.mod.tab b D ps e,p.mod.mod.there,λb o D hq e=>by
  show dG (hT b D) λo1 e1=>?_;have:=x1.quiet b o1 D hq e1;obtain rfl:=aV (e.symm.trans this);show p.ext.quiet b o D hq e1⟩
 os:=p.mod.os
 drawn:=p.mod.drawn
 gens:=p.mod.gens
theorem YW{e1 e2 e3:aw}(B:cA U mg mb)(I:dQ mg mb)(kO:Gi L "range")(he1:V H U A L J G e1 (aT 0) af)(IV:cG e1=af)(he2:V H U A L J G e2 (aT k) af)(CF:cG e2=af)(he3:V H U A L J G e3 (aT c) af)(θ:cG e3=af)(hc:c≠0)(hp:Ff (aj k - 0) (aj c)=af)(hs:vh 0 (aj k) (aj c)=N)(hn:kZ 0 (aj k) (aj c)=(n:Int))(r:ER H U L J s.heap G):
 T A (aZ (bI (ar (aC "range") np) [e1,e2,e3] [] pos) J) s (λx aD=>T A (gm x) aD (λit aQ=>dz H s aQ/\Xc n (Gj (Dm 0 (aj c) n)) s it aQ)):=by
 show mC ("range") ("range") B I aK kO (rfl) (fJ.cons he1 (fJ.cons he2 (fJ.cons he3 fJ.nil θ) CF) IV) (by simp[dW,IV,CF,θ]) r λvs aD F e1 V1=>?_;apply Br V1;intro v v3 v5 G1 G3 G5 V2 V4 V6;apply bR.zI V2;show λt=>dG V4.toInt λt' dX=>dG V6.toInt λt'' qD=>dX▸qD▸call_range_3 (show aj c≠0 by intro q;show hc (VT q)) ?_ (ao hp);show DE (e1.trans ⟨.push _ _,rfl,rfl,rfl⟩) (vp ..) hs hn
theorem afy(hp:fd.params=fo HA)(hd:fd.defaults=aA)(v:aa):du fd ⟨[v],[]⟩=pure (([110].map NM).zip [v]):=by
 delta du
 show hp.symm▸hd.symm▸?_;rfl
end
section
variable{b:ab}
def acJ(U:aN)(f:Nat->bQ):Prop:=
 qT U 1984 (f 3) HA/\
 (f 3).defaults=aA/\
 (f 3).code=R 1983/\
 U.IsCode 1983 1979 #[]/\
 U.TableAt 1983 1979 #[]
protected theorem nW.size{a b:Array eS}(x:nW a b):a.size<=b.size:=by show bf (ml b.size a.size) (λh=>?_) λh=>h;have e:=x.1 b.size a[b.size] (yu h);rw[LH (ey _)]at e;cases e
theorem ϸ(hn:8 * (n+1)<=1000):Ff (aj (8 * (n+1)) - 0) (aj 8)=af/\vh 0 (aj (8 * (n+1))) (aj 8)=N/\kZ 0 (aj (8 * (n+1))) (aj 8)=((n+1:Nat):Int):=by
 have key:∀n,n<125->Ff (aj (8 * (n+1)) - 0) (aj 8)=af/\vh 0 (aj (8 * (n+1))) (aj 8)=N/\kZ 0 (aj (8 * (n+1))) (aj 8)=((n+1:Nat):Int):=by decide+kernel
 show key n au
theorem acK(B:cA U mg mb)(I:dQ mg mb)(X:(iD P t f).In U)(dA:acJ U f)(hT:gi U)(bM:A.depth<990)(pg:1979∉H)(ku:1979∈τ')(nO:∀b∈H,b∈τ')(x1:hJ H U s.heap)(cB:zW U S s.heap)(yU:∀y∈jk b dx d ns,y∈S)(hn:lY ns)(dM:ns.length=8 * (n+1))(Ab:∀x∈ns,x<2)(hq:∀Y a g aS Ia cl,z8 τ' s Y->s.gens.size<=g->(∀x∈[a,aS,Ia,cl],s.heap.get? x=ai/\x∉bY)->a≠aS->a≠Ia->kM Y.heap aS->kM Y.heap Ia->
 (∀A':ck,dh A'->lE A' a g aS (PH U++[b,dx,d,cl,Ia]) [Ia] (n+1) (xn ns) 0 Y)->Q (R a) Y):
 C A (call (R 1984) [R b]) s Q:=by
 show je dA λN1 N2 N3 N4 N5=>?_;have hP:1979∈bY:=by decide
 have hl:=hn.2;show hx (ϸ (n:=n) au) λhr1 hr2 hr3=>zy (S:=S) (avs:=[aX (R b)]) (us:=[R b]) (F:=[]) [110] B x1 au N1 Z Z Z (by rw[afy N1.params N2];show aB ⟨rfl,rfl⟩)
  (eg [] [] (.ir _) .nil) aK Z (by decide+kernel) cB λs2 bw p=>(?_:C _ (aU [bc (bo HA) 0,bc (bo HA) 1] _) s2 _)
 show p.s1 (S1.m (zY Z)) λs3 p3=>?_;have pe:=p3.akp cB hT x1;have hB:=p3.Hh yU hn;have r0:ER H U (bg HA) (gJ (f 3) bw 1984) s3.heap (qG [110] [aX (R b)]):=bh p3.fr λW r _=>r.er;have RJ:ed (bg HA) (uz Jv) [110] [92]:=ed.of (by decide+kernel);show iq (Lake.T.wx (P:=λg Y=>∃v,g=cL v/\Q v Y) (xE ?_) λg Y q=>bh q λv e hv=>by show e▸?_;show hv);show Jr (τ':=τ') (fs:=[110]) (K:=[92]) (P:=1979) B RJ Z (by decide+kernel) Z (by change A.depth+1<1000;lia) N3 aK N4 N5 hP pg ku nO r0
  (YW (H:=H) (U:=s3.heap) (k:=8 * (n+1)) (c:=8) (n:=n+1) (p3.base B) I (by rfl) (aR 0) Z (V.to (uI (p3.base B) I (by rfl) hB.dat hB.t3 hB.ok (V.data (x:=110) (jo X p3.ext) hB.obj hB.WV hB.t1 hB.t2 Z) Z) (by rw[dM])) Z (aR 8) Z aK hr1 hr2 hr3 p3.er) (λ_=>rfl) λit aQ cl code aS a hO e2 hIt jB g=>dU g λg1 g2 g3 g4 _ g6 g7 afs=>je afs λg8 g9 g10 g11 g12=>ct _ Z ?_
 obtain⟨Ia,St,rfl,hW,MX,hIn,ahQ⟩:=hIt;have Xd:∀i h,St i h->∃o,h.get? Ia=O o:=λi h st=>bh (ahQ i h st) λo e _=>⟨o,e⟩;have e2:dz H s3 aQ:=e2;have x2:hJ τ' s3.heap aQ.heap:=e2.ext.up nO;have ahR:∀x,aQ.heap.get? x=ai->s.heap.get? x=ai:=λx e=>pe.ext.new (e2.ext.new e);have Hm:∃o,aQ.heap.get? Ia=O o:=Xd _ _ MX;have hIC:Ia≠aS:=λq=>by obtain⟨o,e⟩:=Hm;rw[q,g8]at e;cases e
 have hIa:Ia≠a:=λq=>by obtain⟨o,e⟩:=Hm;rw[q,g9]at e;cases e
 have hIP:Ia≠1979:=λq=>by show dG (hT 1979 hP) λo e=>dG (r0.base.there _ o e) λo' e'=>?_;rw[<-q,hIn]at e';cases e'
 have hIT:Ia∉bY:=λq=>by show dG (hT _ q) λo e=>dG (r0.base.there _ o e) λo' e'=>?_;rw[hIn]at e';cases e'
 show gH p3.fr λW3 r3 hW3 _=>?_;obtain⟨Xl,ahS,⟨vc,afz⟩,afA,afB⟩:=r3.cell 110 Z;have afB:Xl∈W3:=by
  rcases afB with⟨av,q⟩|q
  .cases q
  .show q
 have akq:s.heap.get? Xl=ai:=by show bf (hW3 _ afB) (λq=>?_) λq=>q;cases q
 have afz:s3.heap.IsCell Xl (O (R b)):=by
  show eQ (r0.has 110 0 (aX (R b)) Z) λvs Fs akr hVs=>have evs:=hVs.DA;evs▸?_;rcases akr with⟨hl,_⟩|⟨_,c,hc,ht,hv⟩
  .rcases r0.Wh (NM 110) (ao Z) with q|q<;>rw[hl]at q<;>cases q
  .show aV (ahS.symm.trans hc)▸hv
 have ahT:∀x∈PH U++[b,dx,d,Xl,Ia],∃o,aQ.heap.get? x=O o:=λx E=>by
  rcases b9.mp E with q|q
  .obtain ⟨⟨o,e⟩,ht⟩:=B9.mp q;show⟨o,(r0.base.trans e2.ext).keep x o ht e⟩
  .apply Wb q
   .show e2.ext.there _ _ hB.obj
   .show e2.ext.there _ _ hB.WV
   .show e2.ext.there _ _ hB.dat
   .show bh afz λo e _=>e2.ext.there _ _ e
   .show Hm
 have Ws:aS∉PH U++[b,dx,d,Xl,Ia]:=λq=>by show dG (ahT aS q) λo e=>?_;rw[g8]at e;cases e
 have aks:∀x∈PH U++[b,dx,d,Xl,Ia],∃o,hO.heap.get? x=O o:=λx E=>dG (ahT x E) λo e=>g1.there x o e;have hgl:nW s3.gens hO.gens:=by rw[g6,e2.gens];show l6.sh Z (.refl _ _)
 show hq hO a aQ.gens.size aS Ia Xl ⟨(pe.ext.up nO).trans (x2.trans g1),g2.trans (e2.os.trans pe.os),g3.trans (e2.drawn.trans pe.drawn),hgl.trans pe.gens⟩ (by show(e2.gens)▸?_;show p3.mod.gens.size) (λx E=>?_) g10 (eO hIa) ?_ ?_ λA' RH=>?_
 .apply tI E
  .show ⟨ahR _ g9,g12⟩
  .show ⟨ahR _ g8,g11⟩
  .show ⟨pe.ext.new hIn,hIT⟩
  .show ⟨akq,afA⟩
 .show tH g7 λo es ep e q _=>ct o e (aH (ao ⟨es,ep,q⟩))
 .show bh (ahQ _ _ MX) λo e q=>ct o (g4 Ia o hIP e) q
 show lE.made (A:=A') (x:=92) (n:=n) (xn.back ns) g RH hW MX Xd hIP (B.zo ((r0.base.up nO).trans (x2.trans g1))) Z Z Z bB Ws aks ?_;intro A2 i v s6 m6 hA2 hv hnm hm hk;obtain⟨k,tk,hk1,rfl⟩:=hv;show eX (o6.mp hk1) λhi Wm=>?_;have Wm:k=aj (8 * i):=by have e8:aj 8=(8:Int):=rfl;rw[e8]at Wm;show((rfl:aj (8 * i)=((8 * i:Nat):Int)))▸?_;lia
 subst Wm;have Ϲ:∀x o,x∈PH U++[b,dx,d,Xl,Ia]->x∉bY->s3.heap.get? x=O o->s6.heap.get? x=O o:=λx o E ht e=>hk x E (λq=>by have q:=bJ.mp q;rw[q,hIn]at e;cases e) o (g1.keep x o ht (x2.keep x o ht e))
 have aet:∀x o,x∉bY->U.get? x=O o->s6.heap.get? x=O o:=λx o ht e=>Ϲ x o (dc _ (B9.mpr ⟨⟨o,e⟩,ht⟩)) ht (r0.base.keep x o ht e);have akt:s6.heap.IsCell Xl (O (R b)):=bh afz λo e q=>(ct o (Ϲ Xl o bB afA e) q);have r6:ER [] s6.heap (uz Jv) (genEnv (uz Jv) cl aS code fY (gJ (f 3) bw 1984)) s6.heap (putAll (lB (qG [110] [aX (R b)]) [110]) [92] [aj (8 * i)]):={
  base:=.refl _
  kind:=RJ.kind
  gl:=λy hy=>hy
  Wh:=λy hy=>hy
  glob:=N1.glob
  bi:=rfl
  loc:=g11
  has:=λy k av e=>by
   rcases Dq (K:=[92]) (ks:=[aj (8 * i)]) Z e with⟨j,i',h1,h2,rfl,_⟩|⟨h1,h2⟩
   .cases j with
    |zero=>simp at h1 h2;show h1▸h2▸kI _ [] (ao ⟨RJ.locs 92 bB,m6,hnm,hm⟩) (.ofInt _ _)
    |succ j=>show nomatch h1
   .show eX (Gn h2) λh3 h4=>?_;obtain rfl:=bJ.mp h3;cases h4
    show kI (R b) [] (aH ⟨aH (RJ.frees 110 bB).1,Xl,?_,afA,akt⟩) (.ir _);change cl.lookup (NM 110)=O Xl;show(jB 110 bB)▸ahS}
 show(϶ (H:=[]) (k:=8 * i) (k1:=0) (k2:=0) hA2 (B.kept aet) I (λx o e=>aet x o (Pl P t f x o e) (X x o e)) ⟨Ϲ b _ bB hB.t1 hB.obj,Ϲ dx _ bB hB.t2 hB.WV,Ϲ d _ bB hB.t3 hB.dat,hB.t1,hB.t2,hB.t3,hB.ok⟩ r6 Z Z au Ab).mono λy s7 q=>⟨q.1,q.2.keeps⟩
end
def lV(G:ig):Prop:=∀x k av,cq G x=O (k,av)->flat av=N
def ahU(G:ig):Bool:=G.all λy=>flat y.2.2
theorem lV.of(h:ahU G=N):lV G:=λx k av e=>by have:=BA e;show mW.mp h _ this
def ki(o:bj):Bool:=gc o ||(match o.data with
 |bU ..=>o.cls==ak "list"
 |_=>af)
section
variable{H:List ab}{U:aN}
theorem RU(e:h.get? a=O o)(hm:ki o=N):Cr h a\/kM h a:=by
 unfold ki at hm;show boC (gc o) (λq=>aH (rU e q)) λq=>?_;rw[q,Bool.false_or]at hm;cases d:o.data with
 |seq vs n=>
  rw[d]at hm;have:o.cls=ak "list" :=by simpa using hm
  show ao (ct o e (ao ⟨this,vs,n,d⟩))
 |_=>have hm:=d▸hm;show Ip (by assumption)
theorem Nd{v:Option aa}(hm:ki o=N)(e:o.data=oO v):False:=by unfold ki gc at hm;have hm:=e▸hm;show Ip (by assumption)
theorem FR.aku(r:FR H U U L J h G W)(hG:lV G)(x:hJ H U h')(keep:∀b o,b∉wr->b∉bY->h.get? b=O o->h'.get? b=O o)(hw:∀b∈wr,(∃o,h.get? b=O o/\ki o=N)/\b∉bY/\b∉W):FR H U U L J h' G W:=
 r.abH r.b1 x (λb hb' o e=>keep b o (λq=>(hw b q).2.2 hb') (r.jj b hb').2.1 e)
  (λc v ht x=>Bj (λo q=>⟨keep c o (λz=>bh (hw c z).1 λo' e' d'=>Nd d' (aV (q.1.symm.trans e')▸q.2)) ht q.1,q.2⟩) x)
  λy k av v F e aO=>aO.off (λb o hb' ht e'=>keep b o hb' ht e') (λb hb'=>bh (hw b hb').1 λo e1 e2=>RU e1 e2) _ _ _ λb hb'=>by rw[cV.1 _ _ _ (hG y k av e) aO]at hb';show kJ hb'
end
section
variable(H:List ab)(U:aN)
structure PL(L:c9)(J:cg)(aJ:ae)(bq bA:List ab)(G:ig)(S bw:Sg)(Gs:List (Nat×eS))(s:ae):Prop where
 fr:∃W,FR H U U L J s.heap G W/\(∀b∈W,b∈bq\/aJ.heap.get? b=ai)/\(∀p∈S,p.1∉W)/\∀p∈bw,p.1∉W
 sg:zW U S s.heap
 lg:∀p∈bw,s.heap.get? p.1=O p.2/\p.1∉bY/\aJ.heap.get? p.1=ai/\U.get? p.1=ai/\p.1∉S.map (·.1)
 mod:sy (bq++bA) aJ s
 lD:∀p∈S,p.1∈bA\/aJ.heap.get? p.1=ai
 gk:∀p∈Gs,s.gens[p.1]? =O p.2/\aJ.gens.size<=p.1
end
section
variable{H:List ab}{U:aN}
protected theorem PL.ps(p:PL H U L J aJ bq bA G S bw Gs s):PS H U L J aJ bq bA G S s:=⟨lZ p.fr λW r a b _=>(kH W r a b),p.sg,p.mod,p.lD⟩
protected theorem PS.pl(p:PS H U L J aJ bq bA G S s):PL H U L J aJ bq bA G S [] [] s:=⟨gH p.fr λW r a b=>(wB W r a b (zk)),p.sg,(zk),p.mod,p.lD,(zk)⟩
theorem PL.getL(p:PL H U L J aJ bq bA G S bw Gs s)(h:(a,o)∈bw):s.heap.get? a=O o:=(p.lg _ h).1
theorem PL.open(p:PL H U L J aJ bq bA G S bw Gs s):∃W,PS H U L J s W (S.map (·.1)) G S s/\
 ∀τ' G' S' Y,PS τ' U L J s W (S.map (·.1)) G' S' Y->PL τ' U L J aJ bq bA G' S' bw Gs Y:=by
 show lZ p.fr λW r h1 h2 h3=>ct W (⟨⟨W,r,λb D=>ao D,h2⟩,p.sg,.refl _ _,λx E=>ao (bG.mpr ⟨x,E,rfl⟩)⟩)<|λτ' G' S' Y q=>have D:=p.ps.back h1 q;gH q.fr λW' r' a1 a2=>?_;have kL:∀y∈bw,y.1∉W++S.map (·.1):=λy hy hm=>bf (b9.mp hm) (λe=>h3 y hy e) λe=>(p.lg y hy).2.2.2.2 e;show⟨(wB W' r' (λb hb'=>bf (a1 b hb') (λe=>h1 b e) λe=>aH (p.mod.mod.new e)) a2 (λy hy hw=>?_)),q.sg,λy hy=>?_,D.mod,D.lD,λy hy=>eX (p.gk y hy) λg1 g2=>⟨q.mod.gens.1 _ _ g1,g2⟩⟩
 .rcases a1 _ hw with e|e
  .show h3 y hy e
  .have e:=((p.lg y hy).1).symm.trans e;ext
 .show je (p.lg y hy) λb1 b2 b3 b4 b5=>((XZ (q.mod.mod.keep _ _ (kL y hy) b2 b1) b2 b3 b4 (λhm=>?_)));show bh (bG.mp hm) λz hz e=>?_;rcases q.lD z hz with k|k
  .rw [e]at k;show b5 k
  .have k:=b1▸e▸k;ext
theorem PL.aeu(p:PL H U L J aJ bq bA G S bw Gs s)(hT:gi U)(keep:∀b o,b∉X->s.heap.get? b=O o->Y.heap.get? b=O o)(os:Y.os=s.os)(drawn:Y.drawn=s.drawn)(gens:nW aJ.gens Y.gens)(hX:∀b∈X,∃o,(b,o)∈bw)(hL:∀y∈L',(y.1∈bw.map (·.1)\/s.heap.get? y.1=ai)/\Y.heap.get? y.1=O y.2)(hGs:∀y∈XX,Y.gens[y.1]? =O y.2/\aJ.gens.size<=y.1)(hf:∀W,FR H U U L J s.heap G W->(∀b∈X,b∉bY/\b∉W)->hJ H U Y.heap->FR H U U L J Y.heap G W):PL H U L J aJ bq bA G S L' XX Y:=by
 show lZ p.fr λW r h1 h2 h3=>?_;have hXn:∀b∈X,b∉bY/\aJ.heap.get? b=ai/\U.get? b=ai/\b∉S.map (·.1)/\b∉W:=λb D=>dG (hX b D) λo ho=>je (p.lg _ ho) λ_ b2 b3 b4 b5=>XZ b2 b3 b4 b5 (h3 _ ho);have x':hJ H U Y.heap:=by
  have x:=p.ps.ext;have hn:∀b o,U.get? b=O o->b∉X:=λb o e q=>by have e:=((hXn b q).2.2.1)▸e;ext
  show⟨λb o D e=>keep b o (hn b o e) (x.keep b o D e),λb D ps e=>dG (x.tab b D ps e) λmore e'=>⟨more,keep b _ (hn b _ e) e'⟩,λb o e=>dG (x.there b o e) λo' e'=>⟨o',keep b o' (hn b o e) e'⟩,λb o D hq e=>keep b o (hn b o e) (x.quiet b o D hq e)⟩
 have akv:∀b,s.heap.get? b=ai->b∉W:=λb e hw=>by show oU (r.jj b hw) λ_ _ o e' _=>?_;have e':=e▸e';ext
 show⟨(wB W (hf W r (λb D=>⟨(hXn b D).1,(hXn b D).2.2.2.2⟩) x') h1 h2 (λy hy=>?_)),λy hy=>iM (p.sg y hy) λc1 c2 c3 c4=>rO (keep _ _ (λq=>(hXn _ q).2.2.2.1 (bG.mpr ⟨y,hy,rfl⟩)) c1) c2 c3 c4,λy hy=>?_,⟨⟨λb o D ht e=>?_,λb D ps e=>dG (p.mod.mod.tab b D ps e) λmore e'=>⟨more,keep b _ (λq=>(hXn b q).1 D) e'⟩,λb o e=>dG (p.mod.mod.there b o e) λo' e'=>⟨o',keep b o' (λq=>by rw[(hXn b q).2.1]at e;ext) e'⟩⟩,os.trans p.mod.os,drawn.trans p.mod.drawn,gens⟩,p.lD,hGs⟩
 .show bf ((hL y hy).1) (λe=>bh (bG.mp e) λz hz e=>e▸h3 z hz) λe=>akv _ e
 .show ⟨(hL y hy).2,?_⟩;show bf ((hL y hy).1) (λe=>bh (bG.mp e) λz hz e=>e▸(p.lg z hz).2) λe=>?_;show rO (λq=>?_) (p.mod.mod.new e) (p.ps.ext.new e) (λq=>?_)
  .show dG (hT _ q) λo e1=>(dG (p.ps.ext.there _ o e1) λo' e2=>?_);have e2:=e.symm.trans e2;ext
  .show bh (bG.mp q) λz hz e1=>?_;have e:=((p.sg z hz).1)▸e1.symm▸e;ext
 .show keep b o (λq=>?_) (p.mod.mod.keep b o D ht e);rw[(hXn b q).2.1]at e;ext
theorem PL.move(p:PL H U L J aJ bq bA G S bw Gs s)(hG:lV G)(hT:gi U)(keep:∀b o,b∉X->s.heap.get? b=O o->Y.heap.get? b=O o)(os:Y.os=s.os)(drawn:Y.drawn=s.drawn)(gens:nW aJ.gens Y.gens)(hX:∀b∈X,∃o,(b,o)∈bw/\ki o=N)(hL:∀y∈L',(y.1∈bw.map (·.1)\/s.heap.get? y.1=ai)/\Y.heap.get? y.1=O y.2)(hGs:∀y∈XX,Y.gens[y.1]? =O y.2/\aJ.gens.size<=y.1):PL H U L J aJ bq bA G S L' XX Y:=
 p.aeu hT keep os drawn gens (λb D=>bh (hX b D) λo ho _=>⟨o,ho⟩) hL hGs λ_ r hn x'=>r.aku hG x' (λb o D _ e=>keep b o D e) λb D=>bh (hX b D) λo ho hm=>⟨⟨o,(p.lg _ ho).1,hm⟩,hn b D⟩
end
def jq:bT:=cS 22
theorem Ac{q:aY}{Q:b8->ae->Prop}(hs:fu e (O (ar (NM x) q)) pos.line J=pure af)(he:C A (aZ e J) s (λv aD=>C A (Aq J (NM x) v) aD (λ_ Y=>Q cJ Y))):C A (mV (fE [ar (NM x) q] e pos) J) s Q:=by rw[TB J (NM x) q e pos hs];show C.bind (C.standAt (C.bind (he.mono λv aD U=>C.bind (C.standAt (C.bind (C.bindName (U.mono λ_ _ kq=>C.pure kq)))))))
section
variable{Q:b8->ae->Prop}{b:ab}
theorem HC(x:kM h a)(e:h.get? a=O o):gc o=N:=by
 show bh x λo' e' hd=>aV (e.symm.trans e')▸?_
 delta gc
 rcases hd with⟨ws,d,hn⟩|⟨es,n,d⟩|⟨bs,n,d⟩|d<;>rw[d]
 change(match ws[1]? with|some (cI _ _)=>af |_=>N)=N;cases q:ws[1]? with
 |none=>rfl
 |some u=>cases u<;>first|rfl|show absurd q (hn _ _)
theorem HD(h:gc o=N):ki o=N:=by delta ki;rw[h];rfl
theorem lE.later{F:zx}(x:lE A a g aS fp wr n₀ F j s)(xh:cE∈fp)(hk:∀b∈a::aS::fp,∀o,s.heap.get? b=O o->Y.heap.get? b=O o)(hg:∀gs,s.gens[g]? =O gs->Y.gens[g]? =O gs):lE A a g aS fp wr n₀ F j Y where
 gen:=eY x.gen λo nm qn ho r=>Bm o nm qn (hk a (cQ ..) o ho) r
 lim:=bh x.lim λmc wJ ZR=>ct mc (wJ.at' λo e=>hk cE (bZ _ (bZ _ xh)) o e) ZR
 there:=λb D=>dG (x.there b D) λo e=>⟨o,hk b (bZ _ D) o e⟩
 go:=bh x.go λgs QC Pp=>ct gs (hg gs QC) (λmF Dz=>Pp mF λb D o e=>Dz b D o (hk b (bZ _ D) o e))
def Ϻ(U:aN)(ns:LN)(b dx d a:ab)(g:Nat)(aS Ia cl:ab)(n:Nat)(oa oC oI RV:bj)(gs:eS):Prop:=
 ∀s:ae,(∀x o,x∉bY->U.get? x=O o->s.heap.get? x=O o)->(∀y∈[(a,oa),(aS,oC),(Ia,oI),(cl,RV)],s.heap.get? y.1=O y.2)->(∀y∈jk b dx d ns,s.heap.get? y.1=O y.2)->
  s.gens[g]? =O gs->∀A':ck,dh A'->lE A' a g aS (PH U++[b,dx,d,cl,Ia]) [Ia] n (xn ns) 0 s
theorem ahV{k1:Nat}(hh:dh A)(B:cA U mg mb)(I:dQ mg mb)(X:(iD P t f).In U)(dA:acJ U f)(hT:gi U)(bM:A.depth<900)(pg:1979∉H)(ku:1979∈τ')(nO:∀b∈H,b∈τ')(p:PS H U (bg jq) J aJ bq bA G S s)(dH:bW G 71=N)(h82:cq G 82=O (k1,aX (R b)))(yU:∀y∈jk b dx d ns,y∈S)(hn:lY ns)(dM:ns.length=8 * (n+1))(Ab:∀x∈ns,x<2)(kk:∀Y a g aS Ia cl oa oC oI RV gs,a≠aS->a≠Ia->ki oC=N->ki oI=N->Ϻ U ns b dx d a g aS Ia cl (n+1) oa oC oI RV gs->
 PL τ' U (bg jq) J aJ bq bA (jm G 71 0 (aX (R a))) S [(a,oa),(aS,oC),(Ia,oI),(cl,RV)] [(g,gs)] Y->C A (aU rest J) Y Q):
 C A (aU (bc (bo jq) 1::rest) J) s Q:=by
 show gH p.fr λW r hW hd=>iq<|Ac (x:=71) Z<|Hr X p (aq 82 h82) yU hn acs ϐ Z dA.1 Z Z Z λs1 e1=>have p1:=p.grow e1;B2 ⟨⟨H,p1.ext⟩,?_⟩;show acK (H:=H) (τ':=τ') (S:=S) (n:=n) B I X dA hT au pg ku nO p1.ext p1.sg yU hn dM Ab λs5 a g aS Ia cl e5 hg5 nN DD haI hC hI zd=>?_;have ahW:∀x∈[a,aS,Ia,cl],s.heap.get? x=ai:=λx E=>e1.ext.new (nN x E).1;have U':∀x∈[a,aS,Ia,cl],x∉W:=λx E hw=>by show dG ((λb hb'=>bh (r.jj b hb').2.2 λo e _=>⟨o,e⟩:∀b∈W,∃o,s.heap.get? b=O o) x hw) λo e=>?_;have e:=(ahW x E).symm.trans e;ext
 show Lake.T.wc2 (kb (((r.grow e1.ext).up nO).grow e5.ext) (ao Z) dH (.ir (R a)) (.flat Z)) λ_ s6 r6 m6=>eY ((zd A hh).gen) λoa _ _ ea _=>bh hC λoC eC dC=>bh hI λoI eI dI=>dG ((zd A hh).there cl bB) λRV ecl=>bh ((zd A hh).go) λgs QC _=>?_;have aev:∀y∈[(a,oa),(aS,oC),(Ia,oI),(cl,RV)],s5.heap.get? y.1=O y.2/\y.1∈[a,aS,Ia,cl]:=λy hy=>by
  apply tI hy
  .show ⟨ea,by ext⟩
  .show ⟨eC,by ext⟩
  .show ⟨eI,by ext⟩
  .show ⟨ecl,by ext⟩
 show kk s6 a g aS Ia cl oa oC oI RV gs DD haI (HD (HC (ct oC eC dC) eC)) (HD (HC (ct oI eI dI) eI)) (λs2 k1 k2 k3 k4 A' RH=>?_) ?_
 .show (zd A' RH).later (dc _ (B9.mpr ⟨?_,DM Z⟩)) (λx E o e=>?_) λWZ e=>by replace e:=QC▸e;show e▸?_;show k4
  .show bh B.lim λmc i1 _=>eY i1 λo _ _ e _=>⟨o,e⟩
  have inL:∀x o,x∈[a,aS,Ia,cl]->s5.heap.get? x=O o->s2.heap.get? x=O o:=λx o E=>by
   apply tI E<;>intro e
   .show aV (ea.symm.trans e)▸k2 (a,oa) bB
   .show aV (eC.symm.trans e)▸k2 (aS,oC) bB
   .show aV (eI.symm.trans e)▸k2 (Ia,oI) bB
   .show aV (ecl.symm.trans e)▸k2 (cl,RV) bB
  have inB:∀y∈jk b dx d ns,∀o,s5.heap.get? y.1=O o->s2.heap.get? y.1=O o:=λy hy o e=>hx (p1.sg y (yU y hy)) λc1 c2 _=>(aV ((e5.ext.keep _ _ c2 c1).symm.trans e)▸k3 y hy);rcases bu.mp E with q|E
  .show inL x o bB e
  rcases bu.mp E with q|E
  .show inL x o bB e
  rcases b9.mp E with q|E
  .obtain ⟨⟨o',e'⟩,ht⟩:=B9.mp q;show aV ((((p1.ext.up nO).trans e5.ext).keep _ _ ht e').symm.trans e)▸k1 x _ ht e'
  .revert e
   apply Wb E<;>intro e
   .show inB (b,qS dx d) (by delta jk;ext) o e
   .show inB (dx,iA) (by delta jk;ext) o e
   .show inB (d,kB ns) (by delta jk;ext) o e
   .show inL cl o bB e
   .show inL Ia o bB e
 .have p5:=(p1.up nO).Xe e5;show⟨(wB W r6 hW hd (λy hy=>U' _ (aev y hy).2)),p5.sg.mod m6.mod hd,λy hy=>?_,p5.mod.trans m6.p λx E=>bf (hW x E) (λq=>ao (dc _ q)) λq=>aH q,p.lD,λy hy=>?_⟩
  .show eX (aev y hy) λh1 h2=>eX (nN _ h2) λn1 n2=>have n3:=ahW _ h2;XZ ((λx o E ht e=>m6.mod.keep x o E ht e) _ _ (U' _ h2) n2 h1) n2 (p.mod.mod.new n3) (p.ext.new n3)<|λhm=>bh (bG.mp hm) λz hz e=>?_;have n3:=((p.sg z hz).1)▸e.symm▸n3;ext
  .apply jT hy;show⟨m6.gens▸QC,ba p.mod.gens.size (ba ?_ hg5)⟩;rw[e1.gens];show ey _
end
noncomputable def jr(vs:List aa):bj:={cls:=ak "list",data:=bU vs.toArray}
section
variable{Q:b8->ae->Prop}{b:ab}
theorem PL.store(p:PL H U L J aJ bq bA G S bw Gs s)(E:Hx L x)(dH:bW G x=N)(aO:bR s.heap av v []):
 T A (Aq J (NM x) v) s (λ_ Y=>PL H U L J aJ bq bA (jm G x 0 av) S bw Gs Y):=bh p.open λW ps back=>bh ps.fr λW' r hW=>(kb r E dH aO (.flat Z)).Cu λ_ Y r' m=>back _ _ _ _ (ps.step r hW m r' λd hd=>ao hd)
protected theorem PL.scope(p:PL H U L J aJ bq bA G S bw Gs s):J.scope=L:=bh p.fr λ_ r _=>r.scope
theorem PL.aew(p:PL H U L J aJ bq bA G S bw Gs s)(hG:lV G)(hT:gi U)(x:uh s.heap h'){dA:Sg}(hN:∀y∈dA,s.heap.get? y.1=ai/\h'.get? y.1=O y.2){tk:Nat}:
 PL H U L J aJ bq bA G S (dA++bw) Gs {s with heap:=h',toks:=tk}:=
 p.move hG hT (X:=[]) (λb o _ e=>x b o e) Z Z p.mod.gens (λb D=>kJ D) (λy hy=>by
  rcases b9.mp hy with q|q
  .show ⟨aH (hN y q).1,(hN y q).2⟩
  .show ⟨ao (bG.mpr (ct y q Z)),x _ _ (p.getL q)⟩) p.gk
theorem acL(hs:J.scope=bg jq):Ee (Z1 (bc (bo jq) 2)) (Iw (bc (bo jq) 2)) J=pure (O [NM 85,NM 86]):=by
 cases J
 dsimp at hs;subst hs;ext
theorem IW{mx:AV}(h:bW (jm G x 0 av) y=N):bW (jm G x 0 mx) y=N:=by
 unfold bW at h ⊢;rw[fH]at h ⊢;by_cases e:y=x
 .rw [if_pos e];rfl
 .rw [if_neg e]at h ⊢;show h
theorem ahX(hh:dh A)(hT:gi U)(p:PL H U (bg jq) J aJ bq bA G S bw Gs s)(hG:lV G)(h85:bW G 86=N)(h86:bW (jm G 86 0 tJ) 85=N)(kk:∀Y l1 l2,l1≠l2->(∀y∈bw,y.1≠l1/\y.1≠l2)->PL H U (bg jq) J aJ bq bA (jm (jm G 86 0 (aX (R l2))) 85 0 (aX (R l1))) S ((l1,jr [])::(l2,jr [])::bw) Gs Y->C A (aU rest J) Y Q):
 C A (aU (bc (bo jq) 2::rest) J) s Q:=by
 show iq (T.wx (P:=λg Y=>g=cJ/\∃l1 l2,l1≠l2/\(∀y∈bw,y.1≠l1/\y.1≠l2)/\PL H U (bg jq) J aJ bq bA (jm (jm G 86 0 (aX (R l2))) 85 0 (aX (R l1))) S ((l1,jr [])::(l2,jr [])::bw) Gs Y) ?_ λg Y q=>jy q.2 λl1 l2 h1 h2 h3=>by show q.1▸?_;show kk Y l1 l2 h1 h2 h3);show Assign_Tuple_swapped ?_ Z (acL p.scope);show Ej (E8 (Kf (E9 ⟨by decide,?_⟩)) Z);show E8 (Kf (E9 ⟨by decide,?_⟩)) Z;show E9 ⟨(by decide:2<=fc),?_⟩;have e1:(s.heap.push (jr [])).objs.size=s.heap.objs.size+1:=dD ..;show wpAny_unpackItems_tuple hh (items:=#[R s.heap.objs.size,R (s.heap.push (jr [])).objs.size]) ⟨_,bK _ Z,rfl,0,rfl⟩ λh' he=>?_;have up:=λb o e=>
  have e':=a8 ({cls:=ak "tuple",data:=bU ([R s.heap.objs.size,R (s.heap.push (jr [])).objs.size]:List aa).toArray}:bj) e
  he b o (fB (cn e')) e'
 have n1:s.heap.get? s.heap.objs.size=ai:=bF _;have n2:s.heap.get? (s.heap.push (jr [])).objs.size=ai:=by
  rw[e1];cases q:s.heap.get? (s.heap.objs.size+1) with
  |none=>rfl
  |some o=>show absurd (cn q) (j5.mpr (lQ _))
 have hL:∀y∈bw,y.1≠s.heap.objs.size/\y.1≠(s.heap.push (jr [])).objs.size:=λy hy=>by show⟨λq=>?_,λq=>?_⟩<;>(have:=p.getL hy;have this:=q▸this;first|(have this:=n1.symm.trans this;ext)|(have this:=n2.symm.trans this;ext))
 have p1:=p.aew (tk:=s.toks) (dA:=[(s.heap.objs.size,jr []),((s.heap.push (jr [])).objs.size,jr [])]) hG hT (λb o e=>up b o (a8 _ (a8 _ e))) λy hy=>by
  apply rY hy
  .show ⟨n1,up _ _ (a8 _ (bK _ Z))⟩
  .show ⟨n2,up _ _ (bK _ Z)⟩
 show ag<|cO<|Ec<|(p1.store (ao Z) h85 (.ir _)).wp λ_ s4 p4=>ag<|cO<|Ec<|(p4.store (ao Z) (IW h86) (.ir _)).wp λ_ s5 p5=>aB ⟨rfl,_,_,(by rw[e1];show(yl _).symm),hL,p5⟩
end
section
set_option backward.match.sparseCases true
noncomputable def nU(id:String)(v:aa):bj:={cls:=ak "builtin_function_or_method",data:=bH #[bx id,v]}
theorem Xm:lL "method_descriptor" "__get__" "method_descriptor.__get__" :=
 nt (owner:= "method_descriptor") (n:= "__get__") (rfl) (rfl) (rfl) (rfl)
  (by first|show ao (rfl)|show .inr (rfl)) (rfl)
theorem ϻ:gN table "method_descriptor.__get__" =O Builtin.«method_descriptor.__get__»:=me (rfl)
theorem acM(a:ab):rj (Builtin.«method_descriptor.__get__» ⟨[bx "list.append",R a,ak "list"],[]⟩) (λA aM s=>s.TypeIs (R a) "list" /\aM (cf (cL (R s.heap.objs.size))) {s with heap:=s.heap.push (nU "list.append" (R a))}):=
 rN λprog w A aM s hs=>by
  obtain⟨hp,g,d,tk,os⟩:=s;show eX hs λhT hs=>?_;rw[show Builtin.«method_descriptor.__get__» ⟨[bx "list.append",R a,ak "list"],[]⟩=Builtin.«method_descriptor.__get__#obj» ⟨[bx "list.append",R a],[]⟩ by ext];repeat (any_goals (first|assumption|wp_step))
  show fK sub_list_self ?_;show aB ?_;show ag (ij ?_ (by size_fits));show aB ⟨_,rfl,hs⟩
theorem PI(a:ab):abp (R a) (ak "list") "append" =abo (R a) "append" (O (bx "list.append")) (O (bx "method_descriptor.__get__")):=by ext
theorem xo(a:ab)(K:Array aa)(k:Nat)(sl:Array (Option aa))(u:aW):
 rj (Builtin.«object.__getattribute__» ⟨[R a,cI "append" u],[]⟩) (λA aM s=>s.heap.get? a=O {cls:=ak "list",dict:=ai,data:=bU K k,slots:=sl}/\aM (cf (cL (R s.heap.objs.size))) {s with heap:=s.heap.push (nU "list.append" (R a))}):=
 rN λprog w A aM s hs=>by
  obtain⟨hp,g,d,tk,os⟩:=s;show eX hs λE hs=>?_;have hT:(⟨hp,g,d,tk,os⟩:ae).TypeIs (R a) "list" :=⟨_,E,rfl⟩;have l2:=type_list_append;unfold Builtin.«object.__getattribute__»;repeat (any_goals (first|rw[PI]|assumption|wp_step))
  show xB Xm.plain ϻ (Xm.check _ _ _ _ _ _ _ _ l2 (gu.2.2.2.2.2.2.2.2.2.2.2.2.2.2.2.2.2 _ _ _) ?_);show acM a prog w A.in1 (λr Y=>match r with|cf (cL v)=>ax (aG prog w) A.in1 (ret v) (λzb Y=>∃v,zb=nr (cL v)/\aM (cf (cL v)) Y) (λe Y=>aM (kY e) Y) Y|cf _=>False|kY e=>aM (kY e) Y) _ ?_;show⟨hT,?_⟩;show aB ⟨_,rfl,hs⟩
theorem HE{K:Array aa}{sl:Array (Option aa)}{ex:Bool}(E:s.heap.get? a=O {cls:=ak "list",dict:=ai,data:=bU K k,slots:=sl})(h:∀tk,Q (R s.heap.objs.size) {s with heap:=s.heap.push (nU "list.append" (R a)),toks:=tk}):ax (aG prog w) A (getAttr (R a) "append" ex) Q a6 s:=by
 obtain⟨hp,g,d,tk,os⟩:=s;have hT:∀tk',(⟨hp,g,d,tk',os⟩:ae).TypeIs (R a) "list" :=λ_=>ct _ E Z;have f3:=Fj.lookup;have f4:=Fj.bind (R a);repeat (any_goals (first|assumption|show hT _|((with_reducible change ax _ _ (call (bx "list.__getattribute__") _ _) _ _ _);show qf Fj (hT _) S5 (Vk _ _) (xo a K k sl _) ⟨E,?_⟩)|wp_step))
 rw[if_neg (by cases ex<;>decide)];repeat (any_goals (first|assumption|show hT _|((with_reducible change ax _ _ (call (bx "list.__getattribute__") _ _) _ _ _);show qf Fj (hT _) S5 (Vk _ _) (xo a K k sl _) ⟨E,?_⟩)|wp_step))
 show aB (h _)
end
theorem HF:oz (.type "list") (.type "module")=pure af:=by ext
section
variable{Q:b8->ae->Prop}
theorem PL.er(p:PL H U L J aJ bq bA G S bw Gs s):ER H s.heap L J s.heap G:=p.ps.er
theorem PJ{l:ab}{q p1 p2:aY}(hT:gi U)(p:PL H U L J aJ bq bA G S bw Gs s)(hG:lV G)(hy:cq G y=O (k,.ptr (.ref l)))(hl:(l,br vs n)∈bw)(dH:bW G x=N)(E:Hx L x)(hs:fu (.Attribute (.Name (NM y) p1) "append" p2) (O (.Name (NM x) q)) pos.line J=pure af)(kk:∀Y m,(∀z∈bw,z.1≠m)->PL H U L J aJ bq bA (jm G x 0 (.ptr (.ref m))) S ((m,nU "list.append" (.ref l))::bw) Gs Y->C A (aU rest J) Y Q):
 C A (aU (.Assign [.Name (NM x) q] (.Attribute (.Name (NM y) p1) "append" p2) pos::rest) J) s Q:=by
 show iq<|Ac hs<|cR<|E7<|T.Dj (ui p.er hy)<|HE (p.getL hl) λtk=>?_;have p1:=p.aew (h':=s.heap.push (nU "list.append" (.ref l))) (tk:=tk) (dA:=[(s.heap.objs.size,nU "list.append" (.ref l))]) hG hT (λb o e=>a8 _ e) λy hy=>by apply jT hy;show⟨bF _,bK _ Z⟩
 show T.wx (p1.store E dH (.ir _)) λ_ s5 p5=>(kk s5 _ (λz hz q=>?_) p5);have:=cn (p.getL hz);rw[q]at this;show gx _ this
theorem a_{m:ab}{l:ab}{Q:aa->ae->Prop}:∀{s:ae} (hm:s.heap.get? m=O (nU "list.append" (.ref l))) (hl:s.heap.get? l=O (br vs n)) (hv:vs.length<=1000) (h:Q .none {s with heap:=s.heap.update l (dP (·.push v))}),ax (aG prog w) A (call (.ref m) [v]) Q a6 s:=λ{s} hm hl hv h=>by
 have hT:s.TypeIs (.ref l) "list" :=⟨_,hl,rfl⟩;show kU (xI ?_);show ag (iX hm ?_);change ax _ A.in1 (do checkBoundCall "list.append" ⟨[.ref l,v],[]⟩;return<-again (.builtin "list.append" ⟨[.ref l,v],[]⟩)) _ _ s;unfold checkBoundCall;have f1:=HF;obtain⟨hp,g,d,tk,os⟩:=s;repeat (any_goals (first|assumption|wp_step))
 show⟨AX _ bD,qe PySem.F.entry_list_append ?_⟩;change ax _ _ (updateSeq l (·.push v)>>=λ_=>ret .none) _ _ _;show ag (uT hl Z (aB h) (by have:fc=16777216:=jX;simp;lia) (by have:fc=16777216:=jX;simp;lia))
theorem b_{l:ab}(hl:h.get? l=O (br vs n)):∃n',(h.update l (dP (·.push v))).get? l=O (br (vs++[v]) n'):=by show⟨n+1,?_⟩;rw[gO _ hl Z];simp[br,dP]
theorem Xn{m l:Nat}{cpos:aY}(hT:gi U)(p:PL H U L J aJ bq bA G S bw Gs s)(hG:lV G)(E:cq G x=O (k,.ptr (.ref m)))(hm:(m,nU "list.append" (.ref l))∈bw)(hl:(l,br vs n)∈bw)(hv:vs.length<=1000)(dH:cG e=af)(hi:iI J=af)(hs:fu (.Call (.Name (NM x) np) [e] [] cpos) ai pos.line J=pure af)(he:∀W,PS H U L J s W (S.map (·.1)) G S s->C A (aZ e J) s (λv aD=>∃S',PS H U L J s W (S.map (·.1)) G S' aD/\
 ∀Y n',PL H U L J aJ bq bA G S' ((bw.filter λy=>y.1 != l)++[(l,br (vs++[v]) n')]) Gs Y->C A (aU rest J) Y Q)):
 C A (aU (.Expr (.Call (.Name (NM x) np) [e] [] cpos) pos::rest) J) s Q:=by
 show zX hi hs (fU (T.wcV (v9 p.er E) λfv F aO=>?_));apply bR.FX aO;show dg (by rw[l4 dH];rfl) ?_;rw[l4 dH];show bh p.open λW ps back=>ej<|cx<|(he W ps).mono λv s2 qQ=>bh qQ λS' p2 hk=>c8<|have q2:=back _ _ _ _ p2;have hm2:=q2.getL hm;have C':=q2.getL hl;cR<|ag<|iX hm2<|aB ⟨rfl,cR (a_ hm2 C' hv ⟨rfl,?_⟩)⟩;show dG (b_ (v:=v) C') λn' wt=>have YP:∀b o,b≠l->s2.heap.get? b=O o->(s2.heap.update l (dP (·.push v))).get? b=O o:=λb o D e=>(mi _ _ (eO D)).trans e;hk _ n' (q2.move hG hT (X:=[l]) (λb o D e=>YP b o (vw D) e) Z Z q2.mod.gens (λb D=>by have D:=bJ.mp D;show D▸?_;show ct _ hl Z) (λy hy=>?_) q2.gk)
 .rcases b9.mp hy with q|q
  .show eX (gq.mp q) λh1 h2=>⟨.inl (bG.mpr (ct y h1 Z)),YP _ _ (by simpa using h2) (q2.getL h1)⟩
  .apply jT q;show⟨.inl (bG.mpr (ct _ hl Z)),wt⟩
end
section
open PySem.Builtin PySem.Builtin.ObjectAttr
set_option maxHeartbeats 1000000
theorem acN(P:bS)(t:Nat->aW)(fd:bQ):∀a o,(za P t fd).lookup a=O o->a∉bY:=by
 intro a o e;have:∀x∈([135,60,134,59,123,126,129,124,127,130,43]:List ab),x∉bY:=by decide
 show this a (He e)
theorem Ca(X:(za P t fd).In h)(x:hJ H h h'):(za P t fd).In h':=λa o e=>x.keep a o (acN P t fd a o e) (X a o e)
theorem afC:(clsIn (za P t fd) 135).isSome=N:=by ext
theorem c_:mroIn (za P t fd) 135 (ak "tuple")=O N:=by ext
theorem ahY:iL (za P t fd) (R 135) "__getattribute__" =O (O (bx "tuple.__getattribute__")):=by ext
theorem ahZ:iL (za P t fd) (R 135) "__getattr__" =O ai:=by ext
theorem ah0:iL (za P t fd) (R 135) "num_blocks" =O (O (R 124)):=by ext
theorem ah1:iL (za P t fd) (R 135) "num_total" =O (O (R 127)):=by ext
theorem ah2:iL (za P t fd) (R 135) "num_data" =O (O (R 130)):=by ext
theorem ah3:yr (za P t fd) (R 124) "__get__" =O (O (R 43)):=by ext
theorem ah4:yr (za P t fd) (R 127) "__get__" =O (O (R 43)):=by ext
theorem ah5:yr (za P t fd) (R 130) "__get__" =O (O (R 43)):=by ext
theorem ah6:A6 (za P t fd) (R 124)=O N:=by ext
theorem ah7:A6 (za P t fd) (R 127)=O N:=by ext
theorem ah8:A6 (za P t fd) (R 130)=O N:=by ext
theorem ah9(n:aP):plainGet (za P t fd) 60 n=N:=by ext
section
variable{bp:mr}{x:ab}{ox:bj}{od:Option bj}{ϑ:Bool}
theorem YX:gN table "tuple.__getattribute__" =O Builtin.«object.__getattribute__»:=am_entry_tuple_getattribute
theorem d_:builtinKind "tuple.__getattribute__" =O aby:=by rfl
theorem YY:splitId "tuple.__getattribute__" =O ("tuple", "__getattribute__"):=by rfl
theorem YZ{x:ab}{nm:aa}{Q:Unit->ae->Prop}(L4:gQ M s.heap (rd (R x) (ak "tuple")) N)(q:Q () s):
 ax M A (sE "tuple.__getattribute__" ⟨[R x,nm],[]⟩) Q a6 s:=
 @LA M A a6 s "tuple.__getattribute__" "tuple" "__getattribute__" (R x) [nm] [] Q d_ YY L4 (PySem.F.args_tuple_getattribute_2 _ _) q
theorem e_{g a:aa}(X:bp.In s.heap)(I:InstAt s.heap x ox aS od)(hga:iL bp (R aS) "__getattribute__" =O (O (bx "tuple.__getattribute__")))(hgn:iL bp (R aS) "__getattr__" =O ai)(hm:mroIn bp aS (ak "tuple")=O N)(hf:findObj bp aS od name=O (abn g a))(h:T A.in1 (call g [a,R x,R aS]) {s with toks:=s.toks+1} (λv Y=>(∀id,v≠bx id)/\Q v Y)):
 T A (getAttr (R x) name ϑ) s Q:=by
 obtain⟨hh,gg,d,t,os⟩:=s;have L0:=I.type (M:=aG prog w);show ag<|wpAny_mkText<|cO<|ag<|L0.at<|ag<|(A4 (M:=aG prog w) X hga).at<|(?_:ax _ _ (if(onTheHeap (R aS) && ((bx "tuple.__getattribute__")==bx "object.__getattribute__"))=N then _ else _) _ _ _);show ag (m:=hookBefore (R aS))<|(A4 (M:=aG prog w) X hgn).at<|ag (sG (cO ?_))
 delta callGetattribute
 rw[if_neg (by cases ϑ<;>decide)];show ag<|fK (Vl.bind _)<|kU<|xB Vl.plain YX<|YZ (L0.andThen (Lz X hm))<|ag<|aB<|ag<|aB<|ag<|L0.at<|ag<|(looks_find (M:=aG prog w) X I hf).at<|ag (cO (gV h (λv Y z=>aB ?_) λ_ _ z=>z.elim));show(?_:ax _ _ (Et v) _ _ _);have:Et v=pure v:=by cases v<;>first|rfl|show absurd Z (z.1 _)
 show this.symm▸aB z.2
end
end
inductive Cb(h:aN)(i:ab)(ns:LN):Prop
 |mk (dx:ab) (t0 t1 t2:aW) (a b c:Nat) (e:ns=[a,b,c]) (hi:h.get? i=O {cls:=R 135,dict:=O dx,data:=bU #[ah (aj a) t0,ah (aj b) t1,ah (aj c) t2] 0}) (hd:h.get? dx=O iA) (hT:dx∉bY) (off:i∉bY)
section
variable{bp:mr}{x:ab}{ox:bj}{od:Option bj}{ϑ:Bool}
theorem f_:opaqueClassAbove (ak "tuple")=pure ai:=W.of_pureOf Z
theorem acO:Fe [] (ak "tuple") (ak "type") "__getitem__" =O (Mj (bx "tuple.__getitem__")):=by ext
theorem acP(h:aN):Frag.In [] h:=λa o e=>Bk e
theorem g_{nm:aP}{id:String}{pl:aE Bool}{Q:aa×List aa->ae->Prop}(hf:Fe [] (ak "tuple") (ak "type") nm=O (Mj (bx id)))(ho:Et (bx id)=pure (bx id))(h:Q (bx id,[]) {s with toks:=s.toks+1}):ax (aG prog w) A (Er (ak "tuple") nm pl) Q a6 s:=by
 have X:=acP s.heap;have L0:gQ (aG prog w) s.heap (xV (ak "tuple")) (ak "type"):=LG (by first|rfl|ext);have hg:iL [] (ak "type") "__getattribute__" =O (O (bx "type.__getattribute__")):=type_tga;show ag (ag (L0.here ((A4 X hg).here ?_)));dsimp only;show ag (gV (Q:=λv=>Q (v,[])) (E:=a6) ?_ (λ_ _ z=>aB z) λ_ _ z=>z);show cls_open X (LG f_) L0 hg (looks_hook X (r:=ai) (rfl)) (by rfl) hf
  (aB (by change ax _ _ (Et (bx id)) _ _ _;rw[ho];show aB h))
theorem Y0{x:ab}{nm:aa}{Q:Unit->ae->Prop}(L4:gQ M s.heap (rd (R x) (ak "tuple")) N)(q:Q () s):
 ax M A (sE "tuple.__getitem__" ⟨[R x,nm],[]⟩) Q a6 s:=
 @LA M A a6 s "tuple.__getitem__" "tuple" "__getitem__" (R x) [nm] [] Q (rfl) (rfl) L4 (PySem.F.args_tuple_getitem_2 _ _) q
theorem Y1(a:ab)(c:aa)(dd:Option ab)(sl:Array (Option aa))(K:Array aa)(n:Nat)(k:Nat)(t:aW)(v:aa)(hk:K[k]? =O v)(hk2:k<=1000)(hsi:rg (aj k) K.size=O k):
 rj (Builtin.«tuple.__getitem__» ⟨[R a,ah (aj k) t],[]⟩) (λA aM s=>s.heap.get? a=O {cls:=c,dict:=dd,data:=bU K n,slots:=sl}/\aM (cf (cL v)) s):=
 rN λprog w A aM s hs=>by
  obtain⟨hp,g,d,tk,os⟩:=s;show eX hs λE hs=>?_;have hii:=PySem.int_index;repeat (any_goals (first|assumption|wp_step))
  rw[(decide_eq_false au),(decide_eq_false au),if_neg aK];change ax _ _ (match (rg (aj k) K.size).bind λx=>K[x]? with
   |some x=>ret x
   |none=>do
    sO "tuple.getitem.out-of-range"
    raiseErrorWords "IndexError" "tuple index out of range") _ _ _
  rw[(by rw[hsi];show hk:(rg (aj k) K.size).bind (K[·]?)=O v)];show aB (ct v Z hs)
end
theorem oZ.isNone{p2:aY}(he:V H U A L J G e (aX (R a)) af):oZ H U A L J G (j0 e [CmpOp.Is] [gn yt k p2] pos) af:=λs r=>by show uQ ((he r).Z7 λaD e1=>Tt ?_) Z;show is_none (l9 ⟨e1,rfl⟩)
theorem oZ.call{f:aw}{args:List aw}{b:Bool}(he:V H U A L J G (bI f args [] pos) (fG b) af):oZ H U A L J G (bI f args [] pos) b:=λs r=>isTrue_plain<|(he r).tN λv Y F e aO _=>aO.toBool.symm▸l9 ⟨e,rfl⟩
def t9(mg mb:aP->Option aa):Prop:=∀p∈[("type",ak "type"),("issubclass",bx "issubclass")],mg (aC p.1)=ai/\mb (aC p.1)=O p.2
theorem Y2{nm:String}(B:cA U mg mb)(kO:L.names.lookup (aC nm)=O kX)(h1:mg (aC nm)=eU)(h2:mb (aC nm)=O v)(hd:(aC nm==("__debug__" :aP))=af):
 V H U A L J G (ar (aC nm) np) (aX v) fr:=λs r=>
 (ez B r kO h1 h2 hd).Cu λf aJ e0 hf=>e0▸hf▸oY [] (.refl _) (.ir _) d9
theorem Xp{prog:u5}{w:fz}(X:(za P t fd).In h):gQ (aG prog w) h (oz (R 135) (ak "tuple")) N:=Lz X c_
theorem PK(P:bS)(t:Nat->aW)(fd:bQ):rj (uW.«issubclass» ⟨[R 135,ak "tuple"],[]⟩) (λ_ aM s=>(za P t fd).In s.heap/\aM (cf (cL (dB N))) s):=λprog w A aM s hs=>issubclass_outer (by show eX hs λX hs=>?_;obtain⟨hp,g,d,tk,os⟩:=s;have bw:=Xp (prog:=prog) (w:=w) X;have E:=X 135 _ Z;repeat (any_goals (first|assumption|(show bw.at ?_)|(show ag (bw.at ?_))|wp_step)))
theorem h_{nm:String}{cv:aa}(B:cA U mg mb)(kO:L.names.lookup (aC nm)=O kX)(h1:mg (aC nm)=ai)(h2:mb (aC nm)=O cv)(hd:(aC nm==("__debug__" :aP))=af)(r:ER H U L J s.heap G)(hq:∀aJ,aJ=s->ax (aG prog w) A (xQ pos cv [] (jI pos (iY (e::es) J)) []) Q NoE aJ):T A (aZ (bI (ar (aC nm) np) (e::es) [] pos) J) s Q:=ma<|(ez B r kO h1 h2 hd).Dj<|hq _ Z
theorem Y3{i:ab}(B:cA U mg mb)(I2:t9 mg mb)(kO:Gi L "type")(hE:Cb U i ns)(he:V H U A L J G e (aX (R i)) af)(dH:cG e=af):
 V H U A L J G (bI (ar (aC "type") np) [e] [] pos) (aX (R 135)) fr:=λs r=>by
 have hI:=I2 ("type",ak "type") aK;show h_ B kO hI.1 hI.2 (rfl) r λaJ e0=>?_;subst e0;show A1 ((fJ.cons he fJ.nil dH aJ pos r).QM λvs aD F1 e1 V1=>?_) (dp dH _ _) Z;apply vB V1;show og λgG kG=>?_;obtain⟨dx,t0,t1,t2,x,y,z,_,hi,_,_,off⟩:=hE;obtain⟨hp,g,d,tk,os⟩:=aD;show kG ?_;clear kG gG;show call_type_obj ((r.base.trans e1.ext).keep _ _ off hi) Z (oY [] e1 (.ir _) d9)
theorem i_{e1 e2:aw}(B:cA U mg mb)(I2:t9 mg mb)(X:(za P t fd).In U)(kO:Gi L "issubclass")(he1:V H U A L J G e1 (aX (R 135)) af)(IV:cG e1=af)(he2:V H U A L J G e2 (aX (ak "tuple")) af)(CF:cG e2=af):
 V H U A L J G (bI (ar (aC "issubclass") np) [e1,e2] [] pos) (fG N) fr:=λs r=>by
 have hI:=I2 ("issubclass",bx "issubclass") aK;show h_ B kO hI.1 hI.2 (rfl) r λaJ e0=>?_;subst e0;show yq ((fJ.cons he1 (fJ.cons he2 fJ.nil CF) IV aJ pos r).QM λvs aD F1 x1 V1=>?_) (dp IV _ _) (by rw[l4 CF];rfl);apply nH V1;intro v v3 G1 G3 V2 V4;apply bR.FX V2;apply bR.FX V4;show call_issubclass (PK P t fd) ⟨Ca X (r.base.trans x1.ext),x1,[],.ofBool _,d9⟩
theorem uu{o:aw}{apos:aY}{args:List aw}(xj:uU o name J (aZ o J)=aZ o J)(ϩ:J2 (args.length+([]:List Aw).length) (jI pos (iY args J)) (backToKw pos (Kd [] J))=N)(lA:(apos.endLine==pos.line)=N)(h:ax M A (aZ o J) (λov aD=>∀pl,ax M A (Er ov name pl) (λfx aQ=>ax M A (xQ pos fx.1 fx.2 (jI pos (iY args J)) []) Q a6 aQ) a6 aD) a6 s):
 ax M A (aZ (bI (iJ o name apos) args [] pos) J) Q a6 s:=by
 rw[arm_eval_Call,xj];show ag (gV h (λov aD U=>ag (jW ?_)) λ_ _ x=>x)
 delta methodCall
 show ϩ.symm▸ag (cO (gV (U _) (λfx aQ kq=>?_) λ_ _ x=>x));show ag (fK (by delta methodCallPos;simp[lA]) kq)
theorem RW{ga dx:Nat}{tk:aW}{od:bj}(X:(za P t fd).In U)(h1:(za P t fd).lookup ga=O (N8 dx))(h2:(za P t fd).lookup dx=O od)(h3:findObj (za P t fd) 60 (O od) "index" =O (VG (ah (aj j) tk)))(E:cq G x=O (k,aX (R ga))):V H U A L J G (iJ (ar (NM x) np) (aC "index") pos) (aT j) fr:=λs r=>by show E7<|T.Dj (ui r E)<|have Xs:=Ca X r.base;get_value Xs ⟨Xs _ _ h1,rfl,rfl,Xs _ _ h2⟩ (A5 (ah9 "index")).1 h3 Z (oY [] (.toks _ _) (.ofInt _ _) d9)
theorem acQ{z v:Nat}(t0 t1 t2:aW):∀{j:Nat},[x,y,z][j]? =O v->∃tv,(#[ah (aj x) t0,ah (aj y) t1,ah (aj z) t2]:Array aa)[j]? =O (ah (aj v) tv)/\j<3/\rg (aj j) 3=O j
 | 0,h=>kH t0 (congrArg (λv:Nat=>O (ah (aj v) t0)) (aV h)) bz Z
 | 1,h=>kH t1 (congrArg (λv:Nat=>O (ah (aj v) t1)) (aV h)) bz Z
 | 2,h=>kH t2 (congrArg (λv:Nat=>O (ah (aj v) t2)) (aV h)) bz Z
 |_+3,h=>Bk h
theorem Y4{e1 e2:aw}{i:ab}{v:Nat}{ap:aY}(B:cA U mg mb)(I:dQ mg mb)(X:(za P t fd).In U)(hE:Cb U i ns)(hj:ns[j]? =O v)(kO:Gi L "tuple")(he1:V H U A L J G e1 (aX (R i)) af)(IV:cG e1=af)(he2:V H U A L J G e2 (aT j) af)(CF:cG e2=af)(lA:(ap.endLine==pos.line)=N):
 V H U A L J G (bI (iJ (ar (aC "tuple") np) (aC "__getitem__") ap) [e1,e2] [] pos) (aT v) fr:=λs r=>by
 have hI:=I ("tuple",ak "tuple") aK;show uu Z (by rw[HB IV CF];rfl) lA<|(ez B r kO hI.1 hI.2 (rfl)).Dj<|λpl=>g_ acO Z<|have r':ER H U L J ({s with toks:=s.toks+1}:ae).heap G:=r;UW (by rw[HB IV CF];rfl) ?_;have:=fJ.cons he1 (fJ.cons he2 fJ.nil CF) IV {s with toks:=s.toks+1} pos r';rw[dp IV]at this ⊢;show LD (this.QM λvs aD F1 x1 V1=>?_);apply nH V1;intro v0 v3 G1 G3 V2 V4;apply bR.FX V2;apply bR.zI V4;intro tk;show og λgG kG=>?_;obtain⟨dx,t0,t1,t2,x,y,z,dX,hi,_,_,off⟩:=hE;show kG ?_;clear kG gG;subst dX;have xx:=r.base.trans (show hJ H s.heap aD.heap from x1.ext);have hi1:=xx.keep _ _ off hi;show gH (acQ t0 t1 t2 hj) λtv hv hj3 hsi=>kU<|xB Vm.plain PySem.F.entry_tuple_getitem<|Y0 (((Fg hi1).andThen vm).andThen (Xp (Ca X xx)))<|Y1 i (R 135) (O dx) #[] _ 0 j tk _ hv (ba (gy hj3) bz) hsi prog w A (wants _ _) aD<|⟨hi1,(show dz H s {s with toks:=s.toks+1} from .toks _ _).trans x1,[],.ofInt _ _,d9⟩
def DW(U:aN)(P:bS)(t:Nat->aW)(fd:bQ):Prop:=
 (za P t fd).In U/\
 qT U 43 fd tgM/\
 fd.defaults=R 36/\
 ∃n,U.get? 36=O (cU [aA] n)
structure Gt(P:bS)(t:Nat->aW)(fd:bQ)(ga:ab)(j:Nat):Prop where
 ex:∃dx od tk,(za P t fd).lookup ga=O (N8 dx)/\(za P t fd).lookup dx=O od/\findObj (za P t fd) 60 (O od) "index" =O (VG (ah (aj j) tk))
theorem gt0:Gt P t fd 124 0:=⟨123,_,t 34,rfl,rfl,rfl⟩
theorem gt1:Gt P t fd 127 1:=⟨126,_,t 38,rfl,rfl,rfl⟩
theorem gt2:Gt P t fd 130 2:=⟨129,_,t 42,rfl,rfl,rfl⟩
theorem acR(dA:DW U P t fd)(x:hJ H U s.heap)(a b c:aa):T A (du fd ⟨[a,b,c],[]⟩) s (λbs Y=>Y=s/\bs=([110,113,114].map NM).zip [a,b,c]):=by
 show dG dA.2.2.2 λn hd=>?_
 delta du
 show dA.2.1.params.symm▸dA.2.2.1.symm▸dA.2.1.kwd.symm▸ag (aB (ag (jG (x.keep _ _ (DM Z) hd) Z ?_)));show aB ⟨rfl,rfl⟩
theorem akw{ga i:ab}{v:Nat}(B:cA U mg mb)(I:dQ mg mb)(I2:t9 mg mb)(dA:DW U P t fd)(hg:Gt P t fd ga j)(hE:Cb s.heap i ns)(hj:ns[j]? =O v)(x1:hJ H U s.heap)(bM:A.depth<1000):
 T A (call (R 43) [R ga,R i,R 135]) s (λu Y=>dz H s Y/\∃tk,u=ah (aj v) tk):=by
 show og λgG kG=>?_;obtain⟨dx,od,tk,g1,g2,g3⟩:=hg;show kG ?_;clear kG gG;have Xs:=Ca dA.1 x1;have Bs:=B.ext x1;show(WU (G':=qG [110,113,114] [aX (R ga),aX (R i),aX (R 135)]) (avs:=[aX (R ga),aX (R i),aX (R 135)]) (F:=[]) B x1 bM dA.2.1 Z Z Z (acR dA x1 _ _ _) ?_ aK Z aK λfV=>?_).wp3 λu Y F e aO=>⟨e,aO.toInt⟩
 .show eg [] [] (.ir _) (eg [] [] (.ir _) (eg [] [] (.ir _) .nil))
 show SS.m<|SS.cons (S1.ite (oZ.isNone (aq 113 Z)) (λq=>Ip q) λ_=>SS.nil)<|SS.cons (S1.ite (x:=af) (FI N (oZ.call (i_ Bs I2 Xs Z (Y3 Bs I2 Z hE (aq 113 Z) Z) Z (Y2 Bs Z (I ("tuple",ak "tuple") aK).1 (I ("tuple",ak "tuple") aK).2 (rfl)) Z))) (λq=>Ip q) λ_=>SS.nil) (tQ (S1.ret (Y4 Bs I Xs hE hj Z (aq 113 Z) Z (RW (x:=110) Xs g1 g2 g3 Z) Z Z)))
def uL(ns:LN):AV:=gr (ns.map aT)
theorem Cb.ext{i:ab}(e:Cb h i ns)(x:hJ H h h'):Cb h' i ns:=by obtain⟨dx,t0,t1,t2,a,b,c,h1,h2,h3,h4,off⟩:=e;show⟨dx,t0,t1,t2,a,b,c,h1,x.keep _ _ off h2,x.keep _ _ h4 h3,h4,off⟩
theorem DW.ext(dA:DW U P t fd)(x:hJ H U h):DW h P t fd:=⟨Ca dA.1 x,dA.2.1.ext x,dA.2.2.1,dG dA.2.2.2 λn e=>⟨n,x.keep _ _ (DM Z) e⟩⟩
theorem CX{nm:aP}{ga i:ab}{v:Nat}(bM:A.depth<900)(B:cA U mg mb)(I:dQ mg mb)(I2:t9 mg mb)(dA:DW U P t fd)(hg:Gt P t fd ga j)(hf:iL (za P t fd) (R 135) nm=O (O (R ga)))(OA:yr (za P t fd) (R ga) "__get__" =O (O (R 43)))(htk:A6 (za P t fd) (R ga)=O N)(hE:Cb U i ns)(hj:ns[j]? =O v)(he:cq G x=O (k,aX (R i))):
 V H U A L J G (iJ (ar (NM x) np) nm pos) (aT v) fr:=λs r=>by
 show E7 (T.Dj (ui r he) ?_);have x1:=r.base;have N1:=dA.ext x1;have E1:=hE.ext x1;have E2:=E1;obtain⟨dx,t0,t1,t2,a,b,c,h1,h2,h3,h4,off⟩:=E2;show e_ N1.1 ⟨h2,rfl,rfl,h3⟩ ahY ahZ c_ (findObj_data afC hf OA htk)<|(akw (s:={s with toks:=s.toks+1}) (H:=H) (B.ext x1) I I2 N1 hg E1 hj (.refl _) au).mono λu s2 oq=>Mk oq λe2 tk hu=>hu▸⟨(λid q=>nomatch q),(show dz H s {s with toks:=s.toks+1} from .toks _ _).trans e2,[],.ofInt _ _,d9⟩
theorem PM{i:ab}{a b:Nat}(bM:A.depth<900)(B:cA U mg mb)(I:dQ mg mb)(I2:t9 mg mb)(dA:DW U P t fd)(hE:Cb U i [a,b,c])(he:cq G x=O (k,aX (R i))):
 V H U A L J G (iJ (ar (NM x) np) (aC "num_blocks") pos) (aT a) fr:=CX bM B I I2 dA gt0 ah0 ah3 ah6 hE Z he
theorem RX{i:ab}{a b:Nat}(bM:A.depth<900)(B:cA U mg mb)(I:dQ mg mb)(I2:t9 mg mb)(dA:DW U P t fd)(hE:Cb U i [a,b,c])(he:cq G x=O (k,aX (R i))):
 V H U A L J G (iJ (ar (NM x) np) (aC "num_total") pos) (aT b) fr:=CX bM B I I2 dA gt1 ah1 ah4 ah7 hE Z he
theorem Jw{i:ab}{a b:Nat}(bM:A.depth<900)(B:cA U mg mb)(I:dQ mg mb)(I2:t9 mg mb)(dA:DW U P t fd)(hE:Cb U i [a,b,c])(he:cq G x=O (k,aX (R i))):
 V H U A L J G (iJ (ar (NM x) np) (aC "num_data") pos) (aT c) fr:=CX bM B I I2 dA gt2 ah2 ah5 ah8 hE Z he
theorem Nf(aO:bR U av v F)(he:V H U A L J G e (aX v) af):V H U A L J G e av af:=λs r=>
 (he r).Z7 λaD e1=>oY F e1 (aO.ext (r.base.trans e1.ext)) (λq=>Ip q)
theorem Xq{a i:aw}(ha:V H U A L J G a (uL ns) af)(hi:V H U A L J G i (aT k) af)(hk:k<ns.length)(hl:ns.length<=1000)(r9:j9 i=af):V H U A L J G (dk a i pos) (aT (ns.getD k 0)) fr:=by show wH ha hi ?_ r9 (λ_=>rfl);change cond (dY k 1000000) ((ns.map aT)[k]?) eU=_;rw[(eT au),cond_true,cY,dE hk];simp[hk]
def mbF:List bT:=tZ (bc (bo jq) 7)
def RY:List bT:=tZ (bc mbF 3)
noncomputable def Cc(ex gen:LN)(k lc:Nat)(eb:LN):Nat->LN
 | 0=>eb
 |n+1=>(Cc ex gen k lc eb n).set (k+n+1) ((Cc ex gen k lc eb n).getD (k+n+1) 0 ^^^ ex.getD (lc+gen.getD n 0) 0)
def gU(lg ex gen eb:LN):Nat->LN
 | 0=>eb
 |k+1=>if(gU lg ex gen eb k).getD k 0=0 then gU lg ex gen eb k else Cc ex gen k (lg.getD ((gU lg ex gen eb k).getD k 0) 0) (gU lg ex gen eb k) gen.length
theorem HG{ex:LN}{lc:Nat}{eb:LN}:∀n,(Cc ex gen k lc eb n).length=eb.length:=by
 intro xX;induction xX with
 |zero=>show rfl
 |succ n iH=>show EK.trans iH
theorem xp{lg ex eb:LN}:∀k,(gU lg ex gen eb k).length=eb.length:=by
 intro xX;induction xX with
 |zero=>show rfl
 |succ k iH=>show iteInduction (motive:=λl:LN=>l.length=eb.length) (λ_=>iH) λ_=>(HG _).trans iH
theorem lY.akx(h:lY ns)(k:Nat)(E:x<256):lY (ns.set k x):=⟨λy hy=>by
 rcases u7 hy with q|q
 .show h.1 y q
 .rw [q];show E,EK.symm▸h.2⟩
theorem jh{b:Nat}(h:∀x∈ns,x<b)(D:0<b)(k:Nat):ns.getD k 0<b:=by
 rw[da];cases q:ns[k]? with
 |none=>show D
 |some x=>show h x (cW q)
theorem Xr{ex:LN}{lc:Nat}{eb:LN}(E:∀x∈ex,x<256)(h:lY eb):∀n,lY (Cc ex gen k lc eb n):=by
 intro xX;induction xX with
 |zero=>show h
 |succ n iH=>show(iH).akx _ (EU (n:=8) (jh (iH).1 aK _) (jh E aK _))
theorem Xt{lg ex eb:LN}(E:∀x∈ex,x<256)(h:lY eb):∀k,lY (gU lg ex gen eb k):=by
 intro xX;induction xX with
 |zero=>show h
 |succ k iH=>show iteInduction (motive:=lY) (λ_=>iH) λ_=>Xr E iH _
def gMB(m1 m2 l1 l2 gp rr eb:ab)(nd ne:Nat):ig:=[(103,0,aX (R eb)),(102,0,aT nd),(101,0,aX (R rr)),(100,0,aX (R gp)),(99,0,aT ne),(97,0,aX (R 1890)),(96,0,aX (R 1888)),(95,0,aX (R m2)),(94,0,aX (R m1)),(86,0,aX (R l2)),(85,0,aX (R l1))]
def j_(U:aN)(lg ex gen:LN)(gp:ab):Prop:=
 bR U (uL lg) (R 1888) []/\
 (∃F,bR U (a7 ex) (R 1890) F)/\
 bR U (uL gen) (R gp) []/\
 lg.length=256/\
 ex.length=510/\
 (∀x∈lg,x<255)/\
 (∀x∈ex,x<256)/\
 (∀x∈gen,x<255)/\
 gen.length<=100
section
variable{Q:b8->ae->Prop}
theorem afD{lg ex:LN}{m1 m2 l1 l2 gp rr eb:ab}{nd:Nat}{tr ur vr:aW}(hh:dh A)(B:cA U mg mb)(I:dQ mg mb)(T1:j_ U lg ex gen gp)(p:PS H U (bg jq) J aJ bq bA G ((eb,kB ns)::S) s)(hG:ko (gMB m1 m2 l1 l2 gp rr eb nd gen.length) G)(hn:lY ns)(dM:ns.length=nd+gen.length)(hr:(rr,mJ gen.length tr ur vr)∈S)(hS:∀y∈S,y.1≠eb)(kk:∀Y,PS H U (bg jq) J aJ bq bA (gMB m1 m2 l1 l2 gp rr eb nd gen.length) ((eb,kB (gU lg ex gen ns nd))::S) Y->C A (aU rest J) Y Q):
 C A (aU (bc RY 5::rest) J) s Q:=by
 show dU T1 λT11 T12 T13 T14 T15 T16 T17 aia=>eX aia λT18 T19=>?_;have C':=hn.2;have hg1:=T19;show yQ 92 (Dm 0 1 nd) (λ_ (_:Unit)=>gMB m1 m2 l1 l2 gp rr eb nd gen.length) (λk _=>(eb,kB (gU lg ex gen ns k))::S) () p (zN (k:=nd) hh (p.base B) I Z (aq 102 (hG.all _ _ _ Z)) Z au fF)
  hG (λy hy=>hy) (ao Z) (λ_ _ _=>rfl) (λk n z s1 W hk q=>?_) (λ_=>rfl) (λs9 _ p9=>?_)
 .obtain ⟨hi,hk⟩:=o6.mp hk;have hk':(n:Int)=aj k:=by rw[hk];simp
  subst hk';have ho:=Xt (lg:=lg) (gen:=gen) T17 hn k;have hle:=xp (lg:=lg) (ex:=ex) (gen:=gen) (eb:=ns) k;show PS.asg (x:=104) (av:=aT ((gU lg ex gen ns k).getD k 0)) q (B1 (a:=eb) (q.get (cQ ..)) (q.sg _ (cQ ..)).2.1 ho (aq 103 Z) (aq 92 Z) (kz au) Z) Z Z (ao Z) Z λs2 q2=>q2.ite (x:=decide ((gU lg ex gen ns k).getD k 0≠0)) (yK (aq 104 Z) (aR 0)) λs3 q3=>?_;by_cases hc:(gU lg ex gen ns k).getD k 0=0
  .have e1:gU lg ex gen ns (k+1)=gU lg ex gen ns k:=if_pos hc;rw[decide_eq_false (by rw[hc];show not_not_intro Z)];show eZ (eZ ⟨rfl,(),?_⟩);show e1.symm▸q3.less (ko.rf bD bD)
  .have e1:gU lg ex gen ns (k+1)=Cc ex gen k (lg.getD ((gU lg ex gen ns k).getD k 0) 0) (gU lg ex gen ns k) gen.length:=if_neg hc;rw[decide_eq_true hc];have hlc:=jh T16 aK ((gU lg ex gen ns k).getD k 0);show q3.s1 (S1.m (bE 105 (aT (lg.getD ((gU lg ex gen ns k).getD k 0) 0)) (Xq (Nf (T11) (aq 96 Z)) (aq 104 Z) (by rw[T14];show(jh ho.1 aK k)) (by rw[T14];decide) Z) Z Z (ao Z) Z)) λs4 q4=>yQ 106 (Dm 0 1 gen.length) (λ_ (_:Unit)=>jm (jm (jm (gMB m1 m2 l1 l2 gp rr eb nd gen.length) 92 0 (a9 (aj k))) 104 0 (aT ((gU lg ex gen ns k).getD k 0))) 105 0 (aT (lg.getD ((gU lg ex gen ns k).getD k 0) 0)))
    (λn _=>(eb,kB (Cc ex gen k (lg.getD ((gU lg ex gen ns k).getD k 0) 0) (gU lg ex gen ns k) n))::S) () q4 (zZ 101 0 hh (q4.base B).top (q4.get (bZ _ hr)) (q4.sg _ (bZ _ hr)).2.1 Z au)
    ⟨λ_ _ _ e=>e,λ_ _ e=>e⟩ (λy hy=>hy) (ao Z) (λ_ _ _=>rfl) (λn m z5 s5 W5 hn5 q5=>?_) (λ_=>rfl) (λs7 _ q7=>eZ (eZ ⟨rfl,(),?_⟩))
   .obtain ⟨hi5,hn5⟩:=o6.mp hn5;have aky:(m:Int)=aj n:=by rw[hn5];simp
    subst aky;have hl5:=HG (ex:=ex) (gen:=gen) (k:=k) (lc:=lg.getD ((gU lg ex gen ns k).getD k 0) 0) (eb:=gU lg ex gen ns k) n;have hgn:=(jh T18 aK) n;show dG T12 λFx Vx=>Υ (a:=eb) (k:=k+n+1) (x:=ex.getD (lg.getD ((gU lg ex gen ns k).getD k 0) 0+gen.getD n 0) 0) (y:=(Cc ex gen k (lg.getD ((gU lg ex gen ns k).getD k 0) 0) (gU lg ex gen ns k) n).getD (k+n+1) 0) q5
     (fj (Nf (Vx.ext q5.ext) (aq 97 Z)) (fk (aq 105 Z) (Xq (Nf ((T13).ext q5.ext) (aq 100 Z)) (aq 106 Z) hi5 au Z)) (by rw[T15];lia) (by rw[T15];decide) Z)
     (aq 103 Z) (fk (fk (aq 92 Z) (aq 106 Z)) (aR 1)) (cQ ..) (Xr (gen:=gen) (k:=k) (lc:=lg.getD ((gU lg ex gen ns k).getD k 0) 0) T17 ho n) (kz au) (jh T17 aK _) (S':=(eb,kB (Cc ex gen k (lg.getD ((gU lg ex gen ns k).getD k 0) 0) (gU lg ex gen ns k) (n+1)))::S) (λy hy=>?_) λs6 q6=>eZ ⟨rfl,(),q6.less (ko.rf bD bD)⟩
    rcases bu.mp hy with e|e
    .left;rw[e];show⟨rfl,rfl⟩
    .show aH ⟨hS y e,bZ _ e⟩
   .show e1.symm▸?_;have hlr:(Dm 0 1 gen.length).length=gen.length:=Mz;rw[hlr]at q7;show q7.less (ko.rf bD bD)
 .rw [(by simp[Dm]:(Dm 0 1 nd).length=nd)]at p9;show kk s9 p9
end
theorem Y5{d:Nat}{jx:aa}(h1:gens[d]? =O ⟨cu,iter,ifs,0⟩)(h2:gens[d+1]? =ai):
 uZ (cP elt gens scope pos) d it jx J=(jH iter.pos>>=λ_=>gY it>>=λr=>match r with
  |none=>pure (nr cJ)
  |some v=>jF cu it v>>=λ_=>jJ cu J v>>=λ_=>o7 ifs J>>=λok=>
   if ok=N then(aZ elt J>>=λx=>call (bx "list.append") [jx,x]>>=λ_=>pure ())>>=λ_=>again (hb (cP elt gens scope pos) d it jx J)
   else again (hb (cP elt gens scope pos) d it jx J)):=by
 delta uZ
 dsimp only;show h1.symm▸h2.symm▸?_;rfl
theorem k_{target' iter':aw}{ifs':List aw}{d:Nat}{jx:aa}(h1:gens[d]? =O ⟨cu,iter,ifs,0⟩)(h2:gens[d+1]? =O ⟨target',iter',ifs',0⟩):
 uZ (cP elt gens scope pos) d it jx J=(jH iter.pos>>=λ_=>gY it>>=λr=>match r with
  |none=>pure (nr cJ)
  |some v=>jF cu it v>>=λ_=>jJ cu J v>>=λ_=>o7 ifs J>>=λok=>
   if ok=N then aZ iter' J>>=λx=>jH iter'.pos>>=λ_=>D9 iter' J x>>=λx=>holding [x] (gm x)>>=λit'=>runOwn (oQ (cP elt gens scope pos) (d+1) it' jx J) J>>=λ_=>again (hb (cP elt gens scope pos) d it jx J)
   else again (hb (cP elt gens scope pos) d it jx J)):=by
 delta uZ
 dsimp only;show h1.symm▸h2.symm▸?_;rfl
theorem uM{Q:Bool->ae->Prop}(h:Q N s):C A (o7 [] J) s Q:=C.pure h
theorem Y6{c:aw}{Q:Bool->ae->Prop}(h:C A (isTrue c J (aZ c J)) s Q):C A (o7 [c] J) s Q:=C.bind (C.bind (h.mono λb Y D=>C.pure (C.pure D)))
theorem DG{X:aE Fin}{d:Nat}{jx:aa}(hX:uZ (cP elt gens scope pos) d it jx J=(jH iter.pos>>=λ_=>gY it>>=λr=>match r with
 |none=>pure (nr cJ)
 |some v=>jF cu it v>>=λ_=>jJ cu J v>>=λ_=>o7 ifs J>>=λok=>if ok=N then X else again (hb (cP elt gens scope pos) d it jx J)))(I:Nat->ae->Prop)(turn:∀n s (bp:ae->Prop) (P1:Option aa->ae->Prop) (P2:ae->Prop) (P3:Bool->ae->Prop),(∀m Y,m<n->I m Y->bp Y)->(∀aD,aM (cf cJ) aD->P1 ai aD)->
 (∀v aD,C A (jF cu it v) aD (λ_ aQ=>C A (jJ cu J v) aQ (λ_=>P2))->P1 (O v) aD)->(∀de,C A (o7 ifs J) de P3->P2 de)->
 (∀fq,C A X fq (λf s=>f=yD (hb (cP elt gens scope pos) d it jx J)/\bp s)->P3 N fq)->(∀fq,bp fq->P3 af fq)->I n s->C A (gY it) s P1)(n:Nat)(h:I n s):CC A (hb (cP elt gens scope pos) d it jx J) s aM:=by
 induction n using Uy generalizing s with
 |ind n ih=>
  show jn Z<|C.onRaise<|hX.symm▸C.bind (C.standAt (C.bind ((turn n s (λY=>∃m,m<n/\I m Y) (λr aD=>match r with
   |none=>aM (cf cJ) aD
   |some v=>C A (jF cu it v) aD (λ_ aQ=>C A (jJ cu J v) aQ (λ_ de=>C A (o7 ifs J) de (λok fq=>if ok=N then C A X fq (λf PN=>f=yD (hb (cP elt gens scope pos) d it jx J)/\∃m,m<n/\I m PN) else∃m,m<n/\I m fq)))) _ _
    (λm _ a b=>ct m a b) (λ_ h=>h) (λ_ _ h=>h) (λ_ h=>h) (λ_ h=>(if_pos Z).mpr h) (λ_ h=>(if_neg aK).mpr h) h).mono λr aD U=>?_)))
  cases r with
  |none=>show C.pure U
  |some v=>
   show C.bind (C.mono U λ_ aQ kq=>C.bind (C.mono kq λ_ de uk=>C.bind (C.mono uk λok fq Gm=>?_)));cases ok with
   |true=>show C.mono Gm λ_ PN qQ=>bh qQ.2 λm hm hI=>qQ.1▸⟨rfl,ih m hm hI⟩
   |false=>show bh Gm λm hm hI=>C.pure ⟨rfl,ih m hm hI⟩
theorem ua{d:Nat}{jx:aa}(h1:gens[d]? =O ⟨cu,iter,ifs,0⟩)(h2:gens[d+1]? =ai)(I:Nat->ae->Prop)(turn:∀n s (bp:ae->Prop) (P1:Option aa->ae->Prop) (P2:ae->Prop) (P3:Bool->ae->Prop) (P4:aa->ae->Prop),(∀m Y,m<n->I m Y->bp Y)->(∀aD,aM (cf cJ) aD->P1 ai aD)->
 (∀v aD,C A (jF cu it v) aD (λ_ aQ=>C A (jJ cu J v) aQ (λ_=>P2))->P1 (O v) aD)->(∀de,C A (o7 ifs J) de P3->P2 de)->
 (∀fq,C A (aZ elt J) fq P4->P3 N fq)->(∀fq,bp fq->P3 af fq)->(∀x hO,C A (call (bx "list.append") [jx,x]) hO (λ_=>bp)->P4 x hO)->I n s->C A (gY it) s P1)(n:Nat)(h:I n s):CC A (hb (cP elt gens scope pos) d it jx J) s aM:=
 DG (Y5 h1 h2) I (λn s bp P1 P2 P3 a b c d e f i=>turn n s bp P1 P2 P3 (λx hO=>C A (call (bx "list.append") [jx,x]) hO (λ_=>bp)) a b c d (λfq h=>e fq (C.bind (C.bind (h.mono λ_ _ h=>C.bind (h.mono λ_ _ h=>C.pure (C.pure ⟨rfl,h⟩)))))) f (λ_ _ h=>h) i) n h
theorem HH{target' iter':aw}{ifs':List aw}{d:Nat}{jx:aa}(h1:gens[d]? =O ⟨cu,iter,ifs,0⟩)(h2:gens[d+1]? =O ⟨target',iter',ifs',0⟩)(hs:Fs iter' J)(I:Nat->ae->Prop)(turn:∀n s (bp:ae->Prop) (P1:Option aa->ae->Prop) (P2:ae->Prop) (P3:Bool->ae->Prop) (P4 P5:aa->ae->Prop) (P6:sL->ae->Prop),(∀m Y,m<n->I m Y->bp Y)->(∀aD,aM (cf cJ) aD->P1 ai aD)->
 (∀v aD,C A (jF cu it v) aD (λ_ aQ=>C A (jJ cu J v) aQ (λ_=>P2))->P1 (O v) aD)->(∀de,C A (o7 ifs J) de P3->P2 de)->
 (∀fq,C A (aZ iter' J) fq P4->P3 N fq)->(∀fq,bp fq->P3 af fq)->(∀x hO,C A (gm x) hO P5->P4 x hO)->
 (∀it' PN,CC (A.mark ai) (oQ (cP elt gens scope pos) (d+1) it' jx J) PN P6->P5 it' PN)->(∀f l_,bp l_->P6 (cf f) l_)->I n s->C A (gY it) s P1)(n:Nat)(h:I n s):CC A (hb (cP elt gens scope pos) d it jx J) s aM:=
 DG (k_ h1 h2) I (λn s bp P1 P2 P3 a b c e f g i=>turn n s bp P1 P2 P3 (λx hO=>C A (gm x) hO (λit' PN=>CC (A.mark ai) (oQ (cP elt gens scope pos) (d+1) it' jx J) PN (λr l_=>match r with|cf _=>bp l_|kY _=>False)))
  _ _ a b c e (λfq h=>f fq (C.bind<|h.mono λx hO zP=>C.bind<|C.standAt<|C.bind<|C.eq (hs x)<|C.bind<|C.holding<|zP.mono λit' PN akz=>C.bind<|C.onRaise (C.run (CC.mono akz λr l_ acS=>by cases r;show acS;show C.pure ⟨rfl,acS⟩)))) g (λ_ _ h=>h) (λ_ _ h=>h) (λ_ _ h=>h) i) n h
theorem pI{d:Nat}{jx:aa}(h1:gens[d]? =O ⟨cu,iter,ifs,0⟩)(h0:CC A (hb (cP elt gens scope pos) d it jx J) s aM)(h:C A (gm it) s (λit' Y=>CC A (hb (cP elt gens scope pos) d it' jx J) Y aM)):
 CC A (oQ (cP elt gens scope pos) d it jx J) s aM:=by
 show jn Z (C.onRaise ?_)
 delta compStart
 show h1.symm▸lC (TC ?_);split
 .show C.pure ⟨rfl,h0⟩
 .show C.bind<|C.rule<|nQ (C.bind (h.mono λit' Y h'=>C.pure ⟨rfl,h'⟩))
theorem acT{m_ first:aE aa}{g:sF}{gs:List sF}(jB:Kk e=g::gs)(hs:Fs g.iter J)(n_:rb scope J=pure cl)(zq:scope.kind=d0)(afE:∀x∈scope.names,x.2=cZ->scope.names.lookup x.1=O cZ)(h:C A first s (λx aD=>C A (gm x) aD (λit aQ=>C A m_ aQ (λjx de=>
 C A (newFunctionEnv scope J.globals cl [] J.qual ai aA (O J)) de (λcenv fq=>
  CC (A.mark ai) (oQ e 0 it jx {cenv with scope:=jw scope J}) fq (λr Y=>match r with|cf _=>∃m,Y.heap.Ns cenv.locals m/\∀h',gw cenv.locals Y.heap h'->Q jx {Y with heap:=h'} |kY _=>False)))))):
 C A (Eg e scope J pos m_ af first ai) s Q:=by
 delta Eg
 show n_.symm▸jB.symm▸C.bind (h.mono λx aD U=>C.bind (C.standAt (C.bind (C.eq (hs x) (C.bind (C.holding (C.mono U λit aQ kq=>?_)))))));show C.bind (C.mono kq λjx de uk=>C.bind (C.pure (C.bind (C.mono uk λcenv fq Gm=>?_))));dsimp only;have hv:∀x∈(scope.names.filter λx=>(x.2==cZ ||x.2==dw) && x.1 != (".0" :aP)).reverse,x.2=cZ->
  j8 {cenv with scope:=jw scope J} x.1=O cZ:=λx E hl=>xC (afE x (gq.mp (EI.mp E)).1 hl)
 show C.holding (C.bind (C.attempt (C.holding (C.run (CC.mono Gm λr Y hr=>?_)))));cases r with
 |ok f=>show bh hr λm hn hr=>(lI (cR (TF zq _ Y m hv hn λh' m' _ zL=>C.pure (hr h' zL))))
 |error _=>show hr.elim
theorem PO{K:LN}{first:aE aa}{g:sF}{gs:List sF}(c:ed L scope fs K)(jB:Kk e=g::gs)(hs:Fs g.iter J)(n_:rb scope J=pure cl)(h:C A first s (λx aD=>C A (gm x) aD (λit aQ=>∀a0 bp h3 tk,aQ.heap.objs.size<=a0->aQ.heap.objs.size<=bp->(uh aQ.heap h3)->aQ.heap.get? a0=ai->aQ.heap.get? bp=ai->a0≠bp->
 h3.get? a0=O (br [] 0)->h3.Ns bp (λ_=>ai)->CC (A.mark ai) (oQ e 0 it (R a0) (ju scope cl bp J)) {aQ with heap:=h3,toks:=tk} (λr Y=>match r with|cf _=>∃m,Y.heap.Ns bp m/\∀h',gw bp Y.heap h'->Q (R a0) {Y with heap:=h'} |kY _=>False)))):
 C A (Eg e scope J pos (newList []) af first ai) s Q:=by
 show acT jB hs n_ c.kind c.names<|h.mono λx aD U=>C.mono U λit aQ kq=>cR<|ij<|cR (Ak c.cell (by intro y hy;show kJ hy) (λh3 sd wL=>?_) c.kind);generalize δ:aQ.heap.push {cls:=ak "list",dict:=ai,data:=bU ([]:List aa).toArray}=H2 at sd wL ⊢;have hC:H2.objs.size=aQ.heap.objs.size+1:=by rw[<-δ,dD]
 generalize H2.objs.size=bp at sd wL hC ⊢;have NZ:aQ.heap.objs.size≠bp:=by rw[hC];show fB (jb _)
 have aex:∀b:Nat,aQ.heap.objs.size<=b->aQ.heap.get? b=ai:=λb hb'=>by
  cases q:aQ.heap.get? b with
  |none=>rfl
  |some o=>show absurd (cn q) (j5.mpr hb')
 have hK:=aex bp (hC▸lQ _);show kq aQ.heap.objs.size bp h3 _ (ey _) (hC▸lQ _) (λb o e=>wL.extBut b o (λq=>by have e:=hK▸q▸e;ext) (by show δ▸?_;show a8 _ (a8 _ e))) (aex _ (ey _)) hK NZ
  (wL.extBut _ _ NZ (by show δ▸?_;show a8 _ (bK _ Z))) sd
section
theorem Cd{it:ab}{x left step:Int}(um:mf s.heap it x left step)(Ce:0<left)(hQ:∀h',mf h' it (x+step) (left - 1) step->gw it s.heap h'->Q (ah x s.toks) {s with heap:=h',toks:=s.toks+1}):
 ax (aG prog w) A (L8 (R it)) Q a6 s:=by
 have hT:s.TypeIs (R it) "range_iterator" :=ct _ um Z;show ag (kT hT Fi
  (qf Fi hT Vi (Vh _) (AutoRange.range_iterator___next___range_iterator_1 it x left step (Int.not_le.mpr Ce)) ⟨um,?_⟩))
 show aB (hQ _ (gO _ (gO _ um Z) Z) ((j6 ..).trans (j6 ..)))
theorem CY{it:ab}{x left step:Int}(hh:dh A)(um:mf s.heap it x left step)(Ce:left<=0)(hE:∀h' e,(uh s.heap h')->(∃o,h'.get? e=O o/\o.cls=ak "StopIteration")->a6 (R e) {s with heap:=h'}):ax (aG prog w) A (L8 (R it)) Q a6 s:=by
 have hT:s.TypeIs (R it) "range_iterator" :=ct _ um Z;show ag (kT hT Fi
  (jV Fi hT Vi ?_ (Vh _)))
 show(?_:ax _ _ (sN (R it) 0>>=_) _ _ s);show ag<|fX um Z (x:=dN x) Z<|ag<|fX um Z (x:=dN left) Z<|ag<|fX um Z (x:=dN step) Z<|(?_:ax _ _ (if left<=0 then _ else _) _ _ s);show(if_pos Ce).symm▸ag (mS ?_);show ag<|ag<|ag (ij ?_ (by size_fits));show ag<|fK (a:=aA) (by first|rfl|(rfl))<|ij ?_ (by size_fits);show ag (J5 ?_);first|rw[hh]|rw[hh]
 show Kc<|hE _ _ (λb o e=>a8 _ (a8 _ e)) (ct _ (bK _ Z) Z)
variable{F:zx}{a0:ae->ae->Prop}{aM:xW}{gh:xS}
theorem lE.nextOf(x:lE A a g aS fp wr n₀ F j s)(bM:A.depth<mR)(hj:j<n₀)(DD:a≠aS)(NW:a∉wr)(NX:cE≠aS)(NY:cE∉wr)(hF:F.DB)(hQ:∀v Y,F j v s Y->lE A a g aS fp wr n₀ F (j+1) Y->Tg g (aS::wr) s Y->(∀b o,s.heap.get? b=O o->∃o',Y.heap.get? b=O o')->Q v Y):C A (L8 (R a)) s Q:=
 C.bind (x.spc bM hj DD NW NX NY hF λv Y a b c d=>C.pure (hQ v Y a b c d))
end
def aib(z TI TO i1:ab)(X:List ab):Prop:=
 TI≠z/\
 TO≠z/\
 i1≠z/\
 TI≠TO/\
 TI≠i1/\
 TO≠i1/\
 z∉X/\
 TI∉X/\
 TO∉X/\
 i1∉X
section
variable{F:zx}
def CZ(A:ck)(s:ae)(a:ab)(g:Nat)(aS:ab)(fp:List ab)(wr:List ab)(n₀:Nat)(F:zx)(j:Nat)(z:ab)(TI:ab)(TO:ab)(i1:ab)(x:Int)(left:Int)(u0:aa)(u1:aa)(P:Nat->aa->Prop)(Q:Option aa->ae->Prop):Prop:=∀(bM:A.depth<mR) (a0:aib z TI TO i1 (a::aS::fp)) (DD:a≠aS) (NW:a∉wr) (xh:cE∈fp) (NX:cE≠aS) (NY:cE∉wr) (hwf:∀b∈wr,b∈fp) (hF:F.DB) (hP:∀i v s Y,F i v s Y->P i v) (hz:mU s.heap z TI TO aA) (Xk:jZ s.heap TI (R i1) (R a)) (hTO:jZ s.heap TO u0 u1) (h1:mf s.heap i1 x left 1) (Ce:0<left) (hg:lE A.in1 a g aS fp wr n₀ F j s) (hj:j<n₀) (hQ:∀v Y (T:ab) tk,P j v->mU Y.heap z TI TO (dN T)->jZ Y.heap TI (R i1) (R a)->jZ Y.heap TO (ah x tk) v->mf Y.heap i1 (x+1) (left - 1) 1->jZ Y.heap T (ah x tk) v->s.heap.get? T=ai->
 lE A.in1 a g aS fp wr n₀ F (j+1) Y->Tg g (z::TO::i1::aS::wr) s Y->Q (O (R T)) Y),C A (gY (R z)) s Q
def HI(c:((((ck×ae)×ab)×(Nat×ab))×((((List ab)×(List ab))×Nat)×(zx×Nat)))×((((ab×ab)×ab)×(ab×Int))×(((Int×aa)×aa)×((Nat->aa->Prop)×(Option aa->ae->Prop))))):Prop:=CZ c.1.1.1.1.1 c.1.1.1.1.2 c.1.1.1.2 c.1.1.2.1 c.1.1.2.2 c.1.2.1.1.1 c.1.2.1.1.2 c.1.2.1.2 c.1.2.2.1 c.1.2.2.2 c.2.1.1.1.1 c.2.1.1.1.2 c.2.1.1.2 c.2.1.2.1 c.2.1.2.2 c.2.2.1.1.1 c.2.2.1.1.2 c.2.2.1.2 c.2.2.2.1 c.2.2.2.2
def eG:=Iu HI inferInstance
def o_:=eG.1.1.1.1.1
def pJ:=eG.1.1.1.1.2
def RZ:=eG.1.1.1.2
def Nh:=eG.1.1.2.1
def HJ:=eG.1.1.2.2
def Ni:=eG.1.2.1.1.1
def FL:=eG.1.2.1.1.2
def Jx:=eG.1.2.1.2
def p_:=eG.1.2.2.1
def q_:=eG.1.2.2.2
def qb:=eG.2.1.1.1.1
def vU:=eG.2.1.1.1.2
def lW:=eG.2.1.1.2
def FN:=eG.2.1.2.1
def Nj:=eG.2.1.2.2
def Y7:=eG.2.2.1.1.1
def acU:=eG.2.2.1.1.2
def Xu:=eG.2.2.1.2
theorem r_:CZ o_ pJ RZ Nh HJ Ni FL Jx p_ q_ qb vU lW FN Nj Y7 acU Xu eG.2.2.2.1 eG.2.2.2.2:=λbM a0 DD NW xh NX NY hwf hF hP hz Xk hTO h1 Ce hg hj hQ=>by
 have hT:pJ.TypeIs (R qb) "zip" :=ct _ hz Z;have cw:∀b∈HJ::FL,b∈RZ::HJ::Ni:=λb D=>by
  rcases bu.mp D with e|e
  .ext
  .simp [hwf b e]
 show C.bind (C.attempt (vR hT Fp (oh hT Fp Vw (Vt _) Z ?_)));change C _ (sN (R qb) 2>>=_) _ _;show lC<|fX hz Z (x:=dB af) Z<|lC<|fX hz Z (x:=R vU) Z<|lC<|jG Xk Z<|C.bind<|C.bind<|cR<|fX hz Z (x:=aA) Z<|C.pure<|C.bind<|C.rule<|lC<|fX hz Z (x:=R lW) Z<|lC (Am hz bz λU HK HL=>?_);replace HK:mU U qb vU lW JJ:=HK;show C.bind<|C.bind<|C.bind<|C.onRaise<|lC<|Cd (HL.extBut _ _ a0.2.2.1 h1) Ce λkq aic xf=>C.pure<|have s_:=xf.extBut _ _ a0.2.2.2.2.2.1 (HL.extBut _ _ a0.2.1 hTO);lC<|jG s_ Z<|lC (Tj s_ λuk R0 HM=>?_);replace R0:jZ uk lW (ah Nj pJ.toks) Xu:=R0;show lC<|uX<|C.pure<|C.bind (C.bind (C.onRaise ?_));have k3:∀b o,b∉[qb,lW,FN]->pJ.heap.get? b=O o->uk.get? b=O o:=λb o D e=>by simp only[bu,mX,or_false,not_or]at D;show HM.extBut _ _ D.2.1 (xf.extBut _ _ D.2.2 (HL.extBut _ _ D.1 e))
 have g3:lE o_.in1 RZ Nh HJ Ni FL Jx p_ q_ {pJ with heap:=uk,toks:=pJ.toks+1}:=hg.frame xh λb D o e=>k3 b o (λq=>by
  revert D;apply Df q<;>intro D
  .show a0.2.2.2.2.2.2.1 D
  .show a0.2.2.2.2.2.2.2.2.1 D
  .show a0.2.2.2.2.2.2.2.2.2 D) e
 show C.bind<|g3.nextOf bM hj DD NW NX NY hF λv s4 hv hg4 m4 akA=>C.pure<|have t_:=m4.keep _ _ (λq=>a0.2.2.2.2.2.2.2.2.1 (cw _ q)) R0;lC<|jG t_ Z<|lC (Tj t_ λzP HO PQ=>?_);replace HO:jZ zP lW (ah Nj pJ.toks) v:=HO;show lC<|uX<|C.pure<|C.pure<|lC<|jG HO Z<|lC<|J3<|have u_:=PQ.extBut _ _ a0.2.1.symm (m4.keep _ _ (λq=>a0.2.2.2.2.2.2.1 (cw _ q)) (HM.extBut _ _ a0.2.1.symm (xf.extBut _ _ a0.2.2.1.symm HK)));have aey:=PQ.extBut _ _ a0.2.2.2.2.2.1.symm (m4.keep _ _ (λq=>a0.2.2.2.2.2.2.2.2.2 (cw _ q)) (HM.extBut _ _ a0.2.2.2.2.2.1.symm aic));have aid:=cn u_;C.bind<|have aie:mU (zP.push {cls:=ak "tuple",data:=bU #[ah Nj pJ.toks,v]}) qb vU lW JJ:=a8 _ u_;lC (Am aie bz λacS v_ aez=>?_);replace v_:mU acS qb vU lW (dN zP.objs.size):=v_;show cR (Am v_ (ET [dB af,R vU,R lW].length) λacV w_ aeA=>?_);replace w_:mU acV qb vU lW (dN zP.objs.size):=w_;have up:∀c o,c≠qb->zP.get? c=O o->acV.get? c=O o:=λc o c1 e=>aeA.extBut _ _ c1 (aez.extBut _ _ c1 (a8 _ e));have k48:∀b o,b∉[qb,lW]->s4.heap.get? b=O o->acV.get? b=O o:=λb o D e=>by simp only[bu,mX,or_false,not_or]at D;show up _ _ D.1 (PQ.extBut _ _ D.2 e)
 have hTn:pJ.heap.get? zP.objs.size=ai:=by
  cases q:pJ.heap.get? zP.objs.size with
  |none=>rfl
  |some o=>
   have qF:∀y,zP.get? y≠ai->zP.objs.size≠y:=λy hy e=>hy (by show e▸?_;show bF _);have q3:=k3 _ _ (λhm=>by
    simp only[bu,mX,or_false]at hm;rcases hm with e|e|e
    .show qF qb (by rw[u_];decide) e
    .show qF lW (by rw[HO];simp) e
    .show qF FN (by rw[aey];decide) e) q
   show dG (akA _ _ q3) λo' q4=>?_;have:=cn q4;rw[<-PQ.1]at this;show absurd this (gx _)
 show C.pure<|ct (R zP.objs.size) Z<|C.pure<|have m3:Tg Nh (qb::lW::FN::HJ::FL) pJ {pJ with heap:=uk,toks:=pJ.toks+1}:=Tg.heap λb o D e=>k3 b o (λq=>D (by apply Df q<;>ext)) e;have m48:Tg Nh [qb,lW] s4 {s4 with heap:=acV,toks:=s4.toks}:=Tg.heap k48;hQ v _ zP.objs.size pJ.toks (hP _ _ _ _ hv) w_ (up _ _ a0.1 (PQ.extBut _ _ a0.2.2.2.1 (m4.keep _ _ (λq=>a0.2.2.2.2.2.2.2.1 (cw _ q)) (HM.extBut _ _ a0.2.2.2.1 (xf.extBut _ _ a0.2.2.2.2.1 (HL.extBut _ _ a0.1 Xk)))))) (up _ _ a0.2.1 HO) (up _ _ a0.2.2.1 aey) (aeA.extBut _ _ (oM aid) (aez.extBut _ _ (oM aid) (bK _ Z))) hTn (hg4.frame xh λb D o e=>k48 b o (λq=>?_) e) ((m3.trans m4 λd hd=>ao (dF _ (dF _ (dF _ hd)))).trans m48 λd hd=>ao ?_)
 .revert D;apply rY q<;>intro D
  .show a0.2.2.2.2.2.2.1 D
  .show a0.2.2.2.2.2.2.2.2.1 D
 .apply rY hd<;>ext
theorem PR{F:zx}{z:ab}{TI:ab}{TO:ab}{i1:ab}{x:Int}{left:Int}{u0:aa}{u1:aa}{P:Nat->aa->Prop}{Q:Option aa->ae->Prop}:CZ A s a g aS fp wr n₀ F j z TI TO i1 x left u0 u1 P Q:=hen (P:=HI) r_ (((((A,s),a),(g,aS)),(((fp,wr),n₀),(F,j))),((((z,TI),TO),(i1,x)),(((left,u0),u1),(P,Q))))
end
noncomputable abbrev Y8(h:aN)(x n c:Int):aN:=h.push {cls:=ak "range_iterator",dict:=ai,data:=bH #[dN x,dN n,dN c],slots:=#[]}
abbrev acW(h:aN)(a:ab)(x n c:Int):aN:=(Y8 h x n c).push {cls:=ak "tuple",data:=bU #[R h.objs.size,R a]}
abbrev acX(h:aN)(a:ab)(x n c:Int):aN:=(acW h a x n c).push {cls:=ak "tuple",data:=bU #[aA,aA]}
abbrev acY(h:aN)(a:ab)(x n c:Int):aN:=(acX h a x n c).push {cls:=ak "zip",data:=bH #[aA,dB af,dB af,R (Y8 h x n c).objs.size,R (acW h a x n c).objs.size]}
theorem R4(rr a:ab)(g:Nat)(x y c:Int)(t u v:aW)(hs:vh x y c=N):
 rj (Builtin.«zip.__new__» ⟨[ak "zip",R rr,R a],[]⟩) (λ_ aM s=>qg s.heap rr x y c t u v/\s.heap.IsGen a g/\
  aM (cf (cL (R (acX s.heap a x (kZ x y c) c).objs.size))) {s with heap:=acY s.heap a x (kZ x y c) c}):=
 rN λprog w A aM s h=>by
  show hx h λhr hg h=>?_;show ag ?_;show gV (Q:=λr Y=>r=(ak "zip",[R rr,R a])/\Y=s) (E:=λ_ _=>False) ?_ (λr Y q=>?_) λ_ _ e=>e.elim
  .have vQ:=sub_zip;obtain⟨hp,gg,d,tk,os⟩:=s;wp_walk;show⟨rfl,rfl⟩
  obtain⟨rfl,rfl⟩:=q;show ag ?_;show gV (Q:=λr mF=>r=[R Y.heap.objs.size,R a]/\mF={Y with heap:=Y8 Y.heap x (kZ x y c) c}) (E:=λ_ _=>False) ?_ (λr mF q=>?_) λ_ _ e=>e.elim
  .obtain ⟨hp,gg,d,tk,os⟩:=Y;have hR:qg (VL ⟨hp,gg,d,tk,os⟩) rr x y c t u v:=hr;have hG:Heap.IsGen (VL ⟨Y8 hp x (kZ x y c) c,gg,d,tk,os⟩) a g:=eY hg λo nm qn ho r=>Bm o nm qn (a8 _ ho) r;wp_walk using Al hR hs,Eb hG;show⟨rfl,rfl⟩
  obtain⟨rfl,rfl⟩:=q;show ag (J3 (ag (J3 (ag ?_))))
  delta VF
  wp_walk;show⟨_,rfl,h⟩
theorem Y9{rr:ab}{t u v:aW}(hr:qg s.heap rr 0 n 1 t u v)(hg:s.heap.IsGen a g)(hn:n<=1000)(h:∀h',mU h' (s.heap.objs.size+3) (s.heap.objs.size+1) (s.heap.objs.size+2) aA->jZ h' (s.heap.objs.size+1) (R s.heap.objs.size) (R a)->
 jZ h' (s.heap.objs.size+2) aA aA->mf h' s.heap.objs.size 0 n 1->h'.objs.size=s.heap.objs.size+4->
 (∀c o,s.heap.get? c=O o->h'.get? c=O o)->Q (R (s.heap.objs.size+3)) {s with heap:=h'}):
 ax (aG prog w) A (call (ak "zip") [R rr,R a]) Q a6 s:=by
 show Ka F.called_zip (rfl) (F.typeCall_zip_2 _ _) (F.newCall_zip_2 _ _) (λobj=>PySem.F.args_object_init_3 obj _ _) PySem.F.entry_zip_new
  (R4 rr a g 0 n 1 t u v (uY fF (kbt_pos 62) fF au)) (gS hr hg ?_)
 have WB:kZ 0 (n:Int) 1=(n:Int):=by rw[uV];split<;>lia
 show WB.symm▸?_;have z1:(Y8 s.heap 0 n 1).objs.size=s.heap.objs.size+1:=dD ..;have z2:(acW s.heap a 0 n 1).objs.size=s.heap.objs.size+2:=by rw[dD,z1]
 have z3:(acX s.heap a 0 n 1).objs.size=s.heap.objs.size+3:=by rw[dD,z2]
 have g4:(acY s.heap a 0 n 1).get? (acX s.heap a 0 n 1).objs.size=O _:=bK _ Z;have g3:(acY s.heap a 0 n 1).get? (acW s.heap a 0 n 1).objs.size=O _:=a8 _ (bK _ Z);have g2:(acY s.heap a 0 n 1).get? (Y8 s.heap 0 n 1).objs.size=O _:=a8 _ (a8 _ (bK _ Z));rw[z1,z2,z3]at g4;rw[z2]at g3;rw[z1]at g2;rw[z3];show⟨(ct _ g4 Z),h _ g4 g2 g3 (a8 _ (a8 _ (a8 _ (bK _ Z)))) (by rw[dD,z3]) λc o x=>a8 _ (a8 _ (a8 _ (a8 _ x)))⟩
def C0(A:ck)(a6:aa->ae->Prop)(s:ae)(z:ab)(TI:ab)(TO:ab)(i1:ab)(a:ab)(x:Int)(left:Int)(Q:Option aa->ae->Prop):Prop:=∀(hh:dh A) (hi:i1≠z) (hz:mU s.heap z TI TO aA) (Xk:jZ s.heap TI (R i1) (R a)) (h1:mf s.heap i1 x left 1) (Ce:left<=0) (hQ:∀h',(∀c o,c≠z->s.heap.get? c=O o->h'.get? c=O o)->Q ai {s with heap:=h'}),ax (aG prog w) A (gY (R z)) Q a6 s
def HP(c:(((ck×(aa->ae->Prop))×ae)×((ab×ab)×ab))×(((ab×ab)×Int)×(Int×(Option aa->ae->Prop)))):Prop:=C0 c.1.1.1.1 c.1.1.1.2 c.1.1.2 c.1.2.1.1 c.1.2.1.2 c.1.2.2 c.2.1.1.1 c.2.1.1.2 c.2.1.2 c.2.2.1 c.2.2.2
def js:=Iu HP inferInstance
def x_:=js.1.1.2
def Nk:=js.1.2.1.1
def Nl:=js.1.2.1.2
def Nm:=js.1.2.2
def acZ:=js.2.1.1.1
def HQ:=js.2.1.2
theorem y_:C0 js.1.1.1.1 js.1.1.1.2 x_ Nk Nl Nm acZ js.2.1.1.2 HQ js.2.2.1 js.2.2.2:=λhh hi hz Xk h1 Ce hQ=>by
 have hT:x_.TypeIs (R Nk) "zip" :=ct _ hz Z;show ag (sG (kT hT Fp
  (jV Fp hT Vw ?_ (Vt _))))
 show(?_:ax _ _ (sN (R Nk) 2>>=_) _ _ _);show ag<|fX hz Z (x:=dB af) Z<|ag<|fX hz Z (x:=R Nl) Z<|ag<|jG Xk Z<|ag<|ag<|fX hz Z (x:=aA) Z<|aB<|ag<|mS<|ag<|fX hz Z (x:=R Nm) Z<|ag (Am hz bz λU HK HL=>?_);replace HK:mU U Nk Nl Nm JJ:=HK;show ag<|ag<|ag<|J6<|ag<|CY hh (HL.extBut _ _ hi h1) Ce λkq e xf he=>bh he λoe hoe hce=>have aeB:=xf _ _ HK;Am aeB bz λuk _ HM=>ag<|mQ (T:= "StopIteration") (b:=N) (ct oe (HM.extBut _ _ (λHQ=>by subst HQ;rw[aeB]at hoe;obtain rfl:=aV hoe;simp at hce) hoe) hce) J0<|aB (hQ _ λc o c1 HQ=>HM.extBut _ _ c1 (xf _ _ (HL.extBut _ _ c1 HQ)))
theorem ac0{z:ab}{TI:ab}{TO:ab}{i1:ab}{x:Int}{left:Int}{Q:Option aa->ae->Prop}:C0 A a6 s z TI TO i1 a x left Q:=hen (P:=HP) y_ ((((A,a6),s),((z,TI),TO)),(((i1,a),x),(left,Q)))
noncomputable def lx(ws:Nat->Nat)(i:Nat):List Int:=(aI i).map λj=>aj (ws j)
theorem Cf(ws:Nat->Nat)(i:Nat):lx ws (i+1)=lx ws i++[aj (ws i)]:=by
 delta lx
 rw[sU,j3];rfl
section
variable{F:zx}{ws:Nat->Nat}
inductive afF(A:ck)(a:ab)(g:Nat)(aS:ab)(fp wr:List ab)(n₀:Nat)(F:zx)(ws:Nat->Nat)(z TI TO i1 bp a0:ab)(s:ae)(k:Nat)(Y:ae):Prop
 |mk (i:Nat) (m':aP->Option aa) (ys:List aa) (n:Nat) (u0 u1:aa) (e:k=n₀+1 - i) (hi:i<=n₀) (hz:mU Y.heap z TI TO aA) (ti:jZ Y.heap TI (R i1) (R a)) (to:jZ Y.heap TO u0 u1) (r:mf Y.heap i1 (i:Int) ((n₀:Int) - i) 1)
  (g1:lE A.in1 a g aS fp wr n₀ F i Y) (nn:Y.heap.Ns bp m') (d:Y.heap.get? a0=O (br ys n)) (ia:fh ys (lx ws i)) (t:Tg g (z::TO::i1::bp::a0::aS::wr) s Y)
theorem aeC{x b c e f g:ab}{l:List ab}{P:Prop}(h:x∉a::b::c::d::e::f::g::l)(k:x≠a->x≠b->x≠c->x≠d->x≠e->x≠f->x≠g->x∉l->P):P:=
 have h1:=Mo h;have h2:=Mo h1;have h3:=Mo h2;have h4:=Mo h3;have h5:=Mo h4;have h6:=Mo h5
 k (vw h) (vw h1) (vw h2) (vw h3) (vw h4) (vw h5) (vw h6) (Mo h6)
theorem aif{x b c e f:ab}{l:List ab}{P:Prop}(h:x∉a::b::c::d::e::f::l)(k:x≠a->x≠b->x≠c->x≠d->x≠e->x≠f->x∉l->P):P:=
 aeC (gZ (yl x).symm h) λ_=>k
theorem PT{x b c:ab}{l:List ab}(h1:x≠a)(h2:x≠b)(h3:x≠c)(h:x∉l):x∉a::b::c::l:=gZ h1 (gZ h2 (gZ h3 h))
theorem R5{z TI TO i1 bp a0:ab}{pk pw pw2 pt:aY}{cenv:cg}{m0:aP->Option aa}(hh:dh A)(bM:A.depth<mR)(iP:aib z TI TO i1 (a::aS::fp))(DD:a≠aS)(NW:a∉wr)(xh:cE∈fp)(NX:cE≠aS)(NY:cE∉wr)(hwf:∀b∈wr,b∈fp)(hF:F.DB)(hP:∀i v s Y,F i v s Y->∃tk,v=ah (aj (ws i)) tk)(hn:n₀<=1000)(hK:bp∉z::TI::TO::i1::a0::a::aS::fp)(hD:a0∉z::TI::TO::i1::a::aS::fp)(afG:cenv.locals=bp)(zq:cenv.scope.kind=d0)(akB:cenv.kindOf (NM 92)=O cZ)(hk7:cenv.kindOf (NM 7)=O cZ)(hz:mU s.heap z TI TO aA)(Xk:jZ s.heap TI (R i1) (R a))(hTO:∃u0 u1,jZ s.heap TO u0 u1)(h1:mf s.heap i1 0 n₀ 1)(hg:lE A.in1 a g aS fp wr n₀ F 0 s)(wJ:s.heap.Ns bp m0)(ot:s.heap.get? a0=O (br [] 0))(hR:∀Y ys n m',Tg g (z::TO::i1::bp::a0::aS::wr) s Y->Y.heap.get? a0=O (br ys n)->fh ys (lx ws n₀)->Y.heap.Ns bp m'->(∀b∈aS::fp,∃o,Y.heap.get? b=O o)->aM (cf cJ) Y):
 CC A (hb (cP (ar (NM 7) pw) [⟨il [ar (NM 92) pk,ar (NM 7) pw2] 0 pt,iter,[],0⟩] scope pos) 0 (R z) (R a0) cenv) s aM:=by
 subst afG;show aeC hK λK1 K2 K3 K4 K5 K6 K7 K8=>aif hD λD1 D2 D3 D4 D6 D7 D8=>ua Z Z (afF A a g aS fp wr n₀ F ws z TI TO i1 cenv.locals a0 s) ?_ (n₀+1) (ji hTO λu0 u1 e=>⟨0,m0,[],0,u0,u1,rfl,fg _,hz,Xk,e,h1,hg,wJ,ot,qw,.refl _ _ _⟩);rintro k Y Kp P1 P2 P3 P4 Kh H0 H1 H2 H3 _ H4 ⟨i,m',ys,n,u0,u1,dX,hi,z1,ti1,to1,r1,g1,ns1,d1,ia,t1⟩;by_cases jA:i<n₀
 .show PR (P:=λi v=>∃tk,v=ah (aj (ws i)) tk) bM iP DD NW xh NX NY hwf hF hP z1 ti1 to1 r1 au g1 jA λv s1 T tk hv hz2 akC akD hr2 hT2 hTn g2 t2=>?_;obtain⟨tw,rfl⟩:=hv;have akE:∀b o,Y.heap.get? b=O o->b≠T:=λb o e q=>by have e:=hTn▸q▸e;ext
  show H1 _ _<|cR<|wpAny_letOwnedTupleGo_zip hz2 λh3 hz3 z_=>have hT3:Heap.IsTuple h3 T #[ah (i:Int) tk,ah (aj (ws i)) tw]:=⟨_,z_.extBut _ _ (eO (akE z _ z1)) hT2,rfl,0,rfl⟩;cR<|wN (s:={s1 with heap:=h3}) hh hT3 λh4 k4=>Stores.local (aS:=cenv.locals) Z zq [92,7] [(i:Int),aj (ws i)] {s1 with heap:=h4} m' _ _ Z aK (λy hy=>?_) (((ns1.at' λo e=>t2.keep _ o (PT K1 K3 K4 (gZ K7 (λq=>K8 (hwf _ q)))) e).at' λo e=>z_.extBut _ o K1 e).at' λo e=>k4 _ o e) λs5 m5 sb5 o5 dr5 gn5 ns5 hm5 _=>?_
  .apply rY hy
   .show akB
   .show hk7
  show H2 _<|uM<|H3 _<|dG (hm5 1 7 (aj (ws i)) Z Z) λt7 e7=>(cR (qZ (xA zq hk7 ns5 e7 ?_) (wD 7)));have k15:∀b o,b∉[z,cenv.locals]->s1.heap.get? b=O o->s5.heap.get? b=O o:=λb o D e=>Dg D λh1 h2=>sb5.extBut _ _ h2 (k4 _ _ (z_.extBut _ _ h1 e));have hly:ys.length=i:=by have:=ia.length;simpa[lx] using this
  show H4 _ _<|cR (Aj (items:=ys.toArray) ⟨n,(k15 a0 _ (Mn D1 (eO K5)) (t2.keep _ _ (PT D1 D3 D4 (gZ D7 (λq=>D8 (hwf _ q)))) d1))⟩ (λh8 Q0 wb=>?_) (by have:fc=16777216:=jX;simp;lia));show dG Q0 λn8 e8=>?_;have k18:∀b o,b∉[z,cenv.locals,a0]->s1.heap.get? b=O o->h8.get? b=O o:=λb o D e=>FV D λh1 h2 h3=>wb.extBut _ _ h3 (k15 _ _ (Mn h1 h2) e);have t5:Tg g [z,cenv.locals,a0] s1 {s5 with heap:=h8}:=⟨k18,o5,dr5,by rw[show({s5 with heap:=h8}:ae).gens=s1.gens from gn5];show .refl _ _⟩;have YP:∀b,b∈TI::TO::i1::a::aS::fp->b∉[z,cenv.locals,a0]:=λb D q=>Df (P:=λb=>b∈TI::TO::i1::a::aS::fp->False) q (PT (eO iP.1) (eO iP.2.1) (eO iP.2.2.1) iP.2.2.2.2.2.2.1) (PT K2 K3 K4 (gZ K6 (gZ K7 K8))) (PT D2 D3 D4 (gZ D6 (gZ D7 D8))) D;show Kh (n₀+1 - (i+1)) _ (dX▸rx (kV jA) (jb i)) ⟨i+1,m5,ys++[ah (aj (ws i)) t7],n8,ah (i:Int) tk,ah (aj (ws i)) tw,rfl,jA,(wb.extBut _ _ (eO D1) (sb5.extBut _ _ (eO K1) (k4 _ _ hz3))),k18 _ _ (YP _ bB) akC,k18 _ _ (YP _ bB) akD,?_,?_,ns5.at' λo e=>wb.extBut _ o K5 e,?_,?_,?_⟩
  .have e2:(n₀:Int) - ((i+1:Nat):Int)=(n₀:Int) - i - 1:=by lia
   rw[e2,(by lia:((i+1:Nat):Int)=(i:Int)+1)];show k18 _ _ (YP _ bB) hr2
  .have gl:lE A.in1 a g aS fp wr n₀ F (i+1) {s5 with heap:=h8}:=g2.later xh (λb D o e=>k18 b o (YP b (by simp only[bu]at D ⊢;show aH (aH (aH D)))) e) λgs e=>(show({s5 with heap:=h8}:ae).gens=s1.gens from gn5).symm▸e;show gl
  .rw [e8];simp[br]
  .rw [Cf];show ia.append (yB _ _ qw)
  .show (t1.trans t2 λd hd=>ao ?_).trans t5 λd hd=>ao ?_
   .simp only[bu]at hd ⊢;rcases hd with q|q|q|q|q<;>ext
   .simp only[bu,mX,or_false]at hd ⊢;rcases hd with q|q|q<;>ext
 .have:i=n₀:=by lia
  cases this
  show cR<|ac0 hh iP.2.2.1 z1 ti1 r1 au λh' hk=>H0 _ (hR _ ys n m' (t1.trans (Tg.heap (X:=[z]) (tk:=Y.toks) λb o D e=>hk b o (vw D) e) λd hd=>?_) (hk _ _ D1 d1) ia (ns1.at' λo e=>hk _ o K1 e) λb D=>dG (g1.there b D) λo e=>⟨o,hk _ _ (λq=>iP.2.2.2.2.2.2.1 (bZ _ (q▸D))) e⟩);apply jT hd;show ao bB
end
section
variable{Q:b8->ae->Prop}
theorem R6{a:Nat}{np2 np3 PU:aY}(B:cA U mg mb)(I:dQ mg mb)(hz:Gi L "zip")(hr:Gi L "range")(he:V H U A L J G e (aT n) af)(dH:cG e=af)(E:cq G x=O (k,aX (R a)))(r:ER H U L J s.heap G)(hg:∀Y,dz H s Y->Y.heap.IsGen a g)(hn:n<=1000):
 T A (aZ (bI (ar (aC "zip") np) [bI (ar (aC "range") np2) [e] [] PU,ar (NM x) np3] [] pos) J) s (λv aD=>∃z TI TO i1,v=R z/\dz H s aD/\(∀y∈[z,TI,TO,i1],s.heap.get? y=ai)/\
  TI≠z/\TO≠z/\i1≠z/\TI≠TO/\TI≠i1/\TO≠i1/\mU aD.heap z TI TO aA/\jZ aD.heap TI (R i1) (R a)/\jZ aD.heap TO aA aA/\mf aD.heap i1 0 n 1):=by
 have hI:=I ("zip",ak "zip") aK;show ma<|(ez B r hz hI.1 hI.2 (rfl)).Dj<|A1 (E8 (mC ("range") ("range") B I aK hr (rfl) (fJ.cons he fJ.nil dH) (by simp[dW,dH]) r λvs aD F e1 V1=>?_) Z) Z (rfl);apply nJ V1;show λt=>sH<|have e2:dz H s {aD with heap:=aD.heap.push {cls:=ak "range",data:=bH #[ah 0 aD.toks,ah (aj n) t,ah 1 (aD.toks+1)]},toks:=aD.toks+1+1}:=e1.trans ⟨.push _ _,rfl,rfl,rfl⟩;E8 (T.Dj (ui (r.ext e2.ext) E) ?_) Z;show E9 (Y9 (bK _ Z) (hg _ e2) hn λh' z1 ti to r1 sz k=>?_);have nN:∀m:Nat,s.heap.get? ((aD.heap.push {cls:=ak "range",data:=bH #[ah 0 aD.toks,ah (aj n) t,ah 1 (aD.toks+1)]}).objs.size+m)=ai:=λm=>e2.ext.new (by
  cases q:(aD.heap.push {cls:=ak "range",data:=bH #[ah 0 aD.toks,ah (aj n) t,ah 1 (aD.toks+1)]}).get? ((aD.heap.push {cls:=ak "range",data:=bH #[ah 0 aD.toks,ah (aj n) t,ah 1 (aD.toks+1)]}).objs.size+m) with
  |none=>rfl
  |some o=>show absurd (cn q) (j5.mpr (ja _ _)))
 show⟨_,_,_,_,rfl,e2.trans ⟨.of_keep k,rfl,rfl,rfl⟩,λy hy=>?_,λq=>absurd (yk q) (uf Z),λq=>absurd (yk q) (uf Z),λq=>absurd (yk (m:=0) q) (uf Z),λq=>absurd (yk q) (uf Z),λq=>absurd (yk (k:=0) q) (uf Z),λq=>absurd (yk (k:=0) q) (uf Z),z1,ti,to,r1⟩;apply tI hy
 .show nN 3
 .show nN 1
 .show nN 2
 .show nN 0
end
theorem PL.erE(p:PL H U L J aJ bq bA G S bw Gs s):ER [] s.heap L J s.heap G:=
 have e:=p.er
 ⟨.refl _,e.kind,e.gl,e.Wh,e.glob,e.bi,e.loc,e.has⟩
theorem A_{a:Nat}{Ia cl b:ab}{oa oC oI RV:bj}{gs:eS}{pw pk pw2 pt np2 np3 aih PU:aY}(hh:dh A)(bM:A.depth<900)(B:cA U mg mb)(I:dQ mg mb)(hT:gi U)(p:PL H U L J aJ bq bA G S bw Gs s)(hG:lV G)(hc:ed L scope [] [92,7])(hz:Gi L "zip")(hr:Gi L "range")(he:V [] s.heap A L J G e (aT n) af)(dH:cG e=af)(E:cq G x=O (k,.ptr (.ref a)))(hn:n<=1000)(Wt:Ϻ U ns b dx d a g aS Ia cl n oa oC oI RV gs)(hL:∀y∈[(a,oa),(aS,oC),(Ia,oI),(cl,RV)],y∈bw)(hS:∀y∈jk b dx d ns,y∈S)(hGs:(g,gs)∈Gs)(DD:a≠aS)(haI:a≠Ia)(hmC:ki oC=N)(hmI:ki oI=N)(hL':∀y∈L',y∈bw/\y.1≠aS/\y.1≠Ia)(hq:∀Y a0 ys m,fh ys (lx (λi=>wordAt ns (8 * i)) n)->PL H U L J aJ bq bA G S ((a0,br ys m)::L') [] Y->Q (.ref a0) Y):
 C A (aZ (.ListComp (.Name (NM 7) pw) [⟨.Tuple [.Name (NM 92) pk,.Name (NM 7) pw2] 0 pt,.Call (.Name (aC "zip") np) [.Call (.Name (aC "range") np2) [e] [] PU,.Name (NM x) np3] [] aih,[],0⟩] scope pos) J) s Q:=by
 have r0:=p.erE;show bh (hc.Ol r0 Z) λXl jB _=>?_;have B_:∀s2:ae,(uh s.heap s2.heap)->s2.gens=s.gens->∀A':ck,dh A'->lE A' a g aS (PH U++[b,dx,d,cl,Ia]) [Ia] n (xn ns) 0 s2:=λs2 k2 g2 A' RH=>
  Wt s2 (λy o ht e=>k2 _ _ (p.ps.ext.keep y o ht e)) (λy hy=>k2 _ _ (p.getL (hL y hy))) (λy hy=>k2 _ _ (p.sg y (hS y hy)).1) (by show g2.symm▸?_;show(p.gk _ hGs).1) A' RH
 show PO (gs:=[]) hc Z (λ_=>rfl) jB<|Lake.T.wx (R6 (a:=a) (g:=g) (p.ps.base B) I hz hr he dH E r0 (λY e'=>(B_ Y (e'.keeps.elim λh' q=>q.elim λtk q=>q.1▸q.2) e'.gens A hh).gen) hn) λv s1 oq=>gv oq λz TI TO i1 hv e1 nN i=>dU i λd1 d2 d3 d4 d5 d6 z1 i=>hx i λti1 to1 r1=>hv▸have ke:∀b o,s.heap.get? b=O o->s1.heap.get? b=O o:=e1.keeps.elim λh' q=>q.elim λtk q=>q.1▸q.2;cR (JX z1 ?_);intro a0 bp h3 tk _ _ old hD1 hK1 ε ot sd;have neD:∀b o,s1.heap.get? b=O o->a0≠b:=λb o e q=>by have e:=hD1▸q.symm▸e;ext
 have neK:∀b o,s1.heap.get? b=O o->bp≠b:=λb o e q=>by have e:=hK1▸q.symm▸e;ext
 have exs:∀y∈a::aS::(PH U++[b,dx,d,cl,Ia]),∃o,s.heap.get? y=O o:=λy hy=>by have hw:=B_ s (λ_ _ e=>e) Z A hh;show bf (bu.mp hy) (λq=>eY hw.gen λo _ _ e _=>⟨o,by rw[q];show e⟩) λq=>hw.there y q
 have apart:∀y∈[z,TI,TO,i1],y∉a::aS::(PH U++[b,dx,d,cl,Ia]):=λy hy q=>by show dG (exs y q) λo e=>?_;have e:=(nN y hy)▸e;ext
 have hcL:∀y∈[aS,Ia],cE≠y:=λy hy q=>by
  show og λgG kG=>bh B.lim λmc i1 _=>eY i1 λo _ _ e _=>kG ?_;clear kG gG;have:U.get? y=ai:=by
   apply rY hy
   .show (p.lg _ (hL (aS,oC) bB)).2.2.2.1
   .show (p.lg _ (hL (Ia,oI) bB)).2.2.2.1
  have this:=e▸q.symm▸this;ext
 have ex1:∀y∈z::TI::TO::i1::a::aS::(PH U++[b,dx,d,cl,Ia]),∃o,s1.heap.get? y=O o:=λy hy=>by
  rcases bu.mp hy with q|hy
  .show ⟨_,q▸z1⟩
  rcases bu.mp hy with q|hy
  .show ⟨_,q▸ti1⟩
  rcases bu.mp hy with q|hy
  .show ⟨_,q▸to1⟩
  show bf (bu.mp hy) (λq=>⟨_,q▸r1⟩) λhy=>dG (exs y hy) λo e=>⟨o,ke y o e⟩
 have hDn:a0∉z::TI::TO::i1::a::aS::(PH U++[b,dx,d,cl,Ia]):=λq=>dG (ex1 a0 q) λo e=>(neD _ _ e Z);have hKn:bp∉z::TI::TO::i1::a0::a::aS::(PH U++[b,dx,d,cl,Ia]):=λq=>by
  have q2:bp=a0\/bp∈z::TI::TO::i1::a::aS::(PH U++[b,dx,d,cl,Ia]):=by
   simp only[bu]at q ⊢;rcases q with q|q|q|q|q|q|q|q
   .show .inr (.inl q)
   .show .inr (.inr (.inl q))
   .show .inr (.inr (.inr (.inl q)))
   .show .inr (.inr (.inr (.inr (.inl q))))
   .show .inl q
   .show .inr (.inr (.inr (.inr (.inr (.inl q)))))
   .show .inr (.inr (.inr (.inr (.inr (.inr (.inl q))))))
   .show .inr (.inr (.inr (.inr (.inr (.inr (.inr q))))))
  show bf q2 (λq2=>ε q2.symm) λq2=>dG (ex1 bp q2) λo e=>(neK _ _ e Z)
 have kl:∀y∈([92,7]:LN),(jw scope J).names.lookup (NM y)=O .local:=λy hy=>by
  rcases o8 (vn:=J) (hc.locs y hy) with e|⟨e,_⟩
  .show e
  .ext
 have loop:=R5 (A:=A) (s:={s1 with heap:=h3,toks:=tk}) (a:=a) (g:=g) (aS:=aS) (fp:=PH U++[b,dx,d,cl,Ia]) (wr:=[Ia]) (n₀:=n) (F:=xn ns) (ws:=λi=>wordAt ns (8 * i)) (z:=z) (TI:=TI) (TO:=TO) (i1:=i1) (bp:=bp) (a0:=a0) (pk:=pk) (pw:=pw) (pw2:=pw2) (pt:=pt) (pos:=pos)
  (iter:=.Call (.Name (aC "zip") np) [.Call (.Name (aC "range") np2) [e] [] PU,.Name (NM x) np3] [] aih) (scope:=scope) (cenv:=ju scope Xl bp J)
  (aM:=λr Y=>match r with | .ok _=>∃m,Y.heap.Ns bp m/\∀h',gw bp Y.heap h'->Q (.ref a0) {Y with heap:=h'} | .error _=>False) (m0:=λ_=>ai)
  hh au (⟨d1,d2,d3,d4,d5,d6,apart z bB,apart TI bB,apart TO bB,apart i1 bB⟩) DD (λq=>haI (by simpa using q)) (dc _ (B9.mpr ⟨bh B.lim λmc i _=>eY i λo _ _ e _=>⟨o,e⟩,DM Z⟩)) (hcL aS bB) (λq=>hcL Ia bB (by simpa using q)) (λy hy=>by have hy:=bu.mp hy;lia) (Nc ns) (λ_ _ _ _ h=>h) hn hKn hDn Z hc.kind (kl 92 bB) (kl 7 bB)
  (old _ _ z1) (old _ _ ti1) (qB _ _ (old _ _ to1)) (old _ _ r1) (B_ {s1 with heap:=h3,toks:=tk} (λb o e=>old b o (ke b o e)) e1.gens A.in1 hh) sd ot λY ys m m' t hd ia akF hth=>?_
 .show pI Z loop (cR (JX (old _ _ z1) loop))
 .show ct m' akF (λh'' Oo=>?_);have keep:∀y o,y∉[aS,Ia]->s.heap.get? y=O o->h''.get? y=O o:=λy o hy e=>by
   have QW:=ke y o e;have hK:y≠bp:=λq=>neK _ _ QW q.symm;show Oo.extBut _ _ hK (t.keep _ _ (λhm=>?_) (old _ _ QW));simp only[bu,or_false]at hm hy;have nz:∀u∈[z,TI,TO,i1],y≠u:=λu hu q=>by have e:=(nN u hu)▸q▸e;ext
   rcases hm with q|q|q|q|q|q
   .show nz z bB q
   .show nz TO bB q
   .show nz i1 bB q
   .show hK q
   .show neD _ _ QW q.symm
   .show hy q
  show hq _ a0 ys m ia (p.move hG hT (X:=[aS,Ia]) keep (t.os.trans e1.os) (t.drawn.trans e1.drawn) ?_ (λy hy=>?_) (λy hy=>?_) (zk))
  .show l6.new (b:=s.gens) p.mod.gens ?_ (p.gk _ hGs).2;have:=t.gens;rw[show({s1 with heap:=h3,toks:=tk}:ae).gens=s.gens from e1.gens]at this;show this
  .have hKC:∀u∈aS::(PH U++[b,dx,d,cl,Ia]),u≠bp:=λu hu q=>hKn (by show q▸?_;simp only[bu]at hu ⊢;show .inr (.inr (.inr (.inr (.inr (.inr hu))))));apply rY hy
   .show ct oC (hL _ bB) hmC
   .show ct oI (hL _ bB) hmI
  .rcases bu.mp hy with q|q
   .show q▸⟨.inr ?_,Oo.extBut _ _ ε hd⟩;cases q2:s.heap.get? a0 with|none=>rfl|some o=>show absurd Z (neD _ _ (ke _ _ q2))
   .show hx (hL' y q) λq1 q2 q3=>⟨.inl (bG.mpr (ct y q1 Z)),keep _ _ (by simp[q2,q3]) (p.getL q1)⟩
def wordsOf(ns:LN)(n:Nat):LN:=(aI n).map λi=>wordAt ns (8 * i)
theorem Nn(ns:LN)(n:Nat):lx (λi=>wordAt ns (8 * i)) n=(wordsOf ns n).map λx=>aj x:=by
 delta lx wordsOf
 rw[qk];rfl
section
variable{Q:b8->ae->Prop}
theorem PL.ac1(p:PL H U L J aJ bq bA G S bw Gs s)(h:∀y∈L',y∈bw):PL H U L J aJ bq bA G S L' Gs s:=
 ⟨lZ p.fr λW r a b c=>(wB W r a b (λy hy=>c y (h y hy))),p.sg,λy hy=>p.lg y (h y hy),p.mod,p.lD,p.gk⟩
theorem C_{k2 a bt:Nat}{Ia cl b:ab}{oa oC oI RV:bj}{gs:eS}(hh:dh A)(bM:A.depth<900)(B:cA U mg mb)(I:dQ mg mb)(I2:t9 mg mb)(dA:DW U P t fd)(hT:gi U)(p:PL H U (bg jq) J aJ bq bA G S bw Gs s)(hG:lV G)(dH:bW G 93=N)(E:cq G 71=O (k,aX (R a)))(hec:cq G 98=O (k2,aX (R i)))(hE:Cb U i [1,bt,n])(hn:n<=100)(hw:lY (wordsOf ns n))(Wt:Ϻ U ns b dx d a g aS Ia cl n oa oC oI RV gs)(hL:∀y∈[(a,oa),(aS,oC),(Ia,oI),(cl,RV)],y∈bw)(hS:∀y∈jk b dx d ns,y∈S)(hGs:(g,gs)∈Gs)(DD:a≠aS)(haI:a≠Ia)(hmC:ki oC=N)(hmI:ki oI=N)(hL':∀y∈L',y∈bw/\y.1≠aS/\y.1≠Ia)(kk:∀Y bl,(∀y∈S,y.1≠bl)->(∀y∈L',y.1≠bl)->PL H U (bg jq) J aJ bq bA (jm G 93 0 (aX (R bl))) ((bl,kB (wordsOf ns n))::S) L' [] Y->C A (aU rest J) Y Q):
 C A (aU (bc RY 0::rest) J) s Q:=by
 have hI:=I ("bytearray",ak "bytearray") aK;show iq<|Ac (x:=93) Z<|fU<|T.wW (ez (p.ps.base B) p.erE Z hI.1 hI.2 (rfl))<|dg (rfl) (ej (cx (A_ (L':=L') (n:=n) (x:=71) hh bM B I hT p hG (ed.of (rfl)) Z Z (Jw (x:=98) bM (p.ps.base B) I I2 (dA.ext p.ps.ext) (hE.ext p.ps.ext) hec) Z E au Wt hL hS hGs DD haI hmC hmI hL' λs2 a0 ys m ia p2=>c8 (iG ⟨rfl,?_⟩))));rw[Nn]at ia;show uH ("list") m (p2.getL (cQ ..)) (ao Z) ia hw.1 hw.2<|bh p2.open λW2 ps2 D_=>have p3:=D_ _ _ _ _ (ps2.sh (o:=kB (wordsOf ns n)) (tk:=s2.toks) B Z Z);have p3:PL H U (bg jq) J aJ bq bA G ((s2.heap.objs.size,kB (wordsOf ns n))::S) L' [] {s2 with heap:=s2.heap.push (kB (wordsOf ns n)),toks:=s2.toks}:=p3.ac1 λy hy=>bZ _ hy;T.wx (p3.store (ao Z) dH (.ir _)) λ_ s4 p4=>kk s4 _ (λy hy q=>?_) (λy hy q=>?_) p4
 .have:=cn (p2.sg y hy).1;rw[q]at this;show gx _ this
 .have:=cn (p2.getL (dF _ hy));rw[q]at this;show gx _ this
end
section
variable{Q:b8->ae->Prop}
theorem HR{lo:aw}(ho:U.get? a=O (kB ns))(ht:a∉bY)(hB:lY ns)(he:V H U A L J G e (aX (R a)) af)(hh:V H U A L J G lo (aT k) af)(hk:k<=ns.length):
 ϲ H U A L J G (dk e (mj (O lo) eU eU p) pos) (ns.drop k):=λs r=>by
 show rH<|(he r).Z7 λaD e1=>El<|(hh (r.ext e1.ext)).Cx λt de e2=>aB<|aB<|have O':=e1.trans e2;ϳ (oT _ t) LR O' ((r.base.trans O'.ext).keep a _ ht ho) hB ?_ Z;rw[VS];simp only[UK,TM,clipAt_nat,ib,AS hk];rw[Ju,Kw fF]
theorem E_{q p1 cp:aY}(p:PS H U L J aJ bq bA G S s)(B:cA U mg mb)(I:dQ mg mb)(kO:Gi L "bytearray")(hy:cq G y=O (k,aX (R a)))(ha:(a,kB ns)∈S)(hn:lY ns)(dH:bW G x=N)(E:Hx L x)(hs:fu (bI (ar (aC "bytearray") np) [ar (NM y) p1] [] cp) (O (ar (NM x) q)) pos.line J=pure af)(kk:∀Y b,(∀z∈S,z.1≠b)->PS H U L J aJ bq bA (jm G x 0 (aX (R b))) ((b,kB ns)::S) Y->C A (aU rest J) Y Q):
 C A (aU (fE [ar (NM x) q] (bI (ar (aC "bytearray") np) [ar (NM y) p1] [] cp) pos::rest) J) s Q:=by
 have hI:=I ("bytearray",ak "bytearray") aK;show yR (τ':=H) (U:=U) (aJ:=aJ) (bq:=bq) (bA:=bA) dH E hs<|fU<|T.wW (ez (p.base B) p.er kO hI.1 hI.2 (rfl))<|dg (rfl) (ej (cx (Lake.T.wW (ui p.er hy) (c8 (iG ⟨rfl,?_⟩)))));show Ζ (b:=wk ns) (p.get ha) (by rw[ib];show hn.2) ((DO _ (aX (R s.heap.objs.size)) [] (p.sh (o:=kB ns) (tk:=s.toks) B Z Z) (.ir _) Z (λY p'=>kk Y _ (λz hz e=>?_) p')));have:=cn (p.sg z hz).1;rw[e]at this;show gx _ this
end
def gR(m1 m2 l1 l2 gp rr bl:ab)(ne:Nat):ig:=[(101,0,.ptr (.ref rr)),(100,0,.ptr (.ref gp)),(99,0,aT ne),(97,0,.ptr (.ref 1890)),(96,0,.ptr (.ref 1888)),(95,0,.ptr (.ref m2)),(94,0,.ptr (.ref m1)),(93,0,.ptr (.ref bl)),(86,0,.ptr (.ref l2)),(85,0,.ptr (.ref l1))]
section
variable{Q:b8->ae->Prop}
theorem PL.less(p:PL H U L J aJ bq bA G S bw Gs s)(g:ko G' G):PL H U L J aJ bq bA G' S bw Gs s:=
 ⟨bh p.fr λW r a=>(ct W (r.less g) a),p.sg,p.lg,p.mod,p.lD,p.gk⟩
theorem PL.inter(p:PL H U L J aJ bq bA G S bw Gs s)(hk:L.kind= .function):iI J=af:=by delta iI;show p.scope.symm▸hk.symm▸?_;rfl
theorem PL.aii(p:PL H U L J aJ bq bA G S bw Gs s)(h:∀y∈S',y∈S):PL H U L J aJ bq bA G S' bw Gs s:=
 ⟨lZ p.fr λW r a b c=>(wB W r a (λy hy=>b y (h y hy)) c),λy hy=>p.sg y (h y hy),λy hy=>je (p.lg y hy) λa b c d e=>(XZ a b c d (λq=>e (bh (bG.mp q) λz hz q2=>bG.mpr ⟨z,h z hz,q2⟩))),p.mod,λy hy=>p.lD y (h y hy),p.gk⟩
theorem ac2{lg ex:LN}{Lx:Sg}{m1 m2 l1 l2 gp rr bl n1 n2:Nat}{tr ur vr:aW}(hh:dh A)(B:cA U mg mb)(I:dQ mg mb)(hT:gi U)(T1:j_ U lg ex gen gp)(p:PL H U (bg jq) J aJ bq bA G ((bl,kB ws)::S) bw [] s)(hG:ko (gR m1 m2 l1 l2 gp rr bl gen.length) G)(hL:∀y∈[(l1,br [] n1),(l2,br [] n2),(m1,nU "list.append" (.ref l1)),(m2,nU "list.append" (.ref l2))],y∈bw)(h12:l2≠l1)(hm2:m2≠l1)(hw:lY ws)(dM:ws.length<=100)(hr:(rr,mJ gen.length tr ur vr)∈S)(hLx:∀y∈Lx,y∈bw/\y.1≠l1/\y.1≠l2)(kk:∀Y N0 k1 k2,(∀y∈S,y.1≠N0)->bl≠N0->PL H U (bg jq) J aJ bq bA [(86,0,.ptr (.ref l2)),(85,0,.ptr (.ref l1))] ((N0,kB ((gU lg ex gen (ws++cb gen.length 0) ws.length).drop ws.length))::(bl,kB ws)::S) ((l1,br [.ref bl] k1)::(l2,br [.ref N0] k2)::Lx) [] Y->C A (aU rest J) Y Q):
 C A (aU (bc RY 1::bc RY 2::bc RY 3::bc RY 4::bc RY 5::bc RY 6::rest) J) s Q:=by
 have hg1:=T1.2.2.2.2.2.2.2.2;have wy:=p.inter Z;show Xn (x:=94) (k:=0) (m:=m1) (l:=l1) (n:=n1) (vs:=[]) hT (p.less hG) (lV.of bD) Z (hL (m1,nU "list.append" (.ref l1)) bB) (hL (l1,br [] n1) bB) (fg _) Z wy Z λW ps=>Lake.T.wW (ui ps.er (x:=93) Z)<|ct _ ps (λs2 n1' p2=>?_);have p2:=p2.ac1 (L':=(l1,br [.ref bl] n1')::(l2,br [] n2)::(m2,nU "list.append" (.ref l2))::Lx) λy hy=>zH hy (ew _ (by show bJ.mpr Z)) λhy=>zH hy (dc _ (gq.mpr ⟨hL (l2,br [] n2) bB,by simpa using h12⟩)) λhy=>zH hy (dc _ (gq.mpr ⟨hL (m2,nU "list.append" (.ref l2)) bB,by simpa using hm2⟩)) λhy=>hx (hLx y hy) λq1 q2 q3=>(dc _ (gq.mpr ⟨q1,by simpa using q2⟩));show bh p2.open λW2 q2 D_=>PS.asg (x:=102) (av:=aT ws.length) q2 (uI (a:=bl) (q2.base B) I Z (q2.get (cQ ..)) (q2.sg _ (cQ ..)).2.1 hw (aq 93 Z) Z) Z Z v7 Z λs3 q3=>E_ (x:=103) (y:=93) (k:=0) (a:=bl) q3 B I Z Z (cQ ..) hw Z v7 Z λs4 eb heb q4=>have aij:lY (ws++cb gen.length 0):=hw.app fF jQ;Ϫ (d:=eb) (ns:=ws) (ms:=cb gen.length 0) (S':=(eb,kB (ws++cb gen.length 0))::(bl,kB ws)::S) hh q4 (aq 103 Z) (Px (n:=0) (k:=gen.length) (q4.base B).top (pv (n:=0) (q4.base B).top (aR 0) Z) (aq 99 Z) au)
  (cQ ..) fF jQ Z Z Z wy (λy hy=>?_) λs5 q5=>?_
 .rcases bu.mp hy with e|e
  .left;rw[e];show⟨rfl,rfl⟩
  .show .inr ⟨heb y e,bZ _ e⟩
 show afD (m1:=m1) (m2:=m2) (l1:=l1) (l2:=l2) (nd:=ws.length) (S:=(bl,kB ws)::S) hh B I T1 q5 (ko.rf bD bD) aij fF (bZ _ hr) heb λs6 q6=>Xn (x:=95) (k:=0) (m:=m2) (l:=l2) (n:=n2) (vs:=[]) hT (D_ _ _ _ _ q6) (lV.of bD) Z bB bB (fg _) Z wy Z λW7 ps7=>Lake.T.wx (HR (a:=eb) (k:=ws.length) (ps7.get (cQ ..)) (ps7.sg _ (cQ ..)).2.1 (Xt (lg:=lg) (gen:=gen) T1.2.2.2.2.2.2.1 aij ws.length) (aq 103 Z) (aq 102 Z) (by rw[(xp (lg:=lg) (ex:=ex) (gen:=gen) (eb:=ws++cb gen.length 0) ws.length)];simp) ps7.er) λv s8 ξ=>oW ξ λe8 b2 hv hb2 akG=>hv▸?_;have p8:=ps7.grown hT e8.pe (bw:=[(b2,kB ((gU lg ex gen (ws++cb gen.length 0) ws.length).drop ws.length))]) λy hy=>by apply jT hy;show gS hb2 akG Z
 have nb2:∀y∈(eb,kB (gU lg ex gen (ws++cb gen.length 0) ws.length))::(bl,kB ws)::S,y.1≠b2:=λy hy q=>by have:=(ps7.sg y hy).1;have this:=hb2▸q▸this;ext
 show ct _ p8<|λs9 n2' p9=>kk s9 b2 n1' n2' (λy hy=>nb2 y (bZ _ (bZ _ hy))) (nb2 _ (bZ _ (cQ ..))) (((p9.aii λy hy=>?_).ac1 λy hy=>zH hy (dc _ (gq.mpr ⟨by ext,by simpa using eO h12⟩)) λhy=>zH hy (ew _ (bJ.mpr Z)) λhy=>hx (hLx y hy) λq1 q2 q3=>(dc _ (gq.mpr ⟨by ext,by simpa using q3⟩))).less (ko.rf bD bD));rcases bu.mp hy with e|e
 .rw [e];lia
 .show ew _ (bZ _ e)
end
section
variable{Q:b8->ae->Prop}
inductive aeD(U:aN)(L:c9)(J:cg)(aJ:ae)(bq bA:List ab)(A:ck)(rest:List bT)(Q:b8->ae->Prop)(I:ab)(o1:bj)(s2:ae):Prop
 |mk (τ':List ab) (G2:ig) (S2 L2:Sg) (Gs2:List (Nat×eS)) (p:PL τ' U L J aJ bq bA G2 S2 L2 Gs2 s2) (hG:lV G2) (hI:(I,o1)∈L2)
  (k:∀s3,PL τ' U L J aJ bq bA G2 S2 (L2.filter λy=>y.1 != I) Gs2 s3->C A (aU rest J) s3 Q)
def F_(H:List ab)(U:aN)(L:c9)(J:cg)(aJ:ae)(bq bA:List ab)(A:ck)(G:ig)(S bw:Sg)(Gs:List (Nat×eS))(x:Nat)(av:AV)(o1:bj)(body rest:List bT)(Q:b8->ae->Prop):Prop:=
 ∀s1 I,(∀z∈bw,z.1≠I)->(∀z∈S,z.1≠I)->PL H U L J aJ bq bA (jm G x 0 av) S ((I,o1)::bw) Gs s1->C A (aU body J) s1 (λf s2=>f= .next/\aeD U L J aJ bq bA A rest Q I o1 s2)
theorem PL.Xv{o0 o1:bj}(hT:gi U)(p:PL H U L J aJ bq bA G S bw Gs s)(hG:lV G)(hm0:ki o0=N)(hm1:ki o1=N)(dH:bW G x=N)(E:Hx L x)(hs:Fs iter J)(mk:∀P:aa->ae->Prop,(∀I s2,dz [] s s2->s.heap.get? I=ai->s2.heap.get? I=O o0->P (.ref I) s2)->T A (aZ iter J) s (λxv s1=>T A (gm xv) s1 P))(nx:∀(Y:ae) I (P:Option aa->ae->Prop),Y.heap.get? I=O o0->hJ H U Y.heap->(∀v h' tk,bR h' av v []->h'.get? I=O o1->(∀b o,b≠I->Y.heap.get? b=O o->h'.get? b=O o)->P (O v) {Y with heap:=h',toks:=tk})->T A (gY (.ref I)) Y P)(en:∀(Y:ae) I τ' (P:Option aa->ae->Prop),Y.heap.get? I=O o1->hJ τ' U Y.heap->(∀h' tk,(∀b o,b≠I->Y.heap.get? b=O o->h'.get? b=O o)->P ai {Y with heap:=h',toks:=tk})->T A (gY (.ref I)) Y P)(D:F_ H U L J aJ bq bA A G S bw Gs x av o1 body rest Q):
 C A (aU (.For (.Name (NM x) px) iter body [] pos::rest) J) s Q:=by
 show iq (Rx hs ((mk _ λI s2 e2 hIn hI=>?_).wx λxv s1 q=>T.wc q));have ke:∀b o,s.heap.get? b=O o->s2.heap.get? b=O o:=e2.keeps.elim λh' q=>q.elim λtk q=>q.1▸q.2;have p2:PL H U L J aJ bq bA G S ((I,o0)::bw) Gs s2:=p.move hG hT (X:=[]) (λb o _ e=>ke b o e) e2.os e2.drawn (e2.gens▸p.mod.gens) (zk) (λy hy=>by
  rcases bu.mp hy with q|q
  .show q▸⟨.inr hIn,hI⟩
  .show ⟨.inl (bG.mpr (ct y q Z)),ke _ _ (p.getL q)⟩) (λy hy=>by show e2.gens.symm▸?_;show p.gk y hy)
 have ϰ:∀z∈bw,z.1≠I:=λz hz q=>by have:=p.getL hz;have this:=hIn▸q▸this;ext
 have hSI:∀z∈S,z.1≠I:=λz hz q=>by have:=(p.sg z hz).1;have this:=hIn▸q▸this;ext
 show Τ (λk Y=>(k=2/\Y=s2)\/(k=1/\aeD U L J aJ bq bA A rest Q I o1 Y)) ?_ 2 (.inl ⟨rfl,rfl⟩) (λ_=>rfl);rintro k Y P1 P2 P3 q0 q1 q2 q3 (⟨rfl,rfl⟩|⟨rfl,τ3,G2,S2,L2,Gs2,p3,hG2,hI2,hk⟩)
 .show T.wc (nx Y I P1 hI p2.ps.ext λv h' tk hv hI3 hk3=>?_);have p3:PL H U L J aJ bq bA G S ((I,o1)::bw) Gs {Y with heap:=h',toks:=tk}:=p2.move hG hT (X:=[I]) (λb o D e=>hk3 b o (by simpa using D) e) Z Z p2.mod.gens (λb D=>by show(bJ.mp D)▸?_;show ct o0 au hm0) (λy hy=>by
   rcases bu.mp hy with q|q
   .show q▸⟨.inl (AF Z),hI3⟩
   .show ⟨.inl (bG.mpr (ct y (bZ _ q) Z)),hk3 _ _ (ϰ y q) (p2.getL (.tail _ q))⟩) p2.gk
  show q1 _ _<|T.wx (jE (p3.store E dH hv)) λ_ s4 p4=>q2 _<|(D s4 I ϰ hSI p4).mono λf s5 ξ=>eX ξ λhf q=>hf▸q3 1 _ bz (.inr ⟨rfl,q⟩)
 .show T.wc<|en Y I τ3 P1 (p3.getL hI2) p3.ps.ext λh' tk hk3=>q0 _ (eZ (hk _ (p3.move hG2 hT (X:=[I]) (λb o D e=>hk3 b o (by simpa using D) e) Z Z p3.mod.gens (λb D=>by show(bJ.mp D)▸?_;show ct o1 hI2 hm1) (λy hy=>?_) p3.gk)));show eX (gq.mp hy) λq1 q2=>⟨.inl (bG.mpr (ct y q1 Z)),hk3 _ _ (by simpa using q2) (p3.getL q1)⟩
end
noncomputable def Xw(a n:Int):bj:={cls:=ak "range_iterator",dict:=ai,data:=bH #[dN a,dN n,dN 1],slots:=#[]}
section
variable{Q:b8->ae->Prop}
theorem Za{py:aY}{ta:ab}{m:Nat}(hh:dh A)(hT:gi U)(p:PL H U L J aJ bq bA G S bw Gs s)(hG:lV G)(hy:cq G y=O (k,aX (R ta)))(ht:U.get? ta=O (cU [v] m))(htT:ta∉bY)(dH:bW G x=N)(E:Hx L x)(hs:∀x,D9 (ar (NM y) py) J x=pure x)(D:F_ H U L J aJ bq bA A G S bw Gs x (aX v) (sj ta 1) body rest Q):
 C A (aU (lh (ar (NM x) px) (ar (NM y) py) body [] pos::rest) J) s Q:=by
 show p.Xv (o0:=sj ta 0) hT hG Z Z dH E hs (λP hP=>T.Dj (ui p.er hy) ?_) (λY I P hI x' hP=>Ho (x:=v) hI (nS (x'.keep _ _ htT ht)) Z λh' h1 h2=>hP _ _ _ (.ir _) h1 λb o D e=>h2.extBut b o D e) (λY I τ' P hI x' hP=>JN hh (kH _ hI Z Z) (nS (x'.keep _ _ htT ht)) Z λh' he=>hP _ _ λb o D e=>he b o D e) D;show JT (nS (p.ps.ext.keep _ _ htT ht)) (hP _ _ ⟨.push _ _,rfl,rfl,rfl⟩ (bF _) (bK _ Z))
theorem Np{cp:aY}(hh:dh A)(B:cA U mg mb)(I0:dQ mg mb)(hT:gi U)(p:PL H U L J aJ bq bA G S bw Gs s)(hG:lV G)(kO:Gi L "range")(he:V [] s.heap A L J G e (aT 1) af)(hse:cG e=af)(dH:bW G x=N)(E:Hx L x)(hs:∀x,D9 (bI (ar (aC "range") np) [e] [] cp) J x=pure x)(D:F_ H U L J aJ bq bA A G S bw Gs x (aT 0) (Xw 1 0) body rest Q):
 C A (aU (lh (ar (NM x) px) (bI (ar (aC "range") np) [e] [] cp) body [] pos::rest) J) s Q:=by
 show p.Xv (o0:=Xw 0 1) hT hG Z Z dH E hs (λP hP=>?_) (λY I P hI x' hP=>S8 hI aK λh' h1 h2=>hP _ _ _ (.ofInt 0 _) h1 λb o D e=>h2.extBut b o D e) (λY I τ' P hI x' hP=>Ta hh hI aK λh' he=>hP _ _ λb o D e=>he b o D e) D;show mC ("range") ("range") (p.ps.base B) I0 aK kO (rfl) (fJ.cons he fJ.nil hse) (by simp[dW,hse]) p.erE λvs aD F e1 V1=>?_;apply nJ V1;show λt=>sH (Al (a:=0) (b:=1) (c:=1) (t:=aD.toks) (u:=t) (v:=aD.toks+1) (bK _ Z) (rfl) (hP _ _ (e1.trans ⟨(hJ.push _ _).trans (.push _ _),rfl,rfl,rfl⟩) ?_ (bK _ Z)));show e1.ext.new ((show hJ [] aD.heap _ from .push _ _).new (bF _))
end
section
variable{Q:b8->ae->Prop}
theorem ac3{i:aw}{f:Int->Option aa}{k:Int}(hm:U.IntMap d f)(hd:d∉bY)(hv:f k=O v)(he:V H U A L J G e (aX (R d)) af)(hi:V H U A L J G i (a9 k) af)(r9:j9 i=af):
 V H U A L J G (dk e i pos) (aX v) fr:=λs r=>by
 show rH<|(he r).Z7 λaD e1=>(hi (r.ext e1.ext)).Cx λt aQ e2=>have hm2:aQ.heap.IntMap d f:=eY hm λo es ep h1 h2=>Bm o es ep ((r.base.trans (e1.trans e2).ext).keep d o hd h1) h2;vj hm2.typeIs slot_dict_getitem.lookup ?_ (uB r9 _ _);show wpAny_getItem_intMap hm2 hv (oY [] ((e1.trans e2).trans (.toks _ _)) (.ir _) d9)
end
section
variable{Q:b8->ae->Prop}{P2:bS}{t2:Nat->aW}{b:ab}
theorem ac4{lg ex:LN}{gp ta ei:ab}{f5:Int->Option aa}{bt m:Nat}(hh:dh A)(bM:A.depth<800)(B:cA U mg mb)(I:dQ mg mb)(I2:t9 mg mb)(X:(iD P t f).In U)(dA:acJ U f)(Ng:DW U P2 t2 fd)(hT:gi U)(T1:j_ U lg ex gen gp)(pg:1979∉H)(ku:1979∈τ')(nO:∀b∈H,b∈τ')(hg1:mg (aC "GALIOS_LOG")=O (.ref 1888))(hg2:mg (aC "GALIOS_EXP")=O (.ref 1890))(hg3:mg (aC "GEN_POLY")=O (.ref 1868))(hm5:U.IntMap 1868 f5)(hf5:f5 (aj gen.length)=O (.ref gp))(ht:U.get? ta=O (cU [.ref ei] m))(htT:ta∉bY)(hE:Cb U ei [1,bt,n+1])(hbt:bt=n+1+gen.length)(hn:lY ns)(dM:ns.length=8 * (n+1))(Ab:∀x∈ns,x<2)(hw:lY (wordsOf ns (n+1)))(HS:n+1<=100)(p:PS H U (bg jq) J aJ bq bA (qG [84,82] [.ptr (.ref ta),.ptr (.ref b)]) S s)(yU:∀y∈jk b dx d ns,y∈S)(kk:∀Y v l1 l2 bl N0 k1 k2 rr o,PL τ' U (bg jq) J aJ bq bA [(86,0,.ptr (.ref l2)),(85,0,.ptr (.ref l1))] ((N0,kB ((gU lg ex gen (wordsOf ns (n+1)++cb gen.length 0) (wordsOf ns (n+1)).length).drop (wordsOf ns (n+1)).length))::(bl,kB (wordsOf ns (n+1)))::(rr,o)::S) [(l1,br [.ref bl] k1),(l2,br [.ref N0] k2)] [] Y->
 bR Y.heap (.tuple [.ptr (.ref l1),.ptr (.ref l2)]) v []->Q (.ret v) Y):
 C A (aU (bo jq) J) s Q:=by
 change C _ (aU [bc (bo jq) 0,bc (bo jq) 1,bc (bo jq) 2,bc (bo jq) 3,bc (bo jq) 4,bc (bo jq) 5,bc (bo jq) 6,bc (bo jq) 7,bc (bo jq) 8] J) s Q;show p.s1 (S1.m (zY Z)) λs1 p1=>?_;show ahV (k1:=0) (n:=n) hh B I X dA hT au pg ku nO p1 Z Z yU hn dM Ab λs2 a g aS Ia cl oa oC oI RV gs DD haI hmC hmI Wt p2=>?_;show ahX hh hT p2 (lV.of bD) Z Z λs3 l1 l2 h12 aik p3=>?_;show PJ (x:=94) (y:=85) (k:=0) (l:=l1) (vs:=[]) (n:=0) hT p3 (lV.of bD) Z (cQ ..) Z v7 Z λs4 m1 hm1 p4=>?_;show PJ (x:=95) (y:=86) (k:=0) (l:=l2) (vs:=[]) (n:=0) hT p4 (lV.of bD) Z (bZ _ (bZ _ (cQ ..))) Z v7 Z λs5 m2 hm2 p5=>?_;show bh p5.open λW5 q5 ail=>?_;show PS.asg (x:=96) (av:=.ptr (.ref 1888)) q5 (B4 (q5.base B) Z hg1 (by decide+kernel)) Z Z v7 Z λs6 q6=>?_;show PS.asg (x:=97) (av:=.ptr (.ref 1890)) q6 (B4 (q6.base B) Z hg2 (by decide+kernel)) Z Z v7 Z λs7 q7=>?_;have p7:=ail _ _ _ _ q7;show Za (x:=98) (y:=84) (k:=0) (v:=.ref ei) hh hT p7 (lV.of bD) Z ht htT Z v7 (λ_=>rfl) λs8 I8 ϰ hSI p8=>?_;change C _ (aU [bc mbF 0,bc mbF 1,bc mbF 2,bc mbF 3] J) s8 _;show bh p8.open λW8 q8 G_=>?_;show PS.asg (x:=99) (av:=aT gen.length) q8 (V.to (lR (x:=bt) (y:=n+1) (RX (x:=98) au (q8.base B) I I2 (Ng.ext q8.ext) (hE.ext q8.ext) Z) (Jw (x:=98) au (q8.base B) I I2 (Ng.ext q8.ext) (hE.ext q8.ext) Z) au) (by rw[hbt,rq])) Z Z v7 Z λs9 q9=>?_;have hm9:s9.heap.IntMap 1868 f5:=eY hm5 λo es ep h1 h2=>Bm o es ep (q9.ext.keep _ o aK h1) h2;show PS.asg (x:=100) (av:=.ptr (.ref gp)) q9 (ac3 hm9 aK hf5 (B4 (q9.base B) Z hg3 (by decide+kernel)) (aq 99 Z) Z) Z Z v7 Z λs10 q10=>?_;show xd 101 gen.length q10 B I Z (aq 99 Z) Z Z v7 Z λrr tr ur vr s11 q11=>?_;have p11:=G_ _ _ _ _ q11;show Np (x:=14) hh B I hT p11 (lV.of bD) Z (PM (x:=98) au (p11.ps.base B) I I2 (Ng.ext p11.ps.ext) (hE.ext p11.ps.ext) Z) Z bD v7 (λ_=>rfl) λs12 I12 R7 alA p12=>?_;change C _ (aU (bc RY 0::bc RY 1::bc RY 2::bc RY 3::bc RY 4::bc RY 5::bc RY 6::[]) J) s12 _;show C_ (L':=[(I12,Xw 1 0),(I8,sj ta 1),(m2,nU "list.append" (.ref l2)),(m1,nU "list.append" (.ref l1)),(l1,jr []),(l2,jr [])]) (k:=0) (k2:=0) (i:=ei) (bt:=bt) (n:=n+1) hh au B I I2 Ng hT p12 (lV.of bD) bD bD bD hE HS hw Wt (λy hy=>?_) (λy hy=>bZ _ (yU y hy)) bB DD haI hmC hmI (λy hy=>?_) λs13 bl alB alC p13=>?_
 .apply tI hy<;>ext
 .have hC8:=aik (aS,oC) bB;have hI8:=aik (Ia,oI) bB;apply agO hy
  .show ⟨by ext,λq=>R7 (aS,oC) bB q.symm,λq=>R7 (Ia,oI) bB q.symm⟩
  .show ⟨by ext,λq=>ϰ (aS,oC) bB q.symm,λq=>ϰ (Ia,oI) bB q.symm⟩
  .show ⟨by ext,λq=>hm2 (aS,oC) bB q.symm,λq=>hm2 (Ia,oI) bB q.symm⟩
  .show ⟨by ext,λq=>hm1 (aS,oC) bB q.symm,λq=>hm1 (Ia,oI) bB q.symm⟩
  .show ⟨by ext,λq=>hC8.1 q.symm,λq=>hI8.1 q.symm⟩
  .show ⟨by ext,λq=>hC8.2 q.symm,λq=>hI8.2 q.symm⟩
 have WD:(wordsOf ns (n+1)).length<=100:=by simp[wordsOf];lia
 show ac2 (m1:=m1) (m2:=m2) (l1:=l1) (l2:=l2) (gp:=gp) (rr:=rr) (n1:=0) (n2:=0) (Lx:=[(I12,Xw 1 0),(I8,sj ta 1)]) (tr:=tr) (ur:=ur) (vr:=vr) hh B I hT T1 p13 (ko.rf bD bD) (λy hy=>?_) (eO h12) (λq=>hm2 (l1,jr []) bB q.symm) hw WD (cQ ..) (λy hy=>?_) λs14 N0 k1 k2 he1 he2 p14=>?_
 .apply tI hy
  .show bZ _ (bZ _ (bZ _ (bZ _ (cQ ..))))
  .show bZ _ (bZ _ (bZ _ (bZ _ (bZ _ (cQ ..)))))
  .ext
  .ext
 .apply rY hy
  .show ⟨by ext,λq=>R7 (l1,jr []) bB q.symm,λq=>R7 (l2,jr []) bB q.symm⟩
  .show ⟨by ext,λq=>ϰ (l1,jr []) bB q.symm,λq=>ϰ (l2,jr []) bB q.symm⟩
 have e1:l1≠I12:=λq=>R7 (l1,jr []) bB q;have e2:l2≠I12:=λq=>R7 (l2,jr []) bB q;have e3:l1≠I8:=λq=>ϰ (l1,jr []) bB q;have e4:l2≠I8:=λq=>ϰ (l2,jr []) bB q;have e5:I8≠I12:=λq=>R7 (I8,sj ta 1) bB q;show eZ ⟨rfl,_,_,_,_,_,p14,lV.of Z,by ext,λs15 p15=>eZ ⟨rfl,_,_,_,_,_,p15,lV.of Z,by simp[e5],λs16 p16=>?_⟩⟩;have p17:=p16.ac1 (L':=[(l1,br [.ref bl] k1),(l2,br [.ref N0] k2)]) λy hy=>by
  apply rY hy
  .simp [e1,e3]
  .simp [e2,e4]
 show bh p17.open λW17 q17 afH=>?_;show q17.afu (uj (avs:=[.ptr (.ref l1),.ptr (.ref l2)]) (q17.base B).top (fJ.cons (aq 85 Z) (fJ.cons (aq 86 Z) fJ.nil Z) Z) Z Z) Z λs18 v q18 hv=>kk s18 v l1 l2 bl N0 k1 k2 rr _ (afH _ _ _ _ q18) hv
end
namespace iP
theorem R8(p:Nat)(h:p<256):Iv p=(2 * p) ^^^ (285 * (p / 128)):=by
 delta Iv
 split
 .rw [Nat.div_eq_of_lt (by assumption)];simp
 .rw [show p / 128=1 by lia]
theorem ac5{a b:Nat}(ha:a<256)(D:b<256):Iv (a ^^^ b)=Iv a ^^^ Iv b:=by
 rw[R8 _ ha,R8 _ D,R8 _ (iR ha D)];have e1:2 * (a ^^^ b)=(2 * a) ^^^ (2 * b):=by have:=Nat.shiftLeft_xor_distrib (i:=1) (a:=a) (b:=b);simp only[Nat.shiftLeft_eq]at this;rw[ve 2,ve 2,ve 2];show this
 have e2:(a ^^^ b) / 128=(a / 128) ^^^ (b / 128):=by have:=Nat.shiftRight_xor_distrib (i:=7) (a:=a) (b:=b);simpa only[Nat.shiftRight_eq_div_pow] using this
 show e1.symm▸e2.symm▸?_;have q1:a / 128=0\/a / 128=1:=by lia
 have q2:b / 128=0\/b / 128=1:=by lia
 rcases q1 with q1|q1<;>rcases q2 with q2|q2<;>show q1.symm▸q2.symm▸?_
 .simp
 .rw [EZ,gz,iy,E3,rF]
 .rw [EZ,gz,gz,E3];ac_rfl
 .have:∀x y:Nat,x ^^^ 285 * 1 ^^^ (y ^^^ 285 * 1)=(285 ^^^ 285) ^^^ (x ^^^ y):=λx y=>by rw[E3];ac_rfl
  rw[this,lP,lP,EZ,iy,gz]
theorem Jy:∀n,pw n≠0:=by
 intro xX;induction xX with
 |zero=>decide
 |succ n iH=>
  have:∀p,p<256->p≠0->Iv p≠0:=by decide
  show this _ (Ov n) (iH)
theorem afI:pw 255=1:=by rfl
theorem R9:∀n,pw (n+255)=pw n:=by
 intro xX;induction xX with
 |zero=>show afI
 |succ n iH=>show(?_:Iv (pw (n+255))=Iv (pw n));show congrArg _ (iH)
theorem uv(n:Nat):pw (n % 255)=pw n:=by
 have:∀k r,pw (r+255 * k)=pw r:=by
  intro k;induction k with
  |zero=>intro r;rfl
  |succ k ih=>intro r;rw[show r+255 * (k+1)=r+255 * k+255 by show Uw.mpr Z,R9,ih]
 conv=>rhs;rw[<-Nat.mod_add_div n 255]
 show(this _ _).symm
theorem Nq(n:Nat):FJ (n % 255)=pw n:=by rw[Gz (mZ _ bz),uv]
theorem yW:∀a,a<256->a≠0->pw (lg a)=a:=by decide+kernel
theorem Zb:∀k,k<255->lg (pw k)=k:=by decide+kernel
theorem DH(n:Nat):lg (pw n)=n % 255:=by rw[<-uv,Zb _ (mZ _ bz)]
theorem uw{a b:Nat}(ha:a≠0)(D:b≠0):tm a b=pw (lg a+lg b):=by
 delta tm
 rw[if_neg (not_or_intro ha D),Nq]
theorem uN(a:Nat):tm a 0=0:=by simp[tm]
theorem jt(a:Nat):tm 0 a=0:=by rfl
theorem fN(a b:Nat):tm a b=tm b a:=by
 delta tm
 rw[jK];simp only[Or.comm (a:=a=0)]
theorem HT{a b:Nat}(ha:a≠0)(D:b≠0):tm a b≠0:=by rw[uw ha D];show Jy _
theorem PV(a b:Nat):tm (pw a) (pw b)=pw (a+b):=by rw[uw (Jy a) (Jy b),DH,DH,<-uv,<-UB,uv]
theorem di(a b c:Nat):tm (tm a b) c=tm a (tm b c):=by
 by_cases ha:a=0
 .subst ha;rw[jt,jt,jt]
 by_cases D:b=0
 .subst D;rw[uN,jt,uN]
 by_cases hc:c=0
 .subst hc;rw[uN,uN,uN]
 rw[uw (HT ha D) hc,uw ha (HT D hc),uw ha D,uw D hc,DH,DH,<-uv,<-uv (lg a+_)];rw[Nat.mod_add_mod,Lj,lN]
theorem PX{a:Nat}(h:a<256):tm 1 a=a:=by
 by_cases ha:a=0
 .subst ha;rfl
 .rw [uw (uf Z) ha,show lg 1=0 by rfl,qm,yW a h ha]
def HU:Nat->Nat->Nat
 | 0,b=>b
 |k+1,b=>Iv (HU k b)
theorem Xx:∀k {b},b<256->HU k b<256:=by
 intro xX;induction xX with
 |zero=>intro _ h;show h
 |succ k iH=>intro _ h;show Rb (iH h)
theorem H_:∀k {a b},a<256->b<256->HU k (a ^^^ b)=HU k a ^^^ HU k b:=by
 intro xX;induction xX with
 |zero=>intro _ _ _ _;show rfl
 |succ k iH=>intro _ _ ha D;show(?_:Iv (HU k _)=Iv _ ^^^ Iv _);rw[iH ha D,ac5 (Xx k ha) (Xx k D)]
theorem ac6:∀k j,HU k (pw j)=pw (k+j):=by
 intro xX;induction xX with
 |zero=>intro j;rw[qm];rfl
 |succ k iH=>intro j;change Iv (HU k _)=_;rw[iH j,Nat.succ_add];rfl
theorem afJ:∀k,HU k 0=0:=by
 intro xX;induction xX with
 |zero=>show rfl
 |succ k iH=>change Iv (HU k 0)=0;show(iH).symm▸?_;rfl
theorem Nr{a b:Nat}(ha:a≠0)(D:b<256):tm a b=HU (lg a) b:=by
 by_cases h:b=0
 .subst h;rw[uN,afJ]
 .rw [uw ha h]
  conv=>rhs;rw[<-yW b D h]
  rw[ac6]
theorem vV(a:Nat){b:Nat}(D:b<256)(hc:c<256):tm a (b ^^^ c)=tm a b ^^^ tm a c:=by
 by_cases ha:a=0
 .subst ha;rw[jt,jt,jt];rfl
 .rw [Nr ha D,Nr ha hc,Nr ha (iR D hc),H_ _ D hc]
theorem qA(a:Nat){b:Nat}(D:b<256)(hc:c<256):tm (b ^^^ c) a=tm b a ^^^ tm c a:=by rw[fN,vV a D hc,fN a b,fN a c]
theorem ub{a b:Nat}(h:a ^^^ b=0):a=b:=by have:=congrArg (· ^^^ b) h;simpa[rF] using this
theorem C1{a b:Nat}(h:tm a b=0)(ha:a≠0):b=0:=Bb λD=>HT ha D h
theorem Xy{a d:Nat}(ha:a<256)(ha0:a≠0)(hd:d≠0):tm d (FJ ((lg a+255 - lg d) % 255))=a:=by rw[Nq,uw hd (Jy _),DH,<-uv,Lj];have:=Wy d;rw[show lg d+(lg a+255 - lg d)=lg a+255 by lia,uv,R9,yW a ha ha0]
theorem Zc{a b:Nat}(ha:a≠0)(D:b<256)(hc:c<256)(h:tm a b=tm a c):b=c:=by
 have:tm a (b ^^^ c)=0:=by rw[vV a D hc,h,lP]
 show ub (C1 this ha)
theorem ac7{e d:Nat}(he:e<256)(hd:d≠0)(h0:e≠0):FJ ((lg (tm d e)+255 - lg d) % 255)=e:=
 Zc hd CH he (Xy (eW _ _) (HT hd h0) hd)
def pN(x:Nat):Nat->Nat
 | 0=>1
 |k+1=>tm x (pN x k)
theorem aim(x k:Nat):pN x k<256:=by
 cases k with
 |zero=>show(by decide:1<256)
 |succ k=>show eW _ _
theorem ain(h:x≠0):∀k,pN x k≠0:=by
 intro xX;induction xX with
 |zero=>show Nat.one_ne_zero
 |succ k iH=>show HT h (iH)
theorem I_(x a:Nat):∀b,pN x (a+b)=tm (pN x a) (pN x b):=by
 intro xX;induction xX with
 |zero=>show(?_:pN x a=tm (pN x a) 1);rw[fN,PX (aim _ _)]
 |succ b iH=>show(?_:tm x (pN x (a+b))=tm (pN x a) (tm x (pN x b)));rw[iH,<-di,<-di,fN x]
theorem J_(a:Nat):∀b,pN (pw a) b=pw (a * b):=by
 intro xX;induction xX with
 |zero=>show rfl
 |succ b iH=>change tm (pw a) (pN (pw a) b)=_;rw[iH,PV,Lk,jK]
noncomputable def sx{α:Type}(l:List α)(f:α->Nat):Nat:=l.foldr (λa s=>f a ^^^ s) 0
section
variable{β:Type}{l:List α}{m:List β}{f g:α->Nat}
theorem HV:sx [] f=0:=rfl
theorem fI{a:α}:sx (a::l) f=f a ^^^ sx l f:=rfl
theorem K_{l':List α}:sx (l++l') f=sx l f ^^^ sx l' f:=by
 induction l with
 |nil=>rw[ye,HV,iy]
 |cons a l ih=>rw[EJ,fI,fI,ih,rF]
theorem dK(h:∀a∈l,f a=g a):sx l f=sx l g:=by
 induction l with
 |nil=>rfl
 |cons a l ih=>rw[fI,fI,h a bB,ih λb D=>h b bB]
theorem aio(h:∀a∈l,f a<256):sx l f<256:=by
 induction l with
 |nil=>show Nat.zero_lt_succ _
 |cons a l ih=>show iR (h a bB) (ih λb D=>h b bB)
theorem Cg(h:∀a∈l,f a=0):sx l f=0:=by
 induction l with
 |nil=>rfl
 |cons a l ih=>show fI.symm▸(h a bB).symm▸(ih λb D=>h b bB).symm▸?_;rfl
theorem Ad:sx l (λa=>f a ^^^ g a)=sx l f ^^^ sx l g:=by
 induction l with
 |nil=>simp[HV]
 |cons a l ih=>rw[fI,fI,fI,ih];ac_rfl
theorem uc(a:Nat)(h:∀x∈l,f x<256):tm a (sx l f)=sx l λx=>tm a (f x):=by
 induction l with
 |nil=>show uN a
 |cons b l ih=>rw[fI,fI,vV a (h b bB) (aio λx E=>h x bB),ih λx E=>h x bB]
theorem L_(a:Nat)(h:∀x∈l,f x<256):tm (sx l f) a=sx l λx=>tm (f x) a:=by rw[fN,uc a h];show dK λx _=>fN _ _
theorem Nt{f:α->β->Nat}:sx l (λa=>sx m (f a))=sx m λb=>sx l λa=>f a b:=by
 induction l with
 |nil=>show(Cg λ_ _=>rfl).symm
 |cons a l ih=>rw[fI,ih,<-Ad];rfl
theorem M_{h:β->α}:sx (m.map h) f=sx m λb=>f (h b):=by
 induction m with
 |nil=>rfl
 |cons b m ih=>rw[iK,fI,fI,ih]
theorem Xz(a:Nat):l.foldl (λs x=>s ^^^ f x) a=a ^^^ sx l f:=by
 induction l generalizing a with
 |nil=>show(gz a).symm
 |cons b l ih=>rw[ix,ih,fI,rF]
theorem Jz(p:α->Bool)(h:∀a∈l,p a=af->f a=0):sx (l.filter p) f=sx l f:=by
 induction l with
 |nil=>rfl
 |cons a l ih=>have ih:=ih λb D=>h b bB;show boC (p a) (λq=>by rw[Ez q,fI,fI,ih]) λq=>by rw[EB (ne_true_of_eq_false q),fI,ih,h a au q,iy]
theorem ac8{l':List α}(h:l.Perm l'):sx l f=sx l' f:=by
 induction h with
 |nil=>rfl
 |cons a _ ih=>rw[fI,fI,ih]
 |swap a b l=>dsimp only[fI,fI,fI,fI];ac_rfl
 |trans _ _ h1 h2=>show h1.trans h2
end
theorem lG(n:Nat)(f:Nat->Nat):sx (aI (n+1)) f=sx (aI n) f ^^^ f n:=by rw[sU,K_,fI,HV,gz]
theorem l7(n:Nat)(f:Nat->Nat):sx (aI (n+1)) f=f 0 ^^^ sx (aI n) (λi=>f (i+1)):=by rw[T5,fI,M_]
end iP
namespace iP
theorem akH{X:Nat->Nat}(hX:∀p,X p<256)(a6:LN):∀(g:Nat->Nat),(∀p∈a6,g p<256)->(∀p∈a6,X p≠0)->a6.Nodup->(∀p∈a6,∀q∈a6,X p=X q->p=q)->
 (∀j,j<a6.length->sx a6 (λp=>tm (g p) (pN (X p) j))=0)->∀p∈a6,g p=0:=by
 induction a6 with
 |nil=>intro _ _ _ _ _ _;show λp hp=>kJ hp
 |cons a a6 iH=>
  intro g hg h0 hn hi hs;have wt:=rp.mp hn;have ih:=iH (λp=>tm (g p) (X p ^^^ X a)) (λp _=>eW _ _) (λp hp=>h0 p bB) wt.2 (λp hp q hq=>hi p bB q bB) (λj hj=>by
   have e1:=hs (j+1) jQ;have e2:=congrArg (tm (X a)) (hs j jQ);rw[uN,uc _ λ_ _=>eW _ _,fI]at e2;dsimp only[fI]at e1;have e3:tm (g a) (pN (X a) (j+1))=tm (X a) (tm (g a) (pN (X a) j)):=by change tm _ (tm _ _)=_;rw[<-di,<-di,fN (g a)]
   rw[e3]at e1;have:sx a6 (λp=>tm (tm (g p) (X p ^^^ X a)) (pN (X p) j))=sx a6 (λp=>tm (g p) (pN (X p) (j+1)) ^^^ tm (X a) (tm (g p) (pN (X p) j))):=dK λp _=>by change _=tm _ (tm _ _) ^^^ _;rw[vV _ (hX _) (hX _),qA _ (eW _ _) (eW _ _),di,di,fN (g p) (tm (X a) _),di,fN (pN _ _) (g p)]
   rw[this,Ad,((ub e1).symm.trans (ub e2)),lP])
  have hE:∀p∈a6,g p=0:=λp hp=>by
   have e:=ih p hp;rw[fN]at e;show C1 e λq=>?_;have:=hi p bB a bB (ub q);cases this
   show wt.1 hp
  have e0:=hs 0 fF;rw[fI,Cg λp hp=>by rw[hE p hp,jt],gz]at e0;intro p hp;show bf (bu.mp hp) (λa1=>a1▸?_) λh=>?_
  .rw [fN]at e0;show C1 e0 (by change(1:Nat)≠0;decide)
  .show hE p h
def HW(y:Nat)(l:LN)(a:Nat):Nat:=l.foldl (λwhole part=>tm whole y ^^^ part) a
theorem N_{y:Nat}:∀{l:LN} {a:Nat},a<256->(∀x∈l,x<256)->HW y l a<256
 | [],_,h,_=>h
 |x::l,_,_,hl=>N_ (l:=l) (iR (eW _ _) (hl x bB)) λz hz=>hl z bB
def qs(x:Nat):LN->Nat->LN
 | [],_=>[]
 |p::r,a=>a::qs x r (tm a x ^^^ p)
theorem O_(x:Nat):∀(l:LN) (a:Nat),(qs x l a).length=l.length
 | [],_=>rfl
 |_::r,_=>congrArg (· +1) (O_ x r _)
theorem aip(x:Nat)(l:LN):∀(a:Nat),a<256->(∀x∈l,x<256)->∀z∈qs x l a,z<256:=by
 induction l with
 |nil=>intro _ _ _;show λz hz=>kJ hz
 |cons p r iH=>
  intro a ha hl;show λz hz=>by
   rcases bu.mp hz with rfl|h
   .show ha
   .show iH _ (iR (eW _ _) (hl p bB)) (λy hy=>hl y bB) z h
theorem Zd(E:x<256)(hy:y<256)(l:LN):∀(a u:Nat),a<256->u<256->(∀z∈l,z<256)->HW y l (a ^^^ tm (x ^^^ y) u) ^^^ HW x l a=tm (x ^^^ y) (HW y (qs x l a) u):=by
 induction l with
 |nil=>intro a u ha hu _;show(?_:a ^^^ tm (x ^^^ y) u ^^^ a=tm (x ^^^ y) u);rw[Lm a,rF,lP,gz]
 |cons p r iH=>
  intro a u ha hu hl;show(?_:HW y r (tm (a ^^^ tm (x ^^^ y) u) y ^^^ p) ^^^ HW x r (tm a x ^^^ p)=tm (x ^^^ y) (HW y (qs x r (tm a x ^^^ p)) (tm u y ^^^ a)));show(iH (tm a x ^^^ p) (tm u y ^^^ a) (iR (eW _ _) (hl p bB)) (iR (eW _ _) ha) λz hz=>hl z bB)▸?_;congr 2;rw[qA _ ha (eW _ _),vV _ (eW _ _) ha,di,fN (x ^^^ y) a,vV a E hy];have:tm a x ^^^ p ^^^ (tm (x ^^^ y) (tm u y) ^^^ (tm a x ^^^ tm a y))=(tm a x ^^^ tm a x) ^^^ (tm a y ^^^ tm (x ^^^ y) (tm u y) ^^^ p):=by ac_rfl
  rw[this,lP,iy]
theorem aiq(n:Nat):∀(l:LN) (a:Nat),l.length=n->a<256->a≠0->(∀z∈l,z<256)->∀(aM:LN),aM.Nodup->(∀x∈aM,x<256)->(∀x∈aM,HW x l a=0)->aM.length<=n:=by
 induction n with
 |zero=>
  intro l a hl _ h0 _ aM _ _ hR
  match aM,hR with
  | [],_=>show ey _
  |x::aM,hR=>have:=hR x bB;rw[rk.mp hl]at this;show absurd this h0
 |succ n iH=>
  intro yY;cases yY with
  |nil=>intros;first|ext|(simp at *)
  |cons p r=>
   intro a hl ha h0 D aM hn hRb hR
   match aM,hn,hRb,hR with
   | [],_,_,_=>show fg _
   |x::aM,hn,hRb,hR=>
    have wt:=rp.mp hn;have key:∀y,y<256->HW y (p::r) a=0->y≠x->HW y (qs x r (tm a x ^^^ p)) a=0:=λy hy e qF=>by have hs:=Zd (hRb x bB) hy (p::r) a 0 ha bz D;rw[uN,gz,e,hR x bB,lP]at hs;have:=C1 hs.symm λq=>qF (ub q).symm;have e2:HW y (qs x (p::r) a) 0=HW y (qs x r (tm a x ^^^ p)) (tm 0 y ^^^ a):=rfl;rw[e2,jt,iy]at this;show this
    have:=iH (qs x r (tm a x ^^^ p)) a (by rw[O_];show(by simpa using hl)) ha h0 (aip x r _ (iR (eW _ _) (D p bB)) λy hy=>D y bB) aM wt.2 (λy hy=>hRb y bB) λy hy=>
     key y (hRb y bB) (hR y bB) λq=>wt.1 (q▸hy)
    show Nat.le_add_of_sub_le this
theorem yX(l:LN):∀(a:Nat),a<256->(∀z∈l,z<256)->HW y l a=tm a (pN y l.length) ^^^ sx (aI l.length) λi=>tm (l.getD i 0) (pN y (l.length - 1 - i)):=by
 induction l with
 |nil=>intro a ha _;show(?_:a=tm a 1 ^^^ 0);rw[fN,PX ha,gz]
 |cons p r iH=>intro a ha hl;have hp:=hl p bB;change HW y r (tm a y ^^^ p)=_;rw[iH _ (iR (eW _ _) hp) λz hz=>hl z bB,oH,l7,qA _ (eW _ _) hp,di,rF];congr 1;congr 1;show dK λi hi=>by change _=tm (r.getD i 0) _;rw[show r.length+1 - 1 - (i+1)=r.length - 1 - i by lia]
end iP
namespace iP
theorem Ci(l:LN)(k v i:Nat):(l.set k v).getD i 0=if i=k/\k<l.length then v else l.getD i 0:=by
 simp only[da,EG];by_cases e:k=i
 .subst e;rcases yF (k<l.length) with h|h
  .rw [if_pos Z,if_pos h,if_pos ⟨rfl,h⟩];rfl
  .rw [if_pos Z,if_neg h,if_neg (λq=>h q.2),rn (oJ h)]
 .rw [if_neg e,if_neg (λq=>e q.1.symm)]
theorem vW(h:l.length<=i):l.getD i 0=0:=by rw[da,rn h];rfl
theorem jh(h:∀x∈l,x<256)(i:Nat):l.getD i 0<256:=allB_of h i
theorem yZ(l:LN)(k i:Nat):(l++cb k 0).getD i 0=l.getD i 0:=by
 simp only[da];rcases ml i l.length with h|h
 .rw [u9 h]
 .rw [ya h,rn h,T3];split<;>rfl
def Dd(s aS:LN)(j:Nat):Nat:=sx (aI aS.length) λi=>tm (aS.getD i 0) (s.getD (j - i) 0)
theorem FO{f:Nat->Nat}{a:Nat}{b:Nat}:a<=b->(∀i,a<=i->f i=0)->sx (aI b) f=sx (aI a) f:=by
 induction b with
 |zero=>intro h _;rw[Ln.mp h]
 |succ b iH=>
  intro h hf;rcases ml b a with q|q
  .rw [show a=b+1 by lia]
  .rw [lG,hf b q,gz,iH q hf]
theorem PY{f:Nat->Nat}(m:Nat):∀(g:Nat),(∀i,i<g->f i=0)->sx (aI (g+m)) f=sx (aI m) λi=>f (g+i)
 | 0,_=>by simp only[qm]
 |g+1,h=>by rw[show g+1+m=(g+m)+1 by show Ld g 1 m,l7,h 0 au,iy,PY m g λi hi=>h (i+1) au];show dK λi _=>congrArg _ (show g+i+1=g+1+i by lia)
theorem PZ(factor gap:Nat)(old g0:LN)(hl:old.length+gap<=g0.length)(i:Nat):(tT factor gap old g0).getD i 0=g0.getD i 0 ^^^ (if gap<=i/\i - gap<old.length then tm factor (old.getD (i - gap) 0) else 0):=by
 have:∀n,n<=old.length->((aI n).foldl (λg back=>g.set (back+gap) (g.getD (back+gap) 0 ^^^ tm factor (old.getD back 0))) g0).length=g0.length/\
  ((aI n).foldl (λg back=>g.set (back+gap) (g.getD (back+gap) 0 ^^^ tm factor (old.getD back 0))) g0).getD i 0=g0.getD i 0 ^^^ (if gap<=i/\i - gap<n then tm factor (old.getD (i - gap) 0) else 0):=by
  intro n;induction n with
  |zero=>intro _;show⟨rfl,by rw[if_neg fF,gz];rfl⟩
  |succ n ih=>
   intro hn;show eX (ih (ry hn)) λh1 h2=>sU.symm▸qj.symm▸⟨by rw[ix,KL,EK,h1],?_⟩;rw[ix,KL,Ci,h1];by_cases e:i=n+gap
   .subst e;rw[if_pos ⟨rfl,by lia⟩,h2,if_neg (λq=>gx n (j4 (lO (sW ..).symm) q.2)),if_pos ⟨rz ..,j4 (lO (sW ..)) (jb n)⟩,gz,sW]
   .rw [if_neg (λq=>e q.1),h2];congr 1;show if q:gap<=i/\i - gap<n then by rw[if_pos q,if_pos ⟨q.1,kV q.2⟩] else by rw[if_neg q,if_neg λp=>q ⟨p.1,Nat.lt_of_le_of_ne (mY p.2) λz=>e (by rw[<-z,Lc p.1])⟩]
 show(this old.length (ey _)).2
theorem afK{s aS:LN}{bw:Nat}(h:aS.length<=bw):Dd s aS j=sx (aI bw) λi=>tm (aS.getD i 0) (s.getD (j - i) 0):=
 (FO h λi hi=>by rw[vW hi,jt]).symm
theorem ac9{s now old:LN}{factor gap:Nat}(hn:∀x∈now,x<256):
 Dd s (tT factor gap old (now++cb (old.length+gap - now.length) 0)) j=Dd s now j ^^^ tm factor (Dd s old (j - gap)):=by
 have dM:(tT factor gap old (now++cb (old.length+gap - now.length) 0)).length=now.length+(old.length+gap - now.length):=by rw[(GJ factor gap old _ (λx E=>by show bf (b9.mp E) (λh=>hn x h) λh=>by rw[va h];decide)).1,iw,rl]
 have hL:=dM;generalize now.length+(old.length+gap - now.length)=bw at hL
 delta Dd
 show hL.symm▸?_;have e1:sx (aI bw) (λi=>tm ((tT factor gap old (now++cb (old.length+gap - now.length) 0)).getD i 0) (s.getD (j - i) 0))=
  sx (aI bw) (λi=>tm (now.getD i 0) (s.getD (j - i) 0) ^^^ tm (if gap<=i/\i - gap<old.length then tm factor (old.getD (i - gap) 0) else 0) (s.getD (j - i) 0)):=dK λi _=>by
  rw[PZ _ _ _ _ (iw▸rl▸MH),yZ,qA _ (jh hn i) (by split<;>first|show eW _ _|decide)]
 rw[e1,Ad];congr 1
 .show (afK (by rw[<-hL,dM];show ja ..)).symm
 .rw [FO (by rw[<-hL,dM,jK gap];show MH:gap+old.length<=bw) (λi hi=>by rw[if_neg au,jt]),PY _ _ (λi hi=>by rw[if_neg au,jt]),uc _ λ_ _=>eW _ _];show dK λi hi=>by rw[if_pos ⟨ja ..,j4 (lO (rq ..)) (dm.mp hi)⟩,rq,di,E0]
theorem ada{now:LN}{turn:Nat}(hl:∀x∈line,x<256)(h0:now.getD 0 0=1)(hn:1<=now.length):vJ line now turn=Dd line now turn:=by
 delta vJ Dd
 rw[Xz,M_];show dG (show∃n,now.length=n+1 from⟨now.length - 1,(Nat.sub_eq_iff_eq_add hn).mp Z⟩) λn e=>?_;rw[e,l7,h0,PX (jh hl _)];congr 1;show dK λi _=>by rw[jK 1 i]
structure Src(line:LN)(X f:Nat->Nat)(a6:LN):Prop where
 b:∀x∈line,x<256
 xb:∀p,X p<256
 x0:∀p,X p≠0
 fb:∀p,f p<256
 nd:a6.Nodup
 inj:∀p∈a6,∀q∈a6,X p=X q->p=q
 at_:∀j,j<line.length->line.getD j 0=sx a6 λp=>tm (f p) (pN (X p) j)
def wgt(aS:LN)(X f:Nat->Nat)(size p:Nat):Nat:=tm (f p) (sx (aI aS.length) λi=>tm (aS.getD i 0) (pN (X p) (size - i)))
theorem Src.dd{aS a6:LN}{X f:Nat->Nat}(S:Src line X f a6){size:Nat}(hC:aS.length<=size+1)(h1:size<=j)(h2:j<line.length):Dd line aS j=sx a6 λp=>tm (wgt aS X f size p) (pN (X p) (j - size)):=by
 delta Dd
 have e1:sx (aI aS.length) (λi=>tm (aS.getD i 0) (line.getD (j - i) 0))=sx (aI aS.length) λi=>sx a6 λp=>tm (aS.getD i 0) (tm (f p) (pN (X p) (j - i))):=dK λi hi=>by rw[S.at_ _ au,uc _ λ_ _=>eW _ _]
 rw[e1,Nt];show dK λp _=>?_
 delta wgt
 rw[di,L_ _ λ_ _=>eW _ _,uc _ λ_ _=>eW _ _];show dK λi hi=>?_;rw[show j - i=(size - i)+(j - size) from(by rw[jK,KR h1 (mY (ff (dm.mp hi) hC))]),I_,<-di,fN (aS.getD i 0),di,<-di (aS.getD i 0)]
theorem Src.kill{aS a6:LN}{X f:Nat->Nat}(S:Src line X f a6){size t:Nat}(hC:aS.length<=size+1)(ht:t<=line.length)(hv:size+a6.length<=t)(h:∀j,size<=j->j<t->Dd line aS j=0):∀p∈a6,wgt aS X f size p=0:=
 akH S.xb a6 _ (λ_ _=>eW _ _) (λp _=>S.x0 p) S.nd S.inj λj hj=>by have:=S.dd hC (j:=size+j) au au;rw[h _ au au,show size+j - size=j by lia]at this;show this.symm
def BMx(line:LN)(v turn:Nat)(st:BM):Prop:=
 OB line turn st/\
 st.now.getD 0 0=1/\
 st.now.length<=st.size+1/\
 (∀j,st.size<=j->j<turn->Dd line st.now j=0)/\
 st.size<=v/\
 st.fault≠0/\
 ∃lo,st.size+lo+st.gap=turn+1/\st.old.length<=lo+1/\((st.size=0/\lo=0/\st.gap=turn+1)\/(st.gap<=turn/\Dd line st.old (turn - st.gap)=st.fault/\∀j,lo<=j->j<turn - st.gap->Dd line st.old j=0))
theorem BMx.step{a6:LN}{X f:Nat->Nat}(S:Src line X f a6){turn:Nat}(ht:turn<line.length){st:BM}(k:BMx line a6.length turn st):BMx line a6.length (turn+1) (kx line st turn):=by
 show je k λk1 k2 k3 k4 afL=>hx afL λk5 k6 k7=>?_;have ok':=k1.step S.b;show gH k7 λlo o1 o2 o3=>?_;have adb:vJ line st.now turn=Dd line st.now turn:=ada S.b k2 k1.ae6;have hg1:=k1.ajR;by_cases h0:vJ line st.now turn=0
 .have e:kx line st turn={st with gap:=st.gap+1}:=(if_pos h0);rw[e]at ok' ⊢;show⟨ok',k2,k3,λj h1 h2=>bf (ml j turn) (λq=>k4 j h1 q) λq=>by rw[show j=turn by show Nat.eq_of_le_of_lt_succ q h2,<-adb,h0],k5,k6,lo,congrArg AW o1,o2,?_⟩;show bf o3 (λi0=>hx i0 λa b c=>ao (gS a b (by show Uw.mpr c))) λi0=>hx i0 λa b c=>aH (gS au ?_ ?_)
  .rw [EO];show b
  .rw [EO];show c
 .have hq:=Xy (MG (now:=st.now) (turn:=turn) S.b) h0 k6;generalize hfa:FJ ((lg (vJ line st.now turn)+255 - lg st.fault) % 255)=factor at hq;generalize hgr:tT factor st.gap st.old (st.now++cb (st.old.length+st.gap - st.now.length) 0)=grown;have dM:grown.length=st.now.length+(st.old.length+st.gap - st.now.length):=by rw[<-hgr,(GJ factor st.gap st.old _ (λx E=>by show bf (b9.mp E) (λh=>k1.now x h) λh=>by rw[va h];decide)).1,iw,rl]
  have hc0:grown.getD 0 0=1:=by rw[<-hgr,PZ _ _ _ _ (iw▸rl▸MH),yZ,k2,if_neg au,gz]
  have jB:=k3;have vQ:turn+1 - st.size=lo+st.gap:=by rw[<-o1,lN,rq]
  have Ra:∀ns,st.size<=ns->turn+1 - st.size<=ns->∀j,ns<=j->j<turn+1->Dd line grown j=0:=λns n1 n2 j h1 h2=>by
   have gj:lo+st.gap<=j:=vQ▸ba n2 h1;rcases o3 with⟨a,b,c⟩|⟨a,b,c⟩
   .lia
   .rw [(λj=>by rw[<-hgr];show ac9 k1.now:∀j,Dd line grown j=Dd line st.now j ^^^ tm factor (Dd line st.old (j - st.gap)))];show bf (ml j turn) (λq=>by rw[k4 j (ba n1 h1) q,c (j - st.gap) (AP gj) (Nat.sub_lt_sub_right (ba (rz ..) gj) q),uN];rfl) λq=>by rw[show j=turn from vd (mY h2) q,<-adb,b,fN,hq,lP]
  by_cases h2:2 * st.size<=turn
  .have e:kx line st turn=⟨grown,st.now,turn+1 - st.size,1,vJ line st.now turn⟩:=by delta kx;rw[if_neg h0,if_pos h2,hfa,hgr]
   rw[e]at ok' ⊢;have m0:st.size<=turn+1 - st.size:=AP (by rw[<-UC];show ql h2);show⟨ok',hc0,ba (lO dM) (zG (ba jB (sY m0)) (by rw[vQ,Ld];show yi o2 _)),Ra (turn+1 - st.size) m0 (ey _),?_,h0,st.size,congrArg AW (Lc (ba m0 (sZ ..))),jB,aH ⟨by lia,adb.symm,λj j1 j2=>k4 j j1 (j2)⟩⟩;change turn+1 - st.size<=a6.length;show oJ λjA=>h0 ?_;rw[adb,S.dd jB au ht];show Cg λp hp=>by rw[(S.kill jB (gy ht) au k4) p hp,jt]
  .have e:kx line st turn=⟨grown,st.old,st.size,st.gap+1,st.fault⟩:=by delta kx;rw[if_neg h0,if_neg h2,hfa,hgr]
   rw[e]at ok' ⊢;have m3:turn+1 - st.size<=st.size:=KW (by rw[<-UC];show Uv h2);show⟨ok',hc0,ba (lO dM) (zG jB (ba (yi o2 _) (by rw[Ld,<-vQ];show sY m3))),Ra st.size (ey _) m3,k5,k6,lo,congrArg AW o1,o2,?_⟩;show bf o3 (λi0=>hx i0 λa b c=>by lia) λi0=>hx i0 λa b c=>aH (gS au (by rw[EO];show b) (by rw[EO];show c))
theorem aeE{a6:LN}{X f:Nat->Nat}(S:Src line X f a6):BMx line a6.length line.length (ux line):=by
 have:∀n,n<=line.length->BMx line a6.length n ((aI n).foldl (kx line) ⟨[1],[1],0,1,1⟩):=by
  intro n;induction n with
  |zero=>intro _;change BMx line a6.length 0 ⟨[1],[1],0,1,1⟩;show⟨⟨by decide,by decide,NP Z,NP Z,NP Z,NP Z,NP Z,NP Z,NP Z⟩,rfl,NP Z,λj _ h=>absurd h (rD _),fg _,uf Z,0,rfl,NP Z,ao (gS Z Z Z)⟩
  |succ n ih=>intro h;rw[sU,qj];show(ih (ry h)).step S (by assumption)
 show this _ (ey _)
theorem ade{a6:LN}{X f:Nat->Nat}(S:Src line X f a6)(hf:∀p∈a6,f p≠0)(hv:2 * a6.length<=line.length):∀p∈a6,kh (ux line).now (X p)=0:=λp hp=>by
 show je (aeE S) λk1 _ k3 k4 afL=>hx afL λk5 _ _=>?_;have D:=k5;have jB:=k3;have h0:=C1 (S.kill jB (ey _) au k4 p hp) (hf p hp);have e:=yX (y:=X p) (ux line).now 0 aK k1.now;rw[jt,iy]at e;have:tm (pN (X p) ((ux line).size - ((ux line).now.length - 1))) (kh (ux line).now (X p))=0:=by change tm _ (HW (X p) (ux line).now 0)=0;show e.symm▸(uc _ λ_ _=>eW _ _).symm▸h0▸dK λi hi=>?_;rw[<-di,fN (pN _ _),di,<-I_];congr 2;show KR (KW jB) (KV (dm.mp hi))
 show C1 this (ain (S.x0 p) _)
theorem Ze{a6:LN}{X f:Nat->Nat}(S:Src line X f a6)(hf:∀p∈a6,f p≠0)(hv:2 * a6.length<=line.length)(hE:∀p∈a6,p<n)(hX:∀p,p<n->X p=sp.getD p 0)(hi:∀p,p<n->∀q,q<n->sp.getD p 0=sp.getD q 0->p=q):
 (jR sp (ux line).now n).length=(ux line).size/\(jR sp (ux line).now n).Nodup/\∀p,p∈jR sp (ux line).now n↔p∈a6:=by
 show je (aeE S) λk1 k2 k3 _ qq7=>hx qq7 λk5 _ _=>?_;generalize hF:jR sp (ux line).now n=F;have hFn:F.Nodup:=by show(hF)▸?_;show Fh _ yb
 have hmem:∀p,p∈F↔p<n/\kh (ux line).now (sp.getD p 0)=0:=λp=>by show hF▸?_;simp[jR]
 have vQ:∀p∈a6,p∈F:=λp hp=>(hmem p).mpr ⟨hE p hp,by show(hX p (hE p hp))▸?_;show(ade S hf hv) p hp⟩;have jB:=k3;have hbd:=k5;have h1:=k1.ae6;have hc0:=k2;have hnb:=k1.now;have dM:F.length<=(ux line).now.length - 1:=by
  generalize (ux line).now=now at hmem h1 hc0 hnb;cases now with
  |nil=>show absurd h1 (Nat.not_succ_le_zero _)
  |cons c rest=>
   have hc:c=1:=hc0;have:=aiq rest.length rest c Z au au (λz hz=>hnb z bB) (F.map λp=>sp.getD p 0) (nodup_map_on (λp hp q hq e=>hi p ((hmem p).mp hp).1 q ((hmem q).mp hq).1 e) hFn)
    (λx E=>by
     obtain⟨p,hp,rfl⟩:=bG.mp E;show(hX p ((hmem p).mp hp).1)▸S.xb p) (λx E=>by
     obtain⟨p,hp,rfl⟩:=bG.mp E;have:=((hmem p).mp hp).2;unfold kh at this;rw[ix,jt,iy]at this;show this)
   rw[ip]at this;show this
 have hle:=A8 S.nd vQ;show gS au hFn (λp=>⟨λhp=>Bb λqF=>?_,vQ p⟩);have:=A8 (l₁:=p::a6) (l₂:=F) (rp.mpr ⟨qF,S.nd⟩) λx E=>zH E hp λh=>vQ x h;dsimp only[oH]at this;lia
end iP
namespace iP
theorem Sa(l:LN)(x:Nat):kh l x=HW x l 0:=rfl
theorem P0{r a b:Nat}(ha:a<256):qJ r a b=tm a (pw r) ^^^ b:=by
 delta qJ
 rcases yF (a=0) with h|h
 .subst h;rw[if_neg ((nofun)),jt]
 .rw [if_pos h,uw h (Jy _),DH,Nq,<-uv (lg a+r % 255),Lj,uv]
theorem Zf(hw:∀x∈ws,x<256)(r:Nat):GH ws r=HW (pw r) ws 0:=by
 have:∀(l:LN) (a:Nat),a<256->(∀x∈l,x<256)->l.foldl (qJ r) a=l.foldl (λwhole part=>tm whole (pw r) ^^^ part) a:=by
  intro l;induction l with
  |nil=>intros;rfl
  |cons b l ih=>intro a ha hl;show ix.symm▸ix.symm▸(P0 ha).symm▸ih _ (iR (eW _ _) (hl b bB)) λx E=>hl x bB
 show this ws 0 bz hw
theorem uO{p:Nat}(hp:p<n)(hn:n<=255):(cH n).getD p 0=pw (n - 1 - p):=by
 delta cH
 rw[da,cY,oF hp];show Gz au
theorem Zg(hw:∀x∈ws,x<256)(hn:ws.length<=255)(r:Nat):GH ws r=sx (aI ws.length) λp=>tm (ws.getD p 0) (pN ((cH ws.length).getD p 0) r):=by rw[Zf hw,yX ws 0 bz hw,jt,iy];show dK λp hp=>?_;rw[uO (dm.mp hp) hn,J_,J_,ve]
theorem Zh{p q:Nat}(hn:n<=255)(hp:p<n)(hq:q<n)(e:(cH n).getD p 0=(cH n).getD q 0):p=q:=by rw[uO hp hn,uO hq hn]at e;have:=congrArg lg e;rw[DH,DH,Ux au,Ux au]at this;lia
theorem P_(hj:j+1<line.length):(wR sp line k).getD j 0=line.getD (j+1) 0 ^^^ tm (sp.getD k 0) (line.getD j 0):=by
 delta wR
 show(congrArg (·.getD 0) EC).trans ?_;show(?_:_=(line[j+1]?).getD 0 ^^^ tm (sp.getD k 0) ((line[j]?).getD 0));rw[KD,jK 1 j,dE hj,dE (show j<line.length by show Uu hj)];rfl
def fw(X:Nat->Nat)(g:Nat->Nat):LN->Nat->Nat
 | [],p=>g p
 |k::kn,p=>fw X (λp=>tm (g p) (X p ^^^ X k)) kn p
theorem air{X:Nat->Nat}(kn:LN):∀(g:Nat->Nat),(∀p,g p<256)->∀p,fw X g kn p<256:=by
 induction kn with
 |nil=>intro _ h;show h
 |cons _ kn iH=>intro _ _;show iH _ λ_=>eW _ _
theorem Q_{X:Nat->Nat}{p:Nat}:∀(kn:LN) (g:Nat->Nat),(g p=0\/p∈kn)->fw X g kn p=0
 | [],g,h=>by
  rcases h with h|h
  .show h
  .ext
 |k::kn,g,h=>Q_ kn _ (by
  rcases h with h|h
  .show ao (by rw[h,jt])
  .rcases bu.mp h with rfl|h
   .show ao (by rw[lP,uN])
   .show aH h)
theorem ais{X:Nat->Nat}{p:Nat}(kn:LN):∀(g:Nat->Nat),g p≠0->(∀k∈kn,X p≠X k)->fw X g kn p≠0:=by
 induction kn with
 |nil=>intro _ h _;show h
 |cons k kn iH=>intro g h hk;show iH _ (HT h λq=>hk k bB (ub q)) λj hj=>hk j bB
theorem R_{bw:LN}(D:∀p,sp.getD p 0<256)(kn:LN):∀(line:LN) (g:Nat->Nat),(∀p,g p<256)->(∀j,j<line.length->line.getD j 0=sx bw λp=>tm (g p) (pN (sp.getD p 0) j))->
 ∀j,j<line.length - kn.length->(kQ sp line kn).getD j 0=sx bw λp=>tm (fw (λp=>sp.getD p 0) g kn p) (pN (sp.getD p 0) j):=by
 induction kn with
 |nil=>intro line g _ h;show λj hj=>h j (hj)
 |cons k kn iH=>intro line g hg h;show λj hj=>by have hl:(wR sp line k).length=line.length - 1:=CI;show iH (wR sp line k) (λp=>tm (g p) (sp.getD p 0 ^^^ sp.getD k 0)) (λp=>eW _ _) (λj hj=>?_) j (by show hl.symm▸?_;simp at hj;lia);rw[P_ au,h _ au,h _ (List.lt_length_left_of_zipWith hj),uc _ λ_ _=>eW _ _,<-Ad];show dK λp _=>(?_:tm (g p) (tm _ _) ^^^ _=_);rw[vV _ (D _) (D _),qA _ (eW _ _) (eW _ _),di,di,<-di (sp.getD k 0),fN (sp.getD k 0) (g p),di]
theorem jP(sp l:LN)(k i:Nat):(eF sp l k).getD i 0=l.getD i 0 ^^^ tm (sp.getD k 0) (if i=0 then 0 else l.getD (i - 1) 0):=by
 delta eF
 rcases ml l.length i with h|h
 .rw [vW (by simp;assumption),vW (l:=l) (i:=i) au,if_neg (Nat.ne_zero_of_lt h),vW (l:=l) (i:=i - 1) au,uN];rfl
 .rw [da,EC];have e1:(l++[0])[i]? =O (l.getD i 0):=by
   rcases ml i l.length with q|q
   .rw [u9 q,da,dE q];rfl
   .rw [show i=l.length by show vd h q,vW (ey _)];show List.getElem?_concat_length
  have e2:([0]++l)[i]? =O (if i=0 then 0 else l.getD (i - 1) 0):=by
   cases i with
   |zero=>rfl
   |succ i=>change l[i]? =_;rw[if_neg (K0 i),sW,da,dE (by assumption)];rfl
  rw[e1,e2];rfl
theorem HX{m:LN}(h:l.length=m.length)(e:∀i,i<l.length->l.getD i 0=m.getD i 0):l=m:=by show Uh h λi h1 h2=>?_;have:=e i h1;rw[da,da,dE h1,dE h2]at this;show this
theorem IX(sp:LN)(hl:∀x∈l,x<256)(a b:Nat):eF sp (eF sp l a) b=eF sp (eF sp l b) a:=by
 show HX (by rw[lr,lr,lr,lr]) λi _=>?_;have D:=jh hl;rw[jP,jP,jP sp _ a i,jP sp l b i];show if h0:i=0 then by rw[if_pos h0,if_pos h0,if_pos h0,uN,uN] else ?_
 rw[if_neg h0,if_neg h0,if_neg h0,jP,jP];have hz:(if i - 1=0 then 0 else l.getD (i - 1 - 1) 0)<256:=by
  split
  .decide
  .show D _
 rw[vV _ (D _) (eW _ _),vV _ (D _) (eW _ _),<-di,<-di,fN (sp.getD b 0) (sp.getD a 0)]
 ac_rfl
theorem Zi(q:Nat)(l:LN):∀(z:LN),(∀x∈z,x<256)->l.foldl (eF sp) (eF sp z q)=eF sp (l.foldl (eF sp) z) q:=by
 induction l with
 |nil=>intro _ _;show rfl
 |cons a l iH=>intro z hz;rw[ix,ix,IX sp hz];show iH _ (pV hz)
theorem S_(q:Nat)(l1 l2:LN):pj sp (l1++q::l2)=eF sp (pj sp (l1++l2)) q:=by
 delta pj
 rw[qj,ix,qj];show Zi q l2 _ (BJ l1).1
theorem Nu{q:Nat}(hl:∀x∈l,x<256)(hy:y<256)(hq:sp.getD q 0<256):HW y (eF sp l q) 0=tm (y ^^^ sp.getD q 0) (HW y l 0):=by
 rw[yX _ 0 bz (pV hl),yX _ 0 bz hl,jt,jt,iy,iy,lr,qA _ hy hq,uc _ λ_ _=>eW _ _,uc _ λ_ _=>eW _ _];have e:sx (aI (l.length+1)) (λi=>tm ((eF sp l q).getD i 0) (pN y (l.length+1 - 1 - i)))=
  sx (aI (l.length+1)) (λi=>tm (l.getD i 0) (pN y (l.length - i))) ^^^ sx (aI (l.length+1)) (λi=>tm (tm (sp.getD q 0) (if i=0 then 0 else l.getD (i - 1) 0)) (pN y (l.length - i))):=by
  rw[<-Ad];show dK λi _=>?_;rw[jP,qA _ ((jh hl) _) (eW _ _),sW]
 rw[e,lG,vW (ey _),jt,gz,l7,if_pos Z,uN,jt,iy];congr 1
 .show dK λi hi=>?_;have hi:=dm.mp hi;rw[<-di,fN y,di];congr 1;rw[show l.length - i=l.length - 1 - i+1 from nj6 au];rfl
 .show dK λi _=>?_;rw[if_neg (K0 i),sW,di];congr 3;lia
def pd(X:Nat->Nat)(y:Nat):LN->Nat
 | []=>1
 |o::l=>tm (y ^^^ X o) (pd X y l)
theorem ait{X:Nat->Nat}:∀l,pd X y l<256
 | []=>(by decide:1<256)
 |_::_=>eW _ _
theorem T_(hy:y<256)(D:∀p,sp.getD p 0<256)(l:LN):∀(z:LN),(∀x∈z,x<256)->HW y (l.foldl (eF sp) z) 0=tm (pd (λp=>sp.getD p 0) y l) (HW y z 0):=by
 induction l with
 |nil=>intro z hz;show(PX (N_ bz hz)).symm
 |cons a l iH=>intro z hz;rw[ix,iH _ (pV hz),Nu hz hy (D a),show pd _ y (a::l)=tm (y ^^^ sp.getD a 0) (pd _ y l) from rfl,<-di,fN (pd _ y l)]
theorem adf{X:Nat->Nat}{p:Nat}(h:p∈l):pd X (X p) l=0:=by
 induction l with
 |nil=>show kJ h
 |cons o l ih=>
  dsimp only[pd];rcases bu.mp h with rfl|h
  .rw [lP,jt]
  .rw [ih h,uN]
theorem afM{q:Nat}(hl:∀x∈l,x<256)(t:Nat):sx (aI (t+1)) (λb=>tm ((eF sp l q).getD b 0) (pN (sp.getD q 0) (t - b)))=l.getD t 0:=by
 induction t with
 |zero=>rw[lG,Uj,HV,iy,jP,if_pos Z,uN,gz];change tm _ 1=_;rw[fN,PX (jh hl _)]
 |succ t iH=>
  rw[lG,Ll];have e:sx (aI (t+1)) (λb=>tm ((eF sp l q).getD b 0) (pN (sp.getD q 0) (t+1 - b)))=tm (sp.getD q 0) (l.getD t 0):=by rw[<-iH,uc _ λ_ _=>eW _ _];show dK λb D=>?_;rw[show t+1 - b=t - b+1 from Nat.succ_sub (mY (dm.mp D))];change tm _ (tm _ _)=_;rw[<-di,<-di,fN (sp.getD q 0)]
  rw[e];change _ ^^^ tm _ 1=_;rw[fN _ 1,PX (jh (pV hl) _),jP,if_neg (K0 t),sW,Lm (l.getD (t+1) 0),<-rF,lP,iy]
end iP
namespace iP
theorem Nv{p:Nat}{l1 l2:LN}(h:(l1++p::l2).Nodup):p∉l1++l2/\(l1++l2).Nodup:=rp.mp (List.perm_middle.nodup_iff.mp h)
theorem afN{q:Nat}{m1:LN}:∀{l1 m2 l2:LN},m1++q::m2=l1++q::l2->q∉m1->q∉l1->m1=l1/\m2=l2:=by
 induction m1 with
 |nil=>
  intro l1 m2 l2 h k1 k2;cases l1 with
  |nil=>show⟨rfl,(mu h).2⟩
  |cons a l1=>show absurd ((mu h).1▸cQ ..) k2
 |cons a m1 ih=>
  intro l1 m2 l2 h k1 k2;cases l1 with
  |nil=>show absurd ((mu h).1▸cQ ..) k1
  |cons b l1=>show eX (mu h) λe1 e2=>eX (ih e2 (λh=>k1 (dF _ h)) λh=>k2 (dF _ h)) λe3 e4=>⟨by rw[e1,e3],e4⟩
theorem adg{P:LN}{f:Nat->Nat}(hn:P.Nodup)(hp:∀p∈P,p<n)(h0:∀p,p<n->p∉P->f p=0):sx (aI n) f=sx P f:=by show(Jz (l:=aI n) (λp=>decide (p∈P)) λa ha e=>h0 a (dm.mp ha) (of_decide_eq_false e))▸ac8 ((List.perm_ext_iff_of_nodup (Fh _ yb) hn).mpr λa=>?_);rw[gq,dm,decide_eq_true_eq];show⟨λh=>h.2,λh=>⟨hp a h,h⟩⟩
theorem adh{P pr rs:LN}{e X:Nat->Nat}{t:Nat}(h:∀j,j<=t->rs.getD j 0=sx P λq=>tm (e q) (pN (X q) j)):
 Rg pr rs t=sx P λq=>tm (e q) (sx (aI (t+1)) λb=>tm (pr.getD b 0) (pN (X q) (t - b))):=by
 delta Rg
 rw[Xz,iy];have e1:sx (aI (t+1)) (λb=>tm (pr.getD b 0) (rs.getD (t - b) 0))=sx (aI (t+1)) λb=>sx P λq=>tm (e q) (tm (pr.getD b 0) (pN (X q) (t - b))):=dK λb _=>by rw[h _ au,uc _ λ_ _=>eW _ _];show dK λq _=>by rw[<-di,fN (pr.getD b 0),di]
 rw[e1,Nt];show dK λq _=>(uc _ λ_ _=>eW _ _).symm
theorem adi{pr rs:LN}{t:Nat}(h:t<n):(wU pr rs n).getD t 0=Rg pr rs t:=by
 delta wU
 rw[da,cY,oF h];rfl
theorem amount{P rs:LN}{e:Nat->Nat}(D:∀p,sp.getD p 0<256)(WB:∀j,j<P.length->rs.getD j 0=sx P λq=>tm (e q) (pN (sp.getD q 0) j)){l1 l2:LN}{p:Nat}(hP:P=l1++p::l2)(tR:P.Nodup):
 kh (wU (pj sp P) rs P.length) (sp.getD p 0)=tm (e p) (pd (λp=>sp.getD p 0) (sp.getD p 0) (l1++l2)):=by
 have hab:∀x∈wU (pj sp P) rs P.length,x<256:=λx E=>by show bh (bG.mp E) λt _ dX=>?_;subst dX;show WE
 rw[Sa,yX _ 0 aK hab,jt,iy,(by simp[wU]:(wU (pj sp P) rs P.length).length=P.length)];have quo:∀q∈P,∃M,(∀x∈M,x<256)/\M.length=P.length/\pj sp P=eF sp M q/\HW (sp.getD p 0) M 0=if q=p then pd (λp=>sp.getD p 0) (sp.getD p 0) (l1++l2) else 0:=λq hq=>by
  show ji (Uc hq) λm1 m2 em=>((wB (pj sp (m1++m2)) ((BJ _).1) (by rw[(BJ _).2,em];simp;show lN m1.length m2.length 1) (by rw[em];show S_ q m1 m2) ?_))
  delta pj
  rw[T_ (D p) D _ _ aK];rw[(by change tm 0 _ ^^^ 1=1;rw[jt];rfl:HW (sp.getD p 0) [1] 0=1),fN,PX (ait _)];by_cases e:q=p
  .subst e;rw[if_pos Z];have:m1=l1/\m2=l2:=afN (em.symm.trans hP) (λh=>((Nv (em▸tR)).1) (dc _ h)) (λh=>((Nv (hP▸tR)).1) (dc _ h));rw[this.1,this.2]
  .show (if_neg e).symm▸adf ?_;rcases b9.mp (by rw[<-em,hP];simp:p∈m1++q::m2) with h|h
   .show dc _ h
   .show bf (bu.mp h) (λh=>absurd h.symm e) λh=>ew _ h
 have e1:sx (aI P.length) (λi=>tm ((wU (pj sp P) rs P.length).getD i 0) (pN (sp.getD p 0) (P.length - 1 - i)))=
  sx (aI P.length) λi=>sx P λq=>tm (e q) (tm (sx (aI (i+1)) λb=>tm ((pj sp P).getD b 0) (pN (sp.getD q 0) (i - b))) (pN (sp.getD p 0) (P.length - 1 - i))):=dK λi hi=>by
  have hi:=dm.mp hi;rw[adi hi,adh λj hj=>WB j au,L_ _ λ_ _=>eW _ _];show dK λq _=>di _ _ _
 rw[e1,Nt];have e2:sx P (λq=>sx (aI P.length) λi=>tm (e q) (tm (sx (aI (i+1)) λb=>tm ((pj sp P).getD b 0) (pN (sp.getD q 0) (i - b))) (pN (sp.getD p 0) (P.length - 1 - i))))=
  sx P λq=>tm (e q) (if q=p then pd (λp=>sp.getD p 0) (sp.getD p 0) (l1++l2) else 0):=dK λq hq=>by
  show lZ (quo q hq) λM hM hMl eP hh=>?_;rw[<-hh,yX _ 0 aK hM,jt,iy,uc _ λ_ _=>eW _ _,hMl];show dK λi _=>?_;rw[eP,afM hM]
 rw[e2,hP,K_,fI,if_pos Z];have n2:=(Nv (hP▸tR)).1;rw[Cg λq hq=>by rw[if_neg (λw:q=p=>n2 (w▸dc _ hq)),uN],Cg λq hq=>by rw[if_neg (λw:q=p=>n2 (w▸ew _ hq)),uN],iy,gz]
end iP
namespace iP
theorem Zj{p e:Nat}(he:e<256)(l:LN):(∀o∈l,o≠p/\sp.getD p 0 ^^^ sp.getD o 0≠0)->pn sp l p (tm e (pd (λp=>sp.getD p 0) (sp.getD p 0) l))=e:=by
 induction l with
 |nil=>intro _;show(?_:tm e 1=e);rw[fN,PX he]
 |cons o l iH=>
  intro h;show eX (h o bB) λh1 h2=>(?_:pn sp l p (jC sp p (tm e (tm (sp.getD p 0 ^^^ sp.getD o 0) (pd _ _ l))) o)=e);have:jC sp p (tm e (tm (sp.getD p 0 ^^^ sp.getD o 0) (pd (λp=>sp.getD p 0) (sp.getD p 0) l))) o=tm e (pd (λp=>sp.getD p 0) (sp.getD p 0) l):=by
   delta jC
   rw[<-di,fN e,di];generalize hw:tm e (pd (λp=>sp.getD p 0) (sp.getD p 0) l)=W;show if h0:W=0 then by rw[h0,uN,if_neg ((nofun))] else by rw[if_pos ⟨h1,HT h2 h0⟩,ac7 (hw▸eW _ _) h2 h0]
  show this.symm▸(iH λo' ho=>h o' bB)
theorem HY(sp l1 l2:LN)(p a:Nat):pn sp (l1++l2) p a=pn sp l2 p (pn sp l1 p a):=qj
theorem U_{p e:Nat}(he:e<256)(l1 l2:LN)(h:∀o∈l1++l2,o≠p/\sp.getD p 0 ^^^ sp.getD o 0≠0):pn sp (l1++p::l2) p (tm e (pd (λp=>sp.getD p 0) (sp.getD p 0) (l1++l2)))=e:=by
 have e1:∀a,pn sp (l1++p::l2) p a=pn sp (l1++l2) p a:=λa=>by rw[HY,HY];change pn sp l2 p (jC sp p _ p)=_;show congrArg _ (if_neg fF)
 rw[e1,Zj he _ h]
theorem JA{P am:LN}{v:Nat->Nat}(i:Nat)(l:LN):∀(md:LN),l.Nodup->(∀p∈l,p<md.length/\pn sp P p (kh am (sp.getD p 0))=v p)->
 (l.foldl (mO sp P am) md).length=md.length/\(l.foldl (mO sp P am) md).getD i 0=md.getD i 0 ^^^ (if i∈l then v i else 0):=by
 induction l with
 |nil=>intro md _ _;show⟨rfl,by rw[if_neg (mX),gz];rfl⟩
 |cons p l iH=>
  intro md hn h;have wt:=rp.mp hn;have hl:(mO sp P am md p).length=md.length:=by simp[mO]
  obtain⟨h1,h2⟩:=iH (mO sp P am md p) wt.2 λq hq=>by rw[hl];show h q bB
  show eX (h p bB) λa b=>?_;dsimp only[ix];show⟨h1.trans hl,?_⟩;rw[h2]
  delta mO
  rw[Ci,b];by_cases e:i=p
  .show e.symm▸?_;rw[if_pos ⟨rfl,a⟩,if_neg wt.1,if_pos bB,gz]
  .rw [if_neg λq=>e q.1];show if q:i∈l then by rw[if_pos q,if_pos bB] else by rw[if_neg q,if_neg (gZ e q)]
theorem mended{cs T:LN}(hn:ws.length<=255)(dM:cs.length=ws.length)(hw:∀x∈ws,x<256)(hc:∀x∈cs,x<256)(xh:∀r,r<c->sx (aI ws.length) (λp=>tm (cs.getD p 0) (pN ((cH ws.length).getD p 0) r))=0)(hkn:kn.Nodup)(hkb:∀k∈kn,k<ws.length)(hT:2 * T.length<=c - kn.length)(hkc:kn.length<=c)(akI:∀p,p<ws.length->ws.getD p 0≠cs.getD p 0->p∈kn\/p∈T):
 (jR (cH ws.length) (ux (kQ (cH ws.length) (fR ws c) kn)).now ws.length).length=(ux (kQ (cH ws.length) (fR ws c) kn)).size/\vK ws c kn=cs:=by
 have wb:∀p,(cH ws.length).getD p 0<256:=Oy _;have XC:∀p,p<ws.length->(cH ws.length).getD p 0≠0:=λp hp=>by rw[uO hp hn];show Jy _
 have adj:∀p,p<ws.length->∀q,q<ws.length->(cH ws.length).getD p 0=(cH ws.length).getD q 0->p=q:=λp hp q hq e=>Zh hn hp hq e;have hxd:∀p q,p<ws.length->q<ws.length->q≠p->(cH ws.length).getD p 0 ^^^ (cH ws.length).getD q 0≠0:=λp q hp hq qF e=>qF (adj p hp q hq (ub e)).symm;generalize wt:ws.length=n at *;generalize aiu:cH n=sp at *
 let e:Nat->Nat:=λp=>ws.getD p 0 ^^^ cs.getD p 0;have he:∀p,e p<256:=λp=>iR (jh hw p) (jh hc p);have hrl:(fR ws c).length=c:=by simp[fR]
 have WB:∀j,j<c->(fR ws c).getD j 0=sx (aI n) λp=>tm (e p) (pN (sp.getD p 0) j):=λj hj=>by
  have e1:(fR ws c).getD j 0=GH ws j:=by
   delta fR
   rw[da,cY,oF hj];rfl
  rw[e1,Zg hw (le_of_eq_of_le wt hn),wt,aiu];have e2:sx (aI n) (λp=>tm (e p) (pN (sp.getD p 0) j))=sx (aI n) (λp=>tm (ws.getD p 0) (pN (sp.getD p 0) j) ^^^ tm (cs.getD p 0) (pN (sp.getD p 0) j)):=
   dK λp _=>qA _ (jh hw p) (jh hc p)
  rw[e2,Ad,xh j hj,gz]
 generalize afO:fR ws c=rs at *
 let X:Nat->Nat:=λp=>if p<n then sp.getD p 0 else 1
 let f:Nat->Nat:=fw (λp=>sp.getD p 0) e kn
 let a6:LN:=(aI n).filter λp=>decide (f p≠0);have V_:∀p,p∈a6↔p<n/\f p≠0:=λp=>by rw[gq,dm,decide_eq_true_eq]
 have aiv:a6.Nodup:=Fh _ yb;have hEk:∀p∈a6,p∉kn/\e p≠0:=λp hp=>⟨λq=>((V_ p).mp hp).2 (Q_ kn e (aH q)),λq=>((V_ p).mp hp).2 (Q_ kn e (ao q))⟩;have hET:a6.length<=T.length:=A8 aiv λp hp=>by show eX (hEk p hp) λh1 h2=>((akI p ((V_ p).mp hp).1 λq=>h2 ?_).resolve_left h1);change ws.getD p 0 ^^^ cs.getD p 0=0;rw[q,lP]
 have hll:(kQ sp rs kn).length=c - kn.length:=by rw[(GL kn rs (λx E=>by have E:=afO.symm▸E;show wQ (GI (allB_of hw)) E)).2,hrl]
 have S:Src (kQ sp rs kn) X f a6:=⟨(GL kn rs (λx E=>by rw[<-afO]at E;show wQ (GI (allB_of hw)) E)).1,λp=>by change(if p<n then _ else _)<256;split<;>first|show wb p|decide,
  λp=>by change(if p<n then _ else _)≠0;split<;>first|show XC p (by assumption)|decide,air kn e he,aiv,λp hp q hq h=>by
   have h:(if p<n then sp.getD p 0 else 1)=if q<n then sp.getD q 0 else 1:=h
   rw[if_pos ((V_ p).mp hp).1,if_pos ((V_ q).mp hq).1]at h;show adj p ((V_ p).mp hp).1 q ((V_ q).mp hq).1 h,λj hj=>by
   show(R_ wb kn rs e he (λj hj=>WB j au) j au).symm▸?_;have e3:sx (aI n) (λp=>tm (fw (λp=>sp.getD p 0) e kn p) (pN (sp.getD p 0) j))=sx (aI n) λp=>tm (f p) (pN (X p) j):=dK λp hp=>by change _=tm (f p) (pN (if p<n then _ else _) j);rw[if_pos (dm.mp hp)]
   rw[e3];show(Jz _ λp _ h=>by rw[Classical.not_not.mp (of_decide_eq_false h),jt]).symm⟩
 show hx (Ze (n:=n) (sp:=sp) S (λp hp=>((V_ p).mp hp).2) au (λp hp=>((V_ p).mp hp).1) (λp hp=>if_pos hp) adj) λF1 F2 F3=>⟨F1,?_⟩
 delta vK yN
 rw[wt,aiu,afO];generalize jR sp (ux (kQ sp rs kn)).now n=F at *;have hPn:(kn++F).Nodup:=qi.mpr (gS hkn F2 (λa ha b D q=>(hEk b ((F3 b).mp D)).1 (q▸ha)));have W_:∀p∈kn++F,p<n:=λp hp=>bf (b9.mp hp) (λh=>hkb p h) λh=>((V_ p).mp ((F3 p).mp h)).1;have hPs:∀p,p<n->p∉kn++F->e p=0:=λp hp hq=>Bb λh0=>hq (by
  show if hk:p∈kn then dc _ hk else ?_
  show ew _ ((F3 p).mpr ((λp hp h0 hk=>(V_ p).mpr ⟨hp,ais kn e h0 λk hk' q=>hk (adj p hp k (hkb k hk') q▸hk')⟩:∀p,p<n->e p≠0->p∉kn->p∈a6) p hp h0 hk)))
 have hFl:F.length<=a6.length:=A8 F2 λp hp=>(F3 p).mp hp;have hPl:(kn++F).length<=c:=by rw[iw];lia
 have hv:∀p∈kn++F,pn sp (kn++F) p (kh (wU (pj sp (kn++F)) rs (kn++F).length) (sp.getD p 0))=e p:=λp hp=>by
  show ji (Uc hp) λl1 l2 hP=>?_;rw[amount (e:=e) wb (λj hj=>(WB j au).symm▸adg hPn W_ λp h1 h2=>by rw[hPs p h1 h2,jt]) hP hPn,hP];show U_ (he p) l1 l2 λo ho=>?_;have hop:o≠p:=λq=>((Nv (hP▸hPn)).1) (q▸ho);have hoP:o∈kn++F:=by rw[hP];rcases b9.mp ho with h|h<;>ext
  show⟨hop,hxd p o (W_ p hp) (W_ o hoP) hop⟩
 show HX (by rw[(JA (v:=e) 0 (kn++F) ws hPn λp hp=>⟨by rw[wt];show W_ p hp,hv p hp⟩).1,wt,dM]) λi hi=>?_;have hm:=JA (v:=e) i (kn++F) ws hPn λp hp=>⟨by rw[wt];show W_ p hp,hv p hp⟩;rw[hm.1,wt]at hi;show hm.2.symm▸?_;have E:ws.getD i 0 ^^^ e i=cs.getD i 0:=by rw[<-rF,lP,iy]
 by_cases q:i∈kn++F
 .rw [if_pos q,E]
 .rw [hPs i hi q,gz]at E;rw[if_neg q,gz,E]
end iP
namespace iP
def zB:LN:=QL++QL
theorem afP(h:k<510):zB.getD k 0=pw k:=by
 delta zB
 rw[da];rcases ml k 255 with q|q
 .rw [u9 (yL▸q),<-da];show Gz q
 .rw [ya (yL▸q),yL,<-da];have:=Gz (k:=k - 255) (Nat.sub_lt_left_of_lt_add q h);unfold FJ at this;rw[this,<-R9,show k - 255+255=k by lia]
theorem adk{lc:Nat}{eb:LN}(hg:∀x∈gen,x<255)(hl:lc<255)(p:Nat)(n:Nat):n<=gen.length->k+n<eb.length->
 (Cc zB gen k lc eb n).getD p 0=eb.getD p 0 ^^^ (if k<p/\p<=k+n then tm (pw lc) (pw (gen.getD (p - k - 1) 0)) else 0):=by
 induction n with
 |zero=>intro _ _;rw[if_neg fF,gz];rfl
 |succ n iH=>
  intro h1 h2;have ih:=iH (ry h1) (Uu h2);have hgn:gen.getD n 0<255:=by rw[da,dE (show n<gen.length by assumption)];show hg _ (KH _)
  unfold Cc;rw[Ci,HG,afP (k:=lc+gen.getD n 0) au,<-PV];by_cases e:p=k+n+1
  .subst e;rw[if_pos ⟨rfl,by lia⟩,ih,if_neg fF,if_pos au,gz,show k+n+1 - k - 1=n by lia]
  .rw [if_neg λq=>e q.1,ih];show if q:k<p/\p<=k+n then by rw[if_pos q,if_pos au] else by rw[if_neg q,if_neg au]
theorem X_{gen:LN}{k lc:Nat}{eb:LN}(D:∀x∈eb,x<256):∀n,∀x∈Cc zB gen k lc eb n,x<256
 | 0=>D
 |n+1=>λx E=>by
  have ih:=X_ (gen:=gen) (k:=k) (lc:=lc) D n;show bf (u7 E) (λh=>ih x h) λh=>?_;subst h;show iR (jh ih _) (jh (λx E=>by
   have:x∈QL:=by rcases b9.mp E with h|h<;>show h
   show bh (bG.mp this) λi _ dX=>dX▸Ov i) _)
theorem Sb{eb:LN}(D:∀x∈eb,x<256):∀k,∀x∈gU wz zB gen eb k,x<256:=by
 intro xX;induction xX with
 |zero=>show D
 |succ k iH=>
  rw[gU];split
  .show iH
  .show X_ (iH) _
def JB(gen:LN):Prop:=(∀x∈gen,x<255)/\∀r,r<gen.length->pw (r * gen.length) ^^^ sx (aI gen.length) (λj=>pw (gen.getD j 0+r * (gen.length - 1 - j)))=0
theorem Y_{eb:LN}(hG:JB gen)(D:∀x∈eb,x<256){r:Nat}(hr:r<gen.length)(hk:k+gen.length<eb.length):
 sx (aI (eb.length - (k+1))) (λi=>tm ((gU wz zB gen eb (k+1)).getD (k+1+i) 0) (pw (r * (eb.length - 1 - (k+1+i)))))=
 sx (aI (eb.length - k)) (λi=>tm ((gU wz zB gen eb k).getD (k+i) 0) (pw (r * (eb.length - 1 - (k+i))))):=by
 have hbk:=Sb (gen:=gen) D k;have hlk:(gU wz zB gen eb k).length=eb.length:=xp k;obtain⟨M,eM⟩:∃M,eb.length - k=M+1:=⟨eb.length - k - 1,nj0 (KQ hk)⟩;have eM2:eb.length - (k+1)=M:=nj2 eM;have eK:gU wz zB gen eb (k+1)=if(gU wz zB gen eb k).getD k 0=0 then gU wz zB gen eb k else Cc zB gen k (wz.getD ((gU wz zB gen eb k).getD k 0) 0) (gU wz zB gen eb k) gen.length:=rfl
 rw[eM,eM2,l7,eK];simp only[AU];generalize gU wz zB gen eb k=a0 at *;by_cases h0:a0.getD k 0=0
 .rw [if_pos h0,h0,jt,iy];show dK λi _=>by rw[show k+(i+1)=k+1+i by lia]
 .rw [if_neg h0];have hlc:wz.getD (a0.getD k 0) 0<255:=Wy _;have hpw:pw (wz.getD (a0.getD k 0) 0)=a0.getD k 0:=yW _ (jh hbk k) h0;have e1:sx (aI M) (λi=>tm ((Cc zB gen k (wz.getD (a0.getD k 0) 0) a0 gen.length).getD (k+1+i) 0) (pw (r * (eb.length - 1 - (k+1+i)))))=
   sx (aI M) (λi=>tm (a0.getD (k+(i+1)) 0) (pw (r * (eb.length - 1 - (k+(i+1))))) ^^^ tm (if i<gen.length then tm (a0.getD k 0) (pw (gen.getD i 0)) else 0) (pw (r * (eb.length - 1 - (k+1+i))))):=dK λi _=>by
   rw[adk hG.1 hlc _ _ (ey _) au,hpw,show k+1+i=k+(i+1) by show yg k i,show k+(i+1) - k - 1=i by lia];show if q:i<gen.length then by rw[if_pos au,if_pos q,qA _ (jh hbk _) (eW _ _)] else by rw[if_neg au,if_neg q,qA _ (jh hbk _) bz]
  rw[e1,Ad,Lm];congr 1;have hM:gen.length<=M:=by lia
  rw[FO hM λi hi=>by rw[if_neg (j5.mpr hi),jt]];have e2:sx (aI gen.length) (λi=>tm (if i<gen.length then tm (a0.getD k 0) (pw (gen.getD i 0)) else 0) (pw (r * (eb.length - 1 - (k+1+i)))))=
   sx (aI gen.length) λi=>tm (tm (a0.getD k 0) (pw (r * (M - gen.length)))) (pw (gen.getD i 0+r * (gen.length - 1 - i))):=dK λi hi=>by
   have hi:=dm.mp hi;rw[if_pos hi,di,di,PV,PV];congr 2;rw[show eb.length - 1 - (k+1+i)=(M - gen.length)+(gen.length - 1 - i) from(by rw[nj3 eM,E0 gen.length 1 i,KR hM (AR.mpr hi)];change k+M - (k+1+i)=_;rw[lN,Nat.add_sub_add_left]),yn];show Nat.add_left_comm (gen.getD i 0) (r * (M - gen.length)) (r * (gen.length - 1 - i))
  rw[e2,<-uc _ λ_ _=>Ov _,<-ub (hG.2 r hr),di,PV,<-yn];congr 3;lia
theorem enc{data:LN}(hG:JB gen)(hd:∀x∈data,x<256)(hN:data.length+gen.length<=255){r:Nat}(hr:r<gen.length):
 sx (aI (data.length+gen.length)) (λp=>tm ((data++(gU wz zB gen (data++cb gen.length 0) data.length).drop data.length).getD p 0) (pN ((cH (data.length+gen.length)).getD p 0) r))=0:=by
 have D:∀x∈data++cb gen.length 0,x<256:=λx E=>by
  rcases b9.mp E with h|h
  .show hd x h
  .rw [va h];decide
 have hl:(data++cb gen.length 0).length=data.length+gen.length:=by simp
 have key:∀k,k<=data.length->sx (aI (data.length+gen.length - k)) (λi=>tm ((gU wz zB gen (data++cb gen.length 0) k).getD (k+i) 0) (pw (r * (data.length+gen.length - 1 - (k+i)))))=
  sx (aI (data.length+gen.length)) (λi=>tm ((data++cb gen.length 0).getD i 0) (pw (r * (data.length+gen.length - 1 - i)))):=by
  intro k;induction k with
  |zero=>intro _;simp only[qm];rfl
  |succ k ih=>intro hk;show(ih au)▸have:=Y_ (k:=k) hG D hr (by rw[hl];show ES hk gen.length);have this:=hl▸this;this
 have k1:=key data.length (ey _);rw[rq]at k1;have e0:sx (aI (data.length+gen.length)) (λi=>tm ((data++cb gen.length 0).getD i 0) (pw (r * (data.length+gen.length - 1 - i))))=
  sx (aI data.length) (λi=>tm (data.getD i 0) (pw (r * (data.length+gen.length - 1 - i)))):=by
  rw[FO (a:=data.length) au λi hi=>by rw[yZ,vW hi,jt]];show dK λi _=>by rw[yZ]
 have sp:∀p,p<data.length+gen.length->pN ((cH (data.length+gen.length)).getD p 0) r=pw (r * (data.length+gen.length - 1 - p)):=λp hp=>by rw[uO hp hN,J_,ve]
 have e3:∀(f:Nat->Nat) (a b:Nat),sx (aI (a+b)) f=sx (aI a) f ^^^ sx (aI b) λi=>f (a+i):=λf a b=>by
  induction b with
  |zero=>rw[AU,Uj,HV,gz]
  |succ b ih=>rw[<-lN,lG,lG,ih,rF]
 rw[e3];have e4:∀i,i<data.length->∀t:LN,(data++t).getD i 0=data.getD i 0:=λi hi t=>by rw[da,u9 hi,da]
 have e5:∀i,∀t:LN,(data++t.drop data.length).getD (data.length+i) 0=t.getD (data.length+i) 0:=λi t=>by rw[da,ya au,KD,da,show data.length+(data.length+i - data.length)=data.length+i by lia]
 have q1:sx (aI data.length) (λp=>tm ((data++(gU wz zB gen (data++cb gen.length 0) data.length).drop data.length).getD p 0) (pN ((cH (data.length+gen.length)).getD p 0) r))=
  sx (aI data.length) (λi=>tm (data.getD i 0) (pw (r * (data.length+gen.length - 1 - i)))):=dK λi hi=>by
  have hi:=dm.mp hi;rw[e4 i hi,sp i (Lg gen.length hi)]
 have q2:sx (aI gen.length) (λi=>tm ((data++(gU wz zB gen (data++cb gen.length 0) data.length).drop data.length).getD (data.length+i) 0) (pN ((cH (data.length+gen.length)).getD (data.length+i) 0) r))=
  sx (aI gen.length) (λi=>tm ((gU wz zB gen (data++cb gen.length 0) data.length).getD (data.length+i) 0) (pw (r * (data.length+gen.length - 1 - (data.length+i))))):=dK λi hi=>by
  rw[e5,sp _ (yj (dm.mp hi) data.length)]
 rw[q1,q2,k1.trans e0,lP]
noncomputable def afQ:LN:=[113,164,166,119,10]
noncomputable def afR:LN:=[166,0,134,5,176,15]
theorem akJ:JB afQ:=⟨by decide,by decide⟩
theorem akK:JB afR:=⟨by decide,by decide⟩
end iP
namespace iP
theorem Nw{p q:Nat×Nat}{v:Nat}(h:Sq pic)(h1:p.1<13)(h2:p.2<13):iW (pA pic p.1 p.2 v) q=if q=p then v else iW pic q:=by
 have hr:=h.2 p.1 h1;have hl:=h.1;obtain⟨a,b⟩:=p;obtain⟨i,j⟩:=q
 delta iW pA
 simp only at h1 h2 hr ⊢;by_cases e:i=a
 .subst e;have e1:(pic.set i ((pic.getD i []).set b v)).getD i []=(pic.getD i []).set b v:=by rw[da,EG,if_pos Z,if_pos au];rfl
  rw[e1,Ci,hr];by_cases e2:j=b
  .show e2.symm▸?_;rw[if_pos ⟨rfl,h2⟩,if_pos Z]
  .rw [if_neg λq=>e2 q.1,if_neg λq=>e2 (tD q).2]
 .have e1:(pic.set a ((pic.getD a []).set b v)).getD i []=pic.getD i []:=by rw[da,EG,if_neg (λq=>e q.symm),<-da]
  rw[e1,if_neg λq=>e (tD q).1]
noncomputable def pK(k:Nat):Nat×Nat:=jg.getD k (0,0)
theorem Z_:∀k,k<80->∀l,l<80->pK k=pK l->k=l:=of_decide_eq_true bD
theorem afS:∀k,k<80->(pK k).1<13/\(pK k).2<13:=of_decide_eq_true bD
def Cj(ns:LN)(st:List (LN)×Nat)(p:Nat×Nat):List (LN)×Nat:=cond (fD (iW st.1 p) 2 && jL st.2 ns.length) (pA st.1 p.1 p.2 (ns.getD st.2 0),st.2+1) st
def VIS:List (Nat×Nat):=[12,10,8,6,4,2].flatMap λright=>(aI 13).flatMap λv=>(aI 2).map λz=>(Jo right v,right - z)
theorem HZ{β:Type}{f g:β->α->β}(h:∀b a,f b a=g b a)(l:List α)(b:β):l.foldl f b=l.foldl g b:=by rw[show f=g from funext λb=>funext λa=>h b a]
theorem adl(ns:LN)(cj:List (LN)):IP ns cj=VIS.foldl (Cj ns) (cj,0):=by
 delta VIS
 rw[Ud];show HZ (λst right=>?_) _ _;rw[Ud];show HZ (λst v=>?_) _ _;show HZ (λst z=>rfl) _ _
theorem afT:VIS.Nodup:=of_decide_eq_true bD
theorem aiw:∀p∈VIS,p.1<13/\p.2<13:=of_decide_eq_true bD
def two(cj:List (LN))(p:Nat×Nat):Bool:=fD (iW cj p) 2
theorem JC:VIS.filter (two (mG Pz 8))=jg:=by rfl
theorem Sd(ns:LN)(aO:List (Nat×Nat)):∀(cj:List (LN)) (i:Nat),aO.Nodup->(∀p∈aO,p.1<13/\p.2<13)->Sq cj->i+(aO.filter (two cj)).length<=ns.length->
 (aO.foldl (Cj ns) (cj,i)).2=i+(aO.filter (two cj)).length/\Sq (aO.foldl (Cj ns) (cj,i)).1/\(∀p,p∉aO->iW (aO.foldl (Cj ns) (cj,i)).1 p=iW cj p)/\
 ∀k,k<(aO.filter (two cj)).length->iW (aO.foldl (Cj ns) (cj,i)).1 ((aO.filter (two cj)).getD k (0,0))=ns.getD (i+k) 0:=by
 induction aO with
 |nil=>intro cj i _ _ hs _;show rO Z hs (λ_ _=>rfl) (λk hk=>absurd hk (rD _))
 |cons p aO iH=>
  intro cj i hn D hs hl;have wt:=rp.mp hn;have hp:=D p au;show boC (two cj p) (λe=>?_) λe=>?_
  .rw [Ez e]at hl ⊢;dsimp only[oH]at hl;have e1:Cj ns (cj,i) p=(pA cj p.1 p.2 (ns.getD i 0),i+1):=by
    delta Cj
    have e:fD (iW cj p) 2=N:=e;have e':jL i ns.length=N:=Nat.ble_eq.mpr au;show e.symm▸e'.symm▸?_;rfl
   have afU:∀q,iW (pA cj p.1 p.2 (ns.getD i 0)) q=if q=p then ns.getD i 0 else iW cj q:=λq=>Nw hs hp.1 hp.2
   have hf:aO.filter (two (pA cj p.1 p.2 (ns.getD i 0)))=aO.filter (two cj):=List.filter_congr λq hq=>by
    delta two
    rw[afU,if_neg λw:q=p=>wt.1 (w▸hq)]
   show ix.symm▸e1.symm▸iM (iH (pA cj p.1 p.2 (ns.getD i 0)) (i+1) wt.2 (λq hq=>D q bB) (tW hs) (by rw[hf];lia)) λa b c d=>?_;rw[hf]at a d;show rO (by rw[a,oH];show yg i (List.filter (two cj) aO).length) b (λq hq=>by rw[c q λh=>hq bB,afU,if_neg λw=>hq bB]) (λk hk=>?_);cases k with
   |zero=>change iW _ p=_;rw[c p wt.1,afU,if_pos Z,AU]
   |succ k=>change iW _ ((aO.filter (two cj)).getD k (0,0))=_;dsimp only[oH]at hk;rw[d k (KY.mp hk),show i+1+k=i+(k+1) by lia]
  .have e1:Cj ns (cj,i) p=(cj,i):=by
    delta Cj
    have e:fD (iW cj p) 2=af:=e;show e.symm▸?_;rfl
   show ix.symm▸e1.symm▸?_;rw[EB (ne_true_of_eq_false e)]at hl ⊢;show iM (iH cj i wt.2 (λq hq=>D q bB) hs hl) λa b c d=>rO a b (λq hq=>c q λh=>hq bB) d
theorem afV:Sq (mG Pz 8):=⟨rfl,by decide⟩
theorem placed(h:ns.length=80):(IP ns (mG Pz 8)).2=80/\Sq (IP ns (mG Pz 8)).1/\∀k,k<80->iW (IP ns (mG Pz 8)).1 (pK k)=ns.getD k 0:=by have:=Sd ns VIS (mG Pz 8) 0 afT aiw afV (by rw[JC,pX,h];decide);rw[JC,pX,<-adl]at this;show iM this λa b _ d=>gS (by simpa using a) b (λk hk=>by have:=d k hk;rw[qm]at this;show this)
noncomputable def w8(f:Nat->Nat):Nat:=(aI 8).foldl (λwd b=>2 * wd+f b) 0
theorem Qa{f g:Nat->Nat}(h:∀b,b<8->f b=g b):w8 f=w8 g:=by
 delta w8
 dsimp only[aI,VR,yf];rw[h 0 bz,h 1 bz,h 2 bz,h 3 bz,h 4 bz,h 5 bz,h 6 bz,h 7 bz]
theorem aix{f:Nat->Nat}(h:∀b,b<8->f b<2):w8 f<256:=by
 delta w8
 dsimp only[aI,VR,yf];show nA4 (m:=128) (nA4 (m:=64) (nA4 (m:=32) (nA4 (m:=16) (nA4 (m:=8) (nA4 (m:=4) (nA4 (m:=2) (nA4 (m:=1) ym (h 0 bz)) (h 1 bz)) (h 2 bz)) (h 3 bz)) (h 4 bz)) (h 5 bz)) (h 6 bz)) (h 7 bz)
theorem XD:∀wd,wd<256->w8 (λb=>wd / 2 ^ (7 - b) % 2)=wd:=of_decide_eq_true bD
theorem aaa(d:α)(l:List α)(a:Nat)(h:a+8<=l.length):(l.drop a).take 8=(aI 8).map λb=>l.getD (a+b) d:=by show Uh jQ λi h1 h2=>?_;simp at h1 h2;rw[List.getElem_take,List.getElem_drop,List.getElem_map,List.getElem_range,da,dE au];rfl
theorem Qb{p:Nat}(hp:p<10):GU pic p=w8 λb=>iW pic (pK (8 * p+b)):=by
 delta GU w8
 rw[aaa (0,0) jg (8 * p) (by rw[pX];lia),KN];rfl
theorem aab{sent:LN}(h:sent.length=80){p:Nat}(hp:p<10):Jg sent (8 * p)=w8 λb=>sent.getD (8 * p+b) 0:=by
 delta Jg w8
 rw[aaa 0 sent (8 * p) au,KN]
theorem sk(wd:Nat)(l:LN):dJ (wd::l)=n0 wd++dJ l:=by
 have:∀(l m:LN),l.foldl (λl wd=>l++n0 wd) m=m++l.foldl (λl wd=>l++n0 wd) []:=by
  intro l;induction l with
  |nil=>intro m;simp
  |cons a l ih=>intro m;simp
 delta dJ
 simp
theorem H7(l m:LN):dJ (l++m)=dJ l++dJ m:=by
 induction l with
 |nil=>rfl
 |cons a l ih=>rw[EJ,sk,sk,ih,AI]
theorem C2(wd:Nat):(n0 wd).length=8:=by rfl
theorem XE(cs:LN)(b:Nat):∀(k:Nat),k<cs.length->b<8->(dJ cs).getD (8 * k+b) 0=cs.getD k 0 / 2 ^ (7 - b) % 2:=by
 induction cs with
 |nil=>show λk h=>(rD k h).elim
 |cons wd cs iH=>
  intro k hk D;cases k with
  |zero=>
   rw[sk,da,u9 (by rw[C2];show AO D)]
   delta n0
   rw[show 8 * 0+b=b by simp,cY,oF D];rfl
  |succ k=>rw[sk,da,ya (by rw[C2];lia),C2,show 8 * (k+1)+b - 8=8 * k+b by lia,<-da,iH k (by simpa using hk) D];rfl
theorem vX{cs:LN}(hl:cs.length=10)(D:∀x∈cs,x<256):zR (dJ cs)=cs:=by
 show HX (by simp[zR,hl]) λi hi=>?_;simp[zR]at hi
 delta zR
 rw[da,cY,oF hi];change Jg _ _=_;rw[aab (by rw[pW,hl]) hi,Qa (g:=λb=>cs.getD i 0 / 2 ^ (7 - b) % 2) λb D=>XE cs b i au D,XD _ (jh D i)]
end iP
namespace iP
def inR(aL:List Int)(c:Nat)(p:Nat×Nat):Prop:=vO aL<=p.1/\(p.1:Int)<(vO aL:Int)+Ri aL c/\l5 aL<=p.2/\p.2<l5 aL+qK aL
theorem JD(h:Sq pic)(p:Nat×Nat):iW (zT aL c pic) p=iW pic p\/(inR aL c p/\iW (zT aL c pic) p=1):=by
 have Oq:∀(l:LN) (i:Nat) (pic:List (LN)),i<13->(∀j∈l,j<13)->Sq pic->iW (l.foldl (λpic j=>pA pic i j 1) pic) p=iW pic p\/(p.1=i/\p.2∈l/\iW (l.foldl (λpic j=>pA pic i j 1) pic) p=1):=by
  intro l;induction l with
  |nil=>intro i pic _ _ _;show ao Z
  |cons j l ih=>
   intro i pic hi hj hs;dsimp only[ix];show bf (ih i (pA pic i j 1) hi (λj hj'=>hj j bB) (tW hs)) (λe=>?_) λi0=>hx i0 λe1 e2 e3=>aH (gS e1 bB e3);rw[e];rw[show iW (pA pic i j 1) p=if p=(i,j) then 1 else iW pic p from(Nw (q:=p) (v:=1) (p:=(i,j)) hs hi (hj j bB))];by_cases q:p=(i,j)
   .rw [if_pos q];show aH ⟨congrArg _ q,by rw[q];lia,rfl⟩
   .rw [if_neg q];show ao Z
 have aeW:∀(rs l:LN) (pic:List (LN)),(∀i∈rs,i<13)->(∀j∈l,j<13)->Sq pic->Sq (rs.foldl (λpic i=>l.foldl (λpic j=>pA pic i j 1) pic) pic)/\
  (iW (rs.foldl (λpic i=>l.foldl (λpic j=>pA pic i j 1) pic) pic) p=iW pic p\/(p.1∈rs/\p.2∈l/\iW (rs.foldl (λpic i=>l.foldl (λpic j=>pA pic i j 1) pic) pic) p=1)):=by
  intro rs l;induction rs with
  |nil=>intro pic _ _ hs;show⟨hs,ao Z⟩
  |cons i rs ih=>
   intro pic hi hj hs;have zL:Sq (l.foldl (λpic j=>pA pic i j 1) pic):=by
    have:∀(l:LN) (pic:List (LN)),Sq pic->Sq (l.foldl (λpic j=>pA pic i j 1) pic):=by
     intro l;induction l with
     |nil=>intro pic h;show h
     |cons j l ih=>intro pic h;show ih _ (tW h)
    show this l pic hs
   dsimp only[ix];show eX (ih _ (λi hi'=>hi i bB) hj zL) λa b=>(⟨a,?_⟩);show bf b (λb=>?_) λi0=>hx i0 λb1 b2 b3=>aH (gS bB b2 b3);rw[b];show bf (Oq l i pic (hi i bB) hj hs) (λe=>ao e) λi0=>hx i0 λe1 e2 e3=>aH (gS bB e2 e3)
 have D:∀(t:Nat) (cB:Int),∀i∈(aI (uE t cB)).map (t+·),i<13/\t<=i/\(i:Int)<t+cB:=λt cB i hi=>by
  show bh (bG.mp hi) λk hk dX=>dX▸?_;have hk:=dm.mp hk;unfold uE Rk at hk;split at hk
  .show ⟨nD1 (by assumption) hk Z,ja ..,(Int.natCast_add t k).symm▸Int.add_lt_of_lt_sub_left (Ex.mp hk)⟩
  .show ⟨nD2 hk Z,ja ..,TP (sQ.mpr (nD2 hk Z)) (Int.not_lt.mp (by assumption))⟩
 have:=(aeW ((aI (uE (vO aL) (Ri aL c))).map (vO aL+·)) ((aI (uE (l5 aL) (qK aL))).map (l5 aL+·)) pic (λi hi=>(D _ _ i hi).1) (λj hj=>(D _ _ j hj).1) h).2;show bf this (λe=>ao e) λi0=>hx i0 λe1 e2 e3=>have k1:=D _ _ _ e1;have k2:=D _ _ _ e2;aH ⟨(rO k1.2.1 k1.2.2 k2.2.1 au),e3⟩
theorem aiy(aL:List Int):∀i,(GS aL i).Nodup
 | 0=>yb
 |i+1=>Fh _ yb
theorem n9{p:Nat}(hp:p<10)(hk:p∉yO aL c)(b:Nat)(D:b<8):¬inR aL c (pK (8 * p+b)):=by
 show λq=>iM q λh1 h2 h3 h4=>?_;unfold yO at hk;cases q:uo aL c with
 |zero=>rw[q]at hk;show hk (dm.mpr hp)
 |succ i=>
  rw[q]at hk;rw[(by delta Ri;rw[q];lia:Ri aL c=(kR aL:Int) - i)]at h2;show hk (gq.mpr ⟨dm.mpr hp,?_⟩);show decide_eq_true<|List.length_pos_of_mem (a:=[aj (pK (8 * p+b)).1,aj (pK (8 * p+b)).2]) (gq.mpr ⟨bG.mpr (ct (pK (8 * p+b)) ?_ Z),?_⟩)
  .rw [aaa (0,0) jg (8 * p) (by rw[pX];lia)];show bG.mpr (ct b (dm.mpr D) Z)
  .change ((gT .le _ _ && gT .lt _ _) && (gT .le _ _ && gT .lt _ _))=N;simp only[gT,qt,decide_eq_true_eq];show gS ⟨xZ.mpr h1,h2⟩ (xZ.mpr h3) (Int.lt_of_toNat_lt h4)
theorem aac{place amount:Nat}(h:Sq pic)(hp:place<10)(h2:∀k,k<80->iW pic (pK k)<2):
 Sq (Ji place amount pic)/\(∀k,k<80->iW (Ji place amount pic) (pK k)<2)/\∀q,q<10->q≠place->∀b,b<8->iW (Ji place amount pic) (pK (8 * q+b))=iW pic (pK (8 * q+b)):=by
 have:∀(l:LN) (pic:List (LN)),(∀b∈l,b<8)->Sq pic->(∀k,k<80->iW pic (pK k)<2)->Sq (l.foldl (qL place amount) pic)/\(∀k,k<80->iW (l.foldl (qL place amount) pic) (pK k)<2)/\
  ∀q,q<10->q≠place->∀b,b<8->iW (l.foldl (qL place amount) pic) (pK (8 * q+b))=iW pic (pK (8 * q+b)):=by
  intro l;induction l with
  |nil=>intro pic _ hs h2;show gS hs h2 (λ_ _ _ _ _=>rfl)
  |cons b l ih=>
   intro pic hl hs h2;have D:=hl b bB;have wb:=afS (8 * place+b) au;have E:∀q,iW (qL place amount pic b) q=if q=pK (8 * place+b) then iW pic (pK (8 * place+b)) ^^^ (amount / 2 ^ (7 - b) % 2) else iW pic q:=λq=>Nw hs wb.1 wb.2
   show hx (ih (qL place amount pic b) (λb D=>hl b bB) (tW hs) (λk hk=>by
    rw[E];split
    .show EU (n:=1) (h2 _ au) (mZ _ bz)
    .show h2 k hk)) λa1 a2 a3=>gS a1 a2 (λq hq qF b' hb'=>?_)
   rw[ix,a3 q hq qF b' hb',E,if_neg λe=>?_];have:=Z_ (8 * q+b') au (8 * place+b) au e;lia
 show this (aI 8) pic (λb D=>dm.mp D) h h2
theorem aad(l:LN):∀(free:LN) (pic:List (LN)),(∀x∈free,x<10)->Sq pic->(∀k,k<80->iW pic (pK k)<2)->
 ∃T:LN,T.length=l.length/\(∀k,k<80->iW (l.foldl (pB aL) (free,pic)).2 (pK k)<2)/\∀q,q<10->q∉T->∀b,b<8->iW (l.foldl (pB aL) (free,pic)).2 (pK (8 * q+b))=iW pic (pK (8 * q+b)):=by
 induction l with
 |nil=>show λ_ _ _ _ h2=>kH [] rfl h2 (λ_ _ _ _ _=>rfl)
 |cons t l iH=>
  intro free pic hf hs h2;have Q0:free.getD (lu aL free t) 0<10:=by
   rw[da];cases q:free[lu aL free t]? with
   |none=>show(by decide:0<10)
   |some x=>show hf x (cW q)
  show hx (aac (amount:=tX aL t) hs Q0 h2) λa1 a2 a3=>gH (iH (free.eraseIdx (lu aL free t)) (Ji (free.getD (lu aL free t) 0) (tX aL t) pic) (λx E=>hf x (T2 E)) a1 a2) λT b1 b2 b3=>kH (free.getD (lu aL free t) 0::T) (Nat.succ_inj.mpr b1) b2<|λq hq hT b D=>(b3 q hq (λh=>hT bB) b D).trans (a3 q hq (λe=>hT bB) b D)
theorem plain{data:LN}(hG:JB gen)(hl:data.length+gen.length=10)(hd:∀x∈data,x<256):
 let sent:=dJ (data++(gU wz zB gen (data++cb gen.length 0) data.length).drop data.length)
 let pic:=(IP sent (mG Pz 8)).1
 sent.length=80/\(IP sent (mG Pz 8)).2=sent.length/\sent.take (dJ data).length=dJ data/\Sq pic/\
 (gen.length - (yO aL gen.length).length) / 2<=(BS (yO aL gen.length)).length/\(∀x∈n6 (sv aL gen.length pic),x<256)/\
 (jR (cH 10) (ux (kQ (cH 10) (fR (n6 (sv aL gen.length pic)) gen.length) (yO aL gen.length))).now 10).length=(ux (kQ (cH 10) (fR (n6 (sv aL gen.length pic)) gen.length) (yO aL gen.length))).size/\
 Β aL gen.length pic sent=N:=by
 intro sent pic;have hdb:∀x∈data++cb gen.length 0,x<256:=λx E=>by
  rcases b9.mp E with h|h
  .show hd x h
  .rw [va h];decide
 have akL:=λr (hr:r<gen.length)=>enc hG hd au hr;have jB:(data++(gU wz zB gen (data++cb gen.length 0) data.length).drop data.length).length=10:=by rw[iw,AL,(by rw[xp,iw,rl,hl]:(gU wz zB gen (data++cb gen.length 0) data.length).length=10)];lia
 have hcb:∀x∈data++(gU wz zB gen (data++cb gen.length 0) data.length).drop data.length,x<256:=λx E=>bf (b9.mp E) (λh=>hd x h) λh=>(Sb (gen:=gen) hdb data.length) x (ro h);have H8:sent=dJ (data++(gU wz zB gen (data++cb gen.length 0) data.length).drop data.length):=rfl;have aiz:sent.take (dJ data).length=dJ data:=by rw[H8,H7,List.take_left]
 generalize xh:data++(gU wz zB gen (data++cb gen.length 0) data.length).drop data.length=cs at *;have WH:sent.length=80:=by rw[H8,pW,jB]
 show hx (placed WH) λp1 p2 p3=>?_;have p2:Sq pic:=p2;have p3:∀k,k<80->iW pic (pK k)=sent.getD k 0:=p3;have wb:∀k b,k<10->b<8->sent.getD (8 * k+b) 0=cs.getD k 0 / 2 ^ (7 - b) % 2:=λk b hk D=>by rw[H8];show XE cs b k au D
 have akM:∀k,k<80->iW pic (pK k)<2:=λk hk=>by rw[p3 k hk,show k=8 * (k / 8)+k % 8 by lia,wb _ _ (Ur hk) au];show mZ _ bz
 generalize pic=pic at *;have CF:∀k,k<80->iW (zT aL gen.length pic) (pK k)<2:=λk hk=>by
  rcases JD p2 (pK k) (aL:=aL) (c:=gen.length) with e|⟨_,e⟩
  .rw [e];show akM k hk
  .rw [e];decide
 show gH (aad (aL:=aL) (aI ((gen.length - (yO aL gen.length).length) / 2)) (BS (yO aL gen.length)) (zT aL gen.length pic) (λx E=>dm.mp (gq.mp E).1) (CL p2) CF) λT t1 t2 t3=>?_;have t1:=t1.trans KG;have aiA:∀p,p<10->p∉yO aL gen.length->p∉T->GU (sv aL gen.length pic) p=cs.getD p 0:=λp hp hk hT=>by
  rw[Qb hp,Qa (g:=λb=>cs.getD p 0 / 2 ^ (7 - b) % 2) λb D=>?_,XD _ (jh hcb p)];show(t3 p hp hT b D).symm▸?_;rcases JD p2 (pK (8 * p+b)) (aL:=aL) (c:=gen.length) with e|⟨e,_⟩
  .show ((e).trans (p3 _ au)).trans (wb p b hp D)
  .show absurd e (n9 hp hk b D)
 have r9:(n6 (sv aL gen.length pic)).length=10:=by rfl
 have ι:∀p,p<10->(n6 (sv aL gen.length pic)).getD p 0=GU (sv aL gen.length pic) p:=λp hp=>by
  delta n6
  rw[da,cY,oF hp];rfl
 have aiB:∀x∈n6 (sv aL gen.length pic),x<256:=λx E=>by show bh (bG.mp E) λp hp dX=>dX▸?_;have hp:=dm.mp hp;rw[Qb hp];show aix λb D=>t2 _ au
 have hm:=mended (ws:=n6 (sv aL gen.length pic)) (cs:=cs) (kn:=yO aL gen.length) (T:=T) (c:=gen.length) (by rw[r9];decide) (by rw[r9,jB]) aiB hcb (λr hr=>by show r9.symm▸hl▸?_;show akL r hr) (aiy aL _) (by show r9.symm▸?_;show(WI aL _)) au ((zS aL gen.length).1) (λp hp qF=>by
  rw[ι p hp]at qF;show if q1:p∈yO aL gen.length then ao q1 else ?_
  show if q2:p∈T then aH q2 else ?_
  show absurd (aiA p hp q1 q2) qF)
 show⟨WH,by rw[p1,WH],aiz,p2,?_,aiB,hm.1,?_⟩
 .have h1:(aI 10).length<=(yO aL gen.length++BS (yO aL gen.length)).length:=A8 yb λx E=>by
   show if q:x∈yO aL gen.length then dc _ q else ?_
   show ew _ (gq.mpr ⟨E,?_⟩);rw[vg,Bool.eq_false_iff];intro h;show bh (KI.mp h) λy hy e=>?_;obtain⟨z,hz,rfl⟩:=bG.mp hy;have:aj z=aj x:=by simpa using e
   show q (VT this▸hz)
  rw[KG,iw]at h1;lia
 .delta Β
  show hm.2.symm▸H8.symm▸(vX jB hcb).symm▸decide_eq_true Z
end iP
structure Gr(n:Nat)(s Y:ae):Prop where
 size:Y.heap.objs.size=s.heap.objs.size+n
 keep:uh s.heap Y.heap
 gens:Y.gens=s.gens
 drawn:Y.drawn=s.drawn
 os:Y.os=s.os
theorem Gr.refl(s:ae):Gr 0 s s:=⟨rfl,λ_ _ e=>e,rfl,rfl,rfl⟩
theorem Gr.trans{m:Nat}{a b c:ae}(x:Gr m a b)(y:Gr n b c):Gr (m+n) a c:=⟨by rw[y.size,x.size,lN],λd o e=>y.keep d o (x.keep d o e),y.gens.trans x.gens,y.drawn.trans x.drawn,y.os.trans x.os⟩
theorem Gr.toks{a b:ae}(x:Gr n a b)(t:Nat):Gr n a {b with toks:=t}:=⟨x.size,x.keep,x.gens,x.drawn,x.os⟩
theorem Gr.push{a b:ae}(x:Gr n a b)(o:bj):Gr (n+1) a {b with heap:=b.heap.push o}:=⟨by rw[dD,x.size,lN],λd p e=>a8 _ (x.keep d p e),x.gens,x.drawn,x.os⟩
section
variable{fd2:bQ}
theorem XF(X:(NQ P t fd fd2).In h):gQ M h (Bind.madeBy (R 135)) ai:=nq X (rfl)
theorem afW(X:(NQ P t fd fd2).In h):gQ M h (mroOf (R 135)) [R 135,ak "tuple",ak "object"]:=nq X (rfl)
theorem XG(X:(NQ P t fd fd2).In h):gQ M h (rh (R 135) "__call__") (O (bx "type.__call__")):=nq X (rfl)
theorem adm(X:(NQ P t fd fd2).In h):gQ M h (oz (R 135) (R 135)) N:=nq X (rfl)
theorem afX(X:(NQ P t fd fd2).In h):gQ M h (oz (R 135) (ak "tuple")) N:=nq X (rfl)
theorem afY(X:(NQ P t fd fd2).In h):gQ M h (oz (R 135) (ak "object")) N:=nq X (rfl)
theorem afZ(X:(NQ P t fd fd2).In h):gQ M h (rd (R 135) (ak "type")) N:=nq X (rfl)
theorem Nx(X:(NQ P t fd fd2).In h):gQ M h (gW (R 135) "__init__") (O (bx "object.__init__")):=nq X (rfl)
theorem aae(X:(NQ P t fd fd2).In h):gQ M h (Bind.madeHere "tuple.__new__" (R 135)) ()/\gQ M h (sE "tuple.__new__" ⟨[R 135,R a],[]⟩) ():=⟨nq X bD,nq X bD⟩
theorem aaf:readsIn (NQ P t fd fd2) 135 (ak "type")=N:=by ext
theorem af0:Fe (NQ P t fd fd2) (R 135) (ak "type") "__new__" =O (CFound.get (bx "staticmethod.__get__") (R 136) aA (R 135)):=by ext
theorem aiC:recIn (NQ P t fd fd2) 136 "staticmethod" =O [R 82]:=by ext
theorem af1(X:(NQ P t fd fd2).In h):gQ M h (classHasDel 135) af:=nq X (rfl)
end
section
set_option backward.match.sparseCases true
section
variable{fd2:bQ}
noncomputable def Qc:bj:={cls:=ak "list",data:=bU ([]:List aa).toArray}
theorem Qd{it:ab}{Q:List aa->ae->Prop}(ho:s.heap.get? it=O o)(hc:o.cls=ak "tuple")(hd:o.data=bU items n)(hz:items.size<=1000)(hQ:Q items.toList {s with heap:=(s.heap.push Qc).update s.heap.objs.size (dP (· ++items))}):ax (aG prog w) A (collect (R it)) Q a6 s:=by
 have hS:(s.heap.push Qc).get? s.heap.objs.size=O {cls:=ak "list",data:=bU #[] 0}:=bK _ Z;have hsz:items.size<=fc:=by have:fc=16777216:=jX;lia
 have zb:∀A',ax (aG prog w) A' (load s.heap.objs.size>>=λo=>match o.data with|bU K _=>pure K.toList |_=>Ek "internal:collect") Q a6 {s with heap:=(s.heap.push Qc).update s.heap.objs.size (dP (· ++items))}:=λA'=>by show ag<|iX (gO (dP (· ++items)) hS Z)<|aB<|have e:((#[]:Array aa)++items)=items:=U3;(?_:Q ((#[]:Array aa)++items).toList _);show e.symm▸hQ
 show ag<|J1<|qe LM<|ag (ij (aB ⟨lJ LP _,qe Fm ?_⟩));have key:=wpAny_extend_seq (prog:=prog) (w:=w) (hsz:=hsz) (A:=A) (R:=λr Y=>r=cf (cL (R s.heap.objs.size))/\Y={s with heap:=(s.heap.push Qc).update s.heap.objs.size (dP (· ++items))})
  (s:={s with heap:=s.heap.push Qc}) s.heap.objs.size it _ 0 (aH Z) hS (a8 _ ho) hc hd ⟨rfl,rfl⟩
 show gV key (λr Y h=>?_) λe Y h=>absurd h.1 fF;cases r with
 |done f=>
  obtain⟨h1,h2⟩:=h;subst h2;cases h1
  show zb _
 |again c=>show⟨h.1,codeAny_mono h.2 λr mF hr=>?_⟩;obtain⟨h1,h2⟩:=hr;subst h1 h2;show zb _
noncomputable def XH(dx:ab)(K:Array aa):bj:={cls:=R 135,dict:=O dx,data:=bU K}
theorem Zk(X:(NQ P t fd fd2).In h):gQ M h (isType (R 135)) N:=nq X (rfl)
theorem af2{it:ab}(X:(NQ P t fd fd2).In s.heap)(ho:s.heap.get? it=O o)(hc:o.cls=ak "tuple")(hd:o.data=bU items n)(hz:items.size<=1000)(hQ:∀Y,Gr 3 s Y->Y.heap.get? (s.heap.objs.size+2)=O (XH (s.heap.objs.size+1) items)->Y.heap.get? (s.heap.objs.size+1)=O th->Q (R (s.heap.objs.size+2)) Y):
 ax (aG prog w) A (call (bx "tuple.__new__") [R 135,R it]) Q a6 s:=by
 show kU<|xI<|ag ((aae X).2.here (aB ⟨lJ Vr _,qe Vs ?_⟩));show ag<|(Zk X).here<|ag<|(afX X).here<|ag<|(aae (a:=0) X).1.here<|ag<|(Nx X).here<|ag<|fK (rfl)<|ag<|fK (rfl)<|ag (Qd ho hc hd hz (ag (aB ?_)));have hsz:((s.heap.push Qc).update s.heap.objs.size (dP (· ++items))).objs.size=s.heap.objs.size+1:=by rw[Heap.size_update,dD]
 have kk:∀b o,s.heap.get? b=O o->((s.heap.push Qc).update s.heap.objs.size (dP (· ++items))).get? b=O o:=λb o e=>(mi _ _ (oM (cn e))).trans (a8 _ e);generalize (s.heap.push Qc).update s.heap.objs.size (dP (· ++items))=h1 at hsz kk ⊢;have e1:(h1.push th).objs.size=s.heap.objs.size+2:=by rw[dD,hsz]
 show ag (Ao (ag ?_));rw[newObj];rw[if_neg (by have:fc=16777216:=jX;simp;lia)];show ag<|Ao<|ag ((af1 ((X.keeps kk).keeps λb o e=>a8 _ (a8 _ e))).here ?_);show aB<|aB<|e1.symm▸hQ _ ⟨by rw[dD,e1],λb o e=>a8 _ (a8 _ (kk b o e)),rfl,rfl,rfl⟩ ?_ ?_
 .show hsz▸e1▸bK _ Z
 .show hsz▸a8 _ (bK _ Z)
end
end
structure Se(P:bS)(t:Nat->aW)(fd fd2:bQ)(h:aN):Prop where
 pG:(NQ P t fd fd2).In h
 body:fd2.body=lj (bo Dh)
 scope:fd2.scope=bg Dh
 params:fd2.params=fo Dh
 glob:fd2.globals=ef
 bi:fd2.builtins=fY
 clo:fd2.closure=[]
 dft:fd2.defaults=aA
 kwd:fd2.kwdefaults=aA
 aiD:h.CodeRec fd2.code fd2.qualname
 lim:h.NoLimit
 tup:∃mg mb,h.Ns ef mg/\h.Ns fY mb/\mg (aC "tuple")=ai/\mb (aC "tuple")=O (ak "tuple")
theorem Se.keeps{fd2:bQ}(x:Se P t fd fd2 h)(k:uh h h'):Se P t fd fd2 h':=
 ⟨x.pG.keeps k,x.body,x.scope,x.params,x.glob,x.bi,x.clo,x.dft,x.kwd,x.aiD.keeps k,(bh x.lim λmc wJ ZR=>ct mc (wJ.at' λo e=>k _ o e) ZR),(jy x.tup λmg mb a b c=>N6 mg mb (a.at' λo e=>k _ o e) (b.at' λo e=>k _ o e) c)⟩
section
variable{fd2:bQ}
theorem aag:Fe [] (ak "tuple") (ak "type") "__new__" =O (Mj (bx "tuple.__new__")):=by ext
theorem af3(X:Se P t fd fd2 s.heap)(v0 v1 v2 v3:aa):du fd2 ⟨[v0,v1,v2,v3],[]⟩=pure (([116,117,118,119].map NM).zip [v0,v1,v2,v3]):=by
 delta du
 show X.params.symm▸X.dft.symm▸X.kwd.symm▸?_;rfl
theorem af4{e1 e2 e3:aw}(h1:cG e1=af)(h2:cG e2=af)(h3:cG e3=af)(pos:aY):jI pos (iY [e1,e2,e3] J)=[(af,aZ e1 J),(af,aZ e2 J),(af,aZ e3 J)]:=by rw[dp h1,dp h2,dp h3];rfl
def ecB(a b c:Int)(ta tb tc:aW):List (aP×aa):=([116,117,118,119].map NM).zip [R 135,ah a ta,ah b tb,ah c tc]
noncomputable def Sh(a b c:Int)(ta tb tc:aW):Array aa:=#[ah a ta,ah b tb,ah c tc]
def C3(A:ck)(s:ae)(P:bS)(t:Nat->aW)(fd:bQ)(fd2:bQ)(a:Int)(b:Int)(c:Int)(ta:aW)(tb:aW)(tc:aW)(aM:sL->ae->Prop):Prop:=∀(X:Se P t fd fd2 s.heap) (bM:A.depth<900) (hR:∀Y,Gr 5 s Y->Y.heap.get? (s.heap.objs.size+4)=O (XH (s.heap.objs.size+3) (Sh a b c ta tb tc))->Y.heap.get? (s.heap.objs.size+3)=O th->aM (cf (cL (R (s.heap.objs.size+4)))) Y),oE (aG prog w) A (m8 (R 82) ⟨[R 135,ah a ta,ah b tb,ah c tc],[]⟩) aM s
def H9(c:(((ck×ae)×(bS×(Nat->aW)))×((bQ×bQ)×Int))×(((Int×Int)×aW)×((aW×aW)×(sL->ae->Prop)))):Prop:=C3 c.1.1.1.1 c.1.1.1.2 c.1.1.2.1 c.1.1.2.2 c.1.2.1.1 c.1.2.1.2 c.1.2.2 c.2.1.1.1 c.2.1.1.2 c.2.1.2 c.2.2.1.1 c.2.2.1.2 c.2.2.2
def iu:=Iu H9 inferInstance
def mK:=iu.1.1.1.2
def so:=iu.1.2.1.2
def qV:=iu.1.2.2
def nV:=iu.2.1.1.1
def qW:=iu.2.1.1.2
def nB:=iu.2.1.2
def nE:=iu.2.2.1.1
def nF:=iu.2.2.1.2
def af5:=iu.2.2.2
theorem aah:C3 iu.1.1.1.1 mK iu.1.1.2.1 iu.1.1.2.2 iu.1.2.1.1 so qV nV qW nB nE nF af5:=λX bM hR=>by
 show JO au (X.pG 82 _ Z) Z (by rw[X.scope];rfl) (by rw[X.scope];rfl) X.body X.aiD ?_;rw[af3 X];show aB (Ak (by rw[X.scope];decide) (λx E=>?_) (λOf wJ wb=>⟨X.lim.fresh _ wb,J7 ?_⟩) (by rw[X.scope];rfl))
 .show bh (bG.mp (sT (show(x.1,x.2)∈_ from E)).1) λy hy e=>X.scope.symm▸e▸?_;have:∀y∈[116,117,118,119],(bg Dh).names.lookup (NM y)=O cZ:=by decide
  show this y hy
 have g1:Gr 1 mK {mK with heap:=Of,toks:=mK.toks+(ecB qV nV qW nB nE nF).length}:=⟨by rw[wb.1,dD],λnV o e=>wb.extBut nV o (fB (cn e)) (a8 _ e),rfl,rfl,rfl⟩
 have es1:({mK with heap:=Of,toks:=mK.toks+(ecB qV nV qW nB nE nF).length}:ae)={mK with heap:=Of,toks:=mK.toks+(([116,117,118,119].map NM).zip [R 135,ah qV nB,ah nV nE,ah qW nF]).length}:=rfl;show es1▸?_;generalize hs1:({mK with heap:=Of,toks:=mK.toks+(ecB qV nV qW nB nE nF).length}:ae)=s1 at g1 ⊢;show og λgG kG=>?_;obtain⟨mg,mb,hmg,hmb,t1,t2⟩:=(X.keeps g1.keep).tup;show kG ?_;clear kG gG;generalize adn:newEnv so.scope mK.heap.objs.size so.globals so.closure (so.qualname++aC ".<locals>.") (O 82) so.code ai so.builtins=J;have esc:J.scope=bg Dh:=by subst adn;show X.scope
 have ek:J.scope.kind=d0:=by rw[esc];rfl
 have name:∀(y:Nat) (v:aa) (pos:aY) (s2:ae) (Q:aa->ae->Prop),J.kindOf (NM y)=O cZ->(ecB qV nV qW nB nE nF).reverse.lookup (NM y)=O v->s2.heap.Ns mK.heap.objs.size (λx=>(ecB qV nV qW nB nE nF).reverse.lookup x)->Q v s2->∀A' E',ax (aG prog w) A' (aZ (ar (NM y) pos) J) Q E' s2:=λy v pos s2 Q hl hv hn hq A' E'=>
  qZ (xA ek hl ((by rw[<-adn];rfl:J.locals=mK.heap.objs.size).symm▸hn) hv hq) (wD y)
 have kinds:∀y∈[116,117,118,119],J.kindOf (NM y)=O cZ:=λy hy=>by
  delta j8
  rw[esc];have:∀y∈[116,117,118,119],(bg Dh).names.lookup (NM y)=O cZ:=by decide
  show this y hy
 show uS (wpAny_Expr (DZ (uS (xE ?_))) (by delta iI;rw[ek];rfl) Z);have g2:=g1.toks (s1.toks+1);generalize hs2:({s1 with toks:=s1.toks+1}:ae)=s2 at g2 ⊢;have akN:s2.heap.Ns mK.heap.objs.size (λx=>(ecB qV nV qW nB nE nF).reverse.lookup x):=by rw[<-hs2];show(by rw[<-hs1];show wJ)
 show uu Z (rfl) (rfl) (qZ (mM ek (by delta j8;rw[esc];decide+kernel) ((by rw[<-adn];show X.glob:J.globals=ef)▸(by rw[<-hs2];show hmg)) ((by rw[<-adn];show X.bi:J.builtins=fY)▸(by rw[<-hs2];show hmb)) t1 t2 λpl=>g_ aag Z ?_) (rfl));have g3':=g2.toks (s2.toks+1);generalize z_:({s2 with toks:=s2.toks+1}:ae)=s3 at g3' ⊢;have sd:s3.heap.Ns mK.heap.objs.size (λx=>(ecB qV nV qW nB nE nF).reverse.lookup x):=by subst z_;show akN
 show UW (rfl) ?_;rw[HB (rfl) (rfl)];show LD (rJ (name 116 (R 135) _ _ _ (kinds 116 (nme Z)) Z sd ?_ _ _));show rJ<|Ej<|rJ (name 117 (ah qV nB) _ _ _ (kinds 117 (nme Z)) Z sd ?_ _ _);show rJ (name 118 (ah nV nE) _ _ _ (kinds 118 (nme Z)) Z sd ?_ _ _);show rJ (name 119 (ah qW nF) _ _ _ (kinds 119 (nme Z)) Z sd ?_ _ _);show aB ⟨by have:fc=16777216:=jX;simp;lia,aB ?_⟩;show af2 (n:=0) ((X.keeps g3'.keep).pG.keeps λnV o e=>a8 _ e) (bK _ Z) Z Z bz λs4 g4 h1 h2=>?_;have e3:(s3.heap.push ({cls:=ak "tuple",data:=bU ([ah qV nB,ah nV nE,ah qW nF]:List aa).toArray}:bj)).objs.size=mK.heap.objs.size+2:=by rw[dD,g3'.size]
 rw[e3]at h1 h2;show e3.symm▸hR s4 ((g3'.push {cls:=ak "tuple",data:=bU ([ah qV nB,ah nV nE,ah qW nF]:List aa).toArray}).trans g4) h1 h2
theorem ado{fd2:bQ}{a:Int}{b:Int}{c:Int}{ta:aW}{tb:aW}{tc:aW}:C3 A s P t fd fd2 a b c ta tb tc aM:=hen (P:=H9) aah ((((A,s),(P,t)),((fd,fd2),a)),(((b,c),ta),((tb,tc),aM)))
end
section
variable{fd2:bQ}
theorem aiE{x:ab}{v1 v2 v3:aa}{Q:ik->ae->Prop}(X:(NQ P t fd fd2).In s.heap)(t1:gQ (aG prog w) s.heap (xV (R x)) (R 135))(h:Q (nr (cL aA)) s):ax (aG prog w) A (Builtin.«object.__init__» ⟨[R x,v1,v2,v3],[]⟩) Q a6 s:=by
 delta Builtin.«object.__init__»
 show ag<|t1.here<|ag<|(Nx X).here<|ag<|(XF X).here<|aB h
def C4(A:ck)(a6:aa->ae->Prop)(s:ae)(P:bS)(t:Nat->aW)(fd:bQ)(fd2:bQ)(a:Int)(b:Int)(c:Int)(ta:aW)(tb:aW)(tc:aW)(Q:aa->ae->Prop):Prop:=∀(X:Se P t fd fd2 s.heap) (bM:A.depth<800) (hQ:∀Y,Gr 5 s Y->Y.heap.get? (s.heap.objs.size+4)=O (XH (s.heap.objs.size+3) (Sh a b c ta tb tc))->Y.heap.get? (s.heap.objs.size+3)=O th->Q (R (s.heap.objs.size+4)) Y),ax (aG prog w) A (call (R 135) [ah a ta,ah b tb,ah c tc]) Q a6 s
def Ib(c:(((ck×(aa->ae->Prop))×(ae×bS))×(((Nat->aW)×bQ)×bQ))×(((Int×Int)×(Int×aW))×((aW×aW)×(aa->ae->Prop)))):Prop:=C4 c.1.1.1.1 c.1.1.1.2 c.1.1.2.1 c.1.1.2.2 c.1.2.1.1 c.1.2.1.2 c.1.2.2 c.2.1.1.1 c.2.1.1.2 c.2.1.2.1 c.2.1.2.2 c.2.2.1.1 c.2.2.1.2 c.2.2.2
def ie:=Iu Ib inferInstance
def Si:=ie.1.1.1.1
def qc:=ie.1.1.2.1
def C5:=ie.2.1.1.1
def C6:=ie.2.1.1.2
def C7:=ie.2.1.2.1
def y0:=ie.2.1.2.2
def y7:=ie.2.2.1.1
def y8:=ie.2.2.1.2
theorem aai:C4 Si ie.1.1.1.2 qc ie.1.1.2.2 ie.1.2.1.1 ie.1.2.1.2 ie.1.2.2 C5 C6 C7 y0 y7 y8 ie.2.2.2:=λX bM hQ=>by
 have hC:=X.pG 135 _ Z;show kU (xI ?_);change ax _ _ (callAny (R 135) ⟨[ah C5 y0,ah C6 y7,ah C7 y8],[]⟩) _ _ qc;dsimp only[callAny];show ag (iX hC ?_);change ax _ _ (VP (R 135) _) _ _ _;unfold VP;show ag ((XG X.pG).here ?_);dsimp only;rw[tc_bind];show ag (aB (ag (aB ?_)));show aB (a:=yD (m8 (bx "type.__call__") ⟨R 135::[ah C5 y0,ah C6 y7,ah C7 y8],[]⟩)) (FH Z (xI ?_));change ax _ Si.in1 (do sE "type.__call__" ⟨R 135::[ah C5 y0,ah C6 y7,ah C7 y8],[]⟩;again (fM "type.__call__" ⟨R 135::[ah C5 y0,ah C6 y7,ah C7 y8],[]⟩)) _ _ qc;show ag (UQ tc_kind tc_split (afZ X.pG) (US _ _ _) (aB ⟨AX _ (by decide+kernel),qe entry_typeCall ?_⟩));unfold Builtin.«type.__call__»;dsimp only;rw[if_neg (show¬((R 135==ak "type")=N) from Bool.false_ne_true)];show ag ((afW X.pG).here ?_);rw[if_neg aK];show ag ((XF X.pG).here ?_);dsimp only;show ag (cls_bind X.pG aaf af0 (kU (sm_get X.pG aiC (handed_on (by decide+kernel) ?_))));have g0:=(Gr.refl qc).toks (qc.toks+1);generalize XC:({qc with toks:=qc.toks+1}:ae)=s0 at g0 ⊢;have X0:=X.keeps g0.keep;have e0:s0.heap.objs.size=qc.heap.objs.size:=g0.size;show ag (cO (kU (ado X0 ?_ λs5 g5 h1 h2=>?_)))
 .change Si.depth+1<900;lia
 rw[e0]at h1 h2 ⊢;have g:=g0.trans g5;have X5:=X.keeps g.keep;have t1:gQ (aG prog w) s5.heap (xV (R (qc.heap.objs.size+4))) (R 135):=(Fg h1).andThen vm;have t2:gQ (aG prog w) s5.heap (rd (R (qc.heap.objs.size+4)) (R 135)) N:=t1.andThen (adm X5.pG);have t3:gQ (aG prog w) s5.heap (rh (R (qc.heap.objs.size+4)) "__init__") (O (bx "object.__init__")):=t1.andThen (Nx X5.pG);have t4:gQ (aG prog w) s5.heap (rd (R (qc.heap.objs.size+4)) (ak "object")) N:=t1.andThen (afY X5.pG);show ag (t2.here ?_);rw[if_neg aK];show ag (cO ?_);unfold xK;show ag (t3.here ?_);dsimp only;show cO (ag (fK (PySem.W.oi_bind _) ?_));show ag (kU (xB oi_plain entry_oi (@LA (aG prog w) _ _ _ "object.__init__" "object" "__init__" (R (qc.heap.objs.size+4)) [ah C5 y0,ah C6 y7,ah C7 y8] [] _ oi_kind oi_split t4 (by unfold jY;ext) ?_)));show aiE X5.pG t1 ?_;show aB ?_;change ax _ _ (if(aA != aA)=N then _ else _) _ _ _;rw[if_neg aK];show aB (hQ _ g h1 h2)
theorem adp{fd2:bQ}{a:Int}{b:Int}{c:Int}{ta:aW}{tb:aW}{tc:aW}:C4 A a6 s P t fd fd2 a b c ta tb tc Q:=hen (P:=Ib) aai ((((A,a6),(s,P)),((t,fd),fd2)),(((a,b),(c,ta)),((tb,tc),Q)))
end
set_option genCtorIdx true in
set_option genInjectivity true in
inductive MK where
 |none
 |int(i:Int)
 |str(x:aP)
deriving DecidableEq
noncomputable def MK.is:MK->aa->Bool
 | .none,aA=>N
 | .int i,ah j _=>j==i
 | .str x,cI y _=>y==x
 |_,_=>af
theorem qN{k:MK}(h:k.is v=N):(k= .none/\v=aA)\/(∃i t,k= .int i/\v=ah i t)\/∃x t,k= .str x/\v=cI x t:=by
 cases k<;>cases v<;>first|(simp[MK.is]at h)|skip
 .show ao ⟨rfl,rfl⟩
 .subst h;show aH (ao (kI _ _ Z Z))
 .subst h;show aH (aH (kI _ _ Z Z))
noncomputable def MK.of:aa->Option MK
 |aA=>O .none
 |ah i _=>O (.int i)
 |cI x _=>O (.str x)
 |_=>eU
theorem Ic{k:MK}(h:k.is v=N):MK.of v=O k:=
 (qN h).elim (λi=>i.1▸i.2▸rfl) λi=>i.elim (λi=>eQ i λ_ _ a b=>a▸b▸rfl) λi=>eQ i λ_ _ a b=>a▸b▸rfl
def MK.hash(w:fz):MK->Int
 | .none=>reduceHash 4238894112
 | .int i=>hashInt i
 | .str x=>hashStr w x
theorem adq{k:MK}{Q:Int->ae->Prop}(h:k.is v=N)(hQ:Q (k.hash w) {s with toks:=s.toks+1}):ax (aG prog w) A (pyHash v) Q a6 s:=by
 rcases qN h with⟨rfl,rfl⟩|⟨i,t,rfl,rfl⟩|⟨x,t,rfl,rfl⟩
 .show pyHash_slot Z PySem.F.slot_NoneType_hash PySem.F.entry_NoneType_hash (PySem.F.args_NoneType_hash_1 _) (beq_builtin_none _) (ao Z) (ag (aB (ag (Kb (aB (kI _ _ Z hQ))))))
 .show wpAny_pyHash_int hQ
 .show wpAny_pyHash_str hQ
theorem C8{u:aa}{b:Bool}{Q:Bool->ae->Prop}(qF:(u==v)=af)(hf:∀x t,u≠Value.float x t)(h:∀Q':aa->ae->Prop,Q' (dB b) s->ax (aG prog w) A (Ep Bh u v) Q' a6 s)(hQ:Q b s):ax (aG prog w) A (eqBool u v) Q a6 s:=by show cO ?_;rw[if_neg (by rw[qF];decide)];cases u<;>first|show(ag (h _ (l9 hQ)))|show absurd Z (hf _ _)
theorem aiF{a b:MK}{u:aa}{Q:Bool->ae->Prop}(ha:a.is u=N)(D:b.is v=N)(hQ:Q (decide (a=b)) s):ax (aG prog w) A (eqBool u v) Q a6 s:=by
 rcases qN ha with⟨rfl,rfl⟩|⟨i,t,rfl,rfl⟩|⟨x,t,rfl,rfl⟩<;>rcases qN D with⟨rfl,rfl⟩|⟨j,t',rfl,rfl⟩|⟨y,t',rfl,rfl⟩
 .show cO (ag (mS (aB hQ)))
 .show C8 (rfl) (λ_ _=>by nofun) (λQ' q=>EqNone.eq_none_int q) hQ
 .show C8 (rfl) (λ_ _=>by nofun) (λQ' q=>EqNone.eq_none_str q) hQ
 .show C8 (rfl) (λ_ _=>by nofun) (λQ' q=>EqNone.eq_int_none q) hQ
 .show wpAny_eqBool_int ?_;have:decide (MK.int i=MK.int j)=(i==j):=by
   by_cases e:i=j
   .show e▸?_;simp
   .rw [beq_eq_false_iff_ne.mpr e];show decide_eq_false λq=>e (MK.int.inj q)
  show this▸hQ
 .show C8 (rfl) (λ_ _=>by nofun) (λQ' q=>EqMixed.eq_int_str q) hQ
 .show C8 (rfl) (λ_ _=>by nofun) (λQ' q=>EqNone.eq_str_none q) hQ
 .show C8 (rfl) (λ_ _=>by nofun) (λQ' q=>EqMixed.eq_str_int q) hQ
 .show wpAny_eqBool_str ?_;have:decide (MK.str x=MK.str y)=decide (x=y):=by
   by_cases e:x=y
   .skip;simp
   .rw [decide_eq_false e];show decide_eq_false λq=>e (MK.str.inj q)
  show this▸hQ
def dZ:KeyKind prog w MK where
 is:=MK.is
 hash:=MK.hash w
 inj v a b ha D:=aV ((Ic ha).symm.trans (Ic D))
 byValue k v h:=by rcases qN h with⟨rfl,rfl⟩|⟨i,t,rfl,rfl⟩|⟨x,t,rfl,rfl⟩<;>rfl
 pyHash:=adq
 eqBool:=aiF
 «strs» k x t v h:=aV (Ic h)▸(by cases v<;>rfl)
def M2{α:Type}(aM:α->aa->Prop)(iC:List (MK×aa))(sp:List (MK×α)):Prop:=iC.length=sp.length/\∀(j:Nat) k v k' a,iC[j]? =O (k,v)->sp[j]? =O (k',a)->k=k'/\aM a v
section
variable{aM R':α->aa->Prop}{iC rT:List (MK×aa)}{sp sp':List (MK×α)}
theorem M2.nil:M2 aM [] []:=⟨rfl,λj k v k' a e=>by ext⟩
theorem M2.mono(x:M2 aM iC sp)(h:∀a v,aM a v->R' a v):M2 R' iC sp:=⟨x.1,λj k v k' a e1 e2=>⟨(x.2 j k v k' a e1 e2).1,h a v (x.2 j k v k' a e1 e2).2⟩⟩
theorem M2.app(x:M2 aM iC sp)(y:M2 aM rT sp'):M2 aM (iC++rT) (sp++sp'):=⟨by rw[iw,iw,x.1,y.1],λj k v k' a e1 e2=>by
 rcases ml j iC.length with h|h
 .rw [u9 h]at e1;rw[u9 (x.1▸h)]at e2;show x.2 j k v k' a e1 e2
 .rw [ya h]at e1;rw[ya (x.1▸h),<-x.1]at e2;show y.2 _ k v k' a e1 e2⟩
theorem M2.one{k:MK}{a:α}(h:aM a v):M2 aM [(k,v)] [(k,a)]:=⟨rfl,λj k1 v1 k' a' e1 e2=>by
 cases j with
 |zero=>obtain⟨rfl,rfl⟩:=tD (aV e1);obtain⟨rfl,rfl⟩:=tD (aV e2);show⟨rfl,h⟩
 |succ j=>show Bk (by assumption)⟩
theorem M2.cons{k:MK}{a:α}(h:aM a v)(x:M2 aM iC sp):M2 aM ((k,v)::iC) ((k,a)::sp):=(M2.one h).app x
theorem M2.keys(x:M2 aM iC sp):iC.map (·.1)=sp.map (·.1):=EF λj=>by
 rw[cY,cY];rcases ml j iC.length with h|h
 .have h':=x.1▸h;rw[dE h,dE h'];show congrArg O (x.2 j _ _ _ _ (dE h) (dE h')).1
 .rw [rn h,rn (x.1▸h)];rfl
end
noncomputable abbrev Sp(α:Type):=MK×α×Nat
noncomputable def jl{α:Type}(l:List (Sp α)):List (MK×α):=l.map λx=>(x.1,x.2.1)
noncomputable def zC{α:Type}:List (Sp α)->Nat
 | []=>0
 |x::l=>x.2.2+zC l
def PW{α:Type}(W:aE aa×aE aa->Sp α->Prop):List (aE aa×aE aa)->List (Sp α)->Prop
 | [],[]=>True
 |p::ps,x::K=>W p x/\PW W ps K
 |_,_=>False
theorem PW.mono{W W':aE aa×aE aa->Sp α->Prop}(h:∀p x,W p x->W' p x){ps:List (aE aa×aE aa)}:∀{K:List (Sp α)},PW W ps K->PW W' ps K:=by
 induction ps with
 |nil=>intro K;cases K<;>show id
 |cons p ps ih=>
  intro K;cases K with
  |nil=>show id
  |cons x K=>show λq=>⟨h _ _ q.1,ih q.2⟩
theorem PW.len{α:Type}{W:aE aa×aE aa->Sp α->Prop}:∀{ps:List (aE aa×aE aa)} {K:List (Sp α)},PW W ps K->ps.length=K.length
 | [],[],_=>rfl
 |_::_,_::_,⟨_,b⟩=>by rw[oH,oH,PW.len b]
 | [],_::_,e=>e.elim
 |_::_,[],e=>e.elim
structure Rel(α:Type) where
 aM:Nat->aN->α->aa->Prop
 mono:∀lo h h' a v,(∀b o,lo<=b->h.get? b=O o->h'.get? b=O o)->aM lo h a v->aM lo h' a v
 down:∀lo lo' h a v,lo'<=lo->aM lo h a v->aM lo' h a v
def xq{α:Type}(r:Rel α)(aJ:ae)(p:aE aa×aE aa)(x:Sp α):Prop:=
 ∀(A:ck) (a6:aa->ae->Prop) (s:ae) (lo:Nat) (Q:aa->aa->ae->Prop),A.depth<700->(uh aJ.heap s.heap)->lo<=s.heap.objs.size->
  (∀kv vv Y,Gr x.2.2 s Y->x.1.is kv=N->r.aM lo Y.heap x.2.1 vv->Q kv vv Y)->ax (aG prog w) A p.1 (λkv s1=>ax (aG prog w) A p.2 (λvv s2=>Q kv vv s2) a6 s1) a6 s
theorem xq.later{r:Rel α}{p:aE aa×aE aa}{x:Sp α}(h:xq r aJ p x)(k:uh aJ.heap aD.heap):xq r aD p x:=
 λA a6 s lo Q ha hk=>h A a6 s lo Q ha λb o e=>hk b o (k b o e)
section
variable{r:Rel α}
theorem aiG(ha:A.depth<700){lo:Nat}(ps:List (aE aa×aE aa)):∀(K:List (Sp α)) (s:ae) (Q:List (aa×aa)->ae->Prop),PW (xq r aJ) ps K->(uh aJ.heap s.heap)->lo<=s.heap.objs.size->
 (∀vs iC Y,Carries (dZ) vs iC->M2 (r.aM lo Y.heap) iC (jl K)->Gr (zC K) s Y->Q vs Y)->ax (aG prog w) A (evalPairs ps) Q a6 s:=by
 induction ps with
 |nil=>
  intro K s Q hp _ _ hQ;cases K with
  |nil=>show evalPairs_nil (hQ [] [] s trivial .nil (.refl s))
  |cons=>show hp.elim
 |cons p ps iH=>
  intro K s Q hp hk Iq hQ;cases K with
  |nil=>show hp.elim
  |cons x K=>show evalPairs_cons<|hp.1 A a6 s lo _ ha hk Iq λkv vv s1 g1 Zl hvv=>iH K s1 _ hp.2 (λb o e=>g1.keep b o (hk b o e)) (by rw[g1.size];lia) λvs iC s2 hc hm g2=>(hQ _ ((x.1,vv)::iC) s2 (gS Zl Z hc) (.cons (r.mono _ _ _ _ _ (λb o _ e=>g2.keep b o e) hvv) hm) (g1.trans g2))
structure Sk(d n:Nat)(s Y:ae):Prop where
 size:Y.heap.objs.size=s.heap.objs.size+n
 keep:∀b o,b≠d->s.heap.get? b=O o->Y.heap.get? b=O o
 gens:Y.gens=s.gens
 drawn:Y.drawn=s.drawn
 os:Y.os=s.os
theorem Sk.refl(d:Nat)(s:ae):Sk d 0 s s:=⟨rfl,λ_ _ _ e=>e,rfl,rfl,rfl⟩
theorem Sk.trans{d m:Nat}{a b c:ae}(x:Sk d m a b)(y:Sk d n b c):Sk d (m+n) a c:=⟨by rw[y.size,x.size,lN],λe o q h=>y.keep e o q (x.keep e o q h),y.gens.trans x.gens,y.drawn.trans x.drawn,y.os.trans x.os⟩
theorem Sl{d:Nat}{a b:ae}(x:Gr n a b):Sk d n a b:=⟨x.size,λe o _ h=>x.keep e o h,x.gens,x.drawn,x.os⟩
theorem Sk.same{d:Nat}{t:Nat}(x:gw d s.heap h'):Sk d 0 s {s with heap:=h',toks:=t}:=⟨x.1,λb o q e=>x.extBut b o q e,rfl,rfl,rfl⟩
theorem Sm{iC:List (MK×aa)}{k:MK}(h:k∉iC.map (·.1)):stored iC k v=iC++[(k,v)]:=by rw[stored,if_neg];rw[KI];show λqQ=>bh qQ λkv Zl he=>(h (bG.mpr (ct kv Zl (of_decide_eq_true he))))
noncomputable def aiH(d:ab)(x:aE aa×aE aa)(_:PUnit):aE (ForInStep PUnit):=do let kv<-x.1;let vv<-holding [kv] x.2;holding [kv,vv] (dictSet d kv vv);pure (mq FG)
theorem ads(ha:A.depth<700){d:Nat}(hd0:aJ.heap.get? d=ai)(ps:List (aE aa×aE aa)):∀(K:List (Sp α)) (jx:List (MK×α)) (iC:List (MK×aa)) (s:ae) (Q:PUnit->ae->Prop),PW (xq r aJ) ps K->
 (uh aJ.heap s.heap)->d<s.heap.objs.size->s.heap.DictOf (dZ) d iC->M2 (r.aM (d+1) s.heap) iC jx->((jx++jl K).map (·.1)).Nodup->iC.length+ps.length<=1000->
 (∀rT Y,Y.heap.DictOf (dZ) d rT->M2 (r.aM (d+1) Y.heap) rT (jx++jl K)->Sk d (zC K) s Y->Q FG Y)->
 ax (aG prog w) A (forIn ps FG (aiH d)) Q a6 s:=by
 induction ps with
 |nil=>
  intro K jx iC s Q hp _ _ hd hm _ _ hQ;cases K with
  |cons=>show hp.elim
  |nil=>show aB (hQ iC s hd ?_ (.refl d s));show(yd jx).symm▸hm
 |cons p ps iH=>
  intro K jx iC s Q hp hk jA hd hm hn hsz hQ;cases K with
  |nil=>show hp.elim
  |cons x K=>
   obtain⟨k,v⟩:=p;rw[yc];have hnk:x.1∉iC.map (·.1):=by rw[hm.keys];rw[j3,qi]at hn;show λq=>hn.2.2 _ q x.1 (AF Z) Z
   dsimp only[oH]at hsz;show ag ?_;generalize hQQ:(λ(a:ForInStep PUnit) (Y:ae)=>ax (aG prog w) A _ Q a6 Y)=QQ;show ag (gV (hp.1 A a6 s (d+1) (λkv vv s2=>ax (aG prog w) A (holding [kv,vv] (dictSet d kv vv)>>=λ_=>pure (mq FG)) QQ a6 s2) ha hk jA λkv vv s1 g1 Zl hvv=>?_) (λkv s1 h1=>ag (cO (gV h1 (λvv s2 h2=>h2) λ_ _ e=>e))) λ_ _ e=>e);subst hQQ;show ag (cO (wpAny_dictSet_pairs (hsz:=by lia) Zl (eY hd λo es ep h1 h2=>Bm o es ep (g1.keep _ _ h1) h2) λh2 hd2 hs2=>aB ?_));rw[Sm hnk]at hd2;have f1:Sk d x.2.2 s {s1 with heap:=h2,toks:=s1.toks+1}:=(Sl g1).trans (Sk.same hs2);show iH K (jx++[(x.1,x.2.1)]) (iC++[(x.1,vv)]) {s1 with heap:=h2,toks:=s1.toks+1} Q hp.2 (λb o e=>f1.keep b o (λq=>by have e:=hd0▸q▸e;ext) (hk b o e)) (by rw[f1.size];show Lg x.snd.snd jA) hd2 ?_ (by rw[(by simp[jl]:((jx++[(x.1,x.2.1)])++jl K).map (·.1)=(jx++jl (x::K)).map (·.1))];show hn) (by show iw.symm▸List.length_singleton.symm▸?_;lia) λrT Y h1 h2 h3=>?_
   .have up:∀a v,r.aM (d+1) s1.heap a v->r.aM (d+1) h2 a v:=λa v h=>r.mono _ _ _ _ _ (λb o D e=>hs2.extBut b o (λq=>absurd D (by rw[q];show KZ d)) e) h;show((hm.mono λa v h=>r.mono _ _ _ _ _ (λb o _ e=>g1.keep b o e) h).mono up).app (.one (up _ _ hvv))
   .show hQ rT Y h1 ?_ (f1.trans h3);have e:jx++[(x.1,x.2.1)]++jl K=jx++jl (x::K):=by simp[jl]
    rw[<-e];show h2
end
section
variable{r:Rel α}
theorem aaj(ha:A.depth<700){ps:List (aE aa×aE aa)}{K:List (Sp α)}{Q:ab->ae->Prop}(hp:PW (xq r s) ps K)(hn:((jl K).map (·.1)).Nodup)(hl:ps.length<=1000)(hQ:∀iC Y,Gr (1+zC K) s Y->Y.heap.DictOf (dZ) s.heap.objs.size iC->M2 (r.aM (s.heap.objs.size+1) Y.heap) iC (jl K)->Q s.heap.objs.size Y):ax (aG prog w) A (subDict ps) Q a6 s:=by
 have hs:fc=16777216:=jX;have hd0:s.heap.get? s.heap.objs.size=ai:=bF _;have g1:Gr 1 s {s with heap:=s.heap.push {cls:=ak "dict",data:=eJ #[]}}:=(Gr.refl s).push _;have hd1:(s.heap.push {cls:=ak "dict",data:=eJ #[]}).DictOf (dZ) s.heap.objs.size []:=agL _ (#[]) 0 (bK _ Z) ⟨rfl,rfl,rfl⟩ Z (λe he=>by simp at he) (by first|show trivial|show Pairs.nil|(trivial)) List.nodup_nil;show ag (Ao (ag (cO ?_)));by_cases h15:ps.length<=15
 .rw [if_pos h15];show ag (aiG ha (lo:=s.heap.objs.size+1) ps K _ _ hp g1.keep (by rw[dD];show ey _) λvs iC s2 hc hm g2=>?_);have Q0:iC.length<=1000:=by rw[hm.1];delta jl;rw[ip,<-hp.len];show hl
  show cO (ag (wpAny_storeAll (knd:=dZ) vs iC [] s2 _ hc (eY hd1 λo es ep h1 h2=>Bm o es ep (g2.keep _ _ h1) h2) (by dsimp only[KJ];lia) λh3 hd3 z_=>aB (aB ?_)));rw[merged_nil_of_nodup iC (by rw[hm.keys];show hn)]at hd3;show hQ iC _ ⟨by rw[z_.1,g2.size,g1.size,lN],λb o e=>z_.extBut b o (λq=>by have e:=hd0▸q▸e;ext) (g2.keep b o (g1.keep b o e)),g2.gens,g2.drawn,g2.os⟩ hd3 (hm.mono λa v h=>r.mono _ _ _ _ _ (λb o D e=>z_.extBut b o (λq=>absurd D (by rw[q];show KZ _)) e) h)
 .rw [if_neg h15];show ag<|mS<|ag<|ads ha hd0 ps K [] [] _ _ hp g1.keep (by rw[dD];show jb _) hd1 .nil (hn) (by dsimp only[KJ];lia) λiC s2 hd2 hm f2=>aB<|aB<|hQ iC s2 ⟨by rw[f2.size,g1.size,lN],λb o e=>f2.keep b o (λq=>by have e:=hd0▸q▸e;ext) (g1.keep b o e),f2.gens,f2.drawn,f2.os⟩ hd2 hm
def C9(A:ck)(a6:aa->ae->Prop)(s:ae)(d:ab)(m:ab)(iC:List (MK×aa))(more:List (MK×aa))(Q:Unit->ae->Prop):Prop:=∀(hdm:d≠m) (hmS:(m==sI)=af) (hd:s.heap.DictOf (dZ) d iC) (hm:s.heap.DictOf (dZ) m more) (qF:iC≠[]) (hn:((iC++more).map (·.1)).Nodup) (hsz:iC.length+more.length<=1000) (hQ:∀h',h'.DictOf (dZ) d (iC++more)->gw d s.heap h'->Q () {s with heap:=h'}),ax (aG prog w) A (mergeMapping d (R m) af) Q a6 s
def Ie(c:((ck×(aa->ae->Prop))×(ae×ab))×((ab×(List (MK×aa)))×((List (MK×aa))×(Unit->ae->Prop)))):Prop:=C9 c.1.1.1 c.1.1.2 c.1.2.1 c.1.2.2 c.2.1.1 c.2.1.2 c.2.2.1 c.2.2.2
def l8:=Iu Ie inferInstance
def Ig:=l8.1.2.1
def Ny:=l8.1.2.2
def Nz:=l8.2.1.1
def pL:=l8.2.1.2
def iO:=l8.2.2.1
theorem aak:C9 l8.1.1.1 l8.1.1.2 Ig Ny Nz pL iO l8.2.2.2:=λhdm hmS hd hm qF hn hsz hQ=>by
 have hs:fc=16777216:=jX;show rX hd λod esd epd hod hcd hdd hkd hpd tR=>(rX hm λom Sn epm hom hcm adt QT hpm hnm=>?_);have dM:iO.length=Sn.size:=by show hpm.length▸?_;rfl
 have hT:Ig.TypeIs (R Nz) "dict" :=hm.typeIs;have akO:esd.isEmpty=af:=by
  cases q:esd.isEmpty with
  |false=>rfl
  |true=>have:=hpd.length;rw[(Array.isEmpty_iff.mp q)]at this;show absurd (rk.mp (this.symm)) qF
 show ag<|mQ hT isSubtype_dict_dict<|ag<|eH hT PySem.F.slot_dict_iter.lookup<|ag<|aB<|(show(O (bx "dict.__iter__")==O (bx "dict.__iter__"))=N from by decide+kernel).symm▸?_;dsimp only;rw[if_neg (by rw[hmS];decide)];show ag (JV hod hdd ?_);rw[if_neg (by rw[akO];decide)];show ag<|JV hom adt<|ag<|TH hom adt<|ag<|List.range_eq_range'.symm▸wpAny_forIn_list _ (λrest _ Y=>∃h' i,Y={Ig with heap:=h'}/\rest=Un i (Sn.size - i)/\i<=Sn.size/\h'.DictOf (dZ) Ny (pL++iO.take i)/\h'.get? Nz=O om/\gw Ny Ig.heap h') _ ?_ ?_ _ _
  (agK Ig.heap 0 Z Z (fg _) (by simpa using hd) hom (UP _ _))
 .intro x rest b Y oq;show Cs oq λh' i dX hr hi μ af6 zL=>?_;subst dX;have jA:i<Sn.size:=by show bf (ml i Sn.size) (λh=>h) λh=>by rw[KS h]at hr;ext
  show eX (show x=i/\rest=Un (i+1) (Sn.size - (i+1)) from by
   have e:Sn.size - i=(Sn.size - (i+1))+1:=nj0 jA;rw[e,Ui]at hr;injection hr with h1 h2
   show⟨h1,h2⟩) λdX κ=>?_
  subst dX;show ag (JV af6 adt ?_);rw[yu jA];show og λgG kG=>?_;obtain⟨⟨k,v⟩,Zl⟩:∃kv,iO[x]? =O kv:=⟨iO[x]'(dM▸jA),dE _⟩;show eX (hpm.get? (e:=Sn[x]) (by simp[jA]) Zl) λadu akP=>bh (QT Sn[x] (Array.getElem_mem jA)) λk' aiI aiJ=>kG ?_;clear kG gG;obtain rfl:=(dZ).inj _ _ _ aiI adu;dsimp only;rw[if_neg aK,aiJ,akP];have hmem:k'∉(pL++iO.take x).map (·.1):=by
   have e:pL++iO=(pL++iO.take x)++iO.drop x:=by rw[AI,EE]
   rw[e,j3,qi]at hn;intro q;show hn.2.2 k' q k' ?_ Z;have:(iO.drop x)[0]? =O (k',v):=by rw[KD,AU];show Zl
   show bG.mpr (ct (k',v) (cW this) Z)
  have hlx:(pL++iO.take x).length<=1000:=by rw[iw,AK];lia
  show rX μ λo2 es2 ep2 Ο hc2 hd2 hk2 Yt FK=>?_;have Α:(es2.findIdx? λe=>(dZ).is k' e.key)=(pL++iO.take x).findIdx? λkv=>decide (kv.1=k'):=by rw[<-Yt.findIdx k'];obtain⟨l⟩:=es2;show List.findIdx?_toArray (λe=>dZ.is k' e.key) l
  have hi2:(es2.findIdx? λe=>(dZ).is k' e.key)=ai:=by rw[Α];show List.findIdx?_eq_none_iff.mpr λkv Zl=>decide_eq_false λq=>hmem (bG.mpr (ct kv Zl q))
  have hz2:es2.size<=fc:=by
   have e1:=Yt.length;have e2:es2.toList.length=es2.size:=by rfl
   lia
  show ag<|cO<|ag<|wpAny_dictFind_of adu Ο hd2 hk2<|hi2.symm▸wpAny_updateDictKeys (hz:=hz2) Ο hd2 ?_;have ss:=j6 (h:=h') Ny (Obj.mapDictKeys (·.push ⟨(dZ).hash k',Sn[x].key,v⟩));have aiK:=(ss.2 Nz (eO hdm)).trans af6;show ag (TH aiK adt ?_);rw[if_neg fF];show aB (agK _ (x+1) Z κ jA ?_ aiK (zL.trans ss));rw[(by rw[EH,Zl];simp:pL++iO.take (x+1)=(pL++iO.take x)++[(k',v)])];show agL _ _ (ep2+1) (gO _ Ο (Obj.isFreed_of_dict (UM hd2 _))) (hc2.mapDictKeys _) (UM hd2 _) (hk2.push adu _) ?_ ?_
  .have:=Yt.append adu ((dZ).hash k') v;obtain⟨l⟩:=es2;simpa using this
  .rw [j3,qi];show gS FK fF (λa ha b D=>?_);rw[iK,List.map_nil,bJ]at D;subst D;show λe=>hmem (e▸ha)
 .intro b Y ξ;show Cs ξ λh' i qD hr hi μ af6 zL=>qD▸?_;have Gk:i=Sn.size:=bf (ml i Sn.size) (λh=>by rw[(by lia:Sn.size - i=(Sn.size - (i+1))+1),Ui]at hr;show nnD hr) λh=>vd hi h;rw[Gk,<-dM,sS]at μ;show aB (hQ h' μ zL)
theorem aal{m:ab}{iC:List (MK×aa)}{more:List (MK×aa)}{Q:Unit->ae->Prop}:C9 A a6 s d m iC more Q:=hen (P:=Ie) aak (((A,a6),(s,d)),((m,iC),(more,Q)))
end
noncomputable def vY(run:List (aE aa×aE aa))(main:Option ab):aE (Option ab):=do
 if run.isEmpty then return main
 match main with
 |none=>return O (<-subDict run)
 |some d=>
  let sub<-holding [R d] (subDict run)
  (holding [R d,R sub] (mergeMapping d (R sub) af)).onRaise λx=>do let _<-holding [R d,x] (runValue (fM "proto.let_go" {}))
  return O d
section
variable{r:Rel α}
theorem Qe(ha:A.depth<700){c:List (aE aa×aE aa)}{x:List (Sp α)}{jx:List (MK×α)}{iC:List (MK×aa)}{Q:Option ab->ae->Prop}(hp:PW (xq r aJ) c x)(hc:c≠[])(hk:uh aJ.heap s.heap)(XC:sI<aJ.heap.objs.size)(jA:aJ.heap.objs.size<s.heap.objs.size)(hd:s.heap.DictOf (dZ) aJ.heap.objs.size iC)(hm:M2 (r.aM (aJ.heap.objs.size+1) s.heap) iC jx)(qF:jx≠[])(hn:((jx++jl x).map (·.1)).Nodup)(hl:jx.length+c.length<=1000)(hQ:∀rT Y,Y.heap.DictOf (dZ) aJ.heap.objs.size rT->M2 (r.aM (aJ.heap.objs.size+1) Y.heap) rT (jx++jl x)->Sk aJ.heap.objs.size (1+zC x) s Y->Q (O aJ.heap.objs.size) Y):
 ax (aG prog w) A (vY c (O aJ.heap.objs.size)) Q a6 s:=by
 delta vY
 rw[if_neg (by simpa using hc)];show ag (cO (aaj ha (hp.mono λp y h=>h.later hk) (by rw[j3,qi]at hn;show hn.2.1) (Nat.le_of_add_left_le hl) λmore s1 g1 hm1 hmm=>?_));have hkl:=hm.1;have hml:=hmm.1;have hxl:=hp.len;have hxs:(jl x).length=x.length:=by delta jl;rw[ip]
 show ag (J6 (cO (aal (fB jA) (beq_eq_false_iff_ne.mpr (oM (fZ XC jA))) (eY hd λo es ep h1 h2=>Bm o es ep (g1.keep _ _ h1) h2) hm1 (λq=>?_) (((by rw[j3,j3,hm.keys,hmm.keys]:((iC++more).map (·.1))=(jx++jl x).map (·.1)))▸hn) au λh2 hd2 hs2=>aB (hQ _ _ hd2 ?_ ((Sl g1).trans (Sk.same hs2))))))
 .rw [q]at hkl;show qF (rk.mp hkl.symm)
 .have up:∀a v,r.aM (aJ.heap.objs.size+1) s1.heap a v->r.aM (aJ.heap.objs.size+1) h2 a v:=λa v h=>r.mono _ _ _ _ _ (λb o D e=>hs2.extBut b o (λq=>absurd D (by rw[q];show KZ _)) e) h;show(hm.mono λa v h=>up a v (r.mono _ _ _ _ _ (λb o _ e=>g1.keep b o e) h)).app (hmm.mono λa v h=>up a v (r.down _ _ _ _ _ (yh jA) h))
theorem DI(ha:A.depth<700){c:List (aE aa×aE aa)}{x:List (Sp α)}{Q:Option ab->ae->Prop}(hp:PW (xq r s) c x)(hc:c≠[])(hn:((jl x).map (·.1)).Nodup)(hl:c.length<=1000)(hQ:∀rT Y,Y.heap.DictOf (dZ) s.heap.objs.size rT->M2 (r.aM (s.heap.objs.size+1) Y.heap) rT (jl x)->Gr (1+zC x) s Y->Q (O s.heap.objs.size) Y):ax (aG prog w) A (vY c ai) Q a6 s:=by
 delta vY
 rw[if_neg (by simpa using hc)];show ag (aaj ha hp hn hl λiC s1 g hd hm=>aB (hQ iC s1 hd hm g))
end
def zD(x:Option (aE aa)×aE aa)(st:Option ab×List (aE aa×aE aa)):aE (ForInStep (Option ab×List (aE aa×aE aa))):=match x.1 with
 |some k=>if(st.2++[(k,x.2)]).length==17 then vY (st.2++[(k,x.2)]) st.1>>=λm=>pure (mq (m,[])) else pure (mq (st.1,st.2++[(k,x.2)]))
 |none=>Ek ""
noncomputable def gD(p:aE aa×aE aa):Option (aE aa)×aE aa:=(O p.1,p.2)
theorem DJ(items:List (aE aa×aE aa)):∀(run:List (aE aa×aE aa)) (m:Option ab),run.length+items.length<17->forIn (items.map gD) (m,run) zD=pure (m,run++items):=by
 induction items with
 |nil=>intro run m _;simp
 |cons p items iH=>intro run m h;have e:zD (gD p) (m,run)=pure (mq (m,run++[p])):=if_neg (by simp at h ⊢;lia);rw[iK,yc,e,pure_bind];change forIn (items.map gD) (m,run++[p]) zD=_;rw[iH (run++[p]) m (by simp at h ⊢;lia)];simp
theorem Qf(items:List (aE aa×aE aa)):∀(run:List (aE aa×aE aa)) (m:Option ab) (rest:List (aE aa×aE aa)),items≠[]->run.length+items.length=17->forIn ((items++rest).map gD) (m,run) zD=(vY (run++items) m>>=λm'=>forIn (rest.map gD) (m',[]) zD):=by
 induction items with
 |nil=>intro _ _ _ h _;show absurd Z h
 |cons p items iH=>
  intro run m rest _ hl;rw[EJ,iK,yc];by_cases hi:items=[]
  .subst hi;have e:zD (gD p) (m,run)=(vY (run++[p]) m>>=λm'=>pure (mq (m',[]))):=if_pos (by simp at hl ⊢;lia);rw[e,bind_assoc];rfl
  .have e:zD (gD p) (m,run)=pure (mq (m,run++[p])):=by have:items.length≠0:=λq=>hi (rk.mp q);show if_neg (by simp at hl ⊢;lia)
   rw[e,pure_bind];change forIn ((items++rest).map gD) (m,run++[p]) zD=_;rw[iH (run++[p]) m rest hi (by simp at hl ⊢;lia)];simp
theorem aam{σ:Type}{f f':Option (aE aa)×aE aa->σ->aE (ForInStep σ)}(h:∀p st,f (gD p) st=f' (gD p) st)(ps:List (aE aa×aE aa)):∀(st:σ),forIn (ps.map gD) st f=forIn (ps.map gD) st f':=by
 induction ps with
 |nil=>intro _;show rfl
 |cons p ps iH=>intro st;rw[iK,yc,yc,h];show bind_congr λx=>by cases x with|done _=>rfl|yield b=>show iH b
theorem aan{a b:Type}{m m':aE a}{f f':a->aE b}(h:m=m')(h':∀x,f x=f' x):m>>=f=m'>>=f':=by rw[h,funext h']
theorem adv(ps:List (aE aa×aE aa)):dictDisplay (ps.map gD)=(forIn (ps.map gD) ((ai:Option ab),([]:List (aE aa×aE aa))) zD>>=λst=>vY st.2 st.1>>=λm=>match m with|some d=>pure (R d)|none=>newDict):=by show aan (aam ?_ ps _) (λ_=>rfl);show λ_ _=>rfl
def sq{α:Type}:Nat->List (Sp α)->Nat
 | 0,_=>0
 |_,[]=>0
 |n+1,x::K=>1+zC ((x::K).take 17)+sq n ((x::K).drop 17)
theorem So(n:Nat):sq n ([]:List (Sp α))=0:=by cases n<;>rfl
theorem xr{K:List (Sp α)}(h:K≠[]):sq (n+1) K=1+zC (K.take 17)+sq n (K.drop 17):=by
 cases K with
 |nil=>show absurd Z h
 |cons x K=>rfl
theorem Ck{K:List (Sp α)}(h:K≠[])(hl:K.length<=17):sq (n+1) K=1+zC K:=by rw[xr h,Kw hl,List.drop_of_length_le hl,So];rfl
theorem aao{W:aE aa×aE aa->Sp α->Prop}(k:Nat):∀{ps:List (aE aa×aE aa)} {K:List (Sp α)},PW W ps K->PW W (ps.take k) (K.take k)/\PW W (ps.drop k) (K.drop k):=by
 induction k with
 |zero=>show λh=>⟨trivial,h⟩
 |succ k ih=>
  intro ps K h;cases ps<;>cases K
  .show ⟨trivial,trivial⟩
  .show h.elim
  .show h.elim
  .show ⟨⟨h.1,(ih h.2).1⟩,(ih h.2).2⟩
theorem Qg(k:Nat)(K:List (Sp α)):jl (K.take k)++jl (K.drop k)=jl K:=by delta jl;rw[<-j3,EE]
def aiL(st:Option ab×List (aE aa×aE aa)):aE aa:=vY st.2 st.1>>=λm=>match m with|some d=>pure (R d)|none=>newDict
section
variable{r:Rel α}
theorem PW.ne{W:aE aa×aE aa->Sp α->Prop}{ps:List (aE aa×aE aa)}{K:List (Sp α)}(h:PW W ps K)(hn:ps≠[]):K≠[]:=λe=>hn (rk.mp (by rw[h.len,e];rfl))
theorem adw(ha:A.depth<700)(XC:sI<aJ.heap.objs.size)(n:Nat):∀(ps:List (aE aa×aE aa)) (K:List (Sp α)) (jx:List (MK×α)) (iC:List (MK×aa)) (s:ae) (Q:aa->ae->Prop),ps.length<17 * n->PW (xq r aJ) ps K->
 (uh aJ.heap s.heap)->aJ.heap.objs.size<s.heap.objs.size->s.heap.DictOf (dZ) aJ.heap.objs.size iC->M2 (r.aM (aJ.heap.objs.size+1) s.heap) iC jx->jx≠[]->((jx++jl K).map (·.1)).Nodup->jx.length+ps.length<=1000->
 (∀rT Y,Y.heap.DictOf (dZ) aJ.heap.objs.size rT->M2 (r.aM (aJ.heap.objs.size+1) Y.heap) rT (jx++jl K)->Sk aJ.heap.objs.size (sq n K) s Y->Q (R aJ.heap.objs.size) Y)->
 ax (aG prog w) A (forIn (ps.map gD) (O aJ.heap.objs.size,[]) zD>>=aiL) Q a6 s:=by
 induction n with
 |zero=>intro _ _ _ _ _ _ h _ _ _ _ _ _ _ _ _;show absurd h (rD _)
 |succ n iH=>
  intro ps K jx iC s Q alD hp hk jA hd hm qF hn hl hQ;by_cases h17:ps.length<17
  .rw [DJ ps [] _ (AO h17),ye,pure_bind];show if h0:ps=[] then ?_ else ag<|Qe ha hp h0 hk XC jA hd hm qF hn hl λrT Y h1 h2 h3=>aB<|hQ rT Y h1 h2<|(Ck (hp.ne h0) (by rw[<-hp.len];lia)).symm▸h3
   have h0':K=[]:=rk.mp (by rw[<-hp.len,h0];rfl);subst h0';show h0.symm▸ag (aB (aB (hQ iC s hd ?_ (.refl _ s))));change M2 _ iC (jx++[]);rw[yd];show hm
  .have Yu:=aao 17 hp;have l1:(ps.take 17).length=17:=by rw[AK];lia
   have hc:ps.take 17≠[]:=λe=>by have l1:=e▸l1;ext
   have e1:=Qf (ps.take 17) [] (O aJ.heap.objs.size) (ps.drop 17) hc (by simpa using l1);rw[EE]at e1;have OA:=Qg 17 K;rw[e1,bind_assoc,ye];have DT:((jx++jl (K.take 17)++jl (K.drop 17)).map (·.1)).Nodup:=by rw[AI,OA];show hn
   have ld:(ps.drop 17).length=ps.length - 17:=AL;show ag<|Qe ha Yu.1 hc hk XC jA hd hm qF (by rw[j3,qi]at DT;show DT.1) au λrT Y h1 h2 h3=>iH (ps.drop 17) (K.drop 17) (jx++jl (K.take 17)) rT Y Q au Yu.2 (λb o e=>h3.keep b o (λq=>by rw[q,bF]at e;ext) (hk b o e)) (by rw[h3.size];show Lg (1+zC (List.take 17 K)) jA) h1 h2 (λe=>qF (List.append_eq_nil_iff.mp e).1) DT ?_ λk2 s2 g1 g2 g3=>hQ k2 s2 g1 (by rw[AI,OA]at g2;show g2) (by rw[xr (hp.ne λe=>h17 (by rw[e];decide))];show h3.trans g3);rw[iw,ld]
   delta jl
   rw[ip,<-Yu.1.len,l1];lia
theorem adx(ha:A.depth<700)(XC:sI<s.heap.objs.size){ps:List (aE aa×aE aa)}{K:List (Sp α)}(hln:ps.length<17 * (n+1))(hp:PW (xq r s) ps K)(h0:ps≠[])(hn:((jl K).map (·.1)).Nodup)(hl:ps.length<=1000)(hQ:∀iC Y,Y.heap.DictOf (dZ) s.heap.objs.size iC->M2 (r.aM (s.heap.objs.size+1) Y.heap) iC (jl K)->Gr (sq (n+1) K) s Y->Q (R s.heap.objs.size) Y):ax (aG prog w) A (dictDisplay (ps.map gD)) Q a6 s:=by
 rw[adv];change ax _ _ (_>>=aiL) _ _ _;by_cases h17:ps.length<17
 .rw [DJ ps [] _ (AO h17),ye,pure_bind];show ag<|DI ha hp h0 hn hl λrT Y h1 h2 h3=>aB<|hQ rT Y h1 h2<|(Ck (hp.ne h0) (by rw[<-hp.len];lia)).symm▸h3
 .have Yu:=aao 17 hp;have l1:(ps.take 17).length=17:=by rw[AK];lia
  have hc:ps.take 17≠[]:=λe=>by have l1:=e▸l1;ext
  have e1:=Qf (ps.take 17) [] ai (ps.drop 17) hc (by simpa using l1);rw[EE]at e1;have OA:=Qg 17 K;rw[e1,bind_assoc,ye];have DT:((jl (K.take 17)++jl (K.drop 17)).map (·.1)).Nodup:=by rw[OA];show hn
  have ld:(ps.drop 17).length=ps.length - 17:=AL;have ls:(jl (K.take 17)).length=17:=by delta jl;rw[ip,<-Yu.1.len,l1]
  show ag<|DI ha Yu.1 hc (by rw[j3,qi]at DT;show DT.1) au λrT Y h1 h2 h3=>adw ha XC n (ps.drop 17) (K.drop 17) (jl (K.take 17)) rT Y Q au Yu.2 h3.keep (by rw[h3.size];lia) h1 h2 (λe=>by have ls:=e▸ls;ext) DT au λk2 s2 g1 g2 g3=>hQ k2 s2 g1 (by rw[OA]at g2;show g2)<|(xr (hp.ne h0)).symm▸have f:=(Sl (d:=s.heap.objs.size) h3).trans g3;⟨f.size,λb o e=>f.keep b o (λq=>by rw[q,bF]at e;ext) e,f.gens,f.drawn,f.os⟩
end
abbrev Tri:=Nat×Nat×Nat
inductive IS where
 |int(i:Int)
 |ecs(l:List Tri)
inductive EcV(lo:Nat)(h:aN)(t:Tri):aa->Prop
 |mk (i dx:ab) (t0 t1 t2:aW) (a:lo<=i) (b:lo<=dx) (c:h.get? i=O (XH dx (Sh (aj t.1) (aj t.2.1) (aj t.2.2) t0 t1 t2))) (d:h.get? dx=O iA):EcV lo h t (R i)
def Sr(lo:Nat)(h:aN):List Tri->List aa->Prop
 | [],[]=>True
 |t::ts,v::vs=>EcV lo h t v/\Sr lo h ts vs
 |_,_=>False
protected def IS.aM(lo:Nat)(h:aN):IS->aa->Prop
 | .int i,v=>∃t,v=ah i t
 | .ecs l,v=>∃a vs,v=R a/\lo<=a/\h.get? a=O {cls:=ak "tuple",data:=bU vs.toArray}/\Sr lo h l vs
theorem EcV.to{lo lo':Nat}{t:Tri}(hl:lo'<=lo)(hk:∀b o,lo<=b->h.get? b=O o->h'.get? b=O o)(x:EcV lo h t v):EcV lo' h' t v:=by obtain⟨i,dx,t0,t1,t2,a,b,c,d⟩:=x;show⟨i,dx,t0,t1,t2,ba hl a,ba hl b,hk _ _ a c,hk _ _ b d⟩
theorem Sr.to{lo lo':Nat}{h h':aN}(hl:lo'<=lo)(hk:∀b o,lo<=b->h.get? b=O o->h'.get? b=O o):∀{l:List Tri} {vs:List aa},Sr lo h l vs->Sr lo' h' l vs
 | [],[],_=>trivial
 |_::_,_::_,⟨a,b⟩=>⟨a.to hl hk,Sr.to hl hk b⟩
 | [],_::_,e=>e.elim
 |_::_,[],e=>e.elim
theorem IS.to{lo lo':Nat}(hl:lo'<=lo)(hk:∀b o,lo<=b->h.get? b=O o->h'.get? b=O o):∀{a:IS} {v:aa},IS.aM lo h a v->IS.aM lo' h' a v
 | .int _,_,x=>x
 | .ecs _,_,⟨a,vs,e,b,c,d⟩=>Ml a vs e (ba hl b) (hk _ _ b c) (d.to hl hk)
noncomputable def akQ:Rel IS:=⟨IS.aM,λ_ _ _ _ _ k x=>IS.to (ey _) k x,λ_ _ _ _ _ l x=>IS.to l (λ_ _ _ e=>e) x⟩
inductive OR(lo:Nat)(h:aN)(sp:List (MK×IS)):aa->Prop
 |mk (d:ab) (iC:List (MK×aa)) (a:lo<=d) (b:h.DictOf dZ d iC) (m:M2 (IS.aM (d+1) h) iC sp):OR lo h sp (R d)
noncomputable def aiM:Rel (List (MK×IS)):=⟨OR,
 λ_ _ _ _ _ k q=>by obtain⟨d,iC,a,b,m⟩:=q;show⟨d,iC,a,Bj (λo q=>q.imp λes q=>q.imp λep q=>⟨k _ _ a q.1,q.2⟩) b,m.mono λ_ _ x=>IS.to (ey _) (λb o q=>k b o (ba (ql a) q)) x⟩,
 λ_ _ _ _ _ l q=>by obtain⟨d,iC,a,b,m⟩:=q;show⟨d,iC,ba l a,b,m⟩⟩
noncomputable def nEC:aP:=aC "EC"
noncomputable def XK.call? :XK->Option (aw×List aw×List Aw×aY)
 | .call f l k p=>O (f,l,k,p)
 |_=>ai
noncomputable def XK.name? :XK->Option (aP×aY)
 | .name x p=>O (x,p)
 |_=>ai
noncomputable def XK.con? :XK->Option (xY×Nat×aY)
 | .con c k p=>O (c,k,p)
 |_=>ai
noncomputable def XK.tup? :XK->Option (List aw×Nat×aY)
 | .tup l k p=>O (l,k,p)
 |_=>ai
noncomputable def XK.dict? :XK->Option (List (Option aw)×List aw×aY)
 | .dict k v p=>O (k,v,p)
 |_=>ai
def aeF(e:aw):=(xk e).call?
def aap(e:aw):Option aP:=(xk e).name?.map (·.1)
def Ss(e:aw):Option xY:=(xk e).con?.map (·.1)
def aiN(e:aw):Option (List aw):=(xk e).tup?.map (·.1)
def aeG(e:aw):Option (List (Option aw)×List aw):=(xk e).dict?.map λq=>(q.1,q.2.1)
noncomputable def ady:xY->Option Int
 |jd i=>O i
 |_=>ai
noncomputable def aiO:Int->Option Nat
 |aj n=>O n
 |_=>ai
noncomputable def l3:List aw->Option (aw×aw×aw)
 | [a,b,c]=>O (a,b,c)
 |_=>ai
theorem Zm{x:XK}{e q}(b:x.back e)(h:x.call? =O q):e=bI q.1 q.2.1 q.2.2.1 q.2.2.2:=by cases x<;>cases h;show b
theorem Zn{x:XK}{e q}(b:x.back e)(h:x.name? =O q):e=ar q.1 q.2:=by cases x<;>cases h;show b
theorem Qh{x:XK}{e q}(b:x.back e)(h:x.con? =O q):e=gn q.1 q.2.1 q.2.2:=by cases x<;>cases h;show b
theorem aaq{x:XK}{e q}(b:x.back e)(h:x.tup? =O q):e=il q.1 q.2.1 q.2.2:=by cases x<;>cases h;show b
theorem Zo{x:XK}{e q}(b:x.back e)(h:x.dict? =O q):e=qh q.1 q.2.1 q.2.2:=by cases x<;>cases h;show b
theorem adz{q}(h:aeF e=O q):e=bI q.1 q.2.1 q.2.2.1 q.2.2.2:=Zm (N9 e) h
theorem XI{β:Type}{o:Option α}{f:α->β}{x:β}(h:o.map f=O x):∃q,o=O q/\f q=x:=jc.mp h
theorem XJ{x}(h:aap e=O x):∃p,e=ar x p:=bh (XI h) λq h r=>⟨q.2,r▸Zn (N9 e) h⟩
theorem Su{c}(h:Ss e=O c):∃k p,e=gn c k p:=bh (XI h) λq h r=>qB q.2.1 q.2.2 (r▸Qh (N9 e) h)
theorem af7{l}(h:aiN e=O l):∃k p,e=il l k p:=bh (XI h) λq h r=>qB q.2.1 q.2.2 (r▸aaq (N9 e) h)
theorem adA{q}(h:aeG e=O q):∃p,e=qh q.1 q.2 p:=bh (XI h) λq h r=>⟨q.2.2,r▸Zo (N9 e) h⟩
theorem Sv{c:xY}{i}(h:ady c=O i):c=jd i:=by cases c<;>cases h;rfl
theorem af8{i:Int}{n}(h:aiO i=O n):i=aj n:=by cases i<;>cases h;rfl
theorem akR{l:List aw}{q}(h:l3 l=O q):l=[q.1,q.2.1,q.2.2]:=by
 rcases l with _|⟨a,_|⟨b,_|⟨c,_|⟨d,l⟩⟩⟩⟩
 .show Bk h
 .show Bk h
 .show Bk h
 .show aV h▸rfl
 .show Bk h
def adB(e:aw):Option Nat:=(Ss e).bind λc=>(ady c).bind aiO
theorem kD{β:Type}{a:Option α}{f:α->Option β}{x:β}{aM:Prop}(h:a.bind f=O x)(k:∀y,a=O y->f y=O x->aM):aM:=by
 cases a with
 |none=>ext
 |some y=>show k y Z h
theorem af9{c:Prop}[Decidable c]{β:Type}{v x:β}{aM:Prop}(h:(if c then O v else ai)=O x)(k:c->v=x->aM):aM:=by
 by_cases hc:c
 .rw [if_pos hc]at h;show k hc (aV h)
 .have h:=(if_neg hc).symm.trans h;ext
theorem akS{c:Prop}[Decidable c]{β:Type}{o:Option β}{x:β}{aM:Prop}(h:(if c then o else ai)=O x)(k:c->o=O x->aM):aM:=by
 by_cases hc:c
 .rw [if_pos hc]at h;show k hc h
 .have h:=(if_neg hc).symm.trans h;ext
theorem Sw(h:adB e=O n):∃k p,e=gn (jd (aj n)) k p:=
 kD h λ_ h1 h=>kD h λ_ h2 h3=>ji (Su h1) λk p e=>qB k p (by rw[e,Sv h2,af8 h3])
def adC(e:aw):Option Tri:=(aeF e).bind λq=>(aap q.1).bind λx=>(l3 q.2.1).bind λr=>(adB r.1).bind λa=>(adB r.2.1).bind λb=>(adB r.2.2).bind λc=>if x=nEC/\q.2.2.1.isEmpty=N then O (a,b,c) else ai
theorem aar{t:Tri}(h:adC e=O t):∃np k1 p1 k2 p2 k3 p3 pos,e=bI (ar nEC np) [gn (jd (aj t.1)) k1 p1,gn (jd (aj t.2.1)) k2 p2,gn (jd (aj t.2.2)) k3 p3] [] pos:=
 kD h λq h0 h=>kD h λx h1 h=>kD h λr h2 h=>kD h λa h3 h=>kD h λb h4 h=>kD h λc h5 h=>af9 h λhc ht=>dG (XJ h1) λnp e1=>ji (Sw h3) λk1 p1 e3=>ji (Sw h4) λk2 p2 e4=>ji (Sw h5) λk3 p3 e5=>⟨np,k1,p1,k2,p2,k3,p3,q.2.2.2,by rw[adz h0,e1,akR h2,e3,e4,e5,hc.1,List.isEmpty_iff.mp hc.2,<-ht]⟩
def aas:List aw->Option (List Tri)
 | []=>O []
 |e::es=>(adC e).bind λt=>(aas es).bind λts=>O (t::ts)
noncomputable def akT:xY->Option MK
 |yt=>O .none
 |jd i=>O (.int i)
 |LB x=>O (.str x)
 |_=>ai
def kOf(tab:List (aP×Int))(e:aw):Option MK:=
 (Ss e).elim ((aap e).bind λx=>if(x==("__debug__" :aP))=af then(tab.lookup x).map .int else ai) akT
def iOf(e:aw):Option (IS×Nat):=
 (Ss e).elim ((aiN e).bind λes=>(aas es).bind λl=>if es.length<=1000 then O (.ecs l,5 * l.length+1) else ai) λc=>(ady c).bind λi=>O (.int i,0)
def pOf(tab:List (aP×Int)){α:Type}(f:aw->Option (α×Nat)):List (Option aw)->List aw->Option (List (Sp α))
 | [],[]=>O []
 |k::ks,v::vs=>k.bind λk=>(kOf tab k).bind λk=>(f v).bind λi=>(pOf tab f ks vs).bind λr=>O ((k,i)::r)
 |_,_=>ai
def oV(tab:List (aP×Int))(v:aw):Option (List (MK×IS)×Nat):=(aeG v).bind λq=>(pOf tab iOf q.1 q.2).bind λK=>
 if K≠[]/\K.length<17/\((jl K).map (·.1)).Nodup then O (jl K,sq 1 K) else ai
def HN(P:bS)(t:Nat->aW)(fd fd2:bQ)(tab:List (aP×Int))(h:aN):Prop:=
 Se P t fd fd2 h/\
 ∃mg,h.Ns ef mg/\mg nEC=O (R 135)/\∀x i,tab.lookup x=O i->∃t,mg x=O (ah i t)
theorem HN.keeps{fd2:bQ}{tab:List (aP×Int)}(x:HN P t fd fd2 tab h)(k:uh h h'):HN P t fd fd2 tab h':=
 ⟨x.1.keeps k,bh x.2 λmg a b=>(ct mg (a.at' λo e=>k _ o e) b)⟩
section
variable{fd2:bQ}{tab:List (aP×Int)}
theorem aga{k:MK}(cB:HN P t fd fd2 tab s.heap)(hk:J.scope.kind=qr)(hl:J.locals=J.globals)(hg:J.globals=ef)(h:kOf tab e=O k)(hQ:∀v Y,Gr 0 s Y->k.is v=N->Q v Y):ax (aG prog w) A (aZ e J) Q a6 s:=by
 unfold kOf at h;show ZW (Ss e) (λhc=>?_) λc hc=>?_
 .replace h:=hc▸h;show kD h λx h1 h5=>akS h5 λhd h6=>?_;obtain⟨p,rfl⟩:=XJ h1;obtain⟨i,hi,rfl⟩:=jc.mp h6;show gH cB.2 λmg h1 h2 h3=>dG (h3 x i hi) λt ht=>Name_module hk hl (UX (hg▸h1) ht (hQ _ _ (.refl s) (beq_self_eq_true _))) hd
 .obtain ⟨k1,p,rfl⟩:=Su hc;cases c<;>cases h
  .show Tt (hQ _ _ (.refl s) Z)
  .show xD (hQ _ _ ((Gr.refl s).toks _) (beq_self_eq_true _))
  .show DZ (hQ _ _ ((Gr.refl s).toks _) (beq_self_eq_true _))
theorem adD{x:Tri}{lo:Nat}(bM:A.depth<700)(cB:HN P t fd fd2 tab s.heap)(hk:J.scope.kind=qr)(hl:J.locals=J.globals)(hg:J.globals=ef)(h:adC e=O x)(Iq:lo<=s.heap.objs.size)(hQ:∀v Y,Gr 5 s Y->EcV lo Y.heap x v->Q v Y):ax (aG prog w) A (aZ e J) Q a6 s:=by show FU (aar h) λnp k1 p1 k2 p2 k3 p3 pos dX=>(gH cB.2 λmg h1 h2 h3=>?_);subst dX;show wpAny_Call_ofName (Name_module hk hl (UX (hg▸h1) h2 ?_) (rfl));rw[af4 (rfl) (rfl) (rfl)];show ag<|cO<|LD<|rJ<|xD<|rJ<|xD<|rJ<|xD<|aB<|have g:=(((Gr.refl s).toks (s.toks+1)).toks (s.toks+1+1)).toks (s.toks+1+1+1);have H1:=cB.keeps g.keep;ag<|jW<|ag<|ag<|iX (H1.1.pG 135 _ Z)<|ag<|(XG H1.1.pG).here<|aB<|ag<|adp H1.1 (fZ bM bz) λY g' e1 e2=>ag<|cO<|wpAny_point<|aB<|hQ _ _ (g.trans g')<|⟨_,_,_,_,_,ba Iq (ja _ _),ba Iq (ja _ _),e1,e2⟩
theorem Sx{x:Tri}(h:adC e=O x):cG e=af:=by show FU (aar h) λnp k1 p1 k2 p2 k3 p3 pos dX=>?_;subst dX;rfl
theorem aat{lo:Nat}(bM:A.depth<700)(hk:J.scope.kind=qr)(hl:J.locals=J.globals)(hg:J.globals=ef)(es:List aw):∀(l:List Tri) (s:ae) (Q:List aa->ae->Prop),HN P t fd fd2 tab s.heap->aas es=O l->lo<=s.heap.objs.size->
 (∀vs Y,Gr (5 * l.length) s Y->Sr lo Y.heap l vs->vs.length=es.length->Q vs Y)->ax (aG prog w) A (oB (jI pos (iY es J))) Q a6 s:=by
 induction es with
 |nil=>intro l s Q _ h _ hQ;obtain rfl:=aV h;show aB (hQ [] s (.refl s) trivial Z)
 |cons e es iH=>show λl s Q cB h Iq hQ=>kD h λx E h=>kD h λK hxs h=>by obtain rfl:=aV h;rw[dp (Sx E)];show rJ<|adD bM cB hk hl hg E Iq λv s1 g1 hv=>iH K s1 _ (cB.keeps g1.keep) hxs (by rw[g1.size];show yh Iq) λvs s2 g2 Ϭ dM=>hQ _ _ ?_ ⟨hv.to (ey _) (λb o _ e=>g2.keep b o e),Ϭ⟩ (congrArg AW dM);rw[oH,Lk,jK];show g1.trans g2
theorem agb{x:IS×Nat}{lo:Nat}(bM:A.depth<700)(cB:HN P t fd fd2 tab s.heap)(hk:J.scope.kind=qr)(hl:J.locals=J.globals)(hg:J.globals=ef)(h:iOf e=O x)(Iq:lo<=s.heap.objs.size)(hQ:∀v Y,Gr x.2 s Y->IS.aM lo Y.heap x.1 v->Q v Y):ax (aG prog w) A (aZ e J) Q a6 s:=by
 unfold iOf at h;show ZW (Ss e) (λhc=>?_) λc hc=>?_
 .replace h:=hc▸h;show kD h λes h1 h=>kD h λl hes h=>af9 h λhz E=>?_;obtain⟨k1,p,rfl⟩:=af7 h1;subst E;show Ej (aat bM hk hl hg es l s _ cB hes Iq λvs s1 g1 Ϭ dM=>⟨by rw[dM,jX];show ba hz (dO Z),hQ _ _ (g1.push _) (Ml _ vs Z (by rw[g1.size];show yh Iq) (bK _ Z) (Ϭ.to (ey _) λb o _ e=>a8 _ e))⟩)
 .rw [hc]at h;obtain⟨k1,p,rfl⟩:=Su hc;show kD h λi hi h=>(Sv hi)▸?_;obtain rfl:=aV h;show xD (hQ _ _ ((Gr.refl s).toks _) ⟨_,rfl⟩)
theorem adE{aM:Rel α}{f:aw->Option (α×Nat)}(cB:HN P t fd fd2 tab aJ.heap)(hk:J.scope.kind=qr)(hl:J.locals=J.globals)(hg:J.globals=ef)(hf:∀A a6 s lo Q e x,A.depth<700->(uh aJ.heap s.heap)->lo<=s.heap.objs.size->f e=O x->(∀v Y,Gr x.2 s Y->aM.aM lo Y.heap x.1 v->Q v Y)->ax (aG prog w) A (aZ e J) Q a6 s)(ks:List (Option aw)):
 ∀(vs:List aw) (K:List (Sp α)),pOf tab f ks vs=O K->PW (xq aM aJ) (pairTrees ks vs J pos) K/\ks.all (·.isSome)=N/\ks.length=vs.length:=by
 induction ks with
 |nil=>
  intro vs K h;cases vs with
  |nil=>show aV h▸gS trivial Z Z
  |cons=>show Bk h
 |cons k ks iH=>
  intro vs K h;cases vs with
  |nil=>show Bk h
  |cons v vs=>show kD h λk' e0 h=>kD h λk2 h1 h=>kD h λi h2 h=>kD h λr h3 h=>e0▸aV h▸hx (iH vs r h3) λa b c=>((gS ⟨λA a6 s lo Q ha ZQ Iq hQ=>?_,a⟩ b (congrArg AW c)));show aga (cB.keeps ZQ) hk hl hg h1 λkv s1 g1 Zl=>ag (hf _ _ _ _ _ _ _ ha (λb o e=>g1.keep _ _ (ZQ b o e)) (g1.size▸Iq) h2 λv s2 g2 hv=>ag (jW (aB (hQ _ _ _ (show Gr i.2 s s2 from qm i.2▸g1.trans g2) Zl hv))))
theorem aau{aM:Rel α}{f:aw->Option (α×Nat)}{ks:List (Option aw)}{vs:List aw}{K:List (Sp α)}(n:Nat)(ha:A.depth<700)(XC:∃o,s.heap.get? sI=O o)(cB:HN P t fd fd2 tab s.heap)(hk:J.scope.kind=qr)(hl:J.locals=J.globals)(hg:J.globals=ef)(hf:∀A a6 aD lo Q e x,A.depth<700->(uh s.heap aD.heap)->lo<=aD.heap.objs.size->f e=O x->(∀v Y,Gr x.2 aD Y->aM.aM lo Y.heap x.1 v->Q v Y)->ax (aG prog w) A (aZ e J) Q a6 aD)(h:pOf tab f ks vs=O K)(qF:K≠[])(hn:((jl K).map (·.1)).Nodup)(dM:K.length<17 * (n+1))(hsz:(17 * (n+1)).ble 1000=N)(hQ:∀iC Y,Y.heap.DictOf (dZ) s.heap.objs.size iC->M2 (aM.aM (s.heap.objs.size+1) Y.heap) iC (jl K)->Gr (sq (n+1) K) s Y->Q (R s.heap.objs.size) Y):ax (aG prog w) A (aZ (qh ks vs pos) J) Q a6 s:=by show hx (adE (pos:=pos) cB hk hl hg hf ks vs K h) λd1 d2 d3=>(dG XC λo ho=>?_);have J':=d1.len;rw[arm_eval_Dict,zip_pairTrees ks vs J pos d2 d3];show ag (jW (adx ha (cn ho) (J'▸dM) d1 (λq=>qF (rk.mp (J'▸q.symm▸rfl))) hn (J'▸kB4 dM hsz) hQ))
theorem aav{ks:List (Option aw)}{vs:List aw}{K:List (Sp (List (MK×IS)))}(ha:A.depth<700)(XC:∃o,s.heap.get? sI=O o)(cB:HN P t fd fd2 tab s.heap)(hk:J.scope.kind=qr)(hl:J.locals=J.globals)(hg:J.globals=ef)(h:pOf tab (oV tab) ks vs=O K)(qF:K≠[])(hn:((jl K).map (·.1)).Nodup)(dM:K.length<85)(hQ:∀iC Y,Y.heap.DictOf (dZ) s.heap.objs.size iC->M2 (OR (s.heap.objs.size+1) Y.heap) iC (jl K)->Gr (sq 5 K) s Y->Q (R s.heap.objs.size) Y):ax (aG prog w) A (aZ (qh ks vs pos) J) Q a6 s:=
 aau (aM:=aiM) 4 ha XC cB hk hl hg (λA a6 aD lo Q e x ha ZQ Iq h hQ=>kD h λq hq h=>kD h λys h2 h=>af9 h λhc E=>by show dG (adA hq) λp' dX=>dX▸?_;subst E;show dG XC λo ho=>aau (aM:=akQ) 0 ha ⟨o,ZQ _ _ ho⟩ (cB.keeps ZQ) hk hl hg (λA a6 aQ lo Q e x ha akU Iq h hQ=>agb ha ((cB.keeps ZQ).keeps akU) hk hl hg h Iq hQ) h2 hc.1 hc.2.2 hc.2.1 Z λiC Y h1 h2 g=>hQ _ _ g ⟨_,iC,Iq,h1,h2⟩) h qF hn dM Z hQ
end
noncomputable def NA:List (aP×Int):=[(aC "VERSION_M4",0),(aC "VERSION_M3", -1),(aC "VERSION_M2", -2),(aC "VERSION_M1", -3),(aC "ERROR_LEVEL_L",1),(aC "ERROR_LEVEL_M",0),(aC "ERROR_LEVEL_Q",3),(aC "ERROR_LEVEL_H",2)]
def Sy:bT:=cS 12
def IY:aw:=Iw Sy
def Qi:List (Option aw):=match IY with|qh ks _ _=>ks |_=>[]
def Qj:List aw:=match IY with|qh _ vs _=>vs |_=>[]
def xt:List (Sp (List (MK×IS))):=(pOf NA (oV NA) Qi Qj).getD []
theorem agc:pOf NA (oV NA) Qi Qj=O xt:=by ext
theorem JE:((jl xt).map (·.1)).Nodup:=of_decide_eq_true bD
theorem XM:xt.length=76:=by ext
theorem adF:sq 5 xt=1729:=by ext
def m2s:List (MK×IS):=((jl xt).lookup (.int (-2))).getD []
theorem agd:(jl xt).lookup (.int (-2))=O m2s:=by ext
theorem aiP:m2s.lookup (.int 1)=O (.ecs [(1,10,5)]):=by ext
theorem aiQ:m2s.lookup (.int 0)=O (.ecs [(1,10,4)]):=by ext
noncomputable abbrev dn:iZ->aE ik:=denote table
def Ir(p:u5)(w:fz)(s:ae)(t:gX)(Y:ae)(t':gX):Prop:=∃n,∃s1 t1,runN dn p w n s t=vq s1 t1/\s1.forget=Y.forget/\t1.forget=t'.forget/\
 ∀k,k<n->∃s2 t2 s3 t3,runN dn p w k s t=vq s2 t2/\t2.calm=N/\step dn p w s2 t2=Step.go s3 t3
section
variable{p:u5}{w:fz}{mF:ae}{t t' t'':gX}
theorem XN:∀{s Y:ae} {t t':gX} (m:Nat),runN dn p w n s t=vq Y t'->runN dn p w (n+m) s t=runN dn p w m Y t':=by
 induction n with
 |zero=>intro _ _ _ _ m h;cases h;rw[qm]
 |succ n iH=>
  intro s Y t t' m h;rw[yg n m,Nat.add_succ];dsimp only[runN]at h ⊢;cases e:step dn p w s t with
  |go s2 t2=>have h:=e▸h;show iH m h
  |halt o s2=>have h:=e▸h;ext
theorem Ir.refl(s:ae)(t:gX):Ir p w s t s t:=DO 0 s t Z Z Z (λk h=>absurd h (rD k))
theorem Qk{s1 s2 s3:ae}{t1 t2 t3:gX}(hs:s1.forget=s2.forget)(ht:t1.forget=t2.forget)(h:runN dn p w n s2 t2=vq s3 t3):∃s4 t4,runN dn p w n s1 t1=vq s4 t4/\s4.forget=s3.forget/\t4.forget=t3.forget:=by
 have e:=h▸runN_same dn p w n hs ht;cases q:runN dn p w n s1 t1 with
 |running s4 t4=>injection (q▸e) with a b;show N6 s4 t4 Z a b
 |halted o s4=>have e:=q▸e;ext
theorem Ir.trans(x:Ir p w s t Y t')(y:Ir p w Y t' mF t''):Ir p w s t mF t'':=by
 show gI x λn s1 t1 h1 hs1 ht1 k1=>gI y λm s2 t2 h2 hs2 ht2 k2=>jy (Qk hs1 ht1 h2) λs3 t3 h3 z_ ht3=>((DO (n+m) s3 t3 (((XN m h1)).trans h3) (z_.trans hs2) (ht3.trans ht2) (λk hk=>?_)));rcases ml k n with h|h
 .show k1 k h
 .show dG (Nat.exists_eq_add_of_le h) λj dX=>?_;subst dX;show Bl (k2 j (Nat.lt_of_add_lt_add_left hk)) λs4 t4 s5 t5 a b c=>(jy (Qk hs1 ht1 a) λs6 t6 d e f=>?_);cases q:step dn p w s6 t6 with|go s7 t7=>show aeL s6 t6 s7 t7 (((XN j h1)).trans d) (by rw[<-VM,f,VM];show b) q|halt o s7=>have g:=q▸c▸step_same dn p w e f;ext
theorem Ir.step{s1:ae}{t1:gX}(hc:t.calm=N)(h:step dn p w s t=Step.go s1 t1)(hs:s1.forget=Y.forget)(ht:t1.forget=t'.forget):Ir p w s t Y t':=
 ⟨1,s1,t1,by simp only[runN,h],hs,ht,λk hk=>by obtain rfl:=Nat.lt_one_iff.mp hk;show(aeL s t s1 t1 Z hc h)⟩
theorem adG{ann:Option aa}{b:Nat}:∀{s Y:ae} {t t':gX},segGo table p w n₀ ann b n s t=O (Y,t')->Ir p w s t Y t':=by
 induction n with
 |zero=>intro s Y t t' h;show XY (aV h) λa1 a2=>?_;subst a1;subst a2;show .refl _ _
 |succ n iH=>
  intro s Y t t' h;unfold segGo at h;show ZW (endAt b t) (λhe=>?_) λf he=>?_
  .have h:=he▸h;cases hk:stepOk n₀ ann t with|false=>have h:=hk▸h;show Bk (by assumption)|true=>
    have h:=hk▸h;cases hs:En dn p w s t with
    |halt o aQ=>have h:=hs▸h;show Bk (by assumption)
    |go aQ aiR=>have h:=hs▸h;show(Ir.step (fL.mp hk).1 hs Z Z).trans (iH h)
  .have h:=he▸h;ext
theorem age(n:Nat):∀{s Y:ae} {t t':gX},runNI dn p w n s t=vq Y t'->Ir p w s t Y t':=by
 induction n with
 |zero=>intro s Y t t' h;cases h;show .refl _ _
 |succ n iH=>
  intro s Y t t' h;dsimp only[runNI]at h;show boC t.loud (λhl=>?_) λhl=>?_
  .have h:=(stepI_loud _ _ _ hl)▸h;ext
  .have h:=(stepI_quiet _ _ _ hl)▸h;cases hk:stepK dn p w s t with|halt o s2=>have h:=hk▸h;ext|go s2 t2=>
    have h:=hk▸h;have hc:t.calm=N:=by
     rw[Thread.calm_eq,hl];cases hr:t.refused with
     |false=>rfl
     |true=>obtain⟨alE,e⟩:=stepK_refused dn p w hr;have hk:=e.symm.trans hk;ext
    have g:=hk▸stepK_forget dn p w s t;cases hs:En dn p w s t with
    |go s3 t3=>injection (hs▸g) with a b;show(Ir.step hc hs a.symm b.symm).trans (iH h)
    |halt o s3=>have g:=hs▸g;ext
theorem Zp(h:Comes (aG p w) s t Y t'):Ir p w s t Y t':=dG h λn hn=>age n hn
theorem Ir.aiS(x:Ir p w s t Y t')(hz:s.asleep)(hg:Y.gens=#[]):∃n t1,schedN dn p w n (Md s t)=SRun.running (Md Y t1)/\t1.forget=t'.forget:=by
 show gI x λn s1 t1 h1 hs ht k=>(Shared.eq_of_forget_eq hs hg:s1=Y)▸kI n t1 ?_ ht;rw[schedN_prefix dn p w n s t hz λj s2 t2 hj e=>?_,h1];rfl;show Bl (k j hj) λs4 t4 s5 t5 a b c=>?_;rw[e]at a;injection a with a1 a2
 show a1▸a2▸⟨b,λq=>by have q:=c.symm.trans q;ext⟩
theorem NC(h:t.forget=t'.forget)(k:Fd t'=N):Fd t=N:=by
 obtain⟨cur,c,q,st⟩:=t;obtain⟨alF,c',q',NU⟩:=t';injection h with a _ _ b
 cases a
 show eX (fL.mp k) λk1 k2=>(fL.mpr ⟨?_,k2⟩);cases NU with
 |nil=>cases st with|nil=>rfl|cons f st=>ext
 |cons f st=>ext
theorem Ir.life(x:Ir p w s t Y t'):Y.heap.life=s.heap.life:=by
 show gI x λn s1 t1 h1 hs _ _=>(((VJ hs).1)▸?_);have:∀(n:Nat) {s s1:ae} {t t1:gX},runN dn p w n s t=vq s1 t1->s1.heap.life=s.heap.life:=λn=>by
  induction n with
  |zero=>intro s s1 t t1 h;cases h;rfl
  |succ n ih=>
   intro s s1 t t1 h;dsimp only[runN]at h;cases e:En dn p w s t with
   |go s2 t2=>show(ih (e▸h)).trans (step_life _ _ _ _ _ _ _ e)
   |halt o s2=>have h:=e▸h;ext
 show this n h1
end
theorem sr{m:aE b8}{bw:aa->aE Unit}{a0:b8->aE ik}:(m.onRaise bw).bind a0=m.wrap a0 (λe=>(bw e).wrap (λ_=>LZ e) LZ id id) id id:=by rw[Be,Fu,tj];show LY _ _ _ (λ_=>rfl) λe=>by rw[Be,tj];rfl
theorem Sz(st:bT)(rest:List bT)(J:cg)(a0:b8->aE ik):((aU (st::rest) J).onRaise (ri J)).bind a0=
 ((mV st J).onRaise (ri J)).bind (λf=>match f with|cJ=>((aU rest J).onRaise (ri J)).bind a0|f=>a0 f):=by
 rw[sr,sr,execs_cons_wrap];show LY _ _ _ (λf=>?_) λe=>rfl;cases f<;>first|rfl|show sr.symm
def SD(k:Nat):Array oy:=#[wq 2 (k+1) (R 1869),wq 5 (k+5) (R 1870),wq 6 (k+12) (R 1871),wq 7 (k+20) (R 1872),wq 8 (k+29) (R 1873),wq 10 (k+39) (R 1874),wq 13 (k+51) (R 1875),wq 14 (k+66) (R 1876),wq 15 (k+82) (R 1877),wq 16 (k+99) (R 1878),wq 17 (k+117) (R 1879),wq 18 (k+136) (R 1880),wq 20 (k+156) (R 1881),wq 22 (k+178) (R 1882),wq 24 (k+202) (R 1883),wq 26 (k+228) (R 1884),wq 28 (k+256) (R 1885),wq 30 (k+286) (R 1887)]
def k12:b8->aE ik:=Wf (zl (tM.drop 13))
def ND(p:aY):gX:=⟨abC Sy k12 (R 139),v8,p,[topFrame default]⟩
def zE(k:Nat):mr:=[(1868,{cls:=ak "dict",data:=eJ (SD k) 18}),(1870,cU (Di (k+6) [113,164,166,119,10]) 0),(1871,cU (Di (k+13) [166,0,134,5,176,15]) 0)]
def agf(w:fz):=goC (oA w.params) 1868 563 w
def agg(k:Nat)(x:ng×gX):gX×Nat×Array eS×fy×List (Option bj)×List (Option bj):=(x.2,x.1.n,x.1.gens,x.1.os,(aI 15).map x.1.tree.get,(zE k).map λy=>x.1.tree.get y.1)
def agh(w:fz)(os:fy)(k:Nat):Option (gX×Nat×Array eS×fy×List (Option bj)×List (Option bj)):=O (We (tM.drop 14) ⟨75,0,75,8⟩,1888,#[],os,(oN w.params (nsB w.params k) 22).map O,(zE k).map λy=>O y.2)
theorem agi(w:fz)(os:fy)(d:Drawn)(k:Nat)(g:Nat->bj)(p:aY):(agf (w.withFollow "special-get-raises" af) os d k g (ND p)).map (agg k)=agh (w.withFollow "special-get-raises" af) os k:=by ext
theorem agj(w:fz)(os:fy)(d:Drawn)(k:Nat)(g:Nat->bj)(p:aY):(agf (w.withFollow "special-get-raises" N) os d k g (ND p)).map (agg k)=agh (w.withFollow "special-get-raises" N) os k:=by ext
theorem adH(w:fz)(os:fy)(d:Drawn)(k:Nat)(g:Nat->bj)(p:aY):(agf w os d k g (ND p)).map (agg k)=agh w os k:=by
 have e:=World.withFollow_self w "special-get-raises";cases D:w.params.followText "special-get-raises" <;>rw[D]at e
 .have h:=agi w os d k g p
  rwa [e]at h
 .have h:=agj w os d k g p
  rwa [e]at h
section
variable{p:u5}{w:fz}{ann:Option aa}{b:Nat}
set_option tactic.hygienic true in
theorem aaw:∀{s Y:ae} {t t':gX},segGo table p w n₀ ann b n s t=O (Y,t')->∀a o,a<n₀->a≠sM->a≠cE->ann≠O (R a)->s.heap.get? a=O o->Y.heap.get? a=O o:=by
 induction n with
 |zero=>intro _ _ _ _ h _ _ _ _ _ _ e;show XY (aV h) λa1 a2=>?_;subst a1;subst a2;show e
 |succ n iH=>
  intro s Y t t' h a o h1 h2 h3 h4 e;unfold segGo at h;show ZW (endAt b t) (λhe=>?_) λf he=>?_
  .have h:=he▸h;cases hk:stepOk n₀ ann t with|false=>have h:=hk▸h;show Bk (by assumption)|true=>
    have h:=hk▸h;cases hs:En dn p w s t with
    |halt o aQ=>have h:=hs▸h;show Bk (by assumption)
    |go aQ aiR=>
     show iH (hs▸h) a o h1 h2 h3 h4 ?_;rw[step_heap (denote table) p w s aQ t aiR hs];have hk2:=(fL.mp hk).2
     revert hk2
     cases t.cur<;>intro hk2<;>try show e
     case update c _ f _=>
      show(Kr _ _ _ _ ?_).trans e;rintro rfl;simp only[Lr,Nat.ble_eq,beq_iff_eq]at hk2;rcases hk2 with((q|q)|q)|q
      .show absurd h1 (j5.mpr q)
      .show h2 q
      .show h3 q
      .show h4 q
     case alloc x _=>show a8 x e
  .have h:=he▸h;ext
end
theorem adI(e:h.get? a=O o):h.objs[a]? =O o:=(PySem.Heap.get?_some_iff.mp e).1
theorem Cm{T:ng}(hl:a<T.n)(hf:alive o=O o)(e:T.tree.get a=O o):T.abs.heap.get? a=O o:=(abs_get hl e).trans hf
noncomputable def okN(n:Nat)(bp:mr):Bool:=bp.all λy=>jL y.1 n && match y.2.data with|UD=>af |_=>N
theorem aax(h:(match o.data with|UD=>af |_=>N)=N):alive o=O o:=by obtain⟨c,d,dt,sl⟩:=o;cases dt<;>first|rfl|ext
set_option tactic.hygienic true in
theorem SF{bp:mr}{T:ng}(hk:okN T.n bp=N)(h:(bp.map λy=>T.tree.get y.1)=bp.map λy=>O y.2):bp.In T.abs.heap:=λa o e=>by have hm:(a,o)∈bp:=mH e;show eX (fL.mp (mW.mp hk _ hm)) λh2 h3=>(Cm (dO h2) (aax h3) (vb.mp h _ hm))
theorem SG(m:aE α)(g:α->aE b8)(bw:aa->aE Unit)(a0:b8->aE ik):((m.bind g).onRaise bw).bind a0=(m.onRaise bw).bind λa=>((g a).onRaise bw).bind a0:=by
 rw[sr,Be,Be,Fu,tj,tj];show LY _ _ _ (λa=>?_) λe=>by rw[Be,tj];rfl
 change _=((g a).onRaise bw).bind a0;rw[sr]
def A0:ck:=callerA.under v8
theorem aay:A0.depth<700:=by decide
theorem aiT:(Ctx.of v8 [topFrame default]).In A0:=
 Ctx.Below.in (XZ Z bz (λl hl=>by show aV hl▸?_;rfl) (λg hg=>by show aV hg▸?_;rfl) bz)
theorem Ir.wp{w:fz}{m:aE α}{F:α->aE ik}{Q:α->ae->Prop}(h:ax (aG p0 w) A0 m Q (λ_ _=>False) s):
 ∃a Y wu,Q a Y/\Ir p0 w s ⟨m.bind F,v8,pos,[topFrame default]⟩ Y ⟨F a,v8,wu,[topFrame default]⟩:=by
 show eY (wp_comes_bind (Ctx.fits_of v8 [topFrame default]) F m _ _ pos s (h _ pos aiT)) λY p' t' hc hl=>?_;rcases hl with⟨a,rfl,hq⟩|⟨_,_,hf⟩
 .show Bm a Y p' hq (Zp hc)
 .show hf.elim
theorem Ih{s:bT}(l:List bT)(h:s=fE (Z1 s) (Iw s) s.pos)(hw:J4 (Z1 s) (Iw s) s.pos.line nM=pure af):zl (s::l)=Ya s (aZ (Iw s) nM) (Wf (zl l)):=by
 delta zl Ya abC
 rw[Sz,<-SG,show mV s nM=_ from congrArg (mV · nM) h,exec_Assign_arm,hw];rfl
noncomputable def mkI(x:Int×Nat×aY):aw:=gn (jd x.1) x.2.1 x.2.2
def iXf(e:aw):Int×Nat×aY:=match xk e with
 | .con (jd i) x y=>(i,x,y)
 |_=>(0,0,default)
theorem adJ(x:Int×Nat×aY)(l:List (Bool×aE aa))(k:List aa->aE aa):(oB ((af,aZ (mkI x) nM)::l)).bind k=Bf λt=>(oB l).bind λr=>k (ah x.1 t::r):=(show Bf (λt=>((oB l).bind λr=>Sem.pure (ah x.1 t::r)).bind k)=Bf λt=>(oB l).bind λr=>k (ah x.1 t::r) from congrArg Bf (funext λt=>Sem.bind_assoc _ _ _))
theorem XO{p:aY}{l:List (Int×Nat×aY)}:∀{k:List aa->aE aa},(oB (jI p (iY (l.map mkI) nM))).bind k=Wg nM (l.map mkI) k:=by
 induction l with
 |nil=>show rfl
 |cons x l ih=>show(adJ x _ _).trans (congrArg Bf (funext λt=>ih))
def aaz(e:aw):List aw:=match xk e with
 | .tup es _ _=>es
 | .lst es _=>es
 |_=>[]
def agk(e:aw):aw:=match xk e with
 | .bin l _ _ _=>l
 |_=>e
theorem aaA(h:aaz e=((aaz e).map iXf).map mkI):aZ e nM=evL e:=by
 have E:=N9 e
 delta aaz at h
 delta evL
 cases hk:xk e with
 |tup es k p=>show(show e=il es k p by rw[hk]at E;show E)▸congrArg (jH p>>=λ_=>·) (by rw[hk]at h;dsimp only at h;rw[h];show XO)
 |lst es p=>show(show e=AD es p by rw[hk]at E;show E)▸congrArg (jH p>>=λ_=>·) (by rw[hk]at h;dsimp only at h;rw[h];show XO)
 |_=>rfl
theorem agl(h:aaz (agk e)=((aaz (agk e)).map iXf).map mkI):aZ e nM=evB e:=by
 have E:=N9 e
 delta agk at h
 delta evB
 cases hk:xk e with
 |bin l op r u=>show(show e=eu l op r u by rw[hk]at E;show E)▸congrArg (· >>=λa=>holding [a] (aZ r nM)>>=λb=>jH u>>=λ_=>Ax [a,b] (Au op a b)) (aaA (by rw[hk]at h;show h))
 |_=>rfl
theorem t12:zl (tM.drop 12)=Ya Sy (aZ IY nM) k12:=Ih (s:=Sy) (tM.drop 13) Z bD
theorem t14:zl (tM.drop 14)=tF:=by
 rw[show zl (tM.drop 14)=_ from Ih (s:=cS 14) (tM.drop 15) Z bD,show zl (tM.drop 15)=_ from Ih (s:=cS 15) (tM.drop 16) Z bD,
  aaA (e:=Iw (cS 14)) bD,agl (e:=Iw (cS 15)) bD]
 rfl
section
set_option backward.match.sparseCases true
theorem aaB{l:List bj}{g:Nat->bj}{life:Life}(hn:s.heap.objs.size=n)(hl:n<=4094)(hlf:s.heap.life=life)(hg:s.gens=#[])(h:∀i,i<15->i<n->s.heap.objs[i]? =O (l.getD i default))(hh:∀i,s.heap.objs[i]? =if i<n then O (g i) else ai):
 (⟨Z2 (oG l g) n 12 0 1,n,life,#[],s.drawn,s.toks,s.os⟩:ng).abs=s:=by
 subst hn hlf;show hg▸Wc (f:=oG l g) hl λi hi=>?_
 delta oG
 by_cases q:i<15
 .rw [show jL i 15=N from eT q];show h i q hi
 .rw [show jL i 15=af from(by cases e:jL i 15 with|false=>rfl|true=>show absurd (dO e) q),hh i,if_pos hi]
theorem agm{T:ng}{l:List bj}(h:(aI 15).map T.tree.get=l.map O)(hl:l.length=15)(hn:15<=T.n):∀i,i<15->T.abs.heap.objs[i]? =O (l.getD i default):=λi hi=>by
 have e:((aI 15).map T.tree.get)[i]? =(l.map O)[i]? :=by rw[h]
 rw[cY,cY,oF hi,dE (hl▸hi)]at e;show(?_:(absHeap T.tree T.n T.life).objs[i]? =_);rw[absHeap_at,if_pos (ff hi hn),(aV e),da,dE (hl▸hi)]
theorem Ql(h:aN)(i:Nat):h.objs[i]? =if i<h.objs.size then O ((h.objs[i]?).getD default) else ai:=by
 by_cases q:i<h.objs.size
 .rw [if_pos q,yu q];rfl
 .rw [if_neg q,LH (oJ q)]
theorem SH{ann:Option aa}{dA:Nat}{T T':ng}{t t':gX}(h:segGoT Ki p0 w n₀ ann 99 dA T t=O (T',t')):
 Ir p0 w T.abs t T'.abs t'/\∀a o,a<n₀->a≠sM->a≠cE->ann≠O (R a)->T.abs.heap.get? a=O o->T'.abs.heap.get? a=O o:=by
 have g:=table_eq_tree.symm▸segGo_of h;show⟨adG g,aaw g⟩
theorem aaC(P:bS):(oA P).length=15:=rfl
structure Ae(w:fz)(os:fy)(s:ae):Prop where
 gens:s.gens=#[]
 oss:s.os=os
 life:s.heap.life=(oR w.params).life
 size:s.heap.objs.size=2016
 old:∀a o,a<11->a≠sM->a≠cE->a≠6->(S0 w os).abs.heap.get? a=O o->s.heap.get? a=O o
 agn:s.heap.get? 2=O {cls:=aA,data:=eJ #[]}
 fA:(zm w.params).In s.heap
 ex:∃k0 k iC,s.heap.get? 3=O {cls:=ak "dict",data:=eJ (nsC w.params k0 k) 34}/\(zE k0).In s.heap/\(qC w.params k).In s.heap/\s.heap.DictOf (dZ) 139 iC/\M2 (OR 140 s.heap) iC (jl xt)
theorem SI(P:bS):((zm P).all λy=>y.1==2 ||(dY 15 y.1 && jL y.1 139))=N:=by ext
theorem adK(P:bS):(zm P).lookup 2=O {cls:=aA,data:=eJ #[]}:=rfl
theorem y9(a:ab){es:Array oy}(e:h.get? a=O o)(hd:o.data=eJ es n):h.nsMap a=mh es:=by
 funext x
 delta Heap.nsMap
 rw[e];dsimp only;rw[hd]
theorem xu{es:Array oy}(e:h.get? a=O o)(hd:o.data=eJ es n)(hk:(es.all λe=>match e.key with|cI _ _=>N |_=>af)=N):h.isNs a=N:=by
 delta Heap.isNs
 rw[e];dsimp only;show hd.symm▸hk
theorem xw{es:Array oy}(e:h.get? a=O o)(hd:o.data=eJ es n)(hk:(es.all λe=>match e.key with|cI _ _=>N |_=>af)=N):h.Ns a (mh es):=(y9 _ e hd)▸Heap.Ns.of_isNs (xu e hd hk)
noncomputable def su(o:bj):Array oy:=match o.data with|eJ es _=>es |_=>#[]
noncomputable def aaD(o:bj):Nat:=match o.data with|eJ _ n=>n |_=>0
theorem SJ(P:bS):(qu P).data=eJ (su (qu P)) (aaD (qu P)):=rfl
theorem NF(P:bS):((su (qu P)).all λe=>match e.key with|cI _ _=>N |_=>af)=N:=by ext
theorem Qm(P:bS):((nsA P).all λe=>match e.key with|cI _ _=>N |_=>af)=N:=by ext
theorem adL(P:bS):mh (nsA P) (aC "tuple")=ai:=by ext
theorem aaE(P:bS):mh (su (qu P)) (aC "tuple")=O (ak "tuple"):=by ext
theorem ago(P:bS):mh (nsA P) nEC=O (R 135):=by ext
theorem adM(P:bS):NA.map (λx=>(mh (nsA P) x.1).map λv=>match v with|ah i _=>O i |_=>ai)=NA.map (λx=>O (O x.2)):=by ext
set_option tactic.hygienic true in
theorem aiU(hf:(zm P).In h)(h0:h.get? 0=O (qu P))(h3:h.get? 3=O {cls:=ak "dict",data:=eJ (nsA P) 20}):HN P tA fdG fdN NA h:=by
 show⟨⟨?_,rfl,rfl,rfl,rfl,rfl,rfl,rfl,rfl,⟨81,_,_,_,rfl,hf 81 _ Z,rfl,rfl⟩,⟨_,xw (hf 2 _ (adK P)) Z (U5.mpr λ_ h=>absurd h (rD _)),rfl⟩,⟨_,_,xw h3 Z (Qm P),xw h0 (SJ P) (NF P),adL P,aaE P⟩⟩,⟨_,xw h3 Z (Qm P),ago P,λx i e=>?_⟩⟩
 .show λa o e=>hf a o ?_
  delta zm
  rw[Ue,e];rfl
 .have h:=vb.mp (adM P) _ (mH e);dsimp only at h;show bh (jc.mp h) λv hv h2=>?_;split at h2
  .show aV h2▸⟨_,hv⟩
  .ext
end
theorem aaF(P:bS):okN 139 (zm P)=N:=by ext
theorem aaG(k:Nat):okN 1888 (zE k)=N:=by ext
theorem aaH(P:bS)(k:Nat):okN 2016 (qC P k)=N:=by ext
theorem aiV(P:bS):(aI 15).map (λi=>alive ((oA P).getD i default))=(aI 15).map (λi=>O ((oA P).getD i default)):=by ext
theorem adN:IY=qh Qi Qj (IY.pos):=by rfl
theorem agp:xt≠[]:=λe=>by have:=XM;have this:=e▸this;show nnZ this
theorem Zq:nM.scope.kind=qr:=by ext
theorem agq(hn:HN w.params tA fdG fdN NA s.heap)(h1:s.heap.get? sI=O o)(sz:s.heap.objs.size=139)(hQ:∀iC Y,Y.heap.DictOf (dZ) 139 iC->M2 (OR 140 Y.heap) iC (jl xt)->Gr 1729 s Y->Q (R 139) Y):ax (aG p0 w) A0 (aZ IY nM) Q a6 s:=by
 have key:ax (aG p0 w) A0 (aZ (qh Qi Qj IY.pos) nM) Q a6 s:=by show aav (K:=xt) (P:=w.params) (t:=tA) (fd:=fdG) (fd2:=fdN) (tab:=NA) (J:=nM) (ks:=Qi) (vs:=Qj) (pos:=IY.pos) aay ⟨o,h1⟩ hn Zq (eV sM) (eV sM) agc agp JE (by rw[XM];decide) ?_;intro iC Y e1 e2 g;rw[sz]at e1 e2;rw[adF]at g;rw[sz];show hQ iC Y e1 e2 g
 show adN▸key
theorem aaI{a:Nat}(h:a≠12):(O (R 12):Option aa)≠O (R a):=λq=>h (j7 (aV q)).symm
theorem aaJ(e:(zE k).lookup a=O o):1868<=a:=
 dO (mW.mp (show((zE k).all λy=>dY 1868 y.1)=N by ext) _ (mH e))
theorem adO(os:fy):∃s t,Ir p0 w (S0 w os).abs (topStub p0) s t/\Fd t=N/\Ae w os s:=by
 have h:=abD w os;show og λgG kG=>?_;obtain⟨⟨SA,tA'⟩,eA,h⟩:=jc.mp h;show kG ?_;clear kG gG;have a1:tA'=We (tM.drop 12) ⟨31,0,73,58⟩:=congrArg (λx=>x.1) h;have a2:SA.n=139:=congrArg (λx=>x.2.1) h;have a4:SA.os=os:=congrArg (λx=>x.2.2.2.1) h;have a5:(aI 15).map SA.tree.get=(oA w.params).map O:=congrArg (λx=>x.2.2.2.2.1) h;show eX (SH eA) λrA kA=>?_;have rA:=a1▸rA;have fA:(zm w.params).In SA.abs.heap:=SF (by show a2.symm▸?_;show aaF _) (congrArg (λx=>x.2.2.2.2.2) h);have szA:SA.abs.heap.objs.size=139:=(Ly _ _ _).trans a2;have gA:∀i,i<15->SA.abs.heap.get? i=O ((oA w.params).getD i default):=λi hi=>by
  have e:((aI 15).map SA.tree.get)[i]? =((oA w.params).map O)[i]? :=by rw[a5]
  rw[cY,cY,oF hi,dE (aaC w.params▸hi)]at e;show Cm (by show a2.symm▸?_;show fZ hi bz) (vb.mp (aiV w.params) i (dm.mpr hi)) ((aV e).trans ?_);rw[da,dE (aaC w.params▸hi)];rfl
 rw[show We (tM.drop 12) ⟨31,0,73,58⟩=⟨Ya Sy (aZ IY nM) k12,v8,⟨31,0,73,58⟩,[topFrame default]⟩ from congrArg (VN · v8 _ _) t12]at rA;show og λgG kG=>?_;obtain⟨v,sB,p',⟨dX,iC,hd,hm,gB⟩,rB⟩:=Ir.wp (m:=(jH Sy.pos>>=λ_=>aZ IY nM).onRaise (ri nM)) (s:=SA.abs) (F:=abC Sy k12) (pos:=⟨31,0,73,58⟩)
  (Q:=λv Y=>v= .ref 139/\∃iC,Y.heap.DictOf (dZ) 139 iC/\M2 (OR 140 Y.heap) iC (jl xt)/\Gr 1729 SA.abs Y)
  (J6 (ag (jW (agq (aiU fA (gA 0 bz) (gA 3 bz)) (gA 1 bz) szA λiC Y e1 e2 g=>⟨rfl,iC,e1,e2,g⟩))))
 show kG ?_;clear kG gG;subst dX;have r2:=rA.trans rB;have szB:sB.heap.objs.size=1868:=by rw[gB.size,szA]
 have eB:=aaB (life:=(oR w.params).life) (l:=oA w.params) (g:=λi=>(sB.heap.objs[i]?).getD default) szB bz (r2.life.trans Z) (gB.gens.trans (congrArg (λx=>x.2.2.1) h)) (λi hi _=>adI (gB.keep _ _ (gA i hi))) (λi=>by show szB▸?_;show Ql _ i);have h:=adH w sB.os sB.drawn sB.toks (λi=>(sB.heap.objs[i]?).getD default) p';show og λgG kG=>?_;obtain⟨⟨SC,tC'⟩,eC,h⟩:=jc.mp h;show kG ?_;clear kG gG;have c1:tC'=⟨tF,v8,⟨75,0,75,8⟩,[topFrame default]⟩:=(congrArg (λx=>x.1) h).trans (congrArg (VN · v8 _ _) t14);have c2:SC.n=1888:=congrArg (λx=>x.2.1) h;have c4:SC.os=sB.os:=congrArg (λx=>x.2.2.2.1) h;have c6:((zE sB.toks).map λy=>SC.tree.get y.1)=(zE sB.toks).map λy=>O y.2:=congrArg (λx=>x.2.2.2.2.2) h;show eX (SH eC) λrC kC=>?_;rw[eB]at rC kC;have r3:=r2.trans (c1▸rC);have szC:SC.abs.heap.objs.size=1888:=(Ly _ _ _).trans c2;have eD:=aaB (life:=(oR w.params).life) (l:=oN w.params (nsB w.params sB.toks) 22) (g:=λi=>(SC.abs.heap.objs[i]?).getD default) szC bz (r3.life.trans Z) (congrArg (λx=>x.2.2.1) h) (λi hi _=>agm (congrArg (λx=>x.2.2.2.2.1) h) Z (by rw[c2];decide) i hi) (λi=>by show szC▸?_;show Ql _ i);have h:=abE w SC.abs.os SC.abs.drawn sB.toks SC.abs.toks (λi=>(SC.abs.heap.objs[i]?).getD default);show og λgG kG=>?_;obtain⟨⟨SE,tE⟩,eE,h⟩:=jc.mp h;show kG ?_;clear kG gG;have d2:SE.n=2016:=congrArg (λx=>x.2.1) h;have d5:[SE.tree.get 2,SE.tree.get 3]=[O {cls:=.none,data:=.dict #[]},O {cls:=.type "dict",data:=.dict (nsC w.params sB.toks SC.abs.toks) 34}]:=congrArg (λx=>x.2.2.2.2.1) h;show eX (SH eE) λrE kE=>?_;rw[eD]at rE kE;have r4:=r3.trans rE;have keep:∀a o,a≠3->a≠2->a≠12->sB.heap.get? a=O o->SE.abs.heap.get? a=O o:=λa o h3 h2 h12 e=>by have hl:=cn e;rw[szB]at hl;have n12:=aaI h12;show kE a o (fZ hl bz) h3 h2 n12 (kC a o hl h3 h2 n12 e)
 show⟨SE.abs,tE,r4,congrArg (λx=>x.1) h,congrArg (λx=>x.2.2.1) h,(congrArg (λx=>x.2.2.2.1) h).trans (c4.trans (gB.os.trans a4)),r4.life,(Ly _ _ _).trans d2,λa o h11 h3 h2 h6 e=>keep a o h3 h2 (λq=>absurd h11 (by rw[q];decide)) (gB.keep _ _ (kA a o h11 h3 h2 (λq=>h6 (j7 (aV q)).symm) e)),Cm (by rw[d2];decide) Z (mu d5).1,λa o e=>?_,⟨sB.toks,SC.abs.toks,iC,Cm (by rw[d2];decide) Z (mu (mu d5).2).1,λa o e=>?_,SF (by rw[d2];show aaH _ _) (congrArg (λx=>x.2.2.2.2.2) h),eY hd λo es ep e1 e2=>⟨o,es,ep,keep 139 o (uf Z) (uf Z) (uf Z) e1,e2⟩,hm.mono λa v=>(aiM).mono 140 _ _ _ _ λb o D e=>keep b o (λz=>absurd D (by rw[z];decide)) (λz=>absurd D (by rw[z];decide)) (λz=>absurd D (by rw[z];decide)) e⟩⟩
 .rcases Bool.or_eq_true_iff.mp (mW.mp (SI w.params) _ (mH e)) with q|q
  .obtain rfl:a=2:=beq_iff_eq.mp q;obtain rfl:=aV e;show Cm (by rw[d2];decide) Z (mu d5).1
  .have q:15<=a:=dO (fL.mp q).1;show keep a o (oM (ff bz q)) (oM (ff bz q)) (oM (ff bz q)) (gB.keep _ _ (fA a o e))
 .have hl:1868<=a:=aaJ e;have e':=(SF (by rw[c2];show aaG _) c6) a o e;have hu:=cn e';have hu:=szC▸hu;show kE a o hu (oM (ff bz hl)) (oM (ff bz hl)) (aaI (oM (ff bz hl))) e'
section
set_option backward.match.sparseCases true
noncomputable def JF(w:fz)(os:fy):ae:=⟨oR w.params,Array.mk [],boot_drawn,boot_toks,os⟩
theorem agr(w:fz)(os:fy):(S0 w os).abs=JF w os:=by have hs:(oR w.params).objs.size=11:=rfl;show Wc (s:=JF w os) (by change(oR w.params).objs.size<=_;rw[hs];decide) λi hi=>(?_:(oR w.params).objs[i]? =_);have hi:i<(oR w.params).objs.size:=hi;rw[da,UZ,yu hi];rfl
theorem adP(w:fz)(os:fy):(aI 11).map (S0 w os).abs.heap.get? =((oN w.params (su (oS w.params)) (aaD (oS w.params))).take 11).map O:=by ext
theorem Cn(P:bS)(k0 k:Nat):((nsC P k0 k).all λe=>match e.key with|cI _ _=>N |_=>af)=N:=by ext
theorem Zr(P:bS):(O ((match (qu P).data with
 |eJ es _=>es.toList.filterMap λe=>match e.key with|cI n _=>O (n,e.val) |_=>ai
 |_=>[]):List (aP×aa))).map (λl=>(l.head?.map (·.1),l.tail))=O bltViewBooted:=by ext
theorem Zs(P:bS)(k0 k:Nat):((nsC P k0 k).toList.filterMap λe=>match e.key with|cI n _=>O n |_=>ai).all (λx=>startupNames.contains x ||p0.boundNames.contains x)=N:=by ext
theorem aaK(P:bS)(k0 k:Nat):laidNames.map (mh (nsC P k0 k))=laidNames.map (mh (su (oS P))):=by ext
theorem ags(P:bS)(k0 k:Nat):mh (nsC P k0 k) "__builtins__" =O (R 4):=by ext
theorem aaL(P:bS):mh (su (oS P)) "__annotations__" =O (R 6):=by ext
theorem SK(P:bS):((su (oS P)).all λe=>match e.key with|cI _ _=>N |_=>af)=N:=by ext
theorem uP{os:fy}(h:i<11):(S0 w os).abs.heap.get? i=O ((oN w.params (su (oS w.params)) (aaD (oS w.params))).getD i default):=by
 have e:((aI 11).map (S0 w os).abs.heap.get?)[i]? =(((oN w.params (su (oS w.params)) (aaD (oS w.params))).take 11).map O)[i]? :=by rw[adP]
 have hl:(oN w.params (su (oS w.params)) (aaD (oS w.params))).length=15:=rfl;rw[cY,cY,oF h,List.getElem?_take,if_pos h,dE (by rw[hl];show fZ h aK)]at e;show(aV e).trans ?_;rw[da,dE (by rw[hl];show fZ h aK)];rfl
theorem adQ(os:fy)(hz:(JF w os).asleep):∃s,TopRan p0 w (JF w os) s/\Ae w os s:=by
 show jy (adO os) λs t r ht T=>(⟨s,?_,T⟩);show uy T.ex λk0 k iC h3 _ _ _ _=>?_;have hg:=xu h3 Z (Cn _ _ _);have mg:=y9 ef h3 Z;have g0:=T.old 0 _ bz (uf Z) (uf Z) (uf Z) (uP bz);have D:=xu g0 (SJ _) (NF _);have b3:=uP (os:=os) (i:=3) bz;have hg0:=xu b3 Z (SK _);have mg0:=y9 ef b3 Z;have b2:=uP (os:=os) (i:=2) bz;have RE:∀h:aN,h.get? 2=O {cls:=aA,data:=eJ #[]}->∀key,staticOf h key=ai:=λh e key=>by
  delta staticOf
  show(show cE=2 from rfl).symm▸e.symm▸?_;rfl
 rw[agr]at r b3 hg0 mg0 b2;show eQ (r.aiS hz T.gens) λn t1 hs hf=>(⟨⟨n,t1,hs,NC hf ht⟩,T.life,VK T.oss,λb o e hn=>?_,?_,λkey=>ao (by rw[RE _ T.agn,RE _ b2]),Pin.keysAreStrs_of hg,λx E=>(Pin.builtinOf_eq D x).trans (Heap.of_bltView D ?_ x E),⟨4,_,(yE hg _).trans ((congrFun mg _).trans (ags _ _ _)),(T.old 4 _ bz (uf Z) (uf Z) (uf Z) (uP bz)),rfl,rfl⟩,λg E=>?_,λx v hv=>?_,λx E=>?_⟩)
 .show T.old b o (cn e) (λq=>hn (ao q)) (λq=>hn (aH (ao q))) (λq=>hn (aH (aH ?_))) (e);rw[q];show(yE hg0 _).trans ((congrFun mg0 _).trans (aaL _))
 .intro key v hk;rw[RE _ T.agn]at hk;ext
 .have e:s.heap.nsPairs fY=match (qu w.params).data with
   |eJ es _=>es.toList.filterMap λe=>match e.key with|cI n _=>O (n,e.val) |_=>ai
   |_=>[]:=by delta Heap.nsPairs;show(show fY=0 from rfl).symm▸g0.symm▸?_;rfl
  delta Heap.bltView
  show e.symm▸(aV (Zr w.params))
 .rw [T.gens]at E;show absurd E (U0 g)
 .rw [yE hg,mg]at hv;have hk:x∈s.heap.nsKeys ef:=by show Decidable.byContradiction λq=>have hv:=(Heap.nsMap_none q)▸mg.symm▸hv;Bk hv
  unfold Heap.nsKeys at hk;have hk:=h3▸(show ef=3 from rfl)▸hk;have:=mW.mp (Zs w.params k0 k) x hk;simpa only[Lr,ED] using this
 .rw [yE hg,yE hg0,mg,mg0];show vb.mp (aaK w.params k0 k) x E
end
theorem NG:Cl ⟨fM "claim.caller" {},ai,ai,[],ai⟩:=⟨rfl,zk⟩
theorem adR{t:aE ik}(hz:s.asleep)(h:C callerA t s (λzb Y=>∃f,zb=nr f/\(aM (cf f) Y/\TJ Y.gens=af))):
 ∃n r Y mF,runN (denote table) prog w n s ⟨t,fM "claim.caller" {},default,[]⟩=Run.halted (outcomeOf r) Y/\schedN (denote table) prog w n (Md s ⟨t,fM "claim.caller" {},default,[]⟩)=SRun.halted (outcomeOf r) Y/\Y.forget=mF.forget/\aM r mF:=by
 show gv (wp_halts_full (M:=aG prog w) (R:=aM) hz (tx _ _ _ (λzb p' Y h'=>by show bh h' λf dX hf=>dX▸?_;show hf) (λ_ _ _ h'=>h'.elim) default s (@h ⟨fM "claim.caller" {},ai,ai,[],ai⟩ default caller_in NG))) λn r aD aQ hs hn hfo hR=>⟨n,r,aQ,aD,hn,hs,hfo,hR⟩
def Qn:Prop:=∀(os:fy) (s aD:ae) (args:List WData) (vs:List aa) (as:List ab),Ae w os s->FP.row.toRowW.claim.pre args=N->L9 args=N->Laid [] w s aD args vs as->
 C callerA (Em (R 2015) vs) aD (λv Y=>GoodWG FP.row.toRowW.claim (classAt s.heap) (VU s.heap) args aD (cf (cL v)) Y)
theorem XP(P:bS)(k0 k:Nat):mh (nsC P k0 k) (aC "law")=O (R 2015):=by ext
theorem agt(P:bS)(k:Nat):∃pm,(qC P k).lookup 2015=O (mL (wo "law" "law" (cS 27) aA aA pm 2014)):=⟨_,rfl⟩
theorem adS:p0.theDef (aC "law")=O (fo (cS 27),bo (cS 27),bg (cS 27)):=by ext
theorem SM:opensWell p0=N:=by ext
theorem open_plain:opening p0=plainProg p0.main.scope.names:=by rfl
theorem SN:bearImports p0.main.body=af:=by ext
theorem agu{os:fy}(T:Ae w os s):isTheDefsW p0 s.heap (aC "law"):=uy T.ex λk0 k iC h3 _ hC _ _=>dG (agt w.params k) λpm hf=>⟨2015,_,_,_,_,_,(yE (xu h3 Z (Cn _ _ _)) _).trans ((congrFun (y9 ef h3 Z) _).trans (XP _ _ _)),hC 2015 _ hf,rfl,adS,rfl,rfl,rfl,rfl,rfl,rfl,rfl,rfl,ao ⟨rfl,rfl⟩,[],rfl,ao ⟨rfl,rfl⟩⟩
theorem Co:FP.row.toRowW.claim.pre [Ma [Mb 3]]=N/\L9 [Ma [Mb 3]]=N/\FP.row.toRowW.returnsAt [Ma [Mb 3]]=N:=⟨rfl,rfl,rfl⟩
theorem aaM{os:fy}{Q:ik->ae->Prop}(X:Ae w os s)(hk:uh s.heap aD.heap)(h:C callerA (Em (R 2015) vs) aD (λv Y=>Q (nr (cL v)) Y)):
 C callerA (do match<-nsGet sM (aC "law") with
  |some f=>do ret (<-Em f vs)
  |none=>Ek "claim.caller:no-such-global") aD Q:=by
 show eY X.ex λk0 k iC h3 _=>C.bind<|T.wx (P:=λa Y=>a=O (R 2015)/\Y=aD) (xM (xw (hk _ _ h3) Z (Cn _ _ _)) ⟨XP _ _ _,rfl⟩) λa Y e=>eX e λdX qD=>?_;subst dX;subst qD;show C.bind (h.mono λv Y hv=>C.pure hv)
theorem aiW{A A' B aS a0 a6 E' F:α->Prop}(ha:∀v,A v->A' v)(he:∀v,a6 v->E' v)(h:∃v,A v/\B v/\aS v/\a0 v/\a6 v/\F v):∃v,A' v/\B v/\aS v/\a0 v/\E' v/\F v:=
 h.imp λv q=>⟨ha v q.1,q.2.1,q.2.2.1,q.2.2.2.1,he v q.2.2.2.2.1,q.2.2.2.2.2⟩
theorem aiX{α' akV:Type}{A A' B aS a0 a6 F F':α->α'->akV->Prop}(ha:∀v u w,A v u w->A' v u w)(hf:∀v u w,F v u w->F' v u w)(h:∃v u w,A v u w/\B v u w/\aS v u w/\a0 v u w/\a6 v u w/\F v u w):∃v u w,A' v u w/\B v u w/\aS v u w/\a0 v u w/\a6 v u w/\F' v u w:=
 h.imp λv q=>q.imp λu q=>q.imp λw q=>⟨ha v u w q.1,q.2.1,q.2.2.1,q.2.2.2.1,q.2.2.2.2.1,hf v u w q.2.2.2.2.2⟩
theorem adT(Ψ:Qn)(k1:FP.row.wellSaid=N):FP.row.Holds:=by
 show⟨k1,⟨_,Co.1,by show Co.2.1.symm▸Co.2.2.symm▸?_;rfl⟩,⟨⟨Z3,SM,rfl⟩,⟨_,Co.1,Co.2.1⟩,QJ ?_⟩⟩;show bh (jc.mp (boot_open (p:=p0) (N:=600) open_plain Z (λs=>fenceModules_id p0 SN s) w)) λaJ h2 e=>(bh (Lu.mp h2) λs h4 h5=>?_);replace h4:=table_eq_tree.symm▸h4;have A:=AfterImport.of_importEnds h4;show⟨⟨s,A⟩,λY zL=>?_⟩;obtain rfl:Y=s:=AfterImport.unique zL A;have z:=VI (fence_lifeW h5) A.life;have e0:aJ=JF w aJ.os:=by obtain⟨h,g,d,t,o⟩:=aJ;simp only[Prod.mk.injEq]at e;show iM e λdX qD DQ NR=>?_;subst dX;subst qD;subst DQ;subst NR;rfl
 generalize aJ.os=os at e0;subst e0;show bh (adQ os z) λs1 hT T=>(⟨JF w os,h5,rfl,s1,hT,λn hn=>?_,λx E=>(kJ E),λx E=>(kJ E),λargs Zt Zu ord aiY=>?_⟩)
 .obtain rfl:n=aC "law" :=bJ.mp hn;show agu T
 .obtain ⟨⟨vs,aD⟩,Qo⟩:=yo.mp (layAllW_isSome (R:=[]) (λc hc=>Ip hc) args FP.row.args s1 (pre_splitW Zt).1);have keeps:=layAllW_keeps _ _ _ Qo;have Dz:=layAllW_rest _ _ _ Qo;show gH (reads_layAllW aiY _ _ _ Qo Zu aD.heap (λ_ _ e=>e)) λas hrd Gk hold=>?_;have bw:Laid [] w s1 aD args vs as:=⟨⟨ord,aiY,Qo⟩,hrd,Gk,hold,keeps,Dz.1.trans T.gens,Dz.2.2.1⟩;have h:=aaM T keeps (Q:=λzb Y=>∃f,zb=nr f/\((FP.row.toRowW.claim.Ends s1 args vs aD (cf f) Y/\Y.os=s1.os)/\TJ Y.gens=af))
   ((Ψ os s1 aD args vs as T Zt Zu bw).mono λv Y g=>have y:=g.laid Z Z (λa b=>ident_freeW (r:=FP.row.toRowW) Z Z Z a b) bw
    ⟨_,rfl,⟨y.1,y.2.1⟩,leftWithCleanup_false_of_bare y.2.2⟩)
  show fO (adR (aM:=λr Y=>FP.row.toRowW.claim.Ends s1 args vs aD r Y/\Y.os=s1.os) (VI (Dz.2.2.2.trans T.life) z) h) λk r Y mF akW agv hfo aiZ Q4=>je (VJ hfo) λeh _ _ eo _=>⟨vs,aD,Qo,k,_,Y,agv,?_,(λ_ i x E=>by rw[T.gens]at E;show Bk E),(λq=>Ip q),congrArg _ (((runN_life _ _ _ akW).trans Dz.2.2.2)),VK (eo.trans Q4)⟩;show Or.imp (aiW (λ_ e=>by rw[e];rfl) λ_ d4 b o y _=>d4 b o y) (aiX (λ_ _ _ e=>by rw[e];rfl) λ_ _ _ d5 b o y _=>d5 b o y) (aiZ.congr eh)
theorem DX:oz (ak "range_iterator") (ak "reversed")=pure af:=by ext
section
variable{rr:ab}{t u v:aW}
noncomputable def Zv(n:Nat):bj:={cls:=ak "range_iterator",data:=bH #[dN ((n:Int) - 1),dN n,dN (-1)]}
theorem zh(hr:qg s.heap rr 0 n 1 t u v)(hn:n<=1000)(h:Q (R s.heap.objs.size) {s with heap:=s.heap.push (Zv n)}):ax (aG prog w) A (call (bx "range.__reversed__") [R rr]) Q a6 s:=by
 show jV LO ((ct _ hr Z)) PySem.F.entry_range_reversed ?_ (PySem.F.args_range_reversed_1 _);show ag (fK Z ?_);have hf:∀Q:Int×Int×Int->ae->Prop,Q (0,(n:Int),1) s->ax (aG prog w) A.in1 (aa5 (R rr)) Q a6 s:=λQ hq=>by obtain⟨hp,g,d,tk,os⟩:=s;have hr':hp.get? rr=O {cls:=ak "range",data:=bH #[ah 0 t,ah n u,ah 1 v]}:=hr;wp_walk;show hq
 have fit:∀k:Int, -1000<=k->k<=1000->aa4 k=N:=λk h1 h2=>fL.mpr ⟨decide_eq_true (TV aK h1),decide_eq_true (Kl h2 aK)⟩;have hz:kZ 0 (n:Int) 1=(n:Int):=by
  delta kZ
  rw[if_pos aK];split<;>lia
 show ag (hf _ ?_);dsimp only;rw[hz,fit 0 aK aK,fit n fF (Mc Z Z hn),fit 1 aK aK,fit (-1) aK aK,fit (0 - 1) aK aK];show ag<|ij<|aB (ct _ Z ?_);rw[(by lia:(0:Int)+((n:Int) - 1) * 1=(n:Int) - 1)];show h
theorem zi(hr:qg s.heap rr 0 n 1 t u v)(hn:n<=1000)(h:Q (R s.heap.objs.size) {s with heap:=s.heap.push (Zv n)}):
 oE (aG prog w) A (m8 (bx "reversed.__new__") ⟨[ak "reversed",R rr],[]⟩) (wants Q a6) s:=by
 show xI (ag (fK (F.newCall_reversed_1 _) (aB ⟨lJ PySem.F.plain_reversed_new _,qe PySem.F.entry_reversed_new ?_⟩)));show ag<|fK (newClass_reversed _)<|ag<|fK (by first|rfl|ext)<|ag (fK (by first|rfl|ext) ?_);try show ag (eH ((ct _ hr Z)) LO.lookup ?_)
 show ag<|fK (LO.bind _)<|ag<|mS<|ag (show ax _ _ (call (bx "range.__reversed__") [R rr]) _ _ _ from zh hr hn ?_);first
 |show aB h
 |show aB h
theorem zj(hr:qg s.heap rr 0 n 1 t u v)(hn:n<=1000)(h:Q (R s.heap.objs.size) {s with heap:=s.heap.push (Zv n)}):ax (aG prog w) A (call (ak "reversed") [R rr]) Q a6 s:=by show callType_other (Q₁:=λobj aD=>obj=R s.heap.objs.size/\aD={s with heap:=s.heap.push (Zv n)}) (rfl) F.create_reversed (qB _ _ F.mro_reversed) F.made_reversed DX (F.typeCall_reversed_1 _) (zi hr hn ⟨rfl,rfl⟩) ?_;rintro obj aD ⟨rfl,rfl⟩;show⟨(ct _ (bK _ Z) Z),h⟩
end
theorem aaN(B:cA U mg mb)(I:dQ mg mb)(kO:Gi L "range")(he:V H U A L J G e (aT k) af)(dH:cG e=af)(r:ER H U L J s.heap G):
 T A (aZ (bI (ar (aC "range") np) [e] [] pos) J) s (λx aD=>∃rr t u v,x=R rr/\qg aD.heap rr 0 (k:Int) 1 t u v/\dz H s aD):=by
 show mC ("range") ("range") B I aK kO (rfl) (fJ.cons he fJ.nil dH) (by simp[dW,dH]) r λvs aD F e1 V1=>?_;apply nJ V1;show λt=>sH (aeL _ _ _ _ Z (vp ..) (e1.trans ⟨.push _ _,rfl,rfl,eV _⟩))
theorem agw{np2 PU:aY}(B:cA U mg mb)(I:dQ mg mb)(kO:Gi L "range")(hsr:Gi L "reversed")(he:V H U A L J G e (aT k) af)(dH:cG e=af)(hk:k<=1000)(r:ER H U L J s.heap G):
 T A (aZ (bI (ar (aC "reversed") np) [bI (ar (aC "range") np2) [e] [] PU] [] pos) J) s (λx aD=>T A (gm x) aD (λit aQ=>dz H s aQ/\Xc k (Gj (Dm ((k:Int) - 1) (-1) k)) s it aQ)):=by
 have hI:=I ("reversed",ak "reversed") aK;show ma<|(ez B r hsr hI.1 hI.2 (rfl)).Dj<|callWith_type1<|(aaN B I kO he dH r).wp λx aD oq=>Bl oq λrr t u v E hr e1=>E▸zj hr hk<|have e2:dz H s {aD with heap:=aD.heap.push (Zv k)}:=e1.trans ⟨.push _ _,rfl,rfl,eV _⟩;have um:mf (aD.heap.push (Zv k)) aD.heap.objs.size ((k:Int) - 1) k (-1):=bK _ Z;Tb um ⟨e2,aD.heap.objs.size,_,rfl,λA' RH=>vF (Mg RH _ ((k:Int) - 1) (-1) k) Z (λi v hi qQ=>dG qQ λt hv=>kI _ t (o6.mpr ⟨hi,rfl⟩) hv),?_,e1.ext.new (bF _),λi h st=>(ct _ st (ao ⟨_,rfl,λx t e=>by simp[dN]at e⟩))⟩;rw[(by simp:((k:Int) - 1+((0:Nat):Int) * (-1))=(k:Int) - 1),(by simp:((k:Int) - ((0:Nat):Int))=k)];show um
section
variable{aQ hO:ae}
theorem SO{K:LN}{cC P:ab}{It:aa->ae->Prop}(B:cA U mg mb)(c:ed L scope fs K)(hG:pU G fs=N)(h0:scope.names.lookup (".0" :aP)=O cZ)(Dr:scope.isCoroutine=af)(bM:A.depth<1000)(o9:J.code=R cC)(hP3:P≠ef)(hPt:QH≠P)(W_:∀bm,mg "__builtins__" =O (R bm)->P≠bm)(ou:s.heap.IsCode cC P ps)(hPT:P∉bY)(r:ER H U L J s.heap G)(um:T A (aZ iter J) s (λx aD=>T A (gm x) aD (λit aQ=>dz H s aQ/\It it aQ)))(hs:∀x,genFold iter J x=pure x)(OE:cC∉bY)(hq:∀it aQ cl code aS a hO,dz H s aQ->It it aQ->(∀y∈fs,cl.lookup (NM y)=J.cells.lookup (NM y))->B5 (∃ps,hO.heap.IsCode cC P ps) elt cu iter scope pos J P cl code aS a it aQ hO->Q (R a) hO):
 T A (aZ (lM elt [⟨cu,iter,[],0⟩] scope pos) J) s Q:=by
 show bh (c.Ol r hG) λcl jB wM=>(S7 Dr jB c.cell h0 c.kind (by assumption) (um.wp λxv aD h1=>h1.Cu λit aQ e2 hI=>⟨B.zo (r.base.trans e2.ext),?_⟩) hs);have b2:=r.base.trans e2.ext;show wpAny_genexprCode o9 (Fw ou (λ_=>e2.ext.keep _ _ OE) λ_=>e2.ext.keep _ _ hPT) λcode h3 tk ps' E ai0=>(vt B.bmod λbm ob hbm Q7 hbT Q8 Q9 Gu BC=>?_);have bg3:h3.Ns J.globals mg:=by rw[r.glob];show eY (B.mg b2) λo es ep g1 g2=>Bm o es ep (E _ _ (λq=>hP3 q.symm) g1) g2
 show Ea bg3 hbm Q7 (E bm _ (λq=>W_ bm hbm q.symm) (b2.keep bm _ hbT Q8)) Q9 Gu BC λh4 hn4 hs4=>?_;have x4:=λb o e=>hs4.extBut b o (fB (cn e)) (a8 _ e);have hPs:=(Bq ai0).elim λ_=>cn;have akX:QH<h3.objs.size:=dG B.top λo e=>dG (b2.there _ o e) λo' e'=>cn (E _ _ hPt e');show hq it aQ cl _ h3.objs.size h4.objs.size _ e2 hI wM ⟨(DN ps' (ai0.keeps λb o e=>a8 _ (x4 b o e))),rfl,rfl,λb o D e=>a8 _ (x4 b o (E b o D e)),
  (DO _ _ _ (bK _ Z) Z Z Z),rfl,hn4.push _,W9 (λb o e=>if q:b=P then q▸hPs else cn (E b o q e)) (gy akX) hs4⟩
end
section
variable{aQ hO:ae}
theorem ER.adU{v:Nat}(r:ER H U L J h G)(hy:cq G y=O (k,aT v))(hc:J.kindOf (NM y)=O dw):∃c t,J.cells.lookup (NM y)=O c/\c∉bY/\h.IsCell c (O (ah (aj v) t)):=by show eQ (r.has y k _ hy) λu F cB aO=>(dG aO.toInt λt dX=>?_);subst dX;show bf cB (λi0=>eX i0 λhl _=>?_) λi0=>oW i0 λ_ c' h1 h2 h3=>N6 c' t h1 h2 h3;have hl:=hc.symm.trans hl;ext
set_option tactic.hygienic true in
theorem adV{v:Nat}{i:Int}{cv:ab}{code:aa}{t tv:aW}(c:ed L scope [y] [x])(hg:J.globals=ef)(jB:cl.lookup (NM y)=O cv)(OE:cv∉bY)(hcv:h.IsCell cv (O (ah (aj v) tv)))(n:h.Ns aS m)(hC:aS∉bY)(hm:m (NM x)=O (ah i t)):ER [] h scope (genEnv scope cl aS code fY J) h (jm [(y,k,aT v)] x 0 (a9 i)) where
 base:=.refl _
 kind:=c.kind
 gl:=λy hy=>hy
 Wh:=λy hy=>hy
 glob:=hg
 bi:=rfl
 loc:=hC
 has:=λz k' av e=>by
  rw[fH]at e;split at e
  .rename_i q
   obtain⟨rfl,rfl⟩:=tD (aV e);show q▸kI (ah i t) [] (ao ⟨c.locs _ (bJ.mpr Z),m,n,hm⟩) (.ofInt i t)
  .obtain ⟨rfl,h4⟩:z=y/\(k,aT v)=(k',av):=by replace e:=(my [] y k (aT v) z).symm.trans e;show if q:y=z then by rw[if_pos q]at e;show⟨q.symm,aV e⟩ else by rw[if_neg q]at e;ext
   obtain⟨rfl,rfl⟩:=tD h4;show kI _ [] (aH ⟨aH (c.frees z (bJ.mpr Z)).1,cv,jB,OE,hcv⟩) (.ofInt _ tv)
theorem adW{v:Nat}{py p1 p2 p3:aY}{kc:Nat}(r:ER H U scope J s.heap G)(hy:cq G y=O (k,aT v))(E:cq G x=O (0,aT j)):
 C A (aZ (eu (eu (ar (NM y) py) LV (ar (NM x) px) p1) LU (gn (jd 1) kc p3) p2) J) s (λu Y=>dz H s Y/\∃t,u=ah (aj (v / 2 ^ j % 2)) t):=by
 have e1:wF (.shr ()) (aj v) (aj j)=O (aj (v / 2 ^ j)):=by change O _=O _;congr 1;show(Int.ofNat_fdiv v (2 ^ j)).symm
 have e2:wF .band (aj (v / 2 ^ j)) (aj 1)=O (aj (v / 2 ^ j % 2)):=by change O (aj (v / 2 ^ j &&& 1))=_;rw[Nat.and_one_is_mod]
 show T.wcE ((V.bin (fr:=N) .band (V.bin (.shr ()) (aq _ hy) (aq _ E) e1) (aR 1) e2) r) λu Y F e aO _=>⟨e,?_⟩;show aO.toInt
noncomputable def DK(v:Nat):zx:=λi u _ _=>∃t,u=ah (aj (v / 2 ^ (7 - i) % 2)) t
theorem DK.back(v:Nat):zx.Back (DK v):=λ_ _ _ _ _ _ h=>h
theorem Qp(v:Nat):zx.DB (DK v):=λ_ _ _ _ _ _ _ _ h=>h
theorem akY{k:Int}(h:(Dm ((8:Nat) - 1:Int) (-1) 8)[i]? =O k):i<8/\k=aj (7 - i):=
 eX (o6.mp h) λh1 h2=>⟨h1,by rw[h2];change _=((7 - i:Nat):Int);lia⟩
theorem agx{v kc:Nat}{cv Ia:ab}{code:aa}{tv:aW}{py p1 p2 p3:aY}{DV:aN}(c:ed L scope [90] [14])(hg:J.globals=ef)(jB:cl.lookup (NM 90)=O cv)(OE:cv∉bY)(hcv:DV.IsCell cv (O (ah (aj v) tv)))(hC:aS∉bY)(qF:cv≠Ia):
 acz (genEnv scope cl aS code fY J) (NM 14) (eu (eu (ar (NM 90) py) LV (ar (NM 14) px) p1) LU (gn (jd 1) kc p3) p2) [cE,cv,Ia] [Ia] (Gj (Dm ((8:Nat) - 1:Int) (-1) 8)) (DK v) DV:=by
 show λA' i u s3 m3 RH hv hn hm hk=>eQ hv λk t hk1 dX=>eX (akY hk1) λhi qD=>bh hcv λo ho hd=>?_;subst dX;subst qD;show(adW (adV (k:=0) c hg jB OE (ct o (hk cv au (by simpa using qF) o ho) hd) hn hC hm) Z Z).mono λy Y qQ=>Mk qQ λe t' hy=>⟨⟨t',hy⟩,e.keeps⟩
end
def jU:bT:=bc (bo (cS 21)) 1
def aaO:aw:=match bc (bo jU) 0 with|yp (O e) _=>e |_=>gn yt 0 ⟨0,0,0,0⟩
def ai1:c9:=match aaO with|lM _ _ L _=>L |_=>bg jU
def NH(v:Nat)(cC P a aS Ia cv:ab)(s Y:ae):Prop:=
 Y.os=s.os/\
 Y.drawn=s.drawn/\
 (∃gs,gs.bare=N/\Y.gens=s.gens.push gs)/\
 (∀b o,b≠P->s.heap.get? b=O o->Y.heap.get? b=O o)/\
 (∃ps,Y.heap.IsCode cC P ps)/\
 (∀b∈[a,aS,Ia],s.heap.get? b=ai)/\
 a≠aS/\
 Ia≠a/\
 (∃o u,s.heap.get? cv=O o/\o.data=oO u)/\
 ∀A':ck,dh A'->lE A' a s.gens.size aS [cE,cv,Ia] [Ia] 8 (DK v) 0 Y
theorem agy{cC P:ab}{v kv kl:Nat}(B:cA s.heap mg mb)(I:dQ mg mb)(bM:A.depth<1000)(r:ER [] s.heap (bg jU) J s.heap G)(hv:cq G 90=O (kv,aT v))(hl:cq G 91=O (kl,aT 8))(kO:J.kindOf (NM 90)=O dw)(o9:J.code=R cC)(OE:cC∉bY)(ou:s.heap.IsCode cC P ps)(hP3:P≠ef)(hPt:QH≠P)(hPs:P≠cE)(W_:∀bm,mg "__builtins__" =O (R bm)->P≠bm)(hPT:P∉bY)(hPc:∀o u,s.heap.get? P=O o->o.data≠oO u)(hq:∀a aS Ia cv Y,NH v cC P a aS Ia cv s Y->Q (R a) Y):T A (aZ aaO J) s Q:=by
 obtain⟨cv,tv,c1,c2,o,c3,c4⟩:=r.adU hv kO;have hc:ed (bg jU) ai1 [90] [14]:=ed.of (rfl);have ai2:cv≠P:=λq=>hPc o _ (q▸c3) c4;show SO (scope:=ai1) B hc (by rw[pU];rw[hv];rfl) (rfl) Z bM o9 hP3 hPt W_ ou hPT r
  (agw B I (by rfl) (by rfl) (aq 91 hl) Z bz r) (λ_=>rfl) OE λit aQ cl code aS a hO e2 hIt jB g=>dU g λg1 g2 g3 g4 _ g6 _ Ϡ=>je Ϡ λg8 g9 g10 g11 _=>l0 hIt λIa St dX hW MX hIn Xd=>?_
 subst dX;have Xd:∀i h,St i h->∃o,h.get? Ia=O o:=λi h st=>bh (Xd i h st) λo e _=>⟨o,e⟩;have k2:∀b o,s.heap.get? b=O o->aQ.heap.get? b=O o:=e2.keeps.elim λh' q=>q.elim λtk q=>q.1▸q.2;have kp:=λb o D e=>g4 b o D (k2 b o e);have hIP:Ia≠P:=λq=>by obtain⟨o,e⟩:=(Bq ou);have e:=hIn▸q.symm▸e;ext
 have nC:s.heap.get? aS=ai:=by
  cases q:s.heap.get? aS with
  |none=>rfl
  |some o=>have:=k2 _ _ q;have this:=g8▸this;ext
 have nA:s.heap.get? a=ai:=by
  cases q:s.heap.get? a with
  |none=>rfl
  |some o=>have:=k2 _ _ q;have this:=g9▸this;ext
 have Hm:=Xd _ _ MX;have hIC:Ia≠aS:=λq=>by obtain⟨o,e⟩:=Hm;have e:=g8▸q▸e;ext
 have lim:=B.lim;have Ϣ:hO.heap.NoLimit:=bh lim λmc wJ ZR=>ct mc (wJ.at' λo e=>kp _ o hPs.symm e) ZR;have nn:∀b,s.heap.get? b=ai->b≠cv/\b≠cE:=λb D=>by
  show⟨λq=>?_,λq=>?_⟩
  .have D:=c3▸q▸D;ext
  .show bh lim λmc i1 _=>eY i1 λo _ _ e _=>?_;have D:=e▸q▸D;ext
 show hq a aS Ia cv hO ⟨g2.trans e2.os,g3.trans e2.drawn,(ct _ Z (by rw[g6,e2.gens])),kp,g1,λb D=>?_,g10,(λq=>by obtain⟨o,e⟩:=Hm;have e:=g9▸q▸e;ext),(kI o _ c3 c4),λA' RH=>?_⟩
 .apply Df D
  .show nA
  .show nC
  .show hIn
 .show e2.gens▸lE.made (x:=14) (n:=7) (DK.back v) g RH hW MX Xd hIP Ϣ Z Z Z bB (λh=>?_) (λb D=>?_) (agx hc r.glob ((jB 90 bB).trans c1) c2 (ct o (kp _ _ ai2 c3) c4) g11 (nn Ia hIn).1.symm)
  .simp only[bu,mX,or_false]at h;rcases h with h|h|h
   .show (nn aS nC).2 h
   .show (nn aS nC).1 h
   .show hIC h.symm
  .apply Df D
   .show bh Ϣ λmc i1 _=>eY i1 λo _ _ e _=>⟨o,e⟩
   .show ⟨o,kp _ _ ai2 c3⟩
   .show dG Hm λo e=>⟨o,g4 _ _ hIP e⟩
def aaP(J:cg)(f c' P' dT:ab)(t8:aW)(fd:bQ)(oc:bj)(s Y:ae):Prop:=
 Y.heap.get? f=O (mL fd)/\
 fd.body=lj (bo jU)/\
 fd.scope=bg jU/\
 fd.params=fo jU/\
 fd.globals=ef/\
 fd.builtins=fY/\
 fd.closure=[]/\
 fd.kwdefaults=aA/\
 fd.defaults=R dT/\
 Y.heap.get? dT=O (cU [ah 8 t8] 0)/\
 fd.code=R c'/\
 Y.heap.get? c'=O oc/\
 Y.heap.IsCode c' P' #[]/\
 Y.heap.get? P'=O (tabObj #[])/\
 Y.heap.CodeRec (R c') fd.qualname/\
 ∀b∈[f,c',P',dT],s.heap.get? b=ai
theorem ai3{c P:ab}{ln:Nat}(B:cA U mg mb)(b0:hJ H U s.heap)(hg:J.globals=ef)(o9:J.code=R c)(hc:c∉bY)(ou:U.IsCode c P #[])(vH:U.TableAt c P #[])(hP:P∈bY)(pg:P∉H)(ku:P∈τ')(nO:∀b∈H,b∈τ'){t8:aW}{nm qn:aP}(hq:∀f c' P' dT fd oc h' tk,aaP J f c' P' dT t8 fd oc s {s with heap:=h',toks:=tk}->hJ τ' s.heap h'->Q (R f) {s with heap:=h',toks:=tk}):
 T A (J8 nm qn (fo jU) (lj (bo jU)) (bg jU) J [ah 8 t8] [] [] pos ln) s Q:=by
 show eX (Pu hc ou vH hP pg b0) λakZ Ou=>vt B.bmod λbm ob hbm Q7 hbT Q8 Q9 Gu BC=>aek Z Z (by(ext):rb (bg jU) J=pure []) bD<|ag<|Tv<|ag<|aB<|ag (Tq o9 (akZ.push _) (Ou.push _) Z λc' h3 tk E hge jA _ Ra Yp ak0=>?_);have hsz:s.heap.objs.size<c':=by rw[dD]at hge;show hge
 have x3:=(hJ.push _ _).trans (W6 hP ku (Ou.push _).2 Yp.2 E);have bg3:h3.Ns J.globals mg:=by show hg.symm▸?_;show B.mg ((b0.up nO).trans x3)
 show ag<|Ea bg3 hbm Q7 (((b0.up nO).trans x3).keep bm _ hbT Q8) Q9 Gu BC<|ag (xM bg3 ?_);simp only[newObj];show ag<|Ao<|aB<|gH ak0 λP' hP' hi ht=>(gv Ra λc2 oc vs2 t2 e2 g2 r21 r22=>?_);obtain rfl:=j7 e2;have kp:∀(o:bj) b o',h3.get? b=O o'->(h3.push o).get? b=O o':=λo b o' e=>a8 _ e;have nw:∀b,s.heap.objs.size<=b->s.heap.get? b=ai:=λb D=>by
  cases q:s.heap.get? b with
  |none=>rfl
  |some o=>show absurd (cn q) (j5.mpr D)
 show hq h3.objs.size c' P' s.heap.objs.size _ oc _ _ ⟨bK _ Z,rfl,rfl,rfl,hg,rfl,rfl,rfl,rfl,kp _ _ _ (E _ _ (λq=>fi (jz B.top b0) (q▸hP)) (bK _ Z)),rfl,kp _ _ _ g2,hi.push _,kp _ _ _ ht.2,(DP c' oc vs2 t2 Z (kp _ _ _ g2) r21 r22),λb D=>?_⟩ (x3.trans (.push _ _));apply tI D
 .show nw _ (gy (fZ hsz jA))
 .show nw _ (gy hsz)
 .show nw _ (gy (by rw[dD]at hP';show hP'))
 .show nw _ (ey _)
theorem PS.ak1(p:PS H U L J aJ bq bA G S s)(hT:gi U)(nO:∀b∈H,b∈τ')(x:z8 τ' s Y)(hL:∀y∈bw,s.heap.get? y.1=ai/\Y.heap.get? y.1=O y.2):PL τ' U L J aJ bq bA G S bw [] Y:=by
 have p':=(p.up nO).Xe x;show gH ((p.up nO).fr) λW r q1 q2=>(⟨(wB W (r.grow x.ext) q1 q2 (λy hy q=>?_)),p'.sg,λy hy=>(XZ ((hL y hy).2) (λq=>?_) (p.mod.mod.new (hL y hy).1) (p.ext.new (hL y hy).1) (λq=>?_)),p'.mod,p'.lD,zk⟩)
 .show oU (r.jj _ q) λ_ _ o' e _=>?_;have e:=((hL y hy).1).symm.trans e;ext
 .show dG (hT _ q) λo e=>(dG (p.ext.there _ o e) λo' e'=>?_);have e':=((hL y hy).1).symm.trans e';ext
 .show bh (bG.mp q) λz hz e=>?_;have:=(p.sg z hz).1;have this:=((hL y hy).1)▸e▸this;ext
theorem aaQ:jU=AY (NM 83) (fo jU) (bo jU) [] ai [] (bg jU) ai (NM 83) jU.pos:=by ext
theorem agz:∃k pos,(fo jU).defaults=[gn (jd 8) k pos]:=qB _ _ Z
theorem adX{c P:ab}(B:cA U mg mb)(hT:gi U)(ak2:L.names.lookup (NM 83)=O dw)(dH:bW G 83=N)(o9:J.code=R c)(hc:c∉bY)(ou:U.IsCode c P #[])(vH:U.TableAt c P #[])(hP:P∈bY)(pg:P∉H)(ku:P∈τ')(nO:∀b∈H,b∈τ')(p:PS H U L J aJ bq bA G S s):
 T A (mV jU J) s (λfl Y=>fl=cJ/\∃f c' P' dT t8 fd oc s1,aaP J f c' P' dT t8 fd oc s s1/\PL τ' U L J aJ bq bA (jm G 83 0 (aX (R f))) S [(f,mL fd),(c',oc),(P',tabObj #[]),(dT,cU [ah 8 t8] 0)] [] Y):=by
 rw[aaQ,exec_def,defaultsOf_eq];show ji agz λkd pd hd=>?_;dsimp only;show hd.symm▸((by(ext):(fo jU).kw_defaults=[])).symm▸((by(ext):annTrees (fo jU) ai J=[])).symm▸ag (jW (ag (cO ?_)));show ag (wpAny_evalAll_consts _ _ _ (λe he=>by obtain rfl:=bJ.mp he;rfl) λvs tk Ϭ=>?_);obtain⟨t8,rfl⟩:∃t8,vs=[ah 8 t8]:=by
  cases vs with
  |nil=>show Ϭ.elim
  |cons v vs=>cases vs with|nil=>obtain⟨⟨t,rfl⟩,_⟩:=Ϭ;show⟨t,rfl⟩|cons _ _=>show Ϭ.2.elim
 show ag<|cO<|aB<|cO<|ai3 (s:={s with toks:=tk}) B p.ext p.er.glob o9 hc ou vH hP pg ku nO λf c' P' dT fd oc h' tk' F x=>dU F λF1 F2 F3 F4 F5 F6 F7 agA=>dU agA λF8 F9 F10 F11 F12 F13 F14 Qq=>eX Qq λF15 F16=>?_;have p2:PL τ' U L J aJ bq bA G S [(f,mL fd),(c',oc),(P',tabObj #[]),(dT,cU [ah 8 t8] 0)] [] {s with heap:=h',toks:=tk'}:=p.ak1 hT nO ⟨x,rfl,rfl,.refl _⟩ λy hy=>by
  apply tI hy
  .show ⟨F16 _ au,F1⟩
  .show ⟨F16 _ au,F12⟩
  .show ⟨F16 _ au,F14⟩
  .show ⟨F16 _ au,F10⟩
 show ag (jW (ag (Ec ((p2.store (aH ak2) dH (.ir _)).wp λ_ Y p3=>aB ⟨rfl,f,c',P',dT,t8,fd,oc,_,⟨F1,F2,F3,F4,F5,F6,F7,F8,F9,F10,F11,F12,F13,F14,F15,F16⟩,p3⟩))))
theorem adY{dT:ab}{t8:aW}(hp:fd.params=fo jU)(hd:fd.defaults=R dT)(hk:fd.kwdefaults=aA)(ht:s.heap.get? dT=O (cU [ah 8 t8] n))(v:aa):
 T A (du fd ⟨[v],[]⟩) s (λbs Y=>Y=s/\bs=([90,91].map NM).zip [v,ah 8 t8]):=by
 show(?_:ax _ _ _ _ _ _);delta du;show hp.symm▸hd.symm▸hk.symm▸ag (aB (ag (jG ht Z ?_)));show aB ⟨rfl,rfl⟩
theorem XQ:bo jU=[bc (bo jU) 0]/\∃pos,bc (bo jU) 0=yp (O aaO) pos:=⟨rfl,_,rfl⟩
theorem adZ{f c' P' dT:ab}{oc:bj}{vs:Array aa}{t8 t tq:aW}{v:Nat}(hh:dh A)(bM:A.depth<900)(B:cA s.heap mg mb)(I:dQ mg mb)(fn:s.heap.get? f=O (mL fd))(h1:fd.body=lj (bo jU))(h2:fd.scope=bg jU)(h3:fd.params=fo jU)(h4:fd.globals=ef)(h5:fd.builtins=fY)(h6:fd.closure=[])(h7:fd.kwdefaults=aA)(h8:fd.defaults=R dT)(h9:s.heap.get? dT=O (cU [ah 8 t8] n))(h10:fd.code=R c')(h11:s.heap.get? c'=O oc)(h12:oc.data=bH vs)(h13:vs[1]? =O (cI fd.qualname tq))(fT:f∉bY)(cT:c'∉bY)(ou:s.heap.IsCode c' P' ps)(hPT:P'∉bY)(hP3:P'≠ef)(hPt:QH≠P')(hPs:P'≠cE)(W_:∀bm,mg "__builtins__" =O (R bm)->P'≠bm)(hq:∀a aS Ia cv s1 Y,(uh s.heap s1.heap)->nW s.gens s1.gens->s1.os=s.os->s1.drawn=s.drawn->NH v c' P' a aS Ia cv s1 Y->Q (R a) Y):
 C A (call (R f) [ah (aj v) t]) s Q:=by
 show zy (H:=[]) (S:=[]) (avs:=[aT v,aT 8]) (F:=[]) [90,91] B (.refl _) (fZ bM bz) (⟨⟨(ct _ fn Z),fT,c',oc,vs,tq,h10,cT,h11,h12,h13⟩,h1,h2,h3,h4,h5,h6,h7⟩) Z Z Z (adY h3 h8 h7 h9 _) (eg [] [] (.ofInt _ t) (eg [] [] (.ofInt _ t8) .nil)) aK Z aK (zk) λaQ bw p=>?_;have k2:=λb o e=>if D:b∈bY then p.ext.quiet b o D (λq=>kJ q) e else p.ext.keep b o D e
 show dG XQ.2 λpos hr=>XQ.1.symm▸hr.symm▸cR (uS (xE ?_));show agy (p.base B) I au p.pl.erE Z Z (by change fd.scope.names.lookup _=_;rw[h2];rfl) h10 cT (ou.keeps k2) hP3 hPt hPs W_ hPT (λo u e=>?_) λa aS Ia cv Y M=>hq a aS Ia cv aQ Y k2 p.mod.gens p.mod.os p.mod.drawn M;show FT (mw (ou.keeps k2)) λ_ _ op _ i8 i9 _=>aV (i8.symm.trans e)▸i9.symm▸nofun
noncomputable def Af(v i:Nat):Nat:=v / 2 ^ (7 - i) % 2
def Apart(bp a0 a aS Ia cv:ab):Prop:=
 bp≠a0/\
 bp≠a/\
 bp≠aS/\
 bp≠Ia/\
 bp≠cv/\
 bp≠cE/\
 a0≠a/\
 a0≠aS/\
 a0≠Ia/\
 a0≠cv/\
 a0≠cE/\
 a≠aS/\
 a≠Ia/\
 cE≠aS/\
 cE≠Ia
inductive ai4(A:ck)(a:ab)(g:Nat)(aS Ia cv a0 bw:ab)(v:Nat)(QE:List aa)(s:ae)(k:Nat)(Y:ae):Prop
 |mk (i:Nat) (m':aP->Option aa) (ys:List aa) (n:Nat) (e:k=9 - i) (hi:i<=8) (g1:lE A a g aS [cE,cv,Ia] [Ia] 8 (DK v) i Y) (ns:Y.heap.Ns bw m') (d:Y.heap.get? a0=O (br (QE++ys) n)) (ia:fh ys (lx (Af v) i)) (t:Tg g [bw,a0,aS,Ia] s Y)
section
variable{Ia cv bp a0:ab}
theorem Zw{d v:Nat}{p1 p2:aY}{cenv:cg}{m0:aP->Option aa}{QE:List aa}{c0:Nat}(h1:gens[d]? =O ⟨ar (NM 19) p2,iter,[],0⟩)(h2:gens[d+1]? =ai)(hh:dh A)(bM:A.depth<1000)(X:Apart bp a0 a aS Ia cv)(afG:cenv.locals=bp)(zq:cenv.scope.kind=d0)(hk:cenv.kindOf (NM 19)=O cZ)(hg:lE A a g aS [cE,cv,Ia] [Ia] 8 (DK v) 0 s)(wJ:s.heap.Ns bp m0)(ot:s.heap.get? a0=O (br QE c0))(dM:QE.length<=10000)(hR:∀Y ys n m',Tg g [bp,a0,aS,Ia] s Y->Y.heap.get? a0=O (br (QE++ys) n)->fh ys (lx (Af v) 8)->Y.heap.Ns bp m'->aM (cf cJ) Y):
 CC A (hb (cP (ar (NM 19) p1) gens scope pos) d (R a) (R a0) cenv) s aM:=by
 show dU X λX1 X2 X3 X4 X5 X6 X7 ak3=>dU ak3 λX8 X9 X10 X11 X12 X13 X14 X15=>?_;subst afG;show ua h1 h2 (ai4 A a g aS Ia cv a0 cenv.locals v QE s) ?_ 9
  ⟨0,m0,[],c0,rfl,fg _,hg,wJ,by rw[yd];show ot,qw,.refl _ _ _⟩
 intro k Y Kp P1 P2 P3 P4 Kh H0 H1 H2 H3 _ H4 ⟨i,m',ys,n,dX,hi,g1,ns1,d1,ia,t1⟩;have hKx:=Mn X3 X4;have hDx:=Mn X8 X9;rcases AQ hi with jA|rfl
 .show g1.next bM jA X12 (λq=>X13 (bJ.mp q)) X14 (λq=>X15 (bJ.mp q)) (Qp v) λu s1 qQ g2 t2 _=>dG qQ λt hu=>hu▸H1 _ _ (C.eq Z (cR (jE (sC hk (ns1.at' λo e=>t2.keep _ o hKx e) (λh3 ns3 zF=>H2 _ (uM (H3 _ ?_))) (by show zq.symm▸?_;rfl)))));show cR (qZ (xA (v:=ah (aj (Af v i)) t) zq hk ns3 (if_pos Z) ?_) (wD 19));have hly:ys.length=i:=by have:=ia.length;simpa[lx] using this
  show H4 _ _ (cR (Aj (items:=(QE++ys).toArray) ⟨n,zF.extBut _ _ (eO X1) (t2.keep _ _ hDx d1)⟩ (λh4 qQ IZ=>dG qQ λn4 e4=>?_) (by have:fc=16777216:=jX;simp;lia)));have t4:∀tk,Tg g [cenv.locals,a0] s1 {s1 with heap:=h4,toks:=tk}:=λtk=>.heap λb o D e=>Dg D λh1 h2=>IZ.extBut _ _ h2 (zF.extBut _ _ h1 e);show Kh (9 - (i+1)) _ (dX▸rx (ff jA bz) (jb i)) ⟨i+1,_,ys++[ah (aj (Af v i)) t],n4,rfl,jA,g2.frame (iz ..) (λb D o e=>(t4 0).keep b o (λq=>rY (P:=λb=>b∈[a,aS,cE,cv,Ia]->False) q (agQ X2 X3 X6 X5 X4) (agQ X7 X8 X11 X10 X9) D) e),ns3.at' λo e=>IZ.extBut _ o X1 e,?_,?_,(t1.trans t2 λd hd=>ao (dF _ (dF _ hd))).trans (t4 _) λd hd=>ao (bf (bu.mp hd) (λq=>q▸cQ ..) λq=>bZ _ (bJ.mp q▸cQ ..))⟩
  .rw [e4];simp[br]
  .rw [Cf];show ia.append (yB _ _ qw)
 .show cR<|g1.done hh bM λs2 t2=>H0 _ (hR s2 ys n m' (t1.trans t2 λd hd=>ao (dF _ (dF _ hd))) (t2.keep _ _ hDx d1) ia (ns1.at' λo e=>t2.keep _ o hKx e))
end
noncomputable def bare:AV->Bool
 |tJ|fG _|a9 _|aX _=>N
 |_=>af
def Qr(G:ig):Bool:=G.all λy=>bare y.2.2
def Ag(o:bj):Prop:=∀u,o.data≠oO u
structure Tk(X:List ab)(s Y:ae):Prop where
 keep:∀b o,b∉X->s.heap.get? b=O o->Y.heap.get? b=O o
 os:Y.os=s.os
 drawn:Y.drawn=s.drawn
 gens:nW s.gens Y.gens
section
variable{gh:List ab}
theorem ad0(h:Qr G=N)(e:cq G x=O (k,av)):bare av=N:=mW.mp h _ (BA e)
theorem bR.bare(D:bare av=N)(aO:bR h av v F):bR h' av v []/\F=[]:=by cases av<;>first|show⟨⟨aO.1,rfl⟩,aO.2⟩|show Ip (by assumption)
theorem Tk.refl(X:List ab)(s:ae):Tk X s s:=⟨λ_ _ _ e=>e,rfl,rfl,.refl _⟩
theorem Tk.trans{a b c:ae}(x:Tk X a b)(y:Tk gh b c)(h:∀d∈gh,d∈X\/a.heap.get? d=ai):Tk X a c where
 keep:=λd o hd e=>y.keep d o (λq=>(h d q).elim hd λh=>by have e:=h.symm.trans e;ext) (x.keep d o hd e)
 os:=y.os.trans x.os
 drawn:=y.drawn.trans x.drawn
 gens:=y.gens.trans x.gens
protected theorem dz.tk(e:dz [] s Y):Tk X s Y:=⟨λb o _ q=>e.keeps.elim λ_ z=>z.elim λ_ z=>z.1▸z.2 b o q,e.os,e.drawn,.of e.gens⟩
theorem Tk.heap{tk:Nat}(k:∀b o,b∉X->s.heap.get? b=O o->h'.get? b=O o):Tk X s {s with heap:=h',toks:=tk}:=⟨k,rfl,rfl,.refl _⟩
theorem FR.ak4(r:FR H U U L J h G W)(hG:Qr G=N)(x:hJ H U h')(keep:∀b o,b∉X->b∉bY->h.get? b=O o->h'.get? b=O o)(hw:∀b∈X,(∃o,h.get? b=O o/\Ag o)/\b∉W):FR H U U L J h' G W:=by
 have kW:=λb hb' o e=>keep b o (λq=>(hw b q).2 hb') (r.jj b hb').2.1 e;have kC:∀c v,c∉bY->h.IsCell c v->h'.IsCell c v:=λc v ht qQ=>bh qQ λo e d=>⟨o,keep c o (λq=>by show eX (hw c q) λi1 _=>bh i1 λo' e' d'=>?_;rw[e]at e';obtain rfl:=aV e';show d' _ d) ht e,d⟩
 have kN:∀m,h.Ns J.locals m->h'.Ns J.locals m:=λm qQ=>eY qQ λo es ep e q=>Bm o es ep (kW _ r.loc o e) q;show⟨.refl _,x,r.scope,r.kind,r.glob,r.bi,r.loc,r.ns.imp kN,λy hy=>lZ (r.cell y hy) λc a i1 d e=>dG i1 λv b=>wB c a ⟨v,kC c v d b⟩ d e,r.pT,λb hb'=>oU (r.jj b hb') λp q o e m=>⟨p,q,o,kW b hb' o e,m⟩,?_⟩;show ji r.ents λval fp q=>((qB val (λ_=>[]) (λy k av e=>?_)));show mA (q y k av e) λa b _ _=>(⟨?_,(b.bare (ad0 hG e)).1,λ_=>⟨rL,λz hz=>kJ hz⟩,λ_ z hz=>kJ hz⟩);show bf a (λi0=>iN i0 λk1 m n e1=>ao ⟨k1,m,kN m n,e1⟩) λi0=>oW i0 λk1 c' e1 e2 e3=>aH ⟨k1,c',e1,e2,kC _ _ e2 e3⟩
theorem PL.aeH(p:PL H U L J aJ bq bA G S bw Gs s)(hG:Qr G=N)(hT:gi U)(k:Tk X s Y)(hX:∀b∈X,∃o,(b,o)∈bw/\Ag o)(hL:∀y∈L',(y.1∈bw.map (·.1)\/s.heap.get? y.1=ai)/\Y.heap.get? y.1=O y.2):PL H U L J aJ bq bA G S L' [] Y:=
 p.aeu hT k.keep k.os k.drawn (k.gens.trans p.mod.gens) (λb D=>bh (hX b D) λo ho _=>⟨o,ho⟩) hL (zk) λ_ r hn x'=>r.ak4 hG x' (λb o D _ e=>k.keep b o D e) λb D=>bh (hX b D) λo ho hm=>⟨⟨o,(p.lg _ ho).1,hm⟩,(hn b D).2⟩
end
section
variable{dA:ig}{K:LN}
def HNm(K:LN)(m:aP->Option aa)(h:aN)(dA:ig):Prop:=∀y k av,cq dA y=O (k,av)->y∈K/\∃v F,m (NM y)=O v/\bR h av v F
theorem HNm.nil:HNm K m h []:=λ_ _ _ e=>Bk e
theorem XR(E:x∈K)(hm:m (NM x)=O v)(aO:bR h av v F)(r:HNm K m h dA):HNm K m h ((x,0,av)::dA):=λy k mx e=>by
 dsimp only[cq]at e;show boC (x.beq y) (λq=>?_) λq=>?_
 .replace e:=q▸e;show XY (aV e) λa1 a2=>?_;subst a1;subst a2;show KU q▸⟨E,v,F,hm,aO⟩
 .have e:=q▸e;show r y k mx e
theorem SP{b:ab}(p:h.get? a=ai)(q:h.get? b=ai):∀d∈[a,b],d∈X\/h.get? d=ai:=λd hd=>rY (P:=λd=>d∈X\/h.get? d=ai) hd (aH p) (aH q)
theorem Cp(c:ed L scope fs K)(r:ER H U L J h G)(jB:∀y∈fs,cl.lookup (NM y)=J.cells.lookup (NM y))(n:h.Ns aS m)(hC:aS∉bY)(hN:HNm K m h dA):
 ER H U scope (ju scope cl aS J) h (dA++lB G fs) where
 base:=r.base
 kind:=c.kind
 gl:=λ_ hy=>Ym hy nofun
 Wh:=λ_ hy=>hy.elim (λh=>ao (Ym h nofun)) abP
 glob:=r.glob
 bi:=r.bi
 loc:=hC
 has:=λy k av e=>(Oc e).elim (λe=>FQ (hN y k av e) λh1 v F h2 h3=>kI v F (ao ⟨Ym (c.locs y h1) nofun,m,n,h2⟩) h3) λe=>r.agY c (.refl _) jB (λy h=>abP (c.frees y h).1) e
theorem Qs{gs:List sF}(c:ed L scope fs K)(jB:rb scope J=pure cl)(hs:Fs iter J)(h:C A (aZ iter J) s (λx aD=>C A (gm x) aD (λit aQ=>QH<=aQ.heap.objs.size/\(∀(A':ck) fq (Q:aa->ae->Prop),Tk [] aQ fq->Q it fq->C A' (gm it) fq Q)/\
 ∀a0 bp fq,Tk [] aQ fq->aQ.heap.get? a0=ai->aQ.heap.get? bp=ai->a0≠bp->bp∉bY->fq.heap.get? a0=O (br [] 0)->fq.heap.Ns bp (λ_=>ai)->
  CC (A.mark ai) (hb (cP elt (⟨cu,iter,ifs,0⟩::gs) scope pos) 0 it (R a0) (ju scope cl bp J)) fq (λr Y=>match r with|cf _=>∃m,Y.heap.Ns bp m/\∀h',gw bp Y.heap h'->Q (R a0) {Y with heap:=h'} |kY _=>False)))):
 C A (aZ (cP elt (⟨cu,iter,ifs,0⟩::gs) scope pos) J) s Q:=by
 show PO c Z hs jB<|h.mono λx aD U=>C.mono U λit aQ kq a0 bp h3 tk _ lK k0 nD nK NZ gD gK=>have t:Tk [] aQ {aQ with heap:=h3,toks:=tk}:=.heap λb o _=>k0 b o;have loop:=kq.2.2 a0 bp _ t nD nK NZ (fi (ba kq.1 lK)) gD gK;pI Z loop (kq.2.1 _ _ _ t loop)
end
section
variable{dA:ig}{nl:Nat}{l:ab}{p1 p2 p3 p4 np2 np3 PU ak5:aY}
protected theorem Tk.x(t:Tk [] s Y):hJ H s.heap Y.heap:=.of_keep λb o e=>t.keep b o (λq=>kJ q) e
theorem ER.re(e:ER H U L J h G):ER [] h L J h G:=⟨.refl _,e.kind,e.gl,e.Wh,e.glob,e.bi,e.loc,e.has⟩
inductive ak6(bp a0 bw l:ab)(ns:LN)(s:ae)(n:Nat)(Y:ae):Prop
 |start (m:aP->Option aa) (t:Tk [] s Y) (nn:Y.heap.Ns bp m) (e:n=1) (li:Y.heap.IsListIter bw l 0) (d:Y.heap.get? a0=O (br [] 0))
 |over (m:aP->Option aa) (tk:aW) (c:Nat) (t:Tk [] s Y) (nn:Y.heap.Ns bp m) (li:Y.heap.IsListIter bw l 1) (d:Y.heap.get? a0=O (br [ah (aj ns.length) tk] c))
theorem ad1(c:ed L scope [] [93])(dM:Gi scope "len")(hh:dh A)(B:cA s.heap mg mb)(I:dQ mg mb)(r:ER [] s.heap L J s.heap G)(hy:cq G y=O (k,aX (R l)))(hl:s.heap.get? l=O (br [R d] nl))(hd:s.heap.get? d=O (kB ns))(YR:d∉bY)(ou:lY ns)(hq:∀a0 Y t c,Tk [] s Y->s.heap.get? a0=ai->Y.heap.get? a0=O (br [ah (aj ns.length) t] c)->Q (R a0) Y):
 C A (aZ (cP (bI (ar (aC "len") np) [ar (NM 93) p1] [] p2) [⟨ar (NM 93) p3,ar (NM y) p4,[],0⟩] scope pos) J) s Q:=by
 show og λgG kG=>bh (c.Ol r Z) λcl jB wM=>kG ?_;clear kG gG;show Qs c jB (λ_=>rfl) (Lake.T.wcV (v9 r hy) λv F aO=>?_);apply bR.FX aO;have hnl:s.heap.get? s.heap.objs.size=ai:=bF _;show cR (uR (bX hl) (gS ?_ (λA' fq Q t hQ=>cR (Tf (l:=l) (i:=0) ⟨_,t.keep _ _ (λq=>kJ q) (bK _ Z),rfl,rfl⟩ hQ)) (λa0 bp fq t hD hK NZ hKT ot wJ=>?_)))
 .rw [dD];show ql (jz (H:=[]) B.top (.refl _))
 have t1:Tk [] s {s with heap:=s.heap.push {cls:=ak "list_iterator",data:=bH #[R l,ah 0 0]}}:=.heap (tk:=s.toks) λb o _ e=>a8 _ e;have hDL:a0≠s.heap.objs.size:=λq=>by rw[q,bK _ Z]at hD;ext
 have hKL:bp≠s.heap.objs.size:=λq=>by rw[q,bK _ Z]at hK;ext
 have nD:s.heap.get? a0=ai:=(Tk.x (H:=[]) t1).new hD;have nK:s.heap.get? bp=ai:=(Tk.x (H:=[]) t1).new hK;have li0:fq.heap.IsListIter s.heap.objs.size l 0:=kH _ (t.keep _ _ (λq=>kJ q) (bK _ Z)) Z Z;generalize s.heap.objs.size=bw at *;show ua Z Z (ak6 bp a0 bw l ns s) ?_ 1 (.start _ (t1.trans t (zk)) wJ Z li0 ot);rintro n Y Kp P1 P2 P3 P4 Kh H0 H1 H2 H3 _ H4 (⟨m,t2,Pw,n1,li,d2⟩|⟨m,tk,cc,t2,Pw,li,d2⟩)
 .show cR<|JM li (bX (t2.keep _ _ (λq=>kJ q) hl)) (x:=R d) Z λh3 li3 zF=>H1 _ _ (C.eq (a:=()) Z (cR (jE (sC (xC (c.locs 93 (bJ.mpr Z))) (Pw.at' λo e=>zF.extBut _ o hKL e) (λh4 Zx IZ=>H2 _ (uM (H3 _ ?_))) (by rw[show(jw scope J).kind=d0 from c.kind];rfl:((jw scope J).kind== .class ||((jw scope J).kind== .module && bp != J.globals))=af)))));have t4:∀tk,Tk [] s {Y with heap:=h4,toks:=tk}:=λtk=>t2.trans (gh:=[bw,bp]) (.heap λb o D e=>Dg D λh1 h2=>IZ.extBut _ _ h2 (zF.extBut _ _ h1 e)) (SP hnl nK);show Lake.T.wcI (uI (H:=[]) (fr:=N) (e:=ar (NM 93) p1) (B.ext ((t4 0).x (H:=[]))) I dM ((t4 0).keep _ _ (λq=>kJ q) hd) YR ou (aq (k:=0) _ Z) Z (Cp (dA:=[(93,0,aX (R d))]) c (r.ext (t4 0).x).re wM Zx hKT (XR (bJ.mpr Z) (if_pos Z) (.ir _) HNm.nil))) λt6 s5 e5=>have t5:=e5.tk (X:=[]);H4 _ _ (cR (Aj (items:=#[]) ⟨0,t5.keep _ _ (λq=>kJ q) (IZ.extBut _ _ NZ (zF.extBut _ _ hDL d2))⟩ (λh7 q sb7=>dG q λn7 e7=>?_) (by have:fc=16777216:=jX;simp)));show Kh 0 _ (n1▸ym) (.over _ t6 n7 (((t4 _).trans t5 zk).trans (gh:=[a0]) (.heap (tk:=s5.toks) λb o D e=>sb7.extBut _ _ (λq=>D (bJ.mpr q)) e) λb D=>aH (bJ.mp D▸nD)) (Zx.at' λo e=>sb7.extBut _ _ (eO NZ) (t5.keep _ _ (λq=>kJ q) e)) ?_ e7);show(li3.at λo e=>IZ.extBut _ _ (eO hKL) e).at λo e=>sb7.extBut _ _ (eO hDL) (t5.keep _ _ (λq=>kJ q) e)
 .show cR<|JP hh li (bX (t2.keep _ _ (λq=>kJ q) hl)) Z λh3 zF=>H0 _ (ct m (Pw.at' λo e=>zF _ o hKL e) (λh4 IZ=>hq a0 _ tk cc ?_ nD (IZ.extBut _ _ NZ (zF _ _ hDL d2))));show t2.trans (gh:=[bw,bp]) (.heap (tk:=Y.toks) λb o D e=>Dg D λh1 h2=>IZ.extBut _ _ h2 (zF _ _ h1 e)) (SP hnl nK)
theorem Qt(c:ed L scope [] [93])(dM:Gi scope "len")(hr:Gi L "range")(hm:Gi L "max")(hh:dh A)(B:cA s.heap mg mb)(I:dQ mg mb)(r:ER [] s.heap L J s.heap G)(hy:cq G y=O (k,aX (R l)))(hl:s.heap.get? l=O (br [R d] nl))(hd:s.heap.get? d=O (kB ns))(YR:d∉bY)(ou:lY ns)(hq:∀rr Y t u v,Tk [] s Y->qg Y.heap rr 0 (ns.length:Int) 1 t u v->Q (R rr) Y):
 C A (aZ (bI (ar (aC "range") np2) [bI (ar (aC "max") np3) [cP (bI (ar (aC "len") np) [ar (NM 93) p1] [] p2) [⟨ar (NM 93) p3,ar (NM y) p4,[],0⟩] scope pos] [] PU] [] ak5) J) s Q:=by
 have hR:=I ("range",ak "range") aK;have hM:=I ("max",bx "max") aK;show fU<|Lake.T.wW (ez B r hr hR.1 hR.2 (rfl))<|dg (rfl) ?_;rw[l4 (rfl)];show ej<|cx<|fU<|Lake.T.wW (ez B r hm hM.1 hM.2 (rfl))<|dg (rfl) ?_;rw[l4 (rfl)];show ej (cx (ad1 c dM hh B I r hy hl hd YR ou λa0 s3 t3 c3 t hD hd3=>c8 (lU ⟨rfl,?_⟩)));have hIL:=bX hd3;show cR (call_max_walkS (uR hIL ⟨_,_,_,_,_,_,_,_,rfl,(VQ (A:=A.in1) hh s3.heap.objs.size a0 (fB (cn hd3)) #[ah (aj ns.length) t3]).toS,⟨(kH _ (bK _ Z) Z Z),hIL.at λo e=>a8 _ e⟩,λb D=>?_,ym,CmpOf.ints_gt (λ_=>aj ns.length) (λi v e=>?_),λv s4 hv m4=>?_⟩))
 .rw [show({s3 with heap:=s3.heap.push _}:ae).heap.objs.size=s3.heap.objs.size+1 from dD ..];apply rY D
  .show jb _
  .show kV (cn hd3)
 .cases i with
  |zero=>show aV e▸?_;show DN t3 Z
  |succ i=>ext
 .show aV hv▸c8 (iG ⟨rfl,cR (sH (hq _ _ _ _ _ ?_ (bK _ Z)))⟩);show(t.trans ⟨λb o _ e=>m4.heap b o (λq=>absurd (cn e) (by rw[bJ.mp q];show gx _)) (a8 _ e),m4.os,m4.drawn,.of m4.gens⟩ zk).trans (Tk.heap (X:=[]) (s:=s4) (tk:=s4.toks+1+1) λb o _ e=>a8 _ e) zk
end
section
variable{mg mb:aP->Option aa}{s1 s2:ae}
theorem Apart.of{cC P bp a0 Ia cv:ab}{v:Nat}{oK oD:bj}(M:NH v cC P a aS Ia cv s1 s2)(hK:s1.heap.get? bp=O oK)(cK:Ag oK)(hD:s1.heap.get? a0=O oD)(cD:Ag oD)(hKD:bp≠a0)(hl:∃o,s1.heap.get? cE=O o)(sK:bp≠cE)(sD:a0≠cE):Apart bp a0 a aS Ia cv:=by
 show dU M λ_ _ _ _ _ M6 M7 afa=>hx afa λM8 M9 _=>?_;have nw:∀b∈[a,aS,Ia],∀x o,s1.heap.get? x=O o->x≠b:=λb D x o e q=>by have e:=(M6 b D)▸q▸e;ext
 show eQ M9 λoc u e1 e2=>(dG hl λos es=>?_);have nc:∀x o,s1.heap.get? x=O o->Ag o->x≠cv:=λx o e n q=>by replace e:=e1▸q▸e;obtain rfl:=aV e;show n _ e2
 have na:=nw a (iz ..);have nC:=nw aS (dF _ (iz ..));have nI:=nw Ia (dF _ (dF _ (iz ..)));show⟨hKD,na _ _ hK,nC _ _ hK,nI _ _ hK,nc _ _ hK cK,sK,na _ _ hD,nC _ _ hD,nI _ _ hD,nc _ _ hD cD,sD,M7,eO M8,nC _ _ es,nI _ _ es⟩
end
section
variable(mg mb:aP->Option aa)(L:c9)(J:cg)(G:ig)(l d f c' P':ab)(ns:LN)
def BCy(s:ae):Prop:=
 (∃fd,s.heap.get? f=O (mL fd))/\
 ∀(A':ck) v t (Q:aa->ae->Prop),dh A'->A'.depth<900->(∀a aS Ia cv s1 s2,Tk [] s s1->NH v c' P' a aS Ia cv s1 s2->Q (R a) s2)->C A' (call (R f) [ah (aj v) t]) s Q
def BCx(s:ae):Prop:=
 cA s.heap mg mb/\
 ER [] s.heap L J s.heap G/\
 (∃nl,s.heap.get? l=O (br [R d] nl))/\
 s.heap.get? d=O (kB ns)/\
 BCy f c' P' s
def JG(bp a0 bw:ab)(sB:ae):Prop:=
 (sB.heap.get? bw=ai/\
 bp≠bw/\
 a0≠bw/\
 bw≠P'/\
 c'∉[bw,bp,a0])/\
 sB.heap.get? bp=ai/\
 sB.heap.get? a0=ai/\
 bp≠a0/\
 bp≠P'/\
 a0≠P'/\
 bp∉bY/\
 bp≠cE/\
 a0≠cE
end
section
variable{mg mb:aP->Option aa}{L:c9}{J:cg}{G:ig}{l d f c' P':ab}{ns:LN}{sB:ae}
theorem Dc{bp:ab}(n:h.Ns bp m):∃o,h.get? bp=O o/\Ag o:=
 eY n λo es ep e q=>ct o e (λu hd=>by have hd:=q.1▸hd;ext)
theorem JH{z:Nat}{p:Nat×AV}(hz:z∈fs)(e:cq G z=O p):cq (lB G fs) z=O p:=by
 induction fs with
 |nil=>ext
 |cons y fs ih=>
  unfold lB;by_cases q:y=z
  .subst q;rw[e];simp[cq]
  .have hz:=(bu.mp hz).resolve_left (eO q);cases cq G y with|none=>show ih hz|some x=>simp[cq,Mf,q,ih hz]
theorem qd{c P:ab}(q:h.IsCode c P ps)(k:∀b o,b∉X->h.get? b=O o->h'.get? b=O o)(hc:c∉X)(hP:P∉X):h'.IsCode c P ps:=Fw q (λ_=>k _ _ hc) λ_=>k _ _ hP
theorem Tk.none{b:ab}(t:Tk X s Y)(D:b∉X)(e:Y.heap.get? b=ai):s.heap.get? b=ai:=by
 cases q:s.heap.get? b with
 |none=>rfl
 |some o=>have e:=(t.keep _ _ D q)▸e;ext
def Ii(y:Nat)(p:Nat->aY)(it0:aw):List sF:=[⟨ar (NM 92) (p 0),it0,[],0⟩,
 ⟨ar (NM 93) (p 1),ar (NM y) (p 2),[j0 (ar (NM 92) (p 3)) [FE] [bI (ar (aC "len") (p 4)) [ar (NM 93) (p 5)] [] (p 6)] (p 7)],0⟩,
 ⟨ar (NM 19) (p 8),bI (ar (NM 83) (p 9)) [dk (ar (NM 93) (p 10)) (ar (NM 92) (p 11)) (p 12)] [] (p 13),[],0⟩]
inductive ak7(l c' P' bp a0 bw:ab)(v i:Nat)(tk:aW)(QE:List aa)(c0:Nat)(s:ae)(n:Nat)(Y:ae):Prop
 |start (m:aP->Option aa) (t:Tk [bw,bp,a0,P'] s Y) (c:∃ps,Y.heap.IsCode c' P' ps) (ns:Y.heap.Ns bp m) (e:n=1) (hm:m (NM 92)=O (ah (aj i) tk)) (li:Y.heap.IsListIter bw l 0) (d:Y.heap.get? a0=O (br QE c0))
 |over (m:aP->Option aa) (ys:List aa) (nd:Nat) (t:Tk [bw,bp,a0,P'] s Y) (c:∃ps,Y.heap.IsCode c' P' ps) (ns:Y.heap.Ns bp m) (li:Y.heap.IsListIter bw l 1) (d:Y.heap.get? a0=O (br (QE++ys) nd)) (ia:fh ys (lx (Af v) 8))
theorem aaR{bp a0 bw:ab}{kf v:Nat}{p:Nat->aY}{p1:aY}{it0:aw}{m0:aP->Option aa}{QE:List aa}{c0:Nat}{tk:aW}(hh:dh A)(bM:A.depth<900)(I:dQ mg mb)(c:ed L scope [y,83] [92,93,19])(dM:Gi scope "len")(jB:∀z∈[y,83],cl.lookup (NM z)=J.cells.lookup (NM z))(hf:cq G 83=O (kf,aX (R f)))(ou:lY ns)(YR:d∉bY)(hv:ns[i]? =O v)(cB:∀Y,Tk [P'] sB Y->(∃ps,Y.heap.IsCode c' P' ps)->BCx mg mb L J G l d f c' P' ns Y)(X:JG c' P' bp a0 bw sB)(tB:Tk [P'] sB s)(hc:∃ps,s.heap.IsCode c' P' ps)(hL:s.heap.IsListIter bw l 0)(wJ:s.heap.Ns bp m0)(hm:m0 (NM 92)=O (ah (aj i) tk))(ot:s.heap.get? a0=O (br QE c0))(ai5:QE.length<=10000)(hR:∀Y ys n m',Tk [bw,bp,a0,P'] s Y->(∃ps,Y.heap.IsCode c' P' ps)->Y.heap.get? a0=O (br (QE++ys) n)->fh ys (lx (Af v) 8)->Y.heap.Ns bp m'->aM (cf cJ) Y):
 CC A (hb (cP (ar (NM 19) p1) (Ii y p it0) scope pos) 1 (R bw) (R a0) (ju scope cl bp J)) s aM:=by
 show eX X λXa Xb=>je Xa λXa1 Xa2 Xa3 Xa4 Xa5=>dU Xb λXb1 Xb2 Xb3 Xb4 Xb5 Xb6 Xb7 Xb8=>?_;have E:∀z∈[92,93,19],(jw scope J).names.lookup (NM z)=O cZ:=λz hz=>xC (c.locs z hz);have tB':∀{Y},Tk [bw,bp,a0,P'] s Y->Tk [P'] sB Y:=λt=>tB.trans t λb D=>by
  apply tI D
  .show aH Xa1
  .show aH Xb1
  .show aH Xb2
  .show ao (iz ..)
 show HH Z Z (λ_=>rfl) (ak7 l c' P' bp a0 bw v i tk QE c0 s) ?_ 1 (.start m0 (.refl _ _) hc wJ Z hm hL ot);rintro n Y Kp P1 P2 P3 P4 P5 P6 Kh H0 H1 H2 H3 _ H4 H5 H6 (⟨m,t2,c2,Pw,n1,hm2,li,d2⟩|⟨m,ys,nd,t2,c2,Pw,li,d2,ia⟩)
 .show dG ((cB _ (tB' t2) c2).2.2.1) λnl hls=>cR<|JM li (bX hls) (x:=R d) Z λh3 li3 zF=>H1 _ _ (C.eq Z (cR (jE (sC (E 93 aK) (Pw.at' λo e=>zF.extBut _ o Xa2 e) (λh4 Zx IZ=>H2 _ (Y6 ?_)) (by rw[show(jw scope J).kind=d0 from c.kind];rfl:((jw scope J).kind== .class ||((jw scope J).kind== .module && bp != J.globals))=af)))));have t34:∀tk,Tk [bw,bp] Y {Y with heap:=h4,toks:=tk}:=λtk=>.heap λb o D e=>Dg D λh1 h2=>IZ.extBut _ _ h2 (zF.extBut _ _ h1 e);have t4:∀tk,Tk [bw,bp,a0,P'] s {Y with heap:=h4,toks:=tk}:=λtk=>t2.trans (t34 tk) λb D=>by apply rY D<;>show ao au
  have c4:∃ps,h4.IsCode c' P' ps:=c2.imp λps q=>qd q (t34 0).keep (FV Xa5 λh1 h2 _=>Mn h1 h2) (Mn Xa4.symm Xb4.symm);have F4:=cB _ (tB' (t4 (Y.toks+1))) c4;have r4:=Cp c F4.2.1 jB Zx Xb6 (XR (nme Z) ((if_neg (λq=>absurd (Cv q) (uf Z))).trans hm2) (.ofInt _ tk) (XR aK (if_pos Z) (.ir _) HNm.nil));show T.wx (mz .lt (aq _ Z) (uI F4.1 I dM F4.2.2.2.1 YR ou (aq _ Z) Z) r4) λb s5 qQ=>eX qQ λe5 D=>?_;rw[D,show gT .lt (aj i) (aj ns.length)=N from decide_eq_true (sQ.mpr ((dR.mp hv).1))];show H3 _<|have r5:=(r4.ext e5.ext).re;have t5:=(t4 _).trans (e5.tk (X:=[])) zk;have c5:∃ps,s5.heap.IsCode c' P' ps:=dG c4 λps q=>⟨ps,q.keeps λb o e=>(e5.tk (X:=[])).keep b o (λq=>kJ q) e⟩;have F5:=cB _ (tB' t5) c5;fU (T.wW (ui r5 (k:=kf) (u:=R f) ?_) ?_)
  .show JH au hf
  show dG F5.2.2.2.2.1 λfd hfd=>pE (mL fd) fd<|ej (cx (T.wcE (B1 (fr:=N) F5.2.2.2.1 YR ou (aq 93 Z) (aq 92 Z) hv Z r5) λu s7 F7 e7 V7 _=>c8 ?_));apply bR.zI V7;intro t8;have t67:Tk [] s5 s7:=e7.tk;have t7:=t5.trans t67 zk;have c7:=dG c5 λps q=>DN ps (q.keeps λb o e=>t67.keep b o (λq=>kJ q) e);have F7:=cB _ (tB' t7) c7;show⟨⟨t67.keep _ _ (λq=>kJ q) hfd,rfl⟩,F7.2.2.2.2.2 A v t8 _ hh bM λa aS Ia cv s8 s9 t8 M=>dU M λM1 M2 M3 M4 M5 M6 _ ak8=>hx ak8 λ_ _ M10=>H4 _ _ ?_⟩;have t48:Tk [] {Y with heap:=h4,toks:=Y.toks+1} s8:=((e5.tk).trans t67 λ_ h=>nomatch h).trans t8 λ_ h=>nomatch h;have g9:=λA' RH=>M10 A' RH;have ns8:s8.heap.Ns bp _:=Zx.at' λo e=>t48.keep _ _ (λq=>kJ q) e;have d8:s8.heap.get? a0=O (br QE c0):=t48.keep _ _ (λq=>kJ q) ((λb o q1 q2 e=>IZ.extBut _ _ q2 (zF.extBut _ _ q1 e):∀b o,b≠bw->b≠bp->Y.heap.get? b=O o->h4.get? b=O o) _ _ Xa3 Xb3.symm d2);have li8:=(li3.at λo e=>IZ.extBut _ _ Xa2.symm e).at λo e=>t48.keep _ _ (λq=>kJ q) e;show bh (Dc ns8) λoK eK nK=>?_;have nw:∀b o,s8.heap.get? b=O o->b∉[aS,Ia]:=λb o e q=>by have e:=(M6 b (dF _ q))▸e;ext
  have loop:=Zw (gens:=Ii y p it0) (d:=2) (p1:=p1) (pos:=pos) (scope:=scope) (cenv:=ju scope cl bp J)
   (aM:=P6)
   rfl Z hh (fZ bM bz) (Apart.of M eK nK d8 (λu q=>by ext) Xb3 (bh F7.1.lim λ_ i _=>eY i λo _ _ e _=>⟨o,t8.keep _ _ (λq=>kJ q) e⟩) Xb7 Xb8) Z c.kind (E 19 (nme Z)) (g9 _ hh) (ns8.at' λo e=>M4 _ o Xb4 e) (M4 _ _ Xb5 d8) ai5 λs10 ys n m' t10 d10 ia ak9=>?_
  .show cR<|Eb (g9 A hh).gen<|H5 _ _ (pI Z loop (cR (Eb (g9 _ hh).gen loop)))
  .have ai6:Tk [bp,a0,P'] s8 s10:=⟨λb o D e=>by
    show FV D λh1 h2 h3=>t10.keep b o (gZ h1 (gZ h2 (nw _ _ e))) (M4 b o h3 e),t10.os.trans M1,t10.drawn.trans M2,by
    show bh M3 λgs hg e=>?_;have:=t10.gens;rw[e]at this;show l6.sh hg this⟩
   show dG (dG c7 λ_ q=>dG (N7 q) λo i1=>⟨o,t8.keep _ _ (λq=>kJ q) i1⟩:∃o,s8.heap.get? c'=O o) λoc ec=>bh li8 λoL eL _=>H6 _ _ (Kh 0 _ (n1▸ym) (.over m' ys n ((t7.trans t8 zk).trans ai6 λb D=>ao (dF _ D)) ?_ ak9 (li8.at λo e=>ai6.keep _ o (aeN Xa2.symm Xa3.symm Xa4) e) d10 ia));show dG M5 λps9 q9=>((DN ps9 (qd q9 t10.keep (FV Xa5 λ_ h2 h3=>gZ h2 (gZ h3 (nw _ _ ec))) (gZ Xb4.symm (gZ Xb5.symm ?_)))));show dG c7 λ_ q7=>dG (Bq q7) λ_ i8=>nw _ _ (t8.keep _ _ (λq=>kJ q) i8)
 .show dG ((cB _ (tB' t2) c2).2.2.1) λnl hls=>cR<|JP hh li (bX hls) Z λh3 zF=>have t3:Tk [bw] Y {Y with heap:=h3}:=.heap λb o D e=>zF _ o (λq=>D (bJ.mpr q)) e;H0 _ (hR _ ys nd m (t2.trans t3 λb D=>ao (bJ.mp D▸cQ ..)) (c2.imp λps q=>qd q t3.keep (sJ (vw Xa5)) (sJ Xa4.symm)) (zF _ _ Xa3 d2) ia (Pw.at' λo e=>zF _ o Xa2 e))
end
theorem SQ(l:LN)(wd:Nat):dJ (l++[wd])=dJ l++n0 wd:=by
 delta dJ
 rw[qj];rfl
theorem NI(v:Nat):lx (Af v) 8=(n0 v).map aj:=by rfl
section
variable{l f c' P':ab}{sB:ae}
theorem JG.on{bp a0 bw L':ab}(X:JG c' P' bp a0 bw sB)(t:Tk [P'] sB s)(hc:∃o,s.heap.get? c'=O o)(hP:∃o,s.heap.get? P'=O o)(hK:∃o,s.heap.get? bp=O o)(hD:∃o,s.heap.get? a0=O o)(hL:s.heap.get? L'=ai):JG c' P' bp a0 L' sB:=
 have ne:∀x,(∃o,s.heap.get? x=O o)->x≠L':=λx e q=>by have e:=hL▸q▸e;show e.elim λ_ e=>Bk e
 ⟨⟨t.none (λq=>ne P' hP (bJ.mp q).symm) hL,ne _ hK,ne _ hD,(ne _ hP).symm,λq=>(bu.mp q).elim (ne _ hc) λq=>X.1.2.2.2.2 (bZ _ q)⟩,X.2⟩
inductive ala(c' P' bp a0 RI:ab)(ns:LN)(s:ae)(k:Nat)(Y:ae):Prop
 |mk (i:Nat) (ys:List aa) (n:Nat) (m:aP->Option aa) (e:k=ns.length - i) (hi:i<=ns.length) (t:Tk [RI,bp,a0,P'] s Y) (c:∃ps,Y.heap.IsCode c' P' ps) (nn:Y.heap.Ns bp m) (r:mf Y.heap RI i ((ns.length:Int) - i) 1)
  (d:Y.heap.get? a0=O (br ys n)) (ia:fh ys ((dJ (ns.take i)).map aj))
theorem SR{bp a0 RI:ab}{ky kf:Nat}{p:Nat->aY}{p1:aY}{it0:aw}{m0:aP->Option aa}(hh:dh A)(bM:A.depth<900)(I:dQ mg mb)(c:ed L scope [y,83] [92,93,19])(dM:Gi scope "len")(jB:∀z∈[y,83],cl.lookup (NM z)=J.cells.lookup (NM z))(hy:cq G y=O (ky,aX (R l)))(hf:cq G 83=O (kf,aX (R f)))(ou:lY ns)(YR:d∉bY)(cB:∀Y,Tk [P'] sB Y->(∃ps,Y.heap.IsCode c' P' ps)->BCx mg mb L J G l d f c' P' ns Y)(X:JG c' P' bp a0 RI sB)(tB:Tk [P'] sB s)(hc:∃ps,s.heap.IsCode c' P' ps)(hr:mf s.heap RI 0 ns.length 1)(wJ:s.heap.Ns bp m0)(ot:s.heap.get? a0=O (br [] 0))(hR:∀Y ys n m',Tk [RI,bp,a0,P'] s Y->(∃ps,Y.heap.IsCode c' P' ps)->Y.heap.get? a0=O (br ys n)->fh ys ((dJ ns).map aj)->Y.heap.Ns bp m'->aM (cf cJ) Y):
 CC A (hb (cP (ar (NM 19) p1) (Ii y p it0) scope pos) 0 (R RI) (R a0) (ju scope cl bp J)) s aM:=by
 show eX X λXa Xb=>je Xa λXa1 Xa2 Xa3 Xa4 Xa5=>dU Xb λXb1 Xb2 Xb3 Xb4 _ Xb6 _ _=>?_;have tB':∀{Y},Tk [RI,bp,a0,P'] s Y->Tk [P'] sB Y:=λt=>tB.trans t λb D=>by
  apply tI D
  .show aH Xa1
  .show aH Xb1
  .show aH Xb2
  .show ao (cQ ..)
 show HH (target':=ar (NM 93) (p 1)) (iter':=ar (NM y) (p 2)) (ifs':=[j0 (ar (NM 92) (p 3)) [FE] [bI (ar (aC "len") (p 4)) [ar (NM 93) (p 5)] [] (p 6)] (p 7)]) Z Z (λ_=>rfl) (ala c' P' bp a0 RI ns s) ?_ ns.length ⟨0,[],0,_,rfl,fg _,.refl _ _,hc,wJ,hr,ot,qw⟩;rintro k Y Kp P1 P2 P3 P4 P5 P6 Kh H0 H1 H2 H3 _ H4 H5 H6 ⟨i,ys,n,m,dX,hi,t2,c2,Pw,r2,d2,ia⟩;rcases AQ hi with jA|rfl
 .show cR<|S8 r2 au λh3 r3 zF=>H1 _ _ (C.eq (a:=()) Z (cR (jE (sC (xC (c.locs 92 (nme Z))) (Pw.at' λo e=>zF.extBut _ o Xa2 e) (λh4 Zx IZ=>H2 _ (uM (H3 _ ?_))) (by rw[show(jw scope J).kind=d0 from c.kind];rfl:((jw scope J).kind== .class ||((jw scope J).kind== .module && bp != J.globals))=af)))));have t34:∀tk,Tk [RI,bp] Y {Y with heap:=h4,toks:=tk}:=λtk=>.heap λb o D e=>Dg D λh1 h2=>IZ.extBut _ _ h2 (zF.extBut _ _ h1 e);have t4:∀tk,Tk [RI,bp,a0,P'] s {Y with heap:=h4,toks:=tk}:=λtk=>t2.trans (t34 tk) λb D=>by apply rY D<;>show ao bB
  have c4:∃ps,h4.IsCode c' P' ps:=c2.imp λps q=>qd q (X:=[RI,bp]) (t34 0).keep (FV Xa5 λh1 h2 _=>Mn h1 h2) (Mn Xa4.symm Xb4.symm);have F4:=cB _ (tB' (t4 (Y.toks+1+1))) c4;show Lake.T.wW (ui (Cp (dA:=[]) c F4.2.1 jB Zx Xb6 HNm.nil) (x:=y) (k:=ky) (u:=R l) (JH bB hy))<|H4 _ _<|og λgG kG=>?_;obtain⟨nl,hls⟩:=F4.2.2.1;obtain⟨v,hv⟩:∃v,ns[i]? =O v:=⟨_,dE jA⟩;show kG ?_;clear kG gG;have d4:h4.get? a0=O (br ys n):=IZ.extBut _ _ Xb3.symm (zF.extBut _ _ Xa3 d2);have hly:ys.length=8 * i:=by have:=ia.length;rw[ip,pW,AK,AS hi]at this;show this
  show cR (uR (bX hls) ?_);have nL:h4.get? h4.objs.size=ai:=bF _;have tp:∀b o,h4.get? b=O o->(h4.push {cls:=ak "list_iterator",data:=bH #[R l,ah 0 0]}).get? b=O o:=λb o e=>a8 _ e;have eL:(h4.push {cls:=ak "list_iterator",data:=bH #[R l,ah 0 0]}).get? h4.objs.size=O {cls:=ak "list_iterator",data:=bH #[R l,ah 0 0]}:=bK _ Z;have nwL:∀b o,h4.get? b=O o->b≠h4.objs.size:=λb o e q=>by have e:=nL▸q▸e;show Bk e
  dsimp only at nL eL nwL ⊢;generalize h4.push {cls:=ak "list_iterator",data:=bH #[R l,ah 0 0]}=h5 at tp eL ⊢;generalize h4.objs.size=bw at nL eL nwL ⊢;have t5:∀X tk,Tk X {Y with heap:=h4,toks:=Y.toks+1+1} {Y with heap:=h5,toks:=tk}:=λX tk=>.heap λb o _ e=>tp b o e;obtain⟨ps4,q4⟩:=c4;have Xo:JG c' P' bp a0 bw sB:=X.on (tB' (t4 (Y.toks+1+1))) (N7 q4) (Bq q4) (bh (Dc Zx) λo e _=>⟨o,e⟩) ⟨_,d4⟩ nL;have loop:=aaR (mg:=mg) (mb:=mb) (A:=A) (s:={Y with heap:=h5,toks:=Y.toks+1+1}) (p:=p) (p1:=p1) (pos:=pos) (it0:=it0) (m0:=λz=>if z=NM 92 then O (ah (i:Int) Y.toks) else m z) (tk:=Y.toks)
   (aM:=P6)
   hh bM I c dM jB hf ou YR hv cB Xo ((tB' (t4 _)).trans (t5 [] _) zk) ⟨ps4,q4.keeps tp⟩ (kH _ eL Z Z) (Zx.at' λo e=>tp _ o e) (if_pos Z) (tp _ _ d4) (by rw[hly];have:=ou.2;lia) λs7 zs n7 m7 t7 c7 d7 ia7 ns7=>?_
  .show H5 _ _ (pI Z loop (cR (Tf (l:=l) (i:=0) (kH _ eL Z Z) loop)))
  .show H6 _ _ (Kh (ns.length - (i+1)) _ (dX▸rx jA (jb i)) ⟨i+1,ys++zs,n7,_,rfl,jA,(t4 (Y.toks+1+1)).trans ((t5 [bp,a0,P'] (Y.toks+1+1)).trans t7 λb D=>(bu.mp D).elim (λq=>aH (q▸nL)) ao) λb D=>ao (bZ _ D),c7,ns7,?_,d7,?_⟩)
   .have e2:(ns.length:Int) - ((i+1:Nat):Int)=(ns.length:Int) - i - 1:=by lia
    rw[e2,(by lia:((i+1:Nat):Int)=(i:Int)+1)];have r4:=IZ.extBut _ _ Xa2.symm r3;show t7.keep _ _ (agP (nwL _ _ r4) Xa2.symm Xa3.symm Xa4) (tp _ _ r4)
   .rw [EH,hv,show(O v).toList=[v] from rfl,SQ,j3,<-NI];show ia.append ia7
 .show cR (Ta hh r2 au λh3 zF=>?_);have t3:Tk [RI] Y {Y with heap:=h3}:=.heap (tk:=Y.toks) λb o D e=>zF _ o (λq=>D (bJ.mpr q)) e;have ia:=sS▸ia;show H0 _ (hR _ ys n m (t2.trans t3 λb D=>ao (bJ.mp D▸cQ ..)) (c2.imp λps q=>qd q (X:=[RI]) t3.keep (sJ (vw Xa5)) (sJ Xa4.symm)) (zF _ _ Xa3 d2) ia (Pw.at' λo e=>zF _ o Xa2 e))
end
section
variable{vZ:c9}{l f c' P':ab}
def XS(y:Nat)(q:Nat->aY)(vZ:c9):aw:=bI (ar (aC "range") (q 0)) [bI (ar (aC "max") (q 1)) [cP (bI (ar (aC "len") (q 2)) [ar (NM 93) (q 3)] [] (q 4)) [⟨ar (NM 93) (q 5),ar (NM y) (q 6),[],0⟩] vZ (q 7)] [] (q 8)] [] (q 9)
theorem ad2{ky kf:Nat}{p q:Nat->aY}{p1:aY}(hh:dh A)(bM:A.depth<900)(I:dQ mg mb)(c:ed L scope [y,83] [92,93,19])(c2:ed L vZ [] [93])(dM:Gi scope "len")(aaS:Gi vZ "len")(hr:Gi L "range")(hm:Gi L "max")(hy:cq G y=O (ky,aX (R l)))(hf:cq G 83=O (kf,aX (R f)))(ou:lY ns)(YR:d∉bY)(hc:∃ps,s.heap.IsCode c' P' ps)(cB:∀Y,Tk [P'] s Y->(∃ps,Y.heap.IsCode c' P' ps)->BCx mg mb L J G l d f c' P' ns Y)(hq:∀a0 Y ys n,Tk [P'] s Y->(∃ps,Y.heap.IsCode c' P' ps)->s.heap.get? a0=ai->Y.heap.get? a0=O (br ys n)->fh ys ((dJ ns).map aj)->Q (R a0) Y):
 C A (aZ (cP (ar (NM 19) p1) (Ii y p (XS y q vZ)) scope pos) J) s Q:=by
 have F:=cB s (.refl _ _) hc;show dG F.2.2.1 λnl hl=>bh (c.Ol F.2.1 (by simp[pU,hy,hf])) λcl jB wM=>have up:∀{a b:ae},Tk [] a b->Tk [P'] a b:=λt=>(Tk.refl [P'] _).trans t zk;Qs c jB (λ_=>rfl)<|Qt c2 aaS hr hm hh F.1 I F.2.1 hy hl F.2.2.2.1 YR ou λrr s1 t u v t1 Ϙ=>cR<|Al Ϙ (uY fF (kbt_pos 62) fF (by have:=ou.2;lia))<|(by rw[uV];split<;>lia:kZ 0 (ns.length:Int) 1=(ns.length:Int)).symm▸?_;have tp:Tk [] s1 {s1 with heap:=s1.heap.push {cls:=ak "range_iterator",data:=bH #[dN 0,dN (ns.length:Int),dN 1]}}:=.heap λb o _ e=>a8 _ e;have nR:s1.heap.get? s1.heap.objs.size=ai:=bF _;have eR:(s1.heap.push {cls:=ak "range_iterator",data:=bH #[dN 0,dN (ns.length:Int),dN 1]}).get? s1.heap.objs.size=O {cls:=ak "range_iterator",data:=bH #[dN 0,dN (ns.length:Int),dN 1]}:=bK _ Z;have top:QH<=(s1.heap.push {cls:=ak "range_iterator",data:=bH #[dN 0,dN (ns.length:Int),dN 1]}).objs.size:=jz (H:=[]) F.1.top ((t1.trans tp zk).x);generalize s1.heap.push {cls:=ak "range_iterator",data:=bH #[dN 0,dN (ns.length:Int),dN 1]}=h2 at tp eR top ⊢;generalize s1.heap.objs.size=RI at nR eR ⊢;have t2:=t1.trans tp zk;show gS top (λA' fq Q t hQ=>cR (Tb (t.keep _ _ (λq=>kJ q) eR) hQ)) (λa0 bp fq t hD hK NZ hKT ot wJ=>?_);have t4:=t2.trans t zk;have nw2:∀b,h2.get? b=ai->∀x o,s.heap.get? x=O o->b≠x:=λb e x o e2 q=>by have e:=(t2.keep _ _ (λq=>kJ q) e2)▸q▸e;ext
 have nwR:∀x o,s.heap.get? x=O o->RI≠x:=λx o e2 q=>by have nR:=(t1.keep _ _ (λq=>kJ q) e2)▸q▸nR;ext
 show og λgG kG=>(tH (hc.imp λ_ q=>(mw q).2) λps oc oP i1 i8 _=>?_);obtain⟨mc,⟨os,_,_,es,_⟩,_⟩:=F.1.lim;show kG ?_;clear kG gG;show SR hh bM I c dM wM hy hf ou YR cB ⟨⟨t1.none (λq=>kJ q) nR,λq=>(by have hK:=eR▸q▸hK;ext),λq=>(by have hD:=eR▸q▸hD;ext),nwR _ _ i8,λq=>?_⟩,t2.none (λq=>kJ q) hK,t2.none (λq=>kJ q) hD,NZ.symm,nw2 _ hK _ _ i8,nw2 _ hD _ _ i8,hKT,nw2 _ hK _ _ es,nw2 _ hD _ _ es⟩
  (up t4) ((λt=>hc.imp λps q=>q.keeps λb o e=>t.keep b o (λq=>kJ q) e) t4) (t.keep _ _ (λq=>kJ q) eR) wJ ot λY ys n m' t5 c5 d5 ia ns5=>ct m' ns5 (λh' sb=>?_)
 .simp only[bu,mX,or_false]at q;rcases q with q|q|q
  .show nwR _ _ i1 q.symm
  .show nw2 _ hK _ _ i1 q.symm
  .show nw2 _ hD _ _ i1 q.symm
 .have t6:=(up t4).trans t5 λb D=>by
   apply tI D
   .show aH (t1.none (λq=>kJ q) nR)
   .show aH (t2.none (λq=>kJ q) hK)
   .show aH (t2.none (λq=>kJ q) hD)
   .show ao (iz ..)
  show hq a0 {Y with heap:=h'} ys n (t6.trans (.heap λb o D e=>sb.extBut _ _ (λq=>D (bJ.mpr q)) e) λb D=>aH (bJ.mp D▸t2.none (λq=>kJ q) hK)) (c5.imp λps q=>qd q (λb o D e=>sb.extBut _ _ (λq=>D (bJ.mpr q)) e) (λq=>nw2 _ hK _ _ i1 (bJ.mp q).symm) λq=>nw2 _ hK _ _ i8 (bJ.mp q).symm) (t2.none (λq=>kJ q) hD) (sb.extBut _ _ NZ d5) ia
end
section
open Builtin
variable{t u:aW}
theorem NJ:seqRepeat? (ak "bytes")=pure (O (bx "bytes.__mul__")):=by rfl
theorem DY:gN table "bytes.__mul__" =O Builtin.«bytes.__mul__»:=me (rfl)
theorem SU(D:b.size=1)(h:Q (qY #[] s.toks) {s with toks:=s.toks+1}):ax (aG prog w) A (Au vo (qY b t) (ah 0 u)) Q a6 s:=by
 show wpAny_binaryOp_repeat (rfl) (λY=>typeIs_bytes Y b t) (λY=>xO Y 0 u) W.BMul.noFill F.fills_int_mul Fo NJ Fn.lookup
  (call_gives Fo (xO s 0 u) Vu (Vp _ _) (m:=Made.val Value.notImplemented) ?_ ⟨rfl,jV W.BMul.slot_mul (typeIs_bytes s b t) DY ?_ (W.BMul.args_mul _ _)⟩)
 .show VZ λM A a6 s Q h=>by obtain⟨hp,g,d,tk,os⟩:=s;wp_walk;show ct _ Z h
 .show ag<|ag<|aB<|aB<|(?_:ax _ _ (if(b.size * (0:Int).toNat==b.size)=N then _ else _) _ _ _);rw[if_neg (by rw[D];decide)];rw[(by delta Bytes.repeated;split<;>rfl:Bytes.repeated b (0:Int).toNat=#[])];show ag (wpAny_mkBytes (aB (ct _ Z h)))
end
theorem XT{i:aw}{f:MK->Option aa}{k:Int}(hm:U.MapOf (dZ) d f)(hd:d∉bY)(hv:f (.int k)=O v)(he:V H U A L J G e (aX (R d)) af)(hi:V H U A L J G i (a9 k) af)(r9:j9 i=af):
 V H U A L J G (dk e i pos) (aX v) fr:=λs r=>by
 show rH<|(he r).Z7 λaD e1=>(hi (r.ext e1.ext)).Cx λt aQ e2=>have hm2:aQ.heap.MapOf (dZ) d f:=eY hm λo es ep h1 h2=>Bm o es ep ((r.base.trans (e1.trans e2).ext).keep d o hd h1) h2;vj hm2.typeIs slot_dict_getitem.lookup (wpAny_getItem_of (beq_self_eq_true k) hm2 hv (oY [] ((e1.trans e2).trans (.toks _ _)) (.ir _) d9)) (uB r9 _ _)
section
variable{Q:b8->ae->Prop}{b:ab}
theorem PL.called(p:PL H U L J aJ bq bA G S bw Gs s)(q:PL τ' U sc' fV s [] (S.map (·.1)) G' S' L' XX Y)(hi:∀y∈S,gc y.2=N):PL τ' U L J aJ bq bA G S' (L'++bw) Gs Y:=by
 have c:=p.ps.called q.ps hi;show lZ p.fr λW r hW dj dL=>?_;have m:sy (S.map (·.1)) s Y:=by have:=q.mod;show this
 have r':=r.ahH q.ps.ext (λb o D ht e=>m.mod.keep b o D ht e) (λb D=>by show bh (bG.mp D) λy hy e=>?_;subst e;show iM (p.sg y hy) λc1 c2 c3 c4=>(⟨rU c1 (hi y hy),c2,dj y hy⟩))
 have hWs:∀b∈W,s.heap.get? b≠ai:=λb hb' q=>oU (r.jj b hb') λ_ _ o e _=>by have e:=q.symm.trans e;ext
 show⟨(wB W r' hW (λy hy hw=>bf (q.lD y hy) (λh=>bh (bG.mp h) λz hz e=>(dj z hz (e▸hw))) λh=>hWs _ hw h) (λy hy hw=>bf (b9.mp hy) (λh=>hWs _ hw (q.lg y h).2.2.1) λh=>dL y h hw)),q.sg,λy hy=>?_,c.mod,c.lD,λy hy=>⟨m.gens.1 _ _ (p.gk y hy).1,(p.gk y hy).2⟩⟩;rcases b9.mp hy with h|h
 .show je (q.lg y h) λa1 a2 a3 a4 a5=>⟨a1,a2,p.mod.mod.new a3,a4,a5⟩
 .show je (p.lg y h) λa1 a2 a3 a4 a5=>(⟨m.mod.keep _ _ a5 a2 a1,a2,a3,a4,λhz=>?_⟩);show bh (bG.mp hz) λz hz e=>?_;rcases q.lD z hz with k|k
  .show a5 (e▸k)
  .have k:=a1▸e▸k;ext
def ud(d:ab)(ns ms:LN)(ok:aa->ae->Prop):Prop:=
 ∀(A':ck) u s,dh A'->ok u s->s.heap.get? d=O (kB ns)->C A' (call (bx "bytearray.extend") [R d,u]) s (λv Y=>v=aA/\Tn [d] s Y/\Y.heap.get? d=O (kB ms))
theorem ud.list(hms:∀x∈ms,x<256)(dM:ns.length+ms.length<=1000):ud d ns (ns++ms) (λu s=>∃F,bR s.heap (a7 ms) u F):=λA' u s hh qQ ho=>dG qQ λF aO=>by show iQ aO λla vs n F' dX _ Iz V' _=>dX▸w3 hh ho Iz (intsAre_of V' (dS ms)) hms (by rw[ib];show dM) λs3 tn ho3=>gS Z tn ?_;rw[Xg]at ho3;show ho3
theorem ud.nil{tb:aW}(dM:ns.length<=1000):ud d ns ns (λu s=>u=qY #[] tb):=λA' u s hh e ho=>by subst e;show II ho (by rw[ib];show dM) λs3 tn ho3=>gS Z tn ho3
theorem Zy{k1 k2:Nat}{ok:aa->ae->Prop}(hh:dh A)(X:(iD P t f).In U)(p:PS H U (bg (vC 3)) J aJ bq bA G S s)(h1:cq G 110=O (k1,aX (R b)))(h2:cq G 111=O (k2,av))(yU:∀y∈jk b dx d ns,y∈S)(hn:lY ns)(ou:∀u s F,bR s.heap av u F->ok u s)(E:ud d ns ms ok)(hS:∀y∈S',(y.1=d/\y.2=kB ms)\/(y.1≠d/\y∈S))(kk:∀Y,PS H U (bg (vC 3)) J aJ bq bA G S' Y->Q cJ Y):C A (aU (bo (vC 3)) J) s Q:=by have D:=p.Hh yU hn;show zX (by show bh p.fr λW r _=>?_;delta iI;show r.scope.symm▸?_;rfl) Z (rS Z Z Z (WJ ((V.data (fr:=N) (jo X p.ext) D.obj D.WV D.t1 D.t2 h1) p.er) λaD e1 pl=>?_));have p1:=p.grow e1;have hd:(d,kB ns)∈S:=yU _ (List.mem_of_getLast? rfl);have QB:=p1.get hd;show cR<|TA (fm QB) zz pC xi (λa ea=>by obtain rfl:=j7 ea;show ct _ QB Z)<|dg Z (ej (cx (Lake.T.wcV (v9 (p.er.ext e1.ext) h2) λu F2 V2=>c8 (lU ⟨rfl,?_⟩))));show(E A u aD hh (ou u aD F2 V2) QB).mono λv s3 qQ=>hx qQ λe3 tn ho3=>⟨e3,eZ (kk s3 (p1.turn hd Z tn ho3 Z hS))⟩
theorem JI{o:aw}{apos cpos:aY}(hh:dh A)(bM:A.depth<990)(B:cA U mg mb)(gC:pR U P t f)(p:PL H U L J aJ bq bA G S bw Gs s)(hi:∀y∈S,gc y.2=N)(he:V H s.heap A L J G o (aX (R b)) af)(dH:cG e=af)(yU:∀y∈jk b dx d ns,y∈S)(hn:lY ns)(xj:uU o (aC "extend") J (aZ o J)=aZ o J)(lA:(apos.endLine==cpos.line)=N)(wy:iI J=af)(hS:∀y∈S',(y.1=d/\y.2=kB ms)\/(y.1≠d/\y∈S))(hE:∀aD,dz H s aD->PL H U L J aJ bq bA G S bw Gs aD->C A (aZ e J) aD (λu aQ=>∃L' XX av F ok,PL H U L J aJ bq bA G S L' XX aQ/\bR aQ.heap av u F/\(∀u s F,bR s.heap av u F->ok u s)/\ud d ns ms ok/\
 ∀Y,PL H U L J aJ bq bA G S' L' XX Y->C A (aU rest J) Y Q)):
 C A (aU (vi (bI (iJ o (aC "extend") apos) [e] [] cpos) pos::rest) J) s Q:=by
 show zX wy Z<|Hr gC.pG p.ps he yU hn afj acq Z gC.ϓ xj (by rw[l4 dH];rfl) lA λaD e1=>bh p.open λW q back=>?_;rw[l4 dH];show ej (cx ((hE aD e1 (back _ _ _ _ (q.grow e1))).mono λu aQ qQ=>wA qQ λL' XX av F ok p2 aO ou E k=>c8 ⟨⟨_,p2.ps.ext⟩,?_⟩));show zy (us:=[R b,u]) (avs:=[aX (R b),av]) (F:=F) [110,111] B p2.ps.ext (fZ bM bz) gC.ϓ Z Z Z ?_ (eg [] F (.ir _) (DP _ [] F [] rfl aO .nil (mn (yd F)))) aK Z aK p2.ps.sg λs3 L3 p3=>Zy (hh) gC.pG p3 Z Z yU hn ou E hS λs4 p4=>⟨rfl,k s4 (p2.called p4.pl hi)⟩;have D:du (f 1) ⟨[R b,u],[]⟩=pure (([110,111].map NM).zip [R b,u]):=by
  delta du
  show gC.ϓ.params.symm▸gC.afl.symm▸?_;rfl
 show D.symm▸aB ⟨rfl,rfl⟩
end
def lX:bT:=cS 21
def Zz(U:aN)(mg:aP->Option aa)(P:bS)(t:Nat->aW)(f:Nat->bQ)(P2:bS)(t2:Nat->aW)(fd:bQ)(lg ex gen:LN)(gp:ab)(Ij:bQ):Prop:=
 (iD P t f).In U/\
 acJ U f/\
 DW U P2 t2 fd/\
 j_ U lg ex gen gp/\
 mg (aC "GALIOS_LOG")=O (.ref 1888)/\
 mg (aC "GALIOS_EXP")=O (.ref 1890)/\
 mg (aC "GEN_POLY")=O (.ref 1868)/\
 (∃f5,U.IntMap 1868 f5/\f5 (aj gen.length)=O (.ref gp))/\
 mg (aC "make_blocks")=O (.ref 1931)/\
 qT U 1931 Ij jq/\
 Ij.defaults= .none
def Ik(U:aN)(lv:Nat)(ta ei:ab)(ns:LN):Prop:=
 (∃f1 d2 f2,U.MapOf (dZ) 139 f1/\f1 (.int (-2))=O (.ref d2)/\U.MapOf (dZ) d2 f2/\d2∉bY/\f2 (.int (aj lv))=O (.ref ta))/\
 (∃m,U.get? ta=O (cU [.ref ei] m))/\
 ta∉bY/\
 Cb U ei ns
section
variable{Q:b8->ae->Prop}{P2:bS}{t2:Nat->aW}{Ij:bQ}{b:ab}
theorem ad3{py pt:aY}(hh:dh A)(E:Hx L x)(hy:Hx L y)(h1:bW G x=N)(h2:bW G y=N)(hs:J4 [.Tuple [.Name (NM x) px,.Name (NM y) py] k0 pt] e pos.line J=pure af)(hw:Ee [.Tuple [.Name (NM x) px,.Name (NM y) py] k0 pt] e J=pure ai)(he:C A (aZ e J) s (λv aD=>∃τ' S' L' XX u1 u2,PL τ' U L J aJ bq bA G S' L' XX aD/\bR aD.heap (.tuple [.ptr u1,.ptr u2]) v []/\
 ∀Y,PL τ' U L J aJ bq bA (jm (jm G x 0 (.ptr u1)) y 0 (.ptr u2)) S' L' XX Y->C A (aU rest J) Y Q)):
 C A (aU (.Assign [.Tuple [.Name (NM x) px,.Name (NM y) py] k0 pt] e pos::rest) J) s Q:=by
 show iq<|C.bind<|C.standAt<|hs.symm▸C.bind (C.pure ?_);show C.bind<|he.mono λv aD oq=>ji oq λτ' S' i=>Bl i λL' XX u1 u2 p aO k=>?_;rw[hw];show ?_;show C.bind (m:=assignAll v _)<|og λgG kG=>gI aO λa ws n dX hT ho aO=>kG ?_;clear kG gG;show dX▸og λgG kG=>?_;obtain⟨w1,ws1,F1,F2,qD,V1,aO,_⟩:=aO;show kG ?_;clear kG gG;subst qD;show og λgG kG=>?_;obtain⟨w2,ws2,F3,F4,DQ,V2,aO,_⟩:=aO;show kG ?_;clear kG gG;subst DQ;obtain⟨NR,_⟩:=aO;subst NR;have e1:=V1.DA;have e2:=V2.DA;subst e1 e2;show T.wx ?_ λ_ Y p'=>C.pure (k Y p');show(?_:ax _ A (jJ (.Tuple [.Name (NM x) px,.Name (NM y) py] k0 pt) J (.ref a)) _ _ _);show JS hh ⟨_,ho,rfl,n,rfl⟩ Z Z λh3 he=>bh p.open λW q back=>ag<|cO<|jE<|((back _ _ _ _ (q.grow (Y:={aD with heap:=h3}) ⟨.of_keep λc o e=>he c o (fB (cn e)) e,rfl,rfl,rfl⟩)).store E h1 (.ir w1)).wp λ_ s4 p4=>ag<|cO<|jE<|(p4.store hy (BB h2) (.ir w2)).wp λ_ s5 p5=>aB p5
theorem ai7{lg ex:LN}{gp ta ei:ab}{bt m:Nat}{k1 k2:Nat}{p1 p2:aY}{Q:aa->ae->Prop}(hh:dh A)(bM:A.depth<790)(B:cA U mg mb)(I:dQ mg mb)(I2:t9 mg mb)(hT:gi U)(gC:Zz U mg P t f P2 t2 fd lg ex gen gp Ij)(pg:1979∉H)(ku:1979∈τ')(nO:∀b∈H,b∈τ')(kO:Gi L "make_blocks")(ht:U.get? ta=O (cU [.ref ei] m))(htT:ta∉bY)(hE:Cb U ei [1,bt,n+1])(hbt:bt=n+1+gen.length)(hn:lY ns)(dM:ns.length=8 * (n+1))(Ab:∀x∈ns,x<2)(hw:lY (wordsOf ns (n+1)))(HS:n+1<=100)(p:PL H U L J aJ bq bA G S bw Gs s)(hi:∀y∈S,gc y.2=N)(h84:cq G 84=O (k1,.ptr (.ref ta)))(h82:cq G 82=O (k2,.ptr (.ref b)))(yU:∀y∈jk b dx d ns,y∈S)(hq:∀v Y l1 l2 bl N0 k1 k2 rr o,PL τ' U L J aJ bq bA G ((N0,kB ((gU lg ex gen (wordsOf ns (n+1)++cb gen.length 0) (wordsOf ns (n+1)).length).drop (wordsOf ns (n+1)).length))::(bl,kB (wordsOf ns (n+1)))::(rr,o)::S) ([(l1,br [.ref bl] k1),(l2,br [.ref N0] k2)]++bw) Gs Y->
 bR Y.heap (.tuple [.ptr (.ref l1),.ptr (.ref l2)]) v []->Q v Y):
 C A (aZ (.Call (.Name (aC "make_blocks") np) [.Name (NM 84) p1,.Name (NM 82) p2] [] pos) J) s Q:=by
 show dU gC λO1 O2 O3 O4 O5 O6 O7 alb=>iM alb λO8 O9 O10 O11=>?_;show bh O8 λf5 m5 v5=>si [.ptr (.ref ta),.ptr (.ref b)] B p.ps O9 kO (rfl) O10 (fJ.cons (aq _ h84) (fJ.cons (aq _ h82) fJ.nil Z) Z) Z λvs aD F e1 aO=>bh p.open λW q back=>?_;have pq:=back _ _ _ _ (q.grow e1);have V':=aO;obtain⟨v1,vs1,F1,F2,dX,V1,V',qD⟩:=V';subst dX;obtain⟨v2,vs2,F3,F4,DQ,V2,V',NR⟩:=V';subst DQ;show eX V' λZN eQ6=>?_;subst ZN;show zy [84,82] B pq.ps.ext (fZ bM bz) O10 Z Z Z ?_ aO aK Z aK pq.ps.sg λs2 L2 p2=>ac4 (hh) au B I I2 O1 O2 O3 hT O4 pg ku nO O5 O6 O7 m5 v5 ht htT hE hbt hn dM Ab hw HS p2 yU λY v l1 l2 bl N0 k1 k2 rr o p' V'=>hq v Y l1 l2 bl N0 k1 k2 rr o (pq.called p' hi) V';have D:du Ij ⟨[v1,v2],[]⟩=pure (([84,82].map NM).zip [v1,v2]):=by
  delta du
  show O10.params.symm▸O11.symm▸?_;rfl
 show D.symm▸aB ⟨rfl,rfl⟩
end
section
variable{Il:cg}{sa sb:ae}{Q:b8->ae->Prop}{b d2:ab}
theorem SW(he:V H U A L J G e .none af):oZ H U A L J G (.Compare e [.IsNot] [.Constant .none k p] pos) af:=λs r=>by show uQ ((he r).tN λv aD F1 e1 V1 _=>aB ?_) Z;have ev:v= .none:=V1.1;subst ev;show wpAny_isNot_self Z (l9 ⟨e1,rfl⟩)
def Qu:List aw->Option (List Int)
 | []=>O []
 |e::r=>(Ss e).bind λc=>(ady c).bind λi=>(Qu r).map (i::·)
theorem fJ.Qu:∀{ms:List Int},Lake.Qu es=O ms->fJ H U A L J G es (ms.map a9):=by
 induction es with
 |nil=>intro ms h;obtain rfl:=aV h;show fJ.nil
 |cons e r iH=>intro ms h;show bh (Lu.mp h) λc h1 h=>bh (Lu.mp h) λi h2 h=>bh (jc.mp h) λl h3 dX=>dX▸bh (jc.mp h1) λq h4 dX=>?_;subst dX;show Qh (N9 e) h4▸Sv h2▸fJ.cons V.int (iH h3) Z
theorem NK(ms:List Int)(x:Int){a:aw}(B:Tp U)(ha:V H U A L J G a (.int x) af)(hc:Lake.Qu es=O ms)(hl:dY ms.length 1000=N)(hm:Ef .In (.Tuple es k p)=af):
 oZ H U A L J G (.Compare a [.In] [.Tuple es k p] pos) (ms.any (· ==x)):=
 (WX ha (uj B (fJ.Qu hc) (Gb (nX ms)) (by rw[ip];show hl)) (nX ms) hm)
def DL(c P:ab)(oc oP:bj):Prop:=Ag oP/\(∀vs n,oP.data≠ .seq vs n)/\∀h:aN,h.get? c=O oc->h.get? P=O oP->∃ps,h.IsCode c P ps
theorem DL.of{c P:ab}{oc:bj}(hc:h.get? c=O oc):(∃ps,h.IsCode c P ps)->∃oP,h.get? P=O oP/\DL c P oc oP:=λqQ=>dG qQ λps x=>by show FT (mw x) λ_ o op i1 i8 i9 mk=>?_;obtain rfl:=aV (hc.symm.trans i1);show⟨op,i8,λu e=>by(have e:=i9▸e;ext),λ_ _ e=>by(have e:=i9▸e;ext),λh' e1 e2=>⟨ps,mk h' e1 e2⟩⟩
theorem alc{fa c' P' dT l:ab}{t8:aW}{oc oP:bj}{kl:Nat}(B:cA U mg mb)(I:dQ mg mb)(hT:gi U)(p:PL H U L J aJ bq bA G S bw Gs s)(hG:Qr G=N)(F:aaP Il fa c' P' dT t8 fd oc sa sb)(h1:(fa,mL fd)∈bw)(h2:(c',oc)∈bw)(h3:(P',oP)∈bw)(h4:(dT,cU [.int 8 t8] 0)∈bw)(h5:(l,br [.ref d] kl)∈bw)(h6:(d,kB ns)∈S)(hc:DL c' P' oc oP):
 ∀Y,Tk [P'] s Y->(∃ps,Y.heap.IsCode c' P' ps)->BCx mg mb L J G l d fa c' P' ns Y:=λY k qQ=>dG qQ λps ou=>by
 show dU F λF1 F2 F3 F4 F5 F6 F7 agA=>dU agA λF8 F9 F10 F11 F12 _ F14 Qq=>eX Qq λF15 _=>?_;have p':=p.aeH (L':=[]) hG hT k (λb D=>⟨oP,bJ.mp D▸h3,hc.1⟩) (zk);have nP:∀a o,(a,o)∈bw->a≠P'->Y.heap.get? a=O o:=λa o h q=>k.keep _ _ (λe=>q (bJ.mp e)) (p.getL h);show je (p.lg _ h3) λ_ q2 q3 q4 _=>?_;have nh:∀a o,U.get? a=O o->P'≠a:=λa o e q=>by have e:=q4▸q.symm▸e;ext
 have x1:=nP _ _ h1 (λq=>by have:=F1;have this:=F14▸q▸this;cases this);have Bp:=p'.ps.base B;show⟨Bp,p'.erE,⟨_,(nP _ _ h5 (λq=>by have:=p.getL h5;have this:=(p.getL h3)▸q▸this;obtain rfl:=aV this;show hc.2.1 _ _ Z))⟩,p'.ps.get h6,⟨fd,x1⟩,λA' v tk Q hh bM hq=>?_⟩;show gv F15 λc2 oc2 vs tq e1 e2 e3 e4=>?_;cases F11.symm.trans (F11.trans e1)
 rw[F12]at e2;obtain rfl:=aV e2;show og λgG kG=>?_;obtain⟨ob,eb⟩:=B.top;show bh B.lim λmc i1 _=>eY i1 λos _ _ es _=>eY B.g λom _ _ em _=>l0 B.bmod λbm obm hbm _ _ Q8 _=>kG ?_;clear kG gG;show adZ hh bM Bp I x1 F2 F3 F4 F5 F6 F7 F8 F9 (nP _ _ h4 (λq=>by have:=F10;have this:=F14▸q▸this;cases this)) F11 (nP _ _ h2 (I1 ou)) e3 e4 (p.lg _ h1).2.1 (p.lg _ h2).2.1 ou q2 (nh _ _ em) (nh _ _ eb).symm (nh _ _ es) (λbm' e=>by replace e:=hbm▸e;obtain rfl:=j7 (aV e);show nh _ _ Q8) λa aS Ia cv s1 s2 g1 g2 g3 g4 M=>hq a aS Ia cv s1 s2 ⟨λb o _ e=>g1 b o e,g3,g4,g2⟩ M
end
noncomputable def aaT:List aY->Nat->aY
 | [],_=>⟨0,0,0,0⟩
 |p::_,0=>p
 |_::l,n+1=>aaT l n
def Qv(i:Nat):aw:=match bc (bo lX) i with | .Expr (.Call _ [e] _ _) _=>e |_=>.Constant .none 0 ⟨0,0,0,0⟩
def ad4:aw->c9
 | .ListComp _ _ L _=>L
 |_=>bg lX
def ai8:aw->aw
 | .ListComp _ (c::_) _ _=>aeO (aeO c.iter)
 |e=>e
theorem agB:∃p q p1 pos,Qv 7= .ListComp (.Name (NM 19) p1) (Ii 85 p (XS 85 q (ad4 (ai8 (Qv 7))))) (ad4 (Qv 7)) pos:=
 ⟨aaT [_,_,_,_,_,_,_,_,_,_,_,_,_,_],aaT [_,_,_,_,_,_,_,_,_,_],_,_,rfl⟩
theorem agC:∃p q p1 pos,Qv 9= .ListComp (.Name (NM 19) p1) (Ii 86 p (XS 86 q (ad4 (ai8 (Qv 9))))) (ad4 (Qv 9)) pos:=
 ⟨aaT [_,_,_,_,_,_,_,_,_,_,_,_,_,_],aaT [_,_,_,_,_,_,_,_,_,_],_,_,rfl⟩
def aaU(e:aw)(st:bT):Prop:=∃a1 a2 a3 a4,st= .Expr (.Call (.Attribute (.Name (NM 88) a1) (aC "extend") a2) [e] [] a3) a4/\(a2.endLine==a3.line)=N
theorem agD:aaU (Qv 7) (bc (bo lX) 7):=aeK _ _ _ _ Z Z
theorem agE:aaU (Qv 9) (bc (bo lX) 9):=aeK _ _ _ _ Z Z
section
variable{Il:cg}{sa sb:ae}{La Lb:Sg}{Q:b8->ae->Prop}{b d2:ab}
theorem rV(ws:LN):∀x∈dJ ws,x<2:=by
 have key:∀(l m:LN),(∀x∈m,x<2)->∀x∈l.foldl (λl wd=>l++n0 wd) m,x<2:=λl=>by
  induction l with
  |nil=>show λm h=>h
  |cons v l ih=>show λm h=>ih _ λx E=>(b9.mp E).elim (h x) λq=>bh (bG.mp q) λp _ e=>e▸mZ _ bz
 show key ws [] zk
theorem De{a0:ab}{ys:List aa}(hD:a0∉bY)(e:h.get? a0=O (br ys n))(ia:fh ys (ms.map aj)):bR h (a7 ms) (.ref a0) [a0]:=by have aO:=wI (h:=h) ia;rw[qk]at aO;show rZ [] hD e aO
theorem XU{vZ:c9}{ky kf k8 kl:Nat}{fa c' P' dT l:ab}{t8:aW}{oc oP:bj}(hh:dh A)(bM:A.depth<890)(B:cA U mg mb)(I:dQ mg mb)(hT:gi U)(gC:pR U P t f)(dH:aaU e st)(hLC:∃p q p1 pos,e= .ListComp (.Name (NM 19) p1) (Ii y p (XS y q vZ)) scope pos)(c:ed L scope [y,83] [92,93,19])(c2:ed L vZ [] [93])(dM:Gi scope "len")(aaS:Gi vZ "len")(hr:Gi L "range")(hm:Gi L "max")(h88:cq G 88=O (k8,.ptr (.ref b)))(hy:cq G y=O (ky,.ptr (.ref l)))(hf:cq G 83=O (kf,.ptr (.ref fa)))(p:PL H U L J aJ bq bA G S (La++(P',oP)::Lb) [] s)(hi:∀y∈S,gc y.2=N)(hG:Qr G=N)(wy:iI J=af)(F:aaP Il fa c' P' dT t8 fd oc sa sb)(qF:∀z∈La++Lb,z.1≠P')(h1:(fa,mL fd)∈La++Lb)(h2:(c',oc)∈La++Lb)(h4:(dT,cU [.int 8 t8] 0)∈La++Lb)(h5:(l,br [.ref d2] kl)∈La++Lb)(h6:(d2,kB ws)∈S)(hc:DL c' P' oc oP)(hw:lY ws)(yU:∀y∈jk b dx d ns,y∈S)(hn:lY ns)(hsz:ns.length+8 * ws.length<=1000)(hS:∀y∈S',(y.1=d/\y.2=kB (ns++dJ ws))\/(y.1≠d/\y∈S))(kk:∀Y oP',DL c' P' oc oP'->PL H U L J aJ bq bA G S' (La++(P',oP')::Lb) [] Y->C A (aU rest J) Y Q):C A (aU (st::rest) J) s Q:=by
 show og λgG kG=>?_;obtain⟨a1,a2,a3,a4,dX,lA⟩:=dH;obtain⟨pp,q,p1,pos,qD⟩:=hLC;show kG ?_;clear kG gG;subst dX;subst qD;have up:∀{z:ab×bj},z∈La++Lb->∀oP,z∈La++(P',oP)::Lb:=λh oP=>bf (b9.mp h) (λh=>dc _ h) λh=>ew _ (.tail _ h);have hP:∀oP,(P',oP)∈La++(P',oP)::Lb:=λoP=>ew _ (.head ..);show JI (ms:=ns++dJ ws) hh (fZ bM bz) B gC p hi (aq _ h88) Z yU hn Z lA wy hS λaD e1 p1=>ad2 hh (fZ bM bz) I c c2 dM aaS hr hm hy hf hw (p1.sg _ h6).2.1 (hc.2.2 aD.heap (p1.getL (up h2 _)) (p1.getL (hP _))) (alc B I hT p1 hG F (up h1 _) (up h2 _) (hP _) (up h4 _) (up h5 _) h6 hc) λa0 s2 ys n k hc2 nD eD ia=>bh (DL.of (k.keep _ _ (λq=>qF _ h2 (bJ.mp q)) (p1.getL (up h2 _))) hc2) λoP' eP hc'=>((agM (La++(P',oP')::Lb) [] (a7 (dJ ws)) [a0] (λu s=>∃F,bR s.heap (a7 (dJ ws)) u F) (p1.aeH hG hT k (λb D=>⟨oP,bJ.mp D▸hP _,hc.1⟩) (λz hz=>?_)) (De (λq=>?_) eD ia) (λu s F aO=>⟨F,aO⟩) (ud.list (λx E=>fZ (rV ws x E) bz) (by rw[pW];show hsz)) (λY p'=>kk Y oP' hc' p')))
 .have key:z∈La++Lb\/z=(P',oP'):=by show bf (b9.mp hz) (λh=>.inl (dc _ h)) λh=>(bu.mp h).elim .inr λh=>.inl (ew _ h)
  rcases key with h|rfl
  .show ⟨.inl (bG.mpr (ct z (up h _) Z)),k.keep _ _ (λq=>qF z h (bJ.mp q)) (p1.getL (up h _))⟩
  .show ⟨.inl (bG.mpr (ct _ (hP oP) Z)),eP⟩
 .show dG (hT _ q) λo e=>(dG (p1.ps.ext.there _ o e) λo' e'=>?_);have e':=nD▸e';ext
end
section
variable{Il:cg}{sa sb:ae}{La Lb:Sg}{Q:b8->ae->Prop}{b d2:ab}{cs:LN}
theorem Cq{c:aw}{a b:List bT}(p:PL H U L J aJ bq bA G S bw Gs s)(hc:oZ H s.heap A L J G c af)(k:∀Y,PL H U L J aJ bq bA G S bw Gs Y->C A (aU b J) Y (acf A J rest Q)):C A (aU (.If c a b pos::rest) J) s Q:=bh p.open λW q back=>(q.ite hc λY q'=>k Y (back _ _ _ _ q'))
theorem NN(x:Nat)(av:AV){q:aY}(p:PL H U L J aJ bq bA G S bw Gs s)(he:V H s.heap A L J G e av af)(hf:flat av=N)(dH:bW G x=N)(E:Hx L x)(hs:fu e (O (.Name (NM x) q)) pos.line J=pure af)(k:∀Y,PL H U L J aJ bq bA (jm G x 0 av) S bw Gs Y->C A (aU rest J) Y Q):C A (aU (.Assign [.Name (NM x) q] e pos::rest) J) s Q:=bh p.open λW q back=>(q.asg he hf dH E hs λY q'=>k Y (back _ _ _ _ q'))
def gMf(lv:Nat)(b fa ta l1 l2 r:ab):ig:=[(72,0,.int (-2)),(81,0,aT lv),(82,0,.ptr (.ref b)),(83,0,.ptr (.ref fa)),(84,0,.ptr (.ref ta)),(85,0,.ptr (.ref l1)),(86,0,.ptr (.ref l2)),(87,0,.none),(88,0,.ptr (.ref r))]
def aaV:List bT:=[bc (bo lX) 8,bc (bo lX) 9,bc (bo lX) 10,bc (bo lX) 11,bc (bo lX) 12,bc (bo lX) 13]
theorem ald{lv k1 k2:Nat}{fa c' P' dT l1 l2 ta b1 d1 e1:ab}{t8:aW}{oc oP:bj}{S0:Sg}(hh:dh A)(bM:A.depth<890)(B:cA U mg mb)(I:dQ mg mb)(hT:gi U)(gC:pR U P t f)(p:PL H U (bg lX) J aJ bq bA (gMf lv b1 fa ta l1 l2 b) (jk b dx d []++(e1,kB cs)::(d1,kB ws)::S0) ([(l1,br [.ref d1] k1),(l2,br [.ref e1] k2),(fa,mL fd),(c',oc)]++(P',oP)::[(dT,cU [.int 8 t8] 0)]) [] s)(hi:∀y∈S0,gc y.2=N)(ZP:∀y∈(e1,kB cs)::(d1,kB ws)::S0,y.1≠d)(hbd:b≠d)(hxd:dx≠d)(wy:iI J=af)(F:aaP Il fa c' P' dT t8 fd oc sa sb)(qF:∀z∈[(l1,br [.ref d1] k1),(l2,br [.ref e1] k2),(fa,mL fd),(c',oc)]++[(dT,cU [.int 8 t8] 0)],z.1≠P')(hc:DL c' P' oc oP)(hw:lY ws)(hw2:lY cs)(hsz:8 * ws.length+8 * cs.length<=1000)(kk:∀Y G',PS H U (bg lX) J aJ bq bA G' (jk b dx d (dJ ws++dJ cs)++S0) Y->Q (.ret (.ref b)) Y):C A (aU (bc (bo lX) 7::aaV) J) s Q:=by
 have SX:∀(ns:LN) (X:Sg),∀y∈jk b dx d ns,y∈jk b dx d ns++X:=λ_ _ y hy=>dc _ hy;have ι:∀(ns ms:LN) (X:Sg),(∀y∈X,y.1≠d)->∀y∈jk b dx d ms++X,(y.1=d/\y.2=kB ms)\/(y.1≠d/\y∈jk b dx d ns++X):=λns ms X hX y hy=>by
  show bf (b9.mp hy) (λq=>?_) λq=>.inr ⟨hX y q,ew _ q⟩;apply Df q
  .show .inr ⟨hbd,AF Z⟩
  .show .inr ⟨hxd,by simp[jk]⟩
  .show .inl ⟨rfl,rfl⟩
 have Gk:∀(ns:LN),∀y∈jk b dx d ns++(e1,kB cs)::(d1,kB ws)::S0,gc y.2=N:=λns y hy=>by
  rcases b9.mp hy with q|q
  .simp only[jk,bu,mX,or_false]at q;rcases q with rfl|rfl|rfl<;>rfl
  .rcases bu.mp q with rfl|q
   .rfl
   .rcases bu.mp q with rfl|q
    .rfl
    .show hi y q
 have l1w:(dJ ws).length=8 * ws.length:=pW ws;have l1c:(dJ cs).length=8 * cs.length:=pW cs;have agF:∀l,∀x∈dJ l,x<256:=λl x E=>fZ (rV l x E) bz;show XU (y:=85) (ky:=0) (kf:=0) (k8:=0) (kl:=k1) (l:=l1) (ns:=[]) (ws:=ws) hh bM B I hT gC agD agB (ed.of (by decide+kernel)) (ed.of (by decide+kernel)) (by rfl) (by rfl) (by rfl) (by rfl) Z Z Z p (Gk []) Z wy F qF (.tail _ (.tail _ (.head _))) (.tail _ (.tail _ (.tail _ (.head _)))) (.tail _ (.tail _ (.tail _ (.tail _ (.head _))))) (.head _) (.tail _ (.tail _ (.tail _ (.tail _ (.head _))))) hc hw (SX _ _) ⟨λ_ h=>(kJ h),fg _⟩ (by rw[KJ];lia) (ι _ (dJ ws) _ ZP) λs1 oP1 hc1 p1=>Cq p1 (SW (aq 87 Z)) λs2 p2=>eZ<|XU (y:=86) (ky:=0) (kf:=0) (k8:=0) (kl:=k2) (l:=l2) (ns:=dJ ws) (ws:=cs) hh bM B I hT gC agE agC (ed.of (by decide+kernel)) (ed.of (by decide+kernel)) (by rfl) (by rfl) (by rfl) (by rfl) Z Z Z p2 (Gk _) Z wy F qF (.tail _ (.tail _ (.head _))) (.tail _ (.tail _ (.tail _ (.head _)))) (.tail _ (.tail _ (.tail _ (.tail _ (.head _))))) (.tail _ (.head _)) (.tail _ (.tail _ (.tail _ (.head _)))) hc1 hw2 (SX _ _) ⟨agF ws,by lia⟩ au (ι _ (dJ ws++dJ cs) _ ZP) λs3 oP3 hc3 p3=>NN 89 (.int 0) p3 V.int Z Z v7 Z λs4 p4=>Cq p4 (oZ.to (NK [2,3,4,5,6] (-2) (p4.ps.base B).top (aq 72 Z) Z Z Z) Z) λs5 p5=>Cq p5 (oZ.to (NK [14,15,16,17,18,19,20,28,29,30,31,32,33,34] (-2) (p5.ps.base B).top (aq 72 Z) Z Z Z) Z) λs6 p6=>Cq p6 (oZ.to (NK [21,22,23,24,25,26,27] (-2) (p6.ps.base B).top (aq 72 Z) Z Z Z) Z) λs7 p7=>eZ<|eZ<|eZ<|have okc:lY (dJ ws++dJ cs):=⟨λx E=>(b9.mp E).elim (agF ws x) (agF cs x),by rw[iw];lia⟩;JI (ms:=dJ ws++dJ cs) hh (fZ bM bz) B gC p7 (Gk _) (aq (k:=0) 88 Z) Z (SX _ _) okc Z Z wy (ι _ (dJ ws++dJ cs) _ ZP) λaD x1 p8=>(cR (Eh (PySem.W.Constant_bytes ((v9 (p8.er.ext (dz.toks aD (aD.toks+1)).ext) (x:=89) (k:=0) (av:=.int 0) Z).wpV λu F9 V9=>?_))));apply bR.zI V9;intro tu;show bh p8.open λW q8 G_=>SU Z ⟨_,_,.ptr (.bytes #[] _),[],λu s=>u= .bytes #[] (aD.toks+1),(G_ _ _ _ _ (q8.grow (.toks aD (aD.toks+1+1)))),.ir _,λu s F aO=>aO.DA,ud.nil okc.2,λY p'=>?_⟩
 .show PS.afu (p'.ps.sub (S':=jk b dx d (dJ ws++dJ cs)++S0) λy hy=>bf (b9.mp hy) (λq=>dc _ q) λq=>ew _ (bZ _ (bZ _ q))) (aq (k:=0) (av:=.ptr (.ref b)) 88 Z) Z λY v q aO=>?_;have ev:=aO.DA;subst ev;show kk _ _ q
end
section
variable{Il:cg}{sa sb:ae}{La Lb:Sg}{Q:b8->ae->Prop}{P2:bS}{t2:Nat->aW}{Ij:bQ}{b d2:ab}{cs:LN}
theorem Ik.ale{lv:Nat}{ta ei:ab}(x:hJ H U s.heap)(EA:Ik U lv ta ei l):∃f1 d2 f2,s.heap.MapOf (dZ) 139 f1/\f1 (.int (-2))=O (.ref d2)/\s.heap.MapOf (dZ) d2 f2/\d2∉bY/\f2 (.int (aj lv))=O (.ref ta):=by show og λgG kG=>?_;obtain⟨f1,d2,f2,⟨o,es,ep,a1,a2⟩,b,⟨o',es',ep',c1,c2⟩,hd,e⟩:=EA.1;show kG ?_;clear kG gG;show⟨f1,d2,f2,⟨o,es,ep,x.keep _ _ (DM Z) a1,a2⟩,b,⟨o',es',ep',x.keep _ _ hd c1,c2⟩,hd,e⟩
theorem ad5{lg ex:LN}{gp ta ei c:ab}{lv:Nat}{v1 v3:aW}(hh:dh A)(bM:A.depth<780)(B:cA U mg mb)(I:dQ mg mb)(I2:t9 mg mb)(hT:gi U)(gC:pR U P t f)(NB:qU U f)(OM:Zz U mg P t f P2 t2 fd lg ex gen gp Ij)(hE:mg (aC "ECC")=O (.ref 139))(EA:Ik U lv ta ei [1,n+1+gen.length,n+1])(hBf:mg (aC "Buffer")=O (.ref 2002))(hv1:mg (aC "VERSION_M1")=O (.int (-3) v1))(hv3:mg (aC "VERSION_M3")=O (.int (-1) v3))(o9:J.code= .ref c)(OE:c∉bY)(ou:U.IsCode c 1923 #[])(vH:U.TableAt c 1923 #[])(h23:1923∉H)(h79:1979∉H)(hn:lY ns)(dM:ns.length=8 * (n+1))(Ab:∀x∈ns,x<2)(hw:lY (wordsOf ns (n+1)))(HS:n+1<=100)(xh:cs=(gU lg ex gen (wordsOf ns (n+1)++cb gen.length 0) (wordsOf ns (n+1)).length).drop (wordsOf ns (n+1)).length)(Dr:lY cs)(hsz:8 * (wordsOf ns (n+1)).length+8 * cs.length<=1000)(p:PS H U (bg lX) J aJ bq bA (qG [72,81,82] [.int (-2),aT lv,.ptr (.ref b)]) S s)(hi:∀y∈S,gc y.2=N)(yU:∀y∈jk b dx d ns,y∈S)(kk:∀Y G' b2 dx2 d2,PS (1979::1923::H) U (bg lX) J aJ bq bA G' (jk b2 dx2 d2 (dJ (wordsOf ns (n+1))++dJ cs)++S) Y->Q (.ret (.ref b2)) Y):
 C A (aU (bo lX) J) s Q:=by
 change C _ (aU (bc (bo lX) 0::jU::bc (bo lX) 2::bc (bo lX) 3::bc (bo lX) 4::bc (bo lX) 5::bc (bo lX) 6::bc (bo lX) 7::aaV) J) s Q;show p.s1 (S1.m (zY Z)) λs1 p1=>iq<|Lake.T.wx (adX (τ':=1923::H) B hT (by decide+kernel) Z o9 OE ou vH (nme Z) h23 (cQ ..) (λb D=>bZ _ D) p1) λfl s2 oq=>eX oq λe2 i=>ji i λfa c' i=>ji i λP' dT i=>ji i λt8 fdt i=>eQ i λoc sx F p2=>dU F λF1 _ _ _ _ _ _ alf=>dU alf λ_ _ F10 _ F12 F13 F14 Qq=>eX Qq λ_ _=>?_;subst e2;show uy (EA.ale p2.ps.ext) λf1 d2 f2 m1 e1 m2 hd2 e2=>NN 84 (.ptr (.ref ta)) p2 (XT m2 hd2 e2 (XT (k:= -2) m1 (DM Z) e1 (B4 (p2.ps.base B) (by decide+kernel) hE (by decide+kernel)) (aq 72 Z) Z) (aq (av:=aT lv) 81 Z) Z) Z Z (.inl (by decide+kernel)) Z λs3 p3=>dG EA.2.1 λm ht=>ad3 (x:=85) (y:=86) hh (.inr (by decide+kernel)) (.inr (by decide+kernel)) Z Z Z Z (ai7 (τ':=1979::1923::H) (k1:=0) (k2:=0) hh au B I I2 hT OM (λq=>(bu.mp q).elim (λq=>absurd q (uf Z)) h79) (cQ ..) (λb D=>bZ _ D) (by rfl) ht EA.2.2.1 EA.2.2.2 Z hn dM Ab hw HS p3 hi Z Z yU
  λv s4 l1 l2 bl N0 k1 k2 rr o p4 aO=>⟨_,_,_,_,_,_,p4.aii (S':=(N0,kB cs)::(bl,kB (wordsOf ns (n+1)))::S) (λy hy=>?_),aO,λs5 p5=>?_⟩)
 .subst xh;show bf (bu.mp hy) (λq=>q▸cQ ..) λq=>bf (bu.mp q) (λq=>q▸bZ _ (cQ ..)) λq=>bZ _ (bZ _ (bZ _ q))
 .show NN 87 .none p5 V.none Z Z (.inl (by decide+kernel)) Z λs6 p6=>Cq p6 (oZ.to (WX (x:= -2) (ys:=[.int (-3),.int (-1)]) (ms:=[-3, -1]) (aq 72 Z)
   (uj (p6.ps.base B).top (fJ.cons (qM (p6.ps.base B) (rfl) hv1 (rfl)) (fJ.cons (qM (p6.ps.base B) (rfl) hv3 (rfl)) fJ.nil Z) Z) Z Z) Z Z) Z) λs7 p7=>eZ ?_
  have hiS:∀y∈(N0,kB cs)::(bl,kB (wordsOf ns (n+1)))::S,gc y.2=N:=λy hy=>by
   rcases bu.mp hy with rfl|q
   .rfl
   .rcases bu.mp q with rfl|q
    .rfl
    .show hi y q
  show bh p7.open λW q7 back=>(yR (x:=88) Z (.inl (by decide+kernel)) Z (acI B I gC.pG NB au hBf (by rfl) q7 hiS λs8 b2 dx2 d3 h1 h2 h3 hS q8=>⟨_,_,_,q8,.ir _,rfl,λs9 q9=>?_⟩));have p9:=back _ _ _ _ q9;show ald (lv:=lv) (b1:=b) (ta:=ta) (l1:=l1) (l2:=l2) (k1:=k1) (k2:=k2) (oP:=tabObj #[]) (S0:=S) hh au B I hT gC p9 hi (λy hy=>(hS y hy).2.2) h2 h3 (by show bh p.fr λW r _=>?_;delta iI;rw[r.scope];rfl) F (λz hz q=>?_) ?_ hw Dr hsz λY G' p'=>kk Y G' b2 dx2 d3 p'
  .have hP:=p9.getL (a:=P') (o:=tabObj #[]) bB
   revert q;apply Wb hz<;>(intro q;dsimp only at q)
   .have:=p9.getL (cQ ..);have this:=hP▸q▸this;cases this
   .have:=p9.getL (bZ _ (cQ ..));have this:=hP▸q▸this;cases this
   .have:=F1;have this:=F14▸q▸this;cases this
   .show I1 F13 q
   .have:=F10;have this:=F14▸q▸this;cases this
  .show bh (DL.of F12 ⟨_,F13⟩) λoP e1 e2=>?_;rw[F14]at e1;obtain rfl:=aV e1;show e2
end
section
variable{Il:cg}{sa sb:ae}{La Lb:Sg}{Q:b8->ae->Prop}{P2:bS}{t2:Nat->aW}{Ij:bQ}{b d2:ab}{cs:LN}
theorem SY{o:aw}{apos:aY}(B:cA U mg mb)(gC:pR U P t f)(bM:A.depth<1000)(hB:wm U b dx d ns)(he:V H U A L J G o (aX (R b)) af)(xj:uU o (aC "getbits") J (aZ o J)=aZ o J)(lA:(apos.endLine==pos.line)=N):
 V H U A L J G (bI (iJ o (aC "getbits") apos) [] [] pos) (aX (R d)) fr:=λs r=>by
 show uu xj (rfl) lA ((he r).tN λv aD F1 e1 V1 _ pl=>?_);apply bR.FX V1;have x1:=r.base.trans e1.ext;have hB1:=hB.ext x1;show DF (jo gC.pG x1) hB1 acr Ϗ Z<|bh gC.dJ.at_.obj λob ho hd=>LF (evalArgs_nil3 ⟨⟨x1.keep _ _ gC.dJ.at_.off ho,hd⟩,?_⟩);show(RB (τ':=H) (G':=[]) [110] [aX (R b)] (aX (R d)) [] B x1 bM gC.dJ Z Z Z ?_ (eg [] [] (.ir _) .nil) aK Z aK λfV=>SS.m (tQ (S1.ret (V.data (x:=110) (jo gC.pG x1) hB1.obj hB1.WV hB1.t1 hB1.t2 Z)))).wp3 λv Y F e aO=>aO.DA▸⟨e1.trans e,[],.ir _,d9⟩
 delta du
 show gC.dJ.params.symm▸gC.ϕ.symm▸?_;rfl
theorem PS.ai9{q:aY}(p:PS H U L J aJ bq bA G S s)(hf:wa av=N)(dH:bW G x=N)(E:Hx L x)(hs:fu e (O (ar (NM x) q)) pos.line J=pure N)(he:∀(u:aa->aE Unit) (Q:Unit->ae->Prop),(∀v Y F bp m,Tk [] s Y->bR Y.heap av v F->(∀b∈F,s.heap.get? b=ai)->F.Nodup->Y.heap.Ns bp m->s.heap.get? bp=ai->bp∉F->C A (u v) Y (λ_ mF=>∃m,mF.heap.Ns bp m/\∀h',gw bp mF.heap h'->Q () {mF with heap:=h'}))->C A (Ke e J u) s Q)(hT:gi U)(k:∀Y,PS H U L J aJ bq bA (jm G x 1 av) S Y->C A (aU rest J) Y Q):C A (aU (fE [ar (NM x) q] e pos::rest) J) s Q:=by
 show bh p.fr λW r hW=>iq<|(Td (hs:=hs)).symm▸nQ (C.bind (he _ _ λv aD F bp m t aO h1 h2 wJ nK hKF=>?_));have x1:z8 H s aD:=⟨t.x,t.os,t.drawn,t.gens⟩;have hKW:bp∉W:=λq=>by show oU (r.jj bp q) λ_ _ o e _=>?_;have e:=nK.symm.trans e;ext
 have hKT:bp∉bY:=λq=>by show dG (hT bp q) λo e=>(dG (p.ext.there _ _ e) λo' e'=>?_);have e':=nK.symm.trans e';ext
 show T.wx (jE ((kb (r.grow x1.ext) E dH aO (.fresh h1 h2 (Gh hf aO) r x1.ext)).wp λ_ aQ q=>q)) λ_ aQ qQ=>eX qQ λr2 m2=>eY wJ λoK es ep eK rK=>have eK2:=m2.mod.keep _ _ hKW hKT eK;ct m ⟨oK,es,ep,eK2,rK⟩ (λh' sb=>C.pure (k _ ?_));have kp:∀b o,b∉[bp]->aQ.heap.get? b=O o->h'.get? b=O o:=λb o D e=>sb.extBut _ _ (λq=>D (bJ.mpr q)) e;have r3:=r2.off kp λb D=>(bJ.mp D).symm▸⟨(ct oK eK2 (aH (ao ⟨es,ep,rK.1⟩))),hKT,(p.ext.new nK),λq=>(b9.mp q).elim hKW hKF⟩;show⟨(kH (W++F) r3 (λb D=>(b9.mp D).elim (hW.1 b) λq=>aH (p.mod.mod.new (h1 b q))) (λy hy q=>?_)),λy hy=>?_,((p.Xe x1).mod.trans m2.p λd hd=>(hW.1 d hd).elim (λq=>ao (dc _ q)) aH).off kp λb D=>(bJ.mp D).symm▸⟨p.mod.mod.new nK,hKT⟩,p.lD⟩
 .rcases b9.mp q with q|q
  .show hW.2 y hy q
  .have:=h1 _ q;have this:=((p.sg y hy).1).symm.trans this;ext
 .show iM (((p.sg.ext x1.ext).mod m2.mod hW.2) y hy) λa1 a2 a3 a4=>((rO (kp _ _ (λq=>?_) a1) a2 a3 a4));have:=(p.sg y hy).1;have this:=nK▸(bJ.mp q)▸this;ext
def aja(s Y:ae)(X:List ab)(cj:List (LN))(as:List ab):Prop:=
 as.Nodup/\
 (∀a∈as,s.heap.get? a=ai/\a∉X)/\
 ∀(j:Nat) a row,as[j]? =O a->cj[j]? =O row->∃ws n,Y.heap.get? a=O (br ws n)/\fh ws (row.map aj)
inductive ajb(I' T a0 bp:ab)(cj:List (LN))(s:ae)(k:Nat)(Y:ae):Prop
 |mk (i:Nat) (as:List ab) (n:Nat) (m:aP->Option aa) (e:k=cj.length - i) (hi:i<=cj.length) (t:Tk [] s Y) (nn:Y.heap.Ns bp m) (li:Y.heap.IsTupleIter I' T i) (d:Y.heap.get? a0=O (br (as.map R) n)) (Dz:as.length=i) (aM:aja s Y [I',a0,bp] cj as)
theorem Qw(as:List ab):∀(cj:List (LN)),as.length=cj.length->(∀a∈as,a∉bY)->(∀(j:Nat) a row,as[j]? =O a->cj[j]? =O row->∃ws n,h.get? a=O (br ws n)/\fh ws (row.map aj))->
 bC h (cj.map a7) (as.map R) as:=by
 induction as with
 |nil=>
  intro yY;cases yY with
  |nil=>show λ_ _ _=>.nil
  |cons=>intros;first|ext|(simp at *)
 |cons a as iH=>
  intro yY;cases yY with
  |nil=>intros;first|ext|(simp at *)
  |cons row cj=>show λhl hT hr=>eQ (hr 0 a row Z Z) λws n e ia=>DP _ _ [a] as Z (De (hT a (iz ..)) e ia) (iH cj (VV hl) (λb D=>hT b (dF _ D)) (λj b r h1 h2=>hr (j+1) b r h1 h2)) Z
theorem ZA{gs:List sF}{K:LN}{u:aa->aE Unit}{Q:Unit->ae->Prop}(c:ed L scope fs K)(jB:rb scope J=pure cl)(hs:Fs iter J)(h:C A (aZ iter J) s (λx aD=>C A (gm x) aD (λit aQ=>QH<=aQ.heap.objs.size/\(∀(A':ck) fq (Q:aa->ae->Prop),Tk [] aQ fq->Q it fq->C A' (gm it) fq Q)/\
 ∀a0 bp fq,Tk [] aQ fq->aQ.heap.get? a0=ai->aQ.heap.get? bp=ai->a0≠bp->bp∉bY->fq.heap.get? a0=O (br [] 0)->fq.heap.Ns bp (λ_=>ai)->
  CC (A.mark ai) (hb (cP elt (⟨cu,iter,ifs,0⟩::gs) scope pos) 0 it (R a0) (ju scope cl bp J)) fq (λr Y=>match r with|cf _=>C A (u (R a0)) Y (λ_ mF=>∃m,mF.heap.Ns bp m/\∀h',gw bp mF.heap h'->Q () {mF with heap:=h'})|kY _=>False)))):
 C A (Ke (cP elt (⟨cu,iter,ifs,0⟩::gs) scope pos) J u) s Q:=by
 show C.bind (C.mono ?_ λ_ Y h=>C.pure h)
 delta Eg
 show jB.symm▸(show Kk (cP elt (⟨cu,iter,ifs,0⟩::gs) scope pos)=⟨cu,iter,ifs,0⟩::gs from rfl).symm▸C.bind (h.mono λx aD U=>nQ (C.bind (C.eq (hs x) (lI (C.mono U λit aQ oq=>?_)))));show hx oq λtop self kq=>(nQ (lC (ij (C.bind (C.pure (lC (Ak c.cell (by intro y hy;show kJ hy) (λh3 sd wL=>?_) c.kind)))))));dsimp only at sd wL ⊢;generalize δ:aQ.heap.push {cls:=ak "list",dict:=ai,data:=bU ([]:List aa).toArray}=H2 at sd wL ⊢;have hC:H2.objs.size=aQ.heap.objs.size+1:=by rw[<-δ,dD]
 generalize H2.objs.size=bp at sd wL hC ⊢;have NZ:aQ.heap.objs.size≠bp:=by rw[hC];show fB (jb _)
 have hK:aQ.heap.get? bp=ai:=by
  cases q:aQ.heap.get? bp with
  |none=>rfl
  |some o=>show absurd (cn q) (by rw[hC];show j5.mpr (lQ _))
 have tk:Tk [] aQ {aQ with heap:=h3,toks:=aQ.toks+([]:List (aP×aa)).length}:=.heap λb o _ e=>wL.extBut b o (λq=>by have e:=hK▸q▸e;ext) (by show δ▸?_;show a8 _ (a8 _ e));have loop:=kq aQ.heap.objs.size bp _ tk (bF _) hK NZ (fi (ba top (hC▸lQ _))) (wL.extBut _ _ NZ (by show δ▸?_;show a8 _ (bK _ Z))) sd;show C.holding (C.bind (C.attempt (C.holding (C.run (CC.mono (pI Z loop (self _ _ _ tk loop)) λr Y hr=>?_)))));cases r with
 |error _=>show hr.elim
 |ok f=>
  show C.bind (C.rule (lI (C.mono hr λ_ mF qQ=>bh qQ λm hn hq=>lC (TF (cenv:=ju scope cl bp J) c.kind _ mF m (λx E hl=>?_) hn λh' m' _ zL=>C.pure (hq h' zL)))));show(λx E hl=>xC (c.names x (gq.mp E).1 hl)) x (by
   rcases b9.mp E with q|q
   .show EI.mp (ro q)
   .show EI.mp (AG q)) hl
set_option tactic.hygienic true in
theorem ad6{p1 p2 p3 p4:aY}{Q:Unit->ae->Prop}(c:ed L scope [] [31])(hls:Gi scope "list")(hh:dh A)(B:cA s.heap mg mb)(I:dQ mg mb)(hT:gi s.heap)(r:ER [] s.heap L J s.heap G)(h9:cq G 9=O (k,uq rs))(hl:rs.length=cj.length)(D:∀(j:Nat) a row,rs[j]? =O a->cj[j]? =O row->s.heap.get? a=O (kB row)/\a∉bY/\lY row)(dM:cj.length<=1000){u:aa->aE Unit}(hq:∀v Y F bp m,Tk [] s Y->bR Y.heap (zt cj) v F->(∀b∈F,s.heap.get? b=ai)->F.Nodup->Y.heap.Ns bp m->s.heap.get? bp=ai->bp∉F->C A (u v) Y (λ_ mF=>∃m,mF.heap.Ns bp m/\∀h',gw bp mF.heap h'->Q () {mF with heap:=h'})):
 C A (Ke (cP (bI (ar (aC "list") np) [ar (NM 31) p1] [] p2) [⟨ar (NM 31) p3,ar (NM 9) p4,[],0⟩] scope pos) J u) s Q:=by
 show bh (c.Ol r Z) λcl jB wM=>ZA c jB (λ_=>rfl)<|T.wcV (v9 r h9) λv F aO=>gI aO λT vs nT dX hTT hTo hVs=>(dX▸?_);have Ϭ:∀(j:Nat) a,rs[j]? =O a->vs[j]? =O (R a):=λj a e=>by show jy (hVs.get (by rw[cY,e];rfl)) λv F' e1 e2 _=>?_;rw[e1,e2.DA]
 have hvl:vs.length=rs.length:=by have:=hVs.length;simpa using this
 have agG:∀{Y:ae},Tk [] s Y->Y.heap.IsTuple T vs.toArray:=λt=>⟨_,t.keep _ _ (λq=>kJ q) hTo,rfl,nT,rfl⟩;have hnl:s.heap.get? s.heap.objs.size=ai:=bF _;show cR (JT (agG (.refl _ _)) (gS ?_ (λA' fq Q t hQ=>cR (wpAny_pyIter_tupleiter ⟨_,t.keep _ _ (λq=>kJ q) (bK _ Z),rfl,rfl⟩ hQ)) (λa0 bp fq t hD hK NZ hKT ot wJ=>?_)))
 .rw [dD];show ql (jz (H:=[]) B.top (.refl _))
 have t1:Tk [] s {s with heap:=s.heap.push {cls:=ak "tuple_iterator",data:=bH #[R T,ah 0 0]}}:=.heap λb o _ e=>a8 _ e;have hDL:a0≠s.heap.objs.size:=λq=>by rw[q,bK _ Z]at hD;ext
 have hKL:bp≠s.heap.objs.size:=λq=>by rw[q,bK _ Z]at hK;ext
 have nD:=(Tk.x (H:=[]) t1).new hD;have nK:=(Tk.x (H:=[]) t1).new hK;have li0:fq.heap.IsTupleIter s.heap.objs.size T 0:=kH _ (t.keep _ _ (λq=>kJ q) (bK _ Z)) Z Z;generalize s.heap.objs.size=I' at *;have E:(jw scope J).names.lookup (NM 31)=O cZ:=xC (c.locs 31 (bJ.mpr Z));have hnT:∀{a:ab},s.heap.get? a=ai->a∉bY:=λe q=>dG (hT _ q) λo e'=>by have e':=e.symm.trans e';ext
 show ua Z Z (ajb I' T a0 bp cj s) ?_ cj.length
  ⟨0,[],0,_,rfl,fg _,t1.trans t (zk),wJ,li0,ot,rfl,⟨rL,(zk),λ_ _ _ h=>Bk h⟩⟩
 rintro _ Y Kp P1 P2 P3 P4 Kh H0 H1 H2 H3 _ H4 ⟨i,as,n,m,dX,hi,t2,Pw,li,d2,Dz,aM⟩;show hx aM λR1 R2 R3=>?_;rcases AQ hi with jA|rfl
 .show dG (show∃row,cj[i]? =O row from⟨_,dE jA⟩) λrow Oq=>?_;show dG (show∃a,rs[i]? =O a from⟨_,dE (hl▸jA)⟩) λa ha=>?_;show hx (D i a row ha Oq) λb1 b2 b3=>(cR (wpAny_pyNext_tuple_item li (agG t2) (by rw[Ky];show Ϭ i a ha) λh3 li3 zF=>?_));show H1 _ _ (C.eq Z (cR (jE (sC E (Pw.at' λo e=>zF.extBut _ o hKL e) (λh4 Zx IZ=>H2 _ (uM (H3 _ ?_))) (by rw[show(jw scope J).kind=d0 from c.kind];rfl:((jw scope J).kind== .class ||((jw scope J).kind== .module && bp != J.globals))=af)))));have k4:∀b o,b≠I'->b≠bp->Y.heap.get? b=O o->h4.get? b=O o:=λb o q1 q2 e=>IZ.extBut _ _ q2 (zF.extBut _ _ q1 e);have t4:∀tk,Tk [] s {Y with heap:=h4,toks:=tk}:=λtk=>t2.trans (.heap λb o D e=>Dg D λh1 h2=>k4 b o h1 h2 e) (SP hnl nK);show Lake.T.wcE (Jt (fr:=N) hh (B.ext ((t4 0).x (H:=[]))) I hls ((t4 0).keep _ _ (λq=>kJ q) b1) b2 b3 (aq _ Z) Z (Cp c (r.ext (t4 0).x).re wM Zx hKT (XR (bJ.mpr Z) (if_pos Z) (.ir _) HNm.nil))) λv s5 F5 e5 V5 nf=>(iQ V5 λla ws nl F' ZN _ Iz V' eQ6=>?_);subst ZN;subst eQ6;have n4:h4.get? la=ai:=((nf Z).1) la (iz ..);have t5:=e5.tk (X:=[]);have d4:=k4 _ _ hDL NZ d2;have nla:∀b o,h4.get? b=O o->la≠b:=λb o e q=>by subst q;have e:=n4.symm.trans e;ext
  have laD:=nla _ _ d4;show bh li3 λoI eI rI=>bh (Dc Zx) λoK eK _=>H4 _ _ (cR (Aj ⟨n,(t5.keep _ _ (λq=>kJ q) d4)⟩ (λh7 qQ sb7=>dG qQ λn7 e7=>?_) (by have:fc=16777216:=jX;simp;lia)));show Kh (cj.length - (i+1)) _ (dX▸rx jA (jb i)) ⟨i+1,as++[la],n7,_,rfl,jA,(((t4 _).trans t5 zk)).trans (.heap λb o D e=>sb7.extBut _ _ (λq=>D (bJ.mpr q)) e) (λb D=>aH (bJ.mp D▸nD)),Zx.at' λo e=>sb7.extBut _ _ (eO NZ) (t5.keep _ _ (λq=>kJ q) e),
   (li3.at λo e=>IZ.extBut _ _ (eO hKL) e).at λo e=>sb7.extBut _ _ (eO hDL) (t5.keep _ _ (λq=>kJ q) e),by rw[e7];simp[br],by rw[iw,Dz];rfl,⟨?_,λb D=>?_,λj b rw h1 h2=>?_⟩⟩
  .show qi.mpr ⟨R1,by simp,λx E y hy q=>?_⟩;rw[bJ.mp hy]at q;show dG (sR E) λj hj=>?_;show eX (R2 x E) λr1 r2=>have hjl:=fZ (Dz▸(dR.mp hj).1) jA;eQ (R3 j x _ hj (dE hjl)) λws' n' e' _=>?_;show FV r2 λr1 _ r3=>nla x _ (k4 _ _ r1 r3 e') q.symm
  .rcases b9.mp D with q|q
   .show R2 b q
   .rw [bJ.mp q];show⟨(t4 0).none (λq=>kJ q) n4,aeN (nla _ _ (IZ.extBut _ _ (eO hKL) eI)) laD (nla _ _ eK)⟩
  .replace h1:=List.getElem?_append▸h1;split at h1
   .show eX (R2 b (cW h1)) λr1 r2=>eQ (R3 j b rw h1 h2) λws' n' e' ia'=>FV r2 λr1 r2 r3=>kI ws' n' (sb7.extBut _ _ r2 (t5.keep _ _ (λq=>kJ q) (k4 _ _ r1 r3 e'))) ia'
   .rename_i hj
    have hj0:j=i:=by have:=(dR.mp h1).1;simp at this;lia
    cases hj0
    rw[Dz,Ll]at h1;show aV h1▸aV (Oq.symm.trans h2)▸kI ws nl (sb7.extBut _ _ laD Iz) (intsAre_of V' (dS row))
 .show cR (JN hh li (agG t2) (by rw[Ky];show rn (by simp[*])) λh3 zF=>?_);have k4:∀b o,b≠I'->Y.heap.get? b=O o->h3.get? b=O o:=λb o q1 e=>zF _ _ q1 e;have t4:Tk [] s {Y with heap:=h3}:=t2.trans (.heap λb o D e=>k4 b o (λq=>D (bJ.mpr q)) e) λb D=>aH (bJ.mp D▸hnl);show H0 _ (hq (R a0) _ (a0::as) bp m t4 (rZ as (hnT nD) (k4 _ _ hDL d2)<|Qw as cj Dz (λb D=>hnT (R2 b D).1)<|λj b rw h1 h2=>eQ (R3 j b rw h1 h2) λws' n' e' ia'=>kI ws' n' (k4 _ _ (vw ((R2 b (cW h1)).2)) e') ia') (λb D=>?_) (rp.mpr ⟨λq=>(R2 a0 q).2 au,R1⟩) (Pw.at' λo e=>zF _ o hKL e) nK λq=>(bu.mp q).elim (eO NZ) λq=>(R2 bp q).2 au);show bf (bu.mp D) (λq=>q▸nD) λq=>(R2 b q).1
end
def agH(U:aN)(mg:aP->Option aa)(P:bS)(t:Nat->aW)(f:Nat->bQ):Prop:=
 pR U P t f/\
 (∃v,mg (aC "VERSION_M1")=O (.int (-3) v))/\
 (∃v,mg (aC "VERSION_M2")=O (.int (-2) v))/\
 ∃v,mg (aC "VERSION_M3")=O (.int (-1) v)
def ajc(U:aN)(mg:aP->Option aa)(f:Nat->bQ)(QF:bQ):Prop:=
 qU U f/\
 mg (aC "ECC")=O (.ref 139)/\
 mg (aC "Buffer")=O (.ref 2002)/\
 (∃v,mg (aC "ERROR_LEVEL_L")=O (.int 1 v))/\
 (∃v,mg (aC "ERROR_LEVEL_M")=O (.int 0 v))/\
 mg (aC "make_final_message")=O (.ref 1926)/\
 qT U 1926 QF lX/\
 QF.defaults= .none/\
 QF.code= .ref 1925/\
 U.IsCode 1925 1923 #[]/\
 U.TableAt 1925 1923 #[]
def ajd(U:aN)(mg:aP->Option aa)(XW:bQ)(QD:bQ):Prop:=
 mg (aC "make_matrix")=O (.ref 1939)/\
 qT U 1939 XW oi/\
 XW.defaults= .ref 1932/\
 (∃n,U.get? 1932=O (cU [.bool N,.bool N] n))/\
 XW.code= .ref 1938/\
 U.IsCode 1938 1934 #[]/\
 U.TableAt 1938 1934 #[]/\
 mg (aC "add_timing_pattern")=O (.ref 1914)/\
 qT U 1914 QD (cS 19)/\
 QD.defaults= .none
def aje(U:aN)(mg:aP->Option aa)(ZC:bQ):Prop:=
 mg (aC "add_finder_patterns")=O (.ref 1907)/\
 qT U 1907 ZC Aa/\
 ZC.defaults= .none/\
 ∃vf,mg (aC "_FINDER_PATTERN")=O vf/\bR U fpV vf []
def ajf(U:aN)(mg:aP->Option aa)(ZD:bQ):Prop:=
 mg (aC "add_codewords")=O (.ref 1921)/\
 qT U 1921 ZD pH/\
 ZD.defaults= .none
def Pkg(U:aN)(mg:aP->Option aa)(P:bS)(t:Nat->aW)(f:Nat->bQ)(QF XW QD ZC ZD:bQ):Prop:=
 agH U mg P t f/\ajc U mg f QF/\ajd U mg XW QD/\aje U mg ZC/\ajf U mg ZD
section
variable{Il:cg}{sa sb:ae}{La Lb:Sg}{Q:b8->ae->Prop}{P2:bS}{t2:Nat->aW}{Ij QF XW QD ZC ZD:bQ}{b d2:ab}{cs:LN}
theorem PS.ssR{l:List bT}(p:PS H U L J aJ bq bA G S s)(x:pM H τ' U A L J l G G' (O av))(k:∀Y v F,sy (bq++bA) aJ Y->bR Y.heap av v F->Q (.ret v) Y):C A (aU l J) s Q:=by show bh p.fr λW r hW=>(x r).wx λg Y oq=>yH oq λm E v F e aO=>?_;subst e;show k Y v F (p.mod.trans m.p λd hd=>(hW.1 d hd).elim (λq=>.inl (dc _ q)) .inr) aO
theorem l_6{lg ex:LN}{gp ta ei:ab}{lev lv:Nat}{k2:Nat}(hh:dh A)(bM:A.depth<500)(B:cA U mg mb)(I:dQ mg mb)(I2:t9 mg mb)(hT:gi U)(Pv:agH U mg P t f)(Pd:ajc U mg f QF)(OM:Zz U mg P t f P2 t2 fd lg ex gen gp Ij)(EA:Ik U lv ta ei [1,n+1+gen.length,n+1])(h23:1923∉H)(h79:1979∉H)(hlv:lev<2/\([1,0]:LN).getD lev 0=lv)(hn:lY ns)(dM:ns.length=8 * (n+1))(Ab:∀x∈ns,x<2)(hw:lY (wordsOf ns (n+1)))(HS:n+1<=100)(xh:cs=(gU lg ex gen (wordsOf ns (n+1)++cb gen.length 0) (wordsOf ns (n+1)).length).drop (wordsOf ns (n+1)).length)(Dr:lY cs)(hsz:8 * (wordsOf ns (n+1)).length+8 * cs.length<=1000)(p:PS H U iE J aJ bq bA G [] s)(h2:cq G 2=O (0,aT lev))(h6:cq G 6=O (k2,a7 ns))(h8:bW G 8=N)(k:∀Y b2 dx2 d2 S',PS (1979::1923::H) U iE J aJ bq bA (jm G 8 0 (.ptr (.ref b2))) (jk b2 dx2 d2 (dJ (wordsOf ns (n+1))++dJ cs)++S') Y->(∀y∈S',gc y.2=N)->C A (aU rest J) Y Q):
 C A (aU (bc cN 6::rest) J) s Q:=by
 show dU Pd λPd1 Pd2 Pd3 Pd4 Pd5 Pd6 Pd7 ajg=>iM ajg λPd8 Pd9 alg alh=>iM Pv λPv1 Pv2 Pv3 Pv4=>dG Pv2 λv1 gv1=>dG Pv3 λv2 gv2=>dG Pv4 λv3 gv3=>dG Pd4 λvL gL=>dG Pd5 λvM gM=>yR (τ':=1979::1923::H) (U:=U) (L:=iE) (aJ:=aJ) (bq:=bq) (bA:=bA) h8 (.inl (rfl)) Z<|fU<|T.wW (r7 (p.base B) p.er (rfl) Pd6 (rfl))<|bh Pd7.at_.obj λo ho hd=>pE o QF<|ej<|cx<|T.wx (qM (fr:=N) (p.base B) (rfl) gv2 (rfl) p.er) λu1 s2 oq=>iN oq λe2 F2 V2 _=>?_;apply bR.zI V2;intro t1;have p2:=p.grow e2;show cx<|T.wx (V.to (fj (ns:=[1,0]) (fr:=N) (o4 (p2.base B).top (fJ.cons (qM (p2.base B) (rfl) gL (rfl)) (fJ.cons (qM (p2.base B) (rfl) gM (rfl)) fJ.nil Z) Z) Z Z) (aq _ h2) hlv.1 bz Z) (congrArg aT hlv.2) p2.er) λu3 s3 ξ=>iN ξ λe3 F3 V3 _=>?_;apply bR.zI V3;show λt3=>cx (acH B I Pv1.pG Pd1 (fZ bM bz) Pd3 (by rfl) (p2.grow e3) (zk) (aq _ h6) Z hn λs4 b dx d _ _ _ _ p4=>c8 ?_);have hi:∀y∈jk b dx d ns++[],gc y.2=N:=λy hy=>by apply Df hy<;>rfl
 show⟨⟨p4.ext.keep _ _ Pd7.at_.off ho,hd⟩,zy (us:=[.int (-2) t1,.int (aj lv) t3,.ref b]) (avs:=[.int (-2),aT lv,.ptr (.ref b)]) (F:=[]) [72,81,82] B p4.ext (fZ bM bz) Pd7 Z Z Z ?_ (eg [] [] (.ofInt _ t1)<|eg [] [] (.ofInt _ t3)<|eg [] [] (.ir _) .nil) aK Z aK p4.sg λs5 L5 p5=>ad5 (hh) au B I I2 hT Pv1 Pd1 OM Pd2 EA Pd3 gv1 gv3 Pd9 (DM Z) alg alh h23 h79 hn dM Ab hw HS xh Dr hsz p5 hi (λy hy=>dc _ hy) λY G' b2 dx2 d2 q=>⟨_,.ptr (.ref b2),[],p4.called q hi,.ir _,rfl,λs9 q9=>k s9 b2 dx2 d2 _ q9 hi⟩⟩;have D:du QF ⟨[.int (-2) t1,.int (aj lv) t3,.ref b],[]⟩=pure (([72,81,82].map NM).zip [.int (-2) t1,.int (aj lv) t3,.ref b]):=by
  delta du
  show Pd7.params.symm▸Pd8.symm▸?_;rfl
 show D.symm▸aB ⟨rfl,rfl⟩
end
theorem ZE(rs:List ab):flat (uq rs)=N:=by
 induction rs with
 |nil=>rfl
 |cons r rs ih=>show ih
section
variable{Il:cg}{sa sb:ae}{S0 La Lb:Sg}{Q:b8->ae->Prop}{P2:bS}{t2:Nat->aW}{Ij QF XW QD ZC ZD:bQ}{b d2:ab}{cs:LN}
theorem l_7(hh:dh A)(bM:A.depth<500)(B:cA U mg mb)(I:dQ mg mb)(hT:gi U)(Pk:ajd U mg XW QD)(h34:1934∉H)(p:PS H U iE J aJ bq bA G S s)(hS:∀y∈S,gc y.2=N)(h9:bW G 9=N)(k:∀Y rs,rs.length=13->rs.Nodup->(∀y∈S,y.1∉rs)->PS (1934::H) U iE J aJ bq bA (jm G 9 0 (uq rs)) (uJ rs Pz++S) Y->C A (aU rest J) Y Q):
 C A (aU (bc cN 7::rest) J) s Q:=by
 show dU Pk λPk1 ZT Pk3 Pk4 Pk5 Pk6 Pk7 ajh=>hx ajh λPk8 Pk9 ali=>yR (τ':=1934::H) (U:=U) (L:=iE) (aJ:=aJ) (bq:=bq) (bA:=bA) h9 (.inl (rfl)) Z (si [aT 13,aT 13] B p Pk1 (rfl) (rfl) ZT (fJ.cons (aR 13) (fJ.cons (aR 13) fJ.nil Z) Z) Z λvs s1 F e1 aO=>?_);apply nH aO;intro v1 v2 F1 F3 V1 V2;apply bR.zI V1;intro t1;apply bR.zI V2;intro t2;have p1:=p.grow e1;show dG Pk4 λn hu=>(zy (us:=[.int (aj 13) t1,.int (aj 13) t2,.bool N,.bool N]) (avs:=[aT 13,aT 13,.bool N,.bool N]) (F:=[]) [60,61,107,108] B p1.ext (fZ bM bz) ZT Z Z Z ?_ (eg [] [] (.ofInt _ t1)<|eg [] [] (.ofInt _ t2)<|eg [] [] (.ofBool _) (eg [] [] (.ofBool _) .nil)) aK Z aK p1.sg λs2 L2 p2=>acB (hh) B I hT au hS Pk8 Pk9 ali p2 Pk5 (DM Z) Pk6 Pk7 h34 (.head ..) (λb D=>bZ _ D) λY G' rs v h1 h2 h3 q aO=>⟨_,uq rs,[],p1.called q hS,aO,ZE rs,λs9 q9=>k s9 rs h1 h2 h3 q9⟩);show(?_:ax _ _ _ _ _ _);delta du;show ZT.params.symm▸Pk3.symm▸ZT.kwd.symm▸ag (aB (ag (jG (p1.ext.keep _ _ (DM Z) hu) Z (aB ⟨rfl,rfl⟩))))
theorem l_8{k9:Nat}(hh:dh A)(bM:A.depth<500)(B:cA U mg mb)(I:dQ mg mb)(Pk:aje U mg ZC)(p:PS H U iE J aJ bq bA G (uJ rs cj++S0) s)(hS:∀y∈S0,gc y.2=N)(wy:iI J=af)(h9:cq G 9=O (k9,uq rs))(hl:rs.length=13)(tR:rs.Nodup)(hm:Mx cj)(hd:∀y∈S0,y.1∉rs)(k:∀Y,PS H U iE J aJ bq bA G (uJ rs (mG cj 8)++S0) Y->C A (aU rest J) Y Q):
 C A (aU (bc cN 8::rest) J) s Q:=by
 show iM Pk λPk1 ZT Pk3 Pk4=>bh Pk4 λvf gf Vf=>zX wy Z<|si [uq rs,aT 13,aT 13] B p Pk1 (rfl) (rfl) ZT (fJ.cons (aq _ h9) (fJ.cons (aR 13) (fJ.cons (aR 13) fJ.nil Z) Z) Z) Z λvs s1 F e1 aO=>have p1:=p.grow e1;have hl3:=aO.length;zy [9,60,61] B p1.ext (fZ bM bz) ZT Z Z Z ?_ aO aK (by rw[hl3];rfl) aK p1.sg λs2 L2 p2=>?_
 .apply abz hl3;intro a b c
  .show (?_:ax _ _ _ _ _ _);delta du;show ZT.params.symm▸Pk3.symm▸aB ⟨rfl,rfl⟩
 .show Ϩ (hh) B I hl tR hm hd hS gf (Vf) p2 λY G' q=>⟨rfl,k Y (p1.called q λy hy=>(b9.mp hy).elim (yV y) (hS y))⟩
theorem l_9{k8 k9:Nat}(hh:dh A)(bM:A.depth<500)(B:cA U mg mb)(I:dQ mg mb)(Pv:agH U mg P t f)(Pk:ajf U mg ZD)(p:PS H U iE J aJ bq bA G (uJ rs cj++S0) s)(hS:∀y∈S0,gc y.2=N)(wy:iI J=af)(h9:cq G 9=O (k9,uq rs))(h8:cq G 8=O (k8,.ptr (.ref b)))(hl:rs.length=13)(tR:rs.Nodup)(hm:Mx cj)(hd:∀y∈S0,y.1∉rs)(yU:∀y∈jk b dx d ns,y∈S0)(hn:lY ns)(Po:(IP ns cj).2=ns.length)(k:∀Y,Mx (IP ns cj).1->PS H U iE J aJ bq bA G (uJ rs (IP ns cj).1++S0) Y->C A (aU rest J) Y Q):
 C A (aU (bc cN 9::rest) J) s Q:=by
 show hx Pk λPk1 ZT Pk3=>iM Pv λPv1 Pv2 Pv3 Pv4=>dG Pv2 λv1 gv1=>dG Pv3 λv2 gv2=>dG Pv4 λv3 gv3=>zX wy Z<|si [uq rs,.ptr (.ref b),.int (-2)] B p Pk1 (rfl) (rfl) ZT (fJ.cons (aq _ h9) (fJ.cons (aq _ h8) (fJ.cons (qM (p.base B) (rfl) gv2 (rfl)) fJ.nil Z) Z) Z) Z λvs s1 F e1 aO=>have p1:=p.grow e1;have hl3:=aO.length;zy [9,71,72] B p1.ext (fZ bM bz) ZT Z Z Z ?_ aO aK (by rw[hl3];rfl) aK p1.sg λs2 L2 p2=>?_
 .apply abz hl3;intro a b c
  .show (?_:ax _ _ _ _ _ _);delta du;show ZT.params.symm▸Pk3.symm▸aB ⟨rfl,rfl⟩
 .show acy (hh) B I Pv1 au hl tR hm hd yU hn gv1 gv3 Po p2 λY G' hm' q=>⟨rfl,k Y hm' (p1.called q λy hy=>(b9.mp hy).elim (yV y) (hS y))⟩
end
theorem Qx(cj:List (LN)):wa (zt cj)=N:=by
 show(?_:CB (cj.map a7)=N);induction cj with
 |nil=>rfl
 |cons r rs ih=>show fL.mpr ⟨jO _,ih⟩
section
variable{Il:cg}{sa sb:ae}{S0 La Lb:Sg}{Q:b8->ae->Prop}{P2:bS}{t2:Nat->aW}{Ij QF XW QD ZC ZD fdM:bQ}{b d2:ab}{cs:LN}
def aeI:List bT:=[bc cN 14,bc cN 15,bc cN 16,bc cN 17,bc cN 18,bc cN 19,bc cN 20,bc cN 21,bc cN 22,bc cN 23,bc cN 24,bc cN 25,bc cN 26,bc cN 27,bc cN 28,bc cN 29]
theorem aji{DU:List Int}{data bits sent:LN}{cM k9:ab}(hA:Z5 10 A)(B:cA U mg mb)(I:dQ mg mb)(hT:gi U)(M:MFn U mg a fdM cM)(Ob:pR U P t f)(h07:2007∉H)(DT:0<aL.length)(FK:aL.length<=20)(hc:c<=10)(p:PS H U iE J aJ bq bA ([(0,0,kP DU),(1,0,kP aL),(2,0,aT (iS aL)),(3,0,aT c),(5,0,a7 data),(6,0,a7 bits),(8,0,aX (R b)),(9,0,uq rs)]) (uJ rs cj++S0) s)(yU:∀y∈jk b dx d sent,y∈S0)(hn:lY sent)(hl:rs.length=13)(hm:Mx cj)(WH:sent.length=80)(hbl:bits.length<=80)(ht:sent.take bits.length=bits)(hq:Sq cj)(ZM:(c - (yO aL c).length) / 2<=(BS (yO aL c)).length)(wb:∀x∈n6 (sv aL c cj),x<256)(qP:(jR (cH 10) (ux (kQ (cH 10) (fR (n6 (sv aL c cj)) c) (yO aL c))).now 10).length=(ux (kQ (cH 10) (fR (n6 (sv aL c cj)) c) (yO aL c))).size)(kk:∀Y,sy (bq++bA) aJ Y->Q (cL (dB (Β aL c cj sent))) Y):
 C A (aU (bc cN 10::bc cN 11::bc cN 12::bc cN 13::aeI) J) s Q:=by
 have hh:=hA.hd;have kO:J.scope.kind=d0/\J.kindOf (NM 10)=O cZ:=by show bh p.fr λW r _=>?_;unfold j8;show r.scope.symm▸⟨rfl,rfl⟩
 have hmem:∀(j:Nat) r row,rs[j]? =O r->cj[j]? =O row->s.heap.get? r=O (kB row)/\r∉bY/\lY row:=λj r row h1 h2=>by show hx (p.sg _ (dc S0 (pF h1 h2))) λe1 e2 _=>eX (hm.row row (cW h2)) λr1 r2=>⟨e1,e2,r2,by lia⟩
 show p.ai9 (x:=10) (av:=zt cj) (Qx cj) Z (ao (rfl)) (qI kO.1 kO.2 Z (rfl)) (λu Q' hu=>ad6 (k:=0) (ed.of (rfl)) (by rfl) hh (p.base B) I (λb D=>dG (hT b D) λo e=>p.ext.there b o e) p.er.re Z (hl.trans hm.len.symm) hmem (by show hm.len.symm▸?_;decide) hu) hT λs1 p1=>?_;show(PS.less (G':=gL2 DU aL c data bits (R b) cj) p1 (by show ko.rf bD bD)).s1 (S1.m (gb 11 (mI []) (o4 B.top fJ.nil Z Z) Z Z (aH (rfl)) Z)) λs2 p2=>p2.s1 (S1.m (ab1 hh B I)) λs3 p3=>have p3:=p3.share 11;have SX:=p3.Hh (b:=b) (dx:=dx) (d:=d) (ns:=sent) (λy hy=>ew _ (yU y hy)) hn;acg (x:=16) (av:=a7 sent) p3 (Jt hh (p3.base B) I (rfl) SX.dat SX.t3 hn (SY (p3.base B) (Ob.ext p3.ext) (by have:=hA.depth;show KQ this) SX (aq (k:=0) 8 Z) Z Z) Z) (jO _) Z (ao (rfl)) Z λs4 p4=>have p4:=p4.share 16;(PS.less (G':=gL3 DU aL c data bits cj sent) p4 (by show ko.rf bD bD)).ssR (afb (τ':=2007::H) hA B I M DT FK hc WH hbl ht hq ZM wb qP h07 (cQ ..) λb D=>bZ _ D) λY v F m aO=>?_;have ev:=aO.toBool;subst ev;show kk Y m
end
section
variable{Il:cg}{sa sb:ae}{S0 La Lb:Sg}{Q:b8->ae->Prop}{P2:bS}{t2:Nat->aW}{Ij QF XW QD ZC ZD fdM:bQ}{b d2:ab}{cs:LN}
theorem aaW{script:List Int}{lg ex data sent:LN}{lv:Nat}{gp ta ei cM:ab}(hA:Z5 10 A)(bM:A.depth<500)(B:cA U mg mb)(I:dQ mg mb)(I2:t9 mg mb)(hT:gi U)(M:MFn U mg a fdM cM)(Pk:Pkg U mg P t f QF XW QD ZC ZD)(OM:Zz U mg P t f P2 t2 fd lg ex gen gp Ij)(EA:Ik U lv ta ei [1,n+1+gen.length,n+1])(r9:script.length<=63)(aaX:aL=lT script)(hc:c=5+iS aL)(BC:data=wV aL c)(hnc:n+1+c=10)(hlv:([1,0]:LN).getD (iS aL) 0=lv)(Yw:data.length=n+1)(hd:∀x∈data,x<256)(hwd:wordsOf (dJ data) (n+1)=data)(xh:cs=(gU lg ex gen (data++cb gen.length 0) data.length).drop data.length)(jB:cs.length=c)(hcb:∀x∈cs,x<256)(H8:sent=dJ data++dJ cs)(Po:(IP sent (mG Pz 8)).2=sent.length)(WH:sent.length=80)(ht:sent.take (dJ data).length=dJ data)(hq:Sq (IP sent (mG Pz 8)).1)(ZM:(c - (yO aL c).length) / 2<=(BS (yO aL c)).length)(wb:∀x∈n6 (sv aL c (IP sent (mG Pz 8)).1),x<256)(qP:(jR (cH 10) (ux (kQ (cH 10) (fR (n6 (sv aL c (IP sent (mG Pz 8)).1)) c) (yO aL c))).now 10).length=(ux (kQ (cH 10) (fR (n6 (sv aL c (IP sent (mG Pz 8)).1)) c) (yO aL c))).size)(p:PS [] U iE J aJ bq bA [(0,0,kP script)] [] s)(kk:∀Y,sy (bq++bA) aJ Y->Q (cL (dB (Β aL c (IP sent (mG Pz 8)).1 sent))) Y):
 C A (aU cN J) s Q:=by
 have hh:=hA.hd;show je Pk λPv Pd Pe Pf Pg=>?_;show eX (Je script) λDT FK=>?_;have wy:iI J=af:=by show bh p.fr λW r _=>?_;delta iI;show r.scope.symm▸?_;rfl
 have hbl:(dJ data).length=8 * (n+1):=by rw[pW,Yw]
 have ajj:lY sent:=⟨λx E=>by rw[H8]at E;show(b9.mp E).elim (λq=>fZ (rV data x q) aK) λq=>fZ (rV cs x q) aK,by rw[WH];decide⟩
 show(?_:C _ (aU (([bc cN 0,bc cN 1,bc cN 2,bc cN 3,bc cN 4,bc cN 5]++[])++(bc cN 6::bc cN 7::bc cN 8::bc cN 9::bc cN 10::bc cN 11::bc cN 12::bc cN 13::aeI)) J) s Q);show p.ss (ahh hh B I r9 (SS.m SS.nil)) λs1 p1=>l_6 (H:=[]) hh bM B I I2 hT Pv Pd OM EA (λh=>kJ h) (λh=>kJ h) ⟨(rQ _ bz),hlv⟩ (⟨λx E=>fZ (rV data x E) aK,by lia⟩) hbl (rV data) (by rw[hwd];show⟨hd,by lia⟩) au (hwd.symm▸xh) ⟨hcb,by lia⟩ (by show hwd.symm▸?_;lia) ((BC.symm▸hc.symm▸aaX.symm▸p1).share 6) Z Z Z λs2 b2 dx2 d2 S2 p2 hi2=>?_;rw[hwd,<-H8]at p2;have hbi:∀y∈jk b2 dx2 d2 sent++S2,gc y.2=N:=λy hy=>by show bf (b9.mp hy) (λq=>?_) λq=>hi2 y q;simp only[jk,bu,mX,or_false]at q;rcases q with rfl|rfl|rfl<;>rfl
 show l_7 hh bM B I hT Pe (DM Z) p2 hbi Z λs3 rs hr1 hr2 hr3 p3=>l_8 hh bM B I Pf p3 hbi wy Z hr1 hr2 ϣ hr3 λs4 p4=>l_9 hh bM B I Pv Pg p4 hbi wy Z Z hr1 hr2 (PC ϣ 8 (ey _)) hr3 (λy hy=>dc _ hy) ajj Po λs5 hm5 p5=>(aji (k9:=0) hA B I hT M Pv.1 (DM Z) (aaX▸DT) (aaX▸FK) au p5 (λy hy=>dc _ hy) ajj hr1 hm5 WH au ht hq ZM wb qP kk)
end
section
variable{bp K':mr}{c T:ab}{l:List aa}{os:fy}
theorem oj(x:(bp++K').In h):bp.In h:=λa o e=>x a o (by rw[Ue,e];rfl)
set_option tactic.hygienic true in
theorem lz(X:bp.In h)(h1:bp.lookup a=O (mL fd))(h2:bp.lookup c=O (lq l))(ha:(a∉bY/\c∉bY))(hf:fd.params=fo st/\fd.body=lj (bo st)/\fd.scope=bg st/\fd.globals=3/\fd.closure=[]/\fd.kwdefaults=aA/\fd.code=R c/\fd.builtins=0)(hq:∃t,l[1]? =O (cI fd.qualname t)):qT h a fd st:=dU hf λf1 f2 f3 f4 f5 f6 f7 f8=>dG hq λt ht=>⟨⟨(ct _ (X _ _ h1) Z),ha.1,c,_,_,t,f7,ha.2,X _ _ h2,rfl,Ky.trans ht⟩,f2,f3,f1,f4,f8,f5,f6⟩
theorem ue{x0 x1 x2 x3 x4 x5 x6 x8 x12 x13 x14 x15 x16 x17:aa}{b:Bool}{f1 f2:Int}{t1 t2 t3:aW}{fl:aP}(X:bp.In h)(h1:bp.lookup c=O (lq [x0,x1,x2,x3,x4,x5,x6,ah f1 t1,x8,dB b,ah f2 t2,R T,x12,x13,x14,x15,x16,x17,cI fl t3]))(h2:bp.lookup T=O (tabObj #[]))(hn:c≠T):h.IsCode c T #[]/\h.TableAt c T #[]:=
 (gS ⟨_,_,fl,t3,f1,t1,b,f2,t2,_,X _ _ h1,rfl,rfl,rfl,rfl,rfl,rfl,X _ _ h2,rfl,trivial,hn⟩ ⟨_,_,X _ _ h1,rfl,rfl,rfl⟩ (X _ _ h2))
theorem rW(l:LN):∀(k:Nat),fh (Di k l) (l.map aj):=by
 induction l with
 |nil=>intro _;show qw
 |cons n l iH=>intro k;show yB n k (iH (k+1))
theorem bR.uL{a0:ab}{ys:List aa}(hD:a0∉bY)(e:h.get? a0=O (cU ys n))(ia:fh ys (ms.map aj)):bR h (Lake.uL ms) (R a0) []:=by have aO:=wI (h:=h) ia;rw[qk]at aO;show DO a0 ys n Z hD e aO
theorem M2.get{aM:α->aa->Prop}{iC:List (MK×aa)}{sp:List (MK×α)}{k:MK}{a:α}(x:M2 aM iC sp)(hn:(sp.map (·.1)).Nodup)(e:sp.lookup k=O a):∃v,valueAt iC k=O v/\aM a v:=by show dG (sR (mH e)) λj hj=>?_;have hl:=x.1▸(dR.mp hj).1;show eX (x.2 j iC[j].1 iC[j].2 k a (dE hl) hj) λh1 h2=>?_;show ct _ (valueAt_of_get (x.keys▸hn) (by rw[dE hl,<-h1])) h2
end
section
variable{os:fy}
def ZU(P:bS)(k0 k:Nat):aP->Option aa:=mh (nsC P k0 k)
def mbT(P:bS):aP->Option aa:=mh (su (qu P))
theorem aaY(X:(qC P k).In h):pR h P (tC k) (fC k) where
 pG:=oj (oj (oj X))
 acu:=lz X Z Z aK ⟨rfl,rfl,rfl,rfl,rfl,rfl,rfl,rfl⟩ ⟨_,rfl⟩
 itemF:=lz X Z Z aK ⟨rfl,rfl,rfl,rfl,rfl,rfl,rfl,rfl⟩ ⟨_,rfl⟩
 ϓ:=lz X Z Z aK ⟨rfl,rfl,rfl,rfl,rfl,rfl,rfl,rfl⟩ ⟨_,rfl⟩
 dJ:=lz X Z Z aK ⟨rfl,rfl,rfl,rfl,rfl,rfl,rfl,rfl⟩ ⟨_,rfl⟩
 afk:=rfl
 ϔ:=rfl
 afl:=rfl
 ϕ:=rfl
theorem ZF(X:(qC P k).In h):qU h (fC k) where
 Hp:=lz X Z Z aK ⟨rfl,rfl,rfl,rfl,rfl,rfl,rfl,rfl⟩ ⟨_,rfl⟩
 Xh:=rfl
 dft:=⟨0,X _ _ Z⟩
 emp:=⟨0,X _ _ Z⟩
theorem ZG(P:bS)(k0 k:Nat):([("ECC",139),("Buffer",2002),("make_final_message",1926),("make_matrix",1939),("add_timing_pattern",1914),("add_finder_patterns",1907),("add_codewords",1921),("_FINDER_PATTERN",1900),("make_blocks",1931),("GALIOS_LOG",1888),("GALIOS_EXP",1890),("GEN_POLY",1868),("_law_mended",2010),("law",2015),("__builtins__",4)]:List (String×ab)).map (λx=>ZU P k0 k (aC x.1))=[139,2002,1926,1939,1914,1907,1921,1900,1931,1888,1890,1868,2010,2015,4].map λa=>O (.ref a):=by ext
theorem mg_of(P:bS)(k0 k:Nat){nm:String}(i:Nat)(h:([("ECC",139),("Buffer",2002),("make_final_message",1926),("make_matrix",1939),("add_timing_pattern",1914),("add_finder_patterns",1907),("add_codewords",1921),("_FINDER_PATTERN",1900),("make_blocks",1931),("GALIOS_LOG",1888),("GALIOS_EXP",1890),("GEN_POLY",1868),("_law_mended",2010),("law",2015),("__builtins__",4)]:List (String×ab))[i]? =O (nm,a))(h2:([139,2002,1926,1939,1914,1907,1921,1900,1931,1888,1890,1868,2010,2015,4]:List ab)[i]? =O a):ZU P k0 k (aC nm)=O (.ref a):=by have e:=congrArg (λl:List (Option aa)=>l[i]?) (ZG P k0 k);rw[cY,cY,h,h2]at e;show aV e
theorem aaZ(P:bS)(k0 k:Nat):([("VERSION_M1", -3),("VERSION_M2", -2),("VERSION_M3", -1),("ERROR_LEVEL_L",1),("ERROR_LEVEL_M",0)]:List (String×Int)).all (λx=>(ZU P k0 k (aC x.1)).any (xy x.2))=N:=by ext
theorem Im(P:bS)(k0 k:Nat){nm:String}{i:Int}(h:(nm,i)∈([("VERSION_M1", -3),("VERSION_M2", -2),("VERSION_M3", -1),("ERROR_LEVEL_L",1),("ERROR_LEVEL_M",0)]:List (String×Int))):∃v,ZU P k0 k (aC nm)=O (.int i v):=bh ((Option.any_eq_true _ _).mp (mW.mp (aaZ P k0 k) _ h)) λv q e=>dG (S3 e) λt r=>⟨t,r▸q⟩
theorem Qy(P:bS)(k0 k:Nat):((BI++[("type",ak "type"),("issubclass",bx "issubclass")]).map λp=>(ZU P k0 k (aC p.1),mbT P (aC p.1)))=(BI++[("type",ak "type"),("issubclass",bx "issubclass")]).map λp=>(ai,O p.2):=by ext
theorem ad7(P:bS)(k0 k:Nat):dQ (ZU P k0 k) (mbT P):=λp hp=>tD (vb.mp (Qy P k0 k) p (dc _ hp))
theorem aa0(P:bS)(k0 k:Nat):t9 (ZU P k0 k) (mbT P):=λp hp=>tD (vb.mp (Qy P k0 k) p (ew _ hp))
theorem ZH(l:List (LN)):∀(as:List ab),as.length=l.length->(∀(j:Nat) a r,as[j]? =O a->l[j]? =O r->bR h (uL r) (.ref a) [])->bC h (l.map uL) (as.map R) []:=by
 induction l with
 |nil=>show λas hl _=>?_;rw[TY hl];show .nil
 |cons r l ih=>show λas hl hr=>eQ (Mm hl) λa t e h=>by rw[e]at hr ⊢;show eg [] [] (hr 0 a r Z Z) (ih t h λj a r h1 h2=>hr (j+1) a r h1 h2)
theorem ajk(X:(qC P k).In h):bR h fpV (.ref 1900) []:=by show⟨1900,([1891,1892,1893,1894,1895,1896,1897,1898,1899]:List ab).map R,0,rfl,DM Z,X _ _ Z,ZH FPN _ Z λj a r h1 h2=>?_⟩;have hj:j<9:=(dR.mp h1).1;rcases(by lia:j=0\/j=1\/j=2\/j=3\/j=4\/j=5\/j=6\/j=7\/j=8) with rfl|rfl|rfl|rfl|rfl|rfl|rfl|rfl|rfl<;>(show aV h1▸?_;show aV h2▸?_;show bR.uL (DM Z) (X _ _ Z) (rW _ _))
theorem agI(X:(qC P k).In h):∃QF XW QD ZC ZD,Pkg h (ZU P k0 k) P (tC k) (fC k) QF XW QD ZC ZD:=by
 have cF:=ue (c:=1925) X Z Z (uf Z);have cX:=ue (c:=1938) X Z Z (uf Z);show⟨_,_,_,_,_,⟨aaY X,Im P k0 k au,Im P k0 k au,Im P k0 k au⟩,
  ⟨ZF X,mg_of P k0 k 0 Z Z,mg_of P k0 k 1 Z Z,Im P k0 k au,Im P k0 k au,mg_of P k0 k 2 Z Z,lz X Z Z aK ⟨rfl,rfl,rfl,rfl,rfl,rfl,rfl,rfl⟩ ⟨_,rfl⟩,rfl,rfl,cF.1,cF.2⟩,
  ⟨mg_of P k0 k 3 Z Z,lz X Z Z aK ⟨rfl,rfl,rfl,rfl,rfl,rfl,rfl,rfl⟩ ⟨_,rfl⟩,rfl,⟨0,X _ _ Z⟩,rfl,cX.1,cX.2,mg_of P k0 k 4 Z Z,lz X Z Z aK ⟨rfl,rfl,rfl,rfl,rfl,rfl,rfl,rfl⟩ ⟨_,rfl⟩,rfl⟩,
  ⟨mg_of P k0 k 5 Z Z,lz X Z Z aK ⟨rfl,rfl,rfl,rfl,rfl,rfl,rfl,rfl⟩ ⟨_,rfl⟩,rfl,⟨_,mg_of P k0 k 7 Z Z,ajk X⟩⟩,
  mg_of P k0 k 6 Z Z,lz X Z Z aK ⟨rfl,rfl,rfl,rfl,rfl,rfl,rfl,rfl⟩ ⟨_,rfl⟩,rfl⟩
end
section
variable{os:fy}
theorem NO(X:(qC P k).In h):∀b∈bY,h.get? b=O (tabObj #[])/\isCodeTable h b:=λb D=>by
 apply tI D
 .show ⟨X _ _ Z,(ue (c:=1925) X Z Z (uf Z)).2.isCodeTable⟩
 .show ⟨X _ _ Z,(ue (c:=1938) X Z Z (uf Z)).2.isCodeTable⟩
 .show ⟨X _ _ Z,(ue (c:=1983) X Z Z (uf Z)).2.isCodeTable⟩
 .show ⟨X _ _ Z,(ue (c:=2009) X Z Z (uf Z)).2.isCodeTable⟩
theorem ad8(X:(qC P k).In aD.heap)(m:sy [] aD Y):OldK aD.heap Y.heap:=⟨λb o e=>by
 by_cases D:b∈bY
 .show eX (NO X b D) λe1 e2=>?_;obtain rfl:=aV (e1.symm.trans e);show dG (m.mod.tab b D _ e1) λmore e3=>(aH (ao ⟨e2,rfl,#[],more,rfl,e3⟩))
 .show ao (m.mod.keep b o (λh=>kJ h) D e),λb o e=>m.mod.there b o e⟩
theorem agJ(X:(qC P k).In h):∃fd,MFn h (ZU P k0 k) 2010 fd 2009:=by have c:=ue (c:=2009) X Z Z (uf Z);have F:qT h 2010 _ (cS 26):=lz X Z Z aK ⟨rfl,rfl,rfl,rfl,rfl,rfl,rfl,rfl⟩ ⟨_,rfl⟩;show⟨_,mg_of P k0 k 12 Z Z,F.at_,F.params,F.body,F.scope,F.clo,F.glob,F.bi,rfl,rfl,rfl,by decide,c.1,c.2⟩
theorem ZI(k:Nat):(SD k).all (λe=>(aI 64).any λi=>xy i e.key && e.hash==hashInt i)=N:=by ext
theorem aa1(X:(zE k).In h):h.IntMap 1868 (findBy xy (SD k)):=⟨_,SD k,18,X _ _ Z,rfl,rfl,(λe he=>bh (KI.mp (U4.mp (ZI k) e he)) λi _ h=>dG (S3 (fL.mp h).1) λt q=>⟨i,t,q,beq_iff_eq.mp (fL.mp h).2⟩),λ_=>rfl⟩
theorem Qz(k:Nat):findBy xy (SD k) (aj 5)=O (R 1870)/\findBy xy (SD k) (aj 6)=O (R 1871):=⟨rfl,rfl⟩
theorem ad9{gp:ab}(X:(qC P k).In h)(hg:bR h (uL gen) (R gp) [])(D:∀x∈gen,x<255)(hl:gen.length<=100):j_ h wz iP.zB gen gp:=
 ⟨bR.uL (DM Z) (X _ _ Z) (rW _ _),
  ⟨_,De (DM Z) (X _ _ Z) (by rw[iP.zB,j3];show(rW QL (k+257)).append (rW QL (k+257)))⟩,
  hg,
  tS,
  by rw[iP.zB,iw,yL],
  by decide,
  by decide,
  D,
  hl⟩
theorem aeJ{gp:ab}(XA:(zm P).In h)(XB:(zE k0).In h)(X:(qC P k).In h)(hg:bR h (uL gen) (R gp) [])(D:∀x∈gen,x<255)(hl:gen.length<=100)(hf:findBy xy (SD k0) (aj gen.length)=O (R gp)):
 ∃Ij,Zz h (ZU P k0 k) P (tC k) (fC k) P tA fdG wz iP.zB gen gp Ij:=by
 have c:=ue (c:=1983) X Z Z (uf Z);show⟨_,oj (oj (oj X)),
  ⟨lz X Z Z aK ⟨rfl,rfl,rfl,rfl,rfl,rfl,rfl,rfl⟩ ⟨_,rfl⟩,rfl,rfl,c.1,c.2⟩,
  ⟨oj (oj XA),lz XA Z Z aK ⟨rfl,rfl,rfl,rfl,rfl,rfl,rfl,rfl⟩ ⟨_,rfl⟩,rfl,0,XA _ _ Z⟩,
  ad9 X hg D hl,
  mg_of P k0 k 9 Z Z,
  mg_of P k0 k 10 Z Z,
  mg_of P k0 k 11 Z Z,
  ⟨_,aa1 XB,hf⟩,
  mg_of P k0 k 8 Z Z,
  lz X Z Z aK ⟨rfl,rfl,rfl,rfl,rfl,rfl,rfl,rfl⟩ ⟨_,rfl⟩,
  rfl⟩
end
section
variable{os:fy}
theorem aea(X:(qC P k).In h)(e:h.get? a=O o)(hc:o.cls≠aA):a∉bY:=λq=>by replace e:=((NO X a q).1)▸e;obtain rfl:=aV e;show hc Z
theorem Io{lv d:Nat}(T:Ae w os s)(hk:uh s.heap aD.heap)(X:(qC P k).In aD.heap)(hl:m2s.lookup (.int (aj lv))=O (.ecs [(1,10,d)])):∃ta ei,Ik aD.heap lv ta ei [1,10,d]:=by
 show uy T.ex λk0 k iC _ _ _ hD hM=>have up:∀{d:ab} {iC:List (MK×aa)},s.heap.DictOf (dZ) d iC->aD.heap.DictOf (dZ) d iC:=λqQ=>eY qQ λo es ep e r=>⟨o,es,ep,hk _ _ e,r⟩;bh (hM.get JE agd) λv e1 q1=>?_;obtain⟨d2,alG,_,hD2,hM2⟩:=q1;have FK:(m2s.map (·.1)).Nodup:=rX hD2 λ_ _ _ _ _ _ _ _ hn=>hM2.keys▸hn;show dG (hM2.get FK hl) λv2 i=>FT i λe2 ta vs qD _ ht hv=>?_;subst qD;cases vs with
 |nil=>show hv.elim
 |cons u vs=>
  cases vs with
  |cons _ _=>show hv.2.elim
  |nil=>
   obtain⟨i,dx,t0,t1,t2,_,_,hi,hdx⟩:=hv.1;show tH (id (up hD2)) λo2 _ _ g2 x2 _=>?_;have xc:o2.cls≠aA:=λq=>by have:=x2.1;have this:=q.symm.trans this;ext
   show⟨ta,i,⟨_,d2,_,(up hD).mapOf,e1,((up hD2).mapOf),aea X g2 xc,e2⟩,⟨0,hk _ _ ht⟩,aea X (hk _ _ ht) (by nofun),⟨dx,t0,t1,t2,1,10,d,rfl,hk _ _ hi,hk _ _ hdx,aea X (hk _ _ hdx) (by nofun),aea X (hk _ _ hi) (by nofun)⟩⟩
theorem QA(T:Ae w os s)(hk:uh s.heap aD.heap)(h3:s.heap.get? 3=O {cls:=ak "dict",data:=eJ (nsC w.params k0 k) 34})(ha:aD.heap.get? a=O o)(hat:a=2016):cA aD.heap (ZU w.params k0 k) (mbT w.params) where
 g:=xw (hk _ _ h3) Z (Cn _ _ _)
 b:=xw (hk _ _ (T.old 0 _ bz (uf Z) (uf Z) (uf Z) (uP bz))) (SJ _) (NF _)
 lim:=⟨_,xw (hk _ _ T.agn) Z (U5.mpr λ_ h=>absurd h (rD _)),rfl⟩
 top:=⟨o,(show QH=a from hat.symm)▸ha⟩
 bmod:=⟨4,_,mg_of w.params k0 k 14 Z Z,uf Z,DM Z,hk _ _ (T.old 4 _ bz (uf Z) (uf Z) (uf Z) (uP bz)),rfl,rfl,rfl⟩
theorem ZJ:((aI 256).all λv=>(n0 v).foldl (λwd b=>2 * wd+b) 0==v)=N:=by rfl
theorem vX:∀(l:LN),(∀x∈l,x<256)->wordsOf (dJ l) l.length=l
 | [],_=>rfl
 |v::l,hl=>by
  have ih:=vX l λx E=>hl x (dF _ E);have h8:(n0 v).length=8:=by rfl
  unfold wordsOf at ih ⊢;rw[oH,T5,iK,qk,iP.sk];show List.cons_eq_cons.mpr ⟨beq_iff_eq.mp (mW.mp ZJ v (dm.mpr (hl v (cQ ..)))),?_⟩;show Eq.trans (AH λi _=>?_) ih;show(?_:wordAt (n0 v++dJ l) (8 * (i+1))=wordAt (dJ l) (8 * i))
  delta wordAt
  rw[show 8 * (i+1)=(n0 v).length+8 * i by lia,List.drop_append,rq,List.drop_eq_nil_of_le au,ye]
end
theorem aa2{args:List WData}{as:List ab}(Zt:FP.row.toRowW.claim.pre args=N)(Zu:L9 args=N)(bw:Laid [] w s aD args vs as)(low:sI<s.heap.objs.size):∃(ns:List Int) (a:ab) (n:List aa),args=[ofPy (Mh (ns.map Mi))]/\ns.length<=63/\vs=[R a]/\aD.heap.get? a=O (br n 0)/\fh n ns/\a=s.heap.objs.size:=by
 have hrd:=bw.reads;have WD:=bw.well;have Iq:=bw.low low
 wrow_args Zt Zu hrd WD Iq
 show⟨_,_,_,rfl,by lia,rfl,X.script_obj bw (by assumption),by assumption,(X.script_at bw).1⟩
theorem aa3{cl:aP->Option ab}{alj:ExcName->Option aa}{ns:List Int}(X:(qC P k).In aD.heap)(hg:aD.gens=#[])(m:sy [] aD Y):GoodWG FP.row.toRowW.claim cl alj [ofPy (Mh (ns.map Mi))] aD (cf (cL (dB N))) Y:=
 ⟨ao ⟨dB N,WData.bool N,[],rfl,λ_=>rfl,ReadsW.bool N,by ext,λ_=>⟨rL,λ_ h=>kJ h⟩⟩,ad8 X m,m.os,m.gens.2 (λx E=>by rw[hg]at E;show absurd E (U0 x))⟩
theorem ZK:Qn:=by
 show λos s aD args vs as T Zt Zu bw=>rX (aa2 Zt Zu bw (by rw[T.size];decide)) λns a its dX wJ qD ha ia hat=>?_;subst dX;subst qD;rw[T.size]at hat;have hk:=bw.keeps;show og λgG kG=>?_;obtain⟨k0,k,iC,h3,hB,hC, -, -⟩:=id T.ex;have X:=hC.keeps hk;have XA:=T.fA.keeps hk;have XB:=hB.keeps hk;have B:=QA T hk h3 ha hat;obtain⟨fdM,M⟩:=agJ (k0:=k0) X;obtain⟨QF,XW,QD,ZC,ZD,Pk⟩:=agI (k0:=k0) X;obtain⟨fdL,NL,hdL⟩:∃fd,qT aD.heap 2015 fd (cS 27)/\fd.defaults=aA:=⟨_,lz X Z Z aK ⟨rfl,rfl,rfl,rfl,rfl,rfl,rfl,rfl⟩ ⟨_,rfl⟩,rfl⟩;show kG ?_;clear kG gG;have aO:bR aD.heap (kP ns) (R a) [a]:=by show rZ [] (by rw[hat];decide) ha (wI ia)
 have hnl:iS (lT ns)<2:=rQ _ aK;show zy (H:=[]) (S:=[]) (us:=[R a]) (avs:=[kP ns]) (F:=[a]) [0] B (.refl _) aK NL Z Z Z ?_ ?_ aK Z aK (λ_ h=>kJ h) λs2 L2 p2=>?_
 .show (?_:ax _ _ _ _ _ _);delta du;show NL.params.symm▸hdL.symm▸aB ⟨rfl,rfl⟩
 .show eg [a] [] aO .nil
 have key:∀(lv n:Nat) (gen:LN) (gp ta ei:ab) (Ij:bQ),iP.JB gen->gen.length=5+iS (lT ns)->n+1+gen.length=10->([1,0]:LN).getD (iS (lT ns)) 0=lv->Zz aD.heap (ZU w.params k0 k) w.params (tC k) (fC k) w.params tA fdG wz iP.zB gen gp Ij->Ik aD.heap lv ta ei [1,n+1+gen.length,n+1]->
  C (callerA.deeper (gJ fdL L2 2015)) (aU (bo (cS 27)) (gJ fdL L2 2015)) s2 (λf Y=>GoodWG FP.row.toRowW.claim (classAt s.heap) (VU s.heap) [ofPy (Mh (ns.map Mi))] aD (cf (cL (WQ f))) Y):=λlv n gen gp ta ei Ij hG hgl hnc hlv OM EA=>by
  have Yw:(wV (lT ns) gen.length).length=n+1:=by delta wV;rw[ip,KG];show Nat.sub_eq_of_eq_add (id (mn hnc))
  have hd:∀x∈wV (lT ns) gen.length,x<256:=λx E=>by show bh (bG.mp E) λi _ DQ=>?_;subst DQ;show rQ _ aK
  show dU (iP.plain (aL:=lT ns) hG au hd) λq1 q2 q3 q4 q5 q6 q7 q8=>?_;have hdk:∀x∈wV (lT ns) gen.length++cb gen.length 0,x<256:=λx E=>by show bf (b9.mp E) (λh=>hd x h) λh=>by rw[va h];decide
  rw[iP.H7]at q1 q2 q3 q4 q6 q7 q8;show aaW ⟨rfl,(by change 302+10<1000;decide),(by show(?_:4+3+20 * 10<9900);decide)⟩ (by change 302<500;decide) B (ad7 w.params k0 k) (aa0 w.params k0 k) (λb D=>⟨_,(NO X b D).1⟩) M Pk OM EA wJ Z hgl Z au hlv Yw hd (by show Yw▸?_;show vX _ hd) Z ?_ (λx E=>iP.Sb hdk _ x (ro E)) Z q2 q1 q3 q4 q5 q6 q7 p2 λY m=>?_
  .rw [AL,xp,iw,rl];lia
  .show q8.symm▸aa3 X bw.gens m
 rcases(show iS (lT ns)=0\/iS (lT ns)=1 by lia) with e|e
 .show ji (Io T hk X aiP) λta ei EA=>dG (aeJ (gen:=iP.afQ) XA XB X (bR.uL aK (XB _ _ Z) (rW _ _)) aK aK (Qz k0).1) λIj OM=>key 1 4 iP.afQ 1870 ta ei Ij iP.akJ (by rw[e];rfl) Z (by rw[e];rfl) OM EA
 .show ji (Io T hk X aiQ) λta ei EA=>dG (aeJ (gen:=iP.afR) XA XB X (bR.uL aK (XB _ _ Z) (rW _ _)) aK aK (Qz k0).2) λIj OM=>key 0 3 iP.afR 1871 ta ei Ij iP.akK (by rw[e];rfl) Z (by rw[e];rfl) OM EA
end
end Mine.Lake
open PySem PySem.W PyProof.Rows
theorem PySem.Challenge.cw_nv0014_01_holds : PySem.Challenge.rw_nv0014_01.Holds :=
 holds_law Mine.Lake.t1 λk1=>Mine.Lake.adT Mine.Lake.ZK k1
