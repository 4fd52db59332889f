import PyProof.Rows.All
import Wide.All
import OpenK.AllK
import KE.KRevIter
import Wide.FinOn
import Lean
import PySem.Challenge.RW_nv0014_01
set_option Elab.async false
set_option maxRecDepth 100000
set_option maxHeartbeats 4000000
set_option linter.all false
set_option backward.match.sparseCases false
set_option genInjectivity false
set_option genSizeOf false
set_option bootstrap.genMatcherCode false
set_option tactic.hygienic false
set_option genCtorIdx false
set_option compiler.extract_closed false
namespace Mine.Lake
noncomputable section
open PySem PySem.Calls PyProof.Rows
open _root_.Option renaming some->O,none->ai
open _root_.Bool renaming true->N,false->ab
open PySem.Value renaming ref->R,int->ag,type->ao,none->ax,builtin->bB,str->cO,bool->c9,bytes->oz,isInt->xu,ellipsis->JS,isInt_shape->Tb
open PySem renaming wpAny_bind->ah,Shared->af,Value->aa,wpAny_pure->aB,Addr->ae,wpAny->aA,model->aE,Expr->aG,execs->aU,wpAny_holding->cQ,Heap->aO,Sem->aI,wpAny_specialOf->eN,FuncData->cq,cStatics->cH,eval->a7,Around->b9,Str->aV,Params->cf,mainGlobals->ef,wpAny_newObj_type->ij,wpAny_callSpecial?_slot->kS,bindArgs->dw,wpAny_of_eq->fM,wpAny_field->f9,Tok->ba,wpAny_assign_Name->jB,builtinsNs->gb,swapsWith->fD,Flow->cb,wpAny_call_entry->jS,letOwnedTupleGo->jC,typeLookup->gw,GenState->eT,Stmt->cg,Obj->bE,sizeLine->fg,rawInt->dD,wpAny_seqItems->jD,wpAny_truthy_bool->me,interactive->iG,Scope->du,wpAny_mono->ir,wpAny_Call_NameR->mf,wpAny_standAt->jT,entryFor_of_tree->mh,callEnvC->gN,entryFor->gO,wpAny_isInstance->mS,plainId_quiet->lI,wpAny_load->jo,sizeLine_eq->jU,wpAny_storeName_local->sG,recursionLimit->mT,Pos->cB,OsState->gW,pyIter->gr,Env->cJ,World->fh,wpAny_call->kT,codeAny_builtin->qg,wpAny_isTrue_Compare1->uQ,starEach->jq,compEnvC->jr,IsRangeIter->mi,Thread->gX,pyNext->gY,Fin->kU,wpAny_typeOf->oB,checkBuiltinCall->sH,relabel->js,wpAny_loadName_local->xw,wpAny_rule->mU,codeAny_call_builtin->xy,lookup_relabel_local->xA,wpAny_pyIter_list->uR,wpAny_list_append_plain->Am,wpAny_execs_cons->uS,wpAny_Constant_int->xB,leaving->kV,wpAny_updateSeq->uT,wpAny_attempt->sI,wpAny_Return_some->xC,wpAny_Assign_Name->xD,wpAny_sequenceKey->xE,assign->jE,fastTable_eq_tree->xF,call_meets->qh,wpAny_newFunctionEnv->An,DictEntry->oE,isSubtype->oF,backTo->jV,call_range_1->sJ,argsOk->jW,IsPair->jX,attributeBase->uU,rangeSize_one->uV,swappedStores->uW,wpAny_Name->rg,wpAny_pyIter_range->Ao,closureFor->rh,isInstance->ri,codeAny_of_tree->xG,wpAny_setField_rec->Ap,standAt->mV,seqIndex? ->rj,specialOf->rk,sysModules->sL,wpAny_Subscript_list_slice->JT,checkTypeCall->xH,nsFind->mj,codeAny->oH,Builtin->uX,wpAny_letGo->uY,Code->iV,notIn_one->sM,callSpecial? ->xI,wpAny_Constant_str->Ea,slot_listiter_next->Eb,IsRange->qi,wpAny_setField->Aq,foldedSetIterable->Ec,wpAny_builtinsFor->Ed,wpAny_nsGet->xJ,wpAny_Assign_Subscript->JU,wpAny_pyNext_list_item->JV,setGen_self->xK,wpAny_pyNext_tuple_end->JW,wpAny_pyIter_gen->Ee,small_one->uZ,codeAny_call_function->JX,wpAny_pyNext_list_end->JY,typeIs_int->xM,Walks->mW,IsZip->mX,wpAny_loadName_cell->JZ,wpAny_loadName_free->J0,Program->sN,compTurn->u4,NameKind->u5,wpAny_bindName->Ef,Slot->lJ,wpAny_ite_true->Eg,wpAny_alloc->Ar,wpAny_assign_Tuple->J1,cellsFrom->xN,wpAny_pyIter_tuple->J2,Comprehension->Eh,behindInMarks->Ei,wpAny_newFunctionEnv_cells->Tc,am_entry_list_getattribute->Td,comprehension->Ej,wpAny_pyIter_slot->J3,wpAny_dictEntries->J4,TypeCalled->As,Result->sO,mainNs->sP,wpAny_items_cons->J5,wpAny_pyIter_zip->J6,wpAny_comprehension_free->Te,callWith->xO,evalArgs->xP,Protocol->xQ,assignStores->Ek,wpAny_GeneratorExp_make->Tf,wpAny_pyNext_range_item->Th,storeName->Au,wpAny_execs_nil->J7,Meets->rl,numSeenOf->Av,strValues->Aw,wpAny_BinOp->El,wpAny_allTrue_And_cons->Ti,subscripted->Em,wpAny_Tuple->En,exec->oJ,unsupported->Eo,wpAny_Slice->Ep,wpAny_pyNext_range_end->Tj,wpAny_pyIter_rangeiter->To,wpAny_allTrue_Or_cons->Tq,getItem->xR,spliced->xS,exec_Assign_Name_used->Tr,entryFor_alias->J8,size_pos_of_not_empty->Tt,isSubtype_stop->J9,wpAny_runValue->Ka,methodCallForm->Kb,wpAny_pyIter_listiter->Tu,wpAny_AugAssign_Name->Tv,call->Er,codeAny_extend_loopS->Tw,keeperOf->Ax,field->sQ,wpAny_updateSeq_pair->Tx,step->Es,assignEach->Et,wpAny_handled->Kc,wpAny_onRaise->Kd,wpAny_isTrue_BoolOp->Tz,wpAny_functionCodeX->TA,entry_listiter_next->TB,wpAny_Constant_none->TC,compareOp->Eu,wpAny_getItem_list->TF,codeAny_func->Ke,makeFunction->Kf,wpAny_newTextTuple->TG,sliceIndices->Kg,typeOf->xT,GenEnd->xU,getMethod->Ew,numTextOf->Ex,callType_new->Ki,args_listiter_next->TH,handedOut->Ey,setItem->Ay,notedBy->Az,Keyword->AA,wpAny_Call_method->TJ,slot_list_setitem->TK,getMethod_builtin->TL,wpAny_mkInt->Kj,wpAny_throw->Kk,keywordEach->Kl,evalThenUse->Km,rule->sR,Args->sS,exec_Assign_Name->TM,wpAny_askSetting->TN,wpAny_comp_letGo->TP,wpAny_items_nil->TQ,wpAny_List->Kn,IsPart->AB,int_index->TR,execs_cons->Ko,wpAny_dictEpoch->TS,Const->xV,leftWithCleanup->TU,rawPart->Ez,plainId->EB,Arguments->Kq,treeTable->Kr,inplaceOp->Ks,clausesOf->Kt,holding->TV,standAt->TX,Builtin->ajo
open _root_.Int renaming ofNat->aj,pos_iff_toNat_pos->AD,fmod_eq_emod_of_nonneg->EC,ofNat_lt->sT,ofNat_le->xW,negSucc->AE,lt_of_le_of_lt->Ku,natCast_nonneg->Kv,toNat_natCast->Kw,lt_toNat->ED,ofNat_eq_natCast->TY,toNat_sub->Kx,toNat_of_nonneg->TZ,lt_of_lt_of_le->T2,max_eq_right->T3,toNat->Ky,ofNat_sub->T4,ofNat_inj->T5,lt_trans->T6,le_trans->T7
open PySem.Expr renaming Name->aq,Call->bx,ListComp->cE,Subscript->dk,Constant->fN,Attribute->gZ,BinOp->fi,Tuple->fO,GeneratorExp->lL,Compare->jt,Slice->ml,Dict->qj,BoolOp->Kz,UnaryOp->T8
open PySem.Str renaming ofString->aC,join->xY
open PySem.Heap renaming get?_push_of_some->a0,get?_push_size->bJ,lt_size->cj,size_push->dE,get?_update_self->gQ,SameBut->gx,get?_update_other->mn,get?_update_ne->KC,ExtBut->KD,mk->KG
open Or renaming inl->ak,inr->aw,elim->bc
open _root_.Option.some renaming inj->aW
open _root_.List renaming range->aJ,mem_singleton->bI,mem_cons_of_mem->bW,mem_cons->bq,getD_eq_getElem?_getD->da,mem_append->bY,getElem?_eq_getElem->dF,mem_map->bG,getElem?_eq_some_iff->dR,replicate->bZ,mem_of_getElem? ->cY,mem_append_left->dc,mem_cons_self->cR,not_mem_cons_of_ne_of_not_mem->hb,getElem?_map->cZ,mem_append_right->ew,mem_range->dm,mem_filter->gu,length_append->iu,length_map->ik,foldl_cons->iw,map_cons->iI,map_append->jY,getElem?_range->oM,length_eq_zero_iff->rn,all_eq_true->mY,not_mem_nil->mZ,length_replicate->ro,getElem?_eq_none->rp,mem_of_mem_drop->rq,length_cons->oO,mem_or_eq_of_mem_set->u6,getElem?_append_left->u7,nodup_append->qk,foldl_append->ql,eq_of_mem_replicate->u9,getElem?_of_mem->sU,getElem?_append_right->xZ,nodup_cons->ru,take_length->sV,of_mem_zip->sW,map_map->qm,range_succ->sX,map_inj_left->va,length_filter_le->AF,mem_of_mem_head? ->AG,pairwise_iff_getElem->EE,mem_of_mem_take->AH,nodup_range->x9,map_congr_left->AI,filter_cons_of_pos->EF,filter_cons_of_neg->EG,forIn_cons->ya,append_nil->yb,nil_append->yc,append_assoc->AJ,getElem?_zipWith->EH,contains_iff_mem->EI,take_append_drop->EJ,lookup_cons->AK,length_take->AL,length_drop->AM,getElem?_zip_eq_some->KH,ext_getElem? ->EK,getElem?_set->EL,take_add_one->EM,take_of_length_le->KI,map_take->AN,mem_reverse->EN,cons_append->EO,mem_iff_getElem? ->KJ,getElem?_toArray->KL,foldl->yd,length_set->ES,zipWith->AO,eq_nil_of_length_eq_zero->T9,zip_cons_cons->KN,map_replicate->KO,getElem?_drop->KP,all_cons->ET,map_drop->EU,length_range->KQ,getElem?_eq_none_iff->Ua,mem_of_mem_eraseIdx->Ub,getElem_mem->KR,any_eq_true->KS,getElem?_replicate->Uc,length_nil->KU,filter_eq_nil_iff->Ud,range_succ_eq_map->Ue,foldl_nil->KV,foldl_map->KW,length_eraseIdx->Ug,contains_eq_mem->Uh,replicate_succ->Ui,filter_eq_self->Uj,takeWhile_cons->Uk,mem_map_of_mem->Ul,map_set->KX,append_of_mem->Um,foldl_flatMap->Un,lookup_append->Uo,flatten_cons->Up,ext_getElem->Uq,range'_succ->Ur,range_zero->Us,map_id'->Ut,any_nil->Uu,lookup->Uv,range'->Uw
open _root_.Nat renaming le_trans->a8,le_of_ble_eq_true->dN,ble_eq_true_of_le->eU,lt_of_lt_of_le->fj,le_refl->ey,ne_of_lt->fE,zero_le->fk,lt_irrefl->gy,lt_trans->gc,le_add_right->iW,lt_succ_self->iX,le_of_lt->gz,xor_zero->gC,lt_of_le_of_lt->jZ,lt_succ_of_lt->kX,ble->dY,zero_xor->ix,add_sub_cancel_left->rx,le_of_lt_succ->m8,add_comm->jF,beq->fF,add_assoc->lM,le_of_not_lt->oQ,add_le_add_left->ry,sub_lt_sub_left->rz,le_succ_of_le->qo,le_of_eq->lN,xor_self->lO,not_lt->j0,lt_or_ge->mq,le_succ->lP,le_of_succ_le->rD,mul_le_mul_left->sY,succ_add_eq_add_succ->ye,add_sub_cancel->sZ,add_sub_of_le->te,le_add_left->rF,not_lt_zero->rH,le_add_right_of_le->yf,ne_of_gt->oR,succ_le_succ->th,add_le_add_right->yg,mod_lt->m9,zero_add->qq,blt->jG,xor_assoc->rJ,add_lt_add_left->yh,add_left_cancel->yi,le_antisymm->vb,add_lt_of_lt_sub'->AP,mod_two_eq_zero_or_one->EV,le_sub_of_add_le->AQ,succ_ne_self->yj,zero_lt_one->yk,lt_or_eq_of_le->AR,one_add_le_iff->AS,mul_comm->vd,add_sub_add_right->EW,sub_le->tj,add_lt_add_right->EX,one_lt_succ_succ->EY,min_eq_left->AU,xor_lt_two_pow->EZ,ne_of_beq_eq_false->KY,mul_add->yl,lt_of_add_right_lt->KZ,sub_add_sub_cancel->K0,min_le_right->E0,sub_eq_zero_of_le->K9,eq_of_beq_eq_true->Lc,min_le_left->E3,le_sub_one_of_lt->Ld,sub_le_of_le_add->Le,add_lt_of_lt_sub->Lf,add_zero->AW,succ_lt_succ_iff->Lg,not_succ_le_self->Lh,add_one_ne_zero->Li,add_le_add->E4,sub_right_comm->Lj,sub_add_cancel->Lk,add_right_comm->Ll,sub_pos_of_lt->Lm,succ_pos->E5,sub_sub_self->Ln,mul_zero->E6,lt_add_right->Lo,succ_pred_eq_of_pos->Ux,lt_add_of_pos_right->Uy,div_lt_self->Lp,div_add_mod->Lq,add_mod_mod->Lr,sub_sub->E7,mul_one->E8,le_of_sub_eq_zero->Uz,div_lt_of_lt_mul->UA,div_le_div_right->UB,succ->AX,mul_succ->Ls,sub_self->Lu,xor_comm->Lv,lt_trichotomy->UC,lt_of_succ_lt->UD,le_zero->Lw,lt_of_not_le->UE,add_left_inj->UG,mod_eq_of_lt->UH,sub_lt->Ly,strongRecOn->UI,mul_assoc->UJ,pred->Lz,le_total->UK,add_mod->UL,two_mul->UM
open List.Mem renaming tail->bU,head->ez
open PySem.Data renaming fields->bH,seq->bQ,dict->eg,bytearray->qr,cell->oS,func->qt,plain->tx,cls->LA,freed->UN
open PySem.ScopeKind renaming function->dZ,module->qu,«class»->UO
open PySem.NameKind renaming «local»->cU,cell->dy,free->eO,globalImplicit->kY
open Except renaming ok->bX,error->j3
open _root_.Bool renaming and_eq_true_iff->fP,and_eq_true->qv,not_eq_true'->ve,or_eq_true->LB,or_false->LC,false_eq_true->UP,eq_iff_iff->UQ,and_false->UR,false_and->US
open PySem.Flow renaming next->cL,ret->cG
open _root_.Option renaming map_eq_some_iff->iY,none->eV,isSome_iff_exists->ym,bind_eq_some_iff->LD,elim->UT,map->UU
open PySem.Obj renaming mapSeq->dO,mapBytearray->jH,data_mapDictKeys->UW,data_mapFields->UX,data->E9
open PySem.Stmt renaming Assign->eF,For->j4,Expr->qw,FunctionDef->AY,Return->yn,AugAssign->Fb,If->yo,While->UY
open PySem.Code renaming builtin->fG,compLoop->hx,compStart->oT,call->ng,quiet_builtin->AZ,forLoop->Fc
open PySem.Builtin.Range renaming rangeSize->lQ,small->vg,rangeFitsLong->aa4,rangeFields->aa5
open PySem.Heap.SameBut renaming update->j5,refl->UZ
open _root_.Ne renaming symm->eQ
open Eq renaming refl->eW,symm->mr
open PySem.FuncBody renaming stmts->kZ
open PyProof.Rows renaming IntsAre->fm,callWith_builtin1->yp,callWith_type1->A1,Subscript_->rL,foldl_take_succ->A3,tail_any->vh,Attribute_any_->Fd,spliced_more->Fe,spliced_none->Ff,call_len_slot->aa6,len_tuple->aa7
open PySem.Value.ref renaming inj->j6
open ForInStep renaming yield->mu
open PySem.GenState renaming running->nk,fresh->LF
open PySem.W renaming emptyDict->iy,emptyDict->tD,Looks->gS,findIn->iJ,boot_heap->oU,boot_o_3->oW,SharedT->nq,boot_o_0->qy,of_pureOf->vi,instObj->Fg,typeIn->qz,looks_findIn->A4,plainGet_of->A5,specialIn->yq,Frag->mw,instObj->vj,looks_field->Fh,Looks->LG,check_slot->U0,absHeap_size->LH,takesIn->A6,looksOpen->U1,looks_mroIn->LI,tc_args->U2,check_slot->LJ,through->Fi,findCls->Fj
open List.cons renaming inj->mx
open PySem.Builtin renaming bitNot->nr,divisionGoesByPylong->Fl,bitAnd->LK,bitXor->U3,bitOr->U4
open PySem.Calls renaming spliced_cons->rM,evalArgs_plain->LL,callWith_function->LM,callWith_builtin->U5,loadGlobal_global->U6
open PySem.Env renaming kindOf->j7
open PySem.W.Looks renaming of_peek->nt,now->vk,of_pure->LO,ld->Fm,ld->aa8
open List.Pairwise renaming nil->rN,filter->Fn,imp->aa9,map->aba
open PySem.Const renaming int->jI,none->rO,str->LP
open _root_.Array renaming getElem?_eq_getElem->yr,getElem?_eq_none->LQ,getElem?_push->LR,getElem?_eq_some_iff->U7,ext'->A7,getElem?_toList->U8,not_mem_empty->U9,append_assoc->Va,ext_getElem? ->Vb,empty_append->Vc,all_eq_true'->Vd,all_eq_true->Ve,replicate->Vg,toList->Vh
open List.Nodup renaming length_le_of_subset->A8
open PySem.Builtin.Bytes renaming subscript? ->yt,payload->yu,buffer? ->yw,ownRelease->A9,slotIsOwn->Ba,write->yx,decodersThatHold->LU,sliceParts->LV,exported->LW,takeBufferQuiet? ->Vi,newBytearray->Vj,checkResize->Vk,fitsIndex->Vl,byteValue->Vm,bindOptional->abb,takeBuffer? ->abc,lengthHint->abd,exportsOf->abe,sliced->abf
open PySem.Builtin.List renaming listSameRef->yy,listExtendWith->Vo,listTooLong->Vp,listTouch->Vq,listSubscript? ->abg,listLengthHint->abh,listFitsIndex->abi
open PySem.F renaming slot_range_iterator_next->Fo,slot_list_getattribute->Fp,plain_extend_loop->Fq,entry_list_iadd->Ft,slot_int_index->Fu,slot_int_rmul->Fw,slot_zip_next->FA,entry_proto_collect->LX,slot_range_reversed->LY,plain_list_iadd->LZ,args_range_iterator_next_1->Vr,entry_range_iterator_next->Vs,slot_tuple_iterator_next->Vt,args_list_getattribute_2->Vu,slot_tuple_getattribute->Vv,called_tuple->L6,slot_tuple_getitem->Vw,entry_extend_loop->Vy,args_int_rmul_2->Vz,plainAttrs_list->VA,plain_tuple_new->VB,entry_tuple_new->VC,args_zip_next_1->VD,entry_int_rmul->VE,slot_list_iadd->VF,entry_zip_next->VG,slot_str_join->VH
open Classical renaming byContradiction->Bb,epsilon_spec->VI,epsilon->VJ,choose->VK
open PyProof.Rows.IntsAre renaming nil->qA,cons->yz
open PySem.Operator renaming Add->rP,Mult->vm,BitXor->Bc,FloorDiv->FC,Mod->Bd,Sub->FD,BitAnd->L7,RShift->L8,Pow->L9
open PySem.Sem renaming wrap_wrap->tF,wp_mono->tH,bind_eq_wrap->Be,onRaise_eq_wrap->FE,bind_eq_wrap'->Ma,wrap_congr->Mb,raise->Mc,wp_bind'->VL
open PySem.W.KBy renaming look_buffer->yA
open PySem.Meets renaming of_wp->rQ
open PySem.Fin renaming done->nu,again->yB
open PySem.Pin renaming globalOf_eq->yC
open Prod.mk renaming inj->tI
open PySem.Challenge renaming rw_nv0014_01->VM,pw_nv0014_01->Md
open PySem.Slot renaming of->ny
open PySem.IsRange renaming new->vo
open PySem.Run renaming running->vp
open PySem.Builtin.Slice renaming sliceAdjust->Me,slicePlaces->VN,sliceApplied->abj
open PySem.Builtin.SmallTypes renaming nextOf->Mf,refuseKeywords->abk,newRecord->abl,newClass->abm,iterAll->abn
open Decidable renaming em->yD
open PySem.IsPart renaming int->vq,none->Mg
open PySem.Resume renaming send->yE
open PySem.Heap.IsCode renaming at2->FF
open PySem.Builtin.ObjectAttr.Found renaming value->VO,bind->abo
open PySem.Keeper renaming machine->FG
open PySem.GenOnly renaming setGen->FH
open PySem.CmpOp renaming NotIn->Bf,In->yF,NotEq->FI,Eq->Bg,Lt->FJ,LtE->VP
open Exists renaming imp->Bh
open PySem.W.WData renaming layableAll->Mh,list->Mi,int->Mj
open Nat.ToInt renaming of_le->Mk
open PySem.Shared renaming asleep_of_life->VQ,forget_eq->VR,rest_eq->VS,heap->VT
open PUnit renaming unit->FK
open PySem.Config renaming single->Ml
open And renaming intro->FL
open PySem.W.KF renaming slot_mset->Mm
open PySem.Thread renaming calm_forget->VU
open PySem.End renaming bare_of_quiet->VV
open PySem.callAny renaming viaDunder->VW
open PySem.W.BT renaming beq_eq->Mn
open PySem.Walks renaming range->Mo,list->VX
open PySem.PyData renaming list->Mp,int->Mq
open PySem.W.CFound renaming val->Mr
open List.range renaming loop->VY
open PySem.Builtin.Tuple renaming tupleIsExact->abp,tupleItemsOf->abq
open PySem.W.KBc renaming picked_eq->VZ
open Int.ofNat renaming inj->V8
open PySem.ExcName renaming means->Wb
open PySem.Builtin.Generator renaming genWake->abr
open PySem.W.OpenRow renaming partSaid->abt,wellSaid->abu
open PySem.W.OpenLaw renaming wellSaid->abw
open Nat.succ renaming inj->Wc
open PySem.Data.seq renaming inj->We
open PySem.ItemsOf renaming nil->Wf
open PySem.GenOnlyQ renaming of->Wg
open PySem.Gives renaming of_wp->Wh
open PySem.Manifest.AttrKind renaming slot->abx
open PySem.BoolOp renaming And->Wi
variable {α β ζ σ:Type} {aS I Ia P' TI TO a c' cC cM cv d d2 dT dx ei fa gp i1 rr sl ta:ae} {params:Kq} {A:b9} {b:Array UInt8} {items ps:Array aa} {aeK fr fr' lp:Bool} {gd:Bool->Bool} {cenv J fZ aeL ZX:cJ} {e e' e1 e2 elt hi it0 iter lo slice ct target' XY value:aG} {fd fd2 fdC XZ fdP ZM ZY Oi:cq} {h h' D U:aO} {left:Int} {pic b8:List (List Nat)} {Gs Ya:List (Nat×eT)} {ks:List (Option aG)} {cl:List (aV×ae)} {tab:List (aV×Int)} {F F' bw W W' bo X fp rs wr H τ':List ae} {gens gs:List Eh} {es ifs ifs':List aG} {aM I9 script:List Int} {bits cs data eb ex fs gen kn l line ms now ns pr sent sp words ws:List Nat} {body zI rest ss:List cg} {args first us vs QO:List aa} {lv:List aa->List aa} {M:Model} {c c0 g i j k k0 k1 k2 k9 kc kf kl ky lc ln lo' n n' n₀ place right size tk turn whole x x1 y z:Nat} {Mid:Nat->ae->aO->Prop} {f:Nat->cq} {St Ja:Nat->aO->Prop} {t t2:Nat->ba} {o o' oP oc ox:bE} {od:Option bE} {ann:Option aa} {os:gW} {P P2:cf} {apos cpos np np2 p p' p1 p2 p3 pos Ct ZZ pt px py q spos:cB} {aN:sO->af->Prop} {L sc' scope wu:du} {pl:aI Bool} {s Y nJ s1 sB sa sb aK aD aQ dg ig:af} {aZ:af->af->Prop} {st:cg} {name nm:aV} {m m0 mb mg:aV->Option aa} {qS zj ty:String} {t8 tb tc tv u:ba} {jP code it self v:aa} {RR:aa->ae->sO->af->Prop} {aX It Q Q₁:aa->af->Prop}
section
variable {a b c d e f g h i j k l m n t x y z:Nat}
theorem Z {α:Sort _} {a:α}:a=a:=rfl
theorem kI {α:Type _} {x:α} {P:Prop} (h:x∈([]:List α)):P:=nomatch h
theorem zk {α:Type _} {P:α->Prop} (x:α) (h:x∈([]:List α)):P x:=kI h
theorem Bj {α:Type _} {x:α} {P:Prop} (h:ai=O x):P:=nomatch h
theorem nnT {P:Prop} (h:N=ab):P:=nomatch h
theorem Iv {P:Prop} (h:ab=N):P:=nomatch h
theorem nn0 {P:Prop} (h:a+1=0):P:=nomatch h
theorem nnZ {P:Prop} (h:0=a+1):P:=nomatch h
theorem nnD {α:Type _} {x:α} {l:List α} {P:Prop} (h:[]=x::l):P:=nomatch h
theorem Yb {α β:Type _} {x z:α} {y t:β} {P:Prop} (h:(x,y)=(z,t)) (k:x=z->y=t->P):P:=k (congrArg (·.1) h) (congrArg (·.2) h)
theorem mH {α β:Type _} [BEq α] [LawfulBEq α] {l:List (α×β)} {x:α} {c:β} (h:l.lookup x=O c):(x,c)∈l:=
 (List.lookup_eq_some_iff.mp h).elim λ_ h=>h.elim λ_ h=>h.1▸ew _ cR
theorem uf {a b:Nat} (h:fF a b=ab):a≠b:=KY h
theorem N7 {a b:Nat} (h:dY a b=N):a≤b:=dN h
theorem nme {a:Nat} {l:List Nat} (h:l.elem a=N):a∈l:=List.mem_of_elem_eq_true h
theorem DQ {a:Nat} {l:List Nat} (h:l.elem a=ab):a∉l:=λk=>nnT ((List.elem_eq_true_of_mem k).symm.trans h)
theorem Z0 {α:Type _} {G:Prop} (o:Option α) (k:o=ai->G) (m:∀x,o=O x->G):G:=by
 cases o with
 | none=>exact k Z
 | some x=>exact m x Z
theorem boC {G:Prop} (b:Bool) (k:b=N->G) (m:b=ab->G):G:=(Bool.eq_false_or_eq_true b).elim k m
theorem r26:∀r∈[12,10,8,6,4,2],2≤r∧r≤12:=by decide
theorem kA1 {α:Type _} {y a:α} {l:List α} (h:y=a):y∈a::l:=h▸cR
theorem kA4 (h:a<b) (k:c=b):a<c:=k▸h
theorem kA5 (h:a≤c):a - b≤c:=a8 (tj ..) h
theorem kB1 (h:a≤b) (k:b.ble c=N):a≤c:=a8 h (dN k)
theorem kB2 (h:a<b) (k:b.ble c=N):a<c:=kB1 h k
theorem kB3 (h:a≤b) (k:(b+1).ble c=N):a<c:=kB1 (th h) k
theorem kB4 (h:a<b) (k:b.ble c=N):a≤c:=kB1 (gz h) k
theorem kB5 (h:a=b) (k:b.ble c=N):a≤c:=kB1 (lN h) k
theorem kB6 (h:a=b) (k:(b+1).ble c=N):a<c:=kB3 (lN h) k
theorem kB7 (h:a≤b) (k:b.ble c=N):a - d≤c:=kA5 (kB1 h k)
theorem kB9 (h:a<b) (k:(b+1).ble c=N):a+1<c:=kB3 h k
theorem kI1 (h:a<b) (e:d=a+1) (k:(b+1).ble c=N):d<c:=e▸kB9 h k
theorem kI2 (h:a<b) (e:d=a) (k:b.ble c=N):d<c:=e▸kB2 h k
theorem kC1 (k:(a+1).ble c=N):a - b<c:=kB3 (tj ..) k
theorem kC2 (k:a.ble c=N):a - b≤c:=kB1 (tj ..) k
theorem kC3 (h:a<c):a - b<c:=jZ (tj ..) h
theorem kC4 (h:a≤m) (k:(m+1).ble c=N):a - b<c:=kC3 (kB3 h k)
theorem kC5 (h:a≤m) (k:(m+1).ble c=N):a - b - d<c:=kC3 (kC4 h k)
theorem kC7 (h:a≤m) (k:m.ble c=N):min d (a - b)≤c:=a8 (E0 ..) (kB7 h k)
theorem kC8 (k:a.ble c=N):min a b≤c:=kB1 (E3 ..) k
theorem nk1 (h:a - b=c+1):a - (b+1)=c:=congrArg Lz h
theorem nk2 (h:a - b=0) (k:b≤a):b=a:=vb k (Uz h)
theorem nk3 (h:a - b=c+1):b<a:=Nat.lt_of_sub_pos (h▸E5 c)
theorem nk4 (h:a≤m) (k:c<a):a - 1 - c<m:=fj (jZ (tj ..) (Ly (jZ (fk c) k) yk)) h
theorem kD2 (h:0<a):a - 1<a:=Ly h yk
theorem kE2 (h:a=b) (k:b≤m) (r:m.ble c=N):a≤c:=h▸kB1 k r
theorem kE3 (h:a<b) (k:b≤m) (r:m.ble c=N):a≤c:=kB4 (fj h k) r
theorem kE5 (h:a=b - d) (k:b≤m) (r:m.ble c=N):a≤c:=h▸kB7 k r
theorem kE7 (h:a<b) (r:(m * b).ble c=N):m * a+m≤c:=kB1 (sY m h) r
theorem kE8 (h:a<b) (r:(m+b).ble c=N):m+a<c:=kB2 (yh h m) r
theorem kE9 (h:a<b) (r:(m+b).ble (c+1)=N):m+a≤c:=m8 (kE8 h r)
theorem kF3 (h:a<b) (k:c=b+d):a<c:=k▸fj h (iW ..)
theorem kF4 (h:a<b) (l:c=m) (k:m=b+d):a<c:=l▸kF3 h k
theorem kF5 (h:a≤b) (k:¬a<b):a=b:=vb h (oQ k)
theorem kF6:a+1+b=a+(b+1):=ye ..
theorem kF7 (h:a+(b+1)≤c):a+1+b≤c:=a8 (lN kF6) h
theorem kF8 (h:a+(b+1)≤c):a+1≤c:=a8 (ry (rF ..) a) h
theorem kF9 (h:a+b≤c) (k:d<b):a+d<c:=fj (yh k a) h
theorem kG2 (k:a=c) (l:b=d) (h:c+d≤m) (r:m.ble n=N):a+b≤n:=k▸l▸kB1 h r
theorem kG3 (h:a+b≤m) (r:m.ble c=N):a≤c:=kB1 (a8 (iW ..) h) r
theorem kG5 (h:c<a - (b+1)):c<a - 1 - b:=Lj a b 1▸h
theorem kH1 {i:Int} (h:a≤m) (k:decide ((m:Int)<i)=N):(a:Int)<i:=Ku (xW.mpr h) (of_decide_eq_true k)
theorem kH2 {i:Int} (h:a<m) (k:decide ((m:Int)≤i)=N):(a:Int)<i:=T2 (sT.mpr h) (of_decide_eq_true k)
theorem kH3 {i:Int} (e:a=b) (h:b≤m) (k:decide ((m:Int)<i)=N):(a:Int)<i:=e▸kH1 h k
theorem kH4 {i:Int} (e:a<b) (h:b≤m) (k:decide ((m:Int)<i)=N):(a:Int)<i:=kH1 (gz (fj e h)) k
theorem kH5 (h:a≤b):min (a:Int) (b:Int)=a:=Int.min_eq_left (xW.mpr h)
theorem kH8 (h:a<b):0<(b:Int) - (a:Int):=Int.sub_pos_of_lt (sT.mpr h)
theorem zJ (ha:a≤k) (D:b≤k):a+(b - a)≤k:=(UK a b).elim (λh=>(te h).symm▸D) λh=>K9 h▸ha
theorem nA1 (e:a=b):(AE k+(a:Int)).toNat=b - (k+1):=e▸(congrArg Ky Int.subNatNat_eq_coe).trans (Kx ..)
theorem nA2 (h:k+1≤b) (e:a=b): -(a:Int)≤AE k:=Int.neg_le_neg (xW.mpr (e▸h))
theorem nA3 (h:i<n):n - i=n - (i+1)+1:=(Ux (Lm h)).symm
theorem nA4 (h:a<m) (k:b<2):2 * a+b<2 * m:=fj (yh k _) (sY 2 h)
theorem nA5 (h:z=y - i):z - 1=y - (i+1):=congrArg Lz h
theorem nA6 (e:z=y - i) (k:i<x) (h:x≤y):0<z:=e▸Lm (fj k h)
theorem nA7 (e:x=a+(b - a)) (h:a≤k) (l:b≤k+1):x≤k+1:=e▸zJ (qo h) l
theorem nA8 (e:x=a+d) (h:c≤a):c≤x:=e▸a8 h (iW ..)
theorem nA9 (e:n - i=k+1) (h:i<n):n - 1 - k=i:=(E7 n 1 k).trans ((congrArg (n - ·) ((jF 1 k).trans e.symm)).trans (Ln (gz h)))
theorem nB1 (e:n - 1 - a=n - 1 - b) (h:a<n) (k:b<n):a=b:=(Ln (Ld h)).symm.trans ((congrArg (n - 1 - ·) e).trans (Ln (Ld k)))
theorem nB2 (h:2 * t≤c - k) (hk:k≤c) (m:g≤f) (l:f≤t):k+g≤c:=a8 (ry (a8 (a8 m l) (a8 (Nat.le_mul_of_pos_left t (by decide)) h)) k) (lN (te hk))
theorem nB3 (e:n=c) (h:2 * t≤c) (l:f≤t):2 * f≤n:=e▸a8 (sY 2 l) h
theorem nB4 (e:d=a - 17) (h:a<17 * (n+1)) (l:¬a<17):d<17 * n:=e▸Nat.sub_lt_right_of_lt_add (oQ l) h
theorem nB5 (h:a+b≤m) (l:¬b<k):a+k+(b - k)≤m:=(lM a k (b - k)).trans (congrArg (a+·) (te (oQ l)))▸h
theorem nB6 (e:d=a - k) (f:c=k) (h:a≤m) (r:k.ble m=N):c+d≤m:=f.symm▸e▸zJ (dN r) h
theorem nB7 (h:d+g=m) (l:m≤k+f):(g - k) / 2≤f:=a8 (Nat.div_le_self ..) (Le (jF k f▸a8 (h▸rF ..) l))
theorem nB8 (h:d+g=m):d+(m - d)=m:=te (h▸iW ..)
theorem nB9 (h:m≤b) (e:k+n=m) (l:b≤c) (r:c.ble d=N):min k b+(n+(b - m))≤d:=a8 (yg (E3 k b) _) (a8 (lN ((lM ..).symm.trans (e.symm▸te h))) (kB1 l r))
theorem nC1 (e:x=l - 1) (h:j<x):j+1<l:=Lf (e▸h)
theorem nC2 (h:i % 2=x) (r:1 - (x+1) % 2=y):1 - (i+1) % 2=y:=r▸h▸congrArg (1 - ·) (UL i 1 2)
theorem nC3 (l:i<a) (h:a≤b):i - k<b:=jZ (tj ..) (fj l h)
theorem nC4 (h:j≠0) (l:¬j % 2=1):j=2 * (j / 2 - 1)+2:=let e:=Nat.mul_div_cancel' (Nat.dvd_of_mod_eq_zero ((EV j).resolve_right l));e.symm.trans (congrArg (2 * ·) (Nat.succ_pred_eq_of_ne_zero (n:=j / 2) λq=>h (e.symm.trans (congrArg (2 * ·) q))).symm)
theorem nC6 (f:l=x - k) (e:x=c) (h:c≤m) (r:m.ble d=N):l≤d:=f▸e▸kA5 (kB1 h r)
theorem nC7 (g:n≤l) (f:l=x - k) (e:x=c) (h:k≤c):k+n≤c:=a8 (ry g k) (f▸e.symm▸lN (te h))
theorem nC9:max 0 (min (k:Int) (n:Int))=min (k:Int) (n:Int):=T3 (Int.le_min.mpr ⟨Kv k,Kv n⟩)
theorem nD1 {b bj:Int} (h:(a:Int)+b<bj) (l:m<((a:Int)+b - a).toNat) (r:bj=(k:Int)):a+m<k:=sT.mp (T6 (Int.add_lt_add_left (ED.mp l) a) ((Int.add_comm ..).trans (Int.sub_add_cancel ..)▸r▸h))
theorem nD2 {bj:Int} (l:m<(bj - a).toNat) (r:bj=(k:Int)):a+m<k:=jF m a▸Lf (Kx k a▸r▸l)
theorem nD3:i<8->((8:Nat):Int) - 1+(i:Int) * -1=((7 - i:Nat):Int):=by revert i;decide
theorem nD4 (h:e - (k+1)=m) (l:g≤m):m - g+g=e - 1 - k:=(Lk l).trans (h.symm.trans (Lj e k 1))
theorem nD5 (l:e - (k+1)=m) (h:k+g<e):g≤m:=l▸AQ (a:=g) (b:=k+1) (Nat.succ_le_of_lt (jF k g▸h:g+k<e))
theorem nD6:k+(i+1) - k - 1=i:=congrArg Lz (rx ..)
theorem nD8:d+(d+i - d)=d+i:=congrArg (d+·) (rx ..)
theorem nD9 (h:b≤a∧a≤m) (e:x=c) (r:(m+1).ble c=N):a - z<x:=e▸kC4 h.2 r
theorem nE1 (g:f≤n - 1) (h:n≤a+1) (k:e≤f) (l:a≤e):f=a:=vb (a8 g (Nat.pred_le_pred h)) (a8 l k)
theorem nE3 (h:y≤x):aj x - aj y=aj (x - y):=(T4 h).symm
theorem nE4 (h:0<n) (r:(1).ble m=N):0<min m n∧min m n≤m:=⟨Nat.lt_min.mpr ⟨dN r,h⟩,E3 ..⟩
theorem nE8 {x:Int} (h:x.natAbs<1073741824):x<2 ^ 64:=Ku Int.le_natAbs (sT.mpr (kB2 h Z))
theorem nE9 (h:m≤x) (l:k≤m):k+(m - k)≤x:=(te l).symm▸h
theorem nF1:((k:Int)+1 * (n:Int)).toNat=k+n:=congrArg Ky (congrArg ((k:Int)+·) (Int.one_mul n))
theorem nF2 (h:d<c):d+(a+c - d)=a+c:=te (a8 (gz h) (rF ..))
theorem nF3 (h:y≤m):aj x - aj y=aj (x+m - y) - aj m:=(Int.add_sub_cancel (x - y:Int) m).symm.trans (congrArg (· - aj m) ((Int.add_right_comm ..).trans (T4 (a8 h (rF ..))).symm))
theorem nF4 (h:a+k≤l):min k (l - a)=k:=AU (AQ (jF a k▸h))
theorem nF5 (h:a=b) (l:j<b):¬a - 1=a:=fE (Ly (h▸Nat.zero_lt_of_lt l) Nat.one_pos)
theorem nF6 (m:j - a=0) (l:¬j<a) (h:a=i):j=i:=(vb (Uz m) (oQ l)).trans h
theorem nF7 (h:b+n≤m) (r:m.ble d=N):min i n≤d:=kB1 (a8 (E0 ..) (a8 (rF ..) h)) r
theorem nF8 (l:a+20 * k<9900) (h:4≤k) (e:x=9900):a+64<x:=e▸jZ (ry (a8 (by decide) (sY 20 h)) a) l
theorem nF9 (h:i<n) (e:x=y) (r:(m+n).ble y=N):m+i<x:=e▸kE8 h r
theorem nG1 (h:a<256) (l:¬a<128):a / 128=1:=Nat.div_eq_of_lt_le (oQ l) h
theorem nG3 (r:(1).ble m=N):a % m<m:=m9 _ (dN r)
theorem nG4 (g:z=y) (f:y=x) (e:x=c+d) (h:k<c) (l:n<d):k+n+1<z:=g▸f▸e▸fj (jZ (lN (lM k n 1)) (EX h _)) (ry l c)
theorem nG5 (h:a<m) (l:b<m) (r:(m+m).ble c=N):a+b<c:=fj (Nat.add_lt_add h l) (dN r)
theorem nG6 (h:a≤m):min a b≤m:=a8 (E3 ..) h
theorem nG8 (g:x≤26 * i+2 * k+m) (j:m<2) (l:k<13) (h:i<6):x≤1000:=kB1 (a8 g (E4 (E4 (sY 26 (gz h)) (sY 2 (gz l))) (gz j))) Z
theorem nG9 (e:d=n+1) (f:a=c) (h:n+1+c=m) (r:(k * m).ble b=N):k * d+k * a≤b:=e▸f▸yl k (n+1) c▸h▸dN r
theorem nH1 {p:Prop} (l:y≤x+2) (h:x≤a+2 * k∧p):y≤a+2 * (k+1):=a8 l (yg h.1 2)
theorem nH2 (l:d=n+1) (h:n+1+g=m):d+g=m:=l▸h
theorem nH3 (h:l≤x+2 * n) (k:x≤y+2):l≤y+2 * (n+1):=a8 h (a8 (yg k _) (lN ((lM ..).trans (congrArg (y+·) (jF ..)))))
theorem nH5 (h:k+m≤i):¬(k≤i∧i - k<m):=λq=>gy _ (fj q.2 (AQ (jF k m▸h)))
theorem nH6 (h:a+b≤m) (r:m.ble d=N):a+min i b≤d:=kB1 (a8 (ry (E0 ..) a) h) r
theorem nH7 (e:x=n+g):n≤x:=e▸iW ..
theorem nH8 (h:a=m * b) (l:b+c=n) (r:(m * n).ble d=N):a≤d:=h▸a8 (sY m (l▸iW ..)) (dN r)
theorem pA1 (k:y≤x+1) (h:x≤a+m):y≤a+(m+1):=a8 k (th h)
theorem pA3 (h:a<2 * 128):a / 128=0∨a / 128=1:=Nat.le_one_iff_eq_zero_or_eq_one.mp (m8 (UA h))
theorem pA5 {k:Int} (h: -2 ^ 62≤k) (l:k<2 ^ 62): -9223372036854775808≤k∧k<9223372036854775808:=⟨T7 (by decide) h,T6 l (by decide)⟩
theorem pA7 {p:Prop} (h:p∧x≤k+n):p∧x≤k+(n+1):=⟨h.1,qo h.2⟩
theorem pA8 (e:t=k) (l:¬b<k) (h:a+b≤m):a+t≤m:=e▸a8 (ry (oQ l) a) h
theorem pA9 (h:a+d+g=t+1) (l:1≤g):a≤t:=Nat.le_of_succ_le_succ (h▸(E4 (iW a d) l:a+1≤a+d+g):a+1≤t+1)
theorem pA0 (h:e<t+1 - a):a+e≤t:=m8 (jF e a▸Lf h)
theorem pB2 (h:0<n):n / 2<n:=Lp h (by decide)
theorem pB3 (h:k<a) (l:b<m) (r:(m * a).ble c=N):m * k+b<c:=fj (yh l _) (kE7 h r)
theorem pB5 {k:Int} (h:0<k):k - 0=(k.toNat:Int):=(Int.sub_zero k).trans (TZ (Int.le_of_lt h)).symm
theorem pB6 {p:Prop} (l:f≤x+m) (h:x≤m * i∧p):f≤m * (i+1):=a8 l (yg h.1 m)
theorem pB7 (e:x=c) (h:n+c=m) (r:m.ble d=N):x≤d:=e▸kB1 (h▸rF ..) r
theorem pB8 (e:x=n) (h:n+c=m) (r:m.ble d=N):x≤d:=e▸kB1 (h▸iW ..) r
theorem pB9 (e:x=n) (h:i+(k+1)=n):i<x:=e▸h▸Uy (E5 k)
theorem pC1 {i:Int} (e:a<b) (h:b≤m) (k:decide (aj m<i)=N):aj a<i:=kH4 e h k
theorem pC2 {i:Int} (h:a≤m) (k:decide (aj m<i)=N):aj a<i:=kH1 h k
theorem pC3 (l:k≤m) (h:m≤n):min (k:Int) (n:Int)=k:=kH5 (a8 l h)
theorem pC4 (h:j<l) (e:l=c - k) (f:x=c):j<x - k:=f.symm▸e▸h
theorem pC5 (e:y=i) (g:x=m) (h:z≤a) (l:i<b) (r:(a+b).ble m=N):z+y≤x:=g▸e▸kB1 (E4 h (gz l)) r
theorem pC8 (e:t=x / 2):2 * t≤x:=e▸Nat.mul_div_le x 2
theorem pC9 (h:k+n=m):max (k:Int) (m:Int)=m:=T3 (xW.mpr (h▸iW ..))
theorem pD1 (h:x=i∧i≤c) (l:c≤m) (r:m.ble d=N):x≤d:=h.1▸kB1 (a8 h.2 l) r
theorem pD2 (h:x=i∧i≤c) (j:c≤e) (l:e≤m) (r:m.ble d=N):x≤d:=h.1▸kB1 (a8 h.2 (a8 j l)) r
theorem pD5 (e:x=i+1) (l:i<b) (h:b≤m) (r:(1+m).ble d=N):1+x≤d:=e▸kB1 (ry (a8 l h) 1) r
theorem pD7 (e:x=a) (h:a+b≤m):x+b≤m:=e▸h
theorem pD8 (h:i+g≤l) (k:n+1≤i):n+g<l:=fj (EX k g) h
theorem pD9 (h:b<i+1) (l:i<k) (m:k≤n):b<n:=fj (jZ (m8 h) l) m
theorem pE1 (h:a+m<c) (r:k.ble m=N):a+k<c:=jZ (ry (dN r) a) h
theorem pE3 (h:(a:Int)<b):a<b:=sT.mp h
theorem pE6 (h:j<e) (l:a+e≤t) (k:t≤n):a+j<n:=fj (yh h a) (a8 l k)
theorem pE7 (h:a≤b) (l:b≤m) (r:m.ble d=N):a≤d:=kB1 (a8 h l) r
theorem pE8 (e:x=a+1) (h:a≤b) (l:b≤m) (r:(m+1).ble d=N):x≤d:=e▸kB1 (th (a8 h l)) r
theorem pF1 (e:x=j) (l:j<n) (h:n≤m) (g:t=d) (r:m.ble d=N):x≤t:=g▸e▸kB4 (fj l h) r
theorem pF6 (e:x=m * b) (h:i<b):m * i+m≤x:=e▸sY m h
theorem pF7 (h:i<b) (e:x=c) (r:(m * b).ble c=N):m * i+m≤x:=e▸kE7 h r
end
local macro_rules | `(tactic| infer_instance)=>do
 let a←`(by assumption)
 let r←`(by with_unfolding_all rfl)
 let t←("List.mem_cons_self,kA1 a,List.mem_cons_of_mem i,List.mem_append_right i,List.mem_append_left i,Or.inl a,Or.inr i,Ne.symm a,Eq.symm a,Nat.le_of_lt a,Nat.succ_le_of_lt a,Nat.lt_of_succ_le a,Nat.le_succ_of_le a,Nat.lt_succ_of_le a,Nat.lt_succ_of_lt a,Nat.succ_le_succ a,Nat.succ_lt_succ a,Nat.lt_succ_self,Nat.le_succ,Nat.le_add_right,Nat.le_add_left,Nat.sub_le,Nat.zero_le,Nat.succ_pos,Nat.lt_of_lt_of_le aa,Nat.lt_of_le_of_lt aa,Nat.lt_of_lt_of_eq aa,kA4 aa,Nat.le_trans aa,kA5 a,kB1 ar,kB2 ar,kB3 ar,kB4 ar,kB5 ar,kB6 ar,kB7 ar,kB9 ar,kI1 arr,kI2 arr,Nat.le_of_ble_eq_true r,kC1 r,kC2 r,kC3 a,kC4 ar,kC5 ar,kC7 ar,kC8 r,nk1 a,nk2 aa,nk3 a,nk4 aa,Nat.sub_add_cancel a,Nat.add_sub_cancel_left,Nat.add_sub_of_le a,kD2 a,Nat.le_sub_one_of_lt a,kE2 aar,kE3 aar,kE5 aar,Nat.lt_of_succ_lt_succ a,Nat.le_of_succ_le_succ a,kE7 ar,kE8 ar,kE9 ar,kF3 aa,kF4 aaa,kF5 aa,kF6,kF7 a,kF8 a,kF9 aa,kG2 aaar,kG3 ar,kG5 a,kH1 ar,kH2 ar,kH3 aar,kH4 aar,kH5 a,kH8 a,nA1 a,nA2 aa,nA3 a,nA5 a,nA6 aaa,nA7 aaa,nA8 aa,nA9 aa,nB1 aaa,nB2 aaaa,nB3 aaa,nB4 aaa,nB5 aa,nB6 aaar,nB7 aa,nB8 a,nB9 aaar,nC1 aa,nC2 ar,nC3 aa,nC4 aa,nC6 aaar,nC7 aaaa,nC9,nD1 aar,nD2 ar,nD3 a,nD4 aa,nD5 aa,nD6,nD8,nD9 aar,nE1 aaaa,nE3 a,nE4 ar,nE8 a,nE9 aa,nF1,nF2 a,nF3 a,nF4 a,nF5 aa,nF6 aaa,nF7 ar,nF8 aaa,nF9 aar,nG1 aa,nG3 r,nG4 aaaaa,nG5 aar,nG6 a,nG8 aaaa,nG9 aaar,nH1 aa,nH2 aa,nH3 aa,nH5 a,nH6 ar,nH7 a,nH8 aar,pA1 aa,pA3 a,pA5 aa,pA7 a,pA8 aaa,pA9 aa,pA0 a,pB2 a,pB3 aar,pB5 a,pB6 aa,pB7 aar,pB8 aar,pB9 aa,pC1 aar,pC2 ar,pC3 aa,pC4 aaa,pC5 aaaar,pC8 a,pC9 a,pD1 aar,pD2 aaar,pD5 aaar,pD7 aa,pD8 aa,pD9 aaa,pE1 ar,pE3 a,pE6 aaa,pE7 aar,pE8 aaar,pF1 aaaar,pF6 aa,pF7 aar,Nat.le_refl".splitOn ",").toArray.mapM λx=>do
  let p:=x.splitOn " "
  let e:=Lean.mkIdent p.head!.toName
  if p.getLast! = "i" then `(Lean.Parser.Tactic.tacticSeq| apply $e;infer_instance)
  else `(Lean.Parser.Tactic.tacticSeq| exact $(Lean.Syntax.mkApp e ((p.drop 1).head?.getD "" |>.toList.toArray.map λc=>if c= 'a' then a else r)) ..)
 `(tactic| with_reducible first | assumption $[| $t]*)
local macro_rules | `(tactic| lia)=>`(tactic| first | infer_instance | fail)
local macro_rules | `(tactic| ext)=>`(tactic| first | infer_instance | contradiction | kernel_rfl)
local macro_rules | `(tactic| show $t:term)=>`(tactic| refine $t)
abbrev LN:=List Nat
abbrev dh(A:Around):Prop:=A.handled=ai
abbrev uh(h ajq:Heap):Prop:=∀b o,h.get? b=O o->ajq.get? b=O o
theorem au{p:Prop}(h:p:=by lia):p:=h
theorem bz{p:Prop}(h:p:=by ext):p:=h
theorem bF{p:Prop}(h:p:=by kernel_rfl):p:=h
theorem jM{p:Prop}(h:p:=by simp;lia):p:=h
theorem fH{p:Prop}(h:p:=by simp):p:=h
theorem aL{p:Prop}[i:Decidable p](h:decide p=N:=by show rfl):p:=of_decide_eq_true h
theorem bu{a b:Nat}(h:Nat.ble a b=N:=by show rfl):a<=b:=N7 h
theorem alq{α:Sort _}{a:α}{q:Prop}:a=a\/q:=.inl rfl
noncomputable abbrev FV:PySem.W.OpenLaw:=VM
theorem wsA:PySem.W.namesResolve FV.row.prog=N:=by ext
theorem wsB:PySem.W.noRoadLSs {strict:= !(importedModules FV.row.prog.main.body).all PySem.W.cThrough.contains,foot:=ai,bare:=(["vars", "dir", "locals"]:List aV).filter (PySem.W.readsOut FV.row.prog FV.row.prog.main.body)} FV.row.prog.main.body=N:=by ext
theorem wsC:PySem.W.namesMeet FV.row.prog FV.row.prog.main.body (λ_ n=>PySem.W.attrL n)=N:=by ext
theorem wsD:U1 FV.row.prog=N:=by
 delta U1
 rw[wsA,wsB,wsC];ext
theorem wsE:FV.row.partSaid=N:=by
 delta abt
 rw[wsD];ext
theorem t1:FV.wellSaid=N:=by
 delta abw abu
 rw[wsE];ext
section
section
variable{gh aP W X gn iN A B aS aZ:Sort _}{G:Prop}
theorem eZ{P Q:Prop}(h:P/\Q)(k:P->Q->G):G:=k h.1 h.2
theorem dG{P:gh->Prop}(h:∃x,P x)(k:∀x,P x->G):G:=h.elim λx i=>k x i
theorem ie{P Q aN:Prop}(h:P/\Q/\aN)(k:P->Q->aN->G):G:=eZ h.2 (k h.1)
theorem Ms{P:Prop}{Q:gh->Prop}(h:P/\∃x,Q x)(k:P->∀x,Q x->G):G:=dG h.2 (k h.1)
theorem bg{P Q:gh->Prop}(h:∃x,P x/\Q x)(k:∀x,P x->Q x->G):G:=h.elim λx i=>eZ i (k x)
theorem jd{P:gh->aP->Prop}(h:∃x y,P x y)(k:∀x y,P x y->G):G:=h.elim λx i=>dG i (k x)
theorem iK{P Q aN S:Prop}(h:P/\Q/\aN/\S)(k:P->Q->aN->S->G):G:=ie h.2 (k h.1)
theorem iL{P:Prop}{Q aN:gh->Prop}(h:P/\∃x,Q x/\aN x)(k:P->∀x,Q x->aN x->G):G:=bg h.2 (k h.1)
theorem gI{P Q aN:gh->Prop}(h:∃x,P x/\Q x/\aN x)(k:∀x,P x->Q x->aN x->G):G:=h.elim λx i=>ie i (k x)
theorem eS{P Q:gh->aP->Prop}(h:∃x y,P x y/\Q x y)(k:∀x y,P x y->Q x y->G):G:=h.elim λx i=>bg i (k x)
theorem iZ{P Q aN S T:Prop}(h:P/\Q/\aN/\S/\T)(k:P->Q->aN->S->T->G):G:=iK h.2 (k h.1)
theorem oX{P Q:Prop}{aN S:gh->Prop}(h:P/\Q/\∃x,aN x/\S x)(k:P->Q->∀x,aN x->S x->G):G:=iL h.2 (k h.1)
theorem oY{P:Prop}{Q aN S:gh->Prop}(h:P/\∃x,Q x/\aN x/\S x)(k:P->∀x,Q x->aN x->S x->G):G:=gI h.2 (k h.1)
theorem FW{P:Prop}{Q aN:gh->aP->Prop}(h:P/\∃x y,Q x y/\aN x y)(k:P->∀x y,Q x y->aN x y->G):G:=eS h.2 (k h.1)
theorem lZ{P Q aN S:gh->Prop}(h:∃x,P x/\Q x/\aN x/\S x)(k:∀x,P x->Q x->aN x->S x->G):G:=h.elim λx i=>iK i (k x)
theorem QP{P Q:gh->Prop}{aN:gh->aP->Prop}(h:∃x,P x/\Q x/\∃y,aN x y)(k:∀x,P x->Q x->∀y,aN x y->G):G:=h.elim λx i=>Ms i.2 (k x i.1)
theorem ju{P Q aN:gh->aP->Prop}(h:∃x y,P x y/\Q x y/\aN x y)(k:∀x y,P x y->Q x y->aN x y->G):G:=h.elim λx i=>gI i (k x)
theorem fc{P Q:gh->aP->W->Prop}(h:∃x y z,P x y z/\Q x y z)(k:∀x y z,P x y z->Q x y z->G):G:=h.elim λx i=>eS i (k x)
theorem yG{P Q:Prop}{aN S:gh->aP->Prop}(h:P/\Q/\∃x y,aN x y/\S x y)(k:P->Q->∀x y,aN x y->S x y->G):G:=FW h.2 (k h.1)
theorem tJ{P Q aN:gh->aP->W->Prop}(h:∃x y z,P x y z/\Q x y z/\aN x y z)(k:∀x y z,P x y z->Q x y z->aN x y z->G):G:=h.elim λx i=>ju i (k x)
theorem FX{P:Prop}{Q aN S T:gh->aP->Prop}(h:P/\∃x y,Q x y/\aN x y/\S x y/\T x y)(k:P->∀x y,Q x y->aN x y->S x y->T x y->G):G:=h.2.elim λx i=>lZ i (k h.1 x)
theorem l0{P Q aN S T:gh->aP->Prop}(h:∃x y,P x y/\Q x y/\aN x y/\S x y/\T x y)(k:∀x y,P x y->Q x y->aN x y->S x y->T x y->G):G:=h.elim λx i=>i.elim λy j=>iZ j (k x y)
theorem gJ{P Q aN S:gh->aP->W->Prop}(h:∃x y z,P x y z/\Q x y z/\aN x y z/\S x y z)(k:∀x y z,P x y z->Q x y z->aN x y z->S x y z->G):G:=h.elim λx i=>i.elim λy j=>lZ j (k x y)
theorem Bk{P Q aN:gh->aP->W->X->Prop}(h:∃x y z u,P x y z u/\Q x y z u/\aN x y z u)(k:∀x y z u,P x y z u->Q x y z u->aN x y z u->G):G:=h.elim λx i=>tJ i (k x)
theorem dU{P Q aN S T cA I iR:Prop}(h:P/\Q/\aN/\S/\T/\cA/\I/\iR)(k:P->Q->aN->S->T->cA->I->iR->G):G:=iZ h.2.2.2 (k h.1 h.2.1 h.2.2.1)
theorem Cu{P Q aN S T cA:gh->aP->Prop}(h:∃x y,P x y/\Q x y/\aN x y/\S x y/\T x y/\cA x y)(k:∀x y,P x y->Q x y->aN x y->S x y->T x y->cA x y->G):G:=h.elim λx i=>i.elim λy j=>iZ j.2 (k x y j.1)
theorem uy{P Q aN S T:gh->aP->W->Prop}(h:∃x y z,P x y z/\Q x y z/\aN x y z/\S x y z/\T x y z)(k:∀x y z,P x y z->Q x y z->aN x y z->S x y z->T x y z->G):G:=h.elim λx i=>l0 i (k x)
theorem gv{P Q aN S:gh->aP->W->X->Prop}(h:∃x y z u,P x y z u/\Q x y z u/\aN x y z u/\S x y z u)(k:∀x y z u,P x y z u->Q x y z u->aN x y z u->S x y z u->G):G:=h.elim λx i=>gJ i (k x)
theorem vt{P Q aN S T cA I:gh->aP->Prop}(h:∃x y,P x y/\Q x y/\aN x y/\S x y/\T x y/\cA x y/\I x y)(k:∀x y,P x y->Q x y->aN x y->S x y->T x y->cA x y->I x y->G):G:=h.elim λx i=>i.elim λy j=>iZ j.2.2 (k x y j.1 j.2.1)
theorem r7{P Q aN S T cA:gh->aP->W->Prop}(h:∃x y z,P x y z/\Q x y z/\aN x y z/\S x y z/\T x y z/\cA x y z)(k:∀x y z,P x y z->Q x y z->aN x y z->S x y z->T x y z->cA x y z->G):G:=h.elim λx i=>Cu i (k x)
theorem fR{P Q aN S T:gh->aP->W->X->Prop}(h:∃x y z u,P x y z u/\Q x y z u/\aN x y z u/\S x y z u/\T x y z u)(k:∀x y z u,P x y z u->Q x y z u->aN x y z u->S x y z u->T x y z u->G):G:=h.elim λx i=>uy i (k x)
theorem FY{P:gh->aP->W->X->gn->iN->A->B->Prop}(h:∃x y z u v w a b,P x y z u v w a b)(k:∀x y z u v w a b,P x y z u v w a b->G):G:=h.elim λx i=>i.elim λy j=>j.elim λz l=>l.elim λu m=>m.elim λv n=>n.elim λw o=>jd o (k x y z u v w)
theorem wx{P Q aN S T:gh->aP->W->X->gn->Prop}(h:∃x y z u v,P x y z u v/\Q x y z u v/\aN x y z u v/\S x y z u v/\T x y z u v)(k:∀x y z u v,P x y z u v->Q x y z u v->aN x y z u v->S x y z u v->T x y z u v->G):G:=h.elim λx i=>fR i (k x)
theorem ki{P Q aN S T cA I iR bj:gh->aP->W->X->gn->iN->Prop}(h:∃x y z u v w,P x y z u v w/\Q x y z u v w/\aN x y z u v w/\S x y z u v w/\T x y z u v w/\cA x y z u v w/\I x y z u v w/\iR x y z u v w/\bj x y z u v w)(k:∀x y z u v w,P x y z u v w->Q x y z u v w->aN x y z u v w->S x y z u v w->T x y z u v w->cA x y z u v w->I x y z u v w->iR x y z u v w->bj x y z u v w->G):G:=h.elim λx i=>i.elim λy j=>j.elim λz l=>l.elim λu m=>m.elim λv n=>n.elim λw o=>dU o.2 (k x y z u v w o.1)
end
section
variable{gh aP W X gn iN:Sort _}
theorem gT{P Q aN:Prop}(a:P)(b:Q)(c:aN):P/\Q/\aN:=⟨a,b,c⟩
theorem rR{P Q aN S:Prop}(a:P)(b:Q)(c:aN)(d:S):P/\Q/\aN/\S:=⟨a,b,c,d⟩
theorem Yc{P Q aN S T:Prop}(a:P)(b:Q)(c:aN)(d:S)(e:T):P/\Q/\aN/\S/\T:=⟨a,b,c,d,e⟩
theorem DR{P:gh->Prop}(x:gh)(a:P x):∃x,P x:=⟨x,a⟩
theorem cn{P Q:gh->Prop}(x:gh)(a:P x)(b:Q x):∃x,P x/\Q x:=⟨x,a,b⟩
theorem kF{P Q aN:gh->Prop}(x:gh)(a:P x)(b:Q x)(c:aN x):∃x,P x/\Q x/\aN x:=⟨x,a,b,c⟩
theorem wy{P Q aN S:gh->Prop}(x:gh)(a:P x)(b:Q x)(c:aN x)(d:S x):∃x,P x/\Q x/\aN x/\S x:=⟨x,a,b,c,d⟩
theorem qE{P:gh->aP->Prop}(x:gh)(y:aP)(a:P x y):∃x y,P x y:=⟨x,y,a⟩
theorem kH{P Q:gh->aP->Prop}(x:gh)(y:aP)(a:P x y)(b:Q x y):∃x y,P x y/\Q x y:=⟨x,y,a,b⟩
theorem Oj{P Q aN:gh->aP->Prop}(x:gh)(y:aP)(a:P x y)(b:Q x y)(c:aN x y):∃x y,P x y/\Q x y/\aN x y:=⟨x,y,a,b,c⟩
theorem Mt{P Q aN S:gh->aP->Prop}(x:gh)(y:aP)(a:P x y)(b:Q x y)(c:aN x y)(d:S x y):∃x y,P x y/\Q x y/\aN x y/\S x y:=⟨x,y,a,b,c,d⟩
theorem Z1{P Q aN S T:gh->aP->Prop}(x:gh)(y:aP)(a:P x y)(b:Q x y)(c:aN x y)(d:S x y)(e:T x y):∃x y,P x y/\Q x y/\aN x y/\S x y/\T x y:=⟨x,y,a,b,c,d,e⟩
theorem agN{P Q aN S T cA:gh->aP->Prop}(x:gh)(y:aP)(a:P x y)(b:Q x y)(c:aN x y)(d:S x y)(e:T x y)(f:cA x y):∃x y,P x y/\Q x y/\aN x y/\S x y/\T x y/\cA x y:=⟨x,y,a,b,c,d,e,f⟩
theorem Bl{P Q:gh->aP->W->Prop}(x:gh)(y:aP)(z:W)(a:P x y z)(b:Q x y z):∃x y z,P x y z/\Q x y z:=⟨x,y,z,a,b⟩
theorem DS{P Q aN S:gh->aP->W->Prop}(x:gh)(y:aP)(z:W)(a:P x y z)(b:Q x y z)(c:aN x y z)(d:S x y z):∃x y z,P x y z/\Q x y z/\aN x y z/\S x y z:=⟨x,y,z,a,b,c,d⟩
theorem agO{P Q aN S T cA:gh->aP->W->Prop}(x:gh)(y:aP)(z:W)(a:P x y z)(b:Q x y z)(c:aN x y z)(d:S x y z)(e:T x y z)(f:cA x y z):∃x y z,P x y z/\Q x y z/\aN x y z/\S x y z/\T x y z/\cA x y z:=⟨x,y,z,a,b,c,d,e,f⟩
theorem aeM{P Q:gh->aP->W->X->Prop}(x:gh)(y:aP)(z:W)(u:X)(a:P x y z u)(b:Q x y z u):∃x y z u,P x y z u/\Q x y z u:=⟨x,y,z,u,a,b⟩
theorem aeN{P Q aN:gh->aP->W->X->Prop}(x:gh)(y:aP)(z:W)(u:X)(a:P x y z u)(b:Q x y z u)(c:aN x y z u):∃x y z u,P x y z u/\Q x y z u/\aN x y z u:=⟨x,y,z,u,a,b,c⟩
theorem DT{P Q aN S:gh->aP->W->X->Prop}(x:gh)(y:aP)(z:W)(u:X)(a:P x y z u)(b:Q x y z u)(c:aN x y z u)(d:S x y z u):∃x y z u,P x y z u/\Q x y z u/\aN x y z u/\S x y z u:=⟨x,y,z,u,a,b,c,d⟩
theorem Z2{P Q aN S T:gh->aP->W->X->Prop}(x:gh)(y:aP)(z:W)(u:X)(a:P x y z u)(b:Q x y z u)(c:aN x y z u)(d:S x y z u)(e:T x y z u):∃x y z u,P x y z u/\Q x y z u/\aN x y z u/\S x y z u/\T x y z u:=⟨x,y,z,u,a,b,c,d,e⟩
theorem aeO{P Q aN S T cA:gh->aP->W->X->Prop}(x:gh)(y:aP)(z:W)(u:X)(a:P x y z u)(b:Q x y z u)(c:aN x y z u)(d:S x y z u)(e:T x y z u)(f:cA x y z u):∃x y z u,P x y z u/\Q x y z u/\aN x y z u/\S x y z u/\T x y z u/\cA x y z u:=⟨x,y,z,u,a,b,c,d,e,f⟩
theorem agP{P Q aN S T:gh->aP->W->X->gn->Prop}(x:gh)(y:aP)(z:W)(u:X)(v:gn)(a:P x y z u v)(b:Q x y z u v)(c:aN x y z u v)(d:S x y z u v)(e:T x y z u v):∃x y z u v,P x y z u v/\Q x y z u v/\aN x y z u v/\S x y z u v/\T x y z u v:=⟨x,y,z,u,v,a,b,c,d,e⟩
end
theorem Mu{l:List α}(h:l.length=n+1):∃a t,l=a::t/\t.length=n:=by
 cases l with
 |nil=>show nnZ h
 |cons a t=>show kH a t Z (Wc h)
theorem ajr{P:List α->Prop}{l:List α}(h:l.length=1)(k:∀a,P [a]):P l:=eS (Mu h) λa _ e h=>e▸T9 h▸k a
theorem agQ{P:List α->Prop}{l:List α}(h:l.length=2)(k:∀a b,P [a,b]):P l:=eS (Mu h) λa _ e h=>e▸ajr (P:=λt=>P (a::t)) h (k a)
theorem aby{P:List α->Prop}{l:List α}(h:l.length=3)(k:∀a b c,P [a,b,c]):P l:=eS (Mu h) λa _ e h=>e▸agQ (P:=λt=>P (a::t)) h (k a)
theorem ajs{P:List α->Prop}{l:List α}(h:l.length=8)(k:∀a b c d e f g i,P [a,b,c,d,e,f,g,i]):P l:=
 eS (Mu h) λa _ e1 h=>eS (Mu h) λb _ e2 h=>eS (Mu h) λc _ e3 h=>eS (Mu h) λd _ e4 h=>eS (Mu h) λe _ e5 h=>
 e1▸e2▸e3▸e4▸e5▸aby (P:=λt=>P (a::b::c::d::e::t)) h (k a b c d e)
theorem nj0(h:j<n):n - j=n - j - 1+1:=(Ux (Lm h)).symm
theorem nj3{m:Nat}(h:n - j=m+1):n=j+(m+1):=by
 rcases UK j n with q|q
 .rw [<-h,Nat.add_sub_cancel' q]
 .rw [K9 q]at h;show nnZ h
theorem nj1{m:Nat}(h:n - j=m+1):n - 1 - m=j:=by rw[nj3 h,E7,jF 1 m,sZ]
theorem nj2{m:Nat}(h:n - j=m+1):n - (j+1)=m:=by rw[Nat.sub_succ,h];rfl
theorem nj6(h:j<n):n - j=n - 1 - j+1:=by rw[Lj];show nj0 h
theorem zK{y a:α}{l:List α}{P:α->Prop}(h:y∈a::l)(p:P a)(q:y∈l->P y):P y:=(bq.mp h).elim (λe=>e▸p) q
theorem jQ{y a:α}{P:α->Prop}(h:y∈[a])(p:P a):P y:=zK h p λx=>kI x
theorem r8{y a b:α}{P:α->Prop}(h:y∈[a,b])(p:P a)(q:P b):P y:=zK h p λh=>jQ h q
theorem Dh{y a b c:α}{P:α->Prop}(h:y∈[a,b,c])(p:P a)(q:P b)(r:P c):P y:=zK h p λh=>r8 h q r
theorem tK{y a b c d:α}{P:α->Prop}(h:y∈[a,b,c,d])(p:P a)(q:P b)(r:P c)(t:P d):P y:=zK h p λh=>Dh h q r t
theorem Wj{y a b c d e:α}{P:α->Prop}(h:y∈[a,b,c,d,e])(p:P a)(q:P b)(r:P c)(t:P d)(u:P e):P y:=zK h p λh=>tK h q r t u
theorem agR{y a b c d e f:α}{P:α->Prop}(h:y∈[a,b,c,d,e,f])(p:P a)(q:P b)(r:P c)(t:P d)(u:P e)(v:P f):P y:=zK h p λh=>Wj h q r t u v
theorem Mv{x b:ae}(h1:x≠a)(h2:x≠b):x∉[a,b]:=hb h1 (sM h2)
theorem aeP{x b c:ae}(h1:x≠a)(h2:x≠b)(h3:x≠c):x∉[a,b,c]:=hb h1 (Mv h2 h3)
theorem agS{x b c:ae}(h1:x≠a)(h2:x≠b)(h3:x≠c)(h4:x≠d):x∉[a,b,c,d]:=hb h1 (aeP h2 h3 h4)
theorem agT{x b c e:ae}(h1:x≠a)(h2:x≠b)(h3:x≠c)(h4:x≠d)(h5:x≠e):x∉[a,b,c,d,e]:=hb h1 (agS h2 h3 h4 h5)
theorem vw{x:ae}{l:List ae}(h:x∉a::l):x≠a:=λq=>h (q▸cR ..)
theorem Mw{x:ae}{l:List ae}(h:x∉a::l):x∉l:=λq=>h (bU _ q)
theorem agU{x:ae}{P:Prop}(h:x∉[a])(k:x≠a->P):P:=k (vw h)
theorem Di{x b:ae}{P:Prop}(h:x∉[a,b])(k:x≠a->x≠b->P):P:=agU (Mw h) (k (vw h))
theorem FZ{x b c:ae}{P:Prop}(h:x∉[a,b,c])(k:x≠a->x≠b->x≠c->P):P:=Di (Mw h) (k (vw h))
theorem og{g:Prop}(h:∀G:Prop,(g->G)->G):g:=h g id
noncomputable def bV:List ae:=[1923,1934,1979,2007]
noncomputable def QR:Nat:=2016
noncomputable def tabObj(ps:Array aa):bE:={cls:=ax,data:=bH ps}
structure hJ(H:List ae)(h h':aO):Prop where
 keep:∀b o,b∉bV->h.get? b=O o->h'.get? b=O o
 tab:∀b,b∈bV->∀ps,h.get? b=O (tabObj ps)->∃more,h'.get? b=O (tabObj (ps++more))
 there:∀b o,h.get? b=O o->∃o',h'.get? b=O o'
 quiet:∀b o,b∈bV->b∉H->h.get? b=O o->h'.get? b=O o
theorem hJ.refl(h:aO):hJ H h h:=⟨λ_ _ _ e=>e,λ_ _ ps e=>⟨#[],e⟩,λ_ o e=>⟨o,e⟩,λ_ _ _ _ e=>e⟩
theorem hJ.trans{a b c:aO}(x:hJ H a b)(y:hJ H b c):hJ H a c where
 keep:=λd o hd e=>y.keep d o hd (x.keep d o hd e)
 tab:=λd hd ps e=>dG (x.tab d hd ps e) λm1 e1=>dG (y.tab d hd _ e1) λm2 e2=>⟨m1++m2,by rw[e2,Va]⟩
 there:=λd o e=>dG (x.there d o e) λo1 e1=>(y.there d o1 e1)
 quiet:=λd o hd ht e=>y.quiet d o hd ht (x.quiet d o hd ht e)
theorem hJ.of_keep(k:uh h h'):hJ H h h':=
 ⟨λb o _ e=>k b o e,λb _ ps e=>⟨#[],k b _ e⟩,λb o e=>⟨o,k b o e⟩,λb o _ _ e=>k b o e⟩
theorem hJ.push(h:aO)(o:bE):hJ H h (h.push o):=.of_keep (λ_ _ e=>a0 o e)
theorem hJ.new(x:hJ H h h'){b:ae}(e:h'.get? b=ai):h.get? b=ai:=by
 cases q:h.get? b with
 |none=>rfl
 |some o=>obtain⟨o',e'⟩:=x.there b o q;have e':=e▸e';ext
theorem bD(h:aO):h.get? h.objs.size=ai:=by
 cases q:h.get? h.objs.size with
 |none=>rfl
 |some o=>show((gy _) (cj q)).elim
theorem fo{b:ae}(h:QR<=b):b∉bV:=λD=>absurd ((by decide:∀x∈bV,x<QR) b D) (j0.mpr h)
def nY(a b:Array eT):Prop:=(∀(i:Nat) (x:eT),a[i]? =O x->b[i]? =O x)/\((∀x∈a,x.bare=N)->∀x∈b,x.bare=N)
theorem nY.refl(a:Array eT):nY a a:=⟨λ_ _ e=>e,λh=>h⟩
theorem nY.trans{a b c:Array eT}(y:nY b c)(x:nY a b):nY a c:=⟨λi z e=>y.1 i z (x.1 i z e),λh=>y.2 (x.2 h)⟩
theorem nY.of{a b:Array eT}(e:b=a):nY a b:=e▸ .refl a
structure dA(H:List ae)(s Y:af):Prop where
 ext:hJ H s.heap Y.heap
 os:Y.os=s.os
 drawn:Y.drawn=s.drawn
 gens:Y.gens=s.gens
theorem dA.refl(s:af):dA H s s:=⟨.refl _,rfl,rfl,rfl⟩
theorem dA.trans{a b c:af}(x:dA H a b)(y:dA H b c):dA H a c:=⟨x.ext.trans y.ext,y.os.trans x.os,y.drawn.trans x.drawn,y.gens.trans x.gens⟩
theorem dA.toks(s:af)(t:Nat):dA H s {s with toks:=t}:=⟨.refl _,rfl,rfl,rfl⟩
inductive AV where
 |none
 |bool(b:Bool)
 |int(i:Int)
 |list(K:List AV)
 |tuple(K:List AV)
 |clo(f:Nat)(ns:LN)(K:List AV)
 |ptr(v:aa)
 |on(u:aa)(x:AV)
open AV renaming ptr->aH,int->a6,list->bR,bool->eX,tuple->fI,none->oZ,clo->tL,on->Bm
theorem Bn{P:AV->Prop}{Q:List AV->Prop}(h1:P oZ)(h2:∀b,P (eX b))(h3:∀i,P (a6 i))(h4:∀u,P (aH u))(h5:∀u x,P x->P (Bm u x))(h6:∀K,Q K->P (bR K))(h7:∀K,Q K->P (fI K))(h8:∀f ns K,Q K->P (tL f ns K))(h9:Q [])(h10:∀x K,P x->Q K->Q (x::K)):(∀a,P a)/\∀l,Q l:=
 ⟨AV.rec (motive_1:=P) (motive_2:=Q) h1 h2 h3 h6 h7 h8 h4 h5 h9 h10,AV.rec_1 (motive_1:=P) (motive_2:=Q) h1 h2 h3 h6 h7 h8 h4 h5 h9 h10⟩
noncomputable def ZN:List String:=["script", "numbers", "level", "checks", "place", "data", "bits", "word", "message", "matrix", "picture", "spots", "right", "step", "i", "j",
 "sent", "words", "start", "bit", "top", "left", "wide", "high", "known", "free", "turn", "number", "amount", "back", "seen", "row",
 "power", "times", "rests", "root", "whole", "line", "now", "old", "size", "gap", "fault", "off", "factor", "grown", "found", "part", "places", "product", "amounts", "mended", "other", "logs", "powers", "a", "b", "before", "after", "here",
 "width", "height", "is_square", "corners", "finder_range", "offset", "sepoffset", "r", "is_micro", "stop", "col", "codewords", "version", "matrix_size", "inc", "idx", "codeword_length", "range_two", "vertical", "z", "upwards",
 "error", "buff", "to_binary", "ec_infos", "data_blocks", "error_blocks", "cw_four", "res", "remainder", "val", "length", "k", "block", "append_data_block", "append_error_block", "gen_log", "gen_exp", "ec_info", "num_error_words",
 "gen", "range_error_words", "len_data", "error_block", "coef", "lcoef", "n", "reserve_regions", "add_timing", "row_eight", "self", "iterable", "item", "obj", "objtype", ".0", "_cls", "num_blocks", "num_total", "num_data"]
def NM(i:Nat):aV:=match ZN[i]? with
 |some s=>aC s
 |none=>⟨#[2000000+i]⟩
abbrev Hx(L:du)(x:Nat):Prop:=L.names.lookup (NM x)=O cU\/L.names.lookup (NM x)=O dy
def Tp(h:aO):Prop:=∃o,h.get? QR=O o
def Gi(L:du)(x:String):Prop:=L.names.lookup (aC x)=O kY
def Fs(e:aG)(J:cJ):Prop:=∀x,Ec e J x=pure x
structure abz where
 name:aV
 qual:aV
 params:Kq
 body:List cg
 scope:du
noncomputable def dP(i:Nat):cg:=match Md.main.body[i]? with|some s=>s|none=>Stmt.Pass ⟨0,0,0,0⟩
noncomputable def bh:cg->List cg
 |AY _ _ b _ _ _ _ _ _ _=>b
 |_=>[]
noncomputable def bf:cg->du
 |AY _ _ _ _ _ _ s _ _ _=>s
 |_=>{kind:=dZ,names:=[],isGenerator:=ab,isCoroutine:=ab,more:=[]}
noncomputable def fz:cg->Kq
 |AY _ p _ _ _ _ _ _ _ _=>p
 |_=>{posonlyargs:=[],args:=[],vararg:=ai,kwonlyargs:=[],kw_defaults:=[],kwarg:=ai,defaults:=[]}
noncomputable def aeQ:aG->aG
 |bx _ (e::_) _ _=>e
 |e=>e
noncomputable def a9(l:List cg)(i:Nat):cg:=match l[i]? with|some s=>s|none=>Stmt.Pass ⟨0,0,0,0⟩
def Z3:cg:=dP 26
def dz:List cg:=bh Z3
def uz:aG->du
 |lL _ _ s _=>s
 |_=>bf Z3
def lG:du:=bf Z3
def QS:cg:=a9 dz 4
noncomputable def Z4:aV:=aC "_law_mended" ++ ".<locals>."
def ST:Nat->abz:=λ_=>⟨NM 33,Z4++NM 33,fz QS,bh QS,bf QS⟩
noncomputable abbrev prog:sN:=Md
def ajt{A B aS aZ aX:Prop}{X:fh->Prop}(_:(A/\B/\(aS/\aZ/\∀w,X w))=aX):fh->Prop:=X
def Gw:fh->Prop:=ajt (aX:=VM.row.Holds) Z
theorem Ga:Nonempty fh:=⟨⟨λ_ _=>0,{strHash:=λ_=>0,shareClass:=λ_=>0,mergeTok:=id,idOf:=λ_=>0,idOfShared:=λ_ _=>0,followText:=λ_=>ab,idOfImm:=λ_=>0}⟩⟩
theorem aju:Nonempty cf:=Ga.elim λw=>⟨w.params⟩
theorem ajv:Nonempty af:=⟨{}⟩
theorem ajw:Nonempty b9:=⟨{}⟩
theorem ajx:Nonempty gW:=⟨{}⟩
noncomputable def Iz{α:Type}(P:α->Prop)(n:[Nonempty af]->[Nonempty b9]->[Nonempty cf]->[Nonempty gW]->Nonempty α):α:= @VJ α (@n ajv ajw aju ajx) λc=>¬P c
theorem hen{P:α->Prop}{n:_}(h:P (Iz P n))(x:α):P x:=Bb λk=> @VI α (λc=>¬P c) ⟨x,k⟩ h
noncomputable def w:fh:= @VJ fh Ga λw=>¬Gw w
theorem QT(h:Gw w):∀v,Gw v:=λv=>Bb λn=> @VI fh (λw=>¬Gw w) ⟨v,n⟩ h
noncomputable def bp(vs:List aa)(n:Nat):bE:={cls:=ao "list",data:=bQ vs.toArray n}
noncomputable def cV(vs:List aa)(n:Nat):bE:={cls:=ao "tuple",data:=bQ vs.toArray n}
theorem my{c P:ae}(x:h.IsCode c P ps):c≠P/\∃oc oP,h.get? c=O oc/\h.get? P=O oP/\oP.data=bH ps/\∀h':aO,h'.get? c=O oc->h'.get? P=O oP->h'.IsCode c P ps:=by show og λgG kG=>?_;obtain⟨o,vs,file,tf,flags,tg,inF,QU,tt,op,i1,i2,i3,i4,i5,i6,i7,i8,i9,i10,i11⟩:=x;show kG ?_;clear kG gG;show⟨i11,o,op,i1,i8,i9,λh' e1 e2=>⟨o,vs,file,tf,flags,tg,inF,QU,tt,op,e1,i2,i3,i4,i5,i6,i7,e2,i9,i10,i11⟩⟩
theorem Ol{c P:ae}(x:h.IsCode c P ps):∃o,h.get? c=O o:=FW (my x) λ_ oc _ e _=>⟨oc,e⟩
theorem Bo{c P:ae}(x:h.IsCode c P ps):∃o,h.get? P=O o:=(my x).2.elim λ_ i=>i.elim λoP j=>⟨oP,j.2.1⟩
theorem Jb{c P:ae}(x:h.IsCode c P ps):c≠P:=(my x).1
def ajy(S:abz)(fd:cq):Prop:=
 fd.qualname=S.qual/\
 fd.params=S.params/\
 fd.body=kZ S.body/\
 fd.scope=S.scope/\
 fd.globals=ef/\
 fd.builtins=gb/\
 fd.defaults=ax/\
 fd.kwdefaults=ax
def My(S:abz)(h:aO)(fd:cq):Prop:=∃c oc ws t,fd.code=R c/\c∉bV/\h.get? c=O oc/\oc.data=bH ws/\ws[1]? =O (cO S.qual t)
def Mz(h:aO)(fd:cq)(x:Nat)(c:Option ae)(v:Option aa):Prop:=∃c' v',c=O c'/\v=O v'/\fd.closure.lookup (NM x)=O c'/\c'∉bV/\h.IsCell c' (O v')
def vx(h:aO)(ns:LN)(fd:cq)(cs:List ae)(vs:List aa):Prop:=(∀(i:Nat) (x:Nat),ns[i]? =O x->Mz h fd x cs[i]? vs[i]?)/\cs.length=ns.length/\vs.length=ns.length
mutual
def bM(h:aO):AV->aa->List ae->Prop
 |oZ,v,F=>v=ax/\F=[]
 |eX b,v,F=>v=c9 b/\F=[]
 |a6 i,v,F=>(∃t,v=ag i t)/\F=[]
 |aH u,v,F=>v=u/\F=[]
 |Bm u x,v,F=>v=u/\bM h x v F
 |bR K,v,F=>∃a vs n F',v=R a/\a∉bV/\h.get? a=O (bp vs n)/\bA h K vs F'/\F=a::F'
 |fI K,v,F=>∃a vs n,v=R a/\a∉bV/\h.get? a=O (cV vs n)/\bA h K vs F
 |tL f ns K,v,F=>∃a o fd cs vs F',v=R a/\a∉bV/\h.get? a=O o/\o.data=qt fd/\ajy (ST f) fd/\My (ST f) h fd/\vx h ns fd cs vs/\bA h K vs F'/\F=cs++F'
def bA(h:aO):List AV->List aa->List ae->Prop
 | [],vs,F=>vs=[]/\F=[]
 |x::K,vs,F=>∃v tM F1 F2,vs=v::tM/\bM h x v F1/\bA h K tM F2/\F=F1++F2
end
theorem bA.nil:bA h [] [] []:=
 ⟨rfl,rfl⟩
theorem ej(F1 F2:List ae){x:AV}{K:List AV}(r:bM h x v F1)(q:bA h K vs F2):bA h (x::K) (v::vs) (F1++F2):=
 (DT v vs F1 F2 Z r q Z)
theorem r9(F':List ae){K:List AV}(ht:a∉bV)(ho:h.get? a=O (bp vs n))(q:bA h K vs F'):bM h (bR K) (R a) (a::F'):=
 Z2 a vs n F' Z ht ho q Z
theorem bM.Gb{u:aa}{P:aa->Prop}(r:bM h (aH u) v F)(k:P u):P v:=
 r.1▸k
theorem iO{K:List AV}{P:Prop}(r:bM h (bR K) v F)(k:∀a vs n F',v=R a->a∉bV->h.get? a=O (bp vs n)->bA h K vs F'->F=a::F'->P):P:=
 fR r λa vs n F' e1 e2 e3 e4 e5=>(k a vs n F' e1 e2 e3 e4 e5)
theorem kJ{x:AV}{K:List AV}{P:Prop}(r:bA h (x::K) vs F)(k:∀v tM F1 F2,vs=v::tM->bM h x v F1->bA h K tM F2->F=F1++F2->P):P:=
 gv r λv tM F1 F2 e1 e2 e3 e4=>(k v tM F1 F2 e1 e2 e3 e4)
theorem jJ{x:AV}{K:List AV}{P:List aa->Prop}(r:bA h (x::K) vs F)(k:∀v tM F1 F2,bM h x v F1->bA h K tM F2->F=F1++F2->P (v::tM)):P vs:=gv r λv tM F1 F2 dX e2 e3 e4=>dX▸k v tM F1 F2 e2 e3 e4
theorem vA{P:List aa->Prop}(r:bA h [] vs F)(k:F=[]->P []):P vs:=
 r.1▸k r.2
theorem nM{x:AV}{P:List aa->Prop}(r:bA h [x] vs F)(k:∀v F1,bM h x v F1->P [v]):P vs:=
 jJ r λv _ F1 _ a b _=>vA (P:=λl=>P (v::l)) b λ_=>k v F1 a
theorem nN{x y:AV}{P:List aa->Prop}(r:bA h [x,y] vs F)(k:∀v u F1 F2,bM h x v F1->bM h y u F2->P [v,u]):P vs:=
 jJ r λv _ F1 _ a b _=>nM (P:=λl=>P (v::l)) b λu F2 c=>k v u F1 F2 a c
theorem Bq{x y z:AV}{P:List aa->Prop}(r:bA h [x,y,z] vs F)(k:∀v u q F1 F2 F3,bM h x v F1->bM h y u F2->bM h z q F3->P [v,u,q]):P vs:=
 jJ r λv _ F1 _ a b _=>nN (P:=λl=>P (v::l)) b λu q F2 F3 c d=>k v u q F1 F2 F3 a c d
theorem bM.zL{i:Int}{P:aa->Prop}(r:bM h (a6 i) v F)(k:∀t,P (ag i t)):P v:=by obtain⟨⟨t,rfl⟩,_⟩:=r;show k t
theorem nO{i:Int}{P:List aa->Prop}(r:bA h [a6 i] vs F)(k:∀t,P [ag i t]):P vs:=
 nM r λ_ _ a=>bM.zL (P:=λv=>P [v]) a k
theorem vB{u:aa}{P:List aa->Prop}(r:bA h [aH u] vs F)(k:P [u]):P vs:=
 nM r λ_ _ a=>bM.Gb (P:=λv=>P [v]) a k
theorem fU{K:List AV}{P:aa->Prop}(r:bM h (bR K) v F)(k:∀a vs n F',a∉bV->h.get? a=O (bp vs n)->bA h K vs F'->F=a::F'->P (R a)):P v:=fR r λa vs n F' dX e2 e3 e4 e5=>dX▸k a vs n F' e2 e3 e4 e5
theorem pU{K:List AV}{P:aa->Prop}(r:bM h (fI K) v F)(k:∀a vs n,a∉bV->h.get? a=O (cV vs n)->bA h K vs F->P (R a)):P v:=gJ r λa vs n dX e2 e3 e4=>dX▸k a vs n e2 e3 e4
def Cs(h:aO)(b:ae):Prop:=∃o,h.get? b=O o/\((o.cls=ao "list" /\∃vs n,o.data=bQ vs n)\/(∃es n,o.data=eg es n)\/∃v,o.data=oS v)
structure Mod(W:List ae)(h h':aO):Prop where
 keep:∀b o,b∉W->b∉bV->h.get? b=O o->h'.get? b=O o
 tab:∀b,b∈bV->∀ps,h.get? b=O (tabObj ps)->∃more,h'.get? b=O (tabObj (ps++more))
 there:∀b o,h.get? b=O o->∃o',h'.get? b=O o'
theorem Mod.refl(W:List ae)(h:aO):Mod W h h:=⟨λ_ _ _ _ e=>e,λ_ _ ps e=>⟨#[],e⟩,λ_ o e=>⟨o,e⟩⟩
theorem hJ.mod(W:List ae)(x:hJ H h h'):Mod W h h':=⟨λb o _ ht e=>x.keep b o ht e,x.tab,x.there⟩
theorem Mod.trans{W:List ae}{a b c:aO}(x:Mod W a b)(y:Mod W' b c)(hw:∀d,d∈W'->d∈W\/a.get? d=ai):Mod W a c where
 keep:=λd o hd ht e=>y.keep d o (λh=>by
  rcases hw d h with h|h
  .show hd h
  .have e:=h▸e;ext) ht (x.keep d o hd ht e)
 tab:=λd hd ps e=>dG (x.tab d hd ps e) λm1 e1=>dG (y.tab d hd _ e1) λm2 e2=>⟨m1++m2,by rw[e2,Va]⟩
 there:=λd o e=>dG (x.there d o e) λo1 e1=>(y.there d o1 e1)
section
variable{W:List ae}
def kK(h:aO)(b:ae):Prop:=∃o,h.get? b=O o/\((∃ws,o.data=bH ws/\∀x t,ws[1]? ≠O (cO x t))\/(∃es n,o.data=eg es n)\/(∃bs n,o.data=qr bs n)\/o.data=tx)
noncomputable def wz:Data->Nat
 |bQ ..=>0
 |eg ..=>1
 |qr ..=>2
 |tx=>3
 |oS ..=>4
 |bH ..=>5
 |_=>6
theorem Cs.tag{b:ae}(x:Cs h b)(e:h.get? b=O o):(o.cls=ao "list" /\wz o.data=0)\/wz o.data=1\/wz o.data=4:=bg x λo' e' k=>aW (e.symm.trans e')▸k.imp (λk=>⟨k.1,jd k.2 λ_ _ q=>congrArg wz q⟩) λk=>k.imp (λqQ=>jd qQ λ_ _ q=>congrArg wz q) λqQ=>dG qQ λ_ q=>congrArg wz q
theorem kK.tag{b:ae}(x:kK h b)(e:h.get? b=O o):(∃ws,o.data=bH ws/\∀x t,ws[1]? ≠O (cO x t))\/wz o.data=1\/wz o.data=2\/wz o.data=3:=bg x λo' e' k=>aW (e.symm.trans e')▸k.imp id λk=>k.imp (λqQ=>jd qQ λ_ _ q=>congrArg wz q) λk=>k.imp (λqQ=>jd qQ λ_ _ q=>congrArg wz q) λq=>congrArg wz q
theorem MA(k:Nat){b:ae}(x:Cs h b\/kK h b)(e:h.get? b=O o)(hk:wz o.data=k)(h0:k=0->o.cls≠ao "list")(h5:∀ws,o.data=bH ws->∃x t,ws[1]? =O (cO x t))(hn:k≠1/\k≠2/\k≠3/\k≠4):False:=by
 subst hk;rcases x with x|x
 .rcases x.tag e with q|q|q
  .show h0 q.2 q.1
  .show hn.1 q
  .show hn.2.2.2 q
 .rcases x.tag e with⟨ws,q,r⟩|q|q|q
  .show jd (h5 ws q) λy t z=>(r y t z)
  .show hn.1 q
  .show hn.2.1 q
  .show hn.2.2.1 q
theorem Br{d:Data}(e:wz d=k)(hk:k≠5):∀ws,d=bH ws->∃x t,ws[1]? =O (cO x t):=λ_ q=>absurd (by show e▸q.symm▸?_;rfl) hk
theorem My.off{S:abz}(keep:∀b o,b∉W->b∉bV->h.get? b=O o->h'.get? b=O o)(hm:∀b∈W,Cs h b\/kK h b)(x:My S h fd):My S h' fd:=by show fR x λc oc ws t c1 c2 c3 c4 c5=>((Z2 c oc ws t c1 c2 (keep c _ (λhw=>?_) c2 c3) c4 c5));show MA 5 (hm c hw) c3 (congrArg wz c4) (λq=>nn0 q) (λws' q=>qE _ _ (Data.fields.inj (q.symm.trans c4)▸c5)) aL
theorem vx.off{cs:List ae}(keep:∀b o,b∉W->b∉bV->h.get? b=O o->h'.get? b=O o)(hF:∀b∈cs,b∉W)(x:vx h ns fd cs vs):vx h' ns fd cs vs:=
 ⟨λi y hy=>l0 (x.1 i y hy) λc' v' g1 g2 g3 g4 g=>Z1 c' v' g1 g2 g3 g4 (bg g λo' g5 g6=>cn o' (keep c' _ (hF c' (cY g1)) g4 g5) g6),x.2⟩
theorem Jc(keep:∀b o,b∉W->b∉bV->h.get? b=O o->h'.get? b=O o)(hm:∀b∈W,Cs h b\/kK h b):(∀(av:AV) (v:aa) (F:List ae),(∀b∈F,b∉W)->bM h av v F->bM h' av v F)/\
 ∀(K:List AV) (vs:List aa) (F:List ae),(∀b∈F,b∉W)->bA h K vs F->bA h' K vs F:=by
 show Bn (λ_ _ _ r=>r) (λ_ _ _ _ r=>r) (λ_ _ _ _ r=>r) (λ_ _ _ _ r=>r) (λu x ih v F hF r=>⟨r.1,ih v F hF r.2⟩) (λK ih v F hF r=>?_) (λK ih v F hF r=>?_) (λf ns K ih v F hF r=>?_) (λ_ _ _ r=>r) (λy ys i1 i2 vs F hF r=>?_)
 .show fR r λa vs n F' e1 e2 e3 e4 e5=>?_;subst e5;show Z2 a vs n F' e1 e2 (keep a _ (hF a au) e2 e3) (ih vs F' (λb D=>hF b au) e4) Z
 .show gJ r λa vs n e1 e2 e3 e4=>(DS a vs n e1 e2 (keep a _ (λhw=>?_) e2 e3) (ih vs F hF e4));show MA 0 (hm a hw) e3 Z (λ_ q=>absurd (Value.type.inj q) aL) (Br (k:=0) Z (uf Z)) aL
 .show ki r λa o fd cs vs F' e1 e2 e3 e4 p c q e5 e6=>have hF1:=λb D=>hF b (e6▸D);⟨a,o,fd,cs,vs,F',e1,e2,keep a _ (λhw=>?_) e2 e3,e4,p,c.off keep hm,q.off keep (λb D=>hF1 b (dc _ D)),ih vs F' (λb D=>hF1 b (ew _ D)) e5,e6⟩;show MA 6 (hm a hw) e3 (congrArg wz e4) (λq=>nomatch q) (Br (k:=6) (congrArg wz e4) (uf Z)) aL
 .show gv r λv tM F1 F2 e1 e2 e3 e4=>?_;subst e4;show DT v tM F1 F2 e1 (i1 v F1 (λb D=>hF b au) e2) (i2 tM F2 (λb D=>hF b au) e3) Z
theorem bM.off(keep:∀b o,b∉W->b∉bV->h.get? b=O o->h'.get? b=O o)(hm:∀b∈W,Cs h b\/kK h b):∀(av:AV) (v:aa) (F:List ae),(∀b∈F,b∉W)->bM h av v F->bM h' av v F:=(Jc keep hm).1
theorem bA.off(keep:∀b o,b∉W->b∉bV->h.get? b=O o->h'.get? b=O o)(hm:∀b∈W,Cs h b\/kK h b):∀(K:List AV) (vs:List aa) (F:List ae),(∀b∈F,b∉W)->bA h K vs F->bA h' K vs F:=(Jc keep hm).2
theorem bM.mod(x:Mod W h h')(hm:∀b∈W,Cs h b)(av:AV)(v:aa)(F:List ae)(hF:∀b∈F,b∉W)(r:bM h av v F):bM h' av v F:=
 bM.off x.keep (λb D=>ak (hm b D)) av v F hF r
theorem bA.mod(x:Mod W h h')(hm:∀b∈W,Cs h b)(av:List AV)(v:List aa)(F:List ae)(hF:∀b∈F,b∉W)(r:bA h av v F):bA h' av v F:=
 bA.off x.keep (λb D=>ak (hm b D)) av v F hF r
theorem bM.ext{av:AV}(x:hJ H h h')(r:bM h av v F):bM h' av v F:=
 bM.mod (x.mod []) (zk) av v F (λ_ _ D=>kI D) r
theorem bA.ext{av:List AV}{v:List aa}(x:hJ H h h')(r:bA h av v F):bA h' av v F:=
 bA.mod (x.mod []) (zk) av v F (λ_ _ D=>kI D) r
end
end
variable{av mI:AV}{avs row K ys:List AV}
open AV renaming ptr->aH,int->a6,list->bR,bool->eX,tuple->fI,none->oZ,clo->tL,on->Bm
section
open PySem.W
noncomputable def MB:cg->List cg
 |Stmt.ClassDef _ _ _ b _ _ _ _ _ _ _=>b
 |_=>[]
noncomputable def mN(fd:cq):bE:={cls:=ao "function",data:=qt fd}
noncomputable def kD(P:cf)(x:String)(t:ba)(v:aa):oE:={hash:=PyData.keyHash P (aC x),key:=cO (aC x) t,val:=v}
def iC(P:cf)(t:Nat->ba)(f:Nat->cq):mw:=[
 (2002,{cls:=ao "type",data:=LA {name:=aC "Buffer",bases:=[ao "object"],mro:=[R 2002,ao "object"],ns:=2001,qualname:=aC "Buffer",hasDict:=ab,slotNames:=[aC "_data"]},slots:=#[ai,ai,O (cO (aC "Buffer") (t 0)),O (cO (aC "Buffer") (t 1)),O (bB "object.__new__"),O (c9 ab)]}),
 (2001,{cls:=ao "dict",data:=eg #[kD P "__module__" (t 2) (cO (aC "segno.encoder") (t 3)),kD P "__firstlineno__" (t 4) (ag 246 (t 5)),
  kD P "__doc__" (t 6) (cO (aC "Wraps a :cls:`bytearray` and provides some useful methods to add bits.\n    ") (t 7)),kD P "__slots__" (t 8) (R 1947),kD P "__init__" (t 9) (R 1956),kD P "extend" (t 10) (R 1963),
  kD P "append_bits" (t 11) (R 1970),kD P "getbits" (t 12) (R 1977),kD P "toints" (t 13) (R 1984),kD P "__len__" (t 14) (R 1991),kD P "__getitem__" (t 15) (R 1998),kD P "__static_attributes__" (t 16) (R 1999),kD P "_data" (t 17) (R 2003)] 2}),
 (2003,{cls:=ao "member_descriptor",data:=bH #[cO (aC "_data") (t 18),R 2002,bB "proto.slot",bB "proto.slot#set",ag 0 0]}),
 (1956,mN (f 0)),(1963,mN (f 1)),(1977,mN (f 2)),(1984,mN (f 3)),(1991,mN (f 4)),(1998,mN (f 5))]
def vC(i:Nat):cg:=a9 (MB (dP 24)) i
noncomputable def IB(p:Nat):Nat:=if p<128 then 2 * p else(2 * p) ^^^ 285
def pw:Nat->Nat
 | 0=>1
 |n+1=>IB (pw n)
def Cv:Nat->LN
 | 0=>bZ 256 0
 |n+1=>(Cv n).set (pw n) n
def QV:LN:=(aJ 255).map pw
def wt:LN:=Cv 255
noncomputable def FPN:List (LN):=[[0,0,0,0,0,0,0,0,0],[0,1,1,1,1,1,1,1,0],[0,1,0,0,0,0,0,1,0],[0,1,0,1,1,1,0,1,0],[0,1,0,1,1,1,0,1,0],[0,1,0,1,1,1,0,1,0],[0,1,0,0,0,0,0,1,0],[0,1,1,1,1,1,1,1,0],[0,0,0,0,0,0,0,0,0]]
noncomputable def Om(dx:ae):bE:={cls:=R 60,dict:=O dx,data:=tx}
def y9(P:cf)(t:Nat->ba)(fd:cq):mw:=[
 (135,{cls:=ao "type",data:=LA {name:=aC "EC",bases:=[ao "tuple"],mro:=[R 135,ao "tuple",ao "object"],ns:=134,qualname:=aC "EC",hasDict:=ab},slots:=#[O (R 65),ai,O (cO (aC "EC") (t 100)),O (cO (aC "EC") (t 101)),O ax,O (c9 ab)]}),
 (60,{cls:=ao "type",data:=LA {name:=aC "_tuplegetter",bases:=[ao "object"],mro:=[R 60,ao "object"],ns:=59,qualname:=aC "_tuplegetter" },slots:=#[ai,ai,O (cO (aC "_tuplegetter") (t 102)),O (cO (aC "_tuplegetter") (t 103)),O (bB "object.__new__"),O (c9 N)]}),
 (134,{cls:=ao "dict",data:=eg #[kD P "__module__" (t 0) (cO (aC "segno.consts") (t 1)),kD P "__firstlineno__" (t 2) (ag 31 (t 3)),kD P "__doc__" (t 4) (cO (aC "EC(num_blocks, num_total, num_data)") (t 5)),kD P "__slots__" (t 6) (R 73),kD P "_fields" (t 7) (R 74),kD P "_field_defaults" (t 8) (R 75),kD P "__new__" (t 9) (R 136),kD P "_make" (t 10) (R 91),kD P "_replace" (t 11) (R 100),kD P "__replace__" (t 12) (R 100),kD P "__repr__" (t 13) (R 107),kD P "_asdict" (t 14) (R 114),kD P "__getnewargs__" (t 15) (R 121),kD P "__match_args__" (t 16) (R 122),kD P "num_blocks" (t 17) (R 124),kD P "num_total" (t 18) (R 127),kD P "num_data" (t 19) (R 130),kD P "__static_attributes__" (t 20) (R 132)] 2}),
 (59,{cls:=ao "dict",data:=eg #[kD P "__module__" (t 21) (cO (aC "segno.consts") (t 22)),kD P "__firstlineno__" (t 23) (ag 5 (t 24)),kD P "__init__" (t 25) (R 35),kD P "__get__" (t 26) (R 43),kD P "__set__" (t 27) (R 50),kD P "__delete__" (t 28) (R 57),kD P "__static_attributes__" (t 29) (R 58),kD P "__dict__" (t 30) (R 61),kD P "__weakref__" (t 31) (R 62),kD P "__doc__" (t 32) ax] 4}),
 (123,{cls:=ao "dict",data:=eg #[kD P "index" (t 33) (ag 0 (t 34)),kD P "__doc__" (t 35) (cO (aC "Alias for field number 0") (t 36))] 2}),
 (126,{cls:=ao "dict",data:=eg #[kD P "index" (t 37) (ag 1 (t 38)),kD P "__doc__" (t 39) (cO (aC "Alias for field number 1") (t 40))] 2}),
 (129,{cls:=ao "dict",data:=eg #[kD P "index" (t 41) (ag 2 (t 42)),kD P "__doc__" (t 43) (cO (aC "Alias for field number 2") (t 44))] 2}),
 (124,Om 123),(127,Om 126),(130,Om 129),(43,mN fd)]
def tgM:cg:=a9 (MB (dP 2)) 1
def agV:cg:=dP 11
def Dj:cg:=a9 (MB agV) 4
noncomputable def agW(f:ae):bE:={cls:=ao "staticmethod",data:=bH #[R f]}
def MC(P:cf)(t:Nat->ba)(fd fd2:cq):mw:=y9 P t fd++[(136,agW 82),(82,mN fd2),(2,{cls:=ax,data:=eg #[]})]
end
section
open PySem.W
noncomputable def Z5(f:Nat->bE)(n:Nat):Nat->Nat->Nat->BT
 | 0,_,_=>BT.nil
 |u+1,b,k=>match jG b n with
  |true=>BT.node (f b) (Z5 f n u (b+k) (2 * k)) (Z5 f n u (b+2 * k) (2 * k))
  |false=>BT.nil
theorem abA(f:Nat->bE)(n:Nat)(u:Nat):∀(b k j:Nat),0<k->j+2<=2 ^ u->b+k * j<n->(Z5 f n u b k).get j=O (f (b+k * j)):=by
 induction u with
 |zero=>intro _ _ j _ h _;simp at h
 |succ u iH=>
  intro b k j hk h hl;show(congrArg (λc=>BT.get (match c with|true=>BT.node (f b) (Z5 f n u (b+k) (2 * k)) (Z5 f n u (b+2 * k) (2 * k))|false=>BT.nil) j) (eU (jZ (iW _ _) hl))).trans<|(BT.get_node _ _ _ _).trans ?_;dsimp only[Nat.pow_succ]at h;show if h0:j=0 then by rw[if_pos h0,h0,E6,AW] else ?_
  rw[if_neg h0];by_cases h1:j % 2=1
  .rw [if_pos h1];obtain⟨i,rfl⟩:∃i,j=2 * i+1:=⟨j / 2,by lia⟩;have e:b+k * (2 * i+1)=b+k+2 * k * i:=by rw[yl,E8,<-UJ,vd k 2];lia
   rw[show(2 * i+1) / 2=i by lia,iH (b+k) (2 * k) i au au (e▸hl),e]
  .rw [if_neg h1];obtain⟨i,rfl⟩:∃i,j=2 * i+2:=⟨j / 2 - 1,by lia⟩;have e:b+k * (2 * i+2)=b+2 * k+2 * k * i:=by rw[yl,<-UJ,vd k 2];lia
   rw[show(2 * i+2) / 2 - 1=i by simp,iH (b+2 * k) (2 * k) i au au (e▸hl),e]
def toT(s:af)(f:Nat->bE):nq:=⟨Z5 f s.heap.objs.size 12 0 1,s.heap.objs.size,s.heap.life,s.gens,s.drawn,s.toks,s.os⟩
theorem Wl{f:Nat->bE}(hn:s.heap.objs.size<=4094)(h:∀i,i<s.heap.objs.size->s.heap.objs[i]? =O (f i)):(toT s f).abs=s:=by
 obtain⟨⟨objs,life⟩,gens,drawn,toks,os⟩:=s
 delta toT SharedT.abs
 dsimp only at h hn ⊢;have:(absHeap (Z5 f objs.size 12 0 1) objs.size life).objs=objs:=by
  show Vb λi=>?_;rw[absHeap_at];by_cases hi:i<objs.size
  .rw [if_pos hi,abA f objs.size 12 0 1 i bu au au,h i hi];simp
  .rw [if_neg hi,LQ (oQ hi)]
 rw[show absHeap (Z5 f objs.size 12 0 1) objs.size life=⟨objs,life⟩ from congrArg (KG · life) this]
noncomputable abbrev p0:sN:=Md
noncomputable def zl:List cg:=p0.main.body
noncomputable def mJ:cJ:={scope:=p0.main.scope,locals:=sP,globals:=sP,cells:=[],code:=R 13,frame:=O 14}
def Dk:iV:=Code.body zl mJ
def Gd(l:List cg)(pos:cB):gX:=⟨((aU l mJ).onRaise (kV mJ)).bind doneF,Dk,pos,[topFrame default]⟩
def S0(w:fh)(os:gW):nq:=⟨Z5 (λi=>(oU w.params).objs.toList.getD i default) 11 12 0 1,11,(oU w.params).life,#[],boot_drawn,boot_toks,os⟩
def ajz(w:fh)(os:gW):Option (nq×gX):=segGoT Kr p0 w 11 (O (R 6)) 99 1506 (S0 w os) (topStub p0)
end
section
open PySem.W
noncomputable def SV(x:String)(t:ba):aa:=cO (aC x) t
noncomputable def lh(l:List aa):bE:={cls:=ao "code",data:=bH l.toArray}
def Oo(st:cg)(t:ba):aa:=((docOf (bh st)).map λx=>cO x t).getD ax
def wj(nm q:String)(st:cg)(df doc pm:aa)(c:ae):cq:={name:=aC nm,qualname:=aC q,params:=fz st,body:=kZ (bh st),scope:=bf st,globals:=3,closure:=[],defaults:=df,kwdefaults:=ax,doc:=doc,pyModule:=pm,code:=R c,builtins:=0}
noncomputable def Dl(k:Nat):LN->List aa
 | []=>[]
 |n::l=>ag (aj n) k::Dl (k+1) l
noncomputable def wk(i:Int)(t:ba)(v:aa):oE:=⟨hashInt i,ag i t,v⟩
noncomputable def tA(i:Nat):ba:=if i<100 then [279,194,283,282,285,284,287,291,292,303,325,336,337,345,352,360,364,374,384,394,395,203,194,207,206,216,225,234,242,245,247,249,250,371,365,373,366,381,375,383,376,391,385,393,386].getD i 0 else [272,280,196,204].getD (i - 100) 0
def fdG:cq:=wj "__get__" "_tuplegetter.__get__" tgM (R 36) ax (SV "segno.consts" 194) 42
def fdN:cq:=wj "__new__" "EC.__new__" Dj ax (Oo Dj 302) (SV "segno.consts" 194) 81
def nsA(P:cf):Array oE:=#[kD P "__name__" 165 (SV "segno.consts" 194),kD P "__doc__" 166 ax,kD P "__package__" 167 ax,kD P "__loader__" 168 (bB "__main__.__loader__#opaque"),kD P "__spec__" 169 ax,kD P "__annotations__" 170 (R 6),kD P "__builtins__" 171 (R 4),kD P "__file__" 173 (SV "/claim/cut.py" 172),kD P "__cached__" 174 ax,kD P "_wall" 193 (R 21),kD P "_tuplegetter" 252 (R 60),kD P "VERSION_M4" 254 (ag 0 253),kD P "VERSION_M3" 257 (ag (-1) 256),kD P "VERSION_M2" 260 (ag (-2) 259),kD P "VERSION_M1" 263 (ag (-3) 262),kD P "ERROR_LEVEL_L" 265 (ag 1 264),kD P "ERROR_LEVEL_M" 267 (ag 0 266),kD P "ERROR_LEVEL_Q" 269 (ag 3 268),kD P "ERROR_LEVEL_H" 271 (ag 2 270),kD P "EC" 399 (R 135)]
def oA(P:cf):List bE:=[qy P,boot_o_1 P,boot_o_2 P,{cls:=ao "dict",data:=eg (nsA P) 20},boot_o_4 P,boot_o_5 P,boot_o_6 P,boot_o_7 P,boot_o_8 P,boot_o_9 P,boot_o_10 P,
 {cls:=(ao "tuple"),data:=bQ #[] 0},{cls:=ax,data:=bH #[(ag 1 0),(ag 0 0),(R 20),(ag 5 0),(ag 0 0),(R 27),(ag 31 0),(ag 0 0),(R 71)]},lh [SV "<module>" 182,SV "<module>" 183,SV "/claim/cut.py" 184,(ag 1 0),(ag 0 0),(ag 0 0),(ag 0 0),(ag 0 0),(R 11),(c9 ab),(ag 181 0),(R 12),ax,ax,ax,ax,ag (aj 185) 0,(ag 1 0),SV "/claim/cut.py" 186],{cls:=(ao "frame"),data:=tx,slots:=#[O (R 13),O (R 3),O (R 3),ai,O (SV "__main__" 164),ai,O (R 0)]}]
def zm(P:cf):mw:=MC P tA fdG fdN++[(36,{cls:=(ao "tuple"),data:=bQ #[ax] 0}),(42,lh [SV "__get__" 217,SV "_tuplegetter.__get__" 218,SV "/claim/cut.py" 219,(ag 11 0),(ag 3 0),(ag 0 0),(ag 0 0),(ag 3 0),(R 37),(c9 N),(ag 181 0),(R 38),ax,(R 39),(R 40),(R 41),ag (aj 223) 0,(ag 11 0),SV "/claim/cut.py" 224]),(81,lh [SV "__new__" 293,SV "EC.__new__" 294,SV "/claim/cut.py" 295,(ag 37 0),(ag 4 0),(ag 0 0),(ag 0 0),(ag 3 0),(R 76),(c9 N),(ag 181 0),(R 77),ax,(R 78),(R 79),(R 80),ag (aj 300) 0,(ag 37 0),SV "/claim/cut.py" 301])]
def ajA(P:cf)(x:nq×gX):gX×Nat×Array eT×gW×List (Option bE)×List (Option bE):=(x.2,x.1.n,x.1.gens,x.1.os,(aJ 15).map x.1.tree.get,(zm P).map λy=>x.1.tree.get y.1)
theorem abB(w:fh)(os:gW):(ajz w os).map (ajA w.params)=O (Gd (zl.drop 12) ⟨31,0,73,58⟩,139,#[],os,(oA w.params).map O,(zm w.params).map λy=>O y.2):=by ext
noncomputable def oG(l:List bE)(g:Nat->bE)(i:Nat):bE:=match jG i 15 with
 |true=>l.getD i default
 |false=>g i
def oN(P:cf)(es:Array oE)(n:Nat):List bE:=(oA P).set 3 {cls:=ao "dict",data:=eg es n}
def goC(l:List bE)(n s:Nat)(w:fh)(os:gW)(d:Drawn)(k:Nat)(g:Nat->bE)(t:gX):Option (nq×gX):=segGoT Kr p0 w n (O (R 12)) 99 s ⟨Z5 (oG l g) n 12 0 1,n,(oU w.params).life,#[],d,k,os⟩ t
def nsB(P:cf)(k:Nat):Array oE:=nsA P++#[kD P "ECC" k (R 139),kD P "GEN_POLY" (k+318) (R 1868)]
end
section
open PySem.W
noncomputable def tC(k i:Nat):ba:=k+[684,692,691,514,695,694,697,696,700,708,716,725,732,741,748,756,758,760,759].getD i 0
def fC(k:Nat):Nat->cq
 | 0=>wj "__init__" "Buffer.__init__" (vC 2) (R 1949) ax (SV "segno.encoder" (k+514)) 1955
 | 1=>wj "extend" "Buffer.extend" (vC 3) ax ax (SV "segno.encoder" (k+514)) 1962
 | 2=>wj "getbits" "Buffer.getbits" (vC 5) ax ax (SV "segno.encoder" (k+514)) 1976
 | 3=>wj "toints" "Buffer.toints" (vC 6) ax (Oo (vC 6) (k+740)) (SV "segno.encoder" (k+514)) 1983
 | 4=>wj "__len__" "Buffer.__len__" (vC 7) ax ax (SV "segno.encoder" (k+514)) 1990
 | 5=>wj "__getitem__" "Buffer.__getitem__" (vC 8) ax ax (SV "segno.encoder" (k+514)) 1997
 |_=>wj "law" "law" (dP 27) ax ax (SV "law_nv0014_01" (k+763)) 2014
def nsC(P:cf)(k0 k:Nat):Array oE:=((nsB P k0).set! 0 (kD P "__name__" 165 (SV "law_nv0014_01" (k+763))))++#[kD P "GALIOS_LOG" (k+256) (R 1888),kD P "GALIOS_EXP" (k+513) (R 1890),kD P "_FINDER_PATTERN" (k+597) (R 1900),kD P "add_finder_patterns" (k+615) (R 1907),kD P "add_timing_pattern" (k+629) (R 1914),kD P "add_codewords" (k+652) (R 1921),kD P "make_final_message" (k+659) (R 1926),kD P "make_blocks" (k+666) (R 1931),kD P "make_matrix" (k+683) (R 1939),kD P "Buffer" (k+762) (R 2002),kD P "_law_mended" (k+770) (R 2010),kD P "law" (k+776) (R 2015)]
def agX(k:Nat):List (ae×cq):=[(1907,wj "add_finder_patterns" "add_finder_patterns" (dP 18) ax (Oo (dP 18) (k+614)) (SV "segno.encoder" (k+514)) 1906),(1914,wj "add_timing_pattern" "add_timing_pattern" (dP 19) ax (Oo (dP 19) (k+628)) (SV "segno.encoder" (k+514)) 1913),(1921,wj "add_codewords" "add_codewords" (dP 20) ax (Oo (dP 20) (k+651)) (SV "segno.encoder" (k+514)) 1920),(1926,wj "make_final_message" "make_final_message" (dP 21) ax (Oo (dP 21) (k+658)) (SV "segno.encoder" (k+514)) 1925),(1931,wj "make_blocks" "make_blocks" (dP 22) ax (Oo (dP 22) (k+665)) (SV "segno.encoder" (k+514)) 1930),(1939,wj "make_matrix" "make_matrix" (dP 23) (R 1932) (Oo (dP 23) (k+682)) (SV "segno.encoder" (k+514)) 1938),(2010,wj "_law_mended" "_law_mended" (dP 26) ax ax (SV "law_nv0014_01" (k+763)) 2009),(2015,wj "law" "law" (dP 27) ax ax (SV "law_nv0014_01" (k+763)) 2014)]
def qF(P:cf)(k:Nat):mw:=iC P (tC k) (fC k)++(aJ 9).map (λi=>(1891+i,cV (Dl (k+516+9 * i) (FPN.getD i [])) 0))++(agX k).map (λx=>(x.1,mN x.2))++[
 (1888,cV (Dl (k+0) wt) 0),
 (1890,bp (Dl (k+257) QV++Dl (k+257) QV) 0),
 (1900,cV ((aJ 9).map λi=>R (1891+i)) 0),
 (1906,lh [SV "add_finder_patterns" (k+598),SV "add_finder_patterns" (k+599),SV "/claim/cut.py" (k+600),(ag 80 0),(ag 3 0),(ag 0 0),(ag 0 0),(ag 3 0),(R 1901),(c9 N),(ag 181 0),(R 1902),ax,(R 1903),(R 1904),(R 1905),ag (aj (k+612)) 0,(ag 80 0),SV "/claim/cut.py" (k+613)]),
 (1913,lh [SV "add_timing_pattern" (k+616),SV "add_timing_pattern" (k+617),SV "/claim/cut.py" (k+618),(ag 102 0),(ag 2 0),(ag 0 0),(ag 0 0),(ag 3 0),(R 1908),(c9 N),(ag 181 0),(R 1909),ax,(R 1910),(R 1911),(R 1912),ag (aj (k+626)) 0,(ag 102 0),SV "/claim/cut.py" (k+627)]),
 (1920,lh [SV "add_codewords" (k+630),SV "add_codewords" (k+631),SV "/claim/cut.py" (k+632),(ag 118 0),(ag 3 0),(ag 0 0),(ag 0 0),(ag 3 0),(R 1915),(c9 N),(ag 181 0),(R 1916),ax,(R 1917),(R 1918),(R 1919),ag (aj (k+649)) 0,(ag 118 0),SV "/claim/cut.py" (k+650)]),
 (1925,lh [SV "make_final_message" (k+653),SV "make_final_message" (k+654),SV "/claim/cut.py" (k+655),(ag 149 0),(ag 3 0),(ag 0 0),(ag 0 0),(ag 3 0),(R 1922),(c9 N),(ag 181 0),(R 1923),ax,ax,ax,(R 1924),ag (aj (k+656)) 0,(ag 149 0),SV "/claim/cut.py" (k+657)]),
 (1930,lh [SV "make_blocks" (k+660),SV "make_blocks" (k+661),SV "/claim/cut.py" (k+662),(ag 181 0),(ag 2 0),(ag 0 0),(ag 0 0),(ag 3 0),(R 1927),(c9 N),(ag 181 0),(R 1928),ax,ax,ax,(R 1929),ag (aj (k+663)) 0,(ag 181 0),SV "/claim/cut.py" (k+664)]),
 (1938,lh [SV "make_matrix" (k+667),SV "make_matrix" (k+668),SV "/claim/cut.py" (k+669),(ag 211 0),(ag 4 0),(ag 0 0),(ag 0 0),(ag 3 0),(R 1933),(c9 N),(ag 181 0),(R 1934),ax,(R 1935),(R 1936),(R 1937),ag (aj (k+680)) 0,(ag 211 0),SV "/claim/cut.py" (k+681)]),
 (1955,lh [SV "__init__" (k+701),SV "Buffer.__init__" (k+702),SV "/claim/cut.py" (k+703),(ag 251 0),(ag 2 0),(ag 0 0),(ag 0 0),(ag 3 0),(R 1950),(c9 N),(ag 181 0),(R 1951),ax,(R 1952),(R 1953),(R 1954),ag (aj (k+706)) 0,(ag 251 0),SV "/claim/cut.py" (k+707)]),
 (1962,lh [SV "extend" (k+709),SV "Buffer.extend" (k+710),SV "/claim/cut.py" (k+711),(ag 254 0),(ag 2 0),(ag 0 0),(ag 0 0),(ag 3 0),(R 1957),(c9 N),(ag 181 0),(R 1958),ax,(R 1959),(R 1960),(R 1961),ag (aj (k+714)) 0,(ag 254 0),SV "/claim/cut.py" (k+715)]),
 (1976,lh [SV "getbits" (k+726),SV "Buffer.getbits" (k+727),SV "/claim/cut.py" (k+728),(ag 260 0),(ag 1 0),(ag 0 0),(ag 0 0),(ag 3 0),(R 1971),(c9 N),(ag 181 0),(R 1972),ax,(R 1973),(R 1974),(R 1975),ag (aj (k+730)) 0,(ag 260 0),SV "/claim/cut.py" (k+731)]),
 (1983,lh [SV "toints" (k+733),SV "Buffer.toints" (k+734),SV "/claim/cut.py" (k+735),(ag 263 0),(ag 1 0),(ag 0 0),(ag 0 0),(ag 3 0),(R 1978),(c9 N),(ag 181 0),(R 1979),ax,(R 1980),(R 1981),(R 1982),ag (aj (k+738)) 0,(ag 263 0),SV "/claim/cut.py" (k+739)]),
 (1990,lh [SV "__len__" (k+742),SV "Buffer.__len__" (k+743),SV "/claim/cut.py" (k+744),(ag 269 0),(ag 1 0),(ag 0 0),(ag 0 0),(ag 3 0),(R 1985),(c9 N),(ag 181 0),(R 1986),ax,(R 1987),(R 1988),(R 1989),ag (aj (k+746)) 0,(ag 269 0),SV "/claim/cut.py" (k+747)]),
 (1997,lh [SV "__getitem__" (k+749),SV "Buffer.__getitem__" (k+750),SV "/claim/cut.py" (k+751),(ag 272 0),(ag 2 0),(ag 0 0),(ag 0 0),(ag 3 0),(R 1992),(c9 N),(ag 181 0),(R 1993),ax,(R 1994),(R 1995),(R 1996),ag (aj (k+754)) 0,(ag 272 0),SV "/claim/cut.py" (k+755)]),
 (2009,lh [SV "_law_mended" (k+765),SV "_law_mended" (k+766),SV "/claim/cut.py" (k+767),(ag 275 0),(ag 3 0),(ag 0 0),(ag 0 0),(ag 3 0),(R 2006),(c9 N),(ag 181 0),(R 2007),ax,ax,ax,(R 2008),ag (aj (k+768)) 0,(ag 275 0),SV "/claim/cut.py" (k+769)]),
 (2014,lh [SV "law" (k+771),SV "law" (k+772),SV "/claim/cut.py" (k+773),(ag 353 0),(ag 1 0),(ag 0 0),(ag 0 0),(ag 3 0),(R 2011),(c9 N),(ag 181 0),(R 2012),ax,ax,ax,(R 2013),ag (aj (k+774)) 0,(ag 353 0),SV "/claim/cut.py" (k+775)]),
 (1923,tabObj #[]),
 (1934,tabObj #[]),
 (1979,tabObj #[]),
 (2007,tabObj #[]),
 (1932,cV [c9 N,c9 N] 0),
 (1948,cV [] 0),
 (1949,cV [R 1948] 0)]
def runC(w:fh)(k0:Nat):=goC (oN w.params (nsB w.params k0) 22) 1888 1382 w
def ajB(P:cf)(k:Nat)(x:nq×gX):Bool×Nat×Array eT×gW×List (Option bE)×List (Option bE):=(Fi x.2,x.1.n,x.1.gens,x.1.os,[2,3].map x.1.tree.get,(qF P k).map λy=>x.1.tree.get y.1)
theorem abC(w:fh)(os:gW)(d:Drawn)(k0 k:Nat)(g:Nat->bE):(runC w k0 os d k g (Gd (zl.drop 14) ⟨75,0,75,8⟩)).map (ajB w.params k)=O (N,2016,#[],os,[O {cls:=ax,data:=eg #[]},O {cls:=ao "dict",data:=eg (nsC w.params k0 k) 34}],(qF w.params k).map λy=>O y.2):=by ext
end
abbrev NoE:aa->af->Prop:=λ_ _=>False
def T{α:Type}(A:b9)(t:aI α)(s:af)(P:α->af->Prop):Prop:=
 ∀⦃Γ:Ctx⦄ ⦃p:cB⦄,Γ.In A->Sem.wp (aE prog w) Γ t (λa _ Y=>P a Y) (λe _ Y=>NoE e Y) p s
theorem T.wp{t:aI α}{P Q:α->af->Prop}(x:T A t s P)(h:∀a Y,P a Y->Q a Y):aA (aE prog w) A t Q aX s:=
 ir x h λ_ _ f=>f.elim
theorem T.Dm{t:aI α}{v₀:α}{Q:α->af->Prop}(h:T A t s λv Y=>Y=aK/\v=v₀)(k:Q v₀ aK):aA (aE prog w) A t Q aX s:=h.wp λ_ _ q=>q.1▸q.2▸k
theorem T.Cw{t:aI α}{X gn:α->af->Prop}{Q:α->af->Prop}(h:T A t s λv Y=>X v Y/\gn v Y)(k:∀v Y,X v Y->gn v Y->Q v Y):aA (aE prog w) A t Q aX s:=h.wp λv Y q=>k v Y q.1 q.2
theorem T.wp3{t:aI α}{X:α->af->Prop}{gn:α->af->β->Prop}{Q:α->af->Prop}(h:T A t s λv Y=>X v Y/\∃F,gn v Y F)(k:∀v Y F,X v Y->gn v Y F->Q v Y):aA (aE prog w) A t Q aX s:=h.wp λv Y qQ=>Ms qQ λx F y=>k v Y F x y
theorem T.wp4{t:aI α}{X:α->af->Prop}{gn iN:α->af->β->Prop}{Q:α->af->Prop}(h:T A t s λv Y=>X v Y/\∃F,gn v Y F/\iN v Y F)(k:∀v Y F,X v Y->gn v Y F->iN v Y F->Q v Y):aA (aE prog w) A t Q aX s:=h.wp λv Y qQ=>iL qQ λx F y z=>k v Y F x y z
theorem T.wpV{t:aI α}{gn:α->β->Prop}{Q:α->af->Prop}(h:T A t s λv Y=>Y=aK/\∃F,gn v F)(k:∀v F,gn v F->Q v aK):aA (aE prog w) A t Q aX s:=h.wp λv _ qQ=>Ms qQ λe F y=>e▸k v F y
theorem T.Z6{t:aI α}{gn iN:α->β->Prop}{Q:α->af->Prop}(h:T A t s λv Y=>Y=aK/\∃F,gn v F/\iN v F)(k:∀v F,gn v F->iN v F->Q v aK):aA (aE prog w) A t Q aX s:=h.wp λv _ qQ=>iL qQ λe F y z=>e▸k v F y z
theorem T.mono{t:aI α}{P Q:α->af->Prop}(x:T A t s P)(h:∀a Y,P a Y->Q a Y):T A t s Q:=x.wp h
abbrev iz:=List (Nat×Nat×AV)
noncomputable def ck:iz->Nat->Option (Nat×AV)
 | [],_=>ai
 |(y,k,av)::r,x=>match fF y x with
  |true=>O (k,av)
  |false=>ck r x
noncomputable def jh:iz->Nat->Nat->AV->iz
 | [],x,k,av=>[(x,k,av)]
 |(y,k',mI)::r,x,k,av=>match fF y x with
  |true=>(x,k,av)::r
  |false=>(y,k',mI)::jh r x k av
theorem mz(G:iz)(x k:Nat)(av:AV)(y:Nat):ck ((x,k,av)::G) y=if x=y then O (k,av) else ck G y:=by
 show(?_:(match fF x y with|true=>O (k,av)|false=>ck G y)=_);cases q:fF x y with
 |true=>show(if_pos (Lc q)).symm
 |false=>show(if_neg (KY q)).symm
theorem uA(G:iz)(x k:Nat)(av:AV)(y k':Nat)(mI:AV):jh ((x,k,av)::G) y k' mI=if x=y then(y,k',mI)::G else(x,k,av)::jh G y k' mI:=by
 show(?_:(match fF x y with|true=>(y,k',mI)::G|false=>(x,k,av)::jh G y k' mI)=_);cases q:fF x y with
 |true=>show(if_pos (Lc q)).symm
 |false=>show(if_neg (KY q)).symm
theorem fJ(G:iz)(x k:Nat)(av:AV)(y:Nat):ck (jh G x k av) y=if y=x then O (k,av) else ck G y:=by
 show(?_:_=if x=y then _ else _).trans (ite_congr (propext eq_comm) (λ_=>rfl) λ_=>rfl);induction G with
 |nil=>show mz [] x k av y
 |cons p r ih=>
  rw[uA,mz];by_cases h:p.1=x
  .rw [if_pos h,mz,h];show if q:x=y then by rw[if_pos q,if_pos q] else by rw[if_neg q,if_neg q,if_neg q]
  .rw [if_neg h,mz,ih];by_cases q:p.1=y
   .rw [if_pos q,if_pos q,if_neg λe=>h (q.trans e.symm)]
   .rw [if_neg q,if_neg q]
theorem Oq{dB M:iz}{p:Nat×AV}(h:ck (dB++M) y=O p):ck dB y=O p\/ck M y=O p:=by
 induction dB with
 |nil=>show aw h
 |cons z dB ih=>
  have h:=(mz (dB++M) z.1 z.2.1 z.2.2 y).symm.trans h;show(show ck (z::dB) y=_ from mz dB z.1 z.2.1 z.2.2 y)▸?_;by_cases e:z.1=y
  .rw [if_pos e]at h ⊢;show ak h
  .rw [if_neg e]at h ⊢;show ih h
theorem Bt{s:String}(h:ZN[i]? =O s):NM i=aC s:=by delta NM;rw[h]
theorem Bu(h:ZN[i]? =ai):NM i=⟨#[2000000+i]⟩:=by delta NM;rw[h]
theorem Jd:(ZN.map aC).Nodup:=by decide
theorem Je:(ZN.all λs=>(aC s).cps.toList.all (· <2000000))=N:=by rfl
theorem Cx(h:NM i=NM j):i=j:=by
 show Z0 (ZN[i]?) (λhi=>?_) λa hi=>?_
 .cases hj:ZN[j]? with
  |some b=>exfalso;rw[Bu hi,Bt hj]at h;have:=mY.mp Je b (cY hj);rw[<-h]at this;simp at this;lia
  |none=>have:=congrArg (λa:Array Nat=>a.toList) (congrArg Str.cps ((Bu hj)▸(Bu hi)▸h));simp at this;show this
 .cases hj:ZN[j]? with
  |some b=>
   have h:=(Bt hj)▸(Bt hi)▸h;have e1:(ZN.map aC)[i]? =O (aC a):=by rw[cZ,hi];rfl
   have e2:(ZN.map aC)[j]? =O (aC b):=by rw[cZ,hj];rfl
   rw[<-h]at e2;show dG (dR.mp e1) λl1 g1=>?_;show dG (dR.mp e2) λl2 g2=>?_;rcases UC i j with c|c|c
   .show ((EE.mp Jd i j l1 l2 c) (g1.trans g2.symm)).elim
   .show c
   .show ((EE.mp Jd j i l2 l1 c) (g2.trans g1.symm)).elim
  |none=>have h:=(Bu hj)▸(Bt hi)▸h;have:=mY.mp Je a (cY hi);rw[h]at this;simp at this;lia
theorem aeb(i:Nat)(y:aV)(h1:(ZN.all λs=>aC s != y)=N)(h2:y.cps.size≠1):(NM i==y)=ab:=by
 show Z0 (ZN[i]?) (λhi=>?_) λa hi=>?_
 .rw [Bu hi];rw[beq_eq_false_iff_ne];intro e;subst e;show h2 Z
 .rw [Bt hi];have:=mY.mp h1 a (cY hi);simpa using this
theorem wA(i:Nat):(NM i==("__debug__" :aV))=ab:=aeb i _ (rfl) (uf Z)
theorem vD(i:Nat):(NM i==("__classdict__" :aV))=ab:=aeb i _ (rfl) (uf Z)
def Ak(J:cJ)(h:aO)(x:aV)(v:aa):Prop:=
 (J.kindOf x=O cU/\∃m,h.Ns J.locals m/\m x=O v)\/
 ((J.kindOf x=O dy\/J.kindOf x=O eO)/\∃c,J.cells.lookup x=O c/\c∉bV/\h.IsCell c (O v))
protected theorem hJ.ns(x:hJ H h h')(ha:a∉bV)(n:h.Ns a m):h'.Ns a m:=
 fc n λo es ep ho r=>Bl o es ep (x.keep a o ha ho) r
theorem hJ.cell{v:Option aa}(x:hJ H h h')(ha:a∉bV)(n:h.IsCell a v):h'.IsCell a v:=
 bg n λo ho r=>cn o (x.keep a o ha ho) r
theorem Ak.ext{x:aV}(e:hJ H h h')(hl:J.locals∉bV)(cA:Ak J h x v):Ak J h' x v:=bc cA (λi0=>iL i0 λk m n e1=>ak ⟨k,m,e.ns hl n,e1⟩) λi0=>oY i0 λk c e1 e2 e3=>aw ⟨k,c,e1,e2,e.cell e2 e3⟩
section
variable(H:List ae)(U:aO)
structure ER(L:du)(J:cJ)(h:aO)(G:iz):Prop where
 base:hJ H U h
 kind:J.scope.kind=dZ
 gl:∀x,L.names.lookup x=O kY->J.kindOf x=O kY
 Wm:∀x,(L.names.lookup x=O dy\/L.names.lookup x=O eO)->(J.kindOf x=O dy\/J.kindOf x=O eO)
 glob:J.globals=ef
 bi:J.builtins=gb
 loc:J.locals∉bV
 has:∀x k av,ck G x=O (k,av)->∃v F,Ak J h (NM x) v/\bM h av v F
end
section
variable{H:List ae}{U:aO}{G:iz}
theorem ER.ext(r:ER H U L J h G)(x:hJ H h h'):ER H U L J h' G:=
 ⟨r.base.trans x,r.kind,r.gl,r.Wm,r.glob,r.bi,r.loc,λy k av e=>eS (r.has y k av e) λv F a b=>(kH v F (a.ext x r.loc) (b.ext x))⟩
end
structure cx(U:aO)(mg mb:aV->Option aa):Prop where
 g:U.Ns ef mg
 b:U.Ns gb mb
 lim:U.NoLimit
 top:Tp U
 bmod:∃bm o,mg "__builtins__" =O (R bm)/\bm≠gb/\bm∉bV/\U.get? bm=O o/\o.cls=ao "module" /\o.dict=O gb/\o.data=tx
theorem jw{U:aO}(B:Tp U)(x:hJ H U h):QR<=h.objs.size:=dG B λo e=>dG (x.there _ _ e) λo' e'=>gz (cj e')
protected theorem cx.mg{U:aO}(B:cx U mg mb)(x:hJ H U h):h.Ns ef mg:=x.ns (DQ Z) B.g
protected theorem cx.mb{U:aO}(B:cx U mg mb)(x:hJ H U h):h.Ns gb mb:=x.ns (DQ Z) B.b
theorem cx.zo{U:aO}(B:cx U mg mb)(x:hJ H U h):h.NoLimit:=bg B.lim λmc n e=>cn mc (x.ns (DQ Z) n) e
section
variable{H:List ae}{U:aO}{G:iz}
theorem pR{x:aV}(hk:J.scope.kind=dZ)(E:J.kindOf x=O kY)(hg:s.heap.Ns J.globals mg)(hv:mg x=O v)(h:Q v s):aA (aE prog w) A (loadName J x) Q aX s:=by rw[loadName_read hk E];show ah<|xJ hg<|hv.symm▸aB h
theorem mO{x:aV}(hk:J.scope.kind=dZ)(E:J.kindOf x=O kY)(hg:s.heap.Ns J.globals mg)(D:s.heap.Ns J.builtins mb)(hn:mg x=ai)(hv:mb x=O v)(h:Q v s):aA (aE prog w) A (loadName J x) Q aX s:=by rw[loadName_read hk E];show ah<|xJ hg<|hn.symm▸ah (xJ D ?_);show hv.symm▸aB h
theorem vY(r:ER H U L J s.heap G)(E:ck G x=O (k,av)):
 T A (a7 (aq (NM x) pos) J) s (λv Y=>Y=s/\∃F,bM s.heap av v F):=by
 show eS (r.has x k av E) λv F cA aP=>(rg ?_ (wA x));show bc cA (λi0=>iL i0 λhl m n e=>xw r.kind hl n e ⟨rfl,F,aP⟩) λi0=>oY i0 λhl c hc _ hv=>?_;rcases hl with hl|hl
 .show JZ r.kind hl hc hv ⟨rfl,F,aP⟩
 .show J0 r.kind hl hc hv ⟨rfl,F,aP⟩ (vD x)
theorem ui{u:aa}(r:ER H U L J s.heap G)(E:ck G x=O (k,aH u)):T A (a7 (aq (NM x) pos) J) s (λv Y=>Y=s/\v=u):=
 (vY r E).mono λ_ _ q=>⟨q.1,q.2.elim λ_ aP=>aP.Gb (P:=λv=>v=u) Z⟩
theorem sd{x:aV}(B:cx U mg mb)(r:ER H U L J s.heap G)(E:L.names.lookup x=O kY)(hv:mg x=O v)(hd:(x==("__debug__" :aV))=ab):T A (a7 (aq x pos) J) s (λu Y=>Y=s/\u=v):=
 rg (pR r.kind (r.gl x E) (r.glob▸B.mg r.base) hv ⟨rfl,rfl⟩) hd
theorem eG{x:aV}(B:cx U mg mb)(r:ER H U L J s.heap G)(E:L.names.lookup x=O kY)(hn:mg x=ai)(hv:mb x=O v)(hd:(x==("__debug__" :aV))=ab):T A (a7 (aq x pos) J) s (λu Y=>Y=s/\u=v):=
 rg (mO r.kind (r.gl x E) (r.glob▸B.mg r.base) (r.bi▸B.mb r.base) hn hv ⟨rfl,rfl⟩) hd
end
variable{G G' G0 G1 Gx:iz}
structure Z7(n:Nat)(A:b9):Prop where
 hd:A.handled=ai
 depth:A.depth+n<1000
 units:A.units+20 * n<9900
inductive BOp where|add|sub|mul|fdiv|fmod|pow|xor|band|shr(u:Unit)
noncomputable def BOp.ast:BOp->Operator
 | .add=>rP | .sub=>FD | .mul=>vm | .fdiv=>FC | .fmod=>Bd | .pow=>L9 | .xor=>Bc | .band=>L7 | .shr _=>L8
noncomputable def o4(x:Int):Bool:=decide (x.natAbs<1073741824)
def wB:BOp->Int->Int->Option Int
 | .add=>λx y=>O (x+y)
 | .sub=>λx y=>O (x - y)
 | .mul=>λx y=>cond (o4 x) (O (x * y)) ai
 | .fdiv=>λx y=>cond (o4 y && decide (0<y)) (O (x.fdiv y)) ai
 | .fmod=>λx y=>cond (decide (0<y)) (O (x.fmod y)) ai
 | .pow=>λx y=>cond (o4 x && decide (0<=y) && decide (y<=1000)) (O (x ^ y.toNat)) ai
 | .xor=>λx y=>x.casesOn (λx=>y.casesOn (λy=>O (aj (x ^^^ y))) λ_=>ai) λ_=>ai
 | .band=>λx y=>x.casesOn (λx=>y.casesOn (λy=>O (aj (x &&& y))) λ_=>ai) λ_=>ai
 | .shr _=>λx y=>cond (decide (0<=y)) (O (x.fdiv (2 ^ y.toNat))) ai
inductive COp where|eq|ne|lt|le|gt|ge(u:Unit)
noncomputable def COp.ast:COp->CmpOp
 | .eq=>Bg | .ne=>FI | .lt=>FJ | .le=>VP | .gt=>CmpOp.Gt | .ge _=>CmpOp.GtE
noncomputable def gU:COp->Int->Int->Bool
 | .eq=>λx y=>x==y
 | .ne=>λx y=>x != y
 | .lt=>λx y=>decide (x<y)
 | .le=>λx y=>decide (x<=y)
 | .gt=>λx y=>decide (y<x)
 | .ge _=>λx y=>decide (y<=x)
theorem se(op:COp)(e:aG):Ei op.ast e=ab:=by
 cases e with
 |Set aeR k pos=>change(k==0 && (op.ast==yF ||op.ast==Bf) && aeR.all (constantsAlone 8))=ab;show(by cases op<;>rfl:(op.ast==yF ||op.ast==Bf)=ab).symm▸?_;simp
 |_=>rfl
theorem Ge(x y:Nat):LK (aj x) (aj y)=aj (x &&& y):=by rfl
theorem Cy(h:k<n):rj (aj k) n=O k:=
 if_pos (fP.mpr ⟨decide_eq_true (Kv k),decide_eq_true (sT.mpr h)⟩)
theorem aeS{a b:Nat}(h:a / 2+b / 2=c / 2)(k:a % 2+b % 2=c % 2):a+b=c:=(congr (congrArg HAdd.hAdd (Lq a 2)) (Lq b 2)).symm.trans ((Nat.add_add_add_comm ..).trans (yl 2 _ _▸h▸k▸Lq c 2))
theorem Z8:(x ^^^ y) % 2+(x &&& y) % 2=(x |||y) % 2:=by rw[(Nat.xor_mod_two_pow (n:=1)),(Nat.and_mod_two_pow (n:=1)),(Nat.or_mod_two_pow (n:=1)),Nat.pow_one];rcases EV x with h|h<;>rcases EV y with k|k<;>rw[h,k]<;>rfl
theorem Bv(x y:Nat):x |||y=(x ^^^ y)+(x &&& y):=by
 have key:∀n x y:Nat,x<=n->y<=n->(x ^^^ y)+(x &&& y)=x |||y:=by
  intro n;induction n with
  |zero=>intro x y E hy;rw[Lw.mp E,Lw.mp hy];rfl
  |succ n ih=>show λx y E hy=>aeS ?_ Z8;rw[Nat.xor_div_two,Nat.and_div_two,Nat.or_div_two];show ih _ _ (a8 (UB E) (m8 (Lp (E5 n) aL))) (a8 (UB hy) (m8 (Lp (E5 n) aL)))
 show(key (x+y) x y (iW ..) (rF ..)).symm
theorem Yd(x y:Nat):U4 (aj x) (aj y)=aj (x |||y):=by
 delta U4
 have:LK (nr (aj x)) (nr (aj y))=nr (aj (x |||y)):=by rw[LK,(decide_eq_false (by delta nr;have:aj x=(x:Int):=rfl;lia)),(decide_eq_false (by delta nr;have:aj y=(y:Int):=rfl;lia))];rw[(by delta nr;lia:nr (nr (aj x))=aj x),(by delta nr;lia:nr (nr (aj y))=aj y)];rfl
 rw[this]
 delta nr;simp+arith
theorem Gg(x y:Nat):U3 (aj x) (aj y)=aj (x ^^^ y):=by
 delta U3
 rw[Yd,Ge,Bv];show Int.sub_eq_iff_eq_add.mpr Z
def EP(H:List ae)(s:af)(av:AV)(fr:Bool)(v:aa)(Y:af):Prop:=dA H s Y/\∃F,bM Y.heap av v F/\(fr=N->(∀b∈F,s.heap.get? b=ai)/\F.Nodup)
def EPs(H:List ae)(s:af)(avs:List AV)(vs:List aa)(Y:af):Prop:=dA H s Y/\∃F,bA Y.heap avs vs F
def BP(H:List ae)(s:af)(b:Bool)(v:Bool)(Y:af):Prop:=dA H s Y/\v=b
section
variable{H:List ae}{A:b9}
theorem o6(F:List ae)(e:dA H s Y)(r:bM Y.heap av v F)(k:fr=N->(∀b∈F,s.heap.get? b=ai)/\F.Nodup):EP H s av fr v Y:=⟨e,F,r,k⟩
theorem aec(e:dA H s Y)(r:bA Y.heap avs vs F):EPs H s avs vs Y:=⟨e,F,r⟩
theorem T.tN{t:aI aa}(h:T A t s (EP H aK av fr))(k:∀v Y F,dA H aK Y->bM Y.heap av v F->(fr=N->(∀b∈F,aK.heap.get? b=ai)/\F.Nodup)->Q v Y):aA (aE prog w) A t Q aX s:=h.wp λv Y qQ=>iL qQ λx F y z=>k v Y F x y z
theorem T.Cz{t:aI aa}{i:Int}(h:T A t s (EP H aK (a6 i) fr))(k:∀t Y,dA H aK Y->Q (ag i t) Y):aA (aE prog w) A t Q aX s:=h.tN λ_ Y _ e aP _=>aP.zL (P:=λv=>Q v Y) λt=>k t Y e
theorem T.Z9{t:aI aa}{u:aa}(h:T A t s (EP H aK (aH u) fr))(k:∀Y,dA H aK Y->Q u Y):aA (aE prog w) A t Q aX s:=h.tN λ_ Y _ e aP _=>aP.Gb (P:=λv=>Q v Y) (k Y e)
theorem T.QW{t:aI (List aa)}{Q:List aa->af->Prop}(h:T A t s (EPs H aK avs))(k:∀v Y F,dA H aK Y->bA Y.heap avs v F->Q v Y):aA (aE prog w) A t Q aX s:=h.wp λv Y qQ=>Ms qQ λx F y=>k v Y F x y
theorem T.wpB{t:aI Bool}{b:Bool}{Q:Bool->af->Prop}(h:T A t s (BP H aK b))(k:∀Y,dA H aK Y->Q b Y):aA (aE prog w) A t Q aX s:=h.wp λv Y qQ=>eZ qQ λx y=>y▸k Y x
end
section
variable(H:List ae)(U:aO)(A:b9)(L:du)(J:cJ)(G:iz)
def V(e:aG)(av:AV)(fr:Bool):Prop:=
 ∀⦃s:af⦄,ER H U L J s.heap G->T A (a7 e J) s (EP H s av fr)
def o7(e:aG)(b:Bool):Prop:=
 ∀⦃s:af⦄,ER H U L J s.heap G->T A (isTrue e J (a7 e J)) s (BP H s b)
end
section
variable{H:List ae}{U:aO}{A:b9}{L:du}{J:cJ}{G:iz}
theorem bM.ofInt(i:Int)(t:ba):bM h (a6 i) (ag i t) []:=⟨⟨t,rfl⟩,rfl⟩
theorem bM.toInt{i:Int}(x:bM h (a6 i) v F):∃t,v=ag i t:=x.1
theorem bM.ofBool(b:Bool):bM h (eX b) (c9 b) []:=⟨rfl,rfl⟩
theorem bM.toBool{b:Bool}(x:bM h (eX b) v F):v=c9 b:=x.1
theorem d9:(fr=N->(∀b∈([]:List ae),s.heap.get? b=ai)/\([]:List ae).Nodup):=λ_=>⟨λ_ D=>(kI D),rN⟩
theorem V.int{i:Int}:V H U A L J G (fN (jI i) k pos) (a6 i) fr:=
 λs _=>xB (o6 [] (.toks s _) (.ofInt i _) d9)
theorem V.none:V H U A L J G (fN rO k pos) oZ fr:=
 λs _=>aB (o6 [] (.refl s) (⟨rfl,rfl⟩) d9)
theorem ar(x:Nat)(E:ck G x=O (k,av)):V H U A L J G (aq (NM x) pos) av ab:=
 λs r=>(vY r E).wp3 λv Y F e aP=>by show e.symm▸?_;show o6 F (.refl _) aP (λh=>Iv h)
theorem s'{op:BOp}{x y z:Int}{t:ba}(h:wB op x y=O z):
 T A (binaryOp op.ast (ag x t) (ag y u)) s (λv Y=>dA H s Y/\∃t',v=ag z t'):=by
 have za:∀{z':Int},z'=z->(dA H s {s with toks:=s.toks+1}/\∃t',ag z' s.toks=ag z t'):=λe=>⟨.toks s _,s.toks,by rw[e]⟩;cases op with
 |add=>show add_int (za (aW h))
 |sub=>show sub_int (za (aW h))
 |mul=>
  dsimp only[wB]at h;cases hs:o4 x with
  |false=>have h:=hs▸h;ext
  |true=>have h:=hs▸h;have E:=of_decide_eq_true hs;show mul_int (za (aW h)) (IntMulOk.of_left (intBits_le_64 au au))
 |fdiv=>
  dsimp only[wB]at h;cases hs:(o4 y && decide (0<y)) with
  |false=>have h:=hs▸h;ext
  |true=>have h:=hs▸h;show eZ (fP.mp hs) λh1 h2=>have h2:=of_decide_eq_true h2;floordiv_int au (za (aW h)) (ak (PyProof.noPylong_small (of_decide_eq_true h1)))
 |fmod=>
  dsimp only[wB]at h;cases hs:decide (0<y) with
  |false=>have h:=hs▸h;ext
  |true=>have h:=hs▸h;have h2:=of_decide_eq_true hs;show mod_int' au (za (aW h))
 |pow=>
  dsimp only[wB]at h;cases hs:(o4 x && decide (0<=y) && decide (y<=1000)) with
  |false=>have h:=hs▸h;ext
  |true=>have h:=hs▸h;simp only[qv,decide_eq_true_eq]at hs;obtain⟨⟨h1,h2⟩,h3⟩:=hs;have h1:=of_decide_eq_true h1;show pow_int_small h2 au au (za (aW h))
 |xor=>
  cases x with
  |ofNat x=>cases y with|ofNat y=>show xor_int (za ((Gg x y).trans (aW h)))|negSucc y=>ext
  |negSucc x=>ext
 |band=>
  cases x with
  |ofNat x=>cases y with|ofNat y=>show and_int (za ((Ge x y).trans (aW h)))|negSucc y=>ext
  |negSucc x=>ext
 |shr=>
  dsimp only[wB]at h;cases hs:decide (0<=y) with
  |false=>have h:=hs▸h;ext
  |true=>have h:=hs▸h;show rshift_int (of_decide_eq_true hs) (za (aW h))
theorem lj(op:BOp){a b:aG}{x y z:Int}(ha:V H U A L J G a (a6 x) ab)(D:V H U A L J G b (a6 y) ab)(h:wB op x y=O z):V H U A L J G (fi a op.ast b pos) (a6 z) fr:=λs r=>by show El ((ha r).Cz λt aD e1=>(D (r.ext e1.ext)).tN λu aQ F2 e2 V2 _=>?_);obtain⟨t',rfl⟩:=V2.toInt;show(s' h).wp3 λv dg t3 e3 hv=>(o6 [] ((e1.trans e2).trans e3) (by subst hv;show .ofInt z t3) d9)
theorem MD{a:aG}{x:Int}(ha:V H U A L J G a (a6 x) ab):V H U A L J G (T8 UnaryOp.USub a pos) (a6 (-x)) fr:=λs r=>wpAny_UnaryOp<|(ha r).Cz λt aD e1=>neg_int (o6 [] (e1.trans (.toks _ _)) (.ofInt _ _) d9)
theorem Bw{op:COp}{x y:Int}{t:ba}:T A (Eu op.ast (ag x t) (ag y u)) s (λv Y=>Y=s/\v=c9 (gU op x y)):=by
 cases op with
 |eq=>show eq_int ⟨rfl,rfl⟩
 |ne=>show ne_int ⟨rfl,rfl⟩
 |lt=>show lt_int ⟨rfl,rfl⟩
 |le=>show le_int ⟨rfl,rfl⟩
 |gt=>show gt_int ⟨rfl,rfl⟩
 |ge=>show ge_int ⟨rfl,rfl⟩
theorem mA(op:COp){a b:aG}{x y:Int}(ha:V H U A L J G a (a6 x) ab)(D:V H U A L J G b (a6 y) ab)
 :o7 H U A L J G (jt a [op.ast] [b] pos) (gU op x y):=λs r=>by
 show uQ ((ha r).Cz λt aD e1=>(D (r.ext e1.ext)).tN λu aQ F2 e2 V2 _=>?_) (se op b);obtain⟨t',rfl⟩:=V2.toInt;show T.Dm Bw (me ⟨e1.trans e2,rfl⟩)
theorem Gh(op:COp)(x y:Int){a b:aG}(ha:V H U A L J G a (a6 x) ab)(D:V H U A L J G b (a6 y) ab)
 :V H U A L J G (jt a [op.ast] [b] pos) (eX (gU op x y)) fr:=λs r=>by
 show wpAny_Compare1 ((ha r).Cz λt aD e1=>(D (r.ext e1.ext)).tN λu aQ F2 e2 V2 _=>?_) (se op b);obtain⟨t',rfl⟩:=V2.toInt;show T.Dm Bw (o6 [] (e1.trans e2) (.ofBool _) d9)
theorem vE{a b:aG}{x y:Bool}(ha:o7 H U A L J G a x)(D:x=N->o7 H U A L J G b y):
 o7 H U A L J G (Kz Wi [a,b] pos) (x && y):=λs r=>by
 show Tz (Ti ((ha r).Cw λv aD e1 hv=>?_));subst hv;cases v with
 |false=>show⟨e1,rfl⟩
 |true=>
  show Ti<|(D Z (r.ext e1.ext)).Cw λv aQ e2 hv=>hv▸?_;cases v with
  |false=>show⟨e1.trans e2,rfl⟩
  |true=>show wpAny_allTrue_And_nil ⟨e1.trans e2,rfl⟩
theorem QX{a b:aG}{x y:Bool}(ha:o7 H U A L J G a x)(D:x=ab->o7 H U A L J G b y):
 o7 H U A L J G (Kz BoolOp.Or [a,b] pos) (x ||y):=λs r=>by
 show Tz (Tq ((ha r).Cw λv aD e1 hv=>?_));subst hv;cases v with
 |true=>show⟨e1,rfl⟩
 |false=>
  show Tq<|(D Z (r.ext e1.ext)).Cw λv aQ e2 hv=>hv▸?_;cases v with
  |true=>show⟨e1.trans e2,rfl⟩
  |false=>show wpAny_allTrue_Or_nil ⟨e1.trans e2,rfl⟩
theorem FN(x:Bool){a:aG}(ha:o7 H U A L J G a x):o7 H U A L J G (T8 UnaryOp.Not a pos) (!x):=λs r=>
 wpAny_isTrue_Not ((ha r).Cw λv aD e1 hv=>⟨e1,congrArg _ hv⟩)
theorem wC(x:Bool){c a b:aG}(hc:o7 H U A L J G c x)(ha:x=N->V H U A L J G a av fr)(D:x=ab->V H U A L J G b av fr):V H U A L J G (Expr.IfExp c a b pos) av fr:=λs r=>by
 show wpAny_IfExp ((hc r).Cw λv aD e1 hv=>?_);subst hv;cases v with
 |true=>show(ha Z (r.ext e1.ext)).mono λv aQ q=>iL q λe2 F aP hf=>(o6 F (e1.trans e2) aP (λq=>⟨λb D=>e1.ext.new ((hf q).1 b D),(hf q).2⟩))
 |false=>show(D Z (r.ext e1.ext)).mono λv aQ q=>iL q λe2 F aP hf=>(o6 F (e1.trans e2) aP (λq=>⟨λb D=>e1.ext.new ((hf q).1 b D),(hf q).2⟩))
end
theorem bA.length:∀{vs:List aa} {F:List ae},bA h K vs F->vs.length=K.length:=by
 induction K with
 |nil=>intro vs F r;show r.1.symm▸?_;rfl
 |cons x K iH=>intro vs F r;apply jJ r;intro v tM F1 F2 _ e3 _;simp[iH e3]
theorem bA.get:∀{vs:List aa} {F:List ae},bA h K vs F->∀{i:Nat} {x:AV},K[i]? =O x->∃v F',vs[i]? =O v/\bM h x v F'/\∀b∈F',b∈F:=by
 induction K with
 |nil=>intro vs F r i x e;ext
 |cons y K ih=>
  intro vs F r i x e;apply jJ r;intro v tM F1 F2 e2 e3 e4;subst e4;cases i with
  |zero=>show aW e▸Oj v F1 Z e2 (λb D=>by lia)
  |succ i=>show ju (ih e3 e) λv' F' g1 g2 g3=>Oj v' F' g1 g2 (λb D=>by simp[g3 b D])
theorem bA.append:∀{vs ws:List aa} {F F':List ae},bA h K vs F->bA h ys ws F'->bA h (K++ys) (vs++ws) (F++F'):=by
 induction K with
 |nil=>intro vs ws F F' r q;show eZ r λe1 e2=>e1▸e2▸q
 |cons x K ih=>intro vs ws F F' r q;apply jJ r;intro v tM F1 F2 e2 e3 e4;subst e4;show DT v (tM++ws) F1 (F2++F') Z e2 (ih e3 q) (AJ F1 F2 F')
theorem bA.drop(n:Nat):∀{K:List AV} {vs:List aa} {F:List ae},bA h K vs F->∃F',bA h (K.drop n) (vs.drop n) F'/\∀b∈F',b∈F:=by
 induction n with
 |zero=>intro K vs F r;show cn F r (λ_ D=>D)
 |succ n iH=>
  intro yY;cases yY with
  |nil=>intro vs F r;show eZ r λe1 e2=>?_;subst e1 e2;show cn [] r (λ_ D=>D)
  |cons x K=>intro vs F r;apply jJ r;intro v tM F1 F2 e2 e3 e4;subst e4;show bg (iH e3) λF' g1 g2=>cn F' g1 (λb D=>by simp[g2 b D])
theorem bA.take(n:Nat):∀{K:List AV} {vs:List aa} {F:List ae},bA h K vs F->∃F',bA h (K.take n) (vs.take n) F'/\∀b∈F',b∈F:=by
 induction n with
 |zero=>intro K vs F r;show cn [] .nil (λ_ D=>kI D)
 |succ n iH=>
  intro yY;cases yY with
  |nil=>intro vs F r;show eZ r λe1 e2=>?_;subst e1 e2;show cn [] r (λ_ D=>D)
  |cons x K=>
   intro vs F r;apply jJ r;intro v tM F1 F2 e2 e3 e4;subst e4;show bg (iH e3) λF' g1 g2=>((cn (F1++F') (ej F1 F' e2 g1) (λb D=>?_)));simp at D;rcases D with D|D
   .ext
   .show ew F1 (g2 b D)
mutual
noncomputable def flat:AV->Bool
 |oZ|eX _|a6 _|aH _=>N
 |Bm _ x=>flat x
 |fI K=>iS K
 |_=>ab
noncomputable def iS:List AV->Bool
 | []=>N
 |x::K=>flat x && iS K
end
theorem cW:(∀(av:AV) (v:aa) (F:List ae),flat av=N->bM h av v F->F=[])/\∀(K:List AV) (vs:List aa) (F:List ae),iS K=N->bA h K vs F->F=[]:=
 Bn (λ_ _ _ r=>r.2) (λ_ _ _ _ r=>r.2) (λ_ _ _ _ r=>r.2) (λ_ _ _ _ r=>r.2) (λ_ _ ih v F hf r=>ih v F hf r.2) (λ_ _ _ _ hf=>Iv hf) (λ_ ih _ _ hf r=>gJ r λ_ _ _ _ _ _ e4=>ih _ _ hf e4) (λ_ _ _ _ _ _ hf=>Iv hf) (λ_ _ _ r=>r.2)
  λ_ _ i1 i2 _ _ hf r=>eZ (fP.mp hf) λh1 h2=>gv r λ_ _ _ _ _ e2 e3 e4=>by have e4:=i2 _ _ h2 e3▸i1 _ _ h1 e2▸e4;show e4
noncomputable def j8:aG->Bool
 |ml ..=>N
 |_=>ab
noncomputable def cI:aG->Bool
 |Expr.Starred ..=>N
 |_=>ab
theorem uB(h:j8 slice=ab)(o i:aa):Em slice ab o i=operate [o,i] (xR o i):=by cases slice<;>first|rfl|(ext)
theorem dp(h:cI e=ab)(rest:List aG)(J:cJ):jq (e::rest) J=(ab,a7 e J)::jq rest J:=by cases e<;>first|rfl|(ext)
noncomputable def BI:List (String×aa):=[("len",bB "len"),("range",ao "range"),("zip",ao "zip"),("list",ao "list"),("min",bB "min"),("max",bB "max"),
 ("bytearray",ao "bytearray"),("tuple",ao "tuple"),("reversed",ao "reversed"),("int",ao "int"),("map",ao "map"),("str",ao "str")]
def dQ(mg mb:aV->Option aa):Prop:=∀p∈BI,mg (aC p.1)=ai/\mb (aC p.1)=O p.2
theorem bT(e:h.get? a=O (bp vs n)):h.IsList a vs.toArray:=⟨_,e,rfl,n,rfl⟩
theorem QY.typeIs(e:s.heap.get? a=O (bp vs n)):s.TypeIs (R a) "list" :=cn _ e Z
noncomputable def Wn:AV->Int->Option AV
 |bR K,aj k=>cond (dY k 1000000) K[k]? ai
 |bR K,AE k=>cond (dY (k+1) K.length && dY k 1000000) K[K.length - (k+1)]? ai
 |fI K,aj k=>cond (dY k 1000000) K[k]? ai
 |_,_=>ai
theorem CA{c:Bool}{x:Option α}{y:α}(h:cond c x ai=O y):c=N/\x=O y:=by
 cases c with
 |false=>ext
 |true=>show⟨rfl,h⟩
theorem Jf{x:AV}{k:Int}{t:ba}(aP:bM s.heap av v F)(h:Wn av k=O x):
 (∃T id,s.TypeIs v T/\gw (ao T) "__getitem__" =pure (O (bB id)))/\
 T A (xR v (ag k t)) s (λu Y=>Y=s/\∃F',bM s.heap x u F'/\∀b∈F',b∈F):=by
 cases av with
 |list K=>
  apply fU aP;show λa vs n F' _ e3 e4 C'=>C'▸⟨(kH ("list") _ (QY.typeIs e3) slot_list_getitem.lookup),?_⟩;cases k with
  |ofNat k=>show eZ (CA h) λh1 h2=>have h1:=dN h1;ju (bA.get e4 h2) λu QZ g1 g2 g3=>(TF (bT e3) fH au (by simpa using g1) ⟨rfl,QZ,g2,λb D=>bW a (g3 b D)⟩)
  |negSucc k=>show eZ (CA h) λh1 h2=>eZ (fP.mp h1) λh1 h3=>have h1:=dN h1;have h3:=dN h3;ju (bA.get e4 h2) λu QZ g1 g2 g3=>have hl:=bA.length e4;wpAny_getItem_list_neg (bT e3) fH jM au ?_ ⟨rfl,QZ,g2,λb D=>bW a (g3 b D)⟩;show((by simp;lia:(AE k+(vs.toArray.size:Int)).toNat=K.length - (k+1)))▸?_;simpa using g1
 |tuple K=>
  apply pU aP;show λa vs n _ e3 e4=>⟨(kH ("tuple") _ ⟨_,e3,rfl⟩ Vw.lookup),?_⟩;cases k with
  |ofNat k=>show eZ (CA h) λh1 h2=>have h1:=dN h1;ju (bA.get e4 h2) λu QZ g1 g2 g3=>have jx:=(dR.mp g1).1;getItem_tuple (⟨_,e3,rfl,n,rfl⟩) fH au (Cy jx) (by simpa using g1) ⟨rfl,QZ,g2,λb D=>g3 b D⟩
  |negSucc k=>ext
 |_=>show Bj (by assumption)
theorem wD{a i:aG}{x:AV}{k:Int}(ha:V H U A L J G a av ab)(hi:V H U A L J G i (a6 k) ab)(h:Wn av k=O x)(sf:j8 i=ab)(ZO:fr=N->flat x=N):V H U A L J G (dk a i pos) x fr:=λs r=>by show rL ((ha r).tN λo aD F1 e1 V1 _=>(hi (r.ext e1.ext)).Cz λt aQ e2=>?_);obtain⟨⟨T',id,hT,hl⟩,hg⟩:=Jf (V1.ext e2.ext) h;show vh hT hl (hg.mono λv dg qQ=>iL qQ λe3 F' aP hF=>?_) (uB sf o _);show e3▸o6 F' (e1.trans e2) aP (λq=>by show(cW.1 _ _ _ (ZO q) aP)▸?_;show⟨λ_ D=>(kI D),rN⟩)
theorem tO(s:af)(D:hJ H U s.heap)(B:Tp U)(aP:bA s.heap K vs F)(e:Y={s with heap:=s.heap.push (bp vs 0)}):
 dA H s Y/\bM Y.heap (bR K) (R s.heap.objs.size) (s.heap.objs.size::F):=by
 subst e;show⟨⟨.push _ _,rfl,rfl,eW _⟩,?_⟩;show r9 F (fo (jw B D)) (bJ _ Z) (aP.ext (H:=H) (.push _ _))
theorem ME(D:hJ H U s.heap)(B:Tp U)(aP:bA s.heap K vs F)(e:Y={s with heap:=s.heap.push (cV vs 0)}):
 dA H s Y/\bM Y.heap (fI K) (R s.heap.objs.size) F:=by
 subst e;show⟨⟨.push _ _,rfl,rfl,eW _⟩,?_⟩;show DS _ vs 0 Z (fo (jw B D)) (bJ _ Z) (aP.ext (H:=H) (.push _ _))
def fL(H:List ae)(U:aO)(A:b9)(L:du)(J:cJ)(G:iz)(es:List aG)(avs:List AV):Prop:=
 ∀s pos,ER H U L J s.heap G->T A (xS (jV pos (jq es J))) s (EPs H s avs)
theorem fL.nil:fL H U A L J G [] []:=λs _ _=>TQ (aec (.refl s) .nil)
theorem fL.cons(he:V H U A L J G e av ab)(hes:fL H U A L J G es avs)(dH:cI e=ab):
 fL H U A L J G (e::es) (av::avs):=λs pos r=>
 J5 ((he r).tN λv aD F1 e1 V1 _=>(hes aD pos (r.ext e1.ext)).QW λvs aQ F2 e2 V2=>
  (aec (e1.trans e2) (ej F1 F2 (V1.ext e2.ext) V2))) (dp dH _ _)
theorem o8(B:Tp U)(he:fL H U A L J G es avs)(hf:iS avs=N)(hl:dY avs.length 1000=N):
 V H U A L J G (Expr.List es pos) (bR avs) fr:=λs r=>by
 show Kn ((he s pos r).QW λvs aD F1 e1 V1=>⟨?_,?_⟩)
 .have:=bA.length V1;have:=dN hl;lia
 .show eZ (tO _ (r.ext e1.ext).base B V1 Z) λe2 aP=>?_;have:F1=[]:=cW.2 _ _ _ hf V1;subst this;show⟨e1.trans e2,_,aP,λ_=>⟨λb D=>by simp at D;subst D;show e1.ext.new (bD _),by simp⟩⟩
theorem uj(B:Tp U)(he:fL H U A L J G es avs)(hf:iS avs=N)(hl:dY avs.length 1000=N):
 V H U A L J G (fO es k pos) (fI avs) fr:=λs r=>by
 show En ((he s pos r).QW λvs aD F1 e1 V1=>⟨?_,?_⟩)
 .have:=bA.length V1;have:=dN hl;lia
 .show eZ (ME (r.ext e1.ext).base B V1 Z) λe2 aP=>?_;have:F1=[]:=cW.2 _ _ _ hf V1;subst this;show⟨e1.trans e2,_,aP,λ_=>⟨λb D=>(kI D),rN⟩⟩
theorem aeT{a b:aG}(B:Tp U)(ha:V H U A L J G a (bR K) ab)(D:V H U A L J G b (bR ys) ab)(hf:iS K=N)(hg:iS ys=N)(hl:dY (K.length+ys.length) 1000=N):V H U A L J G (fi a rP b pos) (bR (K++ys)) fr:=λs r=>by show El ((ha r).tN λv aD F1 e1 V1 _=>(D (r.ext e1.ext)).tN λu aQ F2 e2 V2 _=>?_);apply fU (V1.ext e2.ext);intro a vs n F' _ a3 a4 C';apply fU V2;intro b ws m QZ _ b3 b4 eF2;have l1:=bA.length a4;have l2:=bA.length b4;have hl:=dN hl;have n1:=cW.2 _ _ _ hf a4;have n2:=cW.2 _ _ _ hg b4;subst n1 n2;show P.add_list a3 b3 ?_ (by have:fg=16777216:=rfl;simp;lia);have Jg:=e1.trans e2;show eZ (tO aQ (r.ext Jg.ext).base B (bA.append a4 b4) Z) λe3 aP=>(((List.append_toArray vs ws))▸⟨Jg.trans e3,_,aP,λ_=>⟨λb D=>by obtain rfl:=bI.mp D;show Jg.ext.new (bD _),by simp⟩⟩)
theorem V.len{a:aG}(B:cx U mg mb)(I:dQ mg mb)(kM:Gi L "len")(ha:V H U A L J G a (bR K) ab)(dH:cI a=ab)(hl:dY K.length 1000000=N):V H U A L J G (bx (aq (aC "len") np) [a] [] pos) (a6 K.length) fr:=λs r=>by have hI:=I ("len",bB "len") aL;show mf<|(eG B r kM hI.1 hI.2 (rfl)).Dm<|yp ((fL.cons ha fL.nil dH s pos r).QW λvs aD F1 e1 V1=>?_) (dp dH _ _) Z;apply nM V1;intro v G1 V2;apply fU V2;intro a ws n F' _ a3 a4 _;have l1:=bA.length a4;have hl:=dN hl;show call_len_list (bT a3) jM (((T5.mpr l1))▸⟨e1.trans (.toks _ _),[],.ofInt _ _,d9⟩)
noncomputable def ja:List AV->Option (List Int)
 | []=>O []
 |a6 i::K=>(ja K).map (i::·)
 |_::_=>ai
theorem nZ(ns:List Int):ja (ns.map a6)=O ns:=by
 induction ns with
 |nil=>rfl
 |cons n ns ih=>show congrArg (UU (n::·)) ih
theorem zM:∀(k:Nat) (K:List AV),iS K=N->iS (K.drop k)=N:=by
 intro k;induction k with
 |zero=>show λ_ h=>h
 |succ k ih=>show λK h=>match K with
  | []=>rfl
  |_::K=>ih K (fP.mp h).2
theorem zN:∀(k:Nat) (K:List AV),iS K=N->iS (K.take k)=N:=by
 intro k;induction k with
 |zero=>show λ_ _=>rfl
 |succ k ih=>show λK h=>match K with
  | []=>rfl
  |_::K=>fP.mpr ⟨(fP.mp h).1,ih K (fP.mp h).2⟩
theorem Gj:∀{ns:List Int},ja K=O ns->iS K=N:=by
 induction K with
 |nil=>intro _ _;show rfl
 |cons x K iH=>
  intro ns h;cases x with
  |int i=>show bg (iY.mp h) λms h1 _=>(iH h1:)
  |_=>show Bj h
theorem intsAre_of:∀{vs:List aa} {F:List ae} {ns:List Int},bA h K vs F->ja K=O ns->fm vs ns:=by
 induction K with
 |nil=>intro vs F ns r e;apply vA r;intro _;obtain rfl:=aW e;show qA
 |cons x K iH=>
  intro vs F ns r e;apply jJ r;intro v tM F1 F2 e2 e3 _;cases x with
  |int i=>show bg (iY.mp e) λms h1 dX=>dX▸?_;apply bM.zL e2;show λt=>yz i t (iH e3 h1)
  |_=>show Bj e
theorem wF{ns:List Int}(x:fm vs ns):bA h (ns.map a6) vs []:=by
 induction x with
 |nil=>show .nil
 |cons n t _ ih=>show ej [] [] (.ofInt n t) ih
theorem bA.replicate{x:AV}(E:bM h x v []):∀n:Nat,bA h (bZ n x) (bZ n v) []:=by
 intro xX;induction xX with
 |zero=>show .nil
 |succ n iH=>show ej [] [] E (iH)
theorem Q0{x:aV}(o r:aa):letTemporaryGo (aq x p) o r=pure ():=by cases o<;>rfl
theorem CB{vl vu:aa}{its:Array aa}(ajC:its=us.toArray)(r:hJ H U dg.heap)(B:Tp U)(e:dA H s dg)(hf:iS ys=N)(aP:bA dg.heap ys us F'):
 dA H s {dg with heap:=(dg.heap.push {cls:=ao "slice",data:=bH #[vl,vu,ax]}).push {cls:=ao "list",data:=bQ its}}/\
  ∃F,bM ((dg.heap.push {cls:=ao "slice",data:=bH #[vl,vu,ax]}).push {cls:=ao "list",data:=bQ its}) (bR ys) (R (dg.heap.objs.size+1)) F/\(fr=N->(∀b∈F,s.heap.get? b=ai)/\F.Nodup):=by
 subst ajC;have n2:=cW.2 _ _ _ hf aP;subst n2;have x1:hJ H dg.heap (dg.heap.push {cls:=ao "slice",data:=bH #[vl,vu,ax]}):=.push _ _;show eZ (tO ({dg with heap:=dg.heap.push {cls:=ao "slice",data:=bH #[vl,vu,ax]}}) (r.trans x1) B (aP.ext x1) Z) λe2 V2=>?_;have hs:(dg.heap.push {cls:=ao "slice",data:=bH #[vl,vu,ax]}).objs.size=dg.heap.objs.size+1:=dE ..;rw[hs]at V2;have e1:dA H dg {dg with heap:=dg.heap.push {cls:=ao "slice",data:=bH #[vl,vu,ax]}}:=⟨x1,rfl,rfl,eW _⟩;show⟨e.trans (e1.trans e2),_,V2,λ_=>⟨λb D=>?_,by simp⟩⟩;apply jQ D;show e.ext.new<|x1.new<|hs▸bD _
theorem Ot{x:aV}(B:Tp U)(ha:V H U A L J G (aq x np) (bR K) ab)(hh:V H U A L J G hi (a6 (aj k)) ab)(hf:iS K=N)(hl:dY K.length 1000000=N):V H U A L J G (dk (aq x np) (ml eV (O hi) eV p) pos) (bR (K.take k)) fr:=λs r=>by show JT ((ha r).tN λv aD F1 e1 V1 _=>?_) Q0;show aB ((hh (r.ext e1.ext)).Cz λt aQ e2=>?_);apply fU (V1.ext e2.ext);intro a vs n F' _ a3 a4 C';have hl:=dN hl;have l1:=bA.length a4;show bg (bA.take k a4) λQZ V3 _=>aeO a vs.toArray eV (O (aj k)) Z (bT a3) (by have:fg=16777216:=rfl;simp;lia) Mg (vq _ _)<|CB (slicePick_upto' vs.toArray k) ((r.ext e1.ext).ext e2.ext).base B (e1.trans e2) (zN k K hf) V3
theorem Q1{x:aV}(B:Tp U)(ha:V H U A L J G (aq x np) (bR K) ab)(hh:V H U A L J G lo (a6 (aj k)) ab)(hf:iS K=N)(hl:dY K.length 1000000=N):V H U A L J G (dk (aq x np) (ml (O lo) eV eV p) pos) (bR (K.drop k)) fr:=λs r=>by show JT ((ha r).tN λv aD F1 e1 V1 _=>?_) Q0;show(hh (r.ext e1.ext)).Cz λt aQ e2=>(aB ?_);apply fU (V1.ext e2.ext);intro a vs n F' _ a3 a4 C';have hl:=dN hl;have l1:=bA.length a4;show bg (bA.drop k a4) λQZ V3 _=>((aeO a vs.toArray (O (aj k)) eV Z (bT a3) (by have:fg=16777216:=rfl;simp;lia) (vq _ _) Mg ?_));show CB (slicePick_from' vs.toArray k) ((r.ext e1.ext).ext e2.ext).base B (e1.trans e2) (zM k K hf) V3
theorem Wo{x:aV}{m:Nat}(B:Tp U)(ha:V H U A L J G (aq x np) (bR K) ab)(hh:V H U A L J G lo (a6 (aj k)) ab)(hj:V H U A L J G hi (a6 (aj m)) ab)(hf:iS K=N)(hl:dY K.length 1000000=N)(Q2:dY k m=N)(hm:dY m K.length=N):
 V H U A L J G (dk (aq x np) (ml (O lo) (O hi) eV p) pos) (bR ((K.drop k).take (m - k))) fr:=λs r=>by
 show JT ((ha r).tN λv aD F1 e1 V1 _=>?_) Q0;show(hh (r.ext e1.ext)).Cz λt aQ e2=>((hj ((r.ext e1.ext).ext e2.ext)).tN λu' dg F3 e3 V4 _=>?_);obtain⟨t',rfl⟩:=V4.toInt;apply fU ((V1.ext e2.ext).ext e3.ext);intro a vs n F' _ a3 a4 C';have hl:=dN hl;have l1:=bA.length a4;show bg (bA.drop k a4) λQZ V3 _=>bg (bA.take (m - k) V3) λF3' V5 _=>aeO a vs.toArray (O (aj k)) (O (aj m)) Z (bT a3) (by have:fg=16777216:=rfl;simp;lia) (vq _ _) (vq _ _) (CB (slicePick_run vs.toArray k m (by simp;show le_of_le_of_eq (dN hm) (id (mr l1))) (dN Q2)) (((r.ext e1.ext).ext e2.ext).ext e3.ext).base B ((e1.trans e2).trans e3) (zN _ _ (zM k K hf)) V5)
theorem Ye{l:ae}{x:Int}(hl:s.heap.get? l=O {cls:=ao "list",dict:=ai,data:=bQ items k,slots:=#[]})(Iw: -(2 ^ 63:Int)<=x)(hhi:x<2 ^ 63)(hsz:items.size * x.toNat<=2 ^ 24)(h:Q (R s.heap.objs.size) {s with heap:=s.heap.push {cls:=ao "list",data:=bQ (yd (λx1 x2=>x1++x2) #[] (bZ (if items.isEmpty=N then 0 else x.toNat) items))}}):
 aA (aE prog w) A (binaryOp vm (R l) (ag x u)) Q aX s:=
 wpAny_binaryOp_repeat_ref (rfl) ⟨_,hl,rfl⟩ (λY=>xM Y x u) noFill_list_mul PySem.F.fills_int_mul Fw repeat_list Fu.lookup
  (qh Fw (xM s x u) VE (Vz _ _) (int___rmul___int_list x u l items k)
   ⟨hl,rfl,⟨_,hl,rfl⟩,qh PySem.F.slot_list_mul ⟨_,hl,rfl⟩ PySem.F.entry_list_mul (PySem.F.args_list_mul_2 _ _)
    (AutoListH.list___mul___list_int_3 l items k x u (by simp[abi];show And.symm ⟨hhi,Iw⟩) au (by simp[Vp];assumption))
    ⟨hl,h⟩⟩)
theorem D'(v:aa)(n:Nat):∀(jP:Array aa),yd (λx1 x2=>x1++x2) jP (bZ n #[v])=jP++(bZ n v).toArray:=by
 induction n with
 |zero=>intro jP;rfl
 |succ n iH=>intro jP;rw[Ui,iw,iH,Ui];apply A7;simp
theorem Q3{a b:aG}{x:AV}{n:Int}(B:Tp U)(ha:V H U A L J G a (bR [x]) ab)(D:V H U A L J G b (a6 n) ab)(hf:flat x=N)(hl:decide (-1000<=n)=N)(J':decide (n<=1000)=N):V H U A L J G (fi a vm b pos) (bR (bZ n.toNat x)) fr:=λs r=>by
 show El<|(ha r).tN λv aD F1 e1 V1 _=>(D (r.ext e1.ext)).wp λu aQ ou=>iL ou λe2 F2 V2 _=>dG V2.toInt λt dX=>dX▸iO (V1.ext e2.ext) λa vs m F' qG _ a3 a4 DU=>qG▸kJ a4 λv tM G1 G2 N8 V3 V4 ZP=>?_;subst N8;show eZ V4 λeQ6 eQ7=>?_;subst eQ6;have n1:=cW.1 _ _ _ hf V3;subst n1;show Ye a3 au au jM ?_;have Jg:=e1.trans e2;have ha:(yd (λx1 x2=>x1++x2) #[] (bZ (if(#[v]:Array aa).isEmpty=N then 0 else n.toNat) #[v]))=(bZ n.toNat v).toArray:=by rw[D'];show Vc
 show ha.symm▸eZ (tO aQ (r.ext Jg.ext).base B (bA.replicate V3 n.toNat) Z) λe3 aP=>⟨Jg.trans e3,_,aP,λ_=>⟨λb D=>by simp at D;subst D;show Jg.ext.new (bD _),by simp⟩⟩
theorem Gk{a b:aa}{ns ms:List Int}(hA:Z7 k A)(hk:4<=k)(V1:bM s.heap (bR K) a F)(V2:bM s.heap (bR ys) b F')(h1:ja K=O ns)(h2:ja ys=O ms):
 T A (Eu Bg a b) s (λv Y=>Y=s/\v=c9 (decide (ns=ms)))/\T A (Eu FI a b) s (λv Y=>Y=s/\v=c9 (!decide (ns=ms))):=by
 apply fU V1;intro a vs n G _ a3 a4 _;apply fU V2;intro b ws m G' _ b3 b4 _;have hu:A.units+64<cLine:=by have:=hA.units;have:cLine=9900:=rfl;lia
 show⟨PySem.W.ke_eq_ints (bT a3) (bT b3) (intsAre_of a4 h1) (intsAre_of b4 h2) hu ⟨rfl,rfl⟩,PySem.W.ke_ne_ints (bT a3) (bT b3) (intsAre_of a4 h1) (intsAre_of b4 h2) hu ⟨rfl,rfl⟩⟩
theorem abD{a b:aG}{ns ms:List Int}(hA:Z7 k A)(hk:4<=k)(ha:V H U A L J G a (bR K) ab)(D:V H U A L J G b (bR ys) ab)(h1:ja K=O ns)(h2:ja ys=O ms):o7 H U A L J G (jt a [FI] [b] pos) (!decide (ns=ms)):=λs r=>by show uQ ((ha r).tN λv aD F1 e1 V1 _=>(D (r.ext e1.ext)).tN λu aQ F2 e2 V2 _=>?_) (se .ne b);show T.Dm (Gk hA hk (V1.ext e2.ext) V2 h1 h2).2 (me ⟨e1.trans e2,rfl⟩)
theorem o7.Wq{a:aG}{y:aV}{x:Int}{ms:List Int}(ha:V H U A L J G a (a6 x) ab)(D:V H U A L J G (aq y np) (bR ys) ab)(h2:ja ys=O ms):o7 H U A L J G (jt a [Bf] [aq y np] pos) (!(ms.any (· ==x))):=λs r=>by show uQ ((ha r).Cz λt aD e1=>(D (r.ext e1.ext)).tN λu aQ F2 e2 V2 _=>?_) Z;apply fU V2;show λb ws m G' _ b3 b4 _=>notin_list_ints (bT b3) (intsAre_of b4 h2) (me ⟨e1.trans e2,rfl⟩)
theorem abE{a b:aG}{x y:Int}(hA:Z7 k A)(B:cx U mg mb)(I:dQ mg mb)(kM:Gi L "min")(ha:V H U A L J G a (a6 x) ab)(D:V H U A L J G b (a6 y) ab)(ZQ:cI a=ab)(hb':cI b=ab):V H U A L J G (bx (aq (aC "min") np) [a,b] [] pos) (a6 (if y<x then y else x)) fr:=λs r=>by
 have hI:=I ("min",bB "min") aL;show mf<|(eG B r kM hI.1 hI.2 (rfl)).Dm<|yp ((fL.cons ha (fL.cons D fL.nil hb') ZQ s pos r).QW λvs aD F1 e1 V1=>?_) (dp ZQ _ _) (by rw[dp hb'];rfl);apply nN V1;intro v v2 G1 G3 V2 V4;apply bM.zL V2;intro t;show dG V4.toInt λt' dX=>dX▸min_two_ints hA.hd λh' tk hk=>(o6 [] (e1.trans ⟨.of_keep hk,rfl,rfl,eW _⟩) ?_ d9);by_cases c:y<x
 .rw [if_pos c,if_pos c];show .ofInt _ _
 .rw [if_neg c,if_neg c];show .ofInt _ _
section
variable{H:List ae}{h:aO}
theorem Mz.uniq{x:Nat}{c c':Option ae}{v v':Option aa}(p:Mz h fd x c v)(q:Mz h fd x c' v'):c=c'/\v=v':=by show og λgG kG=>l0 p λk v1 g1 g2 g3 _ i1=>bg i1 λoo g5 g6=>l0 q λk' v1' g1' g2' g3' _ i1=>bg i1 λoo' g5' g6'=>kG ?_;clear kG gG;obtain rfl:=aW (g3.symm.trans g3');obtain rfl:=aW (g5.symm.trans g5');show⟨g1.trans g1'.symm,g2.trans ((Data.cell.inj (g6.symm.trans g6')).trans g2'.symm)⟩
theorem vx.uniq{cs cs':List ae}{tM:List aa}(p:vx h ns fd cs vs)(q:vx h ns fd cs' tM):cs=cs'/\vs=tM:=by
 have hc:∀i:Nat,cs[i]? =cs'[i]? /\vs[i]? =tM[i]? :=λi=>by show Z0 (ns[i]?) (λhi=>?_) λx hi=>(p.1 i x hi).uniq (q.1 i x hi);have h1:∀{α:Type} (l:List α),l.length=ns.length->l[i]? =eV:=λl hl=>Ua.mpr (hl▸Ua.mp hi);show(h1 cs p.2.1).symm▸(h1 cs' q.2.1).symm▸(h1 vs p.2.2).symm▸(h1 tM q.2.2).symm▸⟨rfl,rfl⟩
 show⟨EK λi=>(hc i).1,EK λi=>(hc i).2⟩
theorem Q4:(∀(av:AV) (v:aa) (F F':List ae),bM h av v F->bM h av v F'->F=F')/\∀(K:List AV) (vs:List aa) (F F':List ae),bA h K vs F->bA h K vs F'->F=F':=by
 have fl:∀(p:Prop) (F F':List ae),p/\F=[]->p/\F'=[]->F=F':=λ_ _ _ r q=>r.2.trans q.2.symm;show Bn (λ_=>fl _) (λ_ _=>fl _) (λ_ _=>fl _) (λ_ _=>fl _) (λu x ih v F F' r q=>ih v F F' r.2 q.2) (λK ih v F F' r q=>?_) (λK ih v F F' r q=>?_) (λf ns K ih v F F' r q=>?_) (λ_=>fl _) (λx K i1 i2 vs F F' r q=>?_)
 .show fR r λa vs n G e1 _ e3 e4 dX=>(fR q λa' tM n' G' Q5 _ M' e4' qG=>?_);obtain rfl:=j6 (e1.symm.trans Q5);have e:vs=tM:=congrArg Vh (We (congrArg E9 (aW (e3.symm.trans M')))).1;show dX▸qG▸congrArg _ (ih vs _ _ e4 (e▸e4'))
 .show gJ r λa vs n e1 _ e3 e4=>(gJ q λa' tM n' Q5 _ M' e4'=>?_);obtain rfl:=j6 (e1.symm.trans Q5);have e:vs=tM:=congrArg Vh (We (congrArg E9 (aW (e3.symm.trans M')))).1;show ih vs _ _ e4 (e▸e4')
 .show ki r λa o fd cs vs G e1 _ e3 e4 _ _ c e5 DU=>(ki q λa' o' fd' cs' tM G' Q5 _ M' e4' _ _ c' e5' N8=>?_);obtain rfl:=j6 (e1.symm.trans Q5);obtain rfl:=aW (e3.symm.trans M');obtain rfl:=Data.func.inj (e4.symm.trans e4');show eZ (c.uniq c') λh1 h2=>?_;rw[DU,N8,h1,ih vs _ _ e5 (h2▸e5')]
 .show gv r λv tM F1 F2 e1 e2 e3 dX=>(gv q λv' alz F1' F2' Q5 e2' M' qG=>?_);obtain⟨rfl,rfl⟩:=mx (e1.symm.trans Q5);rw[dX,qG,i1 v _ _ e2 e2',i2 tM _ _ e3 M']
theorem bM.uniq(r:bM h av v F)(q:bM h av v F'):F=F':=Q4.1 av v F F' r q
theorem Dn:(∀(av:AV) (v:aa) (F:List ae),bM h av v F->∀b∈F,b∉bV/\∃o,h.get? b=O o/\((o.cls=ao "list" /\∃vs n,o.data=bQ vs n)\/∃v,o.data=oS v))/\
 ∀(K:List AV) (vs:List aa) (F:List ae),bA h K vs F->∀b∈F,b∉bV/\∃o,h.get? b=O o/\((o.cls=ao "list" /\∃vs n,o.data=bQ vs n)\/∃v,o.data=oS v):=by
 have fl:∀{p:Prop} {F:List ae} {P:ae->Prop},p/\F=[]->∀b∈F,P b:=λr b D=>kI (r.2▸D);show Bn (λ_ _=>fl) (λ_ _ _=>fl) (λ_ _ _=>fl) (λ_ _ _=>fl) (λu x ih v F r=>ih v F r.2) (λK ih v F r b D=>?_) (λK ih v F r b D=>gJ r λa vs n e1 _ e3 e4=>ih vs F e4 b D) (λf ns K ih v F r b D=>?_) (λ_ _=>fl) (λx K i1 i2 vs F r b D=>?_)
 .show fR r λa vs n G e1 e2 e3 e4 dX=>?_;subst dX;show bc (bq.mp D) (λa1=>a1▸⟨e2,_,e3,ak ⟨rfl,_,_,rfl⟩⟩) λD=>ih vs G e4 b D
 .show ki r λa o fd cs vs G e1 _ e3 e4 _ _ cc e5 qG=>?_;subst qG;rcases bY.mp D with D|D
  .show dG (sU D) λi hi=>?_;have jx:i<ns.length:=cc.2.1▸(dR.mp hi).1;show og λgG kG=>l0 (cc.1 i ns[i] (dF jx)) λk v1 g1 g2 g3 g4 i1=>bg i1 λoo g5 g6=>?_;show kG ?_;clear kG gG;show aW (hi.symm.trans g1)▸⟨g4,oo,g5,aw ⟨_,g6⟩⟩
  .show ih vs G e5 b D
 .show gv r λv tM F1 F2 e1 e2 e3 dX=>?_;subst dX;show bc (bY.mp D) (λD=>i1 v F1 e2 b D) λD=>i2 tM F2 e3 b D
theorem bM.kinds(r:bM h av v F):∀b∈F,b∉bV/\∃o,h.get? b=O o/\((o.cls=ao "list" /\∃vs n,o.data=bQ vs n)\/∃v,o.data=oS v):=Dn.1 av v F r
theorem bA.kinds(r:bA h K vs F):∀b∈F,b∉bV/\∃o,h.get? b=O o/\((o.cls=ao "list" /\∃vs n,o.data=bQ vs n)\/∃v,o.data=oS v):=Dn.2 K vs F r
end
theorem Ak.uniq{J:cJ}{h:aO}{x:aV}{v':aa}(a:Ak J h x v)(b:Ak J h x v'):v=v':=by
 rcases a with⟨k,m,n,e⟩|⟨k,c,e1,_,⟨o,e2,e3⟩⟩<;>rcases b with⟨k',m',n',e'⟩|⟨k',c',Q5,_,⟨o',e2',M'⟩⟩
 .show gJ n λo es ep a1 a2 _ a3=>(gJ n' λo' es' ep' b1 b2 _ b3=>?_);replace b1:=a1▸b1;obtain rfl:=aW b1;replace b2:=a2▸b2;cases b2
  have:=a3 x;rw[b3 x,e',e]at this;show(aW this).symm
 .rw [k]at k';rcases k' with k' |k'<;>cases k'
 .rw [k']at k;rcases k with k|k<;>cases k
 .obtain rfl:=aW (e1.symm.trans Q5);obtain rfl:=aW (e2.symm.trans e2');rw[e3]at M';simp only[Data.cell.injEq,Option.some.injEq]at M';show M'
def LS(h:aO)(b:ae):Prop:=∃vs n,h.get? b=O (bp vs n)
theorem LS.ext{h:aO}{b:ae}(x:hJ H h h')(ht:b∉bV)(l:LS h b):LS h' b:=jd l λvs n e=>qE vs n (x.keep b _ ht e)
theorem LS.mP{h:aO}{b:ae}{v:Option aa}(l:LS h b)(c:h.IsCell b v):False:=by show jd l λvs n e=>(bg c λo e' d=>?_);obtain rfl:=aW (e.symm.trans e');ext
theorem LS.MF{h:aO}{b:ae}(l:LS h b)(c:h.Ns b m):False:=by show jd l λvs n e=>(tJ c λo es ep e' d _=>?_);replace e':=e▸e';obtain rfl:=aW e';ext
section
variable(J:cJ)(h:aO)(G:iz)(W:List ae)(val:Nat->aa)(fp:Nat->List ae)(x:Nat)
structure aeU(b:ae):Prop where
 mem:b∈W
 ls:LS h b
 ap:∀y k' mI,ck G y=O (k',mI)->y≠x->b∉fp y
structure Own:Prop where
 nd:(fp x).Nodup
 el:∀b∈fp x,aeU h G W fp x b
structure Ent(k:Nat)(av:AV):Prop where
 has:Ak J h (NM x) (val x)
 rel:bM h av (val x) (fp x)
 own:k=1->Own h G W fp x
 shd:k≠1->∀b∈fp x,b∉W
variable{J h G W val fp x}
theorem qH{b:ae}{P:Prop}(q:aeU h G W fp x b)(k:b∈W->LS h b->(∀y k' mI,ck G y=O (k',mI)->y≠x->b∉fp y)->P):P:=k q.1 q.2 q.3
theorem mB{P:Prop}(q:Ent J h G W val fp x k av)(c:Ak J h (NM x) (val x)->bM h av (val x) (fp x)->(k=1->Own h G W fp x)->(k≠1->∀b∈fp x,b∉W)->P):P:=c q.1 q.2 q.3 q.4
theorem Ent.of(e1:val x=v)(e2:fp x=F)(a:Ak J h (NM x) v)(b:bM h av v F)(n:k=1->F.Nodup)(c:k=1->∀b∈F,aeU h G W fp x b)(d:k≠1->∀b∈F,b∉W):Ent J h G W val fp x k av:=by subst e1 e2;show⟨a,b,λq=>⟨n q,c q⟩,d⟩
variable(J h G W val fp)
def ajD:Prop:=∀x k av,ck G x=O (k,av)->Ent J h G W val fp x k av
end
section
variable(H:List ae)(U:aO)
structure FR(D:aO)(L:du)(J:cJ)(h:aO)(G:iz)(W:List ae):Prop where
 b1:hJ H U D
 ext:hJ H D h
 scope:J.scope=L
 kind:L.kind=dZ
 glob:J.globals=ef
 bi:J.builtins=gb
 loc:J.locals∈W
 ns:∃m,h.Ns J.locals m
 cell:∀x,L.names.lookup (NM x)=O dy->∃c,J.cells.lookup (NM x)=O c/\(∃v,h.IsCell c v)/\c∉bV/\((∃av,ck G x=O (2,av))\/c∈W)
 pV:∀x y c,L.names.lookup (NM x)=O dy->J.cells.lookup (NM x)=O c->J.cells.lookup (NM y)=O c->y=x
 je:∀b∈W,D.get? b=ai/\b∉bV/\Cs h b
 ents:∃(val:Nat->aa) (fp:Nat->List ae),ajD J h G W val fp
end
section
variable{H:List ae}{U:aO}{J:cJ}{h:aO}{G:iz}{W:List ae}
theorem FR.base(r:FR H U D L J h G W):hJ H U h:=r.b1.trans r.ext
theorem FR.er(r:FR H U D L J h G W):ER H U L J h G where
 base:=r.base
 kind:=r.scope.symm▸r.kind
 gl:=λx E=>by delta j7;show r.scope.symm▸?_;show E
 Wm:=λx E=>by delta j7;show r.scope.symm▸E
 glob:=r.glob
 bi:=r.bi
 loc:=(r.je _ r.loc).2.1
 has:=λx k av e=>jd r.ents λval fp q=>kH (val x) (fp x) ((q x k av e).1) ((q x k av e).2)
theorem Cs.ext{b:ae}(x:hJ H h h')(ht:b∉bV)(m:Cs h b):Cs h' b:=bg m λo e r=>cn o (x.keep b o ht e) r
theorem FR.abF(r:FR H U D L J h G W)(b1:hJ τ' U D)(x:hJ τ' D h')(kW:∀b∈W,∀o,h.get? b=O o->h'.get? b=O o)(kC:∀c v,c∉bV->h.IsCell c v->h'.IsCell c v)(kE:∀y k av v F,ck G y=O (k,av)->bM h av v F->bM h' av v F):FR τ' U D L J h' G W where
 b1:=b1
 ext:=x
 scope:=r.scope
 kind:=r.kind
 glob:=r.glob
 bi:=r.bi
 loc:=r.loc
 ns:=r.ns.imp λm n=>n.at' (kW _ r.loc)
 cell:=λy hy=>lZ (r.cell y hy) λc a b d e=>wy c a (b.imp λv q=>kC c v d q) d e
 pV:=r.pV
 je:=λb D=>ie (r.je b D) λp q m=>gT p q (Bh (λo q=>⟨kW b D o q.1,q.2⟩) m)
 ents:=jd r.ents λval fp q=>qE val fp (λy k av e=>mB (q y k av e) λa b c d=>⟨a.imp (λq=>⟨q.1,q.2.imp λm q=>⟨q.1.at' (kW _ r.loc),q.2⟩⟩) λq=>⟨q.1,q.2.imp λc q=>⟨q.1,q.2.1,kC _ _ q.2.1 q.2.2⟩⟩,kE y k av _ _ e b,
  λhk=>⟨(c hk).1,λz hz=>qH ((c hk).2 z hz) λp1 p2 p3=>⟨p1,p2.imp λvs q=>q.imp λn q=>kW z p1 _ q,p3⟩⟩,d⟩)
theorem FR.grow(r:FR H U D L J h G W)(x:hJ H h h'):FR H U D L J h' G W:=
 r.abF r.b1 (r.ext.trans x) (λb hb' o e=>x.keep b o (r.je b hb').2.1 e) (λ_ _ ht q=>x.cell ht q) λ_ _ _ _ _ _ aP=>aP.ext x
theorem Dp(hs:gx a h h')(ha:U.get? a=ai)(hm:∃o,h'.get? a=O o)(e:hJ H U h)(ht:a∉bV):hJ H U h' where
 keep:=λb o D q=>(hs.2 b (λe'=>by subst e';have q:=ha.symm.trans q;ext)).trans (e.keep b o D q)
 tab:=λb D ps q=>dG (e.tab b D ps q) λm q'=>⟨m,(hs.2 b (λe'=>by subst e';show ht D)).trans q'⟩
 there:=λb o q=>if N9:b=a then N9▸hm else dG (e.there b o q) λo' q'=>⟨o',(hs.2 b N9).trans q'⟩
 quiet:=λb o D ht' q=>(hs.2 b (λe'=>by subst e';show ht D)).trans (e.quiet b o D ht' q)
theorem n0(hs:gx a h h')(hm:∃o,h'.get? a=O o)(ha:a∈W)(ht:a∉bV):Mod W h h' where
 keep:=λb o D _ q=>(hs.2 b (λe'=>by subst e';show D ha)).trans q
 tab:=λb D ps q=>⟨#[],(hs.2 b (λe'=>by subst e';show ht D)).trans q⟩
 there:=λb o q=>if N9:b=a then N9▸hm else⟨o,(hs.2 b N9).trans q⟩
theorem Cs.same{b:ae}(hs:gx a h h')(hm:Cs h' a)(m:Cs h b):Cs h' b:=by
 by_cases N9:b=a
 .subst N9;show hm
 .show bg m λo e r=>cn o ((hs.2 b N9).trans e) r
theorem MG(n:h.Ns a m):Cs h a:=tJ n λo es ep ho hd _=>cn o ho (aw (ak ⟨es,ep,hd⟩))
theorem Gl{v:Option aa}(n:h.IsCell a v):Cs h a:=bg n λo ho hd=>cn o ho (aw (aw ⟨v,hd⟩))
end
noncomputable def abG(W F:List ae):List ae:=W.filter λb=> !F.contains b
theorem iT{W:List ae}{b:ae}:b∈abG W F↔b∈W/\b∉F:=by
 delta abG
 simp
def share(G:iz)(y:Nat):iz:=(ck G y).elim G λp=>cond (fF p.1 1) (jh G y 0 p.2) G
theorem uC(G:iz)(y:Nat):(∃av,ck G y=O (1,av)/\share G y=jh G y 0 av)\/(share G y=G/\∀av,ck G y≠O (1,av)):=by
 delta share
 cases ck G y with
 |none=>show aw ⟨rfl,λ_=>Bj⟩
 |some p=>
  obtain⟨n,av⟩:=p;show if h:n=1 then ?_ else aw ⟨congrArg (λb=>cond b (jh G y 0 av) G) ((Mn n 1).trans (decide_eq_false h)),λ_ e=>h (congrArg Prod.fst (aW e))⟩
  subst h;show ak ⟨av,rfl,rfl⟩
theorem Gm(G:iz)(y x:Nat)(e:ck (share G y) x=O (k,av)):∃k',ck G x=O (k',av)/\(k=k'\/(x=y/\k'=1/\k=0)):=by show(uC G y).elim (λi=>bg i λmI h q=>?_) λi=>⟨k,i.1▸e,ak Z⟩;rw[q,fJ]at e;show if r:x=y then Yb (aW ((if_pos r).symm.trans e)) λa1 a2=>⟨1,r▸a2▸h,aw ⟨r,rfl,a1.symm⟩⟩ else⟨k,(if_neg r).symm.trans e,ak Z⟩
theorem Q6(G:iz)(y:Nat):ck (share G y) y≠O (1,av):=by show(uC G y).elim (λi=>bg i λmI h q e=>?_) λi=>i.1.symm▸i.2 av;rw[q,fJ,if_pos Z]at e;show Yb (aW e) λa1 _=>nnZ a1
theorem IC{G:iz}{x:Nat}(h:x≠y):ck (share G y) x=ck G x:=
 (uC G y).elim (λi=>bg i λmI _ q=>by rw[q,fJ,if_neg h]) λi=>congrArg (ck · x) i.1
theorem abH{G:iz}{x:Nat}(h:ck G x=O (2,av)):ck (share G y) x=O (2,av):=by
 by_cases e:x=y
 .show (uC G y).elim (λi=>bg i λmI h' _=>Yb (aW (h'.symm.trans (e▸h))) λa1 _=>(uf Z a1).elim) λi=>i.1.symm▸h
 .show (IC e).symm▸h
theorem Ent.ug{J:cJ}{h:aO}{G:iz}{W:List ae}{val:Nat->aa}{fp:Nat->List ae}{x:Nat}{P:List ae->Prop}(q:Ent J h G W val fp x k av)(cA:Ak J h (NM x) v)(aP:bM h av v F)(p:P (fp x)):P F:=by rw[cA.uniq q.1]at aP;show bM.uniq aP q.2▸p
section
variable{H:List ae}{U:aO}{J:cJ}{h:aO}{G:iz}{W:List ae}
set_option tactic.hygienic true in
theorem FR.share(r:FR H U D L J h G W)(y:Nat):∃W',FR H U D L J h (Lake.share G y) W'/\(∀b∈W',b∈W)/\
 ∀k av v F,ck G y=O (k,av)->Ak J h (NM y) v->bM h av v F->∀b∈F,b∉W':=by
 show jd r.ents λval fp q=>?_;cases hy:ck G y with
 |none=>show kF W ?_ (λ_ D=>D) (λk av v F e=>Bj e);show(uC G y).elim (λi=>bg i λ_ h _=>Bj (hy.symm.trans h)) λi=>i.1.symm▸r
 |some p=>
  obtain⟨k,av⟩:=p;by_cases hk:k=1
  .subst hk;show mB (q y 1 av hy) λa1 a2 a3 a4=>((kF (abG W (fp y)) ?_ (λb D=>(iT.mp D).1) (λk' mI v F e cA aP b D hw=>?_)))
   .show ⟨r.b1,r.ext,r.scope,r.kind,r.glob,r.bi,iT.mpr ⟨r.loc,λhf=>dG r.ns λm n=>(((a3 Z).2 _ hf).2.MF n)⟩,r.ns,λx E=>?_,r.pV,λb D=>r.je b (iT.mp D).1,val,fp,λx k' mI e=>?_⟩
    .obtain ⟨c,c1,⟨cv,c2⟩,c3,c4⟩:=r.cell x E;show wy c c1 ⟨cv,c2⟩ c3 ?_;rcases c4 with⟨av2,c4⟩|c4
     .show ak ⟨av2,abH c4⟩
     .show aw (iT.mpr ⟨c4,λhf=>((a3 Z).2 _ hf).2.mP c2⟩)
    .show bg (Gm G y x e) λk'' e' Wr=>mB (q x k'' mI e') λb1 b2 b3 b4=>⟨b1,b2,λh1=>?_,λh1 b D hw=>?_⟩
     .cases h1
      rcases Wr with rfl|⟨_,_,h2⟩
      .have hxy:x≠y:=λh3=>by subst h3;show Q6 G x e
       show⟨(b3 Z).1,λb D=>?_⟩;show qH ((b3 Z).2 b D) λp1 p2 p3=>(⟨iT.mpr ⟨p1,p3 y 1 av hy (λh3=>hxy h3.symm)⟩,p2,λz k3 Yf e3 hz=>?_⟩);show bg (Gm G y z e3) λk4 e4 _=>(p3 z k4 Yf e4 hz)
      .ext
     .show eZ (iT.mp hw) λw1 w2=>?_;rcases Wr with rfl|⟨h2,_,_⟩
      .show b4 h1 b D w1
      .subst h2;show w2 D
   .show Yb (aW e) λa1 a2=>?_;subst a1;subst a2;show(iT.mp hw).2 ((q y 1 av hy).ug (P:=λF=>b∈F->b∈fp y) cA aP id D)
  .show kF W ((uC G y).elim (λi=>bg i λ_ h _=>(hk (congrArg Prod.fst (aW (hy.symm.trans h)))).elim) λi=>i.1.symm▸r) (λ_ D=>D)<|λk' mI v F e cA aP b D hw=>Yb (aW e) λa1 a2=>?_;subst a1;subst a2;show(q y k av hy).shd hk b ((q y k av hy).ug (P:=λF=>b∈F->b∈fp y) cA aP id D) hw
def bS(G:iz)(x:Nat):Bool:=match ck G x with
 |some (2,_)=>ab
 |_=>N
theorem zp{G:iz}{x:Nat}(h:bS G x=N):ck G x≠O (2,av):=λe=>by unfold bS at h;have h:=e▸h;ext
theorem FR.stored{x:Nat}(r:FR H U D L J h G W)(hs:gx a h h')(ha:a∈W)(hm:Cs h' a)(ID:¬LS h a)(wG:∃m,h'.Ns J.locals m)(Ou:∀c w,a=c->h.IsCell c w->∃w',h'.IsCell c w')(ajE:∀y w,y≠x->Ak J h (NM y) w->Ak J h' (NM y) w)(E:Ak J h' (NM x) v)(aP:bM h av v F)(hWW:∀b∈W,b∈W')(CD:∀b∈W',b∈W\/(b∈F/\k=1))(dH:bS G x=N)(hk:k=1->F.Nodup/\∀b∈F,b∈W'/\LS h b/\D.get? b=ai/\∀y k' mI v' F',y≠x->ck G y=O (k',mI)->Ak J h (NM y) v'->bM h mI v' F'->b∉F')(hk0:k=0->∀b∈F,b∉W')(aeV:k=0\/k=1):FR H U D L J h' (jh G x k av) W':=by
 have ht:=(r.je a ha).2.1;have hma:∃o,h'.get? a=O o:=bg hm λo e _=>⟨o,e⟩;have M:Mod [a] h h':=n0 hs hma au ht;have hmm:∀b∈[a],Cs h b:=λb D=>by show bI.mp D▸?_;show(r.je _ ha).2.2
 have LSk:∀b,LS h b->LS h' b:=λb l=>by
  show if N9:b=a then ?_ else jd l λvs n e=>qE vs n ((hs.2 b N9).trans e)
  cases N9;show(ID l).elim
 show jd r.ents λval fp q=>?_
 -- a is in no Yg of ajp name,nor of the new value
 have aF:a∉F:=λhf=>bc aeV (λh0=>hk0 h0 a hf (hWW a ha)) λh1=>ID ((hk h1).2 a hf).2.1;have afp:=λy k' mI e hf=>by show mB (q y k' mI e) λb1 b2 b3 b4=>if h1:k'=1 then ID ((b3 h1).2 a hf).2 else b4 h1 a hf ha
 show⟨r.b1,Dp hs (r.je a ha).1 hma r.ext ht,r.scope,r.kind,r.glob,r.bi,hWW _ r.loc,wG,λy hy=>?_,r.pV,λb hb'=>?_,λy=>if y=x then v else val y,λy=>if y=x then F else fp y,λy k' mI e=>?_⟩
 .show lZ (r.cell y hy) λc c1 i1 c3 c4=>dG i1 λcv c2=>wy c c1 (if hca:a=c then Ou c cv hca c2 else bg c2 λo e d=>kH cv o ((hs.2 c (λe'=>hca e'.symm)).trans e) d) c3 ?_;rcases c4 with⟨av2,c4⟩|c4
  .show ak ⟨av2,?_⟩;rw[fJ];show if hyx:y=x then ?_ else(if_neg hyx).symm▸c4
   cases hyx;show((zp dH) c4).elim
  .show aw (hWW c c4)
 .rcases CD b hb' with hb' |⟨hb',h1⟩
  .show ie (r.je b hb') λp1 p2 p3=>gT p1 p2 (Cs.same hs hm p3)
  .show eZ (hk h1) λ_ p=>iK (p b hb') λ_ p2 p3 _=>gT p3 ((aP.kinds b hb').1) (jd (LSk b p2) λvs n e=>cn _ e (ak ⟨rfl,_,_,rfl⟩))
 .rw [fJ]at e;rcases yD (y=x) with hyx|hyx
  .cases hyx
   replace e:=(if_pos Z)▸e;cases e
   show .of (if_pos Z) (if_pos Z) E (aP.mod M hmm _ _ _ λb hb'=>sM λe'=>aF (e'▸hb')) (λh1=>(hk h1).1) (λh1 b hb'=>?_) (λh1 b hb'=>bc aeV (λh0=>hk0 h0 b hb') λh0=>(h1 h0).elim);show iK ((hk h1).2 b hb') λp1 p2 p3 p4=>(⟨p1,LSk b p2,λz k3 Yf e3 hz=>?_⟩);rw[fJ,if_neg hz]at e3;rw[if_neg hz];show p4 z k3 Yf _ _ hz e3 (q z k3 Yf e3).1 (q z k3 Yf e3).2
  .have e:=(if_neg hyx).symm.trans e;show mB (q y k' mI e) λb1 b2 b3 b4=>(.of (if_neg hyx) (if_neg hyx) (ajE y _ hyx b1) (b2.mod M hmm _ _ _ λb hb'=>sM λe'=>afp y k' mI e (e'▸hb')) (λh1=>(b3 h1).1) (λh1 b hb'=>?_) (λh1 b hb' hw=>?_))
   .show qH ((b3 h1).2 b hb') λp1 p2 p3=>(⟨hWW b p1,LSk b p2,λz k3 Yf e3 hz=>?_⟩);rw[fJ]at e3;by_cases hzx:z=x
    .rw [if_pos hzx];intro hbF;show bc aeV (λh0=>hk0 h0 b hbF (hWW b p1)) λh0=>((hk h0).2 b hbF).2.2.2 y k' mI _ _ hyx e b1 b2 hb'
    .rw [if_neg hzx]at e3;rw[if_neg hzx];show p3 z k3 Yf e3 hz
   .rcases CD b hw with hw|⟨hw,h0⟩
    .show b4 h1 b hb' hw
    .show ((hk h0).2 b hw).2.2.2 y k' mI _ _ hyx e b1 b2 hb'
end
structure mC(W:List ae)(s Y:af):Prop where
 mod:Mod W s.heap Y.heap
 os:Y.os=s.os
 drawn:Y.drawn=s.drawn
 gens:Y.gens=s.gens
theorem mC.refl(W:List ae)(s:af):mC W s s:=⟨.refl _ _,rfl,rfl,eW _⟩
theorem dA.smod(W:List ae)(x:dA H s Y):mC W s Y:=⟨x.ext.mod W,x.os,x.drawn,x.gens⟩
theorem mC.trans{a b c:af}(x:mC W a b)(y:mC W' b c)(hw:∀d,d∈W'->d∈W\/a.heap.get? d=ai):mC W a c:=
 ⟨x.mod.trans y.mod hw,y.os.trans x.os,y.drawn.trans x.drawn,y.gens.trans x.gens⟩
theorem dA.sm{a b c:af}(e:dA H a b)(m:mC W b c):mC W a c:=(e.smod W).trans m λ_ h=>ak h
theorem dA.mm{a b:af}(e:dA H a b)(m:Mod W b.heap h'):mC W a {b with heap:=h'}:=e.sm ⟨m,rfl,rfl,eW _⟩
theorem Mod.new(x:Mod W h h'){b:ae}(e:h'.get? b=ai):h.get? b=ai:=by
 cases q:h.get? b with
 |none=>rfl
 |some o=>show dG (x.there b o q) λo' e'=>?_;have e':=e.symm.trans e';ext
theorem Ns.mP{v:Option aa}(n:h.Ns a m)(c:h.IsCell a v):False:=by show tJ n λo es ep a1 a2 _=>(bg c λo' b1 b2=>?_);replace b1:=a1▸b1;obtain rfl:=aW b1;have b2:=a2▸b2;ext
structure rS(D:aO)(J:cJ)(h:aO)(G:iz)(W W':List ae)(x k:Nat)(F:List ae):Prop where
 sub:∀b∈W,b∈W'
 sup:∀b∈W',b∈W\/(b∈F/\k=1)
 own:k=1->F.Nodup/\∀b∈F,b∈W'/\LS h b/\D.get? b=ai/\∀y k' mI v' F',y≠x->ck G y=O (k',mI)->Ak J h (NM y) v'->bM h mI v' F'->b∉F'
 shared:k=0->∀b∈F,b∉W'
 kind:k=0\/k=1
theorem j9(r:FR H U D L J s.heap G W)(E:Hx L x)(dH:bS G x=N)(aP:bM s.heap av v F)(gH:rS D J s.heap G W W' x k F):
 T A (Au J (NM x) v) s (λ_ Y=>FR H U D L J Y.heap (jh G x k av) W'/\mC W s Y):=by
 have zq:J.scope.kind=dZ:=by rw[r.scope];show r.kind
 show dG r.ns λm n=>?_;rcases E with hl|hl
 .have O':J.kindOf (NM x)=O cU:=by delta j7;rw[r.scope];show hl
  show sG O' n (λh' wm zO=>?_) (by show zq.symm▸?_;rfl);show⟨r.stored zO r.loc (MG wm) (λl=>l.MF n) ⟨_,wm⟩ (λc cv e hc=>?_) (λy u hy cA=>?_) (ak ⟨O',_,wm,if_pos Z⟩) aP gH.sub gH.sup dH gH.own gH.shared gH.kind,
   ⟨n0 zO (bg (MG wm) λo e _=>⟨o,e⟩) r.loc (r.je _ r.loc).2.1,rfl,rfl,eW _⟩⟩
  .subst e;show((λhc=>Ns.mP n hc) hc).elim
  .rcases cA with⟨k1,m1,n1,e1⟩|⟨k1,c,e1,e2,o,e3,e4⟩
   .show ak ⟨k1,_,wm,?_⟩;rw[if_neg (λe=>hy (Cx e)),Heap.Ns.agree n n1];show e1
   .show aw ⟨k1,c,e1,e2,o,(zO.2 c (λe=>?_)).trans e3,e4⟩;subst e;show Ns.mP n (cn o e3 e4)
 .have O':J.kindOf (NM x)=O dy:=by delta j7;rw[r.scope];show hl
  show og λgG kG=>lZ (r.cell x hl) λc c1 i1 c3 c4=>dG i1 λcv c2=>kG ?_;clear kG gG;have hcW:c∈W:=by
   rcases c4 with⟨av2,c4⟩|c4
   .show ((zp dH) c4).elim
   .show c4
  have hlc:J.locals≠c:=λe=>by subst e;show Ns.mP n c2
  show wpAny_storeName_cell zq O' c1 c2 λh' hc' zO=>⟨r.stored zO hcW (Gl hc') (λl=>l.mP c2) ⟨m,n.sameBut zO hlc⟩ (λc' cv' e hc2=>?_) (λy u hy cA=>?_) (aw ⟨ak O',c,c1,c3,hc'⟩) aP gH.sub gH.sup dH gH.own gH.shared gH.kind,
   ⟨n0 zO (bg (Gl hc') λo e _=>⟨o,e⟩) hcW c3,rfl,rfl,eW _⟩⟩
  .subst e;show DR _ hc'
  .rcases cA with⟨k1,m1,n1,e1⟩|⟨k1,c',e1,e2,o,e3,e4⟩
   .show ak ⟨k1,m1,n1.sameBut zO hlc,e1⟩
   .show aw ⟨k1,c',e1,e2,o,(zO.2 c' (λe=>?_)).trans e3,e4⟩;subst e;show hy (r.pV x y c' hl c1 e1)
theorem rS.flat(hF:F=[]):rS D J h G W W x 0 F:=
 ⟨λ_ D=>D,λ_ D=>ak D,(λe=>nnZ e),(λ_ b D=>by subst hF;ext),ak Z⟩
theorem rS.fresh{Ov:aO}(hn:∀b∈F,Ov.get? b=ai)(hd:F.Nodup)(hl:∀b∈F,LS h b)(r:FR H U D L J Ov G W)(x:hJ H Ov h):rS D J h G W (W++F) z 1 F where
 sub:=λb D=>by lia
 sup:=λb D=>bc (bY.mp D) (λD=>ak D) λD=>aw ⟨D,rfl⟩
 own:=λ_=>⟨hd,λb D=>⟨by lia,hl b D,r.ext.new (hn b D),λy k' mI v' F' _ e cA aP hb'=>by show jd r.ents λval fp q=>(mB (q y k' mI e) λa1 a2 _ _=>?_);rw[cA.uniq (a1.ext x (r.je _ r.loc).2.1)]at aP;rw[bM.uniq aP (a2.ext x)]at hb';show iL (a2.kinds b hb') λ_ o e1 _=>?_;have e1:=(hn b D).symm.trans e1;ext⟩⟩
 shared:=λe=>nn0 e
 kind:=aw Z
theorem rS.alias(hF:∀b∈F,b∉W):rS D J h G W W x 0 F:=
 ⟨λ_ D=>D,λ_ D=>ak D,(λe=>nnZ e),λ_ b D=>hF b D,ak Z⟩
theorem rS.again(r:FR H U D L J h G W)(E:ck G x=O (1,av))(cA:Ak J h (NM x) v)(aP:bM h av v F):rS D J h G W W x 1 F where
 sub:=λ_ D=>D
 sup:=λ_ D=>ak D
 own:=λ_=>by show jd r.ents λval fp q=>?_;have qx:=q x 1 av E;apply qx.ug cA aP;show⟨(qx.own Z).1,λb D=>qH ((qx.own Z).2 b D) λp1 p2 p3=>(rR p1 p2 ((r.je b p1).1) (λy k' mI v' F' hyx e H' V' hb'=>?_))⟩;show p3 y k' mI e hyx ((q y k' mI e).ug (P:=λF=>b∈F->b∈fp y) H' V' id hb')
 shared:=λe=>nn0 e
 kind:=aw Z
def Bx(H:List ae)(U D:aO)(L:du)(J:cJ)(W:List ae)(s:af)(G':iz)(ret:Option AV)(f:cb)(Y:af):Prop:=mC W s Y/\match ret with
 |none=>f=cL/\∃W',FR H U D L J Y.heap G' W'/\∀d,d∈W'->d∈W\/s.heap.get? d=ai
 |some av=>hJ H D Y.heap/\∃v F,f=cG v/\bM Y.heap av v F
theorem tP(m:mC W s Y)(r:FR H U D L J Y.heap G' W):Bx H U D L J W s G' ai cL Y:=⟨m,rfl,W,r,λ_ h=>ak h⟩
theorem Bx.behind{W1:List ae}{ret:Option AV}{f:cb}(m1:mC W s aD)(hw1:∀d,d∈W1->d∈W\/s.heap.get? d=ai)(q:Bx H U D L J W1 aD G' ret f aQ):Bx H U D L J W s G' ret f aQ:=by
 show eZ q λm2 q=>(⟨m1.trans m2 hw1,?_⟩);cases ret with
 |none=>show iL q λq1 W2 r2 hw2=>(⟨q1,W2,r2,λd hd=>?_⟩);show bc (hw2 d hd) (λhd=>hw1 d hd) λhd=>aw (m1.mod.new hd)
 |some av=>show q
def SS(H:List ae)(U:aO)(A:b9)(L:du)(J:cJ)(ss:List cg)(G G':iz)(ret:Option AV):Prop:=
 ∀⦃D:aO⦄ ⦃s:af⦄ ⦃W:List ae⦄,FR H U D L J s.heap G W->T A (aU ss J) s (Bx H U D L J W s G' ret)
def S1(H:List ae)(U:aO)(A:b9)(L:du)(J:cJ)(st:cg)(G G':iz)(ret:Option AV):Prop:=
 ∀⦃D:aO⦄ ⦃s:af⦄ ⦃W:List ae⦄,FR H U D L J s.heap G W->T A (oJ st J) s (Bx H U D L J W s G' ret)
theorem T.wpN{t:aI cb}{Q:cb->af->Prop}(h:T A t s (Bx H U D L J W aK G' ai))(k:∀aD W1,mC W aK aD->FR H U D L J aD.heap G' W1->(∀d,d∈W1->d∈W\/aK.heap.get? d=ai)->Q cL aD):aA (aE prog w) A t Q aX s:=h.wp λ_ aD qQ=>oX qQ λm hf W1 r hw=>hf▸k aD W1 m r hw
theorem SS.nil:SS H U A L J [] G G ai:=λD s W r=>J7 ⟨.refl _ _,rfl,W,r,λd hd=>ak hd⟩
theorem SS.cons{G2:iz}{ret:Option AV}(h1:S1 H U A L J st G G1 ai)(h2:SS H U A L J ss G1 G2 ret):SS H U A L J (st::ss) G G2 ret:=λD s W r=>uS<|(h1 r).wpN λaD W1 m1 r1 hw1=>(h2 r1).mono λf2 aQ q=>q.behind m1 hw1
theorem tQ(h1:S1 H U A L J st G G1 (O av)):SS H U A L J (st::ss) G G1 (O av):=λD s W r=>uS<|(h1 r).wp λf aD ou=>yG ou λm1 x v F hf aP=>hf▸⟨m1,x,v,F,rfl,aP⟩
protected theorem S1.ret(h:V H U A L J G e av ab):S1 H U A L J (yn (O e) pos) G G' (O av):=λD s W r=>
 xC ((h r.er).tN λv aD F e1 aP _=>⟨e1.smod W,r.ext.trans e1.ext,v,F,rfl,aP⟩)
theorem S1.ite{c:aG}{a b:List cg}{x:Bool}{ret:Option AV}(hc:o7 H U A L J G c x)(ha:x=N->SS H U A L J a G G' ret)(D:x=ab->SS H U A L J b G G' ret):S1 H U A L J (yo c a b pos) G G' ret:=λhb' s W r=>by
 show wpAny_If ((hc r.er).Cw λv aD e1 hv=>?_);subst hv;cases v with
 |true=>show(ha Z (r.grow e1.ext)).wp λf aQ q=>q.behind (e1.smod W) λd hd=>ak hd
 |false=>show(D Z (r.grow e1.ext)).wp λf aQ q=>q.behind (e1.smod W) λd hd=>ak hd
theorem bC(x:Nat)(av:AV)(h:V H U A L J G e av ab)(hf:flat av=N)(dH:bS G x=N)(E:Hx L x)(hs:fD e (O (aq (NM x) p)) pos.line J=pure ab):
 S1 H U A L J (eF [aq (NM x) p] e pos) G (jh G x 0 av) ai:=λD s W r=>by
 show xD ((h r.er).tN λv aD F e1 aP _=>?_) hs;show(j9 (r.grow e1.ext) E dH aP (.flat (cW.1 _ _ _ hf aP))).Cw λ_ aQ r2 m2=>tP (e1.sm m2) r2
mutual
noncomputable def vZ:AV->Bool
 |oZ|eX _|a6 _|aH _=>N
 |Bm _ x=>vZ x
 |bR K=>CE K
 |fI K=>CE K
 |tL ..=>ab
noncomputable def CE:List AV->Bool
 | []=>N
 |x::K=>vZ x && CE K
end
theorem Yh:(∀(av:AV) (v:aa) (F:List ae),vZ av=N->bM h av v F->∀b∈F,LS h b)/\∀(K:List AV) (vs:List aa) (F:List ae),CE K=N->bA h K vs F->∀b∈F,LS h b:=by
 have fl:∀{p q:Prop} {F:List ae},q->p/\F=[]->∀b∈F,LS h b:=λ_ r b D=>kI (r.2▸D);show Bn (λ_ _=>fl) (λ_ _ _=>fl) (λ_ _ _=>fl) (λ_ _ _=>fl) (λu x ih v F hc r=>ih v F hc r.2) (λK ih v F hc r b D=>?_) (λK ih v F hc r b D=>gJ r λa vs n e1 _ e3 e4=>ih vs F hc e4 b D) (λf ns K ih v F hc=>Iv hc) (λ_ _=>fl) (λx K i1 i2 vs F hc r b D=>?_)
 .show fR r λa vs n G e1 e2 e3 e4 dX=>?_;subst dX;show zK D (qE vs n e3) λD=>ih vs G hc e4 b D
 .show gv r λv tM F1 F2 e1 e2 e3 dX=>?_;subst dX;have hc:(vZ x && CE K)=N:=hc;show(bY.mp D).elim (i1 v F1 (fP.mp hc).1 e2 b) (i2 tM F2 (fP.mp hc).2 e3 b)
theorem Gn(hc:vZ av=N)(r:bM h av v F):∀b∈F,LS h b:=Yh.1 av v F hc r
theorem gi(x:Nat)(av:AV)(he:V H U A L J G e av N)(hf:vZ av=N)(dH:bS G x=N)(E:Hx L x)(hs:fD e (O (aq (NM x) p)) pos.line J=pure ab):
 S1 H U A L J (eF [aq (NM x) p] e pos) G (jh G x 1 av) ai:=λD s W r=>by
 show xD ((he r.er).wp4 λv aD F e1 aP q=>?_) hs;show eZ (q Z) λq1 q2=>(j9 (r.grow e1.ext) E dH aP (.fresh q1 q2 (Gn hf aP) r e1.ext)).Cw λ_ aQ r2 m2=>⟨(e1.smod W).trans m2 (λd hd=>ak hd),rfl,W++F,r2,λd hd=>by
  rcases bY.mp hd with hd|hd
  .show ak hd
  .show aw (q1 d hd)⟩
theorem zP(r:ER H U L J s.heap G)(E:ck G x=O (k,av)):
 T A (a7 (aq (NM x) pos) J) s (λv Y=>Y=s/\∃F,Ak J s.heap (NM x) v/\bM s.heap av v F):=by
 show eS (r.has x k av E) λv F cA aP=>(rg ?_ (wA x));have H':=cA;show bc cA (λi0=>iL i0 λhl m n e=>xw r.kind hl n e ⟨rfl,F,H',aP⟩) λi0=>oY i0 λhl c hc _ hv=>?_;rcases hl with hl|hl
 .show JZ r.kind hl hc hv ⟨rfl,F,H',aP⟩
 .show J0 r.kind hl hc hv ⟨rfl,F,H',aP⟩ (vD x)
theorem Ws(r:ER H U L J s.heap G)(E:ck G x=O (k,av)):
 T A (loadName J (NM x)) s (λv Y=>Y=s/\∃F,Ak J s.heap (NM x) v/\bM s.heap av v F):=by
 show eS (r.has x k av E) λv F cA aP=>have H':=cA;bc cA (λi0=>iL i0 λhl m n e=>?_) λi0=>oY i0 λhl c hc _ hv=>?_
 .show xw r.kind hl n e ⟨rfl,F,H',aP⟩
 .rcases hl with hl|hl
  .show JZ r.kind hl hc hv ⟨rfl,F,H',aP⟩
  .show J0 r.kind hl hc hv ⟨rfl,F,H',aP⟩ (vD x)
theorem yH(x y:Nat)(hy:ck G y=O (k,av))(dH:bS (share G y) x=N)(E:Hx L x)(hs:fD (aq (NM y) p') (O (aq (NM x) p)) pos.line J=pure ab):
 S1 H U A L J (eF [aq (NM x) p] (aq (NM y) p') pos) G (jh (share G y) x 0 av) ai:=λD s W r=>by
 show xD ((zP r.er hy).Z6 λv F cA aP=>?_) hs;show gI (r.share y) λW' r' hw hF=>((j9 r' E dH aP (.alias (hF k av v F hy cA aP))).Cw λ_ aQ r2 m2=>⟨(mC.refl W s).trans m2 (λd hd=>ak (hw d hd)),rfl,W',r2,λd hd=>ak (hw d hd)⟩)
theorem Ow{op:BOp}{x y z:Int}{t:ba}(h:wB op x y=O z)(hop:op= .add\/op= .sub\/op= .xor):
 T A (Ks op.ast (ag x t) (ag y u)) s (λv Y=>dA H s Y/\∃t',v=ag z t'):=by
 have za:∀{z':Int},z'=z->(dA H s {s with toks:=s.toks+1}/\∃t',ag z' s.toks=ag z t'):=λe=>⟨.toks s _,s.toks,by rw[e]⟩;rcases hop with rfl|rfl|rfl
 .show iadd_int (za (aW h))
 .show isub_int (za (aW h))
 .cases x with
  |ofNat x=>cases y with|ofNat y=>show ixor_int (za ((Gg x y).trans (aW h)))|negSucc y=>ext
  |negSucc x=>ext
theorem CF(x:Nat)(i j z:Int)(op:BOp)(hy:ck G x=O (k,a6 i))(he:V H U A L J G e (a6 j) ab)(h:wB op i j=O z)(hop:op= .add\/op= .sub\/op= .xor)(dH:bS G x=N)(E:Hx L x):
 S1 H U A L J (Fb (aq (NM x) p) op.ast e pos) G (jh G x 0 (a6 z)) ai:=λD s W r=>by
 show Tv ((Ws r.er hy).wp4 λv aD F e1 cA aP=>?_);subst e1;show(he r.er).wp4 λu aQ F2 e2 V2 _=>?_;apply bM.zL aP;intro t;show dG V2.toInt λt' dX=>dX▸(Ow (H:=H) h hop).wp3 λv dg t3 e3 hv=>?_;subst hv;have e23:=e2.trans e3;show(j9 (r.grow e23.ext) E dH (.ofInt z t3) (.flat Z)).Cw λ_ fB r2 m2=>tP (e23.sm m2) r2
theorem FR.agY{ws:List aa}(r:FR H U D L J h G W)(E:ck G x=O (1,av))(cA:Ak J h (NM x) v)(V0:bM h av v F)(haF:a∈F)(hs:gx a h h')(ZQ:h'.get? a=O (bp ws n))(aP:bM h' mI v F):FR H U D L J h' (jh G x 1 mI) W/\Mod W h h':=by
 show jd r.ents λval fp q=>(mB (q x 1 _ E) λa1 a2 a3 _=>?_);have hv:=cA.uniq a1;subst hv;have Al:=bM.uniq V0 a2;subst Al;show qH ((a3 Z).2 a haF) λhaW ID ajF=>?_;have ht:=(r.je a haW).2.1;have hma:∃o,h'.get? a=O o:=⟨_,ZQ⟩;have aed:∀{m},h.Ns J.locals m->h'.Ns J.locals m:=λn=>n.sameBut hs (λe=>by rw[e]at n;show ID.MF n);have aee:∀{c v},h.IsCell c v->h'.IsCell c v:=λ{c v} ic=>bg ic λo e d=>cn o ((hs.2 c (λe'=>by subst e';show ID.mP ⟨o,e,d⟩)).trans e) d;have aef:∀{y u},Ak J h (NM y) u->Ak J h' (NM y) u:=λHy=>Hy.imp (λq=>⟨q.1,q.2.imp λm q=>⟨aed q.1,q.2⟩⟩) λq=>⟨q.1,q.2.imp λc q=>(gT q.1 q.2.1 (aee q.2.2))⟩;have LSk:∀b,LS h b->LS h' b:=λb l=>if N9:b=a then N9▸qE _ _ ZQ else jd l λvs n e=>qE vs n ((hs.2 b N9).trans e)
 show⟨⟨r.b1,Dp hs (r.je a haW).1 hma r.ext ht,r.scope,r.kind,r.glob,r.bi,r.loc,r.ns.imp λ_ n=>aed n,λy hy=>?_,r.pV,λb hb'=>ie (r.je b hb') λp1 p2 p3=>gT p1 p2 (Cs.same hs (⟨_,ZQ,ak ⟨rfl,_,_,rfl⟩⟩) p3),val,fp,λy k' mI e=>?_⟩,(n0 hs hma haW ht)⟩
 .show lZ (r.cell y hy) λc c1 c2 c3 c4=>wy c c1 (c2.imp λ_ q=>aee q) c3 (c4.imp (λq=>q.imp λav2 c4=>?_) id);rw[fJ,if_neg λhyx=>by have c4:=E▸hyx▸c4;cases c4];show c4
 .rw [fJ]at e;by_cases hyx:y=x
  .cases hyx
   replace e:=(if_pos Z)▸e;show Yb (aW e) λa1 a2=>?_;subst a1;subst a2;show⟨aef a1,aP,λ_=>⟨(a3 Z).1,λb hb'=>?_⟩,λh1=>absurd Z h1⟩;show qH ((a3 Z).2 b hb') λp1 p2 p3=>(⟨p1,LSk b p2,λz k3 Yf e3 hz=>?_⟩);rw[fJ,if_neg hz]at e3;show p3 z k3 Yf e3 hz
  .replace e:=(if_neg hyx)▸e;show mB (q y k' mI e) λb1 b2 b3 b4=>(⟨aef b1,b2.mod (n0 hs hma au ht) (λb D=>jQ D (r.je _ haW).2.2) _ _ _ (λb hb'=>sM λe'=>ajF y k' mI e hyx (e'▸hb')),λh1=>⟨(b3 h1).1,λb hb'=>?_⟩,b4⟩);show qH ((b3 h1).2 b hb') λp1 p2 p3=>(⟨p1,LSk b p2,λz k3 Yf e3 hz=>?_⟩);rw[fJ]at e3;by_cases hzx:z=x
   .subst hzx;show p3 z 1 _ E hz
   .rw [if_neg hzx]at e3;show p3 z k3 Yf e3 hz
theorem FR.upd{ws:List aa}(r:FR H U D L J h G W)(E:ck G x=O (1,bR K))(hf:iS K=N)(cA:Ak J h (NM x) (R a))(hs:gx a h h')(ZQ:h'.get? a=O (bp ws n))(aP:bA h ys ws []):FR H U D L J h' (jh G x 1 (bR ys)) W/\Mod W h h':=by show jd r.ents λval fp q=>mB (q x 1 _ E) λa1 a2 a3 _=>have a2:=(cA.uniq a1).symm▸a2;iO a2 λb vs m F' e1 ht _ e4 e5=>?_;obtain rfl:=j6 e1;have e5:=(cW.2 _ _ _ hf e4)▸e5;have ha:=e5▸cR ..;show r.agY E cA a2 ha hs ZQ (e5▸r9 [] ht ZQ (aP.mod (n0 hs ⟨_,ZQ⟩ (bI.mpr Z) ht) (λb D=>jQ D (r.je _ ((a3 Z).2 a ha).1).2.2) _ _ _ zk))
theorem l6(h:cI e=ab)(pos:cB):jV pos (jq [e] J)=[(ab,a7 e J)]:=by rw[dp h];rfl
theorem Jh{x:aV}:uU (aq x p) nm J (a7 (aq x p) J)=a7 (aq x p) J:=rfl
theorem S1.app(E:ck G x=O (1,bR K))(hf:iS K=N)(he:V H U A L J G e av ab)(hfa:flat av=N)(dH:cI e=ab)(lz:(apos.endLine==cpos.line)=N)(hl:dY K.length 1000000=N)(hi:iG J=ab):
 S1 H U A L J (qw (bx (gZ (aq (NM x) p) (aC "append") apos) [e] [] cpos) pos) G (jh G x 1 (bR (K++[av]))) ai:=λD s W r=>by
 show wpAny_Expr_any ?_ hi Z;show TJ Jh (by rw[l6 dH];rfl) lz VA PySem.F.slot_list_append PySem.F.type_list_append<|(zP r.er E).wp λv aD ou=>iL ou λe1 F cA aP=>?_;subst e1;show iO aP λa vs n F' dX _ a3 a4 _=>?_;subst dX;show gT (QY.typeIs a3) (λb hb'=>by obtain rfl:=j6 hb';show⟨_,a3,rfl⟩) ?_;rw[l6 dH];show P.append_list<|(he r.er).wp λu aQ ou=>iL ou λe2 F2 V2 _=>have a3':=(r.grow e2.ext);have g3:=e2.ext.keep a _ (by assumption) a3;have l1:=bA.length a4;have hl:=dN hl;Oj vs.toArray n (by have:fg=16777216:=rfl;simp;lia) g3 ?_;have hF2:=cW.1 _ _ _ hfa V2;subst hF2;have hF':=cW.2 _ _ _ hf a4;subst hF';have up:(aQ.heap.update a (dO λK=>K.push u)).get? a=O (bp (vs++[u]) (n+1)):=by rw[gQ _ g3 (rfl)];simp[bp,dO]
 show eZ ((r.grow e2.ext).upd E hf (cA.ext e2.ext (r.je _ r.loc).2.1) (j5 ..) up
  (by have:=bA.append (a4.ext e2.ext) (show bA aQ.heap [av] [u] [] by show ej [] [] V2 .nil);show this)) λr2 m2=>tP (e2.mm m2) r2
theorem bA.set:∀{vs:List aa} {F:List ae} (i:Nat) {x:AV} {v:aa},iS K=N->bA h K vs F->bM h x v []->bA h (K.set i x) (vs.set i v) []:=by
 induction K with
 |nil=>intro vs F i x v _ r _;apply vA r;show λ_=>.nil
 |cons y ys iH=>
  intro vs F i x v hf r q;have hf:=fP.mp hf;show gv r λu us F1 F2 dX e2 e3 _=>(dX▸?_);have n1:=cW.1 _ _ _ hf.1 e2;have n2:=cW.2 _ _ _ hf.2 e3;subst n1 n2;cases i with
  |zero=>show ej [] [] q e3
  |succ i=>show ej [] [] e2 (iH i hf.2 e3 q)
theorem bA.eraseIdx:∀{vs:List aa} {F:List ae} (i:Nat),iS K=N->bA h K vs F->bA h (K.eraseIdx i) (vs.eraseIdx i) []:=by
 induction K with
 |nil=>intro vs F i _ r;apply vA r;show λ_=>.nil
 |cons y ys iH=>
  intro vs F i hf r;have hf:=fP.mp hf;show gv r λu us F1 F2 dX e2 e3 _=>(dX▸?_);have n1:=cW.1 _ _ _ hf.1 e2;have n2:=cW.2 _ _ _ hf.2 e3;subst n1 n2;cases i with
  |zero=>show e3
  |succ i=>show ej [] [] e2 (iH i hf.2 e3)
theorem rd{l:ae}{k:Int}{t:ba}{Q:Unit->af->Prop}(ho:s.heap.get? l=O {cls:=ao "list",dict:=ai,data:=bQ items n,slots:=#[]})(h0:0<=k)(agZ:k<2 ^ 63)(hn:k<items.size)(hQ:Q () {s with heap:=s.heap.update l (dO (·.setIfInBounds k.toNat v))}):
 aA (aE prog w) A (Ay (R l) (ag k t) v) Q aX s:=by
 have hl:s.heap.IsList l items:=⟨_,ho,rfl,n,rfl⟩
 delta Ay
 try with_reducible show cQ ?_
 first|show ?_|skip
 show ah<|xE hl.typeIs (rfl)<|ah (kS hl.typeIs TK
  (jS TK hl.typeIs entry_list_setitem ?_ (args_list_setitem _ _ _)))
 show(?_:aA _ _ (abg (ag k t)>>=_) _ _ s);show ah (wpAny_listSubscript_int (fitsIndex_of h0 agZ) ?_);clear agZ;obtain⟨j,rfl⟩:=Int.eq_ofNat_of_zero_le h0;show ah<|ah<|wpAny_seqItemAt ho Z<|aB<|(yr au).symm▸ah (wpAny_setSeqItemAt ho Z ?_);first
  |show aB ⟨ax,rfl,aB hQ⟩
  |show aB ⟨.none,rfl,aB hQ⟩
theorem U'(g3:h.get? a=O (bp vs n)):(h.update a (dO λK=>K.setIfInBounds j v)).get? a=O (bp (vs.set j v) n):=by rw[gQ _ g3 (rfl)];simp[bp,dO]
theorem abI{i:aG}(E:ck G x=O (1,bR K))(hf:iS K=N)(he:V H U A L J G e av ab)(hfa:flat av=N)(hi:V H U A L J G i (a6 (aj j)) ab)(hj:jG j K.length=N)(hl:dY K.length 1000000=N)(hs:fD e (O (dk (aq (NM x) p) i p')) pos.line J=pure ab):
 S1 H U A L J (eF [dk (aq (NM x) p) i p'] e pos) G (jh G x 1 (bR (K.set j av))) ai:=λD s W r=>by
 show JU ((he r.er).tN λu aD F1 e1 V1 _=>(zP (r.grow e1.ext).er E).Z6 λv F2 cA V2=>?_) hs;show(hi (r.grow e1.ext).er).wp λiv dg ou=>iL ou λe3 F3 V3 _=>dG V3.toInt λt dX=>dX▸iO V2 λa vs n F' qG ht a3 a4 _=>?_;subst qG;have g3:=e3.ext.keep a _ ht a3;have l1:=bA.length a4;have hl:=dN hl;have hj:j<K.length:=dN hj;have hF1:=cW.1 _ _ _ hfa V1;subst hF1;have X':=e1.trans e3;show rd g3 fH au jM<|eZ ((r.grow X'.ext).upd E hf (cA.ext e3.ext (r.je _ r.loc).2.1) (j5 ..) (U' g3)
  (bA.set j hf (a4.ext e3.ext) (V1.ext e3.ext))) λr2 m2=>tP (X'.mm m2) r2
theorem abJ{i:aG}(E:ck G x=O (1,bR K))(hf:iS K=N)(hi:V H U A L J G i (a6 (aj j)) ab)(hj:K[j]? =O av)(hl:dY K.length 1000000=N)(qI:y≠x)(dH:cI i=ab)(lz:(apos.endLine==cpos.line)=N)(hsy:bS G y=N)(hy:Hx L y):
 S1 H U A L J (eF [aq (NM y) p'] (bx (gZ (aq (NM x) p) (aC "pop") apos) [i] [] cpos) pos) G (jh (jh G x 1 (bR (K.eraseIdx j))) y 0 av) ai:=λD s W r=>by
 show xD ?_ Z;show TJ Jh (by rw[l6 dH];rfl) lz VA PySem.F.slot_list_pop PySem.F.type_list_pop<|(zP r.er E).Z6 λv F cA aP=>iO aP λa vs n F' dX ht a3 a4 _=>?_;subst dX;show gT (QY.typeIs a3) (λb hb'=>by obtain rfl:=j6 hb';show⟨_,a3,rfl⟩) ?_;rw[l6 dH];show P.pop_at_list<|(hi r.er).tN λu aQ F2 e2 V2 _=>dG V2.toInt λt qG=>have g3:=e2.ext.keep a _ ht a3;have l1:=bA.length a4;have hl:=dN hl;have hjl:=(dR.mp hj).1;ju (bA.get (a4.ext e2.ext) hj) λyv Fy y1 y2 _=>(qG▸?_);have hjv:j<vs.length:=by lia
 show⟨vs.toArray,n,aj j,t,j,yv,by have:fg=16777216:=rfl;simp;lia,rfl,g3,fitsIndex_of fH au,Cy hjv,by simpa using y1,?_⟩;have up:(aQ.heap.update a (dO λK=>K.eraseIdxIfInBounds j)).get? a=O (bp (vs.eraseIdx j) (n+1)):=by
  rw[gQ _ g3 (rfl)];have hsz:((vs.eraseIdx j).length==vs.length)=ab:=by rw[Ug];simp[hjv];lia
  simp[bp,dO,hsz]
 show eZ ((r.grow e2.ext).upd E hf (cA.ext e2.ext (r.je _ r.loc).2.1) (j5 ..) up (bA.eraseIdx j hf (a4.ext e2.ext))) λr2 m2=>?_;have hfa:flat av=N:=by
  have:∀(K:List AV) (j:Nat),iS K=N->K[j]? =O av->flat av=N:=by
   intro K;induction K with
   |nil=>intro j _ h;ext
   |cons x K ih=>
    intro j hf h;have hf:=fP.mp hf;cases j with
    |zero=>have h:=aW h;show h▸?_;show hf.1
    |succ j=>show ih j hf.2 (h)
  show this K j hf hj
 have hFy:=cW.1 _ _ _ hfa y2;subst hFy;have ajG:bS (jh G x 1 (bR (K.eraseIdx j))) y=N:=by
  delta bS
  rw[fJ,if_neg qI];show hsy
 have hx1:mC W s {aQ with heap:=aQ.heap.update a (dO λK=>K.eraseIdxIfInBounds j)}:=e2.mm m2;show(j9 r2 hy ajG (y2.mod m2 (λb hb'=>((r.grow e2.ext).je b hb').2.2) av yv [] (λb D=>by ext)) (.flat Z)).Cw λ_ dg r3 m3=>tP (hx1.trans m3 λ_ h=>ak h) r3
theorem Ox:fillsInplaceSlot (ao "list") "add" (rP==rP)=pure ab:=by rfl
theorem Yi:seqSlot? (ao "list") (dunderI "add")=pure (O (bB "list.__iadd__")):=PySem.seqSlot_of VF.lookup (rfl)
theorem DV{l b:ae}{MH:Array aa}{n2:Nat}(hl:s.heap.get? l=O {cls:=ao "list",dict:=ai,data:=bQ items n,slots:=#[]})(D:s.heap.get? b=O {cls:=ao "list",dict:=ai,data:=bQ MH n2,slots:=#[]})(hsz:items.size+MH.size<=1000000)(h:Q (R l) {s with heap:=s.heap.update l (dO λx=>x++MH),toks:=s.toks}):aA (aE prog w) A (Ks rP (R l) (R b)) Q aX s:=by have ha:s.TypeIs (R l) "list" :=cn _ hl Z;show cQ<|ah<|oB ha<|ah<|fM Ox<|ah<|wpAny_binaryOp1_none ha ((cn _ D Z)) noFill_list_add<|ah<|fM Yi<|ah<|mU<|have z:fg=16777216:=rfl;qh VF ha Ft (PySem.F.args_list_iadd_2 _ _) (AutoSeq1.list___iadd___list_list_0 l items n b MH n2 (by simp[Vp];lia) au au) (gT hl D h)
theorem abK(G:iz)(x k:Nat)(av:AV)(k':Nat)(mI:AV):jh (jh G x k av) x k' mI=jh G x k' mI:=by
 induction G with
 |nil=>show(uA [] x k av x k' mI).trans (if_pos Z)
 |cons p r ih=>
  rw[uA,uA];by_cases h:p.1=x
  .rw [if_pos h,if_pos h,uA,if_pos Z]
  .rw [if_neg h,if_neg h,uA,if_neg h,ih]
theorem abL(E:ck G x=O (1,bR K))(hf:iS K=N)(he:V H U A L J G e (bR ys) N)(hg:iS ys=N)(qI:K.length+ys.length<=1000000)(hxl:L.names.lookup (NM x)=O cU):S1 H U A L J (Fb (aq (NM x) p) rP e pos) G (jh G x 1 (bR (K++ys))) ai:=λD s W r=>by
 show Tv<|(Ws r.er E).Z6 λv F cA aP=>(he r.er).wp λu aQ ou=>iL ou λe2 F2 V2 q2=>fR aP λa vs n F' dX ht a3 a4 _=>(fR V2 λb ws m QZ qG _ b3 b4 DU=>?_);subst dX;show qG▸?_;have g3:=e2.ext.keep a _ ht a3;have l1:=bA.length a4;have l2:=bA.length b4;have hF':=cW.2 _ _ _ hf a4;have aeW:=cW.2 _ _ _ hg b4;subst hF' aeW;show DV g3 b3 jM ?_;have up:(aQ.heap.update a (dO λx=>x++ws.toArray)).get? a=O (bp (vs++ws) (if(vs++ws).length==vs.length then n else n+1)):=by rw[gQ _ g3 (rfl)];simp[bp,dO]
 show eZ ((r.grow e2.ext).upd E hf (cA.ext e2.ext (r.je _ r.loc).2.1) (j5 ..) up (bA.append (a4.ext e2.ext) b4)) λr2 m2=>?_;have hx1:mC W s {aQ with heap:=aQ.heap.update a (dO λx=>x++ws.toArray)}:=e2.mm m2;have H':Ak J (aQ.heap.update a (dO λx=>x++ws.toArray)) (NM x) (R a):=by
  have hs:=j5 aQ.heap a (dO λx=>x++ws.toArray);have ID:LS aQ.heap a:=qE _ _ g3;rcases(cA.ext e2.ext (r.je _ r.loc).2.1) with⟨k1,m1,n1,e1⟩|⟨k1,c,e1,e2,o,e3,e4⟩
  .show ak ⟨k1,m1,n1.sameBut hs (λe=>by rw[e]at n1;show ID.MF n1),e1⟩
  .show aw ⟨k1,c,e1,e2,o,(hs.2 c (λe=>by cases e;show ID.mP (cn o e3 e4))).trans e3,e4⟩
 have hlk:ck (jh G x 1 (bR (K++ys))) x=O (1,bR (K++ys)):=by rw[fJ,if_pos Z]
 have hV:∃F,bM (aQ.heap.update a (dO λx=>x++ws.toArray)) (bR (K++ys)) (R a) F:=by show jd r2.ents λval fp q=>?_;obtain⟨c1,c2,_,_⟩:=q x 1 _ hlk;show(H'.uniq c1).symm▸DR _ c2
 show dG hV λFv hV=>((j9 r2 (ak hxl) (by delta bS;rw[hlk];rfl) hV (.again r2 hlk H' hV)).Cw λ_ dg r3 m3=>⟨hx1.trans m3 (λd hd=>ak hd),rfl,W,?_,λd hd=>ak hd⟩);rw[(abK G x 1 _ 1 _)]at r3;show r3
def dW(es:List aG):Bool:=es.all λe=> !cI e
theorem Yj:∀(pos:cB) (J:cJ),dW es=N->(jV pos (jq es J)).any (·.1)=ab:=by
 induction es with
 |nil=>show λ_ _ _=>rfl
 |cons e es iH=>intro pos J h;simp only[dW,ET,qv,ve]at h;rw[dp h.1];change(ab ||(jV pos (jq es J)).any (·.1))=ab;rw[iH pos J (h.2)];rfl
theorem mD(nm ty:String)(B:cx U mg mb)(I:dQ mg mb)(hm:(nm,ao ty)∈BI)(kM:L.names.lookup (aC nm)=O kY)(hd:(aC nm==("__debug__" :aV))=ab)(he:fL H U A L J G (e::es) avs)(dH:dW (e::es)=N)(r:ER H U L J s.heap G)(hq:∀vs aD F,dA H s aD->bA aD.heap avs vs F->T A (call (ao ty) vs) aD Q):
 T A (a7 (bx (aq (aC nm) np) (e::es) [] pos) J) s Q:=by
 have hI:=I (nm,ao ty) hm;show mf<|(eG B r kM hI.1 hI.2 hd).Dm<|A1 ((he s pos r).QW λvs aD F1 e1 V1=>hq vs aD F1 e1 V1) (dp (by simp only[dW,ET,qv,ve]at dH;show dH.1) _ _) (Yj pos J (by simp only[dW,ET,qv]at dH;show dH.2))
theorem vF{P P':Nat->aa->Prop}(x:mW prog w A I fp wr n P St)(hn:n=n')(hp:∀i v,i<n->P i v->P' i v):mW prog w A I fp wr n' P' St:=by subst hn;show⟨x.sub,x.frame,λi s Q aX hi st hq=>x.item i s Q aX hi st λv h' tk p=>hq v h' tk (hp i v hi p),x.done,x.self⟩
def Shd(J:cJ)(h:aO)(G:iz)(b:ae):Prop:=∃x k av v F,ck G x=O (k,av)/\k≠1/\Ak J h (NM x) v/\bM h av v F/\b∈F
theorem Shd.Y'{b:ae}(q:Shd J h G b)(r:FR H U D L J h G W):b∉W:=by show wx q λx k av v F e hk cA aP D=>(jd r.ents λval fp q=>?_);obtain⟨a1,a2,_,a4⟩:=q x k av e;have hv:=cA.uniq a1;subst hv;have hF:=bM.uniq aP a2;subst hF;show a4 hk b D
def Gp(ns:List Int)(i:Nat)(v:aa):Prop:=∃k t,ns[i]? =O k/\v=ag k t
inductive Wu(H:List ae)(A:b9)(J:cJ)(G:iz)(ns:List Int)(s:af):aa->af->Prop
 |mk {aQ:af} (e:dA H s aQ) (I:ae) (fp wr:List ae) (St:Nat->aO->Prop) (W:mW prog w A I fp wr ns.length (Gp ns) St) (st:St 0 aQ.heap) (Gq:∀i h,St i h->∀b∈wr,kK h b)
  (Z':∀b∈wr,s.heap.get? b=ai) (Al:∀b∈fp,b∉bV/\(∃o,aQ.heap.get? b=O o)/\(s.heap.get? b=ai\/Shd J s.heap G b)):Wu H A J G ns s (R I) aQ
def zr(H:List ae)(U:aO)(A:b9)(L:du)(J:cJ)(G:iz)(e:aG)(ns:List Int):Prop:=
 ∀s,ER H U L J s.heap G->T A (a7 e J) s (λx aD=>T A (gr x) aD (Wu H A J G ns s))
theorem n6:∀{vs:List aa} {ns:List Int},fm vs ns->vs.length=ns.length/\∀(i:Nat) v,vs[i]? =O v->∃n t,ns[i]? =O n/\v=ag n t:=by
 intro vs ns IA;induction IA with
 |nil=>show⟨rfl,λi v h=>by ext⟩
 |cons n t r ih=>
  show⟨by simp[ih.1],λi v h=>?_⟩;cases i with
  |zero=>have h:=aW h;subst h;show kH n t Z Z
  |succ i=>show ih.2 i v (h)
theorem By{ns:List Int}(hh:dh A)(B:Tp U)(x:hJ H U s.heap)(e:dA H s aD)(hi:ja K=O ns)(ht:a∉bV)(a3:aD.heap.get? a=O (bp vs n))(a4:bA aD.heap K vs F)(hsh:s.heap.get? a=ai\/Shd J s.heap G a):
 T A (gr (R a)) aD (Wu H A J G ns s):=by
 show uR (bT a3)<|eZ (n6 (intsAre_of a4 hi)) λk1 k2=>⟨?_,aD.heap.objs.size,_,_,_,vF (VX hh _ a (fE (cj a3)) vs.toArray) (by assumption) (λi v _ hv=>k2 i v (by simpa using hv)),⟨?_,?_⟩,λi h st b D=>?_,λb D=>?_,λb D=>?_⟩
 .show e.trans ⟨.push _ _,rfl,rfl,eW _⟩
 .show kF _ (bJ _ Z) Z Z
 .show bT (a0 _ a3)
 .apply jQ D;show eZ st λi1 _=>gI i1 λo ho _ hd=>cn o ho (ak ⟨_,hd,λx t e=>by simp at e⟩)
 .apply jQ D;show e.ext.new (bD _)
 .apply r8 D
  .show gT (fo (jw B (x.trans e.ext))) ⟨_,bJ _ Z⟩ (ak (e.ext.new (bD _)))
  .show gT ht ⟨_,a0 _ a3⟩ hsh
theorem zr.new{ns:List Int}(hh:dh A)(B:Tp U)(he:V H U A L J G e (bR K) N)(hi:ja K=O ns):zr H U A L J G e ns:=λs r=>by show(he r).mono λv aD ou=>og λgG kG=>iL ou λe1 F aP q=>kG ?_;clear kG gG;apply fU aP;intro a vs n F' ht a3 a4 C';subst C';show By hh B r.base e1 hi ht a3 a4 (ak ((q Z).1 a au))
theorem abM{ns:List Int}(hh:dh A)(B:Tp U)(E:ck G x=O (k,bR K))(hk:fF k 1=ab)(hi:ja K=O ns):
 zr H U A L J G (aq (NM x) pos) ns:=λs r=>by
 show(zP r E).mono λv aD ou=>og λgG kG=>iL ou λe1 F cA aP=>kG ?_;clear kG gG;show e1.symm▸?_;apply fU aP;intro a vs n F' ht a3 a4 C';subst C';show By hh B r.base (.refl _) hi ht a3 a4 (aw (agP x k _ _ _ E (λe=>by have hk:=e▸hk;ext) cA aP au))
noncomputable def Dq(a c:Int)(n:Nat):List Int:=(aJ n).map λi:Nat=>a+(i:Int) * c
theorem o9{a c:Int}{m:Int}:(Dq a c n)[i]? =O m↔i<n/\m=a+(i:Int) * c:=by
 show cZ.symm▸?_;by_cases h:i<n
 .rw [oM h];simp[h];show⟨λe=>e.symm,λe=>e.symm⟩
 .simp [h]
theorem MI{a c:Int}:(Dq a c n).length=n:=by simp[Dq]
theorem qB{a b c:Int}{t v:ba}(hh:dh A)(B:Tp U)(x:hJ H U s.heap)(e:dA H s aD)(hr:qi aD.heap rr a b c t u v)(hs:vg a b c=N)(hn:lQ a b c=(n:Int)):T A (gr (R rr)) aD (Wu H A J G (Dq a c n) s):=by
 show Ao hr hs<|hn.symm▸⟨?_,aD.heap.objs.size,_,_,_,vF (Mo hh _ a c n) MI.symm (λi v hi qQ=>dG qQ λt hv=>kH _ t (o9.mpr ⟨hi,rfl⟩) hv),?_,λi h st b D=>?_,λb D=>?_,λb D=>?_⟩
 .show e.trans ⟨.push _ _,rfl,rfl,eW _⟩
 .have e1:(a+((0:Nat):Int) * c)=a:=by simp
  have e2:((n:Int) - ((0:Nat):Int))=n:=by rfl
  show e1.symm▸e2.symm▸bJ _ Z
 .apply jQ D;show cn _ st (ak ⟨_,rfl,λx t e=>by simp[dD]at e⟩)
 .apply jQ D;show e.ext.new (bD _)
 .apply jQ D;show gT (fo (jw B (x.trans e.ext))) ⟨_,bJ _ Z⟩ (ak (e.ext.new (bD _)))
theorem zQ{k:Int}(hh:dh A)(B:cx U mg mb)(I:dQ mg mb)(kM:Gi L "range")(he:V H U A L J G e (a6 k) ab)(dH:cI e=ab)(hk:k<2 ^ 62)(hk2: -(2 ^ 62)<=k):zr H U A L J G (bx (aq (aC "range") np) [e] [] pos) (Dq 0 1 k.toNat):=λs r=>by show mD ("range") ("range") B I aL kM (rfl) (fL.cons he fL.nil dH) (by simp[dW,dH]) r λvs aD F e1 V1=>?_;apply nO V1;show λt=>sJ (qB hh B.top r.base (e1.trans ⟨.push _ _,rfl,rfl,eW _⟩) (vo ..) (uZ fH fH hk2 hk) ?_);rw[uV];split<;>lia
theorem zR{k m:Int}(hh:dh A)(B:cx U mg mb)(I:dQ mg mb)(kM:Gi L "range")(he:V H U A L J G e (a6 k) ab)(dH:cI e=ab)(Ji:V H U A L J G e' (a6 m) ab)(IE:cI e'=ab)(hk:k<2 ^ 62)(hk2: -(2 ^ 62)<=k)(hm:m<2 ^ 62)(hm2: -(2 ^ 62)<=m):
 zr H U A L J G (bx (aq (aC "range") np) [e,e'] [] pos) (Dq k 1 (m - k).toNat):=λs r=>by
 show mD ("range") ("range") B I aL kM (rfl) (fL.cons he (fL.cons Ji fL.nil IE) dH) (by simp[dW,dH,IE]) r λvs aD F e1 V1=>?_;apply nN V1;intro v v3 G1 G3 V2 V4;apply bM.zL V2;intro t;show dG V4.toInt λt' dX=>dX▸call_range_2 (qB hh B.top r.base (e1.trans ⟨.push _ _,rfl,rfl,eW _⟩) (vo ..) (uZ hk2 hk hm2 hm) ?_);rw[uV];split<;>grind
theorem Gu{e'':aG}{k m c:Int}(hh:dh A)(B:cx U mg mb)(I:dQ mg mb)(kM:Gi L "range")(he:V H U A L J G e (a6 k) ab)(dH:cI e=ab)(Ji:V H U A L J G e' (a6 m) ab)(IE:cI e'=ab)(ajH:V H U A L J G e'' (a6 c) ab)(aeg:cI e''=ab)(hc:c≠0)(hp:Fl (m - k) c=ab)(hs:vg k m c=N)(hn:lQ k m c=(n:Int)):
 zr H U A L J G (bx (aq (aC "range") np) [e,e',e''] [] pos) (Dq k c n):=λs r=>by
 show mD ("range") ("range") B I aL kM (rfl) (fL.cons he (fL.cons Ji (fL.cons ajH fL.nil aeg) IE) dH) (by simp[dW,dH,IE,aeg]) r λvs aD F e1 V1=>?_;apply Bq V1;intro v v3 v5 G1 G3 G5 V2 V4 V6;apply bM.zL V2;show λt=>og λgG kG=>dG V4.toInt λt' dX=>dG V6.toInt λt'' qG=>kG ?_;clear kG gG;subst dX;subst qG;show call_range_3 hc ?_ (ak hp);show qB hh B.top r.base (e1.trans ⟨.push _ _,rfl,rfl,eW _⟩) (vo ..) hs hn
def Yk:iz->iz->Prop
 | [],_=>True
 |(x,k,av)::r,G=>ck G x=O (k,av)/\Yk r G
def Q7:iz->iz->Prop
 | [],_=>True
 |(x,k,av)::r,G=>(match fF k 2 with|true=>ck G x=O (k,av)|false=>True)/\Q7 r G
structure km(G' G:iz):Prop where
 all:∀x k av,ck G' x=O (k,av)->ck G x=O (k,av)
 ajI:∀x av,ck G x=O (2,av)->ck G' x=O (2,av)
theorem Bz(e:ck G x=O (k,av)):(x,k,av)∈G:=by
 induction G with
 |nil=>ext
 |cons p r ih=>
  obtain⟨y,k',mI⟩:=p;unfold ck at e;rw[Mn]at e;by_cases h:y=x
  .subst h;rw[decide_eq_true Z]at e;show aW e▸?_;ext
  .rw [decide_eq_false h]at e;show bW _ (ih e)
theorem Yk.mem(h:Yk G' G)(hm:(x,k,av)∈G'):ck G x=O (k,av):=by
 induction G' with
 |nil=>ext
 |cons p r ih=>
  obtain⟨y,k',mI⟩:=p;rcases bq.mp hm with e|e
  .cases e;show h.1
  .show ih h.2 e
theorem Q7.mem(h:Q7 G G')(hm:(x,2,av)∈G):ck G' x=O (2,av):=by
 induction G with
 |nil=>ext
 |cons p r ih=>
  obtain⟨y,k',mI⟩:=p;rcases bq.mp hm with e|e
  .cases e;show h.1
  .show ih h.2 e
theorem km.of(h:Yk G' G)(h2:Q7 G G'):km G' G:=⟨λ_ _ _ e=>h.mem (Bz e),λ_ _ e=>h2.mem (Bz e)⟩
theorem Yk.rf:∀{G:iz},(G'.map λp=>ck G p.1)=G'.map (λp=>O p.2)->Yk G' G:=by
 induction G' with
 |nil=>intro _ _;show trivial
 |cons _ _ iH=>intro _ h;show⟨(mx h).1,iH (mx h).2⟩
theorem Q7.rf:∀{G G':iz},(G.map λp=>bif fF p.2.1 2 then ck G' p.1 else O p.2)=G.map (λp=>O p.2)->Q7 G G'
 | [],_,_=>trivial
 |(x,k,av)::_,_,h=>⟨by have h1:=(mx h).1;revert h1;dsimp only;cases fF k 2<;>intro h1<;>first|show trivial|show h1,Q7.rf (mx h).2⟩
theorem km.rf(h:(G'.map λp=>ck G p.1)=G'.map (λp=>O p.2))(h2:(G.map λp=>bif fF p.2.1 2 then ck G' p.1 else O p.2)=G.map (λp=>O p.2)):km G' G:=.of (.rf h) (.rf h2)
theorem km.refl(G:iz):km G G:=⟨λ_ _ _ e=>e,λ_ _ e=>e⟩
theorem FR.less(r:FR H U D L J h G W)(x:km G' G):FR H U D L J h G' W where
 b1:=r.b1
 ext:=r.ext
 scope:=r.scope
 kind:=r.kind
 glob:=r.glob
 bi:=r.bi
 loc:=r.loc
 ns:=r.ns
 cell:=λy hy=>lZ (r.cell y hy) λc a b d e=>wy c a b d (e.imp (λqQ=>dG qQ λav e=>⟨av,x.ajI y av e⟩) id)
 pV:=r.pV
 je:=r.je
 ents:=jd r.ents λval fp q=>qE val fp (λy k av e=>have aX:=q y k av (x.all y k av e);⟨aX.has,aX.rel,λhk=>⟨(aX.own hk).nd,λz hz=>have gH:=(aX.own hk).el z hz;⟨gH.mem,gH.ls,λy' k' mI e'=>gH.ap y' k' mI (x.all _ _ _ e')⟩⟩,aX.shd⟩)
theorem SS.less{ret:Option AV}(x:SS H U A L J ss G0 G1 ret)(h:km G0 G):SS H U A L J ss G G1 ret:=λD s W r=>x (r.less h)
theorem SS.out{ret:Option AV}(x:SS H U A L J ss G G0 ret)(h:km G1 G0):SS H U A L J ss G G1 ret:=λD s W r=>
 (x r).mono λf Y qQ=>eZ qQ λm q=>⟨m,by
  cases ret with
  |none=>show iL q λa W' r' b=>⟨a,W',r'.less h,b⟩
  |some _=>show q⟩
theorem SS.share{ret:Option AV}(y:Nat)(x:SS H U A L J ss (Lake.share G y) G1 ret):SS H U A L J ss G G1 ret:=λD s W r=>gI (r.share y) λW' r' hw _=>(x r').mono λf Y q=>q.behind (.refl W s) λd hd=>ak (hw d hd)
theorem kK.Wv{c:ae}{v:Option aa}(q:kK h c)(x:h.IsCell c v):False:=by show bg q λo e d=>(bg x λo' e' d'=>?_);replace e':=e▸e';obtain rfl:=aW e';rcases d with⟨_,d,_⟩|⟨_,_,d⟩|⟨_,_,d⟩|d<;>(have d:=d'.symm.trans d;ext)
theorem kK.Wq{b:ae}(q:kK h b)(aP:bM h av v F)(D:b∈F):False:=by show iL (aP.kinds b D) λ_ o e1 e2=>(bg q λo' e' d'=>?_);replace e':=e1▸e';obtain rfl:=aW e';rcases e2 with⟨_,_,_,e2⟩|⟨_,e2⟩<;>rcases d' with⟨_,d',_⟩|⟨_,_,d'⟩|⟨_,_,d'⟩|d'<;>(have e2:=d'.symm.trans e2;ext)
theorem FR.off(r:FR H U D L J h G W)(keep:∀b o,b∉wr->h.get? b=O o->h'.get? b=O o)(hw:∀b∈wr,kK h b/\b∉bV/\D.get? b=ai/\b∉W):FR H U D L J h' G W:=by
 have new:∀{b o},D.get? b=O o->b∉wr:=λ{b o} e q=>by have e:=((hw b q).2.2.1)▸e;ext
 show r.abF r.b1 ⟨λb o ht e=>keep b o (new e) (r.ext.keep b o ht e),λb ht ps e=>dG (r.ext.tab b ht ps e) λm e'=>⟨m,keep b _ (λq=>(hw b q).2.1 ht) e'⟩,λb o e=>dG (r.ext.there b o e) λo' e'=>⟨o',keep b o' (new e) e'⟩,
  λb o ht hq e=>keep b o (λq=>(hw b q).2.1 ht) (r.ext.quiet b o ht hq e)⟩
  (λb hb' o e=>keep b o (λq=>(hw b q).2.2.2 hb') e) (λc v ht x=>Bh (λo q=>⟨keep c o (λz=>(hw c z).1.Wv x) q.1,q.2⟩) x)
  λy k av v F _ aP=>aP.off (λb o hb' _ e=>keep b o hb' e) (λb hb'=>aw (hw b hb').1) _ _ _ λb hb' hq=>(hw b hq).1.Wq aP hb'
theorem mC.off(m:mC W s Y)(keep:∀b o,b∉wr->Y.heap.get? b=O o->h'.get? b=O o)(hw:∀b∈wr,s.heap.get? b=ai/\b∉bV):mC W s {Y with heap:=h',toks:=tk}:=by
 have new:∀{b o},s.heap.get? b=O o->b∉wr:=λ{b o} e q=>by have e:=((hw b q).1)▸e;ext
 show⟨⟨λb o D ht e=>keep b o (new e) (m.mod.keep b o D ht e),λb ht ps e=>dG (m.mod.tab b ht ps e) λx e'=>⟨x,keep b _ (λq=>(hw b q).2 ht) e'⟩,λb o e=>dG (m.mod.there b o e) λo' e'=>⟨o',keep b o' (new e) e'⟩⟩,m.os,m.drawn,m.gens⟩
def Stores(A:b9)(J:cJ):LN->List Int->(af->Prop)->(aa->af->Prop)->af->Prop
 | [],[],Q,_,s=>Q s
 |x::K,k::ks,Q,aX,s=>∀t,aA (aE prog w) A (Au J (NM x) (ag k t)) (λ_ Y=>Stores A J K ks Q aX Y) aX s
 |_,_,_,_,_=>False
def Off(wr:List ae)(s Y:af):Prop:=∃h' tk,Y={s with heap:=h',toks:=tk}/\∀b o,b∉wr->s.heap.get? b=O o->h'.get? b=O o
theorem Off.keep(x:Off wr s Y){b:ae}(D:b∉wr)(e:s.heap.get? b=O o):Y.heap.get? b=O o:=by show eS x λh' tk dX k=>?_;subst dX;show k b o D e
theorem dA.off(x:dA H s aD)(y:Off wr aD aQ)(hw:∀b∈wr,s.heap.get? b=ai/\b∉bV):dA H s aQ:=by show eS y λh' tk dX k=>dX▸⟨⟨λb o D e=>k b o (λq=>by have e:=((hw b q).1)▸e;ext) (x.ext.keep b o D e),λb D ps e=>dG (x.ext.tab b D ps e) λm e'=>⟨m,k b _ (λq=>(hw b q).2 D) e'⟩,λb o e=>?_,λb o D hq e=>k b o (λq=>(hw b q).2 D) (x.ext.quiet b o D hq e)⟩,x.os,x.drawn,x.gens⟩;show dG (x.ext.there b o e) λo' e'=>⟨o',k b o' (λq=>by have e:=((hw b q).1)▸e;ext) e'⟩
theorem dA.but(x:dA H s Y)(k:Y.heap.SameBut aS nJ.heap)(hC:s.heap.get? aS=ai)(hT:aS∉bV)(o:nJ.os=Y.os)(d:nJ.drawn=Y.drawn)(g:nJ.gens=Y.gens):dA H s nJ where
 ext:=⟨λb o hb' e=>k.extBut b o (λq=>by have e:=hC▸q▸e;ext) (x.ext.keep b o hb' e),λb hb' ps e=>dG (x.ext.tab b hb' ps e) λmo e'=>⟨mo,k.extBut b _ (λq=>hT (q▸hb')) e'⟩,
  λb o e=>dG (x.ext.there b o e) λo' e'=>⟨o',k.extBut b o' (λq=>by have e:=hC▸q▸e;ext) e'⟩,λb o hb' hq e=>k.extBut b o (λq=>hT (q▸hb')) (x.ext.quiet b o hb' hq e)⟩
 os:=o.trans x.os
 drawn:=d.trans x.drawn
 gens:=g.trans x.gens
theorem FR.Ww{b:ae}(r:FR H U D L J h G W)(e:h.get? b=ai):b∉W:=λhw=>oX (r.je b hw) λ_ _ o e' _=>by have e':=e▸e';ext
theorem FR.aeX{b:ae}(r:FR H U D L J h G W)(x:hJ H h h')(e:h'.get? b=O (cV vs n)):b∉W:=λhw=>by
 show eZ (r.je b hw).2 λht m=>(bg m λo e' hk=>?_);obtain rfl:=aW ((x.keep b o ht e')▸e);rcases hk with⟨h1,_⟩|⟨_,_,h1⟩|⟨_,h1⟩
 .injection h1 with h3
  show nomatch h3
 .ext
 .ext
structure γ(A:b9)(ct:aG)(K:LN)(items:List (List Int))(I:ae)(fp wr:List ae)(St:Nat->aO->Prop):Prop where
 sub:∀b∈wr,b∈fp
 frame:∀i h h',St i h->(∀b∈fp,∀o,h.get? b=O o->h'.get? b=O o)->St i h'
 item:∀i (s:af) J (Q:af->Prop) (aN:Option aa->af->Prop) (aX:aa->af->Prop),i<items.length->St i s.heap->
  (∀Y ks,items[i]? =O ks->St (i+1) Y.heap->Off wr s Y->Stores A J K ks Q aX Y)->
  (∀v aD,aA (aE prog w) A (jC ct (R I) v) (λ_ uD=>aA (aE prog w) A (jE ct J v) (λ_ aQ=>Q aQ) aX uD) aX aD->aN (O v) aD)->
  aA (aE prog w) A (gY (R I)) aN aX s
 done:∀(s:af) (Q:Option aa->af->Prop) (aX:aa->af->Prop),St items.length s.heap->(∀Y,Off wr s Y->Q ai Y)->aA (aE prog w) A (gY (R I)) Q aX s
 self:∀i (s:af) (Q:aa->af->Prop) (aX:aa->af->Prop),St i s.heap->Q (R I) s->aA (aE prog w) A (gr (R I)) Q aX s
theorem Q8{ns:List Int}(W:mW prog w A I fp wr ns.length (Gp ns) St):
 γ A (aq (NM x) px) [x] (ns.map λn=>[n]) I fp wr St where
 sub:=W.sub
 frame:=W.frame
 item:=λi s J Q aN aX hi st hs hR=>by show W.item i s aN aX (by simpa using hi) st λv h' tk qQ Oa keep=>eS qQ λn t hn hv=>?_;subst hv;show hR _ _<|aB<|jB<|hs {s with heap:=h',toks:=tk} [n] (by rw[cZ,hn];rfl) Oa (kH h' tk Z keep) t
 done:=λs Q aX st hq=>W.done s Q aX (by simpa using st) λh' tk keep=>hq _ (kH h' tk Z keep)
 self:=W.self
theorem Dr{ps:List (Int×Int)}(hh:dh A)(W:WalksU prog w A I fp wr ps.length (λi MJ=>∃a b t u,ps[i]? =O (a,b)/\MJ=#[ag a t,ag b u]) St Mid):
 γ A (fO [aq (NM x) px,aq (NM y) py] k0 pt) [x,y] (ps.map λp=>[p.1,p.2]) I fp wr St where
 sub:=W.sub
 frame:=W.frame
 item:=λi s J Q aN aX hi st hs hR=>by show W.item i s aN aX (by simpa using hi) st λT MJ h' tk q hT hm keep=>dG q λa q=>fc q λb t u hp hv=>?_;subst hv;show hR _ _<|W.go _ _ _ i T {s with heap:=h',toks:=tk} _ aX hm λh'' ajJ aeh=>J1 hh (hT.at λo e=>aeh T o (W.apart i T h' hm) e) Z Z λh3 he=>have k3:=λc o e=>he c o (fE (cj e)) e;have off:Off wr s {s with heap:=h3,toks:=tk}:=kH h3 tk Z (λc o hc e=>k3 c o (aeh c o hc (keep c o hc e)));ah (cQ (jB (ir ((hs {s with heap:=h3,toks:=tk} [a,b] (by rw[cZ,hp];rfl) (W.frame _ _ _ ajJ λc _ o e=>k3 c o e) off) t) (λ_ s4 q4=>?_) λ_ _ e=>e)));show ah (cQ (jB (ir (q4 u) (λ_ s5 q5=>?_) λ_ _ e=>e)));show aB q5
 done:=λs Q aX st hq=>W.done s Q aX (by simpa using st) λh' tk keep=>hq _ (kH h' tk Z keep)
 self:=W.self
inductive δ(H:List ae)(U:aO)(A:b9)(L:du)(J:cJ)(G:iz)(ct:aG)(K:LN)(items:List (List Int))(lp:Bool)(s:af):aa->af->Prop
 |mk {aQ:af} (e:dA H s aQ) (I:ae) (fp wr:List ae) (St:Nat->aO->Prop) (W:γ A ct K items I fp wr St) (st:St 0 aQ.heap) (Gq:lp=N->∀i h,St i h->∀b∈wr,kK h b)
  (Z':∀b∈wr,s.heap.get? b=ai) (Al:∀b∈fp,b∉bV/\∃o,aQ.heap.get? b=O o) (ap:lp=N->∀b∈fp,∀D W,FR H U D L J s.heap G W->b∉W):δ H U A L J G ct K items lp s (R I) aQ
def Yl(H:List ae)(U:aO)(A:b9)(L:du)(J:cJ)(G:iz)(e:aG)(ct:aG)(K:LN)(items:List (List Int))(lp:Bool:=ab):Prop:=
 ∀s,ER H U L J s.heap G->T A (a7 e J) s (λx aD=>T A (gr x) aD (δ H U A L J G ct K items lp s))
theorem zr.itc{ns:List Int}(q:zr H U A L J G e ns):Yl H U A L J G e (aq (NM x) px) [x] (ns.map λn=>[n]) lp:=λs r=>
 (q s r).mono λv aD q=>q.mono λit aQ q=>by obtain⟨e1,I,fp,wr,St,Wk,st,Gq,Z',Al⟩:=q;show⟨e1,I,fp,wr,St,Q8 Wk,st,λ_=>Gq,Z',λb D=>⟨(Al b D).1,(Al b D).2.1⟩,λ_ b D _ _ r=>(Al b D).2.2.elim r.Ww λq=>q.Y' r⟩
noncomputable def qT(p:Int×Int):AV:=fI [a6 p.1,a6 p.2]
theorem Ym{ps:List (Int×Int)}:∀{vs:List aa} {F:List ae},bA h (ps.map qT) vs F->vs.length=ps.length/\
 ∃(Ts:Nat->ae) (MJ:Nat->Array aa),∀j,j<vs.length->vs[j]? =O (R (Ts j))/\Ts j∉bV/\h.IsTuple (Ts j) (MJ j)/\∃a b t u,ps[j]? =O (a,b)/\MJ j=#[ag a t,ag b u]:=by
 induction ps with
 |nil=>intro vs F r;show eZ r λdX _=>?_;clear r;subst dX;show⟨rfl,λ_=>0,λ_=>#[],λj hj=>absurd hj (rH _)⟩
 |cons p ps iH=>
  intro vs F r;show og λgG kG=>(gv r λv tM F1 F2 qG e2 e3 _=>?_);obtain⟨l,Ts,MJ,q⟩:=iH e3;show kG ?_;clear kG gG;show qG▸gJ e2 λa ws n DU ht e4 e5=>DU▸kJ e5 λw1 ws1 _ _ N8 e6 e7 _=>?_;subst N8;show kJ e7 λw2 ws2 _ _ ZP e8 e9 _=>?_;subst ZP;show eZ e9 λeQ6 _=>dG e6.toInt λt eQ7=>dG e8.toInt λu eQ8=>?_;subst eQ6;subst eQ7;subst eQ8;show⟨by simp[l],λj=>match j with | 0=>a|j+1=>Ts j,λj=>match j with | 0=>#[ag p.1 t,ag p.2 u]|j+1=>MJ j,λj hj=>?_⟩;cases j with
  |zero=>show⟨rfl,ht,⟨_,e4,rfl,n,rfl⟩,p.1,p.2,t,u,rfl,rfl⟩
  |succ j=>show iK (q j (by simpa using hj)) λa1 a2 a3 a4=>rR a1 a2 a3 a4
theorem Ds{P P':Nat->Array aa->Prop}(x:WalksU prog w A I fp wr n P St Mid)(hn:n=n')(hp:∀i v,i<n->P i v->P' i v):WalksU prog w A I fp wr n' P' St Mid:=by subst hn;show⟨x.sub,x.frame,λi s Q aX hi st hq=>x.item i s Q aX hi st λT v h' tk p=>hq T v h' tk (hp i v hi p),x.go,x.apart,x.done,x.self⟩
theorem Jj{ps:List (Int×Int)}(hh:dh A)(B:Tp U)(he:V H U A L J G e (bR K) fr)(hi:K=ps.map qT)(hlp:lp=N->fr=N):
 Yl H U A L J G e (fO [aq (NM x) px,aq (NM y) py] k0 pt) [x,y] (ps.map λp=>[p.1,p.2]) lp:=λs r=>by
 show(he r).tN λv aD F e1 aP q=>?_;apply fU aP;intro a vs n F' ht a3 a4 C';subst C';subst hi;obtain⟨l,Ts,MJ,q2⟩:=Ym a4;show uR (bT a3) ?_;have hT:=λj hj=>by show og λgG kG=>iK (q2 j hj) λ_ _ i1 _=>bg i1 λo ho _=>kG ?_;clear kG gG;show cj ho
 have all:∀b∈aD.heap.objs.size::a::(aJ vs.toArray.size).map Ts,(b∉bV/\∃o,(aD.heap.push {cls:=ao "list_iterator",data:=bH #[R a,ag 0 0]}).get? b=O o)/\(fr=N->s.heap.get? b=ai\/∃vs n,(aD.heap.push {cls:=ao "list_iterator",data:=bH #[R a,ag 0 0]}).get? b=O (cV vs n)):=λb D=>by
  show bc (bq.mp D) (λa1=>a1▸?_) λD=>?_
  .show ⟨⟨fo (jw B (r.base.trans e1.ext)),⟨_,bJ _ Z⟩⟩,λ_=>ak (e1.ext.new (bD _))⟩
  show bc (bq.mp D) (λa1=>a1.symm▸?_) λD=>?_
  .show ⟨⟨ht,⟨_,a0 _ a3⟩⟩,λhf=>ak ((q hf).1 _ au)⟩
  .show bg (bG.mp D) λj hj dX=>dX▸have hj:j<vs.length:=dm.mp hj;iK (q2 j hj) λQ5 p1 p2 _=>?_;have dM:j<ps.length:=by lia
   show ju (bA.get a4 (by rw[cZ,dF dM];rfl)) λu F3 g1 g2 _=>?_;obtain rfl:=aW (Q5.symm.trans g1);show gJ g2 λa' ws n' g3 _ g4 _=>?_;obtain rfl:=j6 g3;show⟨⟨p1,⟨_,a0 _ g4⟩⟩,λ_=>aw (qE ws n' (a0 _ g4))⟩
 show⟨?_,aD.heap.objs.size,_,_,_,Dr hh (Ds (WalksU.listOfTuples hh aD.heap.objs.size a (fE (cj a3)) vs.toArray Ts MJ (λj hj=>by simpa using (q2 j (hj)).1) (λj hj=>fE (hT j (hj))))
  (by assumption) (λi v hi hv=>?_)),(gT ?_ ?_ ?_),λ_ i h st b D=>?_,λb D=>?_,λb D=>(all b D).1,λl b D hb' W r=>((all b D).2 (hlp l)).elim r.Ww λqQ=>jd qQ λvs n e=>r.aeX (e1.ext.trans (.push _ _)) e⟩
 .show e1.trans ⟨.push _ _,rfl,rfl,eW _⟩
 .subst hv;show(q2 i (hi)).2.2.2
 .show kF _ (bJ _ Z) Z Z
 .show bT (a0 _ a3)
 .show λk hk=>(q2 k (hk)).2.2.1.at λo e=>a0 _ e
 .apply jQ D;show eZ st λi1 _=>gI i1 λo ho _ hd=>cn o ho (ak ⟨_,hd,λx t e=>by simp at e⟩)
 .apply jQ D;show e1.ext.new (bD _)
theorem Oy{ps:List (Int×Int)}(hh:dh A)(B:Tp U)(he:V H U A L J G e (bR K) ab)(hi:K=ps.map qT):
 Yl H U A L J G e (fO [aq (NM x) px,aq (NM y) py] k0 pt) [x,y] (ps.map λp=>[p.1,p.2]):=Jj hh B he hi λh=>Iv h
theorem Yl.zip{ns ms:List Int}(hh:dh A)(B:cx U mg mb)(I:dQ mg mb)(kM:Gi L "zip")(he:V H U A L J G e (bR K) ab)(dH:cI e=ab)(Ji:V H U A L J G e' (bR ys) ab)(IE:cI e'=ab)(hi:ja K=O ns)(hi':ja ys=O ms):
 Yl H U A L J G (bx (aq (aC "zip") np) [e,e'] [] pos) (fO [aq (NM x) px,aq (NM y) py] k0 pt) [x,y] ((ns.zip ms).map λp=>[p.1,p.2]):=λs r=>by
 show mD ("zip") ("zip") B I aL kM (rfl) (fL.cons he (fL.cons Ji fL.nil IE) dH) (by simp[dW,dH,IE]) r λvs aD F e1 V1=>?_;apply nN V1;intro v v3 G1 G3 V2 V4;apply fU V2;intro a us n F' ht a3 a4 eF4;apply fU V4;intro b ws m QZ ht' b3 b4 eF5;show eZ (n6 (intsAre_of a4 hi)) λk1 k2=>eZ (n6 (intsAre_of b4 hi')) λl1 l2=>call_zip_2 (bT a3) (bT b3) λh' z1 z2 z3 z4 z5 z6 z7=>have la: @LT.lt Nat instLTNat a aD.heap.objs.size:=cj a3;have lb: @LT.lt Nat instLTNat b aD.heap.objs.size:=cj b3;J6 z1 ?_;have nQ:=λc hc=>e1.ext.new (by
  cases q:aD.heap.get? c with
  |none=>rfl
  |some o=>show absurd (cj q) (j0.mpr hc))
 have Yn:=jw B.top (r.base.trans e1.ext);show⟨?_,_,_,_,_,Dr hh (Ds (WalksT.zip2 hh _ _ _ _ _ a b (by constructor<;>(show(?_:¬((_:Nat)=(_:Nat))))<;>lia) us.toArray ws.toArray).toU (by simp[k1,l1]) (λi v hi hv=>?_)),⟨z1,z2,⟨_,_,z3⟩,z4,z5,bT (z7 _ _ a3),bT (z7 _ _ b3)⟩,(λh=>nomatch h),λc hc=>?_,λc hc=>?_,(λh=>nomatch h)⟩
 .show e1.trans ⟨.of_keep z7,rfl,rfl,eW _⟩
 .show ju hv λp q h1 h2 h3=>eS (k2 i p (by simpa using h1)) λn1 t1 g1 dX=>eS (l2 i q (by simpa using h2)) λn2 t2 g2 qG=>?_;subst dX;subst qG;show aeM n1 n2 t1 t2 ?_ h3;rw[List.zip,EH,g1,g2]
 .simp at hc;rcases hc with rfl|rfl|rfl|rfl<;>show nQ _ fH
 .simp at hc;rcases hc with rfl|rfl|rfl|rfl|rfl|rfl|rfl
  .show ⟨fo (yf Yn),_,z1⟩
  .show ⟨fo (yf Yn),_,z2⟩
  .show ⟨fo (yf Yn),_,z3⟩
  .show ⟨fo au,bg z4 λo e _=>⟨o,e⟩⟩
  .show ⟨fo au,bg z5 λo e _=>⟨o,e⟩⟩
  .show ⟨ht,_,z7 _ _ a3⟩
  .show ⟨ht',_,z7 _ _ b3⟩
noncomputable def pg(ifs:List aG)(J:cJ):aI Bool:=forIn ifs N λc r=>if r=N then do let ok<-isTrue c J (a7 c J);pure (mu ok) else pure (mu r)
theorem zb(I:Nat->af->Prop)(turn:∀n s (P1:Option aa->af->Prop) (P2 bj:af->Prop) (P3:Bool->af->Prop) (P4:aa->af->Prop) (aX:aa->af->Prop),(∀m Y,m<n->I m Y->bj Y)->(∀aD,aN (bX cL) aD->P1 ai aD)->
 (∀v aD,aA (aE prog w) A (jC ct it v) (λ_ uD=>aA (aE prog w) A (jE ct J v) (λ_ aQ=>P2 aQ) aX uD) aX aD->P1 (O v) aD)->(∀aQ,aA (aE prog w) A (pg ifs J) P3 aX aQ->P2 aQ)->
 (∀dg,aA (aE prog w) A (a7 elt J) P4 aX dg->P3 N dg)->(∀dg,bj dg->P3 ab dg)->(∀x fB,aA (aE prog w) A (call (bB "list.append") [jP,x]) (λ_=>bj) aX fB->P4 x fB)->I n s->aA (aE prog w) A (gY it) P1 aX s)(n:Nat)(h:I n s):
 oH (aE prog w) A (hx (cE elt [⟨ct,iter,ifs,0⟩] scope pos) 0 it jP J) aN s:=by
 show codeAny_loop Z I (λn s hI=>?_) n h;show(?_:aA _ A ((u4 (cE elt [⟨ct,iter,ifs,0⟩] scope pos) 0 it jP J).onRaise (λx=>do noteFrame x J;theTreesLotGoes x)) _ _ s);show wpAny_noted ?_;rw[compTurn_list];show ah (jT (ah (ir (turn n s (λr aD=>match r with
  |none=>aN (bX cL) aD
  |some v=>aA (aE prog w) A (jC ct it v) (λ_ uD=>aA (aE prog w) A (jE ct J v) (λ_ aQ=>
   aA (aE prog w) A (forIn ifs N λc r=>if r=N then do let ok<-isTrue c J (a7 c J);pure (mu ok) else pure (mu r)) (λok dg=>
    if ok=N then aA (aE prog w) A (a7 elt J) (λx fB=>
     aA (aE prog w) A (call (bB "list.append") [jP,x]) (λ_ ig=>∃m,m<n/\I m ig) (Az (aE prog w) A J λe Y=>aN (j3 e) Y) fB) (Az (aE prog w) A J λe Y=>aN (j3 e) Y) dg
    else∃m,m<n/\I m dg) (Az (aE prog w) A J λe Y=>aN (j3 e) Y) aQ) (Az (aE prog w) A J λe Y=>aN (j3 e) Y) uD) (Az (aE prog w) A J λe Y=>aN (j3 e) Y) aD) _ (λY=>∃m,m<n/\I m Y) _ _ _
  (λm _ a b=>cn m a b) (λ_ h=>h) (λ_ _ h=>h) (λ_ h=>h) (λ_ h=>(if_pos Z).mpr h) (λ_ h=>(if_neg aL).mpr h) (λ_ _ h=>h) hI) (λr aD U=>?_) λ_ _ h'=>h')))
 cases r with
 |none=>show aB U
 |some v=>
  show ah (ir U (λ_ uD ε=>?_) λ_ _ h'=>h');show ah (ir ε (λ_ aQ ko=>ah (ir ko (λok dg uk=>?_) λ_ _ h'=>h')) λ_ _ h'=>h');cases ok with
  |false=>show aB ⟨rfl,uk⟩
  |true=>show ah (ah (ir uk (λx fB Gv=>ah (ir Gv (λ_ ig zS=>aB (aB ⟨rfl,zS⟩)) λ_ _ h'=>h')) λ_ _ h'=>h'))
theorem pj{vn:cJ}{names:List (aV×u5)}{x:aV}{k:u5}(h:names.lookup x=O k):
 (names.map λ(n,k)=>if(k==eO && vn.scope.kind==dZ && vn.kindOf n==O dy) then(n,dy) else(n,k)).lookup x=O k\/
 (k=eO/\(names.map λ(n,k)=>if(k==eO && vn.scope.kind==dZ && vn.kindOf n==O dy) then(n,dy) else(n,k)).lookup x=O dy):=by
 induction names with
 |nil=>show Bj h
 |cons p r iH=>
  obtain⟨n,k'⟩:=p;have hd:∀q:aV×u5,Uv x (q::r.map λ(n,k)=>if(k==eO && vn.scope.kind==dZ && vn.kindOf n==O dy) then(n,dy) else(n,k))=bif x==q.1 then O q.2 else Uv x (r.map λ(n,k)=>if(k==eO && vn.scope.kind==dZ && vn.kindOf n==O dy) then(n,dy) else(n,k)):=λq=>by change(match x==q.1 with|true=>_|false=>_)=_;cases x==q.1<;>rfl
  have hh:(match x==n with|true=>O k' |false=>r.lookup x)=O k:=h;show iI.symm▸?_;dsimp only;by_cases hc:(k'==eO && vn.scope.kind==dZ && vn.kindOf n==O dy)=N
  .rw [if_pos hc,hd];cases E:x==n with|true=>rw[E]at hh;show aw ⟨(aW hh)▸eq_of_beq (fP.mp (fP.mp hc).1).1,rfl⟩|false=>rw[E]at hh;show iH hh
  .rw [if_neg hc,hd];cases E:x==n with|true=>rw[E]at hh;show ak hh|false=>rw[E]at hh;show iH hh
theorem wH(aeY:∀x∈scope.names,x.2=eO->∃c,J.cells.lookup x.1=O c):
 ∃cl,rh scope J=pure cl/\∀x,(x,eO)∈scope.names->cl.lookup x=J.cells.lookup x:=by
 delta rh
 have key:∀(names:List (aV×u5)) (cs:List (aV×ae)),(∀x∈names,x.2=eO->∃c,J.cells.lookup x.1=O c)->(∀x c,cs.lookup x=O c->J.cells.lookup x=O c)->
  ∃cl,(forIn names cs λx cs=>if(x.2==eO)=N then(do let c<-cellOf J x.1;pure (mu ((x.1,c)::cs))) else pure (mu cs):aI (List (aV×ae)))=pure cl/\
   (∀x,(x,eO)∈names\/cs.lookup x≠ai->cl.lookup x=J.cells.lookup x)/\(∀x c,cl.lookup x=O c->J.cells.lookup x=O c):=by
  intro names;induction names with
  |nil=>
   show λcs _ hc=>kF cs Z (λx E=>?_) hc;rcases E with E|E
   .ext
   .cases q:cs.lookup x with
    |none=>show(E q).elim
    |some c=>rw[hc x c q]
  |cons p names ih=>
   intro cs hn hc;obtain⟨n,k⟩:=p;rw[ya];by_cases hk:(k==eO)=N
   .show dG (hn (n,k) au (of_decide_eq_true hk)) λc hcn=>?_;have hc':∀x c',((n,c)::cs).lookup x=O c'->J.cells.lookup x=O c':=λx c' e=>by
     dsimp only[AK]at e;show boC (x==n) (λE=>?_) λE=>?_
     .replace e:=E▸e;show(by simpa using E)▸e▸hcn
     .have e:=E▸e;show hc x c' e
    show gI (ih ((n,c)::cs) (λx E=>hn x (bU _ E)) hc') λcl e1 e2 e3=>((kF cl ?_ (λx E=>?_) e3))
    .rw [hk,cellOf,hcn];show e1
    .show e2 x ?_;rcases E with E|E
     .show bc (bq.mp E) (λE=>?_) λE=>ak E;cases E
      right
      simp
     .right
      dsimp only[AK];cases x==n with
      |true=>show Option.some_ne_none c
      |false=>show E
   .show gI (ih cs (λx E=>hn x (bU _ E)) hc) λcl e1 e2 e3=>((kF cl ?_ (λx E=>?_) e3))
    .simp only[hk];show e1
    .show e2 x ?_;rcases E with E|E
     .show bc (bq.mp E) (λE=>?_) λE=>ak E;show Yb E λa1 a2=>?_;subst a1;subst a2;show(hk Z).elim
     .show aw E
 show gI (key scope.names [] aeY (λx c e=>by ext)) λcl e1 e2 _=>((cn cl ?_ (λx E=>e2 x (ak E))));rw[<-e1];rw[bind_pure]
def lA(G:iz):LN->iz
 | []=>[]
 |y::fs=>(ck G y).elim (lA G fs) λp=>(y,p)::lA G fs
def pW(G:iz):LN->Bool
 | []=>N
 |y::fs=>(ck G y).isSome && pW G fs
def putAll:iz->LN->List Int->iz
 |G,x::K,k::ks=>putAll (jh G x 0 (a6 k)) K ks
 |G,_,_=>G
theorem Gy(h:ck (lA G fs) y=O (k,av)):y∈fs/\ck G y=O (k,av):=by
 induction fs with
 |nil=>ext
 |cons z fs ih=>
  have h:ck ((ck G z).elim (lA G fs) λp=>(z,p)::lA G fs) y=O (k,av):=h;show Z0 (ck G z) (λq=>?_) λp q=>?_
  .rw [q]at h;show eZ (ih h) λa b=>⟨by lia,b⟩
  .obtain ⟨k',mI⟩:=p;rw[q]at h;replace h:=(mz _ z k' mI y).symm.trans h;by_cases e:z=y
   .subst e;rw[if_pos Z]at h;cases h
    show⟨by lia,q⟩
   .simp [e]at h;show eZ (ih h) λa b=>⟨by lia,b⟩
theorem Oz(h:pW G fs=N)(hy:y∈fs):∃k av,ck G y=O (k,av):=by
 induction fs with
 |nil=>show kI hy
 |cons z fs ih=>have h:=fP.mp h;show bc (bq.mp hy) (λa1=>a1▸dG (ym.mp h.1) λp e=>qE p.1 p.2 e) λhy=>ih h.2 hy
theorem Dt{K:LN}:∀{ks:List Int} {G:iz} {y k:Nat} {av:AV},K.length=ks.length->ck (putAll G K ks) y=O (k,av)->
 (∃(j:Nat) (i:Int),K[j]? =O y/\ks[j]? =O i/\av=a6 i/\∀j':Nat,j<j'->K[j']? ≠O y)\/(y∉K/\ck G y=O (k,av)):=by
 induction K with
 |nil=>
  intro yY;cases yY with
  |nil=>intro G y k av _ h;show aw ⟨mZ,h⟩
  |cons=>intros;first|ext|(simp at *)
 |cons x K iH=>
  intro yY;cases yY with
  |nil=>intros;first|ext|(simp at *)
  |cons i ks=>
   intro G y k av hl h;rcases iH (Nat.add_right_cancel hl) h with⟨j,i',h1,h2,h3,h4⟩|⟨h1,h2⟩
   .show ak (Mt (j+1) i' h1 h2 h3 (λj' hj'=>?_));cases j' with|zero=>simp_all|succ j'=>show h4 j' (Lg.mp hj')
   .rw [fJ]at h2;rcases yD (y=x) with e|e
    .subst e;replace h2:=(if_pos Z)▸h2;show Yb (aW h2) λa1 a2=>?_;subst a1;subst a2;show ak (Mt 0 i Z Z Z (λj' hj'=>?_));cases j' with|zero=>simp_all|succ j'=>intro q;show h1 (cY (q))
    .rw [if_neg e]at h2;show aw ⟨hb e h1,h2⟩
structure ed(L scope:du)(fs K:LN):Prop where
 kind:scope.kind=dZ
 cell:∀y∈scope.names,y.2≠dy
 names:∀y∈scope.names,y.2=cU->scope.names.lookup y.1=O cU
 free:∀y∈scope.names,y.2=eO->y.1∈fs.map NM
 frees:∀y∈fs,scope.names.lookup (NM y)=O eO/\(NM y,eO)∈scope.names
 locs:∀x∈K,scope.names.lookup (NM x)=O cU
 outer:∀y∈fs,L.names.lookup (NM y)=O dy\/L.names.lookup (NM y)=O eO
 nodup:K.Nodup
def ag0(L scope:du)(fs K:LN):Bool:=
 scope.kind==dZ && scope.names.all (λy=>y.2 != dy) && scope.names.all (λy=>y.2 != cU ||scope.names.lookup y.1==O cU) &&
 scope.names.all (λy=>y.2 != eO ||(fs.map NM).contains y.1) && fs.all (λy=>scope.names.lookup (NM y)==O eO && scope.names.contains (NM y,eO)) &&
 K.all (λx=>scope.names.lookup (NM x)==O cU) && fs.all (λy=>L.names.lookup (NM y)==O dy ||L.names.lookup (NM y)==O eO) && decide K.Nodup
theorem ed.of{K:LN}(h:ag0 L scope fs K=N):ed L scope fs K:=by simp only[ag0,qv,mY,LB,beq_iff_eq,bne_iff_ne,EI,decide_eq_true_eq]at h;obtain⟨⟨⟨⟨⟨⟨⟨h1,h2⟩,h3⟩,h4⟩,h5⟩,h6⟩,h7⟩,h8⟩:=h;show⟨h1,h2,λy hy e=>(h3 y hy).resolve_left (λq=>q e),λy hy e=>(h4 y hy).resolve_left (λq=>q e),h5,h6,h7,h8⟩
theorem ed.OA{K:LN}(c:ed L scope fs K)(r:ER H U L J s.heap G)(hG:pW G fs=N):
 ∃cl,rh scope J=pure cl/\∀y∈fs,cl.lookup (NM y)=J.cells.lookup (NM y):=by
 obtain⟨cl,e1,e2⟩:=wH (λx E hk=>by
  show bg (bG.mp (c.free x E hk)) λy hy e=>jd (Oz hG hy) λk av e3=>eS (r.has y k av e3) λv F cA _=>have hk2:=r.Wm _ (c.outer y hy);bc cA (λi0=>eZ i0 λhl _=>?_) λi0=>iL i0 λ_ c' hc _=>?_
  .rw [hl]at hk2;rcases hk2 with hk2|hk2<;>ext
  .show ⟨c',e▸hc⟩)
 show cn cl e1 (λy hy=>e2 _ (c.frees y hy).2)
theorem ER.ag1{K:LN}(c:ed L scope fs K)(r:ER H U L J h G)(x:hJ H h h')(jy:∀y∈fs,fZ.cells.lookup (NM y)=J.cells.lookup (NM y))(fr:∀y∈fs,fZ.kindOf (NM y)=O dy\/fZ.kindOf (NM y)=O eO)(e:ck (lA G fs) y=O (k,av)):∃v F,Ak fZ h' (NM y) v/\bM h' av v F:=by
 show eZ (Gy e) λh3 h4=>eS (r.has y k av h4) λv F cA aP=>have hk2:=r.Wm _ (c.outer y h3);bc cA (λi0=>eZ i0 λhl _=>?_) λi0=>oY i0 λ_ c' hc ht hv=>?_
 .rw [hl]at hk2;rcases hk2 with hk2|hk2<;>ext
 .show kH v F (aw ⟨fr y h3,c',(jy y h3).trans hc,ht,x.cell ht hv⟩) (aP.ext x)
theorem ER.ag2{K:LN}{ks:List Int}(c:ed L scope fs K)(r:ER H U L J h G)(x:hJ H h h')(jy:∀y∈fs,fZ.cells.lookup (NM y)=J.cells.lookup (NM y))(fr:∀y∈fs,fZ.kindOf (NM y)=O dy\/fZ.kindOf (NM y)=O eO)(n:h'.Ns fZ.locals m)(ll:∀y∈K,fZ.kindOf (NM y)=O cU)(hl:K.length=ks.length)(hm:∀(j:Nat) x k,K[j]? =O x->ks[j]? =O k->∃t,m (NM x)=O (ag k t))(y k:Nat)(av:AV)(e:ck (putAll (lA G fs) K ks) y=O (k,av)):∃v F,Ak fZ h' (NM y) v/\bM h' av v F:=by
 rcases Dt hl e with⟨j,i,h1,h2,rfl,_⟩|⟨h1,h2⟩
 .show dG (hm j y i h1 h2) λt e3=>kH (ag i t) [] (ak ⟨ll y (cY h1),m,n,e3⟩) (.ofInt i t)
 .show r.ag1 c x jy fr h2
theorem abN{y:aV}(h:scope.names.lookup y=O eO):(jr scope cl aS J).kindOf y=O dy\/(jr scope cl aS J).kindOf y=O eO:=(pj (vn:=J) h).elim aw λe=>ak e.2
theorem Yo{y:aV}{k:u5}(h:scope.names.lookup y=O k)(hk:k≠eO):(jr scope cl aS J).kindOf y=O k:=(pj (vn:=J) h).elim id λe=>absurd e.1 hk
theorem ER.comp{K:LN}{ks:List Int}(c:ed L scope fs K)(r:ER H U L J h G)(x:hJ H h h')(jy:∀y∈fs,cl.lookup (NM y)=J.cells.lookup (NM y))(n:h'.Ns aS m)(hC:aS∉bV)(hl:K.length=ks.length)(hm:∀(j:Nat) x k,K[j]? =O x->ks[j]? =O k->∃t,m (NM x)=O (ag k t)):ER H U scope (jr scope cl aS J) h' (putAll (lA G fs) K ks) where
 base:=r.base.trans x
 kind:=c.kind
 gl:=λ_ hy=>Yo hy nofun
 Wm:=λ_ hy=>hy.elim (λh=>ak (Yo h nofun)) abN
 glob:=r.glob
 bi:=r.bi
 loc:=hC
 has:=r.ag2 c x jy (λy h=>abN (c.frees y h).1) n (λy h=>Yo (c.locs y h) nofun) hl hm
theorem Stores.local(hC:J.locals=aS)(hk:J.scope.kind=dZ):∀(K:LN) (ks:List Int) (s:af) (m:aV->Option aa) (Q:af->Prop) (aX:aa->af->Prop),K.length=ks.length->K.Nodup->
 (∀x∈K,J.kindOf (NM x)=O cU)->s.heap.Ns aS m->
 (∀Y m',gx aS s.heap Y.heap->Y.os=s.os->Y.drawn=s.drawn->Y.gens=s.gens->Y.heap.Ns aS m'->(∀(j:Nat) x k,K[j]? =O x->ks[j]? =O k->∃t,m' (NM x)=O (ag k t))->
  (∀y,(∀x∈K,y≠NM x)->m' y=m y)->Q Y)->Stores A J K ks Q aX s:=by
 intro K;induction K with
 |nil=>
  intro ks s m Q aX hl hd E n hq;cases ks with
  |cons=>ext
  |nil=>show hq s m (UZ ..) Z Z Z n (λj x k e=>by ext) (λ_ _=>rfl)
 |cons x K ih=>
  intro ks s m Q aX hl hd E n hq;cases ks with
  |nil=>ext
  |cons i ks=>
  intro t;subst hC;show sG (E x au) n (λh' wm zO=>?_) (by show hk.symm▸?_;rfl);show ih ks _ _ Q aX (by simpa using hl) (by simp at hd;show hd.2) (λy hy=>E y au) wm λY m' h1 h2 h3 h4 h5 h6 h7=>(hq Y m' (zO.trans h1) h2 h3 h4 h5 (λj y k e1 e2=>?_) (λy hy=>?_))
  .cases j with
   |zero=>
    simp at e1 e2;subst e1 e2;show DR t ?_;rw[h7 (NM x) (λz hz e=>?_)]
    .show if_pos Z
    .have:=Cx e;subst this;simp at hd;show hd.1 hz
   |succ j=>show h6 j y k (e1) (e2)
  .rw [h7 y (λz hz=>hy z au)];show if_neg (hy x au)
noncomputable def kO(ns:List Int):AV:=bR (ns.map a6)
def OB(H:List ae)(U:aO)(A:b9)(L:du)(J:cJ)(G:iz):List aG->Bool->Prop
 | [],b=>b=N
 | [c],b=>o7 H U A L J G c b
 |_,_=>False
inductive ag3(H:List ae)(aS aZ:ae)(St:Nat->aO->Prop)(items:List (List Int))(p:List Int->Bool)(f:List Int->Int)(s:af)(k:Nat)(Y:af):Prop
 |mk (i:Nat) (m':aV->Option aa) (ys:List aa) (n:Nat) (e:k=items.length+1 - i) (hi:i<=items.length) (x:dA H s Y) (st:St i Y.heap) (nn:Y.heap.Ns aS m') (hd:Y.heap.get? aZ=O (bp ys n))
  (hV:bA Y.heap ((((items.take i).filter p).map f).map a6) ys [])
theorem Jk{K:LN}{items:List (List Int)}{p:List Int->Bool}{f:List Int->Int}(B:Tp U)(c:ed L scope fs K)(r:ER H U L J s.heap G)(jy:∀y∈fs,cl.lookup (NM y)=J.cells.lookup (NM y))(dM:∀ks∈items,K.length=ks.length)(hsz:items.length<=1000000)(vG:∀ks∈items,∀fZ,OB H U A scope fZ (putAll (lA G fs) K ks) ifs (p ks))(Gz:∀ks∈items,p ks=N->∀fZ,V H U A scope fZ (putAll (lA G fs) K ks) elt (a6 (f ks)) ab)(um:δ H U A L J G ct K items lp s it aQ)(hRR:∀aZ aS Y m' (ys:List aa) n,dA H s Y->s.heap.get? aZ=ai->s.heap.get? aS=ai->aZ≠aS->aZ∉bV->aS∉bV->Y.heap.Ns aS m'->Y.heap.get? aZ=O (bp ys n)->bA Y.heap (((items.filter p).map f).map a6) ys []->RR (R aZ) aS (bX cL) Y):
 aA (aE prog w) A (newList []) (λjP dg=>aA (aE prog w) A (newFunctionEnv scope J.globals cl [] J.qual ai ax (O J)) (λcenv fB=>
  oH (aE prog w) A (oT (cE elt [⟨ct,iter,ifs,0⟩] scope pos) 0 it jP {cenv with scope:=js scope J}) (RR jP cenv.locals) fB) aX dg) aX aQ:=by
 obtain⟨e1,I,fp,wr,St,Tk,dH,_,Z',Al,_⟩:=um;show ij (An c.cell (by intro y hy;show kI hy) (λh3 sh wI=>?_) c.kind);generalize η:aQ.heap.push {cls:=ao "list",dict:=ai,data:=bQ ([]:List aa).toArray}=H2 at sh wI ⊢;have hC:H2.objs.size=aQ.heap.objs.size+1:=by rw[<-η,dE]
 generalize hCC:H2.objs.size=aS at sh wI hC ⊢;generalize hDD:aQ.heap.objs.size=aZ at hC ⊢;have Yn:QR<=aZ:=by show hDD▸?_;show jw B (r.base.trans e1.ext)
 have θ:aZ≠aS:=by rw[hC];show fE (iX _)
 have hDT:=fo Yn;have ι:aS∉bV:=fo (by rw[hC];show qo Yn);have aei:∀b:Nat,aZ<=b->aQ.heap.get? b=ai:=λb hb'=>by
  cases q:aQ.heap.get? b with
  |none=>rfl
  |some o=>show absurd (cj q) (by rw[hDD];show j0.mpr hb')
 have hD2:=aei aZ (ey _);have hC2:=aei aS (by rw[hC];show lP _);have hDs:=e1.ext.new hD2;have hCs:=e1.ext.new hC2;have hDf:aZ∉fp:=λhm=>by obtain⟨o,e⟩:=(Al aZ hm).2;have e:=hD2.symm.trans e;ext
 have Wx:aS∉fp:=λhm=>by obtain⟨o,e⟩:=(Al aS hm).2;have e:=hC2.symm.trans e;ext
 have old:∀b o,aQ.heap.get? b=O o->h3.get? b=O o:=λb o e=>wI.extBut b o (λq=>by have e:=hC2▸q▸e;ext)<|η▸a0 _ (a0 _ e);have ow:h3.get? aZ=O (bp [] 0):=wI.extBut aZ _ θ<|η▸hDD▸a0 _ (bJ _ Z);have κ:=Tk.frame _ _ _ dH λb _ o e=>old b o e;have hwT:∀b∈wr,s.heap.get? b=ai/\b∉bV:=λb hb'=>⟨Z' b hb',(Al b (Tk.sub b hb')).1⟩;have loop:∀dg:af,dg={aQ with heap:=h3,toks:=aQ.toks+([]:List (aV×aa)).length}->
  oH (aE prog w) A (hx (cE elt [⟨ct,iter,ifs,0⟩] scope pos) 0 (R I) (R aZ) (jr scope cl aS J)) (RR (R aZ) aS) dg:=by
  rintro dg rfl;show zb (ag3 H aS aZ St items p f s) ?_ (items.length+1)
   ⟨0,_,[],0,rfl,fk _,e1.trans ⟨.of_keep old,rfl,rfl,eW _⟩,κ,sh,ow,.nil⟩
  rintro k Y P1 P2 bj P3 P4 E' q0 q1 q2 q3 q4 q5 q6 ⟨i,m',ys,n,dX,hi,x1,st,hn,hD,hV⟩;by_cases jx:i<items.length
  .show Tk.item i Y (jr scope cl aS J) P2 P1 E' jx st ?_ q2;intro s4 ks ML st4 IF;have hmem:=cY ML;show bg ((cn _ (intsAre_of hV (nZ _)) Z)) λns IA wG=>(Stores.local (aS:=aS) Z c.kind K ks s4 m' _ _ (dM ks hmem) c.nodup (λx E=>?_) (hn.at' λo e=>IF.keep (λq=>Wx (Tk.sub _ q)) e) λs5 m5 sb5 o5 d5 g5 n5 hm5 _=>?_)
   .rcases pj (c.locs x E) with e|⟨e,_⟩
    .show e
    .ext
   have x5:=(x1.off IF hwT).but sb5 hCs ι o5 d5 g5;have st5:=Tk.frame _ _ _ st4 λb hb' o e=>sb5.extBut b o (λq=>Wx (q▸hb')) e;have D5:=sb5.extBut aZ _ θ (IF.keep (λq=>hDf (Tk.sub _ q)) hD);have er:=r.comp c x5.ext jy n5 ι (dM ks hmem) hm5;have tests:T A (pg ifs (jr scope cl aS J)) s5
    (λok s6=>dA H s5 s6/\ok=p ks):=by
    have q:=vG ks hmem (jr scope cl aS J);cases ifs with
    |nil=>show wpAny_tests_nil ⟨.refl _,(q).symm⟩
    |cons c l=>cases l with|nil=>show wpAny_tests_one (q er)|cons _ _=>show q.elim
   show q3 _ (tests.Cw λok s6 x6 oy=>?_);have step:∀l:List Int,(l=if p ks=N then [f ks] else [])->(((items.take (i+1)).filter p).map f)=ns++l:=by intro l O';rw[take_succ_filter p items i ks ML,jY,<-wG,O'];cases p ks<;>rfl
   show boC (p ks) (λhp=>?_) λhp=>?_
   .rw [hp]at oy;subst oy;show q4 _ ((Gz ks hmem hp (jr scope cl aS J) (er.ext x6.ext)).Cz λt s7 x7=>q6 _ _ ?_);have x67:=x6.trans x7;have ly:ys.length<=items.length:=by rw[bA.length hV];simp;show a8 (AF _ _) ?_;simp;show E0 _ _
    show Am ⟨n,(x67.ext.keep aZ _ hDT D5)⟩ (λh8 Q9 v7=>?_) (by have:fg=16777216:=rfl;simp;lia);show dG Q9 λn8 e8=>have x8:dA H s {s7 with heap:=h8}:=(x5.trans x67).but v7 hDs hDT Z Z Z;q0 (items.length+1 - (i+1)) _ (dX▸rz (kX jx) (iX i)) ⟨i+1,m5,ys++[ag (f ks) t],n8,rfl,jx,x8,?_,?_,?_,?_⟩
    .show Tk.frame _ _ _ (Tk.frame _ _ _ st5 λb hb' o e=>x67.ext.keep b o (Al b hb').1 e) λb hb' o e=>v7.extBut b o (λq=>hDf (q▸hb')) e
    .show (x67.ext.ns ι n5).sameBut v7 (eQ θ)
    .rw [e8];simp[bp]
    .rw [step [f ks] (mr (if_pos hp))];show wF (IA.append (yz _ t qA))
   .rw [hp]at oy;subst oy;show q5 _ (q0 (items.length+1 - (i+1)) _ (dX▸rz (kX jx) (iX i)) ⟨i+1,m5,ys,n,rfl,jx,x5.trans x6,(Tk.frame _ _ _ st5 λb hb' o e=>x6.ext.keep b o (Al b hb').1 e),x6.ext.ns ι n5,x6.ext.keep aZ _ hDT D5,?_⟩);rw[step [] (by simp[hp]),yb];show wF IA
  .have:i=items.length:=by lia
   subst this;show Tk.done Y _ _ st λs4 IF=>(q1 _ (hRR aZ aS s4 m' ys n (x1.off IF hwT) hDs hCs θ hDT ι (hn.at' λo e=>IF.keep (λq=>Wx (Tk.sub _ q)) e) (IF.keep (λq=>hDf (Tk.sub _ q)) hD) ?_));rw[sV]at hV;show wF (intsAre_of hV (nZ _))
 show codeAny_compStart_list (loop _ Z) (Tk.self 0 _ _ _ κ (loop _ Z))
theorem V.comp{K:LN}{items:List (List Int)}(p:List Int->Bool)(f:List Int->Int)(B:Tp U)(c:ed L scope fs K)(hG:pW G fs=N)(um:Yl H U A L J G iter ct K items)(dM:∀ks∈items,K.length=ks.length)(hsz:items.length<=1000000)(vG:∀ks∈items,∀fZ,OB H U A scope fZ (putAll (lA G fs) K ks) ifs (p ks))(Gz:∀ks∈items,p ks=N->∀fZ,V H U A scope fZ (putAll (lA G fs) K ks) elt (a6 (f ks)) ab)(hs:Fs iter J):
 V H U A L J G (cE elt [⟨ct,iter,ifs,0⟩] scope pos) (kO ((items.filter p).map f)) fr':=λs r=>by
 show bg (c.OA r hG) λcl jy wJ=>Te Z hs jy c.kind c.names<|(um s r).wp λxv aD q=>q.wp λit aQ hI=>Jk B c r wJ dM hsz vG Gz hI λaZ aS Y m' ys n x' hD hC θ hDT ι hn hd hV=>((cn m' hn (λh'' OC=>(o6 [aZ] (x'.but OC hC ι Z Z Z) (r9 [] hDT (OC.extBut aZ _ θ hd) (wF (intsAre_of hV (nZ _)))) (λ_=>⟨λb hb'=>?_,by simp⟩)))));apply jQ hb';show hD
theorem GA{K:LN}{items:List (List Int)}(p:List Int->Bool)(f:List Int->Int)(B:Tp U)(c:ed L scope fs K)(hG:pW G fs=N)(um:Yl H U A L J G iter ct K items)(dM:∀ks∈items,K.length=ks.length)(hsz:items.length<=1000000)(vG:∀ks∈items,∀fZ,OB H U A scope fZ (putAll (lA G fs) K ks) ifs (p ks))(Gz:∀ks∈items,p ks=N->∀fZ,V H U A scope fZ (putAll (lA G fs) K ks) elt (a6 (f ks)) ab)(hs:Fs iter J)(hy:L.names.lookup (NM y)=O cU)(dH:bS G y=N)(μ:J.scope=L->fD (cE elt [⟨ct,iter,ifs,0⟩] scope pos) (O (aq (NM y) py)) spos.line J=pure N):
 S1 H U A L J (eF [aq (NM y) py] (cE elt [⟨ct,iter,ifs,0⟩] scope pos) spos) G (jh G y 1 (kO ((items.filter p).map f))) ai:=λD s W r=>by
 show bg (c.OA r.er hG) λcl jy wJ=>(Tr _ _ _ _ (μ r.scope)).symm▸ah (jT (ah ?_));show ah (ir (Te Z hs jy c.kind c.names
  ((um s r.er).wp λxv aD q=>q.wp λit aQ hI=>?_)) (λ_ Y hq=>aB (aB hq)) λ_ _ e=>e)
 show Jk B c r.er wJ dM hsz vG Gz hI λaZ aS Y m' ys n x' hD hC θ hDT ι hn hd hV=>?_;have aP:bM Y.heap (kO ((items.filter p).map f)) (R aZ) [aZ]:=r9 [] hDT hd hV;have hCW:aS∉W++[aZ]:=λq=>by
  rcases bY.mp q with q|q
  .show oX (r.je aS q) λ_ _ o e _=>?_;have e:=hC.symm.trans e;ext
  .simp at q;show θ q.symm
 show jB ((j9 (r.grow x'.ext) (ak hy) dH aP (.fresh (λb hb'=>by simp at hb';show hb'▸?_;show hD) fH (λb hb'=>by simp at hb';show hb'▸?_;show qE ys n hd) r x'.ext)).Cw λ_ ig r5 m5=>?_);show tJ hn λoC esC epC hoC hdC ν=>have kC:=m5.mod.keep aS oC (λq=>hCW au) ι hoC;cn m' ⟨oC,esC,epC,kC,hdC,ν⟩<|λh'' OC=>⟨((x'.smod W).trans m5 λd ξ=>ak ξ).off (wr:=[aS]) (λb o hb' e=>OC.extBut b o (by simpa using hb') e) (λb hb'=>by show bI.mp hb'▸?_;show⟨hC,ι⟩),rfl,W++[aZ],?_,λd ξ=>?_⟩
 .show r5.off (wr:=[aS]) (λb o hb' e=>OC.extBut b o (by simpa using hb') e) (λb hb'=>?_);apply jQ hb';show rR ⟨oC,kC,aw (ak ⟨esC,epC,hdC⟩)⟩ ι (r.ext.new hC) hCW
 .show bc (bY.mp ξ) (λq=>ak q) λq=>bI.mp q▸aw hD
theorem BA(h:bS G y=N):bS (jh G x 0 av) y=N:=by
 delta bS
 rw[fJ];by_cases e:y=x
 .rw [if_pos e];rfl
 .rw [if_neg e];show h
theorem Stores.frame:∀(K:LN) (ks:List Int) (G:iz) (s:af) (Q:af->Prop) (aX:aa->af->Prop),K.length=ks.length->FR H U D L J s.heap G W->
 (∀x∈K,Hx L x)->(∀x∈K,bS G x=N)->
 (∀Y,FR H U D L J Y.heap (putAll G K ks) W->mC W s Y->Q Y)->Stores A J K ks Q aX s:=by
 intro K;induction K with
 |nil=>
  intro ks G s Q aX hl r E dH hq;cases ks with
  |cons=>ext
  |nil=>show hq s r (.refl _ _)
 |cons x K ih=>
  intro ks G s Q aX hl r E dH hq;cases ks with
  |nil=>ext
  |cons i ks=>
  show λt=>(j9 r (E x bz) (dH x bz) (.ofInt i t) (.flat Z)).Cw λ_ aD r1 m1=>ih ks (jh G x 0 (a6 i)) aD Q aX (by simpa using hl) r1 (λy hy=>E y (by simp[hy])) (λy hy=>BA (dH y (by simp[hy]))) λY r' m'=>hq Y r' (m1.trans m' λd hd=>ak hd)
theorem wK{a b:Int}{t:ba}{T:ae}{Q:af->Prop}(hh:dh A)(hT:s.heap.IsTuple T #[ag a t,ag b u])(q:∀h3,(∀c o,s.heap.get? c=O o->h3.get? c=O o)->Stores A J [x,y] [a,b] Q aX {s with heap:=h3}):
 aA (aE prog w) A (jE (fO [aq (NM x) px,aq (NM y) py] k0 pt) J (R T)) (λ_ Y=>Q Y) aX s:=by
 show J1 hh hT Z Z λh3 he=>ah (cQ (jB (ir ((q h3 (λc o e=>he c o (fE (cj e)) e)) t) (λ_ s4 q4=>?_) λ_ _ e=>e)));show ah (cQ (jB (ir (q4 u) (λ_ s5 q5=>?_) λ_ _ e=>e)));show aB q5
theorem bM.pair{p:Int×Int}(aP:bM h (qT p) v F):∃T t u,v=R T/\h.IsTuple T #[ag p.1 t,ag p.2 u]:=by show gJ aP λa ws n dX ht e4 e5=>dX▸kJ e5 λw1 ws1 _ _ qG e6 e7 _=>?_;subst qG;show kJ e7 λw2 ws2 _ _ DU e8 e9 _=>?_;subst DU;obtain⟨N8,_⟩:=e9;obtain⟨t,ZP⟩:=e6.toInt;obtain⟨u,eQ6⟩:=e8.toInt;show N8▸?_;subst ZP;subst eQ6;show⟨a,t,u,rfl,_,e4,rfl,n,rfl⟩
theorem Wy{p:Int×Int}(hh:dh A)(he:V H U A L J G e (qT p) ab)(E:∀z∈[x,y],Hx L z)(dH:∀z∈[x,y],bS G z=N)(hs:swapsWithSole [fO [aq (NM x) px,aq (NM y) py] k0 pt] e pos.line J=pure ab)(hw:uW [fO [aq (NM x) px,aq (NM y) py] k0 pt] e J=pure ai):
 S1 H U A L J (eF [fO [aq (NM x) px,aq (NM y) py] k0 pt] e pos) G (putAll G [x,y] [p.1,p.2]) ai:=λD s W r=>by
 show wpAny_Assign_stores ((he r.er).tN λv aD F e1 aP _=>?_) hs hw;show fc aP.pair λT t u dX hT=>dX▸wK (px:=px) (py:=py) (pt:=pt) (k0:=k0) hh hT λh3 k3=>have x3:dA H s {aD with heap:=h3}:=e1.trans ⟨.of_keep k3,rfl,rfl,eW _⟩;Stores.frame [x,y] [p.1,p.2] G _ _ _ Z (r.grow (e1.ext.trans (.of_keep k3))) E dH λY r' m'=>tP (x3.sm m') r'
theorem ag4(I:Nat->af->Prop)(turn:∀n s (P1:Option aa->af->Prop) (P2:af->Prop) (P3:cb->af->Prop) (aX:aa->af->Prop),(∀aD,aN (bX cL) aD->P1 ai aD)->
 (∀v aD,aA (aE prog w) A (jC ct it v) (λ_ uD=>aA (aE prog w) A (jE ct J v) (λ_ aQ=>P2 aQ) aX uD) aX aD->P1 (O v) aD)->
 (∀aQ,aA (aE prog w) A (aU body J) P3 aX aQ->P2 aQ)->(∀m dg,m<n->I m dg->P3 cL dg)->I n s->aA (aE prog w) A (gY it) P1 aX s)(n:Nat)(h:I n s):oH (aE prog w) A (Fc ct it body [] J) aN s:=
 codeAny_forLoop_any I (λn s h=>turn n s _ _ _ _ (λ_ h=>J7 h) (λ_ _ h=>h) (λ_ h=>h) (λm _ a b=>cn m a b) h) n h
theorem mC.ag5(m:mC W s Y)(o:Off wr Y nJ)(hw:∀b∈wr,s.heap.get? b=ai/\b∉bV):mC W s nJ:=eS o λ_ _ e k=>e▸m.off k hw
inductive ag6(H:List ae)(U D:aO)(L:du)(J:cJ)(W fp:List ae)(iR:Nat->iz)(St:Nat->aO->Prop)(n₀:Nat)(s:af)(k:Nat)(Y:af):Prop
 |mk (i:Nat) (W':List ae) (e:k=n₀+1 - i) (hi:i<=n₀) (m:mC W s Y) (st:St i Y.heap) (r:FR H U D L J Y.heap (iR i) W') (hW:∀d,d∈W'->d∈W\/s.heap.get? d=ai) (fW:∀d∈fp,d∉W') (fe:∀d∈fp,∃o,Y.heap.get? d=O o)
theorem Wz{K:LN}{items:List (List Int)}(iR:Nat->iz)(um:Yl H U A L J G iter ct K items N)(h0:km (iR 0) G)(E:∀z∈K,Hx L z)(hl:∀ks∈items,K.length=ks.length)(dH:∀i,i<items.length->∀z∈K,bS (iR i) z=N)(step:∀i ks,items[i]? =O ks->SS H U A L J body (putAll (iR i) K ks) (iR (i+1)) ai)(hs:Fs iter J):
 S1 H U A L J (j4 ct iter body [] pos) G (iR items.length) ai:=λD s W r=>by
 show wpAny_For ((um s r.er).wp λv aD q=>q.wp λit aQ q=>?_) hs;obtain⟨e1,I,fp,wr,St,Tk,st,Gq,Z',Al,ap⟩:=q;have Gq:=Gq Z;have wrT:=λb hb'=>(Al b (Tk.sub b hb')).1;have wrB:∀b∈wr,s.heap.get? b=ai/\b∉bV:=λb hb'=>⟨Z' b hb',wrT b hb'⟩;show ag4 (ag6 H U D L J W fp iR St items.length s) ?_ (items.length+1) ⟨0,W,rfl,fk _,e1.smod _,st,(r.grow e1.ext).less h0,λd hd=>ak hd,λb hb'=>ap Z b hb' _ _ r,λd hd=>(Al d hd).2⟩;rintro k Y P1 P2 P3 aX q0 q1 q2 q3 ⟨i,W',dX,hi,m1,Oa,r',CD,hfW,hfe⟩;have wrF:∀b∈wr,kK Y.heap b/\b∉bV/\D.get? b=ai/\b∉W':=λb hb'=>⟨Gq i _ Oa b hb',wrT b hb',r.ext.new (Z' b hb'),hfW b (Tk.sub b hb')⟩;rcases AR hi with jx|hie
 .show Tk.item i Y J P2 P1 aX jx Oa (λs3 ks ML st3 aeZ=>?_) q1;show Stores.frame K ks (iR i) s3 _ _ (hl ks (cY ML)) (r'.off (λb o hb' e=>aeZ.keep hb' e) wrF) E (dH i jx) λs4 r4 m4=>q2 _<|have m3:=m1.ag5 aeZ wrB;(step i ks ML r4).wpN λig W5 m5 r5 hW5=>?_;have ex3:∀d∈fp,∃o,s3.heap.get? d=O o:=λd hd=>if hdw:d∈wr then bg (Gq _ _ st3 d hdw) λo e _=>⟨o,e⟩ else dG (hfe d hd) λo e=>⟨o,aeZ.keep hdw e⟩
  have k35:=λd hd o e=>m5.mod.keep d o (hfW d hd) (Al d hd).1 (m4.mod.keep d o (hfW d hd) (Al d hd).1 e);show q3 (items.length+1 - (i+1)) _ (dX▸rz (kX jx) (iX i)) ⟨i+1,W5,rfl,jx,(m3.trans m4 CD).trans m5 CD,Tk.frame _ _ _ st3 (λd hd o e=>k35 d hd o e),r5,λd hd=>(hW5 d hd).elim (CD d) λh=>aw (m3.mod.new (m4.mod.new h)),λd hd hw=>?_,λd hd=>dG (ex3 d hd) λo e=>⟨o,k35 d hd o e⟩⟩;show(hW5 d hw).elim (hfW d hd) λh=>dG (ex3 d hd) λo e=>?_;have e4:=h.symm.trans (m4.mod.keep d o (hfW d hd) (Al d hd).1 e);ext
 .subst hie;show Tk.done Y _ _ Oa λs4 IF=>q0 _ ⟨m1.ag5 IF wrB,rfl,W',r'.off (λb o hb' e=>IF.keep hb' e) wrF,CD⟩
theorem abO{ns:List Int}(iR:Nat->iz)(um:zr H U A L J G iter ns)(h0:km (iR 0) G)(E:Hx L x)(dH:∀i,i<ns.length->bS (iR i) x=N)(step:∀i n,ns[i]? =O n->SS H U A L J body (jh (iR i) x 0 (a6 n)) (iR (i+1)) ai)(hs:Fs iter J):
 S1 H U A L J (j4 (aq (NM x) px) iter body [] pos) G (iR ns.length) ai:=by
 have e:(ns.map λn=>[n]).length=ns.length:=ik ..;show e▸Wz iR um.itc h0 (λz hz=>jQ (P:=λz=>Hx L z) hz E) (λks hk=>bg (bG.mp hk) λ_ _ e=>e▸rfl) (λi hi z hz=>jQ (P:=λz=>bS (iR i) z=N) hz (dH i (e▸hi))) (λi ks hk=>?_) hs;rw[cZ]at hk;show bg (iY.mp hk) λn h e=>e▸step i n h
theorem abP{ps:List (Int×Int)}(iR:Nat->iz)(hh:dh A)(B:Tp U)(he:V H U A L J G iter (bR K) N)(hi:K=ps.map qT)(h0:km (iR 0) G)(E:∀z∈[x,y],Hx L z)(dH:∀i,i<ps.length->∀z∈[x,y],bS (iR i) z=N)(step:∀i p,ps[i]? =O p->SS H U A L J body (putAll (iR i) [x,y] [p.1,p.2]) (iR (i+1)) ai)(hs:Fs iter J):
 S1 H U A L J (j4 (fO [aq (NM x) px,aq (NM y) py] k0 pt) iter body [] pos) G (iR ps.length) ai:=by
 have e:(ps.map λp=>[p.1,p.2]).length=ps.length:=ik ..;show e▸Wz iR (Jj hh B he hi λ_=>rfl) h0 E (λks hk=>bg (bG.mp hk) λ_ _ e=>e▸rfl) (λi hi=>dH i (e▸hi)) (λi ks hk=>?_) hs;rw[cZ]at hk;show bg (iY.mp hk) λn h e=>e▸step i n h
inductive ae0(H:List ae)(U D:aO)(L:du)(J:cJ)(W:List ae)(iR:Nat->iz)(n₀:Nat)(s:af)(k:Nat)(Y:af):Prop
 |mk (i:Nat) (W':List ae) (e:k=n₀+1 - i) (hi:i<=n₀) (m:mC W s Y) (r:FR H U D L J Y.heap (iR i) W') (hW:∀d,d∈W'->d∈W\/s.heap.get? d=ai)
theorem ag7(I:Nat->af->Prop)(turn:∀n s (P:Bool->af->Prop) (P3:cb->af->Prop) (aX:aa->af->Prop),(∀aQ,aN (bX cL) aQ->P ab aQ)->(∀aQ,aA (aE prog w) A (aU body J) P3 aX aQ->P N aQ)->(∀m dg,m<n->I m dg->P3 cL dg)->I n s->
 aA (aE prog w) A (isTrue XY J (a7 XY J)) P aX s)(n:Nat)(h:I n s):oH (aE prog w) A (Code.whileLoop XY body [] J) aN s:=
 codeAny_whileLoop I (λn s h=>turn n s _ _ _ (λ_ h=>(if_neg aL).mpr (J7 h)) (λ_ h=>(if_pos Z).mpr h) (λm _ a b=>cn m a b) h) n h
theorem Yp(n:Nat)(iR:Nat->iz)(h0:km (iR 0) G)(go:∀i,i<n->o7 H U A L J (iR i) XY N/\SS H U A L J body (iR i) (iR (i+1)) ai)(stop:o7 H U A L J (iR n) XY ab):S1 H U A L J (UY XY body [] pos) G (iR n) ai:=λD s W r=>by
 show wpAny_While (ag7 (ae0 H U D L J W iR n s) ?_ (n+1) ⟨0,W,rfl,fk _,.refl _ _,r.less h0,λd hd=>ak hd⟩);rintro k Y P P3 aX q0 q1 q2 ⟨i,W',dX,hi,m1,r',CD⟩;rcases AR hi with jx|hie
 .show eZ (go i jx) λg1 g2=>(g1 r'.er).wpB λaQ x2=>q1 _<|(g2 (r'.grow x2.ext)).wpN λdg W3 m3 r3 hW3=>(q2 (n+1 - (i+1)) _ (dX▸rz (kX jx) (iX i)) ⟨i+1,W3,rfl,jx,(m1.trans (x2.smod W') CD).trans m3 CD,r3,λd hd=>(hW3 d hd).elim (CD d) λh=>aw (m1.mod.new (x2.ext.new h))⟩)
 .cases hie
  show(stop r'.er).wpB λaQ x2=>q0 _ ⟨m1.trans (x2.smod W') CD,rfl,W',r'.grow x2.ext,CD⟩
theorem Yq(B:cx U mg mb)(I:dQ mg mb)(kM:Gi L "list")(he:V H U A L J G e (bR K) ab)(dH:cI e=ab)(hf:iS K=N)(hl:dY K.length 1000000=N):V H U A L J G (bx (aq (aC "list") np) [e] [] pos) (bR K) fr:=λs r=>by show mD ("list") ("list") B I aL kM (rfl) (fL.cons he fL.nil dH) (by simp[dW,dH]) r λvs aD F e1 V1=>?_;apply nM V1;intro v G1 V2;apply fU V2;intro a us n F' ht a3 a4 eF3;have l1:=bA.length a4;have hl:=dN hl;show call_list_seq a (ak Z) a3 Z Z (λh' c' keep hd=>?_) (by have:fg=16777216:=rfl;simp;lia);have hF:=cW.2 _ _ _ hf a4;subst hF;show⟨e1.trans ⟨.of_keep keep,rfl,rfl,eW _⟩,[aD.heap.objs.size],r9 [] (fo (jw B.top (r.base.trans e1.ext))) hd (a4.ext (H:=H) (.of_keep keep)),λ_=>⟨λb D=>?_,by simp⟩⟩;apply jQ D;show e1.ext.new (bD _)
theorem MM{np':cB}(hh:dh A)(B:cx U mg mb)(I:dQ mg mb)(kM:Gi L "list")(ae1:Gi L "range")(he:V H U A L J G e (a6 (aj k)) ab)(dH:cI e=ab)(hk:k<=1000000):
 V H U A L J G (bx (aq (aC "list") np) [bx (aq (aC "range") np') [e] [] Ct] [] pos) (kO (Dq 0 1 k)) fr:=λs r=>by
 have hI:=I ("list",ao "list") aL;show mf<|(eG B r kM hI.1 hI.2 (rfl)).Dm<|A1 (J5 ?_ Z) Z Z;show mD ("range") ("range") B I aL ae1 (rfl) (fL.cons he fL.nil dH) (by simp[dW,dH]) r λvs aD F e1 V1=>?_;apply nO V1;show λt=>sJ<|TQ<|call_list_range hh (vo ..) (uZ fH (W.kbt_pos 62) fH au) (by rw[uV];split<;>lia:lQ 0 (aj k) 1=((k:Nat):Int)) au λh' tk jP c' keep hd hi=>?_;have IA:fm jP.toList (Dq 0 1 k):=by
  show eZ hi λi1 i2=>?_;have key:∀(vs:List aa) (ns:List Int),vs.length=ns.length->(∀(j:Nat) v,vs[j]? =O v->∃n t,ns[j]? =O n/\v=ag n t)->fm vs ns:=by
   intro vs;induction vs with
   |nil=>intro ns hl _;cases ns with|nil=>show qA|cons n ns=>ext
   |cons v vs ih=>
    intro ns hl hv;cases ns with
    |nil=>ext
    |cons n ns=>show eS (hv 0 v Z) λm t h1 dX=>dX▸have h1:=aW h1;h1▸yz n t (ih ns (by simpa using hl) λj v e=>by simpa using hv (j+1) v (e))
  show key _ _ (MI▸i1) λj v e=>?_;obtain⟨t,hv⟩:=i2 j v (by simpa using e);have hj:j<jP.size:=by have:=(dR.mp e).1;show this
  show kH _ t (o9.mpr ⟨by lia,rfl⟩) hv
 show⟨e1.trans ⟨.of_keep (λb o e=>keep b o (a0 _ e)),rfl,rfl,eW _⟩,[aD.heap.objs.size+1],?_,λ_=>⟨λb D=>?_,by simp⟩⟩
 .show Z2 (aD.heap.objs.size+1) jP.toList c' [] (by rw[dE]) (fo (qo (jw B.top (r.base.trans e1.ext)))) ?_ (wF IA) Z;rw[dE]at hd;rw[hd];rfl
 .rw [bI]at D;subst D;show e1.ext.new ?_;cases q:aD.heap.get? (aD.heap.objs.size+1) with|none=>rfl|some o=>show absurd (cj q) (j0.mpr (lP _))
theorem MN{ws ws':List aa}{abQ:List AV}(hs:gx a h h')(hm:Cs h a)(ha:h.get? a=O (bp ws n))(ZQ:h'.get? a=O (bp ws' n'))(aP:bA h' abQ ws' [])(hat:a∉bV):
 ∀(b8:List AV) (vs:List aa) (F:List ae) (i:Nat),bA h b8 vs F->F.Nodup->b8[i]? =O (bR row)->iS row=N->vs[i]? =O (R a)->bA h' (b8.set i (bR abQ)) vs F:=by
 intro xX;induction xX with
 |nil=>intro vs F i _ _ hi _ _;ext
 |cons x b8 iH=>
  intro vs F i r hd hi hf hv;have keep:∀b o,b∉[a]->b∉bV->h.get? b=O o->h'.get? b=O o:=λb o D _ e=>(hs.2 b (vw D)).trans e;have hmm:∀b∈[a],Cs h b\/kK h b:=λb D=>by show bI.mp D▸?_;show ak hm
  show kJ r λv tM F1 F2 dX e2 e3 qG=>?_;subst dX;subst qG;show ie (qk.mp hd) λd1 d2 d3=>?_;cases i with
  |zero=>
   simp at hi hv;subst hi hv;show iO e2 λa' us m F' e4 e5 e6 e7 DU=>?_;subst DU;obtain rfl:=j6 e4;replace e6:=ha▸e6;cases e6
   have hF':=cW.2 _ _ _ hf e7;subst hF';show ej [a] F2 (r9 [] hat ZQ aP) (e3.off keep hmm _ _ _ (λb D hq=>?_));apply jQ hq;show d3 b (by assumption) b D Z
  |succ i=>
   have hi':b8[i]? =O (bR row):=hi;have hv':tM[i]? =O (R a):=hv;show ju (bA.get e3 hi') λu F3 g1 g2 g3=>?_;obtain rfl:=aW (hv'.symm.trans g1);have haF:a∈F2:=by show iO g2 λa' us m F' e4 e5 e6 e7 N8=>?_;subst N8;obtain rfl:=j6 e4;show g3 a au
   show DT v tM F1 F2 Z (e2.off keep hmm _ _ _ (λb D hq=>?_)) (iH tM F2 i e3 d2 hi' hf hv') Z;obtain rfl:=bI.mp hq;show d3 b D b haF Z
theorem ο{i j:aG}{b8:List AV}{ni nj:Nat}{p'':cB}(E:ck G x=O (1,bR b8))(OD:b8[ni]? =O (bR row))(hf:iS row=N)(he:V H U A L J G e av ab)(hfa:flat av=N)(hi:V H U A L J G i (a6 (aj ni)) ab)(sf:j8 i=ab)(hl1:dY ni 1000000=N)(hj:V H U A L J G j (a6 (aj nj)) ab)(hjl:jG nj row.length=N)(hl:dY row.length 1000000=N)(hs:fD e (O (dk (dk (aq (NM x) p) i p'') j p')) pos.line J=pure ab):
 S1 H U A L J (eF [dk (dk (aq (NM x) p) i p'') j p'] e pos) G (jh G x 1 (bR (b8.set ni (bR (row.set nj av))))) ai:=λD s W r=>by
 show JU ((he r.er).tN λu aD F1 e1 V1 _=>?_) hs
 -- the row
 show rL<|(zP (r.grow e1.ext).er E).wp λv aQ ou=>iL ou λe2 F2 cA V2=>?_;subst e2;show(hi (r.grow e1.ext).er).wp λiv dg ou=>iL ou λe3 F3 V3 _=>og λgG kG=>(dG V3.toInt λt dX=>?_);have V2':=V2.ext e3.ext;obtain⟨⟨T',id,hT,hlk⟩,hg⟩:=Jf (A:=A) (t:=t) V2' (by simp only[Wn,hl1];show OD:Wn (.list b8) (aj ni)=O (.list row));show kG ?_;clear kG gG;show dX▸vh hT hlk ?_ (uB sf v _)
 -- its place is known exactly
 show fR V2' λa vs n F' qG ht a3 a4 DU=>(ju (bA.get a4 OD) λrv Fr g1 g2 g3=>?_);subst qG;subst DU;have hb0:=dN hl1;show TF (bT a3) au au (by simpa using g1)<|(hj ((r.grow e1.ext).grow e3.ext).er).wp λjv fB π=>iL π λe4 F4 V4 _=>(dG V4.toInt λt' N8=>?_);show N8▸iO ((g2.ext e4.ext)) λra ws m QZ ZP rt r3 r4 eQ6=>?_;subst ZP;subst eQ6;have hl:=dN hl;have hjl:nj<row.length:=dN hjl;have l1:=bA.length r4;have aeW:=cW.2 _ _ _ hf r4;subst aeW;have hF1:=cW.1 _ _ _ hfa V1;subst hF1;have e14:=(e1.trans e3).trans e4;show rd r3 au au jM<|have rG:=r.grow e14.ext;have H4:=cA.ext (e3.trans e4).ext (r.je _ r.loc).2.1;have V24:=V2'.ext e4.ext;jd rG.ents λval fp q=>(mB (q x 1 _ E) λb1 b2 b3 _=>?_);have tR:(a::F').Nodup:=by show(by rw[<-(H4.uniq b1)]at b2;show bM.uniq b2 V24)▸?_;show(b3 Z).1
 have hup:=U' (v:=u) (j:=nj) r3;have v7:=j5 fB.heap ra (dO λK=>K.setIfInBounds nj u);have ae2:Cs fB.heap ra:=cn _ r3 (ak ⟨rfl,_,_,rfl⟩);have hra:a≠ra:=λe=>(ru.mp tR).1 (g3 _ au);have Vn:bM (fB.heap.update ra (dO λK=>K.setIfInBounds nj u)) (bR (b8.set ni (bR (row.set nj av)))) (R a) (a::F'):=by show r9 F' ht ((v7.2 a hra).trans (e4.ext.keep a _ ht a3)) (MN v7 ae2 r3 hup ?_ rt b8 vs F' ni (a4.ext e4.ext) (ru.mp tR).2 OD hf au);show bA.set (F:=[]) nj hf (r4.off (W:=[ra]) (λb o hb' _ e=>(v7.2 b (by simpa using hb')).trans e) (λb hb'=>by simp at hb';subst hb';show ak ae2) _ _ _ (λb hb'=>by cases hb')) ((V1.ext (e3.trans e4).ext).off (W:=[ra]) (λb o hb' _ e=>(v7.2 b (by simpa using hb')).trans e) (λb hb'=>by simp at hb';subst hb';show ak ae2) _ _ _ (λb hb'=>by cases hb'))
 show eZ (rG.agY E H4 V24 (by simp[g3 ra bz]) v7 hup Vn) λr2 m2=>tP (e14.mm m2) r2
theorem kq(names:List (aV×u5)):∀(n:Nat) (jP:List (aV×ae)) (x:aV),((x,dy)∈names\/(jP.lookup x).isSome=N)->((xN n names jP).lookup x).isSome=N:=by
 induction names with
 |nil=>show λ_ _ _ h=>h.elim kI id
 |cons p r iH=>
  intro n jP x h;obtain⟨m,k⟩:=p;unfold xN;by_cases hk:(k==dy)=N
  .rw [if_pos hk];show iH _ _ x ?_;rcases h with h|h
   .show bc (bq.mp h) (λh=>?_) λh=>ak h;cases h
    right
    simp
   .right
    dsimp only[AK];cases x==m with
    |true=>rfl
    |false=>show h
  .rw [if_neg hk];show iH _ _ x ?_;rcases h with h|h
   .show bc (bq.mp h) (λh=>?_) λh=>ak h;cases h
    show(hk Z).elim
   .show aw h
noncomputable def qJ:LN->List AV->iz
 |x::K,av::avs=>(x,0,av)::qJ K avs
 |_,_=>[]
theorem CG{K:LN}:∀{avs:List AV} {y k:Nat} {av:AV},ck (qJ K avs) y=O (k,av)->k=0/\∃i:Nat,K[i]? =O y/\avs[i]? =O av/\∀j:Nat,j<i->K[j]? ≠O y:=by
 induction K with
 |nil=>intro _ _ _ _ h;show Bj h
 |cons x K iH=>
  intro yY;cases yY with
  |nil=>intro _ _ _ h;show Bj h
  |cons a avs=>
   intro y k av h;replace h:=(mz _ x 0 a y).symm.trans h;rcases yD (x=y) with e|e
   .subst e;rw[if_pos Z]at h;cases h
    show⟨rfl,0,rfl,rfl,λj hj=>by simp_all⟩
   .rw [if_neg e]at h;show oY (iH h) λh1 i h2 h3 h4=>(⟨h1,i+1,h2,h3,λj hj=>?_⟩);cases j with|zero=>simpa using e|succ j=>show h4 j (Lg.mp hj)
theorem Ra(J:cJ)(K:LN):∀(vs:List aa) (m cm:aV->Option aa) (i x:Nat) (v:aa),K.Nodup->K.length=vs.length->K[i]? =O x->vs[i]? =O v->
 (J.kindOf (NM x)=O cU->bindL J.kindOf ((K.map NM).zip vs) m (NM x)=O v)/\(J.kindOf (NM x)≠O cU->bindC J.kindOf ((K.map NM).zip vs) cm (NM x)=O v):=by
 induction K with
 |nil=>intro _ _ _ i x v _ _ h _;ext
 |cons y K iH=>
  intro yY;cases yY with
  |nil=>intro _ _ i x v _ h _ _;ext
  |cons u vs=>
   intro m cm i x v hd hl h1 h2;have rest:∀(K:LN) (vs:List aa) (m:aV->Option aa),y∉K->bindL J.kindOf ((K.map NM).zip vs) m (NM y)=m (NM y)/\bindC J.kindOf ((K.map NM).zip vs) m (NM y)=m (NM y):=by
    intro K;induction K with
    |nil=>intro vs m _;show⟨rfl,rfl⟩
    |cons z K ih=>
     intro vs m hz;cases vs with
     |nil=>show⟨rfl,rfl⟩
     |cons u vs=>
      simp at hz;have qI:=λe=>hz.1 (Cx e);simp only[iI,KN,bindL,bindC];show⟨?_,?_⟩
      .rw [(ih vs _ hz.2).1];split
       .show if_neg qI
       .rfl
      .rw [(ih vs _ hz.2).2];split
       .rfl
       .show if_neg qI
   simp at hd hl;cases i with
   |zero=>simp at h1 h2;subst h1 h2;simp only[iI,KN,bindL,bindC];show⟨λhk=>by rw[(rest K vs _ hd.1).1,if_pos hk];show if_pos Z,λhk=>by rw[(rest K vs _ hd.1).2,if_neg hk];show if_pos Z⟩
   |succ i=>show iH vs _ _ i x v hd.2 hl (h1) (h2)
structure FnAt(U:aO)(a:ae)(fd:cq):Prop where
 obj:∃o,U.get? a=O o/\o.data=qt fd
 off:a∉bV
 code:∃c oc ws t,fd.code=R c/\c∉bV/\U.get? c=O oc/\oc.data=bH ws/\ws[1]? =O (cO fd.qualname t)
theorem FnAt.abR(f:FnAt U a fd)(x:hJ H U h):h.CodeRec fd.code fd.qualname:=
 fR f.code λc oc ws t e1 e2 e3 e4 e5=>DT c oc ws t e1 (x.keep c _ e2 e3) e4 e5
theorem WB{P:Nat->Nat->AV->aa->List ae->Prop}(key:∀y k av,ck G y=O (k,av)->∃v F,P y k av v F):∃(val:Nat->aa) (fp:Nat->List ae),∀y k av,ck G y=O (k,av)->P y k av (val y) (fp y):=by have h:∀y,∃vf:aa×List ae,∀k av,ck G y=O (k,av)->P y k av vf.1 vf.2:=λy=>Z0 (ck G y) (λq=>q.symm▸⟨(ax,[]),λk av e=>by ext⟩) λp q=>q.symm▸jd (key y p.1 p.2 q) λv F hp=>⟨(v,F),λk av e=>by obtain rfl:=aW e;show hp⟩;show qE (λy=>(VK (h y)).1) (λy=>(VK (h y)).2) (λy k av e=>Classical.choose_spec (h y) k av e)
noncomputable def aej(br:Nat)(L:du):List ae:=br::((xN (br+1) L.names []).filter λp=>(xN (br+1) L.names []).lookup p.1==O p.2).map (·.2)
theorem FR.start{K:LN}(B:Tp U)(x1:hJ H U s.heap)(aP:bA s.heap avs vs F)(hk:fd.scope.kind=dZ)(hg:fd.globals=ef)(hbi:fd.builtins=gb)(hd:K.Nodup)(hl:K.length=vs.length)(E:∀x∈K,Hx fd.scope x)(x:InCallC s (gN fd s.heap.objs.size a).locals (bindL (gN fd s.heap.objs.size a).kindOf ((K.map NM).zip vs) λ_=>ai) (gN fd s.heap.objs.size a).cells
 (bindC (gN fd s.heap.objs.size a).kindOf ((K.map NM).zip vs) λ_=>ai) aD):
 FR H U s.heap fd.scope (gN fd s.heap.objs.size a) aD.heap (qJ K avs) (aej s.heap.objs.size fd.scope):=by
 have Wr:∀y,(gN fd s.heap.objs.size a).kindOf y=fd.scope.names.lookup y:=λ_=>rfl;have top:=jw B x1;have keep:=x.toInCall.keep;have abv:=λn c h=>x.above n c ((rfl:(gN fd s.heap.objs.size a).cells=xN (s.heap.objs.size+1) fd.scope.names [])▸h);show⟨x1,.of_keep keep,rfl,hk,hg,hbi,AG Z,(DR _ x.toInCall.ns),λy hy=>?_,λy z c hy h2 h3=>(Cx (name_of_addr x.apart (mH h2) (mH h3))).symm,λb hb'=>?_,?_⟩
 .show dG (ym.mp (kq fd.scope.names (s.heap.objs.size+1) [] (NM y) (ak (mH hy)))) λc hc=>have hm:=mH hc;wy c hc ⟨_,x.cell (NM y) c hc⟩ (fo (a8 top (gz (abv _ _ hm))))<|aw<|bW _ (bG.mpr (cn _ (gu.mpr ⟨hm,by simpa using hc⟩) Z))
 .rcases bq.mp hb' with rfl|hb'
  .show gT (bD _) (fo top) (MG x.toInCall.ns)
  .obtain ⟨⟨n,c⟩,hm,rfl⟩:=bG.mp hb';show eZ (gu.mp hm) λhm hc=>?_;have hc:(xN (s.heap.objs.size+1) fd.scope.names []).lookup n=O c:=by simpa using hc
   have jx:=abv n c hm;show gT ?_ (fo (a8 top (gz jx))) (Gl (x.cell n c hc));cases q:s.heap.get? c with
   |none=>rfl
   |some o=>show absurd (cj q) (j0.mpr (gz jx))
 .have fW:∀b∈F,b∉aej s.heap.objs.size fd.scope:=λb hb' hw=>by
   show iL (bA.kinds aP b hb') λ_ o e _=>?_;have jx:=cj e;rcases bq.mp hw with rfl|hw
   .show gy _ jx
   .obtain ⟨⟨n,c⟩,hm,rfl⟩:=bG.mp hw;show gy _ (gc jx (abv n c (gu.mp hm).1))
  -- a value and a Yg for each name
  have key:∀y k av,ck (qJ K avs) y=O (k,av)->∃v F',Ak (gN fd s.heap.objs.size a) aD.heap (NM y) v/\bM aD.heap av v F'/\k=0/\∀b∈F',b∈F:=λy k av e=>by show oY (CG e) λdX i h2 h3 _=>dX▸ju (bA.get aP h3) λv F' g1 g2 g3=>eZ (Ra (gN fd s.heap.objs.size a) K vs (λ_=>ai) (λ_=>ai) i y v hd hl h2 g1) λq1 q2=>Mt v F' ?_ (g2.ext (H:=H) (.of_keep keep)) Z g3;show bc (E y (cY h2)) (λhy=>ak ⟨hy,_,x.toInCall.ns,q1 hy⟩) λhy=>?_;show dG (ym.mp (kq fd.scope.names (s.heap.objs.size+1) [] (NM y) (ak (mH hy)))) λc hc=>?_;have ic:=x.cell (NM y) c hc;rw[q2 (by rw[Wr,hy];decide)]at ic;show aw ⟨ak hy,c,hc,fo (a8 top (gz (abv _ _ (mH hc)))),ic⟩
  show jd (WB key) λval fp q=>((qE val fp (λy k av e=>?_)));show iK (q y k av e) λp1 p2 p3 p4=>⟨p1,p2,(λh1=>by have h1:=p3▸h1;ext),λ_ b hb'=>fW b (p4 b hb')⟩
theorem hJ.up(x:hJ H h h')(nS:∀b∈H,b∈τ'):hJ τ' h h':=⟨x.keep,x.tab,x.there,λb o D hq e=>x.quiet b o D (λq=>hq (nS b q)) e⟩
theorem dA.up(x:dA H s Y)(nS:∀b∈H,b∈τ'):dA τ' s Y:=⟨x.ext.up nS,x.os,x.drawn,x.gens⟩
theorem ER.up(r:ER H U L J h G)(nS:∀b∈H,b∈τ'):ER τ' U L J h G:=⟨r.base.up nS,r.kind,r.gl,r.Wm,r.glob,r.bi,r.loc,r.has⟩
theorem FR.up(r:FR H U D L J h G W)(nS:∀b∈H,b∈τ'):FR τ' U D L J h G W:=
 ⟨r.b1.up nS,r.ext.up nS,r.scope,r.kind,r.glob,r.bi,r.loc,r.ns,r.cell,r.pV,r.je,r.ents⟩
def EVm(H τ':List ae)(U:aO)(A:b9)(L:du)(J:cJ)(G:iz)(e:aG)(av:AV)(fr:Bool):Prop:=
 ∀⦃s:af⦄,ER H U L J s.heap G->T A (a7 e J) s (EP τ' s av fr)
def pP(H τ':List ae)(U:aO)(A:b9)(L:du)(J:cJ)(ss:List cg)(G G':iz)(ret:Option AV):Prop:=
 ∀⦃D:aO⦄ ⦃s:af⦄ ⦃W:List ae⦄,FR H U D L J s.heap G W->T A (aU ss J) s (Bx τ' U D L J W s G' ret)
def S1m(H τ':List ae)(U:aO)(A:b9)(L:du)(J:cJ)(st:cg)(G G':iz)(ret:Option AV):Prop:=
 ∀⦃D:aO⦄ ⦃s:af⦄ ⦃W:List ae⦄,FR H U D L J s.heap G W->T A (oJ st J) s (Bx τ' U D L J W s G' ret)
protected theorem SS.m{ret:Option AV}(x:SS H U A L J ss G G' ret):pP H H U A L J ss G G' ret:=x
theorem pP.cons{ag8:List ae}{G2:iz}{ret:Option AV}(h1:S1m H τ' U A L J st G G1 ai)(h2:pP τ' ag8 U A L J ss G1 G2 ret):pP H ag8 U A L J (st::ss) G G2 ret:=λD s W r=>uS<|(h1 r).wpN λaD W1 m1 r1 hw1=>(h2 r1).mono λf2 aQ q=>q.behind m1 hw1
theorem ρ(h1:S1m H τ' U A L J st G G1 (O av)):pP H τ' U A L J (st::ss) G G1 (O av):=λD s W r=>uS<|(h1 r).wp λf aD ou=>yG ou λm1 x v F hf aP=>hf▸⟨m1,x,v,F,rfl,aP⟩
protected theorem S1m.ret(nS:∀b∈H,b∈τ')(h:EVm H τ' U A L J G e av ab):S1m H τ' U A L J (yn (O e) pos) G G' (O av):=λD s W r=>
 xC ((h r.er).tN λv aD F e1 aP _=>⟨e1.smod W,(r.ext.up nS).trans e1.ext,v,F,rfl,aP⟩)
theorem wL(dH:dW (e::es)=N):cI e=ab/\dW es=N:=by simp only[dW,ET,qv,ve]at dH;show dH
theorem Rb{fn:aV}{K:LN}(B:cx U mg mb)(hg:mg fn=O (R a))(kM:L.names.lookup fn=O kY)(hdb:(fn==("__debug__" :aV))=ab)(hf:FnAt U a fd)(OE:fd.body=kZ body)(ae3:fd.closure=[])(Du:fd.scope.isCoroutine=ab)(zc:fd.scope.isGenerator=ab)(si:∀vs,vs.length=K.length->dw fd ⟨vs,[]⟩=pure ((K.map NM).zip vs))(hk:fd.scope.kind=dZ)(hgl:fd.globals=ef)(hbi:fd.builtins=gb)(tR:K.Nodup)(dM:K.length=avs.length)(E:∀x∈K,Hx fd.scope x)(bK:A.depth<1000)(he:fL H U A L J G (e::es) avs)(dH:dW (e::es)=N)(hss:∀br,pP H τ' U (A.deeper (gN fd br a)) fd.scope (gN fd br a) body (qJ K avs) G' (O av))(ZO:fr=N->flat av=N)(nS:∀b∈H,b∈τ'):
 EVm H τ' U A L J G (bx (aq fn np) (e::es) [] pos) av fr:=λs r=>by
 show eZ (wL dH) λh1 h2=>bg hf.obj λo ho hd=>mf (rg (pR r.kind (r.gl fn kM) (r.glob▸B.mg r.base) hg ?_) hdb);show LM (o:=o) (fd:=fd) ?_;rw[dp h1];show evalArgs_plain ?_;have Ji:=he s pos r;rw[dp h1]at Ji;show Ji.QW λvs aD F x1 aP=>have b1:=r.base.trans x1.ext;have QM:=b1.keep a _ hf.off ho;⟨⟨QM,hd⟩,kT ?_⟩;have hvl:vs.length=K.length:=by rw[bA.length aP,dM]
 show codeAny_call_cells (by assumption) QM hd (B.zo b1) (hf.abR b1) OE (si vs hvl) ae3 (λx hxm=>?_) (λaQ ic=>?_) Du zc hk
 .obtain ⟨n,v⟩:=x;show bg (bG.mp ((sW hxm).1)) λy hy dX=>(dX▸?_);rcases E y hy with q|q
  .show ak q
  .show aw ⟨q,kq _ _ _ _ (ak (mH q))⟩
 .show eS ic.done λhh tk e2 _=>(hss _ (FR.start B.top b1 aP hk hgl hbi tR hvl.symm E ic)).wp λf dg ou=>yG ou λm3 x3 v F3 hf3 V3=>(hf3▸?_);have Rc:aQ.os=aD.os/\aQ.drawn=aD.drawn/\aQ.gens=aD.gens:=by show e2▸?_;show gT Z Z Z
  show⟨(x1.up nS).trans ⟨x3,m3.os.trans Rc.1,m3.drawn.trans Rc.2.1,m3.gens.trans Rc.2.2⟩,F3,V3,λq=>?_⟩;rw[cW.1 _ _ _ (ZO q) V3];show⟨λ_ D=>(kI D),rN⟩
theorem Rd{f:Nat}{cvs:List AV}{K:LN}(B:cx U mg mb)(hxx:ck G x=O (k,tL f ns cvs))(Du:(ST f).scope.isCoroutine=ab)(zc:(ST f).scope.isGenerator=ab)(Ou:∀y∈(ST f).scope.names,y.2≠dy)(si:∀fd:cq,fd.params=(ST f).params->fd.defaults=ax->fd.kwdefaults=ax->∀vs,vs.length=K.length->dw fd ⟨vs,[]⟩=pure ((K.map NM).zip vs))(hk:(ST f).scope.kind=dZ)(tR:K.Nodup)(dM:K.length=avs.length)(E:∀x∈K,(ST f).scope.names.lookup (NM x)=O cU)(hn:∀x∈ns,(ST f).scope.names.lookup (NM x)=O eO)(bK:A.depth<1000)(he:fL H U A L J G (e::es) avs)(dH:dW (e::es)=N)(hss:∀fZ,SS H U (A.deeper fZ) (ST f).scope fZ (ST f).body (qJ K avs++qJ ns cvs) G' (O av))(ZO:fr=N->flat av=N):
 V H U A L J G (bx (aq (NM x) np) (e::es) [] pos) av fr:=λs r=>by
 show eZ (wL dH) λh1 h2=>mf<|(zP r hxx).Z6 λfv F0 H0 V0=>og λgG kG=>ki V0 λa o fd cs alr F' dX hat ho hd P i1 i2 e5 qG=>fR i1 λc oc ws t c1 c2 c3 c4 c5=>ie i2 λq l1 l2=>kG ?_;clear kG gG;show dX▸LM (o:=o) (fd:=fd) ?_;rw[dp h1];show evalArgs_plain ?_;have Ji:=he s pos r;rw[dp h1]at Ji;show Ji.QW λvs aD F x1 aP=>have b1:=r.base.trans x1.ext;have QM:=x1.ext.keep a _ hat ho;⟨⟨QM,hd⟩,kT ?_⟩;have hvl:vs.length=K.length:=by rw[bA.length aP,dM]
 show JX (by assumption) QM hd (P.2.2.2.1▸Du) (P.2.2.2.1▸zc) P.2.2.1 ((DT c oc ws t c1 (x1.ext.keep c _ c2 c3) c4 (P.1▸c5)))<|(show([]:List aa)++vs=vs from rfl).symm▸(si fd P.2.1 P.2.2.2.2.2.2.1 P.2.2.2.2.2.2.2 vs hvl).symm▸aB (An (P.2.2.2.1▸Ou) (λy hy=>?_) (λh3 sh wI=>?_) (P.2.2.2.1▸hk))
 .obtain ⟨n,v⟩:=y;show bg (bG.mp (sW hy).1) λz hz DU=>DU▸P.2.2.2.1.symm▸E z hz
 .have hL:=bD aD.heap;have x3:hJ H aD.heap h3:=.of_keep (λb o e=>wI.extBut b o (fE (cj e)) (a0 _ e));show⟨B.zo (b1.trans x3),Ke ?_⟩;have rev:∀i y v,K[i]? =O y->vs[i]? =O v->((K.map NM).zip vs).reverse.lookup (NM y)=O v:=λi y v hy hv=>by
   have key:∀(l:List (aV×aa)),(l.map (·.1)).Nodup->∀n v,(n,v)∈l->l.lookup n=O v:=by
    intro l;induction l with
    |nil=>intro _ n v h;ext
    |cons p l ih=>
     show λabS n v hm=>og λgG kG=>?_;obtain⟨n',v'⟩:=p;show kG ?_;clear kG gG;simp at abS;dsimp only[AK];rcases bq.mp hm with hm2|hm2
     .show Yb hm2 λa1 a2=>?_;subst a1;subst a2;simp
     .cases hq:n==n' with
      |true=>rw[(by symm;simpa using hq:n'=n)]at abS;show((abS.1 v) hm2).elim
      |false=>show ih abS.2 n v hm2
   show key _ ?_ _ _ ?_
   .rw [List.map_reverse];show List.pairwise_reverse.mpr (aa9 eQ ?_);have:(((K.map NM).zip vs).map (·.1))=K.map NM:=by rw[List.map_fst_zip];simp[hvl]
    rw[this];show aba NM (λa b hab e=>hab (Cx e)) tR
   .rw [EN];show KJ.mpr ⟨i,?_⟩;rw[List.zip,EH,cZ,hy,hv];rfl
  have fr0:FR H U aD.heap (ST f).scope (newEnv fd.scope aD.heap.objs.size fd.globals fd.closure (fd.qualname++ ".<locals>.") (O a) fd.code eV fd.builtins) h3 (qJ K avs++qJ ns cvs) [aD.heap.objs.size]:=by
   have Wr:∀y,(newEnv fd.scope aD.heap.objs.size fd.globals fd.closure (fd.qualname++ ".<locals>.") (O a) fd.code eV fd.builtins).kindOf y=(ST f).scope.names.lookup y:=λy=>by show P.2.2.2.1▸?_;rfl
   show⟨b1,x3,P.2.2.2.1,hk,P.2.2.2.2.1,P.2.2.2.2.2.1,bI.mpr Z,(DR _ sh),λy hy=>absurd Z (Ou _ (mH hy)),λy z c' hy=>absurd Z (Ou _ (mH hy)),λb hb'=>?_,?_⟩
   .apply jQ hb';show gT hL (fo (jw B.top b1)) (MG sh)
   .have key:∀y k' mI,ck (qJ K avs++qJ ns cvs) y=O (k',mI)->∃v F',Ak (newEnv fd.scope aD.heap.objs.size fd.globals fd.closure (fd.qualname++ ".<locals>.") (O a) fd.code eV fd.builtins) h3 (NM y) v/\bM h3 mI v F'/\k'=0/\∀b∈F',∃o,aD.heap.get? b=O o:=λy k' mI e=>by
     rcases(Oq e) with e|e
     .show oY (CG e) λdX i g2 g3 _=>dX▸ju (bA.get aP g3) λv F' g4 g5 g6=>((Mt v F' (ak ⟨by rw[Wr];show E y (cY g2),_,sh,rev i y v g2 g4⟩) (g5.ext x3) Z (λb hb'=>?_)));show iL (g5.kinds b hb') λ_ o' e' _=>DR o' e'
     .show oY (CG e) λdX i g2 g3 _=>dX▸l0 (q i y g2) λc' v' g4 g5 g6 g7 g8=>(ju (bA.get e5 g3) λv QZ g9 g10 g11=>?_);replace g9:=g5▸g9;obtain rfl:=aW g9;have x13:=x1.ext.trans x3;show Mt v' QZ (aw ⟨aw (by rw[Wr];show hn y (cY g2)),c',g6,g7,x13.cell g7 g8⟩) (g10.ext x13) Z<|λb hb'=>iL ((g10.ext x1.ext).kinds b hb') λ_ o' e' _=>DR o' e'
    show jd (WB key) λval fp q'=>((qE val fp (λy k' mI e=>?_)));show iK (q' y k' mI e) λr1 r2 r3 r4=>(⟨r1,r2,(λh1=>by have h1:=r3▸h1;ext),λ_ b hb' hw=>?_⟩);obtain rfl:=bI.mp hw;show dG (r4 _ hb') λo' e'=>?_;have e':=hL.symm.trans e';ext
  show(hss _ (s:={aD with heap:=h3,toks:=aD.toks+((K.map NM).zip vs).length}) fr0).wp λfl dg ou=>yG ou λm3 x4 v F3 hf3 V3=>hf3▸⟨x1.trans ⟨x4,m3.os,m3.drawn,m3.gens⟩,F3,V3,λq=>?_⟩;rw[cW.1 _ _ _ (ZO q) V3];show⟨λ_ D=>(kI D),rN⟩
inductive ae4(H:List ae)(U D:aO)(L:du)(J:cJ)(h:aO)(G:iz)(y:Nat)(av:AV)(W:List ae):Prop
 |mk (W':List ae) (c:ae) (v:aa) (F:List ae) (r:FR H U D L J h (jh G y 2 av) W') (w:∀b∈W',b∈W) (y1:J.cells.lookup (NM y)=O c) (y2:c∉bV) (y3:h.IsCell c (O v)) (y4:c∉W') (y5:bM h av v F) (y6:∀b∈F,b∉W')
theorem FR.freeze(r:FR H U D L J h G W)(hy:ck G y=O (0,av))(hk:L.names.lookup (NM y)=O dy):
 ae4 H U D L J h G y av W:=by
 show lZ (r.cell y hk) λc c1 c2 c3 c4=>dG c2 λcv c2=>jd r.ents λval fp q=>mB (q y 0 av hy) λa1 a2 _ a4=>?_;have hcv:h.IsCell c (O (val y)):=by
  show bc a1 (λi0=>eZ i0 λk1 _=>?_) λi0=>oY i0 λ_ c' e1 _ e3=>?_
  .have:J.kindOf (NM y)=O dy:=by delta j7;show(r.scope)▸?_;show hk
   have k1:=this.symm.trans k1;ext
  .replace e1:=c1▸e1;show aW e1▸e3
 show⟨abG W [c],c,val y,fp y,?_,λb hb'=>(iT.mp hb').1,c1,c3,hcv,λhm=>(iT.mp hm).2 au,a2,λb hb' hm=>a4 aL b hb' (iT.mp hm).1⟩;show⟨r.b1,r.ext,r.scope,r.kind,r.glob,r.bi,iT.mpr ⟨r.loc,λhm=>?_⟩,r.ns,λz hz=>?_,r.pV,λb hb'=>r.je b (iT.mp hb').1,val,fp,λx k mI e=>?_⟩
 .show dG r.ns λm n=>?_;rw[bI.mp hm]at n;show Ns.mP n c2
 .show lZ (r.cell z hz) λd d1 d2 d3 d4=>((wy d d1 d2 d3 ?_));show if hzy:z=y then hzy▸ak ⟨av,by rw[fJ,if_pos Z]⟩ else ?_
  rcases d4 with⟨av2,d4⟩|d4
  .show ak ⟨av2,by rw[fJ,if_neg hzy];show d4⟩
  .show aw (iT.mpr ⟨d4,λhm=>hzy (r.pV y z d hk (bI.mp hm▸c1) d1)⟩)
 .rw [fJ]at e;by_cases hxy:x=y
  .cases hxy
   replace e:=(if_pos Z)▸e;show Yb (aW e) λa1 a2=>?_;subst a1;subst a2;show⟨a1,a2,(λh1=>by ext),λ_ b hb' hm=>a4 aL b hb' (iT.mp hm).1⟩
  .rw [if_neg hxy]at e;show mB (q x k mI e) λb1 b2 b3 b4=>(⟨b1,b2,λh1=>⟨(b3 h1).1,λb hb'=>?_⟩,λh1 b hb' hm=>b4 h1 b hb' (iT.mp hm).1⟩);show qH ((b3 h1).2 b hb') λp1 p2 p3=>(⟨iT.mpr ⟨p1,λhm=>p2.mP (bI.mp hm▸c2)⟩,p2,λz k3 Yf e3 hz=>?_⟩);rw[fJ]at e3;show if hzy:z=y then p3 z 0 av (hzy▸hy) hz else ?_
   rw[if_neg hzy]at e3;show p3 z k3 Yf e3 hz
theorem aek{qn:aV}{dv:List aa}{b1 b2:Bool}(h1:dv.isEmpty=b1)(h2:cl.isEmpty=b2)(jy:rh scope J=pure cl)(ae5:docOf body=ai)(h:aA M A (do
 let dV<-if b1 then pure ax else newTextTuple dv
 let cT<-if b2 then pure ax else newTextTuple ((cl.mergeSort λa b=>a.1.cps.toList<=b.1.cps.toList).map (R ·.2))
 let code<-functionCode J pos ln nm qn params scope (kZ body)
 let bi<-builtinsFor J.globals J.builtins
 let m<-nsGet J.globals "__name__"
 newObj (ao "function") (qt {name:=nm,qualname:=qn,params,body:=kZ body,scope,globals:=J.globals,closure:=cl,closureTuple:=cT,code,builtins:=bi,defaults:=dV,kwdefaults:=ax,annotations:=ai,pyModule:=m.getD ax,doc:=ax})) Q aX s):
 aA M A (Kf nm qn params (kZ body) scope J dv [] [] pos ln) Q aX s:=by
 delta Kf
 show((by rw[List.zip_nil_right];rfl:((params.kwonlyargs.zip ([]:List (Option aa))).filterMap λ(a,d)=>d.map (a.arg,·))=[])).symm▸jy.symm▸?_;subst h2;show h1.symm▸?_;simp only[ae5];show h
theorem Rf{f:Nat}{ay az:AV}{c P:ae}(B:cx U mg mb)(ag9:PlainDefTree (NM x) params body scope pos)(hy:ck G y=O (0,ay))(hz:ck G z=O (0,az))(hyz:z≠y)(hxy:x≠y)(hxz:x≠z)(hky:L.names.lookup (NM y)=O dy)(hkz:L.names.lookup (NM z)=O dy)(hkx:L.names.lookup (NM x)=O dy)(dH:bS G x=N)(aha:∀p∈scope.names,p.2=eO->p.1=NM y\/p.1=NM z)(hfy:(NM y,eO)∈scope.names)(hfz:(NM z,eO)∈scope.names)(ae5:docOf body=ai)(hS:ST f=⟨NM x,J.qual++NM x,params,body,scope⟩)(pn:J.code=R c)(hc:c∉bV)(oy:U.IsCode c P #[])(vH:U.TableAt c P #[])(hP:P∈bV)(pv:P∉H)(kr:P∈τ')(nS:∀b∈H,b∈τ'):
 S1m H τ' U A L J (AY (NM x) params body [] ai [] scope ai (NM x) pos) G (jh (jh (jh G y 2 ay) z 2 az) x 0 (tL f [y,z] [ay,az])) ai:=λD s W r=>by
 obtain⟨W1,cy,vy,Fy,r1,w1,y1,y2,y3,y4,y5,y6⟩:=r.freeze hy hky;obtain⟨W2,cz,vz,Fz,r2,w2,z1,z2,z3,z4,z5,z6⟩:=r1.freeze (by rw[fJ,if_neg hyz];show hz) hkz;have b0:=r.base
 -- the ajK table is as the top left it
 have OF:s.heap.TableAt c P #[]:=by obtain⟨⟨o,vs,t1,t2,t3,t4⟩,t5⟩:=vH;show⟨(Mt o vs (b0.keep c _ hc t1) t2 t3 t4),b0.quiet P _ hP pv t5⟩
 have hq:qualnameIn J (NM x) (NM x)=J.qual++NM x:=by
  delta qualnameIn j7
  show r.scope.symm▸hkx.symm▸?_;rfl
 rw[ag9,hq];show ah<|jT<|ah<|cQ<|og λgG kG=>?_;obtain⟨cl,jy,wJ⟩:=wH (J:=J) (λp hp hk=>by
  rcases aha p hp hk with e|e
  .show ⟨cy,by show(e)▸?_;show y1⟩
  .show ⟨cz,e▸z1⟩)
 have qI:cl.isEmpty=ab:=by
  cases cl with
  |nil=>have:=wJ _ hfy;have this:=this.trans y1;ext
  |cons p cl=>rfl
 have top:=jw B.top b0;show vt B.bmod λbm ob hbm Rg hbT Rh Ri GB BB=>kG ?_;clear kG gG;show aek Z qI jy ae5<|ah<|aB<|ah<|TG<|ah (TA pn ((FF oy (λ_=>b0.keep c _ hc) λ_=>b0.quiet P _ hP pv).push _) (OF.push _) Z λc' h3 tk E hge jx _ Rj Yr _=>?_);have ahb:=a8 (by rw[dE];show lP _) hge;have x3:hJ τ' s.heap h3:=by
  show⟨λb o hb' e=>E b o (λq=>hb' (q▸hP)) (a0 _ e),λb hb' ps e=>?_,λb o e=>?_,λb o hb' hq' e=>E b o (λq=>hq' (q▸kr)) (a0 _ e)⟩
  .show if ς:b=P then ?_ else⟨#[],E b _ ς (a0 _ e)⟩
   cases ς
   have:=OF.2;have hps:ps=#[]:=by
    injection (aW (e.symm.trans this)) with _ _ h3 _
    injection h3
   show hps▸⟨_,Yr.2⟩
  .show if ς:b=P then ς▸⟨_,Yr.2⟩ else⟨o,E b o ς (a0 _ e)⟩
 have bg3:h3.Ns J.globals mg:=by show(r.glob)▸?_;show B.mg ((b0.up nS).trans x3)
 show ah<|Ed bg3 hbm Rg (((b0.up nS).trans x3).keep bm _ hbT Rh) Ri GB BB<|ah<|xJ bg3<|ah<|Ar<|aB<|ah (jT (ah (Ef ?_)));generalize hfd:({name:=NM x,qualname:=J.qual++NM x,params:=params,body:=kZ body,scope:=scope,globals:=J.globals,closure:=cl,defaults:=ax,kwdefaults:=ax,doc:=_,pyModule:=_,annotations:=_,code:=_,closureTuple:=_,builtins:=gb}:cq)=fd;have f10:fd.closure=cl:=congrArg _ hfd.symm;have x4:hJ τ' h3 (h3.push {cls:=ao "function",data:=qt fd}):=.push _ _;have x34:=x3.trans x4;have aP:bM (h3.push {cls:=ao "function",data:=qt fd}) (tL f [y,z] [ay,az]) (R h3.objs.size) ([cy,cz]++(Fy++(Fz++[]))):=by
  show gv Rj λc2 o2 vs2 t2 e2 g2 r21 r22=>?_;obtain rfl:=j6 e2;show⟨h3.objs.size,_,fd,[cy,cz],[vy,vz],Fy++(Fz++[]),rfl,fo (a8 top (a8 ahb (gz jx))),bJ _ Z,rfl,(hfd▸hS▸⟨rfl,rfl,rfl,rfl,r.glob,rfl,rfl,rfl⟩),
   (Z2 c' o2 vs2 t2 (congrArg _ hfd.symm) (fo (a8 top ahb)) (a0 _ g2) r21 (by show(hS)▸?_;show r22)),(gT (λi u hu=>?_) Z Z),?_,rfl⟩
  .cases i with
   |zero=>show aW hu▸Z1 cy vy Z Z (f10▸(wJ _ hfy)▸y1) y2 (x34.cell y2 y3)
   |succ i=>cases i with|zero=>show aW hu▸Z1 cz vz Z Z (f10▸(wJ _ hfz)▸z1) z2 (x34.cell z2 z3)|succ i=>ext
  .show ej Fy (Fz++[]) (y5.ext x34) (ej Fz [] (z5.ext x34) .nil)
 have hFW:∀b∈[cy,cz]++(Fy++(Fz++[])),b∉W2:=λb hb' hm=>by
  revert hm
  show zK (P:=λb=>b∈W2->False) hb' (λhm=>y4 (w2 _ hm)) λhb'=>zK (P:=λb=>b∈W2->False) hb' z4 λhb' hm=>bc (bY.mp (show b∈Fy++(Fz++[]) from hb')) (λh=>y6 b h (w2 _ hm)) λh=>z6 b ((yb Fz)▸h) hm
 have CH:bS (jh (jh G y 2 ay) z 2 az) x=N:=by
  delta bS
  rw[fJ,if_neg hxz,fJ,if_neg hxy];show dH
 show(j9 (s:={s with heap:=h3.push {cls:=ao "function",data:=qt fd},toks:=tk}) (((r2.up nS).grow x34)) (aw hkx) CH aP (.alias hFW)).Cw λ_ s5 r5 m5=>aB<|have m4:mC W s {s with heap:=h3.push {cls:=ao "function",data:=qt fd},toks:=tk}:=⟨x34.mod W,rfl,rfl,eW _⟩;⟨m4.trans m5 (λd hd=>ak (w1 d (w2 d hd))),rfl,W2,r5,λd hd=>ak (w1 d (w2 d hd))⟩
noncomputable def aT(n:Nat):AV:=a6 (aj n)
def aY(ns:LN):AV:=bR (ns.map aT)
theorem CI(n:Nat):flat (aT n)=N:=rfl
theorem hO(ns:LN):iS (ns.map aT)=N:=by
 induction ns with
 |nil=>rfl
 |cons n ns ih=>assumption
theorem dS(ns:LN):ja (ns.map aT)=O (ns.map aj):=by
 induction ns with
 |nil=>rfl
 |cons n ns ih=>show congrArg (UU (aj n::·)) ih
theorem jK(ns:LN):vZ (aY ns)=N:=by
 induction ns with
 |nil=>rfl
 |cons n ns ih=>assumption
theorem fq{a i:aG}(ha:V H U A L J G a (aY ns) ab)(hi:V H U A L J G i (aT k) ab)(hk:k<ns.length)(hl:ns.length<=1000)(sf:j8 i=ab):V H U A L J G (dk a i pos) (aT (ns.getD k 0)) fr:=by show wD ha hi ?_ sf (λ_=>rfl);show(?_:cond (dY k 1000000) ((ns.map aT)[k]?) eV=_);show(eU au:dY k 1000000=N).symm▸cZ.symm▸(dF hk).symm▸da.symm▸(dF hk).symm▸?_;rfl
theorem fu{a b:aG}(ha:V H U A L J G a (aT x) ab)(D:V H U A L J G b (aT y) ab):
 V H U A L J G (fi a rP b pos) (aT (x+y)) fr:=lj .add ha D Z
theorem nB{a b:aG}(ha:V H U A L J G a (aT x) ab)(D:V H U A L J G b (aT y) ab):
 V H U A L J G (fi a Bc b pos) (aT (x ^^^ y)) fr:=lj .xor ha D Z
theorem lR{a b:aG}(ha:V H U A L J G a (aT x) ab)(D:V H U A L J G b (aT y) ab)(h:y<=x):
 V H U A L J G (fi a FD b pos) (aT (x - y)) fr:=lj .sub ha D (by change O (aj x - aj y)=_;rw[(by lia:aj x - aj y=aj (x - y))])
theorem lS{a b:aG}(ha:V H U A L J G a (aT x) ab)(D:V H U A L J G b (aT y) ab)(h:x<1000000):
 V H U A L J G (fi a vm b pos) (aT (x * y)) fr:=lj .mul ha D (by show(?_:cond (o4 (aj x)) _ _=_);show(by show decide_eq_true au:o4 (aj x)=N).symm▸?_;rfl)
theorem yI{a b:aG}(ha:V H U A L J G a (aT x) ab)(D:V H U A L J G b (aT y) ab)(h:0<y):
 V H U A L J G (fi a Bd b pos) (aT (x % y)) fr:=lj .fmod ha D (by change cond (decide (0<aj y)) _ _=_;rw[decide_eq_true (by show AD.mpr h)];rw[EC _ fH];rfl)
theorem MO{a b:aG}(ha:V H U A L J G a (aT x) ab)(D:V H U A L J G b (aT y) ab)(h:0<y)(h2:y<1000000):
 V H U A L J G (fi a FC b pos) (aT (x / y)) fr:=lj .fdiv ha D (by change cond (o4 (aj y) && decide (0<aj y)) _ _=_;rw[(by show decide_eq_true au:o4 (aj y)=N),decide_eq_true (by show AD.mpr h)];rw[Int.fdiv_eq_ediv_of_nonneg _ fH];rfl)
theorem GC{a b c:aG}{m:Nat}(ha:V H U A L J G a (aT x) ab)(D:V H U A L J G b (aT y) ab)(hc:V H U A L J G c (aT m) ab)(h:0<m)(hy:y<=m):V H U A L J G (fi (fi a FD b pos) Bd c Ct) (aT ((x+m - y) % m)) fr:=lj .fmod (lj .sub ha D Z) hc (by
 change cond (decide (0<aj m)) _ _=_;rw[decide_eq_true (by show AD.mpr h)];congr 1;have e:aj x - aj y=aj (x+m - y) - aj m:=by lia
 rw[e,EC _ fH];have e2:(aj (x+m - y) - aj m) % aj m=aj (x+m - y) % aj m:=by rw[Int.sub_emod_right]
 rw[e2];rfl)
theorem aR(n:Nat):V H U A L J G (fN (jI (aj n)) k pos) (aT n) fr:=V.int
theorem abT{a b:aG}(ha:V H U A L J G a (aT x) ab)(D:V H U A L J G b (aT y) ab):
 o7 H U A L J G (jt a [FJ] [b] pos) (decide (x<y)):=by
 have:=mA (pos:=pos) .lt ha D;have e:gU .lt (aj x) (aj y)=decide (x<y):=decide_eq_decide.mpr fH;rw[e]at this;show this
theorem WC{a b:aG}(ha:V H U A L J G a (aT x) ab)(D:V H U A L J G b (aT y) ab):
 o7 H U A L J G (jt a [VP] [b] pos) (decide (x<=y)):=by
 have:=mA (pos:=pos) .le ha D;have e:gU .le (aj x) (aj y)=decide (x<=y):=decide_eq_decide.mpr fH;rw[e]at this;show this
theorem vI{a b:aG}(ha:V H U A L J G a (aT x) ab)(D:V H U A L J G b (aT y) ab):
 o7 H U A L J G (jt a [CmpOp.Gt] [b] pos) (decide (y<x)):=by
 have:=mA (pos:=pos) .gt ha D;have e:gU .gt (aj x) (aj y)=decide (y<x):=decide_eq_decide.mpr fH;rw[e]at this;show this
theorem BC{a b:aG}(ha:V H U A L J G a (aT x) ab)(D:V H U A L J G b (aT y) ab):
 o7 H U A L J G (jt a [Bg] [b] pos) (decide (x=y)):=by
 have:=mA (pos:=pos) .eq ha D;have e:gU .eq (aj x) (aj y)=decide (x=y):=by
  delta gU
  lia
 rw[e]at this;show this
theorem yJ{a b:aG}(ha:V H U A L J G a (aT x) ab)(D:V H U A L J G b (aT y) ab):
 o7 H U A L J G (jt a [FI] [b] pos) (decide (x≠y)):=by
 have:=mA (pos:=pos) .ne ha D;have e:gU .ne (aj x) (aj y)=decide (x≠y):=by
  delta gU
  lia
 rw[e]at this;show this
theorem kb{a:aG}(B:cx U mg mb)(I:dQ mg mb)(kM:Gi L "len")(ha:V H U A L J G a (aY ns) ab)(dH:cI a=ab)(hl:ns.length<=1000):V H U A L J G (bx (aq (aC "len") np) [a] [] pos) (aT ns.length) fr:=by have:=V.len (fr:=fr) (np:=np) (pos:=pos) B I kM ha dH (eU jM);rw[ik]at this;show this
theorem yK:QV.length=255:=by rfl
theorem GG:∀n,(Cv n).length=256
 | 0=>ro ..
 |n+1=>(ES ..).trans (GG n)
theorem tS:wt.length=256:=GG 255
theorem Rk{p:Nat}(h:p<256):IB p<256:=
 (by decide:∀p,p<256->IB p<256) p h
theorem OG:∀n,pw n<256
 | 0=>by decide
 |n+1=>Rk (OG n)
theorem Ys:∀n,n<=255->∀k,(Cv n).getD k 0<255:=by
 intro xX;induction xX with
 |zero=>intro _ k;show(?_:(bZ 256 0)[k]?.getD 0<255);rw[Uc];split<;>decide
 |succ n iH=>
  intro h k;show(?_:((Cv n).set (pw n) n)[k]?.getD 0<255);rw[EL];split
  .split
   .show h
   .decide
  .show iH (rD h) k
noncomputable def lg(a:Nat):Nat:=wt.getD a 0
noncomputable def FO(k:Nat):Nat:=QV.getD k 0
theorem WD(a:Nat):lg a<255:=Ys 255 (ey _) a
theorem GH(h:k<255):FO k=pw k:=by
 delta FO QV
 rw[da,cZ,oM h];rfl
theorem CJ:FO k<256:=by
 by_cases h:k<255
 .rw [GH h];show OG k
 .delta FO
  rw[da,rp (by rw[yK];show oQ h)];simp
def tm(a b:Nat):Nat:=if a=0\/b=0 then 0 else FO ((lg a+lg b) % 255)
theorem eY(a b:Nat):tm a b<256:=by
 delta tm
 split
 .simp
 .show CJ
def tG(a b:Nat):iz:=qJ [55,56] [aT a,aT b]++qJ [54,53] [aY QV,aY wt]
theorem Rl{a b:Nat}(ha:a<256)(D:b<256):SS H U A (bf QS) J (bh QS) (tG a b) (tG a b) (O (aT (tm a b))):=by
 have hc:o7 H U A (bf QS) J (tG a b) _ _:=QX (pos:=⟨285,11,285,27⟩) (BC (pos:=⟨285,11,285,17⟩) (ar (pos:=⟨285,11,285,12⟩) 55 Z) (aR (k:=0) (pos:=⟨285,16,285,17⟩) 0))
  (λ_=>BC (pos:=⟨285,21,285,27⟩) (ar (pos:=⟨285,21,285,22⟩) 56 Z) (aR (k:=0) (pos:=⟨285,26,285,27⟩) 0))
 by_cases h0:a=0\/b=0
 .have e:(decide (a=0) ||decide (b=0))=N:=by simpa using h0
  rw[e]at hc;have et:tm a b=0:=if_pos h0;rw[et];show tQ (S1.ite hc (λ_=>tQ (S1.ret (aR 0))) (λq=>nnT q))
 .have e:(decide (a=0) ||decide (b=0))=ab:=by simpa using h0
  rw[e]at hc;have et:tm a b=FO ((lg a+lg b) % 255):=if_neg h0;rw[et];show SS.cons (S1.ite hc (λq=>Iv q) (λ_=>SS.nil))<|tQ<|S1.ret<|fq (ar 54 Z) (yI (fu (fq (ar 53 Z) (ar 55 Z) ?_ ?_ Z) (fq (ar 53 Z) (ar 56 Z) ?_ ?_ Z)) (aR 255) bu) ?_ ?_ Z;all_goals first|(rw[tS];lia)|(show yK.symm▸?_;first|lia|show m9 _ (rfl))
theorem zr.eq{ns ms:List Int}(x:zr H U A L J G e ns)(h:ns=ms):zr H U A L J G e ms:=h▸x
theorem τ(n:Nat):Dq 0 1 n=(aJ n).map aj:=by apply AI;intro i _;simp
theorem fV(hh:dh A)(B:cx U mg mb)(I:dQ mg mb)(kM:Gi L "range")(he:V H U A L J G e (aT n) ab)(dH:cI e=ab)(hn:n<=100000):zr H U A L J G (bx (aq (aC "range") np) [e] [] pos) ((aJ n).map aj):=(zQ hh B I kM he dH au fH).eq (τ n)
theorem OH{a b:Nat}(hh:dh A)(B:cx U mg mb)(I:dQ mg mb)(kM:Gi L "range")(he:V H U A L J G e (aT a) ab)(dH:cI e=ab)(Ji:V H U A L J G e' (aT b) ab)(IE:cI e'=ab)(ha:a<=100000)(D:b<=100000):zr H U A L J G (bx (aq (aC "range") np) [e,e'] [] pos) (((aJ (b - a)).map (a+·)).map aj):=by have hk':aj b=(b:Int):=rfl;show(zR hh B I kM he dH Ji IE au au au au).eq ?_;rw[(by simp:(aj b - aj a).toNat=b - a)];rw[qm];apply AI;intro i _;simp
theorem qK(x:Nat)(hh:dh A)(B:Tp U)(E:ck G x=O (k,aY ns))(hk:fF k 1=ab):zr H U A L J G (aq (NM x) pos) (ns.map aj):=
 abM hh B E hk (dS ns)
theorem GI(hh:dh A)(B:Tp U)(he:V H U A L J G e (aY ns) N):zr H U A L J G e (ns.map aj):=
 zr.new hh B he (dS ns)
theorem ael{ns:List α}{upd:σ->α->σ}{P:Nat->σ->Prop}{s0:σ}(h0:P 0 s0)(st:∀i n s,ns[i]? =O n->P i s->P (i+1) (upd s n))(i:Nat)(hi:i<=ns.length):P i ((ns.take i).foldl upd s0):=by
 induction i with
 |zero=>show h0
 |succ i ih=>have e:=dF hi;show A3 _ _ e▸st i _ _ e (ih (rD hi))
theorem dq(x:Nat)(ns:LN)(Γ:σ->iz)(upd:σ->Nat->σ)(P:Nat->σ->Prop)(s0:σ)(um:zr H U A L J G iter (ns.map aj))(h0:km (Γ s0) G)(hp0:P 0 s0)(E:Hx L x)(dH:∀st,bS (Γ st) x=N)(step:∀i n st,ns[i]? =O n->P i st->P (i+1) (upd st n)/\SS H U A L J body (jh (Γ st) x 0 (aT n)) (Γ (upd st n)) ai)(hs:Fs iter J):
 S1 H U A L J (j4 (aq (NM x) px) iter body [] pos) G (Γ (ns.foldl upd s0)) ai:=by
 have key:=abO (px:=px) (pos:=pos) (body:=body) (λi=>Γ ((ns.take i).foldl upd s0)) um h0 E (λi _=>dH _) (λi n hn=>?_) hs
 .rw [ik,sV]at key;show key
 .rw [cZ]at hn;show bg (iY.mp hn) λm hm e=>A3 _ _ hm▸e▸(step i m _ hm (ael hp0 (λi n s a b=>(step i n s a b).1) i (gz (dR.mp hm).1))).2
theorem SS.done(h:km G' G):SS H U A L J [] G G' ai:=SS.nil.out h
theorem S1.to{ret:Option AV}(x:S1 H U A L J st G G0 ret)(h:G0=G1):S1 H U A L J st G G1 ret:=h▸x
theorem V.to(x:V H U A L J G e av fr)(h:av=mI):V H U A L J G e mI fr:=h▸x
theorem yL(x n:Nat)(E:ck G x=O (1,aY ns))(he:V H U A L J G e (aT n) ab)(dH:cI e=ab)(lz:(apos.endLine==cpos.line)=N)(hl:ns.length<=1000):
 S1 H U A L J (qw (bx (gZ (aq (NM x) p) (aC "append") apos) [e] [] cpos) pos) G (jh G x 1 (aY (ns++[n]))) ai:=λD s W r=>by
 have:=S1.app (p:=p) (pos:=pos) E (hO ns) he (CI n) dH lz (eU jM) (by delta iG;show r.scope.symm▸r.kind.symm▸?_;rfl) r;rw[(by simp:ns.map aT++[aT n]=(ns++[n]).map aT)]at this;show this
theorem MP(x:Nat){i:aG}(E:ck G x=O (1,aY ns))(he:V H U A L J G e (aT n) ab)(hi:V H U A L J G i (aT j) ab)(hj:j<ns.length)(hl:ns.length<=1000)(hs:fD e (O (dk (aq (NM x) p) i p')) pos.line J=pure ab):
 S1 H U A L J (eF [dk (aq (NM x) p) i p'] e pos) G (jh G x 1 (aY (ns.set j n))) ai:=by
 have:=abI E (hO ns) he (CI n) hi (eU (by simp;assumption)) (eU jM) hs;rw[(by rw[KX]:(ns.map aT).set j (aT n)=(ns.set j n).map aT)]at this;show this
def gM0(ws:LN)(c:Nat)(kn:LN):iz:=[(17,0,aY ws),(3,0,aT c),(24,0,aY kn)]
def gM1(ws:LN)(c:Nat)(kn:LN)(st:LN×LN×Nat):iz:=[(17,0,aY ws),(3,0,aT c),(24,0,aY kn),(54,1,aY st.1),(53,1,aY st.2.1),(32,0,aT st.2.2)]
def abU(st:LN×LN×Nat)(i:Nat):LN×LN×Nat:=(st.1++[st.2.2],st.2.1.set st.2.2 i,IB st.2.2)
theorem Yt:∀n,(aJ n).foldl abU ([],bZ 256 0,1)=((aJ n).map pw,Cv n,pw n):=by
 intro xX;induction xX with
 |zero=>show rfl
 |succ n iH=>rw[sX,ql,iH];rw[jY];rfl
theorem ajL(B:cx U mg mb):S1 H U A lG J (a9 dz 0) (gM0 ws c kn) (gM0 ws c kn++[(54,1,aY [])]) ai:=
 gi 54 (aY []) (o8 B.top fL.nil Z Z) Z Z (aw Z) Z
theorem ajM(B:cx U mg mb):S1 H U A lG J (a9 dz 1) (gM0 ws c kn++[(54,1,aY [])]) (gM0 ws c kn++[(54,1,aY []),(53,1,aY (bZ 256 0))]) ai:=
 gi 53 _ ((Q3 B.top (o8 B.top (fL.cons V.int fL.nil Z) Z Z) V.int Z Z Z).to (by delta aY;rw[KO];rfl)) (jK _) Z (aw Z) Z
theorem ajN:S1 H U A lG J (a9 dz 2) (gM0 ws c kn++[(54,1,aY []),(53,1,aY (bZ 256 0))]) (gM1 ws c kn ([],bZ 256 0,1)) ai:=
 bC 32 (aT 1) V.int Z Z (ak Z) Z
theorem ajO(hh:dh A)(B:cx U mg mb)(I:dQ mg mb):S1 H U A lG J (a9 dz 3) (gM1 ws c kn ([],bZ 256 0,1)) (gM1 ws c kn (QV,wt,pw 255)) ai:=by
 have key:=dq (px:=⟨279,8,279,13⟩) (pos:=⟨279,4,282,61⟩) (H:=H) (L:=lG) (J:=J) 4 (aJ 255)
  (gM1 ws c kn) abU (λi st=>st.1.length=i/\i<=255/\st.2.1.length=256/\st.2.2<256) ([],bZ 256 0,1)
  (fV (np:=⟨279,17,279,22⟩) (pos:=⟨279,17,279,27⟩) (e:=fN (jI 255) 0 ⟨279,23,279,26⟩) hh B I Z (aR 255) Z bu) (.refl _) (rR Z bu Z bu) (aw Z) (λst=>rfl)
  (body:=match a9 dz 3 with|j4 _ _ b _ _=>b |_=>[]) (λi n st hn hp=>?_) (λ_=>rfl)
 .rw [Yt]at key;show key
 .show iK hp λp1 p2 p3 p4=>?_;have hi:i<255/\n=i:=by have:=dR.mp hn;show dG this λh1 h2=>?_;simp at h1 h2;show⟨h1,h2.symm⟩
  obtain⟨hi,rfl⟩:=hi;show⟨⟨by simp[abU,p1],by assumption,by simp[abU,p3],Rk p4⟩,?_⟩;show SS.cons (yL 54 _ Z (ar 32 Z) Z Z au) (SS.cons (MP 53 Z (ar 4 Z) (ar 32 Z) au au Z)
   (SS.cons (bC 32 (aT (IB st.2.2)) (wC (decide (st.2.2<128)) (abT (ar 32 Z) (aR 128)) (λq=>?_) (λq=>?_)) Z Z (ak Z) Z) (SS.done (km.rf bF bF))))
  .have q:=of_decide_eq_true q;have e:IB st.2.2=2 * st.2.2:=if_pos q;rw[e];show lS (aR 2) (ar 32 Z) aL
  .have q:=of_decide_eq_false q;have e:IB st.2.2=(2 * st.2.2) ^^^ 285:=if_neg q;rw[e];show nB (lS (aR 2) (ar 32 Z) aL) (aR 285)
def ae6:AV:=tL 0 [54,53] [aY QV,aY wt]
theorem Rm(fd:cq)(hp:fd.params=fz QS)(hd:fd.defaults=ax)(vs:List aa)(hl:vs.length=[55,56].length):dw fd ⟨vs,[]⟩=pure (([55,56].map NM).zip vs):=by
 apply agQ hl;intro a b
 delta dw
 show hp.symm▸hd.symm▸?_;rfl
theorem sj{a b:Nat}(B:cx U mg mb)(hA:A.depth<1000)(E:ck G 33=O (k,ae6))(he1:V H U A L J G e1 (aT a) ab)(he2:V H U A L J G e2 (aT b) ab)(ha:a<256)(D:b<256)(h1:cI e1=ab)(h2:cI e2=ab):V H U A L J G (bx (aq (NM 33) np) [e1,e2] [] pos) (aT (tm a b)) fr:=
 Rd (K:=[55,56]) (G':=tG a b) B E Z Z aL (λfd hp hd hk vs hl=>Rm fd hp hd vs hl) Z aL Z aL aL hA
  (fL.cons he1 (fL.cons he2 fL.nil h2) h1) (by simp[dW,h1,h2]) (λfZ=>Rl ha D) (λ_=>rfl)
noncomputable def OI(p:Nat->Bool):List Int->Bool
 | [k]=>p k.toNat
 |_=>ab
noncomputable def υ(f:Nat->Nat):List Int->Int
 | [k]=>aj (f k.toNat)
 |_=>0
noncomputable def aem(f:Nat->Nat->Nat):List Int->Int
 | [k,l]=>aj (f k.toNat l.toNat)
 |_=>0
theorem v8(ns:LN)(p:Nat->Bool)(f:Nat->Nat):
 ((((ns.map aj).map λn=>[n]).filter (OI p)).map (υ f))=((ns.filter p).map f).map aj:=by
 induction ns with
 |nil=>rfl
 |cons n ns ih=>
  show boC (p n) (λhp=>?_) λhp=>?_
  .have h1:OI p [aj n]=N:=hp;rw[iI,iI,EF h1,EF hp,iI,ih];rfl
  .have h1:¬OI p [aj n]=N:=by change¬p n=N;rw[hp];decide
   rw[iI,iI,EG h1,EG (by rw[hp];decide),ih]
theorem zT(ns:LN):kO (ns.map aj)=aY ns:=congrArg bR qm
theorem Yu{aN:List Int->Prop}(h:∀n∈ns,aN [aj n]):∀ks∈(ns.map aj).map λn=>[n],aN ks:=λks hk=>
 bg (bG.mp hk) λ_ h1 e=>bg (bG.mp h1) λm hm e'=>e▸e'▸h m hm
theorem GJ(x:Nat)(fs ns:LN)(p:Nat->Bool)(f:Nat->Nat)(B:Tp U)(c:ed L scope fs [x])(hG:pW G fs=N)(um:Yl H U A L J G iter (aq (NM x) px) [x] ((ns.map aj).map λn=>[n]))(hsz:ns.length<=1000000)(vG:∀n∈ns,∀fZ,OB H U A scope fZ (jh (lA G fs) x 0 (aT n)) ifs (p n))(Gz:∀n∈ns,p n=N->∀fZ,V H U A scope fZ (jh (lA G fs) x 0 (aT n)) elt (aT (f n)) ab)(hs:Fs iter J):
 V H U A L J G (cE elt [⟨aq (NM x) px,iter,ifs,0⟩] scope pos) (aY ((ns.filter p).map f)) fr':=by
 have key:=V.comp (fr':=fr') (pos:=pos) (elt:=elt) (ifs:=ifs) (OI p) (υ f) B c hG um
  (Yu λ_ _=>rfl) (by simpa using hsz) (Yu vG) (Yu Gz) hs
 rw[v8,zT]at key;show key
theorem Dv(p:Nat->Bool)(f:Nat->Nat)(B:Tp U)(c:ed L scope fs [x])(hG:pW G fs=N)(um:Yl H U A L J G iter (aq (NM x) px) [x] ((ns.map aj).map λn=>[n]))(hsz:ns.length<=1000000)(vG:∀n∈ns,∀fZ,OB H U A scope fZ (jh (lA G fs) x 0 (aT n)) ifs (p n))(Gz:∀n∈ns,p n=N->∀fZ,V H U A scope fZ (jh (lA G fs) x 0 (aT n)) elt (aT (f n)) ab)(hs:Fs iter J)(hy:L.names.lookup (NM y)=O cU)(dH:bS G y=N)(μ:J.scope=L->fD (cE elt [⟨aq (NM x) px,iter,ifs,0⟩] scope pos) (O (aq (NM y) py)) spos.line J=pure N):
 S1 H U A L J (eF [aq (NM y) py] (cE elt [⟨aq (NM x) px,iter,ifs,0⟩] scope pos) spos) G (jh G y 1 (aY ((ns.filter p).map f))) ai:=by
 have key:=GA (pos:=pos) (py:=py) (spos:=spos) (elt:=elt) (ifs:=ifs) (OI p) (υ f) B c hG um
  (Yu λ_ _=>rfl) (by simpa using hsz) (Yu vG) (Yu Gz) hs hy dH μ
 rw[v8,zT]at key;show key
theorem BD(f:Nat->Nat->Nat):∀(ns ms:LN),
 (((((ns.map aj).zip (ms.map aj)).map λp=>[p.1,p.2]).filter λ_=>N).map (aem f))=(AO f ns ms).map aj
 | [],ms=>by rfl
 |n::ns,[]=>by rfl
 |n::ns,m::ms=>by have ih:=BD f ns ms;simp only[iI,KN,List.filter_cons,if_true]at ih ⊢;rw[ih];rfl
theorem Dw{x2:Nat}(f:Nat->Nat->Nat)(B:Tp U)(c:ed L scope fs [x1,x2])(hG:pW G fs=N)(um:Yl H U A L J G iter (fO [aq (NM x1) p1,aq (NM x2) p2] k0 pt) [x1,x2] (((ns.map aj).zip (ms.map aj)).map λp=>[p.1,p.2]))(hsz:ns.length<=1000000)(Gz:∀n∈ns,∀m∈ms,∀fZ,V H U A scope fZ (jh (jh (lA G fs) x1 0 (aT n)) x2 0 (aT m)) elt (aT (f n m)) ab)(hs:Fs iter J)(hy:L.names.lookup (NM y)=O cU)(dH:bS G y=N)(μ:J.scope=L->fD (cE elt [⟨fO [aq (NM x1) p1,aq (NM x2) p2] k0 pt,iter,[],0⟩] scope pos) (O (aq (NM y) py)) spos.line J=pure N):
 S1 H U A L J (eF [aq (NM y) py] (cE elt [⟨fO [aq (NM x1) p1,aq (NM x2) p2] k0 pt,iter,[],0⟩] scope pos) spos) G (jh G y 1 (aY (AO f ns ms))) ai:=by
 have mem:∀ks∈((ns.map aj).zip (ms.map aj)).map (λp=>[p.1,p.2]),∃n m,n∈ns/\m∈ms/\ks=[aj n,aj m]:=λks ML=>by show og λgG kG=>?_;obtain⟨⟨a,b⟩,hp,dX⟩:=bG.mp ML;obtain⟨ha,D⟩:=sW hp;show bg (bG.mp ha) λn hn qG=>bg (bG.mp D) λm hm DU=>kG ?_;clear kG gG;show dX▸qG▸DU▸Oj n m hn hm Z
 have key:=GA (pos:=pos) (py:=py) (spos:=spos) (elt:=elt) (ifs:=[]) (λ_=>N) (aem f) B c hG um
  (λks ML=>by show ju (mem ks ML) λn m _ _ N8=>?_;subst N8;rfl) jM
  (λks ML fZ=>rfl)
  (λks ML hp fZ=>ju (mem ks ML) λn m hn hm ZP=>ZP▸Gz n hn m hm fZ) hs hy dH μ
 rw[BD,zT]at key;show key
theorem GK(he:V H U A L J G e av N)(hf:vZ av=N)(dH:bS G x=N)(E:Hx L x)(hs:J.scope=L->fD e (O (aq (NM x) p)) pos.line J=pure ab):
 S1 H U A L J (eF [aq (NM x) p] e pos) G (jh G x 1 av) ai:=λD s W r=>gi _ _ he hf dH E (hs r.scope) r
theorem pP.less{ret:Option AV}(x:pP H τ' U A L J ss G0 G1 ret)(h:km G0 G):pP H τ' U A L J ss G G1 ret:=λD s W r=>x (r.less h)
theorem pP.share{ret:Option AV}(y:Nat)(x:pP H τ' U A L J ss (Lake.share G y) G1 ret):pP H τ' U A L J ss G G1 ret:=λD s W r=>gI (r.share y) λW' r' hw _=>(x r').mono λf Y q=>q.behind (.refl W s) λd hd=>ak (hw d hd)
theorem GL{x:aV}{line:Nat}(hk:J.kindOf x=O dy):fD (cE elt gens scope pos) (O (aq x p)) line J=pure ab:=by change(pure (J.blockKind==dZ && J.kindOf x==O cU && p.line==(cE elt gens scope pos).pos.line && !(scope.names.any λ(n,k)=>n==x && (k==cU ||k==dy))):aI Bool)=pure ab;show hk.symm▸?_;have:((O dy:Option u5)==O cU)=ab:=rfl;rw[this,UR,US,US]
theorem qL{x:aV}{line:Nat}(hf:J.scope.kind=dZ)(hk:J.kindOf x=O cU)(hl:(p.line==pos.line)=N)(hn:(scope.names.any λ(n,k)=>n==x && (k==cU ||k==dy))=ab):fD (cE elt gens scope pos) (O (aq x p)) line J=pure N:=by
 change(pure (J.blockKind==dZ && J.kindOf x==O cU && p.line==pos.line && !(scope.names.any λ(n,k)=>n==x && (k==cU ||k==dy))):aI Bool)=pure N;show hk.symm▸hl.symm▸hn.symm▸?_;have:J.blockKind=dZ:=by delta Env.blockKind;show hf.symm▸?_;rfl
 show this.symm▸?_;rfl
def allB(l:LN):Prop:=∀i,l.getD i 0<256
theorem wM(h:allB l)(E:x∈l):x<256:=by show dG (KJ.mp E) λi hi=>?_;have:=h i;rw[da,hi]at this;show this
theorem allB_of(h:∀x∈l,x<256):allB l:=λi=>by
 rw[da];cases q:l[i]? with
 |none=>simp
 |some x=>show h x (cY q)
theorem iP{a b:Nat}(ha:a<256)(D:b<256):a ^^^ b<256:=EZ (n:=8) ha D
def gB(ws:LN)(c:Nat)(kn:LN)(sp:LN):iz:=[(17,0,aY ws),(3,0,aT c),(24,0,aY kn),(54,2,aY QV),(53,2,aY wt),(33,0,ae6),(11,0,aY sp)]
def gB0(ws:LN)(c:Nat)(kn:LN):iz:=[(17,0,aY ws),(3,0,aT c),(24,0,aY kn),(54,2,aY QV),(53,2,aY wt),(33,0,ae6)]
def cN(n:Nat):LN:=(aJ n).map λp=>FO (n - 1 - p)
theorem Rn(n:Nat):(cN n).length=n:=by simp[cN]
theorem OJ(n:Nat):allB (cN n):=allB_of λx E=>bg (bG.mp E) λp _ dX=>dX▸CJ
theorem ajP(hh:dh A)(B:cx U mg mb)(I:dQ mg mb)(hl:ws.length<=100):S1 H U A lG J (a9 dz 5) (gB0 ws c kn) (gB0 ws c kn++[(11,1,aY (cN ws.length))]) ai:=by
 show S1.to (GK (x:=11) (av:=aY (cN ws.length)) ?_ (jK _) Z (aw Z) (λe=>?_)) Z
 .show V.to (GJ 4 [54,17] (aJ ws.length) (λ_=>N) (λp=>FO (ws.length - 1 - p)) B.top (.of (rfl)) Z
   (zr.itc (fV hh B I Z (kb B I Z (ar 17 Z) Z au) Z au)) jM (λn hn fZ=>rfl) (λn hn _ fZ=>?_) (λ_=>rfl)) ?_
  .have hn:=dm.mp hn;show fq (ar 54 Z) (lR (lR (kb B I Z (ar 17 Z) Z au) (aR 1) (Nat.one_le_of_lt hn)) (ar 4 Z) au)
    au au Z
  .rw [Uj.mpr (λa a_1=>bi_tt.mpr trivial)];rfl
 .show GL (by delta j7;rw[e];rfl)
def qM(root:Nat)(whole wd:Nat):Nat:=(if whole≠0 then FO ((lg whole+root) % 255) else whole) ^^^ wd
def GN(ws:LN)(root:Nat):Nat:=ws.foldl (qM root) 0
def fX(ws:LN)(c:Nat):LN:=(aJ c).map (GN ws)
theorem Dx{root wd:Nat}(h:whole<256)(hw:wd<256):qM root whole wd<256:=by
 show iP ?_ hw;split
 .show CJ
 .show h
theorem φ(hw:allB ws)(root:Nat):GN ws root<256:=by
 have:∀(l:LN) (a:Nat),(∀x∈l,x<256)->a<256->l.foldl (qM root) a<256:=by
  intro l;induction l with
  |nil=>intro a _ h;show h
  |cons x l ih=>intro a hl ha;show ih _ (λy hy=>hl y bz) (Dx ha (hl x bz))
 show this ws 0 (λx E=>wM hw E) bu
theorem GO(hw:allB ws):allB (fX ws c):=allB_of λx E=>bg (bG.mp E) λr _ dX=>dX▸φ hw r
theorem BE(f:Nat->α):∀n,(aJ n).foldl (λ(l:List α) i=>l++[f i]) []=(aJ n).map f:=by
 intro xX;induction xX with
 |zero=>show rfl
 |succ n iH=>rw[sX,ql,iH];simp
theorem ajQ(hh:dh A)(B:cx U mg mb)(I:dQ mg mb)(hw:allB ws)(hc:c<=100):
 S1 H U A lG J (a9 dz 7) (gB ws c kn sp++[(34,1,aY [])]) (gB ws c kn sp++[(34,1,aY (fX ws c))]) ai:=by
 show S1.to (dq 35 (aJ c) (λrs:LN=>gB ws c kn sp++[(34,1,aY rs)]) (λrs root=>rs++[GN ws root]) (λi rs=>rs.length=i/\i<=c) []
  (fV hh B I Z (ar 3 Z) Z au) (.refl _) ⟨rfl,fk _⟩ (ak Z) (λst=>rfl) (λi n rs hn hp=>?_) (λ_=>rfl)) ?_
 .show dG (dR.mp hn) λh1 h2=>?_;simp at h1 h2;subst h2;show⟨⟨by simp[hp.1],by assumption⟩,?_⟩;show SS.cons (bC 36 (aT 0) (aR 0) Z Z (ak Z) Z)
   (SS.cons (dq 7 ws (λwhole:Nat=>gB ws c kn sp++[(34,1,aY rs),(35,0,aT i),(36,0,aT whole)]) (qM i) (λ_ whole=>whole<256) 0
    (qK 17 hh B.top Z Z) (.refl _) bu (ak Z) (λst=>rfl) (λj wd whole hj Yv=>?_) (λ_=>rfl))
   (SS.cons (yL 34 (GN ws i) Z (ar 36 Z) Z Z au) (SS.done (km.rf bF bF))))
  show⟨Dx Yv (wM hw (cY hj)),?_⟩;show SS.cons (G1:=gB ws c kn sp++[(34,1,aY rs),(35,0,aT i),(36,0,aT (if whole≠0 then FO ((lg whole+i) % 255) else whole)),(7,0,aT wd)]) ?_
   (SS.cons (bC 36 (aT (qM i whole wd)) (nB (ar 36 Z) (ar 7 Z)) Z Z (ak Z) Z) (SS.done (km.rf bF bF)))
  show S1.ite (x:=decide (whole≠0)) (yJ (ar 36 Z) (aR 0)) (λq=>?_) (λq=>?_)
  .have q:=of_decide_eq_true q;rw[if_pos q];show SS.cons (bC 36 (aT (FO ((lg whole+i) % 255)))
    (fq (ar 54 Z) (yI (fu (fq (ar 53 Z) (ar 36 Z) (by rw[tS];lia) (by rw[tS];lia) Z) (ar 35 Z)) (aR 255) aL)
     (m9 _ aL) au Z) Z Z (ak Z) Z) SS.nil
  .have q:=of_decide_eq_false q;rw[if_neg q];show SS.nil
 .rw [BE];rfl
def wN(sp:LN)(line:LN)(place:Nat):LN:=AO (λbefore after=>after ^^^ tm (sp.getD place 0) before) line (line.drop 1)
def kP(sp rs kn:LN):LN:=kn.foldl (wN sp) rs
structure BM where
 now:LN
 old:LN
 size:Nat
 gap:Nat
 fault:Nat
def vJ(line now:LN)(turn:Nat):Nat:=((aJ (now.length - 1)).map (1+·)).foldl (λoff back=>off ^^^ tm (now.getD back 0) (line.getD (turn - back) 0)) (line.getD turn 0)
def tT(factor gap:Nat)(old g0:LN):LN:=(aJ old.length).foldl (λg back=>g.set (back+gap) (g.getD (back+gap) 0 ^^^ tm factor (old.getD back 0))) g0
def ku(line:LN)(st:BM)(turn:Nat):BM:=
 if vJ line st.now turn=0 then{st with gap:=st.gap+1}
 else
  if 2 * st.size<=turn then⟨tT (FO ((lg (vJ line st.now turn)+255 - lg st.fault) % 255)) st.gap st.old (st.now++bZ (st.old.length+st.gap - st.now.length) 0),st.now,turn+1 - st.size,1,vJ line st.now turn⟩
  else⟨tT (FO ((lg (vJ line st.now turn)+255 - lg st.fault) % 255)) st.gap st.old (st.now++bZ (st.old.length+st.gap - st.now.length) 0),st.old,st.size,st.gap+1,st.fault⟩
def ux(line:LN):BM:=(aJ line.length).foldl (ku line) ⟨[1],[1],0,1,1⟩
def kg(now:LN)(x:Nat):Nat:=now.foldl (λwhole part=>tm whole x ^^^ part) 0
def jN(sp now:LN)(n:Nat):LN:=(aJ n).filter λp=>decide (kg now (sp.getD p 0)=0)
def eH(sp:LN)(product:LN)(place:Nat):LN:=AO (λhere before=>here ^^^ tm (sp.getD place 0) before) (product++[0]) ([0]++product)
def pA(sp places:LN):LN:=places.foldl (eH sp) [1]
def Ro(product rs:LN)(turn:Nat):Nat:=(aJ (turn+1)).foldl (λwhole back=>whole ^^^ tm (product.getD back 0) (rs.getD (turn - back) 0)) 0
def wO(product rs:LN)(n:Nat):LN:=(aJ n).map (Ro product rs)
def pB(sp places:LN)(place:Nat)(whole:Nat):Nat:=places.foldl (λwhole other=>if other≠place/\whole≠0 then FO ((lg whole+255 - lg (sp.getD place 0 ^^^ sp.getD other 0)) % 255) else whole) whole
def mQ(sp places ajR:LN)(md:LN)(place:Nat):LN:=md.set place (md.getD place 0 ^^^ pB sp places place (kg ajR (sp.getD place 0)))
theorem Jl{f:Nat->Nat->Nat}{m:LN}(h:∀x∈l,∀y∈m,f x y<256):∀z∈AO f l m,z<256:=by
 induction l generalizing m with
 |nil=>intro z hz;show kI hz
 |cons x l ih=>
  cases m with
  |nil=>intro z hz;show kI hz
  |cons y m=>
   intro z hz;simp at hz;rcases hz with rfl|hz
   .show h x au y au
   .show ih (λa ha b D=>h a au b au) z hz
theorem WE(h:∀x∈line,x<256):∀z∈wN sp line place,z<256:=Jl λx _ y hy=>iP (h y (rq hy)) (eY _ _)
theorem CK:(wN sp line place).length=line.length - 1:=by simp[wN]
theorem qC(h:∀x∈l,x<256)(i:Nat):l.getD i 0<256:=allB_of h i
theorem OK{x:aV}(B:Tp U)(ha:V H U A L J G (aq x np) (aY ns) ab)(hh:V H U A L J G lo (aT k) ab)(hl:ns.length<=1000):V H U A L J G (dk (aq x np) (ml (O lo) eV eV p) pos) (aY (ns.drop k)) fr:=by
 show V.to (Q1 B ha hh (hO ns) (eU jM)) ?_
 delta aY
 rw[EU]
theorem BF{a b:aG}(B:Tp U)(ha:V H U A L J G a (aY ns) ab)(D:V H U A L J G b (aY ms) ab)(hl:ns.length+ms.length<=1000):V H U A L J G (fi a rP b pos) (aY (ns++ms)) fr:=by
 show V.to (aeT B ha D (hO ns) (hO ms) (eU (by simpa using hl))) ?_
 delta aY
 rw[jY]
theorem pC(B:Tp U)(he:V H U A L J G e (aT n) ab)(hs:cI e=ab):V H U A L J G (Expr.List [e] pos) (aY [n]) fr:=
 o8 B (fL.cons he fL.nil hs) Z Z
theorem ajS{rs:LN}(hh:dh A)(hA:A.depth<1000)(B:cx U mg mb)(I:dQ mg mb)(OL:allB sp)(ahc:sp.length<=100)(WG:∀x∈rs,x<256)(hrl:rs.length<=100)(hkn:∀x∈kn,x<sp.length):
 S1 H U A lG J (a9 dz 9) (gB ws c kn sp++[(34,0,aY rs),(37,0,aY rs)]) (gB ws c kn sp++[(34,0,aY rs),(37,0,aY (kP sp rs kn))]) ai:=by
 show dq 4 kn (λline:LN=>gB ws c kn sp++[(34,0,aY rs),(37,0,aY line)]) (wN sp) (λ_ line=>(∀x∈line,x<256)/\line.length<=100) rs
  (qK 24 hh B.top Z Z) (.refl _) ⟨WG,hrl⟩ (aw Z) (λst=>rfl) (λi place line hn hp=>?_) (λ_=>rfl)
 show⟨⟨WE hp.1,by rw[CK];show kA5 hp.2⟩,?_⟩;show SS.cons (Dw (x1:=57) (x2:=58) (y:=37) (fs:=[4,11,33]) (λbefore after=>after ^^^ tm (sp.getD place 0) before) B.top (.of (rfl)) Z
  (Yl.zip hh B I Z (ar 37 Z) Z (OK B.top (ar 37 Z) (aR 1) au) Z (dS _) (dS _)) au (λn FP m hm fZ=>nB (ar 58 Z) (sj B hA Z (fq (ar 11 Z) (ar 4 Z) (hkn _ (cY hn)) au Z) (ar 57 Z) (OL _) (hp.1 n FP) Z Z)) (λ_=>rfl) Z Z
  (λe=>qL (by rw[e];rfl) (by delta j7;rw[e];rfl) Z (rfl))) (SS.share 37 (SS.done (km.rf bF bF)))
theorem GP(factor gap:Nat)(old g0:LN)(hg:∀x∈g0,x<256):(tT factor gap old g0).length=g0.length/\∀x∈tT factor gap old g0,x<256:=by
 have:∀(l:LN) (g:LN),g.length=g0.length->(∀x∈g,x<256)->(l.foldl (λg back=>g.set (back+gap) (g.getD (back+gap) 0 ^^^ tm factor (old.getD back 0))) g).length=g0.length/\
  ∀x∈l.foldl (λg back=>g.set (back+gap) (g.getD (back+gap) 0 ^^^ tm factor (old.getD back 0))) g,x<256:=by
  intro l;induction l with
  |nil=>intro g h1 h2;show⟨h1,h2⟩
  |cons b l ih=>show λg h1 h2=>ih _ (by simp[h1])<|λx E=>bc (u6 E) (λh=>h2 x h) λh=>h▸iP (qC h2 _) (eY _ _)
 show this _ _ Z hg
theorem GQ(f:α->Nat)(hf:∀a,f a<256)(l:List α):∀(a:Nat),a<256->l.foldl (λoff b=>off ^^^ f b) a<256:=by
 induction l with
 |nil=>show λa h=>h
 |cons b l iH=>show λa h=>iH _ (iP h (hf b))
theorem MQ(hl:∀x∈line,x<256):vJ line now turn<256:=GQ (λback=>tm (now.getD back 0) (line.getD (turn - back) 0)) (λ_=>eY _ _) _ _ (qC hl _)
structure ON(line:LN)(turn:Nat)(st:BM):Prop where
 now:∀x∈st.now,x<256
 old:∀x∈st.old,x<256
 fault:st.fault<256
 ae7:st.now.length<=turn+1
 ahd:st.old.length+st.gap<=turn+2
 ae8:1<=st.now.length
 ajT:1<=st.old.length
 ajU:1<=st.gap
 size:st.size<=turn
theorem ON.step{st:BM}(hl:∀x∈line,x<256)(k:ON line turn st):ON line (turn+1) (ku line st turn):=by
 have g:=GP (FO ((lg (vJ line st.now turn)+255 - lg st.fault) % 255)) st.gap st.old (st.now++bZ (st.old.length+st.gap - st.now.length) 0) (λx E=>by show bc (bY.mp E) (λh=>k.now x h) λh=>by rw[u9 h];decide)
 obtain⟨g1,g2⟩:=g;replace g1:=ro▸iu▸g1;have k4:=k.ae7;have k5:=k.ahd;have k6:=k.ae8;have k7:=k.ajT;have k9:=k.size
 delta ku
 split
 .show ⟨k.now,k.old,k.fault,by simp only;lia,by simp only;show th k5,k6,k7,by simp only;lia,by simp only;lia⟩
 .split
  .show ⟨g2,k.now,MQ hl,by simp only;lia,by simp only;lia,by simp only;lia,k6,by simp only;lia,by simp only;lia⟩
  .show ⟨g2,k.old,k.fault,by simp only;lia,by simp only;show th k5,by simp only;lia,k7,by simp only;lia,by simp only;lia⟩
theorem o7.to{b b':Bool}(x:o7 H U A L J G e b)(h:b=b'):o7 H U A L J G e b':=h▸x
theorem WH{a b:aG}{n:Int}(B:Tp U)(ha:V H U A L J G a (aY [0]) ab)(D:V H U A L J G b (a6 n) ab)(hl: -1000<=n)(J':n<=1000)(hk:n.toNat=k):V H U A L J G (fi a vm b pos) (aY (bZ k 0)) fr:=by
 subst hk;show V.to (Q3 B ha D Z (decide_eq_true hl) (decide_eq_true J')) ?_
 delta aY
 rw[KO]
theorem abV{a b:Nat}(h:b<=1000): -1000<=aj a - aj b:=by change -1000<=(a:Int) - (b:Int);lia
theorem abW{a b:Nat}(h:a<=1000):aj a - aj b<=1000:=by lia
theorem MR{a b:Nat}:b<=a+(b - a):=Nat.sub_le_iff_le_add'.mp (ey _)
theorem χ{a b:Nat}(h:j<b):j+c<a+(b+c - a):=fj (EX h c) MR
def gBM(ws:LN)(c:Nat)(kn sp rs line:LN)(st:BM):iz:=gB ws c kn sp++[(34,0,aY rs),(37,0,aY line),(38,0,aY st.now),(39,0,aY st.old),(40,0,aT st.size),(41,0,aT st.gap),(42,0,aT st.fault)]
theorem ahe{rs:LN}(hh:dh A)(hA:A.depth<1000)(B:cx U mg mb)(I:dQ mg mb)(hl:∀x∈line,x<256)(hll:line.length<=100):
 S1 H U A lG J (a9 dz 15) (gBM ws c kn sp rs line ⟨[1],[1],0,1,1⟩) (gBM ws c kn sp rs line (ux line)) ai:=by
 show dq 26 (aJ line.length) (gBM ws c kn sp rs line) (ku line) (ON line) ⟨[1],[1],0,1,1⟩
  (fV hh B I Z (kb B I Z (ar 37 Z) Z (a8 hll aL)) Z (a8 hll aL)) (.refl _) ⟨by decide,by decide,by decide,by decide,by decide,by decide,by decide,by decide,by decide⟩ (ak Z) (λst=>rfl) (λi turn st hn k=>?_) (λ_=>rfl)
 obtain⟨h1,h2⟩:=dR.mp hn;simp at h1 h2;subst h2;show⟨k.step hl,?_⟩;have k4:=k.ae7;have bL:line.length<=1000:=a8 hll aL;have bi:i+2<=101:=th (a8 h1 hll);have bN:st.now.length<=1000:=a8 k4 (a8 (rD bi) aL);have bP:st.old.length+st.gap<=1000:=a8 k.ahd (a8 bi aL);have bO:st.old.length<=1000:=a8 (iW ..) bP;show SS.cons (bC 43 (aT (line.getD i 0)) (fq (ar 37 Z) (ar 26 Z) h1 bL Z) Z Z (ak Z) Z)
  (SS.cons (dq 29 ((aJ (st.now.length - 1)).map (1+·)) (λoff:Nat=>gBM ws c kn sp rs line st++[(26,0,aT i),(43,0,aT off)]) (λoff back=>off ^^^ tm (st.now.getD back 0) (line.getD (i - back) 0)) (λ_ off=>off<256) (line.getD i 0)
   (OH hh B I Z (aR 1) Z (kb B I Z (ar 38 Z) Z bN) Z aL (a8 bN aL)) (.refl _) (qC hl _) (ak Z) (λst=>rfl) (λj back off hj hp=>?_) (λ_=>rfl))
  (SS.cons (S1.ite (x:=decide (vJ line st.now i=0)) (BC (ar 43 Z) (aR 0)) (λq=>?_) (λq=>?_)) SS.nil))
 .have D:1<=back/\back<st.now.length:=by have:=cY hj;obtain⟨m,hm,rfl⟩:=bG.mp this;have:=dm.mp hm;show⟨by lia,by show AP this⟩
  show⟨iP hp (eY _ _),?_⟩;show SS.cons (bC 43 (aT (off ^^^ tm (st.now.getD back 0) (line.getD (i - back) 0))) (nB (ar 43 Z)
   (sj B hA Z (fq (ar 38 Z) (ar 29 Z) D.2 bN Z)
    (fq (ar 37 Z) (lR (ar 26 Z) (ar 29 Z) (m8 (fj D.2 k4))) (jZ (tj ..) h1) bL Z) (qC k.now _) (qC hl _) Z Z)) Z Z (ak Z) Z) (SS.done ?_)
  show km.rf (rfl) (rfl)
 .have q:=of_decide_eq_true q;have e:ku line st i={st with gap:=st.gap+1}:=by unfold ku;show(if_pos q)
  rw[e];show SS.cons (CF 41 (aj st.gap) 1 (aj (st.gap+1)) .add Z V.int Z (ak Z) Z (ak Z)) (SS.done ?_);show km.rf (rfl) (rfl)
 .have q:=of_decide_eq_false q;have hgb:∀x∈st.now++bZ (st.old.length+st.gap - st.now.length) 0,x<256:=λx E=>by
   rcases bY.mp E with h|h
   .show k.now x h
   .rw [u9 h];decide
  generalize hF:FO ((lg (vJ line st.now i)+255 - lg st.fault) % 255)=F;have pre:∀Oa:BM,ku line st i=Oa->Oa.now=tT F st.gap st.old (st.now++bZ (st.old.length+st.gap - st.now.length) 0)->
   S1 H U A lG J (a9 (match a9 (match a9 dz 15 with|j4 _ _ b _ _=>b |_=>[]) 2 with|yo _ _ b _=>b |_=>[]) 3)
    (gBM ws c kn sp rs line st++[(26,0,aT i),(43,0,aT (vJ line st.now i)),(44,0,aT F),(45,1,aY (tT F st.gap st.old (st.now++bZ (st.old.length+st.gap - st.now.length) 0)))])
    (gBM ws c kn sp rs line {Oa with now:=st.now}++[(26,0,aT i),(43,0,aT (vJ line st.now i)),(44,0,aT F),(45,1,aY (tT F st.gap st.old (st.now++bZ (st.old.length+st.gap - st.now.length) 0)))]) ai->
   SS H U A lG J (match a9 (match a9 dz 15 with|j4 _ _ b _ _=>b |_=>[]) 2 with|yo _ _ b _=>b |_=>[]) (gBM ws c kn sp rs line st++[(26,0,aT i),(43,0,aT (vJ line st.now i))]) (gBM ws c kn sp rs line (ku line st i)) ai:=by
   intro Oa e en ajV;rw[e];show SS.cons (bC 44 (aT F) ?_ Z Z (ak Z) Z) (SS.cons (gi 45 (aY (st.now++bZ (st.old.length+st.gap - st.now.length) 0)) ?_ (jK _) Z (ak Z) Z)
    (SS.cons (dq 29 (aJ st.old.length) (λg:LN=>gBM ws c kn sp rs line st++[(26,0,aT i),(43,0,aT (vJ line st.now i)),(44,0,aT F),(45,1,aY g)]) (λg back=>g.set (back+st.gap) (g.getD (back+st.gap) 0 ^^^ tm F (st.old.getD back 0)))
     (λ_ g=>g.length=st.now.length+(st.old.length+st.gap - st.now.length)/\∀x∈g,x<256) _ (fV hh B I Z (kb B I Z (ar 39 Z) Z bO) Z (a8 bO aL)) (.refl _) ⟨fH,hgb⟩ (ak Z) (λst=>rfl) (λj back g hj hp=>?_) (λ_=>rfl))
    (SS.cons ajV (SS.cons (yH 38 45 Z Z (ak Z) Z) (SS.done ?_)))))
   .rw [<-hF];show fq (ar 54 Z) (GC (fq (ar 53 Z) (ar 43 Z) (by show(MQ (now:=st.now) (turn:=i) hl)) (by rw[tS];decide) Z)
     (fq (ar 53 Z) (ar 42 Z) (by show k.fault) (by rw[tS];decide) Z) (aR 255) aL (gz (WD _))) (by show m9 _ aL) aL Z
   .show BF B.top (ar 38 Z) (WH (n:=aj (st.old.length+st.gap) - aj st.now.length) B.top (pC B.top (aR 0) Z) ?_ ?_ ?_ (Kx ..)) (by rw[ro];show zJ bN bP)
    .show lj .sub (fu (kb B I Z (ar 39 Z) Z bO) (ar 41 Z)) (kb B I Z (ar 38 Z) Z bN) Z
    .show abV bN
    .show abW bP
   .show eZ hp λg1 g2=>?_;have D:back<st.old.length:=dm.mp (cY hj);show⟨⟨by simp[g1],λx E=>?_⟩,?_⟩
    .rcases u6 E with h|h
     .show g2 x h
     .subst h;show iP (qC g2 _) (eY _ _)
    .show SS.cons (MP (ns:=g) (j:=back+st.gap) (n:=g.getD (back+st.gap) 0 ^^^ tm F (st.old.getD back 0)) 45 Z
      (nB (fq (ar 45 Z) (fu (ar 29 Z) (ar 41 Z)) (g1▸χ D) (g1▸zJ bN bP) Z)
       (sj B hA Z (ar 44 Z) (fq (ar 39 Z) (ar 29 Z) D (a8 bO aL) Z) (by rw[<-hF];show CJ) (qC k.old _) Z Z))
      (fu (ar 29 Z) (ar 41 Z)) (g1▸χ D) (g1▸zJ bN bP) Z) (SS.done ?_)
     show km.rf (rfl) (rfl)
   .unfold gBM;rw[en];show km.rf (rfl) (rfl)
  by_cases hc:2 * st.size<=i
  .have e:ku line st i=⟨tT F st.gap st.old (st.now++bZ (st.old.length+st.gap - st.now.length) 0),st.now,i+1 - st.size,1,vJ line st.now i⟩:=by unfold ku;rw[if_neg q,if_pos hc,hF]
   show pre _ e Z (S1.ite (x:=N) ?_ (λ_=>?_) (λq=>nomatch q))
   .show o7.to (WC (lS (aR 2) (ar 40 Z) aL) (ar 26 Z)) (decide_eq_true hc)
   .show SS.cons (bC 40 (aT (i+1 - st.size)) (lR (fu (ar 26 Z) (aR 1)) (ar 40 Z) (qo k.size)) Z Z (ak Z) Z)
     (SS.cons (yH 39 38 Z Z (ak Z) Z) (SS.cons (yH 42 43 Z Z (ak Z) Z) (SS.cons (bC 41 (aT 1) (aR 1) Z Z (ak Z) Z) (SS.done ?_))))
    show km.rf bF (rfl)
  .have e:ku line st i=⟨tT F st.gap st.old (st.now++bZ (st.old.length+st.gap - st.now.length) 0),st.old,st.size,st.gap+1,st.fault⟩:=by unfold ku;rw[if_neg q,if_neg hc,hF]
   show pre _ e Z (S1.ite (x:=ab) ?_ (λq=>nomatch q) (λ_=>?_))
   .show o7.to (WC (lS (aR 2) (ar 40 Z) aL) (ar 26 Z)) (decide_eq_false hc)
   .show SS.cons (CF 41 (aj st.gap) 1 (aj (st.gap+1)) .add Z V.int Z (ak Z) Z (ak Z)) (SS.done ?_);show km.rf (rfl) (rfl)
theorem Rp(h:∀x∈now,x<256)(x:Nat):kg now x<256:=by
 have:∀(l:LN) (a:Nat),(∀x∈l,x<256)->a<256->l.foldl (λwhole part=>tm whole x ^^^ part) a<256:=by
  intro l;induction l with
  |nil=>intro a _ h;show h
  |cons y l ih=>intro a hl ha;show ih _ (λz hz=>hl z bz) (iP (eY _ _) (hl y au))
 show this now 0 h bu
theorem OO(p:Nat->Bool):∀n,(aJ n).foldl (λ(l:LN) i=>if p i=N then l++[i] else l) []=(aJ n).filter p:=by
 intro xX;induction xX with
 |zero=>show rfl
 |succ n iH=>rw[sX,ql,iH,List.filter_append];cases h:p n<;>simp[h]
def gF(ws:LN)(c:Nat)(kn sp rs now:LN)(size:Nat):iz:=gB ws c kn sp++[(34,0,aY rs),(38,0,aY now),(40,0,aT size)]
theorem ahf{rs:LN}(hh:dh A)(hA:A.depth<1000)(B:cx U mg mb)(I:dQ mg mb)(hl:ws.length<=100)(sf:sp.length=ws.length)(OL:allB sp)(hn:∀x∈now,x<256):
 S1 H U A lG J (a9 dz 17) (gF ws c kn sp rs now size++[(46,1,aY [])]) (gF ws c kn sp rs now size++[(46,1,aY (jN sp now ws.length))]) ai:=by
 show S1.to (dq 4 (aJ ws.length) (λfd:LN=>gF ws c kn sp rs now size++[(46,1,aY fd)]) (λfd p=>if decide (kg now (sp.getD p 0)=0)=N then fd++[p] else fd) (λi fd=>fd.length<=i/\i<=ws.length) []
  (fV hh B I Z (kb B I Z (ar 17 Z) Z au) Z au) (.refl _) ⟨ey _,fk _⟩ (aw Z) (λst=>rfl) (λi p fd FP hp=>?_) (λ_=>rfl)) ?_
 .obtain ⟨h1,h2⟩:=dR.mp FP;simp at h1 h2;show h2▸⟨⟨?_,by assumption⟩,?_⟩
  .split
   .simp;lia
   .lia
  show SS.cons (bC 36 (aT 0) (aR 0) Z Z (ak Z) Z)
   (SS.cons (dq 47 now (λwhole:Nat=>gF ws c kn sp rs now size++[(46,1,aY fd),(4,0,aT i),(36,0,aT whole)]) (λwhole part=>tm whole (sp.getD i 0) ^^^ part) (λ_ whole=>whole<256) 0
    (qK 38 hh B.top Z Z) (.refl _) bu (ak Z) (λst=>rfl) (λj part whole hj Yv=>?_) (λ_=>rfl))
   (SS.cons (S1.ite (x:=decide (kg now (sp.getD i 0)=0)) (BC (ar 36 Z) (aR 0)) (λq=>?_) (λq=>?_)) SS.nil))
  .show ⟨iP (eY _ _) (hn _ (cY hj)),?_⟩;show SS.cons (bC 36 (aT (tm whole (sp.getD i 0) ^^^ part)) (nB (sj B hA Z (ar 36 Z) (fq (ar 11 Z) (ar 4 Z) au au Z) Yv (OL _) Z Z) (ar 47 Z)) Z Z (ak Z) Z)<|SS.done<|km.rf bF bF
  .rw [if_pos q];show SS.cons (yL 46 i Z (ar 4 Z) Z Z au)<|SS.done<|km.rf bF bF
  .rw [if_neg (by rw[q];decide)];show SS.done (km.rf bF bF)
 .rw [OO (λp=>decide (kg now (sp.getD p 0)=0))];rfl
def gP(ws:LN)(c:Nat)(kn sp rs pl:LN):iz:=gB ws c kn sp++[(34,0,aY rs),(48,0,aY pl)]
theorem pX(h:∀x∈pr,x<256):∀z∈eH sp pr place,z<256:=Jl λx E y hy=>iP (by
 rcases bY.mp E with h' |h'
 .show h x h'
 .show bI.mp h'▸?_;decide) (eY _ _)
theorem lq:(eH sp pr place).length=pr.length+1:=by simp[eH]
theorem ahg{rs pl:LN}(hh:dh A)(hA:A.depth<1000)(B:cx U mg mb)(I:dQ mg mb)(OL:allB sp)(ahc:sp.length<=100)(Q9:∀x∈pl,x<sp.length)(alA:pl.length<=100):
 S1 H U A lG J (a9 dz 21) (gP ws c kn sp rs pl++[(49,0,aY [1])]) (gP ws c kn sp rs pl++[(49,0,aY (pA sp pl))]) ai:=by
 show dq 4 pl (λpr:LN=>gP ws c kn sp rs pl++[(49,0,aY pr)]) (eH sp) (λi pr=>(∀x∈pr,x<256)/\pr.length=i+1/\i<=pl.length) [1]
  (qK 48 hh B.top Z Z) (.refl _) (gT aL Z (fk _)) (aw Z) (λst=>rfl) (λi place pr hn hp=>?_) (λ_=>rfl)
 show ie hp λYw Yv hp3=>have jx:=(dR.mp hn).1;⟨⟨pX Yw,by rw[lq,Yv],jx⟩,?_⟩;show SS.cons (Dw (x1:=59) (x2:=57) (y:=49) (fs:=[4,11,33]) (ns:=pr++[0]) (ms:=[0]++pr) (λhere before=>here ^^^ tm (sp.getD place 0) before) B.top (.of (rfl)) Z
  (Yl.zip hh B I Z (BF B.top (ar 49 Z) (pC B.top (aR 0) Z) jM) Z (BF B.top (pC B.top (aR 0) Z) (ar 49 Z) jM) Z (dS _) (dS _)) jM
  (λn FP m hm fZ=>?_) (λ_=>rfl) Z Z
  (λe=>qL (by rw[e];rfl) (by delta j7;rw[e];rfl) Z (rfl))) (SS.share 49 (SS.done ?_))
 .have hm2:m<256:=by
   rcases bY.mp hm with h|h
   .show bI.mp h▸?_;decide
   .show Yw m h
  show nB (ar 59 Z) (sj B hA Z (fq (ar 11 Z) (ar 4 Z) (Q9 _ (cY hn)) au Z) (ar 57 Z) (OL _) hm2 Z Z)
 .show km.rf bF bF
theorem ahh{rs pl:LN}(hh:dh A)(hA:A.depth<1000)(B:cx U mg mb)(I:dQ mg mb)(hpr:∀x∈pr,x<256)(WG:∀x∈rs,x<256)(alB:pl.length<=pr.length)(hrl:pl.length<=rs.length)(als:rs.length<=100)(alu:pr.length<=101):
 S1 H U A lG J (a9 dz 23) (gP ws c kn sp rs pl++[(49,0,aY pr),(50,1,aY [])]) (gP ws c kn sp rs pl++[(49,0,aY pr),(50,1,aY (wO pr rs pl.length))]) ai:=by
 show S1.to (dq 26 (aJ pl.length) (λam:LN=>gP ws c kn sp rs pl++[(49,0,aY pr),(50,1,aY am)]) (λam turn=>am++[Ro pr rs turn]) (λi am=>am.length=i/\i<=pl.length) []
  (fV hh B I Z (kb B I Z (ar 48 Z) Z au) Z au) (.refl _) ⟨rfl,fk _⟩ (ak Z) (λst=>rfl) (λi p am FP hp=>?_) (λ_=>rfl)) ?_
 .show dG (dR.mp FP) λh1 h2=>?_;simp at h1 h2;show h2▸⟨⟨by simp[hp.1],by assumption⟩,?_⟩;show SS.cons (bC 36 (aT 0) (aR 0) Z Z (ak Z) Z)
   (SS.cons (dq 29 (aJ (i+1)) (λwhole:Nat=>gP ws c kn sp rs pl++[(49,0,aY pr),(50,1,aY am),(26,0,aT i),(36,0,aT whole)]) (λwhole back=>whole ^^^ tm (pr.getD back 0) (rs.getD (i - back) 0)) (λ_ whole=>whole<256) 0
    (fV hh B I Z (fu (ar 26 Z) (aR 1)) Z au) (.refl _) bu (ak Z) (λst=>rfl) (λj back whole hj Yv=>?_) (λ_=>rfl))
   (SS.cons (yL 50 (Ro pr rs i) Z (ar 36 Z) Z Z au) (SS.done (km.rf bF bF))))
  have D:back<i+1:=dm.mp (cY hj);show⟨iP Yv (eY _ _),?_⟩;show SS.cons (bC 36 (aT (whole ^^^ tm (pr.getD back 0) (rs.getD (i - back) 0))) (nB (ar 36 Z)
   (sj B hA Z (fq (ar 49 Z) (ar 29 Z) au au Z)
    (fq (ar 34 Z) (lR (ar 26 Z) (ar 29 Z) (m8 D)) au au Z) (qC hpr _) (qC WG _) Z Z)) Z Z (ak Z) Z)<|SS.done<|km.rf bF bF
 .rw [BE];rfl
def jz(sp:LN)(place:Nat)(whole other:Nat):Nat:=if other≠place/\whole≠0 then FO ((lg whole+255 - lg (sp.getD place 0 ^^^ sp.getD other 0)) % 255) else whole
theorem BG{other:Nat}(h:whole<256):jz sp place whole other<256:=by
 delta jz
 split
 .show CJ
 .show h
theorem Yx{pl:LN}(h:whole<256):pB sp pl place whole<256:=by
 have:∀(l:LN) (a:Nat),a<256->l.foldl (jz sp place) a<256:=by
  intro l;induction l with
  |nil=>intro a h;show h
  |cons y l ih=>intro a ha;show ih _ (BG ha)
 show this pl whole h
def gE(ws:LN)(c:Nat)(kn sp rs pl am:LN):iz:=gP ws c kn sp rs pl++[(50,0,aY am)]
theorem ahi{rs pl am:LN}(hh:dh A)(hA:A.depth<1000)(B:cx U mg mb)(OL:allB sp)(ahc:sp.length<=100)(Q9:∀x∈pl,x<sp.length)(ham:∀x∈am,x<256)(hws:∀x∈ws,x<256)(WI:ws.length=sp.length):
 S1 H U A lG J (a9 dz 25) (gE ws c kn sp rs pl am++[(51,1,aY ws)]) (gE ws c kn sp rs pl am++[(51,1,aY (pl.foldl (mQ sp pl am) ws))]) ai:=by
 show dq 4 pl (λmd:LN=>gE ws c kn sp rs pl am++[(51,1,aY md)]) (mQ sp pl am) (λ_ md=>(∀x∈md,x<256)/\md.length=sp.length) ws
  (qK 48 hh B.top Z Z) (.refl _) ⟨hws,WI⟩ (aw Z) (λst=>rfl) (λi place md hn hp=>?_) (λ_=>rfl)
 have hps:place<sp.length:=Q9 _ (cY hn);obtain⟨Yw,Yv⟩:=hp;have hH:=Rp ham (sp.getD place 0);show⟨⟨λx E=>?_,by simp[mQ,Yv]⟩,?_⟩
 .rcases u6 E with h|h
  .show Yw x h
  .subst h;show iP (qC Yw _) (Yx hH)
 show SS.cons (bC 36 (aT 0) (aR 0) Z Z (ak Z) Z)
  (SS.cons (dq 47 am (λwhole:Nat=>gE ws c kn sp rs pl am++[(51,1,aY md),(4,0,aT place),(36,0,aT whole)]) (λwhole part=>tm whole (sp.getD place 0) ^^^ part) (λ_ whole=>whole<256) 0
   (qK 50 hh B.top Z Z) (.refl _) aL (ak Z) (λst=>rfl) (λj part whole hj hq=>?_) (λ_=>rfl))
  (SS.cons (dq 52 pl (λwhole:Nat=>gE ws c kn sp rs pl am++[(51,1,aY md),(4,0,aT place),(36,0,aT whole)]) (jz sp place) (λ_ whole=>whole<256) (kg am (sp.getD place 0))
   (qK 48 hh B.top Z Z) (.refl _) hH (ak Z) (λst=>rfl) (λj other whole hj hq=>?_) (λ_=>rfl))
  (SS.cons (MP (ns:=md) (j:=place) (n:=md.getD place 0 ^^^ pB sp pl place (kg am (sp.getD place 0))) 51 Z
   (nB (fq (ar 51 Z) (ar 4 Z) au au Z) (ar 36 Z)) (ar 4 Z) au au Z) (SS.done ?_))))
 .have hpt:part<256:=ham _ (cY hj);show⟨iP (eY _ _) hpt,?_⟩;show SS.cons (bC 36 (aT (tm whole (sp.getD place 0) ^^^ part)) (nB (sj B hA Z (ar 36 Z) (fq (ar 11 Z) (ar 4 Z) au au Z) hq (OL _) Z Z) (ar 47 Z)) Z Z (ak Z) Z) (SS.done ?_);show km.rf bF bF
 .have hot:other<sp.length:=Q9 _ (cY hj);show⟨BG hq,?_⟩;show SS.cons (S1.ite (x:=decide (other≠place) && decide (whole≠0)) (vE (yJ (ar 52 Z) (ar 4 Z)) (λ_=>yJ (ar 36 Z) (aR 0))) (λq=>?_) (λq=>?_)) SS.nil
  .have q:other≠place/\whole≠0:=by simpa using q
   have e:jz sp place whole other=FO ((lg whole+255 - lg (sp.getD place 0 ^^^ sp.getD other 0)) % 255):=by unfold jz;show(if_pos q)
   rw[e];show SS.cons (bC 36 (aT (FO ((lg whole+255 - lg (sp.getD place 0 ^^^ sp.getD other 0)) % 255)))
    (fq (ar 54 Z) (GC (fq (ar 53 Z) (ar 36 Z) (by assumption) (by rw[tS];lia) Z)
     (fq (ar 53 Z) (nB (fq (ar 11 Z) (ar 4 Z) au au Z) (fq (ar 11 Z) (ar 52 Z) au au Z))
      (by show iP (OL _) (OL _)) (by rw[tS];lia) Z) (aR 255) aL (gz (WD _))) (by show m9 _ aL) au Z) Z Z (ak Z) Z) (SS.done ?_)
   show km.rf bF bF
  .have q:¬(other≠place/\whole≠0):=by intro hc;have q:=(decide_eq_true hc.2)▸(decide_eq_true hc.1)▸q;ext
   have e:jz sp place whole other=whole:=by unfold jz;show(if_neg q)
   rw[e];show SS.done (km.rf bF bF)
 .show km.rf bF bF
def yM(ws kn:LN)(c:Nat):LN:=kn++jN (cN ws.length) (ux (kP (cN ws.length) (fX ws c) kn)).now ws.length
def vK(ws:LN)(c:Nat)(kn:LN):LN:=
 (yM ws kn c).foldl (mQ (cN ws.length) (yM ws kn c) (wO (pA (cN ws.length) (yM ws kn c)) (fX ws c) (yM ws kn c).length)) ws
theorem GS(kn:LN):∀(rs:LN),(∀x∈rs,x<256)->(∀x∈kP sp rs kn,x<256)/\(kP sp rs kn).length=rs.length - kn.length:=by
 induction kn with
 |nil=>show λrs h=>⟨h,rfl⟩
 |cons k kn iH=>intro rs h;obtain⟨h1,h2⟩:=iH (wN sp rs k) (WE h);show⟨h1,?_⟩;change(kP sp (wN sp rs k) kn).length=_;rw[h2,CK];simp;lia
theorem ae9(hl:∀x∈line,x<256):ON line line.length (ux line):=by
 have:∀n,ON line n ((aJ n).foldl (ku line) ⟨[1],[1],0,1,1⟩):=by
  intro n;induction n with
  |zero=>change ON line 0 ⟨[1],[1],0,1,1⟩;show⟨by decide,by decide,N7 Z,N7 Z,N7 Z,N7 Z,N7 Z,N7 Z,N7 Z⟩
  |succ n ih=>rw[sX,ql];show ih.step hl
 show this _
theorem BH(pl:LN):(∀x∈pA sp pl,x<256)/\(pA sp pl).length=pl.length+1:=by
 delta pA
 have:∀(l pr:LN),(∀x∈pr,x<256)->(∀x∈l.foldl (eH sp) pr,x<256)/\(l.foldl (eH sp) pr).length=pr.length+l.length:=by
  intro l;induction l with
  |nil=>intro pr h;show⟨h,rfl⟩
  |cons x l ih=>show λpr h=>eZ (ih (eH sp pr x) (pX h)) λh1 h2=>(⟨h1,?_⟩);change(l.foldl (eH sp) (eH sp pr x)).length=_;rw[h2,lq];simp;show ye pr.length l.length
 show eZ (this pl [1] aL) λh1 h2=>(⟨h1,?_⟩);rw[h2];simp;show jF 1 pl.length
theorem WJ{rs:LN}{t:Nat}:Ro pr rs t<256:=GQ (λback=>tm (pr.getD back 0) (rs.getD (t - back) 0)) (λ_=>eY _ _) _ _ aL
protected theorem S1.m{ret:Option AV}(x:S1 H U A L J st G G' ret):S1m H H U A L J st G G' ret:=x
theorem ψ:dz=[a9 dz 0,a9 dz 1,a9 dz 2,a9 dz 3,a9 dz 4,a9 dz 5,a9 dz 6,a9 dz 7,a9 dz 8,a9 dz 9,a9 dz 10,a9 dz 11,a9 dz 12,a9 dz 13,a9 dz 14,a9 dz 15,
 a9 dz 16,a9 dz 17,a9 dz 18,a9 dz 19,a9 dz 20,a9 dz 21,a9 dz 22,a9 dz 23,a9 dz 24,a9 dz 25,a9 dz 26]:=by rfl
theorem afa(hh:dh A)(hA:A.depth<1000)(B:cx U mg mb)(I:dQ mg mb)(WI:ws.length<=50)(hws:∀x∈ws,x<256)(hc:c<=50)(hkn:∀x∈kn,x<ws.length)(hkc:kn.length<=c)(qU:(jN (cN ws.length) (ux (kP (cN ws.length) (fX ws c) kn)).now ws.length).length=(ux (kP (cN ws.length) (fX ws c) kn)).size):
 SS H U A lG J [a9 dz 5,a9 dz 6,a9 dz 7,a9 dz 8,a9 dz 9,a9 dz 10,a9 dz 11,a9 dz 12,a9 dz 13,a9 dz 14,a9 dz 15,
  a9 dz 16,a9 dz 17,a9 dz 18,a9 dz 19,a9 dz 20,a9 dz 21,a9 dz 22,a9 dz 23,a9 dz 24,a9 dz 25,a9 dz 26] (gB0 ws c kn) [] (O (aY (vK ws c kn))):=by
 unfold vK yM;have hwB:allB ws:=allB_of hws;have afb:∀x∈fX ws c,x<256:=λx E=>wM (GO (c:=c) hwB) E;have hrl:(fX ws c).length=c:=by simp[fX]
 have sf:=Rn ws.length;have v7:=OJ ws.length;show eZ (GS (sp:=cN ws.length) kn (fX ws c) afb) λhl1 J'=>have bk:=ae9 hl1;have bs:=bk.size;have bn:=bk.ae7;SS.cons (ajP hh B I au) (SS.share 11 (SS.less (G0:=gB ws c kn (cN ws.length)) ?_ (.refl _)));show SS.cons (gi 34 (aY []) (o8 B.top fL.nil Z Z) Z Z (ak Z) Z)<|SS.cons (ajQ hh B I hwB au)<|SS.cons (yH 37 34 Z Z (ak Z) Z) (SS.cons (ajS hh hA B I v7 au afb au (by rw[sf];show hkn)) ?_);generalize kP (cN ws.length) (fX ws c) kn=line at *;show SS.cons (gi 38 (aY [1]) (pC B.top (aR 1) Z) Z Z (ak Z) Z)<|SS.share 38<|SS.cons (gi 39 (aY [1]) (pC B.top (aR 1) Z) Z Z (ak Z) Z)<|SS.share 39<|SS.cons (bC 40 (aT 0) (aR 0) Z Z (ak Z) Z)<|SS.cons (bC 41 (aT 1) (aR 1) Z Z (ak Z) Z)<|SS.cons (bC 42 (aT 1) (aR 1) Z Z (ak Z) Z)<|SS.cons (ahe hh hA B I hl1 au)<|SS.less (G0:=gF ws c kn (cN ws.length) (fX ws c) (ux line).now (ux line).size) ?_ (km.rf bF bF);show SS.cons (gi 46 (aY []) (o8 B.top fL.nil Z Z) Z Z (ak Z) Z) (SS.cons (ahf hh hA B I au sf v7 bk.now) ?_);have hfl:(jN (cN ws.length) (ux line).now ws.length).length<=ws.length:=by show a8 (AF _ _) ?_;simp
 show SS.cons (S1.ite (x:=ab) (o7.to (yJ (kb B I Z (ar 46 Z) Z au) (ar 40 Z)) (by rw[qU];simp)) (λq=>Iv q) (λ_=>SS.nil)) (SS.cons (gi 48 (aY (kn++jN (cN ws.length) (ux line).now ws.length)) (BF B.top (ar 24 Z) (ar 46 Z) au) (jK _) Z (ak Z) Z) (SS.share 48 ?_));have Q9:∀x∈kn++jN (cN ws.length) (ux line).now ws.length,x<(cN ws.length).length:=λx E=>by rw[sf];show bc (bY.mp E) (λh=>hkn x h) λh=>dm.mp (gu.mp h).1
 have ajW:(kn++jN (cN ws.length) (ux line).now ws.length).length<=c:=by rw[iu,qU];lia
 generalize kn++jN (cN ws.length) (ux line).now ws.length=pl at *;show eZ (BH (sp:=cN ws.length) pl) λajX ajY=>(SS.less (G0:=gP ws c kn (cN ws.length) (fX ws c) pl) ?_ (by show km.rf bF bF));show SS.cons (gi 49 (aY [1]) (pC B.top (aR 1) Z) Z Z (ak Z) Z)<|SS.share 49<|SS.cons (ahg hh hA B I v7 au Q9 au)<|SS.cons (gi 50 (aY []) (o8 B.top fL.nil Z Z) Z Z (ak Z) Z)<|SS.cons (ahh hh hA B I ajX afb (by show Nat.le.intro (id (mr ajY))) (by show le_of_le_of_eq ajW (id (mr hrl))) au au)<|SS.share 50<|SS.less (G0:=gE ws c kn (cN ws.length) (fX ws c) pl (wO (pA (cN ws.length) pl) (fX ws c) pl.length)) ?_ (km.rf bF bF);show SS.cons (gi 51 (aY ws) (Yq B I Z (ar 17 Z) Z (hO ws) (eU jM)) (jK _) Z (ak Z) Z) (SS.cons (ahi hh hA B v7 au Q9 (λx E=>?_) hws sf.symm) ?_)
 .obtain ⟨t,_,rfl⟩:=bG.mp E;show WJ
 show tQ (S1.ret (ar 51 Z))
theorem OP{P:ae}(hh:dh A)(hA:A.depth<1000)(B:cx U mg mb)(I:dQ mg mb)(WI:ws.length<=50)(hws:∀x∈ws,x<256)(hc:c<=50)(hkn:∀x∈kn,x<ws.length)(hkc:kn.length<=c)(qU:(jN (cN ws.length) (ux (kP (cN ws.length) (fX ws c) kn)).now ws.length).length=(ux (kP (cN ws.length) (fX ws c) kn)).size)(hq:J.qual=Z4)(pn:J.code=R cM)(OQ:cM∉bV)(oy:U.IsCode cM P #[])(vH:U.TableAt cM P #[])(hP:P∈bV)(pv:P∉H)(kr:P∈τ')(nS:∀b∈H,b∈τ'):
 pP H τ' U A lG J dz (gM0 ws c kn) [] (O (aY (vK ws c kn))):=by
 rw[ψ];show pP.cons (S1.m (ajL B)) (pP.cons (S1.m (ajM B)) (pP.cons (S1.m ajN) (pP.cons (S1.m (ajO hh B I)) (pP.share 54 (pP.share 53 (pP.cons
  (Rf (f:=0) (x:=33) (y:=54) (z:=53) B (λJ=>rfl) Z Z (uf Z) (uf Z) (uf Z) Z Z Z Z aL aL aL Z (by show hq.symm▸?_;rfl) pn OQ oy vH hP pv kr nS) (pP.less (G0:=gB0 ws c kn) ?_ ?_)))))))
 .show (afa hh hA B I WI hws hc hkn hkc qU).m
 .show km.rf bF bF
def ahj:cg:=dP 27
def cP:List cg:=bh ahj
def iD:du:=bf ahj
theorem OS(ns:List Int):iS (ns.map a6)=N:=Gj (nZ ns)
theorem OT(ns:List Int):vZ (kO ns)=N:=by
 induction ns with
 |nil=>rfl
 |cons n ns ih=>assumption
theorem BJ{a i:aG}{ns:List Int}(ha:V H U A L J G a (kO ns) ab)(hi:V H U A L J G i (aT k) ab)(hk:k<ns.length)(hl:ns.length<=1000)(sf:j8 i=ab):V H U A L J G (dk a i pos) (a6 (ns.getD k 0)) fr:=by show wD ha hi ?_ sf (λ_=>rfl);show(?_:cond (dY k 1000000) ((ns.map a6)[k]?) eV=_);have:dY k 1000000=N:=eU au;show this.symm▸cZ.symm▸(dF hk).symm▸da.symm▸(dF hk).symm▸?_;rfl
theorem GU{a i:aG}{ns:List Int}(ha:V H U A L J G a (kO ns) ab)(hi:V H U A L J G i (a6 (AE 0)) ab)(hk:0<ns.length)(sf:j8 i=ab):V H U A L J G (dk a i pos) (a6 (ns.getD (ns.length - 1) 0)) fr:=by
 show wD ha hi ?_ sf (λ_=>rfl);show(?_:cond (dY 1 (ns.map a6).length && dY 0 1000000) ((ns.map a6)[(ns.map a6).length - 1]?) eV=_);have hk':ns.length - 1<ns.length:=by lia
 rw[(eU jM),ik,cZ,dF hk',da,dF hk'];rfl
noncomputable def DW(x:Int)(m:Nat):Nat:=(x.fmod m).toNat
theorem tU{a b:aG}{x:Int}{m:Nat}(ha:V H U A L J G a (a6 x) ab)(D:V H U A L J G b (aT m) ab)(h:0<m):
 V H U A L J G (fi a Bd b pos) (aT (DW x m)) fr:=lj .fmod ha D (by
  show(?_:cond (decide (0<aj m)) _ _=_);rw[decide_eq_true (by have h1:aj m=(m:Int):=rfl;show AD.mpr h)];change O (x.fmod (m:Int))=O (aj (x.fmod m).toNat);congr 1;have:0<=x.fmod (m:Int):=by rw[EC _ fH];show Int.emod_nonneg _ (Int.natCast_ne_zero_iff_pos.mpr h)
  show(TZ this).symm)
theorem rT(x:Int){m:Nat}(h:0<m):DW x m<m:=by
 delta DW
 rw[EC _ fH];show(Int.toNat_lt' h).mpr (Int.emod_lt_of_pos x (b:=(m:Int)) (Int.natCast_pos.mpr h))
theorem MS{a b:aG}{x:Int}{m:Nat}(ha:V H U A L J G a (a6 x) ab)(D:V H U A L J G b (aT m) ab)(h:0<m)(h2:m<1000000):
 V H U A L J G (fi a FC b pos) (a6 (x.fdiv m)) fr:=lj .fdiv ha D (by show(?_:cond (o4 (aj m) && decide (0<aj m)) _ _=_);have:o4 (aj m)=N:=decide_eq_true (by have h1:(aj m).natAbs=m:=rfl;lia);rw[this,decide_eq_true (by have h1:aj m=(m:Int):=rfl;show AD.mpr h)];rfl)
theorem vN{a b:aG}{x y:Int}(ha:V H U A L J G a (a6 x) ab)(D:V H U A L J G b (a6 y) ab):
 V H U A L J G (fi a rP b pos) (a6 (x+y)) fr:=lj .add ha D Z
theorem abX{a b:aG}(ha:V H U A L J G a (aT x) ab)(D:V H U A L J G b (aT y) ab)(E:x<1000000)(hy:y<=1000):
 V H U A L J G (fi a L9 b pos) (aT (x ^ y)) fr:=lj .pow ha D (by show(?_:cond (o4 (aj x) && decide (0<=aj y) && decide (aj y<=1000)) _ _=_);have:o4 (aj x)=N:=decide_eq_true (by have h1:(aj x).natAbs=x:=rfl;lia);rw[this,decide_eq_true (by have h1:aj y=(y:Int):=rfl;simp),decide_eq_true (by have h1:aj y=(y:Int):=rfl;show Mk h1 Z hy)];show congrArg O (Int.natCast_pow x y).symm)
theorem BK{a:aG}{ns:List Int}(B:cx U mg mb)(I:dQ mg mb)(kM:Gi L "len")(ha:V H U A L J G a (kO ns) ab)(dH:cI a=ab)(hl:ns.length<=1000):V H U A L J G (bx (aq (aC "len") np) [a] [] pos) (aT ns.length) fr:=by have:=V.len (fr:=fr) (np:=np) (pos:=pos) B I kM ha dH (eU jM);rw[ik]at this;show this
noncomputable def lT(script:List Int):List Int:=if 0<script.length then script.take 20 else [0]
theorem Jm(script:List Int):0<(lT script).length/\(lT script).length<=20:=by
 delta lT
 split
 .rw [AL];lia
 .decide
def iQ(aM:List Int):Nat:=DW (aM.getD 0 0) 2
def wQ(aM:List Int)(c:Nat):LN:=(aJ (10 - c)).map λp=>DW (aM.getD (p % aM.length) 0+(53 * p:Nat)) 256
noncomputable def n9(wd:Nat):LN:=(aJ 8).map λp=>wd / 2 ^ (7 - p) % 2
def dJ(data:LN):LN:=data.foldl (λl wd=>l++n9 wd) []
theorem pY(data:LN):(dJ data).length=8 * data.length:=by
 delta dJ
 have:∀(d:LN) (l:LN),(d.foldl (λl wd=>l++n9 wd) l).length=l.length+8 * d.length:=by
  intro d;induction d with
  |nil=>intro l;rfl
  |cons x d ih=>intro l;simp only[iw];rw[ih];simp[n9];lia
 rw[this];show Nat.add_eq_right.mpr Z
def gL1(L aM:List Int)(c:Nat)(data:LN):iz:=[(0,0,kO L),(1,0,kO aM),(2,0,aT (iQ aM)),(3,0,aT c),(5,0,aY data)]
theorem WK{wd p:Nat}{p4 p5 p6 p7:cB}{k3:Nat}(h1:V H U A L J G e1 (aT wd) ab)(h2:V H U A L J G e2 (aT p) ab)(hp:p<8):
 V H U A L J G (fi (fi e1 FC (fi (fN (jI 2) k1 p1) L9 (fi (fN (jI 7) k2 p2) FD e2 p3) p4) p5) Bd (fN (jI 2) k3 p6) p7) (aT (wd / 2 ^ (7 - p) % 2)) fr:=by
 have ajZ:0<2 ^ (7 - p)/\2 ^ (7 - p)<=128:=⟨Nat.pow_pos aL,by have:2 ^ (7 - p)<=2 ^ 7:=Nat.pow_le_pow_right bu au;show this⟩
 show yI (MO h1 (abX (aR 2) (lR (aR 7) h2 au) bu au) ajZ.1 au) (aR 2) bu
theorem ahk(hh:dh A)(B:cx U mg mb)(I:dQ mg mb)(sf:script.length<=63){ret:Option AV}(hr:pP H τ' U A iD J rest (gL1 script (lT script) (5+iQ (lT script)) (wQ (lT script) (5+iQ (lT script)))++[(6,1,aY (dJ (wQ (lT script) (5+iQ (lT script)))))]) G' ret):
 pP H τ' U A iD J ([a9 cP 0,a9 cP 1,a9 cP 2,a9 cP 3,a9 cP 4,a9 cP 5]++rest) [(0,0,kO script)] G' ret:=by
 show eZ (Jm script) λDX FP=>have hlv:iQ (lT script)<2:=rT _ bu;pP.cons (S1.m (gi 1 (kO (lT script)) (wC (decide (0<script.length)) (o7.to (vI (BK B I Z (ar 0 Z) Z au) (aR 0)) Z) (λq=>?_) (λq=>?_)) (OT _) Z (aw Z) Z)) (pP.share 1 ?_)
 .have e:lT script=script.take 20:=(if_pos (of_decide_eq_true q));rw[e];show V.to (Ot (k:=20) B.top (ar 0 Z) (aR 20) (OS _) (eU jM)) ?_
  delta kO
  rw[AN]
 .have e:lT script=[0]:=(if_neg (of_decide_eq_false q));rw[e];show o8 B.top (fL.cons V.int fL.nil Z) Z Z
 generalize lT script=aM at *;show pP.cons (S1.m (bC 2 (aT (iQ aM)) (tU (BJ (ar 1 Z) (aR 0) DX au Z) (aR 2) bu) Z Z (ak Z) Z)) (pP.cons (S1.m (bC 3 (aT (5+iQ aM)) (fu (aR 5) (ar 2 Z)) Z Z (ak Z) Z)) ?_);have Yy:(wQ aM (5+iQ aM)).length<=5:=by simp[wQ];lia
 show pP.cons (S1.m (S1.to (G1:=[(0,0,kO script),(1,0,kO aM),(2,0,aT (iQ aM)),(3,0,aT (5+iQ aM)),(5,1,aY (wQ aM (5+iQ aM)))]) (Dv (x:=4) (y:=5) (fs:=[1]) (ns:=aJ (10 - (5+iQ aM))) (λ_=>N) (λp=>DW (aM.getD (p % aM.length) 0+(53 * p:Nat)) 256) B.top (.of (rfl)) Z
  (zr.itc (fV hh B I Z (lR (aR 10) (ar 3 Z) au) Z au)) jM (λn hn fZ=>rfl) (λn hn _ fZ=>?_) (λ_=>rfl) Z Z
  (λe=>qL (by rw[e];rfl) (by delta j7;rw[e];rfl) Z (rfl))) ?_)) (pP.share 5 ?_)
 .show tU (vN (BJ (ar 1 Z) (yI (ar 4 Z) (BK B I Z (ar 1 Z) Z au) DX) (m9 _ DX) au Z)
   (lS (aR 53) (ar 4 Z) bu)) (aR 256) bu
 .rw [Uj.mpr (λa a_1=>bi_tt.mpr trivial)];rfl
 show pP.cons (S1.m (gi 6 (aY []) (o8 B.top fL.nil Z Z) Z Z (ak Z) Z)) ?_;generalize wQ aM (5+iQ aM)=data at *;show pP.cons (S1.m (dq 7 data (λl:LN=>gL1 script aM (5+iQ aM) data++[(6,1,aY l)]) (λl wd=>l++n9 wd) (λi l=>l.length=8 * i/\i<=data.length) []
  (qK 5 hh B.top Z Z) (.refl _) ⟨rfl,fk _⟩ (aw Z) (λst=>rfl) (λi wd l hn hp=>?_) (λ_=>rfl))) hr
 show⟨⟨by simp[n9,hp.1];show mr (Ls 8 i),(dR.mp hn).1⟩,?_⟩;show SS.cons (S1.to (G1:=jh (jh (gL1 script aM (5+iQ aM) data++[(6,1,aY l)]) 7 0 (aT wd)) 6 1 (aY (l++n9 wd))) (abL (x:=6) (K:=l.map aT) (ys:=(n9 wd).map aT) Z (hO _) ?_ (hO _) (by simp[n9];lia) Z) (by delta aY;rw[jY])) (SS.done (km.rf bF bF));show V.to (GJ 4 [7] (aJ 8) (λ_=>N) (λp=>wd / 2 ^ (7 - p) % 2) B.top (.of (rfl)) Z
  (zr.itc (fV hh B I Z (aR 8) Z bu)) bz (λn hn fZ=>rfl) (λn hn _ fZ=>WK (ar 7 Z) (ar 4 Z) (dm.mp hn)) (λ_=>rfl)) Z
def zt(b8:List (LN)):AV:=bR (b8.map aY)
def tV(p:Nat×Nat):AV:=qT (aj p.1,aj p.2)
def mK(ps:List (Nat×Nat)):AV:=bR (ps.map tV)
theorem BL(ps:List (Nat×Nat)):iS (ps.map tV)=N:=by
 induction ps with
 |nil=>rfl
 |cons p ps ih=>assumption
theorem v9(ps:List (Nat×Nat)):ps.map tV=(ps.map λp=>(aj p.1,aj p.2)).map qT:=qm.symm
theorem OU{a b c:aG}{op op':COp}{x y z:Int}(ha:V H U A L J G a (a6 x) ab)(D:V H U A L J G b (a6 y) ab)(hc:V H U A L J G c (a6 z) ab):
 o7 H U A L J G (jt a [op.ast,op'.ast] [b,c] pos) (gU op x y && gU op' y z):=λs r=>by
 show isTrue_chain ((ha r).Cz λt aD e1=>test_link ((D (r.ext e1.ext)).tN λu aQ F2 e2 V2 _=>?_)) (by simpa[lastMarks] using se op' c);obtain⟨t',rfl⟩:=V2.toInt;show Bw.Cw λv dg e3 hv=>?_;subst e3 hv;show me ?_;have Jg:=e1.trans e2;cases hq:gU op x y with
 |false=>show⟨Jg,rfl⟩
 |true=>show test_last ((hc (r.ext Jg.ext)).tN λu fB F4 e4 V4 _=>?_);obtain⟨t'',rfl⟩:=V4.toInt;show Bw.Cw λv ig e5 hv=>?_;subst e5 hv;show me ⟨Jg.trans e4,rfl⟩
theorem BN(x:V H U A L J G e av ab)(h:flat av=N):V H U A L J G e av fr:=λs r=>
 (x r).tN λv Y F a aP _=>(o6 F a aP (λ_=>by show(cW.1 _ _ _ h aP).symm▸?_;show⟨λ_ D=>(kI D),rN⟩))
theorem GV(B:Tp U)(h1:V H U A L J G e1 (aT i) ab)(h2:V H U A L J G e2 (aT j) ab)(s1:cI e1=ab)(s2:cI e2=ab):
 V H U A L J G (fO [e1,e2] k pos) (tV (i,j)) fr:=uj B (fL.cons h1 (fL.cons h2 fL.nil s2) s1) Z Z
theorem abY{q:Nat×Nat}{ps:List (Nat×Nat)}(E:ck G x=O (1,mK ps))(he:V H U A L J G e (tV q) ab)(dH:cI e=ab)(lz:(apos.endLine==cpos.line)=N)(hl:ps.length<=1000):
 S1 H U A L J (qw (bx (gZ (aq (NM x) p) (aC "append") apos) [e] [] cpos) pos) G (jh G x 1 (mK (ps++[q]))) ai:=λD s W r=>by
 have:=S1.app (p:=p) (apos:=apos) (cpos:=cpos) (pos:=pos) E (BL ps) he Z dH lz (eU jM) (by delta iG;show r.scope.symm▸r.kind.symm▸?_;rfl) r;rw[(by simp:ps.map tV++[tV q]=(ps++[q]).map tV)]at this;show this
def gL2(I9 aM:List Int)(c:Nat)(data bits:LN)(mv:aa)(pic:List (LN)):iz:=[(0,0,kO I9),(1,0,kO aM),(2,0,aT (iQ aM)),(3,0,aT c),(5,0,aY data),(6,0,aY bits),(8,0,aH mv),(10,1,zt pic)]
noncomputable def iF(right step:Nat):Nat:=if right % 4=0 then 12 - step else step
noncomputable def GW(i:Nat)(ps:List (Nat×Nat))(j:Nat):List (Nat×Nat):=if 0<i/\(8<i\/8<j) then ps++[(i,j)] else ps
def GX(right:Nat)(ps:List (Nat×Nat))(step:Nat):List (Nat×Nat):=[right,right - 1].foldl (GW (iF right step)) ps
def jb:List (Nat×Nat):=[12,10,8,6,4,2].foldl (λps right=>(aJ 13).foldl (GX right) ps) []
theorem CL(i j:Nat)(ps:List (Nat×Nat)):(GW i ps j).length<=ps.length+1:=by
 delta GW
 split
 .simp
 .lia
theorem Jn{step:Nat}{ps:List (Nat×Nat)}:(GX right ps step).length<=ps.length+2:=by
 delta GX
 have h1:=CL (iF right step) right ps;have h2:=CL (iF right step) (right - 1) (GW (iF right step) ps right);simp only[iw,KV];lia
theorem BO{right:Nat}:∀(l:LN) (ps:List (Nat×Nat)),(l.foldl (GX right) ps).length<=ps.length+2 * l.length
 | [],ps=>by simp
 |x::l,ps=>by have h1:=BO (right:=right) l (GX right ps x);have h2:=Jn (right:=right) (step:=x) (ps:=ps);simp only[iw,oO];lia
theorem abZ{mv:aa}(hh:dh A)(B:cx U mg mb)(I:dQ mg mb):
 S1 H U A iD J (a9 cP 12) (gL2 I9 aM c data bits mv pic++[(11,1,mK [])]) (gL2 I9 aM c data bits mv pic++[(11,1,mK jb)]) ai:=by
 show dq 12 [12,10,8,6,4,2] (λps:List (Nat×Nat)=>gL2 I9 aM c data bits mv pic++[(11,1,mK ps)]) (λps right=>(aJ 13).foldl (GX right) ps) (λi ps=>ps.length<=26 * i/\i<=6) []
  (GI hh B.top (o8 B.top (fL.cons (aR 12) (fL.cons (aR 10) (fL.cons (aR 8) (fL.cons (aR 6) (fL.cons (aR 4) (fL.cons (aR 2) fL.nil Z) Z) Z) Z) Z) Z) Z Z))
  (.refl _) ⟨ey _,fk _⟩ (ak Z) (λst=>rfl) (λi right ps hn hp=>?_) (λ_=>rfl)
 have hi:i<6:=(dR.mp hn).1;have aj0:2<=right/\right<=12:=r26 _ (cY hn);show⟨⟨?_,by lia⟩,?_⟩
 .have:=BO (right:=right) (aJ 13) ps;simp at this;lia
 show SS.cons (dq 13 (aJ 13) (λps:List (Nat×Nat)=>gL2 I9 aM c data bits mv pic++[(11,1,mK ps),(12,0,aT right)]) (GX right) (λk qs=>qs.length<=26 * i+2 * k/\k<=13) ps
  (fV hh B I Z (aR 13) Z bu) (.refl _) ⟨by lia,fk _⟩ (ak Z) (λst=>rfl) (λk step qs FP hq=>?_) (λ_=>rfl)) (SS.done (km.rf bF bF))
 obtain⟨h1,h2⟩:=dR.mp FP;simp at h1 h2;subst h2;show⟨⟨by have:=Jn (right:=right) (step:=k) (ps:=qs);lia,by lia⟩,?_⟩;show SS.cons (bC 14 (aT (iF right k)) (wC (decide (right % 4=0)) (BC (yI (ar 12 Z) (aR 4) bu) (aR 0)) (λq=>?_) (λq=>?_)) Z Z (ak Z) Z)
  (SS.cons (dq 15 [right,right - 1] (λps:List (Nat×Nat)=>gL2 I9 aM c data bits mv pic++[(11,1,mK ps),(12,0,aT right),(13,0,aT k),(14,0,aT (iF right k))]) (GW (iF right k)) (λm rs=>rs.length<=26 * i+2 * k+m) qs
   (GI hh B.top (o8 B.top (fL.cons (ar 12 Z) (fL.cons (lR (ar 12 Z) (aR 1) au) fL.nil Z) Z) Z Z)) (.refl _) au (ak Z) (λst=>rfl) (λm j rs hn3 hr=>?_) (λ_=>rfl)) (SS.done (km.rf bF bF)))
 .have q:=of_decide_eq_true q;have e:iF right k=12 - k:=(if_pos q);rw[e];show lR (aR 12) (ar 13 Z) au
 .have q:=of_decide_eq_false q;have e:iF right k=k:=(if_neg q);rw[e];show BN (ar 13 Z) Z
 .have hm:m<2:=(dR.mp hn3).1;show⟨by have:=CL (iF right k) j rs;lia,?_⟩;show SS.cons (S1.ite (x:=decide (0<iF right k) && (decide (8<iF right k) ||decide (8<j))) (vE (vI (ar 14 Z) (aR 0)) (λ_=>QX (vI (ar 14 Z) (aR 8)) (λ_=>vI (ar 15 Z) (aR 8)))) (λq=>?_) (λq=>?_)) SS.nil
  .have q:0<iF right k/\(8<iF right k\/8<j):=by simpa using q
   have e:GW (iF right k) rs j=rs++[(iF right k,j)]:=(if_pos q);rw[e];show SS.cons (abY (x:=11) (q:=(iF right k,j)) Z (GV B.top (ar 14 Z) (ar 15 Z) Z Z) Z Z au)<|SS.done<|km.rf bF bF
  .have q:¬(0<iF right k/\(8<iF right k\/8<j)):=by
    intro hc;have:(decide (0<iF right k) && (decide (8<iF right k) ||decide (8<j)))=N:=by simpa using hc
    have q:=this.symm.trans q;ext
   have e:GW (iF right k) rs j=rs:=(if_neg q);rw[e];show SS.done (km.rf bF bF)
noncomputable def Jo(sent:LN)(start:Nat):Nat:=((sent.drop start).take 8).foldl (λwd b=>2 * wd+b) 0
def zU(sent:LN):LN:=(aJ 10).map λk=>Jo sent (8 * k)
def vO(aM:List Int):Nat:=1+DW (aM.getD (aM.length - 1) 0) 12
def l7(aM:List Int):Nat:=1+DW (aM.getD (aM.length / 2) 0) 12
def qN(aM:List Int):Nat:=1+DW ((aM.getD (aM.length - 1) 0).fdiv (12:Nat)) 3
def kQ(aM:List Int):Nat:=1+DW ((aM.getD 0 0).fdiv (2:Nat)) 6
def ab0(T cA br Wd:Int):List Int->Bool
 | [i,j]=>(gU .le T i && gU .lt i (T+cA)) && (gU .le br j && gU .lt j (br+Wd))
 |_=>ab
def ab1(T cA br Wd:Int)(place:Nat):Nat:=((((jb.drop (8 * place)).take 8).map λp=>[aj p.1,aj p.2]).filter (ab0 T cA br Wd)).length
def CM(T cA br Wd:Int):LN:=(aJ 10).filter λplace=>decide (0<ab1 T cA br Wd place)
def GZ(aM:List Int):Nat->LN
 | 0=>aJ 10
 |i+1=>CM (vO aM) ((kQ aM:Int) - i) (l7 aM) (qN aM)
theorem Yz{x:aV}(B:Tp U)(ha:V H U A L J G (aq x np) (aY ns) ab)(hh:V H U A L J G hi (aT k) ab)(hl:ns.length<=1000):V H U A L J G (dk (aq x np) (ml eV (O hi) eV p) pos) (aY (ns.take k)) fr:=by
 show V.to (Ot B ha hh (hO ns) (eU jM)) ?_
 delta aY
 rw[AN]
theorem ω{x:aV}{m:Nat}(B:Tp U)(ha:V H U A L J G (aq x np) (aY ns) ab)(hh:V H U A L J G lo (aT k) ab)(hj:V H U A L J G hi (aT m) ab)(hl:ns.length<=1000)(Q2:k<=m)(hm:m<=ns.length):V H U A L J G (dk (aq x np) (ml (O lo) (O hi) eV p) pos) (aY ((ns.drop k).take (m - k))) fr:=by
 show V.to (Wo B ha hh hj (hO ns) (eU jM) (eU Q2) (eU jM)) ?_
 delta aY
 rw[AN,EU]
theorem OV{x:aV}{ps:List (Nat×Nat)}{m:Nat}(B:Tp U)(ha:V H U A L J G (aq x np) (mK ps) ab)(hh:V H U A L J G lo (aT k) ab)(hj:V H U A L J G hi (aT m) ab)(hl:ps.length<=1000)(Q2:k<=m)(hm:m<=ps.length):V H U A L J G (dk (aq x np) (ml (O lo) (O hi) eV p) pos) (mK ((ps.drop k).take (m - k))) fr:=by
 show V.to (Wo B ha hh hj (BL ps) (eU jM) (eU Q2) (eU jM)) ?_
 delta mK
 rw[AN,EU]
def gL3(I9 aM:List Int)(c:Nat)(data bits:LN)(pic:List (LN))(sent:LN):iz:=
 [(0,0,kO I9),(1,0,kO aM),(2,0,aT (iQ aM)),(3,0,aT c),(5,0,aY data),(6,0,aY bits),(10,1,zt pic),(11,0,mK jb),(16,0,aY sent)]
theorem aj1(hA:Z7 10 A)(B:cx U mg mb)(I:dQ mg mb)(WL:sent.length=80)(hbl:bits.length<=80)(ht:sent.take bits.length=bits):
 S1 H U A iD J (a9 cP 14) (gL3 I9 aM c data bits pic sent) (gL3 I9 aM c data bits pic sent) ai:=by
 show S1.ite (x:=ab) (o7.to (QX (yJ (kb B I Z (ar 16 Z) Z au) (aR 80)) (λ_=>abD hA bu (Yz B.top (ar 16 Z) (kb B I Z (ar 6 Z) Z au) au) (ar 6 Z) (dS _) (dS _))) ?_) (λq=>Iv q) (λ_=>SS.nil);rw[ht,WL];simp
theorem aj2(hh:dh A)(B:cx U mg mb)(I:dQ mg mb)(WL:sent.length=80):
 S1 H U A iD J (a9 cP 16) (gL3 I9 aM c data bits pic sent++[(17,1,aY [])]) (gL3 I9 aM c data bits pic sent++[(17,1,aY (zU sent))]) ai:=by
 show S1.to (dq 18 ((aJ 10).map (8 * ·)) (λl:LN=>gL3 I9 aM c data bits pic sent++[(17,1,aY l)]) (λl st=>l++[Jo sent st]) (λi l=>l.length=i/\i<=10) []
  (zr.eq (Gu (k:=0) (m:=80) (c:=8) (n:=10) hh B I Z V.int Z V.int Z V.int Z aL (rfl) (rfl) (rfl)) (rfl)) (.refl _) ⟨rfl,fk _⟩ (ak Z) (λst=>rfl) (λi st l hn hp=>?_) (λ_=>rfl)) ?_
 .have hi:i<10/\st=8 * i:=by show dG (dR.mp hn) λh1 h2=>?_;simp at h1 h2;show⟨h1,h2.symm⟩
  obtain⟨hi,rfl⟩:=hi;show⟨⟨by simp[hp.1],by assumption⟩,?_⟩;show SS.cons (bC 7 (aT 0) (aR 0) Z Z (aw Z) Z)
   (SS.cons (dq 19 ((sent.drop (8 * i)).take (8 * i+8 - 8 * i)) (λwd:Nat=>gL3 I9 aM c data bits pic sent++[(17,1,aY l),(18,0,aT (8 * i)),(7,0,aT wd)]) (λwd b=>2 * wd+b) (λ_ _=>True) 0
    (GI hh B.top (ω B.top (ar 16 Z) (ar 18 Z) (fu (ar 18 Z) (aR 8)) au au au)) (.refl _) trivial (ak Z) (λst=>rfl) (λm b wd hm _=>⟨trivial,?_⟩) (λ_=>rfl))
   (SS.cons (yL 17 (Jo sent (8 * i)) Z (V.to (ar 7 Z) (by rw[(by lia:8 * i+8 - 8 * i=8)];rfl)) Z Z au) (SS.done (km.rf bF bF))))
  show SS.cons (bC 7 (aT (2 * wd+b)) (fu (lS (aR 2) (ar 7 Z) bu) (ar 19 Z)) Z Z (aw Z) Z)<|SS.done<|km.rf bF bF
 .rw [KW,BE];rfl
def MT(aM:List Int)(c:Nat)(pic:List (LN))(words:LN)(kn:LN)(high:Int):iz:=
 [(1,0,kO aM),(3,0,aT c),(10,1,zt pic),(11,0,mK jb),(17,0,aY words),(20,0,aT (vO aM)),(21,0,aT (l7 aM)),(22,0,aT (qN aM)),(23,0,a6 high),(24,0,aY kn)]
theorem pZ:jb.length=80:=by rfl
theorem ab2{high:Int}{e0:cB}(hh:dh A)(B:cx U mg mb)(I:dQ mg mb):
 S1 H U A iD J (a9 (match a9 cP 22 with|UY _ b _ _=>b |_=>[]) 0) (MT aM c pic words kn high) (jh (MT aM c pic words kn high) 24 1 (aY (CM (vO aM) high (l7 aM) (qN aM)))) ai:=by
 show GK (x:=24) (av:=aY (CM (vO aM) high (l7 aM) (qN aM))) ?_ (jK _) Z (aw Z) (λe=>GL (by delta j7;rw[e];rfl));show V.to (GJ 4 [11,23,21,20,22] (aJ 10) (λplace=>decide (0<ab1 (vO aM) high (l7 aM) (qN aM) place)) (λp=>p) B.top (.of (rfl)) Z
  (zr.itc (fV hh B I Z (aR 10) Z bu)) au (λn hn fZ=>?_) (λn hn _ fZ=>BN (ar 4 Z) Z) (λ_=>rfl)) (by rw[Ut];rfl)
 have hn:=dm.mp hn;show vI (V.to (BK (ns:=((((((jb.drop (8 * n)).take (8 * n+8 - 8 * n)).map λp=>(aj p.1,aj p.2)).map λp=>[p.1,p.2]).filter (ab0 (vO aM) high (l7 aM) (qN aM))).map λ_=>(1:Int))) B I Z ?_ Z ?_) ?_) (aR 0)
 .show V.comp (K:=[14,15]) (fs:=[23,21,20,22]) (ab0 (vO aM) high (l7 aM) (qN aM)) (λ_=>1) B.top (.of (rfl)) Z
   (Oy (x:=14) (y:=15) hh B.top (OV (k:=8 * n) (m:=8 * n+8) B.top (ar 11 Z) (lS (aR 8) (ar 4 Z) aL) (fu (lS (aR 8) (ar 4 Z) aL) (aR 8)) bu au (by rw[pZ];lia)) (v9 _))
   (λks ML=>?_) jM (λks ML ahl=>bg (bG.mp ML) λp _ dX=>dX▸vE (OU (op:=.le) (op':=.lt) (ar 20 Z) (ar 14 Z) (vN (ar 20 Z) (ar 23 Z)))
    (λ_=>OU (op:=.le) (op':=.lt) (ar 21 Z) (ar 15 Z) (vN (ar 21 Z) (ar 22 Z)))) (λks ML _ ahl=>V.int) (λ_=>rfl)
  show bg (bG.mp ML) λp _ dX=>dX▸?_;rfl
 .simp;show a8 (AF _ _) ?_;simp;lia
 .rw [ik,(by lia:8 * n+8 - 8 * n=8),qm];rfl
noncomputable def rU(f:Nat->Nat)(c:Nat):Nat->Nat->Nat
 |i,0=>i
 |i,k+1=>if f i<=c then i else rU f c (i+1) k
set_option tactic.hygienic true in
theorem MU{f:Nat->Nat}(k:Nat):∀(i:Nat),f (i+k)<=c->f (rU f c i k)<=c/\∀j,i<=j->j<rU f c i k->c<f j:=by
 induction k with
 |zero=>intro i h;show⟨h,λj h1 h2=>absurd (jZ h1 h2) (gy _)⟩
 |succ k iH=>
  intro i h;show(?_:f (if f i<=c then i else rU f c (i+1) k)<=c/\∀j,i<=j->j<(if f i<=c then i else rU f c (i+1) k)->c<f j);by_cases hq:f i<=c
  .rw [if_pos hq];show⟨hq,λj h1 h2=>absurd (jZ h1 h2) (gy _)⟩
  .rw [if_neg hq];show eZ (iH (i+1) (by rw[show i+1+k=i+(k+1) by lia];show h)) λh1 h2=>(⟨h1,λj h3 h4=>?_⟩);show if hj:j=i then hj▸UE hq else h2 j au h4
def uo(aM:List Int)(c:Nat):Nat:=rU (λi=>(GZ aM i).length) c 0 (kQ aM+1)
def yN(aM:List Int)(c:Nat):LN:=GZ aM (uo aM c)
def Rq(aM:List Int)(c:Nat):Int:=(kQ aM:Int) - (uo aM c:Nat)+1
theorem Α(aM:List Int):GZ aM (0+(kQ aM+1))=[]:=by
 rw[qq];change CM (vO aM) ((kQ aM:Int) - (kQ aM:Nat)) (l7 aM) (qN aM)=[];rw[(by lia:(kQ aM:Int) - (kQ aM:Nat)=0)]
 delta CM
 rw[Ud];intro p _;have:ab1 (vO aM) 0 (l7 aM) (qN aM) p=0:=by
  delta ab1
  rw[rn,Ud];intro ks ML;show bg (bG.mp ML) λq _ dX=>dX▸?_;dsimp only[ab0,gU,Int.add_zero];intro hc;simp only[qv,decide_eq_true_eq]at hc;lia
 show this.symm▸ne_true_of_eq_false Z
theorem zV(aM:List Int)(c:Nat):(yN aM c).length<=c/\∀j,j<uo aM c->c<(GZ aM j).length:=eZ (MU (f:=λi=>(GZ aM i).length) (c:=c) (kQ aM+1) 0 (by change(GZ aM (0+(kQ aM+1))).length<=c;rw[Α];simp)) λh1 h2=>⟨h1,λj hj=>h2 j (fk _) hj⟩
theorem OW(aM:List Int):∀i,(GZ aM i).length<=10
 | 0=>by ext
 |i+1=>by change(CM _ _ _ _).length<=10;show a8 (AF _ _) ?_;lia
noncomputable def pD(pic:List (LN))(i j v:Nat):List (LN):=pic.set i ((pic.getD i []).set j v)
def Sq(pic:List (LN)):Prop:=pic.length=13/\∀i,i<13->(pic.getD i []).length=13
theorem tW{v:Nat}(h:Sq pic):Sq (pD pic i j v):=by
 show⟨by simp[pD,h.1],λk hk=>?_⟩;have h2:=h.2 k hk
 delta pD
 by_cases e:i=k
 .subst e;have:i<pic.length:=h.1.symm▸hk;simp[this]at h2 ⊢;show h2
 .simp [e];show h2
theorem kx{l:List α}{d:α}(h:i<l.length):l[i]? =O (l.getD i d):=by rw[da,dF h];rfl
theorem S1.pD{i j:aG}{ni nj v:Nat}{p'':cB}(E:ck G x=O (1,zt pic))(hq:Sq pic)(he:V H U A L J G e (aT v) ab)(hi:V H U A L J G i (aT ni) ab)(sf:j8 i=ab)(hj:V H U A L J G j (aT nj) ab)(hni:ni<13)(hnj:nj<13)(hs:fD e (O (dk (dk (aq (NM x) p) i p'') j p')) pos.line J=pure ab):
 S1 H U A L J (eF [dk (dk (aq (NM x) p) i p'') j p'] e pos) G (jh G x 1 (zt (Lake.pD pic ni nj v))) ai:=by
 have hl:=hq.2 ni hni;have key:=ο (p:=p) (p':=p') (p'':=p'') (pos:=pos) (row:=(pic.getD ni []).map aT) E (by rw[cZ,kx (d:=[]) (hq.1▸hni)];rfl) (hO _) he (CI v) hi sf (eU au) hj (eU (by rw[ik];show le_of_le_of_eq hnj (id (mr hl)))) (eU (by rw[ik];lia)) hs
 have e:(pic.map aY).set ni (bR (((pic.getD ni []).map aT).set nj (aT v)))=(Lake.pD pic ni nj v).map aY:=by
  delta Lake.pD
  rw[KX];congr 1
  delta aY
  rw[KX]
 rw[e]at key;show key
theorem Jp{a i:aG}(ha:V H U A L J G a (zt pic) ab)(hi:V H U A L J G i (aT k) ab)(hk:k<pic.length)(hl:pic.length<=1000)(sf:j8 i=ab):V H U A L J G (dk a i pos) (aY (pic.getD k [])) ab:=by show wD ha hi ?_ sf (λq=>Iv q);show(?_:cond (dY k 1000000) ((pic.map aY)[k]?) eV=_);have:dY k 1000000=N:=eU au;show this.symm▸cZ.symm▸(kx (d:=[]) hk).symm▸?_;rfl
theorem Rr{a i:aG}{ps:List (Nat×Nat)}(ha:V H U A L J G a (mK ps) ab)(hi:V H U A L J G i (aT k) ab)(hk:k<ps.length)(hl:ps.length<=1000)(sf:j8 i=ab):V H U A L J G (dk a i pos) (tV (ps.getD k (0,0))) fr:=by show wD ha hi ?_ sf (λ_=>rfl);show(?_:cond (dY k 1000000) ((ps.map tV)[k]?) eV=_);have:dY k 1000000=N:=eU au;show this.symm▸cZ.symm▸(kx (d:=(0,0)) hk).symm▸?_;rfl
theorem ab3(hh:dh A)(B:cx U mg mb)(I:dQ mg mb):
 S1 H U A iD J (a9 cP 22) (MT aM c pic words (aJ 10) (kQ aM)) (MT aM c pic words (yN aM c) ((kQ aM:Int) - (uo aM c:Nat))) ai:=by
 show eZ (zV aM c) λt1 t2=>(Yp (uo aM c) (λi=>MT aM c pic words (GZ aM i) ((kQ aM:Int) - (i:Nat))) ?_ (λi hi=>⟨?_,?_⟩) ?_)
 .have e:(kQ aM:Int) - ((0:Nat):Int)=kQ aM:=by simp
  show .refl _
 .have h10:=OW aM i;show o7.to (vI (kb B I Z (ar 24 Z) Z au) (ar 3 Z)) (decide_eq_true (t2 i hi))
 .show SS.cons (ab2 hh B I (e0:=⟨0,0,0,0⟩)) (SS.share 24 (SS.cons (CF 23 ((kQ aM:Int) - (i:Nat)) 1 ((kQ aM:Int) - (i:Nat) - 1) .sub Z V.int Z (aw (ak Z)) Z (aw Z)) (SS.done ?_)));rw[(by lia:(kQ aM:Int) - ((i+1:Nat):Int)=(kQ aM:Int) - (i:Nat) - 1)];show km.rf (rfl) (rfl)
 .have h10:=OW aM (uo aM c);show o7.to (vI (kb B I Z (ar 24 Z) Z au) (ar 3 Z)) (decide_eq_false (j0.mpr t1))
theorem aj3{ret:Option AV}(hh:dh A)(B:cx U mg mb)(I:dQ mg mb)(DX:0<aM.length)(FP:aM.length<=20)(hr:pP H τ' U A iD J rest (MT aM c pic words (yN aM c) (Rq aM c)) G' ret):
 pP H τ' U A iD J ([a9 cP 17,a9 cP 18,a9 cP 19,a9 cP 20,a9 cP 21,a9 cP 22,a9 cP 23]++rest) (gL3 I9 aM c data bits pic sent++[(17,0,aY words)]) G' ret:=by
 show pP.cons (S1.m (bC 20 (aT (vO aM)) (fu (aR 1) (tU (GU (ar 1 Z) (V.to (MD V.int) Z) DX Z) (aR 12) aL)) Z Z (aw Z) Z)) (pP.cons (S1.m (bC 21 (aT (l7 aM)) (fu (aR 1) (tU (BJ (ar 1 Z) (MO (BK B I Z (ar 1 Z) Z au) (aR 2) aL aL) au au Z) (aR 12) aL)) Z Z (aw Z) Z)) ?_);show pP.cons (S1.m (bC 22 (aT (qN aM)) (fu (aR 1) (tU (MS (GU (ar 1 Z) (V.to (MD V.int) Z) DX Z) (aR 12) aL aL) (aR 3) aL)) Z Z (aw Z) Z)) (pP.cons (S1.m (bC 23 (aT (kQ aM)) (fu (aR 1) (tU (MS (BJ (ar 1 Z) (aR 0) DX au Z) (aR 2) aL aL) (aR 6) aL)) Z Z (aw Z) Z)) ?_);show pP.cons (S1.m (gi 24 (aY (aJ 10)) (V.to (MM (k:=10) hh B I Z Z (aR 10) Z (dN Z)) (rfl)) (jK _) Z (aw Z) Z)) (pP.share 24 ?_);show pP.less (G0:=MT aM c pic words (aJ 10) (kQ aM)) ?_ (km.rf (rfl) (rfl));show pP.cons (S1.m (ab3 hh B I)) (pP.cons (S1.m (CF 23 ((kQ aM:Int) - (uo aM c:Nat)) 1 (Rq aM c) .add Z V.int Z (ak Z) Z (aw Z))) hr)
noncomputable def Rt(x y:Int):Int:=if y<x then y else x
def uE(T cA:Int):Nat:=(Rt 13 (T+cA) - T).toNat
def BQ(left kj:Nat)(pic:List (LN))(i:Nat):List (LN):=((aJ kj).map (left+·)).foldl (λpic j=>pD pic i j 1) pic
def zW(aM:List Int)(c:Nat)(pic:List (LN)):List (LN):=
 ((aJ (uE (vO aM) (Rq aM c))).map (vO aM+·)).foldl (BQ (l7 aM) (uE (l7 aM) (qN aM))) pic
noncomputable def BR(kn:LN):LN:=(aJ 10).filter λn=> !((kn.map aj).any (· ==aj n))
noncomputable def iU(pic:List (LN))(p:Nat×Nat):Nat:=(pic.getD p.1 []).getD p.2 0
def qO(place amount:Nat)(pic:List (LN))(back:Nat):List (LN):=
 pD pic (jb.getD (8 * place+back) (0,0)).1 (jb.getD (8 * place+back) (0,0)).2 (iU pic (jb.getD (8 * place+back) (0,0)) ^^^ (amount / 2 ^ (7 - back) % 2))
def Jq(place amount:Nat)(pic:List (LN)):List (LN):=(aJ 8).foldl (qO place amount) pic
noncomputable def yO(aM:List Int)(turn:Nat):Int:=aM.getD ((turn+1) % aM.length) 0
def lr(aM:List Int)(free:LN)(turn:Nat):Nat:=DW ((yO aM turn).fdiv (2:Nat)+(3 * turn:Nat)) free.length
def tX(aM:List Int)(turn:Nat):Nat:=1+DW (yO aM turn+(29 * turn:Nat)) 255
def pE(aM:List Int)(st:LN×List (LN))(turn:Nat):LN×List (LN):=
 (st.1.eraseIdx (lr aM st.1 turn),Jq (st.1.getD (lr aM st.1 turn) 0) (tX aM turn) st.2)
def G4(pic:List (LN))(place:Nat):Nat:=((jb.drop (8 * place)).take 8).foldl (λwd p=>2 * wd+iU pic p) 0
theorem Dy{left kj:Nat}(h:Sq pic):Sq (BQ left kj pic i):=by
 have:∀(l:LN) (pic:List (LN)),Sq pic->Sq (l.foldl (λpic j=>pD pic i j 1) pic):=by
  intro l;induction l with
  |nil=>intro pic h;show h
  |cons x l ih=>intro pic h;show ih _ (tW h)
 show this _ _ h
theorem OX:∀k,k<80->(jb.getD k (0,0)).1<13/\(jb.getD k (0,0)).2<13:=by decide
theorem OY{amount:Nat}(h:Sq pic):Sq (Jq place amount pic):=by
 have:∀(l:LN) (pic:List (LN)),Sq pic->Sq (l.foldl (qO place amount) pic):=by
  intro l;induction l with
  |nil=>intro pic h;show h
  |cons x l ih=>intro pic h;show ih _ (tW h)
 show this _ _ h
theorem BS{a:Nat}{b:Int}{np' p13:cB}(hA:Z7 k A)(B:cx U mg mb)(I:dQ mg mb)(kM:Gi L "range")(ae1:Gi L "min")(h1:V H U A L J G e1 (aT a) ab)(s1:cI e1=ab)(h2:V H U A L J G e2 (a6 ((a:Int)+b)) ab)(s2:cI e2=ab)(ha:a<=100)(D: -1000<=b):
 zr H U A L J G (bx (aq (aC "range") np) [e1,bx (aq (aC "min") np') [fN (jI 13) k0 p13,e2] [] Ct] [] pos) (((aJ (uE a b)).map (a+·)).map aj):=by
 have hm:Rt 13 ((a:Int)+b)<=13/\ -1000<=Rt 13 ((a:Int)+b):=by delta Rt;split<;>lia
 show zr.eq (zR (m:=Rt 13 ((a:Int)+b)) hA.hd B I kM h1 s1 (abE hA B I ae1 V.int h2 Z s2) Z au fH au au) ?_;rw[qm];apply AI;intro i _;show(?_:(a:Int)+(i:Int) * 1=((a+i:Nat):Int));simp
theorem Β(aM:List Int)(c:Nat): -1000<=Rq aM c/\Rq aM c<=1000:=by
 have h1:kQ aM<=6:=by have:=rT ((aM.getD 0 0).fdiv (2:Nat)) (m:=6) bu;show AS.mpr this
 have h2:uo aM c<=kQ aM+1:=by
  delta uo
  have:∀(f:Nat->Nat) (c k i:Nat),rU f c i k<=i+k:=by
   intro f c k;induction k with
   |zero=>intro i;unfold rU;lia
   |succ k ih=>
    intro i;unfold rU;split
    .lia
    .have:=ih (i+1);lia
  have:=this (λi=>(GZ aM i).length) c (kQ aM+1) 0;lia
 delta Rq
 lia
theorem aj4(hA:Z7 10 A)(B:cx U mg mb)(I:dQ mg mb)(hq:Sq pic):
 S1 H U A iD J (a9 cP 24) (MT aM c pic words kn (Rq aM c)) (MT aM c (zW aM c pic) words kn (Rq aM c)) ai:=by
 show eZ (Β aM c) λhb1 hb2=>?_;have ht:vO aM<=12:=by have:=rT (aM.getD (aM.length - 1) 0) (m:=12) aL;show AS.mpr this
 have hl:l7 aM<=12:=by have:=rT (aM.getD (aM.length / 2) 0) (m:=12) aL;show AS.mpr this
 have hw:qN aM<=3:=by have:=rT ((aM.getD (aM.length - 1) 0).fdiv (12:Nat)) (m:=3) bu;show AS.mpr this
 have ahm:∀(a:Nat) (b:Int) (x:Nat),x∈(aJ (uE a b)).map (a+·)->x<13:=λa b x E=>by show bg (bG.mp E) λm hm dX=>dX▸?_;have hm:=dm.mp hm;unfold uE Rt at hm;split at hm<;>lia
 show dq 14 ((aJ (uE (vO aM) (Rq aM c))).map (vO aM+·)) (λpic:List (LN)=>MT aM c pic words kn (Rq aM c)) (BQ (l7 aM) (uE (l7 aM) (qN aM))) (λ_ pic=>Sq pic) pic
  (BS hA B I Z Z (ar 20 Z) Z (vN (ar 20 Z) (ar 23 Z)) Z au hb1) (.refl _) hq (ak Z) (λst=>rfl) (λm i pic hn hq=>?_) (λ_=>rfl)
 show⟨Dy hq,?_⟩;show SS.cons (dq 15 ((aJ (uE (l7 aM) (qN aM))).map (l7 aM+·)) (λpic:List (LN)=>MT aM c pic words kn (Rq aM c)++[(14,0,aT i)]) (λpic j=>pD pic i j 1) (λ_ pic=>Sq pic) pic
  (BS hA B I Z Z (ar 21 Z) Z (vN (ar 21 Z) (ar 22 Z)) Z au fH) (.refl _) hq (ak Z) (λst=>rfl) (λm2 j alC FP hq2=>⟨tW hq2,SS.cons (S1.pD (x:=10) (ni:=i) (nj:=j) (v:=1) Z hq2 (aR 1) (ar 14 Z) Z (ar 15 Z) (ahm _ _ i (cY hn)) (ahm _ _ j (cY FP)) Z)<|SS.done<|km.rf bF bF⟩) (λ_=>rfl))<|SS.done<|km.rf bF bF
theorem aj5{hi:Int}(hh:dh A)(B:cx U mg mb)(I:dQ mg mb):
 S1 H U A iD J (a9 cP 25) (MT aM c pic words kn hi) (MT aM c pic words kn hi++[(25,1,aY (BR kn))]) ai:=by
 show S1.to (Dv (x:=4) (y:=25) (fs:=[24]) (ns:=aJ 10) (λn=> !((kn.map aj).any (· ==aj n))) (λn=>n) B.top (.of (rfl)) Z
  (zr.itc (fV hh B I Z (aR 10) Z bu)) bz (λn hn fZ=>?_) (λn hn _ fZ=>BN (ar 4 Z) Z) (λ_=>rfl) Z Z
  (λe=>qL (by rw[e];rfl) (by delta j7;rw[e];rfl) Z (rfl))) (by rw[Ut];rfl)
 show o7.Wq (ar 4 Z) (ar 24 Z) (dS kn)
theorem YA(f:α->β)(l:List α):∀(i:Nat),(l.map f).eraseIdx i=(l.eraseIdx i).map f:=by
 induction l with
 |nil=>intro _;rfl
 |cons x l iH=>
  intro yY;cases yY with
  |zero=>rfl
  |succ i=>simp[iH i]
theorem ab4{i:aG}(E:ck G x=O (1,aY ns))(hi:V H U A L J G i (aT j) ab)(hj:j<ns.length)(hl:ns.length<=1000)(qI:y≠x)(dH:cI i=ab)(lz:(apos.endLine==cpos.line)=N)(hsy:bS G y=N)(hy:Hx L y):
 S1 H U A L J (eF [aq (NM y) p'] (bx (gZ (aq (NM x) p) (aC "pop") apos) [i] [] cpos) pos) G (jh (jh G x 1 (aY (ns.eraseIdx j))) y 0 (aT (ns.getD j 0))) ai:=by
 have key:=abJ (p:=p) (p':=p') (apos:=apos) (cpos:=cpos) (pos:=pos) (av:=aT (ns.getD j 0)) E (hO ns) hi (by rw[cZ,kx (d:=0) hj];rfl) (eU jM) qI dH lz hsy hy;rw[YA]at key;show key
theorem OZ{ps:List (Nat×Nat)}(Γ:σ->iz)(upd:σ->Nat×Nat->σ)(P:Nat->σ->Prop)(s0:σ)(hh:dh A)(B:Tp U)(he:V H U A L J G iter (mK ps) N)(h0:km (Γ s0) G)(hp0:P 0 s0)(E:∀z∈[x,y],Hx L z)(dH:∀st,∀z∈[x,y],bS (Γ st) z=N)(step:∀i p st,ps[i]? =O p->P i st->P (i+1) (upd st p)/\SS H U A L J body (jh (jh (Γ st) x 0 (aT p.1)) y 0 (aT p.2)) (Γ (upd st p)) ai)(hs:Fs iter J):
 S1 H U A L J (j4 (fO [aq (NM x) px,aq (NM y) py] k0 pt) iter body [] pos) G (Γ (ps.foldl upd s0)) ai:=by
 have key:=abP (px:=px) (py:=py) (pt:=pt) (k0:=k0) (pos:=pos) (body:=body) (x:=x) (y:=y) (λi=>Γ ((ps.take i).foldl upd s0)) hh B he (v9 ps) h0 E (λi _=>dH _) (λi n hn=>?_) hs
 .rw [ik,sV]at key;show key
 .rw [cZ]at hn;show bg (iY.mp hn) λm hm e=>A3 _ _ hm▸e▸(step i m _ hm (ael hp0 (λi n s a b=>(step i n s a b).1) i (gz (dR.mp hm).1))).2
theorem aj6{free:LN}{hi:Int}(hh:dh A)(B:cx U mg mb)(I:dQ mg mb)(DX:0<aM.length)(FP:aM.length<=20)(hq:Sq pic)(hkc:kn.length<=c)(hc:c<=10)(ZO:(c - kn.length) / 2<=free.length)(ahn:free.length<=10)(hfb:∀x∈free,x<10):
 S1 H U A iD J (a9 cP 26) (MT aM c pic words kn hi++[(25,1,aY free)])
  (MT aM c ((aJ ((c - kn.length) / 2)).foldl (pE aM) (free,pic)).2 words kn hi++[(25,1,aY ((aJ ((c - kn.length) / 2)).foldl (pE aM) (free,pic)).1)]) ai:=by
 show dq 26 (aJ ((c - kn.length) / 2)) (λst:LN×List (LN)=>MT aM c st.2 words kn hi++[(25,1,aY st.1)]) (pE aM) (λi st=>st.1.length=free.length - i/\Sq st.2/\(∀x∈st.1,x<10)/\i<=(c - kn.length) / 2) (free,pic)
  (fV hh B I Z (MO (lR (ar 3 Z) (kb B I Z (ar 24 Z) Z au) hkc) (aR 2) aL aL) Z au) (.refl _) (rR Z hq hfb (fk _)) (ak Z) (λst=>rfl) (λi turn st hn hp=>?_) (λ_=>rfl)
 show dG (dR.mp hn) λh1 h2=>?_;simp at h1 h2;show h2▸?_;obtain⟨fr,pc⟩:=st;show iK hp λp1 p2 p3 p4=>?_;simp only at p1 p2 p3;have hfl:0<fr.length:=by lia
 have Δ:lr aM fr i<fr.length:=rT _ hfl;have Q9:fr.getD (lr aM fr i) 0<10:=p3 _ (strs_getD_mem Δ);show⟨(rR ?_ (OY p2) (λx E=>p3 x (Ub E)) (by assumption)),?_⟩
 .change (fr.eraseIdx (lr aM fr i)).length=_;rw[Ug,if_pos Δ];lia
 generalize hpp:fr.getD (lr aM fr i) 0=place at *;show SS.cons (bC 27 (a6 (yO aM i)) (BJ (ar 1 Z) (yI (fu (ar 26 Z) (aR 1)) (BK B I Z (ar 1 Z) Z au) DX) (m9 _ DX) au Z) Z Z (ak Z) Z)
  (SS.cons (S1.to (G1:=MT aM c pc words kn hi++[(25,1,aY (fr.eraseIdx (lr aM fr i))),(26,0,aT i),(27,0,a6 (yO aM i)),(4,0,aT place)]) (ab4 (x:=25) (y:=4) (ns:=fr) (j:=lr aM fr i) Z
   (tU (vN (MS (ar 27 Z) (aR 2) aL aL) (lS (aR 3) (ar 26 Z) bu)) (kb B I Z (ar 25 Z) Z au) hfl) Δ au (uf Z) Z Z Z (ak Z)) (by rw[hpp];rfl))
  (SS.cons (bC 28 (aT (tX aM i)) (fu (aR 1) (tU (vN (ar 27 Z) (lS (aR 29) (ar 26 Z) bu)) (aR 255) bu)) Z Z (ak Z) Z)
  (SS.cons (dq 29 (aJ 8) (λpc2:List (LN)=>MT aM c pc2 words kn hi++[(25,1,aY (fr.eraseIdx (lr aM fr i))),(26,0,aT i),(27,0,a6 (yO aM i)),(4,0,aT place),(28,0,aT (tX aM i))]) (qO place (tX aM i)) (λ_ pc2=>Sq pc2) pc
   (fV hh B I Z (aR 8) Z bu) (.refl _) p2 (ak Z) (λst=>rfl) (λk back pc2 hk hq2=>?_) (λ_=>rfl)) (SS.done ?_))))
 .have hb8:back<8:=dm.mp (cY hk);have aho:8 * place+back<80:=by lia
  obtain⟨s1,s2⟩:=OX _ aho;show⟨tW hq2,?_⟩;show SS.cons (S1.to (G1:=MT aM c pc2 words kn hi++[(25,1,aY (fr.eraseIdx (lr aM fr i))),(26,0,aT i),(27,0,a6 (yO aM i)),(4,0,aT place),(28,0,aT (tX aM i)),(29,0,aT back),(14,0,aT (jb.getD (8 * place+back) (0,0)).1),(15,0,aT (jb.getD (8 * place+back) (0,0)).2)])
   (Wy (x:=14) (y:=15) (p:=(aj (jb.getD (8 * place+back) (0,0)).1,aj (jb.getD (8 * place+back) (0,0)).2)) hh
    (Rr (ar 11 Z) (fu (lS (aR 8) (ar 4 Z) bu) (ar 29 Z)) (aho) bu Z)
    aL (λz hz=>by simp at hz;rcases hz with rfl|rfl<;>rfl) Z Z) Z)
   <|SS.cons (S1.pD (x:=10) (pic:=pc2) (v:=iU pc2 (jb.getD (8 * place+back) (0,0)) ^^^ (tX aM i / 2 ^ (7 - back) % 2)) Z hq2
    (nB (fq (Jp (ar 10 Z) (ar 14 Z) (by rw[hq2.1];show s1) (by rw[hq2.1];decide) Z) (ar 15 Z) (by rw[hq2.2 _ s1];show s2) (by rw[hq2.2 _ s1];decide) Z)
     (WK (ar 28 Z) (ar 29 Z) hb8)) (ar 14 Z) Z (ar 15 Z) s1 s2 Z)<|SS.done<|km.rf bF bF
 .delta pE
  rw[hpp];show km.rf bF bF
def sE(aM:List Int)(c:Nat)(pic:List (LN)):List (LN):=
 ((aJ ((c - (yN aM c).length) / 2)).foldl (pE aM) (BR (yN aM c),zW aM c pic)).2
def oh(pic:List (LN)):LN:=(aJ 10).map (G4 pic)
theorem CN(h:Sq pic):Sq (zW aM c pic):=by
 have:∀(l:LN) (pic:List (LN)),Sq pic->Sq (l.foldl (BQ (l7 aM) (uE (l7 aM) (qN aM))) pic):=by
  intro l;induction l with
  |nil=>intro pic h;show h
  |cons x l ih=>intro pic h;show ih _ (Dy h)
 show this _ _ h
theorem ab5(l:LN):∀(st:LN×List (LN)),Sq st.2->Sq (l.foldl (pE aM) st).2:=by
 induction l with
 |nil=>intro _ h;show h
 |cons x l iH=>intro st h;show iH (pE aM st x) (OY h)
theorem ab6(h:Sq pic):Sq (sE aM c pic):=ab5 _ _ (CN h)
theorem WM(aM:List Int):∀i,∀x∈GZ aM i,x<10:=by
 intro xX;induction xX with
 |zero=>intro x h;show dm.mp h
 |succ i iH=>intro x h;show dm.mp (gu.mp h).1
def gL6(c:Nat)(pic:List (LN))(words kn:LN):iz:=[(3,0,aT c),(10,1,zt pic),(11,0,mK jb),(17,0,aY words),(24,0,aY kn)]
theorem aj7(hh:dh A)(B:cx U mg mb)(I:dQ mg mb)(hq:Sq pic):
 S1 H U A iD J (a9 cP 28) (gL6 c pic words kn++[(30,1,aY [])]) (gL6 c pic words kn++[(30,1,aY (oh pic))]) ai:=by
 show S1.to (dq 4 (aJ 10) (λl:LN=>gL6 c pic words kn++[(30,1,aY l)]) (λl p=>l++[G4 pic p]) (λi l=>l.length=i/\i<=10) []
  (fV hh B I Z (aR 10) Z bu) (.refl _) ⟨rfl,fk _⟩ (ak Z) (λst=>rfl) (λi p l hn hp=>?_) (λ_=>rfl)) ?_
 .show dG (dR.mp hn) λh1 h2=>?_;simp at h1 h2;subst h2;show⟨⟨by simp[hp.1],by assumption⟩,?_⟩;show SS.cons (bC 7 (aT 0) (aR 0) Z Z (aw Z) Z)
   (SS.cons (OZ (x:=14) (y:=15) (ps:=(jb.drop (8 * i)).take (8 * i+8 - 8 * i)) (λwd:Nat=>gL6 c pic words kn++[(30,1,aY l),(4,0,aT i),(7,0,aT wd)]) (λwd p=>2 * wd+iU pic p) (λ_ _=>True) 0 hh B.top
    (OV (k:=8 * i) (m:=8 * i+8) B.top (ar 11 Z) (lS (aR 8) (ar 4 Z) aL) (fu (lS (aR 8) (ar 4 Z) aL) (aR 8)) bu au (by rw[pZ];lia))
    (.refl _) trivial aL (λst z hz=>by simp at hz;rcases hz with rfl|rfl<;>rfl) (λk q wd hk _=>⟨trivial,?_⟩) (λ_=>rfl))
   (SS.cons (yL 30 (G4 pic i) Z (V.to (ar 7 Z) (by rw[(by lia:8 * i+8 - 8 * i=8)];rfl)) Z Z au) (SS.done (km.rf bF bF))))
  have ab7:q.1<13/\q.2<13:=by have hm:q∈jb:=rq (AH (cY hk));show dG (KJ.mp hm) λm hm=>?_;have:=OX m ((dR.mp hm).1);have this:=hm▸da▸this;show this
  show SS.cons (bC 7 (aT (2 * wd+iU pic q)) (fu (lS (aR 2) (ar 7 Z) bu)
   (fq (Jp (ar 10 Z) (ar 14 Z) (hq.1▸ab7.1) (by show hq.1.symm▸?_;decide) Z) (ar 15 Z) ((hq.2 _ ab7.1)▸ab7.2) (by show(hq.2 _ ab7.1).symm▸?_;decide) Z)) Z Z (aw Z) Z) (SS.done ?_)
  show km.rf bF bF
 .rw [BE];rfl
theorem ab8{a b:aG}{ns ms:List Int}(hA:Z7 k A)(hk:4<=k)(nS:∀b∈H,b∈τ')(ha:EVm H τ' U A L J G a (bR K) ab)(D:V τ' U A L J G b (bR ys) ab)(h1:ja K=O ns)(h2:ja ys=O ms):EVm H τ' U A L J G (jt a [Bg] [b] pos) (eX (decide (ns=ms))) fr:=λs r=>by show wpAny_Compare1 ((ha r).tN λv aD F1 e1 V1 _=>(D ((r.up nS).ext e1.ext)).tN λu aQ F2 e2 V2 _=>?_) (se .eq b);show T.Dm (Gk hA hk (V1.ext e2.ext) V2 h1 h2).1 (o6 [] (e1.trans e2) (.ofBool _) d9)
def MFn(U:aO)(mg:aV->Option aa)(a:ae)(fd:cq)(cM:ae):Prop:=
 mg (aC "_law_mended")=O (R a)/\
 FnAt U a fd/\
 fd.params=fz Z3/\
 fd.body=kZ dz/\
 fd.scope=lG/\
 fd.closure=[]/\
 fd.globals=ef/\
 fd.builtins=gb/\
 fd.defaults=ax/\
 fd.qualname=aC "_law_mended" /\
 fd.code=R cM/\
 cM∉bV/\
 U.IsCode cM 2007 #[]/\
 U.TableAt cM 2007 #[]
theorem O0(fd:cq)(hp:fd.params=fz Z3)(hd:fd.defaults=ax)(vs:List aa)(hl:vs.length=[17,3,24].length):dw fd ⟨vs,[]⟩=pure (([17,3,24].map NM).zip vs):=by
 apply aby hl;intro a b c
 delta dw
 show hp.symm▸hd.symm▸?_;rfl
theorem YB{k3:Nat}{x2 x3:Nat}(hA:Z7 10 A)(B:cx U mg mb)(I:dQ mg mb)(M:MFn U mg a fd cM)(kM:Gi L "_law_mended")(hx1:ck G x1=O (k1,aY ws))(hx2:ck G x2=O (k2,aT c))(hx3:ck G x3=O (k3,aY kn))(WI:ws.length<=50)(hws:∀x∈ws,x<256)(hc:c<=50)(hkn:∀x∈kn,x<ws.length)(hkc:kn.length<=c)(qU:(jN (cN ws.length) (ux (kP (cN ws.length) (fX ws c) kn)).now ws.length).length=(ux (kP (cN ws.length) (fX ws c) kn)).size)(pv:2007∉H)(kr:2007∈τ')(nS:∀b∈H,b∈τ'):
 EVm H τ' U A L J G (bx (aq (aC "_law_mended") np) [aq (NM x1) p1,aq (NM x2) p2,aq (NM x3) p3] [] pos) (aY (vK ws c kn)) ab:=by
 show dU M λM1 M2 M3 M4 M5 M6 M7 afc=>iZ afc λM8 M9 M10 M11 ahp=>ie ahp λM12 M13 M14=>?_;have hd:=hA.depth;show Rb (K:=[17,3,24]) (avs:=[aY ws,aT c,aY kn]) (G':=[]) (fd:=fd) (body:=dz) B M1 kM (rfl) M2 M4 M6 (by rw[M5];rfl) (by rw[M5];rfl) (λvs hl=>O0 fd M3 M9 vs hl) (by rw[M5];rfl) M7 M8 aL Z
  (by show M5.symm▸?_;decide) (KZ hd) (fL.cons (ar x1 hx1) (fL.cons (ar x2 hx2) (fL.cons (ar x3 hx3) fL.nil Z) Z) Z) Z (λbr=>?_) (λq=>Iv q) nS
 show M5.symm▸OP (cM:=cM) (P:=2007) hA.hd ?_ B I WI hws hc hkn hkc qU ?_ M11 M12 M13 M14 (nme Z) pv kr nS
 .change A.depth+1<1000;lia
 .change fd.qualname++ ".<locals>." =Z4;show M10.symm▸?_;rfl
def Ε(aM:List Int)(c:Nat)(pic:List (LN))(sent:LN):Bool:=decide ((vK (oh (sE aM c pic)) c (yN aM c)).map aj=(zU sent).map aj)
theorem afd(hA:Z7 10 A)(B:cx U mg mb)(I:dQ mg mb)(M:MFn U mg a fd cM)(DX:0<aM.length)(FP:aM.length<=20)(hc:c<=10)(WL:sent.length=80)(hbl:bits.length<=80)(ht:sent.take bits.length=bits)(hq:Sq pic)(ZO:(c - (yN aM c).length) / 2<=(BR (yN aM c)).length)(v7:∀x∈oh (sE aM c pic),x<256)(qU:(jN (cN 10) (ux (kP (cN 10) (fX (oh (sE aM c pic)) c) (yN aM c))).now 10).length=(ux (kP (cN 10) (fX (oh (sE aM c pic)) c) (yN aM c))).size)(pv:2007∉H)(kr:2007∈τ')(nS:∀b∈H,b∈τ'):
 pP H τ' U A iD J [a9 cP 14,a9 cP 15,a9 cP 16,a9 cP 17,a9 cP 18,a9 cP 19,a9 cP 20,a9 cP 21,a9 cP 22,a9 cP 23,a9 cP 24,a9 cP 25,a9 cP 26,a9 cP 27,a9 cP 28,a9 cP 29]
  (gL3 I9 aM c data bits pic sent) [] (O (eX (Ε aM c pic sent))):=by
 have hh:=hA.hd;have sf:(oh (sE aM c pic)).length=10:=by rfl
 have hkl:=(zV aM c).1;have ahn:(BR (yN aM c)).length<=10:=by show a8 (AF _ _) ?_;ext
 show pP.cons (S1.m (aj1 hA B I WL hbl ht))<|pP.cons (S1.m (gi 17 (aY []) (o8 B.top fL.nil Z Z) Z Z (ak Z) Z))<|pP.cons (S1.m (aj2 hh B I WL))<|pP.share 17<|aj3 (rest:=[a9 cP 24,a9 cP 25,a9 cP 26,a9 cP 27,a9 cP 28,a9 cP 29]) hh B I DX FP<|pP.cons (S1.m (aj4 hA B I hq))<|pP.cons (S1.m (aj5 hh B I))<|pP.cons (S1.m (aj6 hh B I DX FP (CN hq) hkl hc ZO ahn (λx E=>dm.mp (gu.mp E).1)))<|pP.less (G0:=gL6 c (sE aM c pic) (zU sent) (yN aM c)) ?_ (km.rf bF bF);show pP.cons (S1.m (gi 30 (aY []) (o8 B.top fL.nil Z Z) Z Z (ak Z) Z))<|pP.cons (S1.m (aj7 hh B I (ab6 hq)))<|ρ<|S1m.ret nS<|ab8 hA bu nS (YB (x1:=30) (x2:=3) (x3:=24) hA B I M Z Z Z Z (by rw[sf];decide) v7 au (by show sf.symm▸?_;show(WM aM _)) hkl (sf▸qU) pv kr nS) (ar 17 Z) (dS _) (dS _)
noncomputable def BU:List String:=["bytearray.__contains__", "bytearray.__mod__", "bytearray.__rmod__", "_struct.pack_into.held", "bytearray.find.held"]++LU
noncomputable def oi:iV->Bool
 |fG id _=> !BU.contains id
 |_=>N
def Cl(Γ:Ctx):Prop:=oi Γ.code=N/\∀x∈Γ.below,oi x.1=N
def C{α:Type}(A:b9)(t:aI α)(s:af)(Q:α->af->Prop):Prop:=
 ∀⦃Γ:Ctx⦄ ⦃p:cB⦄,Γ.In A->Cl Γ->Sem.wp (aE prog w) Γ t (λa _ Y=>Q a Y) (λ_ _ _=>False) p s
def CC(A:b9)(c:iV)(s:af)(aN:sO->af->Prop):Prop:=
 ∀⦃Γ:Ctx⦄ ⦃p:cB⦄,Γ.code=c->Γ.Below A->(∀x∈Γ.below,oi x.1=N)->wpCode (aE prog w) Γ aN p s
theorem T.wc{t:aI α}{P:α->af->Prop}(x:T A t s P):C A t s P:=λΓ p h _=> @x Γ p h
theorem C.mono{t:aI α}{P Q:α->af->Prop}(x:C A t s P)(h:∀a Y,P a Y->Q a Y):C A t s Q:=λΓ p wa hc=>
 tH (aE prog w) Γ t (λa _ Y=>h a Y) (λ_ _ _ f=>f) p s (@x Γ p wa hc)
theorem T.wo{t:aI α}{P Q:α->af->Prop}(x:T A t s P)(h:∀a Y,P a Y->Q a Y):C A t s Q:=x.wc.mono h
theorem T.wR{t:aI α}{v₀:α}{Q:α->af->Prop}(x:T A t s λv Y=>Y=aK/\v=v₀)(k:Q v₀ aK):C A t s Q:=x.wo λ_ _ q=>q.1▸q.2▸k
theorem T.wcV{t:aI α}{gn:α->β->Prop}{Q:α->af->Prop}(x:T A t s λv Y=>Y=aK/\∃F,gn v F)(k:∀v F,gn v F->Q v aK):C A t s Q:=x.wo λv _ qQ=>Ms qQ λe F y=>e▸k v F y
theorem T.wcE{t:aI aa}(h:T A t s (EP H aK av fr))(k:∀v Y F,dA H aK Y->bM Y.heap av v F->(fr=N->(∀b∈F,aK.heap.get? b=ai)/\F.Nodup)->Q v Y):C A t s Q:=T.wc (h.tN k)
theorem ahq{t:aI (List aa)}{Q:List aa->af->Prop}(h:T A t s (EPs H aK avs))(k:∀v Y F,dA H aK Y->bA Y.heap avs v F->Q v Y):C A t s Q:=T.wc (h.QW k)
theorem T.wcI{t:aI aa}{i:Int}(h:T A t s (EP H aK (a6 i) fr))(k:∀t Y,dA H aK Y->Q (ag i t) Y):C A t s Q:=T.wc (h.Cz k)
theorem WN{t:aI aa}{u:aa}(h:T A t s (EP H aK (aH u) fr))(k:∀Y,dA H aK Y->Q u Y):C A t s Q:=T.wc (h.Z9 k)
theorem T.wc2{t:aI α}{X gn Q:α->af->Prop}(h:T A t s λv Y=>X v Y/\gn v Y)(k:∀v Y,X v Y->gn v Y->Q v Y):C A t s Q:=T.wc (h.Cw k)
theorem C.bind{m:aI α}{f:α->aI β}{Q:β->af->Prop}(x:C A m s (λa Y=>C A (f a) Y Q)):C A (m>>=f) s Q:=λΓ p wa hc=>by rw[VL];show tH (aE prog w) Γ m (λa p' Y h'=> @h' Γ p' wa hc) (λ_ _ _ h'=>h') p s (@x Γ p wa hc)
theorem C.pure{a:α}{Q:α->af->Prop}(h:Q a s):C A (Pure.pure a) s Q:=λ_ _ _ _=>h
theorem C.holding{m:aI α}{Q:α->af->Prop}(h:C A m s Q):C A (TV vs m) s Q:=λΓ p wa hc=>by rw[Sem.wp_holding];show @h Γ p wa hc
theorem C.standAt{Q:Unit->af->Prop}(h:Q () s):C A (TX pos) s Q:=λ_ _ _ _=>h
theorem cS{t:aI α}{P:α->af->Prop}(x:aA (aE prog w) A t P NoE s):C A t s P:=T.wc x
theorem lB{m:aI α}{f:α->aI β}{Q:β->af->Prop}(x:aA (aE prog w) A m (λa Y=>C A (f a) Y Q) NoE s):C A (m>>=f) s Q:=C.bind (cS x)
theorem nU{f:Unit->aI β}{Q:β->af->Prop}(h:C A (f ()) s Q):C A (TX pos>>=f) s Q:=C.bind (C.standAt h)
theorem lH{m:aI α}{f:α->aI β}{Q:β->af->Prop}(x:C A m s (λa Y=>C A (f a) Y Q)):C A (TV vs m>>=f) s Q:=C.bind (C.holding x)
theorem C.point{Q:Unit->af->Prop}(h:Q () s):C A PySem.point s Q:=λ_ _ _ _=>h
theorem C.rule{tag:String}{Q:Unit->af->Prop}(h:Q () s):C A (PySem.rule tag) s Q:=λ_ _ _ _=>h
theorem C.eq{t:aI α}{a:α}{Q:α->af->Prop}(e:t=Pure.pure a)(h:Q a s):C A t s Q:=by subst e;show .pure h
theorem C.release{a b:List aa}{Q:Unit->af->Prop}(h:Q () s):C A (PySem.release a b) s Q:=λΓ p _ _=>by rw[Sem.wp_release];show h
theorem C.bindName{x:aV}{Q:Unit->af->Prop}(h:C A (Au J x v) s Q):C A (PySem.bindName J x v) s Q:=λΓ p wa hc=>by rw[Sem.wp_bindName];show @h Γ p wa hc
theorem C.onRaise{m:aI α}{k:aa->aI Unit}{Q:α->af->Prop}(h:C A m s Q):C A (m.onRaise k) s Q:=λΓ p wa hc=>by rw[Sem.wp_onRaise];show tH (aE prog w) Γ m (λ_ _ _ h'=>h') (λ_ _ _ h'=>h'.elim) p s (@h Γ p wa hc)
theorem BV{m:aI α}{k:aa->aI α}{Q:α->af->Prop}(h:C A m s Q):C A (m.tryCatch k) s Q:=λΓ p wa hc=>by rw[Sem.wp_tryCatch];show tH (aE prog w) Γ m (λ_ _ _ h'=>h') (λ_ _ _ h'=>h'.elim) p s (@h Γ p wa hc)
theorem C.attempt{m:aI α}{Q:Except aa α->af->Prop}(h:C A m s (λa=>Q (bX a))):C A m.attempt s Q:=λΓ p wa hc=>by rw[Sem.wp_attempt];show tH (aE prog w) Γ m (λ_ _ _ h'=>h') (λ_ _ _ h'=>h'.elim) p s (@h Γ p wa hc)
theorem CC.mono{c:iV}{R':sO->af->Prop}(x:CC A c s aN)(h:∀r Y,aN r Y->R' r Y):CC A c s R':=λΓ p h1 h2 h3=>eS (@x Γ p h1 h2 h3) λr Y a b=>kH r Y a (h r Y b)
theorem Ru{c:iV}(x:oH (aE prog w) A c aN s):CC A c s aN:=λΓ p h1 h2 _=>x Γ p h1 h2
theorem Cl.enter{Γ:Ctx}(h:Cl Γ)(c:iV)(hd:Option aa)(p:cB):∀x∈(Γ.enter c hd p).below,oi x.1=N:=λx E=>bc (bq.mp E) (λa1=>a1▸h.1) λE=>h.2 x E
theorem C.run{c:iV}{Q:cb->af->Prop}(hc:CC (A.mark ai) c s (λr Y=>match r with|bX f=>Q f Y|j3 _=>False)):
 C A (PySem.run c ai) s Q:=λΓ p wa jy=>by
 have:= @hc _ p Z (wa.enter c ai p λx=>Bj x) (jy.enter c ai p);show eS this λr Y a b=>((kH r Y a ?_));cases r with
 |ok f=>show b
 |error e=>show b
theorem C.runValue{c:iV}(hc:CC A c s (λr Y=>match r with|bX (cG v)=>Q v Y |_=>False)):C A (PySem.runValue c) s Q:=λΓ p wa jy=>by
 rw[Sem.wp_runValue];show eS (@hc _ p Z (wa.enter c ai p (by intro x;ext)) (jy.enter c ai p)) λr Y a b=>((kH r Y a ?_));cases r with
 |ok f=>cases f<;>show b
 |error e=>show b
theorem C.call{f:aa}{pos:List aa}{kw:List (aV×aa)}(hc:CC A (ng f ⟨pos,kw⟩) s (λr Y=>match r with|bX (cG v)=>Q v Y |_=>False)):
 C A (Er f pos kw) s Q:=C.runValue hc
def Pa(A:b9)(aN:sO->af->Prop)(za:Fin)(Y:af):Prop:=match za with
 |nu f=>aN (bX f) Y
 |yB c'=>c'.quiet=N/\CC A c' Y aN
theorem ji{c:iV}(jy:oi c=N)(h:C (A.under c) ((aE prog w).den c) s (Pa A aN)):CC A c s aN:=λΓ p hc wa D=>by
 rw[wpCode_iff_wp,hc];show tH (aE prog w) Γ _ (λza p' Y h'=>?_) (λ_ _ _ h'=>h'.elim) p s (@h Γ p (hc▸wa.in) ⟨hc▸jy,D⟩);cases za with
 |done f=>show h'
 |again c'=>show⟨h'.1,@h'.2 (Γ.goto c') p' Z (wa.goto c') D⟩
theorem C.stack{Q:List (iV×cB)->af->Prop}(h:∀st:List (iV×cB),(∀x∈st,oi x.1=N)->Q st s):C A PySem.stack s Q:=λΓ p wa jy=>by
 show h _ λx E=>?_;rcases bq.mp E with rfl|E
 .show jy.1
 .show jy.2 x E
theorem C.exported{Q:Bool->af->Prop}(h:Q ab s):C A (LW v) s Q:=by
 show C.bind (C.stack λst dH=>C.pure ?_);have hq:∀f:iV×cB->Bool,(∀x∈st,f x=ab)->Q (st.any f) s:=λf hf=>by rw[List.any_eq_false.mpr λx E=>by rw[hf x E];decide];show h
 show hq _ λx E=>?_;have hc:=dH x E;obtain⟨c,p⟩:=x;cases c with
 |builtin id args=>
  have h1:∀d∈BU,¬id=d:=λd hd e=>by subst e;have:BU.contains id=N:=EI.mpr hd;have this:=(mr ((λ{x y}=>Bool.not_inj_iff.mp) (_root_.id (mr hc))):BU.contains id=ab).symm.trans this;ext
  have h6:LU.contains id=ab:=by
   cases q:LU.contains id with
   |false=>rfl
   |true=>show absurd Z (h1 id (ew _ (EI.mp q)))
  delta LW.match_1
  show(dif_neg (h1 _ aL)).trans ((dif_neg (h1 _ aL)).trans ((dif_neg (h1 _ aL)).trans ((dif_neg (h1 _ aL)).trans ((dif_neg (h1 _ aL)).trans ?_))));obtain⟨pos,kw⟩:=args;cases pos with
  |nil=>rfl
  |cons a l=>show(congrArg _ h6).trans (UR _)
 |_=>rfl
theorem jA:lJ "bytearray" "__getitem__" "bytearray.__getitem__" :=
 ny (owner:= "bytearray") (n:= "__getitem__") (rfl) (rfl) (rfl) (rfl)
  (by first|show ak (rfl)|show .inr (rfl)) (rfl)
theorem nE:lJ "bytearray" "__setitem__" "bytearray.__setitem__" :=
 ny (owner:= "bytearray") (n:= "__setitem__") (rfl) (rfl) (rfl) (rfl)
  (by first|show ak (rfl)|show .inr (rfl)) (rfl)
theorem wU:lJ "bytearray" "__len__" "bytearray.__len__" :=
 ny (owner:= "bytearray") (n:= "__len__") (rfl) (rfl) (rfl) (rfl)
  (by first|show ak (rfl)|show .inr (rfl)) (rfl)
theorem BW:lJ "bytearray" "__iter__" "bytearray.__iter__" :=
 ny (owner:= "bytearray") (n:= "__iter__") (rfl) (rfl) (rfl) (rfl)
  (by first|show ak (rfl)|show .inr (rfl)) (rfl)
theorem MV:lJ "bytearray" "__init__" "bytearray.__init__" :=
 ny (owner:= "bytearray") (n:= "__init__") (rfl) (rfl) (rfl) (rfl)
  (by first|show ak (rfl)|show .inr (rfl)) (rfl)
theorem pF:lJ "bytearray" "extend" "bytearray.extend" :=
 ny (owner:= "bytearray") (n:= "extend") (rfl) (rfl) (rfl) (rfl)
  (by first|show ak (rfl)|show aw (rfl)) (rfl)
theorem uF:gO table "bytearray.__getitem__" =O Builtin.«bytearray.__getitem__»:=mh (rfl)
theorem uG:gO table "bytearray.__setitem__" =O Builtin.«bytearray.__setitem__»:=mh (rfl)
theorem MW:gO table "bytearray.__len__" =O Builtin.«bytearray.__len__»:=mh (rfl)
theorem zu:gO table "bytearray.__init__" =O Builtin.«bytearray.__init__»:=mh (rfl)
theorem wb:gO table "bytearray.extend" =O Builtin.«bytearray.extend»:=mh (rfl)
theorem MX:gO table "bytearray.__new__" =O Builtin.«list.__new__»:=J8 (id':= "list.__new__") ((xF _).trans bF) aL bF ((xF _).trans bF)
theorem we(a b:aa):jW "bytearray.__getitem__" ⟨[a,b],[]⟩:=by ext
theorem wg(a b c:aa):jW "bytearray.__setitem__" ⟨[a,b,c],[]⟩:=by ext
theorem Pb(a:aa):jW "bytearray.__len__" ⟨[a],[]⟩:=vi bF
theorem BX(a b:aa):jW "bytearray.__init__" ⟨[a,b],[]⟩:=vi bF
theorem wV(a b:aa):jW "bytearray.extend" ⟨[a,b],[]⟩:=vi bF
noncomputable def pQ(b:Array UInt8):bE:={cls:=ao "bytearray",dict:=ai,data:=qr b 0,slots:=#[]}
theorem fy(ho:s.heap.get? a=O (pQ b)):s.TypeIs (R a) "bytearray" :=cn _ ho Z
theorem Rv{k:Int}(h0: -(2 ^ 62)<=k)(h1:k<2 ^ 62):Vl k=N:=by
 delta Vl
 simp;lia
theorem kR{Q:Array UInt8->af->Prop}(ho:s.heap.get? a=O (pQ b))(h:Q b s):aA M A (yu (R a)) Q aX s:=
 ah (ah (jo ho (aB (aB h))))
theorem sub_int{prog:sN}{w:fh}{k:Int}{t:ba}{Q:Option Int->af->Prop}(h0: -(2 ^ 62)<=k)(h1:k<2 ^ 62)(h:Q (O k) s):aA (aE prog w) A (yt (ag k t)) Q aX s:=by
 delta yt
 show ah (eN (T:= "int") (xM _ _ _) Fu.lookup (ah (fM (a:=k) Z ?_)));rw[Rv h0 h1];show aB h
theorem Pc(a:ae)(b:Array UInt8)(k:Int)(t:ba)(j:Nat)(x:UInt8)(h0: -(2 ^ 62)<=k)(h1:k<2 ^ 62)(hj:rj k b.size=O j)(E:b[j]? =O x):
 rl (Builtin.«bytearray.__getitem__» ⟨[R a,ag k t],[]⟩) (λ_ aN s=>s.heap.get? a=O {cls:=ao "bytearray",dict:=ai,data:=qr b 0,slots:=#[]}/\aN (bX (cG (ag (x.toNat:Int) s.toks))) {s with toks:=s.toks+1}):=
 rQ λprog w A aN s h=>by show(?_:aA _ _ (yt (ag k t)>>=λr=>_) _ _ s);show ah (sub_int h0 h1 ?_);show(?_:aA _ _ (yu (R a)>>=λr=>_) _ _ s);show ah (kR h.1 ?_);rw[hj,Option.bind_some,E];show ah (Kj (aB (cn _ Z h.2)))
theorem ab9(b:Array UInt8){f:Array UInt8->Array UInt8}(h:(f b).size<=1000000):(jH f {cls:=ao "bytearray",data:=qr b}).data.pastItsLine=ai:=by
 delta jH Data.pastItsLine
 simp;lia
theorem mE{f:Array UInt8->Array UInt8}{Q:Unit->af->Prop}(ho:s.heap.get? a=O (pQ b))(dM:(f b).size<=1000000)(h:Q () {s with heap:=s.heap.update a (jH f)}):aA M A (yx (R a) f) Q aX s:=by show ah<|jo ho<|ah (wpAny_update ho (ah (wpAny_loadPart (gQ _ ho Z) ?_)));have:=ab9 b dM;show(show((jH f (pQ b)).data.pastItsLine)=ai from this).symm▸aB h
theorem Ph(a:ae)(b:Array UInt8)(k:Int)(t:ba)(v:Nat)(u:ba)(j:Nat)(h0: -(2 ^ 62)<=k)(h1:k<2 ^ 62)(hj:rj k b.size=O j)(hv:v<256)(D:b.size<=1000):rl (Builtin.«bytearray.__setitem__» ⟨[R a,ag k t,ag (aj v) u],[]⟩) (λ_ aN s=>s.heap.get? a=O {cls:=ao "bytearray",dict:=ai,data:=qr b 0,slots:=#[]}/\aN (bX (cG ax)) {s with heap:=s.heap.update a (jH λb=>b.setIfInBounds j v.toUInt8)}):=
 rQ λprog w A aN s h=>by
  show(?_:aA _ _ (yt (ag k t)>>=λr=>_) _ _ s);show ah (sub_int h0 h1 ?_);show(?_:aA _ _ (Vm (ag (aj v) u)>>=λr=>_) _ _ s);show ah ?_
  delta Vm
  show ah (fM (a:=aj v) Z ?_);rw[(by simp;show ED.mp hv:(decide (aj v<0) ||decide (aj v>=256))=ab)];show aB (ah (kR h.1 ?_));rw[hj];show ah (mE h.1 (by rw[Array.size_setIfInBounds];show a8 D bu) (aB (cn _ Z h.2)))
theorem aca(a:ae)(b:Array UInt8):
 rl (Builtin.«bytearray.__len__» ⟨[R a],[]⟩) (λ_ aN s=>s.heap.get? a=O {cls:=ao "bytearray",dict:=ai,data:=qr b 0,slots:=#[]}/\aN (bX (cG (ag (b.size:Int) s.toks))) {s with toks:=s.toks+1}):=
 rQ λprog w A aN s h=>by obtain⟨hp,g,d,tk,os⟩:=s;show eZ h λhl h=>?_;wp_walk;show cn _ Z h
theorem aen(k:Int)(t:ba):asIndex (ag k t)=pure k:=rfl
theorem MY(k m:Nat)(n:Nat):Kg (dD (k:Int)) (dD (m:Int)) ax n=pure ((min (k:Int) n),(min (m:Int) n),1):=by
 delta Kg dD
 have h1:¬((k:Int)<0):=by lia
 have h2:¬((m:Int)<0):=by lia
 simp[aen,h1,h2,(by lia:max 0 (min (k:Int) n)=min (k:Int) n),(by lia:max 0 (min (m:Int) n)=min (m:Int) n)]
theorem WO{prog:sN}{w:fh}{p:Option Int}(hp:AB v p)(h:Q (Ez p) s):aA (aE prog w) A (do
 if v==ax then return ax
 if(<-rk v "__index__").isNone then
  sR "bytes.slice.part-no-index";raiseError "TypeError" "slice indices must be integers or None or have an __index__ method"
 return dD (<-asIndex v):aI aa) Q aX s:=by
 cases hp with
 |none=>show fM (a:=ax) Z h
 |int i t=>show ah (eN (T:= "int") (xM _ _ _) Fu.lookup (ah (fM Z (aB h))))
theorem YC(a sl:ae)(b:Array UInt8){l u:aa}{lo hi:Option Int}(hl:AB l lo)(hu:AB u hi)(hsz:b.size<=1000):
 rl (Builtin.«bytearray.__getitem__» ⟨[R a,R sl],[]⟩) (λ_ aN s=>s.heap.get? a=O {cls:=ao "bytearray",dict:=ai,data:=qr b 0,slots:=#[]}/\s.heap.get? sl=O {cls:=ao "slice",data:=bH #[l,u,ax]}/\aN (bX (cG (R s.heap.objs.size))) {s with heap:=s.heap.push (pQ (PySem.W.KBy.picked b lo hi))}):=
 rQ λprog w A aN s h=>by
  show ie h λha hs h=>?_;have hT:s.TypeIs (R sl) "slice" :=⟨_,hs,rfl⟩;show(?_:aA _ _ (yt (R sl)>>=λr=>_) _ _ s);show ah ?_
  delta yt
  show ah (eN hT slice_no_index (aB (ah (oB hT ?_))));show(?_:aA _ _ (LV (R sl)>>=λr=>_) _ _ s);show ah ?_
  delta LV
  show ah<|f9 (x:=ax) hs Z Z<|ah<|fM (a:=ax) Z<|ah<|f9 (x:=l) hs Z Z<|ah<|WO hl<|ah<|f9 (x:=u) hs Z Z<|ah<|WO hu<|aB ?_;show(?_:aA _ _ (yu (R a)>>=λb=>Kg (Ez lo) (Ez hi) (Ez ai) b.size>>=λx=>Vj (abf b x.1 x.2.1 x.2.2)>>=ret) _ _ s);show ah (kR ha (ah (fM (sliceIndices_raw lo hi ai b.size nofun) (ah (ij (aB ⟨_,rfl,h⟩) (a8 (PySem.W.KBc.size_picked_le b lo hi) (a8 hsz bu)))))))
def CO(T:String)(zj:String)(qS:String)(args:List aa):Prop:=∀(ft:As T zj qS) (hct:xH T ⟨args,[]⟩=pure ()),Builtin.«type.__call__» ⟨ao T::args,[]⟩=(do
 let obj<-holding [bB zj] (call (bB zj) (ao T::args) [])
 if !(<-ri obj (ao T)) then sR "type.call.new-gave-other-type";return<-ret obj
 match<-holding [obj] (xI obj "__init__" args []) with
 |none=>ret obj
 |some r=>
  if r != ax then
   sR "type.call.init-returned-value"
   raiseError "TypeError" s!"__init__() should return None, not '{← typeNameOf r}'"
  ret obj)
def G6(c:(String×String)×(String×(List aa))):Prop:=CO c.1.1 c.1.2 c.2.1 c.2.2
def vP:=Iz G6 inferInstance
theorem Ζ:CO vP.1.1 vP.1.2 vP.2.1 vP.2.2:=λft hct=>by
 show jd ft.mro λc tl aj8=>?_
 delta Builtin.«type.__call__»
 simp only[ft.notType,ft.canCreate,hct,aj8,ft.made,if_false];rfl
theorem Pj{T:String}:CO T zj qS args:=hen (P:=G6) Ζ ((T,zj),(qS,args))
theorem Η:mroOf (ao "bytearray")=pure [ao "bytearray",ao "object"]:=by ext
theorem IG:gw (ao "bytearray") "__new__" =pure (O (bB "bytearray.__new__")):=by ext
theorem Jr:As "bytearray" "bytearray.__new__" "bytearray.__init__" :=
 ⟨rfl,rfl,(qE _ _ Η),madeBy_type Η IG bF,by ext,rfl,MV⟩
theorem Dz(a:aa):xH "bytearray" ⟨[a],[]⟩=pure ():=by ext
theorem Rw(a:aa):sH "bytearray.__new__" ⟨[ao "bytearray",a],[]⟩=pure ():=by ext
theorem MZ:EB "bytearray.__new__" =N:=by ext
theorem M0:("bytearray.__new__".splitOn ".__new__").headD "" = "bytearray" :=by rw[PySem.W.split_bytearray];rfl
theorem tY:oF (ao "bytearray") (ao "bytearray")=pure N:=by ext
theorem DA(a:aa)(h:Q₁ (R s.heap.objs.size) {s with heap:=s.heap.push (pQ #[])}):
 oH (aE prog w) A (ng (bB "bytearray.__new__") ⟨[ao "bytearray",a],[]⟩) (wants Q₁ aX) s:=by
 show xG (ah (fM (Rw a) (aB ⟨lI MZ _,codeAny_builtin_stack MX Z λp st=>?_⟩)));have vQ:=tY;obtain⟨hp,g,d,tk,os⟩:=s;simp only[M0];wp_walk;show h
theorem Pl{id:String}{args:sS}{b:uX}(D:gO table id=O b):(aE prog w).den (fG id args)=b args:=by change(match gO table id with|some b=>b args|none=>Eo ((withoutEnding? id "#data").getD id))=_;rw[D]
theorem jO{id:String}{args:sS}{b:uX}(D:gO table id=O b)(hc:oi (fG id args)=N)(h:C (A.under (fG id args)) (b args) s (Pa A aN)):CC A (fG id args) s aN:=ji hc<|(Pl D).symm▸h
theorem wW{id:String}{args:sS}{b:uX}(hq:EB id=N)(D:gO table id=O b)(hc:oi (fG id args)=N)(h:C A.in1 (sH id args) s (λ_ aD=>C A.in1 (b args) aD (Pa A aN))):CC A (ng (bB id) args) s aN:=by show ji Z (C.bind (h.mono λ_ aD U=>C.pure ⟨lI hq args,jO D hc ?_⟩));show(Around.under_plainId hq args).symm▸U
theorem vR{T:String}{id:String}{Q:Option aa->af->Prop}(hT:s.TypeIs self T)(h:lJ T name id)(hc:C A (call (bB id) (self::args) []) s (λv=>Q (O v))):C A (xI self name args []) s Q:=C.bind<|Lake.T.wR (eN hT h.lookup ⟨rfl,rfl⟩)<|C.holding<|C.bind<|C.eq (h.bind self)<|C.bind (hc.mono λv Y h'=>C.pure h')
theorem oj{T:String}{id:String}{b:uX}(hT:s.TypeIs self T)(h:lJ T name id)(ahr:gO table id=O b)(oy:jW id ⟨self::args,[]⟩)(jy:oi (fG id ⟨self::args,[]⟩)=N)(hw:C A.in1 (b ⟨self::args,[]⟩) s (Pa A (λr Y=>∃v,r=bX (cG v)/\Q v Y))):C A (call (bB id) (self::args) []) s Q:=by show C.call (CC.mono (wW h.plain ahr jy (aN:=λr Y=>∃v,r=bX (cG v)/\Q v Y) ?_) λr Y qQ=>bg qQ λv e hq=>by show e▸?_;show hq);show Lake.T.wR (h.check _ _ _ _ _ _ _ _ hT oy ⟨rfl,rfl⟩) (hw)
theorem ee{c:Prop}[Decidable c]{a b:aI α}{Q:α->af->Prop}(hc:¬c)(h:C A b s Q):C A (if c then a else b) s Q:=by rw[if_neg hc];show h
theorem BY{T:String}{Bi:uX}(ft:As T zj qS)(hct:xH T ⟨args,[]⟩=pure ())(Rx:gO table qS=O Bi)(hci:∀as,oi (fG qS as)=N)(nQ:C A.in1 (call (bB zj) (ao T::args)) s (λobj aD=>aD.TypeIs obj T/\jW qS ⟨obj::args,[]⟩/\
 C A.in1.in1 (Bi ⟨obj::args,[]⟩) aD (Pa A.in1 (λr aQ=>r=bX (cG ax)/\Q obj aQ)))):
 C A (call (ao T) args) s Q:=by
 show C.call<|ji Z<|C.pure ⟨AZ _ bF,jO PySem.F.entry_type_call Z ?_⟩;rw[Pj ft hct,Around.under_plain (weight_type_call_type T args []) Z];show lH<|nQ.mono λobj aD ou=>ie ou λhT oy hw=>C.bind<|Lake.T.wR (mS hT ft.sub ⟨rfl,rfl⟩)<|ee aL (lH (vR hT ft.init (oj hT ft.init Rx oy (hci _) (hw.mono λza Y h'=>?_))));cases za with
 |done f=>have h':=h';show cn ax h'.1 (ee aL (C.pure h'.2))
 |again c'=>show⟨h'.1,h'.2.mono λr aQ h2=>(cn ax h2.1 (ee aL (C.pure h2.2)))⟩
theorem DB{T:String}{Bi:uX}(ft:As T zj qS)(hct:xH T ⟨args,[]⟩=pure ())(Rx:gO table qS=O Bi)(hci:∀as,oi (fG qS as)=N)(nQ:oH (aE prog w) A.in1 (ng (bB zj) ⟨ao T::args,[]⟩) (wants Q₁ NoE) s)(ahs:∀obj aD,Q₁ obj aD->aD.TypeIs obj T/\jW qS ⟨obj::args,[]⟩/\
 C A.in1.in1 (Bi ⟨obj::args,[]⟩) aD (Pa A.in1 (λr aQ=>r=bX (cG ax)/\Q obj aQ))):
 C A (call (ao T) args) s Q:=
 BY ft hct Rx hci (Lake.T.wo (kT nQ) ahs)
theorem Ry:gw (ao "bytearray") (aC "__release_buffer__")=pure (O (bB "bytearray.__release_buffer__")):=by ext
theorem CP:gw (ao "bytearray") (aC "__buffer__")=pure (O (bB "bytearray.__buffer__")):=by ext
theorem Rz:gw (ao "bytearray") (aC "__index__")=pure ai:=by ext
theorem RA{c:ae}{Q:Bool->af->Prop}(hT:s.TypeIs (R c) "bytearray")(h:Q N s):aA M A (Ba (R c) "__buffer__") Q aX s:=by show ah<|eN hT CP<|(?_:aA _ _ (if(!"bytearray.__buffer__".endsWith ("." ++ "__buffer__"))=N then pure ab else ri _ _) _ _ _);rw[if_neg (by decide+kernel),show "bytearray.__buffer__".dropRight ("__buffer__".length+1)= "bytearray" from by decide+kernel];show mS hT tY h
theorem DC{c:ae}{Q:Bool->af->Prop}(hT:s.TypeIs (R c) "bytearray")(h:Q ab s):aA M A (A9 (R c)) Q aX s:=by show ah<|ah<|eN hT Ry<|(?_:aA _ _ (if(!"bytearray.__release_buffer__".endsWith ("." ++ "__release_buffer__"))=N then pure ab else ri _ _) _ _ _);rw[if_neg (by decide+kernel),show "bytearray.__release_buffer__".dropRight ("__release_buffer__".length+1)= "bytearray" from by decide+kernel];show mS hT tY (aB h)
theorem RB{c:ae}{id:String}{aj9:Bool}{Q:Option (Array UInt8)->af->Prop}(hc:s.heap.get? c=O (pQ b))(h:Q (O b) s):aA M A (yw id (R c) aj9) Q aX s:=by
 have hT:=fy hc
 delta yw
 show ah (eN hT CP (?_:aA _ _ (Ba _ _>>=λr=>_) _ _ s));show ah (RA hT (?_:aA _ _ (rk (R c) "__buffer__" >>=λr=>_) _ _ s));show ah (eN hT CP (?_:aA _ _ (A9 _>>=λr=>_) _ _ s));show ah (DC hT (?_:aA _ _ (yu (R c)>>=λr=>_) _ _ s));show ah (kR hc (aB h))
theorem zv{Q:Bool->af->Prop}(ho:s.heap.get? a=O (pQ b))(h:Q ab s):C A (A9 (R a)) s Q:=T.wR (DC (fy ho) ⟨rfl,rfl⟩) h
theorem BZ(v:aa):abb "bytearray.__init__" "bytearray" ["source", "encoding", "errors"] [v] []=pure [O v,ai,ai]:=by ext
theorem zX{Q:Bool->af->Prop}(ho:s.heap.get? a=O (pQ b))(h:Q ab s):
 C A (LW (R a)<||> (do return (<-abe (R a))>0)) s Q:=by
 show C.bind<|C.exported<|C.bind (T.wR (v₀:=0) ?_ (C.pure h));show ah (jo ho (aB ⟨rfl,rfl⟩))
noncomputable def wh(ns:LN):Array UInt8:=(ns.map λn=>n.toUInt8).toArray
theorem YD:∀{vs:List aa} {ns:LN},fm vs (ns.map aj)->(∀n∈ns,n<256)->
 (∀p:aa->Bool,(∀i t,p (ag i t)=(decide (0<=i) && decide (i<256)))->vs.takeWhile p=vs)/\(∀f:aa->Option UInt8,(∀i t,f (ag i t)=O i.toNat.toUInt8)->vs.filterMap f=ns.map λn=>n.toUInt8):=by
 intro vs ns;induction ns generalizing vs with
 |nil=>intro h _;cases h;show⟨λ_ _=>rfl,λ_ _=>rfl⟩
 |cons n ns ih=>
  intro h D;cases h with
  |cons _ t r=>
   show eZ (ih r (λm hm=>D m au)) λh1 h2=>have hn:=D n au;⟨λp hp=>?_,λf hf=>?_⟩
   .rw [Uk,hp,h1 p hp];show if_pos jM
   .rw [List.filterMap_cons,hf,h2 f hf];rfl
theorem G7:∀ty,ty= "list" \/ty= "tuple" ->gw (ao ty) (aC "__index__")=pure ai/\gw (ao ty) (aC "__buffer__")=pure ai:=by rintro ty (rfl|rfl)<;>constructor<;>(ext)
theorem G8{l:ae}{Q:kU->af->Prop}(ho:s.heap.get? a=O (pQ #[]))(hl:s.heap.get? l=O {cls:=ao ty,data:=bQ vs.toArray n})(hty:ty= "list" \/ty= "tuple")(hi:fm vs (ns.map aj))(D:∀n∈ns,n<256)(dM:ns.length<=1000)(hq:Q (nu (cG ax)) {s with heap:=(s.heap.update a (jH λ_=>#[])).update a (jH λ_=>wh ns)}):C A (Builtin.«bytearray.__init__» ⟨[R a,R l],[]⟩) s Q:=by show eZ (G7 ty hty) λli lb=>eZ (YD hi D) λg1 g2=>C.bind<|zv ho<|ee aL<|C.bind<|C.eq (BZ _)<|C.bind<|C.eq Z<|C.bind<|C.eq Z<|C.bind<|zX ho<|ee aL (Lake.T.wc (P:=Q) (ah (mE ho bu ?_)));have J':(s.heap.update a (jH λ_=>#[])).get? l=O {cls:=ao ty,data:=bQ vs.toArray n}:=(KC _ _ _ _ λe=>by rw[e,ho]at hl;simp[pQ]at hl).trans hl;have hT:({s with heap:=s.heap.update a (jH λ_=>#[])}:af).TypeIs (R l) ty:=⟨_,J',rfl⟩;show ah (ah (jo J' (aB (?_:aA _ _ (rk (R l) "__index__" >>=λr=>_) _ _ _))));show ah (eN hT li (?_:aA _ _ (yw _ _ _>>=λr=>_) _ _ _));show ah (ah (eN hT lb (ah (eN hT lb (aB (?_:aA _ _ (xT (R l)>>=λr=>_) _ _ _))))));show ah (oB hT ?_);rw[if_pos (by rcases hty with rfl|rfl<;>rfl)];show ah (jD J' Z ?_);dsimp only;rw[g1 _ (λ_ _=>rfl),(by simp:vs.toArray[vs.length]? =ai),g2 _ (λ_ _=>rfl)];show ah (mU (ah (mE (gQ _ ho Z) (by simp;show a8 dM bu) (aB hq))))
theorem IH{c:ae}{Q:kU->af->Prop}(hac:a≠c)(ho:s.heap.get? a=O (pQ #[]))(hl:s.heap.get? c=O (pQ b))(dM:b.size<=1000)(hq:Q (nu (cG ax)) {s with heap:=(s.heap.update a (jH λ_=>#[])).update a (jH λ_=>b)}):C A (Builtin.«bytearray.__init__» ⟨[R a,R c],[]⟩) s Q:=by show C.bind<|zv ho<|ee aL<|C.bind<|C.eq (BZ _)<|C.bind<|C.eq Z<|C.bind<|C.eq Z<|C.bind<|zX ho<|ee aL (Lake.T.wc (P:=Q) (ah (mE ho bu ?_)));have hc2:(s.heap.update a (jH λ_=>#[])).get? c=O (pQ b):=(KC _ _ _ _ hac.symm).trans hl;show ah (ah (jo hc2 (aB (?_:aA _ _ (rk (R c) "__index__" >>=λr=>_) _ _ _))));show ah (eN (fy hc2) Rz (?_:aA _ _ (yw _ _ _>>=λr=>_) _ _ _));show ah (RB hc2 (?_:aA _ _ (sR _>>=λ_=>yx (R a) (λ_=>b)>>=λ_=>ret ax) _ _ _));show ah (mU (ah (mE (gQ _ ho Z) (a8 dM bu) (aB hq))))
theorem B0(h:aO)(o:bE)(f:bE->bE):(h.push o).update h.objs.size f=h.push (f o):=by
 obtain⟨objs,l⟩:=h;show(?_:KG ((objs.push o).modify objs.size f) l=KG (objs.push (f o)) l);congr 1;apply Vb;intro i;rw[Array.getElem?_modify,LR,LR];by_cases e:i=objs.size
 .subst e;simp
 .simp [e,eQ e]
theorem G9(as:sS):oi (fG "bytearray.__init__" as)=N:=rfl
theorem uH(ty:String)(n:Nat){l:ae}(hl:s.heap.get? l=O {cls:=ao ty,data:=bQ vs.toArray n})(hty:ty= "list" \/ty= "tuple")(hi:fm vs (ns.map aj))(D:∀n∈ns,n<256)(dM:ns.length<=1000)(hq:Q (R s.heap.objs.size) {s with heap:=s.heap.push (pQ (wh ns))}):C A (call (ao "bytearray") [R l]) s Q:=by show DB (Q₁:=λv aD=>v=R s.heap.objs.size/\aD={s with heap:=s.heap.push (pQ #[])}) Jr (Dz _) zu G9 (DA _ ⟨rfl,rfl⟩) λobj aD qQ=>eZ qQ λe1 e2=>e1▸e2▸have ho:(s.heap.push (pQ #[])).get? s.heap.objs.size=O (pQ #[]):=bJ _ Z;gT (fy ho) (BX _ _) (G8 ho (a0 _ hl) hty hi D dM ⟨rfl,?_⟩);rw[B0,B0];show hq
theorem Θ{c:ae}(hl:s.heap.get? c=O (pQ b))(dM:b.size<=1000)(hq:Q (R s.heap.objs.size) {s with heap:=s.heap.push (pQ b)}):C A (call (ao "bytearray") [R c]) s Q:=by show DB (Q₁:=λv aD=>v=R s.heap.objs.size/\aD={s with heap:=s.heap.push (pQ #[])}) Jr (Dz _) zu G9 (DA _ ⟨rfl,rfl⟩) λobj aD qQ=>eZ qQ λe1 e2=>?_;subst e1 e2;have ho:(s.heap.push (pQ #[])).get? s.heap.objs.size=O (pQ #[]):=bJ _ Z;show gT (fy ho) (BX _ _) (IH (λe=>by have:=cj hl;rw[<-e]at this;show gy _ this) ho (a0 _ hl) dM ⟨rfl,?_⟩);rw[B0,B0];show hq
structure Tn(X:List ae)(s Y:af):Prop where
 keep:∀b o,b∉X->s.heap.get? b=O o->Y.heap.get? b=O o
 there:∀b o,s.heap.get? b=O o->∃o',Y.heap.get? b=O o'
 os:Y.os=s.os
 drawn:Y.drawn=s.drawn
 gens:Y.gens=s.gens
theorem Tn.trans{gn:List ae}{a b c:af}(x:Tn X a b)(y:Tn gn b c)(h:∀d∈gn,d∈X\/a.heap.get? d=ai):Tn X a c where
 keep:=λd o hd e=>y.keep d o (λq=>by
  rcases h d q with q|q
  .show hd q
  .have e:=q.symm.trans e;ext) (x.keep d o hd e)
 there:=λd o e=>dG (x.there d o e) λo' e'=>y.there d o' e'
 os:=y.os.trans x.os
 drawn:=y.drawn.trans x.drawn
 gens:=y.gens.trans x.gens
theorem Tn.push(X:List ae)(s:af)(o:bE):Tn X s {s with heap:=s.heap.push o}:=⟨λ_ _ _ e=>a0 o e,λ_ o' e=>⟨o',a0 o e⟩,rfl,rfl,rfl⟩
theorem Tn.toks(X:List ae)(s:af)(t:Nat):Tn X s {s with toks:=t}:=⟨λ_ _ _ e=>e,λ_ o e=>⟨o,e⟩,rfl,rfl,rfl⟩
theorem Tn.same(hs:gx a s.heap h')(ha:a∈X)(hm:∃o,h'.get? a=O o):Tn X s {s with heap:=h'} where
 keep:=λb o D e=>(hs.2 b (λq=>by subst q;show D ha)).trans e
 there:=λb o e=>if q:b=a then q▸hm else⟨o,(hs.2 b q).trans e⟩
 os:=rfl
 drawn:=rfl
 gens:=rfl
theorem Tn.upd{f:Array UInt8->Array UInt8}(ho:s.heap.get? a=O (pQ b))(ha:a∈X):Tn X s {s with heap:=s.heap.update a (jH f)}/\(s.heap.update a (jH f)).get? a=O (pQ (f b)):=by have e:(s.heap.update a (jH f)).get? a=O (pQ (f b)):=gQ _ ho Z;show⟨.same (j5 ..) ha ⟨_,e⟩,e⟩
theorem Tn.smod(x:Tn X s Y)(hX:∀b∈X,b∉bV):mC X s Y:=
 ⟨⟨λb o D _ e=>x.keep b o D e,λb D ps e=>⟨#[],x.keep b _ (λq=>hX b q D) e⟩,x.there⟩,x.os,x.drawn,x.gens⟩
theorem YE{Q:Unit->af->Prop}(ho:s.heap.get? a=O (pQ b))(h:Q () s):C A (Vk (R a)) s Q:=C.bind<|zX ho<|ee aL (C.pure h)
theorem wX:gO table "bytearray.extend.loop" =O Builtin.«bytearray.extend.loop»:=mh (rfl)
theorem II:gO table "bytearray.extend.end" =O Builtin.«bytearray.extend.end»:=mh (rfl)
theorem wY:EB "bytearray.extend.loop" =N:=by ext
theorem IJ:EB "bytearray.extend.end" =N:=by ext
theorem RC{m:Array UInt8}(ho:s.heap.get? a=O (pQ b))(hd:s.heap.get? d=O (pQ m))(dM:b.size+m.size<=1000)(h:aN (bX (cG ax)) {s with heap:=s.heap.update a (jH λx=>x++m)}):CC A (fG "bytearray.extend.end" ⟨[R a,it,R d],[]⟩) s aN:=by
 show jO II Z (C.bind (C.point (C.bind (T.wR (kR hd ⟨rfl,rfl⟩) ?_))));have wr:∀A',C A' (do yx (R a) (· ++m);ret ax) s (Pa A aN):=λA'=>
  lB (mE ho jM (C.pure h))
 show(?_:C _ (if(!m.isEmpty)=N then(Vk (R a)>>=λ_=>(do yx (R a) (· ++m);ret ax)) else(do yx (R a) (· ++m);ret ax)) s _);cases E:(!m.isEmpty) with
 |true=>show C.bind (YE ho (wr _))
 |false=>show wr _
theorem Pm{l:ae}(hh:dh A)(hi:fm items.toList (ns.map aj))(D:∀n∈ns,n<256)(dM:b.size+ns.length<=1000)(hda:d≠a)(hdI:d≠I)(Yy:d≠l)(haI:a≠I)(hlI:l≠I)(hI0:aK.heap.get? I=ai)(hd0:aK.heap.get? d=ai)(hR:∀Y,Tn [a] aK Y->Y.heap.get? a=O (pQ (b++wh ns))->aN (bX (cG ax)) Y):
 ∀(k i:Nat) (s:af),i+k=ns.length->Tn [a] aK s->s.heap.get? a=O (pQ b)->s.heap.get? d=O (pQ (wh (ns.take i)))->s.heap.IsListIter I l i->s.heap.IsList l items->
  CC A (fG "bytearray.extend.loop" ⟨[R a,R l,R I,R d],[]⟩) s aN:=by
 have hl:=hi.length;intro k;induction k with
 |zero=>
  intro i s hik t0 ha hd hI hL;obtain rfl:i=ns.length:=hik;show jO wX Z (C.bind (T.wc (JY hh hI hL (by simp at hl ⊢;show lN hl) λh' E=>?_)));have ka:=E a _ haI ha;have kd:h'.get? d=O (pQ (wh ns)):=by have:=E d _ hdI hd;rwa [sV]at this
  show C.pure ⟨lI IJ _,RC ka kd (by simp[wh];lia) ?_⟩;have t1:Tn [a] aK {s with heap:=h'}:=⟨λc o hc e=>E c o (λq=>by subst q;have e:=hI0.symm.trans e;ext) (t0.keep c o hc e),λc o e=>dG (t0.there c o e) λo' e'=>⟨o',E c o' (λq=>by subst q;have e:=hI0.symm.trans e;ext) e'⟩,t0.os,t0.drawn,t0.gens⟩;show eZ (Tn.upd ka au) λt2 e2=>(hR _ (t1.trans t2 λ_ h=>ak h) e2)
 |succ k ih=>
  show λi s hik t0 ha hd hI hL=>jO wX Z ?_;have aht:i<items.toList.length:=by simp at hl ⊢;lia
  show eZ (n6 hi) λk1 k2=>(eS (k2 i items.toList[i] (dF aht)) λn t hn hv=>?_);replace hn:=cZ▸hn;show bg (iY.mp hn) λm hm dX=>?_;subst dX;show lB (JV hI hL (by rw[<-U8,dF aht,hv]) λh' hI' zO=>?_);have kd:=(zO.2 d hdI).trans hd;show C.bind (BV (C.holding (T.wR (v₀:=m.toUInt8) (aK:={s with heap:=h'}) ?_ ?_)))
  .show ah (fM (aen _ _) ?_);rw[if_neg (by have:aj m=(m:Int):=rfl;simp;show ED.mp (D m (cY hm)))];show aB ⟨rfl,rfl⟩
  show lB<|uY<|lB<|mE kd (by simp[wh];lia)<|eZ (Tn.upd (X:=[d]) (s:={s with heap:=h'}) (f:=λx=>x.push m.toUInt8) kd au) λt2 e2=>have t1:Tn [I] s {s with heap:=h'}:=.same zO au (bg hI' λo e _=>⟨o,e⟩);C.pure ⟨lI wY _,ih (i+1) _ (by simp_all+arith) ((t0.trans t1 λc hc=>aw (by show(bI.mp hc)▸?_;show hI0)).trans t2 λc hc=>aw (by show(bI.mp hc)▸?_;show hd0)) (t2.keep a _ (by simp;show hda.symm) ((zO.2 a haI).trans ha)) ?_ (hI'.at λo e=>t2.keep I o (by simp;show hdI.symm) e) ((hL.extBut zO.extBut hlI).at λo e=>t2.keep l o (by simp;show Yy.symm) e)⟩;rw[e2,EM,hm];simp[wh]
theorem Ι:gw (ao "list") (aC "__len__")=pure (O (bB "list.__len__")):=by ext
theorem YF{l:ae}(hT:s.TypeIs (R l) "list"):Lake.T A (abd "bytearray.extend" (R l)) s (λv Y=>Y=s/\v=()):=ah<|eN hT Ι<|ah<|mS hT sub_list_self<|aB ⟨rfl,rfl⟩
theorem YG(h:Q (R s.heap.objs.size) {s with heap:=s.heap.push (pQ #[])}):aA M A (Vj #[]) Q aX s:=by obtain⟨hp,g,d,tk,os⟩:=s;wp_walk;show h
theorem Js(as:sS):oi (fG "bytearray.extend" as)=N:=rfl
theorem wZ{l:ae}(hh:dh A)(ha:s.heap.get? a=O (pQ b))(hl:s.heap.get? l=O (bp vs n))(hi:fm vs (ns.map aj))(D:∀n∈ns,n<256)(dM:b.size+ns.length<=1000)(hq:∀Y,Tn [a] s Y->Y.heap.get? a=O (pQ (b++wh ns))->Q ax Y):C A (call (bB "bytearray.extend") [R a,R l] []) s Q:=by
 show oj (fy ha) pF wb (wV _ _) (Js _)<|C.bind<|C.eq Z<|C.bind<|T.wR (eN ((cn _ hl Z)) F.bm_no_buffer ⟨rfl,rfl⟩)<|ee aL (C.bind (BV (T.wc (uR (bT hl) ?_))))
 let s1:af:={s with heap:=s.heap.push {cls:=ao "list_iterator",data:=bH #[R l,ag 0 0]}};have hl1:s1.heap.get? l=O (bp vs n):=a0 _ hl;have hI1:s1.heap.get? s.heap.objs.size=O {cls:=ao "list_iterator",data:=bH #[R l,ag 0 0]}:=bJ _ Z;have hsz:s1.heap.objs.size=s.heap.objs.size+1:=dE ..;have ID:=cj hl;have haa:=cj ha;show lH<|T.wR (aK:=s1) (YF ((cn _ hl1 Z)))<|C.bind<|T.wR (YG ⟨rfl,rfl⟩)<|C.pure ⟨lI wY _,Pm hh (hi) D dM (by rw[hsz];show λe=>j0.mpr (lP s.heap.objs.size) (by have h2:=haa;rw[<-e]at h2;show h2)) (by rw[hsz];show yj _) (by rw[hsz];show λe=>j0.mpr (lP s.heap.objs.size) (by have h2:=ID;rw[<-e]at h2;show h2)) ?_ ?_ (bD _) ?_ (λs3 t3 e3=>⟨_,rfl,hq s3 t3 e3⟩) ns.length 0 _ (qq ns.length)
  ((Tn.push [a] s _).trans (Tn.push [a] s1 _) (λ_ h=>ak h)) (a0 _ (a0 _ ha)) ?_ (kF _ (a0 _ hI1) Z Z) (bT (a0 _ hl1))⟩
 .show λe=>by rw[<-e]at haa;show gy _ haa
 .show λe=>by rw[<-e]at ID;show gy _ ID
 .cases q:s.heap.get? s1.heap.objs.size with
  |none=>rfl
  |some o=>have:=cj q;rw[hsz]at this;show((Nat.not_succ_lt_self) this).elim
 .show bJ _ Z
theorem IK:gw (ao "bytes") (aC "__release_buffer__")=pure ai:=by ext
theorem Ha:oF (ao "bytes") (ao "bytes")=pure N:=by ext
theorem Jt{Q:Bool->af->Prop}(hT:s.TypeIs v "bytes")(h:Q N s):aA M A (Ba v "__buffer__") Q aX s:=by show ah<|eN hT yA<|(?_:aA _ _ (if(!"bytes.__buffer__".endsWith ("." ++ "__buffer__"))=N then pure ab else ri _ _) _ _ _);rw[if_neg (by decide+kernel),show "bytes.__buffer__".dropRight ("__buffer__".length+1)= "bytes" from by decide+kernel];show mS hT Ha h
theorem IL{t:ba}(ha:s.heap.get? a=O (pQ b))(dM:b.size<=1000)(hq:∀Y,Tn [a] s Y->Y.heap.get? a=O (pQ b)->Q ax Y):C A (call (bB "bytearray.extend") [R a,oz #[] t] []) s Q:=by
 have hT:s.TypeIs (oz #[] t) "bytes" :=rfl;show oj (fy ha) pF wb (wV _ _) (Js _) (T.wc ?_);show(?_:aA _ _ (rk (oz #[] t) "__buffer__" >>=λr=>_) _ _ s);show ah (eN hT yA ?_);show(?_:aA _ _ (sR _>>=λ_=>yu (R a)>>=λr=>_) _ _ s);show ah (mU (ah (kR ha ?_)));show(?_:aA _ _ (Vi _ _ _>>=λr=>_) _ _ s);show ah ?_
 delta Vi abc
 show ah (sI (ah (eN hT yA ?_)));show(?_:aA _ _ (Ba _ _>>=λr=>_) _ _ s);show ah (Jt hT ?_);show(?_:aA _ _ (rk (oz #[] t) "__buffer__" >>=λr=>_) _ _ s);show ah (eN hT yA ?_);show(?_:aA _ _ (yw _ _ _>>=λr=>_) _ _ s);show ah ?_
 delta yw
 show ah (eN hT yA ?_);show(?_:aA _ _ (Ba _ _>>=λr=>_) _ _ s);show ah (Jt hT ?_);show(?_:aA _ _ (rk (oz #[] t) "__buffer__" >>=λr=>_) _ _ s);show ah (eN hT yA ?_);show(?_:aA _ _ (A9 _>>=λr=>_) _ _ s);show ah ?_
 delta A9
 show ah (ah (eN hT IK (aB (aB ?_))));show(?_:aA _ _ (yu (oz #[] t)>>=λr=>_) _ _ s);show ah (fM (a:=#[]) Z (aB (aB (aB ?_))));show(?_:aA _ _ (yx (R a) (· ++#[])>>=λ_=>ret ax) _ _ s);show ah (mE ha (by rw[Array.append_empty];show a8 dM bu) (aB (eZ (Tn.upd (X:=[a]) (f:=λx=>x++#[]) ha (ez ..)) λt2 e2=>⟨_,rfl,hq _ t2 e2⟩)))
theorem lE:lJ "bytearray_iterator" "__next__" "bytearray_iterator.__next__" :=
 ny (owner:= "bytearray_iterator") (n:= "__next__") (rfl) (rfl) (rfl) (rfl)
  (by first|show ak (rfl)|show .inr (rfl)) (rfl)
theorem zw:lJ "bytearray_iterator" "__iter__" "bytearray_iterator.__iter__" :=
 ny (owner:= "bytearray_iterator") (n:= "__iter__") (rfl) (rfl) (rfl) (rfl)
  (by first|show ak (rfl)|show .inr (rfl)) (rfl)
theorem w0:gO table "bytearray_iterator.__next__" =O Builtin.«bytearray_iterator.__next__»:=mh (rfl)
theorem Hb:gO table "bytearray_iterator.__iter__" =O Builtin.«dict_keyiterator.__iter__»:=J8 (id':= "dict_keyiterator.__iter__") ((xF _).trans bF) aL bF ((xF _).trans bF)
theorem IM:gO table "bytearray.__iter__" =O Builtin.«bytearray.__iter__»:=mh (rfl)
theorem Na(a:aa):jW "bytearray.__iter__" ⟨[a],[]⟩:=vi bF
theorem zx(a:aa):jW "bytearray_iterator.__next__" ⟨[a],[]⟩:=by ext
theorem IP(a:aa):jW "bytearray_iterator.__iter__" ⟨[a],[]⟩:=by ext
def w3(h:aO)(I a:ae)(i:Nat):Prop:=h.get? I=O {cls:=ao "bytearray_iterator",data:=bH #[R a,ag (i:Int) 0]}
theorem IQ(ha:s.heap.get? a=O (pQ b))(hQ:Q (R s.heap.objs.size) {s with heap:=s.heap.push {cls:=ao "bytearray_iterator",data:=bH #[R a,ag 0 0]}}):
 aA (aE prog w) A (gr (R a)) Q aX s:=by
 show J3 (fy ha) BW (jS BW (fy ha) IM ?_ (Na _));obtain⟨hp,g,d,tk,os⟩:=s;wp_walk;show⟨_,rfl, "bytearray_iterator",_,(cn _ (bJ _ Z) Z),lE.lookup,hQ⟩
theorem Pn{x:UInt8}{Q:Option aa->af->Prop}(hI:w3 s.heap I a i)(ha:s.heap.get? a=O (pQ b))(E:b[i]? =O x)(hQ:∀h',w3 h' I a (i+1)->gx I s.heap h'->Q (O (ag (x.toNat:Int) s.toks)) {s with heap:=h',toks:=s.toks+1}):aA (aE prog w) A (gY (R I)) Q aX s:=by have hT:s.TypeIs (R I) "bytearray_iterator" :=cn _ hI Z;show ah (sI (kS hT lE (jS lE hT w0 ?_ (zx _))));unfold pQ at ha;obtain⟨hp,g,d,tk,os⟩:=s;have hI':hp.get? I=O {cls:=ao "bytearray_iterator",data:=bH #[R a,ag (↑i) 0]}:=hI;wp_walk;show((by simpa using E:b[((i:Nat):Int).toNat]? =O x)).symm▸ah (Aq hI' Z (EY [].length) ?_);wp_walk;show cn _ Z (aB (hQ _ ?_ (j5 ..)));change(hp.update I _).get? I=_;rw[gQ _ hI' Z];rfl
theorem Po{Q:Option aa->af->Prop}(hh:dh A)(hI:w3 s.heap I a b.size)(ha:s.heap.get? a=O (pQ b))(hQ:∀h',KD I s.heap h'->Q ai {s with heap:=h'}):aA (aE prog w) A (gY (R I)) Q aX s:=by have hT:s.TypeIs (R I) "bytearray_iterator" :=cn _ hI Z;show ah (sI (kS hT lE (jS lE hT w0 ?_ (zx _))));obtain⟨hp,g,d,tk,os⟩:=s;have hI':hp.get? I=O {cls:=ao "bytearray_iterator",data:=bH #[R a,ag (↑b.size) 0]}:=hI;wp_walk;show((by simp:b[((b.size:Nat):Int).toNat]? =ai)).symm▸ah (mU (ah (Aq hI' Z (Tt Z) (ah (uY ?_)))));show ah (ah (ij ?_ (by size_fits)));show ah<|fM (a:=ax) (by first|rfl|(rfl))<|ij ?_ (by size_fits);show ah<|Kc<|(hh).symm▸Kk ?_;show ah (mS (cn _ (bJ _ Z) Z) J9 ?_);show aB (hQ _ (((j5 ..).extBut.push _).push _))
theorem Pp(hI:w3 s.heap I a i)(h:Q (R I) s):aA (aE prog w) A (gr (R I)) Q aX s:=by have hT:s.TypeIs (R I) "bytearray_iterator" :=cn _ hI Z;show J3 hT zw (jS zw hT Hb ?_ (IP _));show aB ⟨_,rfl, "bytearray_iterator",_,hT,lE.lookup,h⟩
theorem Κ(hh:dh A)(I a:ae)(qI:a≠I)(b:Array UInt8):
 mW prog w A I [I,a] [I] b.size (λi v=>∃x t,b[i]? =O x/\v=ag (x.toNat:Int) t) (λi h=>w3 h I a i/\h.get? a=O (pQ b)) where
 sub:=λb D=>by have D:=bI.mp D;lia
 frame:=λi h h' st hk=>⟨hk I au _ st.1,hk a au _ st.2⟩
 item:=λi s Q aX hi st hQ=>Pn (x:=b[i]) st.1 st.2 fH λh' aka zO=>hQ _ h' _ (kH (b[i]) _ fH Z) ⟨aka,zO.extBut a _ qI st.2⟩ λc o hc e=>zO.extBut c o (λh=>hc au) e
 done:=λs Q aX st hQ=>Po hh st.1 st.2 λh' Ji=>hQ h' s.toks λc o hc e=>Ji c o (λh=>hc au) e
 self:=λ_ _ _ _ st hQ=>Pp st.1 hQ
theorem Pq:gw (ao "bytearray") (aC "__len__")=pure (O (bB "bytearray.__len__")):=wU.lookup
def CQ(A:b9)(aX:aa->af->Prop)(s:af)(a:ae)(b:Array UInt8)(Q:Bool->af->Prop):Prop:=∀(ha:s.heap.get? a=O (pQ b)) (h:Q ab s),aA (aE prog w) A (abh (R a)) Q aX s
def Hc(c:((b9×(aa->af->Prop))×af)×((ae×(Array UInt8))×(Bool->af->Prop))):Prop:=CQ c.1.1.1 c.1.1.2 c.1.2 c.2.1.1 c.2.1.2 c.2.2
def qa:=Iz Hc inferInstance
theorem Λ:CQ qa.1.1.1 qa.1.1.2 qa.1.2 qa.2.1.1 qa.2.1.2 qa.2.2:=λha h=>ah<|eN (fy ha) Pq<|ah<|mS (fy ha) tY<|ah<|oB (fy ha)<|aB h
theorem acb{Q:Bool->af->Prop}:CQ A aX s a b Q:=hen (P:=Hc) Λ (((A,aX),s),((a,b),Q))
def CR(A:b9)(aX:aa->af->Prop)(s:af)(a:ae)(b:Array UInt8)(Q:aa->af->Prop):Prop:=∀(hh:dh A) (ha:s.heap.get? a=O (pQ b)) (dM:b.size<=1000) (hQ:∀h' tk IT c',(uh s.heap h')->h'.get? s.heap.objs.size=O {cls:=ao "list",dict:=ai,data:=bQ IT c',slots:=#[]}->
 ItemsOf (λi v=>∃x t,b[i]? =O x/\v=ag (x.toNat:Int) t) IT b.size->Q (R s.heap.objs.size) {s with heap:=h',toks:=tk}),aA (aE prog w) A (call (ao "list") [R a]) Q aX s
def Hd(c:((b9×(aa->af->Prop))×af)×((ae×(Array UInt8))×(aa->af->Prop))):Prop:=CR c.1.1.1 c.1.1.2 c.1.2 c.2.1.1 c.2.1.2 c.2.2
def qb:=Iz Hd inferInstance
def Μ:=qb.1.1.1
def qV:=qb.1.2
def Nb:=qb.2.1.1
def Nc:=qb.2.1.2
theorem Ν:CR Μ qb.1.1.2 qV Nb Nc qb.2.2:=λhh ha dM hQ=>by
 show callType_codes (Q₁:=λobj aD=>obj=R qV.heap.objs.size/\aD={qV with heap:=qV.heap.push {cls:=ao "list",data:=bQ #[]}}) PySem.F.called_list (PySem.F.typeCall_list_1 _) PySem.F.entry_list_init
  (code_list_new _ ⟨rfl,rfl⟩) λobj aD U=>?_
 obtain⟨rfl,rfl⟩:=U;have hS:(qV.heap.push {cls:=ao "list",data:=bQ #[]}).get? qV.heap.objs.size=O {cls:=ao "list",data:=bQ #[]}:=bJ _ Z;show gT ⟨_,hS,rfl⟩ (PySem.F.args_list_init_2 _ _)<|have hSa:=eQ (fE (cj ha));ah<|ah<|jD hS Z<|aB<|ah<|uT hS Z<|have He:=gQ (dO (λ_=>(#[]:Array aa))) hS Z;ah (uY ?_);generalize hh1:(qV.heap.push {cls:=ao "list",data:=bQ #[]}).update qV.heap.objs.size (dO λ_=>#[])=h1 at *;have ka:h1.get? Nb=O (pQ Nc):=by rw[<-hh1,mn _ _ hSa];show a0 _ ha
 have akb:∀c o,qV.heap.get? c=O o->h1.get? c=O o:=λc o e=>by rw[<-hh1,mn _ _ (eQ (fE (cj e)))];show a0 _ e
 have ahu:h1.objs.size=qV.heap.objs.size+1:=by rw[<-hh1,Heap.size_after_update];show dE ..
 show ah (oB (cn _ ka Z) ?_);have e1:yy (R qV.heap.objs.size) (R Nb)=ab:=by simp[yy,hSa]
 simp only[e1,LC,UP,if_false];show ah<|IQ ka<|ah (cQ (acb (a0 _ ka) ?_));show aB ⟨lI Fq _,?_⟩;show Tw ((Κ (A:=Μ.in1.in1) hh h1.objs.size Nb (λe=>by rw[e]at ka;show gy _ (cj ka)) Nc).toS) au qV.heap.objs.size (λhm=>?_) ax Nc.size 0 _ #[] _ Z (fk _) ⟨bJ _ Z,a0 _ ka⟩ (a0 _ He) (Wf _) λY IT c' hm hS' ow=>?_
 .simp at hm;show bc hm (λe=>by rw[ahu]at e;show absurd e (fE (iX _))) λe=>hSa e
 .rw [Moved.eq_with hm];show⟨rfl,hQ Y.heap Y.toks IT c' (λc o e=>hm.heap c o (λhmem=>?_) (a0 _ (akb c o e))) hS' ow⟩;have hc:=cj e;rcases bq.mp hmem with e' |hmem
  .rw [e']at hc;show gy _ hc
  .rw [bI.mp hmem,ahu]at hc;show absurd hc (j0.mpr (lP _))
theorem Pr:CR A aX s a b Q:=hen (P:=Hd) Ν (((A,aX),s),((a,b),Q))
theorem IU:gw (ao "slice") (aC "__index__")=pure ai:=by ext
theorem YH:gw (ao "tuple") (aC "__int__")=pure ai:=by ext
theorem Pt:gw (ao "tuple") (aC "__float__")=pure ai:=by ext
theorem afe:oF (ao "tuple") (ao "bytearray")=pure ab:=by ext
theorem aff:oF (ao "tuple") (ao "complex")=pure ab:=by ext
theorem Ju{k m:Int}{t:ba}{Q:aa×aa×aa->af->Prop}(hs:s.heap.get? sl=O {cls:=ao "slice",data:=bH #[ag k t,ag m u,ax]})(h:Q (dD k,dD m,ax) s):aA M A (LV (R sl)) Q aX s:=by obtain⟨hp,g,d,tk,os⟩:=s;have hii:=TR;wp_walk;show h
theorem Ξ{l:ae}(hl:s.heap.get? l=O (cV vs n)):aA M A (asStr? (R l)) (λx Y=>Y=s/\x=ai) aX s:=by obtain⟨hp,g,d,tk,os⟩:=s;wp_walk;show⟨rfl,rfl⟩
def CS(A:b9)(s:af)(a:ae)(sl:ae)(l:ae)(b:Array UInt8)(k:Nat)(m:Nat)(t:ba)(u:ba)(vs:List aa)(ns:LN)(n:Nat)(Q:kU->af->Prop):Prop:=∀(ho:s.heap.get? a=O (pQ b)) (hs:s.heap.get? sl=O {cls:=ao "slice",data:=bH #[ag (k:Int) t,ag (m:Int) u,ax]}) (hl:s.heap.get? l=O (cV vs n)) (hi:fm vs (ns.map aj)) (D:∀n∈ns,n<256) (hm:m<=b.size) (Q2:k+ns.length=m) (dM:b.size<=1000) (hq:∀Y,Tn [a] s Y->Y.heap.get? a=O (pQ (b.extract 0 k++wh ns++b.extract m b.size))->Q (nu (cG ax)) Y),C A (Builtin.«bytearray.__setitem__» ⟨[R a,R sl,R l],[]⟩) s Q
def Hf(c:(((b9×af)×(ae×ae))×((ae×(Array UInt8))×Nat))×(((Nat×ba)×(ba×(List aa)))×(((LN)×Nat)×(kU->af->Prop)))):Prop:=CS c.1.1.1.1 c.1.1.1.2 c.1.1.2.1 c.1.1.2.2 c.1.2.1.1 c.1.2.1.2 c.1.2.2 c.2.1.1.1 c.2.1.1.2 c.2.1.2.1 c.2.1.2.2 c.2.2.1.1 c.2.2.1.2 c.2.2.2
def hU:=Iz Hf inferInstance
def zY:=hU.1.1.1.2
def Nd:=hU.1.1.2.1
def WQ:=hU.1.1.2.2
def RD:=hU.1.2.1.1
def Hg:=hU.1.2.1.2
def Hh:=hU.1.2.2
def CT:=hU.2.1.1.1
def WR:=hU.2.2.1.1
def Ο:=hU.2.2.1.2
theorem Ρ:CS hU.1.1.1.1 zY Nd WQ RD Hg Hh CT hU.2.1.1.2 hU.2.1.2.1 hU.2.1.2.2 WR Ο hU.2.2.2:=λho hs hl hi D hm Q2 dM hq=>by
 have hTs:zY.TypeIs (R WQ) "slice" :=cn _ hs Z;have hTt:zY.TypeIs (R RD) "tuple" :=cn _ hl Z;have DD:Nd≠RD:=λe=>by rw[e,hl]at ho;simp[pQ,cV]at ho
 show C.bind (T.wR (v₀:=ai) (aK:=zY) ?_ ?_)
 .show ah<|eN hTs IU<|aB ⟨rfl,rfl⟩
 show C.bind<|T.wc<|oB hTs<|ee aL<|C.bind<|T.wc<|Ju hs<|ee (Bool.not_eq_true _▸beq_false_of_ne DD)<|C.bind<|T.wc<|mS hTt afe<|C.bind (T.wR (v₀:=ab) (aK:=zY) ?_ ?_)
 .show ah<|ah<|eN hTt (G7 "tuple" (aw Z)).1<|aB<|ah<|ah<|eN hTt YH<|aB<|ah<|ah<|eN hTt Pt<|aB<|mS hTt aff ⟨rfl,rfl⟩
 show C.bind<|T.wR (Ξ hl)<|ee aL<|C.bind<|C.rule<|C.bind<|uH _ Ο hl (aw Z) hi D au<|lH (T.wc (Ju (a0 _ hs) ?_));show C.bind (T.wc (kR (bJ _ Z) ?_));show C.bind (T.wc (kR (a0 _ ho) ?_));show C.bind (C.eq (MY Hh CT Hg.size) ?_);have h1:min (Hh:Int) Hg.size=Hh:=by lia
 have h3:max (Hh:Int) CT=CT:=by lia
 simp only[h1,(by lia:min (CT:Int) Hg.size=CT),h3];show C.bind<|C.rule<|ee (by simp[wh];lia)<|have Τ:(zY.heap.push (pQ (wh WR))).get? Nd=O (pQ Hg):=a0 _ ho;C.bind<|T.wc<|mE Τ (by simp[wh];lia)<|C.pure<|eZ (Tn.upd Τ au) λt2 e2=>(hq _ ((Tn.push [Nd] zY _).trans t2 λ_ h=>ak h) (e2))
theorem Pu{l:ae}{m:Nat}{t:ba}{Q:kU->af->Prop}:CS A s a sl l b k m t u vs ns n Q:=hen (P:=Hf) Ρ ((((A,s),(a,sl)),((l,b),k)),(((m,t),(u,vs)),((ns,n),Q)))
abbrev Sg:=List (ae×bE)
noncomputable def Hi(o:bE):Bool:=match o.data with
 |oS _=>ab
 |bQ ..=> !(o.cls==ao "list")
 |_=>N
def zZ(U:aO)(S:Sg)(h:aO):Prop:=∀p∈S,h.get? p.1=O p.2/\p.1∉bV/\Hi p.2=N/\U.get? p.1=ai
structure sF(W:List ae)(s Y:af):Prop where
 mod:Mod W s.heap Y.heap
 os:Y.os=s.os
 drawn:Y.drawn=s.drawn
 gens:nY s.gens Y.gens
theorem sF.refl(W:List ae)(s:af):sF W s s:=⟨.refl _ _,rfl,rfl,.refl _⟩
protected theorem mC.p(m:mC W s Y):sF W s Y:=⟨m.mod,m.os,m.drawn,.of m.gens⟩
theorem sF.trans{a b c:af}(x:sF W a b)(y:sF W' b c)(hw:∀d,d∈W'->d∈W\/a.heap.get? d=ai):sF W a c:=
 ⟨x.mod.trans y.mod hw,y.os.trans x.os,y.drawn.trans x.drawn,y.gens.trans x.gens⟩
theorem sF.off(m:sF W s Y)(keep:∀b o,b∉wr->Y.heap.get? b=O o->h'.get? b=O o)(hw:∀b∈wr,s.heap.get? b=ai/\b∉bV):sF W s {Y with heap:=h',toks:=tk}:=
 have q:mC W {Y with heap:=s.heap} {Y with heap:=h',toks:=tk}:=mC.off ⟨m.mod,rfl,rfl,rfl⟩ keep hw
 ⟨q.mod,m.os,m.drawn,m.gens⟩
section
variable(H:List ae)(U:aO)
structure PS(L:du)(J:cJ)(aK:af)(bo bw:List ae)(G:iz)(S:Sg)(s:af):Prop where
 fr:∃W,FR H U U L J s.heap G W/\(∀b∈W,b∈bo\/aK.heap.get? b=ai)/\∀p∈S,p.1∉W
 sg:zZ U S s.heap
 mod:sF (bo++bw) aK s
 lC:∀p∈S,p.1∈bw\/aK.heap.get? p.1=ai
end
section
variable{H:List ae}{U:aO}{S S':Sg}{Q:cb->af->Prop}
theorem FR.rebase(r:FR H U D L J h G W):FR H U U L J h G W:=
 ⟨.refl _,r.base,r.scope,r.kind,r.glob,r.bi,r.loc,r.ns,r.cell,r.pV,λb hb'=>ie (r.je b hb') λa b' c=>(gT (r.b1.new a) b' c),r.ents⟩
theorem PS.ext(p:PS H U L J aK bo bw G S s):hJ H U s.heap:=gI p.fr λ_ r _ _=>r.base
theorem PS.er(p:PS H U L J aK bo bw G S s):ER H s.heap L J s.heap G:=by show bg p.fr λW r _=>have e:=r.er;⟨.refl _,e.kind,e.gl,e.Wm,e.glob,e.bi,e.loc,e.has⟩
theorem cx.ext(B:cx U mg mb)(x:hJ H U h):cx h mg mb where
 g:=B.mg x
 b:=B.mb x
 lim:=B.zo x
 top:=dG B.top λo e=>x.there _ o e
 bmod:=l0 B.bmod λbm o e1 e2 e3 e4 e5=>Z1 bm o e1 e2 e3 (x.keep bm o e3 e4) e5
theorem FnAt.ext(f:FnAt U a fd)(x:hJ H U h):FnAt h a fd where
 obj:=bg f.obj λo e d=>cn o (x.keep a o f.off e) d
 off:=f.off
 code:=gv f.code λc oc ws t e1 e2 e3 e4=>DT c oc ws t e1 e2 (x.keep c oc e2 e3) e4
theorem PS.base(p:PS H U L J aK bo bw G S s)(B:cx U mg mb):cx s.heap mg mb:=B.ext p.ext
theorem PS.get(p:PS H U L J aK bo bw G S s)(h:(a,o)∈S):s.heap.get? a=O o:=(p.sg _ h).1
theorem zZ.mod(cA:zZ U S h)(m:Mod W h h')(hw:∀p∈S,p.1∉W):zZ U S h':=λp hp=>iK (cA p hp) λa b c d=>rR (m.keep _ _ (hw p hp) b a) b c d
theorem zZ.ext(cA:zZ U S h)(x:hJ H h h'):zZ U S h':=λp hp=>iK (cA p hp) λa b c d=>rR (x.keep _ _ b a) b c d
theorem PS.step(p:PS H U L J aK bo bw G S s)(r:FR H U U L J s.heap G W)(hW:(∀b∈W,b∈bo\/aK.heap.get? b=ai)/\∀p∈S,p.1∉W)(m:mC W s Y)(r':FR τ' U U L J Y.heap G' W')(CD:∀d,d∈W'->d∈W\/s.heap.get? d=ai):PS τ' U L J aK bo bw G' S Y where
 fr:=⟨W',r',λb D=>by
  show bc (CD b D) (λq=>hW.1 b q) λq=>aw (p.mod.mod.new q),λx E q=>by
  rcases CD _ q with q|q
  .show hW.2 x E q
  .have q:=((p.sg x E).1).symm.trans q;ext⟩
 sg:=p.sg.mod m.mod hW.2
 mod:=p.mod.trans m.p λd hd=>bc (hW.1 d hd) (λq=>ak (dc _ q)) λq=>aw q
 lC:=p.lC
theorem PS.grow(p:PS H U L J aK bo bw G S s)(x:dA H s Y):PS H U L J aK bo bw G S Y:=
 bg p.fr λW r hW=>(p.step r hW (x.smod W) (r.grow x.ext) λd hd=>ak hd)
theorem PS.less(p:PS H U L J aK bo bw G S s)(g:km G' G):PS H U L J aK bo bw G' S s:=bg p.fr λW r hW=>⟨(cn W (r.less g) hW),p.sg,p.mod,p.lC⟩
theorem PS.share(p:PS H U L J aK bo bw G S s)(y:Nat):PS H U L J aK bo bw (Lake.share G y) S s:=bg p.fr λW r hW=>gI (r.share y) λW' r' hw _=>⟨(kF W' r' (λb D=>hW.1 b (hw b D)) (λx E q=>hW.2 x E (hw _ q))),p.sg,p.mod,p.lC⟩
theorem PS.sub(p:PS H U L J aK bo bw G S s)(h:∀x∈S',x∈S):PS H U L J aK bo bw G S' s:=⟨gI p.fr λW r a b=>(kF W r a (λx E=>b x (h x E))),λx E=>p.sg x (h x E),p.mod,λx E=>p.lC x (h x E)⟩
noncomputable def RE(o:bE):Bool:=match o.data with
 |qr ..=>N
 |tx=>N
 |_=>ab
theorem Υ(e:h.get? a=O o)(hi:RE o=N):kK h a:=by
 show cn o e ?_;unfold RE at hi;cases q:o.data with
 |bytearray b n=>show aw (aw (ak (qE b n Z)))
 |plain=>show aw (aw (aw Z))
 |_=>have hi:=q▸hi;show Iv (by assumption)
theorem PS.aeo(p:PS H U L J aK bo bw G S s)(ha:(a,o)∈S)(hi:s.heap.get? a=O o->kK s.heap a)(t:Tn [a] s Y)(ho:Y.heap.get? a=O o')(hs:Hi o'=N)(hS:∀x∈S',(x.1=a/\x.2=o')\/(x.1≠a/\x∈S)):PS H U L J aK bo bw G S' Y:=by
 show bg p.fr λW r hW=>iK (p.sg _ ha) λe1 e2 e3 e4=>have hnW:=hW.2 _ ha;⟨(kF W (r.off (λb o D e=>t.keep b o D e) (λb D=>by show(bI.mp D)▸?_;show⟨hi e1,e2,e4,hnW⟩)) hW.1 (λx E=>?_)),λx E=>?_,p.mod.trans (t.smod λb D=>by show bI.mp D▸?_;show e2).p λd hd=>?_,λx E=>?_⟩
 .rcases hS x E with⟨q1,q2⟩|⟨q1,q2⟩
  .show q1.symm▸hnW
  .show hW.2 x q2
 .rcases hS x E with⟨q1,q2⟩|⟨q1,q2⟩
  .show q1.symm▸q2.symm▸rR ho e2 hs e4
  .show iK (p.sg x q2) λc1 c2 c3 c4=>rR (t.keep _ _ (by simpa using q1) c1) c2 c3 c4
 .apply jQ hd;show bc (p.lC _ ha) (λq=>ak (ew _ q)) λq=>aw q
 .rcases hS x E with⟨q1,q2⟩|⟨q1,q2⟩
  .show q1.symm▸p.lC _ ha
  .show p.lC x q2
protected theorem PS.turn(p:PS H U L J aK bo bw G S s)(ha:(a,o)∈S)(hi:RE o=N)(t:Tn [a] s Y)(ho:Y.heap.get? a=O o')(hs:Hi o'=N)(hS:∀x∈S',(x.1=a/\x.2=o')\/(x.1≠a/\x∈S)):PS H U L J aK bo bw G S' Y:=p.aeo ha (Υ · hi) t ho hs hS
theorem PS.here(p:PS H U L J aK bo bw G S s):∃W,(∀b∈W,b∈bo\/aK.heap.get? b=ai)/\PS H U L J s W (S.map (·.1)) G S s:=
 bg p.fr λW r hW=>⟨W,hW.1,(kF W r (λb D=>ak D) hW.2),p.sg,.refl _ _,λx E=>ak (bG.mpr (cn x E Z))⟩
theorem PS.back(p:PS H U L J aK bo bw G S s)(hW:∀b∈W,b∈bo\/aK.heap.get? b=ai)(q:PS τ' U L J s W (S.map (·.1)) G' S' Y):PS τ' U L J aK bo bw G' S' Y where
 fr:=gI q.fr λW' r h h2=>⟨W',r,λb D=>by
  rcases h b D with x|x
  .show hW b x
  .show aw (p.mod.mod.new x),h2⟩
 sg:=q.sg
 mod:=p.mod.trans q.mod λd hd=>by
  rcases bY.mp hd with x|x
  .show bc (hW d x) (λy=>ak (dc _ y)) λy=>aw y
  .show bg (bG.mp x) λz hz dX=>dX▸bc (p.lC z hz) (λy=>ak (ew _ y)) λy=>aw y
 lC:=λx E=>by
  rcases q.lC x E with y|y
  .show bg (bG.mp y) λz hz e=>e▸p.lC z hz
  .show aw (p.mod.mod.new y)
def acd(A:b9)(J:cJ)(rest:List cg)(Q:cb->af->Prop)(f:cb)(s:af):Prop:=match f with
 |cL=>C A (aU rest J) s Q
 |f=>Q f s
theorem ff(h:Q cL s):C A (aU [] J) s Q:=λ_ _ _ _=>h
theorem il(h:C A (oJ st J) s (acd A J rest Q)):C A (aU (st::rest) J) s Q:=λΓ p wa hc=>by rw[Ko,VL];show tH (aE prog w) Γ _ (λf p' Y h'=>?_) (λ_ _ _ h'=>h') _ _ (@h Γ p wa hc);cases f<;>first|show @h' Γ p' wa hc|show h'
theorem YI(l rest:List cg)(J:cJ):aU (l++rest) J=aU l J>>=λf=>match f with|cL=>aU rest J|f=>pure f:=by
 induction l with
 |nil=>show(?_:aU rest J=(pure cL:aI cb)>>=_);rw[pure_bind]
 |cons st l ih=>
  rw[EO,Ko,Ko,bind_assoc];congr 1
  funext f
  cases f with
  |next=>show ih
  |_=>rfl
theorem afg{l:List cg}(h:C A (aU l J) s (acd A J rest Q)):C A (aU (l++rest) J) s Q:=by
 rw[YI];show C.bind (h.mono λf Y h'=>?_);cases f with
 |next=>show h'
 |_=>show C.pure h'
protected theorem PS.s1(p:PS H U L J aK bo bw G S s)(x:S1m H τ' U A L J st G G' ai)(k:∀Y,PS τ' U L J aK bo bw G' S Y->C A (aU rest J) Y Q):
 C A (aU (st::rest) J) s Q:=bg p.fr λW r hW=>il<|(x r).wo λf Y ou=>oX ou λm hf W' r' CD=>hf▸k Y (p.step r hW m r' CD)
protected theorem PS.ss{l:List cg}(p:PS H U L J aK bo bw G S s)(x:pP H τ' U A L J l G G' ai)(k:∀Y,PS τ' U L J aK bo bw G' S Y->C A (aU rest J) Y Q):
 C A (aU (l++rest) J) s Q:=bg p.fr λW r hW=>afg<|(x r).wo λf Y qQ=>oX qQ λm hf W' r' CD=>hf▸k Y (p.step r hW m r' CD)
theorem PS.asg(p:PS H U L J aK bo bw G S s)(he:V H s.heap A L J G e av ab)(hf:flat av=N)(dH:bS G x=N)(E:Hx L x)(hs:fD e (O (aq (NM x) q)) pos.line J=pure ab)(k:∀Y,PS H U L J aK bo bw (jh G x 0 av) S Y->C A (aU rest J) Y Q):C A (aU (eF [aq (NM x) q] e pos::rest) J) s Q:=by show bg p.fr λW r hW=>(il (T.wo (P:=λf Y=>f=cL/\PS H U L J aK bo bw (jh G x 0 av) S Y) ?_ λf Y qQ=>eZ qQ λe1 e2=>by show e1▸?_;show k Y e2));show xD ((he p.er).tN λv aD F e1 aP _=>?_) hs;show(j9 (r.grow e1.ext) E dH aP (.flat (cW.1 _ _ _ hf aP))).Cw λ_ aQ r2 m2=>⟨rfl,p.step r hW (e1.sm m2) r2 λd hd=>ak hd⟩
theorem ace(p:PS H U L J aK bo bw G S s)(he:V H s.heap A L J G e av N)(hf:vZ av=N)(dH:bS G x=N)(E:Hx L x)(hs:fD e (O (aq (NM x) q)) pos.line J=pure ab)(k:∀Y,PS H U L J aK bo bw (jh G x 1 av) S Y->C A (aU rest J) Y Q):C A (aU (eF [aq (NM x) q] e pos::rest) J) s Q:=by
 show bg p.fr λW r hW=>(il (T.wo (P:=λf Y=>f=cL/\PS H U L J aK bo bw (jh G x 1 av) S Y) ?_ λf Y qQ=>eZ qQ λe1 e2=>by show e1▸?_;show k Y e2));show xD ((he p.er).tN λv aD F e1 aP hn=>?_) hs;show eZ (hn Z) λh1 h2=>((j9 (r.grow e1.ext) E dH aP (.fresh h1 h2 (Gn hf aP) r e1.ext)).Cw λ_ aQ r2 m2=>⟨rfl,p.step r hW (e1.sm m2) r2 λd hd=>?_⟩);rcases bY.mp hd with q|q
 .show ak q
 .show aw (h1 d q)
theorem PS.ite{c:aG}{a b:List cg}{x:Bool}(p:PS H U L J aK bo bw G S s)(hc:o7 H s.heap A L J G c x)(k:∀Y,PS H U L J aK bo bw G S Y->C A (aU (cond x a b) J) Y (acd A J rest Q)):C A (aU (yo c a b pos::rest) J) s Q:=by show il<|nU<|C.bind<|(hc p.er).wo λv aQ ko=>have:=k aQ (p.grow ko.1);ko.2.symm▸?_;cases x<;>show this
end
variable{br L' La Lb S S':Sg}
section
variable{Q:cb->af->Prop}
theorem WS(I:Nat->af->Prop)(turn:∀n s (P1:Option aa->af->Prop) (P2:af->Prop) (P3:cb->af->Prop),(∀aD,C A (aU zI J) aD (λf=>aN (bX f))->P1 ai aD)->(∀v aD,C A (jC ct it v) aD (λ_ uD=>C A (jE ct J v) uD (λ_=>P2))->P1 (O v) aD)->
 (∀aQ,C A (aU body J) aQ P3->P2 aQ)->(∀m dg,m<n->I m dg->P3 cL dg)->I n s->C A (gY it) s P1)(n:Nat)(h:I n s):CC A (Fc ct it body zI J) s aN:=by
 induction n using UI generalizing s with
 |ind n ih=>
  show ji Z<|C.onRaise<|nU (C.bind (C.onRaise ((turn n s (λr aD=>match r with
   |none=>C A (aU zI J) aD (λf dg=>aN (bX f) dg)
   |some v=>C A (jC ct it v) aD (λ_ uD=>C A (jE ct J v) uD (λ_ aQ=>C A (aU body J) aQ (λf dg=>match f with
    |cL|Flow.cont=>∃m,m<n/\I m dg
    |Flow.brk=>aN (bX cL) dg
    |cG v=>aN (bX (cG v)) dg)))) _ _ (λ_ h=>h) (λ_ _ h=>h) (λ_ h=>h) (λm _ a b=>cn m a b) h).mono λr aD U=>?_)))
  cases r with
  |none=>show C.pure ⟨rfl,ji Z ?_⟩;show C.bind (C.onRaise (C.mono U λf Y h'=>C.pure h'))
  |some v=>
   show C.bind<|C.mono U λ_ uD ε=>C.bind (C.mono ε λ_ aQ ko=>C.bind (C.mono ko λf dg uk=>?_));cases f with
   |next=>obtain⟨m,hm,hI⟩:=uk;show C.pure ⟨rfl,ih m hm hI⟩
   |cont=>obtain⟨m,hm,hI⟩:=uk;show C.pure ⟨rfl,ih m hm hI⟩
   |brk=>show C.pure uk
   |ret v=>show C.pure uk
theorem Χ(I:Nat->af->Prop)(turn:∀n s (P1:Option aa->af->Prop) (P2:af->Prop) (P3:cb->af->Prop),(∀aD,C A (aU zI J) aD (λf=>aN (bX f))->P1 ai aD)->(∀v aD,C A (jE ct J v) aD (λ_=>P2)->P1 (O v) aD)->
 (∀aQ,C A (aU body J) aQ P3->P2 aQ)->(∀m dg,m<n->I m dg->P3 cL dg)->I n s->C A (gY it) s P1)(n:Nat)(h:I n s)(ht:∀v,jC ct it v=pure ()):CC A (Fc ct it body zI J) s aN:=
 WS I (λn s P1 P2 P3 a b=>turn n s P1 P2 P3 a λv aD q=>b v aD (C.eq (ht v) q)) n h
theorem RF(hs:Fs iter J)(h:C A (a7 iter J) s (λx aD=>C A (gr x) aD (λit aQ=>CC A (Fc ct it body zI J) aQ (λr Y=>match r with|bX f=>Q f Y|j3 _=>False)))):
 C A (oJ (j4 ct iter body zI pos) J) s Q:=nU<|C.bind<|h.mono λx aD U=>C.bind<|C.eq (hs x)<|nU<|lH<|C.mono U λit aQ ko=>C.onRaise (C.run ko)
inductive akc{ζ:Type}(H:List ae)(U:aO)(L:du)(J:cJ)(s:af)(S:Sg)(W fp:List ae)(iR:Nat->ζ->iz)(Sj:Nat->ζ->Sg)(St:Nat->aO->Prop)(n₀ m:Nat)(Y:af):Prop
 |mk (i:Nat) (z:ζ) (W':List ae) (e:m=n₀+1 - i) (hi:i<=n₀) (m1:sF (W++S.map (·.1)) s Y) (st:St i Y.heap) (r:FR H U U L J Y.heap (iR i z) W') (hW:∀d,d∈W'->d∈W\/s.heap.get? d=ai) (cA:zZ U (Sj i z) Y.heap)
  (kn:∀y∈Sj i z,y.1∈S.map (·.1)\/s.heap.get? y.1=ai) (dj:∀y∈Sj i z,y.1∉W') (fW:∀d∈fp,d∉W') (fS:∀d∈fp,∀y∈Sj i z,y.1≠d) (fe:∀d∈fp,∃o,Y.heap.get? d=O o)
theorem yP(x:Nat)(ns:List Int)(iR:Nat->ζ->iz)(Sj:Nat->ζ->Sg)(afh:ζ)(p:PS H U L J aK bo bw G S s)(um:zr H s.heap A L J G iter ns)(h0:km (iR 0 afh) G)(ZR:∀y∈Sj 0 afh,y∈S)(E:Hx L x)(dH:∀i z,i<ns.length->bS (iR i z) x=N)(step:∀i n z aD W,ns[i]? =O n->PS H U L J aD W ((Sj i z).map (·.1)) (jh (iR i z) x 0 (a6 n)) (Sj i z) aD->
 C A (aU body J) aD (λf aQ=>f=cL/\∃z',PS H U L J aD W ((Sj i z).map (·.1)) (iR (i+1) z') (Sj (i+1) z') aQ))(hs:Fs iter J)(k:∀Y z,PS H U L J aK bo bw (iR ns.length z) (Sj ns.length z) Y->C A (aU rest J) Y Q):
 C A (aU (j4 (aq (NM x) px) iter body [] pos::rest) J) s Q:=by
 show bg p.fr λW r hW=>(il (RF hs ((um s p.er).wo λv aD q=>q.wo λit aQ ou=>?_)));obtain⟨e1,I,fp,wr,St,Wk,st,Gq,Z',Al⟩:=ou;have fpW:∀b∈fp,b∉W:=λb hb' hw=>by
  rcases(Al b hb').2.2 with h|h
  .obtain ⟨o,e⟩:=(λb hb'=>oX (r.je b hb') λ_ _ o e _=>⟨o,e⟩:∀b∈W,∃o,s.heap.get? b=O o) b hw;have e:=h.symm.trans e;ext
  .show h.Y' r hw
 have fpS:∀b∈fp,∀y∈S,y.1≠b:=λb hb' y hy e=>by
  subst e;show iK (p.sg y hy) λc1 c2 c3 c4=>?_;rcases(Al _ hb').2.2 with h|h
  .have h:=c1.symm.trans h;ext
  .show wx h λz k' av v' F e hk cA aP D=>og λgG kG=>iL (aP.kinds _ D) λ_ o e1 e2=>kG ?_;clear kG gG;rw[c1]at e1;obtain rfl:=aW e1;unfold Hi at c3;rcases e2 with⟨h1,vs,n,h2⟩|⟨v,h2⟩
   .have c3:=h1▸h2▸c3;ext
   .have c3:=h2▸c3;show Iv (by assumption)
 have wrT:=λb hb'=>(Al b (Wk.sub b hb')).1;have wrB:∀b∈wr,s.heap.get? b=ai/\b∉bV:=λb hb'=>⟨Z' b hb',wrT b hb'⟩;show Χ (akc H U L J s S W fp iR Sj St ns.length) ?_ (ns.length+1)
  ⟨0,afh,W,rfl,fk _,(e1.smod _).p,st,(r.grow e1.ext).less h0,λd hd=>ak hd,(λy hy=>(p.sg.ext e1.ext) y (ZR y hy)),λy hy=>ak (bG.mpr (cn y (ZR y hy) Z)),λy hy=>hW.2 y (ZR y hy),fpW,λd hd y hy=>fpS d hd y (ZR y hy),λd hd=>(Al d hd).2.1⟩ (λ_=>rfl)
 rintro m Y P1 P2 P3 q0 q1 q2 q3 ⟨i,z,W',dX,hi,m1,Oa,r',CD,H',kn',dj',hfW,hfS,hfe⟩;have wrF:∀b∈wr,kK Y.heap b/\b∉bV/\U.get? b=ai/\b∉W':=λb hb'=>⟨Gq i _ Oa b hb',wrT b hb',r.base.new (Z' b hb'),hfW b (Wk.sub b hb')⟩;by_cases jx:i<ns.length
 .show cS<|Wk.item i Y _ _ jx Oa λv h' tk qQ st2 keep=>eS qQ λn t hn hv=>hv▸have m2:sF (W++S.map (·.1)) s {Y with heap:=h',toks:=tk}:=m1.off keep wrB;have H2:zZ U (Sj i z) h':=λy hy=>iK (H' y hy) λa b c d=>rR (keep _ _ (λq=>hfS _ (Wk.sub _ q) y hy Z) a) b c d;q1 _ _ ?_;have ex2:∀d∈fp,∃o,h'.get? d=O o:=λd hd=>if hdw:d∈wr then bg (Gq _ _ st2 d hdw) λo e _=>⟨o,e⟩ else dG (hfe d hd) λo e=>⟨o,keep d o hdw e⟩
  show T.wo (jB (j9 (r'.off keep wrF) E (dH i z jx) (.ofInt n t) (.flat Z))) λ_ dg qQ=>eZ qQ λr3 m3=>(q2 _ ((step i n z dg W' hn (⟨(kF W' r3 (λb D=>ak D) dj'),(H2.mod m3.mod dj'),.refl _ _,λy hy=>ak (bG.mpr (cn y hy Z))⟩)).mono λf fB π=>?_));obtain⟨hf,z',p4⟩:=π;subst hf;show gI p4.fr λW4 r4 hW4 dj4=>?_;have k23:=λd hd o e=>m3.mod.keep d o (hfW d hd) (Al d hd).1 e;have fpX:∀d∈fp,d∉W'++(Sj i z).map (·.1):=λd hd q=>bc (bY.mp q) (λq=>hfW d hd q) λq=>bg (bG.mp q) λy hy e=>(hfS d hd y hy e);have k34:=λd hd o e=>p4.mod.mod.keep d o (fpX d hd) (Al d hd).1 e;have m23:=m2.trans m3.p λd hd=>bc (CD d hd) (λq=>ak (dc _ q)) λq=>aw q;have m24:=m23.trans p4.mod λd hd=>by
   rcases bY.mp hd with q|q
   .show bc (CD d q) (λq=>ak (dc _ q)) λq=>aw q
   .show bg (bG.mp q) λy hy e=>e▸bc (kn' y hy) (λq=>ak (ew _ q)) λq=>aw q
  show q3 (ns.length+1 - (i+1)) _ (dX▸rz (kX jx) (iX i)) ⟨i+1,z',W4,rfl,jx,m24,Wk.frame _ _ _ st2 (λd hd o e=>k34 d hd o (k23 d hd o e)),r4,λd hd=>bc (hW4 d hd) (λh=>CD d h) λh=>aw (m23.mod.new h),p4.sg,λy hy=>?_,dj4,λd hd hw=>?_,λd hd y hy e=>?_,λd hd=>dG (ex2 d hd) λo e=>⟨o,k34 d hd o (k23 d hd o e)⟩⟩
  .rcases p4.lC y hy with q|q
   .show bg (bG.mp q) λy' hy' e=>e▸kn' y' hy'
   .show aw (m23.mod.new q)
  .show bc (hW4 d hw) (λh=>hfW d hd h) λh=>?_;obtain⟨o,e⟩:=ex2 d hd;have h:=(k23 d hd o e).symm.trans h;ext
  .show bc (p4.lC y hy) (λq=>bg (bG.mp q) λy' hy' e'=>(hfS d hd y' hy' (e'.trans e))) λq=>?_;obtain⟨o,e'⟩:=ex2 d hd;have q:=(k23 d hd o e')▸e▸q;ext
 .have:i=ns.length:=by lia
  subst this;show cS<|Wk.done Y _ _ Oa λh' tk keep=>q0 _ (ff ?_);have pe:PS H U L J s W (S.map (·.1)) (iR ns.length z) (Sj ns.length z) {Y with heap:=h',toks:=tk}:=
   ⟨(kF W' (r'.off keep wrF) CD dj'),λy hy=>iK (H' y hy) λa b c d=>(rR (keep _ _ (λq=>hfS _ (Wk.sub _ q) y hy Z) a) b c d),m1.off keep wrB,kn'⟩
  show k _ z (p.back hW.1 pe)
end
theorem w4{k:Int}{t:ba}{x:UInt8}{Q:aa->af->Prop}(ha:s.heap.get? a=O (pQ b))(h0: -(2 ^ 62)<=k)(h1:k<2 ^ 62)(hj:rj k b.size=O j)(E:b[j]? =O x)(h:Q (ag (x.toNat:Int) s.toks) {s with toks:=s.toks+1}):aA (aE prog w) A (xR (R a) (ag k t)) Q aX s:=by show cQ<|ah<|xE (fy ha) (rfl)<|ah (kS (name:=aC "__getitem__") (fy ha) jA (qh jA (fy ha) uF (we _ _) (Pc a b k t j x h0 h1 hj E) ⟨ha,?_⟩));show aB h
theorem w5{k:Int}{t:ba}{v:Nat}{Q:Unit->af->Prop}(ha:s.heap.get? a=O (pQ b))(h0: -(2 ^ 62)<=k)(h1:k<2 ^ 62)(hj:rj k b.size=O j)(hv:v<256)(D:b.size<=1000)(h:Q () {s with heap:=s.heap.update a (jH λb=>b.setIfInBounds j v.toUInt8)}):aA (aE prog w) A (Ay (R a) (ag k t) (ag (aj v) u)) Q aX s:=by show cQ<|ah<|xE (fy ha) (rfl)<|ah (kS (name:=aC "__setitem__") (fy ha) nE (qh nE (fy ha) uG (wg _ _ _) (Ph a b k t v u j h0 h1 hj hv D) ⟨ha,?_⟩));show aB h
theorem RG{Q:aa->af->Prop}(ha:s.heap.get? a=O (pQ b))(D:b.size<=1000)(h:Q (ag (b.size:Int) (s.toks+1)) {s with toks:=s.toks+1+1}):aA (aE prog w) A (call (bB "len") [R a]) Q aX s:=
 aa6 (n:=b.size) (fy ha) wU (λQ' hq=>qh wU (fy ha) MW (Pb _) (aca a b) ⟨ha,hq⟩) (Int.not_ofNat_neg b.size) au h
def kz(ns:LN):bE:=pQ (wh ns)
def lY(ns:LN):Prop:=(∀n∈ns,n<256)/\ns.length<=1000
theorem hZ(ns:LN):(wh ns).size=ns.length:=by simp[wh]
theorem Nf(h:ns[j]? =O x):(wh ns)[j]? =O x.toUInt8:=by simp[wh,h]
theorem RH(h:x<256):(x.toUInt8).toNat=x:=by simp[Nat.toUInt8];lia
theorem WT(ns:LN)(j v:Nat):(wh ns).setIfInBounds j v.toUInt8=wh (ns.set j v):=by apply A7;simp[wh]
theorem lY.set(h:lY ns)(j:Nat){v:Nat}(hv:v<256):lY (ns.set j v):=⟨λn hn=>by
 rcases u6 hn with q|q
 .show h.1 n q
 .rw [q];show hv,by simpa using h.2⟩
section
variable{Q:cb->af->Prop}
theorem bM.ip(v:aa):bM h (aH v) v []:=⟨rfl,rfl⟩
theorem bM.DE{u:aa}(x:bM h (aH u) v F):v=u:=x.1
theorem B1{i:aG}(ho:U.get? a=O (kz ns))(ht:a∉bV)(hB:lY ns)(he:V H U A L J G e (aH (R a)) ab)(hi:V H U A L J G i (aT k) ab)(hk:ns[k]? =O x)(sf:j8 i=ab):V H U A L J G (dk e i pos) (aT x) fr:=λs r=>by show rL<|(he r).Z9 λaD e1=>(hi (r.ext e1.ext)).Cz λt aQ e2=>have Jg:=e1.trans e2;have Τ:=(r.base.trans Jg.ext).keep a _ ht ho;have jx:k<ns.length:=(dR.mp hk).1;have hl:=hB.2;vh (fy Τ) jA.lookup (w4 Τ (j:=k) (x:=x.toUInt8) fH au (Cy (by rw[hZ];show jx)) (Nf hk) ?_) (uB sf _ _);show o6 [] (Jg.trans (.toks _ _)) ?_ d9;rw[RH (hB.1 x (cY hk))];show .ofInt _ _
theorem uI(B:cx U mg mb)(I:dQ mg mb)(kM:Gi L "len")(ho:U.get? a=O (kz ns))(ht:a∉bV)(hB:lY ns)(he:V H U A L J G e (aH (R a)) ab)(dH:cI e=ab):
 V H U A L J G (bx (aq (aC "len") np) [e] [] pos) (aT ns.length) fr:=λs r=>by
 have hI:=I ("len",bB "len") aL;show mf<|(eG B r kM hI.1 hI.2 (rfl)).Dm<|yp ((fL.cons he fL.nil dH s pos r).QW λvs aD F1 e1 V1=>?_) (dp dH _ _) Z;apply vB V1;show RG ((r.base.trans e1.ext).keep a _ ht ho) (by rw[hZ];show hB.2) (o6 [] (e1.trans (.toks _ _)) ?_ d9);rw[hZ];show .ofInt _ _
theorem w6(a:ae)(k x:Nat){i v:aG}(p:PS H U L J aK bo bw G S s)(hv:V H s.heap A L J G v (aT x) ab)(he:V H s.heap A L J G e (aH (R a)) ab)(hi:V H s.heap A L J G i (aT k) ab)(ha:(a,kz ns)∈S)(hB:lY ns)(hk:k<ns.length)(E:x<256)(hs:fD v (O (dk e i p')) pos.line J=pure ab)(hS:∀y∈S',(y.1=a/\y.2=kz (ns.set k x))\/(y.1≠a/\y∈S))(kk:∀Y,PS H U L J aK bo bw G S' Y->C A (aU rest J) Y Q):C A (aU (eF [dk e i p'] v pos::rest) J) s Q:=by show il (Lake.T.wo (P:=λf Y=>f=cL/\PS H U L J aK bo bw G S' Y) ?_ λf Y qQ=>eZ qQ λe1 e2=>by show e1▸?_;show kk Y e2);show JU ((hv p.er).Cz λt aD e1=>(he (p.er.ext e1.ext)).Z9 λaQ e2=>(hi ((p.er.ext e1.ext).ext e2.ext)).Cz λt3 dg e3=>?_) hs;have p3:=p.grow ((e1.trans e2).trans e3);have ho:=p3.get ha;have hl:=hB.2;show w5 ho (j:=k) fH au (Cy (by rw[hZ];show hk)) E (by rw[hZ];show hl)<|eZ (Tn.upd (X:=[a]) (s:=dg) (f:=λb=>b.setIfInBounds k x.toUInt8) ho bz) λt2 g2=>?_;rw[WT]at g2;show⟨rfl,p3.turn ha Z t2 g2 Z hS⟩
theorem Ψ{v l r:aG}{op:Operator}{qp:cB}(p:PS H U L J aK bo bw G S s)(hv:V H s.heap A L J G v (aT x) ab)(he:V H s.heap A L J G e (aH (R a)) ab)(hi:V H s.heap A L J G (fi l op r qp) (aT k) ab)(ha:(a,kz ns)∈S)(hB:lY ns)(hk:ns[k]? =O y)(E:x<256)(hS:∀z∈S',(z.1=a/\z.2=kz (ns.set k (y ^^^ x)))\/(z.1≠a/\z∈S))(kk:∀Y,PS H U L J aK bo bw G S' Y->C A (aU rest J) Y Q):C A (aU (Fb (dk e (fi l op r qp) p') Bc v pos::rest) J) s Q:=by
 show il (Lake.T.wo (P:=λf Y=>f=cL/\PS H U L J aK bo bw G S' Y) ?_ λf Y qQ=>eZ qQ λe1 e2=>by show e1▸?_;show kk Y e2);have eq:oJ (Fb (dk e (fi l op r qp) p') Bc v pos) J=(do
  mV pos
  let ov<-a7 e J
  let iv<-holding [ov] (a7 (fi l op r qp) J)
  let new<-holding [ov,iv] do
   mV p'
   let old<-xR ov iv
   let v<-holding [old] (a7 v J)
   mV pos
   operate [old,v] (Ks Bc old v)
  mV p'
  holding [new,ov,iv] (Ay ov iv new)
  release [new,ov,iv] []
  pure cL):=rfl
 have jx:k<ns.length:=(dR.mp hk).1;have hy:y<256:=hB.1 y (cY hk);have hl:=hB.2;show ah<|jT<|ah<|(he p.er).Z9 λaD e1=>ah<|cQ<|(hi (p.er.ext e1.ext)).Cz λt2 aQ e2=>have Jg:=e1.trans e2;ah<|cQ<|ah<|jT<|ah<|w4 ((p.grow Jg).get ha) (j:=k) (x:=y.toUInt8) au au (Cy (by rw[hZ];show jx)) (Nf hk)<|(RH hy).symm▸have ahv:dA H s {aQ with toks:=aQ.toks+1}:=Jg.trans (.toks _ _);ah<|cQ<|(hv (p.er.ext ahv.ext)).Cz λt4 fB e4=>ah<|jT<|wpAny_operating ((Ow (op:=.xor) (H:=H) (x:=aj y) (y:=aj x) Z (aw (aw Z))).wp3 λnv ig t5 e5 hnv=>?_);subst hnv;have p5:=p.grow ((ahv.trans e4).trans e5);have ho:=p5.get ha;show ah<|jT<|ah<|cQ<|w5 ho (j:=k) au au (Cy (by rw[hZ];show jx)) (EZ (n:=8) hy E) (by rw[hZ];show hl)<|eZ (Tn.upd (X:=[a]) (s:=ig) (f:=λb=>b.setIfInBounds k (y ^^^ x).toUInt8) ho bz) λt6 g6=>?_;rw[WT]at g6;show ah λΓ q wa=>aB ⟨rfl,p5.turn ha Z t6 g6 Z hS⟩
end
noncomputable def WU(f:cb):aa:=match f with
 |cG v=>v
 |_=>ax
theorem acf(h:C (A.deeper J) (aU body J) s (λf Y=>aN (bX (cG (WU f))) Y)):CC A (Code.func body J) s aN:=by show ji Z (C.bind (C.point (C.bind (C.onRaise (h.mono λf Y h'=>?_)))));cases f<;>show C.pure h'
theorem WV{K:LN}(B:cx U mg mb)(x1:hJ H U s.heap)(bK:A.depth<1000)(ho:s.heap.get? a=O o)(hd:o.data=qt fd)(hcr:s.heap.CodeRec fd.code fd.qualname)(OE:fd.body=kZ body)(ae3:fd.closure=[])(Du:fd.scope.isCoroutine=ab)(zc:fd.scope.isGenerator=ab)(si:T A.in1 (dw fd ⟨vs,[]⟩) s (λbs Y=>Y=s/\bs=(K.map NM).zip us))(aP:bA s.heap avs us F)(hk:fd.scope.kind=dZ)(hgl:fd.globals=ef)(hbi:fd.builtins=gb)(tR:K.Nodup)(dM:K.length=us.length)(E:∀x∈K,Hx fd.scope x)(cA:zZ U S s.heap)(hw:∀aQ br,PS H U fd.scope (gN fd br a) s [] (S.map (·.1)) (qJ K avs) S aQ->
 C (A.deeper (gN fd br a)) (aU body (gN fd br a)) aQ (λf Y=>aN (bX (cG (WU f))) Y)):CC A (ng (R a) ⟨vs,[]⟩) s aN:=by
 show ji Z<|C.bind<|T.wc<|jo ho<|gv hcr λc oc ws tq hc hoc hdc hq=>?_;rw[hd];show(?_:C _ (callFunction a fd _) _ _)
 delta callFunction
 rw[Du,zc,OE,hc];show C.bind<|T.wc<|f9 hoc hdc hq<|C.bind<|C.pure<|C.bind (si.wo λbs s1 qQ=>eZ qQ λe1 e2=>?_);subst e1 e2;rw[ae3];show C.bind (T.wc (Tc hk (λx hxm=>?_) λfZ he s2 ic=>?_))
 .obtain ⟨n,v⟩:=x;show bg (bG.mp ((sW hxm).1)) λy hy dX=>?_;subst dX;rcases E y hy with q|q
  .show ak q
  .show aw ⟨q,kq _ _ _ _ (ak (mH q))⟩
 .have Ji:fZ=gN fd s1.heap.objs.size a:=by rw[he];delta gN;rw[hc]
  subst Ji;have fr0:=FR.start B.top x1 aP hk hgl hbi tR dM E ic;show eS ic.done λhh tk e2 alv=>(C.bind (Lake.T.wc (wpAny_enterFrame ((B.zo x1).keeps ic.toInCall.keep) (by assumption) (C.pure ⟨rfl,acf (hw s2 _ ⟨(kF _ fr0.rebase (λb D=>aw ((fr0.je b D).1)) (λp hp q=>?_)),cA.ext (H:=H) (.of_keep ic.toInCall.keep),?_,λp hp=>ak (bG.mpr (cn p hp Z))⟩)⟩))))
  .have:=(fr0.je _ q).1;have this:=((cA p hp).1).symm.trans this;ext
  .subst e2;show⟨(hJ.of_keep (H:=H) ic.toInCall.keep).mod _,rfl,rfl,.refl _⟩
theorem fY{id:aV}{args:List aG}{Q:aa->af->Prop}(h:C A (a7 (aq id p) J) s (λf aD=>C A (xO pos f [] (jV pos (jq args J)) []) aD Q)):
 C A (a7 (bx (aq id p) args [] pos) J) s Q:=
 C.bind h
theorem c8{Q:List aa->af->Prop}(h:Q [] s):C A (xS []) s Q:=C.pure h
theorem cu{x:aI aa}{rest:List (Bool×aI aa)}{Q:List aa->af->Prop}(h:C A x s (λv aD=>C A (xS rest) aD (λvs aQ=>Q (v::vs) aQ))):C A (xS ((ab,x)::rest)) s Q:=C.bind<|h.mono λv aD U=>C.bind (C.pure (lH (C.mono U λvs aQ ko=>C.pure ko)))
theorem eu{f:aa}{x:aI aa}{rest:List (Bool×aI aa)}{Q:sS->af->Prop}(h:C A (xS ((ab,x)::rest)) s (λvs Y=>Q ⟨vs,[]⟩ Y)):C A (xP f N ((ab,x)::rest) []) s Q:=C.bind<|h.mono λvs Y h'=>C.holding (C.pure h')
theorem B2{f:aa}{Q:sS->af->Prop}(h:Q ⟨[],[]⟩ s):C A (xP f N [] []) s Q:=C.bind<|c8<|C.bind<|C.pure<|C.holding (C.pure h)
theorem C.keep{m:aI α}{Q:α->af->Prop}(h:C A m s Q):C A (m.keep vs) s Q:=λΓ p wa hc=>by rw[Sem.wp_keep];show @h Γ p wa hc
theorem pG(o:bE)(fd:cq){args:List (Bool×aI aa)}{Q:aa->af->Prop}(h:C A (xP (R a) N args []) s (λx aD=>(aD.heap.get? a=O o/\o.data=qt fd)/\C A (call (R a) (first++x.pos) x.kw) aD Q)):C A (xO pos (R a) first args []) s Q:=by
 show lH (h.mono λx aD U=>C.bind (C.standAt ?_));have tail:∀{t:aI aa},C A t aD Q->C A (t>>=λr=>holding [r] point>>=λ_=>pure r) aD Q:=
  λht=>C.bind (ht.mono λr aQ hr=>lH (C.point (C.pure hr)))
 cases hs:args.any (·.1)<;>dsimp only[Uu,LC]<;>
  show C.bind ?_<;>unfold Ax<;>
  show C.bind (T.wc (jo U.1.1 ?_))<;>rw[U.1.2]<;>show C.pure ?_
 .change C _ (if _ then _ else _) _ _;split
  .show tail U.2
  .show tail (C.keep U.2)
 .show tail (C.keep U.2)
theorem de{f:aa}{args:List (Bool×aI aa)}{Q:aa->af->Prop}(afi:args.any (·.1)=ab)(h:C A (xP f N args []) s (λa aD=>C A (Ax f) aD (λk aQ=>k=FG/\C A (call f (first++a.pos) a.kw) aQ Q))):C A (xO pos f first args []) s Q:=by show lH (h.mono λa aD U=>C.bind (C.standAt ?_));rw[afi,Uu,LC];show C.bind<|C.mono U λk aQ qQ=>eZ qQ λe ko=>e▸C.bind (ko.mono λr dg hr=>lH (C.point (C.pure hr)))
theorem iE{T:String}{Q:Keeper->af->Prop}(h:Q FG s):C A (Ax (ao T)) s Q:=C.pure h
theorem lU{id:String}{Q:Keeper->af->Prop}(h:Q FG s):C A (Ax (bB id)) s Q:=C.pure h
section
variable{Q:cb->af->Prop}
theorem yQ(dH:bS G x=N)(E:Hx L x)(hs:fD e (O (aq (NM x) q)) pos.line J=pure ab)(he:C A (a7 e J) s (λv aD=>∃S' av F,PS τ' U L J aK bo bw G S' aD/\bM aD.heap av v F/\flat av=N/\
 ∀Y,PS τ' U L J aK bo bw (jh G x 0 av) S' Y->C A (aU rest J) Y Q)):C A (aU (eF [aq (NM x) q] e pos::rest) J) s Q:=by
 show il ?_;rw[TM J (NM x) q e pos hs];show nU<|C.bind<|he.mono λv aD U=>nU<|C.bind<|C.bindName<|gJ U λS' av F ps aP hf k=>bg ps.fr λW r hW=>(j9 r E dH aP (.flat (cW.1 _ _ _ hf aP))).wo λ_ aQ ko=>C.pure (k aQ (ps.step r hW ko.2 ko.1 λd hd=>ak hd))
theorem z0(hi:iG J=ab)(hs:fD e ai pos.line J=pure ab)(he:C A (a7 e J) s (λv aD=>v=ax/\C A (aU rest J) aD Q)):C A (aU (qw e pos::rest) J) s Q:=by show il ?_;rw[exec_Expr J e pos hi hs];show nU<|C.bind<|he.mono λv aD qQ=>eZ qQ λe1 U=>e1▸?_;rw[dropValue_plain (by intro a h;ext)];show C.pure U
theorem acg{f:aa}{Q:sS->af->Prop}(r:ER H s.heap L J s.heap G)(he:fL H s.heap A L J G (e::es) avs)(dH:dW (e::es)=N)(h:∀vs aD F,dA H s aD->bA aD.heap avs vs F->Q ⟨vs,[]⟩ aD):C A (xP f N (jV pos (jq (e::es) J)) []) s Q:=by show eZ (wL dH) λh1 h2=>?_;have Ji:=he s pos r;rw[dp h1]at Ji ⊢;show eu (ahq Ji h)
end
noncomputable def uq(rs:List ae):AV:=fI (rs.map λr=>aH (R r))
def uJ(rs:List ae)(b8:List (LN)):Sg:=rs.zip (b8.map kz)
structure Mx(b8:List (LN)):Prop where
 len:b8.length=13
 row:∀r∈b8,r.length=13/\∀x∈r,x<256
noncomputable def YJ(b8:List (LN))(i j v:Nat):List (LN):=b8.set i ((b8.getD i []).set j v)
theorem Mx.get(h:Mx b8)(hi:i<13):b8[i]? =O (b8.getD i [])/\(b8.getD i []).length=13/\lY (b8.getD i []):=by have hl:=h.len;have e:b8[i]? =O (b8.getD i []):=kx au;have hm:=cY e;show rR e ((h.row _ hm).1) ((h.row _ hm).2) (by rw[(h.row _ hm).1];decide)
theorem Mx.ahw(h:Mx b8){r:LN}(hr:r.length=13)(D:∀x∈r,x<256):Mx (b8.set i r):=⟨by simpa using h.len,λr' hr'=>by show bc (u6 hr') (λq=>h.row r' q) λq=>q▸⟨hr,D⟩⟩
theorem Mx.set(h:Mx b8)(hi:i<13)(j:Nat){v:Nat}(hv:v<256):Mx (YJ b8 i j v):=ie (h.get hi) λ_ h2 h3=>(h.ahw (by simpa using h2) (h3.set j hv).1)
theorem pH{r:ae}{row:LN}(h1:rs[i]? =O r)(h2:b8[i]? =O row):(r,kz row)∈uJ rs b8:=by
 show cY (i:=i) ?_
 delta uJ
 rw[KH];show⟨h1,by simp[h2]⟩
theorem ach(tR:rs.Nodup){r:ae}(h1:rs[i]? =O r)(row:LN):∀y∈uJ rs (b8.set i row),(y.1=r/\y.2=kz row)\/(y.1≠r/\y∈uJ rs b8):=by
 intro y hy;show dG (sU hy) λk hk=>?_;unfold uJ at hk;rw[KH]at hk;show eZ hk λk1 k2=>?_;rw[cZ]at k2;show bg (iY.mp k2) λabQ k3 k4=>?_;rcases yD (k=i) with e|e
 .subst e
  left
  show⟨(aW (h1.symm.trans k1)).symm,?_⟩;show dG (dR.mp k3) λl e=>?_;simp at e;rw[<-k4,<-e]
 .right
  have qI:y.1≠r:=λe2=>by
   subst e2;show dG (dR.mp k1) λl1 g1=>?_;show dG (dR.mp h1) λl2 g2=>?_;rcases UC k i with c|c|c
   .show absurd (g1.trans g2.symm) (EE.mp tR k i l1 l2 c)
   .show e c
   .show absurd (g2.trans g1.symm) (EE.mp tR i k l2 l1 c)
  show⟨qI,?_⟩;have k5:b8[k]? =O abQ:=by rwa [List.getElem?_set_ne (λq=>e q.symm)]at k3
  have:=pH k1 k5;rw[k4]at this;show this
theorem yR(tR:rs.Nodup){r:ae}(h1:rs[i]? =O r)(row:LN){S0:Sg}(hd:∀y∈S0,y.1∉rs):∀y∈uJ rs (b8.set i row)++S0,(y.1=r/\y.2=kz row)\/(y.1≠r/\y∈uJ rs b8++S0):=λy hy=>by show bc (bY.mp hy) (λq=>bc (ach tR h1 row y q) (λh=>ak h) λh=>aw ⟨h.1,dc _ h.2⟩) λq=>aw ⟨λe=>hd y q (by rw[e];show cY h1),ew _ q⟩
section
variable{Q:cb->af->Prop}
theorem Nh{a:aG}(B:cx U mg mb)(I:dQ mg mb)(kM:Gi L "len")(ha:V H U A L J G a (fI K) ab)(dH:cI a=ab)(hl:K.length<=1000):V H U A L J G (bx (aq (aC "len") np) [a] [] pos) (aT K.length) fr:=λs r=>by
 have hI:=I ("len",bB "len") aL;show mf<|(eG B r kM hI.1 hI.2 (rfl)).Dm<|yp ((fL.cons ha fL.nil dH s pos r).QW λvs aD F1 e1 V1=>?_) (dp dH _ _) Z;apply nM V1;intro v G1 V2;apply pU V2;intro a ws n _ a3 a4;have l1:=bA.length a4;show aa7 (⟨_,a3,rfl,n,rfl⟩) jM ?_;have:((ws.toArray.size:Nat):Int)=aj K.length:=by simp[l1]
 rw[this];show⟨e1.trans (.toks _ _),[],.ofInt _ _,d9⟩
theorem yS(k:Nat){a i:aG}{r:ae}(ha:V H U A L J G a (uq rs) ab)(hi:V H U A L J G i (aT k) ab)(hk:rs[k]? =O r)(hl:rs.length<=1000)(sf:j8 i=ab):
 V H U A L J G (dk a i pos) (aH (R r)) fr:=by
 show wD ha hi ?_ sf (λ_=>rfl);have jx:=(dR.mp hk).1;show(?_:cond (dY k 1000000) _ eV=_);rw[eU au];simp[hk]
theorem mF(x:Nat){b:Bool}(E:ck G x=O (k,eX b)):o7 H U A L J G (aq (NM x) pos) b:=λs r=>isTrue_plain<|(vY r E).wpV λv F aP=>aP.toBool.symm▸me ⟨.refl _,rfl⟩
theorem z8{c:aV}(hs:fD (fN (LP c) k pos) ai Ct.line J=pure ab):S1 H U A L J (qw (fN (LP c) k pos) Ct) G G ai:=λD s W r=>by show wpAny_Expr (Ea ?_) (by delta iG;rw[r.scope,r.kind];rfl) hs;have e:dA H s {s with toks:=s.toks+1}:=.toks _ _;show tP (e.smod W) (r.grow e.ext)
def Ω:cg:=dP 19
noncomputable def pS(n:Nat):Nat:=1 - n % 2
def Pw(b8:List (LN)):Nat->List (LN)
 | 0=>b8
 |n+1=>YJ (YJ (Pw b8 n) (8+n) 0 (pS n)) 0 (8+n) (pS n)
theorem Px(h:Mx b8):∀n,n<=5->Mx (Pw b8 n):=by
 intro xX;induction xX with
 |zero=>intro _;show h
 |succ n iH=>
  intro hn;have D:pS n<256:=by delta pS;lia
  show((iH (rD hn)).set (AP hn) 0 D).set bu (8+n) D
def akd(rs:List ae)(bit:Nat):iz:=[(9,0,uq rs),(15,0,aT 0),(69,0,aT 13),(70,0,aH (R (rs.getD 0 0))),(19,0,aT bit)]
theorem Py{S0:Sg}(hh:dh A)(B:cx U mg mb)(I:dQ mg mb)(hl:rs.length=13)(tR:rs.Nodup)(hm:Mx b8)(hd:∀y∈S0,y.1∉rs)(p:PS H U (bf Ω) J aK bo bw (qJ [9,68] [uq rs,eX N]) (uJ rs b8++S0) s)(k:∀Y G',PS H U (bf Ω) J aK bo bw G' (uJ rs (Pw b8 5)++S0) Y->Q cL Y):C A (aU (bh Ω) J) s Q:=by
 have hr:∀i,i<13->rs[i]? =O (rs.getD i 0):=λi hi=>kx au;show p.s1 (S1.m (z8 Z)) λs1 p1=>(p1.s1 (S1.m (Wy (x:=15) (y:=69) (p:=(0,13)) hh (wC N (mF 68 Z) (λ_=>?_) (λq=>nnT q)) (by decide+kernel) (λz hz=>by simp at hz;rcases hz with rfl|rfl<;>rfl) Z Z)) λs2 p2=>?_)
 .show uj B.top (fL.cons V.int (fL.cons ?_ fL.nil Z) Z) Z Z;show V.to (Nh B I Z (ar 9 Z) Z jM) (by simp[hl,aT])
 show p2.s1 (S1.m (bC 70 (aH (R (rs.getD 0 0))) (yS 0 (ar 9 Z) (ar 15 Z) (hr 0 bu) au Z) Z Z (ak Z) Z)) λs3 p3=>p3.s1 (S1.m (bC 19 (aT 1) (aR 1) Z Z (ak Z) Z)) λs4 p4=>yP 14 (Dq 8 1 5) (λi (_:Unit)=>akd rs (pS i)) (λi _=>uJ rs (Pw b8 i)++S0) () p4 (zR (k:=8) (m:=13) hh (p4.base B) I Z V.int Z (ar 69 Z) Z aL aL aL aL)
  (km.rf bF bF) (λy hy=>hy) (ak Z) (λ_ _ _=>rfl) (λi n z t W hn q=>?_) (λ_=>rfl) (λs5 _ p5=>ff (k s5 _ p5))
 show eZ (o9.mp hn) λhi hn=>?_;have wm:(n:Int)=aj (8+i):=by rw[hn];simp
 subst wm;have hmi:=Px hm i au;have D:pS i<256:=by delta pS;lia
 show ie (hmi.get (i:=8+i) au) λm1 m2 m3=>ie ((hmi.set (i:=8+i) au 0 D).get (i:=0) bu) λn1 n2 n3=>w6 (rs.getD (8+i) 0) 0 (pS i) q (ar 19 Z) (yS (8+i) (ar 9 Z) (ar 14 Z) (hr _ au) au Z) (ar 15 Z)
  (dc _ (pH (hr _ au) m1)) m3 (Nat.lt_of_sub_eq_succ m2) D Z (yR tR (hr _ au) _ hd) λt1 q1=>w6 (rs.getD 0 0) (8+i) (pS i) q1 (ar 19 Z) (ar 70 Z) (ar 14 Z)
  (dc _ (pH (hr _ bu) n1)) n3 au D Z (yR tR (hr _ bu) _ hd) λt2 q2=>q2.s1 (S1.m (CF (k:=0) 19 (aj (pS i)) 1 (aj (pS (i+1))) .xor Z V.int ?_ (aw (aw Z)) Z (ak Z))) λt3 q3=>?_
 .rcases EV i with e|e
  .have e1:pS i=1:=by delta pS;lia
   have e2:pS (i+1)=0:=by delta pS;lia
   rw[e1,e2];rfl
  .have e1:pS i=0:=mr (Nat.eq_sub_of_add_eq' e);have e2:pS (i+1)=1:=by delta pS;lia
   rw[e1,e2];rfl
 show ff ⟨rfl,(),q3.less (km.rf bF bF)⟩
end
open PySem.W
theorem uK{t:aI α}{r:α}{Q:α->af->Prop}(x:LG (aE prog w) s.heap t r)(q:Q r s):C A t s Q:=T.wc (x.here q)
theorem aci{rest:List aa}{init:aa}(gn:PySem.W.Makes (aE prog w) s.heap aS)(hi:LG (aE prog w) s.heap (gw (R aS) "__init__") (O init))(D:∀self,LG (aE prog w) s.heap (bindSpecial init self) (init,[self]))(qI:(O init != O (bB "object.__init__"))=N)(hq:CC (A.under (fG "type.__call__" ⟨R aS::rest,[]⟩)) (ng init ⟨R (s.heap.objs.size+1)::rest,[]⟩) {s with heap:=(s.heap.push tD).push (Fg aS s.heap.objs.size)}
 (λr Y=>r=bX (cG ax)/\Q (R (s.heap.objs.size+1)) Y)):C A (call (R aS) rest []) s Q:=by
 show og λgG kG=>?_;obtain⟨⟨oc,od,cd,sl,hC,e1,e2,e4⟩,made,base,self,top,ϊ,typ⟩:=id gn;show kG ?_;clear kG gG;show C.call (ji Z ?_);change C _ (callAny (R aS) ⟨rest,[]⟩) s _;show C.bind (Lake.T.wc (jo hC ?_));show C.bind (uK ϊ ?_);dsimp only;show C.bind (C.pure (C.bind (C.pure ?_)));show C.pure (a:=yB (ng (bB "type.__call__") ⟨R aS::rest,[]⟩)) (FL Z (ji Z ?_));show C.bind (Lake.T.wc (U0 tc_kind tc_split typ (U2 _ _ _) (C.pure ⟨AZ _ bF,jO entry_typeCall Z ?_⟩)));unfold Builtin.«type.__call__»;dsimp only;show C.bind (uK (((aa8 (part:=ai) hC).andThen vk).andThen vk) ?_);rw[if_neg (by rw[e4];decide)];show C.bind (uK made ?_);show C.bind (C.pure ?_);have k:∀b o,s.heap.get? b=O o->((s.heap.push tD).push (Fg aS s.heap.objs.size)).get? b=O o:=λb o e=>a0 _ (a0 _ e);show C.bind (C.holding (Lake.T.wo (P:=λ(v:aa) s1=>v=R (s.heap.objs.size+1)/\s1={s with heap:=(s.heap.push tD).push (Fg aS s.heap.objs.size)}) ?_ λv s1 qQ=>eZ qQ λev es=>?_))
 .obtain ⟨hp,g,d,tk,os⟩:=s;show kT (new_K gn hi (ak qI) ⟨rfl,rfl⟩)
 subst ev es;have t1:gS (aE prog w) ((s.heap.push tD).push (Fg aS s.heap.objs.size)) (xT (R (s.heap.objs.size+1))) (R aS):=(Fm (by heap_get)).andThen vk;show C.bind (uK (r:=N) (t1.andThen (self.keeps k)) ?_);show ee aL (C.bind (C.holding ?_));show C.bind (uK (t1.andThen (hi.keeps k)) ?_);show C.holding (C.bind (uK ((D _).keeps k) ?_));show C.bind (C.call (CC.mono hq λr Y qQ=>eZ qQ λer hQ=>?_));subst er;show C.pure (C.pure hQ)
theorem Hj{bj:mw}(e:bj.lookup a=O o):a∈bj.map (·.1):=by
 induction bj with
 |nil=>ext
 |cons p r ih=>
  obtain⟨b,x⟩:=p;dsimp only[AK]at e;show boC (a==b) (λh=>?_) λh=>?_
  .have:a=b:=by simpa using h
   show this▸AG Z
  .have e:=h▸e;show bW _ (ih e)
theorem Pz(P:cf)(t:Nat->ba)(f:Nat->cq):∀a o,(iC P t f).lookup a=O o->a∉bV:=by intro a o e;show(by decide:∀x∈([2002,2001,2003,1956,1963,1977,1984,1991,1998]:List ae),x∉bV) a (Hj e)
theorem jj(X:(iC P t f).In h)(x:hJ H h h'):(iC P t f).In h':=λa o e=>x.keep a o (Pz P t f a o e) (X a o e)
theorem ϋ:makesIn (iC P t f) 2002=N:=by ext
theorem acj:iJ (iC P t f) (R 2002) "__init__" =O (O (R 1956)):=by ext
theorem ό:qz (iC P t f) (R 1956)=O (ao "function"):=by ext
theorem afj:iJ (iC P t f) (R 2002) "__len__" =O (O (R 1991)):=by ext
theorem ack:qz (iC P t f) (R 1991)=O (ao "function"):=by ext
theorem WW:iJ (iC P t f) (R 2002) "__getitem__" =O (O (R 1998)):=by ext
theorem ύ:qz (iC P t f) (R 1998)=O (ao "function"):=by ext
theorem B3(n:aV):plainGet (iC P t f) 2002 n=N:=by ext
theorem acm:iJ (iC P t f) (R 2002) "_data" =O (O (R 2003)):=by ext
theorem ώ:yq (iC P t f) (R 2003) "__get__" =O (O (bB "member_descriptor.__get__")):=by ext
theorem Ϗ:A6 (iC P t f) (R 2003)=O N:=by ext
theorem WX:slotIn (iC P t f) 2003 2002=O 0:=by ext
theorem afk:(clsIn (iC P t f) 2002).isSome=N:=by ext
theorem RJ:iJ (iC P t f) (R 2002) "__setattr__" =O (O (bB "object.__setattr__")):=by ext
theorem acn:plainOver (iC P t f) 2002=N:=by ext
theorem ϐ:takerIn (iC P t f) 2002 "_data" =O (O (R 2003)):=by ext
theorem YK:qz (iC P t f) (R 2003)=O (ao "member_descriptor"):=by ext
theorem afl:iJ (iC P t f) (R 2002) "extend" =O (O (R 1963)):=by ext
theorem aco:qz (iC P t f) (R 1963)=O (ao "function"):=by ext
theorem acp:iJ (iC P t f) (R 2002) "getbits" =O (O (R 1977)):=by ext
theorem ϑ:qz (iC P t f) (R 1977)=O (ao "function"):=by ext
theorem acq:iJ (iC P t f) (R 2002) "toints" =O (O (R 1984)):=by ext
theorem ϒ:qz (iC P t f) (R 1984)=O (ao "function"):=by ext
section
open PySem.W Builtin Builtin.ObjectAttr Builtin.Getset_descriptor
noncomputable def qW(dx d:ae):bE:={cls:=R 2002,dict:=O dx,data:=tx,slots:=#[O (R d)]}
section
variable{b:ae}
theorem w7(D:s.heap.get? b=O (qW dx d))(hd:s.heap.get? dx=O iy):InstAt s.heap b (qW dx d) 2002 (O iy):=⟨D,rfl,rfl,hd⟩
theorem PA(X:(iC P t f).In s.heap)(D:s.heap.get? b=O (qW dx d))(hd:s.heap.get? dx=O iy)(h:Q (R d) {s with toks:=s.toks+1}):
 aA (aE prog w) A (getAttr (R b) "_data" aeK) Q aX s:=
 get_bind X (w7 D hd) (A5 (B3 "_data")).1 (findObj_data afk acm ώ Ϗ) (A5 (B3 "_data")).2
  (kT (slot_get X (w7 D hd) WX Z (handed_on Z h)))
theorem Hk(D:s.heap.get? b=O (vj 2002 dx))(hd:s.heap.get? dx=O iy):InstAt s.heap b (vj 2002 dx) 2002 (O iy):=⟨D,rfl,rfl,hd⟩
theorem ϓ{bj:mw}{x p:ae}(X:bj.In s.heap)(I:InstAt s.heap x ox aS od)(hp:slotIn bj p aS=O i)(hi:i<1000)(h:aN (bX (cG ax)) {s with heap:=s.heap.update x λo=>{o with slots:=(o.slots++Vg (i+1 - o.slots.size) ai).setIfInBounds i (O v)}}):
 oH (aE prog w) A (ng (bB "member_descriptor.__set__") ⟨[R p,R x,v],[]⟩) aN s:=by
 show jd (slot_of X hp) λn tn i=>jd i λowner behind i=>fR i λtb d sl cd ho hc hm D dX=>?_;obtain⟨hh,g,dr,t,os⟩:=s;subst dX;have L0:=I.type (M:=aE prog w);have L1:=LI (M:=aE prog w) X hm;have L2:gS (aE prog w) hh (Slots.slotNamesOf (R aS)) cd.slotNames:=(looks_clsIn X hc).andThen vk;have E:=I.at_;dsimp only at ho E L0 L1;have f0:=Fh (M:=aE prog w) ho 0 (v:=cO n tn) Z;have f1:=Fh (M:=aE prog w) ho 1 (v:=owner) Z;have f3:=Fh (M:=aE prog w) ho 3 (v:=bB "proto.slot#set") Z;have f4:=Fh (M:=aE prog w) ho 4 (v:=ag behind tb) Z;show xy Mm.plain KF.entry_mset (Mm.check _ _ _ _ _ _ _ _ (cn _ ho Z) (KF.args_mset _ _ _) ?_);have f5:gS (aE prog w) hh (descrItself (R p)) [R p]:=((Fm ho).andThen vk).andThen (LO (rfl));repeat lk
 show⟨AZ _ bF,qg KF.entry_slotset ?_⟩;repeat lk
 show(if_neg D).symm▸aB (ah ?_)
 delta setSlotAt
 dsimp only;rw[if_neg (by rw[jU];lia)];show wpAny_updatePart E (aB h)
theorem PB{Q:Unit->af->Prop}(X:(iC P t f).In s.heap)(D:s.heap.get? b=O (vj 2002 dx))(hd:s.heap.get? dx=O iy)(h:∀Y,Tn [b] s Y->Y.heap.get? b=O (qW dx d)->Q () Y):aA (aE prog w) A (setAttr (R b) "_data" (R d)) Q aX s:=by
 show set_plain X (Hk D hd) RJ (osa_descr Mm X (Hk D hd) acn ϐ YK (ϓ X (Hk D hd) WX bu (h _ ?_ ?_)))
 .have e:(s.heap.update b λo=>{o with slots:=(o.slots++Vg (0+1 - o.slots.size) ai).setIfInBounds 0 (O (R d))}).get? b=O (qW dx d):=gQ _ D Z;show(Tn.toks [b] s _).trans (Tn.same (j5 ..) au ⟨_,e⟩) λ_ h=>ak h
 .show gQ _ D Z
theorem Hl{Q:Option aa->af->Prop}(X:(iC P t f).In s.heap)(D:s.heap.get? b=O (qW dx d))(hd:s.heap.get? dx=O iy)(h1:iJ (iC P t f) (R 2002) name=O (O (R fa)))(h2:qz (iC P t f) (R fa)=O (ao "function"))(h:aA (aE prog w) A (call (R fa) (R b::args)) (λv=>Q (O v)) aX s):aA (aE prog w) A (xI (R b) name args) Q aX s:=
 special_fn X (w7 D hd) h1 h2 h
end
end
structure qX(U:aO)(a:ae)(fd:cq)(st:cg):Prop where
 at_:FnAt U a fd
 body:fd.body=kZ (bh st)
 scope:fd.scope=bf st
 params:fd.params=fz st
 glob:fd.globals=ef
 bi:fd.builtins=gb
 clo:fd.closure=[]
 kwd:fd.kwdefaults=ax
theorem qX.ext(f:qX U a fd st)(x:hJ H U h):qX h a fd st:=⟨f.at_.ext x,f.body,f.scope,f.params,f.glob,f.bi,f.clo,f.kwd⟩
section
variable{b:ae}
theorem WY{K:LN}(B:cx U mg mb)(x1:hJ H U s.heap)(bK:A.depth<1000)(dB:qX U a fd st)(Du:(bf st).isCoroutine=ab)(zc:(bf st).isGenerator=ab)(hk:(bf st).kind=dZ)(si:T A.in1 (dw fd ⟨vs,[]⟩) s (λbs Y=>Y=s/\bs=(K.map NM).zip us))(aP:bA s.heap avs us F)(tR:K.Nodup)(dM:K.length=us.length)(E:∀x∈K,Hx (bf st) x)(hss:∀fZ,pP H τ' s.heap (A.deeper fZ) (bf st) fZ (bh st) (qJ K avs) G' (O av)):
 T A (call (R a) vs) s (λv Y=>dA τ' s Y/\∃F,bM Y.heap av v F):=by
 have N':=dB.ext x1;have B':=B.ext x1;show bg N'.at_.obj λo ho hd=>kT<|JX (by assumption) ho hd (N'.scope▸Du) (N'.scope▸zc) N'.body (N'.at_.abR (H:=H) (.refl _))<|si.Dm<|N'.clo.symm▸Tc (N'.scope▸hk) (λx hxm=>?_) λJ he aQ ic=>?_
 .obtain ⟨n,v⟩:=x;show bg (bG.mp ((sW hxm).1)) λy hy dX=>dX▸N'.scope.symm▸?_;rcases E y hy with q|q
  .show ak q
  .show aw ⟨q,kq _ _ _ _ (ak (mH q))⟩
 .subst he;have fr0:=FR.start (H:=H) B'.top (.refl _) aP (N'.scope▸hk) N'.glob N'.bi tR dM (N'.scope▸E) ic;show eS ic.done λhh tk e2 _=>?_;replace fr0:=N'.scope▸fr0;show⟨B'.lim.keeps ic.toInCall.keep,Ke ?_⟩;show(hss _ fr0).wp λfl dg ou=>yG ou λm3 x3 v F3 hf3 V3=>hf3▸?_;have Rc:aQ.os=s.os/\aQ.drawn=s.drawn/\aQ.gens=s.gens:=by show e2▸?_;show gT Z Z Z
  show⟨⟨x3,m3.os.trans Rc.1,m3.drawn.trans Rc.2.1,m3.gens.trans Rc.2.2⟩,F3,V3⟩
theorem RK(K:LN)(avs:List AV)(av:AV)(F:List ae)(B:cx U mg mb)(x1:hJ H U s.heap)(bK:A.depth<1000)(dB:qX U a fd st)(Du:(bf st).isCoroutine=ab)(zc:(bf st).isGenerator=ab)(hk:(bf st).kind=dZ)(si:dw fd ⟨vs,[]⟩=pure ((K.map NM).zip vs))(aP:bA s.heap avs vs F)(tR:K.Nodup)(dM:K.length=vs.length)(E:∀x∈K,Hx (bf st) x)(hss:∀fZ,pP H τ' s.heap (A.deeper fZ) (bf st) fZ (bh st) (qJ K avs) G' (O av)):
 T A (call (R a) vs) s (λv Y=>dA τ' s Y/\∃F,bM Y.heap av v F):=
 WY B x1 bK dB Du zc hk (si▸aB ⟨rfl,rfl⟩) aP tR dM E hss
protected theorem V.data(X:(iC P t f).In U)(Rh:U.get? b=O (qW dx d))(hdo:U.get? dx=O iy)(tb:b∉bV)(td:dx∉bV)(E:ck G x=O (k,aH (R b))):
 V H U A L J G (gZ (aq (NM x) np) (aC "_data") pos) (aH (R d)) fr:=λs r=>Fd<|T.Dm (ui r E)<|PA (jj X r.base) (r.base.keep _ _ tb Rh) (r.base.keep _ _ td hdo) (o6 [] (.toks _ _) (.ip _) d9)
end
structure pT(U:aO)(P:cf)(t:Nat->ba)(f:Nat->cq):Prop where
 pI:(iC P t f).In U
 acr:qX U 1991 (f 4) (vC 7)
 itemF:qX U 1998 (f 5) (vC 8)
 ϔ:qX U 1963 (f 1) (vC 3)
 dJ:qX U 1977 (f 2) (vC 5)
 afm:(f 4).defaults=ax
 ϕ:(f 5).defaults=ax
 afn:(f 1).defaults=ax
 ϖ:(f 2).defaults=ax
structure wi(h:aO)(b dx d:ae)(ns:LN):Prop where
 obj:h.get? b=O (qW dx d)
 WZ:h.get? dx=O iy
 dat:h.get? d=O (kz ns)
 t1:b∉bV
 t2:dx∉bV
 t3:d∉bV
 ok:lY ns
section
variable{b:ae}
theorem pT.ext(x:hJ H U h)(B:pT U P t f):pT h P t f:=⟨jj B.pI x,B.acr.ext x,B.itemF.ext x,B.ϔ.ext x,B.dJ.ext x,B.afm,B.ϕ,B.afn,B.ϖ⟩
theorem wi.ext(x:hJ H h h')(B:wi h b dx d ns):wi h' b dx d ns:=⟨x.keep _ _ B.t1 B.obj,x.keep _ _ B.t2 B.WZ,x.keep _ _ B.t3 B.dat,B.t1,B.t2,B.t3,B.ok⟩
theorem ahx(hp:fd.params=fz (vC 7))(hd:fd.defaults=ax)(v:aa):dw fd ⟨[v],[]⟩=pure (([110].map NM).zip [v]):=by
 delta dw
 show hp.symm▸hd.symm▸?_;rfl
theorem ahy(hp:fd.params=fz (vC 8))(hd:fd.defaults=ax)(v u:aa):dw fd ⟨[v,u],[]⟩=pure (([110,112].map NM).zip [v,u]):=by
 delta dw
 show hp.symm▸hd.symm▸?_;rfl
theorem ϗ(B:cx U mg mb)(I:dQ mg mb)(gH:pT U P t f)(x1:hJ H U s.heap)(bK:A.depth<1000)(hB:wi s.heap b dx d ns):
 T A (call (R 1991) [R b]) s (λv Y=>dA H s Y/\∃tk,v=ag (aj ns.length) tk):=by
 show(RK (G':=[]) [110] [aH (R b)] (aT ns.length) [] B x1 bK gH.acr Z Z Z (ahx gH.acr.params gH.afm _) ?_ aL Z aL λfZ=>?_).wp3 λv Y F e aP=>⟨e,aP.toInt⟩
 .show ej [] [] (.ip _) .nil
 show SS.m<|tQ<|S1.ret<|uI (B.ext x1) I Z hB.dat hB.t3 hB.ok (V.data (x:=110) (jj gH.pI x1) hB.obj hB.WZ hB.t1 hB.t2 Z) Z
theorem YL{tk:ba}(B:cx U mg mb)(gH:pT U P t f)(x1:hJ H U s.heap)(bK:A.depth<1000)(hB:wi s.heap b dx d ns)(hk:ns[k]? =O x):
 T A (call (R 1998) [R b,ag (aj k) tk]) s (λv Y=>dA H s Y/\∃tk,v=ag (aj x) tk):=by
 show(RK (G':=[]) [110,112] [aH (R b),aT k] (aT x) [] B x1 bK gH.itemF Z Z Z (ahy gH.itemF.params gH.ϕ _ _) ?_ aL Z aL λfZ=>?_).wp3 λv Y F e aP=>⟨e,aP.toInt⟩
 .show ej [] [] (.ip _) (ej [] [] (.ofInt _ _) .nil)
 show SS.m<|tQ<|S1.ret<|B1 hB.dat hB.t3 hB.ok (V.data (x:=110) (jj gH.pI x1) hB.obj hB.WZ hB.t1 hB.t2 Z) (ar 112 Z) hk Z
theorem Jv(B:cx U mg mb)(I:dQ mg mb)(gH:pT U P t f)(bK:A.depth<1000)(hB:wi U b dx d ns)(kM:Gi L "len")(he:V H U A L J G e (aH (R b)) ab)(dH:cI e=ab):V H U A L J G (bx (aq (aC "len") np) [e] [] pos) (aT ns.length) fr:=λs r=>by have hI:=I ("len",bB "len") aL;show mf<|(eG B r kM hI.1 hI.2 (rfl)).Dm<|yp ((fL.cons he fL.nil dH s pos r).QW λvs aD F1 e1 V1=>?_) (dp dH _ _) Z;apply vB V1;have x1:=r.base.trans e1.ext;have hl:=hB.ok.2;have hB1:=hB.ext x1;show Calls.call_function_entry kind_len plain_len entry_len (args_len1 _)<|ah (m:=oneArg "len" _)<|aB<|ah (Hl (jj gH.pI x1) hB1.obj hB1.WZ afj ack ((ϗ (A:=A.in1) B I gH x1 bK hB1).wp3 λv s2 tk e2 hv=>?_));subst hv;show ah<|cQ<|aB<|ah<|uY<|(?_:aA _ _ (if aj ns.length>=2 ^ 63 then _ else _) _ _ _);rw[if_neg au];show ah (Kj (aB ⟨_,rfl,(e1.trans e2).trans (.toks _ _),[],.ofInt _ _,d9⟩))
end
section
variable{b:ae}
theorem RL{i:aa}(X:(iC P t f).In s.heap)(hB:wi s.heap b dx d ns)(h:aA (aE prog w) A.in1 (call (R 1998) [R b,i]) Q aX s)(sf:Em slice N (R b) i=runValue (fG "lifetime.subscript" ⟨[R b,i],[]⟩)):aA (aE prog w) A (subscriptTail value slice (R b) i) Q aX s:=by have I:=w7 hB.obj hB.WZ;show ah<|ah<|ah<|I.type.here<|(A4 X WW).here<|ah<|jo (X 1998 _ Z)<|aB<|sf.symm▸ah (Ka (qg entry_sub ?_));show ah (special_fn X I WW ύ (ir h (λv Y z=>?_) λ_ _ z=>z));show aB (ah (wpAny_letTemporaryGo (aB z)))
theorem acs(h:j8 slice=ab)(o i:aa):Em slice N o i=runValue (fG "lifetime.subscript" ⟨[o,i],[]⟩):=by cases slice<;>first|rfl|(ext)
theorem YM{i:aG}(B:cx U mg mb)(gH:pT U P t f)(bK:A.depth<1000)(hB:wi U b dx d ns)(he:V H U A L J G e (aH (R b)) ab)(hi:V H U A L J G i (aT k) ab)(hk:ns[k]? =O x)(sf:j8 i=ab):V H U A L J G (dk e i pos) (aT x) fr:=λs r=>by show rL<|(he r).Z9 λaD e1=>(hi (r.ext e1.ext)).Cz λtk aQ e2=>have Jg:=e1.trans e2;have x1:=r.base.trans Jg.ext;RL (jj gH.pI x1) (hB.ext x1) ((YL (A:=A.in1) B gH x1 bK (hB.ext x1) hk).wp3 λv s3 tk3 e3 hv=>?_) (acs sf _ _);subst hv;show o6 [] (Jg.trans e3) (.ofInt _ _) d9
end
section
open PySem.W PySem.SeqAt
theorem nV(e:h.get? a=O (cV vs n)):h.IsTuple a vs.toArray:=⟨_,e,rfl,n,rfl⟩
noncomputable def eqV(x:Int):aa->Bool
 |ag i _=>i==x
 |_=>ab
theorem W0{x:Int}:∀{vs:List aa} {ms:List Int},fm vs ms->vs.toArray.any (eqV x)=ms.any (· ==x):=by
 intro vs ms h;rw[List.any_toArray];induction h with
 |nil=>rfl
 |cons n t r ih=>simp[eqV,ih]
theorem Jw{x:Int}{ms:List Int}(h:fm vs ms):∀y,y∈vs.toArray->EqAt A s y (ag x u) (eqV x y):=by
 intro y hy;have hy:y∈vs:=by simpa using hy
 induction h with
 |nil=>show kI hy
 |cons n t r ih=>show bc (bq.mp hy) (λe=>e▸EqAt.int_int n t x u) λe=>ih (by simpa using e) e
theorem RM{a c:aG}{x:Int}{ms:List Int}(ha:V H U A L J G a (a6 x) ab)(hc:V H U A L J G c (fI ys) ab)(h2:ja ys=O ms)(hm:Ei Bf c=ab):
 o7 H U A L J G (jt a [Bf] [c] pos) (!(ms.any (· ==x))):=λs r=>by
 show uQ ((ha r).Cz λt aD e1=>(hc (r.ext e1.ext)).tN λu aQ F2 e2 V2 _=>?_) hm;apply pU V2;intro b ws m _ b3 b4;have IA:=intsAre_of b4 h2;show notIn_tupleAt (eqV x) (nV b3) (Jw IA)<|(W0 IA).symm▸me ⟨e1.trans e2,rfl⟩
theorem W6{a c:aG}{x:Int}{ms:List Int}(ha:V H U A L J G a (a6 x) ab)(hc:V H U A L J G c (fI ys) ab)(h2:ja ys=O ms)(hm:Ei yF c=ab):
 o7 H U A L J G (jt a [yF] [c] pos) (ms.any (· ==x)):=λs r=>by
 show uQ ((ha r).Cz λt aD e1=>(hc (r.ext e1.ext)).tN λu aQ F2 e2 V2 _=>?_) hm;apply pU V2;intro b ws m _ b3 b4;have IA:=intsAre_of b4 h2;show in_tupleAt (eqV x) (nV b3) (Jw IA)<|(W0 IA).symm▸me ⟨e1.trans e2,rfl⟩
theorem qP{x:aV}{i:Int}{tk:ba}(B:cx U mg mb)(E:L.names.lookup x=O kY)(hv:mg x=O (ag i tk))(hd:(x==("__debug__" :aV))=ab):V H U A L J G (aq x pos) (a6 i) fr:=λs r=>
 T.Dm (sd B r E hv hd) (o6 [] (.refl _) (.ofInt _ _) d9)
theorem B4{x:aV}(B:cx U mg mb)(E:L.names.lookup x=O kY)(hv:mg x=O v)(hd:(x==("__debug__" :aV))=ab):V H U A L J G (aq x pos) (aH v) fr:=λs r=>
 T.Dm (sd B r E hv hd) (o6 [] (.refl _) (.ip _) d9)
end
noncomputable def mL(k:Nat)(t u v:ba):bE:={cls:=ao "range",data:=bH #[ag 0 t,ag (aj k) u,ag 1 v]}
section
variable{Q:cb->af->Prop}
theorem PS.acu(p:PS H U L J aK bo bw G S s)(B:cx U mg mb):aK.heap.get? s.heap.objs.size=ai/\U.get? s.heap.objs.size=ai/\s.heap.objs.size∉bV:=
 ⟨p.mod.mod.new (bD _),p.ext.new (bD _),fo (jw B.top p.ext)⟩
theorem PS.sk(p:PS H U L J aK bo bw G S s)(B:cx U mg mb)(hs:Hi o=N)(ho:o.isFreed=ab):
 PS H U L J aK bo bw G ((s.heap.objs.size,o)::S) {s with heap:=s.heap.push o,toks:=tk}:=by
 show ie (p.acu B) λn1 n2 n3=>have p1:PS H U L J aK bo bw G S {s with heap:=s.heap.push o,toks:=tk}:=p.grow ⟨.push _ _,rfl,rfl,eW _⟩;gI p.fr λW r q1 q2=>?_;have hnW:s.heap.objs.size∉W:=λq=>oX (r.je _ q) λ_ _ o' e _=>(absurd (cj e) (gy _));show⟨⟨W,r.grow (.push _ _),q1,λx E=>by
  rcases bq.mp E with e|e
  .subst e;show hnW
  .show q2 x e⟩,λx E=>by
  show bc (bq.mp E) (λe=>e▸rR (bJ _ ho) n3 hs n2) λe=>p1.sg x e,p1.mod,λx E=>by
  rcases bq.mp E with e|e
  .subst e;show aw n1
  .show p1.lC x e⟩
theorem w9(x k:Nat){cp:cB}(p:PS H U L J aK bo bw G S s)(B:cx U mg mb)(I:dQ mg mb)(kM:Gi L "range")(he:V H s.heap A L J G e (aT k) ab)(dH:cI e=ab)(hso:bS G x=N)(E:Hx L x)(hs:fD (bx (aq (aC "range") np) [e] [] cp) (O (aq (NM x) q)) pos.line J=pure ab)(kk:∀rr t u v Y,PS H U L J aK bo bw (jh G x 0 (aH (R rr))) ((rr,mL k t u v)::S) Y->C A (aU rest J) Y Q):
 C A (aU (eF [aq (NM x) q] (bx (aq (aC "range") np) [e] [] cp) pos::rest) J) s Q:=by
 show yQ (τ':=H) (U:=U) (aK:=aK) (bo:=bo) (bw:=bw) hso E hs<|T.wc<|mD ("range") ("range") (p.base B) I aL kM (rfl) (fL.cons he fL.nil dH) (by simp[dW,dH]) p.er λvs aD F e1 V1=>?_;apply nO V1;show λt=>sJ (DS _ (aH (R aD.heap.objs.size)) [] ((p.grow e1).sk (o:=mL k aD.toks t (aD.toks+1)) (tk:=aD.toks+1+1) B Z Z) (.ip _) Z (λY p'=>kk _ _ _ _ Y p'))
theorem z9(x k:Nat){t v:ba}(hh:dh A)(B:Tp U)(ho:U.get? rr=O (mL n t u v))(ht:rr∉bV)(E:ck G x=O (k,aH (R rr)))(hn:n<=1000):
 zr H U A L J G (aq (NM x) pos) (Dq 0 1 n):=λs r=>by
 show(vY r E).mono λv aD ou=>Ms ou λe1 F aP=>e1.symm▸?_;apply bM.Gb aP;show qB hh B r.base (.refl _) (r.base.keep rr _ ht ho) ?_ ?_
 .have:aj n=(n:Int):=rfl;show uZ aL aL fH au
 .rw [uV];split<;>lia
end
section
variable{Q:cb->af->Prop}
theorem Aa(x:Nat)(ns:LN)(f:σ->Nat->σ)(Gf:σ->iz)(Sf:σ->Sg)(Inv:σ->Prop)(RN:σ)(p:PS H U L J aK bo bw G S s)(um:zr H s.heap A L J G iter (ns.map aj))(h0:km (Gf RN) G)(ZR:∀y∈Sf RN,y∈S)(hi0:Inv RN)(ake:∀n st,n∈ns->Inv st->Inv (f st n))(E:Hx L x)(dH:∀st,bS (Gf st) x=N)(step:∀n st aD W,n∈ns->Inv st->PS H U L J aD W ((Sf st).map (·.1)) (jh (Gf st) x 0 (aT n)) (Sf st) aD->
 C A (aU body J) aD (λfl aQ=>fl=cL/\PS H U L J aD W ((Sf st).map (·.1)) (Gf (f st n)) (Sf (f st n)) aQ))(hs:Fs iter J)(k:∀Y,Inv (ns.foldl f RN)->PS H U L J aK bo bw (Gf (ns.foldl f RN)) (Sf (ns.foldl f RN)) Y->C A (aU rest J) Y Q):
 C A (aU (j4 (aq (NM x) px) iter body [] pos::rest) J) s Q:=by
 have hI:∀i,Inv ((ns.take i).foldl f RN):=λi=>by
  induction i with
  |zero=>show hi0
  |succ i ih=>show Z0 (ns[i]?) (λe=>by rw[EM,e];simpa using ih) λn e=>by rw[A3 f RN e];show ake n _ (cY e) ih
 show yP _ _ (λi _=>Gf ((ns.take i).foldl f RN)) (λi _=>Sf ((ns.take i).foldl f RN)) () p um h0 ZR E (λi z _=>dH _) (λi n z aD W hn q=>?_) hs (λY z p'=>?_)
 .replace hn:=cZ▸hn;show Z0 (ns[i]?) (λe=>?_) λm e=>?_
  .have hn:=e▸hn;ext
  .rw [e]at hn;obtain rfl:=aW hn;show(step m _ aD W (cY e) (hI i) q).mono λfl aQ qQ=>eZ qQ λa b=>⟨a,(),?_⟩;rw[A3 f RN e];show b
 .rw [(by simp:(ns.map aj).length=ns.length),sV]at p';show k Y (by have:=hI ns.length;rwa [sV]at this) p'
end
def pJ:cg:=dP 20
noncomputable def tZ:cg->List cg
 |j4 _ _ b _ _=>b
 |_=>[]
def afo:List cg:=tZ (a9 (tZ (a9 (tZ (a9 (bh pJ) 7)) 1)) 0)
noncomputable def Jx(right v:Nat):Nat:=cond (fF (right % 4) 0) (12 - v) v
def RO(ns:LN)(right v:Nat)(st:List (LN)×Nat)(z:Nat):List (LN)×Nat:=
 cond (fF ((st.1.getD (Jx right v) []).getD (right - z) 0) 2 && jG st.2 ns.length) (YJ st.1 (Jx right v) (right - z) (ns.getD st.2 0),st.2+1) st
def cwV(ns:LN)(right:Nat)(st:List (LN)×Nat)(v:Nat):List (LN)×Nat:=(aJ 2).foldl (RO ns right v) st
def cwR(ns:LN)(st:List (LN)×Nat)(right:Nat):List (LN)×Nat:=(aJ 13).foldl (cwV ns right) st
def IV(ns:LN)(b8:List (LN)):List (LN)×Nat:=[12,10,8,6,4,2].foldl (cwR ns) (b8,0)
theorem Jy{f:σ->Nat->σ}{Inv:σ->Prop}{st:σ}(hs:∀n st,n∈ns->Inv st->Inv (f st n))(h:Inv st):Inv (ns.foldl f st):=List.foldlRecOn ns f h λb D a ha=>hs a b ha D
theorem W9(hn:lY ns){v:Nat}(hv:v<13){st:List (LN)×Nat}(h:Mx st.1)(z:Nat):Mx (RO ns right v st z).1:=by
 delta RO
 cases e:(fF ((st.1.getD (Jx right v) []).getD (right - z) 0) 2 && jG st.2 ns.length) with
 |false=>show h
 |true=>
  have h2:st.2<ns.length:=by have:=(fP.mp e).2;show dN this
  show h.set (by delta Jx;cases fF (right % 4) 0<;>simp<;>lia) _ (hn.1 _ (by rw[da,dF h2];show KR h2))
theorem Ϙ(hn:lY ns){v:Nat}(hv:v<13){st:List (LN)×Nat}(h:Mx st.1):Mx (cwV ns right st v).1:=
 Jy (Inv:=λ(st:List (LN)×Nat)=>Mx st.1) (λz st _ h=>W9 hn hv h z) h
theorem afq(hn:lY ns){st:List (LN)×Nat}(h:Mx st.1):Mx (cwR ns st right).1:=
 Jy (Inv:=λ(st:List (LN)×Nat)=>Mx st.1) (λv st hv h=>Ϙ hn (dm.mp hv) h) h
section
variable{Q:cb->af->Prop}{b:ae}
def jf(b dx d:ae)(ns:LN):Sg:=[(b,qW dx d),(dx,iy),(d,kz ns)]
theorem PS.Hm(p:PS H U L J aK bo bw G S s)(h:∀y∈jf b dx d ns,y∈S)(hn:lY ns):wi s.heap b dx d ns where
 obj:=p.get (h _ (by simp[jf]))
 WZ:=p.get (h _ (by simp[jf]))
 dat:=p.get (h _ (by simp[jf]))
 t1:=(p.sg _ (h (b,qW dx d) (by simp[jf]))).2.1
 t2:=(p.sg _ (h (dx,iy) (by simp[jf]))).2.1
 t3:=(p.sg _ (h (d,kz ns) (by simp[jf]))).2.1
 ok:=hn
theorem ahz(n:Nat):Dq 0 1 n=(aJ n).map aj:=by show AI λi _=>?_;simp
def gCw(rs:List ae)(b rr:ae)(n:Nat)(st:List (LN)×Nat):iz:=[(9,0,uq rs),(71,0,aH (R b)),(68,0,eX N),(73,0,aT 13),(74,0,aT 0),(75,0,aT st.2),(76,0,aT n),(77,0,aH (R rr))]
def gC2(rs:List ae)(b rr:ae)(n right v:Nat)(st:List (LN)×Nat):iz:=jh (jh (gCw rs b rr n st) 12 0 (aT right)) 78 0 (aT v)
theorem ahA(h:right∈[12,10,8,6,4,2]):gU .eq (aj ((right+0) &&& 2)) 0=fF (right % 4) 0:=by simp at h;rcases h with rfl|rfl|rfl|rfl|rfl|rfl<;>rfl
theorem ahB:gU .eq (aj x) (aj y)=fF x y:=by rw[UQ];simp[gU];show T5
theorem ahC:gU .lt (aj x) (aj y)=jG x y:=by rw[UQ];simp[gU,jG];show Iff.symm Nat.add_one_le_iff
theorem akf{S0:Sg}{v:Nat}{st:List (LN)×Nat}(B:cx U mg mb)(gH:pT U P t f)(bK:A.depth<1000)(hl:rs.length=13)(tR:rs.Nodup)(hm:Mx st.1)(hd:∀y∈S0,y.1∉rs)(yT:∀y∈jf b dx d ns,y∈S0)(hn:lY ns)(hr:right∈[12,10,8,6,4,2])(hv:v<13)(hz:z<2)(p:PS H U (bf pJ) J aK bo bw (jh (gC2 rs b rr ns.length right v st) 79 0 (aT z)) (uJ rs st.1++S0) s):
 C A (aU afo J) s (λfl Y=>fl=cL/\PS H U (bf pJ) J aK bo bw (gC2 rs b rr ns.length right v (RO ns right v st z)) (uJ rs (RO ns right v st z).1++S0) Y):=by
 have aj0:2<=right/\right<=12:=r26 _ hr;have hi:Jx right v<13:=by unfold Jx;cases fF (right % 4) 0<;>simp<;>lia
 have WG:rs[Jx right v]? =O (rs.getD (Jx right v) 0):=kx au;show ie (hm.get hi) λm1 m2 m3=>have E:(st.1.getD (Jx right v) [])[right - z]? =O ((st.1.getD (Jx right v) []).getD (right - z) 0):=kx au;p.s1 (S1.m (bC 15 (aT (right - z)) (lR (ar 12 Z) (ar 79 Z) au) Z Z (ak Z) Z)) λs1 p1=>p1.s1 (S1.m (bC 80 (eX (fF (right % 4) 0)) (V.to (Gh .eq (aj ((right+0) &&& 2)) 0
  (lj (x:=aj (right+0)) (y:=2) .band (fu (ar 12 Z) (ar 74 Z)) V.int Z) V.int) (congrArg _ (ahA hr))) Z Z (ak Z) Z)) λs2 p2=>p2.ite (x:=ab) (FN N (mF 68 Z)) λs3 p3=>ff (p3.s1 (S1.m (bC 14 (aT (Jx right v)) (wC (fF (right % 4) 0) (mF 80 Z) (λq=>?_) (λq=>?_)) Z Z (ak Z) Z)) λs4 p4=>?_)
 .have e:Jx right v=13 - 1 - v:=by unfold Jx;rw[q];rfl
  rw[e];show lR (lR (ar 73 Z) (aR 1) aL) (ar 78 Z) au
 .have e:Jx right v=v:=by unfold Jx;rw[q];rfl
  rw[e];show BN (ar 78 Z) Z
 show p4.s1 (S1.m (bC 31 (aH (R (rs.getD (Jx right v) 0))) (yS _ (ar 9 Z) (ar 14 Z) WG au Z) Z Z (ak Z) Z)) λs5 p5=>have hmem:=dc S0 (pH WG m1);p5.ite (x:=fF ((st.1.getD (Jx right v) []).getD (right - z) 0) 2 && jG st.2 ns.length) (vE (o7.to (mA .eq (B1 (p5.get hmem) ((p5.sg _ hmem).2.1) m3 (ar 31 Z) (ar 15 Z) E Z) (aR 2)) ahB)
  (λ_=>o7.to (mA .lt (ar 75 Z) (ar 76 Z)) ahC)) λs6 p6=>?_
 unfold RO;cases e:(fF ((st.1.getD (Jx right v) []).getD (right - z) 0) 2 && jG st.2 ns.length) with
 |false=>show ff (ff ⟨rfl,p6.less (km.rf (rfl) (rfl))⟩)
 |true=>
  have hy:ns[st.2]? =O (ns.getD st.2 0):=kx (dN (fP.mp e).2);show w6 (rs.getD (Jx right v) 0) (right - z) (ns.getD st.2 0) p6 (YM (p6.base B) (gH.ext p6.ext) bK (p6.Hm (λy hy=>ew _ (yT y hy)) hn) (ar 71 Z) (ar 75 Z) hy Z) (ar 31 Z) (ar 15 Z)
   hmem m3 au (hn.1 _ (cY hy)) Z (yR tR WG _ hd) λs7 p7=>p7.s1 (S1.m (CF (k:=0) 75 (aj st.2) 1 (aj (st.2+1)) .add Z V.int Z (ak Z) Z (ak Z))) λs8 p8=>(ff (ff ⟨rfl,p8.less (by show km.rf bF bF)⟩))
theorem acv{tk0 tk1 tk2:ba}{S0:Sg}(hh:dh A)(B:cx U mg mb)(I:dQ mg mb)(gH:pT U P t f)(bK:A.depth<1000)(hl:rs.length=13)(tR:rs.Nodup)(hm:Mx b8)(hd:∀y∈S0,y.1∉rs)(yT:∀y∈jf b dx d ns,y∈S0)(hn:lY ns)(ϙ:(rr,mL 2 tk0 tk1 tk2)∈S0)(p:PS H U (bf pJ) J aK bo bw (gCw rs b rr ns.length (b8,0)) (uJ rs b8++S0) s)(k:∀Y,Mx (IV ns b8).1->PS H U (bf pJ) J aK bo bw (gCw rs b rr ns.length (IV ns b8)) (uJ rs (IV ns b8).1++S0) Y->C A (aU rest J) Y Q):
 C A (aU (a9 (bh pJ) 7::rest) J) s Q:=by
 show Aa 12 [12,10,8,6,4,2] (cwR ns) (gCw rs b rr ns.length) (λst=>uJ rs st.1++S0) (λst=>Mx st.1) (b8,0) p
  (zr.eq (Gu (n:=6) hh (p.base B) I Z (lj .sub (ar 73 Z) V.int Z) Z V.int Z (MD V.int) Z aL (rfl) (rfl) (rfl)) (rfl))
  (.refl _) (λy hy=>hy) hm (λn st _ h=>afq hn h) (ak Z) (λst=>rfl) (λright st s1 W1 hr hmx p1=>?_) (λ_=>rfl) (λY hI p'=>k Y hI p')
 show p1.ite (vE (y:=N) (FN N (mF 68 Z)) (λq=>by ext)) λs2 p2=>ff<|Aa 78 (aJ 13) (cwV ns right) (λst=>jh (gCw rs b rr ns.length st) 12 0 (aT right)) (λst=>uJ rs st.1++S0) (λst=>Mx st.1) st p2
  (zr.eq (fV hh (p2.base B) I Z (ar 73 Z) Z bu) Z) (.refl _) (λy hy=>hy) hmx (λv st hv h=>Ϙ hn (dm.mp hv) h) (ak Z) (λst=>rfl) (λv Oa s3 W3 hv akg p3=>?_) (λ_=>rfl)
  (λY hI p'=>ff ⟨rfl,p'.less (km.rf (rfl) (rfl))⟩)
 show Aa 79 (aJ 2) (RO ns right v) (gC2 rs b rr ns.length right v) (λst=>uJ rs st.1++S0) (λst=>Mx st.1) Oa p3
  (zr.eq (z9 77 0 hh (p3.base B).top (p3.get (ew _ ϙ)) (p3.sg _ (ew _ ϙ)).2.1 Z bu) (ahz 2)) (.refl _) (λy hy=>hy) akg (λz st _ h=>W9 hn (dm.mp hv) h z) (ak Z) (λst=>rfl) (λz st2 s4 W4 hz akh p4=>?_) (λ_=>rfl)
  (λY hI p'=>ff ⟨rfl,p'.less (km.rf (rfl) (rfl))⟩)
 show akf B gH bK hl tR akh hd yT hn hr (dm.mp hv) (dm.mp hz) p4
end
section
variable{Q:cb->af->Prop}{b:ae}
theorem acw{S0:Sg}{v1 v3:ba}(hh:dh A)(B:cx U mg mb)(I:dQ mg mb)(gH:pT U P t f)(bK:A.depth<1000)(hl:rs.length=13)(tR:rs.Nodup)(hm:Mx b8)(hd:∀y∈S0,y.1∉rs)(yT:∀y∈jf b dx d ns,y∈S0)(hn:lY ns)(h1:mg (aC "VERSION_M1")=O (ag (-3) v1))(h3:mg (aC "VERSION_M3")=O (ag (-1) v3))(PC:(IV ns b8).2=ns.length)(p:PS H U (bf pJ) J aK bo bw (qJ [9,71,72] [uq rs,aH (R b),a6 (-2)]) (uJ rs b8++S0) s)(k:∀Y G',Mx (IV ns b8).1->PS H U (bf pJ) J aK bo bw G' (uJ rs (IV ns b8).1++S0) Y->Q cL Y):
 C A (aU (bh pJ) J) s Q:=by
 change C _ (aU [a9 (bh pJ) 0,a9 (bh pJ) 1,a9 (bh pJ) 2,a9 (bh pJ) 3,a9 (bh pJ) 4,a9 (bh pJ) 5,a9 (bh pJ) 6,a9 (bh pJ) 7,a9 (bh pJ) 8] J) s Q;show p.s1 (S1.m (z8 Z)) λs1 p1=>p1.s1 (S1.m (bC 73 (aT 13) (V.to (Nh B I Z (ar 9 Z) Z jM) (by simp[hl])) Z Z (ak Z) Z)) λs2 p2=>p2.s1 (S1.m (bC 68 (eX N) (Gh .lt (-2) 1 (ar 72 Z) V.int) Z Z (ak Z) Z)) λs3 p3=>p3.s1 (S1.m (bC 74 (aT 0) (wC N (RM (x:= -2) (ys:=[a6 (-3),a6 (-1)]) (ms:=[-3, -1]) (ar 72 Z)
  (uj B.top (fL.cons (qP B Z h1 Z) (fL.cons (qP B Z h3 Z) fL.nil Z) Z) Z Z) Z Z) (λ_=>V.int) (λq=>nnT q)) Z Z (ak Z) Z)) λs4 p4=>p4.s1 (S1.m (bC 75 (aT 0) V.int Z Z (ak Z) Z)) λs5 p5=>have aki:∀y∈jf b dx d ns,y∈uJ rs b8++S0:=λy hy=>ew _ (yT y hy);PS.asg (x:=76) (av:=aT ns.length) p5 (Jv (p5.base B) I (gH.ext p5.ext) bK (p5.Hm aki hn) Z (ar 71 Z) Z) Z Z (ak Z) Z λs6 p6=>w9 77 2 p6 B I Z V.int Z Z (ak Z) Z λrr t0 t1 t2 s7 p7=>?_
 have afr:∀y∈(rr,mL 2 t0 t1 t2)::S0,y.1∉rs:=λy hy=>by show bc (bq.mp hy) (λe=>?_) λe=>hd y e;subst e;intro hq;show dG (sU hq) λi hi=>?_;have jx:=(dR.mp hi).1;have e1:=p7.get (bW _ (dc S0 (pH hi (hm.get (i:=i) au).1)));rw[p7.get (cR ..)]at e1;show absurd (congrArg E9 (aW e1)) (by simp[mL,kz,pQ])
 show acv (tk0:=t0) (tk1:=t1) (tk2:=t2) (S0:=(rr,mL 2 t0 t1 t2)::S0) hh B I gH bK hl tR hm afr (λy hy=>bW _ (yT y hy)) hn (cR ..)
  ((p7.sub ?_).less (km.rf bF bF)) λs8 hm8 p8=>?_
 .intro y hy;show bc (bY.mp hy) (λq=>bW _ (dc _ q)) λq=>bc (bq.mp q) (λe=>by rw[e];show cR ..) λe=>bW _ (ew _ e)
 show p8.ite (x:=ab) (o7.to (mA .ne (ar 75 Z) (Jv (p8.base B) I (gH.ext p8.ext) bK (p8.Hm (λy hy=>ew _ (bW _ (yT y hy))) hn) Z (ar 71 Z) Z)) (by rw[PC];simp[gU])) λs9 p9=>ff<|ff<|k s9 _ hm8<|p9.sub λy hy=>bc (bY.mp hy) (λq=>dc _ q) λq=>ew _ (bW _ q)
end
def ClB(Γ:Ctx):Prop:=∀x∈Γ.below,oi x.1=N
inductive afs(aZ:af->af->Prop)(F:Nat->aa->af->af->Prop)(fp:List ae)(n:Nat)(aK:af)(Rec:af->iV->aI Fin->List Frame->af->Prop):End->af->Prop
 |mk {Y:af} (v:aa) (g:Bool) (l:List aa) (k:Resume->aI Fin) (c':iV) (p':cB) (fs':List Frame) (hq:(End.susp v g l k c' p' fs').quiet=N) (hd:aZ aK Y) (hf:F n v aK Y)
  (hk:∀nJ:af,(∀b∈fp,∀o,Y.heap.get? b=O o->nJ.heap.get? b=O o)->Rec nJ c' (k (yE ax)) fs' nJ):afs aZ F fp n aK Rec (End.susp v g l k c' p' fs') Y
def Oc(A:b9)(aZ:af->af->Prop)(F:Nat->aa->af->af->Prop)(fp:List ae)(aN:xU)(gn:xQ):Nat->af->iV->aI Fin->List Frame->af->Prop
 | 0=>λaK c t fs s=>Seg (aE prog w) A aN gn 0 aK c t fs s
 |n+1=>λaK c t fs s=>∀Γ p,Γ.code=c->Γ.Woken A->ClB Γ->∃e Y,Runs (aE prog w) Γ p t fs s e Y/\afs aZ F fp n aK (Oc A aZ F fp aN gn n) e Y
section
variable{F:Nat->aa->af->af->Prop}{aN:xU}{gn:xQ}{c:iV}
theorem ClB.over{Γ:Ctx}(h:ClB Γ)(hc:oi Γ.code=N):Cl (Γ.over []):=⟨hc,h⟩
theorem Hn{m:aI α}{bj:α->aI Fin}{cA:aa->aI Fin}(hc:oi c=N)(h:C (A.over c []) m s (λa Y=>Oc A aZ F fp aN gn (n+1) aK c (bj a) [] Y)):Oc A aZ F fp aN gn (n+1) aK c (m.wrap bj cA gd lv) [] s:=by rintro Γ p rfl wa jy;show runs_wrap_of_wp (Φ:=afs aZ F fp n aK (Oc A aZ F fp aN gn n)) bj cA gd lv m (@h (Γ.over []) p (wa.over []) (jy.over hc)) (λa p' Y h'=>h' Γ p' Z wa jy) (λ_ _ _ f=>f.elim)
theorem iA{m:aI α}{bj:α->aI β}{K':β->aI Fin}{H':aa->aI Fin}(hc:oi c=N)(h:C (A.over c []) m s (λa Y=>Oc A aZ F fp aN gn (n+1) aK c ((bj a).wrap K' H' gd lv) [] Y)):Oc A aZ F fp aN gn (n+1) aK c ((m>>=bj).wrap K' H' gd lv) [] s:=by rw[Ma,tF];show Hn hc h
theorem CU{c':iV}(hq:c'.quiet=N)(h:Oc A aZ F fp aN gn n aK c' ((aE prog w).den c') [] s):Oc A aZ F fp aN gn n aK c (Sem.pure (yB c')) [] s:=by
 cases n with
 |zero=>show seg_again hq h
 |succ n=>rintro Γ p rfl wa jy;show eS (h (Γ.goto c') p Z (wa.goto c') jy) λe nJ hr q=>kH e nJ (Runs.head (c₁:=c') (λ_ _ x=>Runs.again hq x) hr) q
theorem YN{g:Bool}{l:List aa}{k:Resume->aI Fin}(hg:g=ab)(hd:aZ aK s)(hf:F n v aK s)(h:∀nJ:af,(∀b∈fp,∀o,s.heap.get? b=O o->nJ.heap.get? b=O o)->Oc A aZ F fp aN gn n nJ c (k (yE ax)) [] nJ):Oc A aZ F fp aN gn (n+1) aK c (Sem.yield v g l k) [] s:=by rintro Γ p rfl _ _;show⟨_,s,Runs.yield' [] rfl,v,g,l,k,_,p,[],by subst hg;rfl,hd,hf,h⟩
theorem aft{k:Unit->aI Fin}(hc:oi c=N)(h:Oc A aZ F fp aN gn (n+1) aK c (k ()) [] s):Oc A aZ F fp aN gn (n+1) aK c (Sem.at p' k) [] s:=
 Hn (m:=mV p') (bj:=k) (cA:=Mc) (gd:=id) (lv:=id) hc (C.standAt h)
def Jz(A:b9)(aZ:af->af->Prop)(F:Nat->aa->af->af->Prop)(fp:List ae)(aN:xU)(gn:xQ)(n:Nat)(gs:eT)(s:af):Prop:=
 match gs with
 |LF c=>Oc A aZ F fp aN gn n s c ((aE prog w).den c) [] s
 |GenState.suspended k _ c _ fs _=>Oc A aZ F fp aN gn n s c (k (yE ax)) fs s
 |_=>False
theorem RP{gs:eT}(h:Jz A aZ F fp aN gn 0 gs s):gs.Goes (aE prog w) A aN gn 0 (yE ax) s:=by
 cases gs with
 |fresh c=>show⟨rfl,h⟩
 |suspended=>show h
 |_=>show h.elim
theorem ClB.wake{Γ:Ctx}(h:Cl Γ)(c:iV)(p:cB):ClB (Γ.wake c p):=λx E=>by
 rcases bq.mp E with rfl|E
 .show h.1
 .show h.2 x E
theorem YO{gs:eT}{l:List aa}{k:GenResult->aI α}{Q:α->af->Prop}(hg:s.gens[g]? =O gs)(PD:Jz A aZ F fp aN gn (n+1) gs (s.setGen g nk))(hY:∀v aD Xc,Xc.bare=N->aZ (s.setGen g nk) aD->F n v (s.setGen g nk) aD->(∀nJ:af,(∀b∈fp,∀o,aD.heap.get? b=O o->nJ.heap.get? b=O o)->Jz A aZ F fp aN gn n Xc nJ)->
 C A (k (GenResult.yielded v)) (aD.setGen g Xc) Q):C A (Sem.resume g (yE ax) l k) s Q:=by
 intro Γ p wa jy;cases gs with
 |fresh c=>show eS (PD (Γ.wake c p) p Z (wa.wake c p) (ClB.wake jy c p)) λ_ aD hr q=>?_;obtain⟨v,alD,akj,akk,c₀,ahD,ahE,hq,hd,hf,hk⟩:=q;show kH _ _ (by delta Wakes;show hg.symm▸?_;show⟨_,aD,hr,hq,rfl,rfl⟩) (hY v aD _ (VV hq) hd hf hk wa jy)
 |suspended akk akj c₀ ahD ahE cl=>show eS (PD (Γ.wake c₀ p) ahD Z (wa.wake c₀ p) (ClB.wake jy c₀ p)) λ_ aD hr q=>?_;obtain⟨v,alE,l₁,k₁,c₁,alF,alw,hq,hd,hf,hk⟩:=q;show kH _ _ (by delta Wakes;show hg.symm▸?_;show⟨_,aD,hr,hq,rfl,rfl⟩) (hY v aD _ (VV hq) hd hf hk wa jy)
 |running=>show PD.elim
 |finished=>show PD.elim
end
section
variable{F:Nat->aa->af->af->Prop}{aN:xU}{gn:xQ}
theorem ahF{gs:eT}{Q:Option aa->af->Prop}(hl:s.heap.NoLimit)(bK:A.depth<mT)(hg:s.heap.IsGen a g)(QN:s.gens[g]? =O gs)(PD:Jz A.in1 aZ F fp aN gn (n+1) gs (s.setGen g nk))(hY:∀v aD Xc,Xc.bare=N->aZ (s.setGen g nk) aD->F n v (s.setGen g nk) aD->(∀nJ:af,(∀b∈fp,∀o,aD.heap.get? b=O o->nJ.heap.get? b=O o)->Jz A.in1 aZ F fp aN gn n Xc nJ)->
 Q (O v) (aD.setGen g Xc)):C A (xI (R a) "__next__") s Q:=by
 show vR hg.typeIs slot_gen_next (oj hg.typeIs slot_gen_next entry_gen_next (args_gen_next _) Z ?_);change C A.in1 (abr (R a) (yE ax)) s _;show C.bind<|C.holding<|Lake.T.wR (v₀:=g) (aK:=s) (wpAny_genNumber hg ⟨rfl,rfl⟩)<|C.bind (Lake.T.wR (v₀:=gs.status) (aK:=s) (wpAny_genState QN ⟨rfl,rfl⟩) ?_);cases gs with
 |running=>show PD.elim
 |finished=>show PD.elim
 |_=>show C.bind<|Lake.T.wR (v₀:=()) (aK:=s) (wpAny_roomToWake hl bK ⟨rfl,rfl⟩)<|YO QN PD λv aD Xc D hd hf hk=>(C.pure (cn v Z (hY v aD Xc D hd hf hk)))
end
def GD(aS:ae)(wr:List ae)(aK s:af):Prop:=GenSince aS wr aK s/\∀b o,aK.heap.get? b=O o->∃o',s.heap.get? b=O o'
def GF(o:bE)(v:aa)(aK s:af):Prop:=∃r,v=R r/\aK.heap.get? r=ai/\s.heap.get? r=O o
noncomputable def GR(aS:ae)(wr:List ae):xU:=λn aK r aD=>r=bX cL/\(n=0/\GenSince aS wr aK aD)
noncomputable def GY(aS:ae)(fp wr:List ae):xQ:=genProto aS fp wr (λ_=>N) 0 (λ_ _=>False)
theorem GD.refl(aS:ae)(wr:List ae)(s:af):GD aS wr s s:=⟨GenSince.refl _ _ _,λ_ o e=>⟨o,e⟩⟩
theorem GD.step(x:GD aS wr aK s)(hk:∀b o,b≠aS->b∉wr->s.heap.get? b=O o->h'.get? b=O o)(he:∀b o,s.heap.get? b=O o->∃o',h'.get? b=O o'):
 GD aS wr aK {s with heap:=h',toks:=tk}:=⟨x.1.step hk,λb o e=>dG (x.2 b o e) λo' e'=>he b o' e'⟩
noncomputable abbrev zy:=Nat->aa->af->af->Prop
def zy.Back(F:zy):Prop:=∀i v aK s Y,(∀b o,aK.heap.get? b=O o->∃o',s.heap.get? b=O o')->F i v s Y->F i v aK Y
noncomputable def GFo(o:bE):zy:=λ_=>GF o
theorem GFo.back(o:bE):zy.Back (GFo o):=by
 show λ_ _ aK s Y h q=>gI q λr e1 e2 e3=>?_;show kF r e1 ?_ e3;cases q:aK.heap.get? r with
 |none=>rfl
 |some o'=>show dG (h r o' q) λo2 q2=>?_;have q2:=e2.symm.trans q2;ext
def zy.DF(F:zy):Prop:=∀(i:Nat) (v:aa) (aK s Y nJ:af),aK.heap=s.heap->Y.heap=nJ.heap->F i v s Y->F i v aK nJ
noncomputable def Fup(n₀:Nat)(F:zy):zy:=λn=>F (n₀ - 1 - n)
def acx(cenv:cJ)(x:aV)(elt:aG)(fp wr:List ae)(P:Nat->aa->Prop)(F:zy)(DY:aO):Prop:=
 ∀(A':b9) i v (aQ:af) m₂,dh A'->P i v->aQ.heap.Ns cenv.locals m₂->m₂ x=O v->(∀b∈fp,b∉wr->∀o,DY.get? b=O o->aQ.heap.get? b=O o)->
  C A' (a7 elt cenv) aQ (λy dg=>F i y aQ dg/\Keeps aQ dg)
theorem YP{P:Nat->aa->Prop}(W:mW prog w A I fp wr n P St):mW prog w A I fp wr 0 (λ_ _=>False) (λi h=>St (n+i) h) where
 sub:=W.sub
 frame:=λi=>W.frame (n+i)
 item:=λ_ _ _ _ h=>absurd h (rH _)
 done:=W.done
 self:=λi=>W.self (n+i)
theorem Ϛ{x:aV}{P:Nat->aa->Prop}{F:zy}(hFb:F.Back)(hh:dh A)(bo:∀A':b9,dh A'->mW prog w A' I fp wr n₀ P Ja)(hwe:∀i h,Ja i h->∀b∈wr,∃o,h.get? b=O o)(DY:aO)(E:cenv.kindOf x=O cU)(hp:(cenv.scope.kind==UO ||(cenv.scope.kind==qu && cenv.locals != cenv.globals))=ab)(Du:cenv.scope.isCoroutine=ab)(Wx:cenv.locals∉fp)(hq:acx cenv x elt fp wr P F DY):
 ∀(k i:Nat) (aK s:af) (m:aV->Option aa),n₀ - i=k->i<=n₀->Ja i s.heap->s.heap.Ns cenv.locals m->GD cenv.locals wr aK s->
  (∀b∈fp,b∉wr->∀o,DY.get? b=O o->s.heap.get? b=O o)->
  Oc A (GD cenv.locals wr) (Fup n₀ F) (cenv.locals::fp) (GR cenv.locals wr) (GY cenv.locals fp wr) k aK
   (hx (lL elt [⟨aq x px,iter,[],0⟩] scope pos) 0 (R I) ax cenv)
   ((aE prog w).den (hx (lL elt [⟨aq x px,iter,[],0⟩] scope pos) 0 (R I) ax cenv)) [] s:=by
 intro k;induction k with
 |zero=>
  intro i aK s m hk hi dH hn CV ZS;have Gq:i=n₀:=by lia
  subst Gq;show seg_genLoop hh (λA' h'=>YP (bo A' h')) (λ_=>N) (λ_ _=>False) DY E hp Du Wx ⟨λ_ _ _ _ _ _ _ f=>f.elim,λ_ _ _ _ _ _ _ f=>f.elim⟩ 0 0 aK s m Z (ey _) dH hn CV.1 ZS
 |succ k ih=>
  intro i aK s m hk hi dH hn CV ZS;have jx:i<n₀:=by lia
  have hh':(A.over (hx (lL elt [⟨aq x px,iter,[],0⟩] scope pos) 0 (R I) ax cenv) []).handled=ai:=hh;change Oc A _ _ _ _ _ (k+1) aK _ ((u4 (lL elt [⟨aq x px,iter,[],0⟩] scope pos) 0 (R I) ax cenv).onRaise (kV cenv)) [] s;rw[compTurn_gen,FE];show iA Z<|C.standAt<|iA Z<|cS<|(bo _ hh').item i s _ _ jx dH λv U ϛ hPv xa DG=>iA Z<|C.eq (rfl:jC (aq x px) (R I) v=pure ())<|iA Z (cS (jB (sG E (hn.at' λo e=>DG _ o (λh=>Wx ((bo A hh).sub _ h)) e) (λko Ϝ xd=>?_) hp)));have ϝ:=λb o hbC hbw e=>xd.extBut b o hbC (DG b o hbw e);have aep:∀b o,s.heap.get? b=O o->∃o',ko.get? b=O o':=λb o e=>by
   show if q:b=cenv.locals then q▸fc Ϝ λo' _ _ e' _=>⟨o',e'⟩ else ?_
   show if q2:b∈wr then dG (hwe _ _ xa b q2) λo' e'=>⟨o',xd.extBut b o' q e'⟩ else⟨o,ϝ b o q q2 e⟩
  have Ϟ:=λb D hbw o e=>ϝ b o (λh=>Wx (h▸D)) hbw (ZS b D hbw o e);show iA Z (C.pure ?_);simp only[if_true,(λv=>by simp only[yieldOut,Du,UP,if_false]:∀v,yieldOut cenv v=yieldValue v)];rw[Ma,Ma,tF,tF];show Hn Z<|(hq _ i v _ _ hh' hPv Ϝ (if_pos Z) Ϟ).mono λy fB Gv=>og λgG kG=>FW Gv λhFy Gv alx dX PE=>kG ?_;clear kG gG;subst dX;show aft Z (YN Z (CV.step (λb o hbC hbw e=>PE b o (ϝ b o hbC hbw e)) (λb o e=>dG (aep b o e) λo' e'=>⟨o',PE b o' e'⟩)) ?_ λnJ DD=>?_)
  .change F (n₀ - 1 - k) y aK _;rw[(by lia:n₀ - 1 - k=i)];show hFb i y aK _ _ (λb o e=>dG (CV.2 b o e) λo2 q2=>aep b o2 q2) hFy
  show CU Z (ih (i+1) nJ nJ _ au jx ((bo A hh).frame _ _ _ ((bo A hh).frame _ _ _ xa λb D o e=>xd.extBut b o (λh=>Wx (h▸D)) e) λb D o e=>DD b (bU _ D) o (PE b o e))
   ((Ϝ.keeps PE).at' λo e=>DD _ (ez ..) o e) (GD.refl _ _ _) λb D hbw o e=>DD b (bU _ D) o (PE b o (Ϟ b D hbw o e)))
theorem YQ{x:aV}{P:Nat->aa->Prop}{F:zy}(hFb:F.Back)(hh:dh A)(bo:∀A':b9,dh A'->mW prog w A' I fp wr (n₀+1) P Ja)(hwe:∀i h,Ja i h->∀b∈wr,∃o,h.get? b=O o)(DY:aO)(E:cenv.kindOf x=O cU)(hp:(cenv.scope.kind==UO ||(cenv.scope.kind==qu && cenv.locals != cenv.globals))=ab)(Du:cenv.scope.isCoroutine=ab)(Wx:cenv.locals∉fp)(hq:acx cenv x elt fp wr P F DY)(aK s:af)(m:aV->Option aa)(dH:Ja 0 s.heap)(hn:s.heap.Ns cenv.locals m)(CV:GD cenv.locals wr aK s)(ZS:∀b∈fp,b∉wr->∀o,DY.get? b=O o->s.heap.get? b=O o):
 Oc A (GD cenv.locals wr) (Fup (n₀+1) F) (cenv.locals::fp) (GR cenv.locals wr) (GY cenv.locals fp wr) (n₀+1) aK
  (oT (lL elt [⟨aq x px,iter,[],0⟩] scope pos) 0 (R I) ax cenv)
  ((aE prog w).den (oT (lL elt [⟨aq x px,iter,[],0⟩] scope pos) 0 (R I) ax cenv)) [] s:=by
 have hh':(A.over (oT (lL elt [⟨aq x px,iter,[],0⟩] scope pos) 0 (R I) ax cenv) []).handled=ai:=hh;have loop:=Ϛ (iter:=iter) (px:=px) (scope:=scope) (pos:=pos) hFb hh bo hwe DY E hp Du Wx hq (n₀+1) 0 aK s m (Nat.sub_zero _) (fk _) dH hn CV ZS;change Oc A _ _ _ _ _ (n₀+1) aK _ ((compStart (lL elt [⟨aq x px,iter,[],0⟩] scope pos) 0 (R I) ax cenv).onRaise (kV cenv)) [] s;rw[FE];show iA Z (cS (TN ?_));split
 .show CU Z loop
 .show iA Z<|C.rule<|iA Z (C.standAt (iA Z (cS ((bo _ hh').self 0 s _ _ dH (CU Z loop)))))
structure lD(A:b9)(a:ae)(g:Nat)(aS:ae)(fp wr:List ae)(n₀:Nat)(F:zy)(j:Nat)(s:af):Prop where
 gen:s.heap.IsGen a g
 lim:s.heap.NoLimit
 there:∀b∈aS::fp,∃o,s.heap.get? b=O o
 go:∃gs,s.gens[g]? =O gs/\∀nJ:af,(∀b∈aS::fp,∀o,s.heap.get? b=O o->nJ.heap.get? b=O o)->
  Jz A.in1 (GD aS wr) (Fup n₀ F) (aS::fp) (GR aS wr) (GY aS fp wr) (n₀ - j) gs nJ
theorem lD.frame{F:zy}(x:lD A a g aS fp wr n₀ F j s)(xe:cH∈fp)(hk:∀b∈a::aS::fp,∀o,s.heap.get? b=O o->h'.get? b=O o):lD A a g aS fp wr n₀ F j {s with heap:=h',toks:=tk} where
 gen:=fc x.gen λo nm qn ho r=>Bl o nm qn (hk a (ez ..) o ho) r
 lim:=bg x.lim λmc wG ZT=>cn mc (wG.at' λo e=>hk cH (bU _ (bU _ xe)) o e) ZT
 there:=λb D=>dG (x.there b D) λo e=>⟨o,hk b (bU _ D) o e⟩
 go:=bg x.go λgs QN PD=>cn gs QN (λnJ DD=>PD nJ λb D o e=>DD b D o (hk b (bU _ D) o e))
def l8(g:Nat)(a b:Array eT):Prop:=(∀(i:Nat) (x:eT),i≠g->a[i]? =O x->b[i]? =O x)/\((∀x∈a,x.bare=N)->∀x∈b,x.bare=N)
theorem l8.refl(g:Nat)(a:Array eT):l8 g a a:=⟨λ_ _ _ e=>e,λh=>h⟩
theorem l8.trans{a b c:Array eT}(y:l8 g b c)(x:l8 g a b):l8 g a c:=⟨λi z hi e=>y.1 i z hi (x.1 i z hi e),λh=>y.2 (x.2 h)⟩
theorem l8.ofQ{a b:Array eT}(x:GenOnlyQ g a b):l8 g a b:=⟨λi z hi e=>by
 rcases x with rfl|⟨⟨_,h⟩,_⟩
 .show e
 .show (h i hi).symm▸e,λh=>x.bare h⟩
theorem l8.sk{a c:Array eT}{x:eT}(E:x.bare=N)(y:l8 a.size (a.push x) c):nY a c:=⟨λi z e=>by
 have hi:=(U7.mp e).1;show y.1 i z (fE hi) ?_;rw[LR,if_neg (fE hi)];show e,λh=>y.2 λz hz=>by
 rcases Array.mem_push.mp hz with q|q
 .show h z q
 .show q▸E⟩
theorem l8.new{a b c:Array eT}(x:nY a b)(y:l8 g b c)(hg:a.size<=g):nY a c:=⟨λi z e=>y.1 i z (fE (fj (U7.mp e).1 hg)) (x.1 i z e),λh=>y.2 (x.2 h)⟩
structure Tg(g:Nat)(X:List ae)(s Y:af):Prop where
 keep:∀b o,b∉X->s.heap.get? b=O o->Y.heap.get? b=O o
 os:Y.os=s.os
 drawn:Y.drawn=s.drawn
 gens:l8 g s.gens Y.gens
theorem Tg.refl(g:Nat)(X:List ae)(s:af):Tg g X s s:=⟨λ_ _ _ e=>e,rfl,rfl,.refl _ _⟩
theorem Tg.trans{gn:List ae}{a b c:af}(x:Tg g X a b)(y:Tg g gn b c)(h:∀d∈gn,d∈X\/a.heap.get? d=ai):Tg g X a c where
 keep:=λd o hd e=>y.keep d o (λq=>by
  rcases h d q with h|h
  .show hd h
  .have e:=h.symm.trans e;ext) (x.keep d o hd e)
 os:=y.os.trans x.os
 drawn:=y.drawn.trans x.drawn
 gens:=y.gens.trans x.gens
theorem Tg.heap(k:∀b o,b∉X->s.heap.get? b=O o->h'.get? b=O o):Tg g X s {s with heap:=h',toks:=tk}:=⟨k,rfl,rfl,.refl _ _⟩
theorem ϟ(m:Moved X (GenOnlyQ g) s Y):Tg g X s Y:=⟨m.heap,m.os,m.drawn,.ofQ m.gens⟩
theorem lD.spc{F:zy}{Q:Option aa->af->Prop}(x:lD A a g aS fp wr n₀ F j s)(bK:A.depth<mT)(hj:j<n₀)(DH:a≠aS)(Od:a∉wr)(Oe:cH≠aS)(Of:cH∉wr)(hF:F.DF)(hQ:∀v Y,F j v s Y->lD A a g aS fp wr n₀ F (j+1) Y->Tg g (aS::wr) s Y->(∀b o,s.heap.get? b=O o->∃o',Y.heap.get? b=O o')->Q (O v) Y):C A (xI (R a) "__next__") s Q:=by
 obtain⟨hg,hl,hth,gs,QN,PD⟩:=x;obtain⟨m,hm⟩:∃m,n₀ - j=m+1:=⟨n₀ - j - 1,nj0 hj⟩;show ahF hl bK hg QN ((hm▸PD) _ λ_ _ _ e=>e) λv aD Xc D hd hf hk=>(og λgG kG=>?_);show eZ hd λi1 Ϡ=>eS i1 λU ϛ dX DG=>kG ?_;clear kG gG;subst dX;have hf:F (n₀ - 1 - m) v _ _:=hf;rw[(nj1 hm)]at hf;show hQ v _ (hF j v s (s.setGen g nk) {heap:=U,gens:=(s.setGen g nk).gens,drawn:=(s.setGen g nk).drawn,toks:=ϛ,os:=(s.setGen g nk).os} _ Z Z hf) ⟨fc hg λo nm qn ho r=>(Bl o nm qn (DG a o DH Od ho) r),(bg hl λmc wG ZT=>cn mc (wG.at' λo e=>DG cH o Oe Of e) ZT),λb D=>dG (hth b D) λo e=>Ϡ b o e,Xc,xK (xK QN),λnJ DD=>?_⟩
  ⟨λb o D e=>DG b o (λh=>D (h▸cR ..)) (λh=>D (bU _ h)) e,rfl,rfl,.ofQ (Wg ((FH s g nk).trans (FH _ g Xc)) (xK (xK QN)) D)⟩ Ϡ
 rw[(nj2 hm)];show hk nJ DD
theorem lD.next{F:zy}{Q:Option aa->af->Prop}(x:lD A a g aS fp wr n₀ F j s)(bK:A.depth<mT)(hj:j<n₀)(DH:a≠aS)(Od:a∉wr)(Oe:cH≠aS)(Of:cH∉wr)(hF:F.DF)(hQ:∀v Y,F j v s Y->lD A a g aS fp wr n₀ F (j+1) Y->Tg g (aS::wr) s Y->(∀b o,s.heap.get? b=O o->∃o',Y.heap.get? b=O o')->Q (O v) Y):C A (gY (R a)) s Q:=
 C.bind (C.attempt (x.spc bK hj DH Od Oe Of hF λv Y a b c d=>C.pure (hQ v Y a b c d)))
theorem lD.done{F:zy}{Q:Option aa->af->Prop}(x:lD A a g aS fp wr n₀ F n₀ s)(hh:dh A)(bK:A.depth<mT)(hQ:∀Y,Tg g (aS::wr) s Y->Q ai Y):aA (aE prog w) A (gY (R a)) Q aX s:=by obtain⟨hg,hl,hth,gs,QN,PD⟩:=x;rw[Lu]at PD;show wpAny_with_toks (ey s.toks)<|wpAny_pyNext_genexpQ hh hl bK hg QN (RP (PD _ λ_ _ _ e=>e)) (λv aD Xc D hv=>ie hv λi1 _ _=>bg i1 λ_ _ f=>f.elim)<|λaD hp h' hk=>FW hp λ_ U ϛ dX DG=>?_;subst dX;show λhtk=>hQ _ (ϟ ⟨λb o D e=>hk b o (DG b o (λh=>D (h▸cR ..)) (λh=>D (bU _ h)) e),Wg ((FH s g nk).trans (FH _ g GenState.finished)) (xK (xK QN)) Z,rfl,rfl,htk⟩)
theorem GFo.heap(o:bE):zy.DF (GFo o):=by show λ_ _ aK s Y nJ e1 e2 q=>gI q λr h1 h2 h3=>kF r h1 (e1▸h2) (e2▸h3)
def PF(o:bE)(sB:af)(X:List ae)(rs:List ae)(s:af):Prop:=
 (∀r∈rs,s.heap.get? r=O o/\r∉X/\sB.heap.get? r=ai)/\
 rs.Nodup
theorem IW{S:ae}{res:aa}(hh:dh A)(bK:A.depth<mT)(DH:a≠aS)(Od:a∉wr)(vQ:∀b∈wr,b∈fp)(xe:cH∈fp)(Oe:cH≠aS)(Of:cH∉wr)(hn:n₀<=1000)(ZU:S∉a::aS::fp)(hXf:∀b∈X,b∈a::aS::fp)(nQ:∀b∈S::aS::wr,b∈X\/sB.heap.get? b=ai):
 ∀(k j:Nat) (s:af) (c:Nat) (jP:Array aa) (rs:List ae),n₀ - j=k->j<=n₀->lD A.in1 a g aS fp wr n₀ (GFo o) j s->s.heap.get? S=O {cls:=ao "list",dict:=ai,data:=bQ jP c,slots:=#[]}->jP=(rs.map R).toArray->rs.length=j->
  PF o sB (S::a::aS::fp) rs s->Tg g X sB s->
  (∀Y c' rs',Tg g X sB Y->rs'.length=n₀->PF o sB (S::a::aS::fp) rs' Y->Y.heap.get? S=O {cls:=ao "list",dict:=ai,data:=bQ (rs'.map R).toArray c',slots:=#[]}->aN (bX (cG res)) Y)->
  CC A (fG "list.extend.loop" ⟨[R S,R a,res],[]⟩) s aN:=by
 have ahG:S∉aS::wr:=hb (λh=>ZU bz) (λh=>ZU (by simp[vQ _ h]));have rm:A.in1.depth<mT:=bK;intro k;induction k with
 |zero=>
  intro j s c jP rs hk hj hg hS ow hl hr ht hR;have Gq:j=n₀:=by lia
  subst Gq;show jO Vy Z<|C.bind<|cS<|hg.done hh rm λY m=>C.pure (hR Y c rs (ht.trans m λd hd=>nQ d (bW _ hd)) hl ⟨λr ϙ=>?_,hr.2⟩ (ow▸m.keep S _ ahG hS));show ie (hr.1 r ϙ) λq1 q2 q3=>((gT (m.keep r o (λh=>q2 ?_) q1) q2 q3));rcases bq.mp h with e|e
  .ext
  .simp [vQ _ e]
 |succ k ih=>
  intro j s c jP rs hk hj hg hS ow hl hr ht hR;have jx:j<n₀:=by lia
  show jO Vy Z<|C.bind<|hg.next rm jx DH Od Oe Of (GFo.heap o) λv Y qQ hg' m hth=>gI qQ λr ev hr0 hr1=>ev▸?_;have hS':=m.keep S _ ahG hS;have hrX:r∉S::a::aS::fp:=λh=>by
   rcases bq.mp h with e|h
   .have hr0:=hS▸e▸hr0;ext
   .rcases bq.mp h with e|h
    .show fc hg.gen λo' _ _ e' _=>?_;have hr0:=e'▸e▸hr0;ext
    .show dG (hg.there r h) λo' e'=>?_;have hr0:=e'▸hr0;ext
  show C.bind (cS (uT hS' Z (C.pure ⟨lI Fq _,ih (j+1) _ _ (jP.push (R r)) (rs++[r]) au jx (hg'.frame (tk:=Y.toks) xe λb D o e=>?_) (gQ _ hS' Z) (by rw[ow];simp) (by simp[hl]) ⟨λr' hr'=>?_,?_⟩ ?_ hR⟩)
   (by have:fg=16777216:=jU;subst ow;simp;lia) (by have:fg=16777216:=jU;subst ow;simp;lia)))
  .show (mn _ _ (λh:S=b=>ZU (h▸D))).trans e
  .rcases bY.mp hr' with h|h
   .show ie (hr.1 r' h) λq1 q2 q3=>((gT ((mn _ _ (λe:S=r'=>q2 (by simp[e]))).trans (m.keep r' o (λh=>q2 ?_) q1)) q2 q3));rcases bq.mp h with e|e
    .ext
    .simp [vQ _ e]
   .simp at h;subst h;show gT ((mn _ _ (λe=>hrX (by simp[e]))).trans hr1) hrX ?_;cases q:sB.heap.get? r' with|none=>rfl|some o'=>have hr0:=(ht.keep r' o' (λh=>hrX (bW _ (hXf _ h))) q).symm.trans hr0;ext
  .show qk.mpr ⟨hr.2,by simp,λx E y hy e=>?_⟩;simp at hy;subst hy e;have hr0:=((hr.1 _ E).1).symm.trans hr0;ext
  .show (ht.trans m λd hd=>nQ d (bW _ hd)).trans (Tg.heap (X:=[S]) (s:=Y) (tk:=Y.toks) λb o D e=>(mn _ _ (λe:S=b=>D (bI.mpr (id (mr e))))).trans e) λd hd=>?_;simp at hd;show nQ d bz
theorem Ho{Q:List aa->af->Prop}(hh:dh A)(bK:A.depth<mT)(DH:a≠aS)(Od:a∉wr)(vQ:∀b∈wr,b∈fp)(xe:cH∈fp)(Oe:cH≠aS)(Of:cH∉wr)(hn:n₀<=1000)(hXf:∀b∈X,b∈a::aS::fp)(nQ:∀b∈aS::wr,b∈X\/sB.heap.get? b=ai)(ht:Tg g X sB s)(hg:lD A.in1 a g aS fp wr n₀ (GFo o) 0 s)(hq:∀Y rs,Tg g X sB Y->rs.length=n₀->PF o sB (a::aS::fp) rs Y->Q (rs.map R) Y):C A (collect (R a)) s Q:=by
 have ZU:s.heap.objs.size∉a::aS::fp:=λhm=>by have:∃o,s.heap.get? s.heap.objs.size=O o:=bc (bq.mp hm) (λe=>fc hg.gen λo' _ _ e' _=>⟨o',by rw[e];show e'⟩) λhm=>hg.there _ hm;show dG this λo' e=>(absurd (cj e) (gy _))
 have hSI:s.heap.objs.size≠a:=λe=>ZU bz;have hSB:sB.heap.get? s.heap.objs.size=ai:=by
  cases q:sB.heap.get? s.heap.objs.size with
  |none=>rfl
  |some o'=>show absurd (cj (ht.keep _ _ (λh=>ZU (hXf _ h)) q)) (gy _)
 show C.bind<|C.runValue<|jO LX Z<|C.bind<|cS<|ij<|C.pure ⟨lI LZ _,jO Ft Z ?_⟩;have Xd:=hg.frame (h':=s.heap.push {cls:=ao "list",data:=bQ ([]:List aa).toArray}) (tk:=s.toks) xe λb _ o e=>a0 _ e;show(?_:C A.in1 (Vo (R s.heap.objs.size) (R a) (R s.heap.objs.size)) _ _);show C.bind (cS (oB Xd.gen.typeIs ?_));have h1:yy (R s.heap.objs.size) (R a)=ab:=by simp[yy,hSI]
 show ee (by rw[h1];decide)<|C.bind<|cS<|Ee Xd.gen<|C.bind<|C.holding<|C.bind<|cS<|eN Xd.gen.typeIs PySem.F.gen_no_len<|C.bind<|cS<|eN Xd.gen.typeIs PySem.F.gen_no_hint<|C.pure<|(?_:C A.in1 (sR "list.extend.makes-room" >>=λ_=>Vq (R s.heap.objs.size)>>=λ_=>
  again (fG "list.extend.loop" ⟨[R s.heap.objs.size,R a,R s.heap.objs.size],[]⟩)) _ _)
 show C.bind<|C.rule<|have PG:(s.heap.push {cls:=ao "list",data:=bQ ([]:List aa).toArray}).get? s.heap.objs.size=O {cls:=ao "list",data:=bQ ([]:List aa).toArray}:=bJ _ Z;C.bind<|cS<|ah<|uT PG Z<|have He:=gQ (dO (·.push ax)) PG Z;uT He Z ?_;have YR:∀b o,b≠s.heap.objs.size->(s.heap.push {cls:=ao "list",data:=bQ ([]:List aa).toArray}).get? b=O o->
  (((s.heap.push {cls:=ao "list",data:=bQ ([]:List aa).toArray}).update s.heap.objs.size (dO (·.push ax))).update s.heap.objs.size (dO (·.pop))).get? b=O o:=
  λb o D e=>(mn _ _ (eQ D)).trans ((mn _ _ (eQ D)).trans e)
 show C.pure ⟨lI Fq _,IW (sB:=sB) (rs:=[]) hh bK DH Od vQ xe Oe Of hn ZU hXf (λb D=>?_) n₀ 0 _ _ _ Z (fk _)
  ((hg.frame (tk:=s.toks) xe λb D o e=>YR b o (λh=>ZU (h▸D)) (a0 _ e))) (gQ (dO (·.pop)) He Z) Z Z ⟨λr hr=>(kI hr),by simp⟩ ?_ λY c' rs m hl hr hS'=>?_⟩
 .rcases bq.mp D with e|e
  .rw [e];show aw hSB
  .show nQ b e
 .show ht.trans (Tg.heap (X:=[]) (s:=s) (tk:=s.toks) λb o _ e=>YR b o (fE (cj e)) (a0 _ e)) zk
 show C.bind (cS (jo hS' (C.pure ?_)));have:=hq Y rs m hl ⟨λr ϙ=>ie (hr.1 r ϙ) λx y z=>(gT x (λh=>y (bW _ h)) z),hr.2⟩;lia
theorem CW(hh:dh A)(bK:A.depth<mT)(DH:a≠aS)(Od:a∉wr)(vQ:∀b∈wr,b∈fp)(xe:cH∈fp)(Oe:cH≠aS)(Of:cH∉wr)(hn:n₀<=1000)(hXf:∀b∈X,b∈a::aS::fp)(nQ:∀b∈aS::wr,b∈X\/sB.heap.get? b=ai)(ht:Tg g X sB s)(hg:lD A.in1.in1 a g aS fp wr n₀ (GFo o) 0 s)(hq:∀Y rs,Tg g X sB Y->rs.length=n₀->PF o sB (a::aS::fp) rs Y->Q (R Y.heap.objs.size) {Y with heap:=Y.heap.push {cls:=ao "tuple",data:=bQ (rs.map R).toArray}}):
 C A (call (bB "tuple.__new__") [ao "tuple",R a]) s Q:=by
 show C.call<|wW VB VC Z<|C.eq (PySem.F.newCall_tuple_1 _)<|have aly:=sub_tuple_self;C.bind<|C.eq (rfl)<|ee aL<|C.bind<|C.pure<|C.bind<|C.eq madeHere_tuple<|C.bind<|C.eq init_tuple_lookup<| ?_;show ?_;show C.bind (m:=abp (R a)) (T.wR (v₀:=ab) (aK:=s) ?_ ?_)
 .show ah (oB hg.gen.typeIs (aB ⟨rfl,rfl⟩))
 show ee aL<|C.bind<|Ho hh bK DH Od vQ xe Oe Of hn hXf nQ ht hg λY rs m hl hr=>C.bind<|C.pure<|lB (ij ?_ (by change(rs.map R).toArray.size<=fg;have e1:=jU;simp;lia));show C.pure (hq Y rs m hl hr)
theorem Ni(hh:dh A)(bK:A.depth<mT)(DH:a≠aS)(Od:a∉wr)(vQ:∀b∈wr,b∈fp)(xe:cH∈fp)(Oe:cH≠aS)(Of:cH∉wr)(hn:n₀<=1000)(hXf:∀b∈X,b∈a::aS::fp)(nQ:∀b∈aS::wr,b∈X\/sB.heap.get? b=ai)(ht:Tg g X sB s)(hg:lD A.in1.in1.in1 a g aS fp wr n₀ (GFo o) 0 s)(hq:∀Y rs,Tg g X sB Y->rs.length=n₀->PF o sB (a::aS::fp) rs Y->Q (R Y.heap.objs.size) {Y with heap:=Y.heap.push {cls:=ao "tuple",data:=bQ (rs.map R).toArray}}):
 C A (call (ao "tuple") [R a]) s Q:=by
 show BY L6 (PySem.F.typeCall_tuple_1 _) PySem.F.entry_object_init (λ_=>rfl)
  <|CW hh bK DH Od vQ xe Oe Of hn hXf nQ ht hg λY rs m hl hr=>have hT:(Shared.TypeIs {Y with heap:=Y.heap.push {cls:=ao "tuple",data:=bQ (rs.map R).toArray}} (R Y.heap.objs.size) "tuple"):=cn _ (bJ _ Z) Z;gT hT (PySem.F.args_object_init_2 _ _)<|have:=(object_init_meets (rest:=[R a]) L6.init.lookup L6.made (rfl) prog w A.in1) (λr aQ=>r=bX (cG ax)/\aQ={Y with heap:=Y.heap.push {cls:=ao "tuple",data:=bQ (rs.map R).toArray}}) _ (gT hT Z Z);T.wo (P:=Pa A.in1 (λr aQ=>r=bX (cG ax)/\aQ={Y with heap:=Y.heap.push {cls:=ao "tuple",data:=bQ (rs.map R).toArray}})) (ir this (λza s2 h2=>?_) λe s2 h2=>by cases h2.1) λza s2 h2=>?_
 .cases za with
  |done f=>show h2
  |again c=>show⟨h2.1,Ru h2.2⟩
 .cases za with
  |done f=>show eZ h2 λe1 e2=>e2▸⟨e1,hq Y rs m hl hr⟩
  |again c=>show⟨h2.1,h2.2.mono λr s3 qQ=>eZ qQ λe1 e2=>⟨e1,by rw[e2];show hq Y rs m hl hr⟩⟩
protected theorem ER.gen{K:LN}{ks:List Int}(c:ed L scope fs K)(r:ER H U L J h G)(x:hJ H h h')(jy:∀y∈fs,cl.lookup (NM y)=J.cells.lookup (NM y))(n:h'.Ns aS m)(hC:aS∉bV)(hl:K.length=ks.length)(hm:∀(j:Nat) x k,K[j]? =O x->ks[j]? =O k->∃t,m (NM x)=O (ag k t)):ER H U scope (genEnv scope cl aS code gb J) h' (putAll (lA G fs) K ks) where
 base:=r.base.trans x
 kind:=c.kind
 gl:=λ_ hy=>hy
 Wm:=λ_ hy=>hy
 glob:=r.glob
 bi:=rfl
 loc:=hC
 has:=r.ag2 c x jy (λy h=>aw (c.frees y h).1) n c.locs hl hm
theorem PH{c P:ae}(hc:c∉bV)(oy:U.IsCode c P #[])(vH:U.TableAt c P #[])(hP:P∈bV)(pv:P∉H)(b0:hJ H U h):h.IsCode c P #[]/\h.TableAt c P #[]:=by show⟨FF oy (λ_=>b0.keep c _ hc) λ_=>b0.quiet P _ hP pv,?_⟩;obtain⟨⟨o,vs,t1,t2,t3,t4⟩,t5⟩:=vH;show⟨(Mt o vs (b0.keep c _ hc t1) t2 t3 t4),b0.quiet P _ hP pv t5⟩
theorem Xe{P:ae}{more:Array aa}(hP:P∈bV)(kr:P∈τ')(h1:h.get? P=O (tabObj #[]))(h2:h'.get? P=O (tabObj more))(E:KD P h h'):hJ τ' h h':=by
 show⟨λb o hb' e=>E b o (λq=>hb' (q▸hP)) e,λb hb' ps e=>?_,λb o e=>if ς:b=P then ς▸⟨_,h2⟩ else⟨o,E b o ς e⟩,λb o hb' hq' e=>E b o (λq=>hq' (q▸kr)) e⟩;show if ς:b=P then ?_ else⟨#[],by simpa using E b _ ς e⟩
 subst ς;have hps:ps=#[]:=by
  injection (aW (e▸h1)) with _ _ h3 _
  injection h3
 subst hps;show⟨more,by simpa using h2⟩
def B5(X:Prop)(elt ct iter:aG)(scope:du)(pos:cB)(J:cJ)(P:ae)(cl:List (aV×ae))(code:aa)(aS a:ae)(it:aa)(aQ ig:af):Prop:=
 X/\
 ig.os=aQ.os/\
 ig.drawn=aQ.drawn/\
 (∀b o,b≠P->aQ.heap.get? b=O o->ig.heap.get? b=O o)/\
 ig.heap.IsGen a aQ.gens.size/\
 ig.gens=aQ.gens.push (LF (oT (lL elt [⟨ct,iter,[],0⟩] scope pos) 0 it ax (genEnv scope cl aS code gb J)))/\
 ig.heap.Ns aS (λy=>if y= ".0" then O it else ai)/\
 aQ.heap.get? aS=ai/\
 aQ.heap.get? a=ai/\
 a≠aS/\
 aS∉bV/\
 a∉bV
theorem Xf{h3 h4:aO}{o2:bE}(hn:∀b o,h.get? b=O o->b<h3.objs.size)(top:QR<=h3.objs.size)(hs4:gx h3.objs.size (h3.push o2) h4):
 h.get? h3.objs.size=ai/\h.get? h4.objs.size=ai/\h4.objs.size≠h3.objs.size/\h3.objs.size∉bV/\h4.objs.size∉bV:=by
 have key:∀b,h3.objs.size<=b->h.get? b=ai:=λb D=>by
  cases q:h.get? b with
  |none=>rfl
  |some o=>show absurd (fj (hn b o q) D) (gy _)
 rw[(hs4.1.trans (dE ..):h4.objs.size=h3.objs.size+1)];show⟨key _ (ey _),key _ (lP _),yj _,fo top,fo (qo top)⟩
theorem JA{K:LN}{P:ae}(B:cx U mg mb)(c:ed L scope fs K)(hG:pW G fs=N)(h0:scope.names.lookup (".0" :aV)=O cU)(Du:scope.isCoroutine=ab)(bK:A.depth<1000)(pn:J.code=R cC)(OQ:cC∉bV)(oy:U.IsCode cC P #[])(vH:U.TableAt cC P #[])(hP:P∈bV)(pv:P∉H)(kr:P∈τ')(nS:∀b∈H,b∈τ')(r:ER H U L J s.heap G)(um:T A (a7 iter J) s (λx aD=>T A (gr x) aD (λit aQ=>dA H s aQ/\It it aQ)))(hs:∀x,genFold iter J x=pure x)(hq:∀it aQ cl code aS a ig,dA H s aQ->It it aQ->(∀y∈fs,cl.lookup (NM y)=J.cells.lookup (NM y))->B5 (hJ τ' aQ.heap ig.heap) elt ct iter scope pos J P cl code aS a it aQ ig->Q (R a) ig):
 T A (a7 (lL elt [⟨ct,iter,[],0⟩] scope pos) J) s Q:=by
 show bg (c.OA r hG) λcl jy wJ=>(Tf Du jy c.cell h0 c.kind (by assumption) (um.wp λxv aD h1=>h1.Cw λit aQ e2 hI=>⟨B.zo (r.base.trans e2.ext),?_⟩) hs);have b2:=r.base.trans e2.ext;show eZ (PH OQ oy vH hP pv b2) λakl aeq=>have top2:=jw B.top b2;wpAny_genexprCodeX pn akl aeq Z λc' h3 tk E hge jx _ Rj Yr _=>have x3:=Xe hP kr aeq.2 Yr.2 E;have b3:=(b2.up nS).trans x3;vt B.bmod λbm ob hbm Rg hbT Rh Ri GB BB=>(Ed (by rw[r.glob];show B.mg b3) hbm Rg (b3.keep bm _ hbT Rh) Ri GB BB ?_);intro h4 hn4 hs4;have x4:=λb o e=>hs4.extBut b o (fE (cj e)) (a0 _ e);have ahH:=a8 hge (gz jx);show hq it aQ cl _ h3.objs.size h4.objs.size _ e2 hI wJ ⟨x3.trans (.of_keep λb o e=>a0 _ (x4 b o e)),rfl,rfl,λb o D e=>a0 _ (x4 b o (E b o D e)),
  (DS _ _ _ (bJ _ Z) Z Z Z),rfl,hn4.push _,Xf (λb o e=>fj (cj e) ahH) (a8 top2 ahH) hs4⟩
def Xg(n:Nat)(P:Nat->aa->Prop)(s:af)(it:aa)(aQ:af):Prop:=
 ∃I St,it=R I/\(∀A':b9,dh A'->mW prog w A' I [I] [I] n P St)/\St 0 aQ.heap/\s.heap.get? I=ai/\(∀i h,St i h->kK h I)
section
theorem DI{a b c:Int}{t v:ba}(e:dA H s aD)(hr:qi aD.heap rr a b c t u v)(hs:vg a b c=N)(hn:lQ a b c=(n:Int)):T A (gr (R rr)) aD (λit aQ=>dA H s aQ/\Xg n (Gp (Dq a c n)) s it aQ):=by show Ao hr hs ⟨e.trans ⟨.push _ _,rfl,rfl,eW _⟩,?_⟩;show hn.symm▸⟨aD.heap.objs.size,_,rfl,λA' RQ=>vF (Mo RQ _ a c n) Z (λi v hi qQ=>dG qQ λt hv=>kH _ t (o9.mpr ⟨hi,rfl⟩) hv),?_,e.ext.new (bD _),λi h st=>(cn _ st (ak ⟨_,rfl,λx t e=>by simp[dD]at e⟩))⟩;rw[(by simp:(a+((0:Nat):Int) * c)=a),(by simp:((n:Int) - ((0:Nat):Int))=n)];show bJ _ Z
theorem YS(B:cx U mg mb)(I:dQ mg mb)(kM:Gi L "range")(he:V H U A L J G e (aT k) ab)(dH:cI e=ab)(hk:k<=100000)(r:ER H U L J s.heap G):
 T A (a7 (bx (aq (aC "range") np) [e] [] pos) J) s (λx aD=>T A (gr x) aD (λit aQ=>dA H s aQ/\Xg k (Gp (Dq 0 1 k)) s it aQ)):=by
 show mD ("range") ("range") B I aL kM (rfl) (fL.cons he fL.nil dH) (by simp[dW,dH]) r λvs aD F e1 V1=>?_;apply nO V1;show λt=>sJ (DI (e1.trans ⟨.push _ _,rfl,rfl,eW _⟩) (vo ..) (uZ au au au au) ?_);rw[uV];split<;>lia
noncomputable def JB(h:aO)(aS a:ae):List ae:=(aJ h.objs.size).filter λb=>(h.get? b).isSome && b != aS && b != a
theorem qc{b:ae}:b∈JB h aS a↔(∃o,h.get? b=O o)/\b≠aS/\b≠a:=by
 delta JB
 rw[gu,dm];constructor
 .rintro ⟨_,h⟩;simp at h;show gT (ym.mp h.1.1) h.1.2 h.2
 .show λou=>og λgG kG=>ie ou λi1 h2 h3=>dG i1 λo e=>kG ?_;clear kG gG;show⟨cj e,by simp[e,h2,h3]⟩
variable{P:ae}
theorem B5.later(g:B5 (hJ τ' aQ.heap ig.heap) elt ct iter scope pos J P cl code aS a it aQ ig)(x:hJ τ' s.heap aQ.heap)(hI:s.heap.get? I=ai)(hk:∀b∈JB ig.heap aS a,b∉[I]->∀o,ig.heap.get? b=O o->h'.get? b=O o):hJ τ' s.heap h':=by
 show dU g λg1 _ _ _ _ _ _ ϡ=>iZ ϡ λg8 g9 _ _ _=>?_;have x5:=x.trans g1;have key:=λb o o' e e5=>by
  show dG (x.there b o e) λo2 e2=>(hk b (qc.mpr ⟨⟨_,e5⟩,λq=>?_,λq=>?_⟩) (λq=>?_) o' e5)
  .have e2:=g8▸q▸e2;ext
  .have e2:=g9▸q▸e2;ext
  .simp at q;have e:=hI▸q▸e;ext
 show⟨λb o D e=>key b o _ e (x5.keep b o D e),λb D ps e=>dG (x5.tab b D ps e) λmore e5=>⟨more,key b _ _ e e5⟩,λb o e=>dG (x5.there b o e) λo' e5=>⟨o',key b o o' e e5⟩,λb o D ht e=>key b o _ e (x5.quiet b o D ht e)⟩
theorem lD.made{Pv:Nat->aa->Prop}{F:zy}(hFb:F.Back){X:Prop}(g:B5 X elt (aq (NM x) px) iter scope pos J P cl code aS a (R I) aQ ig)(hh:dh A)(hW:∀A':b9,dh A'->mW prog w A' I [I] [I] (n+1) Pv St)(dH:St 0 aQ.heap)(Xh:∀i h,St i h->∃o,h.get? I=O o)(hIP:I≠P)(hl:ig.heap.NoLimit)(hk:scope.kind=dZ)(E:scope.names.lookup (NM x)=O cU)(Du:scope.isCoroutine=ab)(hIf:I∈fp)(Wx:aS∉fp)(hfe:∀b∈fp,∃o,ig.heap.get? b=O o)(hel:acx (genEnv scope cl aS code gb J) (NM x) elt fp [I] Pv F ig.heap):
 lD A a aQ.gens.size aS fp [I] (n+1) F 0 ig:=by
 show dU g λ_ _ _ g4 g5 g6 g7 afu=>iZ afu λ_ _ _ _ _=>?_;have CD:=λA' h'=>(hW A' h').mono_fp λb D=>by apply jQ D;show hIf
 show⟨g5,hl,λb D=>bc (bq.mp D) (λe=>e▸fc g7 λo' _ _ e' _=>⟨o',e'⟩) λe=>hfe b e,LF _,by rw[g6];show Array.getElem?_push_size ..,λnJ DD=>?_⟩;show YQ (A:=A.in1) (cenv:=genEnv scope cl aS code gb J) hFb hh CD (λi h st b D=>by show bI.mp D▸?_;show Xh i h st) ig.heap E (by simp[genEnv,hk]) Du Wx hel nJ nJ _
  ((hW A hh).frame _ _ _ ((hW A hh).frame _ _ _ dH λb D o e=>g4 b o (bI.mp D▸hIP) e) λb D o e=>by cases bI.mp D;show DD _ (bU _ hIf) o e) (g7.at' λo e=>DD _ (ez ..) o e) (GD.refl _ _ _) λb D _ o e=>DD b (bU _ D) o e
end
def oq:cg:=dP 23
noncomputable def CX:LN:=bZ 13 2
def vS:List (LN):=bZ 13 CX
section
variable{Q:cb->af->Prop}
theorem PS.up(p:PS H U L J aK bo bw G S s)(nS:∀b∈H,b∈τ'):PS τ' U L J aK bo bw G S s:=⟨gI p.fr λW r a b=>(kF W (r.up nS) a b),p.sg,p.mod,p.lC⟩
def gq(U:aO):Prop:=∀b∈bV,∃o,U.get? b=O o
structure Ab(H:List ae)(s Y:af):Prop where
 ext:hJ H s.heap Y.heap
 os:Y.os=s.os
 drawn:Y.drawn=s.drawn
 gens:nY s.gens Y.gens
theorem dA.pe(x:dA H s Y):Ab H s Y:=⟨x.ext,x.os,x.drawn,.of x.gens⟩
theorem Ab.trans{a b c:af}(x:Ab H a b)(y:Ab H b c):Ab H a c:=⟨x.ext.trans y.ext,y.os.trans x.os,y.drawn.trans x.drawn,y.gens.trans x.gens⟩
theorem Ab.akm(W:List ae)(x:Ab H s Y):sF W s Y:=⟨x.ext.mod W,x.os,x.drawn,x.gens⟩
theorem PS.Xi(p:PS H U L J aK bo bw G S s)(x:Ab H s Y):PS H U L J aK bo bw G S Y:=gI p.fr λW r hW hd=>⟨(kF W (r.grow x.ext) hW hd),p.sg.ext x.ext,p.mod.trans (x.akm []) (λd hd=>kI hd),p.lC⟩
theorem PS.grown(p:PS H U L J aK bo bw G S s)(hT:gq U)(x:Ab H s Y)(h:∀y∈br,s.heap.get? y.1=ai/\Y.heap.get? y.1=O y.2/\Hi y.2=N):PS H U L J aK bo bw G (br++S) Y:=by
 have p':=p.Xi x;show gI p.fr λW r q1 q2=>?_;have nQ:∀y∈br,y.1∉W:=λy hy q=>by show oX (r.je _ q) λ_ _ o' e _=>?_;have e:=((h y hy).1).symm.trans e;ext
 have vH:∀y∈br,y.1∉bV:=λy hy q=>by show dG (hT _ q) λo e=>(dG (p.ext.there _ o e) λo' e'=>?_);have e':=((h y hy).1).symm.trans e';ext
 show⟨⟨W,r.grow x.ext,q1,λy hy=>by
  rcases bY.mp hy with e|e
  .show nQ y e
  .show q2 y e⟩,λy hy=>by
  rcases bY.mp hy with e|e
  .show ⟨(h y e).2.1,vH y e,(h y e).2.2,p.ext.new (h y e).1⟩
  .show p'.sg y e,p'.mod,λy hy=>by
  rcases bY.mp hy with e|e
  .show aw (p.mod.mod.new (h y e).1)
  .show p'.lC y e⟩
theorem afv(B:cx U mg mb)(I:dQ mg mb)(r:ER H U scope ZX aQ.heap Gx)(kM:Gi scope "bytearray")(E:ck Gx x=O (k,aY ns))(D:lY ns):
 C A (a7 (bx (aq (aC "bytearray") np) [aq (NM x) p2] [] pos) ZX) aQ (λy dg=>GF (kz ns) y aQ dg/\Keeps aQ dg):=by
 have hI:=I ("bytearray",ao "bytearray") aL;show fY<|Lake.T.wR (eG B r kM hI.1 hI.2 (rfl))<|de (rfl)<|eu<|cu<|Lake.T.wcV (vY r E) λv F aP=>c8 (iE ⟨rfl,?_⟩);apply fU aP;intro l vs n F' _ hl V' _;show uH ("list") n hl (ak Z) (intsAre_of V' (dS ns)) D.1 D.2 ⟨(kF _ Z (bD _) (bJ _ Z)),_,_,rfl,λb o e=>a0 _ e⟩
theorem Ϣ:∀rs:List ae,bA h (rs.map λr=>aH (R r)) (rs.map R) []:=by
 intro xX;induction xX with
 |nil=>show .nil
 |cons r rs iH=>show ej [] [] (.ip _) (iH)
theorem Hp:∀rs:List ae,iS (rs.map λr=>aH (R r))=N:=by
 intro xX;induction xX with
 |nil=>show rfl
 |cons _ rs iH=>show iH
def ahI:cg->du
 |eF _ e _=>uz (aeQ e)
 |_=>bf oq
theorem ahJ(hh:dh A)(B:cx U mg mb)(I:dQ mg mb)(hT:gq U)(bK:A.depth<1000)(p:PS H U (bf oq) J aK bo bw G S s)(h31:ck G 31=O (k1,aY CX))(h61:ck G 61=O (k2,aT 13))(dH:bS G 9=N)(pn:J.code=R cC)(OQ:cC∉bV)(oy:U.IsCode cC 1934 #[])(vH:U.TableAt cC 1934 #[])(pv:1934∉H)(kr:1934∈τ')(nS:∀b∈H,b∈τ')(kk:∀Y rs,rs.length=13->rs.Nodup->(∀y∈S,y.1∉rs)->PS τ' U (bf oq) J aK bo bw (jh G 9 0 (uq rs)) (uJ rs vS++S) Y->C A (aU rest J) Y Q):
 C A (aU (a9 (bh oq) 4::rest) J) s Q:=by
 have hP:1934∈bV:=by decide
 show yQ (x:=9) (τ':=τ') (U:=U) (aK:=aK) (bo:=bo) (bw:=bw) (L:=bf oq) dH (ak Z) Z<|have hI:=I ("tuple",ao "tuple") aL;have RS:ed (bf oq) (ahI (a9 (bh oq) 4)) [31] [14]:=ed.of (rfl);have r0:ER H U (bf oq) J s.heap G:=bg p.fr λW r _=>r.er;fY<|Lake.T.wR (eG B r0 Z hI.1 hI.2 (rfl))<|de (rfl)<|eu (cu (Lake.T.wc (JA (τ':=τ') (fs:=[31]) (K:=[14]) (P:=1934) B RS (by rw[pW];rw[h31];rfl) (rfl) Z bK pn OQ oy vH hP pv kr nS r0
  (YS (k:=13) B I (by rfl) (ar 61 h61) Z bu r0) (λ_=>rfl) λit aQ cl code aS a ig e2 hIt jy g=>dU g λg1 g2 g3 g4 _ g6 _ ϡ=>iZ ϡ λg8 g9 g10 g11 _=>c8 (iE ⟨rfl,?_⟩))))
 show l0 hIt λIa St dX hW Nj hIn Xh=>?_;have Xh:∀i h,St i h->∃o,h.get? Ia=O o:=λi h st=>bg (Xh i h st) λo e _=>⟨o,e⟩;have x2:hJ τ' s.heap aQ.heap:=e2.ext.up nS;have hIP:Ia≠1934:=λq=>by show dG (hT 1934 hP) λo e=>dG (r0.base.there _ o e) λo' e'=>?_;have e':=hIn▸q.symm▸e';ext
 have ϣ:ig.heap.NoLimit:=B.zo ((r0.base.up nS).trans (x2.trans g1));show bg ϣ λmc nsS _=>?_;subst dX;have xe:cH∈JB ig.heap aS a:=bg (B.zo (r0.base.trans e2.ext)) λmc2 PI _=>fc PI λo2 _ _ e2' _=>fc nsS λo5 _ _ e5' _=>(qc.mpr ⟨⟨o5,e5'⟩,λq=>(by rw[q,g8]at e2';ext),λq=>(by rw[q,g9]at e2';ext)⟩);have Hq:∃o,aQ.heap.get? Ia=O o:=Xh _ _ Nj;have hIa:Ia≠a:=λq=>by obtain⟨o,e⟩:=Hq;have e:=g9▸q▸e;ext
 have hIf:Ia∈JB ig.heap aS a:=qc.mpr (gT (dG Hq λo e=>⟨o,g4 Ia o hIP e⟩) (λq=>by obtain⟨o,e⟩:=Hq;rw[q,g8]at e;ext) hIa);have hcI:cH≠Ia:=λq=>by show bg (B.zo r0.base) λmc2 PI _=>(fc PI λo2 _ _ e2' _=>?_);have e2':=hIn▸q▸e2';ext
 show Ni (A:=A) (aS:=aS) (fp:=JB ig.heap aS a) (wr:=[Ia]) (n₀:=13) (o:=kz CX) (sB:=ig) (X:=[aS,Ia]) hh (by assumption) g10 (λq=>hIa (bI.mp q).symm) (λb D=>by simp at D;show D▸?_;show hIf) xe (λq=>(qc.mp xe).2.1 q) (λq=>hcI (bI.mp q)) bu
  (λb D=>by simp at D;rcases D with rfl|rfl<;>lia) (λb D=>ak D) (.refl _ _ _) (lD.made (x:=14) (n:=12) (GFo.back _) g hh hW Nj Xh hIP ϣ Z Z Z hIf (λh=>(qc.mp h).2.1 Z) (λb D=>(qc.mp D).1) ?_) ?_
 .intro A' i v s3 m3 RQ hv hn hm hk;show eS hv λk t hk1 qG=>?_;subst qG;have r3:=(r0.up nS).gen (code:=code) (cl:=cl) (aS:=aS) (m:=m3) (ks:=[k]) RS (g.later x2 hIn hk) jy hn g11 Z (λj x k' h1 h2=>by
   cases j with
   |zero=>simp at h1 h2;subst h1 h2;show DR t hm
   |succ j=>ext)
  show afv (ns:=CX) (x:=31) (k:=k1) B I r3 (rfl) ?_ ⟨by decide,N7 Z⟩;unfold lA;rw[h31];rfl
 .intro s6 rs m6 hl6 hr6;have e06:Ab τ' s s6:=by
   have xg:hJ τ' s.heap s6.heap:=g.later x2 hIn λb D hb2 o e=>m6.keep b o (λq=>by
    rcases bq.mp q with q|q
    .show (qc.mp D).2.1 q
    .show hb2 q) e
   show⟨xg,m6.os.trans (g2.trans e2.os),m6.drawn.trans (g3.trans e2.drawn),(l8.sk Z (g6▸m6.gens)).trans (.of e2.gens)⟩
  have nQ:∀r∈rs,s.heap.get? r=ai:=λr hr=>by
   cases q:s.heap.get? r with
   |none=>rfl
   |some o=>show dG ((x2.trans g1).there r o q) λo2 q2=>?_;have q2:=((hr6.1 r hr).2.2).symm.trans q2;ext
  have e07:Ab τ' s {s6 with heap:=s6.heap.push {cls:=ao "tuple",data:=bQ (rs.map R).toArray}}:=e06.trans ⟨.push _ _,rfl,rfl,.refl _⟩;have pf:=(p.up nS).grown hT e07 (br:=uJ rs vS) λy hy=>by
   show dG (sU hy) λi hi=>?_;unfold uJ at hi;rw[KH]at hi;show eZ hi λh1 h2=>?_;have hr:=cY h1;have ho:y.2=kz CX:=by have:=cY h2;simp[vS]at this;show this
   show ho.symm▸gT (nQ _ hr) (a0 _ (hr6.1 _ hr).1) Z
  show DS _ (uq rs) [] pf ?_ (Hp rs) (λY p'=>kk Y rs hl6 hr6.2 (λy hy q=>?_) p')
  .show DS s6.heap.objs.size (rs.map R) 0 Z (fo (jw B.top ((r0.base.up nS).trans e06.ext))) (bJ _ Z) (Ϣ rs)
  .have:=nQ _ q;have this:=((p.sg y hy).1)▸this;ext
end
section
variable{Q:cb->af->Prop}
theorem FR.ahK(r:FR H U U L J h G W)(x:hJ τ' U h')(keep:∀b o,b∉wr->b∉bV->h.get? b=O o->h'.get? b=O o)(hw:∀b∈wr,kK h b/\b∉bV/\b∉W):FR τ' U U L J h' G W:=
 r.abF (.refl _) x (λb hb' o e=>keep b o (λq=>(hw b q).2.2 hb') (r.je b hb').2.1 e) (λc v ht x=>Bh (λo q=>⟨keep c o (λz=>(hw c z).1.Wv x) ht q.1,q.2⟩) x)
  λy k av v F _ aP=>aP.off (λb o hb' ht e=>keep b o hb' ht e) (λb hb'=>aw (hw b hb').1) _ _ _ λb hb' hq=>(hw b hq).1.Wq aP hb'
noncomputable def gm(o:bE):Bool:=match o.data with
 |qr ..=>N
 |tx=>N
 |eg ..=>N
 |bH ws=>match ws[1]? with
  |some (cO _ _)=>ab
  |_=>N
 |_=>ab
theorem rX(e:h.get? a=O o)(hi:gm o=N):kK h a:=by
 show cn o e ?_;unfold gm at hi;cases q:o.data with
 |bytearray b n=>show aw (aw (ak (qE b n Z)))
 |plain=>show aw (aw (aw Z))
 |dict es n=>show aw (ak (qE es n Z))
 |fields ws=>have hi:=q▸hi;show ak (cn ws Z (λx t e=>?_));simp only[e]at hi;ext
 |_=>have hi:=q▸hi;show Iv (by assumption)
theorem PS.called(p:PS H U L J aK bo bw G S s)(q:PS τ' U sc' fZ s [] (S.map (·.1)) G' S' Y)(hi:∀y∈S,gm y.2=N):PS τ' U L J aK bo bw G S' Y:=by
 show gI p.fr λW r hW dj=>?_;have m:sF (S.map (·.1)) s Y:=by have:=q.mod;show this
 have r':=r.ahK q.ext (λb o D ht e=>m.mod.keep b o D ht e) (λb D=>by show bg (bG.mp D) λy hy e=>?_;subst e;show iK (p.sg y hy) λc1 c2 c3 c4=>((gT (rX c1 (hi y hy)) c2 (dj y hy))))
 show⟨(kF W r' hW (λy hy hw=>?_)),q.sg,p.mod.trans m λd hd=>?_,λy hy=>bc (q.lC y hy) (λh=>bg (bG.mp h) λz hz e=>e▸p.lC z hz) λh=>aw (p.mod.mod.new h)⟩
 .rcases q.lC y hy with h|h
  .show bg (bG.mp h) λz hz e=>(dj z hz (e▸hw))
  .show dG ((λb hb'=>oX (r.je b hb') λ_ _ o e _=>⟨o,e⟩:∀b∈W,∃o,s.heap.get? b=O o) _ hw) λo e=>?_;have e:=h.symm.trans e;ext
 .show bg (bG.mp hd) λz hz e=>?_;subst e;show bc (p.lC z hz) (λh=>ak (ew _ h)) λh=>aw h
end
section
variable{Q:cb->af->Prop}
theorem PS.afw(p:PS H U L J aK bo bw G S s)(he:V H s.heap A L J G e av ab)(hf:flat av=N)(k:∀Y v,PS H U L J aK bo bw G S Y->bM Y.heap av v []->Q (cG v) Y):C A (aU (yn (O e) pos::rest) J) s Q:=by show il<|Lake.T.wo (P:=λf Y=>∃v F,f=cG v/\dA H s Y/\bM Y.heap av v F) (xC ((he p.er).tN λv aD F e1 aP _=>Oj v F Z e1 aP)) λf Y ou=>ju ou λv F e1 e2 aP=>e1▸?_;have hF:=cW.1 _ _ _ hf aP;subst hF;show k Y v (p.grow e2) aP
theorem acy{a b:aG}{x y:Bool}(ha:V H U A L J G a (eX x) ab)(D:x=N->V H U A L J G b (eX y) ab):
 V H U A L J G (Kz Wi [a,b] pos) (eX (x && y)) fr:=λs r=>by
 show ah ((ha r).tN λv aD F1 e1 V1 _=>ah (jT ?_));have ev:=V1.toBool;subst ev;show ah (cQ (me ?_));cases x with
 |false=>show aB (o6 [] e1 (.ofBool _) d9)
 |true=>show(D Z (r.ext e1.ext)).tN λu aQ F2 e2 V2 _=>?_;have ev:=V2.toBool;subst ev;show⟨e1.trans e2,[],.ofBool _,d9⟩
theorem PJ{a b:aG}(B:Tp U)(ha:V H U A L J G a (aY [n]) ab)(D:V H U A L J G b (aT k) ab)(hk:k<=1000):
 V H U A L J G (fi a vm b pos) (aY (bZ k n)) fr:=by
 have Wr:aj k=(k:Int):=rfl;have:=Q3 (fr:=fr) (pos:=pos) (x:=aT n) (n:=aj k) B ha D Z (decide_eq_true (by rw[Wr];simp)) (decide_eq_true (Mk Wr Z hk));show V.to this ?_
 delta aY
 rw[show(aj k).toNat=k from rfl,KO]
theorem zz(K:LN){Q:aa->af->Prop}(B:cx U mg mb)(x1:hJ H U s.heap)(bK:A.depth<1000)(dB:qX U a fd st)(Du:(bf st).isCoroutine=ab)(zc:(bf st).isGenerator=ab)(hk:(bf st).kind=dZ)(si:T A.in1 (dw fd ⟨vs,[]⟩) s (λbs Y=>Y=s/\bs=(K.map NM).zip us))(aP:bA s.heap avs us F)(tR:K.Nodup)(dM:K.length=us.length)(E:∀x∈K,Hx (bf st) x)(cA:zZ U S s.heap)(hw:∀aQ br,PS H U (bf st) (gN fd br a) s [] (S.map (·.1)) (qJ K avs) S aQ->
 C (A.deeper (gN fd br a)) (aU (bh st) (gN fd br a)) aQ (λf Y=>Q (WU f) Y)):C A (call (R a) vs) s Q:=by
 have N':=dB.ext x1;show bg N'.at_.obj λo ho hd=>(C.call (WV (S:=S) B x1 bK ho hd (N'.at_.abR (H:=H) (.refl _)) dB.body dB.clo (by rw[dB.scope];show Du) (by rw[dB.scope];show zc) si aP (by rw[dB.scope];show hk) dB.glob dB.bi tR dM (by rw[dB.scope];show E) cA λaQ br p=>?_));rw[dB.scope]at p;show(hw aQ br p).mono λf Y h=>h
theorem so(avs:List AV){Q:aa->af->Prop}(B:cx U mg mb)(p:PS H U L J aK bo bw G S s)(hg:mg nm=O (R a))(kM:L.names.lookup nm=O kY)(hdb:(nm==("__debug__" :aV))=ab)(dB:qX U a fd st)(he:fL H s.heap A L J G (e::es) avs)(dH:dW (e::es)=N)(h:∀vs aD F,dA H s aD->bA aD.heap avs vs F->C A (call (R a) vs) aD Q):C A (a7 (bx (aq nm np) (e::es) [] pos) J) s Q:=fY<|Lake.T.wR (sd (p.base B) p.er kM hg hdb)<|bg ((dB.ext p.ext).at_.obj) λo ho hd=>(pG o fd (acg p.er he dH λvs aD F x1 aP=>⟨⟨x1.ext.keep a o dB.at_.off ho,hd⟩,h vs aD F x1 aP⟩))
def PK(b8:List (LN)):Nat->List (LN)
 | 0=>b8
 |n+1=>YJ (YJ (PK b8 n) n 8 0) 8 n 0
theorem Hr(h:Mx b8):∀n,n<=9->Mx (PK b8 n):=by
 intro xX;induction xX with
 |zero=>intro _;show h
 |succ n iH=>intro hn;show((iH (rD hn)).set au 8 aL).set bu n aL
theorem Ac:Mx vS:=⟨rfl,by decide⟩
def PM:List (LN):=Pw (PK vS 9) 5
theorem Ϥ:Mx PM:=Px (Hr Ac 9 bu) 5 bu
def akn(rs:List ae):iz:=[(9,0,uq rs),(62,0,eX N),(68,0,eX N),(60,0,aT 13),(108,0,eX N),(109,0,aH (R (rs.getD 8 0)))]
theorem ahL(hp:fd.params=fz (dP 19))(hd:fd.defaults=ax)(v u:aa):dw fd ⟨[v,u],[]⟩=pure (([9,68].map NM).zip [v,u]):=by
 delta dw
 show hp.symm▸hd.symm▸?_;rfl
theorem yU:∀y∈uJ rs b8,gm y.2=N:=λy hy=>by have:=(sW (show(y.1,y.2)∈_ from hy)).2;show bg (bG.mp this) λr _ e=>e▸?_;rfl
theorem acz(hh:dh A)(B:cx U mg mb)(I:dQ mg mb)(hT:gq U)(bK:A.depth<1000)(hS:∀y∈S,gm y.2=N)(hgT:mg (aC "add_timing_pattern")=O (R 1914))(NT:qX U 1914 ZM (dP 19))(YT:ZM.defaults=ax)(p:PS H U (bf oq) J aK bo bw (qJ [60,61,107,108] [aT 13,aT 13,eX N,eX N]) S s)(pn:J.code=R cC)(OQ:cC∉bV)(oy:U.IsCode cC 1934 #[])(vH:U.TableAt cC 1934 #[])(pv:1934∉H)(kr:1934∈τ')(nS:∀b∈H,b∈τ')(kk:∀Y G' rs v,rs.length=13->rs.Nodup->(∀y∈S,y.1∉rs)->PS τ' U (bf oq) J aK bo bw G' (uJ rs PM++S) Y->bM Y.heap (uq rs) v []->Q (cG v) Y):
 C A (aU (bh oq) J) s Q:=by
 change C _ (aU [a9 (bh oq) 0,a9 (bh oq) 1,a9 (bh oq) 2,a9 (bh oq) 3,a9 (bh oq) 4,a9 (bh oq) 5,a9 (bh oq) 6,a9 (bh oq) 7] J) s Q;show p.s1 (S1.m (z8 Z)) λs1 p1=>p1.s1 (S1.m (bC 62 (eX N) (V.to (Gh .eq (aj 13) (aj 13) (ar 60 Z) (ar 61 Z)) Z) Z Z (ak Z) Z)) λs2 p2=>p2.s1 (S1.m (bC 68 (eX N) (V.to (acy (x:=N) (y:=N) (ar 62 Z) (λ_=>V.to (Gh .lt (aj 13) 21 (ar 60 Z) V.int) Z)) Z) Z Z (ak Z) Z)) λs3 p3=>p3.s1 (S1.m (gi 31 (aY CX) (PJ (n:=2) (k:=13) B.top (pC (n:=2) B.top (aR 2) Z) (ar 60 Z) bu) Z Z (aw Z) Z)) λs4 p4=>ahJ (k1:=1) (k2:=0) hh B I hT bK p4 Z Z Z pn OQ oy vH pv kr nS λs5 rs hl tR hd p5=>have hr:∀i,i<13->rs[i]? =O (rs.getD i 0):=λi hi=>kx au;p5.ite (x:=N) (mF 107 Z) λs6 p6=>p6.ite (x:=ab) (vE (x:=N) (y:=ab) (mF 62 Z) (λ_=>o7.to (mA (x:=aj 13) (y:=41) .gt (ar 60 Z) V.int) Z)) λs7 p7=>ff<|p7.s1 (S1.m (bC 109 (aH (R (rs.getD 8 0))) (yS 8 (ar 9 Z) (aR 8) (hr 8 bu) au Z) Z Z (ak Z) Z)) λs8 p8=>yP 14 (Dq 0 1 9) (λi (_:Unit)=>akn rs) (λi _=>uJ rs (PK vS i)++S) () p8 (zQ (k:=9) hh (p8.base B) I Z V.int Z aL aL)
  (km.rf bF bF) (λy hy=>hy) (ak Z) (λ_ _ _=>rfl) (λi n z t W hn q=>?_) (λ_=>rfl) (λs9 _ p9=>ff ?_)
 .show eZ (o9.mp hn) λhi hn=>?_;have wm:(n:Int)=aj i:=by rw[hn];simp
  subst wm;have hmi:=Hr Ac i au;show ie (hmi.get (i:=i) au) λm1 m2 m3=>ie ((hmi.set (i:=i) au 8 (v:=0) aL).get (i:=8) bu) λn1 n2 n3=>w6 (rs.getD i 0) 8 0 q (aR 0) (yS i (ar 9 Z) (ar 14 Z) (hr _ au) au Z) (aR 8)
   (dc _ (pH (hr _ au) m1)) m3 au aL Z (yR tR (hr _ au) _ hd) λt1 q1=>w6 (rs.getD 8 0) i 0 q1 (aR 0) (ar 109 Z) (ar 14 Z)
   (dc _ (pH (hr _ bu) n1)) n3 au aL Z (yR tR (hr _ bu) _ hd) λt2 q2=>q2.ite (x:=ab) (FN N (mF 68 Z)) λt3 q3=>ff (ff ⟨rfl,(),q3.less (km.rf bF bF)⟩)
 show p9.ite (x:=N) (mF 108 Z) λs10 p10=>bg p10.here λW hW ph=>z0 (by show bg p10.fr λW r _=>?_;delta iG;rw[r.scope];rfl) Z ?_;show so _ B p10 hgT Z Z NT (fL.cons (ar 9 Z) (fL.cons (ar 68 Z) fL.nil Z) Z) Z λvs s11 F x11 aP=>have p11:=p10.grow x11;kJ aP λv1 vs1 F1 F2 dX V1 V2 _=>?_;subst dX;show kJ V2 λv2 vs2 F3 F4 qG V3 V4 _=>?_;subst qG;show eZ V4 λDU _=>?_;subst DU;show zz (S:=uJ rs (PK vS 9)++S) [9,68] B p11.ext bK NT Z Z Z (by rw[ahL NT.params YT];show aB ⟨rfl,rfl⟩) aP aL Z aL p11.sg λs12 br p12=>Py (A:=A.deeper _) hh B I hl tR (Hr Ac 9 bu) hd p12 λs13 G13 p13=>⟨rfl,ff ?_⟩;have pe:=p11.called p13 λy hy=>bc (bY.mp hy) (λq=>yU y q) λq=>hS y q;show pe.afw (ar 9 Z) (Hp rs) λs14 v p14 aP=>kk s14 _ rs v hl tR hd p14 aP
end
noncomputable def sq(t:ae)(i:Nat):bE:={cls:=ao "tuple_iterator",data:=bH #[R t,ag i 0]}
section
variable{Q:cb->af->Prop}
theorem Nk{aeR:List aG}{t T:ae}{Q:Unit->af->Prop}(ho:s.heap.get? I=O (sq t i))(hQ:Q () s):
 aA (aE prog w) A (jC (fO aeR x1 pos) (R I) (R T)) Q aX s:=by
 show ah<|jo ho<|(?_:aA _ A (if(["enumerate", "zip", "dict_itemiterator", "dict_reverseitemiterator", "odict_iterator", "itertools.zip_longest", "itertools.pairwise"].contains "tuple_iterator" &&
  (#[R t,ag i 0]:Array aa)[0]? ==O (dD T))=N then _ else _) Q aX s)
 rw[if_neg (by intro h;show Iv (by assumption))]
 show aB hQ
theorem Hs{t:ae}{x:aa}{Q:Option aa->af->Prop}(ho:s.heap.get? I=O (sq t i))(ht:s.heap.IsTuple t items)(E:items[i]? =O x)(hQ:∀h',h'.get? I=O (sq t (i+1))->gx I s.heap h'->Q (O x) {s with heap:=h'}):aA (aE prog w) A (gY (R I)) Q aX s:=by
 show QP ht λol hol _ nl Yy=>have um:s.heap.IsTupleIter I t i:=kF _ ho Z Z;ah (sI (kS um.typeIs Vt
  (jS Vt um.typeIs PySem.F.entry_tuple_iterator_next ?_ (PySem.F.args_tuple_iterator_next_1 _))))
 show(?_:aA _ _ (sQ (R I) 0>>=_) _ _ s);show ah<|f9 ho Z (x:=R t) Z<|ah<|f9 ho Z (x:=ag i 0) Z<|ah (jD hol Yy ?_);simp only[Kw,E];show ah (Aq ho Z (EY [].length) (aB (cn x Z (aB (hQ _ ?_ (j5 ..))))));rw[gQ _ ho Z];rfl
theorem PS.aer(p:PS H U L J aK bo bw G S s)(ha:(a,o)∈S)(hi:gm o=N)(t:Tn [a] s Y)(ho:Y.heap.get? a=O o')(hs:Hi o'=N)(hS:∀x∈S',(x.1=a/\x.2=o')\/(x.1≠a/\x∈S)):PS H U L J aK bo bw G S' Y:=p.aeo ha (rX · hi) t ho hs hS
theorem PS.acA(p:PS H U L J aK bo bw G S s)(ha:(a,o)∈S)(hi:gm o=N)(hn:aK.heap.get? a=ai)(keep:∀b o,b≠a->s.heap.get? b=O o->h'.get? b=O o)(hS:∀x∈S',x.1≠a/\x∈S):
 PS H U L J aK bo bw G S' {s with heap:=h',toks:=tk}:=by
 show bg p.fr λW r hW=>iK (p.sg _ ha) λe1 e2 e3 e4=>⟨(kF W (r.off (wr:=[a]) (λb o D e=>keep b o (by simpa using D) e) (λb D=>by have D:=bI.mp D;show D▸?_;show⟨rX e1 hi,e2,e4,(hW.2 _ ha)⟩)) hW.1 (λx E=>hW.2 x (hS x E).2)),λx E=>?_,p.mod.off (wr:=[a]) (λb o D e=>keep b o (by simpa using D) e) (λb D=>by show bI.mp D▸?_;show⟨hn,e2⟩),λx E=>p.lC x (hS x E).2⟩;show iK (p.sg x (hS x E).2) λc1 c2 c3 c4=>rR (keep _ _ (hS x E).1 c1) c2 c3 c4
theorem PS.acB(q:PS τ' U sc' fZ s W (S.map (·.1)) G' S' Y)(ht:ta∉bV)(ϥ:s.heap.get? ta=O (cV vs n))(hW:∀b∈W,Cs s.heap b)(hS:∀y∈S,s.heap.get? y.1=O y.2/\gm y.2=N):
 Y.heap.get? ta=O (cV vs n):=by
 show q.mod.mod.keep ta _ (λh=>?_) ht ϥ;rcases bY.mp h with h|h
 .show bg (hW ta h) λo e hk=>?_;obtain rfl:=aW (ϥ.symm.trans e);rcases hk with⟨h1,_⟩|⟨_,_,h1⟩|⟨_,h1⟩
  .injection h1 with h3
   show nomatch h3
  .ext
  .ext
 .show bg (bG.mp h) λy hy e=>?_;obtain⟨c1,c2⟩:=hS y hy;rw[e,ϥ]at c1;have c2:=(aW c1).symm▸c2;ext
theorem RT{Q:aa->Prop}(aP:bM h (fI [av]) v F)(hf:flat av=N)(k:∀ta v0 n,ta∉bV->h.get? ta=O (cV [v0] n)->bM h av v0 []->Q (R ta)):Q v:=
 pU aP λta vs n ht ϥ aP=>nM (P:=λvs=>h.get? ta=O (cV vs n)->Q (R ta)) aP (λv0 F1 V1 ϥ=>k ta v0 n ht ϥ (cW.1 _ _ _ hf V1▸V1)) ϥ
theorem YU{av0:AV}{G2:ζ->iz}{S2:ζ->Sg}(hh:dh A)(B:cx U mg mb)(p:PS H U L J aK bo bw G S s)(he:V H s.heap A L J G iter (fI [av0]) ab)(hf:flat av0=N)(hs:Fs iter J)(hS:∀y∈S,gm y.2=N)(ako:∀aD I ta v S1 sA WA KA,aD.heap.get? I=O (sq ta 1)->PS H U L J sA WA KA G S1 aD->bM aD.heap av0 v []->T A (jC ct (R I) v) aD (λ_ aQ=>aQ=aD)/\T A (jE ct J v) aD (λ_ aQ=>PS H U L J sA WA KA G1 S1 aQ))(OE:∀y aD sA WA KA,(∀z∈S,z.1≠y.1)->gm y.2=N->PS H U L J sA WA KA G1 (y::S) aD->C A (aU body J) aD (λfl aQ=>fl=cL/\∃z,PS τ' U L J sA WA KA (G2 z) (y::S2 z) aQ/\(∀x∈S2 z,x.1≠y.1)))(k:∀z Y,PS τ' U L J aK bo bw (G2 z) (S2 z) Y->C A (aU rest J) Y Q):
 C A (aU (j4 ct iter body [] pos::rest) J) s Q:=by
 show il (RF hs (T.wcE (he p.er) λv aD F e1 aP _=>?_));apply RT aP hf;show λta v0 n ht ϥ V1=>cS<|J2 (⟨_,ϥ,rfl,n,rfl⟩)<|have p1:=p.grow e1;gI p1.fr λWA r1 hWA hdj=>have p2:=(⟨(kF WA r1 (λb D=>ak D) hdj),p1.sg,.refl _ _,λx E=>ak (bG.mpr (cn x E Z))⟩:PS H U L J aD WA (S.map (·.1)) G S aD).sk (o:=sq ta 0) (tk:=aD.toks) B Z Z;have hnS:=λz hz=>fE (cj (p1.sg z hz).1);have hTn:∀{sa:af} {h':aO},gx aD.heap.objs.size sa.heap h'->(∃o,h'.get? aD.heap.objs.size=O o)->Tn [aD.heap.objs.size] sa {sa with heap:=h'}:=λhs hm=>Tn.same hs au hm;WS (λn Y=>(n=2/\Y={aD with heap:=aD.heap.push (sq ta 0),toks:=aD.toks})\/(n=1/\∃z,PS τ' U L J aD WA (S.map (·.1)) (G2 z) ((aD.heap.objs.size,sq ta 1)::S2 z) Y/\(∀x∈S2 z,x.1≠aD.heap.objs.size))) ?_ 2 (ak ⟨rfl,rfl⟩);rintro n' Y P1 P2 P3 q0 q1 q2 q3 (⟨rfl,rfl⟩|⟨rfl,z,pz,hz⟩)
 .show cS (Hs (p2.get (ez ..)) (nV (a0 _ ϥ)) (x:=v0) Z λh' g1 g2=>?_);have p3:=p2.aer (S':=(aD.heap.objs.size,sq ta 1)::S) (ez ..) Z (hTn g2 ⟨_,g1⟩) g1 Z λx E=>by
   rcases bq.mp E with e|e
   .left;rw[e];show⟨rfl,rfl⟩
   .show aw ⟨hnS x e,bW _ e⟩
  have hV3:=bM.off (λb o D _ e=>g2.extBut b o (vw D) e) (λb D=>by apply jQ D;show aw (rX (p2.get (ez ..)) Z)) av0 v0 [] (λb D=>kI D) (V1.ext (H:=H) (.push _ _))
  show eZ (ako {aD with heap:=h',toks:=aD.toks} aD.heap.objs.size ta v0 ((aD.heap.objs.size,sq ta 1)::S) _ _ _ g1 p3 hV3) λa1 a2=>q1 _ _<|T.wo a1 λ_ s4 e4=>e4▸T.wo a2 λ_ s5 p5=>q2 _<|(OE (aD.heap.objs.size,sq ta 1) s5 _ _ _ hnS Z p5).mono λfl s6 ou=>iL ou λhfl z pz hz=>hfl▸q3 1 _ bu (aw ⟨rfl,z,pz,hz⟩)
 .show cS<|JW hh (kF _ (pz.get (ez ..)) Z Z) (nV (pz.acB ht ϥ (λb D=>(r1.je b D).2.2) (λy hy=>⟨(p1.sg y hy).1,hS y hy⟩))) Z λh' he=>q0 _<|ff<|k z _ (p1.back hWA (pz.acA (ez ..) Z (bD _) (λb o D e=>he b o D e) λx E=>⟨hz x E,bW _ E⟩))
end
section
variable{Q:cb->af->Prop}
theorem RU(a b n:Nat)(hab:a<=b)(D:b<=n):Me (O (a:Int)) (O (b:Int)) 1 (n:Int)=((a:Int),(b:Int)):=by
 delta Me
 congr 1<;>lia
theorem CY{a b:Nat}{u':ba}{Q:Int×Int×Nat->af->Prop}(hs:s.heap.IsSliceOf sl (ag a u) (ag b u') ax)(hab:a<=b)(D:b<=n)(h:Q ((a:Int),1,b - a) s):
 aA (aE prog w) A (abj (R sl) (pure (n:Int))) Q aX s:=by
 show gI hs λos Rc xe hds=>ah<|ah<|f9 Rc hds (x:=ag a u) Z<|ah<|f9 Rc hds (x:=ag b u') Z<|ah<|f9 Rc hds (x:=ax) Z<|aB<|ah<|slicePart_none<|ah<|slicePart_int<|ah<|slicePart_int<|(?_:aA _ _ (match Me (O (a:Int)) (O (b:Int)) 1 (n:Int) with|(lo,hi)=>pure (lo,(1:Int),VN lo hi 1)) _ _ s);rw[RU a b n hab D];change aA _ _ (pure ((a:Int),(1:Int),VN (a:Int) (b:Int) 1)) _ _ s;show(places_from a b hab).symm▸aB h
theorem Ϧ(K:Array aa)(a n:Nat):((aJ n).filterMap λ(k:Nat)=>K[((a:Int)+(k:Int) * 1).toNat]?).toArray=((K.toList.drop a).take n).toArray:=by
 have e:(λ(k:Nat)=>K[((a:Int)+(k:Int) * 1).toNat]?)=λk=>K[a+k]? :=by
  funext k
  show congrArg _ (congrArg Ky (congrArg ((a:Int)+·) (Int.mul_one k)))
 show e.symm▸?_;have:=pick_run K a n;rw[List.filterMap_map]at this;rw[(rfl:((λx=>K[x]?)∘λx=>a+x)=λk=>K[a+k]?)]at this;show congrArg _ this
theorem B6{t:ae}{a b:Nat}{u':ba}{Q:aa->af->Prop}(ht:IsTup s.heap t items)(hs:s.heap.IsSliceOf sl (ag a u) (ag b u') ax)(hab:a<=b)(D:b<=items.size)(ahM:b - a<items.size)(hl:items.size<=1000)(h:Q (R s.heap.objs.size) {s with heap:=s.heap.push {cls:=ao "tuple",data:=bQ ((items.toList.drop a).take (b - a)).toArray}}):aA (aE prog w) A (xR (R t) (R sl)) Q aX s:=by
 have Xj:sizeOk (bQ ((items.toList.drop a).take (b - a)).toArray):=by change((items.toList.drop a).take (b - a)).toArray.size<=fg;simp;lia
 show gI hs λos Rc xe hds=>cQ<|ah<|xE ht.typeIs (rfl)<|ah (kS ht.typeIs slot_tuple_getitem
  (jS slot_tuple_getitem ht.typeIs entry_tuple_getitem ?_ (args_tuple_getitem _ _)))
 show(?_:aA _ _ (abq (R t)>>=_) _ _ s);show ah<|tupleItemsOf_ ht<|ah<|oB ((cn os Rc xe))<|ah (CY hs hab D ?_);have hno:¬(((a:Int)==0 && (1:Int)==1 && (b - a)==items.size)=N):=by rw[(by rw[beq_eq_false_iff_ne];show fE ahM:((b - a)==items.size)=ab)];simp
 show(?_:aA _ _ (if((a:Int)==0 && (1:Int)==1 && (b - a)==items.size)=N then _ else _) _ _ s);show(if_neg hno).symm▸(Ϧ items a (b - a)).symm▸?_;first
  |show ah (ij (aB (cn _ rfl (aB h))) Xj)
  |show ah (ij (aB ⟨_,rfl,aB h⟩) Xj)
  |show ah (ah (ij (aB (aB ⟨_,rfl,aB h⟩)) Xj))
  |show ah (ah (ij (aB ⟨_,rfl,aB h⟩) Xj))
theorem acC{a:aG}{m:Nat}(B:Tp U)(ha:V H U A L J G a (fI K) ab)(hh:V H U A L J G lo (aT k) ab)(hj:V H U A L J G hi (aT m) ab)(hf:iS K=N)(Q2:k<=m)(hm:m<=K.length)(hp:m - k<K.length)(hl:K.length<=1000):V H U A L J G (dk a (ml (O lo) (O hi) eV p) pos) (fI ((K.drop k).take (m - k))) fr:=λs r=>by
 show rL<|(ha r).tN λv aD F1 e1 V1 _=>Ep<|(hh (r.ext e1.ext)).Cz λt aQ e2=>(hj ((r.ext e1.ext).ext e2.ext)).Cz λt' dg e3=>aB ?_;have X':=(e1.trans e2).trans e3;apply pU ((V1.ext e2.ext).ext e3.ext);intro c vs n _ a3 a4;have l1:=bA.length a4;show bg (bA.drop k a4) λQZ V4 _=>bg (bA.take (m - k) V4) λF3' V5 _=>have htp:IsTup (dg.heap.push {cls:=ao "slice",data:=bH #[ag (aj k) t,ag (aj m) t',ax]}) c vs.toArray:=(show IsTup dg.heap c vs.toArray from⟨_,a3,rfl,n,rfl⟩).keeps λ_ _ e=>a0 _ e;vh htp.typeIs slot_tuple_getitem.lookup (B6 htp (kF _ (bJ _ Z) Z Z) Q2 (by simp;show le_of_le_of_eq hm (id (mr l1))) jM (by simp;show le_of_eq_of_le l1 hl) ?_) (rfl);show⟨X'.trans ⟨(hJ.push _ _).trans (.push _ _),rfl,rfl,eW _⟩,[],?_,d9⟩;show DS _ ((vs.drop k).take (m - k)) 0 Z (fo (a8 (jw B (r.base.trans X'.ext)) (by rw[dE];show lP _))) ?_ ?_
 .have:=bJ (dg.heap.push {cls:=ao "slice",data:=bH #[ag (aj k) t,ag (aj m) t',ax]}) (o:=cV ((vs.drop k).take (m - k)) 0) Z;show this
 .have hF:=cW.2 _ _ _ (zN (m - k) _ (zM k K hf)) V5;show hF▸V5.ext (H:=H) ((hJ.push _ _).trans (.push _ _))
theorem zd{o i:aG}{Q:cb->af->Prop}(h:C A (a7 value J) s (λv aD=>C A (a7 o J) aD (λov aQ=>C A (a7 i J) aQ (λiv dg=>C A (Ay ov iv v) dg (λ_ Y=>Q cL Y)))))(hs:fD value (O (dk o i Ct)) pos.line J=pure ab):C A (oJ (eF [dk o i Ct] value pos) J) s Q:=by rw[exec_Assign_Subscript o i Ct value pos hs];show nU<|C.bind<|h.mono λv aD U=>C.bind<|lH (U.mono λov aQ ko=>lH (ko.mono λiv dg uk=>nU (lH (uk.mono λ_ fB Gv=>C.release (C.pure Gv)))))
theorem RV(ns ms:LN)(k m:Nat):(wh ns).extract 0 k++wh ms++(wh ns).extract m (wh ns).size=wh (ns.take k++ms++ns.drop m):=by apply A7;simp[wh];show KI fH
theorem ϧ{v:aG}{m:Nat}{f4:Bool}(p:PS H U L J aK bo bw G S s)(hv:V H s.heap A L J G v (fI (ms.map aT)) ab)(he:V H s.heap A L J G e (aH (R a)) ab)(Iw:V H s.heap A L J G lo (aT k) ab)(hhi:V H s.heap A L J G hi (aT m) f4)(ha:(a,kz ns)∈S)(hB:lY ns)(hm:m<=ns.length)(Q2:k+ms.length=m)(hms:∀x∈ms,x<256)(hs:fD v (O (dk e (ml (O lo) (O hi) ai p1) p')) pos.line J=pure ab)(hS:∀y∈S',(y.1=a/\y.2=kz (ns.take k++ms++ns.drop m))\/(y.1≠a/\y∈S))(kk:∀Y,PS H U L J aK bo bw G S' Y->C A (aU rest J) Y Q):C A (aU (eF [dk e (ml (O lo) (O hi) ai p1) p'] v pos::rest) J) s Q:=by show il (zd (T.wcE (hv p.er) λvv aD F1 e1 V1 _=>WN (he (p.er.ext e1.ext)) λaQ e2=>?_) hs);show cS<|Ep<|(Iw ((p.er.ext e1.ext).ext e2.ext)).Cz λt dg e3=>(hhi (((p.er.ext e1.ext).ext e2.ext).ext e3.ext)).tN λu' fB F4 e4 V4 _=>aB ?_;obtain⟨t',rfl⟩:=V4.toInt;apply pU (((V1.ext e2.ext).ext e3.ext).ext e4.ext);intro l vs n _ a3 a4;have pl:dA H s {fB with heap:=fB.heap.push {cls:=ao "slice",data:=bH #[ag (aj k) t,ag (aj m) t',ax]}}:=(((e1.trans e2).trans e3).trans e4).trans ⟨.push _ _,rfl,rfl,eW _⟩;have p5:=p.grow pl;have ho:=p5.get ha;show C.holding<|lB<|xE (fy ho) (rfl)<|C.bind (vR (fy ho) nE (oj (fy ho) nE uG (wg _ _ _) Z (Pu ho (bJ _ Z) (a0 _ a3) (intsAre_of a4 (dS ms)) hms (by rw[hZ];show hm) Q2 (by rw[hZ];show hB.2) λs6 tn ho6=>?_)));rw[RV]at ho6;show cn _ Z<|C.pure (kk s6 (p5.turn ha Z tn ho6 Z hS))
end
def Ad:cg:=dP 18
def fpV:AV:=fI (FPN.map λr=>fI (r.map aT))
noncomputable def PN(n:Nat):LN:=((FPN.getD (1+n) []).drop 1).take 8
def mG(b8:List (LN)):Nat->List (LN)
 | 0=>b8
 |n+1=>(mG b8 n).set n (((mG b8 n).getD n []).take 0++PN n++((mG b8 n).getD n []).drop 8)
theorem PO:∀n,n<8->(PN n).length=8/\∀x∈PN n,x<256:=by decide
theorem afx:∀n,n<9->(FPN.getD n []).length=9/\FPN[n]? =O (FPN.getD n []):=by decide
theorem PQ(h:Mx b8):∀n,n<=8->Mx (mG b8 n):=by
 intro xX;induction xX with
 |zero=>show λ_=>h
 |succ n iH=>intro hn;have ih:=iH (rD hn);show ie (ih.get (i:=n) au) λh1 h2 h3=>eZ (PO n au) λf1 f2=>ih.ahw (by rw[iu,iu,AM,h2,f1];rfl) λx E=>bc (bY.mp E) (λq=>f2 x q) λq=>h3.1 x (rq q)
section
variable{Q:cb->af->Prop}
theorem Ϩ{x:aV}(B:cx U mg mb)(E:L.names.lookup x=O kY)(hv:mg x=O v)(hd:(x==("__debug__" :aV))=ab)(aP:bM U av v []):V H U A L J G (aq x pos) av fr:=λs r=>
 T.Dm (sd B r E hv hd) (o6 [] (.refl _) (aP.ext r.base) d9)
def ahN(rs:List ae)(rr:ae):iz:=[(9,0,uq rs),(14,0,aT 0),(15,0,aT 0),(65,0,aT 1),(66,0,aT 1),(64,0,aH (R rr))]
def gF0(rs:List ae)(rr:ae):iz:=[(9,0,uq rs),(63,0,fI [tV (0,0)]),(64,0,aH (R rr))]
theorem ϩ{S0:Sg}{vf:aa}(hh:dh A)(B:cx U mg mb)(I:dQ mg mb)(hl:rs.length=13)(tR:rs.Nodup)(hm:Mx b8)(hd:∀y∈S0,y.1∉rs)(ZR:∀y∈S0,gm y.2=N)(hgf:mg (aC "_FINDER_PATTERN")=O vf)(hvf:bM U fpV vf [])(p:PS H U (bf Ad) J aK bo bw (qJ [9,60,61] [uq rs,aT 13,aT 13]) (uJ rs b8++S0) s)(k:∀Y G',PS H U (bf Ad) J aK bo bw G' (uJ rs (mG b8 8)++S0) Y->Q cL Y):C A (aU (bh Ad) J) s Q:=by
 have hr:∀i,i<13->rs[i]? =O (rs.getD i 0):=λi hi=>kx au;change C _ (aU [a9 (bh Ad) 0,a9 (bh Ad) 1,a9 (bh Ad) 2,a9 (bh Ad) 3,a9 (bh Ad) 4,a9 (bh Ad) 5] J) s Q;show p.s1 (S1.m (z8 Z)) λs1 p1=>?_;show p1.s1 (S1.m (bC 62 (eX N) (V.to (Gh .eq (aj 13) (aj 13) (ar 60 Z) (ar 61 Z)) Z) Z Z (ak Z) Z)) λs2 p2=>?_;show p2.s1 (S1.m (bC 63 (fI [tV (0,0),qT (0,5),qT (-8,0)]) ?_ Z Z (ak Z) Z)) λs3 p3=>?_
 .show uj B.top (fL.cons (GV B.top (aR 0) (aR 0) Z Z) (fL.cons (av:=qT (0,5)) ?_ (fL.cons (av:=qT (-8,0)) ?_ fL.nil Z) Z) Z) Z Z
  .show uj B.top (fL.cons V.int (fL.cons (av:=a6 5) ?_ fL.nil Z) Z) Z Z;show lj (x:=aj rs.length) (y:=8) .sub (V.to (Nh B I Z (ar 9 Z) Z jM) (by simp[aT])) V.int (by rw[hl];rfl)
  .show uj B.top (fL.cons (MD V.int) (fL.cons V.int fL.nil Z) Z) Z Z
 show p3.ite (x:=N) (vE (x:=N) (y:=N) (mF 62 Z) (λ_=>o7.to (mA (x:=aj 13) (y:=21) .lt (ar 60 Z) V.int) Z)) λs4 p4=>?_;change C _ (aU [a9 (match a9 (bh Ad) 3 with|yo _ b _ _=>b |_=>[]) 0] J) s4 _;show p4.s1 (S1.m (bC 63 (fI [tV (0,0)]) (uj B.top (fL.cons (GV B.top (aR 0) (aR 0) Z Z) fL.nil Z) Z Z) Z Z (ak Z) Z)) λs5 p5=>ff ?_;show w9 64 8 p5 B I Z V.int Z Z (ak Z) Z λrr t0 t1 t2 s6 p6=>?_;have afr:rr∉rs:=λhq=>by show dG (sU hq) λi hi=>?_;have jx:=(dR.mp hi).1;have e1:=p6.get (bW _ (dc S0 (pH hi (hm.get (i:=i) au).1)));rw[p6.get (cR ..)]at e1;show absurd (congrArg E9 (aW e1)) (by simp[mL,kz,pQ])
 have p6':PS H U (bf Ad) J aK bo bw (gF0 rs rr) ((rr,mL 8 t0 t1 t2)::(uJ rs b8++S0)) s6:=p6.less (by show km.rf bF bF);show YU (τ':=H) (ζ:=Unit) (av0:=tV (0,0)) (G1:=putAll (gF0 rs rr) [14,15] [0,0]) (G2:=λ_=>ahN rs rr) (S2:=λ_=>uJ rs (mG b8 8)++S0) hh B p6' (ar 63 Z) Z (λ_=>rfl) (λy hy=>?_) (λs1 Ia ta v S1 sA WA KA g pa aP=>?_) (λy sb sA WA KA hny hiy pb=>?_) λ_ s7 p7=>ff (k s7 _ p7)
 .rcases bq.mp hy with e|e
  .rw [e];rfl
  .rcases bY.mp e with e|e
   .show yU y e
   .show ZR y e
 .obtain ⟨T,t,u,rfl,hT⟩:=bM.pair (p:=(0,0)) aP;show⟨Nk g Z,?_⟩;show bg pa.fr λWa ra hWa=>?_;show wK (x:=14) (y:=15) hh hT λh3 k3=>?_;show Stores.frame [14,15] [0,0] (gF0 rs rr) _ _ _ Z (ra.grow (.of_keep k3)) (λx E=>by simp at E;rcases E with rfl|rfl<;>show ak Z) (λx E=>by simp at E;rcases E with rfl|rfl<;>rfl)
   λY r' m'=>pa.step ra hWa (((show dA H s1 {s1 with heap:=h3} from⟨.of_keep k3,rfl,rfl,eW _⟩).smod Wa).trans m' λd hd=>ak hd) r' λd hd=>ak hd
 change C _ (aU [a9 (tZ (a9 (bh Ad) 5)) 0,a9 (tZ (a9 (bh Ad) 5)) 1,a9 (tZ (a9 (bh Ad) 5)) 2] J) sb _;show pb.s1 (S1.m (bC 65 (aT 1) (wC N (o7.to (mA (x:=0) (y:=0) .eq (ar 14 Z) V.int) Z) (λ_=>aR 1) (λq=>by cases q)) Z Z (ak Z) Z)) λs8 p8=>?_;show p8.s1 (S1.m (bC 66 (aT 1) (wC ab (o7.to (mA (x:=0) (y:=0) .ne (ar 15 Z) V.int) Z) (λq=>by cases q) (λ_=>aR 1)) Z Z (ak Z) Z)) λs9 p9=>?_;have ξ:∀z∈y::(rr,mL 8 t0 t1 t2)::S0,z.1∉rs:=λz hz=>by
  rcases bq.mp hz with e|hz
  .rw [e];intro hq;show dG (sU hq) λi hi=>?_;have jx:=(dR.mp hi).1;show hny _ (bW _ (dc S0 (pH hi (hm.get (i:=i) au).1))) Z
  .rcases bq.mp hz with e|hz
   .rw [e];show afr
   .show hd z hz
 have p10:=p9.sub (S':=uJ rs b8++(y::(rr,mL 8 t0 t1 t2)::S0)) λz hz=>by
  simp only[bY,bq]at hz ⊢;rcases hz with h|h|h|h
  .show aw (aw (ak h))
  .show ak h
  .show aw (ak h)
  .show aw (aw (aw h))
 have ϙ:(rr,mL 8 t0 t1 t2)∈uJ rs b8++(y::(rr,mL 8 t0 t1 t2)::S0):=ew _ (bW _ (cR ..));show yP 67 (Dq 0 1 8) (λi (_:Unit)=>ahN rs rr) (λi _=>uJ rs (mG b8 i)++(y::(rr,mL 8 t0 t1 t2)::S0)) () p10 (z9 (n:=8) (t:=t0) (u:=t1) (v:=t2) 64 0 hh (p10.base B).top (p10.get ϙ) (p10.sg _ ϙ).2.1 Z aL)
  (by show km.rf bF bF) (λy hy=>hy) (ak Z) (λ_ _ _=>rfl) (λi n z t W hn q=>?_) (λ_=>rfl) (λs11 _ p11=>ff ⟨rfl,(),p11.sub λz hz=>?_,λx E=>?_⟩)
 .show eZ (o9.mp hn) λhi hn=>?_;have wm:(n:Int)=aj i:=by rw[hn];simp
  subst wm;have hmi:=PQ hm i au;show ie (hmi.get (i:=i) au) λm1 m2 m3=>?_;show eZ (PO i au) λf1 f2=>?_;show eZ (afx (1+i) au) λg1 g2=>?_;show ϧ (a:=rs.getD i 0) (k:=0) (m:=8) (ms:=PN i) (f4:=N) q ?_ (yS i (ar 9 Z) (V.to (fu (x:=0) (y:=i) (ar 14 Z) (ar 67 Z)) fH) (hr _ au) au Z) (ar 15 Z)
   (fu (x:=0) (y:=8) (ar 15 Z) (aR 8)) (dc _ (pH (hr _ au) m1)) m3 au au f2 Z (yR tR (hr _ au) _ ξ) λt1 q1=>?_
  .show V.to (acC (K:=(FPN.getD (1+i) []).map aT) (k:=1) (m:=9) (q.base B).top (wD (k:=aj (1+i)) (Ϩ (q.base B) Z hgf Z (hvf.ext q.ext)) (fu (x:=1) (y:=i) (ar 65 Z) (ar 67 Z)) ?_ Z (λ_=>?_)) (ar 66 Z) (fu (x:=1) (y:=8) (ar 66 Z) (aR 8)) (hO _) aL (by rw[ik,g1];decide) (by rw[ik,g1];decide) (by rw[ik,g1];decide)) (by simp only[PN,AN,EU])
   .change cond (dY (1+i) 1000000) ((FPN.map λr=>fI (r.map aT))[1+i]?) eV=_;rw[eU au,cZ,g2];rfl
   .show hO _
  show ff ⟨rfl,(),q1.less (by show km.rf bF bF)⟩
 .simp only[bY,bq]at hz ⊢;rcases hz with h|h|h
  .show aw (ak h)
  .show ak h
  .show aw (aw (aw h))
 .rcases bY.mp E with h|h
  .intro e;unfold uJ at h;have h2:=(sW (show(x.1,x.2)∈_ from h)).1;show ξ y (cR ..) (e▸h2)
  .show hny x (bW _ (ew _ h))
end
theorem ahO:gw (ao "bytearray") "__getattribute__" =pure (O (bB "bytearray.__getattribute__")):=by ext
theorem zA:PlainAttrs "bytearray" :=
 ⟨(cn ("bytearray.__getattribute__") ahO Z),by ext⟩
theorem xf:xT (bB "bytearray.extend")=pure (ao "method_descriptor"):=by ext
theorem rV{o:aG}{args:List aG}{Q:aa->af->Prop}(xh:uU o name J (a7 o J)=a7 o J)(Ϫ:Kb (args.length+([]:List AA).length) (jV pos (jq args J)) (backToKw pos (Kl [] J))=N)(lz:(apos.endLine==pos.line)=N)(h:C A (a7 o J) s (λov aD=>∀pl,C A (Ew ov name pl) aD (λfx aQ=>C A (xO pos fx.1 fx.2 (jV pos (jq args J)) []) aQ Q))):
 C A (a7 (bx (gZ o name apos) args [] pos) J) s Q:=by
 rw[arm_eval_Call,xh];show C.bind (h.mono λov aD U=>C.bind (C.standAt ?_))
 delta methodCall
 show Ϫ.symm▸C.bind (C.holding (C.mono (U _) λfx aQ ko=>?_));show C.bind (C.eq (by delta methodCallPos;simp[lz]) ko)
theorem ze{o:aG}{acD:aV}{Q:cb->af->Prop}(hs:fD value (O (gZ o acD Ct)) pos.line J=pure ab)(h:C A (a7 value J) s (λv aD=>C A (a7 o J) aD (λov aQ=>C A (setAttr ov acD v) aQ (λ_ Y=>Q cL Y)))):C A (oJ (eF [gZ o acD Ct] value pos) J) s Q:=by rw[plainObj_exec_Assign_Attribute o acD Ct value pos hs];show nU<|C.bind<|h.mono λv aD U=>C.bind<|lH (U.mono λov aQ ko=>nU (lH (ko.mono λ_ dg uk=>C.release (C.pure uk))))
section
variable{Q:cb->af->Prop}{b:ae}
theorem Xk(ns ms:LN):wh ns++wh ms=wh (ns++ms):=by apply A7;simp[wh]
theorem lY.app(h:lY ns)(hm:∀x∈ms,x<256)(hl:ns.length+ms.length<=1000):lY (ns++ms):=⟨λx E=>by
 rcases bY.mp E with q|q
 .show h.1 x q
 .show hm x q,by simpa using hl⟩
theorem ϫ{l:aG}(hh:dh A)(p:PS H U L J aK bo bw G S s)(he:V H s.heap A L J G e (aH (R d)) ab)(hl:V H s.heap A L J G l (aY ms) ab)(hd:(d,kz ns)∈S)(hms:∀x∈ms,x<256)(dM:ns.length+ms.length<=1000)(dH:cI l=ab)(xh:uU e (aC "extend") J (a7 e J)=a7 e J)(lz:(apos.endLine==cpos.line)=N)(hi:iG J=ab)(hS:∀y∈S',(y.1=d/\y.2=kz (ns++ms))\/(y.1≠d/\y∈S))(kk:∀Y,PS H U L J aK bo bw G S' Y->C A (aU rest J) Y Q):C A (aU (qw (bx (gZ e (aC "extend") apos) [l] [] cpos) pos::rest) J) s Q:=by show z0 hi Z<|rV xh (by rw[l6 dH];rfl) lz<|WN (he p.er) λaD e1 pl=>have p1:=p.grow e1;have QM:=p1.get hd;cS<|TL (fy QM) zA pF xf (λa ea=>by obtain rfl:=j6 ea;show cn _ QM Z)<|de (by rw[l6 dH];rfl) ?_;rw[l6 dH];show eu (cu (T.wcE (hl (p.er.ext e1.ext)) λu aQ F2 e2 V2 _=>c8 (lU ⟨rfl,?_⟩)));have p2:=p1.grow e2;have Τ:=p2.get hd;show iO V2 λla vs n F' dX _ ID V' _=>?_;subst dX;show wZ hh Τ ID (intsAre_of V' (dS ms)) hms (by rw[hZ];show dM) λs3 tn ho3=>⟨rfl,?_⟩;rw[Xk]at ho3;show kk s3 (p2.turn hd Z tn ho3 Z hS)
structure qY(U:aO)(f:Nat->cq):Prop where
 Ht:qX U 1956 (f 0) (vC 2)
 Xl:(f 0).defaults=R 1949
 dft:∃n,U.get? 1949=O (cV [R 1948] n)
 emp:∃n,U.get? 1948=O (cV [] n)
theorem qY.ext(x:hJ H U h)(dB:qY U f):qY h f:=⟨dB.Ht.ext x,dB.Xl,dG dB.dft λn e=>⟨n,x.keep _ _ (DQ Z) e⟩,dG dB.emp λn e=>⟨n,x.keep _ _ (DQ Z) e⟩⟩
end
section
variable{b:ae}
noncomputable def Xm(f:Nat->cq)(br:ae):cJ:=gN (f 0) br 1956
theorem Ϭ(B:cx U mg mb)(I:dQ mg mb)(X:(iC P t f).In U)(dB:qY U f)(bK:A.depth<1000)(x1:hJ H U s.heap)(cA:zZ U S s.heap)(Rh:(b,vj 2002 dx)∈S)(hdo:(dx,iy)∈S)(hlu:us.length=2)(si:T A.in1 (dw (f 0) ⟨R b::vs,[]⟩) s (λbs Y=>Y=s/\bs=([110,111].map NM).zip us))(aP:bA s.heap [aH (R b),av] us F)(N9:∀br aD v F,hJ H U aD.heap->bM aD.heap av v F->C (A.deeper (Xm f br)) (call (ao "bytearray") [v]) aD (λu aQ=>u=R aD.heap.objs.size/\aQ={aD with heap:=aD.heap.push (kz ns)}))(hq:∀Y d br G,s.heap.get? d=ai->PS H U (bf (vC 2)) (Xm f br) s [] (S.map (·.1)) G ((b,qW dx d)::(d,kz ns)::S.filter (λy=>y.1 != b)) Y->aN (bX (cG ax)) Y):
 CC A (ng (R 1956) ⟨R b::vs,[]⟩) s aN:=by
 have N':=dB.Ht.ext x1;show bg N'.at_.obj λo ho hd=>(WV B x1 bK ho hd (N'.at_.abR (H:=H) (.refl _)) N'.body N'.clo (by rw[N'.scope];rfl) (by rw[N'.scope];rfl) si aP (by rw[N'.scope];rfl) N'.glob N'.bi aL hlu.symm (by rw[N'.scope];decide) cA λaQ br p=>?_);rw[N'.scope]at p;have p:=p;have hI:=I ("bytearray",ao "bytearray") aL;show il<|ze Z<|fY<|T.wR (eG (p.base B) p.er Z hI.1 hI.2 (rfl))<|de (rfl) (eu (cu (Lake.T.wcV (vY p.er (x:=111) Z) λv F4 V4=>c8 (iE ⟨rfl,?_⟩))));show(N9 br _ v F4 p.ext V4).mono λu s5 qQ=>eZ qQ λe1 e2=>e1▸e2▸have p5:=p.sk (o:=kz ns) (tk:=aQ.toks) B Z Z;T.wo (vY p5.er (x:=110) Z) λv6 s6 ou=>Ms ou λe1 F6 V6=>e1▸?_;apply bM.Gb V6;show cS<|PB (jj X p5.ext) (p5.get (bU _ Rh)) (p5.get (bU _ hdo)) λs7 tn hb7=>ff (hq s7 aQ.heap.objs.size br _ (p.mod.mod.new (bD _)) (p5.aer (bU _ Rh) Z tn hb7 Z λx E=>?_));have akp:aQ.heap.objs.size≠b:=λe=>by have:=cj (p.get Rh);rw[e]at this;show gy _ this
 rcases bq.mp E with e|E
 .left;rw[e];show⟨rfl,rfl⟩
 .rcases bq.mp E with e|E
  .right;rw[e];show⟨akp,cR ..⟩
  .show eZ (gu.mp E) λh1 h2=>(aw ⟨by simpa using h2,bW _ h1⟩)
theorem PR{rest:List aa}(B:cx U mg mb)(I:dQ mg mb)(X:(iC P t f).In U)(dB:qY U f)(p:PS H U L J aK bo bw G S s)(hS:∀y∈S,gm y.2=N)(si:∀s b,hJ H U s.heap->T (A.under (fG "type.__call__" ⟨R 2002::rest,[]⟩)).in1 (dw (f 0) ⟨R b::rest,[]⟩) s (λbs Y=>Y=s/\bs=([110,111].map NM).zip (R b::us)))(hlu:us.length=1)(aP:bA s.heap [av] us F)(hd:(A.under (fG "type.__call__" ⟨R 2002::rest,[]⟩)).depth<1000)(N9:∀fZ aD v F,hJ H U aD.heap->bM aD.heap av v F->C ((A.under (fG "type.__call__" ⟨R 2002::rest,[]⟩)).deeper fZ) (call (ao "bytearray") [v]) aD (λu aQ=>u=R aD.heap.objs.size/\aQ={aD with heap:=aD.heap.push (kz ns)}))(hq:∀Y b dx d,b≠dx->b≠d->dx≠d->(∀y∈S,y.1≠b/\y.1≠dx/\y.1≠d)->PS H U L J aK bo bw G (jf b dx d ns++S) Y->Q (R b) Y):C A (call (R 2002) rest []) s Q:=by
 have Xs:=jj X p.ext;show aci (makes_of Xs ϋ) (A4 Xs acj) (λself=>bind_fn Xs self ό) Z ?_;have hsx:({s with heap:=s.heap.push iy,toks:=s.toks}:af).heap.objs.size=s.heap.objs.size+1:=(dE ..);have p2:=hsx▸(p.sk (o:=iy) (tk:=s.toks) B Z Z).sk (o:=vj 2002 s.heap.objs.size) (tk:=s.toks) B Z Z;have hSb:∀y∈S,y.1≠s.heap.objs.size+1/\y.1≠s.heap.objs.size:=λy hy=>by have:=cj (p.sg y hy).1;show⟨fE (kX this),fE this⟩
 show Ϭ (F:=F) B I X dB hd p2.ext p2.sg (ez ..) (bU _ (ez ..)) (by simp[hlu]) (si _ _ p2.ext) ?_
  (λbr s1 v F x aP=>N9 _ s1 v F x aP) λY d br G' hdn q=>⟨rfl,?_⟩
 .show ej [] F (.ip _) (aP.ext (H:=H) ((hJ.push _ _).trans (.push _ _)))
 have pe:=p2.called q λy hy=>by
  rcases bq.mp hy with e|hy
  .rw [e];rfl
  .show bc (bq.mp hy) (λe=>by rw[e];rfl) λhy=>hS y hy
 have afy:∀y∈(s.heap.objs.size+1,vj 2002 s.heap.objs.size)::(s.heap.objs.size,iy)::S,y.1≠d:=λy hy e=>by have:=(p2.sg y hy).1;have this:=e▸this;have this:=(show({s with heap:=(s.heap.push iy).push (vj 2002 s.heap.objs.size)}:af).heap.get? d=ai from hdn).symm.trans this;ext
 show hq Y (s.heap.objs.size+1) s.heap.objs.size d (yj _) (afy _ (ez ..)) (afy _ (bU _ (ez ..))) (λy hy=>gT ((hSb y hy).1) ((hSb y hy).2) (afy y (bU _ (bU _ hy)))) (pe.sub λx E=>?_);rcases bY.mp E with E|E
 .simp only[jf,bq,mZ,or_false]at E;rcases E with e|e|e
  .rw [e];show cR ..
  .rw [e];show bW _ (bU _ (gu.mpr ⟨by lia,?_⟩));simp
  .rw [e];show by lia
 .show bW _ (bU _ (gu.mpr ⟨bW _ (bU _ E),?_⟩));simpa using (hSb x E).1
end
section
variable{b:ae}
theorem acE:yq (iC P t f) (R 2002) "__call__" =O (O (bB "type.__call__")):=by ext
theorem Hu{Q:Keeper->af->Prop}(X:(iC P t f).In s.heap)(h:Q FG s):aA M A (Ax (R 2002)) Q aX s:=ah<|jo (X 2002 _ Z)<|ah<|(looks_specialIn X acE).here<|aB h
theorem RW(dB:qY U f)(x:hJ H U s.heap)(v u:aa):T A (dw (f 0) ⟨[v,u],[]⟩) s (λbs Y=>Y=s/\bs=([110,111].map NM).zip [v,u]):=by
 show dG ((dB.ext x).dft) λn hd=>?_
 delta dw
 show dB.Ht.params.symm▸dB.Xl.symm▸dB.Ht.kwd.symm▸ah (aB (ah (jD hd Z ?_)));show aB ⟨rfl,rfl⟩
theorem RX(dB:qY U f)(x:hJ H U s.heap)(v:aa):T A (dw (f 0) ⟨[v],[]⟩) s (λbs Y=>Y=s/\bs=([110,111].map NM).zip [v,R 1948]):=by
 show dG ((dB.ext x).dft) λn hd=>?_
 delta dw
 show dB.Ht.params.symm▸dB.Xl.symm▸dB.Ht.kwd.symm▸ah (aB (ah (jD hd Z ?_)));show aB ⟨rfl,rfl⟩
theorem acF(B:cx U mg mb)(I:dQ mg mb)(X:(iC P t f).In U)(dB:qY U f)(bK:A.depth<990)(hg:mg (aC "Buffer")=O (R 2002))(kM:Gi L "Buffer")(p:PS H U L J aK bo bw G S s)(hS:∀y∈S,gm y.2=N)(he:V H s.heap A L J G e (aY bits) ab)(dH:cI e=ab)(D:lY bits)(hq:∀Y b dx d,b≠dx->b≠d->dx≠d->(∀y∈S,y.1≠b/\y.1≠dx/\y.1≠d)->PS H U L J aK bo bw G (jf b dx d bits++S) Y->Q (R b) Y):
 C A (a7 (bx (aq (aC "Buffer") np) [e] [] pos) J) s Q:=by
 show fY<|T.wR (sd (p.base B) p.er kM hg (rfl))<|de (by rw[l6 dH];rfl) ?_;rw[l6 dH];show eu (cu (T.wcE (he p.er) λu s2 F2 e2 V2 _=>c8 (cS (Hu (jj X (p.grow e2).ext) ⟨rfl,?_⟩))));show PR (F:=F2) B I X dB (p.grow e2) hS (λs b x=>RW dB x _ _) Z (DT u [] F2 [] rfl V2 .nil fH) au (λfZ s1 v F x aP=>?_) hq;show fR aP λla vs n F' dX _ ID V' _=>dX▸uH ("list") n ID (ak Z) (intsAre_of V' (dS bits)) D.1 D.2 ⟨rfl,rfl⟩
theorem acG(B:cx U mg mb)(I:dQ mg mb)(X:(iC P t f).In U)(dB:qY U f)(bK:A.depth<990)(hg:mg (aC "Buffer")=O (R 2002))(kM:Gi L "Buffer")(p:PS H U L J aK bo bw G S s)(hS:∀y∈S,gm y.2=N)(hq:∀Y b dx d,b≠dx->b≠d->dx≠d->(∀y∈S,y.1≠b/\y.1≠dx/\y.1≠d)->PS H U L J aK bo bw G (jf b dx d []++S) Y->Q (R b) Y):
 C A (a7 (bx (aq (aC "Buffer") np) [] [] pos) J) s Q:=by
 show fY<|T.wR (sd (p.base B) p.er kM hg (rfl))<|de (by rfl) (B2 (cS (Hu (jj X p.ext) ⟨rfl,?_⟩)));show PR (F:=[]) B I X dB p hS (λs b x=>RX dB x _) Z (DT _ [] [] [] rfl (.ip _) .nil Z) au (λfZ s1 v F x aP=>?_) hq;show aP.DE▸dG ((dB.ext x).emp) λn e=>(uH (vs:=[]) (ns:=[]) ("tuple") n e (aw Z) qA (zk) bu ⟨rfl,rfl⟩)
end
section
variable{b:ae}
theorem DJ{Q:aa×List aa->af->Prop}(X:(iC P t f).In s.heap)(hB:wi s.heap b dx d ns)(h1:iJ (iC P t f) (R 2002) name=O (O (R fa)))(h2:qz (iC P t f) (R fa)=O (ao "function"))(hs:shadowIn (O iy) name=O ab)(h:Q (R fa,[R b]) s):aA (aE prog w) A (Ew (R b) name pl) Q aX s:=
 method_fn X (w7 hB.obj hB.WZ) (A5 (B3 name)).1 (A5 (B3 name)).2 h1 h2 hs h
theorem Hv{o:aG}{args:List aG}(X:(iC P t f).In U)(p:PS H U L J aK bo bw G S s)(he:V H s.heap A L J G o (aH (R b)) ab)(yT:∀y∈jf b dx d ns,y∈S)(hn:lY ns)(h1:iJ (iC P t f) (R 2002) name=O (O (R fa)))(h2:qz (iC P t f) (R fa)=O (ao "function"))(hs:shadowIn (O iy) name=O ab)(dB:qX U fa fd st)(xh:uU o name J (a7 o J)=a7 o J)(Ϫ:Kb (args.length+([]:List AA).length) (jV pos (jq args J)) (backToKw pos (Kl [] J))=N)(lz:(apos.endLine==pos.line)=N)(h:∀aD,dA H s aD->C A (xP (R fa) N (jV pos (jq args J)) []) aD (λx aQ=>(∃τ',hJ τ' U aQ.heap)/\C A (call (R fa) (R b::x.pos) x.kw) aQ Q)):
 C A (a7 (bx (gZ o name apos) args [] pos) J) s Q:=by
 show rV xh Ϫ lz<|WN (he p.er) λaD e1 pl=>have p1:=p.grow e1;cS<|DJ (jj X p1.ext) (p1.Hm yT hn) h1 h2 hs<|bg dB.at_.obj λob ho hd=>(pG ob fd ((h aD e1).mono λx aQ q=>dG q.1 λτ2 x2=>⟨⟨x2.keep _ _ dB.at_.off ho,hd⟩,q.2⟩))
theorem Hw(hh:dh A)(QM:s.heap.get? a=O (kz ns))(hB:lY ns)(top:QR<=s.heap.objs.size):T A (call (ao "list") [R a]) s (λv Y=>dA H s Y/\bM Y.heap (aY ns) v [s.heap.objs.size]):=by
 show Pr hh QM (by rw[hZ];show hB.2) λh' tk IT c' hk hl um=>?_;have hsz:IT.size=ns.length:=by rw[um.1,hZ]
 have ϭ:bA h' (ns.map aT) IT.toList []:=by
  have key:∀(ns:LN) (vs:List aa),vs.length=ns.length->(∀(j:Nat) v,vs[j]? =O v->∃n tk,ns[j]? =O n/\v=ag (aj n) tk)->bA h' (ns.map aT) vs []:=by
   intro ns;induction ns with
   |nil=>intro vs hl _;rw[rn.mp hl];show⟨rfl,rfl⟩
   |cons n ns ih=>
    intro vs hl hv;cases vs with
    |nil=>ext
    |cons v vs=>show eS (hv 0 v Z) λm tk h1 h2=>?_;obtain rfl:=aW h1;show h2▸ej [] [] (.ofInt _ _) (ih vs (by simpa using hl) λj v hj=>?_);simpa using hv (j+1) v (hj)
  show key ns IT.toList (hsz) λj v hj=>(eS (um.2 j v (by simpa using hj)) λx tk h1 h2=>?_);have hj':j<ns.length:=by have:=(dR.mp hj).1;simp at this;lia
  show kH (ns[j]) tk (by simp[hj']) ?_;rw[Nf (x:=ns[j]) (by simp[hj'])]at h1;obtain rfl:=aW h1;rw[h2,RH (hB.1 _ (KR hj'))];rfl
 show⟨⟨.of_keep hk,rfl,rfl,eW _⟩,?_⟩;show r9 [] (fo top) (by rw[hl];rfl) ϭ
theorem JC(hh:dh A)(B:cx U mg mb)(I:dQ mg mb)(kM:Gi L "list")(ho:U.get? a=O (kz ns))(ht:a∉bV)(hB:lY ns)(he:V H U A L J G e (aH (R a)) ab)(dH:cI e=ab):
 V H U A L J G (bx (aq (aC "list") np) [e] [] pos) (aY ns) fr:=λs r=>by
 show mD ("list") ("list") B I aL kM (rfl) (fL.cons he fL.nil dH) (by simp[dW,dH]) r λvs aD F e1 V1=>?_;apply vB V1;have x1:=r.base.trans e1.ext;show(Hw hh (x1.keep a _ ht ho) hB (jw B.top x1)).Cw λv s2 e2 aP=>(o6 _ (e1.trans e2) aP (λ_=>⟨λb D=>?_,by simp⟩));apply jQ D;show e1.ext.new (bD _)
end
section
open PySem.W PySem.NumText
noncomputable def xi(b:Bool):Nat:=if b then 49 else 48
noncomputable def B7(l:List Bool):Nat:=l.foldl (λn b=>2 * n+(if b then 1 else 0)) 0
noncomputable def Ϯ:Nat->List (List Bool)
 | 0=>[[]]
 |n+1=>(Ϯ n).map (ab::·)++(Ϯ n).map (N::·)
theorem Hz:∀l:List Bool,l∈Ϯ l.length
 | []=>cR ..
 |false::l=>dc _ (Ul (Hz l))
 |true::l=>ew _ (Ul (Hz l))
theorem ϯ:∀b0 b1 b2 b3 b4 b5 b6 b7:Bool,(int_private% "readNumeral") 0 2 ([b0,b1,b2,b3,b4,b5,b6,b7].map xi)=(int_private% "Numeral.value") (B7 [b0,b1,b2,b3,b4,b5,b6,b7]:Nat):=λb0 b1 b2 b3 b4 b5 b6 b7=>va.mp (by(ext):(Ϯ 8).map (λl=>(int_private% "readNumeral") 0 2 (l.map xi))=(Ϯ 8).map (λl=>(int_private% "Numeral.value") (B7 l:Nat))) _ (Hz [b0,b1,b2,b3,b4,b5,b6,b7])
theorem ϰ{QU:LN}{n:Int}(hs:(QU.takeWhile (· != 0)).length<=640)(hr:(int_private% "readNumeral") 0 2 (QU.takeWhile (· != 0))=(int_private% "Numeral.value") n)(ha:((QU.takeWhile (· != 0)).length==QU.length)=N)(h:Q (ag n s.toks) {s with toks:=s.toks+1}):
 aA M A ((int_private% "intFromText") v QU 2) Q aX s:=by
 obtain⟨hp,g,d,tk,os⟩:=s;repeat (any_goals (first
  |assumption
  |(with_reducible show Eg (decide_eq_true hs) ?_)
  |(with_reducible show Eg (decide_eq_true ha) ?_)
  |wp_step))
 all_goals (try show hr.symm▸?_)
 all_goals (try dsimp only)
 repeat (any_goals (first
  |assumption
  |(with_reducible show Eg (decide_eq_true hs) ?_)
  |(with_reducible show Eg (decide_eq_true ha) ?_)
  |wp_step))
theorem PT{x:PySem.Str}{u2:ba}{n:Int}(hl:(Av x).length<=640)(hr:(int_private% "readNumeral") 0 2 (Av x)=(int_private% "Numeral.value") n)(ha:((Av x).length==(Ex x).length)=N):
 Gives (Builtin.«int.__new__» ⟨[ao "int",cO x u,ag 2 u2],[]⟩) (Made.int n):=
 Wh λM A aX s Q h=>by
  obtain⟨hp,g,d,tk,os⟩:=s;have f1:=F.conv_sub_int;have f2:=F.madeHere_int;have hk:=λ_:True=>FL hl (FL hr ha);repeat (any_goals (first
   |assumption
   |((with_reducible change aA _ _ ((int_private% "intFromText") _ _ _) _ _ _);show ϰ (hk trivial).1 (hk trivial).2.1 (hk trivial).2.2 ?_)
   |wp_step))
  all_goals first|show⟨_,rfl,h⟩|skip
theorem HA(a b:aa):xH "int" ⟨[a,b],[]⟩=pure ():=by ext
theorem IX(a b:aa):sH "int.__new__" ⟨[ao "int",a,b],[]⟩=pure ():=by ext
end
theorem args_object_init_3(a b c:aa):jW "object.__init__" ⟨[a,b,c],[]⟩:=by ext
theorem Xn:mroOf (ao "map")=pure [ao "map",ao "object"]:=by ext
theorem HB:gw (ao "map") "__new__" =pure (O (bB "map.__new__")):=by ext
theorem B8:oF (ao "map") (ao "map")=pure N:=by ext
theorem IY:lJ "map" "__init__" "object.__init__" :=
 ny (owner:= "object") (n:= "__init__") (rfl) (rfl) (rfl) (rfl) (by first|show ak (rfl)|show .inr (rfl)) (rfl)
theorem RY:As "map" "map.__new__" "object.__init__" :=
 ⟨rfl,rfl,⟨_,_,Xn⟩,madeBy_type Xn HB bF,by ext,B8,IY⟩
theorem HC(a b:aa):xH "map" ⟨[a,b],[]⟩=pure ():=by ext
theorem IZ(a b:aa):sH "map.__new__" ⟨[ao "map",a,b],[]⟩=pure ():=by ext
theorem I1:gO table "map.__new__" =O Builtin.«map.__new__»:=mh (rfl)
theorem xj:gO table "map.__next__" =O Builtin.«map.__next__»:=mh (rfl)
theorem mR:lJ "map" "__next__" "map.__next__" :=
 ny (owner:= "map") (n:= "__next__") (rfl) (rfl) (rfl) (rfl) (by first|show ak (rfl)|show .inr (rfl)) (rfl)
theorem zB:lJ "map" "__iter__" "map.__iter__" :=
 ny (owner:= "map") (n:= "__iter__") (rfl) (rfl) (rfl) (rfl) (by first|show ak (rfl)|show .inr (rfl)) (rfl)
theorem HD:gO table "map.__iter__" =O Builtin.«dict_keyiterator.__iter__»:=
 J8 (id':= "dict_keyiterator.__iter__") ((xF _).trans bF) aL bF ((xF _).trans bF)
theorem zC(a:aa):jW "map.__next__" ⟨[a],[]⟩:=vi bF
theorem I3(a:aa):jW "map.__iter__" ⟨[a],[]⟩:=vi bF
theorem RZ:gw (ao "map") "__len__" =pure ai:=by ext
theorem PU:gw (ao "map") "__length_hint__" =pure ai:=by ext
noncomputable def zf(T:ae):bE:={cls:=ao "map",data:=bH #[R T,ao "str"]}
theorem Nl{l:ae}(hl:s.heap.IsList l items)(h:Q (R (s.heap.objs.size+2)) {s with heap:=((s.heap.push {cls:=ao "list_iterator",data:=bH #[R l,ag 0 0]}).push (cV [R s.heap.objs.size] 0)).push (zf (s.heap.objs.size+1))}):
 aA (aE prog w) A (call (ao "map") [ao "str",R l]) Q aX s:=by
 show Ki (S:=λA aN Y=>Y=s/\aN (bX (cG (R (s.heap.objs.size+2)))) {s with heap:=((s.heap.push {cls:=ao "list_iterator",data:=bH #[R l,ag 0 0]}).push (cV [R s.heap.objs.size] 0)).push (zf (s.heap.objs.size+1))})
  RY (rfl) (HC _ _) (IZ _ _) (λobj=>args_object_init_3 obj _ _) I1 (rQ λprog w A aN Y qQ=>eZ qQ λe hq=>?_) (gT Z ?_ h)
 .subst e;obtain⟨hp,g,d,tk,os⟩:=Y
  delta Builtin.«map.__new__» abm abk abn abl
  show ah<|ah<|fM (a:=N) (rfl)<|ah<|fM B8<|aB ?_;dsimp only;show ah<|aB<|ah<|ah<|ah<|ah<|cQ<|uR hl<|aB<|aB<|aB<|ah (ij ?_ (show(1:Nat)<=fg by decide));show ah (ij ?_ (by size_fits));have e1:(hp.push {cls:=ao "list_iterator",data:=bH #[R l,ag 0 0]}).objs.size=hp.objs.size+1:=dE ..;have e2:((hp.push {cls:=ao "list_iterator",data:=bH #[R l,ag 0 0]}).push (cV [R hp.objs.size] 0)).objs.size=hp.objs.size+2:=by rw[dE,e1]
  show aB (cn _ Z ?_);change aN (bX (cG (R ((hp.push {cls:=ao "list_iterator",data:=bH #[R l,ag 0 0]}).push (cV [R hp.objs.size] 0)).objs.size))) _;rw[e2];have hm:zf (hp.objs.size+1)={cls:=ao "map",data:=bH #[R (hp.push {cls:=ao "list_iterator",data:=bH #[R l,ag 0 0]}).objs.size,ao "str"]}:=by rw[e1];rfl
  have hq':=hq;dsimp only at hq';rw[hm]at hq';show hq'
 .have e:=bJ ((s.heap.push {cls:=ao "list_iterator",data:=bH #[R l,ag 0 0]}).push (cV [R s.heap.objs.size] 0)) (o:=zf (s.heap.objs.size+1)) Z;rw[dE,dE]at e;show cn _ e Z
theorem Nm{T br l:ae}{t:ba}{Q:Option aa->af->Prop}(hI:s.heap.get? I=O (zf T))(hT:s.heap.get? T=O (cV [R br] k))(hL:s.heap.IsListIter br l i)(hl:s.heap.IsList l items)(E:items[i]? =O (ag (aj n) t))(hn:n<1000)(hQ:∀h',h'.IsListIter br l (i+1)->gx br s.heap h'->Q (O (cO (aC (toString (aj n))) s.toks)) {s with heap:=h',toks:=s.toks+1}):aA (aE prog w) A (gY (R I)) Q aX s:=by
 have Xp:s.TypeIs (R I) "map" :=cn _ hI Z;show gI hL λo ho hc hd=>QP hl λol hol _ nl Yy=>ah (sI (kS (name:=aC "__next__") Xp mR (jS mR Xp xj ?_ (zC _))));show(?_:aA _ _ (sQ (R I) 0>>=_) _ _ s);show ah<|f9 hI Z (x:=R T) Z<|ah (jD hT Z ?_);dsimp only;show ah<|ah<|ah<|cQ<|ah (kS (name:=aC "__next__") hL.typeIs Eb (jS Eb hL.typeIs TB ?_ (TH _)));show(?_:aA _ _ (sQ (R br) 0>>=_) _ _ s);show ah<|f9 ho hd (x:=R l) Z<|ah<|f9 ho hd (x:=ag i 0) Z<|ah (jD hol Yy ?_);simp only[Kw,E];show ah<|Aq ho hd (EY [].length)<|aB<|cn _ Z<|aB<|aB (aB ?_);have ϱ:br≠I:=λe=>by
  subst e;obtain rfl:=aW (hI.symm.trans ho);injection hc with h3
  show absurd h3 aL
 show ah<|f9 ((mn _ _ ϱ).trans hI) Z (x:=ao "str") Z<|have ZT:aj n=(n:Int):=rfl;ah (cQ (P.str_of_int (a:=aj n) (t:=t) ?_ ?_))
 .show jZ (Nat.log2_le_self n) au
 show ah (uY (aB (cn _ Z (aB (hQ _ ?_ (j5 ..))))));show⟨_,gQ _ ho (Obj.isFreed_of_fields (UX hd _)),(Obj.cls_mapFields ..).trans hc,by rw[UX hd];rfl⟩
theorem Nn{T br l:ae}{Q:Option aa->af->Prop}(hh:dh A)(hI:s.heap.get? I=O (zf T))(hT:s.heap.get? T=O (cV [R br] k))(hL:s.heap.IsListIter br l i)(hl:s.heap.IsList l items)(E:items[i]? =ai)(hQ:∀h',KD br s.heap h'->Q ai {s with heap:=h'}):aA (aE prog w) A (gY (R I)) Q aX s:=by have Xp:s.TypeIs (R I) "map" :=cn _ hI Z;show gI hL λo ho hc hd=>QP hl λol hol _ nl Yy=>ah (sI (kS (name:=aC "__next__") Xp mR (jS mR Xp xj ?_ (zC _))));show(?_:aA _ _ (sQ (R I) 0>>=_) _ _ s);show ah<|f9 hI Z (x:=R T) Z<|ah (jD hT Z ?_);dsimp only;show ah<|ah<|ah<|cQ<|ah (kS (name:=aC "__next__") hL.typeIs Eb (jS Eb hL.typeIs TB ?_ (TH _)));show(?_:aA _ _ (sQ (R br) 0>>=_) _ _ s);show ah<|f9 ho hd (x:=R l) Z<|ah<|f9 ho hd (x:=ag i 0) Z<|ah (jD hol Yy ?_);simp only[Kw,E];show ah<|mU<|ah<|Aq ho hd (Tt Z)<|ah<|ah (ij ?_ (by size_fits));show ah (m:=firstArgMember _ _)<|fM (a:=ax) (by first|rfl|(rw[firstArgMember];rfl))<|ij ?_ (by size_fits);show ah<|Kc<|(show A.in1.in1.handled=ai from hh).symm▸ah (aB (Kk ?_));show ah (mS (T:= "StopIteration") (b:=N) (cn _ (bJ _ Z) Z) J9 ?_);show aB (hQ _ (((j5 ..).extBut.push _).push _))
theorem Np{T:ae}(hI:s.heap.get? I=O (zf T))(h:Q (R I) s):aA (aE prog w) A (gr (R I)) Q aX s:=by have hT:s.TypeIs (R I) "map" :=cn _ hI Z;show J3 hT zB (jS zB hT HD ?_ (I3 _));show aB ⟨_,rfl, "map",_,hT,mR.lookup,h⟩
noncomputable def strN(n:Nat):aV:=aC (toString (aj n))
theorem Walks.map(hh:dh A){T br l:ae}(hIL:I≠br)(hTL:T≠br)(hlL:l≠br)(hi:fm items.toList (ns.map aj))(D:∀n∈ns,n<1000):
 mW prog w A I [I,T,br,l] [br] ns.length (λi v=>∃n t,ns[i]? =O n/\v=cO (strN n) t) (λi h=>h.get? I=O (zf T)/\h.get? T=O (cV [R br] k)/\h.IsListIter br l i/\h.IsList l items) where
 sub:=λb D=>by have D:=bI.mp D;lia
 frame:=λi h h' st hk=>rR (hk I bz _ st.1) (hk T bz _ st.2.1) (st.2.2.1.at λo e=>hk br bz o e) (st.2.2.2.at λo e=>hk l bz o e)
 item:=λi s Q aX hi' st hQ=>by
  show eZ (n6 hi) λl1 l2=>?_;have hsz:items.size=ns.length:=by simpa using l1
  have E:items[i]? =O items[i]:=by simp[hi']
  show eS (l2 i items[i] (by simp[hi'])) λn t h1 h2=>?_;rw[cZ]at h1;show bg (iY.mp h1) λm h3 h4=>?_;subst h4;rw[h2]at E;show Nm st.1 st.2.1 st.2.2.1 st.2.2.2 E (D m (cY h3)) λh' g1 g2=>hQ _ h' _ (kH m _ h3 Z) (rR (g2.extBut _ _ hIL st.1) (g2.extBut _ _ hTL st.2.1) g1 (st.2.2.2.extBut g2.extBut hlL)) λb o D e=>g2.extBut b o (vw D) e
 done:=λs Q aX st hQ=>eZ (n6 hi) λl1 l2=>Nn hh st.1 st.2.1 st.2.2.1 st.2.2.2 (by simp[(by simpa using l1)]) λh' he=>hQ h' s.toks λb o D e=>he b o (by show vw D) e
 self:=λi s Q aX st hQ=>Np st.1 hQ
section
open PySem.W PySem.NumText
section
variable{G:Array eT->Array eT->Prop}{P:Nat->aa->Prop}{St:Nat->af->Prop}
theorem HE{Q:List aa->af->Prop}(W:WalksS prog w A.in1 I fp wr G n P St)(hT:∀i s,St i s->s.TypeIs (R I) ty)(dH:St 0 s)(Al:∀b∈fp,b<s.heap.objs.size)(hI:I∈fp)(t1:(ao ty==ao "list")=ab)(t2:(ao ty==ao "tuple")=ab)(ϲ:gw (ao ty) "__len__" =pure ai)(R0:gw (ao ty) "__length_hint__" =pure ai)(hQ:∀Y jP,Moved wr G s Y->ItemsOf P jP n->Q jP.toList Y)(hn:n<=fg):aA (aE prog w) A (collect (R I)) Q aX s:=by
 have ZU:=λhm=>gy _ (Al _ hm);have hSI:s.heap.objs.size≠I:=λe=>ZU (e▸hI);show ah<|Ka<|qg LX<|ah<|ij<|aB ⟨lI LZ _,qg Ft ?_⟩;have xa:=W.frame 0 s (s.heap.push {cls:=ao "list",data:=bQ ([]:List aa).toArray}) s.toks dH (ey _) λb _ o e=>a0 _ e;show(?_:aA _ A.in1 (Vo (R s.heap.objs.size) (R I) (R s.heap.objs.size)) _ _ _);show ah (oB (hT 0 _ xa) ?_);have h1:yy (R s.heap.objs.size) (R I)=ab:=by simp[yy,hSI]
 show wpAny_ite_false (by rw[h1,t1,t2];rfl)<|ah<|W.self 0 _ _ _ xa<|ah<|cQ<|ah<|eN (hT 0 _ xa) ϲ<|ah<|eN (hT 0 _ xa) R0<|aB<|(?_:aA _ A.in1 (sR "list.extend.makes-room" >>=λ_=>Vq (R s.heap.objs.size)>>=λ_=>
  again (fG "list.extend.loop" ⟨[R s.heap.objs.size,R I,R s.heap.objs.size],[]⟩)) _ _ _)
 show ah<|mU<|have PG:(s.heap.push {cls:=ao "list",data:=bQ ([]:List aa).toArray}).get? s.heap.objs.size=O {cls:=ao "list",data:=bQ ([]:List aa).toArray}:=bJ _ Z;ah<|ah<|uT PG Z<|have He:=gQ (dO (·.push ax)) PG Z;uT He Z ?_;have YR:∀b o,b≠s.heap.objs.size->(s.heap.push {cls:=ao "list",data:=bQ ([]:List aa).toArray}).get? b=O o->
  (((s.heap.push {cls:=ao "list",data:=bQ ([]:List aa).toArray}).update s.heap.objs.size (dO (·.push ax))).update s.heap.objs.size (dO (·.pop))).get? b=O o:=
  λb o D e=>(mn _ _ (eQ D)).trans ((mn _ _ (eQ D)).trans e)
 show aB ⟨lI Fq _,Tw W hn _ ZU _ n 0 _ _ _ Z (fk _)
  (W.frame 0 ({s with heap:=s.heap.push {cls:=ao "list",data:=bQ ([]:List aa).toArray}}:af) _ s.toks xa (ey _) λb D o e=>YR b o (λh=>ZU (h▸D)) e) (gQ (dO (·.pop)) He Z) (Wf P) λY IT c' hm hS' ow=>?_⟩
 show ah<|jo hS'<|aB (hQ Y IT (Moved.drop_new (o:={cls:=ao "list",data:=bQ ([]:List aa).toArray}) (Moved.trans W.gtrans ((Moved.refl W.grefl).then_heap (by first|show ey _|show lP _|lia) λb o D e=>?_) hm) (ey _)) ow);show YR b o (λh=>D (h▸cR)) e
theorem PV{x:aV}{t:ba}(W:WalksS prog w A.in1.in1 I fp wr G n P St)(hT:∀i s,St i s->s.TypeIs (R I) ty)(dH:St 0 s)(Al:∀b∈fp,b<s.heap.objs.size)(hI:I∈fp)(t1:(ao ty==ao "list")=ab)(t2:(ao ty==ao "tuple")=ab)(ϲ:gw (ao ty) "__len__" =pure ai)(R0:gw (ao ty) "__length_hint__" =pure ai)(akq:∀i v,P i v->∃y u,v=cO y u)(hq:∀Y (l:List (aV×ba)),Moved wr G s Y->ItemsOf P (Aw l).toArray n->JoinOk x (l.map (·.1))=N/\∀t' k,Q (cO (Txt.join x (l.map (·.1))) t') {Y with toks:=k})(hsz:n<=fg):
 aA (aE prog w) A (call (bB "str.join") [cO x t,R I]) Q aX s:=by
 show kT (xy VH.plain PySem.F.entry_str_join (VH.check _ _ _ _ _ _ _ _ (typeIs_str _ _ _) (PySem.F.args_str_join_2 _ _) ?_));dsimp only[join_tree_other];show ah (oB (hT 0 s dH) ?_);rw[if_neg (by rw[t1,t2];decide)];show ah<|wpAny_tryCatch<|W.of_in1.self 0 s _ _ dH<|ah (HE W hT dH Al hI t1 t2 ϲ R0 (λY jP hm ow=>?_) hsz);show dG (exists_strValues jP.toList λv hv=>by obtain⟨j,hj,rfl⟩:=Array.mem_iff_getElem.mp (Array.mem_toList_iff.mp hv);show akq j _ (ow.2 j _ (yr hj))) λl hl=>?_
 show hl▸eZ (hq Y l hm (by rw[hl];simpa using ow)) λoy ahP=>?_;unfold JoinOk at oy;rw[ve]at oy;have g:Gives (joinTail x (Aw l)) (joinMade x l):=by
  have g0:=gives_joinTail x l oy;cases l with
  |nil=>show g0
  |cons p r=>cases r with|nil=>show g0|cons q r'=>show g0
 show g prog w A (wants Q aX) Y (post_join l ⟨joinFit_length oy,ahP⟩)
end
end
section
open PySem.W PySem.NumText
def ϳ(H:List ae)(U:aO)(A:b9)(L:du)(J:cJ)(G:iz)(e:aG)(ns:LN):Prop:=
 ∀⦃s:af⦄,ER H U L J s.heap G->T A (a7 e J) s (λv Y=>dA H s Y/\∃a,v=R a/\s.heap.get? a=ai/\Y.heap.get? a=O (kz ns))
theorem JD(ns:LN)(k m:Nat):(((wh ns).toList.drop k).take (m - k)).toArray=wh ((ns.drop k).take (m - k)):=by apply A7;simp[wh]
theorem ϴ{l u:aa}{lo hi:Option Int}(hl:AB l lo)(hu:AB u hi)(e:dA H s dg)(ho:dg.heap.get? a=O (kz ns))(hB:lY ns)(hse:KBy.picked (wh ns) lo hi=wh ms)(hs:Em slice ab (R a) (R dg.heap.objs.size)=operate [R dg.heap.objs.size,R a] (xR (R a) (R dg.heap.objs.size))):
 aA (aE prog w) A (subscriptTail value slice (R a) (R dg.heap.objs.size)) (λv Y=>dA H s Y/\∃a,v=R a/\s.heap.get? a=ai/\Y.heap.get? a=O (kz ms)) aX {dg with heap:=dg.heap.push {cls:=ao "slice",data:=bH #[l,u,ax]}}:=by
 have ho4:=a0 {cls:=ao "slice",data:=bH #[l,u,ax]} ho;have E:hJ H s.heap (dg.heap.push {cls:=ao "slice",data:=bH #[l,u,ax]}):=e.ext.trans (.push _ _);show vh (fy ho4) jA.lookup (cQ<|ah<|xE (fy ho4) (rfl)<|ah (kS (fy ho4) jA (qh jA (fy ho4) uF (we _ _) (YC a _ (wh ns) hl hu (by rw[hZ];show hB.2)) (gT ho4 (bJ _ Z) (aB<|hse.symm▸⟨⟨E.trans (.push _ _),e.os,e.drawn,e.gens⟩,_,rfl,E.new (bD _),bJ _ Z⟩))))) hs
theorem R4{m:Nat}(ho:U.get? a=O (kz ns))(ht:a∉bV)(hB:lY ns)(he:V H U A L J G e (aH (R a)) ab)(hh:V H U A L J G lo (aT k) ab)(hj:V H U A L J G hi (aT m) ab)(Q2:k<=m)(hm:m<=ns.length):ϳ H U A L J G (dk e (ml (O lo) (O hi) eV p) pos) ((ns.drop k).take (m - k)):=λs r=>by show rL<|(he r).Z9 λaD e1=>Ep<|(hh (r.ext e1.ext)).Cz λt aQ e2=>(hj ((r.ext e1.ext).ext e2.ext)).tN λu' dg F3 e3 V3 _=>aB<|dG V3.toInt λt' dX=>dX▸have X':=(e1.trans e2).trans e3;ϴ (vq _ t) (vq _ t') X' ((r.base.trans X'.ext).keep a _ ht ho) hB ?_ Z;rw[VZ];simp only[UT,TY,clipAt_nat,hZ,AU hm,AU (a8 Q2 hm)];show JD ns k m
theorem ϳ.list(hh:dh A)(B:cx U mg mb)(I:dQ mg mb)(kM:Gi L "list")(hB:lY ns)(he:ϳ H U A L J G e ns)(dH:cI e=ab):
 V H U A L J G (bx (aq (aC "list") np) [e] [] pos) (aY ns) fr:=λs r=>by
 have hI:=I ("list",ao "list") aL;show mf<|T.Dm (eG B r kM hI.1 hI.2 (rfl))<|A1 (J5 ((he r).wp λv aD qQ=>oY qQ λe1 a ev hn QM=>aB ?_) (dp dH _ _)) (dp dH _ _) Z;show ev▸(Hw hh QM hB (jw B.top (r.base.trans e1.ext))).wp λv s2 qQ=>eZ qQ λe2 aP=>(o6 _ (e1.trans e2) aP (λ_=>⟨λb D=>?_,by simp⟩));apply jQ D;show e1.ext.new (bD _)
end
section
open PySem.W PySem.NumText
theorem HF:∀l:List aV,(xY "" l).cps.toList=(l.map λx=>x.cps.toList).flatten
 | []=>rfl
 | [x]=>by simp[xY]
 |x::y::r=>by rw[iI,Up,<-(HF (y::r))];change(x.cps++("" :aV).cps++(xY "" (y::r)).cps).toList=_;simp;rfl
noncomputable def YV(b:Bool):Nat:=if b then 1 else 0
theorem ϵ(b:Bool):(strN (YV b)).cps.toList=[xi b]:=by cases b<;>rfl
theorem YW(l:List Bool):xY "" (l.map λb=>strN (YV b))=⟨(l.map xi).toArray⟩:=by
 have h:=HF (l.map λb=>strN (YV b));have e:((l.map λb=>strN (YV b)).map λx=>x.cps.toList).flatten=l.map xi:=by
  rw[qm];induction l with
  |nil=>rfl
  |cons b l ih=>rw[iI,Up,iI];have:=ϵ b;simp only[Function.comp_apply,this];rw[show [xi b]++_=xi b::_ from rfl];congr 1;show ih (HF _)
 have:xY "" (l.map λb=>strN (YV b))=⟨(xY "" (l.map λb=>strN (YV b))).cps⟩:=rfl;rw[this];congr 1;show Array.toList_inj.mp ((h.trans e))
theorem HG:∀bs:List Bool,(bs.map xi).takeWhile (· != 0)=bs.map xi:=by
 intro xX;induction xX with
 |nil=>show rfl
 |cons b bs iH=>rw[iI,Uk,if_pos (by cases b<;>decide),iH]
def HH:cg:=vC 6
def JE:aG:=match a9 (bh HH) 1 with
 |yn (O e) _=>e
 |_=>fN rO 0 ⟨0,0,0,0⟩
noncomputable def afz:aG->aG
 |lL e _ _ _=>e
 |e=>e
noncomputable def wordAt(ns:LN)(k:Nat):Nat:=((ns.drop k).take 8).foldl (λwd b=>2 * wd+b) 0
section
variable{b:ae}
theorem HI(h1:cI e1=ab)(h2:cI e2=ab)(pos:cB):jV pos (jq [e1,e2] J)=[(ab,a7 e1 J),(ab,a7 e2 J)]:=by rw[dp h1,dp h2];rfl
theorem ϶(h:∀x∈l,x<2):∃bs:List Bool,l=bs.map YV/\l.foldl (λwd b=>2 * wd+b) 0=B7 bs:=by
 have:∀(l:LN) (a:Nat),(∀x∈l,x<2)->∃bs:List Bool,l=bs.map YV/\l.foldl (λwd b=>2 * wd+b) a=bs.foldl (λn b=>2 * n+(if b then 1 else 0)) a:=by
  intro l;induction l with
  |nil=>intro a _;show cn [] rfl Z
  |cons x l ih=>
   intro a h;have E:=h x au;show bg (ih (2 * a+x) λy hy=>h y au) λbs h1 h2=>?_;rcases(show x=0\/x=1 by lia) with rfl|rfl
   .show cn (ab::bs) (by rw[h1];rfl) h2
   .show cn (N::bs) (by rw[h1];rfl) h2
 show this l 0 h
theorem YX(l:List Bool)(hl:l.length<=8):JoinOk "" (l.map λb=>strN (YV b))=N:=by
 have:∀(l:List Bool) (a:Nat),(yd (λ(n:Nat) (x:aV)=>n+x.length+("" :aV).length) a (l.map λb=>strN (YV b)))=a+l.length:=by
  intro l;induction l with
  |nil=>intro a;rfl
  |cons b l ih=>
   intro a;rw[iI,iw,ih];have:(strN (YV b)).length=1:=by cases b<;>rfl
   simp[this];show ye a l.length
 delta JoinOk
 rw[List.foldl_toArray,this,qq]
 revert hl;generalize l.length=n;revert n;decide
theorem Ϸ{b:ae}:∀(hh:dh A) (B:cx s.heap mg mb) (I:dQ mg mb) (X:(iC P t f).In s.heap) (hB:wi s.heap b dx d ns) (r:ER H s.heap (uz JE) ZX s.heap Gx) (h1:ck Gx 110=O (k1,aH (R b))) (h2:ck Gx 92=O (k2,aT k)) (hk:k+8<=ns.length) (Ae:∀x∈ns,x<2),C A (a7 (afz JE) ZX) s (λy Y=>(∃tk,y=ag (aj (wordAt ns k)) tk)/\dA H s Y):=λhh B I X hB r h1 h2 hk Ae=>by
 have hI:=I ("int",ao "int") aL;have hM:=I ("map",ao "map") aL;have hS:=I ("str",ao "str") aL;have dM:=hB.ok.2;show fY (Lake.T.wR (eG B r (by decide+kernel) hI.1 hI.2 (by decide+kernel)) ?_);show de (by rfl) ?_;rw[HI (by rfl) (by rfl)];show eu (cu (rV (by rfl) (by rfl) (by rfl) (cS (Ea λpl=>cS (GM.join ?_)))));show de (by rfl) ?_;rw[l6 (by rfl)];have r2:ER H s.heap (uz JE) ZX ({s with toks:=s.toks+1}:af).heap Gx:=r;show eu (cu (fY (Lake.T.wR (eG B r2 (by decide+kernel) hM.1 hM.2 (by decide+kernel)) ?_)));show de (by rfl) ?_;rw[HI (by rfl) (by rfl)];show eu (cu (Lake.T.wR (eG B r2 (by decide+kernel) hS.1 hS.2 (by decide+kernel)) ?_));have hw8:((ns.drop k).take (k+8 - k)).length=8:=by simp;lia
 have hb8:lY ((ns.drop k).take (k+8 - k)):=⟨λx E=>hB.ok.1 x (rq (AH E)),by rw[hw8];decide⟩;have hk1:aj (k+8)=((k+8:Nat):Int):=rfl;have hk2:aj ns.length=(ns.length:Int):=rfl;show cu (Lake.T.wcE (BF (H:=H) (U:=s.heap) (fr:=N) (ns:=(ns.drop k).take (k+8 - k)) (ms:=bZ 0 0) B.top
  (ϳ.list hh B I (by rfl) hb8 (R4 (a:=d) (k:=k) (m:=k+8) hB.dat hB.t3 hB.ok (V.data (x:=110) X hB.obj hB.WZ hB.t1 hB.t2 h1) (ar 92 h2) (fu (x:=k) (y:=8) (ar 92 h2) (aR 8)) au hk) (by rfl))
  (WH (n:=aj (k+8) - aj ns.length) (k:=0) B.top (pC (n:=0) B.top (aR 0) (by rfl)) (lj (x:=aj (k+8)) (y:=aj ns.length) .sub (fu (x:=k) (y:=8) (ar 92 h2) (aR 8)) (uI B I (by rfl) hB.dat hB.t3 hB.ok (V.data (x:=110) X hB.obj hB.WZ hB.t1 hB.t2 h1) (by rfl)) Z) au au au)
  jM r2) λv s4 F4 e4 V4 _=>c8 (iE ⟨rfl,?_⟩))
 have ahQ:(ns.drop k).take (k+8 - k)++bZ 0 0=(ns.drop k).take 8:=by simp[rx]
 rw[ahQ]at V4;have WI:((ns.drop k).take 8).length=8:=by simp;lia
 show iO V4 λl vs n F' dX _ hl V' _=>?_;subst dX;have IA:=intsAre_of V' (dS _);have hll:=cj hl;show cS (Nl (bT hl) (c8 (lU ⟨rfl,?_⟩)));have g3:(((s4.heap.push {cls:=ao "list_iterator",data:=bH #[R l,ag 0 0]}).push (cV [R s4.heap.objs.size] 0)).push (zf (s4.heap.objs.size+1))).get? (s4.heap.objs.size+2)=O (zf (s4.heap.objs.size+1)):=by have e:=bJ ((s4.heap.push {cls:=ao "list_iterator",data:=bH #[R l,ag 0 0]}).push (cV [R s4.heap.objs.size] 0)) (o:=zf (s4.heap.objs.size+1)) Z;rw[dE,dE]at e;show e
 have g2:(((s4.heap.push {cls:=ao "list_iterator",data:=bH #[R l,ag 0 0]}).push (cV [R s4.heap.objs.size] 0)).push (zf (s4.heap.objs.size+1))).get? (s4.heap.objs.size+1)=O (cV [R s4.heap.objs.size] 0):=by have e:=bJ (s4.heap.push {cls:=ao "list_iterator",data:=bH #[R l,ag 0 0]}) (o:=cV [R s4.heap.objs.size] 0) Z;rw[dE]at e;show a0 _ e
 have g1:(((s4.heap.push {cls:=ao "list_iterator",data:=bH #[R l,ag 0 0]}).push (cV [R s4.heap.objs.size] 0)).push (zf (s4.heap.objs.size+1))).get? s4.heap.objs.size=O {cls:=ao "list_iterator",data:=bH #[R l,ag 0 0]}:=
  a0 _ (a0 _ (bJ _ Z))
 have g0:(((s4.heap.push {cls:=ao "list_iterator",data:=bH #[R l,ag 0 0]}).push (cV [R s4.heap.objs.size] 0)).push (zf (s4.heap.objs.size+1))).get? l=O (bp vs n):=
  a0 _ (a0 _ (a0 _ hl))
 have hsz:(((s4.heap.push {cls:=ao "list_iterator",data:=bH #[R l,ag 0 0]}).push (cV [R s4.heap.objs.size] 0)).push (zf (s4.heap.objs.size+1))).objs.size=s4.heap.objs.size+3:=by rw[dE,dE,dE]
 show bg (϶ (l:=(ns.drop k).take 8) λx E=>Ae x (rq (AH E))) λbs hbs ahR=>?_;have hbl:bs.length=8:=by have:=congrArg List.length hbs;rw[WI,ik]at this;show this.symm
 show cS (PV (ty:= "map") (x:= "") (n:=((ns.drop k).take 8).length)
  ((Walks.map (A:=A.in1.in1) (I:=s4.heap.objs.size+2) (T:=s4.heap.objs.size+1) (br:=s4.heap.objs.size) (l:=l) (k:=0) (items:=vs.toArray) (ns:=(ns.drop k).take 8) hh (oR (Uy aL)) (yj _) (fE hll) (IA)
   (λx E=>gc (Ae x (rq (AH E))) aL)).toS)
  (λi s st=>⟨_,st.1,rfl⟩) ⟨g3,g2,⟨_,g1,rfl,rfl⟩,bT g0⟩ (λb D=>?_) bz aL aL RZ PU (λi v q=>eS q λn t _ e=>⟨_,_,e⟩) (λs5 lt m5 it5=>?_) (by rw[WI];decide))
 .rw [show({s4 with heap:=((s4.heap.push {cls:=ao "list_iterator",data:=bH #[R l,ag 0 0]}).push (cV [R s4.heap.objs.size] 0)).push (zf (s4.heap.objs.size+1))}:af).heap.objs.size=s4.heap.objs.size+3 from hsz];apply tK D
  .show iX _
  .show kX (iX _)
  .show kX (kX (iX _))
  .show kX (kX (kX hll))
 have jx:lt.map (·.1)=bs.map λb=>strN (YV b):=by
  show eZ it5 λq1 q2=>?_;have ahS:lt.length=8:=by rw[WI]at q1;simpa[Aw] using q1
  apply EK;intro j;by_cases hj:j<8
  .have e1:(Aw lt).toArray[j]? =O (cO (lt[j]'au).1 (lt[j]'au).2):=by simp[Aw,ahS,hj]
   show eS (q2 j _ e1) λm tk h3 h4=>?_;rw[hbs,cZ]at h3;show bg (iY.mp h3) λbb h5 h6=>?_;rw[cZ,cZ,h5,dF au];injection h4 with h4 _
   simp only[Option.map_some,h4,<-h6]
  .rw [rp jM,rp jM]
 rw[jx];show⟨YX bs au,λt6 k6=>?_⟩;have e46:dA H s {s5 with toks:=k6}:=by
  show⟨?_,m5.os.trans e4.os,m5.drawn.trans e4.drawn,?_⟩
  .have x4:hJ H s.heap s4.heap:=e4.ext;have keep:∀b o,s4.heap.get? b=O o->s5.heap.get? b=O o:=λb o e=>m5.heap b o (λq=>by simp at q;show absurd (cj e) (by rw[q];show gy _)) (a0 _ (a0 _ (a0 _ e)))
   show x4.trans (.of_keep keep)
  .show Eq.trans m5.gens e4.gens
 have E:Txt.join "" (bs.map λb=>strN (YV b))=⟨(bs.map xi).toArray⟩:=by rw[<-YW];show StrLaws.glued_eq_join "" _
 rw[E];show cu (Lake.T.wcI (aR (H:=H) (U:=s.heap) (fr:=N) 2 (r.ext e46.ext)) λt7 s7 e7=>c8 (iE ⟨rfl,?_⟩));have aes:Ex ⟨(bs.map xi).toArray⟩=bs.map xi:=by
  unfold Ex;rw[if_pos];rw[Vd];intro c hc;have hc:c∈bs.map xi:=by simpa using hc
  show bg (bG.mp hc) λbb _ qG=>?_;subst qG;cases bb<;>decide
 have ϸ:Av ⟨(bs.map xi).toArray⟩=bs.map xi:=by change(Ex ⟨(bs.map xi).toArray⟩).takeWhile (· != 0)=_;rw[aes];show HG bs
 have akr:(int_private% "readNumeral") 0 2 (Av ⟨(bs.map xi).toArray⟩)=(int_private% "Numeral.value") (B7 bs:Nat):=by rw[ϸ];apply ajs hbl;show ϯ
 show cS (Ki F.called_int F.newNe_int (HA _ _) (IX _ _) (λobj=>args_object_init_3 obj _ _) PySem.F.entry_int_new (PT (by rw[ϸ];simp[hbl]) akr (by rw[ϸ,aes];show beq_self_eq_true _)).meets ⟨rfl,⟨s7.toks,?_⟩,?_⟩)
 .change ag (B7 bs:Nat) _=ag (aj (wordAt ns k)) _;unfold wordAt;rw[ahR];rfl
 .show (e46.trans e7).trans (.toks _ _)
end
end
noncomputable def PX(U:aO):List ae:=(aJ U.objs.size).filter λb=>(U.get? b).isSome && !(bV.contains b)
theorem B9{b:ae}:b∈PX U↔(∃o,U.get? b=O o)/\b∉bV:=by
 delta PX
 rw[gu,dm];constructor
 .rintro ⟨_,h⟩;simp only[qv,ve,Uh,decide_eq_false_iff_not]at h;show⟨ym.mp h.1,h.2⟩
 .rintro ⟨⟨o,e⟩,h⟩;show⟨cj e,?_⟩;simp only[qv,ve,Uh,decide_eq_false_iff_not];show⟨by rw[e];rfl,h⟩
def xl(ns:LN):zy:=λi v _ _=>∃tk,v=ag (aj (wordAt ns (8 * i))) tk
theorem xl.back(ns:LN):zy.Back (xl ns):=λ_ _ _ _ _ _ h=>h
theorem Nq(ns:LN):zy.DF (xl ns):=λ_ _ _ _ _ _ _ _ h=>h
theorem dA.keeps(x:dA [] s Y):Keeps s Y:=by obtain⟨h',g',d',t',o'⟩:=Y;obtain⟨h1,h2,h3,h4⟩:=x;subst h2;subst h3;subst h4;show kH h' t' Z<|λb o e=>if ht:b∈bV then h1.quiet b o ht (mZ) e else h1.keep b o ht e
section
variable{b:ae}
theorem cx.kept(B:cx U mg mb)(k:∀b o,b∉bV->U.get? b=O o->h.get? b=O o):cx h mg mb where
 g:=B.g.at' λo e=>k _ o (DQ Z) e
 b:=B.b.at' λo e=>k _ o (DQ Z) e
 lim:=bg B.lim λmc wG ZT=>cn mc (wG.at' λo e=>k _ o (DQ Z) e) ZT
 top:=dG B.top λo e=>⟨o,k _ o (DQ Z) e⟩
 bmod:=l0 B.bmod λbm o e1 e2 e3 e4 e5=>Z1 bm o e1 e2 e3 (k bm o e3 e4) e5
theorem PS.aks(p:PS H U L J s [] (S.map (·.1)) G S Y)(cA:zZ U S s.heap)(hT:gq U)(x1:hJ H U s.heap):Ab H s Y where
 ext:=⟨λb o D e=>by
  by_cases hm:b∈S.map (·.1)
  .show bg (bG.mp hm) λy hy dX=>?_;subst dX;have:=(cA y hy).1;show aW (e.symm.trans this)▸(p.sg y hy).1
  .show p.mod.mod.keep b o (hm) D e,λb D ps e=>p.mod.mod.tab b D ps e,p.mod.mod.there,λb o D hq e=>by
  show dG (hT b D) λo1 e1=>?_;have:=x1.quiet b o1 D hq e1;obtain rfl:=aW (e.symm.trans this);show p.ext.quiet b o D hq e1⟩
 os:=p.mod.os
 drawn:=p.mod.drawn
 gens:=p.mod.gens
theorem YY{e3:aG}(B:cx U mg mb)(I:dQ mg mb)(kM:Gi L "range")(he1:V H U A L J G e1 (aT 0) ab)(I4:cI e1=ab)(he2:V H U A L J G e2 (aT k) ab)(CH:cI e2=ab)(he3:V H U A L J G e3 (aT c) ab)(κ:cI e3=ab)(hc:c≠0)(hp:Fl (aj k - 0) (aj c)=ab)(hs:vg 0 (aj k) (aj c)=N)(hn:lQ 0 (aj k) (aj c)=(n:Int))(r:ER H U L J s.heap G):
 T A (a7 (bx (aq (aC "range") np) [e1,e2,e3] [] pos) J) s (λx aD=>T A (gr x) aD (λit aQ=>dA H s aQ/\Xg n (Gp (Dq 0 (aj c) n)) s it aQ)):=by
 show mD ("range") ("range") B I aL kM (rfl) (fL.cons he1 (fL.cons he2 (fL.cons he3 fL.nil κ) CH) I4) (by simp[dW,I4,CH,κ]) r λvs aD F e1 V1=>?_;apply Bq V1;intro v v3 v5 G1 G3 G5 V2 V4 V6;apply bM.zL V2;show λt=>dG V4.toInt λt' dX=>dG V6.toInt λt'' qG=>dX▸qG▸call_range_3 (show aj c≠0 by intro q;show hc (V8 q)) ?_ (ak hp);show DI (e1.trans ⟨.push _ _,rfl,rfl,rfl⟩) (vo ..) hs hn
theorem afA(hp:fd.params=fz HH)(hd:fd.defaults=ax)(v:aa):dw fd ⟨[v],[]⟩=pure (([110].map NM).zip [v]):=by
 delta dw
 show hp.symm▸hd.symm▸?_;rfl
end
section
variable{b:ae}
def acH(U:aO)(f:Nat->cq):Prop:=
 qX U 1984 (f 3) HH/\
 (f 3).defaults=ax/\
 (f 3).code=R 1983/\
 U.IsCode 1983 1979 #[]/\
 U.TableAt 1983 1979 #[]
protected theorem nY.size{a b:Array eT}(x:nY a b):a.size<=b.size:=by show bc (mq b.size a.size) (λh=>?_) λh=>h;have e:=x.1 b.size a[b.size] (yr h);rw[LQ (ey _)]at e;cases e
theorem Ϲ(hn:8 * (n+1)<=1000):Fl (aj (8 * (n+1)) - 0) (aj 8)=ab/\vg 0 (aj (8 * (n+1))) (aj 8)=N/\lQ 0 (aj (8 * (n+1))) (aj 8)=((n+1:Nat):Int):=by
 have key:∀n,n<125->Fl (aj (8 * (n+1)) - 0) (aj 8)=ab/\vg 0 (aj (8 * (n+1))) (aj 8)=N/\lQ 0 (aj (8 * (n+1))) (aj 8)=((n+1:Nat):Int):=by decide+kernel
 show key n au
theorem acI(B:cx U mg mb)(I:dQ mg mb)(X:(iC P t f).In U)(dB:acH U f)(hT:gq U)(bK:A.depth<990)(pv:1979∉H)(kr:1979∈τ')(nS:∀b∈H,b∈τ')(x1:hJ H U s.heap)(cA:zZ U S s.heap)(yT:∀y∈jf b dx d ns,y∈S)(hn:lY ns)(dM:ns.length=8 * (n+1))(Ae:∀x∈ns,x<2)(hq:∀Y a g aS Ia cl,Ab τ' s Y->s.gens.size<=g->(∀x∈[a,aS,Ia,cl],s.heap.get? x=ai/\x∉bV)->a≠aS->a≠Ia->kK Y.heap aS->kK Y.heap Ia->
 (∀A':b9,dh A'->lD A' a g aS (PX U++[b,dx,d,cl,Ia]) [Ia] (n+1) (xl ns) 0 Y)->Q (R a) Y):
 C A (call (R 1984) [R b]) s Q:=by
 show iZ dB λN1 N2 N3 N4 N5=>?_;have hP:1979∈bV:=by decide
 have hl:=hn.2;show ie (Ϲ (n:=n) au) λhr1 hr2 hr3=>zz (S:=S) (avs:=[aH (R b)]) (us:=[R b]) (F:=[]) [110] B x1 au N1 Z Z Z (by rw[afA N1.params N2];show aB ⟨rfl,rfl⟩)
  (ej [] [] (.ip _) .nil) aL Z (by decide+kernel) cA λs2 br p=>(?_:C _ (aU [a9 (bh HH) 0,a9 (bh HH) 1] _) s2 _)
 show p.s1 (S1.m (z8 Z)) λs3 p3=>?_;have pe:=p3.aks cA hT x1;have hB:=p3.Hm yT hn;have r0:ER H U (bf HH) (gN (f 3) br 1984) s3.heap (qJ [110] [aH (R b)]):=bg p3.fr λW r _=>r.er;have RS:ed (bf HH) (uz JE) [110] [92]:=ed.of (by decide+kernel);show il (Lake.T.wo (P:=λg Y=>∃v,g=cG v/\Q v Y) (xC ?_) λg Y q=>bg q λv e hv=>by show e▸?_;show hv);show JA (τ':=τ') (fs:=[110]) (K:=[92]) (P:=1979) B RS Z (by decide+kernel) Z (by change A.depth+1<1000;lia) N3 aL N4 N5 hP pv kr nS r0
  (YY (H:=H) (U:=s3.heap) (k:=8 * (n+1)) (c:=8) (n:=n+1) (p3.base B) I (by rfl) (aR 0) Z (V.to (uI (p3.base B) I (by rfl) hB.dat hB.t3 hB.ok (V.data (x:=110) (jj X p3.ext) hB.obj hB.WZ hB.t1 hB.t2 Z) Z) (by rw[dM])) Z (aR 8) Z aL hr1 hr2 hr3 p3.er) (λ_=>rfl) λit aQ cl code aS a ig e2 hIt jy g=>dU g λg1 g2 g3 g4 _ g6 g7 afu=>iZ afu λg8 g9 g10 g11 g12=>cn _ Z ?_
 obtain⟨Ia,St,rfl,hW,Nj,hIn,ahT⟩:=hIt;have Xh:∀i h,St i h->∃o,h.get? Ia=O o:=λi h st=>bg (ahT i h st) λo e _=>⟨o,e⟩;have e2:dA H s3 aQ:=e2;have x2:hJ τ' s3.heap aQ.heap:=e2.ext.up nS;have ahU:∀x,aQ.heap.get? x=ai->s.heap.get? x=ai:=λx e=>pe.ext.new (e2.ext.new e);have Hq:∃o,aQ.heap.get? Ia=O o:=Xh _ _ Nj;have hIC:Ia≠aS:=λq=>by obtain⟨o,e⟩:=Hq;rw[q,g8]at e;cases e
 have hIa:Ia≠a:=λq=>by obtain⟨o,e⟩:=Hq;rw[q,g9]at e;cases e
 have hIP:Ia≠1979:=λq=>by show dG (hT 1979 hP) λo e=>dG (r0.base.there _ o e) λo' e'=>?_;rw[<-q,hIn]at e';cases e'
 have hIT:Ia∉bV:=λq=>by show dG (hT _ q) λo e=>dG (r0.base.there _ o e) λo' e'=>?_;rw[hIn]at e';cases e'
 show gI p3.fr λW3 r3 hW3 _=>?_;obtain⟨Xq,ahV,⟨vc,afB⟩,afC,afD⟩:=r3.cell 110 Z;have afD:Xq∈W3:=by
  rcases afD with⟨av,q⟩|q
  .cases q
  .show q
 have akt:s.heap.get? Xq=ai:=by show bc (hW3 _ afD) (λq=>?_) λq=>q;cases q
 have afB:s3.heap.IsCell Xq (O (R b)):=by
  show eS (r0.has 110 0 (aH (R b)) Z) λvs Fs aku hVs=>have evs:=hVs.DE;evs▸?_;rcases aku with⟨hl,_⟩|⟨_,c,hc,ht,hv⟩
  .rcases r0.Wm (NM 110) (ak Z) with q|q<;>rw[hl]at q<;>cases q
  .show aW (ahV.symm.trans hc)▸hv
 have ahW:∀x∈PX U++[b,dx,d,Xq,Ia],∃o,aQ.heap.get? x=O o:=λx E=>by
  rcases bY.mp E with q|q
  .obtain ⟨⟨o,e⟩,ht⟩:=B9.mp q;show⟨o,(r0.base.trans e2.ext).keep x o ht e⟩
  .apply Wj q
   .show e2.ext.there _ _ hB.obj
   .show e2.ext.there _ _ hB.WZ
   .show e2.ext.there _ _ hB.dat
   .show bg afB λo e _=>e2.ext.there _ _ e
   .show Hq
 have Wx:aS∉PX U++[b,dx,d,Xq,Ia]:=λq=>by show dG (ahW aS q) λo e=>?_;rw[g8]at e;cases e
 have akv:∀x∈PX U++[b,dx,d,Xq,Ia],∃o,ig.heap.get? x=O o:=λx E=>dG (ahW x E) λo e=>g1.there x o e;have hgl:nY s3.gens ig.gens:=by rw[g6,e2.gens];show l8.sk Z (.refl _ _)
 show hq ig a aQ.gens.size aS Ia Xq ⟨(pe.ext.up nS).trans (x2.trans g1),g2.trans (e2.os.trans pe.os),g3.trans (e2.drawn.trans pe.drawn),hgl.trans pe.gens⟩ (by show(e2.gens)▸?_;show p3.mod.gens.size) (λx E=>?_) g10 (eQ hIa) ?_ ?_ λA' RQ=>?_
 .apply tK E
  .show ⟨ahU _ g9,g12⟩
  .show ⟨ahU _ g8,g11⟩
  .show ⟨pe.ext.new hIn,hIT⟩
  .show ⟨akt,afC⟩
 .show tJ g7 λo es ep e q _=>cn o e (aw (ak ⟨es,ep,q⟩))
 .show bg (ahT _ _ Nj) λo e q=>cn o (g4 Ia o hIP e) q
 show lD.made (A:=A') (x:=92) (n:=n) (xl.back ns) g RQ hW Nj Xh hIP (B.zo ((r0.base.up nS).trans (x2.trans g1))) Z Z Z bz Wx akv ?_;intro A2 i v s6 m6 hA2 hv hnm hm hk;obtain⟨k,tk,hk1,rfl⟩:=hv;show eZ (o9.mp hk1) λhi Wr=>?_;have Wr:k=aj (8 * i):=by have e8:aj 8=(8:Int):=rfl;rw[e8]at Wr;show((rfl:aj (8 * i)=((8 * i:Nat):Int)))▸?_;lia
 subst Wr;have Ϻ:∀x o,x∈PX U++[b,dx,d,Xq,Ia]->x∉bV->s3.heap.get? x=O o->s6.heap.get? x=O o:=λx o E ht e=>hk x E (λq=>by have q:=bI.mp q;rw[q,hIn]at e;cases e) o (g1.keep x o ht (x2.keep x o ht e))
 have aet:∀x o,x∉bV->U.get? x=O o->s6.heap.get? x=O o:=λx o ht e=>Ϻ x o (dc _ (B9.mpr ⟨⟨o,e⟩,ht⟩)) ht (r0.base.keep x o ht e);have akw:s6.heap.IsCell Xq (O (R b)):=bg afB λo e q=>(cn o (Ϻ Xq o bz afC e) q);have r6:ER [] s6.heap (uz JE) (genEnv (uz JE) cl aS code gb (gN (f 3) br 1984)) s6.heap (putAll (lA (qJ [110] [aH (R b)]) [110]) [92] [aj (8 * i)]):={
  base:=.refl _
  kind:=RS.kind
  gl:=λy hy=>hy
  Wm:=λy hy=>hy
  glob:=N1.glob
  bi:=rfl
  loc:=g11
  has:=λy k av e=>by
   rcases Dt (K:=[92]) (ks:=[aj (8 * i)]) Z e with⟨j,i',h1,h2,rfl,_⟩|⟨h1,h2⟩
   .cases j with
    |zero=>simp at h1 h2;show h1▸h2▸kH _ [] (ak ⟨RS.locs 92 bz,m6,hnm,hm⟩) (.ofInt _ _)
    |succ j=>show nomatch h1
   .show eZ (Gy h2) λh3 h4=>?_;obtain rfl:=bI.mp h3;cases h4
    show kH (R b) [] (aw ⟨aw (RS.frees 110 bz).1,Xq,?_,afC,akw⟩) (.ip _);change cl.lookup (NM 110)=O Xq;show(jy 110 bz)▸ahV}
 show(Ϸ (H:=[]) (k:=8 * i) (k1:=0) (k2:=0) hA2 (B.kept aet) I (λx o e=>aet x o (Pz P t f x o e) (X x o e)) ⟨Ϻ b _ bz hB.t1 hB.obj,Ϻ dx _ bz hB.t2 hB.WZ,Ϻ d _ bz hB.t3 hB.dat,hB.t1,hB.t2,hB.t3,hB.ok⟩ r6 Z Z au Ae).mono λy s7 q=>⟨q.1,q.2.keeps⟩
end
def lV(G:iz):Prop:=∀x k av,ck G x=O (k,av)->flat av=N
def ahX(G:iz):Bool:=G.all λy=>flat y.2.2
theorem lV.of(h:ahX G=N):lV G:=λx k av e=>by have:=Bz e;show mY.mp h _ this
def kh(o:bE):Bool:=gm o ||(match o.data with
 |bQ ..=>o.cls==ao "list"
 |_=>ab)
section
variable{H:List ae}{U:aO}
theorem R5(e:h.get? a=O o)(hm:kh o=N):Cs h a\/kK h a:=by
 unfold kh at hm;show boC (gm o) (λq=>aw (rX e q)) λq=>?_;rw[q,Bool.false_or]at hm;cases d:o.data with
 |seq vs n=>
  rw[d]at hm;have:o.cls=ao "list" :=by simpa using hm
  show ak (cn o e (ak ⟨this,vs,n,d⟩))
 |_=>have hm:=d▸hm;show Iv (by assumption)
theorem Nr{v:Option aa}(hm:kh o=N)(e:o.data=oS v):False:=by unfold kh gm at hm;have hm:=e▸hm;show Iv (by assumption)
theorem FR.akx(r:FR H U U L J h G W)(hG:lV G)(x:hJ H U h')(keep:∀b o,b∉wr->b∉bV->h.get? b=O o->h'.get? b=O o)(hw:∀b∈wr,(∃o,h.get? b=O o/\kh o=N)/\b∉bV/\b∉W):FR H U U L J h' G W:=
 r.abF r.b1 x (λb hb' o e=>keep b o (λq=>(hw b q).2.2 hb') (r.je b hb').2.1 e)
  (λc v ht x=>Bh (λo q=>⟨keep c o (λz=>bg (hw c z).1 λo' e' d'=>Nr d' (aW (q.1.symm.trans e')▸q.2)) ht q.1,q.2⟩) x)
  λy k av v F e aP=>aP.off (λb o hb' ht e'=>keep b o hb' ht e') (λb hb'=>bg (hw b hb').1 λo e1 e2=>R5 e1 e2) _ _ _ λb hb'=>by rw[cW.1 _ _ _ (hG y k av e) aP]at hb';show kI hb'
end
section
variable(H:List ae)(U:aO)
structure PL(L:du)(J:cJ)(aK:af)(bo bw:List ae)(G:iz)(S br:Sg)(Gs:List (Nat×eT))(s:af):Prop where
 fr:∃W,FR H U U L J s.heap G W/\(∀b∈W,b∈bo\/aK.heap.get? b=ai)/\(∀p∈S,p.1∉W)/\∀p∈br,p.1∉W
 sg:zZ U S s.heap
 lg:∀p∈br,s.heap.get? p.1=O p.2/\p.1∉bV/\aK.heap.get? p.1=ai/\U.get? p.1=ai/\p.1∉S.map (·.1)
 mod:sF (bo++bw) aK s
 lC:∀p∈S,p.1∈bw\/aK.heap.get? p.1=ai
 gk:∀p∈Gs,s.gens[p.1]? =O p.2/\aK.gens.size<=p.1
end
section
variable{H:List ae}{U:aO}
protected theorem PL.ps(p:PL H U L J aK bo bw G S br Gs s):PS H U L J aK bo bw G S s:=⟨lZ p.fr λW r a b _=>(kF W r a b),p.sg,p.mod,p.lC⟩
protected theorem PS.pl(p:PS H U L J aK bo bw G S s):PL H U L J aK bo bw G S [] [] s:=⟨gI p.fr λW r a b=>(wy W r a b (zk)),p.sg,(zk),p.mod,p.lC,(zk)⟩
theorem PL.getL(p:PL H U L J aK bo bw G S br Gs s)(h:(a,o)∈br):s.heap.get? a=O o:=(p.lg _ h).1
theorem PL.open(p:PL H U L J aK bo bw G S br Gs s):∃W,PS H U L J s W (S.map (·.1)) G S s/\
 ∀τ' G' S' Y,PS τ' U L J s W (S.map (·.1)) G' S' Y->PL τ' U L J aK bo bw G' S' br Gs Y:=by
 show lZ p.fr λW r h1 h2 h3=>cn W (⟨⟨W,r,λb D=>ak D,h2⟩,p.sg,.refl _ _,λx E=>ak (bG.mpr ⟨x,E,rfl⟩)⟩)<|λτ' G' S' Y q=>have D:=p.ps.back h1 q;gI q.fr λW' r' a1 a2=>?_;have kL:∀y∈br,y.1∉W++S.map (·.1):=λy hy hm=>bc (bY.mp hm) (λe=>h3 y hy e) λe=>(p.lg y hy).2.2.2.2 e;show⟨(wy W' r' (λb hb'=>bc (a1 b hb') (λe=>h1 b e) λe=>aw (p.mod.mod.new e)) a2 (λy hy hw=>?_)),q.sg,λy hy=>?_,D.mod,D.lC,λy hy=>eZ (p.gk y hy) λg1 g2=>⟨q.mod.gens.1 _ _ g1,g2⟩⟩
 .rcases a1 _ hw with e|e
  .show h3 y hy e
  .have e:=((p.lg y hy).1).symm.trans e;ext
 .show iZ (p.lg y hy) λb1 b2 b3 b4 b5=>((Yc (q.mod.mod.keep _ _ (kL y hy) b2 b1) b2 b3 b4 (λhm=>?_)));show bg (bG.mp hm) λz hz e=>?_;rcases q.lC z hz with k|k
  .rw [e]at k;show b5 k
  .have k:=b1▸e▸k;ext
theorem PL.aeu(p:PL H U L J aK bo bw G S br Gs s)(hT:gq U)(keep:∀b o,b∉X->s.heap.get? b=O o->Y.heap.get? b=O o)(os:Y.os=s.os)(drawn:Y.drawn=s.drawn)(gens:nY aK.gens Y.gens)(hX:∀b∈X,∃o,(b,o)∈br)(hL:∀y∈L',(y.1∈br.map (·.1)\/s.heap.get? y.1=ai)/\Y.heap.get? y.1=O y.2)(hGs:∀y∈Ya,Y.gens[y.1]? =O y.2/\aK.gens.size<=y.1)(hf:∀W,FR H U U L J s.heap G W->(∀b∈X,b∉bV/\b∉W)->hJ H U Y.heap->FR H U U L J Y.heap G W):PL H U L J aK bo bw G S L' Ya Y:=by
 show lZ p.fr λW r h1 h2 h3=>?_;have hXn:∀b∈X,b∉bV/\aK.heap.get? b=ai/\U.get? b=ai/\b∉S.map (·.1)/\b∉W:=λb D=>dG (hX b D) λo ho=>iZ (p.lg _ ho) λ_ b2 b3 b4 b5=>Yc b2 b3 b4 b5 (h3 _ ho);have x':hJ H U Y.heap:=by
  have x:=p.ps.ext;have hn:∀b o,U.get? b=O o->b∉X:=λb o e q=>by have e:=((hXn b q).2.2.1)▸e;ext
  show⟨λb o D e=>keep b o (hn b o e) (x.keep b o D e),λb D ps e=>dG (x.tab b D ps e) λmore e'=>⟨more,keep b _ (hn b _ e) e'⟩,λb o e=>dG (x.there b o e) λo' e'=>⟨o',keep b o' (hn b o e) e'⟩,λb o D hq e=>keep b o (hn b o e) (x.quiet b o D hq e)⟩
 have aky:∀b,s.heap.get? b=ai->b∉W:=λb e hw=>by show oX (r.je b hw) λ_ _ o e' _=>?_;have e':=e▸e';ext
 show⟨(wy W (hf W r (λb D=>⟨(hXn b D).1,(hXn b D).2.2.2.2⟩) x') h1 h2 (λy hy=>?_)),λy hy=>iK (p.sg y hy) λc1 c2 c3 c4=>rR (keep _ _ (λq=>(hXn _ q).2.2.2.1 (bG.mpr ⟨y,hy,rfl⟩)) c1) c2 c3 c4,λy hy=>?_,⟨⟨λb o D ht e=>?_,λb D ps e=>dG (p.mod.mod.tab b D ps e) λmore e'=>⟨more,keep b _ (λq=>(hXn b q).1 D) e'⟩,λb o e=>dG (p.mod.mod.there b o e) λo' e'=>⟨o',keep b o' (λq=>by rw[(hXn b q).2.1]at e;ext) e'⟩⟩,os.trans p.mod.os,drawn.trans p.mod.drawn,gens⟩,p.lC,hGs⟩
 .show bc ((hL y hy).1) (λe=>bg (bG.mp e) λz hz e=>e▸h3 z hz) λe=>aky _ e
 .show ⟨(hL y hy).2,?_⟩;show bc ((hL y hy).1) (λe=>bg (bG.mp e) λz hz e=>e▸(p.lg z hz).2) λe=>?_;show rR (λq=>?_) (p.mod.mod.new e) (p.ps.ext.new e) (λq=>?_)
  .show dG (hT _ q) λo e1=>(dG (p.ps.ext.there _ o e1) λo' e2=>?_);have e2:=e.symm.trans e2;ext
  .show bg (bG.mp q) λz hz e1=>?_;have e:=((p.sg z hz).1)▸e1.symm▸e;ext
 .show keep b o (λq=>?_) (p.mod.mod.keep b o D ht e);rw[(hXn b q).2.1]at e;ext
theorem PL.move(p:PL H U L J aK bo bw G S br Gs s)(hG:lV G)(hT:gq U)(keep:∀b o,b∉X->s.heap.get? b=O o->Y.heap.get? b=O o)(os:Y.os=s.os)(drawn:Y.drawn=s.drawn)(gens:nY aK.gens Y.gens)(hX:∀b∈X,∃o,(b,o)∈br/\kh o=N)(hL:∀y∈L',(y.1∈br.map (·.1)\/s.heap.get? y.1=ai)/\Y.heap.get? y.1=O y.2)(hGs:∀y∈Ya,Y.gens[y.1]? =O y.2/\aK.gens.size<=y.1):PL H U L J aK bo bw G S L' Ya Y:=
 p.aeu hT keep os drawn gens (λb D=>bg (hX b D) λo ho _=>⟨o,ho⟩) hL hGs λ_ r hn x'=>r.akx hG x' (λb o D _ e=>keep b o D e) λb D=>bg (hX b D) λo ho hm=>⟨⟨o,(p.lg _ ho).1,hm⟩,hn b D⟩
end
def jk:cg:=dP 22
theorem Af{Q:cb->af->Prop}(hs:fD e (O (aq (NM x) q)) pos.line J=pure ab)(he:C A (a7 e J) s (λv aD=>C A (Au J (NM x) v) aD (λ_ Y=>Q cL Y))):C A (oJ (eF [aq (NM x) q] e pos) J) s Q:=by rw[TM J (NM x) q e pos hs];show C.bind (C.standAt (C.bind (he.mono λv aD U=>C.bind (C.standAt (C.bind (C.bindName (U.mono λ_ _ ko=>C.pure ko)))))))
section
variable{Q:cb->af->Prop}{b:ae}
theorem HJ(x:kK h a)(e:h.get? a=O o):gm o=N:=by
 show bg x λo' e' hd=>aW (e.symm.trans e')▸?_
 delta gm
 rcases hd with⟨ws,d,hn⟩|⟨es,n,d⟩|⟨bs,n,d⟩|d<;>rw[d]
 change(match ws[1]? with|some (cO _ _)=>ab |_=>N)=N;cases q:ws[1]? with
 |none=>rfl
 |some u=>cases u<;>first|rfl|show absurd q (hn _ _)
theorem HK(h:gm o=N):kh o=N:=by delta kh;rw[h];rfl
theorem lD.later{F:zy}(x:lD A a g aS fp wr n₀ F j s)(xe:cH∈fp)(hk:∀b∈a::aS::fp,∀o,s.heap.get? b=O o->Y.heap.get? b=O o)(hg:∀gs,s.gens[g]? =O gs->Y.gens[g]? =O gs):lD A a g aS fp wr n₀ F j Y where
 gen:=fc x.gen λo nm qn ho r=>Bl o nm qn (hk a (cR ..) o ho) r
 lim:=bg x.lim λmc wG ZT=>cn mc (wG.at' λo e=>hk cH (bW _ (bW _ xe)) o e) ZT
 there:=λb D=>dG (x.there b D) λo e=>⟨o,hk b (bW _ D) o e⟩
 go:=bg x.go λgs QN PD=>cn gs (hg gs QN) (λnJ DD=>PD nJ λb D o e=>DD b D o (hk b (bW _ D) o e))
def ϻ(U:aO)(ns:LN)(b dx d a:ae)(g:Nat)(aS Ia cl:ae)(n:Nat)(oa oC oI R6:bE)(gs:eT):Prop:=
 ∀s:af,(∀x o,x∉bV->U.get? x=O o->s.heap.get? x=O o)->(∀y∈[(a,oa),(aS,oC),(Ia,oI),(cl,R6)],s.heap.get? y.1=O y.2)->(∀y∈jf b dx d ns,s.heap.get? y.1=O y.2)->
  s.gens[g]? =O gs->∀A':b9,dh A'->lD A' a g aS (PX U++[b,dx,d,cl,Ia]) [Ia] n (xl ns) 0 s
theorem ahY(hh:dh A)(B:cx U mg mb)(I:dQ mg mb)(X:(iC P t f).In U)(dB:acH U f)(hT:gq U)(bK:A.depth<900)(pv:1979∉H)(kr:1979∈τ')(nS:∀b∈H,b∈τ')(p:PS H U (bf jk) J aK bo bw G S s)(dH:bS G 71=N)(h82:ck G 82=O (k1,aH (R b)))(yT:∀y∈jf b dx d ns,y∈S)(hn:lY ns)(dM:ns.length=8 * (n+1))(Ae:∀x∈ns,x<2)(kk:∀Y a g aS Ia cl oa oC oI R6 gs,a≠aS->a≠Ia->kh oC=N->kh oI=N->ϻ U ns b dx d a g aS Ia cl (n+1) oa oC oI R6 gs->
 PL τ' U (bf jk) J aK bo bw (jh G 71 0 (aH (R a))) S [(a,oa),(aS,oC),(Ia,oI),(cl,R6)] [(g,gs)] Y->C A (aU rest J) Y Q):
 C A (aU (a9 (bh jk) 1::rest) J) s Q:=by
 show gI p.fr λW r hW hd=>il<|Af (x:=71) Z<|Hv X p (ar 82 h82) yT hn acq ϒ Z dB.1 Z Z Z λs1 e1=>have p1:=p.grow e1;B2 ⟨⟨H,p1.ext⟩,?_⟩;show acI (H:=H) (τ':=τ') (S:=S) (n:=n) B I X dB hT au pv kr nS p1.ext p1.sg yT hn dM Ae λs5 a g aS Ia cl e5 hg5 nQ DH haI hC hI zc=>?_;have ahZ:∀x∈[a,aS,Ia,cl],s.heap.get? x=ai:=λx E=>e1.ext.new (nQ x E).1;have Y':∀x∈[a,aS,Ia,cl],x∉W:=λx E hw=>by show dG ((λb hb'=>bg (r.je b hb').2.2 λo e _=>⟨o,e⟩:∀b∈W,∃o,s.heap.get? b=O o) x hw) λo e=>?_;have e:=(ahZ x E).symm.trans e;ext
 show Lake.T.wc2 (j9 (((r.grow e1.ext).up nS).grow e5.ext) (ak Z) dH (.ip (R a)) (.flat Z)) λ_ s6 r6 m6=>fc ((zc A hh).gen) λoa _ _ ea _=>bg hC λoC eC dC=>bg hI λoI eI dI=>dG ((zc A hh).there cl bz) λR6 ecl=>bg ((zc A hh).go) λgs QN _=>?_;have aev:∀y∈[(a,oa),(aS,oC),(Ia,oI),(cl,R6)],s5.heap.get? y.1=O y.2/\y.1∈[a,aS,Ia,cl]:=λy hy=>by
  apply tK hy
  .show ⟨ea,by ext⟩
  .show ⟨eC,by ext⟩
  .show ⟨eI,by ext⟩
  .show ⟨ecl,by ext⟩
 show kk s6 a g aS Ia cl oa oC oI R6 gs DH haI (HK (HJ (cn oC eC dC) eC)) (HK (HJ (cn oI eI dI) eI)) (λs2 k1 k2 k3 k4 A' RQ=>?_) ?_
 .show (zc A' RQ).later (dc _ (B9.mpr ⟨?_,DQ Z⟩)) (λx E o e=>?_) λXc e=>by replace e:=QN▸e;show e▸?_;show k4
  .show bg B.lim λmc i1 _=>fc i1 λo _ _ e _=>⟨o,e⟩
  have inL:∀x o,x∈[a,aS,Ia,cl]->s5.heap.get? x=O o->s2.heap.get? x=O o:=λx o E=>by
   apply tK E<;>intro e
   .show aW (ea.symm.trans e)▸k2 (a,oa) bz
   .show aW (eC.symm.trans e)▸k2 (aS,oC) bz
   .show aW (eI.symm.trans e)▸k2 (Ia,oI) bz
   .show aW (ecl.symm.trans e)▸k2 (cl,R6) bz
  have inB:∀y∈jf b dx d ns,∀o,s5.heap.get? y.1=O o->s2.heap.get? y.1=O o:=λy hy o e=>ie (p1.sg y (yT y hy)) λc1 c2 _=>(aW ((e5.ext.keep _ _ c2 c1).symm.trans e)▸k3 y hy);rcases bq.mp E with q|E
  .show inL x o bz e
  rcases bq.mp E with q|E
  .show inL x o bz e
  rcases bY.mp E with q|E
  .obtain ⟨⟨o',e'⟩,ht⟩:=B9.mp q;show aW ((((p1.ext.up nS).trans e5.ext).keep _ _ ht e').symm.trans e)▸k1 x _ ht e'
  .revert e
   apply Wj E<;>intro e
   .show inB (b,qW dx d) (by delta jf;ext) o e
   .show inB (dx,iy) (by delta jf;ext) o e
   .show inB (d,kz ns) (by delta jf;ext) o e
   .show inL cl o bz e
   .show inL Ia o bz e
 .have p5:=(p1.up nS).Xi e5;show⟨(wy W r6 hW hd (λy hy=>Y' _ (aev y hy).2)),p5.sg.mod m6.mod hd,λy hy=>?_,p5.mod.trans m6.p λx E=>bc (hW x E) (λq=>ak (dc _ q)) λq=>aw q,p.lC,λy hy=>?_⟩
  .show eZ (aev y hy) λh1 h2=>eZ (nQ _ h2) λn1 n2=>have n3:=ahZ _ h2;Yc ((λx o E ht e=>m6.mod.keep x o E ht e) _ _ (Y' _ h2) n2 h1) n2 (p.mod.mod.new n3) (p.ext.new n3)<|λhm=>bg (bG.mp hm) λz hz e=>?_;have n3:=((p.sg z hz).1)▸e.symm▸n3;ext
  .apply jQ hy;show⟨m6.gens▸QN,a8 p.mod.gens.size (a8 ?_ hg5)⟩;rw[e1.gens];show ey _
end
noncomputable def jl(vs:List aa):bE:={cls:=ao "list",data:=bQ vs.toArray}
section
variable{Q:cb->af->Prop}{b:ae}
theorem PL.store(p:PL H U L J aK bo bw G S br Gs s)(E:Hx L x)(dH:bS G x=N)(aP:bM s.heap av v []):
 T A (Au J (NM x) v) s (λ_ Y=>PL H U L J aK bo bw (jh G x 0 av) S br Gs Y):=bg p.open λW ps back=>bg ps.fr λW' r hW=>(j9 r E dH aP (.flat Z)).Cw λ_ Y r' m=>back _ _ _ _ (ps.step r hW m r' λd hd=>ak hd)
protected theorem PL.scope(p:PL H U L J aK bo bw G S br Gs s):J.scope=L:=bg p.fr λ_ r _=>r.scope
theorem PL.aew(p:PL H U L J aK bo bw G S br Gs s)(hG:lV G)(hT:gq U)(x:uh s.heap h'){dB:Sg}(hN:∀y∈dB,s.heap.get? y.1=ai/\h'.get? y.1=O y.2):
 PL H U L J aK bo bw G S (dB++br) Gs {s with heap:=h',toks:=tk}:=
 p.move hG hT (X:=[]) (λb o _ e=>x b o e) Z Z p.mod.gens (λb D=>kI D) (λy hy=>by
  rcases bY.mp hy with q|q
  .show ⟨aw (hN y q).1,(hN y q).2⟩
  .show ⟨ak (bG.mpr (cn y q Z)),x _ _ (p.getL q)⟩) p.gk
noncomputable def akz:cg->List aG
 |eF t _ _=>t
 |_=>[]
noncomputable def akA:cg->aG
 |eF _ v _=>v
 |_=>fN rO 0 ⟨0,0,0,0⟩
theorem acJ(hs:J.scope=bf jk):uW (akz (a9 (bh jk) 2)) (akA (a9 (bh jk) 2)) J=pure (O [NM 85,NM 86]):=by
 cases J
 dsimp at hs;subst hs;ext
theorem I5(h:bS (jh G x 0 av) y=N):bS (jh G x 0 mI) y=N:=by
 unfold bS at h ⊢;rw[fJ]at h ⊢;by_cases e:y=x
 .rw [if_pos e];rfl
 .rw [if_neg e]at h ⊢;show h
theorem ah0(hh:dh A)(hT:gq U)(p:PL H U (bf jk) J aK bo bw G S br Gs s)(hG:lV G)(h85:bS G 86=N)(h86:bS (jh G 86 0 oZ) 85=N)(kk:∀Y l1 l2,l1≠l2->(∀y∈br,y.1≠l1/\y.1≠l2)->PL H U (bf jk) J aK bo bw (jh (jh G 86 0 (aH (R l2))) 85 0 (aH (R l1))) S ((l1,jl [])::(l2,jl [])::br) Gs Y->C A (aU rest J) Y Q):
 C A (aU (a9 (bh jk) 2::rest) J) s Q:=by
 show il (T.wo (P:=λg Y=>g=cL/\∃l1 l2,l1≠l2/\(∀y∈br,y.1≠l1/\y.1≠l2)/\PL H U (bf jk) J aK bo bw (jh (jh G 86 0 (aH (R l2))) 85 0 (aH (R l1))) S ((l1,jl [])::(l2,jl [])::br) Gs Y) ?_ λg Y q=>ju q.2 λl1 l2 h1 h2 h3=>by show q.1▸?_;show kk Y l1 l2 h1 h2 h3);show Assign_Tuple_swapped ?_ Z (acJ p.scope);show En (Fe (Kn (Ff ⟨by decide,?_⟩)) Z);show Fe (Kn (Ff ⟨by decide,?_⟩)) Z;show Ff ⟨(by decide:2<=fg),?_⟩;have e1:(s.heap.push (jl [])).objs.size=s.heap.objs.size+1:=dE ..;show wpAny_unpackItems_tuple hh (items:=#[R s.heap.objs.size,R (s.heap.push (jl [])).objs.size]) ⟨_,bJ _ Z,rfl,0,rfl⟩ λh' he=>?_;have up:=λb o e=>
  have e':=a0 ({cls:=ao "tuple",data:=bQ ([R s.heap.objs.size,R (s.heap.push (jl [])).objs.size]:List aa).toArray}:bE) e
  he b o (fE (cj e')) e'
 have n1:s.heap.get? s.heap.objs.size=ai:=bD _;have n2:s.heap.get? (s.heap.push (jl [])).objs.size=ai:=by
  rw[e1];cases q:s.heap.get? (s.heap.objs.size+1) with
  |none=>rfl
  |some o=>show absurd (cj q) (j0.mpr (lP _))
 have hL:∀y∈br,y.1≠s.heap.objs.size/\y.1≠(s.heap.push (jl [])).objs.size:=λy hy=>by show⟨λq=>?_,λq=>?_⟩<;>(have:=p.getL hy;have this:=q▸this;first|(have this:=n1.symm.trans this;ext)|(have this:=n2.symm.trans this;ext))
 have p1:=p.aew (tk:=s.toks) (dB:=[(s.heap.objs.size,jl []),((s.heap.push (jl [])).objs.size,jl [])]) hG hT (λb o e=>up b o (a0 _ (a0 _ e))) λy hy=>by
  apply r8 hy
  .show ⟨n1,up _ _ (a0 _ (bJ _ Z))⟩
  .show ⟨n2,up _ _ (bJ _ Z)⟩
 show ah<|cQ<|Ef<|(p1.store (ak Z) h85 (.ip _)).wp λ_ s4 p4=>ah<|cQ<|Ef<|(p4.store (ak Z) (I5 h86) (.ip _)).wp λ_ s5 p5=>aB ⟨rfl,_,_,(by rw[e1];show(yj _).symm),hL,p5⟩
end
section
set_option backward.match.sparseCases true
noncomputable def nW(id:String)(v:aa):bE:={cls:=ao "builtin_function_or_method",data:=bH #[bB id,v]}
theorem Nt:lJ "method_descriptor" "__get__" "method_descriptor.__get__" :=
 ny (owner:= "method_descriptor") (n:= "__get__") (rfl) (rfl) (rfl) (rfl)
  (by first|show ak (rfl)|show .inr (rfl)) (rfl)
theorem afE:gw (ao "method_descriptor") "__set__" =pure ai:=by ext
theorem afF:gw (ao "method_descriptor") "__delete__" =pure ai:=by ext
theorem a_:gO table "method_descriptor.__get__" =O Builtin.«method_descriptor.__get__»:=mh (rfl)
theorem acK(a b c:aa):jW "method_descriptor.__get__" ⟨[a,b,c],[]⟩:=by ext
theorem acL(a:ae):rl (Builtin.«method_descriptor.__get__» ⟨[bB "list.append",R a,ao "list"],[]⟩) (λA aN s=>s.TypeIs (R a) "list" /\aN (bX (cG (R s.heap.objs.size))) {s with heap:=s.heap.push (nW "list.append" (R a))}):=
 rQ λprog w A aN s hs=>by
  obtain⟨hp,g,d,tk,os⟩:=s;show eZ hs λhT hs=>?_;repeat (any_goals (first|assumption|wp_step))
  show fM sub_list_self ?_;show aB ?_;show ah (ij ?_ (by size_fits));show aB ⟨_,rfl,hs⟩
theorem xm(a:ae)(K:Array aa)(k:Nat)(sl:Array (Option aa))(u:ba):
 rl (Builtin.«object.__getattribute__» ⟨[R a,cO "append" u],[]⟩) (λA aN s=>s.heap.get? a=O {cls:=ao "list",dict:=ai,data:=bQ K k,slots:=sl}/\aN (bX (cG (R s.heap.objs.size))) {s with heap:=s.heap.push (nW "list.append" (R a))}):=
 rQ λprog w A aN s hs=>by
  obtain⟨hp,g,d,tk,os⟩:=s;show eZ hs λE hs=>?_;have hT:(⟨hp,g,d,tk,os⟩:af).TypeIs (R a) "list" :=⟨_,E,rfl⟩;have l1:=slot_list_append.lookup;have l2:=type_list_append;have l3:=Nt.lookup;have l4:=afE;have l5:=afF;unfold Builtin.«object.__getattribute__»;repeat (any_goals (first|assumption|wp_step))
  show xy Nt.plain a_ (Nt.check _ _ _ _ _ _ _ _ l2 (acK _ _ _) ?_);show acL a prog w A.in1 (λr Y=>match r with|bX (cG v)=>aA (aE prog w) A.in1 (ret v) (λza Y=>∃v,za=nu (cG v)/\aN (bX (cG v)) Y) (λe Y=>aN (j3 e) Y) Y|bX _=>False|j3 e=>aN (j3 e) Y) _ ?_;show⟨hT,?_⟩;show aB ⟨_,rfl,hs⟩
theorem HL{K:Array aa}{sl:Array (Option aa)}{ex:Bool}(E:s.heap.get? a=O {cls:=ao "list",dict:=ai,data:=bQ K k,slots:=sl})(h:∀tk,Q (R s.heap.objs.size) {s with heap:=s.heap.push (nW "list.append" (R a)),toks:=tk}):aA (aE prog w) A (getAttr (R a) "append" ex) Q aX s:=by
 obtain⟨hp,g,d,tk,os⟩:=s;have hT:∀tk',(⟨hp,g,d,tk',os⟩:af).TypeIs (R a) "list" :=λ_=>cn _ E Z;have f3:=Fp.lookup;have f4:=Fp.bind (R a);repeat (any_goals (first|assumption|show hT _|((with_reducible change aA _ _ (call (bB "list.__getattribute__") _ _) _ _ _);show qh Fp (hT _) Td (Vu _ _) (xm a K k sl _) ⟨E,?_⟩)|wp_step))
 rw[if_neg (by cases ex<;>decide)];repeat (any_goals (first|assumption|show hT _|((with_reducible change aA _ _ (call (bB "list.__getattribute__") _ _) _ _ _);show qh Fp (hT _) Td (Vu _ _) (xm a K k sl _) ⟨E,?_⟩)|wp_step))
 show aB (h _)
end
theorem HM:oF (ao "list") (ao "module")=pure ab:=by ext
section
variable{Q:cb->af->Prop}
theorem PL.er(p:PL H U L J aK bo bw G S br Gs s):ER H s.heap L J s.heap G:=p.ps.er
theorem PY{l:ae}(hT:gq U)(p:PL H U L J aK bo bw G S br Gs s)(hG:lV G)(hy:ck G y=O (k,aH (R l)))(hl:(l,bp vs n)∈br)(dH:bS G x=N)(E:Hx L x)(hs:fD (gZ (aq (NM y) p1) "append" p2) (O (aq (NM x) q)) pos.line J=pure ab)(kk:∀Y m,(∀z∈br,z.1≠m)->PL H U L J aK bo bw (jh G x 0 (aH (R m))) S ((m,nW "list.append" (R l))::br) Gs Y->C A (aU rest J) Y Q):
 C A (aU (eF [aq (NM x) q] (gZ (aq (NM y) p1) "append" p2) pos::rest) J) s Q:=by
 show il<|Af hs<|cS<|Fd<|T.Dm (ui p.er hy)<|HL (p.getL hl) λtk=>?_;have p1:=p.aew (h':=s.heap.push (nW "list.append" (R l))) (tk:=tk) (dB:=[(s.heap.objs.size,nW "list.append" (R l))]) hG hT (λb o e=>a0 _ e) λy hy=>by apply jQ hy;show⟨bD _,bJ _ Z⟩
 show T.wo (p1.store E dH (.ip _)) λ_ s5 p5=>(kk s5 _ (λz hz q=>?_) p5);have:=cj (p.getL hz);rw[q]at this;show gy _ this
theorem b_{m:ae}{l:ae}{Q:aa->af->Prop}:∀{s:af} (hm:s.heap.get? m=O (nW "list.append" (R l))) (hl:s.heap.get? l=O (bp vs n)) (hv:vs.length<=1000) (h:Q ax {s with heap:=s.heap.update l (dO (·.push v))}),aA (aE prog w) A (call (R m) [v]) Q aX s:=λ{s} hm hl hv h=>by
 have hT:s.TypeIs (R l) "list" :=⟨_,hl,rfl⟩;show kT (xG ?_);show ah (jo hm ?_);change aA _ A.in1 (do checkBoundCall "list.append" ⟨[R l,v],[]⟩;return<-again (fG "list.append" ⟨[R l,v],[]⟩)) _ _ s;unfold checkBoundCall;have f1:=HM;obtain⟨hp,g,d,tk,os⟩:=s;repeat (any_goals (first|assumption|wp_step))
 show⟨AZ _ bF,qg PySem.F.entry_list_append ?_⟩;change aA _ _ (updateSeq l (·.push v)>>=λ_=>ret ax) _ _ _;show ah (uT hl Z (aB h) (by have:fg=16777216:=jU;simp;lia) (by have:fg=16777216:=jU;simp;lia))
theorem c_{l:ae}(hl:h.get? l=O (bp vs n)):∃n',(h.update l (dO (·.push v))).get? l=O (bp (vs++[v]) n'):=by show⟨n+1,?_⟩;rw[gQ _ hl Z];simp[bp,dO]
theorem Xr{m l:Nat}(hT:gq U)(p:PL H U L J aK bo bw G S br Gs s)(hG:lV G)(E:ck G x=O (k,aH (R m)))(hm:(m,nW "list.append" (R l))∈br)(hl:(l,bp vs n)∈br)(hv:vs.length<=1000)(dH:cI e=ab)(hi:iG J=ab)(hs:fD (bx (aq (NM x) np) [e] [] cpos) ai pos.line J=pure ab)(he:∀W,PS H U L J s W (S.map (·.1)) G S s->C A (a7 e J) s (λv aD=>∃S',PS H U L J s W (S.map (·.1)) G S' aD/\
 ∀Y n',PL H U L J aK bo bw G S' ((br.filter λy=>y.1 != l)++[(l,bp (vs++[v]) n')]) Gs Y->C A (aU rest J) Y Q)):
 C A (aU (qw (bx (aq (NM x) np) [e] [] cpos) pos::rest) J) s Q:=by
 show z0 hi hs (fY (T.wcV (vY p.er E) λfv F aP=>?_));apply bM.Gb aP;show de (by rw[l6 dH];rfl) ?_;rw[l6 dH];show bg p.open λW ps back=>eu<|cu<|(he W ps).mono λv s2 qQ=>bg qQ λS' p2 hk=>c8<|have q2:=back _ _ _ _ p2;have hm2:=q2.getL hm;have J':=q2.getL hl;cS<|ah<|jo hm2<|aB ⟨rfl,cS (b_ hm2 J' hv ⟨rfl,?_⟩)⟩;show dG (c_ (v:=v) J') λn' wm=>have YR:∀b o,b≠l->s2.heap.get? b=O o->(s2.heap.update l (dO (·.push v))).get? b=O o:=λb o D e=>(mn _ _ (eQ D)).trans e;hk _ n' (q2.move hG hT (X:=[l]) (λb o D e=>YR b o (vw D) e) Z Z q2.mod.gens (λb D=>by have D:=bI.mp D;show D▸?_;show cn _ hl Z) (λy hy=>?_) q2.gk)
 .rcases bY.mp hy with q|q
  .show eZ (gu.mp q) λh1 h2=>⟨ak (bG.mpr (cn y h1 Z)),YR _ _ (by simpa using h2) (q2.getL h1)⟩
  .apply jQ q;show⟨ak (bG.mpr (cn _ hl Z)),wm⟩
end
section
open PySem.Builtin PySem.Builtin.ObjectAttr
set_option maxHeartbeats 1000000
theorem acM(P:cf)(t:Nat->ba)(fd:cq):∀a o,(y9 P t fd).lookup a=O o->a∉bV:=by
 intro a o e;have:∀x∈([135,60,134,59,123,126,129,124,127,130,43]:List ae),x∉bV:=by decide
 show this a (Hj e)
theorem Ca(X:(y9 P t fd).In h)(x:hJ H h h'):(y9 P t fd).In h':=λa o e=>x.keep a o (acM P t fd a o e) (X a o e)
theorem afG:(clsIn (y9 P t fd) 135).isSome=N:=by ext
theorem d_:mroIn (y9 P t fd) 135 (ao "tuple")=O N:=by ext
theorem ah1:iJ (y9 P t fd) (R 135) "__getattribute__" =O (O (bB "tuple.__getattribute__")):=by ext
theorem ah2:iJ (y9 P t fd) (R 135) "__getattr__" =O ai:=by ext
theorem ah3:iJ (y9 P t fd) (R 135) "num_blocks" =O (O (R 124)):=by ext
theorem ah4:iJ (y9 P t fd) (R 135) "num_total" =O (O (R 127)):=by ext
theorem ah5:iJ (y9 P t fd) (R 135) "num_data" =O (O (R 130)):=by ext
theorem ah6:yq (y9 P t fd) (R 124) "__get__" =O (O (R 43)):=by ext
theorem ah7:yq (y9 P t fd) (R 127) "__get__" =O (O (R 43)):=by ext
theorem ah8:yq (y9 P t fd) (R 130) "__get__" =O (O (R 43)):=by ext
theorem ah9:A6 (y9 P t fd) (R 124)=O N:=by ext
theorem aia:A6 (y9 P t fd) (R 127)=O N:=by ext
theorem aib:A6 (y9 P t fd) (R 130)=O N:=by ext
theorem aic(n:aV):plainGet (y9 P t fd) 60 n=N:=by ext
section
variable{bj:mw}{x:ae}
theorem YZ:gO table "tuple.__getattribute__" =O Builtin.«object.__getattribute__»:=am_entry_tuple_getattribute
theorem e_:builtinKind "tuple.__getattribute__" =O abx:=by rfl
theorem Y0:splitId "tuple.__getattribute__" =O ("tuple", "__getattribute__"):=by rfl
theorem Y1{x:ae}{nm:aa}{Q:Unit->af->Prop}(L4:gS M s.heap (ri (R x) (ao "tuple")) N)(q:Q () s):
 aA M A (sH "tuple.__getattribute__" ⟨[R x,nm],[]⟩) Q aX s:=
 @LJ M A aX s "tuple.__getattribute__" "tuple" "__getattribute__" (R x) [nm] [] Q e_ Y0 L4 (PySem.F.args_tuple_getattribute_2 _ _) q
theorem f_{g a:aa}(X:bj.In s.heap)(I:InstAt s.heap x ox aS od)(hga:iJ bj (R aS) "__getattribute__" =O (O (bB "tuple.__getattribute__")))(hgn:iJ bj (R aS) "__getattr__" =O ai)(hm:mroIn bj aS (ao "tuple")=O N)(hf:findObj bj aS od name=O (abo g a))(h:T A.in1 (call g [a,R x,R aS]) {s with toks:=s.toks+1} (λv Y=>(∀id,v≠bB id)/\Q v Y)):
 T A (getAttr (R x) name aeK) s Q:=by
 obtain⟨hh,gg,d,t,os⟩:=s;have L0:=I.type (M:=aE prog w);show ah<|wpAny_mkText<|cQ<|ah<|L0.at<|ah<|(A4 (M:=aE prog w) X hga).at<|(?_:aA _ _ (if(onTheHeap (R aS) && ((bB "tuple.__getattribute__")==bB "object.__getattribute__"))=N then _ else _) _ _ _);show ah (m:=hookBefore (R aS))<|(A4 (M:=aE prog w) X hgn).at<|ah (sI (cQ ?_))
 delta callGetattribute
 rw[if_neg (by cases aeK<;>decide)];show ah<|fM (Vv.bind _)<|kT<|xy Vv.plain YZ<|Y1 (L0.andThen (LI X hm))<|ah<|aB<|ah<|aB<|ah<|L0.at<|ah<|(looks_find (M:=aE prog w) X I hf).at<|ah (cQ (ir h (λv Y z=>aB ?_) λ_ _ z=>z.elim));show(?_:aA _ _ (Ey v) _ _ _);have:Ey v=pure v:=by cases v<;>first|rfl|show absurd Z (z.1 _)
 show this.symm▸aB z.2
end
end
inductive Cb(h:aO)(i:ae)(ns:LN):Prop
 |mk (dx:ae) (t0 t1 t2:ba) (a b c:Nat) (e:ns=[a,b,c]) (hi:h.get? i=O {cls:=R 135,dict:=O dx,data:=bQ #[ag (aj a) t0,ag (aj b) t1,ag (aj c) t2] 0}) (hd:h.get? dx=O iy) (hT:dx∉bV) (off:i∉bV)
section
variable{bj:mw}{x:ae}
theorem g_:opaqueClassAbove (ao "tuple")=pure ai:=vi Z
theorem acN:Fj [] (ao "tuple") (ao "type") "__getitem__" =O (Mr (bB "tuple.__getitem__")):=by ext
theorem acO(h:aO):Frag.In [] h:=λa o e=>Bj e
theorem h_{id:String}{Q:aa×List aa->af->Prop}(hf:Fj [] (ao "tuple") (ao "type") nm=O (Mr (bB id)))(ho:Ey (bB id)=pure (bB id))(h:Q (bB id,[]) {s with toks:=s.toks+1}):aA (aE prog w) A (Ew (ao "tuple") nm pl) Q aX s:=by
 have X:=acO s.heap;have L0:gS (aE prog w) s.heap (xT (ao "tuple")) (ao "type"):=LO (by first|rfl|ext);have hg:iJ [] (ao "type") "__getattribute__" =O (O (bB "type.__getattribute__")):=type_tga;show ah (ah (L0.here ((A4 X hg).here ?_)));dsimp only;show ah (ir (Q:=λv=>Q (v,[])) (E:=aX) ?_ (λ_ _ z=>aB z) λ_ _ z=>z);show cls_open X (LO g_) L0 hg (looks_hook X (r:=ai) (rfl)) (by rfl) hf
  (aB (by change aA _ _ (Ey (bB id)) _ _ _;rw[ho];show aB h))
theorem Y2{x:ae}{nm:aa}{Q:Unit->af->Prop}(L4:gS M s.heap (ri (R x) (ao "tuple")) N)(q:Q () s):
 aA M A (sH "tuple.__getitem__" ⟨[R x,nm],[]⟩) Q aX s:=
 @LJ M A aX s "tuple.__getitem__" "tuple" "__getitem__" (R x) [nm] [] Q (rfl) (rfl) L4 (PySem.F.args_tuple_getitem_2 _ _) q
theorem Y3(a:ae)(c:aa)(dd:Option ae)(sl:Array (Option aa))(K:Array aa)(n:Nat)(k:Nat)(t:ba)(v:aa)(hk:K[k]? =O v)(hk2:k<=1000)(hsi:rj (aj k) K.size=O k):
 rl (Builtin.«tuple.__getitem__» ⟨[R a,ag (aj k) t],[]⟩) (λA aN s=>s.heap.get? a=O {cls:=c,dict:=dd,data:=bQ K n,slots:=sl}/\aN (bX (cG v)) s):=
 rQ λprog w A aN s hs=>by
  obtain⟨hp,g,d,tk,os⟩:=s;show eZ hs λE hs=>?_;have hii:=TR;repeat (any_goals (first|assumption|wp_step))
  rw[(decide_eq_false au),(decide_eq_false au),if_neg aL];change aA _ _ (match (rj (aj k) K.size).bind λx=>K[x]? with
   |some x=>ret x
   |none=>do
    sR "tuple.getitem.out-of-range"
    raiseErrorWords "IndexError" "tuple index out of range") _ _ _
  rw[(by rw[hsi];show hk:(rj (aj k) K.size).bind (K[·]?)=O v)];show aB (cn v Z hs)
end
theorem o7.isNone(he:V H U A L J G e (aH (R a)) ab):o7 H U A L J G (jt e [CmpOp.Is] [fN rO k p2] pos) ab:=λs r=>by show uQ ((he r).Z9 λaD e1=>TC ?_) Z;show is_none (me ⟨e1,rfl⟩)
theorem o7.call{f:aG}{args:List aG}{b:Bool}(he:V H U A L J G (bx f args [] pos) (eX b) ab):o7 H U A L J G (bx f args [] pos) b:=λs r=>isTrue_plain<|(he r).tN λv Y F e aP _=>aP.toBool.symm▸me ⟨e,rfl⟩
def t9(mg mb:aV->Option aa):Prop:=∀p∈[("type",ao "type"),("issubclass",bB "issubclass")],mg (aC p.1)=ai/\mb (aC p.1)=O p.2
theorem Y4{nm:String}(B:cx U mg mb)(kM:L.names.lookup (aC nm)=O kY)(h1:mg (aC nm)=eV)(h2:mb (aC nm)=O v)(hd:(aC nm==("__debug__" :aV))=ab):
 V H U A L J G (aq (aC nm) np) (aH v) fr:=λs r=>
 (eG B r kM h1 h2 hd).Cw λf aK e0 hf=>e0▸hf▸o6 [] (.refl _) (.ip _) d9
theorem Xt{prog:sN}{w:fh}(X:(y9 P t fd).In h):gS (aE prog w) h (oF (R 135) (ao "tuple")) N:=LI X d_
theorem PZ(P:cf)(t:Nat->ba)(fd:cq):rl (uX.«issubclass» ⟨[R 135,ao "tuple"],[]⟩) (λ_ aN s=>(y9 P t fd).In s.heap/\aN (bX (cG (c9 N))) s):=λprog w A aN s hs=>issubclass_outer (by show eZ hs λX hs=>?_;obtain⟨hp,g,d,tk,os⟩:=s;have br:=Xt (prog:=prog) (w:=w) X;have E:=X 135 _ Z;repeat (any_goals (first|assumption|(show br.at ?_)|(show ah (br.at ?_))|wp_step)))
theorem i_{nm:String}{cv:aa}(B:cx U mg mb)(kM:L.names.lookup (aC nm)=O kY)(h1:mg (aC nm)=ai)(h2:mb (aC nm)=O cv)(hd:(aC nm==("__debug__" :aV))=ab)(r:ER H U L J s.heap G)(hq:∀aK,aK=s->aA (aE prog w) A (xO pos cv [] (jV pos (jq (e::es) J)) []) Q NoE aK):T A (a7 (bx (aq (aC nm) np) (e::es) [] pos) J) s Q:=mf<|(eG B r kM h1 h2 hd).Dm<|hq _ Z
theorem Y5{i:ae}(B:cx U mg mb)(I2:t9 mg mb)(kM:Gi L "type")(hE:Cb U i ns)(he:V H U A L J G e (aH (R i)) ab)(dH:cI e=ab):
 V H U A L J G (bx (aq (aC "type") np) [e] [] pos) (aH (R 135)) fr:=λs r=>by
 have hI:=I2 ("type",ao "type") aL;show i_ B kM hI.1 hI.2 (rfl) r λaK e0=>?_;subst e0;show A1 ((fL.cons he fL.nil dH aK pos r).QW λvs aD F1 e1 V1=>?_) (dp dH _ _) Z;apply vB V1;show og λgG kG=>?_;obtain⟨dx,t0,t1,t2,x,y,z,_,hi,_,_,off⟩:=hE;obtain⟨hp,g,d,tk,os⟩:=aD;show kG ?_;clear kG gG;show call_type_obj ((r.base.trans e1.ext).keep _ _ off hi) Z (o6 [] e1 (.ip _) d9)
theorem j_(B:cx U mg mb)(I2:t9 mg mb)(X:(y9 P t fd).In U)(kM:Gi L "issubclass")(he1:V H U A L J G e1 (aH (R 135)) ab)(I4:cI e1=ab)(he2:V H U A L J G e2 (aH (ao "tuple")) ab)(CH:cI e2=ab):
 V H U A L J G (bx (aq (aC "issubclass") np) [e1,e2] [] pos) (eX N) fr:=λs r=>by
 have hI:=I2 ("issubclass",bB "issubclass") aL;show i_ B kM hI.1 hI.2 (rfl) r λaK e0=>?_;subst e0;show yp ((fL.cons he1 (fL.cons he2 fL.nil CH) I4 aK pos r).QW λvs aD F1 x1 V1=>?_) (dp I4 _ _) (by rw[l6 CH];rfl);apply nN V1;intro v v3 G1 G3 V2 V4;apply bM.Gb V2;apply bM.Gb V4;show call_issubclass (PZ P t fd) ⟨Ca X (r.base.trans x1.ext),x1,[],.ofBool _,d9⟩
theorem uu{o:aG}{args:List aG}(xh:uU o name J (a7 o J)=a7 o J)(Ϫ:Kb (args.length+([]:List AA).length) (jV pos (jq args J)) (backToKw pos (Kl [] J))=N)(lz:(apos.endLine==pos.line)=N)(h:aA M A (a7 o J) (λov aD=>∀pl,aA M A (Ew ov name pl) (λfx aQ=>aA M A (xO pos fx.1 fx.2 (jV pos (jq args J)) []) Q aX aQ) aX aD) aX s):
 aA M A (a7 (bx (gZ o name apos) args [] pos) J) Q aX s:=by
 rw[arm_eval_Call,xh];show ah (ir h (λov aD U=>ah (jT ?_)) λ_ _ x=>x)
 delta methodCall
 show Ϫ.symm▸ah (cQ (ir (U _) (λfx aQ ko=>?_) λ_ _ x=>x));show ah (fM (by delta methodCallPos;simp[lz]) ko)
theorem R7{ga dx:Nat}{tk:ba}{od:bE}(X:(y9 P t fd).In U)(h1:(y9 P t fd).lookup ga=O (Om dx))(h2:(y9 P t fd).lookup dx=O od)(h3:findObj (y9 P t fd) 60 (O od) "index" =O (VO (ag (aj j) tk)))(E:ck G x=O (k,aH (R ga))):V H U A L J G (gZ (aq (NM x) np) (aC "index") pos) (aT j) fr:=λs r=>by show Fd<|T.Dm (ui r E)<|have Xs:=Ca X r.base;get_value Xs ⟨Xs _ _ h1,rfl,rfl,Xs _ _ h2⟩ (A5 (aic "index")).1 h3 Z (o6 [] (.toks _ _) (.ofInt _ _) d9)
theorem acP{v:Nat}(t0 t1 t2:ba):∀{j:Nat},[x,y,z][j]? =O v->∃tv,(#[ag (aj x) t0,ag (aj y) t1,ag (aj z) t2]:Array aa)[j]? =O (ag (aj v) tv)/\j<3/\rj (aj j) 3=O j
 | 0,h=>kF t0 (congrArg (λv:Nat=>O (ag (aj v) t0)) (aW h)) bu Z
 | 1,h=>kF t1 (congrArg (λv:Nat=>O (ag (aj v) t1)) (aW h)) bu Z
 | 2,h=>kF t2 (congrArg (λv:Nat=>O (ag (aj v) t2)) (aW h)) bu Z
 |_+3,h=>Bj h
theorem Y6{i:ae}{v:Nat}{ap:cB}(B:cx U mg mb)(I:dQ mg mb)(X:(y9 P t fd).In U)(hE:Cb U i ns)(hj:ns[j]? =O v)(kM:Gi L "tuple")(he1:V H U A L J G e1 (aH (R i)) ab)(I4:cI e1=ab)(he2:V H U A L J G e2 (aT j) ab)(CH:cI e2=ab)(lz:(ap.endLine==pos.line)=N):
 V H U A L J G (bx (gZ (aq (aC "tuple") np) (aC "__getitem__") ap) [e1,e2] [] pos) (aT v) fr:=λs r=>by
 have hI:=I ("tuple",ao "tuple") aL;show uu Z (by rw[HI I4 CH];rfl) lz<|(eG B r kM hI.1 hI.2 (rfl)).Dm<|λpl=>h_ acN Z<|have r':ER H U L J ({s with toks:=s.toks+1}:af).heap G:=r;U5 (by rw[HI I4 CH];rfl) ?_;have:=fL.cons he1 (fL.cons he2 fL.nil CH) I4 {s with toks:=s.toks+1} pos r';rw[dp I4]at this ⊢;show LL (this.QW λvs aD F1 x1 V1=>?_);apply nN V1;intro v0 v3 G1 G3 V2 V4;apply bM.Gb V2;apply bM.zL V4;intro tk;show og λgG kG=>?_;obtain⟨dx,t0,t1,t2,x,y,z,dX,hi,_,_,off⟩:=hE;show kG ?_;clear kG gG;subst dX;have xx:=r.base.trans (show hJ H s.heap aD.heap from x1.ext);have hi1:=xx.keep _ _ off hi;show gI (acP t0 t1 t2 hj) λtv hv hj3 hsi=>kT<|xy Vw.plain PySem.F.entry_tuple_getitem<|Y2 (((Fm hi1).andThen vk).andThen (Xt (Ca X xx)))<|Y3 i (R 135) (O dx) #[] _ 0 j tk _ hv (a8 (gz hj3) bu) hsi prog w A (wants _ _) aD<|⟨hi1,(show dA H s {s with toks:=s.toks+1} from .toks _ _).trans x1,[],.ofInt _ _,d9⟩
def DZ(U:aO)(P:cf)(t:Nat->ba)(fd:cq):Prop:=
 (y9 P t fd).In U/\
 qX U 43 fd tgM/\
 fd.defaults=R 36/\
 ∃n,U.get? 36=O (cV [ax] n)
structure Gt(P:cf)(t:Nat->ba)(fd:cq)(ga:ae)(j:Nat):Prop where
 ex:∃dx od tk,(y9 P t fd).lookup ga=O (Om dx)/\(y9 P t fd).lookup dx=O od/\findObj (y9 P t fd) 60 (O od) "index" =O (VO (ag (aj j) tk))
theorem gt0:Gt P t fd 124 0:=⟨123,_,t 34,rfl,rfl,rfl⟩
theorem gt1:Gt P t fd 127 1:=⟨126,_,t 38,rfl,rfl,rfl⟩
theorem gt2:Gt P t fd 130 2:=⟨129,_,t 42,rfl,rfl,rfl⟩
theorem acQ(dB:DZ U P t fd)(x:hJ H U s.heap)(a b c:aa):T A (dw fd ⟨[a,b,c],[]⟩) s (λbs Y=>Y=s/\bs=([110,113,114].map NM).zip [a,b,c]):=by
 show dG dB.2.2.2 λn hd=>?_
 delta dw
 show dB.2.1.params.symm▸dB.2.2.1.symm▸dB.2.1.kwd.symm▸ah (aB (ah (jD (x.keep _ _ (DQ Z) hd) Z ?_)));show aB ⟨rfl,rfl⟩
theorem akB{ga i:ae}{v:Nat}(B:cx U mg mb)(I:dQ mg mb)(I2:t9 mg mb)(dB:DZ U P t fd)(hg:Gt P t fd ga j)(hE:Cb s.heap i ns)(hj:ns[j]? =O v)(x1:hJ H U s.heap)(bK:A.depth<1000):
 T A (call (R 43) [R ga,R i,R 135]) s (λu Y=>dA H s Y/\∃tk,u=ag (aj v) tk):=by
 show og λgG kG=>?_;obtain⟨dx,od,tk,g1,g2,g3⟩:=hg;show kG ?_;clear kG gG;have Xs:=Ca dB.1 x1;have Bs:=B.ext x1;show(WY (G':=qJ [110,113,114] [aH (R ga),aH (R i),aH (R 135)]) (avs:=[aH (R ga),aH (R i),aH (R 135)]) (F:=[]) B x1 bK dB.2.1 Z Z Z (acQ dB x1 _ _ _) ?_ aL Z aL λfZ=>?_).wp3 λu Y F e aP=>⟨e,aP.toInt⟩
 .show ej [] [] (.ip _) (ej [] [] (.ip _) (ej [] [] (.ip _) .nil))
 show SS.m<|SS.cons (S1.ite (o7.isNone (ar 113 Z)) (λq=>Iv q) λ_=>SS.nil)<|SS.cons (S1.ite (x:=ab) (FN N (o7.call (j_ Bs I2 Xs Z (Y5 Bs I2 Z hE (ar 113 Z) Z) Z (Y4 Bs Z (I ("tuple",ao "tuple") aL).1 (I ("tuple",ao "tuple") aL).2 (rfl)) Z))) (λq=>Iv q) λ_=>SS.nil) (tQ (S1.ret (Y6 Bs I Xs hE hj Z (ar 113 Z) Z (R7 (x:=110) Xs g1 g2 g3 Z) Z Z)))
def uL(ns:LN):AV:=fI (ns.map aT)
theorem Cb.ext{i:ae}(e:Cb h i ns)(x:hJ H h h'):Cb h' i ns:=by obtain⟨dx,t0,t1,t2,a,b,c,h1,h2,h3,h4,off⟩:=e;show⟨dx,t0,t1,t2,a,b,c,h1,x.keep _ _ off h2,x.keep _ _ h4 h3,h4,off⟩
theorem DZ.ext(dB:DZ U P t fd)(x:hJ H U h):DZ h P t fd:=⟨Ca dB.1 x,dB.2.1.ext x,dB.2.2.1,dG dB.2.2.2 λn e=>⟨n,x.keep _ _ (DQ Z) e⟩⟩
theorem CZ{ga i:ae}{v:Nat}(bK:A.depth<900)(B:cx U mg mb)(I:dQ mg mb)(I2:t9 mg mb)(dB:DZ U P t fd)(hg:Gt P t fd ga j)(hf:iJ (y9 P t fd) (R 135) nm=O (O (R ga)))(OL:yq (y9 P t fd) (R ga) "__get__" =O (O (R 43)))(htk:A6 (y9 P t fd) (R ga)=O N)(hE:Cb U i ns)(hj:ns[j]? =O v)(he:ck G x=O (k,aH (R i))):
 V H U A L J G (gZ (aq (NM x) np) nm pos) (aT v) fr:=λs r=>by
 show Fd (T.Dm (ui r he) ?_);have x1:=r.base;have N1:=dB.ext x1;have E1:=hE.ext x1;have E2:=E1;obtain⟨dx,t0,t1,t2,a,b,c,h1,h2,h3,h4,off⟩:=E2;show f_ N1.1 ⟨h2,rfl,rfl,h3⟩ ah1 ah2 d_ (findObj_data afG hf OL htk)<|(akB (s:={s with toks:=s.toks+1}) (H:=H) (B.ext x1) I I2 N1 hg E1 hj (.refl _) au).mono λu s2 ou=>Ms ou λe2 tk hu=>hu▸⟨(λid q=>nomatch q),(show dA H s {s with toks:=s.toks+1} from .toks _ _).trans e2,[],.ofInt _ _,d9⟩
theorem P0{i:ae}{a b:Nat}(bK:A.depth<900)(B:cx U mg mb)(I:dQ mg mb)(I2:t9 mg mb)(dB:DZ U P t fd)(hE:Cb U i [a,b,c])(he:ck G x=O (k,aH (R i))):
 V H U A L J G (gZ (aq (NM x) np) (aC "num_blocks") pos) (aT a) fr:=CZ bK B I I2 dB gt0 ah3 ah6 ah9 hE Z he
theorem R8{i:ae}{a b:Nat}(bK:A.depth<900)(B:cx U mg mb)(I:dQ mg mb)(I2:t9 mg mb)(dB:DZ U P t fd)(hE:Cb U i [a,b,c])(he:ck G x=O (k,aH (R i))):
 V H U A L J G (gZ (aq (NM x) np) (aC "num_total") pos) (aT b) fr:=CZ bK B I I2 dB gt1 ah4 ah7 aia hE Z he
theorem JF{i:ae}{a b:Nat}(bK:A.depth<900)(B:cx U mg mb)(I:dQ mg mb)(I2:t9 mg mb)(dB:DZ U P t fd)(hE:Cb U i [a,b,c])(he:ck G x=O (k,aH (R i))):
 V H U A L J G (gZ (aq (NM x) np) (aC "num_data") pos) (aT c) fr:=CZ bK B I I2 dB gt2 ah5 ah8 aib hE Z he
theorem Nu(aP:bM U av v F)(he:V H U A L J G e (aH v) ab):V H U A L J G e av ab:=λs r=>
 (he r).Z9 λaD e1=>o6 F e1 (aP.ext (r.base.trans e1.ext)) (λq=>Iv q)
theorem Xu{a i:aG}(ha:V H U A L J G a (uL ns) ab)(hi:V H U A L J G i (aT k) ab)(hk:k<ns.length)(hl:ns.length<=1000)(sf:j8 i=ab):V H U A L J G (dk a i pos) (aT (ns.getD k 0)) fr:=by show wD ha hi ?_ sf (λ_=>rfl);change cond (dY k 1000000) ((ns.map aT)[k]?) eV=_;rw[(eU au),cond_true,cZ,dF hk];simp[hk]
def mbF:List cg:=tZ (a9 (bh jk) 7)
def R9:List cg:=tZ (a9 mbF 3)
noncomputable def Cc(ex gen:LN)(k lc:Nat)(eb:LN):Nat->LN
 | 0=>eb
 |n+1=>(Cc ex gen k lc eb n).set (k+n+1) ((Cc ex gen k lc eb n).getD (k+n+1) 0 ^^^ ex.getD (lc+gen.getD n 0) 0)
def gV(lg ex gen eb:LN):Nat->LN
 | 0=>eb
 |k+1=>if(gV lg ex gen eb k).getD k 0=0 then gV lg ex gen eb k else Cc ex gen k (lg.getD ((gV lg ex gen eb k).getD k 0) 0) (gV lg ex gen eb k) gen.length
theorem HO:∀n,(Cc ex gen k lc eb n).length=eb.length:=by
 intro xX;induction xX with
 |zero=>show rfl
 |succ n iH=>show ES.trans iH
theorem xn{lg:LN}:∀k,(gV lg ex gen eb k).length=eb.length:=by
 intro xX;induction xX with
 |zero=>show rfl
 |succ k iH=>show iteInduction (motive:=λl:LN=>l.length=eb.length) (λ_=>iH) λ_=>(HO _).trans iH
theorem lY.akC(h:lY ns)(k:Nat)(E:x<256):lY (ns.set k x):=⟨λy hy=>by
 rcases u6 hy with q|q
 .show h.1 y q
 .rw [q];show E,ES.symm▸h.2⟩
theorem jc{b:Nat}(h:∀x∈ns,x<b)(D:0<b)(k:Nat):ns.getD k 0<b:=by
 rw[da];cases q:ns[k]? with
 |none=>show D
 |some x=>show h x (cY q)
theorem Xv(E:∀x∈ex,x<256)(h:lY eb):∀n,lY (Cc ex gen k lc eb n):=by
 intro xX;induction xX with
 |zero=>show h
 |succ n iH=>show(iH).akC _ (EZ (n:=8) (jc (iH).1 aL _) (jc E aL _))
theorem Xw{lg:LN}(E:∀x∈ex,x<256)(h:lY eb):∀k,lY (gV lg ex gen eb k):=by
 intro xX;induction xX with
 |zero=>show h
 |succ k iH=>show iteInduction (motive:=lY) (λ_=>iH) λ_=>Xv E iH _
def gMB(m1 m2 l1 l2 gp rr eb:ae)(nd ne:Nat):iz:=[(103,0,aH (R eb)),(102,0,aT nd),(101,0,aH (R rr)),(100,0,aH (R gp)),(99,0,aT ne),(97,0,aH (R 1890)),(96,0,aH (R 1888)),(95,0,aH (R m2)),(94,0,aH (R m1)),(86,0,aH (R l2)),(85,0,aH (R l1))]
def k_(U:aO)(lg ex gen:LN)(gp:ae):Prop:=
 bM U (uL lg) (R 1888) []/\
 (∃F,bM U (aY ex) (R 1890) F)/\
 bM U (uL gen) (R gp) []/\
 lg.length=256/\
 ex.length=510/\
 (∀x∈lg,x<255)/\
 (∀x∈ex,x<256)/\
 (∀x∈gen,x<255)/\
 gen.length<=100
section
variable{Q:cb->af->Prop}
theorem afH{lg:LN}{m1 m2 l1 l2 eb:ae}{nd:Nat}{tr ur vr:ba}(hh:dh A)(B:cx U mg mb)(I:dQ mg mb)(T1:k_ U lg ex gen gp)(p:PS H U (bf jk) J aK bo bw G ((eb,kz ns)::S) s)(hG:km (gMB m1 m2 l1 l2 gp rr eb nd gen.length) G)(hn:lY ns)(dM:ns.length=nd+gen.length)(hr:(rr,mL gen.length tr ur vr)∈S)(hS:∀y∈S,y.1≠eb)(kk:∀Y,PS H U (bf jk) J aK bo bw (gMB m1 m2 l1 l2 gp rr eb nd gen.length) ((eb,kz (gV lg ex gen ns nd))::S) Y->C A (aU rest J) Y Q):
 C A (aU (a9 R9 5::rest) J) s Q:=by
 show dU T1 λT11 T12 T13 T14 T15 T16 T17 aid=>eZ aid λT18 T19=>?_;have J':=hn.2;have hg1:=T19;show yP 92 (Dq 0 1 nd) (λ_ (_:Unit)=>gMB m1 m2 l1 l2 gp rr eb nd gen.length) (λk _=>(eb,kz (gV lg ex gen ns k))::S) () p (zQ (k:=nd) hh (p.base B) I Z (ar 102 (hG.all _ _ _ Z)) Z au fH)
  hG (λy hy=>hy) (ak Z) (λ_ _ _=>rfl) (λk n z s1 W hk q=>?_) (λ_=>rfl) (λs9 _ p9=>?_)
 .obtain ⟨hi,hk⟩:=o9.mp hk;have hk':(n:Int)=aj k:=by rw[hk];simp
  subst hk';have ho:=Xw (lg:=lg) (gen:=gen) T17 hn k;have hle:=xn (lg:=lg) (ex:=ex) (gen:=gen) (eb:=ns) k;show PS.asg (x:=104) (av:=aT ((gV lg ex gen ns k).getD k 0)) q (B1 (a:=eb) (q.get (cR ..)) (q.sg _ (cR ..)).2.1 ho (ar 103 Z) (ar 92 Z) (kx au) Z) Z Z (ak Z) Z λs2 q2=>q2.ite (x:=decide ((gV lg ex gen ns k).getD k 0≠0)) (yJ (ar 104 Z) (aR 0)) λs3 q3=>?_;by_cases hc:(gV lg ex gen ns k).getD k 0=0
  .have e1:gV lg ex gen ns (k+1)=gV lg ex gen ns k:=if_pos hc;rw[decide_eq_false (by rw[hc];show not_not_intro Z)];show ff (ff ⟨rfl,(),?_⟩);show e1.symm▸q3.less (km.rf bF bF)
  .have e1:gV lg ex gen ns (k+1)=Cc ex gen k (lg.getD ((gV lg ex gen ns k).getD k 0) 0) (gV lg ex gen ns k) gen.length:=if_neg hc;rw[decide_eq_true hc];have hlc:=jc T16 aL ((gV lg ex gen ns k).getD k 0);show q3.s1 (S1.m (bC 105 (aT (lg.getD ((gV lg ex gen ns k).getD k 0) 0)) (Xu (Nu (T11) (ar 96 Z)) (ar 104 Z) (by rw[T14];show(jc ho.1 aL k)) (by rw[T14];decide) Z) Z Z (ak Z) Z)) λs4 q4=>yP 106 (Dq 0 1 gen.length) (λ_ (_:Unit)=>jh (jh (jh (gMB m1 m2 l1 l2 gp rr eb nd gen.length) 92 0 (a6 (aj k))) 104 0 (aT ((gV lg ex gen ns k).getD k 0))) 105 0 (aT (lg.getD ((gV lg ex gen ns k).getD k 0) 0)))
    (λn _=>(eb,kz (Cc ex gen k (lg.getD ((gV lg ex gen ns k).getD k 0) 0) (gV lg ex gen ns k) n))::S) () q4 (z9 101 0 hh (q4.base B).top (q4.get (bW _ hr)) (q4.sg _ (bW _ hr)).2.1 Z au)
    ⟨λ_ _ _ e=>e,λ_ _ e=>e⟩ (λy hy=>hy) (ak Z) (λ_ _ _=>rfl) (λn m z5 s5 W5 hn5 q5=>?_) (λ_=>rfl) (λs7 _ q7=>ff (ff ⟨rfl,(),?_⟩))
   .obtain ⟨hi5,hn5⟩:=o9.mp hn5;have akD:(m:Int)=aj n:=by rw[hn5];simp
    subst akD;have hl5:=HO (ex:=ex) (gen:=gen) (k:=k) (lc:=lg.getD ((gV lg ex gen ns k).getD k 0) 0) (eb:=gV lg ex gen ns k) n;have hgn:=(jc T18 aL) n;show dG T12 λFx Vx=>Ψ (a:=eb) (k:=k+n+1) (x:=ex.getD (lg.getD ((gV lg ex gen ns k).getD k 0) 0+gen.getD n 0) 0) (y:=(Cc ex gen k (lg.getD ((gV lg ex gen ns k).getD k 0) 0) (gV lg ex gen ns k) n).getD (k+n+1) 0) q5
     (fq (Nu (Vx.ext q5.ext) (ar 97 Z)) (fu (ar 105 Z) (Xu (Nu ((T13).ext q5.ext) (ar 100 Z)) (ar 106 Z) hi5 au Z)) (by rw[T15];lia) (by rw[T15];decide) Z)
     (ar 103 Z) (fu (fu (ar 92 Z) (ar 106 Z)) (aR 1)) (cR ..) (Xv (gen:=gen) (k:=k) (lc:=lg.getD ((gV lg ex gen ns k).getD k 0) 0) T17 ho n) (kx au) (jc T17 aL _) (S':=(eb,kz (Cc ex gen k (lg.getD ((gV lg ex gen ns k).getD k 0) 0) (gV lg ex gen ns k) (n+1)))::S) (λy hy=>?_) λs6 q6=>ff ⟨rfl,(),q6.less (km.rf bF bF)⟩
    rcases bq.mp hy with e|e
    .left;rw[e];show⟨rfl,rfl⟩
    .show aw ⟨hS y e,bW _ e⟩
   .show e1.symm▸?_;have hlr:(Dq 0 1 gen.length).length=gen.length:=MI;rw[hlr]at q7;show q7.less (km.rf bF bF)
 .rw [(by simp[Dq]:(Dq 0 1 nd).length=nd)]at p9;show kk s9 p9
end
theorem Y7{d:Nat}(h1:gens[d]? =O ⟨ct,iter,ifs,0⟩)(h2:gens[d+1]? =ai):
 u4 (cE elt gens scope pos) d it jP J=(mV iter.pos>>=λ_=>gY it>>=λr=>match r with
  |none=>pure (nu cL)
  |some v=>jC ct it v>>=λ_=>jE ct J v>>=λ_=>pg ifs J>>=λok=>
   if ok=N then(a7 elt J>>=λx=>call (bB "list.append") [jP,x]>>=λ_=>pure ())>>=λ_=>again (hx (cE elt gens scope pos) d it jP J)
   else again (hx (cE elt gens scope pos) d it jP J)):=by
 delta u4
 dsimp only;show h1.symm▸h2.symm▸?_;rfl
theorem l_{iter':aG}{d:Nat}(h1:gens[d]? =O ⟨ct,iter,ifs,0⟩)(h2:gens[d+1]? =O ⟨target',iter',ifs',0⟩):
 u4 (cE elt gens scope pos) d it jP J=(mV iter.pos>>=λ_=>gY it>>=λr=>match r with
  |none=>pure (nu cL)
  |some v=>jC ct it v>>=λ_=>jE ct J v>>=λ_=>pg ifs J>>=λok=>
   if ok=N then a7 iter' J>>=λx=>mV iter'.pos>>=λ_=>Ec iter' J x>>=λx=>holding [x] (gr x)>>=λit'=>runOwn (oT (cE elt gens scope pos) (d+1) it' jP J) J>>=λ_=>again (hx (cE elt gens scope pos) d it jP J)
   else again (hx (cE elt gens scope pos) d it jP J)):=by
 delta u4
 dsimp only;show h1.symm▸h2.symm▸?_;rfl
theorem uM{Q:Bool->af->Prop}(h:Q N s):C A (pg [] J) s Q:=C.pure h
theorem Y8{c:aG}{Q:Bool->af->Prop}(h:C A (isTrue c J (a7 c J)) s Q):C A (pg [c] J) s Q:=C.bind (C.bind (h.mono λb Y D=>C.pure (C.pure D)))
theorem DK{X:aI Fin}{d:Nat}(hX:u4 (cE elt gens scope pos) d it jP J=(mV iter.pos>>=λ_=>gY it>>=λr=>match r with
 |none=>pure (nu cL)
 |some v=>jC ct it v>>=λ_=>jE ct J v>>=λ_=>pg ifs J>>=λok=>if ok=N then X else again (hx (cE elt gens scope pos) d it jP J)))(I:Nat->af->Prop)(turn:∀n s (bj:af->Prop) (P1:Option aa->af->Prop) (P2:af->Prop) (P3:Bool->af->Prop),(∀m Y,m<n->I m Y->bj Y)->(∀aD,aN (bX cL) aD->P1 ai aD)->
 (∀v aD,C A (jC ct it v) aD (λ_ aQ=>C A (jE ct J v) aQ (λ_=>P2))->P1 (O v) aD)->(∀dg,C A (pg ifs J) dg P3->P2 dg)->
 (∀fB,C A X fB (λf s=>f=yB (hx (cE elt gens scope pos) d it jP J)/\bj s)->P3 N fB)->(∀fB,bj fB->P3 ab fB)->I n s->C A (gY it) s P1)(n:Nat)(h:I n s):CC A (hx (cE elt gens scope pos) d it jP J) s aN:=by
 induction n using UI generalizing s with
 |ind n ih=>
  show ji Z<|C.onRaise<|hX.symm▸C.bind (C.standAt (C.bind ((turn n s (λY=>∃m,m<n/\I m Y) (λr aD=>match r with
   |none=>aN (bX cL) aD
   |some v=>C A (jC ct it v) aD (λ_ aQ=>C A (jE ct J v) aQ (λ_ dg=>C A (pg ifs J) dg (λok fB=>if ok=N then C A X fB (λf Qa=>f=yB (hx (cE elt gens scope pos) d it jP J)/\∃m,m<n/\I m Qa) else∃m,m<n/\I m fB)))) _ _
    (λm _ a b=>cn m a b) (λ_ h=>h) (λ_ _ h=>h) (λ_ h=>h) (λ_ h=>(if_pos Z).mpr h) (λ_ h=>(if_neg aL).mpr h) h).mono λr aD U=>?_)))
  cases r with
  |none=>show C.pure U
  |some v=>
   show C.bind (C.mono U λ_ aQ ko=>C.bind (C.mono ko λ_ dg uk=>C.bind (C.mono uk λok fB Gv=>?_)));cases ok with
   |true=>show C.mono Gv λ_ Qa qQ=>bg qQ.2 λm hm hI=>qQ.1▸⟨rfl,ih m hm hI⟩
   |false=>show bg Gv λm hm hI=>C.pure ⟨rfl,ih m hm hI⟩
theorem ua{d:Nat}(h1:gens[d]? =O ⟨ct,iter,ifs,0⟩)(h2:gens[d+1]? =ai)(I:Nat->af->Prop)(turn:∀n s (bj:af->Prop) (P1:Option aa->af->Prop) (P2:af->Prop) (P3:Bool->af->Prop) (P4:aa->af->Prop),(∀m Y,m<n->I m Y->bj Y)->(∀aD,aN (bX cL) aD->P1 ai aD)->
 (∀v aD,C A (jC ct it v) aD (λ_ aQ=>C A (jE ct J v) aQ (λ_=>P2))->P1 (O v) aD)->(∀dg,C A (pg ifs J) dg P3->P2 dg)->
 (∀fB,C A (a7 elt J) fB P4->P3 N fB)->(∀fB,bj fB->P3 ab fB)->(∀x ig,C A (call (bB "list.append") [jP,x]) ig (λ_=>bj)->P4 x ig)->I n s->C A (gY it) s P1)(n:Nat)(h:I n s):CC A (hx (cE elt gens scope pos) d it jP J) s aN:=
 DK (Y7 h1 h2) I (λn s bj P1 P2 P3 a b c d e f i=>turn n s bj P1 P2 P3 (λx ig=>C A (call (bB "list.append") [jP,x]) ig (λ_=>bj)) a b c d (λfB h=>e fB (C.bind (C.bind (h.mono λ_ _ h=>C.bind (h.mono λ_ _ h=>C.pure (C.pure ⟨rfl,h⟩)))))) f (λ_ _ h=>h) i) n h
theorem HP{iter':aG}{d:Nat}(h1:gens[d]? =O ⟨ct,iter,ifs,0⟩)(h2:gens[d+1]? =O ⟨target',iter',ifs',0⟩)(hs:Fs iter' J)(I:Nat->af->Prop)(turn:∀n s (bj:af->Prop) (P1:Option aa->af->Prop) (P2:af->Prop) (P3:Bool->af->Prop) (P4 P5:aa->af->Prop) (P6:sO->af->Prop),(∀m Y,m<n->I m Y->bj Y)->(∀aD,aN (bX cL) aD->P1 ai aD)->
 (∀v aD,C A (jC ct it v) aD (λ_ aQ=>C A (jE ct J v) aQ (λ_=>P2))->P1 (O v) aD)->(∀dg,C A (pg ifs J) dg P3->P2 dg)->
 (∀fB,C A (a7 iter' J) fB P4->P3 N fB)->(∀fB,bj fB->P3 ab fB)->(∀x ig,C A (gr x) ig P5->P4 x ig)->
 (∀it' Qa,CC (A.mark ai) (oT (cE elt gens scope pos) (d+1) it' jP J) Qa P6->P5 it' Qa)->(∀f m_,bj m_->P6 (bX f) m_)->I n s->C A (gY it) s P1)(n:Nat)(h:I n s):CC A (hx (cE elt gens scope pos) d it jP J) s aN:=
 DK (l_ h1 h2) I (λn s bj P1 P2 P3 a b c e f g i=>turn n s bj P1 P2 P3 (λx ig=>C A (gr x) ig (λit' Qa=>CC (A.mark ai) (oT (cE elt gens scope pos) (d+1) it' jP J) Qa (λr m_=>match r with|bX _=>bj m_|j3 _=>False)))
  _ _ a b c e (λfB h=>f fB (C.bind<|h.mono λx ig zS=>C.bind<|C.standAt<|C.bind<|C.eq (hs x)<|C.bind<|C.holding<|zS.mono λit' Qa akE=>C.bind<|C.onRaise (C.run (CC.mono akE λr m_ acR=>by cases r;show acR;show C.pure ⟨rfl,acR⟩)))) g (λ_ _ h=>h) (λ_ _ h=>h) (λ_ _ h=>h) i) n h
theorem pK{d:Nat}(h1:gens[d]? =O ⟨ct,iter,ifs,0⟩)(h0:CC A (hx (cE elt gens scope pos) d it jP J) s aN)(h:C A (gr it) s (λit' Y=>CC A (hx (cE elt gens scope pos) d it' jP J) Y aN)):
 CC A (oT (cE elt gens scope pos) d it jP J) s aN:=by
 show ji Z (C.onRaise ?_)
 delta compStart
 show h1.symm▸lB (TN ?_);split
 .show C.pure ⟨rfl,h0⟩
 .show C.bind<|C.rule<|nU (C.bind (h.mono λit' Y h'=>C.pure ⟨rfl,h'⟩))
theorem acS{n_ first:aI aa}{g:Eh}(jy:Kt e=g::gs)(hs:Fs g.iter J)(o_:rh scope J=pure cl)(zq:scope.kind=dZ)(afI:∀x∈scope.names,x.2=cU->scope.names.lookup x.1=O cU)(h:C A first s (λx aD=>C A (gr x) aD (λit aQ=>C A n_ aQ (λjP dg=>
 C A (newFunctionEnv scope J.globals cl [] J.qual ai ax (O J)) dg (λcenv fB=>
  CC (A.mark ai) (oT e 0 it jP {cenv with scope:=js scope J}) fB (λr Y=>match r with|bX _=>∃m,Y.heap.Ns cenv.locals m/\∀h',gx cenv.locals Y.heap h'->Q jP {Y with heap:=h'} |j3 _=>False)))))):
 C A (Ej e scope J pos n_ ab first ai) s Q:=by
 delta Ej
 show o_.symm▸jy.symm▸C.bind (h.mono λx aD U=>C.bind (C.standAt (C.bind (C.eq (hs x) (C.bind (C.holding (C.mono U λit aQ ko=>?_)))))));show C.bind (C.mono ko λjP dg uk=>C.bind (C.pure (C.bind (C.mono uk λcenv fB Gv=>?_))));dsimp only;have hv:∀x∈(scope.names.filter λx=>(x.2==cU ||x.2==dy) && x.1 != (".0" :aV)).reverse,x.2=cU->
  j7 {cenv with scope:=js scope J} x.1=O cU:=λx E hl=>xA (afI x (gu.mp (EN.mp E)).1 hl)
 show C.holding (C.bind (C.attempt (C.holding (C.run (CC.mono Gv λr Y hr=>?_)))));cases r with
 |ok f=>show bg hr λm hn hr=>(lH (cS (TP zq _ Y m hv hn λh' m' _ zO=>C.pure (hr h' zO))))
 |error _=>show hr.elim
theorem Qb{K:LN}{first:aI aa}{g:Eh}(c:ed L scope fs K)(jy:Kt e=g::gs)(hs:Fs g.iter J)(o_:rh scope J=pure cl)(h:C A first s (λx aD=>C A (gr x) aD (λit aQ=>∀aZ bj h3 tk,aQ.heap.objs.size<=aZ->aQ.heap.objs.size<=bj->(uh aQ.heap h3)->aQ.heap.get? aZ=ai->aQ.heap.get? bj=ai->aZ≠bj->
 h3.get? aZ=O (bp [] 0)->h3.Ns bj (λ_=>ai)->CC (A.mark ai) (oT e 0 it (R aZ) (jr scope cl bj J)) {aQ with heap:=h3,toks:=tk} (λr Y=>match r with|bX _=>∃m,Y.heap.Ns bj m/\∀h',gx bj Y.heap h'->Q (R aZ) {Y with heap:=h'} |j3 _=>False)))):
 C A (Ej e scope J pos (newList []) ab first ai) s Q:=by
 show acS jy hs o_ c.kind c.names<|h.mono λx aD U=>C.mono U λit aQ ko=>cS<|ij<|cS (An c.cell (by intro y hy;show kI hy) (λh3 sh wI=>?_) c.kind);generalize η:aQ.heap.push {cls:=ao "list",dict:=ai,data:=bQ ([]:List aa).toArray}=H2 at sh wI ⊢;have hC:H2.objs.size=aQ.heap.objs.size+1:=by rw[<-η,dE]
 generalize H2.objs.size=bj at sh wI hC ⊢;have Og:aQ.heap.objs.size≠bj:=by rw[hC];show fE (iX _)
 have aex:∀b:Nat,aQ.heap.objs.size<=b->aQ.heap.get? b=ai:=λb hb'=>by
  cases q:aQ.heap.get? b with
  |none=>rfl
  |some o=>show absurd (cj q) (j0.mpr hb')
 have hK:=aex bj (hC▸lP _);show ko aQ.heap.objs.size bj h3 _ (ey _) (hC▸lP _) (λb o e=>wI.extBut b o (λq=>by have e:=hK▸q▸e;ext) (by show η▸?_;show a0 _ (a0 _ e))) (aex _ (ey _)) hK Og
  (wI.extBut _ _ Og (by show η▸?_;show a0 _ (bJ _ Z))) sh
section
theorem Cd{it:ae}{x step:Int}(um:mi s.heap it x left step)(Ce:0<left)(hQ:∀h',mi h' it (x+step) (left - 1) step->gx it s.heap h'->Q (ag x s.toks) {s with heap:=h',toks:=s.toks+1}):
 aA (aE prog w) A (Mf (R it)) Q aX s:=by
 have hT:s.TypeIs (R it) "range_iterator" :=cn _ um Z;show ah (kS hT Fo
  (qh Fo hT Vs (Vr _) (AutoRange.range_iterator___next___range_iterator_1 it x left step (Int.not_le.mpr Ce)) ⟨um,?_⟩))
 show aB (hQ _ (gQ _ (gQ _ um Z) Z) ((j5 ..).trans (j5 ..)))
theorem C0{it:ae}{x step:Int}(hh:dh A)(um:mi s.heap it x left step)(Ce:left<=0)(hE:∀h' e,(uh s.heap h')->(∃o,h'.get? e=O o/\o.cls=ao "StopIteration")->aX (R e) {s with heap:=h'}):aA (aE prog w) A (Mf (R it)) Q aX s:=by
 have hT:s.TypeIs (R it) "range_iterator" :=cn _ um Z;show ah (kS hT Fo
  (jS Fo hT Vs ?_ (Vr _)))
 show(?_:aA _ _ (sQ (R it) 0>>=_) _ _ s);show ah<|f9 um Z (x:=dD x) Z<|ah<|f9 um Z (x:=dD left) Z<|ah<|f9 um Z (x:=dD step) Z<|(?_:aA _ _ (if left<=0 then _ else _) _ _ s);show(if_pos Ce).symm▸ah (mU ?_);show ah<|ah<|ah (ij ?_ (by size_fits));show ah<|fM (a:=ax) (by first|rfl|(rfl))<|ij ?_ (by size_fits);show ah (Kc ?_);first|rw[hh]|rw[hh]
 show Kk<|hE _ _ (λb o e=>a0 _ (a0 _ e)) (cn _ (bJ _ Z) Z)
variable{F:zy}{aN:xU}{gn:xQ}
theorem lD.nextOf(x:lD A a g aS fp wr n₀ F j s)(bK:A.depth<mT)(hj:j<n₀)(DH:a≠aS)(Od:a∉wr)(Oe:cH≠aS)(Of:cH∉wr)(hF:F.DF)(hQ:∀v Y,F j v s Y->lD A a g aS fp wr n₀ F (j+1) Y->Tg g (aS::wr) s Y->(∀b o,s.heap.get? b=O o->∃o',Y.heap.get? b=O o')->Q v Y):C A (Mf (R a)) s Q:=
 C.bind (x.spc bK hj DH Od Oe Of hF λv Y a b c d=>C.pure (hQ v Y a b c d))
end
def aie(z TI TO i1:ae)(X:List ae):Prop:=
 TI≠z/\
 TO≠z/\
 i1≠z/\
 TI≠TO/\
 TI≠i1/\
 TO≠i1/\
 z∉X/\
 TI∉X/\
 TO∉X/\
 i1∉X
section
variable{F:zy}
def C1(A:b9)(s:af)(a:ae)(g:Nat)(aS:ae)(fp:List ae)(wr:List ae)(n₀:Nat)(F:zy)(j:Nat)(z:ae)(TI:ae)(TO:ae)(i1:ae)(x:Int)(left:Int)(u0:aa)(u1:aa)(P:Nat->aa->Prop)(Q:Option aa->af->Prop):Prop:=∀(bK:A.depth<mT) (aZ:aie z TI TO i1 (a::aS::fp)) (DH:a≠aS) (Od:a∉wr) (xe:cH∈fp) (Oe:cH≠aS) (Of:cH∉wr) (hwf:∀b∈wr,b∈fp) (hF:F.DF) (hP:∀i v s Y,F i v s Y->P i v) (hz:mX s.heap z TI TO ax) (Xp:jX s.heap TI (R i1) (R a)) (hTO:jX s.heap TO u0 u1) (h1:mi s.heap i1 x left 1) (Ce:0<left) (hg:lD A.in1 a g aS fp wr n₀ F j s) (hj:j<n₀) (hQ:∀v Y (T:ae) tk,P j v->mX Y.heap z TI TO (dD T)->jX Y.heap TI (R i1) (R a)->jX Y.heap TO (ag x tk) v->mi Y.heap i1 (x+1) (left - 1) 1->jX Y.heap T (ag x tk) v->s.heap.get? T=ai->
 lD A.in1 a g aS fp wr n₀ F (j+1) Y->Tg g (z::TO::i1::aS::wr) s Y->Q (O (R T)) Y),C A (gY (R z)) s Q
def HQ(c:((((b9×af)×ae)×(Nat×ae))×((((List ae)×(List ae))×Nat)×(zy×Nat)))×((((ae×ae)×ae)×(ae×Int))×(((Int×aa)×aa)×((Nat->aa->Prop)×(Option aa->af->Prop))))):Prop:=C1 c.1.1.1.1.1 c.1.1.1.1.2 c.1.1.1.2 c.1.1.2.1 c.1.1.2.2 c.1.2.1.1.1 c.1.2.1.1.2 c.1.2.1.2 c.1.2.2.1 c.1.2.2.2 c.2.1.1.1.1 c.2.1.1.1.2 c.2.1.1.2 c.2.1.2.1 c.2.1.2.2 c.2.2.1.1.1 c.2.2.1.1.2 c.2.2.1.2 c.2.2.2.1 c.2.2.2.2
def eJ:=Iz HQ inferInstance
def p_:=eJ.1.1.1.1.1
def pL:=eJ.1.1.1.1.2
def Sa:=eJ.1.1.1.2
def Nv:=eJ.1.1.2.1
def HR:=eJ.1.1.2.2
def Nw:=eJ.1.2.1.1.1
def FQ:=eJ.1.2.1.1.2
def JG:=eJ.1.2.1.2
def q_:=eJ.1.2.2.1
def r_:=eJ.1.2.2.2
def qd:=eJ.2.1.1.1.1
def vT:=eJ.2.1.1.1.2
def lW:=eJ.2.1.1.2
def FT:=eJ.2.1.2.1
def Nx:=eJ.2.1.2.2
def Y9:=eJ.2.2.1.1.1
def acT:=eJ.2.2.1.1.2
def Xx:=eJ.2.2.1.2
theorem s_:C1 p_ pL Sa Nv HR Nw FQ JG q_ r_ qd vT lW FT Nx Y9 acT Xx eJ.2.2.2.1 eJ.2.2.2.2:=λbK aZ DH Od xe Oe Of hwf hF hP hz Xp hTO h1 Ce hg hj hQ=>by
 have hT:pL.TypeIs (R qd) "zip" :=cn _ hz Z;have cw:∀b∈HR::FQ,b∈Sa::HR::Nw:=λb D=>by
  rcases bq.mp D with e|e
  .ext
  .simp [hwf b e]
 show C.bind (C.attempt (vR hT FA (oj hT FA VG (VD _) Z ?_)));change C _ (sQ (R qd) 2>>=_) _ _;show lB<|f9 hz Z (x:=c9 ab) Z<|lB<|f9 hz Z (x:=R vT) Z<|lB<|jD Xp Z<|C.bind<|C.bind<|cS<|f9 hz Z (x:=ax) Z<|C.pure<|C.bind<|C.rule<|lB<|f9 hz Z (x:=R lW) Z<|lB (Ap hz bu λU HS HT=>?_);replace HS:mX U qd vT lW JS:=HS;show C.bind<|C.bind<|C.bind<|C.onRaise<|lB<|Cd (HT.extBut _ _ aZ.2.2.1 h1) Ce λko aif xd=>C.pure<|have t_:=xd.extBut _ _ aZ.2.2.2.2.2.1 (HT.extBut _ _ aZ.2.1 hTO);lB<|jD t_ Z<|lB (Tx t_ λuk Sb HU=>?_);replace Sb:jX uk lW (ag Nx pL.toks) Xx:=Sb;show lB<|uY<|C.pure<|C.bind (C.bind (C.onRaise ?_));have k3:∀b o,b∉[qd,lW,FT]->pL.heap.get? b=O o->uk.get? b=O o:=λb o D e=>by simp only[bq,mZ,or_false,not_or]at D;show HU.extBut _ _ D.2.1 (xd.extBut _ _ D.2.2 (HT.extBut _ _ D.1 e))
 have g3:lD p_.in1 Sa Nv HR Nw FQ JG q_ r_ {pL with heap:=uk,toks:=pL.toks+1}:=hg.frame xe λb D o e=>k3 b o (λq=>by
  revert D;apply Dh q<;>intro D
  .show aZ.2.2.2.2.2.2.1 D
  .show aZ.2.2.2.2.2.2.2.2.1 D
  .show aZ.2.2.2.2.2.2.2.2.2 D) e
 show C.bind<|g3.nextOf bK hj DH Od Oe Of hF λv s4 hv hg4 m4 akF=>C.pure<|have u_:=m4.keep _ _ (λq=>aZ.2.2.2.2.2.2.2.2.1 (cw _ q)) Sb;lB<|jD u_ Z<|lB (Tx u_ λzS HV Qc=>?_);replace HV:jX zS lW (ag Nx pL.toks) v:=HV;show lB<|uY<|C.pure<|C.pure<|lB<|jD HV Z<|lB<|wpAny_newTuple<|have v_:=Qc.extBut _ _ aZ.2.1.symm (m4.keep _ _ (λq=>aZ.2.2.2.2.2.2.1 (cw _ q)) (HU.extBut _ _ aZ.2.1.symm (xd.extBut _ _ aZ.2.2.1.symm HS)));have aey:=Qc.extBut _ _ aZ.2.2.2.2.2.1.symm (m4.keep _ _ (λq=>aZ.2.2.2.2.2.2.2.2.2 (cw _ q)) (HU.extBut _ _ aZ.2.2.2.2.2.1.symm aif));have aih:=cj v_;C.bind<|have aii:mX (zS.push {cls:=ao "tuple",data:=bQ #[ag Nx pL.toks,v]}) qd vT lW JS:=a0 _ v_;lB (Ap aii bu λacR w_ aez=>?_);replace w_:mX acR qd vT lW (dD zS.objs.size):=w_;show cS (Ap w_ (EY [c9 ab,R vT,R lW].length) λacU x_ aeA=>?_);replace x_:mX acU qd vT lW (dD zS.objs.size):=x_;have up:∀c o,c≠qd->zS.get? c=O o->acU.get? c=O o:=λc o c1 e=>aeA.extBut _ _ c1 (aez.extBut _ _ c1 (a0 _ e));have k48:∀b o,b∉[qd,lW]->s4.heap.get? b=O o->acU.get? b=O o:=λb o D e=>by simp only[bq,mZ,or_false,not_or]at D;show up _ _ D.1 (Qc.extBut _ _ D.2 e)
 have hTn:pL.heap.get? zS.objs.size=ai:=by
  cases q:pL.heap.get? zS.objs.size with
  |none=>rfl
  |some o=>
   have qI:∀y,zS.get? y≠ai->zS.objs.size≠y:=λy hy e=>hy (by show e▸?_;show bD _);have q3:=k3 _ _ (λhm=>by
    simp only[bq,mZ,or_false]at hm;rcases hm with e|e|e
    .show qI qd (by rw[v_];decide) e
    .show qI lW (by rw[HV];simp) e
    .show qI FT (by rw[aey];decide) e) q
   show dG (akF _ _ q3) λo' q4=>?_;have:=cj q4;rw[<-Qc.1]at this;show absurd this (gy _)
 show C.pure<|cn (R zS.objs.size) Z<|C.pure<|have m3:Tg Nv (qd::lW::FT::HR::FQ) pL {pL with heap:=uk,toks:=pL.toks+1}:=Tg.heap λb o D e=>k3 b o (λq=>D (by apply Dh q<;>ext)) e;have m48:Tg Nv [qd,lW] s4 {s4 with heap:=acU,toks:=s4.toks}:=Tg.heap k48;hQ v _ zS.objs.size pL.toks (hP _ _ _ _ hv) x_ (up _ _ aZ.1 (Qc.extBut _ _ aZ.2.2.2.1 (m4.keep _ _ (λq=>aZ.2.2.2.2.2.2.2.1 (cw _ q)) (HU.extBut _ _ aZ.2.2.2.1 (xd.extBut _ _ aZ.2.2.2.2.1 (HT.extBut _ _ aZ.1 Xp)))))) (up _ _ aZ.2.1 HV) (up _ _ aZ.2.2.1 aey) (aeA.extBut _ _ (oR aih) (aez.extBut _ _ (oR aih) (bJ _ Z))) hTn (hg4.frame xe λb D o e=>k48 b o (λq=>?_) e) ((m3.trans m4 λd hd=>ak (bU _ (bU _ (bU _ hd)))).trans m48 λd hd=>ak ?_)
 .revert D;apply r8 q<;>intro D
  .show aZ.2.2.2.2.2.2.1 D
  .show aZ.2.2.2.2.2.2.2.2.1 D
 .apply r8 hd<;>ext
theorem Qd{F:zy}{z:ae}{x:Int}{u0:aa}{u1:aa}{P:Nat->aa->Prop}{Q:Option aa->af->Prop}:C1 A s a g aS fp wr n₀ F j z TI TO i1 x left u0 u1 P Q:=hen (P:=HQ) s_ (((((A,s),a),(g,aS)),(((fp,wr),n₀),(F,j))),((((z,TI),TO),(i1,x)),(((left,u0),u1),(P,Q))))
end
noncomputable abbrev y_(h:aO)(x n c:Int):aO:=h.push {cls:=ao "range_iterator",dict:=ai,data:=bH #[dD x,dD n,dD c],slots:=#[]}
abbrev acV(h:aO)(a:ae)(x n c:Int):aO:=(y_ h x n c).push {cls:=ao "tuple",data:=bQ #[R h.objs.size,R a]}
abbrev acW(h:aO)(a:ae)(x n c:Int):aO:=(acV h a x n c).push {cls:=ao "tuple",data:=bQ #[ax,ax]}
abbrev acX(h:aO)(a:ae)(x n c:Int):aO:=(acW h a x n c).push {cls:=ao "zip",data:=bH #[ax,c9 ab,c9 ab,R (y_ h x n c).objs.size,R (acV h a x n c).objs.size]}
theorem Sd(rr a:ae)(g:Nat)(x y c:Int)(t u v:ba)(hs:vg x y c=N):
 rl (Builtin.«zip.__new__» ⟨[ao "zip",R rr,R a],[]⟩) (λ_ aN s=>qi s.heap rr x y c t u v/\s.heap.IsGen a g/\
  aN (bX (cG (R (acW s.heap a x (lQ x y c) c).objs.size))) {s with heap:=acX s.heap a x (lQ x y c) c}):=
 rQ λprog w A aN s h=>by obtain⟨hp,gg,d,tk,os⟩:=s;obtain⟨hr,hg,h⟩:=h;have vQ:=sub_zip;have hR:qi (VT ⟨hp,gg,d,tk,os⟩) rr x y c t u v:=hr;have hG:Heap.IsGen (VT ⟨y_ hp x (lQ x y c) c,gg,d,tk,os⟩) a g:=fc hg λo nm qn ho r=>Bl o nm qn (a0 _ ho) r;wp_walk using Ao hR hs,Ee hG;show⟨_,rfl,h⟩
theorem Za{t v:ba}(hr:qi s.heap rr 0 n 1 t u v)(hg:s.heap.IsGen a g)(hn:n<=1000)(h:∀h',mX h' (s.heap.objs.size+3) (s.heap.objs.size+1) (s.heap.objs.size+2) ax->jX h' (s.heap.objs.size+1) (R s.heap.objs.size) (R a)->
 jX h' (s.heap.objs.size+2) ax ax->mi h' s.heap.objs.size 0 n 1->h'.objs.size=s.heap.objs.size+4->
 (∀c o,s.heap.get? c=O o->h'.get? c=O o)->Q (R (s.heap.objs.size+3)) {s with heap:=h'}):
 aA (aE prog w) A (call (ao "zip") [R rr,R a]) Q aX s:=by
 show Ki F.called_zip (rfl) (F.typeCall_zip_2 _ _) (F.newCall_zip_2 _ _) (λobj=>PySem.F.args_object_init_3 obj _ _) PySem.F.entry_zip_new
  (Sd rr a g 0 n 1 t u v (uZ fH (kbt_pos 62) fH au)) (gT hr hg ?_)
 have WG:lQ 0 (n:Int) 1=(n:Int):=by rw[uV];split<;>lia
 show WG.symm▸?_;have z1:(y_ s.heap 0 n 1).objs.size=s.heap.objs.size+1:=dE ..;have z2:(acV s.heap a 0 n 1).objs.size=s.heap.objs.size+2:=by rw[dE,z1]
 have z3:(acW s.heap a 0 n 1).objs.size=s.heap.objs.size+3:=by rw[dE,z2]
 have g4:(acX s.heap a 0 n 1).get? (acW s.heap a 0 n 1).objs.size=O _:=bJ _ Z;have g3:(acX s.heap a 0 n 1).get? (acV s.heap a 0 n 1).objs.size=O _:=a0 _ (bJ _ Z);have g2:(acX s.heap a 0 n 1).get? (y_ s.heap 0 n 1).objs.size=O _:=a0 _ (a0 _ (bJ _ Z));rw[z1,z2,z3]at g4;rw[z2]at g3;rw[z1]at g2;rw[z3];show⟨(cn _ g4 Z),h _ g4 g2 g3 (a0 _ (a0 _ (a0 _ (bJ _ Z)))) (by rw[dE,z3]) λc o x=>a0 _ (a0 _ (a0 _ (a0 _ x)))⟩
def C2(A:b9)(aX:aa->af->Prop)(s:af)(z:ae)(TI:ae)(TO:ae)(i1:ae)(a:ae)(x:Int)(left:Int)(Q:Option aa->af->Prop):Prop:=∀(hh:dh A) (hi:i1≠z) (hz:mX s.heap z TI TO ax) (Xp:jX s.heap TI (R i1) (R a)) (h1:mi s.heap i1 x left 1) (Ce:left<=0) (hQ:∀h',(∀c o,c≠z->s.heap.get? c=O o->h'.get? c=O o)->Q ai {s with heap:=h'}),aA (aE prog w) A (gY (R z)) Q aX s
def HW(c:(((b9×(aa->af->Prop))×af)×((ae×ae)×ae))×(((ae×ae)×Int)×(Int×(Option aa->af->Prop)))):Prop:=C2 c.1.1.1.1 c.1.1.1.2 c.1.1.2 c.1.2.1.1 c.1.2.1.2 c.1.2.2 c.2.1.1.1 c.2.1.1.2 c.2.1.2 c.2.2.1 c.2.2.2
def jm:=Iz HW inferInstance
def z_:=jm.1.1.2
def Ny:=jm.1.2.1.1
def Nz:=jm.1.2.1.2
def NA:=jm.1.2.2
def acY:=jm.2.1.1.1
def HX:=jm.2.1.2
theorem A_:C2 jm.1.1.1.1 jm.1.1.1.2 z_ Ny Nz NA acY jm.2.1.1.2 HX jm.2.2.1 jm.2.2.2:=λhh hi hz Xp h1 Ce hQ=>by
 have hT:z_.TypeIs (R Ny) "zip" :=cn _ hz Z;show ah (sI (kS hT FA
  (jS FA hT VG ?_ (VD _))))
 show(?_:aA _ _ (sQ (R Ny) 2>>=_) _ _ _);show ah<|f9 hz Z (x:=c9 ab) Z<|ah<|f9 hz Z (x:=R Nz) Z<|ah<|jD Xp Z<|ah<|ah<|f9 hz Z (x:=ax) Z<|aB<|ah<|mU<|ah<|f9 hz Z (x:=R NA) Z<|ah (Ap hz bu λU HS HT=>?_);replace HS:mX U Ny Nz NA JS:=HS;show ah<|ah<|ah<|Kd<|ah<|C0 hh (HT.extBut _ _ hi h1) Ce λko e xd he=>bg he λoe hoe hce=>have aeB:=xd _ _ HS;Ap aeB bu λuk _ HU=>ah<|mS (T:= "StopIteration") (b:=N) (cn oe (HU.extBut _ _ (λHX=>by subst HX;rw[aeB]at hoe;obtain rfl:=aW hoe;simp at hce) hoe) hce) J9<|aB (hQ _ λc o c1 HX=>HU.extBut _ _ c1 (xd _ _ (HT.extBut _ _ c1 HX)))
theorem acZ{z:ae}{x:Int}{Q:Option aa->af->Prop}:C2 A aX s z TI TO i1 a x left Q:=hen (P:=HW) A_ ((((A,aX),s),((z,TI),TO)),(((i1,a),x),(left,Q)))
noncomputable def lu(ws:Nat->Nat)(i:Nat):List Int:=(aJ i).map λj=>aj (ws j)
theorem Cf(ws:Nat->Nat)(i:Nat):lu ws (i+1)=lu ws i++[aj (ws i)]:=by
 delta lu
 rw[sX,jY];rfl
section
variable{F:zy}{ws:Nat->Nat}
inductive afJ(A:b9)(a:ae)(g:Nat)(aS:ae)(fp wr:List ae)(n₀:Nat)(F:zy)(ws:Nat->Nat)(z TI TO i1 bj aZ:ae)(s:af)(k:Nat)(Y:af):Prop
 |mk (i:Nat) (m':aV->Option aa) (ys:List aa) (n:Nat) (u0 u1:aa) (e:k=n₀+1 - i) (hi:i<=n₀) (hz:mX Y.heap z TI TO ax) (ti:jX Y.heap TI (R i1) (R a)) (to:jX Y.heap TO u0 u1) (r:mi Y.heap i1 (i:Int) ((n₀:Int) - i) 1)
  (g1:lD A.in1 a g aS fp wr n₀ F i Y) (nn:Y.heap.Ns bj m') (d:Y.heap.get? aZ=O (bp ys n)) (ia:fm ys (lu ws i)) (t:Tg g (z::TO::i1::bj::aZ::aS::wr) s Y)
theorem aeC{x b c e f g:ae}{l:List ae}{P:Prop}(h:x∉a::b::c::d::e::f::g::l)(k:x≠a->x≠b->x≠c->x≠d->x≠e->x≠f->x≠g->x∉l->P):P:=
 have h1:=Mw h;have h2:=Mw h1;have h3:=Mw h2;have h4:=Mw h3;have h5:=Mw h4;have h6:=Mw h5
 k (vw h) (vw h1) (vw h2) (vw h3) (vw h4) (vw h5) (vw h6) (Mw h6)
theorem aij{x b c e f:ae}{l:List ae}{P:Prop}(h:x∉a::b::c::d::e::f::l)(k:x≠a->x≠b->x≠c->x≠d->x≠e->x≠f->x∉l->P):P:=
 aeC (hb (yj x).symm h) λ_=>k
theorem Qe{x b c:ae}{l:List ae}(h1:x≠a)(h2:x≠b)(h3:x≠c)(h:x∉l):x∉a::b::c::l:=hb h1 (hb h2 (hb h3 h))
theorem Se{z bj aZ:ae}{pk pw pw2:cB}(hh:dh A)(bK:A.depth<mT)(iN:aie z TI TO i1 (a::aS::fp))(DH:a≠aS)(Od:a∉wr)(xe:cH∈fp)(Oe:cH≠aS)(Of:cH∉wr)(hwf:∀b∈wr,b∈fp)(hF:F.DF)(hP:∀i v s Y,F i v s Y->∃tk,v=ag (aj (ws i)) tk)(hn:n₀<=1000)(hK:bj∉z::TI::TO::i1::aZ::a::aS::fp)(hD:aZ∉z::TI::TO::i1::a::aS::fp)(afK:cenv.locals=bj)(zq:cenv.scope.kind=dZ)(akG:cenv.kindOf (NM 92)=O cU)(hk7:cenv.kindOf (NM 7)=O cU)(hz:mX s.heap z TI TO ax)(Xp:jX s.heap TI (R i1) (R a))(hTO:∃u0 u1,jX s.heap TO u0 u1)(h1:mi s.heap i1 0 n₀ 1)(hg:lD A.in1 a g aS fp wr n₀ F 0 s)(wG:s.heap.Ns bj m0)(ow:s.heap.get? aZ=O (bp [] 0))(hR:∀Y ys n m',Tg g (z::TO::i1::bj::aZ::aS::wr) s Y->Y.heap.get? aZ=O (bp ys n)->fm ys (lu ws n₀)->Y.heap.Ns bj m'->(∀b∈aS::fp,∃o,Y.heap.get? b=O o)->aN (bX cL) Y):
 CC A (hx (cE (aq (NM 7) pw) [⟨fO [aq (NM 92) pk,aq (NM 7) pw2] 0 pt,iter,[],0⟩] scope pos) 0 (R z) (R aZ) cenv) s aN:=by
 subst afK;show aeC hK λK1 K2 K3 K4 K5 K6 K7 K8=>aij hD λD1 D2 D3 D4 D6 D7 D8=>ua Z Z (afJ A a g aS fp wr n₀ F ws z TI TO i1 cenv.locals aZ s) ?_ (n₀+1) (jd hTO λu0 u1 e=>⟨0,m0,[],0,u0,u1,rfl,fk _,hz,Xp,e,h1,hg,wG,ow,qA,.refl _ _ _⟩);rintro k Y Kp P1 P2 P3 P4 Kh H0 H1 H2 H3 _ H4 ⟨i,m',ys,n,u0,u1,dX,hi,z1,ti1,to1,r1,g1,ns1,d1,ia,t1⟩;by_cases jx:i<n₀
 .show Qd (P:=λi v=>∃tk,v=ag (aj (ws i)) tk) bK iN DH Od xe Oe Of hwf hF hP z1 ti1 to1 r1 au g1 jx λv s1 T tk hv hz2 akH akI hr2 hT2 hTn g2 t2=>?_;obtain⟨tw,rfl⟩:=hv;have akJ:∀b o,Y.heap.get? b=O o->b≠T:=λb o e q=>by have e:=hTn▸q▸e;ext
  show H1 _ _<|cS<|wpAny_letOwnedTupleGo_zip hz2 λh3 hz3 B_=>have hT3:Heap.IsTuple h3 T #[ag (i:Int) tk,ag (aj (ws i)) tw]:=⟨_,B_.extBut _ _ (eQ (akJ z _ z1)) hT2,rfl,0,rfl⟩;cS<|wK (s:={s1 with heap:=h3}) hh hT3 λh4 k4=>Stores.local (aS:=cenv.locals) Z zq [92,7] [(i:Int),aj (ws i)] {s1 with heap:=h4} m' _ _ Z aL (λy hy=>?_) (((ns1.at' λo e=>t2.keep _ o (Qe K1 K3 K4 (hb K7 (λq=>K8 (hwf _ q)))) e).at' λo e=>B_.extBut _ o K1 e).at' λo e=>k4 _ o e) λs5 m5 sb5 o5 dr5 gn5 ns5 hm5 _=>?_
  .apply r8 hy
   .show akG
   .show hk7
  show H2 _<|uM<|H3 _<|dG (hm5 1 7 (aj (ws i)) Z Z) λt7 e7=>(cS (rg (xw zq hk7 ns5 e7 ?_) (wA 7)));have k15:∀b o,b∉[z,cenv.locals]->s1.heap.get? b=O o->s5.heap.get? b=O o:=λb o D e=>Di D λh1 h2=>sb5.extBut _ _ h2 (k4 _ _ (B_.extBut _ _ h1 e));have hly:ys.length=i:=by have:=ia.length;simpa[lu] using this
  show H4 _ _<|cS (Am (items:=ys.toArray) ⟨n,(k15 aZ _ (Mv D1 (eQ K5)) (t2.keep _ _ (Qe D1 D3 D4 (hb D7 (λq=>D8 (hwf _ q)))) d1))⟩ (λh8 Q9 v7=>?_) (by have:fg=16777216:=jU;simp;lia));show dG Q9 λn8 e8=>?_;have k18:∀b o,b∉[z,cenv.locals,aZ]->s1.heap.get? b=O o->h8.get? b=O o:=λb o D e=>FZ D λh1 h2 h3=>v7.extBut _ _ h3 (k15 _ _ (Mv h1 h2) e);have t5:Tg g [z,cenv.locals,aZ] s1 {s5 with heap:=h8}:=⟨k18,o5,dr5,by rw[show({s5 with heap:=h8}:af).gens=s1.gens from gn5];show .refl _ _⟩;have YR:∀b,b∈TI::TO::i1::a::aS::fp->b∉[z,cenv.locals,aZ]:=λb D q=>Dh (P:=λb=>b∈TI::TO::i1::a::aS::fp->False) q (Qe (eQ iN.1) (eQ iN.2.1) (eQ iN.2.2.1) iN.2.2.2.2.2.2.1) (Qe K2 K3 K4 (hb K6 (hb K7 K8))) (Qe D2 D3 D4 (hb D6 (hb D7 D8))) D;show Kh (n₀+1 - (i+1)) _ (dX▸rz (kX jx) (iX i)) ⟨i+1,m5,ys++[ag (aj (ws i)) t7],n8,ag (i:Int) tk,ag (aj (ws i)) tw,rfl,jx,(v7.extBut _ _ (eQ D1) (sb5.extBut _ _ (eQ K1) (k4 _ _ hz3))),k18 _ _ (YR _ bz) akH,k18 _ _ (YR _ bz) akI,?_,?_,ns5.at' λo e=>v7.extBut _ o K5 e,?_,?_,?_⟩
  .have e2:(n₀:Int) - ((i+1:Nat):Int)=(n₀:Int) - i - 1:=by lia
   rw[e2,(by lia:((i+1:Nat):Int)=(i:Int)+1)];show k18 _ _ (YR _ bz) hr2
  .have gl:lD A.in1 a g aS fp wr n₀ F (i+1) {s5 with heap:=h8}:=g2.later xe (λb D o e=>k18 b o (YR b (by simp only[bq]at D ⊢;show aw (aw (aw D)))) e) λgs e=>(show({s5 with heap:=h8}:af).gens=s1.gens from gn5).symm▸e;show gl
  .rw [e8];simp[bp]
  .rw [Cf];show ia.append (yz _ _ qA)
  .show (t1.trans t2 λd hd=>ak ?_).trans t5 λd hd=>ak ?_
   .simp only[bq]at hd ⊢;rcases hd with q|q|q|q|q<;>ext
   .simp only[bq,mZ,or_false]at hd ⊢;rcases hd with q|q|q<;>ext
 .have:i=n₀:=by lia
  cases this
  show cS<|acZ hh iN.2.2.1 z1 ti1 r1 au λh' hk=>H0 _ (hR _ ys n m' (t1.trans (Tg.heap (X:=[z]) (tk:=Y.toks) λb o D e=>hk b o (vw D) e) λd hd=>?_) (hk _ _ D1 d1) ia (ns1.at' λo e=>hk _ o K1 e) λb D=>dG (g1.there b D) λo e=>⟨o,hk _ _ (λq=>iN.2.2.2.2.2.2.1 (bW _ (q▸D))) e⟩);apply jQ hd;show ak bz
end
section
variable{Q:cb->af->Prop}
theorem Sh{a:Nat}{np3:cB}(B:cx U mg mb)(I:dQ mg mb)(hz:Gi L "zip")(hr:Gi L "range")(he:V H U A L J G e (aT n) ab)(dH:cI e=ab)(E:ck G x=O (k,aH (R a)))(r:ER H U L J s.heap G)(hg:∀Y,dA H s Y->Y.heap.IsGen a g)(hn:n<=1000):
 T A (a7 (bx (aq (aC "zip") np) [bx (aq (aC "range") np2) [e] [] ZZ,aq (NM x) np3] [] pos) J) s (λv aD=>∃z TI TO i1,v=R z/\dA H s aD/\(∀y∈[z,TI,TO,i1],s.heap.get? y=ai)/\
  TI≠z/\TO≠z/\i1≠z/\TI≠TO/\TI≠i1/\TO≠i1/\mX aD.heap z TI TO ax/\jX aD.heap TI (R i1) (R a)/\jX aD.heap TO ax ax/\mi aD.heap i1 0 n 1):=by
 have hI:=I ("zip",ao "zip") aL;show mf<|(eG B r hz hI.1 hI.2 (rfl)).Dm<|A1 (Fe (mD ("range") ("range") B I aL hr (rfl) (fL.cons he fL.nil dH) (by simp[dW,dH]) r λvs aD F e1 V1=>?_) Z) Z (rfl);apply nO V1;show λt=>sJ<|have e2:dA H s {aD with heap:=aD.heap.push {cls:=ao "range",data:=bH #[ag 0 aD.toks,ag (aj n) t,ag 1 (aD.toks+1)]},toks:=aD.toks+1+1}:=e1.trans ⟨.push _ _,rfl,rfl,rfl⟩;Fe (T.Dm (ui (r.ext e2.ext) E) ?_) Z;show Ff (Za (bJ _ Z) (hg _ e2) hn λh' z1 ti to r1 sz k=>?_);have nQ:∀m:Nat,s.heap.get? ((aD.heap.push {cls:=ao "range",data:=bH #[ag 0 aD.toks,ag (aj n) t,ag 1 (aD.toks+1)]}).objs.size+m)=ai:=λm=>e2.ext.new (by
  cases q:(aD.heap.push {cls:=ao "range",data:=bH #[ag 0 aD.toks,ag (aj n) t,ag 1 (aD.toks+1)]}).get? ((aD.heap.push {cls:=ao "range",data:=bH #[ag 0 aD.toks,ag (aj n) t,ag 1 (aD.toks+1)]}).objs.size+m) with
  |none=>rfl
  |some o=>show absurd (cj q) (j0.mpr (iW _ _)))
 show⟨_,_,_,_,rfl,e2.trans ⟨.of_keep k,rfl,rfl,rfl⟩,λy hy=>?_,λq=>absurd (yi q) (uf Z),λq=>absurd (yi q) (uf Z),λq=>absurd (yi (m:=0) q) (uf Z),λq=>absurd (yi q) (uf Z),λq=>absurd (yi (k:=0) q) (uf Z),λq=>absurd (yi (k:=0) q) (uf Z),z1,ti,to,r1⟩;apply tK hy
 .show nQ 3
 .show nQ 1
 .show nQ 2
 .show nQ 0
end
theorem PL.erE(p:PL H U L J aK bo bw G S br Gs s):ER [] s.heap L J s.heap G:=
 have e:=p.er
 ⟨.refl _,e.kind,e.gl,e.Wm,e.glob,e.bi,e.loc,e.has⟩
theorem C_{a:Nat}{cl b:ae}{oa oC oI R6:bE}{gs:eT}{pw pk pw2 np3 aik:cB}(hh:dh A)(bK:A.depth<900)(B:cx U mg mb)(I:dQ mg mb)(hT:gq U)(p:PL H U L J aK bo bw G S br Gs s)(hG:lV G)(hc:ed L scope [] [92,7])(hz:Gi L "zip")(hr:Gi L "range")(he:V [] s.heap A L J G e (aT n) ab)(dH:cI e=ab)(E:ck G x=O (k,aH (R a)))(hn:n<=1000)(Wt:ϻ U ns b dx d a g aS Ia cl n oa oC oI R6 gs)(hL:∀y∈[(a,oa),(aS,oC),(Ia,oI),(cl,R6)],y∈br)(hS:∀y∈jf b dx d ns,y∈S)(hGs:(g,gs)∈Gs)(DH:a≠aS)(haI:a≠Ia)(hmC:kh oC=N)(hmI:kh oI=N)(hL':∀y∈L',y∈br/\y.1≠aS/\y.1≠Ia)(hq:∀Y aZ ys m,fm ys (lu (λi=>wordAt ns (8 * i)) n)->PL H U L J aK bo bw G S ((aZ,bp ys m)::L') [] Y->Q (R aZ) Y):
 C A (a7 (cE (aq (NM 7) pw) [⟨fO [aq (NM 92) pk,aq (NM 7) pw2] 0 pt,bx (aq (aC "zip") np) [bx (aq (aC "range") np2) [e] [] ZZ,aq (NM x) np3] [] aik,[],0⟩] scope pos) J) s Q:=by
 have r0:=p.erE;show bg (hc.OA r0 Z) λXq jy _=>?_;have D_:∀s2:af,(uh s.heap s2.heap)->s2.gens=s.gens->∀A':b9,dh A'->lD A' a g aS (PX U++[b,dx,d,cl,Ia]) [Ia] n (xl ns) 0 s2:=λs2 k2 g2 A' RQ=>
  Wt s2 (λy o ht e=>k2 _ _ (p.ps.ext.keep y o ht e)) (λy hy=>k2 _ _ (p.getL (hL y hy))) (λy hy=>k2 _ _ (p.sg y (hS y hy)).1) (by show g2.symm▸?_;show(p.gk _ hGs).1) A' RQ
 show Qb (gs:=[]) hc Z (λ_=>rfl) jy<|Lake.T.wo (Sh (a:=a) (g:=g) (p.ps.base B) I hz hr he dH E r0 (λY e'=>(D_ Y (e'.keeps.elim λh' q=>q.elim λtk q=>q.1▸q.2) e'.gens A hh).gen) hn) λv s1 ou=>gv ou λz TI TO i1 hv e1 nQ i=>dU i λd1 d2 d3 d4 d5 d6 z1 i=>ie i λti1 to1 r1=>hv▸have ke:∀b o,s.heap.get? b=O o->s1.heap.get? b=O o:=e1.keeps.elim λh' q=>q.elim λtk q=>q.1▸q.2;cS (J6 z1 ?_);intro aZ bj h3 tk _ _ old hD1 hK1 θ ow sh;have neD:∀b o,s1.heap.get? b=O o->aZ≠b:=λb o e q=>by have e:=hD1▸q.symm▸e;ext
 have neK:∀b o,s1.heap.get? b=O o->bj≠b:=λb o e q=>by have e:=hK1▸q.symm▸e;ext
 have exs:∀y∈a::aS::(PX U++[b,dx,d,cl,Ia]),∃o,s.heap.get? y=O o:=λy hy=>by have hw:=D_ s (λ_ _ e=>e) Z A hh;show bc (bq.mp hy) (λq=>fc hw.gen λo _ _ e _=>⟨o,by rw[q];show e⟩) λq=>hw.there y q
 have apart:∀y∈[z,TI,TO,i1],y∉a::aS::(PX U++[b,dx,d,cl,Ia]):=λy hy q=>by show dG (exs y q) λo e=>?_;have e:=(nQ y hy)▸e;ext
 have hcL:∀y∈[aS,Ia],cH≠y:=λy hy q=>by
  show og λgG kG=>bg B.lim λmc i1 _=>fc i1 λo _ _ e _=>kG ?_;clear kG gG;have:U.get? y=ai:=by
   apply r8 hy
   .show (p.lg _ (hL (aS,oC) bz)).2.2.2.1
   .show (p.lg _ (hL (Ia,oI) bz)).2.2.2.1
  have this:=e▸q.symm▸this;ext
 have ex1:∀y∈z::TI::TO::i1::a::aS::(PX U++[b,dx,d,cl,Ia]),∃o,s1.heap.get? y=O o:=λy hy=>by
  rcases bq.mp hy with q|hy
  .show ⟨_,q▸z1⟩
  rcases bq.mp hy with q|hy
  .show ⟨_,q▸ti1⟩
  rcases bq.mp hy with q|hy
  .show ⟨_,q▸to1⟩
  show bc (bq.mp hy) (λq=>⟨_,q▸r1⟩) λhy=>dG (exs y hy) λo e=>⟨o,ke y o e⟩
 have hDn:aZ∉z::TI::TO::i1::a::aS::(PX U++[b,dx,d,cl,Ia]):=λq=>dG (ex1 aZ q) λo e=>(neD _ _ e Z);have hKn:bj∉z::TI::TO::i1::aZ::a::aS::(PX U++[b,dx,d,cl,Ia]):=λq=>by
  have q2:bj=aZ\/bj∈z::TI::TO::i1::a::aS::(PX U++[b,dx,d,cl,Ia]):=by
   simp only[bq]at q ⊢;rcases q with q|q|q|q|q|q|q|q
   .show aw (ak q)
   .show aw (aw (ak q))
   .show aw (aw (aw (ak q)))
   .show aw (aw (aw (aw (ak q))))
   .show ak q
   .show aw (aw (aw (aw (aw (ak q)))))
   .show aw (aw (aw (aw (aw (aw (ak q))))))
   .show aw (aw (aw (aw (aw (aw (aw q))))))
  show bc q2 (λq2=>θ q2.symm) λq2=>dG (ex1 bj q2) λo e=>(neK _ _ e Z)
 have kl:∀y∈([92,7]:LN),(js scope J).names.lookup (NM y)=O cU:=λy hy=>by
  rcases pj (vn:=J) (hc.locs y hy) with e|⟨e,_⟩
  .show e
  .ext
 have loop:=Se (A:=A) (s:={s1 with heap:=h3,toks:=tk}) (a:=a) (g:=g) (aS:=aS) (fp:=PX U++[b,dx,d,cl,Ia]) (wr:=[Ia]) (n₀:=n) (F:=xl ns) (ws:=λi=>wordAt ns (8 * i)) (z:=z) (TI:=TI) (TO:=TO) (i1:=i1) (bj:=bj) (aZ:=aZ) (pk:=pk) (pw:=pw) (pw2:=pw2) (pt:=pt) (pos:=pos)
  (iter:=bx (aq (aC "zip") np) [bx (aq (aC "range") np2) [e] [] ZZ,aq (NM x) np3] [] aik) (scope:=scope) (cenv:=jr scope Xq bj J)
  (aN:=λr Y=>match r with|bX _=>∃m,Y.heap.Ns bj m/\∀h',gx bj Y.heap h'->Q (R aZ) {Y with heap:=h'} |j3 _=>False) (m0:=λ_=>ai)
  hh au (⟨d1,d2,d3,d4,d5,d6,apart z bz,apart TI bz,apart TO bz,apart i1 bz⟩) DH (λq=>haI (by simpa using q)) (dc _ (B9.mpr ⟨bg B.lim λmc i _=>fc i λo _ _ e _=>⟨o,e⟩,DQ Z⟩)) (hcL aS bz) (λq=>hcL Ia bz (by simpa using q)) (λy hy=>by have hy:=bq.mp hy;lia) (Nq ns) (λ_ _ _ _ h=>h) hn hKn hDn Z hc.kind (kl 92 bz) (kl 7 bz)
  (old _ _ z1) (old _ _ ti1) (qE _ _ (old _ _ to1)) (old _ _ r1) (D_ {s1 with heap:=h3,toks:=tk} (λb o e=>old b o (ke b o e)) e1.gens A.in1 hh) sh ow λY ys m m' t hd ia akK hth=>?_
 .show pK Z loop (cS (J6 (old _ _ z1) loop))
 .show cn m' akK (λh'' OC=>?_);have keep:∀y o,y∉[aS,Ia]->s.heap.get? y=O o->h''.get? y=O o:=λy o hy e=>by
   have Q5:=ke y o e;have hK:y≠bj:=λq=>neK _ _ Q5 q.symm;show OC.extBut _ _ hK (t.keep _ _ (λhm=>?_) (old _ _ Q5));simp only[bq,or_false]at hm hy;have nz:∀u∈[z,TI,TO,i1],y≠u:=λu hu q=>by have e:=(nQ u hu)▸q▸e;ext
   rcases hm with q|q|q|q|q|q
   .show nz z bz q
   .show nz TO bz q
   .show nz i1 bz q
   .show hK q
   .show neD _ _ Q5 q.symm
   .show hy q
  show hq _ aZ ys m ia (p.move hG hT (X:=[aS,Ia]) keep (t.os.trans e1.os) (t.drawn.trans e1.drawn) ?_ (λy hy=>?_) (λy hy=>?_) (zk))
  .show l8.new (b:=s.gens) p.mod.gens ?_ (p.gk _ hGs).2;have:=t.gens;rw[show({s1 with heap:=h3,toks:=tk}:af).gens=s.gens from e1.gens]at this;show this
  .have hKC:∀u∈aS::(PX U++[b,dx,d,cl,Ia]),u≠bj:=λu hu q=>hKn (by show q▸?_;simp only[bq]at hu ⊢;show aw (aw (aw (aw (aw (aw hu))))));apply r8 hy
   .show cn oC (hL _ bz) hmC
   .show cn oI (hL _ bz) hmI
  .rcases bq.mp hy with q|q
   .show q▸⟨aw ?_,OC.extBut _ _ θ hd⟩;cases q2:s.heap.get? aZ with|none=>rfl|some o=>show absurd Z (neD _ _ (ke _ _ q2))
   .show ie (hL' y q) λq1 q2 q3=>⟨ak (bG.mpr (cn y q1 Z)),keep _ _ (by simp[q2,q3]) (p.getL q1)⟩
def wordsOf(ns:LN)(n:Nat):LN:=(aJ n).map λi=>wordAt ns (8 * i)
theorem NC(ns:LN)(n:Nat):lu (λi=>wordAt ns (8 * i)) n=(wordsOf ns n).map λx=>aj x:=by
 delta lu wordsOf
 rw[qm];rfl
section
variable{Q:cb->af->Prop}
theorem PL.ac0(p:PL H U L J aK bo bw G S br Gs s)(h:∀y∈L',y∈br):PL H U L J aK bo bw G S L' Gs s:=
 ⟨lZ p.fr λW r a b c=>(wy W r a b (λy hy=>c y (h y hy))),p.sg,λy hy=>p.lg y (h y hy),p.mod,p.lC,p.gk⟩
theorem E_{a bt:Nat}{cl b:ae}{oa oC oI R6:bE}{gs:eT}(hh:dh A)(bK:A.depth<900)(B:cx U mg mb)(I:dQ mg mb)(I2:t9 mg mb)(dB:DZ U P t fd)(hT:gq U)(p:PL H U (bf jk) J aK bo bw G S br Gs s)(hG:lV G)(dH:bS G 93=N)(E:ck G 71=O (k,aH (R a)))(hec:ck G 98=O (k2,aH (R i)))(hE:Cb U i [1,bt,n])(hn:n<=100)(hw:lY (wordsOf ns n))(Wt:ϻ U ns b dx d a g aS Ia cl n oa oC oI R6 gs)(hL:∀y∈[(a,oa),(aS,oC),(Ia,oI),(cl,R6)],y∈br)(hS:∀y∈jf b dx d ns,y∈S)(hGs:(g,gs)∈Gs)(DH:a≠aS)(haI:a≠Ia)(hmC:kh oC=N)(hmI:kh oI=N)(hL':∀y∈L',y∈br/\y.1≠aS/\y.1≠Ia)(kk:∀Y bl,(∀y∈S,y.1≠bl)->(∀y∈L',y.1≠bl)->PL H U (bf jk) J aK bo bw (jh G 93 0 (aH (R bl))) ((bl,kz (wordsOf ns n))::S) L' [] Y->C A (aU rest J) Y Q):
 C A (aU (a9 R9 0::rest) J) s Q:=by
 have hI:=I ("bytearray",ao "bytearray") aL;show il<|Af (x:=93) Z<|fY<|T.wR (eG (p.ps.base B) p.erE Z hI.1 hI.2 (rfl))<|de (rfl) (eu (cu (C_ (L':=L') (n:=n) (x:=71) hh bK B I hT p hG (ed.of (rfl)) Z Z (JF (x:=98) bK (p.ps.base B) I I2 (dB.ext p.ps.ext) (hE.ext p.ps.ext) hec) Z E au Wt hL hS hGs DH haI hmC hmI hL' λs2 aZ ys m ia p2=>c8 (iE ⟨rfl,?_⟩))));rw[NC]at ia;show uH ("list") m (p2.getL (cR ..)) (ak Z) ia hw.1 hw.2<|bg p2.open λW2 ps2 F_=>have p3:=F_ _ _ _ _ (ps2.sk (o:=kz (wordsOf ns n)) (tk:=s2.toks) B Z Z);have p3:PL H U (bf jk) J aK bo bw G ((s2.heap.objs.size,kz (wordsOf ns n))::S) L' [] {s2 with heap:=s2.heap.push (kz (wordsOf ns n)),toks:=s2.toks}:=p3.ac0 λy hy=>bW _ hy;T.wo (p3.store (ak Z) dH (.ip _)) λ_ s4 p4=>kk s4 _ (λy hy q=>?_) (λy hy q=>?_) p4
 .have:=cj (p2.sg y hy).1;rw[q]at this;show gy _ this
 .have:=cj (p2.getL (bU _ hy));rw[q]at this;show gy _ this
end
section
variable{Q:cb->af->Prop}
theorem HY(ho:U.get? a=O (kz ns))(ht:a∉bV)(hB:lY ns)(he:V H U A L J G e (aH (R a)) ab)(hh:V H U A L J G lo (aT k) ab)(hk:k<=ns.length):
 ϳ H U A L J G (dk e (ml (O lo) eV eV p) pos) (ns.drop k):=λs r=>by
 show rL<|(he r).Z9 λaD e1=>Ep<|(hh (r.ext e1.ext)).Cz λt dg e2=>aB<|aB<|have X':=e1.trans e2;ϴ (vq _ t) Mg X' ((r.base.trans X'.ext).keep a _ ht ho) hB ?_ Z;rw[VZ];simp only[UT,TY,clipAt_nat,hZ,AU hk];rw[JD,KI fH]
theorem G_{cp:cB}(p:PS H U L J aK bo bw G S s)(B:cx U mg mb)(I:dQ mg mb)(kM:Gi L "bytearray")(hy:ck G y=O (k,aH (R a)))(ha:(a,kz ns)∈S)(hn:lY ns)(dH:bS G x=N)(E:Hx L x)(hs:fD (bx (aq (aC "bytearray") np) [aq (NM y) p1] [] cp) (O (aq (NM x) q)) pos.line J=pure ab)(kk:∀Y b,(∀z∈S,z.1≠b)->PS H U L J aK bo bw (jh G x 0 (aH (R b))) ((b,kz ns)::S) Y->C A (aU rest J) Y Q):
 C A (aU (eF [aq (NM x) q] (bx (aq (aC "bytearray") np) [aq (NM y) p1] [] cp) pos::rest) J) s Q:=by
 have hI:=I ("bytearray",ao "bytearray") aL;show yQ (τ':=H) (U:=U) (aK:=aK) (bo:=bo) (bw:=bw) dH E hs<|fY<|T.wR (eG (p.base B) p.er kM hI.1 hI.2 (rfl))<|de (rfl) (eu (cu (Lake.T.wR (ui p.er hy) (c8 (iE ⟨rfl,?_⟩)))));show Θ (b:=wh ns) (p.get ha) (by rw[hZ];show hn.2) ((DS _ (aH (R s.heap.objs.size)) [] (p.sk (o:=kz ns) (tk:=s.toks) B Z Z) (.ip _) Z (λY p'=>kk Y _ (λz hz e=>?_) p')));have:=cj (p.sg z hz).1;rw[e]at this;show gy _ this
end
def gR(m1 m2 l1 l2 gp rr bl:ae)(ne:Nat):iz:=[(101,0,aH (R rr)),(100,0,aH (R gp)),(99,0,aT ne),(97,0,aH (R 1890)),(96,0,aH (R 1888)),(95,0,aH (R m2)),(94,0,aH (R m1)),(93,0,aH (R bl)),(86,0,aH (R l2)),(85,0,aH (R l1))]
section
variable{Q:cb->af->Prop}
theorem PL.less(p:PL H U L J aK bo bw G S br Gs s)(g:km G' G):PL H U L J aK bo bw G' S br Gs s:=
 ⟨bg p.fr λW r a=>(cn W (r.less g) a),p.sg,p.lg,p.mod,p.lC,p.gk⟩
theorem PL.inter(p:PL H U L J aK bo bw G S br Gs s)(hk:L.kind=dZ):iG J=ab:=by delta iG;show p.scope.symm▸hk.symm▸?_;rfl
theorem PL.ail(p:PL H U L J aK bo bw G S br Gs s)(h:∀y∈S',y∈S):PL H U L J aK bo bw G S' br Gs s:=
 ⟨lZ p.fr λW r a b c=>(wy W r a (λy hy=>b y (h y hy)) c),λy hy=>p.sg y (h y hy),λy hy=>iZ (p.lg y hy) λa b c d e=>(Yc a b c d (λq=>e (bg (bG.mp q) λz hz q2=>bG.mpr ⟨z,h z hz,q2⟩))),p.mod,λy hy=>p.lC y (h y hy),p.gk⟩
theorem ac1{lg:LN}{Lx:Sg}{m1 m2 l1 l2 gp rr bl n1 n2:Nat}{tr ur vr:ba}(hh:dh A)(B:cx U mg mb)(I:dQ mg mb)(hT:gq U)(T1:k_ U lg ex gen gp)(p:PL H U (bf jk) J aK bo bw G ((bl,kz ws)::S) br [] s)(hG:km (gR m1 m2 l1 l2 gp rr bl gen.length) G)(hL:∀y∈[(l1,bp [] n1),(l2,bp [] n2),(m1,nW "list.append" (R l1)),(m2,nW "list.append" (R l2))],y∈br)(h12:l2≠l1)(hm2:m2≠l1)(hw:lY ws)(dM:ws.length<=100)(hr:(rr,mL gen.length tr ur vr)∈S)(hLx:∀y∈Lx,y∈br/\y.1≠l1/\y.1≠l2)(kk:∀Y Oh k1 k2,(∀y∈S,y.1≠Oh)->bl≠Oh->PL H U (bf jk) J aK bo bw [(86,0,aH (R l2)),(85,0,aH (R l1))] ((Oh,kz ((gV lg ex gen (ws++bZ gen.length 0) ws.length).drop ws.length))::(bl,kz ws)::S) ((l1,bp [R bl] k1)::(l2,bp [R Oh] k2)::Lx) [] Y->C A (aU rest J) Y Q):
 C A (aU (a9 R9 1::a9 R9 2::a9 R9 3::a9 R9 4::a9 R9 5::a9 R9 6::rest) J) s Q:=by
 have hg1:=T1.2.2.2.2.2.2.2.2;have wq:=p.inter Z;show Xr (x:=94) (k:=0) (m:=m1) (l:=l1) (n:=n1) (vs:=[]) hT (p.less hG) (lV.of bF) Z (hL (m1,nW "list.append" (R l1)) bz) (hL (l1,bp [] n1) bz) (fk _) Z wq Z λW ps=>Lake.T.wR (ui ps.er (x:=93) Z)<|cn _ ps (λs2 n1' p2=>?_);have p2:=p2.ac0 (L':=(l1,bp [R bl] n1')::(l2,bp [] n2)::(m2,nW "list.append" (R l2))::Lx) λy hy=>zK hy (ew _ (by show bI.mpr Z)) λhy=>zK hy (dc _ (gu.mpr ⟨hL (l2,bp [] n2) bz,by simpa using h12⟩)) λhy=>zK hy (dc _ (gu.mpr ⟨hL (m2,nW "list.append" (R l2)) bz,by simpa using hm2⟩)) λhy=>ie (hLx y hy) λq1 q2 q3=>(dc _ (gu.mpr ⟨q1,by simpa using q2⟩));show bg p2.open λW2 q2 F_=>PS.asg (x:=102) (av:=aT ws.length) q2 (uI (a:=bl) (q2.base B) I Z (q2.get (cR ..)) (q2.sg _ (cR ..)).2.1 hw (ar 93 Z) Z) Z Z (ak Z) Z λs3 q3=>G_ (x:=103) (y:=93) (k:=0) (a:=bl) q3 B I Z Z (cR ..) hw Z (ak Z) Z λs4 eb heb q4=>have aim:lY (ws++bZ gen.length 0):=hw.app fH jM;ϫ (d:=eb) (ns:=ws) (ms:=bZ gen.length 0) (S':=(eb,kz (ws++bZ gen.length 0))::(bl,kz ws)::S) hh q4 (ar 103 Z) (PJ (n:=0) (k:=gen.length) (q4.base B).top (pC (n:=0) (q4.base B).top (aR 0) Z) (ar 99 Z) au)
  (cR ..) fH jM Z Z Z wq (λy hy=>?_) λs5 q5=>?_
 .rcases bq.mp hy with e|e
  .left;rw[e];show⟨rfl,rfl⟩
  .show aw ⟨heb y e,bW _ e⟩
 show afH (m1:=m1) (m2:=m2) (l1:=l1) (l2:=l2) (nd:=ws.length) (S:=(bl,kz ws)::S) hh B I T1 q5 (km.rf bF bF) aim fH (bW _ hr) heb λs6 q6=>Xr (x:=95) (k:=0) (m:=m2) (l:=l2) (n:=n2) (vs:=[]) hT (F_ _ _ _ _ q6) (lV.of bF) Z bz bz (fk _) Z wq Z λW7 ps7=>Lake.T.wo (HY (a:=eb) (k:=ws.length) (ps7.get (cR ..)) (ps7.sg _ (cR ..)).2.1 (Xw (lg:=lg) (gen:=gen) T1.2.2.2.2.2.2.1 aim ws.length) (ar 103 Z) (ar 102 Z) (by rw[(xn (lg:=lg) (ex:=ex) (gen:=gen) (eb:=ws++bZ gen.length 0) ws.length)];simp) ps7.er) λv s8 π=>oY π λe8 b2 hv hb2 akL=>hv▸?_;have p8:=ps7.grown hT e8.pe (br:=[(b2,kz ((gV lg ex gen (ws++bZ gen.length 0) ws.length).drop ws.length))]) λy hy=>by apply jQ hy;show gT hb2 akL Z
 have nb2:∀y∈(eb,kz (gV lg ex gen (ws++bZ gen.length 0) ws.length))::(bl,kz ws)::S,y.1≠b2:=λy hy q=>by have:=(ps7.sg y hy).1;have this:=hb2▸q▸this;ext
 show cn _ p8<|λs9 n2' p9=>kk s9 b2 n1' n2' (λy hy=>nb2 y (bW _ (bW _ hy))) (nb2 _ (bW _ (cR ..))) (((p9.ail λy hy=>?_).ac0 λy hy=>zK hy (dc _ (gu.mpr ⟨by ext,by simpa using eQ h12⟩)) λhy=>zK hy (ew _ (bI.mpr Z)) λhy=>ie (hLx y hy) λq1 q2 q3=>(dc _ (gu.mpr ⟨by ext,by simpa using q3⟩))).less (km.rf bF bF));rcases bq.mp hy with e|e
 .rw [e];lia
 .show ew _ (bW _ e)
end
section
variable{Q:cb->af->Prop}
inductive aeD(U:aO)(L:du)(J:cJ)(aK:af)(bo bw:List ae)(A:b9)(rest:List cg)(Q:cb->af->Prop)(I:ae)(o1:bE)(s2:af):Prop
 |mk (τ':List ae) (G2:iz) (S2 L2:Sg) (Gs2:List (Nat×eT)) (p:PL τ' U L J aK bo bw G2 S2 L2 Gs2 s2) (hG:lV G2) (hI:(I,o1)∈L2)
  (k:∀s3,PL τ' U L J aK bo bw G2 S2 (L2.filter λy=>y.1 != I) Gs2 s3->C A (aU rest J) s3 Q)
def H_(H:List ae)(U:aO)(L:du)(J:cJ)(aK:af)(bo bw:List ae)(A:b9)(G:iz)(S br:Sg)(Gs:List (Nat×eT))(x:Nat)(av:AV)(o1:bE)(body rest:List cg)(Q:cb->af->Prop):Prop:=
 ∀s1 I,(∀z∈br,z.1≠I)->(∀z∈S,z.1≠I)->PL H U L J aK bo bw (jh G x 0 av) S ((I,o1)::br) Gs s1->C A (aU body J) s1 (λf s2=>f=cL/\aeD U L J aK bo bw A rest Q I o1 s2)
theorem PL.Xy{o0 o1:bE}(hT:gq U)(p:PL H U L J aK bo bw G S br Gs s)(hG:lV G)(hm0:kh o0=N)(hm1:kh o1=N)(dH:bS G x=N)(E:Hx L x)(hs:Fs iter J)(mk:∀P:aa->af->Prop,(∀I s2,dA [] s s2->s.heap.get? I=ai->s2.heap.get? I=O o0->P (R I) s2)->T A (a7 iter J) s (λxv s1=>T A (gr xv) s1 P))(nx:∀(Y:af) I (P:Option aa->af->Prop),Y.heap.get? I=O o0->hJ H U Y.heap->(∀v h' tk,bM h' av v []->h'.get? I=O o1->(∀b o,b≠I->Y.heap.get? b=O o->h'.get? b=O o)->P (O v) {Y with heap:=h',toks:=tk})->T A (gY (R I)) Y P)(en:∀(Y:af) I τ' (P:Option aa->af->Prop),Y.heap.get? I=O o1->hJ τ' U Y.heap->(∀h' tk,(∀b o,b≠I->Y.heap.get? b=O o->h'.get? b=O o)->P ai {Y with heap:=h',toks:=tk})->T A (gY (R I)) Y P)(D:H_ H U L J aK bo bw A G S br Gs x av o1 body rest Q):
 C A (aU (j4 (aq (NM x) px) iter body [] pos::rest) J) s Q:=by
 show il (RF hs ((mk _ λI s2 e2 hIn hI=>?_).wo λxv s1 q=>T.wc q));have ke:∀b o,s.heap.get? b=O o->s2.heap.get? b=O o:=e2.keeps.elim λh' q=>q.elim λtk q=>q.1▸q.2;have p2:PL H U L J aK bo bw G S ((I,o0)::br) Gs s2:=p.move hG hT (X:=[]) (λb o _ e=>ke b o e) e2.os e2.drawn (e2.gens▸p.mod.gens) (zk) (λy hy=>by
  rcases bq.mp hy with q|q
  .show q▸⟨aw hIn,hI⟩
  .show ⟨ak (bG.mpr (cn y q Z)),ke _ _ (p.getL q)⟩) (λy hy=>by show e2.gens.symm▸?_;show p.gk y hy)
 have ϱ:∀z∈br,z.1≠I:=λz hz q=>by have:=p.getL hz;have this:=hIn▸q▸this;ext
 have hSI:∀z∈S,z.1≠I:=λz hz q=>by have:=(p.sg z hz).1;have this:=hIn▸q▸this;ext
 show Χ (λk Y=>(k=2/\Y=s2)\/(k=1/\aeD U L J aK bo bw A rest Q I o1 Y)) ?_ 2 (ak ⟨rfl,rfl⟩) (λ_=>rfl);rintro k Y P1 P2 P3 q0 q1 q2 q3 (⟨rfl,rfl⟩|⟨rfl,τ3,G2,S2,L2,Gs2,p3,hG2,hI2,hk⟩)
 .show T.wc (nx Y I P1 hI p2.ps.ext λv h' tk hv hI3 hk3=>?_);have p3:PL H U L J aK bo bw G S ((I,o1)::br) Gs {Y with heap:=h',toks:=tk}:=p2.move hG hT (X:=[I]) (λb o D e=>hk3 b o (by simpa using D) e) Z Z p2.mod.gens (λb D=>by show(bI.mp D)▸?_;show cn o0 au hm0) (λy hy=>by
   rcases bq.mp hy with q|q
   .show q▸⟨ak (AG Z),hI3⟩
   .show ⟨ak (bG.mpr (cn y (bW _ q) Z)),hk3 _ _ (ϱ y q) (p2.getL (bU _ q))⟩) p2.gk
  show q1 _ _<|T.wo (jB (p3.store E dH hv)) λ_ s4 p4=>q2 _<|(D s4 I ϱ hSI p4).mono λf s5 π=>eZ π λhf q=>hf▸q3 1 _ bu (aw ⟨rfl,q⟩)
 .show T.wc<|en Y I τ3 P1 (p3.getL hI2) p3.ps.ext λh' tk hk3=>q0 _ (ff (hk _ (p3.move hG2 hT (X:=[I]) (λb o D e=>hk3 b o (by simpa using D) e) Z Z p3.mod.gens (λb D=>by show(bI.mp D)▸?_;show cn o1 hI2 hm1) (λy hy=>?_) p3.gk)));show eZ (gu.mp hy) λq1 q2=>⟨ak (bG.mpr (cn y q1 Z)),hk3 _ _ (by simpa using q2) (p3.getL q1)⟩
end
noncomputable def Xz(a n:Int):bE:={cls:=ao "range_iterator",dict:=ai,data:=bH #[dD a,dD n,dD 1],slots:=#[]}
section
variable{Q:cb->af->Prop}
theorem Zb{m:Nat}(hh:dh A)(hT:gq U)(p:PL H U L J aK bo bw G S br Gs s)(hG:lV G)(hy:ck G y=O (k,aH (R ta)))(ht:U.get? ta=O (cV [v] m))(htT:ta∉bV)(dH:bS G x=N)(E:Hx L x)(hs:∀x,Ec (aq (NM y) py) J x=pure x)(D:H_ H U L J aK bo bw A G S br Gs x (aH v) (sq ta 1) body rest Q):
 C A (aU (j4 (aq (NM x) px) (aq (NM y) py) body [] pos::rest) J) s Q:=by
 show p.Xy (o0:=sq ta 0) hT hG Z Z dH E hs (λP hP=>T.Dm (ui p.er hy) ?_) (λY I P hI x' hP=>Hs (x:=v) hI (nV (x'.keep _ _ htT ht)) Z λh' h1 h2=>hP _ _ _ (.ip _) h1 λb o D e=>h2.extBut b o D e) (λY I τ' P hI x' hP=>JW hh (kF _ hI Z Z) (nV (x'.keep _ _ htT ht)) Z λh' he=>hP _ _ λb o D e=>he b o D e) D;show J2 (nV (p.ps.ext.keep _ _ htT ht)) (hP _ _ ⟨.push _ _,rfl,rfl,rfl⟩ (bD _) (bJ _ Z))
theorem ND{cp:cB}(hh:dh A)(B:cx U mg mb)(I0:dQ mg mb)(hT:gq U)(p:PL H U L J aK bo bw G S br Gs s)(hG:lV G)(kM:Gi L "range")(he:V [] s.heap A L J G e (aT 1) ab)(hse:cI e=ab)(dH:bS G x=N)(E:Hx L x)(hs:∀x,Ec (bx (aq (aC "range") np) [e] [] cp) J x=pure x)(D:H_ H U L J aK bo bw A G S br Gs x (aT 0) (Xz 1 0) body rest Q):
 C A (aU (j4 (aq (NM x) px) (bx (aq (aC "range") np) [e] [] cp) body [] pos::rest) J) s Q:=by
 show p.Xy (o0:=Xz 0 1) hT hG Z Z dH E hs (λP hP=>?_) (λY I P hI x' hP=>Th hI aL λh' h1 h2=>hP _ _ _ (.ofInt 0 _) h1 λb o D e=>h2.extBut b o D e) (λY I τ' P hI x' hP=>Tj hh hI aL λh' he=>hP _ _ λb o D e=>he b o D e) D;show mD ("range") ("range") (p.ps.base B) I0 aL kM (rfl) (fL.cons he fL.nil hse) (by simp[dW,hse]) p.erE λvs aD F e1 V1=>?_;apply nO V1;show λt=>sJ (Ao (a:=0) (b:=1) (c:=1) (t:=aD.toks) (u:=t) (v:=aD.toks+1) (bJ _ Z) (rfl) (hP _ _ (e1.trans ⟨(hJ.push _ _).trans (.push _ _),rfl,rfl,rfl⟩) ?_ (bJ _ Z)));show e1.ext.new ((show hJ [] aD.heap _ from .push _ _).new (bD _))
end
section
variable{Q:cb->af->Prop}
theorem ac2{i:aG}{f:Int->Option aa}{k:Int}(hm:U.IntMap d f)(hd:d∉bV)(hv:f k=O v)(he:V H U A L J G e (aH (R d)) ab)(hi:V H U A L J G i (a6 k) ab)(sf:j8 i=ab):
 V H U A L J G (dk e i pos) (aH v) fr:=λs r=>by
 show rL<|(he r).Z9 λaD e1=>(hi (r.ext e1.ext)).Cz λt aQ e2=>have hm2:aQ.heap.IntMap d f:=fc hm λo es ep h1 h2=>Bl o es ep ((r.base.trans (e1.trans e2).ext).keep d o hd h1) h2;vh hm2.typeIs slot_dict_getitem.lookup ?_ (uB sf _ _);show wpAny_getItem_intMap hm2 hv (o6 [] ((e1.trans e2).trans (.toks _ _)) (.ip _) d9)
end
section
variable{Q:cb->af->Prop}{b:ae}
theorem ac3{lg:LN}{f5:Int->Option aa}{bt m:Nat}(hh:dh A)(bK:A.depth<800)(B:cx U mg mb)(I:dQ mg mb)(I2:t9 mg mb)(X:(iC P t f).In U)(dB:acH U f)(Ng:DZ U P2 t2 fd)(hT:gq U)(T1:k_ U lg ex gen gp)(pv:1979∉H)(kr:1979∈τ')(nS:∀b∈H,b∈τ')(hg1:mg (aC "GALIOS_LOG")=O (R 1888))(hg2:mg (aC "GALIOS_EXP")=O (R 1890))(hg3:mg (aC "GEN_POLY")=O (R 1868))(hm5:U.IntMap 1868 f5)(hf5:f5 (aj gen.length)=O (R gp))(ht:U.get? ta=O (cV [R ei] m))(htT:ta∉bV)(hE:Cb U ei [1,bt,n+1])(hbt:bt=n+1+gen.length)(hn:lY ns)(dM:ns.length=8 * (n+1))(Ae:∀x∈ns,x<2)(hw:lY (wordsOf ns (n+1)))(HZ:n+1<=100)(p:PS H U (bf jk) J aK bo bw (qJ [84,82] [aH (R ta),aH (R b)]) S s)(yT:∀y∈jf b dx d ns,y∈S)(kk:∀Y v l1 l2 bl Oh k1 k2 rr o,PL τ' U (bf jk) J aK bo bw [(86,0,aH (R l2)),(85,0,aH (R l1))] ((Oh,kz ((gV lg ex gen (wordsOf ns (n+1)++bZ gen.length 0) (wordsOf ns (n+1)).length).drop (wordsOf ns (n+1)).length))::(bl,kz (wordsOf ns (n+1)))::(rr,o)::S) [(l1,bp [R bl] k1),(l2,bp [R Oh] k2)] [] Y->
 bM Y.heap (fI [aH (R l1),aH (R l2)]) v []->Q (cG v) Y):
 C A (aU (bh jk) J) s Q:=by
 change C _ (aU [a9 (bh jk) 0,a9 (bh jk) 1,a9 (bh jk) 2,a9 (bh jk) 3,a9 (bh jk) 4,a9 (bh jk) 5,a9 (bh jk) 6,a9 (bh jk) 7,a9 (bh jk) 8] J) s Q;show p.s1 (S1.m (z8 Z)) λs1 p1=>?_;show ahY (k1:=0) (n:=n) hh B I X dB hT au pv kr nS p1 Z Z yT hn dM Ae λs2 a g aS Ia cl oa oC oI R6 gs DH haI hmC hmI Wt p2=>?_;show ah0 hh hT p2 (lV.of bF) Z Z λs3 l1 l2 h12 ain p3=>?_;show PY (x:=94) (y:=85) (k:=0) (l:=l1) (vs:=[]) (n:=0) hT p3 (lV.of bF) Z (cR ..) Z (ak Z) Z λs4 m1 hm1 p4=>?_;show PY (x:=95) (y:=86) (k:=0) (l:=l2) (vs:=[]) (n:=0) hT p4 (lV.of bF) Z (bW _ (bW _ (cR ..))) Z (ak Z) Z λs5 m2 hm2 p5=>?_;show bg p5.open λW5 q5 aio=>?_;show PS.asg (x:=96) (av:=aH (R 1888)) q5 (B4 (q5.base B) Z hg1 (by decide+kernel)) Z Z (ak Z) Z λs6 q6=>?_;show PS.asg (x:=97) (av:=aH (R 1890)) q6 (B4 (q6.base B) Z hg2 (by decide+kernel)) Z Z (ak Z) Z λs7 q7=>?_;have p7:=aio _ _ _ _ q7;show Zb (x:=98) (y:=84) (k:=0) (v:=R ei) hh hT p7 (lV.of bF) Z ht htT Z (ak Z) (λ_=>rfl) λs8 I8 ϱ hSI p8=>?_;change C _ (aU [a9 mbF 0,a9 mbF 1,a9 mbF 2,a9 mbF 3] J) s8 _;show bg p8.open λW8 q8 I_=>?_;show PS.asg (x:=99) (av:=aT gen.length) q8 (V.to (lR (x:=bt) (y:=n+1) (R8 (x:=98) au (q8.base B) I I2 (Ng.ext q8.ext) (hE.ext q8.ext) Z) (JF (x:=98) au (q8.base B) I I2 (Ng.ext q8.ext) (hE.ext q8.ext) Z) au) (by rw[hbt,rx])) Z Z (ak Z) Z λs9 q9=>?_;have hm9:s9.heap.IntMap 1868 f5:=fc hm5 λo es ep h1 h2=>Bl o es ep (q9.ext.keep _ o aL h1) h2;show PS.asg (x:=100) (av:=aH (R gp)) q9 (ac2 hm9 aL hf5 (B4 (q9.base B) Z hg3 (by decide+kernel)) (ar 99 Z) Z) Z Z (ak Z) Z λs10 q10=>?_;show w9 101 gen.length q10 B I Z (ar 99 Z) Z Z (ak Z) Z λrr tr ur vr s11 q11=>?_;have p11:=I_ _ _ _ _ q11;show ND (x:=14) hh B I hT p11 (lV.of bF) Z (P0 (x:=98) au (p11.ps.base B) I I2 (Ng.ext p11.ps.ext) (hE.ext p11.ps.ext) Z) Z bF (ak Z) (λ_=>rfl) λs12 I12 Si alG p12=>?_;change C _ (aU (a9 R9 0::a9 R9 1::a9 R9 2::a9 R9 3::a9 R9 4::a9 R9 5::a9 R9 6::[]) J) s12 _;show E_ (L':=[(I12,Xz 1 0),(I8,sq ta 1),(m2,nW "list.append" (R l2)),(m1,nW "list.append" (R l1)),(l1,jl []),(l2,jl [])]) (k:=0) (k2:=0) (i:=ei) (bt:=bt) (n:=n+1) hh au B I I2 Ng hT p12 (lV.of bF) bF bF bF hE HZ hw Wt (λy hy=>?_) (λy hy=>bW _ (yT y hy)) bz DH haI hmC hmI (λy hy=>?_) λs13 bl alH alI p13=>?_
 .apply tK hy<;>ext
 .have hC8:=ain (aS,oC) bz;have hI8:=ain (Ia,oI) bz;apply agR hy
  .show ⟨by ext,λq=>Si (aS,oC) bz q.symm,λq=>Si (Ia,oI) bz q.symm⟩
  .show ⟨by ext,λq=>ϱ (aS,oC) bz q.symm,λq=>ϱ (Ia,oI) bz q.symm⟩
  .show ⟨by ext,λq=>hm2 (aS,oC) bz q.symm,λq=>hm2 (Ia,oI) bz q.symm⟩
  .show ⟨by ext,λq=>hm1 (aS,oC) bz q.symm,λq=>hm1 (Ia,oI) bz q.symm⟩
  .show ⟨by ext,λq=>hC8.1 q.symm,λq=>hI8.1 q.symm⟩
  .show ⟨by ext,λq=>hC8.2 q.symm,λq=>hI8.2 q.symm⟩
 have WI:(wordsOf ns (n+1)).length<=100:=by simp[wordsOf];lia
 show ac1 (m1:=m1) (m2:=m2) (l1:=l1) (l2:=l2) (gp:=gp) (rr:=rr) (n1:=0) (n2:=0) (Lx:=[(I12,Xz 1 0),(I8,sq ta 1)]) (tr:=tr) (ur:=ur) (vr:=vr) hh B I hT T1 p13 (km.rf bF bF) (λy hy=>?_) (eQ h12) (λq=>hm2 (l1,jl []) bz q.symm) hw WI (cR ..) (λy hy=>?_) λs14 Oh k1 k2 he1 he2 p14=>?_
 .apply tK hy
  .show bW _ (bW _ (bW _ (bW _ (cR ..))))
  .show bW _ (bW _ (bW _ (bW _ (bW _ (cR ..)))))
  .ext
  .ext
 .apply r8 hy
  .show ⟨by ext,λq=>Si (l1,jl []) bz q.symm,λq=>Si (l2,jl []) bz q.symm⟩
  .show ⟨by ext,λq=>ϱ (l1,jl []) bz q.symm,λq=>ϱ (l2,jl []) bz q.symm⟩
 have e1:l1≠I12:=λq=>Si (l1,jl []) bz q;have e2:l2≠I12:=λq=>Si (l2,jl []) bz q;have e3:l1≠I8:=λq=>ϱ (l1,jl []) bz q;have e4:l2≠I8:=λq=>ϱ (l2,jl []) bz q;have e5:I8≠I12:=λq=>Si (I8,sq ta 1) bz q;show ff ⟨rfl,_,_,_,_,_,p14,lV.of Z,by ext,λs15 p15=>ff ⟨rfl,_,_,_,_,_,p15,lV.of Z,by simp[e5],λs16 p16=>?_⟩⟩;have p17:=p16.ac0 (L':=[(l1,bp [R bl] k1),(l2,bp [R Oh] k2)]) λy hy=>by
  apply r8 hy
  .simp [e1,e3]
  .simp [e2,e4]
 show bg p17.open λW17 q17 afL=>?_;show q17.afw (uj (avs:=[aH (R l1),aH (R l2)]) (q17.base B).top (fL.cons (ar 85 Z) (fL.cons (ar 86 Z) fL.nil Z) Z) Z Z) Z λs18 v q18 hv=>kk s18 v l1 l2 bl Oh k1 k2 rr _ (afL _ _ _ _ q18) hv
end
namespace iN
theorem Sk(p:Nat)(h:p<256):IB p=(2 * p) ^^^ (285 * (p / 128)):=by
 delta IB
 split
 .rw [Nat.div_eq_of_lt (by assumption)];simp
 .rw [show p / 128=1 by lia]
theorem ac4{a b:Nat}(ha:a<256)(D:b<256):IB (a ^^^ b)=IB a ^^^ IB b:=by
 rw[Sk _ ha,Sk _ D,Sk _ (iP ha D)];have e1:2 * (a ^^^ b)=(2 * a) ^^^ (2 * b):=by have:=Nat.shiftLeft_xor_distrib (i:=1) (a:=a) (b:=b);simp only[Nat.shiftLeft_eq]at this;rw[vd 2,vd 2,vd 2];show this
 have e2:(a ^^^ b) / 128=(a / 128) ^^^ (b / 128):=by have:=Nat.shiftRight_xor_distrib (i:=7) (a:=a) (b:=b);simpa only[Nat.shiftRight_eq_div_pow] using this
 show e1.symm▸e2.symm▸?_;have q1:a / 128=0\/a / 128=1:=by lia
 have q2:b / 128=0\/b / 128=1:=by lia
 rcases q1 with q1|q1<;>rcases q2 with q2|q2<;>show q1.symm▸q2.symm▸?_
 .simp
 .rw [E6,gC,ix,E8,rJ]
 .rw [E6,gC,gC,E8];ac_rfl
 .have:∀x y:Nat,x ^^^ 285 * 1 ^^^ (y ^^^ 285 * 1)=(285 ^^^ 285) ^^^ (x ^^^ y):=λx y=>by rw[E8];ac_rfl
  rw[this,lO,lO,E6,ix,gC]
theorem JH:∀n,pw n≠0:=by
 intro xX;induction xX with
 |zero=>decide
 |succ n iH=>
  have:∀p,p<256->p≠0->IB p≠0:=by decide
  show this _ (OG n) (iH)
theorem afM:pw 255=1:=by rfl
theorem Sl:∀n,pw (n+255)=pw n:=by
 intro xX;induction xX with
 |zero=>show afM
 |succ n iH=>show(?_:IB (pw (n+255))=IB (pw n));show congrArg _ (iH)
theorem uv(n:Nat):pw (n % 255)=pw n:=by
 have:∀k r,pw (r+255 * k)=pw r:=by
  intro k;induction k with
  |zero=>intro r;rfl
  |succ k ih=>intro r;rw[show r+255 * (k+1)=r+255 * k+255 by show UG.mpr Z,Sl,ih]
 conv=>rhs;rw[<-Nat.mod_add_div n 255]
 show(this _ _).symm
theorem NF(n:Nat):FO (n % 255)=pw n:=by rw[GH (m9 _ bu),uv]
theorem yV:∀a,a<256->a≠0->pw (lg a)=a:=by decide+kernel
theorem Zc:∀k,k<255->lg (pw k)=k:=by decide+kernel
theorem DL(n:Nat):lg (pw n)=n % 255:=by rw[<-uv,Zc _ (m9 _ bu)]
theorem uw{a b:Nat}(ha:a≠0)(D:b≠0):tm a b=pw (lg a+lg b):=by
 delta tm
 rw[if_neg (not_or_intro ha D),NF]
theorem uN(a:Nat):tm a 0=0:=by simp[tm]
theorem jn(a:Nat):tm 0 a=0:=by rfl
theorem fQ(a b:Nat):tm a b=tm b a:=by
 delta tm
 rw[jF];simp only[Or.comm (a:=a=0)]
theorem H7{a b:Nat}(ha:a≠0)(D:b≠0):tm a b≠0:=by rw[uw ha D];show JH _
theorem Qf(a b:Nat):tm (pw a) (pw b)=pw (a+b):=by rw[uw (JH a) (JH b),DL,DL,<-uv,<-UL,uv]
theorem di(a b c:Nat):tm (tm a b) c=tm a (tm b c):=by
 by_cases ha:a=0
 .subst ha;rw[jn,jn,jn]
 by_cases D:b=0
 .subst D;rw[uN,jn,uN]
 by_cases hc:c=0
 .subst hc;rw[uN,uN,uN]
 rw[uw (H7 ha D) hc,uw ha (H7 D hc),uw ha D,uw D hc,DL,DL,<-uv,<-uv (lg a+_)];rw[Nat.mod_add_mod,Lr,lM]
theorem Qg{a:Nat}(h:a<256):tm 1 a=a:=by
 by_cases ha:a=0
 .subst ha;rfl
 .rw [uw (uf Z) ha,show lg 1=0 by rfl,qq,yV a h ha]
def H8:Nat->Nat->Nat
 | 0,b=>b
 |k+1,b=>IB (H8 k b)
theorem XC:∀k {b},b<256->H8 k b<256:=by
 intro xX;induction xX with
 |zero=>intro _ h;show h
 |succ k iH=>intro _ h;show Rk (iH h)
theorem J_:∀k {a b},a<256->b<256->H8 k (a ^^^ b)=H8 k a ^^^ H8 k b:=by
 intro xX;induction xX with
 |zero=>intro _ _ _ _;show rfl
 |succ k iH=>intro _ _ ha D;show(?_:IB (H8 k _)=IB _ ^^^ IB _);rw[iH ha D,ac4 (XC k ha) (XC k D)]
theorem ac5:∀k j,H8 k (pw j)=pw (k+j):=by
 intro xX;induction xX with
 |zero=>intro j;rw[qq];rfl
 |succ k iH=>intro j;change IB (H8 k _)=_;rw[iH j,Nat.succ_add];rfl
theorem afN:∀k,H8 k 0=0:=by
 intro xX;induction xX with
 |zero=>show rfl
 |succ k iH=>change IB (H8 k 0)=0;show(iH).symm▸?_;rfl
theorem NG{a b:Nat}(ha:a≠0)(D:b<256):tm a b=H8 (lg a) b:=by
 by_cases h:b=0
 .subst h;rw[uN,afN]
 .rw [uw ha h]
  conv=>rhs;rw[<-yV b D h]
  rw[ac5]
theorem vU(a:Nat){b:Nat}(D:b<256)(hc:c<256):tm a (b ^^^ c)=tm a b ^^^ tm a c:=by
 by_cases ha:a=0
 .subst ha;rw[jn,jn,jn];rfl
 .rw [NG ha D,NG ha hc,NG ha (iP D hc),J_ _ D hc]
theorem qD(a:Nat){b:Nat}(D:b<256)(hc:c<256):tm (b ^^^ c) a=tm b a ^^^ tm c a:=by rw[fQ,vU a D hc,fQ a b,fQ a c]
theorem ub{a b:Nat}(h:a ^^^ b=0):a=b:=by have:=congrArg (· ^^^ b) h;simpa[rJ] using this
theorem C3{a b:Nat}(h:tm a b=0)(ha:a≠0):b=0:=Bb λD=>H7 ha D h
theorem XD{a d:Nat}(ha:a<256)(ha0:a≠0)(hd:d≠0):tm d (FO ((lg a+255 - lg d) % 255))=a:=by rw[NF,uw hd (JH _),DL,<-uv,Lr];have:=WD d;rw[show lg d+(lg a+255 - lg d)=lg a+255 by lia,uv,Sl,yV a ha ha0]
theorem Zd{a b:Nat}(ha:a≠0)(D:b<256)(hc:c<256)(h:tm a b=tm a c):b=c:=by
 have:tm a (b ^^^ c)=0:=by rw[vU a D hc,h,lO]
 show ub (C3 this ha)
theorem ac6{e d:Nat}(he:e<256)(hd:d≠0)(h0:e≠0):FO ((lg (tm d e)+255 - lg d) % 255)=e:=
 Zd hd CJ he (XD (eY _ _) (H7 hd h0) hd)
def pN(x:Nat):Nat->Nat
 | 0=>1
 |k+1=>tm x (pN x k)
theorem aip(x k:Nat):pN x k<256:=by
 cases k with
 |zero=>show(by decide:1<256)
 |succ k=>show eY _ _
theorem aiq(h:x≠0):∀k,pN x k≠0:=by
 intro xX;induction xX with
 |zero=>show Nat.one_ne_zero
 |succ k iH=>show H7 h (iH)
theorem K_(x a:Nat):∀b,pN x (a+b)=tm (pN x a) (pN x b):=by
 intro xX;induction xX with
 |zero=>show(?_:pN x a=tm (pN x a) 1);rw[fQ,Qg (aip _ _)]
 |succ b iH=>show(?_:tm x (pN x (a+b))=tm (pN x a) (tm x (pN x b)));rw[iH,<-di,<-di,fQ x]
theorem L_(a:Nat):∀b,pN (pw a) b=pw (a * b):=by
 intro xX;induction xX with
 |zero=>show rfl
 |succ b iH=>change tm (pw a) (pN (pw a) b)=_;rw[iH,Qf,Ls,jF]
noncomputable def sx{α:Type}(l:List α)(f:α->Nat):Nat:=l.foldr (λa s=>f a ^^^ s) 0
section
variable{l:List α}{m:List β}{f g:α->Nat}
theorem H9:sx [] f=0:=rfl
theorem fK{a:α}:sx (a::l) f=f a ^^^ sx l f:=rfl
theorem M_{l':List α}:sx (l++l') f=sx l f ^^^ sx l' f:=by
 induction l with
 |nil=>rw[yc,H9,ix]
 |cons a l ih=>rw[EO,fK,fK,ih,rJ]
theorem dK(h:∀a∈l,f a=g a):sx l f=sx l g:=by
 induction l with
 |nil=>rfl
 |cons a l ih=>rw[fK,fK,h a bz,ih λb D=>h b bz]
theorem air(h:∀a∈l,f a<256):sx l f<256:=by
 induction l with
 |nil=>show Nat.zero_lt_succ _
 |cons a l ih=>show iP (h a bz) (ih λb D=>h b bz)
theorem Cg(h:∀a∈l,f a=0):sx l f=0:=by
 induction l with
 |nil=>rfl
 |cons a l ih=>show fK.symm▸(h a bz).symm▸(ih λb D=>h b bz).symm▸?_;rfl
theorem Ag:sx l (λa=>f a ^^^ g a)=sx l f ^^^ sx l g:=by
 induction l with
 |nil=>simp[H9]
 |cons a l ih=>rw[fK,fK,fK,ih];ac_rfl
theorem uc(a:Nat)(h:∀x∈l,f x<256):tm a (sx l f)=sx l λx=>tm a (f x):=by
 induction l with
 |nil=>show uN a
 |cons b l ih=>rw[fK,fK,vU a (h b bz) (air λx E=>h x bz),ih λx E=>h x bz]
theorem N_(a:Nat)(h:∀x∈l,f x<256):tm (sx l f) a=sx l λx=>tm (f x) a:=by rw[fQ,uc a h];show dK λx _=>fQ _ _
theorem NH{f:α->β->Nat}:sx l (λa=>sx m (f a))=sx m λb=>sx l λa=>f a b:=by
 induction l with
 |nil=>show(Cg λ_ _=>rfl).symm
 |cons a l ih=>rw[fK,ih,<-Ag];rfl
theorem O_{h:β->α}:sx (m.map h) f=sx m λb=>f (h b):=by
 induction m with
 |nil=>rfl
 |cons b m ih=>rw[iI,fK,fK,ih]
theorem XE(a:Nat):l.foldl (λs x=>s ^^^ f x) a=a ^^^ sx l f:=by
 induction l generalizing a with
 |nil=>show(gC a).symm
 |cons b l ih=>rw[iw,ih,fK,rJ]
theorem JI(p:α->Bool)(h:∀a∈l,p a=ab->f a=0):sx (l.filter p) f=sx l f:=by
 induction l with
 |nil=>rfl
 |cons a l ih=>have ih:=ih λb D=>h b bz;show boC (p a) (λq=>by rw[EF q,fK,fK,ih]) λq=>by rw[EG (ne_true_of_eq_false q),fK,ih,h a au q,ix]
theorem ac7{l':List α}(h:l.Perm l'):sx l f=sx l' f:=by
 induction h with
 |nil=>rfl
 |cons a _ ih=>rw[fK,fK,ih]
 |swap a b l=>dsimp only[fK,fK,fK,fK];ac_rfl
 |trans _ _ h1 h2=>show h1.trans h2
end
theorem lF(n:Nat)(f:Nat->Nat):sx (aJ (n+1)) f=sx (aJ n) f ^^^ f n:=by rw[sX,M_,fK,H9,gC]
theorem l9(n:Nat)(f:Nat->Nat):sx (aJ (n+1)) f=f 0 ^^^ sx (aJ n) (λi=>f (i+1)):=by rw[Ue,fK,O_]
end iN
namespace iN
theorem akM{X:Nat->Nat}(hX:∀p,X p<256)(aX:LN):∀(g:Nat->Nat),(∀p∈aX,g p<256)->(∀p∈aX,X p≠0)->aX.Nodup->(∀p∈aX,∀q∈aX,X p=X q->p=q)->
 (∀j,j<aX.length->sx aX (λp=>tm (g p) (pN (X p) j))=0)->∀p∈aX,g p=0:=by
 induction aX with
 |nil=>intro _ _ _ _ _ _;show λp hp=>kI hp
 |cons a aX iH=>
  intro g hg h0 hn hi hs;have wm:=ru.mp hn;have ih:=iH (λp=>tm (g p) (X p ^^^ X a)) (λp _=>eY _ _) (λp hp=>h0 p bz) wm.2 (λp hp q hq=>hi p bz q bz) (λj hj=>by
   have e1:=hs (j+1) jM;have e2:=congrArg (tm (X a)) (hs j jM);rw[uN,uc _ λ_ _=>eY _ _,fK]at e2;dsimp only[fK]at e1;have e3:tm (g a) (pN (X a) (j+1))=tm (X a) (tm (g a) (pN (X a) j)):=by change tm _ (tm _ _)=_;rw[<-di,<-di,fQ (g a)]
   rw[e3]at e1;have:sx aX (λp=>tm (tm (g p) (X p ^^^ X a)) (pN (X p) j))=sx aX (λp=>tm (g p) (pN (X p) (j+1)) ^^^ tm (X a) (tm (g p) (pN (X p) j))):=dK λp _=>by change _=tm _ (tm _ _) ^^^ _;rw[vU _ (hX _) (hX _),qD _ (eY _ _) (eY _ _),di,di,fQ (g p) (tm (X a) _),di,fQ (pN _ _) (g p)]
   rw[this,Ag,((ub e1).symm.trans (ub e2)),lO])
  have hE:∀p∈aX,g p=0:=λp hp=>by
   have e:=ih p hp;rw[fQ]at e;show C3 e λq=>?_;have:=hi p bz a bz (ub q);cases this
   show wm.1 hp
  have e0:=hs 0 fH;rw[fK,Cg λp hp=>by rw[hE p hp,jn],gC]at e0;intro p hp;show bc (bq.mp hp) (λa1=>a1▸?_) λh=>?_
  .rw [fQ]at e0;show C3 e0 (by change(1:Nat)≠0;decide)
  .show hE p h
def Ib(y:Nat)(l:LN)(a:Nat):Nat:=l.foldl (λwhole part=>tm whole y ^^^ part) a
theorem P_{y:Nat}:∀{l:LN} {a:Nat},a<256->(∀x∈l,x<256)->Ib y l a<256
 | [],_,h,_=>h
 |x::l,_,_,hl=>P_ (l:=l) (iP (eY _ _) (hl x bz)) λz hz=>hl z bz
def qs(x:Nat):LN->Nat->LN
 | [],_=>[]
 |p::r,a=>a::qs x r (tm a x ^^^ p)
theorem Q_(x:Nat):∀(l:LN) (a:Nat),(qs x l a).length=l.length
 | [],_=>rfl
 |_::r,_=>congrArg (· +1) (Q_ x r _)
theorem ais(x:Nat)(l:LN):∀(a:Nat),a<256->(∀x∈l,x<256)->∀z∈qs x l a,z<256:=by
 induction l with
 |nil=>intro _ _ _;show λz hz=>kI hz
 |cons p r iH=>
  intro a ha hl;show λz hz=>by
   rcases bq.mp hz with rfl|h
   .show ha
   .show iH _ (iP (eY _ _) (hl p bz)) (λy hy=>hl y bz) z h
theorem Ze(E:x<256)(hy:y<256)(l:LN):∀(a u:Nat),a<256->u<256->(∀z∈l,z<256)->Ib y l (a ^^^ tm (x ^^^ y) u) ^^^ Ib x l a=tm (x ^^^ y) (Ib y (qs x l a) u):=by
 induction l with
 |nil=>intro a u ha hu _;show(?_:a ^^^ tm (x ^^^ y) u ^^^ a=tm (x ^^^ y) u);rw[Lv a,rJ,lO,gC]
 |cons p r iH=>
  intro a u ha hu hl;show(?_:Ib y r (tm (a ^^^ tm (x ^^^ y) u) y ^^^ p) ^^^ Ib x r (tm a x ^^^ p)=tm (x ^^^ y) (Ib y (qs x r (tm a x ^^^ p)) (tm u y ^^^ a)));show(iH (tm a x ^^^ p) (tm u y ^^^ a) (iP (eY _ _) (hl p bz)) (iP (eY _ _) ha) λz hz=>hl z bz)▸?_;congr 2;rw[qD _ ha (eY _ _),vU _ (eY _ _) ha,di,fQ (x ^^^ y) a,vU a E hy];have:tm a x ^^^ p ^^^ (tm (x ^^^ y) (tm u y) ^^^ (tm a x ^^^ tm a y))=(tm a x ^^^ tm a x) ^^^ (tm a y ^^^ tm (x ^^^ y) (tm u y) ^^^ p):=by ac_rfl
  rw[this,lO,ix]
theorem ait(n:Nat):∀(l:LN) (a:Nat),l.length=n->a<256->a≠0->(∀z∈l,z<256)->∀(aN:LN),aN.Nodup->(∀x∈aN,x<256)->(∀x∈aN,Ib x l a=0)->aN.length<=n:=by
 induction n with
 |zero=>
  intro l a hl _ h0 _ aN _ _ hR
  match aN,hR with
  | [],_=>show ey _
  |x::aN,hR=>have:=hR x bz;rw[rn.mp hl]at this;show absurd this h0
 |succ n iH=>
  intro yY;cases yY with
  |nil=>intros;first|ext|(simp at *)
  |cons p r=>
   intro a hl ha h0 D aN hn hRb hR
   match aN,hn,hRb,hR with
   | [],_,_,_=>show fk _
   |x::aN,hn,hRb,hR=>
    have wm:=ru.mp hn;have key:∀y,y<256->Ib y (p::r) a=0->y≠x->Ib y (qs x r (tm a x ^^^ p)) a=0:=λy hy e qI=>by have hs:=Ze (hRb x bz) hy (p::r) a 0 ha bu D;rw[uN,gC,e,hR x bz,lO]at hs;have:=C3 hs.symm λq=>qI (ub q).symm;have e2:Ib y (qs x (p::r) a) 0=Ib y (qs x r (tm a x ^^^ p)) (tm 0 y ^^^ a):=rfl;rw[e2,jn,ix]at this;show this
    have:=iH (qs x r (tm a x ^^^ p)) a (by rw[Q_];show(by simpa using hl)) ha h0 (ais x r _ (iP (eY _ _) (D p bz)) λy hy=>D y bz) aN wm.2 (λy hy=>hRb y bz) λy hy=>
     key y (hRb y bz) (hR y bz) λq=>wm.1 (q▸hy)
    show Nat.le_add_of_sub_le this
theorem yW(l:LN):∀(a:Nat),a<256->(∀z∈l,z<256)->Ib y l a=tm a (pN y l.length) ^^^ sx (aJ l.length) λi=>tm (l.getD i 0) (pN y (l.length - 1 - i)):=by
 induction l with
 |nil=>intro a ha _;show(?_:a=tm a 1 ^^^ 0);rw[fQ,Qg ha,gC]
 |cons p r iH=>intro a ha hl;have hp:=hl p bz;change Ib y r (tm a y ^^^ p)=_;rw[iH _ (iP (eY _ _) hp) λz hz=>hl z bz,oO,l9,qD _ (eY _ _) hp,di,rJ];congr 1;congr 1;show dK λi hi=>by change _=tm (r.getD i 0) _;rw[show r.length+1 - 1 - (i+1)=r.length - 1 - i by lia]
end iN
namespace iN
theorem Ci(l:LN)(k v i:Nat):(l.set k v).getD i 0=if i=k/\k<l.length then v else l.getD i 0:=by
 simp only[da,EL];by_cases e:k=i
 .subst e;rcases yD (k<l.length) with h|h
  .rw [if_pos Z,if_pos h,if_pos ⟨rfl,h⟩];rfl
  .rw [if_pos Z,if_neg h,if_neg (λq=>h q.2),rp (oQ h)]
 .rw [if_neg e,if_neg (λq=>e q.1.symm)]
theorem vV(h:l.length<=i):l.getD i 0=0:=by rw[da,rp h];rfl
theorem jc(h:∀x∈l,x<256)(i:Nat):l.getD i 0<256:=allB_of h i
theorem yX(l:LN)(k i:Nat):(l++bZ k 0).getD i 0=l.getD i 0:=by
 simp only[da];rcases mq i l.length with h|h
 .rw [u7 h]
 .rw [xZ h,rp h,Uc];split<;>rfl
def Dd(s aS:LN)(j:Nat):Nat:=sx (aJ aS.length) λi=>tm (aS.getD i 0) (s.getD (j - i) 0)
theorem FU{f:Nat->Nat}{a:Nat}{b:Nat}:a<=b->(∀i,a<=i->f i=0)->sx (aJ b) f=sx (aJ a) f:=by
 induction b with
 |zero=>intro h _;rw[Lw.mp h]
 |succ b iH=>
  intro h hf;rcases mq b a with q|q
  .rw [show a=b+1 by lia]
  .rw [lF,hf b q,gC,iH q hf]
theorem Qh{f:Nat->Nat}(m:Nat):∀(g:Nat),(∀i,i<g->f i=0)->sx (aJ (g+m)) f=sx (aJ m) λi=>f (g+i)
 | 0,_=>by simp only[qq]
 |g+1,h=>by rw[show g+1+m=(g+m)+1 by show Ll g 1 m,l9,h 0 au,ix,Qh m g λi hi=>h (i+1) au];show dK λi _=>congrArg _ (show g+i+1=g+1+i by lia)
theorem Qi(factor gap:Nat)(old g0:LN)(hl:old.length+gap<=g0.length)(i:Nat):(tT factor gap old g0).getD i 0=g0.getD i 0 ^^^ (if gap<=i/\i - gap<old.length then tm factor (old.getD (i - gap) 0) else 0):=by
 have:∀n,n<=old.length->((aJ n).foldl (λg back=>g.set (back+gap) (g.getD (back+gap) 0 ^^^ tm factor (old.getD back 0))) g0).length=g0.length/\
  ((aJ n).foldl (λg back=>g.set (back+gap) (g.getD (back+gap) 0 ^^^ tm factor (old.getD back 0))) g0).getD i 0=g0.getD i 0 ^^^ (if gap<=i/\i - gap<n then tm factor (old.getD (i - gap) 0) else 0):=by
  intro n;induction n with
  |zero=>intro _;show⟨rfl,by rw[if_neg fH,gC];rfl⟩
  |succ n ih=>
   intro hn;show eZ (ih (rD hn)) λh1 h2=>sX.symm▸ql.symm▸⟨by rw[iw,KV,ES,h1],?_⟩;rw[iw,KV,Ci,h1];by_cases e:i=n+gap
   .subst e;rw[if_pos ⟨rfl,by lia⟩,h2,if_neg (λq=>gy n (jZ (lN (sZ ..).symm) q.2)),if_pos ⟨rF ..,jZ (lN (sZ ..)) (iX n)⟩,gC,sZ]
   .rw [if_neg (λq=>e q.1),h2];congr 1;show if q:gap<=i/\i - gap<n then by rw[if_pos q,if_pos ⟨q.1,kX q.2⟩] else by rw[if_neg q,if_neg λp=>q ⟨p.1,Nat.lt_of_le_of_ne (m8 p.2) λz=>e (by rw[<-z,Lk p.1])⟩]
 show(this old.length (ey _)).2
theorem afO{s aS:LN}{br:Nat}(h:aS.length<=br):Dd s aS j=sx (aJ br) λi=>tm (aS.getD i 0) (s.getD (j - i) 0):=
 (FU h λi hi=>by rw[vV hi,jn]).symm
theorem ac8{s old:LN}{factor gap:Nat}(hn:∀x∈now,x<256):
 Dd s (tT factor gap old (now++bZ (old.length+gap - now.length) 0)) j=Dd s now j ^^^ tm factor (Dd s old (j - gap)):=by
 have dM:(tT factor gap old (now++bZ (old.length+gap - now.length) 0)).length=now.length+(old.length+gap - now.length):=by rw[(GP factor gap old _ (λx E=>by show bc (bY.mp E) (λh=>hn x h) λh=>by rw[u9 h];decide)).1,iu,ro]
 have hL:=dM;generalize now.length+(old.length+gap - now.length)=br at hL
 delta Dd
 show hL.symm▸?_;have e1:sx (aJ br) (λi=>tm ((tT factor gap old (now++bZ (old.length+gap - now.length) 0)).getD i 0) (s.getD (j - i) 0))=
  sx (aJ br) (λi=>tm (now.getD i 0) (s.getD (j - i) 0) ^^^ tm (if gap<=i/\i - gap<old.length then tm factor (old.getD (i - gap) 0) else 0) (s.getD (j - i) 0)):=dK λi _=>by
  rw[Qi _ _ _ _ (iu▸ro▸MR),yX,qD _ (jc hn i) (by split<;>first|show eY _ _|decide)]
 rw[e1,Ag];congr 1
 .show (afO (by rw[<-hL,dM];show iW ..)).symm
 .rw [FU (by rw[<-hL,dM,jF gap];show MR:gap+old.length<=br) (λi hi=>by rw[if_neg au,jn]),Qh _ _ (λi hi=>by rw[if_neg au,jn]),uc _ λ_ _=>eY _ _];show dK λi hi=>by rw[if_pos ⟨iW ..,jZ (lN (rx ..)) (dm.mp hi)⟩,rx,di,E7]
theorem ac9(hl:∀x∈line,x<256)(h0:now.getD 0 0=1)(hn:1<=now.length):vJ line now turn=Dd line now turn:=by
 delta vJ Dd
 rw[XE,O_];show dG (show∃n,now.length=n+1 from⟨now.length - 1,(Nat.sub_eq_iff_eq_add hn).mp Z⟩) λn e=>?_;rw[e,l9,h0,Qg (jc hl _)];congr 1;show dK λi _=>by rw[jF 1 i]
structure Src(line:LN)(X f:Nat->Nat)(aX:LN):Prop where
 b:∀x∈line,x<256
 xb:∀p,X p<256
 x0:∀p,X p≠0
 fb:∀p,f p<256
 nd:aX.Nodup
 inj:∀p∈aX,∀q∈aX,X p=X q->p=q
 at_:∀j,j<line.length->line.getD j 0=sx aX λp=>tm (f p) (pN (X p) j)
def wgt(aS:LN)(X f:Nat->Nat)(size p:Nat):Nat:=tm (f p) (sx (aJ aS.length) λi=>tm (aS.getD i 0) (pN (X p) (size - i)))
theorem Src.dd{aS aX:LN}{X f:Nat->Nat}(S:Src line X f aX)(hC:aS.length<=size+1)(h1:size<=j)(h2:j<line.length):Dd line aS j=sx aX λp=>tm (wgt aS X f size p) (pN (X p) (j - size)):=by
 delta Dd
 have e1:sx (aJ aS.length) (λi=>tm (aS.getD i 0) (line.getD (j - i) 0))=sx (aJ aS.length) λi=>sx aX λp=>tm (aS.getD i 0) (tm (f p) (pN (X p) (j - i))):=dK λi hi=>by rw[S.at_ _ au,uc _ λ_ _=>eY _ _]
 rw[e1,NH];show dK λp _=>?_
 delta wgt
 rw[di,N_ _ λ_ _=>eY _ _,uc _ λ_ _=>eY _ _];show dK λi hi=>?_;rw[show j - i=(size - i)+(j - size) from(by rw[jF,K0 h1 (m8 (fj (dm.mp hi) hC))]),K_,<-di,fQ (aS.getD i 0),di,<-di (aS.getD i 0)]
theorem Src.kill{aS aX:LN}{X f:Nat->Nat}(S:Src line X f aX){t:Nat}(hC:aS.length<=size+1)(ht:t<=line.length)(hv:size+aX.length<=t)(h:∀j,size<=j->j<t->Dd line aS j=0):∀p∈aX,wgt aS X f size p=0:=
 akM S.xb aX _ (λ_ _=>eY _ _) (λp _=>S.x0 p) S.nd S.inj λj hj=>by have:=S.dd hC (j:=size+j) au au;rw[h _ au au,show size+j - size=j by lia]at this;show this.symm
def BMx(line:LN)(v turn:Nat)(st:BM):Prop:=
 ON line turn st/\
 st.now.getD 0 0=1/\
 st.now.length<=st.size+1/\
 (∀j,st.size<=j->j<turn->Dd line st.now j=0)/\
 st.size<=v/\
 st.fault≠0/\
 ∃lo,st.size+lo+st.gap=turn+1/\st.old.length<=lo+1/\((st.size=0/\lo=0/\st.gap=turn+1)\/(st.gap<=turn/\Dd line st.old (turn - st.gap)=st.fault/\∀j,lo<=j->j<turn - st.gap->Dd line st.old j=0))
theorem BMx.step{aX:LN}{X f:Nat->Nat}(S:Src line X f aX)(ht:turn<line.length){st:BM}(k:BMx line aX.length turn st):BMx line aX.length (turn+1) (ku line st turn):=by
 show iZ k λk1 k2 k3 k4 afP=>ie afP λk5 k6 k7=>?_;have ok':=k1.step S.b;show gI k7 λlo o1 o2 o3=>?_;have ada:vJ line st.now turn=Dd line st.now turn:=ac9 S.b k2 k1.ae8;have hg1:=k1.ajU;by_cases h0:vJ line st.now turn=0
 .have e:ku line st turn={st with gap:=st.gap+1}:=(if_pos h0);rw[e]at ok' ⊢;show⟨ok',k2,k3,λj h1 h2=>bc (mq j turn) (λq=>k4 j h1 q) λq=>by rw[show j=turn by show Nat.eq_of_le_of_lt_succ q h2,<-ada,h0],k5,k6,lo,congrArg AX o1,o2,?_⟩;show bc o3 (λi0=>ie i0 λa b c=>ak (gT a b (by show UG.mpr c))) λi0=>ie i0 λa b c=>aw (gT au ?_ ?_)
  .rw [EW];show b
  .rw [EW];show c
 .have hq:=XD (MQ (now:=st.now) (turn:=turn) S.b) h0 k6;generalize hfa:FO ((lg (vJ line st.now turn)+255 - lg st.fault) % 255)=factor at hq;generalize hgr:tT factor st.gap st.old (st.now++bZ (st.old.length+st.gap - st.now.length) 0)=grown;have dM:grown.length=st.now.length+(st.old.length+st.gap - st.now.length):=by rw[<-hgr,(GP factor st.gap st.old _ (λx E=>by show bc (bY.mp E) (λh=>k1.now x h) λh=>by rw[u9 h];decide)).1,iu,ro]
  have hc0:grown.getD 0 0=1:=by rw[<-hgr,Qi _ _ _ _ (iu▸ro▸MR),yX,k2,if_neg au,gC]
  have jy:=k3;have vQ:turn+1 - st.size=lo+st.gap:=by rw[<-o1,lM,rx]
  have Rj:∀ns,st.size<=ns->turn+1 - st.size<=ns->∀j,ns<=j->j<turn+1->Dd line grown j=0:=λns n1 n2 j h1 h2=>by
   have gj:lo+st.gap<=j:=vQ▸a8 n2 h1;rcases o3 with⟨a,b,c⟩|⟨a,b,c⟩
   .lia
   .rw [(λj=>by rw[<-hgr];show ac8 k1.now:∀j,Dd line grown j=Dd line st.now j ^^^ tm factor (Dd line st.old (j - st.gap)))];show bc (mq j turn) (λq=>by rw[k4 j (a8 n1 h1) q,c (j - st.gap) (AQ gj) (Nat.sub_lt_sub_right (a8 (rF ..) gj) q),uN];rfl) λq=>by rw[show j=turn from vb (m8 h2) q,<-ada,b,fQ,hq,lO]
  by_cases h2:2 * st.size<=turn
  .have e:ku line st turn=⟨grown,st.now,turn+1 - st.size,1,vJ line st.now turn⟩:=by delta ku;rw[if_neg h0,if_pos h2,hfa,hgr]
   rw[e]at ok' ⊢;have m0:st.size<=turn+1 - st.size:=AQ (by rw[<-UM];show qo h2);show⟨ok',hc0,a8 (lN dM) (zJ (a8 jy (th m0)) (by rw[vQ,Ll];show yg o2 _)),Rj (turn+1 - st.size) m0 (ey _),?_,h0,st.size,congrArg AX (Lk (a8 m0 (tj ..))),jy,aw ⟨by lia,ada.symm,λj j1 j2=>k4 j j1 (j2)⟩⟩;change turn+1 - st.size<=aX.length;show oQ λjx=>h0 ?_;rw[ada,S.dd jy au ht];show Cg λp hp=>by rw[(S.kill jy (gz ht) au k4) p hp,jn]
  .have e:ku line st turn=⟨grown,st.old,st.size,st.gap+1,st.fault⟩:=by delta ku;rw[if_neg h0,if_neg h2,hfa,hgr]
   rw[e]at ok' ⊢;have m3:turn+1 - st.size<=st.size:=Le (by rw[<-UM];show UE h2);show⟨ok',hc0,a8 (lN dM) (zJ jy (a8 (yg o2 _) (by rw[Ll,<-vQ];show th m3))),Rj st.size (ey _) m3,k5,k6,lo,congrArg AX o1,o2,?_⟩;show bc o3 (λi0=>ie i0 λa b c=>by lia) λi0=>ie i0 λa b c=>aw (gT au (by rw[EW];show b) (by rw[EW];show c))
theorem aeE{aX:LN}{X f:Nat->Nat}(S:Src line X f aX):BMx line aX.length line.length (ux line):=by
 have:∀n,n<=line.length->BMx line aX.length n ((aJ n).foldl (ku line) ⟨[1],[1],0,1,1⟩):=by
  intro n;induction n with
  |zero=>intro _;change BMx line aX.length 0 ⟨[1],[1],0,1,1⟩;show⟨⟨by decide,by decide,N7 Z,N7 Z,N7 Z,N7 Z,N7 Z,N7 Z,N7 Z⟩,rfl,N7 Z,λj _ h=>absurd h (rH _),fk _,uf Z,0,rfl,N7 Z,ak (gT Z Z Z)⟩
  |succ n ih=>intro h;rw[sX,ql];show(ih (rD h)).step S (by assumption)
 show this _ (ey _)
theorem adb{aX:LN}{X f:Nat->Nat}(S:Src line X f aX)(hf:∀p∈aX,f p≠0)(hv:2 * aX.length<=line.length):∀p∈aX,kg (ux line).now (X p)=0:=λp hp=>by
 show iZ (aeE S) λk1 _ k3 k4 afP=>ie afP λk5 _ _=>?_;have D:=k5;have jy:=k3;have h0:=C3 (S.kill jy (ey _) au k4 p hp) (hf p hp);have e:=yW (y:=X p) (ux line).now 0 aL k1.now;rw[jn,ix]at e;have:tm (pN (X p) ((ux line).size - ((ux line).now.length - 1))) (kg (ux line).now (X p))=0:=by change tm _ (Ib (X p) (ux line).now 0)=0;show e.symm▸(uc _ λ_ _=>eY _ _).symm▸h0▸dK λi hi=>?_;rw[<-di,fQ (pN _ _),di,<-K_];congr 2;show K0 (Le jy) (Ld (dm.mp hi))
 show C3 this (aiq (S.x0 p) _)
theorem Zf{aX:LN}{X f:Nat->Nat}(S:Src line X f aX)(hf:∀p∈aX,f p≠0)(hv:2 * aX.length<=line.length)(hE:∀p∈aX,p<n)(hX:∀p,p<n->X p=sp.getD p 0)(hi:∀p,p<n->∀q,q<n->sp.getD p 0=sp.getD q 0->p=q):
 (jN sp (ux line).now n).length=(ux line).size/\(jN sp (ux line).now n).Nodup/\∀p,p∈jN sp (ux line).now n↔p∈aX:=by
 show iZ (aeE S) λk1 k2 k3 _ qq7=>ie qq7 λk5 _ _=>?_;generalize hF:jN sp (ux line).now n=F;have hFn:F.Nodup:=by show(hF)▸?_;show Fn _ x9
 have hmem:∀p,p∈F↔p<n/\kg (ux line).now (sp.getD p 0)=0:=λp=>by show hF▸?_;simp[jN]
 have vQ:∀p∈aX,p∈F:=λp hp=>(hmem p).mpr ⟨hE p hp,by show(hX p (hE p hp))▸?_;show(adb S hf hv) p hp⟩;have jy:=k3;have hbd:=k5;have h1:=k1.ae8;have hc0:=k2;have hnb:=k1.now;have dM:F.length<=(ux line).now.length - 1:=by
  generalize (ux line).now=now at hmem h1 hc0 hnb;cases now with
  |nil=>show absurd h1 (Nat.not_succ_le_zero _)
  |cons c rest=>
   have hc:c=1:=hc0;have:=ait rest.length rest c Z au au (λz hz=>hnb z bz) (F.map λp=>sp.getD p 0) (nodup_map_on (λp hp q hq e=>hi p ((hmem p).mp hp).1 q ((hmem q).mp hq).1 e) hFn)
    (λx E=>by
     obtain⟨p,hp,rfl⟩:=bG.mp E;show(hX p ((hmem p).mp hp).1)▸S.xb p) (λx E=>by
     obtain⟨p,hp,rfl⟩:=bG.mp E;have:=((hmem p).mp hp).2;unfold kg at this;rw[iw,jn,ix]at this;show this)
   rw[ik]at this;show this
 have hle:=A8 S.nd vQ;show gT au hFn (λp=>⟨λhp=>Bb λqI=>?_,vQ p⟩);have:=A8 (l₁:=p::aX) (l₂:=F) (ru.mpr ⟨qI,S.nd⟩) λx E=>zK E hp λh=>vQ x h;dsimp only[oO]at this;lia
end iN
namespace iN
theorem Sm(l:LN)(x:Nat):kg l x=Ib x l 0:=rfl
theorem Qj{r a b:Nat}(ha:a<256):qM r a b=tm a (pw r) ^^^ b:=by
 delta qM
 rcases yD (a=0) with h|h
 .subst h;rw[if_neg ((nofun)),jn]
 .rw [if_pos h,uw h (JH _),DL,NF,<-uv (lg a+r % 255),Lr,uv]
theorem Zg(hw:∀x∈ws,x<256)(r:Nat):GN ws r=Ib (pw r) ws 0:=by
 have:∀(l:LN) (a:Nat),a<256->(∀x∈l,x<256)->l.foldl (qM r) a=l.foldl (λwhole part=>tm whole (pw r) ^^^ part) a:=by
  intro l;induction l with
  |nil=>intros;rfl
  |cons b l ih=>intro a ha hl;show iw.symm▸iw.symm▸(Qj ha).symm▸ih _ (iP (eY _ _) (hl b bz)) λx E=>hl x bz
 show this ws 0 bu hw
theorem uO{p:Nat}(hp:p<n)(hn:n<=255):(cN n).getD p 0=pw (n - 1 - p):=by
 delta cN
 rw[da,cZ,oM hp];show GH au
theorem Zh(hw:∀x∈ws,x<256)(hn:ws.length<=255)(r:Nat):GN ws r=sx (aJ ws.length) λp=>tm (ws.getD p 0) (pN ((cN ws.length).getD p 0) r):=by rw[Zg hw,yW ws 0 bu hw,jn,ix];show dK λp hp=>?_;rw[uO (dm.mp hp) hn,L_,L_,vd]
theorem Zi{p q:Nat}(hn:n<=255)(hp:p<n)(hq:q<n)(e:(cN n).getD p 0=(cN n).getD q 0):p=q:=by rw[uO hp hn,uO hq hn]at e;have:=congrArg lg e;rw[DL,DL,UH au,UH au]at this;lia
theorem R_(hj:j+1<line.length):(wN sp line k).getD j 0=line.getD (j+1) 0 ^^^ tm (sp.getD k 0) (line.getD j 0):=by
 delta wN
 show(congrArg (·.getD 0) EH).trans ?_;show(?_:_=(line[j+1]?).getD 0 ^^^ tm (sp.getD k 0) ((line[j]?).getD 0));rw[KP,jF 1 j,dF hj,dF (show j<line.length by show UD hj)];rfl
def fw(X:Nat->Nat)(g:Nat->Nat):LN->Nat->Nat
 | [],p=>g p
 |k::kn,p=>fw X (λp=>tm (g p) (X p ^^^ X k)) kn p
theorem aiu{X:Nat->Nat}(kn:LN):∀(g:Nat->Nat),(∀p,g p<256)->∀p,fw X g kn p<256:=by
 induction kn with
 |nil=>intro _ h;show h
 |cons _ kn iH=>intro _ _;show iH _ λ_=>eY _ _
theorem S_{X:Nat->Nat}{p:Nat}:∀(kn:LN) (g:Nat->Nat),(g p=0\/p∈kn)->fw X g kn p=0
 | [],g,h=>by
  rcases h with h|h
  .show h
  .ext
 |k::kn,g,h=>S_ kn _ (by
  rcases h with h|h
  .show ak (by rw[h,jn])
  .rcases bq.mp h with rfl|h
   .show ak (by rw[lO,uN])
   .show aw h)
theorem aiv{X:Nat->Nat}{p:Nat}(kn:LN):∀(g:Nat->Nat),g p≠0->(∀k∈kn,X p≠X k)->fw X g kn p≠0:=by
 induction kn with
 |nil=>intro _ h _;show h
 |cons k kn iH=>intro g h hk;show iH _ (H7 h λq=>hk k bz (ub q)) λj hj=>hk j bz
theorem T_{br:LN}(D:∀p,sp.getD p 0<256)(kn:LN):∀(line:LN) (g:Nat->Nat),(∀p,g p<256)->(∀j,j<line.length->line.getD j 0=sx br λp=>tm (g p) (pN (sp.getD p 0) j))->
 ∀j,j<line.length - kn.length->(kP sp line kn).getD j 0=sx br λp=>tm (fw (λp=>sp.getD p 0) g kn p) (pN (sp.getD p 0) j):=by
 induction kn with
 |nil=>intro line g _ h;show λj hj=>h j (hj)
 |cons k kn iH=>intro line g hg h;show λj hj=>by have hl:(wN sp line k).length=line.length - 1:=CK;show iH (wN sp line k) (λp=>tm (g p) (sp.getD p 0 ^^^ sp.getD k 0)) (λp=>eY _ _) (λj hj=>?_) j (by show hl.symm▸?_;simp at hj;lia);rw[R_ au,h _ au,h _ (List.lt_length_left_of_zipWith hj),uc _ λ_ _=>eY _ _,<-Ag];show dK λp _=>(?_:tm (g p) (tm _ _) ^^^ _=_);rw[vU _ (D _) (D _),qD _ (eY _ _) (eY _ _),di,di,<-di (sp.getD k 0),fQ (sp.getD k 0) (g p),di]
theorem jL(sp l:LN)(k i:Nat):(eH sp l k).getD i 0=l.getD i 0 ^^^ tm (sp.getD k 0) (if i=0 then 0 else l.getD (i - 1) 0):=by
 delta eH
 rcases mq l.length i with h|h
 .rw [vV (by simp;assumption),vV (l:=l) (i:=i) au,if_neg (Nat.ne_zero_of_lt h),vV (l:=l) (i:=i - 1) au,uN];rfl
 .rw [da,EH];have e1:(l++[0])[i]? =O (l.getD i 0):=by
   rcases mq i l.length with q|q
   .rw [u7 q,da,dF q];rfl
   .rw [show i=l.length by show vb h q,vV (ey _)];show List.getElem?_concat_length
  have e2:([0]++l)[i]? =O (if i=0 then 0 else l.getD (i - 1) 0):=by
   cases i with
   |zero=>rfl
   |succ i=>change l[i]? =_;rw[if_neg (Li i),sZ,da,dF (by assumption)];rfl
  rw[e1,e2];rfl
theorem Ic{m:LN}(h:l.length=m.length)(e:∀i,i<l.length->l.getD i 0=m.getD i 0):l=m:=by show Uq h λi h1 h2=>?_;have:=e i h1;rw[da,da,dF h1,dF h2]at this;show this
theorem I6(sp:LN)(hl:∀x∈l,x<256)(a b:Nat):eH sp (eH sp l a) b=eH sp (eH sp l b) a:=by
 show Ic (by rw[lq,lq,lq,lq]) λi _=>?_;have D:=jc hl;rw[jL,jL,jL sp _ a i,jL sp l b i];show if h0:i=0 then by rw[if_pos h0,if_pos h0,if_pos h0,uN,uN] else ?_
 rw[if_neg h0,if_neg h0,if_neg h0,jL,jL];have hz:(if i - 1=0 then 0 else l.getD (i - 1 - 1) 0)<256:=by
  split
  .decide
  .show D _
 rw[vU _ (D _) (eY _ _),vU _ (D _) (eY _ _),<-di,<-di,fQ (sp.getD b 0) (sp.getD a 0)]
 ac_rfl
theorem Zj(q:Nat)(l:LN):∀(z:LN),(∀x∈z,x<256)->l.foldl (eH sp) (eH sp z q)=eH sp (l.foldl (eH sp) z) q:=by
 induction l with
 |nil=>intro _ _;show rfl
 |cons a l iH=>intro z hz;rw[iw,iw,I6 sp hz];show iH _ (pX hz)
theorem U_(q:Nat)(l1 l2:LN):pA sp (l1++q::l2)=eH sp (pA sp (l1++l2)) q:=by
 delta pA
 rw[ql,iw,ql];show Zj q l2 _ (BH l1).1
theorem NI{q:Nat}(hl:∀x∈l,x<256)(hy:y<256)(hq:sp.getD q 0<256):Ib y (eH sp l q) 0=tm (y ^^^ sp.getD q 0) (Ib y l 0):=by
 rw[yW _ 0 bu (pX hl),yW _ 0 bu hl,jn,jn,ix,ix,lq,qD _ hy hq,uc _ λ_ _=>eY _ _,uc _ λ_ _=>eY _ _];have e:sx (aJ (l.length+1)) (λi=>tm ((eH sp l q).getD i 0) (pN y (l.length+1 - 1 - i)))=
  sx (aJ (l.length+1)) (λi=>tm (l.getD i 0) (pN y (l.length - i))) ^^^ sx (aJ (l.length+1)) (λi=>tm (tm (sp.getD q 0) (if i=0 then 0 else l.getD (i - 1) 0)) (pN y (l.length - i))):=by
  rw[<-Ag];show dK λi _=>?_;rw[jL,qD _ ((jc hl) _) (eY _ _),sZ]
 rw[e,lF,vV (ey _),jn,gC,l9,if_pos Z,uN,jn,ix];congr 1
 .show dK λi hi=>?_;have hi:=dm.mp hi;rw[<-di,fQ y,di];congr 1;rw[show l.length - i=l.length - 1 - i+1 from nj6 au];rfl
 .show dK λi _=>?_;rw[if_neg (Li i),sZ,di];congr 3;lia
def pd(X:Nat->Nat)(y:Nat):LN->Nat
 | []=>1
 |o::l=>tm (y ^^^ X o) (pd X y l)
theorem aiw{X:Nat->Nat}:∀l,pd X y l<256
 | []=>(by decide:1<256)
 |_::_=>eY _ _
theorem V_(hy:y<256)(D:∀p,sp.getD p 0<256)(l:LN):∀(z:LN),(∀x∈z,x<256)->Ib y (l.foldl (eH sp) z) 0=tm (pd (λp=>sp.getD p 0) y l) (Ib y z 0):=by
 induction l with
 |nil=>intro z hz;show(Qg (P_ bu hz)).symm
 |cons a l iH=>intro z hz;rw[iw,iH _ (pX hz),NI hz hy (D a),show pd _ y (a::l)=tm (y ^^^ sp.getD a 0) (pd _ y l) from rfl,<-di,fQ (pd _ y l)]
theorem ade{X:Nat->Nat}{p:Nat}(h:p∈l):pd X (X p) l=0:=by
 induction l with
 |nil=>show kI h
 |cons o l ih=>
  dsimp only[pd];rcases bq.mp h with rfl|h
  .rw [lO,jn]
  .rw [ih h,uN]
theorem afQ{q:Nat}(hl:∀x∈l,x<256)(t:Nat):sx (aJ (t+1)) (λb=>tm ((eH sp l q).getD b 0) (pN (sp.getD q 0) (t - b)))=l.getD t 0:=by
 induction t with
 |zero=>rw[lF,Us,H9,ix,jL,if_pos Z,uN,gC];change tm _ 1=_;rw[fQ,Qg (jc hl _)]
 |succ t iH=>
  rw[lF,Lu];have e:sx (aJ (t+1)) (λb=>tm ((eH sp l q).getD b 0) (pN (sp.getD q 0) (t+1 - b)))=tm (sp.getD q 0) (l.getD t 0):=by rw[<-iH,uc _ λ_ _=>eY _ _];show dK λb D=>?_;rw[show t+1 - b=t - b+1 from Nat.succ_sub (m8 (dm.mp D))];change tm _ (tm _ _)=_;rw[<-di,<-di,fQ (sp.getD q 0)]
  rw[e];change _ ^^^ tm _ 1=_;rw[fQ _ 1,Qg (jc (pX hl) _),jL,if_neg (Li t),sZ,Lv (l.getD (t+1) 0),<-rJ,lO,ix]
end iN
namespace iN
theorem NJ{p:Nat}{l1 l2:LN}(h:(l1++p::l2).Nodup):p∉l1++l2/\(l1++l2).Nodup:=ru.mp (List.perm_middle.nodup_iff.mp h)
theorem afR{q:Nat}{m1:LN}:∀{l1 m2 l2:LN},m1++q::m2=l1++q::l2->q∉m1->q∉l1->m1=l1/\m2=l2:=by
 induction m1 with
 |nil=>
  intro l1 m2 l2 h k1 k2;cases l1 with
  |nil=>show⟨rfl,(mx h).2⟩
  |cons a l1=>show absurd ((mx h).1▸cR ..) k2
 |cons a m1 ih=>
  intro l1 m2 l2 h k1 k2;cases l1 with
  |nil=>show absurd ((mx h).1▸cR ..) k1
  |cons b l1=>show eZ (mx h) λe1 e2=>eZ (ih e2 (λh=>k1 (bU _ h)) λh=>k2 (bU _ h)) λe3 e4=>⟨by rw[e1,e3],e4⟩
theorem adf{P:LN}{f:Nat->Nat}(hn:P.Nodup)(hp:∀p∈P,p<n)(h0:∀p,p<n->p∉P->f p=0):sx (aJ n) f=sx P f:=by show(JI (l:=aJ n) (λp=>decide (p∈P)) λa ha e=>h0 a (dm.mp ha) (of_decide_eq_false e))▸ac7 ((List.perm_ext_iff_of_nodup (Fn _ x9) hn).mpr λa=>?_);rw[gu,dm,decide_eq_true_eq];show⟨λh=>h.2,λh=>⟨hp a h,h⟩⟩
theorem adg{P rs:LN}{e X:Nat->Nat}{t:Nat}(h:∀j,j<=t->rs.getD j 0=sx P λq=>tm (e q) (pN (X q) j)):
 Ro pr rs t=sx P λq=>tm (e q) (sx (aJ (t+1)) λb=>tm (pr.getD b 0) (pN (X q) (t - b))):=by
 delta Ro
 rw[XE,ix];have e1:sx (aJ (t+1)) (λb=>tm (pr.getD b 0) (rs.getD (t - b) 0))=sx (aJ (t+1)) λb=>sx P λq=>tm (e q) (tm (pr.getD b 0) (pN (X q) (t - b))):=dK λb _=>by rw[h _ au,uc _ λ_ _=>eY _ _];show dK λq _=>by rw[<-di,fQ (pr.getD b 0),di]
 rw[e1,NH];show dK λq _=>(uc _ λ_ _=>eY _ _).symm
theorem adh{rs:LN}{t:Nat}(h:t<n):(wO pr rs n).getD t 0=Ro pr rs t:=by
 delta wO
 rw[da,cZ,oM h];rfl
theorem amount{P rs:LN}{e:Nat->Nat}(D:∀p,sp.getD p 0<256)(WG:∀j,j<P.length->rs.getD j 0=sx P λq=>tm (e q) (pN (sp.getD q 0) j)){l1 l2:LN}{p:Nat}(hP:P=l1++p::l2)(tR:P.Nodup):
 kg (wO (pA sp P) rs P.length) (sp.getD p 0)=tm (e p) (pd (λp=>sp.getD p 0) (sp.getD p 0) (l1++l2)):=by
 have hab:∀x∈wO (pA sp P) rs P.length,x<256:=λx E=>by show bg (bG.mp E) λt _ dX=>?_;subst dX;show WJ
 rw[Sm,yW _ 0 aL hab,jn,ix,(by simp[wO]:(wO (pA sp P) rs P.length).length=P.length)];have quo:∀q∈P,∃M,(∀x∈M,x<256)/\M.length=P.length/\pA sp P=eH sp M q/\Ib (sp.getD p 0) M 0=if q=p then pd (λp=>sp.getD p 0) (sp.getD p 0) (l1++l2) else 0:=λq hq=>by
  show jd (Um hq) λm1 m2 em=>((wy (pA sp (m1++m2)) ((BH _).1) (by rw[(BH _).2,em];simp;show lM m1.length m2.length 1) (by rw[em];show U_ q m1 m2) ?_))
  delta pA
  rw[V_ (D p) D _ _ aL];rw[(by change tm 0 _ ^^^ 1=1;rw[jn];rfl:Ib (sp.getD p 0) [1] 0=1),fQ,Qg (aiw _)];by_cases e:q=p
  .subst e;rw[if_pos Z];have:m1=l1/\m2=l2:=afR (em.symm.trans hP) (λh=>((NJ (em▸tR)).1) (dc _ h)) (λh=>((NJ (hP▸tR)).1) (dc _ h));rw[this.1,this.2]
  .show (if_neg e).symm▸ade ?_;rcases bY.mp (by rw[<-em,hP];simp:p∈m1++q::m2) with h|h
   .show dc _ h
   .show bc (bq.mp h) (λh=>absurd h.symm e) λh=>ew _ h
 have e1:sx (aJ P.length) (λi=>tm ((wO (pA sp P) rs P.length).getD i 0) (pN (sp.getD p 0) (P.length - 1 - i)))=
  sx (aJ P.length) λi=>sx P λq=>tm (e q) (tm (sx (aJ (i+1)) λb=>tm ((pA sp P).getD b 0) (pN (sp.getD q 0) (i - b))) (pN (sp.getD p 0) (P.length - 1 - i))):=dK λi hi=>by
  have hi:=dm.mp hi;rw[adh hi,adg λj hj=>WG j au,N_ _ λ_ _=>eY _ _];show dK λq _=>di _ _ _
 rw[e1,NH];have e2:sx P (λq=>sx (aJ P.length) λi=>tm (e q) (tm (sx (aJ (i+1)) λb=>tm ((pA sp P).getD b 0) (pN (sp.getD q 0) (i - b))) (pN (sp.getD p 0) (P.length - 1 - i))))=
  sx P λq=>tm (e q) (if q=p then pd (λp=>sp.getD p 0) (sp.getD p 0) (l1++l2) else 0):=dK λq hq=>by
  show lZ (quo q hq) λM hM hMl eP hh=>?_;rw[<-hh,yW _ 0 aL hM,jn,ix,uc _ λ_ _=>eY _ _,hMl];show dK λi _=>?_;rw[eP,afQ hM]
 rw[e2,hP,M_,fK,if_pos Z];have n2:=(NJ (hP▸tR)).1;rw[Cg λq hq=>by rw[if_neg (λw:q=p=>n2 (w▸dc _ hq)),uN],Cg λq hq=>by rw[if_neg (λw:q=p=>n2 (w▸ew _ hq)),uN],ix,gC]
end iN
namespace iN
theorem Zk{p e:Nat}(he:e<256)(l:LN):(∀o∈l,o≠p/\sp.getD p 0 ^^^ sp.getD o 0≠0)->pB sp l p (tm e (pd (λp=>sp.getD p 0) (sp.getD p 0) l))=e:=by
 induction l with
 |nil=>intro _;show(?_:tm e 1=e);rw[fQ,Qg he]
 |cons o l iH=>
  intro h;show eZ (h o bz) λh1 h2=>(?_:pB sp l p (jz sp p (tm e (tm (sp.getD p 0 ^^^ sp.getD o 0) (pd _ _ l))) o)=e);have:jz sp p (tm e (tm (sp.getD p 0 ^^^ sp.getD o 0) (pd (λp=>sp.getD p 0) (sp.getD p 0) l))) o=tm e (pd (λp=>sp.getD p 0) (sp.getD p 0) l):=by
   delta jz
   rw[<-di,fQ e,di];generalize hw:tm e (pd (λp=>sp.getD p 0) (sp.getD p 0) l)=W;show if h0:W=0 then by rw[h0,uN,if_neg ((nofun))] else by rw[if_pos ⟨h1,H7 h2 h0⟩,ac6 (hw▸eY _ _) h2 h0]
  show this.symm▸(iH λo' ho=>h o' bz)
theorem Ie(sp l1 l2:LN)(p a:Nat):pB sp (l1++l2) p a=pB sp l2 p (pB sp l1 p a):=ql
theorem W_{p e:Nat}(he:e<256)(l1 l2:LN)(h:∀o∈l1++l2,o≠p/\sp.getD p 0 ^^^ sp.getD o 0≠0):pB sp (l1++p::l2) p (tm e (pd (λp=>sp.getD p 0) (sp.getD p 0) (l1++l2)))=e:=by
 have e1:∀a,pB sp (l1++p::l2) p a=pB sp (l1++l2) p a:=λa=>by rw[Ie,Ie];change pB sp l2 p (jz sp p _ p)=_;show congrArg _ (if_neg fH)
 rw[e1,Zk he _ h]
theorem JJ{P am:LN}{v:Nat->Nat}(i:Nat)(l:LN):∀(md:LN),l.Nodup->(∀p∈l,p<md.length/\pB sp P p (kg am (sp.getD p 0))=v p)->
 (l.foldl (mQ sp P am) md).length=md.length/\(l.foldl (mQ sp P am) md).getD i 0=md.getD i 0 ^^^ (if i∈l then v i else 0):=by
 induction l with
 |nil=>intro md _ _;show⟨rfl,by rw[if_neg (mZ),gC];rfl⟩
 |cons p l iH=>
  intro md hn h;have wm:=ru.mp hn;have hl:(mQ sp P am md p).length=md.length:=by simp[mQ]
  obtain⟨h1,h2⟩:=iH (mQ sp P am md p) wm.2 λq hq=>by rw[hl];show h q bz
  show eZ (h p bz) λa b=>?_;dsimp only[iw];show⟨h1.trans hl,?_⟩;rw[h2]
  delta mQ
  rw[Ci,b];by_cases e:i=p
  .show e.symm▸?_;rw[if_pos ⟨rfl,a⟩,if_neg wm.1,if_pos bz,gC]
  .rw [if_neg λq=>e q.1];show if q:i∈l then by rw[if_pos q,if_pos bz] else by rw[if_neg q,if_neg (hb e q)]
theorem mended{T:LN}(hn:ws.length<=255)(dM:cs.length=ws.length)(hw:∀x∈ws,x<256)(hc:∀x∈cs,x<256)(xe:∀r,r<c->sx (aJ ws.length) (λp=>tm (cs.getD p 0) (pN ((cN ws.length).getD p 0) r))=0)(hkn:kn.Nodup)(hkb:∀k∈kn,k<ws.length)(hT:2 * T.length<=c - kn.length)(hkc:kn.length<=c)(akN:∀p,p<ws.length->ws.getD p 0≠cs.getD p 0->p∈kn\/p∈T):
 (jN (cN ws.length) (ux (kP (cN ws.length) (fX ws c) kn)).now ws.length).length=(ux (kP (cN ws.length) (fX ws c) kn)).size/\vK ws c kn=cs:=by
 have v7:∀p,(cN ws.length).getD p 0<256:=OJ _;have XF:∀p,p<ws.length->(cN ws.length).getD p 0≠0:=λp hp=>by rw[uO hp hn];show JH _
 have adi:∀p,p<ws.length->∀q,q<ws.length->(cN ws.length).getD p 0=(cN ws.length).getD q 0->p=q:=λp hp q hq e=>Zi hn hp hq e;have hxd:∀p q,p<ws.length->q<ws.length->q≠p->(cN ws.length).getD p 0 ^^^ (cN ws.length).getD q 0≠0:=λp q hp hq qI e=>qI (adi p hp q hq (ub e)).symm;generalize wm:ws.length=n at *;generalize aix:cN n=sp at *
 let e:Nat->Nat:=λp=>ws.getD p 0 ^^^ cs.getD p 0;have he:∀p,e p<256:=λp=>iP (jc hw p) (jc hc p);have hrl:(fX ws c).length=c:=by simp[fX]
 have WG:∀j,j<c->(fX ws c).getD j 0=sx (aJ n) λp=>tm (e p) (pN (sp.getD p 0) j):=λj hj=>by
  have e1:(fX ws c).getD j 0=GN ws j:=by
   delta fX
   rw[da,cZ,oM hj];rfl
  rw[e1,Zh hw (le_of_eq_of_le wm hn),wm,aix];have e2:sx (aJ n) (λp=>tm (e p) (pN (sp.getD p 0) j))=sx (aJ n) (λp=>tm (ws.getD p 0) (pN (sp.getD p 0) j) ^^^ tm (cs.getD p 0) (pN (sp.getD p 0) j)):=
   dK λp _=>qD _ (jc hw p) (jc hc p)
  rw[e2,Ag,xe j hj,gC]
 generalize afS:fX ws c=rs at *
 let X:Nat->Nat:=λp=>if p<n then sp.getD p 0 else 1
 let f:Nat->Nat:=fw (λp=>sp.getD p 0) e kn
 let aX:LN:=(aJ n).filter λp=>decide (f p≠0);have X_:∀p,p∈aX↔p<n/\f p≠0:=λp=>by rw[gu,dm,decide_eq_true_eq]
 have aiy:aX.Nodup:=Fn _ x9;have hEk:∀p∈aX,p∉kn/\e p≠0:=λp hp=>⟨λq=>((X_ p).mp hp).2 (S_ kn e (aw q)),λq=>((X_ p).mp hp).2 (S_ kn e (ak q))⟩;have hET:aX.length<=T.length:=A8 aiy λp hp=>by show eZ (hEk p hp) λh1 h2=>((akN p ((X_ p).mp hp).1 λq=>h2 ?_).resolve_left h1);change ws.getD p 0 ^^^ cs.getD p 0=0;rw[q,lO]
 have hll:(kP sp rs kn).length=c - kn.length:=by rw[(GS kn rs (λx E=>by have E:=afS.symm▸E;show wM (GO (allB_of hw)) E)).2,hrl]
 have S:Src (kP sp rs kn) X f aX:=⟨(GS kn rs (λx E=>by rw[<-afS]at E;show wM (GO (allB_of hw)) E)).1,λp=>by change(if p<n then _ else _)<256;split<;>first|show v7 p|decide,
  λp=>by change(if p<n then _ else _)≠0;split<;>first|show XF p (by assumption)|decide,aiu kn e he,aiy,λp hp q hq h=>by
   have h:(if p<n then sp.getD p 0 else 1)=if q<n then sp.getD q 0 else 1:=h
   rw[if_pos ((X_ p).mp hp).1,if_pos ((X_ q).mp hq).1]at h;show adi p ((X_ p).mp hp).1 q ((X_ q).mp hq).1 h,λj hj=>by
   show(T_ v7 kn rs e he (λj hj=>WG j au) j au).symm▸?_;have e3:sx (aJ n) (λp=>tm (fw (λp=>sp.getD p 0) e kn p) (pN (sp.getD p 0) j))=sx (aJ n) λp=>tm (f p) (pN (X p) j):=dK λp hp=>by change _=tm (f p) (pN (if p<n then _ else _) j);rw[if_pos (dm.mp hp)]
   rw[e3];show(JI _ λp _ h=>by rw[Classical.not_not.mp (of_decide_eq_false h),jn]).symm⟩
 show ie (Zf (n:=n) (sp:=sp) S (λp hp=>((X_ p).mp hp).2) au (λp hp=>((X_ p).mp hp).1) (λp hp=>if_pos hp) adi) λF1 F2 F3=>⟨F1,?_⟩
 delta vK yM
 rw[wm,aix,afS];generalize jN sp (ux (kP sp rs kn)).now n=F at *;have hPn:(kn++F).Nodup:=qk.mpr (gT hkn F2 (λa ha b D q=>(hEk b ((F3 b).mp D)).1 (q▸ha)));have Y_:∀p∈kn++F,p<n:=λp hp=>bc (bY.mp hp) (λh=>hkb p h) λh=>((X_ p).mp ((F3 p).mp h)).1;have hPs:∀p,p<n->p∉kn++F->e p=0:=λp hp hq=>Bb λh0=>hq (by
  show if hk:p∈kn then dc _ hk else ?_
  show ew _ ((F3 p).mpr ((λp hp h0 hk=>(X_ p).mpr ⟨hp,aiv kn e h0 λk hk' q=>hk (adi p hp k (hkb k hk') q▸hk')⟩:∀p,p<n->e p≠0->p∉kn->p∈aX) p hp h0 hk)))
 have hFl:F.length<=aX.length:=A8 F2 λp hp=>(F3 p).mp hp;have hPl:(kn++F).length<=c:=by rw[iu];lia
 have hv:∀p∈kn++F,pB sp (kn++F) p (kg (wO (pA sp (kn++F)) rs (kn++F).length) (sp.getD p 0))=e p:=λp hp=>by
  show jd (Um hp) λl1 l2 hP=>?_;rw[amount (e:=e) v7 (λj hj=>(WG j au).symm▸adf hPn Y_ λp h1 h2=>by rw[hPs p h1 h2,jn]) hP hPn,hP];show W_ (he p) l1 l2 λo ho=>?_;have hop:o≠p:=λq=>((NJ (hP▸hPn)).1) (q▸ho);have hoP:o∈kn++F:=by rw[hP];rcases bY.mp ho with h|h<;>ext
  show⟨hop,hxd p o (Y_ p hp) (Y_ o hoP) hop⟩
 show Ic (by rw[(JJ (v:=e) 0 (kn++F) ws hPn λp hp=>⟨by rw[wm];show Y_ p hp,hv p hp⟩).1,wm,dM]) λi hi=>?_;have hm:=JJ (v:=e) i (kn++F) ws hPn λp hp=>⟨by rw[wm];show Y_ p hp,hv p hp⟩;rw[hm.1,wm]at hi;show hm.2.symm▸?_;have E:ws.getD i 0 ^^^ e i=cs.getD i 0:=by rw[<-rJ,lO,ix]
 by_cases q:i∈kn++F
 .rw [if_pos q,E]
 .rw [hPs i hi q,gC]at E;rw[if_neg q,gC,E]
end iN
namespace iN
def zD:LN:=QV++QV
theorem afT(h:k<510):zD.getD k 0=pw k:=by
 delta zD
 rw[da];rcases mq k 255 with q|q
 .rw [u7 (yK▸q),<-da];show GH q
 .rw [xZ (yK▸q),yK,<-da];have:=GH (k:=k - 255) (Nat.sub_lt_left_of_lt_add q h);unfold FO at this;rw[this,<-Sl,show k - 255+255=k by lia]
theorem adj(hg:∀x∈gen,x<255)(hl:lc<255)(p:Nat)(n:Nat):n<=gen.length->k+n<eb.length->
 (Cc zD gen k lc eb n).getD p 0=eb.getD p 0 ^^^ (if k<p/\p<=k+n then tm (pw lc) (pw (gen.getD (p - k - 1) 0)) else 0):=by
 induction n with
 |zero=>intro _ _;rw[if_neg fH,gC];rfl
 |succ n iH=>
  intro h1 h2;have ih:=iH (rD h1) (UD h2);have hgn:gen.getD n 0<255:=by rw[da,dF (show n<gen.length by assumption)];show hg _ (KR _)
  unfold Cc;rw[Ci,HO,afT (k:=lc+gen.getD n 0) au,<-Qf];by_cases e:p=k+n+1
  .subst e;rw[if_pos ⟨rfl,by lia⟩,ih,if_neg fH,if_pos au,gC,show k+n+1 - k - 1=n by lia]
  .rw [if_neg λq=>e q.1,ih];show if q:k<p/\p<=k+n then by rw[if_pos q,if_pos au] else by rw[if_neg q,if_neg au]
theorem Z_{gen:LN}{k lc:Nat}{eb:LN}(D:∀x∈eb,x<256):∀n,∀x∈Cc zD gen k lc eb n,x<256
 | 0=>D
 |n+1=>λx E=>by
  have ih:=Z_ (gen:=gen) (k:=k) (lc:=lc) D n;show bc (u6 E) (λh=>ih x h) λh=>?_;subst h;show iP (jc ih _) (jc (λx E=>by
   have:x∈QV:=by rcases bY.mp E with h|h<;>show h
   show bg (bG.mp this) λi _ dX=>dX▸OG i) _)
theorem Sn(D:∀x∈eb,x<256):∀k,∀x∈gV wt zD gen eb k,x<256:=by
 intro xX;induction xX with
 |zero=>show D
 |succ k iH=>
  rw[gV];split
  .show iH
  .show Z_ (iH) _
def JK(gen:LN):Prop:=(∀x∈gen,x<255)/\∀r,r<gen.length->pw (r * gen.length) ^^^ sx (aJ gen.length) (λj=>pw (gen.getD j 0+r * (gen.length - 1 - j)))=0
theorem aaa(hG:JK gen)(D:∀x∈eb,x<256){r:Nat}(hr:r<gen.length)(hk:k+gen.length<eb.length):
 sx (aJ (eb.length - (k+1))) (λi=>tm ((gV wt zD gen eb (k+1)).getD (k+1+i) 0) (pw (r * (eb.length - 1 - (k+1+i)))))=
 sx (aJ (eb.length - k)) (λi=>tm ((gV wt zD gen eb k).getD (k+i) 0) (pw (r * (eb.length - 1 - (k+i))))):=by
 have hbk:=Sn (gen:=gen) D k;have hlk:(gV wt zD gen eb k).length=eb.length:=xn k;obtain⟨M,eM⟩:∃M,eb.length - k=M+1:=⟨eb.length - k - 1,nj0 (KZ hk)⟩;have eM2:eb.length - (k+1)=M:=nj2 eM;have eK:gV wt zD gen eb (k+1)=if(gV wt zD gen eb k).getD k 0=0 then gV wt zD gen eb k else Cc zD gen k (wt.getD ((gV wt zD gen eb k).getD k 0) 0) (gV wt zD gen eb k) gen.length:=rfl
 rw[eM,eM2,l9,eK];simp only[AW];generalize gV wt zD gen eb k=aZ at *;by_cases h0:aZ.getD k 0=0
 .rw [if_pos h0,h0,jn,ix];show dK λi _=>by rw[show k+(i+1)=k+1+i by lia]
 .rw [if_neg h0];have hlc:wt.getD (aZ.getD k 0) 0<255:=WD _;have hpw:pw (wt.getD (aZ.getD k 0) 0)=aZ.getD k 0:=yV _ (jc hbk k) h0;have e1:sx (aJ M) (λi=>tm ((Cc zD gen k (wt.getD (aZ.getD k 0) 0) aZ gen.length).getD (k+1+i) 0) (pw (r * (eb.length - 1 - (k+1+i)))))=
   sx (aJ M) (λi=>tm (aZ.getD (k+(i+1)) 0) (pw (r * (eb.length - 1 - (k+(i+1))))) ^^^ tm (if i<gen.length then tm (aZ.getD k 0) (pw (gen.getD i 0)) else 0) (pw (r * (eb.length - 1 - (k+1+i))))):=dK λi _=>by
   rw[adj hG.1 hlc _ _ (ey _) au,hpw,show k+1+i=k+(i+1) by show ye k i,show k+(i+1) - k - 1=i by lia];show if q:i<gen.length then by rw[if_pos au,if_pos q,qD _ (jc hbk _) (eY _ _)] else by rw[if_neg au,if_neg q,qD _ (jc hbk _) bu]
  rw[e1,Ag,Lv];congr 1;have hM:gen.length<=M:=by lia
  rw[FU hM λi hi=>by rw[if_neg (j0.mpr hi),jn]];have e2:sx (aJ gen.length) (λi=>tm (if i<gen.length then tm (aZ.getD k 0) (pw (gen.getD i 0)) else 0) (pw (r * (eb.length - 1 - (k+1+i)))))=
   sx (aJ gen.length) λi=>tm (tm (aZ.getD k 0) (pw (r * (M - gen.length)))) (pw (gen.getD i 0+r * (gen.length - 1 - i))):=dK λi hi=>by
   have hi:=dm.mp hi;rw[if_pos hi,di,di,Qf,Qf];congr 2;rw[show eb.length - 1 - (k+1+i)=(M - gen.length)+(gen.length - 1 - i) from(by rw[nj3 eM,E7 gen.length 1 i,K0 hM (AS.mpr hi)];change k+M - (k+1+i)=_;rw[lM,Nat.add_sub_add_left]),yl];show Nat.add_left_comm (gen.getD i 0) (r * (M - gen.length)) (r * (gen.length - 1 - i))
  rw[e2,<-uc _ λ_ _=>OG _,<-ub (hG.2 r hr),di,Qf,<-yl];congr 3;lia
theorem enc(hG:JK gen)(hd:∀x∈data,x<256)(hN:data.length+gen.length<=255){r:Nat}(hr:r<gen.length):
 sx (aJ (data.length+gen.length)) (λp=>tm ((data++(gV wt zD gen (data++bZ gen.length 0) data.length).drop data.length).getD p 0) (pN ((cN (data.length+gen.length)).getD p 0) r))=0:=by
 have D:∀x∈data++bZ gen.length 0,x<256:=λx E=>by
  rcases bY.mp E with h|h
  .show hd x h
  .rw [u9 h];decide
 have hl:(data++bZ gen.length 0).length=data.length+gen.length:=by simp
 have key:∀k,k<=data.length->sx (aJ (data.length+gen.length - k)) (λi=>tm ((gV wt zD gen (data++bZ gen.length 0) k).getD (k+i) 0) (pw (r * (data.length+gen.length - 1 - (k+i)))))=
  sx (aJ (data.length+gen.length)) (λi=>tm ((data++bZ gen.length 0).getD i 0) (pw (r * (data.length+gen.length - 1 - i)))):=by
  intro k;induction k with
  |zero=>intro _;simp only[qq];rfl
  |succ k ih=>intro hk;show(ih au)▸have:=aaa (k:=k) hG D hr (by rw[hl];show EX hk gen.length);have this:=hl▸this;this
 have k1:=key data.length (ey _);rw[rx]at k1;have e0:sx (aJ (data.length+gen.length)) (λi=>tm ((data++bZ gen.length 0).getD i 0) (pw (r * (data.length+gen.length - 1 - i))))=
  sx (aJ data.length) (λi=>tm (data.getD i 0) (pw (r * (data.length+gen.length - 1 - i)))):=by
  rw[FU (a:=data.length) au λi hi=>by rw[yX,vV hi,jn]];show dK λi _=>by rw[yX]
 have sp:∀p,p<data.length+gen.length->pN ((cN (data.length+gen.length)).getD p 0) r=pw (r * (data.length+gen.length - 1 - p)):=λp hp=>by rw[uO hp hN,L_,vd]
 have e3:∀(f:Nat->Nat) (a b:Nat),sx (aJ (a+b)) f=sx (aJ a) f ^^^ sx (aJ b) λi=>f (a+i):=λf a b=>by
  induction b with
  |zero=>rw[AW,Us,H9,gC]
  |succ b ih=>rw[<-lM,lF,lF,ih,rJ]
 rw[e3];have e4:∀i,i<data.length->∀t:LN,(data++t).getD i 0=data.getD i 0:=λi hi t=>by rw[da,u7 hi,da]
 have e5:∀i,∀t:LN,(data++t.drop data.length).getD (data.length+i) 0=t.getD (data.length+i) 0:=λi t=>by rw[da,xZ au,KP,da,show data.length+(data.length+i - data.length)=data.length+i by lia]
 have q1:sx (aJ data.length) (λp=>tm ((data++(gV wt zD gen (data++bZ gen.length 0) data.length).drop data.length).getD p 0) (pN ((cN (data.length+gen.length)).getD p 0) r))=
  sx (aJ data.length) (λi=>tm (data.getD i 0) (pw (r * (data.length+gen.length - 1 - i)))):=dK λi hi=>by
  have hi:=dm.mp hi;rw[e4 i hi,sp i (Lo gen.length hi)]
 have q2:sx (aJ gen.length) (λi=>tm ((data++(gV wt zD gen (data++bZ gen.length 0) data.length).drop data.length).getD (data.length+i) 0) (pN ((cN (data.length+gen.length)).getD (data.length+i) 0) r))=
  sx (aJ gen.length) (λi=>tm ((gV wt zD gen (data++bZ gen.length 0) data.length).getD (data.length+i) 0) (pw (r * (data.length+gen.length - 1 - (data.length+i))))):=dK λi hi=>by
  rw[e5,sp _ (yh (dm.mp hi) data.length)]
 rw[q1,q2,k1.trans e0,lO]
noncomputable def afU:LN:=[113,164,166,119,10]
noncomputable def afV:LN:=[166,0,134,5,176,15]
theorem akO:JK afU:=⟨by decide,by decide⟩
theorem akP:JK afV:=⟨by decide,by decide⟩
end iN
namespace iN
theorem NK{p q:Nat×Nat}{v:Nat}(h:Sq pic)(h1:p.1<13)(h2:p.2<13):iU (pD pic p.1 p.2 v) q=if q=p then v else iU pic q:=by
 have hr:=h.2 p.1 h1;have hl:=h.1;obtain⟨a,b⟩:=p;obtain⟨i,j⟩:=q
 delta iU pD
 simp only at h1 h2 hr ⊢;by_cases e:i=a
 .subst e;have e1:(pic.set i ((pic.getD i []).set b v)).getD i []=(pic.getD i []).set b v:=by rw[da,EL,if_pos Z,if_pos au];rfl
  rw[e1,Ci,hr];by_cases e2:j=b
  .show e2.symm▸?_;rw[if_pos ⟨rfl,h2⟩,if_pos Z]
  .rw [if_neg λq=>e2 q.1,if_neg λq=>e2 (tI q).2]
 .have e1:(pic.set a ((pic.getD a []).set b v)).getD i []=pic.getD i []:=by rw[da,EL,if_neg (λq=>e q.symm),<-da]
  rw[e1,if_neg λq=>e (tI q).1]
noncomputable def pM(k:Nat):Nat×Nat:=jb.getD k (0,0)
theorem aab:∀k,k<80->∀l,l<80->pM k=pM l->k=l:=by decide
theorem afW:∀k,k<80->(pM k).1<13/\(pM k).2<13:=by decide
def Cj(ns:LN)(st:List (LN)×Nat)(p:Nat×Nat):List (LN)×Nat:=cond (fF (iU st.1 p) 2 && jG st.2 ns.length) (pD st.1 p.1 p.2 (ns.getD st.2 0),st.2+1) st
def VIS:List (Nat×Nat):=[12,10,8,6,4,2].flatMap λright=>(aJ 13).flatMap λv=>(aJ 2).map λz=>(Jx right v,right - z)
theorem Ig{f g:β->α->β}(h:∀b a,f b a=g b a)(l:List α)(b:β):l.foldl f b=l.foldl g b:=by rw[show f=g from funext λb=>funext λa=>h b a]
theorem adk(ns:LN)(b8:List (LN)):IV ns b8=VIS.foldl (Cj ns) (b8,0):=by
 delta VIS
 rw[Un];show Ig (λst right=>?_) _ _;rw[Un];show Ig (λst v=>?_) _ _;show Ig (λst z=>rfl) _ _
theorem afX:VIS.Nodup:=by decide
theorem aiz:∀p∈VIS,p.1<13/\p.2<13:=by decide
def two(b8:List (LN))(p:Nat×Nat):Bool:=fF (iU b8 p) 2
theorem JL:VIS.filter (two (mG PM 8))=jb:=by rfl
theorem So(ns:LN)(aP:List (Nat×Nat)):∀(b8:List (LN)) (i:Nat),aP.Nodup->(∀p∈aP,p.1<13/\p.2<13)->Sq b8->i+(aP.filter (two b8)).length<=ns.length->
 (aP.foldl (Cj ns) (b8,i)).2=i+(aP.filter (two b8)).length/\Sq (aP.foldl (Cj ns) (b8,i)).1/\(∀p,p∉aP->iU (aP.foldl (Cj ns) (b8,i)).1 p=iU b8 p)/\
 ∀k,k<(aP.filter (two b8)).length->iU (aP.foldl (Cj ns) (b8,i)).1 ((aP.filter (two b8)).getD k (0,0))=ns.getD (i+k) 0:=by
 induction aP with
 |nil=>intro b8 i _ _ hs _;show rR Z hs (λ_ _=>rfl) (λk hk=>absurd hk (rH _))
 |cons p aP iH=>
  intro b8 i hn D hs hl;have wm:=ru.mp hn;have hp:=D p au;show boC (two b8 p) (λe=>?_) λe=>?_
  .rw [EF e]at hl ⊢;dsimp only[oO]at hl;have e1:Cj ns (b8,i) p=(pD b8 p.1 p.2 (ns.getD i 0),i+1):=by
    delta Cj
    have e:fF (iU b8 p) 2=N:=e;have e':jG i ns.length=N:=Nat.ble_eq.mpr au;show e.symm▸e'.symm▸?_;rfl
   have afY:∀q,iU (pD b8 p.1 p.2 (ns.getD i 0)) q=if q=p then ns.getD i 0 else iU b8 q:=λq=>NK hs hp.1 hp.2
   have hf:aP.filter (two (pD b8 p.1 p.2 (ns.getD i 0)))=aP.filter (two b8):=List.filter_congr λq hq=>by
    delta two
    rw[afY,if_neg λw:q=p=>wm.1 (w▸hq)]
   show iw.symm▸e1.symm▸iK (iH (pD b8 p.1 p.2 (ns.getD i 0)) (i+1) wm.2 (λq hq=>D q bz) (tW hs) (by rw[hf];lia)) λa b c d=>?_;rw[hf]at a d;show rR (by rw[a,oO];show ye i (List.filter (two b8) aP).length) b (λq hq=>by rw[c q λh=>hq bz,afY,if_neg λw=>hq bz]) (λk hk=>?_);cases k with
   |zero=>change iU _ p=_;rw[c p wm.1,afY,if_pos Z,AW]
   |succ k=>change iU _ ((aP.filter (two b8)).getD k (0,0))=_;dsimp only[oO]at hk;rw[d k (Lg.mp hk),show i+1+k=i+(k+1) by lia]
  .have e1:Cj ns (b8,i) p=(b8,i):=by
    delta Cj
    have e:fF (iU b8 p) 2=ab:=e;show e.symm▸?_;rfl
   show iw.symm▸e1.symm▸?_;rw[EG (ne_true_of_eq_false e)]at hl ⊢;show iK (iH b8 i wm.2 (λq hq=>D q bz) hs hl) λa b c d=>rR a b (λq hq=>c q λh=>hq bz) d
theorem afZ:Sq (mG PM 8):=⟨rfl,by decide⟩
theorem placed(h:ns.length=80):(IV ns (mG PM 8)).2=80/\Sq (IV ns (mG PM 8)).1/\∀k,k<80->iU (IV ns (mG PM 8)).1 (pM k)=ns.getD k 0:=by have:=So ns VIS (mG PM 8) 0 afX aiz afZ (by rw[JL,pZ,h];decide);rw[JL,pZ,<-adk]at this;show iK this λa b _ d=>gT (by simpa using a) b (λk hk=>by have:=d k hk;rw[qq]at this;show this)
noncomputable def w8(f:Nat->Nat):Nat:=(aJ 8).foldl (λwd b=>2 * wd+f b) 0
theorem Qk{f g:Nat->Nat}(h:∀b,b<8->f b=g b):w8 f=w8 g:=by
 delta w8
 dsimp only[aJ,VY,yd];rw[h 0 bu,h 1 bu,h 2 bu,h 3 bu,h 4 bu,h 5 bu,h 6 bu,h 7 bu]
theorem aiA{f:Nat->Nat}(h:∀b,b<8->f b<2):w8 f<256:=by
 delta w8
 dsimp only[aJ,VY,yd];show nA4 (m:=128) (nA4 (m:=64) (nA4 (m:=32) (nA4 (m:=16) (nA4 (m:=8) (nA4 (m:=4) (nA4 (m:=2) (nA4 (m:=1) yk (h 0 bu)) (h 1 bu)) (h 2 bu)) (h 3 bu)) (h 4 bu)) (h 5 bu)) (h 6 bu)) (h 7 bu)
theorem XG:∀wd,wd<256->w8 (λb=>wd / 2 ^ (7 - b) % 2)=wd:=by decide
theorem aac(d:α)(l:List α)(a:Nat)(h:a+8<=l.length):(l.drop a).take 8=(aJ 8).map λb=>l.getD (a+b) d:=by show Uq jM λi h1 h2=>?_;simp at h1 h2;rw[List.getElem_take,List.getElem_drop,List.getElem_map,List.getElem_range,da,dF au];rfl
theorem Ql{p:Nat}(hp:p<10):G4 pic p=w8 λb=>iU pic (pM (8 * p+b)):=by
 delta G4 w8
 rw[aac (0,0) jb (8 * p) (by rw[pZ];lia),KW];rfl
theorem aad(h:sent.length=80){p:Nat}(hp:p<10):Jo sent (8 * p)=w8 λb=>sent.getD (8 * p+b) 0:=by
 delta Jo w8
 rw[aac 0 sent (8 * p) au,KW]
theorem sr(wd:Nat)(l:LN):dJ (wd::l)=n9 wd++dJ l:=by
 have:∀(l m:LN),l.foldl (λl wd=>l++n9 wd) m=m++l.foldl (λl wd=>l++n9 wd) []:=by
  intro l;induction l with
  |nil=>intro m;simp
  |cons a l ih=>intro m;simp
 delta dJ
 simp
theorem Ih(l m:LN):dJ (l++m)=dJ l++dJ m:=by
 induction l with
 |nil=>rfl
 |cons a l ih=>rw[EO,sr,sr,ih,AJ]
theorem C4(wd:Nat):(n9 wd).length=8:=by rfl
theorem XH(cs:LN)(b:Nat):∀(k:Nat),k<cs.length->b<8->(dJ cs).getD (8 * k+b) 0=cs.getD k 0 / 2 ^ (7 - b) % 2:=by
 induction cs with
 |nil=>show λk h=>(rH k h).elim
 |cons wd cs iH=>
  intro k hk D;cases k with
  |zero=>
   rw[sr,da,u7 (by rw[C4];show AP D)]
   delta n9
   rw[show 8 * 0+b=b by simp,cZ,oM D];rfl
  |succ k=>rw[sr,da,xZ (by rw[C4];lia),C4,show 8 * (k+1)+b - 8=8 * k+b by lia,<-da,iH k (by simpa using hk) D];rfl
theorem vW(hl:cs.length=10)(D:∀x∈cs,x<256):zU (dJ cs)=cs:=by
 show Ic (by simp[zU,hl]) λi hi=>?_;simp[zU]at hi
 delta zU
 rw[da,cZ,oM hi];change Jo _ _=_;rw[aad (by rw[pY,hl]) hi,Qk (g:=λb=>cs.getD i 0 / 2 ^ (7 - b) % 2) λb D=>XH cs b i au D,XG _ (jc D i)]
end iN
namespace iN
def inR(aM:List Int)(c:Nat)(p:Nat×Nat):Prop:=vO aM<=p.1/\(p.1:Int)<(vO aM:Int)+Rq aM c/\l7 aM<=p.2/\p.2<l7 aM+qN aM
theorem JM(h:Sq pic)(p:Nat×Nat):iU (zW aM c pic) p=iU pic p\/(inR aM c p/\iU (zW aM c pic) p=1):=by
 have OD:∀(l:LN) (i:Nat) (pic:List (LN)),i<13->(∀j∈l,j<13)->Sq pic->iU (l.foldl (λpic j=>pD pic i j 1) pic) p=iU pic p\/(p.1=i/\p.2∈l/\iU (l.foldl (λpic j=>pD pic i j 1) pic) p=1):=by
  intro l;induction l with
  |nil=>intro i pic _ _ _;show ak Z
  |cons j l ih=>
   intro i pic hi hj hs;dsimp only[iw];show bc (ih i (pD pic i j 1) hi (λj hj'=>hj j bz) (tW hs)) (λe=>?_) λi0=>ie i0 λe1 e2 e3=>aw (gT e1 bz e3);rw[e];rw[show iU (pD pic i j 1) p=if p=(i,j) then 1 else iU pic p from(NK (q:=p) (v:=1) (p:=(i,j)) hs hi (hj j bz))];by_cases q:p=(i,j)
   .rw [if_pos q];show aw ⟨congrArg _ q,by rw[q];lia,rfl⟩
   .rw [if_neg q];show ak Z
 have aeY:∀(rs l:LN) (pic:List (LN)),(∀i∈rs,i<13)->(∀j∈l,j<13)->Sq pic->Sq (rs.foldl (λpic i=>l.foldl (λpic j=>pD pic i j 1) pic) pic)/\
  (iU (rs.foldl (λpic i=>l.foldl (λpic j=>pD pic i j 1) pic) pic) p=iU pic p\/(p.1∈rs/\p.2∈l/\iU (rs.foldl (λpic i=>l.foldl (λpic j=>pD pic i j 1) pic) pic) p=1)):=by
  intro rs l;induction rs with
  |nil=>intro pic _ _ hs;show⟨hs,ak Z⟩
  |cons i rs ih=>
   intro pic hi hj hs;have zO:Sq (l.foldl (λpic j=>pD pic i j 1) pic):=by
    have:∀(l:LN) (pic:List (LN)),Sq pic->Sq (l.foldl (λpic j=>pD pic i j 1) pic):=by
     intro l;induction l with
     |nil=>intro pic h;show h
     |cons j l ih=>intro pic h;show ih _ (tW h)
    show this l pic hs
   dsimp only[iw];show eZ (ih _ (λi hi'=>hi i bz) hj zO) λa b=>(⟨a,?_⟩);show bc b (λb=>?_) λi0=>ie i0 λb1 b2 b3=>aw (gT bz b2 b3);rw[b];show bc (OD l i pic (hi i bz) hj hs) (λe=>ak e) λi0=>ie i0 λe1 e2 e3=>aw (gT bz e2 e3)
 have D:∀(t:Nat) (cA:Int),∀i∈(aJ (uE t cA)).map (t+·),i<13/\t<=i/\(i:Int)<t+cA:=λt cA i hi=>by
  show bg (bG.mp hi) λk hk dX=>dX▸?_;have hk:=dm.mp hk;unfold uE Rt at hk;split at hk
  .show ⟨nD1 (by assumption) hk Z,iW ..,(Int.natCast_add t k).symm▸Int.add_lt_of_lt_sub_left (ED.mp hk)⟩
  .show ⟨nD2 hk Z,iW ..,T2 (sT.mpr (nD2 hk Z)) (Int.not_lt.mp (by assumption))⟩
 have:=(aeY ((aJ (uE (vO aM) (Rq aM c))).map (vO aM+·)) ((aJ (uE (l7 aM) (qN aM))).map (l7 aM+·)) pic (λi hi=>(D _ _ i hi).1) (λj hj=>(D _ _ j hj).1) h).2;show bc this (λe=>ak e) λi0=>ie i0 λe1 e2 e3=>have k1:=D _ _ _ e1;have k2:=D _ _ _ e2;aw ⟨(rR k1.2.1 k1.2.2 k2.2.1 au),e3⟩
theorem aiB(aM:List Int):∀i,(GZ aM i).Nodup
 | 0=>x9
 |i+1=>Fn _ x9
theorem oi{p:Nat}(hp:p<10)(hk:p∉yN aM c)(b:Nat)(D:b<8):¬inR aM c (pM (8 * p+b)):=by
 show λq=>iK q λh1 h2 h3 h4=>?_;unfold yN at hk;cases q:uo aM c with
 |zero=>rw[q]at hk;show hk (dm.mpr hp)
 |succ i=>
  rw[q]at hk;rw[(by delta Rq;rw[q];lia:Rq aM c=(kQ aM:Int) - i)]at h2;show hk (gu.mpr ⟨dm.mpr hp,?_⟩);show decide_eq_true<|List.length_pos_of_mem (a:=[aj (pM (8 * p+b)).1,aj (pM (8 * p+b)).2]) (gu.mpr ⟨bG.mpr (cn (pM (8 * p+b)) ?_ Z),?_⟩)
  .rw [aac (0,0) jb (8 * p) (by rw[pZ];lia)];show bG.mpr (cn b (dm.mpr D) Z)
  .change ((gU .le _ _ && gU .lt _ _) && (gU .le _ _ && gU .lt _ _))=N;simp only[gU,qv,decide_eq_true_eq];show gT ⟨xW.mpr h1,h2⟩ (xW.mpr h3) (Int.lt_of_toNat_lt h4)
theorem aae{amount:Nat}(h:Sq pic)(hp:place<10)(h2:∀k,k<80->iU pic (pM k)<2):
 Sq (Jq place amount pic)/\(∀k,k<80->iU (Jq place amount pic) (pM k)<2)/\∀q,q<10->q≠place->∀b,b<8->iU (Jq place amount pic) (pM (8 * q+b))=iU pic (pM (8 * q+b)):=by
 have:∀(l:LN) (pic:List (LN)),(∀b∈l,b<8)->Sq pic->(∀k,k<80->iU pic (pM k)<2)->Sq (l.foldl (qO place amount) pic)/\(∀k,k<80->iU (l.foldl (qO place amount) pic) (pM k)<2)/\
  ∀q,q<10->q≠place->∀b,b<8->iU (l.foldl (qO place amount) pic) (pM (8 * q+b))=iU pic (pM (8 * q+b)):=by
  intro l;induction l with
  |nil=>intro pic _ hs h2;show gT hs h2 (λ_ _ _ _ _=>rfl)
  |cons b l ih=>
   intro pic hl hs h2;have D:=hl b bz;have v7:=afW (8 * place+b) au;have E:∀q,iU (qO place amount pic b) q=if q=pM (8 * place+b) then iU pic (pM (8 * place+b)) ^^^ (amount / 2 ^ (7 - b) % 2) else iU pic q:=λq=>NK hs v7.1 v7.2
   show ie (ih (qO place amount pic b) (λb D=>hl b bz) (tW hs) (λk hk=>by
    rw[E];split
    .show EZ (n:=1) (h2 _ au) (m9 _ bu)
    .show h2 k hk)) λa1 a2 a3=>gT a1 a2 (λq hq qI b' hb'=>?_)
   rw[iw,a3 q hq qI b' hb',E,if_neg λe=>?_];have:=aab (8 * q+b') au (8 * place+b) au e;lia
 show this (aJ 8) pic (λb D=>dm.mp D) h h2
theorem aaf(l:LN):∀(free:LN) (pic:List (LN)),(∀x∈free,x<10)->Sq pic->(∀k,k<80->iU pic (pM k)<2)->
 ∃T:LN,T.length=l.length/\(∀k,k<80->iU (l.foldl (pE aM) (free,pic)).2 (pM k)<2)/\∀q,q<10->q∉T->∀b,b<8->iU (l.foldl (pE aM) (free,pic)).2 (pM (8 * q+b))=iU pic (pM (8 * q+b)):=by
 induction l with
 |nil=>show λ_ _ _ _ h2=>kF [] rfl h2 (λ_ _ _ _ _=>rfl)
 |cons t l iH=>
  intro free pic hf hs h2;have Q9:free.getD (lr aM free t) 0<10:=by
   rw[da];cases q:free[lr aM free t]? with
   |none=>show(by decide:0<10)
   |some x=>show hf x (cY q)
  show ie (aae (amount:=tX aM t) hs Q9 h2) λa1 a2 a3=>gI (iH (free.eraseIdx (lr aM free t)) (Jq (free.getD (lr aM free t) 0) (tX aM t) pic) (λx E=>hf x (Ub E)) a1 a2) λT b1 b2 b3=>kF (free.getD (lr aM free t) 0::T) (Nat.succ_inj.mpr b1) b2<|λq hq hT b D=>(b3 q hq (λh=>hT bz) b D).trans (a3 q hq (λe=>hT bz) b D)
theorem plain(hG:JK gen)(hl:data.length+gen.length=10)(hd:∀x∈data,x<256):
 let sent:=dJ (data++(gV wt zD gen (data++bZ gen.length 0) data.length).drop data.length)
 let pic:=(IV sent (mG PM 8)).1
 sent.length=80/\(IV sent (mG PM 8)).2=sent.length/\sent.take (dJ data).length=dJ data/\Sq pic/\
 (gen.length - (yN aM gen.length).length) / 2<=(BR (yN aM gen.length)).length/\(∀x∈oh (sE aM gen.length pic),x<256)/\
 (jN (cN 10) (ux (kP (cN 10) (fX (oh (sE aM gen.length pic)) gen.length) (yN aM gen.length))).now 10).length=(ux (kP (cN 10) (fX (oh (sE aM gen.length pic)) gen.length) (yN aM gen.length))).size/\
 Ε aM gen.length pic sent=N:=by
 intro sent pic;have hdb:∀x∈data++bZ gen.length 0,x<256:=λx E=>by
  rcases bY.mp E with h|h
  .show hd x h
  .rw [u9 h];decide
 have akQ:=λr (hr:r<gen.length)=>enc hG hd au hr;have jy:(data++(gV wt zD gen (data++bZ gen.length 0) data.length).drop data.length).length=10:=by rw[iu,AM,(by rw[xn,iu,ro,hl]:(gV wt zD gen (data++bZ gen.length 0) data.length).length=10)];lia
 have hcb:∀x∈data++(gV wt zD gen (data++bZ gen.length 0) data.length).drop data.length,x<256:=λx E=>bc (bY.mp E) (λh=>hd x h) λh=>(Sn (gen:=gen) hdb data.length) x (rq h);have Ii:sent=dJ (data++(gV wt zD gen (data++bZ gen.length 0) data.length).drop data.length):=rfl;have aiC:sent.take (dJ data).length=dJ data:=by rw[Ii,Ih,List.take_left]
 generalize xe:data++(gV wt zD gen (data++bZ gen.length 0) data.length).drop data.length=cs at *;have WL:sent.length=80:=by rw[Ii,pY,jy]
 show ie (placed WL) λp1 p2 p3=>?_;have p2:Sq pic:=p2;have p3:∀k,k<80->iU pic (pM k)=sent.getD k 0:=p3;have v7:∀k b,k<10->b<8->sent.getD (8 * k+b) 0=cs.getD k 0 / 2 ^ (7 - b) % 2:=λk b hk D=>by rw[Ii];show XH cs b k au D
 have akR:∀k,k<80->iU pic (pM k)<2:=λk hk=>by rw[p3 k hk,show k=8 * (k / 8)+k % 8 by lia,v7 _ _ (UA hk) au];show m9 _ bu
 generalize pic=pic at *;have CH:∀k,k<80->iU (zW aM gen.length pic) (pM k)<2:=λk hk=>by
  rcases JM p2 (pM k) (aM:=aM) (c:=gen.length) with e|⟨_,e⟩
  .rw [e];show akR k hk
  .rw [e];decide
 show gI (aaf (aM:=aM) (aJ ((gen.length - (yN aM gen.length).length) / 2)) (BR (yN aM gen.length)) (zW aM gen.length pic) (λx E=>dm.mp (gu.mp E).1) (CN p2) CH) λT t1 t2 t3=>?_;have t1:=t1.trans KQ;have aiD:∀p,p<10->p∉yN aM gen.length->p∉T->G4 (sE aM gen.length pic) p=cs.getD p 0:=λp hp hk hT=>by
  rw[Ql hp,Qk (g:=λb=>cs.getD p 0 / 2 ^ (7 - b) % 2) λb D=>?_,XG _ (jc hcb p)];show(t3 p hp hT b D).symm▸?_;rcases JM p2 (pM (8 * p+b)) (aM:=aM) (c:=gen.length) with e|⟨e,_⟩
  .show ((e).trans (p3 _ au)).trans (v7 p b hp D)
  .show absurd e (oi hp hk b D)
 have sf:(oh (sE aM gen.length pic)).length=10:=by rfl
 have μ:∀p,p<10->(oh (sE aM gen.length pic)).getD p 0=G4 (sE aM gen.length pic) p:=λp hp=>by
  delta oh
  rw[da,cZ,oM hp];rfl
 have aiE:∀x∈oh (sE aM gen.length pic),x<256:=λx E=>by show bg (bG.mp E) λp hp dX=>dX▸?_;have hp:=dm.mp hp;rw[Ql hp];show aiA λb D=>t2 _ au
 have hm:=mended (ws:=oh (sE aM gen.length pic)) (cs:=cs) (kn:=yN aM gen.length) (T:=T) (c:=gen.length) (by rw[sf];decide) (by rw[sf,jy]) aiE hcb (λr hr=>by show sf.symm▸hl▸?_;show akQ r hr) (aiB aM _) (by show sf.symm▸?_;show(WM aM _)) au ((zV aM gen.length).1) (λp hp qI=>by
  rw[μ p hp]at qI;show if q1:p∈yN aM gen.length then ak q1 else ?_
  show if q2:p∈T then aw q2 else ?_
  show absurd (aiD p hp q1 q2) qI)
 show⟨WL,by rw[p1,WL],aiC,p2,?_,aiE,hm.1,?_⟩
 .have h1:(aJ 10).length<=(yN aM gen.length++BR (yN aM gen.length)).length:=A8 x9 λx E=>by
   show if q:x∈yN aM gen.length then dc _ q else ?_
   show ew _ (gu.mpr ⟨E,?_⟩);rw[ve,Bool.eq_false_iff];intro h;show bg (KS.mp h) λy hy e=>?_;obtain⟨z,hz,rfl⟩:=bG.mp hy;have:aj z=aj x:=by simpa using e
   show q (V8 this▸hz)
  rw[KQ,iu]at h1;lia
 .delta Ε
  show hm.2.symm▸Ii.symm▸(vW jy hcb).symm▸decide_eq_true Z
end iN
structure Gr(n:Nat)(s Y:af):Prop where
 size:Y.heap.objs.size=s.heap.objs.size+n
 keep:uh s.heap Y.heap
 gens:Y.gens=s.gens
 drawn:Y.drawn=s.drawn
 os:Y.os=s.os
theorem Gr.refl(s:af):Gr 0 s s:=⟨rfl,λ_ _ e=>e,rfl,rfl,rfl⟩
theorem Gr.trans{m:Nat}{a b c:af}(x:Gr m a b)(y:Gr n b c):Gr (m+n) a c:=⟨by rw[y.size,x.size,lM],λd o e=>y.keep d o (x.keep d o e),y.gens.trans x.gens,y.drawn.trans x.drawn,y.os.trans x.os⟩
theorem Gr.toks{a b:af}(x:Gr n a b)(t:Nat):Gr n a {b with toks:=t}:=⟨x.size,x.keep,x.gens,x.drawn,x.os⟩
theorem Gr.push{a b:af}(x:Gr n a b)(o:bE):Gr (n+1) a {b with heap:=b.heap.push o}:=⟨by rw[dE,x.size,lM],λd p e=>a0 _ (x.keep d p e),x.gens,x.drawn,x.os⟩
theorem XI(X:(MC P t fd fd2).In h):gS M h (Bind.madeBy (R 135)) ai:=nt X (rfl)
theorem af0(X:(MC P t fd fd2).In h):gS M h (mroOf (R 135)) [R 135,ao "tuple",ao "object"]:=nt X (rfl)
theorem XJ(X:(MC P t fd fd2).In h):gS M h (rk (R 135) "__call__") (O (bB "type.__call__")):=nt X (rfl)
theorem adl(X:(MC P t fd fd2).In h):gS M h (oF (R 135) (R 135)) N:=nt X (rfl)
theorem af1(X:(MC P t fd fd2).In h):gS M h (oF (R 135) (ao "tuple")) N:=nt X (rfl)
theorem af2(X:(MC P t fd fd2).In h):gS M h (oF (R 135) (ao "object")) N:=nt X (rfl)
theorem af3(X:(MC P t fd fd2).In h):gS M h (ri (R 135) (ao "type")) N:=nt X (rfl)
theorem NN(X:(MC P t fd fd2).In h):gS M h (gw (R 135) "__init__") (O (bB "object.__init__")):=nt X (rfl)
theorem adm(X:(MC P t fd fd2).In h):gS M h (Bind.madeHere "tuple.__new__" (R 135)) ():=nt X bF
theorem aag:readsIn (MC P t fd fd2) 135 (ao "type")=N:=by ext
theorem af4:Fj (MC P t fd fd2) (R 135) (ao "type") "__new__" =O (CFound.get (bB "staticmethod.__get__") (R 136) ax (R 135)):=by ext
theorem aiF:recIn (MC P t fd fd2) 136 "staticmethod" =O [R 82]:=by ext
theorem af5(X:(MC P t fd fd2).In h):gS M h (classHasDel 135) ab:=nt X (rfl)
section
set_option backward.match.sparseCases true
noncomputable def Qm:bE:={cls:=ao "list",data:=bQ ([]:List aa).toArray}
theorem Qn{it:ae}{Q:List aa->af->Prop}(ho:s.heap.get? it=O o)(hc:o.cls=ao "tuple")(hd:o.data=bQ items n)(hz:items.size<=1000)(hQ:Q items.toList {s with heap:=(s.heap.push Qm).update s.heap.objs.size (dO (· ++items))}):aA (aE prog w) A (collect (R it)) Q aX s:=by
 have hS:(s.heap.push Qm).get? s.heap.objs.size=O {cls:=ao "list",data:=bQ #[] 0}:=bJ _ Z;have hsz:items.size<=fg:=by have:fg=16777216:=jU;lia
 have za:∀A',aA (aE prog w) A' (load s.heap.objs.size>>=λo=>match o.data with|bQ K _=>pure K.toList |_=>Eo "internal:collect") Q aX {s with heap:=(s.heap.push Qm).update s.heap.objs.size (dO (· ++items))}:=λA'=>by show ah<|jo (gQ (dO (· ++items)) hS Z)<|aB<|have e:((#[]:Array aa)++items)=items:=Vc;(?_:Q ((#[]:Array aa)++items).toList _);show e.symm▸hQ
 show ah<|Ka<|qg LX<|ah (ij (aB ⟨lI LZ _,qg Ft ?_⟩));have key:=wpAny_extend_seq (prog:=prog) (w:=w) (hsz:=hsz) (A:=A) (R:=λr Y=>r=bX (cG (R s.heap.objs.size))/\Y={s with heap:=(s.heap.push Qm).update s.heap.objs.size (dO (· ++items))})
  (s:={s with heap:=s.heap.push Qm}) s.heap.objs.size it _ 0 (aw Z) hS (a0 _ ho) hc hd ⟨rfl,rfl⟩
 show ir key (λr Y h=>?_) λe Y h=>absurd h.1 fH;cases r with
 |done f=>
  obtain⟨h1,h2⟩:=h;subst h2;cases h1
  show za _
 |again c=>show⟨h.1,codeAny_mono h.2 λr nJ hr=>?_⟩;obtain⟨h1,h2⟩:=hr;subst h1 h2;show za _
noncomputable def XM(dx:ae)(K:Array aa):bE:={cls:=R 135,dict:=O dx,data:=bQ K}
theorem Zl(X:(MC P t fd fd2).In h):gS M h (sH "tuple.__new__" ⟨[R 135,R a],[]⟩) ():=nt X bF
theorem Zm(X:(MC P t fd fd2).In h):gS M h (isType (R 135)) N:=nt X (rfl)
theorem af6{it:ae}(X:(MC P t fd fd2).In s.heap)(ho:s.heap.get? it=O o)(hc:o.cls=ao "tuple")(hd:o.data=bQ items n)(hz:items.size<=1000)(hQ:∀Y,Gr 3 s Y->Y.heap.get? (s.heap.objs.size+2)=O (XM (s.heap.objs.size+1) items)->Y.heap.get? (s.heap.objs.size+1)=O tD->Q (R (s.heap.objs.size+2)) Y):
 aA (aE prog w) A (call (bB "tuple.__new__") [R 135,R it]) Q aX s:=by
 show kT<|xG<|ah ((Zl X).here (aB ⟨lI VB _,qg VC ?_⟩));show ah<|(Zm X).here<|ah<|(af1 X).here<|ah<|(adm X).here<|ah<|(NN X).here<|ah<|fM (rfl)<|ah<|fM (rfl)<|ah (Qn ho hc hd hz (ah (aB ?_)));have hsz:((s.heap.push Qm).update s.heap.objs.size (dO (· ++items))).objs.size=s.heap.objs.size+1:=by rw[Heap.size_update,dE]
 have kk:∀b o,s.heap.get? b=O o->((s.heap.push Qm).update s.heap.objs.size (dO (· ++items))).get? b=O o:=λb o e=>(mn _ _ (oR (cj e))).trans (a0 _ e);generalize (s.heap.push Qm).update s.heap.objs.size (dO (· ++items))=h1 at hsz kk ⊢;have e1:(h1.push tD).objs.size=s.heap.objs.size+2:=by rw[dE,hsz]
 show ah (Ar (ah ?_));rw[newObj];rw[if_neg (by have:fg=16777216:=jU;simp;lia)];show ah<|Ar<|ah ((af5 ((X.keeps kk).keeps λb o e=>a0 _ (a0 _ e))).here ?_);show aB<|aB<|e1.symm▸hQ _ ⟨by rw[dE,e1],λb o e=>a0 _ (a0 _ (kk b o e)),rfl,rfl,rfl⟩ ?_ ?_
 .show hsz▸e1▸bJ _ Z
 .show hsz▸a0 _ (bJ _ Z)
end
structure Sr(P:cf)(t:Nat->ba)(fd fd2:cq)(h:aO):Prop where
 pI:(MC P t fd fd2).In h
 body:fd2.body=kZ (bh Dj)
 scope:fd2.scope=bf Dj
 params:fd2.params=fz Dj
 glob:fd2.globals=ef
 bi:fd2.builtins=gb
 clo:fd2.closure=[]
 dft:fd2.defaults=ax
 kwd:fd2.kwdefaults=ax
 aiG:h.CodeRec fd2.code fd2.qualname
 lim:h.NoLimit
 tup:∃mg mb,h.Ns ef mg/\h.Ns gb mb/\mg (aC "tuple")=ai/\mb (aC "tuple")=O (ao "tuple")
theorem Sr.keeps(x:Sr P t fd fd2 h)(k:uh h h'):Sr P t fd fd2 h':=
 ⟨x.pI.keeps k,x.body,x.scope,x.params,x.glob,x.bi,x.clo,x.dft,x.kwd,x.aiG.keeps k,(bg x.lim λmc wG ZT=>cn mc (wG.at' λo e=>k _ o e) ZT),(ju x.tup λmg mb a b c=>Oj mg mb (a.at' λo e=>k _ o e) (b.at' λo e=>k _ o e) c)⟩
theorem aah:Fj [] (ao "tuple") (ao "type") "__new__" =O (Mr (bB "tuple.__new__")):=by ext
theorem af7(X:Sr P t fd fd2 s.heap)(v0 v1 v2 v3:aa):dw fd2 ⟨[v0,v1,v2,v3],[]⟩=pure (([116,117,118,119].map NM).zip [v0,v1,v2,v3]):=by
 delta dw
 show X.params.symm▸X.dft.symm▸X.kwd.symm▸?_;rfl
theorem af8{e3:aG}(h1:cI e1=ab)(h2:cI e2=ab)(h3:cI e3=ab)(pos:cB):jV pos (jq [e1,e2,e3] J)=[(ab,a7 e1 J),(ab,a7 e2 J),(ab,a7 e3 J)]:=by rw[dp h1,dp h2,dp h3];rfl
def ecB(a b c:Int)(ta tb tc:ba):List (aV×aa):=([116,117,118,119].map NM).zip [R 135,ag a ta,ag b tb,ag c tc]
noncomputable def Ss(a b c:Int)(ta tb tc:ba):Array aa:=#[ag a ta,ag b tb,ag c tc]
def C5(A:b9)(s:af)(P:cf)(t:Nat->ba)(fd:cq)(fd2:cq)(a:Int)(b:Int)(c:Int)(ta:ba)(tb:ba)(tc:ba)(aN:sO->af->Prop):Prop:=∀(X:Sr P t fd fd2 s.heap) (bK:A.depth<900) (hR:∀Y,Gr 5 s Y->Y.heap.get? (s.heap.objs.size+4)=O (XM (s.heap.objs.size+3) (Ss a b c ta tb tc))->Y.heap.get? (s.heap.objs.size+3)=O tD->aN (bX (cG (R (s.heap.objs.size+4)))) Y),oH (aE prog w) A (ng (R 82) ⟨[R 135,ag a ta,ag b tb,ag c tc],[]⟩) aN s
def Ij(c:(((b9×af)×(cf×(Nat->ba)))×((cq×cq)×Int))×(((Int×Int)×ba)×((ba×ba)×(sO->af->Prop)))):Prop:=C5 c.1.1.1.1 c.1.1.1.2 c.1.1.2.1 c.1.1.2.2 c.1.2.1.1 c.1.2.1.2 c.1.2.2 c.2.1.1.1 c.2.1.1.2 c.2.1.2 c.2.2.1.1 c.2.2.1.2 c.2.2.2
def iq:=Iz Ij inferInstance
def mM:=iq.1.1.1.2
def su:=iq.1.2.1.2
def qZ:=iq.1.2.2
def nX:=iq.2.1.1.1
def rb:=iq.2.1.1.2
def nF:=iq.2.1.2
def nG:=iq.2.2.1.1
def nH:=iq.2.2.1.2
def af9:=iq.2.2.2
theorem aai:C5 iq.1.1.1.1 mM iq.1.1.2.1 iq.1.1.2.2 iq.1.2.1.1 su qZ nX rb nF nG nH af9:=λX bK hR=>by
 show JX au (X.pI 82 _ Z) Z (by rw[X.scope];rfl) (by rw[X.scope];rfl) X.body X.aiG ?_;rw[af7 X];show aB (An (by rw[X.scope];decide) (λx E=>?_) (λOv wG v7=>⟨X.lim.fresh _ v7,Ke ?_⟩) (by rw[X.scope];rfl))
 .show bg (bG.mp (sW (show(x.1,x.2)∈_ from E)).1) λy hy e=>X.scope.symm▸e▸?_;have:∀y∈[116,117,118,119],(bf Dj).names.lookup (NM y)=O cU:=by decide
  show this y hy
 have g1:Gr 1 mM {mM with heap:=Ov,toks:=mM.toks+(ecB qZ nX rb nF nG nH).length}:=⟨by rw[v7.1,dE],λnX o e=>v7.extBut nX o (fE (cj e)) (a0 _ e),rfl,rfl,rfl⟩
 have es1:({mM with heap:=Ov,toks:=mM.toks+(ecB qZ nX rb nF nG nH).length}:af)={mM with heap:=Ov,toks:=mM.toks+(([116,117,118,119].map NM).zip [R 135,ag qZ nF,ag nX nG,ag rb nH]).length}:=rfl;show es1▸?_;generalize hs1:({mM with heap:=Ov,toks:=mM.toks+(ecB qZ nX rb nF nG nH).length}:af)=s1 at g1 ⊢;show og λgG kG=>?_;obtain⟨mg,mb,hmg,hmb,t1,t2⟩:=(X.keeps g1.keep).tup;show kG ?_;clear kG gG;generalize adn:newEnv su.scope mM.heap.objs.size su.globals su.closure (su.qualname++aC ".<locals>.") (O 82) su.code ai su.builtins=J;have esc:J.scope=bf Dj:=by subst adn;show X.scope
 have ek:J.scope.kind=dZ:=by rw[esc];rfl
 have name:∀(y:Nat) (v:aa) (pos:cB) (s2:af) (Q:aa->af->Prop),J.kindOf (NM y)=O cU->(ecB qZ nX rb nF nG nH).reverse.lookup (NM y)=O v->s2.heap.Ns mM.heap.objs.size (λx=>(ecB qZ nX rb nF nG nH).reverse.lookup x)->Q v s2->∀A' E',aA (aE prog w) A' (a7 (aq (NM y) pos) J) Q E' s2:=λy v pos s2 Q hl hv hn hq A' E'=>
  rg (xw ek hl ((by rw[<-adn];rfl:J.locals=mM.heap.objs.size).symm▸hn) hv hq) (wA y)
 have kinds:∀y∈[116,117,118,119],J.kindOf (NM y)=O cU:=λy hy=>by
  delta j7
  rw[esc];have:∀y∈[116,117,118,119],(bf Dj).names.lookup (NM y)=O cU:=by decide
  show this y hy
 show uS (wpAny_Expr (Ea (uS (xC ?_))) (by delta iG;rw[ek];rfl) Z);have g2:=g1.toks (s1.toks+1);generalize hs2:({s1 with toks:=s1.toks+1}:af)=s2 at g2 ⊢;have akS:s2.heap.Ns mM.heap.objs.size (λx=>(ecB qZ nX rb nF nG nH).reverse.lookup x):=by rw[<-hs2];show(by rw[<-hs1];show wG)
 show uu Z (rfl) (rfl) (rg (mO ek (by delta j7;rw[esc];decide+kernel) ((by rw[<-adn];show X.glob:J.globals=ef)▸(by rw[<-hs2];show hmg)) ((by rw[<-adn];show X.bi:J.builtins=gb)▸(by rw[<-hs2];show hmb)) t1 t2 λpl=>h_ aah Z ?_) (rfl));have g3':=g2.toks (s2.toks+1);generalize B_:({s2 with toks:=s2.toks+1}:af)=s3 at g3' ⊢;have sh:s3.heap.Ns mM.heap.objs.size (λx=>(ecB qZ nX rb nF nG nH).reverse.lookup x):=by subst B_;show akS
 show U5 (rfl) ?_;rw[HI (rfl) (rfl)];show LL (rM (name 116 (R 135) _ _ _ (kinds 116 (nme Z)) Z sh ?_ _ _));show rM<|En<|rM (name 117 (ag qZ nF) _ _ _ (kinds 117 (nme Z)) Z sh ?_ _ _);show rM (name 118 (ag nX nG) _ _ _ (kinds 118 (nme Z)) Z sh ?_ _ _);show rM (name 119 (ag rb nH) _ _ _ (kinds 119 (nme Z)) Z sh ?_ _ _);show aB ⟨by have:fg=16777216:=jU;simp;lia,aB ?_⟩;show af6 (n:=0) ((X.keeps g3'.keep).pI.keeps λnX o e=>a0 _ e) (bJ _ Z) Z Z bu λs4 g4 h1 h2=>?_;have e3:(s3.heap.push ({cls:=ao "tuple",data:=bQ ([ag qZ nF,ag nX nG,ag rb nH]:List aa).toArray}:bE)).objs.size=mM.heap.objs.size+2:=by rw[dE,g3'.size]
 rw[e3]at h1 h2;show e3.symm▸hR s4 ((g3'.push {cls:=ao "tuple",data:=bQ ([ag qZ nF,ag nX nG,ag rb nH]:List aa).toArray}).trans g4) h1 h2
theorem ado{a:Int}{b:Int}{c:Int}{ta:ba}:C5 A s P t fd fd2 a b c ta tb tc aN:=hen (P:=Ij) aai ((((A,s),(P,t)),((fd,fd2),a)),(((b,c),ta),((tb,tc),aN)))
theorem aiH{x:ae}{v1 v2 v3:aa}{Q:kU->af->Prop}(X:(MC P t fd fd2).In s.heap)(t1:gS (aE prog w) s.heap (xT (R x)) (R 135))(h:Q (nu (cG ax)) s):aA (aE prog w) A (Builtin.«object.__init__» ⟨[R x,v1,v2,v3],[]⟩) Q aX s:=by
 delta Builtin.«object.__init__»
 show ah<|t1.here<|ah<|(NN X).here<|ah<|(XI X).here<|aB h
def C6(A:b9)(aX:aa->af->Prop)(s:af)(P:cf)(t:Nat->ba)(fd:cq)(fd2:cq)(a:Int)(b:Int)(c:Int)(ta:ba)(tb:ba)(tc:ba)(Q:aa->af->Prop):Prop:=∀(X:Sr P t fd fd2 s.heap) (bK:A.depth<800) (hQ:∀Y,Gr 5 s Y->Y.heap.get? (s.heap.objs.size+4)=O (XM (s.heap.objs.size+3) (Ss a b c ta tb tc))->Y.heap.get? (s.heap.objs.size+3)=O tD->Q (R (s.heap.objs.size+4)) Y),aA (aE prog w) A (call (R 135) [ag a ta,ag b tb,ag c tc]) Q aX s
def Ik(c:(((b9×(aa->af->Prop))×(af×cf))×(((Nat->ba)×cq)×cq))×(((Int×Int)×(Int×ba))×((ba×ba)×(aa->af->Prop)))):Prop:=C6 c.1.1.1.1 c.1.1.1.2 c.1.1.2.1 c.1.1.2.2 c.1.2.1.1 c.1.2.1.2 c.1.2.2 c.2.1.1.1 c.2.1.1.2 c.2.1.2.1 c.2.1.2.2 c.2.2.1.1 c.2.2.1.2 c.2.2.2
def ib:=Iz Ik inferInstance
def Su:=ib.1.1.1.1
def qe:=ib.1.1.2.1
def C7:=ib.2.1.1.1
def C8:=ib.2.1.1.2
def C9:=ib.2.1.2.1
def yZ:=ib.2.1.2.2
def y0:=ib.2.2.1.1
def y7:=ib.2.2.1.2
theorem aaj:C6 Su ib.1.1.1.2 qe ib.1.1.2.2 ib.1.2.1.1 ib.1.2.1.2 ib.1.2.2 C7 C8 C9 yZ y0 y7 ib.2.2.2:=λX bK hQ=>by
 have hC:=X.pI 135 _ Z;show kT (xG ?_);change aA _ _ (callAny (R 135) ⟨[ag C7 yZ,ag C8 y0,ag C9 y7],[]⟩) _ _ qe;dsimp only[callAny];show ah (jo hC ?_);change aA _ _ (VW (R 135) _) _ _ _;unfold VW;show ah ((XJ X.pI).here ?_);dsimp only;rw[tc_bind];show ah (aB (ah (aB ?_)));show aB (a:=yB (ng (bB "type.__call__") ⟨R 135::[ag C7 yZ,ag C8 y0,ag C9 y7],[]⟩)) (FL Z (xG ?_));change aA _ Su.in1 (do sH "type.__call__" ⟨R 135::[ag C7 yZ,ag C8 y0,ag C9 y7],[]⟩;again (fG "type.__call__" ⟨R 135::[ag C7 yZ,ag C8 y0,ag C9 y7],[]⟩)) _ _ qe;show ah (U0 tc_kind tc_split (af3 X.pI) (U2 _ _ _) (aB ⟨AZ _ (by decide+kernel),qg entry_typeCall ?_⟩));unfold Builtin.«type.__call__»;dsimp only;rw[if_neg (show¬((R 135==ao "type")=N) from Bool.false_ne_true)];show ah ((af0 X.pI).here ?_);rw[if_neg aL];show ah ((XI X.pI).here ?_);dsimp only;show ah (cls_bind X.pI aag af4 (kT (sm_get X.pI aiF (handed_on (by decide+kernel) ?_))));have g0:=(Gr.refl qe).toks (qe.toks+1);generalize XF:({qe with toks:=qe.toks+1}:af)=s0 at g0 ⊢;have X0:=X.keeps g0.keep;have e0:s0.heap.objs.size=qe.heap.objs.size:=g0.size;show ah (cQ (kT (ado X0 ?_ λs5 g5 h1 h2=>?_)))
 .change Su.depth+1<900;lia
 rw[e0]at h1 h2 ⊢;have g:=g0.trans g5;have X5:=X.keeps g.keep;have t1:gS (aE prog w) s5.heap (xT (R (qe.heap.objs.size+4))) (R 135):=(Fm h1).andThen vk;have t2:gS (aE prog w) s5.heap (ri (R (qe.heap.objs.size+4)) (R 135)) N:=t1.andThen (adl X5.pI);have t3:gS (aE prog w) s5.heap (rk (R (qe.heap.objs.size+4)) "__init__") (O (bB "object.__init__")):=t1.andThen (NN X5.pI);have t4:gS (aE prog w) s5.heap (ri (R (qe.heap.objs.size+4)) (ao "object")) N:=t1.andThen (af2 X5.pI);show ah (t2.here ?_);rw[if_neg aL];show ah (cQ ?_);unfold xI;show ah (t3.here ?_);dsimp only;show cQ (ah (fM (PySem.W.oi_bind _) ?_));show ah (kT (xy oi_plain entry_oi (@LJ (aE prog w) _ _ _ "object.__init__" "object" "__init__" (R (qe.heap.objs.size+4)) [ag C7 yZ,ag C8 y0,ag C9 y7] [] _ oi_kind oi_split t4 (by unfold jW;ext) ?_)));show aiH X5.pI t1 ?_;show aB ?_;change aA _ _ (if(ax != ax)=N then _ else _) _ _ _;rw[if_neg aL];show aB (hQ _ g h1 h2)
theorem adp{a:Int}{b:Int}{c:Int}{ta:ba}:C6 A aX s P t fd fd2 a b c ta tb tc Q:=hen (P:=Ik) aaj ((((A,aX),(s,P)),((t,fd),fd2)),(((a,b),(c,ta)),((tb,tc),Q)))
set_option genCtorIdx true in
set_option genInjectivity true in
inductive MK where
 |none
 |int(i:Int)
 |str(x:aV)
deriving DecidableEq
noncomputable def MK.is:MK->aa->Bool
 | .none,ax=>N
 | .int i,ag j _=>j==i
 | .str x,cO y _=>y==x
 |_,_=>ab
theorem qR{k:MK}(h:k.is v=N):(k= .none/\v=ax)\/(∃i t,k= .int i/\v=ag i t)\/∃x t,k= .str x/\v=cO x t:=by
 cases k<;>cases v<;>first|(simp[MK.is]at h)|skip
 .show ak ⟨rfl,rfl⟩
 .subst h;show aw (ak (kH _ _ Z Z))
 .subst h;show aw (aw (kH _ _ Z Z))
noncomputable def MK.of:aa->Option MK
 |ax=>O .none
 |ag i _=>O (.int i)
 |cO x _=>O (.str x)
 |_=>eV
theorem Il{k:MK}(h:k.is v=N):MK.of v=O k:=
 (qR h).elim (λi=>i.1▸i.2▸rfl) λi=>i.elim (λi=>eS i λ_ _ a b=>a▸b▸rfl) λi=>eS i λ_ _ a b=>a▸b▸rfl
def MK.hash(w:fh):MK->Int
 | .none=>reduceHash 4238894112
 | .int i=>hashInt i
 | .str x=>hashStr w x
theorem adq{k:MK}{Q:Int->af->Prop}(h:k.is v=N)(hQ:Q (k.hash w) {s with toks:=s.toks+1}):aA (aE prog w) A (pyHash v) Q aX s:=by
 rcases qR h with⟨rfl,rfl⟩|⟨i,t,rfl,rfl⟩|⟨x,t,rfl,rfl⟩
 .show pyHash_slot Z PySem.F.slot_NoneType_hash PySem.F.entry_NoneType_hash (PySem.F.args_NoneType_hash_1 _) (beq_builtin_none _) (ak Z) (ah (aB (ah (Kj (aB (kH _ _ Z hQ))))))
 .show wpAny_pyHash_int hQ
 .show wpAny_pyHash_str hQ
theorem Dc{u:aa}{b:Bool}{Q:Bool->af->Prop}(qI:(u==v)=ab)(hf:∀x t,u≠Value.float x t)(h:∀Q':aa->af->Prop,Q' (c9 b) s->aA (aE prog w) A (Eu Bg u v) Q' aX s)(hQ:Q b s):aA (aE prog w) A (eqBool u v) Q aX s:=by show cQ ?_;rw[if_neg (by rw[qI];decide)];cases u<;>first|show(ah (h _ (me hQ)))|show absurd Z (hf _ _)
theorem aiI{a b:MK}{u:aa}{Q:Bool->af->Prop}(ha:a.is u=N)(D:b.is v=N)(hQ:Q (decide (a=b)) s):aA (aE prog w) A (eqBool u v) Q aX s:=by
 rcases qR ha with⟨rfl,rfl⟩|⟨i,t,rfl,rfl⟩|⟨x,t,rfl,rfl⟩<;>rcases qR D with⟨rfl,rfl⟩|⟨j,t',rfl,rfl⟩|⟨y,t',rfl,rfl⟩
 .show cQ (ah (mU (aB hQ)))
 .show Dc (rfl) (λ_ _=>by nofun) (λQ' q=>EqNone.eq_none_int q) hQ
 .show Dc (rfl) (λ_ _=>by nofun) (λQ' q=>EqNone.eq_none_str q) hQ
 .show Dc (rfl) (λ_ _=>by nofun) (λQ' q=>EqNone.eq_int_none q) hQ
 .show wpAny_eqBool_int ?_;have:decide (MK.int i=MK.int j)=(i==j):=by
   by_cases e:i=j
   .show e▸?_;simp
   .rw [beq_eq_false_iff_ne.mpr e];show decide_eq_false λq=>e (MK.int.inj q)
  show this▸hQ
 .show Dc (rfl) (λ_ _=>by nofun) (λQ' q=>EqMixed.eq_int_str q) hQ
 .show Dc (rfl) (λ_ _=>by nofun) (λQ' q=>EqNone.eq_str_none q) hQ
 .show Dc (rfl) (λ_ _=>by nofun) (λQ' q=>EqMixed.eq_str_int q) hQ
 .show wpAny_eqBool_str ?_;have:decide (MK.str x=MK.str y)=decide (x=y):=by
   by_cases e:x=y
   .skip;simp
   .rw [decide_eq_false e];show decide_eq_false λq=>e (MK.str.inj q)
  show this▸hQ
def d0:KeyKind prog w MK where
 is:=MK.is
 hash:=MK.hash w
 inj v a b ha D:=aW ((Il ha).symm.trans (Il D))
 byValue k v h:=by rcases qR h with⟨rfl,rfl⟩|⟨i,t,rfl,rfl⟩|⟨x,t,rfl,rfl⟩<;>rfl
 pyHash:=adq
 eqBool:=aiI
 «strs» k x t v h:=aW (Il h)▸(by cases v<;>rfl)
def M2{α:Type}(aN:α->aa->Prop)(iB:List (MK×aa))(sp:List (MK×α)):Prop:=iB.length=sp.length/\∀(j:Nat) k v k' a,iB[j]? =O (k,v)->sp[j]? =O (k',a)->k=k'/\aN a v
section
variable{aN R':α->aa->Prop}{iB rW:List (MK×aa)}{sp sp':List (MK×α)}
theorem M2.nil:M2 aN [] []:=⟨rfl,λj k v k' a e=>by ext⟩
theorem M2.mono(x:M2 aN iB sp)(h:∀a v,aN a v->R' a v):M2 R' iB sp:=⟨x.1,λj k v k' a e1 e2=>⟨(x.2 j k v k' a e1 e2).1,h a v (x.2 j k v k' a e1 e2).2⟩⟩
theorem M2.app(x:M2 aN iB sp)(y:M2 aN rW sp'):M2 aN (iB++rW) (sp++sp'):=⟨by rw[iu,iu,x.1,y.1],λj k v k' a e1 e2=>by
 rcases mq j iB.length with h|h
 .rw [u7 h]at e1;rw[u7 (x.1▸h)]at e2;show x.2 j k v k' a e1 e2
 .rw [xZ h]at e1;rw[xZ (x.1▸h),<-x.1]at e2;show y.2 _ k v k' a e1 e2⟩
theorem M2.one{k:MK}{a:α}(h:aN a v):M2 aN [(k,v)] [(k,a)]:=⟨rfl,λj k1 v1 k' a' e1 e2=>by
 cases j with
 |zero=>obtain⟨rfl,rfl⟩:=tI (aW e1);obtain⟨rfl,rfl⟩:=tI (aW e2);show⟨rfl,h⟩
 |succ j=>show Bj (by assumption)⟩
theorem M2.cons{k:MK}{a:α}(h:aN a v)(x:M2 aN iB sp):M2 aN ((k,v)::iB) ((k,a)::sp):=(M2.one h).app x
theorem M2.keys(x:M2 aN iB sp):iB.map (·.1)=sp.map (·.1):=EK λj=>by
 rw[cZ,cZ];rcases mq j iB.length with h|h
 .have h':=x.1▸h;rw[dF h,dF h'];show congrArg O (x.2 j _ _ _ _ (dF h) (dF h')).1
 .rw [rp h,rp (x.1▸h)];rfl
end
noncomputable abbrev Sp(α:Type):=MK×α×Nat
noncomputable def jg{α:Type}(l:List (Sp α)):List (MK×α):=l.map λx=>(x.1,x.2.1)
noncomputable def zE{α:Type}:List (Sp α)->Nat
 | []=>0
 |x::l=>x.2.2+zE l
def PW{α:Type}(W:aI aa×aI aa->Sp α->Prop):List (aI aa×aI aa)->List (Sp α)->Prop
 | [],[]=>True
 |p::ps,x::K=>W p x/\PW W ps K
 |_,_=>False
theorem PW.mono{W W':aI aa×aI aa->Sp α->Prop}(h:∀p x,W p x->W' p x){ps:List (aI aa×aI aa)}:∀{K:List (Sp α)},PW W ps K->PW W' ps K:=by
 induction ps with
 |nil=>intro K;cases K<;>show id
 |cons p ps ih=>
  intro K;cases K with
  |nil=>show id
  |cons x K=>show λq=>⟨h _ _ q.1,ih q.2⟩
theorem PW.len{α:Type}{W:aI aa×aI aa->Sp α->Prop}:∀{ps:List (aI aa×aI aa)} {K:List (Sp α)},PW W ps K->ps.length=K.length
 | [],[],_=>rfl
 |_::_,_::_,⟨_,b⟩=>by rw[oO,oO,PW.len b]
 | [],_::_,e=>e.elim
 |_::_,[],e=>e.elim
structure Rel(α:Type) where
 aN:Nat->aO->α->aa->Prop
 mono:∀lo h h' a v,(∀b o,lo<=b->h.get? b=O o->h'.get? b=O o)->aN lo h a v->aN lo h' a v
 down:∀lo lo' h a v,lo'<=lo->aN lo h a v->aN lo' h a v
def xo{α:Type}(r:Rel α)(aK:af)(p:aI aa×aI aa)(x:Sp α):Prop:=
 ∀(A:b9) (aX:aa->af->Prop) (s:af) (lo:Nat) (Q:aa->aa->af->Prop),A.depth<700->(uh aK.heap s.heap)->lo<=s.heap.objs.size->
  (∀kv vv Y,Gr x.2.2 s Y->x.1.is kv=N->r.aN lo Y.heap x.2.1 vv->Q kv vv Y)->aA (aE prog w) A p.1 (λkv s1=>aA (aE prog w) A p.2 (λvv s2=>Q kv vv s2) aX s1) aX s
theorem xo.later{r:Rel α}{p:aI aa×aI aa}{x:Sp α}(h:xo r aK p x)(k:uh aK.heap aD.heap):xo r aD p x:=
 λA aX s lo Q ha hk=>h A aX s lo Q ha λb o e=>hk b o (k b o e)
section
variable{r:Rel α}
theorem aiJ(ha:A.depth<700){lo:Nat}(ps:List (aI aa×aI aa)):∀(K:List (Sp α)) (s:af) (Q:List (aa×aa)->af->Prop),PW (xo r aK) ps K->(uh aK.heap s.heap)->lo<=s.heap.objs.size->
 (∀vs iB Y,Carries (d0) vs iB->M2 (r.aN lo Y.heap) iB (jg K)->Gr (zE K) s Y->Q vs Y)->aA (aE prog w) A (evalPairs ps) Q aX s:=by
 induction ps with
 |nil=>
  intro K s Q hp _ _ hQ;cases K with
  |nil=>show evalPairs_nil (hQ [] [] s trivial .nil (.refl s))
  |cons=>show hp.elim
 |cons p ps iH=>
  intro K s Q hp hk Iw hQ;cases K with
  |nil=>show hp.elim
  |cons x K=>show evalPairs_cons<|hp.1 A aX s lo _ ha hk Iw λkv vv s1 g1 Zn hvv=>iH K s1 _ hp.2 (λb o e=>g1.keep b o (hk b o e)) (by rw[g1.size];lia) λvs iB s2 hc hm g2=>(hQ _ ((x.1,vv)::iB) s2 (gT Zn Z hc) (.cons (r.mono _ _ _ _ _ (λb o _ e=>g2.keep b o e) hvv) hm) (g1.trans g2))
structure Sv(d n:Nat)(s Y:af):Prop where
 size:Y.heap.objs.size=s.heap.objs.size+n
 keep:∀b o,b≠d->s.heap.get? b=O o->Y.heap.get? b=O o
 gens:Y.gens=s.gens
 drawn:Y.drawn=s.drawn
 os:Y.os=s.os
theorem Sv.refl(d:Nat)(s:af):Sv d 0 s s:=⟨rfl,λ_ _ _ e=>e,rfl,rfl,rfl⟩
theorem Sv.trans{d m:Nat}{a b c:af}(x:Sv d m a b)(y:Sv d n b c):Sv d (m+n) a c:=⟨by rw[y.size,x.size,lM],λe o q h=>y.keep e o q (x.keep e o q h),y.gens.trans x.gens,y.drawn.trans x.drawn,y.os.trans x.os⟩
theorem Sw{d:Nat}{a b:af}(x:Gr n a b):Sv d n a b:=⟨x.size,λe o _ h=>x.keep e o h,x.gens,x.drawn,x.os⟩
theorem Sv.same{d:Nat}{t:Nat}(x:gx d s.heap h'):Sv d 0 s {s with heap:=h',toks:=t}:=⟨x.1,λb o q e=>x.extBut b o q e,rfl,rfl,rfl⟩
theorem Sx{iB:List (MK×aa)}{k:MK}(h:k∉iB.map (·.1)):stored iB k v=iB++[(k,v)]:=by rw[stored,if_neg];rw[KS];show λqQ=>bg qQ λkv Zn he=>(h (bG.mpr (cn kv Zn (of_decide_eq_true he))))
noncomputable def aiK(d:ae)(x:aI aa×aI aa)(_:PUnit):aI (ForInStep PUnit):=do let kv<-x.1;let vv<-holding [kv] x.2;holding [kv,vv] (dictSet d kv vv);pure (mu FK)
theorem ads(ha:A.depth<700){d:Nat}(hd0:aK.heap.get? d=ai)(ps:List (aI aa×aI aa)):∀(K:List (Sp α)) (jP:List (MK×α)) (iB:List (MK×aa)) (s:af) (Q:PUnit->af->Prop),PW (xo r aK) ps K->
 (uh aK.heap s.heap)->d<s.heap.objs.size->s.heap.DictOf (d0) d iB->M2 (r.aN (d+1) s.heap) iB jP->((jP++jg K).map (·.1)).Nodup->iB.length+ps.length<=1000->
 (∀rW Y,Y.heap.DictOf (d0) d rW->M2 (r.aN (d+1) Y.heap) rW (jP++jg K)->Sv d (zE K) s Y->Q FK Y)->
 aA (aE prog w) A (forIn ps FK (aiK d)) Q aX s:=by
 induction ps with
 |nil=>
  intro K jP iB s Q hp _ _ hd hm _ _ hQ;cases K with
  |cons=>show hp.elim
  |nil=>show aB (hQ iB s hd ?_ (.refl d s));show(yb jP).symm▸hm
 |cons p ps iH=>
  intro K jP iB s Q hp hk jx hd hm hn hsz hQ;cases K with
  |nil=>show hp.elim
  |cons x K=>
   obtain⟨k,v⟩:=p;rw[ya];have hnk:x.1∉iB.map (·.1):=by rw[hm.keys];rw[jY,qk]at hn;show λq=>hn.2.2 _ q x.1 (AG Z) Z
   dsimp only[oO]at hsz;show ah ?_;generalize hQQ:(λ(a:ForInStep PUnit) (Y:af)=>aA (aE prog w) A _ Q aX Y)=QQ;show ah (ir (hp.1 A aX s (d+1) (λkv vv s2=>aA (aE prog w) A (holding [kv,vv] (dictSet d kv vv)>>=λ_=>pure (mu FK)) QQ aX s2) ha hk jx λkv vv s1 g1 Zn hvv=>?_) (λkv s1 h1=>ah (cQ (ir h1 (λvv s2 h2=>h2) λ_ _ e=>e))) λ_ _ e=>e);subst hQQ;show ah (cQ (wpAny_dictSet_pairs (hsz:=by lia) Zn (fc hd λo es ep h1 h2=>Bl o es ep (g1.keep _ _ h1) h2) λh2 hd2 hs2=>aB ?_));rw[Sx hnk]at hd2;have f1:Sv d x.2.2 s {s1 with heap:=h2,toks:=s1.toks+1}:=(Sw g1).trans (Sv.same hs2);show iH K (jP++[(x.1,x.2.1)]) (iB++[(x.1,vv)]) {s1 with heap:=h2,toks:=s1.toks+1} Q hp.2 (λb o e=>f1.keep b o (λq=>by have e:=hd0▸q▸e;ext) (hk b o e)) (by rw[f1.size];show Lo x.snd.snd jx) hd2 ?_ (by rw[(by simp[jg]:((jP++[(x.1,x.2.1)])++jg K).map (·.1)=(jP++jg (x::K)).map (·.1))];show hn) (by show iu.symm▸List.length_singleton.symm▸?_;lia) λrW Y h1 h2 h3=>?_
   .have up:∀a v,r.aN (d+1) s1.heap a v->r.aN (d+1) h2 a v:=λa v h=>r.mono _ _ _ _ _ (λb o D e=>hs2.extBut b o (λq=>absurd D (by rw[q];show Lh d)) e) h;show((hm.mono λa v h=>r.mono _ _ _ _ _ (λb o _ e=>g1.keep b o e) h).mono up).app (.one (up _ _ hvv))
   .show hQ rW Y h1 ?_ (f1.trans h3);have e:jP++[(x.1,x.2.1)]++jg K=jP++jg (x::K):=by simp[jg]
    rw[<-e];show h2
end
section
variable{r:Rel α}
theorem aak(ha:A.depth<700){ps:List (aI aa×aI aa)}{K:List (Sp α)}{Q:ae->af->Prop}(hp:PW (xo r s) ps K)(hn:((jg K).map (·.1)).Nodup)(hl:ps.length<=1000)(hQ:∀iB Y,Gr (1+zE K) s Y->Y.heap.DictOf (d0) s.heap.objs.size iB->M2 (r.aN (s.heap.objs.size+1) Y.heap) iB (jg K)->Q s.heap.objs.size Y):aA (aE prog w) A (subDict ps) Q aX s:=by
 have hs:fg=16777216:=jU;have hd0:s.heap.get? s.heap.objs.size=ai:=bD _;have g1:Gr 1 s {s with heap:=s.heap.push {cls:=ao "dict",data:=eg #[]}}:=(Gr.refl s).push _;have hd1:(s.heap.push {cls:=ao "dict",data:=eg #[]}).DictOf (d0) s.heap.objs.size []:=agO _ (#[]) 0 (bJ _ Z) ⟨rfl,rfl,rfl⟩ Z (λe he=>by simp at he) (by first|show trivial|show Pairs.nil|(trivial)) List.nodup_nil;show ah (Ar (ah (cQ ?_)));by_cases h15:ps.length<=15
 .rw [if_pos h15];show ah (aiJ ha (lo:=s.heap.objs.size+1) ps K _ _ hp g1.keep (by rw[dE];show ey _) λvs iB s2 hc hm g2=>?_);have Q9:iB.length<=1000:=by rw[hm.1];delta jg;rw[ik,<-hp.len];show hl
  show cQ (ah (wpAny_storeAll (knd:=d0) vs iB [] s2 _ hc (fc hd1 λo es ep h1 h2=>Bl o es ep (g2.keep _ _ h1) h2) (by dsimp only[KU];lia) λh3 hd3 B_=>aB (aB ?_)));rw[merged_nil_of_nodup iB (by rw[hm.keys];show hn)]at hd3;show hQ iB _ ⟨by rw[B_.1,g2.size,g1.size,lM],λb o e=>B_.extBut b o (λq=>by have e:=hd0▸q▸e;ext) (g2.keep b o (g1.keep b o e)),g2.gens,g2.drawn,g2.os⟩ hd3 (hm.mono λa v h=>r.mono _ _ _ _ _ (λb o D e=>B_.extBut b o (λq=>absurd D (by rw[q];show Lh _)) e) h)
 .rw [if_neg h15];show ah<|mU<|ah<|ads ha hd0 ps K [] [] _ _ hp g1.keep (by rw[dE];show iX _) hd1 .nil (hn) (by dsimp only[KU];lia) λiB s2 hd2 hm f2=>aB<|aB<|hQ iB s2 ⟨by rw[f2.size,g1.size,lM],λb o e=>f2.keep b o (λq=>by have e:=hd0▸q▸e;ext) (g1.keep b o e),f2.gens,f2.drawn,f2.os⟩ hd2 hm
def De(A:b9)(aX:aa->af->Prop)(s:af)(d:ae)(m:ae)(iB:List (MK×aa))(more:List (MK×aa))(Q:Unit->af->Prop):Prop:=∀(hdm:d≠m) (hmS:(m==sL)=ab) (hd:s.heap.DictOf (d0) d iB) (hm:s.heap.DictOf (d0) m more) (qI:iB≠[]) (hn:((iB++more).map (·.1)).Nodup) (hsz:iB.length+more.length<=1000) (hQ:∀h',h'.DictOf (d0) d (iB++more)->gx d s.heap h'->Q () {s with heap:=h'}),aA (aE prog w) A (mergeMapping d (R m) ab) Q aX s
def Im(c:((b9×(aa->af->Prop))×(af×ae))×((ae×(List (MK×aa)))×((List (MK×aa))×(Unit->af->Prop)))):Prop:=De c.1.1.1 c.1.1.2 c.1.2.1 c.1.2.2 c.2.1.1 c.2.1.2 c.2.2.1 c.2.2.2
def ma:=Iz Im inferInstance
def Io:=ma.1.2.1
def NO:=ma.1.2.2
def NP:=ma.2.1.1
def pO:=ma.2.1.2
def iM:=ma.2.2.1
theorem aal:De ma.1.1.1 ma.1.1.2 Io NO NP pO iM ma.2.2.2:=λhdm hmS hd hm qI hn hsz hQ=>by
 have hs:fg=16777216:=jU;show r7 hd λod esd epd hod hcd hdd hkd hpd tR=>(r7 hm λom Sy epm hom hcm adt Q2 hpm hnm=>?_);have dM:iM.length=Sy.size:=by show hpm.length▸?_;rfl
 have hT:Io.TypeIs (R NP) "dict" :=hm.typeIs;have akT:esd.isEmpty=ab:=by
  cases q:esd.isEmpty with
  |false=>rfl
  |true=>have:=hpd.length;rw[(Array.isEmpty_iff.mp q)]at this;show absurd (rn.mp (this.symm)) qI
 show ah<|mS hT isSubtype_dict_dict<|ah<|eN hT PySem.F.slot_dict_iter.lookup<|ah<|aB<|(show(O (bB "dict.__iter__")==O (bB "dict.__iter__"))=N from by decide+kernel).symm▸?_;dsimp only;rw[if_neg (by rw[hmS];decide)];show ah (J4 hod hdd ?_);rw[if_neg (by rw[akT];decide)];show ah<|J4 hom adt<|ah<|TS hom adt<|ah<|List.range_eq_range'.symm▸wpAny_forIn_list _ (λrest _ Y=>∃h' i,Y={Io with heap:=h'}/\rest=Uw i (Sy.size - i)/\i<=Sy.size/\h'.DictOf (d0) NO (pO++iM.take i)/\h'.get? NP=O om/\gx NO Io.heap h') _ ?_ ?_ _ _
  (agN Io.heap 0 Z Z (fk _) (by simpa using hd) hom (UZ _ _))
 .intro x rest b Y ou;show Cu ou λh' i dX hr hi ξ aga zO=>?_;subst dX;have jx:i<Sy.size:=by show bc (mq i Sy.size) (λh=>h) λh=>by rw[K9 h]at hr;ext
  show eZ (show x=i/\rest=Uw (i+1) (Sy.size - (i+1)) from by
   have e:Sy.size - i=(Sy.size - (i+1))+1:=nj0 jx;rw[e,Ur]at hr;injection hr with h1 h2
   show⟨h1,h2⟩) λdX ν=>?_
  subst dX;show ah (J4 aga adt ?_);rw[yr jx];show og λgG kG=>?_;obtain⟨⟨k,v⟩,Zn⟩:∃kv,iM[x]? =O kv:=⟨iM[x]'(dM▸jx),dF _⟩;show eZ (hpm.get? (e:=Sy[x]) (by simp[jx]) Zn) λadu akU=>bg (Q2 Sy[x] (Array.getElem_mem jx)) λk' aiL aiM=>kG ?_;clear kG gG;obtain rfl:=(d0).inj _ _ _ aiL adu;dsimp only;rw[if_neg aL,aiM,akU];have hmem:k'∉(pO++iM.take x).map (·.1):=by
   have e:pO++iM=(pO++iM.take x)++iM.drop x:=by rw[AJ,EJ]
   rw[e,jY,qk]at hn;intro q;show hn.2.2 k' q k' ?_ Z;have:(iM.drop x)[0]? =O (k',v):=by rw[KP,AW];show Zn
   show bG.mpr (cn (k',v) (cY this) Z)
  have hlx:(pO++iM.take x).length<=1000:=by rw[iu,AL];lia
  show r7 ξ λo2 es2 ep2 Τ hc2 hd2 hk2 Yv FP=>?_;have Δ:(es2.findIdx? λe=>(d0).is k' e.key)=(pO++iM.take x).findIdx? λkv=>decide (kv.1=k'):=by rw[<-Yv.findIdx k'];obtain⟨l⟩:=es2;show List.findIdx?_toArray (λe=>d0.is k' e.key) l
  have hi2:(es2.findIdx? λe=>(d0).is k' e.key)=ai:=by rw[Δ];show List.findIdx?_eq_none_iff.mpr λkv Zn=>decide_eq_false λq=>hmem (bG.mpr (cn kv Zn q))
  have hz2:es2.size<=fg:=by
   have e1:=Yv.length;have e2:es2.toList.length=es2.size:=by rfl
   lia
  show ah<|cQ<|ah<|wpAny_dictFind_of adu Τ hd2 hk2<|hi2.symm▸wpAny_updateDictKeys (hz:=hz2) Τ hd2 ?_;have ss:=j5 (h:=h') NO (Obj.mapDictKeys (·.push ⟨(d0).hash k',Sy[x].key,v⟩));have aiN:=(ss.2 NP (eQ hdm)).trans aga;show ah (TS aiN adt ?_);rw[if_neg fH];show aB (agN _ (x+1) Z ν jx ?_ aiN (zO.trans ss));rw[(by rw[EM,Zn];simp:pO++iM.take (x+1)=(pO++iM.take x)++[(k',v)])];show agO _ _ (ep2+1) (gQ _ Τ (Obj.isFreed_of_dict (UW hd2 _))) (hc2.mapDictKeys _) (UW hd2 _) (hk2.push adu _) ?_ ?_
  .have:=Yv.append adu ((d0).hash k') v;obtain⟨l⟩:=es2;simpa using this
  .rw [jY,qk];show gT FP fH (λa ha b D=>?_);rw[iI,List.map_nil,bI]at D;subst D;show λe=>hmem (e▸ha)
 .intro b Y π;show Cu π λh' i qG hr hi ξ aga zO=>qG▸?_;have Gq:i=Sy.size:=bc (mq i Sy.size) (λh=>by rw[(by lia:Sy.size - i=(Sy.size - (i+1))+1),Ur]at hr;show nnD hr) λh=>vb hi h;rw[Gq,<-dM,sV]at ξ;show aB (hQ h' ξ zO)
theorem aam{m:ae}{iB:List (MK×aa)}{more:List (MK×aa)}{Q:Unit->af->Prop}:De A aX s d m iB more Q:=hen (P:=Im) aal (((A,aX),(s,d)),((m,iB),(more,Q)))
end
noncomputable def vX(run:List (aI aa×aI aa))(main:Option ae):aI (Option ae):=do
 if run.isEmpty then return main
 match main with
 |none=>return O (<-subDict run)
 |some d=>
  let sub<-holding [R d] (subDict run)
  (holding [R d,R sub] (mergeMapping d (R sub) ab)).onRaise λx=>do let _<-holding [R d,x] (runValue (fG "proto.let_go" {}))
  return O d
section
variable{r:Rel α}
theorem Qo(ha:A.depth<700){c:List (aI aa×aI aa)}{x:List (Sp α)}{jP:List (MK×α)}{iB:List (MK×aa)}{Q:Option ae->af->Prop}(hp:PW (xo r aK) c x)(hc:c≠[])(hk:uh aK.heap s.heap)(XF:sL<aK.heap.objs.size)(jx:aK.heap.objs.size<s.heap.objs.size)(hd:s.heap.DictOf (d0) aK.heap.objs.size iB)(hm:M2 (r.aN (aK.heap.objs.size+1) s.heap) iB jP)(qI:jP≠[])(hn:((jP++jg x).map (·.1)).Nodup)(hl:jP.length+c.length<=1000)(hQ:∀rW Y,Y.heap.DictOf (d0) aK.heap.objs.size rW->M2 (r.aN (aK.heap.objs.size+1) Y.heap) rW (jP++jg x)->Sv aK.heap.objs.size (1+zE x) s Y->Q (O aK.heap.objs.size) Y):
 aA (aE prog w) A (vX c (O aK.heap.objs.size)) Q aX s:=by
 delta vX
 rw[if_neg (by simpa using hc)];show ah (cQ (aak ha (hp.mono λp y h=>h.later hk) (by rw[jY,qk]at hn;show hn.2.1) (Nat.le_of_add_left_le hl) λmore s1 g1 hm1 hmm=>?_));have hkl:=hm.1;have hml:=hmm.1;have hxl:=hp.len;have hxs:(jg x).length=x.length:=by delta jg;rw[ik]
 show ah (Kd (cQ (aam (fE jx) (beq_eq_false_iff_ne.mpr (oR (gc XF jx))) (fc hd λo es ep h1 h2=>Bl o es ep (g1.keep _ _ h1) h2) hm1 (λq=>?_) (((by rw[jY,jY,hm.keys,hmm.keys]:((iB++more).map (·.1))=(jP++jg x).map (·.1)))▸hn) au λh2 hd2 hs2=>aB (hQ _ _ hd2 ?_ ((Sw g1).trans (Sv.same hs2))))))
 .rw [q]at hkl;show qI (rn.mp hkl.symm)
 .have up:∀a v,r.aN (aK.heap.objs.size+1) s1.heap a v->r.aN (aK.heap.objs.size+1) h2 a v:=λa v h=>r.mono _ _ _ _ _ (λb o D e=>hs2.extBut b o (λq=>absurd D (by rw[q];show Lh _)) e) h;show(hm.mono λa v h=>up a v (r.mono _ _ _ _ _ (λb o _ e=>g1.keep b o e) h)).app (hmm.mono λa v h=>up a v (r.down _ _ _ _ _ (yf jx) h))
theorem DM(ha:A.depth<700){c:List (aI aa×aI aa)}{x:List (Sp α)}{Q:Option ae->af->Prop}(hp:PW (xo r s) c x)(hc:c≠[])(hn:((jg x).map (·.1)).Nodup)(hl:c.length<=1000)(hQ:∀rW Y,Y.heap.DictOf (d0) s.heap.objs.size rW->M2 (r.aN (s.heap.objs.size+1) Y.heap) rW (jg x)->Gr (1+zE x) s Y->Q (O s.heap.objs.size) Y):aA (aE prog w) A (vX c ai) Q aX s:=by
 delta vX
 rw[if_neg (by simpa using hc)];show ah (aak ha hp hn hl λiB s1 g hd hm=>aB (hQ iB s1 hd hm g))
end
def zF(x:Option (aI aa)×aI aa)(st:Option ae×List (aI aa×aI aa)):aI (ForInStep (Option ae×List (aI aa×aI aa))):=match x.1 with
 |some k=>if(st.2++[(k,x.2)]).length==17 then vX (st.2++[(k,x.2)]) st.1>>=λm=>pure (mu (m,[])) else pure (mu (st.1,st.2++[(k,x.2)]))
 |none=>Eo ""
noncomputable def gD(p:aI aa×aI aa):Option (aI aa)×aI aa:=(O p.1,p.2)
theorem DN(items:List (aI aa×aI aa)):∀(run:List (aI aa×aI aa)) (m:Option ae),run.length+items.length<17->forIn (items.map gD) (m,run) zF=pure (m,run++items):=by
 induction items with
 |nil=>intro run m _;simp
 |cons p items iH=>intro run m h;have e:zF (gD p) (m,run)=pure (mu (m,run++[p])):=if_neg (by simp at h ⊢;lia);rw[iI,ya,e,pure_bind];change forIn (items.map gD) (m,run++[p]) zF=_;rw[iH (run++[p]) m (by simp at h ⊢;lia)];simp
theorem Qp(items:List (aI aa×aI aa)):∀(run:List (aI aa×aI aa)) (m:Option ae) (rest:List (aI aa×aI aa)),items≠[]->run.length+items.length=17->forIn ((items++rest).map gD) (m,run) zF=(vX (run++items) m>>=λm'=>forIn (rest.map gD) (m',[]) zF):=by
 induction items with
 |nil=>intro _ _ _ h _;show absurd Z h
 |cons p items iH=>
  intro run m rest _ hl;rw[EO,iI,ya];by_cases hi:items=[]
  .subst hi;have e:zF (gD p) (m,run)=(vX (run++[p]) m>>=λm'=>pure (mu (m',[]))):=if_pos (by simp at hl ⊢;lia);rw[e,bind_assoc];rfl
  .have e:zF (gD p) (m,run)=pure (mu (m,run++[p])):=by have:items.length≠0:=λq=>hi (rn.mp q);show if_neg (by simp at hl ⊢;lia)
   rw[e,pure_bind];change forIn ((items++rest).map gD) (m,run++[p]) zF=_;rw[iH (run++[p]) m rest hi (by simp at hl ⊢;lia)];simp
theorem aan{f f':Option (aI aa)×aI aa->σ->aI (ForInStep σ)}(h:∀p st,f (gD p) st=f' (gD p) st)(ps:List (aI aa×aI aa)):∀(st:σ),forIn (ps.map gD) st f=forIn (ps.map gD) st f':=by
 induction ps with
 |nil=>intro _;show rfl
 |cons p ps iH=>intro st;rw[iI,ya,ya,h];show bind_congr λx=>by cases x with|done _=>rfl|yield b=>show iH b
theorem aao{a b:Type}{m m':aI a}{f f':a->aI b}(h:m=m')(h':∀x,f x=f' x):m>>=f=m'>>=f':=by rw[h,funext h']
theorem adv(ps:List (aI aa×aI aa)):dictDisplay (ps.map gD)=(forIn (ps.map gD) ((ai:Option ae),([]:List (aI aa×aI aa))) zF>>=λst=>vX st.2 st.1>>=λm=>match m with|some d=>pure (R d)|none=>newDict):=by show aao (aan ?_ ps _) (λ_=>rfl);show λ_ _=>rfl
def sv{α:Type}:Nat->List (Sp α)->Nat
 | 0,_=>0
 |_,[]=>0
 |n+1,x::K=>1+zE ((x::K).take 17)+sv n ((x::K).drop 17)
theorem Sz(n:Nat):sv n ([]:List (Sp α))=0:=by cases n<;>rfl
theorem xp{K:List (Sp α)}(h:K≠[]):sv (n+1) K=1+zE (K.take 17)+sv n (K.drop 17):=by
 cases K with
 |nil=>show absurd Z h
 |cons x K=>rfl
theorem Ck{K:List (Sp α)}(h:K≠[])(hl:K.length<=17):sv (n+1) K=1+zE K:=by rw[xp h,KI hl,List.drop_of_length_le hl,Sz];rfl
theorem aap{W:aI aa×aI aa->Sp α->Prop}(k:Nat):∀{ps:List (aI aa×aI aa)} {K:List (Sp α)},PW W ps K->PW W (ps.take k) (K.take k)/\PW W (ps.drop k) (K.drop k):=by
 induction k with
 |zero=>show λh=>⟨trivial,h⟩
 |succ k ih=>
  intro ps K h;cases ps<;>cases K
  .show ⟨trivial,trivial⟩
  .show h.elim
  .show h.elim
  .show ⟨⟨h.1,(ih h.2).1⟩,(ih h.2).2⟩
theorem Qq(k:Nat)(K:List (Sp α)):jg (K.take k)++jg (K.drop k)=jg K:=by delta jg;rw[<-jY,EJ]
def aiO(st:Option ae×List (aI aa×aI aa)):aI aa:=vX st.2 st.1>>=λm=>match m with|some d=>pure (R d)|none=>newDict
section
variable{r:Rel α}
theorem PW.ne{W:aI aa×aI aa->Sp α->Prop}{ps:List (aI aa×aI aa)}{K:List (Sp α)}(h:PW W ps K)(hn:ps≠[]):K≠[]:=λe=>hn (rn.mp (by rw[h.len,e];rfl))
theorem adw(ha:A.depth<700)(XF:sL<aK.heap.objs.size)(n:Nat):∀(ps:List (aI aa×aI aa)) (K:List (Sp α)) (jP:List (MK×α)) (iB:List (MK×aa)) (s:af) (Q:aa->af->Prop),ps.length<17 * n->PW (xo r aK) ps K->
 (uh aK.heap s.heap)->aK.heap.objs.size<s.heap.objs.size->s.heap.DictOf (d0) aK.heap.objs.size iB->M2 (r.aN (aK.heap.objs.size+1) s.heap) iB jP->jP≠[]->((jP++jg K).map (·.1)).Nodup->jP.length+ps.length<=1000->
 (∀rW Y,Y.heap.DictOf (d0) aK.heap.objs.size rW->M2 (r.aN (aK.heap.objs.size+1) Y.heap) rW (jP++jg K)->Sv aK.heap.objs.size (sv n K) s Y->Q (R aK.heap.objs.size) Y)->
 aA (aE prog w) A (forIn (ps.map gD) (O aK.heap.objs.size,[]) zF>>=aiO) Q aX s:=by
 induction n with
 |zero=>intro _ _ _ _ _ _ h _ _ _ _ _ _ _ _ _;show absurd h (rH _)
 |succ n iH=>
  intro ps K jP iB s Q alJ hp hk jx hd hm qI hn hl hQ;by_cases h17:ps.length<17
  .rw [DN ps [] _ (AP h17),yc,pure_bind];show if h0:ps=[] then ?_ else ah<|Qo ha hp h0 hk XF jx hd hm qI hn hl λrW Y h1 h2 h3=>aB<|hQ rW Y h1 h2<|(Ck (hp.ne h0) (by rw[<-hp.len];lia)).symm▸h3
   have h0':K=[]:=rn.mp (by rw[<-hp.len,h0];rfl);subst h0';show h0.symm▸ah (aB (aB (hQ iB s hd ?_ (.refl _ s))));change M2 _ iB (jP++[]);rw[yb];show hm
  .have Yw:=aap 17 hp;have l1:(ps.take 17).length=17:=by rw[AL];lia
   have hc:ps.take 17≠[]:=λe=>by have l1:=e▸l1;ext
   have e1:=Qp (ps.take 17) [] (O aK.heap.objs.size) (ps.drop 17) hc (by simpa using l1);rw[EJ]at e1;have OL:=Qq 17 K;rw[e1,bind_assoc,yc];have DX:((jP++jg (K.take 17)++jg (K.drop 17)).map (·.1)).Nodup:=by rw[AJ,OL];show hn
   have ld:(ps.drop 17).length=ps.length - 17:=AM;show ah<|Qo ha Yw.1 hc hk XF jx hd hm qI (by rw[jY,qk]at DX;show DX.1) au λrW Y h1 h2 h3=>iH (ps.drop 17) (K.drop 17) (jP++jg (K.take 17)) rW Y Q au Yw.2 (λb o e=>h3.keep b o (λq=>by rw[q,bD]at e;ext) (hk b o e)) (by rw[h3.size];show Lo (1+zE (List.take 17 K)) jx) h1 h2 (λe=>qI (List.append_eq_nil_iff.mp e).1) DX ?_ λk2 s2 g1 g2 g3=>hQ k2 s2 g1 (by rw[AJ,OL]at g2;show g2) (by rw[xp (hp.ne λe=>h17 (by rw[e];decide))];show h3.trans g3);rw[iu,ld]
   delta jg
   rw[ik,<-Yw.1.len,l1];lia
theorem adx(ha:A.depth<700)(XF:sL<s.heap.objs.size){ps:List (aI aa×aI aa)}{K:List (Sp α)}(hln:ps.length<17 * (n+1))(hp:PW (xo r s) ps K)(h0:ps≠[])(hn:((jg K).map (·.1)).Nodup)(hl:ps.length<=1000)(hQ:∀iB Y,Y.heap.DictOf (d0) s.heap.objs.size iB->M2 (r.aN (s.heap.objs.size+1) Y.heap) iB (jg K)->Gr (sv (n+1) K) s Y->Q (R s.heap.objs.size) Y):aA (aE prog w) A (dictDisplay (ps.map gD)) Q aX s:=by
 rw[adv];change aA _ _ (_>>=aiO) _ _ _;by_cases h17:ps.length<17
 .rw [DN ps [] _ (AP h17),yc,pure_bind];show ah<|DM ha hp h0 hn hl λrW Y h1 h2 h3=>aB<|hQ rW Y h1 h2<|(Ck (hp.ne h0) (by rw[<-hp.len];lia)).symm▸h3
 .have Yw:=aap 17 hp;have l1:(ps.take 17).length=17:=by rw[AL];lia
  have hc:ps.take 17≠[]:=λe=>by have l1:=e▸l1;ext
  have e1:=Qp (ps.take 17) [] ai (ps.drop 17) hc (by simpa using l1);rw[EJ]at e1;have OL:=Qq 17 K;rw[e1,bind_assoc,yc];have DX:((jg (K.take 17)++jg (K.drop 17)).map (·.1)).Nodup:=by rw[OL];show hn
  have ld:(ps.drop 17).length=ps.length - 17:=AM;have ls:(jg (K.take 17)).length=17:=by delta jg;rw[ik,<-Yw.1.len,l1]
  show ah<|DM ha Yw.1 hc (by rw[jY,qk]at DX;show DX.1) au λrW Y h1 h2 h3=>adw ha XF n (ps.drop 17) (K.drop 17) (jg (K.take 17)) rW Y Q au Yw.2 h3.keep (by rw[h3.size];lia) h1 h2 (λe=>by have ls:=e▸ls;ext) DX au λk2 s2 g1 g2 g3=>hQ k2 s2 g1 (by rw[OL]at g2;show g2)<|(xp (hp.ne h0)).symm▸have f:=(Sw (d:=s.heap.objs.size) h3).trans g3;⟨f.size,λb o e=>f.keep b o (λq=>by rw[q,bD]at e;ext) e,f.gens,f.drawn,f.os⟩
end
abbrev Tri:=Nat×Nat×Nat
inductive IS where
 |int(i:Int)
 |ecs(l:List Tri)
inductive EcV(lo:Nat)(h:aO)(t:Tri):aa->Prop
 |mk (i dx:ae) (t0 t1 t2:ba) (a:lo<=i) (b:lo<=dx) (c:h.get? i=O (XM dx (Ss (aj t.1) (aj t.2.1) (aj t.2.2) t0 t1 t2))) (d:h.get? dx=O iy):EcV lo h t (R i)
def SD(lo:Nat)(h:aO):List Tri->List aa->Prop
 | [],[]=>True
 |t::ts,v::vs=>EcV lo h t v/\SD lo h ts vs
 |_,_=>False
protected def IS.aN(lo:Nat)(h:aO):IS->aa->Prop
 | .int i,v=>∃t,v=ag i t
 | .ecs l,v=>∃a vs,v=R a/\lo<=a/\h.get? a=O {cls:=ao "tuple",data:=bQ vs.toArray}/\SD lo h l vs
theorem EcV.to{lo:Nat}{t:Tri}(hl:lo'<=lo)(hk:∀b o,lo<=b->h.get? b=O o->h'.get? b=O o)(x:EcV lo h t v):EcV lo' h' t v:=by obtain⟨i,dx,t0,t1,t2,a,b,c,d⟩:=x;show⟨i,dx,t0,t1,t2,a8 hl a,a8 hl b,hk _ _ a c,hk _ _ b d⟩
theorem SD.to{lo lo':Nat}{h h':aO}(hl:lo'<=lo)(hk:∀b o,lo<=b->h.get? b=O o->h'.get? b=O o):∀{l:List Tri} {vs:List aa},SD lo h l vs->SD lo' h' l vs
 | [],[],_=>trivial
 |_::_,_::_,⟨a,b⟩=>⟨a.to hl hk,SD.to hl hk b⟩
 | [],_::_,e=>e.elim
 |_::_,[],e=>e.elim
theorem IS.to{lo:Nat}(hl:lo'<=lo)(hk:∀b o,lo<=b->h.get? b=O o->h'.get? b=O o):∀{a:IS} {v:aa},IS.aN lo h a v->IS.aN lo' h' a v
 | .int _,_,x=>x
 | .ecs _,_,⟨a,vs,e,b,c,d⟩=>Mt a vs e (a8 hl b) (hk _ _ b c) (d.to hl hk)
noncomputable def akV:Rel IS:=⟨IS.aN,λ_ _ _ _ _ k x=>IS.to (ey _) k x,λ_ _ _ _ _ l x=>IS.to l (λ_ _ _ e=>e) x⟩
inductive OR(lo:Nat)(h:aO)(sp:List (MK×IS)):aa->Prop
 |mk (d:ae) (iB:List (MK×aa)) (a:lo<=d) (b:h.DictOf d0 d iB) (m:M2 (IS.aN (d+1) h) iB sp):OR lo h sp (R d)
noncomputable def aiP:Rel (List (MK×IS)):=⟨OR,
 λ_ _ _ _ _ k q=>by obtain⟨d,iB,a,b,m⟩:=q;show⟨d,iB,a,Bh (λo q=>q.imp λes q=>q.imp λep q=>⟨k _ _ a q.1,q.2⟩) b,m.mono λ_ _ x=>IS.to (ey _) (λb o q=>k b o (a8 (qo a) q)) x⟩,
 λ_ _ _ _ _ l q=>by obtain⟨d,iB,a,b,m⟩:=q;show⟨d,iB,a8 l a,b,m⟩⟩
noncomputable def nEC:aV:=aC "EC"
inductive XK where
 |call(f:aG)(l:List aG)(k:List AA)(p:cB)
 |name(x:aV)(p:cB)
 |con(c:xV)(k:Nat)(p:cB)
 |tup(l:List aG)(k:Nat)(p:cB)
 |dict(k:List (Option aG))(v:List aG)(p:cB)
 |other
noncomputable def xk:aG->XK
 |bx f l k p=>.call f l k p
 |aq x p=>.name x p
 |fN c k p=>.con c k p
 |fO l k p=>.tup l k p
 |qj k v p=>.dict k v p
 |_=>.other
def XK.back:XK->aG->Prop
 | .call f l k p,e=>e=bx f l k p
 | .name x p,e=>e=aq x p
 | .con c k p,e=>e=fN c k p
 | .tup l k p,e=>e=fO l k p
 | .dict k v p,e=>e=qj k v p
 | .other,_=>True
theorem Zo(e:aG):(xk e).back e:=by cases e<;>first|show trivial|show rfl
noncomputable def XK.call? :XK->Option (aG×List aG×List AA×cB)
 | .call f l k p=>O (f,l,k,p)
 |_=>ai
noncomputable def XK.name? :XK->Option (aV×cB)
 | .name x p=>O (x,p)
 |_=>ai
noncomputable def XK.con? :XK->Option (xV×Nat×cB)
 | .con c k p=>O (c,k,p)
 |_=>ai
noncomputable def XK.tup? :XK->Option (List aG×Nat×cB)
 | .tup l k p=>O (l,k,p)
 |_=>ai
noncomputable def XK.dict? :XK->Option (List (Option aG)×List aG×cB)
 | .dict k v p=>O (k,v,p)
 |_=>ai
def aeF(e:aG):=(xk e).call?
def aaq(e:aG):Option aV:=(xk e).name?.map (·.1)
def SF(e:aG):Option xV:=(xk e).con?.map (·.1)
def aiQ(e:aG):Option (List aG):=(xk e).tup?.map (·.1)
def aeG(e:aG):Option (List (Option aG)×List aG):=(xk e).dict?.map λq=>(q.1,q.2.1)
noncomputable def ady:xV->Option Int
 |jI i=>O i
 |_=>ai
noncomputable def aiR:Int->Option Nat
 |aj n=>O n
 |_=>ai
noncomputable def l3:List aG->Option (aG×aG×aG)
 | [a,b,c]=>O (a,b,c)
 |_=>ai
theorem Zp{x:XK}{e q}(b:x.back e)(h:x.call? =O q):e=bx q.1 q.2.1 q.2.2.1 q.2.2.2:=by cases x<;>cases h;show b
theorem Zq{x:XK}{e q}(b:x.back e)(h:x.name? =O q):e=aq q.1 q.2:=by cases x<;>cases h;show b
theorem Qr{x:XK}{e q}(b:x.back e)(h:x.con? =O q):e=fN q.1 q.2.1 q.2.2:=by cases x<;>cases h;show b
theorem aar{x:XK}{e q}(b:x.back e)(h:x.tup? =O q):e=fO q.1 q.2.1 q.2.2:=by cases x<;>cases h;show b
theorem Zr{x:XK}{e q}(b:x.back e)(h:x.dict? =O q):e=qj q.1 q.2.1 q.2.2:=by cases x<;>cases h;show b
theorem adz{q}(h:aeF e=O q):e=bx q.1 q.2.1 q.2.2.1 q.2.2.2:=Zp (Zo e) h
theorem XN{o:Option α}{f:α->β}{x:β}(h:o.map f=O x):∃q,o=O q/\f q=x:=iY.mp h
theorem XO{x}(h:aaq e=O x):∃p,e=aq x p:=bg (XN h) λq h r=>⟨q.2,r▸Zq (Zo e) h⟩
theorem SG{c}(h:SF e=O c):∃k p,e=fN c k p:=bg (XN h) λq h r=>qE q.2.1 q.2.2 (r▸Qr (Zo e) h)
theorem agb{l}(h:aiQ e=O l):∃k p,e=fO l k p:=bg (XN h) λq h r=>qE q.2.1 q.2.2 (r▸aar (Zo e) h)
theorem adA{q}(h:aeG e=O q):∃p,e=qj q.1 q.2 p:=bg (XN h) λq h r=>⟨q.2.2,r▸Zr (Zo e) h⟩
theorem SH{c:xV}{i}(h:ady c=O i):c=jI i:=by cases c<;>cases h;rfl
theorem agc{i:Int}{n}(h:aiR i=O n):i=aj n:=by cases i<;>cases h;rfl
theorem akW{l:List aG}{q}(h:l3 l=O q):l=[q.1,q.2.1,q.2.2]:=by
 rcases l with _|⟨a,_|⟨b,_|⟨c,_|⟨d,l⟩⟩⟩⟩
 .show Bj h
 .show Bj h
 .show Bj h
 .show aW h▸rfl
 .show Bj h
def adB(e:aG):Option Nat:=(SF e).bind λc=>(ady c).bind aiR
theorem kB{a:Option α}{f:α->Option β}{x:β}{aN:Prop}(h:a.bind f=O x)(k:∀y,a=O y->f y=O x->aN):aN:=by
 cases a with
 |none=>ext
 |some y=>show k y Z h
theorem agd{c:Prop}[Decidable c]{β:Type}{v x:β}{aN:Prop}(h:(if c then O v else ai)=O x)(k:c->v=x->aN):aN:=by
 by_cases hc:c
 .rw [if_pos hc]at h;show k hc (aW h)
 .have h:=(if_neg hc).symm.trans h;ext
theorem akX{c:Prop}[Decidable c]{β:Type}{o:Option β}{x:β}{aN:Prop}(h:(if c then o else ai)=O x)(k:c->o=O x->aN):aN:=by
 by_cases hc:c
 .rw [if_pos hc]at h;show k hc h
 .have h:=(if_neg hc).symm.trans h;ext
theorem SI(h:adB e=O n):∃k p,e=fN (jI (aj n)) k p:=
 kB h λ_ h1 h=>kB h λ_ h2 h3=>jd (SG h1) λk p e=>qE k p (by rw[e,SH h2,agc h3])
def adC(e:aG):Option Tri:=(aeF e).bind λq=>(aaq q.1).bind λx=>(l3 q.2.1).bind λr=>(adB r.1).bind λa=>(adB r.2.1).bind λb=>(adB r.2.2).bind λc=>if x=nEC/\q.2.2.1.isEmpty=N then O (a,b,c) else ai
theorem aas{t:Tri}(h:adC e=O t):∃np k1 p1 k2 p2 k3 p3 pos,e=bx (aq nEC np) [fN (jI (aj t.1)) k1 p1,fN (jI (aj t.2.1)) k2 p2,fN (jI (aj t.2.2)) k3 p3] [] pos:=
 kB h λq h0 h=>kB h λx h1 h=>kB h λr h2 h=>kB h λa h3 h=>kB h λb h4 h=>kB h λc h5 h=>agd h λhc ht=>dG (XO h1) λnp e1=>jd (SI h3) λk1 p1 e3=>jd (SI h4) λk2 p2 e4=>jd (SI h5) λk3 p3 e5=>⟨np,k1,p1,k2,p2,k3,p3,q.2.2.2,by rw[adz h0,e1,akW h2,e3,e4,e5,hc.1,List.isEmpty_iff.mp hc.2,<-ht]⟩
def aat:List aG->Option (List Tri)
 | []=>O []
 |e::es=>(adC e).bind λt=>(aat es).bind λts=>O (t::ts)
noncomputable def akY:xV->Option MK
 |rO=>O .none
 |jI i=>O (.int i)
 |LP x=>O (.str x)
 |_=>ai
def kOf(tab:List (aV×Int))(e:aG):Option MK:=
 (SF e).elim ((aaq e).bind λx=>if(x==("__debug__" :aV))=ab then(tab.lookup x).map .int else ai) akY
def iOf(e:aG):Option (IS×Nat):=
 (SF e).elim ((aiQ e).bind λes=>(aat es).bind λl=>if es.length<=1000 then O (.ecs l,5 * l.length+1) else ai) λc=>(ady c).bind λi=>O (.int i,0)
def pOf(tab:List (aV×Int)){α:Type}(f:aG->Option (α×Nat)):List (Option aG)->List aG->Option (List (Sp α))
 | [],[]=>O []
 |k::ks,v::vs=>k.bind λk=>(kOf tab k).bind λk=>(f v).bind λi=>(pOf tab f ks vs).bind λr=>O ((k,i)::r)
 |_,_=>ai
def oV(tab:List (aV×Int))(v:aG):Option (List (MK×IS)×Nat):=(aeG v).bind λq=>(pOf tab iOf q.1 q.2).bind λK=>
 if K≠[]/\K.length<17/\((jg K).map (·.1)).Nodup then O (jg K,sv 1 K) else ai
def HN(P:cf)(t:Nat->ba)(fd fd2:cq)(tab:List (aV×Int))(h:aO):Prop:=
 Sr P t fd fd2 h/\
 ∃mg,h.Ns ef mg/\mg nEC=O (R 135)/\∀x i,tab.lookup x=O i->∃t,mg x=O (ag i t)
theorem HN.keeps(x:HN P t fd fd2 tab h)(k:uh h h'):HN P t fd fd2 tab h':=
 ⟨x.1.keeps k,bg x.2 λmg a b=>(cn mg (a.at' λo e=>k _ o e) b)⟩
theorem age{k:MK}(cA:HN P t fd fd2 tab s.heap)(hk:J.scope.kind=qu)(hl:J.locals=J.globals)(hg:J.globals=ef)(h:kOf tab e=O k)(hQ:∀v Y,Gr 0 s Y->k.is v=N->Q v Y):aA (aE prog w) A (a7 e J) Q aX s:=by
 unfold kOf at h;show Z0 (SF e) (λhc=>?_) λc hc=>?_
 .replace h:=hc▸h;show kB h λx h1 h5=>akX h5 λhd h6=>?_;obtain⟨p,rfl⟩:=XO h1;obtain⟨i,hi,rfl⟩:=iY.mp h6;show gI cA.2 λmg h1 h2 h3=>dG (h3 x i hi) λt ht=>Name_module hk hl (U6 (hg▸h1) ht (hQ _ _ (.refl s) (beq_self_eq_true _))) hd
 .obtain ⟨k1,p,rfl⟩:=SG hc;cases c<;>cases h
  .show TC (hQ _ _ (.refl s) Z)
  .show xB (hQ _ _ ((Gr.refl s).toks _) (beq_self_eq_true _))
  .show Ea (hQ _ _ ((Gr.refl s).toks _) (beq_self_eq_true _))
theorem adD{x:Tri}{lo:Nat}(bK:A.depth<700)(cA:HN P t fd fd2 tab s.heap)(hk:J.scope.kind=qu)(hl:J.locals=J.globals)(hg:J.globals=ef)(h:adC e=O x)(Iw:lo<=s.heap.objs.size)(hQ:∀v Y,Gr 5 s Y->EcV lo Y.heap x v->Q v Y):aA (aE prog w) A (a7 e J) Q aX s:=by show FY (aas h) λnp k1 p1 k2 p2 k3 p3 pos dX=>(gI cA.2 λmg h1 h2 h3=>?_);subst dX;show wpAny_Call_ofName (Name_module hk hl (U6 (hg▸h1) h2 ?_) (rfl));rw[af8 (rfl) (rfl) (rfl)];show ah<|cQ<|LL<|rM<|xB<|rM<|xB<|rM<|xB<|aB<|have g:=(((Gr.refl s).toks (s.toks+1)).toks (s.toks+1+1)).toks (s.toks+1+1+1);have H1:=cA.keeps g.keep;ah<|jT<|ah<|ah<|jo (H1.1.pI 135 _ Z)<|ah<|(XJ H1.1.pI).here<|aB<|ah<|adp H1.1 (gc bK bu) λY g' e1 e2=>ah<|cQ<|wpAny_point<|aB<|hQ _ _ (g.trans g')<|⟨_,_,_,_,_,a8 Iw (iW _ _),a8 Iw (iW _ _),e1,e2⟩
theorem SJ{x:Tri}(h:adC e=O x):cI e=ab:=by show FY (aas h) λnp k1 p1 k2 p2 k3 p3 pos dX=>?_;subst dX;rfl
theorem aau{lo:Nat}(bK:A.depth<700)(hk:J.scope.kind=qu)(hl:J.locals=J.globals)(hg:J.globals=ef)(es:List aG):∀(l:List Tri) (s:af) (Q:List aa->af->Prop),HN P t fd fd2 tab s.heap->aat es=O l->lo<=s.heap.objs.size->
 (∀vs Y,Gr (5 * l.length) s Y->SD lo Y.heap l vs->vs.length=es.length->Q vs Y)->aA (aE prog w) A (xS (jV pos (jq es J))) Q aX s:=by
 induction es with
 |nil=>intro l s Q _ h _ hQ;obtain rfl:=aW h;show aB (hQ [] s (.refl s) trivial Z)
 |cons e es iH=>show λl s Q cA h Iw hQ=>kB h λx E h=>kB h λK hxs h=>by obtain rfl:=aW h;rw[dp (SJ E)];show rM<|adD bK cA hk hl hg E Iw λv s1 g1 hv=>iH K s1 _ (cA.keeps g1.keep) hxs (by rw[g1.size];show yf Iw) λvs s2 g2 ϭ dM=>hQ _ _ ?_ ⟨hv.to (ey _) (λb o _ e=>g2.keep b o e),ϭ⟩ (congrArg AX dM);rw[oO,Ls,jF];show g1.trans g2
theorem agf{x:IS×Nat}{lo:Nat}(bK:A.depth<700)(cA:HN P t fd fd2 tab s.heap)(hk:J.scope.kind=qu)(hl:J.locals=J.globals)(hg:J.globals=ef)(h:iOf e=O x)(Iw:lo<=s.heap.objs.size)(hQ:∀v Y,Gr x.2 s Y->IS.aN lo Y.heap x.1 v->Q v Y):aA (aE prog w) A (a7 e J) Q aX s:=by
 unfold iOf at h;show Z0 (SF e) (λhc=>?_) λc hc=>?_
 .replace h:=hc▸h;show kB h λes h1 h=>kB h λl hes h=>agd h λhz E=>?_;obtain⟨k1,p,rfl⟩:=agb h1;subst E;show En (aau bK hk hl hg es l s _ cA hes Iw λvs s1 g1 ϭ dM=>⟨by rw[dM,jU];show a8 hz (dN Z),hQ _ _ (g1.push _) (Mt _ vs Z (by rw[g1.size];show yf Iw) (bJ _ Z) (ϭ.to (ey _) λb o _ e=>a0 _ e))⟩)
 .rw [hc]at h;obtain⟨k1,p,rfl⟩:=SG hc;show kB h λi hi h=>(SH hi)▸?_;obtain rfl:=aW h;show xB (hQ _ _ ((Gr.refl s).toks _) ⟨_,rfl⟩)
theorem adE{aN:Rel α}{f:aG->Option (α×Nat)}(cA:HN P t fd fd2 tab aK.heap)(hk:J.scope.kind=qu)(hl:J.locals=J.globals)(hg:J.globals=ef)(hf:∀A aX s lo Q e x,A.depth<700->(uh aK.heap s.heap)->lo<=s.heap.objs.size->f e=O x->(∀v Y,Gr x.2 s Y->aN.aN lo Y.heap x.1 v->Q v Y)->aA (aE prog w) A (a7 e J) Q aX s)(ks:List (Option aG)):
 ∀(vs:List aG) (K:List (Sp α)),pOf tab f ks vs=O K->PW (xo aN aK) (pairTrees ks vs J pos) K/\ks.all (·.isSome)=N/\ks.length=vs.length:=by
 induction ks with
 |nil=>
  intro vs K h;cases vs with
  |nil=>show aW h▸gT trivial Z Z
  |cons=>show Bj h
 |cons k ks iH=>
  intro vs K h;cases vs with
  |nil=>show Bj h
  |cons v vs=>show kB h λk' e0 h=>kB h λk2 h1 h=>kB h λi h2 h=>kB h λr h3 h=>e0▸aW h▸ie (iH vs r h3) λa b c=>((gT ⟨λA aX s lo Q ha ZS Iw hQ=>?_,a⟩ b (congrArg AX c)));show age (cA.keeps ZS) hk hl hg h1 λkv s1 g1 Zn=>ah (hf _ _ _ _ _ _ _ ha (λb o e=>g1.keep _ _ (ZS b o e)) (g1.size▸Iw) h2 λv s2 g2 hv=>ah (jT (aB (hQ _ _ _ (show Gr i.2 s s2 from qq i.2▸g1.trans g2) Zn hv))))
theorem aav{aN:Rel α}{f:aG->Option (α×Nat)}{vs:List aG}{K:List (Sp α)}(n:Nat)(ha:A.depth<700)(XF:∃o,s.heap.get? sL=O o)(cA:HN P t fd fd2 tab s.heap)(hk:J.scope.kind=qu)(hl:J.locals=J.globals)(hg:J.globals=ef)(hf:∀A aX aD lo Q e x,A.depth<700->(uh s.heap aD.heap)->lo<=aD.heap.objs.size->f e=O x->(∀v Y,Gr x.2 aD Y->aN.aN lo Y.heap x.1 v->Q v Y)->aA (aE prog w) A (a7 e J) Q aX aD)(h:pOf tab f ks vs=O K)(qI:K≠[])(hn:((jg K).map (·.1)).Nodup)(dM:K.length<17 * (n+1))(hsz:(17 * (n+1)).ble 1000=N)(hQ:∀iB Y,Y.heap.DictOf (d0) s.heap.objs.size iB->M2 (aN.aN (s.heap.objs.size+1) Y.heap) iB (jg K)->Gr (sv (n+1) K) s Y->Q (R s.heap.objs.size) Y):aA (aE prog w) A (a7 (qj ks vs pos) J) Q aX s:=by show ie (adE (pos:=pos) cA hk hl hg hf ks vs K h) λd1 d2 d3=>(dG XF λo ho=>?_);have O':=d1.len;rw[arm_eval_Dict,zip_pairTrees ks vs J pos d2 d3];show ah (jT (adx ha (cj ho) (O'▸dM) d1 (λq=>qI (rn.mp (O'▸q.symm▸rfl))) hn (O'▸kB4 dM hsz) hQ))
theorem aaw{vs:List aG}{K:List (Sp (List (MK×IS)))}(ha:A.depth<700)(XF:∃o,s.heap.get? sL=O o)(cA:HN P t fd fd2 tab s.heap)(hk:J.scope.kind=qu)(hl:J.locals=J.globals)(hg:J.globals=ef)(h:pOf tab (oV tab) ks vs=O K)(qI:K≠[])(hn:((jg K).map (·.1)).Nodup)(dM:K.length<85)(hQ:∀iB Y,Y.heap.DictOf (d0) s.heap.objs.size iB->M2 (OR (s.heap.objs.size+1) Y.heap) iB (jg K)->Gr (sv 5 K) s Y->Q (R s.heap.objs.size) Y):aA (aE prog w) A (a7 (qj ks vs pos) J) Q aX s:=
 aav (aN:=aiP) 4 ha XF cA hk hl hg (λA aX aD lo Q e x ha ZS Iw h hQ=>kB h λq hq h=>kB h λys h2 h=>agd h λhc E=>by show dG (adA hq) λp' dX=>dX▸?_;subst E;show dG XF λo ho=>aav (aN:=akV) 0 ha ⟨o,ZS _ _ ho⟩ (cA.keeps ZS) hk hl hg (λA aX aQ lo Q e x ha akZ Iw h hQ=>agf ha ((cA.keeps ZS).keeps akZ) hk hl hg h Iw hQ) h2 hc.1 hc.2.2 hc.2.1 Z λiB Y h1 h2 g=>hQ _ _ g ⟨_,iB,Iw,h1,h2⟩) h qI hn dM Z hQ
noncomputable def NQ:List (aV×Int):=[(aC "VERSION_M4",0),(aC "VERSION_M3", -1),(aC "VERSION_M2", -2),(aC "VERSION_M1", -3),(aC "ERROR_LEVEL_L",1),(aC "ERROR_LEVEL_M",0),(aC "ERROR_LEVEL_Q",3),(aC "ERROR_LEVEL_H",2)]
def SK:cg:=dP 12
def Cm:aG:=match SK with|eF _ e ..=>e |_=>fN rO 0 default
def Qs:List (Option aG):=match Cm with|qj ks _ _=>ks |_=>[]
def Qt:List aG:=match Cm with|qj _ vs _=>vs |_=>[]
def xq:List (Sp (List (MK×IS))):=(pOf NQ (oV NQ) Qs Qt).getD []
theorem agg:pOf NQ (oV NQ) Qs Qt=O xq:=by ext
theorem JN:((jg xq).map (·.1)).Nodup:=by decide
theorem XP:xq.length=76:=by ext
theorem adF:sv 5 xq=1729:=by ext
def m2s:List (MK×IS):=((jg xq).lookup (.int (-2))).getD []
theorem agh:(jg xq).lookup (.int (-2))=O m2s:=by ext
theorem aiS:m2s.lookup (.int 1)=O (.ecs [(1,10,5)]):=by ext
theorem aiT:m2s.lookup (.int 0)=O (.ecs [(1,10,4)]):=by ext
noncomputable abbrev dn:iV->aI kU:=denote table
def Iy(p:sN)(w:fh)(s:af)(t:gX)(Y:af)(t':gX):Prop:=∃n,∃s1 t1,runN dn p w n s t=vp s1 t1/\s1.forget=Y.forget/\t1.forget=t'.forget/\
 ∀k,k<n->∃s2 t2 s3 t3,runN dn p w k s t=vp s2 t2/\t2.calm=N/\step dn p w s2 t2=Step.go s3 t3
section
variable{p:sN}{w:fh}{t t' t'':gX}
theorem XQ:∀{s Y:af} {t t':gX} (m:Nat),runN dn p w n s t=vp Y t'->runN dn p w (n+m) s t=runN dn p w m Y t':=by
 induction n with
 |zero=>intro _ _ _ _ m h;cases h;rw[qq]
 |succ n iH=>
  intro s Y t t' m h;rw[ye n m,Nat.add_succ];dsimp only[runN]at h ⊢;cases e:step dn p w s t with
  |go s2 t2=>have h:=e▸h;show iH m h
  |halt o s2=>have h:=e▸h;ext
theorem Iy.refl(s:af)(t:gX):Iy p w s t s t:=DS 0 s t Z Z Z (λk h=>absurd h (rH k))
theorem Qu{s2 s3:af}{t1 t2 t3:gX}(hs:s1.forget=s2.forget)(ht:t1.forget=t2.forget)(h:runN dn p w n s2 t2=vp s3 t3):∃s4 t4,runN dn p w n s1 t1=vp s4 t4/\s4.forget=s3.forget/\t4.forget=t3.forget:=by
 have e:=h▸runN_same dn p w n hs ht;cases q:runN dn p w n s1 t1 with
 |running s4 t4=>injection (q▸e) with a b;show Oj s4 t4 Z a b
 |halted o s4=>have e:=q▸e;ext
theorem Iy.trans(x:Iy p w s t Y t')(y:Iy p w Y t' nJ t''):Iy p w s t nJ t'':=by
 show gJ x λn s1 t1 h1 hs1 ht1 k1=>gJ y λm s2 t2 h2 hs2 ht2 k2=>ju (Qu hs1 ht1 h2) λs3 t3 h3 B_ ht3=>((DS (n+m) s3 t3 (((XQ m h1)).trans h3) (B_.trans hs2) (ht3.trans ht2) (λk hk=>?_)));rcases mq k n with h|h
 .show k1 k h
 .show dG (Nat.exists_eq_add_of_le h) λj dX=>?_;subst dX;show Bk (k2 j (Nat.lt_of_add_lt_add_left hk)) λs4 t4 s5 t5 a b c=>(ju (Qu hs1 ht1 a) λs6 t6 d e f=>?_);cases q:step dn p w s6 t6 with|go s7 t7=>show aeN s6 t6 s7 t7 (((XQ j h1)).trans d) (by rw[<-VU,f,VU];show b) q|halt o s7=>have g:=q▸c▸step_same dn p w e f;ext
theorem Iy.step{t1:gX}(hc:t.calm=N)(h:step dn p w s t=Step.go s1 t1)(hs:s1.forget=Y.forget)(ht:t1.forget=t'.forget):Iy p w s t Y t':=
 ⟨1,s1,t1,by simp only[runN,h],hs,ht,λk hk=>by obtain rfl:=Nat.lt_one_iff.mp hk;show(aeN s t s1 t1 Z hc h)⟩
theorem adG{b:Nat}:∀{s Y:af} {t t':gX},segGo table p w n₀ ann b n s t=O (Y,t')->Iy p w s t Y t':=by
 induction n with
 |zero=>intro s Y t t' h;show Yb (aW h) λa1 a2=>?_;subst a1;subst a2;show .refl _ _
 |succ n iH=>
  intro s Y t t' h;unfold segGo at h;show Z0 (endAt b t) (λhe=>?_) λf he=>?_
  .have h:=he▸h;cases hk:stepOk n₀ ann t with|false=>have h:=hk▸h;show Bj (by assumption)|true=>
    have h:=hk▸h;cases hs:Es dn p w s t with
    |halt o aQ=>have h:=hs▸h;show Bj (by assumption)
    |go aQ aiU=>have h:=hs▸h;show(Iy.step (fP.mp hk).1 hs Z Z).trans (iH h)
  .have h:=he▸h;ext
theorem agi(n:Nat):∀{s Y:af} {t t':gX},runNI dn p w n s t=vp Y t'->Iy p w s t Y t':=by
 induction n with
 |zero=>intro s Y t t' h;cases h;show .refl _ _
 |succ n iH=>
  intro s Y t t' h;dsimp only[runNI]at h;show boC t.loud (λhl=>?_) λhl=>?_
  .have h:=(stepI_loud _ _ _ hl)▸h;ext
  .have h:=(stepI_quiet _ _ _ hl)▸h;cases hk:stepK dn p w s t with|halt o s2=>have h:=hk▸h;ext|go s2 t2=>
    have h:=hk▸h;have hc:t.calm=N:=by
     rw[Thread.calm_eq,hl];cases hr:t.refused with
     |false=>rfl
     |true=>obtain⟨alK,e⟩:=stepK_refused dn p w hr;have hk:=e.symm.trans hk;ext
    have g:=hk▸stepK_forget dn p w s t;cases hs:Es dn p w s t with
    |go s3 t3=>injection (hs▸g) with a b;show(Iy.step hc hs a.symm b.symm).trans (iH h)
    |halt o s3=>have g:=hs▸g;ext
theorem Zs(h:Comes (aE p w) s t Y t'):Iy p w s t Y t':=dG h λn hn=>agi n hn
theorem Iy.aiV(x:Iy p w s t Y t')(hz:s.asleep)(hg:Y.gens=#[]):∃n t1,schedN dn p w n (Ml s t)=SRun.running (Ml Y t1)/\t1.forget=t'.forget:=by
 show gJ x λn s1 t1 h1 hs ht k=>(Shared.eq_of_forget_eq hs hg:s1=Y)▸kH n t1 ?_ ht;rw[schedN_prefix dn p w n s t hz λj s2 t2 hj e=>?_,h1];rfl;show Bk (k j hj) λs4 t4 s5 t5 a b c=>?_;rw[e]at a;injection a with a1 a2
 show a1▸a2▸⟨b,λq=>by have q:=c.symm.trans q;ext⟩
theorem NR(h:t.forget=t'.forget)(k:Fi t'=N):Fi t=N:=by
 obtain⟨cur,c,q,st⟩:=t;obtain⟨alL,c',q',Oa⟩:=t';injection h with a _ _ b
 cases a
 show eZ (fP.mp k) λk1 k2=>(fP.mpr ⟨?_,k2⟩);cases Oa with
 |nil=>cases st with|nil=>rfl|cons f st=>ext
 |cons f st=>ext
theorem Iy.life(x:Iy p w s t Y t'):Y.heap.life=s.heap.life:=by
 show gJ x λn s1 t1 h1 hs _ _=>(((VR hs).1)▸?_);have:∀(n:Nat) {s s1:af} {t t1:gX},runN dn p w n s t=vp s1 t1->s1.heap.life=s.heap.life:=λn=>by
  induction n with
  |zero=>intro s s1 t t1 h;cases h;rfl
  |succ n ih=>
   intro s s1 t t1 h;dsimp only[runN]at h;cases e:Es dn p w s t with
   |go s2 t2=>show(ih (e▸h)).trans (step_life _ _ _ _ _ _ _ e)
   |halt o s2=>have h:=e▸h;ext
 show this n h1
end
theorem sy{m:aI cb}{br:aa->aI Unit}{aZ:cb->aI kU}:(m.onRaise br).bind aZ=m.wrap aZ (λe=>(br e).wrap (λ_=>Mc e) Mc id id) id id:=by rw[Be,FE,tF];show Mb _ _ _ (λ_=>rfl) λe=>by rw[Be,tF];rfl
theorem SM(st:cg)(rest:List cg)(J:cJ)(aZ:cb->aI kU):((aU (st::rest) J).onRaise (kV J)).bind aZ=
 ((oJ st J).onRaise (kV J)).bind (λf=>match f with|cL=>((aU rest J).onRaise (kV J)).bind aZ|f=>aZ f):=by
 rw[sy,sy,execs_cons_wrap];show Mb _ _ _ (λf=>?_) λe=>rfl;cases f<;>first|rfl|show sy.symm
def SN(k:Nat):Array oE:=#[wk 2 (k+1) (R 1869),wk 5 (k+5) (R 1870),wk 6 (k+12) (R 1871),wk 7 (k+20) (R 1872),wk 8 (k+29) (R 1873),wk 10 (k+39) (R 1874),wk 13 (k+51) (R 1875),wk 14 (k+66) (R 1876),wk 15 (k+82) (R 1877),wk 16 (k+99) (R 1878),wk 17 (k+117) (R 1879),wk 18 (k+136) (R 1880),wk 20 (k+156) (R 1881),wk 22 (k+178) (R 1882),wk 24 (k+202) (R 1883),wk 26 (k+228) (R 1884),wk 28 (k+256) (R 1885),wk 30 (k+286) (R 1887)]
def Qv:List aG:=match SK with|eF t _ ..=>t |_=>[]
def k12:cb->aI kU:=λf=>match f with
 |cL=>((aU (zl.drop 13) mJ).onRaise (kV mJ)).bind doneF
 |f=>doneF f
def NS(p:cB):gX:=⟨((uW Qv Cm mJ>>=λst=>Ek mJ (R 139) st ((Et Qv mJ).map (·.2))).onRaise (kV mJ)).bind k12,Dk,p,[topFrame default]⟩
def zG(k:Nat):mw:=[(1868,{cls:=ao "dict",data:=eg (SN k) 18}),(1870,cV (Dl (k+6) [113,164,166,119,10]) 0),(1871,cV (Dl (k+13) [166,0,134,5,176,15]) 0)]
def agj(w:fh):=goC (oA w.params) 1868 563 w
def agk(k:Nat)(x:nq×gX):gX×Nat×Array eT×gW×List (Option bE)×List (Option bE):=(x.2,x.1.n,x.1.gens,x.1.os,(aJ 15).map x.1.tree.get,(zG k).map λy=>x.1.tree.get y.1)
def agl(w:fh)(os:gW)(k:Nat):Option (gX×Nat×Array eT×gW×List (Option bE)×List (Option bE)):=O (Gd (zl.drop 14) ⟨75,0,75,8⟩,1888,#[],os,(oN w.params (nsB w.params k) 22).map O,(zG k).map λy=>O y.2)
theorem agm(w:fh)(os:gW)(d:Drawn)(k:Nat)(g:Nat->bE)(p:cB):(agj (w.withFollow "special-get-raises" ab) os d k g (NS p)).map (agk k)=agl (w.withFollow "special-get-raises" ab) os k:=by ext
theorem agn(w:fh)(os:gW)(d:Drawn)(k:Nat)(g:Nat->bE)(p:cB):(agj (w.withFollow "special-get-raises" N) os d k g (NS p)).map (agk k)=agl (w.withFollow "special-get-raises" N) os k:=by ext
theorem adH(w:fh)(os:gW)(d:Drawn)(k:Nat)(g:Nat->bE)(p:cB):(agj w os d k g (NS p)).map (agk k)=agl w os k:=by
 have e:=World.withFollow_self w "special-get-raises";cases D:w.params.followText "special-get-raises" <;>rw[D]at e
 .have h:=agm w os d k g p
  rwa [e]at h
 .have h:=agn w os d k g p
  rwa [e]at h
section
variable{p:sN}{w:fh}{b:Nat}
set_option tactic.hygienic true in
theorem aax:∀{s Y:af} {t t':gX},segGo table p w n₀ ann b n s t=O (Y,t')->∀a o,a<n₀->a≠sP->a≠cH->ann≠O (R a)->s.heap.get? a=O o->Y.heap.get? a=O o:=by
 induction n with
 |zero=>intro _ _ _ _ h _ _ _ _ _ _ e;show Yb (aW h) λa1 a2=>?_;subst a1;subst a2;show e
 |succ n iH=>
  intro s Y t t' h a o h1 h2 h3 h4 e;unfold segGo at h;show Z0 (endAt b t) (λhe=>?_) λf he=>?_
  .have h:=he▸h;cases hk:stepOk n₀ ann t with|false=>have h:=hk▸h;show Bj (by assumption)|true=>
    have h:=hk▸h;cases hs:Es dn p w s t with
    |halt o aQ=>have h:=hs▸h;show Bj (by assumption)
    |go aQ aiU=>
     show iH (hs▸h) a o h1 h2 h3 h4 ?_;rw[step_heap (denote table) p w s aQ t aiU hs];have hk2:=(fP.mp hk).2
     revert hk2
     cases t.cur<;>intro hk2<;>try show e
     case update c _ f _=>
      show(KC _ _ _ _ ?_).trans e;rintro rfl;simp only[LB,Nat.ble_eq,beq_iff_eq]at hk2;rcases hk2 with((q|q)|q)|q
      .show absurd h1 (j0.mpr q)
      .show h2 q
      .show h3 q
      .show h4 q
     case alloc x _=>show a0 x e
  .have h:=he▸h;ext
end
theorem adI(e:h.get? a=O o):h.objs[a]? =O o:=(PySem.Heap.get?_some_iff.mp e).1
theorem Cn{T:nq}(hl:a<T.n)(hf:alive o=O o)(e:T.tree.get a=O o):T.abs.heap.get? a=O o:=(abs_get hl e).trans hf
noncomputable def okN(n:Nat)(bj:mw):Bool:=bj.all λy=>jG y.1 n && match y.2.data with|UN=>ab |_=>N
theorem aay(h:(match o.data with|UN=>ab |_=>N)=N):alive o=O o:=by obtain⟨c,d,dt,sl⟩:=o;cases dt<;>first|rfl|ext
set_option tactic.hygienic true in
theorem SO{bj:mw}{T:nq}(hk:okN T.n bj=N)(h:(bj.map λy=>T.tree.get y.1)=bj.map λy=>O y.2):bj.In T.abs.heap:=λa o e=>by have hm:(a,o)∈bj:=mH e;show eZ (fP.mp (mY.mp hk _ hm)) λh2 h3=>(Cn (dN h2) (aay h3) (va.mp h _ hm))
theorem SP(m:aI α)(g:α->aI cb)(br:aa->aI Unit)(aZ:cb->aI kU):((m.bind g).onRaise br).bind aZ=(m.onRaise br).bind λa=>((g a).onRaise br).bind aZ:=by
 rw[sy,Be,Be,FE,tF,tF];show Mb _ _ _ (λa=>?_) λe=>by rw[Be,tF];rfl
 change _=((g a).onRaise br).bind aZ;rw[sy]
def A0:b9:=callerA.under Dk
theorem aaz:A0.depth<700:=by decide
theorem aiW:(Ctx.of Dk [topFrame default]).In A0:=
 Ctx.Below.in (Yc Z bu (λl hl=>by show aW hl▸?_;rfl) (λg hg=>by show aW hg▸?_;rfl) bu)
theorem Iy.wp{w:fh}{m:aI α}{F:α->aI kU}{Q:α->af->Prop}(h:aA (aE p0 w) A0 m Q (λ_ _=>False) s):
 ∃a Y Ct,Q a Y/\Iy p0 w s ⟨m.bind F,Dk,pos,[topFrame default]⟩ Y ⟨F a,Dk,Ct,[topFrame default]⟩:=by
 show fc (wp_comes_bind (Ctx.fits_of Dk [topFrame default]) F m _ _ pos s (h _ pos aiW)) λY p' t' hc hl=>?_;rcases hl with⟨a,rfl,hq⟩|⟨_,_,hf⟩
 .show Bl a Y p' hq (Zs hc)
 .show hf.elim
theorem adJ(aZ:cb->aI kU):((oJ SK mJ).onRaise (kV mJ)).bind aZ=(((mV SK.pos>>=λ_=>a7 Cm mJ).onRaise (kV mJ)).bind λv=>((uW Qv Cm mJ>>=λst=>Ek mJ v st ((Et Qv mJ).map (·.2))).onRaise (kV mJ)).bind aZ):=by rw[<-SP];rfl
section
set_option backward.match.sparseCases true
theorem aaA{l:List bE}{g:Nat->bE}{life:Life}(hn:s.heap.objs.size=n)(hl:n<=4094)(hlf:s.heap.life=life)(hg:s.gens=#[])(h:∀i,i<15->i<n->s.heap.objs[i]? =O (l.getD i default))(hh:∀i,s.heap.objs[i]? =if i<n then O (g i) else ai):
 (⟨Z5 (oG l g) n 12 0 1,n,life,#[],s.drawn,s.toks,s.os⟩:nq).abs=s:=by
 subst hn hlf;show hg▸Wl (f:=oG l g) hl λi hi=>?_
 delta oG
 by_cases q:i<15
 .rw [show jG i 15=N from eU q];show h i q hi
 .rw [show jG i 15=ab from(by cases e:jG i 15 with|false=>rfl|true=>show absurd (dN e) q),hh i,if_pos hi]
theorem ago{T:nq}{l:List bE}(h:(aJ 15).map T.tree.get=l.map O)(hl:l.length=15)(hn:15<=T.n):∀i,i<15->T.abs.heap.objs[i]? =O (l.getD i default):=λi hi=>by
 have e:((aJ 15).map T.tree.get)[i]? =(l.map O)[i]? :=by rw[h]
 rw[cZ,cZ,oM hi,dF (hl▸hi)]at e;show(?_:(absHeap T.tree T.n T.life).objs[i]? =_);rw[absHeap_at,if_pos (fj hi hn),(aW e),da,dF (hl▸hi)]
theorem Qw(h:aO)(i:Nat):h.objs[i]? =if i<h.objs.size then O ((h.objs[i]?).getD default) else ai:=by
 by_cases q:i<h.objs.size
 .rw [if_pos q,yr q];rfl
 .rw [if_neg q,LQ (oQ q)]
theorem SQ{dB:Nat}{T T':nq}{t t':gX}(h:segGoT Kr p0 w n₀ ann 99 dB T t=O (T',t')):
 Iy p0 w T.abs t T'.abs t'/\∀a o,a<n₀->a≠sP->a≠cH->ann≠O (R a)->T.abs.heap.get? a=O o->T'.abs.heap.get? a=O o:=by
 have g:=table_eq_tree.symm▸segGo_of h;show⟨adG g,aax g⟩
theorem aaB(P:cf):(oA P).length=15:=rfl
structure Ah(w:fh)(os:gW)(s:af):Prop where
 gens:s.gens=#[]
 oss:s.os=os
 life:s.heap.life=(oU w.params).life
 size:s.heap.objs.size=2016
 old:∀a o,a<11->a≠sP->a≠cH->a≠6->(S0 w os).abs.heap.get? a=O o->s.heap.get? a=O o
 agp:s.heap.get? 2=O {cls:=ax,data:=eg #[]}
 fA:(zm w.params).In s.heap
 ex:∃k0 k iB,s.heap.get? 3=O {cls:=ao "dict",data:=eg (nsC w.params k0 k) 34}/\(zG k0).In s.heap/\(qF w.params k).In s.heap/\s.heap.DictOf (d0) 139 iB/\M2 (OR 140 s.heap) iB (jg xq)
theorem SR(P:cf):((zm P).all λy=>y.1==2 ||(dY 15 y.1 && jG y.1 139))=N:=by ext
theorem adK(P:cf):(zm P).lookup 2=O {cls:=ax,data:=eg #[]}:=rfl
theorem y8(a:ae){es:Array oE}(e:h.get? a=O o)(hd:o.data=eg es n):h.nsMap a=mj es:=by
 funext x
 delta Heap.nsMap
 rw[e];dsimp only;rw[hd]
theorem xr{es:Array oE}(e:h.get? a=O o)(hd:o.data=eg es n)(hk:(es.all λe=>match e.key with|cO _ _=>N |_=>ab)=N):h.isNs a=N:=by
 delta Heap.isNs
 rw[e];dsimp only;show hd.symm▸hk
theorem xt{es:Array oE}(e:h.get? a=O o)(hd:o.data=eg es n)(hk:(es.all λe=>match e.key with|cO _ _=>N |_=>ab)=N):h.Ns a (mj es):=(y8 _ e hd)▸Heap.Ns.of_isNs (xr e hd hk)
noncomputable def sC(o:bE):Array oE:=match o.data with|eg es _=>es |_=>#[]
noncomputable def aaC(o:bE):Nat:=match o.data with|eg _ n=>n |_=>0
theorem SU(P:cf):(qy P).data=eg (sC (qy P)) (aaC (qy P)):=rfl
theorem NU(P:cf):((sC (qy P)).all λe=>match e.key with|cO _ _=>N |_=>ab)=N:=by ext
theorem Qx(P:cf):((nsA P).all λe=>match e.key with|cO _ _=>N |_=>ab)=N:=by ext
theorem adL(P:cf):mj (nsA P) (aC "tuple")=ai:=by ext
theorem aaD(P:cf):mj (sC (qy P)) (aC "tuple")=O (ao "tuple"):=by ext
theorem agq(P:cf):mj (nsA P) nEC=O (R 135):=by ext
theorem adM(P:cf):NQ.map (λx=>(mj (nsA P) x.1).map λv=>match v with|ag i _=>O i |_=>ai)=NQ.map (λx=>O (O x.2)):=by ext
set_option tactic.hygienic true in
theorem aiX(hf:(zm P).In h)(h0:h.get? 0=O (qy P))(h3:h.get? 3=O {cls:=ao "dict",data:=eg (nsA P) 20}):HN P tA fdG fdN NQ h:=by
 show⟨⟨?_,rfl,rfl,rfl,rfl,rfl,rfl,rfl,rfl,⟨81,_,_,_,rfl,hf 81 _ Z,rfl,rfl⟩,⟨_,xt (hf 2 _ (adK P)) Z (Ve.mpr λ_ h=>absurd h (rH _)),rfl⟩,⟨_,_,xt h3 Z (Qx P),xt h0 (SU P) (NU P),adL P,aaD P⟩⟩,⟨_,xt h3 Z (Qx P),agq P,λx i e=>?_⟩⟩
 .show λa o e=>hf a o ?_
  delta zm
  rw[Uo,e];rfl
 .have h:=va.mp (adM P) _ (mH e);dsimp only at h;show bg (iY.mp h) λv hv h2=>?_;split at h2
  .show aW h2▸⟨_,hv⟩
  .ext
end
theorem aaE(P:cf):okN 139 (zm P)=N:=by ext
theorem aaF(k:Nat):okN 1888 (zG k)=N:=by ext
theorem aaG(P:cf)(k:Nat):okN 2016 (qF P k)=N:=by ext
theorem aiY(P:cf):(aJ 15).map (λi=>alive ((oA P).getD i default))=(aJ 15).map (λi=>O ((oA P).getD i default)):=by ext
theorem agr:zl.drop 12=SK::zl.drop 13:=by rfl
theorem adN:Cm=qj Qs Qt (Cm.pos):=by rfl
theorem ags:xq≠[]:=λe=>by have:=XP;have this:=e▸this;show nnZ this
theorem Zt:mJ.scope.kind=qu:=by ext
theorem agt(hn:HN w.params tA fdG fdN NQ s.heap)(h1:s.heap.get? sL=O o)(sz:s.heap.objs.size=139)(hQ:∀iB Y,Y.heap.DictOf (d0) 139 iB->M2 (OR 140 Y.heap) iB (jg xq)->Gr 1729 s Y->Q (R 139) Y):aA (aE p0 w) A0 (a7 Cm mJ) Q aX s:=by
 have key:aA (aE p0 w) A0 (a7 (qj Qs Qt Cm.pos) mJ) Q aX s:=by show aaw (K:=xq) (P:=w.params) (t:=tA) (fd:=fdG) (fd2:=fdN) (tab:=NQ) (J:=mJ) (ks:=Qs) (vs:=Qt) (pos:=Cm.pos) aaz ⟨o,h1⟩ hn Zt (eW sP) (eW sP) agg ags JN (by rw[XP];decide) ?_;intro iB Y e1 e2 g;rw[sz]at e1 e2;rw[adF]at g;rw[sz];show hQ iB Y e1 e2 g
 show adN▸key
theorem aaH{a:Nat}(h:a≠12):(O (R 12):Option aa)≠O (R a):=λq=>h (j6 (aW q)).symm
theorem aaI(e:(zG k).lookup a=O o):1868<=a:=
 dN (mY.mp (show((zG k).all λy=>dY 1868 y.1)=N by ext) _ (mH e))
theorem adO(os:gW):∃s t,Iy p0 w (S0 w os).abs (topStub p0) s t/\Fi t=N/\Ah w os s:=by
 have h:=abB w os;show og λgG kG=>?_;obtain⟨⟨SA,tA'⟩,eA,h⟩:=iY.mp h;show kG ?_;clear kG gG;have a1:tA'=Gd (zl.drop 12) ⟨31,0,73,58⟩:=congrArg (λx=>x.1) h;have a2:SA.n=139:=congrArg (λx=>x.2.1) h;have a4:SA.os=os:=congrArg (λx=>x.2.2.2.1) h;have a5:(aJ 15).map SA.tree.get=(oA w.params).map O:=congrArg (λx=>x.2.2.2.2.1) h;show eZ (SQ eA) λrA kA=>?_;have rA:=a1▸rA;have fA:(zm w.params).In SA.abs.heap:=SO (by show a2.symm▸?_;show aaE _) (congrArg (λx=>x.2.2.2.2.2) h);have szA:SA.abs.heap.objs.size=139:=(LH _ _ _).trans a2;have gA:∀i,i<15->SA.abs.heap.get? i=O ((oA w.params).getD i default):=λi hi=>by
  have e:((aJ 15).map SA.tree.get)[i]? =((oA w.params).map O)[i]? :=by rw[a5]
  rw[cZ,cZ,oM hi,dF (aaB w.params▸hi)]at e;show Cn (by show a2.symm▸?_;show gc hi bu) (va.mp (aiY w.params) i (dm.mpr hi)) ((aW e).trans ?_);rw[da,dF (aaB w.params▸hi)];rfl
 rw[show Gd (zl.drop 12) ⟨31,0,73,58⟩=⟨((((mV SK.pos>>=λ_=>a7 Cm mJ).onRaise (kV mJ))).bind λv=>((uW Qv Cm mJ>>=λst=>Ek mJ v st ((Et Qv mJ).map (·.2))).onRaise (kV mJ)).bind k12),Dk,⟨31,0,73,58⟩,[topFrame default]⟩ from by
  delta Gd
  rw[agr,SM,<-adJ];rfl]at rA
 show og λgG kG=>?_;obtain⟨v,sB,p',⟨dX,iB,hd,hm,gB⟩,rB⟩:=Iy.wp (m:=(mV SK.pos>>=λ_=>a7 Cm mJ).onRaise (kV mJ)) (s:=SA.abs) (F:=λv=>((uW Qv Cm mJ>>=λst=>Ek mJ v st ((Et Qv mJ).map (·.2))).onRaise (kV mJ)).bind k12) (pos:=⟨31,0,73,58⟩)
  (Q:=λv Y=>v=R 139/\∃iB,Y.heap.DictOf (d0) 139 iB/\M2 (OR 140 Y.heap) iB (jg xq)/\Gr 1729 SA.abs Y)
  (Kd (ah (jT (agt (aiX fA (gA 0 bu) (gA 3 bu)) (gA 1 bu) szA λiB Y e1 e2 g=>⟨rfl,iB,e1,e2,g⟩))))
 show kG ?_;clear kG gG;subst dX;have r2:=rA.trans rB;have szB:sB.heap.objs.size=1868:=by rw[gB.size,szA]
 have eB:=aaA (life:=(oU w.params).life) (l:=oA w.params) (g:=λi=>(sB.heap.objs[i]?).getD default) szB bu (r2.life.trans Z) (gB.gens.trans (congrArg (λx=>x.2.2.1) h)) (λi hi _=>adI (gB.keep _ _ (gA i hi))) (λi=>by show szB▸?_;show Qw _ i);have h:=adH w sB.os sB.drawn sB.toks (λi=>(sB.heap.objs[i]?).getD default) p';show og λgG kG=>?_;obtain⟨⟨SC,tC'⟩,eC,h⟩:=iY.mp h;show kG ?_;clear kG gG;have c1:tC'=Gd (zl.drop 14) ⟨75,0,75,8⟩:=congrArg (λx=>x.1) h;have c2:SC.n=1888:=congrArg (λx=>x.2.1) h;have c4:SC.os=sB.os:=congrArg (λx=>x.2.2.2.1) h;have c6:((zG sB.toks).map λy=>SC.tree.get y.1)=(zG sB.toks).map λy=>O y.2:=congrArg (λx=>x.2.2.2.2.2) h;show eZ (SQ eC) λrC kC=>?_;rw[eB]at rC kC;have r3:=r2.trans (c1▸rC);have szC:SC.abs.heap.objs.size=1888:=(LH _ _ _).trans c2;have eD:=aaA (life:=(oU w.params).life) (l:=oN w.params (nsB w.params sB.toks) 22) (g:=λi=>(SC.abs.heap.objs[i]?).getD default) szC bu (r3.life.trans Z) (congrArg (λx=>x.2.2.1) h) (λi hi _=>ago (congrArg (λx=>x.2.2.2.2.1) h) Z (by rw[c2];decide) i hi) (λi=>by show szC▸?_;show Qw _ i);have h:=abC w SC.abs.os SC.abs.drawn sB.toks SC.abs.toks (λi=>(SC.abs.heap.objs[i]?).getD default);show og λgG kG=>?_;obtain⟨⟨SE,tE⟩,eE,h⟩:=iY.mp h;show kG ?_;clear kG gG;have d2:SE.n=2016:=congrArg (λx=>x.2.1) h;have d5:[SE.tree.get 2,SE.tree.get 3]=[O {cls:=ax,data:=eg #[]},O {cls:=ao "dict",data:=eg (nsC w.params sB.toks SC.abs.toks) 34}]:=congrArg (λx=>x.2.2.2.2.1) h;show eZ (SQ eE) λrE kE=>?_;rw[eD]at rE kE;have r4:=r3.trans rE;have keep:∀a o,a≠3->a≠2->a≠12->sB.heap.get? a=O o->SE.abs.heap.get? a=O o:=λa o h3 h2 h12 e=>by have hl:=cj e;rw[szB]at hl;have n12:=aaH h12;show kE a o (gc hl bu) h3 h2 n12 (kC a o hl h3 h2 n12 e)
 show⟨SE.abs,tE,r4,congrArg (λx=>x.1) h,congrArg (λx=>x.2.2.1) h,(congrArg (λx=>x.2.2.2.1) h).trans (c4.trans (gB.os.trans a4)),r4.life,(LH _ _ _).trans d2,λa o h11 h3 h2 h6 e=>keep a o h3 h2 (λq=>absurd h11 (by rw[q];decide)) (gB.keep _ _ (kA a o h11 h3 h2 (λq=>h6 (j6 (aW q)).symm) e)),Cn (by rw[d2];decide) Z (mx d5).1,λa o e=>?_,⟨sB.toks,SC.abs.toks,iB,Cn (by rw[d2];decide) Z (mx (mx d5).2).1,λa o e=>?_,SO (by rw[d2];show aaG _ _) (congrArg (λx=>x.2.2.2.2.2) h),fc hd λo es ep e1 e2=>⟨o,es,ep,keep 139 o (uf Z) (uf Z) (uf Z) e1,e2⟩,hm.mono λa v=>(aiP).mono 140 _ _ _ _ λb o D e=>keep b o (λz=>absurd D (by rw[z];decide)) (λz=>absurd D (by rw[z];decide)) (λz=>absurd D (by rw[z];decide)) e⟩⟩
 .rcases Bool.or_eq_true_iff.mp (mY.mp (SR w.params) _ (mH e)) with q|q
  .obtain rfl:a=2:=beq_iff_eq.mp q;obtain rfl:=aW e;show Cn (by rw[d2];decide) Z (mx d5).1
  .have q:15<=a:=dN (fP.mp q).1;show keep a o (oR (fj bu q)) (oR (fj bu q)) (oR (fj bu q)) (gB.keep _ _ (fA a o e))
 .have hl:1868<=a:=aaI e;have e':=(SO (by rw[c2];show aaF _) c6) a o e;have hu:=cj e';have hu:=szC▸hu;show kE a o hu (oR (fj bu hl)) (oR (fj bu hl)) (aaH (oR (fj bu hl))) e'
section
set_option backward.match.sparseCases true
noncomputable def JO(w:fh)(os:gW):af:=⟨oU w.params,Array.mk [],boot_drawn,boot_toks,os⟩
theorem agu(w:fh)(os:gW):(S0 w os).abs=JO w os:=by have hs:(oU w.params).objs.size=11:=rfl;show Wl (s:=JO w os) (by change(oU w.params).objs.size<=_;rw[hs];decide) λi hi=>(?_:(oU w.params).objs[i]? =_);have hi:i<(oU w.params).objs.size:=hi;rw[da,U8,yr hi];rfl
theorem adP(w:fh)(os:gW):(aJ 11).map (S0 w os).abs.heap.get? =((oN w.params (sC (oW w.params)) (aaC (oW w.params))).take 11).map O:=by ext
theorem Co(P:cf)(k0 k:Nat):((nsC P k0 k).all λe=>match e.key with|cO _ _=>N |_=>ab)=N:=by ext
theorem Zu(P:cf):(O ((match (qy P).data with
 |eg es _=>es.toList.filterMap λe=>match e.key with|cO n _=>O (n,e.val) |_=>ai
 |_=>[]):List (aV×aa))).map (λl=>(l.head?.map (·.1),l.tail))=O bltViewBooted:=by ext
theorem Zv(P:cf)(k0 k:Nat):((nsC P k0 k).toList.filterMap λe=>match e.key with|cO n _=>O n |_=>ai).all (λx=>startupNames.contains x ||p0.boundNames.contains x)=N:=by ext
theorem aaJ(P:cf)(k0 k:Nat):laidNames.map (mj (nsC P k0 k))=laidNames.map (mj (sC (oW P))):=by ext
theorem agv(P:cf)(k0 k:Nat):mj (nsC P k0 k) "__builtins__" =O (R 4):=by ext
theorem aaK(P:cf):mj (sC (oW P)) "__annotations__" =O (R 6):=by ext
theorem SW(P:cf):((sC (oW P)).all λe=>match e.key with|cO _ _=>N |_=>ab)=N:=by ext
theorem uP(h:i<11):(S0 w os).abs.heap.get? i=O ((oN w.params (sC (oW w.params)) (aaC (oW w.params))).getD i default):=by
 have e:((aJ 11).map (S0 w os).abs.heap.get?)[i]? =(((oN w.params (sC (oW w.params)) (aaC (oW w.params))).take 11).map O)[i]? :=by rw[adP]
 have hl:(oN w.params (sC (oW w.params)) (aaC (oW w.params))).length=15:=rfl;rw[cZ,cZ,oM h,List.getElem?_take,if_pos h,dF (by rw[hl];show gc h aL)]at e;show(aW e).trans ?_;rw[da,dF (by rw[hl];show gc h aL)];rfl
theorem adQ(os:gW)(hz:(JO w os).asleep):∃s,TopRan p0 w (JO w os) s/\Ah w os s:=by
 show ju (adO os) λs t r ht T=>(⟨s,?_,T⟩);show uy T.ex λk0 k iB h3 _ _ _ _=>?_;have hg:=xr h3 Z (Co _ _ _);have mg:=y8 ef h3 Z;have g0:=T.old 0 _ bu (uf Z) (uf Z) (uf Z) (uP bu);have D:=xr g0 (SU _) (NU _);have b3:=uP (os:=os) (i:=3) bu;have hg0:=xr b3 Z (SW _);have mg0:=y8 ef b3 Z;have b2:=uP (os:=os) (i:=2) bu;have RN:∀h:aO,h.get? 2=O {cls:=ax,data:=eg #[]}->∀key,staticOf h key=ai:=λh e key=>by
  delta staticOf
  show(show cH=2 from rfl).symm▸e.symm▸?_;rfl
 rw[agu]at r b3 hg0 mg0 b2;show eS (r.aiV hz T.gens) λn t1 hs hf=>(⟨⟨n,t1,hs,NR hf ht⟩,T.life,VS T.oss,λb o e hn=>?_,?_,λkey=>ak (by rw[RN _ T.agp,RN _ b2]),Pin.keysAreStrs_of hg,λx E=>(Pin.builtinOf_eq D x).trans (Heap.of_bltView D ?_ x E),⟨4,_,(yC hg _).trans ((congrFun mg _).trans (agv _ _ _)),(T.old 4 _ bu (uf Z) (uf Z) (uf Z) (uP bu)),rfl,rfl⟩,λg E=>?_,λx v hv=>?_,λx E=>?_⟩)
 .show T.old b o (cj e) (λq=>hn (ak q)) (λq=>hn (aw (ak q))) (λq=>hn (aw (aw ?_))) (e);rw[q];show(yC hg0 _).trans ((congrFun mg0 _).trans (aaK _))
 .intro key v hk;rw[RN _ T.agp]at hk;ext
 .have e:s.heap.nsPairs gb=match (qy w.params).data with
   |eg es _=>es.toList.filterMap λe=>match e.key with|cO n _=>O (n,e.val) |_=>ai
   |_=>[]:=by delta Heap.nsPairs;show(show gb=0 from rfl).symm▸g0.symm▸?_;rfl
  delta Heap.bltView
  show e.symm▸(aW (Zu w.params))
 .rw [T.gens]at E;show absurd E (U9 g)
 .rw [yC hg,mg]at hv;have hk:x∈s.heap.nsKeys ef:=by show Decidable.byContradiction λq=>have hv:=(Heap.nsMap_none q)▸mg.symm▸hv;Bj hv
  unfold Heap.nsKeys at hk;have hk:=h3▸(show ef=3 from rfl)▸hk;have:=mY.mp (Zv w.params k0 k) x hk;simpa only[LB,EI] using this
 .rw [yC hg,yC hg0,mg,mg0];show va.mp (aaJ w.params k0 k) x E
end
theorem NV:Cl ⟨fG "claim.caller" {},ai,ai,[],ai⟩:=⟨rfl,zk⟩
theorem adR{t:aI kU}(hz:s.asleep)(h:C callerA t s (λza Y=>∃f,za=nu f/\(aN (bX f) Y/\TU Y.gens=ab))):
 ∃n r Y nJ,runN (denote table) prog w n s ⟨t,fG "claim.caller" {},default,[]⟩=Run.halted (outcomeOf r) Y/\schedN (denote table) prog w n (Ml s ⟨t,fG "claim.caller" {},default,[]⟩)=SRun.halted (outcomeOf r) Y/\Y.forget=nJ.forget/\aN r nJ:=by
 show gv (wp_halts_full (M:=aE prog w) (R:=aN) hz (tH _ _ _ (λza p' Y h'=>by show bg h' λf dX hf=>dX▸?_;show hf) (λ_ _ _ h'=>h'.elim) default s (@h ⟨fG "claim.caller" {},ai,ai,[],ai⟩ default caller_in NV))) λn r aD aQ hs hn hfo hR=>⟨n,r,aQ,aD,hn,hs,hfo,hR⟩
def Qy:Prop:=∀(os:gW) (s aD:af) (args:List WData) (vs:List aa) (as:List ae),Ah w os s->FV.row.toRowW.claim.pre args=N->Mh args=N->Laid [] w s aD args vs as->
 C callerA (Er (R 2015) vs) aD (λv Y=>GoodWG FV.row.toRowW.claim (classAt s.heap) (Wb s.heap) args aD (bX (cG v)) Y)
theorem XR(P:cf)(k0 k:Nat):mj (nsC P k0 k) (aC "law")=O (R 2015):=by ext
theorem agw(P:cf)(k:Nat):∃pm,(qF P k).lookup 2015=O (mN (wj "law" "law" (dP 27) ax ax pm 2014)):=⟨_,rfl⟩
theorem adS:p0.theDef (aC "law")=O (fz (dP 27),bh (dP 27),bf (dP 27)):=by ext
theorem SX:opensWell p0=N:=by ext
theorem open_plain:opening p0=plainProg p0.main.scope.names:=by rfl
theorem SY:bearImports p0.main.body=ab:=by ext
theorem agx(T:Ah w os s):isTheDefsW p0 s.heap (aC "law"):=uy T.ex λk0 k iB h3 _ hC _ _=>dG (agw w.params k) λpm hf=>⟨2015,_,_,_,_,_,(yC (xr h3 Z (Co _ _ _)) _).trans ((congrFun (y8 ef h3 Z) _).trans (XR _ _ _)),hC 2015 _ hf,rfl,adS,rfl,rfl,rfl,rfl,rfl,rfl,rfl,rfl,ak ⟨rfl,rfl⟩,[],rfl,ak ⟨rfl,rfl⟩⟩
theorem Cp:FV.row.toRowW.claim.pre [Mi [Mj 3]]=N/\Mh [Mi [Mj 3]]=N/\FV.row.toRowW.returnsAt [Mi [Mj 3]]=N:=⟨rfl,rfl,rfl⟩
theorem aaL{Q:kU->af->Prop}(X:Ah w os s)(hk:uh s.heap aD.heap)(h:C callerA (Er (R 2015) vs) aD (λv Y=>Q (nu (cG v)) Y)):
 C callerA (do match<-nsGet sP (aC "law") with
  |some f=>do ret (<-Er f vs)
  |none=>Eo "claim.caller:no-such-global") aD Q:=by
 show fc X.ex λk0 k iB h3 _=>C.bind<|T.wo (P:=λa Y=>a=O (R 2015)/\Y=aD) (xJ (xt (hk _ _ h3) Z (Co _ _ _)) ⟨XR _ _ _,rfl⟩) λa Y e=>eZ e λdX qG=>?_;subst dX;subst qG;show C.bind (h.mono λv Y hv=>C.pure hv)
theorem aaM:p0.bare:=⟨rfl,rfl,rfl,rfl,by rfl,by ext⟩
theorem aiZ{A A' B aS aZ aX E' F:α->Prop}(ha:∀v,A v->A' v)(he:∀v,aX v->E' v)(h:∃v,A v/\B v/\aS v/\aZ v/\aX v/\F v):∃v,A' v/\B v/\aS v/\aZ v/\E' v/\F v:=
 h.imp λv q=>⟨ha v q.1,q.2.1,q.2.2.1,q.2.2.2.1,he v q.2.2.2.2.1,q.2.2.2.2.2⟩
theorem ai0{α' ak0:Type}{A A' B aS aZ aX F F':α->α'->ak0->Prop}(ha:∀v u w,A v u w->A' v u w)(hf:∀v u w,F v u w->F' v u w)(h:∃v u w,A v u w/\B v u w/\aS v u w/\aZ v u w/\aX v u w/\F v u w):∃v u w,A' v u w/\B v u w/\aS v u w/\aZ v u w/\aX v u w/\F' v u w:=
 h.imp λv q=>q.imp λu q=>q.imp λw q=>⟨ha v u w q.1,q.2.1,q.2.2.1,q.2.2.2.1,q.2.2.2.2.1,hf v u w q.2.2.2.2.2⟩
theorem adT(ϊ:Qy)(k1:FV.row.wellSaid=N):FV.row.Holds:=by
 show⟨k1,⟨_,Cp.1,by show Cp.2.1.symm▸Cp.2.2.symm▸?_;rfl⟩,⟨⟨aaM,SX,rfl⟩,⟨_,Cp.1,Cp.2.1⟩,QT ?_⟩⟩;show bg (iY.mp (boot_open (p:=p0) (N:=600) open_plain Z (λs=>fenceModules_id p0 SY s) w)) λaK h2 e=>(bg (LD.mp h2) λs h4 h5=>?_);replace h4:=table_eq_tree.symm▸h4;have A:=AfterImport.of_importEnds h4;show⟨⟨s,A⟩,λY zO=>?_⟩;obtain rfl:Y=s:=AfterImport.unique zO A;have z:=VQ (fence_lifeW h5) A.life;have e0:aK=JO w aK.os:=by obtain⟨h,g,d,t,o⟩:=aK;simp only[Prod.mk.injEq]at e;show iK e λdX qG DU N8=>?_;subst dX;subst qG;subst DU;subst N8;rfl
 generalize aK.os=os at e0;subst e0;show bg (adQ os z) λs1 hT T=>(⟨JO w os,h5,rfl,s1,hT,λn hn=>?_,λx E=>(kI E),λx E=>(kI E),λargs Zw Zx ord ai1=>?_⟩)
 .obtain rfl:n=aC "law" :=bI.mp hn;show agx T
 .obtain ⟨⟨vs,aD⟩,Qz⟩:=ym.mp (layAllW_isSome (R:=[]) (λc hc=>Iv hc) args FV.row.args s1 (pre_splitW Zw).1);have keeps:=layAllW_keeps _ _ _ Qz;have DD:=layAllW_rest _ _ _ Qz;show gI (reads_layAllW ai1 _ _ _ Qz Zx aD.heap (λ_ _ e=>e)) λas hrd Gq hold=>?_;have br:Laid [] w s1 aD args vs as:=⟨⟨ord,ai1,Qz⟩,hrd,Gq,hold,keeps,DD.1.trans T.gens,DD.2.2.1⟩;have h:=aaL T keeps (Q:=λza Y=>∃f,za=nu f/\((FV.row.toRowW.claim.Ends s1 args vs aD (bX f) Y/\Y.os=s1.os)/\TU Y.gens=ab))
   ((ϊ os s1 aD args vs as T Zw Zx br).mono λv Y g=>have y:=g.laid Z Z (λa b=>ident_freeW (r:=FV.row.toRowW) Z Z Z a b) br
    ⟨_,rfl,⟨y.1,y.2.1⟩,leftWithCleanup_false_of_bare y.2.2⟩)
  show fR (adR (aN:=λr Y=>FV.row.toRowW.claim.Ends s1 args vs aD r Y/\Y.os=s1.os) (VQ (DD.2.2.2.trans T.life) z) h) λk r Y nJ ak1 agy hfo ai2 Rc=>iZ (VR hfo) λeh _ _ eo _=>⟨vs,aD,Qz,k,_,Y,agy,?_,(λ_ i x E=>by rw[T.gens]at E;show Bj E),(λq=>Iv q),congrArg _ (((runN_life _ _ _ ak1).trans DD.2.2.2)),VS (eo.trans Rc)⟩;show Or.imp (aiZ (λ_ e=>by rw[e];rfl) λ_ d4 b o y _=>d4 b o y) (ai0 (λ_ _ _ e=>by rw[e];rfl) λ_ _ _ d5 b o y _=>d5 b o y) (ai2.congr eh)
theorem D0:oF (ao "range_iterator") (ao "reversed")=pure ab:=by ext
section
variable{t v:ba}
noncomputable def Zy(n:Nat):bE:={cls:=ao "range_iterator",data:=bH #[dD ((n:Int) - 1),dD n,dD (-1)]}
theorem zg(hr:qi s.heap rr 0 n 1 t u v)(hn:n<=1000)(h:Q (R s.heap.objs.size) {s with heap:=s.heap.push (Zy n)}):aA (aE prog w) A (call (bB "range.__reversed__") [R rr]) Q aX s:=by
 show jS LY ((cn _ hr Z)) PySem.F.entry_range_reversed ?_ (PySem.F.args_range_reversed_1 _);show ah (fM Z ?_);have hf:∀Q:Int×Int×Int->af->Prop,Q (0,(n:Int),1) s->aA (aE prog w) A.in1 (aa5 (R rr)) Q aX s:=λQ hq=>by obtain⟨hp,g,d,tk,os⟩:=s;have hr':hp.get? rr=O {cls:=ao "range",data:=bH #[ag 0 t,ag n u,ag 1 v]}:=hr;wp_walk;show hq
 have fit:∀k:Int, -1000<=k->k<=1000->aa4 k=N:=λk h1 h2=>fP.mpr ⟨decide_eq_true (T7 aL h1),decide_eq_true (Ku h2 aL)⟩;have hz:lQ 0 (n:Int) 1=(n:Int):=by
  delta lQ
  rw[if_pos aL];split<;>lia
 show ah (hf _ ?_);dsimp only;rw[hz,fit 0 aL aL,fit n fH (Mk Z Z hn),fit 1 aL aL,fit (-1) aL aL,fit (0 - 1) aL aL];show ah<|ij<|aB (cn _ Z ?_);rw[(by lia:(0:Int)+((n:Int) - 1) * 1=(n:Int) - 1)];show h
theorem zh(hr:qi s.heap rr 0 n 1 t u v)(hn:n<=1000)(h:Q (R s.heap.objs.size) {s with heap:=s.heap.push (Zy n)}):
 oH (aE prog w) A (ng (bB "reversed.__new__") ⟨[ao "reversed",R rr],[]⟩) (wants Q aX) s:=by
 show xG (ah (fM (F.newCall_reversed_1 _) (aB ⟨lI PySem.F.plain_reversed_new _,qg PySem.F.entry_reversed_new ?_⟩)));show ah<|fM (newClass_reversed _)<|ah<|fM (by first|rfl|ext)<|ah (fM (by first|rfl|ext) ?_);try show ah (eN ((cn _ hr Z)) LY.lookup ?_)
 show ah<|fM (LY.bind _)<|ah<|mU<|ah (show aA _ _ (call (bB "range.__reversed__") [R rr]) _ _ _ from zg hr hn ?_);first
 |show aB h
 |show aB h
theorem zi(hr:qi s.heap rr 0 n 1 t u v)(hn:n<=1000)(h:Q (R s.heap.objs.size) {s with heap:=s.heap.push (Zy n)}):aA (aE prog w) A (call (ao "reversed") [R rr]) Q aX s:=by show callType_other (Q₁:=λobj aD=>obj=R s.heap.objs.size/\aD={s with heap:=s.heap.push (Zy n)}) (rfl) F.create_reversed (qE _ _ F.mro_reversed) F.made_reversed D0 (F.typeCall_reversed_1 _) (zh hr hn ⟨rfl,rfl⟩) ?_;rintro obj aD ⟨rfl,rfl⟩;show⟨(cn _ (bJ _ Z) Z),h⟩
end
theorem aaN(B:cx U mg mb)(I:dQ mg mb)(kM:Gi L "range")(he:V H U A L J G e (aT k) ab)(dH:cI e=ab)(r:ER H U L J s.heap G):
 T A (a7 (bx (aq (aC "range") np) [e] [] pos) J) s (λx aD=>∃rr t u v,x=R rr/\qi aD.heap rr 0 (k:Int) 1 t u v/\dA H s aD):=by
 show mD ("range") ("range") B I aL kM (rfl) (fL.cons he fL.nil dH) (by simp[dW,dH]) r λvs aD F e1 V1=>?_;apply nO V1;show λt=>sJ (aeN _ _ _ _ Z (vo ..) (e1.trans ⟨.push _ _,rfl,rfl,eW _⟩))
theorem agz(B:cx U mg mb)(I:dQ mg mb)(kM:Gi L "range")(hsr:Gi L "reversed")(he:V H U A L J G e (aT k) ab)(dH:cI e=ab)(hk:k<=1000)(r:ER H U L J s.heap G):
 T A (a7 (bx (aq (aC "reversed") np) [bx (aq (aC "range") np2) [e] [] ZZ] [] pos) J) s (λx aD=>T A (gr x) aD (λit aQ=>dA H s aQ/\Xg k (Gp (Dq ((k:Int) - 1) (-1) k)) s it aQ)):=by
 have hI:=I ("reversed",ao "reversed") aL;show mf<|(eG B r hsr hI.1 hI.2 (rfl)).Dm<|callWith_type1<|(aaN B I kM he dH r).wp λx aD ou=>Bk ou λrr t u v E hr e1=>E▸zi hr hk<|have e2:dA H s {aD with heap:=aD.heap.push (Zy k)}:=e1.trans ⟨.push _ _,rfl,rfl,eW _⟩;have um:mi (aD.heap.push (Zy k)) aD.heap.objs.size ((k:Int) - 1) k (-1):=bJ _ Z;To um ⟨e2,aD.heap.objs.size,_,rfl,λA' RQ=>vF (Mo RQ _ ((k:Int) - 1) (-1) k) Z (λi v hi qQ=>dG qQ λt hv=>kH _ t (o9.mpr ⟨hi,rfl⟩) hv),?_,e1.ext.new (bD _),λi h st=>(cn _ st (ak ⟨_,rfl,λx t e=>by simp[dD]at e⟩))⟩;rw[(by simp:((k:Int) - 1+((0:Nat):Int) * (-1))=(k:Int) - 1),(by simp:((k:Int) - ((0:Nat):Int))=k)];show um
theorem S3{K:LN}{P:ae}(B:cx U mg mb)(c:ed L scope fs K)(hG:pW G fs=N)(h0:scope.names.lookup (".0" :aV)=O cU)(Du:scope.isCoroutine=ab)(bK:A.depth<1000)(pn:J.code=R cC)(hP3:P≠ef)(hPt:QR≠P)(Y_:∀bm,mg "__builtins__" =O (R bm)->P≠bm)(oy:s.heap.IsCode cC P ps)(hPT:P∉bV)(r:ER H U L J s.heap G)(um:T A (a7 iter J) s (λx aD=>T A (gr x) aD (λit aQ=>dA H s aQ/\It it aQ)))(hs:∀x,genFold iter J x=pure x)(OQ:cC∉bV)(hq:∀it aQ cl code aS a ig,dA H s aQ->It it aQ->(∀y∈fs,cl.lookup (NM y)=J.cells.lookup (NM y))->B5 (∃ps,ig.heap.IsCode cC P ps) elt ct iter scope pos J P cl code aS a it aQ ig->Q (R a) ig):
 T A (a7 (lL elt [⟨ct,iter,[],0⟩] scope pos) J) s Q:=by
 show bg (c.OA r hG) λcl jy wJ=>(Tf Du jy c.cell h0 c.kind (by assumption) (um.wp λxv aD h1=>h1.Cw λit aQ e2 hI=>⟨B.zo (r.base.trans e2.ext),?_⟩) hs);have b2:=r.base.trans e2.ext;show wpAny_genexprCode pn (FF oy (λ_=>e2.ext.keep _ _ OQ) λ_=>e2.ext.keep _ _ hPT) λcode h3 tk ps' E ai3=>(vt B.bmod λbm ob hbm Rg hbT Rh Ri GB BB=>?_);have bg3:h3.Ns J.globals mg:=by rw[r.glob];show fc (B.mg b2) λo es ep g1 g2=>Bl o es ep (E _ _ (λq=>hP3 q.symm) g1) g2
 show Ed bg3 hbm Rg (E bm _ (λq=>Y_ bm hbm q.symm) (b2.keep bm _ hbT Rh)) Ri GB BB λh4 hn4 hs4=>?_;have x4:=λb o e=>hs4.extBut b o (fE (cj e)) (a0 _ e);have hPs:=(Bo ai3).elim λ_=>cj;have ak2:QR<h3.objs.size:=dG B.top λo e=>dG (b2.there _ o e) λo' e'=>cj (E _ _ hPt e');show hq it aQ cl _ h3.objs.size h4.objs.size _ e2 hI wJ ⟨(DR ps' (ai3.keeps λb o e=>a0 _ (x4 b o e))),rfl,rfl,λb o D e=>a0 _ (x4 b o (E b o D e)),
  (DS _ _ _ (bJ _ Z) Z Z Z),rfl,hn4.push _,Xf (λb o e=>if q:b=P then q▸hPs else cj (E b o q e)) (gz ak2) hs4⟩
theorem ER.adU{v:Nat}(r:ER H U L J h G)(hy:ck G y=O (k,aT v))(hc:J.kindOf (NM y)=O dy):∃c t,J.cells.lookup (NM y)=O c/\c∉bV/\h.IsCell c (O (ag (aj v) t)):=by show eS (r.has y k _ hy) λu F cA aP=>(dG aP.toInt λt dX=>?_);subst dX;show bc cA (λi0=>eZ i0 λhl _=>?_) λi0=>oY i0 λ_ c' h1 h2 h3=>Oj c' t h1 h2 h3;have hl:=hc.symm.trans hl;ext
set_option tactic.hygienic true in
theorem adV{v:Nat}{i:Int}{t:ba}(c:ed L scope [y] [x])(hg:J.globals=ef)(jy:cl.lookup (NM y)=O cv)(OQ:cv∉bV)(hcv:h.IsCell cv (O (ag (aj v) tv)))(n:h.Ns aS m)(hC:aS∉bV)(hm:m (NM x)=O (ag i t)):ER [] h scope (genEnv scope cl aS code gb J) h (jh [(y,k,aT v)] x 0 (a6 i)) where
 base:=.refl _
 kind:=c.kind
 gl:=λy hy=>hy
 Wm:=λy hy=>hy
 glob:=hg
 bi:=rfl
 loc:=hC
 has:=λz k' av e=>by
  rw[fJ]at e;split at e
  .rename_i q
   obtain⟨rfl,rfl⟩:=tI (aW e);show q▸kH (ag i t) [] (ak ⟨c.locs _ (bI.mpr Z),m,n,hm⟩) (.ofInt i t)
  .obtain ⟨rfl,h4⟩:z=y/\(k,aT v)=(k',av):=by replace e:=(mz [] y k (aT v) z).symm.trans e;show if q:y=z then by rw[if_pos q]at e;show⟨q.symm,aW e⟩ else by rw[if_neg q]at e;ext
   obtain⟨rfl,rfl⟩:=tI h4;show kH _ [] (aw ⟨aw (c.frees z (bI.mpr Z)).1,cv,jy,OQ,hcv⟩) (.ofInt _ tv)
theorem adW{v:Nat}(r:ER H U scope J s.heap G)(hy:ck G y=O (k,aT v))(E:ck G x=O (0,aT j)):
 C A (a7 (fi (fi (aq (NM y) py) L8 (aq (NM x) px) p1) L7 (fN (jI 1) kc p3) p2) J) s (λu Y=>dA H s Y/\∃t,u=ag (aj (v / 2 ^ j % 2)) t):=by
 have e1:wB (.shr ()) (aj v) (aj j)=O (aj (v / 2 ^ j)):=by change O _=O _;congr 1;show(Int.ofNat_fdiv v (2 ^ j)).symm
 have e2:wB .band (aj (v / 2 ^ j)) (aj 1)=O (aj (v / 2 ^ j % 2)):=by change O (aj (v / 2 ^ j &&& 1))=_;rw[Nat.and_one_is_mod]
 show T.wcE ((lj (fr:=N) .band (lj (.shr ()) (ar _ hy) (ar _ E) e1) (aR 1) e2) r) λu Y F e aP _=>⟨e,?_⟩;show aP.toInt
noncomputable def DO(v:Nat):zy:=λi u _ _=>∃t,u=ag (aj (v / 2 ^ (7 - i) % 2)) t
theorem DO.back(v:Nat):zy.Back (DO v):=λ_ _ _ _ _ _ h=>h
theorem QA(v:Nat):zy.DF (DO v):=λ_ _ _ _ _ _ _ _ h=>h
theorem ak3{k:Int}(h:(Dq ((8:Nat) - 1:Int) (-1) 8)[i]? =O k):i<8/\k=aj (7 - i):=
 eZ (o9.mp h) λh1 h2=>⟨h1,by rw[h2];change _=((7 - i:Nat):Int);lia⟩
theorem agA{v:Nat}{DY:aO}(c:ed L scope [90] [14])(hg:J.globals=ef)(jy:cl.lookup (NM 90)=O cv)(OQ:cv∉bV)(hcv:DY.IsCell cv (O (ag (aj v) tv)))(hC:aS∉bV)(qI:cv≠Ia):
 acx (genEnv scope cl aS code gb J) (NM 14) (fi (fi (aq (NM 90) py) L8 (aq (NM 14) px) p1) L7 (fN (jI 1) kc p3) p2) [cH,cv,Ia] [Ia] (Gp (Dq ((8:Nat) - 1:Int) (-1) 8)) (DO v) DY:=by
 show λA' i u s3 m3 RQ hv hn hm hk=>eS hv λk t hk1 dX=>eZ (ak3 hk1) λhi qG=>bg hcv λo ho hd=>?_;subst dX;subst qG;show(adW (adV (k:=0) c hg jy OQ (cn o (hk cv au (by simpa using qI) o ho) hd) hn hC hm) Z Z).mono λy Y qQ=>Ms qQ λe t' hy=>⟨⟨t',hy⟩,e.keeps⟩
def jR:cg:=a9 (bh (dP 21)) 1
def aaO:aG:=match a9 (bh jR) 0 with|yn (O e) _=>e |_=>fN rO 0 ⟨0,0,0,0⟩
def ai4:du:=match aaO with|lL _ _ L _=>L |_=>bf jR
def NW(v:Nat)(cC P a aS Ia cv:ae)(s Y:af):Prop:=
 Y.os=s.os/\
 Y.drawn=s.drawn/\
 (∃gs,gs.bare=N/\Y.gens=s.gens.push gs)/\
 (∀b o,b≠P->s.heap.get? b=O o->Y.heap.get? b=O o)/\
 (∃ps,Y.heap.IsCode cC P ps)/\
 (∀b∈[a,aS,Ia],s.heap.get? b=ai)/\
 a≠aS/\
 Ia≠a/\
 (∃o u,s.heap.get? cv=O o/\o.data=oS u)/\
 ∀A':b9,dh A'->lD A' a s.gens.size aS [cH,cv,Ia] [Ia] 8 (DO v) 0 Y
theorem agB{P:ae}{v kv:Nat}(B:cx s.heap mg mb)(I:dQ mg mb)(bK:A.depth<1000)(r:ER [] s.heap (bf jR) J s.heap G)(hv:ck G 90=O (kv,aT v))(hl:ck G 91=O (kl,aT 8))(kM:J.kindOf (NM 90)=O dy)(pn:J.code=R cC)(OQ:cC∉bV)(oy:s.heap.IsCode cC P ps)(hP3:P≠ef)(hPt:QR≠P)(hPs:P≠cH)(Y_:∀bm,mg "__builtins__" =O (R bm)->P≠bm)(hPT:P∉bV)(hPc:∀o u,s.heap.get? P=O o->o.data≠oS u)(hq:∀a aS Ia cv Y,NW v cC P a aS Ia cv s Y->Q (R a) Y):T A (a7 aaO J) s Q:=by
 obtain⟨cv,tv,c1,c2,o,c3,c4⟩:=r.adU hv kM;have hc:ed (bf jR) ai4 [90] [14]:=ed.of (rfl);have ai5:cv≠P:=λq=>hPc o _ (q▸c3) c4;show S3 (scope:=ai4) B hc (by rw[pW];rw[hv];rfl) (rfl) Z bK pn hP3 hPt Y_ oy hPT r
  (agz B I (by rfl) (by rfl) (ar 91 hl) Z bu r) (λ_=>rfl) OQ λit aQ cl code aS a ig e2 hIt jy g=>dU g λg1 g2 g3 g4 _ g6 _ ϡ=>iZ ϡ λg8 g9 g10 g11 _=>l0 hIt λIa St dX hW Nj hIn Xh=>?_
 subst dX;have Xh:∀i h,St i h->∃o,h.get? Ia=O o:=λi h st=>bg (Xh i h st) λo e _=>⟨o,e⟩;have k2:∀b o,s.heap.get? b=O o->aQ.heap.get? b=O o:=e2.keeps.elim λh' q=>q.elim λtk q=>q.1▸q.2;have kp:=λb o D e=>g4 b o D (k2 b o e);have hIP:Ia≠P:=λq=>by obtain⟨o,e⟩:=(Bo oy);have e:=hIn▸q.symm▸e;ext
 have nC:s.heap.get? aS=ai:=by
  cases q:s.heap.get? aS with
  |none=>rfl
  |some o=>have:=k2 _ _ q;have this:=g8▸this;ext
 have nA:s.heap.get? a=ai:=by
  cases q:s.heap.get? a with
  |none=>rfl
  |some o=>have:=k2 _ _ q;have this:=g9▸this;ext
 have Hq:=Xh _ _ Nj;have hIC:Ia≠aS:=λq=>by obtain⟨o,e⟩:=Hq;have e:=g8▸q▸e;ext
 have lim:=B.lim;have ϣ:ig.heap.NoLimit:=bg lim λmc wG ZT=>cn mc (wG.at' λo e=>kp _ o hPs.symm e) ZT;have nn:∀b,s.heap.get? b=ai->b≠cv/\b≠cH:=λb D=>by
  show⟨λq=>?_,λq=>?_⟩
  .have D:=c3▸q▸D;ext
  .show bg lim λmc i1 _=>fc i1 λo _ _ e _=>?_;have D:=e▸q▸D;ext
 show hq a aS Ia cv ig ⟨g2.trans e2.os,g3.trans e2.drawn,(cn _ Z (by rw[g6,e2.gens])),kp,g1,λb D=>?_,g10,(λq=>by obtain⟨o,e⟩:=Hq;have e:=g9▸q▸e;ext),(kH o _ c3 c4),λA' RQ=>?_⟩
 .apply Dh D
  .show nA
  .show nC
  .show hIn
 .show e2.gens▸lD.made (x:=14) (n:=7) (DO.back v) g RQ hW Nj Xh hIP ϣ Z Z Z bz (λh=>?_) (λb D=>?_) (agA hc r.glob ((jy 90 bz).trans c1) c2 (cn o (kp _ _ ai5 c3) c4) g11 (nn Ia hIn).1.symm)
  .simp only[bq,mZ,or_false]at h;rcases h with h|h|h
   .show (nn aS nC).2 h
   .show (nn aS nC).1 h
   .show hIC h.symm
  .apply Dh D
   .show bg ϣ λmc i1 _=>fc i1 λo _ _ e _=>⟨o,e⟩
   .show ⟨o,kp _ _ ai5 c3⟩
   .show dG Hq λo e=>⟨o,g4 _ _ hIP e⟩
def aaP(J:cJ)(f c' P' dT:ae)(t8:ba)(fd:cq)(oc:bE)(s Y:af):Prop:=
 Y.heap.get? f=O (mN fd)/\
 fd.body=kZ (bh jR)/\
 fd.scope=bf jR/\
 fd.params=fz jR/\
 fd.globals=ef/\
 fd.builtins=gb/\
 fd.closure=[]/\
 fd.kwdefaults=ax/\
 fd.defaults=R dT/\
 Y.heap.get? dT=O (cV [ag 8 t8] 0)/\
 fd.code=R c'/\
 Y.heap.get? c'=O oc/\
 Y.heap.IsCode c' P' #[]/\
 Y.heap.get? P'=O (tabObj #[])/\
 Y.heap.CodeRec (R c') fd.qualname/\
 ∀b∈[f,c',P',dT],s.heap.get? b=ai
theorem ai6{c P:ae}(B:cx U mg mb)(b0:hJ H U s.heap)(hg:J.globals=ef)(pn:J.code=R c)(hc:c∉bV)(oy:U.IsCode c P #[])(vH:U.TableAt c P #[])(hP:P∈bV)(pv:P∉H)(kr:P∈τ')(nS:∀b∈H,b∈τ'){qn:aV}(hq:∀f c' P' dT fd oc h' tk,aaP J f c' P' dT t8 fd oc s {s with heap:=h',toks:=tk}->hJ τ' s.heap h'->Q (R f) {s with heap:=h',toks:=tk}):
 T A (Kf nm qn (fz jR) (kZ (bh jR)) (bf jR) J [ag 8 t8] [] [] pos ln) s Q:=by
 show eZ (PH hc oy vH hP pv b0) λak4 OF=>vt B.bmod λbm ob hbm Rg hbT Rh Ri GB BB=>aek Z Z (by(ext):rh (bf jR) J=pure []) bF<|ah<|TG<|ah<|aB<|ah (TA pn (ak4.push _) (OF.push _) Z λc' h3 tk E hge jx _ Rj Yr ak5=>?_);have hsz:s.heap.objs.size<c':=by rw[dE]at hge;show hge
 have x3:=(hJ.push _ _).trans (Xe hP kr (OF.push _).2 Yr.2 E);have bg3:h3.Ns J.globals mg:=by show hg.symm▸?_;show B.mg ((b0.up nS).trans x3)
 show ah<|Ed bg3 hbm Rg (((b0.up nS).trans x3).keep bm _ hbT Rh) Ri GB BB<|ah (xJ bg3 ?_);simp only[newObj];show ah<|Ar<|aB<|gI ak5 λP' hP' hi ht=>(gv Rj λc2 oc vs2 t2 e2 g2 r21 r22=>?_);obtain rfl:=j6 e2;have kp:∀(o:bE) b o',h3.get? b=O o'->(h3.push o).get? b=O o':=λo b o' e=>a0 _ e;have nw:∀b,s.heap.objs.size<=b->s.heap.get? b=ai:=λb D=>by
  cases q:s.heap.get? b with
  |none=>rfl
  |some o=>show absurd (cj q) (j0.mpr D)
 show hq h3.objs.size c' P' s.heap.objs.size _ oc _ _ ⟨bJ _ Z,rfl,rfl,rfl,hg,rfl,rfl,rfl,rfl,kp _ _ _ (E _ _ (λq=>fo (jw B.top b0) (q▸hP)) (bJ _ Z)),rfl,kp _ _ _ g2,hi.push _,kp _ _ _ ht.2,(DT c' oc vs2 t2 Z (kp _ _ _ g2) r21 r22),λb D=>?_⟩ (x3.trans (.push _ _));apply tK D
 .show nw _ (gz (gc hsz jx))
 .show nw _ (gz hsz)
 .show nw _ (gz (by rw[dE]at hP';show hP'))
 .show nw _ (ey _)
theorem PS.ak6(p:PS H U L J aK bo bw G S s)(hT:gq U)(nS:∀b∈H,b∈τ')(x:Ab τ' s Y)(hL:∀y∈br,s.heap.get? y.1=ai/\Y.heap.get? y.1=O y.2):PL τ' U L J aK bo bw G S br [] Y:=by
 have p':=(p.up nS).Xi x;show gI ((p.up nS).fr) λW r q1 q2=>(⟨(wy W (r.grow x.ext) q1 q2 (λy hy q=>?_)),p'.sg,λy hy=>(Yc ((hL y hy).2) (λq=>?_) (p.mod.mod.new (hL y hy).1) (p.ext.new (hL y hy).1) (λq=>?_)),p'.mod,p'.lC,zk⟩)
 .show oX (r.je _ q) λ_ _ o' e _=>?_;have e:=((hL y hy).1).symm.trans e;ext
 .show dG (hT _ q) λo e=>(dG (p.ext.there _ o e) λo' e'=>?_);have e':=((hL y hy).1).symm.trans e';ext
 .show bg (bG.mp q) λz hz e=>?_;have:=(p.sg z hz).1;have this:=((hL y hy).1)▸e▸this;ext
theorem aaQ:jR=AY (NM 83) (fz jR) (bh jR) [] ai [] (bf jR) ai (NM 83) jR.pos:=by ext
theorem agC:∃k pos,(fz jR).defaults=[fN (jI 8) k pos]:=qE _ _ Z
theorem adX{c P:ae}(B:cx U mg mb)(hT:gq U)(ak7:L.names.lookup (NM 83)=O dy)(dH:bS G 83=N)(pn:J.code=R c)(hc:c∉bV)(oy:U.IsCode c P #[])(vH:U.TableAt c P #[])(hP:P∈bV)(pv:P∉H)(kr:P∈τ')(nS:∀b∈H,b∈τ')(p:PS H U L J aK bo bw G S s):
 T A (oJ jR J) s (λfl Y=>fl=cL/\∃f c' P' dT t8 fd oc s1,aaP J f c' P' dT t8 fd oc s s1/\PL τ' U L J aK bo bw (jh G 83 0 (aH (R f))) S [(f,mN fd),(c',oc),(P',tabObj #[]),(dT,cV [ag 8 t8] 0)] [] Y):=by
 rw[aaQ,exec_def,defaultsOf_eq];show jd agC λkd pd hd=>?_;dsimp only;show hd.symm▸((by(ext):(fz jR).kw_defaults=[])).symm▸((by(ext):annTrees (fz jR) ai J=[])).symm▸ah (jT (ah (cQ ?_)));show ah (wpAny_evalAll_consts _ _ _ (λe he=>by obtain rfl:=bI.mp he;rfl) λvs tk ϭ=>?_);obtain⟨t8,rfl⟩:∃t8,vs=[ag 8 t8]:=by
  cases vs with
  |nil=>show ϭ.elim
  |cons v vs=>cases vs with|nil=>obtain⟨⟨t,rfl⟩,_⟩:=ϭ;show⟨t,rfl⟩|cons _ _=>show ϭ.2.elim
 show ah<|cQ<|aB<|cQ<|ai6 (s:={s with toks:=tk}) B p.ext p.er.glob pn hc oy vH hP pv kr nS λf c' P' dT fd oc h' tk' F x=>dU F λF1 F2 F3 F4 F5 F6 F7 agD=>dU agD λF8 F9 F10 F11 F12 F13 F14 QB=>eZ QB λF15 F16=>?_;have p2:PL τ' U L J aK bo bw G S [(f,mN fd),(c',oc),(P',tabObj #[]),(dT,cV [ag 8 t8] 0)] [] {s with heap:=h',toks:=tk'}:=p.ak6 hT nS ⟨x,rfl,rfl,.refl _⟩ λy hy=>by
  apply tK hy
  .show ⟨F16 _ au,F1⟩
  .show ⟨F16 _ au,F12⟩
  .show ⟨F16 _ au,F14⟩
  .show ⟨F16 _ au,F10⟩
 show ah (jT (ah (Ef ((p2.store (aw ak7) dH (.ip _)).wp λ_ Y p3=>aB ⟨rfl,f,c',P',dT,t8,fd,oc,_,⟨F1,F2,F3,F4,F5,F6,F7,F8,F9,F10,F11,F12,F13,F14,F15,F16⟩,p3⟩))))
theorem adY(hp:fd.params=fz jR)(hd:fd.defaults=R dT)(hk:fd.kwdefaults=ax)(ht:s.heap.get? dT=O (cV [ag 8 t8] n))(v:aa):
 T A (dw fd ⟨[v],[]⟩) s (λbs Y=>Y=s/\bs=([90,91].map NM).zip [v,ag 8 t8]):=by
 show(?_:aA _ _ _ _ _ _);delta dw;show hp.symm▸hd.symm▸hk.symm▸ah (aB (ah (jD ht Z ?_)));show aB ⟨rfl,rfl⟩
theorem XS:bh jR=[a9 (bh jR) 0]/\∃pos,a9 (bh jR) 0=yn (O aaO) pos:=⟨rfl,_,rfl⟩
theorem adZ{f:ae}{vs:Array aa}{t tq:ba}{v:Nat}(hh:dh A)(bK:A.depth<900)(B:cx s.heap mg mb)(I:dQ mg mb)(fn:s.heap.get? f=O (mN fd))(h1:fd.body=kZ (bh jR))(h2:fd.scope=bf jR)(h3:fd.params=fz jR)(h4:fd.globals=ef)(h5:fd.builtins=gb)(h6:fd.closure=[])(h7:fd.kwdefaults=ax)(h8:fd.defaults=R dT)(h9:s.heap.get? dT=O (cV [ag 8 t8] n))(h10:fd.code=R c')(h11:s.heap.get? c'=O oc)(h12:oc.data=bH vs)(h13:vs[1]? =O (cO fd.qualname tq))(fT:f∉bV)(cT:c'∉bV)(oy:s.heap.IsCode c' P' ps)(hPT:P'∉bV)(hP3:P'≠ef)(hPt:QR≠P')(hPs:P'≠cH)(Y_:∀bm,mg "__builtins__" =O (R bm)->P'≠bm)(hq:∀a aS Ia cv s1 Y,(uh s.heap s1.heap)->nY s.gens s1.gens->s1.os=s.os->s1.drawn=s.drawn->NW v c' P' a aS Ia cv s1 Y->Q (R a) Y):
 C A (call (R f) [ag (aj v) t]) s Q:=by
 show zz (H:=[]) (S:=[]) (avs:=[aT v,aT 8]) (F:=[]) [90,91] B (.refl _) (gc bK bu) (⟨⟨(cn _ fn Z),fT,c',oc,vs,tq,h10,cT,h11,h12,h13⟩,h1,h2,h3,h4,h5,h6,h7⟩) Z Z Z (adY h3 h8 h7 h9 _) (ej [] [] (.ofInt _ t) (ej [] [] (.ofInt _ t8) .nil)) aL Z aL (zk) λaQ br p=>?_;have k2:=λb o e=>if D:b∈bV then p.ext.quiet b o D (λq=>kI q) e else p.ext.keep b o D e
 show dG XS.2 λpos hr=>XS.1.symm▸hr.symm▸cS (uS (xC ?_));show agB (p.base B) I au p.pl.erE Z Z (by change fd.scope.names.lookup _=_;rw[h2];rfl) h10 cT (oy.keeps k2) hP3 hPt hPs Y_ hPT (λo u e=>?_) λa aS Ia cv Y M=>hq a aS Ia cv aQ Y k2 p.mod.gens p.mod.os p.mod.drawn M;show FX (my (oy.keeps k2)) λ_ _ op _ i8 i9 _=>aW (i8.symm.trans e)▸i9.symm▸nofun
noncomputable def Ai(v i:Nat):Nat:=v / 2 ^ (7 - i) % 2
def Apart(bj aZ a aS Ia cv:ae):Prop:=
 bj≠aZ/\
 bj≠a/\
 bj≠aS/\
 bj≠Ia/\
 bj≠cv/\
 bj≠cH/\
 aZ≠a/\
 aZ≠aS/\
 aZ≠Ia/\
 aZ≠cv/\
 aZ≠cH/\
 a≠aS/\
 a≠Ia/\
 cH≠aS/\
 cH≠Ia
inductive ai7(A:b9)(a:ae)(g:Nat)(aS Ia cv aZ br:ae)(v:Nat)(QO:List aa)(s:af)(k:Nat)(Y:af):Prop
 |mk (i:Nat) (m':aV->Option aa) (ys:List aa) (n:Nat) (e:k=9 - i) (hi:i<=8) (g1:lD A a g aS [cH,cv,Ia] [Ia] 8 (DO v) i Y) (ns:Y.heap.Ns br m') (d:Y.heap.get? aZ=O (bp (QO++ys) n)) (ia:fm ys (lu (Ai v) i)) (t:Tg g [br,aZ,aS,Ia] s Y)
section
variable{bj aZ:ae}
theorem Zz{d v:Nat}(h1:gens[d]? =O ⟨aq (NM 19) p2,iter,[],0⟩)(h2:gens[d+1]? =ai)(hh:dh A)(bK:A.depth<1000)(X:Apart bj aZ a aS Ia cv)(afK:cenv.locals=bj)(zq:cenv.scope.kind=dZ)(hk:cenv.kindOf (NM 19)=O cU)(hg:lD A a g aS [cH,cv,Ia] [Ia] 8 (DO v) 0 s)(wG:s.heap.Ns bj m0)(ow:s.heap.get? aZ=O (bp QO c0))(dM:QO.length<=10000)(hR:∀Y ys n m',Tg g [bj,aZ,aS,Ia] s Y->Y.heap.get? aZ=O (bp (QO++ys) n)->fm ys (lu (Ai v) 8)->Y.heap.Ns bj m'->aN (bX cL) Y):
 CC A (hx (cE (aq (NM 19) p1) gens scope pos) d (R a) (R aZ) cenv) s aN:=by
 show dU X λX1 X2 X3 X4 X5 X6 X7 ak8=>dU ak8 λX8 X9 X10 X11 X12 X13 X14 X15=>?_;subst afK;show ua h1 h2 (ai7 A a g aS Ia cv aZ cenv.locals v QO s) ?_ 9
  ⟨0,m0,[],c0,rfl,fk _,hg,wG,by rw[yb];show ow,qA,.refl _ _ _⟩
 intro k Y Kp P1 P2 P3 P4 Kh H0 H1 H2 H3 _ H4 ⟨i,m',ys,n,dX,hi,g1,ns1,d1,ia,t1⟩;have hKx:=Mv X3 X4;have hDx:=Mv X8 X9;rcases AR hi with jx|rfl
 .show g1.next bK jx X12 (λq=>X13 (bI.mp q)) X14 (λq=>X15 (bI.mp q)) (QA v) λu s1 qQ g2 t2 _=>dG qQ λt hu=>hu▸H1 _ _ (C.eq Z (cS (jB (sG hk (ns1.at' λo e=>t2.keep _ o hKx e) (λh3 ns3 zH=>H2 _ (uM (H3 _ ?_))) (by show zq.symm▸?_;rfl)))));show cS (rg (xw (v:=ag (aj (Ai v i)) t) zq hk ns3 (if_pos Z) ?_) (wA 19));have hly:ys.length=i:=by have:=ia.length;simpa[lu] using this
  show H4 _ _ (cS (Am (items:=(QO++ys).toArray) ⟨n,zH.extBut _ _ (eQ X1) (t2.keep _ _ hDx d1)⟩ (λh4 qQ I7=>dG qQ λn4 e4=>?_) (by have:fg=16777216:=jU;simp;lia)));have t4:∀tk,Tg g [cenv.locals,aZ] s1 {s1 with heap:=h4,toks:=tk}:=λtk=>.heap λb o D e=>Di D λh1 h2=>I7.extBut _ _ h2 (zH.extBut _ _ h1 e);show Kh (9 - (i+1)) _ (dX▸rz (fj jx bu) (iX i)) ⟨i+1,_,ys++[ag (aj (Ai v i)) t],n4,rfl,jx,g2.frame (ez ..) (λb D o e=>(t4 0).keep b o (λq=>r8 (P:=λb=>b∈[a,aS,cH,cv,Ia]->False) q (agT X2 X3 X6 X5 X4) (agT X7 X8 X11 X10 X9) D) e),ns3.at' λo e=>I7.extBut _ o X1 e,?_,?_,(t1.trans t2 λd hd=>ak (bU _ (bU _ hd))).trans (t4 _) λd hd=>ak (bc (bq.mp hd) (λq=>q▸cR ..) λq=>bW _ (bI.mp q▸cR ..))⟩
  .rw [e4];simp[bp]
  .rw [Cf];show ia.append (yz _ _ qA)
 .show cS<|g1.done hh bK λs2 t2=>H0 _ (hR s2 ys n m' (t1.trans t2 λd hd=>ak (bU _ (bU _ hd))) (t2.keep _ _ hDx d1) ia (ns1.at' λo e=>t2.keep _ o hKx e))
end
noncomputable def bare:AV->Bool
 |oZ|eX _|a6 _|aH _=>N
 |_=>ab
def QC(G:iz):Bool:=G.all λy=>bare y.2.2
def Aj(o:bE):Prop:=∀u,o.data≠oS u
structure Tk(X:List ae)(s Y:af):Prop where
 keep:∀b o,b∉X->s.heap.get? b=O o->Y.heap.get? b=O o
 os:Y.os=s.os
 drawn:Y.drawn=s.drawn
 gens:nY s.gens Y.gens
section
variable{gn:List ae}
theorem ad0(h:QC G=N)(e:ck G x=O (k,av)):bare av=N:=mY.mp h _ (Bz e)
theorem bM.bare(D:bare av=N)(aP:bM h av v F):bM h' av v []/\F=[]:=by cases av<;>first|show⟨⟨aP.1,rfl⟩,aP.2⟩|show Iv (by assumption)
theorem Tk.refl(X:List ae)(s:af):Tk X s s:=⟨λ_ _ _ e=>e,rfl,rfl,.refl _⟩
theorem Tk.trans{a b c:af}(x:Tk X a b)(y:Tk gn b c)(h:∀d∈gn,d∈X\/a.heap.get? d=ai):Tk X a c where
 keep:=λd o hd e=>y.keep d o (λq=>(h d q).elim hd λh=>by have e:=h.symm.trans e;ext) (x.keep d o hd e)
 os:=y.os.trans x.os
 drawn:=y.drawn.trans x.drawn
 gens:=y.gens.trans x.gens
protected theorem dA.tk(e:dA [] s Y):Tk X s Y:=⟨λb o _ q=>e.keeps.elim λ_ z=>z.elim λ_ z=>z.1▸z.2 b o q,e.os,e.drawn,.of e.gens⟩
theorem Tk.heap(k:∀b o,b∉X->s.heap.get? b=O o->h'.get? b=O o):Tk X s {s with heap:=h',toks:=tk}:=⟨k,rfl,rfl,.refl _⟩
theorem FR.ak9(r:FR H U U L J h G W)(hG:QC G=N)(x:hJ H U h')(keep:∀b o,b∉X->b∉bV->h.get? b=O o->h'.get? b=O o)(hw:∀b∈X,(∃o,h.get? b=O o/\Aj o)/\b∉W):FR H U U L J h' G W:=by
 have kW:=λb hb' o e=>keep b o (λq=>(hw b q).2 hb') (r.je b hb').2.1 e;have kC:∀c v,c∉bV->h.IsCell c v->h'.IsCell c v:=λc v ht qQ=>bg qQ λo e d=>⟨o,keep c o (λq=>by show eZ (hw c q) λi1 _=>bg i1 λo' e' d'=>?_;rw[e]at e';obtain rfl:=aW e';show d' _ d) ht e,d⟩
 have kN:∀m,h.Ns J.locals m->h'.Ns J.locals m:=λm qQ=>fc qQ λo es ep e q=>Bl o es ep (kW _ r.loc o e) q;show⟨.refl _,x,r.scope,r.kind,r.glob,r.bi,r.loc,r.ns.imp kN,λy hy=>lZ (r.cell y hy) λc a i1 d e=>dG i1 λv b=>wy c a ⟨v,kC c v d b⟩ d e,r.pV,λb hb'=>oX (r.je b hb') λp q o e m=>⟨p,q,o,kW b hb' o e,m⟩,?_⟩;show jd r.ents λval fp q=>((qE val (λ_=>[]) (λy k av e=>?_)));show mB (q y k av e) λa b _ _=>(⟨?_,(b.bare (ad0 hG e)).1,λ_=>⟨rN,λz hz=>kI hz⟩,λ_ z hz=>kI hz⟩);show bc a (λi0=>iL i0 λk1 m n e1=>ak ⟨k1,m,kN m n,e1⟩) λi0=>oY i0 λk1 c' e1 e2 e3=>aw ⟨k1,c',e1,e2,kC _ _ e2 e3⟩
theorem PL.aeH(p:PL H U L J aK bo bw G S br Gs s)(hG:QC G=N)(hT:gq U)(k:Tk X s Y)(hX:∀b∈X,∃o,(b,o)∈br/\Aj o)(hL:∀y∈L',(y.1∈br.map (·.1)\/s.heap.get? y.1=ai)/\Y.heap.get? y.1=O y.2):PL H U L J aK bo bw G S L' [] Y:=
 p.aeu hT k.keep k.os k.drawn (k.gens.trans p.mod.gens) (λb D=>bg (hX b D) λo ho _=>⟨o,ho⟩) hL (zk) λ_ r hn x'=>r.ak9 hG x' (λb o D _ e=>k.keep b o D e) λb D=>bg (hX b D) λo ho hm=>⟨⟨o,(p.lg _ ho).1,hm⟩,(hn b D).2⟩
end
section
variable{dB:iz}{K:LN}
def HNm(K:LN)(m:aV->Option aa)(h:aO)(dB:iz):Prop:=∀y k av,ck dB y=O (k,av)->y∈K/\∃v F,m (NM y)=O v/\bM h av v F
theorem HNm.nil:HNm K m h []:=λ_ _ _ e=>Bj e
theorem XT(E:x∈K)(hm:m (NM x)=O v)(aP:bM h av v F)(r:HNm K m h dB):HNm K m h ((x,0,av)::dB):=λy k mI e=>by
 dsimp only[ck]at e;show boC (x.beq y) (λq=>?_) λq=>?_
 .replace e:=q▸e;show Yb (aW e) λa1 a2=>?_;subst a1;subst a2;show Lc q▸⟨E,v,F,hm,aP⟩
 .have e:=q▸e;show r y k mI e
theorem S4{b:ae}(p:h.get? a=ai)(q:h.get? b=ai):∀d∈[a,b],d∈X\/h.get? d=ai:=λd hd=>r8 (P:=λd=>d∈X\/h.get? d=ai) hd (aw p) (aw q)
theorem Cq(c:ed L scope fs K)(r:ER H U L J h G)(jy:∀y∈fs,cl.lookup (NM y)=J.cells.lookup (NM y))(n:h.Ns aS m)(hC:aS∉bV)(hN:HNm K m h dB):
 ER H U scope (jr scope cl aS J) h (dB++lA G fs) where
 base:=r.base
 kind:=c.kind
 gl:=λ_ hy=>Yo hy nofun
 Wm:=λ_ hy=>hy.elim (λh=>ak (Yo h nofun)) abN
 glob:=r.glob
 bi:=r.bi
 loc:=hC
 has:=λy k av e=>(Oq e).elim (λe=>FW (hN y k av e) λh1 v F h2 h3=>kH v F (ak ⟨Yo (c.locs y h1) nofun,m,n,h2⟩) h3) λe=>r.ag1 c (.refl _) jy (λy h=>abN (c.frees y h).1) e
theorem QD(c:ed L scope fs K)(jy:rh scope J=pure cl)(hs:Fs iter J)(h:C A (a7 iter J) s (λx aD=>C A (gr x) aD (λit aQ=>QR<=aQ.heap.objs.size/\(∀(A':b9) fB (Q:aa->af->Prop),Tk [] aQ fB->Q it fB->C A' (gr it) fB Q)/\
 ∀aZ bj fB,Tk [] aQ fB->aQ.heap.get? aZ=ai->aQ.heap.get? bj=ai->aZ≠bj->bj∉bV->fB.heap.get? aZ=O (bp [] 0)->fB.heap.Ns bj (λ_=>ai)->
  CC (A.mark ai) (hx (cE elt (⟨ct,iter,ifs,0⟩::gs) scope pos) 0 it (R aZ) (jr scope cl bj J)) fB (λr Y=>match r with|bX _=>∃m,Y.heap.Ns bj m/\∀h',gx bj Y.heap h'->Q (R aZ) {Y with heap:=h'} |j3 _=>False)))):
 C A (a7 (cE elt (⟨ct,iter,ifs,0⟩::gs) scope pos) J) s Q:=by
 show Qb c Z hs jy<|h.mono λx aD U=>C.mono U λit aQ ko aZ bj h3 tk _ lK k0 nD nK Og gD gK=>have t:Tk [] aQ {aQ with heap:=h3,toks:=tk}:=.heap λb o _=>k0 b o;have loop:=ko.2.2 aZ bj _ t nD nK Og (fo (a8 ko.1 lK)) gD gK;pK Z loop (ko.2.1 _ _ _ t loop)
end
section
variable{dB:iz}{nl:Nat}{l:ae}{p4 np3 ala:cB}
protected theorem Tk.x(t:Tk [] s Y):hJ H s.heap Y.heap:=.of_keep λb o e=>t.keep b o (λq=>kI q) e
theorem ER.re(e:ER H U L J h G):ER [] h L J h G:=⟨.refl _,e.kind,e.gl,e.Wm,e.glob,e.bi,e.loc,e.has⟩
inductive alb(bj aZ br l:ae)(ns:LN)(s:af)(n:Nat)(Y:af):Prop
 |start (m:aV->Option aa) (t:Tk [] s Y) (nn:Y.heap.Ns bj m) (e:n=1) (li:Y.heap.IsListIter br l 0) (d:Y.heap.get? aZ=O (bp [] 0))
 |over (m:aV->Option aa) (tk:ba) (c:Nat) (t:Tk [] s Y) (nn:Y.heap.Ns bj m) (li:Y.heap.IsListIter br l 1) (d:Y.heap.get? aZ=O (bp [ag (aj ns.length) tk] c))
theorem ad1(c:ed L scope [] [93])(dM:Gi scope "len")(hh:dh A)(B:cx s.heap mg mb)(I:dQ mg mb)(r:ER [] s.heap L J s.heap G)(hy:ck G y=O (k,aH (R l)))(hl:s.heap.get? l=O (bp [R d] nl))(hd:s.heap.get? d=O (kz ns))(YT:d∉bV)(oy:lY ns)(hq:∀aZ Y t c,Tk [] s Y->s.heap.get? aZ=ai->Y.heap.get? aZ=O (bp [ag (aj ns.length) t] c)->Q (R aZ) Y):
 C A (a7 (cE (bx (aq (aC "len") np) [aq (NM 93) p1] [] p2) [⟨aq (NM 93) p3,aq (NM y) p4,[],0⟩] scope pos) J) s Q:=by
 show og λgG kG=>bg (c.OA r Z) λcl jy wJ=>kG ?_;clear kG gG;show QD c jy (λ_=>rfl) (Lake.T.wcV (vY r hy) λv F aP=>?_);apply bM.Gb aP;have hnl:s.heap.get? s.heap.objs.size=ai:=bD _;show cS (uR (bT hl) (gT ?_ (λA' fB Q t hQ=>cS (Tu (l:=l) (i:=0) ⟨_,t.keep _ _ (λq=>kI q) (bJ _ Z),rfl,rfl⟩ hQ)) (λaZ bj fB t hD hK Og hKT ow wG=>?_)))
 .rw [dE];show qo (jw (H:=[]) B.top (.refl _))
 have t1:Tk [] s {s with heap:=s.heap.push {cls:=ao "list_iterator",data:=bH #[R l,ag 0 0]}}:=.heap (tk:=s.toks) λb o _ e=>a0 _ e;have hDL:aZ≠s.heap.objs.size:=λq=>by rw[q,bJ _ Z]at hD;ext
 have hKL:bj≠s.heap.objs.size:=λq=>by rw[q,bJ _ Z]at hK;ext
 have nD:s.heap.get? aZ=ai:=(Tk.x (H:=[]) t1).new hD;have nK:s.heap.get? bj=ai:=(Tk.x (H:=[]) t1).new hK;have li0:fB.heap.IsListIter s.heap.objs.size l 0:=kF _ (t.keep _ _ (λq=>kI q) (bJ _ Z)) Z Z;generalize s.heap.objs.size=br at *;show ua Z Z (alb bj aZ br l ns s) ?_ 1 (.start _ (t1.trans t (zk)) wG Z li0 ow);rintro n Y Kp P1 P2 P3 P4 Kh H0 H1 H2 H3 _ H4 (⟨m,t2,PI,n1,li,d2⟩|⟨m,tk,cc,t2,PI,li,d2⟩)
 .show cS<|JV li (bT (t2.keep _ _ (λq=>kI q) hl)) (x:=R d) Z λh3 li3 zH=>H1 _ _ (C.eq (a:=()) Z (cS (jB (sG (xA (c.locs 93 (bI.mpr Z))) (PI.at' λo e=>zH.extBut _ o hKL e) (λh4 ZA I7=>H2 _ (uM (H3 _ ?_))) (by rw[show(js scope J).kind=dZ from c.kind];rfl:((js scope J).kind== .class ||((js scope J).kind== .module && bj != J.globals))=ab)))));have t4:∀tk,Tk [] s {Y with heap:=h4,toks:=tk}:=λtk=>t2.trans (gn:=[br,bj]) (.heap λb o D e=>Di D λh1 h2=>I7.extBut _ _ h2 (zH.extBut _ _ h1 e)) (S4 hnl nK);show Lake.T.wcI (uI (H:=[]) (fr:=N) (e:=aq (NM 93) p1) (B.ext ((t4 0).x (H:=[]))) I dM ((t4 0).keep _ _ (λq=>kI q) hd) YT oy (ar (k:=0) _ Z) Z (Cq (dB:=[(93,0,aH (R d))]) c (r.ext (t4 0).x).re wJ ZA hKT (XT (bI.mpr Z) (if_pos Z) (.ip _) HNm.nil))) λt6 s5 e5=>have t5:=e5.tk (X:=[]);H4 _ _ (cS (Am (items:=#[]) ⟨0,t5.keep _ _ (λq=>kI q) (I7.extBut _ _ Og (zH.extBut _ _ hDL d2))⟩ (λh7 q sb7=>dG q λn7 e7=>?_) (by have:fg=16777216:=jU;simp)));show Kh 0 _ (n1▸yk) (.over _ t6 n7 (((t4 _).trans t5 zk).trans (gn:=[aZ]) (.heap (tk:=s5.toks) λb o D e=>sb7.extBut _ _ (λq=>D (bI.mpr q)) e) λb D=>aw (bI.mp D▸nD)) (ZA.at' λo e=>sb7.extBut _ _ (eQ Og) (t5.keep _ _ (λq=>kI q) e)) ?_ e7);show(li3.at λo e=>I7.extBut _ _ (eQ hKL) e).at λo e=>sb7.extBut _ _ (eQ hDL) (t5.keep _ _ (λq=>kI q) e)
 .show cS<|JY hh li (bT (t2.keep _ _ (λq=>kI q) hl)) Z λh3 zH=>H0 _ (cn m (PI.at' λo e=>zH _ o hKL e) (λh4 I7=>hq aZ _ tk cc ?_ nD (I7.extBut _ _ Og (zH _ _ hDL d2))));show t2.trans (gn:=[br,bj]) (.heap (tk:=Y.toks) λb o D e=>Di D λh1 h2=>I7.extBut _ _ h2 (zH _ _ h1 e)) (S4 hnl nK)
theorem QE(c:ed L scope [] [93])(dM:Gi scope "len")(hr:Gi L "range")(hm:Gi L "max")(hh:dh A)(B:cx s.heap mg mb)(I:dQ mg mb)(r:ER [] s.heap L J s.heap G)(hy:ck G y=O (k,aH (R l)))(hl:s.heap.get? l=O (bp [R d] nl))(hd:s.heap.get? d=O (kz ns))(YT:d∉bV)(oy:lY ns)(hq:∀rr Y t u v,Tk [] s Y->qi Y.heap rr 0 (ns.length:Int) 1 t u v->Q (R rr) Y):
 C A (a7 (bx (aq (aC "range") np2) [bx (aq (aC "max") np3) [cE (bx (aq (aC "len") np) [aq (NM 93) p1] [] p2) [⟨aq (NM 93) p3,aq (NM y) p4,[],0⟩] scope pos] [] ZZ] [] ala) J) s Q:=by
 have hR:=I ("range",ao "range") aL;have hM:=I ("max",bB "max") aL;show fY<|Lake.T.wR (eG B r hr hR.1 hR.2 (rfl))<|de (rfl) ?_;rw[l6 (rfl)];show eu<|cu<|fY<|Lake.T.wR (eG B r hm hM.1 hM.2 (rfl))<|de (rfl) ?_;rw[l6 (rfl)];show eu (cu (ad1 c dM hh B I r hy hl hd YT oy λaZ s3 t3 c3 t hD hd3=>c8 (lU ⟨rfl,?_⟩)));have hIL:=bT hd3;show cS (call_max_walkS (uR hIL ⟨_,_,_,_,_,_,_,_,rfl,(VX (A:=A.in1) hh s3.heap.objs.size aZ (fE (cj hd3)) #[ag (aj ns.length) t3]).toS,⟨(kF _ (bJ _ Z) Z Z),hIL.at λo e=>a0 _ e⟩,λb D=>?_,yk,CmpOf.ints_gt (λ_=>aj ns.length) (λi v e=>?_),λv s4 hv m4=>?_⟩))
 .rw [show({s3 with heap:=s3.heap.push _}:af).heap.objs.size=s3.heap.objs.size+1 from dE ..];apply r8 D
  .show iX _
  .show kX (cj hd3)
 .cases i with
  |zero=>show aW e▸?_;show DR t3 Z
  |succ i=>ext
 .show aW hv▸c8 (iE ⟨rfl,cS (sJ (hq _ _ _ _ _ ?_ (bJ _ Z)))⟩);show(t.trans ⟨λb o _ e=>m4.heap b o (λq=>absurd (cj e) (by rw[bI.mp q];show gy _)) (a0 _ e),m4.os,m4.drawn,.of m4.gens⟩ zk).trans (Tk.heap (X:=[]) (s:=s4) (tk:=s4.toks+1+1) λb o _ e=>a0 _ e) zk
end
section
variable{mg mb:aV->Option aa}{s2:af}
theorem Apart.of{P bj aZ:ae}{v:Nat}{oK oD:bE}(M:NW v cC P a aS Ia cv s1 s2)(hK:s1.heap.get? bj=O oK)(cK:Aj oK)(hD:s1.heap.get? aZ=O oD)(cD:Aj oD)(hKD:bj≠aZ)(hl:∃o,s1.heap.get? cH=O o)(sK:bj≠cH)(sD:aZ≠cH):Apart bj aZ a aS Ia cv:=by
 show dU M λ_ _ _ _ _ M6 M7 afc=>ie afc λM8 M9 _=>?_;have nw:∀b∈[a,aS,Ia],∀x o,s1.heap.get? x=O o->x≠b:=λb D x o e q=>by have e:=(M6 b D)▸q▸e;ext
 show eS M9 λoc u e1 e2=>(dG hl λos es=>?_);have nc:∀x o,s1.heap.get? x=O o->Aj o->x≠cv:=λx o e n q=>by replace e:=e1▸q▸e;obtain rfl:=aW e;show n _ e2
 have na:=nw a (ez ..);have nC:=nw aS (bU _ (ez ..));have nI:=nw Ia (bU _ (bU _ (ez ..)));show⟨hKD,na _ _ hK,nC _ _ hK,nI _ _ hK,nc _ _ hK cK,sK,na _ _ hD,nC _ _ hD,nI _ _ hD,nc _ _ hD cD,sD,M7,eQ M8,nC _ _ es,nI _ _ es⟩
end
section
variable(mg mb:aV->Option aa)(L:du)(J:cJ)(G:iz)(l d f c' P':ae)(ns:LN)
def BCy(s:af):Prop:=
 (∃fd,s.heap.get? f=O (mN fd))/\
 ∀(A':b9) v t (Q:aa->af->Prop),dh A'->A'.depth<900->(∀a aS Ia cv s1 s2,Tk [] s s1->NW v c' P' a aS Ia cv s1 s2->Q (R a) s2)->C A' (call (R f) [ag (aj v) t]) s Q
def BCx(s:af):Prop:=
 cx s.heap mg mb/\
 ER [] s.heap L J s.heap G/\
 (∃nl,s.heap.get? l=O (bp [R d] nl))/\
 s.heap.get? d=O (kz ns)/\
 BCy f c' P' s
def JP(bj aZ br:ae)(sB:af):Prop:=
 (sB.heap.get? br=ai/\
 bj≠br/\
 aZ≠br/\
 br≠P'/\
 c'∉[br,bj,aZ])/\
 sB.heap.get? bj=ai/\
 sB.heap.get? aZ=ai/\
 bj≠aZ/\
 bj≠P'/\
 aZ≠P'/\
 bj∉bV/\
 bj≠cH/\
 aZ≠cH
end
section
variable{mg mb:aV->Option aa}{L:du}{J:cJ}{G:iz}{l d f c' P':ae}{ns:LN}
theorem Df{bj:ae}(n:h.Ns bj m):∃o,h.get? bj=O o/\Aj o:=
 fc n λo es ep e q=>cn o e (λu hd=>by have hd:=q.1▸hd;ext)
theorem JQ{p:Nat×AV}(hz:z∈fs)(e:ck G z=O p):ck (lA G fs) z=O p:=by
 induction fs with
 |nil=>ext
 |cons y fs ih=>
  unfold lA;by_cases q:y=z
  .subst q;rw[e];simp[ck]
  .have hz:=(bq.mp hz).resolve_left (eQ q);cases ck G y with|none=>show ih hz|some x=>simp[ck,Mn,q,ih hz]
theorem qf{c P:ae}(q:h.IsCode c P ps)(k:∀b o,b∉X->h.get? b=O o->h'.get? b=O o)(hc:c∉X)(hP:P∉X):h'.IsCode c P ps:=FF q (λ_=>k _ _ hc) λ_=>k _ _ hP
theorem Tk.none{b:ae}(t:Tk X s Y)(D:b∉X)(e:Y.heap.get? b=ai):s.heap.get? b=ai:=by
 cases q:s.heap.get? b with
 |none=>rfl
 |some o=>have e:=(t.keep _ _ D q)▸e;ext
def Ip(y:Nat)(p:Nat->cB)(it0:aG):List Eh:=[⟨aq (NM 92) (p 0),it0,[],0⟩,
 ⟨aq (NM 93) (p 1),aq (NM y) (p 2),[jt (aq (NM 92) (p 3)) [FJ] [bx (aq (aC "len") (p 4)) [aq (NM 93) (p 5)] [] (p 6)] (p 7)],0⟩,
 ⟨aq (NM 19) (p 8),bx (aq (NM 83) (p 9)) [dk (aq (NM 93) (p 10)) (aq (NM 92) (p 11)) (p 12)] [] (p 13),[],0⟩]
inductive alc(l c' P' bj aZ br:ae)(v i:Nat)(tk:ba)(QO:List aa)(c0:Nat)(s:af)(n:Nat)(Y:af):Prop
 |start (m:aV->Option aa) (t:Tk [br,bj,aZ,P'] s Y) (c:∃ps,Y.heap.IsCode c' P' ps) (ns:Y.heap.Ns bj m) (e:n=1) (hm:m (NM 92)=O (ag (aj i) tk)) (li:Y.heap.IsListIter br l 0) (d:Y.heap.get? aZ=O (bp QO c0))
 |over (m:aV->Option aa) (ys:List aa) (nd:Nat) (t:Tk [br,bj,aZ,P'] s Y) (c:∃ps,Y.heap.IsCode c' P' ps) (ns:Y.heap.Ns bj m) (li:Y.heap.IsListIter br l 1) (d:Y.heap.get? aZ=O (bp (QO++ys) nd)) (ia:fm ys (lu (Ai v) 8))
theorem aaR{bj aZ br:ae}{v:Nat}{p:Nat->cB}{tk:ba}(hh:dh A)(bK:A.depth<900)(I:dQ mg mb)(c:ed L scope [y,83] [92,93,19])(dM:Gi scope "len")(jy:∀z∈[y,83],cl.lookup (NM z)=J.cells.lookup (NM z))(hf:ck G 83=O (kf,aH (R f)))(oy:lY ns)(YT:d∉bV)(hv:ns[i]? =O v)(cA:∀Y,Tk [P'] sB Y->(∃ps,Y.heap.IsCode c' P' ps)->BCx mg mb L J G l d f c' P' ns Y)(X:JP c' P' bj aZ br sB)(tB:Tk [P'] sB s)(hc:∃ps,s.heap.IsCode c' P' ps)(hL:s.heap.IsListIter br l 0)(wG:s.heap.Ns bj m0)(hm:m0 (NM 92)=O (ag (aj i) tk))(ow:s.heap.get? aZ=O (bp QO c0))(ai8:QO.length<=10000)(hR:∀Y ys n m',Tk [br,bj,aZ,P'] s Y->(∃ps,Y.heap.IsCode c' P' ps)->Y.heap.get? aZ=O (bp (QO++ys) n)->fm ys (lu (Ai v) 8)->Y.heap.Ns bj m'->aN (bX cL) Y):
 CC A (hx (cE (aq (NM 19) p1) (Ip y p it0) scope pos) 1 (R br) (R aZ) (jr scope cl bj J)) s aN:=by
 show eZ X λXa Xb=>iZ Xa λXa1 Xa2 Xa3 Xa4 Xa5=>dU Xb λXb1 Xb2 Xb3 Xb4 Xb5 Xb6 Xb7 Xb8=>?_;have E:∀z∈[92,93,19],(js scope J).names.lookup (NM z)=O cU:=λz hz=>xA (c.locs z hz);have tB':∀{Y},Tk [br,bj,aZ,P'] s Y->Tk [P'] sB Y:=λt=>tB.trans t λb D=>by
  apply tK D
  .show aw Xa1
  .show aw Xb1
  .show aw Xb2
  .show ak (ez ..)
 show HP Z Z (λ_=>rfl) (alc l c' P' bj aZ br v i tk QO c0 s) ?_ 1 (.start m0 (.refl _ _) hc wG Z hm hL ow);rintro n Y Kp P1 P2 P3 P4 P5 P6 Kh H0 H1 H2 H3 _ H4 H5 H6 (⟨m,t2,c2,PI,n1,hm2,li,d2⟩|⟨m,ys,nd,t2,c2,PI,li,d2,ia⟩)
 .show dG ((cA _ (tB' t2) c2).2.2.1) λnl hls=>cS<|JV li (bT hls) (x:=R d) Z λh3 li3 zH=>H1 _ _ (C.eq Z (cS (jB (sG (E 93 aL) (PI.at' λo e=>zH.extBut _ o Xa2 e) (λh4 ZA I7=>H2 _ (Y8 ?_)) (by rw[show(js scope J).kind=dZ from c.kind];rfl:((js scope J).kind== .class ||((js scope J).kind== .module && bj != J.globals))=ab)))));have t34:∀tk,Tk [br,bj] Y {Y with heap:=h4,toks:=tk}:=λtk=>.heap λb o D e=>Di D λh1 h2=>I7.extBut _ _ h2 (zH.extBut _ _ h1 e);have t4:∀tk,Tk [br,bj,aZ,P'] s {Y with heap:=h4,toks:=tk}:=λtk=>t2.trans (t34 tk) λb D=>by apply r8 D<;>show ak au
  have c4:∃ps,h4.IsCode c' P' ps:=c2.imp λps q=>qf q (t34 0).keep (FZ Xa5 λh1 h2 _=>Mv h1 h2) (Mv Xa4.symm Xb4.symm);have F4:=cA _ (tB' (t4 (Y.toks+1))) c4;have r4:=Cq c F4.2.1 jy ZA Xb6 (XT (nme Z) ((if_neg (λq=>absurd (Cx q) (uf Z))).trans hm2) (.ofInt _ tk) (XT aL (if_pos Z) (.ip _) HNm.nil));show T.wo (mA .lt (ar _ Z) (uI F4.1 I dM F4.2.2.2.1 YT oy (ar _ Z) Z) r4) λb s5 qQ=>eZ qQ λe5 D=>?_;rw[D,show gU .lt (aj i) (aj ns.length)=N from decide_eq_true (sT.mpr ((dR.mp hv).1))];show H3 _<|have r5:=(r4.ext e5.ext).re;have t5:=(t4 _).trans (e5.tk (X:=[])) zk;have c5:∃ps,s5.heap.IsCode c' P' ps:=dG c4 λps q=>⟨ps,q.keeps λb o e=>(e5.tk (X:=[])).keep b o (λq=>kI q) e⟩;have F5:=cA _ (tB' t5) c5;fY (T.wR (ui r5 (k:=kf) (u:=R f) ?_) ?_)
  .show JQ au hf
  show dG F5.2.2.2.2.1 λfd hfd=>pG (mN fd) fd<|eu (cu (T.wcE (B1 (fr:=N) F5.2.2.2.1 YT oy (ar 93 Z) (ar 92 Z) hv Z r5) λu s7 F7 e7 V7 _=>c8 ?_));apply bM.zL V7;intro t8;have t67:Tk [] s5 s7:=e7.tk;have t7:=t5.trans t67 zk;have c7:=dG c5 λps q=>DR ps (q.keeps λb o e=>t67.keep b o (λq=>kI q) e);have F7:=cA _ (tB' t7) c7;show⟨⟨t67.keep _ _ (λq=>kI q) hfd,rfl⟩,F7.2.2.2.2.2 A v t8 _ hh bK λa aS Ia cv s8 s9 t8 M=>dU M λM1 M2 M3 M4 M5 M6 _ ald=>ie ald λ_ _ M10=>H4 _ _ ?_⟩;have t48:Tk [] {Y with heap:=h4,toks:=Y.toks+1} s8:=((e5.tk).trans t67 λ_ h=>nomatch h).trans t8 λ_ h=>nomatch h;have g9:=λA' RQ=>M10 A' RQ;have ns8:s8.heap.Ns bj _:=ZA.at' λo e=>t48.keep _ _ (λq=>kI q) e;have d8:s8.heap.get? aZ=O (bp QO c0):=t48.keep _ _ (λq=>kI q) ((λb o q1 q2 e=>I7.extBut _ _ q2 (zH.extBut _ _ q1 e):∀b o,b≠br->b≠bj->Y.heap.get? b=O o->h4.get? b=O o) _ _ Xa3 Xb3.symm d2);have li8:=(li3.at λo e=>I7.extBut _ _ Xa2.symm e).at λo e=>t48.keep _ _ (λq=>kI q) e;show bg (Df ns8) λoK eK nK=>?_;have nw:∀b o,s8.heap.get? b=O o->b∉[aS,Ia]:=λb o e q=>by have e:=(M6 b (bU _ q))▸e;ext
  have loop:=Zz (gens:=Ip y p it0) (d:=2) (p1:=p1) (pos:=pos) (scope:=scope) (cenv:=jr scope cl bj J)
   (aN:=P6)
   rfl Z hh (gc bK bu) (Apart.of M eK nK d8 (λu q=>by ext) Xb3 (bg F7.1.lim λ_ i _=>fc i λo _ _ e _=>⟨o,t8.keep _ _ (λq=>kI q) e⟩) Xb7 Xb8) Z c.kind (E 19 (nme Z)) (g9 _ hh) (ns8.at' λo e=>M4 _ o Xb4 e) (M4 _ _ Xb5 d8) ai8 λs10 ys n m' t10 d10 ia ale=>?_
  .show cS<|Ee (g9 A hh).gen<|H5 _ _ (pK Z loop (cS (Ee (g9 _ hh).gen loop)))
  .have ai9:Tk [bj,aZ,P'] s8 s10:=⟨λb o D e=>by
    show FZ D λh1 h2 h3=>t10.keep b o (hb h1 (hb h2 (nw _ _ e))) (M4 b o h3 e),t10.os.trans M1,t10.drawn.trans M2,by
    show bg M3 λgs hg e=>?_;have:=t10.gens;rw[e]at this;show l8.sk hg this⟩
   show dG (dG c7 λ_ q=>dG (Ol q) λo i1=>⟨o,t8.keep _ _ (λq=>kI q) i1⟩:∃o,s8.heap.get? c'=O o) λoc ec=>bg li8 λoL eL _=>H6 _ _ (Kh 0 _ (n1▸yk) (.over m' ys n ((t7.trans t8 zk).trans ai9 λb D=>ak (bU _ D)) ?_ ale (li8.at λo e=>ai9.keep _ o (aeP Xa2.symm Xa3.symm Xa4) e) d10 ia));show dG M5 λps9 q9=>((DR ps9 (qf q9 t10.keep (FZ Xa5 λ_ h2 h3=>hb h2 (hb h3 (nw _ _ ec))) (hb Xb4.symm (hb Xb5.symm ?_)))));show dG c7 λ_ q7=>dG (Bo q7) λ_ i8=>nw _ _ (t8.keep _ _ (λq=>kI q) i8)
 .show dG ((cA _ (tB' t2) c2).2.2.1) λnl hls=>cS<|JY hh li (bT hls) Z λh3 zH=>have t3:Tk [br] Y {Y with heap:=h3}:=.heap λb o D e=>zH _ o (λq=>D (bI.mpr q)) e;H0 _ (hR _ ys nd m (t2.trans t3 λb D=>ak (bI.mp D▸cR ..)) (c2.imp λps q=>qf q t3.keep (sM (vw Xa5)) (sM Xa4.symm)) (zH _ _ Xa3 d2) ia (PI.at' λo e=>zH _ o Xa2 e))
end
theorem S5(l:LN)(wd:Nat):dJ (l++[wd])=dJ l++n9 wd:=by
 delta dJ
 rw[ql];rfl
theorem NX(v:Nat):lu (Ai v) 8=(n9 v).map aj:=by rfl
section
variable{l f:ae}
theorem JP.on{bj aZ br L':ae}(X:JP c' P' bj aZ br sB)(t:Tk [P'] sB s)(hc:∃o,s.heap.get? c'=O o)(hP:∃o,s.heap.get? P'=O o)(hK:∃o,s.heap.get? bj=O o)(hD:∃o,s.heap.get? aZ=O o)(hL:s.heap.get? L'=ai):JP c' P' bj aZ L' sB:=
 have ne:∀x,(∃o,s.heap.get? x=O o)->x≠L':=λx e q=>by have e:=hL▸q▸e;show e.elim λ_ e=>Bj e
 ⟨⟨t.none (λq=>ne P' hP (bI.mp q).symm) hL,ne _ hK,ne _ hD,(ne _ hP).symm,λq=>(bq.mp q).elim (ne _ hc) λq=>X.1.2.2.2.2 (bW _ q)⟩,X.2⟩
inductive alf(c' P' bj aZ RI:ae)(ns:LN)(s:af)(k:Nat)(Y:af):Prop
 |mk (i:Nat) (ys:List aa) (n:Nat) (m:aV->Option aa) (e:k=ns.length - i) (hi:i<=ns.length) (t:Tk [RI,bj,aZ,P'] s Y) (c:∃ps,Y.heap.IsCode c' P' ps) (nn:Y.heap.Ns bj m) (r:mi Y.heap RI i ((ns.length:Int) - i) 1)
  (d:Y.heap.get? aZ=O (bp ys n)) (ia:fm ys ((dJ (ns.take i)).map aj))
theorem S6{bj aZ RI:ae}{p:Nat->cB}(hh:dh A)(bK:A.depth<900)(I:dQ mg mb)(c:ed L scope [y,83] [92,93,19])(dM:Gi scope "len")(jy:∀z∈[y,83],cl.lookup (NM z)=J.cells.lookup (NM z))(hy:ck G y=O (ky,aH (R l)))(hf:ck G 83=O (kf,aH (R f)))(oy:lY ns)(YT:d∉bV)(cA:∀Y,Tk [P'] sB Y->(∃ps,Y.heap.IsCode c' P' ps)->BCx mg mb L J G l d f c' P' ns Y)(X:JP c' P' bj aZ RI sB)(tB:Tk [P'] sB s)(hc:∃ps,s.heap.IsCode c' P' ps)(hr:mi s.heap RI 0 ns.length 1)(wG:s.heap.Ns bj m0)(ow:s.heap.get? aZ=O (bp [] 0))(hR:∀Y ys n m',Tk [RI,bj,aZ,P'] s Y->(∃ps,Y.heap.IsCode c' P' ps)->Y.heap.get? aZ=O (bp ys n)->fm ys ((dJ ns).map aj)->Y.heap.Ns bj m'->aN (bX cL) Y):
 CC A (hx (cE (aq (NM 19) p1) (Ip y p it0) scope pos) 0 (R RI) (R aZ) (jr scope cl bj J)) s aN:=by
 show eZ X λXa Xb=>iZ Xa λXa1 Xa2 Xa3 Xa4 Xa5=>dU Xb λXb1 Xb2 Xb3 Xb4 _ Xb6 _ _=>?_;have tB':∀{Y},Tk [RI,bj,aZ,P'] s Y->Tk [P'] sB Y:=λt=>tB.trans t λb D=>by
  apply tK D
  .show aw Xa1
  .show aw Xb1
  .show aw Xb2
  .show ak (cR ..)
 show HP (target':=aq (NM 93) (p 1)) (iter':=aq (NM y) (p 2)) (ifs':=[jt (aq (NM 92) (p 3)) [FJ] [bx (aq (aC "len") (p 4)) [aq (NM 93) (p 5)] [] (p 6)] (p 7)]) Z Z (λ_=>rfl) (alf c' P' bj aZ RI ns s) ?_ ns.length ⟨0,[],0,_,rfl,fk _,.refl _ _,hc,wG,hr,ow,qA⟩;rintro k Y Kp P1 P2 P3 P4 P5 P6 Kh H0 H1 H2 H3 _ H4 H5 H6 ⟨i,ys,n,m,dX,hi,t2,c2,PI,r2,d2,ia⟩;rcases AR hi with jx|rfl
 .show cS<|Th r2 au λh3 r3 zH=>H1 _ _ (C.eq (a:=()) Z (cS (jB (sG (xA (c.locs 92 (nme Z))) (PI.at' λo e=>zH.extBut _ o Xa2 e) (λh4 ZA I7=>H2 _ (uM (H3 _ ?_))) (by rw[show(js scope J).kind=dZ from c.kind];rfl:((js scope J).kind== .class ||((js scope J).kind== .module && bj != J.globals))=ab)))));have t34:∀tk,Tk [RI,bj] Y {Y with heap:=h4,toks:=tk}:=λtk=>.heap λb o D e=>Di D λh1 h2=>I7.extBut _ _ h2 (zH.extBut _ _ h1 e);have t4:∀tk,Tk [RI,bj,aZ,P'] s {Y with heap:=h4,toks:=tk}:=λtk=>t2.trans (t34 tk) λb D=>by apply r8 D<;>show ak bz
  have c4:∃ps,h4.IsCode c' P' ps:=c2.imp λps q=>qf q (X:=[RI,bj]) (t34 0).keep (FZ Xa5 λh1 h2 _=>Mv h1 h2) (Mv Xa4.symm Xb4.symm);have F4:=cA _ (tB' (t4 (Y.toks+1+1))) c4;show Lake.T.wR (ui (Cq (dB:=[]) c F4.2.1 jy ZA Xb6 HNm.nil) (x:=y) (k:=ky) (u:=R l) (JQ bz hy))<|H4 _ _<|og λgG kG=>?_;obtain⟨nl,hls⟩:=F4.2.2.1;obtain⟨v,hv⟩:∃v,ns[i]? =O v:=⟨_,dF jx⟩;show kG ?_;clear kG gG;have d4:h4.get? aZ=O (bp ys n):=I7.extBut _ _ Xb3.symm (zH.extBut _ _ Xa3 d2);have hly:ys.length=8 * i:=by have:=ia.length;rw[ik,pY,AL,AU hi]at this;show this
  show cS (uR (bT hls) ?_);have nL:h4.get? h4.objs.size=ai:=bD _;have tp:∀b o,h4.get? b=O o->(h4.push {cls:=ao "list_iterator",data:=bH #[R l,ag 0 0]}).get? b=O o:=λb o e=>a0 _ e;have eL:(h4.push {cls:=ao "list_iterator",data:=bH #[R l,ag 0 0]}).get? h4.objs.size=O {cls:=ao "list_iterator",data:=bH #[R l,ag 0 0]}:=bJ _ Z;have nwL:∀b o,h4.get? b=O o->b≠h4.objs.size:=λb o e q=>by have e:=nL▸q▸e;show Bj e
  dsimp only at nL eL nwL ⊢;generalize h4.push {cls:=ao "list_iterator",data:=bH #[R l,ag 0 0]}=h5 at tp eL ⊢;generalize h4.objs.size=br at nL eL nwL ⊢;have t5:∀X tk,Tk X {Y with heap:=h4,toks:=Y.toks+1+1} {Y with heap:=h5,toks:=tk}:=λX tk=>.heap λb o _ e=>tp b o e;obtain⟨ps4,q4⟩:=c4;have Xo:JP c' P' bj aZ br sB:=X.on (tB' (t4 (Y.toks+1+1))) (Ol q4) (Bo q4) (bg (Df ZA) λo e _=>⟨o,e⟩) ⟨_,d4⟩ nL;have loop:=aaR (mg:=mg) (mb:=mb) (A:=A) (s:={Y with heap:=h5,toks:=Y.toks+1+1}) (p:=p) (p1:=p1) (pos:=pos) (it0:=it0) (m0:=λz=>if z=NM 92 then O (ag (i:Int) Y.toks) else m z) (tk:=Y.toks)
   (aN:=P6)
   hh bK I c dM jy hf oy YT hv cA Xo ((tB' (t4 _)).trans (t5 [] _) zk) ⟨ps4,q4.keeps tp⟩ (kF _ eL Z Z) (ZA.at' λo e=>tp _ o e) (if_pos Z) (tp _ _ d4) (by rw[hly];have:=oy.2;lia) λs7 zs n7 m7 t7 c7 d7 ia7 ns7=>?_
  .show H5 _ _ (pK Z loop (cS (Tu (l:=l) (i:=0) (kF _ eL Z Z) loop)))
  .show H6 _ _ (Kh (ns.length - (i+1)) _ (dX▸rz jx (iX i)) ⟨i+1,ys++zs,n7,_,rfl,jx,(t4 (Y.toks+1+1)).trans ((t5 [bj,aZ,P'] (Y.toks+1+1)).trans t7 λb D=>(bq.mp D).elim (λq=>aw (q▸nL)) ak) λb D=>ak (bW _ D),c7,ns7,?_,d7,?_⟩)
   .have e2:(ns.length:Int) - ((i+1:Nat):Int)=(ns.length:Int) - i - 1:=by lia
    rw[e2,(by lia:((i+1:Nat):Int)=(i:Int)+1)];have r4:=I7.extBut _ _ Xa2.symm r3;show t7.keep _ _ (agS (nwL _ _ r4) Xa2.symm Xa3.symm Xa4) (tp _ _ r4)
   .rw [EM,hv,show(O v).toList=[v] from rfl,S5,jY,<-NX];show ia.append ia7
 .show cS (Tj hh r2 au λh3 zH=>?_);have t3:Tk [RI] Y {Y with heap:=h3}:=.heap (tk:=Y.toks) λb o D e=>zH _ o (λq=>D (bI.mpr q)) e;have ia:=sV▸ia;show H0 _ (hR _ ys n m (t2.trans t3 λb D=>ak (bI.mp D▸cR ..)) (c2.imp λps q=>qf q (X:=[RI]) t3.keep (sM (vw Xa5)) (sM Xa4.symm)) (zH _ _ Xa3 d2) ia (PI.at' λo e=>zH _ o Xa2 e))
end
section
variable{l f:ae}
def XU(y:Nat)(q:Nat->cB)(wu:du):aG:=bx (aq (aC "range") (q 0)) [bx (aq (aC "max") (q 1)) [cE (bx (aq (aC "len") (q 2)) [aq (NM 93) (q 3)] [] (q 4)) [⟨aq (NM 93) (q 5),aq (NM y) (q 6),[],0⟩] wu (q 7)] [] (q 8)] [] (q 9)
theorem ad2{p q:Nat->cB}(hh:dh A)(bK:A.depth<900)(I:dQ mg mb)(c:ed L scope [y,83] [92,93,19])(c2:ed L wu [] [93])(dM:Gi scope "len")(aaS:Gi wu "len")(hr:Gi L "range")(hm:Gi L "max")(hy:ck G y=O (ky,aH (R l)))(hf:ck G 83=O (kf,aH (R f)))(oy:lY ns)(YT:d∉bV)(hc:∃ps,s.heap.IsCode c' P' ps)(cA:∀Y,Tk [P'] s Y->(∃ps,Y.heap.IsCode c' P' ps)->BCx mg mb L J G l d f c' P' ns Y)(hq:∀aZ Y ys n,Tk [P'] s Y->(∃ps,Y.heap.IsCode c' P' ps)->s.heap.get? aZ=ai->Y.heap.get? aZ=O (bp ys n)->fm ys ((dJ ns).map aj)->Q (R aZ) Y):
 C A (a7 (cE (aq (NM 19) p1) (Ip y p (XU y q wu)) scope pos) J) s Q:=by
 have F:=cA s (.refl _ _) hc;show dG F.2.2.1 λnl hl=>bg (c.OA F.2.1 (by simp[pW,hy,hf])) λcl jy wJ=>have up:∀{a b:af},Tk [] a b->Tk [P'] a b:=λt=>(Tk.refl [P'] _).trans t zk;QD c jy (λ_=>rfl)<|QE c2 aaS hr hm hh F.1 I F.2.1 hy hl F.2.2.2.1 YT oy λrr s1 t u v t1 ϙ=>cS<|Ao ϙ (uZ fH (kbt_pos 62) fH (by have:=oy.2;lia))<|(by rw[uV];split<;>lia:lQ 0 (ns.length:Int) 1=(ns.length:Int)).symm▸?_;have tp:Tk [] s1 {s1 with heap:=s1.heap.push {cls:=ao "range_iterator",data:=bH #[dD 0,dD (ns.length:Int),dD 1]}}:=.heap λb o _ e=>a0 _ e;have nR:s1.heap.get? s1.heap.objs.size=ai:=bD _;have eR:(s1.heap.push {cls:=ao "range_iterator",data:=bH #[dD 0,dD (ns.length:Int),dD 1]}).get? s1.heap.objs.size=O {cls:=ao "range_iterator",data:=bH #[dD 0,dD (ns.length:Int),dD 1]}:=bJ _ Z;have top:QR<=(s1.heap.push {cls:=ao "range_iterator",data:=bH #[dD 0,dD (ns.length:Int),dD 1]}).objs.size:=jw (H:=[]) F.1.top ((t1.trans tp zk).x);generalize s1.heap.push {cls:=ao "range_iterator",data:=bH #[dD 0,dD (ns.length:Int),dD 1]}=h2 at tp eR top ⊢;generalize s1.heap.objs.size=RI at nR eR ⊢;have t2:=t1.trans tp zk;show gT top (λA' fB Q t hQ=>cS (To (t.keep _ _ (λq=>kI q) eR) hQ)) (λaZ bj fB t hD hK Og hKT ow wG=>?_);have t4:=t2.trans t zk;have nw2:∀b,h2.get? b=ai->∀x o,s.heap.get? x=O o->b≠x:=λb e x o e2 q=>by have e:=(t2.keep _ _ (λq=>kI q) e2)▸q▸e;ext
 have nwR:∀x o,s.heap.get? x=O o->RI≠x:=λx o e2 q=>by have nR:=(t1.keep _ _ (λq=>kI q) e2)▸q▸nR;ext
 show og λgG kG=>(tJ (hc.imp λ_ q=>(my q).2) λps oc oP i1 i8 _=>?_);obtain⟨mc,⟨os,_,_,es,_⟩,_⟩:=F.1.lim;show kG ?_;clear kG gG;show S6 hh bK I c dM wJ hy hf oy YT cA ⟨⟨t1.none (λq=>kI q) nR,λq=>(by have hK:=eR▸q▸hK;ext),λq=>(by have hD:=eR▸q▸hD;ext),nwR _ _ i8,λq=>?_⟩,t2.none (λq=>kI q) hK,t2.none (λq=>kI q) hD,Og.symm,nw2 _ hK _ _ i8,nw2 _ hD _ _ i8,hKT,nw2 _ hK _ _ es,nw2 _ hD _ _ es⟩
  (up t4) ((λt=>hc.imp λps q=>q.keeps λb o e=>t.keep b o (λq=>kI q) e) t4) (t.keep _ _ (λq=>kI q) eR) wG ow λY ys n m' t5 c5 d5 ia ns5=>cn m' ns5 (λh' sb=>?_)
 .simp only[bq,mZ,or_false]at q;rcases q with q|q|q
  .show nwR _ _ i1 q.symm
  .show nw2 _ hK _ _ i1 q.symm
  .show nw2 _ hD _ _ i1 q.symm
 .have t6:=(up t4).trans t5 λb D=>by
   apply tK D
   .show aw (t1.none (λq=>kI q) nR)
   .show aw (t2.none (λq=>kI q) hK)
   .show aw (t2.none (λq=>kI q) hD)
   .show ak (ez ..)
  show hq aZ {Y with heap:=h'} ys n (t6.trans (.heap λb o D e=>sb.extBut _ _ (λq=>D (bI.mpr q)) e) λb D=>aw (bI.mp D▸t2.none (λq=>kI q) hK)) (c5.imp λps q=>qf q (λb o D e=>sb.extBut _ _ (λq=>D (bI.mpr q)) e) (λq=>nw2 _ hK _ _ i1 (bI.mp q).symm) λq=>nw2 _ hK _ _ i8 (bI.mp q).symm) (t2.none (λq=>kI q) hD) (sb.extBut _ _ Og d5) ia
end
section
open Builtin
variable{t:ba}
theorem NY:seqRepeat? (ao "bytes")=pure (O (bB "bytes.__mul__")):=by rfl
theorem D9:gO table "bytes.__mul__" =O Builtin.«bytes.__mul__»:=mh (rfl)
theorem S7(D:b.size=1)(h:Q (oz #[] s.toks) {s with toks:=s.toks+1}):aA (aE prog w) A (binaryOp vm (oz b t) (ag 0 u)) Q aX s:=by
 show wpAny_binaryOp_repeat (rfl) (λY=>typeIs_bytes Y b t) (λY=>xM Y 0 u) W.BMul.noFill F.fills_int_mul Fw NY Fu.lookup
  (call_gives Fw (xM s 0 u) VE (Vz _ _) (m:=Made.val Value.notImplemented) ?_ ⟨rfl,jS W.BMul.slot_mul (typeIs_bytes s b t) D9 ?_ (W.BMul.args_mul _ _)⟩)
 .show Wh λM A aX s Q h=>by obtain⟨hp,g,d,tk,os⟩:=s;wp_walk;show cn _ Z h
 .show ah<|ah<|aB<|aB<|(?_:aA _ _ (if(b.size * (0:Int).toNat==b.size)=N then _ else _) _ _ _);rw[if_neg (by rw[D];decide)];rw[(by delta Bytes.repeated;split<;>rfl:Bytes.repeated b (0:Int).toNat=#[])];show ah (wpAny_mkBytes (aB (cn _ Z h)))
end
theorem XW{i:aG}{f:MK->Option aa}{k:Int}(hm:U.MapOf (d0) d f)(hd:d∉bV)(hv:f (.int k)=O v)(he:V H U A L J G e (aH (R d)) ab)(hi:V H U A L J G i (a6 k) ab)(sf:j8 i=ab):
 V H U A L J G (dk e i pos) (aH v) fr:=λs r=>by
 show rL<|(he r).Z9 λaD e1=>(hi (r.ext e1.ext)).Cz λt aQ e2=>have hm2:aQ.heap.MapOf (d0) d f:=fc hm λo es ep h1 h2=>Bl o es ep ((r.base.trans (e1.trans e2).ext).keep d o hd h1) h2;vh hm2.typeIs slot_dict_getitem.lookup (wpAny_getItem_of (beq_self_eq_true k) hm2 hv (o6 [] ((e1.trans e2).trans (.toks _ _)) (.ip _) d9)) (uB sf _ _)
section
variable{Q:cb->af->Prop}{b:ae}
theorem PL.called(p:PL H U L J aK bo bw G S br Gs s)(q:PL τ' U sc' fZ s [] (S.map (·.1)) G' S' L' Ya Y)(hi:∀y∈S,gm y.2=N):PL τ' U L J aK bo bw G S' (L'++br) Gs Y:=by
 have c:=p.ps.called q.ps hi;show lZ p.fr λW r hW dj dL=>?_;have m:sF (S.map (·.1)) s Y:=by have:=q.mod;show this
 have r':=r.ahK q.ps.ext (λb o D ht e=>m.mod.keep b o D ht e) (λb D=>by show bg (bG.mp D) λy hy e=>?_;subst e;show iK (p.sg y hy) λc1 c2 c3 c4=>(⟨rX c1 (hi y hy),c2,dj y hy⟩))
 have hWs:∀b∈W,s.heap.get? b≠ai:=λb hb' q=>oX (r.je b hb') λ_ _ o e _=>by have e:=q.symm.trans e;ext
 show⟨(wy W r' hW (λy hy hw=>bc (q.lC y hy) (λh=>bg (bG.mp h) λz hz e=>(dj z hz (e▸hw))) λh=>hWs _ hw h) (λy hy hw=>bc (bY.mp hy) (λh=>hWs _ hw (q.lg y h).2.2.1) λh=>dL y h hw)),q.sg,λy hy=>?_,c.mod,c.lC,λy hy=>⟨m.gens.1 _ _ (p.gk y hy).1,(p.gk y hy).2⟩⟩;rcases bY.mp hy with h|h
 .show iZ (q.lg y h) λa1 a2 a3 a4 a5=>⟨a1,a2,p.mod.mod.new a3,a4,a5⟩
 .show iZ (p.lg y h) λa1 a2 a3 a4 a5=>(⟨m.mod.keep _ _ a5 a2 a1,a2,a3,a4,λhz=>?_⟩);show bg (bG.mp hz) λz hz e=>?_;rcases q.lC z hz with k|k
  .show a5 (e▸k)
  .have k:=a1▸e▸k;ext
def ud(d:ae)(ns ms:LN)(ok:aa->af->Prop):Prop:=
 ∀(A':b9) u s,dh A'->ok u s->s.heap.get? d=O (kz ns)->C A' (call (bB "bytearray.extend") [R d,u]) s (λv Y=>v=ax/\Tn [d] s Y/\Y.heap.get? d=O (kz ms))
theorem ud.list(hms:∀x∈ms,x<256)(dM:ns.length+ms.length<=1000):ud d ns (ns++ms) (λu s=>∃F,bM s.heap (aY ms) u F):=λA' u s hh qQ ho=>dG qQ λF aP=>by show iO aP λla vs n F' dX _ ID V' _=>dX▸wZ hh ho ID (intsAre_of V' (dS ms)) hms (by rw[hZ];show dM) λs3 tn ho3=>gT Z tn ?_;rw[Xk]at ho3;show ho3
theorem ud.nil(dM:ns.length<=1000):ud d ns ns (λu s=>u=oz #[] tb):=λA' u s hh e ho=>by subst e;show IL ho (by rw[hZ];show dM) λs3 tn ho3=>gT Z tn ho3
theorem ZC{ok:aa->af->Prop}(hh:dh A)(X:(iC P t f).In U)(p:PS H U (bf (vC 3)) J aK bo bw G S s)(h1:ck G 110=O (k1,aH (R b)))(h2:ck G 111=O (k2,av))(yT:∀y∈jf b dx d ns,y∈S)(hn:lY ns)(oy:∀u s F,bM s.heap av u F->ok u s)(E:ud d ns ms ok)(hS:∀y∈S',(y.1=d/\y.2=kz ms)\/(y.1≠d/\y∈S))(kk:∀Y,PS H U (bf (vC 3)) J aK bo bw G S' Y->Q cL Y):C A (aU (bh (vC 3)) J) s Q:=by have D:=p.Hm yT hn;show z0 (by show bg p.fr λW r _=>?_;delta iG;show r.scope.symm▸?_;rfl) Z (rV Z Z Z (WN ((V.data (fr:=N) (jj X p.ext) D.obj D.WZ D.t1 D.t2 h1) p.er) λaD e1 pl=>?_));have p1:=p.grow e1;have hd:(d,kz ns)∈S:=yT _ (List.mem_of_getLast? rfl);have QM:=p1.get hd;show cS<|TL (fy QM) zA pF xf (λa ea=>by obtain rfl:=j6 ea;show cn _ QM Z)<|de Z (eu (cu (Lake.T.wcV (vY (p.er.ext e1.ext) h2) λu F2 V2=>c8 (lU ⟨rfl,?_⟩))));show(E A u aD hh (oy u aD F2 V2) QM).mono λv s3 qQ=>ie qQ λe3 tn ho3=>⟨e3,ff (kk s3 (p1.turn hd Z tn ho3 Z hS))⟩
theorem JR{o:aG}(hh:dh A)(bK:A.depth<990)(B:cx U mg mb)(gH:pT U P t f)(p:PL H U L J aK bo bw G S br Gs s)(hi:∀y∈S,gm y.2=N)(he:V H s.heap A L J G o (aH (R b)) ab)(dH:cI e=ab)(yT:∀y∈jf b dx d ns,y∈S)(hn:lY ns)(xh:uU o (aC "extend") J (a7 o J)=a7 o J)(lz:(apos.endLine==cpos.line)=N)(wq:iG J=ab)(hS:∀y∈S',(y.1=d/\y.2=kz ms)\/(y.1≠d/\y∈S))(hE:∀aD,dA H s aD->PL H U L J aK bo bw G S br Gs aD->C A (a7 e J) aD (λu aQ=>∃L' Ya av F ok,PL H U L J aK bo bw G S L' Ya aQ/\bM aQ.heap av u F/\(∀u s F,bM s.heap av u F->ok u s)/\ud d ns ms ok/\
 ∀Y,PL H U L J aK bo bw G S' L' Ya Y->C A (aU rest J) Y Q)):
 C A (aU (qw (bx (gZ o (aC "extend") apos) [e] [] cpos) pos::rest) J) s Q:=by
 show z0 wq Z<|Hv gH.pI p.ps he yT hn afl aco Z gH.ϔ xh (by rw[l6 dH];rfl) lz λaD e1=>bg p.open λW q back=>?_;rw[l6 dH];show eu (cu ((hE aD e1 (back _ _ _ _ (q.grow e1))).mono λu aQ qQ=>wx qQ λL' Ya av F ok p2 aP oy E k=>c8 ⟨⟨_,p2.ps.ext⟩,?_⟩));show zz (us:=[R b,u]) (avs:=[aH (R b),av]) (F:=F) [110,111] B p2.ps.ext (gc bK bu) gH.ϔ Z Z Z ?_ (ej [] F (.ip _) (DT _ [] F [] rfl aP .nil (mr (yb F)))) aL Z aL p2.ps.sg λs3 L3 p3=>ZC (hh) gH.pI p3 Z Z yT hn oy E hS λs4 p4=>⟨rfl,k s4 (p2.called p4.pl hi)⟩;have D:dw (f 1) ⟨[R b,u],[]⟩=pure (([110,111].map NM).zip [R b,u]):=by
  delta dw
  show gH.ϔ.params.symm▸gH.afn.symm▸?_;rfl
 show D.symm▸aB ⟨rfl,rfl⟩
end
def lX:cg:=dP 21
def ZD(U:aO)(mg:aV->Option aa)(P:cf)(t:Nat->ba)(f:Nat->cq)(P2:cf)(t2:Nat->ba)(fd:cq)(lg ex gen:LN)(gp:ae)(Oi:cq):Prop:=
 (iC P t f).In U/\
 acH U f/\
 DZ U P2 t2 fd/\
 k_ U lg ex gen gp/\
 mg (aC "GALIOS_LOG")=O (R 1888)/\
 mg (aC "GALIOS_EXP")=O (R 1890)/\
 mg (aC "GEN_POLY")=O (R 1868)/\
 (∃f5,U.IntMap 1868 f5/\f5 (aj gen.length)=O (R gp))/\
 mg (aC "make_blocks")=O (R 1931)/\
 qX U 1931 Oi jk/\
 Oi.defaults=ax
def Iq(U:aO)(lv:Nat)(ta ei:ae)(ns:LN):Prop:=
 (∃f1 d2 f2,U.MapOf (d0) 139 f1/\f1 (.int (-2))=O (R d2)/\U.MapOf (d0) d2 f2/\d2∉bV/\f2 (.int (aj lv))=O (R ta))/\
 (∃m,U.get? ta=O (cV [R ei] m))/\
 ta∉bV/\
 Cb U ei ns
section
variable{Q:cb->af->Prop}{b:ae}
theorem ad3(hh:dh A)(E:Hx L x)(hy:Hx L y)(h1:bS G x=N)(h2:bS G y=N)(hs:swapsWithSole [fO [aq (NM x) px,aq (NM y) py] k0 pt] e pos.line J=pure ab)(hw:uW [fO [aq (NM x) px,aq (NM y) py] k0 pt] e J=pure ai)(he:C A (a7 e J) s (λv aD=>∃τ' S' L' Ya u1 u2,PL τ' U L J aK bo bw G S' L' Ya aD/\bM aD.heap (fI [aH u1,aH u2]) v []/\
 ∀Y,PL τ' U L J aK bo bw (jh (jh G x 0 (aH u1)) y 0 (aH u2)) S' L' Ya Y->C A (aU rest J) Y Q)):
 C A (aU (eF [fO [aq (NM x) px,aq (NM y) py] k0 pt] e pos::rest) J) s Q:=by
 show il<|C.bind<|C.standAt<|hs.symm▸C.bind (C.pure ?_);show C.bind<|he.mono λv aD ou=>jd ou λτ' S' i=>Bk i λL' Ya u1 u2 p aP k=>?_;rw[hw];show ?_;show C.bind (m:=assignAll v _)<|og λgG kG=>gJ aP λa ws n dX hT ho aP=>kG ?_;clear kG gG;show dX▸og λgG kG=>?_;obtain⟨w1,ws1,F1,F2,qG,V1,aP,_⟩:=aP;show kG ?_;clear kG gG;subst qG;show og λgG kG=>?_;obtain⟨w2,ws2,F3,F4,DU,V2,aP,_⟩:=aP;show kG ?_;clear kG gG;subst DU;obtain⟨N8,_⟩:=aP;subst N8;have e1:=V1.DE;have e2:=V2.DE;subst e1 e2;show T.wo ?_ λ_ Y p'=>C.pure (k Y p');show(?_:aA _ A (jE (fO [aq (NM x) px,aq (NM y) py] k0 pt) J (R a)) _ _ _);show J1 hh ⟨_,ho,rfl,n,rfl⟩ Z Z λh3 he=>bg p.open λW q back=>ah<|cQ<|jB<|((back _ _ _ _ (q.grow (Y:={aD with heap:=h3}) ⟨.of_keep λc o e=>he c o (fE (cj e)) e,rfl,rfl,rfl⟩)).store E h1 (.ip w1)).wp λ_ s4 p4=>ah<|cQ<|jB<|(p4.store hy (BA h2) (.ip w2)).wp λ_ s5 p5=>aB p5
theorem aja{lg:LN}{bt m:Nat}{Q:aa->af->Prop}(hh:dh A)(bK:A.depth<790)(B:cx U mg mb)(I:dQ mg mb)(I2:t9 mg mb)(hT:gq U)(gH:ZD U mg P t f P2 t2 fd lg ex gen gp Oi)(pv:1979∉H)(kr:1979∈τ')(nS:∀b∈H,b∈τ')(kM:Gi L "make_blocks")(ht:U.get? ta=O (cV [R ei] m))(htT:ta∉bV)(hE:Cb U ei [1,bt,n+1])(hbt:bt=n+1+gen.length)(hn:lY ns)(dM:ns.length=8 * (n+1))(Ae:∀x∈ns,x<2)(hw:lY (wordsOf ns (n+1)))(HZ:n+1<=100)(p:PL H U L J aK bo bw G S br Gs s)(hi:∀y∈S,gm y.2=N)(h84:ck G 84=O (k1,aH (R ta)))(h82:ck G 82=O (k2,aH (R b)))(yT:∀y∈jf b dx d ns,y∈S)(hq:∀v Y l1 l2 bl Oh k1 k2 rr o,PL τ' U L J aK bo bw G ((Oh,kz ((gV lg ex gen (wordsOf ns (n+1)++bZ gen.length 0) (wordsOf ns (n+1)).length).drop (wordsOf ns (n+1)).length))::(bl,kz (wordsOf ns (n+1)))::(rr,o)::S) ([(l1,bp [R bl] k1),(l2,bp [R Oh] k2)]++br) Gs Y->
 bM Y.heap (fI [aH (R l1),aH (R l2)]) v []->Q v Y):
 C A (a7 (bx (aq (aC "make_blocks") np) [aq (NM 84) p1,aq (NM 82) p2] [] pos) J) s Q:=by
 show dU gH λO1 O2 O3 O4 O5 O6 O7 alg=>iK alg λO8 O9 O10 O11=>?_;show bg O8 λf5 m5 v5=>so [aH (R ta),aH (R b)] B p.ps O9 kM (rfl) O10 (fL.cons (ar _ h84) (fL.cons (ar _ h82) fL.nil Z) Z) Z λvs aD F e1 aP=>bg p.open λW q back=>?_;have pq:=back _ _ _ _ (q.grow e1);have V':=aP;obtain⟨v1,vs1,F1,F2,dX,V1,V',qG⟩:=V';subst dX;obtain⟨v2,vs2,F3,F4,DU,V2,V',N8⟩:=V';subst DU;show eZ V' λZP eQ6=>?_;subst ZP;show zz [84,82] B pq.ps.ext (gc bK bu) O10 Z Z Z ?_ aP aL Z aL pq.ps.sg λs2 L2 p2=>ac3 (hh) au B I I2 O1 O2 O3 hT O4 pv kr nS O5 O6 O7 m5 v5 ht htT hE hbt hn dM Ae hw HZ p2 yT λY v l1 l2 bl Oh k1 k2 rr o p' V'=>hq v Y l1 l2 bl Oh k1 k2 rr o (pq.called p' hi) V';have D:dw Oi ⟨[v1,v2],[]⟩=pure (([84,82].map NM).zip [v1,v2]):=by
  delta dw
  show O10.params.symm▸O11.symm▸?_;rfl
 show D.symm▸aB ⟨rfl,rfl⟩
end
section
variable{Q:cb->af->Prop}{b:ae}
theorem S8(he:V H U A L J G e oZ ab):o7 H U A L J G (jt e [CmpOp.IsNot] [fN rO k p] pos) ab:=λs r=>by show uQ ((he r).tN λv aD F1 e1 V1 _=>aB ?_) Z;have ev:v=ax:=V1.1;subst ev;show wpAny_isNot_self Z (me ⟨e1,rfl⟩)
def QF:List aG->Option (List Int)
 | []=>O []
 |e::r=>(SF e).bind λc=>(ady c).bind λi=>(QF r).map (i::·)
theorem fL.QF:∀{ms:List Int},Lake.QF es=O ms->fL H U A L J G es (ms.map a6):=by
 induction es with
 |nil=>intro ms h;obtain rfl:=aW h;show fL.nil
 |cons e r iH=>intro ms h;show bg (LD.mp h) λc h1 h=>bg (LD.mp h) λi h2 h=>bg (iY.mp h) λl h3 dX=>dX▸bg (iY.mp h1) λq h4 dX=>?_;subst dX;show Qr (Zo e) h4▸SH h2▸fL.cons V.int (iH h3) Z
theorem NZ(ms:List Int)(x:Int){a:aG}(B:Tp U)(ha:V H U A L J G a (a6 x) ab)(hc:Lake.QF es=O ms)(hl:dY ms.length 1000=N)(hm:Ei yF (fO es k p)=ab):
 o7 H U A L J G (jt a [yF] [fO es k p] pos) (ms.any (· ==x)):=
 (W6 ha (uj B (fL.QF hc) (Gj (nZ ms)) (by rw[ik];show hl)) (nZ ms) hm)
def DP(c P:ae)(oc oP:bE):Prop:=Aj oP/\(∀vs n,oP.data≠bQ vs n)/\∀h:aO,h.get? c=O oc->h.get? P=O oP->∃ps,h.IsCode c P ps
theorem DP.of{c P:ae}(hc:h.get? c=O oc):(∃ps,h.IsCode c P ps)->∃oP,h.get? P=O oP/\DP c P oc oP:=λqQ=>dG qQ λps x=>by show FX (my x) λ_ o op i1 i8 i9 mk=>?_;obtain rfl:=aW (hc.symm.trans i1);show⟨op,i8,λu e=>by(have e:=i9▸e;ext),λ_ _ e=>by(have e:=i9▸e;ext),λh' e1 e2=>⟨ps,mk h' e1 e2⟩⟩
theorem alh{l:ae}(B:cx U mg mb)(I:dQ mg mb)(hT:gq U)(p:PL H U L J aK bo bw G S br Gs s)(hG:QC G=N)(F:aaP aeL fa c' P' dT t8 fd oc sa sb)(h1:(fa,mN fd)∈br)(h2:(c',oc)∈br)(h3:(P',oP)∈br)(h4:(dT,cV [ag 8 t8] 0)∈br)(h5:(l,bp [R d] kl)∈br)(h6:(d,kz ns)∈S)(hc:DP c' P' oc oP):
 ∀Y,Tk [P'] s Y->(∃ps,Y.heap.IsCode c' P' ps)->BCx mg mb L J G l d fa c' P' ns Y:=λY k qQ=>dG qQ λps oy=>by
 show dU F λF1 F2 F3 F4 F5 F6 F7 agD=>dU agD λF8 F9 F10 F11 F12 _ F14 QB=>eZ QB λF15 _=>?_;have p':=p.aeH (L':=[]) hG hT k (λb D=>⟨oP,bI.mp D▸h3,hc.1⟩) (zk);have nP:∀a o,(a,o)∈br->a≠P'->Y.heap.get? a=O o:=λa o h q=>k.keep _ _ (λe=>q (bI.mp e)) (p.getL h);show iZ (p.lg _ h3) λ_ q2 q3 q4 _=>?_;have nh:∀a o,U.get? a=O o->P'≠a:=λa o e q=>by have e:=q4▸q.symm▸e;ext
 have x1:=nP _ _ h1 (λq=>by have:=F1;have this:=F14▸q▸this;cases this);have Bp:=p'.ps.base B;show⟨Bp,p'.erE,⟨_,(nP _ _ h5 (λq=>by have:=p.getL h5;have this:=(p.getL h3)▸q▸this;obtain rfl:=aW this;show hc.2.1 _ _ Z))⟩,p'.ps.get h6,⟨fd,x1⟩,λA' v tk Q hh bK hq=>?_⟩;show gv F15 λc2 oc2 vs tq e1 e2 e3 e4=>?_;cases F11.symm.trans (F11.trans e1)
 rw[F12]at e2;obtain rfl:=aW e2;show og λgG kG=>?_;obtain⟨ob,eb⟩:=B.top;show bg B.lim λmc i1 _=>fc i1 λos _ _ es _=>fc B.g λom _ _ em _=>l0 B.bmod λbm obm hbm _ _ Rh _=>kG ?_;clear kG gG;show adZ hh bK Bp I x1 F2 F3 F4 F5 F6 F7 F8 F9 (nP _ _ h4 (λq=>by have:=F10;have this:=F14▸q▸this;cases this)) F11 (nP _ _ h2 (Jb oy)) e3 e4 (p.lg _ h1).2.1 (p.lg _ h2).2.1 oy q2 (nh _ _ em) (nh _ _ eb).symm (nh _ _ es) (λbm' e=>by replace e:=hbm▸e;obtain rfl:=j6 (aW e);show nh _ _ Rh) λa aS Ia cv s1 s2 g1 g2 g3 g4 M=>hq a aS Ia cv s1 s2 ⟨λb o _ e=>g1 b o e,g3,g4,g2⟩ M
end
noncomputable def aaT:List cB->Nat->cB
 | [],_=>⟨0,0,0,0⟩
 |p::_,0=>p
 |_::l,n+1=>aaT l n
def QG(i:Nat):aG:=match a9 (bh lX) i with|qw (bx _ [e] _ _) _=>e |_=>fN rO 0 ⟨0,0,0,0⟩
def ad4:aG->du
 |cE _ _ L _=>L
 |_=>bf lX
def ajb:aG->aG
 |cE _ (c::_) _ _=>aeQ (aeQ c.iter)
 |e=>e
theorem agE:∃p q p1 pos,QG 7=cE (aq (NM 19) p1) (Ip 85 p (XU 85 q (ad4 (ajb (QG 7))))) (ad4 (QG 7)) pos:=
 ⟨aaT [_,_,_,_,_,_,_,_,_,_,_,_,_,_],aaT [_,_,_,_,_,_,_,_,_,_],_,_,rfl⟩
theorem agF:∃p q p1 pos,QG 9=cE (aq (NM 19) p1) (Ip 86 p (XU 86 q (ad4 (ajb (QG 9))))) (ad4 (QG 9)) pos:=
 ⟨aaT [_,_,_,_,_,_,_,_,_,_,_,_,_,_],aaT [_,_,_,_,_,_,_,_,_,_],_,_,rfl⟩
def aaU(e:aG)(st:cg):Prop:=∃a1 a2 a3 a4,st=qw (bx (gZ (aq (NM 88) a1) (aC "extend") a2) [e] [] a3) a4/\(a2.endLine==a3.line)=N
theorem agG:aaU (QG 7) (a9 (bh lX) 7):=aeM _ _ _ _ Z Z
theorem agH:aaU (QG 9) (a9 (bh lX) 9):=aeM _ _ _ _ Z Z
section
variable{Q:cb->af->Prop}{b:ae}
theorem rY(ws:LN):∀x∈dJ ws,x<2:=by
 have key:∀(l m:LN),(∀x∈m,x<2)->∀x∈l.foldl (λl wd=>l++n9 wd) m,x<2:=λl=>by
  induction l with
  |nil=>show λm h=>h
  |cons v l ih=>show λm h=>ih _ λx E=>(bY.mp E).elim (h x) λq=>bg (bG.mp q) λp _ e=>e▸m9 _ bu
 show key ws [] zk
theorem Dg{aZ:ae}{ys:List aa}(hD:aZ∉bV)(e:h.get? aZ=O (bp ys n))(ia:fm ys (ms.map aj)):bM h (aY ms) (R aZ) [aZ]:=by have aP:=wF (h:=h) ia;rw[qm]at aP;show r9 [] hD e aP
theorem XX{k8:Nat}{l:ae}(hh:dh A)(bK:A.depth<890)(B:cx U mg mb)(I:dQ mg mb)(hT:gq U)(gH:pT U P t f)(dH:aaU e st)(hLC:∃p q p1 pos,e=cE (aq (NM 19) p1) (Ip y p (XU y q wu)) scope pos)(c:ed L scope [y,83] [92,93,19])(c2:ed L wu [] [93])(dM:Gi scope "len")(aaS:Gi wu "len")(hr:Gi L "range")(hm:Gi L "max")(h88:ck G 88=O (k8,aH (R b)))(hy:ck G y=O (ky,aH (R l)))(hf:ck G 83=O (kf,aH (R fa)))(p:PL H U L J aK bo bw G S (La++(P',oP)::Lb) [] s)(hi:∀y∈S,gm y.2=N)(hG:QC G=N)(wq:iG J=ab)(F:aaP aeL fa c' P' dT t8 fd oc sa sb)(qI:∀z∈La++Lb,z.1≠P')(h1:(fa,mN fd)∈La++Lb)(h2:(c',oc)∈La++Lb)(h4:(dT,cV [ag 8 t8] 0)∈La++Lb)(h5:(l,bp [R d2] kl)∈La++Lb)(h6:(d2,kz ws)∈S)(hc:DP c' P' oc oP)(hw:lY ws)(yT:∀y∈jf b dx d ns,y∈S)(hn:lY ns)(hsz:ns.length+8 * ws.length<=1000)(hS:∀y∈S',(y.1=d/\y.2=kz (ns++dJ ws))\/(y.1≠d/\y∈S))(kk:∀Y oP',DP c' P' oc oP'->PL H U L J aK bo bw G S' (La++(P',oP')::Lb) [] Y->C A (aU rest J) Y Q):C A (aU (st::rest) J) s Q:=by
 show og λgG kG=>?_;obtain⟨a1,a2,a3,a4,dX,lz⟩:=dH;obtain⟨pp,q,p1,pos,qG⟩:=hLC;show kG ?_;clear kG gG;subst dX;subst qG;have up:∀{z:ae×bE},z∈La++Lb->∀oP,z∈La++(P',oP)::Lb:=λh oP=>bc (bY.mp h) (λh=>dc _ h) λh=>ew _ (bU _ h);have hP:∀oP,(P',oP)∈La++(P',oP)::Lb:=λoP=>ew _ (ez ..);show JR (ms:=ns++dJ ws) hh (gc bK bu) B gH p hi (ar _ h88) Z yT hn Z lz wq hS λaD e1 p1=>ad2 hh (gc bK bu) I c c2 dM aaS hr hm hy hf hw (p1.sg _ h6).2.1 (hc.2.2 aD.heap (p1.getL (up h2 _)) (p1.getL (hP _))) (alh B I hT p1 hG F (up h1 _) (up h2 _) (hP _) (up h4 _) (up h5 _) h6 hc) λaZ s2 ys n k hc2 nD eD ia=>bg (DP.of (k.keep _ _ (λq=>qI _ h2 (bI.mp q)) (p1.getL (up h2 _))) hc2) λoP' eP hc'=>((agP (La++(P',oP')::Lb) [] (aY (dJ ws)) [aZ] (λu s=>∃F,bM s.heap (aY (dJ ws)) u F) (p1.aeH hG hT k (λb D=>⟨oP,bI.mp D▸hP _,hc.1⟩) (λz hz=>?_)) (Dg (λq=>?_) eD ia) (λu s F aP=>⟨F,aP⟩) (ud.list (λx E=>gc (rY ws x E) bu) (by rw[pY];show hsz)) (λY p'=>kk Y oP' hc' p')))
 .have key:z∈La++Lb\/z=(P',oP'):=by show bc (bY.mp hz) (λh=>ak (dc _ h)) λh=>(bq.mp h).elim aw λh=>ak (ew _ h)
  rcases key with h|rfl
  .show ⟨ak (bG.mpr (cn z (up h _) Z)),k.keep _ _ (λq=>qI z h (bI.mp q)) (p1.getL (up h _))⟩
  .show ⟨ak (bG.mpr (cn _ (hP oP) Z)),eP⟩
 .show dG (hT _ q) λo e=>(dG (p1.ps.ext.there _ o e) λo' e'=>?_);have e':=nD▸e';ext
end
section
variable{Q:cb->af->Prop}{b:ae}
theorem Cr{c:aG}{a b:List cg}(p:PL H U L J aK bo bw G S br Gs s)(hc:o7 H s.heap A L J G c ab)(k:∀Y,PL H U L J aK bo bw G S br Gs Y->C A (aU b J) Y (acd A J rest Q)):C A (aU (yo c a b pos::rest) J) s Q:=bg p.open λW q back=>(q.ite hc λY q'=>k Y (back _ _ _ _ q'))
theorem N0(x:Nat)(av:AV)(p:PL H U L J aK bo bw G S br Gs s)(he:V H s.heap A L J G e av ab)(hf:flat av=N)(dH:bS G x=N)(E:Hx L x)(hs:fD e (O (aq (NM x) q)) pos.line J=pure ab)(k:∀Y,PL H U L J aK bo bw (jh G x 0 av) S br Gs Y->C A (aU rest J) Y Q):C A (aU (eF [aq (NM x) q] e pos::rest) J) s Q:=bg p.open λW q back=>(q.asg he hf dH E hs λY q'=>k Y (back _ _ _ _ q'))
def gMf(lv:Nat)(b fa ta l1 l2 r:ae):iz:=[(72,0,a6 (-2)),(81,0,aT lv),(82,0,aH (R b)),(83,0,aH (R fa)),(84,0,aH (R ta)),(85,0,aH (R l1)),(86,0,aH (R l2)),(87,0,oZ),(88,0,aH (R r))]
def aaV:List cg:=[a9 (bh lX) 8,a9 (bh lX) 9,a9 (bh lX) 10,a9 (bh lX) 11,a9 (bh lX) 12,a9 (bh lX) 13]
theorem ali{lv:Nat}{l1 l2 b1 d1 e1:ae}{S0:Sg}(hh:dh A)(bK:A.depth<890)(B:cx U mg mb)(I:dQ mg mb)(hT:gq U)(gH:pT U P t f)(p:PL H U (bf lX) J aK bo bw (gMf lv b1 fa ta l1 l2 b) (jf b dx d []++(e1,kz cs)::(d1,kz ws)::S0) ([(l1,bp [R d1] k1),(l2,bp [R e1] k2),(fa,mN fd),(c',oc)]++(P',oP)::[(dT,cV [ag 8 t8] 0)]) [] s)(hi:∀y∈S0,gm y.2=N)(ZR:∀y∈(e1,kz cs)::(d1,kz ws)::S0,y.1≠d)(hbd:b≠d)(hxd:dx≠d)(wq:iG J=ab)(F:aaP aeL fa c' P' dT t8 fd oc sa sb)(qI:∀z∈[(l1,bp [R d1] k1),(l2,bp [R e1] k2),(fa,mN fd),(c',oc)]++[(dT,cV [ag 8 t8] 0)],z.1≠P')(hc:DP c' P' oc oP)(hw:lY ws)(hw2:lY cs)(hsz:8 * ws.length+8 * cs.length<=1000)(kk:∀Y G',PS H U (bf lX) J aK bo bw G' (jf b dx d (dJ ws++dJ cs)++S0) Y->Q (cG (R b)) Y):C A (aU (a9 (bh lX) 7::aaV) J) s Q:=by
 have S9:∀(ns:LN) (X:Sg),∀y∈jf b dx d ns,y∈jf b dx d ns++X:=λ_ _ y hy=>dc _ hy;have μ:∀(ns ms:LN) (X:Sg),(∀y∈X,y.1≠d)->∀y∈jf b dx d ms++X,(y.1=d/\y.2=kz ms)\/(y.1≠d/\y∈jf b dx d ns++X):=λns ms X hX y hy=>by
  show bc (bY.mp hy) (λq=>?_) λq=>aw ⟨hX y q,ew _ q⟩;apply Dh q
  .show aw ⟨hbd,AG Z⟩
  .show aw ⟨hxd,by simp[jf]⟩
  .show ak ⟨rfl,rfl⟩
 have Gq:∀(ns:LN),∀y∈jf b dx d ns++(e1,kz cs)::(d1,kz ws)::S0,gm y.2=N:=λns y hy=>by
  rcases bY.mp hy with q|q
  .simp only[jf,bq,mZ,or_false]at q;rcases q with rfl|rfl|rfl<;>rfl
  .rcases bq.mp q with rfl|q
   .rfl
   .rcases bq.mp q with rfl|q
    .rfl
    .show hi y q
 have l1w:(dJ ws).length=8 * ws.length:=pY ws;have l1c:(dJ cs).length=8 * cs.length:=pY cs;have agI:∀l,∀x∈dJ l,x<256:=λl x E=>gc (rY l x E) bu;show XX (y:=85) (ky:=0) (kf:=0) (k8:=0) (kl:=k1) (l:=l1) (ns:=[]) (ws:=ws) hh bK B I hT gH agG agE (ed.of (by decide+kernel)) (ed.of (by decide+kernel)) (by rfl) (by rfl) (by rfl) (by rfl) Z Z Z p (Gq []) Z wq F qI (bU _ (bU _ (ez _))) (bU _ (bU _ (bU _ (ez _)))) (bU _ (bU _ (bU _ (bU _ (ez _))))) (ez _) (bU _ (bU _ (bU _ (bU _ (ez _))))) hc hw (S9 _ _) ⟨λ_ h=>(kI h),fk _⟩ (by rw[KU];lia) (μ _ (dJ ws) _ ZR) λs1 oP1 hc1 p1=>Cr p1 (S8 (ar 87 Z)) λs2 p2=>ff<|XX (y:=86) (ky:=0) (kf:=0) (k8:=0) (kl:=k2) (l:=l2) (ns:=dJ ws) (ws:=cs) hh bK B I hT gH agH agF (ed.of (by decide+kernel)) (ed.of (by decide+kernel)) (by rfl) (by rfl) (by rfl) (by rfl) Z Z Z p2 (Gq _) Z wq F qI (bU _ (bU _ (ez _))) (bU _ (bU _ (bU _ (ez _)))) (bU _ (bU _ (bU _ (bU _ (ez _))))) (bU _ (ez _)) (bU _ (bU _ (bU _ (ez _)))) hc1 hw2 (S9 _ _) ⟨agI ws,by lia⟩ au (μ _ (dJ ws++dJ cs) _ ZR) λs3 oP3 hc3 p3=>N0 89 (a6 0) p3 V.int Z Z (ak Z) Z λs4 p4=>Cr p4 (o7.to (NZ [2,3,4,5,6] (-2) (p4.ps.base B).top (ar 72 Z) Z Z Z) Z) λs5 p5=>Cr p5 (o7.to (NZ [14,15,16,17,18,19,20,28,29,30,31,32,33,34] (-2) (p5.ps.base B).top (ar 72 Z) Z Z Z) Z) λs6 p6=>Cr p6 (o7.to (NZ [21,22,23,24,25,26,27] (-2) (p6.ps.base B).top (ar 72 Z) Z Z Z) Z) λs7 p7=>ff<|ff<|ff<|have okc:lY (dJ ws++dJ cs):=⟨λx E=>(bY.mp E).elim (agI ws x) (agI cs x),by rw[iu];lia⟩;JR (ms:=dJ ws++dJ cs) hh (gc bK bu) B gH p7 (Gq _) (ar (k:=0) 88 Z) Z (S9 _ _) okc Z Z wq (μ _ (dJ ws++dJ cs) _ ZR) λaD x1 p8=>(cS (El (PySem.W.Constant_bytes ((vY (p8.er.ext (dA.toks aD (aD.toks+1)).ext) (x:=89) (k:=0) (av:=a6 0) Z).wpV λu F9 V9=>?_))));apply bM.zL V9;intro tu;show bg p8.open λW q8 I_=>S7 Z ⟨_,_,aH (oz #[] _),[],λu s=>u=oz #[] (aD.toks+1),(I_ _ _ _ _ (q8.grow (.toks aD (aD.toks+1+1)))),.ip _,λu s F aP=>aP.DE,ud.nil okc.2,λY p'=>?_⟩
 .show PS.afw (p'.ps.sub (S':=jf b dx d (dJ ws++dJ cs)++S0) λy hy=>bc (bY.mp hy) (λq=>dc _ q) λq=>ew _ (bW _ (bW _ q))) (ar (k:=0) (av:=aH (R b)) 88 Z) Z λY v q aP=>?_;have ev:=aP.DE;subst ev;show kk _ _ q
end
section
variable{Q:cb->af->Prop}{b:ae}
theorem Iq.alj{lv:Nat}(x:hJ H U s.heap)(EA:Iq U lv ta ei l):∃f1 d2 f2,s.heap.MapOf (d0) 139 f1/\f1 (.int (-2))=O (R d2)/\s.heap.MapOf (d0) d2 f2/\d2∉bV/\f2 (.int (aj lv))=O (R ta):=by show og λgG kG=>?_;obtain⟨f1,d2,f2,⟨o,es,ep,a1,a2⟩,b,⟨o',es',ep',c1,c2⟩,hd,e⟩:=EA.1;show kG ?_;clear kG gG;show⟨f1,d2,f2,⟨o,es,ep,x.keep _ _ (DQ Z) a1,a2⟩,b,⟨o',es',ep',x.keep _ _ hd c1,c2⟩,hd,e⟩
theorem ad5{lg:LN}{c:ae}{lv:Nat}{v1 v3:ba}(hh:dh A)(bK:A.depth<780)(B:cx U mg mb)(I:dQ mg mb)(I2:t9 mg mb)(hT:gq U)(gH:pT U P t f)(NB:qY U f)(OM:ZD U mg P t f P2 t2 fd lg ex gen gp Oi)(hE:mg (aC "ECC")=O (R 139))(EA:Iq U lv ta ei [1,n+1+gen.length,n+1])(hBf:mg (aC "Buffer")=O (R 2002))(hv1:mg (aC "VERSION_M1")=O (ag (-3) v1))(hv3:mg (aC "VERSION_M3")=O (ag (-1) v3))(pn:J.code=R c)(OQ:c∉bV)(oy:U.IsCode c 1923 #[])(vH:U.TableAt c 1923 #[])(h23:1923∉H)(h79:1979∉H)(hn:lY ns)(dM:ns.length=8 * (n+1))(Ae:∀x∈ns,x<2)(hw:lY (wordsOf ns (n+1)))(HZ:n+1<=100)(xe:cs=(gV lg ex gen (wordsOf ns (n+1)++bZ gen.length 0) (wordsOf ns (n+1)).length).drop (wordsOf ns (n+1)).length)(Du:lY cs)(hsz:8 * (wordsOf ns (n+1)).length+8 * cs.length<=1000)(p:PS H U (bf lX) J aK bo bw (qJ [72,81,82] [a6 (-2),aT lv,aH (R b)]) S s)(hi:∀y∈S,gm y.2=N)(yT:∀y∈jf b dx d ns,y∈S)(kk:∀Y G' b2 dx2 d2,PS (1979::1923::H) U (bf lX) J aK bo bw G' (jf b2 dx2 d2 (dJ (wordsOf ns (n+1))++dJ cs)++S) Y->Q (cG (R b2)) Y):
 C A (aU (bh lX) J) s Q:=by
 change C _ (aU (a9 (bh lX) 0::jR::a9 (bh lX) 2::a9 (bh lX) 3::a9 (bh lX) 4::a9 (bh lX) 5::a9 (bh lX) 6::a9 (bh lX) 7::aaV) J) s Q;show p.s1 (S1.m (z8 Z)) λs1 p1=>il<|Lake.T.wo (adX (τ':=1923::H) B hT (by decide+kernel) Z pn OQ oy vH (nme Z) h23 (cR ..) (λb D=>bW _ D) p1) λfl s2 ou=>eZ ou λe2 i=>jd i λfa c' i=>jd i λP' dT i=>jd i λt8 fdt i=>eS i λoc sx F p2=>dU F λF1 _ _ _ _ _ _ alk=>dU alk λ_ _ F10 _ F12 F13 F14 QB=>eZ QB λ_ _=>?_;subst e2;show uy (EA.alj p2.ps.ext) λf1 d2 f2 m1 e1 m2 hd2 e2=>N0 84 (aH (R ta)) p2 (XW m2 hd2 e2 (XW (k:= -2) m1 (DQ Z) e1 (B4 (p2.ps.base B) (by decide+kernel) hE (by decide+kernel)) (ar 72 Z) Z) (ar (av:=aT lv) 81 Z) Z) Z Z (ak (by decide+kernel)) Z λs3 p3=>dG EA.2.1 λm ht=>ad3 (x:=85) (y:=86) hh (aw (by decide+kernel)) (aw (by decide+kernel)) Z Z Z Z (aja (τ':=1979::1923::H) (k1:=0) (k2:=0) hh au B I I2 hT OM (λq=>(bq.mp q).elim (λq=>absurd q (uf Z)) h79) (cR ..) (λb D=>bW _ D) (by rfl) ht EA.2.2.1 EA.2.2.2 Z hn dM Ae hw HZ p3 hi Z Z yT
  λv s4 l1 l2 bl Oh k1 k2 rr o p4 aP=>⟨_,_,_,_,_,_,p4.ail (S':=(Oh,kz cs)::(bl,kz (wordsOf ns (n+1)))::S) (λy hy=>?_),aP,λs5 p5=>?_⟩)
 .subst xe;show bc (bq.mp hy) (λq=>q▸cR ..) λq=>bc (bq.mp q) (λq=>q▸bW _ (cR ..)) λq=>bW _ (bW _ (bW _ q))
 .show N0 87 oZ p5 V.none Z Z (ak (by decide+kernel)) Z λs6 p6=>Cr p6 (o7.to (W6 (x:= -2) (ys:=[a6 (-3),a6 (-1)]) (ms:=[-3, -1]) (ar 72 Z)
   (uj (p6.ps.base B).top (fL.cons (qP (p6.ps.base B) (rfl) hv1 (rfl)) (fL.cons (qP (p6.ps.base B) (rfl) hv3 (rfl)) fL.nil Z) Z) Z Z) Z Z) Z) λs7 p7=>ff ?_
  have hiS:∀y∈(Oh,kz cs)::(bl,kz (wordsOf ns (n+1)))::S,gm y.2=N:=λy hy=>by
   rcases bq.mp hy with rfl|q
   .rfl
   .rcases bq.mp q with rfl|q
    .rfl
    .show hi y q
  show bg p7.open λW q7 back=>(yQ (x:=88) Z (ak (by decide+kernel)) Z (acG B I gH.pI NB au hBf (by rfl) q7 hiS λs8 b2 dx2 d3 h1 h2 h3 hS q8=>⟨_,_,_,q8,.ip _,rfl,λs9 q9=>?_⟩));have p9:=back _ _ _ _ q9;show ali (lv:=lv) (b1:=b) (ta:=ta) (l1:=l1) (l2:=l2) (k1:=k1) (k2:=k2) (oP:=tabObj #[]) (S0:=S) hh au B I hT gH p9 hi (λy hy=>(hS y hy).2.2) h2 h3 (by show bg p.fr λW r _=>?_;delta iG;rw[r.scope];rfl) F (λz hz q=>?_) ?_ hw Du hsz λY G' p'=>kk Y G' b2 dx2 d3 p'
  .have hP:=p9.getL (a:=P') (o:=tabObj #[]) bz
   revert q;apply Wj hz<;>(intro q;dsimp only at q)
   .have:=p9.getL (cR ..);have this:=hP▸q▸this;cases this
   .have:=p9.getL (bW _ (cR ..));have this:=hP▸q▸this;cases this
   .have:=F1;have this:=F14▸q▸this;cases this
   .show Jb F13 q
   .have:=F10;have this:=F14▸q▸this;cases this
  .show bg (DP.of F12 ⟨_,F13⟩) λoP e1 e2=>?_;rw[F14]at e1;obtain rfl:=aW e1;show e2
end
section
variable{Q:cb->af->Prop}{b:ae}
theorem Ta{o:aG}(B:cx U mg mb)(gH:pT U P t f)(bK:A.depth<1000)(hB:wi U b dx d ns)(he:V H U A L J G o (aH (R b)) ab)(xh:uU o (aC "getbits") J (a7 o J)=a7 o J)(lz:(apos.endLine==pos.line)=N):
 V H U A L J G (bx (gZ o (aC "getbits") apos) [] [] pos) (aH (R d)) fr:=λs r=>by
 show uu xh (rfl) lz ((he r).tN λv aD F1 e1 V1 _ pl=>?_);apply bM.Gb V1;have x1:=r.base.trans e1.ext;have hB1:=hB.ext x1;show DJ (jj gH.pI x1) hB1 acp ϑ Z<|bg gH.dJ.at_.obj λob ho hd=>LM (evalArgs_nil3 ⟨⟨x1.keep _ _ gH.dJ.at_.off ho,hd⟩,?_⟩);show(RK (τ':=H) (G':=[]) [110] [aH (R b)] (aH (R d)) [] B x1 bK gH.dJ Z Z Z ?_ (ej [] [] (.ip _) .nil) aL Z aL λfZ=>SS.m (tQ (S1.ret (V.data (x:=110) (jj gH.pI x1) hB1.obj hB1.WZ hB1.t1 hB1.t2 Z)))).wp3 λv Y F e aP=>aP.DE▸⟨e1.trans e,[],.ip _,d9⟩
 delta dw
 show gH.dJ.params.symm▸gH.ϖ.symm▸?_;rfl
theorem PS.ajc(p:PS H U L J aK bo bw G S s)(hf:vZ av=N)(dH:bS G x=N)(E:Hx L x)(hs:fD e (O (aq (NM x) q)) pos.line J=pure N)(he:∀(u:aa->aI Unit) (Q:Unit->af->Prop),(∀v Y F bj m,Tk [] s Y->bM Y.heap av v F->(∀b∈F,s.heap.get? b=ai)->F.Nodup->Y.heap.Ns bj m->s.heap.get? bj=ai->bj∉F->C A (u v) Y (λ_ nJ=>∃m,nJ.heap.Ns bj m/\∀h',gx bj nJ.heap h'->Q () {nJ with heap:=h'}))->C A (Km e J u) s Q)(hT:gq U)(k:∀Y,PS H U L J aK bo bw (jh G x 1 av) S Y->C A (aU rest J) Y Q):C A (aU (eF [aq (NM x) q] e pos::rest) J) s Q:=by
 show bg p.fr λW r hW=>il<|(Tr (hs:=hs)).symm▸nU (C.bind (he _ _ λv aD F bj m t aP h1 h2 wG nK hKF=>?_));have x1:Ab H s aD:=⟨t.x,t.os,t.drawn,t.gens⟩;have hKW:bj∉W:=λq=>by show oX (r.je bj q) λ_ _ o e _=>?_;have e:=nK.symm.trans e;ext
 have hKT:bj∉bV:=λq=>by show dG (hT bj q) λo e=>(dG (p.ext.there _ _ e) λo' e'=>?_);have e':=nK.symm.trans e';ext
 show T.wo (jB ((j9 (r.grow x1.ext) E dH aP (.fresh h1 h2 (Gn hf aP) r x1.ext)).wp λ_ aQ q=>q)) λ_ aQ qQ=>eZ qQ λr2 m2=>fc wG λoK es ep eK rK=>have eK2:=m2.mod.keep _ _ hKW hKT eK;cn m ⟨oK,es,ep,eK2,rK⟩ (λh' sb=>C.pure (k _ ?_));have kp:∀b o,b∉[bj]->aQ.heap.get? b=O o->h'.get? b=O o:=λb o D e=>sb.extBut _ _ (λq=>D (bI.mpr q)) e;have r3:=r2.off kp λb D=>(bI.mp D).symm▸⟨(cn oK eK2 (aw (ak ⟨es,ep,rK.1⟩))),hKT,(p.ext.new nK),λq=>(bY.mp q).elim hKW hKF⟩;show⟨(kF (W++F) r3 (λb D=>(bY.mp D).elim (hW.1 b) λq=>aw (p.mod.mod.new (h1 b q))) (λy hy q=>?_)),λy hy=>?_,((p.Xi x1).mod.trans m2.p λd hd=>(hW.1 d hd).elim (λq=>ak (dc _ q)) aw).off kp λb D=>(bI.mp D).symm▸⟨p.mod.mod.new nK,hKT⟩,p.lC⟩
 .rcases bY.mp q with q|q
  .show hW.2 y hy q
  .have:=h1 _ q;have this:=((p.sg y hy).1).symm.trans this;ext
 .show iK (((p.sg.ext x1.ext).mod m2.mod hW.2) y hy) λa1 a2 a3 a4=>((rR (kp _ _ (λq=>?_) a1) a2 a3 a4));have:=(p.sg y hy).1;have this:=nK▸(bI.mp q)▸this;ext
def ajd(s Y:af)(X:List ae)(b8:List (LN))(as:List ae):Prop:=
 as.Nodup/\
 (∀a∈as,s.heap.get? a=ai/\a∉X)/\
 ∀(j:Nat) a row,as[j]? =O a->b8[j]? =O row->∃ws n,Y.heap.get? a=O (bp ws n)/\fm ws (row.map aj)
inductive aje(I' T aZ bj:ae)(b8:List (LN))(s:af)(k:Nat)(Y:af):Prop
 |mk (i:Nat) (as:List ae) (n:Nat) (m:aV->Option aa) (e:k=b8.length - i) (hi:i<=b8.length) (t:Tk [] s Y) (nn:Y.heap.Ns bj m) (li:Y.heap.IsTupleIter I' T i) (d:Y.heap.get? aZ=O (bp (as.map R) n)) (DD:as.length=i) (aN:ajd s Y [I',aZ,bj] b8 as)
theorem QH(as:List ae):∀(b8:List (LN)),as.length=b8.length->(∀a∈as,a∉bV)->(∀(j:Nat) a row,as[j]? =O a->b8[j]? =O row->∃ws n,h.get? a=O (bp ws n)/\fm ws (row.map aj))->
 bA h (b8.map aY) (as.map R) as:=by
 induction as with
 |nil=>
  intro yY;cases yY with
  |nil=>show λ_ _ _=>.nil
  |cons=>intros;first|ext|(simp at *)
 |cons a as iH=>
  intro yY;cases yY with
  |nil=>intros;first|ext|(simp at *)
  |cons row b8=>show λhl hT hr=>eS (hr 0 a row Z Z) λws n e ia=>DT _ _ [a] as Z (Dg (hT a (ez ..)) e ia) (iH b8 (Wc hl) (λb D=>hT b (bU _ D)) (λj b r h1 h2=>hr (j+1) b r h1 h2)) Z
theorem ZE{K:LN}{u:aa->aI Unit}{Q:Unit->af->Prop}(c:ed L scope fs K)(jy:rh scope J=pure cl)(hs:Fs iter J)(h:C A (a7 iter J) s (λx aD=>C A (gr x) aD (λit aQ=>QR<=aQ.heap.objs.size/\(∀(A':b9) fB (Q:aa->af->Prop),Tk [] aQ fB->Q it fB->C A' (gr it) fB Q)/\
 ∀aZ bj fB,Tk [] aQ fB->aQ.heap.get? aZ=ai->aQ.heap.get? bj=ai->aZ≠bj->bj∉bV->fB.heap.get? aZ=O (bp [] 0)->fB.heap.Ns bj (λ_=>ai)->
  CC (A.mark ai) (hx (cE elt (⟨ct,iter,ifs,0⟩::gs) scope pos) 0 it (R aZ) (jr scope cl bj J)) fB (λr Y=>match r with|bX _=>C A (u (R aZ)) Y (λ_ nJ=>∃m,nJ.heap.Ns bj m/\∀h',gx bj nJ.heap h'->Q () {nJ with heap:=h'})|j3 _=>False)))):
 C A (Km (cE elt (⟨ct,iter,ifs,0⟩::gs) scope pos) J u) s Q:=by
 show C.bind (C.mono ?_ λ_ Y h=>C.pure h)
 delta Ej
 show jy.symm▸(show Kt (cE elt (⟨ct,iter,ifs,0⟩::gs) scope pos)=⟨ct,iter,ifs,0⟩::gs from rfl).symm▸C.bind (h.mono λx aD U=>nU (C.bind (C.eq (hs x) (lH (C.mono U λit aQ ou=>?_)))));show ie ou λtop self ko=>(nU (lB (ij (C.bind (C.pure (lB (An c.cell (by intro y hy;show kI hy) (λh3 sh wI=>?_) c.kind)))))));dsimp only at sh wI ⊢;generalize η:aQ.heap.push {cls:=ao "list",dict:=ai,data:=bQ ([]:List aa).toArray}=H2 at sh wI ⊢;have hC:H2.objs.size=aQ.heap.objs.size+1:=by rw[<-η,dE]
 generalize H2.objs.size=bj at sh wI hC ⊢;have Og:aQ.heap.objs.size≠bj:=by rw[hC];show fE (iX _)
 have hK:aQ.heap.get? bj=ai:=by
  cases q:aQ.heap.get? bj with
  |none=>rfl
  |some o=>show absurd (cj q) (by rw[hC];show j0.mpr (lP _))
 have tk:Tk [] aQ {aQ with heap:=h3,toks:=aQ.toks+([]:List (aV×aa)).length}:=.heap λb o _ e=>wI.extBut b o (λq=>by have e:=hK▸q▸e;ext) (by show η▸?_;show a0 _ (a0 _ e));have loop:=ko aQ.heap.objs.size bj _ tk (bD _) hK Og (fo (a8 top (hC▸lP _))) (wI.extBut _ _ Og (by show η▸?_;show a0 _ (bJ _ Z))) sh;show C.holding (C.bind (C.attempt (C.holding (C.run (CC.mono (pK Z loop (self _ _ _ tk loop)) λr Y hr=>?_)))));cases r with
 |error _=>show hr.elim
 |ok f=>
  show C.bind (C.rule (lH (C.mono hr λ_ nJ qQ=>bg qQ λm hn hq=>lB (TP (cenv:=jr scope cl bj J) c.kind _ nJ m (λx E hl=>?_) hn λh' m' _ zO=>C.pure (hq h' zO)))));show(λx E hl=>xA (c.names x (gu.mp E).1 hl)) x (by
   rcases bY.mp E with q|q
   .show EN.mp (rq q)
   .show EN.mp (AH q)) hl
set_option tactic.hygienic true in
theorem ad6{p4:cB}{Q:Unit->af->Prop}(c:ed L scope [] [31])(hls:Gi scope "list")(hh:dh A)(B:cx s.heap mg mb)(I:dQ mg mb)(hT:gq s.heap)(r:ER [] s.heap L J s.heap G)(h9:ck G 9=O (k,uq rs))(hl:rs.length=b8.length)(D:∀(j:Nat) a row,rs[j]? =O a->b8[j]? =O row->s.heap.get? a=O (kz row)/\a∉bV/\lY row)(dM:b8.length<=1000){u:aa->aI Unit}(hq:∀v Y F bj m,Tk [] s Y->bM Y.heap (zt b8) v F->(∀b∈F,s.heap.get? b=ai)->F.Nodup->Y.heap.Ns bj m->s.heap.get? bj=ai->bj∉F->C A (u v) Y (λ_ nJ=>∃m,nJ.heap.Ns bj m/\∀h',gx bj nJ.heap h'->Q () {nJ with heap:=h'})):
 C A (Km (cE (bx (aq (aC "list") np) [aq (NM 31) p1] [] p2) [⟨aq (NM 31) p3,aq (NM 9) p4,[],0⟩] scope pos) J u) s Q:=by
 show bg (c.OA r Z) λcl jy wJ=>ZE c jy (λ_=>rfl)<|T.wcV (vY r h9) λv F aP=>gJ aP λT vs nT dX hTT hTo hVs=>(dX▸?_);have ϭ:∀(j:Nat) a,rs[j]? =O a->vs[j]? =O (R a):=λj a e=>by show ju (hVs.get (by rw[cZ,e];rfl)) λv F' e1 e2 _=>?_;rw[e1,e2.DE]
 have hvl:vs.length=rs.length:=by have:=hVs.length;simpa using this
 have agJ:∀{Y:af},Tk [] s Y->Y.heap.IsTuple T vs.toArray:=λt=>⟨_,t.keep _ _ (λq=>kI q) hTo,rfl,nT,rfl⟩;have hnl:s.heap.get? s.heap.objs.size=ai:=bD _;show cS (J2 (agJ (.refl _ _)) (gT ?_ (λA' fB Q t hQ=>cS (wpAny_pyIter_tupleiter ⟨_,t.keep _ _ (λq=>kI q) (bJ _ Z),rfl,rfl⟩ hQ)) (λaZ bj fB t hD hK Og hKT ow wG=>?_)))
 .rw [dE];show qo (jw (H:=[]) B.top (.refl _))
 have t1:Tk [] s {s with heap:=s.heap.push {cls:=ao "tuple_iterator",data:=bH #[R T,ag 0 0]}}:=.heap λb o _ e=>a0 _ e;have hDL:aZ≠s.heap.objs.size:=λq=>by rw[q,bJ _ Z]at hD;ext
 have hKL:bj≠s.heap.objs.size:=λq=>by rw[q,bJ _ Z]at hK;ext
 have nD:=(Tk.x (H:=[]) t1).new hD;have nK:=(Tk.x (H:=[]) t1).new hK;have li0:fB.heap.IsTupleIter s.heap.objs.size T 0:=kF _ (t.keep _ _ (λq=>kI q) (bJ _ Z)) Z Z;generalize s.heap.objs.size=I' at *;have E:(js scope J).names.lookup (NM 31)=O cU:=xA (c.locs 31 (bI.mpr Z));have hnT:∀{a:ae},s.heap.get? a=ai->a∉bV:=λe q=>dG (hT _ q) λo e'=>by have e':=e.symm.trans e';ext
 show ua Z Z (aje I' T aZ bj b8 s) ?_ b8.length
  ⟨0,[],0,_,rfl,fk _,t1.trans t (zk),wG,li0,ow,rfl,⟨rN,(zk),λ_ _ _ h=>Bj h⟩⟩
 rintro _ Y Kp P1 P2 P3 P4 Kh H0 H1 H2 H3 _ H4 ⟨i,as,n,m,dX,hi,t2,PI,li,d2,DD,aN⟩;show ie aN λR1 R2 R3=>?_;rcases AR hi with jx|rfl
 .show dG (show∃row,b8[i]? =O row from⟨_,dF jx⟩) λrow OD=>?_;show dG (show∃a,rs[i]? =O a from⟨_,dF (hl▸jx)⟩) λa ha=>?_;show ie (D i a row ha OD) λb1 b2 b3=>(cS (wpAny_pyNext_tuple_item li (agJ t2) (by rw[KL];show ϭ i a ha) λh3 li3 zH=>?_));show H1 _ _ (C.eq Z (cS (jB (sG E (PI.at' λo e=>zH.extBut _ o hKL e) (λh4 ZA I7=>H2 _ (uM (H3 _ ?_))) (by rw[show(js scope J).kind=dZ from c.kind];rfl:((js scope J).kind== .class ||((js scope J).kind== .module && bj != J.globals))=ab)))));have k4:∀b o,b≠I'->b≠bj->Y.heap.get? b=O o->h4.get? b=O o:=λb o q1 q2 e=>I7.extBut _ _ q2 (zH.extBut _ _ q1 e);have t4:∀tk,Tk [] s {Y with heap:=h4,toks:=tk}:=λtk=>t2.trans (.heap λb o D e=>Di D λh1 h2=>k4 b o h1 h2 e) (S4 hnl nK);show Lake.T.wcE (JC (fr:=N) hh (B.ext ((t4 0).x (H:=[]))) I hls ((t4 0).keep _ _ (λq=>kI q) b1) b2 b3 (ar _ Z) Z (Cq c (r.ext (t4 0).x).re wJ ZA hKT (XT (bI.mpr Z) (if_pos Z) (.ip _) HNm.nil))) λv s5 F5 e5 V5 nf=>(iO V5 λla ws nl F' ZP _ ID V' eQ6=>?_);subst ZP;subst eQ6;have n4:h4.get? la=ai:=((nf Z).1) la (ez ..);have t5:=e5.tk (X:=[]);have d4:=k4 _ _ hDL Og d2;have nla:∀b o,h4.get? b=O o->la≠b:=λb o e q=>by subst q;have e:=n4.symm.trans e;ext
  have laD:=nla _ _ d4;show bg li3 λoI eI rI=>bg (Df ZA) λoK eK _=>H4 _ _ (cS (Am ⟨n,(t5.keep _ _ (λq=>kI q) d4)⟩ (λh7 qQ sb7=>dG qQ λn7 e7=>?_) (by have:fg=16777216:=jU;simp;lia)));show Kh (b8.length - (i+1)) _ (dX▸rz jx (iX i)) ⟨i+1,as++[la],n7,_,rfl,jx,(((t4 _).trans t5 zk)).trans (.heap λb o D e=>sb7.extBut _ _ (λq=>D (bI.mpr q)) e) (λb D=>aw (bI.mp D▸nD)),ZA.at' λo e=>sb7.extBut _ _ (eQ Og) (t5.keep _ _ (λq=>kI q) e),
   (li3.at λo e=>I7.extBut _ _ (eQ hKL) e).at λo e=>sb7.extBut _ _ (eQ hDL) (t5.keep _ _ (λq=>kI q) e),by rw[e7];simp[bp],by rw[iu,DD];rfl,⟨?_,λb D=>?_,λj b rw h1 h2=>?_⟩⟩
  .show qk.mpr ⟨R1,by simp,λx E y hy q=>?_⟩;rw[bI.mp hy]at q;show dG (sU E) λj hj=>?_;show eZ (R2 x E) λr1 r2=>have hjl:=gc (DD▸(dR.mp hj).1) jx;eS (R3 j x _ hj (dF hjl)) λws' n' e' _=>?_;show FZ r2 λr1 _ r3=>nla x _ (k4 _ _ r1 r3 e') q.symm
  .rcases bY.mp D with q|q
   .show R2 b q
   .rw [bI.mp q];show⟨(t4 0).none (λq=>kI q) n4,aeP (nla _ _ (I7.extBut _ _ (eQ hKL) eI)) laD (nla _ _ eK)⟩
  .replace h1:=List.getElem?_append▸h1;split at h1
   .show eZ (R2 b (cY h1)) λr1 r2=>eS (R3 j b rw h1 h2) λws' n' e' ia'=>FZ r2 λr1 r2 r3=>kH ws' n' (sb7.extBut _ _ r2 (t5.keep _ _ (λq=>kI q) (k4 _ _ r1 r3 e'))) ia'
   .rename_i hj
    have hj0:j=i:=by have:=(dR.mp h1).1;simp at this;lia
    cases hj0
    rw[DD,Lu]at h1;show aW h1▸aW (OD.symm.trans h2)▸kH ws nl (sb7.extBut _ _ laD ID) (intsAre_of V' (dS row))
 .show cS (JW hh li (agJ t2) (by rw[KL];show rp (by simp[*])) λh3 zH=>?_);have k4:∀b o,b≠I'->Y.heap.get? b=O o->h3.get? b=O o:=λb o q1 e=>zH _ _ q1 e;have t4:Tk [] s {Y with heap:=h3}:=t2.trans (.heap λb o D e=>k4 b o (λq=>D (bI.mpr q)) e) λb D=>aw (bI.mp D▸hnl);show H0 _ (hq (R aZ) _ (aZ::as) bj m t4 (r9 as (hnT nD) (k4 _ _ hDL d2)<|QH as b8 DD (λb D=>hnT (R2 b D).1)<|λj b rw h1 h2=>eS (R3 j b rw h1 h2) λws' n' e' ia'=>kH ws' n' (k4 _ _ (vw ((R2 b (cY h1)).2)) e') ia') (λb D=>?_) (ru.mpr ⟨λq=>(R2 aZ q).2 au,R1⟩) (PI.at' λo e=>zH _ o hKL e) nK λq=>(bq.mp q).elim (eQ Og) λq=>(R2 bj q).2 au);show bc (bq.mp D) (λq=>q▸nD) λq=>(R2 b q).1
end
def agK(U:aO)(mg:aV->Option aa)(P:cf)(t:Nat->ba)(f:Nat->cq):Prop:=
 pT U P t f/\
 (∃v,mg (aC "VERSION_M1")=O (ag (-3) v))/\
 (∃v,mg (aC "VERSION_M2")=O (ag (-2) v))/\
 ∃v,mg (aC "VERSION_M3")=O (ag (-1) v)
def ajf(U:aO)(mg:aV->Option aa)(f:Nat->cq)(XZ:cq):Prop:=
 qY U f/\
 mg (aC "ECC")=O (R 139)/\
 mg (aC "Buffer")=O (R 2002)/\
 (∃v,mg (aC "ERROR_LEVEL_L")=O (ag 1 v))/\
 (∃v,mg (aC "ERROR_LEVEL_M")=O (ag 0 v))/\
 mg (aC "make_final_message")=O (R 1926)/\
 qX U 1926 XZ lX/\
 XZ.defaults=ax/\
 XZ.code=R 1925/\
 U.IsCode 1925 1923 #[]/\
 U.TableAt 1925 1923 #[]
def ajg(U:aO)(mg:aV->Option aa)(ZY:cq)(ZM:cq):Prop:=
 mg (aC "make_matrix")=O (R 1939)/\
 qX U 1939 ZY oq/\
 ZY.defaults=R 1932/\
 (∃n,U.get? 1932=O (cV [c9 N,c9 N] n))/\
 ZY.code=R 1938/\
 U.IsCode 1938 1934 #[]/\
 U.TableAt 1938 1934 #[]/\
 mg (aC "add_timing_pattern")=O (R 1914)/\
 qX U 1914 ZM (dP 19)/\
 ZM.defaults=ax
def ajh(U:aO)(mg:aV->Option aa)(fdP:cq):Prop:=
 mg (aC "add_finder_patterns")=O (R 1907)/\
 qX U 1907 fdP Ad/\
 fdP.defaults=ax/\
 ∃vf,mg (aC "_FINDER_PATTERN")=O vf/\bM U fpV vf []
def aji(U:aO)(mg:aV->Option aa)(fdC:cq):Prop:=
 mg (aC "add_codewords")=O (R 1921)/\
 qX U 1921 fdC pJ/\
 fdC.defaults=ax
def Pkg(U:aO)(mg:aV->Option aa)(P:cf)(t:Nat->ba)(f:Nat->cq)(XZ ZY ZM fdP fdC:cq):Prop:=
 agK U mg P t f/\ajf U mg f XZ/\ajg U mg ZY ZM/\ajh U mg fdP/\aji U mg fdC
section
variable{Q:cb->af->Prop}{b:ae}
theorem PS.ssR{l:List cg}(p:PS H U L J aK bo bw G S s)(x:pP H τ' U A L J l G G' (O av))(k:∀Y v F,sF (bo++bw) aK Y->bM Y.heap av v F->Q (cG v) Y):C A (aU l J) s Q:=by show bg p.fr λW r hW=>(x r).wo λg Y ou=>yG ou λm E v F e aP=>?_;subst e;show k Y v F (p.mod.trans m.p λd hd=>(hW.1 d hd).elim (λq=>ak (dc _ q)) aw) aP
theorem l_6{lg:LN}{lev lv:Nat}(hh:dh A)(bK:A.depth<500)(B:cx U mg mb)(I:dQ mg mb)(I2:t9 mg mb)(hT:gq U)(Pv:agK U mg P t f)(Pd:ajf U mg f XZ)(OM:ZD U mg P t f P2 t2 fd lg ex gen gp Oi)(EA:Iq U lv ta ei [1,n+1+gen.length,n+1])(h23:1923∉H)(h79:1979∉H)(hlv:lev<2/\([1,0]:LN).getD lev 0=lv)(hn:lY ns)(dM:ns.length=8 * (n+1))(Ae:∀x∈ns,x<2)(hw:lY (wordsOf ns (n+1)))(HZ:n+1<=100)(xe:cs=(gV lg ex gen (wordsOf ns (n+1)++bZ gen.length 0) (wordsOf ns (n+1)).length).drop (wordsOf ns (n+1)).length)(Du:lY cs)(hsz:8 * (wordsOf ns (n+1)).length+8 * cs.length<=1000)(p:PS H U iD J aK bo bw G [] s)(h2:ck G 2=O (0,aT lev))(h6:ck G 6=O (k2,aY ns))(h8:bS G 8=N)(k:∀Y b2 dx2 d2 S',PS (1979::1923::H) U iD J aK bo bw (jh G 8 0 (aH (R b2))) (jf b2 dx2 d2 (dJ (wordsOf ns (n+1))++dJ cs)++S') Y->(∀y∈S',gm y.2=N)->C A (aU rest J) Y Q):
 C A (aU (a9 cP 6::rest) J) s Q:=by
 show dU Pd λPd1 Pd2 Pd3 Pd4 Pd5 Pd6 Pd7 ajj=>iK ajj λPd8 Pd9 alm aln=>iK Pv λPv1 Pv2 Pv3 Pv4=>dG Pv2 λv1 gv1=>dG Pv3 λv2 gv2=>dG Pv4 λv3 gv3=>dG Pd4 λvL gL=>dG Pd5 λvM gM=>yQ (τ':=1979::1923::H) (U:=U) (L:=iD) (aK:=aK) (bo:=bo) (bw:=bw) h8 (ak (rfl)) Z<|fY<|T.wR (sd (p.base B) p.er (rfl) Pd6 (rfl))<|bg Pd7.at_.obj λo ho hd=>pG o XZ<|eu<|cu<|T.wo (qP (fr:=N) (p.base B) (rfl) gv2 (rfl) p.er) λu1 s2 ou=>iL ou λe2 F2 V2 _=>?_;apply bM.zL V2;intro t1;have p2:=p.grow e2;show cu<|T.wo (V.to (fq (ns:=[1,0]) (fr:=N) (o8 (p2.base B).top (fL.cons (qP (p2.base B) (rfl) gL (rfl)) (fL.cons (qP (p2.base B) (rfl) gM (rfl)) fL.nil Z) Z) Z Z) (ar _ h2) hlv.1 bu Z) (congrArg aT hlv.2) p2.er) λu3 s3 π=>iL π λe3 F3 V3 _=>?_;apply bM.zL V3;show λt3=>cu (acF B I Pv1.pI Pd1 (gc bK bu) Pd3 (by rfl) (p2.grow e3) (zk) (ar _ h6) Z hn λs4 b dx d _ _ _ _ p4=>c8 ?_);have hi:∀y∈jf b dx d ns++[],gm y.2=N:=λy hy=>by apply Dh hy<;>rfl
 show⟨⟨p4.ext.keep _ _ Pd7.at_.off ho,hd⟩,zz (us:=[ag (-2) t1,ag (aj lv) t3,R b]) (avs:=[a6 (-2),aT lv,aH (R b)]) (F:=[]) [72,81,82] B p4.ext (gc bK bu) Pd7 Z Z Z ?_ (ej [] [] (.ofInt _ t1)<|ej [] [] (.ofInt _ t3)<|ej [] [] (.ip _) .nil) aL Z aL p4.sg λs5 L5 p5=>ad5 (hh) au B I I2 hT Pv1 Pd1 OM Pd2 EA Pd3 gv1 gv3 Pd9 (DQ Z) alm aln h23 h79 hn dM Ae hw HZ xe Du hsz p5 hi (λy hy=>dc _ hy) λY G' b2 dx2 d2 q=>⟨_,aH (R b2),[],p4.called q hi,.ip _,rfl,λs9 q9=>k s9 b2 dx2 d2 _ q9 hi⟩⟩;have D:dw XZ ⟨[ag (-2) t1,ag (aj lv) t3,R b],[]⟩=pure (([72,81,82].map NM).zip [ag (-2) t1,ag (aj lv) t3,R b]):=by
  delta dw
  show Pd7.params.symm▸Pd8.symm▸?_;rfl
 show D.symm▸aB ⟨rfl,rfl⟩
end
theorem ZF(rs:List ae):flat (uq rs)=N:=by
 induction rs with
 |nil=>rfl
 |cons r rs ih=>show ih
section
variable{S0:Sg}{Q:cb->af->Prop}{b:ae}
theorem l_7(hh:dh A)(bK:A.depth<500)(B:cx U mg mb)(I:dQ mg mb)(hT:gq U)(Pk:ajg U mg ZY ZM)(h34:1934∉H)(p:PS H U iD J aK bo bw G S s)(hS:∀y∈S,gm y.2=N)(h9:bS G 9=N)(k:∀Y rs,rs.length=13->rs.Nodup->(∀y∈S,y.1∉rs)->PS (1934::H) U iD J aK bo bw (jh G 9 0 (uq rs)) (uJ rs PM++S) Y->C A (aU rest J) Y Q):
 C A (aU (a9 cP 7::rest) J) s Q:=by
 show dU Pk λPk1 ZV Pk3 Pk4 Pk5 Pk6 Pk7 ajk=>ie ajk λPk8 Pk9 alo=>yQ (τ':=1934::H) (U:=U) (L:=iD) (aK:=aK) (bo:=bo) (bw:=bw) h9 (ak (rfl)) Z (so [aT 13,aT 13] B p Pk1 (rfl) (rfl) ZV (fL.cons (aR 13) (fL.cons (aR 13) fL.nil Z) Z) Z λvs s1 F e1 aP=>?_);apply nN aP;intro v1 v2 F1 F3 V1 V2;apply bM.zL V1;intro t1;apply bM.zL V2;intro t2;have p1:=p.grow e1;show dG Pk4 λn hu=>(zz (us:=[ag (aj 13) t1,ag (aj 13) t2,c9 N,c9 N]) (avs:=[aT 13,aT 13,eX N,eX N]) (F:=[]) [60,61,107,108] B p1.ext (gc bK bu) ZV Z Z Z ?_ (ej [] [] (.ofInt _ t1)<|ej [] [] (.ofInt _ t2)<|ej [] [] (.ofBool _) (ej [] [] (.ofBool _) .nil)) aL Z aL p1.sg λs2 L2 p2=>acz (hh) B I hT au hS Pk8 Pk9 alo p2 Pk5 (DQ Z) Pk6 Pk7 h34 (ez ..) (λb D=>bW _ D) λY G' rs v h1 h2 h3 q aP=>⟨_,uq rs,[],p1.called q hS,aP,ZF rs,λs9 q9=>k s9 rs h1 h2 h3 q9⟩);show(?_:aA _ _ _ _ _ _);delta dw;show ZV.params.symm▸Pk3.symm▸ZV.kwd.symm▸ah (aB (ah (jD (p1.ext.keep _ _ (DQ Z) hu) Z (aB ⟨rfl,rfl⟩))))
theorem l_8(hh:dh A)(bK:A.depth<500)(B:cx U mg mb)(I:dQ mg mb)(Pk:ajh U mg fdP)(p:PS H U iD J aK bo bw G (uJ rs b8++S0) s)(hS:∀y∈S0,gm y.2=N)(wq:iG J=ab)(h9:ck G 9=O (k9,uq rs))(hl:rs.length=13)(tR:rs.Nodup)(hm:Mx b8)(hd:∀y∈S0,y.1∉rs)(k:∀Y,PS H U iD J aK bo bw G (uJ rs (mG b8 8)++S0) Y->C A (aU rest J) Y Q):
 C A (aU (a9 cP 8::rest) J) s Q:=by
 show iK Pk λPk1 ZV Pk3 Pk4=>bg Pk4 λvf gf Vf=>z0 wq Z<|so [uq rs,aT 13,aT 13] B p Pk1 (rfl) (rfl) ZV (fL.cons (ar _ h9) (fL.cons (aR 13) (fL.cons (aR 13) fL.nil Z) Z) Z) Z λvs s1 F e1 aP=>have p1:=p.grow e1;have hl3:=aP.length;zz [9,60,61] B p1.ext (gc bK bu) ZV Z Z Z ?_ aP aL (by rw[hl3];rfl) aL p1.sg λs2 L2 p2=>?_
 .apply aby hl3;intro a b c
  .show (?_:aA _ _ _ _ _ _);delta dw;show ZV.params.symm▸Pk3.symm▸aB ⟨rfl,rfl⟩
 .show ϩ (hh) B I hl tR hm hd hS gf (Vf) p2 λY G' q=>⟨rfl,k Y (p1.called q λy hy=>(bY.mp hy).elim (yU y) (hS y))⟩
theorem l_9{k8:Nat}(hh:dh A)(bK:A.depth<500)(B:cx U mg mb)(I:dQ mg mb)(Pv:agK U mg P t f)(Pk:aji U mg fdC)(p:PS H U iD J aK bo bw G (uJ rs b8++S0) s)(hS:∀y∈S0,gm y.2=N)(wq:iG J=ab)(h9:ck G 9=O (k9,uq rs))(h8:ck G 8=O (k8,aH (R b)))(hl:rs.length=13)(tR:rs.Nodup)(hm:Mx b8)(hd:∀y∈S0,y.1∉rs)(yT:∀y∈jf b dx d ns,y∈S0)(hn:lY ns)(PC:(IV ns b8).2=ns.length)(k:∀Y,Mx (IV ns b8).1->PS H U iD J aK bo bw G (uJ rs (IV ns b8).1++S0) Y->C A (aU rest J) Y Q):
 C A (aU (a9 cP 9::rest) J) s Q:=by
 show ie Pk λPk1 ZV Pk3=>iK Pv λPv1 Pv2 Pv3 Pv4=>dG Pv2 λv1 gv1=>dG Pv3 λv2 gv2=>dG Pv4 λv3 gv3=>z0 wq Z<|so [uq rs,aH (R b),a6 (-2)] B p Pk1 (rfl) (rfl) ZV (fL.cons (ar _ h9) (fL.cons (ar _ h8) (fL.cons (qP (p.base B) (rfl) gv2 (rfl)) fL.nil Z) Z) Z) Z λvs s1 F e1 aP=>have p1:=p.grow e1;have hl3:=aP.length;zz [9,71,72] B p1.ext (gc bK bu) ZV Z Z Z ?_ aP aL (by rw[hl3];rfl) aL p1.sg λs2 L2 p2=>?_
 .apply aby hl3;intro a b c
  .show (?_:aA _ _ _ _ _ _);delta dw;show ZV.params.symm▸Pk3.symm▸aB ⟨rfl,rfl⟩
 .show acw (hh) B I Pv1 au hl tR hm hd yT hn gv1 gv3 PC p2 λY G' hm' q=>⟨rfl,k Y hm' (p1.called q λy hy=>(bY.mp hy).elim (yU y) (hS y))⟩
end
theorem QI(b8:List (LN)):vZ (zt b8)=N:=by
 show(?_:CE (b8.map aY)=N);induction b8 with
 |nil=>rfl
 |cons r rs ih=>show fP.mpr ⟨jK _,ih⟩
section
variable{S0:Sg}{Q:cb->af->Prop}{fdM:cq}{b:ae}
def aeI:List cg:=[a9 cP 14,a9 cP 15,a9 cP 16,a9 cP 17,a9 cP 18,a9 cP 19,a9 cP 20,a9 cP 21,a9 cP 22,a9 cP 23,a9 cP 24,a9 cP 25,a9 cP 26,a9 cP 27,a9 cP 28,a9 cP 29]
theorem ajl{k9:ae}(hA:Z7 10 A)(B:cx U mg mb)(I:dQ mg mb)(hT:gq U)(M:MFn U mg a fdM cM)(Ob:pT U P t f)(h07:2007∉H)(DX:0<aM.length)(FP:aM.length<=20)(hc:c<=10)(p:PS H U iD J aK bo bw ([(0,0,kO I9),(1,0,kO aM),(2,0,aT (iQ aM)),(3,0,aT c),(5,0,aY data),(6,0,aY bits),(8,0,aH (R b)),(9,0,uq rs)]) (uJ rs b8++S0) s)(yT:∀y∈jf b dx d sent,y∈S0)(hn:lY sent)(hl:rs.length=13)(hm:Mx b8)(WL:sent.length=80)(hbl:bits.length<=80)(ht:sent.take bits.length=bits)(hq:Sq b8)(ZO:(c - (yN aM c).length) / 2<=(BR (yN aM c)).length)(v7:∀x∈oh (sE aM c b8),x<256)(qU:(jN (cN 10) (ux (kP (cN 10) (fX (oh (sE aM c b8)) c) (yN aM c))).now 10).length=(ux (kP (cN 10) (fX (oh (sE aM c b8)) c) (yN aM c))).size)(kk:∀Y,sF (bo++bw) aK Y->Q (cG (c9 (Ε aM c b8 sent))) Y):
 C A (aU (a9 cP 10::a9 cP 11::a9 cP 12::a9 cP 13::aeI) J) s Q:=by
 have hh:=hA.hd;have kM:J.scope.kind=dZ/\J.kindOf (NM 10)=O cU:=by show bg p.fr λW r _=>?_;unfold j7;show r.scope.symm▸⟨rfl,rfl⟩
 have hmem:∀(j:Nat) r row,rs[j]? =O r->b8[j]? =O row->s.heap.get? r=O (kz row)/\r∉bV/\lY row:=λj r row h1 h2=>by show ie (p.sg _ (dc S0 (pH h1 h2))) λe1 e2 _=>eZ (hm.row row (cY h2)) λr1 r2=>⟨e1,e2,r2,by lia⟩
 show p.ajc (x:=10) (av:=zt b8) (QI b8) Z (ak (rfl)) (qL kM.1 kM.2 Z (rfl)) (λu Q' hu=>ad6 (k:=0) (ed.of (rfl)) (by rfl) hh (p.base B) I (λb D=>dG (hT b D) λo e=>p.ext.there b o e) p.er.re Z (hl.trans hm.len.symm) hmem (by show hm.len.symm▸?_;decide) hu) hT λs1 p1=>?_;show(PS.less (G':=gL2 I9 aM c data bits (R b) b8) p1 (by show km.rf bF bF)).s1 (S1.m (gi 11 (mK []) (o8 B.top fL.nil Z Z) Z Z (aw (rfl)) Z)) λs2 p2=>p2.s1 (S1.m (abZ hh B I)) λs3 p3=>have p3:=p3.share 11;have S9:=p3.Hm (b:=b) (dx:=dx) (d:=d) (ns:=sent) (λy hy=>ew _ (yT y hy)) hn;ace (x:=16) (av:=aY sent) p3 (JC hh (p3.base B) I (rfl) S9.dat S9.t3 hn (Ta (p3.base B) (Ob.ext p3.ext) (by have:=hA.depth;show KZ this) S9 (ar (k:=0) 8 Z) Z Z) Z) (jK _) Z (ak (rfl)) Z λs4 p4=>have p4:=p4.share 16;(PS.less (G':=gL3 I9 aM c data bits b8 sent) p4 (by show km.rf bF bF)).ssR (afd (τ':=2007::H) hA B I M DX FP hc WL hbl ht hq ZO v7 qU h07 (cR ..) λb D=>bW _ D) λY v F m aP=>?_;have ev:=aP.toBool;subst ev;show kk Y m
end
section
variable{S0:Sg}{Q:cb->af->Prop}{fdM:cq}{b:ae}
theorem aaW{lg:LN}{lv:Nat}(hA:Z7 10 A)(bK:A.depth<500)(B:cx U mg mb)(I:dQ mg mb)(I2:t9 mg mb)(hT:gq U)(M:MFn U mg a fdM cM)(Pk:Pkg U mg P t f XZ ZY ZM fdP fdC)(OM:ZD U mg P t f P2 t2 fd lg ex gen gp Oi)(EA:Iq U lv ta ei [1,n+1+gen.length,n+1])(sf:script.length<=63)(aaX:aM=lT script)(hc:c=5+iQ aM)(BB:data=wQ aM c)(hnc:n+1+c=10)(hlv:([1,0]:LN).getD (iQ aM) 0=lv)(Yy:data.length=n+1)(hd:∀x∈data,x<256)(hwd:wordsOf (dJ data) (n+1)=data)(xe:cs=(gV lg ex gen (data++bZ gen.length 0) data.length).drop data.length)(jy:cs.length=c)(hcb:∀x∈cs,x<256)(Ii:sent=dJ data++dJ cs)(PC:(IV sent (mG PM 8)).2=sent.length)(WL:sent.length=80)(ht:sent.take (dJ data).length=dJ data)(hq:Sq (IV sent (mG PM 8)).1)(ZO:(c - (yN aM c).length) / 2<=(BR (yN aM c)).length)(v7:∀x∈oh (sE aM c (IV sent (mG PM 8)).1),x<256)(qU:(jN (cN 10) (ux (kP (cN 10) (fX (oh (sE aM c (IV sent (mG PM 8)).1)) c) (yN aM c))).now 10).length=(ux (kP (cN 10) (fX (oh (sE aM c (IV sent (mG PM 8)).1)) c) (yN aM c))).size)(p:PS [] U iD J aK bo bw [(0,0,kO script)] [] s)(kk:∀Y,sF (bo++bw) aK Y->Q (cG (c9 (Ε aM c (IV sent (mG PM 8)).1 sent))) Y):
 C A (aU cP J) s Q:=by
 have hh:=hA.hd;show iZ Pk λPv Pd Pe Pf Pg=>?_;show eZ (Jm script) λDX FP=>?_;have wq:iG J=ab:=by show bg p.fr λW r _=>?_;delta iG;show r.scope.symm▸?_;rfl
 have hbl:(dJ data).length=8 * (n+1):=by rw[pY,Yy]
 have ajm:lY sent:=⟨λx E=>by rw[Ii]at E;show(bY.mp E).elim (λq=>gc (rY data x q) aL) λq=>gc (rY cs x q) aL,by rw[WL];decide⟩
 show(?_:C _ (aU (([a9 cP 0,a9 cP 1,a9 cP 2,a9 cP 3,a9 cP 4,a9 cP 5]++[])++(a9 cP 6::a9 cP 7::a9 cP 8::a9 cP 9::a9 cP 10::a9 cP 11::a9 cP 12::a9 cP 13::aeI)) J) s Q);show p.ss (ahk hh B I sf (SS.m SS.nil)) λs1 p1=>l_6 (H:=[]) hh bK B I I2 hT Pv Pd OM EA (λh=>kI h) (λh=>kI h) ⟨(rT _ bu),hlv⟩ (⟨λx E=>gc (rY data x E) aL,by lia⟩) hbl (rY data) (by rw[hwd];show⟨hd,by lia⟩) au (hwd.symm▸xe) ⟨hcb,by lia⟩ (by show hwd.symm▸?_;lia) ((BB.symm▸hc.symm▸aaX.symm▸p1).share 6) Z Z Z λs2 b2 dx2 d2 S2 p2 hi2=>?_;rw[hwd,<-Ii]at p2;have hbi:∀y∈jf b2 dx2 d2 sent++S2,gm y.2=N:=λy hy=>by show bc (bY.mp hy) (λq=>?_) λq=>hi2 y q;simp only[jf,bq,mZ,or_false]at q;rcases q with rfl|rfl|rfl<;>rfl
 show l_7 hh bK B I hT Pe (DQ Z) p2 hbi Z λs3 rs hr1 hr2 hr3 p3=>l_8 hh bK B I Pf p3 hbi wq Z hr1 hr2 Ϥ hr3 λs4 p4=>l_9 hh bK B I Pv Pg p4 hbi wq Z Z hr1 hr2 (PQ Ϥ 8 (ey _)) hr3 (λy hy=>dc _ hy) ajm PC λs5 hm5 p5=>(ajl (k9:=0) hA B I hT M Pv.1 (DQ Z) (aaX▸DX) (aaX▸FP) au p5 (λy hy=>dc _ hy) ajm hr1 hm5 WL au ht hq ZO v7 qU kk)
end
section
variable{bj K':mw}{c T:ae}{l:List aa}
theorem ot(x:(bj++K').In h):bj.In h:=λa o e=>x a o (by rw[Uo,e];rfl)
set_option tactic.hygienic true in
theorem lx(X:bj.In h)(h1:bj.lookup a=O (mN fd))(h2:bj.lookup c=O (lh l))(ha:(a∉bV/\c∉bV))(hf:fd.params=fz st/\fd.body=kZ (bh st)/\fd.scope=bf st/\fd.globals=3/\fd.closure=[]/\fd.kwdefaults=ax/\fd.code=R c/\fd.builtins=0)(hq:∃t,l[1]? =O (cO fd.qualname t)):qX h a fd st:=dU hf λf1 f2 f3 f4 f5 f6 f7 f8=>dG hq λt ht=>⟨⟨(cn _ (X _ _ h1) Z),ha.1,c,_,_,t,f7,ha.2,X _ _ h2,rfl,KL.trans ht⟩,f2,f3,f1,f4,f8,f5,f6⟩
theorem ue{x0 x1 x2 x3 x4 x5 x6 x8 x12 x13 x14 x15 x16 x17:aa}{b:Bool}{f1 f2:Int}{t1 t2 t3:ba}{fl:aV}(X:bj.In h)(h1:bj.lookup c=O (lh [x0,x1,x2,x3,x4,x5,x6,ag f1 t1,x8,c9 b,ag f2 t2,R T,x12,x13,x14,x15,x16,x17,cO fl t3]))(h2:bj.lookup T=O (tabObj #[]))(hn:c≠T):h.IsCode c T #[]/\h.TableAt c T #[]:=
 (gT ⟨_,_,fl,t3,f1,t1,b,f2,t2,_,X _ _ h1,rfl,rfl,rfl,rfl,rfl,rfl,X _ _ h2,rfl,trivial,hn⟩ ⟨_,_,X _ _ h1,rfl,rfl,rfl⟩ (X _ _ h2))
theorem rZ(l:LN):∀(k:Nat),fm (Dl k l) (l.map aj):=by
 induction l with
 |nil=>intro _;show qA
 |cons n l iH=>intro k;show yz n k (iH (k+1))
theorem bM.uL{aZ:ae}{ys:List aa}(hD:aZ∉bV)(e:h.get? aZ=O (cV ys n))(ia:fm ys (ms.map aj)):bM h (Lake.uL ms) (R aZ) []:=by have aP:=wF (h:=h) ia;rw[qm]at aP;show DS aZ ys n Z hD e aP
theorem M2.get{aN:α->aa->Prop}{iB:List (MK×aa)}{sp:List (MK×α)}{k:MK}{a:α}(x:M2 aN iB sp)(hn:(sp.map (·.1)).Nodup)(e:sp.lookup k=O a):∃v,valueAt iB k=O v/\aN a v:=by show dG (sU (mH e)) λj hj=>?_;have hl:=x.1▸(dR.mp hj).1;show eZ (x.2 j iB[j].1 iB[j].2 k a (dF hl) hj) λh1 h2=>?_;show cn _ (valueAt_of_get (x.keys▸hn) (by rw[dF hl,<-h1])) h2
end
def ZW(P:cf)(k0 k:Nat):aV->Option aa:=mj (nsC P k0 k)
def mbT(P:cf):aV->Option aa:=mj (sC (qy P))
theorem aaY(X:(qF P k).In h):pT h P (tC k) (fC k) where
 pI:=ot (ot (ot X))
 acr:=lx X Z Z aL ⟨rfl,rfl,rfl,rfl,rfl,rfl,rfl,rfl⟩ ⟨_,rfl⟩
 itemF:=lx X Z Z aL ⟨rfl,rfl,rfl,rfl,rfl,rfl,rfl,rfl⟩ ⟨_,rfl⟩
 ϔ:=lx X Z Z aL ⟨rfl,rfl,rfl,rfl,rfl,rfl,rfl,rfl⟩ ⟨_,rfl⟩
 dJ:=lx X Z Z aL ⟨rfl,rfl,rfl,rfl,rfl,rfl,rfl,rfl⟩ ⟨_,rfl⟩
 afm:=rfl
 ϕ:=rfl
 afn:=rfl
 ϖ:=rfl
theorem ZG(X:(qF P k).In h):qY h (fC k) where
 Ht:=lx X Z Z aL ⟨rfl,rfl,rfl,rfl,rfl,rfl,rfl,rfl⟩ ⟨_,rfl⟩
 Xl:=rfl
 dft:=⟨0,X _ _ Z⟩
 emp:=⟨0,X _ _ Z⟩
theorem ZH(P:cf)(k0 k:Nat):([("ECC",139),("Buffer",2002),("make_final_message",1926),("make_matrix",1939),("add_timing_pattern",1914),("add_finder_patterns",1907),("add_codewords",1921),("_FINDER_PATTERN",1900),("make_blocks",1931),("GALIOS_LOG",1888),("GALIOS_EXP",1890),("GEN_POLY",1868),("_law_mended",2010),("law",2015),("__builtins__",4)]:List (String×ae)).map (λx=>ZW P k0 k (aC x.1))=[139,2002,1926,1939,1914,1907,1921,1900,1931,1888,1890,1868,2010,2015,4].map λa=>O (R a):=by ext
theorem mg_of(P:cf)(k0 k:Nat){nm:String}(i:Nat)(h:([("ECC",139),("Buffer",2002),("make_final_message",1926),("make_matrix",1939),("add_timing_pattern",1914),("add_finder_patterns",1907),("add_codewords",1921),("_FINDER_PATTERN",1900),("make_blocks",1931),("GALIOS_LOG",1888),("GALIOS_EXP",1890),("GEN_POLY",1868),("_law_mended",2010),("law",2015),("__builtins__",4)]:List (String×ae))[i]? =O (nm,a))(h2:([139,2002,1926,1939,1914,1907,1921,1900,1931,1888,1890,1868,2010,2015,4]:List ae)[i]? =O a):ZW P k0 k (aC nm)=O (R a):=by have e:=congrArg (λl:List (Option aa)=>l[i]?) (ZH P k0 k);rw[cZ,cZ,h,h2]at e;show aW e
theorem aaZ(P:cf)(k0 k:Nat):([("VERSION_M1", -3),("VERSION_M2", -2),("VERSION_M3", -1),("ERROR_LEVEL_L",1),("ERROR_LEVEL_M",0)]:List (String×Int)).all (λx=>(ZW P k0 k (aC x.1)).any (xu x.2))=N:=by ext
theorem Ir(P:cf)(k0 k:Nat){nm:String}{i:Int}(h:(nm,i)∈([("VERSION_M1", -3),("VERSION_M2", -2),("VERSION_M3", -1),("ERROR_LEVEL_L",1),("ERROR_LEVEL_M",0)]:List (String×Int))):∃v,ZW P k0 k (aC nm)=O (ag i v):=bg ((Option.any_eq_true _ _).mp (mY.mp (aaZ P k0 k) _ h)) λv q e=>dG (Tb e) λt r=>⟨t,r▸q⟩
theorem QJ(P:cf)(k0 k:Nat):((BI++[("type",ao "type"),("issubclass",bB "issubclass")]).map λp=>(ZW P k0 k (aC p.1),mbT P (aC p.1)))=(BI++[("type",ao "type"),("issubclass",bB "issubclass")]).map λp=>(ai,O p.2):=by ext
theorem ad7(P:cf)(k0 k:Nat):dQ (ZW P k0 k) (mbT P):=λp hp=>tI (va.mp (QJ P k0 k) p (dc _ hp))
theorem aa0(P:cf)(k0 k:Nat):t9 (ZW P k0 k) (mbT P):=λp hp=>tI (va.mp (QJ P k0 k) p (ew _ hp))
theorem ZI(l:List (LN)):∀(as:List ae),as.length=l.length->(∀(j:Nat) a r,as[j]? =O a->l[j]? =O r->bM h (uL r) (R a) [])->bA h (l.map uL) (as.map R) []:=by
 induction l with
 |nil=>show λas hl _=>?_;rw[T9 hl];show .nil
 |cons r l ih=>show λas hl hr=>eS (Mu hl) λa t e h=>by rw[e]at hr ⊢;show ej [] [] (hr 0 a r Z Z) (ih t h λj a r h1 h2=>hr (j+1) a r h1 h2)
theorem ajn(X:(qF P k).In h):bM h fpV (R 1900) []:=by show⟨1900,([1891,1892,1893,1894,1895,1896,1897,1898,1899]:List ae).map R,0,rfl,DQ Z,X _ _ Z,ZI FPN _ Z λj a r h1 h2=>?_⟩;have hj:j<9:=(dR.mp h1).1;rcases(by lia:j=0\/j=1\/j=2\/j=3\/j=4\/j=5\/j=6\/j=7\/j=8) with rfl|rfl|rfl|rfl|rfl|rfl|rfl|rfl|rfl<;>(show aW h1▸?_;show aW h2▸?_;show bM.uL (DQ Z) (X _ _ Z) (rZ _ _))
theorem agL(X:(qF P k).In h):∃XZ ZY ZM fdP fdC,Pkg h (ZW P k0 k) P (tC k) (fC k) XZ ZY ZM fdP fdC:=by
 have cF:=ue (c:=1925) X Z Z (uf Z);have cX:=ue (c:=1938) X Z Z (uf Z);show⟨_,_,_,_,_,⟨aaY X,Ir P k0 k au,Ir P k0 k au,Ir P k0 k au⟩,
  ⟨ZG X,mg_of P k0 k 0 Z Z,mg_of P k0 k 1 Z Z,Ir P k0 k au,Ir P k0 k au,mg_of P k0 k 2 Z Z,lx X Z Z aL ⟨rfl,rfl,rfl,rfl,rfl,rfl,rfl,rfl⟩ ⟨_,rfl⟩,rfl,rfl,cF.1,cF.2⟩,
  ⟨mg_of P k0 k 3 Z Z,lx X Z Z aL ⟨rfl,rfl,rfl,rfl,rfl,rfl,rfl,rfl⟩ ⟨_,rfl⟩,rfl,⟨0,X _ _ Z⟩,rfl,cX.1,cX.2,mg_of P k0 k 4 Z Z,lx X Z Z aL ⟨rfl,rfl,rfl,rfl,rfl,rfl,rfl,rfl⟩ ⟨_,rfl⟩,rfl⟩,
  ⟨mg_of P k0 k 5 Z Z,lx X Z Z aL ⟨rfl,rfl,rfl,rfl,rfl,rfl,rfl,rfl⟩ ⟨_,rfl⟩,rfl,⟨_,mg_of P k0 k 7 Z Z,ajn X⟩⟩,
  mg_of P k0 k 6 Z Z,lx X Z Z aL ⟨rfl,rfl,rfl,rfl,rfl,rfl,rfl,rfl⟩ ⟨_,rfl⟩,rfl⟩
theorem N6(X:(qF P k).In h):∀b∈bV,h.get? b=O (tabObj #[])/\isCodeTable h b:=λb D=>by
 apply tK D
 .show ⟨X _ _ Z,(ue (c:=1925) X Z Z (uf Z)).2.isCodeTable⟩
 .show ⟨X _ _ Z,(ue (c:=1938) X Z Z (uf Z)).2.isCodeTable⟩
 .show ⟨X _ _ Z,(ue (c:=1983) X Z Z (uf Z)).2.isCodeTable⟩
 .show ⟨X _ _ Z,(ue (c:=2009) X Z Z (uf Z)).2.isCodeTable⟩
theorem ad8(X:(qF P k).In aD.heap)(m:sF [] aD Y):OldK aD.heap Y.heap:=⟨λb o e=>by
 by_cases D:b∈bV
 .show eZ (N6 X b D) λe1 e2=>?_;obtain rfl:=aW (e1.symm.trans e);show dG (m.mod.tab b D _ e1) λmore e3=>(aw (ak ⟨e2,rfl,#[],more,rfl,e3⟩))
 .show ak (m.mod.keep b o (λh=>kI h) D e),λb o e=>m.mod.there b o e⟩
theorem agM(X:(qF P k).In h):∃fd,MFn h (ZW P k0 k) 2010 fd 2009:=by have c:=ue (c:=2009) X Z Z (uf Z);have F:qX h 2010 _ (dP 26):=lx X Z Z aL ⟨rfl,rfl,rfl,rfl,rfl,rfl,rfl,rfl⟩ ⟨_,rfl⟩;show⟨_,mg_of P k0 k 12 Z Z,F.at_,F.params,F.body,F.scope,F.clo,F.glob,F.bi,rfl,rfl,rfl,by decide,c.1,c.2⟩
theorem ZJ(k:Nat):(SN k).all (λe=>(aJ 64).any λi=>xu i e.key && e.hash==hashInt i)=N:=by ext
theorem aa1(X:(zG k).In h):h.IntMap 1868 (findBy xu (SN k)):=⟨_,SN k,18,X _ _ Z,rfl,rfl,(λe he=>bg (KS.mp (Vd.mp (ZJ k) e he)) λi _ h=>dG (Tb (fP.mp h).1) λt q=>⟨i,t,q,beq_iff_eq.mp (fP.mp h).2⟩),λ_=>rfl⟩
theorem QK(k:Nat):findBy xu (SN k) (aj 5)=O (R 1870)/\findBy xu (SN k) (aj 6)=O (R 1871):=⟨rfl,rfl⟩
theorem ad9(X:(qF P k).In h)(hg:bM h (uL gen) (R gp) [])(D:∀x∈gen,x<255)(hl:gen.length<=100):k_ h wt iN.zD gen gp:=
 ⟨bM.uL (DQ Z) (X _ _ Z) (rZ _ _),
  ⟨_,Dg (DQ Z) (X _ _ Z) (by rw[iN.zD,jY];show(rZ QV (k+257)).append (rZ QV (k+257)))⟩,
  hg,
  tS,
  by rw[iN.zD,iu,yK],
  by decide,
  by decide,
  D,
  hl⟩
theorem aeJ(XA:(zm P).In h)(XB:(zG k0).In h)(X:(qF P k).In h)(hg:bM h (uL gen) (R gp) [])(D:∀x∈gen,x<255)(hl:gen.length<=100)(hf:findBy xu (SN k0) (aj gen.length)=O (R gp)):
 ∃Oi,ZD h (ZW P k0 k) P (tC k) (fC k) P tA fdG wt iN.zD gen gp Oi:=by
 have c:=ue (c:=1983) X Z Z (uf Z);show⟨_,ot (ot (ot X)),
  ⟨lx X Z Z aL ⟨rfl,rfl,rfl,rfl,rfl,rfl,rfl,rfl⟩ ⟨_,rfl⟩,rfl,rfl,c.1,c.2⟩,
  ⟨ot (ot XA),lx XA Z Z aL ⟨rfl,rfl,rfl,rfl,rfl,rfl,rfl,rfl⟩ ⟨_,rfl⟩,rfl,0,XA _ _ Z⟩,
  ad9 X hg D hl,
  mg_of P k0 k 9 Z Z,
  mg_of P k0 k 10 Z Z,
  mg_of P k0 k 11 Z Z,
  ⟨_,aa1 XB,hf⟩,
  mg_of P k0 k 8 Z Z,
  lx X Z Z aL ⟨rfl,rfl,rfl,rfl,rfl,rfl,rfl,rfl⟩ ⟨_,rfl⟩,
  rfl⟩
theorem aea(X:(qF P k).In h)(e:h.get? a=O o)(hc:o.cls≠ax):a∉bV:=λq=>by replace e:=((N6 X a q).1)▸e;obtain rfl:=aW e;show hc Z
theorem Iu{lv d:Nat}(T:Ah w os s)(hk:uh s.heap aD.heap)(X:(qF P k).In aD.heap)(hl:m2s.lookup (.int (aj lv))=O (.ecs [(1,10,d)])):∃ta ei,Iq aD.heap lv ta ei [1,10,d]:=by
 show uy T.ex λk0 k iB _ _ _ hD hM=>have up:∀{d:ae} {iB:List (MK×aa)},s.heap.DictOf (d0) d iB->aD.heap.DictOf (d0) d iB:=λqQ=>fc qQ λo es ep e r=>⟨o,es,ep,hk _ _ e,r⟩;bg (hM.get JN agh) λv e1 q1=>?_;obtain⟨d2,alM,_,hD2,hM2⟩:=q1;have FP:(m2s.map (·.1)).Nodup:=r7 hD2 λ_ _ _ _ _ _ _ _ hn=>hM2.keys▸hn;show dG (hM2.get FP hl) λv2 i=>FX i λe2 ta vs qG _ ht hv=>?_;subst qG;cases vs with
 |nil=>show hv.elim
 |cons u vs=>
  cases vs with
  |cons _ _=>show hv.2.elim
  |nil=>
   obtain⟨i,dx,t0,t1,t2,_,_,hi,hdx⟩:=hv.1;show tJ (id (up hD2)) λo2 _ _ g2 x2 _=>?_;have xc:o2.cls≠ax:=λq=>by have:=x2.1;have this:=q.symm.trans this;ext
   show⟨ta,i,⟨_,d2,_,(up hD).mapOf,e1,((up hD2).mapOf),aea X g2 xc,e2⟩,⟨0,hk _ _ ht⟩,aea X (hk _ _ ht) (by nofun),⟨dx,t0,t1,t2,1,10,d,rfl,hk _ _ hi,hk _ _ hdx,aea X (hk _ _ hdx) (by nofun),aea X (hk _ _ hi) (by nofun)⟩⟩
theorem QL(T:Ah w os s)(hk:uh s.heap aD.heap)(h3:s.heap.get? 3=O {cls:=ao "dict",data:=eg (nsC w.params k0 k) 34})(ha:aD.heap.get? a=O o)(hat:a=2016):cx aD.heap (ZW w.params k0 k) (mbT w.params) where
 g:=xt (hk _ _ h3) Z (Co _ _ _)
 b:=xt (hk _ _ (T.old 0 _ bu (uf Z) (uf Z) (uf Z) (uP bu))) (SU _) (NU _)
 lim:=⟨_,xt (hk _ _ T.agp) Z (Ve.mpr λ_ h=>absurd h (rH _)),rfl⟩
 top:=⟨o,(show QR=a from hat.symm)▸ha⟩
 bmod:=⟨4,_,mg_of w.params k0 k 14 Z Z,uf Z,DQ Z,hk _ _ (T.old 4 _ bu (uf Z) (uf Z) (uf Z) (uP bu)),rfl,rfl,rfl⟩
theorem ZK:((aJ 256).all λv=>(n9 v).foldl (λwd b=>2 * wd+b) 0==v)=N:=by rfl
theorem vW:∀(l:LN),(∀x∈l,x<256)->wordsOf (dJ l) l.length=l
 | [],_=>rfl
 |v::l,hl=>by
  have ih:=vW l λx E=>hl x (bU _ E);have h8:(n9 v).length=8:=by rfl
  unfold wordsOf at ih ⊢;rw[oO,Ue,iI,qm,iN.sr];show List.cons_eq_cons.mpr ⟨beq_iff_eq.mp (mY.mp ZK v (dm.mpr (hl v (cR ..)))),?_⟩;show Eq.trans (AI λi _=>?_) ih;show(?_:wordAt (n9 v++dJ l) (8 * (i+1))=wordAt (dJ l) (8 * i))
  delta wordAt
  rw[show 8 * (i+1)=(n9 v).length+8 * i by lia,List.drop_append,rx,List.drop_eq_nil_of_le au,yc]
theorem aa2{args:List WData}{as:List ae}(Zw:FV.row.toRowW.claim.pre args=N)(Zx:Mh args=N)(br:Laid [] w s aD args vs as)(low:sL<s.heap.objs.size):∃(ns:List Int) (a:ae) (n:List aa),args=[ofPy (Mp (ns.map Mq))]/\ns.length<=63/\vs=[R a]/\aD.heap.get? a=O (bp n 0)/\fm n ns/\a=s.heap.objs.size:=by
 have hrd:=br.reads;have WI:=br.well;have Iw:=br.low low
 wrow_args Zw Zx hrd WI Iw
 show⟨_,_,_,rfl,by lia,rfl,X.script_obj br (by assumption),by assumption,(X.script_at br).1⟩
theorem aa3{cl:aV->Option ae}{alp:ExcName->Option aa}{ns:List Int}(X:(qF P k).In aD.heap)(hg:aD.gens=#[])(m:sF [] aD Y):GoodWG FV.row.toRowW.claim cl alp [ofPy (Mp (ns.map Mq))] aD (bX (cG (c9 N))) Y:=
 ⟨ak ⟨c9 N,WData.bool N,[],rfl,λ_=>rfl,ReadsW.bool N,by ext,λ_=>⟨rN,λ_ h=>kI h⟩⟩,ad8 X m,m.os,m.gens.2 (λx E=>by rw[hg]at E;show absurd E (U9 x))⟩
theorem ZL:Qy:=by
 show λos s aD args vs as T Zw Zx br=>r7 (aa2 Zw Zx br (by rw[T.size];decide)) λns a its dX wG qG ha ia hat=>?_;subst dX;subst qG;rw[T.size]at hat;have hk:=br.keeps;show og λgG kG=>?_;obtain⟨k0,k,iB,h3,hB,hC, -, -⟩:=id T.ex;have X:=hC.keeps hk;have XA:=T.fA.keeps hk;have XB:=hB.keeps hk;have B:=QL T hk h3 ha hat;obtain⟨fdM,M⟩:=agM (k0:=k0) X;obtain⟨XZ,ZY,ZM,fdP,fdC,Pk⟩:=agL (k0:=k0) X;obtain⟨fdL,NL,hdL⟩:∃fd,qX aD.heap 2015 fd (dP 27)/\fd.defaults=ax:=⟨_,lx X Z Z aL ⟨rfl,rfl,rfl,rfl,rfl,rfl,rfl,rfl⟩ ⟨_,rfl⟩,rfl⟩;show kG ?_;clear kG gG;have aP:bM aD.heap (kO ns) (R a) [a]:=by show r9 [] (by rw[hat];decide) ha (wF ia)
 have hnl:iQ (lT ns)<2:=rT _ aL;show zz (H:=[]) (S:=[]) (us:=[R a]) (avs:=[kO ns]) (F:=[a]) [0] B (.refl _) aL NL Z Z Z ?_ ?_ aL Z aL (λ_ h=>kI h) λs2 L2 p2=>?_
 .show (?_:aA _ _ _ _ _ _);delta dw;show NL.params.symm▸hdL.symm▸aB ⟨rfl,rfl⟩
 .show ej [a] [] aP .nil
 have key:∀(lv n:Nat) (gen:LN) (gp ta ei:ae) (Oi:cq),iN.JK gen->gen.length=5+iQ (lT ns)->n+1+gen.length=10->([1,0]:LN).getD (iQ (lT ns)) 0=lv->ZD aD.heap (ZW w.params k0 k) w.params (tC k) (fC k) w.params tA fdG wt iN.zD gen gp Oi->Iq aD.heap lv ta ei [1,n+1+gen.length,n+1]->
  C (callerA.deeper (gN fdL L2 2015)) (aU (bh (dP 27)) (gN fdL L2 2015)) s2 (λf Y=>GoodWG FV.row.toRowW.claim (classAt s.heap) (Wb s.heap) [ofPy (Mp (ns.map Mq))] aD (bX (cG (WU f))) Y):=λlv n gen gp ta ei Oi hG hgl hnc hlv OM EA=>by
  have Yy:(wQ (lT ns) gen.length).length=n+1:=by delta wQ;rw[ik,KQ];show Nat.sub_eq_of_eq_add (id (mr hnc))
  have hd:∀x∈wQ (lT ns) gen.length,x<256:=λx E=>by show bg (bG.mp E) λi _ DU=>?_;subst DU;show rT _ aL
  show dU (iN.plain (aM:=lT ns) hG au hd) λq1 q2 q3 q4 q5 q6 q7 q8=>?_;have hdk:∀x∈wQ (lT ns) gen.length++bZ gen.length 0,x<256:=λx E=>by show bc (bY.mp E) (λh=>hd x h) λh=>by rw[u9 h];decide
  rw[iN.Ih]at q1 q2 q3 q4 q6 q7 q8;show aaW ⟨rfl,(by change 302+10<1000;decide),(by show(?_:4+3+20 * 10<9900);decide)⟩ (by change 302<500;decide) B (ad7 w.params k0 k) (aa0 w.params k0 k) (λb D=>⟨_,(N6 X b D).1⟩) M Pk OM EA wG Z hgl Z au hlv Yy hd (by show Yy▸?_;show vW _ hd) Z ?_ (λx E=>iN.Sn hdk _ x (rq E)) Z q2 q1 q3 q4 q5 q6 q7 p2 λY m=>?_
  .rw [AM,xn,iu,ro];lia
  .show q8.symm▸aa3 X br.gens m
 rcases(show iQ (lT ns)=0\/iQ (lT ns)=1 by lia) with e|e
 .show jd (Iu T hk X aiS) λta ei EA=>dG (aeJ (gen:=iN.afU) XA XB X (bM.uL aL (XB _ _ Z) (rZ _ _)) aL aL (QK k0).1) λOi OM=>key 1 4 iN.afU 1870 ta ei Oi iN.akO (by rw[e];rfl) Z (by rw[e];rfl) OM EA
 .show jd (Iu T hk X aiT) λta ei EA=>dG (aeJ (gen:=iN.afV) XA XB X (bM.uL aL (XB _ _ Z) (rZ _ _)) aL aL (QK k0).2) λOi OM=>key 0 3 iN.afV 1871 ta ei Oi iN.akP (by rw[e];rfl) Z (by rw[e];rfl) OM EA
end
end Mine.Lake
open PySem PySem.W PyProof.Rows
theorem PySem.Challenge.cw_nv0014_01_holds : PySem.Challenge.rw_nv0014_01.Holds :=
 holds_law Mine.Lake.t1 λk1=>Mine.Lake.adT Mine.Lake.ZL k1
