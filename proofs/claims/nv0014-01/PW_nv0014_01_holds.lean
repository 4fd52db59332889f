import PyProof.Rows.All
import Wide.All
import OpenK.AllK
import KE.KRevIter
import Wide.FinOn
import Lean
import PySem.Challenge.RW_nv0014_01
set_option Elab.async false
set_option maxRecDepth 100000
set_option maxHeartbeats 4000000
set_option linter.all false
set_option backward.match.sparseCases false
set_option genInjectivity false
set_option genSizeOf false
set_option bootstrap.genMatcherCode false
set_option tactic.hygienic false
set_option genCtorIdx false
set_option compiler.extract_closed false
namespace Mine.Lake
noncomputable section
open PySem PySem.Calls PyProof.Rows
open _root_.Option renaming some->O,none->ah
open _root_.Bool renaming true->N,false->ab
open PySem.Value renaming ref->R,int->ag,type->ao,none->aA,builtin->bB,str->cO,bool->c9,bytes->uS,isInt->xD,ellipsis->J4,isInt_shape->Tx
open PySem renaming wpAny_bind->aj,Shared->ae,Value->aa,wpAny_pure->aC,Addr->af,model->aD,wpAny->aE,Expr->aG,execs->aU,wpAny_holding->cQ,Heap->aQ,Sem->aI,FuncData->cq,cStatics->cG,Around->bR,eval->a7,Str->aV,Params->cf,mainGlobals->ef,wpAny_callSpecial?_slot->jT,wpAny_newObj_type->ip,bindArgs->dy,Tok->a8,wpAny_assign_Name->jD,builtinsNs->fY,typeLookup->fZ,rawInt->da,wpAny_field->gN,swapsWith->fz,sizeLine->eN,Flow->cb,wpAny_call_entry->jU,letOwnedTupleGo->jE,wpAny_specialOf->jF,GenState->eV,Stmt->cg,Obj->bE,wpAny_of_eq->iq,wpAny_seqItems->jV,wpAny_truthy_bool->mf,interactive->iJ,Scope->dw,wpAny_mono->ir,wpAny_Call_NameR->mh,wpAny_standAt->jW,entryFor_of_tree->mi,wpAny_isInstance->mj,callEnvC->gO,entryFor->gQ,plainId_quiet->lL,sizeLine_eq->jX,Fin->iW,wpAny_storeName_local->sM,recursionLimit->mS,OsState->gW,wpAny_load->jY,pyIter->gn,Env->cI,Pos->cJ,wpAny_call->kU,codeAny_builtin->qh,wpAny_isTrue_Compare1->uT,starEach->js,compEnvC->jt,IsRangeIter->ml,World->fK,Thread->gX,pyNext->gY,checkBuiltinCall->sN,relabel->ju,wpAny_loadName_local->xE,codeAny_call_builtin->xF,lookup_relabel_local->xG,wpAny_sequenceKey->uU,wpAny_pyIter_list->uV,wpAny_list_append_plain->Al,wpAny_execs_cons->uW,call_meets->oB,wpAny_Constant_int->xH,wpAny_typeOf->rj,leaving->kV,wpAny_updateSeq->uX,wpAny_Return_some->xI,wpAny_Assign_Name->xJ,assign->jG,fastTable_eq_tree->xK,wpAny_newFunctionEnv->Am,DictEntry->oE,isSubtype->oF,backTo->jZ,call_range_1->sO,argsOk->j0,IsPair->j3,attributeBase->uY,rangeSize_one->uZ,swappedStores->u4,wpAny_attempt->u5,wpAny_Name->rk,wpAny_rule->rl,wpAny_pyIter_range->An,closureFor->rn,int_index->xM,isInstance->ro,codeAny_of_tree->xN,wpAny_setField_rec->Ao,standAt->mT,seqIndex? ->rp,typeIs_int->sP,sysModules->sQ,wpAny_Subscript_list_slice->J5,checkTypeCall->xO,nsFind->mn,codeAny->oH,Builtin->u6,wpAny_letGo->u7,Code->iX,notIn_one->sR,sliceIndices->xP,callSpecial? ->xQ,wpAny_Constant_str->Ee,slot_listiter_next->Ef,IsRange->qi,wpAny_setField->Ap,foldedSetIterable->Eg,wpAny_builtinsFor->Eh,wpAny_nsGet->xR,wpAny_Assign_Subscript->J6,wpAny_pyNext_list_item->J7,setGen_self->xS,wpAny_pyNext_tuple_end->J8,wpAny_pyIter_gen->Ei,small_one->u9,codeAny_call_function->J9,wpAny_pyNext_list_end->Ka,Walks->mU,IsZip->mV,wpAny_loadName_cell->Kb,wpAny_loadName_free->Kc,compTurn->va,NameKind->vb,wpAny_bindName->Ej,Slot->lM,wpAny_ite_true->Ek,wpAny_alloc->Aq,wpAny_assign_Tuple->Kd,cellsFrom->xT,wpAny_pyIter_tuple->Ke,Comprehension->El,behindInMarks->Em,wpAny_newFunctionEnv_cells->Tz,am_entry_list_getattribute->TA,comprehension->En,wpAny_pyIter_slot->Kf,wpAny_dictEntries->Kg,Meets->qj,TypeCalled->Ar,asIndex->vd,Result->sS,mainNs->sT,wpAny_items_cons->Ki,wpAny_pyIter_zip->Kj,wpAny_comprehension_free->TB,callWith->xU,evalArgs->xV,Protocol->xW,assignStores->Eo,wpAny_GeneratorExp_make->TC,wpAny_pyNext_range_item->TF,storeName->As,wpAny_execs_nil->Kk,numSeenOf->Au,strValues->Av,wpAny_BinOp->Ep,wpAny_allTrue_And_cons->TG,wpAny_Tuple->Er,exec->oJ,unsupported->Es,wpAny_Slice->Et,wpAny_pyNext_range_end->TH,wpAny_pyIter_rangeiter->TJ,Program->xY,wpAny_allTrue_Or_cons->TK,spliced->xZ,exec_Assign_Name_used->TL,entryFor_alias->Kl,size_pos_of_not_empty->TM,isSubtype_stop->Km,wpAny_runValue->Kn,methodCallForm->Ko,wpAny_pyIter_listiter->TN,wpAny_AugAssign_Name->TP,call->Eu,codeAny_extend_loopS->TQ,keeperOf->Aw,field->sU,wpAny_updateSeq_pair->TR,step->Ew,assignEach->Ex,wpAny_handled->Kq,wpAny_onRaise->Kr,wpAny_isTrue_BoolOp->TS,wpAny_functionCodeX->TU,entry_listiter_next->TV,wpAny_Constant_none->TX,compareOp->Ey,wpAny_getItem_list->TY,codeAny_func->Ks,makeFunction->Kt,wpAny_newTextTuple->TZ,GenEnd->x9,getMethod->Ez,numTextOf->EB,callType_new->Ku,args_listiter_next->T2,handedOut->EC,getItem->Ax,setItem->Ay,notedBy->Az,Keyword->AA,wpAny_Call_method->T3,slot_list_setitem->T4,getMethod_builtin->T5,subscripted->Kv,wpAny_throw->Kw,keywordEach->Kx,evalThenUse->Ky,Args->sV,exec_Assign_Name->T6,wpAny_askSetting->T7,wpAny_comp_letGo->T8,wpAny_items_nil->T9,wpAny_List->Kz,execs_cons->KC,typeOf->AB,wpAny_dictEpoch->Ua,Const->ya,leftWithCleanup->Ub,plainId->ED,Arguments->KD,treeTable->KG,inplaceOp->KH,clausesOf->KI,holding->Uc,standAt->Ud,Builtin->ajL
open _root_.Int renaming ofNat->ai,pos_iff_toNat_pos->AD,fmod_eq_emod_of_nonneg->EE,ofNat_lt->sW,ofNat_le->yb,negSucc->AE,lt_of_le_of_lt->KJ,natCast_nonneg->KL,toNat_natCast->KN,lt_toNat->EF,toNat_sub->KO,toNat_of_nonneg->Ue,lt_of_lt_of_le->Ug,max_eq_right->Uh,toNat->KP,ofNat_sub->Ui,ofNat_inj->Uj,lt_trans->Uk,le_trans->Ul
open PySem.Expr renaming Name->aq,Call->bx,ListComp->cE,Subscript->dk,Constant->fL,Attribute->gZ,BinOp->fh,Tuple->fM,GeneratorExp->lN,Compare->jw,Slice->mq,Dict->qk,BoolOp->KQ,UnaryOp->Um
open PySem.Str renaming ofString->aB,join->yc
open PySem.Heap renaming get?_push_of_some->aZ,get?_push_size->bI,lt_size->cj,size_push->dD,get?_update_self->ie,SameBut->gu,get?_update_other->mr,get?_update_ne->Un,ExtBut->KR,mk->KS
open Or renaming inl->ak,inr->aw,elim->ba
open _root_.Option.some renaming inj->aW
open _root_.List renaming range->aJ,mem_singleton->bJ,mem_cons_of_mem->bY,mem_cons->bq,getD_eq_getElem?_getD->dc,mem_append->bZ,getElem?_eq_getElem->dE,mem_map->bH,getElem?_eq_some_iff->dR,replicate->b8,mem_of_getElem? ->cY,mem_append_left->de,mem_cons_self->cR,not_mem_cons_of_ne_of_not_mem->hb,getElem?_map->cZ,mem_append_right->ew,mem_range->dm,mem_filter->gq,length_append->iu,length_map->ig,foldl_cons->iw,map_cons->ix,map_append->jH,getElem?_range->oM,length_eq_zero_iff->rq,all_eq_true->mW,not_mem_nil->mX,length_replicate->ru,getElem?_eq_none->rx,mem_of_mem_drop->ry,length_cons->oO,mem_or_eq_of_mem_set->ve,getElem?_append_left->vg,nodup_append->ql,foldl_append->qm,eq_of_mem_replicate->vh,getElem?_of_mem->sX,getElem?_append_right->yd,nodup_cons->rz,range_succ->rD,take_length->sY,of_mem_zip->sZ,map_map->qo,map_inj_left->vi,length_filter_le->AF,mem_of_mem_head? ->AG,pairwise_iff_getElem->EG,mem_of_mem_take->AH,nodup_range->ye,map_congr_left->AI,filter_cons_of_pos->EH,filter_cons_of_neg->EI,forIn_cons->yf,append_nil->yg,nil_append->yh,append_assoc->AJ,take_add_one->AK,getElem?_zipWith->EJ,contains_iff_mem->EK,take_append_drop->EL,lookup_cons->AL,length_take->AM,length_drop->AN,getElem?_zip_eq_some->KU,ext_getElem? ->EM,getElem?_set->EN,take_of_length_le->KV,map_take->AO,mem_reverse->EO,cons_append->ES,mem_iff_getElem? ->KW,getElem?_toArray->KX,foldl->yi,length_set->ET,zipWith->AP,eq_nil_of_length_eq_zero->Uo,zip_cons_cons->KY,map_replicate->KZ,getElem?_drop->K0,all_cons->EU,map_drop->EV,length_range->K9,getElem?_eq_none_iff->Up,mem_of_mem_eraseIdx->Uq,getElem_mem->Lc,any_eq_true->Ld,getElem?_replicate->Ur,length_nil->Le,filter_eq_nil_iff->Us,range_succ_eq_map->Ut,foldl_nil->Lf,foldl_map->Lg,length_eraseIdx->Uu,contains_eq_mem->Uv,replicate_succ->Uw,filter_eq_self->Ux,filterMap_cons->Uy,takeWhile_cons->Uz,mem_map_of_mem->UA,map_set->Lh,append_of_mem->UB,foldl_flatMap->UC,lookup_append->UD,flatten_cons->UE,ext_getElem->UG,range'_succ->UH,range_zero->UI,map_id'->UJ,map_nil->UK,any_nil->UL,lookup->UM,range'->UN
open _root_.Nat renaming le_trans->bj,le_of_ble_eq_true->dN,ble_eq_true_of_le->eW,lt_of_lt_of_le->fi,le_refl->ey,ne_of_lt->fB,zero_le->fj,lt_irrefl->gv,lt_trans->f9,le_add_right->iY,lt_succ_self->iZ,le_of_lt->gw,xor_zero->gx,lt_of_le_of_lt->j4,lt_succ_of_lt->kX,ble->dY,zero_xor->iy,add_sub_cancel_left->rF,le_of_lt_succ->mY,add_comm->jI,beq->fD,add_assoc->lO,le_of_eq->kY,le_of_not_lt->oQ,add_le_add_left->rH,sub_lt_sub_left->rJ,le_succ_of_le->qq,le_of_succ_le->qr,xor_self->lP,not_lt->j5,lt_or_ge->mu,le_add_right_of_le->vj,le_succ->lQ,mul_le_mul_left->te,succ_add_eq_add_succ->yj,add_sub_cancel->th,add_sub_of_le->tj,le_add_left->rL,not_lt_zero->rM,ne_of_gt->oR,succ_le_succ->tx,add_le_add_right->yk,mod_lt->mZ,zero_add->qt,blt->jJ,xor_assoc->rN,add_lt_add_left->yl,add_left_cancel->ym,le_antisymm->vk,add_lt_of_lt_sub'->AQ,mod_two_eq_zero_or_one->EW,le_sub_of_add_le->AR,succ_ne_self->yn,zero_lt_one->yo,lt_or_eq_of_le->AS,one_add_le_iff->AU,mul_comm->vm,add_sub_add_right->EX,sub_le->tD,add_lt_add_right->EY,one_lt_succ_succ->EZ,xor_lt_two_pow->E0,ne_of_beq_eq_false->Li,mul_add->yp,lt_of_add_right_lt->Lj,sub_add_sub_cancel->Lk,min_le_right->E3,sub_eq_zero_of_le->Ll,eq_of_beq_eq_true->Lm,min_le_left->E4,le_sub_one_of_lt->Ln,sub_le_of_le_add->Lo,add_lt_of_lt_sub->Lp,add_zero->AW,succ_lt_succ_iff->Lq,not_succ_le_self->Lr,add_one_ne_zero->Ls,add_le_add->E5,sub_right_comm->Lu,sub_add_cancel->Lv,add_right_comm->Lw,sub_pos_of_lt->Ly,succ_pos->E6,sub_sub_self->Lz,mul_zero->E7,lt_add_right->LA,succ_pred_eq_of_pos->UO,lt_add_of_pos_right->UP,div_lt_self->LB,div_add_mod->LC,add_mod_mod->LD,sub_sub->E8,mul_one->E9,le_of_sub_eq_zero->UQ,div_lt_of_lt_mul->UR,div_le_div_right->US,succ->AX,mul_succ->LF,sub_self->LG,xor_comm->LH,lt_trichotomy->UT,lt_of_succ_lt->UU,le_zero->LI,lt_of_not_le->UW,add_left_inj->UX,mod_eq_of_lt->UY,sub_lt->LJ,min_eq_left->UZ,strongRecOn->U0,mul_assoc->U1,pred->LK,le_total->U2,add_mod->U3,two_mul->U4
open PySem.Data renaming fields->bF,seq->bQ,dict->eg,bytearray->ja,cell->oS,func->qu,plain->tF,cls->LL,freed->U5
open List.Mem renaming tail->bV,head->eO
open PySem.ScopeKind renaming function->dZ,module->qv,«class»->U6
open PySem.NameKind renaming «local»->cU,cell->dz,free->eQ,globalImplicit->kZ
open Except renaming ok->bW,error->j6
open _root_.Bool renaming and_eq_true_iff->fN,and_eq_true->qw,not_eq_true'->vo,or_eq_true->LM,or_false->LO,false_eq_true->U7,eq_iff_iff->U8,and_false->U9,false_and->Va
open PySem.Flow renaming next->cL,ret->cB
open _root_.Option renaming map_eq_some_iff->jb,none->eX,isSome_iff_exists->yq,bind_eq_some_iff->LP,map->Vb
open PySem.Obj renaming mapSeq->dO,mapBytearray->iz,data_mapDictKeys->Vc,data_mapFields->Vd,data->Fb
open PySem.Stmt renaming Assign->ez,For->j7,Expr->qy,FunctionDef->AY,Return->yr,AugAssign->Fc,If->yt,While->Ve
open PySem.Code renaming builtin->fE,compLoop->hx,compStart->oT,call->m8,quiet_builtin->AZ,forLoop->Fd
open PySem.Builtin.Range renaming rangeSize->lR,small->vp,rangeFitsLong->abt,rangeFields->abu
open PySem.Heap.SameBut renaming update->j8,refl->Vg
open Eq renaming refl->eF,symm->lh
open _root_.Ne renaming symm->eS
open PySem.FuncBody renaming stmts->lj
open PyProof.Rows renaming IntsAre->fk,callWith_builtin1->yu,callWith_type1->A1,Subscript_->rO,foldl_take_succ->A3,tail_any->tH,Attribute_any_->Fe,spliced_more->Ff,spliced_none->Fg,call_len_slot->abw,len_tuple->abx
open PySem.Value.ref renaming inj->j9
open ForInStep renaming yield->mw
open PySem.GenState renaming running->m9,fresh->LQ
open PySem.W renaming emptyDict->iA,emptyDict->tI,Looks->gS,findIn->iK,boot_heap->oU,boot_o_3->oW,SharedT->ng,boot_o_0->qz,of_pureOf->vq,instObj->Fh,typeIn->qA,looks_findIn->A4,plainGet_of->A5,specialIn->yw,Frag->mx,instObj->vt,looks_field->Fi,Looks->LR,check_slot->Vh,absHeap_size->LU,takesIn->A6,looksOpen->Vi,looks_mroIn->LV,tc_args->Vj,check_slot->LW,through->Fj,findCls->Fl
open _root_.Array renaming getElem?_eq_getElem->vw,getElem?_eq_none->LX,getElem?_push->LY,getElem?_eq_some_iff->Vk,ext'->A7,getElem?_toList->Vl,not_mem_empty->Vm,append_assoc->Vo,ext_getElem? ->Vp,empty_append->Vq,all_eq_true'->Vr,all_eq_true->Vs,replicate->Vt,toList->Vu
open List.cons renaming inj->my
open PySem.Builtin renaming bitNot->nk,divisionGoesByPylong->Fm,bitAnd->LZ,bitXor->Vv,bitOr->Vw
open PySem.Calls renaming spliced_cons->rP,evalArgs_plain->L6,callWith_function->L7,callWith_builtin->Vy,loadGlobal_global->Vz
open PySem.Env renaming kindOf->kb
open PySem.Builtin.Bytes renaming sliced->tJ,decodersThatHold->L8,write->Fn,exported->L9,checkResize->VA,ownRelease->VB,fitsIndex->VC,slotIsOwn->VD,bindOptional->aby,newBytearray->abz,lengthHint->abA,sliceParts->abB,exportsOf->abC,payload->abD
open PySem.W.Looks renaming of_peek->nq,now->vx,of_pure->Ma,ld->Fo,ld->abE
open List.Pairwise renaming nil->rQ,filter->Fp,imp->abF,map->abG
open PySem.Const renaming int->jK,none->rR,str->Mb
open List.Nodup renaming length_le_of_subset->A8
open PySem.Builtin.List renaming listSameRef->yx,listExtendWith->VE,listTooLong->VF,listTouch->VG,listSubscript? ->abH,listLengthHint->abI,listFitsIndex->abJ
open PySem.F renaming slot_range_iterator_next->Fq,slot_list_getattribute->Ft,plain_extend_loop->Fu,entry_list_iadd->Fw,slot_int_rmul->FA,slot_zip_next->FC,entry_proto_collect->Mc,slot_range_reversed->Md,plain_list_iadd->Me,args_range_iterator_next_1->VH,entry_range_iterator_next->VI,slot_tuple_iterator_next->VJ,args_list_getattribute_2->VK,slot_tuple_getattribute->VL,called_tuple->Mf,slot_tuple_getitem->VM,entry_extend_loop->VN,args_int_rmul_2->VO,plainAttrs_list->VP,plain_tuple_new->VQ,entry_tuple_new->VR,args_zip_next_1->VS,slot_int_index->VT,entry_int_rmul->VU,slot_list_iadd->VV,entry_zip_next->VW,slot_str_join->VX
open Classical renaming byContradiction->A9,epsilon_spec->VY,epsilon->VZ,choose->V8
open PyProof.Rows.IntsAre renaming nil->qB,cons->yy
open PySem.Meets renaming of_wp->qC
open PySem.Operator renaming Add->rS,Mult->vA,BitXor->Ba,FloorDiv->FD,Mod->Bb,Sub->FE,BitAnd->Mg,RShift->Mh,Pow->Mi
open PySem.Sem renaming wrap_wrap->tK,wp_mono->tL,bind_eq_wrap->Bc,onRaise_eq_wrap->FF,bind_eq_wrap'->Mj,wrap_congr->Mk,raise->Ml,wp_bind'->Wb
open PySem.Fin renaming done->nr,again->yz
open PySem.Pin renaming globalOf_eq->yA
open Prod.mk renaming inj->tM
open PySem.Challenge renaming rw_nv0014_01->Wc,pw_nv0014_01->Mm
open PySem.Slot renaming of->nt
open PySem.IsRange renaming new->vB
open PySem.Run renaming running->vC
open PySem.Builtin.Slice renaming sliceAdjust->Mn,slicePlaces->We,sliceApplied->abK
open PySem.Builtin.SmallTypes renaming nextOf->Mo,refuseKeywords->abL,newRecord->abM,newClass->abN,iterAll->abO
open Decidable renaming em->yB
open PySem.Resume renaming send->yC
open PySem.Heap.IsCode renaming at2->FG
open PySem.Builtin.ObjectAttr.Found renaming value->Wf,bind->abP
open PySem.Keeper renaming machine->FH
open PySem.GenOnly renaming setGen->FI
open PySem.CmpOp renaming NotIn->Bd,In->yD,NotEq->FJ,Eq->Be,Lt->FK,LtE->Wg
open Exists renaming imp->Bf
open PySem.W.WData renaming layableAll->Mp,list->Mq,int->Mr
open Nat.ToInt renaming of_le->Ms
open PySem.Shared renaming asleep_of_life->Wh,forget_eq->Wi,rest_eq->Wj,heap->Wl
open PySem.IsPart renaming int->FL,none->Wm
open PUnit renaming unit->FN
open PySem.Config renaming single->Mt
open And renaming intro->FO
open PySem.W.KF renaming slot_mset->Mu
open PySem.Thread renaming calm_forget->Wn
open PySem.W.KBy renaming look_buffer->Wo
open PySem.End renaming bare_of_quiet->Wq
open PySem.callAny renaming viaDunder->Wr
open PySem.W.BT renaming beq_eq->Mv
open PySem.Walks renaming range->Mw,list->Ws
open PySem.PyData renaming list->My,int->Mz
open PySem.W.CFound renaming val->MA
open List.range renaming loop->Wu
open PySem.Builtin.Tuple renaming tupleIsExact->abQ,tupleItemsOf->abR
open Int.ofNat renaming inj->Wv
open PySem.ExcName renaming means->Ww
open PySem.Builtin.Generator renaming genWake->abS
open PySem.W.OpenRow renaming partSaid->abT,wellSaid->abU
open PySem.W.OpenLaw renaming wellSaid->abV
open Nat.succ renaming inj->Wx
open PySem.Data.seq renaming inj->Wy
open PySem.ItemsOf renaming nil->Wz
open PySem.GenOnlyQ renaming of->WB
open PySem.Gives renaming of_wp->WC
open PySem.Manifest.AttrKind renaming slot->abW
open PySem.BoolOp renaming And->WD
variable {α β ζ σ:Type} {aS I Ia P' TI TO a b c' cC cM cv d d2 dT dx ei fa gp i1 l rr sl ta:af} {params:KD} {A:bR} {items ps:Array aa} {ae7 fr fr' lp:Bool} {gd:Bool->Bool} {cenv J fX ae8 Y':cI} {e e' e1 e2 elt hi it0 iter lo slice ct target' Yr value:aG} {fd fd2 fdC Ys fdP Z8 Z' Oy:cq} {h h' D U:aQ} {left:Int} {pic b9:List (List Nat)} {Gs Yt:List (Nat×eV)} {ks:List (Option aG)} {cl:List (aV×af)} {tab:List (aV×Int)} {F F' bu W W' bo X fp rs wr H τ':List af} {gens gs:List El} {es ifs ifs':List aG} {aM Jk script:List Int} {bits cs data eb ex fs gen kn line ms now ns pr sent sp words ws:List Nat} {body zG rest ss:List cg} {args first us vs Q3:List aa} {lv:List aa->List aa} {M:Model} {c c0 g i j k k0 k1 k2 k9 kc kf kl ky lc ln lo' n n' n₀ place right size tk turn whole x x1 y z:Nat} {Mid:Nat->af->aQ->Prop} {f:Nat->cq} {St Jl:Nat->aQ->Prop} {t t2:Nat->a8} {o o' oP oc ox:bE} {od:Option bE} {ann:Option aa} {os:gW} {P P2:cf} {apos cpos np np2 p p' p1 p2 p3 pos Cu γ pt px py q spos:cJ} {aN:sS->ae->Prop} {L sc' scope wA:dw} {pl:aI Bool} {s Y nG s1 sB sa sb aK ax aP ib:ae} {aY:ae->ae->Prop} {st:cg} {name nm:aV} {m m0 mb mg:aV->Option aa} {qU zh ty:String} {t8 tb tc tv u:a8} {jQ code it self v:aa} {RR:aa->af->sS->ae->Prop} {a0 It Q Q₁:aa->ae->Prop}
section
variable {a b c d e f g h i j k l m n t x y z:Nat}
theorem Z {α:Sort _} {a:α}:a=a:=rfl
theorem kM {α:Type _} {x:α} {P:Prop} (h:x∈([]:List α)):P:=nomatch h
theorem zi {α:Type _} {P:α->Prop} (x:α) (h:x∈([]:List α)):P x:=kM h
theorem Bg {α:Type _} {x:α} {P:Prop} (h:ah=O x):P:=nomatch h
theorem nnT {P:Prop} (h:N=ab):P:=nomatch h
theorem II {P:Prop} (h:ab=N):P:=nomatch h
theorem nn0 {P:Prop} (h:a+1=0):P:=nomatch h
theorem nnZ {P:Prop} (h:0=a+1):P:=nomatch h
theorem nnD {α:Type _} {x:α} {l:List α} {P:Prop} (h:[]=x::l):P:=nomatch h
theorem Yu {α β:Type _} {x z:α} {y t:β} {P:Prop} (h:(x,y)=(z,t)) (k:x=z->y=t->P):P:=k (congrArg (·.1) h) (congrArg (·.2) h)
theorem mH {α β:Type _} [BEq α] [LawfulBEq α] {l:List (α×β)} {x:α} {c:β} (h:l.lookup x=O c):(x,c)∈l:=
 (List.lookup_eq_some_iff.mp h).elim λ_ h=>h.elim λ_ h=>h.1▸ew _ cR
theorem uj {a b:Nat} (h:fD a b=ab):a≠b:=Li h
theorem Oj {a b:Nat} (h:dY a b=N):a≤b:=dN h
theorem nme {a:Nat} {l:List Nat} (h:l.elem a=N):a∈l:=List.mem_of_elem_eq_true h
theorem DU {a:Nat} {l:List Nat} (h:l.elem a=ab):a∉l:=λk=>nnT ((List.elem_eq_true_of_mem k).symm.trans h)
theorem δ {α:Type _} {G:Prop} (o:Option α) (k:o=ah->G) (m:∀x,o=O x->G):G:=by
 cases o with
 | none=>exact k Z
 | some x=>exact m x Z
theorem boC {G:Prop} (b:Bool) (k:b=N->G) (m:b=ab->G):G:=(Bool.eq_false_or_eq_true b).elim k m
theorem r26:∀r∈[12,10,8,6,4,2],2≤r∧r≤12:=by decide
theorem kA1 {α:Type _} {y a:α} {l:List α} (h:y=a):y∈a::l:=h▸cR
theorem kA4 (h:a<b) (k:c=b):a<c:=k▸h
theorem kA5 (h:a≤c):a - b≤c:=bj (tD ..) h
theorem kB1 (h:a≤b) (k:b.ble c=N):a≤c:=bj h (dN k)
theorem kB2 (h:a<b) (k:b.ble c=N):a<c:=kB1 h k
theorem kB3 (h:a≤b) (k:(b+1).ble c=N):a<c:=kB1 (tx h) k
theorem kB4 (h:a<b) (k:b.ble c=N):a≤c:=kB1 (gw h) k
theorem kB5 (h:a=b) (k:b.ble c=N):a≤c:=kB1 (kY h) k
theorem kB6 (h:a=b) (k:(b+1).ble c=N):a<c:=kB3 (kY h) k
theorem kB7 (h:a≤b) (k:b.ble c=N):a - d≤c:=kA5 (kB1 h k)
theorem kB9 (h:a<b) (k:(b+1).ble c=N):a+1<c:=kB3 h k
theorem kI1 (h:a<b) (e:d=a+1) (k:(b+1).ble c=N):d<c:=e▸kB9 h k
theorem kI2 (h:a<b) (e:d=a) (k:b.ble c=N):d<c:=e▸kB2 h k
theorem kC1 (k:(a+1).ble c=N):a - b<c:=kB3 (tD ..) k
theorem kC2 (k:a.ble c=N):a - b≤c:=kB1 (tD ..) k
theorem kC3 (h:a<c):a - b<c:=j4 (tD ..) h
theorem kC4 (h:a≤m) (k:(m+1).ble c=N):a - b<c:=kC3 (kB3 h k)
theorem kC5 (h:a≤m) (k:(m+1).ble c=N):a - b - d<c:=kC3 (kC4 h k)
theorem kC7 (h:a≤m) (k:m.ble c=N):min d (a - b)≤c:=bj (E3 ..) (kB7 h k)
theorem kC8 (k:a.ble c=N):min a b≤c:=kB1 (E4 ..) k
theorem nk1 (h:a - b=c+1):a - (b+1)=c:=congrArg LK h
theorem nk2 (h:a - b=0) (k:b≤a):b=a:=vk k (UQ h)
theorem nk3 (h:a - b=c+1):b<a:=Nat.lt_of_sub_pos (h▸E6 c)
theorem nk4 (h:a≤m) (k:c<a):a - 1 - c<m:=fi (j4 (tD ..) (LJ (j4 (fj c) k) yo)) h
theorem kD2 (h:0<a):a - 1<a:=LJ h yo
theorem kE2 (h:a=b) (k:b≤m) (r:m.ble c=N):a≤c:=h▸kB1 k r
theorem kE3 (h:a<b) (k:b≤m) (r:m.ble c=N):a≤c:=kB4 (fi h k) r
theorem kE5 (h:a=b - d) (k:b≤m) (r:m.ble c=N):a≤c:=h▸kB7 k r
theorem kE7 (h:a<b) (r:(m * b).ble c=N):m * a+m≤c:=kB1 (te m h) r
theorem kE8 (h:a<b) (r:(m+b).ble c=N):m+a<c:=kB2 (yl h m) r
theorem kE9 (h:a<b) (r:(m+b).ble (c+1)=N):m+a≤c:=mY (kE8 h r)
theorem kF3 (h:a<b) (k:c=b+d):a<c:=k▸fi h (iY ..)
theorem kF4 (h:a<b) (l:c=m) (k:m=b+d):a<c:=l▸kF3 h k
theorem kF5 (h:a≤b) (k:¬a<b):a=b:=vk h (oQ k)
theorem kF6:a+1+b=a+(b+1):=yj ..
theorem kF7 (h:a+(b+1)≤c):a+1+b≤c:=bj (kY kF6) h
theorem kF8 (h:a+(b+1)≤c):a+1≤c:=bj (rH (rL ..) a) h
theorem kF9 (h:a+b≤c) (k:d<b):a+d<c:=fi (yl k a) h
theorem kG2 (k:a=c) (l:b=d) (h:c+d≤m) (r:m.ble n=N):a+b≤n:=k▸l▸kB1 h r
theorem kG3 (h:a+b≤m) (r:m.ble c=N):a≤c:=kB1 (bj (iY ..) h) r
theorem kG5 (h:c<a - (b+1)):c<a - 1 - b:=Lu a b 1▸h
theorem kH1 {i:Int} (h:a≤m) (k:decide ((m:Int)<i)=N):(a:Int)<i:=KJ (yb.mpr h) (of_decide_eq_true k)
theorem kH2 {i:Int} (h:a<m) (k:decide ((m:Int)≤i)=N):(a:Int)<i:=Ug (sW.mpr h) (of_decide_eq_true k)
theorem kH3 {i:Int} (e:a=b) (h:b≤m) (k:decide ((m:Int)<i)=N):(a:Int)<i:=e▸kH1 h k
theorem kH4 {i:Int} (e:a<b) (h:b≤m) (k:decide ((m:Int)<i)=N):(a:Int)<i:=kH1 (gw (fi e h)) k
theorem kH5 (h:a≤b):min (a:Int) (b:Int)=a:=Int.min_eq_left (yb.mpr h)
theorem kH8 (h:a<b):0<(b:Int) - (a:Int):=Int.sub_pos_of_lt (sW.mpr h)
theorem zH (ha:a≤k) (D:b≤k):a+(b - a)≤k:=(U2 a b).elim (λh=>(tj h).symm▸D) λh=>Ll h▸ha
theorem nA1 (e:a=b):(AE k+(a:Int)).toNat=b - (k+1):=e▸(congrArg KP Int.subNatNat_eq_coe).trans (KO ..)
theorem nA2 (h:k+1≤b) (e:a=b): -(a:Int)≤AE k:=Int.neg_le_neg (yb.mpr (e▸h))
theorem nA3 (h:i<n):n - i=n - (i+1)+1:=(UO (Ly h)).symm
theorem nA4 (h:a<m) (k:b<2):2 * a+b<2 * m:=fi (yl k _) (te 2 h)
theorem nA5 (h:z=y - i):z - 1=y - (i+1):=congrArg LK h
theorem nA6 (e:z=y - i) (k:i<x) (h:x≤y):0<z:=e▸Ly (fi k h)
theorem nA7 (e:x=a+(b - a)) (h:a≤k) (l:b≤k+1):x≤k+1:=e▸zH (qq h) l
theorem nA8 (e:x=a+d) (h:c≤a):c≤x:=e▸bj h (iY ..)
theorem nA9 (e:n - i=k+1) (h:i<n):n - 1 - k=i:=(E8 n 1 k).trans ((congrArg (n - ·) ((jI 1 k).trans e.symm)).trans (Lz (gw h)))
theorem nB1 (e:n - 1 - a=n - 1 - b) (h:a<n) (k:b<n):a=b:=(Lz (Ln h)).symm.trans ((congrArg (n - 1 - ·) e).trans (Lz (Ln k)))
theorem nB2 (h:2 * t≤c - k) (hk:k≤c) (m:g≤f) (l:f≤t):k+g≤c:=bj (rH (bj (bj m l) (bj (Nat.le_mul_of_pos_left t (by decide)) h)) k) (kY (tj hk))
theorem nB3 (e:n=c) (h:2 * t≤c) (l:f≤t):2 * f≤n:=e▸bj (te 2 l) h
theorem nB4 (e:d=a - 17) (h:a<17 * (n+1)) (l:¬a<17):d<17 * n:=e▸Nat.sub_lt_right_of_lt_add (oQ l) h
theorem nB5 (h:a+b≤m) (l:¬b<k):a+k+(b - k)≤m:=(lO a k (b - k)).trans (congrArg (a+·) (tj (oQ l)))▸h
theorem nB6 (e:d=a - k) (f:c=k) (h:a≤m) (r:k.ble m=N):c+d≤m:=f.symm▸e▸zH (dN r) h
theorem nB7 (h:d+g=m) (l:m≤k+f):(g - k) / 2≤f:=bj (Nat.div_le_self ..) (Lo (jI k f▸bj (h▸rL ..) l))
theorem nB8 (h:d+g=m):d+(m - d)=m:=tj (h▸iY ..)
theorem nB9 (h:m≤b) (e:k+n=m) (l:b≤c) (r:c.ble d=N):min k b+(n+(b - m))≤d:=bj (yk (E4 k b) _) (bj (kY ((lO ..).symm.trans (e.symm▸tj h))) (kB1 l r))
theorem nC1 (e:x=l - 1) (h:j<x):j+1<l:=Lp (e▸h)
theorem nC2 (h:i % 2=x) (r:1 - (x+1) % 2=y):1 - (i+1) % 2=y:=r▸h▸congrArg (1 - ·) (U3 i 1 2)
theorem nC3 (l:i<a) (h:a≤b):i - k<b:=j4 (tD ..) (fi l h)
theorem nC4 (h:j≠0) (l:¬j % 2=1):j=2 * (j / 2 - 1)+2:=let e:=Nat.mul_div_cancel' (Nat.dvd_of_mod_eq_zero ((EW j).resolve_right l));e.symm.trans (congrArg (2 * ·) (Nat.succ_pred_eq_of_ne_zero (n:=j / 2) λq=>h (e.symm.trans (congrArg (2 * ·) q))).symm)
theorem nC6 (f:l=x - k) (e:x=c) (h:c≤m) (r:m.ble d=N):l≤d:=f▸e▸kA5 (kB1 h r)
theorem nC7 (g:n≤l) (f:l=x - k) (e:x=c) (h:k≤c):k+n≤c:=bj (rH g k) (f▸e.symm▸kY (tj h))
theorem nC9:max 0 (min (k:Int) (n:Int))=min (k:Int) (n:Int):=Uh (Int.le_min.mpr ⟨KL k,KL n⟩)
theorem nD1 {b bh:Int} (h:(a:Int)+b<bh) (l:m<((a:Int)+b - a).toNat) (r:bh=(k:Int)):a+m<k:=sW.mp (Uk (Int.add_lt_add_left (EF.mp l) a) ((Int.add_comm ..).trans (Int.sub_add_cancel ..)▸r▸h))
theorem nD2 {bh:Int} (l:m<(bh - a).toNat) (r:bh=(k:Int)):a+m<k:=jI m a▸Lp (KO k a▸r▸l)
theorem nD3:i<8->((8:Nat):Int) - 1+(i:Int) * -1=((7 - i:Nat):Int):=by revert i;decide
theorem nD4 (h:e - (k+1)=m) (l:g≤m):m - g+g=e - 1 - k:=(Lv l).trans (h.symm.trans (Lu e k 1))
theorem nD5 (l:e - (k+1)=m) (h:k+g<e):g≤m:=l▸AR (a:=g) (b:=k+1) (Nat.succ_le_of_lt (jI k g▸h:g+k<e))
theorem nD6:k+(i+1) - k - 1=i:=congrArg LK (rF ..)
theorem nD8:d+(d+i - d)=d+i:=congrArg (d+·) (rF ..)
theorem nD9 (h:b≤a∧a≤m) (e:x=c) (r:(m+1).ble c=N):a - z<x:=e▸kC4 h.2 r
theorem nE1 (g:f≤n - 1) (h:n≤a+1) (k:e≤f) (l:a≤e):f=a:=vk (bj g (Nat.pred_le_pred h)) (bj l k)
theorem nE3 (h:y≤x):ai x - ai y=ai (x - y):=(Ui h).symm
theorem nE4 (h:0<n) (r:(1).ble m=N):0<min m n∧min m n≤m:=⟨Nat.lt_min.mpr ⟨dN r,h⟩,E4 ..⟩
theorem nE8 {x:Int} (h:x.natAbs<1073741824):x<2 ^ 64:=KJ Int.le_natAbs (sW.mpr (kB2 h Z))
theorem nE9 (h:m≤x) (l:k≤m):k+(m - k)≤x:=(tj l).symm▸h
theorem nF1:((k:Int)+1 * (n:Int)).toNat=k+n:=congrArg KP (congrArg ((k:Int)+·) (Int.one_mul n))
theorem nF2 (h:d<c):d+(a+c - d)=a+c:=tj (bj (gw h) (rL ..))
theorem nF3 (h:y≤m):ai x - ai y=ai (x+m - y) - ai m:=(Int.add_sub_cancel (x - y:Int) m).symm.trans (congrArg (· - ai m) ((Int.add_right_comm ..).trans (Ui (bj h (rL ..))).symm))
theorem nF4 (h:a+k≤l):min k (l - a)=k:=UZ (AR (jI a k▸h))
theorem nF5 (h:a=b) (l:j<b):¬a - 1=a:=fB (LJ (h▸Nat.zero_lt_of_lt l) Nat.one_pos)
theorem nF6 (m:j - a=0) (l:¬j<a) (h:a=i):j=i:=(vk (UQ m) (oQ l)).trans h
theorem nF7 (h:b+n≤m) (r:m.ble d=N):min i n≤d:=kB1 (bj (E3 ..) (bj (rL ..) h)) r
theorem nF8 (l:a+20 * k<9900) (h:4≤k) (e:x=9900):a+64<x:=e▸j4 (rH (bj (by decide) (te 20 h)) a) l
theorem nF9 (h:i<n) (e:x=y) (r:(m+n).ble y=N):m+i<x:=e▸kE8 h r
theorem nG1 (h:a<256) (l:¬a<128):a / 128=1:=Nat.div_eq_of_lt_le (oQ l) h
theorem nG3 (r:(1).ble m=N):a % m<m:=mZ _ (dN r)
theorem nG4 (g:z=y) (f:y=x) (e:x=c+d) (h:k<c) (l:n<d):k+n+1<z:=g▸f▸e▸fi (j4 (kY (lO k n 1)) (EY h _)) (rH l c)
theorem nG5 (h:a<m) (l:b<m) (r:(m+m).ble c=N):a+b<c:=fi (Nat.add_lt_add h l) (dN r)
theorem nG6 (h:a≤m):min a b≤m:=bj (E4 ..) h
theorem nG8 (g:x≤26 * i+2 * k+m) (j:m<2) (l:k<13) (h:i<6):x≤1000:=kB1 (bj g (E5 (E5 (te 26 (gw h)) (te 2 (gw l))) (gw j))) Z
theorem nG9 (e:d=n+1) (f:a=c) (h:n+1+c=m) (r:(k * m).ble b=N):k * d+k * a≤b:=e▸f▸yp k (n+1) c▸h▸dN r
theorem nH1 {p:Prop} (l:y≤x+2) (h:x≤a+2 * k∧p):y≤a+2 * (k+1):=bj l (yk h.1 2)
theorem nH2 (l:d=n+1) (h:n+1+g=m):d+g=m:=l▸h
theorem nH3 (h:l≤x+2 * n) (k:x≤y+2):l≤y+2 * (n+1):=bj h (bj (yk k _) (kY ((lO ..).trans (congrArg (y+·) (jI ..)))))
theorem nH5 (h:k+m≤i):¬(k≤i∧i - k<m):=λq=>gv _ (fi q.2 (AR (jI k m▸h)))
theorem nH6 (h:a+b≤m) (r:m.ble d=N):a+min i b≤d:=kB1 (bj (rH (E3 ..) a) h) r
theorem nH7 (e:x=n+g):n≤x:=e▸iY ..
theorem nH8 (h:a=m * b) (l:b+c=n) (r:(m * n).ble d=N):a≤d:=h▸bj (te m (l▸iY ..)) (dN r)
theorem pA1 (k:y≤x+1) (h:x≤a+m):y≤a+(m+1):=bj k (tx h)
theorem pA3 (h:a<2 * 128):a / 128=0∨a / 128=1:=Nat.le_one_iff_eq_zero_or_eq_one.mp (mY (UR h))
theorem pA5 {k:Int} (h: -2 ^ 62≤k) (l:k<2 ^ 62): -9223372036854775808≤k∧k<9223372036854775808:=⟨Ul (by decide) h,Uk l (by decide)⟩
theorem pA7 {p:Prop} (h:p∧x≤k+n):p∧x≤k+(n+1):=⟨h.1,qq h.2⟩
theorem pA8 (e:t=k) (l:¬b<k) (h:a+b≤m):a+t≤m:=e▸bj (rH (oQ l) a) h
theorem pA9 (h:a+d+g=t+1) (l:1≤g):a≤t:=Nat.le_of_succ_le_succ (h▸(E5 (iY a d) l:a+1≤a+d+g):a+1≤t+1)
theorem pA0 (h:e<t+1 - a):a+e≤t:=mY (jI e a▸Lp h)
theorem pB2 (h:0<n):n / 2<n:=LB h (by decide)
theorem pB3 (h:k<a) (l:b<m) (r:(m * a).ble c=N):m * k+b<c:=fi (yl l _) (kE7 h r)
theorem pB5 {k:Int} (h:0<k):k - 0=(k.toNat:Int):=(Int.sub_zero k).trans (Ue (Int.le_of_lt h)).symm
theorem pB6 {p:Prop} (l:f≤x+m) (h:x≤m * i∧p):f≤m * (i+1):=bj l (yk h.1 m)
theorem pB7 (e:x=c) (h:n+c=m) (r:m.ble d=N):x≤d:=e▸kB1 (h▸rL ..) r
theorem pB8 (e:x=n) (h:n+c=m) (r:m.ble d=N):x≤d:=e▸kB1 (h▸iY ..) r
theorem pB9 (e:x=n) (h:i+(k+1)=n):i<x:=e▸h▸UP (E6 k)
theorem pC1 {i:Int} (e:a<b) (h:b≤m) (k:decide (ai m<i)=N):ai a<i:=kH4 e h k
theorem pC2 {i:Int} (h:a≤m) (k:decide (ai m<i)=N):ai a<i:=kH1 h k
theorem pC3 (l:k≤m) (h:m≤n):min (k:Int) (n:Int)=k:=kH5 (bj l h)
theorem pC4 (h:j<l) (e:l=c - k) (f:x=c):j<x - k:=f.symm▸e▸h
theorem pC5 (e:y=i) (g:x=m) (h:z≤a) (l:i<b) (r:(a+b).ble m=N):z+y≤x:=g▸e▸kB1 (E5 h (gw l)) r
theorem pC8 (e:t=x / 2):2 * t≤x:=e▸Nat.mul_div_le x 2
theorem pC9 (h:k+n=m):max (k:Int) (m:Int)=m:=Uh (yb.mpr (h▸iY ..))
theorem pD1 (h:x=i∧i≤c) (l:c≤m) (r:m.ble d=N):x≤d:=h.1▸kB1 (bj h.2 l) r
theorem pD2 (h:x=i∧i≤c) (j:c≤e) (l:e≤m) (r:m.ble d=N):x≤d:=h.1▸kB1 (bj h.2 (bj j l)) r
theorem pD5 (e:x=i+1) (l:i<b) (h:b≤m) (r:(1+m).ble d=N):1+x≤d:=e▸kB1 (rH (bj l h) 1) r
theorem pD7 (e:x=a) (h:a+b≤m):x+b≤m:=e▸h
theorem pD8 (h:i+g≤l) (k:n+1≤i):n+g<l:=fi (EY k g) h
theorem pD9 (h:b<i+1) (l:i<k) (m:k≤n):b<n:=fi (j4 (mY h) l) m
theorem pE1 (h:a+m<c) (r:k.ble m=N):a+k<c:=j4 (rH (dN r) a) h
theorem pE3 (h:(a:Int)<b):a<b:=sW.mp h
theorem pE6 (h:j<e) (l:a+e≤t) (k:t≤n):a+j<n:=fi (yl h a) (bj l k)
theorem pE7 (h:a≤b) (l:b≤m) (r:m.ble d=N):a≤d:=kB1 (bj h l) r
theorem pE8 (e:x=a+1) (h:a≤b) (l:b≤m) (r:(m+1).ble d=N):x≤d:=e▸kB1 (tx (bj h l)) r
theorem pF1 (e:x=j) (l:j<n) (h:n≤m) (g:t=d) (r:m.ble d=N):x≤t:=g▸e▸kB4 (fi l h) r
theorem pF6 (e:x=m * b) (h:i<b):m * i+m≤x:=e▸te m h
theorem pF7 (h:i<b) (e:x=c) (r:(m * b).ble c=N):m * i+m≤x:=e▸kE7 h r
end
local macro_rules | `(tactic| infer_instance)=>do
 let a←`(by assumption)
 let r←`(by with_unfolding_all rfl)
 let t←("List.mem_cons_self,kA1 a,List.mem_cons_of_mem i,List.mem_append_right i,List.mem_append_left i,Or.inl a,Or.inr i,Ne.symm a,Eq.symm a,Nat.le_of_lt a,Nat.succ_le_of_lt a,Nat.lt_of_succ_le a,Nat.le_succ_of_le a,Nat.lt_succ_of_le a,Nat.lt_succ_of_lt a,Nat.succ_le_succ a,Nat.succ_lt_succ a,Nat.lt_succ_self,Nat.le_succ,Nat.le_add_right,Nat.le_add_left,Nat.sub_le,Nat.zero_le,Nat.succ_pos,Nat.lt_of_lt_of_le aa,Nat.lt_of_le_of_lt aa,Nat.lt_of_lt_of_eq aa,kA4 aa,Nat.le_trans aa,kA5 a,kB1 ar,kB2 ar,kB3 ar,kB4 ar,kB5 ar,kB6 ar,kB7 ar,kB9 ar,kI1 arr,kI2 arr,Nat.le_of_ble_eq_true r,kC1 r,kC2 r,kC3 a,kC4 ar,kC5 ar,kC7 ar,kC8 r,nk1 a,nk2 aa,nk3 a,nk4 aa,Nat.sub_add_cancel a,Nat.add_sub_cancel_left,Nat.add_sub_of_le a,kD2 a,Nat.le_sub_one_of_lt a,kE2 aar,kE3 aar,kE5 aar,Nat.lt_of_succ_lt_succ a,Nat.le_of_succ_le_succ a,kE7 ar,kE8 ar,kE9 ar,kF3 aa,kF4 aaa,kF5 aa,kF6,kF7 a,kF8 a,kF9 aa,kG2 aaar,kG3 ar,kG5 a,kH1 ar,kH2 ar,kH3 aar,kH4 aar,kH5 a,kH8 a,nA1 a,nA2 aa,nA3 a,nA5 a,nA6 aaa,nA7 aaa,nA8 aa,nA9 aa,nB1 aaa,nB2 aaaa,nB3 aaa,nB4 aaa,nB5 aa,nB6 aaar,nB7 aa,nB8 a,nB9 aaar,nC1 aa,nC2 ar,nC3 aa,nC4 aa,nC6 aaar,nC7 aaaa,nC9,nD1 aar,nD2 ar,nD3 a,nD4 aa,nD5 aa,nD6,nD8,nD9 aar,nE1 aaaa,nE3 a,nE4 ar,nE8 a,nE9 aa,nF1,nF2 a,nF3 a,nF4 a,nF5 aa,nF6 aaa,nF7 ar,nF8 aaa,nF9 aar,nG1 aa,nG3 r,nG4 aaaaa,nG5 aar,nG6 a,nG8 aaaa,nG9 aaar,nH1 aa,nH2 aa,nH3 aa,nH5 a,nH6 ar,nH7 a,nH8 aar,pA1 aa,pA3 a,pA5 aa,pA7 a,pA8 aaa,pA9 aa,pA0 a,pB2 a,pB3 aar,pB5 a,pB6 aa,pB7 aar,pB8 aar,pB9 aa,pC1 aar,pC2 ar,pC3 aa,pC4 aaa,pC5 aaaar,pC8 a,pC9 a,pD1 aar,pD2 aaar,pD5 aaar,pD7 aa,pD8 aa,pD9 aaa,pE1 ar,pE3 a,pE6 aaa,pE7 aar,pE8 aaar,pF1 aaaar,pF6 aa,pF7 aar,Nat.le_refl".splitOn ",").toArray.mapM λx=>do
  let p:=x.splitOn " "
  let e:=Lean.mkIdent p.head!.toName
  if p.getLast! = "i" then `(Lean.Parser.Tactic.tacticSeq| apply $e;infer_instance)
  else `(Lean.Parser.Tactic.tacticSeq| exact $(Lean.Syntax.mkApp e ((p.drop 1).head?.getD "" |>.toList.toArray.map λc=>if c= 'a' then a else r)) ..)
 `(tactic| with_reducible first | assumption $[| $t]*)
local macro_rules | `(tactic| lia)=>`(tactic| first | infer_instance | fail)
local macro_rules | `(tactic| ext)=>`(tactic| first | infer_instance | contradiction | kernel_rfl)
local macro_rules | `(tactic| show $t:term)=>`(tactic| refine $t)
abbrev LN:=List Nat
abbrev dh(A:Around):Prop:=A.handled=ah
abbrev uk(h ajN:Heap):Prop:=∀b o,h.get? b=O o->ajN.get? b=O o
theorem au{p:Prop}(h:p:=by lia):p:=h
theorem bw{p:Prop}(h:p:=by ext):p:=h
theorem bG{p:Prop}(h:p:=by kernel_rfl):p:=h
theorem jx{p:Prop}(h:p:=by simp;lia):p:=h
theorem fF{p:Prop}(h:p:=by simp):p:=h
theorem aL{p:Prop}[i:Decidable p](h:decide p=N:=by show rfl):p:=of_decide_eq_true h
theorem bD{a b:Nat}(h:Nat.ble a b=N:=by show rfl):a<=b:=Oj h
theorem alN{α:Sort _}{a:α}{q:Prop}:a=a\/q:=.inl rfl
noncomputable abbrev FY:PySem.W.OpenLaw:=Wc
theorem wsA:PySem.W.namesResolve FY.row.prog=N:=by ext
theorem wsB:PySem.W.noRoadLSs {strict:= !(importedModules FY.row.prog.main.body).all PySem.W.cThrough.contains,foot:=ah,bare:=(["vars", "dir", "locals"]:List aV).filter (PySem.W.readsOut FY.row.prog FY.row.prog.main.body)} FY.row.prog.main.body=N:=by ext
theorem wsC:PySem.W.namesMeet FY.row.prog FY.row.prog.main.body (λ_ n=>PySem.W.attrL n)=N:=by ext
theorem wsD:Vi FY.row.prog=N:=by
 delta Vi
 rw[wsA,wsB,wsC];ext
theorem wsE:FY.row.partSaid=N:=by
 delta abT
 rw[wsD];ext
theorem t1:FY.wellSaid=N:=by
 delta abV abU
 rw[wsE];ext
section
section
variable{gb aO W X gi iO A B aS aY:Sort _}{G:Prop}
theorem fc{P Q:Prop}(h:P/\Q)(k:P->Q->G):G:=k h.1 h.2
theorem dF{P:gb->Prop}(h:∃x,P x)(k:∀x,P x->G):G:=h.elim λx i=>k x i
theorem hJ{P Q aN:Prop}(h:P/\Q/\aN)(k:P->Q->aN->G):G:=fc h.2 (k h.1)
theorem MB{P:Prop}{Q:gb->Prop}(h:P/\∃x,Q x)(k:P->∀x,Q x->G):G:=dF h.2 (k h.1)
theorem bf{P Q:gb->Prop}(h:∃x,P x/\Q x)(k:∀x,P x->Q x->G):G:=h.elim λx i=>fc i (k x)
theorem jg{P:gb->aO->Prop}(h:∃x y,P x y)(k:∀x y,P x y->G):G:=h.elim λx i=>dF i (k x)
theorem iL{P Q aN S:Prop}(h:P/\Q/\aN/\S)(k:P->Q->aN->S->G):G:=hJ h.2 (k h.1)
theorem iM{P:Prop}{Q aN:gb->Prop}(h:P/\∃x,Q x/\aN x)(k:P->∀x,Q x->aN x->G):G:=bf h.2 (k h.1)
theorem gC{P Q aN:gb->Prop}(h:∃x,P x/\Q x/\aN x)(k:∀x,P x->Q x->aN x->G):G:=h.elim λx i=>hJ i (k x)
theorem eT{P Q:gb->aO->Prop}(h:∃x y,P x y/\Q x y)(k:∀x y,P x y->Q x y->G):G:=h.elim λx i=>bf i (k x)
theorem jc{P Q aN S T:Prop}(h:P/\Q/\aN/\S/\T)(k:P->Q->aN->S->T->G):G:=iL h.2 (k h.1)
theorem oX{P Q:Prop}{aN S:gb->Prop}(h:P/\Q/\∃x,aN x/\S x)(k:P->Q->∀x,aN x->S x->G):G:=iM h.2 (k h.1)
theorem oY{P:Prop}{Q aN S:gb->Prop}(h:P/\∃x,Q x/\aN x/\S x)(k:P->∀x,Q x->aN x->S x->G):G:=gC h.2 (k h.1)
theorem FZ{P:Prop}{Q aN:gb->aO->Prop}(h:P/\∃x y,Q x y/\aN x y)(k:P->∀x y,Q x y->aN x y->G):G:=eT h.2 (k h.1)
theorem lZ{P Q aN S:gb->Prop}(h:∃x,P x/\Q x/\aN x/\S x)(k:∀x,P x->Q x->aN x->S x->G):G:=h.elim λx i=>iL i (k x)
theorem Q4{P Q:gb->Prop}{aN:gb->aO->Prop}(h:∃x,P x/\Q x/\∃y,aN x y)(k:∀x,P x->Q x->∀y,aN x y->G):G:=h.elim λx i=>MB i.2 (k x i.1)
theorem jy{P Q aN:gb->aO->Prop}(h:∃x y,P x y/\Q x y/\aN x y)(k:∀x y,P x y->Q x y->aN x y->G):G:=h.elim λx i=>gC i (k x)
theorem ff{P Q:gb->aO->W->Prop}(h:∃x y z,P x y z/\Q x y z)(k:∀x y z,P x y z->Q x y z->G):G:=h.elim λx i=>eT i (k x)
theorem yE{P Q:Prop}{aN S:gb->aO->Prop}(h:P/\Q/\∃x y,aN x y/\S x y)(k:P->Q->∀x y,aN x y->S x y->G):G:=FZ h.2 (k h.1)
theorem tN{P Q aN:gb->aO->W->Prop}(h:∃x y z,P x y z/\Q x y z/\aN x y z)(k:∀x y z,P x y z->Q x y z->aN x y z->G):G:=h.elim λx i=>jy i (k x)
theorem Ga{P:Prop}{Q aN S T:gb->aO->Prop}(h:P/\∃x y,Q x y/\aN x y/\S x y/\T x y)(k:P->∀x y,Q x y->aN x y->S x y->T x y->G):G:=h.2.elim λx i=>lZ i (k h.1 x)
theorem l0{P Q aN S T:gb->aO->Prop}(h:∃x y,P x y/\Q x y/\aN x y/\S x y/\T x y)(k:∀x y,P x y->Q x y->aN x y->S x y->T x y->G):G:=h.elim λx i=>i.elim λy j=>jc j (k x y)
theorem gH{P Q aN S:gb->aO->W->Prop}(h:∃x y z,P x y z/\Q x y z/\aN x y z/\S x y z)(k:∀x y z,P x y z->Q x y z->aN x y z->S x y z->G):G:=h.elim λx i=>i.elim λy j=>lZ j (k x y)
theorem Bh{P Q aN:gb->aO->W->X->Prop}(h:∃x y z u,P x y z u/\Q x y z u/\aN x y z u)(k:∀x y z u,P x y z u->Q x y z u->aN x y z u->G):G:=h.elim λx i=>tN i (k x)
theorem dU{P Q aN S T cA I iS:Prop}(h:P/\Q/\aN/\S/\T/\cA/\I/\iS)(k:P->Q->aN->S->T->cA->I->iS->G):G:=jc h.2.2.2 (k h.1 h.2.1 h.2.2.1)
theorem Cv{P Q aN S T cA:gb->aO->Prop}(h:∃x y,P x y/\Q x y/\aN x y/\S x y/\T x y/\cA x y)(k:∀x y,P x y->Q x y->aN x y->S x y->T x y->cA x y->G):G:=h.elim λx i=>i.elim λy j=>jc j.2 (k x y j.1)
theorem uB{P Q aN S T:gb->aO->W->Prop}(h:∃x y z,P x y z/\Q x y z/\aN x y z/\S x y z/\T x y z)(k:∀x y z,P x y z->Q x y z->aN x y z->S x y z->T x y z->G):G:=h.elim λx i=>l0 i (k x)
theorem gr{P Q aN S:gb->aO->W->X->Prop}(h:∃x y z u,P x y z u/\Q x y z u/\aN x y z u/\S x y z u)(k:∀x y z u,P x y z u->Q x y z u->aN x y z u->S x y z u->G):G:=h.elim λx i=>gH i (k x)
theorem vD{P Q aN S T cA I:gb->aO->Prop}(h:∃x y,P x y/\Q x y/\aN x y/\S x y/\T x y/\cA x y/\I x y)(k:∀x y,P x y->Q x y->aN x y->S x y->T x y->cA x y->I x y->G):G:=h.elim λx i=>i.elim λy j=>jc j.2.2 (k x y j.1 j.2.1)
theorem sd{P Q aN S T cA:gb->aO->W->Prop}(h:∃x y z,P x y z/\Q x y z/\aN x y z/\S x y z/\T x y z/\cA x y z)(k:∀x y z,P x y z->Q x y z->aN x y z->S x y z->T x y z->cA x y z->G):G:=h.elim λx i=>Cv i (k x)
theorem fP{P Q aN S T:gb->aO->W->X->Prop}(h:∃x y z u,P x y z u/\Q x y z u/\aN x y z u/\S x y z u/\T x y z u)(k:∀x y z u,P x y z u->Q x y z u->aN x y z u->S x y z u->T x y z u->G):G:=h.elim λx i=>uB i (k x)
theorem Gb{P:gb->aO->W->X->gi->iO->A->B->Prop}(h:∃x y z u v w a b,P x y z u v w a b)(k:∀x y z u v w a b,P x y z u v w a b->G):G:=h.elim λx i=>i.elim λy j=>j.elim λz l=>l.elim λu m=>m.elim λv n=>n.elim λw o=>jg o (k x y z u v w)
theorem wB{P Q aN S T:gb->aO->W->X->gi->Prop}(h:∃x y z u v,P x y z u v/\Q x y z u v/\aN x y z u v/\S x y z u v/\T x y z u v)(k:∀x y z u v,P x y z u v->Q x y z u v->aN x y z u v->S x y z u v->T x y z u v->G):G:=h.elim λx i=>fP i (k x)
theorem kq{P Q aN S T cA I iS bh:gb->aO->W->X->gi->iO->Prop}(h:∃x y z u v w,P x y z u v w/\Q x y z u v w/\aN x y z u v w/\S x y z u v w/\T x y z u v w/\cA x y z u v w/\I x y z u v w/\iS x y z u v w/\bh x y z u v w)(k:∀x y z u v w,P x y z u v w->Q x y z u v w->aN x y z u v w->S x y z u v w->T x y z u v w->cA x y z u v w->I x y z u v w->iS x y z u v w->bh x y z u v w->G):G:=h.elim λx i=>i.elim λy j=>j.elim λz l=>l.elim λu m=>m.elim λv n=>n.elim λw o=>dU o.2 (k x y z u v w o.1)
end
section
variable{gb aO W X gi iO:Sort _}
theorem gI{P Q aN:Prop}(a:P)(b:Q)(c:aN):P/\Q/\aN:=⟨a,b,c⟩
theorem rT{P Q aN S:Prop}(a:P)(b:Q)(c:aN)(d:S):P/\Q/\aN/\S:=⟨a,b,c,d⟩
theorem Yv{P Q aN S T:Prop}(a:P)(b:Q)(c:aN)(d:S)(e:T):P/\Q/\aN/\S/\T:=⟨a,b,c,d,e⟩
theorem DV{P:gb->Prop}(x:gb)(a:P x):∃x,P x:=⟨x,a⟩
theorem cn{P Q:gb->Prop}(x:gb)(a:P x)(b:Q x):∃x,P x/\Q x:=⟨x,a,b⟩
theorem kJ{P Q aN:gb->Prop}(x:gb)(a:P x)(b:Q x)(c:aN x):∃x,P x/\Q x/\aN x:=⟨x,a,b,c⟩
theorem wC{P Q aN S:gb->Prop}(x:gb)(a:P x)(b:Q x)(c:aN x)(d:S x):∃x,P x/\Q x/\aN x/\S x:=⟨x,a,b,c,d⟩
theorem qG{P:gb->aO->Prop}(x:gb)(y:aO)(a:P x y):∃x y,P x y:=⟨x,y,a⟩
theorem kK{P Q:gb->aO->Prop}(x:gb)(y:aO)(a:P x y)(b:Q x y):∃x y,P x y/\Q x y:=⟨x,y,a,b⟩
theorem Oz{P Q aN:gb->aO->Prop}(x:gb)(y:aO)(a:P x y)(b:Q x y)(c:aN x y):∃x y,P x y/\Q x y/\aN x y:=⟨x,y,a,b,c⟩
theorem MC{P Q aN S:gb->aO->Prop}(x:gb)(y:aO)(a:P x y)(b:Q x y)(c:aN x y)(d:S x y):∃x y,P x y/\Q x y/\aN x y/\S x y:=⟨x,y,a,b,c,d⟩
theorem ε{P Q aN S T:gb->aO->Prop}(x:gb)(y:aO)(a:P x y)(b:Q x y)(c:aN x y)(d:S x y)(e:T x y):∃x y,P x y/\Q x y/\aN x y/\S x y/\T x y:=⟨x,y,a,b,c,d,e⟩
theorem aha{P Q aN S T cA:gb->aO->Prop}(x:gb)(y:aO)(a:P x y)(b:Q x y)(c:aN x y)(d:S x y)(e:T x y)(f:cA x y):∃x y,P x y/\Q x y/\aN x y/\S x y/\T x y/\cA x y:=⟨x,y,a,b,c,d,e,f⟩
theorem Bj{P Q:gb->aO->W->Prop}(x:gb)(y:aO)(z:W)(a:P x y z)(b:Q x y z):∃x y z,P x y z/\Q x y z:=⟨x,y,z,a,b⟩
theorem DW{P Q aN S:gb->aO->W->Prop}(x:gb)(y:aO)(z:W)(a:P x y z)(b:Q x y z)(c:aN x y z)(d:S x y z):∃x y z,P x y z/\Q x y z/\aN x y z/\S x y z:=⟨x,y,z,a,b,c,d⟩
theorem ahb{P Q aN S T cA:gb->aO->W->Prop}(x:gb)(y:aO)(z:W)(a:P x y z)(b:Q x y z)(c:aN x y z)(d:S x y z)(e:T x y z)(f:cA x y z):∃x y z,P x y z/\Q x y z/\aN x y z/\S x y z/\T x y z/\cA x y z:=⟨x,y,z,a,b,c,d,e,f⟩
theorem ae9{P Q:gb->aO->W->X->Prop}(x:gb)(y:aO)(z:W)(u:X)(a:P x y z u)(b:Q x y z u):∃x y z u,P x y z u/\Q x y z u:=⟨x,y,z,u,a,b⟩
theorem afa{P Q aN:gb->aO->W->X->Prop}(x:gb)(y:aO)(z:W)(u:X)(a:P x y z u)(b:Q x y z u)(c:aN x y z u):∃x y z u,P x y z u/\Q x y z u/\aN x y z u:=⟨x,y,z,u,a,b,c⟩
theorem DX{P Q aN S:gb->aO->W->X->Prop}(x:gb)(y:aO)(z:W)(u:X)(a:P x y z u)(b:Q x y z u)(c:aN x y z u)(d:S x y z u):∃x y z u,P x y z u/\Q x y z u/\aN x y z u/\S x y z u:=⟨x,y,z,u,a,b,c,d⟩
theorem η{P Q aN S T:gb->aO->W->X->Prop}(x:gb)(y:aO)(z:W)(u:X)(a:P x y z u)(b:Q x y z u)(c:aN x y z u)(d:S x y z u)(e:T x y z u):∃x y z u,P x y z u/\Q x y z u/\aN x y z u/\S x y z u/\T x y z u:=⟨x,y,z,u,a,b,c,d,e⟩
theorem afb{P Q aN S T cA:gb->aO->W->X->Prop}(x:gb)(y:aO)(z:W)(u:X)(a:P x y z u)(b:Q x y z u)(c:aN x y z u)(d:S x y z u)(e:T x y z u)(f:cA x y z u):∃x y z u,P x y z u/\Q x y z u/\aN x y z u/\S x y z u/\T x y z u/\cA x y z u:=⟨x,y,z,u,a,b,c,d,e,f⟩
theorem ahc{P Q aN S T:gb->aO->W->X->gi->Prop}(x:gb)(y:aO)(z:W)(u:X)(v:gi)(a:P x y z u v)(b:Q x y z u v)(c:aN x y z u v)(d:S x y z u v)(e:T x y z u v):∃x y z u v,P x y z u v/\Q x y z u v/\aN x y z u v/\S x y z u v/\T x y z u v:=⟨x,y,z,u,v,a,b,c,d,e⟩
end
theorem MD{l:List α}(h:l.length=n+1):∃a t,l=a::t/\t.length=n:=by
 cases l with
 |nil=>show nnZ h
 |cons a t=>show kK a t Z (Wx h)
theorem ajO{P:List α->Prop}{l:List α}(h:l.length=1)(k:∀a,P [a]):P l:=eT (MD h) λa _ e h=>e▸Uo h▸k a
theorem ahd{P:List α->Prop}{l:List α}(h:l.length=2)(k:∀a b,P [a,b]):P l:=eT (MD h) λa _ e h=>e▸ajO (P:=λt=>P (a::t)) h (k a)
theorem abX{P:List α->Prop}{l:List α}(h:l.length=3)(k:∀a b c,P [a,b,c]):P l:=eT (MD h) λa _ e h=>e▸ahd (P:=λt=>P (a::t)) h (k a)
theorem ajP{P:List α->Prop}{l:List α}(h:l.length=8)(k:∀a b c d e f g i,P [a,b,c,d,e,f,g,i]):P l:=
 eT (MD h) λa _ e1 h=>eT (MD h) λb _ e2 h=>eT (MD h) λc _ e3 h=>eT (MD h) λd _ e4 h=>eT (MD h) λe _ e5 h=>
 e1▸e2▸e3▸e4▸e5▸abX (P:=λt=>P (a::b::c::d::e::t)) h (k a b c d e)
theorem nj0(h:j<n):n - j=n - j - 1+1:=(UO (Ly h)).symm
theorem nj3{m:Nat}(h:n - j=m+1):n=j+(m+1):=by
 rcases U2 j n with q|q
 .rw [<-h,Nat.add_sub_cancel' q]
 .rw [Ll q]at h;show nnZ h
theorem nj1{m:Nat}(h:n - j=m+1):n - 1 - m=j:=by rw[nj3 h,E8,jI 1 m,th]
theorem nj2{m:Nat}(h:n - j=m+1):n - (j+1)=m:=by rw[Nat.sub_succ,h];rfl
theorem nj6(h:j<n):n - j=n - 1 - j+1:=by rw[Lu];show nj0 h
theorem zI{y a:α}{l:List α}{P:α->Prop}(h:y∈a::l)(p:P a)(q:y∈l->P y):P y:=(bq.mp h).elim (λe=>e▸p) q
theorem jR{y a:α}{P:α->Prop}(h:y∈[a])(p:P a):P y:=zI h p λx=>kM x
theorem se{y a b:α}{P:α->Prop}(h:y∈[a,b])(p:P a)(q:P b):P y:=zI h p λh=>jR h q
theorem Dn{y a b c:α}{P:α->Prop}(h:y∈[a,b,c])(p:P a)(q:P b)(r:P c):P y:=zI h p λh=>se h q r
theorem tO{y a b c d:α}{P:α->Prop}(h:y∈[a,b,c,d])(p:P a)(q:P b)(r:P c)(t:P d):P y:=zI h p λh=>Dn h q r t
theorem WE{y a b c d e:α}{P:α->Prop}(h:y∈[a,b,c,d,e])(p:P a)(q:P b)(r:P c)(t:P d)(u:P e):P y:=zI h p λh=>tO h q r t u
theorem ahe{y a b c d e f:α}{P:α->Prop}(h:y∈[a,b,c,d,e,f])(p:P a)(q:P b)(r:P c)(t:P d)(u:P e)(v:P f):P y:=zI h p λh=>WE h q r t u v
theorem ME{x:af}(h1:x≠a)(h2:x≠b):x∉[a,b]:=hb h1 (sR h2)
theorem afc{x c:af}(h1:x≠a)(h2:x≠b)(h3:x≠c):x∉[a,b,c]:=hb h1 (ME h2 h3)
theorem ahf{x c:af}(h1:x≠a)(h2:x≠b)(h3:x≠c)(h4:x≠d):x∉[a,b,c,d]:=hb h1 (afc h2 h3 h4)
theorem ahg{x c e:af}(h1:x≠a)(h2:x≠b)(h3:x≠c)(h4:x≠d)(h5:x≠e):x∉[a,b,c,d,e]:=hb h1 (ahf h2 h3 h4 h5)
theorem vE{x:af}{l:List af}(h:x∉a::l):x≠a:=λq=>h (q▸cR ..)
theorem MF{x:af}{l:List af}(h:x∉a::l):x∉l:=λq=>h (bV _ q)
theorem ahh{x:af}{P:Prop}(h:x∉[a])(k:x≠a->P):P:=k (vE h)
theorem Dp{x:af}{P:Prop}(h:x∉[a,b])(k:x≠a->x≠b->P):P:=ahh (MF h) (k (vE h))
theorem Gd{x c:af}{P:Prop}(h:x∉[a,b,c])(k:x≠a->x≠b->x≠c->P):P:=Dp (MF h) (k (vE h))
theorem og{g:Prop}(h:∀G:Prop,(g->G)->G):g:=h g id
noncomputable def bX:List af:=[1923,1934,1979,2007]
noncomputable def Q5:Nat:=2016
noncomputable def tabObj(ps:Array aa):bE:={cls:=aA,data:=bF ps}
structure gU(H:List af)(h h':aQ):Prop where
 keep:∀b o,b∉bX->h.get? b=O o->h'.get? b=O o
 tab:∀b,b∈bX->∀ps,h.get? b=O (tabObj ps)->∃more,h'.get? b=O (tabObj (ps++more))
 there:∀b o,h.get? b=O o->∃o',h'.get? b=O o'
 quiet:∀b o,b∈bX->b∉H->h.get? b=O o->h'.get? b=O o
theorem gU.refl(h:aQ):gU H h h:=⟨λ_ _ _ e=>e,λ_ _ ps e=>⟨#[],e⟩,λ_ o e=>⟨o,e⟩,λ_ _ _ _ e=>e⟩
theorem gU.trans{a b c:aQ}(x:gU H a b)(y:gU H b c):gU H a c where
 keep:=λd o hd e=>y.keep d o hd (x.keep d o hd e)
 tab:=λd hd ps e=>dF (x.tab d hd ps e) λm1 e1=>dF (y.tab d hd _ e1) λm2 e2=>⟨m1++m2,by rw[e2,Vo]⟩
 there:=λd o e=>dF (x.there d o e) λo1 e1=>(y.there d o1 e1)
 quiet:=λd o hd ht e=>y.quiet d o hd ht (x.quiet d o hd ht e)
theorem gU.of_keep(k:uk h h'):gU H h h':=
 ⟨λb o _ e=>k b o e,λb _ ps e=>⟨#[],k b _ e⟩,λb o e=>⟨o,k b o e⟩,λb o _ _ e=>k b o e⟩
theorem gU.push(h:aQ)(o:bE):gU H h (h.push o):=.of_keep (λ_ _ e=>aZ o e)
theorem gU.new(x:gU H h h')(e:h'.get? b=ah):h.get? b=ah:=by
 cases q:h.get? b with
 |none=>rfl
 |some o=>obtain⟨o',e'⟩:=x.there b o q;have e':=e▸e';ext
theorem bz(h:aQ):h.get? h.objs.size=ah:=by
 cases q:h.get? h.objs.size with
 |none=>rfl
 |some o=>show((gv _) (cj q)).elim
theorem fm(h:Q5<=b):b∉bX:=λD=>absurd ((by decide:∀x∈bX,x<Q5) b D) (j5.mpr h)
def nY(a b:Array eV):Prop:=(∀(i:Nat) (x:eV),a[i]? =O x->b[i]? =O x)/\((∀x∈a,x.bare=N)->∀x∈b,x.bare=N)
theorem nY.refl(a:Array eV):nY a a:=⟨λ_ _ e=>e,λh=>h⟩
theorem nY.trans{a b c:Array eV}(y:nY b c)(x:nY a b):nY a c:=⟨λi z e=>y.1 i z (x.1 i z e),λh=>y.2 (x.2 h)⟩
theorem nY.of{a b:Array eV}(e:b=a):nY a b:=e▸ .refl a
structure dG(H:List af)(s Y:ae):Prop where
 ext:gU H s.heap Y.heap
 os:Y.os=s.os
 drawn:Y.drawn=s.drawn
 gens:Y.gens=s.gens
theorem dG.refl(s:ae):dG H s s:=⟨.refl _,rfl,rfl,rfl⟩
theorem dG.trans{a b c:ae}(x:dG H a b)(y:dG H b c):dG H a c:=⟨x.ext.trans y.ext,y.os.trans x.os,y.drawn.trans x.drawn,y.gens.trans x.gens⟩
theorem dG.toks(s:ae)(t:Nat):dG H s {s with toks:=t}:=⟨.refl _,rfl,rfl,rfl⟩
inductive AV where
 |none
 |bool(b:Bool)
 |int(i:Int)
 |list(K:List AV)
 |tuple(K:List AV)
 |clo(f:Nat)(ns:LN)(K:List AV)
 |ptr(v:aa)
 |on(u:aa)(x:AV)
open AV renaming ptr->aH,int->a6,list->bS,bool->eY,tuple->fG,none->oZ,clo->tP,on->Bk
theorem Bl{P:AV->Prop}{Q:List AV->Prop}(h1:P oZ)(h2:∀b,P (eY b))(h3:∀i,P (a6 i))(h4:∀u,P (aH u))(h5:∀u x,P x->P (Bk u x))(h6:∀K,Q K->P (bS K))(h7:∀K,Q K->P (fG K))(h8:∀f ns K,Q K->P (tP f ns K))(h9:Q [])(h10:∀x K,P x->Q K->Q (x::K)):(∀a,P a)/\∀l,Q l:=
 ⟨AV.rec (motive_1:=P) (motive_2:=Q) h1 h2 h3 h6 h7 h8 h4 h5 h9 h10,AV.rec_1 (motive_1:=P) (motive_2:=Q) h1 h2 h3 h6 h7 h8 h4 h5 h9 h10⟩
noncomputable def Z9:List String:=["script", "numbers", "level", "checks", "place", "data", "bits", "word", "message", "matrix", "picture", "spots", "right", "step", "i", "j",
 "sent", "words", "start", "bit", "top", "left", "wide", "high", "known", "free", "turn", "number", "amount", "back", "seen", "row",
 "power", "times", "rests", "root", "whole", "line", "now", "old", "size", "gap", "fault", "off", "factor", "grown", "found", "part", "places", "product", "amounts", "mended", "other", "logs", "powers", "a", "b", "before", "after", "here",
 "width", "height", "is_square", "corners", "finder_range", "offset", "sepoffset", "r", "is_micro", "stop", "col", "codewords", "version", "matrix_size", "inc", "idx", "codeword_length", "range_two", "vertical", "z", "upwards",
 "error", "buff", "to_binary", "ec_infos", "data_blocks", "error_blocks", "cw_four", "res", "remainder", "val", "length", "k", "block", "append_data_block", "append_error_block", "gen_log", "gen_exp", "ec_info", "num_error_words",
 "gen", "range_error_words", "len_data", "error_block", "coef", "lcoef", "n", "reserve_regions", "add_timing", "row_eight", "self", "iterable", "item", "obj", "objtype", ".0", "_cls", "num_blocks", "num_total", "num_data"]
def NM(i:Nat):aV:=match Z9[i]? with
 |some s=>aB s
 |none=>⟨#[2000000+i]⟩
abbrev Hx(L:dw)(x:Nat):Prop:=L.names.lookup (NM x)=O cU\/L.names.lookup (NM x)=O dz
def Tp(h:aQ):Prop:=∃o,h.get? Q5=O o
def Gi(L:dw)(x:String):Prop:=L.names.lookup (aB x)=O kZ
def Fs(e:aG)(J:cI):Prop:=∀x,Eg e J x=pure x
structure abY where
 name:aV
 qual:aV
 params:KD
 body:List cg
 scope:dw
noncomputable def dP(i:Nat):cg:=match Mm.main.body[i]? with|some s=>s|none=>Stmt.Pass ⟨0,0,0,0⟩
noncomputable def bg:cg->List cg
 |AY _ _ b _ _ _ _ _ _ _=>b
 |_=>[]
noncomputable def bc:cg->dw
 |AY _ _ _ _ _ _ s _ _ _=>s
 |_=>{kind:=dZ,names:=[],isGenerator:=ab,isCoroutine:=ab,more:=[]}
noncomputable def fu:cg->KD
 |AY _ p _ _ _ _ _ _ _ _=>p
 |_=>{posonlyargs:=[],args:=[],vararg:=ah,kwonlyargs:=[],kw_defaults:=[],kwarg:=ah,defaults:=[]}
noncomputable def afd:aG->aG
 |bx _ (e::_) _ _=>e
 |e=>e
noncomputable def a9(l:List cg)(i:Nat):cg:=match l[i]? with|some s=>s|none=>Stmt.Pass ⟨0,0,0,0⟩
def θ:cg:=dP 26
def dA:List cg:=bg θ
def uC:aG->dw
 |lN _ _ s _=>s
 |_=>bc θ
def lI:dw:=bc θ
def Q6:cg:=a9 dA 4
noncomputable def ι:aV:=aB "_law_mended" ++ ".<locals>."
def ST:Nat->abY:=λ_=>⟨NM 33,ι++NM 33,fu Q6,bg Q6,bc Q6⟩
noncomputable abbrev prog:xY:=Mm
def ajQ{A B aS aY a0:Prop}{X:fK->Prop}(_:(A/\B/\(aS/\aY/\∀w,X w))=a0):fK->Prop:=X
def Gw:fK->Prop:=ajQ (a0:=Wc.row.Holds) Z
theorem Ge:Nonempty fK:=⟨⟨λ_ _=>0,{strHash:=λ_=>0,shareClass:=λ_=>0,mergeTok:=id,idOf:=λ_=>0,idOfShared:=λ_ _=>0,followText:=λ_=>ab,idOfImm:=λ_=>0}⟩⟩
theorem ajR:Nonempty cf:=Ge.elim λw=>⟨w.params⟩
theorem ajS:Nonempty ae:=⟨{}⟩
theorem ajT:Nonempty bR:=⟨{}⟩
theorem ajU:Nonempty gW:=⟨{}⟩
noncomputable def Bm{α:Type}(P:α->Prop)(n:[Nonempty ae]->[Nonempty bR]->[Nonempty cf]->[Nonempty gW]->Nonempty α):α:= @VZ α (@n ajS ajT ajR ajU) λc=>¬P c
theorem Yw{P:α->Prop}{n:_}(h:P (Bm P n))(x:α):P x:=A9 λk=> @VY α (λc=>¬P c) ⟨x,k⟩ h
noncomputable def w:fK:= @VZ fK Ge λw=>¬Gw w
theorem Q7(h:Gw w):∀v,Gw v:=λv=>A9 λn=> @VY fK (λw=>¬Gw w) ⟨v,n⟩ h
noncomputable def bp(vs:List aa)(n:Nat):bE:={cls:=ao "list",data:=bQ vs.toArray n}
noncomputable def cV(vs:List aa)(n:Nat):bE:={cls:=ao "tuple",data:=bQ vs.toArray n}
theorem mz{c P:af}(x:h.IsCode c P ps):c≠P/\∃oc oP,h.get? c=O oc/\h.get? P=O oP/\oP.data=bF ps/\∀h':aQ,h'.get? c=O oc->h'.get? P=O oP->h'.IsCode c P ps:=by show og λgG kG=>?_;obtain⟨o,vs,file,tf,flags,tg,inF,Q8,tt,op,i1,i2,i3,i4,i5,i6,i7,i8,i9,i10,i11⟩:=x;show kG ?_;clear kG gG;show⟨i11,o,op,i1,i8,i9,λh' e1 e2=>⟨o,vs,file,tf,flags,tg,inF,Q8,tt,op,e1,i2,i3,i4,i5,i6,i7,e2,i9,i10,i11⟩⟩
theorem OA{c P:af}(x:h.IsCode c P ps):∃o,h.get? c=O o:=FZ (mz x) λ_ oc _ e _=>⟨oc,e⟩
theorem Bn{c P:af}(x:h.IsCode c P ps):∃o,h.get? P=O o:=(mz x).2.elim λ_ i=>i.elim λoP j=>⟨oP,j.2.1⟩
theorem Jm{c P:af}(x:h.IsCode c P ps):c≠P:=(mz x).1
def ajV(S:abY)(fd:cq):Prop:=
 fd.qualname=S.qual/\
 fd.params=S.params/\
 fd.body=lj S.body/\
 fd.scope=S.scope/\
 fd.globals=ef/\
 fd.builtins=fY/\
 fd.defaults=aA/\
 fd.kwdefaults=aA
def MG(S:abY)(h:aQ)(fd:cq):Prop:=∃c oc ws t,fd.code=R c/\c∉bX/\h.get? c=O oc/\oc.data=bF ws/\ws[1]? =O (cO S.qual t)
def MH(h:aQ)(fd:cq)(x:Nat)(c:Option af)(v:Option aa):Prop:=∃c' v',c=O c'/\v=O v'/\fd.closure.lookup (NM x)=O c'/\c'∉bX/\h.IsCell c' (O v')
def vF(h:aQ)(ns:LN)(fd:cq)(cs:List af)(vs:List aa):Prop:=(∀(i:Nat) (x:Nat),ns[i]? =O x->MH h fd x cs[i]? vs[i]?)/\cs.length=ns.length/\vs.length=ns.length
mutual
def bM(h:aQ):AV->aa->List af->Prop
 |oZ,v,F=>v=aA/\F=[]
 |eY b,v,F=>v=c9 b/\F=[]
 |a6 i,v,F=>(∃t,v=ag i t)/\F=[]
 |aH u,v,F=>v=u/\F=[]
 |Bk u x,v,F=>v=u/\bM h x v F
 |bS K,v,F=>∃a vs n F',v=R a/\a∉bX/\h.get? a=O (bp vs n)/\bA h K vs F'/\F=a::F'
 |fG K,v,F=>∃a vs n,v=R a/\a∉bX/\h.get? a=O (cV vs n)/\bA h K vs F
 |tP f ns K,v,F=>∃a o fd cs vs F',v=R a/\a∉bX/\h.get? a=O o/\o.data=qu fd/\ajV (ST f) fd/\MG (ST f) h fd/\vF h ns fd cs vs/\bA h K vs F'/\F=cs++F'
def bA(h:aQ):List AV->List aa->List af->Prop
 | [],vs,F=>vs=[]/\F=[]
 |x::K,vs,F=>∃v tQ F1 F2,vs=v::tQ/\bM h x v F1/\bA h K tQ F2/\F=F1++F2
end
theorem bA.nil:bA h [] [] []:=
 ⟨rfl,rfl⟩
theorem ej(F1 F2:List af){x:AV}{K:List AV}(r:bM h x v F1)(q:bA h K vs F2):bA h (x::K) (v::vs) (F1++F2):=
 (DX v vs F1 F2 Z r q Z)
theorem sf(F':List af){K:List AV}(ht:a∉bX)(ho:h.get? a=O (bp vs n))(q:bA h K vs F'):bM h (bS K) (R a) (a::F'):=
 η a vs n F' Z ht ho q Z
theorem bM.Gg{u:aa}{P:aa->Prop}(r:bM h (aH u) v F)(k:P u):P v:=
 r.1▸k
theorem iP{K:List AV}{P:Prop}(r:bM h (bS K) v F)(k:∀a vs n F',v=R a->a∉bX->h.get? a=O (bp vs n)->bA h K vs F'->F=a::F'->P):P:=
 fP r λa vs n F' e1 e2 e3 e4 e5=>(k a vs n F' e1 e2 e3 e4 e5)
theorem kO{x:AV}{K:List AV}{P:Prop}(r:bA h (x::K) vs F)(k:∀v tQ F1 F2,vs=v::tQ->bM h x v F1->bA h K tQ F2->F=F1++F2->P):P:=
 gr r λv tQ F1 F2 e1 e2 e3 e4=>(k v tQ F1 F2 e1 e2 e3 e4)
theorem jL{x:AV}{K:List AV}{P:List aa->Prop}(r:bA h (x::K) vs F)(k:∀v tQ F1 F2,bM h x v F1->bA h K tQ F2->F=F1++F2->P (v::tQ)):P vs:=gr r λv tQ F1 F2 dX e2 e3 e4=>dX▸k v tQ F1 F2 e2 e3 e4
theorem vG{P:List aa->Prop}(r:bA h [] vs F)(k:F=[]->P []):P vs:=
 r.1▸k r.2
theorem nH{x:AV}{P:List aa->Prop}(r:bA h [x] vs F)(k:∀v F1,bM h x v F1->P [v]):P vs:=
 jL r λv _ F1 _ a b _=>vG (P:=λl=>P (v::l)) b λ_=>k v F1 a
theorem nJ{x y:AV}{P:List aa->Prop}(r:bA h [x,y] vs F)(k:∀v u F1 F2,bM h x v F1->bM h y u F2->P [v,u]):P vs:=
 jL r λv _ F1 _ a b _=>nH (P:=λl=>P (v::l)) b λu F2 c=>k v u F1 F2 a c
theorem Bo{x y z:AV}{P:List aa->Prop}(r:bA h [x,y,z] vs F)(k:∀v u q F1 F2 F3,bM h x v F1->bM h y u F2->bM h z q F3->P [v,u,q]):P vs:=
 jL r λv _ F1 _ a b _=>nJ (P:=λl=>P (v::l)) b λu q F2 F3 c d=>k v u q F1 F2 F3 a c d
theorem bM.zJ{i:Int}{P:aa->Prop}(r:bM h (a6 i) v F)(k:∀t,P (ag i t)):P v:=by obtain⟨⟨t,rfl⟩,_⟩:=r;show k t
theorem nM{i:Int}{P:List aa->Prop}(r:bA h [a6 i] vs F)(k:∀t,P [ag i t]):P vs:=
 nH r λ_ _ a=>bM.zJ (P:=λv=>P [v]) a k
theorem vH{u:aa}{P:List aa->Prop}(r:bA h [aH u] vs F)(k:P [u]):P vs:=
 nH r λ_ _ a=>bM.Gg (P:=λv=>P [v]) a k
theorem fQ{K:List AV}{P:aa->Prop}(r:bM h (bS K) v F)(k:∀a vs n F',a∉bX->h.get? a=O (bp vs n)->bA h K vs F'->F=a::F'->P (R a)):P v:=fP r λa vs n F' dX e2 e3 e4 e5=>dX▸k a vs n F' e2 e3 e4 e5
theorem pU{K:List AV}{P:aa->Prop}(r:bM h (fG K) v F)(k:∀a vs n,a∉bX->h.get? a=O (cV vs n)->bA h K vs F->P (R a)):P v:=gH r λa vs n dX e2 e3 e4=>dX▸k a vs n e2 e3 e4
def Ct(h:aQ)(b:af):Prop:=∃o,h.get? b=O o/\((o.cls=ao "list" /\∃vs n,o.data=bQ vs n)\/(∃es n,o.data=eg es n)\/∃v,o.data=oS v)
structure Mod(W:List af)(h h':aQ):Prop where
 keep:∀b o,b∉W->b∉bX->h.get? b=O o->h'.get? b=O o
 tab:∀b,b∈bX->∀ps,h.get? b=O (tabObj ps)->∃more,h'.get? b=O (tabObj (ps++more))
 there:∀b o,h.get? b=O o->∃o',h'.get? b=O o'
theorem Mod.refl(W:List af)(h:aQ):Mod W h h:=⟨λ_ _ _ _ e=>e,λ_ _ ps e=>⟨#[],e⟩,λ_ o e=>⟨o,e⟩⟩
theorem gU.mod(W:List af)(x:gU H h h'):Mod W h h':=⟨λb o _ ht e=>x.keep b o ht e,x.tab,x.there⟩
theorem Mod.trans{W:List af}{a b c:aQ}(x:Mod W a b)(y:Mod W' b c)(hw:∀d,d∈W'->d∈W\/a.get? d=ah):Mod W a c where
 keep:=λd o hd ht e=>y.keep d o (λh=>by
  rcases hw d h with h|h
  .show hd h
  .have e:=h▸e;ext) ht (x.keep d o hd ht e)
 tab:=λd hd ps e=>dF (x.tab d hd ps e) λm1 e1=>dF (y.tab d hd _ e1) λm2 e2=>⟨m1++m2,by rw[e2,Vo]⟩
 there:=λd o e=>dF (x.there d o e) λo1 e1=>(y.there d o1 e1)
section
variable{W:List af}
def kP(h:aQ)(b:af):Prop:=∃o,h.get? b=O o/\((∃ws,o.data=bF ws/\∀x t,ws[1]? ≠O (cO x t))\/(∃es n,o.data=eg es n)\/(∃bs n,o.data=ja bs n)\/o.data=tF)
noncomputable def wD:Data->Nat
 |bQ ..=>0
 |eg ..=>1
 |ja ..=>2
 |tF=>3
 |oS ..=>4
 |bF ..=>5
 |_=>6
theorem Ct.tag(x:Ct h b)(e:h.get? b=O o):(o.cls=ao "list" /\wD o.data=0)\/wD o.data=1\/wD o.data=4:=bf x λo' e' k=>aW (e.symm.trans e')▸k.imp (λk=>⟨k.1,jg k.2 λ_ _ q=>congrArg wD q⟩) λk=>k.imp (λqQ=>jg qQ λ_ _ q=>congrArg wD q) λqQ=>dF qQ λ_ q=>congrArg wD q
theorem kP.tag(x:kP h b)(e:h.get? b=O o):(∃ws,o.data=bF ws/\∀x t,ws[1]? ≠O (cO x t))\/wD o.data=1\/wD o.data=2\/wD o.data=3:=bf x λo' e' k=>aW (e.symm.trans e')▸k.imp id λk=>k.imp (λqQ=>jg qQ λ_ _ q=>congrArg wD q) λk=>k.imp (λqQ=>jg qQ λ_ _ q=>congrArg wD q) λq=>congrArg wD q
theorem MI(k:Nat)(x:Ct h b\/kP h b)(e:h.get? b=O o)(hk:wD o.data=k)(h0:k=0->o.cls≠ao "list")(h5:∀ws,o.data=bF ws->∃x t,ws[1]? =O (cO x t))(hn:k≠1/\k≠2/\k≠3/\k≠4):False:=by
 subst hk;rcases x with x|x
 .rcases x.tag e with q|q|q
  .show h0 q.2 q.1
  .show hn.1 q
  .show hn.2.2.2 q
 .rcases x.tag e with⟨ws,q,r⟩|q|q|q
  .show jg (h5 ws q) λy t z=>(r y t z)
  .show hn.1 q
  .show hn.2.1 q
  .show hn.2.2.1 q
theorem Bq{d:Data}(e:wD d=k)(hk:k≠5):∀ws,d=bF ws->∃x t,ws[1]? =O (cO x t):=λ_ q=>absurd (by show e▸q.symm▸?_;rfl) hk
theorem MG.off{S:abY}(keep:∀b o,b∉W->b∉bX->h.get? b=O o->h'.get? b=O o)(hm:∀b∈W,Ct h b\/kP h b)(x:MG S h fd):MG S h' fd:=by show fP x λc oc ws t c1 c2 c3 c4 c5=>((η c oc ws t c1 c2 (keep c _ (λhw=>?_) c2 c3) c4 c5));show MI 5 (hm c hw) c3 (congrArg wD c4) (λq=>nn0 q) (λws' q=>qG _ _ (Data.fields.inj (q.symm.trans c4)▸c5)) aL
theorem vF.off{cs:List af}(keep:∀b o,b∉W->b∉bX->h.get? b=O o->h'.get? b=O o)(hF:∀b∈cs,b∉W)(x:vF h ns fd cs vs):vF h' ns fd cs vs:=
 ⟨λi y hy=>l0 (x.1 i y hy) λc' v' g1 g2 g3 g4 g=>ε c' v' g1 g2 g3 g4 (bf g λo' g5 g6=>cn o' (keep c' _ (hF c' (cY g1)) g4 g5) g6),x.2⟩
theorem Jn(keep:∀b o,b∉W->b∉bX->h.get? b=O o->h'.get? b=O o)(hm:∀b∈W,Ct h b\/kP h b):(∀(av:AV) (v:aa) (F:List af),(∀b∈F,b∉W)->bM h av v F->bM h' av v F)/\
 ∀(K:List AV) (vs:List aa) (F:List af),(∀b∈F,b∉W)->bA h K vs F->bA h' K vs F:=by
 show Bl (λ_ _ _ r=>r) (λ_ _ _ _ r=>r) (λ_ _ _ _ r=>r) (λ_ _ _ _ r=>r) (λu x ih v F hF r=>⟨r.1,ih v F hF r.2⟩) (λK ih v F hF r=>?_) (λK ih v F hF r=>?_) (λf ns K ih v F hF r=>?_) (λ_ _ _ r=>r) (λy ys i1 i2 vs F hF r=>?_)
 .show fP r λa vs n F' e1 e2 e3 e4 e5=>?_;subst e5;show η a vs n F' e1 e2 (keep a _ (hF a au) e2 e3) (ih vs F' (λb D=>hF b au) e4) Z
 .show gH r λa vs n e1 e2 e3 e4=>(DW a vs n e1 e2 (keep a _ (λhw=>?_) e2 e3) (ih vs F hF e4));show MI 0 (hm a hw) e3 Z (λ_ q=>absurd (Value.type.inj q) aL) (Bq (k:=0) Z (uj Z)) aL
 .show kq r λa o fd cs vs F' e1 e2 e3 e4 p c q e5 e6=>have hF1:=λb D=>hF b (e6▸D);⟨a,o,fd,cs,vs,F',e1,e2,keep a _ (λhw=>?_) e2 e3,e4,p,c.off keep hm,q.off keep (λb D=>hF1 b (de _ D)),ih vs F' (λb D=>hF1 b (ew _ D)) e5,e6⟩;show MI 6 (hm a hw) e3 (congrArg wD e4) (λq=>nomatch q) (Bq (k:=6) (congrArg wD e4) (uj Z)) aL
 .show gr r λv tQ F1 F2 e1 e2 e3 e4=>?_;subst e4;show DX v tQ F1 F2 e1 (i1 v F1 (λb D=>hF b au) e2) (i2 tQ F2 (λb D=>hF b au) e3) Z
theorem bM.off(keep:∀b o,b∉W->b∉bX->h.get? b=O o->h'.get? b=O o)(hm:∀b∈W,Ct h b\/kP h b):∀(av:AV) (v:aa) (F:List af),(∀b∈F,b∉W)->bM h av v F->bM h' av v F:=(Jn keep hm).1
theorem bA.off(keep:∀b o,b∉W->b∉bX->h.get? b=O o->h'.get? b=O o)(hm:∀b∈W,Ct h b\/kP h b):∀(K:List AV) (vs:List aa) (F:List af),(∀b∈F,b∉W)->bA h K vs F->bA h' K vs F:=(Jn keep hm).2
theorem bM.mod(x:Mod W h h')(hm:∀b∈W,Ct h b)(av:AV)(v:aa)(F:List af)(hF:∀b∈F,b∉W)(r:bM h av v F):bM h' av v F:=
 bM.off x.keep (λb D=>ak (hm b D)) av v F hF r
theorem bA.mod(x:Mod W h h')(hm:∀b∈W,Ct h b)(av:List AV)(v:List aa)(F:List af)(hF:∀b∈F,b∉W)(r:bA h av v F):bA h' av v F:=
 bA.off x.keep (λb D=>ak (hm b D)) av v F hF r
theorem bM.ext{av:AV}(x:gU H h h')(r:bM h av v F):bM h' av v F:=
 bM.mod (x.mod []) (zi) av v F (λ_ _ D=>kM D) r
theorem bA.ext{av:List AV}{v:List aa}(x:gU H h h')(r:bA h av v F):bA h' av v F:=
 bA.mod (x.mod []) (zi) av v F (λ_ _ D=>kM D) r
end
end
variable{av mI:AV}{avs row K ys:List AV}
open AV renaming ptr->aH,int->a6,list->bS,bool->eY,tuple->fG,none->oZ,clo->tP,on->Bk
section
open PySem.W
noncomputable def MJ:cg->List cg
 |Stmt.ClassDef _ _ _ b _ _ _ _ _ _ _=>b
 |_=>[]
noncomputable def mN(fd:cq):bE:={cls:=ao "function",data:=qu fd}
noncomputable def kI(P:cf)(x:String)(t:a8)(v:aa):oE:={hash:=PyData.keyHash P (aB x),key:=cO (aB x) t,val:=v}
def iE(P:cf)(t:Nat->a8)(f:Nat->cq):mx:=[
 (2002,{cls:=ao "type",data:=LL {name:=aB "Buffer",bases:=[ao "object"],mro:=[R 2002,ao "object"],ns:=2001,qualname:=aB "Buffer",hasDict:=ab,slotNames:=[aB "_data"]},slots:=#[ah,ah,O (cO (aB "Buffer") (t 0)),O (cO (aB "Buffer") (t 1)),O (bB "object.__new__"),O (c9 ab)]}),
 (2001,{cls:=ao "dict",data:=eg #[kI P "__module__" (t 2) (cO (aB "segno.encoder") (t 3)),kI P "__firstlineno__" (t 4) (ag 246 (t 5)),
  kI P "__doc__" (t 6) (cO (aB "Wraps a :cls:`bytearray` and provides some useful methods to add bits.\n    ") (t 7)),kI P "__slots__" (t 8) (R 1947),kI P "__init__" (t 9) (R 1956),kI P "extend" (t 10) (R 1963),
  kI P "append_bits" (t 11) (R 1970),kI P "getbits" (t 12) (R 1977),kI P "toints" (t 13) (R 1984),kI P "__len__" (t 14) (R 1991),kI P "__getitem__" (t 15) (R 1998),kI P "__static_attributes__" (t 16) (R 1999),kI P "_data" (t 17) (R 2003)] 2}),
 (2003,{cls:=ao "member_descriptor",data:=bF #[cO (aB "_data") (t 18),R 2002,bB "proto.slot",bB "proto.slot#set",ag 0 0]}),
 (1956,mN (f 0)),(1963,mN (f 1)),(1977,mN (f 2)),(1984,mN (f 3)),(1991,mN (f 4)),(1998,mN (f 5))]
def vI(i:Nat):cg:=a9 (MJ (dP 24)) i
noncomputable def IL(p:Nat):Nat:=if p<128 then 2 * p else(2 * p) ^^^ 285
def pw:Nat->Nat
 | 0=>1
 |n+1=>IL (pw n)
def Cw:Nat->LN
 | 0=>b8 256 0
 |n+1=>(Cw n).set (pw n) n
def Q9:LN:=(aJ 255).map pw
def wz:LN:=Cw 255
noncomputable def FPN:List (LN):=[[0,0,0,0,0,0,0,0,0],[0,1,1,1,1,1,1,1,0],[0,1,0,0,0,0,0,1,0],[0,1,0,1,1,1,0,1,0],[0,1,0,1,1,1,0,1,0],[0,1,0,1,1,1,0,1,0],[0,1,0,0,0,0,0,1,0],[0,1,1,1,1,1,1,1,0],[0,0,0,0,0,0,0,0,0]]
noncomputable def OB(dx:af):bE:={cls:=R 60,dict:=O dx,data:=tF}
def y7(P:cf)(t:Nat->a8)(fd:cq):mx:=[
 (135,{cls:=ao "type",data:=LL {name:=aB "EC",bases:=[ao "tuple"],mro:=[R 135,ao "tuple",ao "object"],ns:=134,qualname:=aB "EC",hasDict:=ab},slots:=#[O (R 65),ah,O (cO (aB "EC") (t 100)),O (cO (aB "EC") (t 101)),O aA,O (c9 ab)]}),
 (60,{cls:=ao "type",data:=LL {name:=aB "_tuplegetter",bases:=[ao "object"],mro:=[R 60,ao "object"],ns:=59,qualname:=aB "_tuplegetter" },slots:=#[ah,ah,O (cO (aB "_tuplegetter") (t 102)),O (cO (aB "_tuplegetter") (t 103)),O (bB "object.__new__"),O (c9 N)]}),
 (134,{cls:=ao "dict",data:=eg #[kI P "__module__" (t 0) (cO (aB "segno.consts") (t 1)),kI P "__firstlineno__" (t 2) (ag 31 (t 3)),kI P "__doc__" (t 4) (cO (aB "EC(num_blocks, num_total, num_data)") (t 5)),kI P "__slots__" (t 6) (R 73),kI P "_fields" (t 7) (R 74),kI P "_field_defaults" (t 8) (R 75),kI P "__new__" (t 9) (R 136),kI P "_make" (t 10) (R 91),kI P "_replace" (t 11) (R 100),kI P "__replace__" (t 12) (R 100),kI P "__repr__" (t 13) (R 107),kI P "_asdict" (t 14) (R 114),kI P "__getnewargs__" (t 15) (R 121),kI P "__match_args__" (t 16) (R 122),kI P "num_blocks" (t 17) (R 124),kI P "num_total" (t 18) (R 127),kI P "num_data" (t 19) (R 130),kI P "__static_attributes__" (t 20) (R 132)] 2}),
 (59,{cls:=ao "dict",data:=eg #[kI P "__module__" (t 21) (cO (aB "segno.consts") (t 22)),kI P "__firstlineno__" (t 23) (ag 5 (t 24)),kI P "__init__" (t 25) (R 35),kI P "__get__" (t 26) (R 43),kI P "__set__" (t 27) (R 50),kI P "__delete__" (t 28) (R 57),kI P "__static_attributes__" (t 29) (R 58),kI P "__dict__" (t 30) (R 61),kI P "__weakref__" (t 31) (R 62),kI P "__doc__" (t 32) aA] 4}),
 (123,{cls:=ao "dict",data:=eg #[kI P "index" (t 33) (ag 0 (t 34)),kI P "__doc__" (t 35) (cO (aB "Alias for field number 0") (t 36))] 2}),
 (126,{cls:=ao "dict",data:=eg #[kI P "index" (t 37) (ag 1 (t 38)),kI P "__doc__" (t 39) (cO (aB "Alias for field number 1") (t 40))] 2}),
 (129,{cls:=ao "dict",data:=eg #[kI P "index" (t 41) (ag 2 (t 42)),kI P "__doc__" (t 43) (cO (aB "Alias for field number 2") (t 44))] 2}),
 (124,OB 123),(127,OB 126),(130,OB 129),(43,mN fd)]
def tgM:cg:=a9 (MJ (dP 2)) 1
def ahi:cg:=dP 11
def Dq:cg:=a9 (MJ ahi) 4
noncomputable def ahj(f:af):bE:={cls:=ao "staticmethod",data:=bF #[R f]}
def ML(P:cf)(t:Nat->a8)(fd fd2:cq):mx:=y7 P t fd++[(136,ahj 82),(82,mN fd2),(2,{cls:=aA,data:=eg #[]})]
end
section
open PySem.W
noncomputable def κ(f:Nat->bE)(n:Nat):Nat->Nat->Nat->BT
 | 0,_,_=>BT.nil
 |u+1,b,k=>match jJ b n with
  |true=>BT.node (f b) (κ f n u (b+k) (2 * k)) (κ f n u (b+2 * k) (2 * k))
  |false=>BT.nil
theorem abZ(f:Nat->bE)(n:Nat)(u:Nat):∀(b k j:Nat),0<k->j+2<=2 ^ u->b+k * j<n->(κ f n u b k).get j=O (f (b+k * j)):=by
 induction u with
 |zero=>intro _ _ j _ h _;simp at h
 |succ u iH=>
  intro b k j hk h hl;show(congrArg (λc=>BT.get (match c with|true=>BT.node (f b) (κ f n u (b+k) (2 * k)) (κ f n u (b+2 * k) (2 * k))|false=>BT.nil) j) (eW (j4 (iY _ _) hl))).trans<|(BT.get_node _ _ _ _).trans ?_;dsimp only[Nat.pow_succ]at h;show if h0:j=0 then by rw[if_pos h0,h0,E7,AW] else ?_
  rw[if_neg h0];by_cases h1:j % 2=1
  .rw [if_pos h1];obtain⟨i,rfl⟩:∃i,j=2 * i+1:=⟨j / 2,by lia⟩;have e:b+k * (2 * i+1)=b+k+2 * k * i:=by rw[yp,E9,<-U1,vm k 2];lia
   rw[show(2 * i+1) / 2=i by lia,iH (b+k) (2 * k) i au au (e▸hl),e]
  .rw [if_neg h1];obtain⟨i,rfl⟩:∃i,j=2 * i+2:=⟨j / 2 - 1,by lia⟩;have e:b+k * (2 * i+2)=b+2 * k+2 * k * i:=by rw[yp,<-U1,vm k 2];lia
   rw[show(2 * i+2) / 2 - 1=i by simp,iH (b+2 * k) (2 * k) i au au (e▸hl),e]
def toT(s:ae)(f:Nat->bE):ng:=⟨κ f s.heap.objs.size 12 0 1,s.heap.objs.size,s.heap.life,s.gens,s.drawn,s.toks,s.os⟩
theorem WG{f:Nat->bE}(hn:s.heap.objs.size<=4094)(h:∀i,i<s.heap.objs.size->s.heap.objs[i]? =O (f i)):(toT s f).abs=s:=by
 obtain⟨⟨objs,life⟩,gens,drawn,toks,os⟩:=s
 delta toT SharedT.abs
 dsimp only at h hn ⊢;have:(absHeap (κ f objs.size 12 0 1) objs.size life).objs=objs:=by
  show Vp λi=>?_;rw[absHeap_at];by_cases hi:i<objs.size
  .rw [if_pos hi,abZ f objs.size 12 0 1 i bD au au,h i hi];simp
  .rw [if_neg hi,LX (oQ hi)]
 rw[show absHeap (κ f objs.size 12 0 1) objs.size life=⟨objs,life⟩ from congrArg (KS · life) this]
noncomputable abbrev p0:xY:=Mm
noncomputable def zj:List cg:=p0.main.body
noncomputable def mJ:cI:={scope:=p0.main.scope,locals:=sT,globals:=sT,cells:=[],code:=R 13,frame:=O 14}
def Dr:iX:=Code.body zj mJ
def Gh(l:List cg)(pos:cJ):gX:=⟨((aU l mJ).onRaise (kV mJ)).bind doneF,Dr,pos,[topFrame default]⟩
def S0(w:fK)(os:gW):ng:=⟨κ (λi=>(oU w.params).objs.toList.getD i default) 11 12 0 1,11,(oU w.params).life,#[],boot_drawn,boot_toks,os⟩
def ajW(w:fK)(os:gW):Option (ng×gX):=segGoT KG p0 w 11 (O (R 6)) 99 1506 (S0 w os) (topStub p0)
end
section
open PySem.W
noncomputable def SV(x:String)(t:a8):aa:=cO (aB x) t
noncomputable def lq(l:List aa):bE:={cls:=ao "code",data:=bF l.toArray}
def OC(st:cg)(t:a8):aa:=((docOf (bg st)).map λx=>cO x t).getD aA
def wq(nm q:String)(st:cg)(df doc pm:aa)(c:af):cq:={name:=aB nm,qualname:=aB q,params:=fu st,body:=lj (bg st),scope:=bc st,globals:=3,closure:=[],defaults:=df,kwdefaults:=aA,doc:=doc,pyModule:=pm,code:=R c,builtins:=0}
noncomputable def Ds(k:Nat):LN->List aa
 | []=>[]
 |n::l=>ag (ai n) k::Ds (k+1) l
noncomputable def wt(i:Int)(t:a8)(v:aa):oE:=⟨hashInt i,ag i t,v⟩
noncomputable def tA(i:Nat):a8:=if i<100 then [279,194,283,282,285,284,287,291,292,303,325,336,337,345,352,360,364,374,384,394,395,203,194,207,206,216,225,234,242,245,247,249,250,371,365,373,366,381,375,383,376,391,385,393,386].getD i 0 else [272,280,196,204].getD (i - 100) 0
def fdG:cq:=wq "__get__" "_tuplegetter.__get__" tgM (R 36) aA (SV "segno.consts" 194) 42
def fdN:cq:=wq "__new__" "EC.__new__" Dq aA (OC Dq 302) (SV "segno.consts" 194) 81
def nsA(P:cf):Array oE:=#[kI P "__name__" 165 (SV "segno.consts" 194),kI P "__doc__" 166 aA,kI P "__package__" 167 aA,kI P "__loader__" 168 (bB "__main__.__loader__#opaque"),kI P "__spec__" 169 aA,kI P "__annotations__" 170 (R 6),kI P "__builtins__" 171 (R 4),kI P "__file__" 173 (SV "/claim/cut.py" 172),kI P "__cached__" 174 aA,kI P "_wall" 193 (R 21),kI P "_tuplegetter" 252 (R 60),kI P "VERSION_M4" 254 (ag 0 253),kI P "VERSION_M3" 257 (ag (-1) 256),kI P "VERSION_M2" 260 (ag (-2) 259),kI P "VERSION_M1" 263 (ag (-3) 262),kI P "ERROR_LEVEL_L" 265 (ag 1 264),kI P "ERROR_LEVEL_M" 267 (ag 0 266),kI P "ERROR_LEVEL_Q" 269 (ag 3 268),kI P "ERROR_LEVEL_H" 271 (ag 2 270),kI P "EC" 399 (R 135)]
def oA(P:cf):List bE:=[qz P,boot_o_1 P,boot_o_2 P,{cls:=ao "dict",data:=eg (nsA P) 20},boot_o_4 P,boot_o_5 P,boot_o_6 P,boot_o_7 P,boot_o_8 P,boot_o_9 P,boot_o_10 P,
 {cls:=(ao "tuple"),data:=bQ #[] 0},{cls:=aA,data:=bF #[(ag 1 0),(ag 0 0),(R 20),(ag 5 0),(ag 0 0),(R 27),(ag 31 0),(ag 0 0),(R 71)]},lq [SV "<module>" 182,SV "<module>" 183,SV "/claim/cut.py" 184,(ag 1 0),(ag 0 0),(ag 0 0),(ag 0 0),(ag 0 0),(R 11),(c9 ab),(ag 181 0),(R 12),aA,aA,aA,aA,ag (ai 185) 0,(ag 1 0),SV "/claim/cut.py" 186],{cls:=(ao "frame"),data:=tF,slots:=#[O (R 13),O (R 3),O (R 3),ah,O (SV "__main__" 164),ah,O (R 0)]}]
def zk(P:cf):mx:=ML P tA fdG fdN++[(36,{cls:=(ao "tuple"),data:=bQ #[aA] 0}),(42,lq [SV "__get__" 217,SV "_tuplegetter.__get__" 218,SV "/claim/cut.py" 219,(ag 11 0),(ag 3 0),(ag 0 0),(ag 0 0),(ag 3 0),(R 37),(c9 N),(ag 181 0),(R 38),aA,(R 39),(R 40),(R 41),ag (ai 223) 0,(ag 11 0),SV "/claim/cut.py" 224]),(81,lq [SV "__new__" 293,SV "EC.__new__" 294,SV "/claim/cut.py" 295,(ag 37 0),(ag 4 0),(ag 0 0),(ag 0 0),(ag 3 0),(R 76),(c9 N),(ag 181 0),(R 77),aA,(R 78),(R 79),(R 80),ag (ai 300) 0,(ag 37 0),SV "/claim/cut.py" 301])]
def ajX(P:cf)(x:ng×gX):gX×Nat×Array eV×gW×List (Option bE)×List (Option bE):=(x.2,x.1.n,x.1.gens,x.1.os,(aJ 15).map x.1.tree.get,(zk P).map λy=>x.1.tree.get y.1)
theorem ab0(w:fK)(os:gW):(ajW w os).map (ajX w.params)=O (Gh (zj.drop 12) ⟨31,0,73,58⟩,139,#[],os,(oA w.params).map O,(zk w.params).map λy=>O y.2):=by ext
noncomputable def oG(l:List bE)(g:Nat->bE)(i:Nat):bE:=match jJ i 15 with
 |true=>l.getD i default
 |false=>g i
def oN(P:cf)(es:Array oE)(n:Nat):List bE:=(oA P).set 3 {cls:=ao "dict",data:=eg es n}
def goC(l:List bE)(n s:Nat)(w:fK)(os:gW)(d:Drawn)(k:Nat)(g:Nat->bE)(t:gX):Option (ng×gX):=segGoT KG p0 w n (O (R 12)) 99 s ⟨κ (oG l g) n 12 0 1,n,(oU w.params).life,#[],d,k,os⟩ t
def nsB(P:cf)(k:Nat):Array oE:=nsA P++#[kI P "ECC" k (R 139),kI P "GEN_POLY" (k+318) (R 1868)]
end
section
open PySem.W
noncomputable def tC(k i:Nat):a8:=k+[684,692,691,514,695,694,697,696,700,708,716,725,732,741,748,756,758,760,759].getD i 0
def fC(k:Nat):Nat->cq
 | 0=>wq "__init__" "Buffer.__init__" (vI 2) (R 1949) aA (SV "segno.encoder" (k+514)) 1955
 | 1=>wq "extend" "Buffer.extend" (vI 3) aA aA (SV "segno.encoder" (k+514)) 1962
 | 2=>wq "getbits" "Buffer.getbits" (vI 5) aA aA (SV "segno.encoder" (k+514)) 1976
 | 3=>wq "toints" "Buffer.toints" (vI 6) aA (OC (vI 6) (k+740)) (SV "segno.encoder" (k+514)) 1983
 | 4=>wq "__len__" "Buffer.__len__" (vI 7) aA aA (SV "segno.encoder" (k+514)) 1990
 | 5=>wq "__getitem__" "Buffer.__getitem__" (vI 8) aA aA (SV "segno.encoder" (k+514)) 1997
 |_=>wq "law" "law" (dP 27) aA aA (SV "law_nv0014_01" (k+763)) 2014
def nsC(P:cf)(k0 k:Nat):Array oE:=((nsB P k0).set! 0 (kI P "__name__" 165 (SV "law_nv0014_01" (k+763))))++#[kI P "GALIOS_LOG" (k+256) (R 1888),kI P "GALIOS_EXP" (k+513) (R 1890),kI P "_FINDER_PATTERN" (k+597) (R 1900),kI P "add_finder_patterns" (k+615) (R 1907),kI P "add_timing_pattern" (k+629) (R 1914),kI P "add_codewords" (k+652) (R 1921),kI P "make_final_message" (k+659) (R 1926),kI P "make_blocks" (k+666) (R 1931),kI P "make_matrix" (k+683) (R 1939),kI P "Buffer" (k+762) (R 2002),kI P "_law_mended" (k+770) (R 2010),kI P "law" (k+776) (R 2015)]
def ahk(k:Nat):List (af×cq):=[(1907,wq "add_finder_patterns" "add_finder_patterns" (dP 18) aA (OC (dP 18) (k+614)) (SV "segno.encoder" (k+514)) 1906),(1914,wq "add_timing_pattern" "add_timing_pattern" (dP 19) aA (OC (dP 19) (k+628)) (SV "segno.encoder" (k+514)) 1913),(1921,wq "add_codewords" "add_codewords" (dP 20) aA (OC (dP 20) (k+651)) (SV "segno.encoder" (k+514)) 1920),(1926,wq "make_final_message" "make_final_message" (dP 21) aA (OC (dP 21) (k+658)) (SV "segno.encoder" (k+514)) 1925),(1931,wq "make_blocks" "make_blocks" (dP 22) aA (OC (dP 22) (k+665)) (SV "segno.encoder" (k+514)) 1930),(1939,wq "make_matrix" "make_matrix" (dP 23) (R 1932) (OC (dP 23) (k+682)) (SV "segno.encoder" (k+514)) 1938),(2010,wq "_law_mended" "_law_mended" (dP 26) aA aA (SV "law_nv0014_01" (k+763)) 2009),(2015,wq "law" "law" (dP 27) aA aA (SV "law_nv0014_01" (k+763)) 2014)]
def qH(P:cf)(k:Nat):mx:=iE P (tC k) (fC k)++(aJ 9).map (λi=>(1891+i,cV (Ds (k+516+9 * i) (FPN.getD i [])) 0))++(ahk k).map (λx=>(x.1,mN x.2))++[
 (1888,cV (Ds (k+0) wz) 0),
 (1890,bp (Ds (k+257) Q9++Ds (k+257) Q9) 0),
 (1900,cV ((aJ 9).map λi=>R (1891+i)) 0),
 (1906,lq [SV "add_finder_patterns" (k+598),SV "add_finder_patterns" (k+599),SV "/claim/cut.py" (k+600),(ag 80 0),(ag 3 0),(ag 0 0),(ag 0 0),(ag 3 0),(R 1901),(c9 N),(ag 181 0),(R 1902),aA,(R 1903),(R 1904),(R 1905),ag (ai (k+612)) 0,(ag 80 0),SV "/claim/cut.py" (k+613)]),
 (1913,lq [SV "add_timing_pattern" (k+616),SV "add_timing_pattern" (k+617),SV "/claim/cut.py" (k+618),(ag 102 0),(ag 2 0),(ag 0 0),(ag 0 0),(ag 3 0),(R 1908),(c9 N),(ag 181 0),(R 1909),aA,(R 1910),(R 1911),(R 1912),ag (ai (k+626)) 0,(ag 102 0),SV "/claim/cut.py" (k+627)]),
 (1920,lq [SV "add_codewords" (k+630),SV "add_codewords" (k+631),SV "/claim/cut.py" (k+632),(ag 118 0),(ag 3 0),(ag 0 0),(ag 0 0),(ag 3 0),(R 1915),(c9 N),(ag 181 0),(R 1916),aA,(R 1917),(R 1918),(R 1919),ag (ai (k+649)) 0,(ag 118 0),SV "/claim/cut.py" (k+650)]),
 (1925,lq [SV "make_final_message" (k+653),SV "make_final_message" (k+654),SV "/claim/cut.py" (k+655),(ag 149 0),(ag 3 0),(ag 0 0),(ag 0 0),(ag 3 0),(R 1922),(c9 N),(ag 181 0),(R 1923),aA,aA,aA,(R 1924),ag (ai (k+656)) 0,(ag 149 0),SV "/claim/cut.py" (k+657)]),
 (1930,lq [SV "make_blocks" (k+660),SV "make_blocks" (k+661),SV "/claim/cut.py" (k+662),(ag 181 0),(ag 2 0),(ag 0 0),(ag 0 0),(ag 3 0),(R 1927),(c9 N),(ag 181 0),(R 1928),aA,aA,aA,(R 1929),ag (ai (k+663)) 0,(ag 181 0),SV "/claim/cut.py" (k+664)]),
 (1938,lq [SV "make_matrix" (k+667),SV "make_matrix" (k+668),SV "/claim/cut.py" (k+669),(ag 211 0),(ag 4 0),(ag 0 0),(ag 0 0),(ag 3 0),(R 1933),(c9 N),(ag 181 0),(R 1934),aA,(R 1935),(R 1936),(R 1937),ag (ai (k+680)) 0,(ag 211 0),SV "/claim/cut.py" (k+681)]),
 (1955,lq [SV "__init__" (k+701),SV "Buffer.__init__" (k+702),SV "/claim/cut.py" (k+703),(ag 251 0),(ag 2 0),(ag 0 0),(ag 0 0),(ag 3 0),(R 1950),(c9 N),(ag 181 0),(R 1951),aA,(R 1952),(R 1953),(R 1954),ag (ai (k+706)) 0,(ag 251 0),SV "/claim/cut.py" (k+707)]),
 (1962,lq [SV "extend" (k+709),SV "Buffer.extend" (k+710),SV "/claim/cut.py" (k+711),(ag 254 0),(ag 2 0),(ag 0 0),(ag 0 0),(ag 3 0),(R 1957),(c9 N),(ag 181 0),(R 1958),aA,(R 1959),(R 1960),(R 1961),ag (ai (k+714)) 0,(ag 254 0),SV "/claim/cut.py" (k+715)]),
 (1976,lq [SV "getbits" (k+726),SV "Buffer.getbits" (k+727),SV "/claim/cut.py" (k+728),(ag 260 0),(ag 1 0),(ag 0 0),(ag 0 0),(ag 3 0),(R 1971),(c9 N),(ag 181 0),(R 1972),aA,(R 1973),(R 1974),(R 1975),ag (ai (k+730)) 0,(ag 260 0),SV "/claim/cut.py" (k+731)]),
 (1983,lq [SV "toints" (k+733),SV "Buffer.toints" (k+734),SV "/claim/cut.py" (k+735),(ag 263 0),(ag 1 0),(ag 0 0),(ag 0 0),(ag 3 0),(R 1978),(c9 N),(ag 181 0),(R 1979),aA,(R 1980),(R 1981),(R 1982),ag (ai (k+738)) 0,(ag 263 0),SV "/claim/cut.py" (k+739)]),
 (1990,lq [SV "__len__" (k+742),SV "Buffer.__len__" (k+743),SV "/claim/cut.py" (k+744),(ag 269 0),(ag 1 0),(ag 0 0),(ag 0 0),(ag 3 0),(R 1985),(c9 N),(ag 181 0),(R 1986),aA,(R 1987),(R 1988),(R 1989),ag (ai (k+746)) 0,(ag 269 0),SV "/claim/cut.py" (k+747)]),
 (1997,lq [SV "__getitem__" (k+749),SV "Buffer.__getitem__" (k+750),SV "/claim/cut.py" (k+751),(ag 272 0),(ag 2 0),(ag 0 0),(ag 0 0),(ag 3 0),(R 1992),(c9 N),(ag 181 0),(R 1993),aA,(R 1994),(R 1995),(R 1996),ag (ai (k+754)) 0,(ag 272 0),SV "/claim/cut.py" (k+755)]),
 (2009,lq [SV "_law_mended" (k+765),SV "_law_mended" (k+766),SV "/claim/cut.py" (k+767),(ag 275 0),(ag 3 0),(ag 0 0),(ag 0 0),(ag 3 0),(R 2006),(c9 N),(ag 181 0),(R 2007),aA,aA,aA,(R 2008),ag (ai (k+768)) 0,(ag 275 0),SV "/claim/cut.py" (k+769)]),
 (2014,lq [SV "law" (k+771),SV "law" (k+772),SV "/claim/cut.py" (k+773),(ag 353 0),(ag 1 0),(ag 0 0),(ag 0 0),(ag 3 0),(R 2011),(c9 N),(ag 181 0),(R 2012),aA,aA,aA,(R 2013),ag (ai (k+774)) 0,(ag 353 0),SV "/claim/cut.py" (k+775)]),
 (1923,tabObj #[]),
 (1934,tabObj #[]),
 (1979,tabObj #[]),
 (2007,tabObj #[]),
 (1932,cV [c9 N,c9 N] 0),
 (1948,cV [] 0),
 (1949,cV [R 1948] 0)]
def runC(w:fK)(k0:Nat):=goC (oN w.params (nsB w.params k0) 22) 1888 1382 w
def ajY(P:cf)(k:Nat)(x:ng×gX):Bool×Nat×Array eV×gW×List (Option bE)×List (Option bE):=(Fj x.2,x.1.n,x.1.gens,x.1.os,[2,3].map x.1.tree.get,(qH P k).map λy=>x.1.tree.get y.1)
theorem ab1(w:fK)(os:gW)(d:Drawn)(k0 k:Nat)(g:Nat->bE):(runC w k0 os d k g (Gh (zj.drop 14) ⟨75,0,75,8⟩)).map (ajY w.params k)=O (N,2016,#[],os,[O {cls:=aA,data:=eg #[]},O {cls:=ao "dict",data:=eg (nsC w.params k0 k) 34}],(qH w.params k).map λy=>O y.2):=by ext
end
abbrev NoE:aa->ae->Prop:=λ_ _=>False
def T{α:Type}(A:bR)(t:aI α)(s:ae)(P:α->ae->Prop):Prop:=aE (aD prog w) A t P NoE s
theorem T.wp{t:aI α}{P Q:α->ae->Prop}(x:T A t s P)(h:∀a Y,P a Y->Q a Y):aE (aD prog w) A t Q a0 s:=
 ir x h λ_ _ f=>f.elim
theorem T.Dt{t:aI α}{v₀:α}{Q:α->ae->Prop}(h:T A t s λv Y=>Y=aK/\v=v₀)(k:Q v₀ aK):aE (aD prog w) A t Q a0 s:=h.wp λ_ _ q=>q.1▸q.2▸k
theorem T.Cx{t:aI α}{X gi:α->ae->Prop}{Q:α->ae->Prop}(h:T A t s λv Y=>X v Y/\gi v Y)(k:∀v Y,X v Y->gi v Y->Q v Y):aE (aD prog w) A t Q a0 s:=h.wp λv Y q=>k v Y q.1 q.2
theorem T.wp3{t:aI α}{X:α->ae->Prop}{gi:α->ae->β->Prop}{Q:α->ae->Prop}(h:T A t s λv Y=>X v Y/\∃F,gi v Y F)(k:∀v Y F,X v Y->gi v Y F->Q v Y):aE (aD prog w) A t Q a0 s:=h.wp λv Y qQ=>MB qQ λx F y=>k v Y F x y
theorem T.wp4{t:aI α}{X:α->ae->Prop}{gi iO:α->ae->β->Prop}{Q:α->ae->Prop}(h:T A t s λv Y=>X v Y/\∃F,gi v Y F/\iO v Y F)(k:∀v Y F,X v Y->gi v Y F->iO v Y F->Q v Y):aE (aD prog w) A t Q a0 s:=h.wp λv Y qQ=>iM qQ λx F y z=>k v Y F x y z
theorem T.wpV{t:aI α}{gi:α->β->Prop}{Q:α->ae->Prop}(h:T A t s λv Y=>Y=aK/\∃F,gi v F)(k:∀v F,gi v F->Q v aK):aE (aD prog w) A t Q a0 s:=h.wp λv _ qQ=>MB qQ λe F y=>e▸k v F y
theorem T.μ{t:aI α}{gi iO:α->β->Prop}{Q:α->ae->Prop}(h:T A t s λv Y=>Y=aK/\∃F,gi v F/\iO v F)(k:∀v F,gi v F->iO v F->Q v aK):aE (aD prog w) A t Q a0 s:=h.wp λv _ qQ=>iM qQ λe F y z=>e▸k v F y z
theorem T.mono{t:aI α}{P Q:α->ae->Prop}(x:T A t s P)(h:∀a Y,P a Y->Q a Y):T A t s Q:=x.wp h
abbrev iB:=List (Nat×Nat×AV)
noncomputable def ck:iB->Nat->Option (Nat×AV)
 | [],_=>ah
 |(y,k,av)::r,x=>match fD y x with
  |true=>O (k,av)
  |false=>ck r x
noncomputable def jk:iB->Nat->Nat->AV->iB
 | [],x,k,av=>[(x,k,av)]
 |(y,k',mI)::r,x,k,av=>match fD y x with
  |true=>(x,k,av)::r
  |false=>(y,k',mI)::jk r x k av
theorem mA(G:iB)(x k:Nat)(av:AV)(y:Nat):ck ((x,k,av)::G) y=if x=y then O (k,av) else ck G y:=by
 show(?_:(match fD x y with|true=>O (k,av)|false=>ck G y)=_);cases q:fD x y with
 |true=>show(if_pos (Lm q)).symm
 |false=>show(if_neg (Li q)).symm
theorem uD(G:iB)(x k:Nat)(av:AV)(y k':Nat)(mI:AV):jk ((x,k,av)::G) y k' mI=if x=y then(y,k',mI)::G else(x,k,av)::jk G y k' mI:=by
 show(?_:(match fD x y with|true=>(y,k',mI)::G|false=>(x,k,av)::jk G y k' mI)=_);cases q:fD x y with
 |true=>show(if_pos (Lm q)).symm
 |false=>show(if_neg (Li q)).symm
theorem fH(G:iB)(x k:Nat)(av:AV)(y:Nat):ck (jk G x k av) y=if y=x then O (k,av) else ck G y:=by
 show(?_:_=if x=y then _ else _).trans (ite_congr (propext eq_comm) (λ_=>rfl) λ_=>rfl);induction G with
 |nil=>show mA [] x k av y
 |cons p r ih=>
  rw[uD,mA];by_cases h:p.1=x
  .rw [if_pos h,mA,h];show if q:x=y then by rw[if_pos q,if_pos q] else by rw[if_neg q,if_neg q,if_neg q]
  .rw [if_neg h,mA,ih];by_cases q:p.1=y
   .rw [if_pos q,if_pos q,if_neg λe=>h (q.trans e.symm)]
   .rw [if_neg q,if_neg q]
theorem OD{dB M:iB}{p:Nat×AV}(h:ck (dB++M) y=O p):ck dB y=O p\/ck M y=O p:=by
 induction dB with
 |nil=>show aw h
 |cons z dB ih=>
  have h:=(mA (dB++M) z.1 z.2.1 z.2.2 y).symm.trans h;show(show ck (z::dB) y=_ from mA dB z.1 z.2.1 z.2.2 y)▸?_;by_cases e:z.1=y
  .rw [if_pos e]at h ⊢;show ak h
  .rw [if_neg e]at h ⊢;show ih h
theorem Br{s:String}(h:Z9[i]? =O s):NM i=aB s:=by delta NM;rw[h]
theorem Bt(h:Z9[i]? =ah):NM i=⟨#[2000000+i]⟩:=by delta NM;rw[h]
theorem Jo:(Z9.map aB).Nodup:=by decide
theorem Jp:(Z9.all λs=>(aB s).cps.toList.all (· <2000000))=N:=by rfl
theorem Cy(h:NM i=NM j):i=j:=by
 show δ (Z9[i]?) (λhi=>?_) λa hi=>?_
 .cases hj:Z9[j]? with
  |some b=>exfalso;rw[Bt hi,Br hj]at h;have:=mW.mp Jp b (cY hj);rw[<-h]at this;simp at this;lia
  |none=>have:=congrArg (λa:Array Nat=>a.toList) (congrArg Str.cps ((Bt hj)▸(Bt hi)▸h));simp at this;show this
 .cases hj:Z9[j]? with
  |some b=>
   have h:=(Br hj)▸(Br hi)▸h;have e1:(Z9.map aB)[i]? =O (aB a):=by rw[cZ,hi];rfl
   have e2:(Z9.map aB)[j]? =O (aB b):=by rw[cZ,hj];rfl
   rw[<-h]at e2;show dF (dR.mp e1) λl1 g1=>?_;show dF (dR.mp e2) λl2 g2=>?_;rcases UT i j with c|c|c
   .show ((EG.mp Jo i j l1 l2 c) (g1.trans g2.symm)).elim
   .show c
   .show ((EG.mp Jo j i l2 l1 c) (g2.trans g1.symm)).elim
  |none=>have h:=(Bt hj)▸(Br hi)▸h;have:=mW.mp Jp a (cY hi);rw[h]at this;simp at this;lia
theorem aez(i:Nat)(y:aV)(h1:(Z9.all λs=>aB s != y)=N)(h2:y.cps.size≠1):(NM i==y)=ab:=by
 show δ (Z9[i]?) (λhi=>?_) λa hi=>?_
 .rw [Bt hi];rw[beq_eq_false_iff_ne];intro e;subst e;show h2 Z
 .rw [Br hi];have:=mW.mp h1 a (cY hi);simpa using this
theorem wF(i:Nat):(NM i==("__debug__" :aV))=ab:=aez i _ (rfl) (uj Z)
theorem vJ(i:Nat):(NM i==("__classdict__" :aV))=ab:=aez i _ (rfl) (uj Z)
def Aj(J:cI)(h:aQ)(x:aV)(v:aa):Prop:=
 (J.kindOf x=O cU/\∃m,h.Ns J.locals m/\m x=O v)\/
 ((J.kindOf x=O dz\/J.kindOf x=O eQ)/\∃c,J.cells.lookup x=O c/\c∉bX/\h.IsCell c (O v))
protected theorem gU.ns(x:gU H h h')(ha:a∉bX)(n:h.Ns a m):h'.Ns a m:=
 ff n λo es ep ho r=>Bj o es ep (x.keep a o ha ho) r
theorem gU.cell{v:Option aa}(x:gU H h h')(ha:a∉bX)(n:h.IsCell a v):h'.IsCell a v:=
 bf n λo ho r=>cn o (x.keep a o ha ho) r
theorem Aj.ext{x:aV}(e:gU H h h')(hl:J.locals∉bX)(cA:Aj J h x v):Aj J h' x v:=ba cA (λi0=>iM i0 λk m n e1=>ak ⟨k,m,e.ns hl n,e1⟩) λi0=>oY i0 λk c e1 e2 e3=>aw ⟨k,c,e1,e2,e.cell e2 e3⟩
section
variable(H:List af)(U:aQ)
structure ER(L:dw)(J:cI)(h:aQ)(G:iB):Prop where
 base:gU H U h
 kind:J.scope.kind=dZ
 gl:∀x,L.names.lookup x=O kZ->J.kindOf x=O kZ
 WH:∀x,(L.names.lookup x=O dz\/L.names.lookup x=O eQ)->(J.kindOf x=O dz\/J.kindOf x=O eQ)
 glob:J.globals=ef
 bi:J.builtins=fY
 loc:J.locals∉bX
 has:∀x k av,ck G x=O (k,av)->∃v F,Aj J h (NM x) v/\bM h av v F
end
section
variable{H:List af}{U:aQ}{G:iB}
theorem ER.ext(r:ER H U L J h G)(x:gU H h h'):ER H U L J h' G:=
 ⟨r.base.trans x,r.kind,r.gl,r.WH,r.glob,r.bi,r.loc,λy k av e=>eT (r.has y k av e) λv F a b=>(kK v F (a.ext x r.loc) (b.ext x))⟩
end
structure cx(U:aQ)(mg mb:aV->Option aa):Prop where
 g:U.Ns ef mg
 b:U.Ns fY mb
 lim:U.NoLimit
 top:Tp U
 bmod:∃bm o,mg "__builtins__" =O (R bm)/\bm≠fY/\bm∉bX/\U.get? bm=O o/\o.cls=ao "module" /\o.dict=O fY/\o.data=tF
theorem jz{U:aQ}(B:Tp U)(x:gU H U h):Q5<=h.objs.size:=dF B λo e=>dF (x.there _ _ e) λo' e'=>gw (cj e')
protected theorem cx.mg{U:aQ}(B:cx U mg mb)(x:gU H U h):h.Ns ef mg:=x.ns (DU Z) B.g
protected theorem cx.mb{U:aQ}(B:cx U mg mb)(x:gU H U h):h.Ns fY mb:=x.ns (DU Z) B.b
theorem cx.zl{U:aQ}(B:cx U mg mb)(x:gU H U h):h.NoLimit:=bf B.lim λmc n e=>cn mc (x.ns (DU Z) n) e
section
variable{H:List af}{U:aQ}{G:iB}
theorem pQ{x:aV}(hk:J.scope.kind=dZ)(E:J.kindOf x=O kZ)(hg:s.heap.Ns J.globals mg)(hv:mg x=O v)(h:Q v s):aE (aD prog w) A (loadName J x) Q a0 s:=by rw[loadName_read hk E];show aj<|xR hg<|hv.symm▸aC h
theorem mO{x:aV}(hk:J.scope.kind=dZ)(E:J.kindOf x=O kZ)(hg:s.heap.Ns J.globals mg)(D:s.heap.Ns J.builtins mb)(hn:mg x=ah)(hv:mb x=O v)(h:Q v s):aE (aD prog w) A (loadName J x) Q a0 s:=by rw[loadName_read hk E];show aj<|xR hg<|hn.symm▸aj (xR D ?_);show hv.symm▸aC h
theorem wb(r:ER H U L J s.heap G)(E:ck G x=O (k,av)):
 T A (a7 (aq (NM x) pos) J) s (λv Y=>Y=s/\∃F,bM s.heap av v F):=by
 show eT (r.has x k av E) λv F cA aO=>(rk ?_ (wF x));show ba cA (λi0=>iM i0 λhl m n e=>xE r.kind hl n e ⟨rfl,F,aO⟩) λi0=>oY i0 λhl c hc _ hv=>?_;rcases hl with hl|hl
 .show Kb r.kind hl hc hv ⟨rfl,F,aO⟩
 .show Kc r.kind hl hc hv ⟨rfl,F,aO⟩ (vJ x)
theorem um{u:aa}(r:ER H U L J s.heap G)(E:ck G x=O (k,aH u)):T A (a7 (aq (NM x) pos) J) s (λv Y=>Y=s/\v=u):=
 (wb r E).mono λ_ _ q=>⟨q.1,q.2.elim λ_ aO=>aO.Gg (P:=λv=>v=u) Z⟩
theorem sh{x:aV}(B:cx U mg mb)(r:ER H U L J s.heap G)(E:L.names.lookup x=O kZ)(hv:mg x=O v)(hd:(x==("__debug__" :aV))=ab):T A (a7 (aq x pos) J) s (λu Y=>Y=s/\u=v):=
 rk (pQ r.kind (r.gl x E) (r.glob▸B.mg r.base) hv ⟨rfl,rfl⟩) hd
theorem eG{x:aV}(B:cx U mg mb)(r:ER H U L J s.heap G)(E:L.names.lookup x=O kZ)(hn:mg x=ah)(hv:mb x=O v)(hd:(x==("__debug__" :aV))=ab):T A (a7 (aq x pos) J) s (λu Y=>Y=s/\u=v):=
 rk (mO r.kind (r.gl x E) (r.glob▸B.mg r.base) (r.bi▸B.mb r.base) hn hv ⟨rfl,rfl⟩) hd
end
variable{G G' G0 G1 Gx:iB}
structure ν(n:Nat)(A:bR):Prop where
 hd:A.handled=ah
 depth:A.depth+n<1000
 units:A.units+20 * n<9900
inductive BOp where|add|sub|mul|fdiv|fmod|pow|xor|band|shr(u:Unit)
noncomputable def BOp.ast:BOp->Operator
 | .add=>rS | .sub=>FE | .mul=>vA | .fdiv=>FD | .fmod=>Bb | .pow=>Mi | .xor=>Ba | .band=>Mg | .shr _=>Mh
noncomputable def o4(x:Int):Bool:=decide (x.natAbs<1073741824)
def wG:BOp->Int->Int->Option Int
 | .add=>λx y=>O (x+y)
 | .sub=>λx y=>O (x - y)
 | .mul=>λx y=>cond (o4 x) (O (x * y)) ah
 | .fdiv=>λx y=>cond (o4 y && decide (0<y)) (O (x.fdiv y)) ah
 | .fmod=>λx y=>cond (decide (0<y)) (O (x.fmod y)) ah
 | .pow=>λx y=>cond (o4 x && decide (0<=y) && decide (y<=1000)) (O (x ^ y.toNat)) ah
 | .xor=>λx y=>x.casesOn (λx=>y.casesOn (λy=>O (ai (x ^^^ y))) λ_=>ah) λ_=>ah
 | .band=>λx y=>x.casesOn (λx=>y.casesOn (λy=>O (ai (x &&& y))) λ_=>ah) λ_=>ah
 | .shr _=>λx y=>cond (decide (0<=y)) (O (x.fdiv (2 ^ y.toNat))) ah
inductive COp where|eq|ne|lt|le|gt|ge(u:Unit)
noncomputable def COp.ast:COp->CmpOp
 | .eq=>Be | .ne=>FJ | .lt=>FK | .le=>Wg | .gt=>CmpOp.Gt | .ge _=>CmpOp.GtE
noncomputable def gT:COp->Int->Int->Bool
 | .eq=>λx y=>x==y
 | .ne=>λx y=>x != y
 | .lt=>λx y=>decide (x<y)
 | .le=>λx y=>decide (x<=y)
 | .gt=>λx y=>decide (y<x)
 | .ge _=>λx y=>decide (y<=x)
theorem si(op:COp)(e:aG):Em op.ast e=ab:=by
 cases e with
 |Set afe k pos=>change(k==0 && (op.ast==yD ||op.ast==Bd) && afe.all (constantsAlone 8))=ab;show(by cases op<;>rfl:(op.ast==yD ||op.ast==Bd)=ab).symm▸?_;simp
 |_=>rfl
theorem Gj(x y:Nat):LZ (ai x) (ai y)=ai (x &&& y):=by rfl
theorem Cz(h:k<n):rp (ai k) n=O k:=
 if_pos (fN.mpr ⟨decide_eq_true (KL k),decide_eq_true (sW.mpr h)⟩)
theorem aff{a b:Nat}(h:a / 2+b / 2=c / 2)(k:a % 2+b % 2=c % 2):a+b=c:=(congr (congrArg HAdd.hAdd (LC a 2)) (LC b 2)).symm.trans ((Nat.add_add_add_comm ..).trans (yp 2 _ _▸h▸k▸LC c 2))
theorem ξ:(x ^^^ y) % 2+(x &&& y) % 2=(x |||y) % 2:=by rw[(Nat.xor_mod_two_pow (n:=1)),(Nat.and_mod_two_pow (n:=1)),(Nat.or_mod_two_pow (n:=1)),Nat.pow_one];rcases EW x with h|h<;>rcases EW y with k|k<;>rw[h,k]<;>rfl
theorem Bu(x y:Nat):x |||y=(x ^^^ y)+(x &&& y):=by
 have key:∀n x y:Nat,x<=n->y<=n->(x ^^^ y)+(x &&& y)=x |||y:=by
  intro n;induction n with
  |zero=>intro x y E hy;rw[LI.mp E,LI.mp hy];rfl
  |succ n ih=>show λx y E hy=>aff ?_ ξ;rw[Nat.xor_div_two,Nat.and_div_two,Nat.or_div_two];show ih _ _ (bj (US E) (mY (LB (E6 n) aL))) (bj (US hy) (mY (LB (E6 n) aL)))
 show(key (x+y) x y (iY ..) (rL ..)).symm
theorem Yx(x y:Nat):Vw (ai x) (ai y)=ai (x |||y):=by
 delta Vw
 have:LZ (nk (ai x)) (nk (ai y))=nk (ai (x |||y)):=by rw[LZ,(decide_eq_false (by delta nk;have:ai x=(x:Int):=rfl;lia)),(decide_eq_false (by delta nk;have:ai y=(y:Int):=rfl;lia))];rw[(by delta nk;lia:nk (nk (ai x))=ai x),(by delta nk;lia:nk (nk (ai y))=ai y)];rfl
 rw[this]
 delta nk;simp+arith
theorem Gk(x y:Nat):Vv (ai x) (ai y)=ai (x ^^^ y):=by
 delta Vv
 rw[Yx,Gj,Bu];show Int.sub_eq_iff_eq_add.mpr Z
def EP(H:List af)(s:ae)(av:AV)(fr:Bool)(v:aa)(Y:ae):Prop:=dG H s Y/\∃F,bM Y.heap av v F/\(fr=N->(∀b∈F,s.heap.get? b=ah)/\F.Nodup)
def EPs(H:List af)(s:ae)(avs:List AV)(vs:List aa)(Y:ae):Prop:=dG H s Y/\∃F,bA Y.heap avs vs F
def BP(H:List af)(s:ae)(b:Bool)(v:Bool)(Y:ae):Prop:=dG H s Y/\v=b
section
variable{H:List af}{A:bR}
theorem o6(F:List af)(e:dG H s Y)(r:bM Y.heap av v F)(k:fr=N->(∀b∈F,s.heap.get? b=ah)/\F.Nodup):EP H s av fr v Y:=⟨e,F,r,k⟩
theorem aeA(e:dG H s Y)(r:bA Y.heap avs vs F):EPs H s avs vs Y:=⟨e,F,r⟩
theorem T.tR{t:aI aa}(h:T A t s (EP H aK av fr))(k:∀v Y F,dG H aK Y->bM Y.heap av v F->(fr=N->(∀b∈F,aK.heap.get? b=ah)/\F.Nodup)->Q v Y):aE (aD prog w) A t Q a0 s:=h.wp λv Y qQ=>iM qQ λx F y z=>k v Y F x y z
theorem T.CA{t:aI aa}{i:Int}(h:T A t s (EP H aK (a6 i) fr))(k:∀t Y,dG H aK Y->Q (ag i t) Y):aE (aD prog w) A t Q a0 s:=h.tR λ_ Y _ e aO _=>aO.zJ (P:=λv=>Q v Y) λt=>k t Y e
theorem T.ο{t:aI aa}{u:aa}(h:T A t s (EP H aK (aH u) fr))(k:∀Y,dG H aK Y->Q u Y):aE (aD prog w) A t Q a0 s:=h.tR λ_ Y _ e aO _=>aO.Gg (P:=λv=>Q v Y) (k Y e)
theorem T.Ra{t:aI (List aa)}{Q:List aa->ae->Prop}(h:T A t s (EPs H aK avs))(k:∀v Y F,dG H aK Y->bA Y.heap avs v F->Q v Y):aE (aD prog w) A t Q a0 s:=h.wp λv Y qQ=>MB qQ λx F y=>k v Y F x y
theorem T.wpB{t:aI Bool}{b:Bool}{Q:Bool->ae->Prop}(h:T A t s (BP H aK b))(k:∀Y,dG H aK Y->Q b Y):aE (aD prog w) A t Q a0 s:=h.wp λv Y qQ=>fc qQ λx y=>y▸k Y x
end
section
variable(H:List af)(U:aQ)(A:bR)(L:dw)(J:cI)(G:iB)
def V(e:aG)(av:AV)(fr:Bool):Prop:=
 ∀s,ER H U L J s.heap G->T A (a7 e J) s (EP H s av fr)
def pO(e:aG)(b:Bool):Prop:=
 ∀s,ER H U L J s.heap G->T A (isTrue e J (a7 e J)) s (BP H s b)
end
section
variable{H:List af}{U:aQ}{A:bR}{L:dw}{J:cI}{G:iB}
theorem bM.ofInt(i:Int)(t:a8):bM h (a6 i) (ag i t) []:=⟨⟨t,rfl⟩,rfl⟩
theorem bM.toInt{i:Int}(x:bM h (a6 i) v F):∃t,v=ag i t:=x.1
theorem bM.ofBool(b:Bool):bM h (eY b) (c9 b) []:=⟨rfl,rfl⟩
theorem bM.toBool{b:Bool}(x:bM h (eY b) v F):v=c9 b:=x.1
theorem d9:(fr=N->(∀b∈([]:List af),s.heap.get? b=ah)/\([]:List af).Nodup):=λ_=>⟨λ_ D=>(kM D),rQ⟩
theorem V.int{i:Int}:V H U A L J G (fL (jK i) k pos) (a6 i) fr:=
 λs _=>xH (o6 [] (.toks s _) (.ofInt i _) d9)
theorem V.none:V H U A L J G (fL rR k pos) oZ fr:=
 λs _=>aC (o6 [] (.refl s) (⟨rfl,rfl⟩) d9)
theorem ar(x:Nat)(E:ck G x=O (k,av)):V H U A L J G (aq (NM x) pos) av ab:=
 λs r=>(wb r E).wp3 λv Y F e aO=>by show e.symm▸?_;show o6 F (.refl _) aO (λh=>II h)
theorem π{op:BOp}{x y z:Int}{t:a8}(h:wG op x y=O z):
 T A (binaryOp op.ast (ag x t) (ag y u)) s (λv Y=>dG H s Y/\∃t',v=ag z t'):=by
 have y8:∀{z':Int},z'=z->(dG H s {s with toks:=s.toks+1}/\∃t',ag z' s.toks=ag z t'):=λe=>⟨.toks s _,s.toks,by rw[e]⟩;cases op with
 |add=>show add_int (y8 (aW h))
 |sub=>show sub_int (y8 (aW h))
 |mul=>
  dsimp only[wG]at h;cases hs:o4 x with
  |false=>have h:=hs▸h;ext
  |true=>have h:=hs▸h;have E:=of_decide_eq_true hs;show mul_int (y8 (aW h)) (IntMulOk.of_left (intBits_le_64 au au))
 |fdiv=>
  dsimp only[wG]at h;cases hs:(o4 y && decide (0<y)) with
  |false=>have h:=hs▸h;ext
  |true=>have h:=hs▸h;show fc (fN.mp hs) λh1 h2=>have h2:=of_decide_eq_true h2;floordiv_int au (y8 (aW h)) (ak (PyProof.noPylong_small (of_decide_eq_true h1)))
 |fmod=>
  dsimp only[wG]at h;cases hs:decide (0<y) with
  |false=>have h:=hs▸h;ext
  |true=>have h:=hs▸h;have h2:=of_decide_eq_true hs;show mod_int' au (y8 (aW h))
 |pow=>
  dsimp only[wG]at h;cases hs:(o4 x && decide (0<=y) && decide (y<=1000)) with
  |false=>have h:=hs▸h;ext
  |true=>have h:=hs▸h;simp only[qw,decide_eq_true_eq]at hs;obtain⟨⟨h1,h2⟩,h3⟩:=hs;have h1:=of_decide_eq_true h1;show pow_int_small h2 au au (y8 (aW h))
 |xor=>
  cases x with
  |ofNat x=>cases y with|ofNat y=>show xor_int (y8 ((Gk x y).trans (aW h)))|negSucc y=>ext
  |negSucc x=>ext
 |band=>
  cases x with
  |ofNat x=>cases y with|ofNat y=>show and_int (y8 ((Gj x y).trans (aW h)))|negSucc y=>ext
  |negSucc x=>ext
 |shr=>
  dsimp only[wG]at h;cases hs:decide (0<=y) with
  |false=>have h:=hs▸h;ext
  |true=>have h:=hs▸h;show rshift_int (of_decide_eq_true hs) (y8 (aW h))
theorem lr(op:BOp){a b:aG}{x y z:Int}(ha:V H U A L J G a (a6 x) ab)(D:V H U A L J G b (a6 y) ab)(h:wG op x y=O z):V H U A L J G (fh a op.ast b pos) (a6 z) fr:=λs r=>by show Ep ((ha s r).CA λt ax e1=>(D ax (r.ext e1.ext)).tR λu aP F2 e2 V2 _=>?_);obtain⟨t',rfl⟩:=V2.toInt;show(π h).wp3 λv dp t3 e3 hv=>(o6 [] ((e1.trans e2).trans e3) (by subst hv;show .ofInt z t3) d9)
theorem MM{a:aG}{x:Int}(ha:V H U A L J G a (a6 x) ab):V H U A L J G (Um UnaryOp.USub a pos) (a6 (-x)) fr:=λs r=>wpAny_UnaryOp<|(ha s r).CA λt ax e1=>neg_int (o6 [] (e1.trans (.toks _ _)) (.ofInt _ _) d9)
theorem Bv{op:COp}{x y:Int}{t:a8}:T A (Ey op.ast (ag x t) (ag y u)) s (λv Y=>Y=s/\v=c9 (gT op x y)):=by
 cases op with
 |eq=>show eq_int ⟨rfl,rfl⟩
 |ne=>show ne_int ⟨rfl,rfl⟩
 |lt=>show lt_int ⟨rfl,rfl⟩
 |le=>show le_int ⟨rfl,rfl⟩
 |gt=>show gt_int ⟨rfl,rfl⟩
 |ge=>show ge_int ⟨rfl,rfl⟩
theorem mB(op:COp){a b:aG}{x y:Int}(ha:V H U A L J G a (a6 x) ab)(D:V H U A L J G b (a6 y) ab)
 :pO H U A L J G (jw a [op.ast] [b] pos) (gT op x y):=λs r=>by
 show uT ((ha s r).CA λt ax e1=>(D ax (r.ext e1.ext)).tR λu aP F2 e2 V2 _=>?_) (si op b);obtain⟨t',rfl⟩:=V2.toInt;show T.Dt Bv (mf ⟨e1.trans e2,rfl⟩)
theorem Gl(op:COp)(x y:Int){a b:aG}(ha:V H U A L J G a (a6 x) ab)(D:V H U A L J G b (a6 y) ab)
 :V H U A L J G (jw a [op.ast] [b] pos) (eY (gT op x y)) fr:=λs r=>by
 show wpAny_Compare1 ((ha s r).CA λt ax e1=>(D ax (r.ext e1.ext)).tR λu aP F2 e2 V2 _=>?_) (si op b);obtain⟨t',rfl⟩:=V2.toInt;show T.Dt Bv (o6 [] (e1.trans e2) (.ofBool _) d9)
theorem vK{a b:aG}{x y:Bool}(ha:pO H U A L J G a x)(D:x=N->pO H U A L J G b y):
 pO H U A L J G (KQ WD [a,b] pos) (x && y):=λs r=>by
 show TS (TG ((ha s r).Cx λv ax e1 hv=>?_));subst hv;cases v with
 |false=>show⟨e1,rfl⟩
 |true=>
  show TG<|(D Z ax (r.ext e1.ext)).Cx λv aP e2 hv=>hv▸?_;cases v with
  |false=>show⟨e1.trans e2,rfl⟩
  |true=>show wpAny_allTrue_And_nil ⟨e1.trans e2,rfl⟩
theorem Rb{a b:aG}{x y:Bool}(ha:pO H U A L J G a x)(D:x=ab->pO H U A L J G b y):
 pO H U A L J G (KQ BoolOp.Or [a,b] pos) (x ||y):=λs r=>by
 show TS (TK ((ha s r).Cx λv ax e1 hv=>?_));subst hv;cases v with
 |true=>show⟨e1,rfl⟩
 |false=>
  show TK<|(D Z ax (r.ext e1.ext)).Cx λv aP e2 hv=>hv▸?_;cases v with
  |true=>show⟨e1.trans e2,rfl⟩
  |false=>show wpAny_allTrue_Or_nil ⟨e1.trans e2,rfl⟩
theorem FP(x:Bool){a:aG}(ha:pO H U A L J G a x):pO H U A L J G (Um UnaryOp.Not a pos) (!x):=λs r=>
 wpAny_isTrue_Not ((ha s r).Cx λv ax e1 hv=>⟨e1,congrArg _ hv⟩)
theorem wH(x:Bool){c a b:aG}(hc:pO H U A L J G c x)(ha:x=N->V H U A L J G a av fr)(D:x=ab->V H U A L J G b av fr):V H U A L J G (Expr.IfExp c a b pos) av fr:=λs r=>by
 show wpAny_IfExp ((hc s r).Cx λv ax e1 hv=>?_);subst hv;cases v with
 |true=>show(ha Z ax (r.ext e1.ext)).mono λv aP q=>iM q λe2 F aO hf=>(o6 F (e1.trans e2) aO (λq=>⟨λb D=>e1.ext.new ((hf q).1 b D),(hf q).2⟩))
 |false=>show(D Z ax (r.ext e1.ext)).mono λv aP q=>iM q λe2 F aO hf=>(o6 F (e1.trans e2) aO (λq=>⟨λb D=>e1.ext.new ((hf q).1 b D),(hf q).2⟩))
end
theorem bA.length:∀{vs:List aa} {F:List af},bA h K vs F->vs.length=K.length:=by
 induction K with
 |nil=>intro vs F r;show r.1.symm▸?_;rfl
 |cons x K iH=>intro vs F r;apply jL r;intro v tQ F1 F2 _ e3 _;simp[iH e3]
theorem bA.get:∀{vs:List aa} {F:List af},bA h K vs F->∀{i:Nat} {x:AV},K[i]? =O x->∃v F',vs[i]? =O v/\bM h x v F'/\∀b∈F',b∈F:=by
 induction K with
 |nil=>intro vs F r i x e;ext
 |cons y K ih=>
  intro vs F r i x e;apply jL r;intro v tQ F1 F2 e2 e3 e4;subst e4;cases i with
  |zero=>show aW e▸Oz v F1 Z e2 (λb D=>by lia)
  |succ i=>show jy (ih e3 e) λv' F' g1 g2 g3=>Oz v' F' g1 g2 (λb D=>by simp[g3 b D])
theorem bA.append:∀{vs ws:List aa} {F F':List af},bA h K vs F->bA h ys ws F'->bA h (K++ys) (vs++ws) (F++F'):=by
 induction K with
 |nil=>intro vs ws F F' r q;show fc r λe1 e2=>e1▸e2▸q
 |cons x K ih=>intro vs ws F F' r q;apply jL r;intro v tQ F1 F2 e2 e3 e4;subst e4;show DX v (tQ++ws) F1 (F2++F') Z e2 (ih e3 q) (AJ F1 F2 F')
theorem bA.drop(n:Nat):∀{K:List AV} {vs:List aa} {F:List af},bA h K vs F->∃F',bA h (K.drop n) (vs.drop n) F'/\∀b∈F',b∈F:=by
 induction n with
 |zero=>intro K vs F r;show cn F r (λ_ D=>D)
 |succ n iH=>
  intro yY;cases yY with
  |nil=>intro vs F r;show fc r λe1 e2=>?_;subst e1 e2;show cn [] r (λ_ D=>D)
  |cons x K=>intro vs F r;apply jL r;intro v tQ F1 F2 e2 e3 e4;subst e4;show bf (iH e3) λF' g1 g2=>cn F' g1 (λb D=>by simp[g2 b D])
theorem bA.take(n:Nat):∀{K:List AV} {vs:List aa} {F:List af},bA h K vs F->∃F',bA h (K.take n) (vs.take n) F'/\∀b∈F',b∈F:=by
 induction n with
 |zero=>intro K vs F r;show cn [] .nil (λ_ D=>kM D)
 |succ n iH=>
  intro yY;cases yY with
  |nil=>intro vs F r;show fc r λe1 e2=>?_;subst e1 e2;show cn [] r (λ_ D=>D)
  |cons x K=>
   intro vs F r;apply jL r;intro v tQ F1 F2 e2 e3 e4;subst e4;show bf (iH e3) λF' g1 g2=>((cn (F1++F') (ej F1 F' e2 g1) (λb D=>?_)));simp at D;rcases D with D|D
   .ext
   .show ew F1 (g2 b D)
mutual
noncomputable def flat:AV->Bool
 |oZ|eY _|a6 _|aH _=>N
 |Bk _ x=>flat x
 |fG K=>iT K
 |_=>ab
noncomputable def iT:List AV->Bool
 | []=>N
 |x::K=>flat x && iT K
end
theorem cW:(∀(av:AV) (v:aa) (F:List af),flat av=N->bM h av v F->F=[])/\∀(K:List AV) (vs:List aa) (F:List af),iT K=N->bA h K vs F->F=[]:=
 Bl (λ_ _ _ r=>r.2) (λ_ _ _ _ r=>r.2) (λ_ _ _ _ r=>r.2) (λ_ _ _ _ r=>r.2) (λ_ _ ih v F hf r=>ih v F hf r.2) (λ_ _ _ _ hf=>II hf) (λ_ ih _ _ hf r=>gH r λ_ _ _ _ _ _ e4=>ih _ _ hf e4) (λ_ _ _ _ _ _ hf=>II hf) (λ_ _ _ r=>r.2)
  λ_ _ i1 i2 _ _ hf r=>fc (fN.mp hf) λh1 h2=>gr r λ_ _ _ _ _ e2 e3 e4=>by have e4:=i2 _ _ h2 e3▸i1 _ _ h1 e2▸e4;show e4
noncomputable def kg:aG->Bool
 |mq ..=>N
 |_=>ab
noncomputable def cH:aG->Bool
 |Expr.Starred ..=>N
 |_=>ab
theorem uE(h:kg slice=ab)(o i:aa):Kv slice ab o i=operate [o,i] (Ax o i):=by cases slice<;>first|rfl|(ext)
theorem dq(h:cH e=ab)(rest:List aG)(J:cI):js (e::rest) J=(ab,a7 e J)::js rest J:=by cases e<;>first|rfl|(ext)
noncomputable def BI:List (String×aa):=[("len",bB "len"),("range",ao "range"),("zip",ao "zip"),("list",ao "list"),("min",bB "min"),("max",bB "max"),
 ("bytearray",ao "bytearray"),("tuple",ao "tuple"),("reversed",ao "reversed"),("int",ao "int"),("map",ao "map"),("str",ao "str")]
def dQ(mg mb:aV->Option aa):Prop:=∀p∈BI,mg (aB p.1)=ah/\mb (aB p.1)=O p.2
theorem bU(e:h.get? a=O (bp vs n)):h.IsList a vs.toArray:=⟨_,e,rfl,n,rfl⟩
theorem Rc.typeIs(e:s.heap.get? a=O (bp vs n)):s.TypeIs (R a) "list" :=cn _ e Z
noncomputable def WI:AV->Int->Option AV
 |bS K,ai k=>cond (dY k 1000000) K[k]? ah
 |bS K,AE k=>cond (dY (k+1) K.length && dY k 1000000) K[K.length - (k+1)]? ah
 |fG K,ai k=>cond (dY k 1000000) K[k]? ah
 |_,_=>ah
theorem CB{c:Bool}{x:Option α}{y:α}(h:cond c x ah=O y):c=N/\x=O y:=by
 cases c with
 |false=>ext
 |true=>show⟨rfl,h⟩
theorem Jq{x:AV}{k:Int}{t:a8}(aO:bM s.heap av v F)(h:WI av k=O x):
 (∃T id,s.TypeIs v T/\fZ (ao T) "__getitem__" =pure (O (bB id)))/\
 T A (Ax v (ag k t)) s (λu Y=>Y=s/\∃F',bM s.heap x u F'/\∀b∈F',b∈F):=by
 cases av with
 |list K=>
  apply fQ aO;show λa vs n F' _ e3 e4 ρ=>ρ▸⟨(kK ("list") _ (Rc.typeIs e3) slot_list_getitem.lookup),?_⟩;cases k with
  |ofNat k=>show fc (CB h) λh1 h2=>have h1:=dN h1;jy (bA.get e4 h2) λu Rd g1 g2 g3=>(TY (bU e3) fF au (by simpa using g1) ⟨rfl,Rd,g2,λb D=>bY a (g3 b D)⟩)
  |negSucc k=>show fc (CB h) λh1 h2=>fc (fN.mp h1) λh1 h3=>have h1:=dN h1;have h3:=dN h3;jy (bA.get e4 h2) λu Rd g1 g2 g3=>have hl:=bA.length e4;wpAny_getItem_list_neg (bU e3) fF jx au ?_ ⟨rfl,Rd,g2,λb D=>bY a (g3 b D)⟩;show((by simp;lia:(AE k+(vs.toArray.size:Int)).toNat=K.length - (k+1)))▸?_;simpa using g1
 |tuple K=>
  apply pU aO;show λa vs n _ e3 e4=>⟨(kK ("tuple") _ ⟨_,e3,rfl⟩ VM.lookup),?_⟩;cases k with
  |ofNat k=>show fc (CB h) λh1 h2=>have h1:=dN h1;jy (bA.get e4 h2) λu Rd g1 g2 g3=>have jA:=(dR.mp g1).1;getItem_tuple (⟨_,e3,rfl,n,rfl⟩) fF au (Cz jA) (by simpa using g1) ⟨rfl,Rd,g2,λb D=>g3 b D⟩
  |negSucc k=>ext
 |_=>show Bg (by assumption)
theorem wI{a i:aG}{x:AV}{k:Int}(ha:V H U A L J G a av ab)(hi:V H U A L J G i (a6 k) ab)(h:WI av k=O x)(sj:kg i=ab)(s':fr=N->flat x=N):V H U A L J G (dk a i pos) x fr:=λs r=>by show rO ((ha s r).tR λo ax F1 e1 V1 _=>(hi ax (r.ext e1.ext)).CA λt aP e2=>?_);obtain⟨⟨T',id,hT,hl⟩,hg⟩:=Jq (V1.ext e2.ext) h;show tH hT hl (hg.mono λv dp qQ=>iM qQ λe3 F' aO hF=>?_) (uE sj o _);show e3▸o6 F' (e1.trans e2) aO (λq=>by show(cW.1 _ _ _ (s' q) aO)▸?_;show⟨λ_ D=>(kM D),rQ⟩)
theorem tS(s:ae)(D:gU H U s.heap)(B:Tp U)(aO:bA s.heap K vs F)(e:Y={s with heap:=s.heap.push (bp vs 0)}):
 dG H s Y/\bM Y.heap (bS K) (R s.heap.objs.size) (s.heap.objs.size::F):=by
 subst e;show⟨⟨.push _ _,rfl,rfl,eF _⟩,?_⟩;show sf F (fm (jz B D)) (bI _ Z) (aO.ext (H:=H) (.push _ _))
theorem MN(D:gU H U s.heap)(B:Tp U)(aO:bA s.heap K vs F)(e:Y={s with heap:=s.heap.push (cV vs 0)}):
 dG H s Y/\bM Y.heap (fG K) (R s.heap.objs.size) F:=by
 subst e;show⟨⟨.push _ _,rfl,rfl,eF _⟩,?_⟩;show DW _ vs 0 Z (fm (jz B D)) (bI _ Z) (aO.ext (H:=H) (.push _ _))
def fJ(H:List af)(U:aQ)(A:bR)(L:dw)(J:cI)(G:iB)(es:List aG)(avs:List AV):Prop:=
 ∀s pos,ER H U L J s.heap G->T A (xZ (jZ pos (js es J))) s (EPs H s avs)
theorem fJ.nil:fJ H U A L J G [] []:=λs _ _=>T9 (aeA (.refl s) .nil)
theorem fJ.cons(he:V H U A L J G e av ab)(hes:fJ H U A L J G es avs)(dH:cH e=ab):
 fJ H U A L J G (e::es) (av::avs):=λs pos r=>
 Ki ((he s r).tR λv ax F1 e1 V1 _=>(hes ax pos (r.ext e1.ext)).Ra λvs aP F2 e2 V2=>
  (aeA (e1.trans e2) (ej F1 F2 (V1.ext e2.ext) V2))) (dq dH _ _)
theorem o7(B:Tp U)(he:fJ H U A L J G es avs)(hf:iT avs=N)(hl:dY avs.length 1000=N):
 V H U A L J G (Expr.List es pos) (bS avs) fr:=λs r=>by
 show Kz ((he s pos r).Ra λvs ax F1 e1 V1=>⟨?_,?_⟩)
 .have:=bA.length V1;have:=dN hl;lia
 .show fc (tS _ (r.ext e1.ext).base B V1 Z) λe2 aO=>?_;have:F1=[]:=cW.2 _ _ _ hf V1;subst this;show⟨e1.trans e2,_,aO,λ_=>⟨λb D=>by simp at D;subst D;show e1.ext.new (bz _),by simp⟩⟩
theorem uo(B:Tp U)(he:fJ H U A L J G es avs)(hf:iT avs=N)(hl:dY avs.length 1000=N):
 V H U A L J G (fM es k pos) (fG avs) fr:=λs r=>by
 show Er ((he s pos r).Ra λvs ax F1 e1 V1=>⟨?_,?_⟩)
 .have:=bA.length V1;have:=dN hl;lia
 .show fc (MN (r.ext e1.ext).base B V1 Z) λe2 aO=>?_;have:F1=[]:=cW.2 _ _ _ hf V1;subst this;show⟨e1.trans e2,_,aO,λ_=>⟨λb D=>(kM D),rQ⟩⟩
theorem afg{a b:aG}(B:Tp U)(ha:V H U A L J G a (bS K) ab)(D:V H U A L J G b (bS ys) ab)(hf:iT K=N)(hg:iT ys=N)(hl:dY (K.length+ys.length) 1000=N):V H U A L J G (fh a rS b pos) (bS (K++ys)) fr:=λs r=>by show Ep ((ha s r).tR λv ax F1 e1 V1 _=>(D ax (r.ext e1.ext)).tR λu aP F2 e2 V2 _=>?_);apply fQ (V1.ext e2.ext);intro a vs n F' _ a3 a4 ρ;apply fQ V2;intro b ws m Rd _ b3 b4 eF2;have l1:=bA.length a4;have l2:=bA.length b4;have hl:=dN hl;have n1:=cW.2 _ _ _ hf a4;have n2:=cW.2 _ _ _ hg b4;subst n1 n2;show P.add_list a3 b3 ?_ (by have:eN=16777216:=rfl;simp;lia);have Jr:=e1.trans e2;show fc (tS aP (r.ext Jr.ext).base B (bA.append a4 b4) Z) λe3 aO=>(((List.append_toArray vs ws))▸⟨Jr.trans e3,_,aO,λ_=>⟨λb D=>by obtain rfl:=bJ.mp D;show Jr.ext.new (bz _),by simp⟩⟩)
theorem V.len{a:aG}(B:cx U mg mb)(I:dQ mg mb)(kQ:Gi L "len")(ha:V H U A L J G a (bS K) ab)(dH:cH a=ab)(hl:dY K.length 1000000=N):V H U A L J G (bx (aq (aB "len") np) [a] [] pos) (a6 K.length) fr:=λs r=>by have hI:=I ("len",bB "len") aL;show mh<|(eG B r kQ hI.1 hI.2 (rfl)).Dt<|yu ((fJ.cons ha fJ.nil dH s pos r).Ra λvs ax F1 e1 V1=>?_) (dq dH _ _) Z;apply nH V1;intro v G1 V2;apply fQ V2;intro a ws n F' _ a3 a4 _;have l1:=bA.length a4;have hl:=dN hl;show call_len_list (bU a3) jx (((Uj.mpr l1))▸⟨e1.trans (.toks _ _),[],.ofInt _ _,d9⟩)
noncomputable def jd:List AV->Option (List Int)
 | []=>O []
 |a6 i::K=>(jd K).map (i::·)
 |_::_=>ah
theorem nZ(ns:List Int):jd (ns.map a6)=O ns:=by
 induction ns with
 |nil=>rfl
 |cons n ns ih=>show congrArg (Vb (n::·)) ih
theorem zK:∀(k:Nat) (K:List AV),iT K=N->iT (K.drop k)=N:=by
 intro k;induction k with
 |zero=>show λ_ h=>h
 |succ k ih=>show λK h=>match K with
  | []=>rfl
  |_::K=>ih K (fN.mp h).2
theorem zL:∀(k:Nat) (K:List AV),iT K=N->iT (K.take k)=N:=by
 intro k;induction k with
 |zero=>show λ_ _=>rfl
 |succ k ih=>show λK h=>match K with
  | []=>rfl
  |_::K=>fN.mpr ⟨(fN.mp h).1,ih K (fN.mp h).2⟩
theorem Gm:∀{ns:List Int},jd K=O ns->iT K=N:=by
 induction K with
 |nil=>intro _ _;show rfl
 |cons x K iH=>
  intro ns h;cases x with
  |int i=>show bf (jb.mp h) λms h1 _=>(iH h1:)
  |_=>show Bg h
theorem intsAre_of:∀{vs:List aa} {F:List af} {ns:List Int},bA h K vs F->jd K=O ns->fk vs ns:=by
 induction K with
 |nil=>intro vs F ns r e;apply vG r;intro _;obtain rfl:=aW e;show qB
 |cons x K iH=>
  intro vs F ns r e;apply jL r;intro v tQ F1 F2 e2 e3 _;cases x with
  |int i=>show bf (jb.mp e) λms h1 dX=>dX▸?_;apply bM.zJ e2;show λt=>yy i t (iH e3 h1)
  |_=>show Bg e
theorem wJ{ns:List Int}(x:fk vs ns):bA h (ns.map a6) vs []:=by
 induction x with
 |nil=>show .nil
 |cons n t _ ih=>show ej [] [] (.ofInt n t) ih
theorem bA.replicate{x:AV}(E:bM h x v []):∀n:Nat,bA h (b8 n x) (b8 n v) []:=by
 intro xX;induction xX with
 |zero=>show .nil
 |succ n iH=>show ej [] [] E (iH)
theorem Rf{x:aV}(o r:aa):letTemporaryGo (aq x p) o r=pure ():=by cases o<;>rfl
theorem CD{dp:ae}{vl vu:aa}{its:Array aa}(ajZ:its=us.toArray)(r:gU H U dp.heap)(B:Tp U)(e:dG H s dp)(hf:iT ys=N)(aO:bA dp.heap ys us F'):
 dG H s {dp with heap:=(dp.heap.push {cls:=ao "slice",data:=bF #[vl,vu,aA]}).push {cls:=ao "list",data:=bQ its}}/\
  ∃F,bM ((dp.heap.push {cls:=ao "slice",data:=bF #[vl,vu,aA]}).push {cls:=ao "list",data:=bQ its}) (bS ys) (R (dp.heap.objs.size+1)) F/\(fr=N->(∀b∈F,s.heap.get? b=ah)/\F.Nodup):=by
 subst ajZ;have n2:=cW.2 _ _ _ hf aO;subst n2;have x1:gU H dp.heap (dp.heap.push {cls:=ao "slice",data:=bF #[vl,vu,aA]}):=.push _ _;show fc (tS ({dp with heap:=dp.heap.push {cls:=ao "slice",data:=bF #[vl,vu,aA]}}) (r.trans x1) B (aO.ext x1) Z) λe2 V2=>?_;have hs:(dp.heap.push {cls:=ao "slice",data:=bF #[vl,vu,aA]}).objs.size=dp.heap.objs.size+1:=dD ..;rw[hs]at V2;have e1:dG H dp {dp with heap:=dp.heap.push {cls:=ao "slice",data:=bF #[vl,vu,aA]}}:=⟨x1,rfl,rfl,eF _⟩;show⟨e.trans (e1.trans e2),_,V2,λ_=>⟨λb D=>?_,by simp⟩⟩;apply jR D;show e.ext.new<|x1.new<|hs▸bz _
theorem OE{x:aV}(B:Tp U)(ha:V H U A L J G (aq x np) (bS K) ab)(hh:V H U A L J G hi (a6 (ai k)) ab)(hf:iT K=N)(hl:dY K.length 1000000=N):V H U A L J G (dk (aq x np) (mq eX (O hi) eX p) pos) (bS (K.take k)) fr:=λs r=>by show J5 ((ha s r).tR λv ax F1 e1 V1 _=>?_) Rf;show aC ((hh ax (r.ext e1.ext)).CA λt aP e2=>?_);apply fQ (V1.ext e2.ext);intro a vs n F' _ a3 a4 ρ;have hl:=dN hl;have l1:=bA.length a4;show bf (bA.take k a4) λRd V3 _=>afb a vs.toArray eX (O (ai k)) Z (bU a3) (by have:eN=16777216:=rfl;simp;lia) Wm (FL _ _)<|CD (slicePick_upto' vs.toArray k) ((r.ext e1.ext).ext e2.ext).base B (e1.trans e2) (zL k K hf) V3
theorem Rg{x:aV}(B:Tp U)(ha:V H U A L J G (aq x np) (bS K) ab)(hh:V H U A L J G lo (a6 (ai k)) ab)(hf:iT K=N)(hl:dY K.length 1000000=N):V H U A L J G (dk (aq x np) (mq (O lo) eX eX p) pos) (bS (K.drop k)) fr:=λs r=>by show J5 ((ha s r).tR λv ax F1 e1 V1 _=>?_) Rf;show(hh ax (r.ext e1.ext)).CA λt aP e2=>(aC ?_);apply fQ (V1.ext e2.ext);intro a vs n F' _ a3 a4 ρ;have hl:=dN hl;have l1:=bA.length a4;show bf (bA.drop k a4) λRd V3 _=>((afb a vs.toArray (O (ai k)) eX Z (bU a3) (by have:eN=16777216:=rfl;simp;lia) (FL _ _) Wm ?_));show CD (slicePick_from' vs.toArray k) ((r.ext e1.ext).ext e2.ext).base B (e1.trans e2) (zK k K hf) V3
theorem WJ{x:aV}{m:Nat}(B:Tp U)(ha:V H U A L J G (aq x np) (bS K) ab)(hh:V H U A L J G lo (a6 (ai k)) ab)(hj:V H U A L J G hi (a6 (ai m)) ab)(hf:iT K=N)(hl:dY K.length 1000000=N)(Q0:dY k m=N)(hm:dY m K.length=N):
 V H U A L J G (dk (aq x np) (mq (O lo) (O hi) eX p) pos) (bS ((K.drop k).take (m - k))) fr:=λs r=>by
 show J5 ((ha s r).tR λv ax F1 e1 V1 _=>?_) Rf;show(hh ax (r.ext e1.ext)).CA λt aP e2=>((hj aP ((r.ext e1.ext).ext e2.ext)).tR λu' dp F3 e3 V4 _=>?_);obtain⟨t',rfl⟩:=V4.toInt;apply fQ ((V1.ext e2.ext).ext e3.ext);intro a vs n F' _ a3 a4 ρ;have hl:=dN hl;have l1:=bA.length a4;show bf (bA.drop k a4) λRd V3 _=>bf (bA.take (m - k) V3) λF3' V5 _=>afb a vs.toArray (O (ai k)) (O (ai m)) Z (bU a3) (by have:eN=16777216:=rfl;simp;lia) (FL _ _) (FL _ _) (CD (slicePick_run vs.toArray k m (by simp;show le_of_le_of_eq (dN hm) (id (lh l1))) (dN Q0)) (((r.ext e1.ext).ext e2.ext).ext e3.ext).base B ((e1.trans e2).trans e3) (zL _ _ (zK k K hf)) V5)
theorem Yy{x:Int}(hl:s.heap.get? l=O {cls:=ao "list",dict:=ah,data:=bQ items k,slots:=#[]})(IJ: -(2 ^ 63:Int)<=x)(hhi:x<2 ^ 63)(hsz:items.size * x.toNat<=2 ^ 24)(h:Q (R s.heap.objs.size) {s with heap:=s.heap.push {cls:=ao "list",data:=bQ (yi (λx1 x2=>x1++x2) #[] (b8 (if items.isEmpty=N then 0 else x.toNat) items))}}):
 aE (aD prog w) A (binaryOp vA (R l) (ag x u)) Q a0 s:=
 wpAny_binaryOp_repeat_ref (rfl) ⟨_,hl,rfl⟩ (λY=>sP Y x u) noFill_list_mul PySem.F.fills_int_mul FA repeat_list VT.lookup
  (oB FA (sP s x u) VU (VO _ _) (int___rmul___int_list x u l items k)
   ⟨hl,rfl,⟨_,hl,rfl⟩,oB PySem.F.slot_list_mul ⟨_,hl,rfl⟩ PySem.F.entry_list_mul (PySem.F.args_list_mul_2 _ _)
    (AutoListH.list___mul___list_int_3 l items k x u (by simp[abJ];show And.symm ⟨hhi,IJ⟩) au (by simp[VF];assumption))
    ⟨hl,h⟩⟩)
theorem ς(v:aa)(n:Nat):∀(jQ:Array aa),yi (λx1 x2=>x1++x2) jQ (b8 n #[v])=jQ++(b8 n v).toArray:=by
 induction n with
 |zero=>intro jQ;rfl
 |succ n iH=>intro jQ;rw[Uw,iw,iH,Uw];apply A7;simp
theorem Rh{a b:aG}{x:AV}{n:Int}(B:Tp U)(ha:V H U A L J G a (bS [x]) ab)(D:V H U A L J G b (a6 n) ab)(hf:flat x=N)(hl:decide (-1000<=n)=N)(hl2:decide (n<=1000)=N):V H U A L J G (fh a vA b pos) (bS (b8 n.toNat x)) fr:=λs r=>by
 show Ep<|(ha s r).tR λv ax F1 e1 V1 _=>(D ax (r.ext e1.ext)).wp λu aP ow=>iM ow λe2 F2 V2 _=>dF V2.toInt λt dX=>dX▸iP (V1.ext e2.ext) λa vs m F' qI _ a3 a4 DY=>qI▸kO a4 λv tQ G1 G2 Ol V3 V4 C'=>?_;subst Ol;show fc V4 λeQ6 eQ7=>?_;subst eQ6;have n1:=cW.1 _ _ _ hf V3;subst n1;show Yy a3 au au jx ?_;have Jr:=e1.trans e2;have ha:(yi (λx1 x2=>x1++x2) #[] (b8 (if(#[v]:Array aa).isEmpty=N then 0 else n.toNat) #[v]))=(b8 n.toNat v).toArray:=by rw[ς];show Vq
 show ha.symm▸fc (tS aP (r.ext Jr.ext).base B (bA.replicate V3 n.toNat) Z) λe3 aO=>⟨Jr.trans e3,_,aO,λ_=>⟨λb D=>by simp at D;subst D;show Jr.ext.new (bz _),by simp⟩⟩
theorem Gn{a b:aa}{ns ms:List Int}(hA:ν k A)(hk:4<=k)(V1:bM s.heap (bS K) a F)(V2:bM s.heap (bS ys) b F')(h1:jd K=O ns)(h2:jd ys=O ms):
 T A (Ey Be a b) s (λv Y=>Y=s/\v=c9 (decide (ns=ms)))/\T A (Ey FJ a b) s (λv Y=>Y=s/\v=c9 (!decide (ns=ms))):=by
 apply fQ V1;intro a vs n G _ a3 a4 _;apply fQ V2;intro b ws m G' _ b3 b4 _;have hu:A.units+64<cLine:=by have:=hA.units;have:cLine=9900:=rfl;lia
 show⟨PySem.W.ke_eq_ints (bU a3) (bU b3) (intsAre_of a4 h1) (intsAre_of b4 h2) hu ⟨rfl,rfl⟩,PySem.W.ke_ne_ints (bU a3) (bU b3) (intsAre_of a4 h1) (intsAre_of b4 h2) hu ⟨rfl,rfl⟩⟩
theorem ab2{a b:aG}{ns ms:List Int}(hA:ν k A)(hk:4<=k)(ha:V H U A L J G a (bS K) ab)(D:V H U A L J G b (bS ys) ab)(h1:jd K=O ns)(h2:jd ys=O ms):pO H U A L J G (jw a [FJ] [b] pos) (!decide (ns=ms)):=λs r=>by show uT ((ha s r).tR λv ax F1 e1 V1 _=>(D ax (r.ext e1.ext)).tR λu aP F2 e2 V2 _=>?_) (si .ne b);show T.Dt (Gn hA hk (V1.ext e2.ext) V2 h1 h2).2 (mf ⟨e1.trans e2,rfl⟩)
theorem pO.WK{a:aG}{y:aV}{x:Int}{ms:List Int}(ha:V H U A L J G a (a6 x) ab)(D:V H U A L J G (aq y np) (bS ys) ab)(h2:jd ys=O ms):pO H U A L J G (jw a [Bd] [aq y np] pos) (!(ms.any (· ==x))):=λs r=>by show uT ((ha s r).CA λt ax e1=>(D ax (r.ext e1.ext)).tR λu aP F2 e2 V2 _=>?_) Z;apply fQ V2;show λb ws m G' _ b3 b4 _=>notin_list_ints (bU b3) (intsAre_of b4 h2) (mf ⟨e1.trans e2,rfl⟩)
theorem ab3{a b:aG}{x y:Int}(hA:ν k A)(B:cx U mg mb)(I:dQ mg mb)(kQ:Gi L "min")(ha:V H U A L J G a (a6 x) ab)(D:V H U A L J G b (a6 y) ab)(WL:cH a=ab)(hb':cH b=ab):V H U A L J G (bx (aq (aB "min") np) [a,b] [] pos) (a6 (if y<x then y else x)) fr:=λs r=>by
 have hI:=I ("min",bB "min") aL;show mh<|(eG B r kQ hI.1 hI.2 (rfl)).Dt<|yu ((fJ.cons ha (fJ.cons D fJ.nil hb') WL s pos r).Ra λvs ax F1 e1 V1=>?_) (dq WL _ _) (by rw[dq hb'];rfl);apply nJ V1;intro v v2 G1 G3 V2 V4;apply bM.zJ V2;intro t;show dF V4.toInt λt' dX=>dX▸min_two_ints hA.hd λh' tk hk=>(o6 [] (e1.trans ⟨.of_keep hk,rfl,rfl,eF _⟩) ?_ d9);by_cases c:y<x
 .rw [if_pos c,if_pos c];show .ofInt _ _
 .rw [if_neg c,if_neg c];show .ofInt _ _
section
variable{H:List af}{h:aQ}
theorem MH.uniq{x:Nat}{c c':Option af}{v v':Option aa}(p:MH h fd x c v)(q:MH h fd x c' v'):c=c'/\v=v':=by show og λgG kG=>l0 p λk v1 g1 g2 g3 _ i1=>bf i1 λoo g5 g6=>l0 q λk' v1' g1' g2' g3' _ i1=>bf i1 λoo' g5' g6'=>kG ?_;clear kG gG;obtain rfl:=aW (g3.symm.trans g3');obtain rfl:=aW (g5.symm.trans g5');show⟨g1.trans g1'.symm,g2.trans ((Data.cell.inj (g6.symm.trans g6')).trans g2'.symm)⟩
theorem vF.uniq{cs cs':List af}{tQ:List aa}(p:vF h ns fd cs vs)(q:vF h ns fd cs' tQ):cs=cs'/\vs=tQ:=by
 have hc:∀i:Nat,cs[i]? =cs'[i]? /\vs[i]? =tQ[i]? :=λi=>by show δ (ns[i]?) (λhi=>?_) λx hi=>(p.1 i x hi).uniq (q.1 i x hi);have h1:∀{α:Type} (l:List α),l.length=ns.length->l[i]? =eX:=λl hl=>Up.mpr (hl▸Up.mp hi);show(h1 cs p.2.1).symm▸(h1 cs' q.2.1).symm▸(h1 vs p.2.2).symm▸(h1 tQ q.2.2).symm▸⟨rfl,rfl⟩
 show⟨EM λi=>(hc i).1,EM λi=>(hc i).2⟩
theorem Ri:(∀(av:AV) (v:aa) (F F':List af),bM h av v F->bM h av v F'->F=F')/\∀(K:List AV) (vs:List aa) (F F':List af),bA h K vs F->bA h K vs F'->F=F':=by
 have fl:∀(p:Prop) (F F':List af),p/\F=[]->p/\F'=[]->F=F':=λ_ _ _ r q=>r.2.trans q.2.symm;show Bl (λ_=>fl _) (λ_ _=>fl _) (λ_ _=>fl _) (λ_ _=>fl _) (λu x ih v F F' r q=>ih v F F' r.2 q.2) (λK ih v F F' r q=>?_) (λK ih v F F' r q=>?_) (λf ns K ih v F F' r q=>?_) (λ_=>fl _) (λx K i1 i2 vs F F' r q=>?_)
 .show fP r λa vs n G e1 _ e3 e4 dX=>(fP q λa' tQ n' G' Rj _ τ e4' qI=>?_);obtain rfl:=j9 (e1.symm.trans Rj);have e:vs=tQ:=congrArg Vu (Wy (congrArg Fb (aW (e3.symm.trans τ)))).1;show dX▸qI▸congrArg _ (ih vs _ _ e4 (e▸e4'))
 .show gH r λa vs n e1 _ e3 e4=>(gH q λa' tQ n' Rj _ τ e4'=>?_);obtain rfl:=j9 (e1.symm.trans Rj);have e:vs=tQ:=congrArg Vu (Wy (congrArg Fb (aW (e3.symm.trans τ)))).1;show ih vs _ _ e4 (e▸e4')
 .show kq r λa o fd cs vs G e1 _ e3 e4 _ _ c e5 DY=>(kq q λa' o' fd' cs' tQ G' Rj _ τ e4' _ _ c' e5' Ol=>?_);obtain rfl:=j9 (e1.symm.trans Rj);obtain rfl:=aW (e3.symm.trans τ);obtain rfl:=Data.func.inj (e4.symm.trans e4');show fc (c.uniq c') λh1 h2=>?_;rw[DY,Ol,h1,ih vs _ _ e5 (h2▸e5')]
 .show gr r λv tQ F1 F2 e1 e2 e3 dX=>(gr q λv' alV F1' F2' Rj e2' τ qI=>?_);obtain⟨rfl,rfl⟩:=my (e1.symm.trans Rj);rw[dX,qI,i1 v _ _ e2 e2',i2 tQ _ _ e3 τ]
theorem bM.uniq(r:bM h av v F)(q:bM h av v F'):F=F':=Ri.1 av v F F' r q
theorem Du:(∀(av:AV) (v:aa) (F:List af),bM h av v F->∀b∈F,b∉bX/\∃o,h.get? b=O o/\((o.cls=ao "list" /\∃vs n,o.data=bQ vs n)\/∃v,o.data=oS v))/\
 ∀(K:List AV) (vs:List aa) (F:List af),bA h K vs F->∀b∈F,b∉bX/\∃o,h.get? b=O o/\((o.cls=ao "list" /\∃vs n,o.data=bQ vs n)\/∃v,o.data=oS v):=by
 have fl:∀{p:Prop} {F:List af} {P:af->Prop},p/\F=[]->∀b∈F,P b:=λr b D=>kM (r.2▸D);show Bl (λ_ _=>fl) (λ_ _ _=>fl) (λ_ _ _=>fl) (λ_ _ _=>fl) (λu x ih v F r=>ih v F r.2) (λK ih v F r b D=>?_) (λK ih v F r b D=>gH r λa vs n e1 _ e3 e4=>ih vs F e4 b D) (λf ns K ih v F r b D=>?_) (λ_ _=>fl) (λx K i1 i2 vs F r b D=>?_)
 .show fP r λa vs n G e1 e2 e3 e4 dX=>?_;subst dX;show ba (bq.mp D) (λa1=>a1▸⟨e2,_,e3,ak ⟨rfl,_,_,rfl⟩⟩) λD=>ih vs G e4 b D
 .show kq r λa o fd cs vs G e1 _ e3 e4 _ _ cc e5 qI=>?_;subst qI;rcases bZ.mp D with D|D
  .show dF (sX D) λi hi=>?_;have jA:i<ns.length:=cc.2.1▸(dR.mp hi).1;show og λgG kG=>l0 (cc.1 i ns[i] (dE jA)) λk v1 g1 g2 g3 g4 i1=>bf i1 λoo g5 g6=>?_;show kG ?_;clear kG gG;show aW (hi.symm.trans g1)▸⟨g4,oo,g5,aw ⟨_,g6⟩⟩
  .show ih vs G e5 b D
 .show gr r λv tQ F1 F2 e1 e2 e3 dX=>?_;subst dX;show ba (bZ.mp D) (λD=>i1 v F1 e2 b D) λD=>i2 tQ F2 e3 b D
theorem bM.kinds(r:bM h av v F):∀b∈F,b∉bX/\∃o,h.get? b=O o/\((o.cls=ao "list" /\∃vs n,o.data=bQ vs n)\/∃v,o.data=oS v):=Du.1 av v F r
theorem bA.kinds(r:bA h K vs F):∀b∈F,b∉bX/\∃o,h.get? b=O o/\((o.cls=ao "list" /\∃vs n,o.data=bQ vs n)\/∃v,o.data=oS v):=Du.2 K vs F r
end
theorem Aj.uniq{J:cI}{h:aQ}{x:aV}{v':aa}(a:Aj J h x v)(b:Aj J h x v'):v=v':=by
 rcases a with⟨k,m,n,e⟩|⟨k,c,e1,_,⟨o,e2,e3⟩⟩<;>rcases b with⟨k',m',n',e'⟩|⟨k',c',Rj,_,⟨o',e2',τ⟩⟩
 .show gH n λo es ep a1 a2 _ a3=>(gH n' λo' es' ep' b1 b2 _ b3=>?_);replace b1:=a1▸b1;obtain rfl:=aW b1;replace b2:=a2▸b2;cases b2
  have:=a3 x;rw[b3 x,e',e]at this;show(aW this).symm
 .rw [k]at k';rcases k' with k' |k'<;>cases k'
 .rw [k']at k;rcases k with k|k<;>cases k
 .obtain rfl:=aW (e1.symm.trans Rj);obtain rfl:=aW (e2.symm.trans e2');rw[e3]at τ;simp only[Data.cell.injEq,Option.some.injEq]at τ;show τ
def LS(h:aQ)(b:af):Prop:=∃vs n,h.get? b=O (bp vs n)
theorem LS.ext{h:aQ}(x:gU H h h')(ht:b∉bX)(l:LS h b):LS h' b:=jg l λvs n e=>qG vs n (x.keep b _ ht e)
theorem LS.mP{h:aQ}{v:Option aa}(l:LS h b)(c:h.IsCell b v):False:=by show jg l λvs n e=>(bf c λo e' d=>?_);obtain rfl:=aW (e.symm.trans e');ext
theorem LS.MO{h:aQ}(l:LS h b)(c:h.Ns b m):False:=by show jg l λvs n e=>(tN c λo es ep e' d _=>?_);replace e':=e▸e';obtain rfl:=aW e';ext
section
variable(J:cI)(h:aQ)(G:iB)(W:List af)(val:Nat->aa)(fp:Nat->List af)(x:Nat)
structure afh(b:af):Prop where
 mem:b∈W
 ls:LS h b
 ap:∀y k' mI,ck G y=O (k',mI)->y≠x->b∉fp y
structure Own:Prop where
 nd:(fp x).Nodup
 el:∀b∈fp x,afh h G W fp x b
structure Ent(k:Nat)(av:AV):Prop where
 has:Aj J h (NM x) (val x)
 rel:bM h av (val x) (fp x)
 own:k=1->Own h G W fp x
 shd:k≠1->∀b∈fp x,b∉W
variable{J h G W val fp x}
theorem qJ{P:Prop}(q:afh h G W fp x b)(k:b∈W->LS h b->(∀y k' mI,ck G y=O (k',mI)->y≠x->b∉fp y)->P):P:=k q.1 q.2 q.3
theorem mC{P:Prop}(q:Ent J h G W val fp x k av)(c:Aj J h (NM x) (val x)->bM h av (val x) (fp x)->(k=1->Own h G W fp x)->(k≠1->∀b∈fp x,b∉W)->P):P:=c q.1 q.2 q.3 q.4
theorem Ent.of(e1:val x=v)(e2:fp x=F)(a:Aj J h (NM x) v)(b:bM h av v F)(n:k=1->F.Nodup)(c:k=1->∀b∈F,afh h G W fp x b)(d:k≠1->∀b∈F,b∉W):Ent J h G W val fp x k av:=by subst e1 e2;show⟨a,b,λq=>⟨n q,c q⟩,d⟩
variable(J h G W val fp)
def aj0:Prop:=∀x k av,ck G x=O (k,av)->Ent J h G W val fp x k av
end
section
variable(H:List af)(U:aQ)
structure FR(D:aQ)(L:dw)(J:cI)(h:aQ)(G:iB)(W:List af):Prop where
 b1:gU H U D
 ext:gU H D h
 scope:J.scope=L
 kind:L.kind=dZ
 glob:J.globals=ef
 bi:J.builtins=fY
 loc:J.locals∈W
 ns:∃m,h.Ns J.locals m
 cell:∀x,L.names.lookup (NM x)=O dz->∃c,J.cells.lookup (NM x)=O c/\(∃v,h.IsCell c v)/\c∉bX/\((∃av,ck G x=O (2,av))\/c∈W)
 pV:∀x y c,L.names.lookup (NM x)=O dz->J.cells.lookup (NM x)=O c->J.cells.lookup (NM y)=O c->y=x
 jh:∀b∈W,D.get? b=ah/\b∉bX/\Ct h b
 ents:∃(val:Nat->aa) (fp:Nat->List af),aj0 J h G W val fp
end
section
variable{H:List af}{U:aQ}{J:cI}{h:aQ}{G:iB}{W:List af}
theorem FR.base(r:FR H U D L J h G W):gU H U h:=r.b1.trans r.ext
theorem FR.er(r:FR H U D L J h G W):ER H U L J h G where
 base:=r.base
 kind:=r.scope.symm▸r.kind
 gl:=λx E=>by delta kb;show r.scope.symm▸?_;show E
 WH:=λx E=>by delta kb;show r.scope.symm▸E
 glob:=r.glob
 bi:=r.bi
 loc:=(r.jh _ r.loc).2.1
 has:=λx k av e=>jg r.ents λval fp q=>kK (val x) (fp x) ((q x k av e).1) ((q x k av e).2)
theorem Ct.ext(x:gU H h h')(ht:b∉bX)(m:Ct h b):Ct h' b:=bf m λo e r=>cn o (x.keep b o ht e) r
theorem FR.ab4(r:FR H U D L J h G W)(b1:gU τ' U D)(x:gU τ' D h')(kW:∀b∈W,∀o,h.get? b=O o->h'.get? b=O o)(kC:∀c v,c∉bX->h.IsCell c v->h'.IsCell c v)(kE:∀y k av v F,ck G y=O (k,av)->bM h av v F->bM h' av v F):FR τ' U D L J h' G W where
 b1:=b1
 ext:=x
 scope:=r.scope
 kind:=r.kind
 glob:=r.glob
 bi:=r.bi
 loc:=r.loc
 ns:=r.ns.imp λm n=>n.at' (kW _ r.loc)
 cell:=λy hy=>lZ (r.cell y hy) λc a b d e=>wC c a (b.imp λv q=>kC c v d q) d e
 pV:=r.pV
 jh:=λb D=>hJ (r.jh b D) λp q m=>gI p q (Bf (λo q=>⟨kW b D o q.1,q.2⟩) m)
 ents:=jg r.ents λval fp q=>qG val fp (λy k av e=>mC (q y k av e) λa b c d=>⟨a.imp (λq=>⟨q.1,q.2.imp λm q=>⟨q.1.at' (kW _ r.loc),q.2⟩⟩) λq=>⟨q.1,q.2.imp λc q=>⟨q.1,q.2.1,kC _ _ q.2.1 q.2.2⟩⟩,kE y k av _ _ e b,
  λhk=>⟨(c hk).1,λz hz=>qJ ((c hk).2 z hz) λp1 p2 p3=>⟨p1,p2.imp λvs q=>q.imp λn q=>kW z p1 _ q,p3⟩⟩,d⟩)
theorem FR.grow(r:FR H U D L J h G W)(x:gU H h h'):FR H U D L J h' G W:=
 r.ab4 r.b1 (r.ext.trans x) (λb hb' o e=>x.keep b o (r.jh b hb').2.1 e) (λ_ _ ht q=>x.cell ht q) λ_ _ _ _ _ _ aO=>aO.ext x
theorem Dv(hs:gu a h h')(ha:U.get? a=ah)(hm:∃o,h'.get? a=O o)(e:gU H U h)(ht:a∉bX):gU H U h' where
 keep:=λb o D q=>(hs.2 b (λe'=>by subst e';have q:=ha.symm.trans q;ext)).trans (e.keep b o D q)
 tab:=λb D ps q=>dF (e.tab b D ps q) λm q'=>⟨m,(hs.2 b (λe'=>by subst e';show ht D)).trans q'⟩
 there:=λb o q=>if Om:b=a then Om▸hm else dF (e.there b o q) λo' q'=>⟨o',(hs.2 b Om).trans q'⟩
 quiet:=λb o D ht' q=>(hs.2 b (λe'=>by subst e';show ht D)).trans (e.quiet b o D ht' q)
theorem n0(hs:gu a h h')(hm:∃o,h'.get? a=O o)(ha:a∈W)(ht:a∉bX):Mod W h h' where
 keep:=λb o D _ q=>(hs.2 b (λe'=>by subst e';show D ha)).trans q
 tab:=λb D ps q=>⟨#[],(hs.2 b (λe'=>by subst e';show ht D)).trans q⟩
 there:=λb o q=>if Om:b=a then Om▸hm else⟨o,(hs.2 b Om).trans q⟩
theorem Ct.same(hs:gu a h h')(hm:Ct h' a)(m:Ct h b):Ct h' b:=by
 by_cases Om:b=a
 .subst Om;show hm
 .show bf m λo e r=>cn o ((hs.2 b Om).trans e) r
theorem MP(n:h.Ns a m):Ct h a:=tN n λo es ep ho hd _=>cn o ho (aw (ak ⟨es,ep,hd⟩))
theorem Gp{v:Option aa}(n:h.IsCell a v):Ct h a:=bf n λo ho hd=>cn o ho (aw (aw ⟨v,hd⟩))
end
noncomputable def ab5(W F:List af):List af:=W.filter λb=> !F.contains b
theorem iU{W:List af}:b∈ab5 W F↔b∈W/\b∉F:=by
 delta ab5
 simp
def share(G:iB)(y:Nat):iB:=(ck G y).elim G λp=>cond (fD p.1 1) (jk G y 0 p.2) G
theorem uF(G:iB)(y:Nat):(∃av,ck G y=O (1,av)/\share G y=jk G y 0 av)\/(share G y=G/\∀av,ck G y≠O (1,av)):=by
 delta share
 cases ck G y with
 |none=>show aw ⟨rfl,λ_=>Bg⟩
 |some p=>
  obtain⟨n,av⟩:=p;show if h:n=1 then ?_ else aw ⟨congrArg (λb=>cond b (jk G y 0 av) G) ((Mv n 1).trans (decide_eq_false h)),λ_ e=>h (congrArg Prod.fst (aW e))⟩
  subst h;show ak ⟨av,rfl,rfl⟩
theorem Gq(G:iB)(y x:Nat)(e:ck (share G y) x=O (k,av)):∃k',ck G x=O (k',av)/\(k=k'\/(x=y/\k'=1/\k=0)):=by show(uF G y).elim (λi=>bf i λmI h q=>?_) λi=>⟨k,i.1▸e,ak Z⟩;rw[q,fH]at e;show if r:x=y then Yu (aW ((if_pos r).symm.trans e)) λa1 a2=>⟨1,r▸a2▸h,aw ⟨r,rfl,a1.symm⟩⟩ else⟨k,(if_neg r).symm.trans e,ak Z⟩
theorem Rk(G:iB)(y:Nat):ck (share G y) y≠O (1,av):=by show(uF G y).elim (λi=>bf i λmI h q e=>?_) λi=>i.1.symm▸i.2 av;rw[q,fH,if_pos Z]at e;show Yu (aW e) λa1 _=>nnZ a1
theorem IM{G:iB}{x:Nat}(h:x≠y):ck (share G y) x=ck G x:=
 (uF G y).elim (λi=>bf i λmI _ q=>by rw[q,fH,if_neg h]) λi=>congrArg (ck · x) i.1
theorem ab6{G:iB}{x:Nat}(h:ck G x=O (2,av)):ck (share G y) x=O (2,av):=by
 by_cases e:x=y
 .show (uF G y).elim (λi=>bf i λmI h' _=>Yu (aW (h'.symm.trans (e▸h))) λa1 _=>(uj Z a1).elim) λi=>i.1.symm▸h
 .show (IM e).symm▸h
theorem Ent.ug{J:cI}{h:aQ}{G:iB}{W:List af}{val:Nat->aa}{fp:Nat->List af}{x:Nat}{P:List af->Prop}(q:Ent J h G W val fp x k av)(cA:Aj J h (NM x) v)(aO:bM h av v F)(p:P (fp x)):P F:=by rw[cA.uniq q.1]at aO;show bM.uniq aO q.2▸p
section
variable{H:List af}{U:aQ}{J:cI}{h:aQ}{G:iB}{W:List af}
set_option tactic.hygienic true in
theorem FR.share(r:FR H U D L J h G W)(y:Nat):∃W',FR H U D L J h (Lake.share G y) W'/\(∀b∈W',b∈W)/\
 ∀k av v F,ck G y=O (k,av)->Aj J h (NM y) v->bM h av v F->∀b∈F,b∉W':=by
 show jg r.ents λval fp q=>?_;cases hy:ck G y with
 |none=>show kJ W ?_ (λ_ D=>D) (λk av v F e=>Bg e);show(uF G y).elim (λi=>bf i λ_ h _=>Bg (hy.symm.trans h)) λi=>i.1.symm▸r
 |some p=>
  obtain⟨k,av⟩:=p;by_cases hk:k=1
  .subst hk;show mC (q y 1 av hy) λa1 a2 a3 a4=>((kJ (ab5 W (fp y)) ?_ (λb D=>(iU.mp D).1) (λk' mI v F e cA aO b D hw=>?_)))
   .show ⟨r.b1,r.ext,r.scope,r.kind,r.glob,r.bi,iU.mpr ⟨r.loc,λhf=>dF r.ns λm n=>(((a3 Z).2 _ hf).2.MO n)⟩,r.ns,λx E=>?_,r.pV,λb D=>r.jh b (iU.mp D).1,val,fp,λx k' mI e=>?_⟩
    .obtain ⟨c,c1,⟨cv,c2⟩,c3,c4⟩:=r.cell x E;show wC c c1 ⟨cv,c2⟩ c3 ?_;rcases c4 with⟨av2,c4⟩|c4
     .show ak ⟨av2,ab6 c4⟩
     .show aw (iU.mpr ⟨c4,λhf=>((a3 Z).2 _ hf).2.mP c2⟩)
    .show bf (Gq G y x e) λk'' e' WM=>mC (q x k'' mI e') λb1 b2 b3 b4=>⟨b1,b2,λh1=>?_,λh1 b D hw=>?_⟩
     .cases h1
      rcases WM with rfl|⟨_,_,h2⟩
      .have hxy:x≠y:=λh3=>by subst h3;show Rk G x e
       show⟨(b3 Z).1,λb D=>?_⟩;show qJ ((b3 Z).2 b D) λp1 p2 p3=>(⟨iU.mpr ⟨p1,p3 y 1 av hy (λh3=>hxy h3.symm)⟩,p2,λz k3 Yz e3 hz=>?_⟩);show bf (Gq G y z e3) λk4 e4 _=>(p3 z k4 Yz e4 hz)
      .ext
     .show fc (iU.mp hw) λw1 w2=>?_;rcases WM with rfl|⟨h2,_,_⟩
      .show b4 h1 b D w1
      .subst h2;show w2 D
   .show Yu (aW e) λa1 a2=>?_;subst a1;subst a2;show(iU.mp hw).2 ((q y 1 av hy).ug (P:=λF=>b∈F->b∈fp y) cA aO id D)
  .show kJ W ((uF G y).elim (λi=>bf i λ_ h _=>(hk (congrArg Prod.fst (aW (hy.symm.trans h)))).elim) λi=>i.1.symm▸r) (λ_ D=>D)<|λk' mI v F e cA aO b D hw=>Yu (aW e) λa1 a2=>?_;subst a1;subst a2;show(q y k av hy).shd hk b ((q y k av hy).ug (P:=λF=>b∈F->b∈fp y) cA aO id D) hw
def bT(G:iB)(x:Nat):Bool:=match ck G x with
 |some (2,_)=>ab
 |_=>N
theorem zm{G:iB}{x:Nat}(h:bT G x=N):ck G x≠O (2,av):=λe=>by unfold bT at h;have h:=e▸h;ext
theorem FR.stored{x:Nat}(r:FR H U D L J h G W)(hs:gu a h h')(ha:a∈W)(hm:Ct h' a)(Gu:¬LS h a)(wK:∃m,h'.Ns J.locals m)(OF:∀c w,a=c->h.IsCell c w->∃w',h'.IsCell c w')(aj1:∀y w,y≠x->Aj J h (NM y) w->Aj J h' (NM y) w)(E:Aj J h' (NM x) v)(aO:bM h av v F)(hWW:∀b∈W,b∈W')(CE:∀b∈W',b∈W\/(b∈F/\k=1))(dH:bT G x=N)(hk:k=1->F.Nodup/\∀b∈F,b∈W'/\LS h b/\D.get? b=ah/\∀y k' mI v' F',y≠x->ck G y=O (k',mI)->Aj J h (NM y) v'->bM h mI v' F'->b∉F')(hk0:k=0->∀b∈F,b∉W')(afi:k=0\/k=1):FR H U D L J h' (jk G x k av) W':=by
 have ht:=(r.jh a ha).2.1;have hma:∃o,h'.get? a=O o:=bf hm λo e _=>⟨o,e⟩;have M:Mod [a] h h':=n0 hs hma au ht;have hmm:∀b∈[a],Ct h b:=λb D=>by show bJ.mp D▸?_;show(r.jh _ ha).2.2
 have LSk:∀b,LS h b->LS h' b:=λb l=>by
  show if Om:b=a then ?_ else jg l λvs n e=>qG vs n ((hs.2 b Om).trans e)
  cases Om;show(Gu l).elim
 show jg r.ents λval fp q=>?_
 -- a is in no YA of ajM name,nor of the new value
 have aF:a∉F:=λhf=>ba afi (λh0=>hk0 h0 a hf (hWW a ha)) λh1=>Gu ((hk h1).2 a hf).2.1;have afp:=λy k' mI e hf=>by show mC (q y k' mI e) λb1 b2 b3 b4=>if h1:k'=1 then Gu ((b3 h1).2 a hf).2 else b4 h1 a hf ha
 show⟨r.b1,Dv hs (r.jh a ha).1 hma r.ext ht,r.scope,r.kind,r.glob,r.bi,hWW _ r.loc,wK,λy hy=>?_,r.pV,λb hb'=>?_,λy=>if y=x then v else val y,λy=>if y=x then F else fp y,λy k' mI e=>?_⟩
 .show lZ (r.cell y hy) λc c1 i1 c3 c4=>dF i1 λcv c2=>wC c c1 (if hca:a=c then OF c cv hca c2 else bf c2 λo e d=>kK cv o ((hs.2 c (λe'=>hca e'.symm)).trans e) d) c3 ?_;rcases c4 with⟨av2,c4⟩|c4
  .show ak ⟨av2,?_⟩;rw[fH];show if hyx:y=x then ?_ else(if_neg hyx).symm▸c4
   cases hyx;show((zm dH) c4).elim
  .show aw (hWW c c4)
 .rcases CE b hb' with hb' |⟨hb',h1⟩
  .show hJ (r.jh b hb') λp1 p2 p3=>gI p1 p2 (Ct.same hs hm p3)
  .show fc (hk h1) λ_ p=>iL (p b hb') λ_ p2 p3 _=>gI p3 ((aO.kinds b hb').1) (jg (LSk b p2) λvs n e=>cn _ e (ak ⟨rfl,_,_,rfl⟩))
 .rw [fH]at e;rcases yB (y=x) with hyx|hyx
  .cases hyx
   replace e:=(if_pos Z)▸e;cases e
   show .of (if_pos Z) (if_pos Z) E (aO.mod M hmm _ _ _ λb hb'=>sR λe'=>aF (e'▸hb')) (λh1=>(hk h1).1) (λh1 b hb'=>?_) (λh1 b hb'=>ba afi (λh0=>hk0 h0 b hb') λh0=>(h1 h0).elim);show iL ((hk h1).2 b hb') λp1 p2 p3 p4=>(⟨p1,LSk b p2,λz k3 Yz e3 hz=>?_⟩);rw[fH,if_neg hz]at e3;rw[if_neg hz];show p4 z k3 Yz _ _ hz e3 (q z k3 Yz e3).1 (q z k3 Yz e3).2
  .have e:=(if_neg hyx).symm.trans e;show mC (q y k' mI e) λb1 b2 b3 b4=>(.of (if_neg hyx) (if_neg hyx) (aj1 y _ hyx b1) (b2.mod M hmm _ _ _ λb hb'=>sR λe'=>afp y k' mI e (e'▸hb')) (λh1=>(b3 h1).1) (λh1 b hb'=>?_) (λh1 b hb' hw=>?_))
   .show qJ ((b3 h1).2 b hb') λp1 p2 p3=>(⟨hWW b p1,LSk b p2,λz k3 Yz e3 hz=>?_⟩);rw[fH]at e3;by_cases hzx:z=x
    .rw [if_pos hzx];intro hbF;show ba afi (λh0=>hk0 h0 b hbF (hWW b p1)) λh0=>((hk h0).2 b hbF).2.2.2 y k' mI _ _ hyx e b1 b2 hb'
    .rw [if_neg hzx]at e3;rw[if_neg hzx];show p3 z k3 Yz e3 hz
   .rcases CE b hw with hw|⟨hw,h0⟩
    .show b4 h1 b hb' hw
    .show ((hk h0).2 b hw).2.2.2 y k' mI _ _ hyx e b1 b2 hb'
end
structure mD(W:List af)(s Y:ae):Prop where
 mod:Mod W s.heap Y.heap
 os:Y.os=s.os
 drawn:Y.drawn=s.drawn
 gens:Y.gens=s.gens
theorem mD.refl(W:List af)(s:ae):mD W s s:=⟨.refl _ _,rfl,rfl,eF _⟩
theorem dG.smod(W:List af)(x:dG H s Y):mD W s Y:=⟨x.ext.mod W,x.os,x.drawn,x.gens⟩
theorem mD.trans{a b c:ae}(x:mD W a b)(y:mD W' b c)(hw:∀d,d∈W'->d∈W\/a.heap.get? d=ah):mD W a c:=
 ⟨x.mod.trans y.mod hw,y.os.trans x.os,y.drawn.trans x.drawn,y.gens.trans x.gens⟩
theorem dG.sm{a b c:ae}(e:dG H a b)(m:mD W b c):mD W a c:=(e.smod W).trans m λ_ h=>ak h
theorem dG.mm{a b:ae}(e:dG H a b)(m:Mod W b.heap h'):mD W a {b with heap:=h'}:=e.sm ⟨m,rfl,rfl,eF _⟩
theorem Mod.new(x:Mod W h h')(e:h'.get? b=ah):h.get? b=ah:=by
 cases q:h.get? b with
 |none=>rfl
 |some o=>show dF (x.there b o q) λo' e'=>?_;have e':=e.symm.trans e';ext
theorem Ns.mP{v:Option aa}(n:h.Ns a m)(c:h.IsCell a v):False:=by show tN n λo es ep a1 a2 _=>(bf c λo' b1 b2=>?_);replace b1:=a1▸b1;obtain rfl:=aW b1;have b2:=a2▸b2;ext
structure rU(D:aQ)(J:cI)(h:aQ)(G:iB)(W W':List af)(x k:Nat)(F:List af):Prop where
 sub:∀b∈W,b∈W'
 sup:∀b∈W',b∈W\/(b∈F/\k=1)
 own:k=1->F.Nodup/\∀b∈F,b∈W'/\LS h b/\D.get? b=ah/\∀y k' mI v' F',y≠x->ck G y=O (k',mI)->Aj J h (NM y) v'->bM h mI v' F'->b∉F'
 shared:k=0->∀b∈F,b∉W'
 kind:k=0\/k=1
theorem kh(r:FR H U D L J s.heap G W)(E:Hx L x)(dH:bT G x=N)(aO:bM s.heap av v F)(gy:rU D J s.heap G W W' x k F):
 T A (As J (NM x) v) s (λ_ Y=>FR H U D L J Y.heap (jk G x k av) W'/\mD W s Y):=by
 have zo:J.scope.kind=dZ:=by rw[r.scope];show r.kind
 show dF r.ns λm n=>?_;rcases E with hl|hl
 .have WN:J.kindOf (NM x)=O cU:=by delta kb;rw[r.scope];show hl
  show sM WN n (λh' wu zM=>?_) (by show zo.symm▸?_;rfl);show⟨r.stored zM r.loc (MP wu) (λl=>l.MO n) ⟨_,wu⟩ (λc cv e hc=>?_) (λy u hy cA=>?_) (ak ⟨WN,_,wu,if_pos Z⟩) aO gy.sub gy.sup dH gy.own gy.shared gy.kind,
   ⟨n0 zM (bf (MP wu) λo e _=>⟨o,e⟩) r.loc (r.jh _ r.loc).2.1,rfl,rfl,eF _⟩⟩
  .subst e;show((λhc=>Ns.mP n hc) hc).elim
  .rcases cA with⟨k1,m1,n1,e1⟩|⟨k1,c,e1,e2,o,e3,e4⟩
   .show ak ⟨k1,_,wu,?_⟩;rw[if_neg (λe=>hy (Cy e)),Heap.Ns.agree n n1];show e1
   .show aw ⟨k1,c,e1,e2,o,(zM.2 c (λe=>?_)).trans e3,e4⟩;subst e;show Ns.mP n (cn o e3 e4)
 .have WN:J.kindOf (NM x)=O dz:=by delta kb;rw[r.scope];show hl
  show og λgG kG=>lZ (r.cell x hl) λc c1 i1 c3 c4=>dF i1 λcv c2=>kG ?_;clear kG gG;have hcW:c∈W:=by
   rcases c4 with⟨av2,c4⟩|c4
   .show ((zm dH) c4).elim
   .show c4
  have hlc:J.locals≠c:=λe=>by subst e;show Ns.mP n c2
  show wpAny_storeName_cell zo WN c1 c2 λh' hc' zM=>⟨r.stored zM hcW (Gp hc') (λl=>l.mP c2) ⟨m,n.sameBut zM hlc⟩ (λc' cv' e hc2=>?_) (λy u hy cA=>?_) (aw ⟨ak WN,c,c1,c3,hc'⟩) aO gy.sub gy.sup dH gy.own gy.shared gy.kind,
   ⟨n0 zM (bf (Gp hc') λo e _=>⟨o,e⟩) hcW c3,rfl,rfl,eF _⟩⟩
  .subst e;show DV _ hc'
  .rcases cA with⟨k1,m1,n1,e1⟩|⟨k1,c',e1,e2,o,e3,e4⟩
   .show ak ⟨k1,m1,n1.sameBut zM hlc,e1⟩
   .show aw ⟨k1,c',e1,e2,o,(zM.2 c' (λe=>?_)).trans e3,e4⟩;subst e;show hy (r.pV x y c' hl c1 e1)
theorem rU.flat(hF:F=[]):rU D J h G W W x 0 F:=
 ⟨λ_ D=>D,λ_ D=>ak D,(λe=>nnZ e),(λ_ b D=>by subst hF;ext),ak Z⟩
theorem rU.fresh{OG:aQ}(hn:∀b∈F,OG.get? b=ah)(hd:F.Nodup)(hl:∀b∈F,LS h b)(r:FR H U D L J OG G W)(x:gU H OG h):rU D J h G W (W++F) z 1 F where
 sub:=λb D=>by lia
 sup:=λb D=>ba (bZ.mp D) (λD=>ak D) λD=>aw ⟨D,rfl⟩
 own:=λ_=>⟨hd,λb D=>⟨by lia,hl b D,r.ext.new (hn b D),λy k' mI v' F' _ e cA aO hb'=>by show jg r.ents λval fp q=>(mC (q y k' mI e) λa1 a2 _ _=>?_);rw[cA.uniq (a1.ext x (r.jh _ r.loc).2.1)]at aO;rw[bM.uniq aO (a2.ext x)]at hb';show iM (a2.kinds b hb') λ_ o e1 _=>?_;have e1:=(hn b D).symm.trans e1;ext⟩⟩
 shared:=λe=>nn0 e
 kind:=aw Z
theorem rU.alias(hF:∀b∈F,b∉W):rU D J h G W W x 0 F:=
 ⟨λ_ D=>D,λ_ D=>ak D,(λe=>nnZ e),λ_ b D=>hF b D,ak Z⟩
theorem rU.again(r:FR H U D L J h G W)(E:ck G x=O (1,av))(cA:Aj J h (NM x) v)(aO:bM h av v F):rU D J h G W W x 1 F where
 sub:=λ_ D=>D
 sup:=λ_ D=>ak D
 own:=λ_=>by show jg r.ents λval fp q=>?_;have qx:=q x 1 av E;apply qx.ug cA aO;show⟨(qx.own Z).1,λb D=>qJ ((qx.own Z).2 b D) λp1 p2 p3=>(rT p1 p2 ((r.jh b p1).1) (λy k' mI v' F' hyx e H' V' hb'=>?_))⟩;show p3 y k' mI e hyx ((q y k' mI e).ug (P:=λF=>b∈F->b∈fp y) H' V' id hb')
 shared:=λe=>nn0 e
 kind:=aw Z
def Bw(H:List af)(U D:aQ)(L:dw)(J:cI)(W:List af)(s:ae)(G':iB)(ret:Option AV)(f:cb)(Y:ae):Prop:=mD W s Y/\match ret with
 |none=>f=cL/\∃W',FR H U D L J Y.heap G' W'/\∀d,d∈W'->d∈W\/s.heap.get? d=ah
 |some av=>gU H D Y.heap/\∃v F,f=cB v/\bM Y.heap av v F
theorem tT(m:mD W s Y)(r:FR H U D L J Y.heap G' W):Bw H U D L J W s G' ah cL Y:=⟨m,rfl,W,r,λ_ h=>ak h⟩
theorem Bw.behind{W1:List af}{ret:Option AV}{f:cb}(m1:mD W s ax)(hw1:∀d,d∈W1->d∈W\/s.heap.get? d=ah)(q:Bw H U D L J W1 ax G' ret f aP):Bw H U D L J W s G' ret f aP:=by
 show fc q λm2 q=>(⟨m1.trans m2 hw1,?_⟩);cases ret with
 |none=>show iM q λq1 W2 r2 hw2=>(⟨q1,W2,r2,λd hd=>?_⟩);show ba (hw2 d hd) (λhd=>hw1 d hd) λhd=>aw (m1.mod.new hd)
 |some av=>show q
def SS(H:List af)(U:aQ)(A:bR)(L:dw)(J:cI)(ss:List cg)(G G':iB)(ret:Option AV):Prop:=
 ∀D s W,FR H U D L J s.heap G W->T A (aU ss J) s (Bw H U D L J W s G' ret)
def S1(H:List af)(U:aQ)(A:bR)(L:dw)(J:cI)(st:cg)(G G':iB)(ret:Option AV):Prop:=
 ∀D s W,FR H U D L J s.heap G W->T A (oJ st J) s (Bw H U D L J W s G' ret)
theorem T.wpN{t:aI cb}{Q:cb->ae->Prop}(h:T A t s (Bw H U D L J W aK G' ah))(k:∀ax W1,mD W aK ax->FR H U D L J ax.heap G' W1->(∀d,d∈W1->d∈W\/aK.heap.get? d=ah)->Q cL ax):aE (aD prog w) A t Q a0 s:=h.wp λ_ ax qQ=>oX qQ λm hf W1 r hw=>hf▸k ax W1 m r hw
theorem SS.nil:SS H U A L J [] G G ah:=λD s W r=>Kk ⟨.refl _ _,rfl,W,r,λd hd=>ak hd⟩
theorem SS.cons{G2:iB}{ret:Option AV}(h1:S1 H U A L J st G G1 ah)(h2:SS H U A L J ss G1 G2 ret):SS H U A L J (st::ss) G G2 ret:=λD s W r=>uW<|(h1 D s W r).wpN λax W1 m1 r1 hw1=>(h2 D ax W1 r1).mono λf2 aP q=>q.behind m1 hw1
theorem tU(h1:S1 H U A L J st G G1 (O av)):SS H U A L J (st::ss) G G1 (O av):=λD s W r=>uW<|(h1 D s W r).wp λf ax ow=>yE ow λm1 x v F hf aO=>hf▸⟨m1,x,v,F,rfl,aO⟩
protected theorem S1.ret(h:V H U A L J G e av ab):S1 H U A L J (yr (O e) pos) G G' (O av):=λD s W r=>
 xI ((h s r.er).tR λv ax F e1 aO _=>⟨e1.smod W,r.ext.trans e1.ext,v,F,rfl,aO⟩)
theorem S1.ite{c:aG}{a b:List cg}{x:Bool}{ret:Option AV}(hc:pO H U A L J G c x)(ha:x=N->SS H U A L J a G G' ret)(D:x=ab->SS H U A L J b G G' ret):S1 H U A L J (yt c a b pos) G G' ret:=λhb' s W r=>by
 show wpAny_If ((hc s r.er).Cx λv ax e1 hv=>?_);subst hv;cases v with
 |true=>show(ha Z hb' ax W (r.grow e1.ext)).wp λf aP q=>q.behind (e1.smod W) λd hd=>ak hd
 |false=>show(D Z hb' ax W (r.grow e1.ext)).wp λf aP q=>q.behind (e1.smod W) λd hd=>ak hd
theorem bC(x:Nat)(av:AV)(h:V H U A L J G e av ab)(hf:flat av=N)(dH:bT G x=N)(E:Hx L x)(hs:fz e (O (aq (NM x) p)) pos.line J=pure ab):
 S1 H U A L J (ez [aq (NM x) p] e pos) G (jk G x 0 av) ah:=λD s W r=>by
 show xJ ((h s r.er).tR λv ax F e1 aO _=>?_) hs;show(kh (r.grow e1.ext) E dH aO (.flat (cW.1 _ _ _ hf aO))).Cx λ_ aP r2 m2=>tT (e1.sm m2) r2
mutual
noncomputable def we:AV->Bool
 |oZ|eY _|a6 _|aH _=>N
 |Bk _ x=>we x
 |bS K=>CF K
 |fG K=>CF K
 |tP ..=>ab
noncomputable def CF:List AV->Bool
 | []=>N
 |x::K=>we x && CF K
end
theorem YB:(∀(av:AV) (v:aa) (F:List af),we av=N->bM h av v F->∀b∈F,LS h b)/\∀(K:List AV) (vs:List aa) (F:List af),CF K=N->bA h K vs F->∀b∈F,LS h b:=by
 have fl:∀{p q:Prop} {F:List af},q->p/\F=[]->∀b∈F,LS h b:=λ_ r b D=>kM (r.2▸D);show Bl (λ_ _=>fl) (λ_ _ _=>fl) (λ_ _ _=>fl) (λ_ _ _=>fl) (λu x ih v F hc r=>ih v F hc r.2) (λK ih v F hc r b D=>?_) (λK ih v F hc r b D=>gH r λa vs n e1 _ e3 e4=>ih vs F hc e4 b D) (λf ns K ih v F hc=>II hc) (λ_ _=>fl) (λx K i1 i2 vs F hc r b D=>?_)
 .show fP r λa vs n G e1 e2 e3 e4 dX=>?_;subst dX;show zI D (qG vs n e3) λD=>ih vs G hc e4 b D
 .show gr r λv tQ F1 F2 e1 e2 e3 dX=>?_;subst dX;have hc:(we x && CF K)=N:=hc;show(bZ.mp D).elim (i1 v F1 (fN.mp hc).1 e2 b) (i2 tQ F2 (fN.mp hc).2 e3 b)
theorem Gv(hc:we av=N)(r:bM h av v F):∀b∈F,LS h b:=YB.1 av v F hc r
theorem gc(x:Nat)(av:AV)(he:V H U A L J G e av N)(hf:we av=N)(dH:bT G x=N)(E:Hx L x)(hs:fz e (O (aq (NM x) p)) pos.line J=pure ab):
 S1 H U A L J (ez [aq (NM x) p] e pos) G (jk G x 1 av) ah:=λD s W r=>by
 show xJ ((he s r.er).wp4 λv ax F e1 aO q=>?_) hs;show fc (q Z) λq1 q2=>(kh (r.grow e1.ext) E dH aO (.fresh q1 q2 (Gv hf aO) r e1.ext)).Cx λ_ aP r2 m2=>⟨(e1.smod W).trans m2 (λd hd=>ak hd),rfl,W++F,r2,λd hd=>by
  rcases bZ.mp hd with hd|hd
  .show ak hd
  .show aw (q1 d hd)⟩
theorem zN(r:ER H U L J s.heap G)(E:ck G x=O (k,av)):
 T A (a7 (aq (NM x) pos) J) s (λv Y=>Y=s/\∃F,Aj J s.heap (NM x) v/\bM s.heap av v F):=by
 show eT (r.has x k av E) λv F cA aO=>(rk ?_ (wF x));have H':=cA;show ba cA (λi0=>iM i0 λhl m n e=>xE r.kind hl n e ⟨rfl,F,H',aO⟩) λi0=>oY i0 λhl c hc _ hv=>?_;rcases hl with hl|hl
 .show Kb r.kind hl hc hv ⟨rfl,F,H',aO⟩
 .show Kc r.kind hl hc hv ⟨rfl,F,H',aO⟩ (vJ x)
theorem WO(r:ER H U L J s.heap G)(E:ck G x=O (k,av)):
 T A (loadName J (NM x)) s (λv Y=>Y=s/\∃F,Aj J s.heap (NM x) v/\bM s.heap av v F):=by
 show eT (r.has x k av E) λv F cA aO=>have H':=cA;ba cA (λi0=>iM i0 λhl m n e=>?_) λi0=>oY i0 λhl c hc _ hv=>?_
 .show xE r.kind hl n e ⟨rfl,F,H',aO⟩
 .rcases hl with hl|hl
  .show Kb r.kind hl hc hv ⟨rfl,F,H',aO⟩
  .show Kc r.kind hl hc hv ⟨rfl,F,H',aO⟩ (vJ x)
theorem yF(x y:Nat)(hy:ck G y=O (k,av))(dH:bT (share G y) x=N)(E:Hx L x)(hs:fz (aq (NM y) p') (O (aq (NM x) p)) pos.line J=pure ab):
 S1 H U A L J (ez [aq (NM x) p] (aq (NM y) p') pos) G (jk (share G y) x 0 av) ah:=λD s W r=>by
 show xJ ((zN r.er hy).μ λv F cA aO=>?_) hs;show gC (r.share y) λW' r' hw hF=>((kh r' E dH aO (.alias (hF k av v F hy cA aO))).Cx λ_ aP r2 m2=>⟨(mD.refl W s).trans m2 (λd hd=>ak (hw d hd)),rfl,W',r2,λd hd=>ak (hw d hd)⟩)
theorem OH{op:BOp}{x y z:Int}{t:a8}(h:wG op x y=O z)(hop:op= .add\/op= .sub\/op= .xor):
 T A (KH op.ast (ag x t) (ag y u)) s (λv Y=>dG H s Y/\∃t',v=ag z t'):=by
 have y8:∀{z':Int},z'=z->(dG H s {s with toks:=s.toks+1}/\∃t',ag z' s.toks=ag z t'):=λe=>⟨.toks s _,s.toks,by rw[e]⟩;rcases hop with rfl|rfl|rfl
 .show iadd_int (y8 (aW h))
 .show isub_int (y8 (aW h))
 .cases x with
  |ofNat x=>cases y with|ofNat y=>show ixor_int (y8 ((Gk x y).trans (aW h)))|negSucc y=>ext
  |negSucc x=>ext
theorem CG(x:Nat)(i j z:Int)(op:BOp)(hy:ck G x=O (k,a6 i))(he:V H U A L J G e (a6 j) ab)(h:wG op i j=O z)(hop:op= .add\/op= .sub\/op= .xor)(dH:bT G x=N)(E:Hx L x):
 S1 H U A L J (Fc (aq (NM x) p) op.ast e pos) G (jk G x 0 (a6 z)) ah:=λD s W r=>by
 show TP ((WO r.er hy).wp4 λv ax F e1 cA aO=>?_);subst e1;show(he ax r.er).wp4 λu aP F2 e2 V2 _=>?_;apply bM.zJ aO;intro t;show dF V2.toInt λt' dX=>dX▸(OH (H:=H) h hop).wp3 λv dp t3 e3 hv=>?_;subst hv;have e23:=e2.trans e3;show(kh (r.grow e23.ext) E dH (.ofInt z t3) (.flat Z)).Cx λ_ fy r2 m2=>tT (e23.sm m2) r2
theorem FR.ahl{ws:List aa}(r:FR H U D L J h G W)(E:ck G x=O (1,av))(cA:Aj J h (NM x) v)(V0:bM h av v F)(haF:a∈F)(hs:gu a h h')(WL:h'.get? a=O (bp ws n))(aO:bM h' mI v F):FR H U D L J h' (jk G x 1 mI) W/\Mod W h h':=by
 show jg r.ents λval fp q=>(mC (q x 1 _ E) λa1 a2 a3 _=>?_);have hv:=cA.uniq a1;subst hv;have Ak:=bM.uniq V0 a2;subst Ak;show qJ ((a3 Z).2 a haF) λhaW Gu aj2=>?_;have ht:=(r.jh a haW).2.1;have hma:∃o,h'.get? a=O o:=⟨_,WL⟩;have aeB:∀{m},h.Ns J.locals m->h'.Ns J.locals m:=λn=>n.sameBut hs (λe=>by rw[e]at n;show Gu.MO n);have aeC:∀{c v},h.IsCell c v->h'.IsCell c v:=λ{c v} ic=>bf ic λo e d=>cn o ((hs.2 c (λe'=>by subst e';show Gu.mP ⟨o,e,d⟩)).trans e) d;have aeD:∀{y u},Aj J h (NM y) u->Aj J h' (NM y) u:=λHy=>Hy.imp (λq=>⟨q.1,q.2.imp λm q=>⟨aeB q.1,q.2⟩⟩) λq=>⟨q.1,q.2.imp λc q=>(gI q.1 q.2.1 (aeC q.2.2))⟩;have LSk:∀b,LS h b->LS h' b:=λb l=>if Om:b=a then Om▸qG _ _ WL else jg l λvs n e=>qG vs n ((hs.2 b Om).trans e)
 show⟨⟨r.b1,Dv hs (r.jh a haW).1 hma r.ext ht,r.scope,r.kind,r.glob,r.bi,r.loc,r.ns.imp λ_ n=>aeB n,λy hy=>?_,r.pV,λb hb'=>hJ (r.jh b hb') λp1 p2 p3=>gI p1 p2 (Ct.same hs (⟨_,WL,ak ⟨rfl,_,_,rfl⟩⟩) p3),val,fp,λy k' mI e=>?_⟩,(n0 hs hma haW ht)⟩
 .show lZ (r.cell y hy) λc c1 c2 c3 c4=>wC c c1 (c2.imp λ_ q=>aeC q) c3 (c4.imp (λq=>q.imp λav2 c4=>?_) id);rw[fH,if_neg λhyx=>by have c4:=E▸hyx▸c4;cases c4];show c4
 .rw [fH]at e;by_cases hyx:y=x
  .cases hyx
   replace e:=(if_pos Z)▸e;show Yu (aW e) λa1 a2=>?_;subst a1;subst a2;show⟨aeD a1,aO,λ_=>⟨(a3 Z).1,λb hb'=>?_⟩,λh1=>absurd Z h1⟩;show qJ ((a3 Z).2 b hb') λp1 p2 p3=>(⟨p1,LSk b p2,λz k3 Yz e3 hz=>?_⟩);rw[fH,if_neg hz]at e3;show p3 z k3 Yz e3 hz
  .replace e:=(if_neg hyx)▸e;show mC (q y k' mI e) λb1 b2 b3 b4=>(⟨aeD b1,b2.mod (n0 hs hma au ht) (λb D=>jR D (r.jh _ haW).2.2) _ _ _ (λb hb'=>sR λe'=>aj2 y k' mI e hyx (e'▸hb')),λh1=>⟨(b3 h1).1,λb hb'=>?_⟩,b4⟩);show qJ ((b3 h1).2 b hb') λp1 p2 p3=>(⟨p1,LSk b p2,λz k3 Yz e3 hz=>?_⟩);rw[fH]at e3;by_cases hzx:z=x
   .subst hzx;show p3 z 1 _ E hz
   .rw [if_neg hzx]at e3;show p3 z k3 Yz e3 hz
theorem FR.upd{ws:List aa}(r:FR H U D L J h G W)(E:ck G x=O (1,bS K))(hf:iT K=N)(cA:Aj J h (NM x) (R a))(hs:gu a h h')(WL:h'.get? a=O (bp ws n))(aO:bA h ys ws []):FR H U D L J h' (jk G x 1 (bS ys)) W/\Mod W h h':=by show jg r.ents λval fp q=>mC (q x 1 _ E) λa1 a2 a3 _=>have a2:=(cA.uniq a1).symm▸a2;iP a2 λb vs m F' e1 ht _ e4 e5=>?_;obtain rfl:=j9 e1;have e5:=(cW.2 _ _ _ hf e4)▸e5;have ha:=e5▸cR ..;show r.ahl E cA a2 ha hs WL (e5▸sf [] ht WL (aO.mod (n0 hs ⟨_,WL⟩ (bJ.mpr Z) ht) (λb D=>jR D (r.jh _ ((a3 Z).2 a ha).1).2.2) _ _ _ zi))
theorem l6(h:cH e=ab)(pos:cJ):jZ pos (js [e] J)=[(ab,a7 e J)]:=by rw[dq h];rfl
theorem Js{x:aV}:uY (aq x p) nm J (a7 (aq x p) J)=a7 (aq x p) J:=rfl
theorem S1.app(E:ck G x=O (1,bS K))(hf:iT K=N)(he:V H U A L J G e av ab)(hfa:flat av=N)(dH:cH e=ab)(lB:(apos.endLine==cpos.line)=N)(hl:dY K.length 1000000=N)(hi:iJ J=ab):
 S1 H U A L J (qy (bx (gZ (aq (NM x) p) (aB "append") apos) [e] [] cpos) pos) G (jk G x 1 (bS (K++[av]))) ah:=λD s W r=>by
 show wpAny_Expr_any ?_ hi Z;show T3 Js (by rw[l6 dH];rfl) lB VP PySem.F.slot_list_append PySem.F.type_list_append<|(zN r.er E).wp λv ax ow=>iM ow λe1 F cA aO=>?_;subst e1;show iP aO λa vs n F' dX _ a3 a4 _=>?_;subst dX;show gI (Rc.typeIs a3) (λb hb'=>by obtain rfl:=j9 hb';show⟨_,a3,rfl⟩) ?_;rw[l6 dH];show P.append_list<|(he ax r.er).wp λu aP ow=>iM ow λe2 F2 V2 _=>have a3':=(r.grow e2.ext);have g3:=e2.ext.keep a _ (by assumption) a3;have l1:=bA.length a4;have hl:=dN hl;Oz vs.toArray n (by have:eN=16777216:=rfl;simp;lia) g3 ?_;have hF2:=cW.1 _ _ _ hfa V2;subst hF2;have hF':=cW.2 _ _ _ hf a4;subst hF';have up:(aP.heap.update a (dO λK=>K.push u)).get? a=O (bp (vs++[u]) (n+1)):=by rw[ie _ g3 (rfl)];simp[bp,dO]
 show fc ((r.grow e2.ext).upd E hf (cA.ext e2.ext (r.jh _ r.loc).2.1) (j8 ..) up
  (by have:=bA.append (a4.ext e2.ext) (show bA aP.heap [av] [u] [] by show ej [] [] V2 .nil);show this)) λr2 m2=>tT (e2.mm m2) r2
theorem bA.set:∀{vs:List aa} {F:List af} (i:Nat) {x:AV} {v:aa},iT K=N->bA h K vs F->bM h x v []->bA h (K.set i x) (vs.set i v) []:=by
 induction K with
 |nil=>intro vs F i x v _ r _;apply vG r;show λ_=>.nil
 |cons y ys iH=>
  intro vs F i x v hf r q;have hf:=fN.mp hf;show gr r λu us F1 F2 dX e2 e3 _=>(dX▸?_);have n1:=cW.1 _ _ _ hf.1 e2;have n2:=cW.2 _ _ _ hf.2 e3;subst n1 n2;cases i with
  |zero=>show ej [] [] q e3
  |succ i=>show ej [] [] e2 (iH i hf.2 e3 q)
theorem bA.eraseIdx:∀{vs:List aa} {F:List af} (i:Nat),iT K=N->bA h K vs F->bA h (K.eraseIdx i) (vs.eraseIdx i) []:=by
 induction K with
 |nil=>intro vs F i _ r;apply vG r;show λ_=>.nil
 |cons y ys iH=>
  intro vs F i hf r;have hf:=fN.mp hf;show gr r λu us F1 F2 dX e2 e3 _=>(dX▸?_);have n1:=cW.1 _ _ _ hf.1 e2;have n2:=cW.2 _ _ _ hf.2 e3;subst n1 n2;cases i with
  |zero=>show e3
  |succ i=>show ej [] [] e2 (iH i hf.2 e3)
theorem ri{k:Int}{t:a8}{Q:Unit->ae->Prop}(ho:s.heap.get? l=O {cls:=ao "list",dict:=ah,data:=bQ items n,slots:=#[]})(h0:0<=k)(ahm:k<2 ^ 63)(hn:k<items.size)(hQ:Q () {s with heap:=s.heap.update l (dO (·.setIfInBounds k.toNat v))}):
 aE (aD prog w) A (Ay (R l) (ag k t) v) Q a0 s:=by
 have hl:s.heap.IsList l items:=⟨_,ho,rfl,n,rfl⟩
 delta Ay
 try with_reducible show cQ ?_
 first|show ?_|skip
 show aj<|uU hl.typeIs (rfl)<|aj (jT hl.typeIs T4
  (jU T4 hl.typeIs entry_list_setitem ?_ (args_list_setitem _ _ _)))
 show(?_:aE _ _ (abH (ag k t)>>=_) _ _ s);show aj (wpAny_listSubscript_int (fitsIndex_of h0 ahm) ?_);clear ahm;obtain⟨j,rfl⟩:=Int.eq_ofNat_of_zero_le h0;show aj<|aj<|wpAny_seqItemAt ho Z<|aC<|(vw au).symm▸aj (wpAny_setSeqItemAt ho Z ?_);first
  |show aC ⟨aA,rfl,aC hQ⟩
  |show aC ⟨.none,rfl,aC hQ⟩
theorem υ(g3:h.get? a=O (bp vs n)):(h.update a (dO λK=>K.setIfInBounds j v)).get? a=O (bp (vs.set j v) n):=by rw[ie _ g3 (rfl)];simp[bp,dO]
theorem ab7{i:aG}(E:ck G x=O (1,bS K))(hf:iT K=N)(he:V H U A L J G e av ab)(hfa:flat av=N)(hi:V H U A L J G i (a6 (ai j)) ab)(hj:jJ j K.length=N)(hl:dY K.length 1000000=N)(hs:fz e (O (dk (aq (NM x) p) i p')) pos.line J=pure ab):
 S1 H U A L J (ez [dk (aq (NM x) p) i p'] e pos) G (jk G x 1 (bS (K.set j av))) ah:=λD s W r=>by
 show J6 ((he s r.er).tR λu ax F1 e1 V1 _=>(zN (r.grow e1.ext).er E).μ λv F2 cA V2=>?_) hs;show(hi ax (r.grow e1.ext).er).wp λiv dp ow=>iM ow λe3 F3 V3 _=>dF V3.toInt λt dX=>dX▸iP V2 λa vs n F' qI ht a3 a4 _=>?_;subst qI;have g3:=e3.ext.keep a _ ht a3;have l1:=bA.length a4;have hl:=dN hl;have hj:j<K.length:=dN hj;have hF1:=cW.1 _ _ _ hfa V1;subst hF1;have YC:=e1.trans e3;show ri g3 fF au jx<|fc ((r.grow YC.ext).upd E hf (cA.ext e3.ext (r.jh _ r.loc).2.1) (j8 ..) (υ g3)
  (bA.set j hf (a4.ext e3.ext) (V1.ext e3.ext))) λr2 m2=>tT (YC.mm m2) r2
theorem ab8{i:aG}(E:ck G x=O (1,bS K))(hf:iT K=N)(hi:V H U A L J G i (a6 (ai j)) ab)(hj:K[j]? =O av)(hl:dY K.length 1000000=N)(qK:y≠x)(dH:cH i=ab)(lB:(apos.endLine==cpos.line)=N)(hsy:bT G y=N)(hy:Hx L y):
 S1 H U A L J (ez [aq (NM y) p'] (bx (gZ (aq (NM x) p) (aB "pop") apos) [i] [] cpos) pos) G (jk (jk G x 1 (bS (K.eraseIdx j))) y 0 av) ah:=λD s W r=>by
 show xJ ?_ Z;show T3 Js (by rw[l6 dH];rfl) lB VP PySem.F.slot_list_pop PySem.F.type_list_pop<|(zN r.er E).μ λv F cA aO=>iP aO λa vs n F' dX ht a3 a4 _=>?_;subst dX;show gI (Rc.typeIs a3) (λb hb'=>by obtain rfl:=j9 hb';show⟨_,a3,rfl⟩) ?_;rw[l6 dH];show P.pop_at_list<|(hi s r.er).tR λu aP F2 e2 V2 _=>dF V2.toInt λt qI=>have g3:=e2.ext.keep a _ ht a3;have l1:=bA.length a4;have hl:=dN hl;have hjl:=(dR.mp hj).1;jy (bA.get (a4.ext e2.ext) hj) λyv Fy y1 y2 _=>(qI▸?_);have hjv:j<vs.length:=by lia
 show⟨vs.toArray,n,ai j,t,j,yv,by have:eN=16777216:=rfl;simp;lia,rfl,g3,fitsIndex_of fF au,Cz hjv,by simpa using y1,?_⟩;have up:(aP.heap.update a (dO λK=>K.eraseIdxIfInBounds j)).get? a=O (bp (vs.eraseIdx j) (n+1)):=by
  rw[ie _ g3 (rfl)];have hsz:((vs.eraseIdx j).length==vs.length)=ab:=by rw[Uu];simp[hjv];lia
  simp[bp,dO,hsz]
 show fc ((r.grow e2.ext).upd E hf (cA.ext e2.ext (r.jh _ r.loc).2.1) (j8 ..) up (bA.eraseIdx j hf (a4.ext e2.ext))) λr2 m2=>?_;have hfa:flat av=N:=by
  have:∀(K:List AV) (j:Nat),iT K=N->K[j]? =O av->flat av=N:=by
   intro K;induction K with
   |nil=>intro j _ h;ext
   |cons x K ih=>
    intro j hf h;have hf:=fN.mp hf;cases j with
    |zero=>have h:=aW h;show h▸?_;show hf.1
    |succ j=>show ih j hf.2 (h)
  show this K j hf hj
 have hFy:=cW.1 _ _ _ hfa y2;subst hFy;have aj3:bT (jk G x 1 (bS (K.eraseIdx j))) y=N:=by
  delta bT
  rw[fH,if_neg qK];show hsy
 have hx1:mD W s {aP with heap:=aP.heap.update a (dO λK=>K.eraseIdxIfInBounds j)}:=e2.mm m2;show(kh r2 hy aj3 (y2.mod m2 (λb hb'=>((r.grow e2.ext).jh b hb').2.2) av yv [] (λb D=>by ext)) (.flat Z)).Cx λ_ dp r3 m3=>tT (hx1.trans m3 λ_ h=>ak h) r3
theorem OI:fillsInplaceSlot (ao "list") "add" (rS==rS)=pure ab:=by rfl
theorem YD:seqSlot? (ao "list") (dunderI "add")=pure (O (bB "list.__iadd__")):=PySem.seqSlot_of VV.lookup (rfl)
theorem DZ{MQ:Array aa}{n2:Nat}(hl:s.heap.get? l=O {cls:=ao "list",dict:=ah,data:=bQ items n,slots:=#[]})(D:s.heap.get? b=O {cls:=ao "list",dict:=ah,data:=bQ MQ n2,slots:=#[]})(hsz:items.size+MQ.size<=1000000)(h:Q (R l) {s with heap:=s.heap.update l (dO λx=>x++MQ),toks:=s.toks}):aE (aD prog w) A (KH rS (R l) (R b)) Q a0 s:=by have ha:s.TypeIs (R l) "list" :=cn _ hl Z;show cQ<|aj<|rj ha<|aj<|iq OI<|aj<|wpAny_binaryOp1_none ha ((cn _ D Z)) noFill_list_add<|aj<|iq YD<|aj<|rl<|have z:eN=16777216:=rfl;oB VV ha Fw (PySem.F.args_list_iadd_2 _ _) (AutoSeq1.list___iadd___list_list_0 l items n b MQ n2 (by simp[VF];lia) au au) (gI hl D h)
theorem ab9(G:iB)(x k:Nat)(av:AV)(k':Nat)(mI:AV):jk (jk G x k av) x k' mI=jk G x k' mI:=by
 induction G with
 |nil=>show(uD [] x k av x k' mI).trans (if_pos Z)
 |cons p r ih=>
  rw[uD,uD];by_cases h:p.1=x
  .rw [if_pos h,if_pos h,uD,if_pos Z]
  .rw [if_neg h,if_neg h,uD,if_neg h,ih]
theorem aca(E:ck G x=O (1,bS K))(hf:iT K=N)(he:V H U A L J G e (bS ys) N)(hg:iT ys=N)(qK:K.length+ys.length<=1000000)(hxl:L.names.lookup (NM x)=O cU):S1 H U A L J (Fc (aq (NM x) p) rS e pos) G (jk G x 1 (bS (K++ys))) ah:=λD s W r=>by
 show TP<|(WO r.er E).μ λv F cA aO=>(he s r.er).wp λu aP ow=>iM ow λe2 F2 V2 q2=>fP aO λa vs n F' dX ht a3 a4 _=>(fP V2 λb ws m Rd qI _ b3 b4 DY=>?_);subst dX;show qI▸?_;have g3:=e2.ext.keep a _ ht a3;have l1:=bA.length a4;have l2:=bA.length b4;have hF':=cW.2 _ _ _ hf a4;have afj:=cW.2 _ _ _ hg b4;subst hF' afj;show DZ g3 b3 jx ?_;have up:(aP.heap.update a (dO λx=>x++ws.toArray)).get? a=O (bp (vs++ws) (if(vs++ws).length==vs.length then n else n+1)):=by rw[ie _ g3 (rfl)];simp[bp,dO]
 show fc ((r.grow e2.ext).upd E hf (cA.ext e2.ext (r.jh _ r.loc).2.1) (j8 ..) up (bA.append (a4.ext e2.ext) b4)) λr2 m2=>?_;have hx1:mD W s {aP with heap:=aP.heap.update a (dO λx=>x++ws.toArray)}:=e2.mm m2;have H':Aj J (aP.heap.update a (dO λx=>x++ws.toArray)) (NM x) (R a):=by
  have hs:=j8 aP.heap a (dO λx=>x++ws.toArray);have Gu:LS aP.heap a:=qG _ _ g3;rcases(cA.ext e2.ext (r.jh _ r.loc).2.1) with⟨k1,m1,n1,e1⟩|⟨k1,c,e1,e2,o,e3,e4⟩
  .show ak ⟨k1,m1,n1.sameBut hs (λe=>by rw[e]at n1;show Gu.MO n1),e1⟩
  .show aw ⟨k1,c,e1,e2,o,(hs.2 c (λe=>by cases e;show Gu.mP (cn o e3 e4))).trans e3,e4⟩
 have hlk:ck (jk G x 1 (bS (K++ys))) x=O (1,bS (K++ys)):=by rw[fH,if_pos Z]
 have hV:∃F,bM (aP.heap.update a (dO λx=>x++ws.toArray)) (bS (K++ys)) (R a) F:=by show jg r2.ents λval fp q=>?_;obtain⟨c1,c2,_,_⟩:=q x 1 _ hlk;show(H'.uniq c1).symm▸DV _ c2
 show dF hV λFv hV=>((kh r2 (ak hxl) (by delta bT;rw[hlk];rfl) hV (.again r2 hlk H' hV)).Cx λ_ dp r3 m3=>⟨hx1.trans m3 (λd hd=>ak hd),rfl,W,?_,λd hd=>ak hd⟩);rw[(ab9 G x 1 _ 1 _)]at r3;show r3
def dW(es:List aG):Bool:=es.all λe=> !cH e
theorem YE:∀(pos:cJ) (J:cI),dW es=N->(jZ pos (js es J)).any (·.1)=ab:=by
 induction es with
 |nil=>show λ_ _ _=>rfl
 |cons e es iH=>intro pos J h;simp only[dW,EU,qw,vo]at h;rw[dq h.1];change(ab ||(jZ pos (js es J)).any (·.1))=ab;rw[iH pos J (h.2)];rfl
theorem mE(nm ty:String)(B:cx U mg mb)(I:dQ mg mb)(hm:(nm,ao ty)∈BI)(kQ:L.names.lookup (aB nm)=O kZ)(hd:(aB nm==("__debug__" :aV))=ab)(he:fJ H U A L J G (e::es) avs)(dH:dW (e::es)=N)(r:ER H U L J s.heap G)(hq:∀vs ax F,dG H s ax->bA ax.heap avs vs F->T A (call (ao ty) vs) ax Q):
 T A (a7 (bx (aq (aB nm) np) (e::es) [] pos) J) s Q:=by
 have hI:=I (nm,ao ty) hm;show mh<|(eG B r kQ hI.1 hI.2 hd).Dt<|A1 ((he s pos r).Ra λvs ax F1 e1 V1=>hq vs ax F1 e1 V1) (dq (by simp only[dW,EU,qw,vo]at dH;show dH.1) _ _) (YE pos J (by simp only[dW,EU,qw]at dH;show dH.2))
theorem vN{P P':Nat->aa->Prop}(x:mU prog w A I fp wr n P St)(hn:n=n')(hp:∀i v,i<n->P i v->P' i v):mU prog w A I fp wr n' P' St:=by subst hn;show⟨x.sub,x.frame,λi s Q a0 hi st hq=>x.item i s Q a0 hi st λv h' tk p=>hq v h' tk (hp i v hi p),x.done,x.self⟩
def Shd(J:cI)(h:aQ)(G:iB)(b:af):Prop:=∃x k av v F,ck G x=O (k,av)/\k≠1/\Aj J h (NM x) v/\bM h av v F/\b∈F
theorem Shd.φ(q:Shd J h G b)(r:FR H U D L J h G W):b∉W:=by show wB q λx k av v F e hk cA aO D=>(jg r.ents λval fp q=>?_);obtain⟨a1,a2,_,a4⟩:=q x k av e;have hv:=cA.uniq a1;subst hv;have hF:=bM.uniq aO a2;subst hF;show a4 hk b D
def Gy(ns:List Int)(i:Nat)(v:aa):Prop:=∃k t,ns[i]? =O k/\v=ag k t
inductive WQ(H:List af)(A:bR)(J:cI)(G:iB)(ns:List Int)(s:ae):aa->ae->Prop
 |mk {aP:ae} (e:dG H s aP) (I:af) (fp wr:List af) (St:Nat->aQ->Prop) (W:mU prog w A I fp wr ns.length (Gy ns) St) (st:St 0 aP.heap) (Gz:∀i h,St i h->∀b∈wr,kP h b)
  (χ:∀b∈wr,s.heap.get? b=ah) (Ak:∀b∈fp,b∉bX/\(∃o,aP.heap.get? b=O o)/\(s.heap.get? b=ah\/Shd J s.heap G b)):WQ H A J G ns s (R I) aP
def zp(H:List af)(U:aQ)(A:bR)(L:dw)(J:cI)(G:iB)(e:aG)(ns:List Int):Prop:=
 ∀s,ER H U L J s.heap G->T A (a7 e J) s (λx ax=>T A (gn x) ax (WQ H A J G ns s))
theorem n6:∀{vs:List aa} {ns:List Int},fk vs ns->vs.length=ns.length/\∀(i:Nat) v,vs[i]? =O v->∃n t,ns[i]? =O n/\v=ag n t:=by
 intro vs ns IA;induction IA with
 |nil=>show⟨rfl,λi v h=>by ext⟩
 |cons n t r ih=>
  show⟨by simp[ih.1],λi v h=>?_⟩;cases i with
  |zero=>have h:=aW h;subst h;show kK n t Z Z
  |succ i=>show ih.2 i v (h)
theorem Bx{ns:List Int}(hh:dh A)(B:Tp U)(x:gU H U s.heap)(e:dG H s ax)(hi:jd K=O ns)(ht:a∉bX)(a3:ax.heap.get? a=O (bp vs n))(a4:bA ax.heap K vs F)(hsh:s.heap.get? a=ah\/Shd J s.heap G a):
 T A (gn (R a)) ax (WQ H A J G ns s):=by
 show uV (bU a3)<|fc (n6 (intsAre_of a4 hi)) λk1 k2=>⟨?_,ax.heap.objs.size,_,_,_,vN (Ws hh _ a (fB (cj a3)) vs.toArray) (by assumption) (λi v _ hv=>k2 i v (by simpa using hv)),⟨?_,?_⟩,λi h st b D=>?_,λb D=>?_,λb D=>?_⟩
 .show e.trans ⟨.push _ _,rfl,rfl,eF _⟩
 .show kJ _ (bI _ Z) Z Z
 .show bU (aZ _ a3)
 .apply jR D;show fc st λi1 _=>gC i1 λo ho _ hd=>cn o ho (ak ⟨_,hd,λx t e=>by simp at e⟩)
 .apply jR D;show e.ext.new (bz _)
 .apply se D
  .show gI (fm (jz B (x.trans e.ext))) ⟨_,bI _ Z⟩ (ak (e.ext.new (bz _)))
  .show gI ht ⟨_,aZ _ a3⟩ hsh
theorem zp.new{ns:List Int}(hh:dh A)(B:Tp U)(he:V H U A L J G e (bS K) N)(hi:jd K=O ns):zp H U A L J G e ns:=λs r=>by show(he s r).mono λv ax ow=>og λgG kG=>iM ow λe1 F aO q=>kG ?_;clear kG gG;apply fQ aO;intro a vs n F' ht a3 a4 ρ;subst ρ;show Bx hh B r.base e1 hi ht a3 a4 (ak ((q Z).1 a au))
theorem acb{ns:List Int}(hh:dh A)(B:Tp U)(E:ck G x=O (k,bS K))(hk:fD k 1=ab)(hi:jd K=O ns):
 zp H U A L J G (aq (NM x) pos) ns:=λs r=>by
 show(zN r E).mono λv ax ow=>og λgG kG=>iM ow λe1 F cA aO=>kG ?_;clear kG gG;show e1.symm▸?_;apply fQ aO;intro a vs n F' ht a3 a4 ρ;subst ρ;show Bx hh B r.base (.refl _) hi ht a3 a4 (aw (ahc x k _ _ _ E (λe=>by have hk:=e▸hk;ext) cA aO au))
noncomputable def Dw(a c:Int)(n:Nat):List Int:=(aJ n).map λi:Nat=>a+(i:Int) * c
theorem o8{a c:Int}{m:Int}:(Dw a c n)[i]? =O m↔i<n/\m=a+(i:Int) * c:=by
 show cZ.symm▸?_;by_cases h:i<n
 .rw [oM h];simp[h];show⟨λe=>e.symm,λe=>e.symm⟩
 .simp [h]
theorem MR{a c:Int}:(Dw a c n).length=n:=by simp[Dw]
theorem qD{a b c:Int}{t v:a8}(hh:dh A)(B:Tp U)(x:gU H U s.heap)(e:dG H s ax)(hr:qi ax.heap rr a b c t u v)(hs:vp a b c=N)(hn:lR a b c=(n:Int)):T A (gn (R rr)) ax (WQ H A J G (Dw a c n) s):=by
 show An hr hs<|hn.symm▸⟨?_,ax.heap.objs.size,_,_,_,vN (Mw hh _ a c n) MR.symm (λi v hi qQ=>dF qQ λt hv=>kK _ t (o8.mpr ⟨hi,rfl⟩) hv),?_,λi h st b D=>?_,λb D=>?_,λb D=>?_⟩
 .show e.trans ⟨.push _ _,rfl,rfl,eF _⟩
 .have e1:(a+((0:Nat):Int) * c)=a:=by simp
  have e2:((n:Int) - ((0:Nat):Int))=n:=by rfl
  show e1.symm▸e2.symm▸bI _ Z
 .apply jR D;show cn _ st (ak ⟨_,rfl,λx t e=>by simp[da]at e⟩)
 .apply jR D;show e.ext.new (bz _)
 .apply jR D;show gI (fm (jz B (x.trans e.ext))) ⟨_,bI _ Z⟩ (ak (e.ext.new (bz _)))
theorem zO{k:Int}(hh:dh A)(B:cx U mg mb)(I:dQ mg mb)(kQ:Gi L "range")(he:V H U A L J G e (a6 k) ab)(dH:cH e=ab)(hk:k<2 ^ 62)(hk2: -(2 ^ 62)<=k):zp H U A L J G (bx (aq (aB "range") np) [e] [] pos) (Dw 0 1 k.toNat):=λs r=>by show mE ("range") ("range") B I aL kQ (rfl) (fJ.cons he fJ.nil dH) (by simp[dW,dH]) r λvs ax F e1 V1=>?_;apply nM V1;show λt=>sO (qD hh B.top r.base (e1.trans ⟨.push _ _,rfl,rfl,eF _⟩) (vB ..) (u9 fF fF hk2 hk) ?_);rw[uZ];split<;>lia
theorem zP{k m:Int}(hh:dh A)(B:cx U mg mb)(I:dQ mg mb)(kQ:Gi L "range")(he:V H U A L J G e (a6 k) ab)(dH:cH e=ab)(Jt:V H U A L J G e' (a6 m) ab)(IP:cH e'=ab)(hk:k<2 ^ 62)(hk2: -(2 ^ 62)<=k)(hm:m<2 ^ 62)(hm2: -(2 ^ 62)<=m):
 zp H U A L J G (bx (aq (aB "range") np) [e,e'] [] pos) (Dw k 1 (m - k).toNat):=λs r=>by
 show mE ("range") ("range") B I aL kQ (rfl) (fJ.cons he (fJ.cons Jt fJ.nil IP) dH) (by simp[dW,dH,IP]) r λvs ax F e1 V1=>?_;apply nJ V1;intro v v3 G1 G3 V2 V4;apply bM.zJ V2;intro t;show dF V4.toInt λt' dX=>dX▸call_range_2 (qD hh B.top r.base (e1.trans ⟨.push _ _,rfl,rfl,eF _⟩) (vB ..) (u9 hk2 hk hm2 hm) ?_);rw[uZ];split<;>grind
theorem GA{e'':aG}{k m c:Int}(hh:dh A)(B:cx U mg mb)(I:dQ mg mb)(kQ:Gi L "range")(he:V H U A L J G e (a6 k) ab)(dH:cH e=ab)(Jt:V H U A L J G e' (a6 m) ab)(IP:cH e'=ab)(aj4:V H U A L J G e'' (a6 c) ab)(aeE:cH e''=ab)(hc:c≠0)(hp:Fm (m - k) c=ab)(hs:vp k m c=N)(hn:lR k m c=(n:Int)):
 zp H U A L J G (bx (aq (aB "range") np) [e,e',e''] [] pos) (Dw k c n):=λs r=>by
 show mE ("range") ("range") B I aL kQ (rfl) (fJ.cons he (fJ.cons Jt (fJ.cons aj4 fJ.nil aeE) IP) dH) (by simp[dW,dH,IP,aeE]) r λvs ax F e1 V1=>?_;apply Bo V1;intro v v3 v5 G1 G3 G5 V2 V4 V6;apply bM.zJ V2;show λt=>og λgG kG=>dF V4.toInt λt' dX=>dF V6.toInt λt'' qI=>kG ?_;clear kG gG;subst dX;subst qI;show call_range_3 hc ?_ (ak hp);show qD hh B.top r.base (e1.trans ⟨.push _ _,rfl,rfl,eF _⟩) (vB ..) hs hn
def YF:iB->iB->Prop
 | [],_=>True
 |(x,k,av)::r,G=>ck G x=O (k,av)/\YF r G
def Rl:iB->iB->Prop
 | [],_=>True
 |(x,k,av)::r,G=>(match fD k 2 with|true=>ck G x=O (k,av)|false=>True)/\Rl r G
structure kr(G' G:iB):Prop where
 all:∀x k av,ck G' x=O (k,av)->ck G x=O (k,av)
 aj5:∀x av,ck G x=O (2,av)->ck G' x=O (2,av)
theorem By(e:ck G x=O (k,av)):(x,k,av)∈G:=by
 induction G with
 |nil=>ext
 |cons p r ih=>
  obtain⟨y,k',mI⟩:=p;unfold ck at e;rw[Mv]at e;by_cases h:y=x
  .subst h;rw[decide_eq_true Z]at e;show aW e▸?_;ext
  .rw [decide_eq_false h]at e;show bY _ (ih e)
theorem YF.mem(h:YF G' G)(hm:(x,k,av)∈G'):ck G x=O (k,av):=by
 induction G' with
 |nil=>ext
 |cons p r ih=>
  obtain⟨y,k',mI⟩:=p;rcases bq.mp hm with e|e
  .cases e;show h.1
  .show ih h.2 e
theorem Rl.mem(h:Rl G G')(hm:(x,2,av)∈G):ck G' x=O (2,av):=by
 induction G with
 |nil=>ext
 |cons p r ih=>
  obtain⟨y,k',mI⟩:=p;rcases bq.mp hm with e|e
  .cases e;show h.1
  .show ih h.2 e
theorem kr.of(h:YF G' G)(h2:Rl G G'):kr G' G:=⟨λ_ _ _ e=>h.mem (By e),λ_ _ e=>h2.mem (By e)⟩
theorem YF.rf:∀{G:iB},(G'.map λp=>ck G p.1)=G'.map (λp=>O p.2)->YF G' G:=by
 induction G' with
 |nil=>intro _ _;show trivial
 |cons _ _ iH=>intro _ h;show⟨(my h).1,iH (my h).2⟩
theorem Rl.rf:∀{G G':iB},(G.map λp=>bif fD p.2.1 2 then ck G' p.1 else O p.2)=G.map (λp=>O p.2)->Rl G G'
 | [],_,_=>trivial
 |(x,k,av)::_,_,h=>⟨by have h1:=(my h).1;revert h1;dsimp only;cases fD k 2<;>intro h1<;>first|show trivial|show h1,Rl.rf (my h).2⟩
theorem kr.rf(h:(G'.map λp=>ck G p.1)=G'.map (λp=>O p.2))(h2:(G.map λp=>bif fD p.2.1 2 then ck G' p.1 else O p.2)=G.map (λp=>O p.2)):kr G' G:=.of (.rf h) (.rf h2)
theorem kr.refl(G:iB):kr G G:=⟨λ_ _ _ e=>e,λ_ _ e=>e⟩
theorem FR.less(r:FR H U D L J h G W)(x:kr G' G):FR H U D L J h G' W where
 b1:=r.b1
 ext:=r.ext
 scope:=r.scope
 kind:=r.kind
 glob:=r.glob
 bi:=r.bi
 loc:=r.loc
 ns:=r.ns
 cell:=λy hy=>lZ (r.cell y hy) λc a b d e=>wC c a b d (e.imp (λqQ=>dF qQ λav e=>⟨av,x.aj5 y av e⟩) id)
 pV:=r.pV
 jh:=r.jh
 ents:=jg r.ents λval fp q=>qG val fp (λy k av e=>have a0:=q y k av (x.all y k av e);⟨a0.has,a0.rel,λhk=>⟨(a0.own hk).nd,λz hz=>have gy:=(a0.own hk).el z hz;⟨gy.mem,gy.ls,λy' k' mI e'=>gy.ap y' k' mI (x.all _ _ _ e')⟩⟩,a0.shd⟩)
theorem SS.less{ret:Option AV}(x:SS H U A L J ss G0 G1 ret)(h:kr G0 G):SS H U A L J ss G G1 ret:=λD s W r=>x D s W (r.less h)
theorem SS.out{ret:Option AV}(x:SS H U A L J ss G G0 ret)(h:kr G1 G0):SS H U A L J ss G G1 ret:=λD s W r=>
 (x D s W r).mono λf Y qQ=>fc qQ λm q=>⟨m,by
  cases ret with
  |none=>show iM q λa W' r' b=>⟨a,W',r'.less h,b⟩
  |some _=>show q⟩
theorem SS.share{ret:Option AV}(y:Nat)(x:SS H U A L J ss (Lake.share G y) G1 ret):SS H U A L J ss G G1 ret:=λD s W r=>gC (r.share y) λW' r' hw _=>(x D s W' r').mono λf Y q=>q.behind (.refl W s) λd hd=>ak (hw d hd)
theorem kP.WR{c:af}{v:Option aa}(q:kP h c)(x:h.IsCell c v):False:=by show bf q λo e d=>(bf x λo' e' d'=>?_);replace e':=e▸e';obtain rfl:=aW e';rcases d with⟨_,d,_⟩|⟨_,_,d⟩|⟨_,_,d⟩|d<;>(have d:=d'.symm.trans d;ext)
theorem kP.WK(q:kP h b)(aO:bM h av v F)(D:b∈F):False:=by show iM (aO.kinds b D) λ_ o e1 e2=>(bf q λo' e' d'=>?_);replace e':=e1▸e';obtain rfl:=aW e';rcases e2 with⟨_,_,_,e2⟩|⟨_,e2⟩<;>rcases d' with⟨_,d',_⟩|⟨_,_,d'⟩|⟨_,_,d'⟩|d'<;>(have e2:=d'.symm.trans e2;ext)
theorem FR.off(r:FR H U D L J h G W)(keep:∀b o,b∉wr->h.get? b=O o->h'.get? b=O o)(hw:∀b∈wr,kP h b/\b∉bX/\D.get? b=ah/\b∉W):FR H U D L J h' G W:=by
 have new:∀{b o},D.get? b=O o->b∉wr:=λ{b o} e q=>by have e:=((hw b q).2.2.1)▸e;ext
 show r.ab4 r.b1 ⟨λb o ht e=>keep b o (new e) (r.ext.keep b o ht e),λb ht ps e=>dF (r.ext.tab b ht ps e) λm e'=>⟨m,keep b _ (λq=>(hw b q).2.1 ht) e'⟩,λb o e=>dF (r.ext.there b o e) λo' e'=>⟨o',keep b o' (new e) e'⟩,
  λb o ht hq e=>keep b o (λq=>(hw b q).2.1 ht) (r.ext.quiet b o ht hq e)⟩
  (λb hb' o e=>keep b o (λq=>(hw b q).2.2.2 hb') e) (λc v ht x=>Bf (λo q=>⟨keep c o (λz=>(hw c z).1.WR x) q.1,q.2⟩) x)
  λy k av v F _ aO=>aO.off (λb o hb' _ e=>keep b o hb' e) (λb hb'=>aw (hw b hb').1) _ _ _ λb hb' hq=>(hw b hq).1.WK aO hb'
theorem mD.off(m:mD W s Y)(keep:∀b o,b∉wr->Y.heap.get? b=O o->h'.get? b=O o)(hw:∀b∈wr,s.heap.get? b=ah/\b∉bX):mD W s {Y with heap:=h',toks:=tk}:=by
 have new:∀{b o},s.heap.get? b=O o->b∉wr:=λ{b o} e q=>by have e:=((hw b q).1)▸e;ext
 show⟨⟨λb o D ht e=>keep b o (new e) (m.mod.keep b o D ht e),λb ht ps e=>dF (m.mod.tab b ht ps e) λx e'=>⟨x,keep b _ (λq=>(hw b q).2 ht) e'⟩,λb o e=>dF (m.mod.there b o e) λo' e'=>⟨o',keep b o' (new e) e'⟩⟩,m.os,m.drawn,m.gens⟩
def Stores(A:bR)(J:cI):LN->List Int->(ae->Prop)->(aa->ae->Prop)->ae->Prop
 | [],[],Q,_,s=>Q s
 |x::K,k::ks,Q,a0,s=>∀t,aE (aD prog w) A (As J (NM x) (ag k t)) (λ_ Y=>Stores A J K ks Q a0 Y) a0 s
 |_,_,_,_,_=>False
def Off(wr:List af)(s Y:ae):Prop:=∃h' tk,Y={s with heap:=h',toks:=tk}/\∀b o,b∉wr->s.heap.get? b=O o->h'.get? b=O o
theorem Off.keep(x:Off wr s Y)(D:b∉wr)(e:s.heap.get? b=O o):Y.heap.get? b=O o:=by show eT x λh' tk dX k=>?_;subst dX;show k b o D e
theorem dG.off(x:dG H s ax)(y:Off wr ax aP)(hw:∀b∈wr,s.heap.get? b=ah/\b∉bX):dG H s aP:=by show eT y λh' tk dX k=>dX▸⟨⟨λb o D e=>k b o (λq=>by have e:=((hw b q).1)▸e;ext) (x.ext.keep b o D e),λb D ps e=>dF (x.ext.tab b D ps e) λm e'=>⟨m,k b _ (λq=>(hw b q).2 D) e'⟩,λb o e=>?_,λb o D hq e=>k b o (λq=>(hw b q).2 D) (x.ext.quiet b o D hq e)⟩,x.os,x.drawn,x.gens⟩;show dF (x.ext.there b o e) λo' e'=>⟨o',k b o' (λq=>by have e:=((hw b q).1)▸e;ext) e'⟩
theorem dG.but(x:dG H s Y)(k:Y.heap.SameBut aS nG.heap)(hC:s.heap.get? aS=ah)(hT:aS∉bX)(o:nG.os=Y.os)(d:nG.drawn=Y.drawn)(g:nG.gens=Y.gens):dG H s nG where
 ext:=⟨λb o hb' e=>k.extBut b o (λq=>by have e:=hC▸q▸e;ext) (x.ext.keep b o hb' e),λb hb' ps e=>dF (x.ext.tab b hb' ps e) λmo e'=>⟨mo,k.extBut b _ (λq=>hT (q▸hb')) e'⟩,
  λb o e=>dF (x.ext.there b o e) λo' e'=>⟨o',k.extBut b o' (λq=>by have e:=hC▸q▸e;ext) e'⟩,λb o hb' hq e=>k.extBut b o (λq=>hT (q▸hb')) (x.ext.quiet b o hb' hq e)⟩
 os:=o.trans x.os
 drawn:=d.trans x.drawn
 gens:=g.trans x.gens
theorem FR.WS(r:FR H U D L J h G W)(e:h.get? b=ah):b∉W:=λhw=>oX (r.jh b hw) λ_ _ o e' _=>by have e':=e▸e';ext
theorem FR.afk(r:FR H U D L J h G W)(x:gU H h h')(e:h'.get? b=O (cV vs n)):b∉W:=λhw=>by
 show fc (r.jh b hw).2 λht m=>(bf m λo e' hk=>?_);obtain rfl:=aW ((x.keep b o ht e')▸e);rcases hk with⟨h1,_⟩|⟨_,_,h1⟩|⟨_,h1⟩
 .injection h1 with h3
  show nomatch h3
 .ext
 .ext
structure ψ(A:bR)(ct:aG)(K:LN)(items:List (List Int))(I:af)(fp wr:List af)(St:Nat->aQ->Prop):Prop where
 sub:∀b∈wr,b∈fp
 frame:∀i h h',St i h->(∀b∈fp,∀o,h.get? b=O o->h'.get? b=O o)->St i h'
 item:∀i (s:ae) J (Q:ae->Prop) (aN:Option aa->ae->Prop) (a0:aa->ae->Prop),i<items.length->St i s.heap->
  (∀Y ks,items[i]? =O ks->St (i+1) Y.heap->Off wr s Y->Stores A J K ks Q a0 Y)->
  (∀v ax,aE (aD prog w) A (jE ct (R I) v) (λ_ uG=>aE (aD prog w) A (jG ct J v) (λ_ aP=>Q aP) a0 uG) a0 ax->aN (O v) ax)->
  aE (aD prog w) A (gY (R I)) aN a0 s
 done:∀(s:ae) (Q:Option aa->ae->Prop) (a0:aa->ae->Prop),St items.length s.heap->(∀Y,Off wr s Y->Q ah Y)->aE (aD prog w) A (gY (R I)) Q a0 s
 self:∀i (s:ae) (Q:aa->ae->Prop) (a0:aa->ae->Prop),St i s.heap->Q (R I) s->aE (aD prog w) A (gn (R I)) Q a0 s
theorem Rm{ns:List Int}(W:mU prog w A I fp wr ns.length (Gy ns) St):
 ψ A (aq (NM x) px) [x] (ns.map λn=>[n]) I fp wr St where
 sub:=W.sub
 frame:=W.frame
 item:=λi s J Q aN a0 hi st hs hR=>by show W.item i s aN a0 (by simpa using hi) st λv h' tk qQ Oo keep=>eT qQ λn t hn hv=>?_;subst hv;show hR _ _<|aC<|jD<|hs {s with heap:=h',toks:=tk} [n] (by rw[cZ,hn];rfl) Oo (kK h' tk Z keep) t
 done:=λs Q a0 st hq=>W.done s Q a0 (by simpa using st) λh' tk keep=>hq _ (kK h' tk Z keep)
 self:=W.self
theorem Dx{ps:List (Int×Int)}(hh:dh A)(W:WalksU prog w A I fp wr ps.length (λi MS=>∃a b t u,ps[i]? =O (a,b)/\MS=#[ag a t,ag b u]) St Mid):
 ψ A (fM [aq (NM x) px,aq (NM y) py] k0 pt) [x,y] (ps.map λp=>[p.1,p.2]) I fp wr St where
 sub:=W.sub
 frame:=W.frame
 item:=λi s J Q aN a0 hi st hs hR=>by show W.item i s aN a0 (by simpa using hi) st λT MS h' tk q hT hm keep=>dF q λa q=>ff q λb t u hp hv=>?_;subst hv;show hR _ _<|W.go _ _ _ i T {s with heap:=h',toks:=tk} _ a0 hm λh'' aj6 aeF=>Kd hh (hT.at λo e=>aeF T o (W.apart i T h' hm) e) Z Z λh3 he=>have k3:=λc o e=>he c o (fB (cj e)) e;have off:Off wr s {s with heap:=h3,toks:=tk}:=kK h3 tk Z (λc o hc e=>k3 c o (aeF c o hc (keep c o hc e)));aj (cQ (jD (ir ((hs {s with heap:=h3,toks:=tk} [a,b] (by rw[cZ,hp];rfl) (W.frame _ _ _ aj6 λc _ o e=>k3 c o e) off) t) (λ_ s4 q4=>?_) λ_ _ e=>e)));show aj (cQ (jD (ir (q4 u) (λ_ s5 q5=>?_) λ_ _ e=>e)));show aC q5
 done:=λs Q a0 st hq=>W.done s Q a0 (by simpa using st) λh' tk keep=>hq _ (kK h' tk Z keep)
 self:=W.self
inductive ω(H:List af)(U:aQ)(A:bR)(L:dw)(J:cI)(G:iB)(ct:aG)(K:LN)(items:List (List Int))(lp:Bool)(s:ae):aa->ae->Prop
 |mk {aP:ae} (e:dG H s aP) (I:af) (fp wr:List af) (St:Nat->aQ->Prop) (W:ψ A ct K items I fp wr St) (st:St 0 aP.heap) (Gz:lp=N->∀i h,St i h->∀b∈wr,kP h b)
  (χ:∀b∈wr,s.heap.get? b=ah) (Ak:∀b∈fp,b∉bX/\∃o,aP.heap.get? b=O o) (ap:lp=N->∀b∈fp,∀D W,FR H U D L J s.heap G W->b∉W):ω H U A L J G ct K items lp s (R I) aP
def YG(H:List af)(U:aQ)(A:bR)(L:dw)(J:cI)(G:iB)(e:aG)(ct:aG)(K:LN)(items:List (List Int))(lp:Bool:=ab):Prop:=
 ∀s,ER H U L J s.heap G->T A (a7 e J) s (λx ax=>T A (gn x) ax (ω H U A L J G ct K items lp s))
theorem zp.itc{ns:List Int}(q:zp H U A L J G e ns):YG H U A L J G e (aq (NM x) px) [x] (ns.map λn=>[n]) lp:=λs r=>
 (q s r).mono λv ax q=>q.mono λit aP q=>by obtain⟨e1,I,fp,wr,St,Wk,st,Gz,χ,Ak⟩:=q;show⟨e1,I,fp,wr,St,Rm Wk,st,λ_=>Gz,χ,λb D=>⟨(Ak b D).1,(Ak b D).2.1⟩,λ_ b D _ _ r=>(Ak b D).2.2.elim r.WS λq=>q.φ r⟩
noncomputable def qV(p:Int×Int):AV:=fG [a6 p.1,a6 p.2]
theorem YH{ps:List (Int×Int)}:∀{vs:List aa} {F:List af},bA h (ps.map qV) vs F->vs.length=ps.length/\
 ∃(Ts:Nat->af) (MS:Nat->Array aa),∀j,j<vs.length->vs[j]? =O (R (Ts j))/\Ts j∉bX/\h.IsTuple (Ts j) (MS j)/\∃a b t u,ps[j]? =O (a,b)/\MS j=#[ag a t,ag b u]:=by
 induction ps with
 |nil=>intro vs F r;show fc r λdX _=>?_;clear r;subst dX;show⟨rfl,λ_=>0,λ_=>#[],λj hj=>absurd hj (rM _)⟩
 |cons p ps iH=>
  intro vs F r;show og λgG kG=>(gr r λv tQ F1 F2 qI e2 e3 _=>?_);obtain⟨l,Ts,MS,q⟩:=iH e3;show kG ?_;clear kG gG;show qI▸gH e2 λa ws n DY ht e4 e5=>DY▸kO e5 λw1 ws1 _ _ Ol e6 e7 _=>?_;subst Ol;show kO e7 λw2 ws2 _ _ C' e8 e9 _=>?_;subst C';show fc e9 λeQ6 _=>dF e6.toInt λt eQ7=>dF e8.toInt λu eQ8=>?_;subst eQ6;subst eQ7;subst eQ8;show⟨by simp[l],λj=>match j with | 0=>a|j+1=>Ts j,λj=>match j with | 0=>#[ag p.1 t,ag p.2 u]|j+1=>MS j,λj hj=>?_⟩;cases j with
  |zero=>show⟨rfl,ht,⟨_,e4,rfl,n,rfl⟩,p.1,p.2,t,u,rfl,rfl⟩
  |succ j=>show iL (q j (by simpa using hj)) λa1 a2 a3 a4=>rT a1 a2 a3 a4
theorem Dy{P P':Nat->Array aa->Prop}(x:WalksU prog w A I fp wr n P St Mid)(hn:n=n')(hp:∀i v,i<n->P i v->P' i v):WalksU prog w A I fp wr n' P' St Mid:=by subst hn;show⟨x.sub,x.frame,λi s Q a0 hi st hq=>x.item i s Q a0 hi st λT v h' tk p=>hq T v h' tk (hp i v hi p),x.go,x.apart,x.done,x.self⟩
theorem Ju{ps:List (Int×Int)}(hh:dh A)(B:Tp U)(he:V H U A L J G e (bS K) fr)(hi:K=ps.map qV)(hlp:lp=N->fr=N):
 YG H U A L J G e (fM [aq (NM x) px,aq (NM y) py] k0 pt) [x,y] (ps.map λp=>[p.1,p.2]) lp:=λs r=>by
 show(he s r).tR λv ax F e1 aO q=>?_;apply fQ aO;intro a vs n F' ht a3 a4 ρ;subst ρ;subst hi;obtain⟨l,Ts,MS,q2⟩:=YH a4;show uV (bU a3) ?_;have hT:=λj hj=>by show og λgG kG=>iL (q2 j hj) λ_ _ i1 _=>bf i1 λo ho _=>kG ?_;clear kG gG;show cj ho
 have all:∀b∈ax.heap.objs.size::a::(aJ vs.toArray.size).map Ts,(b∉bX/\∃o,(ax.heap.push {cls:=ao "list_iterator",data:=bF #[R a,ag 0 0]}).get? b=O o)/\(fr=N->s.heap.get? b=ah\/∃vs n,(ax.heap.push {cls:=ao "list_iterator",data:=bF #[R a,ag 0 0]}).get? b=O (cV vs n)):=λb D=>by
  show ba (bq.mp D) (λa1=>a1▸?_) λD=>?_
  .show ⟨⟨fm (jz B (r.base.trans e1.ext)),⟨_,bI _ Z⟩⟩,λ_=>ak (e1.ext.new (bz _))⟩
  show ba (bq.mp D) (λa1=>a1.symm▸?_) λD=>?_
  .show ⟨⟨ht,⟨_,aZ _ a3⟩⟩,λhf=>ak ((q hf).1 _ au)⟩
  .show bf (bH.mp D) λj hj dX=>dX▸have hj:j<vs.length:=dm.mp hj;iL (q2 j hj) λRj p1 p2 _=>?_;have dM:j<ps.length:=by lia
   show jy (bA.get a4 (by rw[cZ,dE dM];rfl)) λu F3 g1 g2 _=>?_;obtain rfl:=aW (Rj.symm.trans g1);show gH g2 λa' ws n' g3 _ g4 _=>?_;obtain rfl:=j9 g3;show⟨⟨p1,⟨_,aZ _ g4⟩⟩,λ_=>aw (qG ws n' (aZ _ g4))⟩
 show⟨?_,ax.heap.objs.size,_,_,_,Dx hh (Dy (WalksU.listOfTuples hh ax.heap.objs.size a (fB (cj a3)) vs.toArray Ts MS (λj hj=>by simpa using (q2 j (hj)).1) (λj hj=>fB (hT j (hj))))
  (by assumption) (λi v hi hv=>?_)),(gI ?_ ?_ ?_),λ_ i h st b D=>?_,λb D=>?_,λb D=>(all b D).1,λl b D hb' W r=>((all b D).2 (hlp l)).elim r.WS λqQ=>jg qQ λvs n e=>r.afk (e1.ext.trans (.push _ _)) e⟩
 .show e1.trans ⟨.push _ _,rfl,rfl,eF _⟩
 .subst hv;show(q2 i (hi)).2.2.2
 .show kJ _ (bI _ Z) Z Z
 .show bU (aZ _ a3)
 .show λk hk=>(q2 k (hk)).2.2.1.at λo e=>aZ _ e
 .apply jR D;show fc st λi1 _=>gC i1 λo ho _ hd=>cn o ho (ak ⟨_,hd,λx t e=>by simp at e⟩)
 .apply jR D;show e1.ext.new (bz _)
theorem OJ{ps:List (Int×Int)}(hh:dh A)(B:Tp U)(he:V H U A L J G e (bS K) ab)(hi:K=ps.map qV):
 YG H U A L J G e (fM [aq (NM x) px,aq (NM y) py] k0 pt) [x,y] (ps.map λp=>[p.1,p.2]):=Ju hh B he hi λh=>II h
theorem YG.zip{ns ms:List Int}(hh:dh A)(B:cx U mg mb)(I:dQ mg mb)(kQ:Gi L "zip")(he:V H U A L J G e (bS K) ab)(dH:cH e=ab)(Jt:V H U A L J G e' (bS ys) ab)(IP:cH e'=ab)(hi:jd K=O ns)(hi':jd ys=O ms):
 YG H U A L J G (bx (aq (aB "zip") np) [e,e'] [] pos) (fM [aq (NM x) px,aq (NM y) py] k0 pt) [x,y] ((ns.zip ms).map λp=>[p.1,p.2]):=λs r=>by
 show mE ("zip") ("zip") B I aL kQ (rfl) (fJ.cons he (fJ.cons Jt fJ.nil IP) dH) (by simp[dW,dH,IP]) r λvs ax F e1 V1=>?_;apply nJ V1;intro v v3 G1 G3 V2 V4;apply fQ V2;intro a us n F' ht a3 a4 eF4;apply fQ V4;intro b ws m Rd ht' b3 b4 eF5;show fc (n6 (intsAre_of a4 hi)) λk1 k2=>fc (n6 (intsAre_of b4 hi')) λl1 l2=>call_zip_2 (bU a3) (bU b3) λh' z1 z2 z3 z4 z5 z6 z7=>have la: @LT.lt Nat instLTNat a ax.heap.objs.size:=cj a3;have lb: @LT.lt Nat instLTNat b ax.heap.objs.size:=cj b3;Kj z1 ?_;have nN:=λc hc=>e1.ext.new (by
  cases q:ax.heap.get? c with
  |none=>rfl
  |some o=>show absurd (cj q) (j5.mpr hc))
 have YI:=jz B.top (r.base.trans e1.ext);show⟨?_,_,_,_,_,Dx hh (Dy (WalksT.zip2 hh _ _ _ _ _ a b (by constructor<;>(show(?_:¬((_:Nat)=(_:Nat))))<;>lia) us.toArray ws.toArray).toU (by simp[k1,l1]) (λi v hi hv=>?_)),⟨z1,z2,⟨_,_,z3⟩,z4,z5,bU (z7 _ _ a3),bU (z7 _ _ b3)⟩,(λh=>nomatch h),λc hc=>?_,λc hc=>?_,(λh=>nomatch h)⟩
 .show e1.trans ⟨.of_keep z7,rfl,rfl,eF _⟩
 .show jy hv λp q h1 h2 h3=>eT (k2 i p (by simpa using h1)) λn1 t1 g1 dX=>eT (l2 i q (by simpa using h2)) λn2 t2 g2 qI=>?_;subst dX;subst qI;show ae9 n1 n2 t1 t2 ?_ h3;rw[List.zip,EJ,g1,g2]
 .simp at hc;rcases hc with rfl|rfl|rfl|rfl<;>show nN _ fF
 .simp at hc;rcases hc with rfl|rfl|rfl|rfl|rfl|rfl|rfl
  .show ⟨fm (vj YI),_,z1⟩
  .show ⟨fm (vj YI),_,z2⟩
  .show ⟨fm (vj YI),_,z3⟩
  .show ⟨fm au,bf z4 λo e _=>⟨o,e⟩⟩
  .show ⟨fm au,bf z5 λo e _=>⟨o,e⟩⟩
  .show ⟨ht,_,z7 _ _ a3⟩
  .show ⟨ht',_,z7 _ _ b3⟩
noncomputable def o9(ifs:List aG)(J:cI):aI Bool:=forIn ifs N λc r=>if r=N then do let ok<-isTrue c J (a7 c J);pure (mw ok) else pure (mw r)
theorem y9(I:Nat->ae->Prop)(turn:∀n s (P1:Option aa->ae->Prop) (P2 bh:ae->Prop) (P3:Bool->ae->Prop) (P4:aa->ae->Prop) (a0:aa->ae->Prop),(∀m Y,m<n->I m Y->bh Y)->(∀ax,aN (bW cL) ax->P1 ah ax)->
 (∀v ax,aE (aD prog w) A (jE ct it v) (λ_ uG=>aE (aD prog w) A (jG ct J v) (λ_ aP=>P2 aP) a0 uG) a0 ax->P1 (O v) ax)->(∀aP,aE (aD prog w) A (o9 ifs J) P3 a0 aP->P2 aP)->
 (∀dp,aE (aD prog w) A (a7 elt J) P4 a0 dp->P3 N dp)->(∀dp,bh dp->P3 ab dp)->(∀x fy,aE (aD prog w) A (call (bB "list.append") [jQ,x]) (λ_=>bh) a0 fy->P4 x fy)->I n s->aE (aD prog w) A (gY it) P1 a0 s)(n:Nat)(h:I n s):
 oH (aD prog w) A (hx (cE elt [⟨ct,iter,ifs,0⟩] scope pos) 0 it jQ J) aN s:=by
 show codeAny_loop Z I (λn s hI=>?_) n h;show(?_:aE _ A ((va (cE elt [⟨ct,iter,ifs,0⟩] scope pos) 0 it jQ J).onRaise (λx=>do noteFrame x J;theTreesLotGoes x)) _ _ s);show wpAny_noted ?_;rw[compTurn_list];show aj (jW (aj (ir (turn n s (λr ax=>match r with
  |none=>aN (bW cL) ax
  |some v=>aE (aD prog w) A (jE ct it v) (λ_ uG=>aE (aD prog w) A (jG ct J v) (λ_ aP=>
   aE (aD prog w) A (forIn ifs N λc r=>if r=N then do let ok<-isTrue c J (a7 c J);pure (mw ok) else pure (mw r)) (λok dp=>
    if ok=N then aE (aD prog w) A (a7 elt J) (λx fy=>
     aE (aD prog w) A (call (bB "list.append") [jQ,x]) (λ_ ib=>∃m,m<n/\I m ib) (Az (aD prog w) A J λe Y=>aN (j6 e) Y) fy) (Az (aD prog w) A J λe Y=>aN (j6 e) Y) dp
    else∃m,m<n/\I m dp) (Az (aD prog w) A J λe Y=>aN (j6 e) Y) aP) (Az (aD prog w) A J λe Y=>aN (j6 e) Y) uG) (Az (aD prog w) A J λe Y=>aN (j6 e) Y) ax) _ (λY=>∃m,m<n/\I m Y) _ _ _
  (λm _ a b=>cn m a b) (λ_ h=>h) (λ_ _ h=>h) (λ_ h=>h) (λ_ h=>(if_pos Z).mpr h) (λ_ h=>(if_neg aL).mpr h) (λ_ _ h=>h) hI) (λr ax U=>?_) λ_ _ h'=>h')))
 cases r with
 |none=>show aC U
 |some v=>
  show aj (ir U (λ_ uG Α=>?_) λ_ _ h'=>h');show aj (ir Α (λ_ aP ku=>aj (ir ku (λok dp uq=>?_) λ_ _ h'=>h')) λ_ _ h'=>h');cases ok with
  |false=>show aC ⟨rfl,uq⟩
  |true=>show aj (aj (ir uq (λx fy GB=>aj (ir GB (λ_ ib zQ=>aC (aC ⟨rfl,zQ⟩)) λ_ _ h'=>h')) λ_ _ h'=>h'))
theorem pg{vn:cI}{names:List (aV×vb)}{x:aV}{k:vb}(h:names.lookup x=O k):
 (names.map λ(n,k)=>if(k==eQ && vn.scope.kind==dZ && vn.kindOf n==O dz) then(n,dz) else(n,k)).lookup x=O k\/
 (k=eQ/\(names.map λ(n,k)=>if(k==eQ && vn.scope.kind==dZ && vn.kindOf n==O dz) then(n,dz) else(n,k)).lookup x=O dz):=by
 induction names with
 |nil=>show Bg h
 |cons p r iH=>
  obtain⟨n,k'⟩:=p;have hd:∀q:aV×vb,UM x (q::r.map λ(n,k)=>if(k==eQ && vn.scope.kind==dZ && vn.kindOf n==O dz) then(n,dz) else(n,k))=bif x==q.1 then O q.2 else UM x (r.map λ(n,k)=>if(k==eQ && vn.scope.kind==dZ && vn.kindOf n==O dz) then(n,dz) else(n,k)):=λq=>by change(match x==q.1 with|true=>_|false=>_)=_;cases x==q.1<;>rfl
  have hh:(match x==n with|true=>O k' |false=>r.lookup x)=O k:=h;show ix.symm▸?_;dsimp only;by_cases hc:(k'==eQ && vn.scope.kind==dZ && vn.kindOf n==O dz)=N
  .rw [if_pos hc,hd];cases E:x==n with|true=>rw[E]at hh;show aw ⟨(aW hh)▸eq_of_beq (fN.mp (fN.mp hc).1).1,rfl⟩|false=>rw[E]at hh;show iH hh
  .rw [if_neg hc,hd];cases E:x==n with|true=>rw[E]at hh;show ak hh|false=>rw[E]at hh;show iH hh
theorem wL(afl:∀x∈scope.names,x.2=eQ->∃c,J.cells.lookup x.1=O c):
 ∃cl,rn scope J=pure cl/\∀x,(x,eQ)∈scope.names->cl.lookup x=J.cells.lookup x:=by
 delta rn
 have key:∀(names:List (aV×vb)) (cs:List (aV×af)),(∀x∈names,x.2=eQ->∃c,J.cells.lookup x.1=O c)->(∀x c,cs.lookup x=O c->J.cells.lookup x=O c)->
  ∃cl,(forIn names cs λx cs=>if(x.2==eQ)=N then(do let c<-cellOf J x.1;pure (mw ((x.1,c)::cs))) else pure (mw cs):aI (List (aV×af)))=pure cl/\
   (∀x,(x,eQ)∈names\/cs.lookup x≠ah->cl.lookup x=J.cells.lookup x)/\(∀x c,cl.lookup x=O c->J.cells.lookup x=O c):=by
  intro names;induction names with
  |nil=>
   show λcs _ hc=>kJ cs Z (λx E=>?_) hc;rcases E with E|E
   .ext
   .cases q:cs.lookup x with
    |none=>show(E q).elim
    |some c=>rw[hc x c q]
  |cons p names ih=>
   intro cs hn hc;obtain⟨n,k⟩:=p;rw[yf];by_cases hk:(k==eQ)=N
   .show dF (hn (n,k) au (of_decide_eq_true hk)) λc hcn=>?_;have hc':∀x c',((n,c)::cs).lookup x=O c'->J.cells.lookup x=O c':=λx c' e=>by
     dsimp only[AL]at e;show boC (x==n) (λE=>?_) λE=>?_
     .replace e:=E▸e;show(by simpa using E)▸e▸hcn
     .have e:=E▸e;show hc x c' e
    show gC (ih ((n,c)::cs) (λx E=>hn x (bV _ E)) hc') λcl e1 e2 e3=>((kJ cl ?_ (λx E=>?_) e3))
    .rw [hk,cellOf,hcn];show e1
    .show e2 x ?_;rcases E with E|E
     .show ba (bq.mp E) (λE=>?_) λE=>ak E;cases E
      right
      simp
     .right
      dsimp only[AL];cases x==n with
      |true=>show Option.some_ne_none c
      |false=>show E
   .show gC (ih cs (λx E=>hn x (bV _ E)) hc) λcl e1 e2 e3=>((kJ cl ?_ (λx E=>?_) e3))
    .simp only[hk];show e1
    .show e2 x ?_;rcases E with E|E
     .show ba (bq.mp E) (λE=>?_) λE=>ak E;show Yu E λa1 a2=>?_;subst a1;subst a2;show(hk Z).elim
     .show aw E
 show gC (key scope.names [] afl (λx c e=>by ext)) λcl e1 e2 _=>((cn cl ?_ (λx E=>e2 x (ak E))));rw[<-e1];rw[bind_pure]
def lC(G:iB):LN->iB
 | []=>[]
 |y::fs=>(ck G y).elim (lC G fs) λp=>(y,p)::lC G fs
def pW(G:iB):LN->Bool
 | []=>N
 |y::fs=>(ck G y).isSome && pW G fs
def putAll:iB->LN->List Int->iB
 |G,x::K,k::ks=>putAll (jk G x 0 (a6 k)) K ks
 |G,_,_=>G
theorem GC(h:ck (lC G fs) y=O (k,av)):y∈fs/\ck G y=O (k,av):=by
 induction fs with
 |nil=>ext
 |cons z fs ih=>
  have h:ck ((ck G z).elim (lC G fs) λp=>(z,p)::lC G fs) y=O (k,av):=h;show δ (ck G z) (λq=>?_) λp q=>?_
  .rw [q]at h;show fc (ih h) λa b=>⟨by lia,b⟩
  .obtain ⟨k',mI⟩:=p;rw[q]at h;replace h:=(mA _ z k' mI y).symm.trans h;by_cases e:z=y
   .subst e;rw[if_pos Z]at h;cases h
    show⟨by lia,q⟩
   .simp [e]at h;show fc (ih h) λa b=>⟨by lia,b⟩
theorem OK(h:pW G fs=N)(hy:y∈fs):∃k av,ck G y=O (k,av):=by
 induction fs with
 |nil=>show kM hy
 |cons z fs ih=>have h:=fN.mp h;show ba (bq.mp hy) (λa1=>a1▸dF (yq.mp h.1) λp e=>qG p.1 p.2 e) λhy=>ih h.2 hy
theorem Dz{K:LN}:∀{ks:List Int} {G:iB} {y k:Nat} {av:AV},K.length=ks.length->ck (putAll G K ks) y=O (k,av)->
 (∃(j:Nat) (i:Int),K[j]? =O y/\ks[j]? =O i/\av=a6 i/\∀j':Nat,j<j'->K[j']? ≠O y)\/(y∉K/\ck G y=O (k,av)):=by
 induction K with
 |nil=>
  intro yY;cases yY with
  |nil=>intro G y k av _ h;show aw ⟨mX,h⟩
  |cons=>intros;first|ext|(simp at *)
 |cons x K iH=>
  intro yY;cases yY with
  |nil=>intros;first|ext|(simp at *)
  |cons i ks=>
   intro G y k av hl h;rcases iH (Nat.add_right_cancel hl) h with⟨j,i',h1,h2,h3,h4⟩|⟨h1,h2⟩
   .show ak (MC (j+1) i' h1 h2 h3 (λj' hj'=>?_));cases j' with|zero=>simp_all|succ j'=>show h4 j' (Lq.mp hj')
   .rw [fH]at h2;rcases yB (y=x) with e|e
    .subst e;replace h2:=(if_pos Z)▸h2;show Yu (aW h2) λa1 a2=>?_;subst a1;subst a2;show ak (MC 0 i Z Z Z (λj' hj'=>?_));cases j' with|zero=>simp_all|succ j'=>intro q;show h1 (cY (q))
    .rw [if_neg e]at h2;show aw ⟨hb e h1,h2⟩
structure ed(L scope:dw)(fs K:LN):Prop where
 kind:scope.kind=dZ
 cell:∀y∈scope.names,y.2≠dz
 names:∀y∈scope.names,y.2=cU->scope.names.lookup y.1=O cU
 free:∀y∈scope.names,y.2=eQ->y.1∈fs.map NM
 frees:∀y∈fs,scope.names.lookup (NM y)=O eQ/\(NM y,eQ)∈scope.names
 locs:∀x∈K,scope.names.lookup (NM x)=O cU
 outer:∀y∈fs,L.names.lookup (NM y)=O dz\/L.names.lookup (NM y)=O eQ
 nodup:K.Nodup
def ahn(L scope:dw)(fs K:LN):Bool:=
 scope.kind==dZ && scope.names.all (λy=>y.2 != dz) && scope.names.all (λy=>y.2 != cU ||scope.names.lookup y.1==O cU) &&
 scope.names.all (λy=>y.2 != eQ ||(fs.map NM).contains y.1) && fs.all (λy=>scope.names.lookup (NM y)==O eQ && scope.names.contains (NM y,eQ)) &&
 K.all (λx=>scope.names.lookup (NM x)==O cU) && fs.all (λy=>L.names.lookup (NM y)==O dz ||L.names.lookup (NM y)==O eQ) && decide K.Nodup
theorem ed.of{K:LN}(h:ahn L scope fs K=N):ed L scope fs K:=by simp only[ahn,qw,mW,LM,beq_iff_eq,bne_iff_ne,EK,decide_eq_true_eq]at h;obtain⟨⟨⟨⟨⟨⟨⟨h1,h2⟩,h3⟩,h4⟩,h5⟩,h6⟩,h7⟩,h8⟩:=h;show⟨h1,h2,λy hy e=>(h3 y hy).resolve_left (λq=>q e),λy hy e=>(h4 y hy).resolve_left (λq=>q e),h5,h6,h7,h8⟩
theorem ed.OL{K:LN}(c:ed L scope fs K)(r:ER H U L J s.heap G)(hG:pW G fs=N):
 ∃cl,rn scope J=pure cl/\∀y∈fs,cl.lookup (NM y)=J.cells.lookup (NM y):=by
 obtain⟨cl,e1,e2⟩:=wL (λx E hk=>by
  show bf (bH.mp (c.free x E hk)) λy hy e=>jg (OK hG hy) λk av e3=>eT (r.has y k av e3) λv F cA _=>have hk2:=r.WH _ (c.outer y hy);ba cA (λi0=>fc i0 λhl _=>?_) λi0=>iM i0 λ_ c' hc _=>?_
  .rw [hl]at hk2;rcases hk2 with hk2|hk2<;>ext
  .show ⟨c',e▸hc⟩)
 show cn cl e1 (λy hy=>e2 _ (c.frees y hy).2)
theorem ER.aho{K:LN}(c:ed L scope fs K)(r:ER H U L J h G)(x:gU H h h')(jB:∀y∈fs,fX.cells.lookup (NM y)=J.cells.lookup (NM y))(fr:∀y∈fs,fX.kindOf (NM y)=O dz\/fX.kindOf (NM y)=O eQ)(e:ck (lC G fs) y=O (k,av)):∃v F,Aj fX h' (NM y) v/\bM h' av v F:=by
 show fc (GC e) λh3 h4=>eT (r.has y k av h4) λv F cA aO=>have hk2:=r.WH _ (c.outer y h3);ba cA (λi0=>fc i0 λhl _=>?_) λi0=>oY i0 λ_ c' hc ht hv=>?_
 .rw [hl]at hk2;rcases hk2 with hk2|hk2<;>ext
 .show kK v F (aw ⟨fr y h3,c',(jB y h3).trans hc,ht,x.cell ht hv⟩) (aO.ext x)
theorem ER.ahp{K:LN}{ks:List Int}(c:ed L scope fs K)(r:ER H U L J h G)(x:gU H h h')(jB:∀y∈fs,fX.cells.lookup (NM y)=J.cells.lookup (NM y))(fr:∀y∈fs,fX.kindOf (NM y)=O dz\/fX.kindOf (NM y)=O eQ)(n:h'.Ns fX.locals m)(ll:∀y∈K,fX.kindOf (NM y)=O cU)(hl:K.length=ks.length)(hm:∀(j:Nat) x k,K[j]? =O x->ks[j]? =O k->∃t,m (NM x)=O (ag k t))(y k:Nat)(av:AV)(e:ck (putAll (lC G fs) K ks) y=O (k,av)):∃v F,Aj fX h' (NM y) v/\bM h' av v F:=by
 rcases Dz hl e with⟨j,i,h1,h2,rfl,_⟩|⟨h1,h2⟩
 .show dF (hm j y i h1 h2) λt e3=>kK (ag i t) [] (ak ⟨ll y (cY h1),m,n,e3⟩) (.ofInt i t)
 .show r.aho c x jB fr h2
theorem acd{y:aV}(h:scope.names.lookup y=O eQ):(jt scope cl aS J).kindOf y=O dz\/(jt scope cl aS J).kindOf y=O eQ:=(pg (vn:=J) h).elim aw λe=>ak e.2
theorem YJ{y:aV}{k:vb}(h:scope.names.lookup y=O k)(hk:k≠eQ):(jt scope cl aS J).kindOf y=O k:=(pg (vn:=J) h).elim id λe=>absurd e.1 hk
theorem ER.comp{K:LN}{ks:List Int}(c:ed L scope fs K)(r:ER H U L J h G)(x:gU H h h')(jB:∀y∈fs,cl.lookup (NM y)=J.cells.lookup (NM y))(n:h'.Ns aS m)(hC:aS∉bX)(hl:K.length=ks.length)(hm:∀(j:Nat) x k,K[j]? =O x->ks[j]? =O k->∃t,m (NM x)=O (ag k t)):ER H U scope (jt scope cl aS J) h' (putAll (lC G fs) K ks) where
 base:=r.base.trans x
 kind:=c.kind
 gl:=λ_ hy=>YJ hy nofun
 WH:=λ_ hy=>hy.elim (λh=>ak (YJ h nofun)) acd
 glob:=r.glob
 bi:=r.bi
 loc:=hC
 has:=r.ahp c x jB (λy h=>acd (c.frees y h).1) n (λy h=>YJ (c.locs y h) nofun) hl hm
theorem Stores.local(hC:J.locals=aS)(hk:J.scope.kind=dZ):∀(K:LN) (ks:List Int) (s:ae) (m:aV->Option aa) (Q:ae->Prop) (a0:aa->ae->Prop),K.length=ks.length->K.Nodup->
 (∀x∈K,J.kindOf (NM x)=O cU)->s.heap.Ns aS m->
 (∀Y m',gu aS s.heap Y.heap->Y.os=s.os->Y.drawn=s.drawn->Y.gens=s.gens->Y.heap.Ns aS m'->(∀(j:Nat) x k,K[j]? =O x->ks[j]? =O k->∃t,m' (NM x)=O (ag k t))->
  (∀y,(∀x∈K,y≠NM x)->m' y=m y)->Q Y)->Stores A J K ks Q a0 s:=by
 intro K;induction K with
 |nil=>
  intro ks s m Q a0 hl hd E n hq;cases ks with
  |cons=>ext
  |nil=>show hq s m (Vg ..) Z Z Z n (λj x k e=>by ext) (λ_ _=>rfl)
 |cons x K ih=>
  intro ks s m Q a0 hl hd E n hq;cases ks with
  |nil=>ext
  |cons i ks=>
  intro t;subst hC;show sM (E x au) n (λh' wu zM=>?_) (by show hk.symm▸?_;rfl);show ih ks _ _ Q a0 (by simpa using hl) (by simp at hd;show hd.2) (λy hy=>E y au) wu λY m' h1 h2 h3 h4 h5 h6 h7=>(hq Y m' (zM.trans h1) h2 h3 h4 h5 (λj y k e1 e2=>?_) (λy hy=>?_))
  .cases j with
   |zero=>
    simp at e1 e2;subst e1 e2;show DV t ?_;rw[h7 (NM x) (λz hz e=>?_)]
    .show if_pos Z
    .have:=Cy e;subst this;simp at hd;show hd.1 hz
   |succ j=>show h6 j y k (e1) (e2)
  .rw [h7 y (λz hz=>hy z au)];show if_neg (hy x au)
noncomputable def kR(ns:List Int):AV:=bS (ns.map a6)
def ON(H:List af)(U:aQ)(A:bR)(L:dw)(J:cI)(G:iB):List aG->Bool->Prop
 | [],b=>b=N
 | [c],b=>pO H U A L J G c b
 |_,_=>False
inductive ahq(H:List af)(aS aY:af)(St:Nat->aQ->Prop)(items:List (List Int))(p:List Int->Bool)(f:List Int->Int)(s:ae)(k:Nat)(Y:ae):Prop
 |mk (i:Nat) (m':aV->Option aa) (ys:List aa) (n:Nat) (e:k=items.length+1 - i) (hi:i<=items.length) (x:dG H s Y) (st:St i Y.heap) (nn:Y.heap.Ns aS m') (hd:Y.heap.get? aY=O (bp ys n))
  (hV:bA Y.heap ((((items.take i).filter p).map f).map a6) ys [])
theorem Jv{K:LN}{items:List (List Int)}{p:List Int->Bool}{f:List Int->Int}(B:Tp U)(c:ed L scope fs K)(r:ER H U L J s.heap G)(jB:∀y∈fs,cl.lookup (NM y)=J.cells.lookup (NM y))(dM:∀ks∈items,K.length=ks.length)(hsz:items.length<=1000000)(vO:∀ks∈items,∀fX,ON H U A scope fX (putAll (lC G fs) K ks) ifs (p ks))(GG:∀ks∈items,p ks=N->∀fX,V H U A scope fX (putAll (lC G fs) K ks) elt (a6 (f ks)) ab)(uu:ω H U A L J G ct K items lp s it aP)(hRR:∀aY aS Y m' (ys:List aa) n,dG H s Y->s.heap.get? aY=ah->s.heap.get? aS=ah->aY≠aS->aY∉bX->aS∉bX->Y.heap.Ns aS m'->Y.heap.get? aY=O (bp ys n)->bA Y.heap (((items.filter p).map f).map a6) ys []->RR (R aY) aS (bW cL) Y):
 aE (aD prog w) A (newList []) (λjQ dp=>aE (aD prog w) A (newFunctionEnv scope J.globals cl [] J.qual ah aA (O J)) (λcenv fy=>
  oH (aD prog w) A (oT (cE elt [⟨ct,iter,ifs,0⟩] scope pos) 0 it jQ {cenv with scope:=ju scope J}) (RR jQ cenv.locals) fy) a0 dp) a0 aP:=by
 obtain⟨e1,I,fp,wr,St,Tk,dH,_,χ,Ak,_⟩:=uu;show ip (Am c.cell (by intro y hy;show kM hy) (λh3 sk wM=>?_) c.kind);generalize Β:aP.heap.push {cls:=ao "list",dict:=ah,data:=bQ ([]:List aa).toArray}=H2 at sk wM ⊢;have hC:H2.objs.size=aP.heap.objs.size+1:=by rw[<-Β,dD]
 generalize hCC:H2.objs.size=aS at sk wM hC ⊢;generalize hDD:aP.heap.objs.size=aY at hC ⊢;have YI:Q5<=aY:=by show hDD▸?_;show jz B (r.base.trans e1.ext)
 have Δ:aY≠aS:=by rw[hC];show fB (iZ _)
 have hDT:=fm YI;have Ε:aS∉bX:=fm (by rw[hC];show qq YI);have aeG:∀b:Nat,aY<=b->aP.heap.get? b=ah:=λb hb'=>by
  cases q:aP.heap.get? b with
  |none=>rfl
  |some o=>show absurd (cj q) (by rw[hDD];show j5.mpr hb')
 have hD2:=aeG aY (ey _);have hC2:=aeG aS (by rw[hC];show lQ _);have hDs:=e1.ext.new hD2;have hCs:=e1.ext.new hC2;have hDf:aY∉fp:=λhm=>by obtain⟨o,e⟩:=(Ak aY hm).2;have e:=hD2.symm.trans e;ext
 have WT:aS∉fp:=λhm=>by obtain⟨o,e⟩:=(Ak aS hm).2;have e:=hC2.symm.trans e;ext
 have old:∀b o,aP.heap.get? b=O o->h3.get? b=O o:=λb o e=>wM.extBut b o (λq=>by have e:=hC2▸q▸e;ext)<|Β▸aZ _ (aZ _ e);have oy:h3.get? aY=O (bp [] 0):=wM.extBut aY _ Δ<|Β▸hDD▸aZ _ (bI _ Z);have Ζ:=Tk.frame _ _ _ dH λb _ o e=>old b o e;have hwT:∀b∈wr,s.heap.get? b=ah/\b∉bX:=λb hb'=>⟨χ b hb',(Ak b (Tk.sub b hb')).1⟩;have loop:∀dp:ae,dp={aP with heap:=h3,toks:=aP.toks+([]:List (aV×aa)).length}->
  oH (aD prog w) A (hx (cE elt [⟨ct,iter,ifs,0⟩] scope pos) 0 (R I) (R aY) (jt scope cl aS J)) (RR (R aY) aS) dp:=by
  rintro dp rfl;show y9 (ahq H aS aY St items p f s) ?_ (items.length+1)
   ⟨0,_,[],0,rfl,fj _,e1.trans ⟨.of_keep old,rfl,rfl,eF _⟩,Ζ,sk,oy,.nil⟩
  rintro k Y P1 P2 bh P3 P4 E' q0 q1 q2 q3 q4 q5 q6 ⟨i,m',ys,n,dX,hi,x1,st,hn,hD,hV⟩;by_cases jA:i<items.length
  .show Tk.item i Y (jt scope cl aS J) P2 P1 E' jA st ?_ q2;intro s4 ks MT st4 IQ;have hmem:=cY MT;show bf ((cn _ (intsAre_of hV (nZ _)) Z)) λns IA wK=>(Stores.local (aS:=aS) Z c.kind K ks s4 m' _ _ (dM ks hmem) c.nodup (λx E=>?_) (hn.at' λo e=>IQ.keep (λq=>WT (Tk.sub _ q)) e) λs5 m5 sb5 o5 d5 g5 n5 hm5 _=>?_)
   .rcases pg (c.locs x E) with e|⟨e,_⟩
    .show e
    .ext
   have x5:=(x1.off IQ hwT).but sb5 hCs Ε o5 d5 g5;have st5:=Tk.frame _ _ _ st4 λb hb' o e=>sb5.extBut b o (λq=>WT (q▸hb')) e;have D5:=sb5.extBut aY _ Δ (IQ.keep (λq=>hDf (Tk.sub _ q)) hD);have er:=r.comp c x5.ext jB n5 Ε (dM ks hmem) hm5;have tests:T A (o9 ifs (jt scope cl aS J)) s5
    (λok s6=>dG H s5 s6/\ok=p ks):=by
    have q:=vO ks hmem (jt scope cl aS J);cases ifs with
    |nil=>show wpAny_tests_nil ⟨.refl _,(q).symm⟩
    |cons c l=>cases l with|nil=>show wpAny_tests_one (q s5 er)|cons _ _=>show q.elim
   show q3 _ (tests.Cx λok s6 x6 oz=>?_);have step:∀l:List Int,(l=if p ks=N then [f ks] else [])->(((items.take (i+1)).filter p).map f)=ns++l:=by intro l WN;rw[take_succ_filter p items i ks MT,jH,<-wK,WN];cases p ks<;>rfl
   show boC (p ks) (λhp=>?_) λhp=>?_
   .rw [hp]at oz;subst oz;show q4 _ ((GG ks hmem hp (jt scope cl aS J) s6 (er.ext x6.ext)).CA λt s7 x7=>q6 _ _ ?_);have x67:=x6.trans x7;have ly:ys.length<=items.length:=by rw[bA.length hV];simp;show bj (AF _ _) ?_;simp;show E3 _ _
    show Al ⟨n,(x67.ext.keep aY _ hDT D5)⟩ (λh8 Rn wg=>?_) (by have:eN=16777216:=rfl;simp;lia);show dF Rn λn8 e8=>have x8:dG H s {s7 with heap:=h8}:=(x5.trans x67).but wg hDs hDT Z Z Z;q0 (items.length+1 - (i+1)) _ (dX▸rJ (kX jA) (iZ i)) ⟨i+1,m5,ys++[ag (f ks) t],n8,rfl,jA,x8,?_,?_,?_,?_⟩
    .show Tk.frame _ _ _ (Tk.frame _ _ _ st5 λb hb' o e=>x67.ext.keep b o (Ak b hb').1 e) λb hb' o e=>wg.extBut b o (λq=>hDf (q▸hb')) e
    .show (x67.ext.ns Ε n5).sameBut wg (eS Δ)
    .rw [e8];simp[bp]
    .rw [step [f ks] (lh (if_pos hp))];show wJ (IA.append (yy _ t qB))
   .rw [hp]at oz;subst oz;show q5 _ (q0 (items.length+1 - (i+1)) _ (dX▸rJ (kX jA) (iZ i)) ⟨i+1,m5,ys,n,rfl,jA,x5.trans x6,(Tk.frame _ _ _ st5 λb hb' o e=>x6.ext.keep b o (Ak b hb').1 e),x6.ext.ns Ε n5,x6.ext.keep aY _ hDT D5,?_⟩);rw[step [] (by simp[hp]),yg];show wJ IA
  .have:i=items.length:=by lia
   subst this;show Tk.done Y _ _ st λs4 IQ=>(q1 _ (hRR aY aS s4 m' ys n (x1.off IQ hwT) hDs hCs Δ hDT Ε (hn.at' λo e=>IQ.keep (λq=>WT (Tk.sub _ q)) e) (IQ.keep (λq=>hDf (Tk.sub _ q)) hD) ?_));rw[sY]at hV;show wJ (intsAre_of hV (nZ _))
 show codeAny_compStart_list (loop _ Z) (Tk.self 0 _ _ _ Ζ (loop _ Z))
theorem V.comp{K:LN}{items:List (List Int)}(p:List Int->Bool)(f:List Int->Int)(B:Tp U)(c:ed L scope fs K)(hG:pW G fs=N)(uu:YG H U A L J G iter ct K items)(dM:∀ks∈items,K.length=ks.length)(hsz:items.length<=1000000)(vO:∀ks∈items,∀fX,ON H U A scope fX (putAll (lC G fs) K ks) ifs (p ks))(GG:∀ks∈items,p ks=N->∀fX,V H U A scope fX (putAll (lC G fs) K ks) elt (a6 (f ks)) ab)(hs:Fs iter J):
 V H U A L J G (cE elt [⟨ct,iter,ifs,0⟩] scope pos) (kR ((items.filter p).map f)) fr':=λs r=>by
 show bf (c.OL r hG) λcl jB wN=>TB Z hs jB c.kind c.names<|(uu s r).wp λxv ax q=>q.wp λit aP hI=>Jv B c r wN dM hsz vO GG hI λaY aS Y m' ys n x' hD hC Δ hDT Ε hn hd hV=>((cn m' hn (λh'' OO=>(o6 [aY] (x'.but OO hC Ε Z Z Z) (sf [] hDT (OO.extBut aY _ Δ hd) (wJ (intsAre_of hV (nZ _)))) (λ_=>⟨λb hb'=>?_,by simp⟩)))));apply jR hb';show hD
theorem GH{K:LN}{items:List (List Int)}(p:List Int->Bool)(f:List Int->Int)(B:Tp U)(c:ed L scope fs K)(hG:pW G fs=N)(uu:YG H U A L J G iter ct K items)(dM:∀ks∈items,K.length=ks.length)(hsz:items.length<=1000000)(vO:∀ks∈items,∀fX,ON H U A scope fX (putAll (lC G fs) K ks) ifs (p ks))(GG:∀ks∈items,p ks=N->∀fX,V H U A scope fX (putAll (lC G fs) K ks) elt (a6 (f ks)) ab)(hs:Fs iter J)(hy:L.names.lookup (NM y)=O cU)(dH:bT G y=N)(Η:J.scope=L->fz (cE elt [⟨ct,iter,ifs,0⟩] scope pos) (O (aq (NM y) py)) spos.line J=pure N):
 S1 H U A L J (ez [aq (NM y) py] (cE elt [⟨ct,iter,ifs,0⟩] scope pos) spos) G (jk G y 1 (kR ((items.filter p).map f))) ah:=λD s W r=>by
 show bf (c.OL r.er hG) λcl jB wN=>(TL _ _ _ _ (Η r.scope)).symm▸aj (jW (aj ?_));show aj (ir (TB Z hs jB c.kind c.names
  ((uu s r.er).wp λxv ax q=>q.wp λit aP hI=>?_)) (λ_ Y hq=>aC (aC hq)) λ_ _ e=>e)
 show Jv B c r.er wN dM hsz vO GG hI λaY aS Y m' ys n x' hD hC Δ hDT Ε hn hd hV=>?_;have aO:bM Y.heap (kR ((items.filter p).map f)) (R aY) [aY]:=sf [] hDT hd hV;have hCW:aS∉W++[aY]:=λq=>by
  rcases bZ.mp q with q|q
  .show oX (r.jh aS q) λ_ _ o e _=>?_;have e:=hC.symm.trans e;ext
  .simp at q;show Δ q.symm
 show jD ((kh (r.grow x'.ext) (ak hy) dH aO (.fresh (λb hb'=>by simp at hb';show hb'▸?_;show hD) fF (λb hb'=>by simp at hb';show hb'▸?_;show qG ys n hd) r x'.ext)).Cx λ_ ib r5 m5=>?_);show tN hn λoC esC epC hoC hdC Θ=>have kC:=m5.mod.keep aS oC (λq=>hCW au) Ε hoC;cn m' ⟨oC,esC,epC,kC,hdC,Θ⟩<|λh'' OO=>⟨((x'.smod W).trans m5 λd Ι=>ak Ι).off (wr:=[aS]) (λb o hb' e=>OO.extBut b o (by simpa using hb') e) (λb hb'=>by show bJ.mp hb'▸?_;show⟨hC,Ε⟩),rfl,W++[aY],?_,λd Ι=>?_⟩
 .show r5.off (wr:=[aS]) (λb o hb' e=>OO.extBut b o (by simpa using hb') e) (λb hb'=>?_);apply jR hb';show rT ⟨oC,kC,aw (ak ⟨esC,epC,hdC⟩)⟩ Ε (r.ext.new hC) hCW
 .show ba (bZ.mp Ι) (λq=>ak q) λq=>bJ.mp q▸aw hD
theorem Bz(h:bT G y=N):bT (jk G x 0 av) y=N:=by
 delta bT
 rw[fH];by_cases e:y=x
 .rw [if_pos e];rfl
 .rw [if_neg e];show h
theorem Stores.frame:∀(K:LN) (ks:List Int) (G:iB) (s:ae) (Q:ae->Prop) (a0:aa->ae->Prop),K.length=ks.length->FR H U D L J s.heap G W->
 (∀x∈K,Hx L x)->(∀x∈K,bT G x=N)->
 (∀Y,FR H U D L J Y.heap (putAll G K ks) W->mD W s Y->Q Y)->Stores A J K ks Q a0 s:=by
 intro K;induction K with
 |nil=>
  intro ks G s Q a0 hl r E dH hq;cases ks with
  |cons=>ext
  |nil=>show hq s r (.refl _ _)
 |cons x K ih=>
  intro ks G s Q a0 hl r E dH hq;cases ks with
  |nil=>ext
  |cons i ks=>
  show λt=>(kh r (E x bw) (dH x bw) (.ofInt i t) (.flat Z)).Cx λ_ ax r1 m1=>ih ks (jk G x 0 (a6 i)) ax Q a0 (by simpa using hl) r1 (λy hy=>E y (by simp[hy])) (λy hy=>Bz (dH y (by simp[hy]))) λY r' m'=>hq Y r' (m1.trans m' λd hd=>ak hd)
theorem wO{a b:Int}{t:a8}{T:af}{Q:ae->Prop}(hh:dh A)(hT:s.heap.IsTuple T #[ag a t,ag b u])(q:∀h3,(∀c o,s.heap.get? c=O o->h3.get? c=O o)->Stores A J [x,y] [a,b] Q a0 {s with heap:=h3}):
 aE (aD prog w) A (jG (fM [aq (NM x) px,aq (NM y) py] k0 pt) J (R T)) (λ_ Y=>Q Y) a0 s:=by
 show Kd hh hT Z Z λh3 he=>aj (cQ (jD (ir ((q h3 (λc o e=>he c o (fB (cj e)) e)) t) (λ_ s4 q4=>?_) λ_ _ e=>e)));show aj (cQ (jD (ir (q4 u) (λ_ s5 q5=>?_) λ_ _ e=>e)));show aC q5
theorem bM.pair{p:Int×Int}(aO:bM h (qV p) v F):∃T t u,v=R T/\h.IsTuple T #[ag p.1 t,ag p.2 u]:=by show gH aO λa ws n dX ht e4 e5=>dX▸kO e5 λw1 ws1 _ _ qI e6 e7 _=>?_;subst qI;show kO e7 λw2 ws2 _ _ DY e8 e9 _=>?_;subst DY;obtain⟨Ol,_⟩:=e9;obtain⟨t,C'⟩:=e6.toInt;obtain⟨u,eQ6⟩:=e8.toInt;show Ol▸?_;subst C';subst eQ6;show⟨a,t,u,rfl,_,e4,rfl,n,rfl⟩
theorem WU{p:Int×Int}(hh:dh A)(he:V H U A L J G e (qV p) ab)(E:∀z∈[x,y],Hx L z)(dH:∀z∈[x,y],bT G z=N)(hs:swapsWithSole [fM [aq (NM x) px,aq (NM y) py] k0 pt] e pos.line J=pure ab)(hw:u4 [fM [aq (NM x) px,aq (NM y) py] k0 pt] e J=pure ah):
 S1 H U A L J (ez [fM [aq (NM x) px,aq (NM y) py] k0 pt] e pos) G (putAll G [x,y] [p.1,p.2]) ah:=λD s W r=>by
 show wpAny_Assign_stores ((he s r.er).tR λv ax F e1 aO _=>?_) hs hw;show ff aO.pair λT t u dX hT=>dX▸wO (px:=px) (py:=py) (pt:=pt) (k0:=k0) hh hT λh3 k3=>have x3:dG H s {ax with heap:=h3}:=e1.trans ⟨.of_keep k3,rfl,rfl,eF _⟩;Stores.frame [x,y] [p.1,p.2] G _ _ _ Z (r.grow (e1.ext.trans (.of_keep k3))) E dH λY r' m'=>tT (x3.sm m') r'
theorem ahr(I:Nat->ae->Prop)(turn:∀n s (P1:Option aa->ae->Prop) (P2:ae->Prop) (P3:cb->ae->Prop) (a0:aa->ae->Prop),(∀ax,aN (bW cL) ax->P1 ah ax)->
 (∀v ax,aE (aD prog w) A (jE ct it v) (λ_ uG=>aE (aD prog w) A (jG ct J v) (λ_ aP=>P2 aP) a0 uG) a0 ax->P1 (O v) ax)->
 (∀aP,aE (aD prog w) A (aU body J) P3 a0 aP->P2 aP)->(∀m dp,m<n->I m dp->P3 cL dp)->I n s->aE (aD prog w) A (gY it) P1 a0 s)(n:Nat)(h:I n s):oH (aD prog w) A (Fd ct it body [] J) aN s:=
 codeAny_forLoop_any I (λn s h=>turn n s _ _ _ _ (λ_ h=>Kk h) (λ_ _ h=>h) (λ_ h=>h) (λm _ a b=>cn m a b) h) n h
theorem mD.ahs(m:mD W s Y)(o:Off wr Y nG)(hw:∀b∈wr,s.heap.get? b=ah/\b∉bX):mD W s nG:=eT o λ_ _ e k=>e▸m.off k hw
inductive aht(H:List af)(U D:aQ)(L:dw)(J:cI)(W fp:List af)(iS:Nat->iB)(St:Nat->aQ->Prop)(n₀:Nat)(s:ae)(k:Nat)(Y:ae):Prop
 |mk (i:Nat) (W':List af) (e:k=n₀+1 - i) (hi:i<=n₀) (m:mD W s Y) (st:St i Y.heap) (r:FR H U D L J Y.heap (iS i) W') (hW:∀d,d∈W'->d∈W\/s.heap.get? d=ah) (fW:∀d∈fp,d∉W') (fe:∀d∈fp,∃o,Y.heap.get? d=O o)
theorem WV{K:LN}{items:List (List Int)}(iS:Nat->iB)(uu:YG H U A L J G iter ct K items N)(h0:kr (iS 0) G)(E:∀z∈K,Hx L z)(hl:∀ks∈items,K.length=ks.length)(dH:∀i,i<items.length->∀z∈K,bT (iS i) z=N)(step:∀i ks,items[i]? =O ks->SS H U A L J body (putAll (iS i) K ks) (iS (i+1)) ah)(hs:Fs iter J):
 S1 H U A L J (j7 ct iter body [] pos) G (iS items.length) ah:=λD s W r=>by
 show wpAny_For ((uu s r.er).wp λv ax q=>q.wp λit aP q=>?_) hs;obtain⟨e1,I,fp,wr,St,Tk,st,Gz,χ,Ak,ap⟩:=q;have Gz:=Gz Z;have wrT:=λb hb'=>(Ak b (Tk.sub b hb')).1;have wrB:∀b∈wr,s.heap.get? b=ah/\b∉bX:=λb hb'=>⟨χ b hb',wrT b hb'⟩;show ahr (aht H U D L J W fp iS St items.length s) ?_ (items.length+1) ⟨0,W,rfl,fj _,e1.smod _,st,(r.grow e1.ext).less h0,λd hd=>ak hd,λb hb'=>ap Z b hb' _ _ r,λd hd=>(Ak d hd).2⟩;rintro k Y P1 P2 P3 a0 q0 q1 q2 q3 ⟨i,W',dX,hi,m1,Oo,r',CE,hfW,hfe⟩;have wrF:∀b∈wr,kP Y.heap b/\b∉bX/\D.get? b=ah/\b∉W':=λb hb'=>⟨Gz i _ Oo b hb',wrT b hb',r.ext.new (χ b hb'),hfW b (Tk.sub b hb')⟩;rcases AS hi with jA|hie
 .show Tk.item i Y J P2 P1 a0 jA Oo (λs3 ks MT st3 afm=>?_) q1;show Stores.frame K ks (iS i) s3 _ _ (hl ks (cY MT)) (r'.off (λb o hb' e=>afm.keep hb' e) wrF) E (dH i jA) λs4 r4 m4=>q2 _<|have m3:=m1.ahs afm wrB;(step i ks MT D s4 W' r4).wpN λib W5 m5 r5 hW5=>?_;have ex3:∀d∈fp,∃o,s3.heap.get? d=O o:=λd hd=>if hdw:d∈wr then bf (Gz _ _ st3 d hdw) λo e _=>⟨o,e⟩ else dF (hfe d hd) λo e=>⟨o,afm.keep hdw e⟩
  have k35:=λd hd o e=>m5.mod.keep d o (hfW d hd) (Ak d hd).1 (m4.mod.keep d o (hfW d hd) (Ak d hd).1 e);show q3 (items.length+1 - (i+1)) _ (dX▸rJ (kX jA) (iZ i)) ⟨i+1,W5,rfl,jA,(m3.trans m4 CE).trans m5 CE,Tk.frame _ _ _ st3 (λd hd o e=>k35 d hd o e),r5,λd hd=>(hW5 d hd).elim (CE d) λh=>aw (m3.mod.new (m4.mod.new h)),λd hd hw=>?_,λd hd=>dF (ex3 d hd) λo e=>⟨o,k35 d hd o e⟩⟩;show(hW5 d hw).elim (hfW d hd) λh=>dF (ex3 d hd) λo e=>?_;have e4:=h.symm.trans (m4.mod.keep d o (hfW d hd) (Ak d hd).1 e);ext
 .subst hie;show Tk.done Y _ _ Oo λs4 IQ=>q0 _ ⟨m1.ahs IQ wrB,rfl,W',r'.off (λb o hb' e=>IQ.keep hb' e) wrF,CE⟩
theorem ace{ns:List Int}(iS:Nat->iB)(uu:zp H U A L J G iter ns)(h0:kr (iS 0) G)(E:Hx L x)(dH:∀i,i<ns.length->bT (iS i) x=N)(step:∀i n,ns[i]? =O n->SS H U A L J body (jk (iS i) x 0 (a6 n)) (iS (i+1)) ah)(hs:Fs iter J):
 S1 H U A L J (j7 (aq (NM x) px) iter body [] pos) G (iS ns.length) ah:=by
 have e:(ns.map λn=>[n]).length=ns.length:=ig ..;show e▸WV iS uu.itc h0 (λz hz=>jR (P:=λz=>Hx L z) hz E) (λks hk=>bf (bH.mp hk) λ_ _ e=>e▸rfl) (λi hi z hz=>jR (P:=λz=>bT (iS i) z=N) hz (dH i (e▸hi))) (λi ks hk=>?_) hs;rw[cZ]at hk;show bf (jb.mp hk) λn h e=>e▸step i n h
theorem acf{ps:List (Int×Int)}(iS:Nat->iB)(hh:dh A)(B:Tp U)(he:V H U A L J G iter (bS K) N)(hi:K=ps.map qV)(h0:kr (iS 0) G)(E:∀z∈[x,y],Hx L z)(dH:∀i,i<ps.length->∀z∈[x,y],bT (iS i) z=N)(step:∀i p,ps[i]? =O p->SS H U A L J body (putAll (iS i) [x,y] [p.1,p.2]) (iS (i+1)) ah)(hs:Fs iter J):
 S1 H U A L J (j7 (fM [aq (NM x) px,aq (NM y) py] k0 pt) iter body [] pos) G (iS ps.length) ah:=by
 have e:(ps.map λp=>[p.1,p.2]).length=ps.length:=ig ..;show e▸WV iS (Ju hh B he hi λ_=>rfl) h0 E (λks hk=>bf (bH.mp hk) λ_ _ e=>e▸rfl) (λi hi=>dH i (e▸hi)) (λi ks hk=>?_) hs;rw[cZ]at hk;show bf (jb.mp hk) λn h e=>e▸step i n h
inductive afn(H:List af)(U D:aQ)(L:dw)(J:cI)(W:List af)(iS:Nat->iB)(n₀:Nat)(s:ae)(k:Nat)(Y:ae):Prop
 |mk (i:Nat) (W':List af) (e:k=n₀+1 - i) (hi:i<=n₀) (m:mD W s Y) (r:FR H U D L J Y.heap (iS i) W') (hW:∀d,d∈W'->d∈W\/s.heap.get? d=ah)
theorem ahu(I:Nat->ae->Prop)(turn:∀n s (P:Bool->ae->Prop) (P3:cb->ae->Prop) (a0:aa->ae->Prop),(∀aP,aN (bW cL) aP->P ab aP)->(∀aP,aE (aD prog w) A (aU body J) P3 a0 aP->P N aP)->(∀m dp,m<n->I m dp->P3 cL dp)->I n s->
 aE (aD prog w) A (isTrue Yr J (a7 Yr J)) P a0 s)(n:Nat)(h:I n s):oH (aD prog w) A (Code.whileLoop Yr body [] J) aN s:=
 codeAny_whileLoop I (λn s h=>turn n s _ _ _ (λ_ h=>(if_neg aL).mpr (Kk h)) (λ_ h=>(if_pos Z).mpr h) (λm _ a b=>cn m a b) h) n h
theorem YK(n:Nat)(iS:Nat->iB)(h0:kr (iS 0) G)(go:∀i,i<n->pO H U A L J (iS i) Yr N/\SS H U A L J body (iS i) (iS (i+1)) ah)(stop:pO H U A L J (iS n) Yr ab):S1 H U A L J (Ve Yr body [] pos) G (iS n) ah:=λD s W r=>by
 show wpAny_While (ahu (afn H U D L J W iS n s) ?_ (n+1) ⟨0,W,rfl,fj _,.refl _ _,r.less h0,λd hd=>ak hd⟩);rintro k Y P P3 a0 q0 q1 q2 ⟨i,W',dX,hi,m1,r',CE⟩;rcases AS hi with jA|hie
 .show fc (go i jA) λg1 g2=>(g1 Y r'.er).wpB λaP x2=>q1 _<|(g2 D aP W' (r'.grow x2.ext)).wpN λdp W3 m3 r3 hW3=>(q2 (n+1 - (i+1)) _ (dX▸rJ (kX jA) (iZ i)) ⟨i+1,W3,rfl,jA,(m1.trans (x2.smod W') CE).trans m3 CE,r3,λd hd=>(hW3 d hd).elim (CE d) λh=>aw (m1.mod.new (x2.ext.new h))⟩)
 .cases hie
  show(stop Y r'.er).wpB λaP x2=>q0 _ ⟨m1.trans (x2.smod W') CE,rfl,W',r'.grow x2.ext,CE⟩
theorem YL(B:cx U mg mb)(I:dQ mg mb)(kQ:Gi L "list")(he:V H U A L J G e (bS K) ab)(dH:cH e=ab)(hf:iT K=N)(hl:dY K.length 1000000=N):V H U A L J G (bx (aq (aB "list") np) [e] [] pos) (bS K) fr:=λs r=>by show mE ("list") ("list") B I aL kQ (rfl) (fJ.cons he fJ.nil dH) (by simp[dW,dH]) r λvs ax F e1 V1=>?_;apply nH V1;intro v G1 V2;apply fQ V2;intro a us n F' ht a3 a4 eF3;have l1:=bA.length a4;have hl:=dN hl;show call_list_seq a (ak Z) a3 Z Z (λh' c' keep hd=>?_) (by have:eN=16777216:=rfl;simp;lia);have hF:=cW.2 _ _ _ hf a4;subst hF;show⟨e1.trans ⟨.of_keep keep,rfl,rfl,eF _⟩,[ax.heap.objs.size],sf [] (fm (jz B.top (r.base.trans e1.ext))) hd (a4.ext (H:=H) (.of_keep keep)),λ_=>⟨λb D=>?_,by simp⟩⟩;apply jR D;show e1.ext.new (bz _)
theorem MU{np':cJ}(hh:dh A)(B:cx U mg mb)(I:dQ mg mb)(kQ:Gi L "list")(afo:Gi L "range")(he:V H U A L J G e (a6 (ai k)) ab)(dH:cH e=ab)(hk:k<=1000000):
 V H U A L J G (bx (aq (aB "list") np) [bx (aq (aB "range") np') [e] [] Cu] [] pos) (kR (Dw 0 1 k)) fr:=λs r=>by
 have hI:=I ("list",ao "list") aL;show mh<|(eG B r kQ hI.1 hI.2 (rfl)).Dt<|A1 (Ki ?_ Z) Z Z;show mE ("range") ("range") B I aL afo (rfl) (fJ.cons he fJ.nil dH) (by simp[dW,dH]) r λvs ax F e1 V1=>?_;apply nM V1;show λt=>sO<|T9<|call_list_range hh (vB ..) (u9 fF (W.kbt_pos 62) fF au) (by rw[uZ];split<;>lia:lR 0 (ai k) 1=((k:Nat):Int)) au λh' tk jQ c' keep hd hi=>?_;have IA:fk jQ.toList (Dw 0 1 k):=by
  show fc hi λi1 i2=>?_;have key:∀(vs:List aa) (ns:List Int),vs.length=ns.length->(∀(j:Nat) v,vs[j]? =O v->∃n t,ns[j]? =O n/\v=ag n t)->fk vs ns:=by
   intro vs;induction vs with
   |nil=>intro ns hl _;cases ns with|nil=>show qB|cons n ns=>ext
   |cons v vs ih=>
    intro ns hl hv;cases ns with
    |nil=>ext
    |cons n ns=>show eT (hv 0 v Z) λm t h1 dX=>dX▸have h1:=aW h1;h1▸yy n t (ih ns (by simpa using hl) λj v e=>by simpa using hv (j+1) v (e))
  show key _ _ (MR▸i1) λj v e=>?_;obtain⟨t,hv⟩:=i2 j v (by simpa using e);have hj:j<jQ.size:=by have:=(dR.mp e).1;show this
  show kK _ t (o8.mpr ⟨by lia,rfl⟩) hv
 show⟨e1.trans ⟨.of_keep (λb o e=>keep b o (aZ _ e)),rfl,rfl,eF _⟩,[ax.heap.objs.size+1],?_,λ_=>⟨λb D=>?_,by simp⟩⟩
 .show η (ax.heap.objs.size+1) jQ.toList c' [] (by rw[dD]) (fm (qq (jz B.top (r.base.trans e1.ext)))) ?_ (wJ IA) Z;rw[dD]at hd;rw[hd];rfl
 .rw [bJ]at D;subst D;show e1.ext.new ?_;cases q:ax.heap.get? (ax.heap.objs.size+1) with|none=>rfl|some o=>show absurd (cj q) (j5.mpr (lQ _))
theorem MV{ws ws':List aa}{acg:List AV}(hs:gu a h h')(hm:Ct h a)(ha:h.get? a=O (bp ws n))(WL:h'.get? a=O (bp ws' n'))(aO:bA h' acg ws' [])(hat:a∉bX):
 ∀(b9:List AV) (vs:List aa) (F:List af) (i:Nat),bA h b9 vs F->F.Nodup->b9[i]? =O (bS row)->iT row=N->vs[i]? =O (R a)->bA h' (b9.set i (bS acg)) vs F:=by
 intro xX;induction xX with
 |nil=>intro vs F i _ _ hi _ _;ext
 |cons x b9 iH=>
  intro vs F i r hd hi hf hv;have keep:∀b o,b∉[a]->b∉bX->h.get? b=O o->h'.get? b=O o:=λb o D _ e=>(hs.2 b (vE D)).trans e;have hmm:∀b∈[a],Ct h b\/kP h b:=λb D=>by show bJ.mp D▸?_;show ak hm
  show kO r λv tQ F1 F2 dX e2 e3 qI=>?_;subst dX;subst qI;show hJ (ql.mp hd) λd1 d2 d3=>?_;cases i with
  |zero=>
   simp at hi hv;subst hi hv;show iP e2 λa' us m F' e4 e5 e6 e7 DY=>?_;subst DY;obtain rfl:=j9 e4;replace e6:=ha▸e6;cases e6
   have hF':=cW.2 _ _ _ hf e7;subst hF';show ej [a] F2 (sf [] hat WL aO) (e3.off keep hmm _ _ _ (λb D hq=>?_));apply jR hq;show d3 b (by assumption) b D Z
  |succ i=>
   have hi':b9[i]? =O (bS row):=hi;have hv':tQ[i]? =O (R a):=hv;show jy (bA.get e3 hi') λu F3 g1 g2 g3=>?_;obtain rfl:=aW (hv'.symm.trans g1);have haF:a∈F2:=by show iP g2 λa' us m F' e4 e5 e6 e7 Ol=>?_;subst Ol;obtain rfl:=j9 e4;show g3 a au
   show DX v tQ F1 F2 Z (e2.off keep hmm _ _ _ (λb D hq=>?_)) (iH tQ F2 i e3 d2 hi' hf hv') Z;obtain rfl:=bJ.mp hq;show d3 b D b haF Z
theorem Κ{i j:aG}{b9:List AV}{ni nj:Nat}{p'':cJ}(E:ck G x=O (1,bS b9))(OP:b9[ni]? =O (bS row))(hf:iT row=N)(he:V H U A L J G e av ab)(hfa:flat av=N)(hi:V H U A L J G i (a6 (ai ni)) ab)(sj:kg i=ab)(hl1:dY ni 1000000=N)(hj:V H U A L J G j (a6 (ai nj)) ab)(hjl:jJ nj row.length=N)(hl:dY row.length 1000000=N)(hs:fz e (O (dk (dk (aq (NM x) p) i p'') j p')) pos.line J=pure ab):
 S1 H U A L J (ez [dk (dk (aq (NM x) p) i p'') j p'] e pos) G (jk G x 1 (bS (b9.set ni (bS (row.set nj av))))) ah:=λD s W r=>by
 show J6 ((he s r.er).tR λu ax F1 e1 V1 _=>?_) hs
 -- the row
 show rO<|(zN (r.grow e1.ext).er E).wp λv aP ow=>iM ow λe2 F2 cA V2=>?_;subst e2;show(hi aP (r.grow e1.ext).er).wp λiv dp ow=>iM ow λe3 F3 V3 _=>og λgG kG=>(dF V3.toInt λt dX=>?_);have V2':=V2.ext e3.ext;obtain⟨⟨T',id,hT,hlk⟩,hg⟩:=Jq (A:=A) (t:=t) V2' (by simp only[WI,hl1];show OP:WI (.list b9) (ai ni)=O (.list row));show kG ?_;clear kG gG;show dX▸tH hT hlk ?_ (uE sj v _)
 -- its place is known exactly
 show fP V2' λa vs n F' qI ht a3 a4 DY=>(jy (bA.get a4 OP) λrv Fr g1 g2 g3=>?_);subst qI;subst DY;have hb0:=dN hl1;show TY (bU a3) au au (by simpa using g1)<|(hj dp ((r.grow e1.ext).grow e3.ext).er).wp λjv fy Λ=>iM Λ λe4 F4 V4 _=>(dF V4.toInt λt' Ol=>?_);show Ol▸iP ((g2.ext e4.ext)) λra ws m Rd C' rt r3 r4 eQ6=>?_;subst C';subst eQ6;have hl:=dN hl;have hjl:nj<row.length:=dN hjl;have l1:=bA.length r4;have afj:=cW.2 _ _ _ hf r4;subst afj;have hF1:=cW.1 _ _ _ hfa V1;subst hF1;have e14:=(e1.trans e3).trans e4;show ri r3 au au jx<|have rG:=r.grow e14.ext;have H4:=cA.ext (e3.trans e4).ext (r.jh _ r.loc).2.1;have V24:=V2'.ext e4.ext;jg rG.ents λval fp q=>(mC (q x 1 _ E) λb1 b2 b3 _=>?_);have tV:(a::F').Nodup:=by show(by rw[<-(H4.uniq b1)]at b2;show bM.uniq b2 V24)▸?_;show(b3 Z).1
 have hup:=υ (v:=u) (j:=nj) r3;have wg:=j8 fy.heap ra (dO λK=>K.setIfInBounds nj u);have afq:Ct fy.heap ra:=cn _ r3 (ak ⟨rfl,_,_,rfl⟩);have hra:a≠ra:=λe=>(rz.mp tV).1 (g3 _ au);have Vn:bM (fy.heap.update ra (dO λK=>K.setIfInBounds nj u)) (bS (b9.set ni (bS (row.set nj av)))) (R a) (a::F'):=by show sf F' ht ((wg.2 a hra).trans (e4.ext.keep a _ ht a3)) (MV wg afq r3 hup ?_ rt b9 vs F' ni (a4.ext e4.ext) (rz.mp tV).2 OP hf au);show bA.set (F:=[]) nj hf (r4.off (W:=[ra]) (λb o hb' _ e=>(wg.2 b (by simpa using hb')).trans e) (λb hb'=>by simp at hb';subst hb';show ak afq) _ _ _ (λb hb'=>by cases hb')) ((V1.ext (e3.trans e4).ext).off (W:=[ra]) (λb o hb' _ e=>(wg.2 b (by simpa using hb')).trans e) (λb hb'=>by simp at hb';subst hb';show ak afq) _ _ _ (λb hb'=>by cases hb'))
 show fc (rG.ahl E H4 V24 (by simp[g3 ra bw]) wg hup Vn) λr2 m2=>tT (e14.mm m2) r2
theorem kx(names:List (aV×vb)):∀(n:Nat) (jQ:List (aV×af)) (x:aV),((x,dz)∈names\/(jQ.lookup x).isSome=N)->((xT n names jQ).lookup x).isSome=N:=by
 induction names with
 |nil=>show λ_ _ _ h=>h.elim kM id
 |cons p r iH=>
  intro n jQ x h;obtain⟨m,k⟩:=p;unfold xT;by_cases hk:(k==dz)=N
  .rw [if_pos hk];show iH _ _ x ?_;rcases h with h|h
   .show ba (bq.mp h) (λh=>?_) λh=>ak h;cases h
    right
    simp
   .right
    dsimp only[AL];cases x==m with
    |true=>rfl
    |false=>show h
  .rw [if_neg hk];show iH _ _ x ?_;rcases h with h|h
   .show ba (bq.mp h) (λh=>?_) λh=>ak h;cases h
    show(hk Z).elim
   .show aw h
noncomputable def qL:LN->List AV->iB
 |x::K,av::avs=>(x,0,av)::qL K avs
 |_,_=>[]
theorem CH{K:LN}:∀{avs:List AV} {y k:Nat} {av:AV},ck (qL K avs) y=O (k,av)->k=0/\∃i:Nat,K[i]? =O y/\avs[i]? =O av/\∀j:Nat,j<i->K[j]? ≠O y:=by
 induction K with
 |nil=>intro _ _ _ _ h;show Bg h
 |cons x K iH=>
  intro yY;cases yY with
  |nil=>intro _ _ _ h;show Bg h
  |cons a avs=>
   intro y k av h;replace h:=(mA _ x 0 a y).symm.trans h;rcases yB (x=y) with e|e
   .subst e;rw[if_pos Z]at h;cases h
    show⟨rfl,0,rfl,rfl,λj hj=>by simp_all⟩
   .rw [if_neg e]at h;show oY (iH h) λh1 i h2 h3 h4=>(⟨h1,i+1,h2,h3,λj hj=>?_⟩);cases j with|zero=>simpa using e|succ j=>show h4 j (Lq.mp hj)
theorem Ro(J:cI)(K:LN):∀(vs:List aa) (m cm:aV->Option aa) (i x:Nat) (v:aa),K.Nodup->K.length=vs.length->K[i]? =O x->vs[i]? =O v->
 (J.kindOf (NM x)=O cU->bindL J.kindOf ((K.map NM).zip vs) m (NM x)=O v)/\(J.kindOf (NM x)≠O cU->bindC J.kindOf ((K.map NM).zip vs) cm (NM x)=O v):=by
 induction K with
 |nil=>intro _ _ _ i x v _ _ h _;ext
 |cons y K iH=>
  intro yY;cases yY with
  |nil=>intro _ _ i x v _ h _ _;ext
  |cons u vs=>
   intro m cm i x v hd hl h1 h2;have rest:∀(K:LN) (vs:List aa) (m:aV->Option aa),y∉K->bindL J.kindOf ((K.map NM).zip vs) m (NM y)=m (NM y)/\bindC J.kindOf ((K.map NM).zip vs) m (NM y)=m (NM y):=by
    intro K;induction K with
    |nil=>intro vs m _;show⟨rfl,rfl⟩
    |cons z K ih=>
     intro vs m hz;cases vs with
     |nil=>show⟨rfl,rfl⟩
     |cons u vs=>
      simp at hz;have qK:=λe=>hz.1 (Cy e);simp only[ix,KY,bindL,bindC];show⟨?_,?_⟩
      .rw [(ih vs _ hz.2).1];split
       .show if_neg qK
       .rfl
      .rw [(ih vs _ hz.2).2];split
       .rfl
       .show if_neg qK
   simp at hd hl;cases i with
   |zero=>simp at h1 h2;subst h1 h2;simp only[ix,KY,bindL,bindC];show⟨λhk=>by rw[(rest K vs _ hd.1).1,if_pos hk];show if_pos Z,λhk=>by rw[(rest K vs _ hd.1).2,if_neg hk];show if_pos Z⟩
   |succ i=>show iH vs _ _ i x v hd.2 hl (h1) (h2)
structure FnAt(U:aQ)(a:af)(fd:cq):Prop where
 obj:∃o,U.get? a=O o/\o.data=qu fd
 off:a∉bX
 code:∃c oc ws t,fd.code=R c/\c∉bX/\U.get? c=O oc/\oc.data=bF ws/\ws[1]? =O (cO fd.qualname t)
theorem FnAt.ach(f:FnAt U a fd)(x:gU H U h):h.CodeRec fd.code fd.qualname:=
 fP f.code λc oc ws t e1 e2 e3 e4 e5=>DX c oc ws t e1 (x.keep c _ e2 e3) e4 e5
theorem WW{P:Nat->Nat->AV->aa->List af->Prop}(key:∀y k av,ck G y=O (k,av)->∃v F,P y k av v F):∃(val:Nat->aa) (fp:Nat->List af),∀y k av,ck G y=O (k,av)->P y k av (val y) (fp y):=by have h:∀y,∃vf:aa×List af,∀k av,ck G y=O (k,av)->P y k av vf.1 vf.2:=λy=>δ (ck G y) (λq=>q.symm▸⟨(aA,[]),λk av e=>by ext⟩) λp q=>q.symm▸jg (key y p.1 p.2 q) λv F hp=>⟨(v,F),λk av e=>by obtain rfl:=aW e;show hp⟩;show qG (λy=>(V8 (h y)).1) (λy=>(V8 (h y)).2) (λy k av e=>Classical.choose_spec (h y) k av e)
noncomputable def aeH(br:Nat)(L:dw):List af:=br::((xT (br+1) L.names []).filter λp=>(xT (br+1) L.names []).lookup p.1==O p.2).map (·.2)
theorem FR.start{K:LN}(B:Tp U)(x1:gU H U s.heap)(aO:bA s.heap avs vs F)(hk:fd.scope.kind=dZ)(hg:fd.globals=ef)(hbi:fd.builtins=fY)(hd:K.Nodup)(hl:K.length=vs.length)(E:∀x∈K,Hx fd.scope x)(x:InCallC s (gO fd s.heap.objs.size a).locals (bindL (gO fd s.heap.objs.size a).kindOf ((K.map NM).zip vs) λ_=>ah) (gO fd s.heap.objs.size a).cells
 (bindC (gO fd s.heap.objs.size a).kindOf ((K.map NM).zip vs) λ_=>ah) ax):
 FR H U s.heap fd.scope (gO fd s.heap.objs.size a) ax.heap (qL K avs) (aeH s.heap.objs.size fd.scope):=by
 have WM:∀y,(gO fd s.heap.objs.size a).kindOf y=fd.scope.names.lookup y:=λ_=>rfl;have top:=jz B x1;have keep:=x.toInCall.keep;have abv:=λn c h=>x.above n c ((rfl:(gO fd s.heap.objs.size a).cells=xT (s.heap.objs.size+1) fd.scope.names [])▸h);show⟨x1,.of_keep keep,rfl,hk,hg,hbi,AG Z,(DV _ x.toInCall.ns),λy hy=>?_,λy z c hy h2 h3=>(Cy (name_of_addr x.apart (mH h2) (mH h3))).symm,λb hb'=>?_,?_⟩
 .show dF (yq.mp (kx fd.scope.names (s.heap.objs.size+1) [] (NM y) (ak (mH hy)))) λc hc=>have hm:=mH hc;wC c hc ⟨_,x.cell (NM y) c hc⟩ (fm (bj top (gw (abv _ _ hm))))<|aw<|bY _ (bH.mpr (cn _ (gq.mpr ⟨hm,by simpa using hc⟩) Z))
 .rcases bq.mp hb' with rfl|hb'
  .show gI (bz _) (fm top) (MP x.toInCall.ns)
  .obtain ⟨⟨n,c⟩,hm,rfl⟩:=bH.mp hb';show fc (gq.mp hm) λhm hc=>?_;have hc:(xT (s.heap.objs.size+1) fd.scope.names []).lookup n=O c:=by simpa using hc
   have jA:=abv n c hm;show gI ?_ (fm (bj top (gw jA))) (Gp (x.cell n c hc));cases q:s.heap.get? c with
   |none=>rfl
   |some o=>show absurd (cj q) (j5.mpr (gw jA))
 .have fW:∀b∈F,b∉aeH s.heap.objs.size fd.scope:=λb hb' hw=>by
   show iM (bA.kinds aO b hb') λ_ o e _=>?_;have jA:=cj e;rcases bq.mp hw with rfl|hw
   .show gv _ jA
   .obtain ⟨⟨n,c⟩,hm,rfl⟩:=bH.mp hw;show gv _ (f9 jA (abv n c (gq.mp hm).1))
  -- a value and a YA for each name
  have key:∀y k av,ck (qL K avs) y=O (k,av)->∃v F',Aj (gO fd s.heap.objs.size a) ax.heap (NM y) v/\bM ax.heap av v F'/\k=0/\∀b∈F',b∈F:=λy k av e=>by show oY (CH e) λdX i h2 h3 _=>dX▸jy (bA.get aO h3) λv F' g1 g2 g3=>fc (Ro (gO fd s.heap.objs.size a) K vs (λ_=>ah) (λ_=>ah) i y v hd hl h2 g1) λq1 q2=>MC v F' ?_ (g2.ext (H:=H) (.of_keep keep)) Z g3;show ba (E y (cY h2)) (λhy=>ak ⟨hy,_,x.toInCall.ns,q1 hy⟩) λhy=>?_;show dF (yq.mp (kx fd.scope.names (s.heap.objs.size+1) [] (NM y) (ak (mH hy)))) λc hc=>?_;have ic:=x.cell (NM y) c hc;rw[q2 (by rw[WM,hy];decide)]at ic;show aw ⟨ak hy,c,hc,fm (bj top (gw (abv _ _ (mH hc)))),ic⟩
  show jg (WW key) λval fp q=>((qG val fp (λy k av e=>?_)));show iL (q y k av e) λp1 p2 p3 p4=>⟨p1,p2,(λh1=>by have h1:=p3▸h1;ext),λ_ b hb'=>fW b (p4 b hb')⟩
theorem gU.up(x:gU H h h')(nO:∀b∈H,b∈τ'):gU τ' h h':=⟨x.keep,x.tab,x.there,λb o D hq e=>x.quiet b o D (λq=>hq (nO b q)) e⟩
theorem dG.up(x:dG H s Y)(nO:∀b∈H,b∈τ'):dG τ' s Y:=⟨x.ext.up nO,x.os,x.drawn,x.gens⟩
theorem ER.up(r:ER H U L J h G)(nO:∀b∈H,b∈τ'):ER τ' U L J h G:=⟨r.base.up nO,r.kind,r.gl,r.WH,r.glob,r.bi,r.loc,r.has⟩
theorem FR.up(r:FR H U D L J h G W)(nO:∀b∈H,b∈τ'):FR τ' U D L J h G W:=
 ⟨r.b1.up nO,r.ext.up nO,r.scope,r.kind,r.glob,r.bi,r.loc,r.ns,r.cell,r.pV,r.jh,r.ents⟩
def EVm(H τ':List af)(U:aQ)(A:bR)(L:dw)(J:cI)(G:iB)(e:aG)(av:AV)(fr:Bool):Prop:=
 ∀s,ER H U L J s.heap G->T A (a7 e J) s (EP τ' s av fr)
def pP(H τ':List af)(U:aQ)(A:bR)(L:dw)(J:cI)(ss:List cg)(G G':iB)(ret:Option AV):Prop:=
 ∀D s W,FR H U D L J s.heap G W->T A (aU ss J) s (Bw τ' U D L J W s G' ret)
def S1m(H τ':List af)(U:aQ)(A:bR)(L:dw)(J:cI)(st:cg)(G G':iB)(ret:Option AV):Prop:=
 ∀D s W,FR H U D L J s.heap G W->T A (oJ st J) s (Bw τ' U D L J W s G' ret)
protected theorem SS.m{ret:Option AV}(x:SS H U A L J ss G G' ret):pP H H U A L J ss G G' ret:=x
theorem pP.cons{ahv:List af}{G2:iB}{ret:Option AV}(h1:S1m H τ' U A L J st G G1 ah)(h2:pP τ' ahv U A L J ss G1 G2 ret):pP H ahv U A L J (st::ss) G G2 ret:=λD s W r=>uW<|(h1 D s W r).wpN λax W1 m1 r1 hw1=>(h2 D ax W1 r1).mono λf2 aP q=>q.behind m1 hw1
theorem Μ(h1:S1m H τ' U A L J st G G1 (O av)):pP H τ' U A L J (st::ss) G G1 (O av):=λD s W r=>uW<|(h1 D s W r).wp λf ax ow=>yE ow λm1 x v F hf aO=>hf▸⟨m1,x,v,F,rfl,aO⟩
protected theorem S1m.ret(nO:∀b∈H,b∈τ')(h:EVm H τ' U A L J G e av ab):S1m H τ' U A L J (yr (O e) pos) G G' (O av):=λD s W r=>
 xI ((h s r.er).tR λv ax F e1 aO _=>⟨e1.smod W,(r.ext.up nO).trans e1.ext,v,F,rfl,aO⟩)
theorem wQ(dH:dW (e::es)=N):cH e=ab/\dW es=N:=by simp only[dW,EU,qw,vo]at dH;show dH
theorem Rp{fn:aV}{K:LN}(B:cx U mg mb)(hg:mg fn=O (R a))(kQ:L.names.lookup fn=O kZ)(hdb:(fn==("__debug__" :aV))=ab)(hf:FnAt U a fd)(OQ:fd.body=lj body)(afr:fd.closure=[])(DA:fd.scope.isCoroutine=ab)(za:fd.scope.isGenerator=ab)(so:∀vs,vs.length=K.length->dy fd ⟨vs,[]⟩=pure ((K.map NM).zip vs))(hk:fd.scope.kind=dZ)(hgl:fd.globals=ef)(hbi:fd.builtins=fY)(tV:K.Nodup)(dM:K.length=avs.length)(E:∀x∈K,Hx fd.scope x)(bK:A.depth<1000)(he:fJ H U A L J G (e::es) avs)(dH:dW (e::es)=N)(hss:∀br,pP H τ' U (A.deeper (gO fd br a)) fd.scope (gO fd br a) body (qL K avs) G' (O av))(s':fr=N->flat av=N)(nO:∀b∈H,b∈τ'):
 EVm H τ' U A L J G (bx (aq fn np) (e::es) [] pos) av fr:=λs r=>by
 show fc (wQ dH) λh1 h2=>bf hf.obj λo ho hd=>mh (rk (pQ r.kind (r.gl fn kQ) (r.glob▸B.mg r.base) hg ?_) hdb);show L7 (o:=o) (fd:=fd) ?_;rw[dq h1];show evalArgs_plain ?_;have Jt:=he s pos r;rw[dq h1]at Jt;show Jt.Ra λvs ax F x1 aO=>have b1:=r.base.trans x1.ext;have Q1:=b1.keep a _ hf.off ho;⟨⟨Q1,hd⟩,kU ?_⟩;have hvl:vs.length=K.length:=by rw[bA.length aO,dM]
 show codeAny_call_cells (by assumption) Q1 hd (B.zl b1) (hf.ach b1) OQ (so vs hvl) afr (λx hxm=>?_) (λaP ic=>?_) DA za hk
 .obtain ⟨n,v⟩:=x;show bf (bH.mp ((sZ hxm).1)) λy hy dX=>(dX▸?_);rcases E y hy with q|q
  .show ak q
  .show aw ⟨q,kx _ _ _ _ (ak (mH q))⟩
 .show eT ic.done λhh tk e2 _=>(hss _ ax.heap aP _ (FR.start B.top b1 aO hk hgl hbi tV hvl.symm E ic)).wp λf dp ow=>yE ow λm3 x3 v F3 hf3 V3=>(hf3▸?_);have Rq:aP.os=ax.os/\aP.drawn=ax.drawn/\aP.gens=ax.gens:=by show e2▸?_;show gI Z Z Z
  show⟨(x1.up nO).trans ⟨x3,m3.os.trans Rq.1,m3.drawn.trans Rq.2.1,m3.gens.trans Rq.2.2⟩,F3,V3,λq=>?_⟩;rw[cW.1 _ _ _ (s' q) V3];show⟨λ_ D=>(kM D),rQ⟩
theorem Rr{f:Nat}{cvs:List AV}{K:LN}(B:cx U mg mb)(hxx:ck G x=O (k,tP f ns cvs))(DA:(ST f).scope.isCoroutine=ab)(za:(ST f).scope.isGenerator=ab)(OF:∀y∈(ST f).scope.names,y.2≠dz)(so:∀fd:cq,fd.params=(ST f).params->fd.defaults=aA->fd.kwdefaults=aA->∀vs,vs.length=K.length->dy fd ⟨vs,[]⟩=pure ((K.map NM).zip vs))(hk:(ST f).scope.kind=dZ)(tV:K.Nodup)(dM:K.length=avs.length)(E:∀x∈K,(ST f).scope.names.lookup (NM x)=O cU)(hn:∀x∈ns,(ST f).scope.names.lookup (NM x)=O eQ)(bK:A.depth<1000)(he:fJ H U A L J G (e::es) avs)(dH:dW (e::es)=N)(hss:∀fX,SS H U (A.deeper fX) (ST f).scope fX (ST f).body (qL K avs++qL ns cvs) G' (O av))(s':fr=N->flat av=N):
 V H U A L J G (bx (aq (NM x) np) (e::es) [] pos) av fr:=λs r=>by
 show fc (wQ dH) λh1 h2=>mh<|(zN r hxx).μ λfv F0 H0 V0=>og λgG kG=>kq V0 λa o fd cs alO F' dX hat ho hd P i1 i2 e5 qI=>fP i1 λc oc ws t c1 c2 c3 c4 c5=>hJ i2 λq l1 l2=>kG ?_;clear kG gG;show dX▸L7 (o:=o) (fd:=fd) ?_;rw[dq h1];show evalArgs_plain ?_;have Jt:=he s pos r;rw[dq h1]at Jt;show Jt.Ra λvs ax F x1 aO=>have b1:=r.base.trans x1.ext;have Q1:=x1.ext.keep a _ hat ho;⟨⟨Q1,hd⟩,kU ?_⟩;have hvl:vs.length=K.length:=by rw[bA.length aO,dM]
 show J9 (by assumption) Q1 hd (P.2.2.2.1▸DA) (P.2.2.2.1▸za) P.2.2.1 ((DX c oc ws t c1 (x1.ext.keep c _ c2 c3) c4 (P.1▸c5)))<|(show([]:List aa)++vs=vs from rfl).symm▸(so fd P.2.1 P.2.2.2.2.2.2.1 P.2.2.2.2.2.2.2 vs hvl).symm▸aC (Am (P.2.2.2.1▸OF) (λy hy=>?_) (λh3 sk wM=>?_) (P.2.2.2.1▸hk))
 .obtain ⟨n,v⟩:=y;show bf (bH.mp (sZ hy).1) λz hz DY=>DY▸P.2.2.2.1.symm▸E z hz
 .have hL:=bz ax.heap;have x3:gU H ax.heap h3:=.of_keep (λb o e=>wM.extBut b o (fB (cj e)) (aZ _ e));show⟨B.zl (b1.trans x3),Ks ?_⟩;have rev:∀i y v,K[i]? =O y->vs[i]? =O v->((K.map NM).zip vs).reverse.lookup (NM y)=O v:=λi y v hy hv=>by
   have key:∀(l:List (aV×aa)),(l.map (·.1)).Nodup->∀n v,(n,v)∈l->l.lookup n=O v:=by
    intro l;induction l with
    |nil=>intro _ n v h;ext
    |cons p l ih=>
     show λaci n v hm=>og λgG kG=>?_;obtain⟨n',v'⟩:=p;show kG ?_;clear kG gG;simp at aci;dsimp only[AL];rcases bq.mp hm with hm2|hm2
     .show Yu hm2 λa1 a2=>?_;subst a1;subst a2;simp
     .cases hq:n==n' with
      |true=>rw[(by symm;simpa using hq:n'=n)]at aci;show((aci.1 v) hm2).elim
      |false=>show ih aci.2 n v hm2
   show key _ ?_ _ _ ?_
   .rw [List.map_reverse];show List.pairwise_reverse.mpr (abF eS ?_);have:(((K.map NM).zip vs).map (·.1))=K.map NM:=by rw[List.map_fst_zip];simp[hvl]
    rw[this];show abG NM (λa b hab e=>hab (Cy e)) tV
   .rw [EO];show KW.mpr ⟨i,?_⟩;rw[List.zip,EJ,cZ,hy,hv];rfl
  have fr0:FR H U ax.heap (ST f).scope (newEnv fd.scope ax.heap.objs.size fd.globals fd.closure (fd.qualname++ ".<locals>.") (O a) fd.code eX fd.builtins) h3 (qL K avs++qL ns cvs) [ax.heap.objs.size]:=by
   have WM:∀y,(newEnv fd.scope ax.heap.objs.size fd.globals fd.closure (fd.qualname++ ".<locals>.") (O a) fd.code eX fd.builtins).kindOf y=(ST f).scope.names.lookup y:=λy=>by show P.2.2.2.1▸?_;rfl
   show⟨b1,x3,P.2.2.2.1,hk,P.2.2.2.2.1,P.2.2.2.2.2.1,bJ.mpr Z,(DV _ sk),λy hy=>absurd Z (OF _ (mH hy)),λy z c' hy=>absurd Z (OF _ (mH hy)),λb hb'=>?_,?_⟩
   .apply jR hb';show gI hL (fm (jz B.top b1)) (MP sk)
   .have key:∀y k' mI,ck (qL K avs++qL ns cvs) y=O (k',mI)->∃v F',Aj (newEnv fd.scope ax.heap.objs.size fd.globals fd.closure (fd.qualname++ ".<locals>.") (O a) fd.code eX fd.builtins) h3 (NM y) v/\bM h3 mI v F'/\k'=0/\∀b∈F',∃o,ax.heap.get? b=O o:=λy k' mI e=>by
     rcases(OD e) with e|e
     .show oY (CH e) λdX i g2 g3 _=>dX▸jy (bA.get aO g3) λv F' g4 g5 g6=>((MC v F' (ak ⟨by rw[WM];show E y (cY g2),_,sk,rev i y v g2 g4⟩) (g5.ext x3) Z (λb hb'=>?_)));show iM (g5.kinds b hb') λ_ o' e' _=>DV o' e'
     .show oY (CH e) λdX i g2 g3 _=>dX▸l0 (q i y g2) λc' v' g4 g5 g6 g7 g8=>(jy (bA.get e5 g3) λv Rd g9 g10 g11=>?_);replace g9:=g5▸g9;obtain rfl:=aW g9;have x13:=x1.ext.trans x3;show MC v' Rd (aw ⟨aw (by rw[WM];show hn y (cY g2)),c',g6,g7,x13.cell g7 g8⟩) (g10.ext x13) Z<|λb hb'=>iM ((g10.ext x1.ext).kinds b hb') λ_ o' e' _=>DV o' e'
    show jg (WW key) λval fp q'=>((qG val fp (λy k' mI e=>?_)));show iL (q' y k' mI e) λr1 r2 r3 r4=>(⟨r1,r2,(λh1=>by have h1:=r3▸h1;ext),λ_ b hb' hw=>?_⟩);obtain rfl:=bJ.mp hw;show dF (r4 _ hb') λo' e'=>?_;have e':=hL.symm.trans e';ext
  show(hss _ ax.heap {ax with heap:=h3,toks:=ax.toks+((K.map NM).zip vs).length} _ fr0).wp λfl dp ow=>yE ow λm3 x4 v F3 hf3 V3=>hf3▸⟨x1.trans ⟨x4,m3.os,m3.drawn,m3.gens⟩,F3,V3,λq=>?_⟩;rw[cW.1 _ _ _ (s' q) V3];show⟨λ_ D=>(kM D),rQ⟩
inductive afs(H:List af)(U D:aQ)(L:dw)(J:cI)(h:aQ)(G:iB)(y:Nat)(av:AV)(W:List af):Prop
 |mk (W':List af) (c:af) (v:aa) (F:List af) (r:FR H U D L J h (jk G y 2 av) W') (w:∀b∈W',b∈W) (y1:J.cells.lookup (NM y)=O c) (y2:c∉bX) (y3:h.IsCell c (O v)) (y4:c∉W') (y5:bM h av v F) (y6:∀b∈F,b∉W')
theorem FR.freeze(r:FR H U D L J h G W)(hy:ck G y=O (0,av))(hk:L.names.lookup (NM y)=O dz):
 afs H U D L J h G y av W:=by
 show lZ (r.cell y hk) λc c1 c2 c3 c4=>dF c2 λcv c2=>jg r.ents λval fp q=>mC (q y 0 av hy) λa1 a2 _ a4=>?_;have hcv:h.IsCell c (O (val y)):=by
  show ba a1 (λi0=>fc i0 λk1 _=>?_) λi0=>oY i0 λ_ c' e1 _ e3=>?_
  .have:J.kindOf (NM y)=O dz:=by delta kb;show(r.scope)▸?_;show hk
   have k1:=this.symm.trans k1;ext
  .replace e1:=c1▸e1;show aW e1▸e3
 show⟨ab5 W [c],c,val y,fp y,?_,λb hb'=>(iU.mp hb').1,c1,c3,hcv,λhm=>(iU.mp hm).2 au,a2,λb hb' hm=>a4 aL b hb' (iU.mp hm).1⟩;show⟨r.b1,r.ext,r.scope,r.kind,r.glob,r.bi,iU.mpr ⟨r.loc,λhm=>?_⟩,r.ns,λz hz=>?_,r.pV,λb hb'=>r.jh b (iU.mp hb').1,val,fp,λx k mI e=>?_⟩
 .show dF r.ns λm n=>?_;rw[bJ.mp hm]at n;show Ns.mP n c2
 .show lZ (r.cell z hz) λd d1 d2 d3 d4=>((wC d d1 d2 d3 ?_));show if hzy:z=y then hzy▸ak ⟨av,by rw[fH,if_pos Z]⟩ else ?_
  rcases d4 with⟨av2,d4⟩|d4
  .show ak ⟨av2,by rw[fH,if_neg hzy];show d4⟩
  .show aw (iU.mpr ⟨d4,λhm=>hzy (r.pV y z d hk (bJ.mp hm▸c1) d1)⟩)
 .rw [fH]at e;by_cases hxy:x=y
  .cases hxy
   replace e:=(if_pos Z)▸e;show Yu (aW e) λa1 a2=>?_;subst a1;subst a2;show⟨a1,a2,(λh1=>by ext),λ_ b hb' hm=>a4 aL b hb' (iU.mp hm).1⟩
  .rw [if_neg hxy]at e;show mC (q x k mI e) λb1 b2 b3 b4=>(⟨b1,b2,λh1=>⟨(b3 h1).1,λb hb'=>?_⟩,λh1 b hb' hm=>b4 h1 b hb' (iU.mp hm).1⟩);show qJ ((b3 h1).2 b hb') λp1 p2 p3=>(⟨iU.mpr ⟨p1,λhm=>p2.mP (bJ.mp hm▸c2)⟩,p2,λz k3 Yz e3 hz=>?_⟩);rw[fH]at e3;show if hzy:z=y then p3 z 0 av (hzy▸hy) hz else ?_
   rw[if_neg hzy]at e3;show p3 z k3 Yz e3 hz
theorem aeI{qn:aV}{dv:List aa}{b1 b2:Bool}(h1:dv.isEmpty=b1)(h2:cl.isEmpty=b2)(jB:rn scope J=pure cl)(aft:docOf body=ah)(h:aE M A (do
 let dV<-if b1 then pure aA else newTextTuple dv
 let cT<-if b2 then pure aA else newTextTuple ((cl.mergeSort λa b=>a.1.cps.toList<=b.1.cps.toList).map (R ·.2))
 let code<-functionCode J pos ln nm qn params scope (lj body)
 let bi<-builtinsFor J.globals J.builtins
 let m<-nsGet J.globals "__name__"
 newObj (ao "function") (qu {name:=nm,qualname:=qn,params,body:=lj body,scope,globals:=J.globals,closure:=cl,closureTuple:=cT,code,builtins:=bi,defaults:=dV,kwdefaults:=aA,annotations:=ah,pyModule:=m.getD aA,doc:=aA})) Q a0 s):
 aE M A (Kt nm qn params (lj body) scope J dv [] [] pos ln) Q a0 s:=by
 delta Kt
 show((by rw[List.zip_nil_right];rfl:((params.kwonlyargs.zip ([]:List (Option aa))).filterMap λ(a,d)=>d.map (a.arg,·))=[])).symm▸jB.symm▸?_;subst h2;show h1.symm▸?_;simp only[aft];show h
theorem Rt{f:Nat}{ay az:AV}{c P:af}(B:cx U mg mb)(ahw:PlainDefTree (NM x) params body scope pos)(hy:ck G y=O (0,ay))(hz:ck G z=O (0,az))(hyz:z≠y)(hxy:x≠y)(hxz:x≠z)(hky:L.names.lookup (NM y)=O dz)(hkz:L.names.lookup (NM z)=O dz)(hkx:L.names.lookup (NM x)=O dz)(dH:bT G x=N)(ahx:∀p∈scope.names,p.2=eQ->p.1=NM y\/p.1=NM z)(hfy:(NM y,eQ)∈scope.names)(hfz:(NM z,eQ)∈scope.names)(aft:docOf body=ah)(hS:ST f=⟨NM x,J.qual++NM x,params,body,scope⟩)(pj:J.code=R c)(hc:c∉bX)(oz:U.IsCode c P #[])(vP:U.TableAt c P #[])(hP:P∈bX)(pn:P∉H)(kz:P∈τ')(nO:∀b∈H,b∈τ'):
 S1m H τ' U A L J (AY (NM x) params body [] ah [] scope ah (NM x) pos) G (jk (jk (jk G y 2 ay) z 2 az) x 0 (tP f [y,z] [ay,az])) ah:=λD s W r=>by
 obtain⟨W1,cy,vy,Fy,r1,w1,y1,y2,y3,y4,y5,y6⟩:=r.freeze hy hky;obtain⟨W2,cz,vz,Fz,r2,w2,z1,z2,z3,z4,z5,z6⟩:=r1.freeze (by rw[fH,if_neg hyz];show hz) hkz;have b0:=r.base
 -- the aj7 table is as the top left it
 have OS:s.heap.TableAt c P #[]:=by obtain⟨⟨o,vs,t1,t2,t3,t4⟩,t5⟩:=vP;show⟨(MC o vs (b0.keep c _ hc t1) t2 t3 t4),b0.quiet P _ hP pn t5⟩
 have hq:qualnameIn J (NM x) (NM x)=J.qual++NM x:=by
  delta qualnameIn kb
  show r.scope.symm▸hkx.symm▸?_;rfl
 rw[ahw,hq];show aj<|jW<|aj<|cQ<|og λgG kG=>?_;obtain⟨cl,jB,wN⟩:=wL (J:=J) (λp hp hk=>by
  rcases ahx p hp hk with e|e
  .show ⟨cy,by show(e)▸?_;show y1⟩
  .show ⟨cz,e▸z1⟩)
 have qK:cl.isEmpty=ab:=by
  cases cl with
  |nil=>have:=wN _ hfy;have this:=this.trans y1;ext
  |cons p cl=>rfl
 have top:=jz B.top b0;show vD B.bmod λbm ob hbm Ru hbT Rv Rw GI BA=>kG ?_;clear kG gG;show aeI Z qK jB aft<|aj<|aC<|aj<|TZ<|aj (TU pj ((FG oz (λ_=>b0.keep c _ hc) λ_=>b0.quiet P _ hP pn).push _) (OS.push _) Z λc' h3 tk E hge jA _ Rx YM _=>?_);have ahy:=bj (by rw[dD];show lQ _) hge;have x3:gU τ' s.heap h3:=by
  show⟨λb o hb' e=>E b o (λq=>hb' (q▸hP)) (aZ _ e),λb hb' ps e=>?_,λb o e=>?_,λb o hb' hq' e=>E b o (λq=>hq' (q▸kz)) (aZ _ e)⟩
  .show if Ν:b=P then ?_ else⟨#[],E b _ Ν (aZ _ e)⟩
   cases Ν
   have:=OS.2;have hps:ps=#[]:=by
    injection (aW (e.symm.trans this)) with _ _ h3 _
    injection h3
   show hps▸⟨_,YM.2⟩
  .show if Ν:b=P then Ν▸⟨_,YM.2⟩ else⟨o,E b o Ν (aZ _ e)⟩
 have bg3:h3.Ns J.globals mg:=by show(r.glob)▸?_;show B.mg ((b0.up nO).trans x3)
 show aj<|Eh bg3 hbm Ru (((b0.up nO).trans x3).keep bm _ hbT Rv) Rw GI BA<|aj<|xR bg3<|aj<|Aq<|aC<|aj (jW (aj (Ej ?_)));generalize hfd:({name:=NM x,qualname:=J.qual++NM x,params:=params,body:=lj body,scope:=scope,globals:=J.globals,closure:=cl,defaults:=aA,kwdefaults:=aA,doc:=_,pyModule:=_,annotations:=_,code:=_,closureTuple:=_,builtins:=fY}:cq)=fd;have f10:fd.closure=cl:=congrArg _ hfd.symm;have x4:gU τ' h3 (h3.push {cls:=ao "function",data:=qu fd}):=.push _ _;have x34:=x3.trans x4;have aO:bM (h3.push {cls:=ao "function",data:=qu fd}) (tP f [y,z] [ay,az]) (R h3.objs.size) ([cy,cz]++(Fy++(Fz++[]))):=by
  show gr Rx λc2 o2 vs2 t2 e2 g2 r21 r22=>?_;obtain rfl:=j9 e2;show⟨h3.objs.size,_,fd,[cy,cz],[vy,vz],Fy++(Fz++[]),rfl,fm (bj top (bj ahy (gw jA))),bI _ Z,rfl,(hfd▸hS▸⟨rfl,rfl,rfl,rfl,r.glob,rfl,rfl,rfl⟩),
   (η c' o2 vs2 t2 (congrArg _ hfd.symm) (fm (bj top ahy)) (aZ _ g2) r21 (by show(hS)▸?_;show r22)),(gI (λi u hu=>?_) Z Z),?_,rfl⟩
  .cases i with
   |zero=>show aW hu▸ε cy vy Z Z (f10▸(wN _ hfy)▸y1) y2 (x34.cell y2 y3)
   |succ i=>cases i with|zero=>show aW hu▸ε cz vz Z Z (f10▸(wN _ hfz)▸z1) z2 (x34.cell z2 z3)|succ i=>ext
  .show ej Fy (Fz++[]) (y5.ext x34) (ej Fz [] (z5.ext x34) .nil)
 have hFW:∀b∈[cy,cz]++(Fy++(Fz++[])),b∉W2:=λb hb' hm=>by
  revert hm
  show zI (P:=λb=>b∈W2->False) hb' (λhm=>y4 (w2 _ hm)) λhb'=>zI (P:=λb=>b∈W2->False) hb' z4 λhb' hm=>ba (bZ.mp (show b∈Fy++(Fz++[]) from hb')) (λh=>y6 b h (w2 _ hm)) λh=>z6 b ((yg Fz)▸h) hm
 have CI:bT (jk (jk G y 2 ay) z 2 az) x=N:=by
  delta bT
  rw[fH,if_neg hxz,fH,if_neg hxy];show dH
 show(kh (s:={s with heap:=h3.push {cls:=ao "function",data:=qu fd},toks:=tk}) (((r2.up nO).grow x34)) (aw hkx) CI aO (.alias hFW)).Cx λ_ s5 r5 m5=>aC<|have m4:mD W s {s with heap:=h3.push {cls:=ao "function",data:=qu fd},toks:=tk}:=⟨x34.mod W,rfl,rfl,eF _⟩;⟨m4.trans m5 (λd hd=>ak (w1 d (w2 d hd))),rfl,W2,r5,λd hd=>ak (w1 d (w2 d hd))⟩
noncomputable def aT(n:Nat):AV:=a6 (ai n)
def aX(ns:LN):AV:=bS (ns.map aT)
theorem CJ(n:Nat):flat (aT n)=N:=rfl
theorem hO(ns:LN):iT (ns.map aT)=N:=by
 induction ns with
 |nil=>rfl
 |cons n ns ih=>assumption
theorem dS(ns:LN):jd (ns.map aT)=O (ns.map ai):=by
 induction ns with
 |nil=>rfl
 |cons n ns ih=>show congrArg (Vb (ai n::·)) ih
theorem jM(ns:LN):we (aX ns)=N:=by
 induction ns with
 |nil=>rfl
 |cons n ns ih=>assumption
theorem fo{a i:aG}(ha:V H U A L J G a (aX ns) ab)(hi:V H U A L J G i (aT k) ab)(hk:k<ns.length)(hl:ns.length<=1000)(sj:kg i=ab):V H U A L J G (dk a i pos) (aT (ns.getD k 0)) fr:=by show wI ha hi ?_ sj (λ_=>rfl);show(?_:cond (dY k 1000000) ((ns.map aT)[k]?) eX=_);show(eW au:dY k 1000000=N).symm▸cZ.symm▸(dE hk).symm▸dc.symm▸(dE hk).symm▸?_;rfl
theorem fq{a b:aG}(ha:V H U A L J G a (aT x) ab)(D:V H U A L J G b (aT y) ab):
 V H U A L J G (fh a rS b pos) (aT (x+y)) fr:=lr .add ha D Z
theorem nu{a b:aG}(ha:V H U A L J G a (aT x) ab)(D:V H U A L J G b (aT y) ab):
 V H U A L J G (fh a Ba b pos) (aT (x ^^^ y)) fr:=lr .xor ha D Z
theorem lS{a b:aG}(ha:V H U A L J G a (aT x) ab)(D:V H U A L J G b (aT y) ab)(h:y<=x):
 V H U A L J G (fh a FE b pos) (aT (x - y)) fr:=lr .sub ha D (by change O (ai x - ai y)=_;rw[(by lia:ai x - ai y=ai (x - y))])
theorem lT{a b:aG}(ha:V H U A L J G a (aT x) ab)(D:V H U A L J G b (aT y) ab)(h:x<1000000):
 V H U A L J G (fh a vA b pos) (aT (x * y)) fr:=lr .mul ha D (by show(?_:cond (o4 (ai x)) _ _=_);show(by show decide_eq_true au:o4 (ai x)=N).symm▸?_;rfl)
theorem yG{a b:aG}(ha:V H U A L J G a (aT x) ab)(D:V H U A L J G b (aT y) ab)(h:0<y):
 V H U A L J G (fh a Bb b pos) (aT (x % y)) fr:=lr .fmod ha D (by change cond (decide (0<ai y)) _ _=_;rw[decide_eq_true (by show AD.mpr h)];rw[EE _ fF];rfl)
theorem MW{a b:aG}(ha:V H U A L J G a (aT x) ab)(D:V H U A L J G b (aT y) ab)(h:0<y)(h2:y<1000000):
 V H U A L J G (fh a FD b pos) (aT (x / y)) fr:=lr .fdiv ha D (by change cond (o4 (ai y) && decide (0<ai y)) _ _=_;rw[(by show decide_eq_true au:o4 (ai y)=N),decide_eq_true (by show AD.mpr h)];rw[Int.fdiv_eq_ediv_of_nonneg _ fF];rfl)
theorem GJ{a b c:aG}{m:Nat}(ha:V H U A L J G a (aT x) ab)(D:V H U A L J G b (aT y) ab)(hc:V H U A L J G c (aT m) ab)(h:0<m)(hy:y<=m):V H U A L J G (fh (fh a FE b pos) Bb c Cu) (aT ((x+m - y) % m)) fr:=lr .fmod (lr .sub ha D Z) hc (by
 change cond (decide (0<ai m)) _ _=_;rw[decide_eq_true (by show AD.mpr h)];congr 1;have e:ai x - ai y=ai (x+m - y) - ai m:=by lia
 rw[e,EE _ fF];have e2:(ai (x+m - y) - ai m) % ai m=ai (x+m - y) % ai m:=by rw[Int.sub_emod_right]
 rw[e2];rfl)
theorem aR(n:Nat):V H U A L J G (fL (jK (ai n)) k pos) (aT n) fr:=V.int
theorem acj{a b:aG}(ha:V H U A L J G a (aT x) ab)(D:V H U A L J G b (aT y) ab):
 pO H U A L J G (jw a [FK] [b] pos) (decide (x<y)):=by
 have:=mB (pos:=pos) .lt ha D;have e:gT .lt (ai x) (ai y)=decide (x<y):=decide_eq_decide.mpr fF;rw[e]at this;show this
theorem WX{a b:aG}(ha:V H U A L J G a (aT x) ab)(D:V H U A L J G b (aT y) ab):
 pO H U A L J G (jw a [Wg] [b] pos) (decide (x<=y)):=by
 have:=mB (pos:=pos) .le ha D;have e:gT .le (ai x) (ai y)=decide (x<=y):=decide_eq_decide.mpr fF;rw[e]at this;show this
theorem vQ{a b:aG}(ha:V H U A L J G a (aT x) ab)(D:V H U A L J G b (aT y) ab):
 pO H U A L J G (jw a [CmpOp.Gt] [b] pos) (decide (y<x)):=by
 have:=mB (pos:=pos) .gt ha D;have e:gT .gt (ai x) (ai y)=decide (y<x):=decide_eq_decide.mpr fF;rw[e]at this;show this
theorem BB{a b:aG}(ha:V H U A L J G a (aT x) ab)(D:V H U A L J G b (aT y) ab):
 pO H U A L J G (jw a [Be] [b] pos) (decide (x=y)):=by
 have:=mB (pos:=pos) .eq ha D;have e:gT .eq (ai x) (ai y)=decide (x=y):=by
  delta gT
  lia
 rw[e]at this;show this
theorem yH{a b:aG}(ha:V H U A L J G a (aT x) ab)(D:V H U A L J G b (aT y) ab):
 pO H U A L J G (jw a [FJ] [b] pos) (decide (x≠y)):=by
 have:=mB (pos:=pos) .ne ha D;have e:gT .ne (ai x) (ai y)=decide (x≠y):=by
  delta gT
  lia
 rw[e]at this;show this
theorem ki{a:aG}(B:cx U mg mb)(I:dQ mg mb)(kQ:Gi L "len")(ha:V H U A L J G a (aX ns) ab)(dH:cH a=ab)(hl:ns.length<=1000):V H U A L J G (bx (aq (aB "len") np) [a] [] pos) (aT ns.length) fr:=by have:=V.len (fr:=fr) (np:=np) (pos:=pos) B I kQ ha dH (eW jx);rw[ig]at this;show this
theorem yI:Q9.length=255:=by rfl
theorem GK:∀n,(Cw n).length=256
 | 0=>ru ..
 |n+1=>(ET ..).trans (GK n)
theorem tW:wz.length=256:=GK 255
theorem Ry{p:Nat}(h:p<256):IL p<256:=
 (by decide:∀p,p<256->IL p<256) p h
theorem OT:∀n,pw n<256
 | 0=>by decide
 |n+1=>Ry (OT n)
theorem YN:∀n,n<=255->∀k,(Cw n).getD k 0<255:=by
 intro xX;induction xX with
 |zero=>intro _ k;show(?_:(b8 256 0)[k]?.getD 0<255);rw[Ur];split<;>decide
 |succ n iH=>
  intro h k;show(?_:((Cw n).set (pw n) n)[k]?.getD 0<255);rw[EN];split
  .split
   .show h
   .decide
  .show iH (qr h) k
noncomputable def lg(a:Nat):Nat:=wz.getD a 0
noncomputable def FQ(k:Nat):Nat:=Q9.getD k 0
theorem WY(a:Nat):lg a<255:=YN 255 (ey _) a
theorem GL(h:k<255):FQ k=pw k:=by
 delta FQ Q9
 rw[dc,cZ,oM h];rfl
theorem CK:FQ k<256:=by
 by_cases h:k<255
 .rw [GL h];show OT k
 .delta FQ
  rw[dc,rx (by rw[yI];show oQ h)];simp
def tm(a b:Nat):Nat:=if a=0\/b=0 then 0 else FQ ((lg a+lg b) % 255)
theorem eZ(a b:Nat):tm a b<256:=by
 delta tm
 split
 .simp
 .show CK
def tG(a b:Nat):iB:=qL [55,56] [aT a,aT b]++qL [54,53] [aX Q9,aX wz]
theorem Rz{a b:Nat}(ha:a<256)(D:b<256):SS H U A (bc Q6) J (bg Q6) (tG a b) (tG a b) (O (aT (tm a b))):=by
 have hc:pO H U A (bc Q6) J (tG a b) _ _:=Rb (pos:=⟨285,11,285,27⟩) (BB (pos:=⟨285,11,285,17⟩) (ar (pos:=⟨285,11,285,12⟩) 55 Z) (aR (k:=0) (pos:=⟨285,16,285,17⟩) 0))
  (λ_=>BB (pos:=⟨285,21,285,27⟩) (ar (pos:=⟨285,21,285,22⟩) 56 Z) (aR (k:=0) (pos:=⟨285,26,285,27⟩) 0))
 by_cases h0:a=0\/b=0
 .have e:(decide (a=0) ||decide (b=0))=N:=by simpa using h0
  rw[e]at hc;have et:tm a b=0:=if_pos h0;rw[et];show tU (S1.ite hc (λ_=>tU (S1.ret (aR 0))) (λq=>nnT q))
 .have e:(decide (a=0) ||decide (b=0))=ab:=by simpa using h0
  rw[e]at hc;have et:tm a b=FQ ((lg a+lg b) % 255):=if_neg h0;rw[et];show SS.cons (S1.ite hc (λq=>II q) (λ_=>SS.nil))<|tU<|S1.ret<|fo (ar 54 Z) (yG (fq (fo (ar 53 Z) (ar 55 Z) ?_ ?_ Z) (fo (ar 53 Z) (ar 56 Z) ?_ ?_ Z)) (aR 255) bD) ?_ ?_ Z;all_goals first|(rw[tW];lia)|(show yI.symm▸?_;first|lia|show mZ _ (rfl))
theorem zp.eq{ns ms:List Int}(x:zp H U A L J G e ns)(h:ns=ms):zp H U A L J G e ms:=h▸x
theorem Ξ(n:Nat):Dw 0 1 n=(aJ n).map ai:=by apply AI;intro i _;simp
theorem fR(hh:dh A)(B:cx U mg mb)(I:dQ mg mb)(kQ:Gi L "range")(he:V H U A L J G e (aT n) ab)(dH:cH e=ab)(hn:n<=100000):zp H U A L J G (bx (aq (aB "range") np) [e] [] pos) ((aJ n).map ai):=(zO hh B I kQ he dH au fF).eq (Ξ n)
theorem OU{a b:Nat}(hh:dh A)(B:cx U mg mb)(I:dQ mg mb)(kQ:Gi L "range")(he:V H U A L J G e (aT a) ab)(dH:cH e=ab)(Jt:V H U A L J G e' (aT b) ab)(IP:cH e'=ab)(ha:a<=100000)(D:b<=100000):zp H U A L J G (bx (aq (aB "range") np) [e,e'] [] pos) (((aJ (b - a)).map (a+·)).map ai):=by have hk':ai b=(b:Int):=rfl;show(zP hh B I kQ he dH Jt IP au au au au).eq ?_;rw[(by simp:(ai b - ai a).toNat=b - a)];rw[qo];apply AI;intro i _;simp
theorem qM(x:Nat)(hh:dh A)(B:Tp U)(E:ck G x=O (k,aX ns))(hk:fD k 1=ab):zp H U A L J G (aq (NM x) pos) (ns.map ai):=
 acb hh B E hk (dS ns)
theorem GN(hh:dh A)(B:Tp U)(he:V H U A L J G e (aX ns) N):zp H U A L J G e (ns.map ai):=
 zp.new hh B he (dS ns)
theorem aeJ{ns:List α}{upd:σ->α->σ}{P:Nat->σ->Prop}{s0:σ}(h0:P 0 s0)(st:∀i n s,ns[i]? =O n->P i s->P (i+1) (upd s n))(i:Nat)(hi:i<=ns.length):P i ((ns.take i).foldl upd s0):=by
 induction i with
 |zero=>show h0
 |succ i ih=>have e:=dE hi;show A3 _ _ e▸st i _ _ e (ih (qr hi))
theorem du(x:Nat)(ns:LN)(Γ:σ->iB)(upd:σ->Nat->σ)(P:Nat->σ->Prop)(s0:σ)(uu:zp H U A L J G iter (ns.map ai))(h0:kr (Γ s0) G)(hp0:P 0 s0)(E:Hx L x)(dH:∀st,bT (Γ st) x=N)(step:∀i n st,ns[i]? =O n->P i st->P (i+1) (upd st n)/\SS H U A L J body (jk (Γ st) x 0 (aT n)) (Γ (upd st n)) ah)(hs:Fs iter J):
 S1 H U A L J (j7 (aq (NM x) px) iter body [] pos) G (Γ (ns.foldl upd s0)) ah:=by
 have key:=ace (px:=px) (pos:=pos) (body:=body) (λi=>Γ ((ns.take i).foldl upd s0)) uu h0 E (λi _=>dH _) (λi n hn=>?_) hs
 .rw [ig,sY]at key;show key
 .rw [cZ]at hn;show bf (jb.mp hn) λm hm e=>A3 _ _ hm▸e▸(step i m _ hm (aeJ hp0 (λi n s a b=>(step i n s a b).1) i (gw (dR.mp hm).1))).2
theorem SS.done(h:kr G' G):SS H U A L J [] G G' ah:=SS.nil.out h
theorem S1.to{ret:Option AV}(x:S1 H U A L J st G G0 ret)(h:G0=G1):S1 H U A L J st G G1 ret:=h▸x
theorem V.to(x:V H U A L J G e av fr)(h:av=mI):V H U A L J G e mI fr:=h▸x
theorem yJ(x n:Nat)(E:ck G x=O (1,aX ns))(he:V H U A L J G e (aT n) ab)(dH:cH e=ab)(lB:(apos.endLine==cpos.line)=N)(hl:ns.length<=1000):
 S1 H U A L J (qy (bx (gZ (aq (NM x) p) (aB "append") apos) [e] [] cpos) pos) G (jk G x 1 (aX (ns++[n]))) ah:=λD s W r=>by
 have:=S1.app (p:=p) (pos:=pos) E (hO ns) he (CJ n) dH lB (eW jx) (by delta iJ;show r.scope.symm▸r.kind.symm▸?_;rfl) D s W r;rw[(by simp:ns.map aT++[aT n]=(ns++[n]).map aT)]at this;show this
theorem MX(x:Nat){i:aG}(E:ck G x=O (1,aX ns))(he:V H U A L J G e (aT n) ab)(hi:V H U A L J G i (aT j) ab)(hj:j<ns.length)(hl:ns.length<=1000)(hs:fz e (O (dk (aq (NM x) p) i p')) pos.line J=pure ab):
 S1 H U A L J (ez [dk (aq (NM x) p) i p'] e pos) G (jk G x 1 (aX (ns.set j n))) ah:=by
 have:=ab7 E (hO ns) he (CJ n) hi (eW (by simp;assumption)) (eW jx) hs;rw[(by rw[Lh]:(ns.map aT).set j (aT n)=(ns.set j n).map aT)]at this;show this
def gM0(ws:LN)(c:Nat)(kn:LN):iB:=[(17,0,aX ws),(3,0,aT c),(24,0,aX kn)]
def gM1(ws:LN)(c:Nat)(kn:LN)(st:LN×LN×Nat):iB:=[(17,0,aX ws),(3,0,aT c),(24,0,aX kn),(54,1,aX st.1),(53,1,aX st.2.1),(32,0,aT st.2.2)]
def ack(st:LN×LN×Nat)(i:Nat):LN×LN×Nat:=(st.1++[st.2.2],st.2.1.set st.2.2 i,IL st.2.2)
theorem YO:∀n,(aJ n).foldl ack ([],b8 256 0,1)=((aJ n).map pw,Cw n,pw n):=by
 intro xX;induction xX with
 |zero=>show rfl
 |succ n iH=>rw[rD,qm,iH];rw[jH];rfl
theorem aj8(B:cx U mg mb):S1 H U A lI J (a9 dA 0) (gM0 ws c kn) (gM0 ws c kn++[(54,1,aX [])]) ah:=
 gc 54 (aX []) (o7 B.top fJ.nil Z Z) Z Z (aw Z) Z
theorem aj9(B:cx U mg mb):S1 H U A lI J (a9 dA 1) (gM0 ws c kn++[(54,1,aX [])]) (gM0 ws c kn++[(54,1,aX []),(53,1,aX (b8 256 0))]) ah:=
 gc 53 _ ((Rh B.top (o7 B.top (fJ.cons V.int fJ.nil Z) Z Z) V.int Z Z Z).to (by delta aX;rw[KZ];rfl)) (jM _) Z (aw Z) Z
theorem aka:S1 H U A lI J (a9 dA 2) (gM0 ws c kn++[(54,1,aX []),(53,1,aX (b8 256 0))]) (gM1 ws c kn ([],b8 256 0,1)) ah:=
 bC 32 (aT 1) V.int Z Z (ak Z) Z
theorem akb(hh:dh A)(B:cx U mg mb)(I:dQ mg mb):S1 H U A lI J (a9 dA 3) (gM1 ws c kn ([],b8 256 0,1)) (gM1 ws c kn (Q9,wz,pw 255)) ah:=by
 have key:=du (px:=⟨279,8,279,13⟩) (pos:=⟨279,4,282,61⟩) (H:=H) (L:=lI) (J:=J) 4 (aJ 255)
  (gM1 ws c kn) ack (λi st=>st.1.length=i/\i<=255/\st.2.1.length=256/\st.2.2<256) ([],b8 256 0,1)
  (fR (np:=⟨279,17,279,22⟩) (pos:=⟨279,17,279,27⟩) (e:=fL (jK 255) 0 ⟨279,23,279,26⟩) hh B I Z (aR 255) Z bD) (.refl _) (rT Z bD Z bD) (aw Z) (λst=>rfl)
  (body:=match a9 dA 3 with|j7 _ _ b _ _=>b |_=>[]) (λi n st hn hp=>?_) (λ_=>rfl)
 .rw [YO]at key;show key
 .show iL hp λp1 p2 p3 p4=>?_;have hi:i<255/\n=i:=by have:=dR.mp hn;show dF this λh1 h2=>?_;simp at h1 h2;show⟨h1,h2.symm⟩
  obtain⟨hi,rfl⟩:=hi;show⟨⟨by simp[ack,p1],by assumption,by simp[ack,p3],Ry p4⟩,?_⟩;show SS.cons (yJ 54 _ Z (ar 32 Z) Z Z au) (SS.cons (MX 53 Z (ar 4 Z) (ar 32 Z) au au Z)
   (SS.cons (bC 32 (aT (IL st.2.2)) (wH (decide (st.2.2<128)) (acj (ar 32 Z) (aR 128)) (λq=>?_) (λq=>?_)) Z Z (ak Z) Z) (SS.done (kr.rf bG bG))))
  .have q:=of_decide_eq_true q;have e:IL st.2.2=2 * st.2.2:=if_pos q;rw[e];show lT (aR 2) (ar 32 Z) aL
  .have q:=of_decide_eq_false q;have e:IL st.2.2=(2 * st.2.2) ^^^ 285:=if_neg q;rw[e];show nu (lT (aR 2) (ar 32 Z) aL) (aR 285)
def afu:AV:=tP 0 [54,53] [aX Q9,aX wz]
theorem RA(fd:cq)(hp:fd.params=fu Q6)(hd:fd.defaults=aA)(vs:List aa)(hl:vs.length=[55,56].length):dy fd ⟨vs,[]⟩=pure (([55,56].map NM).zip vs):=by
 apply ahd hl;intro a b
 delta dy
 show hp.symm▸hd.symm▸?_;rfl
theorem sq{a b:Nat}(B:cx U mg mb)(hA:A.depth<1000)(E:ck G 33=O (k,afu))(he1:V H U A L J G e1 (aT a) ab)(he2:V H U A L J G e2 (aT b) ab)(ha:a<256)(D:b<256)(h1:cH e1=ab)(h2:cH e2=ab):V H U A L J G (bx (aq (NM 33) np) [e1,e2] [] pos) (aT (tm a b)) fr:=
 Rr (K:=[55,56]) (G':=tG a b) B E Z Z aL (λfd hp hd hk vs hl=>RA fd hp hd vs hl) Z aL Z aL aL hA
  (fJ.cons he1 (fJ.cons he2 fJ.nil h2) h1) (by simp[dW,h1,h2]) (λfX=>Rz ha D) (λ_=>rfl)
noncomputable def OV(p:Nat->Bool):List Int->Bool
 | [k]=>p k.toNat
 |_=>ab
noncomputable def Ο(f:Nat->Nat):List Int->Int
 | [k]=>ai (f k.toNat)
 |_=>0
noncomputable def aeK(f:Nat->Nat->Nat):List Int->Int
 | [k,l]=>ai (f k.toNat l.toNat)
 |_=>0
theorem wh(ns:LN)(p:Nat->Bool)(f:Nat->Nat):
 ((((ns.map ai).map λn=>[n]).filter (OV p)).map (Ο f))=((ns.filter p).map f).map ai:=by
 induction ns with
 |nil=>rfl
 |cons n ns ih=>
  show boC (p n) (λhp=>?_) λhp=>?_
  .have h1:OV p [ai n]=N:=hp;rw[ix,ix,EH h1,EH hp,ix,ih];rfl
  .have h1:¬OV p [ai n]=N:=by change¬p n=N;rw[hp];decide
   rw[ix,ix,EI h1,EI (by rw[hp];decide),ih]
theorem zR(ns:LN):kR (ns.map ai)=aX ns:=congrArg bS qo
theorem YP{aN:List Int->Prop}(h:∀n∈ns,aN [ai n]):∀ks∈(ns.map ai).map λn=>[n],aN ks:=λks hk=>
 bf (bH.mp hk) λ_ h1 e=>bf (bH.mp h1) λm hm e'=>e▸e'▸h m hm
theorem GO(x:Nat)(fs ns:LN)(p:Nat->Bool)(f:Nat->Nat)(B:Tp U)(c:ed L scope fs [x])(hG:pW G fs=N)(uu:YG H U A L J G iter (aq (NM x) px) [x] ((ns.map ai).map λn=>[n]))(hsz:ns.length<=1000000)(vO:∀n∈ns,∀fX,ON H U A scope fX (jk (lC G fs) x 0 (aT n)) ifs (p n))(GG:∀n∈ns,p n=N->∀fX,V H U A scope fX (jk (lC G fs) x 0 (aT n)) elt (aT (f n)) ab)(hs:Fs iter J):
 V H U A L J G (cE elt [⟨aq (NM x) px,iter,ifs,0⟩] scope pos) (aX ((ns.filter p).map f)) fr':=by
 have key:=V.comp (fr':=fr') (pos:=pos) (elt:=elt) (ifs:=ifs) (OV p) (Ο f) B c hG uu
  (YP λ_ _=>rfl) (by simpa using hsz) (YP vO) (YP GG) hs
 rw[wh,zR]at key;show key
theorem DB(p:Nat->Bool)(f:Nat->Nat)(B:Tp U)(c:ed L scope fs [x])(hG:pW G fs=N)(uu:YG H U A L J G iter (aq (NM x) px) [x] ((ns.map ai).map λn=>[n]))(hsz:ns.length<=1000000)(vO:∀n∈ns,∀fX,ON H U A scope fX (jk (lC G fs) x 0 (aT n)) ifs (p n))(GG:∀n∈ns,p n=N->∀fX,V H U A scope fX (jk (lC G fs) x 0 (aT n)) elt (aT (f n)) ab)(hs:Fs iter J)(hy:L.names.lookup (NM y)=O cU)(dH:bT G y=N)(Η:J.scope=L->fz (cE elt [⟨aq (NM x) px,iter,ifs,0⟩] scope pos) (O (aq (NM y) py)) spos.line J=pure N):
 S1 H U A L J (ez [aq (NM y) py] (cE elt [⟨aq (NM x) px,iter,ifs,0⟩] scope pos) spos) G (jk G y 1 (aX ((ns.filter p).map f))) ah:=by
 have key:=GH (pos:=pos) (py:=py) (spos:=spos) (elt:=elt) (ifs:=ifs) (OV p) (Ο f) B c hG uu
  (YP λ_ _=>rfl) (by simpa using hsz) (YP vO) (YP GG) hs hy dH Η
 rw[wh,zR]at key;show key
theorem BC(f:Nat->Nat->Nat):∀(ns ms:LN),
 (((((ns.map ai).zip (ms.map ai)).map λp=>[p.1,p.2]).filter λ_=>N).map (aeK f))=(AP f ns ms).map ai
 | [],ms=>by rfl
 |n::ns,[]=>by rfl
 |n::ns,m::ms=>by have ih:=BC f ns ms;simp only[ix,KY,List.filter_cons,if_true]at ih ⊢;rw[ih];rfl
theorem DC{x2:Nat}(f:Nat->Nat->Nat)(B:Tp U)(c:ed L scope fs [x1,x2])(hG:pW G fs=N)(uu:YG H U A L J G iter (fM [aq (NM x1) p1,aq (NM x2) p2] k0 pt) [x1,x2] (((ns.map ai).zip (ms.map ai)).map λp=>[p.1,p.2]))(hsz:ns.length<=1000000)(GG:∀n∈ns,∀m∈ms,∀fX,V H U A scope fX (jk (jk (lC G fs) x1 0 (aT n)) x2 0 (aT m)) elt (aT (f n m)) ab)(hs:Fs iter J)(hy:L.names.lookup (NM y)=O cU)(dH:bT G y=N)(Η:J.scope=L->fz (cE elt [⟨fM [aq (NM x1) p1,aq (NM x2) p2] k0 pt,iter,[],0⟩] scope pos) (O (aq (NM y) py)) spos.line J=pure N):
 S1 H U A L J (ez [aq (NM y) py] (cE elt [⟨fM [aq (NM x1) p1,aq (NM x2) p2] k0 pt,iter,[],0⟩] scope pos) spos) G (jk G y 1 (aX (AP f ns ms))) ah:=by
 have mem:∀ks∈((ns.map ai).zip (ms.map ai)).map (λp=>[p.1,p.2]),∃n m,n∈ns/\m∈ms/\ks=[ai n,ai m]:=λks MT=>by show og λgG kG=>?_;obtain⟨⟨a,b⟩,hp,dX⟩:=bH.mp MT;obtain⟨ha,D⟩:=sZ hp;show bf (bH.mp ha) λn hn qI=>bf (bH.mp D) λm hm DY=>kG ?_;clear kG gG;show dX▸qI▸DY▸Oz n m hn hm Z
 have key:=GH (pos:=pos) (py:=py) (spos:=spos) (elt:=elt) (ifs:=[]) (λ_=>N) (aeK f) B c hG uu
  (λks MT=>by show jy (mem ks MT) λn m _ _ Ol=>?_;subst Ol;rfl) jx
  (λks MT fX=>rfl)
  (λks MT hp fX=>jy (mem ks MT) λn m hn hm C'=>C'▸GG n hn m hm fX) hs hy dH Η
 rw[BC,zR]at key;show key
theorem GP(he:V H U A L J G e av N)(hf:we av=N)(dH:bT G x=N)(E:Hx L x)(hs:J.scope=L->fz e (O (aq (NM x) p)) pos.line J=pure ab):
 S1 H U A L J (ez [aq (NM x) p] e pos) G (jk G x 1 av) ah:=λD s W r=>gc _ _ he hf dH E (hs r.scope) D s W r
theorem pP.less{ret:Option AV}(x:pP H τ' U A L J ss G0 G1 ret)(h:kr G0 G):pP H τ' U A L J ss G G1 ret:=λD s W r=>x D s W (r.less h)
theorem pP.share{ret:Option AV}(y:Nat)(x:pP H τ' U A L J ss (Lake.share G y) G1 ret):pP H τ' U A L J ss G G1 ret:=λD s W r=>gC (r.share y) λW' r' hw _=>(x D s W' r').mono λf Y q=>q.behind (.refl W s) λd hd=>ak (hw d hd)
theorem GQ{x:aV}{line:Nat}(hk:J.kindOf x=O dz):fz (cE elt gens scope pos) (O (aq x p)) line J=pure ab:=by change(pure (J.blockKind==dZ && J.kindOf x==O cU && p.line==(cE elt gens scope pos).pos.line && !(scope.names.any λ(n,k)=>n==x && (k==cU ||k==dz))):aI Bool)=pure ab;show hk.symm▸?_;have:((O dz:Option vb)==O cU)=ab:=rfl;rw[this,U9,Va,Va]
theorem qN{x:aV}{line:Nat}(hf:J.scope.kind=dZ)(hk:J.kindOf x=O cU)(hl:(p.line==pos.line)=N)(hn:(scope.names.any λ(n,k)=>n==x && (k==cU ||k==dz))=ab):fz (cE elt gens scope pos) (O (aq x p)) line J=pure N:=by
 change(pure (J.blockKind==dZ && J.kindOf x==O cU && p.line==pos.line && !(scope.names.any λ(n,k)=>n==x && (k==cU ||k==dz))):aI Bool)=pure N;show hk.symm▸hl.symm▸hn.symm▸?_;have:J.blockKind=dZ:=by delta Env.blockKind;show hf.symm▸?_;rfl
 show this.symm▸?_;rfl
def allB(l:LN):Prop:=∀i,l.getD i 0<256
theorem wR{l:LN}(h:allB l)(E:x∈l):x<256:=by show dF (KW.mp E) λi hi=>?_;have:=h i;rw[dc,hi]at this;show this
theorem allB_of{l:LN}(h:∀x∈l,x<256):allB l:=λi=>by
 rw[dc];cases q:l[i]? with
 |none=>simp
 |some x=>show h x (cY q)
theorem iQ{a b:Nat}(ha:a<256)(D:b<256):a ^^^ b<256:=E0 (n:=8) ha D
def gB(ws:LN)(c:Nat)(kn:LN)(sp:LN):iB:=[(17,0,aX ws),(3,0,aT c),(24,0,aX kn),(54,2,aX Q9),(53,2,aX wz),(33,0,afu),(11,0,aX sp)]
def gB0(ws:LN)(c:Nat)(kn:LN):iB:=[(17,0,aX ws),(3,0,aT c),(24,0,aX kn),(54,2,aX Q9),(53,2,aX wz),(33,0,afu)]
def cN(n:Nat):LN:=(aJ n).map λp=>FQ (n - 1 - p)
theorem RB(n:Nat):(cN n).length=n:=by simp[cN]
theorem OW(n:Nat):allB (cN n):=allB_of λx E=>bf (bH.mp E) λp _ dX=>dX▸CK
theorem akc(hh:dh A)(B:cx U mg mb)(I:dQ mg mb)(hl:ws.length<=100):S1 H U A lI J (a9 dA 5) (gB0 ws c kn) (gB0 ws c kn++[(11,1,aX (cN ws.length))]) ah:=by
 show S1.to (GP (x:=11) (av:=aX (cN ws.length)) ?_ (jM _) Z (aw Z) (λe=>?_)) Z
 .show V.to (GO 4 [54,17] (aJ ws.length) (λ_=>N) (λp=>FQ (ws.length - 1 - p)) B.top (.of (rfl)) Z
   (zp.itc (fR hh B I Z (ki B I Z (ar 17 Z) Z au) Z au)) jx (λn hn fX=>rfl) (λn hn _ fX=>?_) (λ_=>rfl)) ?_
  .have hn:=dm.mp hn;show fo (ar 54 Z) (lS (lS (ki B I Z (ar 17 Z) Z au) (aR 1) (Nat.one_le_of_lt hn)) (ar 4 Z) au)
    au au Z
  .rw [Ux.mpr (λa a_1=>bi_tt.mpr trivial)];rfl
 .show GQ (by delta kb;rw[e];rfl)
def qO(root:Nat)(whole wd:Nat):Nat:=(if whole≠0 then FQ ((lg whole+root) % 255) else whole) ^^^ wd
def GS(ws:LN)(root:Nat):Nat:=ws.foldl (qO root) 0
def fU(ws:LN)(c:Nat):LN:=(aJ c).map (GS ws)
theorem DD{root wd:Nat}(h:whole<256)(hw:wd<256):qO root whole wd<256:=by
 show iQ ?_ hw;split
 .show CK
 .show h
theorem Ρ(hw:allB ws)(root:Nat):GS ws root<256:=by
 have:∀(l:LN) (a:Nat),(∀x∈l,x<256)->a<256->l.foldl (qO root) a<256:=by
  intro l;induction l with
  |nil=>intro a _ h;show h
  |cons x l ih=>intro a hl ha;show ih _ (λy hy=>hl y bw) (DD ha (hl x bw))
 show this ws 0 (λx E=>wR hw E) bD
theorem GU(hw:allB ws):allB (fU ws c):=allB_of λx E=>bf (bH.mp E) λr _ dX=>dX▸Ρ hw r
theorem BD(f:Nat->α):∀n,(aJ n).foldl (λ(l:List α) i=>l++[f i]) []=(aJ n).map f:=by
 intro xX;induction xX with
 |zero=>show rfl
 |succ n iH=>rw[rD,qm,iH];simp
theorem akd(hh:dh A)(B:cx U mg mb)(I:dQ mg mb)(hw:allB ws)(hc:c<=100):
 S1 H U A lI J (a9 dA 7) (gB ws c kn sp++[(34,1,aX [])]) (gB ws c kn sp++[(34,1,aX (fU ws c))]) ah:=by
 show S1.to (du 35 (aJ c) (λrs:LN=>gB ws c kn sp++[(34,1,aX rs)]) (λrs root=>rs++[GS ws root]) (λi rs=>rs.length=i/\i<=c) []
  (fR hh B I Z (ar 3 Z) Z au) (.refl _) ⟨rfl,fj _⟩ (ak Z) (λst=>rfl) (λi n rs hn hp=>?_) (λ_=>rfl)) ?_
 .show dF (dR.mp hn) λh1 h2=>?_;simp at h1 h2;subst h2;show⟨⟨by simp[hp.1],by assumption⟩,?_⟩;show SS.cons (bC 36 (aT 0) (aR 0) Z Z (ak Z) Z)
   (SS.cons (du 7 ws (λwhole:Nat=>gB ws c kn sp++[(34,1,aX rs),(35,0,aT i),(36,0,aT whole)]) (qO i) (λ_ whole=>whole<256) 0
    (qM 17 hh B.top Z Z) (.refl _) bD (ak Z) (λst=>rfl) (λj wd whole hj YQ=>?_) (λ_=>rfl))
   (SS.cons (yJ 34 (GS ws i) Z (ar 36 Z) Z Z au) (SS.done (kr.rf bG bG))))
  show⟨DD YQ (wR hw (cY hj)),?_⟩;show SS.cons (G1:=gB ws c kn sp++[(34,1,aX rs),(35,0,aT i),(36,0,aT (if whole≠0 then FQ ((lg whole+i) % 255) else whole)),(7,0,aT wd)]) ?_
   (SS.cons (bC 36 (aT (qO i whole wd)) (nu (ar 36 Z) (ar 7 Z)) Z Z (ak Z) Z) (SS.done (kr.rf bG bG)))
  show S1.ite (x:=decide (whole≠0)) (yH (ar 36 Z) (aR 0)) (λq=>?_) (λq=>?_)
  .have q:=of_decide_eq_true q;rw[if_pos q];show SS.cons (bC 36 (aT (FQ ((lg whole+i) % 255)))
    (fo (ar 54 Z) (yG (fq (fo (ar 53 Z) (ar 36 Z) (by rw[tW];lia) (by rw[tW];lia) Z) (ar 35 Z)) (aR 255) aL)
     (mZ _ aL) au Z) Z Z (ak Z) Z) SS.nil
  .have q:=of_decide_eq_false q;rw[if_neg q];show SS.nil
 .rw [BD];rfl
def wU(sp:LN)(line:LN)(place:Nat):LN:=AP (λbefore after=>after ^^^ tm (sp.getD place 0) before) line (line.drop 1)
def kS(sp rs kn:LN):LN:=kn.foldl (wU sp) rs
structure BM where
 now:LN
 old:LN
 size:Nat
 gap:Nat
 fault:Nat
def vR(line now:LN)(turn:Nat):Nat:=((aJ (now.length - 1)).map (1+·)).foldl (λoff back=>off ^^^ tm (now.getD back 0) (line.getD (turn - back) 0)) (line.getD turn 0)
def tX(factor gap:Nat)(old g0:LN):LN:=(aJ old.length).foldl (λg back=>g.set (back+gap) (g.getD (back+gap) 0 ^^^ tm factor (old.getD back 0))) g0
def kB(line:LN)(st:BM)(turn:Nat):BM:=
 if vR line st.now turn=0 then{st with gap:=st.gap+1}
 else
  if 2 * st.size<=turn then⟨tX (FQ ((lg (vR line st.now turn)+255 - lg st.fault) % 255)) st.gap st.old (st.now++b8 (st.old.length+st.gap - st.now.length) 0),st.now,turn+1 - st.size,1,vR line st.now turn⟩
  else⟨tX (FQ ((lg (vR line st.now turn)+255 - lg st.fault) % 255)) st.gap st.old (st.now++b8 (st.old.length+st.gap - st.now.length) 0),st.old,st.size,st.gap+1,st.fault⟩
def uA(line:LN):BM:=(aJ line.length).foldl (kB line) ⟨[1],[1],0,1,1⟩
def km(now:LN)(x:Nat):Nat:=now.foldl (λwhole part=>tm whole x ^^^ part) 0
def jO(sp now:LN)(n:Nat):LN:=(aJ n).filter λp=>decide (km now (sp.getD p 0)=0)
def eH(sp:LN)(product:LN)(place:Nat):LN:=AP (λhere before=>here ^^^ tm (sp.getD place 0) before) (product++[0]) ([0]++product)
def pv(sp places:LN):LN:=places.foldl (eH sp) [1]
def RC(product rs:LN)(turn:Nat):Nat:=(aJ (turn+1)).foldl (λwhole back=>whole ^^^ tm (product.getD back 0) (rs.getD (turn - back) 0)) 0
def wV(product rs:LN)(n:Nat):LN:=(aJ n).map (RC product rs)
def pA(sp places:LN)(place:Nat)(whole:Nat):Nat:=places.foldl (λwhole other=>if other≠place/\whole≠0 then FQ ((lg whole+255 - lg (sp.getD place 0 ^^^ sp.getD other 0)) % 255) else whole) whole
def mQ(sp places ake:LN)(md:LN)(place:Nat):LN:=md.set place (md.getD place 0 ^^^ pA sp places place (km ake (sp.getD place 0)))
theorem Jw{f:Nat->Nat->Nat}{l m:LN}(h:∀x∈l,∀y∈m,f x y<256):∀z∈AP f l m,z<256:=by
 induction l generalizing m with
 |nil=>intro z hz;show kM hz
 |cons x l ih=>
  cases m with
  |nil=>intro z hz;show kM hz
  |cons y m=>
   intro z hz;simp at hz;rcases hz with rfl|hz
   .show h x au y au
   .show ih (λa ha b D=>h a au b au) z hz
theorem WZ(h:∀x∈line,x<256):∀z∈wU sp line place,z<256:=Jw λx _ y hy=>iQ (h y (ry hy)) (eZ _ _)
theorem CL:(wU sp line place).length=line.length - 1:=by simp[wU]
theorem qE{l:LN}(h:∀x∈l,x<256)(i:Nat):l.getD i 0<256:=allB_of h i
theorem OX{x:aV}(B:Tp U)(ha:V H U A L J G (aq x np) (aX ns) ab)(hh:V H U A L J G lo (aT k) ab)(hl:ns.length<=1000):V H U A L J G (dk (aq x np) (mq (O lo) eX eX p) pos) (aX (ns.drop k)) fr:=by
 show V.to (Rg B ha hh (hO ns) (eW jx)) ?_
 delta aX
 rw[EV]
theorem BE{a b:aG}(B:Tp U)(ha:V H U A L J G a (aX ns) ab)(D:V H U A L J G b (aX ms) ab)(hl:ns.length+ms.length<=1000):V H U A L J G (fh a rS b pos) (aX (ns++ms)) fr:=by
 show V.to (afg B ha D (hO ns) (hO ms) (eW (by simpa using hl))) ?_
 delta aX
 rw[jH]
theorem pB(B:Tp U)(he:V H U A L J G e (aT n) ab)(hs:cH e=ab):V H U A L J G (Expr.List [e] pos) (aX [n]) fr:=
 o7 B (fJ.cons he fJ.nil hs) Z Z
theorem akf{rs:LN}(hh:dh A)(hA:A.depth<1000)(B:cx U mg mb)(I:dQ mg mb)(OY:allB sp)(ahz:sp.length<=100)(W0:∀x∈rs,x<256)(hrl:rs.length<=100)(hkn:∀x∈kn,x<sp.length):
 S1 H U A lI J (a9 dA 9) (gB ws c kn sp++[(34,0,aX rs),(37,0,aX rs)]) (gB ws c kn sp++[(34,0,aX rs),(37,0,aX (kS sp rs kn))]) ah:=by
 show du 4 kn (λline:LN=>gB ws c kn sp++[(34,0,aX rs),(37,0,aX line)]) (wU sp) (λ_ line=>(∀x∈line,x<256)/\line.length<=100) rs
  (qM 24 hh B.top Z Z) (.refl _) ⟨W0,hrl⟩ (aw Z) (λst=>rfl) (λi place line hn hp=>?_) (λ_=>rfl)
 show⟨⟨WZ hp.1,by rw[CL];show kA5 hp.2⟩,?_⟩;show SS.cons (DC (x1:=57) (x2:=58) (y:=37) (fs:=[4,11,33]) (λbefore after=>after ^^^ tm (sp.getD place 0) before) B.top (.of (rfl)) Z
  (YG.zip hh B I Z (ar 37 Z) Z (OX B.top (ar 37 Z) (aR 1) au) Z (dS _) (dS _)) au (λn FT m hm fX=>nu (ar 58 Z) (sq B hA Z (fo (ar 11 Z) (ar 4 Z) (hkn _ (cY hn)) au Z) (ar 57 Z) (OY _) (hp.1 n FT) Z Z)) (λ_=>rfl) Z Z
  (λe=>qN (by rw[e];rfl) (by delta kb;rw[e];rfl) Z (rfl))) (SS.share 37 (SS.done (kr.rf bG bG)))
theorem GV(factor gap:Nat)(old g0:LN)(hg:∀x∈g0,x<256):(tX factor gap old g0).length=g0.length/\∀x∈tX factor gap old g0,x<256:=by
 have:∀(l:LN) (g:LN),g.length=g0.length->(∀x∈g,x<256)->(l.foldl (λg back=>g.set (back+gap) (g.getD (back+gap) 0 ^^^ tm factor (old.getD back 0))) g).length=g0.length/\
  ∀x∈l.foldl (λg back=>g.set (back+gap) (g.getD (back+gap) 0 ^^^ tm factor (old.getD back 0))) g,x<256:=by
  intro l;induction l with
  |nil=>intro g h1 h2;show⟨h1,h2⟩
  |cons b l ih=>show λg h1 h2=>ih _ (by simp[h1])<|λx E=>ba (ve E) (λh=>h2 x h) λh=>h▸iQ (qE h2 _) (eZ _ _)
 show this _ _ Z hg
theorem GW(f:α->Nat)(hf:∀a,f a<256)(l:List α):∀(a:Nat),a<256->l.foldl (λoff b=>off ^^^ f b) a<256:=by
 induction l with
 |nil=>show λa h=>h
 |cons b l iH=>show λa h=>iH _ (iQ h (hf b))
theorem MY(hl:∀x∈line,x<256):vR line now turn<256:=GW (λback=>tm (now.getD back 0) (line.getD (turn - back) 0)) (λ_=>eZ _ _) _ _ (qE hl _)
structure OZ(line:LN)(turn:Nat)(st:BM):Prop where
 now:∀x∈st.now,x<256
 old:∀x∈st.old,x<256
 fault:st.fault<256
 afv:st.now.length<=turn+1
 ahA:st.old.length+st.gap<=turn+2
 afw:1<=st.now.length
 akg:1<=st.old.length
 akh:1<=st.gap
 size:st.size<=turn
theorem OZ.step{st:BM}(hl:∀x∈line,x<256)(k:OZ line turn st):OZ line (turn+1) (kB line st turn):=by
 have g:=GV (FQ ((lg (vR line st.now turn)+255 - lg st.fault) % 255)) st.gap st.old (st.now++b8 (st.old.length+st.gap - st.now.length) 0) (λx E=>by show ba (bZ.mp E) (λh=>k.now x h) λh=>by rw[vh h];decide)
 obtain⟨g1,g2⟩:=g;replace g1:=ru▸iu▸g1;have k4:=k.afv;have k5:=k.ahA;have k6:=k.afw;have k7:=k.akg;have k9:=k.size
 delta kB
 split
 .show ⟨k.now,k.old,k.fault,by simp only;lia,by simp only;show tx k5,k6,k7,by simp only;lia,by simp only;lia⟩
 .split
  .show ⟨g2,k.now,MY hl,by simp only;lia,by simp only;lia,by simp only;lia,k6,by simp only;lia,by simp only;lia⟩
  .show ⟨g2,k.old,k.fault,by simp only;lia,by simp only;show tx k5,by simp only;lia,k7,by simp only;lia,by simp only;lia⟩
theorem pO.to{b b':Bool}(x:pO H U A L J G e b)(h:b=b'):pO H U A L J G e b':=h▸x
theorem W6{a b:aG}{n:Int}(B:Tp U)(ha:V H U A L J G a (aX [0]) ab)(D:V H U A L J G b (a6 n) ab)(hl: -1000<=n)(hl2:n<=1000)(hk:n.toNat=k):V H U A L J G (fh a vA b pos) (aX (b8 k 0)) fr:=by
 subst hk;show V.to (Rh B ha D Z (decide_eq_true hl) (decide_eq_true hl2)) ?_
 delta aX
 rw[KZ]
theorem acm{a b:Nat}(h:b<=1000): -1000<=ai a - ai b:=by change -1000<=(a:Int) - (b:Int);lia
theorem acn{a b:Nat}(h:a<=1000):ai a - ai b<=1000:=by lia
theorem MZ{a b:Nat}:b<=a+(b - a):=Nat.sub_le_iff_le_add'.mp (ey _)
theorem Τ{a b:Nat}(h:j<b):j+c<a+(b+c - a):=fi (EY h c) MZ
def gBM(ws:LN)(c:Nat)(kn sp rs line:LN)(st:BM):iB:=gB ws c kn sp++[(34,0,aX rs),(37,0,aX line),(38,0,aX st.now),(39,0,aX st.old),(40,0,aT st.size),(41,0,aT st.gap),(42,0,aT st.fault)]
theorem ahB{rs:LN}(hh:dh A)(hA:A.depth<1000)(B:cx U mg mb)(I:dQ mg mb)(hl:∀x∈line,x<256)(hll:line.length<=100):
 S1 H U A lI J (a9 dA 15) (gBM ws c kn sp rs line ⟨[1],[1],0,1,1⟩) (gBM ws c kn sp rs line (uA line)) ah:=by
 show du 26 (aJ line.length) (gBM ws c kn sp rs line) (kB line) (OZ line) ⟨[1],[1],0,1,1⟩
  (fR hh B I Z (ki B I Z (ar 37 Z) Z (bj hll aL)) Z (bj hll aL)) (.refl _) ⟨by decide,by decide,by decide,by decide,by decide,by decide,by decide,by decide,by decide⟩ (ak Z) (λst=>rfl) (λi turn st hn k=>?_) (λ_=>rfl)
 obtain⟨h1,h2⟩:=dR.mp hn;simp at h1 h2;subst h2;show⟨k.step hl,?_⟩;have k4:=k.afv;have bL:line.length<=1000:=bj hll aL;have bi:i+2<=101:=tx (bj h1 hll);have bN:st.now.length<=1000:=bj k4 (bj (qr bi) aL);have bP:st.old.length+st.gap<=1000:=bj k.ahA (bj bi aL);have bO:st.old.length<=1000:=bj (iY ..) bP;show SS.cons (bC 43 (aT (line.getD i 0)) (fo (ar 37 Z) (ar 26 Z) h1 bL Z) Z Z (ak Z) Z)
  (SS.cons (du 29 ((aJ (st.now.length - 1)).map (1+·)) (λoff:Nat=>gBM ws c kn sp rs line st++[(26,0,aT i),(43,0,aT off)]) (λoff back=>off ^^^ tm (st.now.getD back 0) (line.getD (i - back) 0)) (λ_ off=>off<256) (line.getD i 0)
   (OU hh B I Z (aR 1) Z (ki B I Z (ar 38 Z) Z bN) Z aL (bj bN aL)) (.refl _) (qE hl _) (ak Z) (λst=>rfl) (λj back off hj hp=>?_) (λ_=>rfl))
  (SS.cons (S1.ite (x:=decide (vR line st.now i=0)) (BB (ar 43 Z) (aR 0)) (λq=>?_) (λq=>?_)) SS.nil))
 .have D:1<=back/\back<st.now.length:=by have:=cY hj;obtain⟨m,hm,rfl⟩:=bH.mp this;have:=dm.mp hm;show⟨by lia,by show AQ this⟩
  show⟨iQ hp (eZ _ _),?_⟩;show SS.cons (bC 43 (aT (off ^^^ tm (st.now.getD back 0) (line.getD (i - back) 0))) (nu (ar 43 Z)
   (sq B hA Z (fo (ar 38 Z) (ar 29 Z) D.2 bN Z)
    (fo (ar 37 Z) (lS (ar 26 Z) (ar 29 Z) (mY (fi D.2 k4))) (j4 (tD ..) h1) bL Z) (qE k.now _) (qE hl _) Z Z)) Z Z (ak Z) Z) (SS.done ?_)
  show kr.rf (rfl) (rfl)
 .have q:=of_decide_eq_true q;have e:kB line st i={st with gap:=st.gap+1}:=by unfold kB;show(if_pos q)
  rw[e];show SS.cons (CG 41 (ai st.gap) 1 (ai (st.gap+1)) .add Z V.int Z (ak Z) Z (ak Z)) (SS.done ?_);show kr.rf (rfl) (rfl)
 .have q:=of_decide_eq_false q;have hgb:∀x∈st.now++b8 (st.old.length+st.gap - st.now.length) 0,x<256:=λx E=>by
   rcases bZ.mp E with h|h
   .show k.now x h
   .rw [vh h];decide
  generalize hF:FQ ((lg (vR line st.now i)+255 - lg st.fault) % 255)=F;have pre:∀Oo:BM,kB line st i=Oo->Oo.now=tX F st.gap st.old (st.now++b8 (st.old.length+st.gap - st.now.length) 0)->
   S1 H U A lI J (a9 (match a9 (match a9 dA 15 with|j7 _ _ b _ _=>b |_=>[]) 2 with|yt _ _ b _=>b |_=>[]) 3)
    (gBM ws c kn sp rs line st++[(26,0,aT i),(43,0,aT (vR line st.now i)),(44,0,aT F),(45,1,aX (tX F st.gap st.old (st.now++b8 (st.old.length+st.gap - st.now.length) 0)))])
    (gBM ws c kn sp rs line {Oo with now:=st.now}++[(26,0,aT i),(43,0,aT (vR line st.now i)),(44,0,aT F),(45,1,aX (tX F st.gap st.old (st.now++b8 (st.old.length+st.gap - st.now.length) 0)))]) ah->
   SS H U A lI J (match a9 (match a9 dA 15 with|j7 _ _ b _ _=>b |_=>[]) 2 with|yt _ _ b _=>b |_=>[]) (gBM ws c kn sp rs line st++[(26,0,aT i),(43,0,aT (vR line st.now i))]) (gBM ws c kn sp rs line (kB line st i)) ah:=by
   intro Oo e en aki;rw[e];show SS.cons (bC 44 (aT F) ?_ Z Z (ak Z) Z) (SS.cons (gc 45 (aX (st.now++b8 (st.old.length+st.gap - st.now.length) 0)) ?_ (jM _) Z (ak Z) Z)
    (SS.cons (du 29 (aJ st.old.length) (λg:LN=>gBM ws c kn sp rs line st++[(26,0,aT i),(43,0,aT (vR line st.now i)),(44,0,aT F),(45,1,aX g)]) (λg back=>g.set (back+st.gap) (g.getD (back+st.gap) 0 ^^^ tm F (st.old.getD back 0)))
     (λ_ g=>g.length=st.now.length+(st.old.length+st.gap - st.now.length)/\∀x∈g,x<256) _ (fR hh B I Z (ki B I Z (ar 39 Z) Z bO) Z (bj bO aL)) (.refl _) ⟨fF,hgb⟩ (ak Z) (λst=>rfl) (λj back g hj hp=>?_) (λ_=>rfl))
    (SS.cons aki (SS.cons (yF 38 45 Z Z (ak Z) Z) (SS.done ?_)))))
   .rw [<-hF];show fo (ar 54 Z) (GJ (fo (ar 53 Z) (ar 43 Z) (by show(MY (now:=st.now) (turn:=i) hl)) (by rw[tW];decide) Z)
     (fo (ar 53 Z) (ar 42 Z) (by show k.fault) (by rw[tW];decide) Z) (aR 255) aL (gw (WY _))) (by show mZ _ aL) aL Z
   .show BE B.top (ar 38 Z) (W6 (n:=ai (st.old.length+st.gap) - ai st.now.length) B.top (pB B.top (aR 0) Z) ?_ ?_ ?_ (KO ..)) (by rw[ru];show zH bN bP)
    .show lr .sub (fq (ki B I Z (ar 39 Z) Z bO) (ar 41 Z)) (ki B I Z (ar 38 Z) Z bN) Z
    .show acm bN
    .show acn bP
   .show fc hp λg1 g2=>?_;have D:back<st.old.length:=dm.mp (cY hj);show⟨⟨by simp[g1],λx E=>?_⟩,?_⟩
    .rcases ve E with h|h
     .show g2 x h
     .subst h;show iQ (qE g2 _) (eZ _ _)
    .show SS.cons (MX (ns:=g) (j:=back+st.gap) (n:=g.getD (back+st.gap) 0 ^^^ tm F (st.old.getD back 0)) 45 Z
      (nu (fo (ar 45 Z) (fq (ar 29 Z) (ar 41 Z)) (g1▸Τ D) (g1▸zH bN bP) Z)
       (sq B hA Z (ar 44 Z) (fo (ar 39 Z) (ar 29 Z) D (bj bO aL) Z) (by rw[<-hF];show CK) (qE k.old _) Z Z))
      (fq (ar 29 Z) (ar 41 Z)) (g1▸Τ D) (g1▸zH bN bP) Z) (SS.done ?_)
     show kr.rf (rfl) (rfl)
   .unfold gBM;rw[en];show kr.rf (rfl) (rfl)
  by_cases hc:2 * st.size<=i
  .have e:kB line st i=⟨tX F st.gap st.old (st.now++b8 (st.old.length+st.gap - st.now.length) 0),st.now,i+1 - st.size,1,vR line st.now i⟩:=by unfold kB;rw[if_neg q,if_pos hc,hF]
   show pre _ e Z (S1.ite (x:=N) ?_ (λ_=>?_) (λq=>nomatch q))
   .show pO.to (WX (lT (aR 2) (ar 40 Z) aL) (ar 26 Z)) (decide_eq_true hc)
   .show SS.cons (bC 40 (aT (i+1 - st.size)) (lS (fq (ar 26 Z) (aR 1)) (ar 40 Z) (qq k.size)) Z Z (ak Z) Z)
     (SS.cons (yF 39 38 Z Z (ak Z) Z) (SS.cons (yF 42 43 Z Z (ak Z) Z) (SS.cons (bC 41 (aT 1) (aR 1) Z Z (ak Z) Z) (SS.done ?_))))
    show kr.rf bG (rfl)
  .have e:kB line st i=⟨tX F st.gap st.old (st.now++b8 (st.old.length+st.gap - st.now.length) 0),st.old,st.size,st.gap+1,st.fault⟩:=by unfold kB;rw[if_neg q,if_neg hc,hF]
   show pre _ e Z (S1.ite (x:=ab) ?_ (λq=>nomatch q) (λ_=>?_))
   .show pO.to (WX (lT (aR 2) (ar 40 Z) aL) (ar 26 Z)) (decide_eq_false hc)
   .show SS.cons (CG 41 (ai st.gap) 1 (ai (st.gap+1)) .add Z V.int Z (ak Z) Z (ak Z)) (SS.done ?_);show kr.rf (rfl) (rfl)
theorem RD(h:∀x∈now,x<256)(x:Nat):km now x<256:=by
 have:∀(l:LN) (a:Nat),(∀x∈l,x<256)->a<256->l.foldl (λwhole part=>tm whole x ^^^ part) a<256:=by
  intro l;induction l with
  |nil=>intro a _ h;show h
  |cons y l ih=>intro a hl ha;show ih _ (λz hz=>hl z bw) (iQ (eZ _ _) (hl y au))
 show this now 0 h bD
theorem O0(p:Nat->Bool):∀n,(aJ n).foldl (λ(l:LN) i=>if p i=N then l++[i] else l) []=(aJ n).filter p:=by
 intro xX;induction xX with
 |zero=>show rfl
 |succ n iH=>rw[rD,qm,iH,List.filter_append];cases h:p n<;>simp[h]
def gF(ws:LN)(c:Nat)(kn sp rs now:LN)(size:Nat):iB:=gB ws c kn sp++[(34,0,aX rs),(38,0,aX now),(40,0,aT size)]
theorem ahC{rs:LN}(hh:dh A)(hA:A.depth<1000)(B:cx U mg mb)(I:dQ mg mb)(hl:ws.length<=100)(sj:sp.length=ws.length)(OY:allB sp)(hn:∀x∈now,x<256):
 S1 H U A lI J (a9 dA 17) (gF ws c kn sp rs now size++[(46,1,aX [])]) (gF ws c kn sp rs now size++[(46,1,aX (jO sp now ws.length))]) ah:=by
 show S1.to (du 4 (aJ ws.length) (λfd:LN=>gF ws c kn sp rs now size++[(46,1,aX fd)]) (λfd p=>if decide (km now (sp.getD p 0)=0)=N then fd++[p] else fd) (λi fd=>fd.length<=i/\i<=ws.length) []
  (fR hh B I Z (ki B I Z (ar 17 Z) Z au) Z au) (.refl _) ⟨ey _,fj _⟩ (aw Z) (λst=>rfl) (λi p fd FT hp=>?_) (λ_=>rfl)) ?_
 .obtain ⟨h1,h2⟩:=dR.mp FT;simp at h1 h2;show h2▸⟨⟨?_,by assumption⟩,?_⟩
  .split
   .simp;lia
   .lia
  show SS.cons (bC 36 (aT 0) (aR 0) Z Z (ak Z) Z)
   (SS.cons (du 47 now (λwhole:Nat=>gF ws c kn sp rs now size++[(46,1,aX fd),(4,0,aT i),(36,0,aT whole)]) (λwhole part=>tm whole (sp.getD i 0) ^^^ part) (λ_ whole=>whole<256) 0
    (qM 38 hh B.top Z Z) (.refl _) bD (ak Z) (λst=>rfl) (λj part whole hj YQ=>?_) (λ_=>rfl))
   (SS.cons (S1.ite (x:=decide (km now (sp.getD i 0)=0)) (BB (ar 36 Z) (aR 0)) (λq=>?_) (λq=>?_)) SS.nil))
  .show ⟨iQ (eZ _ _) (hn _ (cY hj)),?_⟩;show SS.cons (bC 36 (aT (tm whole (sp.getD i 0) ^^^ part)) (nu (sq B hA Z (ar 36 Z) (fo (ar 11 Z) (ar 4 Z) au au Z) YQ (OY _) Z Z) (ar 47 Z)) Z Z (ak Z) Z)<|SS.done<|kr.rf bG bG
  .rw [if_pos q];show SS.cons (yJ 46 i Z (ar 4 Z) Z Z au)<|SS.done<|kr.rf bG bG
  .rw [if_neg (by rw[q];decide)];show SS.done (kr.rf bG bG)
 .rw [O0 (λp=>decide (km now (sp.getD p 0)=0))];rfl
def gP(ws:LN)(c:Nat)(kn sp rs pl:LN):iB:=gB ws c kn sp++[(34,0,aX rs),(48,0,aX pl)]
theorem pX(h:∀x∈pr,x<256):∀z∈eH sp pr place,z<256:=Jw λx E y hy=>iQ (by
 rcases bZ.mp E with h' |h'
 .show h x h'
 .show bJ.mp h'▸?_;decide) (eZ _ _)
theorem lu:(eH sp pr place).length=pr.length+1:=by simp[eH]
theorem ahD{rs pl:LN}(hh:dh A)(hA:A.depth<1000)(B:cx U mg mb)(I:dQ mg mb)(OY:allB sp)(ahz:sp.length<=100)(Rn:∀x∈pl,x<sp.length)(alW:pl.length<=100):
 S1 H U A lI J (a9 dA 21) (gP ws c kn sp rs pl++[(49,0,aX [1])]) (gP ws c kn sp rs pl++[(49,0,aX (pv sp pl))]) ah:=by
 show du 4 pl (λpr:LN=>gP ws c kn sp rs pl++[(49,0,aX pr)]) (eH sp) (λi pr=>(∀x∈pr,x<256)/\pr.length=i+1/\i<=pl.length) [1]
  (qM 48 hh B.top Z Z) (.refl _) (gI aL Z (fj _)) (aw Z) (λst=>rfl) (λi place pr hn hp=>?_) (λ_=>rfl)
 show hJ hp λYR YQ hp3=>have jA:=(dR.mp hn).1;⟨⟨pX YR,by rw[lu,YQ],jA⟩,?_⟩;show SS.cons (DC (x1:=59) (x2:=57) (y:=49) (fs:=[4,11,33]) (ns:=pr++[0]) (ms:=[0]++pr) (λhere before=>here ^^^ tm (sp.getD place 0) before) B.top (.of (rfl)) Z
  (YG.zip hh B I Z (BE B.top (ar 49 Z) (pB B.top (aR 0) Z) jx) Z (BE B.top (pB B.top (aR 0) Z) (ar 49 Z) jx) Z (dS _) (dS _)) jx
  (λn FT m hm fX=>?_) (λ_=>rfl) Z Z
  (λe=>qN (by rw[e];rfl) (by delta kb;rw[e];rfl) Z (rfl))) (SS.share 49 (SS.done ?_))
 .have hm2:m<256:=by
   rcases bZ.mp hm with h|h
   .show bJ.mp h▸?_;decide
   .show YR m h
  show nu (ar 59 Z) (sq B hA Z (fo (ar 11 Z) (ar 4 Z) (Rn _ (cY hn)) au Z) (ar 57 Z) (OY _) hm2 Z Z)
 .show kr.rf bG bG
theorem ahE{rs pl:LN}(hh:dh A)(hA:A.depth<1000)(B:cx U mg mb)(I:dQ mg mb)(hpr:∀x∈pr,x<256)(W0:∀x∈rs,x<256)(alX:pl.length<=pr.length)(hrl:pl.length<=rs.length)(alP:rs.length<=100)(alQ:pr.length<=101):
 S1 H U A lI J (a9 dA 23) (gP ws c kn sp rs pl++[(49,0,aX pr),(50,1,aX [])]) (gP ws c kn sp rs pl++[(49,0,aX pr),(50,1,aX (wV pr rs pl.length))]) ah:=by
 show S1.to (du 26 (aJ pl.length) (λam:LN=>gP ws c kn sp rs pl++[(49,0,aX pr),(50,1,aX am)]) (λam turn=>am++[RC pr rs turn]) (λi am=>am.length=i/\i<=pl.length) []
  (fR hh B I Z (ki B I Z (ar 48 Z) Z au) Z au) (.refl _) ⟨rfl,fj _⟩ (ak Z) (λst=>rfl) (λi p am FT hp=>?_) (λ_=>rfl)) ?_
 .show dF (dR.mp FT) λh1 h2=>?_;simp at h1 h2;show h2▸⟨⟨by simp[hp.1],by assumption⟩,?_⟩;show SS.cons (bC 36 (aT 0) (aR 0) Z Z (ak Z) Z)
   (SS.cons (du 29 (aJ (i+1)) (λwhole:Nat=>gP ws c kn sp rs pl++[(49,0,aX pr),(50,1,aX am),(26,0,aT i),(36,0,aT whole)]) (λwhole back=>whole ^^^ tm (pr.getD back 0) (rs.getD (i - back) 0)) (λ_ whole=>whole<256) 0
    (fR hh B I Z (fq (ar 26 Z) (aR 1)) Z au) (.refl _) bD (ak Z) (λst=>rfl) (λj back whole hj YQ=>?_) (λ_=>rfl))
   (SS.cons (yJ 50 (RC pr rs i) Z (ar 36 Z) Z Z au) (SS.done (kr.rf bG bG))))
  have D:back<i+1:=dm.mp (cY hj);show⟨iQ YQ (eZ _ _),?_⟩;show SS.cons (bC 36 (aT (whole ^^^ tm (pr.getD back 0) (rs.getD (i - back) 0))) (nu (ar 36 Z)
   (sq B hA Z (fo (ar 49 Z) (ar 29 Z) au au Z)
    (fo (ar 34 Z) (lS (ar 26 Z) (ar 29 Z) (mY D)) au au Z) (qE hpr _) (qE W0 _) Z Z)) Z Z (ak Z) Z)<|SS.done<|kr.rf bG bG
 .rw [BD];rfl
def jC(sp:LN)(place:Nat)(whole other:Nat):Nat:=if other≠place/\whole≠0 then FQ ((lg whole+255 - lg (sp.getD place 0 ^^^ sp.getD other 0)) % 255) else whole
theorem BF{other:Nat}(h:whole<256):jC sp place whole other<256:=by
 delta jC
 split
 .show CK
 .show h
theorem YS{pl:LN}(h:whole<256):pA sp pl place whole<256:=by
 have:∀(l:LN) (a:Nat),a<256->l.foldl (jC sp place) a<256:=by
  intro l;induction l with
  |nil=>intro a h;show h
  |cons y l ih=>intro a ha;show ih _ (BF ha)
 show this pl whole h
def gE(ws:LN)(c:Nat)(kn sp rs pl am:LN):iB:=gP ws c kn sp rs pl++[(50,0,aX am)]
theorem ahF{rs pl am:LN}(hh:dh A)(hA:A.depth<1000)(B:cx U mg mb)(OY:allB sp)(ahz:sp.length<=100)(Rn:∀x∈pl,x<sp.length)(ham:∀x∈am,x<256)(hws:∀x∈ws,x<256)(W9:ws.length=sp.length):
 S1 H U A lI J (a9 dA 25) (gE ws c kn sp rs pl am++[(51,1,aX ws)]) (gE ws c kn sp rs pl am++[(51,1,aX (pl.foldl (mQ sp pl am) ws))]) ah:=by
 show du 4 pl (λmd:LN=>gE ws c kn sp rs pl am++[(51,1,aX md)]) (mQ sp pl am) (λ_ md=>(∀x∈md,x<256)/\md.length=sp.length) ws
  (qM 48 hh B.top Z Z) (.refl _) ⟨hws,W9⟩ (aw Z) (λst=>rfl) (λi place md hn hp=>?_) (λ_=>rfl)
 have hps:place<sp.length:=Rn _ (cY hn);obtain⟨YR,YQ⟩:=hp;have hH:=RD ham (sp.getD place 0);show⟨⟨λx E=>?_,by simp[mQ,YQ]⟩,?_⟩
 .rcases ve E with h|h
  .show YR x h
  .subst h;show iQ (qE YR _) (YS hH)
 show SS.cons (bC 36 (aT 0) (aR 0) Z Z (ak Z) Z)
  (SS.cons (du 47 am (λwhole:Nat=>gE ws c kn sp rs pl am++[(51,1,aX md),(4,0,aT place),(36,0,aT whole)]) (λwhole part=>tm whole (sp.getD place 0) ^^^ part) (λ_ whole=>whole<256) 0
   (qM 50 hh B.top Z Z) (.refl _) aL (ak Z) (λst=>rfl) (λj part whole hj hq=>?_) (λ_=>rfl))
  (SS.cons (du 52 pl (λwhole:Nat=>gE ws c kn sp rs pl am++[(51,1,aX md),(4,0,aT place),(36,0,aT whole)]) (jC sp place) (λ_ whole=>whole<256) (km am (sp.getD place 0))
   (qM 48 hh B.top Z Z) (.refl _) hH (ak Z) (λst=>rfl) (λj other whole hj hq=>?_) (λ_=>rfl))
  (SS.cons (MX (ns:=md) (j:=place) (n:=md.getD place 0 ^^^ pA sp pl place (km am (sp.getD place 0))) 51 Z
   (nu (fo (ar 51 Z) (ar 4 Z) au au Z) (ar 36 Z)) (ar 4 Z) au au Z) (SS.done ?_))))
 .have hpt:part<256:=ham _ (cY hj);show⟨iQ (eZ _ _) hpt,?_⟩;show SS.cons (bC 36 (aT (tm whole (sp.getD place 0) ^^^ part)) (nu (sq B hA Z (ar 36 Z) (fo (ar 11 Z) (ar 4 Z) au au Z) hq (OY _) Z Z) (ar 47 Z)) Z Z (ak Z) Z) (SS.done ?_);show kr.rf bG bG
 .have hot:other<sp.length:=Rn _ (cY hj);show⟨BF hq,?_⟩;show SS.cons (S1.ite (x:=decide (other≠place) && decide (whole≠0)) (vK (yH (ar 52 Z) (ar 4 Z)) (λ_=>yH (ar 36 Z) (aR 0))) (λq=>?_) (λq=>?_)) SS.nil
  .have q:other≠place/\whole≠0:=by simpa using q
   have e:jC sp place whole other=FQ ((lg whole+255 - lg (sp.getD place 0 ^^^ sp.getD other 0)) % 255):=by unfold jC;show(if_pos q)
   rw[e];show SS.cons (bC 36 (aT (FQ ((lg whole+255 - lg (sp.getD place 0 ^^^ sp.getD other 0)) % 255)))
    (fo (ar 54 Z) (GJ (fo (ar 53 Z) (ar 36 Z) (by assumption) (by rw[tW];lia) Z)
     (fo (ar 53 Z) (nu (fo (ar 11 Z) (ar 4 Z) au au Z) (fo (ar 11 Z) (ar 52 Z) au au Z))
      (by show iQ (OY _) (OY _)) (by rw[tW];lia) Z) (aR 255) aL (gw (WY _))) (by show mZ _ aL) au Z) Z Z (ak Z) Z) (SS.done ?_)
   show kr.rf bG bG
  .have q:¬(other≠place/\whole≠0):=by intro hc;have q:=(decide_eq_true hc.2)▸(decide_eq_true hc.1)▸q;ext
   have e:jC sp place whole other=whole:=by unfold jC;show(if_neg q)
   rw[e];show SS.done (kr.rf bG bG)
 .show kr.rf bG bG
def yK(ws kn:LN)(c:Nat):LN:=kn++jO (cN ws.length) (uA (kS (cN ws.length) (fU ws c) kn)).now ws.length
def vS(ws:LN)(c:Nat)(kn:LN):LN:=
 (yK ws kn c).foldl (mQ (cN ws.length) (yK ws kn c) (wV (pv (cN ws.length) (yK ws kn c)) (fU ws c) (yK ws kn c).length)) ws
theorem GX(kn:LN):∀(rs:LN),(∀x∈rs,x<256)->(∀x∈kS sp rs kn,x<256)/\(kS sp rs kn).length=rs.length - kn.length:=by
 induction kn with
 |nil=>show λrs h=>⟨h,rfl⟩
 |cons k kn iH=>intro rs h;obtain⟨h1,h2⟩:=iH (wU sp rs k) (WZ h);show⟨h1,?_⟩;change(kS sp (wU sp rs k) kn).length=_;rw[h2,CL];simp;lia
theorem afx(hl:∀x∈line,x<256):OZ line line.length (uA line):=by
 have:∀n,OZ line n ((aJ n).foldl (kB line) ⟨[1],[1],0,1,1⟩):=by
  intro n;induction n with
  |zero=>change OZ line 0 ⟨[1],[1],0,1,1⟩;show⟨by decide,by decide,Oj Z,Oj Z,Oj Z,Oj Z,Oj Z,Oj Z,Oj Z⟩
  |succ n ih=>rw[rD,qm];show ih.step hl
 show this _
theorem BG(pl:LN):(∀x∈pv sp pl,x<256)/\(pv sp pl).length=pl.length+1:=by
 delta pv
 have:∀(l pr:LN),(∀x∈pr,x<256)->(∀x∈l.foldl (eH sp) pr,x<256)/\(l.foldl (eH sp) pr).length=pr.length+l.length:=by
  intro l;induction l with
  |nil=>intro pr h;show⟨h,rfl⟩
  |cons x l ih=>show λpr h=>fc (ih (eH sp pr x) (pX h)) λh1 h2=>(⟨h1,?_⟩);change(l.foldl (eH sp) (eH sp pr x)).length=_;rw[h2,lu];simp;show yj pr.length l.length
 show fc (this pl [1] aL) λh1 h2=>(⟨h1,?_⟩);rw[h2];simp;show jI 1 pl.length
theorem Xc{rs:LN}{t:Nat}:RC pr rs t<256:=GW (λback=>tm (pr.getD back 0) (rs.getD (t - back) 0)) (λ_=>eZ _ _) _ _ aL
protected theorem S1.m{ret:Option AV}(x:S1 H U A L J st G G' ret):S1m H H U A L J st G G' ret:=x
theorem Υ:dA=[a9 dA 0,a9 dA 1,a9 dA 2,a9 dA 3,a9 dA 4,a9 dA 5,a9 dA 6,a9 dA 7,a9 dA 8,a9 dA 9,a9 dA 10,a9 dA 11,a9 dA 12,a9 dA 13,a9 dA 14,a9 dA 15,
 a9 dA 16,a9 dA 17,a9 dA 18,a9 dA 19,a9 dA 20,a9 dA 21,a9 dA 22,a9 dA 23,a9 dA 24,a9 dA 25,a9 dA 26]:=by rfl
theorem afy(hh:dh A)(hA:A.depth<1000)(B:cx U mg mb)(I:dQ mg mb)(W9:ws.length<=50)(hws:∀x∈ws,x<256)(hc:c<=50)(hkn:∀x∈kn,x<ws.length)(hkc:kn.length<=c)(qW:(jO (cN ws.length) (uA (kS (cN ws.length) (fU ws c) kn)).now ws.length).length=(uA (kS (cN ws.length) (fU ws c) kn)).size):
 SS H U A lI J [a9 dA 5,a9 dA 6,a9 dA 7,a9 dA 8,a9 dA 9,a9 dA 10,a9 dA 11,a9 dA 12,a9 dA 13,a9 dA 14,a9 dA 15,
  a9 dA 16,a9 dA 17,a9 dA 18,a9 dA 19,a9 dA 20,a9 dA 21,a9 dA 22,a9 dA 23,a9 dA 24,a9 dA 25,a9 dA 26] (gB0 ws c kn) [] (O (aX (vS ws c kn))):=by
 unfold vS yK;have hwB:allB ws:=allB_of hws;have afz:∀x∈fU ws c,x<256:=λx E=>wR (GU (c:=c) hwB) E;have hrl:(fU ws c).length=c:=by simp[fU]
 have sj:=RB ws.length;have wg:=OW ws.length;show fc (GX (sp:=cN ws.length) kn (fU ws c) afz) λhl1 hl2=>have bk:=afx hl1;have bs:=bk.size;have bn:=bk.afv;SS.cons (akc hh B I au) (SS.share 11 (SS.less (G0:=gB ws c kn (cN ws.length)) ?_ (.refl _)));show SS.cons (gc 34 (aX []) (o7 B.top fJ.nil Z Z) Z Z (ak Z) Z)<|SS.cons (akd hh B I hwB au)<|SS.cons (yF 37 34 Z Z (ak Z) Z) (SS.cons (akf hh hA B I wg au afz au (by rw[sj];show hkn)) ?_);generalize kS (cN ws.length) (fU ws c) kn=line at *;show SS.cons (gc 38 (aX [1]) (pB B.top (aR 1) Z) Z Z (ak Z) Z)<|SS.share 38<|SS.cons (gc 39 (aX [1]) (pB B.top (aR 1) Z) Z Z (ak Z) Z)<|SS.share 39<|SS.cons (bC 40 (aT 0) (aR 0) Z Z (ak Z) Z)<|SS.cons (bC 41 (aT 1) (aR 1) Z Z (ak Z) Z)<|SS.cons (bC 42 (aT 1) (aR 1) Z Z (ak Z) Z)<|SS.cons (ahB hh hA B I hl1 au)<|SS.less (G0:=gF ws c kn (cN ws.length) (fU ws c) (uA line).now (uA line).size) ?_ (kr.rf bG bG);show SS.cons (gc 46 (aX []) (o7 B.top fJ.nil Z Z) Z Z (ak Z) Z) (SS.cons (ahC hh hA B I au sj wg bk.now) ?_);have hfl:(jO (cN ws.length) (uA line).now ws.length).length<=ws.length:=by show bj (AF _ _) ?_;simp
 show SS.cons (S1.ite (x:=ab) (pO.to (yH (ki B I Z (ar 46 Z) Z au) (ar 40 Z)) (by rw[qW];simp)) (λq=>II q) (λ_=>SS.nil)) (SS.cons (gc 48 (aX (kn++jO (cN ws.length) (uA line).now ws.length)) (BE B.top (ar 24 Z) (ar 46 Z) au) (jM _) Z (ak Z) Z) (SS.share 48 ?_));have Rn:∀x∈kn++jO (cN ws.length) (uA line).now ws.length,x<(cN ws.length).length:=λx E=>by rw[sj];show ba (bZ.mp E) (λh=>hkn x h) λh=>dm.mp (gq.mp h).1
 have akj:(kn++jO (cN ws.length) (uA line).now ws.length).length<=c:=by rw[iu,qW];lia
 generalize kn++jO (cN ws.length) (uA line).now ws.length=pl at *;show fc (BG (sp:=cN ws.length) pl) λakk akl=>(SS.less (G0:=gP ws c kn (cN ws.length) (fU ws c) pl) ?_ (by show kr.rf bG bG));show SS.cons (gc 49 (aX [1]) (pB B.top (aR 1) Z) Z Z (ak Z) Z)<|SS.share 49<|SS.cons (ahD hh hA B I wg au Rn au)<|SS.cons (gc 50 (aX []) (o7 B.top fJ.nil Z Z) Z Z (ak Z) Z)<|SS.cons (ahE hh hA B I akk afz (by show Nat.le.intro (id (lh akl))) (by show le_of_le_of_eq akj (id (lh hrl))) au au)<|SS.share 50<|SS.less (G0:=gE ws c kn (cN ws.length) (fU ws c) pl (wV (pv (cN ws.length) pl) (fU ws c) pl.length)) ?_ (kr.rf bG bG);show SS.cons (gc 51 (aX ws) (YL B I Z (ar 17 Z) Z (hO ws) (eW jx)) (jM _) Z (ak Z) Z) (SS.cons (ahF hh hA B wg au Rn (λx E=>?_) hws sj.symm) ?_)
 .obtain ⟨t,_,rfl⟩:=bH.mp E;show Xc
 show tU (S1.ret (ar 51 Z))
theorem Pa{P:af}(hh:dh A)(hA:A.depth<1000)(B:cx U mg mb)(I:dQ mg mb)(W9:ws.length<=50)(hws:∀x∈ws,x<256)(hc:c<=50)(hkn:∀x∈kn,x<ws.length)(hkc:kn.length<=c)(qW:(jO (cN ws.length) (uA (kS (cN ws.length) (fU ws c) kn)).now ws.length).length=(uA (kS (cN ws.length) (fU ws c) kn)).size)(hq:J.qual=ι)(pj:J.code=R cM)(Pb:cM∉bX)(oz:U.IsCode cM P #[])(vP:U.TableAt cM P #[])(hP:P∈bX)(pn:P∉H)(kz:P∈τ')(nO:∀b∈H,b∈τ'):
 pP H τ' U A lI J dA (gM0 ws c kn) [] (O (aX (vS ws c kn))):=by
 rw[Υ];show pP.cons (S1.m (aj8 B)) (pP.cons (S1.m (aj9 B)) (pP.cons (S1.m aka) (pP.cons (S1.m (akb hh B I)) (pP.share 54 (pP.share 53 (pP.cons
  (Rt (f:=0) (x:=33) (y:=54) (z:=53) B (λJ=>rfl) Z Z (uj Z) (uj Z) (uj Z) Z Z Z Z aL aL aL Z (by show hq.symm▸?_;rfl) pj Pb oz vP hP pn kz nO) (pP.less (G0:=gB0 ws c kn) ?_ ?_)))))))
 .show (afy hh hA B I W9 hws hc hkn hkc qW).m
 .show kr.rf bG bG
def ahG:cg:=dP 27
def cP:List cg:=bg ahG
def iG:dw:=bc ahG
theorem Pc(ns:List Int):iT (ns.map a6)=N:=Gm (nZ ns)
theorem Ph(ns:List Int):we (kR ns)=N:=by
 induction ns with
 |nil=>rfl
 |cons n ns ih=>assumption
theorem BH{a i:aG}{ns:List Int}(ha:V H U A L J G a (kR ns) ab)(hi:V H U A L J G i (aT k) ab)(hk:k<ns.length)(hl:ns.length<=1000)(sj:kg i=ab):V H U A L J G (dk a i pos) (a6 (ns.getD k 0)) fr:=by show wI ha hi ?_ sj (λ_=>rfl);show(?_:cond (dY k 1000000) ((ns.map a6)[k]?) eX=_);have:dY k 1000000=N:=eW au;show this.symm▸cZ.symm▸(dE hk).symm▸dc.symm▸(dE hk).symm▸?_;rfl
theorem GZ{a i:aG}{ns:List Int}(ha:V H U A L J G a (kR ns) ab)(hi:V H U A L J G i (a6 (AE 0)) ab)(hk:0<ns.length)(sj:kg i=ab):V H U A L J G (dk a i pos) (a6 (ns.getD (ns.length - 1) 0)) fr:=by
 show wI ha hi ?_ sj (λ_=>rfl);show(?_:cond (dY 1 (ns.map a6).length && dY 0 1000000) ((ns.map a6)[(ns.map a6).length - 1]?) eX=_);have hk':ns.length - 1<ns.length:=by lia
 rw[(eW jx),ig,cZ,dE hk',dc,dE hk'];rfl
noncomputable def D0(x:Int)(m:Nat):Nat:=(x.fmod m).toNat
theorem tY{a b:aG}{x:Int}{m:Nat}(ha:V H U A L J G a (a6 x) ab)(D:V H U A L J G b (aT m) ab)(h:0<m):
 V H U A L J G (fh a Bb b pos) (aT (D0 x m)) fr:=lr .fmod ha D (by
  show(?_:cond (decide (0<ai m)) _ _=_);rw[decide_eq_true (by have h1:ai m=(m:Int):=rfl;show AD.mpr h)];change O (x.fmod (m:Int))=O (ai (x.fmod m).toNat);congr 1;have:0<=x.fmod (m:Int):=by rw[EE _ fF];show Int.emod_nonneg _ (Int.natCast_ne_zero_iff_pos.mpr h)
  show(Ue this).symm)
theorem rV(x:Int){m:Nat}(h:0<m):D0 x m<m:=by
 delta D0
 rw[EE _ fF];show(Int.toNat_lt' h).mpr (Int.emod_lt_of_pos x (b:=(m:Int)) (Int.natCast_pos.mpr h))
theorem M0{a b:aG}{x:Int}{m:Nat}(ha:V H U A L J G a (a6 x) ab)(D:V H U A L J G b (aT m) ab)(h:0<m)(h2:m<1000000):
 V H U A L J G (fh a FD b pos) (a6 (x.fdiv m)) fr:=lr .fdiv ha D (by show(?_:cond (o4 (ai m) && decide (0<ai m)) _ _=_);have:o4 (ai m)=N:=decide_eq_true (by have h1:(ai m).natAbs=m:=rfl;lia);rw[this,decide_eq_true (by have h1:ai m=(m:Int):=rfl;show AD.mpr h)];rfl)
theorem vT{a b:aG}{x y:Int}(ha:V H U A L J G a (a6 x) ab)(D:V H U A L J G b (a6 y) ab):
 V H U A L J G (fh a rS b pos) (a6 (x+y)) fr:=lr .add ha D Z
theorem aco{a b:aG}(ha:V H U A L J G a (aT x) ab)(D:V H U A L J G b (aT y) ab)(E:x<1000000)(hy:y<=1000):
 V H U A L J G (fh a Mi b pos) (aT (x ^ y)) fr:=lr .pow ha D (by show(?_:cond (o4 (ai x) && decide (0<=ai y) && decide (ai y<=1000)) _ _=_);have:o4 (ai x)=N:=decide_eq_true (by have h1:(ai x).natAbs=x:=rfl;lia);rw[this,decide_eq_true (by have h1:ai y=(y:Int):=rfl;simp),decide_eq_true (by have h1:ai y=(y:Int):=rfl;show Ms h1 Z hy)];show congrArg O (Int.natCast_pow x y).symm)
theorem BJ{a:aG}{ns:List Int}(B:cx U mg mb)(I:dQ mg mb)(kQ:Gi L "len")(ha:V H U A L J G a (kR ns) ab)(dH:cH a=ab)(hl:ns.length<=1000):V H U A L J G (bx (aq (aB "len") np) [a] [] pos) (aT ns.length) fr:=by have:=V.len (fr:=fr) (np:=np) (pos:=pos) B I kQ ha dH (eW jx);rw[ig]at this;show this
noncomputable def lU(script:List Int):List Int:=if 0<script.length then script.take 20 else [0]
theorem Jx(script:List Int):0<(lU script).length/\(lU script).length<=20:=by
 delta lU
 split
 .rw [AM];lia
 .decide
def iR(aM:List Int):Nat:=D0 (aM.getD 0 0) 2
def wW(aM:List Int)(c:Nat):LN:=(aJ (10 - c)).map λp=>D0 (aM.getD (p % aM.length) 0+(53 * p:Nat)) 256
noncomputable def n9(wd:Nat):LN:=(aJ 8).map λp=>wd / 2 ^ (7 - p) % 2
def dJ(data:LN):LN:=data.foldl (λl wd=>l++n9 wd) []
theorem pY(data:LN):(dJ data).length=8 * data.length:=by
 delta dJ
 have:∀(d:LN) (l:LN),(d.foldl (λl wd=>l++n9 wd) l).length=l.length+8 * d.length:=by
  intro d;induction d with
  |nil=>intro l;rfl
  |cons x d ih=>intro l;simp only[iw];rw[ih];simp[n9];lia
 rw[this];show Nat.add_eq_right.mpr Z
def gL1(L aM:List Int)(c:Nat)(data:LN):iB:=[(0,0,kR L),(1,0,kR aM),(2,0,aT (iR aM)),(3,0,aT c),(5,0,aX data)]
theorem Xd{wd p:Nat}{p4 p5 p6 p7:cJ}{k3:Nat}(h1:V H U A L J G e1 (aT wd) ab)(h2:V H U A L J G e2 (aT p) ab)(hp:p<8):
 V H U A L J G (fh (fh e1 FD (fh (fL (jK 2) k1 p1) Mi (fh (fL (jK 7) k2 p2) FE e2 p3) p4) p5) Bb (fL (jK 2) k3 p6) p7) (aT (wd / 2 ^ (7 - p) % 2)) fr:=by
 have akm:0<2 ^ (7 - p)/\2 ^ (7 - p)<=128:=⟨Nat.pow_pos aL,by have:2 ^ (7 - p)<=2 ^ 7:=Nat.pow_le_pow_right bD au;show this⟩
 show yG (MW h1 (aco (aR 2) (lS (aR 7) h2 au) bD au) akm.1 au) (aR 2) bD
theorem ahH(hh:dh A)(B:cx U mg mb)(I:dQ mg mb)(sj:script.length<=63){ret:Option AV}(hr:pP H τ' U A iG J rest (gL1 script (lU script) (5+iR (lU script)) (wW (lU script) (5+iR (lU script)))++[(6,1,aX (dJ (wW (lU script) (5+iR (lU script)))))]) G' ret):
 pP H τ' U A iG J ([a9 cP 0,a9 cP 1,a9 cP 2,a9 cP 3,a9 cP 4,a9 cP 5]++rest) [(0,0,kR script)] G' ret:=by
 show fc (Jx script) λD9 FT=>have hlv:iR (lU script)<2:=rV _ bD;pP.cons (S1.m (gc 1 (kR (lU script)) (wH (decide (0<script.length)) (pO.to (vQ (BJ B I Z (ar 0 Z) Z au) (aR 0)) Z) (λq=>?_) (λq=>?_)) (Ph _) Z (aw Z) Z)) (pP.share 1 ?_)
 .have e:lU script=script.take 20:=(if_pos (of_decide_eq_true q));rw[e];show V.to (OE (k:=20) B.top (ar 0 Z) (aR 20) (Pc _) (eW jx)) ?_
  delta kR
  rw[AO]
 .have e:lU script=[0]:=(if_neg (of_decide_eq_false q));rw[e];show o7 B.top (fJ.cons V.int fJ.nil Z) Z Z
 generalize lU script=aM at *;show pP.cons (S1.m (bC 2 (aT (iR aM)) (tY (BH (ar 1 Z) (aR 0) D9 au Z) (aR 2) bD) Z Z (ak Z) Z)) (pP.cons (S1.m (bC 3 (aT (5+iR aM)) (fq (aR 5) (ar 2 Z)) Z Z (ak Z) Z)) ?_);have YT:(wW aM (5+iR aM)).length<=5:=by simp[wW];lia
 show pP.cons (S1.m (S1.to (G1:=[(0,0,kR script),(1,0,kR aM),(2,0,aT (iR aM)),(3,0,aT (5+iR aM)),(5,1,aX (wW aM (5+iR aM)))]) (DB (x:=4) (y:=5) (fs:=[1]) (ns:=aJ (10 - (5+iR aM))) (λ_=>N) (λp=>D0 (aM.getD (p % aM.length) 0+(53 * p:Nat)) 256) B.top (.of (rfl)) Z
  (zp.itc (fR hh B I Z (lS (aR 10) (ar 3 Z) au) Z au)) jx (λn hn fX=>rfl) (λn hn _ fX=>?_) (λ_=>rfl) Z Z
  (λe=>qN (by rw[e];rfl) (by delta kb;rw[e];rfl) Z (rfl))) ?_)) (pP.share 5 ?_)
 .show tY (vT (BH (ar 1 Z) (yG (ar 4 Z) (BJ B I Z (ar 1 Z) Z au) D9) (mZ _ D9) au Z)
   (lT (aR 53) (ar 4 Z) bD)) (aR 256) bD
 .rw [Ux.mpr (λa a_1=>bi_tt.mpr trivial)];rfl
 show pP.cons (S1.m (gc 6 (aX []) (o7 B.top fJ.nil Z Z) Z Z (ak Z) Z)) ?_;generalize wW aM (5+iR aM)=data at *;show pP.cons (S1.m (du 7 data (λl:LN=>gL1 script aM (5+iR aM) data++[(6,1,aX l)]) (λl wd=>l++n9 wd) (λi l=>l.length=8 * i/\i<=data.length) []
  (qM 5 hh B.top Z Z) (.refl _) ⟨rfl,fj _⟩ (aw Z) (λst=>rfl) (λi wd l hn hp=>?_) (λ_=>rfl))) hr
 show⟨⟨by simp[n9,hp.1];show lh (LF 8 i),(dR.mp hn).1⟩,?_⟩;show SS.cons (S1.to (G1:=jk (jk (gL1 script aM (5+iR aM) data++[(6,1,aX l)]) 7 0 (aT wd)) 6 1 (aX (l++n9 wd))) (aca (x:=6) (K:=l.map aT) (ys:=(n9 wd).map aT) Z (hO _) ?_ (hO _) (by simp[n9];lia) Z) (by delta aX;rw[jH])) (SS.done (kr.rf bG bG));show V.to (GO 4 [7] (aJ 8) (λ_=>N) (λp=>wd / 2 ^ (7 - p) % 2) B.top (.of (rfl)) Z
  (zp.itc (fR hh B I Z (aR 8) Z bD)) bw (λn hn fX=>rfl) (λn hn _ fX=>Xd (ar 7 Z) (ar 4 Z) (dm.mp hn)) (λ_=>rfl)) Z
def zq(b9:List (LN)):AV:=bS (b9.map aX)
def tZ(p:Nat×Nat):AV:=qV (ai p.1,ai p.2)
def mK(ps:List (Nat×Nat)):AV:=bS (ps.map tZ)
theorem BK(ps:List (Nat×Nat)):iT (ps.map tZ)=N:=by
 induction ps with
 |nil=>rfl
 |cons p ps ih=>assumption
theorem wi(ps:List (Nat×Nat)):ps.map tZ=(ps.map λp=>(ai p.1,ai p.2)).map qV:=qo.symm
theorem Pj{a b c:aG}{op op':COp}{x y z:Int}(ha:V H U A L J G a (a6 x) ab)(D:V H U A L J G b (a6 y) ab)(hc:V H U A L J G c (a6 z) ab):
 pO H U A L J G (jw a [op.ast,op'.ast] [b,c] pos) (gT op x y && gT op' y z):=λs r=>by
 show isTrue_chain ((ha s r).CA λt ax e1=>test_link ((D ax (r.ext e1.ext)).tR λu aP F2 e2 V2 _=>?_)) (by simpa[lastMarks] using si op' c);obtain⟨t',rfl⟩:=V2.toInt;show Bv.Cx λv dp e3 hv=>?_;subst e3 hv;show mf ?_;have Jr:=e1.trans e2;cases hq:gT op x y with
 |false=>show⟨Jr,rfl⟩
 |true=>show test_last ((hc dp (r.ext Jr.ext)).tR λu fy F4 e4 V4 _=>?_);obtain⟨t'',rfl⟩:=V4.toInt;show Bv.Cx λv ib e5 hv=>?_;subst e5 hv;show mf ⟨Jr.trans e4,rfl⟩
theorem BL(x:V H U A L J G e av ab)(h:flat av=N):V H U A L J G e av fr:=λs r=>
 (x s r).tR λv Y F a aO _=>(o6 F a aO (λ_=>by show(cW.1 _ _ _ h aO).symm▸?_;show⟨λ_ D=>(kM D),rQ⟩))
theorem G4(B:Tp U)(h1:V H U A L J G e1 (aT i) ab)(h2:V H U A L J G e2 (aT j) ab)(s1:cH e1=ab)(s2:cH e2=ab):
 V H U A L J G (fM [e1,e2] k pos) (tZ (i,j)) fr:=uo B (fJ.cons h1 (fJ.cons h2 fJ.nil s2) s1) Z Z
theorem acp{q:Nat×Nat}{ps:List (Nat×Nat)}(E:ck G x=O (1,mK ps))(he:V H U A L J G e (tZ q) ab)(dH:cH e=ab)(lB:(apos.endLine==cpos.line)=N)(hl:ps.length<=1000):
 S1 H U A L J (qy (bx (gZ (aq (NM x) p) (aB "append") apos) [e] [] cpos) pos) G (jk G x 1 (mK (ps++[q]))) ah:=λD s W r=>by
 have:=S1.app (p:=p) (apos:=apos) (cpos:=cpos) (pos:=pos) E (BK ps) he Z dH lB (eW jx) (by delta iJ;show r.scope.symm▸r.kind.symm▸?_;rfl) D s W r;rw[(by simp:ps.map tZ++[tZ q]=(ps++[q]).map tZ)]at this;show this
def gL2(Jk aM:List Int)(c:Nat)(data bits:LN)(mv:aa)(pic:List (LN)):iB:=[(0,0,kR Jk),(1,0,kR aM),(2,0,aT (iR aM)),(3,0,aT c),(5,0,aX data),(6,0,aX bits),(8,0,aH mv),(10,1,zq pic)]
noncomputable def iF(right step:Nat):Nat:=if right % 4=0 then 12 - step else step
noncomputable def G6(i:Nat)(ps:List (Nat×Nat))(j:Nat):List (Nat×Nat):=if 0<i/\(8<i\/8<j) then ps++[(i,j)] else ps
def G7(right:Nat)(ps:List (Nat×Nat))(step:Nat):List (Nat×Nat):=[right,right - 1].foldl (G6 (iF right step)) ps
def je:List (Nat×Nat):=[12,10,8,6,4,2].foldl (λps right=>(aJ 13).foldl (G7 right) ps) []
theorem CM(i j:Nat)(ps:List (Nat×Nat)):(G6 i ps j).length<=ps.length+1:=by
 delta G6
 split
 .simp
 .lia
theorem Jy{step:Nat}{ps:List (Nat×Nat)}:(G7 right ps step).length<=ps.length+2:=by
 delta G7
 have h1:=CM (iF right step) right ps;have h2:=CM (iF right step) (right - 1) (G6 (iF right step) ps right);simp only[iw,Lf];lia
theorem BN{right:Nat}:∀(l:LN) (ps:List (Nat×Nat)),(l.foldl (G7 right) ps).length<=ps.length+2 * l.length
 | [],ps=>by simp
 |x::l,ps=>by have h1:=BN (right:=right) l (G7 right ps x);have h2:=Jy (right:=right) (step:=x) (ps:=ps);simp only[iw,oO];lia
theorem acq{mv:aa}(hh:dh A)(B:cx U mg mb)(I:dQ mg mb):
 S1 H U A iG J (a9 cP 12) (gL2 Jk aM c data bits mv pic++[(11,1,mK [])]) (gL2 Jk aM c data bits mv pic++[(11,1,mK je)]) ah:=by
 show du 12 [12,10,8,6,4,2] (λps:List (Nat×Nat)=>gL2 Jk aM c data bits mv pic++[(11,1,mK ps)]) (λps right=>(aJ 13).foldl (G7 right) ps) (λi ps=>ps.length<=26 * i/\i<=6) []
  (GN hh B.top (o7 B.top (fJ.cons (aR 12) (fJ.cons (aR 10) (fJ.cons (aR 8) (fJ.cons (aR 6) (fJ.cons (aR 4) (fJ.cons (aR 2) fJ.nil Z) Z) Z) Z) Z) Z) Z Z))
  (.refl _) ⟨ey _,fj _⟩ (ak Z) (λst=>rfl) (λi right ps hn hp=>?_) (λ_=>rfl)
 have hi:i<6:=(dR.mp hn).1;have akn:2<=right/\right<=12:=r26 _ (cY hn);show⟨⟨?_,by lia⟩,?_⟩
 .have:=BN (right:=right) (aJ 13) ps;simp at this;lia
 show SS.cons (du 13 (aJ 13) (λps:List (Nat×Nat)=>gL2 Jk aM c data bits mv pic++[(11,1,mK ps),(12,0,aT right)]) (G7 right) (λk qs=>qs.length<=26 * i+2 * k/\k<=13) ps
  (fR hh B I Z (aR 13) Z bD) (.refl _) ⟨by lia,fj _⟩ (ak Z) (λst=>rfl) (λk step qs FT hq=>?_) (λ_=>rfl)) (SS.done (kr.rf bG bG))
 obtain⟨h1,h2⟩:=dR.mp FT;simp at h1 h2;subst h2;show⟨⟨by have:=Jy (right:=right) (step:=k) (ps:=qs);lia,by lia⟩,?_⟩;show SS.cons (bC 14 (aT (iF right k)) (wH (decide (right % 4=0)) (BB (yG (ar 12 Z) (aR 4) bD) (aR 0)) (λq=>?_) (λq=>?_)) Z Z (ak Z) Z)
  (SS.cons (du 15 [right,right - 1] (λps:List (Nat×Nat)=>gL2 Jk aM c data bits mv pic++[(11,1,mK ps),(12,0,aT right),(13,0,aT k),(14,0,aT (iF right k))]) (G6 (iF right k)) (λm rs=>rs.length<=26 * i+2 * k+m) qs
   (GN hh B.top (o7 B.top (fJ.cons (ar 12 Z) (fJ.cons (lS (ar 12 Z) (aR 1) au) fJ.nil Z) Z) Z Z)) (.refl _) au (ak Z) (λst=>rfl) (λm j rs hn3 hr=>?_) (λ_=>rfl)) (SS.done (kr.rf bG bG)))
 .have q:=of_decide_eq_true q;have e:iF right k=12 - k:=(if_pos q);rw[e];show lS (aR 12) (ar 13 Z) au
 .have q:=of_decide_eq_false q;have e:iF right k=k:=(if_neg q);rw[e];show BL (ar 13 Z) Z
 .have hm:m<2:=(dR.mp hn3).1;show⟨by have:=CM (iF right k) j rs;lia,?_⟩;show SS.cons (S1.ite (x:=decide (0<iF right k) && (decide (8<iF right k) ||decide (8<j))) (vK (vQ (ar 14 Z) (aR 0)) (λ_=>Rb (vQ (ar 14 Z) (aR 8)) (λ_=>vQ (ar 15 Z) (aR 8)))) (λq=>?_) (λq=>?_)) SS.nil
  .have q:0<iF right k/\(8<iF right k\/8<j):=by simpa using q
   have e:G6 (iF right k) rs j=rs++[(iF right k,j)]:=(if_pos q);rw[e];show SS.cons (acp (x:=11) (q:=(iF right k,j)) Z (G4 B.top (ar 14 Z) (ar 15 Z) Z Z) Z Z au)<|SS.done<|kr.rf bG bG
  .have q:¬(0<iF right k/\(8<iF right k\/8<j)):=by
    intro hc;have:(decide (0<iF right k) && (decide (8<iF right k) ||decide (8<j)))=N:=by simpa using hc
    have q:=this.symm.trans q;ext
   have e:G6 (iF right k) rs j=rs:=(if_neg q);rw[e];show SS.done (kr.rf bG bG)
noncomputable def Jz(sent:LN)(start:Nat):Nat:=((sent.drop start).take 8).foldl (λwd b=>2 * wd+b) 0
def zS(sent:LN):LN:=(aJ 10).map λk=>Jz sent (8 * k)
def vU(aM:List Int):Nat:=1+D0 (aM.getD (aM.length - 1) 0) 12
def l7(aM:List Int):Nat:=1+D0 (aM.getD (aM.length / 2) 0) 12
def qP(aM:List Int):Nat:=1+D0 ((aM.getD (aM.length - 1) 0).fdiv (12:Nat)) 3
def kT(aM:List Int):Nat:=1+D0 ((aM.getD 0 0).fdiv (2:Nat)) 6
def acr(T cA br Wd:Int):List Int->Bool
 | [i,j]=>(gT .le T i && gT .lt i (T+cA)) && (gT .le br j && gT .lt j (br+Wd))
 |_=>ab
def acs(T cA br Wd:Int)(place:Nat):Nat:=((((je.drop (8 * place)).take 8).map λp=>[ai p.1,ai p.2]).filter (acr T cA br Wd)).length
def CN(T cA br Wd:Int):LN:=(aJ 10).filter λplace=>decide (0<acs T cA br Wd place)
def G8(aM:List Int):Nat->LN
 | 0=>aJ 10
 |i+1=>CN (vU aM) ((kT aM:Int) - i) (l7 aM) (qP aM)
theorem YU{x:aV}(B:Tp U)(ha:V H U A L J G (aq x np) (aX ns) ab)(hh:V H U A L J G hi (aT k) ab)(hl:ns.length<=1000):V H U A L J G (dk (aq x np) (mq eX (O hi) eX p) pos) (aX (ns.take k)) fr:=by
 show V.to (OE B ha hh (hO ns) (eW jx)) ?_
 delta aX
 rw[AO]
theorem Χ{x:aV}{m:Nat}(B:Tp U)(ha:V H U A L J G (aq x np) (aX ns) ab)(hh:V H U A L J G lo (aT k) ab)(hj:V H U A L J G hi (aT m) ab)(hl:ns.length<=1000)(Q0:k<=m)(hm:m<=ns.length):V H U A L J G (dk (aq x np) (mq (O lo) (O hi) eX p) pos) (aX ((ns.drop k).take (m - k))) fr:=by
 show V.to (WJ B ha hh hj (hO ns) (eW jx) (eW Q0) (eW jx)) ?_
 delta aX
 rw[AO,EV]
theorem Pl{x:aV}{ps:List (Nat×Nat)}{m:Nat}(B:Tp U)(ha:V H U A L J G (aq x np) (mK ps) ab)(hh:V H U A L J G lo (aT k) ab)(hj:V H U A L J G hi (aT m) ab)(hl:ps.length<=1000)(Q0:k<=m)(hm:m<=ps.length):V H U A L J G (dk (aq x np) (mq (O lo) (O hi) eX p) pos) (mK ((ps.drop k).take (m - k))) fr:=by
 show V.to (WJ B ha hh hj (BK ps) (eW jx) (eW Q0) (eW jx)) ?_
 delta mK
 rw[AO,EV]
def gL3(Jk aM:List Int)(c:Nat)(data bits:LN)(pic:List (LN))(sent:LN):iB:=
 [(0,0,kR Jk),(1,0,kR aM),(2,0,aT (iR aM)),(3,0,aT c),(5,0,aX data),(6,0,aX bits),(10,1,zq pic),(11,0,mK je),(16,0,aX sent)]
theorem ako(hA:ν 10 A)(B:cx U mg mb)(I:dQ mg mb)(Xe:sent.length=80)(hbl:bits.length<=80)(ht:sent.take bits.length=bits):
 S1 H U A iG J (a9 cP 14) (gL3 Jk aM c data bits pic sent) (gL3 Jk aM c data bits pic sent) ah:=by
 show S1.ite (x:=ab) (pO.to (Rb (yH (ki B I Z (ar 16 Z) Z au) (aR 80)) (λ_=>ab2 hA bD (YU B.top (ar 16 Z) (ki B I Z (ar 6 Z) Z au) au) (ar 6 Z) (dS _) (dS _))) ?_) (λq=>II q) (λ_=>SS.nil);rw[ht,Xe];simp
theorem akp(hh:dh A)(B:cx U mg mb)(I:dQ mg mb)(Xe:sent.length=80):
 S1 H U A iG J (a9 cP 16) (gL3 Jk aM c data bits pic sent++[(17,1,aX [])]) (gL3 Jk aM c data bits pic sent++[(17,1,aX (zS sent))]) ah:=by
 show S1.to (du 18 ((aJ 10).map (8 * ·)) (λl:LN=>gL3 Jk aM c data bits pic sent++[(17,1,aX l)]) (λl st=>l++[Jz sent st]) (λi l=>l.length=i/\i<=10) []
  (zp.eq (GA (k:=0) (m:=80) (c:=8) (n:=10) hh B I Z V.int Z V.int Z V.int Z aL (rfl) (rfl) (rfl)) (rfl)) (.refl _) ⟨rfl,fj _⟩ (ak Z) (λst=>rfl) (λi st l hn hp=>?_) (λ_=>rfl)) ?_
 .have hi:i<10/\st=8 * i:=by show dF (dR.mp hn) λh1 h2=>?_;simp at h1 h2;show⟨h1,h2.symm⟩
  obtain⟨hi,rfl⟩:=hi;show⟨⟨by simp[hp.1],by assumption⟩,?_⟩;show SS.cons (bC 7 (aT 0) (aR 0) Z Z (aw Z) Z)
   (SS.cons (du 19 ((sent.drop (8 * i)).take (8 * i+8 - 8 * i)) (λwd:Nat=>gL3 Jk aM c data bits pic sent++[(17,1,aX l),(18,0,aT (8 * i)),(7,0,aT wd)]) (λwd b=>2 * wd+b) (λ_ _=>True) 0
    (GN hh B.top (Χ B.top (ar 16 Z) (ar 18 Z) (fq (ar 18 Z) (aR 8)) au au au)) (.refl _) trivial (ak Z) (λst=>rfl) (λm b wd hm _=>⟨trivial,?_⟩) (λ_=>rfl))
   (SS.cons (yJ 17 (Jz sent (8 * i)) Z (V.to (ar 7 Z) (by rw[(by lia:8 * i+8 - 8 * i=8)];rfl)) Z Z au) (SS.done (kr.rf bG bG))))
  show SS.cons (bC 7 (aT (2 * wd+b)) (fq (lT (aR 2) (ar 7 Z) bD) (ar 19 Z)) Z Z (aw Z) Z)<|SS.done<|kr.rf bG bG
 .rw [Lg,BD];rfl
def Na(aM:List Int)(c:Nat)(pic:List (LN))(words:LN)(kn:LN)(high:Int):iB:=
 [(1,0,kR aM),(3,0,aT c),(10,1,zq pic),(11,0,mK je),(17,0,aX words),(20,0,aT (vU aM)),(21,0,aT (l7 aM)),(22,0,aT (qP aM)),(23,0,a6 high),(24,0,aX kn)]
theorem pZ:je.length=80:=by rfl
theorem acu{high:Int}{e0:cJ}(hh:dh A)(B:cx U mg mb)(I:dQ mg mb):
 S1 H U A iG J (a9 (match a9 cP 22 with|Ve _ b _ _=>b |_=>[]) 0) (Na aM c pic words kn high) (jk (Na aM c pic words kn high) 24 1 (aX (CN (vU aM) high (l7 aM) (qP aM)))) ah:=by
 show GP (x:=24) (av:=aX (CN (vU aM) high (l7 aM) (qP aM))) ?_ (jM _) Z (aw Z) (λe=>GQ (by delta kb;rw[e];rfl));show V.to (GO 4 [11,23,21,20,22] (aJ 10) (λplace=>decide (0<acs (vU aM) high (l7 aM) (qP aM) place)) (λp=>p) B.top (.of (rfl)) Z
  (zp.itc (fR hh B I Z (aR 10) Z bD)) au (λn hn fX=>?_) (λn hn _ fX=>BL (ar 4 Z) Z) (λ_=>rfl)) (by rw[UJ];rfl)
 have hn:=dm.mp hn;show vQ (V.to (BJ (ns:=((((((je.drop (8 * n)).take (8 * n+8 - 8 * n)).map λp=>(ai p.1,ai p.2)).map λp=>[p.1,p.2]).filter (acr (vU aM) high (l7 aM) (qP aM))).map λ_=>(1:Int))) B I Z ?_ Z ?_) ?_) (aR 0)
 .show V.comp (K:=[14,15]) (fs:=[23,21,20,22]) (acr (vU aM) high (l7 aM) (qP aM)) (λ_=>1) B.top (.of (rfl)) Z
   (OJ (x:=14) (y:=15) hh B.top (Pl (k:=8 * n) (m:=8 * n+8) B.top (ar 11 Z) (lT (aR 8) (ar 4 Z) aL) (fq (lT (aR 8) (ar 4 Z) aL) (aR 8)) bD au (by rw[pZ];lia)) (wi _))
   (λks MT=>?_) jx (λks MT ahI=>bf (bH.mp MT) λp _ dX=>dX▸vK (Pj (op:=.le) (op':=.lt) (ar 20 Z) (ar 14 Z) (vT (ar 20 Z) (ar 23 Z)))
    (λ_=>Pj (op:=.le) (op':=.lt) (ar 21 Z) (ar 15 Z) (vT (ar 21 Z) (ar 22 Z)))) (λks MT _ ahI=>V.int) (λ_=>rfl)
  show bf (bH.mp MT) λp _ dX=>dX▸?_;rfl
 .simp;show bj (AF _ _) ?_;simp;lia
 .rw [ig,(by lia:8 * n+8 - 8 * n=8),qo];rfl
noncomputable def rW(f:Nat->Nat)(c:Nat):Nat->Nat->Nat
 |i,0=>i
 |i,k+1=>if f i<=c then i else rW f c (i+1) k
set_option tactic.hygienic true in
theorem Nb{f:Nat->Nat}(k:Nat):∀(i:Nat),f (i+k)<=c->f (rW f c i k)<=c/\∀j,i<=j->j<rW f c i k->c<f j:=by
 induction k with
 |zero=>intro i h;show⟨h,λj h1 h2=>absurd (j4 h1 h2) (gv _)⟩
 |succ k iH=>
  intro i h;show(?_:f (if f i<=c then i else rW f c (i+1) k)<=c/\∀j,i<=j->j<(if f i<=c then i else rW f c (i+1) k)->c<f j);by_cases hq:f i<=c
  .rw [if_pos hq];show⟨hq,λj h1 h2=>absurd (j4 h1 h2) (gv _)⟩
  .rw [if_neg hq];show fc (iH (i+1) (by rw[show i+1+k=i+(k+1) by lia];show h)) λh1 h2=>(⟨h1,λj h3 h4=>?_⟩);show if hj:j=i then hj▸UW hq else h2 j au h4
def uv(aM:List Int)(c:Nat):Nat:=rW (λi=>(G8 aM i).length) c 0 (kT aM+1)
def yL(aM:List Int)(c:Nat):LN:=G8 aM (uv aM c)
def RE(aM:List Int)(c:Nat):Int:=(kT aM:Int) - (uv aM c:Nat)+1
theorem Ψ(aM:List Int):G8 aM (0+(kT aM+1))=[]:=by
 rw[qt];change CN (vU aM) ((kT aM:Int) - (kT aM:Nat)) (l7 aM) (qP aM)=[];rw[(by lia:(kT aM:Int) - (kT aM:Nat)=0)]
 delta CN
 rw[Us];intro p _;have:acs (vU aM) 0 (l7 aM) (qP aM) p=0:=by
  delta acs
  rw[rq,Us];intro ks MT;show bf (bH.mp MT) λq _ dX=>dX▸?_;dsimp only[acr,gT,Int.add_zero];intro hc;simp only[qw,decide_eq_true_eq]at hc;lia
 show this.symm▸ne_true_of_eq_false Z
theorem zT(aM:List Int)(c:Nat):(yL aM c).length<=c/\∀j,j<uv aM c->c<(G8 aM j).length:=fc (Nb (f:=λi=>(G8 aM i).length) (c:=c) (kT aM+1) 0 (by change(G8 aM (0+(kT aM+1))).length<=c;rw[Ψ];simp)) λh1 h2=>⟨h1,λj hj=>h2 j (fj _) hj⟩
theorem Pm(aM:List Int):∀i,(G8 aM i).length<=10
 | 0=>by ext
 |i+1=>by change(CN _ _ _ _).length<=10;show bj (AF _ _) ?_;lia
noncomputable def pC(pic:List (LN))(i j v:Nat):List (LN):=pic.set i ((pic.getD i []).set j v)
def Sq(pic:List (LN)):Prop:=pic.length=13/\∀i,i<13->(pic.getD i []).length=13
theorem t9{v:Nat}(h:Sq pic):Sq (pC pic i j v):=by
 show⟨by simp[pC,h.1],λk hk=>?_⟩;have h2:=h.2 k hk
 delta pC
 by_cases e:i=k
 .subst e;have:i<pic.length:=h.1.symm▸hk;simp[this]at h2 ⊢;show h2
 .simp [e];show h2
theorem kD{l:List α}{d:α}(h:i<l.length):l[i]? =O (l.getD i d):=by rw[dc,dE h];rfl
theorem S1.pC{i j:aG}{ni nj v:Nat}{p'':cJ}(E:ck G x=O (1,zq pic))(hq:Sq pic)(he:V H U A L J G e (aT v) ab)(hi:V H U A L J G i (aT ni) ab)(sj:kg i=ab)(hj:V H U A L J G j (aT nj) ab)(hni:ni<13)(hnj:nj<13)(hs:fz e (O (dk (dk (aq (NM x) p) i p'') j p')) pos.line J=pure ab):
 S1 H U A L J (ez [dk (dk (aq (NM x) p) i p'') j p'] e pos) G (jk G x 1 (zq (Lake.pC pic ni nj v))) ah:=by
 have hl:=hq.2 ni hni;have key:=Κ (p:=p) (p':=p') (p'':=p'') (pos:=pos) (row:=(pic.getD ni []).map aT) E (by rw[cZ,kD (d:=[]) (hq.1▸hni)];rfl) (hO _) he (CJ v) hi sj (eW au) hj (eW (by rw[ig];show le_of_le_of_eq hnj (id (lh hl)))) (eW (by rw[ig];lia)) hs
 have e:(pic.map aX).set ni (bS (((pic.getD ni []).map aT).set nj (aT v)))=(Lake.pC pic ni nj v).map aX:=by
  delta Lake.pC
  rw[Lh];congr 1
  delta aX
  rw[Lh]
 rw[e]at key;show key
theorem JA{a i:aG}(ha:V H U A L J G a (zq pic) ab)(hi:V H U A L J G i (aT k) ab)(hk:k<pic.length)(hl:pic.length<=1000)(sj:kg i=ab):V H U A L J G (dk a i pos) (aX (pic.getD k [])) ab:=by show wI ha hi ?_ sj (λq=>II q);show(?_:cond (dY k 1000000) ((pic.map aX)[k]?) eX=_);have:dY k 1000000=N:=eW au;show this.symm▸cZ.symm▸(kD (d:=[]) hk).symm▸?_;rfl
theorem RF{a i:aG}{ps:List (Nat×Nat)}(ha:V H U A L J G a (mK ps) ab)(hi:V H U A L J G i (aT k) ab)(hk:k<ps.length)(hl:ps.length<=1000)(sj:kg i=ab):V H U A L J G (dk a i pos) (tZ (ps.getD k (0,0))) fr:=by show wI ha hi ?_ sj (λ_=>rfl);show(?_:cond (dY k 1000000) ((ps.map tZ)[k]?) eX=_);have:dY k 1000000=N:=eW au;show this.symm▸cZ.symm▸(kD (d:=(0,0)) hk).symm▸?_;rfl
theorem acv(hh:dh A)(B:cx U mg mb)(I:dQ mg mb):
 S1 H U A iG J (a9 cP 22) (Na aM c pic words (aJ 10) (kT aM)) (Na aM c pic words (yL aM c) ((kT aM:Int) - (uv aM c:Nat))) ah:=by
 show fc (zT aM c) λt1 t2=>(YK (uv aM c) (λi=>Na aM c pic words (G8 aM i) ((kT aM:Int) - (i:Nat))) ?_ (λi hi=>⟨?_,?_⟩) ?_)
 .have e:(kT aM:Int) - ((0:Nat):Int)=kT aM:=by simp
  show .refl _
 .have h10:=Pm aM i;show pO.to (vQ (ki B I Z (ar 24 Z) Z au) (ar 3 Z)) (decide_eq_true (t2 i hi))
 .show SS.cons (acu hh B I (e0:=⟨0,0,0,0⟩)) (SS.share 24 (SS.cons (CG 23 ((kT aM:Int) - (i:Nat)) 1 ((kT aM:Int) - (i:Nat) - 1) .sub Z V.int Z (aw (ak Z)) Z (aw Z)) (SS.done ?_)));rw[(by lia:(kT aM:Int) - ((i+1:Nat):Int)=(kT aM:Int) - (i:Nat) - 1)];show kr.rf (rfl) (rfl)
 .have h10:=Pm aM (uv aM c);show pO.to (vQ (ki B I Z (ar 24 Z) Z au) (ar 3 Z)) (decide_eq_false (j5.mpr t1))
theorem akq{ret:Option AV}(hh:dh A)(B:cx U mg mb)(I:dQ mg mb)(D9:0<aM.length)(FT:aM.length<=20)(hr:pP H τ' U A iG J rest (Na aM c pic words (yL aM c) (RE aM c)) G' ret):
 pP H τ' U A iG J ([a9 cP 17,a9 cP 18,a9 cP 19,a9 cP 20,a9 cP 21,a9 cP 22,a9 cP 23]++rest) (gL3 Jk aM c data bits pic sent++[(17,0,aX words)]) G' ret:=by
 show pP.cons (S1.m (bC 20 (aT (vU aM)) (fq (aR 1) (tY (GZ (ar 1 Z) (V.to (MM V.int) Z) D9 Z) (aR 12) aL)) Z Z (aw Z) Z)) (pP.cons (S1.m (bC 21 (aT (l7 aM)) (fq (aR 1) (tY (BH (ar 1 Z) (MW (BJ B I Z (ar 1 Z) Z au) (aR 2) aL aL) au au Z) (aR 12) aL)) Z Z (aw Z) Z)) ?_);show pP.cons (S1.m (bC 22 (aT (qP aM)) (fq (aR 1) (tY (M0 (GZ (ar 1 Z) (V.to (MM V.int) Z) D9 Z) (aR 12) aL aL) (aR 3) aL)) Z Z (aw Z) Z)) (pP.cons (S1.m (bC 23 (aT (kT aM)) (fq (aR 1) (tY (M0 (BH (ar 1 Z) (aR 0) D9 au Z) (aR 2) aL aL) (aR 6) aL)) Z Z (aw Z) Z)) ?_);show pP.cons (S1.m (gc 24 (aX (aJ 10)) (V.to (MU (k:=10) hh B I Z Z (aR 10) Z (dN Z)) (rfl)) (jM _) Z (aw Z) Z)) (pP.share 24 ?_);show pP.less (G0:=Na aM c pic words (aJ 10) (kT aM)) ?_ (kr.rf (rfl) (rfl));show pP.cons (S1.m (acv hh B I)) (pP.cons (S1.m (CG 23 ((kT aM:Int) - (uv aM c:Nat)) 1 (RE aM c) .add Z V.int Z (ak Z) Z (aw Z))) hr)
noncomputable def RG(x y:Int):Int:=if y<x then y else x
def uH(T cA:Int):Nat:=(RG 13 (T+cA) - T).toNat
def BO(left kj:Nat)(pic:List (LN))(i:Nat):List (LN):=((aJ kj).map (left+·)).foldl (λpic j=>pC pic i j 1) pic
def zU(aM:List Int)(c:Nat)(pic:List (LN)):List (LN):=
 ((aJ (uH (vU aM) (RE aM c))).map (vU aM+·)).foldl (BO (l7 aM) (uH (l7 aM) (qP aM))) pic
noncomputable def BQ(kn:LN):LN:=(aJ 10).filter λn=> !((kn.map ai).any (· ==ai n))
noncomputable def iV(pic:List (LN))(p:Nat×Nat):Nat:=(pic.getD p.1 []).getD p.2 0
def qR(place amount:Nat)(pic:List (LN))(back:Nat):List (LN):=
 pC pic (je.getD (8 * place+back) (0,0)).1 (je.getD (8 * place+back) (0,0)).2 (iV pic (je.getD (8 * place+back) (0,0)) ^^^ (amount / 2 ^ (7 - back) % 2))
def JB(place amount:Nat)(pic:List (LN)):List (LN):=(aJ 8).foldl (qR place amount) pic
noncomputable def yM(aM:List Int)(turn:Nat):Int:=aM.getD ((turn+1) % aM.length) 0
def lx(aM:List Int)(free:LN)(turn:Nat):Nat:=D0 ((yM aM turn).fdiv (2:Nat)+(3 * turn:Nat)) free.length
def ua(aM:List Int)(turn:Nat):Nat:=1+D0 (yM aM turn+(29 * turn:Nat)) 255
def pD(aM:List Int)(st:LN×List (LN))(turn:Nat):LN×List (LN):=
 (st.1.eraseIdx (lx aM st.1 turn),JB (st.1.getD (lx aM st.1 turn) 0) (ua aM turn) st.2)
def G9(pic:List (LN))(place:Nat):Nat:=((je.drop (8 * place)).take 8).foldl (λwd p=>2 * wd+iV pic p) 0
theorem DE{left kj:Nat}(h:Sq pic):Sq (BO left kj pic i):=by
 have:∀(l:LN) (pic:List (LN)),Sq pic->Sq (l.foldl (λpic j=>pC pic i j 1) pic):=by
  intro l;induction l with
  |nil=>intro pic h;show h
  |cons x l ih=>intro pic h;show ih _ (t9 h)
 show this _ _ h
theorem Pn:∀k,k<80->(je.getD k (0,0)).1<13/\(je.getD k (0,0)).2<13:=by decide
theorem Po{amount:Nat}(h:Sq pic):Sq (JB place amount pic):=by
 have:∀(l:LN) (pic:List (LN)),Sq pic->Sq (l.foldl (qR place amount) pic):=by
  intro l;induction l with
  |nil=>intro pic h;show h
  |cons x l ih=>intro pic h;show ih _ (t9 h)
 show this _ _ h
theorem BR{a:Nat}{b:Int}{np' p13:cJ}(hA:ν k A)(B:cx U mg mb)(I:dQ mg mb)(kQ:Gi L "range")(afo:Gi L "min")(h1:V H U A L J G e1 (aT a) ab)(s1:cH e1=ab)(h2:V H U A L J G e2 (a6 ((a:Int)+b)) ab)(s2:cH e2=ab)(ha:a<=100)(D: -1000<=b):
 zp H U A L J G (bx (aq (aB "range") np) [e1,bx (aq (aB "min") np') [fL (jK 13) k0 p13,e2] [] Cu] [] pos) (((aJ (uH a b)).map (a+·)).map ai):=by
 have hm:RG 13 ((a:Int)+b)<=13/\ -1000<=RG 13 ((a:Int)+b):=by delta RG;split<;>lia
 show zp.eq (zP (m:=RG 13 ((a:Int)+b)) hA.hd B I kQ h1 s1 (ab3 hA B I afo V.int h2 Z s2) Z au fF au au) ?_;rw[qo];apply AI;intro i _;show(?_:(a:Int)+(i:Int) * 1=((a+i:Nat):Int));simp
theorem Ω(aM:List Int)(c:Nat): -1000<=RE aM c/\RE aM c<=1000:=by
 have h1:kT aM<=6:=by have:=rV ((aM.getD 0 0).fdiv (2:Nat)) (m:=6) bD;show AU.mpr this
 have h2:uv aM c<=kT aM+1:=by
  delta uv
  have:∀(f:Nat->Nat) (c k i:Nat),rW f c i k<=i+k:=by
   intro f c k;induction k with
   |zero=>intro i;unfold rW;lia
   |succ k ih=>
    intro i;unfold rW;split
    .lia
    .have:=ih (i+1);lia
  have:=this (λi=>(G8 aM i).length) c (kT aM+1) 0;lia
 delta RE
 lia
theorem akr(hA:ν 10 A)(B:cx U mg mb)(I:dQ mg mb)(hq:Sq pic):
 S1 H U A iG J (a9 cP 24) (Na aM c pic words kn (RE aM c)) (Na aM c (zU aM c pic) words kn (RE aM c)) ah:=by
 show fc (Ω aM c) λhb1 hb2=>?_;have ht:vU aM<=12:=by have:=rV (aM.getD (aM.length - 1) 0) (m:=12) aL;show AU.mpr this
 have hl:l7 aM<=12:=by have:=rV (aM.getD (aM.length / 2) 0) (m:=12) aL;show AU.mpr this
 have hw:qP aM<=3:=by have:=rV ((aM.getD (aM.length - 1) 0).fdiv (12:Nat)) (m:=3) bD;show AU.mpr this
 have ahJ:∀(a:Nat) (b:Int) (x:Nat),x∈(aJ (uH a b)).map (a+·)->x<13:=λa b x E=>by show bf (bH.mp E) λm hm dX=>dX▸?_;have hm:=dm.mp hm;unfold uH RG at hm;split at hm<;>lia
 show du 14 ((aJ (uH (vU aM) (RE aM c))).map (vU aM+·)) (λpic:List (LN)=>Na aM c pic words kn (RE aM c)) (BO (l7 aM) (uH (l7 aM) (qP aM))) (λ_ pic=>Sq pic) pic
  (BR hA B I Z Z (ar 20 Z) Z (vT (ar 20 Z) (ar 23 Z)) Z au hb1) (.refl _) hq (ak Z) (λst=>rfl) (λm i pic hn hq=>?_) (λ_=>rfl)
 show⟨DE hq,?_⟩;show SS.cons (du 15 ((aJ (uH (l7 aM) (qP aM))).map (l7 aM+·)) (λpic:List (LN)=>Na aM c pic words kn (RE aM c)++[(14,0,aT i)]) (λpic j=>pC pic i j 1) (λ_ pic=>Sq pic) pic
  (BR hA B I Z Z (ar 21 Z) Z (vT (ar 21 Z) (ar 22 Z)) Z au fF) (.refl _) hq (ak Z) (λst=>rfl) (λm2 j alY FT hq2=>⟨t9 hq2,SS.cons (S1.pC (x:=10) (ni:=i) (nj:=j) (v:=1) Z hq2 (aR 1) (ar 14 Z) Z (ar 15 Z) (ahJ _ _ i (cY hn)) (ahJ _ _ j (cY FT)) Z)<|SS.done<|kr.rf bG bG⟩) (λ_=>rfl))<|SS.done<|kr.rf bG bG
theorem aks{hi:Int}(hh:dh A)(B:cx U mg mb)(I:dQ mg mb):
 S1 H U A iG J (a9 cP 25) (Na aM c pic words kn hi) (Na aM c pic words kn hi++[(25,1,aX (BQ kn))]) ah:=by
 show S1.to (DB (x:=4) (y:=25) (fs:=[24]) (ns:=aJ 10) (λn=> !((kn.map ai).any (· ==ai n))) (λn=>n) B.top (.of (rfl)) Z
  (zp.itc (fR hh B I Z (aR 10) Z bD)) bw (λn hn fX=>?_) (λn hn _ fX=>BL (ar 4 Z) Z) (λ_=>rfl) Z Z
  (λe=>qN (by rw[e];rfl) (by delta kb;rw[e];rfl) Z (rfl))) (by rw[UJ];rfl)
 show pO.WK (ar 4 Z) (ar 24 Z) (dS kn)
theorem YV(f:α->β)(l:List α):∀(i:Nat),(l.map f).eraseIdx i=(l.eraseIdx i).map f:=by
 induction l with
 |nil=>intro _;rfl
 |cons x l iH=>
  intro yY;cases yY with
  |zero=>rfl
  |succ i=>simp[iH i]
theorem acw{i:aG}(E:ck G x=O (1,aX ns))(hi:V H U A L J G i (aT j) ab)(hj:j<ns.length)(hl:ns.length<=1000)(qK:y≠x)(dH:cH i=ab)(lB:(apos.endLine==cpos.line)=N)(hsy:bT G y=N)(hy:Hx L y):
 S1 H U A L J (ez [aq (NM y) p'] (bx (gZ (aq (NM x) p) (aB "pop") apos) [i] [] cpos) pos) G (jk (jk G x 1 (aX (ns.eraseIdx j))) y 0 (aT (ns.getD j 0))) ah:=by
 have key:=ab8 (p:=p) (p':=p') (apos:=apos) (cpos:=cpos) (pos:=pos) (av:=aT (ns.getD j 0)) E (hO ns) hi (by rw[cZ,kD (d:=0) hj];rfl) (eW jx) qK dH lB hsy hy;rw[YV]at key;show key
theorem Pp{ps:List (Nat×Nat)}(Γ:σ->iB)(upd:σ->Nat×Nat->σ)(P:Nat->σ->Prop)(s0:σ)(hh:dh A)(B:Tp U)(he:V H U A L J G iter (mK ps) N)(h0:kr (Γ s0) G)(hp0:P 0 s0)(E:∀z∈[x,y],Hx L z)(dH:∀st,∀z∈[x,y],bT (Γ st) z=N)(step:∀i p st,ps[i]? =O p->P i st->P (i+1) (upd st p)/\SS H U A L J body (jk (jk (Γ st) x 0 (aT p.1)) y 0 (aT p.2)) (Γ (upd st p)) ah)(hs:Fs iter J):
 S1 H U A L J (j7 (fM [aq (NM x) px,aq (NM y) py] k0 pt) iter body [] pos) G (Γ (ps.foldl upd s0)) ah:=by
 have key:=acf (px:=px) (py:=py) (pt:=pt) (k0:=k0) (pos:=pos) (body:=body) (x:=x) (y:=y) (λi=>Γ ((ps.take i).foldl upd s0)) hh B he (wi ps) h0 E (λi _=>dH _) (λi n hn=>?_) hs
 .rw [ig,sY]at key;show key
 .rw [cZ]at hn;show bf (jb.mp hn) λm hm e=>A3 _ _ hm▸e▸(step i m _ hm (aeJ hp0 (λi n s a b=>(step i n s a b).1) i (gw (dR.mp hm).1))).2
theorem akt{free:LN}{hi:Int}(hh:dh A)(B:cx U mg mb)(I:dQ mg mb)(D9:0<aM.length)(FT:aM.length<=20)(hq:Sq pic)(hkc:kn.length<=c)(hc:c<=10)(s':(c - kn.length) / 2<=free.length)(ahK:free.length<=10)(hfb:∀x∈free,x<10):
 S1 H U A iG J (a9 cP 26) (Na aM c pic words kn hi++[(25,1,aX free)])
  (Na aM c ((aJ ((c - kn.length) / 2)).foldl (pD aM) (free,pic)).2 words kn hi++[(25,1,aX ((aJ ((c - kn.length) / 2)).foldl (pD aM) (free,pic)).1)]) ah:=by
 show du 26 (aJ ((c - kn.length) / 2)) (λst:LN×List (LN)=>Na aM c st.2 words kn hi++[(25,1,aX st.1)]) (pD aM) (λi st=>st.1.length=free.length - i/\Sq st.2/\(∀x∈st.1,x<10)/\i<=(c - kn.length) / 2) (free,pic)
  (fR hh B I Z (MW (lS (ar 3 Z) (ki B I Z (ar 24 Z) Z au) hkc) (aR 2) aL aL) Z au) (.refl _) (rT Z hq hfb (fj _)) (ak Z) (λst=>rfl) (λi turn st hn hp=>?_) (λ_=>rfl)
 show dF (dR.mp hn) λh1 h2=>?_;simp at h1 h2;show h2▸?_;obtain⟨fr,pc⟩:=st;show iL hp λp1 p2 p3 p4=>?_;simp only at p1 p2 p3;have hfl:0<fr.length:=by lia
 have ϊ:lx aM fr i<fr.length:=rV _ hfl;have Rn:fr.getD (lx aM fr i) 0<10:=p3 _ (strs_getD_mem ϊ);show⟨(rT ?_ (Po p2) (λx E=>p3 x (Uq E)) (by assumption)),?_⟩
 .change (fr.eraseIdx (lx aM fr i)).length=_;rw[Uu,if_pos ϊ];lia
 generalize hpp:fr.getD (lx aM fr i) 0=place at *;show SS.cons (bC 27 (a6 (yM aM i)) (BH (ar 1 Z) (yG (fq (ar 26 Z) (aR 1)) (BJ B I Z (ar 1 Z) Z au) D9) (mZ _ D9) au Z) Z Z (ak Z) Z)
  (SS.cons (S1.to (G1:=Na aM c pc words kn hi++[(25,1,aX (fr.eraseIdx (lx aM fr i))),(26,0,aT i),(27,0,a6 (yM aM i)),(4,0,aT place)]) (acw (x:=25) (y:=4) (ns:=fr) (j:=lx aM fr i) Z
   (tY (vT (M0 (ar 27 Z) (aR 2) aL aL) (lT (aR 3) (ar 26 Z) bD)) (ki B I Z (ar 25 Z) Z au) hfl) ϊ au (uj Z) Z Z Z (ak Z)) (by rw[hpp];rfl))
  (SS.cons (bC 28 (aT (ua aM i)) (fq (aR 1) (tY (vT (ar 27 Z) (lT (aR 29) (ar 26 Z) bD)) (aR 255) bD)) Z Z (ak Z) Z)
  (SS.cons (du 29 (aJ 8) (λpc2:List (LN)=>Na aM c pc2 words kn hi++[(25,1,aX (fr.eraseIdx (lx aM fr i))),(26,0,aT i),(27,0,a6 (yM aM i)),(4,0,aT place),(28,0,aT (ua aM i))]) (qR place (ua aM i)) (λ_ pc2=>Sq pc2) pc
   (fR hh B I Z (aR 8) Z bD) (.refl _) p2 (ak Z) (λst=>rfl) (λk back pc2 hk hq2=>?_) (λ_=>rfl)) (SS.done ?_))))
 .have hb8:back<8:=dm.mp (cY hk);have ahL:8 * place+back<80:=by lia
  obtain⟨s1,s2⟩:=Pn _ ahL;show⟨t9 hq2,?_⟩;show SS.cons (S1.to (G1:=Na aM c pc2 words kn hi++[(25,1,aX (fr.eraseIdx (lx aM fr i))),(26,0,aT i),(27,0,a6 (yM aM i)),(4,0,aT place),(28,0,aT (ua aM i)),(29,0,aT back),(14,0,aT (je.getD (8 * place+back) (0,0)).1),(15,0,aT (je.getD (8 * place+back) (0,0)).2)])
   (WU (x:=14) (y:=15) (p:=(ai (je.getD (8 * place+back) (0,0)).1,ai (je.getD (8 * place+back) (0,0)).2)) hh
    (RF (ar 11 Z) (fq (lT (aR 8) (ar 4 Z) bD) (ar 29 Z)) (ahL) bD Z)
    aL (λz hz=>by simp at hz;rcases hz with rfl|rfl<;>rfl) Z Z) Z)
   <|SS.cons (S1.pC (x:=10) (pic:=pc2) (v:=iV pc2 (je.getD (8 * place+back) (0,0)) ^^^ (ua aM i / 2 ^ (7 - back) % 2)) Z hq2
    (nu (fo (JA (ar 10 Z) (ar 14 Z) (by rw[hq2.1];show s1) (by rw[hq2.1];decide) Z) (ar 15 Z) (by rw[hq2.2 _ s1];show s2) (by rw[hq2.2 _ s1];decide) Z)
     (Xd (ar 28 Z) (ar 29 Z) hb8)) (ar 14 Z) Z (ar 15 Z) s1 s2 Z)<|SS.done<|kr.rf bG bG
 .delta pD
  rw[hpp];show kr.rf bG bG
def sJ(aM:List Int)(c:Nat)(pic:List (LN)):List (LN):=
 ((aJ ((c - (yL aM c).length) / 2)).foldl (pD aM) (BQ (yL aM c),zU aM c pic)).2
def oh(pic:List (LN)):LN:=(aJ 10).map (G9 pic)
theorem CO(h:Sq pic):Sq (zU aM c pic):=by
 have:∀(l:LN) (pic:List (LN)),Sq pic->Sq (l.foldl (BO (l7 aM) (uH (l7 aM) (qP aM))) pic):=by
  intro l;induction l with
  |nil=>intro pic h;show h
  |cons x l ih=>intro pic h;show ih _ (DE h)
 show this _ _ h
theorem acx(l:LN):∀(st:LN×List (LN)),Sq st.2->Sq (l.foldl (pD aM) st).2:=by
 induction l with
 |nil=>intro _ h;show h
 |cons x l iH=>intro st h;show iH (pD aM st x) (Po h)
theorem acy(h:Sq pic):Sq (sJ aM c pic):=acx _ _ (CO h)
theorem Xf(aM:List Int):∀i,∀x∈G8 aM i,x<10:=by
 intro xX;induction xX with
 |zero=>intro x h;show dm.mp h
 |succ i iH=>intro x h;show dm.mp (gq.mp h).1
def gL6(c:Nat)(pic:List (LN))(words kn:LN):iB:=[(3,0,aT c),(10,1,zq pic),(11,0,mK je),(17,0,aX words),(24,0,aX kn)]
theorem aku(hh:dh A)(B:cx U mg mb)(I:dQ mg mb)(hq:Sq pic):
 S1 H U A iG J (a9 cP 28) (gL6 c pic words kn++[(30,1,aX [])]) (gL6 c pic words kn++[(30,1,aX (oh pic))]) ah:=by
 show S1.to (du 4 (aJ 10) (λl:LN=>gL6 c pic words kn++[(30,1,aX l)]) (λl p=>l++[G9 pic p]) (λi l=>l.length=i/\i<=10) []
  (fR hh B I Z (aR 10) Z bD) (.refl _) ⟨rfl,fj _⟩ (ak Z) (λst=>rfl) (λi p l hn hp=>?_) (λ_=>rfl)) ?_
 .show dF (dR.mp hn) λh1 h2=>?_;simp at h1 h2;subst h2;show⟨⟨by simp[hp.1],by assumption⟩,?_⟩;show SS.cons (bC 7 (aT 0) (aR 0) Z Z (aw Z) Z)
   (SS.cons (Pp (x:=14) (y:=15) (ps:=(je.drop (8 * i)).take (8 * i+8 - 8 * i)) (λwd:Nat=>gL6 c pic words kn++[(30,1,aX l),(4,0,aT i),(7,0,aT wd)]) (λwd p=>2 * wd+iV pic p) (λ_ _=>True) 0 hh B.top
    (Pl (k:=8 * i) (m:=8 * i+8) B.top (ar 11 Z) (lT (aR 8) (ar 4 Z) aL) (fq (lT (aR 8) (ar 4 Z) aL) (aR 8)) bD au (by rw[pZ];lia))
    (.refl _) trivial aL (λst z hz=>by simp at hz;rcases hz with rfl|rfl<;>rfl) (λk q wd hk _=>⟨trivial,?_⟩) (λ_=>rfl))
   (SS.cons (yJ 30 (G9 pic i) Z (V.to (ar 7 Z) (by rw[(by lia:8 * i+8 - 8 * i=8)];rfl)) Z Z au) (SS.done (kr.rf bG bG))))
  have acz:q.1<13/\q.2<13:=by have hm:q∈je:=ry (AH (cY hk));show dF (KW.mp hm) λm hm=>?_;have:=Pn m ((dR.mp hm).1);have this:=hm▸dc▸this;show this
  show SS.cons (bC 7 (aT (2 * wd+iV pic q)) (fq (lT (aR 2) (ar 7 Z) bD)
   (fo (JA (ar 10 Z) (ar 14 Z) (hq.1▸acz.1) (by show hq.1.symm▸?_;decide) Z) (ar 15 Z) ((hq.2 _ acz.1)▸acz.2) (by show(hq.2 _ acz.1).symm▸?_;decide) Z)) Z Z (aw Z) Z) (SS.done ?_)
  show kr.rf bG bG
 .rw [BD];rfl
theorem acA{a b:aG}{ns ms:List Int}(hA:ν k A)(hk:4<=k)(nO:∀b∈H,b∈τ')(ha:EVm H τ' U A L J G a (bS K) ab)(D:V τ' U A L J G b (bS ys) ab)(h1:jd K=O ns)(h2:jd ys=O ms):EVm H τ' U A L J G (jw a [Be] [b] pos) (eY (decide (ns=ms))) fr:=λs r=>by show wpAny_Compare1 ((ha s r).tR λv ax F1 e1 V1 _=>(D ax ((r.up nO).ext e1.ext)).tR λu aP F2 e2 V2 _=>?_) (si .eq b);show T.Dt (Gn hA hk (V1.ext e2.ext) V2 h1 h2).1 (o6 [] (e1.trans e2) (.ofBool _) d9)
def MFn(U:aQ)(mg:aV->Option aa)(a:af)(fd:cq)(cM:af):Prop:=
 mg (aB "_law_mended")=O (R a)/\
 FnAt U a fd/\
 fd.params=fu θ/\
 fd.body=lj dA/\
 fd.scope=lI/\
 fd.closure=[]/\
 fd.globals=ef/\
 fd.builtins=fY/\
 fd.defaults=aA/\
 fd.qualname=aB "_law_mended" /\
 fd.code=R cM/\
 cM∉bX/\
 U.IsCode cM 2007 #[]/\
 U.TableAt cM 2007 #[]
theorem Pq(fd:cq)(hp:fd.params=fu θ)(hd:fd.defaults=aA)(vs:List aa)(hl:vs.length=[17,3,24].length):dy fd ⟨vs,[]⟩=pure (([17,3,24].map NM).zip vs):=by
 apply abX hl;intro a b c
 delta dy
 show hp.symm▸hd.symm▸?_;rfl
theorem YW{k3:Nat}{x2 x3:Nat}(hA:ν 10 A)(B:cx U mg mb)(I:dQ mg mb)(M:MFn U mg a fd cM)(kQ:Gi L "_law_mended")(hx1:ck G x1=O (k1,aX ws))(hx2:ck G x2=O (k2,aT c))(hx3:ck G x3=O (k3,aX kn))(W9:ws.length<=50)(hws:∀x∈ws,x<256)(hc:c<=50)(hkn:∀x∈kn,x<ws.length)(hkc:kn.length<=c)(qW:(jO (cN ws.length) (uA (kS (cN ws.length) (fU ws c) kn)).now ws.length).length=(uA (kS (cN ws.length) (fU ws c) kn)).size)(pn:2007∉H)(kz:2007∈τ')(nO:∀b∈H,b∈τ'):
 EVm H τ' U A L J G (bx (aq (aB "_law_mended") np) [aq (NM x1) p1,aq (NM x2) p2,aq (NM x3) p3] [] pos) (aX (vS ws c kn)) ab:=by
 show dU M λM1 M2 M3 M4 M5 M6 M7 afA=>jc afA λM8 M9 M10 M11 ahM=>hJ ahM λM12 M13 M14=>?_;have hd:=hA.depth;show Rp (K:=[17,3,24]) (avs:=[aX ws,aT c,aX kn]) (G':=[]) (fd:=fd) (body:=dA) B M1 kQ (rfl) M2 M4 M6 (by rw[M5];rfl) (by rw[M5];rfl) (λvs hl=>Pq fd M3 M9 vs hl) (by rw[M5];rfl) M7 M8 aL Z
  (by show M5.symm▸?_;decide) (Lj hd) (fJ.cons (ar x1 hx1) (fJ.cons (ar x2 hx2) (fJ.cons (ar x3 hx3) fJ.nil Z) Z) Z) Z (λbr=>?_) (λq=>II q) nO
 show M5.symm▸Pa (cM:=cM) (P:=2007) hA.hd ?_ B I W9 hws hc hkn hkc qW ?_ M11 M12 M13 M14 (nme Z) pn kz nO
 .change A.depth+1<1000;lia
 .change fd.qualname++ ".<locals>." =ι;show M10.symm▸?_;rfl
def ϋ(aM:List Int)(c:Nat)(pic:List (LN))(sent:LN):Bool:=decide ((vS (oh (sJ aM c pic)) c (yL aM c)).map ai=(zS sent).map ai)
theorem afB(hA:ν 10 A)(B:cx U mg mb)(I:dQ mg mb)(M:MFn U mg a fd cM)(D9:0<aM.length)(FT:aM.length<=20)(hc:c<=10)(Xe:sent.length=80)(hbl:bits.length<=80)(ht:sent.take bits.length=bits)(hq:Sq pic)(s':(c - (yL aM c).length) / 2<=(BQ (yL aM c)).length)(wg:∀x∈oh (sJ aM c pic),x<256)(qW:(jO (cN 10) (uA (kS (cN 10) (fU (oh (sJ aM c pic)) c) (yL aM c))).now 10).length=(uA (kS (cN 10) (fU (oh (sJ aM c pic)) c) (yL aM c))).size)(pn:2007∉H)(kz:2007∈τ')(nO:∀b∈H,b∈τ'):
 pP H τ' U A iG J [a9 cP 14,a9 cP 15,a9 cP 16,a9 cP 17,a9 cP 18,a9 cP 19,a9 cP 20,a9 cP 21,a9 cP 22,a9 cP 23,a9 cP 24,a9 cP 25,a9 cP 26,a9 cP 27,a9 cP 28,a9 cP 29]
  (gL3 Jk aM c data bits pic sent) [] (O (eY (ϋ aM c pic sent))):=by
 have hh:=hA.hd;have sj:(oh (sJ aM c pic)).length=10:=by rfl
 have hkl:=(zT aM c).1;have ahK:(BQ (yL aM c)).length<=10:=by show bj (AF _ _) ?_;ext
 show pP.cons (S1.m (ako hA B I Xe hbl ht))<|pP.cons (S1.m (gc 17 (aX []) (o7 B.top fJ.nil Z Z) Z Z (ak Z) Z))<|pP.cons (S1.m (akp hh B I Xe))<|pP.share 17<|akq (rest:=[a9 cP 24,a9 cP 25,a9 cP 26,a9 cP 27,a9 cP 28,a9 cP 29]) hh B I D9 FT<|pP.cons (S1.m (akr hA B I hq))<|pP.cons (S1.m (aks hh B I))<|pP.cons (S1.m (akt hh B I D9 FT (CO hq) hkl hc s' ahK (λx E=>dm.mp (gq.mp E).1)))<|pP.less (G0:=gL6 c (sJ aM c pic) (zS sent) (yL aM c)) ?_ (kr.rf bG bG);show pP.cons (S1.m (gc 30 (aX []) (o7 B.top fJ.nil Z Z) Z Z (ak Z) Z))<|pP.cons (S1.m (aku hh B I (acy hq)))<|Μ<|S1m.ret nO<|acA hA bD nO (YW (x1:=30) (x2:=3) (x3:=24) hA B I M Z Z Z Z (by rw[sj];decide) wg au (by show sj.symm▸?_;show(Xf aM _)) hkl (sj▸qW) pn kz nO) (ar 17 Z) (dS _) (dS _)
noncomputable def BS:List String:=["bytearray.__contains__", "bytearray.__mod__", "bytearray.__rmod__", "_struct.pack_into.held", "bytearray.find.held"]++L8
noncomputable def oi:iX->Bool
 |fE id _=> !BS.contains id
 |_=>N
def Cl(Γ:Ctx):Prop:=oi Γ.code=N/\∀x∈Γ.below,oi x.1=N
def C{α:Type}(A:bR)(t:aI α)(s:ae)(Q:α->ae->Prop):Prop:=
 ∀Γ p,Γ.In A->Cl Γ->Sem.wp (aD prog w) Γ t (λa _ Y=>Q a Y) (λ_ _ _=>False) p s
def CC(A:bR)(c:iX)(s:ae)(aN:sS->ae->Prop):Prop:=
 ∀Γ p,Γ.code=c->Γ.Below A->(∀x∈Γ.below,oi x.1=N)->wpCode (aD prog w) Γ aN p s
theorem T.wc{t:aI α}{P:α->ae->Prop}(x:T A t s P):C A t s P:=λΓ p h _=>x Γ p h
theorem C.mono{t:aI α}{P Q:α->ae->Prop}(x:C A t s P)(h:∀a Y,P a Y->Q a Y):C A t s Q:=λΓ p wj hc=>
 tL (aD prog w) Γ t (λa _ Y=>h a Y) (λ_ _ _ f=>f) p s (x Γ p wj hc)
theorem T.wx{t:aI α}{P Q:α->ae->Prop}(x:T A t s P)(h:∀a Y,P a Y->Q a Y):C A t s Q:=x.wc.mono h
theorem T.wX{t:aI α}{v₀:α}{Q:α->ae->Prop}(x:T A t s λv Y=>Y=aK/\v=v₀)(k:Q v₀ aK):C A t s Q:=x.wx λ_ _ q=>q.1▸q.2▸k
theorem T.wcV{t:aI α}{gi:α->β->Prop}{Q:α->ae->Prop}(x:T A t s λv Y=>Y=aK/\∃F,gi v F)(k:∀v F,gi v F->Q v aK):C A t s Q:=x.wx λv _ qQ=>MB qQ λe F y=>e▸k v F y
theorem T.wcE{t:aI aa}(h:T A t s (EP H aK av fr))(k:∀v Y F,dG H aK Y->bM Y.heap av v F->(fr=N->(∀b∈F,aK.heap.get? b=ah)/\F.Nodup)->Q v Y):C A t s Q:=T.wc (h.tR k)
theorem ahN{t:aI (List aa)}{Q:List aa->ae->Prop}(h:T A t s (EPs H aK avs))(k:∀v Y F,dG H aK Y->bA Y.heap avs v F->Q v Y):C A t s Q:=T.wc (h.Ra k)
theorem T.wcI{t:aI aa}{i:Int}(h:T A t s (EP H aK (a6 i) fr))(k:∀t Y,dG H aK Y->Q (ag i t) Y):C A t s Q:=T.wc (h.CA k)
theorem Xg{t:aI aa}{u:aa}(h:T A t s (EP H aK (aH u) fr))(k:∀Y,dG H aK Y->Q u Y):C A t s Q:=T.wc (h.ο k)
theorem T.wc2{t:aI α}{X gi Q:α->ae->Prop}(h:T A t s λv Y=>X v Y/\gi v Y)(k:∀v Y,X v Y->gi v Y->Q v Y):C A t s Q:=T.wc (h.Cx k)
theorem C.bind{m:aI α}{f:α->aI β}{Q:β->ae->Prop}(x:C A m s (λa Y=>C A (f a) Y Q)):C A (m>>=f) s Q:=λΓ p wj hc=>by rw[Wb];show tL (aD prog w) Γ m (λa p' Y h'=>h' Γ p' wj hc) (λ_ _ _ h'=>h') p s (x Γ p wj hc)
theorem C.pure{a:α}{Q:α->ae->Prop}(h:Q a s):C A (Pure.pure a) s Q:=λ_ _ _ _=>h
theorem C.holding{m:aI α}{Q:α->ae->Prop}(h:C A m s Q):C A (Uc vs m) s Q:=λΓ p wj hc=>by rw[Sem.wp_holding];show h Γ p wj hc
theorem C.standAt{Q:Unit->ae->Prop}(h:Q () s):C A (Ud pos) s Q:=λ_ _ _ _=>h
theorem cS{t:aI α}{P:α->ae->Prop}(x:aE (aD prog w) A t P NoE s):C A t s P:=T.wc x
theorem lD{m:aI α}{f:α->aI β}{Q:β->ae->Prop}(x:aE (aD prog w) A m (λa Y=>C A (f a) Y Q) NoE s):C A (m>>=f) s Q:=C.bind (cS x)
theorem nQ{f:Unit->aI β}{Q:β->ae->Prop}(h:C A (f ()) s Q):C A (Ud pos>>=f) s Q:=C.bind (C.standAt h)
theorem lJ{m:aI α}{f:α->aI β}{Q:β->ae->Prop}(x:C A m s (λa Y=>C A (f a) Y Q)):C A (Uc vs m>>=f) s Q:=C.bind (C.holding x)
theorem C.point{Q:Unit->ae->Prop}(h:Q () s):C A PySem.point s Q:=λ_ _ _ _=>h
theorem C.rule{tag:String}{Q:Unit->ae->Prop}(h:Q () s):C A (PySem.rule tag) s Q:=λ_ _ _ _=>h
theorem C.eq{t:aI α}{a:α}{Q:α->ae->Prop}(e:t=Pure.pure a)(h:Q a s):C A t s Q:=by subst e;show .pure h
theorem C.release{a b:List aa}{Q:Unit->ae->Prop}(h:Q () s):C A (PySem.release a b) s Q:=λΓ p _ _=>by rw[Sem.wp_release];show h
theorem C.bindName{x:aV}{Q:Unit->ae->Prop}(h:C A (As J x v) s Q):C A (PySem.bindName J x v) s Q:=λΓ p wj hc=>by rw[Sem.wp_bindName];show h Γ p wj hc
theorem C.onRaise{m:aI α}{k:aa->aI Unit}{Q:α->ae->Prop}(h:C A m s Q):C A (m.onRaise k) s Q:=λΓ p wj hc=>by rw[Sem.wp_onRaise];show tL (aD prog w) Γ m (λ_ _ _ h'=>h') (λ_ _ _ h'=>h'.elim) p s (h Γ p wj hc)
theorem BU{m:aI α}{k:aa->aI α}{Q:α->ae->Prop}(h:C A m s Q):C A (m.tryCatch k) s Q:=λΓ p wj hc=>by rw[Sem.wp_tryCatch];show tL (aD prog w) Γ m (λ_ _ _ h'=>h') (λ_ _ _ h'=>h'.elim) p s (h Γ p wj hc)
theorem C.attempt{m:aI α}{Q:Except aa α->ae->Prop}(h:C A m s (λa=>Q (bW a))):C A m.attempt s Q:=λΓ p wj hc=>by rw[Sem.wp_attempt];show tL (aD prog w) Γ m (λ_ _ _ h'=>h') (λ_ _ _ h'=>h'.elim) p s (h Γ p wj hc)
theorem CC.mono{c:iX}{R':sS->ae->Prop}(x:CC A c s aN)(h:∀r Y,aN r Y->R' r Y):CC A c s R':=λΓ p h1 h2 h3=>eT (x Γ p h1 h2 h3) λr Y a b=>kK r Y a (h r Y b)
theorem RH{c:iX}(x:oH (aD prog w) A c aN s):CC A c s aN:=λΓ p h1 h2 _=>x Γ p h1 h2
theorem Cl.enter{Γ:Ctx}(h:Cl Γ)(c:iX)(hd:Option aa)(p:cJ):∀x∈(Γ.enter c hd p).below,oi x.1=N:=λx E=>ba (bq.mp E) (λa1=>a1▸h.1) λE=>h.2 x E
theorem C.run{c:iX}{Q:cb->ae->Prop}(hc:CC (A.mark ah) c s (λr Y=>match r with|bW f=>Q f Y|j6 _=>False)):
 C A (PySem.run c ah) s Q:=λΓ p wj jB=>by
 have:=hc _ p Z (wj.enter c ah p λx=>Bg x) (jB.enter c ah p);show eT this λr Y a b=>((kK r Y a ?_));cases r with
 |ok f=>show b
 |error e=>show b
theorem C.runValue{c:iX}(hc:CC A c s (λr Y=>match r with|bW (cB v)=>Q v Y |_=>False)):C A (PySem.runValue c) s Q:=λΓ p wj jB=>by
 rw[Sem.wp_runValue];show eT (hc _ p Z (wj.enter c ah p (by intro x;ext)) (jB.enter c ah p)) λr Y a b=>((kK r Y a ?_));cases r with
 |ok f=>cases f<;>show b
 |error e=>show b
theorem C.call{f:aa}{pos:List aa}{kw:List (aV×aa)}(hc:CC A (m8 f ⟨pos,kw⟩) s (λr Y=>match r with|bW (cB v)=>Q v Y |_=>False)):
 C A (Eu f pos kw) s Q:=C.runValue hc
def Pr(A:bR)(aN:sS->ae->Prop)(y8:Fin)(Y:ae):Prop:=match y8 with
 |nr f=>aN (bW f) Y
 |yz c'=>c'.quiet=N/\CC A c' Y aN
theorem jl{c:iX}(jB:oi c=N)(h:C (A.under c) ((aD prog w).den c) s (Pr A aN)):CC A c s aN:=λΓ p hc wj D=>by
 rw[wpCode_iff_wp,hc];show tL (aD prog w) Γ _ (λy8 p' Y h'=>?_) (λ_ _ _ h'=>h'.elim) p s (h Γ p (hc▸wj.in) ⟨hc▸jB,D⟩);cases y8 with
 |done f=>show h'
 |again c'=>show⟨h'.1,h'.2 (Γ.goto c') p' Z (wj.goto c') D⟩
theorem C.stack{Q:List (iX×cJ)->ae->Prop}(h:∀st:List (iX×cJ),(∀x∈st,oi x.1=N)->Q st s):C A PySem.stack s Q:=λΓ p wj jB=>by
 show h _ λx E=>?_;rcases bq.mp E with rfl|E
 .show jB.1
 .show jB.2 x E
theorem C.exported{Q:Bool->ae->Prop}(h:Q ab s):C A (L9 v) s Q:=by
 show C.bind (C.stack λst dH=>C.pure ?_);have hq:∀f:iX×cJ->Bool,(∀x∈st,f x=ab)->Q (st.any f) s:=λf hf=>by rw[List.any_eq_false.mpr λx E=>by rw[hf x E];decide];show h
 show hq _ λx E=>?_;have hc:=dH x E;obtain⟨c,p⟩:=x;cases c with
 |builtin id args=>
  have h1:∀d∈BS,¬id=d:=λd hd e=>by subst e;have:BS.contains id=N:=EK.mpr hd;have this:=(lh ((λ{x y}=>Bool.not_inj_iff.mp) (_root_.id (lh hc))):BS.contains id=ab).symm.trans this;ext
  have h6:L8.contains id=ab:=by
   cases q:L8.contains id with
   |false=>rfl
   |true=>show absurd Z (h1 id (ew _ (EK.mp q)))
  delta L9.match_1
  show(dif_neg (h1 _ aL)).trans ((dif_neg (h1 _ aL)).trans ((dif_neg (h1 _ aL)).trans ((dif_neg (h1 _ aL)).trans ((dif_neg (h1 _ aL)).trans ?_))));obtain⟨pos,kw⟩:=args;cases pos with
  |nil=>rfl
  |cons a l=>show(congrArg _ h6).trans (U9 _)
 |_=>rfl
theorem gz:lM "bytearray" "__getitem__" "bytearray.__getitem__" :=
 nt (owner:= "bytearray") (n:= "__getitem__") (rfl) (rfl) (rfl) (rfl)
  (by first|show ak (rfl)|show .inr (rfl)) (rfl)
theorem ny:lM "bytearray" "__setitem__" "bytearray.__setitem__" :=
 nt (owner:= "bytearray") (n:= "__setitem__") (rfl) (rfl) (rfl) (rfl)
  (by first|show ak (rfl)|show .inr (rfl)) (rfl)
theorem wY:lM "bytearray" "__len__" "bytearray.__len__" :=
 nt (owner:= "bytearray") (n:= "__len__") (rfl) (rfl) (rfl) (rfl)
  (by first|show ak (rfl)|show .inr (rfl)) (rfl)
theorem BV:lM "bytearray" "__iter__" "bytearray.__iter__" :=
 nt (owner:= "bytearray") (n:= "__iter__") (rfl) (rfl) (rfl) (rfl)
  (by first|show ak (rfl)|show .inr (rfl)) (rfl)
theorem Nc:lM "bytearray" "__init__" "bytearray.__init__" :=
 nt (owner:= "bytearray") (n:= "__init__") (rfl) (rfl) (rfl) (rfl)
  (by first|show ak (rfl)|show .inr (rfl)) (rfl)
theorem pE:lM "bytearray" "extend" "bytearray.extend" :=
 nt (owner:= "bytearray") (n:= "extend") (rfl) (rfl) (rfl) (rfl)
  (by first|show ak (rfl)|show aw (rfl)) (rfl)
theorem qa:gQ table "bytearray.__getitem__" =O Builtin.«bytearray.__getitem__»:=mi (rfl)
theorem uI:gQ table "bytearray.__setitem__" =O Builtin.«bytearray.__setitem__»:=mi (rfl)
theorem Nd:gQ table "bytearray.__len__" =O Builtin.«bytearray.__len__»:=mi (rfl)
theorem zr:gQ table "bytearray.__init__" =O Builtin.«bytearray.__init__»:=mi (rfl)
theorem wk:gQ table "bytearray.extend" =O Builtin.«bytearray.extend»:=mi (rfl)
theorem Nf:gQ table "bytearray.__new__" =O Builtin.«list.__new__»:=Kl (id':= "list.__new__") ((xK _).trans bG) aL bG ((xK _).trans bG)
theorem qX(a b:aa):j0 "bytearray.__getitem__" ⟨[a,b],[]⟩:=by ext
theorem wm(a b c:aa):j0 "bytearray.__setitem__" ⟨[a,b,c],[]⟩:=by ext
theorem Pt(a:aa):j0 "bytearray.__len__" ⟨[a],[]⟩:=vq bG
theorem BW(a b:aa):j0 "bytearray.__init__" ⟨[a,b],[]⟩:=vq bG
theorem wZ(a b:aa):j0 "bytearray.extend" ⟨[a,b],[]⟩:=vq bG
noncomputable def pR(b:Array UInt8):bE:={cls:=ao "bytearray",dict:=ah,data:=ja b 0,slots:=#[]}
theorem eU{b:Array UInt8}(ho:s.heap.get? a=O (pR b)):s.TypeIs (R a) "bytearray" :=cn _ ho Z
theorem Ha{k:Int}(h0: -(2 ^ 62)<=k)(h1:k<2 ^ 62):VC k=N:=by
 delta VC
 simp;lia
theorem Pu(a:af)(b:Array UInt8)(k:Int)(t:a8)(j:Nat)(x:UInt8)(h0: -(2 ^ 62)<=k)(h1:k<2 ^ 62)(hj:rp k b.size=O j)(E:b[j]? =O x):
 qj (Builtin.«bytearray.__getitem__» ⟨[R a,ag k t],[]⟩) (λ_ aN s=>s.heap.get? a=O {cls:=ao "bytearray",dict:=ah,data:=ja b 0,slots:=#[]}/\aN (bW (cB (ag (x.toNat:Int) s.toks))) {s with toks:=s.toks+1}):=
 qC λprog w A aN s h=>by obtain⟨hp,g,d,tk,os⟩:=s;show fc h λhl h=>?_;have hi:=sP (⟨hp,g,d,tk,os⟩:ae) k t;have hii:=xM;have hf:=Ha h0 h1;have ha:vd (ag k t)=pure k:=rfl;wp_walk;simp only[hj,Option.bind_some,E];wp_walk;show cn _ Z h
theorem BX(b:Array UInt8){f:Array UInt8->Array UInt8}(h:(f b).size<=1000000):(iz f {cls:=ao "bytearray",data:=ja b}).data.pastItsLine=ah:=by
 delta iz Data.pastItsLine
 simp;lia
def CP(a:af)(b:Array UInt8)(k:Int)(t:a8)(v:Nat)(u:a8)(j:Nat):Prop:=∀(h0: -(2 ^ 62)<=k) (h1:k<2 ^ 62) (hj:rp k b.size=O j) (hv:v<256) (D:b.size<=1000),qj (Builtin.«bytearray.__setitem__» ⟨[R a,ag k t,ag (ai v) u],[]⟩) (λ_ aN s=>s.heap.get? a=O {cls:=ao "bytearray",dict:=ah,data:=ja b 0,slots:=#[]}/\aN (bW (cB aA)) {s with heap:=s.heap.update a (iz λb=>b.setIfInBounds j v.toUInt8)})
def Hb(c:((af×(Array UInt8))×(Int×a8))×((Nat×a8)×Nat)):Prop:=CP c.1.1.1 c.1.1.2 c.1.2.1 c.1.2.2 c.2.1.1 c.2.1.2 c.2.2
def nS:=Bm Hb inferInstance
def Nh:=nS.1.2.1
def RJ:=nS.1.2.2
def Hc:=nS.2.1.1
def ό:=nS.2.1.2
theorem ύ:CP nS.1.1.1 nS.1.1.2 Nh RJ Hc ό nS.2.2:=λh0 h1 hj hv D=>qC λprog w A aN s h=>by
 obtain⟨hp,g,d,tk,os⟩:=s;show fc h λhl h=>?_;have hi:=sP (⟨hp,g,d,tk,os⟩:ae) Nh RJ;have hii:=xM;have hf:=Ha h0 h1;have ha:vd (ag Nh RJ)=pure Nh:=rfl;have WL:vd (ag (ai Hc) ό)=pure (ai Hc):=rfl;have hr:(decide (ai Hc<0) ||decide (ai Hc>=256))=ab:=by simp;show EF.mp hv
 wp_walk;rw[if_neg (by rw[hr];decide)];wp_walk;show hj.symm▸?_;wp_walk;rw[BX _ jx];wp_walk;show cn _ Z h
theorem Pw(a:af)(b:Array UInt8)(k:Int)(t:a8)(v:Nat)(u:a8)(j:Nat):CP a b k t v u j:=Yw (P:=Hb) ύ (((a,b),(k,t)),((v,u),j))
theorem acB(a:af)(b:Array UInt8):
 qj (Builtin.«bytearray.__len__» ⟨[R a],[]⟩) (λ_ aN s=>s.heap.get? a=O {cls:=ao "bytearray",dict:=ah,data:=ja b 0,slots:=#[]}/\aN (bW (cB (ag (b.size:Int) s.toks))) {s with toks:=s.toks+1}):=
 qC λprog w A aN s h=>by obtain⟨hp,g,d,tk,os⟩:=s;show fc h λhl h=>?_;wp_walk;show cn _ Z h
theorem ώ(k:Int)(t:a8):vd (ag k t)=pure k:=rfl
theorem BY(k m:Nat)(n:Nat):xP (da (k:Int)) (da (m:Int)) aA n=pure ((min (k:Int) n),(min (m:Int) n),1):=by
 delta xP da
 have h1:¬((k:Int)<0):=by lia
 have h2:¬((m:Int)<0):=by lia
 simp[ώ,h1,h2,(by lia:max 0 (min (k:Int) n)=min (k:Int) n),(by lia:max 0 (min (m:Int) n)=min (m:Int) n)]
theorem IT(k:Nat)(n:Nat):xP (da (k:Int)) aA aA n=pure ((min (k:Int) n),(n:Int),1):=by
 delta xP da
 have h1:¬((k:Int)<0):=by lia
 have h3:max 0 (min (k:Int) n)=min (k:Int) n:=by lia
 simp[ώ,h1,h3]
theorem JC(b:Array UInt8)(k m:Nat)(hm:m<=b.size)(Q0:k<=m):tJ b (min (k:Int) b.size) (min (m:Int) b.size) 1=((b.toList.drop k).take (m - k)).toArray:=by
 rw[(by lia:min (k:Int) b.size=(k:Int)),(by lia:min (m:Int) b.size=(m:Int))]
 delta tJ sliceRange
 congr 1;have hc:(if(1:Int)>0 then(if(k:Int)<m then((m:Int) - k+1 - 1) / 1 else 0) else(if(k:Int)>m then((k:Int) - m - 1 - 1) / (-1) else 0)).toNat=m - k:=by simp;split<;>simp_all
 dsimp only;show hc.symm▸?_;have key:∀n:Nat,k+n<=b.size->(List.filterMap (λx=>b[x]?) (List.map (λj:Nat=>((k:Int)+1 * (j:Int)).toNat) (aJ n)))=(b.toList.drop k).take n:=by
  intro n;induction n with
  |zero=>intro _;rfl
  |succ n ih=>
   intro hn;rw[rD,jH,List.filterMap_append,ih (qr hn),AK];congr 1;have h2:k+n<b.size:=by assumption
   simp only[ix,UK,(by lia:((k:Int)+1 * (n:Int)).toNat=k+n),Uy,vw h2];simp[h2]
 show key (m - k) au
theorem YX(a sl:af)(b:Array UInt8)(k m:Int)(t u:a8)(x y z:Int)(dH:xP (da k) (da m) aA b.size=pure (x,y,z))(hsz:(tJ b x y z).size<=1000):
 qj (Builtin.«bytearray.__getitem__» ⟨[R a,R sl],[]⟩) (λ_ aN s=>s.heap.get? a=O {cls:=ao "bytearray",dict:=ah,data:=ja b 0,slots:=#[]}/\s.heap.get? sl=O {cls:=ao "slice",data:=bF #[ag k t,ag m u,aA]}/\aN (bW (cB (R s.heap.objs.size))) {s with heap:=s.heap.push (pR (tJ b x y z))}):=
 qC λprog w A aN s h=>by
  obtain⟨hp,g,d,tk,os⟩:=s;show hJ h λhl hs h=>?_;have hT:(⟨hp,g,d,tk,os⟩:ae).TypeIs (R sl) "slice" :=⟨_,hs,rfl⟩;have hi:=sP (⟨hp,g,d,tk,os⟩:ae) k t;have hj:=sP (⟨hp,g,d,tk,os⟩:ae) m u;have hii:=xM;have hsi:fZ (ao "slice") (aB "__index__")=pure ah:=by rw[typeLookup_type,builtinLookup_eq_fast];ext
  have ha:vd (ag k t)=pure k:=rfl;have D:vd (ag m u)=pure m:=rfl;have hz:eN=16777216:=rfl;wp_walk;rw[if_neg au];wp_walk;show⟨_,rfl,h⟩
theorem IU(a sl:af)(b:Array UInt8)(k:Int)(t:a8)(x y z:Int)(dH:xP (da k) aA aA b.size=pure (x,y,z))(hsz:(tJ b x y z).size<=1000):
 qj (Builtin.«bytearray.__getitem__» ⟨[R a,R sl],[]⟩) (λ_ aN s=>s.heap.get? a=O {cls:=ao "bytearray",dict:=ah,data:=ja b 0,slots:=#[]}/\s.heap.get? sl=O {cls:=ao "slice",data:=bF #[ag k t,aA,aA]}/\aN (bW (cB (R s.heap.objs.size))) {s with heap:=s.heap.push (pR (tJ b x y z))}):=
 qC λprog w A aN s h=>by
  obtain⟨hp,g,d,tk,os⟩:=s;show hJ h λhl hs h=>?_;have hT:(⟨hp,g,d,tk,os⟩:ae).TypeIs (R sl) "slice" :=⟨_,hs,rfl⟩;have hii:=xM;have hsi:fZ (ao "slice") (aB "__index__")=pure ah:=by ext
  have ha:vd (ag k t)=pure k:=rfl;have hz:eN=16777216:=rfl;wp_walk;rw[if_neg au];wp_walk;show⟨_,rfl,h⟩
def CQ(T:String)(zh:String)(qU:String)(args:List aa):Prop:=∀(ft:Ar T zh qU) (hct:xO T ⟨args,[]⟩=pure ()),Builtin.«type.__call__» ⟨ao T::args,[]⟩=(do
 let obj<-holding [bB zh] (call (bB zh) (ao T::args) [])
 if !(<-ro obj (ao T)) then rule "type.call.new-gave-other-type";return<-ret obj
 match<-holding [obj] (xQ obj "__init__" args []) with
 |none=>ret obj
 |some r=>
  if r != aA then
   rule "type.call.init-returned-value"
   raiseError "TypeError" s!"__init__() should return None, not '{← typeNameOf r}'"
  ret obj)
def Hd(c:(String×String)×(String×(List aa))):Prop:=CQ c.1.1 c.1.2 c.2.1 c.2.2
def vV:=Bm Hd inferInstance
theorem Ϗ:CQ vV.1.1 vV.1.2 vV.2.1 vV.2.2:=λft hct=>by
 show jg ft.mro λc tl akv=>?_
 delta Builtin.«type.__call__»
 simp only[ft.notType,ft.canCreate,hct,akv,ft.made,if_false];rfl
theorem Px{T:String}:CQ T zh qU args:=Yw (P:=Hd) Ϗ ((T,zh),(qU,args))
theorem ϐ:mroOf (ao "bytearray")=pure [ao "bytearray",ao "object"]:=by ext
theorem IV:fZ (ao "bytearray") "__new__" =pure (O (bB "bytearray.__new__")):=by ext
theorem JD:Ar "bytearray" "bytearray.__new__" "bytearray.__init__" :=
 ⟨rfl,rfl,(qG _ _ ϐ),madeBy_type ϐ IV bG,by ext,rfl,Nc⟩
theorem DF(a:aa):xO "bytearray" ⟨[a],[]⟩=pure ():=by ext
theorem RK(a:aa):sN "bytearray.__new__" ⟨[ao "bytearray",a],[]⟩=pure ():=by ext
theorem Ni:ED "bytearray.__new__" =N:=by ext
theorem Nj:("bytearray.__new__".splitOn ".__new__").headD "" = "bytearray" :=by rw[PySem.W.split_bytearray];rfl
theorem oj:oF (ao "bytearray") (ao "bytearray")=pure N:=by ext
theorem DG(a:aa)(h:Q₁ (R s.heap.objs.size) {s with heap:=s.heap.push (pR #[])}):
 oH (aD prog w) A (m8 (bB "bytearray.__new__") ⟨[ao "bytearray",a],[]⟩) (wants Q₁ a0) s:=by
 show xN (aj (iq (RK a) (aC ⟨lL Ni _,codeAny_builtin_stack Nf Z λp st=>?_⟩)));have vW:=oj;obtain⟨hp,g,d,tk,os⟩:=s;simp only[Nj];wp_walk;show h
theorem Py{id:String}{args:sV}{b:u6}(D:gQ table id=O b):(aD prog w).den (fE id args)=b args:=by change(match gQ table id with|some b=>b args|none=>Es ((withoutEnding? id "#data").getD id))=_;rw[D]
theorem jP{id:String}{args:sV}{b:u6}(D:gQ table id=O b)(hc:oi (fE id args)=N)(h:C (A.under (fE id args)) (b args) s (Pr A aN)):CC A (fE id args) s aN:=jl hc<|(Py D).symm▸h
theorem w0{id:String}{args:sV}{b:u6}(hq:ED id=N)(D:gQ table id=O b)(hc:oi (fE id args)=N)(h:C A.in1 (sN id args) s (λ_ ax=>C A.in1 (b args) ax (Pr A aN))):CC A (m8 (bB id) args) s aN:=by show jl Z (C.bind (h.mono λ_ ax U=>C.pure ⟨lL hq args,jP D hc ?_⟩));show(Around.under_plainId hq args).symm▸U
theorem vX{T:String}{id:String}{Q:Option aa->ae->Prop}(hT:s.TypeIs self T)(h:lM T name id)(hc:C A (call (bB id) (self::args) []) s (λv=>Q (O v))):C A (xQ self name args []) s Q:=C.bind<|Lake.T.wX (jF hT h.lookup ⟨rfl,rfl⟩)<|C.holding<|C.bind<|C.eq (h.bind self)<|C.bind (hc.mono λv Y h'=>C.pure h')
theorem oq{T:String}{id:String}{b:u6}(hT:s.TypeIs self T)(h:lM T name id)(ahO:gQ table id=O b)(oz:j0 id ⟨self::args,[]⟩)(jB:oi (fE id ⟨self::args,[]⟩)=N)(hw:C A.in1 (b ⟨self::args,[]⟩) s (Pr A (λr Y=>∃v,r=bW (cB v)/\Q v Y))):C A (call (bB id) (self::args) []) s Q:=by show C.call (CC.mono (w0 h.plain ahO jB (aN:=λr Y=>∃v,r=bW (cB v)/\Q v Y) ?_) λr Y qQ=>bf qQ λv e hq=>by show e▸?_;show hq);show Lake.T.wX (h.check _ _ _ _ _ _ _ _ hT oz ⟨rfl,rfl⟩) (hw)
theorem ee{c:Prop}[Decidable c]{a b:aI α}{Q:α->ae->Prop}(hc:¬c)(h:C A b s Q):C A (if c then a else b) s Q:=by rw[if_neg hc];show h
theorem BZ{T:String}{Bi:u6}(ft:Ar T zh qU)(hct:xO T ⟨args,[]⟩=pure ())(RL:gQ table qU=O Bi)(hci:∀as,oi (fE qU as)=N)(nN:C A.in1 (call (bB zh) (ao T::args)) s (λobj ax=>ax.TypeIs obj T/\j0 qU ⟨obj::args,[]⟩/\
 C A.in1.in1 (Bi ⟨obj::args,[]⟩) ax (Pr A.in1 (λr aP=>r=bW (cB aA)/\Q obj aP)))):
 C A (call (ao T) args) s Q:=by
 show C.call<|jl Z<|C.pure ⟨AZ _ bG,jP PySem.F.entry_type_call Z ?_⟩;rw[Px ft hct,Around.under_plain (weight_type_call_type T args []) Z];show lJ<|nN.mono λobj ax ow=>hJ ow λhT oz hw=>C.bind<|Lake.T.wX (mj hT ft.sub ⟨rfl,rfl⟩)<|ee aL (lJ (vX hT ft.init (oq hT ft.init RL oz (hci _) (hw.mono λy8 Y h'=>?_))));cases y8 with
 |done f=>have h':=h';show cn aA h'.1 (ee aL (C.pure h'.2))
 |again c'=>show⟨h'.1,h'.2.mono λr aP h2=>(cn aA h2.1 (ee aL (C.pure h2.2)))⟩
theorem DH{T:String}{Bi:u6}(ft:Ar T zh qU)(hct:xO T ⟨args,[]⟩=pure ())(RL:gQ table qU=O Bi)(hci:∀as,oi (fE qU as)=N)(nN:oH (aD prog w) A.in1 (m8 (bB zh) ⟨ao T::args,[]⟩) (wants Q₁ NoE) s)(ahP:∀obj ax,Q₁ obj ax->ax.TypeIs obj T/\j0 qU ⟨obj::args,[]⟩/\
 C A.in1.in1 (Bi ⟨obj::args,[]⟩) ax (Pr A.in1 (λr aP=>r=bW (cB aA)/\Q obj aP))):
 C A (call (ao T) args) s Q:=
 BZ ft hct RL hci (Lake.T.wx (kU nN) ahP)
theorem zV:fZ (ao "bytearray") (aB "__release_buffer__")=pure (O (bB "bytearray.__release_buffer__")):=by ext
theorem zt{b:Array UInt8}{Q:Bool->ae->Prop}(ho:s.heap.get? a=O (pR b))(h:Q ab s):C A (VB (R a)) s Q:=by
 show T.wX ?_ (h);have hT:=eU ho;have h1:=zV
 delta T
 wp_walk;rw[if_neg (by decide+kernel),show "bytearray.__release_buffer__".dropRight ("__release_buffer__".length+1)= "bytearray" from by decide+kernel];show mj hT oj (aC ⟨rfl,rfl⟩)
theorem B0(v:aa):aby "bytearray.__init__" "bytearray" ["source", "encoding", "errors"] [v] []=pure [O v,ah,ah]:=by ext
theorem zW{b:Array UInt8}{Q:Bool->ae->Prop}(ho:s.heap.get? a=O (pR b))(h:Q ab s):
 C A (L9 (R a)<||> (do return (<-abC (R a))>0)) s Q:=by
 show C.bind<|C.exported<|C.bind (T.wX (v₀:=0) ?_ (C.pure h));show aj (jY ho (aC ⟨rfl,rfl⟩))
noncomputable def rZ(ns:LN):Array UInt8:=(ns.map λn=>n.toUInt8).toArray
theorem YY:∀{vs:List aa} {ns:LN},fk vs (ns.map ai)->(∀n∈ns,n<256)->
 (∀p:aa->Bool,(∀i t,p (ag i t)=(decide (0<=i) && decide (i<256)))->vs.takeWhile p=vs)/\(∀f:aa->Option UInt8,(∀i t,f (ag i t)=O i.toNat.toUInt8)->vs.filterMap f=ns.map λn=>n.toUInt8):=by
 intro vs ns;induction ns generalizing vs with
 |nil=>intro h _;cases h;show⟨λ_ _=>rfl,λ_ _=>rfl⟩
 |cons n ns ih=>
  intro h D;cases h with
  |cons _ t r=>
   show fc (ih r (λm hm=>D m au)) λh1 h2=>have hn:=D n au;⟨λp hp=>?_,λf hf=>?_⟩
   .rw [Uz,hp,h1 p hp];show if_pos jx
   .rw [Uy,hf,h2 f hf];rfl
theorem He:∀ty,ty= "list" \/ty= "tuple" ->fZ (ao ty) (aB "__index__")=pure ah/\fZ (ao ty) (aB "__buffer__")=pure ah:=by rintro ty (rfl|rfl)<;>constructor<;>(ext)
def CR(A:bR)(a:af)(l:af)(vs:List aa)(ns:LN)(n:Nat)(Q:iW->ae->Prop):Prop:=∀{s:ae} {ty:String} (ho:s.heap.get? a=O (pR #[])) (hl:s.heap.get? l=O {cls:=ao ty,data:=bQ vs.toArray n}) (hty:ty= "list" \/ty= "tuple") (hi:fk vs (ns.map ai)) (D:∀n∈ns,n<256) (dM:ns.length<=1000) (hq:Q (nr (cB aA)) {s with heap:=(s.heap.update a (iz λ_=>#[])).update a (iz λ_=>rZ ns)}),C A (Builtin.«bytearray.__init__» ⟨[R a,R l],[]⟩) s Q
def Hf(c:((bR×af)×(af×(List aa)))×(((LN)×Nat)×(iW->ae->Prop))):Prop:=CR c.1.1.1 c.1.1.2 c.1.2.1 c.1.2.2 c.2.1.1 c.2.1.2 c.2.2
def nU:=Bm Hf inferInstance
def RM:=nU.1.1.2
def RN:=nU.1.2.1
def FU:=nU.1.2.2
def Xh:=nU.2.1.1
def Nk:=nU.2.1.2
def ϑ:=nU.2.2
theorem ϒ:CR nU.1.1.1 RM RN FU Xh Nk ϑ:=λ{s} {ty} ho hl hty hi D dM hq=>by
 show fc (He ty hty) λli lb=>C.bind<|zt ho<|ee aL<|C.bind<|C.eq (B0 _)<|C.bind<|C.eq Z<|C.bind<|C.eq Z<|C.bind<|zW ho<|ee aL (Lake.T.wc (P:=ϑ) ?_);unfold Lake.T;have CS:RM≠RN:=λe=>by rw[e,hl]at ho;simp[pR]at ho
 obtain⟨hp,g,d,tk,os⟩:=s;have ho':hp.get? RM=O {cls:=ao "bytearray",data:=ja #[]}:=ho;have WN:hp.get? RN=O {cls:=ao ty,data:=bQ FU.toArray Nk}:=hl;show fc (YY hi D) λg1 g2=>?_;wp_walk;rw[g1 _ (λ_ _=>rfl),show FU.toArray[FU.length]? =ah by simp];rw[g2 _ (λ_ _=>rfl)];wp_walk;have Pz:(iz (λ_=>(Xh.map λNk=>Nk.toUInt8).toArray) (iz (λ_=>#[]) {cls:=ao "bytearray",data:=ja #[]})).data.pastItsLine=ah:=BX (#[]) jx;show Pz.symm▸?_;wp_walk;show hq
theorem Hg{Q:iW->ae->Prop}:CR A a l vs ns n Q:=Yw (P:=Hf) ϒ (((A,a),(l,vs)),((ns,n),Q))
theorem JE:fZ (ao "bytearray") (aB "__buffer__")=pure (O (bB "bytearray.__buffer__")):=by ext
theorem RO:fZ (ao "bytearray") (aB "__index__")=pure ah:=by ext
theorem RP{c:af}{Q:Bool->ae->Prop}(hT:s.TypeIs (R c) "bytearray")(h:Q N s):aE M A (VD (R c) "__buffer__") Q a0 s:=by show aj<|jF hT JE<|(?_:aE _ _ (if(!"bytearray.__buffer__".endsWith ("." ++ "__buffer__"))=N then pure ab else ro _ _) _ _ _);rw[if_neg (by decide+kernel),show "bytearray.__buffer__".dropRight ("__buffer__".length+1)= "bytearray" from by decide+kernel];show mj hT oj h
theorem PA{c:af}{Q:Bool->ae->Prop}(hT:s.TypeIs (R c) "bytearray")(h:Q ab s):aE M A (VB (R c)) Q a0 s:=by show aj<|aj<|jF hT zV<|(?_:aE _ _ (if(!"bytearray.__release_buffer__".endsWith ("." ++ "__release_buffer__"))=N then pure ab else ro _ _) _ _ _);rw[if_neg (by decide+kernel),show "bytearray.__release_buffer__".dropRight ("__release_buffer__".length+1)= "bytearray" from by decide+kernel];show mj hT oj (aC h)
def CT(A:bR)(a:af)(c:af)(b:Array UInt8)(Q:iW->ae->Prop):Prop:=∀{s:ae} (hac:a≠c) (ho:s.heap.get? a=O (pR #[])) (hl:s.heap.get? c=O (pR b)) (dM:b.size<=1000) (hq:Q (nr (cB aA)) {s with heap:=(s.heap.update a (iz λ_=>#[])).update a (iz λ_=>b)}),C A (Builtin.«bytearray.__init__» ⟨[R a,R c],[]⟩) s Q
def Hh(c:((bR×af)×af)×((Array UInt8)×(iW->ae->Prop))):Prop:=CT c.1.1.1 c.1.1.2 c.1.2 c.2.1 c.2.2
def sr:=Bm Hh inferInstance
def Hi:=sr.1.1.2
def Hj:=sr.1.2
def Nl:=sr.2.1
def ϓ:=sr.2.2
theorem ϔ:CT sr.1.1.1 Hi Hj Nl ϓ:=λ{s} hac ho hl dM hq=>by
 unfold Builtin.«bytearray.__init__»;show C.bind (zt ho ?_);show ee aL ?_;show C.bind (C.eq (B0 _) ?_);show C.bind (C.eq Z ?_);show C.bind (C.eq Z ?_);show C.bind (zW ho ?_);show ee aL ?_;show Lake.T.wc (P:=ϓ) ?_;unfold Lake.T;have Gu:Hj≠Hi:=hac.symm;obtain⟨hp,g,d,tk,os⟩:=s;have ho':hp.get? Hi=O {cls:=ao "bytearray",data:=ja #[]}:=ho;have WN:hp.get? Hj=O {cls:=ao "bytearray",data:=ja Nl}:=hl;have hc2:(hp.update Hi (iz λ_=>#[])).get? Hj=O {cls:=ao "bytearray",data:=ja Nl}:=by rw[Un _ _ _ _ Gu];show WN
 have hT:(⟨hp.update Hi (iz λ_=>#[]),g,d,tk,os⟩:ae).TypeIs (R Hj) "bytearray" :=⟨_,hc2,rfl⟩;have k1:=JE;have k2:=RO;have k3:=zV;have k4:=oj;wp_walk using (RP hT),(PA hT);have Pz:(iz (λ_=>Nl) (iz (λ_=>#[]) {cls:=ao "bytearray",data:=ja #[]})).data.pastItsLine=ah:=BX (#[]) au;rw[Pz];wp_walk;show hq
theorem IW{c:af}{b:Array UInt8}{Q:iW->ae->Prop}:CT A a c b Q:=Yw (P:=Hh) ϔ (((A,a),c),(b,Q))
theorem B1(h:aQ)(o:bE)(f:bE->bE):(h.push o).update h.objs.size f=h.push (f o):=by
 obtain⟨objs,l⟩:=h;show(?_:KS ((objs.push o).modify objs.size f) l=KS (objs.push (f o)) l);congr 1;apply Vp;intro i;rw[Array.getElem?_modify,LY,LY];by_cases e:i=objs.size
 .subst e;simp
 .simp [e,eS e]
theorem Hk(as:sV):oi (fE "bytearray.__init__" as)=N:=rfl
theorem uJ(ty:String)(n:Nat)(hl:s.heap.get? l=O {cls:=ao ty,data:=bQ vs.toArray n})(hty:ty= "list" \/ty= "tuple")(hi:fk vs (ns.map ai))(D:∀n∈ns,n<256)(dM:ns.length<=1000)(hq:Q (R s.heap.objs.size) {s with heap:=s.heap.push (pR (rZ ns))}):C A (call (ao "bytearray") [R l]) s Q:=by show DH (Q₁:=λv ax=>v=R s.heap.objs.size/\ax={s with heap:=s.heap.push (pR #[])}) JD (DF _) zr Hk (DG _ ⟨rfl,rfl⟩) λobj ax qQ=>fc qQ λe1 e2=>e1▸e2▸have ho:(s.heap.push (pR #[])).get? s.heap.objs.size=O (pR #[]):=bI _ Z;gI (eU ho) (BW _ _) (Hg ho (aZ _ hl) hty hi D dM ⟨rfl,?_⟩);rw[B1,B1];show hq
theorem ϕ{c:af}{b:Array UInt8}(hl:s.heap.get? c=O (pR b))(dM:b.size<=1000)(hq:Q (R s.heap.objs.size) {s with heap:=s.heap.push (pR b)}):C A (call (ao "bytearray") [R c]) s Q:=by show DH (Q₁:=λv ax=>v=R s.heap.objs.size/\ax={s with heap:=s.heap.push (pR #[])}) JD (DF _) zr Hk (DG _ ⟨rfl,rfl⟩) λobj ax qQ=>fc qQ λe1 e2=>?_;subst e1 e2;have ho:(s.heap.push (pR #[])).get? s.heap.objs.size=O (pR #[]):=bI _ Z;show gI (eU ho) (BW _ _) (IW (λe=>by have:=cj hl;rw[<-e]at this;show gv _ this) ho (aZ _ hl) dM ⟨rfl,?_⟩);rw[B1,B1];show hq
structure Tn(X:List af)(s Y:ae):Prop where
 keep:∀b o,b∉X->s.heap.get? b=O o->Y.heap.get? b=O o
 there:∀b o,s.heap.get? b=O o->∃o',Y.heap.get? b=O o'
 os:Y.os=s.os
 drawn:Y.drawn=s.drawn
 gens:Y.gens=s.gens
theorem Tn.trans{gi:List af}{a b c:ae}(x:Tn X a b)(y:Tn gi b c)(h:∀d∈gi,d∈X\/a.heap.get? d=ah):Tn X a c where
 keep:=λd o hd e=>y.keep d o (λq=>by
  rcases h d q with q|q
  .show hd q
  .have e:=q.symm.trans e;ext) (x.keep d o hd e)
 there:=λd o e=>dF (x.there d o e) λo' e'=>y.there d o' e'
 os:=y.os.trans x.os
 drawn:=y.drawn.trans x.drawn
 gens:=y.gens.trans x.gens
theorem Tn.push(X:List af)(s:ae)(o:bE):Tn X s {s with heap:=s.heap.push o}:=⟨λ_ _ _ e=>aZ o e,λ_ o' e=>⟨o',aZ o e⟩,rfl,rfl,rfl⟩
theorem Tn.toks(X:List af)(s:ae)(t:Nat):Tn X s {s with toks:=t}:=⟨λ_ _ _ e=>e,λ_ o e=>⟨o,e⟩,rfl,rfl,rfl⟩
theorem Tn.same(hs:gu a s.heap h')(ha:a∈X)(hm:∃o,h'.get? a=O o):Tn X s {s with heap:=h'} where
 keep:=λb o D e=>(hs.2 b (λq=>by subst q;show D ha)).trans e
 there:=λb o e=>if q:b=a then q▸hm else⟨o,(hs.2 b q).trans e⟩
 os:=rfl
 drawn:=rfl
 gens:=rfl
theorem Tn.upd{b:Array UInt8}{f:Array UInt8->Array UInt8}(ho:s.heap.get? a=O (pR b))(ha:a∈X):Tn X s {s with heap:=s.heap.update a (iz f)}/\(s.heap.update a (iz f)).get? a=O (pR (f b)):=by have e:(s.heap.update a (iz f)).get? a=O (pR (f b)):=ie _ ho Z;show⟨.same (j8 ..) ha ⟨_,e⟩,e⟩
theorem Tn.smod(x:Tn X s Y)(hX:∀b∈X,b∉bX):mD X s Y:=
 ⟨⟨λb o D _ e=>x.keep b o D e,λb D ps e=>⟨#[],x.keep b _ (λq=>hX b q D) e⟩,x.there⟩,x.os,x.drawn,x.gens⟩
theorem YZ{b:Array UInt8}{Q:Unit->ae->Prop}(ho:s.heap.get? a=O (pR b))(h:Q () s):C A (VA (R a)) s Q:=C.bind<|zW ho<|ee aL (C.pure h)
theorem CU{b:Array UInt8}{f:Array UInt8->Array UInt8}{Q:Unit->ae->Prop}(ho:s.heap.get? a=O (pR b))(dM:(f b).size<=1000000)(h:Q () {s with heap:=s.heap.update a (iz f)}):aE M A (Fn (R a) f) Q a0 s:=by show aj<|jY ho<|aj (wpAny_update ho (aj (wpAny_loadPart (ie _ ho Z) ?_)));have:=BX b dM;show(show((iz f (pR b)).data.pastItsLine)=ah from this).symm▸aC h
theorem w3{b:Array UInt8}{Q:Array UInt8->ae->Prop}(ho:s.heap.get? a=O (pR b))(h:Q b s):aE M A (abD (R a)) Q a0 s:=
 aj (aj (jY ho (aC (aC h))))
theorem w4:gQ table "bytearray.extend.loop" =O Builtin.«bytearray.extend.loop»:=mi (rfl)
theorem IX:gQ table "bytearray.extend.end" =O Builtin.«bytearray.extend.end»:=mi (rfl)
theorem w5:ED "bytearray.extend.loop" =N:=by ext
theorem IY:ED "bytearray.extend.end" =N:=by ext
theorem RQ{b m:Array UInt8}(ho:s.heap.get? a=O (pR b))(hd:s.heap.get? d=O (pR m))(dM:b.size+m.size<=1000)(h:aN (bW (cB aA)) {s with heap:=s.heap.update a (iz λx=>x++m)}):CC A (fE "bytearray.extend.end" ⟨[R a,it,R d],[]⟩) s aN:=by
 show jP IX Z (C.bind (C.point (C.bind (T.wX (w3 hd ⟨rfl,rfl⟩) ?_))));have wr:∀A',C A' (do Fn (R a) (· ++m);ret aA) s (Pr A aN):=λA'=>
  lD (CU ho jx (C.pure h))
 show(?_:C _ (if(!m.isEmpty)=N then(VA (R a)>>=λ_=>(do Fn (R a) (· ++m);ret aA)) else(do Fn (R a) (· ++m);ret aA)) s _);cases E:(!m.isEmpty) with
 |true=>show C.bind (YZ ho (wr _))
 |false=>show wr _
theorem PB{b:Array UInt8}(hh:dh A)(hi:fk items.toList (ns.map ai))(D:∀n∈ns,n<256)(dM:b.size+ns.length<=1000)(hda:d≠a)(hdI:d≠I)(YT:d≠l)(haI:a≠I)(hlI:l≠I)(hI0:aK.heap.get? I=ah)(hd0:aK.heap.get? d=ah)(hR:∀Y,Tn [a] aK Y->Y.heap.get? a=O (pR (b++rZ ns))->aN (bW (cB aA)) Y):
 ∀(k i:Nat) (s:ae),i+k=ns.length->Tn [a] aK s->s.heap.get? a=O (pR b)->s.heap.get? d=O (pR (rZ (ns.take i)))->s.heap.IsListIter I l i->s.heap.IsList l items->
  CC A (fE "bytearray.extend.loop" ⟨[R a,R l,R I,R d],[]⟩) s aN:=by
 have hl:=hi.length;intro k;induction k with
 |zero=>
  intro i s hik t0 ha hd hI hL;obtain rfl:i=ns.length:=hik;show jP w4 Z (C.bind (T.wc (Ka hh hI hL (by simp at hl ⊢;show kY hl) λh' E=>?_)));have ka:=E a _ haI ha;have kd:h'.get? d=O (pR (rZ ns)):=by have:=E d _ hdI hd;rwa [sY]at this
  show C.pure ⟨lL IY _,RQ ka kd (by simp[rZ];lia) ?_⟩;have t1:Tn [a] aK {s with heap:=h'}:=⟨λc o hc e=>E c o (λq=>by subst q;have e:=hI0.symm.trans e;ext) (t0.keep c o hc e),λc o e=>dF (t0.there c o e) λo' e'=>⟨o',E c o' (λq=>by subst q;have e:=hI0.symm.trans e;ext) e'⟩,t0.os,t0.drawn,t0.gens⟩;show fc (Tn.upd ka au) λt2 e2=>(hR _ (t1.trans t2 λ_ h=>ak h) e2)
 |succ k ih=>
  show λi s hik t0 ha hd hI hL=>jP w4 Z ?_;have ahQ:i<items.toList.length:=by simp at hl ⊢;lia
  show fc (n6 hi) λk1 k2=>(eT (k2 i items.toList[i] (dE ahQ)) λn t hn hv=>?_);replace hn:=cZ▸hn;show bf (jb.mp hn) λm hm dX=>?_;subst dX;show lD (J7 hI hL (by rw[<-Vl,dE ahQ,hv]) λh' hI' zM=>?_);have kd:=(zM.2 d hdI).trans hd;show C.bind (BU (C.holding (T.wX (v₀:=m.toUInt8) (aK:={s with heap:=h'}) ?_ ?_)))
  .show aj (iq (ώ _ _) ?_);rw[if_neg (by have:ai m=(m:Int):=rfl;simp;show EF.mp (D m (cY hm)))];show aC ⟨rfl,rfl⟩
  show lD<|u7<|lD<|CU kd (by simp[rZ];lia)<|fc (Tn.upd (X:=[d]) (s:={s with heap:=h'}) (f:=λx=>x.push m.toUInt8) kd au) λt2 e2=>have t1:Tn [I] s {s with heap:=h'}:=.same zM au (bf hI' λo e _=>⟨o,e⟩);C.pure ⟨lL w5 _,ih (i+1) _ (by simp_all+arith) ((t0.trans t1 λc hc=>aw (by show(bJ.mp hc)▸?_;show hI0)).trans t2 λc hc=>aw (by show(bJ.mp hc)▸?_;show hd0)) (t2.keep a _ (by simp;show hda.symm) ((zM.2 a haI).trans ha)) ?_ (hI'.at λo e=>t2.keep I o (by simp;show hdI.symm) e) ((hL.extBut zM.extBut hlI).at λo e=>t2.keep l o (by simp;show YT.symm) e)⟩;rw[e2,AK,hm];simp[rZ]
theorem ϖ:fZ (ao "list") (aB "__len__")=pure (O (bB "list.__len__")):=by ext
theorem Y0(hT:s.TypeIs (R l) "list"):Lake.T A (abA "bytearray.extend" (R l)) s (λv Y=>Y=s/\v=()):=aj<|jF hT ϖ<|aj<|mj hT sub_list_self<|aC ⟨rfl,rfl⟩
theorem Y1(h:Q (R s.heap.objs.size) {s with heap:=s.heap.push (pR #[])}):aE M A (abz #[]) Q a0 s:=by obtain⟨hp,g,d,tk,os⟩:=s;wp_walk;show h
theorem JF(as:sV):oi (fE "bytearray.extend" as)=N:=rfl
theorem w6{b:Array UInt8}(hh:dh A)(ha:s.heap.get? a=O (pR b))(hl:s.heap.get? l=O (bp vs n))(hi:fk vs (ns.map ai))(D:∀n∈ns,n<256)(dM:b.size+ns.length<=1000)(hq:∀Y,Tn [a] s Y->Y.heap.get? a=O (pR (b++rZ ns))->Q aA Y):C A (call (bB "bytearray.extend") [R a,R l] []) s Q:=by
 show oq (eU ha) pE wk (wZ _ _) (JF _)<|C.bind<|C.eq Z<|C.bind<|T.wX (jF ((cn _ hl Z)) F.bm_no_buffer ⟨rfl,rfl⟩)<|ee aL (C.bind (BU (T.wc (uV (bU hl) ?_))))
 let s1:ae:={s with heap:=s.heap.push {cls:=ao "list_iterator",data:=bF #[R l,ag 0 0]}};have hl1:s1.heap.get? l=O (bp vs n):=aZ _ hl;have hI1:s1.heap.get? s.heap.objs.size=O {cls:=ao "list_iterator",data:=bF #[R l,ag 0 0]}:=bI _ Z;have hsz:s1.heap.objs.size=s.heap.objs.size+1:=dD ..;have Gu:=cj hl;have haa:=cj ha;show lJ<|T.wX (aK:=s1) (Y0 ((cn _ hl1 Z)))<|C.bind<|T.wX (Y1 ⟨rfl,rfl⟩)<|C.pure ⟨lL w5 _,PB hh (hi) D dM (by rw[hsz];show λe=>j5.mpr (lQ s.heap.objs.size) (by have h2:=haa;rw[<-e]at h2;show h2)) (by rw[hsz];show yn _) (by rw[hsz];show λe=>j5.mpr (lQ s.heap.objs.size) (by have h2:=Gu;rw[<-e]at h2;show h2)) ?_ ?_ (bz _) ?_ (λs3 t3 e3=>⟨_,rfl,hq s3 t3 e3⟩) ns.length 0 _ (qt ns.length)
  ((Tn.push [a] s _).trans (Tn.push [a] s1 _) (λ_ h=>ak h)) (aZ _ (aZ _ ha)) ?_ (kJ _ (aZ _ hI1) Z Z) (bU (aZ _ hl1))⟩
 .show λe=>by rw[<-e]at haa;show gv _ haa
 .show λe=>by rw[<-e]at Gu;show gv _ Gu
 .cases q:s.heap.get? s1.heap.objs.size with
  |none=>rfl
  |some o=>have:=cj q;rw[hsz]at this;show((Nat.not_succ_lt_self) this).elim
 .show bI _ Z
theorem IZ:fZ (ao "bytes") (aB "__release_buffer__")=pure ah:=by ext
theorem w7:oF (ao "bytes") (ao "bytes")=pure N:=by ext
theorem Y2{Q:Bool->ae->Prop}(hT:s.TypeIs v "bytes")(h:Q N s):aE M A (VD v "__buffer__") Q a0 s:=by show aj<|jF hT Wo<|(?_:aE _ _ (if(!"bytes.__buffer__".endsWith ("." ++ "__buffer__"))=N then pure ab else ro _ _) _ _ _);rw[if_neg (by decide+kernel),show "bytes.__buffer__".dropRight ("__buffer__".length+1)= "bytes" from by decide+kernel];show mj hT w7 h
def CV(A:bR)(a:af)(b:Array UInt8)(t:a8)(Q:aa->ae->Prop):Prop:=∀{s:ae} (ha:s.heap.get? a=O (pR b)) (dM:b.size<=1000) (hq:∀Y,Tn [a] s Y->Y.heap.get? a=O (pR b)->Q aA Y),C A (call (bB "bytearray.extend") [R a,uS #[] t] []) s Q
def Hl(c:((bR×af)×(Array UInt8))×(a8×(aa->ae->Prop))):Prop:=CV c.1.1.1 c.1.1.2 c.1.2 c.2.1 c.2.2
def su:=Bm Hl inferInstance
def RS:=su.1.1.2
def Nm:=su.1.2
def ϗ:=su.2.1
theorem Ϙ:CV su.1.1.1 RS Nm ϗ su.2.2:=λ{s} ha dM hq=>by show oq (eU ha) pE wk (wZ _ _) (JF _) ?_;unfold Builtin.«bytearray.extend»;show Lake.T.wc ?_;unfold Lake.T;obtain⟨hp,g,d,tk,os⟩:=s;have WL:hp.get? RS=O {cls:=ao "bytearray",data:=ja Nm}:=ha;have hT:(⟨hp,g,d,tk,os⟩:ae).TypeIs (uS #[] ϗ) "bytes" :=rfl;have k1:=Wo;have k2:=IZ;have k3:=w7;wp_walk using (Y2 hT);have Pz:(iz (λx=>x++#[]) {cls:=ao "bytearray",data:=ja Nm}).data.pastItsLine=ah:=BX Nm jx;rw[Pz];wp_walk;show fc (Tn.upd (X:=[RS]) (s:=⟨hp,g,d,tk,os⟩) (f:=λx=>x++#[]) ha bw) λt2 e2=>?_;show⟨_,rfl,hq _ t2 (e2)⟩
theorem I1{b:Array UInt8}{t:a8}:CV A a b t Q:=Yw (P:=Hl) Ϙ (((A,a),b),(t,Q))
theorem lG:lM "bytearray_iterator" "__next__" "bytearray_iterator.__next__" :=
 nt (owner:= "bytearray_iterator") (n:= "__next__") (rfl) (rfl) (rfl) (rfl)
  (by first|show ak (rfl)|show .inr (rfl)) (rfl)
theorem zu:lM "bytearray_iterator" "__iter__" "bytearray_iterator.__iter__" :=
 nt (owner:= "bytearray_iterator") (n:= "__iter__") (rfl) (rfl) (rfl) (rfl)
  (by first|show ak (rfl)|show .inr (rfl)) (rfl)
theorem w9:gQ table "bytearray_iterator.__next__" =O Builtin.«bytearray_iterator.__next__»:=mi (rfl)
theorem Hm:gQ table "bytearray_iterator.__iter__" =O Builtin.«dict_keyiterator.__iter__»:=Kl (id':= "dict_keyiterator.__iter__") ((xK _).trans bG) aL bG ((xK _).trans bG)
theorem I3:gQ table "bytearray.__iter__" =O Builtin.«bytearray.__iter__»:=mi (rfl)
theorem Nn(a:aa):j0 "bytearray.__iter__" ⟨[a],[]⟩:=vq bG
theorem zv(a:aa):j0 "bytearray_iterator.__next__" ⟨[a],[]⟩:=by ext
theorem I4(a:aa):j0 "bytearray_iterator.__iter__" ⟨[a],[]⟩:=by ext
def xa(h:aQ)(I a:af)(i:Nat):Prop:=h.get? I=O {cls:=ao "bytearray_iterator",data:=bF #[R a,ag (i:Int) 0]}
theorem I5{b:Array UInt8}(ha:s.heap.get? a=O (pR b))(hQ:Q (R s.heap.objs.size) {s with heap:=s.heap.push {cls:=ao "bytearray_iterator",data:=bF #[R a,ag 0 0]}}):
 aE (aD prog w) A (gn (R a)) Q a0 s:=by
 show Kf (eU ha) BV (jU BV (eU ha) I3 ?_ (Nn _));obtain⟨hp,g,d,tk,os⟩:=s;wp_walk;show⟨_,rfl, "bytearray_iterator",_,(cn _ (bI _ Z) Z),lG.lookup,hQ⟩
theorem PC{b:Array UInt8}{x:UInt8}{Q:Option aa->ae->Prop}(hI:xa s.heap I a i)(ha:s.heap.get? a=O (pR b))(E:b[i]? =O x)(hQ:∀h',xa h' I a (i+1)->gu I s.heap h'->Q (O (ag (x.toNat:Int) s.toks)) {s with heap:=h',toks:=s.toks+1}):aE (aD prog w) A (gY (R I)) Q a0 s:=by have hT:s.TypeIs (R I) "bytearray_iterator" :=cn _ hI Z;show aj (u5 (jT hT lG (jU lG hT w9 ?_ (zv _))));unfold pR at ha;obtain⟨hp,g,d,tk,os⟩:=s;have hI':hp.get? I=O {cls:=ao "bytearray_iterator",data:=bF #[R a,ag (↑i) 0]}:=hI;wp_walk;show((by simpa using E:b[((i:Nat):Int).toNat]? =O x)).symm▸aj (Ap hI' Z (EZ [].length) ?_);wp_walk;show cn _ Z (aC (hQ _ ?_ (j8 ..)));change(hp.update I _).get? I=_;rw[ie _ hI' Z];rfl
theorem PD{b:Array UInt8}{Q:Option aa->ae->Prop}(hh:dh A)(hI:xa s.heap I a b.size)(ha:s.heap.get? a=O (pR b))(hQ:∀h',KR I s.heap h'->Q ah {s with heap:=h'}):aE (aD prog w) A (gY (R I)) Q a0 s:=by have hT:s.TypeIs (R I) "bytearray_iterator" :=cn _ hI Z;show aj (u5 (jT hT lG (jU lG hT w9 ?_ (zv _))));obtain⟨hp,g,d,tk,os⟩:=s;have hI':hp.get? I=O {cls:=ao "bytearray_iterator",data:=bF #[R a,ag (↑b.size) 0]}:=hI;wp_walk;show((by simp:b[((b.size:Nat):Int).toNat]? =ah)).symm▸aj (rl (aj (Ap hI' Z (TM Z) (aj (u7 ?_)))));show aj (aj (ip ?_ (by size_fits)));show aj<|iq (a:=aA) (by first|rfl|(rfl))<|ip ?_ (by size_fits);show aj<|Kq<|(hh).symm▸Kw ?_;show aj (mj (cn _ (bI _ Z) Z) Km ?_);show aC (hQ _ (((j8 ..).extBut.push _).push _))
theorem PE(hI:xa s.heap I a i)(h:Q (R I) s):aE (aD prog w) A (gn (R I)) Q a0 s:=by have hT:s.TypeIs (R I) "bytearray_iterator" :=cn _ hI Z;show Kf hT zu (jU zu hT Hm ?_ (I4 _));show aC ⟨_,rfl, "bytearray_iterator",_,hT,lG.lookup,h⟩
theorem ϙ(hh:dh A)(I a:af)(qK:a≠I)(b:Array UInt8):
 mU prog w A I [I,a] [I] b.size (λi v=>∃x t,b[i]? =O x/\v=ag (x.toNat:Int) t) (λi h=>xa h I a i/\h.get? a=O (pR b)) where
 sub:=λb D=>by have D:=bJ.mp D;lia
 frame:=λi h h' st hk=>⟨hk I au _ st.1,hk a au _ st.2⟩
 item:=λi s Q a0 hi st hQ=>PC (x:=b[i]) st.1 st.2 fF λh' akw zM=>hQ _ h' _ (kK (b[i]) _ fF Z) ⟨akw,zM.extBut a _ qK st.2⟩ λc o hc e=>zM.extBut c o (λh=>hc au) e
 done:=λs Q a0 st hQ=>PD hh st.1 st.2 λh' Jt=>hQ h' s.toks λc o hc e=>Jt c o (λh=>hc au) e
 self:=λ_ _ _ _ st hQ=>PE st.1 hQ
theorem PF:fZ (ao "bytearray") (aB "__len__")=pure (O (bB "bytearray.__len__")):=wY.lookup
def CW(A:bR)(a0:aa->ae->Prop)(s:ae)(a:af)(b:Array UInt8)(Q:Bool->ae->Prop):Prop:=∀(ha:s.heap.get? a=O (pR b)) (h:Q ab s),aE (aD prog w) A (abI (R a)) Q a0 s
def Hn(c:((bR×(aa->ae->Prop))×ae)×((af×(Array UInt8))×(Bool->ae->Prop))):Prop:=CW c.1.1.1 c.1.1.2 c.1.2 c.2.1.1 c.2.1.2 c.2.2
def qb:=Bm Hn inferInstance
theorem Ϛ:CW qb.1.1.1 qb.1.1.2 qb.1.2 qb.2.1.1 qb.2.1.2 qb.2.2:=λha h=>aj<|jF (eU ha) PF<|aj<|mj (eU ha) oj<|aj<|rj (eU ha)<|aC h
theorem acC{b:Array UInt8}{Q:Bool->ae->Prop}:CW A a0 s a b Q:=Yw (P:=Hn) Ϛ (((A,a0),s),((a,b),Q))
def CX(A:bR)(a0:aa->ae->Prop)(s:ae)(a:af)(b:Array UInt8)(Q:aa->ae->Prop):Prop:=∀(hh:dh A) (ha:s.heap.get? a=O (pR b)) (dM:b.size<=1000) (hQ:∀h' tk I6 c',(uk s.heap h')->h'.get? s.heap.objs.size=O {cls:=ao "list",dict:=ah,data:=bQ I6 c',slots:=#[]}->
 ItemsOf (λi v=>∃x t,b[i]? =O x/\v=ag (x.toNat:Int) t) I6 b.size->Q (R s.heap.objs.size) {s with heap:=h',toks:=tk}),aE (aD prog w) A (call (ao "list") [R a]) Q a0 s
def Ho(c:((bR×(aa->ae->Prop))×ae)×((af×(Array UInt8))×(aa->ae->Prop))):Prop:=CX c.1.1.1 c.1.1.2 c.1.2 c.2.1.1 c.2.1.2 c.2.2
def qc:=Bm Ho inferInstance
def ϛ:=qc.1.1.1
def qY:=qc.1.2
def Np:=qc.2.1.1
def Nq:=qc.2.1.2
theorem Ϝ:CX ϛ qc.1.1.2 qY Np Nq qc.2.2:=λhh ha dM hQ=>by
 show callType_codes (Q₁:=λobj ax=>obj=R qY.heap.objs.size/\ax={qY with heap:=qY.heap.push {cls:=ao "list",data:=bQ #[]}}) PySem.F.called_list (PySem.F.typeCall_list_1 _) PySem.F.entry_list_init
  (code_list_new _ ⟨rfl,rfl⟩) λobj ax U=>?_
 obtain⟨rfl,rfl⟩:=U;have hS:(qY.heap.push {cls:=ao "list",data:=bQ #[]}).get? qY.heap.objs.size=O {cls:=ao "list",data:=bQ #[]}:=bI _ Z;show gI ⟨_,hS,rfl⟩ (PySem.F.args_list_init_2 _ _)<|have hSa:=eS (fB (cj ha));aj<|aj<|jV hS Z<|aC<|aj<|uX hS Z<|have Hp:=ie (dO (λ_=>(#[]:Array aa))) hS Z;aj (u7 ?_);generalize hh1:(qY.heap.push {cls:=ao "list",data:=bQ #[]}).update qY.heap.objs.size (dO λ_=>#[])=h1 at *;have ka:h1.get? Np=O (pR Nq):=by rw[<-hh1,mr _ _ hSa];show aZ _ ha
 have akx:∀c o,qY.heap.get? c=O o->h1.get? c=O o:=λc o e=>by rw[<-hh1,mr _ _ (eS (fB (cj e)))];show aZ _ e
 have ahR:h1.objs.size=qY.heap.objs.size+1:=by rw[<-hh1,Heap.size_after_update];show dD ..
 show aj (rj (cn _ ka Z) ?_);have e1:yx (R qY.heap.objs.size) (R Np)=ab:=by simp[yx,hSa]
 simp only[e1,LO,U7,if_false];show aj<|I5 ka<|aj (cQ (acC (aZ _ ka) ?_));show aC ⟨lL Fu _,?_⟩;show TQ ((ϙ (A:=ϛ.in1.in1) hh h1.objs.size Np (λe=>by rw[e]at ka;show gv _ (cj ka)) Nq).toS) au qY.heap.objs.size (λhm=>?_) aA Nq.size 0 _ #[] _ Z (fj _) ⟨bI _ Z,aZ _ ka⟩ (aZ _ Hp) (Wz _) λY I6 c' hm hS' oy=>?_
 .simp at hm;show ba hm (λe=>by rw[ahR]at e;show absurd e (fB (iZ _))) λe=>hSa e
 .rw [Moved.eq_with hm];show⟨rfl,hQ Y.heap Y.toks I6 c' (λc o e=>hm.heap c o (λhmem=>?_) (aZ _ (akx c o e))) hS' oy⟩;have hc:=cj e;rcases bq.mp hmem with e' |hmem
  .rw [e']at hc;show gv _ hc
  .rw [bJ.mp hmem,ahR]at hc;show absurd hc (j5.mpr (lQ _))
theorem PG{b:Array UInt8}:CX A a0 s a b Q:=Yw (P:=Ho) Ϝ (((A,a0),s),((a,b),Q))
theorem I7:fZ (ao "slice") (aB "__index__")=pure ah:=by ext
theorem Y3:fZ (ao "tuple") (aB "__int__")=pure ah:=by ext
theorem PH:fZ (ao "tuple") (aB "__float__")=pure ah:=by ext
theorem afC:oF (ao "tuple") (ao "bytearray")=pure ab:=by ext
theorem afD:oF (ao "tuple") (ao "complex")=pure ab:=by ext
theorem JG{k m:Int}{t:a8}{Q:aa×aa×aa->ae->Prop}(hs:s.heap.get? sl=O {cls:=ao "slice",data:=bF #[ag k t,ag m u,aA]})(h:Q (da k,da m,aA) s):aE M A (abB (R sl)) Q a0 s:=by obtain⟨hp,g,d,tk,os⟩:=s;have hii:=xM;wp_walk;show h
theorem ϝ(hl:s.heap.get? l=O (cV vs n)):aE M A (asStr? (R l)) (λx Y=>Y=s/\x=ah) a0 s:=by obtain⟨hp,g,d,tk,os⟩:=s;wp_walk;show⟨rfl,rfl⟩
def CY(A:bR)(s:ae)(a:af)(sl:af)(l:af)(b:Array UInt8)(k:Nat)(m:Nat)(t:a8)(u:a8)(vs:List aa)(ns:LN)(n:Nat)(Q:iW->ae->Prop):Prop:=∀(ho:s.heap.get? a=O (pR b)) (hs:s.heap.get? sl=O {cls:=ao "slice",data:=bF #[ag (k:Int) t,ag (m:Int) u,aA]}) (hl:s.heap.get? l=O (cV vs n)) (hi:fk vs (ns.map ai)) (D:∀n∈ns,n<256) (hm:m<=b.size) (Q0:k+ns.length=m) (dM:b.size<=1000) (hq:∀Y,Tn [a] s Y->Y.heap.get? a=O (pR (b.extract 0 k++rZ ns++b.extract m b.size))->Q (nr (cB aA)) Y),C A (Builtin.«bytearray.__setitem__» ⟨[R a,R sl,R l],[]⟩) s Q
def Hq(c:(((bR×ae)×(af×af))×((af×(Array UInt8))×Nat))×(((Nat×a8)×(a8×(List aa)))×(((LN)×Nat)×(iW->ae->Prop)))):Prop:=CY c.1.1.1.1 c.1.1.1.2 c.1.1.2.1 c.1.1.2.2 c.1.2.1.1 c.1.2.1.2 c.1.2.2 c.2.1.1.1 c.2.1.1.2 c.2.1.2.1 c.2.1.2.2 c.2.2.1.1 c.2.2.1.2 c.2.2.2
def hU:=Bm Hq inferInstance
def zX:=hU.1.1.1.2
def Nr:=hU.1.1.2.1
def Xi:=hU.1.1.2.2
def RT:=hU.1.2.1.1
def Hr:=hU.1.2.1.2
def Hs:=hU.1.2.2
def CZ:=hU.2.1.1.1
def Xj:=hU.2.2.1.1
def Ϟ:=hU.2.2.1.2
theorem ϟ:CY hU.1.1.1.1 zX Nr Xi RT Hr Hs CZ hU.2.1.1.2 hU.2.1.2.1 hU.2.1.2.2 Xj Ϟ hU.2.2.2:=λho hs hl hi D hm Q0 dM hq=>by
 have hTs:zX.TypeIs (R Xi) "slice" :=cn _ hs Z;have hTt:zX.TypeIs (R RT) "tuple" :=cn _ hl Z;have CS:Nr≠RT:=λe=>by rw[e,hl]at ho;simp[pR,cV]at ho
 show C.bind (T.wX (v₀:=ah) (aK:=zX) ?_ ?_)
 .show aj<|jF hTs I7<|aC ⟨rfl,rfl⟩
 show C.bind<|T.wc<|rj hTs<|ee aL<|C.bind<|T.wc<|JG hs<|ee (Bool.not_eq_true _▸beq_false_of_ne CS)<|C.bind<|T.wc<|mj hTt afC<|C.bind (T.wX (v₀:=ab) (aK:=zX) ?_ ?_)
 .show aj<|aj<|jF hTt (He "tuple" (aw Z)).1<|aC<|aj<|aj<|jF hTt Y3<|aC<|aj<|aj<|jF hTt PH<|aC<|mj hTt afD ⟨rfl,rfl⟩
 show C.bind<|T.wX (ϝ hl)<|ee aL<|C.bind<|C.rule<|C.bind<|uJ _ Ϟ hl (aw Z) hi D au<|lJ (T.wc (JG (aZ _ hs) ?_));show C.bind (T.wc (w3 (bI _ Z) ?_));show C.bind (T.wc (w3 (aZ _ ho) ?_));show C.bind (C.eq (BY Hs CZ Hr.size) ?_);have h1:min (Hs:Int) Hr.size=Hs:=by lia
 have h3:max (Hs:Int) CZ=CZ:=by lia
 simp only[h1,(by lia:min (CZ:Int) Hr.size=CZ),h3];show C.bind<|C.rule<|ee (by simp[rZ];lia)<|have Ϡ:(zX.heap.push (pR (rZ Xj))).get? Nr=O (pR Hr):=aZ _ ho;C.bind<|T.wc<|CU Ϡ (by simp[rZ];lia)<|C.pure<|fc (Tn.upd Ϡ au) λt2 e2=>(hq _ ((Tn.push [Nr] zX _).trans t2 λ_ h=>ak h) (e2))
theorem PI{b:Array UInt8}{m:Nat}{t:a8}{Q:iW->ae->Prop}:CY A s a sl l b k m t u vs ns n Q:=Yw (P:=Hq) ϟ ((((A,s),(a,sl)),((l,b),k)),(((m,t),(u,vs)),((ns,n),Q)))
abbrev Sg:=List (af×bE)
noncomputable def Ht(o:bE):Bool:=match o.data with
 |oS _=>ab
 |bQ ..=> !(o.cls==ao "list")
 |_=>N
def zY(U:aQ)(S:Sg)(h:aQ):Prop:=∀p∈S,h.get? p.1=O p.2/\p.1∉bX/\Ht p.2=N/\U.get? p.1=ah
structure sL(W:List af)(s Y:ae):Prop where
 mod:Mod W s.heap Y.heap
 os:Y.os=s.os
 drawn:Y.drawn=s.drawn
 gens:nY s.gens Y.gens
theorem sL.refl(W:List af)(s:ae):sL W s s:=⟨.refl _ _,rfl,rfl,.refl _⟩
protected theorem mD.p(m:mD W s Y):sL W s Y:=⟨m.mod,m.os,m.drawn,.of m.gens⟩
theorem sL.trans{a b c:ae}(x:sL W a b)(y:sL W' b c)(hw:∀d,d∈W'->d∈W\/a.heap.get? d=ah):sL W a c:=
 ⟨x.mod.trans y.mod hw,y.os.trans x.os,y.drawn.trans x.drawn,y.gens.trans x.gens⟩
theorem sL.off(m:sL W s Y)(keep:∀b o,b∉wr->Y.heap.get? b=O o->h'.get? b=O o)(hw:∀b∈wr,s.heap.get? b=ah/\b∉bX):sL W s {Y with heap:=h',toks:=tk}:=
 have q:mD W {Y with heap:=s.heap} {Y with heap:=h',toks:=tk}:=mD.off ⟨m.mod,rfl,rfl,rfl⟩ keep hw
 ⟨q.mod,m.os,m.drawn,m.gens⟩
section
variable(H:List af)(U:aQ)
structure PS(L:dw)(J:cI)(aK:ae)(bo bu:List af)(G:iB)(S:Sg)(s:ae):Prop where
 fr:∃W,FR H U U L J s.heap G W/\(∀b∈W,b∈bo\/aK.heap.get? b=ah)/\∀p∈S,p.1∉W
 sg:zY U S s.heap
 mod:sL (bo++bu) aK s
 lE:∀p∈S,p.1∈bu\/aK.heap.get? p.1=ah
end
section
variable{H:List af}{U:aQ}{S S':Sg}{Q:cb->ae->Prop}
theorem FR.rebase(r:FR H U D L J h G W):FR H U U L J h G W:=
 ⟨.refl _,r.base,r.scope,r.kind,r.glob,r.bi,r.loc,r.ns,r.cell,r.pV,λb hb'=>hJ (r.jh b hb') λa b' c=>(gI (r.b1.new a) b' c),r.ents⟩
theorem PS.ext(p:PS H U L J aK bo bu G S s):gU H U s.heap:=gC p.fr λ_ r _ _=>r.base
theorem PS.er(p:PS H U L J aK bo bu G S s):ER H s.heap L J s.heap G:=by show bf p.fr λW r _=>have e:=r.er;⟨.refl _,e.kind,e.gl,e.WH,e.glob,e.bi,e.loc,e.has⟩
theorem cx.ext(B:cx U mg mb)(x:gU H U h):cx h mg mb where
 g:=B.mg x
 b:=B.mb x
 lim:=B.zl x
 top:=dF B.top λo e=>x.there _ o e
 bmod:=l0 B.bmod λbm o e1 e2 e3 e4 e5=>ε bm o e1 e2 e3 (x.keep bm o e3 e4) e5
theorem FnAt.ext(f:FnAt U a fd)(x:gU H U h):FnAt h a fd where
 obj:=bf f.obj λo e d=>cn o (x.keep a o f.off e) d
 off:=f.off
 code:=gr f.code λc oc ws t e1 e2 e3 e4=>DX c oc ws t e1 e2 (x.keep c oc e2 e3) e4
theorem PS.base(p:PS H U L J aK bo bu G S s)(B:cx U mg mb):cx s.heap mg mb:=B.ext p.ext
theorem PS.get(p:PS H U L J aK bo bu G S s)(h:(a,o)∈S):s.heap.get? a=O o:=(p.sg _ h).1
theorem zY.mod(cA:zY U S h)(m:Mod W h h')(hw:∀p∈S,p.1∉W):zY U S h':=λp hp=>iL (cA p hp) λa b c d=>rT (m.keep _ _ (hw p hp) b a) b c d
theorem zY.ext(cA:zY U S h)(x:gU H h h'):zY U S h':=λp hp=>iL (cA p hp) λa b c d=>rT (x.keep _ _ b a) b c d
theorem PS.step(p:PS H U L J aK bo bu G S s)(r:FR H U U L J s.heap G W)(hW:(∀b∈W,b∈bo\/aK.heap.get? b=ah)/\∀p∈S,p.1∉W)(m:mD W s Y)(r':FR τ' U U L J Y.heap G' W')(CE:∀d,d∈W'->d∈W\/s.heap.get? d=ah):PS τ' U L J aK bo bu G' S Y where
 fr:=⟨W',r',λb D=>by
  show ba (CE b D) (λq=>hW.1 b q) λq=>aw (p.mod.mod.new q),λx E q=>by
  rcases CE _ q with q|q
  .show hW.2 x E q
  .have q:=((p.sg x E).1).symm.trans q;ext⟩
 sg:=p.sg.mod m.mod hW.2
 mod:=p.mod.trans m.p λd hd=>ba (hW.1 d hd) (λq=>ak (de _ q)) λq=>aw q
 lE:=p.lE
theorem PS.grow(p:PS H U L J aK bo bu G S s)(x:dG H s Y):PS H U L J aK bo bu G S Y:=
 bf p.fr λW r hW=>(p.step r hW (x.smod W) (r.grow x.ext) λd hd=>ak hd)
theorem PS.less(p:PS H U L J aK bo bu G S s)(g:kr G' G):PS H U L J aK bo bu G' S s:=bf p.fr λW r hW=>⟨(cn W (r.less g) hW),p.sg,p.mod,p.lE⟩
theorem PS.share(p:PS H U L J aK bo bu G S s)(y:Nat):PS H U L J aK bo bu (Lake.share G y) S s:=bf p.fr λW r hW=>gC (r.share y) λW' r' hw _=>⟨(kJ W' r' (λb D=>hW.1 b (hw b D)) (λx E q=>hW.2 x E (hw _ q))),p.sg,p.mod,p.lE⟩
theorem PS.sub(p:PS H U L J aK bo bu G S s)(h:∀x∈S',x∈S):PS H U L J aK bo bu G S' s:=⟨gC p.fr λW r a b=>(kJ W r a (λx E=>b x (h x E))),λx E=>p.sg x (h x E),p.mod,λx E=>p.lE x (h x E)⟩
noncomputable def RU(o:bE):Bool:=match o.data with
 |ja ..=>N
 |tF=>N
 |_=>ab
theorem ϡ(e:h.get? a=O o)(hi:RU o=N):kP h a:=by
 show cn o e ?_;unfold RU at hi;cases q:o.data with
 |bytearray b n=>show aw (aw (ak (qG b n Z)))
 |plain=>show aw (aw (aw Z))
 |_=>have hi:=q▸hi;show II (by assumption)
theorem PS.aeL(p:PS H U L J aK bo bu G S s)(ha:(a,o)∈S)(hi:s.heap.get? a=O o->kP s.heap a)(t:Tn [a] s Y)(ho:Y.heap.get? a=O o')(hs:Ht o'=N)(hS:∀x∈S',(x.1=a/\x.2=o')\/(x.1≠a/\x∈S)):PS H U L J aK bo bu G S' Y:=by
 show bf p.fr λW r hW=>iL (p.sg _ ha) λe1 e2 e3 e4=>have hnW:=hW.2 _ ha;⟨(kJ W (r.off (λb o D e=>t.keep b o D e) (λb D=>by show(bJ.mp D)▸?_;show⟨hi e1,e2,e4,hnW⟩)) hW.1 (λx E=>?_)),λx E=>?_,p.mod.trans (t.smod λb D=>by show bJ.mp D▸?_;show e2).p λd hd=>?_,λx E=>?_⟩
 .rcases hS x E with⟨q1,q2⟩|⟨q1,q2⟩
  .show q1.symm▸hnW
  .show hW.2 x q2
 .rcases hS x E with⟨q1,q2⟩|⟨q1,q2⟩
  .show q1.symm▸q2.symm▸rT ho e2 hs e4
  .show iL (p.sg x q2) λc1 c2 c3 c4=>rT (t.keep _ _ (by simpa using q1) c1) c2 c3 c4
 .apply jR hd;show ba (p.lE _ ha) (λq=>ak (ew _ q)) λq=>aw q
 .rcases hS x E with⟨q1,q2⟩|⟨q1,q2⟩
  .show q1.symm▸p.lE _ ha
  .show p.lE x q2
protected theorem PS.turn(p:PS H U L J aK bo bu G S s)(ha:(a,o)∈S)(hi:RU o=N)(t:Tn [a] s Y)(ho:Y.heap.get? a=O o')(hs:Ht o'=N)(hS:∀x∈S',(x.1=a/\x.2=o')\/(x.1≠a/\x∈S)):PS H U L J aK bo bu G S' Y:=p.aeL ha (ϡ · hi) t ho hs hS
theorem PS.here(p:PS H U L J aK bo bu G S s):∃W,(∀b∈W,b∈bo\/aK.heap.get? b=ah)/\PS H U L J s W (S.map (·.1)) G S s:=
 bf p.fr λW r hW=>⟨W,hW.1,(kJ W r (λb D=>ak D) hW.2),p.sg,.refl _ _,λx E=>ak (bH.mpr (cn x E Z))⟩
theorem PS.back(p:PS H U L J aK bo bu G S s)(hW:∀b∈W,b∈bo\/aK.heap.get? b=ah)(q:PS τ' U L J s W (S.map (·.1)) G' S' Y):PS τ' U L J aK bo bu G' S' Y where
 fr:=gC q.fr λW' r h h2=>⟨W',r,λb D=>by
  rcases h b D with x|x
  .show hW b x
  .show aw (p.mod.mod.new x),h2⟩
 sg:=q.sg
 mod:=p.mod.trans q.mod λd hd=>by
  rcases bZ.mp hd with x|x
  .show ba (hW d x) (λy=>ak (de _ y)) λy=>aw y
  .show bf (bH.mp x) λz hz dX=>dX▸ba (p.lE z hz) (λy=>ak (ew _ y)) λy=>aw y
 lE:=λx E=>by
  rcases q.lE x E with y|y
  .show bf (bH.mp y) λz hz e=>e▸p.lE z hz
  .show aw (p.mod.mod.new y)
def acD(A:bR)(J:cI)(rest:List cg)(Q:cb->ae->Prop)(f:cb)(s:ae):Prop:=match f with
 |cL=>C A (aU rest J) s Q
 |f=>Q f s
theorem fg(h:Q cL s):C A (aU [] J) s Q:=λ_ _ _ _=>h
theorem ij(h:C A (oJ st J) s (acD A J rest Q)):C A (aU (st::rest) J) s Q:=λΓ p wj hc=>by rw[KC,Wb];show tL (aD prog w) Γ _ (λf p' Y h'=>?_) (λ_ _ _ h'=>h') _ _ (h Γ p wj hc);cases f<;>first|show h' Γ p' wj hc|show h'
theorem Y4(l rest:List cg)(J:cI):aU (l++rest) J=aU l J>>=λf=>match f with|cL=>aU rest J|f=>pure f:=by
 induction l with
 |nil=>show(?_:aU rest J=(pure cL:aI cb)>>=_);rw[pure_bind]
 |cons st l ih=>
  rw[ES,KC,KC,bind_assoc];congr 1
  funext f
  cases f with
  |next=>show ih
  |_=>rfl
theorem afE{l:List cg}(h:C A (aU l J) s (acD A J rest Q)):C A (aU (l++rest) J) s Q:=by
 rw[Y4];show C.bind (h.mono λf Y h'=>?_);cases f with
 |next=>show h'
 |_=>show C.pure h'
protected theorem PS.s1(p:PS H U L J aK bo bu G S s)(x:S1m H τ' U A L J st G G' ah)(k:∀Y,PS τ' U L J aK bo bu G' S Y->C A (aU rest J) Y Q):
 C A (aU (st::rest) J) s Q:=bf p.fr λW r hW=>ij<|(x U s W r).wx λf Y ow=>oX ow λm hf W' r' CE=>hf▸k Y (p.step r hW m r' CE)
protected theorem PS.ss{l:List cg}(p:PS H U L J aK bo bu G S s)(x:pP H τ' U A L J l G G' ah)(k:∀Y,PS τ' U L J aK bo bu G' S Y->C A (aU rest J) Y Q):
 C A (aU (l++rest) J) s Q:=bf p.fr λW r hW=>afE<|(x U s W r).wx λf Y qQ=>oX qQ λm hf W' r' CE=>hf▸k Y (p.step r hW m r' CE)
theorem PS.asg(p:PS H U L J aK bo bu G S s)(he:V H s.heap A L J G e av ab)(hf:flat av=N)(dH:bT G x=N)(E:Hx L x)(hs:fz e (O (aq (NM x) q)) pos.line J=pure ab)(k:∀Y,PS H U L J aK bo bu (jk G x 0 av) S Y->C A (aU rest J) Y Q):C A (aU (ez [aq (NM x) q] e pos::rest) J) s Q:=by show bf p.fr λW r hW=>(ij (T.wx (P:=λf Y=>f=cL/\PS H U L J aK bo bu (jk G x 0 av) S Y) ?_ λf Y qQ=>fc qQ λe1 e2=>by show e1▸?_;show k Y e2));show xJ ((he s p.er).tR λv ax F e1 aO _=>?_) hs;show(kh (r.grow e1.ext) E dH aO (.flat (cW.1 _ _ _ hf aO))).Cx λ_ aP r2 m2=>⟨rfl,p.step r hW (e1.sm m2) r2 λd hd=>ak hd⟩
theorem acE(p:PS H U L J aK bo bu G S s)(he:V H s.heap A L J G e av N)(hf:we av=N)(dH:bT G x=N)(E:Hx L x)(hs:fz e (O (aq (NM x) q)) pos.line J=pure ab)(k:∀Y,PS H U L J aK bo bu (jk G x 1 av) S Y->C A (aU rest J) Y Q):C A (aU (ez [aq (NM x) q] e pos::rest) J) s Q:=by
 show bf p.fr λW r hW=>(ij (T.wx (P:=λf Y=>f=cL/\PS H U L J aK bo bu (jk G x 1 av) S Y) ?_ λf Y qQ=>fc qQ λe1 e2=>by show e1▸?_;show k Y e2));show xJ ((he s p.er).tR λv ax F e1 aO hn=>?_) hs;show fc (hn Z) λh1 h2=>((kh (r.grow e1.ext) E dH aO (.fresh h1 h2 (Gv hf aO) r e1.ext)).Cx λ_ aP r2 m2=>⟨rfl,p.step r hW (e1.sm m2) r2 λd hd=>?_⟩);rcases bZ.mp hd with q|q
 .show ak q
 .show aw (h1 d q)
theorem PS.ite{c:aG}{a b:List cg}{x:Bool}(p:PS H U L J aK bo bu G S s)(hc:pO H s.heap A L J G c x)(k:∀Y,PS H U L J aK bo bu G S Y->C A (aU (cond x a b) J) Y (acD A J rest Q)):C A (aU (yt c a b pos::rest) J) s Q:=by show ij<|nQ<|C.bind<|(hc s p.er).wx λv aP ku=>have:=k aP (p.grow ku.1);ku.2.symm▸?_;cases x<;>show this
end
variable{br L' La Lb S S':Sg}
section
variable{Q:cb->ae->Prop}
theorem Xk(I:Nat->ae->Prop)(turn:∀n s (P1:Option aa->ae->Prop) (P2:ae->Prop) (P3:cb->ae->Prop),(∀ax,C A (aU zG J) ax (λf=>aN (bW f))->P1 ah ax)->(∀v ax,C A (jE ct it v) ax (λ_ uG=>C A (jG ct J v) uG (λ_=>P2))->P1 (O v) ax)->
 (∀aP,C A (aU body J) aP P3->P2 aP)->(∀m dp,m<n->I m dp->P3 cL dp)->I n s->C A (gY it) s P1)(n:Nat)(h:I n s):CC A (Fd ct it body zG J) s aN:=by
 induction n using U0 generalizing s with
 |ind n ih=>
  show jl Z<|C.onRaise<|nQ (C.bind (C.onRaise ((turn n s (λr ax=>match r with
   |none=>C A (aU zG J) ax (λf dp=>aN (bW f) dp)
   |some v=>C A (jE ct it v) ax (λ_ uG=>C A (jG ct J v) uG (λ_ aP=>C A (aU body J) aP (λf dp=>match f with
    |cL|Flow.cont=>∃m,m<n/\I m dp
    |Flow.brk=>aN (bW cL) dp
    |cB v=>aN (bW (cB v)) dp)))) _ _ (λ_ h=>h) (λ_ _ h=>h) (λ_ h=>h) (λm _ a b=>cn m a b) h).mono λr ax U=>?_)))
  cases r with
  |none=>show C.pure ⟨rfl,jl Z ?_⟩;show C.bind (C.onRaise (C.mono U λf Y h'=>C.pure h'))
  |some v=>
   show C.bind<|C.mono U λ_ uG Α=>C.bind (C.mono Α λ_ aP ku=>C.bind (C.mono ku λf dp uq=>?_));cases f with
   |next=>obtain⟨m,hm,hI⟩:=uq;show C.pure ⟨rfl,ih m hm hI⟩
   |cont=>obtain⟨m,hm,hI⟩:=uq;show C.pure ⟨rfl,ih m hm hI⟩
   |brk=>show C.pure uq
   |ret v=>show C.pure uq
theorem Ϣ(I:Nat->ae->Prop)(turn:∀n s (P1:Option aa->ae->Prop) (P2:ae->Prop) (P3:cb->ae->Prop),(∀ax,C A (aU zG J) ax (λf=>aN (bW f))->P1 ah ax)->(∀v ax,C A (jG ct J v) ax (λ_=>P2)->P1 (O v) ax)->
 (∀aP,C A (aU body J) aP P3->P2 aP)->(∀m dp,m<n->I m dp->P3 cL dp)->I n s->C A (gY it) s P1)(n:Nat)(h:I n s)(ht:∀v,jE ct it v=pure ()):CC A (Fd ct it body zG J) s aN:=
 Xk I (λn s P1 P2 P3 a b=>turn n s P1 P2 P3 a λv ax q=>b v ax (C.eq (ht v) q)) n h
theorem RV(hs:Fs iter J)(h:C A (a7 iter J) s (λx ax=>C A (gn x) ax (λit aP=>CC A (Fd ct it body zG J) aP (λr Y=>match r with|bW f=>Q f Y|j6 _=>False)))):
 C A (oJ (j7 ct iter body zG pos) J) s Q:=nQ<|C.bind<|h.mono λx ax U=>C.bind<|C.eq (hs x)<|nQ<|lJ<|C.mono U λit aP ku=>C.onRaise (C.run ku)
inductive aky{ζ:Type}(H:List af)(U:aQ)(L:dw)(J:cI)(s:ae)(S:Sg)(W fp:List af)(iS:Nat->ζ->iB)(Sj:Nat->ζ->Sg)(St:Nat->aQ->Prop)(n₀ m:Nat)(Y:ae):Prop
 |mk (i:Nat) (z:ζ) (W':List af) (e:m=n₀+1 - i) (hi:i<=n₀) (m1:sL (W++S.map (·.1)) s Y) (st:St i Y.heap) (r:FR H U U L J Y.heap (iS i z) W') (hW:∀d,d∈W'->d∈W\/s.heap.get? d=ah) (cA:zY U (Sj i z) Y.heap)
  (kn:∀y∈Sj i z,y.1∈S.map (·.1)\/s.heap.get? y.1=ah) (dj:∀y∈Sj i z,y.1∉W') (fW:∀d∈fp,d∉W') (fS:∀d∈fp,∀y∈Sj i z,y.1≠d) (fe:∀d∈fp,∃o,Y.heap.get? d=O o)
theorem yN(x:Nat)(ns:List Int)(iS:Nat->ζ->iB)(Sj:Nat->ζ->Sg)(afF:ζ)(p:PS H U L J aK bo bu G S s)(uu:zp H s.heap A L J G iter ns)(h0:kr (iS 0 afF) G)(D':∀y∈Sj 0 afF,y∈S)(E:Hx L x)(dH:∀i z,i<ns.length->bT (iS i z) x=N)(step:∀i n z ax W,ns[i]? =O n->PS H U L J ax W ((Sj i z).map (·.1)) (jk (iS i z) x 0 (a6 n)) (Sj i z) ax->
 C A (aU body J) ax (λf aP=>f=cL/\∃z',PS H U L J ax W ((Sj i z).map (·.1)) (iS (i+1) z') (Sj (i+1) z') aP))(hs:Fs iter J)(k:∀Y z,PS H U L J aK bo bu (iS ns.length z) (Sj ns.length z) Y->C A (aU rest J) Y Q):
 C A (aU (j7 (aq (NM x) px) iter body [] pos::rest) J) s Q:=by
 show bf p.fr λW r hW=>(ij (RV hs ((uu s p.er).wx λv ax q=>q.wx λit aP ow=>?_)));obtain⟨e1,I,fp,wr,St,Wk,st,Gz,χ,Ak⟩:=ow;have fpW:∀b∈fp,b∉W:=λb hb' hw=>by
  rcases(Ak b hb').2.2 with h|h
  .obtain ⟨o,e⟩:=(λb hb'=>oX (r.jh b hb') λ_ _ o e _=>⟨o,e⟩:∀b∈W,∃o,s.heap.get? b=O o) b hw;have e:=h.symm.trans e;ext
  .show h.φ r hw
 have fpS:∀b∈fp,∀y∈S,y.1≠b:=λb hb' y hy e=>by
  subst e;show iL (p.sg y hy) λc1 c2 c3 c4=>?_;rcases(Ak _ hb').2.2 with h|h
  .have h:=c1.symm.trans h;ext
  .show wB h λz k' av v' F e hk cA aO D=>og λgG kG=>iM (aO.kinds _ D) λ_ o e1 e2=>kG ?_;clear kG gG;rw[c1]at e1;obtain rfl:=aW e1;unfold Ht at c3;rcases e2 with⟨h1,vs,n,h2⟩|⟨v,h2⟩
   .have c3:=h1▸h2▸c3;ext
   .have c3:=h2▸c3;show II (by assumption)
 have wrT:=λb hb'=>(Ak b (Wk.sub b hb')).1;have wrB:∀b∈wr,s.heap.get? b=ah/\b∉bX:=λb hb'=>⟨χ b hb',wrT b hb'⟩;show Ϣ (aky H U L J s S W fp iS Sj St ns.length) ?_ (ns.length+1)
  ⟨0,afF,W,rfl,fj _,(e1.smod _).p,st,(r.grow e1.ext).less h0,λd hd=>ak hd,(λy hy=>(p.sg.ext e1.ext) y (D' y hy)),λy hy=>ak (bH.mpr (cn y (D' y hy) Z)),λy hy=>hW.2 y (D' y hy),fpW,λd hd y hy=>fpS d hd y (D' y hy),λd hd=>(Ak d hd).2.1⟩ (λ_=>rfl)
 rintro m Y P1 P2 P3 q0 q1 q2 q3 ⟨i,z,W',dX,hi,m1,Oo,r',CE,H',kn',dj',hfW,hfS,hfe⟩;have wrF:∀b∈wr,kP Y.heap b/\b∉bX/\U.get? b=ah/\b∉W':=λb hb'=>⟨Gz i _ Oo b hb',wrT b hb',r.base.new (χ b hb'),hfW b (Wk.sub b hb')⟩;by_cases jA:i<ns.length
 .show cS<|Wk.item i Y _ _ jA Oo λv h' tk qQ st2 keep=>eT qQ λn t hn hv=>hv▸have m2:sL (W++S.map (·.1)) s {Y with heap:=h',toks:=tk}:=m1.off keep wrB;have H2:zY U (Sj i z) h':=λy hy=>iL (H' y hy) λa b c d=>rT (keep _ _ (λq=>hfS _ (Wk.sub _ q) y hy Z) a) b c d;q1 _ _ ?_;have ex2:∀d∈fp,∃o,h'.get? d=O o:=λd hd=>if hdw:d∈wr then bf (Gz _ _ st2 d hdw) λo e _=>⟨o,e⟩ else dF (hfe d hd) λo e=>⟨o,keep d o hdw e⟩
  show T.wx (jD (kh (r'.off keep wrF) E (dH i z jA) (.ofInt n t) (.flat Z))) λ_ dp qQ=>fc qQ λr3 m3=>(q2 _ ((step i n z dp W' hn (⟨(kJ W' r3 (λb D=>ak D) dj'),(H2.mod m3.mod dj'),.refl _ _,λy hy=>ak (bH.mpr (cn y hy Z))⟩)).mono λf fy Λ=>?_));obtain⟨hf,z',p4⟩:=Λ;subst hf;show gC p4.fr λW4 r4 hW4 dj4=>?_;have k23:=λd hd o e=>m3.mod.keep d o (hfW d hd) (Ak d hd).1 e;have fpX:∀d∈fp,d∉W'++(Sj i z).map (·.1):=λd hd q=>ba (bZ.mp q) (λq=>hfW d hd q) λq=>bf (bH.mp q) λy hy e=>(hfS d hd y hy e);have k34:=λd hd o e=>p4.mod.mod.keep d o (fpX d hd) (Ak d hd).1 e;have m23:=m2.trans m3.p λd hd=>ba (CE d hd) (λq=>ak (de _ q)) λq=>aw q;have m24:=m23.trans p4.mod λd hd=>by
   rcases bZ.mp hd with q|q
   .show ba (CE d q) (λq=>ak (de _ q)) λq=>aw q
   .show bf (bH.mp q) λy hy e=>e▸ba (kn' y hy) (λq=>ak (ew _ q)) λq=>aw q
  show q3 (ns.length+1 - (i+1)) _ (dX▸rJ (kX jA) (iZ i)) ⟨i+1,z',W4,rfl,jA,m24,Wk.frame _ _ _ st2 (λd hd o e=>k34 d hd o (k23 d hd o e)),r4,λd hd=>ba (hW4 d hd) (λh=>CE d h) λh=>aw (m23.mod.new h),p4.sg,λy hy=>?_,dj4,λd hd hw=>?_,λd hd y hy e=>?_,λd hd=>dF (ex2 d hd) λo e=>⟨o,k34 d hd o (k23 d hd o e)⟩⟩
  .rcases p4.lE y hy with q|q
   .show bf (bH.mp q) λy' hy' e=>e▸kn' y' hy'
   .show aw (m23.mod.new q)
  .show ba (hW4 d hw) (λh=>hfW d hd h) λh=>?_;obtain⟨o,e⟩:=ex2 d hd;have h:=(k23 d hd o e).symm.trans h;ext
  .show ba (p4.lE y hy) (λq=>bf (bH.mp q) λy' hy' e'=>(hfS d hd y' hy' (e'.trans e))) λq=>?_;obtain⟨o,e'⟩:=ex2 d hd;have q:=(k23 d hd o e')▸e▸q;ext
 .have:i=ns.length:=by lia
  subst this;show cS<|Wk.done Y _ _ Oo λh' tk keep=>q0 _ (fg ?_);have pe:PS H U L J s W (S.map (·.1)) (iS ns.length z) (Sj ns.length z) {Y with heap:=h',toks:=tk}:=
   ⟨(kJ W' (r'.off keep wrF) CE dj'),λy hy=>iL (H' y hy) λa b c d=>(rT (keep _ _ (λq=>hfS _ (Wk.sub _ q) y hy Z) a) b c d),m1.off keep wrB,kn'⟩
  show k _ z (p.back hW.1 pe)
end
theorem xd{b:Array UInt8}{k:Int}{t:a8}{x:UInt8}{Q:aa->ae->Prop}(ha:s.heap.get? a=O (pR b))(h0: -(2 ^ 62)<=k)(h1:k<2 ^ 62)(hj:rp k b.size=O j)(E:b[j]? =O x)(h:Q (ag (x.toNat:Int) s.toks) {s with toks:=s.toks+1}):aE (aD prog w) A (Ax (R a) (ag k t)) Q a0 s:=by show cQ<|aj<|uU (eU ha) (rfl)<|aj (jT (name:=aB "__getitem__") (eU ha) gz (oB gz (eU ha) qa (qX _ _) (Pu a b k t j x h0 h1 hj E) ⟨ha,?_⟩));show aC h
theorem xe{b:Array UInt8}{k:Int}{t:a8}{v:Nat}{Q:Unit->ae->Prop}(ha:s.heap.get? a=O (pR b))(h0: -(2 ^ 62)<=k)(h1:k<2 ^ 62)(hj:rp k b.size=O j)(hv:v<256)(D:b.size<=1000)(h:Q () {s with heap:=s.heap.update a (iz λb=>b.setIfInBounds j v.toUInt8)}):aE (aD prog w) A (Ay (R a) (ag k t) (ag (ai v) u)) Q a0 s:=by show cQ<|aj<|uU (eU ha) (rfl)<|aj (jT (name:=aB "__setitem__") (eU ha) ny (oB ny (eU ha) uI (wm _ _ _) (Pw a b k t v u j h0 h1 hj hv D) ⟨ha,?_⟩));show aC h
theorem RW{b:Array UInt8}{Q:aa->ae->Prop}(ha:s.heap.get? a=O (pR b))(D:b.size<=1000)(h:Q (ag (b.size:Int) (s.toks+1)) {s with toks:=s.toks+1+1}):aE (aD prog w) A (call (bB "len") [R a]) Q a0 s:=
 abw (n:=b.size) (eU ha) wY (λQ' hq=>oB wY (eU ha) Nd (Pt _) (acB a b) ⟨ha,hq⟩) (Int.not_ofNat_neg b.size) au h
def kF(ns:LN):bE:=pR (rZ ns)
def l8(ns:LN):Prop:=(∀n∈ns,n<256)/\ns.length<=1000
theorem gJ(ns:LN):(rZ ns).size=ns.length:=by simp[rZ]
theorem Nt(h:ns[j]? =O x):(rZ ns)[j]? =O x.toUInt8:=by simp[rZ,h]
theorem RX(h:x<256):(x.toUInt8).toNat=x:=by simp[Nat.toUInt8];lia
theorem Xl(ns:LN)(j v:Nat):(rZ ns).setIfInBounds j v.toUInt8=rZ (ns.set j v):=by apply A7;simp[rZ]
theorem l8.set(h:l8 ns)(j:Nat){v:Nat}(hv:v<256):l8 (ns.set j v):=⟨λn hn=>by
 rcases ve hn with q|q
 .show h.1 n q
 .rw [q];show hv,by simpa using h.2⟩
section
variable{Q:cb->ae->Prop}
theorem bM.ik(v:aa):bM h (aH v) v []:=⟨rfl,rfl⟩
theorem bM.DI{u:aa}(x:bM h (aH u) v F):v=u:=x.1
theorem B2{i:aG}(ho:U.get? a=O (kF ns))(ht:a∉bX)(hB:l8 ns)(he:V H U A L J G e (aH (R a)) ab)(hi:V H U A L J G i (aT k) ab)(hk:ns[k]? =O x)(sj:kg i=ab):V H U A L J G (dk e i pos) (aT x) fr:=λs r=>by show rO<|(he s r).ο λax e1=>(hi ax (r.ext e1.ext)).CA λt aP e2=>have Jr:=e1.trans e2;have Ϡ:=(r.base.trans Jr.ext).keep a _ ht ho;have jA:k<ns.length:=(dR.mp hk).1;have hl:=hB.2;tH (eU Ϡ) gz.lookup (xd Ϡ (j:=k) (x:=x.toUInt8) fF au (Cz (by rw[gJ];show jA)) (Nt hk) ?_) (uE sj _ _);show o6 [] (Jr.trans (.toks _ _)) ?_ d9;rw[RX (hB.1 x (cY hk))];show .ofInt _ _
theorem uK(B:cx U mg mb)(I:dQ mg mb)(kQ:Gi L "len")(ho:U.get? a=O (kF ns))(ht:a∉bX)(hB:l8 ns)(he:V H U A L J G e (aH (R a)) ab)(dH:cH e=ab):
 V H U A L J G (bx (aq (aB "len") np) [e] [] pos) (aT ns.length) fr:=λs r=>by
 have hI:=I ("len",bB "len") aL;show mh<|(eG B r kQ hI.1 hI.2 (rfl)).Dt<|yu ((fJ.cons he fJ.nil dH s pos r).Ra λvs ax F1 e1 V1=>?_) (dq dH _ _) Z;apply vH V1;show RW ((r.base.trans e1.ext).keep a _ ht ho) (by rw[gJ];show hB.2) (o6 [] (e1.trans (.toks _ _)) ?_ d9);rw[gJ];show .ofInt _ _
theorem xf(a:af)(k x:Nat){i v:aG}(p:PS H U L J aK bo bu G S s)(hv:V H s.heap A L J G v (aT x) ab)(he:V H s.heap A L J G e (aH (R a)) ab)(hi:V H s.heap A L J G i (aT k) ab)(ha:(a,kF ns)∈S)(hB:l8 ns)(hk:k<ns.length)(E:x<256)(hs:fz v (O (dk e i p')) pos.line J=pure ab)(hS:∀y∈S',(y.1=a/\y.2=kF (ns.set k x))\/(y.1≠a/\y∈S))(kk:∀Y,PS H U L J aK bo bu G S' Y->C A (aU rest J) Y Q):C A (aU (ez [dk e i p'] v pos::rest) J) s Q:=by show ij (Lake.T.wx (P:=λf Y=>f=cL/\PS H U L J aK bo bu G S' Y) ?_ λf Y qQ=>fc qQ λe1 e2=>by show e1▸?_;show kk Y e2);show J6 ((hv s p.er).CA λt ax e1=>(he ax (p.er.ext e1.ext)).ο λaP e2=>(hi aP ((p.er.ext e1.ext).ext e2.ext)).CA λt3 dp e3=>?_) hs;have p3:=p.grow ((e1.trans e2).trans e3);have ho:=p3.get ha;have hl:=hB.2;show xe ho (j:=k) fF au (Cz (by rw[gJ];show hk)) E (by rw[gJ];show hl)<|fc (Tn.upd (X:=[a]) (s:=dp) (f:=λb=>b.setIfInBounds k x.toUInt8) ho bw) λt2 g2=>?_;rw[Xl]at g2;show⟨rfl,p3.turn ha Z t2 g2 Z hS⟩
theorem ϣ{v l r:aG}{op:Operator}{qp:cJ}(p:PS H U L J aK bo bu G S s)(hv:V H s.heap A L J G v (aT x) ab)(he:V H s.heap A L J G e (aH (R a)) ab)(hi:V H s.heap A L J G (fh l op r qp) (aT k) ab)(ha:(a,kF ns)∈S)(hB:l8 ns)(hk:ns[k]? =O y)(E:x<256)(hS:∀z∈S',(z.1=a/\z.2=kF (ns.set k (y ^^^ x)))\/(z.1≠a/\z∈S))(kk:∀Y,PS H U L J aK bo bu G S' Y->C A (aU rest J) Y Q):C A (aU (Fc (dk e (fh l op r qp) p') Ba v pos::rest) J) s Q:=by
 show ij (Lake.T.wx (P:=λf Y=>f=cL/\PS H U L J aK bo bu G S' Y) ?_ λf Y qQ=>fc qQ λe1 e2=>by show e1▸?_;show kk Y e2);have eq:oJ (Fc (dk e (fh l op r qp) p') Ba v pos) J=(do
  mT pos
  let ov<-a7 e J
  let iv<-holding [ov] (a7 (fh l op r qp) J)
  let new<-holding [ov,iv] do
   mT p'
   let old<-Ax ov iv
   let v<-holding [old] (a7 v J)
   mT pos
   operate [old,v] (KH Ba old v)
  mT p'
  holding [new,ov,iv] (Ay ov iv new)
  release [new,ov,iv] []
  pure cL):=rfl
 have jA:k<ns.length:=(dR.mp hk).1;have hy:y<256:=hB.1 y (cY hk);have hl:=hB.2;show aj<|jW<|aj<|(he s p.er).ο λax e1=>aj<|cQ<|(hi ax (p.er.ext e1.ext)).CA λt2 aP e2=>have Jr:=e1.trans e2;aj<|cQ<|aj<|jW<|aj<|xd ((p.grow Jr).get ha) (j:=k) (x:=y.toUInt8) au au (Cz (by rw[gJ];show jA)) (Nt hk)<|(RX hy).symm▸have ahS:dG H s {aP with toks:=aP.toks+1}:=Jr.trans (.toks _ _);aj<|cQ<|(hv _ (p.er.ext ahS.ext)).CA λt4 fy e4=>aj<|jW<|wpAny_operating ((OH (op:=.xor) (H:=H) (x:=ai y) (y:=ai x) Z (aw (aw Z))).wp3 λnv ib t5 e5 hnv=>?_);subst hnv;have p5:=p.grow ((ahS.trans e4).trans e5);have ho:=p5.get ha;show aj<|jW<|aj<|cQ<|xe ho (j:=k) au au (Cz (by rw[gJ];show jA)) (E0 (n:=8) hy E) (by rw[gJ];show hl)<|fc (Tn.upd (X:=[a]) (s:=ib) (f:=λb=>b.setIfInBounds k (y ^^^ x).toUInt8) ho bw) λt6 g6=>?_;rw[Xl]at g6;show aj λΓ q wj=>aC ⟨rfl,p5.turn ha Z t6 g6 Z hS⟩
end
noncomputable def Xm(f:cb):aa:=match f with
 |cB v=>v
 |_=>aA
theorem acF(h:C (A.deeper J) (aU body J) s (λf Y=>aN (bW (cB (Xm f))) Y)):CC A (Code.func body J) s aN:=by show jl Z (C.bind (C.point (C.bind (C.onRaise (h.mono λf Y h'=>?_)))));cases f<;>show C.pure h'
theorem Xn{K:LN}(B:cx U mg mb)(x1:gU H U s.heap)(bK:A.depth<1000)(ho:s.heap.get? a=O o)(hd:o.data=qu fd)(hcr:s.heap.CodeRec fd.code fd.qualname)(OQ:fd.body=lj body)(afr:fd.closure=[])(DA:fd.scope.isCoroutine=ab)(za:fd.scope.isGenerator=ab)(so:T A.in1 (dy fd ⟨vs,[]⟩) s (λbs Y=>Y=s/\bs=(K.map NM).zip us))(aO:bA s.heap avs us F)(hk:fd.scope.kind=dZ)(hgl:fd.globals=ef)(hbi:fd.builtins=fY)(tV:K.Nodup)(dM:K.length=us.length)(E:∀x∈K,Hx fd.scope x)(cA:zY U S s.heap)(hw:∀aP br,PS H U fd.scope (gO fd br a) s [] (S.map (·.1)) (qL K avs) S aP->
 C (A.deeper (gO fd br a)) (aU body (gO fd br a)) aP (λf Y=>aN (bW (cB (Xm f))) Y)):CC A (m8 (R a) ⟨vs,[]⟩) s aN:=by
 show jl Z<|C.bind<|T.wc<|jY ho<|gr hcr λc oc ws tq hc hoc hdc hq=>?_;rw[hd];show(?_:C _ (callFunction a fd _) _ _)
 delta callFunction
 rw[DA,za,OQ,hc];show C.bind<|T.wc<|gN hoc hdc hq<|C.bind<|C.pure<|C.bind (so.wx λbs s1 qQ=>fc qQ λe1 e2=>?_);subst e1 e2;rw[afr];show C.bind (T.wc (Tz hk (λx hxm=>?_) λfX he s2 ic=>?_))
 .obtain ⟨n,v⟩:=x;show bf (bH.mp ((sZ hxm).1)) λy hy dX=>?_;subst dX;rcases E y hy with q|q
  .show ak q
  .show aw ⟨q,kx _ _ _ _ (ak (mH q))⟩
 .have Jt:fX=gO fd s1.heap.objs.size a:=by rw[he];delta gO;rw[hc]
  subst Jt;have fr0:=FR.start B.top x1 aO hk hgl hbi tV dM E ic;show eT ic.done λhh tk e2 alR=>(C.bind (Lake.T.wc (wpAny_enterFrame ((B.zl x1).keeps ic.toInCall.keep) (by assumption) (C.pure ⟨rfl,acF (hw s2 _ ⟨(kJ _ fr0.rebase (λb D=>aw ((fr0.jh b D).1)) (λp hp q=>?_)),cA.ext (H:=H) (.of_keep ic.toInCall.keep),?_,λp hp=>ak (bH.mpr (cn p hp Z))⟩)⟩))))
  .have:=(fr0.jh _ q).1;have this:=((cA p hp).1).symm.trans this;ext
  .subst e2;show⟨(gU.of_keep (H:=H) ic.toInCall.keep).mod _,rfl,rfl,.refl _⟩
theorem fV{id:aV}{args:List aG}{Q:aa->ae->Prop}(h:C A (a7 (aq id p) J) s (λf ax=>C A (xU pos f [] (jZ pos (js args J)) []) ax Q)):
 C A (a7 (bx (aq id p) args [] pos) J) s Q:=
 C.bind h
theorem c8{Q:List aa->ae->Prop}(h:Q [] s):C A (xZ []) s Q:=C.pure h
theorem cu{x:aI aa}{rest:List (Bool×aI aa)}{Q:List aa->ae->Prop}(h:C A x s (λv ax=>C A (xZ rest) ax (λvs aP=>Q (v::vs) aP))):C A (xZ ((ab,x)::rest)) s Q:=C.bind<|h.mono λv ax U=>C.bind (C.pure (lJ (C.mono U λvs aP ku=>C.pure ku)))
theorem eu{f:aa}{x:aI aa}{rest:List (Bool×aI aa)}{Q:sV->ae->Prop}(h:C A (xZ ((ab,x)::rest)) s (λvs Y=>Q ⟨vs,[]⟩ Y)):C A (xV f N ((ab,x)::rest) []) s Q:=C.bind<|h.mono λvs Y h'=>C.holding (C.pure h')
theorem B3{f:aa}{Q:sV->ae->Prop}(h:Q ⟨[],[]⟩ s):C A (xV f N [] []) s Q:=C.bind<|c8<|C.bind<|C.pure<|C.holding (C.pure h)
theorem C.keep{m:aI α}{Q:α->ae->Prop}(h:C A m s Q):C A (m.keep vs) s Q:=λΓ p wj hc=>by rw[Sem.wp_keep];show h Γ p wj hc
theorem pF(o:bE)(fd:cq){args:List (Bool×aI aa)}{Q:aa->ae->Prop}(h:C A (xV (R a) N args []) s (λx ax=>(ax.heap.get? a=O o/\o.data=qu fd)/\C A (call (R a) (first++x.pos) x.kw) ax Q)):C A (xU pos (R a) first args []) s Q:=by
 show lJ (h.mono λx ax U=>C.bind (C.standAt ?_));have tail:∀{t:aI aa},C A t ax Q->C A (t>>=λr=>holding [r] point>>=λ_=>pure r) ax Q:=
  λht=>C.bind (ht.mono λr aP hr=>lJ (C.point (C.pure hr)))
 cases hs:args.any (·.1)<;>dsimp only[UL,LO]<;>
  show C.bind ?_<;>unfold Aw<;>
  show C.bind (T.wc (jY U.1.1 ?_))<;>rw[U.1.2]<;>show C.pure ?_
 .change C _ (if _ then _ else _) _ _;split
  .show tail U.2
  .show tail (C.keep U.2)
 .show tail (C.keep U.2)
theorem dg{f:aa}{args:List (Bool×aI aa)}{Q:aa->ae->Prop}(afG:args.any (·.1)=ab)(h:C A (xV f N args []) s (λa ax=>C A (Aw f) ax (λk aP=>k=FH/\C A (call f (first++a.pos) a.kw) aP Q))):C A (xU pos f first args []) s Q:=by show lJ (h.mono λa ax U=>C.bind (C.standAt ?_));rw[afG,UL,LO];show C.bind<|C.mono U λk aP qQ=>fc qQ λe ku=>e▸C.bind (ku.mono λr dp hr=>lJ (C.point (C.pure hr)))
theorem iI{T:String}{Q:Keeper->ae->Prop}(h:Q FH s):C A (Aw (ao T)) s Q:=C.pure h
theorem lV{id:String}{Q:Keeper->ae->Prop}(h:Q FH s):C A (Aw (bB id)) s Q:=C.pure h
section
variable{Q:cb->ae->Prop}
theorem yO(dH:bT G x=N)(E:Hx L x)(hs:fz e (O (aq (NM x) q)) pos.line J=pure ab)(he:C A (a7 e J) s (λv ax=>∃S' av F,PS τ' U L J aK bo bu G S' ax/\bM ax.heap av v F/\flat av=N/\
 ∀Y,PS τ' U L J aK bo bu (jk G x 0 av) S' Y->C A (aU rest J) Y Q)):C A (aU (ez [aq (NM x) q] e pos::rest) J) s Q:=by
 show ij ?_;rw[T6 J (NM x) q e pos hs];show nQ<|C.bind<|he.mono λv ax U=>nQ<|C.bind<|C.bindName<|gH U λS' av F ps aO hf k=>bf ps.fr λW r hW=>(kh r E dH aO (.flat (cW.1 _ _ _ hf aO))).wx λ_ aP ku=>C.pure (k aP (ps.step r hW ku.2 ku.1 λd hd=>ak hd))
theorem zZ(hi:iJ J=ab)(hs:fz e ah pos.line J=pure ab)(he:C A (a7 e J) s (λv ax=>v=aA/\C A (aU rest J) ax Q)):C A (aU (qy e pos::rest) J) s Q:=by show ij ?_;rw[exec_Expr J e pos hi hs];show nQ<|C.bind<|he.mono λv ax qQ=>fc qQ λe1 U=>e1▸?_;rw[dropValue_plain (by intro a h;ext)];show C.pure U
theorem acG{f:aa}{Q:sV->ae->Prop}(r:ER H s.heap L J s.heap G)(he:fJ H s.heap A L J G (e::es) avs)(dH:dW (e::es)=N)(h:∀vs ax F,dG H s ax->bA ax.heap avs vs F->Q ⟨vs,[]⟩ ax):C A (xV f N (jZ pos (js (e::es) J)) []) s Q:=by show fc (wQ dH) λh1 h2=>?_;have Jt:=he s pos r;rw[dq h1]at Jt ⊢;show eu (ahN Jt h)
end
noncomputable def uw(rs:List af):AV:=fG (rs.map λr=>aH (R r))
def uL(rs:List af)(b9:List (LN)):Sg:=rs.zip (b9.map kF)
structure Mx(b9:List (LN)):Prop where
 len:b9.length=13
 row:∀r∈b9,r.length=13/\∀x∈r,x<256
noncomputable def Y5(b9:List (LN))(i j v:Nat):List (LN):=b9.set i ((b9.getD i []).set j v)
theorem Mx.get(h:Mx b9)(hi:i<13):b9[i]? =O (b9.getD i [])/\(b9.getD i []).length=13/\l8 (b9.getD i []):=by have hl:=h.len;have e:b9[i]? =O (b9.getD i []):=kD au;have hm:=cY e;show rT e ((h.row _ hm).1) ((h.row _ hm).2) (by rw[(h.row _ hm).1];decide)
theorem Mx.ahT(h:Mx b9){r:LN}(hr:r.length=13)(D:∀x∈r,x<256):Mx (b9.set i r):=⟨by simpa using h.len,λr' hr'=>by show ba (ve hr') (λq=>h.row r' q) λq=>q▸⟨hr,D⟩⟩
theorem Mx.set(h:Mx b9)(hi:i<13)(j:Nat){v:Nat}(hv:v<256):Mx (Y5 b9 i j v):=hJ (h.get hi) λ_ h2 h3=>(h.ahT (by simpa using h2) (h3.set j hv).1)
theorem pG{r:af}{row:LN}(h1:rs[i]? =O r)(h2:b9[i]? =O row):(r,kF row)∈uL rs b9:=by
 show cY (i:=i) ?_
 delta uL
 rw[KU];show⟨h1,by simp[h2]⟩
theorem acH(tV:rs.Nodup){r:af}(h1:rs[i]? =O r)(row:LN):∀y∈uL rs (b9.set i row),(y.1=r/\y.2=kF row)\/(y.1≠r/\y∈uL rs b9):=by
 intro y hy;show dF (sX hy) λk hk=>?_;unfold uL at hk;rw[KU]at hk;show fc hk λk1 k2=>?_;rw[cZ]at k2;show bf (jb.mp k2) λacg k3 k4=>?_;rcases yB (k=i) with e|e
 .subst e
  left
  show⟨(aW (h1.symm.trans k1)).symm,?_⟩;show dF (dR.mp k3) λl e=>?_;simp at e;rw[<-k4,<-e]
 .right
  have qK:y.1≠r:=λe2=>by
   subst e2;show dF (dR.mp k1) λl1 g1=>?_;show dF (dR.mp h1) λl2 g2=>?_;rcases UT k i with c|c|c
   .show absurd (g1.trans g2.symm) (EG.mp tV k i l1 l2 c)
   .show e c
   .show absurd (g2.trans g1.symm) (EG.mp tV i k l2 l1 c)
  show⟨qK,?_⟩;have k5:b9[k]? =O acg:=by rwa [List.getElem?_set_ne (λq=>e q.symm)]at k3
  have:=pG k1 k5;rw[k4]at this;show this
theorem yP(tV:rs.Nodup){r:af}(h1:rs[i]? =O r)(row:LN){S0:Sg}(hd:∀y∈S0,y.1∉rs):∀y∈uL rs (b9.set i row)++S0,(y.1=r/\y.2=kF row)\/(y.1≠r/\y∈uL rs b9++S0):=λy hy=>by show ba (bZ.mp hy) (λq=>ba (acH tV h1 row y q) (λh=>ak h) λh=>aw ⟨h.1,de _ h.2⟩) λq=>aw ⟨λe=>hd y q (by rw[e];show cY h1),ew _ q⟩
section
variable{Q:cb->ae->Prop}
theorem Nu{a:aG}(B:cx U mg mb)(I:dQ mg mb)(kQ:Gi L "len")(ha:V H U A L J G a (fG K) ab)(dH:cH a=ab)(hl:K.length<=1000):V H U A L J G (bx (aq (aB "len") np) [a] [] pos) (aT K.length) fr:=λs r=>by
 have hI:=I ("len",bB "len") aL;show mh<|(eG B r kQ hI.1 hI.2 (rfl)).Dt<|yu ((fJ.cons ha fJ.nil dH s pos r).Ra λvs ax F1 e1 V1=>?_) (dq dH _ _) Z;apply nH V1;intro v G1 V2;apply pU V2;intro a ws n _ a3 a4;have l1:=bA.length a4;show abx (⟨_,a3,rfl,n,rfl⟩) jx ?_;have:((ws.toArray.size:Nat):Int)=ai K.length:=by simp[l1]
 rw[this];show⟨e1.trans (.toks _ _),[],.ofInt _ _,d9⟩
theorem yQ(k:Nat){a i:aG}{r:af}(ha:V H U A L J G a (uw rs) ab)(hi:V H U A L J G i (aT k) ab)(hk:rs[k]? =O r)(hl:rs.length<=1000)(sj:kg i=ab):
 V H U A L J G (dk a i pos) (aH (R r)) fr:=by
 show wI ha hi ?_ sj (λ_=>rfl);have jA:=(dR.mp hk).1;show(?_:cond (dY k 1000000) _ eX=_);rw[eW au];simp[hk]
theorem mF(x:Nat){b:Bool}(E:ck G x=O (k,eY b)):pO H U A L J G (aq (NM x) pos) b:=λs r=>isTrue_plain<|(wb r E).wpV λv F aO=>aO.toBool.symm▸mf ⟨.refl _,rfl⟩
theorem z0{c:aV}(hs:fz (fL (Mb c) k pos) ah Cu.line J=pure ab):S1 H U A L J (qy (fL (Mb c) k pos) Cu) G G ah:=λD s W r=>by show wpAny_Expr (Ee ?_) (by delta iJ;rw[r.scope,r.kind];rfl) hs;have e:dG H s {s with toks:=s.toks+1}:=.toks _ _;show tT (e.smod W) (r.grow e.ext)
def Ϥ:cg:=dP 19
noncomputable def pS(n:Nat):Nat:=1 - n % 2
def PJ(b9:List (LN)):Nat->List (LN)
 | 0=>b9
 |n+1=>Y5 (Y5 (PJ b9 n) (8+n) 0 (pS n)) 0 (8+n) (pS n)
theorem PK(h:Mx b9):∀n,n<=5->Mx (PJ b9 n):=by
 intro xX;induction xX with
 |zero=>intro _;show h
 |succ n iH=>
  intro hn;have D:pS n<256:=by delta pS;lia
  show((iH (qr hn)).set (AQ hn) 0 D).set bD (8+n) D
def akz(rs:List af)(bit:Nat):iB:=[(9,0,uw rs),(15,0,aT 0),(69,0,aT 13),(70,0,aH (R (rs.getD 0 0))),(19,0,aT bit)]
theorem PM{S0:Sg}(hh:dh A)(B:cx U mg mb)(I:dQ mg mb)(hl:rs.length=13)(tV:rs.Nodup)(hm:Mx b9)(hd:∀y∈S0,y.1∉rs)(p:PS H U (bc Ϥ) J aK bo bu (qL [9,68] [uw rs,eY N]) (uL rs b9++S0) s)(k:∀Y G',PS H U (bc Ϥ) J aK bo bu G' (uL rs (PJ b9 5)++S0) Y->Q cL Y):C A (aU (bg Ϥ) J) s Q:=by
 have hr:∀i,i<13->rs[i]? =O (rs.getD i 0):=λi hi=>kD au;show p.s1 (S1.m (z0 Z)) λs1 p1=>(p1.s1 (S1.m (WU (x:=15) (y:=69) (p:=(0,13)) hh (wH N (mF 68 Z) (λ_=>?_) (λq=>nnT q)) (by decide+kernel) (λz hz=>by simp at hz;rcases hz with rfl|rfl<;>rfl) Z Z)) λs2 p2=>?_)
 .show uo B.top (fJ.cons V.int (fJ.cons ?_ fJ.nil Z) Z) Z Z;show V.to (Nu B I Z (ar 9 Z) Z jx) (by simp[hl,aT])
 show p2.s1 (S1.m (bC 70 (aH (R (rs.getD 0 0))) (yQ 0 (ar 9 Z) (ar 15 Z) (hr 0 bD) au Z) Z Z (ak Z) Z)) λs3 p3=>p3.s1 (S1.m (bC 19 (aT 1) (aR 1) Z Z (ak Z) Z)) λs4 p4=>yN 14 (Dw 8 1 5) (λi (_:Unit)=>akz rs (pS i)) (λi _=>uL rs (PJ b9 i)++S0) () p4 (zP (k:=8) (m:=13) hh (p4.base B) I Z V.int Z (ar 69 Z) Z aL aL aL aL)
  (kr.rf bG bG) (λy hy=>hy) (ak Z) (λ_ _ _=>rfl) (λi n z t W hn q=>?_) (λ_=>rfl) (λs5 _ p5=>fg (k s5 _ p5))
 show fc (o8.mp hn) λhi hn=>?_;have wu:(n:Int)=ai (8+i):=by rw[hn];simp
 subst wu;have hmi:=PK hm i au;have D:pS i<256:=by delta pS;lia
 show hJ (hmi.get (i:=8+i) au) λm1 m2 m3=>hJ ((hmi.set (i:=8+i) au 0 D).get (i:=0) bD) λn1 n2 n3=>xf (rs.getD (8+i) 0) 0 (pS i) q (ar 19 Z) (yQ (8+i) (ar 9 Z) (ar 14 Z) (hr _ au) au Z) (ar 15 Z)
  (de _ (pG (hr _ au) m1)) m3 (Nat.lt_of_sub_eq_succ m2) D Z (yP tV (hr _ au) _ hd) λt1 q1=>xf (rs.getD 0 0) (8+i) (pS i) q1 (ar 19 Z) (ar 70 Z) (ar 14 Z)
  (de _ (pG (hr _ bD) n1)) n3 au D Z (yP tV (hr _ bD) _ hd) λt2 q2=>q2.s1 (S1.m (CG (k:=0) 19 (ai (pS i)) 1 (ai (pS (i+1))) .xor Z V.int ?_ (aw (aw Z)) Z (ak Z))) λt3 q3=>?_
 .rcases EW i with e|e
  .have e1:pS i=1:=by delta pS;lia
   have e2:pS (i+1)=0:=by delta pS;lia
   rw[e1,e2];rfl
  .have e1:pS i=0:=lh (Nat.eq_sub_of_add_eq' e);have e2:pS (i+1)=1:=by delta pS;lia
   rw[e1,e2];rfl
 show fg ⟨rfl,(),q3.less (kr.rf bG bG)⟩
end
open PySem.W
theorem uM{t:aI α}{r:α}{Q:α->ae->Prop}(x:LR (aD prog w) s.heap t r)(q:Q r s):C A t s Q:=T.wc (x.here q)
theorem acI{rest:List aa}{init:aa}(gi:PySem.W.Makes (aD prog w) s.heap aS)(hi:LR (aD prog w) s.heap (fZ (R aS) "__init__") (O init))(D:∀self,LR (aD prog w) s.heap (bindSpecial init self) (init,[self]))(qK:(O init != O (bB "object.__init__"))=N)(hq:CC (A.under (fE "type.__call__" ⟨R aS::rest,[]⟩)) (m8 init ⟨R (s.heap.objs.size+1)::rest,[]⟩) {s with heap:=(s.heap.push tI).push (Fh aS s.heap.objs.size)}
 (λr Y=>r=bW (cB aA)/\Q (R (s.heap.objs.size+1)) Y)):C A (call (R aS) rest []) s Q:=by
 show og λgG kG=>?_;obtain⟨⟨oc,od,cd,sl,hC,e1,e2,e4⟩,made,base,self,top,ϥ,typ⟩:=id gi;show kG ?_;clear kG gG;show C.call (jl Z ?_);change C _ (callAny (R aS) ⟨rest,[]⟩) s _;show C.bind (Lake.T.wc (jY hC ?_));show C.bind (uM ϥ ?_);dsimp only;show C.bind (C.pure (C.bind (C.pure ?_)));show C.pure (a:=yz (m8 (bB "type.__call__") ⟨R aS::rest,[]⟩)) (FO Z (jl Z ?_));show C.bind (Lake.T.wc (Vh tc_kind tc_split typ (Vj _ _ _) (C.pure ⟨AZ _ bG,jP entry_typeCall Z ?_⟩)));unfold Builtin.«type.__call__»;dsimp only;show C.bind (uM (((abE (part:=ah) hC).andThen vx).andThen vx) ?_);rw[if_neg (by rw[e4];decide)];show C.bind (uM made ?_);show C.bind (C.pure ?_);have k:∀b o,s.heap.get? b=O o->((s.heap.push tI).push (Fh aS s.heap.objs.size)).get? b=O o:=λb o e=>aZ _ (aZ _ e);show C.bind (C.holding (Lake.T.wx (P:=λ(v:aa) s1=>v=R (s.heap.objs.size+1)/\s1={s with heap:=(s.heap.push tI).push (Fh aS s.heap.objs.size)}) ?_ λv s1 qQ=>fc qQ λev es=>?_))
 .obtain ⟨hp,g,d,tk,os⟩:=s;show kU (new_K gi hi (ak qK) ⟨rfl,rfl⟩)
 subst ev es;have t1:gS (aD prog w) ((s.heap.push tI).push (Fh aS s.heap.objs.size)) (AB (R (s.heap.objs.size+1))) (R aS):=(Fo (by heap_get)).andThen vx;show C.bind (uM (r:=N) (t1.andThen (self.keeps k)) ?_);show ee aL (C.bind (C.holding ?_));show C.bind (uM (t1.andThen (hi.keeps k)) ?_);show C.holding (C.bind (uM ((D _).keeps k) ?_));show C.bind (C.call (CC.mono hq λr Y qQ=>fc qQ λer hQ=>?_));subst er;show C.pure (C.pure hQ)
theorem Hu{bh:mx}(e:bh.lookup a=O o):a∈bh.map (·.1):=by
 induction bh with
 |nil=>ext
 |cons p r ih=>
  obtain⟨b,x⟩:=p;dsimp only[AL]at e;show boC (a==b) (λh=>?_) λh=>?_
  .have:a=b:=by simpa using h
   show this▸AG Z
  .have e:=h▸e;show bY _ (ih e)
theorem PN(P:cf)(t:Nat->a8)(f:Nat->cq):∀a o,(iE P t f).lookup a=O o->a∉bX:=by intro a o e;show(by decide:∀x∈([2002,2001,2003,1956,1963,1977,1984,1991,1998]:List af),x∉bX) a (Hu e)
theorem jm(X:(iE P t f).In h)(x:gU H h h'):(iE P t f).In h':=λa o e=>x.keep a o (PN P t f a o e) (X a o e)
theorem Ϧ:makesIn (iE P t f) 2002=N:=by ext
theorem acJ:iK (iE P t f) (R 2002) "__init__" =O (O (R 1956)):=by ext
theorem ϧ:qA (iE P t f) (R 1956)=O (ao "function"):=by ext
theorem afH:iK (iE P t f) (R 2002) "__len__" =O (O (R 1991)):=by ext
theorem acK:qA (iE P t f) (R 1991)=O (ao "function"):=by ext
theorem Xp:iK (iE P t f) (R 2002) "__getitem__" =O (O (R 1998)):=by ext
theorem Ϩ:qA (iE P t f) (R 1998)=O (ao "function"):=by ext
theorem B4(n:aV):plainGet (iE P t f) 2002 n=N:=by ext
theorem acL:iK (iE P t f) (R 2002) "_data" =O (O (R 2003)):=by ext
theorem ϩ:yw (iE P t f) (R 2003) "__get__" =O (O (bB "member_descriptor.__get__")):=by ext
theorem Ϫ:A6 (iE P t f) (R 2003)=O N:=by ext
theorem Xq:slotIn (iE P t f) 2003 2002=O 0:=by ext
theorem afI:(clsIn (iE P t f) 2002).isSome=N:=by ext
theorem RY:iK (iE P t f) (R 2002) "__setattr__" =O (O (bB "object.__setattr__")):=by ext
theorem acM:plainOver (iE P t f) 2002=N:=by ext
theorem ϫ:takerIn (iE P t f) 2002 "_data" =O (O (R 2003)):=by ext
theorem Y6:qA (iE P t f) (R 2003)=O (ao "member_descriptor"):=by ext
theorem afJ:iK (iE P t f) (R 2002) "extend" =O (O (R 1963)):=by ext
theorem acN:qA (iE P t f) (R 1963)=O (ao "function"):=by ext
theorem acO:iK (iE P t f) (R 2002) "getbits" =O (O (R 1977)):=by ext
theorem Ϭ:qA (iE P t f) (R 1977)=O (ao "function"):=by ext
theorem acP:iK (iE P t f) (R 2002) "toints" =O (O (R 1984)):=by ext
theorem ϭ:qA (iE P t f) (R 1984)=O (ao "function"):=by ext
section
open PySem.W Builtin Builtin.ObjectAttr Builtin.Getset_descriptor
noncomputable def qZ(dx d:af):bE:={cls:=R 2002,dict:=O dx,data:=tF,slots:=#[O (R d)]}
theorem xh(D:s.heap.get? b=O (qZ dx d))(hd:s.heap.get? dx=O iA):InstAt s.heap b (qZ dx d) 2002 (O iA):=⟨D,rfl,rfl,hd⟩
theorem PO(X:(iE P t f).In s.heap)(D:s.heap.get? b=O (qZ dx d))(hd:s.heap.get? dx=O iA)(h:Q (R d) {s with toks:=s.toks+1}):
 aE (aD prog w) A (getAttr (R b) "_data" ae7) Q a0 s:=
 get_bind X (xh D hd) (A5 (B4 "_data")).1 (findObj_data afI acL ϩ Ϫ) (A5 (B4 "_data")).2
  (kU (slot_get X (xh D hd) Xq Z (handed_on Z h)))
theorem Hv(D:s.heap.get? b=O (vt 2002 dx))(hd:s.heap.get? dx=O iA):InstAt s.heap b (vt 2002 dx) 2002 (O iA):=⟨D,rfl,rfl,hd⟩
theorem Ϯ{bh:mx}{x p:af}(X:bh.In s.heap)(I:InstAt s.heap x ox aS od)(hp:slotIn bh p aS=O i)(hi:i<1000)(h:aN (bW (cB aA)) {s with heap:=s.heap.update x λo=>{o with slots:=(o.slots++Vt (i+1 - o.slots.size) ah).setIfInBounds i (O v)}}):
 oH (aD prog w) A (m8 (bB "member_descriptor.__set__") ⟨[R p,R x,v],[]⟩) aN s:=by
 show jg (slot_of X hp) λn tn i=>jg i λowner behind i=>fP i λtb d sl cd ho hc hm D dX=>?_;obtain⟨hh,g,dr,t,os⟩:=s;subst dX;have L0:=I.type (M:=aD prog w);have L1:=LV (M:=aD prog w) X hm;have L2:gS (aD prog w) hh (Slots.slotNamesOf (R aS)) cd.slotNames:=(looks_clsIn X hc).andThen vx;have E:=I.at_;dsimp only at ho E L0 L1;have f0:=Fi (M:=aD prog w) ho 0 (v:=cO n tn) Z;have f1:=Fi (M:=aD prog w) ho 1 (v:=owner) Z;have f3:=Fi (M:=aD prog w) ho 3 (v:=bB "proto.slot#set") Z;have f4:=Fi (M:=aD prog w) ho 4 (v:=ag behind tb) Z;show xF Mu.plain KF.entry_mset (Mu.check _ _ _ _ _ _ _ _ (cn _ ho Z) (KF.args_mset _ _ _) ?_);have f5:gS (aD prog w) hh (descrItself (R p)) [R p]:=((Fo ho).andThen vx).andThen (Ma (rfl));repeat lk
 show⟨AZ _ bG,qh KF.entry_slotset ?_⟩;repeat lk
 show(if_neg D).symm▸aC (aj ?_)
 delta setSlotAt
 dsimp only;rw[if_neg (by rw[jX];lia)];show wpAny_updatePart E (aC h)
theorem PQ{Q:Unit->ae->Prop}(X:(iE P t f).In s.heap)(D:s.heap.get? b=O (vt 2002 dx))(hd:s.heap.get? dx=O iA)(h:∀Y,Tn [b] s Y->Y.heap.get? b=O (qZ dx d)->Q () Y):aE (aD prog w) A (setAttr (R b) "_data" (R d)) Q a0 s:=by
 show set_plain X (Hv D hd) RY (osa_descr Mu X (Hv D hd) acM ϫ Y6 (Ϯ X (Hv D hd) Xq bD (h _ ?_ ?_)))
 .have e:(s.heap.update b λo=>{o with slots:=(o.slots++Vt (0+1 - o.slots.size) ah).setIfInBounds 0 (O (R d))}).get? b=O (qZ dx d):=ie _ D Z;show(Tn.toks [b] s _).trans (Tn.same (j8 ..) au ⟨_,e⟩) λ_ h=>ak h
 .show ie _ D Z
theorem Hw{Q:Option aa->ae->Prop}(X:(iE P t f).In s.heap)(D:s.heap.get? b=O (qZ dx d))(hd:s.heap.get? dx=O iA)(h1:iK (iE P t f) (R 2002) name=O (O (R fa)))(h2:qA (iE P t f) (R fa)=O (ao "function"))(h:aE (aD prog w) A (call (R fa) (R b::args)) (λv=>Q (O v)) a0 s):aE (aD prog w) A (xQ (R b) name args) Q a0 s:=
 special_fn X (xh D hd) h1 h2 h
end
structure rb(U:aQ)(a:af)(fd:cq)(st:cg):Prop where
 at_:FnAt U a fd
 body:fd.body=lj (bg st)
 scope:fd.scope=bc st
 params:fd.params=fu st
 glob:fd.globals=ef
 bi:fd.builtins=fY
 clo:fd.closure=[]
 kwd:fd.kwdefaults=aA
theorem rb.ext(f:rb U a fd st)(x:gU H U h):rb h a fd st:=⟨f.at_.ext x,f.body,f.scope,f.params,f.glob,f.bi,f.clo,f.kwd⟩
theorem Xr{K:LN}(B:cx U mg mb)(x1:gU H U s.heap)(bK:A.depth<1000)(dB:rb U a fd st)(DA:(bc st).isCoroutine=ab)(za:(bc st).isGenerator=ab)(hk:(bc st).kind=dZ)(so:T A.in1 (dy fd ⟨vs,[]⟩) s (λbs Y=>Y=s/\bs=(K.map NM).zip us))(aO:bA s.heap avs us F)(tV:K.Nodup)(dM:K.length=us.length)(E:∀x∈K,Hx (bc st) x)(hss:∀fX,pP H τ' s.heap (A.deeper fX) (bc st) fX (bg st) (qL K avs) G' (O av)):
 T A (call (R a) vs) s (λv Y=>dG τ' s Y/\∃F,bM Y.heap av v F):=by
 have N':=dB.ext x1;have B':=B.ext x1;show bf N'.at_.obj λo ho hd=>kU<|J9 (by assumption) ho hd (N'.scope▸DA) (N'.scope▸za) N'.body (N'.at_.ach (H:=H) (.refl _))<|so.Dt<|N'.clo.symm▸Tz (N'.scope▸hk) (λx hxm=>?_) λJ he aP ic=>?_
 .obtain ⟨n,v⟩:=x;show bf (bH.mp ((sZ hxm).1)) λy hy dX=>dX▸N'.scope.symm▸?_;rcases E y hy with q|q
  .show ak q
  .show aw ⟨q,kx _ _ _ _ (ak (mH q))⟩
 .subst he;have fr0:=FR.start (H:=H) B'.top (.refl _) aO (N'.scope▸hk) N'.glob N'.bi tV dM (N'.scope▸E) ic;show eT ic.done λhh tk e2 _=>?_;replace fr0:=N'.scope▸fr0;show⟨B'.lim.keeps ic.toInCall.keep,Ks ?_⟩;show(hss _ s.heap aP _ fr0).wp λfl dp ow=>yE ow λm3 x3 v F3 hf3 V3=>hf3▸?_;have Rq:aP.os=s.os/\aP.drawn=s.drawn/\aP.gens=s.gens:=by show e2▸?_;show gI Z Z Z
  show⟨⟨x3,m3.os.trans Rq.1,m3.drawn.trans Rq.2.1,m3.gens.trans Rq.2.2⟩,F3,V3⟩
theorem RZ(K:LN)(avs:List AV)(av:AV)(F:List af)(B:cx U mg mb)(x1:gU H U s.heap)(bK:A.depth<1000)(dB:rb U a fd st)(DA:(bc st).isCoroutine=ab)(za:(bc st).isGenerator=ab)(hk:(bc st).kind=dZ)(so:dy fd ⟨vs,[]⟩=pure ((K.map NM).zip vs))(aO:bA s.heap avs vs F)(tV:K.Nodup)(dM:K.length=vs.length)(E:∀x∈K,Hx (bc st) x)(hss:∀fX,pP H τ' s.heap (A.deeper fX) (bc st) fX (bg st) (qL K avs) G' (O av)):
 T A (call (R a) vs) s (λv Y=>dG τ' s Y/\∃F,bM Y.heap av v F):=
 Xr B x1 bK dB DA za hk (so▸aC ⟨rfl,rfl⟩) aO tV dM E hss
protected theorem V.data(X:(iE P t f).In U)(Rv:U.get? b=O (qZ dx d))(hdo:U.get? dx=O iA)(tb:b∉bX)(td:dx∉bX)(E:ck G x=O (k,aH (R b))):
 V H U A L J G (gZ (aq (NM x) np) (aB "_data") pos) (aH (R d)) fr:=λs r=>Fe<|T.Dt (um r E)<|PO (jm X r.base) (r.base.keep _ _ tb Rv) (r.base.keep _ _ td hdo) (o6 [] (.toks _ _) (.ik _) d9)
structure pT(U:aQ)(P:cf)(t:Nat->a8)(f:Nat->cq):Prop where
 pH:(iE P t f).In U
 acQ:rb U 1991 (f 4) (vI 7)
 itemF:rb U 1998 (f 5) (vI 8)
 ϯ:rb U 1963 (f 1) (vI 3)
 dJ:rb U 1977 (f 2) (vI 5)
 afK:(f 4).defaults=aA
 ϰ:(f 5).defaults=aA
 afL:(f 1).defaults=aA
 ϱ:(f 2).defaults=aA
structure wo(h:aQ)(b dx d:af)(ns:LN):Prop where
 obj:h.get? b=O (qZ dx d)
 Xt:h.get? dx=O iA
 dat:h.get? d=O (kF ns)
 t1:b∉bX
 t2:dx∉bX
 t3:d∉bX
 ok:l8 ns
theorem pT.ext(x:gU H U h)(B:pT U P t f):pT h P t f:=⟨jm B.pH x,B.acQ.ext x,B.itemF.ext x,B.ϯ.ext x,B.dJ.ext x,B.afK,B.ϰ,B.afL,B.ϱ⟩
theorem wo.ext(x:gU H h h')(B:wo h b dx d ns):wo h' b dx d ns:=⟨x.keep _ _ B.t1 B.obj,x.keep _ _ B.t2 B.Xt,x.keep _ _ B.t3 B.dat,B.t1,B.t2,B.t3,B.ok⟩
theorem ahU(hp:fd.params=fu (vI 7))(hd:fd.defaults=aA)(v:aa):dy fd ⟨[v],[]⟩=pure (([110].map NM).zip [v]):=by
 delta dy
 show hp.symm▸hd.symm▸?_;rfl
theorem ahV(hp:fd.params=fu (vI 8))(hd:fd.defaults=aA)(v u:aa):dy fd ⟨[v,u],[]⟩=pure (([110,112].map NM).zip [v,u]):=by
 delta dy
 show hp.symm▸hd.symm▸?_;rfl
theorem ϲ(B:cx U mg mb)(I:dQ mg mb)(gy:pT U P t f)(x1:gU H U s.heap)(bK:A.depth<1000)(hB:wo s.heap b dx d ns):
 T A (call (R 1991) [R b]) s (λv Y=>dG H s Y/\∃tk,v=ag (ai ns.length) tk):=by
 show(RZ (G':=[]) [110] [aH (R b)] (aT ns.length) [] B x1 bK gy.acQ Z Z Z (ahU gy.acQ.params gy.afK _) ?_ aL Z aL λfX=>?_).wp3 λv Y F e aO=>⟨e,aO.toInt⟩
 .show ej [] [] (.ik _) .nil
 show SS.m<|tU<|S1.ret<|uK (B.ext x1) I Z hB.dat hB.t3 hB.ok (V.data (x:=110) (jm gy.pH x1) hB.obj hB.Xt hB.t1 hB.t2 Z) Z
theorem Y7{tk:a8}(B:cx U mg mb)(gy:pT U P t f)(x1:gU H U s.heap)(bK:A.depth<1000)(hB:wo s.heap b dx d ns)(hk:ns[k]? =O x):
 T A (call (R 1998) [R b,ag (ai k) tk]) s (λv Y=>dG H s Y/\∃tk,v=ag (ai x) tk):=by
 show(RZ (G':=[]) [110,112] [aH (R b),aT k] (aT x) [] B x1 bK gy.itemF Z Z Z (ahV gy.itemF.params gy.ϰ _ _) ?_ aL Z aL λfX=>?_).wp3 λv Y F e aO=>⟨e,aO.toInt⟩
 .show ej [] [] (.ik _) (ej [] [] (.ofInt _ _) .nil)
 show SS.m<|tU<|S1.ret<|B2 hB.dat hB.t3 hB.ok (V.data (x:=110) (jm gy.pH x1) hB.obj hB.Xt hB.t1 hB.t2 Z) (ar 112 Z) hk Z
theorem JH(B:cx U mg mb)(I:dQ mg mb)(gy:pT U P t f)(bK:A.depth<1000)(hB:wo U b dx d ns)(kQ:Gi L "len")(he:V H U A L J G e (aH (R b)) ab)(dH:cH e=ab):V H U A L J G (bx (aq (aB "len") np) [e] [] pos) (aT ns.length) fr:=λs r=>by have hI:=I ("len",bB "len") aL;show mh<|(eG B r kQ hI.1 hI.2 (rfl)).Dt<|yu ((fJ.cons he fJ.nil dH s pos r).Ra λvs ax F1 e1 V1=>?_) (dq dH _ _) Z;apply vH V1;have x1:=r.base.trans e1.ext;have hl:=hB.ok.2;have hB1:=hB.ext x1;show Calls.call_function_entry kind_len plain_len entry_len (args_len1 _)<|aj (m:=oneArg "len" _)<|aC<|aj (Hw (jm gy.pH x1) hB1.obj hB1.Xt afH acK ((ϲ (A:=A.in1) B I gy x1 bK hB1).wp3 λv s2 tk e2 hv=>?_));subst hv;show aj<|cQ<|aC<|aj<|u7<|(?_:aE _ _ (if ai ns.length>=2 ^ 63 then _ else _) _ _ _);rw[if_neg au];show aj (wpAny_mkInt (aC ⟨_,rfl,(e1.trans e2).trans (.toks _ _),[],.ofInt _ _,d9⟩))
theorem R0{i:aa}(X:(iE P t f).In s.heap)(hB:wo s.heap b dx d ns)(h:aE (aD prog w) A.in1 (call (R 1998) [R b,i]) Q a0 s)(sj:Kv slice N (R b) i=runValue (fE "lifetime.subscript" ⟨[R b,i],[]⟩)):aE (aD prog w) A (subscriptTail value slice (R b) i) Q a0 s:=by have I:=xh hB.obj hB.Xt;show aj<|aj<|aj<|I.type.here<|(A4 X Xp).here<|aj<|jY (X 1998 _ Z)<|aC<|sj.symm▸aj (Kn (qh entry_sub ?_));show aj (special_fn X I Xp Ϩ (ir h (λv Y z=>?_) λ_ _ z=>z));show aC (aj (wpAny_letTemporaryGo (aC z)))
theorem acR(h:kg slice=ab)(o i:aa):Kv slice N o i=runValue (fE "lifetime.subscript" ⟨[o,i],[]⟩):=by cases slice<;>first|rfl|(ext)
theorem Y8{i:aG}(B:cx U mg mb)(gy:pT U P t f)(bK:A.depth<1000)(hB:wo U b dx d ns)(he:V H U A L J G e (aH (R b)) ab)(hi:V H U A L J G i (aT k) ab)(hk:ns[k]? =O x)(sj:kg i=ab):V H U A L J G (dk e i pos) (aT x) fr:=λs r=>by show rO<|(he s r).ο λax e1=>(hi ax (r.ext e1.ext)).CA λtk aP e2=>have Jr:=e1.trans e2;have x1:=r.base.trans Jr.ext;R0 (jm gy.pH x1) (hB.ext x1) ((Y7 (A:=A.in1) B gy x1 bK (hB.ext x1) hk).wp3 λv s3 tk3 e3 hv=>?_) (acR sj _ _);subst hv;show o6 [] (Jr.trans e3) (.ofInt _ _) d9
section
open PySem.W PySem.SeqAt
theorem nV(e:h.get? a=O (cV vs n)):h.IsTuple a vs.toArray:=⟨_,e,rfl,n,rfl⟩
noncomputable def eqV(x:Int):aa->Bool
 |ag i _=>i==x
 |_=>ab
theorem Xu{x:Int}:∀{vs:List aa} {ms:List Int},fk vs ms->vs.toArray.any (eqV x)=ms.any (· ==x):=by
 intro vs ms h;rw[List.any_toArray];induction h with
 |nil=>rfl
 |cons n t r ih=>simp[eqV,ih]
theorem JI{x:Int}{ms:List Int}(h:fk vs ms):∀y,y∈vs.toArray->EqAt A s y (ag x u) (eqV x y):=by
 intro y hy;have hy:y∈vs:=by simpa using hy
 induction h with
 |nil=>show kM hy
 |cons n t r ih=>show ba (bq.mp hy) (λe=>e▸EqAt.int_int n t x u) λe=>ih (by simpa using e) e
theorem R4{a c:aG}{x:Int}{ms:List Int}(ha:V H U A L J G a (a6 x) ab)(hc:V H U A L J G c (fG ys) ab)(h2:jd ys=O ms)(hm:Em Bd c=ab):
 pO H U A L J G (jw a [Bd] [c] pos) (!(ms.any (· ==x))):=λs r=>by
 show uT ((ha s r).CA λt ax e1=>(hc ax (r.ext e1.ext)).tR λu aP F2 e2 V2 _=>?_) hm;apply pU V2;intro b ws m _ b3 b4;have IA:=intsAre_of b4 h2;show notIn_tupleAt (eqV x) (nV b3) (JI IA)<|(Xu IA).symm▸mf ⟨e1.trans e2,rfl⟩
theorem Xv{a c:aG}{x:Int}{ms:List Int}(ha:V H U A L J G a (a6 x) ab)(hc:V H U A L J G c (fG ys) ab)(h2:jd ys=O ms)(hm:Em yD c=ab):
 pO H U A L J G (jw a [yD] [c] pos) (ms.any (· ==x)):=λs r=>by
 show uT ((ha s r).CA λt ax e1=>(hc ax (r.ext e1.ext)).tR λu aP F2 e2 V2 _=>?_) hm;apply pU V2;intro b ws m _ b3 b4;have IA:=intsAre_of b4 h2;show in_tupleAt (eqV x) (nV b3) (JI IA)<|(Xu IA).symm▸mf ⟨e1.trans e2,rfl⟩
theorem qS{x:aV}{i:Int}{tk:a8}(B:cx U mg mb)(E:L.names.lookup x=O kZ)(hv:mg x=O (ag i tk))(hd:(x==("__debug__" :aV))=ab):V H U A L J G (aq x pos) (a6 i) fr:=λs r=>
 T.Dt (sh B r E hv hd) (o6 [] (.refl _) (.ofInt _ _) d9)
theorem B5{x:aV}(B:cx U mg mb)(E:L.names.lookup x=O kZ)(hv:mg x=O v)(hd:(x==("__debug__" :aV))=ab):V H U A L J G (aq x pos) (aH v) fr:=λs r=>
 T.Dt (sh B r E hv hd) (o6 [] (.refl _) (.ik _) d9)
end
noncomputable def mL(k:Nat)(t u v:a8):bE:={cls:=ao "range",data:=bF #[ag 0 t,ag (ai k) u,ag 1 v]}
section
variable{Q:cb->ae->Prop}
theorem PS.acS(p:PS H U L J aK bo bu G S s)(B:cx U mg mb):aK.heap.get? s.heap.objs.size=ah/\U.get? s.heap.objs.size=ah/\s.heap.objs.size∉bX:=
 ⟨p.mod.mod.new (bz _),p.ext.new (bz _),fm (jz B.top p.ext)⟩
theorem PS.sv(p:PS H U L J aK bo bu G S s)(B:cx U mg mb)(hs:Ht o=N)(ho:o.isFreed=ab):
 PS H U L J aK bo bu G ((s.heap.objs.size,o)::S) {s with heap:=s.heap.push o,toks:=tk}:=by
 show hJ (p.acS B) λn1 n2 n3=>have p1:PS H U L J aK bo bu G S {s with heap:=s.heap.push o,toks:=tk}:=p.grow ⟨.push _ _,rfl,rfl,eF _⟩;gC p.fr λW r q1 q2=>?_;have hnW:s.heap.objs.size∉W:=λq=>oX (r.jh _ q) λ_ _ o' e _=>(absurd (cj e) (gv _));show⟨⟨W,r.grow (.push _ _),q1,λx E=>by
  rcases bq.mp E with e|e
  .subst e;show hnW
  .show q2 x e⟩,λx E=>by
  show ba (bq.mp E) (λe=>e▸rT (bI _ ho) n3 hs n2) λe=>p1.sg x e,p1.mod,λx E=>by
  rcases bq.mp E with e|e
  .subst e;show aw n1
  .show p1.lE x e⟩
theorem xi(x k:Nat){cp:cJ}(p:PS H U L J aK bo bu G S s)(B:cx U mg mb)(I:dQ mg mb)(kQ:Gi L "range")(he:V H s.heap A L J G e (aT k) ab)(dH:cH e=ab)(hso:bT G x=N)(E:Hx L x)(hs:fz (bx (aq (aB "range") np) [e] [] cp) (O (aq (NM x) q)) pos.line J=pure ab)(kk:∀rr t u v Y,PS H U L J aK bo bu (jk G x 0 (aH (R rr))) ((rr,mL k t u v)::S) Y->C A (aU rest J) Y Q):
 C A (aU (ez [aq (NM x) q] (bx (aq (aB "range") np) [e] [] cp) pos::rest) J) s Q:=by
 show yO (τ':=H) (U:=U) (aK:=aK) (bo:=bo) (bu:=bu) hso E hs<|T.wc<|mE ("range") ("range") (p.base B) I aL kQ (rfl) (fJ.cons he fJ.nil dH) (by simp[dW,dH]) p.er λvs ax F e1 V1=>?_;apply nM V1;show λt=>sO (DW _ (aH (R ax.heap.objs.size)) [] ((p.grow e1).sv (o:=mL k ax.toks t (ax.toks+1)) (tk:=ax.toks+1+1) B Z Z) (.ik _) Z (λY p'=>kk _ _ _ _ Y p'))
theorem z8(x k:Nat){t v:a8}(hh:dh A)(B:Tp U)(ho:U.get? rr=O (mL n t u v))(ht:rr∉bX)(E:ck G x=O (k,aH (R rr)))(hn:n<=1000):
 zp H U A L J G (aq (NM x) pos) (Dw 0 1 n):=λs r=>by
 show(wb r E).mono λv ax ow=>MB ow λe1 F aO=>e1.symm▸?_;apply bM.Gg aO;show qD hh B r.base (.refl _) (r.base.keep rr _ ht ho) ?_ ?_
 .have:ai n=(n:Int):=rfl;show u9 aL aL fF au
 .rw [uZ];split<;>lia
end
section
variable{Q:cb->ae->Prop}
theorem z9(x:Nat)(ns:LN)(f:σ->Nat->σ)(Gf:σ->iB)(Sf:σ->Sg)(Inv:σ->Prop)(R5:σ)(p:PS H U L J aK bo bu G S s)(uu:zp H s.heap A L J G iter (ns.map ai))(h0:kr (Gf R5) G)(D':∀y∈Sf R5,y∈S)(hi0:Inv R5)(akA:∀n st,n∈ns->Inv st->Inv (f st n))(E:Hx L x)(dH:∀st,bT (Gf st) x=N)(step:∀n st ax W,n∈ns->Inv st->PS H U L J ax W ((Sf st).map (·.1)) (jk (Gf st) x 0 (aT n)) (Sf st) ax->
 C A (aU body J) ax (λfl aP=>fl=cL/\PS H U L J ax W ((Sf st).map (·.1)) (Gf (f st n)) (Sf (f st n)) aP))(hs:Fs iter J)(k:∀Y,Inv (ns.foldl f R5)->PS H U L J aK bo bu (Gf (ns.foldl f R5)) (Sf (ns.foldl f R5)) Y->C A (aU rest J) Y Q):
 C A (aU (j7 (aq (NM x) px) iter body [] pos::rest) J) s Q:=by
 have hI:∀i,Inv ((ns.take i).foldl f R5):=λi=>by
  induction i with
  |zero=>show hi0
  |succ i ih=>show δ (ns[i]?) (λe=>by rw[AK,e];simpa using ih) λn e=>by rw[A3 f R5 e];show akA n _ (cY e) ih
 show yN _ _ (λi _=>Gf ((ns.take i).foldl f R5)) (λi _=>Sf ((ns.take i).foldl f R5)) () p uu h0 D' E (λi z _=>dH _) (λi n z ax W hn q=>?_) hs (λY z p'=>?_)
 .replace hn:=cZ▸hn;show δ (ns[i]?) (λe=>?_) λm e=>?_
  .have hn:=e▸hn;ext
  .rw [e]at hn;obtain rfl:=aW hn;show(step m _ ax W (cY e) (hI i) q).mono λfl aP qQ=>fc qQ λa b=>⟨a,(),?_⟩;rw[A3 f R5 e];show b
 .rw [(by simp:(ns.map ai).length=ns.length),sY]at p';show k Y (by have:=hI ns.length;rwa [sY]at this) p'
end
def pI:cg:=dP 20
noncomputable def ub:cg->List cg
 |j7 _ _ b _ _=>b
 |_=>[]
def afM:List cg:=ub (a9 (ub (a9 (ub (a9 (bg pI) 7)) 1)) 0)
noncomputable def JJ(right v:Nat):Nat:=cond (fD (right % 4) 0) (12 - v) v
def R6(ns:LN)(right v:Nat)(st:List (LN)×Nat)(z:Nat):List (LN)×Nat:=
 cond (fD ((st.1.getD (JJ right v) []).getD (right - z) 0) 2 && jJ st.2 ns.length) (Y5 st.1 (JJ right v) (right - z) (ns.getD st.2 0),st.2+1) st
def cwV(ns:LN)(right:Nat)(st:List (LN)×Nat)(v:Nat):List (LN)×Nat:=(aJ 2).foldl (R6 ns right v) st
def cwR(ns:LN)(st:List (LN)×Nat)(right:Nat):List (LN)×Nat:=(aJ 13).foldl (cwV ns right) st
def I9(ns:LN)(b9:List (LN)):List (LN)×Nat:=[12,10,8,6,4,2].foldl (cwR ns) (b9,0)
theorem JK{f:σ->Nat->σ}{Inv:σ->Prop}{st:σ}(hs:∀n st,n∈ns->Inv st->Inv (f st n))(h:Inv st):Inv (ns.foldl f st):=List.foldlRecOn ns f h λb D a ha=>hs a b ha D
theorem Xw(hn:l8 ns){v:Nat}(hv:v<13){st:List (LN)×Nat}(h:Mx st.1)(z:Nat):Mx (R6 ns right v st z).1:=by
 delta R6
 cases e:(fD ((st.1.getD (JJ right v) []).getD (right - z) 0) 2 && jJ st.2 ns.length) with
 |false=>show h
 |true=>
  have h2:st.2<ns.length:=by have:=(fN.mp e).2;show dN this
  show h.set (by delta JJ;cases fD (right % 4) 0<;>simp<;>lia) _ (hn.1 _ (by rw[dc,dE h2];show Lc h2))
theorem ϳ(hn:l8 ns){v:Nat}(hv:v<13){st:List (LN)×Nat}(h:Mx st.1):Mx (cwV ns right st v).1:=
 JK (Inv:=λ(st:List (LN)×Nat)=>Mx st.1) (λz st _ h=>Xw hn hv h z) h
theorem afN(hn:l8 ns){st:List (LN)×Nat}(h:Mx st.1):Mx (cwR ns st right).1:=
 JK (Inv:=λ(st:List (LN)×Nat)=>Mx st.1) (λv st hv h=>ϳ hn (dm.mp hv) h) h
section
variable{Q:cb->ae->Prop}
def ji(b dx d:af)(ns:LN):Sg:=[(b,qZ dx d),(dx,iA),(d,kF ns)]
theorem PS.Hz(p:PS H U L J aK bo bu G S s)(h:∀y∈ji b dx d ns,y∈S)(hn:l8 ns):wo s.heap b dx d ns where
 obj:=p.get (h _ (by simp[ji]))
 Xt:=p.get (h _ (by simp[ji]))
 dat:=p.get (h _ (by simp[ji]))
 t1:=(p.sg _ (h (b,qZ dx d) (by simp[ji]))).2.1
 t2:=(p.sg _ (h (dx,iA) (by simp[ji]))).2.1
 t3:=(p.sg _ (h (d,kF ns) (by simp[ji]))).2.1
 ok:=hn
theorem ahW(n:Nat):Dw 0 1 n=(aJ n).map ai:=by show AI λi _=>?_;simp
def gCw(rs:List af)(b rr:af)(n:Nat)(st:List (LN)×Nat):iB:=[(9,0,uw rs),(71,0,aH (R b)),(68,0,eY N),(73,0,aT 13),(74,0,aT 0),(75,0,aT st.2),(76,0,aT n),(77,0,aH (R rr))]
def gC2(rs:List af)(b rr:af)(n right v:Nat)(st:List (LN)×Nat):iB:=jk (jk (gCw rs b rr n st) 12 0 (aT right)) 78 0 (aT v)
theorem ahX(h:right∈[12,10,8,6,4,2]):gT .eq (ai ((right+0) &&& 2)) 0=fD (right % 4) 0:=by simp at h;rcases h with rfl|rfl|rfl|rfl|rfl|rfl<;>rfl
theorem ahY:gT .eq (ai x) (ai y)=fD x y:=by rw[U8];simp[gT];show Uj
theorem ahZ:gT .lt (ai x) (ai y)=jJ x y:=by rw[U8];simp[gT,jJ];show Iff.symm Nat.add_one_le_iff
theorem akB{S0:Sg}{v:Nat}{st:List (LN)×Nat}(B:cx U mg mb)(gy:pT U P t f)(bK:A.depth<1000)(hl:rs.length=13)(tV:rs.Nodup)(hm:Mx st.1)(hd:∀y∈S0,y.1∉rs)(yR:∀y∈ji b dx d ns,y∈S0)(hn:l8 ns)(hr:right∈[12,10,8,6,4,2])(hv:v<13)(hz:z<2)(p:PS H U (bc pI) J aK bo bu (jk (gC2 rs b rr ns.length right v st) 79 0 (aT z)) (uL rs st.1++S0) s):
 C A (aU afM J) s (λfl Y=>fl=cL/\PS H U (bc pI) J aK bo bu (gC2 rs b rr ns.length right v (R6 ns right v st z)) (uL rs (R6 ns right v st z).1++S0) Y):=by
 have akn:2<=right/\right<=12:=r26 _ hr;have hi:JJ right v<13:=by unfold JJ;cases fD (right % 4) 0<;>simp<;>lia
 have W0:rs[JJ right v]? =O (rs.getD (JJ right v) 0):=kD au;show hJ (hm.get hi) λm1 m2 m3=>have E:(st.1.getD (JJ right v) [])[right - z]? =O ((st.1.getD (JJ right v) []).getD (right - z) 0):=kD au;p.s1 (S1.m (bC 15 (aT (right - z)) (lS (ar 12 Z) (ar 79 Z) au) Z Z (ak Z) Z)) λs1 p1=>p1.s1 (S1.m (bC 80 (eY (fD (right % 4) 0)) (V.to (Gl .eq (ai ((right+0) &&& 2)) 0
  (lr (x:=ai (right+0)) (y:=2) .band (fq (ar 12 Z) (ar 74 Z)) V.int Z) V.int) (congrArg _ (ahX hr))) Z Z (ak Z) Z)) λs2 p2=>p2.ite (x:=ab) (FP N (mF 68 Z)) λs3 p3=>fg (p3.s1 (S1.m (bC 14 (aT (JJ right v)) (wH (fD (right % 4) 0) (mF 80 Z) (λq=>?_) (λq=>?_)) Z Z (ak Z) Z)) λs4 p4=>?_)
 .have e:JJ right v=13 - 1 - v:=by unfold JJ;rw[q];rfl
  rw[e];show lS (lS (ar 73 Z) (aR 1) aL) (ar 78 Z) au
 .have e:JJ right v=v:=by unfold JJ;rw[q];rfl
  rw[e];show BL (ar 78 Z) Z
 show p4.s1 (S1.m (bC 31 (aH (R (rs.getD (JJ right v) 0))) (yQ _ (ar 9 Z) (ar 14 Z) W0 au Z) Z Z (ak Z) Z)) λs5 p5=>have hmem:=de S0 (pG W0 m1);p5.ite (x:=fD ((st.1.getD (JJ right v) []).getD (right - z) 0) 2 && jJ st.2 ns.length) (vK (pO.to (mB .eq (B2 (p5.get hmem) ((p5.sg _ hmem).2.1) m3 (ar 31 Z) (ar 15 Z) E Z) (aR 2)) ahY)
  (λ_=>pO.to (mB .lt (ar 75 Z) (ar 76 Z)) ahZ)) λs6 p6=>?_
 unfold R6;cases e:(fD ((st.1.getD (JJ right v) []).getD (right - z) 0) 2 && jJ st.2 ns.length) with
 |false=>show fg (fg ⟨rfl,p6.less (kr.rf (rfl) (rfl))⟩)
 |true=>
  have hy:ns[st.2]? =O (ns.getD st.2 0):=kD (dN (fN.mp e).2);show xf (rs.getD (JJ right v) 0) (right - z) (ns.getD st.2 0) p6 (Y8 (p6.base B) (gy.ext p6.ext) bK (p6.Hz (λy hy=>ew _ (yR y hy)) hn) (ar 71 Z) (ar 75 Z) hy Z) (ar 31 Z) (ar 15 Z)
   hmem m3 au (hn.1 _ (cY hy)) Z (yP tV W0 _ hd) λs7 p7=>p7.s1 (S1.m (CG (k:=0) 75 (ai st.2) 1 (ai (st.2+1)) .add Z V.int Z (ak Z) Z (ak Z))) λs8 p8=>(fg (fg ⟨rfl,p8.less (by show kr.rf bG bG)⟩))
theorem acT{tk0 tk1 tk2:a8}{S0:Sg}(hh:dh A)(B:cx U mg mb)(I:dQ mg mb)(gy:pT U P t f)(bK:A.depth<1000)(hl:rs.length=13)(tV:rs.Nodup)(hm:Mx b9)(hd:∀y∈S0,y.1∉rs)(yR:∀y∈ji b dx d ns,y∈S0)(hn:l8 ns)(ϴ:(rr,mL 2 tk0 tk1 tk2)∈S0)(p:PS H U (bc pI) J aK bo bu (gCw rs b rr ns.length (b9,0)) (uL rs b9++S0) s)(k:∀Y,Mx (I9 ns b9).1->PS H U (bc pI) J aK bo bu (gCw rs b rr ns.length (I9 ns b9)) (uL rs (I9 ns b9).1++S0) Y->C A (aU rest J) Y Q):
 C A (aU (a9 (bg pI) 7::rest) J) s Q:=by
 show z9 12 [12,10,8,6,4,2] (cwR ns) (gCw rs b rr ns.length) (λst=>uL rs st.1++S0) (λst=>Mx st.1) (b9,0) p
  (zp.eq (GA (n:=6) hh (p.base B) I Z (lr .sub (ar 73 Z) V.int Z) Z V.int Z (MM V.int) Z aL (rfl) (rfl) (rfl)) (rfl))
  (.refl _) (λy hy=>hy) hm (λn st _ h=>afN hn h) (ak Z) (λst=>rfl) (λright st s1 W1 hr hmx p1=>?_) (λ_=>rfl) (λY hI p'=>k Y hI p')
 show p1.ite (vK (y:=N) (FP N (mF 68 Z)) (λq=>by ext)) λs2 p2=>fg<|z9 78 (aJ 13) (cwV ns right) (λst=>jk (gCw rs b rr ns.length st) 12 0 (aT right)) (λst=>uL rs st.1++S0) (λst=>Mx st.1) st p2
  (zp.eq (fR hh (p2.base B) I Z (ar 73 Z) Z bD) Z) (.refl _) (λy hy=>hy) hmx (λv st hv h=>ϳ hn (dm.mp hv) h) (ak Z) (λst=>rfl) (λv Oo s3 W3 hv akC p3=>?_) (λ_=>rfl)
  (λY hI p'=>fg ⟨rfl,p'.less (kr.rf (rfl) (rfl))⟩)
 show z9 79 (aJ 2) (R6 ns right v) (gC2 rs b rr ns.length right v) (λst=>uL rs st.1++S0) (λst=>Mx st.1) Oo p3
  (zp.eq (z8 77 0 hh (p3.base B).top (p3.get (ew _ ϴ)) (p3.sg _ (ew _ ϴ)).2.1 Z bD) (ahW 2)) (.refl _) (λy hy=>hy) akC (λz st _ h=>Xw hn (dm.mp hv) h z) (ak Z) (λst=>rfl) (λz st2 s4 W4 hz akD p4=>?_) (λ_=>rfl)
  (λY hI p'=>fg ⟨rfl,p'.less (kr.rf (rfl) (rfl))⟩)
 show akB B gy bK hl tV akD hd yR hn hr (dm.mp hv) (dm.mp hz) p4
end
section
variable{Q:cb->ae->Prop}
theorem acU{S0:Sg}{v1 v3:a8}(hh:dh A)(B:cx U mg mb)(I:dQ mg mb)(gy:pT U P t f)(bK:A.depth<1000)(hl:rs.length=13)(tV:rs.Nodup)(hm:Mx b9)(hd:∀y∈S0,y.1∉rs)(yR:∀y∈ji b dx d ns,y∈S0)(hn:l8 ns)(h1:mg (aB "VERSION_M1")=O (ag (-3) v1))(h3:mg (aB "VERSION_M3")=O (ag (-1) v3))(PR:(I9 ns b9).2=ns.length)(p:PS H U (bc pI) J aK bo bu (qL [9,71,72] [uw rs,aH (R b),a6 (-2)]) (uL rs b9++S0) s)(k:∀Y G',Mx (I9 ns b9).1->PS H U (bc pI) J aK bo bu G' (uL rs (I9 ns b9).1++S0) Y->Q cL Y):
 C A (aU (bg pI) J) s Q:=by
 change C _ (aU [a9 (bg pI) 0,a9 (bg pI) 1,a9 (bg pI) 2,a9 (bg pI) 3,a9 (bg pI) 4,a9 (bg pI) 5,a9 (bg pI) 6,a9 (bg pI) 7,a9 (bg pI) 8] J) s Q;show p.s1 (S1.m (z0 Z)) λs1 p1=>p1.s1 (S1.m (bC 73 (aT 13) (V.to (Nu B I Z (ar 9 Z) Z jx) (by simp[hl])) Z Z (ak Z) Z)) λs2 p2=>p2.s1 (S1.m (bC 68 (eY N) (Gl .lt (-2) 1 (ar 72 Z) V.int) Z Z (ak Z) Z)) λs3 p3=>p3.s1 (S1.m (bC 74 (aT 0) (wH N (R4 (x:= -2) (ys:=[a6 (-3),a6 (-1)]) (ms:=[-3, -1]) (ar 72 Z)
  (uo B.top (fJ.cons (qS B Z h1 Z) (fJ.cons (qS B Z h3 Z) fJ.nil Z) Z) Z Z) Z Z) (λ_=>V.int) (λq=>nnT q)) Z Z (ak Z) Z)) λs4 p4=>p4.s1 (S1.m (bC 75 (aT 0) V.int Z Z (ak Z) Z)) λs5 p5=>have akE:∀y∈ji b dx d ns,y∈uL rs b9++S0:=λy hy=>ew _ (yR y hy);PS.asg (x:=76) (av:=aT ns.length) p5 (JH (p5.base B) I (gy.ext p5.ext) bK (p5.Hz akE hn) Z (ar 71 Z) Z) Z Z (ak Z) Z λs6 p6=>xi 77 2 p6 B I Z V.int Z Z (ak Z) Z λrr t0 t1 t2 s7 p7=>?_
 have afO:∀y∈(rr,mL 2 t0 t1 t2)::S0,y.1∉rs:=λy hy=>by show ba (bq.mp hy) (λe=>?_) λe=>hd y e;subst e;intro hq;show dF (sX hq) λi hi=>?_;have jA:=(dR.mp hi).1;have e1:=p7.get (bY _ (de S0 (pG hi (hm.get (i:=i) au).1)));rw[p7.get (cR ..)]at e1;show absurd (congrArg Fb (aW e1)) (by simp[mL,kF,pR])
 show acT (tk0:=t0) (tk1:=t1) (tk2:=t2) (S0:=(rr,mL 2 t0 t1 t2)::S0) hh B I gy bK hl tV hm afO (λy hy=>bY _ (yR y hy)) hn (cR ..)
  ((p7.sub ?_).less (kr.rf bG bG)) λs8 hm8 p8=>?_
 .intro y hy;show ba (bZ.mp hy) (λq=>bY _ (de _ q)) λq=>ba (bq.mp q) (λe=>by rw[e];show cR ..) λe=>bY _ (ew _ e)
 show p8.ite (x:=ab) (pO.to (mB .ne (ar 75 Z) (JH (p8.base B) I (gy.ext p8.ext) bK (p8.Hz (λy hy=>ew _ (bY _ (yR y hy))) hn) Z (ar 71 Z) Z)) (by rw[PR];simp[gT])) λs9 p9=>fg<|fg<|k s9 _ hm8<|p9.sub λy hy=>ba (bZ.mp hy) (λq=>de _ q) λq=>ew _ (bY _ q)
end
def ClB(Γ:Ctx):Prop:=∀x∈Γ.below,oi x.1=N
inductive afP(aY:ae->ae->Prop)(F:Nat->aa->ae->ae->Prop)(fp:List af)(n:Nat)(aK:ae)(Rec:ae->iX->aI Fin->List Frame->ae->Prop):End->ae->Prop
 |mk {Y:ae} (v:aa) (g:Bool) (l:List aa) (k:Resume->aI Fin) (c':iX) (p':cJ) (fs':List Frame) (hq:(End.susp v g l k c' p' fs').quiet=N) (hd:aY aK Y) (hf:F n v aK Y)
  (hk:∀nG:ae,(∀b∈fp,∀o,Y.heap.get? b=O o->nG.heap.get? b=O o)->Rec nG c' (k (yC aA)) fs' nG):afP aY F fp n aK Rec (End.susp v g l k c' p' fs') Y
def Oq(A:bR)(aY:ae->ae->Prop)(F:Nat->aa->ae->ae->Prop)(fp:List af)(aN:x9)(gi:xW):Nat->ae->iX->aI Fin->List Frame->ae->Prop
 | 0=>λaK c t fs s=>Seg (aD prog w) A aN gi 0 aK c t fs s
 |n+1=>λaK c t fs s=>∀Γ p,Γ.code=c->Γ.Woken A->ClB Γ->∃e Y,Runs (aD prog w) Γ p t fs s e Y/\afP aY F fp n aK (Oq A aY F fp aN gi n) e Y
section
variable{F:Nat->aa->ae->ae->Prop}{aN:x9}{gi:xW}{c:iX}
theorem ClB.over{Γ:Ctx}(h:ClB Γ)(hc:oi Γ.code=N):Cl (Γ.over []):=⟨hc,h⟩
theorem HA{m:aI α}{bh:α->aI Fin}{cA:aa->aI Fin}(hc:oi c=N)(h:C (A.over c []) m s (λa Y=>Oq A aY F fp aN gi (n+1) aK c (bh a) [] Y)):Oq A aY F fp aN gi (n+1) aK c (m.wrap bh cA gd lv) [] s:=by rintro Γ p rfl wj jB;show runs_wrap_of_wp (Φ:=afP aY F fp n aK (Oq A aY F fp aN gi n)) bh cA gd lv m (h (Γ.over []) p (wj.over []) (jB.over hc)) (λa p' Y h'=>h' Γ p' Z wj jB) (λ_ _ _ f=>f.elim)
theorem iC{m:aI α}{bh:α->aI β}{K':β->aI Fin}{H':aa->aI Fin}(hc:oi c=N)(h:C (A.over c []) m s (λa Y=>Oq A aY F fp aN gi (n+1) aK c ((bh a).wrap K' H' gd lv) [] Y)):Oq A aY F fp aN gi (n+1) aK c ((m>>=bh).wrap K' H' gd lv) [] s:=by rw[Mj,tK];show HA hc h
theorem C0{c':iX}(hq:c'.quiet=N)(h:Oq A aY F fp aN gi n aK c' ((aD prog w).den c') [] s):Oq A aY F fp aN gi n aK c (Sem.pure (yz c')) [] s:=by
 cases n with
 |zero=>show seg_again hq h
 |succ n=>rintro Γ p rfl wj jB;show eT (h (Γ.goto c') p Z (wj.goto c') jB) λe nG hr q=>kK e nG (Runs.head (c₁:=c') (λ_ _ x=>Runs.again hq x) hr) q
theorem Y9{g:Bool}{l:List aa}{k:Resume->aI Fin}(hg:g=ab)(hd:aY aK s)(hf:F n v aK s)(h:∀nG:ae,(∀b∈fp,∀o,s.heap.get? b=O o->nG.heap.get? b=O o)->Oq A aY F fp aN gi n nG c (k (yC aA)) [] nG):Oq A aY F fp aN gi (n+1) aK c (Sem.yield v g l k) [] s:=by rintro Γ p rfl _ _;show⟨_,s,Runs.yield' [] rfl,v,g,l,k,_,p,[],by subst hg;rfl,hd,hf,h⟩
theorem afQ{k:Unit->aI Fin}(hc:oi c=N)(h:Oq A aY F fp aN gi (n+1) aK c (k ()) [] s):Oq A aY F fp aN gi (n+1) aK c (Sem.at p' k) [] s:=
 HA (m:=mT p') (bh:=k) (cA:=Ml) (gd:=id) (lv:=id) hc (C.standAt h)
def JL(A:bR)(aY:ae->ae->Prop)(F:Nat->aa->ae->ae->Prop)(fp:List af)(aN:x9)(gi:xW)(n:Nat)(gs:eV)(s:ae):Prop:=
 match gs with
 |LQ c=>Oq A aY F fp aN gi n s c ((aD prog w).den c) [] s
 |GenState.suspended k _ c _ fs _=>Oq A aY F fp aN gi n s c (k (yC aA)) fs s
 |_=>False
theorem R7{gs:eV}(h:JL A aY F fp aN gi 0 gs s):gs.Goes (aD prog w) A aN gi 0 (yC aA) s:=by
 cases gs with
 |fresh c=>show⟨rfl,h⟩
 |suspended=>show h
 |_=>show h.elim
theorem ClB.wake{Γ:Ctx}(h:Cl Γ)(c:iX)(p:cJ):ClB (Γ.wake c p):=λx E=>by
 rcases bq.mp E with rfl|E
 .show h.1
 .show h.2 x E
theorem Za{gs:eV}{l:List aa}{k:GenResult->aI α}{Q:α->ae->Prop}(hg:s.gens[g]? =O gs)(PT:JL A aY F fp aN gi (n+1) gs (s.setGen g m9))(hY:∀v ax Xx,Xx.bare=N->aY (s.setGen g m9) ax->F n v (s.setGen g m9) ax->(∀nG:ae,(∀b∈fp,∀o,ax.heap.get? b=O o->nG.heap.get? b=O o)->JL A aY F fp aN gi n Xx nG)->
 C A (k (GenResult.yielded v)) (ax.setGen g Xx) Q):C A (Sem.resume g (yC aA) l k) s Q:=by
 intro Γ p wj jB;cases gs with
 |fresh c=>show eT (PT (Γ.wake c p) p Z (wj.wake c p) (ClB.wake jB c p)) λ_ ax hr q=>?_;obtain⟨v,alZ,akF,akG,c₀,ah0,ah1,hq,hd,hf,hk⟩:=q;show kK _ _ (by delta Wakes;show hg.symm▸?_;show⟨_,ax,hr,hq,rfl,rfl⟩) (hY v ax _ (Wq hq) hd hf hk Γ p wj jB)
 |suspended akG akF c₀ ah0 ah1 cl=>show eT (PT (Γ.wake c₀ p) ah0 Z (wj.wake c₀ p) (ClB.wake jB c₀ p)) λ_ ax hr q=>?_;obtain⟨v,al0,l₁,k₁,c₁,al1,alS,hq,hd,hf,hk⟩:=q;show kK _ _ (by delta Wakes;show hg.symm▸?_;show⟨_,ax,hr,hq,rfl,rfl⟩) (hY v ax _ (Wq hq) hd hf hk Γ p wj jB)
 |running=>show PT.elim
 |finished=>show PT.elim
end
section
variable{F:Nat->aa->ae->ae->Prop}{aN:x9}{gi:xW}
theorem ah2{gs:eV}{Q:Option aa->ae->Prop}(hl:s.heap.NoLimit)(bK:A.depth<mS)(hg:s.heap.IsGen a g)(Q2:s.gens[g]? =O gs)(PT:JL A.in1 aY F fp aN gi (n+1) gs (s.setGen g m9))(hY:∀v ax Xx,Xx.bare=N->aY (s.setGen g m9) ax->F n v (s.setGen g m9) ax->(∀nG:ae,(∀b∈fp,∀o,ax.heap.get? b=O o->nG.heap.get? b=O o)->JL A.in1 aY F fp aN gi n Xx nG)->
 Q (O v) (ax.setGen g Xx)):C A (xQ (R a) "__next__") s Q:=by
 show vX hg.typeIs slot_gen_next (oq hg.typeIs slot_gen_next entry_gen_next (args_gen_next _) Z ?_);change C A.in1 (abS (R a) (yC aA)) s _;show C.bind<|C.holding<|Lake.T.wX (v₀:=g) (aK:=s) (wpAny_genNumber hg ⟨rfl,rfl⟩)<|C.bind (Lake.T.wX (v₀:=gs.status) (aK:=s) (wpAny_genState Q2 ⟨rfl,rfl⟩) ?_);cases gs with
 |running=>show PT.elim
 |finished=>show PT.elim
 |_=>show C.bind<|Lake.T.wX (v₀:=()) (aK:=s) (wpAny_roomToWake hl bK ⟨rfl,rfl⟩)<|Za Q2 PT λv ax Xx D hd hf hk=>(C.pure (cn v Z (hY v ax Xx D hd hf hk)))
end
def GD(aS:af)(wr:List af)(aK s:ae):Prop:=GenSince aS wr aK s/\∀b o,aK.heap.get? b=O o->∃o',s.heap.get? b=O o'
def GF(o:bE)(v:aa)(aK s:ae):Prop:=∃r,v=R r/\aK.heap.get? r=ah/\s.heap.get? r=O o
noncomputable def GR(aS:af)(wr:List af):x9:=λn aK r ax=>r=bW cL/\(n=0/\GenSince aS wr aK ax)
noncomputable def GY(aS:af)(fp wr:List af):xW:=genProto aS fp wr (λ_=>N) 0 (λ_ _=>False)
theorem GD.refl(aS:af)(wr:List af)(s:ae):GD aS wr s s:=⟨GenSince.refl _ _ _,λ_ o e=>⟨o,e⟩⟩
theorem GD.step(x:GD aS wr aK s)(hk:∀b o,b≠aS->b∉wr->s.heap.get? b=O o->h'.get? b=O o)(he:∀b o,s.heap.get? b=O o->∃o',h'.get? b=O o'):
 GD aS wr aK {s with heap:=h',toks:=tk}:=⟨x.1.step hk,λb o e=>dF (x.2 b o e) λo' e'=>he b o' e'⟩
noncomputable abbrev zw:=Nat->aa->ae->ae->Prop
def zw.Back(F:zw):Prop:=∀i v aK s Y,(∀b o,aK.heap.get? b=O o->∃o',s.heap.get? b=O o')->F i v s Y->F i v aK Y
noncomputable def GFo(o:bE):zw:=λ_=>GF o
theorem GFo.back(o:bE):zw.Back (GFo o):=by
 show λ_ _ aK s Y h q=>gC q λr e1 e2 e3=>?_;show kJ r e1 ?_ e3;cases q:aK.heap.get? r with
 |none=>rfl
 |some o'=>show dF (h r o' q) λo2 q2=>?_;have q2:=e2.symm.trans q2;ext
def zw.DJ(F:zw):Prop:=∀(i:Nat) (v:aa) (aK s Y nG:ae),aK.heap=s.heap->Y.heap=nG.heap->F i v s Y->F i v aK nG
noncomputable def Fup(n₀:Nat)(F:zw):zw:=λn=>F (n₀ - 1 - n)
def acV(cenv:cI)(x:aV)(elt:aG)(fp wr:List af)(P:Nat->aa->Prop)(F:zw)(Ea:aQ):Prop:=
 ∀(A':bR) i v (aP:ae) m₂,dh A'->P i v->aP.heap.Ns cenv.locals m₂->m₂ x=O v->(∀b∈fp,b∉wr->∀o,Ea.get? b=O o->aP.heap.get? b=O o)->
  C A' (a7 elt cenv) aP (λy dp=>F i y aP dp/\Keeps aP dp)
theorem Zb{P:Nat->aa->Prop}(W:mU prog w A I fp wr n P St):mU prog w A I fp wr 0 (λ_ _=>False) (λi h=>St (n+i) h) where
 sub:=W.sub
 frame:=λi=>W.frame (n+i)
 item:=λ_ _ _ _ h=>absurd h (rM _)
 done:=W.done
 self:=λi=>W.self (n+i)
theorem ϵ{x:aV}{P:Nat->aa->Prop}{F:zw}(hFb:F.Back)(hh:dh A)(bo:∀A':bR,dh A'->mU prog w A' I fp wr n₀ P Jl)(hwe:∀i h,Jl i h->∀b∈wr,∃o,h.get? b=O o)(Ea:aQ)(E:cenv.kindOf x=O cU)(hp:(cenv.scope.kind==U6 ||(cenv.scope.kind==qv && cenv.locals != cenv.globals))=ab)(DA:cenv.scope.isCoroutine=ab)(WT:cenv.locals∉fp)(hq:acV cenv x elt fp wr P F Ea):
 ∀(k i:Nat) (aK s:ae) (m:aV->Option aa),n₀ - i=k->i<=n₀->Jl i s.heap->s.heap.Ns cenv.locals m->GD cenv.locals wr aK s->
  (∀b∈fp,b∉wr->∀o,Ea.get? b=O o->s.heap.get? b=O o)->
  Oq A (GD cenv.locals wr) (Fup n₀ F) (cenv.locals::fp) (GR cenv.locals wr) (GY cenv.locals fp wr) k aK
   (hx (lN elt [⟨aq x px,iter,[],0⟩] scope pos) 0 (R I) aA cenv)
   ((aD prog w).den (hx (lN elt [⟨aq x px,iter,[],0⟩] scope pos) 0 (R I) aA cenv)) [] s:=by
 intro k;induction k with
 |zero=>
  intro i aK s m hk hi dH hn C1 J';have Gz:i=n₀:=by lia
  subst Gz;show seg_genLoop hh (λA' h'=>Zb (bo A' h')) (λ_=>N) (λ_ _=>False) Ea E hp DA WT ⟨λ_ _ _ _ _ _ _ f=>f.elim,λ_ _ _ _ _ _ _ f=>f.elim⟩ 0 0 aK s m Z (ey _) dH hn C1.1 J'
 |succ k ih=>
  intro i aK s m hk hi dH hn C1 J';have jA:i<n₀:=by lia
  have hh':(A.over (hx (lN elt [⟨aq x px,iter,[],0⟩] scope pos) 0 (R I) aA cenv) []).handled=ah:=hh;change Oq A _ _ _ _ _ (k+1) aK _ ((va (lN elt [⟨aq x px,iter,[],0⟩] scope pos) 0 (R I) aA cenv).onRaise (kV cenv)) [] s;rw[compTurn_gen,FF];show iC Z<|C.standAt<|iC Z<|cS<|(bo _ hh').item i s _ _ jA dH λv U ϶ hPv xj DK=>iC Z<|C.eq (rfl:jE (aq x px) (R I) v=pure ())<|iC Z (cS (jD (sM E (hn.at' λo e=>DK _ o (λh=>WT ((bo A hh).sub _ h)) e) (λku Ϸ xl=>?_) hp)));have ϸ:=λb o hbC hbw e=>xl.extBut b o hbC (DK b o hbw e);have aeM:∀b o,s.heap.get? b=O o->∃o',ku.get? b=O o':=λb o e=>by
   show if q:b=cenv.locals then q▸ff Ϸ λo' _ _ e' _=>⟨o',e'⟩ else ?_
   show if q2:b∈wr then dF (hwe _ _ xj b q2) λo' e'=>⟨o',xl.extBut b o' q e'⟩ else⟨o,ϸ b o q q2 e⟩
  have Ϲ:=λb D hbw o e=>ϸ b o (λh=>WT (h▸D)) hbw (J' b D hbw o e);show iC Z (C.pure ?_);simp only[if_true,(λv=>by simp only[yieldOut,DA,U7,if_false]:∀v,yieldOut cenv v=yieldValue v)];rw[Mj,Mj,tK,tK];show HA Z<|(hq _ i v _ _ hh' hPv Ϸ (if_pos Z) Ϲ).mono λy fy GB=>og λgG kG=>FZ GB λhFy GB alT dX PU=>kG ?_;clear kG gG;subst dX;show afQ Z (Y9 Z (C1.step (λb o hbC hbw e=>PU b o (ϸ b o hbC hbw e)) (λb o e=>dF (aeM b o e) λo' e'=>⟨o',PU b o' e'⟩)) ?_ λnG CS=>?_)
  .change F (n₀ - 1 - k) y aK _;rw[(by lia:n₀ - 1 - k=i)];show hFb i y aK _ _ (λb o e=>dF (C1.2 b o e) λo2 q2=>aeM b o2 q2) hFy
  show C0 Z (ih (i+1) nG nG _ au jA ((bo A hh).frame _ _ _ ((bo A hh).frame _ _ _ xj λb D o e=>xl.extBut b o (λh=>WT (h▸D)) e) λb D o e=>CS b (bV _ D) o (PU b o e))
   ((Ϸ.keeps PU).at' λo e=>CS _ (eO ..) o e) (GD.refl _ _ _) λb D hbw o e=>CS b (bV _ D) o (PU b o (Ϲ b D hbw o e)))
theorem Zc{x:aV}{P:Nat->aa->Prop}{F:zw}(hFb:F.Back)(hh:dh A)(bo:∀A':bR,dh A'->mU prog w A' I fp wr (n₀+1) P Jl)(hwe:∀i h,Jl i h->∀b∈wr,∃o,h.get? b=O o)(Ea:aQ)(E:cenv.kindOf x=O cU)(hp:(cenv.scope.kind==U6 ||(cenv.scope.kind==qv && cenv.locals != cenv.globals))=ab)(DA:cenv.scope.isCoroutine=ab)(WT:cenv.locals∉fp)(hq:acV cenv x elt fp wr P F Ea)(aK s:ae)(m:aV->Option aa)(dH:Jl 0 s.heap)(hn:s.heap.Ns cenv.locals m)(C1:GD cenv.locals wr aK s)(J':∀b∈fp,b∉wr->∀o,Ea.get? b=O o->s.heap.get? b=O o):
 Oq A (GD cenv.locals wr) (Fup (n₀+1) F) (cenv.locals::fp) (GR cenv.locals wr) (GY cenv.locals fp wr) (n₀+1) aK
  (oT (lN elt [⟨aq x px,iter,[],0⟩] scope pos) 0 (R I) aA cenv)
  ((aD prog w).den (oT (lN elt [⟨aq x px,iter,[],0⟩] scope pos) 0 (R I) aA cenv)) [] s:=by
 have hh':(A.over (oT (lN elt [⟨aq x px,iter,[],0⟩] scope pos) 0 (R I) aA cenv) []).handled=ah:=hh;have loop:=ϵ (iter:=iter) (px:=px) (scope:=scope) (pos:=pos) hFb hh bo hwe Ea E hp DA WT hq (n₀+1) 0 aK s m (Nat.sub_zero _) (fj _) dH hn C1 J';change Oq A _ _ _ _ _ (n₀+1) aK _ ((compStart (lN elt [⟨aq x px,iter,[],0⟩] scope pos) 0 (R I) aA cenv).onRaise (kV cenv)) [] s;rw[FF];show iC Z (cS (T7 ?_));split
 .show C0 Z loop
 .show iC Z<|C.rule<|iC Z (C.standAt (iC Z (cS ((bo _ hh').self 0 s _ _ dH (C0 Z loop)))))
structure lF(A:bR)(a:af)(g:Nat)(aS:af)(fp wr:List af)(n₀:Nat)(F:zw)(j:Nat)(s:ae):Prop where
 gen:s.heap.IsGen a g
 lim:s.heap.NoLimit
 there:∀b∈aS::fp,∃o,s.heap.get? b=O o
 go:∃gs,s.gens[g]? =O gs/\∀nG:ae,(∀b∈aS::fp,∀o,s.heap.get? b=O o->nG.heap.get? b=O o)->
  JL A.in1 (GD aS wr) (Fup n₀ F) (aS::fp) (GR aS wr) (GY aS fp wr) (n₀ - j) gs nG
theorem lF.frame{F:zw}(x:lF A a g aS fp wr n₀ F j s)(xm:cG∈fp)(hk:∀b∈a::aS::fp,∀o,s.heap.get? b=O o->h'.get? b=O o):lF A a g aS fp wr n₀ F j {s with heap:=h',toks:=tk} where
 gen:=ff x.gen λo nm qn ho r=>Bj o nm qn (hk a (eO ..) o ho) r
 lim:=bf x.lim λmc wK M'=>cn mc (wK.at' λo e=>hk cG (bV _ (bV _ xm)) o e) M'
 there:=λb D=>dF (x.there b D) λo e=>⟨o,hk b (bV _ D) o e⟩
 go:=bf x.go λgs Q2 PT=>cn gs Q2 (λnG CS=>PT nG λb D o e=>CS b D o (hk b (bV _ D) o e))
def l9(g:Nat)(a b:Array eV):Prop:=(∀(i:Nat) (x:eV),i≠g->a[i]? =O x->b[i]? =O x)/\((∀x∈a,x.bare=N)->∀x∈b,x.bare=N)
theorem l9.refl(g:Nat)(a:Array eV):l9 g a a:=⟨λ_ _ _ e=>e,λh=>h⟩
theorem l9.trans{a b c:Array eV}(y:l9 g b c)(x:l9 g a b):l9 g a c:=⟨λi z hi e=>y.1 i z hi (x.1 i z hi e),λh=>y.2 (x.2 h)⟩
theorem l9.ofQ{a b:Array eV}(x:GenOnlyQ g a b):l9 g a b:=⟨λi z hi e=>by
 rcases x with rfl|⟨⟨_,h⟩,_⟩
 .show e
 .show (h i hi).symm▸e,λh=>x.bare h⟩
theorem l9.sv{a c:Array eV}{x:eV}(E:x.bare=N)(y:l9 a.size (a.push x) c):nY a c:=⟨λi z e=>by
 have hi:=(Vk.mp e).1;show y.1 i z (fB hi) ?_;rw[LY,if_neg (fB hi)];show e,λh=>y.2 λz hz=>by
 rcases Array.mem_push.mp hz with q|q
 .show h z q
 .show q▸E⟩
theorem l9.new{a b c:Array eV}(x:nY a b)(y:l9 g b c)(hg:a.size<=g):nY a c:=⟨λi z e=>y.1 i z (fB (fi (Vk.mp e).1 hg)) (x.1 i z e),λh=>y.2 (x.2 h)⟩
structure Tg(g:Nat)(X:List af)(s Y:ae):Prop where
 keep:∀b o,b∉X->s.heap.get? b=O o->Y.heap.get? b=O o
 os:Y.os=s.os
 drawn:Y.drawn=s.drawn
 gens:l9 g s.gens Y.gens
theorem Tg.refl(g:Nat)(X:List af)(s:ae):Tg g X s s:=⟨λ_ _ _ e=>e,rfl,rfl,.refl _ _⟩
theorem Tg.trans{gi:List af}{a b c:ae}(x:Tg g X a b)(y:Tg g gi b c)(h:∀d∈gi,d∈X\/a.heap.get? d=ah):Tg g X a c where
 keep:=λd o hd e=>y.keep d o (λq=>by
  rcases h d q with h|h
  .show hd h
  .have e:=h.symm.trans e;ext) (x.keep d o hd e)
 os:=y.os.trans x.os
 drawn:=y.drawn.trans x.drawn
 gens:=y.gens.trans x.gens
theorem Tg.heap(k:∀b o,b∉X->s.heap.get? b=O o->h'.get? b=O o):Tg g X s {s with heap:=h',toks:=tk}:=⟨k,rfl,rfl,.refl _ _⟩
theorem Ϻ(m:Moved X (GenOnlyQ g) s Y):Tg g X s Y:=⟨m.heap,m.os,m.drawn,.ofQ m.gens⟩
theorem lF.spc{F:zw}{Q:Option aa->ae->Prop}(x:lF A a g aS fp wr n₀ F j s)(bK:A.depth<mS)(hj:j<n₀)(DL:a≠aS)(Ot:a∉wr)(Ou:cG≠aS)(Ov:cG∉wr)(hF:F.DJ)(hQ:∀v Y,F j v s Y->lF A a g aS fp wr n₀ F (j+1) Y->Tg g (aS::wr) s Y->(∀b o,s.heap.get? b=O o->∃o',Y.heap.get? b=O o')->Q (O v) Y):C A (xQ (R a) "__next__") s Q:=by
 obtain⟨hg,hl,hth,gs,Q2,PT⟩:=x;obtain⟨m,hm⟩:∃m,n₀ - j=m+1:=⟨n₀ - j - 1,nj0 hj⟩;show ah2 hl bK hg Q2 ((hm▸PT) _ λ_ _ _ e=>e) λv ax Xx D hd hf hk=>(og λgG kG=>?_);show fc hd λi1 ϻ=>eT i1 λU ϶ dX DK=>kG ?_;clear kG gG;subst dX;have hf:F (n₀ - 1 - m) v _ _:=hf;rw[(nj1 hm)]at hf;show hQ v _ (hF j v s (s.setGen g m9) {heap:=U,gens:=(s.setGen g m9).gens,drawn:=(s.setGen g m9).drawn,toks:=϶,os:=(s.setGen g m9).os} _ Z Z hf) ⟨ff hg λo nm qn ho r=>(Bj o nm qn (DK a o DL Ot ho) r),(bf hl λmc wK M'=>cn mc (wK.at' λo e=>DK cG o Ou Ov e) M'),λb D=>dF (hth b D) λo e=>ϻ b o e,Xx,xS (xS Q2),λnG CS=>?_⟩
  ⟨λb o D e=>DK b o (λh=>D (h▸cR ..)) (λh=>D (bV _ h)) e,rfl,rfl,.ofQ (WB ((FI s g m9).trans (FI _ g Xx)) (xS (xS Q2)) D)⟩ ϻ
 rw[(nj2 hm)];show hk nG CS
theorem lF.next{F:zw}{Q:Option aa->ae->Prop}(x:lF A a g aS fp wr n₀ F j s)(bK:A.depth<mS)(hj:j<n₀)(DL:a≠aS)(Ot:a∉wr)(Ou:cG≠aS)(Ov:cG∉wr)(hF:F.DJ)(hQ:∀v Y,F j v s Y->lF A a g aS fp wr n₀ F (j+1) Y->Tg g (aS::wr) s Y->(∀b o,s.heap.get? b=O o->∃o',Y.heap.get? b=O o')->Q (O v) Y):C A (gY (R a)) s Q:=
 C.bind (C.attempt (x.spc bK hj DL Ot Ou Ov hF λv Y a b c d=>C.pure (hQ v Y a b c d)))
theorem lF.done{F:zw}{Q:Option aa->ae->Prop}(x:lF A a g aS fp wr n₀ F n₀ s)(hh:dh A)(bK:A.depth<mS)(hQ:∀Y,Tg g (aS::wr) s Y->Q ah Y):aE (aD prog w) A (gY (R a)) Q a0 s:=by obtain⟨hg,hl,hth,gs,Q2,PT⟩:=x;rw[LG]at PT;show wpAny_with_toks (ey s.toks)<|wpAny_pyNext_genexpQ hh hl bK hg Q2 (R7 (PT _ λ_ _ _ e=>e)) (λv ax Xx D hv=>hJ hv λi1 _ _=>bf i1 λ_ _ f=>f.elim)<|λax hp h' hk=>FZ hp λ_ U ϶ dX DK=>?_;subst dX;show λhtk=>hQ _ (Ϻ ⟨λb o D e=>hk b o (DK b o (λh=>D (h▸cR ..)) (λh=>D (bV _ h)) e),WB ((FI s g m9).trans (FI _ g GenState.finished)) (xS (xS Q2)) Z,rfl,rfl,htk⟩)
theorem GFo.heap(o:bE):zw.DJ (GFo o):=by show λ_ _ aK s Y nG e1 e2 q=>gC q λr h1 h2 h3=>kJ r h1 (e1▸h2) (e2▸h3)
def PV(o:bE)(sB:ae)(X:List af)(rs:List af)(s:ae):Prop:=
 (∀r∈rs,s.heap.get? r=O o/\r∉X/\sB.heap.get? r=ah)/\
 rs.Nodup
theorem Ja{S:af}{res:aa}(hh:dh A)(bK:A.depth<mS)(DL:a≠aS)(Ot:a∉wr)(vW:∀b∈wr,b∈fp)(xm:cG∈fp)(Ou:cG≠aS)(Ov:cG∉wr)(hn:n₀<=1000)(O':S∉a::aS::fp)(hXf:∀b∈X,b∈a::aS::fp)(nN:∀b∈S::aS::wr,b∈X\/sB.heap.get? b=ah):
 ∀(k j:Nat) (s:ae) (c:Nat) (jQ:Array aa) (rs:List af),n₀ - j=k->j<=n₀->lF A.in1 a g aS fp wr n₀ (GFo o) j s->s.heap.get? S=O {cls:=ao "list",dict:=ah,data:=bQ jQ c,slots:=#[]}->jQ=(rs.map R).toArray->rs.length=j->
  PV o sB (S::a::aS::fp) rs s->Tg g X sB s->
  (∀Y c' rs',Tg g X sB Y->rs'.length=n₀->PV o sB (S::a::aS::fp) rs' Y->Y.heap.get? S=O {cls:=ao "list",dict:=ah,data:=bQ (rs'.map R).toArray c',slots:=#[]}->aN (bW (cB res)) Y)->
  CC A (fE "list.extend.loop" ⟨[R S,R a,res],[]⟩) s aN:=by
 have ah3:S∉aS::wr:=hb (λh=>O' bw) (λh=>O' (by simp[vW _ h]));have rm:A.in1.depth<mS:=bK;intro k;induction k with
 |zero=>
  intro j s c jQ rs hk hj hg hS oy hl hr ht hR;have Gz:j=n₀:=by lia
  subst Gz;show jP VN Z<|C.bind<|cS<|hg.done hh rm λY m=>C.pure (hR Y c rs (ht.trans m λd hd=>nN d (bY _ hd)) hl ⟨λr ϴ=>?_,hr.2⟩ (oy▸m.keep S _ ah3 hS));show hJ (hr.1 r ϴ) λq1 q2 q3=>((gI (m.keep r o (λh=>q2 ?_) q1) q2 q3));rcases bq.mp h with e|e
  .ext
  .simp [vW _ e]
 |succ k ih=>
  intro j s c jQ rs hk hj hg hS oy hl hr ht hR;have jA:j<n₀:=by lia
  show jP VN Z<|C.bind<|hg.next rm jA DL Ot Ou Ov (GFo.heap o) λv Y qQ hg' m hth=>gC qQ λr ev hr0 hr1=>ev▸?_;have hS':=m.keep S _ ah3 hS;have hrX:r∉S::a::aS::fp:=λh=>by
   rcases bq.mp h with e|h
   .have hr0:=hS▸e▸hr0;ext
   .rcases bq.mp h with e|h
    .show ff hg.gen λo' _ _ e' _=>?_;have hr0:=e'▸e▸hr0;ext
    .show dF (hg.there r h) λo' e'=>?_;have hr0:=e'▸hr0;ext
  show C.bind (cS (uX hS' Z (C.pure ⟨lL Fu _,ih (j+1) _ _ (jQ.push (R r)) (rs++[r]) au jA (hg'.frame (tk:=Y.toks) xm λb D o e=>?_) (ie _ hS' Z) (by rw[oy];simp) (by simp[hl]) ⟨λr' hr'=>?_,?_⟩ ?_ hR⟩)
   (by have:eN=16777216:=jX;subst oy;simp;lia) (by have:eN=16777216:=jX;subst oy;simp;lia)))
  .show (mr _ _ (λh:S=b=>O' (h▸D))).trans e
  .rcases bZ.mp hr' with h|h
   .show hJ (hr.1 r' h) λq1 q2 q3=>((gI ((mr _ _ (λe:S=r'=>q2 (by simp[e]))).trans (m.keep r' o (λh=>q2 ?_) q1)) q2 q3));rcases bq.mp h with e|e
    .ext
    .simp [vW _ e]
   .simp at h;subst h;show gI ((mr _ _ (λe=>hrX (by simp[e]))).trans hr1) hrX ?_;cases q:sB.heap.get? r' with|none=>rfl|some o'=>have hr0:=(ht.keep r' o' (λh=>hrX (bY _ (hXf _ h))) q).symm.trans hr0;ext
  .show ql.mpr ⟨hr.2,by simp,λx E y hy e=>?_⟩;simp at hy;subst hy e;have hr0:=((hr.1 _ E).1).symm.trans hr0;ext
  .show (ht.trans m λd hd=>nN d (bY _ hd)).trans (Tg.heap (X:=[S]) (s:=Y) (tk:=Y.toks) λb o D e=>(mr _ _ (λe:S=b=>D (bJ.mpr (id (lh e))))).trans e) λd hd=>?_;simp at hd;show nN d bw
theorem HB{Q:List aa->ae->Prop}(hh:dh A)(bK:A.depth<mS)(DL:a≠aS)(Ot:a∉wr)(vW:∀b∈wr,b∈fp)(xm:cG∈fp)(Ou:cG≠aS)(Ov:cG∉wr)(hn:n₀<=1000)(hXf:∀b∈X,b∈a::aS::fp)(nN:∀b∈aS::wr,b∈X\/sB.heap.get? b=ah)(ht:Tg g X sB s)(hg:lF A.in1 a g aS fp wr n₀ (GFo o) 0 s)(hq:∀Y rs,Tg g X sB Y->rs.length=n₀->PV o sB (a::aS::fp) rs Y->Q (rs.map R) Y):C A (collect (R a)) s Q:=by
 have O':s.heap.objs.size∉a::aS::fp:=λhm=>by have:∃o,s.heap.get? s.heap.objs.size=O o:=ba (bq.mp hm) (λe=>ff hg.gen λo' _ _ e' _=>⟨o',by rw[e];show e'⟩) λhm=>hg.there _ hm;show dF this λo' e=>(absurd (cj e) (gv _))
 have hSI:s.heap.objs.size≠a:=λe=>O' bw;have hSB:sB.heap.get? s.heap.objs.size=ah:=by
  cases q:sB.heap.get? s.heap.objs.size with
  |none=>rfl
  |some o'=>show absurd (cj (ht.keep _ _ (λh=>O' (hXf _ h)) q)) (gv _)
 show C.bind<|C.runValue<|jP Mc Z<|C.bind<|cS<|ip<|C.pure ⟨lL Me _,jP Fw Z ?_⟩;have Xy:=hg.frame (h':=s.heap.push {cls:=ao "list",data:=bQ ([]:List aa).toArray}) (tk:=s.toks) xm λb _ o e=>aZ _ e;show(?_:C A.in1 (VE (R s.heap.objs.size) (R a) (R s.heap.objs.size)) _ _);show C.bind (cS (rj Xy.gen.typeIs ?_));have h1:yx (R s.heap.objs.size) (R a)=ab:=by simp[yx,hSI]
 show ee (by rw[h1];decide)<|C.bind<|cS<|Ei Xy.gen<|C.bind<|C.holding<|C.bind<|cS<|jF Xy.gen.typeIs PySem.F.gen_no_len<|C.bind<|cS<|jF Xy.gen.typeIs PySem.F.gen_no_hint<|C.pure<|(?_:C A.in1 (rule "list.extend.makes-room" >>=λ_=>VG (R s.heap.objs.size)>>=λ_=>
  again (fE "list.extend.loop" ⟨[R s.heap.objs.size,R a,R s.heap.objs.size],[]⟩)) _ _)
 show C.bind<|C.rule<|have PX:(s.heap.push {cls:=ao "list",data:=bQ ([]:List aa).toArray}).get? s.heap.objs.size=O {cls:=ao "list",data:=bQ ([]:List aa).toArray}:=bI _ Z;C.bind<|cS<|aj<|uX PX Z<|have Hp:=ie (dO (·.push aA)) PX Z;uX Hp Z ?_;have Zd:∀b o,b≠s.heap.objs.size->(s.heap.push {cls:=ao "list",data:=bQ ([]:List aa).toArray}).get? b=O o->
  (((s.heap.push {cls:=ao "list",data:=bQ ([]:List aa).toArray}).update s.heap.objs.size (dO (·.push aA))).update s.heap.objs.size (dO (·.pop))).get? b=O o:=
  λb o D e=>(mr _ _ (eS D)).trans ((mr _ _ (eS D)).trans e)
 show C.pure ⟨lL Fu _,Ja (sB:=sB) (rs:=[]) hh bK DL Ot vW xm Ou Ov hn O' hXf (λb D=>?_) n₀ 0 _ _ _ Z (fj _)
  ((hg.frame (tk:=s.toks) xm λb D o e=>Zd b o (λh=>O' (h▸D)) (aZ _ e))) (ie (dO (·.pop)) Hp Z) Z Z ⟨λr hr=>(kM hr),by simp⟩ ?_ λY c' rs m hl hr hS'=>?_⟩
 .rcases bq.mp D with e|e
  .rw [e];show aw hSB
  .show nN b e
 .show ht.trans (Tg.heap (X:=[]) (s:=s) (tk:=s.toks) λb o _ e=>Zd b o (fB (cj e)) (aZ _ e)) zi
 show C.bind (cS (jY hS' (C.pure ?_)));have:=hq Y rs m hl ⟨λr ϴ=>hJ (hr.1 r ϴ) λx y z=>(gI x (λh=>y (bY _ h)) z),hr.2⟩;lia
theorem C2(hh:dh A)(bK:A.depth<mS)(DL:a≠aS)(Ot:a∉wr)(vW:∀b∈wr,b∈fp)(xm:cG∈fp)(Ou:cG≠aS)(Ov:cG∉wr)(hn:n₀<=1000)(hXf:∀b∈X,b∈a::aS::fp)(nN:∀b∈aS::wr,b∈X\/sB.heap.get? b=ah)(ht:Tg g X sB s)(hg:lF A.in1.in1 a g aS fp wr n₀ (GFo o) 0 s)(hq:∀Y rs,Tg g X sB Y->rs.length=n₀->PV o sB (a::aS::fp) rs Y->Q (R Y.heap.objs.size) {Y with heap:=Y.heap.push {cls:=ao "tuple",data:=bQ (rs.map R).toArray}}):
 C A (call (bB "tuple.__new__") [ao "tuple",R a]) s Q:=by
 show C.call<|w0 VQ VR Z<|C.eq (PySem.F.newCall_tuple_1 _)<|have alU:=sub_tuple_self;C.bind<|C.eq (rfl)<|ee aL<|C.bind<|C.pure<|C.bind<|C.eq madeHere_tuple<|C.bind<|C.eq init_tuple_lookup<| ?_;show ?_;show C.bind (m:=abQ (R a)) (T.wX (v₀:=ab) (aK:=s) ?_ ?_)
 .show aj (rj hg.gen.typeIs (aC ⟨rfl,rfl⟩))
 show ee aL<|C.bind<|HB hh bK DL Ot vW xm Ou Ov hn hXf nN ht hg λY rs m hl hr=>C.bind<|C.pure<|lD (ip ?_ (by change(rs.map R).toArray.size<=eN;have e1:=jX;simp;lia));show C.pure (hq Y rs m hl hr)
theorem Nv(hh:dh A)(bK:A.depth<mS)(DL:a≠aS)(Ot:a∉wr)(vW:∀b∈wr,b∈fp)(xm:cG∈fp)(Ou:cG≠aS)(Ov:cG∉wr)(hn:n₀<=1000)(hXf:∀b∈X,b∈a::aS::fp)(nN:∀b∈aS::wr,b∈X\/sB.heap.get? b=ah)(ht:Tg g X sB s)(hg:lF A.in1.in1.in1 a g aS fp wr n₀ (GFo o) 0 s)(hq:∀Y rs,Tg g X sB Y->rs.length=n₀->PV o sB (a::aS::fp) rs Y->Q (R Y.heap.objs.size) {Y with heap:=Y.heap.push {cls:=ao "tuple",data:=bQ (rs.map R).toArray}}):
 C A (call (ao "tuple") [R a]) s Q:=by
 show BZ Mf (PySem.F.typeCall_tuple_1 _) PySem.F.entry_object_init (λ_=>rfl)
  <|C2 hh bK DL Ot vW xm Ou Ov hn hXf nN ht hg λY rs m hl hr=>have hT:(Shared.TypeIs {Y with heap:=Y.heap.push {cls:=ao "tuple",data:=bQ (rs.map R).toArray}} (R Y.heap.objs.size) "tuple"):=cn _ (bI _ Z) Z;gI hT (PySem.F.args_object_init_2 _ _)<|have:=(object_init_meets (rest:=[R a]) Mf.init.lookup Mf.made (rfl) prog w A.in1) (λr aP=>r=bW (cB aA)/\aP={Y with heap:=Y.heap.push {cls:=ao "tuple",data:=bQ (rs.map R).toArray}}) _ (gI hT Z Z);T.wx (P:=Pr A.in1 (λr aP=>r=bW (cB aA)/\aP={Y with heap:=Y.heap.push {cls:=ao "tuple",data:=bQ (rs.map R).toArray}})) (ir this (λy8 s2 h2=>?_) λe s2 h2=>by cases h2.1) λy8 s2 h2=>?_
 .cases y8 with
  |done f=>show h2
  |again c=>show⟨h2.1,RH h2.2⟩
 .cases y8 with
  |done f=>show fc h2 λe1 e2=>e2▸⟨e1,hq Y rs m hl hr⟩
  |again c=>show⟨h2.1,h2.2.mono λr s3 qQ=>fc qQ λe1 e2=>⟨e1,by rw[e2];show hq Y rs m hl hr⟩⟩
protected theorem ER.gen{K:LN}{ks:List Int}(c:ed L scope fs K)(r:ER H U L J h G)(x:gU H h h')(jB:∀y∈fs,cl.lookup (NM y)=J.cells.lookup (NM y))(n:h'.Ns aS m)(hC:aS∉bX)(hl:K.length=ks.length)(hm:∀(j:Nat) x k,K[j]? =O x->ks[j]? =O k->∃t,m (NM x)=O (ag k t)):ER H U scope (genEnv scope cl aS code fY J) h' (putAll (lC G fs) K ks) where
 base:=r.base.trans x
 kind:=c.kind
 gl:=λ_ hy=>hy
 WH:=λ_ hy=>hy
 glob:=r.glob
 bi:=rfl
 loc:=hC
 has:=r.ahp c x jB (λy h=>aw (c.frees y h).1) n c.locs hl hm
theorem PY{c P:af}(hc:c∉bX)(oz:U.IsCode c P #[])(vP:U.TableAt c P #[])(hP:P∈bX)(pn:P∉H)(b0:gU H U h):h.IsCode c P #[]/\h.TableAt c P #[]:=by show⟨FG oz (λ_=>b0.keep c _ hc) λ_=>b0.quiet P _ hP pn,?_⟩;obtain⟨⟨o,vs,t1,t2,t3,t4⟩,t5⟩:=vP;show⟨(MC o vs (b0.keep c _ hc t1) t2 t3 t4),b0.quiet P _ hP pn t5⟩
theorem Xz{P:af}{more:Array aa}(hP:P∈bX)(kz:P∈τ')(h1:h.get? P=O (tabObj #[]))(h2:h'.get? P=O (tabObj more))(E:KR P h h'):gU τ' h h':=by
 show⟨λb o hb' e=>E b o (λq=>hb' (q▸hP)) e,λb hb' ps e=>?_,λb o e=>if Ν:b=P then Ν▸⟨_,h2⟩ else⟨o,E b o Ν e⟩,λb o hb' hq' e=>E b o (λq=>hq' (q▸kz)) e⟩;show if Ν:b=P then ?_ else⟨#[],by simpa using E b _ Ν e⟩
 subst Ν;have hps:ps=#[]:=by
  injection (aW (e▸h1)) with _ _ h3 _
  injection h3
 subst hps;show⟨more,by simpa using h2⟩
def B6(X:Prop)(elt ct iter:aG)(scope:dw)(pos:cJ)(J:cI)(P:af)(cl:List (aV×af))(code:aa)(aS a:af)(it:aa)(aP ib:ae):Prop:=
 X/\
 ib.os=aP.os/\
 ib.drawn=aP.drawn/\
 (∀b o,b≠P->aP.heap.get? b=O o->ib.heap.get? b=O o)/\
 ib.heap.IsGen a aP.gens.size/\
 ib.gens=aP.gens.push (LQ (oT (lN elt [⟨ct,iter,[],0⟩] scope pos) 0 it aA (genEnv scope cl aS code fY J)))/\
 ib.heap.Ns aS (λy=>if y= ".0" then O it else ah)/\
 aP.heap.get? aS=ah/\
 aP.heap.get? a=ah/\
 a≠aS/\
 aS∉bX/\
 a∉bX
theorem XC{h3 h4:aQ}{o2:bE}(hn:∀b o,h.get? b=O o->b<h3.objs.size)(top:Q5<=h3.objs.size)(hs4:gu h3.objs.size (h3.push o2) h4):
 h.get? h3.objs.size=ah/\h.get? h4.objs.size=ah/\h4.objs.size≠h3.objs.size/\h3.objs.size∉bX/\h4.objs.size∉bX:=by
 have key:∀b,h3.objs.size<=b->h.get? b=ah:=λb D=>by
  cases q:h.get? b with
  |none=>rfl
  |some o=>show absurd (fi (hn b o q) D) (gv _)
 rw[(hs4.1.trans (dD ..):h4.objs.size=h3.objs.size+1)];show⟨key _ (ey _),key _ (lQ _),yn _,fm top,fm (qq top)⟩
theorem JM{K:LN}{P:af}(B:cx U mg mb)(c:ed L scope fs K)(hG:pW G fs=N)(h0:scope.names.lookup (".0" :aV)=O cU)(DA:scope.isCoroutine=ab)(bK:A.depth<1000)(pj:J.code=R cC)(Pb:cC∉bX)(oz:U.IsCode cC P #[])(vP:U.TableAt cC P #[])(hP:P∈bX)(pn:P∉H)(kz:P∈τ')(nO:∀b∈H,b∈τ')(r:ER H U L J s.heap G)(uu:T A (a7 iter J) s (λx ax=>T A (gn x) ax (λit aP=>dG H s aP/\It it aP)))(hs:∀x,genFold iter J x=pure x)(hq:∀it aP cl code aS a ib,dG H s aP->It it aP->(∀y∈fs,cl.lookup (NM y)=J.cells.lookup (NM y))->B6 (gU τ' aP.heap ib.heap) elt ct iter scope pos J P cl code aS a it aP ib->Q (R a) ib):
 T A (a7 (lN elt [⟨ct,iter,[],0⟩] scope pos) J) s Q:=by
 show bf (c.OL r hG) λcl jB wN=>(TC DA jB c.cell h0 c.kind (by assumption) (uu.wp λxv ax h1=>h1.Cx λit aP e2 hI=>⟨B.zl (r.base.trans e2.ext),?_⟩) hs);have b2:=r.base.trans e2.ext;show fc (PY Pb oz vP hP pn b2) λakH aeN=>have top2:=jz B.top b2;wpAny_genexprCodeX pj akH aeN Z λc' h3 tk E hge jA _ Rx YM _=>have x3:=Xz hP kz aeN.2 YM.2 E;have b3:=(b2.up nO).trans x3;vD B.bmod λbm ob hbm Ru hbT Rv Rw GI BA=>(Eh (by rw[r.glob];show B.mg b3) hbm Ru (b3.keep bm _ hbT Rv) Rw GI BA ?_);intro h4 hn4 hs4;have x4:=λb o e=>hs4.extBut b o (fB (cj e)) (aZ _ e);have ah4:=bj hge (gw jA);show hq it aP cl _ h3.objs.size h4.objs.size _ e2 hI wN ⟨x3.trans (.of_keep λb o e=>aZ _ (x4 b o e)),rfl,rfl,λb o D e=>aZ _ (x4 b o (E b o D e)),
  (DW _ _ _ (bI _ Z) Z Z Z),rfl,hn4.push _,XC (λb o e=>fi (cj e) ah4) (bj top2 ah4) hs4⟩
def XD(n:Nat)(P:Nat->aa->Prop)(s:ae)(it:aa)(aP:ae):Prop:=
 ∃I St,it=R I/\(∀A':bR,dh A'->mU prog w A' I [I] [I] n P St)/\St 0 aP.heap/\s.heap.get? I=ah/\(∀i h,St i h->kP h I)
section
theorem DM{a b c:Int}{t v:a8}(e:dG H s ax)(hr:qi ax.heap rr a b c t u v)(hs:vp a b c=N)(hn:lR a b c=(n:Int)):T A (gn (R rr)) ax (λit aP=>dG H s aP/\XD n (Gy (Dw a c n)) s it aP):=by show An hr hs ⟨e.trans ⟨.push _ _,rfl,rfl,eF _⟩,?_⟩;show hn.symm▸⟨ax.heap.objs.size,_,rfl,λA' R8=>vN (Mw R8 _ a c n) Z (λi v hi qQ=>dF qQ λt hv=>kK _ t (o8.mpr ⟨hi,rfl⟩) hv),?_,e.ext.new (bz _),λi h st=>(cn _ st (ak ⟨_,rfl,λx t e=>by simp[da]at e⟩))⟩;rw[(by simp:(a+((0:Nat):Int) * c)=a),(by simp:((n:Int) - ((0:Nat):Int))=n)];show bI _ Z
theorem Ze(B:cx U mg mb)(I:dQ mg mb)(kQ:Gi L "range")(he:V H U A L J G e (aT k) ab)(dH:cH e=ab)(hk:k<=100000)(r:ER H U L J s.heap G):
 T A (a7 (bx (aq (aB "range") np) [e] [] pos) J) s (λx ax=>T A (gn x) ax (λit aP=>dG H s aP/\XD k (Gy (Dw 0 1 k)) s it aP)):=by
 show mE ("range") ("range") B I aL kQ (rfl) (fJ.cons he fJ.nil dH) (by simp[dW,dH]) r λvs ax F e1 V1=>?_;apply nM V1;show λt=>sO (DM (e1.trans ⟨.push _ _,rfl,rfl,eF _⟩) (vB ..) (u9 au au au au) ?_);rw[uZ];split<;>lia
noncomputable def JN(h:aQ)(aS a:af):List af:=(aJ h.objs.size).filter λb=>(h.get? b).isSome && b != aS && b != a
theorem qd:b∈JN h aS a↔(∃o,h.get? b=O o)/\b≠aS/\b≠a:=by
 delta JN
 rw[gq,dm];constructor
 .rintro ⟨_,h⟩;simp at h;show gI (yq.mp h.1.1) h.1.2 h.2
 .show λow=>og λgG kG=>hJ ow λi1 h2 h3=>dF i1 λo e=>kG ?_;clear kG gG;show⟨cj e,by simp[e,h2,h3]⟩
variable{P:af}
theorem B6.later(g:B6 (gU τ' aP.heap ib.heap) elt ct iter scope pos J P cl code aS a it aP ib)(x:gU τ' s.heap aP.heap)(hI:s.heap.get? I=ah)(hk:∀b∈JN ib.heap aS a,b∉[I]->∀o,ib.heap.get? b=O o->h'.get? b=O o):gU τ' s.heap h':=by
 show dU g λg1 _ _ _ _ _ _ a_=>jc a_ λg8 g9 _ _ _=>?_;have x5:=x.trans g1;have key:=λb o o' e e5=>by
  show dF (x.there b o e) λo2 e2=>(hk b (qd.mpr ⟨⟨_,e5⟩,λq=>?_,λq=>?_⟩) (λq=>?_) o' e5)
  .have e2:=g8▸q▸e2;ext
  .have e2:=g9▸q▸e2;ext
  .simp at q;have e:=hI▸q▸e;ext
 show⟨λb o D e=>key b o _ e (x5.keep b o D e),λb D ps e=>dF (x5.tab b D ps e) λmore e5=>⟨more,key b _ _ e e5⟩,λb o e=>dF (x5.there b o e) λo' e5=>⟨o',key b o o' e e5⟩,λb o D ht e=>key b o _ e (x5.quiet b o D ht e)⟩
theorem lF.made{Pv:Nat->aa->Prop}{F:zw}(hFb:F.Back){X:Prop}(g:B6 X elt (aq (NM x) px) iter scope pos J P cl code aS a (R I) aP ib)(hh:dh A)(hW:∀A':bR,dh A'->mU prog w A' I [I] [I] (n+1) Pv St)(dH:St 0 aP.heap)(XE:∀i h,St i h->∃o,h.get? I=O o)(hIP:I≠P)(hl:ib.heap.NoLimit)(hk:scope.kind=dZ)(E:scope.names.lookup (NM x)=O cU)(DA:scope.isCoroutine=ab)(hIf:I∈fp)(WT:aS∉fp)(hfe:∀b∈fp,∃o,ib.heap.get? b=O o)(hel:acV (genEnv scope cl aS code fY J) (NM x) elt fp [I] Pv F ib.heap):
 lF A a aP.gens.size aS fp [I] (n+1) F 0 ib:=by
 show dU g λ_ _ _ g4 g5 g6 g7 afR=>jc afR λ_ _ _ _ _=>?_;have CE:=λA' h'=>(hW A' h').mono_fp λb D=>by apply jR D;show hIf
 show⟨g5,hl,λb D=>ba (bq.mp D) (λe=>e▸ff g7 λo' _ _ e' _=>⟨o',e'⟩) λe=>hfe b e,LQ _,by rw[g6];show Array.getElem?_push_size ..,λnG CS=>?_⟩;show Zc (A:=A.in1) (cenv:=genEnv scope cl aS code fY J) hFb hh CE (λi h st b D=>by show bJ.mp D▸?_;show XE i h st) ib.heap E (by simp[genEnv,hk]) DA WT hel nG nG _
  ((hW A hh).frame _ _ _ ((hW A hh).frame _ _ _ dH λb D o e=>g4 b o (bJ.mp D▸hIP) e) λb D o e=>by cases bJ.mp D;show CS _ (bV _ hIf) o e) (g7.at' λo e=>CS _ (eO ..) o e) (GD.refl _ _ _) λb D _ o e=>CS b (bV _ D) o e
end
def ot:cg:=dP 23
noncomputable def C3:LN:=b8 13 2
def vY:List (LN):=b8 13 C3
section
variable{Q:cb->ae->Prop}
theorem PS.up(p:PS H U L J aK bo bu G S s)(nO:∀b∈H,b∈τ'):PS τ' U L J aK bo bu G S s:=⟨gC p.fr λW r a b=>(kJ W (r.up nO) a b),p.sg,p.mod,p.lE⟩
def gm(U:aQ):Prop:=∀b∈bX,∃o,U.get? b=O o
structure Aa(H:List af)(s Y:ae):Prop where
 ext:gU H s.heap Y.heap
 os:Y.os=s.os
 drawn:Y.drawn=s.drawn
 gens:nY s.gens Y.gens
theorem dG.pe(x:dG H s Y):Aa H s Y:=⟨x.ext,x.os,x.drawn,.of x.gens⟩
theorem Aa.trans{a b c:ae}(x:Aa H a b)(y:Aa H b c):Aa H a c:=⟨x.ext.trans y.ext,y.os.trans x.os,y.drawn.trans x.drawn,y.gens.trans x.gens⟩
theorem Aa.akI(W:List af)(x:Aa H s Y):sL W s Y:=⟨x.ext.mod W,x.os,x.drawn,x.gens⟩
theorem PS.XF(p:PS H U L J aK bo bu G S s)(x:Aa H s Y):PS H U L J aK bo bu G S Y:=gC p.fr λW r hW hd=>⟨(kJ W (r.grow x.ext) hW hd),p.sg.ext x.ext,p.mod.trans (x.akI []) (λd hd=>kM hd),p.lE⟩
theorem PS.grown(p:PS H U L J aK bo bu G S s)(hT:gm U)(x:Aa H s Y)(h:∀y∈br,s.heap.get? y.1=ah/\Y.heap.get? y.1=O y.2/\Ht y.2=N):PS H U L J aK bo bu G (br++S) Y:=by
 have p':=p.XF x;show gC p.fr λW r q1 q2=>?_;have nN:∀y∈br,y.1∉W:=λy hy q=>by show oX (r.jh _ q) λ_ _ o' e _=>?_;have e:=((h y hy).1).symm.trans e;ext
 have vP:∀y∈br,y.1∉bX:=λy hy q=>by show dF (hT _ q) λo e=>(dF (p.ext.there _ o e) λo' e'=>?_);have e':=((h y hy).1).symm.trans e';ext
 show⟨⟨W,r.grow x.ext,q1,λy hy=>by
  rcases bZ.mp hy with e|e
  .show nN y e
  .show q2 y e⟩,λy hy=>by
  rcases bZ.mp hy with e|e
  .show ⟨(h y e).2.1,vP y e,(h y e).2.2,p.ext.new (h y e).1⟩
  .show p'.sg y e,p'.mod,λy hy=>by
  rcases bZ.mp hy with e|e
  .show aw (p.mod.mod.new (h y e).1)
  .show p'.lE y e⟩
theorem afS(B:cx U mg mb)(I:dQ mg mb)(r:ER H U scope Y' aP.heap Gx)(kQ:Gi scope "bytearray")(E:ck Gx x=O (k,aX ns))(D:l8 ns):
 C A (a7 (bx (aq (aB "bytearray") np) [aq (NM x) p2] [] pos) Y') aP (λy dp=>GF (kF ns) y aP dp/\Keeps aP dp):=by
 have hI:=I ("bytearray",ao "bytearray") aL;show fV<|Lake.T.wX (eG B r kQ hI.1 hI.2 (rfl))<|dg (rfl)<|eu<|cu<|Lake.T.wcV (wb r E) λv F aO=>c8 (iI ⟨rfl,?_⟩);apply fQ aO;intro l vs n F' _ hl V' _;show uJ ("list") n hl (ak Z) (intsAre_of V' (dS ns)) D.1 D.2 ⟨(kJ _ Z (bz _) (bI _ Z)),_,_,rfl,λb o e=>aZ _ e⟩
theorem b_:∀rs:List af,bA h (rs.map λr=>aH (R r)) (rs.map R) []:=by
 intro xX;induction xX with
 |nil=>show .nil
 |cons r rs iH=>show ej [] [] (.ik _) (iH)
theorem HC:∀rs:List af,iT (rs.map λr=>aH (R r))=N:=by
 intro xX;induction xX with
 |nil=>show rfl
 |cons _ rs iH=>show iH
def ah5:cg->dw
 |ez _ e _=>uC (afd e)
 |_=>bc ot
theorem ah6(hh:dh A)(B:cx U mg mb)(I:dQ mg mb)(hT:gm U)(bK:A.depth<1000)(p:PS H U (bc ot) J aK bo bu G S s)(h31:ck G 31=O (k1,aX C3))(h61:ck G 61=O (k2,aT 13))(dH:bT G 9=N)(pj:J.code=R cC)(Pb:cC∉bX)(oz:U.IsCode cC 1934 #[])(vP:U.TableAt cC 1934 #[])(pn:1934∉H)(kz:1934∈τ')(nO:∀b∈H,b∈τ')(kk:∀Y rs,rs.length=13->rs.Nodup->(∀y∈S,y.1∉rs)->PS τ' U (bc ot) J aK bo bu (jk G 9 0 (uw rs)) (uL rs vY++S) Y->C A (aU rest J) Y Q):
 C A (aU (a9 (bg ot) 4::rest) J) s Q:=by
 have hP:1934∈bX:=by decide
 show yO (x:=9) (τ':=τ') (U:=U) (aK:=aK) (bo:=bo) (bu:=bu) (L:=bc ot) dH (ak Z) Z<|have hI:=I ("tuple",ao "tuple") aL;have R9:ed (bc ot) (ah5 (a9 (bg ot) 4)) [31] [14]:=ed.of (rfl);have r0:ER H U (bc ot) J s.heap G:=bf p.fr λW r _=>r.er;fV<|Lake.T.wX (eG B r0 Z hI.1 hI.2 (rfl))<|dg (rfl)<|eu (cu (Lake.T.wc (JM (τ':=τ') (fs:=[31]) (K:=[14]) (P:=1934) B R9 (by rw[pW];rw[h31];rfl) (rfl) Z bK pj Pb oz vP hP pn kz nO r0
  (Ze (k:=13) B I (by rfl) (ar 61 h61) Z bD r0) (λ_=>rfl) λit aP cl code aS a ib e2 hIt jB g=>dU g λg1 g2 g3 g4 _ g6 _ a_=>jc a_ λg8 g9 g10 g11 _=>c8 (iI ⟨rfl,?_⟩))))
 show l0 hIt λIa St dX hW Nw hIn XE=>?_;have XE:∀i h,St i h->∃o,h.get? Ia=O o:=λi h st=>bf (XE i h st) λo e _=>⟨o,e⟩;have x2:gU τ' s.heap aP.heap:=e2.ext.up nO;have hIP:Ia≠1934:=λq=>by show dF (hT 1934 hP) λo e=>dF (r0.base.there _ o e) λo' e'=>?_;have e':=hIn▸q.symm▸e';ext
 have c_:ib.heap.NoLimit:=B.zl ((r0.base.up nO).trans (x2.trans g1));show bf c_ λmc nsS _=>?_;subst dX;have xm:cG∈JN ib.heap aS a:=bf (B.zl (r0.base.trans e2.ext)) λmc2 PZ _=>ff PZ λo2 _ _ e2' _=>ff nsS λo5 _ _ e5' _=>(qd.mpr ⟨⟨o5,e5'⟩,λq=>(by rw[q,g8]at e2';ext),λq=>(by rw[q,g9]at e2';ext)⟩);have HD:∃o,aP.heap.get? Ia=O o:=XE _ _ Nw;have hIa:Ia≠a:=λq=>by obtain⟨o,e⟩:=HD;have e:=g9▸q▸e;ext
 have hIf:Ia∈JN ib.heap aS a:=qd.mpr (gI (dF HD λo e=>⟨o,g4 Ia o hIP e⟩) (λq=>by obtain⟨o,e⟩:=HD;rw[q,g8]at e;ext) hIa);have hcI:cG≠Ia:=λq=>by show bf (B.zl r0.base) λmc2 PZ _=>(ff PZ λo2 _ _ e2' _=>?_);have e2':=hIn▸q▸e2';ext
 show Nv (A:=A) (aS:=aS) (fp:=JN ib.heap aS a) (wr:=[Ia]) (n₀:=13) (o:=kF C3) (sB:=ib) (X:=[aS,Ia]) hh (by assumption) g10 (λq=>hIa (bJ.mp q).symm) (λb D=>by simp at D;show D▸?_;show hIf) xm (λq=>(qd.mp xm).2.1 q) (λq=>hcI (bJ.mp q)) bD
  (λb D=>by simp at D;rcases D with rfl|rfl<;>lia) (λb D=>ak D) (.refl _ _ _) (lF.made (x:=14) (n:=12) (GFo.back _) g hh hW Nw XE hIP c_ Z Z Z hIf (λh=>(qd.mp h).2.1 Z) (λb D=>(qd.mp D).1) ?_) ?_
 .intro A' i v s3 m3 R8 hv hn hm hk;show eT hv λk t hk1 qI=>?_;subst qI;have r3:=(r0.up nO).gen (code:=code) (cl:=cl) (aS:=aS) (m:=m3) (ks:=[k]) R9 (g.later x2 hIn hk) jB hn g11 Z (λj x k' h1 h2=>by
   cases j with
   |zero=>simp at h1 h2;subst h1 h2;show DV t hm
   |succ j=>ext)
  show afS (ns:=C3) (x:=31) (k:=k1) B I r3 (rfl) ?_ ⟨by decide,Oj Z⟩;unfold lC;rw[h31];rfl
 .intro s6 rs m6 hl6 hr6;have e06:Aa τ' s s6:=by
   have xg:gU τ' s.heap s6.heap:=g.later x2 hIn λb D hb2 o e=>m6.keep b o (λq=>by
    rcases bq.mp q with q|q
    .show (qd.mp D).2.1 q
    .show hb2 q) e
   show⟨xg,m6.os.trans (g2.trans e2.os),m6.drawn.trans (g3.trans e2.drawn),(l9.sv Z (g6▸m6.gens)).trans (.of e2.gens)⟩
  have nN:∀r∈rs,s.heap.get? r=ah:=λr hr=>by
   cases q:s.heap.get? r with
   |none=>rfl
   |some o=>show dF ((x2.trans g1).there r o q) λo2 q2=>?_;have q2:=((hr6.1 r hr).2.2).symm.trans q2;ext
  have e07:Aa τ' s {s6 with heap:=s6.heap.push {cls:=ao "tuple",data:=bQ (rs.map R).toArray}}:=e06.trans ⟨.push _ _,rfl,rfl,.refl _⟩;have pf:=(p.up nO).grown hT e07 (br:=uL rs vY) λy hy=>by
   show dF (sX hy) λi hi=>?_;unfold uL at hi;rw[KU]at hi;show fc hi λh1 h2=>?_;have hr:=cY h1;have ho:y.2=kF C3:=by have:=cY h2;simp[vY]at this;show this
   show ho.symm▸gI (nN _ hr) (aZ _ (hr6.1 _ hr).1) Z
  show DW _ (uw rs) [] pf ?_ (HC rs) (λY p'=>kk Y rs hl6 hr6.2 (λy hy q=>?_) p')
  .show DW s6.heap.objs.size (rs.map R) 0 Z (fm (jz B.top ((r0.base.up nO).trans e06.ext))) (bI _ Z) (b_ rs)
  .have:=nN _ q;have this:=((p.sg y hy).1)▸this;ext
end
section
variable{Q:cb->ae->Prop}
theorem FR.ah7(r:FR H U U L J h G W)(x:gU τ' U h')(keep:∀b o,b∉wr->b∉bX->h.get? b=O o->h'.get? b=O o)(hw:∀b∈wr,kP h b/\b∉bX/\b∉W):FR τ' U U L J h' G W:=
 r.ab4 (.refl _) x (λb hb' o e=>keep b o (λq=>(hw b q).2.2 hb') (r.jh b hb').2.1 e) (λc v ht x=>Bf (λo q=>⟨keep c o (λz=>(hw c z).1.WR x) ht q.1,q.2⟩) x)
  λy k av v F _ aO=>aO.off (λb o hb' ht e=>keep b o hb' ht e) (λb hb'=>aw (hw b hb').1) _ _ _ λb hb' hq=>(hw b hq).1.WK aO hb'
noncomputable def gh(o:bE):Bool:=match o.data with
 |ja ..=>N
 |tF=>N
 |eg ..=>N
 |bF ws=>match ws[1]? with
  |some (cO _ _)=>ab
  |_=>N
 |_=>ab
theorem r7(e:h.get? a=O o)(hi:gh o=N):kP h a:=by
 show cn o e ?_;unfold gh at hi;cases q:o.data with
 |bytearray b n=>show aw (aw (ak (qG b n Z)))
 |plain=>show aw (aw (aw Z))
 |dict es n=>show aw (ak (qG es n Z))
 |fields ws=>have hi:=q▸hi;show ak (cn ws Z (λx t e=>?_));simp only[e]at hi;ext
 |_=>have hi:=q▸hi;show II (by assumption)
theorem PS.called(p:PS H U L J aK bo bu G S s)(q:PS τ' U sc' fX s [] (S.map (·.1)) G' S' Y)(hi:∀y∈S,gh y.2=N):PS τ' U L J aK bo bu G S' Y:=by
 show gC p.fr λW r hW dj=>?_;have m:sL (S.map (·.1)) s Y:=by have:=q.mod;show this
 have r':=r.ah7 q.ext (λb o D ht e=>m.mod.keep b o D ht e) (λb D=>by show bf (bH.mp D) λy hy e=>?_;subst e;show iL (p.sg y hy) λc1 c2 c3 c4=>((gI (r7 c1 (hi y hy)) c2 (dj y hy))))
 show⟨(kJ W r' hW (λy hy hw=>?_)),q.sg,p.mod.trans m λd hd=>?_,λy hy=>ba (q.lE y hy) (λh=>bf (bH.mp h) λz hz e=>e▸p.lE z hz) λh=>aw (p.mod.mod.new h)⟩
 .rcases q.lE y hy with h|h
  .show bf (bH.mp h) λz hz e=>(dj z hz (e▸hw))
  .show dF ((λb hb'=>oX (r.jh b hb') λ_ _ o e _=>⟨o,e⟩:∀b∈W,∃o,s.heap.get? b=O o) _ hw) λo e=>?_;have e:=h.symm.trans e;ext
 .show bf (bH.mp hd) λz hz e=>?_;subst e;show ba (p.lE z hz) (λh=>ak (ew _ h)) λh=>aw h
end
section
variable{Q:cb->ae->Prop}
theorem PS.afT(p:PS H U L J aK bo bu G S s)(he:V H s.heap A L J G e av ab)(hf:flat av=N)(k:∀Y v,PS H U L J aK bo bu G S Y->bM Y.heap av v []->Q (cB v) Y):C A (aU (yr (O e) pos::rest) J) s Q:=by show ij<|Lake.T.wx (P:=λf Y=>∃v F,f=cB v/\dG H s Y/\bM Y.heap av v F) (xI ((he s p.er).tR λv ax F e1 aO _=>Oz v F Z e1 aO)) λf Y ow=>jy ow λv F e1 e2 aO=>e1▸?_;have hF:=cW.1 _ _ _ hf aO;subst hF;show k Y v (p.grow e2) aO
theorem acW{a b:aG}{x y:Bool}(ha:V H U A L J G a (eY x) ab)(D:x=N->V H U A L J G b (eY y) ab):
 V H U A L J G (KQ WD [a,b] pos) (eY (x && y)) fr:=λs r=>by
 show aj ((ha s r).tR λv ax F1 e1 V1 _=>aj (jW ?_));have ev:=V1.toBool;subst ev;show aj (cQ (mf ?_));cases x with
 |false=>show aC (o6 [] e1 (.ofBool _) d9)
 |true=>show(D Z ax (r.ext e1.ext)).tR λu aP F2 e2 V2 _=>?_;have ev:=V2.toBool;subst ev;show⟨e1.trans e2,[],.ofBool _,d9⟩
theorem P0{a b:aG}(B:Tp U)(ha:V H U A L J G a (aX [n]) ab)(D:V H U A L J G b (aT k) ab)(hk:k<=1000):
 V H U A L J G (fh a vA b pos) (aX (b8 k n)) fr:=by
 have WM:ai k=(k:Int):=rfl;have:=Rh (fr:=fr) (pos:=pos) (x:=aT n) (n:=ai k) B ha D Z (decide_eq_true (by rw[WM];simp)) (decide_eq_true (Ms WM Z hk));show V.to this ?_
 delta aX
 rw[show(ai k).toNat=k from rfl,KZ]
theorem zx(K:LN){Q:aa->ae->Prop}(B:cx U mg mb)(x1:gU H U s.heap)(bK:A.depth<1000)(dB:rb U a fd st)(DA:(bc st).isCoroutine=ab)(za:(bc st).isGenerator=ab)(hk:(bc st).kind=dZ)(so:T A.in1 (dy fd ⟨vs,[]⟩) s (λbs Y=>Y=s/\bs=(K.map NM).zip us))(aO:bA s.heap avs us F)(tV:K.Nodup)(dM:K.length=us.length)(E:∀x∈K,Hx (bc st) x)(cA:zY U S s.heap)(hw:∀aP br,PS H U (bc st) (gO fd br a) s [] (S.map (·.1)) (qL K avs) S aP->
 C (A.deeper (gO fd br a)) (aU (bg st) (gO fd br a)) aP (λf Y=>Q (Xm f) Y)):C A (call (R a) vs) s Q:=by
 have N':=dB.ext x1;show bf N'.at_.obj λo ho hd=>(C.call (Xn (S:=S) B x1 bK ho hd (N'.at_.ach (H:=H) (.refl _)) dB.body dB.clo (by rw[dB.scope];show DA) (by rw[dB.scope];show za) so aO (by rw[dB.scope];show hk) dB.glob dB.bi tV dM (by rw[dB.scope];show E) cA λaP br p=>?_));rw[dB.scope]at p;show(hw aP br p).mono λf Y h=>h
theorem sy(avs:List AV){Q:aa->ae->Prop}(B:cx U mg mb)(p:PS H U L J aK bo bu G S s)(hg:mg nm=O (R a))(kQ:L.names.lookup nm=O kZ)(hdb:(nm==("__debug__" :aV))=ab)(dB:rb U a fd st)(he:fJ H s.heap A L J G (e::es) avs)(dH:dW (e::es)=N)(h:∀vs ax F,dG H s ax->bA ax.heap avs vs F->C A (call (R a) vs) ax Q):C A (a7 (bx (aq nm np) (e::es) [] pos) J) s Q:=fV<|Lake.T.wX (sh (p.base B) p.er kQ hg hdb)<|bf ((dB.ext p.ext).at_.obj) λo ho hd=>(pF o fd (acG p.er he dH λvs ax F x1 aO=>⟨⟨x1.ext.keep a o dB.at_.off ho,hd⟩,h vs ax F x1 aO⟩))
def Qa(b9:List (LN)):Nat->List (LN)
 | 0=>b9
 |n+1=>Y5 (Y5 (Qa b9 n) n 8 0) 8 n 0
theorem HE(h:Mx b9):∀n,n<=9->Mx (Qa b9 n):=by
 intro xX;induction xX with
 |zero=>intro _;show h
 |succ n iH=>intro hn;show((iH (qr hn)).set au 8 aL).set bD n aL
theorem Ab:Mx vY:=⟨rfl,by decide⟩
def Qb:List (LN):=PJ (Qa vY 9) 5
theorem d_:Mx Qb:=PK (HE Ab 9 bD) 5 bD
def akJ(rs:List af):iB:=[(9,0,uw rs),(62,0,eY N),(68,0,eY N),(60,0,aT 13),(108,0,eY N),(109,0,aH (R (rs.getD 8 0)))]
theorem ah8(hp:fd.params=fu (dP 19))(hd:fd.defaults=aA)(v u:aa):dy fd ⟨[v,u],[]⟩=pure (([9,68].map NM).zip [v,u]):=by
 delta dy
 show hp.symm▸hd.symm▸?_;rfl
theorem yS:∀y∈uL rs b9,gh y.2=N:=λy hy=>by have:=(sZ (show(y.1,y.2)∈_ from hy)).2;show bf (bH.mp this) λr _ e=>e▸?_;rfl
theorem acX(hh:dh A)(B:cx U mg mb)(I:dQ mg mb)(hT:gm U)(bK:A.depth<1000)(hS:∀y∈S,gh y.2=N)(hgT:mg (aB "add_timing_pattern")=O (R 1914))(NT:rb U 1914 Z8 (dP 19))(Zf:Z8.defaults=aA)(p:PS H U (bc ot) J aK bo bu (qL [60,61,107,108] [aT 13,aT 13,eY N,eY N]) S s)(pj:J.code=R cC)(Pb:cC∉bX)(oz:U.IsCode cC 1934 #[])(vP:U.TableAt cC 1934 #[])(pn:1934∉H)(kz:1934∈τ')(nO:∀b∈H,b∈τ')(kk:∀Y G' rs v,rs.length=13->rs.Nodup->(∀y∈S,y.1∉rs)->PS τ' U (bc ot) J aK bo bu G' (uL rs Qb++S) Y->bM Y.heap (uw rs) v []->Q (cB v) Y):
 C A (aU (bg ot) J) s Q:=by
 change C _ (aU [a9 (bg ot) 0,a9 (bg ot) 1,a9 (bg ot) 2,a9 (bg ot) 3,a9 (bg ot) 4,a9 (bg ot) 5,a9 (bg ot) 6,a9 (bg ot) 7] J) s Q;show p.s1 (S1.m (z0 Z)) λs1 p1=>p1.s1 (S1.m (bC 62 (eY N) (V.to (Gl .eq (ai 13) (ai 13) (ar 60 Z) (ar 61 Z)) Z) Z Z (ak Z) Z)) λs2 p2=>p2.s1 (S1.m (bC 68 (eY N) (V.to (acW (x:=N) (y:=N) (ar 62 Z) (λ_=>V.to (Gl .lt (ai 13) 21 (ar 60 Z) V.int) Z)) Z) Z Z (ak Z) Z)) λs3 p3=>p3.s1 (S1.m (gc 31 (aX C3) (P0 (n:=2) (k:=13) B.top (pB (n:=2) B.top (aR 2) Z) (ar 60 Z) bD) Z Z (aw Z) Z)) λs4 p4=>ah6 (k1:=1) (k2:=0) hh B I hT bK p4 Z Z Z pj Pb oz vP pn kz nO λs5 rs hl tV hd p5=>have hr:∀i,i<13->rs[i]? =O (rs.getD i 0):=λi hi=>kD au;p5.ite (x:=N) (mF 107 Z) λs6 p6=>p6.ite (x:=ab) (vK (x:=N) (y:=ab) (mF 62 Z) (λ_=>pO.to (mB (x:=ai 13) (y:=41) .gt (ar 60 Z) V.int) Z)) λs7 p7=>fg<|p7.s1 (S1.m (bC 109 (aH (R (rs.getD 8 0))) (yQ 8 (ar 9 Z) (aR 8) (hr 8 bD) au Z) Z Z (ak Z) Z)) λs8 p8=>yN 14 (Dw 0 1 9) (λi (_:Unit)=>akJ rs) (λi _=>uL rs (Qa vY i)++S) () p8 (zO (k:=9) hh (p8.base B) I Z V.int Z aL aL)
  (kr.rf bG bG) (λy hy=>hy) (ak Z) (λ_ _ _=>rfl) (λi n z t W hn q=>?_) (λ_=>rfl) (λs9 _ p9=>fg ?_)
 .show fc (o8.mp hn) λhi hn=>?_;have wu:(n:Int)=ai i:=by rw[hn];simp
  subst wu;have hmi:=HE Ab i au;show hJ (hmi.get (i:=i) au) λm1 m2 m3=>hJ ((hmi.set (i:=i) au 8 (v:=0) aL).get (i:=8) bD) λn1 n2 n3=>xf (rs.getD i 0) 8 0 q (aR 0) (yQ i (ar 9 Z) (ar 14 Z) (hr _ au) au Z) (aR 8)
   (de _ (pG (hr _ au) m1)) m3 au aL Z (yP tV (hr _ au) _ hd) λt1 q1=>xf (rs.getD 8 0) i 0 q1 (aR 0) (ar 109 Z) (ar 14 Z)
   (de _ (pG (hr _ bD) n1)) n3 au aL Z (yP tV (hr _ bD) _ hd) λt2 q2=>q2.ite (x:=ab) (FP N (mF 68 Z)) λt3 q3=>fg (fg ⟨rfl,(),q3.less (kr.rf bG bG)⟩)
 show p9.ite (x:=N) (mF 108 Z) λs10 p10=>bf p10.here λW hW ph=>zZ (by show bf p10.fr λW r _=>?_;delta iJ;rw[r.scope];rfl) Z ?_;show sy _ B p10 hgT Z Z NT (fJ.cons (ar 9 Z) (fJ.cons (ar 68 Z) fJ.nil Z) Z) Z λvs s11 F x11 aO=>have p11:=p10.grow x11;kO aO λv1 vs1 F1 F2 dX V1 V2 _=>?_;subst dX;show kO V2 λv2 vs2 F3 F4 qI V3 V4 _=>?_;subst qI;show fc V4 λDY _=>?_;subst DY;show zx (S:=uL rs (Qa vY 9)++S) [9,68] B p11.ext bK NT Z Z Z (by rw[ah8 NT.params Zf];show aC ⟨rfl,rfl⟩) aO aL Z aL p11.sg λs12 br p12=>PM (A:=A.deeper _) hh B I hl tV (HE Ab 9 bD) hd p12 λs13 G13 p13=>⟨rfl,fg ?_⟩;have pe:=p11.called p13 λy hy=>ba (bZ.mp hy) (λq=>yS y q) λq=>hS y q;show pe.afT (ar 9 Z) (HC rs) λs14 v p14 aO=>kk s14 _ rs v hl tV hd p14 aO
end
noncomputable def sC(t:af)(i:Nat):bE:={cls:=ao "tuple_iterator",data:=bF #[R t,ag i 0]}
section
variable{Q:cb->ae->Prop}
theorem Nx{afe:List aG}{t T:af}{Q:Unit->ae->Prop}(ho:s.heap.get? I=O (sC t i))(hQ:Q () s):
 aE (aD prog w) A (jE (fM afe x1 pos) (R I) (R T)) Q a0 s:=by
 show aj<|jY ho<|(?_:aE _ A (if(["enumerate", "zip", "dict_itemiterator", "dict_reverseitemiterator", "odict_iterator", "itertools.zip_longest", "itertools.pairwise"].contains "tuple_iterator" &&
  (#[R t,ag i 0]:Array aa)[0]? ==O (da T))=N then _ else _) Q a0 s)
 rw[if_neg (by intro h;show II (by assumption))]
 show aC hQ
theorem HF{t:af}{x:aa}{Q:Option aa->ae->Prop}(ho:s.heap.get? I=O (sC t i))(ht:s.heap.IsTuple t items)(E:items[i]? =O x)(hQ:∀h',h'.get? I=O (sC t (i+1))->gu I s.heap h'->Q (O x) {s with heap:=h'}):aE (aD prog w) A (gY (R I)) Q a0 s:=by
 show Q4 ht λol hol _ nl YT=>have uu:s.heap.IsTupleIter I t i:=kJ _ ho Z Z;aj (u5 (jT uu.typeIs VJ
  (jU VJ uu.typeIs PySem.F.entry_tuple_iterator_next ?_ (PySem.F.args_tuple_iterator_next_1 _))))
 show(?_:aE _ _ (sU (R I) 0>>=_) _ _ s);show aj<|gN ho Z (x:=R t) Z<|aj<|gN ho Z (x:=ag i 0) Z<|aj (jV hol YT ?_);simp only[KN,E];show aj (Ap ho Z (EZ [].length) (aC (cn x Z (aC (hQ _ ?_ (j8 ..))))));rw[ie _ ho Z];rfl
theorem PS.aeO(p:PS H U L J aK bo bu G S s)(ha:(a,o)∈S)(hi:gh o=N)(t:Tn [a] s Y)(ho:Y.heap.get? a=O o')(hs:Ht o'=N)(hS:∀x∈S',(x.1=a/\x.2=o')\/(x.1≠a/\x∈S)):PS H U L J aK bo bu G S' Y:=p.aeL ha (r7 · hi) t ho hs hS
theorem PS.acY(p:PS H U L J aK bo bu G S s)(ha:(a,o)∈S)(hi:gh o=N)(hn:aK.heap.get? a=ah)(keep:∀b o,b≠a->s.heap.get? b=O o->h'.get? b=O o)(hS:∀x∈S',x.1≠a/\x∈S):
 PS H U L J aK bo bu G S' {s with heap:=h',toks:=tk}:=by
 show bf p.fr λW r hW=>iL (p.sg _ ha) λe1 e2 e3 e4=>⟨(kJ W (r.off (wr:=[a]) (λb o D e=>keep b o (by simpa using D) e) (λb D=>by have D:=bJ.mp D;show D▸?_;show⟨r7 e1 hi,e2,e4,(hW.2 _ ha)⟩)) hW.1 (λx E=>hW.2 x (hS x E).2)),λx E=>?_,p.mod.off (wr:=[a]) (λb o D e=>keep b o (by simpa using D) e) (λb D=>by show bJ.mp D▸?_;show⟨hn,e2⟩),λx E=>p.lE x (hS x E).2⟩;show iL (p.sg x (hS x E).2) λc1 c2 c3 c4=>rT (keep _ _ (hS x E).1 c1) c2 c3 c4
theorem PS.acZ(q:PS τ' U sc' fX s W (S.map (·.1)) G' S' Y)(ht:ta∉bX)(e_:s.heap.get? ta=O (cV vs n))(hW:∀b∈W,Ct s.heap b)(hS:∀y∈S,s.heap.get? y.1=O y.2/\gh y.2=N):
 Y.heap.get? ta=O (cV vs n):=by
 show q.mod.mod.keep ta _ (λh=>?_) ht e_;rcases bZ.mp h with h|h
 .show bf (hW ta h) λo e hk=>?_;obtain rfl:=aW (e_.symm.trans e);rcases hk with⟨h1,_⟩|⟨_,_,h1⟩|⟨_,h1⟩
  .injection h1 with h3
   show nomatch h3
  .ext
  .ext
 .show bf (bH.mp h) λy hy e=>?_;obtain⟨c1,c2⟩:=hS y hy;rw[e,e_]at c1;have c2:=(aW c1).symm▸c2;ext
theorem Sa{Q:aa->Prop}(aO:bM h (fG [av]) v F)(hf:flat av=N)(k:∀ta v0 n,ta∉bX->h.get? ta=O (cV [v0] n)->bM h av v0 []->Q (R ta)):Q v:=
 pU aO λta vs n ht e_ aO=>nH (P:=λvs=>h.get? ta=O (cV vs n)->Q (R ta)) aO (λv0 F1 V1 e_=>k ta v0 n ht e_ (cW.1 _ _ _ hf V1▸V1)) e_
theorem Zg{av0:AV}{G2:ζ->iB}{S2:ζ->Sg}(hh:dh A)(B:cx U mg mb)(p:PS H U L J aK bo bu G S s)(he:V H s.heap A L J G iter (fG [av0]) ab)(hf:flat av0=N)(hs:Fs iter J)(hS:∀y∈S,gh y.2=N)(akK:∀ax I ta v S1 sA WA KA,ax.heap.get? I=O (sC ta 1)->PS H U L J sA WA KA G S1 ax->bM ax.heap av0 v []->T A (jE ct (R I) v) ax (λ_ aP=>aP=ax)/\T A (jG ct J v) ax (λ_ aP=>PS H U L J sA WA KA G1 S1 aP))(OQ:∀y ax sA WA KA,(∀z∈S,z.1≠y.1)->gh y.2=N->PS H U L J sA WA KA G1 (y::S) ax->C A (aU body J) ax (λfl aP=>fl=cL/\∃z,PS τ' U L J sA WA KA (G2 z) (y::S2 z) aP/\(∀x∈S2 z,x.1≠y.1)))(k:∀z Y,PS τ' U L J aK bo bu (G2 z) (S2 z) Y->C A (aU rest J) Y Q):
 C A (aU (j7 ct iter body [] pos::rest) J) s Q:=by
 show ij (RV hs (T.wcE (he s p.er) λv ax F e1 aO _=>?_));apply Sa aO hf;show λta v0 n ht e_ V1=>cS<|Ke (⟨_,e_,rfl,n,rfl⟩)<|have p1:=p.grow e1;gC p1.fr λWA r1 hWA hdj=>have p2:=(⟨(kJ WA r1 (λb D=>ak D) hdj),p1.sg,.refl _ _,λx E=>ak (bH.mpr (cn x E Z))⟩:PS H U L J ax WA (S.map (·.1)) G S ax).sv (o:=sC ta 0) (tk:=ax.toks) B Z Z;have hnS:=λz hz=>fB (cj (p1.sg z hz).1);have hTn:∀{sa:ae} {h':aQ},gu ax.heap.objs.size sa.heap h'->(∃o,h'.get? ax.heap.objs.size=O o)->Tn [ax.heap.objs.size] sa {sa with heap:=h'}:=λhs hm=>Tn.same hs au hm;Xk (λn Y=>(n=2/\Y={ax with heap:=ax.heap.push (sC ta 0),toks:=ax.toks})\/(n=1/\∃z,PS τ' U L J ax WA (S.map (·.1)) (G2 z) ((ax.heap.objs.size,sC ta 1)::S2 z) Y/\(∀x∈S2 z,x.1≠ax.heap.objs.size))) ?_ 2 (ak ⟨rfl,rfl⟩);rintro n' Y P1 P2 P3 q0 q1 q2 q3 (⟨rfl,rfl⟩|⟨rfl,z,pz,hz⟩)
 .show cS (HF (p2.get (eO ..)) (nV (aZ _ e_)) (x:=v0) Z λh' g1 g2=>?_);have p3:=p2.aeO (S':=(ax.heap.objs.size,sC ta 1)::S) (eO ..) Z (hTn g2 ⟨_,g1⟩) g1 Z λx E=>by
   rcases bq.mp E with e|e
   .left;rw[e];show⟨rfl,rfl⟩
   .show aw ⟨hnS x e,bY _ e⟩
  have hV3:=bM.off (λb o D _ e=>g2.extBut b o (vE D) e) (λb D=>by apply jR D;show aw (r7 (p2.get (eO ..)) Z)) av0 v0 [] (λb D=>kM D) (V1.ext (H:=H) (.push _ _))
  show fc (akK {ax with heap:=h',toks:=ax.toks} ax.heap.objs.size ta v0 ((ax.heap.objs.size,sC ta 1)::S) _ _ _ g1 p3 hV3) λa1 a2=>q1 _ _<|T.wx a1 λ_ s4 e4=>e4▸T.wx a2 λ_ s5 p5=>q2 _<|(OQ (ax.heap.objs.size,sC ta 1) s5 _ _ _ hnS Z p5).mono λfl s6 ow=>iM ow λhfl z pz hz=>hfl▸q3 1 _ bD (aw ⟨rfl,z,pz,hz⟩)
 .show cS<|J8 hh (kJ _ (pz.get (eO ..)) Z Z) (nV (pz.acZ ht e_ (λb D=>(r1.jh b D).2.2) (λy hy=>⟨(p1.sg y hy).1,hS y hy⟩))) Z λh' he=>q0 _<|fg<|k z _ (p1.back hWA (pz.acY (eO ..) Z (bz _) (λb o D e=>he b o D e) λx E=>⟨hz x E,bY _ E⟩))
end
section
variable{Q:cb->ae->Prop}
theorem Sb(a b n:Nat)(hab:a<=b)(D:b<=n):Mn (O (a:Int)) (O (b:Int)) 1 (n:Int)=((a:Int),(b:Int)):=by
 delta Mn
 congr 1<;>lia
theorem C4{a b:Nat}{u':a8}{Q:Int×Int×Nat->ae->Prop}(hs:s.heap.IsSliceOf sl (ag a u) (ag b u') aA)(hab:a<=b)(D:b<=n)(h:Q ((a:Int),1,b - a) s):
 aE (aD prog w) A (abK (R sl) (pure (n:Int))) Q a0 s:=by
 show gC hs λos Rq xm hds=>aj<|aj<|gN Rq hds (x:=ag a u) Z<|aj<|gN Rq hds (x:=ag b u') Z<|aj<|gN Rq hds (x:=aA) Z<|aC<|aj<|slicePart_none<|aj<|slicePart_int<|aj<|slicePart_int<|(?_:aE _ _ (match Mn (O (a:Int)) (O (b:Int)) 1 (n:Int) with|(lo,hi)=>pure (lo,(1:Int),We lo hi 1)) _ _ s);rw[Sb a b n hab D];change aE _ _ (pure ((a:Int),(1:Int),We (a:Int) (b:Int) 1)) _ _ s;show(places_from a b hab).symm▸aC h
theorem f_(K:Array aa)(a n:Nat):((aJ n).filterMap λ(k:Nat)=>K[((a:Int)+(k:Int) * 1).toNat]?).toArray=((K.toList.drop a).take n).toArray:=by
 have e:(λ(k:Nat)=>K[((a:Int)+(k:Int) * 1).toNat]?)=λk=>K[a+k]? :=by
  funext k
  show congrArg _ (congrArg KP (congrArg ((a:Int)+·) (Int.mul_one k)))
 show e.symm▸?_;have:=pick_run K a n;rw[List.filterMap_map]at this;rw[(rfl:((λx=>K[x]?)∘λx=>a+x)=λk=>K[a+k]?)]at this;show congrArg _ this
theorem B7{t:af}{a b:Nat}{u':a8}{Q:aa->ae->Prop}(ht:IsTup s.heap t items)(hs:s.heap.IsSliceOf sl (ag a u) (ag b u') aA)(hab:a<=b)(D:b<=items.size)(ah9:b - a<items.size)(hl:items.size<=1000)(h:Q (R s.heap.objs.size) {s with heap:=s.heap.push {cls:=ao "tuple",data:=bQ ((items.toList.drop a).take (b - a)).toArray}}):aE (aD prog w) A (Ax (R t) (R sl)) Q a0 s:=by
 have XG:sizeOk (bQ ((items.toList.drop a).take (b - a)).toArray):=by change((items.toList.drop a).take (b - a)).toArray.size<=eN;simp;lia
 show gC hs λos Rq xm hds=>cQ<|aj<|uU ht.typeIs (rfl)<|aj (jT ht.typeIs slot_tuple_getitem
  (jU slot_tuple_getitem ht.typeIs entry_tuple_getitem ?_ (args_tuple_getitem _ _)))
 show(?_:aE _ _ (abR (R t)>>=_) _ _ s);show aj<|tupleItemsOf_ ht<|aj<|rj ((cn os Rq xm))<|aj (C4 hs hab D ?_);have hno:¬(((a:Int)==0 && (1:Int)==1 && (b - a)==items.size)=N):=by rw[(by rw[beq_eq_false_iff_ne];show fB ah9:((b - a)==items.size)=ab)];simp
 show(?_:aE _ _ (if((a:Int)==0 && (1:Int)==1 && (b - a)==items.size)=N then _ else _) _ _ s);show(if_neg hno).symm▸(f_ items a (b - a)).symm▸?_;first
  |show aj (ip (aC (cn _ rfl (aC h))) XG)
  |show aj (ip (aC ⟨_,rfl,aC h⟩) XG)
  |show aj (aj (ip (aC (aC ⟨_,rfl,aC h⟩)) XG))
  |show aj (aj (ip (aC ⟨_,rfl,aC h⟩) XG))
theorem ac0{a:aG}{m:Nat}(B:Tp U)(ha:V H U A L J G a (fG K) ab)(hh:V H U A L J G lo (aT k) ab)(hj:V H U A L J G hi (aT m) ab)(hf:iT K=N)(Q0:k<=m)(hm:m<=K.length)(hp:m - k<K.length)(hl:K.length<=1000):V H U A L J G (dk a (mq (O lo) (O hi) eX p) pos) (fG ((K.drop k).take (m - k))) fr:=λs r=>by
 show rO<|(ha s r).tR λv ax F1 e1 V1 _=>Et<|(hh ax (r.ext e1.ext)).CA λt aP e2=>(hj aP ((r.ext e1.ext).ext e2.ext)).CA λt' dp e3=>aC ?_;have YC:=(e1.trans e2).trans e3;apply pU ((V1.ext e2.ext).ext e3.ext);intro c vs n _ a3 a4;have l1:=bA.length a4;show bf (bA.drop k a4) λRd V4 _=>bf (bA.take (m - k) V4) λF3' V5 _=>have htp:IsTup (dp.heap.push {cls:=ao "slice",data:=bF #[ag (ai k) t,ag (ai m) t',aA]}) c vs.toArray:=(show IsTup dp.heap c vs.toArray from⟨_,a3,rfl,n,rfl⟩).keeps λ_ _ e=>aZ _ e;tH htp.typeIs slot_tuple_getitem.lookup (B7 htp (kJ _ (bI _ Z) Z Z) Q0 (by simp;show le_of_le_of_eq hm (id (lh l1))) jx (by simp;show le_of_eq_of_le l1 hl) ?_) (rfl);show⟨YC.trans ⟨(gU.push _ _).trans (.push _ _),rfl,rfl,eF _⟩,[],?_,d9⟩;show DW _ ((vs.drop k).take (m - k)) 0 Z (fm (bj (jz B (r.base.trans YC.ext)) (by rw[dD];show lQ _))) ?_ ?_
 .have:=bI (dp.heap.push {cls:=ao "slice",data:=bF #[ag (ai k) t,ag (ai m) t',aA]}) (o:=cV ((vs.drop k).take (m - k)) 0) Z;show this
 .have hF:=cW.2 _ _ _ (zL (m - k) _ (zK k K hf)) V5;show hF▸V5.ext (H:=H) ((gU.push _ _).trans (.push _ _))
theorem zb{o i:aG}{Q:cb->ae->Prop}(h:C A (a7 value J) s (λv ax=>C A (a7 o J) ax (λov aP=>C A (a7 i J) aP (λiv dp=>C A (Ay ov iv v) dp (λ_ Y=>Q cL Y)))))(hs:fz value (O (dk o i Cu)) pos.line J=pure ab):C A (oJ (ez [dk o i Cu] value pos) J) s Q:=by rw[exec_Assign_Subscript o i Cu value pos hs];show nQ<|C.bind<|h.mono λv ax U=>C.bind<|lJ (U.mono λov aP ku=>lJ (ku.mono λiv dp uq=>nQ (lJ (uq.mono λ_ fy GB=>C.release (C.pure GB)))))
theorem Sd(ns ms:LN)(k m:Nat):(rZ ns).extract 0 k++rZ ms++(rZ ns).extract m (rZ ns).size=rZ (ns.take k++ms++ns.drop m):=by apply A7;simp[rZ];show KV fF
theorem g_{v:aG}{m:Nat}{f4:Bool}(p:PS H U L J aK bo bu G S s)(hv:V H s.heap A L J G v (fG (ms.map aT)) ab)(he:V H s.heap A L J G e (aH (R a)) ab)(IJ:V H s.heap A L J G lo (aT k) ab)(hhi:V H s.heap A L J G hi (aT m) f4)(ha:(a,kF ns)∈S)(hB:l8 ns)(hm:m<=ns.length)(Q0:k+ms.length=m)(hms:∀x∈ms,x<256)(hs:fz v (O (dk e (mq (O lo) (O hi) ah p1) p')) pos.line J=pure ab)(hS:∀y∈S',(y.1=a/\y.2=kF (ns.take k++ms++ns.drop m))\/(y.1≠a/\y∈S))(kk:∀Y,PS H U L J aK bo bu G S' Y->C A (aU rest J) Y Q):C A (aU (ez [dk e (mq (O lo) (O hi) ah p1) p'] v pos::rest) J) s Q:=by show ij (zb (T.wcE (hv s p.er) λvv ax F1 e1 V1 _=>Xg (he ax (p.er.ext e1.ext)) λaP e2=>?_) hs);show cS<|Et<|(IJ aP ((p.er.ext e1.ext).ext e2.ext)).CA λt dp e3=>(hhi dp (((p.er.ext e1.ext).ext e2.ext).ext e3.ext)).tR λu' fy F4 e4 V4 _=>aC ?_;obtain⟨t',rfl⟩:=V4.toInt;apply pU (((V1.ext e2.ext).ext e3.ext).ext e4.ext);intro l vs n _ a3 a4;have pl:dG H s {fy with heap:=fy.heap.push {cls:=ao "slice",data:=bF #[ag (ai k) t,ag (ai m) t',aA]}}:=(((e1.trans e2).trans e3).trans e4).trans ⟨.push _ _,rfl,rfl,eF _⟩;have p5:=p.grow pl;have ho:=p5.get ha;show C.holding<|lD<|uU (eU ho) (rfl)<|C.bind (vX (eU ho) ny (oq (eU ho) ny uI (wm _ _ _) Z (PI ho (bI _ Z) (aZ _ a3) (intsAre_of a4 (dS ms)) hms (by rw[gJ];show hm) Q0 (by rw[gJ];show hB.2) λs6 tn ho6=>?_)));rw[Sd]at ho6;show cn _ Z<|C.pure (kk s6 (p5.turn ha Z tn ho6 Z hS))
end
def Ac:cg:=dP 18
def fpV:AV:=fG (FPN.map λr=>fG (r.map aT))
noncomputable def Qc(n:Nat):LN:=((FPN.getD (1+n) []).drop 1).take 8
def mG(b9:List (LN)):Nat->List (LN)
 | 0=>b9
 |n+1=>(mG b9 n).set n (((mG b9 n).getD n []).take 0++Qc n++((mG b9 n).getD n []).drop 8)
theorem Qd:∀n,n<8->(Qc n).length=8/\∀x∈Qc n,x<256:=by decide
theorem afU:∀n,n<9->(FPN.getD n []).length=9/\FPN[n]? =O (FPN.getD n []):=by decide
theorem Qe(h:Mx b9):∀n,n<=8->Mx (mG b9 n):=by
 intro xX;induction xX with
 |zero=>show λ_=>h
 |succ n iH=>intro hn;have ih:=iH (qr hn);show hJ (ih.get (i:=n) au) λh1 h2 h3=>fc (Qd n au) λf1 f2=>ih.ahT (by rw[iu,iu,AN,h2,f1];rfl) λx E=>ba (bZ.mp E) (λq=>f2 x q) λq=>h3.1 x (ry q)
section
variable{Q:cb->ae->Prop}
theorem h_{x:aV}(B:cx U mg mb)(E:L.names.lookup x=O kZ)(hv:mg x=O v)(hd:(x==("__debug__" :aV))=ab)(aO:bM U av v []):V H U A L J G (aq x pos) av fr:=λs r=>
 T.Dt (sh B r E hv hd) (o6 [] (.refl _) (aO.ext r.base) d9)
def aia(rs:List af)(rr:af):iB:=[(9,0,uw rs),(14,0,aT 0),(15,0,aT 0),(65,0,aT 1),(66,0,aT 1),(64,0,aH (R rr))]
def gF0(rs:List af)(rr:af):iB:=[(9,0,uw rs),(63,0,fG [tZ (0,0)]),(64,0,aH (R rr))]
theorem i_{S0:Sg}{vf:aa}(hh:dh A)(B:cx U mg mb)(I:dQ mg mb)(hl:rs.length=13)(tV:rs.Nodup)(hm:Mx b9)(hd:∀y∈S0,y.1∉rs)(D':∀y∈S0,gh y.2=N)(hgf:mg (aB "_FINDER_PATTERN")=O vf)(hvf:bM U fpV vf [])(p:PS H U (bc Ac) J aK bo bu (qL [9,60,61] [uw rs,aT 13,aT 13]) (uL rs b9++S0) s)(k:∀Y G',PS H U (bc Ac) J aK bo bu G' (uL rs (mG b9 8)++S0) Y->Q cL Y):C A (aU (bg Ac) J) s Q:=by
 have hr:∀i,i<13->rs[i]? =O (rs.getD i 0):=λi hi=>kD au;change C _ (aU [a9 (bg Ac) 0,a9 (bg Ac) 1,a9 (bg Ac) 2,a9 (bg Ac) 3,a9 (bg Ac) 4,a9 (bg Ac) 5] J) s Q;show p.s1 (S1.m (z0 Z)) λs1 p1=>?_;show p1.s1 (S1.m (bC 62 (eY N) (V.to (Gl .eq (ai 13) (ai 13) (ar 60 Z) (ar 61 Z)) Z) Z Z (ak Z) Z)) λs2 p2=>?_;show p2.s1 (S1.m (bC 63 (fG [tZ (0,0),qV (0,5),qV (-8,0)]) ?_ Z Z (ak Z) Z)) λs3 p3=>?_
 .show uo B.top (fJ.cons (G4 B.top (aR 0) (aR 0) Z Z) (fJ.cons (av:=qV (0,5)) ?_ (fJ.cons (av:=qV (-8,0)) ?_ fJ.nil Z) Z) Z) Z Z
  .show uo B.top (fJ.cons V.int (fJ.cons (av:=a6 5) ?_ fJ.nil Z) Z) Z Z;show lr (x:=ai rs.length) (y:=8) .sub (V.to (Nu B I Z (ar 9 Z) Z jx) (by simp[aT])) V.int (by rw[hl];rfl)
  .show uo B.top (fJ.cons (MM V.int) (fJ.cons V.int fJ.nil Z) Z) Z Z
 show p3.ite (x:=N) (vK (x:=N) (y:=N) (mF 62 Z) (λ_=>pO.to (mB (x:=ai 13) (y:=21) .lt (ar 60 Z) V.int) Z)) λs4 p4=>?_;change C _ (aU [a9 (match a9 (bg Ac) 3 with|yt _ b _ _=>b |_=>[]) 0] J) s4 _;show p4.s1 (S1.m (bC 63 (fG [tZ (0,0)]) (uo B.top (fJ.cons (G4 B.top (aR 0) (aR 0) Z Z) fJ.nil Z) Z Z) Z Z (ak Z) Z)) λs5 p5=>fg ?_;show xi 64 8 p5 B I Z V.int Z Z (ak Z) Z λrr t0 t1 t2 s6 p6=>?_;have afO:rr∉rs:=λhq=>by show dF (sX hq) λi hi=>?_;have jA:=(dR.mp hi).1;have e1:=p6.get (bY _ (de S0 (pG hi (hm.get (i:=i) au).1)));rw[p6.get (cR ..)]at e1;show absurd (congrArg Fb (aW e1)) (by simp[mL,kF,pR])
 have p6':PS H U (bc Ac) J aK bo bu (gF0 rs rr) ((rr,mL 8 t0 t1 t2)::(uL rs b9++S0)) s6:=p6.less (by show kr.rf bG bG);show Zg (τ':=H) (ζ:=Unit) (av0:=tZ (0,0)) (G1:=putAll (gF0 rs rr) [14,15] [0,0]) (G2:=λ_=>aia rs rr) (S2:=λ_=>uL rs (mG b9 8)++S0) hh B p6' (ar 63 Z) Z (λ_=>rfl) (λy hy=>?_) (λs1 Ia ta v S1 sA WA KA g pa aO=>?_) (λy sb sA WA KA hny hiy pb=>?_) λ_ s7 p7=>fg (k s7 _ p7)
 .rcases bq.mp hy with e|e
  .rw [e];rfl
  .rcases bZ.mp e with e|e
   .show yS y e
   .show D' y e
 .obtain ⟨T,t,u,rfl,hT⟩:=bM.pair (p:=(0,0)) aO;show⟨Nx g Z,?_⟩;show bf pa.fr λWa ra hWa=>?_;show wO (x:=14) (y:=15) hh hT λh3 k3=>?_;show Stores.frame [14,15] [0,0] (gF0 rs rr) _ _ _ Z (ra.grow (.of_keep k3)) (λx E=>by simp at E;rcases E with rfl|rfl<;>show ak Z) (λx E=>by simp at E;rcases E with rfl|rfl<;>rfl)
   λY r' m'=>pa.step ra hWa (((show dG H s1 {s1 with heap:=h3} from⟨.of_keep k3,rfl,rfl,eF _⟩).smod Wa).trans m' λd hd=>ak hd) r' λd hd=>ak hd
 change C _ (aU [a9 (ub (a9 (bg Ac) 5)) 0,a9 (ub (a9 (bg Ac) 5)) 1,a9 (ub (a9 (bg Ac) 5)) 2] J) sb _;show pb.s1 (S1.m (bC 65 (aT 1) (wH N (pO.to (mB (x:=0) (y:=0) .eq (ar 14 Z) V.int) Z) (λ_=>aR 1) (λq=>by cases q)) Z Z (ak Z) Z)) λs8 p8=>?_;show p8.s1 (S1.m (bC 66 (aT 1) (wH ab (pO.to (mB (x:=0) (y:=0) .ne (ar 15 Z) V.int) Z) (λq=>by cases q) (λ_=>aR 1)) Z Z (ak Z) Z)) λs9 p9=>?_;have Ι:∀z∈y::(rr,mL 8 t0 t1 t2)::S0,z.1∉rs:=λz hz=>by
  rcases bq.mp hz with e|hz
  .rw [e];intro hq;show dF (sX hq) λi hi=>?_;have jA:=(dR.mp hi).1;show hny _ (bY _ (de S0 (pG hi (hm.get (i:=i) au).1))) Z
  .rcases bq.mp hz with e|hz
   .rw [e];show afO
   .show hd z hz
 have p10:=p9.sub (S':=uL rs b9++(y::(rr,mL 8 t0 t1 t2)::S0)) λz hz=>by
  simp only[bZ,bq]at hz ⊢;rcases hz with h|h|h|h
  .show aw (aw (ak h))
  .show ak h
  .show aw (ak h)
  .show aw (aw (aw h))
 have ϴ:(rr,mL 8 t0 t1 t2)∈uL rs b9++(y::(rr,mL 8 t0 t1 t2)::S0):=ew _ (bY _ (cR ..));show yN 67 (Dw 0 1 8) (λi (_:Unit)=>aia rs rr) (λi _=>uL rs (mG b9 i)++(y::(rr,mL 8 t0 t1 t2)::S0)) () p10 (z8 (n:=8) (t:=t0) (u:=t1) (v:=t2) 64 0 hh (p10.base B).top (p10.get ϴ) (p10.sg _ ϴ).2.1 Z aL)
  (by show kr.rf bG bG) (λy hy=>hy) (ak Z) (λ_ _ _=>rfl) (λi n z t W hn q=>?_) (λ_=>rfl) (λs11 _ p11=>fg ⟨rfl,(),p11.sub λz hz=>?_,λx E=>?_⟩)
 .show fc (o8.mp hn) λhi hn=>?_;have wu:(n:Int)=ai i:=by rw[hn];simp
  subst wu;have hmi:=Qe hm i au;show hJ (hmi.get (i:=i) au) λm1 m2 m3=>?_;show fc (Qd i au) λf1 f2=>?_;show fc (afU (1+i) au) λg1 g2=>?_;show g_ (a:=rs.getD i 0) (k:=0) (m:=8) (ms:=Qc i) (f4:=N) q ?_ (yQ i (ar 9 Z) (V.to (fq (x:=0) (y:=i) (ar 14 Z) (ar 67 Z)) fF) (hr _ au) au Z) (ar 15 Z)
   (fq (x:=0) (y:=8) (ar 15 Z) (aR 8)) (de _ (pG (hr _ au) m1)) m3 au au f2 Z (yP tV (hr _ au) _ Ι) λt1 q1=>?_
  .show V.to (ac0 (K:=(FPN.getD (1+i) []).map aT) (k:=1) (m:=9) (q.base B).top (wI (k:=ai (1+i)) (h_ (q.base B) Z hgf Z (hvf.ext q.ext)) (fq (x:=1) (y:=i) (ar 65 Z) (ar 67 Z)) ?_ Z (λ_=>?_)) (ar 66 Z) (fq (x:=1) (y:=8) (ar 66 Z) (aR 8)) (hO _) aL (by rw[ig,g1];decide) (by rw[ig,g1];decide) (by rw[ig,g1];decide)) (by simp only[Qc,AO,EV])
   .change cond (dY (1+i) 1000000) ((FPN.map λr=>fG (r.map aT))[1+i]?) eX=_;rw[eW au,cZ,g2];rfl
   .show hO _
  show fg ⟨rfl,(),q1.less (by show kr.rf bG bG)⟩
 .simp only[bZ,bq]at hz ⊢;rcases hz with h|h|h
  .show aw (ak h)
  .show ak h
  .show aw (aw (aw h))
 .rcases bZ.mp E with h|h
  .intro e;unfold uL at h;have h2:=(sZ (show(x.1,x.2)∈_ from h)).1;show Ι y (cR ..) (e▸h2)
  .show hny x (bY _ (ew _ h))
end
theorem aib:fZ (ao "bytearray") "__getattribute__" =pure (O (bB "bytearray.__getattribute__")):=by ext
theorem zy:PlainAttrs "bytearray" :=
 ⟨(cn ("bytearray.__getattribute__") aib Z),by ext⟩
theorem xn:AB (bB "bytearray.extend")=pure (ao "method_descriptor"):=by ext
theorem rX{o:aG}{args:List aG}{Q:aa->ae->Prop}(xo:uY o name J (a7 o J)=a7 o J)(j_:Ko (args.length+([]:List AA).length) (jZ pos (js args J)) (backToKw pos (Kx [] J))=N)(lB:(apos.endLine==pos.line)=N)(h:C A (a7 o J) s (λov ax=>∀pl,C A (Ez ov name pl) ax (λfx aP=>C A (xU pos fx.1 fx.2 (jZ pos (js args J)) []) aP Q))):
 C A (a7 (bx (gZ o name apos) args [] pos) J) s Q:=by
 rw[arm_eval_Call,xo];show C.bind (h.mono λov ax U=>C.bind (C.standAt ?_))
 delta methodCall
 show j_.symm▸C.bind (C.holding (C.mono (U _) λfx aP ku=>?_));show C.bind (C.eq (by delta methodCallPos;simp[lB]) ku)
theorem zc{o:aG}{ac1:aV}{Q:cb->ae->Prop}(hs:fz value (O (gZ o ac1 Cu)) pos.line J=pure ab)(h:C A (a7 value J) s (λv ax=>C A (a7 o J) ax (λov aP=>C A (setAttr ov ac1 v) aP (λ_ Y=>Q cL Y)))):C A (oJ (ez [gZ o ac1 Cu] value pos) J) s Q:=by rw[plainObj_exec_Assign_Attribute o ac1 Cu value pos hs];show nQ<|C.bind<|h.mono λv ax U=>C.bind<|lJ (U.mono λov aP ku=>nQ (lJ (ku.mono λ_ dp uq=>C.release (C.pure uq))))
section
variable{Q:cb->ae->Prop}
theorem XH(ns ms:LN):rZ ns++rZ ms=rZ (ns++ms):=by apply A7;simp[rZ]
theorem l8.app(h:l8 ns)(hm:∀x∈ms,x<256)(hl:ns.length+ms.length<=1000):l8 (ns++ms):=⟨λx E=>by
 rcases bZ.mp E with q|q
 .show h.1 x q
 .show hm x q,by simpa using hl⟩
theorem k_{l:aG}(hh:dh A)(p:PS H U L J aK bo bu G S s)(he:V H s.heap A L J G e (aH (R d)) ab)(hl:V H s.heap A L J G l (aX ms) ab)(hd:(d,kF ns)∈S)(hms:∀x∈ms,x<256)(dM:ns.length+ms.length<=1000)(dH:cH l=ab)(xo:uY e (aB "extend") J (a7 e J)=a7 e J)(lB:(apos.endLine==cpos.line)=N)(hi:iJ J=ab)(hS:∀y∈S',(y.1=d/\y.2=kF (ns++ms))\/(y.1≠d/\y∈S))(kk:∀Y,PS H U L J aK bo bu G S' Y->C A (aU rest J) Y Q):C A (aU (qy (bx (gZ e (aB "extend") apos) [l] [] cpos) pos::rest) J) s Q:=by show zZ hi Z<|rX xo (by rw[l6 dH];rfl) lB<|Xg (he s p.er) λax e1 pl=>have p1:=p.grow e1;have Q1:=p1.get hd;cS<|T5 (eU Q1) zy pE xn (λa ea=>by obtain rfl:=j9 ea;show cn _ Q1 Z)<|dg (by rw[l6 dH];rfl) ?_;rw[l6 dH];show eu (cu (T.wcE (hl ax (p.er.ext e1.ext)) λu aP F2 e2 V2 _=>c8 (lV ⟨rfl,?_⟩)));have p2:=p1.grow e2;have Ϡ:=p2.get hd;show iP V2 λla vs n F' dX _ Gu V' _=>?_;subst dX;show w6 hh Ϡ Gu (intsAre_of V' (dS ms)) hms (by rw[gJ];show dM) λs3 tn ho3=>⟨rfl,?_⟩;rw[XH]at ho3;show kk s3 (p2.turn hd Z tn ho3 Z hS)
structure rd(U:aQ)(f:Nat->cq):Prop where
 HG:rb U 1956 (f 0) (vI 2)
 XI:(f 0).defaults=R 1949
 dft:∃n,U.get? 1949=O (cV [R 1948] n)
 emp:∃n,U.get? 1948=O (cV [] n)
theorem rd.ext(x:gU H U h)(dB:rd U f):rd h f:=⟨dB.HG.ext x,dB.XI,dF dB.dft λn e=>⟨n,x.keep _ _ (DU Z) e⟩,dF dB.emp λn e=>⟨n,x.keep _ _ (DU Z) e⟩⟩
end
noncomputable def XJ(f:Nat->cq)(br:af):cI:=gO (f 0) br 1956
theorem l_(B:cx U mg mb)(I:dQ mg mb)(X:(iE P t f).In U)(dB:rd U f)(bK:A.depth<1000)(x1:gU H U s.heap)(cA:zY U S s.heap)(Rv:(b,vt 2002 dx)∈S)(hdo:(dx,iA)∈S)(hlu:us.length=2)(so:T A.in1 (dy (f 0) ⟨R b::vs,[]⟩) s (λbs Y=>Y=s/\bs=([110,111].map NM).zip us))(aO:bA s.heap [aH (R b),av] us F)(Om:∀br ax v F,gU H U ax.heap->bM ax.heap av v F->C (A.deeper (XJ f br)) (call (ao "bytearray") [v]) ax (λu aP=>u=R ax.heap.objs.size/\aP={ax with heap:=ax.heap.push (kF ns)}))(hq:∀Y d br G,s.heap.get? d=ah->PS H U (bc (vI 2)) (XJ f br) s [] (S.map (·.1)) G ((b,qZ dx d)::(d,kF ns)::S.filter (λy=>y.1 != b)) Y->aN (bW (cB aA)) Y):
 CC A (m8 (R 1956) ⟨R b::vs,[]⟩) s aN:=by
 have N':=dB.HG.ext x1;show bf N'.at_.obj λo ho hd=>(Xn B x1 bK ho hd (N'.at_.ach (H:=H) (.refl _)) N'.body N'.clo (by rw[N'.scope];rfl) (by rw[N'.scope];rfl) so aO (by rw[N'.scope];rfl) N'.glob N'.bi aL hlu.symm (by rw[N'.scope];decide) cA λaP br p=>?_);rw[N'.scope]at p;have p:=p;have hI:=I ("bytearray",ao "bytearray") aL;show ij<|zc Z<|fV<|T.wX (eG (p.base B) p.er Z hI.1 hI.2 (rfl))<|dg (rfl) (eu (cu (Lake.T.wcV (wb p.er (x:=111) Z) λv F4 V4=>c8 (iI ⟨rfl,?_⟩))));show(Om br _ v F4 p.ext V4).mono λu s5 qQ=>fc qQ λe1 e2=>e1▸e2▸have p5:=p.sv (o:=kF ns) (tk:=aP.toks) B Z Z;T.wx (wb p5.er (x:=110) Z) λv6 s6 ow=>MB ow λe1 F6 V6=>e1▸?_;apply bM.Gg V6;show cS<|PQ (jm X p5.ext) (p5.get (bV _ Rv)) (p5.get (bV _ hdo)) λs7 tn hb7=>fg (hq s7 aP.heap.objs.size br _ (p.mod.mod.new (bz _)) (p5.aeO (bV _ Rv) Z tn hb7 Z λx E=>?_));have akL:aP.heap.objs.size≠b:=λe=>by have:=cj (p.get Rv);rw[e]at this;show gv _ this
 rcases bq.mp E with e|E
 .left;rw[e];show⟨rfl,rfl⟩
 .rcases bq.mp E with e|E
  .right;rw[e];show⟨akL,cR ..⟩
  .show fc (gq.mp E) λh1 h2=>(aw ⟨by simpa using h2,bY _ h1⟩)
theorem Qf{rest:List aa}(B:cx U mg mb)(I:dQ mg mb)(X:(iE P t f).In U)(dB:rd U f)(p:PS H U L J aK bo bu G S s)(hS:∀y∈S,gh y.2=N)(so:∀s b,gU H U s.heap->T (A.under (fE "type.__call__" ⟨R 2002::rest,[]⟩)).in1 (dy (f 0) ⟨R b::rest,[]⟩) s (λbs Y=>Y=s/\bs=([110,111].map NM).zip (R b::us)))(hlu:us.length=1)(aO:bA s.heap [av] us F)(hd:(A.under (fE "type.__call__" ⟨R 2002::rest,[]⟩)).depth<1000)(Om:∀fX ax v F,gU H U ax.heap->bM ax.heap av v F->C ((A.under (fE "type.__call__" ⟨R 2002::rest,[]⟩)).deeper fX) (call (ao "bytearray") [v]) ax (λu aP=>u=R ax.heap.objs.size/\aP={ax with heap:=ax.heap.push (kF ns)}))(hq:∀Y b dx d,b≠dx->b≠d->dx≠d->(∀y∈S,y.1≠b/\y.1≠dx/\y.1≠d)->PS H U L J aK bo bu G (ji b dx d ns++S) Y->Q (R b) Y):C A (call (R 2002) rest []) s Q:=by
 have Xs:=jm X p.ext;show acI (makes_of Xs Ϧ) (A4 Xs acJ) (λself=>bind_fn Xs self ϧ) Z ?_;have hsx:({s with heap:=s.heap.push iA,toks:=s.toks}:ae).heap.objs.size=s.heap.objs.size+1:=(dD ..);have p2:=hsx▸(p.sv (o:=iA) (tk:=s.toks) B Z Z).sv (o:=vt 2002 s.heap.objs.size) (tk:=s.toks) B Z Z;have hSb:∀y∈S,y.1≠s.heap.objs.size+1/\y.1≠s.heap.objs.size:=λy hy=>by have:=cj (p.sg y hy).1;show⟨fB (kX this),fB this⟩
 show l_ (F:=F) B I X dB hd p2.ext p2.sg (eO ..) (bV _ (eO ..)) (by simp[hlu]) (so _ _ p2.ext) ?_
  (λbr s1 v F x aO=>Om _ s1 v F x aO) λY d br G' hdn q=>⟨rfl,?_⟩
 .show ej [] F (.ik _) (aO.ext (H:=H) ((gU.push _ _).trans (.push _ _)))
 have pe:=p2.called q λy hy=>by
  rcases bq.mp hy with e|hy
  .rw [e];rfl
  .show ba (bq.mp hy) (λe=>by rw[e];rfl) λhy=>hS y hy
 have afV:∀y∈(s.heap.objs.size+1,vt 2002 s.heap.objs.size)::(s.heap.objs.size,iA)::S,y.1≠d:=λy hy e=>by have:=(p2.sg y hy).1;have this:=e▸this;have this:=(show({s with heap:=(s.heap.push iA).push (vt 2002 s.heap.objs.size)}:ae).heap.get? d=ah from hdn).symm.trans this;ext
 show hq Y (s.heap.objs.size+1) s.heap.objs.size d (yn _) (afV _ (eO ..)) (afV _ (bV _ (eO ..))) (λy hy=>gI ((hSb y hy).1) ((hSb y hy).2) (afV y (bV _ (bV _ hy)))) (pe.sub λx E=>?_);rcases bZ.mp E with E|E
 .simp only[ji,bq,mX,or_false]at E;rcases E with e|e|e
  .rw [e];show cR ..
  .rw [e];show bY _ (bV _ (gq.mpr ⟨by lia,?_⟩));simp
  .rw [e];show by lia
 .show bY _ (bV _ (gq.mpr ⟨bY _ (bV _ E),?_⟩));simpa using (hSb x E).1
theorem ac2:yw (iE P t f) (R 2002) "__call__" =O (O (bB "type.__call__")):=by ext
theorem HH{Q:Keeper->ae->Prop}(X:(iE P t f).In s.heap)(h:Q FH s):aE M A (Aw (R 2002)) Q a0 s:=aj<|jY (X 2002 _ Z)<|aj<|(looks_specialIn X ac2).here<|aC h
theorem Se(dB:rd U f)(x:gU H U s.heap)(v u:aa):T A (dy (f 0) ⟨[v,u],[]⟩) s (λbs Y=>Y=s/\bs=([110,111].map NM).zip [v,u]):=by
 show dF ((dB.ext x).dft) λn hd=>?_
 delta dy
 show dB.HG.params.symm▸dB.XI.symm▸dB.HG.kwd.symm▸aj (aC (aj (jV hd Z ?_)));show aC ⟨rfl,rfl⟩
theorem Sh(dB:rd U f)(x:gU H U s.heap)(v:aa):T A (dy (f 0) ⟨[v],[]⟩) s (λbs Y=>Y=s/\bs=([110,111].map NM).zip [v,R 1948]):=by
 show dF ((dB.ext x).dft) λn hd=>?_
 delta dy
 show dB.HG.params.symm▸dB.XI.symm▸dB.HG.kwd.symm▸aj (aC (aj (jV hd Z ?_)));show aC ⟨rfl,rfl⟩
theorem ac3(B:cx U mg mb)(I:dQ mg mb)(X:(iE P t f).In U)(dB:rd U f)(bK:A.depth<990)(hg:mg (aB "Buffer")=O (R 2002))(kQ:Gi L "Buffer")(p:PS H U L J aK bo bu G S s)(hS:∀y∈S,gh y.2=N)(he:V H s.heap A L J G e (aX bits) ab)(dH:cH e=ab)(D:l8 bits)(hq:∀Y b dx d,b≠dx->b≠d->dx≠d->(∀y∈S,y.1≠b/\y.1≠dx/\y.1≠d)->PS H U L J aK bo bu G (ji b dx d bits++S) Y->Q (R b) Y):
 C A (a7 (bx (aq (aB "Buffer") np) [e] [] pos) J) s Q:=by
 show fV<|T.wX (sh (p.base B) p.er kQ hg (rfl))<|dg (by rw[l6 dH];rfl) ?_;rw[l6 dH];show eu (cu (T.wcE (he _ p.er) λu s2 F2 e2 V2 _=>c8 (cS (HH (jm X (p.grow e2).ext) ⟨rfl,?_⟩))));show Qf (F:=F2) B I X dB (p.grow e2) hS (λs b x=>Se dB x _ _) Z (DX u [] F2 [] rfl V2 .nil fF) au (λfX s1 v F x aO=>?_) hq;show fP aO λla vs n F' dX _ Gu V' _=>dX▸uJ ("list") n Gu (ak Z) (intsAre_of V' (dS bits)) D.1 D.2 ⟨rfl,rfl⟩
theorem ac4(B:cx U mg mb)(I:dQ mg mb)(X:(iE P t f).In U)(dB:rd U f)(bK:A.depth<990)(hg:mg (aB "Buffer")=O (R 2002))(kQ:Gi L "Buffer")(p:PS H U L J aK bo bu G S s)(hS:∀y∈S,gh y.2=N)(hq:∀Y b dx d,b≠dx->b≠d->dx≠d->(∀y∈S,y.1≠b/\y.1≠dx/\y.1≠d)->PS H U L J aK bo bu G (ji b dx d []++S) Y->Q (R b) Y):
 C A (a7 (bx (aq (aB "Buffer") np) [] [] pos) J) s Q:=by
 show fV<|T.wX (sh (p.base B) p.er kQ hg (rfl))<|dg (by rfl) (B3 (cS (HH (jm X p.ext) ⟨rfl,?_⟩)));show Qf (F:=[]) B I X dB p hS (λs b x=>Sh dB x _) Z (DX _ [] [] [] rfl (.ik _) .nil Z) au (λfX s1 v F x aO=>?_) hq;show aO.DI▸dF ((dB.ext x).emp) λn e=>(uJ (vs:=[]) (ns:=[]) ("tuple") n e (aw Z) qB (zi) bD ⟨rfl,rfl⟩)
theorem DN{Q:aa×List aa->ae->Prop}(X:(iE P t f).In s.heap)(hB:wo s.heap b dx d ns)(h1:iK (iE P t f) (R 2002) name=O (O (R fa)))(h2:qA (iE P t f) (R fa)=O (ao "function"))(hs:shadowIn (O iA) name=O ab)(h:Q (R fa,[R b]) s):aE (aD prog w) A (Ez (R b) name pl) Q a0 s:=
 method_fn X (xh hB.obj hB.Xt) (A5 (B4 name)).1 (A5 (B4 name)).2 h1 h2 hs h
theorem HI{o:aG}{args:List aG}(X:(iE P t f).In U)(p:PS H U L J aK bo bu G S s)(he:V H s.heap A L J G o (aH (R b)) ab)(yR:∀y∈ji b dx d ns,y∈S)(hn:l8 ns)(h1:iK (iE P t f) (R 2002) name=O (O (R fa)))(h2:qA (iE P t f) (R fa)=O (ao "function"))(hs:shadowIn (O iA) name=O ab)(dB:rb U fa fd st)(xo:uY o name J (a7 o J)=a7 o J)(j_:Ko (args.length+([]:List AA).length) (jZ pos (js args J)) (backToKw pos (Kx [] J))=N)(lB:(apos.endLine==pos.line)=N)(h:∀ax,dG H s ax->C A (xV (R fa) N (jZ pos (js args J)) []) ax (λx aP=>(∃τ',gU τ' U aP.heap)/\C A (call (R fa) (R b::x.pos) x.kw) aP Q)):
 C A (a7 (bx (gZ o name apos) args [] pos) J) s Q:=by
 show rX xo j_ lB<|Xg (he s p.er) λax e1 pl=>have p1:=p.grow e1;cS<|DN (jm X p1.ext) (p1.Hz yR hn) h1 h2 hs<|bf dB.at_.obj λob ho hd=>(pF ob fd ((h ax e1).mono λx aP q=>dF q.1 λτ2 x2=>⟨⟨x2.keep _ _ dB.at_.off ho,hd⟩,q.2⟩))
theorem HJ(hh:dh A)(Q1:s.heap.get? a=O (kF ns))(hB:l8 ns)(top:Q5<=s.heap.objs.size):T A (call (ao "list") [R a]) s (λv Y=>dG H s Y/\bM Y.heap (aX ns) v [s.heap.objs.size]):=by
 show PG hh Q1 (by rw[gJ];show hB.2) λh' tk I6 c' hk hl uu=>?_;have hsz:I6.size=ns.length:=by rw[uu.1,gJ]
 have m_:bA h' (ns.map aT) I6.toList []:=by
  have key:∀(ns:LN) (vs:List aa),vs.length=ns.length->(∀(j:Nat) v,vs[j]? =O v->∃n tk,ns[j]? =O n/\v=ag (ai n) tk)->bA h' (ns.map aT) vs []:=by
   intro ns;induction ns with
   |nil=>intro vs hl _;rw[rq.mp hl];show⟨rfl,rfl⟩
   |cons n ns ih=>
    intro vs hl hv;cases vs with
    |nil=>ext
    |cons v vs=>show eT (hv 0 v Z) λm tk h1 h2=>?_;obtain rfl:=aW h1;show h2▸ej [] [] (.ofInt _ _) (ih vs (by simpa using hl) λj v hj=>?_);simpa using hv (j+1) v (hj)
  show key ns I6.toList (hsz) λj v hj=>(eT (uu.2 j v (by simpa using hj)) λx tk h1 h2=>?_);have hj':j<ns.length:=by have:=(dR.mp hj).1;simp at this;lia
  show kK (ns[j]) tk (by simp[hj']) ?_;rw[Nt (x:=ns[j]) (by simp[hj'])]at h1;obtain rfl:=aW h1;rw[h2,RX (hB.1 _ (Lc hj'))];rfl
 show⟨⟨.of_keep hk,rfl,rfl,eF _⟩,?_⟩;show sf [] (fm top) (by rw[hl];rfl) m_
theorem JO(hh:dh A)(B:cx U mg mb)(I:dQ mg mb)(kQ:Gi L "list")(ho:U.get? a=O (kF ns))(ht:a∉bX)(hB:l8 ns)(he:V H U A L J G e (aH (R a)) ab)(dH:cH e=ab):
 V H U A L J G (bx (aq (aB "list") np) [e] [] pos) (aX ns) fr:=λs r=>by
 show mE ("list") ("list") B I aL kQ (rfl) (fJ.cons he fJ.nil dH) (by simp[dW,dH]) r λvs ax F e1 V1=>?_;apply vH V1;have x1:=r.base.trans e1.ext;show(HJ hh (x1.keep a _ ht ho) hB (jz B.top x1)).Cx λv s2 e2 aO=>(o6 _ (e1.trans e2) aO (λ_=>⟨λb D=>?_,by simp⟩));apply jR D;show e1.ext.new (bz _)
section
open PySem.W PySem.NumText
noncomputable def xp(b:Bool):Nat:=if b then 49 else 48
noncomputable def B8(l:List Bool):Nat:=l.foldl (λn b=>2 * n+(if b then 1 else 0)) 0
noncomputable def n_:Nat->List (List Bool)
 | 0=>[[]]
 |n+1=>(n_ n).map (ab::·)++(n_ n).map (N::·)
theorem HK:∀l:List Bool,l∈n_ l.length
 | []=>cR ..
 |false::l=>de _ (UA (HK l))
 |true::l=>ew _ (UA (HK l))
theorem o_:∀b0 b1 b2 b3 b4 b5 b6 b7:Bool,(int_private% "readNumeral") 0 2 ([b0,b1,b2,b3,b4,b5,b6,b7].map xp)=(int_private% "Numeral.value") (B8 [b0,b1,b2,b3,b4,b5,b6,b7]:Nat):=λb0 b1 b2 b3 b4 b5 b6 b7=>vi.mp (by(ext):(n_ 8).map (λl=>(int_private% "readNumeral") 0 2 (l.map xp))=(n_ 8).map (λl=>(int_private% "Numeral.value") (B8 l:Nat))) _ (HK [b0,b1,b2,b3,b4,b5,b6,b7])
theorem p_{Q8:LN}{n:Int}(hs:(Q8.takeWhile (· != 0)).length<=640)(hr:(int_private% "readNumeral") 0 2 (Q8.takeWhile (· != 0))=(int_private% "Numeral.value") n)(ha:((Q8.takeWhile (· != 0)).length==Q8.length)=N)(h:Q (ag n s.toks) {s with toks:=s.toks+1}):
 aE M A ((int_private% "intFromText") v Q8 2) Q a0 s:=by
 obtain⟨hp,g,d,tk,os⟩:=s;repeat (any_goals (first
  |assumption
  |(with_reducible show Ek (decide_eq_true hs) ?_)
  |(with_reducible show Ek (decide_eq_true ha) ?_)
  |wp_step))
 all_goals (try show hr.symm▸?_)
 all_goals (try dsimp only)
 repeat (any_goals (first
  |assumption
  |(with_reducible show Ek (decide_eq_true hs) ?_)
  |(with_reducible show Ek (decide_eq_true ha) ?_)
  |wp_step))
theorem Qg{x:PySem.Str}{u2:a8}{n:Int}(hl:(Au x).length<=640)(hr:(int_private% "readNumeral") 0 2 (Au x)=(int_private% "Numeral.value") n)(ha:((Au x).length==(EB x).length)=N):
 Gives (Builtin.«int.__new__» ⟨[ao "int",cO x u,ag 2 u2],[]⟩) (Made.int n):=
 WC λM A a0 s Q h=>by
  obtain⟨hp,g,d,tk,os⟩:=s;have f1:=F.conv_sub_int;have f2:=F.madeHere_int;have hk:=λ_:True=>FO hl (FO hr ha);repeat (any_goals (first
   |assumption
   |((with_reducible change aE _ _ ((int_private% "intFromText") _ _ _) _ _ _);show p_ (hk trivial).1 (hk trivial).2.1 (hk trivial).2.2 ?_)
   |wp_step))
  all_goals first|show⟨_,rfl,h⟩|skip
theorem HL(a b:aa):xO "int" ⟨[a,b],[]⟩=pure ():=by ext
theorem Jb(a b:aa):sN "int.__new__" ⟨[ao "int",a,b],[]⟩=pure ():=by ext
end
theorem args_object_init_3(a b c:aa):j0 "object.__init__" ⟨[a,b,c],[]⟩:=by ext
theorem XM:mroOf (ao "map")=pure [ao "map",ao "object"]:=by ext
theorem HM:fZ (ao "map") "__new__" =pure (O (bB "map.__new__")):=by ext
theorem B9:oF (ao "map") (ao "map")=pure N:=by ext
theorem Jc:lM "map" "__init__" "object.__init__" :=
 nt (owner:= "object") (n:= "__init__") (rfl) (rfl) (rfl) (rfl) (by first|show ak (rfl)|show .inr (rfl)) (rfl)
theorem Si:Ar "map" "map.__new__" "object.__init__" :=
 ⟨rfl,rfl,⟨_,_,XM⟩,madeBy_type XM HM bG,by ext,B9,Jc⟩
theorem HO(a b:aa):xO "map" ⟨[a,b],[]⟩=pure ():=by ext
theorem Jd(a b:aa):sN "map.__new__" ⟨[ao "map",a,b],[]⟩=pure ():=by ext
theorem Je:gQ table "map.__new__" =O Builtin.«map.__new__»:=mi (rfl)
theorem xq:gQ table "map.__next__" =O Builtin.«map.__next__»:=mi (rfl)
theorem mR:lM "map" "__next__" "map.__next__" :=
 nt (owner:= "map") (n:= "__next__") (rfl) (rfl) (rfl) (rfl) (by first|show ak (rfl)|show .inr (rfl)) (rfl)
theorem zz:lM "map" "__iter__" "map.__iter__" :=
 nt (owner:= "map") (n:= "__iter__") (rfl) (rfl) (rfl) (rfl) (by first|show ak (rfl)|show .inr (rfl)) (rfl)
theorem HP:gQ table "map.__iter__" =O Builtin.«dict_keyiterator.__iter__»:=
 Kl (id':= "dict_keyiterator.__iter__") ((xK _).trans bG) aL bG ((xK _).trans bG)
theorem zA(a:aa):j0 "map.__next__" ⟨[a],[]⟩:=vq bG
theorem Jf(a:aa):j0 "map.__iter__" ⟨[a],[]⟩:=vq bG
theorem Sk:fZ (ao "map") "__len__" =pure ah:=by ext
theorem Qh:fZ (ao "map") "__length_hint__" =pure ah:=by ext
noncomputable def zd(T:af):bE:={cls:=ao "map",data:=bF #[R T,ao "str"]}
theorem Ny(hl:s.heap.IsList l items)(h:Q (R (s.heap.objs.size+2)) {s with heap:=((s.heap.push {cls:=ao "list_iterator",data:=bF #[R l,ag 0 0]}).push (cV [R s.heap.objs.size] 0)).push (zd (s.heap.objs.size+1))}):
 aE (aD prog w) A (call (ao "map") [ao "str",R l]) Q a0 s:=by
 show Ku (S:=λA aN Y=>Y=s/\aN (bW (cB (R (s.heap.objs.size+2)))) {s with heap:=((s.heap.push {cls:=ao "list_iterator",data:=bF #[R l,ag 0 0]}).push (cV [R s.heap.objs.size] 0)).push (zd (s.heap.objs.size+1))})
  Si (rfl) (HO _ _) (Jd _ _) (λobj=>args_object_init_3 obj _ _) Je (qC λprog w A aN Y qQ=>fc qQ λe hq=>?_) (gI Z ?_ h)
 .subst e;obtain⟨hp,g,d,tk,os⟩:=Y
  delta Builtin.«map.__new__» abN abL abO abM
  show aj<|aj<|iq (a:=N) (rfl)<|aj<|iq B9<|aC ?_;dsimp only;show aj<|aC<|aj<|aj<|aj<|aj<|cQ<|uV hl<|aC<|aC<|aC<|aj (ip ?_ (show(1:Nat)<=eN by decide));show aj (ip ?_ (by size_fits));have e1:(hp.push {cls:=ao "list_iterator",data:=bF #[R l,ag 0 0]}).objs.size=hp.objs.size+1:=dD ..;have e2:((hp.push {cls:=ao "list_iterator",data:=bF #[R l,ag 0 0]}).push (cV [R hp.objs.size] 0)).objs.size=hp.objs.size+2:=by rw[dD,e1]
  show aC (cn _ Z ?_);change aN (bW (cB (R ((hp.push {cls:=ao "list_iterator",data:=bF #[R l,ag 0 0]}).push (cV [R hp.objs.size] 0)).objs.size))) _;rw[e2];have hm:zd (hp.objs.size+1)={cls:=ao "map",data:=bF #[R (hp.push {cls:=ao "list_iterator",data:=bF #[R l,ag 0 0]}).objs.size,ao "str"]}:=by rw[e1];rfl
  have hq':=hq;dsimp only at hq';rw[hm]at hq';show hq'
 .have e:=bI ((s.heap.push {cls:=ao "list_iterator",data:=bF #[R l,ag 0 0]}).push (cV [R s.heap.objs.size] 0)) (o:=zd (s.heap.objs.size+1)) Z;rw[dD,dD]at e;show cn _ e Z
theorem Nz{T br:af}{t:a8}{Q:Option aa->ae->Prop}(hI:s.heap.get? I=O (zd T))(hT:s.heap.get? T=O (cV [R br] k))(hL:s.heap.IsListIter br l i)(hl:s.heap.IsList l items)(E:items[i]? =O (ag (ai n) t))(hn:n<1000)(hQ:∀h',h'.IsListIter br l (i+1)->gu br s.heap h'->Q (O (cO (aB (toString (ai n))) s.toks)) {s with heap:=h',toks:=s.toks+1}):aE (aD prog w) A (gY (R I)) Q a0 s:=by
 have XN:s.TypeIs (R I) "map" :=cn _ hI Z;show gC hL λo ho hc hd=>Q4 hl λol hol _ nl YT=>aj (u5 (jT (name:=aB "__next__") XN mR (jU mR XN xq ?_ (zA _))));show(?_:aE _ _ (sU (R I) 0>>=_) _ _ s);show aj<|gN hI Z (x:=R T) Z<|aj (jV hT Z ?_);dsimp only;show aj<|aj<|aj<|cQ<|aj (jT (name:=aB "__next__") hL.typeIs Ef (jU Ef hL.typeIs TV ?_ (T2 _)));show(?_:aE _ _ (sU (R br) 0>>=_) _ _ s);show aj<|gN ho hd (x:=R l) Z<|aj<|gN ho hd (x:=ag i 0) Z<|aj (jV hol YT ?_);simp only[KN,E];show aj<|Ap ho hd (EZ [].length)<|aC<|cn _ Z<|aC<|aC (aC ?_);have q_:br≠I:=λe=>by
  subst e;obtain rfl:=aW (hI.symm.trans ho);injection hc with h3
  show absurd h3 aL
 show aj<|gN ((mr _ _ q_).trans hI) Z (x:=ao "str") Z<|have M':ai n=(n:Int):=rfl;aj (cQ (P.str_of_int (a:=ai n) (t:=t) ?_ ?_))
 .show j4 (Nat.log2_le_self n) au
 show aj (u7 (aC (cn _ Z (aC (hQ _ ?_ (j8 ..))))));show⟨_,ie _ ho (Obj.isFreed_of_fields (Vd hd _)),(Obj.cls_mapFields ..).trans hc,by rw[Vd hd];rfl⟩
theorem NA{T br:af}{Q:Option aa->ae->Prop}(hh:dh A)(hI:s.heap.get? I=O (zd T))(hT:s.heap.get? T=O (cV [R br] k))(hL:s.heap.IsListIter br l i)(hl:s.heap.IsList l items)(E:items[i]? =ah)(hQ:∀h',KR br s.heap h'->Q ah {s with heap:=h'}):aE (aD prog w) A (gY (R I)) Q a0 s:=by have XN:s.TypeIs (R I) "map" :=cn _ hI Z;show gC hL λo ho hc hd=>Q4 hl λol hol _ nl YT=>aj (u5 (jT (name:=aB "__next__") XN mR (jU mR XN xq ?_ (zA _))));show(?_:aE _ _ (sU (R I) 0>>=_) _ _ s);show aj<|gN hI Z (x:=R T) Z<|aj (jV hT Z ?_);dsimp only;show aj<|aj<|aj<|cQ<|aj (jT (name:=aB "__next__") hL.typeIs Ef (jU Ef hL.typeIs TV ?_ (T2 _)));show(?_:aE _ _ (sU (R br) 0>>=_) _ _ s);show aj<|gN ho hd (x:=R l) Z<|aj<|gN ho hd (x:=ag i 0) Z<|aj (jV hol YT ?_);simp only[KN,E];show aj<|rl<|aj<|Ap ho hd (TM Z)<|aj<|aj (ip ?_ (by size_fits));show aj (m:=firstArgMember _ _)<|iq (a:=aA) (by first|rfl|(rw[firstArgMember];rfl))<|ip ?_ (by size_fits);show aj<|Kq<|(show A.in1.in1.handled=ah from hh).symm▸aj (aC (Kw ?_));show aj (mj (T:= "StopIteration") (b:=N) (cn _ (bI _ Z) Z) Km ?_);show aC (hQ _ (((j8 ..).extBut.push _).push _))
theorem NC{T:af}(hI:s.heap.get? I=O (zd T))(h:Q (R I) s):aE (aD prog w) A (gn (R I)) Q a0 s:=by have hT:s.TypeIs (R I) "map" :=cn _ hI Z;show Kf hT zz (jU zz hT HP ?_ (Jf _));show aC ⟨_,rfl, "map",_,hT,mR.lookup,h⟩
noncomputable def strN(n:Nat):aV:=aB (toString (ai n))
theorem Walks.map(hh:dh A){T br:af}(hIL:I≠br)(hTL:T≠br)(hlL:l≠br)(hi:fk items.toList (ns.map ai))(D:∀n∈ns,n<1000):
 mU prog w A I [I,T,br,l] [br] ns.length (λi v=>∃n t,ns[i]? =O n/\v=cO (strN n) t) (λi h=>h.get? I=O (zd T)/\h.get? T=O (cV [R br] k)/\h.IsListIter br l i/\h.IsList l items) where
 sub:=λb D=>by have D:=bJ.mp D;lia
 frame:=λi h h' st hk=>rT (hk I bw _ st.1) (hk T bw _ st.2.1) (st.2.2.1.at λo e=>hk br bw o e) (st.2.2.2.at λo e=>hk l bw o e)
 item:=λi s Q a0 hi' st hQ=>by
  show fc (n6 hi) λl1 l2=>?_;have hsz:items.size=ns.length:=by simpa using l1
  have E:items[i]? =O items[i]:=by simp[hi']
  show eT (l2 i items[i] (by simp[hi'])) λn t h1 h2=>?_;rw[cZ]at h1;show bf (jb.mp h1) λm h3 h4=>?_;subst h4;rw[h2]at E;show Nz st.1 st.2.1 st.2.2.1 st.2.2.2 E (D m (cY h3)) λh' g1 g2=>hQ _ h' _ (kK m _ h3 Z) (rT (g2.extBut _ _ hIL st.1) (g2.extBut _ _ hTL st.2.1) g1 (st.2.2.2.extBut g2.extBut hlL)) λb o D e=>g2.extBut b o (vE D) e
 done:=λs Q a0 st hQ=>fc (n6 hi) λl1 l2=>NA hh st.1 st.2.1 st.2.2.1 st.2.2.2 (by simp[(by simpa using l1)]) λh' he=>hQ h' s.toks λb o D e=>he b o (by show vE D) e
 self:=λi s Q a0 st hQ=>NC st.1 hQ
section
open PySem.W PySem.NumText
section
variable{G:Array eV->Array eV->Prop}{P:Nat->aa->Prop}{St:Nat->ae->Prop}
theorem HQ{Q:List aa->ae->Prop}(W:WalksS prog w A.in1 I fp wr G n P St)(hT:∀i s,St i s->s.TypeIs (R I) ty)(dH:St 0 s)(Ak:∀b∈fp,b<s.heap.objs.size)(hI:I∈fp)(t1:(ao ty==ao "list")=ab)(t2:(ao ty==ao "tuple")=ab)(r_:fZ (ao ty) "__len__" =pure ah)(Sl:fZ (ao ty) "__length_hint__" =pure ah)(hQ:∀Y jQ,Moved wr G s Y->ItemsOf P jQ n->Q jQ.toList Y)(hn:n<=eN):aE (aD prog w) A (collect (R I)) Q a0 s:=by
 have O':=λhm=>gv _ (Ak _ hm);have hSI:s.heap.objs.size≠I:=λe=>O' (e▸hI);show aj<|Kn<|qh Mc<|aj<|ip<|aC ⟨lL Me _,qh Fw ?_⟩;have xj:=W.frame 0 s (s.heap.push {cls:=ao "list",data:=bQ ([]:List aa).toArray}) s.toks dH (ey _) λb _ o e=>aZ _ e;show(?_:aE _ A.in1 (VE (R s.heap.objs.size) (R I) (R s.heap.objs.size)) _ _ _);show aj (rj (hT 0 _ xj) ?_);have h1:yx (R s.heap.objs.size) (R I)=ab:=by simp[yx,hSI]
 show wpAny_ite_false (by rw[h1,t1,t2];rfl)<|aj<|W.self 0 _ _ _ xj<|aj<|cQ<|aj<|jF (hT 0 _ xj) r_<|aj<|jF (hT 0 _ xj) Sl<|aC<|(?_:aE _ A.in1 (rule "list.extend.makes-room" >>=λ_=>VG (R s.heap.objs.size)>>=λ_=>
  again (fE "list.extend.loop" ⟨[R s.heap.objs.size,R I,R s.heap.objs.size],[]⟩)) _ _ _)
 show aj<|rl<|have PX:(s.heap.push {cls:=ao "list",data:=bQ ([]:List aa).toArray}).get? s.heap.objs.size=O {cls:=ao "list",data:=bQ ([]:List aa).toArray}:=bI _ Z;aj<|aj<|uX PX Z<|have Hp:=ie (dO (·.push aA)) PX Z;uX Hp Z ?_;have Zd:∀b o,b≠s.heap.objs.size->(s.heap.push {cls:=ao "list",data:=bQ ([]:List aa).toArray}).get? b=O o->
  (((s.heap.push {cls:=ao "list",data:=bQ ([]:List aa).toArray}).update s.heap.objs.size (dO (·.push aA))).update s.heap.objs.size (dO (·.pop))).get? b=O o:=
  λb o D e=>(mr _ _ (eS D)).trans ((mr _ _ (eS D)).trans e)
 show aC ⟨lL Fu _,TQ W hn _ O' _ n 0 _ _ _ Z (fj _)
  (W.frame 0 ({s with heap:=s.heap.push {cls:=ao "list",data:=bQ ([]:List aa).toArray}}:ae) _ s.toks xj (ey _) λb D o e=>Zd b o (λh=>O' (h▸D)) e) (ie (dO (·.pop)) Hp Z) (Wz P) λY I6 c' hm hS' oy=>?_⟩
 show aj<|jY hS'<|aC (hQ Y I6 (Moved.drop_new (o:={cls:=ao "list",data:=bQ ([]:List aa).toArray}) (Moved.trans W.gtrans ((Moved.refl W.grefl).then_heap (by first|show ey _|show lQ _|lia) λb o D e=>?_) hm) (ey _)) oy);show Zd b o (λh=>D (h▸cR)) e
theorem Qi{x:aV}{t:a8}(W:WalksS prog w A.in1.in1 I fp wr G n P St)(hT:∀i s,St i s->s.TypeIs (R I) ty)(dH:St 0 s)(Ak:∀b∈fp,b<s.heap.objs.size)(hI:I∈fp)(t1:(ao ty==ao "list")=ab)(t2:(ao ty==ao "tuple")=ab)(r_:fZ (ao ty) "__len__" =pure ah)(Sl:fZ (ao ty) "__length_hint__" =pure ah)(akM:∀i v,P i v->∃y u,v=cO y u)(hq:∀Y (l:List (aV×a8)),Moved wr G s Y->ItemsOf P (Av l).toArray n->JoinOk x (l.map (·.1))=N/\∀t' k,Q (cO (Txt.join x (l.map (·.1))) t') {Y with toks:=k})(hsz:n<=eN):
 aE (aD prog w) A (call (bB "str.join") [cO x t,R I]) Q a0 s:=by
 show kU (xF VX.plain PySem.F.entry_str_join (VX.check _ _ _ _ _ _ _ _ (typeIs_str _ _ _) (PySem.F.args_str_join_2 _ _) ?_));dsimp only[join_tree_other];show aj (rj (hT 0 s dH) ?_);rw[if_neg (by rw[t1,t2];decide)];show aj<|wpAny_tryCatch<|W.of_in1.self 0 s _ _ dH<|aj (HQ W hT dH Ak hI t1 t2 r_ Sl (λY jQ hm oy=>?_) hsz);show dF (exists_strValues jQ.toList λv hv=>by obtain⟨j,hj,rfl⟩:=Array.mem_iff_getElem.mp (Array.mem_toList_iff.mp hv);show akM j _ (oy.2 j _ (vw hj))) λl hl=>?_
 show hl▸fc (hq Y l hm (by rw[hl];simpa using oy)) λoz aic=>?_;unfold JoinOk at oz;rw[vo]at oz;have g:Gives (joinTail x (Av l)) (joinMade x l):=by
  have g0:=gives_joinTail x l oz;cases l with
  |nil=>show g0
  |cons p r=>cases r with|nil=>show g0|cons q r'=>show g0
 show g prog w A (wants Q a0) Y (post_join l ⟨joinFit_length oz,aic⟩)
end
end
section
open PySem.W PySem.NumText
def s_(H:List af)(U:aQ)(A:bR)(L:dw)(J:cI)(G:iB)(e:aG)(ns:LN):Prop:=
 ∀s,ER H U L J s.heap G->T A (a7 e J) s (λv Y=>dG H s Y/\∃a,v=R a/\s.heap.get? a=ah/\Y.heap.get? a=O (kF ns))
theorem JP(ns:LN)(k m:Nat):(((rZ ns).toList.drop k).take (m - k)).toArray=rZ ((ns.drop k).take (m - k)):=by apply A7;simp[rZ]
theorem Sm{m:Nat}(ho:U.get? a=O (kF ns))(ht:a∉bX)(hB:l8 ns)(he:V H U A L J G e (aH (R a)) ab)(hh:V H U A L J G lo (aT k) ab)(hj:V H U A L J G hi (aT m) ab)(Q0:k<=m)(hm:m<=ns.length):s_ H U A L J G (dk e (mq (O lo) (O hi) eX p) pos) ((ns.drop k).take (m - k)):=λs r=>by
 show rO<|(he s r).ο λax e1=>Et<|(hh ax (r.ext e1.ext)).CA λt aP e2=>(hj aP ((r.ext e1.ext).ext e2.ext)).tR λu' dp F3 e3 V3 _=>aC<|dF V3.toInt λt' dX=>dX▸?_;have YC:=(e1.trans e2).trans e3;have t_:(dp.heap.push {cls:=ao "slice",data:=bF #[ag (ai k) t,ag (ai m) t',aA]}).get? a=O (kF ns):=aZ _ ((r.base.trans YC.ext).keep a _ ht ho);have hl:=hB.2;have hse:tJ (rZ ns) (min (k:Int) (rZ ns).size) (min (m:Int) (rZ ns).size) 1=rZ ((ns.drop k).take (m - k)):=by rw[JC _ _ _ (le_of_le_of_eq hm (id (lh (gJ ns)))) Q0,JP]
 show tH (eU t_) gz.lookup ?_ (rfl);show cQ<|aj<|uU (eU t_) (rfl)<|aj (jT (eU t_) gz (oB gz (eU t_) qa (qX _ _) (YX a _ (rZ ns) k m t t' _ _ _ (BY k m _) (by rw[hse,gJ];simp;lia)) (gI t_ (bI _ Z) ?_)));show aC<|hse.symm▸⟨YC.trans ⟨(gU.push _ _).trans (.push _ _),rfl,rfl,eF _⟩,_,rfl,?_,bI _ Z⟩;have E:gU H s.heap (dp.heap.push {cls:=ao "slice",data:=bF #[ag (ai k) t,ag (ai m) t',aA]}):=YC.ext.trans (.push _ _);show E.new (bz _)
theorem s_.list(hh:dh A)(B:cx U mg mb)(I:dQ mg mb)(kQ:Gi L "list")(hB:l8 ns)(he:s_ H U A L J G e ns)(dH:cH e=ab):
 V H U A L J G (bx (aq (aB "list") np) [e] [] pos) (aX ns) fr:=λs r=>by
 have hI:=I ("list",ao "list") aL;show mh<|T.Dt (eG B r kQ hI.1 hI.2 (rfl))<|A1 (Ki ((he s r).wp λv ax qQ=>oY qQ λe1 a ev hn Q1=>aC ?_) (dq dH _ _)) (dq dH _ _) Z;show ev▸(HJ hh Q1 hB (jz B.top (r.base.trans e1.ext))).wp λv s2 qQ=>fc qQ λe2 aO=>(o6 _ (e1.trans e2) aO (λ_=>⟨λb D=>?_,by simp⟩));apply jR D;show e1.ext.new (bz _)
end
section
open PySem.W PySem.NumText
theorem HR:∀l:List aV,(yc "" l).cps.toList=(l.map λx=>x.cps.toList).flatten
 | []=>rfl
 | [x]=>by simp[yc]
 |x::y::r=>by rw[ix,UE,<-(HR (y::r))];change(x.cps++("" :aV).cps++(yc "" (y::r)).cps).toList=_;simp;rfl
noncomputable def Zh(b:Bool):Nat:=if b then 1 else 0
theorem u_(b:Bool):(strN (Zh b)).cps.toList=[xp b]:=by cases b<;>rfl
theorem Zi(l:List Bool):yc "" (l.map λb=>strN (Zh b))=⟨(l.map xp).toArray⟩:=by
 have h:=HR (l.map λb=>strN (Zh b));have e:((l.map λb=>strN (Zh b)).map λx=>x.cps.toList).flatten=l.map xp:=by
  rw[qo];induction l with
  |nil=>rfl
  |cons b l ih=>rw[ix,UE,ix];have:=u_ b;simp only[Function.comp_apply,this];rw[show [xp b]++_=xp b::_ from rfl];congr 1;show ih (HR _)
 have:yc "" (l.map λb=>strN (Zh b))=⟨(yc "" (l.map λb=>strN (Zh b))).cps⟩:=rfl;rw[this];congr 1;show Array.toList_inj.mp ((h.trans e))
theorem HS:∀bs:List Bool,(bs.map xp).takeWhile (· != 0)=bs.map xp:=by
 intro xX;induction xX with
 |nil=>show rfl
 |cons b bs iH=>rw[ix,Uz,if_pos (by cases b<;>decide),iH]
def HT:cg:=vI 6
def JQ:aG:=match a9 (bg HT) 1 with
 |yr (O e) _=>e
 |_=>fL rR 0 ⟨0,0,0,0⟩
noncomputable def afW:aG->aG
 |lN e _ _ _=>e
 |e=>e
noncomputable def wordAt(ns:LN)(k:Nat):Nat:=((ns.drop k).take 8).foldl (λwd b=>2 * wd+b) 0
theorem HU(h1:cH e1=ab)(h2:cH e2=ab)(pos:cJ):jZ pos (js [e1,e2] J)=[(ab,a7 e1 J),(ab,a7 e2 J)]:=by rw[dq h1,dq h2];rfl
theorem v_{l:LN}(h:∀x∈l,x<2):∃bs:List Bool,l=bs.map Zh/\l.foldl (λwd b=>2 * wd+b) 0=B8 bs:=by
 have:∀(l:LN) (a:Nat),(∀x∈l,x<2)->∃bs:List Bool,l=bs.map Zh/\l.foldl (λwd b=>2 * wd+b) a=bs.foldl (λn b=>2 * n+(if b then 1 else 0)) a:=by
  intro l;induction l with
  |nil=>intro a _;show cn [] rfl Z
  |cons x l ih=>
   intro a h;have E:=h x au;show bf (ih (2 * a+x) λy hy=>h y au) λbs h1 h2=>?_;rcases(show x=0\/x=1 by lia) with rfl|rfl
   .show cn (ab::bs) (by rw[h1];rfl) h2
   .show cn (N::bs) (by rw[h1];rfl) h2
 show this l 0 h
theorem Zj(l:List Bool)(hl:l.length<=8):JoinOk "" (l.map λb=>strN (Zh b))=N:=by
 have:∀(l:List Bool) (a:Nat),(yi (λ(n:Nat) (x:aV)=>n+x.length+("" :aV).length) a (l.map λb=>strN (Zh b)))=a+l.length:=by
  intro l;induction l with
  |nil=>intro a;rfl
  |cons b l ih=>
   intro a;rw[ix,iw,ih];have:(strN (Zh b)).length=1:=by cases b<;>rfl
   simp[this];show yj a l.length
 delta JoinOk
 rw[List.foldl_toArray,this,qt]
 revert hl;generalize l.length=n;revert n;decide
theorem w_:∀(hh:dh A) (B:cx s.heap mg mb) (I:dQ mg mb) (X:(iE P t f).In s.heap) (hB:wo s.heap b dx d ns) (r:ER H s.heap (uC JQ) Y' s.heap Gx) (h1:ck Gx 110=O (k1,aH (R b))) (h2:ck Gx 92=O (k2,aT k)) (hk:k+8<=ns.length) (Ad:∀x∈ns,x<2),C A (a7 (afW JQ) Y') s (λy Y=>(∃tk,y=ag (ai (wordAt ns k)) tk)/\dG H s Y):=λhh B I X hB r h1 h2 hk Ad=>by
 have hI:=I ("int",ao "int") aL;have hM:=I ("map",ao "map") aL;have hS:=I ("str",ao "str") aL;have dM:=hB.ok.2;show fV (Lake.T.wX (eG B r (by decide+kernel) hI.1 hI.2 (by decide+kernel)) ?_);show dg (by rfl) ?_;rw[HU (by rfl) (by rfl)];show eu (cu (rX (by rfl) (by rfl) (by rfl) (cS (Ee λpl=>cS (GM.join ?_)))));show dg (by rfl) ?_;rw[l6 (by rfl)];have r2:ER H s.heap (uC JQ) Y' ({s with toks:=s.toks+1}:ae).heap Gx:=r;show eu (cu (fV (Lake.T.wX (eG B r2 (by decide+kernel) hM.1 hM.2 (by decide+kernel)) ?_)));show dg (by rfl) ?_;rw[HU (by rfl) (by rfl)];show eu (cu (Lake.T.wX (eG B r2 (by decide+kernel) hS.1 hS.2 (by decide+kernel)) ?_));have hw8:((ns.drop k).take (k+8 - k)).length=8:=by simp;lia
 have hb8:l8 ((ns.drop k).take (k+8 - k)):=⟨λx E=>hB.ok.1 x (ry (AH E)),by rw[hw8];decide⟩;have hk1:ai (k+8)=((k+8:Nat):Int):=rfl;have hk2:ai ns.length=(ns.length:Int):=rfl;show cu (Lake.T.wcE (BE (H:=H) (U:=s.heap) (fr:=N) (ns:=(ns.drop k).take (k+8 - k)) (ms:=b8 0 0) B.top
  (s_.list hh B I (by rfl) hb8 (Sm (a:=d) (k:=k) (m:=k+8) hB.dat hB.t3 hB.ok (V.data (x:=110) X hB.obj hB.Xt hB.t1 hB.t2 h1) (ar 92 h2) (fq (x:=k) (y:=8) (ar 92 h2) (aR 8)) au hk) (by rfl))
  (W6 (n:=ai (k+8) - ai ns.length) (k:=0) B.top (pB (n:=0) B.top (aR 0) (by rfl)) (lr (x:=ai (k+8)) (y:=ai ns.length) .sub (fq (x:=k) (y:=8) (ar 92 h2) (aR 8)) (uK B I (by rfl) hB.dat hB.t3 hB.ok (V.data (x:=110) X hB.obj hB.Xt hB.t1 hB.t2 h1) (by rfl)) Z) au au au)
  jx _ r2) λv s4 F4 e4 V4 _=>c8 (iI ⟨rfl,?_⟩))
 have aid:(ns.drop k).take (k+8 - k)++b8 0 0=(ns.drop k).take 8:=by simp[rF]
 rw[aid]at V4;have W9:((ns.drop k).take 8).length=8:=by simp;lia
 show iP V4 λl vs n F' dX _ hl V' _=>?_;subst dX;have IA:=intsAre_of V' (dS _);have hll:=cj hl;show cS (Ny (bU hl) (c8 (lV ⟨rfl,?_⟩)));have g3:(((s4.heap.push {cls:=ao "list_iterator",data:=bF #[R l,ag 0 0]}).push (cV [R s4.heap.objs.size] 0)).push (zd (s4.heap.objs.size+1))).get? (s4.heap.objs.size+2)=O (zd (s4.heap.objs.size+1)):=by have e:=bI ((s4.heap.push {cls:=ao "list_iterator",data:=bF #[R l,ag 0 0]}).push (cV [R s4.heap.objs.size] 0)) (o:=zd (s4.heap.objs.size+1)) Z;rw[dD,dD]at e;show e
 have g2:(((s4.heap.push {cls:=ao "list_iterator",data:=bF #[R l,ag 0 0]}).push (cV [R s4.heap.objs.size] 0)).push (zd (s4.heap.objs.size+1))).get? (s4.heap.objs.size+1)=O (cV [R s4.heap.objs.size] 0):=by have e:=bI (s4.heap.push {cls:=ao "list_iterator",data:=bF #[R l,ag 0 0]}) (o:=cV [R s4.heap.objs.size] 0) Z;rw[dD]at e;show aZ _ e
 have g1:(((s4.heap.push {cls:=ao "list_iterator",data:=bF #[R l,ag 0 0]}).push (cV [R s4.heap.objs.size] 0)).push (zd (s4.heap.objs.size+1))).get? s4.heap.objs.size=O {cls:=ao "list_iterator",data:=bF #[R l,ag 0 0]}:=
  aZ _ (aZ _ (bI _ Z))
 have g0:(((s4.heap.push {cls:=ao "list_iterator",data:=bF #[R l,ag 0 0]}).push (cV [R s4.heap.objs.size] 0)).push (zd (s4.heap.objs.size+1))).get? l=O (bp vs n):=
  aZ _ (aZ _ (aZ _ hl))
 have hsz:(((s4.heap.push {cls:=ao "list_iterator",data:=bF #[R l,ag 0 0]}).push (cV [R s4.heap.objs.size] 0)).push (zd (s4.heap.objs.size+1))).objs.size=s4.heap.objs.size+3:=by rw[dD,dD,dD]
 show bf (v_ (l:=(ns.drop k).take 8) λx E=>Ad x (ry (AH E))) λbs hbs aie=>?_;have hbl:bs.length=8:=by have:=congrArg List.length hbs;rw[W9,ig]at this;show this.symm
 show cS (Qi (ty:= "map") (x:= "") (n:=((ns.drop k).take 8).length)
  ((Walks.map (A:=A.in1.in1) (I:=s4.heap.objs.size+2) (T:=s4.heap.objs.size+1) (br:=s4.heap.objs.size) (l:=l) (k:=0) (items:=vs.toArray) (ns:=(ns.drop k).take 8) hh (oR (UP aL)) (yn _) (fB hll) (IA)
   (λx E=>f9 (Ad x (ry (AH E))) aL)).toS)
  (λi s st=>⟨_,st.1,rfl⟩) ⟨g3,g2,⟨_,g1,rfl,rfl⟩,bU g0⟩ (λb D=>?_) bw aL aL Sk Qh (λi v q=>eT q λn t _ e=>⟨_,_,e⟩) (λs5 lt m5 it5=>?_) (by rw[W9];decide))
 .rw [show({s4 with heap:=((s4.heap.push {cls:=ao "list_iterator",data:=bF #[R l,ag 0 0]}).push (cV [R s4.heap.objs.size] 0)).push (zd (s4.heap.objs.size+1))}:ae).heap.objs.size=s4.heap.objs.size+3 from hsz];apply tO D
  .show iZ _
  .show kX (iZ _)
  .show kX (kX (iZ _))
  .show kX (kX (kX hll))
 have jA:lt.map (·.1)=bs.map λb=>strN (Zh b):=by
  show fc it5 λq1 q2=>?_;have aif:lt.length=8:=by rw[W9]at q1;simpa[Av] using q1
  apply EM;intro j;by_cases hj:j<8
  .have e1:(Av lt).toArray[j]? =O (cO (lt[j]'au).1 (lt[j]'au).2):=by simp[Av,aif,hj]
   show eT (q2 j _ e1) λm tk h3 h4=>?_;rw[hbs,cZ]at h3;show bf (jb.mp h3) λbb h5 h6=>?_;rw[cZ,cZ,h5,dE au];injection h4 with h4 _
   simp only[Option.map_some,h4,<-h6]
  .rw [rx jx,rx jx]
 rw[jA];show⟨Zj bs au,λt6 k6=>?_⟩;have e46:dG H s {s5 with toks:=k6}:=by
  show⟨?_,m5.os.trans e4.os,m5.drawn.trans e4.drawn,?_⟩
  .have x4:gU H s.heap s4.heap:=e4.ext;have keep:∀b o,s4.heap.get? b=O o->s5.heap.get? b=O o:=λb o e=>m5.heap b o (λq=>by simp at q;show absurd (cj e) (by rw[q];show gv _)) (aZ _ (aZ _ (aZ _ e)))
   show x4.trans (.of_keep keep)
  .show Eq.trans m5.gens e4.gens
 have E:Txt.join "" (bs.map λb=>strN (Zh b))=⟨(bs.map xp).toArray⟩:=by rw[<-Zi];show StrLaws.glued_eq_join "" _
 rw[E];show cu (Lake.T.wcI (aR (H:=H) (U:=s.heap) (fr:=N) 2 _ (r.ext e46.ext)) λt7 s7 e7=>c8 (iI ⟨rfl,?_⟩));have aeP:EB ⟨(bs.map xp).toArray⟩=bs.map xp:=by
  unfold EB;rw[if_pos];rw[Vr];intro c hc;have hc:c∈bs.map xp:=by simpa using hc
  show bf (bH.mp hc) λbb _ qI=>?_;subst qI;cases bb<;>decide
 have x_:Au ⟨(bs.map xp).toArray⟩=bs.map xp:=by change(EB ⟨(bs.map xp).toArray⟩).takeWhile (· != 0)=_;rw[aeP];show HS bs
 have akN:(int_private% "readNumeral") 0 2 (Au ⟨(bs.map xp).toArray⟩)=(int_private% "Numeral.value") (B8 bs:Nat):=by rw[x_];apply ajP hbl;show o_
 show cS (Ku F.called_int F.newNe_int (HL _ _) (Jb _ _) (λobj=>args_object_init_3 obj _ _) PySem.F.entry_int_new (Qg (by rw[x_];simp[hbl]) akN (by rw[x_,aeP];show beq_self_eq_true _)).meets ⟨rfl,⟨s7.toks,?_⟩,?_⟩)
 .change ag (B8 bs:Nat) _=ag (ai (wordAt ns k)) _;unfold wordAt;rw[aie];rfl
 .show (e46.trans e7).trans (.toks _ _)
end
noncomputable def Qj(U:aQ):List af:=(aJ U.objs.size).filter λb=>(U.get? b).isSome && !(bX.contains b)
theorem Ca:b∈Qj U↔(∃o,U.get? b=O o)/\b∉bX:=by
 delta Qj
 rw[gq,dm];constructor
 .rintro ⟨_,h⟩;simp only[qw,vo,Uv,decide_eq_false_iff_not]at h;show⟨yq.mp h.1,h.2⟩
 .rintro ⟨⟨o,e⟩,h⟩;show⟨cj e,?_⟩;simp only[qw,vo,Uv,decide_eq_false_iff_not];show⟨by rw[e];rfl,h⟩
def xr(ns:LN):zw:=λi v _ _=>∃tk,v=ag (ai (wordAt ns (8 * i))) tk
theorem xr.back(ns:LN):zw.Back (xr ns):=λ_ _ _ _ _ _ h=>h
theorem ND(ns:LN):zw.DJ (xr ns):=λ_ _ _ _ _ _ _ _ h=>h
theorem dG.keeps(x:dG [] s Y):Keeps s Y:=by obtain⟨h',g',d',t',o'⟩:=Y;obtain⟨h1,h2,h3,h4⟩:=x;subst h2;subst h3;subst h4;show kK h' t' Z<|λb o e=>if ht:b∈bX then h1.quiet b o ht (mX) e else h1.keep b o ht e
theorem cx.kept(B:cx U mg mb)(k:∀b o,b∉bX->U.get? b=O o->h.get? b=O o):cx h mg mb where
 g:=B.g.at' λo e=>k _ o (DU Z) e
 b:=B.b.at' λo e=>k _ o (DU Z) e
 lim:=bf B.lim λmc wK M'=>cn mc (wK.at' λo e=>k _ o (DU Z) e) M'
 top:=dF B.top λo e=>⟨o,k _ o (DU Z) e⟩
 bmod:=l0 B.bmod λbm o e1 e2 e3 e4 e5=>ε bm o e1 e2 e3 (k bm o e3 e4) e5
theorem PS.akO(p:PS H U L J s [] (S.map (·.1)) G S Y)(cA:zY U S s.heap)(hT:gm U)(x1:gU H U s.heap):Aa H s Y where
 ext:=⟨λb o D e=>by
  by_cases hm:b∈S.map (·.1)
  .show bf (bH.mp hm) λy hy dX=>?_;subst dX;have:=(cA y hy).1;show aW (e.symm.trans this)▸(p.sg y hy).1
  .show p.mod.mod.keep b o (hm) D e,λb D ps e=>p.mod.mod.tab b D ps e,p.mod.mod.there,λb o D hq e=>by
  show dF (hT b D) λo1 e1=>?_;have:=x1.quiet b o1 D hq e1;obtain rfl:=aW (e.symm.trans this);show p.ext.quiet b o D hq e1⟩
 os:=p.mod.os
 drawn:=p.mod.drawn
 gens:=p.mod.gens
theorem Zk{e3:aG}(B:cx U mg mb)(I:dQ mg mb)(kQ:Gi L "range")(he1:V H U A L J G e1 (aT 0) ab)(Jg:cH e1=ab)(he2:V H U A L J G e2 (aT k) ab)(CI:cH e2=ab)(he3:V H U A L J G e3 (aT c) ab)(Ζ:cH e3=ab)(hc:c≠0)(hp:Fm (ai k - 0) (ai c)=ab)(hs:vp 0 (ai k) (ai c)=N)(hn:lR 0 (ai k) (ai c)=(n:Int))(r:ER H U L J s.heap G):
 T A (a7 (bx (aq (aB "range") np) [e1,e2,e3] [] pos) J) s (λx ax=>T A (gn x) ax (λit aP=>dG H s aP/\XD n (Gy (Dw 0 (ai c) n)) s it aP)):=by
 show mE ("range") ("range") B I aL kQ (rfl) (fJ.cons he1 (fJ.cons he2 (fJ.cons he3 fJ.nil Ζ) CI) Jg) (by simp[dW,Jg,CI,Ζ]) r λvs ax F e1 V1=>?_;apply Bo V1;intro v v3 v5 G1 G3 G5 V2 V4 V6;apply bM.zJ V2;show λt=>dF V4.toInt λt' dX=>dF V6.toInt λt'' qI=>dX▸qI▸call_range_3 (show ai c≠0 by intro q;show hc (Wv q)) ?_ (ak hp);show DM (e1.trans ⟨.push _ _,rfl,rfl,rfl⟩) (vB ..) hs hn
theorem afX(hp:fd.params=fu HT)(hd:fd.defaults=aA)(v:aa):dy fd ⟨[v],[]⟩=pure (([110].map NM).zip [v]):=by
 delta dy
 show hp.symm▸hd.symm▸?_;rfl
def ac5(U:aQ)(f:Nat->cq):Prop:=
 rb U 1984 (f 3) HT/\
 (f 3).defaults=aA/\
 (f 3).code=R 1983/\
 U.IsCode 1983 1979 #[]/\
 U.TableAt 1983 1979 #[]
protected theorem nY.size{a b:Array eV}(x:nY a b):a.size<=b.size:=by show ba (mu b.size a.size) (λh=>?_) λh=>h;have e:=x.1 b.size a[b.size] (vw h);rw[LX (ey _)]at e;cases e
theorem y_(hn:8 * (n+1)<=1000):Fm (ai (8 * (n+1)) - 0) (ai 8)=ab/\vp 0 (ai (8 * (n+1))) (ai 8)=N/\lR 0 (ai (8 * (n+1))) (ai 8)=((n+1:Nat):Int):=by
 have key:∀n,n<125->Fm (ai (8 * (n+1)) - 0) (ai 8)=ab/\vp 0 (ai (8 * (n+1))) (ai 8)=N/\lR 0 (ai (8 * (n+1))) (ai 8)=((n+1:Nat):Int):=by decide+kernel
 show key n au
theorem ac6(B:cx U mg mb)(I:dQ mg mb)(X:(iE P t f).In U)(dB:ac5 U f)(hT:gm U)(bK:A.depth<990)(pn:1979∉H)(kz:1979∈τ')(nO:∀b∈H,b∈τ')(x1:gU H U s.heap)(cA:zY U S s.heap)(yR:∀y∈ji b dx d ns,y∈S)(hn:l8 ns)(dM:ns.length=8 * (n+1))(Ad:∀x∈ns,x<2)(hq:∀Y a g aS Ia cl,Aa τ' s Y->s.gens.size<=g->(∀x∈[a,aS,Ia,cl],s.heap.get? x=ah/\x∉bX)->a≠aS->a≠Ia->kP Y.heap aS->kP Y.heap Ia->
 (∀A':bR,dh A'->lF A' a g aS (Qj U++[b,dx,d,cl,Ia]) [Ia] (n+1) (xr ns) 0 Y)->Q (R a) Y):
 C A (call (R 1984) [R b]) s Q:=by
 show jc dB λN1 N2 N3 N4 N5=>?_;have hP:1979∈bX:=by decide
 have hl:=hn.2;show hJ (y_ (n:=n) au) λhr1 hr2 hr3=>zx (S:=S) (avs:=[aH (R b)]) (us:=[R b]) (F:=[]) [110] B x1 au N1 Z Z Z (by rw[afX N1.params N2];show aC ⟨rfl,rfl⟩)
  (ej [] [] (.ik _) .nil) aL Z (by decide+kernel) cA λs2 br p=>(?_:C _ (aU [a9 (bg HT) 0,a9 (bg HT) 1] _) s2 _)
 show p.s1 (S1.m (z0 Z)) λs3 p3=>?_;have pe:=p3.akO cA hT x1;have hB:=p3.Hz yR hn;have r0:ER H U (bc HT) (gO (f 3) br 1984) s3.heap (qL [110] [aH (R b)]):=bf p3.fr λW r _=>r.er;have R9:ed (bc HT) (uC JQ) [110] [92]:=ed.of (by decide+kernel);show ij (Lake.T.wx (P:=λg Y=>∃v,g=cB v/\Q v Y) (xI ?_) λg Y q=>bf q λv e hv=>by show e▸?_;show hv);show JM (τ':=τ') (fs:=[110]) (K:=[92]) (P:=1979) B R9 Z (by decide+kernel) Z (by change A.depth+1<1000;lia) N3 aL N4 N5 hP pn kz nO r0
  (Zk (H:=H) (U:=s3.heap) (k:=8 * (n+1)) (c:=8) (n:=n+1) (p3.base B) I (by rfl) (aR 0) Z (V.to (uK (p3.base B) I (by rfl) hB.dat hB.t3 hB.ok (V.data (x:=110) (jm X p3.ext) hB.obj hB.Xt hB.t1 hB.t2 Z) Z) (by rw[dM])) Z (aR 8) Z aL hr1 hr2 hr3 p3.er) (λ_=>rfl) λit aP cl code aS a ib e2 hIt jB g=>dU g λg1 g2 g3 g4 _ g6 g7 afR=>jc afR λg8 g9 g10 g11 g12=>cn _ Z ?_
 obtain⟨Ia,St,rfl,hW,Nw,hIn,aih⟩:=hIt;have XE:∀i h,St i h->∃o,h.get? Ia=O o:=λi h st=>bf (aih i h st) λo e _=>⟨o,e⟩;have e2:dG H s3 aP:=e2;have x2:gU τ' s3.heap aP.heap:=e2.ext.up nO;have aii:∀x,aP.heap.get? x=ah->s.heap.get? x=ah:=λx e=>pe.ext.new (e2.ext.new e);have HD:∃o,aP.heap.get? Ia=O o:=XE _ _ Nw;have hIC:Ia≠aS:=λq=>by obtain⟨o,e⟩:=HD;rw[q,g8]at e;cases e
 have hIa:Ia≠a:=λq=>by obtain⟨o,e⟩:=HD;rw[q,g9]at e;cases e
 have hIP:Ia≠1979:=λq=>by show dF (hT 1979 hP) λo e=>dF (r0.base.there _ o e) λo' e'=>?_;rw[<-q,hIn]at e';cases e'
 have hIT:Ia∉bX:=λq=>by show dF (hT _ q) λo e=>dF (r0.base.there _ o e) λo' e'=>?_;rw[hIn]at e';cases e'
 show gC p3.fr λW3 r3 hW3 _=>?_;obtain⟨XO,aij,⟨vc,afY⟩,afZ,af0⟩:=r3.cell 110 Z;have af0:XO∈W3:=by
  rcases af0 with⟨av,q⟩|q
  .cases q
  .show q
 have akP:s.heap.get? XO=ah:=by show ba (hW3 _ af0) (λq=>?_) λq=>q;cases q
 have afY:s3.heap.IsCell XO (O (R b)):=by
  show eT (r0.has 110 0 (aH (R b)) Z) λvs Fs akQ hVs=>have evs:=hVs.DI;evs▸?_;rcases akQ with⟨hl,_⟩|⟨_,c,hc,ht,hv⟩
  .rcases r0.WH (NM 110) (ak Z) with q|q<;>rw[hl]at q<;>cases q
  .show aW (aij.symm.trans hc)▸hv
 have aik:∀x∈Qj U++[b,dx,d,XO,Ia],∃o,aP.heap.get? x=O o:=λx E=>by
  rcases bZ.mp E with q|q
  .obtain ⟨⟨o,e⟩,ht⟩:=Ca.mp q;show⟨o,(r0.base.trans e2.ext).keep x o ht e⟩
  .apply WE q
   .show e2.ext.there _ _ hB.obj
   .show e2.ext.there _ _ hB.Xt
   .show e2.ext.there _ _ hB.dat
   .show bf afY λo e _=>e2.ext.there _ _ e
   .show HD
 have WT:aS∉Qj U++[b,dx,d,XO,Ia]:=λq=>by show dF (aik aS q) λo e=>?_;rw[g8]at e;cases e
 have akR:∀x∈Qj U++[b,dx,d,XO,Ia],∃o,ib.heap.get? x=O o:=λx E=>dF (aik x E) λo e=>g1.there x o e;have hgl:nY s3.gens ib.gens:=by rw[g6,e2.gens];show l9.sv Z (.refl _ _)
 show hq ib a aP.gens.size aS Ia XO ⟨(pe.ext.up nO).trans (x2.trans g1),g2.trans (e2.os.trans pe.os),g3.trans (e2.drawn.trans pe.drawn),hgl.trans pe.gens⟩ (by show(e2.gens)▸?_;show p3.mod.gens.size) (λx E=>?_) g10 (eS hIa) ?_ ?_ λA' R8=>?_
 .apply tO E
  .show ⟨aii _ g9,g12⟩
  .show ⟨aii _ g8,g11⟩
  .show ⟨pe.ext.new hIn,hIT⟩
  .show ⟨akP,afZ⟩
 .show tN g7 λo es ep e q _=>cn o e (aw (ak ⟨es,ep,q⟩))
 .show bf (aih _ _ Nw) λo e q=>cn o (g4 Ia o hIP e) q
 show lF.made (A:=A') (x:=92) (n:=n) (xr.back ns) g R8 hW Nw XE hIP (B.zl ((r0.base.up nO).trans (x2.trans g1))) Z Z Z bw WT akR ?_;intro A2 i v s6 m6 hA2 hv hnm hm hk;obtain⟨k,tk,hk1,rfl⟩:=hv;show fc (o8.mp hk1) λhi WM=>?_;have WM:k=ai (8 * i):=by have e8:ai 8=(8:Int):=rfl;rw[e8]at WM;show((rfl:ai (8 * i)=((8 * i:Nat):Int)))▸?_;lia
 subst WM;have z_:∀x o,x∈Qj U++[b,dx,d,XO,Ia]->x∉bX->s3.heap.get? x=O o->s6.heap.get? x=O o:=λx o E ht e=>hk x E (λq=>by have q:=bJ.mp q;rw[q,hIn]at e;cases e) o (g1.keep x o ht (x2.keep x o ht e))
 have aeQ:∀x o,x∉bX->U.get? x=O o->s6.heap.get? x=O o:=λx o ht e=>z_ x o (de _ (Ca.mpr ⟨⟨o,e⟩,ht⟩)) ht (r0.base.keep x o ht e);have akS:s6.heap.IsCell XO (O (R b)):=bf afY λo e q=>(cn o (z_ XO o bw afZ e) q);have r6:ER [] s6.heap (uC JQ) (genEnv (uC JQ) cl aS code fY (gO (f 3) br 1984)) s6.heap (putAll (lC (qL [110] [aH (R b)]) [110]) [92] [ai (8 * i)]):={
  base:=.refl _
  kind:=R9.kind
  gl:=λy hy=>hy
  WH:=λy hy=>hy
  glob:=N1.glob
  bi:=rfl
  loc:=g11
  has:=λy k av e=>by
   rcases Dz (K:=[92]) (ks:=[ai (8 * i)]) Z e with⟨j,i',h1,h2,rfl,_⟩|⟨h1,h2⟩
   .cases j with
    |zero=>simp at h1 h2;show h1▸h2▸kK _ [] (ak ⟨R9.locs 92 bw,m6,hnm,hm⟩) (.ofInt _ _)
    |succ j=>show nomatch h1
   .show fc (GC h2) λh3 h4=>?_;obtain rfl:=bJ.mp h3;cases h4
    show kK (R b) [] (aw ⟨aw (R9.frees 110 bw).1,XO,?_,afZ,akS⟩) (.ik _);change cl.lookup (NM 110)=O XO;show(jB 110 bw)▸aij}
 show(w_ (H:=[]) (k:=8 * i) (k1:=0) (k2:=0) hA2 (B.kept aeQ) I (λx o e=>aeQ x o (PN P t f x o e) (X x o e)) ⟨z_ b _ bw hB.t1 hB.obj,z_ dx _ bw hB.t2 hB.Xt,z_ d _ bw hB.t3 hB.dat,hB.t1,hB.t2,hB.t3,hB.ok⟩ r6 Z Z au Ad).mono λy s7 q=>⟨q.1,q.2.keeps⟩
def lW(G:iB):Prop:=∀x k av,ck G x=O (k,av)->flat av=N
def ail(G:iB):Bool:=G.all λy=>flat y.2.2
theorem lW.of(h:ail G=N):lW G:=λx k av e=>by have:=By e;show mW.mp h _ this
def ko(o:bE):Bool:=gh o ||(match o.data with
 |bQ ..=>o.cls==ao "list"
 |_=>ab)
section
variable{H:List af}{U:aQ}
theorem Sn(e:h.get? a=O o)(hm:ko o=N):Ct h a\/kP h a:=by
 unfold ko at hm;show boC (gh o) (λq=>aw (r7 e q)) λq=>?_;rw[q,Bool.false_or]at hm;cases d:o.data with
 |seq vs n=>
  rw[d]at hm;have:o.cls=ao "list" :=by simpa using hm
  show ak (cn o e (ak ⟨this,vs,n,d⟩))
 |_=>have hm:=d▸hm;show II (by assumption)
theorem NF{v:Option aa}(hm:ko o=N)(e:o.data=oS v):False:=by unfold ko gh at hm;have hm:=e▸hm;show II (by assumption)
theorem FR.akT(r:FR H U U L J h G W)(hG:lW G)(x:gU H U h')(keep:∀b o,b∉wr->b∉bX->h.get? b=O o->h'.get? b=O o)(hw:∀b∈wr,(∃o,h.get? b=O o/\ko o=N)/\b∉bX/\b∉W):FR H U U L J h' G W:=
 r.ab4 r.b1 x (λb hb' o e=>keep b o (λq=>(hw b q).2.2 hb') (r.jh b hb').2.1 e)
  (λc v ht x=>Bf (λo q=>⟨keep c o (λz=>bf (hw c z).1 λo' e' d'=>NF d' (aW (q.1.symm.trans e')▸q.2)) ht q.1,q.2⟩) x)
  λy k av v F e aO=>aO.off (λb o hb' ht e'=>keep b o hb' ht e') (λb hb'=>bf (hw b hb').1 λo e1 e2=>Sn e1 e2) _ _ _ λb hb'=>by rw[cW.1 _ _ _ (hG y k av e) aO]at hb';show kM hb'
end
section
variable(H:List af)(U:aQ)
structure PL(L:dw)(J:cI)(aK:ae)(bo bu:List af)(G:iB)(S br:Sg)(Gs:List (Nat×eV))(s:ae):Prop where
 fr:∃W,FR H U U L J s.heap G W/\(∀b∈W,b∈bo\/aK.heap.get? b=ah)/\(∀p∈S,p.1∉W)/\∀p∈br,p.1∉W
 sg:zY U S s.heap
 lg:∀p∈br,s.heap.get? p.1=O p.2/\p.1∉bX/\aK.heap.get? p.1=ah/\U.get? p.1=ah/\p.1∉S.map (·.1)
 mod:sL (bo++bu) aK s
 lE:∀p∈S,p.1∈bu\/aK.heap.get? p.1=ah
 gk:∀p∈Gs,s.gens[p.1]? =O p.2/\aK.gens.size<=p.1
end
section
variable{H:List af}{U:aQ}
protected theorem PL.ps(p:PL H U L J aK bo bu G S br Gs s):PS H U L J aK bo bu G S s:=⟨lZ p.fr λW r a b _=>(kJ W r a b),p.sg,p.mod,p.lE⟩
protected theorem PS.pl(p:PS H U L J aK bo bu G S s):PL H U L J aK bo bu G S [] [] s:=⟨gC p.fr λW r a b=>(wC W r a b (zi)),p.sg,(zi),p.mod,p.lE,(zi)⟩
theorem PL.getL(p:PL H U L J aK bo bu G S br Gs s)(h:(a,o)∈br):s.heap.get? a=O o:=(p.lg _ h).1
theorem PL.open(p:PL H U L J aK bo bu G S br Gs s):∃W,PS H U L J s W (S.map (·.1)) G S s/\
 ∀τ' G' S' Y,PS τ' U L J s W (S.map (·.1)) G' S' Y->PL τ' U L J aK bo bu G' S' br Gs Y:=by
 show lZ p.fr λW r h1 h2 h3=>cn W (⟨⟨W,r,λb D=>ak D,h2⟩,p.sg,.refl _ _,λx E=>ak (bH.mpr ⟨x,E,rfl⟩)⟩)<|λτ' G' S' Y q=>have D:=p.ps.back h1 q;gC q.fr λW' r' a1 a2=>?_;have kL:∀y∈br,y.1∉W++S.map (·.1):=λy hy hm=>ba (bZ.mp hm) (λe=>h3 y hy e) λe=>(p.lg y hy).2.2.2.2 e;show⟨(wC W' r' (λb hb'=>ba (a1 b hb') (λe=>h1 b e) λe=>aw (p.mod.mod.new e)) a2 (λy hy hw=>?_)),q.sg,λy hy=>?_,D.mod,D.lE,λy hy=>fc (p.gk y hy) λg1 g2=>⟨q.mod.gens.1 _ _ g1,g2⟩⟩
 .rcases a1 _ hw with e|e
  .show h3 y hy e
  .have e:=((p.lg y hy).1).symm.trans e;ext
 .show jc (p.lg y hy) λb1 b2 b3 b4 b5=>((Yv (q.mod.mod.keep _ _ (kL y hy) b2 b1) b2 b3 b4 (λhm=>?_)));show bf (bH.mp hm) λz hz e=>?_;rcases q.lE z hz with k|k
  .rw [e]at k;show b5 k
  .have k:=b1▸e▸k;ext
theorem PL.aeR(p:PL H U L J aK bo bu G S br Gs s)(hT:gm U)(keep:∀b o,b∉X->s.heap.get? b=O o->Y.heap.get? b=O o)(os:Y.os=s.os)(drawn:Y.drawn=s.drawn)(gens:nY aK.gens Y.gens)(hX:∀b∈X,∃o,(b,o)∈br)(hL:∀y∈L',(y.1∈br.map (·.1)\/s.heap.get? y.1=ah)/\Y.heap.get? y.1=O y.2)(hGs:∀y∈Yt,Y.gens[y.1]? =O y.2/\aK.gens.size<=y.1)(hf:∀W,FR H U U L J s.heap G W->(∀b∈X,b∉bX/\b∉W)->gU H U Y.heap->FR H U U L J Y.heap G W):PL H U L J aK bo bu G S L' Yt Y:=by
 show lZ p.fr λW r h1 h2 h3=>?_;have hXn:∀b∈X,b∉bX/\aK.heap.get? b=ah/\U.get? b=ah/\b∉S.map (·.1)/\b∉W:=λb D=>dF (hX b D) λo ho=>jc (p.lg _ ho) λ_ b2 b3 b4 b5=>Yv b2 b3 b4 b5 (h3 _ ho);have x':gU H U Y.heap:=by
  have x:=p.ps.ext;have hn:∀b o,U.get? b=O o->b∉X:=λb o e q=>by have e:=((hXn b q).2.2.1)▸e;ext
  show⟨λb o D e=>keep b o (hn b o e) (x.keep b o D e),λb D ps e=>dF (x.tab b D ps e) λmore e'=>⟨more,keep b _ (hn b _ e) e'⟩,λb o e=>dF (x.there b o e) λo' e'=>⟨o',keep b o' (hn b o e) e'⟩,λb o D hq e=>keep b o (hn b o e) (x.quiet b o D hq e)⟩
 have akU:∀b,s.heap.get? b=ah->b∉W:=λb e hw=>by show oX (r.jh b hw) λ_ _ o e' _=>?_;have e':=e▸e';ext
 show⟨(wC W (hf W r (λb D=>⟨(hXn b D).1,(hXn b D).2.2.2.2⟩) x') h1 h2 (λy hy=>?_)),λy hy=>iL (p.sg y hy) λc1 c2 c3 c4=>rT (keep _ _ (λq=>(hXn _ q).2.2.2.1 (bH.mpr ⟨y,hy,rfl⟩)) c1) c2 c3 c4,λy hy=>?_,⟨⟨λb o D ht e=>?_,λb D ps e=>dF (p.mod.mod.tab b D ps e) λmore e'=>⟨more,keep b _ (λq=>(hXn b q).1 D) e'⟩,λb o e=>dF (p.mod.mod.there b o e) λo' e'=>⟨o',keep b o' (λq=>by rw[(hXn b q).2.1]at e;ext) e'⟩⟩,os.trans p.mod.os,drawn.trans p.mod.drawn,gens⟩,p.lE,hGs⟩
 .show ba ((hL y hy).1) (λe=>bf (bH.mp e) λz hz e=>e▸h3 z hz) λe=>akU _ e
 .show ⟨(hL y hy).2,?_⟩;show ba ((hL y hy).1) (λe=>bf (bH.mp e) λz hz e=>e▸(p.lg z hz).2) λe=>?_;show rT (λq=>?_) (p.mod.mod.new e) (p.ps.ext.new e) (λq=>?_)
  .show dF (hT _ q) λo e1=>(dF (p.ps.ext.there _ o e1) λo' e2=>?_);have e2:=e.symm.trans e2;ext
  .show bf (bH.mp q) λz hz e1=>?_;have e:=((p.sg z hz).1)▸e1.symm▸e;ext
 .show keep b o (λq=>?_) (p.mod.mod.keep b o D ht e);rw[(hXn b q).2.1]at e;ext
theorem PL.move(p:PL H U L J aK bo bu G S br Gs s)(hG:lW G)(hT:gm U)(keep:∀b o,b∉X->s.heap.get? b=O o->Y.heap.get? b=O o)(os:Y.os=s.os)(drawn:Y.drawn=s.drawn)(gens:nY aK.gens Y.gens)(hX:∀b∈X,∃o,(b,o)∈br/\ko o=N)(hL:∀y∈L',(y.1∈br.map (·.1)\/s.heap.get? y.1=ah)/\Y.heap.get? y.1=O y.2)(hGs:∀y∈Yt,Y.gens[y.1]? =O y.2/\aK.gens.size<=y.1):PL H U L J aK bo bu G S L' Yt Y:=
 p.aeR hT keep os drawn gens (λb D=>bf (hX b D) λo ho _=>⟨o,ho⟩) hL hGs λ_ r hn x'=>r.akT hG x' (λb o D _ e=>keep b o D e) λb D=>bf (hX b D) λo ho hm=>⟨⟨o,(p.lg _ ho).1,hm⟩,hn b D⟩
end
def jn:cg:=dP 22
theorem Ae{Q:cb->ae->Prop}(hs:fz e (O (aq (NM x) q)) pos.line J=pure ab)(he:C A (a7 e J) s (λv ax=>C A (As J (NM x) v) ax (λ_ Y=>Q cL Y))):C A (oJ (ez [aq (NM x) q] e pos) J) s Q:=by rw[T6 J (NM x) q e pos hs];show C.bind (C.standAt (C.bind (he.mono λv ax U=>C.bind (C.standAt (C.bind (C.bindName (U.mono λ_ _ ku=>C.pure ku)))))))
section
variable{Q:cb->ae->Prop}
theorem HV(x:kP h a)(e:h.get? a=O o):gh o=N:=by
 show bf x λo' e' hd=>aW (e.symm.trans e')▸?_
 delta gh
 rcases hd with⟨ws,d,hn⟩|⟨es,n,d⟩|⟨bs,n,d⟩|d<;>rw[d]
 change(match ws[1]? with|some (cO _ _)=>ab |_=>N)=N;cases q:ws[1]? with
 |none=>rfl
 |some u=>cases u<;>first|rfl|show absurd q (hn _ _)
theorem HW(h:gh o=N):ko o=N:=by delta ko;rw[h];rfl
theorem lF.later{F:zw}(x:lF A a g aS fp wr n₀ F j s)(xm:cG∈fp)(hk:∀b∈a::aS::fp,∀o,s.heap.get? b=O o->Y.heap.get? b=O o)(hg:∀gs,s.gens[g]? =O gs->Y.gens[g]? =O gs):lF A a g aS fp wr n₀ F j Y where
 gen:=ff x.gen λo nm qn ho r=>Bj o nm qn (hk a (cR ..) o ho) r
 lim:=bf x.lim λmc wK M'=>cn mc (wK.at' λo e=>hk cG (bY _ (bY _ xm)) o e) M'
 there:=λb D=>dF (x.there b D) λo e=>⟨o,hk b (bY _ D) o e⟩
 go:=bf x.go λgs Q2 PT=>cn gs (hg gs Q2) (λnG CS=>PT nG λb D o e=>CS b D o (hk b (bY _ D) o e))
def A_(U:aQ)(ns:LN)(b dx d a:af)(g:Nat)(aS Ia cl:af)(n:Nat)(oa oC oI So:bE)(gs:eV):Prop:=
 ∀s:ae,(∀x o,x∉bX->U.get? x=O o->s.heap.get? x=O o)->(∀y∈[(a,oa),(aS,oC),(Ia,oI),(cl,So)],s.heap.get? y.1=O y.2)->(∀y∈ji b dx d ns,s.heap.get? y.1=O y.2)->
  s.gens[g]? =O gs->∀A':bR,dh A'->lF A' a g aS (Qj U++[b,dx,d,cl,Ia]) [Ia] n (xr ns) 0 s
theorem aim(hh:dh A)(B:cx U mg mb)(I:dQ mg mb)(X:(iE P t f).In U)(dB:ac5 U f)(hT:gm U)(bK:A.depth<900)(pn:1979∉H)(kz:1979∈τ')(nO:∀b∈H,b∈τ')(p:PS H U (bc jn) J aK bo bu G S s)(dH:bT G 71=N)(h82:ck G 82=O (k1,aH (R b)))(yR:∀y∈ji b dx d ns,y∈S)(hn:l8 ns)(dM:ns.length=8 * (n+1))(Ad:∀x∈ns,x<2)(kk:∀Y a g aS Ia cl oa oC oI So gs,a≠aS->a≠Ia->ko oC=N->ko oI=N->A_ U ns b dx d a g aS Ia cl (n+1) oa oC oI So gs->
 PL τ' U (bc jn) J aK bo bu (jk G 71 0 (aH (R a))) S [(a,oa),(aS,oC),(Ia,oI),(cl,So)] [(g,gs)] Y->C A (aU rest J) Y Q):
 C A (aU (a9 (bg jn) 1::rest) J) s Q:=by
 show gC p.fr λW r hW hd=>ij<|Ae (x:=71) Z<|HI X p (ar 82 h82) yR hn acP ϭ Z dB.1 Z Z Z λs1 e1=>have p1:=p.grow e1;B3 ⟨⟨H,p1.ext⟩,?_⟩;show ac6 (H:=H) (τ':=τ') (S:=S) (n:=n) B I X dB hT au pn kz nO p1.ext p1.sg yR hn dM Ad λs5 a g aS Ia cl e5 hg5 nN DL haI hC hI za=>?_;have ain:∀x∈[a,aS,Ia,cl],s.heap.get? x=ah:=λx E=>e1.ext.new (nN x E).1;have φ:∀x∈[a,aS,Ia,cl],x∉W:=λx E hw=>by show dF ((λb hb'=>bf (r.jh b hb').2.2 λo e _=>⟨o,e⟩:∀b∈W,∃o,s.heap.get? b=O o) x hw) λo e=>?_;have e:=(ain x E).symm.trans e;ext
 show Lake.T.wc2 (kh (((r.grow e1.ext).up nO).grow e5.ext) (ak Z) dH (.ik (R a)) (.flat Z)) λ_ s6 r6 m6=>ff ((za A hh).gen) λoa _ _ ea _=>bf hC λoC eC dC=>bf hI λoI eI dI=>dF ((za A hh).there cl bw) λSo ecl=>bf ((za A hh).go) λgs Q2 _=>?_;have aeS:∀y∈[(a,oa),(aS,oC),(Ia,oI),(cl,So)],s5.heap.get? y.1=O y.2/\y.1∈[a,aS,Ia,cl]:=λy hy=>by
  apply tO hy
  .show ⟨ea,by ext⟩
  .show ⟨eC,by ext⟩
  .show ⟨eI,by ext⟩
  .show ⟨ecl,by ext⟩
 show kk s6 a g aS Ia cl oa oC oI So gs DL haI (HW (HV (cn oC eC dC) eC)) (HW (HV (cn oI eI dI) eI)) (λs2 k1 k2 k3 k4 A' R8=>?_) ?_
 .show (za A' R8).later (de _ (Ca.mpr ⟨?_,DU Z⟩)) (λx E o e=>?_) λXx e=>by replace e:=Q2▸e;show e▸?_;show k4
  .show bf B.lim λmc i1 _=>ff i1 λo _ _ e _=>⟨o,e⟩
  have inL:∀x o,x∈[a,aS,Ia,cl]->s5.heap.get? x=O o->s2.heap.get? x=O o:=λx o E=>by
   apply tO E<;>intro e
   .show aW (ea.symm.trans e)▸k2 (a,oa) bw
   .show aW (eC.symm.trans e)▸k2 (aS,oC) bw
   .show aW (eI.symm.trans e)▸k2 (Ia,oI) bw
   .show aW (ecl.symm.trans e)▸k2 (cl,So) bw
  have inB:∀y∈ji b dx d ns,∀o,s5.heap.get? y.1=O o->s2.heap.get? y.1=O o:=λy hy o e=>hJ (p1.sg y (yR y hy)) λc1 c2 _=>(aW ((e5.ext.keep _ _ c2 c1).symm.trans e)▸k3 y hy);rcases bq.mp E with q|E
  .show inL x o bw e
  rcases bq.mp E with q|E
  .show inL x o bw e
  rcases bZ.mp E with q|E
  .obtain ⟨⟨o',e'⟩,ht⟩:=Ca.mp q;show aW ((((p1.ext.up nO).trans e5.ext).keep _ _ ht e').symm.trans e)▸k1 x _ ht e'
  .revert e
   apply WE E<;>intro e
   .show inB (b,qZ dx d) (by delta ji;ext) o e
   .show inB (dx,iA) (by delta ji;ext) o e
   .show inB (d,kF ns) (by delta ji;ext) o e
   .show inL cl o bw e
   .show inL Ia o bw e
 .have p5:=(p1.up nO).XF e5;show⟨(wC W r6 hW hd (λy hy=>φ _ (aeS y hy).2)),p5.sg.mod m6.mod hd,λy hy=>?_,p5.mod.trans m6.p λx E=>ba (hW x E) (λq=>ak (de _ q)) λq=>aw q,p.lE,λy hy=>?_⟩
  .show fc (aeS y hy) λh1 h2=>fc (nN _ h2) λn1 n2=>have n3:=ain _ h2;Yv ((λx o E ht e=>m6.mod.keep x o E ht e) _ _ (φ _ h2) n2 h1) n2 (p.mod.mod.new n3) (p.ext.new n3)<|λhm=>bf (bH.mp hm) λz hz e=>?_;have n3:=((p.sg z hz).1)▸e.symm▸n3;ext
  .apply jR hy;show⟨m6.gens▸Q2,bj p.mod.gens.size (bj ?_ hg5)⟩;rw[e1.gens];show ey _
end
noncomputable def jo(vs:List aa):bE:={cls:=ao "list",data:=bQ vs.toArray}
section
variable{Q:cb->ae->Prop}
theorem PL.store(p:PL H U L J aK bo bu G S br Gs s)(E:Hx L x)(dH:bT G x=N)(aO:bM s.heap av v []):
 T A (As J (NM x) v) s (λ_ Y=>PL H U L J aK bo bu (jk G x 0 av) S br Gs Y):=bf p.open λW ps back=>bf ps.fr λW' r hW=>(kh r E dH aO (.flat Z)).Cx λ_ Y r' m=>back _ _ _ _ (ps.step r hW m r' λd hd=>ak hd)
protected theorem PL.scope(p:PL H U L J aK bo bu G S br Gs s):J.scope=L:=bf p.fr λ_ r _=>r.scope
theorem PL.aeT(p:PL H U L J aK bo bu G S br Gs s)(hG:lW G)(hT:gm U)(x:uk s.heap h'){dB:Sg}(hN:∀y∈dB,s.heap.get? y.1=ah/\h'.get? y.1=O y.2):
 PL H U L J aK bo bu G S (dB++br) Gs {s with heap:=h',toks:=tk}:=
 p.move hG hT (X:=[]) (λb o _ e=>x b o e) Z Z p.mod.gens (λb D=>kM D) (λy hy=>by
  rcases bZ.mp hy with q|q
  .show ⟨aw (hN y q).1,(hN y q).2⟩
  .show ⟨ak (bH.mpr (cn y q Z)),x _ _ (p.getL q)⟩) p.gk
noncomputable def akV:cg->List aG
 |ez t _ _=>t
 |_=>[]
noncomputable def akW:cg->aG
 |ez _ v _=>v
 |_=>fL rR 0 ⟨0,0,0,0⟩
theorem ac7(hs:J.scope=bc jn):u4 (akV (a9 (bg jn) 2)) (akW (a9 (bg jn) 2)) J=pure (O [NM 85,NM 86]):=by
 cases J
 dsimp at hs;subst hs;ext
theorem Jh(h:bT (jk G x 0 av) y=N):bT (jk G x 0 mI) y=N:=by
 unfold bT at h ⊢;rw[fH]at h ⊢;by_cases e:y=x
 .rw [if_pos e];rfl
 .rw [if_neg e]at h ⊢;show h
theorem aio(hh:dh A)(hT:gm U)(p:PL H U (bc jn) J aK bo bu G S br Gs s)(hG:lW G)(h85:bT G 86=N)(h86:bT (jk G 86 0 oZ) 85=N)(kk:∀Y l1 l2,l1≠l2->(∀y∈br,y.1≠l1/\y.1≠l2)->PL H U (bc jn) J aK bo bu (jk (jk G 86 0 (aH (R l2))) 85 0 (aH (R l1))) S ((l1,jo [])::(l2,jo [])::br) Gs Y->C A (aU rest J) Y Q):
 C A (aU (a9 (bg jn) 2::rest) J) s Q:=by
 show ij (T.wx (P:=λg Y=>g=cL/\∃l1 l2,l1≠l2/\(∀y∈br,y.1≠l1/\y.1≠l2)/\PL H U (bc jn) J aK bo bu (jk (jk G 86 0 (aH (R l2))) 85 0 (aH (R l1))) S ((l1,jo [])::(l2,jo [])::br) Gs Y) ?_ λg Y q=>jy q.2 λl1 l2 h1 h2 h3=>by show q.1▸?_;show kk Y l1 l2 h1 h2 h3);show Assign_Tuple_swapped ?_ Z (ac7 p.scope);show Er (Ff (Kz (Fg ⟨by decide,?_⟩)) Z);show Ff (Kz (Fg ⟨by decide,?_⟩)) Z;show Fg ⟨(by decide:2<=eN),?_⟩;have e1:(s.heap.push (jo [])).objs.size=s.heap.objs.size+1:=dD ..;show wpAny_unpackItems_tuple hh (items:=#[R s.heap.objs.size,R (s.heap.push (jo [])).objs.size]) ⟨_,bI _ Z,rfl,0,rfl⟩ λh' he=>?_;have up:=λb o e=>
  have e':=aZ ({cls:=ao "tuple",data:=bQ ([R s.heap.objs.size,R (s.heap.push (jo [])).objs.size]:List aa).toArray}:bE) e
  he b o (fB (cj e')) e'
 have n1:s.heap.get? s.heap.objs.size=ah:=bz _;have n2:s.heap.get? (s.heap.push (jo [])).objs.size=ah:=by
  rw[e1];cases q:s.heap.get? (s.heap.objs.size+1) with
  |none=>rfl
  |some o=>show absurd (cj q) (j5.mpr (lQ _))
 have hL:∀y∈br,y.1≠s.heap.objs.size/\y.1≠(s.heap.push (jo [])).objs.size:=λy hy=>by show⟨λq=>?_,λq=>?_⟩<;>(have:=p.getL hy;have this:=q▸this;first|(have this:=n1.symm.trans this;ext)|(have this:=n2.symm.trans this;ext))
 have p1:=p.aeT (tk:=s.toks) (dB:=[(s.heap.objs.size,jo []),((s.heap.push (jo [])).objs.size,jo [])]) hG hT (λb o e=>up b o (aZ _ (aZ _ e))) λy hy=>by
  apply se hy
  .show ⟨n1,up _ _ (aZ _ (bI _ Z))⟩
  .show ⟨n2,up _ _ (bI _ Z)⟩
 show aj<|cQ<|Ej<|(p1.store (ak Z) h85 (.ik _)).wp λ_ s4 p4=>aj<|cQ<|Ej<|(p4.store (ak Z) (Jh h86) (.ik _)).wp λ_ s5 p5=>aC ⟨rfl,_,_,(by rw[e1];show(yn _).symm),hL,p5⟩
end
section
set_option backward.match.sparseCases true
noncomputable def nW(id:String)(v:aa):bE:={cls:=ao "builtin_function_or_method",data:=bF #[bB id,v]}
theorem NG:lM "method_descriptor" "__get__" "method_descriptor.__get__" :=
 nt (owner:= "method_descriptor") (n:= "__get__") (rfl) (rfl) (rfl) (rfl)
  (by first|show ak (rfl)|show .inr (rfl)) (rfl)
theorem af1:fZ (ao "method_descriptor") "__set__" =pure ah:=by ext
theorem af2:fZ (ao "method_descriptor") "__delete__" =pure ah:=by ext
theorem B_:gQ table "method_descriptor.__get__" =O Builtin.«method_descriptor.__get__»:=mi (rfl)
theorem ac8(a b c:aa):j0 "method_descriptor.__get__" ⟨[a,b,c],[]⟩:=by ext
theorem ac9(a:af):qj (Builtin.«method_descriptor.__get__» ⟨[bB "list.append",R a,ao "list"],[]⟩) (λA aN s=>s.TypeIs (R a) "list" /\aN (bW (cB (R s.heap.objs.size))) {s with heap:=s.heap.push (nW "list.append" (R a))}):=
 qC λprog w A aN s hs=>by
  obtain⟨hp,g,d,tk,os⟩:=s;show fc hs λhT hs=>?_;repeat (any_goals (first|assumption|wp_step))
  show iq sub_list_self ?_;show aC ?_;show aj (ip ?_ (by size_fits));show aC ⟨_,rfl,hs⟩
theorem xt(a:af)(K:Array aa)(k:Nat)(sl:Array (Option aa))(u:a8):
 qj (Builtin.«object.__getattribute__» ⟨[R a,cO "append" u],[]⟩) (λA aN s=>s.heap.get? a=O {cls:=ao "list",dict:=ah,data:=bQ K k,slots:=sl}/\aN (bW (cB (R s.heap.objs.size))) {s with heap:=s.heap.push (nW "list.append" (R a))}):=
 qC λprog w A aN s hs=>by
  obtain⟨hp,g,d,tk,os⟩:=s;show fc hs λE hs=>?_;have hT:(⟨hp,g,d,tk,os⟩:ae).TypeIs (R a) "list" :=⟨_,E,rfl⟩;have l1:=slot_list_append.lookup;have l2:=type_list_append;have l3:=NG.lookup;have l4:=af1;have l5:=af2;unfold Builtin.«object.__getattribute__»;repeat (any_goals (first|assumption|wp_step))
  show xF NG.plain B_ (NG.check _ _ _ _ _ _ _ _ l2 (ac8 _ _ _) ?_);show ac9 a prog w A.in1 (λr Y=>match r with|bW (cB v)=>aE (aD prog w) A.in1 (ret v) (λy8 Y=>∃v,y8=nr (cB v)/\aN (bW (cB v)) Y) (λe Y=>aN (j6 e) Y) Y|bW _=>False|j6 e=>aN (j6 e) Y) _ ?_;show⟨hT,?_⟩;show aC ⟨_,rfl,hs⟩
theorem HX{K:Array aa}{sl:Array (Option aa)}{ex:Bool}(E:s.heap.get? a=O {cls:=ao "list",dict:=ah,data:=bQ K k,slots:=sl})(h:∀tk,Q (R s.heap.objs.size) {s with heap:=s.heap.push (nW "list.append" (R a)),toks:=tk}):aE (aD prog w) A (getAttr (R a) "append" ex) Q a0 s:=by
 obtain⟨hp,g,d,tk,os⟩:=s;have hT:∀tk',(⟨hp,g,d,tk',os⟩:ae).TypeIs (R a) "list" :=λ_=>cn _ E Z;have f3:=Ft.lookup;have f4:=Ft.bind (R a);repeat (any_goals (first|assumption|show hT _|((with_reducible change aE _ _ (call (bB "list.__getattribute__") _ _) _ _ _);show oB Ft (hT _) TA (VK _ _) (xt a K k sl _) ⟨E,?_⟩)|wp_step))
 rw[if_neg (by cases ex<;>decide)];repeat (any_goals (first|assumption|show hT _|((with_reducible change aE _ _ (call (bB "list.__getattribute__") _ _) _ _ _);show oB Ft (hT _) TA (VK _ _) (xt a K k sl _) ⟨E,?_⟩)|wp_step))
 show aC (h _)
end
theorem HY:oF (ao "list") (ao "module")=pure ab:=by ext
section
variable{Q:cb->ae->Prop}
theorem PL.er(p:PL H U L J aK bo bu G S br Gs s):ER H s.heap L J s.heap G:=p.ps.er
theorem Qk(hT:gm U)(p:PL H U L J aK bo bu G S br Gs s)(hG:lW G)(hy:ck G y=O (k,aH (R l)))(hl:(l,bp vs n)∈br)(dH:bT G x=N)(E:Hx L x)(hs:fz (gZ (aq (NM y) p1) "append" p2) (O (aq (NM x) q)) pos.line J=pure ab)(kk:∀Y m,(∀z∈br,z.1≠m)->PL H U L J aK bo bu (jk G x 0 (aH (R m))) S ((m,nW "list.append" (R l))::br) Gs Y->C A (aU rest J) Y Q):
 C A (aU (ez [aq (NM x) q] (gZ (aq (NM y) p1) "append" p2) pos::rest) J) s Q:=by
 show ij<|Ae hs<|cS<|Fe<|T.Dt (um p.er hy)<|HX (p.getL hl) λtk=>?_;have p1:=p.aeT (h':=s.heap.push (nW "list.append" (R l))) (tk:=tk) (dB:=[(s.heap.objs.size,nW "list.append" (R l))]) hG hT (λb o e=>aZ _ e) λy hy=>by apply jR hy;show⟨bz _,bI _ Z⟩
 show T.wx (p1.store E dH (.ik _)) λ_ s5 p5=>(kk s5 _ (λz hz q=>?_) p5);have:=cj (p.getL hz);rw[q]at this;show gv _ this
theorem C_{m:af}{Q:aa->ae->Prop}:∀{s:ae} (hm:s.heap.get? m=O (nW "list.append" (R l))) (hl:s.heap.get? l=O (bp vs n)) (hv:vs.length<=1000) (h:Q aA {s with heap:=s.heap.update l (dO (·.push v))}),aE (aD prog w) A (call (R m) [v]) Q a0 s:=λ{s} hm hl hv h=>by
 have hT:s.TypeIs (R l) "list" :=⟨_,hl,rfl⟩;show kU (xN ?_);show aj (jY hm ?_);change aE _ A.in1 (do checkBoundCall "list.append" ⟨[R l,v],[]⟩;return<-again (fE "list.append" ⟨[R l,v],[]⟩)) _ _ s;unfold checkBoundCall;have f1:=HY;obtain⟨hp,g,d,tk,os⟩:=s;repeat (any_goals (first|assumption|wp_step))
 show⟨AZ _ bG,qh PySem.F.entry_list_append ?_⟩;change aE _ _ (updateSeq l (·.push v)>>=λ_=>ret aA) _ _ _;show aj (uX hl Z (aC h) (by have:eN=16777216:=jX;simp;lia) (by have:eN=16777216:=jX;simp;lia))
theorem D_(hl:h.get? l=O (bp vs n)):∃n',(h.update l (dO (·.push v))).get? l=O (bp (vs++[v]) n'):=by show⟨n+1,?_⟩;rw[ie _ hl Z];simp[bp,dO]
theorem XP{m l:Nat}(hT:gm U)(p:PL H U L J aK bo bu G S br Gs s)(hG:lW G)(E:ck G x=O (k,aH (R m)))(hm:(m,nW "list.append" (R l))∈br)(hl:(l,bp vs n)∈br)(hv:vs.length<=1000)(dH:cH e=ab)(hi:iJ J=ab)(hs:fz (bx (aq (NM x) np) [e] [] cpos) ah pos.line J=pure ab)(he:∀W,PS H U L J s W (S.map (·.1)) G S s->C A (a7 e J) s (λv ax=>∃S',PS H U L J s W (S.map (·.1)) G S' ax/\
 ∀Y n',PL H U L J aK bo bu G S' ((br.filter λy=>y.1 != l)++[(l,bp (vs++[v]) n')]) Gs Y->C A (aU rest J) Y Q)):
 C A (aU (qy (bx (aq (NM x) np) [e] [] cpos) pos::rest) J) s Q:=by
 show zZ hi hs (fV (T.wcV (wb p.er E) λfv F aO=>?_));apply bM.Gg aO;show dg (by rw[l6 dH];rfl) ?_;rw[l6 dH];show bf p.open λW ps back=>eu<|cu<|(he W ps).mono λv s2 qQ=>bf qQ λS' p2 hk=>c8<|have q2:=back _ _ _ _ p2;have hm2:=q2.getL hm;have hl2:=q2.getL hl;cS<|aj<|jY hm2<|aC ⟨rfl,cS (C_ hm2 hl2 hv ⟨rfl,?_⟩)⟩;show dF (D_ (v:=v) hl2) λn' wu=>have Zd:∀b o,b≠l->s2.heap.get? b=O o->(s2.heap.update l (dO (·.push v))).get? b=O o:=λb o D e=>(mr _ _ (eS D)).trans e;hk _ n' (q2.move hG hT (X:=[l]) (λb o D e=>Zd b o (vE D) e) Z Z q2.mod.gens (λb D=>by have D:=bJ.mp D;show D▸?_;show cn _ hl Z) (λy hy=>?_) q2.gk)
 .rcases bZ.mp hy with q|q
  .show fc (gq.mp q) λh1 h2=>⟨ak (bH.mpr (cn y h1 Z)),Zd _ _ (by simpa using h2) (q2.getL h1)⟩
  .apply jR q;show⟨ak (bH.mpr (cn _ hl Z)),wu⟩
end
section
open PySem.Builtin PySem.Builtin.ObjectAttr
set_option maxHeartbeats 1000000
theorem ada(P:cf)(t:Nat->a8)(fd:cq):∀a o,(y7 P t fd).lookup a=O o->a∉bX:=by
 intro a o e;have:∀x∈([135,60,134,59,123,126,129,124,127,130,43]:List af),x∉bX:=by decide
 show this a (Hu e)
theorem Cb(X:(y7 P t fd).In h)(x:gU H h h'):(y7 P t fd).In h':=λa o e=>x.keep a o (ada P t fd a o e) (X a o e)
theorem af3:(clsIn (y7 P t fd) 135).isSome=N:=by ext
theorem E_:mroIn (y7 P t fd) 135 (ao "tuple")=O N:=by ext
theorem aip:iK (y7 P t fd) (R 135) "__getattribute__" =O (O (bB "tuple.__getattribute__")):=by ext
theorem aiq:iK (y7 P t fd) (R 135) "__getattr__" =O ah:=by ext
theorem air:iK (y7 P t fd) (R 135) "num_blocks" =O (O (R 124)):=by ext
theorem ais:iK (y7 P t fd) (R 135) "num_total" =O (O (R 127)):=by ext
theorem ait:iK (y7 P t fd) (R 135) "num_data" =O (O (R 130)):=by ext
theorem aiu:yw (y7 P t fd) (R 124) "__get__" =O (O (R 43)):=by ext
theorem aiv:yw (y7 P t fd) (R 127) "__get__" =O (O (R 43)):=by ext
theorem aiw:yw (y7 P t fd) (R 130) "__get__" =O (O (R 43)):=by ext
theorem aix:A6 (y7 P t fd) (R 124)=O N:=by ext
theorem aiy:A6 (y7 P t fd) (R 127)=O N:=by ext
theorem aiz:A6 (y7 P t fd) (R 130)=O N:=by ext
theorem aiA(n:aV):plainGet (y7 P t fd) 60 n=N:=by ext
section
variable{bh:mx}{x:af}
theorem Zl:gQ table "tuple.__getattribute__" =O Builtin.«object.__getattribute__»:=am_entry_tuple_getattribute
theorem F_:builtinKind "tuple.__getattribute__" =O abW:=by rfl
theorem Zm:splitId "tuple.__getattribute__" =O ("tuple", "__getattribute__"):=by rfl
theorem Zn{x:af}{nm:aa}{Q:Unit->ae->Prop}(L4:gS M s.heap (ro (R x) (ao "tuple")) N)(q:Q () s):
 aE M A (sN "tuple.__getattribute__" ⟨[R x,nm],[]⟩) Q a0 s:=
 @LW M A a0 s "tuple.__getattribute__" "tuple" "__getattribute__" (R x) [nm] [] Q F_ Zm L4 (PySem.F.args_tuple_getattribute_2 _ _) q
theorem G_{g a:aa}(X:bh.In s.heap)(I:InstAt s.heap x ox aS od)(hga:iK bh (R aS) "__getattribute__" =O (O (bB "tuple.__getattribute__")))(hgn:iK bh (R aS) "__getattr__" =O ah)(hm:mroIn bh aS (ao "tuple")=O N)(hf:findObj bh aS od name=O (abP g a))(h:T A.in1 (call g [a,R x,R aS]) {s with toks:=s.toks+1} (λv Y=>(∀id,v≠bB id)/\Q v Y)):
 T A (getAttr (R x) name ae7) s Q:=by
 obtain⟨hh,gg,d,t,os⟩:=s;have L0:=I.type (M:=aD prog w);show aj<|wpAny_mkText<|cQ<|aj<|L0.at<|aj<|(A4 (M:=aD prog w) X hga).at<|(?_:aE _ _ (if(onTheHeap (R aS) && ((bB "tuple.__getattribute__")==bB "object.__getattribute__"))=N then _ else _) _ _ _);show aj (m:=hookBefore (R aS))<|(A4 (M:=aD prog w) X hgn).at<|aj (u5 (cQ ?_))
 delta callGetattribute
 rw[if_neg (by cases ae7<;>decide)];show aj<|iq (VL.bind _)<|kU<|xF VL.plain Zl<|Zn (L0.andThen (LV X hm))<|aj<|aC<|aj<|aC<|aj<|L0.at<|aj<|(looks_find (M:=aD prog w) X I hf).at<|aj (cQ (ir h (λv Y z=>aC ?_) λ_ _ z=>z.elim));show(?_:aE _ _ (EC v) _ _ _);have:EC v=pure v:=by cases v<;>first|rfl|show absurd Z (z.1 _)
 show this.symm▸aC z.2
end
end
inductive Cc(h:aQ)(i:af)(ns:LN):Prop
 |mk (dx:af) (t0 t1 t2:a8) (a b c:Nat) (e:ns=[a,b,c]) (hi:h.get? i=O {cls:=R 135,dict:=O dx,data:=bQ #[ag (ai a) t0,ag (ai b) t1,ag (ai c) t2] 0}) (hd:h.get? dx=O iA) (hT:dx∉bX) (off:i∉bX)
section
variable{bh:mx}{x:af}
theorem H_:opaqueClassAbove (ao "tuple")=pure ah:=vq Z
theorem adb:Fl [] (ao "tuple") (ao "type") "__getitem__" =O (MA (bB "tuple.__getitem__")):=by ext
theorem ade(h:aQ):Frag.In [] h:=λa o e=>Bg e
theorem I_{id:String}{Q:aa×List aa->ae->Prop}(hf:Fl [] (ao "tuple") (ao "type") nm=O (MA (bB id)))(ho:EC (bB id)=pure (bB id))(h:Q (bB id,[]) {s with toks:=s.toks+1}):aE (aD prog w) A (Ez (ao "tuple") nm pl) Q a0 s:=by
 have X:=ade s.heap;have L0:gS (aD prog w) s.heap (AB (ao "tuple")) (ao "type"):=Ma (by first|rfl|ext);have hg:iK [] (ao "type") "__getattribute__" =O (O (bB "type.__getattribute__")):=type_tga;show aj (aj (L0.here ((A4 X hg).here ?_)));dsimp only;show aj (ir (Q:=λv=>Q (v,[])) (E:=a0) ?_ (λ_ _ z=>aC z) λ_ _ z=>z);show cls_open X (Ma H_) L0 hg (looks_hook X (r:=ah) (rfl)) (by rfl) hf
  (aC (by change aE _ _ (EC (bB id)) _ _ _;rw[ho];show aC h))
theorem Zo{x:af}{nm:aa}{Q:Unit->ae->Prop}(L4:gS M s.heap (ro (R x) (ao "tuple")) N)(q:Q () s):
 aE M A (sN "tuple.__getitem__" ⟨[R x,nm],[]⟩) Q a0 s:=
 @LW M A a0 s "tuple.__getitem__" "tuple" "__getitem__" (R x) [nm] [] Q (rfl) (rfl) L4 (PySem.F.args_tuple_getitem_2 _ _) q
theorem Zp(a:af)(c:aa)(dd:Option af)(sl:Array (Option aa))(K:Array aa)(n:Nat)(k:Nat)(t:a8)(v:aa)(hk:K[k]? =O v)(hk2:k<=1000)(hsi:rp (ai k) K.size=O k):
 qj (Builtin.«tuple.__getitem__» ⟨[R a,ag (ai k) t],[]⟩) (λA aN s=>s.heap.get? a=O {cls:=c,dict:=dd,data:=bQ K n,slots:=sl}/\aN (bW (cB v)) s):=
 qC λprog w A aN s hs=>by
  obtain⟨hp,g,d,tk,os⟩:=s;show fc hs λE hs=>?_;have hii:=xM;repeat (any_goals (first|assumption|wp_step))
  rw[(decide_eq_false au),(decide_eq_false au),if_neg aL];change aE _ _ (match (rp (ai k) K.size).bind λx=>K[x]? with
   |some x=>ret x
   |none=>do
    rule "tuple.getitem.out-of-range"
    raiseErrorWords "IndexError" "tuple index out of range") _ _ _
  rw[(by rw[hsi];show hk:(rp (ai k) K.size).bind (K[·]?)=O v)];show aC (cn v Z hs)
end
theorem Sr(he:V H U A L J G e (aH (R a)) ab):pO H U A L J G (jw e [CmpOp.Is] [fL rR k p2] pos) ab:=λs r=>by show uT ((he s r).ο λax e1=>TX ?_) Z;show is_none (mf ⟨e1,rfl⟩)
theorem pO.call{f:aG}{args:List aG}{b:Bool}(he:V H U A L J G (bx f args [] pos) (eY b) ab):pO H U A L J G (bx f args [] pos) b:=λs r=>isTrue_plain<|(he s r).tR λv Y F e aO _=>aO.toBool.symm▸mf ⟨e,rfl⟩
def uc(mg mb:aV->Option aa):Prop:=∀p∈[("type",ao "type"),("issubclass",bB "issubclass")],mg (aB p.1)=ah/\mb (aB p.1)=O p.2
theorem Zq{nm:String}(B:cx U mg mb)(kQ:L.names.lookup (aB nm)=O kZ)(h1:mg (aB nm)=eX)(h2:mb (aB nm)=O v)(hd:(aB nm==("__debug__" :aV))=ab):
 V H U A L J G (aq (aB nm) np) (aH v) fr:=λs r=>
 (eG B r kQ h1 h2 hd).Cx λf aK e0 hf=>e0▸hf▸o6 [] (.refl _) (.ik _) d9
theorem XQ{prog:xY}{w:fK}(X:(y7 P t fd).In h):gS (aD prog w) h (oF (R 135) (ao "tuple")) N:=LV X E_
theorem Ql(P:cf)(t:Nat->a8)(fd:cq):qj (u6.«issubclass» ⟨[R 135,ao "tuple"],[]⟩) (λ_ aN s=>(y7 P t fd).In s.heap/\aN (bW (cB (c9 N))) s):=λprog w A aN s hs=>issubclass_outer (by show fc hs λX hs=>?_;obtain⟨hp,g,d,tk,os⟩:=s;have br:=XQ (prog:=prog) (w:=w) X;have E:=X 135 _ Z;repeat (any_goals (first|assumption|(show br.at ?_)|(show aj (br.at ?_))|wp_step)))
theorem J_{nm:String}{cv:aa}(B:cx U mg mb)(kQ:L.names.lookup (aB nm)=O kZ)(h1:mg (aB nm)=ah)(h2:mb (aB nm)=O cv)(hd:(aB nm==("__debug__" :aV))=ab)(r:ER H U L J s.heap G)(hq:∀aK,aK=s->aE (aD prog w) A (xU pos cv [] (jZ pos (js (e::es) J)) []) Q NoE aK):T A (a7 (bx (aq (aB nm) np) (e::es) [] pos) J) s Q:=mh<|(eG B r kQ h1 h2 hd).Dt<|hq _ Z
theorem Zr{i:af}(B:cx U mg mb)(I2:uc mg mb)(kQ:Gi L "type")(hE:Cc U i ns)(he:V H U A L J G e (aH (R i)) ab)(dH:cH e=ab):
 V H U A L J G (bx (aq (aB "type") np) [e] [] pos) (aH (R 135)) fr:=λs r=>by
 have hI:=I2 ("type",ao "type") aL;show J_ B kQ hI.1 hI.2 (rfl) r λaK e0=>?_;subst e0;show A1 ((fJ.cons he fJ.nil dH aK pos r).Ra λvs ax F1 e1 V1=>?_) (dq dH _ _) Z;apply vH V1;show og λgG kG=>?_;obtain⟨dx,t0,t1,t2,x,y,z,_,hi,_,_,off⟩:=hE;obtain⟨hp,g,d,tk,os⟩:=ax;show kG ?_;clear kG gG;show call_type_obj ((r.base.trans e1.ext).keep _ _ off hi) Z (o6 [] e1 (.ik _) d9)
theorem K_(B:cx U mg mb)(I2:uc mg mb)(X:(y7 P t fd).In U)(kQ:Gi L "issubclass")(he1:V H U A L J G e1 (aH (R 135)) ab)(Jg:cH e1=ab)(he2:V H U A L J G e2 (aH (ao "tuple")) ab)(CI:cH e2=ab):
 V H U A L J G (bx (aq (aB "issubclass") np) [e1,e2] [] pos) (eY N) fr:=λs r=>by
 have hI:=I2 ("issubclass",bB "issubclass") aL;show J_ B kQ hI.1 hI.2 (rfl) r λaK e0=>?_;subst e0;show yu ((fJ.cons he1 (fJ.cons he2 fJ.nil CI) Jg aK pos r).Ra λvs ax F1 x1 V1=>?_) (dq Jg _ _) (by rw[l6 CI];rfl);apply nJ V1;intro v v3 G1 G3 V2 V4;apply bM.Gg V2;apply bM.Gg V4;show call_issubclass (Ql P t fd) ⟨Cb X (r.base.trans x1.ext),x1,[],.ofBool _,d9⟩
theorem ux{o:aG}{args:List aG}(xo:uY o name J (a7 o J)=a7 o J)(j_:Ko (args.length+([]:List AA).length) (jZ pos (js args J)) (backToKw pos (Kx [] J))=N)(lB:(apos.endLine==pos.line)=N)(h:aE M A (a7 o J) (λov ax=>∀pl,aE M A (Ez ov name pl) (λfx aP=>aE M A (xU pos fx.1 fx.2 (jZ pos (js args J)) []) Q a0 aP) a0 ax) a0 s):
 aE M A (a7 (bx (gZ o name apos) args [] pos) J) Q a0 s:=by
 rw[arm_eval_Call,xo];show aj (ir h (λov ax U=>aj (jW ?_)) λ_ _ x=>x)
 delta methodCall
 show j_.symm▸aj (cQ (ir (U _) (λfx aP ku=>?_) λ_ _ x=>x));show aj (iq (by delta methodCallPos;simp[lB]) ku)
theorem Ss{ga dx:Nat}{tk:a8}{od:bE}(X:(y7 P t fd).In U)(h1:(y7 P t fd).lookup ga=O (OB dx))(h2:(y7 P t fd).lookup dx=O od)(h3:findObj (y7 P t fd) 60 (O od) "index" =O (Wf (ag (ai j) tk)))(E:ck G x=O (k,aH (R ga))):V H U A L J G (gZ (aq (NM x) np) (aB "index") pos) (aT j) fr:=λs r=>by show Fe<|T.Dt (um r E)<|have Xs:=Cb X r.base;get_value Xs ⟨Xs _ _ h1,rfl,rfl,Xs _ _ h2⟩ (A5 (aiA "index")).1 h3 Z (o6 [] (.toks _ _) (.ofInt _ _) d9)
theorem adf{v:Nat}(t0 t1 t2:a8):∀{j:Nat},[x,y,z][j]? =O v->∃tv,(#[ag (ai x) t0,ag (ai y) t1,ag (ai z) t2]:Array aa)[j]? =O (ag (ai v) tv)/\j<3/\rp (ai j) 3=O j
 | 0,h=>kJ t0 (congrArg (λv:Nat=>O (ag (ai v) t0)) (aW h)) bD Z
 | 1,h=>kJ t1 (congrArg (λv:Nat=>O (ag (ai v) t1)) (aW h)) bD Z
 | 2,h=>kJ t2 (congrArg (λv:Nat=>O (ag (ai v) t2)) (aW h)) bD Z
 |_+3,h=>Bg h
theorem Zs{i:af}{v:Nat}{ap:cJ}(B:cx U mg mb)(I:dQ mg mb)(X:(y7 P t fd).In U)(hE:Cc U i ns)(hj:ns[j]? =O v)(kQ:Gi L "tuple")(he1:V H U A L J G e1 (aH (R i)) ab)(Jg:cH e1=ab)(he2:V H U A L J G e2 (aT j) ab)(CI:cH e2=ab)(lB:(ap.endLine==pos.line)=N):
 V H U A L J G (bx (gZ (aq (aB "tuple") np) (aB "__getitem__") ap) [e1,e2] [] pos) (aT v) fr:=λs r=>by
 have hI:=I ("tuple",ao "tuple") aL;show ux Z (by rw[HU Jg CI];rfl) lB<|(eG B r kQ hI.1 hI.2 (rfl)).Dt<|λpl=>I_ adb Z<|have r':ER H U L J ({s with toks:=s.toks+1}:ae).heap G:=r;Vy (by rw[HU Jg CI];rfl) ?_;have:=fJ.cons he1 (fJ.cons he2 fJ.nil CI) Jg {s with toks:=s.toks+1} pos r';rw[dq Jg]at this ⊢;show L6 (this.Ra λvs ax F1 x1 V1=>?_);apply nJ V1;intro v0 v3 G1 G3 V2 V4;apply bM.Gg V2;apply bM.zJ V4;intro tk;show og λgG kG=>?_;obtain⟨dx,t0,t1,t2,x,y,z,dX,hi,_,_,off⟩:=hE;show kG ?_;clear kG gG;subst dX;have xx:=r.base.trans (show gU H s.heap ax.heap from x1.ext);have hi1:=xx.keep _ _ off hi;show gC (adf t0 t1 t2 hj) λtv hv hj3 hsi=>kU<|xF VM.plain PySem.F.entry_tuple_getitem<|Zo (((Fo hi1).andThen vx).andThen (XQ (Cb X xx)))<|Zp i (R 135) (O dx) #[] _ 0 j tk _ hv (bj (gw hj3) bD) hsi prog w A (wants _ _) ax<|⟨hi1,(show dG H s {s with toks:=s.toks+1} from .toks _ _).trans x1,[],.ofInt _ _,d9⟩
def Eb(U:aQ)(P:cf)(t:Nat->a8)(fd:cq):Prop:=
 (y7 P t fd).In U/\
 rb U 43 fd tgM/\
 fd.defaults=R 36/\
 ∃n,U.get? 36=O (cV [aA] n)
structure Gt(P:cf)(t:Nat->a8)(fd:cq)(ga:af)(j:Nat):Prop where
 ex:∃dx od tk,(y7 P t fd).lookup ga=O (OB dx)/\(y7 P t fd).lookup dx=O od/\findObj (y7 P t fd) 60 (O od) "index" =O (Wf (ag (ai j) tk))
theorem gt0:Gt P t fd 124 0:=⟨123,_,t 34,rfl,rfl,rfl⟩
theorem gt1:Gt P t fd 127 1:=⟨126,_,t 38,rfl,rfl,rfl⟩
theorem gt2:Gt P t fd 130 2:=⟨129,_,t 42,rfl,rfl,rfl⟩
theorem adg(dB:Eb U P t fd)(x:gU H U s.heap)(a b c:aa):T A (dy fd ⟨[a,b,c],[]⟩) s (λbs Y=>Y=s/\bs=([110,113,114].map NM).zip [a,b,c]):=by
 show dF dB.2.2.2 λn hd=>?_
 delta dy
 show dB.2.1.params.symm▸dB.2.2.1.symm▸dB.2.1.kwd.symm▸aj (aC (aj (jV (x.keep _ _ (DU Z) hd) Z ?_)));show aC ⟨rfl,rfl⟩
theorem akX{ga i:af}{v:Nat}(B:cx U mg mb)(I:dQ mg mb)(I2:uc mg mb)(dB:Eb U P t fd)(hg:Gt P t fd ga j)(hE:Cc s.heap i ns)(hj:ns[j]? =O v)(x1:gU H U s.heap)(bK:A.depth<1000):
 T A (call (R 43) [R ga,R i,R 135]) s (λu Y=>dG H s Y/\∃tk,u=ag (ai v) tk):=by
 show og λgG kG=>?_;obtain⟨dx,od,tk,g1,g2,g3⟩:=hg;show kG ?_;clear kG gG;have Xs:=Cb dB.1 x1;have Bs:=B.ext x1;show(Xr (G':=qL [110,113,114] [aH (R ga),aH (R i),aH (R 135)]) (avs:=[aH (R ga),aH (R i),aH (R 135)]) (F:=[]) B x1 bK dB.2.1 Z Z Z (adg dB x1 _ _ _) ?_ aL Z aL λfX=>?_).wp3 λu Y F e aO=>⟨e,aO.toInt⟩
 .show ej [] [] (.ik _) (ej [] [] (.ik _) (ej [] [] (.ik _) .nil))
 show SS.m<|SS.cons (S1.ite (Sr (ar 113 Z)) (λq=>II q) λ_=>SS.nil)<|SS.cons (S1.ite (x:=ab) (FP N (pO.call (K_ Bs I2 Xs Z (Zr Bs I2 Z hE (ar 113 Z) Z) Z (Zq Bs Z (I ("tuple",ao "tuple") aL).1 (I ("tuple",ao "tuple") aL).2 (rfl)) Z))) (λq=>II q) λ_=>SS.nil) (tU (S1.ret (Zs Bs I Xs hE hj Z (ar 113 Z) Z (Ss (x:=110) Xs g1 g2 g3 Z) Z Z)))
def uN(ns:LN):AV:=fG (ns.map aT)
theorem Cc.ext{i:af}(e:Cc h i ns)(x:gU H h h'):Cc h' i ns:=by obtain⟨dx,t0,t1,t2,a,b,c,h1,h2,h3,h4,off⟩:=e;show⟨dx,t0,t1,t2,a,b,c,h1,x.keep _ _ off h2,x.keep _ _ h4 h3,h4,off⟩
theorem Eb.ext(dB:Eb U P t fd)(x:gU H U h):Eb h P t fd:=⟨Cb dB.1 x,dB.2.1.ext x,dB.2.2.1,dF dB.2.2.2 λn e=>⟨n,x.keep _ _ (DU Z) e⟩⟩
theorem C5{ga i:af}{v:Nat}(bK:A.depth<900)(B:cx U mg mb)(I:dQ mg mb)(I2:uc mg mb)(dB:Eb U P t fd)(hg:Gt P t fd ga j)(hf:iK (y7 P t fd) (R 135) nm=O (O (R ga)))(OY:yw (y7 P t fd) (R ga) "__get__" =O (O (R 43)))(htk:A6 (y7 P t fd) (R ga)=O N)(hE:Cc U i ns)(hj:ns[j]? =O v)(he:ck G x=O (k,aH (R i))):
 V H U A L J G (gZ (aq (NM x) np) nm pos) (aT v) fr:=λs r=>by
 show Fe (T.Dt (um r he) ?_);have x1:=r.base;have N1:=dB.ext x1;have E1:=hE.ext x1;have E2:=E1;obtain⟨dx,t0,t1,t2,a,b,c,h1,h2,h3,h4,off⟩:=E2;show G_ N1.1 ⟨h2,rfl,rfl,h3⟩ aip aiq E_ (findObj_data af3 hf OY htk)<|(akX (s:={s with toks:=s.toks+1}) (H:=H) (B.ext x1) I I2 N1 hg E1 hj (.refl _) au).mono λu s2 ow=>MB ow λe2 tk hu=>hu▸⟨(λid q=>nomatch q),(show dG H s {s with toks:=s.toks+1} from .toks _ _).trans e2,[],.ofInt _ _,d9⟩
theorem Qm{i:af}{a b:Nat}(bK:A.depth<900)(B:cx U mg mb)(I:dQ mg mb)(I2:uc mg mb)(dB:Eb U P t fd)(hE:Cc U i [a,b,c])(he:ck G x=O (k,aH (R i))):
 V H U A L J G (gZ (aq (NM x) np) (aB "num_blocks") pos) (aT a) fr:=C5 bK B I I2 dB gt0 air aiu aix hE Z he
theorem Su{i:af}{a b:Nat}(bK:A.depth<900)(B:cx U mg mb)(I:dQ mg mb)(I2:uc mg mb)(dB:Eb U P t fd)(hE:Cc U i [a,b,c])(he:ck G x=O (k,aH (R i))):
 V H U A L J G (gZ (aq (NM x) np) (aB "num_total") pos) (aT b) fr:=C5 bK B I I2 dB gt1 ais aiv aiy hE Z he
theorem JR{i:af}{a b:Nat}(bK:A.depth<900)(B:cx U mg mb)(I:dQ mg mb)(I2:uc mg mb)(dB:Eb U P t fd)(hE:Cc U i [a,b,c])(he:ck G x=O (k,aH (R i))):
 V H U A L J G (gZ (aq (NM x) np) (aB "num_data") pos) (aT c) fr:=C5 bK B I I2 dB gt2 ait aiw aiz hE Z he
theorem NH(aO:bM U av v F)(he:V H U A L J G e (aH v) ab):V H U A L J G e av ab:=λs r=>
 (he s r).ο λax e1=>o6 F e1 (aO.ext (r.base.trans e1.ext)) (λq=>II q)
theorem XR{a i:aG}(ha:V H U A L J G a (uN ns) ab)(hi:V H U A L J G i (aT k) ab)(hk:k<ns.length)(hl:ns.length<=1000)(sj:kg i=ab):V H U A L J G (dk a i pos) (aT (ns.getD k 0)) fr:=by show wI ha hi ?_ sj (λ_=>rfl);change cond (dY k 1000000) ((ns.map aT)[k]?) eX=_;rw[(eW au),cond_true,cZ,dE hk];simp[hk]
def mbF:List cg:=ub (a9 (bg jn) 7)
def Sv:List cg:=ub (a9 mbF 3)
noncomputable def Cd(ex gen:LN)(k lc:Nat)(eb:LN):Nat->LN
 | 0=>eb
 |n+1=>(Cd ex gen k lc eb n).set (k+n+1) ((Cd ex gen k lc eb n).getD (k+n+1) 0 ^^^ ex.getD (lc+gen.getD n 0) 0)
def gV(lg ex gen eb:LN):Nat->LN
 | 0=>eb
 |k+1=>if(gV lg ex gen eb k).getD k 0=0 then gV lg ex gen eb k else Cd ex gen k (lg.getD ((gV lg ex gen eb k).getD k 0) 0) (gV lg ex gen eb k) gen.length
theorem HZ:∀n,(Cd ex gen k lc eb n).length=eb.length:=by
 intro xX;induction xX with
 |zero=>show rfl
 |succ n iH=>show ET.trans iH
theorem xu{lg:LN}:∀k,(gV lg ex gen eb k).length=eb.length:=by
 intro xX;induction xX with
 |zero=>show rfl
 |succ k iH=>show iteInduction (motive:=λl:LN=>l.length=eb.length) (λ_=>iH) λ_=>(HZ _).trans iH
theorem l8.akY(h:l8 ns)(k:Nat)(E:x<256):l8 (ns.set k x):=⟨λy hy=>by
 rcases ve hy with q|q
 .show h.1 y q
 .rw [q];show E,ET.symm▸h.2⟩
theorem jf{b:Nat}(h:∀x∈ns,x<b)(D:0<b)(k:Nat):ns.getD k 0<b:=by
 rw[dc];cases q:ns[k]? with
 |none=>show D
 |some x=>show h x (cY q)
theorem XS(E:∀x∈ex,x<256)(h:l8 eb):∀n,l8 (Cd ex gen k lc eb n):=by
 intro xX;induction xX with
 |zero=>show h
 |succ n iH=>show(iH).akY _ (E0 (n:=8) (jf (iH).1 aL _) (jf E aL _))
theorem XT{lg:LN}(E:∀x∈ex,x<256)(h:l8 eb):∀k,l8 (gV lg ex gen eb k):=by
 intro xX;induction xX with
 |zero=>show h
 |succ k iH=>show iteInduction (motive:=l8) (λ_=>iH) λ_=>XS E iH _
def gMB(m1 m2 l1 l2 gp rr eb:af)(nd ne:Nat):iB:=[(103,0,aH (R eb)),(102,0,aT nd),(101,0,aH (R rr)),(100,0,aH (R gp)),(99,0,aT ne),(97,0,aH (R 1890)),(96,0,aH (R 1888)),(95,0,aH (R m2)),(94,0,aH (R m1)),(86,0,aH (R l2)),(85,0,aH (R l1))]
def L_(U:aQ)(lg ex gen:LN)(gp:af):Prop:=
 bM U (uN lg) (R 1888) []/\
 (∃F,bM U (aX ex) (R 1890) F)/\
 bM U (uN gen) (R gp) []/\
 lg.length=256/\
 ex.length=510/\
 (∀x∈lg,x<255)/\
 (∀x∈ex,x<256)/\
 (∀x∈gen,x<255)/\
 gen.length<=100
section
variable{Q:cb->ae->Prop}
theorem af4{lg:LN}{m1 m2 l1 l2 eb:af}{nd:Nat}{tr ur vr:a8}(hh:dh A)(B:cx U mg mb)(I:dQ mg mb)(T1:L_ U lg ex gen gp)(p:PS H U (bc jn) J aK bo bu G ((eb,kF ns)::S) s)(hG:kr (gMB m1 m2 l1 l2 gp rr eb nd gen.length) G)(hn:l8 ns)(dM:ns.length=nd+gen.length)(hr:(rr,mL gen.length tr ur vr)∈S)(hS:∀y∈S,y.1≠eb)(kk:∀Y,PS H U (bc jn) J aK bo bu (gMB m1 m2 l1 l2 gp rr eb nd gen.length) ((eb,kF (gV lg ex gen ns nd))::S) Y->C A (aU rest J) Y Q):
 C A (aU (a9 Sv 5::rest) J) s Q:=by
 show dU T1 λT11 T12 T13 T14 T15 T16 T17 aiB=>fc aiB λT18 T19=>?_;have hl2:=hn.2;have hg1:=T19;show yN 92 (Dw 0 1 nd) (λ_ (_:Unit)=>gMB m1 m2 l1 l2 gp rr eb nd gen.length) (λk _=>(eb,kF (gV lg ex gen ns k))::S) () p (zO (k:=nd) hh (p.base B) I Z (ar 102 (hG.all _ _ _ Z)) Z au fF)
  hG (λy hy=>hy) (ak Z) (λ_ _ _=>rfl) (λk n z s1 W hk q=>?_) (λ_=>rfl) (λs9 _ p9=>?_)
 .obtain ⟨hi,hk⟩:=o8.mp hk;have hk':(n:Int)=ai k:=by rw[hk];simp
  subst hk';have ho:=XT (lg:=lg) (gen:=gen) T17 hn k;have hle:=xu (lg:=lg) (ex:=ex) (gen:=gen) (eb:=ns) k;show PS.asg (x:=104) (av:=aT ((gV lg ex gen ns k).getD k 0)) q (B2 (a:=eb) (q.get (cR ..)) (q.sg _ (cR ..)).2.1 ho (ar 103 Z) (ar 92 Z) (kD au) Z) Z Z (ak Z) Z λs2 q2=>q2.ite (x:=decide ((gV lg ex gen ns k).getD k 0≠0)) (yH (ar 104 Z) (aR 0)) λs3 q3=>?_;by_cases hc:(gV lg ex gen ns k).getD k 0=0
  .have e1:gV lg ex gen ns (k+1)=gV lg ex gen ns k:=if_pos hc;rw[decide_eq_false (by rw[hc];show not_not_intro Z)];show fg (fg ⟨rfl,(),?_⟩);show e1.symm▸q3.less (kr.rf bG bG)
  .have e1:gV lg ex gen ns (k+1)=Cd ex gen k (lg.getD ((gV lg ex gen ns k).getD k 0) 0) (gV lg ex gen ns k) gen.length:=if_neg hc;rw[decide_eq_true hc];have hlc:=jf T16 aL ((gV lg ex gen ns k).getD k 0);show q3.s1 (S1.m (bC 105 (aT (lg.getD ((gV lg ex gen ns k).getD k 0) 0)) (XR (NH (T11) (ar 96 Z)) (ar 104 Z) (by rw[T14];show(jf ho.1 aL k)) (by rw[T14];decide) Z) Z Z (ak Z) Z)) λs4 q4=>yN 106 (Dw 0 1 gen.length) (λ_ (_:Unit)=>jk (jk (jk (gMB m1 m2 l1 l2 gp rr eb nd gen.length) 92 0 (a6 (ai k))) 104 0 (aT ((gV lg ex gen ns k).getD k 0))) 105 0 (aT (lg.getD ((gV lg ex gen ns k).getD k 0) 0)))
    (λn _=>(eb,kF (Cd ex gen k (lg.getD ((gV lg ex gen ns k).getD k 0) 0) (gV lg ex gen ns k) n))::S) () q4 (z8 101 0 hh (q4.base B).top (q4.get (bY _ hr)) (q4.sg _ (bY _ hr)).2.1 Z au)
    ⟨λ_ _ _ e=>e,λ_ _ e=>e⟩ (λy hy=>hy) (ak Z) (λ_ _ _=>rfl) (λn m z5 s5 W5 hn5 q5=>?_) (λ_=>rfl) (λs7 _ q7=>fg (fg ⟨rfl,(),?_⟩))
   .obtain ⟨hi5,hn5⟩:=o8.mp hn5;have akZ:(m:Int)=ai n:=by rw[hn5];simp
    subst akZ;have hl5:=HZ (ex:=ex) (gen:=gen) (k:=k) (lc:=lg.getD ((gV lg ex gen ns k).getD k 0) 0) (eb:=gV lg ex gen ns k) n;have hgn:=(jf T18 aL) n;show dF T12 λFx Vx=>ϣ (a:=eb) (k:=k+n+1) (x:=ex.getD (lg.getD ((gV lg ex gen ns k).getD k 0) 0+gen.getD n 0) 0) (y:=(Cd ex gen k (lg.getD ((gV lg ex gen ns k).getD k 0) 0) (gV lg ex gen ns k) n).getD (k+n+1) 0) q5
     (fo (NH (Vx.ext q5.ext) (ar 97 Z)) (fq (ar 105 Z) (XR (NH ((T13).ext q5.ext) (ar 100 Z)) (ar 106 Z) hi5 au Z)) (by rw[T15];lia) (by rw[T15];decide) Z)
     (ar 103 Z) (fq (fq (ar 92 Z) (ar 106 Z)) (aR 1)) (cR ..) (XS (gen:=gen) (k:=k) (lc:=lg.getD ((gV lg ex gen ns k).getD k 0) 0) T17 ho n) (kD au) (jf T17 aL _) (S':=(eb,kF (Cd ex gen k (lg.getD ((gV lg ex gen ns k).getD k 0) 0) (gV lg ex gen ns k) (n+1)))::S) (λy hy=>?_) λs6 q6=>fg ⟨rfl,(),q6.less (kr.rf bG bG)⟩
    rcases bq.mp hy with e|e
    .left;rw[e];show⟨rfl,rfl⟩
    .show aw ⟨hS y e,bY _ e⟩
   .show e1.symm▸?_;have hlr:(Dw 0 1 gen.length).length=gen.length:=MR;rw[hlr]at q7;show q7.less (kr.rf bG bG)
 .rw [(by simp[Dw]:(Dw 0 1 nd).length=nd)]at p9;show kk s9 p9
end
theorem Zt{d:Nat}(h1:gens[d]? =O ⟨ct,iter,ifs,0⟩)(h2:gens[d+1]? =ah):
 va (cE elt gens scope pos) d it jQ J=(mT iter.pos>>=λ_=>gY it>>=λr=>match r with
  |none=>pure (nr cL)
  |some v=>jE ct it v>>=λ_=>jG ct J v>>=λ_=>o9 ifs J>>=λok=>
   if ok=N then(a7 elt J>>=λx=>call (bB "list.append") [jQ,x]>>=λ_=>pure ())>>=λ_=>again (hx (cE elt gens scope pos) d it jQ J)
   else again (hx (cE elt gens scope pos) d it jQ J)):=by
 delta va
 dsimp only;show h1.symm▸h2.symm▸?_;rfl
theorem M_{iter':aG}{d:Nat}(h1:gens[d]? =O ⟨ct,iter,ifs,0⟩)(h2:gens[d+1]? =O ⟨target',iter',ifs',0⟩):
 va (cE elt gens scope pos) d it jQ J=(mT iter.pos>>=λ_=>gY it>>=λr=>match r with
  |none=>pure (nr cL)
  |some v=>jE ct it v>>=λ_=>jG ct J v>>=λ_=>o9 ifs J>>=λok=>
   if ok=N then a7 iter' J>>=λx=>mT iter'.pos>>=λ_=>Eg iter' J x>>=λx=>holding [x] (gn x)>>=λit'=>runOwn (oT (cE elt gens scope pos) (d+1) it' jQ J) J>>=λ_=>again (hx (cE elt gens scope pos) d it jQ J)
   else again (hx (cE elt gens scope pos) d it jQ J)):=by
 delta va
 dsimp only;show h1.symm▸h2.symm▸?_;rfl
theorem uO{Q:Bool->ae->Prop}(h:Q N s):C A (o9 [] J) s Q:=C.pure h
theorem Zu{c:aG}{Q:Bool->ae->Prop}(h:C A (isTrue c J (a7 c J)) s Q):C A (o9 [c] J) s Q:=C.bind (C.bind (h.mono λb Y D=>C.pure (C.pure D)))
theorem DO{X:aI Fin}{d:Nat}(hX:va (cE elt gens scope pos) d it jQ J=(mT iter.pos>>=λ_=>gY it>>=λr=>match r with
 |none=>pure (nr cL)
 |some v=>jE ct it v>>=λ_=>jG ct J v>>=λ_=>o9 ifs J>>=λok=>if ok=N then X else again (hx (cE elt gens scope pos) d it jQ J)))(I:Nat->ae->Prop)(turn:∀n s (bh:ae->Prop) (P1:Option aa->ae->Prop) (P2:ae->Prop) (P3:Bool->ae->Prop),(∀m Y,m<n->I m Y->bh Y)->(∀ax,aN (bW cL) ax->P1 ah ax)->
 (∀v ax,C A (jE ct it v) ax (λ_ aP=>C A (jG ct J v) aP (λ_=>P2))->P1 (O v) ax)->(∀dp,C A (o9 ifs J) dp P3->P2 dp)->
 (∀fy,C A X fy (λf s=>f=yz (hx (cE elt gens scope pos) d it jQ J)/\bh s)->P3 N fy)->(∀fy,bh fy->P3 ab fy)->I n s->C A (gY it) s P1)(n:Nat)(h:I n s):CC A (hx (cE elt gens scope pos) d it jQ J) s aN:=by
 induction n using U0 generalizing s with
 |ind n ih=>
  show jl Z<|C.onRaise<|hX.symm▸C.bind (C.standAt (C.bind ((turn n s (λY=>∃m,m<n/\I m Y) (λr ax=>match r with
   |none=>aN (bW cL) ax
   |some v=>C A (jE ct it v) ax (λ_ aP=>C A (jG ct J v) aP (λ_ dp=>C A (o9 ifs J) dp (λok fy=>if ok=N then C A X fy (λf Qn=>f=yz (hx (cE elt gens scope pos) d it jQ J)/\∃m,m<n/\I m Qn) else∃m,m<n/\I m fy)))) _ _
    (λm _ a b=>cn m a b) (λ_ h=>h) (λ_ _ h=>h) (λ_ h=>h) (λ_ h=>(if_pos Z).mpr h) (λ_ h=>(if_neg aL).mpr h) h).mono λr ax U=>?_)))
  cases r with
  |none=>show C.pure U
  |some v=>
   show C.bind (C.mono U λ_ aP ku=>C.bind (C.mono ku λ_ dp uq=>C.bind (C.mono uq λok fy GB=>?_)));cases ok with
   |true=>show C.mono GB λ_ Qn qQ=>bf qQ.2 λm hm hI=>qQ.1▸⟨rfl,ih m hm hI⟩
   |false=>show bf GB λm hm hI=>C.pure ⟨rfl,ih m hm hI⟩
theorem ud{d:Nat}(h1:gens[d]? =O ⟨ct,iter,ifs,0⟩)(h2:gens[d+1]? =ah)(I:Nat->ae->Prop)(turn:∀n s (bh:ae->Prop) (P1:Option aa->ae->Prop) (P2:ae->Prop) (P3:Bool->ae->Prop) (P4:aa->ae->Prop),(∀m Y,m<n->I m Y->bh Y)->(∀ax,aN (bW cL) ax->P1 ah ax)->
 (∀v ax,C A (jE ct it v) ax (λ_ aP=>C A (jG ct J v) aP (λ_=>P2))->P1 (O v) ax)->(∀dp,C A (o9 ifs J) dp P3->P2 dp)->
 (∀fy,C A (a7 elt J) fy P4->P3 N fy)->(∀fy,bh fy->P3 ab fy)->(∀x ib,C A (call (bB "list.append") [jQ,x]) ib (λ_=>bh)->P4 x ib)->I n s->C A (gY it) s P1)(n:Nat)(h:I n s):CC A (hx (cE elt gens scope pos) d it jQ J) s aN:=
 DO (Zt h1 h2) I (λn s bh P1 P2 P3 a b c d e f i=>turn n s bh P1 P2 P3 (λx ib=>C A (call (bB "list.append") [jQ,x]) ib (λ_=>bh)) a b c d (λfy h=>e fy (C.bind (C.bind (h.mono λ_ _ h=>C.bind (h.mono λ_ _ h=>C.pure (C.pure ⟨rfl,h⟩)))))) f (λ_ _ h=>h) i) n h
theorem H7{iter':aG}{d:Nat}(h1:gens[d]? =O ⟨ct,iter,ifs,0⟩)(h2:gens[d+1]? =O ⟨target',iter',ifs',0⟩)(hs:Fs iter' J)(I:Nat->ae->Prop)(turn:∀n s (bh:ae->Prop) (P1:Option aa->ae->Prop) (P2:ae->Prop) (P3:Bool->ae->Prop) (P4 P5:aa->ae->Prop) (P6:sS->ae->Prop),(∀m Y,m<n->I m Y->bh Y)->(∀ax,aN (bW cL) ax->P1 ah ax)->
 (∀v ax,C A (jE ct it v) ax (λ_ aP=>C A (jG ct J v) aP (λ_=>P2))->P1 (O v) ax)->(∀dp,C A (o9 ifs J) dp P3->P2 dp)->
 (∀fy,C A (a7 iter' J) fy P4->P3 N fy)->(∀fy,bh fy->P3 ab fy)->(∀x ib,C A (gn x) ib P5->P4 x ib)->
 (∀it' Qn,CC (A.mark ah) (oT (cE elt gens scope pos) (d+1) it' jQ J) Qn P6->P5 it' Qn)->(∀f N_,bh N_->P6 (bW f) N_)->I n s->C A (gY it) s P1)(n:Nat)(h:I n s):CC A (hx (cE elt gens scope pos) d it jQ J) s aN:=
 DO (M_ h1 h2) I (λn s bh P1 P2 P3 a b c e f g i=>turn n s bh P1 P2 P3 (λx ib=>C A (gn x) ib (λit' Qn=>CC (A.mark ah) (oT (cE elt gens scope pos) (d+1) it' jQ J) Qn (λr N_=>match r with|bW _=>bh N_|j6 _=>False)))
  _ _ a b c e (λfy h=>f fy (C.bind<|h.mono λx ib zQ=>C.bind<|C.standAt<|C.bind<|C.eq (hs x)<|C.bind<|C.holding<|zQ.mono λit' Qn ak0=>C.bind<|C.onRaise (C.run (CC.mono ak0 λr N_ adh=>by cases r;show adh;show C.pure ⟨rfl,adh⟩)))) g (λ_ _ h=>h) (λ_ _ h=>h) (λ_ _ h=>h) i) n h
theorem pJ{d:Nat}(h1:gens[d]? =O ⟨ct,iter,ifs,0⟩)(h0:CC A (hx (cE elt gens scope pos) d it jQ J) s aN)(h:C A (gn it) s (λit' Y=>CC A (hx (cE elt gens scope pos) d it' jQ J) Y aN)):
 CC A (oT (cE elt gens scope pos) d it jQ J) s aN:=by
 show jl Z (C.onRaise ?_)
 delta compStart
 show h1.symm▸lD (T7 ?_);split
 .show C.pure ⟨rfl,h0⟩
 .show C.bind<|C.rule<|nQ (C.bind (h.mono λit' Y h'=>C.pure ⟨rfl,h'⟩))
theorem adi{O_ first:aI aa}{g:El}(jB:KI e=g::gs)(hs:Fs g.iter J)(P_:rn scope J=pure cl)(zo:scope.kind=dZ)(af5:∀x∈scope.names,x.2=cU->scope.names.lookup x.1=O cU)(h:C A first s (λx ax=>C A (gn x) ax (λit aP=>C A O_ aP (λjQ dp=>
 C A (newFunctionEnv scope J.globals cl [] J.qual ah aA (O J)) dp (λcenv fy=>
  CC (A.mark ah) (oT e 0 it jQ {cenv with scope:=ju scope J}) fy (λr Y=>match r with|bW _=>∃m,Y.heap.Ns cenv.locals m/\∀h',gu cenv.locals Y.heap h'->Q jQ {Y with heap:=h'} |j6 _=>False)))))):
 C A (En e scope J pos O_ ab first ah) s Q:=by
 delta En
 show P_.symm▸jB.symm▸C.bind (h.mono λx ax U=>C.bind (C.standAt (C.bind (C.eq (hs x) (C.bind (C.holding (C.mono U λit aP ku=>?_)))))));show C.bind (C.mono ku λjQ dp uq=>C.bind (C.pure (C.bind (C.mono uq λcenv fy GB=>?_))));dsimp only;have hv:∀x∈(scope.names.filter λx=>(x.2==cU ||x.2==dz) && x.1 != (".0" :aV)).reverse,x.2=cU->
  kb {cenv with scope:=ju scope J} x.1=O cU:=λx E hl=>xG (af5 x (gq.mp (EO.mp E)).1 hl)
 show C.holding (C.bind (C.attempt (C.holding (C.run (CC.mono GB λr Y hr=>?_)))));cases r with
 |ok f=>show bf hr λm hn hr=>(lJ (cS (T8 zo _ Y m hv hn λh' m' _ zM=>C.pure (hr h' zM))))
 |error _=>show hr.elim
theorem Qo{K:LN}{first:aI aa}{g:El}(c:ed L scope fs K)(jB:KI e=g::gs)(hs:Fs g.iter J)(P_:rn scope J=pure cl)(h:C A first s (λx ax=>C A (gn x) ax (λit aP=>∀aY bh h3 tk,aP.heap.objs.size<=aY->aP.heap.objs.size<=bh->(uk aP.heap h3)->aP.heap.get? aY=ah->aP.heap.get? bh=ah->aY≠bh->
 h3.get? aY=O (bp [] 0)->h3.Ns bh (λ_=>ah)->CC (A.mark ah) (oT e 0 it (R aY) (jt scope cl bh J)) {aP with heap:=h3,toks:=tk} (λr Y=>match r with|bW _=>∃m,Y.heap.Ns bh m/\∀h',gu bh Y.heap h'->Q (R aY) {Y with heap:=h'} |j6 _=>False)))):
 C A (En e scope J pos (newList []) ab first ah) s Q:=by
 show adi jB hs P_ c.kind c.names<|h.mono λx ax U=>C.mono U λit aP ku=>cS<|ip<|cS (Am c.cell (by intro y hy;show kM hy) (λh3 sk wM=>?_) c.kind);generalize Β:aP.heap.push {cls:=ao "list",dict:=ah,data:=bQ ([]:List aa).toArray}=H2 at sk wM ⊢;have hC:H2.objs.size=aP.heap.objs.size+1:=by rw[<-Β,dD]
 generalize H2.objs.size=bh at sk wM hC ⊢;have Ow:aP.heap.objs.size≠bh:=by rw[hC];show fB (iZ _)
 have aeU:∀b:Nat,aP.heap.objs.size<=b->aP.heap.get? b=ah:=λb hb'=>by
  cases q:aP.heap.get? b with
  |none=>rfl
  |some o=>show absurd (cj q) (j5.mpr hb')
 have hK:=aeU bh (hC▸lQ _);show ku aP.heap.objs.size bh h3 _ (ey _) (hC▸lQ _) (λb o e=>wM.extBut b o (λq=>by have e:=hK▸q▸e;ext) (by show Β▸?_;show aZ _ (aZ _ e))) (aeU _ (ey _)) hK Ow
  (wM.extBut _ _ Ow (by show Β▸?_;show aZ _ (bI _ Z))) sk
section
theorem Ce{it:af}{x step:Int}(uu:ml s.heap it x left step)(Cf:0<left)(hQ:∀h',ml h' it (x+step) (left - 1) step->gu it s.heap h'->Q (ag x s.toks) {s with heap:=h',toks:=s.toks+1}):
 aE (aD prog w) A (Mo (R it)) Q a0 s:=by
 have hT:s.TypeIs (R it) "range_iterator" :=cn _ uu Z;show aj (jT hT Fq
  (oB Fq hT VI (VH _) (AutoRange.range_iterator___next___range_iterator_1 it x left step (Int.not_le.mpr Cf)) ⟨uu,?_⟩))
 show aC (hQ _ (ie _ (ie _ uu Z) Z) ((j8 ..).trans (j8 ..)))
theorem C6{it:af}{x step:Int}(hh:dh A)(uu:ml s.heap it x left step)(Cf:left<=0)(hE:∀h' e,(uk s.heap h')->(∃o,h'.get? e=O o/\o.cls=ao "StopIteration")->a0 (R e) {s with heap:=h'}):aE (aD prog w) A (Mo (R it)) Q a0 s:=by
 have hT:s.TypeIs (R it) "range_iterator" :=cn _ uu Z;show aj (jT hT Fq
  (jU Fq hT VI ?_ (VH _)))
 show(?_:aE _ _ (sU (R it) 0>>=_) _ _ s);show aj<|gN uu Z (x:=da x) Z<|aj<|gN uu Z (x:=da left) Z<|aj<|gN uu Z (x:=da step) Z<|(?_:aE _ _ (if left<=0 then _ else _) _ _ s);show(if_pos Cf).symm▸aj (rl ?_);show aj<|aj<|aj (ip ?_ (by size_fits));show aj<|iq (a:=aA) (by first|rfl|(rfl))<|ip ?_ (by size_fits);show aj (Kq ?_);first|rw[hh]|rw[hh]
 show Kw<|hE _ _ (λb o e=>aZ _ (aZ _ e)) (cn _ (bI _ Z) Z)
variable{F:zw}{aN:x9}{gi:xW}
theorem lF.nextOf(x:lF A a g aS fp wr n₀ F j s)(bK:A.depth<mS)(hj:j<n₀)(DL:a≠aS)(Ot:a∉wr)(Ou:cG≠aS)(Ov:cG∉wr)(hF:F.DJ)(hQ:∀v Y,F j v s Y->lF A a g aS fp wr n₀ F (j+1) Y->Tg g (aS::wr) s Y->(∀b o,s.heap.get? b=O o->∃o',Y.heap.get? b=O o')->Q v Y):C A (Mo (R a)) s Q:=
 C.bind (x.spc bK hj DL Ot Ou Ov hF λv Y a b c d=>C.pure (hQ v Y a b c d))
end
def aiC(z TI TO i1:af)(X:List af):Prop:=
 TI≠z/\
 TO≠z/\
 i1≠z/\
 TI≠TO/\
 TI≠i1/\
 TO≠i1/\
 z∉X/\
 TI∉X/\
 TO∉X/\
 i1∉X
section
variable{F:zw}
def C7(A:bR)(s:ae)(a:af)(g:Nat)(aS:af)(fp:List af)(wr:List af)(n₀:Nat)(F:zw)(j:Nat)(z:af)(TI:af)(TO:af)(i1:af)(x:Int)(left:Int)(u0:aa)(u1:aa)(P:Nat->aa->Prop)(Q:Option aa->ae->Prop):Prop:=∀(bK:A.depth<mS) (aY:aiC z TI TO i1 (a::aS::fp)) (DL:a≠aS) (Ot:a∉wr) (xm:cG∈fp) (Ou:cG≠aS) (Ov:cG∉wr) (hwf:∀b∈wr,b∈fp) (hF:F.DJ) (hP:∀i v s Y,F i v s Y->P i v) (hz:mV s.heap z TI TO aA) (XN:j3 s.heap TI (R i1) (R a)) (hTO:j3 s.heap TO u0 u1) (h1:ml s.heap i1 x left 1) (Cf:0<left) (hg:lF A.in1 a g aS fp wr n₀ F j s) (hj:j<n₀) (hQ:∀v Y (T:af) tk,P j v->mV Y.heap z TI TO (da T)->j3 Y.heap TI (R i1) (R a)->j3 Y.heap TO (ag x tk) v->ml Y.heap i1 (x+1) (left - 1) 1->j3 Y.heap T (ag x tk) v->s.heap.get? T=ah->
 lF A.in1 a g aS fp wr n₀ F (j+1) Y->Tg g (z::TO::i1::aS::wr) s Y->Q (O (R T)) Y),C A (gY (R z)) s Q
def H8(c:((((bR×ae)×af)×(Nat×af))×((((List af)×(List af))×Nat)×(zw×Nat)))×((((af×af)×af)×(af×Int))×(((Int×aa)×aa)×((Nat->aa->Prop)×(Option aa->ae->Prop))))):Prop:=C7 c.1.1.1.1.1 c.1.1.1.1.2 c.1.1.1.2 c.1.1.2.1 c.1.1.2.2 c.1.2.1.1.1 c.1.2.1.1.2 c.1.2.1.2 c.1.2.2.1 c.1.2.2.2 c.2.1.1.1.1 c.2.1.1.1.2 c.2.1.1.2 c.2.1.2.1 c.2.1.2.2 c.2.2.1.1.1 c.2.2.1.1.2 c.2.2.1.2 c.2.2.2.1 c.2.2.2.2
def eJ:=Bm H8 inferInstance
def Q_:=eJ.1.1.1.1.1
def pK:=eJ.1.1.1.1.2
def Sw:=eJ.1.1.1.2
def NI:=eJ.1.1.2.1
def H9:=eJ.1.1.2.2
def NJ:=eJ.1.2.1.1.1
def FV:=eJ.1.2.1.1.2
def JS:=eJ.1.2.1.2
def R_:=eJ.1.2.2.1
def S_:=eJ.1.2.2.2
def qe:=eJ.2.1.1.1.1
def vZ:=eJ.2.1.1.1.2
def lX:=eJ.2.1.1.2
def FW:=eJ.2.1.2.1
def NK:=eJ.2.1.2.2
def Zv:=eJ.2.2.1.1.1
def adj:=eJ.2.2.1.1.2
def XU:=eJ.2.2.1.2
theorem T_:C7 Q_ pK Sw NI H9 NJ FV JS R_ S_ qe vZ lX FW NK Zv adj XU eJ.2.2.2.1 eJ.2.2.2.2:=λbK aY DL Ot xm Ou Ov hwf hF hP hz XN hTO h1 Cf hg hj hQ=>by
 have hT:pK.TypeIs (R qe) "zip" :=cn _ hz Z;have cw:∀b∈H9::FV,b∈Sw::H9::NJ:=λb D=>by
  rcases bq.mp D with e|e
  .ext
  .simp [hwf b e]
 show C.bind (C.attempt (vX hT FC (oq hT FC VW (VS _) Z ?_)));change C _ (sU (R qe) 2>>=_) _ _;show lD<|gN hz Z (x:=c9 ab) Z<|lD<|gN hz Z (x:=R vZ) Z<|lD<|jV XN Z<|C.bind<|C.bind<|cS<|gN hz Z (x:=aA) Z<|C.pure<|C.bind<|C.rule<|lD<|gN hz Z (x:=R lX) Z<|lD (Ao hz bD λU Ib Ic=>?_);replace Ib:mV U qe vZ lX J4:=Ib;show C.bind<|C.bind<|C.bind<|C.onRaise<|lD<|Ce (Ic.extBut _ _ aY.2.2.1 h1) Cf λku aiD xl=>C.pure<|have U_:=xl.extBut _ _ aY.2.2.2.2.2.1 (Ic.extBut _ _ aY.2.1 hTO);lD<|jV U_ Z<|lD (TR U_ λuq Sx Ie=>?_);replace Sx:j3 uq lX (ag NK pK.toks) XU:=Sx;show lD<|u7<|C.pure<|C.bind (C.bind (C.onRaise ?_));have k3:∀b o,b∉[qe,lX,FW]->pK.heap.get? b=O o->uq.get? b=O o:=λb o D e=>by simp only[bq,mX,or_false,not_or]at D;show Ie.extBut _ _ D.2.1 (xl.extBut _ _ D.2.2 (Ic.extBut _ _ D.1 e))
 have g3:lF Q_.in1 Sw NI H9 NJ FV JS R_ S_ {pK with heap:=uq,toks:=pK.toks+1}:=hg.frame xm λb D o e=>k3 b o (λq=>by
  revert D;apply Dn q<;>intro D
  .show aY.2.2.2.2.2.2.1 D
  .show aY.2.2.2.2.2.2.2.2.1 D
  .show aY.2.2.2.2.2.2.2.2.2 D) e
 show C.bind<|g3.nextOf bK hj DL Ot Ou Ov hF λv s4 hv hg4 m4 ak1=>C.pure<|have V_:=m4.keep _ _ (λq=>aY.2.2.2.2.2.2.2.2.1 (cw _ q)) Sx;lD<|jV V_ Z<|lD (TR V_ λzQ Ig Qp=>?_);replace Ig:j3 zQ lX (ag NK pK.toks) v:=Ig;show lD<|u7<|C.pure<|C.pure<|lD<|jV Ig Z<|lD<|wpAny_newTuple<|have W_:=Qp.extBut _ _ aY.2.1.symm (m4.keep _ _ (λq=>aY.2.2.2.2.2.2.1 (cw _ q)) (Ie.extBut _ _ aY.2.1.symm (xl.extBut _ _ aY.2.2.1.symm Ib)));have aeV:=Qp.extBut _ _ aY.2.2.2.2.2.1.symm (m4.keep _ _ (λq=>aY.2.2.2.2.2.2.2.2.2 (cw _ q)) (Ie.extBut _ _ aY.2.2.2.2.2.1.symm aiD));have aiE:=cj W_;C.bind<|have aiF:mV (zQ.push {cls:=ao "tuple",data:=bQ #[ag NK pK.toks,v]}) qe vZ lX J4:=aZ _ W_;lD (Ao aiF bD λadh X_ aeW=>?_);replace X_:mV adh qe vZ lX (da zQ.objs.size):=X_;show cS (Ao X_ (EZ [c9 ab,R vZ,R lX].length) λadk Y_ aeX=>?_);replace Y_:mV adk qe vZ lX (da zQ.objs.size):=Y_;have up:∀c o,c≠qe->zQ.get? c=O o->adk.get? c=O o:=λc o c1 e=>aeX.extBut _ _ c1 (aeW.extBut _ _ c1 (aZ _ e));have k48:∀b o,b∉[qe,lX]->s4.heap.get? b=O o->adk.get? b=O o:=λb o D e=>by simp only[bq,mX,or_false,not_or]at D;show up _ _ D.1 (Qp.extBut _ _ D.2 e)
 have hTn:pK.heap.get? zQ.objs.size=ah:=by
  cases q:pK.heap.get? zQ.objs.size with
  |none=>rfl
  |some o=>
   have qK:∀y,zQ.get? y≠ah->zQ.objs.size≠y:=λy hy e=>hy (by show e▸?_;show bz _);have q3:=k3 _ _ (λhm=>by
    simp only[bq,mX,or_false]at hm;rcases hm with e|e|e
    .show qK qe (by rw[W_];decide) e
    .show qK lX (by rw[Ig];simp) e
    .show qK FW (by rw[aeV];decide) e) q
   show dF (ak1 _ _ q3) λo' q4=>?_;have:=cj q4;rw[<-Qp.1]at this;show absurd this (gv _)
 show C.pure<|cn (R zQ.objs.size) Z<|C.pure<|have m3:Tg NI (qe::lX::FW::H9::FV) pK {pK with heap:=uq,toks:=pK.toks+1}:=Tg.heap λb o D e=>k3 b o (λq=>D (by apply Dn q<;>ext)) e;have m48:Tg NI [qe,lX] s4 {s4 with heap:=adk,toks:=s4.toks}:=Tg.heap k48;hQ v _ zQ.objs.size pK.toks (hP _ _ _ _ hv) Y_ (up _ _ aY.1 (Qp.extBut _ _ aY.2.2.2.1 (m4.keep _ _ (λq=>aY.2.2.2.2.2.2.2.1 (cw _ q)) (Ie.extBut _ _ aY.2.2.2.1 (xl.extBut _ _ aY.2.2.2.2.1 (Ic.extBut _ _ aY.1 XN)))))) (up _ _ aY.2.1 Ig) (up _ _ aY.2.2.1 aeV) (aeX.extBut _ _ (oR aiE) (aeW.extBut _ _ (oR aiE) (bI _ Z))) hTn (hg4.frame xm λb D o e=>k48 b o (λq=>?_) e) ((m3.trans m4 λd hd=>ak (bV _ (bV _ (bV _ hd)))).trans m48 λd hd=>ak ?_)
 .revert D;apply se q<;>intro D
  .show aY.2.2.2.2.2.2.1 D
  .show aY.2.2.2.2.2.2.2.2.1 D
 .apply se hd<;>ext
theorem Qq{F:zw}{z:af}{x:Int}{u0:aa}{u1:aa}{P:Nat->aa->Prop}{Q:Option aa->ae->Prop}:C7 A s a g aS fp wr n₀ F j z TI TO i1 x left u0 u1 P Q:=Yw (P:=H8) T_ (((((A,s),a),(g,aS)),(((fp,wr),n₀),(F,j))),((((z,TI),TO),(i1,x)),(((left,u0),u1),(P,Q))))
end
noncomputable abbrev Z_(h:aQ)(x n c:Int):aQ:=h.push {cls:=ao "range_iterator",dict:=ah,data:=bF #[da x,da n,da c],slots:=#[]}
abbrev adl(h:aQ)(a:af)(x n c:Int):aQ:=(Z_ h x n c).push {cls:=ao "tuple",data:=bQ #[R h.objs.size,R a]}
abbrev adm(h:aQ)(a:af)(x n c:Int):aQ:=(adl h a x n c).push {cls:=ao "tuple",data:=bQ #[aA,aA]}
abbrev adn(h:aQ)(a:af)(x n c:Int):aQ:=(adm h a x n c).push {cls:=ao "zip",data:=bF #[aA,c9 ab,c9 ab,R (Z_ h x n c).objs.size,R (adl h a x n c).objs.size]}
theorem Sy(rr a:af)(g:Nat)(x y c:Int)(t u v:a8)(hs:vp x y c=N):
 qj (Builtin.«zip.__new__» ⟨[ao "zip",R rr,R a],[]⟩) (λ_ aN s=>qi s.heap rr x y c t u v/\s.heap.IsGen a g/\
  aN (bW (cB (R (adm s.heap a x (lR x y c) c).objs.size))) {s with heap:=adn s.heap a x (lR x y c) c}):=
 qC λprog w A aN s h=>by obtain⟨hp,gg,d,tk,os⟩:=s;obtain⟨hr,hg,h⟩:=h;have vW:=sub_zip;have hR:qi (Wl ⟨hp,gg,d,tk,os⟩) rr x y c t u v:=hr;have hG:Heap.IsGen (Wl ⟨Z_ hp x (lR x y c) c,gg,d,tk,os⟩) a g:=ff hg λo nm qn ho r=>Bj o nm qn (aZ _ ho) r;wp_walk using An hR hs,Ei hG;show⟨_,rfl,h⟩
theorem Zw{t v:a8}(hr:qi s.heap rr 0 n 1 t u v)(hg:s.heap.IsGen a g)(hn:n<=1000)(h:∀h',mV h' (s.heap.objs.size+3) (s.heap.objs.size+1) (s.heap.objs.size+2) aA->j3 h' (s.heap.objs.size+1) (R s.heap.objs.size) (R a)->
 j3 h' (s.heap.objs.size+2) aA aA->ml h' s.heap.objs.size 0 n 1->h'.objs.size=s.heap.objs.size+4->
 (∀c o,s.heap.get? c=O o->h'.get? c=O o)->Q (R (s.heap.objs.size+3)) {s with heap:=h'}):
 aE (aD prog w) A (call (ao "zip") [R rr,R a]) Q a0 s:=by
 show Ku F.called_zip (rfl) (F.typeCall_zip_2 _ _) (F.newCall_zip_2 _ _) (λobj=>PySem.F.args_object_init_3 obj _ _) PySem.F.entry_zip_new
  (Sy rr a g 0 n 1 t u v (u9 fF (kbt_pos 62) fF au)) (gI hr hg ?_)
 have W0:lR 0 (n:Int) 1=(n:Int):=by rw[uZ];split<;>lia
 show W0.symm▸?_;have z1:(Z_ s.heap 0 n 1).objs.size=s.heap.objs.size+1:=dD ..;have z2:(adl s.heap a 0 n 1).objs.size=s.heap.objs.size+2:=by rw[dD,z1]
 have z3:(adm s.heap a 0 n 1).objs.size=s.heap.objs.size+3:=by rw[dD,z2]
 have g4:(adn s.heap a 0 n 1).get? (adm s.heap a 0 n 1).objs.size=O _:=bI _ Z;have g3:(adn s.heap a 0 n 1).get? (adl s.heap a 0 n 1).objs.size=O _:=aZ _ (bI _ Z);have g2:(adn s.heap a 0 n 1).get? (Z_ s.heap 0 n 1).objs.size=O _:=aZ _ (aZ _ (bI _ Z));rw[z1,z2,z3]at g4;rw[z2]at g3;rw[z1]at g2;rw[z3];show⟨(cn _ g4 Z),h _ g4 g2 g3 (aZ _ (aZ _ (aZ _ (bI _ Z)))) (by rw[dD,z3]) λc o x=>aZ _ (aZ _ (aZ _ (aZ _ x)))⟩
def C8(A:bR)(a0:aa->ae->Prop)(s:ae)(z:af)(TI:af)(TO:af)(i1:af)(a:af)(x:Int)(left:Int)(Q:Option aa->ae->Prop):Prop:=∀(hh:dh A) (hi:i1≠z) (hz:mV s.heap z TI TO aA) (XN:j3 s.heap TI (R i1) (R a)) (h1:ml s.heap i1 x left 1) (Cf:left<=0) (hQ:∀h',(∀c o,c≠z->s.heap.get? c=O o->h'.get? c=O o)->Q ah {s with heap:=h'}),aE (aD prog w) A (gY (R z)) Q a0 s
def Ih(c:(((bR×(aa->ae->Prop))×ae)×((af×af)×af))×(((af×af)×Int)×(Int×(Option aa->ae->Prop)))):Prop:=C8 c.1.1.1.1 c.1.1.1.2 c.1.1.2 c.1.2.1.1 c.1.2.1.2 c.1.2.2 c.2.1.1.1 c.2.1.1.2 c.2.1.2 c.2.2.1 c.2.2.2
def jq:=Bm Ih inferInstance
def aaa:=jq.1.1.2
def NN:=jq.1.2.1.1
def NO:=jq.1.2.1.2
def NP:=jq.1.2.2
def ado:=jq.2.1.1.1
def Ii:=jq.2.1.2
theorem aab:C8 jq.1.1.1.1 jq.1.1.1.2 aaa NN NO NP ado jq.2.1.1.2 Ii jq.2.2.1 jq.2.2.2:=λhh hi hz XN h1 Cf hQ=>by
 have hT:aaa.TypeIs (R NN) "zip" :=cn _ hz Z;show aj (u5 (jT hT FC
  (jU FC hT VW ?_ (VS _))))
 show(?_:aE _ _ (sU (R NN) 2>>=_) _ _ _);show aj<|gN hz Z (x:=c9 ab) Z<|aj<|gN hz Z (x:=R NO) Z<|aj<|jV XN Z<|aj<|aj<|gN hz Z (x:=aA) Z<|aC<|aj<|rl<|aj<|gN hz Z (x:=R NP) Z<|aj (Ao hz bD λU Ib Ic=>?_);replace Ib:mV U NN NO NP J4:=Ib;show aj<|aj<|aj<|Kr<|aj<|C6 hh (Ic.extBut _ _ hi h1) Cf λku e xl he=>bf he λoe hoe hce=>have aeY:=xl _ _ Ib;Ao aeY bD λuq _ Ie=>aj<|mj (T:= "StopIteration") (b:=N) (cn oe (Ie.extBut _ _ (λIi=>by subst Ii;rw[aeY]at hoe;obtain rfl:=aW hoe;simp at hce) hoe) hce) Km<|aC (hQ _ λc o c1 Ii=>Ie.extBut _ _ c1 (xl _ _ (Ic.extBut _ _ c1 Ii)))
theorem adp{z:af}{x:Int}{Q:Option aa->ae->Prop}:C8 A a0 s z TI TO i1 a x left Q:=Yw (P:=Ih) aab ((((A,a0),s),((z,TI),TO)),(((i1,a),x),(left,Q)))
noncomputable def lz(ws:Nat->Nat)(i:Nat):List Int:=(aJ i).map λj=>ai (ws j)
theorem Cg(ws:Nat->Nat)(i:Nat):lz ws (i+1)=lz ws i++[ai (ws i)]:=by
 delta lz
 rw[rD,jH];rfl
section
variable{F:zw}{ws:Nat->Nat}
inductive af6(A:bR)(a:af)(g:Nat)(aS:af)(fp wr:List af)(n₀:Nat)(F:zw)(ws:Nat->Nat)(z TI TO i1 bh aY:af)(s:ae)(k:Nat)(Y:ae):Prop
 |mk (i:Nat) (m':aV->Option aa) (ys:List aa) (n:Nat) (u0 u1:aa) (e:k=n₀+1 - i) (hi:i<=n₀) (hz:mV Y.heap z TI TO aA) (ti:j3 Y.heap TI (R i1) (R a)) (to:j3 Y.heap TO u0 u1) (r:ml Y.heap i1 (i:Int) ((n₀:Int) - i) 1)
  (g1:lF A.in1 a g aS fp wr n₀ F i Y) (nn:Y.heap.Ns bh m') (d:Y.heap.get? aY=O (bp ys n)) (ia:fk ys (lz ws i)) (t:Tg g (z::TO::i1::bh::aY::aS::wr) s Y)
theorem aeZ{x c e f g:af}{l:List af}{P:Prop}(h:x∉a::b::c::d::e::f::g::l)(k:x≠a->x≠b->x≠c->x≠d->x≠e->x≠f->x≠g->x∉l->P):P:=
 have h1:=MF h;have h2:=MF h1;have h3:=MF h2;have h4:=MF h3;have h5:=MF h4;have h6:=MF h5
 k (vE h) (vE h1) (vE h2) (vE h3) (vE h4) (vE h5) (vE h6) (MF h6)
theorem aiG{x c e f:af}{l:List af}{P:Prop}(h:x∉a::b::c::d::e::f::l)(k:x≠a->x≠b->x≠c->x≠d->x≠e->x≠f->x∉l->P):P:=
 aeZ (hb (yn x).symm h) λ_=>k
theorem Qr{x c:af}{l:List af}(h1:x≠a)(h2:x≠b)(h3:x≠c)(h:x∉l):x∉a::b::c::l:=hb h1 (hb h2 (hb h3 h))
theorem Sz{z bh aY:af}{pk pw pw2:cJ}(hh:dh A)(bK:A.depth<mS)(iO:aiC z TI TO i1 (a::aS::fp))(DL:a≠aS)(Ot:a∉wr)(xm:cG∈fp)(Ou:cG≠aS)(Ov:cG∉wr)(hwf:∀b∈wr,b∈fp)(hF:F.DJ)(hP:∀i v s Y,F i v s Y->∃tk,v=ag (ai (ws i)) tk)(hn:n₀<=1000)(hK:bh∉z::TI::TO::i1::aY::a::aS::fp)(hD:aY∉z::TI::TO::i1::a::aS::fp)(af7:cenv.locals=bh)(zo:cenv.scope.kind=dZ)(ak2:cenv.kindOf (NM 92)=O cU)(hk7:cenv.kindOf (NM 7)=O cU)(hz:mV s.heap z TI TO aA)(XN:j3 s.heap TI (R i1) (R a))(hTO:∃u0 u1,j3 s.heap TO u0 u1)(h1:ml s.heap i1 0 n₀ 1)(hg:lF A.in1 a g aS fp wr n₀ F 0 s)(wK:s.heap.Ns bh m0)(oy:s.heap.get? aY=O (bp [] 0))(hR:∀Y ys n m',Tg g (z::TO::i1::bh::aY::aS::wr) s Y->Y.heap.get? aY=O (bp ys n)->fk ys (lz ws n₀)->Y.heap.Ns bh m'->(∀b∈aS::fp,∃o,Y.heap.get? b=O o)->aN (bW cL) Y):
 CC A (hx (cE (aq (NM 7) pw) [⟨fM [aq (NM 92) pk,aq (NM 7) pw2] 0 pt,iter,[],0⟩] scope pos) 0 (R z) (R aY) cenv) s aN:=by
 subst af7;show aeZ hK λK1 K2 K3 K4 K5 K6 K7 K8=>aiG hD λD1 D2 D3 D4 D6 D7 D8=>ud Z Z (af6 A a g aS fp wr n₀ F ws z TI TO i1 cenv.locals aY s) ?_ (n₀+1) (jg hTO λu0 u1 e=>⟨0,m0,[],0,u0,u1,rfl,fj _,hz,XN,e,h1,hg,wK,oy,qB,.refl _ _ _⟩);rintro k Y Kp P1 P2 P3 P4 Kh H0 H1 H2 H3 _ H4 ⟨i,m',ys,n,u0,u1,dX,hi,z1,ti1,to1,r1,g1,ns1,d1,ia,t1⟩;by_cases jA:i<n₀
 .show Qq (P:=λi v=>∃tk,v=ag (ai (ws i)) tk) bK iO DL Ot xm Ou Ov hwf hF hP z1 ti1 to1 r1 au g1 jA λv s1 T tk hv hz2 ak3 ak4 hr2 hT2 hTn g2 t2=>?_;obtain⟨tw,rfl⟩:=hv;have ak5:∀b o,Y.heap.get? b=O o->b≠T:=λb o e q=>by have e:=hTn▸q▸e;ext
  show H1 _ _<|cS<|wpAny_letOwnedTupleGo_zip hz2 λh3 hz3 hs3=>have hT3:Heap.IsTuple h3 T #[ag (i:Int) tk,ag (ai (ws i)) tw]:=⟨_,hs3.extBut _ _ (eS (ak5 z _ z1)) hT2,rfl,0,rfl⟩;cS<|wO (s:={s1 with heap:=h3}) hh hT3 λh4 k4=>Stores.local (aS:=cenv.locals) Z zo [92,7] [(i:Int),ai (ws i)] {s1 with heap:=h4} m' _ _ Z aL (λy hy=>?_) (((ns1.at' λo e=>t2.keep _ o (Qr K1 K3 K4 (hb K7 (λq=>K8 (hwf _ q)))) e).at' λo e=>hs3.extBut _ o K1 e).at' λo e=>k4 _ o e) λs5 m5 sb5 o5 dr5 gn5 ns5 hm5 _=>?_
  .apply se hy
   .show ak2
   .show hk7
  show H2 _<|uO<|H3 _<|dF (hm5 1 7 (ai (ws i)) Z Z) λt7 e7=>(cS (rk (xE zo hk7 ns5 e7 ?_) (wF 7)));have k15:∀b o,b∉[z,cenv.locals]->s1.heap.get? b=O o->s5.heap.get? b=O o:=λb o D e=>Dp D λh1 h2=>sb5.extBut _ _ h2 (k4 _ _ (hs3.extBut _ _ h1 e));have hly:ys.length=i:=by have:=ia.length;simpa[lz] using this
  show H4 _ _<|cS (Al (items:=ys.toArray) ⟨n,(k15 aY _ (ME D1 (eS K5)) (t2.keep _ _ (Qr D1 D3 D4 (hb D7 (λq=>D8 (hwf _ q)))) d1))⟩ (λh8 Rn wg=>?_) (by have:eN=16777216:=jX;simp;lia));show dF Rn λn8 e8=>?_;have k18:∀b o,b∉[z,cenv.locals,aY]->s1.heap.get? b=O o->h8.get? b=O o:=λb o D e=>Gd D λh1 h2 h3=>wg.extBut _ _ h3 (k15 _ _ (ME h1 h2) e);have t5:Tg g [z,cenv.locals,aY] s1 {s5 with heap:=h8}:=⟨k18,o5,dr5,by rw[show({s5 with heap:=h8}:ae).gens=s1.gens from gn5];show .refl _ _⟩;have Zd:∀b,b∈TI::TO::i1::a::aS::fp->b∉[z,cenv.locals,aY]:=λb D q=>Dn (P:=λb=>b∈TI::TO::i1::a::aS::fp->False) q (Qr (eS iO.1) (eS iO.2.1) (eS iO.2.2.1) iO.2.2.2.2.2.2.1) (Qr K2 K3 K4 (hb K6 (hb K7 K8))) (Qr D2 D3 D4 (hb D6 (hb D7 D8))) D;show Kh (n₀+1 - (i+1)) _ (dX▸rJ (kX jA) (iZ i)) ⟨i+1,m5,ys++[ag (ai (ws i)) t7],n8,ag (i:Int) tk,ag (ai (ws i)) tw,rfl,jA,(wg.extBut _ _ (eS D1) (sb5.extBut _ _ (eS K1) (k4 _ _ hz3))),k18 _ _ (Zd _ bw) ak3,k18 _ _ (Zd _ bw) ak4,?_,?_,ns5.at' λo e=>wg.extBut _ o K5 e,?_,?_,?_⟩
  .have e2:(n₀:Int) - ((i+1:Nat):Int)=(n₀:Int) - i - 1:=by lia
   rw[e2,(by lia:((i+1:Nat):Int)=(i:Int)+1)];show k18 _ _ (Zd _ bw) hr2
  .have gl:lF A.in1 a g aS fp wr n₀ F (i+1) {s5 with heap:=h8}:=g2.later xm (λb D o e=>k18 b o (Zd b (by simp only[bq]at D ⊢;show aw (aw (aw D)))) e) λgs e=>(show({s5 with heap:=h8}:ae).gens=s1.gens from gn5).symm▸e;show gl
  .rw [e8];simp[bp]
  .rw [Cg];show ia.append (yy _ _ qB)
  .show (t1.trans t2 λd hd=>ak ?_).trans t5 λd hd=>ak ?_
   .simp only[bq]at hd ⊢;rcases hd with q|q|q|q|q<;>ext
   .simp only[bq,mX,or_false]at hd ⊢;rcases hd with q|q|q<;>ext
 .have:i=n₀:=by lia
  cases this
  show cS<|adp hh iO.2.2.1 z1 ti1 r1 au λh' hk=>H0 _ (hR _ ys n m' (t1.trans (Tg.heap (X:=[z]) (tk:=Y.toks) λb o D e=>hk b o (vE D) e) λd hd=>?_) (hk _ _ D1 d1) ia (ns1.at' λo e=>hk _ o K1 e) λb D=>dF (g1.there b D) λo e=>⟨o,hk _ _ (λq=>iO.2.2.2.2.2.2.1 (bY _ (q▸D))) e⟩);apply jR hd;show ak bw
end
section
variable{Q:cb->ae->Prop}
theorem SD{a:Nat}{np3:cJ}(B:cx U mg mb)(I:dQ mg mb)(hz:Gi L "zip")(hr:Gi L "range")(he:V H U A L J G e (aT n) ab)(dH:cH e=ab)(E:ck G x=O (k,aH (R a)))(r:ER H U L J s.heap G)(hg:∀Y,dG H s Y->Y.heap.IsGen a g)(hn:n<=1000):
 T A (a7 (bx (aq (aB "zip") np) [bx (aq (aB "range") np2) [e] [] γ,aq (NM x) np3] [] pos) J) s (λv ax=>∃z TI TO i1,v=R z/\dG H s ax/\(∀y∈[z,TI,TO,i1],s.heap.get? y=ah)/\
  TI≠z/\TO≠z/\i1≠z/\TI≠TO/\TI≠i1/\TO≠i1/\mV ax.heap z TI TO aA/\j3 ax.heap TI (R i1) (R a)/\j3 ax.heap TO aA aA/\ml ax.heap i1 0 n 1):=by
 have hI:=I ("zip",ao "zip") aL;show mh<|(eG B r hz hI.1 hI.2 (rfl)).Dt<|A1 (Ff (mE ("range") ("range") B I aL hr (rfl) (fJ.cons he fJ.nil dH) (by simp[dW,dH]) r λvs ax F e1 V1=>?_) Z) Z (rfl);apply nM V1;show λt=>sO<|have e2:dG H s {ax with heap:=ax.heap.push {cls:=ao "range",data:=bF #[ag 0 ax.toks,ag (ai n) t,ag 1 (ax.toks+1)]},toks:=ax.toks+1+1}:=e1.trans ⟨.push _ _,rfl,rfl,rfl⟩;Ff (T.Dt (um (r.ext e2.ext) E) ?_) Z;show Fg (Zw (bI _ Z) (hg _ e2) hn λh' z1 ti to r1 sz k=>?_);have nN:∀m:Nat,s.heap.get? ((ax.heap.push {cls:=ao "range",data:=bF #[ag 0 ax.toks,ag (ai n) t,ag 1 (ax.toks+1)]}).objs.size+m)=ah:=λm=>e2.ext.new (by
  cases q:(ax.heap.push {cls:=ao "range",data:=bF #[ag 0 ax.toks,ag (ai n) t,ag 1 (ax.toks+1)]}).get? ((ax.heap.push {cls:=ao "range",data:=bF #[ag 0 ax.toks,ag (ai n) t,ag 1 (ax.toks+1)]}).objs.size+m) with
  |none=>rfl
  |some o=>show absurd (cj q) (j5.mpr (iY _ _)))
 show⟨_,_,_,_,rfl,e2.trans ⟨.of_keep k,rfl,rfl,rfl⟩,λy hy=>?_,λq=>absurd (ym q) (uj Z),λq=>absurd (ym q) (uj Z),λq=>absurd (ym (m:=0) q) (uj Z),λq=>absurd (ym q) (uj Z),λq=>absurd (ym (k:=0) q) (uj Z),λq=>absurd (ym (k:=0) q) (uj Z),z1,ti,to,r1⟩;apply tO hy
 .show nN 3
 .show nN 1
 .show nN 2
 .show nN 0
end
theorem PL.erE(p:PL H U L J aK bo bu G S br Gs s):ER [] s.heap L J s.heap G:=
 have e:=p.er
 ⟨.refl _,e.kind,e.gl,e.WH,e.glob,e.bi,e.loc,e.has⟩
theorem aac{a:Nat}{cl:af}{oa oC oI So:bE}{gs:eV}{pw pk pw2 np3 aiH:cJ}(hh:dh A)(bK:A.depth<900)(B:cx U mg mb)(I:dQ mg mb)(hT:gm U)(p:PL H U L J aK bo bu G S br Gs s)(hG:lW G)(hc:ed L scope [] [92,7])(hz:Gi L "zip")(hr:Gi L "range")(he:V [] s.heap A L J G e (aT n) ab)(dH:cH e=ab)(E:ck G x=O (k,aH (R a)))(hn:n<=1000)(Wt:A_ U ns b dx d a g aS Ia cl n oa oC oI So gs)(hL:∀y∈[(a,oa),(aS,oC),(Ia,oI),(cl,So)],y∈br)(hS:∀y∈ji b dx d ns,y∈S)(hGs:(g,gs)∈Gs)(DL:a≠aS)(haI:a≠Ia)(hmC:ko oC=N)(hmI:ko oI=N)(hL':∀y∈L',y∈br/\y.1≠aS/\y.1≠Ia)(hq:∀Y aY ys m,fk ys (lz (λi=>wordAt ns (8 * i)) n)->PL H U L J aK bo bu G S ((aY,bp ys m)::L') [] Y->Q (R aY) Y):
 C A (a7 (cE (aq (NM 7) pw) [⟨fM [aq (NM 92) pk,aq (NM 7) pw2] 0 pt,bx (aq (aB "zip") np) [bx (aq (aB "range") np2) [e] [] γ,aq (NM x) np3] [] aiH,[],0⟩] scope pos) J) s Q:=by
 have r0:=p.erE;show bf (hc.OL r0 Z) λXO jB _=>?_;have aad:∀s2:ae,(uk s.heap s2.heap)->s2.gens=s.gens->∀A':bR,dh A'->lF A' a g aS (Qj U++[b,dx,d,cl,Ia]) [Ia] n (xr ns) 0 s2:=λs2 k2 g2 A' R8=>
  Wt s2 (λy o ht e=>k2 _ _ (p.ps.ext.keep y o ht e)) (λy hy=>k2 _ _ (p.getL (hL y hy))) (λy hy=>k2 _ _ (p.sg y (hS y hy)).1) (by show g2.symm▸?_;show(p.gk _ hGs).1) A' R8
 show Qo (gs:=[]) hc Z (λ_=>rfl) jB<|Lake.T.wx (SD (a:=a) (g:=g) (p.ps.base B) I hz hr he dH E r0 (λY e'=>(aad Y (e'.keeps.elim λh' q=>q.elim λtk q=>q.1▸q.2) e'.gens A hh).gen) hn) λv s1 ow=>gr ow λz TI TO i1 hv e1 nN i=>dU i λd1 d2 d3 d4 d5 d6 z1 i=>hJ i λti1 to1 r1=>hv▸have ke:∀b o,s.heap.get? b=O o->s1.heap.get? b=O o:=e1.keeps.elim λh' q=>q.elim λtk q=>q.1▸q.2;cS (Kj z1 ?_);intro aY bh h3 tk _ _ old hD1 hK1 Δ oy sk;have neD:∀b o,s1.heap.get? b=O o->aY≠b:=λb o e q=>by have e:=hD1▸q.symm▸e;ext
 have neK:∀b o,s1.heap.get? b=O o->bh≠b:=λb o e q=>by have e:=hK1▸q.symm▸e;ext
 have exs:∀y∈a::aS::(Qj U++[b,dx,d,cl,Ia]),∃o,s.heap.get? y=O o:=λy hy=>by have hw:=aad s (λ_ _ e=>e) Z A hh;show ba (bq.mp hy) (λq=>ff hw.gen λo _ _ e _=>⟨o,by rw[q];show e⟩) λq=>hw.there y q
 have apart:∀y∈[z,TI,TO,i1],y∉a::aS::(Qj U++[b,dx,d,cl,Ia]):=λy hy q=>by show dF (exs y q) λo e=>?_;have e:=(nN y hy)▸e;ext
 have hcL:∀y∈[aS,Ia],cG≠y:=λy hy q=>by
  show og λgG kG=>bf B.lim λmc i1 _=>ff i1 λo _ _ e _=>kG ?_;clear kG gG;have:U.get? y=ah:=by
   apply se hy
   .show (p.lg _ (hL (aS,oC) bw)).2.2.2.1
   .show (p.lg _ (hL (Ia,oI) bw)).2.2.2.1
  have this:=e▸q.symm▸this;ext
 have ex1:∀y∈z::TI::TO::i1::a::aS::(Qj U++[b,dx,d,cl,Ia]),∃o,s1.heap.get? y=O o:=λy hy=>by
  rcases bq.mp hy with q|hy
  .show ⟨_,q▸z1⟩
  rcases bq.mp hy with q|hy
  .show ⟨_,q▸ti1⟩
  rcases bq.mp hy with q|hy
  .show ⟨_,q▸to1⟩
  show ba (bq.mp hy) (λq=>⟨_,q▸r1⟩) λhy=>dF (exs y hy) λo e=>⟨o,ke y o e⟩
 have hDn:aY∉z::TI::TO::i1::a::aS::(Qj U++[b,dx,d,cl,Ia]):=λq=>dF (ex1 aY q) λo e=>(neD _ _ e Z);have hKn:bh∉z::TI::TO::i1::aY::a::aS::(Qj U++[b,dx,d,cl,Ia]):=λq=>by
  have q2:bh=aY\/bh∈z::TI::TO::i1::a::aS::(Qj U++[b,dx,d,cl,Ia]):=by
   simp only[bq]at q ⊢;rcases q with q|q|q|q|q|q|q|q
   .show aw (ak q)
   .show aw (aw (ak q))
   .show aw (aw (aw (ak q)))
   .show aw (aw (aw (aw (ak q))))
   .show ak q
   .show aw (aw (aw (aw (aw (ak q)))))
   .show aw (aw (aw (aw (aw (aw (ak q))))))
   .show aw (aw (aw (aw (aw (aw (aw q))))))
  show ba q2 (λq2=>Δ q2.symm) λq2=>dF (ex1 bh q2) λo e=>(neK _ _ e Z)
 have kl:∀y∈([92,7]:LN),(ju scope J).names.lookup (NM y)=O cU:=λy hy=>by
  rcases pg (vn:=J) (hc.locs y hy) with e|⟨e,_⟩
  .show e
  .ext
 have loop:=Sz (A:=A) (s:={s1 with heap:=h3,toks:=tk}) (a:=a) (g:=g) (aS:=aS) (fp:=Qj U++[b,dx,d,cl,Ia]) (wr:=[Ia]) (n₀:=n) (F:=xr ns) (ws:=λi=>wordAt ns (8 * i)) (z:=z) (TI:=TI) (TO:=TO) (i1:=i1) (bh:=bh) (aY:=aY) (pk:=pk) (pw:=pw) (pw2:=pw2) (pt:=pt) (pos:=pos)
  (iter:=bx (aq (aB "zip") np) [bx (aq (aB "range") np2) [e] [] γ,aq (NM x) np3] [] aiH) (scope:=scope) (cenv:=jt scope XO bh J)
  (aN:=λr Y=>match r with|bW _=>∃m,Y.heap.Ns bh m/\∀h',gu bh Y.heap h'->Q (R aY) {Y with heap:=h'} |j6 _=>False) (m0:=λ_=>ah)
  hh au (⟨d1,d2,d3,d4,d5,d6,apart z bw,apart TI bw,apart TO bw,apart i1 bw⟩) DL (λq=>haI (by simpa using q)) (de _ (Ca.mpr ⟨bf B.lim λmc i _=>ff i λo _ _ e _=>⟨o,e⟩,DU Z⟩)) (hcL aS bw) (λq=>hcL Ia bw (by simpa using q)) (λy hy=>by have hy:=bq.mp hy;lia) (ND ns) (λ_ _ _ _ h=>h) hn hKn hDn Z hc.kind (kl 92 bw) (kl 7 bw)
  (old _ _ z1) (old _ _ ti1) (qG _ _ (old _ _ to1)) (old _ _ r1) (aad {s1 with heap:=h3,toks:=tk} (λb o e=>old b o (ke b o e)) e1.gens A.in1 hh) sk oy λY ys m m' t hd ia ak6 hth=>?_
 .show pJ Z loop (cS (Kj (old _ _ z1) loop))
 .show cn m' ak6 (λh'' OO=>?_);have keep:∀y o,y∉[aS,Ia]->s.heap.get? y=O o->h''.get? y=O o:=λy o hy e=>by
   have Rj:=ke y o e;have hK:y≠bh:=λq=>neK _ _ Rj q.symm;show OO.extBut _ _ hK (t.keep _ _ (λhm=>?_) (old _ _ Rj));simp only[bq,or_false]at hm hy;have nz:∀u∈[z,TI,TO,i1],y≠u:=λu hu q=>by have e:=(nN u hu)▸q▸e;ext
   rcases hm with q|q|q|q|q|q
   .show nz z bw q
   .show nz TO bw q
   .show nz i1 bw q
   .show hK q
   .show neD _ _ Rj q.symm
   .show hy q
  show hq _ aY ys m ia (p.move hG hT (X:=[aS,Ia]) keep (t.os.trans e1.os) (t.drawn.trans e1.drawn) ?_ (λy hy=>?_) (λy hy=>?_) (zi))
  .show l9.new (b:=s.gens) p.mod.gens ?_ (p.gk _ hGs).2;have:=t.gens;rw[show({s1 with heap:=h3,toks:=tk}:ae).gens=s.gens from e1.gens]at this;show this
  .have hKC:∀u∈aS::(Qj U++[b,dx,d,cl,Ia]),u≠bh:=λu hu q=>hKn (by show q▸?_;simp only[bq]at hu ⊢;show aw (aw (aw (aw (aw (aw hu))))));apply se hy
   .show cn oC (hL _ bw) hmC
   .show cn oI (hL _ bw) hmI
  .rcases bq.mp hy with q|q
   .show q▸⟨aw ?_,OO.extBut _ _ Δ hd⟩;cases q2:s.heap.get? aY with|none=>rfl|some o=>show absurd Z (neD _ _ (ke _ _ q2))
   .show hJ (hL' y q) λq1 q2 q3=>⟨ak (bH.mpr (cn y q1 Z)),keep _ _ (by simp[q2,q3]) (p.getL q1)⟩
def wordsOf(ns:LN)(n:Nat):LN:=(aJ n).map λi=>wordAt ns (8 * i)
theorem NQ(ns:LN)(n:Nat):lz (λi=>wordAt ns (8 * i)) n=(wordsOf ns n).map λx=>ai x:=by
 delta lz wordsOf
 rw[qo];rfl
section
variable{Q:cb->ae->Prop}
theorem PL.adq(p:PL H U L J aK bo bu G S br Gs s)(h:∀y∈L',y∈br):PL H U L J aK bo bu G S L' Gs s:=
 ⟨lZ p.fr λW r a b c=>(wC W r a b (λy hy=>c y (h y hy))),p.sg,λy hy=>p.lg y (h y hy),p.mod,p.lE,p.gk⟩
theorem aae{a bt:Nat}{cl:af}{oa oC oI So:bE}{gs:eV}(hh:dh A)(bK:A.depth<900)(B:cx U mg mb)(I:dQ mg mb)(I2:uc mg mb)(dB:Eb U P t fd)(hT:gm U)(p:PL H U (bc jn) J aK bo bu G S br Gs s)(hG:lW G)(dH:bT G 93=N)(E:ck G 71=O (k,aH (R a)))(hec:ck G 98=O (k2,aH (R i)))(hE:Cc U i [1,bt,n])(hn:n<=100)(hw:l8 (wordsOf ns n))(Wt:A_ U ns b dx d a g aS Ia cl n oa oC oI So gs)(hL:∀y∈[(a,oa),(aS,oC),(Ia,oI),(cl,So)],y∈br)(hS:∀y∈ji b dx d ns,y∈S)(hGs:(g,gs)∈Gs)(DL:a≠aS)(haI:a≠Ia)(hmC:ko oC=N)(hmI:ko oI=N)(hL':∀y∈L',y∈br/\y.1≠aS/\y.1≠Ia)(kk:∀Y bl,(∀y∈S,y.1≠bl)->(∀y∈L',y.1≠bl)->PL H U (bc jn) J aK bo bu (jk G 93 0 (aH (R bl))) ((bl,kF (wordsOf ns n))::S) L' [] Y->C A (aU rest J) Y Q):
 C A (aU (a9 Sv 0::rest) J) s Q:=by
 have hI:=I ("bytearray",ao "bytearray") aL;show ij<|Ae (x:=93) Z<|fV<|T.wX (eG (p.ps.base B) p.erE Z hI.1 hI.2 (rfl))<|dg (rfl) (eu (cu (aac (L':=L') (n:=n) (x:=71) hh bK B I hT p hG (ed.of (rfl)) Z Z (JR (x:=98) bK (p.ps.base B) I I2 (dB.ext p.ps.ext) (hE.ext p.ps.ext) hec) Z E au Wt hL hS hGs DL haI hmC hmI hL' λs2 aY ys m ia p2=>c8 (iI ⟨rfl,?_⟩))));rw[NQ]at ia;show uJ ("list") m (p2.getL (cR ..)) (ak Z) ia hw.1 hw.2<|bf p2.open λW2 ps2 aaf=>have p3:=aaf _ _ _ _ (ps2.sv (o:=kF (wordsOf ns n)) (tk:=s2.toks) B Z Z);have p3:PL H U (bc jn) J aK bo bu G ((s2.heap.objs.size,kF (wordsOf ns n))::S) L' [] {s2 with heap:=s2.heap.push (kF (wordsOf ns n)),toks:=s2.toks}:=p3.adq λy hy=>bY _ hy;T.wx (p3.store (ak Z) dH (.ik _)) λ_ s4 p4=>kk s4 _ (λy hy q=>?_) (λy hy q=>?_) p4
 .have:=cj (p2.sg y hy).1;rw[q]at this;show gv _ this
 .have:=cj (p2.getL (bV _ hy));rw[q]at this;show gv _ this
end
section
variable{Q:cb->ae->Prop}
theorem Ij(ho:U.get? a=O (kF ns))(ht:a∉bX)(hB:l8 ns)(he:V H U A L J G e (aH (R a)) ab)(hh:V H U A L J G lo (aT k) ab)(hk:k<=ns.length):
 s_ H U A L J G (dk e (mq (O lo) eX eX p) pos) (ns.drop k):=λs r=>by
 show rO<|(he s r).ο λax e1=>Et<|(hh ax (r.ext e1.ext)).CA λt dp e2=>(aC (aC ?_));have YC:=e1.trans e2;have t_:(dp.heap.push {cls:=ao "slice",data:=bF #[ag (ai k) t,aA,aA]}).get? a=O (kF ns):=aZ _ ((r.base.trans YC.ext).keep a _ ht ho);have hsz:=gJ ns;have hse:tJ (rZ ns) (min (k:Int) (rZ ns).size) ((rZ ns).size:Int) 1=rZ (ns.drop k):=by have:=JC (rZ ns) k ns.length (kY (id (lh hsz))) hk;rw[show(min (ns.length:Int) (rZ ns).size)=((rZ ns).size:Int) by lia]at this;rw[this,JP];congr 1;show KV fF
 show tH (eU t_) gz.lookup ?_ (rfl);show cQ<|aj<|uU (eU t_) (rfl)<|aj (jT (eU t_) gz (oB gz (eU t_) qa (qX _ _) (IU a _ (rZ ns) k t _ _ _ (IT k _) (by rw[hse,gJ];simp;show vj hB.2)) (gI t_ (bI _ Z) ?_)));show aC ?_;rw[hse];show⟨YC.trans ⟨(gU.push _ _).trans (.push _ _),rfl,rfl,eF _⟩,_,rfl,?_,bI _ Z⟩;have E:gU H s.heap (dp.heap.push {cls:=ao "slice",data:=bF #[ag (ai k) t,aA,aA]}):=YC.ext.trans (.push _ _);show E.new (bz _)
theorem aag{cp:cJ}(p:PS H U L J aK bo bu G S s)(B:cx U mg mb)(I:dQ mg mb)(kQ:Gi L "bytearray")(hy:ck G y=O (k,aH (R a)))(ha:(a,kF ns)∈S)(hn:l8 ns)(dH:bT G x=N)(E:Hx L x)(hs:fz (bx (aq (aB "bytearray") np) [aq (NM y) p1] [] cp) (O (aq (NM x) q)) pos.line J=pure ab)(kk:∀Y b,(∀z∈S,z.1≠b)->PS H U L J aK bo bu (jk G x 0 (aH (R b))) ((b,kF ns)::S) Y->C A (aU rest J) Y Q):
 C A (aU (ez [aq (NM x) q] (bx (aq (aB "bytearray") np) [aq (NM y) p1] [] cp) pos::rest) J) s Q:=by
 have hI:=I ("bytearray",ao "bytearray") aL;show yO (τ':=H) (U:=U) (aK:=aK) (bo:=bo) (bu:=bu) dH E hs<|fV<|T.wX (eG (p.base B) p.er kQ hI.1 hI.2 (rfl))<|dg (rfl) (eu (cu (Lake.T.wX (um p.er hy) (c8 (iI ⟨rfl,?_⟩)))));show ϕ (b:=rZ ns) (p.get ha) (by rw[gJ];show hn.2) ((DW _ (aH (R s.heap.objs.size)) [] (p.sv (o:=kF ns) (tk:=s.toks) B Z Z) (.ik _) Z (λY p'=>kk Y _ (λz hz e=>?_) p')));have:=cj (p.sg z hz).1;rw[e]at this;show gv _ this
end
def gR(m1 m2 l1 l2 gp rr bl:af)(ne:Nat):iB:=[(101,0,aH (R rr)),(100,0,aH (R gp)),(99,0,aT ne),(97,0,aH (R 1890)),(96,0,aH (R 1888)),(95,0,aH (R m2)),(94,0,aH (R m1)),(93,0,aH (R bl)),(86,0,aH (R l2)),(85,0,aH (R l1))]
section
variable{Q:cb->ae->Prop}
theorem PL.less(p:PL H U L J aK bo bu G S br Gs s)(g:kr G' G):PL H U L J aK bo bu G' S br Gs s:=
 ⟨bf p.fr λW r a=>(cn W (r.less g) a),p.sg,p.lg,p.mod,p.lE,p.gk⟩
theorem PL.inter(p:PL H U L J aK bo bu G S br Gs s)(hk:L.kind=dZ):iJ J=ab:=by delta iJ;show p.scope.symm▸hk.symm▸?_;rfl
theorem PL.aiI(p:PL H U L J aK bo bu G S br Gs s)(h:∀y∈S',y∈S):PL H U L J aK bo bu G S' br Gs s:=
 ⟨lZ p.fr λW r a b c=>(wC W r a (λy hy=>b y (h y hy)) c),λy hy=>p.sg y (h y hy),λy hy=>jc (p.lg y hy) λa b c d e=>(Yv a b c d (λq=>e (bf (bH.mp q) λz hz q2=>bH.mpr ⟨z,h z hz,q2⟩))),p.mod,λy hy=>p.lE y (h y hy),p.gk⟩
theorem ads{lg:LN}{Lx:Sg}{m1 m2 l1 l2 gp rr bl n1 n2:Nat}{tr ur vr:a8}(hh:dh A)(B:cx U mg mb)(I:dQ mg mb)(hT:gm U)(T1:L_ U lg ex gen gp)(p:PL H U (bc jn) J aK bo bu G ((bl,kF ws)::S) br [] s)(hG:kr (gR m1 m2 l1 l2 gp rr bl gen.length) G)(hL:∀y∈[(l1,bp [] n1),(l2,bp [] n2),(m1,nW "list.append" (R l1)),(m2,nW "list.append" (R l2))],y∈br)(h12:l2≠l1)(hm2:m2≠l1)(hw:l8 ws)(dM:ws.length<=100)(hr:(rr,mL gen.length tr ur vr)∈S)(hLx:∀y∈Lx,y∈br/\y.1≠l1/\y.1≠l2)(kk:∀Y Ox k1 k2,(∀y∈S,y.1≠Ox)->bl≠Ox->PL H U (bc jn) J aK bo bu [(86,0,aH (R l2)),(85,0,aH (R l1))] ((Ox,kF ((gV lg ex gen (ws++b8 gen.length 0) ws.length).drop ws.length))::(bl,kF ws)::S) ((l1,bp [R bl] k1)::(l2,bp [R Ox] k2)::Lx) [] Y->C A (aU rest J) Y Q):
 C A (aU (a9 Sv 1::a9 Sv 2::a9 Sv 3::a9 Sv 4::a9 Sv 5::a9 Sv 6::rest) J) s Q:=by
 have hg1:=T1.2.2.2.2.2.2.2.2;have wy:=p.inter Z;show XP (x:=94) (k:=0) (m:=m1) (l:=l1) (n:=n1) (vs:=[]) hT (p.less hG) (lW.of bG) Z (hL (m1,nW "list.append" (R l1)) bw) (hL (l1,bp [] n1) bw) (fj _) Z wy Z λW ps=>Lake.T.wX (um ps.er (x:=93) Z)<|cn _ ps (λs2 n1' p2=>?_);have p2:=p2.adq (L':=(l1,bp [R bl] n1')::(l2,bp [] n2)::(m2,nW "list.append" (R l2))::Lx) λy hy=>zI hy (ew _ (by show bJ.mpr Z)) λhy=>zI hy (de _ (gq.mpr ⟨hL (l2,bp [] n2) bw,by simpa using h12⟩)) λhy=>zI hy (de _ (gq.mpr ⟨hL (m2,nW "list.append" (R l2)) bw,by simpa using hm2⟩)) λhy=>hJ (hLx y hy) λq1 q2 q3=>(de _ (gq.mpr ⟨q1,by simpa using q2⟩));show bf p2.open λW2 q2 aaf=>PS.asg (x:=102) (av:=aT ws.length) q2 (uK (a:=bl) (q2.base B) I Z (q2.get (cR ..)) (q2.sg _ (cR ..)).2.1 hw (ar 93 Z) Z) Z Z (ak Z) Z λs3 q3=>aag (x:=103) (y:=93) (k:=0) (a:=bl) q3 B I Z Z (cR ..) hw Z (ak Z) Z λs4 eb heb q4=>have aiJ:l8 (ws++b8 gen.length 0):=hw.app fF jx;k_ (d:=eb) (ns:=ws) (ms:=b8 gen.length 0) (S':=(eb,kF (ws++b8 gen.length 0))::(bl,kF ws)::S) hh q4 (ar 103 Z) (P0 (n:=0) (k:=gen.length) (q4.base B).top (pB (n:=0) (q4.base B).top (aR 0) Z) (ar 99 Z) au)
  (cR ..) fF jx Z Z Z wy (λy hy=>?_) λs5 q5=>?_
 .rcases bq.mp hy with e|e
  .left;rw[e];show⟨rfl,rfl⟩
  .show aw ⟨heb y e,bY _ e⟩
 show af4 (m1:=m1) (m2:=m2) (l1:=l1) (l2:=l2) (nd:=ws.length) (S:=(bl,kF ws)::S) hh B I T1 q5 (kr.rf bG bG) aiJ fF (bY _ hr) heb λs6 q6=>XP (x:=95) (k:=0) (m:=m2) (l:=l2) (n:=n2) (vs:=[]) hT (aaf _ _ _ _ q6) (lW.of bG) Z bw bw (fj _) Z wy Z λW7 ps7=>Lake.T.wx (Ij (a:=eb) (k:=ws.length) (ps7.get (cR ..)) (ps7.sg _ (cR ..)).2.1 (XT (lg:=lg) (gen:=gen) T1.2.2.2.2.2.2.1 aiJ ws.length) (ar 103 Z) (ar 102 Z) (by rw[(xu (lg:=lg) (ex:=ex) (gen:=gen) (eb:=ws++b8 gen.length 0) ws.length)];simp) s6 ps7.er) λv s8 Λ=>oY Λ λe8 b2 hv hb2 ak7=>hv▸?_;have p8:=ps7.grown hT e8.pe (br:=[(b2,kF ((gV lg ex gen (ws++b8 gen.length 0) ws.length).drop ws.length))]) λy hy=>by apply jR hy;show gI hb2 ak7 Z
 have nb2:∀y∈(eb,kF (gV lg ex gen (ws++b8 gen.length 0) ws.length))::(bl,kF ws)::S,y.1≠b2:=λy hy q=>by have:=(ps7.sg y hy).1;have this:=hb2▸q▸this;ext
 show cn _ p8<|λs9 n2' p9=>kk s9 b2 n1' n2' (λy hy=>nb2 y (bY _ (bY _ hy))) (nb2 _ (bY _ (cR ..))) (((p9.aiI λy hy=>?_).adq λy hy=>zI hy (de _ (gq.mpr ⟨by ext,by simpa using eS h12⟩)) λhy=>zI hy (ew _ (bJ.mpr Z)) λhy=>hJ (hLx y hy) λq1 q2 q3=>(de _ (gq.mpr ⟨by ext,by simpa using q3⟩))).less (kr.rf bG bG));rcases bq.mp hy with e|e
 .rw [e];lia
 .show ew _ (bY _ e)
end
section
variable{Q:cb->ae->Prop}
inductive ae0(U:aQ)(L:dw)(J:cI)(aK:ae)(bo bu:List af)(A:bR)(rest:List cg)(Q:cb->ae->Prop)(I:af)(o1:bE)(s2:ae):Prop
 |mk (τ':List af) (G2:iB) (S2 L2:Sg) (Gs2:List (Nat×eV)) (p:PL τ' U L J aK bo bu G2 S2 L2 Gs2 s2) (hG:lW G2) (hI:(I,o1)∈L2)
  (k:∀s3,PL τ' U L J aK bo bu G2 S2 (L2.filter λy=>y.1 != I) Gs2 s3->C A (aU rest J) s3 Q)
def aah(H:List af)(U:aQ)(L:dw)(J:cI)(aK:ae)(bo bu:List af)(A:bR)(G:iB)(S br:Sg)(Gs:List (Nat×eV))(x:Nat)(av:AV)(o1:bE)(body rest:List cg)(Q:cb->ae->Prop):Prop:=
 ∀s1 I,(∀z∈br,z.1≠I)->(∀z∈S,z.1≠I)->PL H U L J aK bo bu (jk G x 0 av) S ((I,o1)::br) Gs s1->C A (aU body J) s1 (λf s2=>f=cL/\ae0 U L J aK bo bu A rest Q I o1 s2)
theorem PL.XW{o0 o1:bE}(hT:gm U)(p:PL H U L J aK bo bu G S br Gs s)(hG:lW G)(hm0:ko o0=N)(hm1:ko o1=N)(dH:bT G x=N)(E:Hx L x)(hs:Fs iter J)(mk:∀P:aa->ae->Prop,(∀I s2,dG [] s s2->s.heap.get? I=ah->s2.heap.get? I=O o0->P (R I) s2)->T A (a7 iter J) s (λxv s1=>T A (gn xv) s1 P))(nx:∀(Y:ae) I (P:Option aa->ae->Prop),Y.heap.get? I=O o0->gU H U Y.heap->(∀v h' tk,bM h' av v []->h'.get? I=O o1->(∀b o,b≠I->Y.heap.get? b=O o->h'.get? b=O o)->P (O v) {Y with heap:=h',toks:=tk})->T A (gY (R I)) Y P)(en:∀(Y:ae) I τ' (P:Option aa->ae->Prop),Y.heap.get? I=O o1->gU τ' U Y.heap->(∀h' tk,(∀b o,b≠I->Y.heap.get? b=O o->h'.get? b=O o)->P ah {Y with heap:=h',toks:=tk})->T A (gY (R I)) Y P)(D:aah H U L J aK bo bu A G S br Gs x av o1 body rest Q):
 C A (aU (j7 (aq (NM x) px) iter body [] pos::rest) J) s Q:=by
 show ij (RV hs ((mk _ λI s2 e2 hIn hI=>?_).wx λxv s1 q=>T.wc q));have ke:∀b o,s.heap.get? b=O o->s2.heap.get? b=O o:=e2.keeps.elim λh' q=>q.elim λtk q=>q.1▸q.2;have p2:PL H U L J aK bo bu G S ((I,o0)::br) Gs s2:=p.move hG hT (X:=[]) (λb o _ e=>ke b o e) e2.os e2.drawn (e2.gens▸p.mod.gens) (zi) (λy hy=>by
  rcases bq.mp hy with q|q
  .show q▸⟨aw hIn,hI⟩
  .show ⟨ak (bH.mpr (cn y q Z)),ke _ _ (p.getL q)⟩) (λy hy=>by show e2.gens.symm▸?_;show p.gk y hy)
 have q_:∀z∈br,z.1≠I:=λz hz q=>by have:=p.getL hz;have this:=hIn▸q▸this;ext
 have hSI:∀z∈S,z.1≠I:=λz hz q=>by have:=(p.sg z hz).1;have this:=hIn▸q▸this;ext
 show Ϣ (λk Y=>(k=2/\Y=s2)\/(k=1/\ae0 U L J aK bo bu A rest Q I o1 Y)) ?_ 2 (ak ⟨rfl,rfl⟩) (λ_=>rfl);rintro k Y P1 P2 P3 q0 q1 q2 q3 (⟨rfl,rfl⟩|⟨rfl,τ3,G2,S2,L2,Gs2,p3,hG2,hI2,hk⟩)
 .show T.wc (nx Y I P1 hI p2.ps.ext λv h' tk hv hI3 hk3=>?_);have p3:PL H U L J aK bo bu G S ((I,o1)::br) Gs {Y with heap:=h',toks:=tk}:=p2.move hG hT (X:=[I]) (λb o D e=>hk3 b o (by simpa using D) e) Z Z p2.mod.gens (λb D=>by show(bJ.mp D)▸?_;show cn o0 au hm0) (λy hy=>by
   rcases bq.mp hy with q|q
   .show q▸⟨ak (AG Z),hI3⟩
   .show ⟨ak (bH.mpr (cn y (bY _ q) Z)),hk3 _ _ (q_ y q) (p2.getL (bV _ q))⟩) p2.gk
  show q1 _ _<|T.wx (jD (p3.store E dH hv)) λ_ s4 p4=>q2 _<|(D s4 I q_ hSI p4).mono λf s5 Λ=>fc Λ λhf q=>hf▸q3 1 _ bD (aw ⟨rfl,q⟩)
 .show T.wc<|en Y I τ3 P1 (p3.getL hI2) p3.ps.ext λh' tk hk3=>q0 _ (fg (hk _ (p3.move hG2 hT (X:=[I]) (λb o D e=>hk3 b o (by simpa using D) e) Z Z p3.mod.gens (λb D=>by show(bJ.mp D)▸?_;show cn o1 hI2 hm1) (λy hy=>?_) p3.gk)));show fc (gq.mp hy) λq1 q2=>⟨ak (bH.mpr (cn y q1 Z)),hk3 _ _ (by simpa using q2) (p3.getL q1)⟩
end
noncomputable def XX(a n:Int):bE:={cls:=ao "range_iterator",dict:=ah,data:=bF #[da a,da n,da 1],slots:=#[]}
section
variable{Q:cb->ae->Prop}
theorem Zx{m:Nat}(hh:dh A)(hT:gm U)(p:PL H U L J aK bo bu G S br Gs s)(hG:lW G)(hy:ck G y=O (k,aH (R ta)))(ht:U.get? ta=O (cV [v] m))(htT:ta∉bX)(dH:bT G x=N)(E:Hx L x)(hs:∀x,Eg (aq (NM y) py) J x=pure x)(D:aah H U L J aK bo bu A G S br Gs x (aH v) (sC ta 1) body rest Q):
 C A (aU (j7 (aq (NM x) px) (aq (NM y) py) body [] pos::rest) J) s Q:=by
 show p.XW (o0:=sC ta 0) hT hG Z Z dH E hs (λP hP=>T.Dt (um p.er hy) ?_) (λY I P hI x' hP=>HF (x:=v) hI (nV (x'.keep _ _ htT ht)) Z λh' h1 h2=>hP _ _ _ (.ik _) h1 λb o D e=>h2.extBut b o D e) (λY I τ' P hI x' hP=>J8 hh (kJ _ hI Z Z) (nV (x'.keep _ _ htT ht)) Z λh' he=>hP _ _ λb o D e=>he b o D e) D;show Ke (nV (p.ps.ext.keep _ _ htT ht)) (hP _ _ ⟨.push _ _,rfl,rfl,rfl⟩ (bz _) (bI _ Z))
theorem NR{cp:cJ}(hh:dh A)(B:cx U mg mb)(I0:dQ mg mb)(hT:gm U)(p:PL H U L J aK bo bu G S br Gs s)(hG:lW G)(kQ:Gi L "range")(he:V [] s.heap A L J G e (aT 1) ab)(hse:cH e=ab)(dH:bT G x=N)(E:Hx L x)(hs:∀x,Eg (bx (aq (aB "range") np) [e] [] cp) J x=pure x)(D:aah H U L J aK bo bu A G S br Gs x (aT 0) (XX 1 0) body rest Q):
 C A (aU (j7 (aq (NM x) px) (bx (aq (aB "range") np) [e] [] cp) body [] pos::rest) J) s Q:=by
 show p.XW (o0:=XX 0 1) hT hG Z Z dH E hs (λP hP=>?_) (λY I P hI x' hP=>TF hI aL λh' h1 h2=>hP _ _ _ (.ofInt 0 _) h1 λb o D e=>h2.extBut b o D e) (λY I τ' P hI x' hP=>TH hh hI aL λh' he=>hP _ _ λb o D e=>he b o D e) D;show mE ("range") ("range") (p.ps.base B) I0 aL kQ (rfl) (fJ.cons he fJ.nil hse) (by simp[dW,hse]) p.erE λvs ax F e1 V1=>?_;apply nM V1;show λt=>sO (An (a:=0) (b:=1) (c:=1) (t:=ax.toks) (u:=t) (v:=ax.toks+1) (bI _ Z) (rfl) (hP _ _ (e1.trans ⟨(gU.push _ _).trans (.push _ _),rfl,rfl,rfl⟩) ?_ (bI _ Z)));show e1.ext.new ((show gU [] ax.heap _ from .push _ _).new (bz _))
end
section
variable{Q:cb->ae->Prop}
theorem adt{i:aG}{f:Int->Option aa}{k:Int}(hm:U.IntMap d f)(hd:d∉bX)(hv:f k=O v)(he:V H U A L J G e (aH (R d)) ab)(hi:V H U A L J G i (a6 k) ab)(sj:kg i=ab):
 V H U A L J G (dk e i pos) (aH v) fr:=λs r=>by
 show rO<|(he s r).ο λax e1=>(hi ax (r.ext e1.ext)).CA λt aP e2=>have hm2:aP.heap.IntMap d f:=ff hm λo es ep h1 h2=>Bj o es ep ((r.base.trans (e1.trans e2).ext).keep d o hd h1) h2;tH hm2.typeIs slot_dict_getitem.lookup ?_ (uE sj _ _);show wpAny_getItem_intMap hm2 hv (o6 [] ((e1.trans e2).trans (.toks _ _)) (.ik _) d9)
end
section
variable{Q:cb->ae->Prop}
theorem adu{lg:LN}{f5:Int->Option aa}{bt m:Nat}(hh:dh A)(bK:A.depth<800)(B:cx U mg mb)(I:dQ mg mb)(I2:uc mg mb)(X:(iE P t f).In U)(dB:ac5 U f)(Ng:Eb U P2 t2 fd)(hT:gm U)(T1:L_ U lg ex gen gp)(pn:1979∉H)(kz:1979∈τ')(nO:∀b∈H,b∈τ')(hg1:mg (aB "GALIOS_LOG")=O (R 1888))(hg2:mg (aB "GALIOS_EXP")=O (R 1890))(hg3:mg (aB "GEN_POLY")=O (R 1868))(hm5:U.IntMap 1868 f5)(hf5:f5 (ai gen.length)=O (R gp))(ht:U.get? ta=O (cV [R ei] m))(htT:ta∉bX)(hE:Cc U ei [1,bt,n+1])(hbt:bt=n+1+gen.length)(hn:l8 ns)(dM:ns.length=8 * (n+1))(Ad:∀x∈ns,x<2)(hw:l8 (wordsOf ns (n+1)))(Ik:n+1<=100)(p:PS H U (bc jn) J aK bo bu (qL [84,82] [aH (R ta),aH (R b)]) S s)(yR:∀y∈ji b dx d ns,y∈S)(kk:∀Y v l1 l2 bl Ox k1 k2 rr o,PL τ' U (bc jn) J aK bo bu [(86,0,aH (R l2)),(85,0,aH (R l1))] ((Ox,kF ((gV lg ex gen (wordsOf ns (n+1)++b8 gen.length 0) (wordsOf ns (n+1)).length).drop (wordsOf ns (n+1)).length))::(bl,kF (wordsOf ns (n+1)))::(rr,o)::S) [(l1,bp [R bl] k1),(l2,bp [R Ox] k2)] [] Y->
 bM Y.heap (fG [aH (R l1),aH (R l2)]) v []->Q (cB v) Y):
 C A (aU (bg jn) J) s Q:=by
 change C _ (aU [a9 (bg jn) 0,a9 (bg jn) 1,a9 (bg jn) 2,a9 (bg jn) 3,a9 (bg jn) 4,a9 (bg jn) 5,a9 (bg jn) 6,a9 (bg jn) 7,a9 (bg jn) 8] J) s Q;show p.s1 (S1.m (z0 Z)) λs1 p1=>?_;show aim (k1:=0) (n:=n) hh B I X dB hT au pn kz nO p1 Z Z yR hn dM Ad λs2 a g aS Ia cl oa oC oI So gs DL haI hmC hmI Wt p2=>?_;show aio hh hT p2 (lW.of bG) Z Z λs3 l1 l2 h12 aiK p3=>?_;show Qk (x:=94) (y:=85) (k:=0) (l:=l1) (vs:=[]) (n:=0) hT p3 (lW.of bG) Z (cR ..) Z (ak Z) Z λs4 m1 hm1 p4=>?_;show Qk (x:=95) (y:=86) (k:=0) (l:=l2) (vs:=[]) (n:=0) hT p4 (lW.of bG) Z (bY _ (bY _ (cR ..))) Z (ak Z) Z λs5 m2 hm2 p5=>?_;show bf p5.open λW5 q5 aiL=>?_;show PS.asg (x:=96) (av:=aH (R 1888)) q5 (B5 (q5.base B) Z hg1 (by decide+kernel)) Z Z (ak Z) Z λs6 q6=>?_;show PS.asg (x:=97) (av:=aH (R 1890)) q6 (B5 (q6.base B) Z hg2 (by decide+kernel)) Z Z (ak Z) Z λs7 q7=>?_;have p7:=aiL _ _ _ _ q7;show Zx (x:=98) (y:=84) (k:=0) (v:=R ei) hh hT p7 (lW.of bG) Z ht htT Z (ak Z) (λ_=>rfl) λs8 I8 q_ hSI p8=>?_;change C _ (aU [a9 mbF 0,a9 mbF 1,a9 mbF 2,a9 mbF 3] J) s8 _;show bf p8.open λW8 q8 aai=>?_;show PS.asg (x:=99) (av:=aT gen.length) q8 (V.to (lS (x:=bt) (y:=n+1) (Su (x:=98) au (q8.base B) I I2 (Ng.ext q8.ext) (hE.ext q8.ext) Z) (JR (x:=98) au (q8.base B) I I2 (Ng.ext q8.ext) (hE.ext q8.ext) Z) au) (by rw[hbt,rF])) Z Z (ak Z) Z λs9 q9=>?_;have hm9:s9.heap.IntMap 1868 f5:=ff hm5 λo es ep h1 h2=>Bj o es ep (q9.ext.keep _ o aL h1) h2;show PS.asg (x:=100) (av:=aH (R gp)) q9 (adt hm9 aL hf5 (B5 (q9.base B) Z hg3 (by decide+kernel)) (ar 99 Z) Z) Z Z (ak Z) Z λs10 q10=>?_;show xi 101 gen.length q10 B I Z (ar 99 Z) Z Z (ak Z) Z λrr tr ur vr s11 q11=>?_;have p11:=aai _ _ _ _ q11;show NR (x:=14) hh B I hT p11 (lW.of bG) Z (Qm (x:=98) au (p11.ps.base B) I I2 (Ng.ext p11.ps.ext) (hE.ext p11.ps.ext) Z) Z bG (ak Z) (λ_=>rfl) λs12 I12 SF al2 p12=>?_;change C _ (aU (a9 Sv 0::a9 Sv 1::a9 Sv 2::a9 Sv 3::a9 Sv 4::a9 Sv 5::a9 Sv 6::[]) J) s12 _;show aae (L':=[(I12,XX 1 0),(I8,sC ta 1),(m2,nW "list.append" (R l2)),(m1,nW "list.append" (R l1)),(l1,jo []),(l2,jo [])]) (k:=0) (k2:=0) (i:=ei) (bt:=bt) (n:=n+1) hh au B I I2 Ng hT p12 (lW.of bG) bG bG bG hE Ik hw Wt (λy hy=>?_) (λy hy=>bY _ (yR y hy)) bw DL haI hmC hmI (λy hy=>?_) λs13 bl al3 al4 p13=>?_
 .apply tO hy<;>ext
 .have hC8:=aiK (aS,oC) bw;have hI8:=aiK (Ia,oI) bw;apply ahe hy
  .show ⟨by ext,λq=>SF (aS,oC) bw q.symm,λq=>SF (Ia,oI) bw q.symm⟩
  .show ⟨by ext,λq=>q_ (aS,oC) bw q.symm,λq=>q_ (Ia,oI) bw q.symm⟩
  .show ⟨by ext,λq=>hm2 (aS,oC) bw q.symm,λq=>hm2 (Ia,oI) bw q.symm⟩
  .show ⟨by ext,λq=>hm1 (aS,oC) bw q.symm,λq=>hm1 (Ia,oI) bw q.symm⟩
  .show ⟨by ext,λq=>hC8.1 q.symm,λq=>hI8.1 q.symm⟩
  .show ⟨by ext,λq=>hC8.2 q.symm,λq=>hI8.2 q.symm⟩
 have W9:(wordsOf ns (n+1)).length<=100:=by simp[wordsOf];lia
 show ads (m1:=m1) (m2:=m2) (l1:=l1) (l2:=l2) (gp:=gp) (rr:=rr) (n1:=0) (n2:=0) (Lx:=[(I12,XX 1 0),(I8,sC ta 1)]) (tr:=tr) (ur:=ur) (vr:=vr) hh B I hT T1 p13 (kr.rf bG bG) (λy hy=>?_) (eS h12) (λq=>hm2 (l1,jo []) bw q.symm) hw W9 (cR ..) (λy hy=>?_) λs14 Ox k1 k2 he1 he2 p14=>?_
 .apply tO hy
  .show bY _ (bY _ (bY _ (bY _ (cR ..))))
  .show bY _ (bY _ (bY _ (bY _ (bY _ (cR ..)))))
  .ext
  .ext
 .apply se hy
  .show ⟨by ext,λq=>SF (l1,jo []) bw q.symm,λq=>SF (l2,jo []) bw q.symm⟩
  .show ⟨by ext,λq=>q_ (l1,jo []) bw q.symm,λq=>q_ (l2,jo []) bw q.symm⟩
 have e1:l1≠I12:=λq=>SF (l1,jo []) bw q;have e2:l2≠I12:=λq=>SF (l2,jo []) bw q;have e3:l1≠I8:=λq=>q_ (l1,jo []) bw q;have e4:l2≠I8:=λq=>q_ (l2,jo []) bw q;have e5:I8≠I12:=λq=>SF (I8,sC ta 1) bw q;show fg ⟨rfl,_,_,_,_,_,p14,lW.of Z,by ext,λs15 p15=>fg ⟨rfl,_,_,_,_,_,p15,lW.of Z,by simp[e5],λs16 p16=>?_⟩⟩;have p17:=p16.adq (L':=[(l1,bp [R bl] k1),(l2,bp [R Ox] k2)]) λy hy=>by
  apply se hy
  .simp [e1,e3]
  .simp [e2,e4]
 show bf p17.open λW17 q17 af8=>?_;show q17.afT (uo (avs:=[aH (R l1),aH (R l2)]) (q17.base B).top (fJ.cons (ar 85 Z) (fJ.cons (ar 86 Z) fJ.nil Z) Z) Z Z) Z λs18 v q18 hv=>kk s18 v l1 l2 bl Ox k1 k2 rr _ (af8 _ _ _ _ q18) hv
end
namespace iO
theorem SG(p:Nat)(h:p<256):IL p=(2 * p) ^^^ (285 * (p / 128)):=by
 delta IL
 split
 .rw [Nat.div_eq_of_lt (by assumption)];simp
 .rw [show p / 128=1 by lia]
theorem adv{a b:Nat}(ha:a<256)(D:b<256):IL (a ^^^ b)=IL a ^^^ IL b:=by
 rw[SG _ ha,SG _ D,SG _ (iQ ha D)];have e1:2 * (a ^^^ b)=(2 * a) ^^^ (2 * b):=by have:=Nat.shiftLeft_xor_distrib (i:=1) (a:=a) (b:=b);simp only[Nat.shiftLeft_eq]at this;rw[vm 2,vm 2,vm 2];show this
 have e2:(a ^^^ b) / 128=(a / 128) ^^^ (b / 128):=by have:=Nat.shiftRight_xor_distrib (i:=7) (a:=a) (b:=b);simpa only[Nat.shiftRight_eq_div_pow] using this
 show e1.symm▸e2.symm▸?_;have q1:a / 128=0\/a / 128=1:=by lia
 have q2:b / 128=0\/b / 128=1:=by lia
 rcases q1 with q1|q1<;>rcases q2 with q2|q2<;>show q1.symm▸q2.symm▸?_
 .simp
 .rw [E7,gx,iy,E9,rN]
 .rw [E7,gx,gx,E9];ac_rfl
 .have:∀x y:Nat,x ^^^ 285 * 1 ^^^ (y ^^^ 285 * 1)=(285 ^^^ 285) ^^^ (x ^^^ y):=λx y=>by rw[E9];ac_rfl
  rw[this,lP,lP,E7,iy,gx]
theorem JT:∀n,pw n≠0:=by
 intro xX;induction xX with
 |zero=>decide
 |succ n iH=>
  have:∀p,p<256->p≠0->IL p≠0:=by decide
  show this _ (OT n) (iH)
theorem af9:pw 255=1:=by rfl
theorem SH:∀n,pw (n+255)=pw n:=by
 intro xX;induction xX with
 |zero=>show af9
 |succ n iH=>show(?_:IL (pw (n+255))=IL (pw n));show congrArg _ (iH)
theorem uy(n:Nat):pw (n % 255)=pw n:=by
 have:∀k r,pw (r+255 * k)=pw r:=by
  intro k;induction k with
  |zero=>intro r;rfl
  |succ k ih=>intro r;rw[show r+255 * (k+1)=r+255 * k+255 by show UX.mpr Z,SH,ih]
 conv=>rhs;rw[<-Nat.mod_add_div n 255]
 show(this _ _).symm
theorem NS(n:Nat):FQ (n % 255)=pw n:=by rw[GL (mZ _ bD),uy]
theorem yT:∀a,a<256->a≠0->pw (lg a)=a:=by decide+kernel
theorem Zy:∀k,k<255->lg (pw k)=k:=by decide+kernel
theorem DP(n:Nat):lg (pw n)=n % 255:=by rw[<-uy,Zy _ (mZ _ bD)]
theorem uz{a b:Nat}(ha:a≠0)(D:b≠0):tm a b=pw (lg a+lg b):=by
 delta tm
 rw[if_neg (not_or_intro ha D),NS]
theorem uP(a:Nat):tm a 0=0:=by simp[tm]
theorem jr(a:Nat):tm 0 a=0:=by rfl
theorem fO(a b:Nat):tm a b=tm b a:=by
 delta tm
 rw[jI];simp only[Or.comm (a:=a=0)]
theorem Il{a b:Nat}(ha:a≠0)(D:b≠0):tm a b≠0:=by rw[uz ha D];show JT _
theorem Qs(a b:Nat):tm (pw a) (pw b)=pw (a+b):=by rw[uz (JT a) (JT b),DP,DP,<-uy,<-U3,uy]
theorem di(a b c:Nat):tm (tm a b) c=tm a (tm b c):=by
 by_cases ha:a=0
 .subst ha;rw[jr,jr,jr]
 by_cases D:b=0
 .subst D;rw[uP,jr,uP]
 by_cases hc:c=0
 .subst hc;rw[uP,uP,uP]
 rw[uz (Il ha D) hc,uz ha (Il D hc),uz ha D,uz D hc,DP,DP,<-uy,<-uy (lg a+_)];rw[Nat.mod_add_mod,LD,lO]
theorem Qt{a:Nat}(h:a<256):tm 1 a=a:=by
 by_cases ha:a=0
 .subst ha;rfl
 .rw [uz (uj Z) ha,show lg 1=0 by rfl,qt,yT a h ha]
def Im:Nat->Nat->Nat
 | 0,b=>b
 |k+1,b=>IL (Im k b)
theorem XY:∀k {b},b<256->Im k b<256:=by
 intro xX;induction xX with
 |zero=>intro _ h;show h
 |succ k iH=>intro _ h;show Ry (iH h)
theorem aaj:∀k {a b},a<256->b<256->Im k (a ^^^ b)=Im k a ^^^ Im k b:=by
 intro xX;induction xX with
 |zero=>intro _ _ _ _;show rfl
 |succ k iH=>intro _ _ ha D;show(?_:IL (Im k _)=IL _ ^^^ IL _);rw[iH ha D,adv (XY k ha) (XY k D)]
theorem adw:∀k j,Im k (pw j)=pw (k+j):=by
 intro xX;induction xX with
 |zero=>intro j;rw[qt];rfl
 |succ k iH=>intro j;change IL (Im k _)=_;rw[iH j,Nat.succ_add];rfl
theorem aga:∀k,Im k 0=0:=by
 intro xX;induction xX with
 |zero=>show rfl
 |succ k iH=>change IL (Im k 0)=0;show(iH).symm▸?_;rfl
theorem NU{a b:Nat}(ha:a≠0)(D:b<256):tm a b=Im (lg a) b:=by
 by_cases h:b=0
 .subst h;rw[uP,aga]
 .rw [uz ha h]
  conv=>rhs;rw[<-yT b D h]
  rw[adw]
theorem v7(a:Nat){b:Nat}(D:b<256)(hc:c<256):tm a (b ^^^ c)=tm a b ^^^ tm a c:=by
 by_cases ha:a=0
 .subst ha;rw[jr,jr,jr];rfl
 .rw [NU ha D,NU ha hc,NU ha (iQ D hc),aaj _ D hc]
theorem qF(a:Nat){b:Nat}(D:b<256)(hc:c<256):tm (b ^^^ c) a=tm b a ^^^ tm c a:=by rw[fO,v7 a D hc,fO a b,fO a c]
theorem ue{a b:Nat}(h:a ^^^ b=0):a=b:=by have:=congrArg (· ^^^ b) h;simpa[rN] using this
theorem C9{a b:Nat}(h:tm a b=0)(ha:a≠0):b=0:=A9 λD=>Il ha D h
theorem XZ{a d:Nat}(ha:a<256)(ha0:a≠0)(hd:d≠0):tm d (FQ ((lg a+255 - lg d) % 255))=a:=by rw[NS,uz hd (JT _),DP,<-uy,LD];have:=WY d;rw[show lg d+(lg a+255 - lg d)=lg a+255 by lia,uy,SH,yT a ha ha0]
theorem Zz{a b:Nat}(ha:a≠0)(D:b<256)(hc:c<256)(h:tm a b=tm a c):b=c:=by
 have:tm a (b ^^^ c)=0:=by rw[v7 a D hc,h,lP]
 show ue (C9 this ha)
theorem adx{e d:Nat}(he:e<256)(hd:d≠0)(h0:e≠0):FQ ((lg (tm d e)+255 - lg d) % 255)=e:=
 Zz hd CK he (XZ (eZ _ _) (Il hd h0) hd)
def pN(x:Nat):Nat->Nat
 | 0=>1
 |k+1=>tm x (pN x k)
theorem aiM(x k:Nat):pN x k<256:=by
 cases k with
 |zero=>show(by decide:1<256)
 |succ k=>show eZ _ _
theorem aiN(h:x≠0):∀k,pN x k≠0:=by
 intro xX;induction xX with
 |zero=>show Nat.one_ne_zero
 |succ k iH=>show Il h (iH)
theorem aak(x a:Nat):∀b,pN x (a+b)=tm (pN x a) (pN x b):=by
 intro xX;induction xX with
 |zero=>show(?_:pN x a=tm (pN x a) 1);rw[fO,Qt (aiM _ _)]
 |succ b iH=>show(?_:tm x (pN x (a+b))=tm (pN x a) (tm x (pN x b)));rw[iH,<-di,<-di,fO x]
theorem aal(a:Nat):∀b,pN (pw a) b=pw (a * b):=by
 intro xX;induction xX with
 |zero=>show rfl
 |succ b iH=>change tm (pw a) (pN (pw a) b)=_;rw[iH,Qs,LF,jI]
noncomputable def sx{α:Type}(l:List α)(f:α->Nat):Nat:=l.foldr (λa s=>f a ^^^ s) 0
section
variable{l:List α}{m:List β}{f g:α->Nat}
theorem Io:sx [] f=0:=rfl
theorem fI{a:α}:sx (a::l) f=f a ^^^ sx l f:=rfl
theorem aam{l':List α}:sx (l++l') f=sx l f ^^^ sx l' f:=by
 induction l with
 |nil=>rw[yh,Io,iy]
 |cons a l ih=>rw[ES,fI,fI,ih,rN]
theorem dK(h:∀a∈l,f a=g a):sx l f=sx l g:=by
 induction l with
 |nil=>rfl
 |cons a l ih=>rw[fI,fI,h a bw,ih λb D=>h b bw]
theorem aiO(h:∀a∈l,f a<256):sx l f<256:=by
 induction l with
 |nil=>show Nat.zero_lt_succ _
 |cons a l ih=>show iQ (h a bw) (ih λb D=>h b bw)
theorem Ci(h:∀a∈l,f a=0):sx l f=0:=by
 induction l with
 |nil=>rfl
 |cons a l ih=>show fI.symm▸(h a bw).symm▸(ih λb D=>h b bw).symm▸?_;rfl
theorem Af:sx l (λa=>f a ^^^ g a)=sx l f ^^^ sx l g:=by
 induction l with
 |nil=>simp[Io]
 |cons a l ih=>rw[fI,fI,fI,ih];ac_rfl
theorem uf(a:Nat)(h:∀x∈l,f x<256):tm a (sx l f)=sx l λx=>tm a (f x):=by
 induction l with
 |nil=>show uP a
 |cons b l ih=>rw[fI,fI,v7 a (h b bw) (aiO λx E=>h x bw),ih λx E=>h x bw]
theorem aan(a:Nat)(h:∀x∈l,f x<256):tm (sx l f) a=sx l λx=>tm (f x) a:=by rw[fO,uf a h];show dK λx _=>fO _ _
theorem NV{f:α->β->Nat}:sx l (λa=>sx m (f a))=sx m λb=>sx l λa=>f a b:=by
 induction l with
 |nil=>show(Ci λ_ _=>rfl).symm
 |cons a l ih=>rw[fI,ih,<-Af];rfl
theorem aao{h:β->α}:sx (m.map h) f=sx m λb=>f (h b):=by
 induction m with
 |nil=>rfl
 |cons b m ih=>rw[ix,fI,fI,ih]
theorem Ya(a:Nat):l.foldl (λs x=>s ^^^ f x) a=a ^^^ sx l f:=by
 induction l generalizing a with
 |nil=>show(gx a).symm
 |cons b l ih=>rw[iw,ih,fI,rN]
theorem JU(p:α->Bool)(h:∀a∈l,p a=ab->f a=0):sx (l.filter p) f=sx l f:=by
 induction l with
 |nil=>rfl
 |cons a l ih=>have ih:=ih λb D=>h b bw;show boC (p a) (λq=>by rw[EH q,fI,fI,ih]) λq=>by rw[EI (ne_true_of_eq_false q),fI,ih,h a au q,iy]
theorem ady{l':List α}(h:l.Perm l'):sx l f=sx l' f:=by
 induction h with
 |nil=>rfl
 |cons a _ ih=>rw[fI,fI,ih]
 |swap a b l=>dsimp only[fI,fI,fI,fI];ac_rfl
 |trans _ _ h1 h2=>show h1.trans h2
end
theorem lH(n:Nat)(f:Nat->Nat):sx (aJ (n+1)) f=sx (aJ n) f ^^^ f n:=by rw[rD,aam,fI,Io,gx]
theorem ma(n:Nat)(f:Nat->Nat):sx (aJ (n+1)) f=f 0 ^^^ sx (aJ n) (λi=>f (i+1)):=by rw[Ut,fI,aao]
end iO
namespace iO
theorem ak8{X:Nat->Nat}(hX:∀p,X p<256)(a0:LN):∀(g:Nat->Nat),(∀p∈a0,g p<256)->(∀p∈a0,X p≠0)->a0.Nodup->(∀p∈a0,∀q∈a0,X p=X q->p=q)->
 (∀j,j<a0.length->sx a0 (λp=>tm (g p) (pN (X p) j))=0)->∀p∈a0,g p=0:=by
 induction a0 with
 |nil=>intro _ _ _ _ _ _;show λp hp=>kM hp
 |cons a a0 iH=>
  intro g hg h0 hn hi hs;have wu:=rz.mp hn;have ih:=iH (λp=>tm (g p) (X p ^^^ X a)) (λp _=>eZ _ _) (λp hp=>h0 p bw) wu.2 (λp hp q hq=>hi p bw q bw) (λj hj=>by
   have e1:=hs (j+1) jx;have e2:=congrArg (tm (X a)) (hs j jx);rw[uP,uf _ λ_ _=>eZ _ _,fI]at e2;dsimp only[fI]at e1;have e3:tm (g a) (pN (X a) (j+1))=tm (X a) (tm (g a) (pN (X a) j)):=by change tm _ (tm _ _)=_;rw[<-di,<-di,fO (g a)]
   rw[e3]at e1;have:sx a0 (λp=>tm (tm (g p) (X p ^^^ X a)) (pN (X p) j))=sx a0 (λp=>tm (g p) (pN (X p) (j+1)) ^^^ tm (X a) (tm (g p) (pN (X p) j))):=dK λp _=>by change _=tm _ (tm _ _) ^^^ _;rw[v7 _ (hX _) (hX _),qF _ (eZ _ _) (eZ _ _),di,di,fO (g p) (tm (X a) _),di,fO (pN _ _) (g p)]
   rw[this,Af,((ue e1).symm.trans (ue e2)),lP])
  have hE:∀p∈a0,g p=0:=λp hp=>by
   have e:=ih p hp;rw[fO]at e;show C9 e λq=>?_;have:=hi p bw a bw (ue q);cases this
   show wu.1 hp
  have e0:=hs 0 fF;rw[fI,Ci λp hp=>by rw[hE p hp,jr],gx]at e0;intro p hp;show ba (bq.mp hp) (λa1=>a1▸?_) λh=>?_
  .rw [fO]at e0;show C9 e0 (by change(1:Nat)≠0;decide)
  .show hE p h
def Ip(y:Nat)(l:LN)(a:Nat):Nat:=l.foldl (λwhole part=>tm whole y ^^^ part) a
theorem aap{y:Nat}:∀{l:LN} {a:Nat},a<256->(∀x∈l,x<256)->Ip y l a<256
 | [],_,h,_=>h
 |x::l,_,_,hl=>aap (l:=l) (iQ (eZ _ _) (hl x bw)) λz hz=>hl z bw
def qs(x:Nat):LN->Nat->LN
 | [],_=>[]
 |p::r,a=>a::qs x r (tm a x ^^^ p)
theorem aaq(x:Nat):∀(l:LN) (a:Nat),(qs x l a).length=l.length
 | [],_=>rfl
 |_::r,_=>congrArg (· +1) (aaq x r _)
theorem aiP(x:Nat)(l:LN):∀(a:Nat),a<256->(∀x∈l,x<256)->∀z∈qs x l a,z<256:=by
 induction l with
 |nil=>intro _ _ _;show λz hz=>kM hz
 |cons p r iH=>
  intro a ha hl;show λz hz=>by
   rcases bq.mp hz with rfl|h
   .show ha
   .show iH _ (iQ (eZ _ _) (hl p bw)) (λy hy=>hl y bw) z h
theorem ZA(E:x<256)(hy:y<256)(l:LN):∀(a u:Nat),a<256->u<256->(∀z∈l,z<256)->Ip y l (a ^^^ tm (x ^^^ y) u) ^^^ Ip x l a=tm (x ^^^ y) (Ip y (qs x l a) u):=by
 induction l with
 |nil=>intro a u ha hu _;show(?_:a ^^^ tm (x ^^^ y) u ^^^ a=tm (x ^^^ y) u);rw[LH a,rN,lP,gx]
 |cons p r iH=>
  intro a u ha hu hl;show(?_:Ip y r (tm (a ^^^ tm (x ^^^ y) u) y ^^^ p) ^^^ Ip x r (tm a x ^^^ p)=tm (x ^^^ y) (Ip y (qs x r (tm a x ^^^ p)) (tm u y ^^^ a)));show(iH (tm a x ^^^ p) (tm u y ^^^ a) (iQ (eZ _ _) (hl p bw)) (iQ (eZ _ _) ha) λz hz=>hl z bw)▸?_;congr 2;rw[qF _ ha (eZ _ _),v7 _ (eZ _ _) ha,di,fO (x ^^^ y) a,v7 a E hy];have:tm a x ^^^ p ^^^ (tm (x ^^^ y) (tm u y) ^^^ (tm a x ^^^ tm a y))=(tm a x ^^^ tm a x) ^^^ (tm a y ^^^ tm (x ^^^ y) (tm u y) ^^^ p):=by ac_rfl
  rw[this,lP,iy]
theorem aiQ(n:Nat):∀(l:LN) (a:Nat),l.length=n->a<256->a≠0->(∀z∈l,z<256)->∀(aN:LN),aN.Nodup->(∀x∈aN,x<256)->(∀x∈aN,Ip x l a=0)->aN.length<=n:=by
 induction n with
 |zero=>
  intro l a hl _ h0 _ aN _ _ hR
  match aN,hR with
  | [],_=>show ey _
  |x::aN,hR=>have:=hR x bw;rw[rq.mp hl]at this;show absurd this h0
 |succ n iH=>
  intro yY;cases yY with
  |nil=>intros;first|ext|(simp at *)
  |cons p r=>
   intro a hl ha h0 D aN hn hRb hR
   match aN,hn,hRb,hR with
   | [],_,_,_=>show fj _
   |x::aN,hn,hRb,hR=>
    have wu:=rz.mp hn;have key:∀y,y<256->Ip y (p::r) a=0->y≠x->Ip y (qs x r (tm a x ^^^ p)) a=0:=λy hy e qK=>by have hs:=ZA (hRb x bw) hy (p::r) a 0 ha bD D;rw[uP,gx,e,hR x bw,lP]at hs;have:=C9 hs.symm λq=>qK (ue q).symm;have e2:Ip y (qs x (p::r) a) 0=Ip y (qs x r (tm a x ^^^ p)) (tm 0 y ^^^ a):=rfl;rw[e2,jr,iy]at this;show this
    have:=iH (qs x r (tm a x ^^^ p)) a (by rw[aaq];show(by simpa using hl)) ha h0 (aiP x r _ (iQ (eZ _ _) (D p bw)) λy hy=>D y bw) aN wu.2 (λy hy=>hRb y bw) λy hy=>
     key y (hRb y bw) (hR y bw) λq=>wu.1 (q▸hy)
    show Nat.le_add_of_sub_le this
theorem yU(l:LN):∀(a:Nat),a<256->(∀z∈l,z<256)->Ip y l a=tm a (pN y l.length) ^^^ sx (aJ l.length) λi=>tm (l.getD i 0) (pN y (l.length - 1 - i)):=by
 induction l with
 |nil=>intro a ha _;show(?_:a=tm a 1 ^^^ 0);rw[fO,Qt ha,gx]
 |cons p r iH=>intro a ha hl;have hp:=hl p bw;change Ip y r (tm a y ^^^ p)=_;rw[iH _ (iQ (eZ _ _) hp) λz hz=>hl z bw,oO,ma,qF _ (eZ _ _) hp,di,rN];congr 1;congr 1;show dK λi hi=>by change _=tm (r.getD i 0) _;rw[show r.length+1 - 1 - (i+1)=r.length - 1 - i by lia]
end iO
namespace iO
theorem Cj(l:LN)(k v i:Nat):(l.set k v).getD i 0=if i=k/\k<l.length then v else l.getD i 0:=by
 simp only[dc,EN];by_cases e:k=i
 .subst e;rcases yB (k<l.length) with h|h
  .rw [if_pos Z,if_pos h,if_pos ⟨rfl,h⟩];rfl
  .rw [if_pos Z,if_neg h,if_neg (λq=>h q.2),rx (oQ h)]
 .rw [if_neg e,if_neg (λq=>e q.1.symm)]
theorem v8{l:LN}(h:l.length<=i):l.getD i 0=0:=by rw[dc,rx h];rfl
theorem jf{l:LN}(h:∀x∈l,x<256)(i:Nat):l.getD i 0<256:=allB_of h i
theorem yV(l:LN)(k i:Nat):(l++b8 k 0).getD i 0=l.getD i 0:=by
 simp only[dc];rcases mu i l.length with h|h
 .rw [vg h]
 .rw [yd h,rx h,Ur];split<;>rfl
def Dd(s aS:LN)(j:Nat):Nat:=sx (aJ aS.length) λi=>tm (aS.getD i 0) (s.getD (j - i) 0)
theorem FX{f:Nat->Nat}{a:Nat}{b:Nat}:a<=b->(∀i,a<=i->f i=0)->sx (aJ b) f=sx (aJ a) f:=by
 induction b with
 |zero=>intro h _;rw[LI.mp h]
 |succ b iH=>
  intro h hf;rcases mu b a with q|q
  .rw [show a=b+1 by lia]
  .rw [lH,hf b q,gx,iH q hf]
theorem Qu{f:Nat->Nat}(m:Nat):∀(g:Nat),(∀i,i<g->f i=0)->sx (aJ (g+m)) f=sx (aJ m) λi=>f (g+i)
 | 0,_=>by simp only[qt]
 |g+1,h=>by rw[show g+1+m=(g+m)+1 by show Lw g 1 m,ma,h 0 au,iy,Qu m g λi hi=>h (i+1) au];show dK λi _=>congrArg _ (show g+i+1=g+1+i by lia)
theorem Qv(factor gap:Nat)(old g0:LN)(hl:old.length+gap<=g0.length)(i:Nat):(tX factor gap old g0).getD i 0=g0.getD i 0 ^^^ (if gap<=i/\i - gap<old.length then tm factor (old.getD (i - gap) 0) else 0):=by
 have:∀n,n<=old.length->((aJ n).foldl (λg back=>g.set (back+gap) (g.getD (back+gap) 0 ^^^ tm factor (old.getD back 0))) g0).length=g0.length/\
  ((aJ n).foldl (λg back=>g.set (back+gap) (g.getD (back+gap) 0 ^^^ tm factor (old.getD back 0))) g0).getD i 0=g0.getD i 0 ^^^ (if gap<=i/\i - gap<n then tm factor (old.getD (i - gap) 0) else 0):=by
  intro n;induction n with
  |zero=>intro _;show⟨rfl,by rw[if_neg fF,gx];rfl⟩
  |succ n ih=>
   intro hn;show fc (ih (qr hn)) λh1 h2=>rD.symm▸qm.symm▸⟨by rw[iw,Lf,ET,h1],?_⟩;rw[iw,Lf,Cj,h1];by_cases e:i=n+gap
   .subst e;rw[if_pos ⟨rfl,by lia⟩,h2,if_neg (λq=>gv n (j4 (kY (th ..).symm) q.2)),if_pos ⟨rL ..,j4 (kY (th ..)) (iZ n)⟩,gx,th]
   .rw [if_neg (λq=>e q.1),h2];congr 1;show if q:gap<=i/\i - gap<n then by rw[if_pos q,if_pos ⟨q.1,kX q.2⟩] else by rw[if_neg q,if_neg λp=>q ⟨p.1,Nat.lt_of_le_of_ne (mY p.2) λz=>e (by rw[<-z,Lv p.1])⟩]
 show(this old.length (ey _)).2
theorem agb{s aS:LN}{br:Nat}(h:aS.length<=br):Dd s aS j=sx (aJ br) λi=>tm (aS.getD i 0) (s.getD (j - i) 0):=
 (FX h λi hi=>by rw[v8 hi,jr]).symm
theorem adz{s old:LN}{factor gap:Nat}(hn:∀x∈now,x<256):
 Dd s (tX factor gap old (now++b8 (old.length+gap - now.length) 0)) j=Dd s now j ^^^ tm factor (Dd s old (j - gap)):=by
 have dM:(tX factor gap old (now++b8 (old.length+gap - now.length) 0)).length=now.length+(old.length+gap - now.length):=by rw[(GV factor gap old _ (λx E=>by show ba (bZ.mp E) (λh=>hn x h) λh=>by rw[vh h];decide)).1,iu,ru]
 have hL:=dM;generalize now.length+(old.length+gap - now.length)=br at hL
 delta Dd
 show hL.symm▸?_;have e1:sx (aJ br) (λi=>tm ((tX factor gap old (now++b8 (old.length+gap - now.length) 0)).getD i 0) (s.getD (j - i) 0))=
  sx (aJ br) (λi=>tm (now.getD i 0) (s.getD (j - i) 0) ^^^ tm (if gap<=i/\i - gap<old.length then tm factor (old.getD (i - gap) 0) else 0) (s.getD (j - i) 0)):=dK λi _=>by
  rw[Qv _ _ _ _ (iu▸ru▸MZ),yV,qF _ (jf hn i) (by split<;>first|show eZ _ _|decide)]
 rw[e1,Af];congr 1
 .show (agb (by rw[<-hL,dM];show iY ..)).symm
 .rw [FX (by rw[<-hL,dM,jI gap];show MZ:gap+old.length<=br) (λi hi=>by rw[if_neg au,jr]),Qu _ _ (λi hi=>by rw[if_neg au,jr]),uf _ λ_ _=>eZ _ _];show dK λi hi=>by rw[if_pos ⟨iY ..,j4 (kY (rF ..)) (dm.mp hi)⟩,rF,di,E8]
theorem adA(hl:∀x∈line,x<256)(h0:now.getD 0 0=1)(hn:1<=now.length):vR line now turn=Dd line now turn:=by
 delta vR Dd
 rw[Ya,aao];show dF (show∃n,now.length=n+1 from⟨now.length - 1,(Nat.sub_eq_iff_eq_add hn).mp Z⟩) λn e=>?_;rw[e,ma,h0,Qt (jf hl _)];congr 1;show dK λi _=>by rw[jI 1 i]
structure Src(line:LN)(X f:Nat->Nat)(a0:LN):Prop where
 b:∀x∈line,x<256
 xb:∀p,X p<256
 x0:∀p,X p≠0
 fb:∀p,f p<256
 nd:a0.Nodup
 inj:∀p∈a0,∀q∈a0,X p=X q->p=q
 at_:∀j,j<line.length->line.getD j 0=sx a0 λp=>tm (f p) (pN (X p) j)
def wgt(aS:LN)(X f:Nat->Nat)(size p:Nat):Nat:=tm (f p) (sx (aJ aS.length) λi=>tm (aS.getD i 0) (pN (X p) (size - i)))
theorem Src.dd{aS a0:LN}{X f:Nat->Nat}(S:Src line X f a0)(hC:aS.length<=size+1)(h1:size<=j)(h2:j<line.length):Dd line aS j=sx a0 λp=>tm (wgt aS X f size p) (pN (X p) (j - size)):=by
 delta Dd
 have e1:sx (aJ aS.length) (λi=>tm (aS.getD i 0) (line.getD (j - i) 0))=sx (aJ aS.length) λi=>sx a0 λp=>tm (aS.getD i 0) (tm (f p) (pN (X p) (j - i))):=dK λi hi=>by rw[S.at_ _ au,uf _ λ_ _=>eZ _ _]
 rw[e1,NV];show dK λp _=>?_
 delta wgt
 rw[di,aan _ λ_ _=>eZ _ _,uf _ λ_ _=>eZ _ _];show dK λi hi=>?_;rw[show j - i=(size - i)+(j - size) from(by rw[jI,Lk h1 (mY (fi (dm.mp hi) hC))]),aak,<-di,fO (aS.getD i 0),di,<-di (aS.getD i 0)]
theorem Src.kill{aS a0:LN}{X f:Nat->Nat}(S:Src line X f a0){t:Nat}(hC:aS.length<=size+1)(ht:t<=line.length)(hv:size+a0.length<=t)(h:∀j,size<=j->j<t->Dd line aS j=0):∀p∈a0,wgt aS X f size p=0:=
 ak8 S.xb a0 _ (λ_ _=>eZ _ _) (λp _=>S.x0 p) S.nd S.inj λj hj=>by have:=S.dd hC (j:=size+j) au au;rw[h _ au au,show size+j - size=j by lia]at this;show this.symm
def BMx(line:LN)(v turn:Nat)(st:BM):Prop:=
 OZ line turn st/\
 st.now.getD 0 0=1/\
 st.now.length<=st.size+1/\
 (∀j,st.size<=j->j<turn->Dd line st.now j=0)/\
 st.size<=v/\
 st.fault≠0/\
 ∃lo,st.size+lo+st.gap=turn+1/\st.old.length<=lo+1/\((st.size=0/\lo=0/\st.gap=turn+1)\/(st.gap<=turn/\Dd line st.old (turn - st.gap)=st.fault/\∀j,lo<=j->j<turn - st.gap->Dd line st.old j=0))
theorem BMx.step{a0:LN}{X f:Nat->Nat}(S:Src line X f a0)(ht:turn<line.length){st:BM}(k:BMx line a0.length turn st):BMx line a0.length (turn+1) (kB line st turn):=by
 show jc k λk1 k2 k3 k4 agc=>hJ agc λk5 k6 k7=>?_;have ok':=k1.step S.b;show gC k7 λlo o1 o2 o3=>?_;have adB:vR line st.now turn=Dd line st.now turn:=adA S.b k2 k1.afw;have hg1:=k1.akh;by_cases h0:vR line st.now turn=0
 .have e:kB line st turn={st with gap:=st.gap+1}:=(if_pos h0);rw[e]at ok' ⊢;show⟨ok',k2,k3,λj h1 h2=>ba (mu j turn) (λq=>k4 j h1 q) λq=>by rw[show j=turn by show Nat.eq_of_le_of_lt_succ q h2,<-adB,h0],k5,k6,lo,congrArg AX o1,o2,?_⟩;show ba o3 (λi0=>hJ i0 λa b c=>ak (gI a b (by show UX.mpr c))) λi0=>hJ i0 λa b c=>aw (gI au ?_ ?_)
  .rw [EX];show b
  .rw [EX];show c
 .have hq:=XZ (MY (now:=st.now) (turn:=turn) S.b) h0 k6;generalize hfa:FQ ((lg (vR line st.now turn)+255 - lg st.fault) % 255)=factor at hq;generalize hgr:tX factor st.gap st.old (st.now++b8 (st.old.length+st.gap - st.now.length) 0)=grown;have dM:grown.length=st.now.length+(st.old.length+st.gap - st.now.length):=by rw[<-hgr,(GV factor st.gap st.old _ (λx E=>by show ba (bZ.mp E) (λh=>k1.now x h) λh=>by rw[vh h];decide)).1,iu,ru]
  have hc0:grown.getD 0 0=1:=by rw[<-hgr,Qv _ _ _ _ (iu▸ru▸MZ),yV,k2,if_neg au,gx]
  have jB:=k3;have vW:turn+1 - st.size=lo+st.gap:=by rw[<-o1,lO,rF]
  have Rx:∀ns,st.size<=ns->turn+1 - st.size<=ns->∀j,ns<=j->j<turn+1->Dd line grown j=0:=λns n1 n2 j h1 h2=>by
   have gj:lo+st.gap<=j:=vW▸bj n2 h1;rcases o3 with⟨a,b,c⟩|⟨a,b,c⟩
   .lia
   .rw [(λj=>by rw[<-hgr];show adz k1.now:∀j,Dd line grown j=Dd line st.now j ^^^ tm factor (Dd line st.old (j - st.gap)))];show ba (mu j turn) (λq=>by rw[k4 j (bj n1 h1) q,c (j - st.gap) (AR gj) (Nat.sub_lt_sub_right (bj (rL ..) gj) q),uP];rfl) λq=>by rw[show j=turn from vk (mY h2) q,<-adB,b,fO,hq,lP]
  by_cases h2:2 * st.size<=turn
  .have e:kB line st turn=⟨grown,st.now,turn+1 - st.size,1,vR line st.now turn⟩:=by delta kB;rw[if_neg h0,if_pos h2,hfa,hgr]
   rw[e]at ok' ⊢;have m0:st.size<=turn+1 - st.size:=AR (by rw[<-U4];show qq h2);show⟨ok',hc0,bj (kY dM) (zH (bj jB (tx m0)) (by rw[vW,Lw];show yk o2 _)),Rx (turn+1 - st.size) m0 (ey _),?_,h0,st.size,congrArg AX (Lv (bj m0 (tD ..))),jB,aw ⟨by lia,adB.symm,λj j1 j2=>k4 j j1 (j2)⟩⟩;change turn+1 - st.size<=a0.length;show oQ λjA=>h0 ?_;rw[adB,S.dd jB au ht];show Ci λp hp=>by rw[(S.kill jB (gw ht) au k4) p hp,jr]
  .have e:kB line st turn=⟨grown,st.old,st.size,st.gap+1,st.fault⟩:=by delta kB;rw[if_neg h0,if_neg h2,hfa,hgr]
   rw[e]at ok' ⊢;have m3:turn+1 - st.size<=st.size:=Lo (by rw[<-U4];show UW h2);show⟨ok',hc0,bj (kY dM) (zH jB (bj (yk o2 _) (by rw[Lw,<-vW];show tx m3))),Rx st.size (ey _) m3,k5,k6,lo,congrArg AX o1,o2,?_⟩;show ba o3 (λi0=>hJ i0 λa b c=>by lia) λi0=>hJ i0 λa b c=>aw (gI au (by rw[EX];show b) (by rw[EX];show c))
theorem ae1{a0:LN}{X f:Nat->Nat}(S:Src line X f a0):BMx line a0.length line.length (uA line):=by
 have:∀n,n<=line.length->BMx line a0.length n ((aJ n).foldl (kB line) ⟨[1],[1],0,1,1⟩):=by
  intro n;induction n with
  |zero=>intro _;change BMx line a0.length 0 ⟨[1],[1],0,1,1⟩;show⟨⟨by decide,by decide,Oj Z,Oj Z,Oj Z,Oj Z,Oj Z,Oj Z,Oj Z⟩,rfl,Oj Z,λj _ h=>absurd h (rM _),fj _,uj Z,0,rfl,Oj Z,ak (gI Z Z Z)⟩
  |succ n ih=>intro h;rw[rD,qm];show(ih (qr h)).step S (by assumption)
 show this _ (ey _)
theorem adC{a0:LN}{X f:Nat->Nat}(S:Src line X f a0)(hf:∀p∈a0,f p≠0)(hv:2 * a0.length<=line.length):∀p∈a0,km (uA line).now (X p)=0:=λp hp=>by
 show jc (ae1 S) λk1 _ k3 k4 agc=>hJ agc λk5 _ _=>?_;have D:=k5;have jB:=k3;have h0:=C9 (S.kill jB (ey _) au k4 p hp) (hf p hp);have e:=yU (y:=X p) (uA line).now 0 aL k1.now;rw[jr,iy]at e;have:tm (pN (X p) ((uA line).size - ((uA line).now.length - 1))) (km (uA line).now (X p))=0:=by change tm _ (Ip (X p) (uA line).now 0)=0;show e.symm▸(uf _ λ_ _=>eZ _ _).symm▸h0▸dK λi hi=>?_;rw[<-di,fO (pN _ _),di,<-aak];congr 2;show Lk (Lo jB) (Ln (dm.mp hi))
 show C9 this (aiN (S.x0 p) _)
theorem ZC{a0:LN}{X f:Nat->Nat}(S:Src line X f a0)(hf:∀p∈a0,f p≠0)(hv:2 * a0.length<=line.length)(hE:∀p∈a0,p<n)(hX:∀p,p<n->X p=sp.getD p 0)(hi:∀p,p<n->∀q,q<n->sp.getD p 0=sp.getD q 0->p=q):
 (jO sp (uA line).now n).length=(uA line).size/\(jO sp (uA line).now n).Nodup/\∀p,p∈jO sp (uA line).now n↔p∈a0:=by
 show jc (ae1 S) λk1 k2 k3 _ qq7=>hJ qq7 λk5 _ _=>?_;generalize hF:jO sp (uA line).now n=F;have hFn:F.Nodup:=by show(hF)▸?_;show Fp _ ye
 have hmem:∀p,p∈F↔p<n/\km (uA line).now (sp.getD p 0)=0:=λp=>by show hF▸?_;simp[jO]
 have vW:∀p∈a0,p∈F:=λp hp=>(hmem p).mpr ⟨hE p hp,by show(hX p (hE p hp))▸?_;show(adC S hf hv) p hp⟩;have jB:=k3;have hbd:=k5;have h1:=k1.afw;have hc0:=k2;have hnb:=k1.now;have dM:F.length<=(uA line).now.length - 1:=by
  generalize (uA line).now=now at hmem h1 hc0 hnb;cases now with
  |nil=>show absurd h1 (Nat.not_succ_le_zero _)
  |cons c rest=>
   have hc:c=1:=hc0;have:=aiQ rest.length rest c Z au au (λz hz=>hnb z bw) (F.map λp=>sp.getD p 0) (nodup_map_on (λp hp q hq e=>hi p ((hmem p).mp hp).1 q ((hmem q).mp hq).1 e) hFn)
    (λx E=>by
     obtain⟨p,hp,rfl⟩:=bH.mp E;show(hX p ((hmem p).mp hp).1)▸S.xb p) (λx E=>by
     obtain⟨p,hp,rfl⟩:=bH.mp E;have:=((hmem p).mp hp).2;unfold km at this;rw[iw,jr,iy]at this;show this)
   rw[ig]at this;show this
 have hle:=A8 S.nd vW;show gI au hFn (λp=>⟨λhp=>A9 λqK=>?_,vW p⟩);have:=A8 (l₁:=p::a0) (l₂:=F) (rz.mpr ⟨qK,S.nd⟩) λx E=>zI E hp λh=>vW x h;dsimp only[oO]at this;lia
end iO
namespace iO
theorem SI(l:LN)(x:Nat):km l x=Ip x l 0:=rfl
theorem Qw{r a b:Nat}(ha:a<256):qO r a b=tm a (pw r) ^^^ b:=by
 delta qO
 rcases yB (a=0) with h|h
 .subst h;rw[if_neg ((nofun)),jr]
 .rw [if_pos h,uz h (JT _),DP,NS,<-uy (lg a+r % 255),LD,uy]
theorem ZD(hw:∀x∈ws,x<256)(r:Nat):GS ws r=Ip (pw r) ws 0:=by
 have:∀(l:LN) (a:Nat),a<256->(∀x∈l,x<256)->l.foldl (qO r) a=l.foldl (λwhole part=>tm whole (pw r) ^^^ part) a:=by
  intro l;induction l with
  |nil=>intros;rfl
  |cons b l ih=>intro a ha hl;show iw.symm▸iw.symm▸(Qw ha).symm▸ih _ (iQ (eZ _ _) (hl b bw)) λx E=>hl x bw
 show this ws 0 bD hw
theorem uQ{p:Nat}(hp:p<n)(hn:n<=255):(cN n).getD p 0=pw (n - 1 - p):=by
 delta cN
 rw[dc,cZ,oM hp];show GL au
theorem ZE(hw:∀x∈ws,x<256)(hn:ws.length<=255)(r:Nat):GS ws r=sx (aJ ws.length) λp=>tm (ws.getD p 0) (pN ((cN ws.length).getD p 0) r):=by rw[ZD hw,yU ws 0 bD hw,jr,iy];show dK λp hp=>?_;rw[uQ (dm.mp hp) hn,aal,aal,vm]
theorem ZF{p q:Nat}(hn:n<=255)(hp:p<n)(hq:q<n)(e:(cN n).getD p 0=(cN n).getD q 0):p=q:=by rw[uQ hp hn,uQ hq hn]at e;have:=congrArg lg e;rw[DP,DP,UY au,UY au]at this;lia
theorem aar(hj:j+1<line.length):(wU sp line k).getD j 0=line.getD (j+1) 0 ^^^ tm (sp.getD k 0) (line.getD j 0):=by
 delta wU
 show(congrArg (·.getD 0) EJ).trans ?_;show(?_:_=(line[j+1]?).getD 0 ^^^ tm (sp.getD k 0) ((line[j]?).getD 0));rw[K0,jI 1 j,dE hj,dE (show j<line.length by show UU hj)];rfl
def fw(X:Nat->Nat)(g:Nat->Nat):LN->Nat->Nat
 | [],p=>g p
 |k::kn,p=>fw X (λp=>tm (g p) (X p ^^^ X k)) kn p
theorem aiR{X:Nat->Nat}(kn:LN):∀(g:Nat->Nat),(∀p,g p<256)->∀p,fw X g kn p<256:=by
 induction kn with
 |nil=>intro _ h;show h
 |cons _ kn iH=>intro _ _;show iH _ λ_=>eZ _ _
theorem aas{X:Nat->Nat}{p:Nat}:∀(kn:LN) (g:Nat->Nat),(g p=0\/p∈kn)->fw X g kn p=0
 | [],g,h=>by
  rcases h with h|h
  .show h
  .ext
 |k::kn,g,h=>aas kn _ (by
  rcases h with h|h
  .show ak (by rw[h,jr])
  .rcases bq.mp h with rfl|h
   .show ak (by rw[lP,uP])
   .show aw h)
theorem aiS{X:Nat->Nat}{p:Nat}(kn:LN):∀(g:Nat->Nat),g p≠0->(∀k∈kn,X p≠X k)->fw X g kn p≠0:=by
 induction kn with
 |nil=>intro _ h _;show h
 |cons k kn iH=>intro g h hk;show iH _ (Il h λq=>hk k bw (ue q)) λj hj=>hk j bw
theorem aat{br:LN}(D:∀p,sp.getD p 0<256)(kn:LN):∀(line:LN) (g:Nat->Nat),(∀p,g p<256)->(∀j,j<line.length->line.getD j 0=sx br λp=>tm (g p) (pN (sp.getD p 0) j))->
 ∀j,j<line.length - kn.length->(kS sp line kn).getD j 0=sx br λp=>tm (fw (λp=>sp.getD p 0) g kn p) (pN (sp.getD p 0) j):=by
 induction kn with
 |nil=>intro line g _ h;show λj hj=>h j (hj)
 |cons k kn iH=>intro line g hg h;show λj hj=>by have hl:(wU sp line k).length=line.length - 1:=CL;show iH (wU sp line k) (λp=>tm (g p) (sp.getD p 0 ^^^ sp.getD k 0)) (λp=>eZ _ _) (λj hj=>?_) j (by show hl.symm▸?_;simp at hj;lia);rw[aar au,h _ au,h _ (List.lt_length_left_of_zipWith hj),uf _ λ_ _=>eZ _ _,<-Af];show dK λp _=>(?_:tm (g p) (tm _ _) ^^^ _=_);rw[v7 _ (D _) (D _),qF _ (eZ _ _) (eZ _ _),di,di,<-di (sp.getD k 0),fO (sp.getD k 0) (g p),di]
theorem jN(sp l:LN)(k i:Nat):(eH sp l k).getD i 0=l.getD i 0 ^^^ tm (sp.getD k 0) (if i=0 then 0 else l.getD (i - 1) 0):=by
 delta eH
 rcases mu l.length i with h|h
 .rw [v8 (by simp;assumption),v8 (l:=l) (i:=i) au,if_neg (Nat.ne_zero_of_lt h),v8 (l:=l) (i:=i - 1) au,uP];rfl
 .rw [dc,EJ];have e1:(l++[0])[i]? =O (l.getD i 0):=by
   rcases mu i l.length with q|q
   .rw [vg q,dc,dE q];rfl
   .rw [show i=l.length by show vk h q,v8 (ey _)];show List.getElem?_concat_length
  have e2:([0]++l)[i]? =O (if i=0 then 0 else l.getD (i - 1) 0):=by
   cases i with
   |zero=>rfl
   |succ i=>change l[i]? =_;rw[if_neg (Ls i),th,dc,dE (by assumption)];rfl
  rw[e1,e2];rfl
theorem Iq{l m:LN}(h:l.length=m.length)(e:∀i,i<l.length->l.getD i 0=m.getD i 0):l=m:=by show UG h λi h1 h2=>?_;have:=e i h1;rw[dc,dc,dE h1,dE h2]at this;show this
theorem Ji(sp:LN){l:LN}(hl:∀x∈l,x<256)(a b:Nat):eH sp (eH sp l a) b=eH sp (eH sp l b) a:=by
 show Iq (by rw[lu,lu,lu,lu]) λi _=>?_;have D:=jf hl;rw[jN,jN,jN sp _ a i,jN sp l b i];show if h0:i=0 then by rw[if_pos h0,if_pos h0,if_pos h0,uP,uP] else ?_
 rw[if_neg h0,if_neg h0,if_neg h0,jN,jN];have hz:(if i - 1=0 then 0 else l.getD (i - 1 - 1) 0)<256:=by
  split
  .decide
  .show D _
 rw[v7 _ (D _) (eZ _ _),v7 _ (D _) (eZ _ _),<-di,<-di,fO (sp.getD b 0) (sp.getD a 0)]
 ac_rfl
theorem ZG(q:Nat)(l:LN):∀(z:LN),(∀x∈z,x<256)->l.foldl (eH sp) (eH sp z q)=eH sp (l.foldl (eH sp) z) q:=by
 induction l with
 |nil=>intro _ _;show rfl
 |cons a l iH=>intro z hz;rw[iw,iw,Ji sp hz];show iH _ (pX hz)
theorem aau(q:Nat)(l1 l2:LN):pv sp (l1++q::l2)=eH sp (pv sp (l1++l2)) q:=by
 delta pv
 rw[qm,iw,qm];show ZG q l2 _ (BG l1).1
theorem NW{l:LN}{q:Nat}(hl:∀x∈l,x<256)(hy:y<256)(hq:sp.getD q 0<256):Ip y (eH sp l q) 0=tm (y ^^^ sp.getD q 0) (Ip y l 0):=by
 rw[yU _ 0 bD (pX hl),yU _ 0 bD hl,jr,jr,iy,iy,lu,qF _ hy hq,uf _ λ_ _=>eZ _ _,uf _ λ_ _=>eZ _ _];have e:sx (aJ (l.length+1)) (λi=>tm ((eH sp l q).getD i 0) (pN y (l.length+1 - 1 - i)))=
  sx (aJ (l.length+1)) (λi=>tm (l.getD i 0) (pN y (l.length - i))) ^^^ sx (aJ (l.length+1)) (λi=>tm (tm (sp.getD q 0) (if i=0 then 0 else l.getD (i - 1) 0)) (pN y (l.length - i))):=by
  rw[<-Af];show dK λi _=>?_;rw[jN,qF _ ((jf hl) _) (eZ _ _),th]
 rw[e,lH,v8 (ey _),jr,gx,ma,if_pos Z,uP,jr,iy];congr 1
 .show dK λi hi=>?_;have hi:=dm.mp hi;rw[<-di,fO y,di];congr 1;rw[show l.length - i=l.length - 1 - i+1 from nj6 au];rfl
 .show dK λi _=>?_;rw[if_neg (Ls i),th,di];congr 3;lia
def pd(X:Nat->Nat)(y:Nat):LN->Nat
 | []=>1
 |o::l=>tm (y ^^^ X o) (pd X y l)
theorem aiT{X:Nat->Nat}:∀l,pd X y l<256
 | []=>(by decide:1<256)
 |_::_=>eZ _ _
theorem aav(hy:y<256)(D:∀p,sp.getD p 0<256)(l:LN):∀(z:LN),(∀x∈z,x<256)->Ip y (l.foldl (eH sp) z) 0=tm (pd (λp=>sp.getD p 0) y l) (Ip y z 0):=by
 induction l with
 |nil=>intro z hz;show(Qt (aap bD hz)).symm
 |cons a l iH=>intro z hz;rw[iw,iH _ (pX hz),NW hz hy (D a),show pd _ y (a::l)=tm (y ^^^ sp.getD a 0) (pd _ y l) from rfl,<-di,fO (pd _ y l)]
theorem adD{X:Nat->Nat}{p:Nat}{l:LN}(h:p∈l):pd X (X p) l=0:=by
 induction l with
 |nil=>show kM h
 |cons o l ih=>
  dsimp only[pd];rcases bq.mp h with rfl|h
  .rw [lP,jr]
  .rw [ih h,uP]
theorem agd{l:LN}{q:Nat}(hl:∀x∈l,x<256)(t:Nat):sx (aJ (t+1)) (λb=>tm ((eH sp l q).getD b 0) (pN (sp.getD q 0) (t - b)))=l.getD t 0:=by
 induction t with
 |zero=>rw[lH,UI,Io,iy,jN,if_pos Z,uP,gx];change tm _ 1=_;rw[fO,Qt (jf hl _)]
 |succ t iH=>
  rw[lH,LG];have e:sx (aJ (t+1)) (λb=>tm ((eH sp l q).getD b 0) (pN (sp.getD q 0) (t+1 - b)))=tm (sp.getD q 0) (l.getD t 0):=by rw[<-iH,uf _ λ_ _=>eZ _ _];show dK λb D=>?_;rw[show t+1 - b=t - b+1 from Nat.succ_sub (mY (dm.mp D))];change tm _ (tm _ _)=_;rw[<-di,<-di,fO (sp.getD q 0)]
  rw[e];change _ ^^^ tm _ 1=_;rw[fO _ 1,Qt (jf (pX hl) _),jN,if_neg (Ls t),th,LH (l.getD (t+1) 0),<-rN,lP,iy]
end iO
namespace iO
theorem NX{p:Nat}{l1 l2:LN}(h:(l1++p::l2).Nodup):p∉l1++l2/\(l1++l2).Nodup:=rz.mp (List.perm_middle.nodup_iff.mp h)
theorem age{q:Nat}{m1:LN}:∀{l1 m2 l2:LN},m1++q::m2=l1++q::l2->q∉m1->q∉l1->m1=l1/\m2=l2:=by
 induction m1 with
 |nil=>
  intro l1 m2 l2 h k1 k2;cases l1 with
  |nil=>show⟨rfl,(my h).2⟩
  |cons a l1=>show absurd ((my h).1▸cR ..) k2
 |cons a m1 ih=>
  intro l1 m2 l2 h k1 k2;cases l1 with
  |nil=>show absurd ((my h).1▸cR ..) k1
  |cons b l1=>show fc (my h) λe1 e2=>fc (ih e2 (λh=>k1 (bV _ h)) λh=>k2 (bV _ h)) λe3 e4=>⟨by rw[e1,e3],e4⟩
theorem adE{P:LN}{f:Nat->Nat}(hn:P.Nodup)(hp:∀p∈P,p<n)(h0:∀p,p<n->p∉P->f p=0):sx (aJ n) f=sx P f:=by show(JU (l:=aJ n) (λp=>decide (p∈P)) λa ha e=>h0 a (dm.mp ha) (of_decide_eq_false e))▸ady ((List.perm_ext_iff_of_nodup (Fp _ ye) hn).mpr λa=>?_);rw[gq,dm,decide_eq_true_eq];show⟨λh=>h.2,λh=>⟨hp a h,h⟩⟩
theorem adF{P rs:LN}{e X:Nat->Nat}{t:Nat}(h:∀j,j<=t->rs.getD j 0=sx P λq=>tm (e q) (pN (X q) j)):
 RC pr rs t=sx P λq=>tm (e q) (sx (aJ (t+1)) λb=>tm (pr.getD b 0) (pN (X q) (t - b))):=by
 delta RC
 rw[Ya,iy];have e1:sx (aJ (t+1)) (λb=>tm (pr.getD b 0) (rs.getD (t - b) 0))=sx (aJ (t+1)) λb=>sx P λq=>tm (e q) (tm (pr.getD b 0) (pN (X q) (t - b))):=dK λb _=>by rw[h _ au,uf _ λ_ _=>eZ _ _];show dK λq _=>by rw[<-di,fO (pr.getD b 0),di]
 rw[e1,NV];show dK λq _=>(uf _ λ_ _=>eZ _ _).symm
theorem adG{rs:LN}{t:Nat}(h:t<n):(wV pr rs n).getD t 0=RC pr rs t:=by
 delta wV
 rw[dc,cZ,oM h];rfl
theorem amount{P rs:LN}{e:Nat->Nat}(D:∀p,sp.getD p 0<256)(W0:∀j,j<P.length->rs.getD j 0=sx P λq=>tm (e q) (pN (sp.getD q 0) j)){l1 l2:LN}{p:Nat}(hP:P=l1++p::l2)(tV:P.Nodup):
 km (wV (pv sp P) rs P.length) (sp.getD p 0)=tm (e p) (pd (λp=>sp.getD p 0) (sp.getD p 0) (l1++l2)):=by
 have hab:∀x∈wV (pv sp P) rs P.length,x<256:=λx E=>by show bf (bH.mp E) λt _ dX=>?_;subst dX;show Xc
 rw[SI,yU _ 0 aL hab,jr,iy,(by simp[wV]:(wV (pv sp P) rs P.length).length=P.length)];have quo:∀q∈P,∃M,(∀x∈M,x<256)/\M.length=P.length/\pv sp P=eH sp M q/\Ip (sp.getD p 0) M 0=if q=p then pd (λp=>sp.getD p 0) (sp.getD p 0) (l1++l2) else 0:=λq hq=>by
  show jg (UB hq) λm1 m2 em=>((wC (pv sp (m1++m2)) ((BG _).1) (by rw[(BG _).2,em];simp;show lO m1.length m2.length 1) (by rw[em];show aau q m1 m2) ?_))
  delta pv
  rw[aav (D p) D _ _ aL];rw[(by change tm 0 _ ^^^ 1=1;rw[jr];rfl:Ip (sp.getD p 0) [1] 0=1),fO,Qt (aiT _)];by_cases e:q=p
  .subst e;rw[if_pos Z];have:m1=l1/\m2=l2:=age (em.symm.trans hP) (λh=>((NX (em▸tV)).1) (de _ h)) (λh=>((NX (hP▸tV)).1) (de _ h));rw[this.1,this.2]
  .show (if_neg e).symm▸adD ?_;rcases bZ.mp (by rw[<-em,hP];simp:p∈m1++q::m2) with h|h
   .show de _ h
   .show ba (bq.mp h) (λh=>absurd h.symm e) λh=>ew _ h
 have e1:sx (aJ P.length) (λi=>tm ((wV (pv sp P) rs P.length).getD i 0) (pN (sp.getD p 0) (P.length - 1 - i)))=
  sx (aJ P.length) λi=>sx P λq=>tm (e q) (tm (sx (aJ (i+1)) λb=>tm ((pv sp P).getD b 0) (pN (sp.getD q 0) (i - b))) (pN (sp.getD p 0) (P.length - 1 - i))):=dK λi hi=>by
  have hi:=dm.mp hi;rw[adG hi,adF λj hj=>W0 j au,aan _ λ_ _=>eZ _ _];show dK λq _=>di _ _ _
 rw[e1,NV];have e2:sx P (λq=>sx (aJ P.length) λi=>tm (e q) (tm (sx (aJ (i+1)) λb=>tm ((pv sp P).getD b 0) (pN (sp.getD q 0) (i - b))) (pN (sp.getD p 0) (P.length - 1 - i))))=
  sx P λq=>tm (e q) (if q=p then pd (λp=>sp.getD p 0) (sp.getD p 0) (l1++l2) else 0):=dK λq hq=>by
  show lZ (quo q hq) λM hM hMl eP hh=>?_;rw[<-hh,yU _ 0 aL hM,jr,iy,uf _ λ_ _=>eZ _ _,hMl];show dK λi _=>?_;rw[eP,agd hM]
 rw[e2,hP,aam,fI,if_pos Z];have n2:=(NX (hP▸tV)).1;rw[Ci λq hq=>by rw[if_neg (λw:q=p=>n2 (w▸de _ hq)),uP],Ci λq hq=>by rw[if_neg (λw:q=p=>n2 (w▸ew _ hq)),uP],iy,gx]
end iO
namespace iO
theorem ZH{p e:Nat}(he:e<256)(l:LN):(∀o∈l,o≠p/\sp.getD p 0 ^^^ sp.getD o 0≠0)->pA sp l p (tm e (pd (λp=>sp.getD p 0) (sp.getD p 0) l))=e:=by
 induction l with
 |nil=>intro _;show(?_:tm e 1=e);rw[fO,Qt he]
 |cons o l iH=>
  intro h;show fc (h o bw) λh1 h2=>(?_:pA sp l p (jC sp p (tm e (tm (sp.getD p 0 ^^^ sp.getD o 0) (pd _ _ l))) o)=e);have:jC sp p (tm e (tm (sp.getD p 0 ^^^ sp.getD o 0) (pd (λp=>sp.getD p 0) (sp.getD p 0) l))) o=tm e (pd (λp=>sp.getD p 0) (sp.getD p 0) l):=by
   delta jC
   rw[<-di,fO e,di];generalize hw:tm e (pd (λp=>sp.getD p 0) (sp.getD p 0) l)=W;show if h0:W=0 then by rw[h0,uP,if_neg ((nofun))] else by rw[if_pos ⟨h1,Il h2 h0⟩,adx (hw▸eZ _ _) h2 h0]
  show this.symm▸(iH λo' ho=>h o' bw)
theorem Ir(sp l1 l2:LN)(p a:Nat):pA sp (l1++l2) p a=pA sp l2 p (pA sp l1 p a):=qm
theorem aaw{p e:Nat}(he:e<256)(l1 l2:LN)(h:∀o∈l1++l2,o≠p/\sp.getD p 0 ^^^ sp.getD o 0≠0):pA sp (l1++p::l2) p (tm e (pd (λp=>sp.getD p 0) (sp.getD p 0) (l1++l2)))=e:=by
 have e1:∀a,pA sp (l1++p::l2) p a=pA sp (l1++l2) p a:=λa=>by rw[Ir,Ir];change pA sp l2 p (jC sp p _ p)=_;show congrArg _ (if_neg fF)
 rw[e1,ZH he _ h]
theorem JV{P am:LN}{v:Nat->Nat}(i:Nat)(l:LN):∀(md:LN),l.Nodup->(∀p∈l,p<md.length/\pA sp P p (km am (sp.getD p 0))=v p)->
 (l.foldl (mQ sp P am) md).length=md.length/\(l.foldl (mQ sp P am) md).getD i 0=md.getD i 0 ^^^ (if i∈l then v i else 0):=by
 induction l with
 |nil=>intro md _ _;show⟨rfl,by rw[if_neg (mX),gx];rfl⟩
 |cons p l iH=>
  intro md hn h;have wu:=rz.mp hn;have hl:(mQ sp P am md p).length=md.length:=by simp[mQ]
  obtain⟨h1,h2⟩:=iH (mQ sp P am md p) wu.2 λq hq=>by rw[hl];show h q bw
  show fc (h p bw) λa b=>?_;dsimp only[iw];show⟨h1.trans hl,?_⟩;rw[h2]
  delta mQ
  rw[Cj,b];by_cases e:i=p
  .show e.symm▸?_;rw[if_pos ⟨rfl,a⟩,if_neg wu.1,if_pos bw,gx]
  .rw [if_neg λq=>e q.1];show if q:i∈l then by rw[if_pos q,if_pos bw] else by rw[if_neg q,if_neg (hb e q)]
theorem mended{T:LN}(hn:ws.length<=255)(dM:cs.length=ws.length)(hw:∀x∈ws,x<256)(hc:∀x∈cs,x<256)(xm:∀r,r<c->sx (aJ ws.length) (λp=>tm (cs.getD p 0) (pN ((cN ws.length).getD p 0) r))=0)(hkn:kn.Nodup)(hkb:∀k∈kn,k<ws.length)(hT:2 * T.length<=c - kn.length)(hkc:kn.length<=c)(ak9:∀p,p<ws.length->ws.getD p 0≠cs.getD p 0->p∈kn\/p∈T):
 (jO (cN ws.length) (uA (kS (cN ws.length) (fU ws c) kn)).now ws.length).length=(uA (kS (cN ws.length) (fU ws c) kn)).size/\vS ws c kn=cs:=by
 have wg:∀p,(cN ws.length).getD p 0<256:=OW _;have Yb:∀p,p<ws.length->(cN ws.length).getD p 0≠0:=λp hp=>by rw[uQ hp hn];show JT _
 have adH:∀p,p<ws.length->∀q,q<ws.length->(cN ws.length).getD p 0=(cN ws.length).getD q 0->p=q:=λp hp q hq e=>ZF hn hp hq e;have hxd:∀p q,p<ws.length->q<ws.length->q≠p->(cN ws.length).getD p 0 ^^^ (cN ws.length).getD q 0≠0:=λp q hp hq qK e=>qK (adH p hp q hq (ue e)).symm;generalize wu:ws.length=n at *;generalize aiU:cN n=sp at *
 let e:Nat->Nat:=λp=>ws.getD p 0 ^^^ cs.getD p 0;have he:∀p,e p<256:=λp=>iQ (jf hw p) (jf hc p);have hrl:(fU ws c).length=c:=by simp[fU]
 have W0:∀j,j<c->(fU ws c).getD j 0=sx (aJ n) λp=>tm (e p) (pN (sp.getD p 0) j):=λj hj=>by
  have e1:(fU ws c).getD j 0=GS ws j:=by
   delta fU
   rw[dc,cZ,oM hj];rfl
  rw[e1,ZE hw (le_of_eq_of_le wu hn),wu,aiU];have e2:sx (aJ n) (λp=>tm (e p) (pN (sp.getD p 0) j))=sx (aJ n) (λp=>tm (ws.getD p 0) (pN (sp.getD p 0) j) ^^^ tm (cs.getD p 0) (pN (sp.getD p 0) j)):=
   dK λp _=>qF _ (jf hw p) (jf hc p)
  rw[e2,Af,xm j hj,gx]
 generalize agf:fU ws c=rs at *
 let X:Nat->Nat:=λp=>if p<n then sp.getD p 0 else 1
 let f:Nat->Nat:=fw (λp=>sp.getD p 0) e kn
 let a0:LN:=(aJ n).filter λp=>decide (f p≠0);have hEm:∀p,p∈a0↔p<n/\f p≠0:=λp=>by rw[gq,dm,decide_eq_true_eq]
 have aiV:a0.Nodup:=Fp _ ye;have hEk:∀p∈a0,p∉kn/\e p≠0:=λp hp=>⟨λq=>((hEm p).mp hp).2 (aas kn e (aw q)),λq=>((hEm p).mp hp).2 (aas kn e (ak q))⟩;have hET:a0.length<=T.length:=A8 aiV λp hp=>by show fc (hEk p hp) λh1 h2=>((ak9 p ((hEm p).mp hp).1 λq=>h2 ?_).resolve_left h1);change ws.getD p 0 ^^^ cs.getD p 0=0;rw[q,lP]
 have hll:(kS sp rs kn).length=c - kn.length:=by rw[(GX kn rs (λx E=>by have E:=agf.symm▸E;show wR (GU (allB_of hw)) E)).2,hrl]
 have S:Src (kS sp rs kn) X f a0:=⟨(GX kn rs (λx E=>by rw[<-agf]at E;show wR (GU (allB_of hw)) E)).1,λp=>by change(if p<n then _ else _)<256;split<;>first|show wg p|decide,
  λp=>by change(if p<n then _ else _)≠0;split<;>first|show Yb p (by assumption)|decide,aiR kn e he,aiV,λp hp q hq h=>by
   have h:(if p<n then sp.getD p 0 else 1)=if q<n then sp.getD q 0 else 1:=h
   rw[if_pos ((hEm p).mp hp).1,if_pos ((hEm q).mp hq).1]at h;show adH p ((hEm p).mp hp).1 q ((hEm q).mp hq).1 h,λj hj=>by
   show(aat wg kn rs e he (λj hj=>W0 j au) j au).symm▸?_;have e3:sx (aJ n) (λp=>tm (fw (λp=>sp.getD p 0) e kn p) (pN (sp.getD p 0) j))=sx (aJ n) λp=>tm (f p) (pN (X p) j):=dK λp hp=>by change _=tm (f p) (pN (if p<n then _ else _) j);rw[if_pos (dm.mp hp)]
   rw[e3];show(JU _ λp _ h=>by rw[Classical.not_not.mp (of_decide_eq_false h),jr]).symm⟩
 show hJ (ZC (n:=n) (sp:=sp) S (λp hp=>((hEm p).mp hp).2) au (λp hp=>((hEm p).mp hp).1) (λp hp=>if_pos hp) adH) λF1 F2 F3=>⟨F1,?_⟩
 delta vS yK
 rw[wu,aiU,agf];generalize jO sp (uA (kS sp rs kn)).now n=F at *;have hPn:(kn++F).Nodup:=ql.mpr (gI hkn F2 (λa ha b D q=>(hEk b ((F3 b).mp D)).1 (q▸ha)));have hPb:∀p∈kn++F,p<n:=λp hp=>ba (bZ.mp hp) (λh=>hkb p h) λh=>((hEm p).mp ((F3 p).mp h)).1;have hPs:∀p,p<n->p∉kn++F->e p=0:=λp hp hq=>A9 λh0=>hq (by
  show if hk:p∈kn then de _ hk else ?_
  show ew _ ((F3 p).mpr ((λp hp h0 hk=>(hEm p).mpr ⟨hp,aiS kn e h0 λk hk' q=>hk (adH p hp k (hkb k hk') q▸hk')⟩:∀p,p<n->e p≠0->p∉kn->p∈a0) p hp h0 hk)))
 have hFl:F.length<=a0.length:=A8 F2 λp hp=>(F3 p).mp hp;have hPl:(kn++F).length<=c:=by rw[iu];lia
 have hv:∀p∈kn++F,pA sp (kn++F) p (km (wV (pv sp (kn++F)) rs (kn++F).length) (sp.getD p 0))=e p:=λp hp=>by
  show jg (UB hp) λl1 l2 hP=>?_;rw[amount (e:=e) wg (λj hj=>(W0 j au).symm▸adE hPn hPb λp h1 h2=>by rw[hPs p h1 h2,jr]) hP hPn,hP];show aaw (he p) l1 l2 λo ho=>?_;have hop:o≠p:=λq=>((NX (hP▸hPn)).1) (q▸ho);have hoP:o∈kn++F:=by rw[hP];rcases bZ.mp ho with h|h<;>ext
  show⟨hop,hxd p o (hPb p hp) (hPb o hoP) hop⟩
 show Iq (by rw[(JV (v:=e) 0 (kn++F) ws hPn λp hp=>⟨by rw[wu];show hPb p hp,hv p hp⟩).1,wu,dM]) λi hi=>?_;have hm:=JV (v:=e) i (kn++F) ws hPn λp hp=>⟨by rw[wu];show hPb p hp,hv p hp⟩;rw[hm.1,wu]at hi;show hm.2.symm▸?_;have E:ws.getD i 0 ^^^ e i=cs.getD i 0:=by rw[<-rN,lP,iy]
 by_cases q:i∈kn++F
 .rw [if_pos q,E]
 .rw [hPs i hi q,gx]at E;rw[if_neg q,gx,E]
end iO
namespace iO
def zB:LN:=Q9++Q9
theorem agg(h:k<510):zB.getD k 0=pw k:=by
 delta zB
 rw[dc];rcases mu k 255 with q|q
 .rw [vg (yI▸q),<-dc];show GL q
 .rw [yd (yI▸q),yI,<-dc];have:=GL (k:=k - 255) (Nat.sub_lt_left_of_lt_add q h);unfold FQ at this;rw[this,<-SH,show k - 255+255=k by lia]
theorem adI(hg:∀x∈gen,x<255)(hl:lc<255)(p:Nat)(n:Nat):n<=gen.length->k+n<eb.length->
 (Cd zB gen k lc eb n).getD p 0=eb.getD p 0 ^^^ (if k<p/\p<=k+n then tm (pw lc) (pw (gen.getD (p - k - 1) 0)) else 0):=by
 induction n with
 |zero=>intro _ _;rw[if_neg fF,gx];rfl
 |succ n iH=>
  intro h1 h2;have ih:=iH (qr h1) (UU h2);have hgn:gen.getD n 0<255:=by rw[dc,dE (show n<gen.length by assumption)];show hg _ (Lc _)
  unfold Cd;rw[Cj,HZ,agg (k:=lc+gen.getD n 0) au,<-Qs];by_cases e:p=k+n+1
  .subst e;rw[if_pos ⟨rfl,by lia⟩,ih,if_neg fF,if_pos au,gx,show k+n+1 - k - 1=n by lia]
  .rw [if_neg λq=>e q.1,ih];show if q:k<p/\p<=k+n then by rw[if_pos q,if_pos au] else by rw[if_neg q,if_neg au]
theorem aax{gen:LN}{k lc:Nat}{eb:LN}(D:∀x∈eb,x<256):∀n,∀x∈Cd zB gen k lc eb n,x<256
 | 0=>D
 |n+1=>λx E=>by
  have ih:=aax (gen:=gen) (k:=k) (lc:=lc) D n;show ba (ve E) (λh=>ih x h) λh=>?_;subst h;show iQ (jf ih _) (jf (λx E=>by
   have:x∈Q9:=by rcases bZ.mp E with h|h<;>show h
   show bf (bH.mp this) λi _ dX=>dX▸OT i) _)
theorem SJ(D:∀x∈eb,x<256):∀k,∀x∈gV wz zB gen eb k,x<256:=by
 intro xX;induction xX with
 |zero=>show D
 |succ k iH=>
  rw[gV];split
  .show iH
  .show aax (iH) _
def JW(gen:LN):Prop:=(∀x∈gen,x<255)/\∀r,r<gen.length->pw (r * gen.length) ^^^ sx (aJ gen.length) (λj=>pw (gen.getD j 0+r * (gen.length - 1 - j)))=0
theorem aay(hG:JW gen)(D:∀x∈eb,x<256){r:Nat}(hr:r<gen.length)(hk:k+gen.length<eb.length):
 sx (aJ (eb.length - (k+1))) (λi=>tm ((gV wz zB gen eb (k+1)).getD (k+1+i) 0) (pw (r * (eb.length - 1 - (k+1+i)))))=
 sx (aJ (eb.length - k)) (λi=>tm ((gV wz zB gen eb k).getD (k+i) 0) (pw (r * (eb.length - 1 - (k+i))))):=by
 have hbk:=SJ (gen:=gen) D k;have hlk:(gV wz zB gen eb k).length=eb.length:=xu k;obtain⟨M,eM⟩:∃M,eb.length - k=M+1:=⟨eb.length - k - 1,nj0 (Lj hk)⟩;have eM2:eb.length - (k+1)=M:=nj2 eM;have eK:gV wz zB gen eb (k+1)=if(gV wz zB gen eb k).getD k 0=0 then gV wz zB gen eb k else Cd zB gen k (wz.getD ((gV wz zB gen eb k).getD k 0) 0) (gV wz zB gen eb k) gen.length:=rfl
 rw[eM,eM2,ma,eK];simp only[AW];generalize gV wz zB gen eb k=aY at *;by_cases h0:aY.getD k 0=0
 .rw [if_pos h0,h0,jr,iy];show dK λi _=>by rw[show k+(i+1)=k+1+i by lia]
 .rw [if_neg h0];have hlc:wz.getD (aY.getD k 0) 0<255:=WY _;have hpw:pw (wz.getD (aY.getD k 0) 0)=aY.getD k 0:=yT _ (jf hbk k) h0;have e1:sx (aJ M) (λi=>tm ((Cd zB gen k (wz.getD (aY.getD k 0) 0) aY gen.length).getD (k+1+i) 0) (pw (r * (eb.length - 1 - (k+1+i)))))=
   sx (aJ M) (λi=>tm (aY.getD (k+(i+1)) 0) (pw (r * (eb.length - 1 - (k+(i+1))))) ^^^ tm (if i<gen.length then tm (aY.getD k 0) (pw (gen.getD i 0)) else 0) (pw (r * (eb.length - 1 - (k+1+i))))):=dK λi _=>by
   rw[adI hG.1 hlc _ _ (ey _) au,hpw,show k+1+i=k+(i+1) by show yj k i,show k+(i+1) - k - 1=i by lia];show if q:i<gen.length then by rw[if_pos au,if_pos q,qF _ (jf hbk _) (eZ _ _)] else by rw[if_neg au,if_neg q,qF _ (jf hbk _) bD]
  rw[e1,Af,LH];congr 1;have hM:gen.length<=M:=by lia
  rw[FX hM λi hi=>by rw[if_neg (j5.mpr hi),jr]];have e2:sx (aJ gen.length) (λi=>tm (if i<gen.length then tm (aY.getD k 0) (pw (gen.getD i 0)) else 0) (pw (r * (eb.length - 1 - (k+1+i)))))=
   sx (aJ gen.length) λi=>tm (tm (aY.getD k 0) (pw (r * (M - gen.length)))) (pw (gen.getD i 0+r * (gen.length - 1 - i))):=dK λi hi=>by
   have hi:=dm.mp hi;rw[if_pos hi,di,di,Qs,Qs];congr 2;rw[show eb.length - 1 - (k+1+i)=(M - gen.length)+(gen.length - 1 - i) from(by rw[nj3 eM,E8 gen.length 1 i,Lk hM (AU.mpr hi)];change k+M - (k+1+i)=_;rw[lO,Nat.add_sub_add_left]),yp];show Nat.add_left_comm (gen.getD i 0) (r * (M - gen.length)) (r * (gen.length - 1 - i))
  rw[e2,<-uf _ λ_ _=>OT _,<-ue (hG.2 r hr),di,Qs,<-yp];congr 3;lia
theorem enc(hG:JW gen)(hd:∀x∈data,x<256)(hN:data.length+gen.length<=255){r:Nat}(hr:r<gen.length):
 sx (aJ (data.length+gen.length)) (λp=>tm ((data++(gV wz zB gen (data++b8 gen.length 0) data.length).drop data.length).getD p 0) (pN ((cN (data.length+gen.length)).getD p 0) r))=0:=by
 have D:∀x∈data++b8 gen.length 0,x<256:=λx E=>by
  rcases bZ.mp E with h|h
  .show hd x h
  .rw [vh h];decide
 have hl:(data++b8 gen.length 0).length=data.length+gen.length:=by simp
 have key:∀k,k<=data.length->sx (aJ (data.length+gen.length - k)) (λi=>tm ((gV wz zB gen (data++b8 gen.length 0) k).getD (k+i) 0) (pw (r * (data.length+gen.length - 1 - (k+i)))))=
  sx (aJ (data.length+gen.length)) (λi=>tm ((data++b8 gen.length 0).getD i 0) (pw (r * (data.length+gen.length - 1 - i)))):=by
  intro k;induction k with
  |zero=>intro _;simp only[qt];rfl
  |succ k ih=>intro hk;show(ih au)▸have:=aay (k:=k) hG D hr (by rw[hl];show EY hk gen.length);have this:=hl▸this;this
 have k1:=key data.length (ey _);rw[rF]at k1;have e0:sx (aJ (data.length+gen.length)) (λi=>tm ((data++b8 gen.length 0).getD i 0) (pw (r * (data.length+gen.length - 1 - i))))=
  sx (aJ data.length) (λi=>tm (data.getD i 0) (pw (r * (data.length+gen.length - 1 - i)))):=by
  rw[FX (a:=data.length) au λi hi=>by rw[yV,v8 hi,jr]];show dK λi _=>by rw[yV]
 have sp:∀p,p<data.length+gen.length->pN ((cN (data.length+gen.length)).getD p 0) r=pw (r * (data.length+gen.length - 1 - p)):=λp hp=>by rw[uQ hp hN,aal,vm]
 have e3:∀(f:Nat->Nat) (a b:Nat),sx (aJ (a+b)) f=sx (aJ a) f ^^^ sx (aJ b) λi=>f (a+i):=λf a b=>by
  induction b with
  |zero=>rw[AW,UI,Io,gx]
  |succ b ih=>rw[<-lO,lH,lH,ih,rN]
 rw[e3];have e4:∀i,i<data.length->∀t:LN,(data++t).getD i 0=data.getD i 0:=λi hi t=>by rw[dc,vg hi,dc]
 have e5:∀i,∀t:LN,(data++t.drop data.length).getD (data.length+i) 0=t.getD (data.length+i) 0:=λi t=>by rw[dc,yd au,K0,dc,show data.length+(data.length+i - data.length)=data.length+i by lia]
 have q1:sx (aJ data.length) (λp=>tm ((data++(gV wz zB gen (data++b8 gen.length 0) data.length).drop data.length).getD p 0) (pN ((cN (data.length+gen.length)).getD p 0) r))=
  sx (aJ data.length) (λi=>tm (data.getD i 0) (pw (r * (data.length+gen.length - 1 - i)))):=dK λi hi=>by
  have hi:=dm.mp hi;rw[e4 i hi,sp i (LA gen.length hi)]
 have q2:sx (aJ gen.length) (λi=>tm ((data++(gV wz zB gen (data++b8 gen.length 0) data.length).drop data.length).getD (data.length+i) 0) (pN ((cN (data.length+gen.length)).getD (data.length+i) 0) r))=
  sx (aJ gen.length) (λi=>tm ((gV wz zB gen (data++b8 gen.length 0) data.length).getD (data.length+i) 0) (pw (r * (data.length+gen.length - 1 - (data.length+i))))):=dK λi hi=>by
  rw[e5,sp _ (yl (dm.mp hi) data.length)]
 rw[q1,q2,k1.trans e0,lP]
noncomputable def agh:LN:=[113,164,166,119,10]
noncomputable def agi:LN:=[166,0,134,5,176,15]
theorem ala:JW agh:=⟨by decide,by decide⟩
theorem alb:JW agi:=⟨by decide,by decide⟩
end iO
namespace iO
theorem NY{p q:Nat×Nat}{v:Nat}(h:Sq pic)(h1:p.1<13)(h2:p.2<13):iV (pC pic p.1 p.2 v) q=if q=p then v else iV pic q:=by
 have hr:=h.2 p.1 h1;have hl:=h.1;obtain⟨a,b⟩:=p;obtain⟨i,j⟩:=q
 delta iV pC
 simp only at h1 h2 hr ⊢;by_cases e:i=a
 .subst e;have e1:(pic.set i ((pic.getD i []).set b v)).getD i []=(pic.getD i []).set b v:=by rw[dc,EN,if_pos Z,if_pos au];rfl
  rw[e1,Cj,hr];by_cases e2:j=b
  .show e2.symm▸?_;rw[if_pos ⟨rfl,h2⟩,if_pos Z]
  .rw [if_neg λq=>e2 q.1,if_neg λq=>e2 (tM q).2]
 .have e1:(pic.set a ((pic.getD a []).set b v)).getD i []=pic.getD i []:=by rw[dc,EN,if_neg (λq=>e q.symm),<-dc]
  rw[e1,if_neg λq=>e (tM q).1]
noncomputable def pL(k:Nat):Nat×Nat:=je.getD k (0,0)
theorem aaz:∀k,k<80->∀l,l<80->pL k=pL l->k=l:=by decide
theorem agj:∀k,k<80->(pL k).1<13/\(pL k).2<13:=by decide
def Ck(ns:LN)(st:List (LN)×Nat)(p:Nat×Nat):List (LN)×Nat:=cond (fD (iV st.1 p) 2 && jJ st.2 ns.length) (pC st.1 p.1 p.2 (ns.getD st.2 0),st.2+1) st
def VIS:List (Nat×Nat):=[12,10,8,6,4,2].flatMap λright=>(aJ 13).flatMap λv=>(aJ 2).map λz=>(JJ right v,right - z)
theorem Iu{f g:β->α->β}(h:∀b a,f b a=g b a)(l:List α)(b:β):l.foldl f b=l.foldl g b:=by rw[show f=g from funext λb=>funext λa=>h b a]
theorem adJ(ns:LN)(b9:List (LN)):I9 ns b9=VIS.foldl (Ck ns) (b9,0):=by
 delta VIS
 rw[UC];show Iu (λst right=>?_) _ _;rw[UC];show Iu (λst v=>?_) _ _;show Iu (λst z=>rfl) _ _
theorem agk:VIS.Nodup:=by decide
theorem aiW:∀p∈VIS,p.1<13/\p.2<13:=by decide
def two(b9:List (LN))(p:Nat×Nat):Bool:=fD (iV b9 p) 2
theorem JX:VIS.filter (two (mG Qb 8))=je:=by rfl
theorem SK(ns:LN)(aO:List (Nat×Nat)):∀(b9:List (LN)) (i:Nat),aO.Nodup->(∀p∈aO,p.1<13/\p.2<13)->Sq b9->i+(aO.filter (two b9)).length<=ns.length->
 (aO.foldl (Ck ns) (b9,i)).2=i+(aO.filter (two b9)).length/\Sq (aO.foldl (Ck ns) (b9,i)).1/\(∀p,p∉aO->iV (aO.foldl (Ck ns) (b9,i)).1 p=iV b9 p)/\
 ∀k,k<(aO.filter (two b9)).length->iV (aO.foldl (Ck ns) (b9,i)).1 ((aO.filter (two b9)).getD k (0,0))=ns.getD (i+k) 0:=by
 induction aO with
 |nil=>intro b9 i _ _ hs _;show rT Z hs (λ_ _=>rfl) (λk hk=>absurd hk (rM _))
 |cons p aO iH=>
  intro b9 i hn D hs hl;have wu:=rz.mp hn;have hp:=D p au;show boC (two b9 p) (λe=>?_) λe=>?_
  .rw [EH e]at hl ⊢;dsimp only[oO]at hl;have e1:Ck ns (b9,i) p=(pC b9 p.1 p.2 (ns.getD i 0),i+1):=by
    delta Ck
    have e:fD (iV b9 p) 2=N:=e;have e':jJ i ns.length=N:=Nat.ble_eq.mpr au;show e.symm▸e'.symm▸?_;rfl
   have agl:∀q,iV (pC b9 p.1 p.2 (ns.getD i 0)) q=if q=p then ns.getD i 0 else iV b9 q:=λq=>NY hs hp.1 hp.2
   have hf:aO.filter (two (pC b9 p.1 p.2 (ns.getD i 0)))=aO.filter (two b9):=List.filter_congr λq hq=>by
    delta two
    rw[agl,if_neg λw:q=p=>wu.1 (w▸hq)]
   show iw.symm▸e1.symm▸iL (iH (pC b9 p.1 p.2 (ns.getD i 0)) (i+1) wu.2 (λq hq=>D q bw) (t9 hs) (by rw[hf];lia)) λa b c d=>?_;rw[hf]at a d;show rT (by rw[a,oO];show yj i (List.filter (two b9) aO).length) b (λq hq=>by rw[c q λh=>hq bw,agl,if_neg λw=>hq bw]) (λk hk=>?_);cases k with
   |zero=>change iV _ p=_;rw[c p wu.1,agl,if_pos Z,AW]
   |succ k=>change iV _ ((aO.filter (two b9)).getD k (0,0))=_;dsimp only[oO]at hk;rw[d k (Lq.mp hk),show i+1+k=i+(k+1) by lia]
  .have e1:Ck ns (b9,i) p=(b9,i):=by
    delta Ck
    have e:fD (iV b9 p) 2=ab:=e;show e.symm▸?_;rfl
   show iw.symm▸e1.symm▸?_;rw[EI (ne_true_of_eq_false e)]at hl ⊢;show iL (iH b9 i wu.2 (λq hq=>D q bw) hs hl) λa b c d=>rT a b (λq hq=>c q λh=>hq bw) d
theorem agm:Sq (mG Qb 8):=⟨rfl,by decide⟩
theorem placed(h:ns.length=80):(I9 ns (mG Qb 8)).2=80/\Sq (I9 ns (mG Qb 8)).1/\∀k,k<80->iV (I9 ns (mG Qb 8)).1 (pL k)=ns.getD k 0:=by have:=SK ns VIS (mG Qb 8) 0 agk aiW agm (by rw[JX,pZ,h];decide);rw[JX,pZ,<-adJ]at this;show iL this λa b _ d=>gI (by simpa using a) b (λk hk=>by have:=d k hk;rw[qt]at this;show this)
noncomputable def w8(f:Nat->Nat):Nat:=(aJ 8).foldl (λwd b=>2 * wd+f b) 0
theorem Qx{f g:Nat->Nat}(h:∀b,b<8->f b=g b):w8 f=w8 g:=by
 delta w8
 dsimp only[aJ,Wu,yi];rw[h 0 bD,h 1 bD,h 2 bD,h 3 bD,h 4 bD,h 5 bD,h 6 bD,h 7 bD]
theorem aiX{f:Nat->Nat}(h:∀b,b<8->f b<2):w8 f<256:=by
 delta w8
 dsimp only[aJ,Wu,yi];show nA4 (m:=128) (nA4 (m:=64) (nA4 (m:=32) (nA4 (m:=16) (nA4 (m:=8) (nA4 (m:=4) (nA4 (m:=2) (nA4 (m:=1) yo (h 0 bD)) (h 1 bD)) (h 2 bD)) (h 3 bD)) (h 4 bD)) (h 5 bD)) (h 6 bD)) (h 7 bD)
theorem Yc:∀wd,wd<256->w8 (λb=>wd / 2 ^ (7 - b) % 2)=wd:=by decide
theorem aaA(d:α)(l:List α)(a:Nat)(h:a+8<=l.length):(l.drop a).take 8=(aJ 8).map λb=>l.getD (a+b) d:=by show UG jx λi h1 h2=>?_;simp at h1 h2;rw[List.getElem_take,List.getElem_drop,List.getElem_map,List.getElem_range,dc,dE au];rfl
theorem Qy{p:Nat}(hp:p<10):G9 pic p=w8 λb=>iV pic (pL (8 * p+b)):=by
 delta G9 w8
 rw[aaA (0,0) je (8 * p) (by rw[pZ];lia),Lg];rfl
theorem aaB(h:sent.length=80){p:Nat}(hp:p<10):Jz sent (8 * p)=w8 λb=>sent.getD (8 * p+b) 0:=by
 delta Jz w8
 rw[aaA 0 sent (8 * p) au,Lg]
theorem sE(wd:Nat)(l:LN):dJ (wd::l)=n9 wd++dJ l:=by
 have:∀(l m:LN),l.foldl (λl wd=>l++n9 wd) m=m++l.foldl (λl wd=>l++n9 wd) []:=by
  intro l;induction l with
  |nil=>intro m;simp
  |cons a l ih=>intro m;simp
 delta dJ
 simp
theorem Iv(l m:LN):dJ (l++m)=dJ l++dJ m:=by
 induction l with
 |nil=>rfl
 |cons a l ih=>rw[ES,sE,sE,ih,AJ]
theorem Dc(wd:Nat):(n9 wd).length=8:=by rfl
theorem Yd(cs:LN)(b:Nat):∀(k:Nat),k<cs.length->b<8->(dJ cs).getD (8 * k+b) 0=cs.getD k 0 / 2 ^ (7 - b) % 2:=by
 induction cs with
 |nil=>show λk h=>(rM k h).elim
 |cons wd cs iH=>
  intro k hk D;cases k with
  |zero=>
   rw[sE,dc,vg (by rw[Dc];show AQ D)]
   delta n9
   rw[show 8 * 0+b=b by simp,cZ,oM D];rfl
  |succ k=>rw[sE,dc,yd (by rw[Dc];lia),Dc,show 8 * (k+1)+b - 8=8 * k+b by lia,<-dc,iH k (by simpa using hk) D];rfl
theorem v9(hl:cs.length=10)(D:∀x∈cs,x<256):zS (dJ cs)=cs:=by
 show Iq (by simp[zS,hl]) λi hi=>?_;simp[zS]at hi
 delta zS
 rw[dc,cZ,oM hi];change Jz _ _=_;rw[aaB (by rw[pY,hl]) hi,Qx (g:=λb=>cs.getD i 0 / 2 ^ (7 - b) % 2) λb D=>Yd cs b i au D,Yc _ (jf D i)]
end iO
namespace iO
def inR(aM:List Int)(c:Nat)(p:Nat×Nat):Prop:=vU aM<=p.1/\(p.1:Int)<(vU aM:Int)+RE aM c/\l7 aM<=p.2/\p.2<l7 aM+qP aM
theorem JY(h:Sq pic)(p:Nat×Nat):iV (zU aM c pic) p=iV pic p\/(inR aM c p/\iV (zU aM c pic) p=1):=by
 have OP:∀(l:LN) (i:Nat) (pic:List (LN)),i<13->(∀j∈l,j<13)->Sq pic->iV (l.foldl (λpic j=>pC pic i j 1) pic) p=iV pic p\/(p.1=i/\p.2∈l/\iV (l.foldl (λpic j=>pC pic i j 1) pic) p=1):=by
  intro l;induction l with
  |nil=>intro i pic _ _ _;show ak Z
  |cons j l ih=>
   intro i pic hi hj hs;dsimp only[iw];show ba (ih i (pC pic i j 1) hi (λj hj'=>hj j bw) (t9 hs)) (λe=>?_) λi0=>hJ i0 λe1 e2 e3=>aw (gI e1 bw e3);rw[e];rw[show iV (pC pic i j 1) p=if p=(i,j) then 1 else iV pic p from(NY (q:=p) (v:=1) (p:=(i,j)) hs hi (hj j bw))];by_cases q:p=(i,j)
   .rw [if_pos q];show aw ⟨congrArg _ q,by rw[q];lia,rfl⟩
   .rw [if_neg q];show ak Z
 have afl:∀(rs l:LN) (pic:List (LN)),(∀i∈rs,i<13)->(∀j∈l,j<13)->Sq pic->Sq (rs.foldl (λpic i=>l.foldl (λpic j=>pC pic i j 1) pic) pic)/\
  (iV (rs.foldl (λpic i=>l.foldl (λpic j=>pC pic i j 1) pic) pic) p=iV pic p\/(p.1∈rs/\p.2∈l/\iV (rs.foldl (λpic i=>l.foldl (λpic j=>pC pic i j 1) pic) pic) p=1)):=by
  intro rs l;induction rs with
  |nil=>intro pic _ _ hs;show⟨hs,ak Z⟩
  |cons i rs ih=>
   intro pic hi hj hs;have zM:Sq (l.foldl (λpic j=>pC pic i j 1) pic):=by
    have:∀(l:LN) (pic:List (LN)),Sq pic->Sq (l.foldl (λpic j=>pC pic i j 1) pic):=by
     intro l;induction l with
     |nil=>intro pic h;show h
     |cons j l ih=>intro pic h;show ih _ (t9 h)
    show this l pic hs
   dsimp only[iw];show fc (ih _ (λi hi'=>hi i bw) hj zM) λa b=>(⟨a,?_⟩);show ba b (λb=>?_) λi0=>hJ i0 λb1 b2 b3=>aw (gI bw b2 b3);rw[b];show ba (OP l i pic (hi i bw) hj hs) (λe=>ak e) λi0=>hJ i0 λe1 e2 e3=>aw (gI bw e2 e3)
 have D:∀(t:Nat) (cA:Int),∀i∈(aJ (uH t cA)).map (t+·),i<13/\t<=i/\(i:Int)<t+cA:=λt cA i hi=>by
  show bf (bH.mp hi) λk hk dX=>dX▸?_;have hk:=dm.mp hk;unfold uH RG at hk;split at hk
  .show ⟨nD1 (by assumption) hk Z,iY ..,(Int.natCast_add t k).symm▸Int.add_lt_of_lt_sub_left (EF.mp hk)⟩
  .show ⟨nD2 hk Z,iY ..,Ug (sW.mpr (nD2 hk Z)) (Int.not_lt.mp (by assumption))⟩
 have:=(afl ((aJ (uH (vU aM) (RE aM c))).map (vU aM+·)) ((aJ (uH (l7 aM) (qP aM))).map (l7 aM+·)) pic (λi hi=>(D _ _ i hi).1) (λj hj=>(D _ _ j hj).1) h).2;show ba this (λe=>ak e) λi0=>hJ i0 λe1 e2 e3=>have k1:=D _ _ _ e1;have k2:=D _ _ _ e2;aw ⟨(rT k1.2.1 k1.2.2 k2.2.1 au),e3⟩
theorem aiY(aM:List Int):∀i,(G8 aM i).Nodup
 | 0=>ye
 |i+1=>Fp _ ye
theorem oi{p:Nat}(hp:p<10)(hk:p∉yL aM c)(b:Nat)(D:b<8):¬inR aM c (pL (8 * p+b)):=by
 show λq=>iL q λh1 h2 h3 h4=>?_;unfold yL at hk;cases q:uv aM c with
 |zero=>rw[q]at hk;show hk (dm.mpr hp)
 |succ i=>
  rw[q]at hk;rw[(by delta RE;rw[q];lia:RE aM c=(kT aM:Int) - i)]at h2;show hk (gq.mpr ⟨dm.mpr hp,?_⟩);show decide_eq_true<|List.length_pos_of_mem (a:=[ai (pL (8 * p+b)).1,ai (pL (8 * p+b)).2]) (gq.mpr ⟨bH.mpr (cn (pL (8 * p+b)) ?_ Z),?_⟩)
  .rw [aaA (0,0) je (8 * p) (by rw[pZ];lia)];show bH.mpr (cn b (dm.mpr D) Z)
  .change ((gT .le _ _ && gT .lt _ _) && (gT .le _ _ && gT .lt _ _))=N;simp only[gT,qw,decide_eq_true_eq];show gI ⟨yb.mpr h1,h2⟩ (yb.mpr h3) (Int.lt_of_toNat_lt h4)
theorem aaC{amount:Nat}(h:Sq pic)(hp:place<10)(h2:∀k,k<80->iV pic (pL k)<2):
 Sq (JB place amount pic)/\(∀k,k<80->iV (JB place amount pic) (pL k)<2)/\∀q,q<10->q≠place->∀b,b<8->iV (JB place amount pic) (pL (8 * q+b))=iV pic (pL (8 * q+b)):=by
 have:∀(l:LN) (pic:List (LN)),(∀b∈l,b<8)->Sq pic->(∀k,k<80->iV pic (pL k)<2)->Sq (l.foldl (qR place amount) pic)/\(∀k,k<80->iV (l.foldl (qR place amount) pic) (pL k)<2)/\
  ∀q,q<10->q≠place->∀b,b<8->iV (l.foldl (qR place amount) pic) (pL (8 * q+b))=iV pic (pL (8 * q+b)):=by
  intro l;induction l with
  |nil=>intro pic _ hs h2;show gI hs h2 (λ_ _ _ _ _=>rfl)
  |cons b l ih=>
   intro pic hl hs h2;have D:=hl b bw;have wg:=agj (8 * place+b) au;have E:∀q,iV (qR place amount pic b) q=if q=pL (8 * place+b) then iV pic (pL (8 * place+b)) ^^^ (amount / 2 ^ (7 - b) % 2) else iV pic q:=λq=>NY hs wg.1 wg.2
   show hJ (ih (qR place amount pic b) (λb D=>hl b bw) (t9 hs) (λk hk=>by
    rw[E];split
    .show E0 (n:=1) (h2 _ au) (mZ _ bD)
    .show h2 k hk)) λa1 a2 a3=>gI a1 a2 (λq hq qK b' hb'=>?_)
   rw[iw,a3 q hq qK b' hb',E,if_neg λe=>?_];have:=aaz (8 * q+b') au (8 * place+b) au e;lia
 show this (aJ 8) pic (λb D=>dm.mp D) h h2
theorem aaD(l:LN):∀(free:LN) (pic:List (LN)),(∀x∈free,x<10)->Sq pic->(∀k,k<80->iV pic (pL k)<2)->
 ∃T:LN,T.length=l.length/\(∀k,k<80->iV (l.foldl (pD aM) (free,pic)).2 (pL k)<2)/\∀q,q<10->q∉T->∀b,b<8->iV (l.foldl (pD aM) (free,pic)).2 (pL (8 * q+b))=iV pic (pL (8 * q+b)):=by
 induction l with
 |nil=>show λ_ _ _ _ h2=>kJ [] rfl h2 (λ_ _ _ _ _=>rfl)
 |cons t l iH=>
  intro free pic hf hs h2;have Rn:free.getD (lx aM free t) 0<10:=by
   rw[dc];cases q:free[lx aM free t]? with
   |none=>show(by decide:0<10)
   |some x=>show hf x (cY q)
  show hJ (aaC (amount:=ua aM t) hs Rn h2) λa1 a2 a3=>gC (iH (free.eraseIdx (lx aM free t)) (JB (free.getD (lx aM free t) 0) (ua aM t) pic) (λx E=>hf x (Uq E)) a1 a2) λT b1 b2 b3=>kJ (free.getD (lx aM free t) 0::T) (Nat.succ_inj.mpr b1) b2<|λq hq hT b D=>(b3 q hq (λh=>hT bw) b D).trans (a3 q hq (λe=>hT bw) b D)
theorem plain(hG:JW gen)(hl:data.length+gen.length=10)(hd:∀x∈data,x<256):
 let sent:=dJ (data++(gV wz zB gen (data++b8 gen.length 0) data.length).drop data.length)
 let pic:=(I9 sent (mG Qb 8)).1
 sent.length=80/\(I9 sent (mG Qb 8)).2=sent.length/\sent.take (dJ data).length=dJ data/\Sq pic/\
 (gen.length - (yL aM gen.length).length) / 2<=(BQ (yL aM gen.length)).length/\(∀x∈oh (sJ aM gen.length pic),x<256)/\
 (jO (cN 10) (uA (kS (cN 10) (fU (oh (sJ aM gen.length pic)) gen.length) (yL aM gen.length))).now 10).length=(uA (kS (cN 10) (fU (oh (sJ aM gen.length pic)) gen.length) (yL aM gen.length))).size/\
 ϋ aM gen.length pic sent=N:=by
 intro sent pic;have hdb:∀x∈data++b8 gen.length 0,x<256:=λx E=>by
  rcases bZ.mp E with h|h
  .show hd x h
  .rw [vh h];decide
 have alc:=λr (hr:r<gen.length)=>enc hG hd au hr;have jB:(data++(gV wz zB gen (data++b8 gen.length 0) data.length).drop data.length).length=10:=by rw[iu,AN,(by rw[xu,iu,ru,hl]:(gV wz zB gen (data++b8 gen.length 0) data.length).length=10)];lia
 have hcb:∀x∈data++(gV wz zB gen (data++b8 gen.length 0) data.length).drop data.length,x<256:=λx E=>ba (bZ.mp E) (λh=>hd x h) λh=>(SJ (gen:=gen) hdb data.length) x (ry h);have Iw:sent=dJ (data++(gV wz zB gen (data++b8 gen.length 0) data.length).drop data.length):=rfl;have aiZ:sent.take (dJ data).length=dJ data:=by rw[Iw,Iv,List.take_left]
 generalize xm:data++(gV wz zB gen (data++b8 gen.length 0) data.length).drop data.length=cs at *;have Xe:sent.length=80:=by rw[Iw,pY,jB]
 show hJ (placed Xe) λp1 p2 p3=>?_;have p2:Sq pic:=p2;have p3:∀k,k<80->iV pic (pL k)=sent.getD k 0:=p3;have wg:∀k b,k<10->b<8->sent.getD (8 * k+b) 0=cs.getD k 0 / 2 ^ (7 - b) % 2:=λk b hk D=>by rw[Iw];show Yd cs b k au D
 have ald:∀k,k<80->iV pic (pL k)<2:=λk hk=>by rw[p3 k hk,show k=8 * (k / 8)+k % 8 by lia,wg _ _ (UR hk) au];show mZ _ bD
 generalize pic=pic at *;have CI:∀k,k<80->iV (zU aM gen.length pic) (pL k)<2:=λk hk=>by
  rcases JY p2 (pL k) (aM:=aM) (c:=gen.length) with e|⟨_,e⟩
  .rw [e];show ald k hk
  .rw [e];decide
 show gC (aaD (aM:=aM) (aJ ((gen.length - (yL aM gen.length).length) / 2)) (BQ (yL aM gen.length)) (zU aM gen.length pic) (λx E=>dm.mp (gq.mp E).1) (CO p2) CI) λT t1 t2 t3=>?_;have t1:=t1.trans K9;have ai0:∀p,p<10->p∉yL aM gen.length->p∉T->G9 (sJ aM gen.length pic) p=cs.getD p 0:=λp hp hk hT=>by
  rw[Qy hp,Qx (g:=λb=>cs.getD p 0 / 2 ^ (7 - b) % 2) λb D=>?_,Yc _ (jf hcb p)];show(t3 p hp hT b D).symm▸?_;rcases JY p2 (pL (8 * p+b)) (aM:=aM) (c:=gen.length) with e|⟨e,_⟩
  .show ((e).trans (p3 _ au)).trans (wg p b hp D)
  .show absurd e (oi hp hk b D)
 have sj:(oh (sJ aM gen.length pic)).length=10:=by rfl
 have Η:∀p,p<10->(oh (sJ aM gen.length pic)).getD p 0=G9 (sJ aM gen.length pic) p:=λp hp=>by
  delta oh
  rw[dc,cZ,oM hp];rfl
 have ai1:∀x∈oh (sJ aM gen.length pic),x<256:=λx E=>by show bf (bH.mp E) λp hp dX=>dX▸?_;have hp:=dm.mp hp;rw[Qy hp];show aiX λb D=>t2 _ au
 have hm:=mended (ws:=oh (sJ aM gen.length pic)) (cs:=cs) (kn:=yL aM gen.length) (T:=T) (c:=gen.length) (by rw[sj];decide) (by rw[sj,jB]) ai1 hcb (λr hr=>by show sj.symm▸hl▸?_;show alc r hr) (aiY aM _) (by show sj.symm▸?_;show(Xf aM _)) au ((zT aM gen.length).1) (λp hp qK=>by
  rw[Η p hp]at qK;show if q1:p∈yL aM gen.length then ak q1 else ?_
  show if q2:p∈T then aw q2 else ?_
  show absurd (ai0 p hp q1 q2) qK)
 show⟨Xe,by rw[p1,Xe],aiZ,p2,?_,ai1,hm.1,?_⟩
 .have h1:(aJ 10).length<=(yL aM gen.length++BQ (yL aM gen.length)).length:=A8 ye λx E=>by
   show if q:x∈yL aM gen.length then de _ q else ?_
   show ew _ (gq.mpr ⟨E,?_⟩);rw[vo,Bool.eq_false_iff];intro h;show bf (Ld.mp h) λy hy e=>?_;obtain⟨z,hz,rfl⟩:=bH.mp hy;have:ai z=ai x:=by simpa using e
   show q (Wv this▸hz)
  rw[K9,iu]at h1;lia
 .delta ϋ
  show hm.2.symm▸Iw.symm▸(v9 jB hcb).symm▸decide_eq_true Z
end iO
structure Gr(n:Nat)(s Y:ae):Prop where
 size:Y.heap.objs.size=s.heap.objs.size+n
 keep:uk s.heap Y.heap
 gens:Y.gens=s.gens
 drawn:Y.drawn=s.drawn
 os:Y.os=s.os
theorem Gr.refl(s:ae):Gr 0 s s:=⟨rfl,λ_ _ e=>e,rfl,rfl,rfl⟩
theorem Gr.trans{m:Nat}{a b c:ae}(x:Gr m a b)(y:Gr n b c):Gr (m+n) a c:=⟨by rw[y.size,x.size,lO],λd o e=>y.keep d o (x.keep d o e),y.gens.trans x.gens,y.drawn.trans x.drawn,y.os.trans x.os⟩
theorem Gr.toks{a b:ae}(x:Gr n a b)(t:Nat):Gr n a {b with toks:=t}:=⟨x.size,x.keep,x.gens,x.drawn,x.os⟩
theorem Gr.push{a b:ae}(x:Gr n a b)(o:bE):Gr (n+1) a {b with heap:=b.heap.push o}:=⟨by rw[dD,x.size,lO],λd p e=>aZ _ (x.keep d p e),x.gens,x.drawn,x.os⟩
theorem Ye(X:(ML P t fd fd2).In h):gS M h (Bind.madeBy (R 135)) ah:=nq X (rfl)
theorem agn(X:(ML P t fd fd2).In h):gS M h (mroOf (R 135)) [R 135,ao "tuple",ao "object"]:=nq X (rfl)
theorem Yf(X:(ML P t fd fd2).In h):gS M h (specialOf (R 135) "__call__") (O (bB "type.__call__")):=nq X (rfl)
theorem adK(X:(ML P t fd fd2).In h):gS M h (oF (R 135) (R 135)) N:=nq X (rfl)
theorem ago(X:(ML P t fd fd2).In h):gS M h (oF (R 135) (ao "tuple")) N:=nq X (rfl)
theorem agp(X:(ML P t fd fd2).In h):gS M h (oF (R 135) (ao "object")) N:=nq X (rfl)
theorem agq(X:(ML P t fd fd2).In h):gS M h (ro (R 135) (ao "type")) N:=nq X (rfl)
theorem NZ(X:(ML P t fd fd2).In h):gS M h (fZ (R 135) "__init__") (O (bB "object.__init__")):=nq X (rfl)
theorem adL(X:(ML P t fd fd2).In h):gS M h (Bind.madeHere "tuple.__new__" (R 135)) ():=nq X bG
theorem aaE:readsIn (ML P t fd fd2) 135 (ao "type")=N:=by ext
theorem agr:Fl (ML P t fd fd2) (R 135) (ao "type") "__new__" =O (CFound.get (bB "staticmethod.__get__") (R 136) aA (R 135)):=by ext
theorem ai2:recIn (ML P t fd fd2) 136 "staticmethod" =O [R 82]:=by ext
theorem ags(X:(ML P t fd fd2).In h):gS M h (classHasDel 135) ab:=nq X (rfl)
section
set_option backward.match.sparseCases true
noncomputable def Qz:bE:={cls:=ao "list",data:=bQ ([]:List aa).toArray}
theorem QA{it:af}{Q:List aa->ae->Prop}(ho:s.heap.get? it=O o)(hc:o.cls=ao "tuple")(hd:o.data=bQ items n)(hz:items.size<=1000)(hQ:Q items.toList {s with heap:=(s.heap.push Qz).update s.heap.objs.size (dO (· ++items))}):aE (aD prog w) A (collect (R it)) Q a0 s:=by
 have hS:(s.heap.push Qz).get? s.heap.objs.size=O {cls:=ao "list",data:=bQ #[] 0}:=bI _ Z;have hsz:items.size<=eN:=by have:eN=16777216:=jX;lia
 have y8:∀A',aE (aD prog w) A' (load s.heap.objs.size>>=λo=>match o.data with|bQ K _=>pure K.toList |_=>Es "internal:collect") Q a0 {s with heap:=(s.heap.push Qz).update s.heap.objs.size (dO (· ++items))}:=λA'=>by show aj<|jY (ie (dO (· ++items)) hS Z)<|aC<|have e:((#[]:Array aa)++items)=items:=Vq;(?_:Q ((#[]:Array aa)++items).toList _);show e.symm▸hQ
 show aj<|Kn<|qh Mc<|aj (ip (aC ⟨lL Me _,qh Fw ?_⟩));have key:=wpAny_extend_seq (prog:=prog) (w:=w) (hsz:=hsz) (A:=A) (R:=λr Y=>r=bW (cB (R s.heap.objs.size))/\Y={s with heap:=(s.heap.push Qz).update s.heap.objs.size (dO (· ++items))})
  (s:={s with heap:=s.heap.push Qz}) s.heap.objs.size it _ 0 (aw Z) hS (aZ _ ho) hc hd ⟨rfl,rfl⟩
 show ir key (λr Y h=>?_) λe Y h=>absurd h.1 fF;cases r with
 |done f=>
  obtain⟨h1,h2⟩:=h;subst h2;cases h1
  show y8 _
 |again c=>show⟨h.1,codeAny_mono h.2 λr nG hr=>?_⟩;obtain⟨h1,h2⟩:=hr;subst h1 h2;show y8 _
noncomputable def Yg(dx:af)(K:Array aa):bE:={cls:=R 135,dict:=O dx,data:=bQ K}
theorem ZI(X:(ML P t fd fd2).In h):gS M h (sN "tuple.__new__" ⟨[R 135,R a],[]⟩) ():=nq X bG
theorem ZJ(X:(ML P t fd fd2).In h):gS M h (isType (R 135)) N:=nq X (rfl)
theorem agt{it:af}(X:(ML P t fd fd2).In s.heap)(ho:s.heap.get? it=O o)(hc:o.cls=ao "tuple")(hd:o.data=bQ items n)(hz:items.size<=1000)(hQ:∀Y,Gr 3 s Y->Y.heap.get? (s.heap.objs.size+2)=O (Yg (s.heap.objs.size+1) items)->Y.heap.get? (s.heap.objs.size+1)=O tI->Q (R (s.heap.objs.size+2)) Y):
 aE (aD prog w) A (call (bB "tuple.__new__") [R 135,R it]) Q a0 s:=by
 show kU<|xN<|aj ((ZI X).here (aC ⟨lL VQ _,qh VR ?_⟩));show aj<|(ZJ X).here<|aj<|(ago X).here<|aj<|(adL X).here<|aj<|(NZ X).here<|aj<|iq (rfl)<|aj<|iq (rfl)<|aj (QA ho hc hd hz (aj (aC ?_)));have hsz:((s.heap.push Qz).update s.heap.objs.size (dO (· ++items))).objs.size=s.heap.objs.size+1:=by rw[Heap.size_update,dD]
 have kk:∀b o,s.heap.get? b=O o->((s.heap.push Qz).update s.heap.objs.size (dO (· ++items))).get? b=O o:=λb o e=>(mr _ _ (oR (cj e))).trans (aZ _ e);generalize (s.heap.push Qz).update s.heap.objs.size (dO (· ++items))=h1 at hsz kk ⊢;have e1:(h1.push tI).objs.size=s.heap.objs.size+2:=by rw[dD,hsz]
 show aj (Aq (aj ?_));rw[newObj];rw[if_neg (by have:eN=16777216:=jX;simp;lia)];show aj<|Aq<|aj ((ags ((X.keeps kk).keeps λb o e=>aZ _ (aZ _ e))).here ?_);show aC<|aC<|e1.symm▸hQ _ ⟨by rw[dD,e1],λb o e=>aZ _ (aZ _ (kk b o e)),rfl,rfl,rfl⟩ ?_ ?_
 .show hsz▸e1▸bI _ Z
 .show hsz▸aZ _ (bI _ Z)
end
structure SM(P:cf)(t:Nat->a8)(fd fd2:cq)(h:aQ):Prop where
 pH:(ML P t fd fd2).In h
 body:fd2.body=lj (bg Dq)
 scope:fd2.scope=bc Dq
 params:fd2.params=fu Dq
 glob:fd2.globals=ef
 bi:fd2.builtins=fY
 clo:fd2.closure=[]
 dft:fd2.defaults=aA
 kwd:fd2.kwdefaults=aA
 ai3:h.CodeRec fd2.code fd2.qualname
 lim:h.NoLimit
 tup:∃mg mb,h.Ns ef mg/\h.Ns fY mb/\mg (aB "tuple")=ah/\mb (aB "tuple")=O (ao "tuple")
theorem SM.keeps(x:SM P t fd fd2 h)(k:uk h h'):SM P t fd fd2 h':=
 ⟨x.pH.keeps k,x.body,x.scope,x.params,x.glob,x.bi,x.clo,x.dft,x.kwd,x.ai3.keeps k,(bf x.lim λmc wK M'=>cn mc (wK.at' λo e=>k _ o e) M'),(jy x.tup λmg mb a b c=>Oz mg mb (a.at' λo e=>k _ o e) (b.at' λo e=>k _ o e) c)⟩
theorem aaF:Fl [] (ao "tuple") (ao "type") "__new__" =O (MA (bB "tuple.__new__")):=by ext
theorem agu(X:SM P t fd fd2 s.heap)(v0 v1 v2 v3:aa):dy fd2 ⟨[v0,v1,v2,v3],[]⟩=pure (([116,117,118,119].map NM).zip [v0,v1,v2,v3]):=by
 delta dy
 show X.params.symm▸X.dft.symm▸X.kwd.symm▸?_;rfl
theorem agv{e3:aG}(h1:cH e1=ab)(h2:cH e2=ab)(h3:cH e3=ab)(pos:cJ):jZ pos (js [e1,e2,e3] J)=[(ab,a7 e1 J),(ab,a7 e2 J),(ab,a7 e3 J)]:=by rw[dq h1,dq h2,dq h3];rfl
def ecB(a b c:Int)(ta tb tc:a8):List (aV×aa):=([116,117,118,119].map NM).zip [R 135,ag a ta,ag b tb,ag c tc]
noncomputable def SN(a b c:Int)(ta tb tc:a8):Array aa:=#[ag a ta,ag b tb,ag c tc]
def De(A:bR)(s:ae)(P:cf)(t:Nat->a8)(fd:cq)(fd2:cq)(a:Int)(b:Int)(c:Int)(ta:a8)(tb:a8)(tc:a8)(aN:sS->ae->Prop):Prop:=∀(X:SM P t fd fd2 s.heap) (bK:A.depth<900) (hR:∀Y,Gr 5 s Y->Y.heap.get? (s.heap.objs.size+4)=O (Yg (s.heap.objs.size+3) (SN a b c ta tb tc))->Y.heap.get? (s.heap.objs.size+3)=O tI->aN (bW (cB (R (s.heap.objs.size+4)))) Y),oH (aD prog w) A (m8 (R 82) ⟨[R 135,ag a ta,ag b tb,ag c tc],[]⟩) aN s
def Iy(c:(((bR×ae)×(cf×(Nat->a8)))×((cq×cq)×Int))×(((Int×Int)×a8)×((a8×a8)×(sS->ae->Prop)))):Prop:=De c.1.1.1.1 c.1.1.1.2 c.1.1.2.1 c.1.1.2.2 c.1.2.1.1 c.1.2.1.2 c.1.2.2 c.2.1.1.1 c.2.1.1.2 c.2.1.2 c.2.2.1.1 c.2.2.1.2 c.2.2.2
def il:=Bm Iy inferInstance
def mM:=il.1.1.1.2
def sF:=il.1.2.1.2
def rg:=il.1.2.2
def nX:=il.2.1.1.1
def rh:=il.2.1.1.2
def nB:=il.2.1.2
def nE:=il.2.2.1.1
def nF:=il.2.2.1.2
def agw:=il.2.2.2
theorem aaG:De il.1.1.1.1 mM il.1.1.2.1 il.1.1.2.2 il.1.2.1.1 sF rg nX rh nB nE nF agw:=λX bK hR=>by
 show J9 au (X.pH 82 _ Z) Z (by rw[X.scope];rfl) (by rw[X.scope];rfl) X.body X.ai3 ?_;rw[agu X];show aC (Am (by rw[X.scope];decide) (λx E=>?_) (λOG wK wg=>⟨X.lim.fresh _ wg,Ks ?_⟩) (by rw[X.scope];rfl))
 .show bf (bH.mp (sZ (show(x.1,x.2)∈_ from E)).1) λy hy e=>X.scope.symm▸e▸?_;have:∀y∈[116,117,118,119],(bc Dq).names.lookup (NM y)=O cU:=by decide
  show this y hy
 have g1:Gr 1 mM {mM with heap:=OG,toks:=mM.toks+(ecB rg nX rh nB nE nF).length}:=⟨by rw[wg.1,dD],λnX o e=>wg.extBut nX o (fB (cj e)) (aZ _ e),rfl,rfl,rfl⟩
 have es1:({mM with heap:=OG,toks:=mM.toks+(ecB rg nX rh nB nE nF).length}:ae)={mM with heap:=OG,toks:=mM.toks+(([116,117,118,119].map NM).zip [R 135,ag rg nB,ag nX nE,ag rh nF]).length}:=rfl;show es1▸?_;generalize hs1:({mM with heap:=OG,toks:=mM.toks+(ecB rg nX rh nB nE nF).length}:ae)=s1 at g1 ⊢;show og λgG kG=>?_;obtain⟨mg,mb,hmg,hmb,t1,t2⟩:=(X.keeps g1.keep).tup;show kG ?_;clear kG gG;generalize adM:newEnv sF.scope mM.heap.objs.size sF.globals sF.closure (sF.qualname++aB ".<locals>.") (O 82) sF.code ah sF.builtins=J;have esc:J.scope=bc Dq:=by subst adM;show X.scope
 have ek:J.scope.kind=dZ:=by rw[esc];rfl
 have name:∀(y:Nat) (v:aa) (pos:cJ) (s2:ae) (Q:aa->ae->Prop),J.kindOf (NM y)=O cU->(ecB rg nX rh nB nE nF).reverse.lookup (NM y)=O v->s2.heap.Ns mM.heap.objs.size (λx=>(ecB rg nX rh nB nE nF).reverse.lookup x)->Q v s2->∀A' E',aE (aD prog w) A' (a7 (aq (NM y) pos) J) Q E' s2:=λy v pos s2 Q hl hv hn hq A' E'=>
  rk (xE ek hl ((by rw[<-adM];rfl:J.locals=mM.heap.objs.size).symm▸hn) hv hq) (wF y)
 have kinds:∀y∈[116,117,118,119],J.kindOf (NM y)=O cU:=λy hy=>by
  delta kb
  rw[esc];have:∀y∈[116,117,118,119],(bc Dq).names.lookup (NM y)=O cU:=by decide
  show this y hy
 show uW (wpAny_Expr (Ee (uW (xI ?_))) (by delta iJ;rw[ek];rfl) Z);have g2:=g1.toks (s1.toks+1);generalize hs2:({s1 with toks:=s1.toks+1}:ae)=s2 at g2 ⊢;have ale:s2.heap.Ns mM.heap.objs.size (λx=>(ecB rg nX rh nB nE nF).reverse.lookup x):=by rw[<-hs2];show(by rw[<-hs1];show wK)
 show ux Z (rfl) (rfl) (rk (mO ek (by delta kb;rw[esc];decide+kernel) ((by rw[<-adM];show X.glob:J.globals=ef)▸(by rw[<-hs2];show hmg)) ((by rw[<-adM];show X.bi:J.builtins=fY)▸(by rw[<-hs2];show hmb)) t1 t2 λpl=>I_ aaF Z ?_) (rfl));have g3':=g2.toks (s2.toks+1);generalize hs3:({s2 with toks:=s2.toks+1}:ae)=s3 at g3' ⊢;have sk:s3.heap.Ns mM.heap.objs.size (λx=>(ecB rg nX rh nB nE nF).reverse.lookup x):=by subst hs3;show ale
 show Vy (rfl) ?_;rw[HU (rfl) (rfl)];show L6 (rP (name 116 (R 135) _ _ _ (kinds 116 (nme Z)) Z sk ?_ _ _));show rP<|Er<|rP (name 117 (ag rg nB) _ _ _ (kinds 117 (nme Z)) Z sk ?_ _ _);show rP (name 118 (ag nX nE) _ _ _ (kinds 118 (nme Z)) Z sk ?_ _ _);show rP (name 119 (ag rh nF) _ _ _ (kinds 119 (nme Z)) Z sk ?_ _ _);show aC ⟨by have:eN=16777216:=jX;simp;lia,aC ?_⟩;show agt (n:=0) ((X.keeps g3'.keep).pH.keeps λnX o e=>aZ _ e) (bI _ Z) Z Z bD λs4 g4 h1 h2=>?_;have e3:(s3.heap.push ({cls:=ao "tuple",data:=bQ ([ag rg nB,ag nX nE,ag rh nF]:List aa).toArray}:bE)).objs.size=mM.heap.objs.size+2:=by rw[dD,g3'.size]
 rw[e3]at h1 h2;show e3.symm▸hR s4 ((g3'.push {cls:=ao "tuple",data:=bQ ([ag rg nB,ag nX nE,ag rh nF]:List aa).toArray}).trans g4) h1 h2
theorem adN{a:Int}{b:Int}{c:Int}{ta:a8}:De A s P t fd fd2 a b c ta tb tc aN:=Yw (P:=Iy) aaG ((((A,s),(P,t)),((fd,fd2),a)),(((b,c),ta),((tb,tc),aN)))
theorem ai4{x:af}{v1 v2 v3:aa}{Q:iW->ae->Prop}(X:(ML P t fd fd2).In s.heap)(t1:gS (aD prog w) s.heap (AB (R x)) (R 135))(h:Q (nr (cB aA)) s):aE (aD prog w) A (Builtin.«object.__init__» ⟨[R x,v1,v2,v3],[]⟩) Q a0 s:=by
 delta Builtin.«object.__init__»
 show aj<|t1.here<|aj<|(NZ X).here<|aj<|(Ye X).here<|aC h
def Df(A:bR)(a0:aa->ae->Prop)(s:ae)(P:cf)(t:Nat->a8)(fd:cq)(fd2:cq)(a:Int)(b:Int)(c:Int)(ta:a8)(tb:a8)(tc:a8)(Q:aa->ae->Prop):Prop:=∀(X:SM P t fd fd2 s.heap) (bK:A.depth<800) (hQ:∀Y,Gr 5 s Y->Y.heap.get? (s.heap.objs.size+4)=O (Yg (s.heap.objs.size+3) (SN a b c ta tb tc))->Y.heap.get? (s.heap.objs.size+3)=O tI->Q (R (s.heap.objs.size+4)) Y),aE (aD prog w) A (call (R 135) [ag a ta,ag b tb,ag c tc]) Q a0 s
def Iz(c:(((bR×(aa->ae->Prop))×(ae×cf))×(((Nat->a8)×cq)×cq))×(((Int×Int)×(Int×a8))×((a8×a8)×(aa->ae->Prop)))):Prop:=Df c.1.1.1.1 c.1.1.1.2 c.1.1.2.1 c.1.1.2.2 c.1.2.1.1 c.1.2.1.2 c.1.2.2 c.2.1.1.1 c.2.1.1.2 c.2.1.2.1 c.2.1.2.2 c.2.2.1.1 c.2.2.1.2 c.2.2.2
def hZ:=Bm Iz inferInstance
def SO:=hZ.1.1.1.1
def qf:=hZ.1.1.2.1
def Dg:=hZ.2.1.1.1
def Dh:=hZ.2.1.1.2
def Di:=hZ.2.1.2.1
def yW:=hZ.2.1.2.2
def yX:=hZ.2.2.1.1
def yZ:=hZ.2.2.1.2
theorem aaH:Df SO hZ.1.1.1.2 qf hZ.1.1.2.2 hZ.1.2.1.1 hZ.1.2.1.2 hZ.1.2.2 Dg Dh Di yW yX yZ hZ.2.2.2:=λX bK hQ=>by
 have hC:=X.pH 135 _ Z;show kU (xN ?_);change aE _ _ (callAny (R 135) ⟨[ag Dg yW,ag Dh yX,ag Di yZ],[]⟩) _ _ qf;dsimp only[callAny];show aj (jY hC ?_);change aE _ _ (Wr (R 135) _) _ _ _;unfold Wr;show aj ((Yf X.pH).here ?_);dsimp only;rw[tc_bind];show aj (aC (aj (aC ?_)));show aC (a:=yz (m8 (bB "type.__call__") ⟨R 135::[ag Dg yW,ag Dh yX,ag Di yZ],[]⟩)) (FO Z (xN ?_));change aE _ SO.in1 (do sN "type.__call__" ⟨R 135::[ag Dg yW,ag Dh yX,ag Di yZ],[]⟩;again (fE "type.__call__" ⟨R 135::[ag Dg yW,ag Dh yX,ag Di yZ],[]⟩)) _ _ qf;show aj (Vh tc_kind tc_split (agq X.pH) (Vj _ _ _) (aC ⟨AZ _ (by decide+kernel),qh entry_typeCall ?_⟩));unfold Builtin.«type.__call__»;dsimp only;rw[if_neg (show¬((R 135==ao "type")=N) from Bool.false_ne_true)];show aj ((agn X.pH).here ?_);rw[if_neg aL];show aj ((Ye X.pH).here ?_);dsimp only;show aj (cls_bind X.pH aaE agr (kU (sm_get X.pH ai2 (handed_on (by decide+kernel) ?_))));have g0:=(Gr.refl qf).toks (qf.toks+1);generalize Yb:({qf with toks:=qf.toks+1}:ae)=s0 at g0 ⊢;have X0:=X.keeps g0.keep;have e0:s0.heap.objs.size=qf.heap.objs.size:=g0.size;show aj (cQ (kU (adN X0 ?_ λs5 g5 h1 h2=>?_)))
 .change SO.depth+1<900;lia
 rw[e0]at h1 h2 ⊢;have g:=g0.trans g5;have X5:=X.keeps g.keep;have t1:gS (aD prog w) s5.heap (AB (R (qf.heap.objs.size+4))) (R 135):=(Fo h1).andThen vx;have t2:gS (aD prog w) s5.heap (ro (R (qf.heap.objs.size+4)) (R 135)) N:=t1.andThen (adK X5.pH);have t3:gS (aD prog w) s5.heap (specialOf (R (qf.heap.objs.size+4)) "__init__") (O (bB "object.__init__")):=t1.andThen (NZ X5.pH);have t4:gS (aD prog w) s5.heap (ro (R (qf.heap.objs.size+4)) (ao "object")) N:=t1.andThen (agp X5.pH);show aj (t2.here ?_);rw[if_neg aL];show aj (cQ ?_);unfold xQ;show aj (t3.here ?_);dsimp only;show cQ (aj (iq (PySem.W.oi_bind _) ?_));show aj (kU (xF oi_plain entry_oi (@LW (aD prog w) _ _ _ "object.__init__" "object" "__init__" (R (qf.heap.objs.size+4)) [ag Dg yW,ag Dh yX,ag Di yZ] [] _ oi_kind oi_split t4 (by unfold j0;ext) ?_)));show ai4 X5.pH t1 ?_;show aC ?_;change aE _ _ (if(aA != aA)=N then _ else _) _ _ _;rw[if_neg aL];show aC (hQ _ g h1 h2)
theorem adO{a:Int}{b:Int}{c:Int}{ta:a8}:Df A a0 s P t fd fd2 a b c ta tb tc Q:=Yw (P:=Iz) aaH ((((A,a0),(s,P)),((t,fd),fd2)),(((a,b),(c,ta)),((tb,tc),Q)))
set_option genCtorIdx true in
set_option genInjectivity true in
inductive MK where
 |none
 |int(i:Int)
 |str(x:aV)
deriving DecidableEq
noncomputable def MK.is:MK->aa->Bool
 | .none,aA=>N
 | .int i,ag j _=>j==i
 | .str x,cO y _=>y==x
 |_,_=>ab
theorem qT{k:MK}(h:k.is v=N):(k= .none/\v=aA)\/(∃i t,k= .int i/\v=ag i t)\/∃x t,k= .str x/\v=cO x t:=by
 cases k<;>cases v<;>first|(simp[MK.is]at h)|skip
 .show ak ⟨rfl,rfl⟩
 .subst h;show aw (ak (kK _ _ Z Z))
 .subst h;show aw (aw (kK _ _ Z Z))
noncomputable def MK.of:aa->Option MK
 |aA=>O .none
 |ag i _=>O (.int i)
 |cO x _=>O (.str x)
 |_=>eX
theorem IB{k:MK}(h:k.is v=N):MK.of v=O k:=
 (qT h).elim (λi=>i.1▸i.2▸rfl) λi=>i.elim (λi=>eT i λ_ _ a b=>a▸b▸rfl) λi=>eT i λ_ _ a b=>a▸b▸rfl
def MK.hash(w:fK):MK->Int
 | .none=>reduceHash 4238894112
 | .int i=>hashInt i
 | .str x=>hashStr w x
theorem adP{k:MK}{Q:Int->ae->Prop}(h:k.is v=N)(hQ:Q (k.hash w) {s with toks:=s.toks+1}):aE (aD prog w) A (pyHash v) Q a0 s:=by
 rcases qT h with⟨rfl,rfl⟩|⟨i,t,rfl,rfl⟩|⟨x,t,rfl,rfl⟩
 .show pyHash_slot Z PySem.F.slot_NoneType_hash PySem.F.entry_NoneType_hash (PySem.F.args_NoneType_hash_1 _) (beq_builtin_none _) (ak Z) (aj (aC (aj (wpAny_mkInt (aC (kK _ _ Z hQ))))))
 .show wpAny_pyHash_int hQ
 .show wpAny_pyHash_str hQ
theorem Dj{u:aa}{b:Bool}{Q:Bool->ae->Prop}(qK:(u==v)=ab)(hf:∀x t,u≠Value.float x t)(h:∀Q':aa->ae->Prop,Q' (c9 b) s->aE (aD prog w) A (Ey Be u v) Q' a0 s)(hQ:Q b s):aE (aD prog w) A (eqBool u v) Q a0 s:=by show cQ ?_;rw[if_neg (by rw[qK];decide)];cases u<;>first|show(aj (h _ (mf hQ)))|show absurd Z (hf _ _)
theorem ai5{a b:MK}{u:aa}{Q:Bool->ae->Prop}(ha:a.is u=N)(D:b.is v=N)(hQ:Q (decide (a=b)) s):aE (aD prog w) A (eqBool u v) Q a0 s:=by
 rcases qT ha with⟨rfl,rfl⟩|⟨i,t,rfl,rfl⟩|⟨x,t,rfl,rfl⟩<;>rcases qT D with⟨rfl,rfl⟩|⟨j,t',rfl,rfl⟩|⟨y,t',rfl,rfl⟩
 .show cQ (aj (rl (aC hQ)))
 .show Dj (rfl) (λ_ _=>by nofun) (λQ' q=>EqNone.eq_none_int q) hQ
 .show Dj (rfl) (λ_ _=>by nofun) (λQ' q=>EqNone.eq_none_str q) hQ
 .show Dj (rfl) (λ_ _=>by nofun) (λQ' q=>EqNone.eq_int_none q) hQ
 .show wpAny_eqBool_int ?_;have:decide (MK.int i=MK.int j)=(i==j):=by
   by_cases e:i=j
   .show e▸?_;simp
   .rw [beq_eq_false_iff_ne.mpr e];show decide_eq_false λq=>e (MK.int.inj q)
  show this▸hQ
 .show Dj (rfl) (λ_ _=>by nofun) (λQ' q=>EqMixed.eq_int_str q) hQ
 .show Dj (rfl) (λ_ _=>by nofun) (λQ' q=>EqNone.eq_str_none q) hQ
 .show Dj (rfl) (λ_ _=>by nofun) (λQ' q=>EqMixed.eq_str_int q) hQ
 .show wpAny_eqBool_str ?_;have:decide (MK.str x=MK.str y)=decide (x=y):=by
   by_cases e:x=y
   .skip;simp
   .rw [decide_eq_false e];show decide_eq_false λq=>e (MK.str.inj q)
  show this▸hQ
def d0:KeyKind prog w MK where
 is:=MK.is
 hash:=MK.hash w
 inj v a b ha D:=aW ((IB ha).symm.trans (IB D))
 byValue k v h:=by rcases qT h with⟨rfl,rfl⟩|⟨i,t,rfl,rfl⟩|⟨x,t,rfl,rfl⟩<;>rfl
 pyHash:=adP
 eqBool:=ai5
 «strs» k x t v h:=aW (IB h)▸(by cases v<;>rfl)
def M2{α:Type}(aN:α->aa->Prop)(iD:List (MK×aa))(sp:List (MK×α)):Prop:=iD.length=sp.length/\∀(j:Nat) k v k' a,iD[j]? =O (k,v)->sp[j]? =O (k',a)->k=k'/\aN a v
section
variable{aN R':α->aa->Prop}{iD rY:List (MK×aa)}{sp sp':List (MK×α)}
theorem M2.nil:M2 aN [] []:=⟨rfl,λj k v k' a e=>by ext⟩
theorem M2.mono(x:M2 aN iD sp)(h:∀a v,aN a v->R' a v):M2 R' iD sp:=⟨x.1,λj k v k' a e1 e2=>⟨(x.2 j k v k' a e1 e2).1,h a v (x.2 j k v k' a e1 e2).2⟩⟩
theorem M2.app(x:M2 aN iD sp)(y:M2 aN rY sp'):M2 aN (iD++rY) (sp++sp'):=⟨by rw[iu,iu,x.1,y.1],λj k v k' a e1 e2=>by
 rcases mu j iD.length with h|h
 .rw [vg h]at e1;rw[vg (x.1▸h)]at e2;show x.2 j k v k' a e1 e2
 .rw [yd h]at e1;rw[yd (x.1▸h),<-x.1]at e2;show y.2 _ k v k' a e1 e2⟩
theorem M2.one{k:MK}{a:α}(h:aN a v):M2 aN [(k,v)] [(k,a)]:=⟨rfl,λj k1 v1 k' a' e1 e2=>by
 cases j with
 |zero=>obtain⟨rfl,rfl⟩:=tM (aW e1);obtain⟨rfl,rfl⟩:=tM (aW e2);show⟨rfl,h⟩
 |succ j=>show Bg (by assumption)⟩
theorem M2.cons{k:MK}{a:α}(h:aN a v)(x:M2 aN iD sp):M2 aN ((k,v)::iD) ((k,a)::sp):=(M2.one h).app x
theorem M2.keys(x:M2 aN iD sp):iD.map (·.1)=sp.map (·.1):=EM λj=>by
 rw[cZ,cZ];rcases mu j iD.length with h|h
 .have h':=x.1▸h;rw[dE h,dE h'];show congrArg O (x.2 j _ _ _ _ (dE h) (dE h')).1
 .rw [rx h,rx (x.1▸h)];rfl
end
noncomputable abbrev Sp(α:Type):=MK×α×Nat
noncomputable def jj{α:Type}(l:List (Sp α)):List (MK×α):=l.map λx=>(x.1,x.2.1)
noncomputable def zC{α:Type}:List (Sp α)->Nat
 | []=>0
 |x::l=>x.2.2+zC l
def PW{α:Type}(W:aI aa×aI aa->Sp α->Prop):List (aI aa×aI aa)->List (Sp α)->Prop
 | [],[]=>True
 |p::ps,x::K=>W p x/\PW W ps K
 |_,_=>False
theorem PW.mono{W W':aI aa×aI aa->Sp α->Prop}(h:∀p x,W p x->W' p x){ps:List (aI aa×aI aa)}:∀{K:List (Sp α)},PW W ps K->PW W' ps K:=by
 induction ps with
 |nil=>intro K;cases K<;>show id
 |cons p ps ih=>
  intro K;cases K with
  |nil=>show id
  |cons x K=>show λq=>⟨h _ _ q.1,ih q.2⟩
theorem PW.len{α:Type}{W:aI aa×aI aa->Sp α->Prop}:∀{ps:List (aI aa×aI aa)} {K:List (Sp α)},PW W ps K->ps.length=K.length
 | [],[],_=>rfl
 |_::_,_::_,⟨_,b⟩=>by rw[oO,oO,PW.len b]
 | [],_::_,e=>e.elim
 |_::_,[],e=>e.elim
structure Rel(α:Type) where
 aN:Nat->aQ->α->aa->Prop
 mono:∀lo h h' a v,(∀b o,lo<=b->h.get? b=O o->h'.get? b=O o)->aN lo h a v->aN lo h' a v
 down:∀lo lo' h a v,lo'<=lo->aN lo h a v->aN lo' h a v
def xw{α:Type}(r:Rel α)(aK:ae)(p:aI aa×aI aa)(x:Sp α):Prop:=
 ∀(A:bR) (a0:aa->ae->Prop) (s:ae) (lo:Nat) (Q:aa->aa->ae->Prop),A.depth<700->(uk aK.heap s.heap)->lo<=s.heap.objs.size->
  (∀kv vv Y,Gr x.2.2 s Y->x.1.is kv=N->r.aN lo Y.heap x.2.1 vv->Q kv vv Y)->aE (aD prog w) A p.1 (λkv s1=>aE (aD prog w) A p.2 (λvv s2=>Q kv vv s2) a0 s1) a0 s
theorem xw.later{r:Rel α}{p:aI aa×aI aa}{x:Sp α}(h:xw r aK p x)(k:uk aK.heap ax.heap):xw r ax p x:=
 λA a0 s lo Q ha hk=>h A a0 s lo Q ha λb o e=>hk b o (k b o e)
section
variable{r:Rel α}
theorem ai6(ha:A.depth<700){lo:Nat}(ps:List (aI aa×aI aa)):∀(K:List (Sp α)) (s:ae) (Q:List (aa×aa)->ae->Prop),PW (xw r aK) ps K->(uk aK.heap s.heap)->lo<=s.heap.objs.size->
 (∀vs iD Y,Carries (d0) vs iD->M2 (r.aN lo Y.heap) iD (jj K)->Gr (zC K) s Y->Q vs Y)->aE (aD prog w) A (evalPairs ps) Q a0 s:=by
 induction ps with
 |nil=>
  intro K s Q hp _ _ hQ;cases K with
  |nil=>show evalPairs_nil (hQ [] [] s trivial .nil (.refl s))
  |cons=>show hp.elim
 |cons p ps iH=>
  intro K s Q hp hk IJ hQ;cases K with
  |nil=>show hp.elim
  |cons x K=>show evalPairs_cons<|hp.1 A a0 s lo _ ha hk IJ λkv vv s1 g1 ZK hvv=>iH K s1 _ hp.2 (λb o e=>g1.keep b o (hk b o e)) (by rw[g1.size];lia) λvs iD s2 hc hm g2=>(hQ _ ((x.1,vv)::iD) s2 (gI ZK Z hc) (.cons (r.mono _ _ _ _ _ (λb o _ e=>g2.keep b o e) hvv) hm) (g1.trans g2))
structure SP(d n:Nat)(s Y:ae):Prop where
 size:Y.heap.objs.size=s.heap.objs.size+n
 keep:∀b o,b≠d->s.heap.get? b=O o->Y.heap.get? b=O o
 gens:Y.gens=s.gens
 drawn:Y.drawn=s.drawn
 os:Y.os=s.os
theorem SP.refl(d:Nat)(s:ae):SP d 0 s s:=⟨rfl,λ_ _ _ e=>e,rfl,rfl,rfl⟩
theorem SP.trans{d m:Nat}{a b c:ae}(x:SP d m a b)(y:SP d n b c):SP d (m+n) a c:=⟨by rw[y.size,x.size,lO],λe o q h=>y.keep e o q (x.keep e o q h),y.gens.trans x.gens,y.drawn.trans x.drawn,y.os.trans x.os⟩
theorem SQ{d:Nat}{a b:ae}(x:Gr n a b):SP d n a b:=⟨x.size,λe o _ h=>x.keep e o h,x.gens,x.drawn,x.os⟩
theorem SP.same{d:Nat}{t:Nat}(x:gu d s.heap h'):SP d 0 s {s with heap:=h',toks:=t}:=⟨x.1,λb o q e=>x.extBut b o q e,rfl,rfl,rfl⟩
theorem SR{iD:List (MK×aa)}{k:MK}(h:k∉iD.map (·.1)):stored iD k v=iD++[(k,v)]:=by rw[stored,if_neg];rw[Ld];show λqQ=>bf qQ λkv ZK he=>(h (bH.mpr (cn kv ZK (of_decide_eq_true he))))
noncomputable def ai7(d:af)(x:aI aa×aI aa)(_:PUnit):aI (ForInStep PUnit):=do let kv<-x.1;let vv<-holding [kv] x.2;holding [kv,vv] (dictSet d kv vv);pure (mw FN)
theorem adQ(ha:A.depth<700){d:Nat}(hd0:aK.heap.get? d=ah)(ps:List (aI aa×aI aa)):∀(K:List (Sp α)) (jQ:List (MK×α)) (iD:List (MK×aa)) (s:ae) (Q:PUnit->ae->Prop),PW (xw r aK) ps K->
 (uk aK.heap s.heap)->d<s.heap.objs.size->s.heap.DictOf (d0) d iD->M2 (r.aN (d+1) s.heap) iD jQ->((jQ++jj K).map (·.1)).Nodup->iD.length+ps.length<=1000->
 (∀rY Y,Y.heap.DictOf (d0) d rY->M2 (r.aN (d+1) Y.heap) rY (jQ++jj K)->SP d (zC K) s Y->Q FN Y)->
 aE (aD prog w) A (forIn ps FN (ai7 d)) Q a0 s:=by
 induction ps with
 |nil=>
  intro K jQ iD s Q hp _ _ hd hm _ _ hQ;cases K with
  |cons=>show hp.elim
  |nil=>show aC (hQ iD s hd ?_ (.refl d s));show(yg jQ).symm▸hm
 |cons p ps iH=>
  intro K jQ iD s Q hp hk jA hd hm hn hsz hQ;cases K with
  |nil=>show hp.elim
  |cons x K=>
   obtain⟨k,v⟩:=p;rw[yf];have hnk:x.1∉iD.map (·.1):=by rw[hm.keys];rw[jH,ql]at hn;show λq=>hn.2.2 _ q x.1 (AG Z) Z
   dsimp only[oO]at hsz;show aj ?_;generalize hQQ:(λ(a:ForInStep PUnit) (Y:ae)=>aE (aD prog w) A _ Q a0 Y)=QQ;show aj (ir (hp.1 A a0 s (d+1) (λkv vv s2=>aE (aD prog w) A (holding [kv,vv] (dictSet d kv vv)>>=λ_=>pure (mw FN)) QQ a0 s2) ha hk jA λkv vv s1 g1 ZK hvv=>?_) (λkv s1 h1=>aj (cQ (ir h1 (λvv s2 h2=>h2) λ_ _ e=>e))) λ_ _ e=>e);subst hQQ;show aj (cQ (wpAny_dictSet_pairs (hsz:=by lia) ZK (ff hd λo es ep h1 h2=>Bj o es ep (g1.keep _ _ h1) h2) λh2 hd2 hs2=>aC ?_));rw[SR hnk]at hd2;have f1:SP d x.2.2 s {s1 with heap:=h2,toks:=s1.toks+1}:=(SQ g1).trans (SP.same hs2);show iH K (jQ++[(x.1,x.2.1)]) (iD++[(x.1,vv)]) {s1 with heap:=h2,toks:=s1.toks+1} Q hp.2 (λb o e=>f1.keep b o (λq=>by have e:=hd0▸q▸e;ext) (hk b o e)) (by rw[f1.size];show LA x.snd.snd jA) hd2 ?_ (by rw[(by simp[jj]:((jQ++[(x.1,x.2.1)])++jj K).map (·.1)=(jQ++jj (x::K)).map (·.1))];show hn) (by show iu.symm▸List.length_singleton.symm▸?_;lia) λrY Y h1 h2 h3=>?_
   .have up:∀a v,r.aN (d+1) s1.heap a v->r.aN (d+1) h2 a v:=λa v h=>r.mono _ _ _ _ _ (λb o D e=>hs2.extBut b o (λq=>absurd D (by rw[q];show Lr d)) e) h;show((hm.mono λa v h=>r.mono _ _ _ _ _ (λb o _ e=>g1.keep b o e) h).mono up).app (.one (up _ _ hvv))
   .show hQ rY Y h1 ?_ (f1.trans h3);have e:jQ++[(x.1,x.2.1)]++jj K=jQ++jj (x::K):=by simp[jj]
    rw[<-e];show h2
end
section
variable{r:Rel α}
theorem aaI(ha:A.depth<700){ps:List (aI aa×aI aa)}{K:List (Sp α)}{Q:af->ae->Prop}(hp:PW (xw r s) ps K)(hn:((jj K).map (·.1)).Nodup)(hl:ps.length<=1000)(hQ:∀iD Y,Gr (1+zC K) s Y->Y.heap.DictOf (d0) s.heap.objs.size iD->M2 (r.aN (s.heap.objs.size+1) Y.heap) iD (jj K)->Q s.heap.objs.size Y):aE (aD prog w) A (subDict ps) Q a0 s:=by
 have hs:eN=16777216:=jX;have hd0:s.heap.get? s.heap.objs.size=ah:=bz _;have g1:Gr 1 s {s with heap:=s.heap.push {cls:=ao "dict",data:=eg #[]}}:=(Gr.refl s).push _;have hd1:(s.heap.push {cls:=ao "dict",data:=eg #[]}).DictOf (d0) s.heap.objs.size []:=ahb _ (#[]) 0 (bI _ Z) ⟨rfl,rfl,rfl⟩ Z (λe he=>by simp at he) (by first|show trivial|show Pairs.nil|(trivial)) List.nodup_nil;show aj (Aq (aj (cQ ?_)));by_cases h15:ps.length<=15
 .rw [if_pos h15];show aj (ai6 ha (lo:=s.heap.objs.size+1) ps K _ _ hp g1.keep (by rw[dD];show ey _) λvs iD s2 hc hm g2=>?_);have Rn:iD.length<=1000:=by rw[hm.1];delta jj;rw[ig,<-hp.len];show hl
  show cQ (aj (wpAny_storeAll (knd:=d0) vs iD [] s2 _ hc (ff hd1 λo es ep h1 h2=>Bj o es ep (g2.keep _ _ h1) h2) (by dsimp only[Le];lia) λh3 hd3 hs3=>aC (aC ?_)));rw[merged_nil_of_nodup iD (by rw[hm.keys];show hn)]at hd3;show hQ iD _ ⟨by rw[hs3.1,g2.size,g1.size,lO],λb o e=>hs3.extBut b o (λq=>by have e:=hd0▸q▸e;ext) (g2.keep b o (g1.keep b o e)),g2.gens,g2.drawn,g2.os⟩ hd3 (hm.mono λa v h=>r.mono _ _ _ _ _ (λb o D e=>hs3.extBut b o (λq=>absurd D (by rw[q];show Lr _)) e) h)
 .rw [if_neg h15];show aj<|rl<|aj<|adQ ha hd0 ps K [] [] _ _ hp g1.keep (by rw[dD];show iZ _) hd1 .nil (hn) (by dsimp only[Le];lia) λiD s2 hd2 hm f2=>aC<|aC<|hQ iD s2 ⟨by rw[f2.size,g1.size,lO],λb o e=>f2.keep b o (λq=>by have e:=hd0▸q▸e;ext) (g1.keep b o e),f2.gens,f2.drawn,f2.os⟩ hd2 hm
def Dk(A:bR)(a0:aa->ae->Prop)(s:ae)(d:af)(m:af)(iD:List (MK×aa))(more:List (MK×aa))(Q:Unit->ae->Prop):Prop:=∀(hdm:d≠m) (hmS:(m==sQ)=ab) (hd:s.heap.DictOf (d0) d iD) (hm:s.heap.DictOf (d0) m more) (qK:iD≠[]) (hn:((iD++more).map (·.1)).Nodup) (hsz:iD.length+more.length<=1000) (hQ:∀h',h'.DictOf (d0) d (iD++more)->gu d s.heap h'->Q () {s with heap:=h'}),aE (aD prog w) A (mergeMapping d (R m) ab) Q a0 s
def IC(c:((bR×(aa->ae->Prop))×(ae×af))×((af×(List (MK×aa)))×((List (MK×aa))×(Unit->ae->Prop)))):Prop:=Dk c.1.1.1 c.1.1.2 c.1.2.1 c.1.2.2 c.2.1.1 c.2.1.2 c.2.2.1 c.2.2.2
def me:=Bm IC inferInstance
def ID:=me.1.2.1
def N0:=me.1.2.2
def N6:=me.2.1.1
def pM:=me.2.1.2
def iN:=me.2.2.1
theorem aaJ:Dk me.1.1.1 me.1.1.2 ID N0 N6 pM iN me.2.2.2:=λhdm hmS hd hm qK hn hsz hQ=>by
 have hs:eN=16777216:=jX;show sd hd λod esd epd hod hcd hdd hkd hpd tV=>(sd hm λom SU epm hom hcm adR Q0 hpm hnm=>?_);have dM:iN.length=SU.size:=by show hpm.length▸?_;rfl
 have hT:ID.TypeIs (R N6) "dict" :=hm.typeIs;have alf:esd.isEmpty=ab:=by
  cases q:esd.isEmpty with
  |false=>rfl
  |true=>have:=hpd.length;rw[(Array.isEmpty_iff.mp q)]at this;show absurd (rq.mp (this.symm)) qK
 show aj<|mj hT isSubtype_dict_dict<|aj<|jF hT PySem.F.slot_dict_iter.lookup<|aj<|aC<|(show(O (bB "dict.__iter__")==O (bB "dict.__iter__"))=N from by decide+kernel).symm▸?_;dsimp only;rw[if_neg (by rw[hmS];decide)];show aj (Kg hod hdd ?_);rw[if_neg (by rw[alf];decide)];show aj<|Kg hom adR<|aj<|Ua hom adR<|aj<|List.range_eq_range'.symm▸wpAny_forIn_list _ (λrest _ Y=>∃h' i,Y={ID with heap:=h'}/\rest=UN i (SU.size - i)/\i<=SU.size/\h'.DictOf (d0) N0 (pM++iN.take i)/\h'.get? N6=O om/\gu N0 ID.heap h') _ ?_ ?_ _ _
  (aha ID.heap 0 Z Z (fj _) (by simpa using hd) hom (Vg _ _))
 .intro x rest b Y ow;show Cv ow λh' i dX hr hi Ι agx zM=>?_;subst dX;have jA:i<SU.size:=by show ba (mu i SU.size) (λh=>h) λh=>by rw[Ll h]at hr;ext
  show fc (show x=i/\rest=UN (i+1) (SU.size - (i+1)) from by
   have e:SU.size - i=(SU.size - (i+1))+1:=nj0 jA;rw[e,UH]at hr;injection hr with h1 h2
   show⟨h1,h2⟩) λdX Θ=>?_
  subst dX;show aj (Kg agx adR ?_);rw[vw jA];show og λgG kG=>?_;obtain⟨⟨k,v⟩,ZK⟩:∃kv,iN[x]? =O kv:=⟨iN[x]'(dM▸jA),dE _⟩;show fc (hpm.get? (e:=SU[x]) (by simp[jA]) ZK) λadS alg=>bf (Q0 SU[x] (Array.getElem_mem jA)) λk' ai8 ai9=>kG ?_;clear kG gG;obtain rfl:=(d0).inj _ _ _ ai8 adS;dsimp only;rw[if_neg aL,ai9,alg];have hmem:k'∉(pM++iN.take x).map (·.1):=by
   have e:pM++iN=(pM++iN.take x)++iN.drop x:=by rw[AJ,EL]
   rw[e,jH,ql]at hn;intro q;show hn.2.2 k' q k' ?_ Z;have:(iN.drop x)[0]? =O (k',v):=by rw[K0,AW];show ZK
   show bH.mpr (cn (k',v) (cY this) Z)
  have hlx:(pM++iN.take x).length<=1000:=by rw[iu,AM];lia
  show sd Ι λo2 es2 ep2 Ϡ hc2 hd2 hk2 YQ FT=>?_;have ϊ:(es2.findIdx? λe=>(d0).is k' e.key)=(pM++iN.take x).findIdx? λkv=>decide (kv.1=k'):=by rw[<-YQ.findIdx k'];obtain⟨l⟩:=es2;show List.findIdx?_toArray (λe=>d0.is k' e.key) l
  have hi2:(es2.findIdx? λe=>(d0).is k' e.key)=ah:=by rw[ϊ];show List.findIdx?_eq_none_iff.mpr λkv ZK=>decide_eq_false λq=>hmem (bH.mpr (cn kv ZK q))
  have hz2:es2.size<=eN:=by
   have e1:=YQ.length;have e2:es2.toList.length=es2.size:=by rfl
   lia
  show aj<|cQ<|aj<|wpAny_dictFind_of adS Ϡ hd2 hk2<|hi2.symm▸wpAny_updateDictKeys (hz:=hz2) Ϡ hd2 ?_;have ss:=j8 (h:=h') N0 (Obj.mapDictKeys (·.push ⟨(d0).hash k',SU[x].key,v⟩));have aja:=(ss.2 N6 (eS hdm)).trans agx;show aj (Ua aja adR ?_);rw[if_neg fF];show aC (aha _ (x+1) Z Θ jA ?_ aja (zM.trans ss));rw[(by rw[AK,ZK];simp:pM++iN.take (x+1)=(pM++iN.take x)++[(k',v)])];show ahb _ _ (ep2+1) (ie _ Ϡ (Obj.isFreed_of_dict (Vc hd2 _))) (hc2.mapDictKeys _) (Vc hd2 _) (hk2.push adS _) ?_ ?_
  .have:=YQ.append adS ((d0).hash k') v;obtain⟨l⟩:=es2;simpa using this
  .rw [jH,ql];show gI FT fF (λa ha b D=>?_);rw[ix,UK,bJ]at D;subst D;show λe=>hmem (e▸ha)
 .intro b Y Λ;show Cv Λ λh' i qI hr hi Ι agx zM=>qI▸?_;have Gz:i=SU.size:=ba (mu i SU.size) (λh=>by rw[(by lia:SU.size - i=(SU.size - (i+1))+1),UH]at hr;show nnD hr) λh=>vk hi h;rw[Gz,<-dM,sY]at Ι;show aC (hQ h' Ι zM)
theorem aaK{m:af}{iD:List (MK×aa)}{more:List (MK×aa)}{Q:Unit->ae->Prop}:Dk A a0 s d m iD more Q:=Yw (P:=IC) aaJ (((A,a0),(s,d)),((m,iD),(more,Q)))
end
noncomputable def wa(run:List (aI aa×aI aa))(main:Option af):aI (Option af):=do
 if run.isEmpty then return main
 match main with
 |none=>return O (<-subDict run)
 |some d=>
  let sub<-holding [R d] (subDict run)
  (holding [R d,R sub] (mergeMapping d (R sub) ab)).onRaise λx=>do let _<-holding [R d,x] (runValue (fE "proto.let_go" {}))
  return O d
section
variable{r:Rel α}
theorem QB(ha:A.depth<700){c:List (aI aa×aI aa)}{x:List (Sp α)}{jQ:List (MK×α)}{iD:List (MK×aa)}{Q:Option af->ae->Prop}(hp:PW (xw r aK) c x)(hc:c≠[])(hk:uk aK.heap s.heap)(Yb:sQ<aK.heap.objs.size)(jA:aK.heap.objs.size<s.heap.objs.size)(hd:s.heap.DictOf (d0) aK.heap.objs.size iD)(hm:M2 (r.aN (aK.heap.objs.size+1) s.heap) iD jQ)(qK:jQ≠[])(hn:((jQ++jj x).map (·.1)).Nodup)(hl:jQ.length+c.length<=1000)(hQ:∀rY Y,Y.heap.DictOf (d0) aK.heap.objs.size rY->M2 (r.aN (aK.heap.objs.size+1) Y.heap) rY (jQ++jj x)->SP aK.heap.objs.size (1+zC x) s Y->Q (O aK.heap.objs.size) Y):
 aE (aD prog w) A (wa c (O aK.heap.objs.size)) Q a0 s:=by
 delta wa
 rw[if_neg (by simpa using hc)];show aj (cQ (aaI ha (hp.mono λp y h=>h.later hk) (by rw[jH,ql]at hn;show hn.2.1) (Nat.le_of_add_left_le hl) λmore s1 g1 hm1 hmm=>?_));have hkl:=hm.1;have hml:=hmm.1;have hxl:=hp.len;have hxs:(jj x).length=x.length:=by delta jj;rw[ig]
 show aj (Kr (cQ (aaK (fB jA) (beq_eq_false_iff_ne.mpr (oR (f9 Yb jA))) (ff hd λo es ep h1 h2=>Bj o es ep (g1.keep _ _ h1) h2) hm1 (λq=>?_) (((by rw[jH,jH,hm.keys,hmm.keys]:((iD++more).map (·.1))=(jQ++jj x).map (·.1)))▸hn) au λh2 hd2 hs2=>aC (hQ _ _ hd2 ?_ ((SQ g1).trans (SP.same hs2))))))
 .rw [q]at hkl;show qK (rq.mp hkl.symm)
 .have up:∀a v,r.aN (aK.heap.objs.size+1) s1.heap a v->r.aN (aK.heap.objs.size+1) h2 a v:=λa v h=>r.mono _ _ _ _ _ (λb o D e=>hs2.extBut b o (λq=>absurd D (by rw[q];show Lr _)) e) h;show(hm.mono λa v h=>up a v (r.mono _ _ _ _ _ (λb o _ e=>g1.keep b o e) h)).app (hmm.mono λa v h=>up a v (r.down _ _ _ _ _ (vj jA) h))
theorem DQ(ha:A.depth<700){c:List (aI aa×aI aa)}{x:List (Sp α)}{Q:Option af->ae->Prop}(hp:PW (xw r s) c x)(hc:c≠[])(hn:((jj x).map (·.1)).Nodup)(hl:c.length<=1000)(hQ:∀rY Y,Y.heap.DictOf (d0) s.heap.objs.size rY->M2 (r.aN (s.heap.objs.size+1) Y.heap) rY (jj x)->Gr (1+zC x) s Y->Q (O s.heap.objs.size) Y):aE (aD prog w) A (wa c ah) Q a0 s:=by
 delta wa
 rw[if_neg (by simpa using hc)];show aj (aaI ha hp hn hl λiD s1 g hd hm=>aC (hQ iD s1 hd hm g))
end
def zD(x:Option (aI aa)×aI aa)(st:Option af×List (aI aa×aI aa)):aI (ForInStep (Option af×List (aI aa×aI aa))):=match x.1 with
 |some k=>if(st.2++[(k,x.2)]).length==17 then wa (st.2++[(k,x.2)]) st.1>>=λm=>pure (mw (m,[])) else pure (mw (st.1,st.2++[(k,x.2)]))
 |none=>Es ""
noncomputable def gD(p:aI aa×aI aa):Option (aI aa)×aI aa:=(O p.1,p.2)
theorem DR(items:List (aI aa×aI aa)):∀(run:List (aI aa×aI aa)) (m:Option af),run.length+items.length<17->forIn (items.map gD) (m,run) zD=pure (m,run++items):=by
 induction items with
 |nil=>intro run m _;simp
 |cons p items iH=>intro run m h;have e:zD (gD p) (m,run)=pure (mw (m,run++[p])):=if_neg (by simp at h ⊢;lia);rw[ix,yf,e,pure_bind];change forIn (items.map gD) (m,run++[p]) zD=_;rw[iH (run++[p]) m (by simp at h ⊢;lia)];simp
theorem QC(items:List (aI aa×aI aa)):∀(run:List (aI aa×aI aa)) (m:Option af) (rest:List (aI aa×aI aa)),items≠[]->run.length+items.length=17->forIn ((items++rest).map gD) (m,run) zD=(wa (run++items) m>>=λm'=>forIn (rest.map gD) (m',[]) zD):=by
 induction items with
 |nil=>intro _ _ _ h _;show absurd Z h
 |cons p items iH=>
  intro run m rest _ hl;rw[ES,ix,yf];by_cases hi:items=[]
  .subst hi;have e:zD (gD p) (m,run)=(wa (run++[p]) m>>=λm'=>pure (mw (m',[]))):=if_pos (by simp at hl ⊢;lia);rw[e,bind_assoc];rfl
  .have e:zD (gD p) (m,run)=pure (mw (m,run++[p])):=by have:items.length≠0:=λq=>hi (rq.mp q);show if_neg (by simp at hl ⊢;lia)
   rw[e,pure_bind];change forIn ((items++rest).map gD) (m,run++[p]) zD=_;rw[iH (run++[p]) m rest hi (by simp at hl ⊢;lia)];simp
theorem aaL{f f':Option (aI aa)×aI aa->σ->aI (ForInStep σ)}(h:∀p st,f (gD p) st=f' (gD p) st)(ps:List (aI aa×aI aa)):∀(st:σ),forIn (ps.map gD) st f=forIn (ps.map gD) st f':=by
 induction ps with
 |nil=>intro _;show rfl
 |cons p ps iH=>intro st;rw[ix,yf,yf,h];show bind_congr λx=>by cases x with|done _=>rfl|yield b=>show iH b
theorem aaM{a b:Type}{m m':aI a}{f f':a->aI b}(h:m=m')(h':∀x,f x=f' x):m>>=f=m'>>=f':=by rw[h,funext h']
theorem adT(ps:List (aI aa×aI aa)):dictDisplay (ps.map gD)=(forIn (ps.map gD) ((ah:Option af),([]:List (aI aa×aI aa))) zD>>=λst=>wa st.2 st.1>>=λm=>match m with|some d=>pure (R d)|none=>newDict):=by show aaM (aaL ?_ ps _) (λ_=>rfl);show λ_ _=>rfl
def sG{α:Type}:Nat->List (Sp α)->Nat
 | 0,_=>0
 |_,[]=>0
 |n+1,x::K=>1+zC ((x::K).take 17)+sG n ((x::K).drop 17)
theorem SW(n:Nat):sG n ([]:List (Sp α))=0:=by cases n<;>rfl
theorem xy{K:List (Sp α)}(h:K≠[]):sG (n+1) K=1+zC (K.take 17)+sG n (K.drop 17):=by
 cases K with
 |nil=>show absurd Z h
 |cons x K=>rfl
theorem Cm{K:List (Sp α)}(h:K≠[])(hl:K.length<=17):sG (n+1) K=1+zC K:=by rw[xy h,KV hl,List.drop_of_length_le hl,SW];rfl
theorem aaN{W:aI aa×aI aa->Sp α->Prop}(k:Nat):∀{ps:List (aI aa×aI aa)} {K:List (Sp α)},PW W ps K->PW W (ps.take k) (K.take k)/\PW W (ps.drop k) (K.drop k):=by
 induction k with
 |zero=>show λh=>⟨trivial,h⟩
 |succ k ih=>
  intro ps K h;cases ps<;>cases K
  .show ⟨trivial,trivial⟩
  .show h.elim
  .show h.elim
  .show ⟨⟨h.1,(ih h.2).1⟩,(ih h.2).2⟩
theorem QD(k:Nat)(K:List (Sp α)):jj (K.take k)++jj (K.drop k)=jj K:=by delta jj;rw[<-jH,EL]
def ajb(st:Option af×List (aI aa×aI aa)):aI aa:=wa st.2 st.1>>=λm=>match m with|some d=>pure (R d)|none=>newDict
section
variable{r:Rel α}
theorem PW.ne{W:aI aa×aI aa->Sp α->Prop}{ps:List (aI aa×aI aa)}{K:List (Sp α)}(h:PW W ps K)(hn:ps≠[]):K≠[]:=λe=>hn (rq.mp (by rw[h.len,e];rfl))
theorem adU(ha:A.depth<700)(Yb:sQ<aK.heap.objs.size)(n:Nat):∀(ps:List (aI aa×aI aa)) (K:List (Sp α)) (jQ:List (MK×α)) (iD:List (MK×aa)) (s:ae) (Q:aa->ae->Prop),ps.length<17 * n->PW (xw r aK) ps K->
 (uk aK.heap s.heap)->aK.heap.objs.size<s.heap.objs.size->s.heap.DictOf (d0) aK.heap.objs.size iD->M2 (r.aN (aK.heap.objs.size+1) s.heap) iD jQ->jQ≠[]->((jQ++jj K).map (·.1)).Nodup->jQ.length+ps.length<=1000->
 (∀rY Y,Y.heap.DictOf (d0) aK.heap.objs.size rY->M2 (r.aN (aK.heap.objs.size+1) Y.heap) rY (jQ++jj K)->SP aK.heap.objs.size (sG n K) s Y->Q (R aK.heap.objs.size) Y)->
 aE (aD prog w) A (forIn (ps.map gD) (O aK.heap.objs.size,[]) zD>>=ajb) Q a0 s:=by
 induction n with
 |zero=>intro _ _ _ _ _ _ h _ _ _ _ _ _ _ _ _;show absurd h (rM _)
 |succ n iH=>
  intro ps K jQ iD s Q al5 hp hk jA hd hm qK hn hl hQ;by_cases h17:ps.length<17
  .rw [DR ps [] _ (AQ h17),yh,pure_bind];show if h0:ps=[] then ?_ else aj<|QB ha hp h0 hk Yb jA hd hm qK hn hl λrY Y h1 h2 h3=>aC<|hQ rY Y h1 h2<|(Cm (hp.ne h0) (by rw[<-hp.len];lia)).symm▸h3
   have h0':K=[]:=rq.mp (by rw[<-hp.len,h0];rfl);subst h0';show h0.symm▸aj (aC (aC (hQ iD s hd ?_ (.refl _ s))));change M2 _ iD (jQ++[]);rw[yg];show hm
  .have YR:=aaN 17 hp;have l1:(ps.take 17).length=17:=by rw[AM];lia
   have hc:ps.take 17≠[]:=λe=>by have l1:=e▸l1;ext
   have e1:=QC (ps.take 17) [] (O aK.heap.objs.size) (ps.drop 17) hc (by simpa using l1);rw[EL]at e1;have OY:=QD 17 K;rw[e1,bind_assoc,yh];have D9:((jQ++jj (K.take 17)++jj (K.drop 17)).map (·.1)).Nodup:=by rw[AJ,OY];show hn
   have ld:(ps.drop 17).length=ps.length - 17:=AN;show aj<|QB ha YR.1 hc hk Yb jA hd hm qK (by rw[jH,ql]at D9;show D9.1) au λrY Y h1 h2 h3=>iH (ps.drop 17) (K.drop 17) (jQ++jj (K.take 17)) rY Y Q au YR.2 (λb o e=>h3.keep b o (λq=>by rw[q,bz]at e;ext) (hk b o e)) (by rw[h3.size];show LA (1+zC (List.take 17 K)) jA) h1 h2 (λe=>qK (List.append_eq_nil_iff.mp e).1) D9 ?_ λk2 s2 g1 g2 g3=>hQ k2 s2 g1 (by rw[AJ,OY]at g2;show g2) (by rw[xy (hp.ne λe=>h17 (by rw[e];decide))];show h3.trans g3);rw[iu,ld]
   delta jj
   rw[ig,<-YR.1.len,l1];lia
theorem adV(ha:A.depth<700)(Yb:sQ<s.heap.objs.size){ps:List (aI aa×aI aa)}{K:List (Sp α)}(hln:ps.length<17 * (n+1))(hp:PW (xw r s) ps K)(h0:ps≠[])(hn:((jj K).map (·.1)).Nodup)(hl:ps.length<=1000)(hQ:∀iD Y,Y.heap.DictOf (d0) s.heap.objs.size iD->M2 (r.aN (s.heap.objs.size+1) Y.heap) iD (jj K)->Gr (sG (n+1) K) s Y->Q (R s.heap.objs.size) Y):aE (aD prog w) A (dictDisplay (ps.map gD)) Q a0 s:=by
 rw[adT];change aE _ _ (_>>=ajb) _ _ _;by_cases h17:ps.length<17
 .rw [DR ps [] _ (AQ h17),yh,pure_bind];show aj<|DQ ha hp h0 hn hl λrY Y h1 h2 h3=>aC<|hQ rY Y h1 h2<|(Cm (hp.ne h0) (by rw[<-hp.len];lia)).symm▸h3
 .have YR:=aaN 17 hp;have l1:(ps.take 17).length=17:=by rw[AM];lia
  have hc:ps.take 17≠[]:=λe=>by have l1:=e▸l1;ext
  have e1:=QC (ps.take 17) [] ah (ps.drop 17) hc (by simpa using l1);rw[EL]at e1;have OY:=QD 17 K;rw[e1,bind_assoc,yh];have D9:((jj (K.take 17)++jj (K.drop 17)).map (·.1)).Nodup:=by rw[OY];show hn
  have ld:(ps.drop 17).length=ps.length - 17:=AN;have ls:(jj (K.take 17)).length=17:=by delta jj;rw[ig,<-YR.1.len,l1]
  show aj<|DQ ha YR.1 hc (by rw[jH,ql]at D9;show D9.1) au λrY Y h1 h2 h3=>adU ha Yb n (ps.drop 17) (K.drop 17) (jj (K.take 17)) rY Y Q au YR.2 h3.keep (by rw[h3.size];lia) h1 h2 (λe=>by have ls:=e▸ls;ext) D9 au λk2 s2 g1 g2 g3=>hQ k2 s2 g1 (by rw[OY]at g2;show g2)<|(xy (hp.ne h0)).symm▸have f:=(SQ (d:=s.heap.objs.size) h3).trans g3;⟨f.size,λb o e=>f.keep b o (λq=>by rw[q,bz]at e;ext) e,f.gens,f.drawn,f.os⟩
end
abbrev Tri:=Nat×Nat×Nat
inductive IS where
 |int(i:Int)
 |ecs(l:List Tri)
inductive EcV(lo:Nat)(h:aQ)(t:Tri):aa->Prop
 |mk (i dx:af) (t0 t1 t2:a8) (a:lo<=i) (b:lo<=dx) (c:h.get? i=O (Yg dx (SN (ai t.1) (ai t.2.1) (ai t.2.2) t0 t1 t2))) (d:h.get? dx=O iA):EcV lo h t (R i)
def SX(lo:Nat)(h:aQ):List Tri->List aa->Prop
 | [],[]=>True
 |t::ts,v::vs=>EcV lo h t v/\SX lo h ts vs
 |_,_=>False
protected def IS.aN(lo:Nat)(h:aQ):IS->aa->Prop
 | .int i,v=>∃t,v=ag i t
 | .ecs l,v=>∃a vs,v=R a/\lo<=a/\h.get? a=O {cls:=ao "tuple",data:=bQ vs.toArray}/\SX lo h l vs
theorem EcV.to{lo:Nat}{t:Tri}(hl:lo'<=lo)(hk:∀b o,lo<=b->h.get? b=O o->h'.get? b=O o)(x:EcV lo h t v):EcV lo' h' t v:=by obtain⟨i,dx,t0,t1,t2,a,b,c,d⟩:=x;show⟨i,dx,t0,t1,t2,bj hl a,bj hl b,hk _ _ a c,hk _ _ b d⟩
theorem SX.to{lo lo':Nat}{h h':aQ}(hl:lo'<=lo)(hk:∀b o,lo<=b->h.get? b=O o->h'.get? b=O o):∀{l:List Tri} {vs:List aa},SX lo h l vs->SX lo' h' l vs
 | [],[],_=>trivial
 |_::_,_::_,⟨a,b⟩=>⟨a.to hl hk,SX.to hl hk b⟩
 | [],_::_,e=>e.elim
 |_::_,[],e=>e.elim
theorem IS.to{lo:Nat}(hl:lo'<=lo)(hk:∀b o,lo<=b->h.get? b=O o->h'.get? b=O o):∀{a:IS} {v:aa},IS.aN lo h a v->IS.aN lo' h' a v
 | .int _,_,x=>x
 | .ecs _,_,⟨a,vs,e,b,c,d⟩=>MC a vs e (bj hl b) (hk _ _ b c) (d.to hl hk)
noncomputable def alh:Rel IS:=⟨IS.aN,λ_ _ _ _ _ k x=>IS.to (ey _) k x,λ_ _ _ _ _ l x=>IS.to l (λ_ _ _ e=>e) x⟩
inductive OR(lo:Nat)(h:aQ)(sp:List (MK×IS)):aa->Prop
 |mk (d:af) (iD:List (MK×aa)) (a:lo<=d) (b:h.DictOf d0 d iD) (m:M2 (IS.aN (d+1) h) iD sp):OR lo h sp (R d)
noncomputable def ajc:Rel (List (MK×IS)):=⟨OR,
 λ_ _ _ _ _ k q=>by obtain⟨d,iD,a,b,m⟩:=q;show⟨d,iD,a,Bf (λo q=>q.imp λes q=>q.imp λep q=>⟨k _ _ a q.1,q.2⟩) b,m.mono λ_ _ x=>IS.to (ey _) (λb o q=>k b o (bj (qq a) q)) x⟩,
 λ_ _ _ _ _ l q=>by obtain⟨d,iD,a,b,m⟩:=q;show⟨d,iD,bj l a,b,m⟩⟩
noncomputable def nEC:aV:=aB "EC"
inductive XK where
 |call(f:aG)(l:List aG)(k:List AA)(p:cJ)
 |name(x:aV)(p:cJ)
 |con(c:ya)(k:Nat)(p:cJ)
 |tup(l:List aG)(k:Nat)(p:cJ)
 |dict(k:List (Option aG))(v:List aG)(p:cJ)
 |other
noncomputable def xk:aG->XK
 |bx f l k p=>.call f l k p
 |aq x p=>.name x p
 |fL c k p=>.con c k p
 |fM l k p=>.tup l k p
 |qk k v p=>.dict k v p
 |_=>.other
def XK.back:XK->aG->Prop
 | .call f l k p,e=>e=bx f l k p
 | .name x p,e=>e=aq x p
 | .con c k p,e=>e=fL c k p
 | .tup l k p,e=>e=fM l k p
 | .dict k v p,e=>e=qk k v p
 | .other,_=>True
theorem ZL(e:aG):(xk e).back e:=by cases e<;>first|show trivial|show rfl
noncomputable def XK.call? :XK->Option (aG×List aG×List AA×cJ)
 | .call f l k p=>O (f,l,k,p)
 |_=>ah
noncomputable def XK.name? :XK->Option (aV×cJ)
 | .name x p=>O (x,p)
 |_=>ah
noncomputable def XK.con? :XK->Option (ya×Nat×cJ)
 | .con c k p=>O (c,k,p)
 |_=>ah
noncomputable def XK.tup? :XK->Option (List aG×Nat×cJ)
 | .tup l k p=>O (l,k,p)
 |_=>ah
noncomputable def XK.dict? :XK->Option (List (Option aG)×List aG×cJ)
 | .dict k v p=>O (k,v,p)
 |_=>ah
def ae2(e:aG):=(xk e).call?
def aaO(e:aG):Option aV:=(xk e).name?.map (·.1)
def SY(e:aG):Option ya:=(xk e).con?.map (·.1)
def ajd(e:aG):Option (List aG):=(xk e).tup?.map (·.1)
def ae3(e:aG):Option (List (Option aG)×List aG):=(xk e).dict?.map λq=>(q.1,q.2.1)
noncomputable def adW:ya->Option Int
 |jK i=>O i
 |_=>ah
noncomputable def aje:Int->Option Nat
 |ai n=>O n
 |_=>ah
noncomputable def l3:List aG->Option (aG×aG×aG)
 | [a,b,c]=>O (a,b,c)
 |_=>ah
theorem ZM{x:XK}{e q}(b:x.back e)(h:x.call? =O q):e=bx q.1 q.2.1 q.2.2.1 q.2.2.2:=by cases x<;>cases h;show b
theorem ZN{x:XK}{e q}(b:x.back e)(h:x.name? =O q):e=aq q.1 q.2:=by cases x<;>cases h;show b
theorem QE{x:XK}{e q}(b:x.back e)(h:x.con? =O q):e=fL q.1 q.2.1 q.2.2:=by cases x<;>cases h;show b
theorem aaP{x:XK}{e q}(b:x.back e)(h:x.tup? =O q):e=fM q.1 q.2.1 q.2.2:=by cases x<;>cases h;show b
theorem ZO{x:XK}{e q}(b:x.back e)(h:x.dict? =O q):e=qk q.1 q.2.1 q.2.2:=by cases x<;>cases h;show b
theorem adX{q}(h:ae2 e=O q):e=bx q.1 q.2.1 q.2.2.1 q.2.2.2:=ZM (ZL e) h
theorem Yh{o:Option α}{f:α->β}{x:β}(h:o.map f=O x):∃q,o=O q/\f q=x:=jb.mp h
theorem Yi{x}(h:aaO e=O x):∃p,e=aq x p:=bf (Yh h) λq h r=>⟨q.2,r▸ZN (ZL e) h⟩
theorem S3{c}(h:SY e=O c):∃k p,e=fL c k p:=bf (Yh h) λq h r=>qG q.2.1 q.2.2 (r▸QE (ZL e) h)
theorem agy{l}(h:ajd e=O l):∃k p,e=fM l k p:=bf (Yh h) λq h r=>qG q.2.1 q.2.2 (r▸aaP (ZL e) h)
theorem adY{q}(h:ae3 e=O q):∃p,e=qk q.1 q.2 p:=bf (Yh h) λq h r=>⟨q.2.2,r▸ZO (ZL e) h⟩
theorem S4{c:ya}{i}(h:adW c=O i):c=jK i:=by cases c<;>cases h;rfl
theorem agz{i:Int}{n}(h:aje i=O n):i=ai n:=by cases i<;>cases h;rfl
theorem ali{l:List aG}{q}(h:l3 l=O q):l=[q.1,q.2.1,q.2.2]:=by
 rcases l with _|⟨a,_|⟨b,_|⟨c,_|⟨d,l⟩⟩⟩⟩
 .show Bg h
 .show Bg h
 .show Bg h
 .show aW h▸rfl
 .show Bg h
def adZ(e:aG):Option Nat:=(SY e).bind λc=>(adW c).bind aje
theorem kH{a:Option α}{f:α->Option β}{x:β}{aN:Prop}(h:a.bind f=O x)(k:∀y,a=O y->f y=O x->aN):aN:=by
 cases a with
 |none=>ext
 |some y=>show k y Z h
theorem agA{c:Prop}[Decidable c]{β:Type}{v x:β}{aN:Prop}(h:(if c then O v else ah)=O x)(k:c->v=x->aN):aN:=by
 by_cases hc:c
 .rw [if_pos hc]at h;show k hc (aW h)
 .have h:=(if_neg hc).symm.trans h;ext
theorem alj{c:Prop}[Decidable c]{β:Type}{o:Option β}{x:β}{aN:Prop}(h:(if c then o else ah)=O x)(k:c->o=O x->aN):aN:=by
 by_cases hc:c
 .rw [if_pos hc]at h;show k hc h
 .have h:=(if_neg hc).symm.trans h;ext
theorem S5(h:adZ e=O n):∃k p,e=fL (jK (ai n)) k p:=
 kH h λ_ h1 h=>kH h λ_ h2 h3=>jg (S3 h1) λk p e=>qG k p (by rw[e,S4 h2,agz h3])
def ad0(e:aG):Option Tri:=(ae2 e).bind λq=>(aaO q.1).bind λx=>(l3 q.2.1).bind λr=>(adZ r.1).bind λa=>(adZ r.2.1).bind λb=>(adZ r.2.2).bind λc=>if x=nEC/\q.2.2.1.isEmpty=N then O (a,b,c) else ah
theorem aaQ{t:Tri}(h:ad0 e=O t):∃np k1 p1 k2 p2 k3 p3 pos,e=bx (aq nEC np) [fL (jK (ai t.1)) k1 p1,fL (jK (ai t.2.1)) k2 p2,fL (jK (ai t.2.2)) k3 p3] [] pos:=
 kH h λq h0 h=>kH h λx h1 h=>kH h λr h2 h=>kH h λa h3 h=>kH h λb h4 h=>kH h λc h5 h=>agA h λhc ht=>dF (Yi h1) λnp e1=>jg (S5 h3) λk1 p1 e3=>jg (S5 h4) λk2 p2 e4=>jg (S5 h5) λk3 p3 e5=>⟨np,k1,p1,k2,p2,k3,p3,q.2.2.2,by rw[adX h0,e1,ali h2,e3,e4,e5,hc.1,List.isEmpty_iff.mp hc.2,<-ht]⟩
def aaR:List aG->Option (List Tri)
 | []=>O []
 |e::es=>(ad0 e).bind λt=>(aaR es).bind λts=>O (t::ts)
noncomputable def alk:ya->Option MK
 |rR=>O .none
 |jK i=>O (.int i)
 |Mb x=>O (.str x)
 |_=>ah
def kOf(tab:List (aV×Int))(e:aG):Option MK:=
 (SY e).elim ((aaO e).bind λx=>if(x==("__debug__" :aV))=ab then(tab.lookup x).map .int else ah) alk
def iOf(e:aG):Option (IS×Nat):=
 (SY e).elim ((ajd e).bind λes=>(aaR es).bind λl=>if es.length<=1000 then O (.ecs l,5 * l.length+1) else ah) λc=>(adW c).bind λi=>O (.int i,0)
def pOf(tab:List (aV×Int)){α:Type}(f:aG->Option (α×Nat)):List (Option aG)->List aG->Option (List (Sp α))
 | [],[]=>O []
 |k::ks,v::vs=>k.bind λk=>(kOf tab k).bind λk=>(f v).bind λi=>(pOf tab f ks vs).bind λr=>O ((k,i)::r)
 |_,_=>ah
def oV(tab:List (aV×Int))(v:aG):Option (List (MK×IS)×Nat):=(ae3 v).bind λq=>(pOf tab iOf q.1 q.2).bind λK=>
 if K≠[]/\K.length<17/\((jj K).map (·.1)).Nodup then O (jj K,sG 1 K) else ah
def HN(P:cf)(t:Nat->a8)(fd fd2:cq)(tab:List (aV×Int))(h:aQ):Prop:=
 SM P t fd fd2 h/\
 ∃mg,h.Ns ef mg/\mg nEC=O (R 135)/\∀x i,tab.lookup x=O i->∃t,mg x=O (ag i t)
theorem HN.keeps(x:HN P t fd fd2 tab h)(k:uk h h'):HN P t fd fd2 tab h':=
 ⟨x.1.keeps k,bf x.2 λmg a b=>(cn mg (a.at' λo e=>k _ o e) b)⟩
theorem agB{k:MK}(cA:HN P t fd fd2 tab s.heap)(hk:J.scope.kind=qv)(hl:J.locals=J.globals)(hg:J.globals=ef)(h:kOf tab e=O k)(hQ:∀v Y,Gr 0 s Y->k.is v=N->Q v Y):aE (aD prog w) A (a7 e J) Q a0 s:=by
 unfold kOf at h;show δ (SY e) (λhc=>?_) λc hc=>?_
 .replace h:=hc▸h;show kH h λx h1 h5=>alj h5 λhd h6=>?_;obtain⟨p,rfl⟩:=Yi h1;obtain⟨i,hi,rfl⟩:=jb.mp h6;show gC cA.2 λmg h1 h2 h3=>dF (h3 x i hi) λt ht=>Name_module hk hl (Vz (hg▸h1) ht (hQ _ _ (.refl s) (beq_self_eq_true _))) hd
 .obtain ⟨k1,p,rfl⟩:=S3 hc;cases c<;>cases h
  .show TX (hQ _ _ (.refl s) Z)
  .show xH (hQ _ _ ((Gr.refl s).toks _) (beq_self_eq_true _))
  .show Ee (hQ _ _ ((Gr.refl s).toks _) (beq_self_eq_true _))
theorem ad1{x:Tri}{lo:Nat}(bK:A.depth<700)(cA:HN P t fd fd2 tab s.heap)(hk:J.scope.kind=qv)(hl:J.locals=J.globals)(hg:J.globals=ef)(h:ad0 e=O x)(IJ:lo<=s.heap.objs.size)(hQ:∀v Y,Gr 5 s Y->EcV lo Y.heap x v->Q v Y):aE (aD prog w) A (a7 e J) Q a0 s:=by show Gb (aaQ h) λnp k1 p1 k2 p2 k3 p3 pos dX=>(gC cA.2 λmg h1 h2 h3=>?_);subst dX;show wpAny_Call_ofName (Name_module hk hl (Vz (hg▸h1) h2 ?_) (rfl));rw[agv (rfl) (rfl) (rfl)];show aj<|cQ<|L6<|rP<|xH<|rP<|xH<|rP<|xH<|aC<|have g:=(((Gr.refl s).toks (s.toks+1)).toks (s.toks+1+1)).toks (s.toks+1+1+1);have H1:=cA.keeps g.keep;aj<|jW<|aj<|aj<|jY (H1.1.pH 135 _ Z)<|aj<|(Yf H1.1.pH).here<|aC<|aj<|adO H1.1 (f9 bK bD) λY g' e1 e2=>aj<|cQ<|wpAny_point<|aC<|hQ _ _ (g.trans g')<|⟨_,_,_,_,_,bj IJ (iY _ _),bj IJ (iY _ _),e1,e2⟩
theorem S6{x:Tri}(h:ad0 e=O x):cH e=ab:=by show Gb (aaQ h) λnp k1 p1 k2 p2 k3 p3 pos dX=>?_;subst dX;rfl
theorem aaS{lo:Nat}(bK:A.depth<700)(hk:J.scope.kind=qv)(hl:J.locals=J.globals)(hg:J.globals=ef)(es:List aG):∀(l:List Tri) (s:ae) (Q:List aa->ae->Prop),HN P t fd fd2 tab s.heap->aaR es=O l->lo<=s.heap.objs.size->
 (∀vs Y,Gr (5 * l.length) s Y->SX lo Y.heap l vs->vs.length=es.length->Q vs Y)->aE (aD prog w) A (xZ (jZ pos (js es J))) Q a0 s:=by
 induction es with
 |nil=>intro l s Q _ h _ hQ;obtain rfl:=aW h;show aC (hQ [] s (.refl s) trivial Z)
 |cons e es iH=>show λl s Q cA h IJ hQ=>kH h λx E h=>kH h λK hxs h=>by obtain rfl:=aW h;rw[dq (S6 E)];show rP<|ad1 bK cA hk hl hg E IJ λv s1 g1 hv=>iH K s1 _ (cA.keeps g1.keep) hxs (by rw[g1.size];show vj IJ) λvs s2 g2 m_ dM=>hQ _ _ ?_ ⟨hv.to (ey _) (λb o _ e=>g2.keep b o e),m_⟩ (congrArg AX dM);rw[oO,LF,jI];show g1.trans g2
theorem agC{x:IS×Nat}{lo:Nat}(bK:A.depth<700)(cA:HN P t fd fd2 tab s.heap)(hk:J.scope.kind=qv)(hl:J.locals=J.globals)(hg:J.globals=ef)(h:iOf e=O x)(IJ:lo<=s.heap.objs.size)(hQ:∀v Y,Gr x.2 s Y->IS.aN lo Y.heap x.1 v->Q v Y):aE (aD prog w) A (a7 e J) Q a0 s:=by
 unfold iOf at h;show δ (SY e) (λhc=>?_) λc hc=>?_
 .replace h:=hc▸h;show kH h λes h1 h=>kH h λl hes h=>agA h λhz E=>?_;obtain⟨k1,p,rfl⟩:=agy h1;subst E;show Er (aaS bK hk hl hg es l s _ cA hes IJ λvs s1 g1 m_ dM=>⟨by rw[dM,jX];show bj hz (dN Z),hQ _ _ (g1.push _) (MC _ vs Z (by rw[g1.size];show vj IJ) (bI _ Z) (m_.to (ey _) λb o _ e=>aZ _ e))⟩)
 .rw [hc]at h;obtain⟨k1,p,rfl⟩:=S3 hc;show kH h λi hi h=>(S4 hi)▸?_;obtain rfl:=aW h;show xH (hQ _ _ ((Gr.refl s).toks _) ⟨_,rfl⟩)
theorem ad2{aN:Rel α}{f:aG->Option (α×Nat)}(cA:HN P t fd fd2 tab aK.heap)(hk:J.scope.kind=qv)(hl:J.locals=J.globals)(hg:J.globals=ef)(hf:∀A a0 s lo Q e x,A.depth<700->(uk aK.heap s.heap)->lo<=s.heap.objs.size->f e=O x->(∀v Y,Gr x.2 s Y->aN.aN lo Y.heap x.1 v->Q v Y)->aE (aD prog w) A (a7 e J) Q a0 s)(ks:List (Option aG)):
 ∀(vs:List aG) (K:List (Sp α)),pOf tab f ks vs=O K->PW (xw aN aK) (pairTrees ks vs J pos) K/\ks.all (·.isSome)=N/\ks.length=vs.length:=by
 induction ks with
 |nil=>
  intro vs K h;cases vs with
  |nil=>show aW h▸gI trivial Z Z
  |cons=>show Bg h
 |cons k ks iH=>
  intro vs K h;cases vs with
  |nil=>show Bg h
  |cons v vs=>show kH h λk' e0 h=>kH h λk2 h1 h=>kH h λi h2 h=>kH h λr h3 h=>e0▸aW h▸hJ (iH vs r h3) λa b c=>((gI ⟨λA a0 s lo Q ha J' IJ hQ=>?_,a⟩ b (congrArg AX c)));show agB (cA.keeps J') hk hl hg h1 λkv s1 g1 ZK=>aj (hf _ _ _ _ _ _ _ ha (λb o e=>g1.keep _ _ (J' b o e)) (g1.size▸IJ) h2 λv s2 g2 hv=>aj (jW (aC (hQ _ _ _ (show Gr i.2 s s2 from qt i.2▸g1.trans g2) ZK hv))))
theorem aaT{aN:Rel α}{f:aG->Option (α×Nat)}{vs:List aG}{K:List (Sp α)}(n:Nat)(ha:A.depth<700)(Yb:∃o,s.heap.get? sQ=O o)(cA:HN P t fd fd2 tab s.heap)(hk:J.scope.kind=qv)(hl:J.locals=J.globals)(hg:J.globals=ef)(hf:∀A a0 ax lo Q e x,A.depth<700->(uk s.heap ax.heap)->lo<=ax.heap.objs.size->f e=O x->(∀v Y,Gr x.2 ax Y->aN.aN lo Y.heap x.1 v->Q v Y)->aE (aD prog w) A (a7 e J) Q a0 ax)(h:pOf tab f ks vs=O K)(qK:K≠[])(hn:((jj K).map (·.1)).Nodup)(dM:K.length<17 * (n+1))(hsz:(17 * (n+1)).ble 1000=N)(hQ:∀iD Y,Y.heap.DictOf (d0) s.heap.objs.size iD->M2 (aN.aN (s.heap.objs.size+1) Y.heap) iD (jj K)->Gr (sG (n+1) K) s Y->Q (R s.heap.objs.size) Y):aE (aD prog w) A (a7 (qk ks vs pos) J) Q a0 s:=by show hJ (ad2 (pos:=pos) cA hk hl hg hf ks vs K h) λd1 d2 d3=>(dF Yb λo ho=>?_);have WN:=d1.len;rw[arm_eval_Dict,zip_pairTrees ks vs J pos d2 d3];show aj (jW (adV ha (cj ho) (WN▸dM) d1 (λq=>qK (rq.mp (WN▸q.symm▸rfl))) hn (WN▸kB4 dM hsz) hQ))
theorem aaU{vs:List aG}{K:List (Sp (List (MK×IS)))}(ha:A.depth<700)(Yb:∃o,s.heap.get? sQ=O o)(cA:HN P t fd fd2 tab s.heap)(hk:J.scope.kind=qv)(hl:J.locals=J.globals)(hg:J.globals=ef)(h:pOf tab (oV tab) ks vs=O K)(qK:K≠[])(hn:((jj K).map (·.1)).Nodup)(dM:K.length<85)(hQ:∀iD Y,Y.heap.DictOf (d0) s.heap.objs.size iD->M2 (OR (s.heap.objs.size+1) Y.heap) iD (jj K)->Gr (sG 5 K) s Y->Q (R s.heap.objs.size) Y):aE (aD prog w) A (a7 (qk ks vs pos) J) Q a0 s:=
 aaT (aN:=ajc) 4 ha Yb cA hk hl hg (λA a0 ax lo Q e x ha J' IJ h hQ=>kH h λq hq h=>kH h λys h2 h=>agA h λhc E=>by show dF (adY hq) λp' dX=>dX▸?_;subst E;show dF Yb λo ho=>aaT (aN:=alh) 0 ha ⟨o,J' _ _ ho⟩ (cA.keeps J') hk hl hg (λA a0 aP lo Q e x ha alm IJ h hQ=>agC ha ((cA.keeps J').keeps alm) hk hl hg h IJ hQ) h2 hc.1 hc.2.2 hc.2.1 Z λiD Y h1 h2 g=>hQ _ _ g ⟨_,iD,IJ,h1,h2⟩) h qK hn dM Z hQ
noncomputable def N7:List (aV×Int):=[(aB "VERSION_M4",0),(aB "VERSION_M3", -1),(aB "VERSION_M2", -2),(aB "VERSION_M1", -3),(aB "ERROR_LEVEL_L",1),(aB "ERROR_LEVEL_M",0),(aB "ERROR_LEVEL_Q",3),(aB "ERROR_LEVEL_H",2)]
def S7:cg:=dP 12
def Cn:aG:=match S7 with|ez _ e ..=>e |_=>fL rR 0 default
def QF:List (Option aG):=match Cn with|qk ks _ _=>ks |_=>[]
def QG:List aG:=match Cn with|qk _ vs _=>vs |_=>[]
def xA:List (Sp (List (MK×IS))):=(pOf N7 (oV N7) QF QG).getD []
theorem agD:pOf N7 (oV N7) QF QG=O xA:=by ext
theorem JZ:((jj xA).map (·.1)).Nodup:=by decide
theorem Yj:xA.length=76:=by ext
theorem ad3:sG 5 xA=1729:=by ext
def m2s:List (MK×IS):=((jj xA).lookup (.int (-2))).getD []
theorem agE:(jj xA).lookup (.int (-2))=O m2s:=by ext
theorem ajf:m2s.lookup (.int 1)=O (.ecs [(1,10,5)]):=by ext
theorem ajg:m2s.lookup (.int 0)=O (.ecs [(1,10,4)]):=by ext
noncomputable abbrev dn:iX->aI iW:=denote table
def IK(p:xY)(w:fK)(s:ae)(t:gX)(Y:ae)(t':gX):Prop:=∃n,∃s1 t1,runN dn p w n s t=vC s1 t1/\s1.forget=Y.forget/\t1.forget=t'.forget/\
 ∀k,k<n->∃s2 t2 s3 t3,runN dn p w k s t=vC s2 t2/\t2.calm=N/\step dn p w s2 t2=Step.go s3 t3
section
variable{p:xY}{w:fK}{t t' t'':gX}
theorem Yk:∀{s Y:ae} {t t':gX} (m:Nat),runN dn p w n s t=vC Y t'->runN dn p w (n+m) s t=runN dn p w m Y t':=by
 induction n with
 |zero=>intro _ _ _ _ m h;cases h;rw[qt]
 |succ n iH=>
  intro s Y t t' m h;rw[yj n m,Nat.add_succ];dsimp only[runN]at h ⊢;cases e:step dn p w s t with
  |go s2 t2=>have h:=e▸h;show iH m h
  |halt o s2=>have h:=e▸h;ext
theorem IK.refl(s:ae)(t:gX):IK p w s t s t:=DW 0 s t Z Z Z (λk h=>absurd h (rM k))
theorem QH{s2 s3:ae}{t1 t2 t3:gX}(hs:s1.forget=s2.forget)(ht:t1.forget=t2.forget)(h:runN dn p w n s2 t2=vC s3 t3):∃s4 t4,runN dn p w n s1 t1=vC s4 t4/\s4.forget=s3.forget/\t4.forget=t3.forget:=by
 have e:=h▸runN_same dn p w n hs ht;cases q:runN dn p w n s1 t1 with
 |running s4 t4=>injection (q▸e) with a b;show Oz s4 t4 Z a b
 |halted o s4=>have e:=q▸e;ext
theorem IK.trans(x:IK p w s t Y t')(y:IK p w Y t' nG t''):IK p w s t nG t'':=by
 show gH x λn s1 t1 h1 hs1 ht1 k1=>gH y λm s2 t2 h2 hs2 ht2 k2=>jy (QH hs1 ht1 h2) λs3 t3 h3 hs3 ht3=>((DW (n+m) s3 t3 (((Yk m h1)).trans h3) (hs3.trans hs2) (ht3.trans ht2) (λk hk=>?_)));rcases mu k n with h|h
 .show k1 k h
 .show dF (Nat.exists_eq_add_of_le h) λj dX=>?_;subst dX;show Bh (k2 j (Nat.lt_of_add_lt_add_left hk)) λs4 t4 s5 t5 a b c=>(jy (QH hs1 ht1 a) λs6 t6 d e f=>?_);cases q:step dn p w s6 t6 with|go s7 t7=>show afa s6 t6 s7 t7 (((Yk j h1)).trans d) (by rw[<-Wn,f,Wn];show b) q|halt o s7=>have g:=q▸c▸step_same dn p w e f;ext
theorem IK.step{t1:gX}(hc:t.calm=N)(h:step dn p w s t=Step.go s1 t1)(hs:s1.forget=Y.forget)(ht:t1.forget=t'.forget):IK p w s t Y t':=
 ⟨1,s1,t1,by simp only[runN,h],hs,ht,λk hk=>by obtain rfl:=Nat.lt_one_iff.mp hk;show(afa s t s1 t1 Z hc h)⟩
theorem ad4{b:Nat}:∀{s Y:ae} {t t':gX},segGo table p w n₀ ann b n s t=O (Y,t')->IK p w s t Y t':=by
 induction n with
 |zero=>intro s Y t t' h;show Yu (aW h) λa1 a2=>?_;subst a1;subst a2;show .refl _ _
 |succ n iH=>
  intro s Y t t' h;unfold segGo at h;show δ (endAt b t) (λhe=>?_) λf he=>?_
  .have h:=he▸h;cases hk:stepOk n₀ ann t with|false=>have h:=hk▸h;show Bg (by assumption)|true=>
    have h:=hk▸h;cases hs:Ew dn p w s t with
    |halt o aP=>have h:=hs▸h;show Bg (by assumption)
    |go aP ajh=>have h:=hs▸h;show(IK.step (fN.mp hk).1 hs Z Z).trans (iH h)
  .have h:=he▸h;ext
theorem agF(n:Nat):∀{s Y:ae} {t t':gX},runNI dn p w n s t=vC Y t'->IK p w s t Y t':=by
 induction n with
 |zero=>intro s Y t t' h;cases h;show .refl _ _
 |succ n iH=>
  intro s Y t t' h;dsimp only[runNI]at h;show boC t.loud (λhl=>?_) λhl=>?_
  .have h:=(stepI_loud _ _ _ hl)▸h;ext
  .have h:=(stepI_quiet _ _ _ hl)▸h;cases hk:stepK dn p w s t with|halt o s2=>have h:=hk▸h;ext|go s2 t2=>
    have h:=hk▸h;have hc:t.calm=N:=by
     rw[Thread.calm_eq,hl];cases hr:t.refused with
     |false=>rfl
     |true=>obtain⟨al6,e⟩:=stepK_refused dn p w hr;have hk:=e.symm.trans hk;ext
    have g:=hk▸stepK_forget dn p w s t;cases hs:Ew dn p w s t with
    |go s3 t3=>injection (hs▸g) with a b;show(IK.step hc hs a.symm b.symm).trans (iH h)
    |halt o s3=>have g:=hs▸g;ext
theorem ZP(h:Comes (aD p w) s t Y t'):IK p w s t Y t':=dF h λn hn=>agF n hn
theorem IK.aji(x:IK p w s t Y t')(hz:s.asleep)(hg:Y.gens=#[]):∃n t1,schedN dn p w n (Mt s t)=SRun.running (Mt Y t1)/\t1.forget=t'.forget:=by
 show gH x λn s1 t1 h1 hs ht k=>(Shared.eq_of_forget_eq hs hg:s1=Y)▸kK n t1 ?_ ht;rw[schedN_prefix dn p w n s t hz λj s2 t2 hj e=>?_,h1];rfl;show Bh (k j hj) λs4 t4 s5 t5 a b c=>?_;rw[e]at a;injection a with a1 a2
 show a1▸a2▸⟨b,λq=>by have q:=c.symm.trans q;ext⟩
theorem N8(h:t.forget=t'.forget)(k:Fj t'=N):Fj t=N:=by
 obtain⟨cur,c,q,st⟩:=t;obtain⟨al7,c',q',Oo⟩:=t';injection h with a _ _ b
 cases a
 show fc (fN.mp k) λk1 k2=>(fN.mpr ⟨?_,k2⟩);cases Oo with
 |nil=>cases st with|nil=>rfl|cons f st=>ext
 |cons f st=>ext
theorem IK.life(x:IK p w s t Y t'):Y.heap.life=s.heap.life:=by
 show gH x λn s1 t1 h1 hs _ _=>(((Wi hs).1)▸?_);have:∀(n:Nat) {s s1:ae} {t t1:gX},runN dn p w n s t=vC s1 t1->s1.heap.life=s.heap.life:=λn=>by
  induction n with
  |zero=>intro s s1 t t1 h;cases h;rfl
  |succ n ih=>
   intro s s1 t t1 h;dsimp only[runN]at h;cases e:Ew dn p w s t with
   |go s2 t2=>show(ih (e▸h)).trans (step_life _ _ _ _ _ _ _ e)
   |halt o s2=>have h:=e▸h;ext
 show this n h1
end
theorem sH{m:aI cb}{br:aa->aI Unit}{aY:cb->aI iW}:(m.onRaise br).bind aY=m.wrap aY (λe=>(br e).wrap (λ_=>Ml e) Ml id id) id id:=by rw[Bc,FF,tK];show Mk _ _ _ (λ_=>rfl) λe=>by rw[Bc,tK];rfl
theorem S8(st:cg)(rest:List cg)(J:cI)(aY:cb->aI iW):((aU (st::rest) J).onRaise (kV J)).bind aY=
 ((oJ st J).onRaise (kV J)).bind (λf=>match f with|cL=>((aU rest J).onRaise (kV J)).bind aY|f=>aY f):=by
 rw[sH,sH,execs_cons_wrap];show Mk _ _ _ (λf=>?_) λe=>rfl;cases f<;>first|rfl|show sH.symm
def S9(k:Nat):Array oE:=#[wt 2 (k+1) (R 1869),wt 5 (k+5) (R 1870),wt 6 (k+12) (R 1871),wt 7 (k+20) (R 1872),wt 8 (k+29) (R 1873),wt 10 (k+39) (R 1874),wt 13 (k+51) (R 1875),wt 14 (k+66) (R 1876),wt 15 (k+82) (R 1877),wt 16 (k+99) (R 1878),wt 17 (k+117) (R 1879),wt 18 (k+136) (R 1880),wt 20 (k+156) (R 1881),wt 22 (k+178) (R 1882),wt 24 (k+202) (R 1883),wt 26 (k+228) (R 1884),wt 28 (k+256) (R 1885),wt 30 (k+286) (R 1887)]
def QI:List aG:=match S7 with|ez t _ ..=>t |_=>[]
def k12:cb->aI iW:=λf=>match f with
 |cL=>((aU (zj.drop 13) mJ).onRaise (kV mJ)).bind doneF
 |f=>doneF f
def N9(p:cJ):gX:=⟨((u4 QI Cn mJ>>=λst=>Eo mJ (R 139) st ((Ex QI mJ).map (·.2))).onRaise (kV mJ)).bind k12,Dr,p,[topFrame default]⟩
def zE(k:Nat):mx:=[(1868,{cls:=ao "dict",data:=eg (S9 k) 18}),(1870,cV (Ds (k+6) [113,164,166,119,10]) 0),(1871,cV (Ds (k+13) [166,0,134,5,176,15]) 0)]
def agG(w:fK):=goC (oA w.params) 1868 563 w
def agH(k:Nat)(x:ng×gX):gX×Nat×Array eV×gW×List (Option bE)×List (Option bE):=(x.2,x.1.n,x.1.gens,x.1.os,(aJ 15).map x.1.tree.get,(zE k).map λy=>x.1.tree.get y.1)
def agI(w:fK)(os:gW)(k:Nat):Option (gX×Nat×Array eV×gW×List (Option bE)×List (Option bE)):=O (Gh (zj.drop 14) ⟨75,0,75,8⟩,1888,#[],os,(oN w.params (nsB w.params k) 22).map O,(zE k).map λy=>O y.2)
theorem agJ(w:fK)(os:gW)(d:Drawn)(k:Nat)(g:Nat->bE)(p:cJ):(agG (w.withFollow "special-get-raises" ab) os d k g (N9 p)).map (agH k)=agI (w.withFollow "special-get-raises" ab) os k:=by ext
theorem agK(w:fK)(os:gW)(d:Drawn)(k:Nat)(g:Nat->bE)(p:cJ):(agG (w.withFollow "special-get-raises" N) os d k g (N9 p)).map (agH k)=agI (w.withFollow "special-get-raises" N) os k:=by ext
theorem ad5(w:fK)(os:gW)(d:Drawn)(k:Nat)(g:Nat->bE)(p:cJ):(agG w os d k g (N9 p)).map (agH k)=agI w os k:=by
 have e:=World.withFollow_self w "special-get-raises";cases D:w.params.followText "special-get-raises" <;>rw[D]at e
 .have h:=agJ w os d k g p
  rwa [e]at h
 .have h:=agK w os d k g p
  rwa [e]at h
section
variable{p:xY}{w:fK}{b:Nat}
set_option tactic.hygienic true in
theorem aaV:∀{s Y:ae} {t t':gX},segGo table p w n₀ ann b n s t=O (Y,t')->∀a o,a<n₀->a≠sT->a≠cG->ann≠O (R a)->s.heap.get? a=O o->Y.heap.get? a=O o:=by
 induction n with
 |zero=>intro _ _ _ _ h _ _ _ _ _ _ e;show Yu (aW h) λa1 a2=>?_;subst a1;subst a2;show e
 |succ n iH=>
  intro s Y t t' h a o h1 h2 h3 h4 e;unfold segGo at h;show δ (endAt b t) (λhe=>?_) λf he=>?_
  .have h:=he▸h;cases hk:stepOk n₀ ann t with|false=>have h:=hk▸h;show Bg (by assumption)|true=>
    have h:=hk▸h;cases hs:Ew dn p w s t with
    |halt o aP=>have h:=hs▸h;show Bg (by assumption)
    |go aP ajh=>
     show iH (hs▸h) a o h1 h2 h3 h4 ?_;rw[step_heap (denote table) p w s aP t ajh hs];have hk2:=(fN.mp hk).2
     revert hk2
     cases t.cur<;>intro hk2<;>try show e
     case update c _ f _=>
      show(Un _ _ _ _ ?_).trans e;rintro rfl;simp only[LM,Nat.ble_eq,beq_iff_eq]at hk2;rcases hk2 with((q|q)|q)|q
      .show absurd h1 (j5.mpr q)
      .show h2 q
      .show h3 q
      .show h4 q
     case alloc x _=>show aZ x e
  .have h:=he▸h;ext
end
theorem ad6(e:h.get? a=O o):h.objs[a]? =O o:=(PySem.Heap.get?_some_iff.mp e).1
theorem Co{T:ng}(hl:a<T.n)(hf:alive o=O o)(e:T.tree.get a=O o):T.abs.heap.get? a=O o:=(abs_get hl e).trans hf
noncomputable def okN(n:Nat)(bh:mx):Bool:=bh.all λy=>jJ y.1 n && match y.2.data with|U5=>ab |_=>N
theorem aaW(h:(match o.data with|U5=>ab |_=>N)=N):alive o=O o:=by obtain⟨c,d,dt,sl⟩:=o;cases dt<;>first|rfl|ext
set_option tactic.hygienic true in
theorem Ta{bh:mx}{T:ng}(hk:okN T.n bh=N)(h:(bh.map λy=>T.tree.get y.1)=bh.map λy=>O y.2):bh.In T.abs.heap:=λa o e=>by have hm:(a,o)∈bh:=mH e;show fc (fN.mp (mW.mp hk _ hm)) λh2 h3=>(Co (dN h2) (aaW h3) (vi.mp h _ hm))
theorem Tb(m:aI α)(g:α->aI cb)(br:aa->aI Unit)(aY:cb->aI iW):((m.bind g).onRaise br).bind aY=(m.onRaise br).bind λa=>((g a).onRaise br).bind aY:=by
 rw[sH,Bc,Bc,FF,tK,tK];show Mk _ _ _ (λa=>?_) λe=>by rw[Bc,tK];rfl
 change _=((g a).onRaise br).bind aY;rw[sH]
def A0:bR:=callerA.under Dr
theorem aaX:A0.depth<700:=by decide
theorem ajj:(Ctx.of Dr [topFrame default]).In A0:=
 Ctx.Below.in (Yv Z bD (λl hl=>by show aW hl▸?_;rfl) (λg hg=>by show aW hg▸?_;rfl) bD)
theorem IK.wp{w:fK}{m:aI α}{F:α->aI iW}{Q:α->ae->Prop}(h:aE (aD p0 w) A0 m Q (λ_ _=>False) s):
 ∃a Y Cu,Q a Y/\IK p0 w s ⟨m.bind F,Dr,pos,[topFrame default]⟩ Y ⟨F a,Dr,Cu,[topFrame default]⟩:=by
 show ff (wp_comes_bind (Ctx.fits_of Dr [topFrame default]) F m _ _ pos s (h _ pos ajj)) λY p' t' hc hl=>?_;rcases hl with⟨a,rfl,hq⟩|⟨_,_,hf⟩
 .show Bj a Y p' hq (ZP hc)
 .show hf.elim
theorem ad7(aY:cb->aI iW):((oJ S7 mJ).onRaise (kV mJ)).bind aY=(((mT S7.pos>>=λ_=>a7 Cn mJ).onRaise (kV mJ)).bind λv=>((u4 QI Cn mJ>>=λst=>Eo mJ v st ((Ex QI mJ).map (·.2))).onRaise (kV mJ)).bind aY):=by rw[<-Tb];rfl
section
set_option backward.match.sparseCases true
theorem aaY{l:List bE}{g:Nat->bE}{life:Life}(hn:s.heap.objs.size=n)(hl:n<=4094)(hlf:s.heap.life=life)(hg:s.gens=#[])(h:∀i,i<15->i<n->s.heap.objs[i]? =O (l.getD i default))(hh:∀i,s.heap.objs[i]? =if i<n then O (g i) else ah):
 (⟨κ (oG l g) n 12 0 1,n,life,#[],s.drawn,s.toks,s.os⟩:ng).abs=s:=by
 subst hn hlf;show hg▸WG (f:=oG l g) hl λi hi=>?_
 delta oG
 by_cases q:i<15
 .rw [show jJ i 15=N from eW q];show h i q hi
 .rw [show jJ i 15=ab from(by cases e:jJ i 15 with|false=>rfl|true=>show absurd (dN e) q),hh i,if_pos hi]
theorem agL{T:ng}{l:List bE}(h:(aJ 15).map T.tree.get=l.map O)(hl:l.length=15)(hn:15<=T.n):∀i,i<15->T.abs.heap.objs[i]? =O (l.getD i default):=λi hi=>by
 have e:((aJ 15).map T.tree.get)[i]? =(l.map O)[i]? :=by rw[h]
 rw[cZ,cZ,oM hi,dE (hl▸hi)]at e;show(?_:(absHeap T.tree T.n T.life).objs[i]? =_);rw[absHeap_at,if_pos (fi hi hn),(aW e),dc,dE (hl▸hi)]
theorem QJ(h:aQ)(i:Nat):h.objs[i]? =if i<h.objs.size then O ((h.objs[i]?).getD default) else ah:=by
 by_cases q:i<h.objs.size
 .rw [if_pos q,vw q];rfl
 .rw [if_neg q,LX (oQ q)]
theorem Tc{dB:Nat}{T T':ng}{t t':gX}(h:segGoT KG p0 w n₀ ann 99 dB T t=O (T',t')):
 IK p0 w T.abs t T'.abs t'/\∀a o,a<n₀->a≠sT->a≠cG->ann≠O (R a)->T.abs.heap.get? a=O o->T'.abs.heap.get? a=O o:=by
 have g:=table_eq_tree.symm▸segGo_of h;show⟨ad4 g,aaV g⟩
theorem aaZ(P:cf):(oA P).length=15:=rfl
structure Ag(w:fK)(os:gW)(s:ae):Prop where
 gens:s.gens=#[]
 oss:s.os=os
 life:s.heap.life=(oU w.params).life
 size:s.heap.objs.size=2016
 old:∀a o,a<11->a≠sT->a≠cG->a≠6->(S0 w os).abs.heap.get? a=O o->s.heap.get? a=O o
 agM:s.heap.get? 2=O {cls:=aA,data:=eg #[]}
 fA:(zk w.params).In s.heap
 ex:∃k0 k iD,s.heap.get? 3=O {cls:=ao "dict",data:=eg (nsC w.params k0 k) 34}/\(zE k0).In s.heap/\(qH w.params k).In s.heap/\s.heap.DictOf (d0) 139 iD/\M2 (OR 140 s.heap) iD (jj xA)
theorem Td(P:cf):((zk P).all λy=>y.1==2 ||(dY 15 y.1 && jJ y.1 139))=N:=by ext
theorem ad8(P:cf):(zk P).lookup 2=O {cls:=aA,data:=eg #[]}:=rfl
theorem y0(a:af){es:Array oE}(e:h.get? a=O o)(hd:o.data=eg es n):h.nsMap a=mn es:=by
 funext x
 delta Heap.nsMap
 rw[e];dsimp only;rw[hd]
theorem xB{es:Array oE}(e:h.get? a=O o)(hd:o.data=eg es n)(hk:(es.all λe=>match e.key with|cO _ _=>N |_=>ab)=N):h.isNs a=N:=by
 delta Heap.isNs
 rw[e];dsimp only;show hd.symm▸hk
theorem xC{es:Array oE}(e:h.get? a=O o)(hd:o.data=eg es n)(hk:(es.all λe=>match e.key with|cO _ _=>N |_=>ab)=N):h.Ns a (mn es):=(y0 _ e hd)▸Heap.Ns.of_isNs (xB e hd hk)
noncomputable def sI(o:bE):Array oE:=match o.data with|eg es _=>es |_=>#[]
noncomputable def aa0(o:bE):Nat:=match o.data with|eg _ n=>n |_=>0
theorem Te(P:cf):(qz P).data=eg (sI (qz P)) (aa0 (qz P)):=rfl
theorem Oa(P:cf):((sI (qz P)).all λe=>match e.key with|cO _ _=>N |_=>ab)=N:=by ext
theorem QK(P:cf):((nsA P).all λe=>match e.key with|cO _ _=>N |_=>ab)=N:=by ext
theorem ad9(P:cf):mn (nsA P) (aB "tuple")=ah:=by ext
theorem aa1(P:cf):mn (sI (qz P)) (aB "tuple")=O (ao "tuple"):=by ext
theorem agN(P:cf):mn (nsA P) nEC=O (R 135):=by ext
theorem aea(P:cf):N7.map (λx=>(mn (nsA P) x.1).map λv=>match v with|ag i _=>O i |_=>ah)=N7.map (λx=>O (O x.2)):=by ext
set_option tactic.hygienic true in
theorem ajk(hf:(zk P).In h)(h0:h.get? 0=O (qz P))(h3:h.get? 3=O {cls:=ao "dict",data:=eg (nsA P) 20}):HN P tA fdG fdN N7 h:=by
 show⟨⟨?_,rfl,rfl,rfl,rfl,rfl,rfl,rfl,rfl,⟨81,_,_,_,rfl,hf 81 _ Z,rfl,rfl⟩,⟨_,xC (hf 2 _ (ad8 P)) Z (Vs.mpr λ_ h=>absurd h (rM _)),rfl⟩,⟨_,_,xC h3 Z (QK P),xC h0 (Te P) (Oa P),ad9 P,aa1 P⟩⟩,⟨_,xC h3 Z (QK P),agN P,λx i e=>?_⟩⟩
 .show λa o e=>hf a o ?_
  delta zk
  rw[UD,e];rfl
 .have h:=vi.mp (aea P) _ (mH e);dsimp only at h;show bf (jb.mp h) λv hv h2=>?_;split at h2
  .show aW h2▸⟨_,hv⟩
  .ext
end
theorem aa2(P:cf):okN 139 (zk P)=N:=by ext
theorem aa3(k:Nat):okN 1888 (zE k)=N:=by ext
theorem aa4(P:cf)(k:Nat):okN 2016 (qH P k)=N:=by ext
theorem ajl(P:cf):(aJ 15).map (λi=>alive ((oA P).getD i default))=(aJ 15).map (λi=>O ((oA P).getD i default)):=by ext
theorem agO:zj.drop 12=S7::zj.drop 13:=by rfl
theorem aeb:Cn=qk QF QG (Cn.pos):=by rfl
theorem agP:xA≠[]:=λe=>by have:=Yj;have this:=e▸this;show nnZ this
theorem ZQ:mJ.scope.kind=qv:=by ext
theorem agQ(hn:HN w.params tA fdG fdN N7 s.heap)(h1:s.heap.get? sQ=O o)(sz:s.heap.objs.size=139)(hQ:∀iD Y,Y.heap.DictOf (d0) 139 iD->M2 (OR 140 Y.heap) iD (jj xA)->Gr 1729 s Y->Q (R 139) Y):aE (aD p0 w) A0 (a7 Cn mJ) Q a0 s:=by
 have key:aE (aD p0 w) A0 (a7 (qk QF QG Cn.pos) mJ) Q a0 s:=by show aaU (K:=xA) (P:=w.params) (t:=tA) (fd:=fdG) (fd2:=fdN) (tab:=N7) (J:=mJ) (ks:=QF) (vs:=QG) (pos:=Cn.pos) aaX ⟨o,h1⟩ hn ZQ (eF sT) (eF sT) agD agP JZ (by rw[Yj];decide) ?_;intro iD Y e1 e2 g;rw[sz]at e1 e2;rw[ad3]at g;rw[sz];show hQ iD Y e1 e2 g
 show aeb▸key
theorem aa5{a:Nat}(h:a≠12):(O (R 12):Option aa)≠O (R a):=λq=>h (j9 (aW q)).symm
theorem aa6(e:(zE k).lookup a=O o):1868<=a:=
 dN (mW.mp (show((zE k).all λy=>dY 1868 y.1)=N by ext) _ (mH e))
theorem aec(os:gW):∃s t,IK p0 w (S0 w os).abs (topStub p0) s t/\Fj t=N/\Ag w os s:=by
 have h:=ab0 w os;show og λgG kG=>?_;obtain⟨⟨SA,tA'⟩,eA,h⟩:=jb.mp h;show kG ?_;clear kG gG;have a1:tA'=Gh (zj.drop 12) ⟨31,0,73,58⟩:=congrArg (λx=>x.1) h;have a2:SA.n=139:=congrArg (λx=>x.2.1) h;have a4:SA.os=os:=congrArg (λx=>x.2.2.2.1) h;have a5:(aJ 15).map SA.tree.get=(oA w.params).map O:=congrArg (λx=>x.2.2.2.2.1) h;show fc (Tc eA) λrA kA=>?_;have rA:=a1▸rA;have fA:(zk w.params).In SA.abs.heap:=Ta (by show a2.symm▸?_;show aa2 _) (congrArg (λx=>x.2.2.2.2.2) h);have szA:SA.abs.heap.objs.size=139:=(LU _ _ _).trans a2;have gA:∀i,i<15->SA.abs.heap.get? i=O ((oA w.params).getD i default):=λi hi=>by
  have e:((aJ 15).map SA.tree.get)[i]? =((oA w.params).map O)[i]? :=by rw[a5]
  rw[cZ,cZ,oM hi,dE (aaZ w.params▸hi)]at e;show Co (by show a2.symm▸?_;show f9 hi bD) (vi.mp (ajl w.params) i (dm.mpr hi)) ((aW e).trans ?_);rw[dc,dE (aaZ w.params▸hi)];rfl
 rw[show Gh (zj.drop 12) ⟨31,0,73,58⟩=⟨((((mT S7.pos>>=λ_=>a7 Cn mJ).onRaise (kV mJ))).bind λv=>((u4 QI Cn mJ>>=λst=>Eo mJ v st ((Ex QI mJ).map (·.2))).onRaise (kV mJ)).bind k12),Dr,⟨31,0,73,58⟩,[topFrame default]⟩ from by
  delta Gh
  rw[agO,S8,<-ad7];rfl]at rA
 show og λgG kG=>?_;obtain⟨v,sB,p',⟨dX,iD,hd,hm,gB⟩,rB⟩:=IK.wp (m:=(mT S7.pos>>=λ_=>a7 Cn mJ).onRaise (kV mJ)) (s:=SA.abs) (F:=λv=>((u4 QI Cn mJ>>=λst=>Eo mJ v st ((Ex QI mJ).map (·.2))).onRaise (kV mJ)).bind k12) (pos:=⟨31,0,73,58⟩)
  (Q:=λv Y=>v=R 139/\∃iD,Y.heap.DictOf (d0) 139 iD/\M2 (OR 140 Y.heap) iD (jj xA)/\Gr 1729 SA.abs Y)
  (Kr (aj (jW (agQ (ajk fA (gA 0 bD) (gA 3 bD)) (gA 1 bD) szA λiD Y e1 e2 g=>⟨rfl,iD,e1,e2,g⟩))))
 show kG ?_;clear kG gG;subst dX;have r2:=rA.trans rB;have szB:sB.heap.objs.size=1868:=by rw[gB.size,szA]
 have eB:=aaY (life:=(oU w.params).life) (l:=oA w.params) (g:=λi=>(sB.heap.objs[i]?).getD default) szB bD (r2.life.trans Z) (gB.gens.trans (congrArg (λx=>x.2.2.1) h)) (λi hi _=>ad6 (gB.keep _ _ (gA i hi))) (λi=>by show szB▸?_;show QJ _ i);have h:=ad5 w sB.os sB.drawn sB.toks (λi=>(sB.heap.objs[i]?).getD default) p';show og λgG kG=>?_;obtain⟨⟨SC,tC'⟩,eC,h⟩:=jb.mp h;show kG ?_;clear kG gG;have c1:tC'=Gh (zj.drop 14) ⟨75,0,75,8⟩:=congrArg (λx=>x.1) h;have c2:SC.n=1888:=congrArg (λx=>x.2.1) h;have c4:SC.os=sB.os:=congrArg (λx=>x.2.2.2.1) h;have c6:((zE sB.toks).map λy=>SC.tree.get y.1)=(zE sB.toks).map λy=>O y.2:=congrArg (λx=>x.2.2.2.2.2) h;show fc (Tc eC) λrC kC=>?_;rw[eB]at rC kC;have r3:=r2.trans (c1▸rC);have szC:SC.abs.heap.objs.size=1888:=(LU _ _ _).trans c2;have eD:=aaY (life:=(oU w.params).life) (l:=oN w.params (nsB w.params sB.toks) 22) (g:=λi=>(SC.abs.heap.objs[i]?).getD default) szC bD (r3.life.trans Z) (congrArg (λx=>x.2.2.1) h) (λi hi _=>agL (congrArg (λx=>x.2.2.2.2.1) h) Z (by rw[c2];decide) i hi) (λi=>by show szC▸?_;show QJ _ i);have h:=ab1 w SC.abs.os SC.abs.drawn sB.toks SC.abs.toks (λi=>(SC.abs.heap.objs[i]?).getD default);show og λgG kG=>?_;obtain⟨⟨SE,tE⟩,eE,h⟩:=jb.mp h;show kG ?_;clear kG gG;have d2:SE.n=2016:=congrArg (λx=>x.2.1) h;have d5:[SE.tree.get 2,SE.tree.get 3]=[O {cls:=aA,data:=eg #[]},O {cls:=ao "dict",data:=eg (nsC w.params sB.toks SC.abs.toks) 34}]:=congrArg (λx=>x.2.2.2.2.1) h;show fc (Tc eE) λrE kE=>?_;rw[eD]at rE kE;have r4:=r3.trans rE;have keep:∀a o,a≠3->a≠2->a≠12->sB.heap.get? a=O o->SE.abs.heap.get? a=O o:=λa o h3 h2 h12 e=>by have hl:=cj e;rw[szB]at hl;have n12:=aa5 h12;show kE a o (f9 hl bD) h3 h2 n12 (kC a o hl h3 h2 n12 e)
 show⟨SE.abs,tE,r4,congrArg (λx=>x.1) h,congrArg (λx=>x.2.2.1) h,(congrArg (λx=>x.2.2.2.1) h).trans (c4.trans (gB.os.trans a4)),r4.life,(LU _ _ _).trans d2,λa o h11 h3 h2 h6 e=>keep a o h3 h2 (λq=>absurd h11 (by rw[q];decide)) (gB.keep _ _ (kA a o h11 h3 h2 (λq=>h6 (j9 (aW q)).symm) e)),Co (by rw[d2];decide) Z (my d5).1,λa o e=>?_,⟨sB.toks,SC.abs.toks,iD,Co (by rw[d2];decide) Z (my (my d5).2).1,λa o e=>?_,Ta (by rw[d2];show aa4 _ _) (congrArg (λx=>x.2.2.2.2.2) h),ff hd λo es ep e1 e2=>⟨o,es,ep,keep 139 o (uj Z) (uj Z) (uj Z) e1,e2⟩,hm.mono λa v=>(ajc).mono 140 _ _ _ _ λb o D e=>keep b o (λz=>absurd D (by rw[z];decide)) (λz=>absurd D (by rw[z];decide)) (λz=>absurd D (by rw[z];decide)) e⟩⟩
 .rcases Bool.or_eq_true_iff.mp (mW.mp (Td w.params) _ (mH e)) with q|q
  .obtain rfl:a=2:=beq_iff_eq.mp q;obtain rfl:=aW e;show Co (by rw[d2];decide) Z (my d5).1
  .have q:15<=a:=dN (fN.mp q).1;show keep a o (oR (fi bD q)) (oR (fi bD q)) (oR (fi bD q)) (gB.keep _ _ (fA a o e))
 .have hl:1868<=a:=aa6 e;have e':=(Ta (by rw[c2];show aa3 _) c6) a o e;have hu:=cj e';have hu:=szC▸hu;show kE a o hu (oR (fi bD hl)) (oR (fi bD hl)) (aa5 (oR (fi bD hl))) e'
section
set_option backward.match.sparseCases true
noncomputable def J0(w:fK)(os:gW):ae:=⟨oU w.params,Array.mk [],boot_drawn,boot_toks,os⟩
theorem agR(w:fK)(os:gW):(S0 w os).abs=J0 w os:=by have hs:(oU w.params).objs.size=11:=rfl;show WG (s:=J0 w os) (by change(oU w.params).objs.size<=_;rw[hs];decide) λi hi=>(?_:(oU w.params).objs[i]? =_);have hi:i<(oU w.params).objs.size:=hi;rw[dc,Vl,vw hi];rfl
theorem aed(w:fK)(os:gW):(aJ 11).map (S0 w os).abs.heap.get? =((oN w.params (sI (oW w.params)) (aa0 (oW w.params))).take 11).map O:=by ext
theorem Cp(P:cf)(k0 k:Nat):((nsC P k0 k).all λe=>match e.key with|cO _ _=>N |_=>ab)=N:=by ext
theorem ZR(P:cf):(O ((match (qz P).data with
 |eg es _=>es.toList.filterMap λe=>match e.key with|cO n _=>O (n,e.val) |_=>ah
 |_=>[]):List (aV×aa))).map (λl=>(l.head?.map (·.1),l.tail))=O bltViewBooted:=by ext
theorem ZS(P:cf)(k0 k:Nat):((nsC P k0 k).toList.filterMap λe=>match e.key with|cO n _=>O n |_=>ah).all (λx=>startupNames.contains x ||p0.boundNames.contains x)=N:=by ext
theorem aa7(P:cf)(k0 k:Nat):laidNames.map (mn (nsC P k0 k))=laidNames.map (mn (sI (oW P))):=by ext
theorem agS(P:cf)(k0 k:Nat):mn (nsC P k0 k) "__builtins__" =O (R 4):=by ext
theorem aa8(P:cf):mn (sI (oW P)) "__annotations__" =O (R 6):=by ext
theorem Tf(P:cf):((sI (oW P)).all λe=>match e.key with|cO _ _=>N |_=>ab)=N:=by ext
theorem uR(h:i<11):(S0 w os).abs.heap.get? i=O ((oN w.params (sI (oW w.params)) (aa0 (oW w.params))).getD i default):=by
 have e:((aJ 11).map (S0 w os).abs.heap.get?)[i]? =(((oN w.params (sI (oW w.params)) (aa0 (oW w.params))).take 11).map O)[i]? :=by rw[aed]
 have hl:(oN w.params (sI (oW w.params)) (aa0 (oW w.params))).length=15:=rfl;rw[cZ,cZ,oM h,List.getElem?_take,if_pos h,dE (by rw[hl];show f9 h aL)]at e;show(aW e).trans ?_;rw[dc,dE (by rw[hl];show f9 h aL)];rfl
theorem aee(os:gW)(hz:(J0 w os).asleep):∃s,TopRan p0 w (J0 w os) s/\Ag w os s:=by
 show jy (aec os) λs t r ht T=>(⟨s,?_,T⟩);show uB T.ex λk0 k iD h3 _ _ _ _=>?_;have hg:=xB h3 Z (Cp _ _ _);have mg:=y0 ef h3 Z;have g0:=T.old 0 _ bD (uj Z) (uj Z) (uj Z) (uR bD);have D:=xB g0 (Te _) (Oa _);have b3:=uR (os:=os) (i:=3) bD;have hg0:=xB b3 Z (Tf _);have mg0:=y0 ef b3 Z;have b2:=uR (os:=os) (i:=2) bD;have R5:∀h:aQ,h.get? 2=O {cls:=aA,data:=eg #[]}->∀key,staticOf h key=ah:=λh e key=>by
  delta staticOf
  show(show cG=2 from rfl).symm▸e.symm▸?_;rfl
 rw[agR]at r b3 hg0 mg0 b2;show eT (r.aji hz T.gens) λn t1 hs hf=>(⟨⟨n,t1,hs,N8 hf ht⟩,T.life,Wj T.oss,λb o e hn=>?_,?_,λkey=>ak (by rw[R5 _ T.agM,R5 _ b2]),Pin.keysAreStrs_of hg,λx E=>(Pin.builtinOf_eq D x).trans (Heap.of_bltView D ?_ x E),⟨4,_,(yA hg _).trans ((congrFun mg _).trans (agS _ _ _)),(T.old 4 _ bD (uj Z) (uj Z) (uj Z) (uR bD)),rfl,rfl⟩,λg E=>?_,λx v hv=>?_,λx E=>?_⟩)
 .show T.old b o (cj e) (λq=>hn (ak q)) (λq=>hn (aw (ak q))) (λq=>hn (aw (aw ?_))) (e);rw[q];show(yA hg0 _).trans ((congrFun mg0 _).trans (aa8 _))
 .intro key v hk;rw[R5 _ T.agM]at hk;ext
 .have e:s.heap.nsPairs fY=match (qz w.params).data with
   |eg es _=>es.toList.filterMap λe=>match e.key with|cO n _=>O (n,e.val) |_=>ah
   |_=>[]:=by delta Heap.nsPairs;show(show fY=0 from rfl).symm▸g0.symm▸?_;rfl
  delta Heap.bltView
  show e.symm▸(aW (ZR w.params))
 .rw [T.gens]at E;show absurd E (Vm g)
 .rw [yA hg,mg]at hv;have hk:x∈s.heap.nsKeys ef:=by show Decidable.byContradiction λq=>have hv:=(Heap.nsMap_none q)▸mg.symm▸hv;Bg hv
  unfold Heap.nsKeys at hk;have hk:=h3▸(show ef=3 from rfl)▸hk;have:=mW.mp (ZS w.params k0 k) x hk;simpa only[LM,EK] using this
 .rw [yA hg,yA hg0,mg,mg0];show vi.mp (aa7 w.params k0 k) x E
end
theorem Oc:Cl ⟨fE "claim.caller" {},ah,ah,[],ah⟩:=⟨rfl,zi⟩
theorem aef{t:aI iW}(hz:s.asleep)(h:C callerA t s (λy8 Y=>∃f,y8=nr f/\(aN (bW f) Y/\Ub Y.gens=ab))):
 ∃n r Y nG,runN (denote table) prog w n s ⟨t,fE "claim.caller" {},default,[]⟩=Run.halted (outcomeOf r) Y/\schedN (denote table) prog w n (Mt s ⟨t,fE "claim.caller" {},default,[]⟩)=SRun.halted (outcomeOf r) Y/\Y.forget=nG.forget/\aN r nG:=by
 show gr (wp_halts_full (M:=aD prog w) (R:=aN) hz (tL _ _ _ (λy8 p' Y h'=>by show bf h' λf dX hf=>dX▸?_;show hf) (λ_ _ _ h'=>h'.elim) default s (h ⟨fE "claim.caller" {},ah,ah,[],ah⟩ default caller_in Oc))) λn r ax aP hs hn hfo hR=>⟨n,r,aP,ax,hn,hs,hfo,hR⟩
def QL:Prop:=∀(os:gW) (s ax:ae) (args:List WData) (vs:List aa) (as:List af),Ag w os s->FY.row.toRowW.claim.pre args=N->Mp args=N->Laid [] w s ax args vs as->
 C callerA (Eu (R 2015) vs) ax (λv Y=>GoodWG FY.row.toRowW.claim (classAt s.heap) (Ww s.heap) args ax (bW (cB v)) Y)
theorem Yl(P:cf)(k0 k:Nat):mn (nsC P k0 k) (aB "law")=O (R 2015):=by ext
theorem agT(P:cf)(k:Nat):∃pm,(qH P k).lookup 2015=O (mN (wq "law" "law" (dP 27) aA aA pm 2014)):=⟨_,rfl⟩
theorem aeg:p0.theDef (aB "law")=O (fu (dP 27),bg (dP 27),bc (dP 27)):=by ext
theorem Th:opensWell p0=N:=by ext
theorem open_plain:opening p0=plainProg p0.main.scope.names:=by rfl
theorem Ti:bearImports p0.main.body=ab:=by ext
theorem agU(T:Ag w os s):isTheDefsW p0 s.heap (aB "law"):=uB T.ex λk0 k iD h3 _ hC _ _=>dF (agT w.params k) λpm hf=>⟨2015,_,_,_,_,_,(yA (xB h3 Z (Cp _ _ _)) _).trans ((congrFun (y0 ef h3 Z) _).trans (Yl _ _ _)),hC 2015 _ hf,rfl,aeg,rfl,rfl,rfl,rfl,rfl,rfl,rfl,rfl,ak ⟨rfl,rfl⟩,[],rfl,ak ⟨rfl,rfl⟩⟩
theorem Cq:FY.row.toRowW.claim.pre [Mq [Mr 3]]=N/\Mp [Mq [Mr 3]]=N/\FY.row.toRowW.returnsAt [Mq [Mr 3]]=N:=⟨rfl,rfl,rfl⟩
theorem aa9{Q:iW->ae->Prop}(X:Ag w os s)(hk:uk s.heap ax.heap)(h:C callerA (Eu (R 2015) vs) ax (λv Y=>Q (nr (cB v)) Y)):
 C callerA (do match<-nsGet sT (aB "law") with
  |some f=>do ret (<-Eu f vs)
  |none=>Es "claim.caller:no-such-global") ax Q:=by
 show ff X.ex λk0 k iD h3 _=>C.bind<|T.wx (P:=λa Y=>a=O (R 2015)/\Y=ax) (xR (xC (hk _ _ h3) Z (Cp _ _ _)) ⟨Yl _ _ _,rfl⟩) λa Y e=>fc e λdX qI=>?_;subst dX;subst qI;show C.bind (h.mono λv Y hv=>C.pure hv)
theorem aba:p0.bare:=⟨rfl,rfl,rfl,rfl,by rfl,by ext⟩
theorem ajm{A A' B aS aY a0 E' F:α->Prop}(ha:∀v,A v->A' v)(he:∀v,a0 v->E' v)(h:∃v,A v/\B v/\aS v/\aY v/\a0 v/\F v):∃v,A' v/\B v/\aS v/\aY v/\E' v/\F v:=
 h.imp λv q=>⟨ha v q.1,q.2.1,q.2.2.1,q.2.2.2.1,he v q.2.2.2.2.1,q.2.2.2.2.2⟩
theorem ajn{α' aln:Type}{A A' B aS aY a0 F F':α->α'->aln->Prop}(ha:∀v u w,A v u w->A' v u w)(hf:∀v u w,F v u w->F' v u w)(h:∃v u w,A v u w/\B v u w/\aS v u w/\aY v u w/\a0 v u w/\F v u w):∃v u w,A' v u w/\B v u w/\aS v u w/\aY v u w/\a0 v u w/\F' v u w:=
 h.imp λv q=>q.imp λu q=>q.imp λw q=>⟨ha v u w q.1,q.2.1,q.2.2.1,q.2.2.2.1,q.2.2.2.2.1,hf v u w q.2.2.2.2.2⟩
theorem aeh(ϥ:QL)(k1:FY.row.wellSaid=N):FY.row.Holds:=by
 show⟨k1,⟨_,Cq.1,by show Cq.2.1.symm▸Cq.2.2.symm▸?_;rfl⟩,⟨⟨aba,Th,rfl⟩,⟨_,Cq.1,Cq.2.1⟩,Q7 ?_⟩⟩;show bf (jb.mp (boot_open (p:=p0) (N:=600) open_plain Z (λs=>fenceModules_id p0 Ti s) w)) λaK h2 e=>(bf (LP.mp h2) λs h4 h5=>?_);replace h4:=table_eq_tree.symm▸h4;have A:=AfterImport.of_importEnds h4;show⟨⟨s,A⟩,λY zM=>?_⟩;obtain rfl:Y=s:=AfterImport.unique zM A;have z:=Wh (fence_lifeW h5) A.life;have e0:aK=J0 w aK.os:=by obtain⟨h,g,d,t,o⟩:=aK;simp only[Prod.mk.injEq]at e;show iL e λdX qI DY Ol=>?_;subst dX;subst qI;subst DY;subst Ol;rfl
 generalize aK.os=os at e0;subst e0;show bf (aee os z) λs1 hT T=>(⟨J0 w os,h5,rfl,s1,hT,λn hn=>?_,λx E=>(kM E),λx E=>(kM E),λargs ZT ZU ord ajo=>?_⟩)
 .obtain rfl:n=aB "law" :=bJ.mp hn;show agU T
 .obtain ⟨⟨vs,ax⟩,QM⟩:=yq.mp (layAllW_isSome (R:=[]) (λc hc=>II hc) args FY.row.args s1 (pre_splitW ZT).1);have keeps:=layAllW_keeps _ _ _ QM;have CS:=layAllW_rest _ _ _ QM;show gC (reads_layAllW ajo _ _ _ QM ZU ax.heap (λ_ _ e=>e)) λas hrd Gz hold=>?_;have br:Laid [] w s1 ax args vs as:=⟨⟨ord,ajo,QM⟩,hrd,Gz,hold,keeps,CS.1.trans T.gens,CS.2.2.1⟩;have h:=aa9 T keeps (Q:=λy8 Y=>∃f,y8=nr f/\((FY.row.toRowW.claim.Ends s1 args vs ax (bW f) Y/\Y.os=s1.os)/\Ub Y.gens=ab))
   ((ϥ os s1 ax args vs as T ZT ZU br).mono λv Y g=>have y:=g.laid Z Z (λa b=>ident_freeW (r:=FY.row.toRowW) Z Z Z a b) br
    ⟨_,rfl,⟨y.1,y.2.1⟩,leftWithCleanup_false_of_bare y.2.2⟩)
  show fP (aef (aN:=λr Y=>FY.row.toRowW.claim.Ends s1 args vs ax r Y/\Y.os=s1.os) (Wh (CS.2.2.2.trans T.life) z) h) λk r Y nG alo agV hfo ajp Rq=>jc (Wi hfo) λeh _ _ eo _=>⟨vs,ax,QM,k,_,Y,agV,?_,(λ_ i x E=>by rw[T.gens]at E;show Bg E),(λq=>II q),congrArg _ (((runN_life _ _ _ alo).trans CS.2.2.2)),Wj (eo.trans Rq)⟩;show Or.imp (ajm (λ_ e=>by rw[e];rfl) λ_ d4 b o y _=>d4 b o y) (ajn (λ_ _ _ e=>by rw[e];rfl) λ_ _ _ d5 b o y _=>d5 b o y) (ajp.congr eh)
theorem Ec:oF (ao "range_iterator") (ao "reversed")=pure ab:=by ext
section
variable{t v:a8}
noncomputable def ZV(n:Nat):bE:={cls:=ao "range_iterator",data:=bF #[da ((n:Int) - 1),da n,da (-1)]}
theorem ze(hr:qi s.heap rr 0 n 1 t u v)(hn:n<=1000)(h:Q (R s.heap.objs.size) {s with heap:=s.heap.push (ZV n)}):aE (aD prog w) A (call (bB "range.__reversed__") [R rr]) Q a0 s:=by
 show jU Md ((cn _ hr Z)) PySem.F.entry_range_reversed ?_ (PySem.F.args_range_reversed_1 _);show aj (iq Z ?_);have hf:∀Q:Int×Int×Int->ae->Prop,Q (0,(n:Int),1) s->aE (aD prog w) A.in1 (abu (R rr)) Q a0 s:=λQ hq=>by obtain⟨hp,g,d,tk,os⟩:=s;have hr':hp.get? rr=O {cls:=ao "range",data:=bF #[ag 0 t,ag n u,ag 1 v]}:=hr;wp_walk;show hq
 have fit:∀k:Int, -1000<=k->k<=1000->abt k=N:=λk h1 h2=>fN.mpr ⟨decide_eq_true (Ul aL h1),decide_eq_true (KJ h2 aL)⟩;have hz:lR 0 (n:Int) 1=(n:Int):=by
  delta lR
  rw[if_pos aL];split<;>lia
 show aj (hf _ ?_);dsimp only;rw[hz,fit 0 aL aL,fit n fF (Ms Z Z hn),fit 1 aL aL,fit (-1) aL aL,fit (0 - 1) aL aL];show aj<|ip<|aC (cn _ Z ?_);rw[(by lia:(0:Int)+((n:Int) - 1) * 1=(n:Int) - 1)];show h
theorem zf(hr:qi s.heap rr 0 n 1 t u v)(hn:n<=1000)(h:Q (R s.heap.objs.size) {s with heap:=s.heap.push (ZV n)}):
 oH (aD prog w) A (m8 (bB "reversed.__new__") ⟨[ao "reversed",R rr],[]⟩) (wants Q a0) s:=by
 show xN (aj (iq (F.newCall_reversed_1 _) (aC ⟨lL PySem.F.plain_reversed_new _,qh PySem.F.entry_reversed_new ?_⟩)));show aj<|iq (newClass_reversed _)<|aj<|iq (by first|rfl|ext)<|aj (iq (by first|rfl|ext) ?_);try show aj (jF ((cn _ hr Z)) Md.lookup ?_)
 show aj<|iq (Md.bind _)<|aj<|rl<|aj (show aE _ _ (call (bB "range.__reversed__") [R rr]) _ _ _ from ze hr hn ?_);first
 |show aC h
 |show aC h
theorem zg(hr:qi s.heap rr 0 n 1 t u v)(hn:n<=1000)(h:Q (R s.heap.objs.size) {s with heap:=s.heap.push (ZV n)}):aE (aD prog w) A (call (ao "reversed") [R rr]) Q a0 s:=by show callType_other (Q₁:=λobj ax=>obj=R s.heap.objs.size/\ax={s with heap:=s.heap.push (ZV n)}) (rfl) F.create_reversed (qG _ _ F.mro_reversed) F.made_reversed Ec (F.typeCall_reversed_1 _) (zf hr hn ⟨rfl,rfl⟩) ?_;rintro obj ax ⟨rfl,rfl⟩;show⟨(cn _ (bI _ Z) Z),h⟩
end
theorem abb(B:cx U mg mb)(I:dQ mg mb)(kQ:Gi L "range")(he:V H U A L J G e (aT k) ab)(dH:cH e=ab)(r:ER H U L J s.heap G):
 T A (a7 (bx (aq (aB "range") np) [e] [] pos) J) s (λx ax=>∃rr t u v,x=R rr/\qi ax.heap rr 0 (k:Int) 1 t u v/\dG H s ax):=by
 show mE ("range") ("range") B I aL kQ (rfl) (fJ.cons he fJ.nil dH) (by simp[dW,dH]) r λvs ax F e1 V1=>?_;apply nM V1;show λt=>sO (afa _ _ _ _ Z (vB ..) (e1.trans ⟨.push _ _,rfl,rfl,eF _⟩))
theorem agW(B:cx U mg mb)(I:dQ mg mb)(kQ:Gi L "range")(hsr:Gi L "reversed")(he:V H U A L J G e (aT k) ab)(dH:cH e=ab)(hk:k<=1000)(r:ER H U L J s.heap G):
 T A (a7 (bx (aq (aB "reversed") np) [bx (aq (aB "range") np2) [e] [] γ] [] pos) J) s (λx ax=>T A (gn x) ax (λit aP=>dG H s aP/\XD k (Gy (Dw ((k:Int) - 1) (-1) k)) s it aP)):=by
 have hI:=I ("reversed",ao "reversed") aL;show mh<|(eG B r hsr hI.1 hI.2 (rfl)).Dt<|callWith_type1<|(abb B I kQ he dH r).wp λx ax ow=>Bh ow λrr t u v E hr e1=>E▸zg hr hk<|have e2:dG H s {ax with heap:=ax.heap.push (ZV k)}:=e1.trans ⟨.push _ _,rfl,rfl,eF _⟩;have uu:ml (ax.heap.push (ZV k)) ax.heap.objs.size ((k:Int) - 1) k (-1):=bI _ Z;TJ uu ⟨e2,ax.heap.objs.size,_,rfl,λA' R8=>vN (Mw R8 _ ((k:Int) - 1) (-1) k) Z (λi v hi qQ=>dF qQ λt hv=>kK _ t (o8.mpr ⟨hi,rfl⟩) hv),?_,e1.ext.new (bz _),λi h st=>(cn _ st (ak ⟨_,rfl,λx t e=>by simp[da]at e⟩))⟩;rw[(by simp:((k:Int) - 1+((0:Nat):Int) * (-1))=(k:Int) - 1),(by simp:((k:Int) - ((0:Nat):Int))=k)];show uu
theorem Tj{K:LN}{P:af}(B:cx U mg mb)(c:ed L scope fs K)(hG:pW G fs=N)(h0:scope.names.lookup (".0" :aV)=O cU)(DA:scope.isCoroutine=ab)(bK:A.depth<1000)(pj:J.code=R cC)(hP3:P≠ef)(hPt:Q5≠P)(hPb:∀bm,mg "__builtins__" =O (R bm)->P≠bm)(oz:s.heap.IsCode cC P ps)(hPT:P∉bX)(r:ER H U L J s.heap G)(uu:T A (a7 iter J) s (λx ax=>T A (gn x) ax (λit aP=>dG H s aP/\It it aP)))(hs:∀x,genFold iter J x=pure x)(Pb:cC∉bX)(hq:∀it aP cl code aS a ib,dG H s aP->It it aP->(∀y∈fs,cl.lookup (NM y)=J.cells.lookup (NM y))->B6 (∃ps,ib.heap.IsCode cC P ps) elt ct iter scope pos J P cl code aS a it aP ib->Q (R a) ib):
 T A (a7 (lN elt [⟨ct,iter,[],0⟩] scope pos) J) s Q:=by
 show bf (c.OL r hG) λcl jB wN=>(TC DA jB c.cell h0 c.kind (by assumption) (uu.wp λxv ax h1=>h1.Cx λit aP e2 hI=>⟨B.zl (r.base.trans e2.ext),?_⟩) hs);have b2:=r.base.trans e2.ext;show wpAny_genexprCode pj (FG oz (λ_=>e2.ext.keep _ _ Pb) λ_=>e2.ext.keep _ _ hPT) λcode h3 tk ps' E ajq=>(vD B.bmod λbm ob hbm Ru hbT Rv Rw GI BA=>?_);have bg3:h3.Ns J.globals mg:=by rw[r.glob];show ff (B.mg b2) λo es ep g1 g2=>Bj o es ep (E _ _ (λq=>hP3 q.symm) g1) g2
 show Eh bg3 hbm Ru (E bm _ (λq=>hPb bm hbm q.symm) (b2.keep bm _ hbT Rv)) Rw GI BA λh4 hn4 hs4=>?_;have x4:=λb o e=>hs4.extBut b o (fB (cj e)) (aZ _ e);have hPs:=(Bn ajq).elim λ_=>cj;have alp:Q5<h3.objs.size:=dF B.top λo e=>dF (b2.there _ o e) λo' e'=>cj (E _ _ hPt e');show hq it aP cl _ h3.objs.size h4.objs.size _ e2 hI wN ⟨(DV ps' (ajq.keeps λb o e=>aZ _ (x4 b o e))),rfl,rfl,λb o D e=>aZ _ (x4 b o (E b o D e)),
  (DW _ _ _ (bI _ Z) Z Z Z),rfl,hn4.push _,XC (λb o e=>if q:b=P then q▸hPs else cj (E b o q e)) (gw alp) hs4⟩
theorem ER.aei{v:Nat}(r:ER H U L J h G)(hy:ck G y=O (k,aT v))(hc:J.kindOf (NM y)=O dz):∃c t,J.cells.lookup (NM y)=O c/\c∉bX/\h.IsCell c (O (ag (ai v) t)):=by show eT (r.has y k _ hy) λu F cA aO=>(dF aO.toInt λt dX=>?_);subst dX;show ba cA (λi0=>fc i0 λhl _=>?_) λi0=>oY i0 λ_ c' h1 h2 h3=>Oz c' t h1 h2 h3;have hl:=hc.symm.trans hl;ext
set_option tactic.hygienic true in
theorem aej{v:Nat}{i:Int}{t:a8}(c:ed L scope [y] [x])(hg:J.globals=ef)(jB:cl.lookup (NM y)=O cv)(Pb:cv∉bX)(hcv:h.IsCell cv (O (ag (ai v) tv)))(n:h.Ns aS m)(hC:aS∉bX)(hm:m (NM x)=O (ag i t)):ER [] h scope (genEnv scope cl aS code fY J) h (jk [(y,k,aT v)] x 0 (a6 i)) where
 base:=.refl _
 kind:=c.kind
 gl:=λy hy=>hy
 WH:=λy hy=>hy
 glob:=hg
 bi:=rfl
 loc:=hC
 has:=λz k' av e=>by
  rw[fH]at e;split at e
  .rename_i q
   obtain⟨rfl,rfl⟩:=tM (aW e);show q▸kK (ag i t) [] (ak ⟨c.locs _ (bJ.mpr Z),m,n,hm⟩) (.ofInt i t)
  .obtain ⟨rfl,h4⟩:z=y/\(k,aT v)=(k',av):=by replace e:=(mA [] y k (aT v) z).symm.trans e;show if q:y=z then by rw[if_pos q]at e;show⟨q.symm,aW e⟩ else by rw[if_neg q]at e;ext
   obtain⟨rfl,rfl⟩:=tM h4;show kK _ [] (aw ⟨aw (c.frees z (bJ.mpr Z)).1,cv,jB,Pb,hcv⟩) (.ofInt _ tv)
theorem aek{v:Nat}(r:ER H U scope J s.heap G)(hy:ck G y=O (k,aT v))(E:ck G x=O (0,aT j)):
 C A (a7 (fh (fh (aq (NM y) py) Mh (aq (NM x) px) p1) Mg (fL (jK 1) kc p3) p2) J) s (λu Y=>dG H s Y/\∃t,u=ag (ai (v / 2 ^ j % 2)) t):=by
 have e1:wG (.shr ()) (ai v) (ai j)=O (ai (v / 2 ^ j)):=by change O _=O _;congr 1;show(Int.ofNat_fdiv v (2 ^ j)).symm
 have e2:wG .band (ai (v / 2 ^ j)) (ai 1)=O (ai (v / 2 ^ j % 2)):=by change O (ai (v / 2 ^ j &&& 1))=_;rw[Nat.and_one_is_mod]
 show T.wcE ((lr (fr:=N) .band (lr (.shr ()) (ar _ hy) (ar _ E) e1) (aR 1) e2) s r) λu Y F e aO _=>⟨e,?_⟩;show aO.toInt
noncomputable def DS(v:Nat):zw:=λi u _ _=>∃t,u=ag (ai (v / 2 ^ (7 - i) % 2)) t
theorem DS.back(v:Nat):zw.Back (DS v):=λ_ _ _ _ _ _ h=>h
theorem QN(v:Nat):zw.DJ (DS v):=λ_ _ _ _ _ _ _ _ h=>h
theorem alq{k:Int}(h:(Dw ((8:Nat) - 1:Int) (-1) 8)[i]? =O k):i<8/\k=ai (7 - i):=
 fc (o8.mp h) λh1 h2=>⟨h1,by rw[h2];change _=((7 - i:Nat):Int);lia⟩
theorem agX{v:Nat}{Ea:aQ}(c:ed L scope [90] [14])(hg:J.globals=ef)(jB:cl.lookup (NM 90)=O cv)(Pb:cv∉bX)(hcv:Ea.IsCell cv (O (ag (ai v) tv)))(hC:aS∉bX)(qK:cv≠Ia):
 acV (genEnv scope cl aS code fY J) (NM 14) (fh (fh (aq (NM 90) py) Mh (aq (NM 14) px) p1) Mg (fL (jK 1) kc p3) p2) [cG,cv,Ia] [Ia] (Gy (Dw ((8:Nat) - 1:Int) (-1) 8)) (DS v) Ea:=by
 show λA' i u s3 m3 R8 hv hn hm hk=>eT hv λk t hk1 dX=>fc (alq hk1) λhi qI=>bf hcv λo ho hd=>?_;subst dX;subst qI;show(aek (aej (k:=0) c hg jB Pb (cn o (hk cv au (by simpa using qK) o ho) hd) hn hC hm) Z Z).mono λy Y qQ=>MB qQ λe t' hy=>⟨⟨t',hy⟩,e.keeps⟩
def jS:cg:=a9 (bg (dP 21)) 1
def abc:aG:=match a9 (bg jS) 0 with|yr (O e) _=>e |_=>fL rR 0 ⟨0,0,0,0⟩
def ajr:dw:=match abc with|lN _ _ L _=>L |_=>bc jS
def Od(v:Nat)(cC P a aS Ia cv:af)(s Y:ae):Prop:=
 Y.os=s.os/\
 Y.drawn=s.drawn/\
 (∃gs,gs.bare=N/\Y.gens=s.gens.push gs)/\
 (∀b o,b≠P->s.heap.get? b=O o->Y.heap.get? b=O o)/\
 (∃ps,Y.heap.IsCode cC P ps)/\
 (∀b∈[a,aS,Ia],s.heap.get? b=ah)/\
 a≠aS/\
 Ia≠a/\
 (∃o u,s.heap.get? cv=O o/\o.data=oS u)/\
 ∀A':bR,dh A'->lF A' a s.gens.size aS [cG,cv,Ia] [Ia] 8 (DS v) 0 Y
theorem agY{P:af}{v kv:Nat}(B:cx s.heap mg mb)(I:dQ mg mb)(bK:A.depth<1000)(r:ER [] s.heap (bc jS) J s.heap G)(hv:ck G 90=O (kv,aT v))(hl:ck G 91=O (kl,aT 8))(kQ:J.kindOf (NM 90)=O dz)(pj:J.code=R cC)(Pb:cC∉bX)(oz:s.heap.IsCode cC P ps)(hP3:P≠ef)(hPt:Q5≠P)(hPs:P≠cG)(hPb:∀bm,mg "__builtins__" =O (R bm)->P≠bm)(hPT:P∉bX)(hPc:∀o u,s.heap.get? P=O o->o.data≠oS u)(hq:∀a aS Ia cv Y,Od v cC P a aS Ia cv s Y->Q (R a) Y):T A (a7 abc J) s Q:=by
 obtain⟨cv,tv,c1,c2,o,c3,c4⟩:=r.aei hv kQ;have hc:ed (bc jS) ajr [90] [14]:=ed.of (rfl);have ajs:cv≠P:=λq=>hPc o _ (q▸c3) c4;show Tj (scope:=ajr) B hc (by rw[pW];rw[hv];rfl) (rfl) Z bK pj hP3 hPt hPb oz hPT r
  (agW B I (by rfl) (by rfl) (ar 91 hl) Z bD r) (λ_=>rfl) Pb λit aP cl code aS a ib e2 hIt jB g=>dU g λg1 g2 g3 g4 _ g6 _ a_=>jc a_ λg8 g9 g10 g11 _=>l0 hIt λIa St dX hW Nw hIn XE=>?_
 subst dX;have XE:∀i h,St i h->∃o,h.get? Ia=O o:=λi h st=>bf (XE i h st) λo e _=>⟨o,e⟩;have k2:∀b o,s.heap.get? b=O o->aP.heap.get? b=O o:=e2.keeps.elim λh' q=>q.elim λtk q=>q.1▸q.2;have kp:=λb o D e=>g4 b o D (k2 b o e);have hIP:Ia≠P:=λq=>by obtain⟨o,e⟩:=(Bn oz);have e:=hIn▸q.symm▸e;ext
 have nC:s.heap.get? aS=ah:=by
  cases q:s.heap.get? aS with
  |none=>rfl
  |some o=>have:=k2 _ _ q;have this:=g8▸this;ext
 have nA:s.heap.get? a=ah:=by
  cases q:s.heap.get? a with
  |none=>rfl
  |some o=>have:=k2 _ _ q;have this:=g9▸this;ext
 have HD:=XE _ _ Nw;have hIC:Ia≠aS:=λq=>by obtain⟨o,e⟩:=HD;have e:=g8▸q▸e;ext
 have lim:=B.lim;have c_:ib.heap.NoLimit:=bf lim λmc wK M'=>cn mc (wK.at' λo e=>kp _ o hPs.symm e) M';have nn:∀b,s.heap.get? b=ah->b≠cv/\b≠cG:=λb D=>by
  show⟨λq=>?_,λq=>?_⟩
  .have D:=c3▸q▸D;ext
  .show bf lim λmc i1 _=>ff i1 λo _ _ e _=>?_;have D:=e▸q▸D;ext
 show hq a aS Ia cv ib ⟨g2.trans e2.os,g3.trans e2.drawn,(cn _ Z (by rw[g6,e2.gens])),kp,g1,λb D=>?_,g10,(λq=>by obtain⟨o,e⟩:=HD;have e:=g9▸q▸e;ext),(kK o _ c3 c4),λA' R8=>?_⟩
 .apply Dn D
  .show nA
  .show nC
  .show hIn
 .show e2.gens▸lF.made (x:=14) (n:=7) (DS.back v) g R8 hW Nw XE hIP c_ Z Z Z bw (λh=>?_) (λb D=>?_) (agX hc r.glob ((jB 90 bw).trans c1) c2 (cn o (kp _ _ ajs c3) c4) g11 (nn Ia hIn).1.symm)
  .simp only[bq,mX,or_false]at h;rcases h with h|h|h
   .show (nn aS nC).2 h
   .show (nn aS nC).1 h
   .show hIC h.symm
  .apply Dn D
   .show bf c_ λmc i1 _=>ff i1 λo _ _ e _=>⟨o,e⟩
   .show ⟨o,kp _ _ ajs c3⟩
   .show dF HD λo e=>⟨o,g4 _ _ hIP e⟩
def abd(J:cI)(f c' P' dT:af)(t8:a8)(fd:cq)(oc:bE)(s Y:ae):Prop:=
 Y.heap.get? f=O (mN fd)/\
 fd.body=lj (bg jS)/\
 fd.scope=bc jS/\
 fd.params=fu jS/\
 fd.globals=ef/\
 fd.builtins=fY/\
 fd.closure=[]/\
 fd.kwdefaults=aA/\
 fd.defaults=R dT/\
 Y.heap.get? dT=O (cV [ag 8 t8] 0)/\
 fd.code=R c'/\
 Y.heap.get? c'=O oc/\
 Y.heap.IsCode c' P' #[]/\
 Y.heap.get? P'=O (tabObj #[])/\
 Y.heap.CodeRec (R c') fd.qualname/\
 ∀b∈[f,c',P',dT],s.heap.get? b=ah
theorem ajt{c P:af}(B:cx U mg mb)(b0:gU H U s.heap)(hg:J.globals=ef)(pj:J.code=R c)(hc:c∉bX)(oz:U.IsCode c P #[])(vP:U.TableAt c P #[])(hP:P∈bX)(pn:P∉H)(kz:P∈τ')(nO:∀b∈H,b∈τ'){qn:aV}(hq:∀f c' P' dT fd oc h' tk,abd J f c' P' dT t8 fd oc s {s with heap:=h',toks:=tk}->gU τ' s.heap h'->Q (R f) {s with heap:=h',toks:=tk}):
 T A (Kt nm qn (fu jS) (lj (bg jS)) (bc jS) J [ag 8 t8] [] [] pos ln) s Q:=by
 show fc (PY hc oz vP hP pn b0) λalr OS=>vD B.bmod λbm ob hbm Ru hbT Rv Rw GI BA=>aeI Z Z (by(ext):rn (bc jS) J=pure []) bG<|aj<|TZ<|aj<|aC<|aj (TU pj (alr.push _) (OS.push _) Z λc' h3 tk E hge jA _ Rx YM als=>?_);have hsz:s.heap.objs.size<c':=by rw[dD]at hge;show hge
 have x3:=(gU.push _ _).trans (Xz hP kz (OS.push _).2 YM.2 E);have bg3:h3.Ns J.globals mg:=by show hg.symm▸?_;show B.mg ((b0.up nO).trans x3)
 show aj<|Eh bg3 hbm Ru (((b0.up nO).trans x3).keep bm _ hbT Rv) Rw GI BA<|aj (xR bg3 ?_);simp only[newObj];show aj<|Aq<|aC<|gC als λP' hP' hi ht=>(gr Rx λc2 oc vs2 t2 e2 g2 r21 r22=>?_);obtain rfl:=j9 e2;have kp:∀(o:bE) b o',h3.get? b=O o'->(h3.push o).get? b=O o':=λo b o' e=>aZ _ e;have nw:∀b,s.heap.objs.size<=b->s.heap.get? b=ah:=λb D=>by
  cases q:s.heap.get? b with
  |none=>rfl
  |some o=>show absurd (cj q) (j5.mpr D)
 show hq h3.objs.size c' P' s.heap.objs.size _ oc _ _ ⟨bI _ Z,rfl,rfl,rfl,hg,rfl,rfl,rfl,rfl,kp _ _ _ (E _ _ (λq=>fm (jz B.top b0) (q▸hP)) (bI _ Z)),rfl,kp _ _ _ g2,hi.push _,kp _ _ _ ht.2,(DX c' oc vs2 t2 Z (kp _ _ _ g2) r21 r22),λb D=>?_⟩ (x3.trans (.push _ _));apply tO D
 .show nw _ (gw (f9 hsz jA))
 .show nw _ (gw hsz)
 .show nw _ (gw (by rw[dD]at hP';show hP'))
 .show nw _ (ey _)
theorem PS.alu(p:PS H U L J aK bo bu G S s)(hT:gm U)(nO:∀b∈H,b∈τ')(x:Aa τ' s Y)(hL:∀y∈br,s.heap.get? y.1=ah/\Y.heap.get? y.1=O y.2):PL τ' U L J aK bo bu G S br [] Y:=by
 have p':=(p.up nO).XF x;show gC ((p.up nO).fr) λW r q1 q2=>(⟨(wC W (r.grow x.ext) q1 q2 (λy hy q=>?_)),p'.sg,λy hy=>(Yv ((hL y hy).2) (λq=>?_) (p.mod.mod.new (hL y hy).1) (p.ext.new (hL y hy).1) (λq=>?_)),p'.mod,p'.lE,zi⟩)
 .show oX (r.jh _ q) λ_ _ o' e _=>?_;have e:=((hL y hy).1).symm.trans e;ext
 .show dF (hT _ q) λo e=>(dF (p.ext.there _ o e) λo' e'=>?_);have e':=((hL y hy).1).symm.trans e';ext
 .show bf (bH.mp q) λz hz e=>?_;have:=(p.sg z hz).1;have this:=((hL y hy).1)▸e▸this;ext
theorem abe:jS=AY (NM 83) (fu jS) (bg jS) [] ah [] (bc jS) ah (NM 83) jS.pos:=by ext
theorem agZ:∃k pos,(fu jS).defaults=[fL (jK 8) k pos]:=qG _ _ Z
theorem ael{c P:af}(B:cx U mg mb)(hT:gm U)(alv:L.names.lookup (NM 83)=O dz)(dH:bT G 83=N)(pj:J.code=R c)(hc:c∉bX)(oz:U.IsCode c P #[])(vP:U.TableAt c P #[])(hP:P∈bX)(pn:P∉H)(kz:P∈τ')(nO:∀b∈H,b∈τ')(p:PS H U L J aK bo bu G S s):
 T A (oJ jS J) s (λfl Y=>fl=cL/\∃f c' P' dT t8 fd oc s1,abd J f c' P' dT t8 fd oc s s1/\PL τ' U L J aK bo bu (jk G 83 0 (aH (R f))) S [(f,mN fd),(c',oc),(P',tabObj #[]),(dT,cV [ag 8 t8] 0)] [] Y):=by
 rw[abe,exec_def,defaultsOf_eq];show jg agZ λkd pd hd=>?_;dsimp only;show hd.symm▸((by(ext):(fu jS).kw_defaults=[])).symm▸((by(ext):annTrees (fu jS) ah J=[])).symm▸aj (jW (aj (cQ ?_)));show aj (wpAny_evalAll_consts _ _ _ (λe he=>by obtain rfl:=bJ.mp he;rfl) λvs tk m_=>?_);obtain⟨t8,rfl⟩:∃t8,vs=[ag 8 t8]:=by
  cases vs with
  |nil=>show m_.elim
  |cons v vs=>cases vs with|nil=>obtain⟨⟨t,rfl⟩,_⟩:=m_;show⟨t,rfl⟩|cons _ _=>show m_.2.elim
 show aj<|cQ<|aC<|cQ<|ajt (s:={s with toks:=tk}) B p.ext p.er.glob pj hc oz vP hP pn kz nO λf c' P' dT fd oc h' tk' F x=>dU F λF1 F2 F3 F4 F5 F6 F7 ag0=>dU ag0 λF8 F9 F10 F11 F12 F13 F14 QO=>fc QO λF15 F16=>?_;have p2:PL τ' U L J aK bo bu G S [(f,mN fd),(c',oc),(P',tabObj #[]),(dT,cV [ag 8 t8] 0)] [] {s with heap:=h',toks:=tk'}:=p.alu hT nO ⟨x,rfl,rfl,.refl _⟩ λy hy=>by
  apply tO hy
  .show ⟨F16 _ au,F1⟩
  .show ⟨F16 _ au,F12⟩
  .show ⟨F16 _ au,F14⟩
  .show ⟨F16 _ au,F10⟩
 show aj (jW (aj (Ej ((p2.store (aw alv) dH (.ik _)).wp λ_ Y p3=>aC ⟨rfl,f,c',P',dT,t8,fd,oc,_,⟨F1,F2,F3,F4,F5,F6,F7,F8,F9,F10,F11,F12,F13,F14,F15,F16⟩,p3⟩))))
theorem aem(hp:fd.params=fu jS)(hd:fd.defaults=R dT)(hk:fd.kwdefaults=aA)(ht:s.heap.get? dT=O (cV [ag 8 t8] n))(v:aa):
 T A (dy fd ⟨[v],[]⟩) s (λbs Y=>Y=s/\bs=([90,91].map NM).zip [v,ag 8 t8]):=by
 delta T dy
 show hp.symm▸hd.symm▸hk.symm▸aj (aC (aj (jV ht Z ?_)));show aC ⟨rfl,rfl⟩
theorem Ym:bg jS=[a9 (bg jS) 0]/\∃pos,a9 (bg jS) 0=yr (O abc) pos:=⟨rfl,_,rfl⟩
theorem aen{f:af}{vs:Array aa}{t tq:a8}{v:Nat}(hh:dh A)(bK:A.depth<900)(B:cx s.heap mg mb)(I:dQ mg mb)(fn:s.heap.get? f=O (mN fd))(h1:fd.body=lj (bg jS))(h2:fd.scope=bc jS)(h3:fd.params=fu jS)(h4:fd.globals=ef)(h5:fd.builtins=fY)(h6:fd.closure=[])(h7:fd.kwdefaults=aA)(h8:fd.defaults=R dT)(h9:s.heap.get? dT=O (cV [ag 8 t8] n))(h10:fd.code=R c')(h11:s.heap.get? c'=O oc)(h12:oc.data=bF vs)(h13:vs[1]? =O (cO fd.qualname tq))(fT:f∉bX)(cT:c'∉bX)(oz:s.heap.IsCode c' P' ps)(hPT:P'∉bX)(hP3:P'≠ef)(hPt:Q5≠P')(hPs:P'≠cG)(hPb:∀bm,mg "__builtins__" =O (R bm)->P'≠bm)(hq:∀a aS Ia cv s1 Y,(uk s.heap s1.heap)->nY s.gens s1.gens->s1.os=s.os->s1.drawn=s.drawn->Od v c' P' a aS Ia cv s1 Y->Q (R a) Y):
 C A (call (R f) [ag (ai v) t]) s Q:=by
 show zx (H:=[]) (S:=[]) (avs:=[aT v,aT 8]) (F:=[]) [90,91] B (.refl _) (f9 bK bD) (⟨⟨(cn _ fn Z),fT,c',oc,vs,tq,h10,cT,h11,h12,h13⟩,h1,h2,h3,h4,h5,h6,h7⟩) Z Z Z (aem h3 h8 h7 h9 _) (ej [] [] (.ofInt _ t) (ej [] [] (.ofInt _ t8) .nil)) aL Z aL (zi) λaP br p=>?_;have k2:=λb o e=>if D:b∈bX then p.ext.quiet b o D (λq=>kM q) e else p.ext.keep b o D e
 show dF Ym.2 λpos hr=>Ym.1.symm▸hr.symm▸cS (uW (xI ?_));show agY (p.base B) I au p.pl.erE Z Z (by change fd.scope.names.lookup _=_;rw[h2];rfl) h10 cT (oz.keeps k2) hP3 hPt hPs hPb hPT (λo u e=>?_) λa aS Ia cv Y M=>hq a aS Ia cv aP Y k2 p.mod.gens p.mod.os p.mod.drawn M;show Ga (mz (oz.keeps k2)) λ_ _ op _ i8 i9 _=>aW (i8.symm.trans e)▸i9.symm▸nofun
noncomputable def Ah(v i:Nat):Nat:=v / 2 ^ (7 - i) % 2
def Apart(bh aY a aS Ia cv:af):Prop:=
 bh≠aY/\
 bh≠a/\
 bh≠aS/\
 bh≠Ia/\
 bh≠cv/\
 bh≠cG/\
 aY≠a/\
 aY≠aS/\
 aY≠Ia/\
 aY≠cv/\
 aY≠cG/\
 a≠aS/\
 a≠Ia/\
 cG≠aS/\
 cG≠Ia
inductive aju(A:bR)(a:af)(g:Nat)(aS Ia cv aY br:af)(v:Nat)(Q3:List aa)(s:ae)(k:Nat)(Y:ae):Prop
 |mk (i:Nat) (m':aV->Option aa) (ys:List aa) (n:Nat) (e:k=9 - i) (hi:i<=8) (g1:lF A a g aS [cG,cv,Ia] [Ia] 8 (DS v) i Y) (ns:Y.heap.Ns br m') (d:Y.heap.get? aY=O (bp (Q3++ys) n)) (ia:fk ys (lz (Ah v) i)) (t:Tg g [br,aY,aS,Ia] s Y)
section
variable{bh aY:af}
theorem ZW{d v:Nat}(h1:gens[d]? =O ⟨aq (NM 19) p2,iter,[],0⟩)(h2:gens[d+1]? =ah)(hh:dh A)(bK:A.depth<1000)(X:Apart bh aY a aS Ia cv)(af7:cenv.locals=bh)(zo:cenv.scope.kind=dZ)(hk:cenv.kindOf (NM 19)=O cU)(hg:lF A a g aS [cG,cv,Ia] [Ia] 8 (DS v) 0 s)(wK:s.heap.Ns bh m0)(oy:s.heap.get? aY=O (bp Q3 c0))(dM:Q3.length<=10000)(hR:∀Y ys n m',Tg g [bh,aY,aS,Ia] s Y->Y.heap.get? aY=O (bp (Q3++ys) n)->fk ys (lz (Ah v) 8)->Y.heap.Ns bh m'->aN (bW cL) Y):
 CC A (hx (cE (aq (NM 19) p1) gens scope pos) d (R a) (R aY) cenv) s aN:=by
 show dU X λX1 X2 X3 X4 X5 X6 X7 alw=>dU alw λX8 X9 X10 X11 X12 X13 X14 X15=>?_;subst af7;show ud h1 h2 (aju A a g aS Ia cv aY cenv.locals v Q3 s) ?_ 9
  ⟨0,m0,[],c0,rfl,fj _,hg,wK,by rw[yg];show oy,qB,.refl _ _ _⟩
 intro k Y Kp P1 P2 P3 P4 Kh H0 H1 H2 H3 _ H4 ⟨i,m',ys,n,dX,hi,g1,ns1,d1,ia,t1⟩;have hKx:=ME X3 X4;have hDx:=ME X8 X9;rcases AS hi with jA|rfl
 .show g1.next bK jA X12 (λq=>X13 (bJ.mp q)) X14 (λq=>X15 (bJ.mp q)) (QN v) λu s1 qQ g2 t2 _=>dF qQ λt hu=>hu▸H1 _ _ (C.eq Z (cS (jD (sM hk (ns1.at' λo e=>t2.keep _ o hKx e) (λh3 ns3 zF=>H2 _ (uO (H3 _ ?_))) (by show zo.symm▸?_;rfl)))));show cS (rk (xE (v:=ag (ai (Ah v i)) t) zo hk ns3 (if_pos Z) ?_) (wF 19));have hly:ys.length=i:=by have:=ia.length;simpa[lz] using this
  show H4 _ _ (cS (Al (items:=(Q3++ys).toArray) ⟨n,zF.extBut _ _ (eS X1) (t2.keep _ _ hDx d1)⟩ (λh4 qQ Jj=>dF qQ λn4 e4=>?_) (by have:eN=16777216:=jX;simp;lia)));have t4:∀tk,Tg g [cenv.locals,aY] s1 {s1 with heap:=h4,toks:=tk}:=λtk=>.heap λb o D e=>Dp D λh1 h2=>Jj.extBut _ _ h2 (zF.extBut _ _ h1 e);show Kh (9 - (i+1)) _ (dX▸rJ (fi jA bD) (iZ i)) ⟨i+1,_,ys++[ag (ai (Ah v i)) t],n4,rfl,jA,g2.frame (eO ..) (λb D o e=>(t4 0).keep b o (λq=>se (P:=λb=>b∈[a,aS,cG,cv,Ia]->False) q (ahg X2 X3 X6 X5 X4) (ahg X7 X8 X11 X10 X9) D) e),ns3.at' λo e=>Jj.extBut _ o X1 e,?_,?_,(t1.trans t2 λd hd=>ak (bV _ (bV _ hd))).trans (t4 _) λd hd=>ak (ba (bq.mp hd) (λq=>q▸cR ..) λq=>bY _ (bJ.mp q▸cR ..))⟩
  .rw [e4];simp[bp]
  .rw [Cg];show ia.append (yy _ _ qB)
 .show cS<|g1.done hh bK λs2 t2=>H0 _ (hR s2 ys n m' (t1.trans t2 λd hd=>ak (bV _ (bV _ hd))) (t2.keep _ _ hDx d1) ia (ns1.at' λo e=>t2.keep _ o hKx e))
end
noncomputable def bare:AV->Bool
 |oZ|eY _|a6 _|aH _=>N
 |_=>ab
def QP(G:iB):Bool:=G.all λy=>bare y.2.2
def Ai(o:bE):Prop:=∀u,o.data≠oS u
structure Tk(X:List af)(s Y:ae):Prop where
 keep:∀b o,b∉X->s.heap.get? b=O o->Y.heap.get? b=O o
 os:Y.os=s.os
 drawn:Y.drawn=s.drawn
 gens:nY s.gens Y.gens
section
variable{gi:List af}
theorem aeo(h:QP G=N)(e:ck G x=O (k,av)):bare av=N:=mW.mp h _ (By e)
theorem bM.bare(D:bare av=N)(aO:bM h av v F):bM h' av v []/\F=[]:=by cases av<;>first|show⟨⟨aO.1,rfl⟩,aO.2⟩|show II (by assumption)
theorem Tk.refl(X:List af)(s:ae):Tk X s s:=⟨λ_ _ _ e=>e,rfl,rfl,.refl _⟩
theorem Tk.trans{a b c:ae}(x:Tk X a b)(y:Tk gi b c)(h:∀d∈gi,d∈X\/a.heap.get? d=ah):Tk X a c where
 keep:=λd o hd e=>y.keep d o (λq=>(h d q).elim hd λh=>by have e:=h.symm.trans e;ext) (x.keep d o hd e)
 os:=y.os.trans x.os
 drawn:=y.drawn.trans x.drawn
 gens:=y.gens.trans x.gens
protected theorem dG.tk(e:dG [] s Y):Tk X s Y:=⟨λb o _ q=>e.keeps.elim λ_ z=>z.elim λ_ z=>z.1▸z.2 b o q,e.os,e.drawn,.of e.gens⟩
theorem Tk.heap(k:∀b o,b∉X->s.heap.get? b=O o->h'.get? b=O o):Tk X s {s with heap:=h',toks:=tk}:=⟨k,rfl,rfl,.refl _⟩
theorem FR.alx(r:FR H U U L J h G W)(hG:QP G=N)(x:gU H U h')(keep:∀b o,b∉X->b∉bX->h.get? b=O o->h'.get? b=O o)(hw:∀b∈X,(∃o,h.get? b=O o/\Ai o)/\b∉W):FR H U U L J h' G W:=by
 have kW:=λb hb' o e=>keep b o (λq=>(hw b q).2 hb') (r.jh b hb').2.1 e;have kC:∀c v,c∉bX->h.IsCell c v->h'.IsCell c v:=λc v ht qQ=>bf qQ λo e d=>⟨o,keep c o (λq=>by show fc (hw c q) λi1 _=>bf i1 λo' e' d'=>?_;rw[e]at e';obtain rfl:=aW e';show d' _ d) ht e,d⟩
 have kN:∀m,h.Ns J.locals m->h'.Ns J.locals m:=λm qQ=>ff qQ λo es ep e q=>Bj o es ep (kW _ r.loc o e) q;show⟨.refl _,x,r.scope,r.kind,r.glob,r.bi,r.loc,r.ns.imp kN,λy hy=>lZ (r.cell y hy) λc a i1 d e=>dF i1 λv b=>wC c a ⟨v,kC c v d b⟩ d e,r.pV,λb hb'=>oX (r.jh b hb') λp q o e m=>⟨p,q,o,kW b hb' o e,m⟩,?_⟩;show jg r.ents λval fp q=>((qG val (λ_=>[]) (λy k av e=>?_)));show mC (q y k av e) λa b _ _=>(⟨?_,(b.bare (aeo hG e)).1,λ_=>⟨rQ,λz hz=>kM hz⟩,λ_ z hz=>kM hz⟩);show ba a (λi0=>iM i0 λk1 m n e1=>ak ⟨k1,m,kN m n,e1⟩) λi0=>oY i0 λk1 c' e1 e2 e3=>aw ⟨k1,c',e1,e2,kC _ _ e2 e3⟩
theorem PL.ae4(p:PL H U L J aK bo bu G S br Gs s)(hG:QP G=N)(hT:gm U)(k:Tk X s Y)(hX:∀b∈X,∃o,(b,o)∈br/\Ai o)(hL:∀y∈L',(y.1∈br.map (·.1)\/s.heap.get? y.1=ah)/\Y.heap.get? y.1=O y.2):PL H U L J aK bo bu G S L' [] Y:=
 p.aeR hT k.keep k.os k.drawn (k.gens.trans p.mod.gens) (λb D=>bf (hX b D) λo ho _=>⟨o,ho⟩) hL (zi) λ_ r hn x'=>r.alx hG x' (λb o D _ e=>k.keep b o D e) λb D=>bf (hX b D) λo ho hm=>⟨⟨o,(p.lg _ ho).1,hm⟩,(hn b D).2⟩
end
section
variable{dB:iB}{K:LN}
def HNm(K:LN)(m:aV->Option aa)(h:aQ)(dB:iB):Prop:=∀y k av,ck dB y=O (k,av)->y∈K/\∃v F,m (NM y)=O v/\bM h av v F
theorem HNm.nil:HNm K m h []:=λ_ _ _ e=>Bg e
theorem Yn(E:x∈K)(hm:m (NM x)=O v)(aO:bM h av v F)(r:HNm K m h dB):HNm K m h ((x,0,av)::dB):=λy k mI e=>by
 dsimp only[ck]at e;show boC (x.beq y) (λq=>?_) λq=>?_
 .replace e:=q▸e;show Yu (aW e) λa1 a2=>?_;subst a1;subst a2;show Lm q▸⟨E,v,F,hm,aO⟩
 .have e:=q▸e;show r y k mI e
theorem To(p:h.get? a=ah)(q:h.get? b=ah):∀d∈[a,b],d∈X\/h.get? d=ah:=λd hd=>se (P:=λd=>d∈X\/h.get? d=ah) hd (aw p) (aw q)
theorem Cr(c:ed L scope fs K)(r:ER H U L J h G)(jB:∀y∈fs,cl.lookup (NM y)=J.cells.lookup (NM y))(n:h.Ns aS m)(hC:aS∉bX)(hN:HNm K m h dB):
 ER H U scope (jt scope cl aS J) h (dB++lC G fs) where
 base:=r.base
 kind:=c.kind
 gl:=λ_ hy=>YJ hy nofun
 WH:=λ_ hy=>hy.elim (λh=>ak (YJ h nofun)) acd
 glob:=r.glob
 bi:=r.bi
 loc:=hC
 has:=λy k av e=>(OD e).elim (λe=>FZ (hN y k av e) λh1 v F h2 h3=>kK v F (ak ⟨YJ (c.locs y h1) nofun,m,n,h2⟩) h3) λe=>r.aho c (.refl _) jB (λy h=>acd (c.frees y h).1) e
theorem QR(c:ed L scope fs K)(jB:rn scope J=pure cl)(hs:Fs iter J)(h:C A (a7 iter J) s (λx ax=>C A (gn x) ax (λit aP=>Q5<=aP.heap.objs.size/\(∀(A':bR) fy (Q:aa->ae->Prop),Tk [] aP fy->Q it fy->C A' (gn it) fy Q)/\
 ∀aY bh fy,Tk [] aP fy->aP.heap.get? aY=ah->aP.heap.get? bh=ah->aY≠bh->bh∉bX->fy.heap.get? aY=O (bp [] 0)->fy.heap.Ns bh (λ_=>ah)->
  CC (A.mark ah) (hx (cE elt (⟨ct,iter,ifs,0⟩::gs) scope pos) 0 it (R aY) (jt scope cl bh J)) fy (λr Y=>match r with|bW _=>∃m,Y.heap.Ns bh m/\∀h',gu bh Y.heap h'->Q (R aY) {Y with heap:=h'} |j6 _=>False)))):
 C A (a7 (cE elt (⟨ct,iter,ifs,0⟩::gs) scope pos) J) s Q:=by
 show Qo c Z hs jB<|h.mono λx ax U=>C.mono U λit aP ku aY bh h3 tk _ lK k0 nD nK Ow gD gK=>have t:Tk [] aP {aP with heap:=h3,toks:=tk}:=.heap λb o _=>k0 b o;have loop:=ku.2.2 aY bh _ t nD nK Ow (fm (bj ku.1 lK)) gD gK;pJ Z loop (ku.2.1 _ _ _ t loop)
end
section
variable{dB:iB}{nl:Nat}{p4 np3 aly:cJ}
protected theorem Tk.x(t:Tk [] s Y):gU H s.heap Y.heap:=.of_keep λb o e=>t.keep b o (λq=>kM q) e
theorem ER.re(e:ER H U L J h G):ER [] h L J h G:=⟨.refl _,e.kind,e.gl,e.WH,e.glob,e.bi,e.loc,e.has⟩
inductive alz(bh aY br l:af)(ns:LN)(s:ae)(n:Nat)(Y:ae):Prop
 |start (m:aV->Option aa) (t:Tk [] s Y) (nn:Y.heap.Ns bh m) (e:n=1) (li:Y.heap.IsListIter br l 0) (d:Y.heap.get? aY=O (bp [] 0))
 |over (m:aV->Option aa) (tk:a8) (c:Nat) (t:Tk [] s Y) (nn:Y.heap.Ns bh m) (li:Y.heap.IsListIter br l 1) (d:Y.heap.get? aY=O (bp [ag (ai ns.length) tk] c))
theorem aep(c:ed L scope [] [93])(dM:Gi scope "len")(hh:dh A)(B:cx s.heap mg mb)(I:dQ mg mb)(r:ER [] s.heap L J s.heap G)(hy:ck G y=O (k,aH (R l)))(hl:s.heap.get? l=O (bp [R d] nl))(hd:s.heap.get? d=O (kF ns))(Zf:d∉bX)(oz:l8 ns)(hq:∀aY Y t c,Tk [] s Y->s.heap.get? aY=ah->Y.heap.get? aY=O (bp [ag (ai ns.length) t] c)->Q (R aY) Y):
 C A (a7 (cE (bx (aq (aB "len") np) [aq (NM 93) p1] [] p2) [⟨aq (NM 93) p3,aq (NM y) p4,[],0⟩] scope pos) J) s Q:=by
 show og λgG kG=>bf (c.OL r Z) λcl jB wN=>kG ?_;clear kG gG;show QR c jB (λ_=>rfl) (Lake.T.wcV (wb r hy) λv F aO=>?_);apply bM.Gg aO;have hnl:s.heap.get? s.heap.objs.size=ah:=bz _;show cS (uV (bU hl) (gI ?_ (λA' fy Q t hQ=>cS (TN (l:=l) (i:=0) ⟨_,t.keep _ _ (λq=>kM q) (bI _ Z),rfl,rfl⟩ hQ)) (λaY bh fy t hD hK Ow hKT oy wK=>?_)))
 .rw [dD];show qq (jz (H:=[]) B.top (.refl _))
 have t1:Tk [] s {s with heap:=s.heap.push {cls:=ao "list_iterator",data:=bF #[R l,ag 0 0]}}:=.heap (tk:=s.toks) λb o _ e=>aZ _ e;have hDL:aY≠s.heap.objs.size:=λq=>by rw[q,bI _ Z]at hD;ext
 have hKL:bh≠s.heap.objs.size:=λq=>by rw[q,bI _ Z]at hK;ext
 have nD:s.heap.get? aY=ah:=(Tk.x (H:=[]) t1).new hD;have nK:s.heap.get? bh=ah:=(Tk.x (H:=[]) t1).new hK;have li0:fy.heap.IsListIter s.heap.objs.size l 0:=kJ _ (t.keep _ _ (λq=>kM q) (bI _ Z)) Z Z;generalize s.heap.objs.size=br at *;show ud Z Z (alz bh aY br l ns s) ?_ 1 (.start _ (t1.trans t (zi)) wK Z li0 oy);rintro n Y Kp P1 P2 P3 P4 Kh H0 H1 H2 H3 _ H4 (⟨m,t2,PZ,n1,li,d2⟩|⟨m,tk,cc,t2,PZ,li,d2⟩)
 .show cS<|J7 li (bU (t2.keep _ _ (λq=>kM q) hl)) (x:=R d) Z λh3 li3 zF=>H1 _ _ (C.eq (a:=()) Z (cS (jD (sM (xG (c.locs 93 (bJ.mpr Z))) (PZ.at' λo e=>zF.extBut _ o hKL e) (λh4 ZX Jj=>H2 _ (uO (H3 _ ?_))) (by rw[show(ju scope J).kind=dZ from c.kind];rfl:((ju scope J).kind== .class ||((ju scope J).kind== .module && bh != J.globals))=ab)))));have t4:∀tk,Tk [] s {Y with heap:=h4,toks:=tk}:=λtk=>t2.trans (gi:=[br,bh]) (.heap λb o D e=>Dp D λh1 h2=>Jj.extBut _ _ h2 (zF.extBut _ _ h1 e)) (To hnl nK);show Lake.T.wcI (uK (H:=[]) (fr:=N) (e:=aq (NM 93) p1) (B.ext ((t4 0).x (H:=[]))) I dM ((t4 0).keep _ _ (λq=>kM q) hd) Zf oz (ar (k:=0) _ Z) Z _ (Cr (dB:=[(93,0,aH (R d))]) c (r.ext (t4 0).x).re wN ZX hKT (Yn (bJ.mpr Z) (if_pos Z) (.ik _) HNm.nil))) λt6 s5 e5=>have t5:=e5.tk (X:=[]);H4 _ _ (cS (Al (items:=#[]) ⟨0,t5.keep _ _ (λq=>kM q) (Jj.extBut _ _ Ow (zF.extBut _ _ hDL d2))⟩ (λh7 q sb7=>dF q λn7 e7=>?_) (by have:eN=16777216:=jX;simp)));show Kh 0 _ (n1▸yo) (.over _ t6 n7 (((t4 _).trans t5 zi).trans (gi:=[aY]) (.heap (tk:=s5.toks) λb o D e=>sb7.extBut _ _ (λq=>D (bJ.mpr q)) e) λb D=>aw (bJ.mp D▸nD)) (ZX.at' λo e=>sb7.extBut _ _ (eS Ow) (t5.keep _ _ (λq=>kM q) e)) ?_ e7);show(li3.at λo e=>Jj.extBut _ _ (eS hKL) e).at λo e=>sb7.extBut _ _ (eS hDL) (t5.keep _ _ (λq=>kM q) e)
 .show cS<|Ka hh li (bU (t2.keep _ _ (λq=>kM q) hl)) Z λh3 zF=>H0 _ (cn m (PZ.at' λo e=>zF _ o hKL e) (λh4 Jj=>hq aY _ tk cc ?_ nD (Jj.extBut _ _ Ow (zF _ _ hDL d2))));show t2.trans (gi:=[br,bh]) (.heap (tk:=Y.toks) λb o D e=>Dp D λh1 h2=>Jj.extBut _ _ h2 (zF _ _ h1 e)) (To hnl nK)
theorem QS(c:ed L scope [] [93])(dM:Gi scope "len")(hr:Gi L "range")(hm:Gi L "max")(hh:dh A)(B:cx s.heap mg mb)(I:dQ mg mb)(r:ER [] s.heap L J s.heap G)(hy:ck G y=O (k,aH (R l)))(hl:s.heap.get? l=O (bp [R d] nl))(hd:s.heap.get? d=O (kF ns))(Zf:d∉bX)(oz:l8 ns)(hq:∀rr Y t u v,Tk [] s Y->qi Y.heap rr 0 (ns.length:Int) 1 t u v->Q (R rr) Y):
 C A (a7 (bx (aq (aB "range") np2) [bx (aq (aB "max") np3) [cE (bx (aq (aB "len") np) [aq (NM 93) p1] [] p2) [⟨aq (NM 93) p3,aq (NM y) p4,[],0⟩] scope pos] [] γ] [] aly) J) s Q:=by
 have hR:=I ("range",ao "range") aL;have hM:=I ("max",bB "max") aL;show fV<|Lake.T.wX (eG B r hr hR.1 hR.2 (rfl))<|dg (rfl) ?_;rw[l6 (rfl)];show eu<|cu<|fV<|Lake.T.wX (eG B r hm hM.1 hM.2 (rfl))<|dg (rfl) ?_;rw[l6 (rfl)];show eu (cu (aep c dM hh B I r hy hl hd Zf oz λaY s3 t3 c3 t hD hd3=>c8 (lV ⟨rfl,?_⟩)));have hIL:=bU hd3;show cS (call_max_walkS (uV hIL ⟨_,_,_,_,_,_,_,_,rfl,(Ws (A:=A.in1) hh s3.heap.objs.size aY (fB (cj hd3)) #[ag (ai ns.length) t3]).toS,⟨(kJ _ (bI _ Z) Z Z),hIL.at λo e=>aZ _ e⟩,λb D=>?_,yo,CmpOf.ints_gt (λ_=>ai ns.length) (λi v e=>?_),λv s4 hv m4=>?_⟩))
 .rw [show({s3 with heap:=s3.heap.push _}:ae).heap.objs.size=s3.heap.objs.size+1 from dD ..];apply se D
  .show iZ _
  .show kX (cj hd3)
 .cases i with
  |zero=>show aW e▸?_;show DV t3 Z
  |succ i=>ext
 .show aW hv▸c8 (iI ⟨rfl,cS (sO (hq _ _ _ _ _ ?_ (bI _ Z)))⟩);show(t.trans ⟨λb o _ e=>m4.heap b o (λq=>absurd (cj e) (by rw[bJ.mp q];show gv _)) (aZ _ e),m4.os,m4.drawn,.of m4.gens⟩ zi).trans (Tk.heap (X:=[]) (s:=s4) (tk:=s4.toks+1+1) λb o _ e=>aZ _ e) zi
end
section
variable{mg mb:aV->Option aa}{s2:ae}
theorem Apart.of{P bh aY:af}{v:Nat}{oK oD:bE}(M:Od v cC P a aS Ia cv s1 s2)(hK:s1.heap.get? bh=O oK)(cK:Ai oK)(hD:s1.heap.get? aY=O oD)(cD:Ai oD)(hKD:bh≠aY)(hl:∃o,s1.heap.get? cG=O o)(sK:bh≠cG)(sD:aY≠cG):Apart bh aY a aS Ia cv:=by
 show dU M λ_ _ _ _ _ M6 M7 afA=>hJ afA λM8 M9 _=>?_;have nw:∀b∈[a,aS,Ia],∀x o,s1.heap.get? x=O o->x≠b:=λb D x o e q=>by have e:=(M6 b D)▸q▸e;ext
 show eT M9 λoc u e1 e2=>(dF hl λos es=>?_);have nc:∀x o,s1.heap.get? x=O o->Ai o->x≠cv:=λx o e n q=>by replace e:=e1▸q▸e;obtain rfl:=aW e;show n _ e2
 have na:=nw a (eO ..);have nC:=nw aS (bV _ (eO ..));have nI:=nw Ia (bV _ (bV _ (eO ..)));show⟨hKD,na _ _ hK,nC _ _ hK,nI _ _ hK,nc _ _ hK cK,sK,na _ _ hD,nC _ _ hD,nI _ _ hD,nc _ _ hD cD,sD,M7,eS M8,nC _ _ es,nI _ _ es⟩
end
section
variable(mg mb:aV->Option aa)(L:dw)(J:cI)(G:iB)(l d f c' P':af)(ns:LN)
def BCy(s:ae):Prop:=
 (∃fd,s.heap.get? f=O (mN fd))/\
 ∀(A':bR) v t (Q:aa->ae->Prop),dh A'->A'.depth<900->(∀a aS Ia cv s1 s2,Tk [] s s1->Od v c' P' a aS Ia cv s1 s2->Q (R a) s2)->C A' (call (R f) [ag (ai v) t]) s Q
def BCx(s:ae):Prop:=
 cx s.heap mg mb/\
 ER [] s.heap L J s.heap G/\
 (∃nl,s.heap.get? l=O (bp [R d] nl))/\
 s.heap.get? d=O (kF ns)/\
 BCy f c' P' s
def J1(bh aY br:af)(sB:ae):Prop:=
 (sB.heap.get? br=ah/\
 bh≠br/\
 aY≠br/\
 br≠P'/\
 c'∉[br,bh,aY])/\
 sB.heap.get? bh=ah/\
 sB.heap.get? aY=ah/\
 bh≠aY/\
 bh≠P'/\
 aY≠P'/\
 bh∉bX/\
 bh≠cG/\
 aY≠cG
end
section
variable{mg mb:aV->Option aa}{L:dw}{J:cI}{G:iB}{l d f c' P':af}{ns:LN}
theorem Dl{bh:af}(n:h.Ns bh m):∃o,h.get? bh=O o/\Ai o:=
 ff n λo es ep e q=>cn o e (λu hd=>by have hd:=q.1▸hd;ext)
theorem J2{p:Nat×AV}(hz:z∈fs)(e:ck G z=O p):ck (lC G fs) z=O p:=by
 induction fs with
 |nil=>ext
 |cons y fs ih=>
  unfold lC;by_cases q:y=z
  .subst q;rw[e];simp[ck]
  .have hz:=(bq.mp hz).resolve_left (eS q);cases ck G y with|none=>show ih hz|some x=>simp[ck,Mv,q,ih hz]
theorem qg{c P:af}(q:h.IsCode c P ps)(k:∀b o,b∉X->h.get? b=O o->h'.get? b=O o)(hc:c∉X)(hP:P∉X):h'.IsCode c P ps:=FG q (λ_=>k _ _ hc) λ_=>k _ _ hP
theorem Tk.none(t:Tk X s Y)(D:b∉X)(e:Y.heap.get? b=ah):s.heap.get? b=ah:=by
 cases q:s.heap.get? b with
 |none=>rfl
 |some o=>have e:=(t.keep _ _ D q)▸e;ext
def IE(y:Nat)(p:Nat->cJ)(it0:aG):List El:=[⟨aq (NM 92) (p 0),it0,[],0⟩,
 ⟨aq (NM 93) (p 1),aq (NM y) (p 2),[jw (aq (NM 92) (p 3)) [FK] [bx (aq (aB "len") (p 4)) [aq (NM 93) (p 5)] [] (p 6)] (p 7)],0⟩,
 ⟨aq (NM 19) (p 8),bx (aq (NM 83) (p 9)) [dk (aq (NM 93) (p 10)) (aq (NM 92) (p 11)) (p 12)] [] (p 13),[],0⟩]
inductive alA(l c' P' bh aY br:af)(v i:Nat)(tk:a8)(Q3:List aa)(c0:Nat)(s:ae)(n:Nat)(Y:ae):Prop
 |start (m:aV->Option aa) (t:Tk [br,bh,aY,P'] s Y) (c:∃ps,Y.heap.IsCode c' P' ps) (ns:Y.heap.Ns bh m) (e:n=1) (hm:m (NM 92)=O (ag (ai i) tk)) (li:Y.heap.IsListIter br l 0) (d:Y.heap.get? aY=O (bp Q3 c0))
 |over (m:aV->Option aa) (ys:List aa) (nd:Nat) (t:Tk [br,bh,aY,P'] s Y) (c:∃ps,Y.heap.IsCode c' P' ps) (ns:Y.heap.Ns bh m) (li:Y.heap.IsListIter br l 1) (d:Y.heap.get? aY=O (bp (Q3++ys) nd)) (ia:fk ys (lz (Ah v) 8))
theorem abf{bh aY br:af}{v:Nat}{p:Nat->cJ}{tk:a8}(hh:dh A)(bK:A.depth<900)(I:dQ mg mb)(c:ed L scope [y,83] [92,93,19])(dM:Gi scope "len")(jB:∀z∈[y,83],cl.lookup (NM z)=J.cells.lookup (NM z))(hf:ck G 83=O (kf,aH (R f)))(oz:l8 ns)(Zf:d∉bX)(hv:ns[i]? =O v)(cA:∀Y,Tk [P'] sB Y->(∃ps,Y.heap.IsCode c' P' ps)->BCx mg mb L J G l d f c' P' ns Y)(X:J1 c' P' bh aY br sB)(tB:Tk [P'] sB s)(hc:∃ps,s.heap.IsCode c' P' ps)(hL:s.heap.IsListIter br l 0)(wK:s.heap.Ns bh m0)(hm:m0 (NM 92)=O (ag (ai i) tk))(oy:s.heap.get? aY=O (bp Q3 c0))(ajv:Q3.length<=10000)(hR:∀Y ys n m',Tk [br,bh,aY,P'] s Y->(∃ps,Y.heap.IsCode c' P' ps)->Y.heap.get? aY=O (bp (Q3++ys) n)->fk ys (lz (Ah v) 8)->Y.heap.Ns bh m'->aN (bW cL) Y):
 CC A (hx (cE (aq (NM 19) p1) (IE y p it0) scope pos) 1 (R br) (R aY) (jt scope cl bh J)) s aN:=by
 show fc X λXa Xb=>jc Xa λXa1 Xa2 Xa3 Xa4 Xa5=>dU Xb λXb1 Xb2 Xb3 Xb4 Xb5 Xb6 Xb7 Xb8=>?_;have E:∀z∈[92,93,19],(ju scope J).names.lookup (NM z)=O cU:=λz hz=>xG (c.locs z hz);have tB':∀{Y},Tk [br,bh,aY,P'] s Y->Tk [P'] sB Y:=λt=>tB.trans t λb D=>by
  apply tO D
  .show aw Xa1
  .show aw Xb1
  .show aw Xb2
  .show ak (eO ..)
 show H7 Z Z (λ_=>rfl) (alA l c' P' bh aY br v i tk Q3 c0 s) ?_ 1 (.start m0 (.refl _ _) hc wK Z hm hL oy);rintro n Y Kp P1 P2 P3 P4 P5 P6 Kh H0 H1 H2 H3 _ H4 H5 H6 (⟨m,t2,c2,PZ,n1,hm2,li,d2⟩|⟨m,ys,nd,t2,c2,PZ,li,d2,ia⟩)
 .show dF ((cA _ (tB' t2) c2).2.2.1) λnl hls=>cS<|J7 li (bU hls) (x:=R d) Z λh3 li3 zF=>H1 _ _ (C.eq Z (cS (jD (sM (E 93 aL) (PZ.at' λo e=>zF.extBut _ o Xa2 e) (λh4 ZX Jj=>H2 _ (Zu ?_)) (by rw[show(ju scope J).kind=dZ from c.kind];rfl:((ju scope J).kind== .class ||((ju scope J).kind== .module && bh != J.globals))=ab)))));have t34:∀tk,Tk [br,bh] Y {Y with heap:=h4,toks:=tk}:=λtk=>.heap λb o D e=>Dp D λh1 h2=>Jj.extBut _ _ h2 (zF.extBut _ _ h1 e);have t4:∀tk,Tk [br,bh,aY,P'] s {Y with heap:=h4,toks:=tk}:=λtk=>t2.trans (t34 tk) λb D=>by apply se D<;>show ak au
  have c4:∃ps,h4.IsCode c' P' ps:=c2.imp λps q=>qg q (t34 0).keep (Gd Xa5 λh1 h2 _=>ME h1 h2) (ME Xa4.symm Xb4.symm);have F4:=cA _ (tB' (t4 (Y.toks+1))) c4;have r4:=Cr c F4.2.1 jB ZX Xb6 (Yn (nme Z) ((if_neg (λq=>absurd (Cy q) (uj Z))).trans hm2) (.ofInt _ tk) (Yn aL (if_pos Z) (.ik _) HNm.nil));show T.wx (mB .lt (ar _ Z) (uK F4.1 I dM F4.2.2.2.1 Zf oz (ar _ Z) Z) _ r4) λb s5 qQ=>fc qQ λe5 D=>?_;rw[D,show gT .lt (ai i) (ai ns.length)=N from decide_eq_true (sW.mpr ((dR.mp hv).1))];show H3 _<|have r5:=(r4.ext e5.ext).re;have t5:=(t4 _).trans (e5.tk (X:=[])) zi;have c5:∃ps,s5.heap.IsCode c' P' ps:=dF c4 λps q=>⟨ps,q.keeps λb o e=>(e5.tk (X:=[])).keep b o (λq=>kM q) e⟩;have F5:=cA _ (tB' t5) c5;fV (T.wX (um r5 (k:=kf) (u:=R f) ?_) ?_)
  .show J2 au hf
  show dF F5.2.2.2.2.1 λfd hfd=>pF (mN fd) fd<|eu (cu (T.wcE (B2 (fr:=N) F5.2.2.2.1 Zf oz (ar 93 Z) (ar 92 Z) hv Z _ r5) λu s7 F7 e7 V7 _=>c8 ?_));apply bM.zJ V7;intro t8;have t67:Tk [] s5 s7:=e7.tk;have t7:=t5.trans t67 zi;have c7:=dF c5 λps q=>DV ps (q.keeps λb o e=>t67.keep b o (λq=>kM q) e);have F7:=cA _ (tB' t7) c7;show⟨⟨t67.keep _ _ (λq=>kM q) hfd,rfl⟩,F7.2.2.2.2.2 A v t8 _ hh bK λa aS Ia cv s8 s9 t8 M=>dU M λM1 M2 M3 M4 M5 M6 _ alB=>hJ alB λ_ _ M10=>H4 _ _ ?_⟩;have t48:Tk [] {Y with heap:=h4,toks:=Y.toks+1} s8:=((e5.tk).trans t67 λ_ h=>nomatch h).trans t8 λ_ h=>nomatch h;have g9:=λA' R8=>M10 A' R8;have ns8:s8.heap.Ns bh _:=ZX.at' λo e=>t48.keep _ _ (λq=>kM q) e;have d8:s8.heap.get? aY=O (bp Q3 c0):=t48.keep _ _ (λq=>kM q) ((λb o q1 q2 e=>Jj.extBut _ _ q2 (zF.extBut _ _ q1 e):∀b o,b≠br->b≠bh->Y.heap.get? b=O o->h4.get? b=O o) _ _ Xa3 Xb3.symm d2);have li8:=(li3.at λo e=>Jj.extBut _ _ Xa2.symm e).at λo e=>t48.keep _ _ (λq=>kM q) e;show bf (Dl ns8) λoK eK nK=>?_;have nw:∀b o,s8.heap.get? b=O o->b∉[aS,Ia]:=λb o e q=>by have e:=(M6 b (bV _ q))▸e;ext
  have loop:=ZW (gens:=IE y p it0) (d:=2) (p1:=p1) (pos:=pos) (scope:=scope) (cenv:=jt scope cl bh J)
   (aN:=P6)
   rfl Z hh (f9 bK bD) (Apart.of M eK nK d8 (λu q=>by ext) Xb3 (bf F7.1.lim λ_ i _=>ff i λo _ _ e _=>⟨o,t8.keep _ _ (λq=>kM q) e⟩) Xb7 Xb8) Z c.kind (E 19 (nme Z)) (g9 _ hh) (ns8.at' λo e=>M4 _ o Xb4 e) (M4 _ _ Xb5 d8) ajv λs10 ys n m' t10 d10 ia alC=>?_
  .show cS<|Ei (g9 A hh).gen<|H5 _ _ (pJ Z loop (cS (Ei (g9 _ hh).gen loop)))
  .have ajw:Tk [bh,aY,P'] s8 s10:=⟨λb o D e=>by
    show Gd D λh1 h2 h3=>t10.keep b o (hb h1 (hb h2 (nw _ _ e))) (M4 b o h3 e),t10.os.trans M1,t10.drawn.trans M2,by
    show bf M3 λgs hg e=>?_;have:=t10.gens;rw[e]at this;show l9.sv hg this⟩
   show dF (dF c7 λ_ q=>dF (OA q) λo i1=>⟨o,t8.keep _ _ (λq=>kM q) i1⟩:∃o,s8.heap.get? c'=O o) λoc ec=>bf li8 λoL eL _=>H6 _ _ (Kh 0 _ (n1▸yo) (.over m' ys n ((t7.trans t8 zi).trans ajw λb D=>ak (bV _ D)) ?_ alC (li8.at λo e=>ajw.keep _ o (afc Xa2.symm Xa3.symm Xa4) e) d10 ia));show dF M5 λps9 q9=>((DV ps9 (qg q9 t10.keep (Gd Xa5 λ_ h2 h3=>hb h2 (hb h3 (nw _ _ ec))) (hb Xb4.symm (hb Xb5.symm ?_)))));show dF c7 λ_ q7=>dF (Bn q7) λ_ i8=>nw _ _ (t8.keep _ _ (λq=>kM q) i8)
 .show dF ((cA _ (tB' t2) c2).2.2.1) λnl hls=>cS<|Ka hh li (bU hls) Z λh3 zF=>have t3:Tk [br] Y {Y with heap:=h3}:=.heap λb o D e=>zF _ o (λq=>D (bJ.mpr q)) e;H0 _ (hR _ ys nd m (t2.trans t3 λb D=>ak (bJ.mp D▸cR ..)) (c2.imp λps q=>qg q t3.keep (sR (vE Xa5)) (sR Xa4.symm)) (zF _ _ Xa3 d2) ia (PZ.at' λo e=>zF _ o Xa2 e))
end
theorem Tq(l:LN)(wd:Nat):dJ (l++[wd])=dJ l++n9 wd:=by
 delta dJ
 rw[qm];rfl
theorem Oe(v:Nat):lz (Ah v) 8=(n9 v).map ai:=by rfl
section
variable{f:af}
theorem J1.on{bh aY br L':af}(X:J1 c' P' bh aY br sB)(t:Tk [P'] sB s)(hc:∃o,s.heap.get? c'=O o)(hP:∃o,s.heap.get? P'=O o)(hK:∃o,s.heap.get? bh=O o)(hD:∃o,s.heap.get? aY=O o)(hL:s.heap.get? L'=ah):J1 c' P' bh aY L' sB:=
 have ne:∀x,(∃o,s.heap.get? x=O o)->x≠L':=λx e q=>by have e:=hL▸q▸e;show e.elim λ_ e=>Bg e
 ⟨⟨t.none (λq=>ne P' hP (bJ.mp q).symm) hL,ne _ hK,ne _ hD,(ne _ hP).symm,λq=>(bq.mp q).elim (ne _ hc) λq=>X.1.2.2.2.2 (bY _ q)⟩,X.2⟩
inductive alD(c' P' bh aY RI:af)(ns:LN)(s:ae)(k:Nat)(Y:ae):Prop
 |mk (i:Nat) (ys:List aa) (n:Nat) (m:aV->Option aa) (e:k=ns.length - i) (hi:i<=ns.length) (t:Tk [RI,bh,aY,P'] s Y) (c:∃ps,Y.heap.IsCode c' P' ps) (nn:Y.heap.Ns bh m) (r:ml Y.heap RI i ((ns.length:Int) - i) 1)
  (d:Y.heap.get? aY=O (bp ys n)) (ia:fk ys ((dJ (ns.take i)).map ai))
theorem Tr{bh aY RI:af}{p:Nat->cJ}(hh:dh A)(bK:A.depth<900)(I:dQ mg mb)(c:ed L scope [y,83] [92,93,19])(dM:Gi scope "len")(jB:∀z∈[y,83],cl.lookup (NM z)=J.cells.lookup (NM z))(hy:ck G y=O (ky,aH (R l)))(hf:ck G 83=O (kf,aH (R f)))(oz:l8 ns)(Zf:d∉bX)(cA:∀Y,Tk [P'] sB Y->(∃ps,Y.heap.IsCode c' P' ps)->BCx mg mb L J G l d f c' P' ns Y)(X:J1 c' P' bh aY RI sB)(tB:Tk [P'] sB s)(hc:∃ps,s.heap.IsCode c' P' ps)(hr:ml s.heap RI 0 ns.length 1)(wK:s.heap.Ns bh m0)(oy:s.heap.get? aY=O (bp [] 0))(hR:∀Y ys n m',Tk [RI,bh,aY,P'] s Y->(∃ps,Y.heap.IsCode c' P' ps)->Y.heap.get? aY=O (bp ys n)->fk ys ((dJ ns).map ai)->Y.heap.Ns bh m'->aN (bW cL) Y):
 CC A (hx (cE (aq (NM 19) p1) (IE y p it0) scope pos) 0 (R RI) (R aY) (jt scope cl bh J)) s aN:=by
 show fc X λXa Xb=>jc Xa λXa1 Xa2 Xa3 Xa4 Xa5=>dU Xb λXb1 Xb2 Xb3 Xb4 _ Xb6 _ _=>?_;have tB':∀{Y},Tk [RI,bh,aY,P'] s Y->Tk [P'] sB Y:=λt=>tB.trans t λb D=>by
  apply tO D
  .show aw Xa1
  .show aw Xb1
  .show aw Xb2
  .show ak (cR ..)
 show H7 (target':=aq (NM 93) (p 1)) (iter':=aq (NM y) (p 2)) (ifs':=[jw (aq (NM 92) (p 3)) [FK] [bx (aq (aB "len") (p 4)) [aq (NM 93) (p 5)] [] (p 6)] (p 7)]) Z Z (λ_=>rfl) (alD c' P' bh aY RI ns s) ?_ ns.length ⟨0,[],0,_,rfl,fj _,.refl _ _,hc,wK,hr,oy,qB⟩;rintro k Y Kp P1 P2 P3 P4 P5 P6 Kh H0 H1 H2 H3 _ H4 H5 H6 ⟨i,ys,n,m,dX,hi,t2,c2,PZ,r2,d2,ia⟩;rcases AS hi with jA|rfl
 .show cS<|TF r2 au λh3 r3 zF=>H1 _ _ (C.eq (a:=()) Z (cS (jD (sM (xG (c.locs 92 (nme Z))) (PZ.at' λo e=>zF.extBut _ o Xa2 e) (λh4 ZX Jj=>H2 _ (uO (H3 _ ?_))) (by rw[show(ju scope J).kind=dZ from c.kind];rfl:((ju scope J).kind== .class ||((ju scope J).kind== .module && bh != J.globals))=ab)))));have t34:∀tk,Tk [RI,bh] Y {Y with heap:=h4,toks:=tk}:=λtk=>.heap λb o D e=>Dp D λh1 h2=>Jj.extBut _ _ h2 (zF.extBut _ _ h1 e);have t4:∀tk,Tk [RI,bh,aY,P'] s {Y with heap:=h4,toks:=tk}:=λtk=>t2.trans (t34 tk) λb D=>by apply se D<;>show ak bw
  have c4:∃ps,h4.IsCode c' P' ps:=c2.imp λps q=>qg q (X:=[RI,bh]) (t34 0).keep (Gd Xa5 λh1 h2 _=>ME h1 h2) (ME Xa4.symm Xb4.symm);have F4:=cA _ (tB' (t4 (Y.toks+1+1))) c4;show Lake.T.wX (um (Cr (dB:=[]) c F4.2.1 jB ZX Xb6 HNm.nil) (x:=y) (k:=ky) (u:=R l) (J2 bw hy))<|H4 _ _<|og λgG kG=>?_;obtain⟨nl,hls⟩:=F4.2.2.1;obtain⟨v,hv⟩:∃v,ns[i]? =O v:=⟨_,dE jA⟩;show kG ?_;clear kG gG;have d4:h4.get? aY=O (bp ys n):=Jj.extBut _ _ Xb3.symm (zF.extBut _ _ Xa3 d2);have hly:ys.length=8 * i:=by have:=ia.length;rw[ig,pY,AM,UZ hi]at this;show this
  show cS (uV (bU hls) ?_);have nL:h4.get? h4.objs.size=ah:=bz _;have tp:∀b o,h4.get? b=O o->(h4.push {cls:=ao "list_iterator",data:=bF #[R l,ag 0 0]}).get? b=O o:=λb o e=>aZ _ e;have eL:(h4.push {cls:=ao "list_iterator",data:=bF #[R l,ag 0 0]}).get? h4.objs.size=O {cls:=ao "list_iterator",data:=bF #[R l,ag 0 0]}:=bI _ Z;have nwL:∀b o,h4.get? b=O o->b≠h4.objs.size:=λb o e q=>by have e:=nL▸q▸e;show Bg e
  dsimp only at nL eL nwL ⊢;generalize h4.push {cls:=ao "list_iterator",data:=bF #[R l,ag 0 0]}=h5 at tp eL ⊢;generalize h4.objs.size=br at nL eL nwL ⊢;have t5:∀X tk,Tk X {Y with heap:=h4,toks:=Y.toks+1+1} {Y with heap:=h5,toks:=tk}:=λX tk=>.heap λb o _ e=>tp b o e;obtain⟨ps4,q4⟩:=c4;have Xo:J1 c' P' bh aY br sB:=X.on (tB' (t4 (Y.toks+1+1))) (OA q4) (Bn q4) (bf (Dl ZX) λo e _=>⟨o,e⟩) ⟨_,d4⟩ nL;have loop:=abf (mg:=mg) (mb:=mb) (A:=A) (s:={Y with heap:=h5,toks:=Y.toks+1+1}) (p:=p) (p1:=p1) (pos:=pos) (it0:=it0) (m0:=λz=>if z=NM 92 then O (ag (i:Int) Y.toks) else m z) (tk:=Y.toks)
   (aN:=P6)
   hh bK I c dM jB hf oz Zf hv cA Xo ((tB' (t4 _)).trans (t5 [] _) zi) ⟨ps4,q4.keeps tp⟩ (kJ _ eL Z Z) (ZX.at' λo e=>tp _ o e) (if_pos Z) (tp _ _ d4) (by rw[hly];have:=oz.2;lia) λs7 zs n7 m7 t7 c7 d7 ia7 ns7=>?_
  .show H5 _ _ (pJ Z loop (cS (TN (l:=l) (i:=0) (kJ _ eL Z Z) loop)))
  .show H6 _ _ (Kh (ns.length - (i+1)) _ (dX▸rJ jA (iZ i)) ⟨i+1,ys++zs,n7,_,rfl,jA,(t4 (Y.toks+1+1)).trans ((t5 [bh,aY,P'] (Y.toks+1+1)).trans t7 λb D=>(bq.mp D).elim (λq=>aw (q▸nL)) ak) λb D=>ak (bY _ D),c7,ns7,?_,d7,?_⟩)
   .have e2:(ns.length:Int) - ((i+1:Nat):Int)=(ns.length:Int) - i - 1:=by lia
    rw[e2,(by lia:((i+1:Nat):Int)=(i:Int)+1)];have r4:=Jj.extBut _ _ Xa2.symm r3;show t7.keep _ _ (ahf (nwL _ _ r4) Xa2.symm Xa3.symm Xa4) (tp _ _ r4)
   .rw [AK,hv,show(O v).toList=[v] from rfl,Tq,jH,<-Oe];show ia.append ia7
 .show cS (TH hh r2 au λh3 zF=>?_);have t3:Tk [RI] Y {Y with heap:=h3}:=.heap (tk:=Y.toks) λb o D e=>zF _ o (λq=>D (bJ.mpr q)) e;have ia:=sY▸ia;show H0 _ (hR _ ys n m (t2.trans t3 λb D=>ak (bJ.mp D▸cR ..)) (c2.imp λps q=>qg q (X:=[RI]) t3.keep (sR (vE Xa5)) (sR Xa4.symm)) (zF _ _ Xa3 d2) ia (PZ.at' λo e=>zF _ o Xa2 e))
end
section
variable{f:af}
def Yo(y:Nat)(q:Nat->cJ)(wA:dw):aG:=bx (aq (aB "range") (q 0)) [bx (aq (aB "max") (q 1)) [cE (bx (aq (aB "len") (q 2)) [aq (NM 93) (q 3)] [] (q 4)) [⟨aq (NM 93) (q 5),aq (NM y) (q 6),[],0⟩] wA (q 7)] [] (q 8)] [] (q 9)
theorem aeq{p q:Nat->cJ}(hh:dh A)(bK:A.depth<900)(I:dQ mg mb)(c:ed L scope [y,83] [92,93,19])(c2:ed L wA [] [93])(dM:Gi scope "len")(abg:Gi wA "len")(hr:Gi L "range")(hm:Gi L "max")(hy:ck G y=O (ky,aH (R l)))(hf:ck G 83=O (kf,aH (R f)))(oz:l8 ns)(Zf:d∉bX)(hc:∃ps,s.heap.IsCode c' P' ps)(cA:∀Y,Tk [P'] s Y->(∃ps,Y.heap.IsCode c' P' ps)->BCx mg mb L J G l d f c' P' ns Y)(hq:∀aY Y ys n,Tk [P'] s Y->(∃ps,Y.heap.IsCode c' P' ps)->s.heap.get? aY=ah->Y.heap.get? aY=O (bp ys n)->fk ys ((dJ ns).map ai)->Q (R aY) Y):
 C A (a7 (cE (aq (NM 19) p1) (IE y p (Yo y q wA)) scope pos) J) s Q:=by
 have F:=cA s (.refl _ _) hc;show dF F.2.2.1 λnl hl=>bf (c.OL F.2.1 (by simp[pW,hy,hf])) λcl jB wN=>have up:∀{a b:ae},Tk [] a b->Tk [P'] a b:=λt=>(Tk.refl [P'] _).trans t zi;QR c jB (λ_=>rfl)<|QS c2 abg hr hm hh F.1 I F.2.1 hy hl F.2.2.2.1 Zf oz λrr s1 t u v t1 ϴ=>cS<|An ϴ (u9 fF (kbt_pos 62) fF (by have:=oz.2;lia))<|(by rw[uZ];split<;>lia:lR 0 (ns.length:Int) 1=(ns.length:Int)).symm▸?_;have tp:Tk [] s1 {s1 with heap:=s1.heap.push {cls:=ao "range_iterator",data:=bF #[da 0,da (ns.length:Int),da 1]}}:=.heap λb o _ e=>aZ _ e;have nR:s1.heap.get? s1.heap.objs.size=ah:=bz _;have eR:(s1.heap.push {cls:=ao "range_iterator",data:=bF #[da 0,da (ns.length:Int),da 1]}).get? s1.heap.objs.size=O {cls:=ao "range_iterator",data:=bF #[da 0,da (ns.length:Int),da 1]}:=bI _ Z;have top:Q5<=(s1.heap.push {cls:=ao "range_iterator",data:=bF #[da 0,da (ns.length:Int),da 1]}).objs.size:=jz (H:=[]) F.1.top ((t1.trans tp zi).x);generalize s1.heap.push {cls:=ao "range_iterator",data:=bF #[da 0,da (ns.length:Int),da 1]}=h2 at tp eR top ⊢;generalize s1.heap.objs.size=RI at nR eR ⊢;have t2:=t1.trans tp zi;show gI top (λA' fy Q t hQ=>cS (TJ (t.keep _ _ (λq=>kM q) eR) hQ)) (λaY bh fy t hD hK Ow hKT oy wK=>?_);have t4:=t2.trans t zi;have nw2:∀b,h2.get? b=ah->∀x o,s.heap.get? x=O o->b≠x:=λb e x o e2 q=>by have e:=(t2.keep _ _ (λq=>kM q) e2)▸q▸e;ext
 have nwR:∀x o,s.heap.get? x=O o->RI≠x:=λx o e2 q=>by have nR:=(t1.keep _ _ (λq=>kM q) e2)▸q▸nR;ext
 show og λgG kG=>(tN (hc.imp λ_ q=>(mz q).2) λps oc oP i1 i8 _=>?_);obtain⟨mc,⟨os,_,_,es,_⟩,_⟩:=F.1.lim;show kG ?_;clear kG gG;show Tr hh bK I c dM wN hy hf oz Zf cA ⟨⟨t1.none (λq=>kM q) nR,λq=>(by have hK:=eR▸q▸hK;ext),λq=>(by have hD:=eR▸q▸hD;ext),nwR _ _ i8,λq=>?_⟩,t2.none (λq=>kM q) hK,t2.none (λq=>kM q) hD,Ow.symm,nw2 _ hK _ _ i8,nw2 _ hD _ _ i8,hKT,nw2 _ hK _ _ es,nw2 _ hD _ _ es⟩
  (up t4) ((λt=>hc.imp λps q=>q.keeps λb o e=>t.keep b o (λq=>kM q) e) t4) (t.keep _ _ (λq=>kM q) eR) wK oy λY ys n m' t5 c5 d5 ia ns5=>cn m' ns5 (λh' sb=>?_)
 .simp only[bq,mX,or_false]at q;rcases q with q|q|q
  .show nwR _ _ i1 q.symm
  .show nw2 _ hK _ _ i1 q.symm
  .show nw2 _ hD _ _ i1 q.symm
 .have t6:=(up t4).trans t5 λb D=>by
   apply tO D
   .show aw (t1.none (λq=>kM q) nR)
   .show aw (t2.none (λq=>kM q) hK)
   .show aw (t2.none (λq=>kM q) hD)
   .show ak (eO ..)
  show hq aY {Y with heap:=h'} ys n (t6.trans (.heap λb o D e=>sb.extBut _ _ (λq=>D (bJ.mpr q)) e) λb D=>aw (bJ.mp D▸t2.none (λq=>kM q) hK)) (c5.imp λps q=>qg q (λb o D e=>sb.extBut _ _ (λq=>D (bJ.mpr q)) e) (λq=>nw2 _ hK _ _ i1 (bJ.mp q).symm) λq=>nw2 _ hK _ _ i8 (bJ.mp q).symm) (t2.none (λq=>kM q) hD) (sb.extBut _ _ Ow d5) ia
end
section
open Builtin
variable{t:a8}
theorem Of:seqRepeat? (ao "bytes")=pure (O (bB "bytes.__mul__")):=by rfl
theorem Ed:gQ table "bytes.__mul__" =O Builtin.«bytes.__mul__»:=mi (rfl)
theorem Tt{b:Array UInt8}(D:b.size=1)(h:Q (uS #[] s.toks) {s with toks:=s.toks+1}):aE (aD prog w) A (binaryOp vA (uS b t) (ag 0 u)) Q a0 s:=by
 show wpAny_binaryOp_repeat (rfl) (λY=>typeIs_bytes Y b t) (λY=>sP Y 0 u) W.BMul.noFill F.fills_int_mul FA Of VT.lookup
  (call_gives FA (sP s 0 u) VU (VO _ _) (m:=Made.val Value.notImplemented) ?_ ⟨rfl,jU W.BMul.slot_mul (typeIs_bytes s b t) Ed ?_ (W.BMul.args_mul _ _)⟩)
 .show WC λM A a0 s Q h=>by obtain⟨hp,g,d,tk,os⟩:=s;wp_walk;show cn _ Z h
 .show aj<|aj<|aC<|aC<|(?_:aE _ _ (if(b.size * (0:Int).toNat==b.size)=N then _ else _) _ _ _);rw[if_neg (by rw[D];decide)];rw[(by delta Bytes.repeated;split<;>rfl:Bytes.repeated b (0:Int).toNat=#[])];show aj (wpAny_mkBytes (aC (cn _ Z h)))
end
theorem Yp{i:aG}{f:MK->Option aa}{k:Int}(hm:U.MapOf (d0) d f)(hd:d∉bX)(hv:f (.int k)=O v)(he:V H U A L J G e (aH (R d)) ab)(hi:V H U A L J G i (a6 k) ab)(sj:kg i=ab):
 V H U A L J G (dk e i pos) (aH v) fr:=λs r=>by
 show rO<|(he s r).ο λax e1=>(hi ax (r.ext e1.ext)).CA λt aP e2=>have hm2:aP.heap.MapOf (d0) d f:=ff hm λo es ep h1 h2=>Bj o es ep ((r.base.trans (e1.trans e2).ext).keep d o hd h1) h2;tH hm2.typeIs slot_dict_getitem.lookup (wpAny_getItem_of (beq_self_eq_true k) hm2 hv (o6 [] ((e1.trans e2).trans (.toks _ _)) (.ik _) d9)) (uE sj _ _)
section
variable{Q:cb->ae->Prop}
theorem PL.called(p:PL H U L J aK bo bu G S br Gs s)(q:PL τ' U sc' fX s [] (S.map (·.1)) G' S' L' Yt Y)(hi:∀y∈S,gh y.2=N):PL τ' U L J aK bo bu G S' (L'++br) Gs Y:=by
 have c:=p.ps.called q.ps hi;show lZ p.fr λW r hW dj dL=>?_;have m:sL (S.map (·.1)) s Y:=by have:=q.mod;show this
 have r':=r.ah7 q.ps.ext (λb o D ht e=>m.mod.keep b o D ht e) (λb D=>by show bf (bH.mp D) λy hy e=>?_;subst e;show iL (p.sg y hy) λc1 c2 c3 c4=>(⟨r7 c1 (hi y hy),c2,dj y hy⟩))
 have hWs:∀b∈W,s.heap.get? b≠ah:=λb hb' q=>oX (r.jh b hb') λ_ _ o e _=>by have e:=q.symm.trans e;ext
 show⟨(wC W r' hW (λy hy hw=>ba (q.lE y hy) (λh=>bf (bH.mp h) λz hz e=>(dj z hz (e▸hw))) λh=>hWs _ hw h) (λy hy hw=>ba (bZ.mp hy) (λh=>hWs _ hw (q.lg y h).2.2.1) λh=>dL y h hw)),q.sg,λy hy=>?_,c.mod,c.lE,λy hy=>⟨m.gens.1 _ _ (p.gk y hy).1,(p.gk y hy).2⟩⟩;rcases bZ.mp hy with h|h
 .show jc (q.lg y h) λa1 a2 a3 a4 a5=>⟨a1,a2,p.mod.mod.new a3,a4,a5⟩
 .show jc (p.lg y h) λa1 a2 a3 a4 a5=>(⟨m.mod.keep _ _ a5 a2 a1,a2,a3,a4,λhz=>?_⟩);show bf (bH.mp hz) λz hz e=>?_;rcases q.lE z hz with k|k
  .show a5 (e▸k)
  .have k:=a1▸e▸k;ext
def uh(d:af)(ns ms:LN)(ok:aa->ae->Prop):Prop:=
 ∀(A':bR) u s,dh A'->ok u s->s.heap.get? d=O (kF ns)->C A' (call (bB "bytearray.extend") [R d,u]) s (λv Y=>v=aA/\Tn [d] s Y/\Y.heap.get? d=O (kF ms))
theorem uh.list(hms:∀x∈ms,x<256)(dM:ns.length+ms.length<=1000):uh d ns (ns++ms) (λu s=>∃F,bM s.heap (aX ms) u F):=λA' u s hh qQ ho=>dF qQ λF aO=>by show iP aO λla vs n F' dX _ Gu V' _=>dX▸w6 hh ho Gu (intsAre_of V' (dS ms)) hms (by rw[gJ];show dM) λs3 tn ho3=>gI Z tn ?_;rw[XH]at ho3;show ho3
theorem uh.nil(dM:ns.length<=1000):uh d ns ns (λu s=>u=uS #[] tb):=λA' u s hh e ho=>by subst e;show I1 ho (by rw[gJ];show dM) λs3 tn ho3=>gI Z tn ho3
theorem ZY{ok:aa->ae->Prop}(hh:dh A)(X:(iE P t f).In U)(p:PS H U (bc (vI 3)) J aK bo bu G S s)(h1:ck G 110=O (k1,aH (R b)))(h2:ck G 111=O (k2,av))(yR:∀y∈ji b dx d ns,y∈S)(hn:l8 ns)(oz:∀u s F,bM s.heap av u F->ok u s)(E:uh d ns ms ok)(hS:∀y∈S',(y.1=d/\y.2=kF ms)\/(y.1≠d/\y∈S))(kk:∀Y,PS H U (bc (vI 3)) J aK bo bu G S' Y->Q cL Y):C A (aU (bg (vI 3)) J) s Q:=by have D:=p.Hz yR hn;show zZ (by show bf p.fr λW r _=>?_;delta iJ;show r.scope.symm▸?_;rfl) Z (rX Z Z Z (Xg ((V.data (fr:=N) (jm X p.ext) D.obj D.Xt D.t1 D.t2 h1) s p.er) λax e1 pl=>?_));have p1:=p.grow e1;have hd:(d,kF ns)∈S:=yR _ (List.mem_of_getLast? rfl);have Q1:=p1.get hd;show cS<|T5 (eU Q1) zy pE xn (λa ea=>by obtain rfl:=j9 ea;show cn _ Q1 Z)<|dg Z (eu (cu (Lake.T.wcV (wb (p.er.ext e1.ext) h2) λu F2 V2=>c8 (lV ⟨rfl,?_⟩))));show(E A u ax hh (oz u ax F2 V2) Q1).mono λv s3 qQ=>hJ qQ λe3 tn ho3=>⟨e3,fg (kk s3 (p1.turn hd Z tn ho3 Z hS))⟩
theorem J3{o:aG}(hh:dh A)(bK:A.depth<990)(B:cx U mg mb)(gy:pT U P t f)(p:PL H U L J aK bo bu G S br Gs s)(hi:∀y∈S,gh y.2=N)(he:V H s.heap A L J G o (aH (R b)) ab)(dH:cH e=ab)(yR:∀y∈ji b dx d ns,y∈S)(hn:l8 ns)(xo:uY o (aB "extend") J (a7 o J)=a7 o J)(lB:(apos.endLine==cpos.line)=N)(wy:iJ J=ab)(hS:∀y∈S',(y.1=d/\y.2=kF ms)\/(y.1≠d/\y∈S))(hE:∀ax,dG H s ax->PL H U L J aK bo bu G S br Gs ax->C A (a7 e J) ax (λu aP=>∃L' Yt av F ok,PL H U L J aK bo bu G S L' Yt aP/\bM aP.heap av u F/\(∀u s F,bM s.heap av u F->ok u s)/\uh d ns ms ok/\
 ∀Y,PL H U L J aK bo bu G S' L' Yt Y->C A (aU rest J) Y Q)):
 C A (aU (qy (bx (gZ o (aB "extend") apos) [e] [] cpos) pos::rest) J) s Q:=by
 show zZ wy Z<|HI gy.pH p.ps he yR hn afJ acN Z gy.ϯ xo (by rw[l6 dH];rfl) lB λax e1=>bf p.open λW q back=>?_;rw[l6 dH];show eu (cu ((hE ax e1 (back _ _ _ _ (q.grow e1))).mono λu aP qQ=>wB qQ λL' Yt av F ok p2 aO oz E k=>c8 ⟨⟨_,p2.ps.ext⟩,?_⟩));show zx (us:=[R b,u]) (avs:=[aH (R b),av]) (F:=F) [110,111] B p2.ps.ext (f9 bK bD) gy.ϯ Z Z Z ?_ (ej [] F (.ik _) (DX _ [] F [] rfl aO .nil (lh (yg F)))) aL Z aL p2.ps.sg λs3 L3 p3=>ZY (hh) gy.pH p3 Z Z yR hn oz E hS λs4 p4=>⟨rfl,k s4 (p2.called p4.pl hi)⟩;have D:dy (f 1) ⟨[R b,u],[]⟩=pure (([110,111].map NM).zip [R b,u]):=by
  delta dy
  show gy.ϯ.params.symm▸gy.afL.symm▸?_;rfl
 show D.symm▸aC ⟨rfl,rfl⟩
end
def lY:cg:=dP 21
def ZZ(U:aQ)(mg:aV->Option aa)(P:cf)(t:Nat->a8)(f:Nat->cq)(P2:cf)(t2:Nat->a8)(fd:cq)(lg ex gen:LN)(gp:af)(Oy:cq):Prop:=
 (iE P t f).In U/\
 ac5 U f/\
 Eb U P2 t2 fd/\
 L_ U lg ex gen gp/\
 mg (aB "GALIOS_LOG")=O (R 1888)/\
 mg (aB "GALIOS_EXP")=O (R 1890)/\
 mg (aB "GEN_POLY")=O (R 1868)/\
 (∃f5,U.IntMap 1868 f5/\f5 (ai gen.length)=O (R gp))/\
 mg (aB "make_blocks")=O (R 1931)/\
 rb U 1931 Oy jn/\
 Oy.defaults=aA
def IF(U:aQ)(lv:Nat)(ta ei:af)(ns:LN):Prop:=
 (∃f1 d2 f2,U.MapOf (d0) 139 f1/\f1 (.int (-2))=O (R d2)/\U.MapOf (d0) d2 f2/\d2∉bX/\f2 (.int (ai lv))=O (R ta))/\
 (∃m,U.get? ta=O (cV [R ei] m))/\
 ta∉bX/\
 Cc U ei ns
section
variable{Q:cb->ae->Prop}
theorem aer(hh:dh A)(E:Hx L x)(hy:Hx L y)(h1:bT G x=N)(h2:bT G y=N)(hs:swapsWithSole [fM [aq (NM x) px,aq (NM y) py] k0 pt] e pos.line J=pure ab)(hw:u4 [fM [aq (NM x) px,aq (NM y) py] k0 pt] e J=pure ah)(he:C A (a7 e J) s (λv ax=>∃τ' S' L' Yt u1 u2,PL τ' U L J aK bo bu G S' L' Yt ax/\bM ax.heap (fG [aH u1,aH u2]) v []/\
 ∀Y,PL τ' U L J aK bo bu (jk (jk G x 0 (aH u1)) y 0 (aH u2)) S' L' Yt Y->C A (aU rest J) Y Q)):
 C A (aU (ez [fM [aq (NM x) px,aq (NM y) py] k0 pt] e pos::rest) J) s Q:=by
 show ij<|C.bind<|C.standAt<|hs.symm▸C.bind (C.pure ?_);show C.bind<|he.mono λv ax ow=>jg ow λτ' S' i=>Bh i λL' Yt u1 u2 p aO k=>?_;rw[hw];show ?_;show C.bind (m:=assignAll v _)<|og λgG kG=>gH aO λa ws n dX hT ho aO=>kG ?_;clear kG gG;show dX▸og λgG kG=>?_;obtain⟨w1,ws1,F1,F2,qI,V1,aO,_⟩:=aO;show kG ?_;clear kG gG;subst qI;show og λgG kG=>?_;obtain⟨w2,ws2,F3,F4,DY,V2,aO,_⟩:=aO;show kG ?_;clear kG gG;subst DY;obtain⟨Ol,_⟩:=aO;subst Ol;have e1:=V1.DI;have e2:=V2.DI;subst e1 e2;show T.wx ?_ λ_ Y p'=>C.pure (k Y p');show(?_:aE _ A (jG (fM [aq (NM x) px,aq (NM y) py] k0 pt) J (R a)) _ _ _);show Kd hh ⟨_,ho,rfl,n,rfl⟩ Z Z λh3 he=>bf p.open λW q back=>aj<|cQ<|jD<|((back _ _ _ _ (q.grow (Y:={ax with heap:=h3}) ⟨.of_keep λc o e=>he c o (fB (cj e)) e,rfl,rfl,rfl⟩)).store E h1 (.ik w1)).wp λ_ s4 p4=>aj<|cQ<|jD<|(p4.store hy (Bz h2) (.ik w2)).wp λ_ s5 p5=>aC p5
theorem ajx{lg:LN}{bt m:Nat}{Q:aa->ae->Prop}(hh:dh A)(bK:A.depth<790)(B:cx U mg mb)(I:dQ mg mb)(I2:uc mg mb)(hT:gm U)(gy:ZZ U mg P t f P2 t2 fd lg ex gen gp Oy)(pn:1979∉H)(kz:1979∈τ')(nO:∀b∈H,b∈τ')(kQ:Gi L "make_blocks")(ht:U.get? ta=O (cV [R ei] m))(htT:ta∉bX)(hE:Cc U ei [1,bt,n+1])(hbt:bt=n+1+gen.length)(hn:l8 ns)(dM:ns.length=8 * (n+1))(Ad:∀x∈ns,x<2)(hw:l8 (wordsOf ns (n+1)))(Ik:n+1<=100)(p:PL H U L J aK bo bu G S br Gs s)(hi:∀y∈S,gh y.2=N)(h84:ck G 84=O (k1,aH (R ta)))(h82:ck G 82=O (k2,aH (R b)))(yR:∀y∈ji b dx d ns,y∈S)(hq:∀v Y l1 l2 bl Ox k1 k2 rr o,PL τ' U L J aK bo bu G ((Ox,kF ((gV lg ex gen (wordsOf ns (n+1)++b8 gen.length 0) (wordsOf ns (n+1)).length).drop (wordsOf ns (n+1)).length))::(bl,kF (wordsOf ns (n+1)))::(rr,o)::S) ([(l1,bp [R bl] k1),(l2,bp [R Ox] k2)]++br) Gs Y->
 bM Y.heap (fG [aH (R l1),aH (R l2)]) v []->Q v Y):
 C A (a7 (bx (aq (aB "make_blocks") np) [aq (NM 84) p1,aq (NM 82) p2] [] pos) J) s Q:=by
 show dU gy λO1 O2 O3 O4 O5 O6 O7 alE=>iL alE λO8 O9 O10 O11=>?_;show bf O8 λf5 m5 v5=>sy [aH (R ta),aH (R b)] B p.ps O9 kQ (rfl) O10 (fJ.cons (ar _ h84) (fJ.cons (ar _ h82) fJ.nil Z) Z) Z λvs ax F e1 aO=>bf p.open λW q back=>?_;have pq:=back _ _ _ _ (q.grow e1);have V':=aO;obtain⟨v1,vs1,F1,F2,dX,V1,V',qI⟩:=V';subst dX;obtain⟨v2,vs2,F3,F4,DY,V2,V',Ol⟩:=V';subst DY;show fc V' λC' eQ6=>?_;subst C';show zx [84,82] B pq.ps.ext (f9 bK bD) O10 Z Z Z ?_ aO aL Z aL pq.ps.sg λs2 L2 p2=>adu (hh) au B I I2 O1 O2 O3 hT O4 pn kz nO O5 O6 O7 m5 v5 ht htT hE hbt hn dM Ad hw Ik p2 yR λY v l1 l2 bl Ox k1 k2 rr o p' V'=>hq v Y l1 l2 bl Ox k1 k2 rr o (pq.called p' hi) V';have D:dy Oy ⟨[v1,v2],[]⟩=pure (([84,82].map NM).zip [v1,v2]):=by
  delta dy
  show O10.params.symm▸O11.symm▸?_;rfl
 show D.symm▸aC ⟨rfl,rfl⟩
end
section
variable{Q:cb->ae->Prop}
theorem Tu(he:V H U A L J G e oZ ab):pO H U A L J G (jw e [CmpOp.IsNot] [fL rR k p] pos) ab:=λs r=>by show uT ((he s r).tR λv ax F1 e1 V1 _=>aC ?_) Z;have ev:v=aA:=V1.1;subst ev;show wpAny_isNot_self Z (mf ⟨e1,rfl⟩)
def QT:List aG->Option (List Int)
 | []=>O []
 |e::r=>(SY e).bind λc=>(adW c).bind λi=>(QT r).map (i::·)
theorem fJ.QT:∀{ms:List Int},Lake.QT es=O ms->fJ H U A L J G es (ms.map a6):=by
 induction es with
 |nil=>intro ms h;obtain rfl:=aW h;show fJ.nil
 |cons e r iH=>intro ms h;show bf (LP.mp h) λc h1 h=>bf (LP.mp h) λi h2 h=>bf (jb.mp h) λl h3 dX=>dX▸bf (jb.mp h1) λq h4 dX=>?_;subst dX;show QE (ZL e) h4▸S4 h2▸fJ.cons V.int (iH h3) Z
theorem Og(ms:List Int)(x:Int){a:aG}(B:Tp U)(ha:V H U A L J G a (a6 x) ab)(hc:Lake.QT es=O ms)(hl:dY ms.length 1000=N)(hm:Em yD (fM es k p)=ab):
 pO H U A L J G (jw a [yD] [fM es k p] pos) (ms.any (· ==x)):=
 (Xv ha (uo B (fJ.QT hc) (Gm (nZ ms)) (by rw[ig];show hl)) (nZ ms) hm)
def DT(c P:af)(oc oP:bE):Prop:=Ai oP/\(∀vs n,oP.data≠bQ vs n)/\∀h:aQ,h.get? c=O oc->h.get? P=O oP->∃ps,h.IsCode c P ps
theorem DT.of{c P:af}(hc:h.get? c=O oc):(∃ps,h.IsCode c P ps)->∃oP,h.get? P=O oP/\DT c P oc oP:=λqQ=>dF qQ λps x=>by show Ga (mz x) λ_ o op i1 i8 i9 mk=>?_;obtain rfl:=aW (hc.symm.trans i1);show⟨op,i8,λu e=>by(have e:=i9▸e;ext),λ_ _ e=>by(have e:=i9▸e;ext),λh' e1 e2=>⟨ps,mk h' e1 e2⟩⟩
theorem alF(B:cx U mg mb)(I:dQ mg mb)(hT:gm U)(p:PL H U L J aK bo bu G S br Gs s)(hG:QP G=N)(F:abd ae8 fa c' P' dT t8 fd oc sa sb)(h1:(fa,mN fd)∈br)(h2:(c',oc)∈br)(h3:(P',oP)∈br)(h4:(dT,cV [ag 8 t8] 0)∈br)(h5:(l,bp [R d] kl)∈br)(h6:(d,kF ns)∈S)(hc:DT c' P' oc oP):
 ∀Y,Tk [P'] s Y->(∃ps,Y.heap.IsCode c' P' ps)->BCx mg mb L J G l d fa c' P' ns Y:=λY k qQ=>dF qQ λps oz=>by
 show dU F λF1 F2 F3 F4 F5 F6 F7 ag0=>dU ag0 λF8 F9 F10 F11 F12 _ F14 QO=>fc QO λF15 _=>?_;have p':=p.ae4 (L':=[]) hG hT k (λb D=>⟨oP,bJ.mp D▸h3,hc.1⟩) (zi);have nP:∀a o,(a,o)∈br->a≠P'->Y.heap.get? a=O o:=λa o h q=>k.keep _ _ (λe=>q (bJ.mp e)) (p.getL h);show jc (p.lg _ h3) λ_ q2 q3 q4 _=>?_;have nh:∀a o,U.get? a=O o->P'≠a:=λa o e q=>by have e:=q4▸q.symm▸e;ext
 have x1:=nP _ _ h1 (λq=>by have:=F1;have this:=F14▸q▸this;cases this);have Bp:=p'.ps.base B;show⟨Bp,p'.erE,⟨_,(nP _ _ h5 (λq=>by have:=p.getL h5;have this:=(p.getL h3)▸q▸this;obtain rfl:=aW this;show hc.2.1 _ _ Z))⟩,p'.ps.get h6,⟨fd,x1⟩,λA' v tk Q hh bK hq=>?_⟩;show gr F15 λc2 oc2 vs tq e1 e2 e3 e4=>?_;cases F11.symm.trans (F11.trans e1)
 rw[F12]at e2;obtain rfl:=aW e2;show og λgG kG=>?_;obtain⟨ob,eb⟩:=B.top;show bf B.lim λmc i1 _=>ff i1 λos _ _ es _=>ff B.g λom _ _ em _=>l0 B.bmod λbm obm hbm _ _ Rv _=>kG ?_;clear kG gG;show aen hh bK Bp I x1 F2 F3 F4 F5 F6 F7 F8 F9 (nP _ _ h4 (λq=>by have:=F10;have this:=F14▸q▸this;cases this)) F11 (nP _ _ h2 (Jm oz)) e3 e4 (p.lg _ h1).2.1 (p.lg _ h2).2.1 oz q2 (nh _ _ em) (nh _ _ eb).symm (nh _ _ es) (λbm' e=>by replace e:=hbm▸e;obtain rfl:=j9 (aW e);show nh _ _ Rv) λa aS Ia cv s1 s2 g1 g2 g3 g4 M=>hq a aS Ia cv s1 s2 ⟨λb o _ e=>g1 b o e,g3,g4,g2⟩ M
end
noncomputable def abh:List cJ->Nat->cJ
 | [],_=>⟨0,0,0,0⟩
 |p::_,0=>p
 |_::l,n+1=>abh l n
def QU(i:Nat):aG:=match a9 (bg lY) i with|qy (bx _ [e] _ _) _=>e |_=>fL rR 0 ⟨0,0,0,0⟩
def aes:aG->dw
 |cE _ _ L _=>L
 |_=>bc lY
def ajy:aG->aG
 |cE _ (c::_) _ _=>afd (afd c.iter)
 |e=>e
theorem ag1:∃p q p1 pos,QU 7=cE (aq (NM 19) p1) (IE 85 p (Yo 85 q (aes (ajy (QU 7))))) (aes (QU 7)) pos:=
 ⟨abh [_,_,_,_,_,_,_,_,_,_,_,_,_,_],abh [_,_,_,_,_,_,_,_,_,_],_,_,rfl⟩
theorem ag2:∃p q p1 pos,QU 9=cE (aq (NM 19) p1) (IE 86 p (Yo 86 q (aes (ajy (QU 9))))) (aes (QU 9)) pos:=
 ⟨abh [_,_,_,_,_,_,_,_,_,_,_,_,_,_],abh [_,_,_,_,_,_,_,_,_,_],_,_,rfl⟩
def abi(e:aG)(st:cg):Prop:=∃a1 a2 a3 a4,st=qy (bx (gZ (aq (NM 88) a1) (aB "extend") a2) [e] [] a3) a4/\(a2.endLine==a3.line)=N
theorem ag3:abi (QU 7) (a9 (bg lY) 7):=ae9 _ _ _ _ Z Z
theorem ag4:abi (QU 9) (a9 (bg lY) 9):=ae9 _ _ _ _ Z Z
section
variable{Q:cb->ae->Prop}
theorem r8(ws:LN):∀x∈dJ ws,x<2:=by
 have key:∀(l m:LN),(∀x∈m,x<2)->∀x∈l.foldl (λl wd=>l++n9 wd) m,x<2:=λl=>by
  induction l with
  |nil=>show λm h=>h
  |cons v l ih=>show λm h=>ih _ λx E=>(bZ.mp E).elim (h x) λq=>bf (bH.mp q) λp _ e=>e▸mZ _ bD
 show key ws [] zi
theorem Dm{aY:af}{ys:List aa}(hD:aY∉bX)(e:h.get? aY=O (bp ys n))(ia:fk ys (ms.map ai)):bM h (aX ms) (R aY) [aY]:=by have aO:=wJ (h:=h) ia;rw[qo]at aO;show sf [] hD e aO
theorem Yq{k8:Nat}(hh:dh A)(bK:A.depth<890)(B:cx U mg mb)(I:dQ mg mb)(hT:gm U)(gy:pT U P t f)(dH:abi e st)(hLC:∃p q p1 pos,e=cE (aq (NM 19) p1) (IE y p (Yo y q wA)) scope pos)(c:ed L scope [y,83] [92,93,19])(c2:ed L wA [] [93])(dM:Gi scope "len")(abg:Gi wA "len")(hr:Gi L "range")(hm:Gi L "max")(h88:ck G 88=O (k8,aH (R b)))(hy:ck G y=O (ky,aH (R l)))(hf:ck G 83=O (kf,aH (R fa)))(p:PL H U L J aK bo bu G S (La++(P',oP)::Lb) [] s)(hi:∀y∈S,gh y.2=N)(hG:QP G=N)(wy:iJ J=ab)(F:abd ae8 fa c' P' dT t8 fd oc sa sb)(qK:∀z∈La++Lb,z.1≠P')(h1:(fa,mN fd)∈La++Lb)(h2:(c',oc)∈La++Lb)(h4:(dT,cV [ag 8 t8] 0)∈La++Lb)(h5:(l,bp [R d2] kl)∈La++Lb)(h6:(d2,kF ws)∈S)(hc:DT c' P' oc oP)(hw:l8 ws)(yR:∀y∈ji b dx d ns,y∈S)(hn:l8 ns)(hsz:ns.length+8 * ws.length<=1000)(hS:∀y∈S',(y.1=d/\y.2=kF (ns++dJ ws))\/(y.1≠d/\y∈S))(kk:∀Y oP',DT c' P' oc oP'->PL H U L J aK bo bu G S' (La++(P',oP')::Lb) [] Y->C A (aU rest J) Y Q):C A (aU (st::rest) J) s Q:=by
 show og λgG kG=>?_;obtain⟨a1,a2,a3,a4,dX,lB⟩:=dH;obtain⟨pp,q,p1,pos,qI⟩:=hLC;show kG ?_;clear kG gG;subst dX;subst qI;have up:∀{z:af×bE},z∈La++Lb->∀oP,z∈La++(P',oP)::Lb:=λh oP=>ba (bZ.mp h) (λh=>de _ h) λh=>ew _ (bV _ h);have hP:∀oP,(P',oP)∈La++(P',oP)::Lb:=λoP=>ew _ (eO ..);show J3 (ms:=ns++dJ ws) hh (f9 bK bD) B gy p hi (ar _ h88) Z yR hn Z lB wy hS λax e1 p1=>aeq hh (f9 bK bD) I c c2 dM abg hr hm hy hf hw (p1.sg _ h6).2.1 (hc.2.2 ax.heap (p1.getL (up h2 _)) (p1.getL (hP _))) (alF B I hT p1 hG F (up h1 _) (up h2 _) (hP _) (up h4 _) (up h5 _) h6 hc) λaY s2 ys n k hc2 nD eD ia=>bf (DT.of (k.keep _ _ (λq=>qK _ h2 (bJ.mp q)) (p1.getL (up h2 _))) hc2) λoP' eP hc'=>((ahc (La++(P',oP')::Lb) [] (aX (dJ ws)) [aY] (λu s=>∃F,bM s.heap (aX (dJ ws)) u F) (p1.ae4 hG hT k (λb D=>⟨oP,bJ.mp D▸hP _,hc.1⟩) (λz hz=>?_)) (Dm (λq=>?_) eD ia) (λu s F aO=>⟨F,aO⟩) (uh.list (λx E=>f9 (r8 ws x E) bD) (by rw[pY];show hsz)) (λY p'=>kk Y oP' hc' p')))
 .have key:z∈La++Lb\/z=(P',oP'):=by show ba (bZ.mp hz) (λh=>ak (de _ h)) λh=>(bq.mp h).elim aw λh=>ak (ew _ h)
  rcases key with h|rfl
  .show ⟨ak (bH.mpr (cn z (up h _) Z)),k.keep _ _ (λq=>qK z h (bJ.mp q)) (p1.getL (up h _))⟩
  .show ⟨ak (bH.mpr (cn _ (hP oP) Z)),eP⟩
 .show dF (hT _ q) λo e=>(dF (p1.ps.ext.there _ o e) λo' e'=>?_);have e':=nD▸e';ext
end
section
variable{Q:cb->ae->Prop}
theorem Cs{c:aG}{a b:List cg}(p:PL H U L J aK bo bu G S br Gs s)(hc:pO H s.heap A L J G c ab)(k:∀Y,PL H U L J aK bo bu G S br Gs Y->C A (aU b J) Y (acD A J rest Q)):C A (aU (yt c a b pos::rest) J) s Q:=bf p.open λW q back=>(q.ite hc λY q'=>k Y (back _ _ _ _ q'))
theorem Oh(x:Nat)(av:AV)(p:PL H U L J aK bo bu G S br Gs s)(he:V H s.heap A L J G e av ab)(hf:flat av=N)(dH:bT G x=N)(E:Hx L x)(hs:fz e (O (aq (NM x) q)) pos.line J=pure ab)(k:∀Y,PL H U L J aK bo bu (jk G x 0 av) S br Gs Y->C A (aU rest J) Y Q):C A (aU (ez [aq (NM x) q] e pos::rest) J) s Q:=bf p.open λW q back=>(q.asg he hf dH E hs λY q'=>k Y (back _ _ _ _ q'))
def gMf(lv:Nat)(b fa ta l1 l2 r:af):iB:=[(72,0,a6 (-2)),(81,0,aT lv),(82,0,aH (R b)),(83,0,aH (R fa)),(84,0,aH (R ta)),(85,0,aH (R l1)),(86,0,aH (R l2)),(87,0,oZ),(88,0,aH (R r))]
def abj:List cg:=[a9 (bg lY) 8,a9 (bg lY) 9,a9 (bg lY) 10,a9 (bg lY) 11,a9 (bg lY) 12,a9 (bg lY) 13]
theorem alG{lv:Nat}{l1 l2 b1 d1 e1:af}{S0:Sg}(hh:dh A)(bK:A.depth<890)(B:cx U mg mb)(I:dQ mg mb)(hT:gm U)(gy:pT U P t f)(p:PL H U (bc lY) J aK bo bu (gMf lv b1 fa ta l1 l2 b) (ji b dx d []++(e1,kF cs)::(d1,kF ws)::S0) ([(l1,bp [R d1] k1),(l2,bp [R e1] k2),(fa,mN fd),(c',oc)]++(P',oP)::[(dT,cV [ag 8 t8] 0)]) [] s)(hi:∀y∈S0,gh y.2=N)(D':∀y∈(e1,kF cs)::(d1,kF ws)::S0,y.1≠d)(hbd:b≠d)(hxd:dx≠d)(wy:iJ J=ab)(F:abd ae8 fa c' P' dT t8 fd oc sa sb)(qK:∀z∈[(l1,bp [R d1] k1),(l2,bp [R e1] k2),(fa,mN fd),(c',oc)]++[(dT,cV [ag 8 t8] 0)],z.1≠P')(hc:DT c' P' oc oP)(hw:l8 ws)(hw2:l8 cs)(hsz:8 * ws.length+8 * cs.length<=1000)(kk:∀Y G',PS H U (bc lY) J aK bo bu G' (ji b dx d (dJ ws++dJ cs)++S0) Y->Q (cB (R b)) Y):C A (aU (a9 (bg lY) 7::abj) J) s Q:=by
 have Tv:∀(ns:LN) (X:Sg),∀y∈ji b dx d ns,y∈ji b dx d ns++X:=λ_ _ y hy=>de _ hy;have Η:∀(ns ms:LN) (X:Sg),(∀y∈X,y.1≠d)->∀y∈ji b dx d ms++X,(y.1=d/\y.2=kF ms)\/(y.1≠d/\y∈ji b dx d ns++X):=λns ms X hX y hy=>by
  show ba (bZ.mp hy) (λq=>?_) λq=>aw ⟨hX y q,ew _ q⟩;apply Dn q
  .show aw ⟨hbd,AG Z⟩
  .show aw ⟨hxd,by simp[ji]⟩
  .show ak ⟨rfl,rfl⟩
 have Gz:∀(ns:LN),∀y∈ji b dx d ns++(e1,kF cs)::(d1,kF ws)::S0,gh y.2=N:=λns y hy=>by
  rcases bZ.mp hy with q|q
  .simp only[ji,bq,mX,or_false]at q;rcases q with rfl|rfl|rfl<;>rfl
  .rcases bq.mp q with rfl|q
   .rfl
   .rcases bq.mp q with rfl|q
    .rfl
    .show hi y q
 have l1w:(dJ ws).length=8 * ws.length:=pY ws;have l1c:(dJ cs).length=8 * cs.length:=pY cs;have ag5:∀l,∀x∈dJ l,x<256:=λl x E=>f9 (r8 l x E) bD;show Yq (y:=85) (ky:=0) (kf:=0) (k8:=0) (kl:=k1) (l:=l1) (ns:=[]) (ws:=ws) hh bK B I hT gy ag3 ag1 (ed.of (by decide+kernel)) (ed.of (by decide+kernel)) (by rfl) (by rfl) (by rfl) (by rfl) Z Z Z p (Gz []) Z wy F qK (bV _ (bV _ (eO _))) (bV _ (bV _ (bV _ (eO _)))) (bV _ (bV _ (bV _ (bV _ (eO _))))) (eO _) (bV _ (bV _ (bV _ (bV _ (eO _))))) hc hw (Tv _ _) ⟨λ_ h=>(kM h),fj _⟩ (by rw[Le];lia) (Η _ (dJ ws) _ D') λs1 oP1 hc1 p1=>Cs p1 (Tu (ar 87 Z)) λs2 p2=>fg<|Yq (y:=86) (ky:=0) (kf:=0) (k8:=0) (kl:=k2) (l:=l2) (ns:=dJ ws) (ws:=cs) hh bK B I hT gy ag4 ag2 (ed.of (by decide+kernel)) (ed.of (by decide+kernel)) (by rfl) (by rfl) (by rfl) (by rfl) Z Z Z p2 (Gz _) Z wy F qK (bV _ (bV _ (eO _))) (bV _ (bV _ (bV _ (eO _)))) (bV _ (bV _ (bV _ (bV _ (eO _))))) (bV _ (eO _)) (bV _ (bV _ (bV _ (eO _)))) hc1 hw2 (Tv _ _) ⟨ag5 ws,by lia⟩ au (Η _ (dJ ws++dJ cs) _ D') λs3 oP3 hc3 p3=>Oh 89 (a6 0) p3 V.int Z Z (ak Z) Z λs4 p4=>Cs p4 (pO.to (Og [2,3,4,5,6] (-2) (p4.ps.base B).top (ar 72 Z) Z Z Z) Z) λs5 p5=>Cs p5 (pO.to (Og [14,15,16,17,18,19,20,28,29,30,31,32,33,34] (-2) (p5.ps.base B).top (ar 72 Z) Z Z Z) Z) λs6 p6=>Cs p6 (pO.to (Og [21,22,23,24,25,26,27] (-2) (p6.ps.base B).top (ar 72 Z) Z Z Z) Z) λs7 p7=>fg<|fg<|fg<|have okc:l8 (dJ ws++dJ cs):=⟨λx E=>(bZ.mp E).elim (ag5 ws x) (ag5 cs x),by rw[iu];lia⟩;J3 (ms:=dJ ws++dJ cs) hh (f9 bK bD) B gy p7 (Gz _) (ar (k:=0) 88 Z) Z (Tv _ _) okc Z Z wy (Η _ (dJ ws++dJ cs) _ D') λax x1 p8=>(cS (Ep (PySem.W.Constant_bytes ((wb (p8.er.ext (dG.toks ax (ax.toks+1)).ext) (x:=89) (k:=0) (av:=a6 0) Z).wpV λu F9 V9=>?_))));apply bM.zJ V9;intro tu;show bf p8.open λW q8 aai=>Tt Z ⟨_,_,aH (uS #[] _),[],λu s=>u=uS #[] (ax.toks+1),(aai _ _ _ _ (q8.grow (.toks ax (ax.toks+1+1)))),.ik _,λu s F aO=>aO.DI,uh.nil okc.2,λY p'=>?_⟩
 .show PS.afT (p'.ps.sub (S':=ji b dx d (dJ ws++dJ cs)++S0) λy hy=>ba (bZ.mp hy) (λq=>de _ q) λq=>ew _ (bY _ (bY _ q))) (ar (k:=0) (av:=aH (R b)) 88 Z) Z λY v q aO=>?_;have ev:=aO.DI;subst ev;show kk _ _ q
end
section
variable{Q:cb->ae->Prop}
theorem IF.alH{lv:Nat}{l:LN}(x:gU H U s.heap)(EA:IF U lv ta ei l):∃f1 d2 f2,s.heap.MapOf (d0) 139 f1/\f1 (.int (-2))=O (R d2)/\s.heap.MapOf (d0) d2 f2/\d2∉bX/\f2 (.int (ai lv))=O (R ta):=by show og λgG kG=>?_;obtain⟨f1,d2,f2,⟨o,es,ep,a1,a2⟩,b,⟨o',es',ep',c1,c2⟩,hd,e⟩:=EA.1;show kG ?_;clear kG gG;show⟨f1,d2,f2,⟨o,es,ep,x.keep _ _ (DU Z) a1,a2⟩,b,⟨o',es',ep',x.keep _ _ hd c1,c2⟩,hd,e⟩
theorem aet{lg:LN}{c:af}{lv:Nat}{v1 v3:a8}(hh:dh A)(bK:A.depth<780)(B:cx U mg mb)(I:dQ mg mb)(I2:uc mg mb)(hT:gm U)(gy:pT U P t f)(NB:rd U f)(OM:ZZ U mg P t f P2 t2 fd lg ex gen gp Oy)(hE:mg (aB "ECC")=O (R 139))(EA:IF U lv ta ei [1,n+1+gen.length,n+1])(hBf:mg (aB "Buffer")=O (R 2002))(hv1:mg (aB "VERSION_M1")=O (ag (-3) v1))(hv3:mg (aB "VERSION_M3")=O (ag (-1) v3))(pj:J.code=R c)(Pb:c∉bX)(oz:U.IsCode c 1923 #[])(vP:U.TableAt c 1923 #[])(h23:1923∉H)(h79:1979∉H)(hn:l8 ns)(dM:ns.length=8 * (n+1))(Ad:∀x∈ns,x<2)(hw:l8 (wordsOf ns (n+1)))(Ik:n+1<=100)(xm:cs=(gV lg ex gen (wordsOf ns (n+1)++b8 gen.length 0) (wordsOf ns (n+1)).length).drop (wordsOf ns (n+1)).length)(DA:l8 cs)(hsz:8 * (wordsOf ns (n+1)).length+8 * cs.length<=1000)(p:PS H U (bc lY) J aK bo bu (qL [72,81,82] [a6 (-2),aT lv,aH (R b)]) S s)(hi:∀y∈S,gh y.2=N)(yR:∀y∈ji b dx d ns,y∈S)(kk:∀Y G' b2 dx2 d2,PS (1979::1923::H) U (bc lY) J aK bo bu G' (ji b2 dx2 d2 (dJ (wordsOf ns (n+1))++dJ cs)++S) Y->Q (cB (R b2)) Y):
 C A (aU (bg lY) J) s Q:=by
 change C _ (aU (a9 (bg lY) 0::jS::a9 (bg lY) 2::a9 (bg lY) 3::a9 (bg lY) 4::a9 (bg lY) 5::a9 (bg lY) 6::a9 (bg lY) 7::abj) J) s Q;show p.s1 (S1.m (z0 Z)) λs1 p1=>ij<|Lake.T.wx (ael (τ':=1923::H) B hT (by decide+kernel) Z pj Pb oz vP (nme Z) h23 (cR ..) (λb D=>bY _ D) p1) λfl s2 ow=>fc ow λe2 i=>jg i λfa c' i=>jg i λP' dT i=>jg i λt8 fdt i=>eT i λoc sx F p2=>dU F λF1 _ _ _ _ _ _ alI=>dU alI λ_ _ F10 _ F12 F13 F14 QO=>fc QO λ_ _=>?_;subst e2;show uB (EA.alH p2.ps.ext) λf1 d2 f2 m1 e1 m2 hd2 e2=>Oh 84 (aH (R ta)) p2 (Yp m2 hd2 e2 (Yp (k:= -2) m1 (DU Z) e1 (B5 (p2.ps.base B) (by decide+kernel) hE (by decide+kernel)) (ar 72 Z) Z) (ar (av:=aT lv) 81 Z) Z) Z Z (ak (by decide+kernel)) Z λs3 p3=>dF EA.2.1 λm ht=>aer (x:=85) (y:=86) hh (aw (by decide+kernel)) (aw (by decide+kernel)) Z Z Z Z (ajx (τ':=1979::1923::H) (k1:=0) (k2:=0) hh au B I I2 hT OM (λq=>(bq.mp q).elim (λq=>absurd q (uj Z)) h79) (cR ..) (λb D=>bY _ D) (by rfl) ht EA.2.2.1 EA.2.2.2 Z hn dM Ad hw Ik p3 hi Z Z yR
  λv s4 l1 l2 bl Ox k1 k2 rr o p4 aO=>⟨_,_,_,_,_,_,p4.aiI (S':=(Ox,kF cs)::(bl,kF (wordsOf ns (n+1)))::S) (λy hy=>?_),aO,λs5 p5=>?_⟩)
 .subst xm;show ba (bq.mp hy) (λq=>q▸cR ..) λq=>ba (bq.mp q) (λq=>q▸bY _ (cR ..)) λq=>bY _ (bY _ (bY _ q))
 .show Oh 87 oZ p5 V.none Z Z (ak (by decide+kernel)) Z λs6 p6=>Cs p6 (pO.to (Xv (x:= -2) (ys:=[a6 (-3),a6 (-1)]) (ms:=[-3, -1]) (ar 72 Z)
   (uo (p6.ps.base B).top (fJ.cons (qS (p6.ps.base B) (rfl) hv1 (rfl)) (fJ.cons (qS (p6.ps.base B) (rfl) hv3 (rfl)) fJ.nil Z) Z) Z Z) Z Z) Z) λs7 p7=>fg ?_
  have hiS:∀y∈(Ox,kF cs)::(bl,kF (wordsOf ns (n+1)))::S,gh y.2=N:=λy hy=>by
   rcases bq.mp hy with rfl|q
   .rfl
   .rcases bq.mp q with rfl|q
    .rfl
    .show hi y q
  show bf p7.open λW q7 back=>(yO (x:=88) Z (ak (by decide+kernel)) Z (ac4 B I gy.pH NB au hBf (by rfl) q7 hiS λs8 b2 dx2 d3 h1 h2 h3 hS q8=>⟨_,_,_,q8,.ik _,rfl,λs9 q9=>?_⟩));have p9:=back _ _ _ _ q9;show alG (lv:=lv) (b1:=b) (ta:=ta) (l1:=l1) (l2:=l2) (k1:=k1) (k2:=k2) (oP:=tabObj #[]) (S0:=S) hh au B I hT gy p9 hi (λy hy=>(hS y hy).2.2) h2 h3 (by show bf p.fr λW r _=>?_;delta iJ;rw[r.scope];rfl) F (λz hz q=>?_) ?_ hw DA hsz λY G' p'=>kk Y G' b2 dx2 d3 p'
  .have hP:=p9.getL (a:=P') (o:=tabObj #[]) bw
   revert q;apply WE hz<;>(intro q;dsimp only at q)
   .have:=p9.getL (cR ..);have this:=hP▸q▸this;cases this
   .have:=p9.getL (bY _ (cR ..));have this:=hP▸q▸this;cases this
   .have:=F1;have this:=F14▸q▸this;cases this
   .show Jm F13 q
   .have:=F10;have this:=F14▸q▸this;cases this
  .show bf (DT.of F12 ⟨_,F13⟩) λoP e1 e2=>?_;rw[F14]at e1;obtain rfl:=aW e1;show e2
end
section
variable{Q:cb->ae->Prop}
theorem Tw{o:aG}(B:cx U mg mb)(gy:pT U P t f)(bK:A.depth<1000)(hB:wo U b dx d ns)(he:V H U A L J G o (aH (R b)) ab)(xo:uY o (aB "getbits") J (a7 o J)=a7 o J)(lB:(apos.endLine==pos.line)=N):
 V H U A L J G (bx (gZ o (aB "getbits") apos) [] [] pos) (aH (R d)) fr:=λs r=>by
 show ux xo (rfl) lB ((he s r).tR λv ax F1 e1 V1 _ pl=>?_);apply bM.Gg V1;have x1:=r.base.trans e1.ext;have hB1:=hB.ext x1;show DN (jm gy.pH x1) hB1 acO Ϭ Z<|bf gy.dJ.at_.obj λob ho hd=>L7 (evalArgs_nil3 ⟨⟨x1.keep _ _ gy.dJ.at_.off ho,hd⟩,?_⟩);show(RZ (τ':=H) (G':=[]) [110] [aH (R b)] (aH (R d)) [] B x1 bK gy.dJ Z Z Z ?_ (ej [] [] (.ik _) .nil) aL Z aL λfX=>SS.m (tU (S1.ret (V.data (x:=110) (jm gy.pH x1) hB1.obj hB1.Xt hB1.t1 hB1.t2 Z)))).wp3 λv Y F e aO=>aO.DI▸⟨e1.trans e,[],.ik _,d9⟩
 delta dy
 show gy.dJ.params.symm▸gy.ϱ.symm▸?_;rfl
theorem PS.ajz(p:PS H U L J aK bo bu G S s)(hf:we av=N)(dH:bT G x=N)(E:Hx L x)(hs:fz e (O (aq (NM x) q)) pos.line J=pure N)(he:∀(u:aa->aI Unit) (Q:Unit->ae->Prop),(∀v Y F bh m,Tk [] s Y->bM Y.heap av v F->(∀b∈F,s.heap.get? b=ah)->F.Nodup->Y.heap.Ns bh m->s.heap.get? bh=ah->bh∉F->C A (u v) Y (λ_ nG=>∃m,nG.heap.Ns bh m/\∀h',gu bh nG.heap h'->Q () {nG with heap:=h'}))->C A (Ky e J u) s Q)(hT:gm U)(k:∀Y,PS H U L J aK bo bu (jk G x 1 av) S Y->C A (aU rest J) Y Q):C A (aU (ez [aq (NM x) q] e pos::rest) J) s Q:=by
 show bf p.fr λW r hW=>ij<|(TL (hs:=hs)).symm▸nQ (C.bind (he _ _ λv ax F bh m t aO h1 h2 wK nK hKF=>?_));have x1:Aa H s ax:=⟨t.x,t.os,t.drawn,t.gens⟩;have hKW:bh∉W:=λq=>by show oX (r.jh bh q) λ_ _ o e _=>?_;have e:=nK.symm.trans e;ext
 have hKT:bh∉bX:=λq=>by show dF (hT bh q) λo e=>(dF (p.ext.there _ _ e) λo' e'=>?_);have e':=nK.symm.trans e';ext
 show T.wx (jD ((kh (r.grow x1.ext) E dH aO (.fresh h1 h2 (Gv hf aO) r x1.ext)).wp λ_ aP q=>q)) λ_ aP qQ=>fc qQ λr2 m2=>ff wK λoK es ep eK rK=>have eK2:=m2.mod.keep _ _ hKW hKT eK;cn m ⟨oK,es,ep,eK2,rK⟩ (λh' sb=>C.pure (k _ ?_));have kp:∀b o,b∉[bh]->aP.heap.get? b=O o->h'.get? b=O o:=λb o D e=>sb.extBut _ _ (λq=>D (bJ.mpr q)) e;have r3:=r2.off kp λb D=>(bJ.mp D).symm▸⟨(cn oK eK2 (aw (ak ⟨es,ep,rK.1⟩))),hKT,(p.ext.new nK),λq=>(bZ.mp q).elim hKW hKF⟩;show⟨(kJ (W++F) r3 (λb D=>(bZ.mp D).elim (hW.1 b) λq=>aw (p.mod.mod.new (h1 b q))) (λy hy q=>?_)),λy hy=>?_,((p.XF x1).mod.trans m2.p λd hd=>(hW.1 d hd).elim (λq=>ak (de _ q)) aw).off kp λb D=>(bJ.mp D).symm▸⟨p.mod.mod.new nK,hKT⟩,p.lE⟩
 .rcases bZ.mp q with q|q
  .show hW.2 y hy q
  .have:=h1 _ q;have this:=((p.sg y hy).1).symm.trans this;ext
 .show iL (((p.sg.ext x1.ext).mod m2.mod hW.2) y hy) λa1 a2 a3 a4=>((rT (kp _ _ (λq=>?_) a1) a2 a3 a4));have:=(p.sg y hy).1;have this:=nK▸(bJ.mp q)▸this;ext
def ajA(s Y:ae)(X:List af)(b9:List (LN))(as:List af):Prop:=
 as.Nodup/\
 (∀a∈as,s.heap.get? a=ah/\a∉X)/\
 ∀(j:Nat) a row,as[j]? =O a->b9[j]? =O row->∃ws n,Y.heap.get? a=O (bp ws n)/\fk ws (row.map ai)
inductive ajB(I' T aY bh:af)(b9:List (LN))(s:ae)(k:Nat)(Y:ae):Prop
 |mk (i:Nat) (as:List af) (n:Nat) (m:aV->Option aa) (e:k=b9.length - i) (hi:i<=b9.length) (t:Tk [] s Y) (nn:Y.heap.Ns bh m) (li:Y.heap.IsTupleIter I' T i) (d:Y.heap.get? aY=O (bp (as.map R) n)) (CS:as.length=i) (aN:ajA s Y [I',aY,bh] b9 as)
theorem QV(as:List af):∀(b9:List (LN)),as.length=b9.length->(∀a∈as,a∉bX)->(∀(j:Nat) a row,as[j]? =O a->b9[j]? =O row->∃ws n,h.get? a=O (bp ws n)/\fk ws (row.map ai))->
 bA h (b9.map aX) (as.map R) as:=by
 induction as with
 |nil=>
  intro yY;cases yY with
  |nil=>show λ_ _ _=>.nil
  |cons=>intros;first|ext|(simp at *)
 |cons a as iH=>
  intro yY;cases yY with
  |nil=>intros;first|ext|(simp at *)
  |cons row b9=>show λhl hT hr=>eT (hr 0 a row Z Z) λws n e ia=>DX _ _ [a] as Z (Dm (hT a (eO ..)) e ia) (iH b9 (Wx hl) (λb D=>hT b (bV _ D)) (λj b r h1 h2=>hr (j+1) b r h1 h2)) Z
theorem Z0{K:LN}{u:aa->aI Unit}{Q:Unit->ae->Prop}(c:ed L scope fs K)(jB:rn scope J=pure cl)(hs:Fs iter J)(h:C A (a7 iter J) s (λx ax=>C A (gn x) ax (λit aP=>Q5<=aP.heap.objs.size/\(∀(A':bR) fy (Q:aa->ae->Prop),Tk [] aP fy->Q it fy->C A' (gn it) fy Q)/\
 ∀aY bh fy,Tk [] aP fy->aP.heap.get? aY=ah->aP.heap.get? bh=ah->aY≠bh->bh∉bX->fy.heap.get? aY=O (bp [] 0)->fy.heap.Ns bh (λ_=>ah)->
  CC (A.mark ah) (hx (cE elt (⟨ct,iter,ifs,0⟩::gs) scope pos) 0 it (R aY) (jt scope cl bh J)) fy (λr Y=>match r with|bW _=>C A (u (R aY)) Y (λ_ nG=>∃m,nG.heap.Ns bh m/\∀h',gu bh nG.heap h'->Q () {nG with heap:=h'})|j6 _=>False)))):
 C A (Ky (cE elt (⟨ct,iter,ifs,0⟩::gs) scope pos) J u) s Q:=by
 show C.bind (C.mono ?_ λ_ Y h=>C.pure h)
 delta En
 show jB.symm▸(show KI (cE elt (⟨ct,iter,ifs,0⟩::gs) scope pos)=⟨ct,iter,ifs,0⟩::gs from rfl).symm▸C.bind (h.mono λx ax U=>nQ (C.bind (C.eq (hs x) (lJ (C.mono U λit aP ow=>?_)))));show hJ ow λtop self ku=>(nQ (lD (ip (C.bind (C.pure (lD (Am c.cell (by intro y hy;show kM hy) (λh3 sk wM=>?_) c.kind)))))));dsimp only at sk wM ⊢;generalize Β:aP.heap.push {cls:=ao "list",dict:=ah,data:=bQ ([]:List aa).toArray}=H2 at sk wM ⊢;have hC:H2.objs.size=aP.heap.objs.size+1:=by rw[<-Β,dD]
 generalize H2.objs.size=bh at sk wM hC ⊢;have Ow:aP.heap.objs.size≠bh:=by rw[hC];show fB (iZ _)
 have hK:aP.heap.get? bh=ah:=by
  cases q:aP.heap.get? bh with
  |none=>rfl
  |some o=>show absurd (cj q) (by rw[hC];show j5.mpr (lQ _))
 have tk:Tk [] aP {aP with heap:=h3,toks:=aP.toks+([]:List (aV×aa)).length}:=.heap λb o _ e=>wM.extBut b o (λq=>by have e:=hK▸q▸e;ext) (by show Β▸?_;show aZ _ (aZ _ e));have loop:=ku aP.heap.objs.size bh _ tk (bz _) hK Ow (fm (bj top (hC▸lQ _))) (wM.extBut _ _ Ow (by show Β▸?_;show aZ _ (bI _ Z))) sk;show C.holding (C.bind (C.attempt (C.holding (C.run (CC.mono (pJ Z loop (self _ _ _ tk loop)) λr Y hr=>?_)))));cases r with
 |error _=>show hr.elim
 |ok f=>
  show C.bind (C.rule (lJ (C.mono hr λ_ nG qQ=>bf qQ λm hn hq=>lD (T8 (cenv:=jt scope cl bh J) c.kind _ nG m (λx E hl=>?_) hn λh' m' _ zM=>C.pure (hq h' zM)))));show(λx E hl=>xG (c.names x (gq.mp E).1 hl)) x (by
   rcases bZ.mp E with q|q
   .show EO.mp (ry q)
   .show EO.mp (AH q)) hl
set_option tactic.hygienic true in
theorem aeu{p4:cJ}{Q:Unit->ae->Prop}(c:ed L scope [] [31])(hls:Gi scope "list")(hh:dh A)(B:cx s.heap mg mb)(I:dQ mg mb)(hT:gm s.heap)(r:ER [] s.heap L J s.heap G)(h9:ck G 9=O (k,uw rs))(hl:rs.length=b9.length)(D:∀(j:Nat) a row,rs[j]? =O a->b9[j]? =O row->s.heap.get? a=O (kF row)/\a∉bX/\l8 row)(dM:b9.length<=1000){u:aa->aI Unit}(hq:∀v Y F bh m,Tk [] s Y->bM Y.heap (zq b9) v F->(∀b∈F,s.heap.get? b=ah)->F.Nodup->Y.heap.Ns bh m->s.heap.get? bh=ah->bh∉F->C A (u v) Y (λ_ nG=>∃m,nG.heap.Ns bh m/\∀h',gu bh nG.heap h'->Q () {nG with heap:=h'})):
 C A (Ky (cE (bx (aq (aB "list") np) [aq (NM 31) p1] [] p2) [⟨aq (NM 31) p3,aq (NM 9) p4,[],0⟩] scope pos) J u) s Q:=by
 show bf (c.OL r Z) λcl jB wN=>Z0 c jB (λ_=>rfl)<|T.wcV (wb r h9) λv F aO=>gH aO λT vs nT dX hTT hTo hVs=>(dX▸?_);have m_:∀(j:Nat) a,rs[j]? =O a->vs[j]? =O (R a):=λj a e=>by show jy (hVs.get (by rw[cZ,e];rfl)) λv F' e1 e2 _=>?_;rw[e1,e2.DI]
 have hvl:vs.length=rs.length:=by have:=hVs.length;simpa using this
 have ag6:∀{Y:ae},Tk [] s Y->Y.heap.IsTuple T vs.toArray:=λt=>⟨_,t.keep _ _ (λq=>kM q) hTo,rfl,nT,rfl⟩;have hnl:s.heap.get? s.heap.objs.size=ah:=bz _;show cS (Ke (ag6 (.refl _ _)) (gI ?_ (λA' fy Q t hQ=>cS (wpAny_pyIter_tupleiter ⟨_,t.keep _ _ (λq=>kM q) (bI _ Z),rfl,rfl⟩ hQ)) (λaY bh fy t hD hK Ow hKT oy wK=>?_)))
 .rw [dD];show qq (jz (H:=[]) B.top (.refl _))
 have t1:Tk [] s {s with heap:=s.heap.push {cls:=ao "tuple_iterator",data:=bF #[R T,ag 0 0]}}:=.heap λb o _ e=>aZ _ e;have hDL:aY≠s.heap.objs.size:=λq=>by rw[q,bI _ Z]at hD;ext
 have hKL:bh≠s.heap.objs.size:=λq=>by rw[q,bI _ Z]at hK;ext
 have nD:=(Tk.x (H:=[]) t1).new hD;have nK:=(Tk.x (H:=[]) t1).new hK;have li0:fy.heap.IsTupleIter s.heap.objs.size T 0:=kJ _ (t.keep _ _ (λq=>kM q) (bI _ Z)) Z Z;generalize s.heap.objs.size=I' at *;have E:(ju scope J).names.lookup (NM 31)=O cU:=xG (c.locs 31 (bJ.mpr Z));have hnT:∀{a:af},s.heap.get? a=ah->a∉bX:=λe q=>dF (hT _ q) λo e'=>by have e':=e.symm.trans e';ext
 show ud Z Z (ajB I' T aY bh b9 s) ?_ b9.length
  ⟨0,[],0,_,rfl,fj _,t1.trans t (zi),wK,li0,oy,rfl,⟨rQ,(zi),λ_ _ _ h=>Bg h⟩⟩
 rintro _ Y Kp P1 P2 P3 P4 Kh H0 H1 H2 H3 _ H4 ⟨i,as,n,m,dX,hi,t2,PZ,li,d2,CS,aN⟩;show hJ aN λR1 R2 R3=>?_;rcases AS hi with jA|rfl
 .show dF (show∃row,b9[i]? =O row from⟨_,dE jA⟩) λrow OP=>?_;show dF (show∃a,rs[i]? =O a from⟨_,dE (hl▸jA)⟩) λa ha=>?_;show hJ (D i a row ha OP) λb1 b2 b3=>(cS (wpAny_pyNext_tuple_item li (ag6 t2) (by rw[KX];show m_ i a ha) λh3 li3 zF=>?_));show H1 _ _ (C.eq Z (cS (jD (sM E (PZ.at' λo e=>zF.extBut _ o hKL e) (λh4 ZX Jj=>H2 _ (uO (H3 _ ?_))) (by rw[show(ju scope J).kind=dZ from c.kind];rfl:((ju scope J).kind== .class ||((ju scope J).kind== .module && bh != J.globals))=ab)))));have k4:∀b o,b≠I'->b≠bh->Y.heap.get? b=O o->h4.get? b=O o:=λb o q1 q2 e=>Jj.extBut _ _ q2 (zF.extBut _ _ q1 e);have t4:∀tk,Tk [] s {Y with heap:=h4,toks:=tk}:=λtk=>t2.trans (.heap λb o D e=>Dp D λh1 h2=>k4 b o h1 h2 e) (To hnl nK);show Lake.T.wcE (JO (fr:=N) hh (B.ext ((t4 0).x (H:=[]))) I hls ((t4 0).keep _ _ (λq=>kM q) b1) b2 b3 (ar _ Z) Z _ (Cr c (r.ext (t4 0).x).re wN ZX hKT (Yn (bJ.mpr Z) (if_pos Z) (.ik _) HNm.nil))) λv s5 F5 e5 V5 nf=>(iP V5 λla ws nl F' C' _ Gu V' eQ6=>?_);subst C';subst eQ6;have n4:h4.get? la=ah:=((nf Z).1) la (eO ..);have t5:=e5.tk (X:=[]);have d4:=k4 _ _ hDL Ow d2;have nla:∀b o,h4.get? b=O o->la≠b:=λb o e q=>by subst q;have e:=n4.symm.trans e;ext
  have laD:=nla _ _ d4;show bf li3 λoI eI rI=>bf (Dl ZX) λoK eK _=>H4 _ _ (cS (Al ⟨n,(t5.keep _ _ (λq=>kM q) d4)⟩ (λh7 qQ sb7=>dF qQ λn7 e7=>?_) (by have:eN=16777216:=jX;simp;lia)));show Kh (b9.length - (i+1)) _ (dX▸rJ jA (iZ i)) ⟨i+1,as++[la],n7,_,rfl,jA,(((t4 _).trans t5 zi)).trans (.heap λb o D e=>sb7.extBut _ _ (λq=>D (bJ.mpr q)) e) (λb D=>aw (bJ.mp D▸nD)),ZX.at' λo e=>sb7.extBut _ _ (eS Ow) (t5.keep _ _ (λq=>kM q) e),
   (li3.at λo e=>Jj.extBut _ _ (eS hKL) e).at λo e=>sb7.extBut _ _ (eS hDL) (t5.keep _ _ (λq=>kM q) e),by rw[e7];simp[bp],by rw[iu,CS];rfl,⟨?_,λb D=>?_,λj b rw h1 h2=>?_⟩⟩
  .show ql.mpr ⟨R1,by simp,λx E y hy q=>?_⟩;rw[bJ.mp hy]at q;show dF (sX E) λj hj=>?_;show fc (R2 x E) λr1 r2=>have hjl:=f9 (CS▸(dR.mp hj).1) jA;eT (R3 j x _ hj (dE hjl)) λws' n' e' _=>?_;show Gd r2 λr1 _ r3=>nla x _ (k4 _ _ r1 r3 e') q.symm
  .rcases bZ.mp D with q|q
   .show R2 b q
   .rw [bJ.mp q];show⟨(t4 0).none (λq=>kM q) n4,afc (nla _ _ (Jj.extBut _ _ (eS hKL) eI)) laD (nla _ _ eK)⟩
  .replace h1:=List.getElem?_append▸h1;split at h1
   .show fc (R2 b (cY h1)) λr1 r2=>eT (R3 j b rw h1 h2) λws' n' e' ia'=>Gd r2 λr1 r2 r3=>kK ws' n' (sb7.extBut _ _ r2 (t5.keep _ _ (λq=>kM q) (k4 _ _ r1 r3 e'))) ia'
   .rename_i hj
    have hj0:j=i:=by have:=(dR.mp h1).1;simp at this;lia
    cases hj0
    rw[CS,LG]at h1;show aW h1▸aW (OP.symm.trans h2)▸kK ws nl (sb7.extBut _ _ laD Gu) (intsAre_of V' (dS row))
 .show cS (J8 hh li (ag6 t2) (by rw[KX];show rx (by simp[*])) λh3 zF=>?_);have k4:∀b o,b≠I'->Y.heap.get? b=O o->h3.get? b=O o:=λb o q1 e=>zF _ _ q1 e;have t4:Tk [] s {Y with heap:=h3}:=t2.trans (.heap λb o D e=>k4 b o (λq=>D (bJ.mpr q)) e) λb D=>aw (bJ.mp D▸hnl);show H0 _ (hq (R aY) _ (aY::as) bh m t4 (sf as (hnT nD) (k4 _ _ hDL d2)<|QV as b9 CS (λb D=>hnT (R2 b D).1)<|λj b rw h1 h2=>eT (R3 j b rw h1 h2) λws' n' e' ia'=>kK ws' n' (k4 _ _ (vE ((R2 b (cY h1)).2)) e') ia') (λb D=>?_) (rz.mpr ⟨λq=>(R2 aY q).2 au,R1⟩) (PZ.at' λo e=>zF _ o hKL e) nK λq=>(bq.mp q).elim (eS Ow) λq=>(R2 bh q).2 au);show ba (bq.mp D) (λq=>q▸nD) λq=>(R2 b q).1
end
def ag7(U:aQ)(mg:aV->Option aa)(P:cf)(t:Nat->a8)(f:Nat->cq):Prop:=
 pT U P t f/\
 (∃v,mg (aB "VERSION_M1")=O (ag (-3) v))/\
 (∃v,mg (aB "VERSION_M2")=O (ag (-2) v))/\
 ∃v,mg (aB "VERSION_M3")=O (ag (-1) v)
def ajC(U:aQ)(mg:aV->Option aa)(f:Nat->cq)(Ys:cq):Prop:=
 rd U f/\
 mg (aB "ECC")=O (R 139)/\
 mg (aB "Buffer")=O (R 2002)/\
 (∃v,mg (aB "ERROR_LEVEL_L")=O (ag 1 v))/\
 (∃v,mg (aB "ERROR_LEVEL_M")=O (ag 0 v))/\
 mg (aB "make_final_message")=O (R 1926)/\
 rb U 1926 Ys lY/\
 Ys.defaults=aA/\
 Ys.code=R 1925/\
 U.IsCode 1925 1923 #[]/\
 U.TableAt 1925 1923 #[]
def ajD(U:aQ)(mg:aV->Option aa)(Z':cq)(Z8:cq):Prop:=
 mg (aB "make_matrix")=O (R 1939)/\
 rb U 1939 Z' ot/\
 Z'.defaults=R 1932/\
 (∃n,U.get? 1932=O (cV [c9 N,c9 N] n))/\
 Z'.code=R 1938/\
 U.IsCode 1938 1934 #[]/\
 U.TableAt 1938 1934 #[]/\
 mg (aB "add_timing_pattern")=O (R 1914)/\
 rb U 1914 Z8 (dP 19)/\
 Z8.defaults=aA
def ajE(U:aQ)(mg:aV->Option aa)(fdP:cq):Prop:=
 mg (aB "add_finder_patterns")=O (R 1907)/\
 rb U 1907 fdP Ac/\
 fdP.defaults=aA/\
 ∃vf,mg (aB "_FINDER_PATTERN")=O vf/\bM U fpV vf []
def ajF(U:aQ)(mg:aV->Option aa)(fdC:cq):Prop:=
 mg (aB "add_codewords")=O (R 1921)/\
 rb U 1921 fdC pI/\
 fdC.defaults=aA
def Pkg(U:aQ)(mg:aV->Option aa)(P:cf)(t:Nat->a8)(f:Nat->cq)(Ys Z' Z8 fdP fdC:cq):Prop:=
 ag7 U mg P t f/\ajC U mg f Ys/\ajD U mg Z' Z8/\ajE U mg fdP/\ajF U mg fdC
section
variable{Q:cb->ae->Prop}
theorem PS.ssR{l:List cg}(p:PS H U L J aK bo bu G S s)(x:pP H τ' U A L J l G G' (O av))(k:∀Y v F,sL (bo++bu) aK Y->bM Y.heap av v F->Q (cB v) Y):C A (aU l J) s Q:=by show bf p.fr λW r hW=>(x U s W r).wx λg Y ow=>yE ow λm E v F e aO=>?_;subst e;show k Y v F (p.mod.trans m.p λd hd=>(hW.1 d hd).elim (λq=>ak (de _ q)) aw) aO
theorem l_6{lg:LN}{lev lv:Nat}(hh:dh A)(bK:A.depth<500)(B:cx U mg mb)(I:dQ mg mb)(I2:uc mg mb)(hT:gm U)(Pv:ag7 U mg P t f)(Pd:ajC U mg f Ys)(OM:ZZ U mg P t f P2 t2 fd lg ex gen gp Oy)(EA:IF U lv ta ei [1,n+1+gen.length,n+1])(h23:1923∉H)(h79:1979∉H)(hlv:lev<2/\([1,0]:LN).getD lev 0=lv)(hn:l8 ns)(dM:ns.length=8 * (n+1))(Ad:∀x∈ns,x<2)(hw:l8 (wordsOf ns (n+1)))(Ik:n+1<=100)(xm:cs=(gV lg ex gen (wordsOf ns (n+1)++b8 gen.length 0) (wordsOf ns (n+1)).length).drop (wordsOf ns (n+1)).length)(DA:l8 cs)(hsz:8 * (wordsOf ns (n+1)).length+8 * cs.length<=1000)(p:PS H U iG J aK bo bu G [] s)(h2:ck G 2=O (0,aT lev))(h6:ck G 6=O (k2,aX ns))(h8:bT G 8=N)(k:∀Y b2 dx2 d2 S',PS (1979::1923::H) U iG J aK bo bu (jk G 8 0 (aH (R b2))) (ji b2 dx2 d2 (dJ (wordsOf ns (n+1))++dJ cs)++S') Y->(∀y∈S',gh y.2=N)->C A (aU rest J) Y Q):
 C A (aU (a9 cP 6::rest) J) s Q:=by
 show dU Pd λPd1 Pd2 Pd3 Pd4 Pd5 Pd6 Pd7 ajG=>iL ajG λPd8 Pd9 alJ alK=>iL Pv λPv1 Pv2 Pv3 Pv4=>dF Pv2 λv1 gv1=>dF Pv3 λv2 gv2=>dF Pv4 λv3 gv3=>dF Pd4 λvL gL=>dF Pd5 λvM gM=>yO (τ':=1979::1923::H) (U:=U) (L:=iG) (aK:=aK) (bo:=bo) (bu:=bu) h8 (ak (rfl)) Z<|fV<|T.wX (sh (p.base B) p.er (rfl) Pd6 (rfl))<|bf Pd7.at_.obj λo ho hd=>pF o Ys<|eu<|cu<|T.wx (qS (fr:=N) (p.base B) (rfl) gv2 (rfl) s p.er) λu1 s2 ow=>iM ow λe2 F2 V2 _=>?_;apply bM.zJ V2;intro t1;have p2:=p.grow e2;show cu<|T.wx (V.to (fo (ns:=[1,0]) (fr:=N) (o7 (p2.base B).top (fJ.cons (qS (p2.base B) (rfl) gL (rfl)) (fJ.cons (qS (p2.base B) (rfl) gM (rfl)) fJ.nil Z) Z) Z Z) (ar _ h2) hlv.1 bD Z) (congrArg aT hlv.2) s2 p2.er) λu3 s3 Λ=>iM Λ λe3 F3 V3 _=>?_;apply bM.zJ V3;show λt3=>cu (ac3 B I Pv1.pH Pd1 (f9 bK bD) Pd3 (by rfl) (p2.grow e3) (zi) (ar _ h6) Z hn λs4 b dx d _ _ _ _ p4=>c8 ?_);have hi:∀y∈ji b dx d ns++[],gh y.2=N:=λy hy=>by apply Dn hy<;>rfl
 show⟨⟨p4.ext.keep _ _ Pd7.at_.off ho,hd⟩,zx (us:=[ag (-2) t1,ag (ai lv) t3,R b]) (avs:=[a6 (-2),aT lv,aH (R b)]) (F:=[]) [72,81,82] B p4.ext (f9 bK bD) Pd7 Z Z Z ?_ (ej [] [] (.ofInt _ t1)<|ej [] [] (.ofInt _ t3)<|ej [] [] (.ik _) .nil) aL Z aL p4.sg λs5 L5 p5=>aet (hh) au B I I2 hT Pv1 Pd1 OM Pd2 EA Pd3 gv1 gv3 Pd9 (DU Z) alJ alK h23 h79 hn dM Ad hw Ik xm DA hsz p5 hi (λy hy=>de _ hy) λY G' b2 dx2 d2 q=>⟨_,aH (R b2),[],p4.called q hi,.ik _,rfl,λs9 q9=>k s9 b2 dx2 d2 _ q9 hi⟩⟩;have D:dy Ys ⟨[ag (-2) t1,ag (ai lv) t3,R b],[]⟩=pure (([72,81,82].map NM).zip [ag (-2) t1,ag (ai lv) t3,R b]):=by
  delta dy
  show Pd7.params.symm▸Pd8.symm▸?_;rfl
 show D.symm▸aC ⟨rfl,rfl⟩
end
theorem Z1(rs:List af):flat (uw rs)=N:=by
 induction rs with
 |nil=>rfl
 |cons r rs ih=>show ih
section
variable{S0:Sg}{Q:cb->ae->Prop}
theorem l_7(hh:dh A)(bK:A.depth<500)(B:cx U mg mb)(I:dQ mg mb)(hT:gm U)(Pk:ajD U mg Z' Z8)(h34:1934∉H)(p:PS H U iG J aK bo bu G S s)(hS:∀y∈S,gh y.2=N)(h9:bT G 9=N)(k:∀Y rs,rs.length=13->rs.Nodup->(∀y∈S,y.1∉rs)->PS (1934::H) U iG J aK bo bu (jk G 9 0 (uw rs)) (uL rs Qb++S) Y->C A (aU rest J) Y Q):
 C A (aU (a9 cP 7::rest) J) s Q:=by
 show dU Pk λPk1 U' Pk3 Pk4 Pk5 Pk6 Pk7 ajH=>hJ ajH λPk8 Pk9 alL=>yO (τ':=1934::H) (U:=U) (L:=iG) (aK:=aK) (bo:=bo) (bu:=bu) h9 (ak (rfl)) Z (sy [aT 13,aT 13] B p Pk1 (rfl) (rfl) U' (fJ.cons (aR 13) (fJ.cons (aR 13) fJ.nil Z) Z) Z λvs s1 F e1 aO=>?_);apply nJ aO;intro v1 v2 F1 F3 V1 V2;apply bM.zJ V1;intro t1;apply bM.zJ V2;intro t2;have p1:=p.grow e1;show dF Pk4 λn hu=>(zx (us:=[ag (ai 13) t1,ag (ai 13) t2,c9 N,c9 N]) (avs:=[aT 13,aT 13,eY N,eY N]) (F:=[]) [60,61,107,108] B p1.ext (f9 bK bD) U' Z Z Z ?_ (ej [] [] (.ofInt _ t1)<|ej [] [] (.ofInt _ t2)<|ej [] [] (.ofBool _) (ej [] [] (.ofBool _) .nil)) aL Z aL p1.sg λs2 L2 p2=>acX (hh) B I hT au hS Pk8 Pk9 alL p2 Pk5 (DU Z) Pk6 Pk7 h34 (eO ..) (λb D=>bY _ D) λY G' rs v h1 h2 h3 q aO=>⟨_,uw rs,[],p1.called q hS,aO,Z1 rs,λs9 q9=>k s9 rs h1 h2 h3 q9⟩)
 delta T dy
 show U'.params.symm▸Pk3.symm▸U'.kwd.symm▸aj (aC (aj (jV (p1.ext.keep _ _ (DU Z) hu) Z (aC ⟨rfl,rfl⟩))))
theorem l_8(hh:dh A)(bK:A.depth<500)(B:cx U mg mb)(I:dQ mg mb)(Pk:ajE U mg fdP)(p:PS H U iG J aK bo bu G (uL rs b9++S0) s)(hS:∀y∈S0,gh y.2=N)(wy:iJ J=ab)(h9:ck G 9=O (k9,uw rs))(hl:rs.length=13)(tV:rs.Nodup)(hm:Mx b9)(hd:∀y∈S0,y.1∉rs)(k:∀Y,PS H U iG J aK bo bu G (uL rs (mG b9 8)++S0) Y->C A (aU rest J) Y Q):
 C A (aU (a9 cP 8::rest) J) s Q:=by
 show iL Pk λPk1 U' Pk3 Pk4=>bf Pk4 λvf gf Vf=>zZ wy Z<|sy [uw rs,aT 13,aT 13] B p Pk1 (rfl) (rfl) U' (fJ.cons (ar _ h9) (fJ.cons (aR 13) (fJ.cons (aR 13) fJ.nil Z) Z) Z) Z λvs s1 F e1 aO=>have p1:=p.grow e1;have hl3:=aO.length;zx [9,60,61] B p1.ext (f9 bK bD) U' Z Z Z ?_ aO aL (by rw[hl3];rfl) aL p1.sg λs2 L2 p2=>?_
 .apply abX hl3;intro a b c
  .delta T dy
   show U'.params.symm▸Pk3.symm▸aC ⟨rfl,rfl⟩
 .show i_ (hh) B I hl tV hm hd hS gf (Vf) p2 λY G' q=>⟨rfl,k Y (p1.called q λy hy=>(bZ.mp hy).elim (yS y) (hS y))⟩
theorem l_9{k8:Nat}(hh:dh A)(bK:A.depth<500)(B:cx U mg mb)(I:dQ mg mb)(Pv:ag7 U mg P t f)(Pk:ajF U mg fdC)(p:PS H U iG J aK bo bu G (uL rs b9++S0) s)(hS:∀y∈S0,gh y.2=N)(wy:iJ J=ab)(h9:ck G 9=O (k9,uw rs))(h8:ck G 8=O (k8,aH (R b)))(hl:rs.length=13)(tV:rs.Nodup)(hm:Mx b9)(hd:∀y∈S0,y.1∉rs)(yR:∀y∈ji b dx d ns,y∈S0)(hn:l8 ns)(PR:(I9 ns b9).2=ns.length)(k:∀Y,Mx (I9 ns b9).1->PS H U iG J aK bo bu G (uL rs (I9 ns b9).1++S0) Y->C A (aU rest J) Y Q):
 C A (aU (a9 cP 9::rest) J) s Q:=by
 show hJ Pk λPk1 U' Pk3=>iL Pv λPv1 Pv2 Pv3 Pv4=>dF Pv2 λv1 gv1=>dF Pv3 λv2 gv2=>dF Pv4 λv3 gv3=>zZ wy Z<|sy [uw rs,aH (R b),a6 (-2)] B p Pk1 (rfl) (rfl) U' (fJ.cons (ar _ h9) (fJ.cons (ar _ h8) (fJ.cons (qS (p.base B) (rfl) gv2 (rfl)) fJ.nil Z) Z) Z) Z λvs s1 F e1 aO=>have p1:=p.grow e1;have hl3:=aO.length;zx [9,71,72] B p1.ext (f9 bK bD) U' Z Z Z ?_ aO aL (by rw[hl3];rfl) aL p1.sg λs2 L2 p2=>?_
 .apply abX hl3;intro a b c
  .delta T dy
   show U'.params.symm▸Pk3.symm▸aC ⟨rfl,rfl⟩
 .show acU (hh) B I Pv1 au hl tV hm hd yR hn gv1 gv3 PR p2 λY G' hm' q=>⟨rfl,k Y hm' (p1.called q λy hy=>(bZ.mp hy).elim (yS y) (hS y))⟩
end
theorem QW(b9:List (LN)):we (zq b9)=N:=by
 show(?_:CF (b9.map aX)=N);induction b9 with
 |nil=>rfl
 |cons r rs ih=>show fN.mpr ⟨jM _,ih⟩
section
variable{S0:Sg}{Q:cb->ae->Prop}{fdM:cq}
def ae5:List cg:=[a9 cP 14,a9 cP 15,a9 cP 16,a9 cP 17,a9 cP 18,a9 cP 19,a9 cP 20,a9 cP 21,a9 cP 22,a9 cP 23,a9 cP 24,a9 cP 25,a9 cP 26,a9 cP 27,a9 cP 28,a9 cP 29]
theorem ajI{k9:af}(hA:ν 10 A)(B:cx U mg mb)(I:dQ mg mb)(hT:gm U)(M:MFn U mg a fdM cM)(Ob:pT U P t f)(h07:2007∉H)(D9:0<aM.length)(FT:aM.length<=20)(hc:c<=10)(p:PS H U iG J aK bo bu ([(0,0,kR Jk),(1,0,kR aM),(2,0,aT (iR aM)),(3,0,aT c),(5,0,aX data),(6,0,aX bits),(8,0,aH (R b)),(9,0,uw rs)]) (uL rs b9++S0) s)(yR:∀y∈ji b dx d sent,y∈S0)(hn:l8 sent)(hl:rs.length=13)(hm:Mx b9)(Xe:sent.length=80)(hbl:bits.length<=80)(ht:sent.take bits.length=bits)(hq:Sq b9)(s':(c - (yL aM c).length) / 2<=(BQ (yL aM c)).length)(wg:∀x∈oh (sJ aM c b9),x<256)(qW:(jO (cN 10) (uA (kS (cN 10) (fU (oh (sJ aM c b9)) c) (yL aM c))).now 10).length=(uA (kS (cN 10) (fU (oh (sJ aM c b9)) c) (yL aM c))).size)(kk:∀Y,sL (bo++bu) aK Y->Q (cB (c9 (ϋ aM c b9 sent))) Y):
 C A (aU (a9 cP 10::a9 cP 11::a9 cP 12::a9 cP 13::ae5) J) s Q:=by
 have hh:=hA.hd;have kQ:J.scope.kind=dZ/\J.kindOf (NM 10)=O cU:=by show bf p.fr λW r _=>?_;unfold kb;show r.scope.symm▸⟨rfl,rfl⟩
 have hmem:∀(j:Nat) r row,rs[j]? =O r->b9[j]? =O row->s.heap.get? r=O (kF row)/\r∉bX/\l8 row:=λj r row h1 h2=>by show hJ (p.sg _ (de S0 (pG h1 h2))) λe1 e2 _=>fc (hm.row row (cY h2)) λr1 r2=>⟨e1,e2,r2,by lia⟩
 show p.ajz (x:=10) (av:=zq b9) (QW b9) Z (ak (rfl)) (qN kQ.1 kQ.2 Z (rfl)) (λu Q' hu=>aeu (k:=0) (ed.of (rfl)) (by rfl) hh (p.base B) I (λb D=>dF (hT b D) λo e=>p.ext.there b o e) p.er.re Z (hl.trans hm.len.symm) hmem (by show hm.len.symm▸?_;decide) hu) hT λs1 p1=>?_;show(PS.less (G':=gL2 Jk aM c data bits (R b) b9) p1 (by show kr.rf bG bG)).s1 (S1.m (gc 11 (mK []) (o7 B.top fJ.nil Z Z) Z Z (aw (rfl)) Z)) λs2 p2=>p2.s1 (S1.m (acq hh B I)) λs3 p3=>have p3:=p3.share 11;have Tv:=p3.Hz (b:=b) (dx:=dx) (d:=d) (ns:=sent) (λy hy=>ew _ (yR y hy)) hn;acE (x:=16) (av:=aX sent) p3 (JO hh (p3.base B) I (rfl) Tv.dat Tv.t3 hn (Tw (p3.base B) (Ob.ext p3.ext) (by have:=hA.depth;show Lj this) Tv (ar (k:=0) 8 Z) Z Z) Z) (jM _) Z (ak (rfl)) Z λs4 p4=>have p4:=p4.share 16;(PS.less (G':=gL3 Jk aM c data bits b9 sent) p4 (by show kr.rf bG bG)).ssR (afB (τ':=2007::H) hA B I M D9 FT hc Xe hbl ht hq s' wg qW h07 (cR ..) λb D=>bY _ D) λY v F m aO=>?_;have ev:=aO.toBool;subst ev;show kk Y m
end
section
variable{S0:Sg}{Q:cb->ae->Prop}{fdM:cq}
theorem abk{lg:LN}{lv:Nat}(hA:ν 10 A)(bK:A.depth<500)(B:cx U mg mb)(I:dQ mg mb)(I2:uc mg mb)(hT:gm U)(M:MFn U mg a fdM cM)(Pk:Pkg U mg P t f Ys Z' Z8 fdP fdC)(OM:ZZ U mg P t f P2 t2 fd lg ex gen gp Oy)(EA:IF U lv ta ei [1,n+1+gen.length,n+1])(sj:script.length<=63)(abl:aM=lU script)(hc:c=5+iR aM)(BA:data=wW aM c)(hnc:n+1+c=10)(hlv:([1,0]:LN).getD (iR aM) 0=lv)(YT:data.length=n+1)(hd:∀x∈data,x<256)(hwd:wordsOf (dJ data) (n+1)=data)(xm:cs=(gV lg ex gen (data++b8 gen.length 0) data.length).drop data.length)(jB:cs.length=c)(hcb:∀x∈cs,x<256)(Iw:sent=dJ data++dJ cs)(PR:(I9 sent (mG Qb 8)).2=sent.length)(Xe:sent.length=80)(ht:sent.take (dJ data).length=dJ data)(hq:Sq (I9 sent (mG Qb 8)).1)(s':(c - (yL aM c).length) / 2<=(BQ (yL aM c)).length)(wg:∀x∈oh (sJ aM c (I9 sent (mG Qb 8)).1),x<256)(qW:(jO (cN 10) (uA (kS (cN 10) (fU (oh (sJ aM c (I9 sent (mG Qb 8)).1)) c) (yL aM c))).now 10).length=(uA (kS (cN 10) (fU (oh (sJ aM c (I9 sent (mG Qb 8)).1)) c) (yL aM c))).size)(p:PS [] U iG J aK bo bu [(0,0,kR script)] [] s)(kk:∀Y,sL (bo++bu) aK Y->Q (cB (c9 (ϋ aM c (I9 sent (mG Qb 8)).1 sent))) Y):
 C A (aU cP J) s Q:=by
 have hh:=hA.hd;show jc Pk λPv Pd Pe Pf Pg=>?_;show fc (Jx script) λD9 FT=>?_;have wy:iJ J=ab:=by show bf p.fr λW r _=>?_;delta iJ;show r.scope.symm▸?_;rfl
 have hbl:(dJ data).length=8 * (n+1):=by rw[pY,YT]
 have ajJ:l8 sent:=⟨λx E=>by rw[Iw]at E;show(bZ.mp E).elim (λq=>f9 (r8 data x q) aL) λq=>f9 (r8 cs x q) aL,by rw[Xe];decide⟩
 show(?_:C _ (aU (([a9 cP 0,a9 cP 1,a9 cP 2,a9 cP 3,a9 cP 4,a9 cP 5]++[])++(a9 cP 6::a9 cP 7::a9 cP 8::a9 cP 9::a9 cP 10::a9 cP 11::a9 cP 12::a9 cP 13::ae5)) J) s Q);show p.ss (ahH hh B I sj (SS.m SS.nil)) λs1 p1=>l_6 (H:=[]) hh bK B I I2 hT Pv Pd OM EA (λh=>kM h) (λh=>kM h) ⟨(rV _ bD),hlv⟩ (⟨λx E=>f9 (r8 data x E) aL,by lia⟩) hbl (r8 data) (by rw[hwd];show⟨hd,by lia⟩) au (hwd.symm▸xm) ⟨hcb,by lia⟩ (by show hwd.symm▸?_;lia) ((BA.symm▸hc.symm▸abl.symm▸p1).share 6) Z Z Z λs2 b2 dx2 d2 S2 p2 hi2=>?_;rw[hwd,<-Iw]at p2;have hbi:∀y∈ji b2 dx2 d2 sent++S2,gh y.2=N:=λy hy=>by show ba (bZ.mp hy) (λq=>?_) λq=>hi2 y q;simp only[ji,bq,mX,or_false]at q;rcases q with rfl|rfl|rfl<;>rfl
 show l_7 hh bK B I hT Pe (DU Z) p2 hbi Z λs3 rs hr1 hr2 hr3 p3=>l_8 hh bK B I Pf p3 hbi wy Z hr1 hr2 d_ hr3 λs4 p4=>l_9 hh bK B I Pv Pg p4 hbi wy Z Z hr1 hr2 (Qe d_ 8 (ey _)) hr3 (λy hy=>de _ hy) ajJ PR λs5 hm5 p5=>(ajI (k9:=0) hA B I hT M Pv.1 (DU Z) (abl▸D9) (abl▸FT) au p5 (λy hy=>de _ hy) ajJ hr1 hm5 Xe au ht hq s' wg qW kk)
end
section
variable{bh K':mx}{c T:af}{l:List aa}
theorem ou(x:(bh++K').In h):bh.In h:=λa o e=>x a o (by rw[UD,e];rfl)
set_option tactic.hygienic true in
theorem lA(X:bh.In h)(h1:bh.lookup a=O (mN fd))(h2:bh.lookup c=O (lq l))(ha:(a∉bX/\c∉bX))(hf:fd.params=fu st/\fd.body=lj (bg st)/\fd.scope=bc st/\fd.globals=3/\fd.closure=[]/\fd.kwdefaults=aA/\fd.code=R c/\fd.builtins=0)(hq:∃t,l[1]? =O (cO fd.qualname t)):rb h a fd st:=dU hf λf1 f2 f3 f4 f5 f6 f7 f8=>dF hq λt ht=>⟨⟨(cn _ (X _ _ h1) Z),ha.1,c,_,_,t,f7,ha.2,X _ _ h2,rfl,KX.trans ht⟩,f2,f3,f1,f4,f8,f5,f6⟩
theorem ui{x0 x1 x2 x3 x4 x5 x6 x8 x12 x13 x14 x15 x16 x17:aa}{b:Bool}{f1 f2:Int}{t1 t2 t3:a8}{fl:aV}(X:bh.In h)(h1:bh.lookup c=O (lq [x0,x1,x2,x3,x4,x5,x6,ag f1 t1,x8,c9 b,ag f2 t2,R T,x12,x13,x14,x15,x16,x17,cO fl t3]))(h2:bh.lookup T=O (tabObj #[]))(hn:c≠T):h.IsCode c T #[]/\h.TableAt c T #[]:=
 (gI ⟨_,_,fl,t3,f1,t1,b,f2,t2,_,X _ _ h1,rfl,rfl,rfl,rfl,rfl,rfl,X _ _ h2,rfl,trivial,hn⟩ ⟨_,_,X _ _ h1,rfl,rfl,rfl⟩ (X _ _ h2))
theorem r9(l:LN):∀(k:Nat),fk (Ds k l) (l.map ai):=by
 induction l with
 |nil=>intro _;show qB
 |cons n l iH=>intro k;show yy n k (iH (k+1))
theorem bM.uN{aY:af}{ys:List aa}(hD:aY∉bX)(e:h.get? aY=O (cV ys n))(ia:fk ys (ms.map ai)):bM h (Lake.uN ms) (R aY) []:=by have aO:=wJ (h:=h) ia;rw[qo]at aO;show DW aY ys n Z hD e aO
theorem M2.get{aN:α->aa->Prop}{iD:List (MK×aa)}{sp:List (MK×α)}{k:MK}{a:α}(x:M2 aN iD sp)(hn:(sp.map (·.1)).Nodup)(e:sp.lookup k=O a):∃v,valueAt iD k=O v/\aN a v:=by show dF (sX (mH e)) λj hj=>?_;have hl:=x.1▸(dR.mp hj).1;show fc (x.2 j iD[j].1 iD[j].2 k a (dE hl) hj) λh1 h2=>?_;show cn _ (valueAt_of_get (x.keys▸hn) (by rw[dE hl,<-h1])) h2
end
def X'(P:cf)(k0 k:Nat):aV->Option aa:=mn (nsC P k0 k)
def mbT(P:cf):aV->Option aa:=mn (sI (qz P))
theorem abm(X:(qH P k).In h):pT h P (tC k) (fC k) where
 pH:=ou (ou (ou X))
 acQ:=lA X Z Z aL ⟨rfl,rfl,rfl,rfl,rfl,rfl,rfl,rfl⟩ ⟨_,rfl⟩
 itemF:=lA X Z Z aL ⟨rfl,rfl,rfl,rfl,rfl,rfl,rfl,rfl⟩ ⟨_,rfl⟩
 ϯ:=lA X Z Z aL ⟨rfl,rfl,rfl,rfl,rfl,rfl,rfl,rfl⟩ ⟨_,rfl⟩
 dJ:=lA X Z Z aL ⟨rfl,rfl,rfl,rfl,rfl,rfl,rfl,rfl⟩ ⟨_,rfl⟩
 afK:=rfl
 ϰ:=rfl
 afL:=rfl
 ϱ:=rfl
theorem Z2(X:(qH P k).In h):rd h (fC k) where
 HG:=lA X Z Z aL ⟨rfl,rfl,rfl,rfl,rfl,rfl,rfl,rfl⟩ ⟨_,rfl⟩
 XI:=rfl
 dft:=⟨0,X _ _ Z⟩
 emp:=⟨0,X _ _ Z⟩
theorem Z3(P:cf)(k0 k:Nat):([("ECC",139),("Buffer",2002),("make_final_message",1926),("make_matrix",1939),("add_timing_pattern",1914),("add_finder_patterns",1907),("add_codewords",1921),("_FINDER_PATTERN",1900),("make_blocks",1931),("GALIOS_LOG",1888),("GALIOS_EXP",1890),("GEN_POLY",1868),("_law_mended",2010),("law",2015),("__builtins__",4)]:List (String×af)).map (λx=>X' P k0 k (aB x.1))=[139,2002,1926,1939,1914,1907,1921,1900,1931,1888,1890,1868,2010,2015,4].map λa=>O (R a):=by ext
theorem mg_of(P:cf)(k0 k:Nat){nm:String}(i:Nat)(h:([("ECC",139),("Buffer",2002),("make_final_message",1926),("make_matrix",1939),("add_timing_pattern",1914),("add_finder_patterns",1907),("add_codewords",1921),("_FINDER_PATTERN",1900),("make_blocks",1931),("GALIOS_LOG",1888),("GALIOS_EXP",1890),("GEN_POLY",1868),("_law_mended",2010),("law",2015),("__builtins__",4)]:List (String×af))[i]? =O (nm,a))(h2:([139,2002,1926,1939,1914,1907,1921,1900,1931,1888,1890,1868,2010,2015,4]:List af)[i]? =O a):X' P k0 k (aB nm)=O (R a):=by have e:=congrArg (λl:List (Option aa)=>l[i]?) (Z3 P k0 k);rw[cZ,cZ,h,h2]at e;show aW e
theorem abn(P:cf)(k0 k:Nat):([("VERSION_M1", -3),("VERSION_M2", -2),("VERSION_M3", -1),("ERROR_LEVEL_L",1),("ERROR_LEVEL_M",0)]:List (String×Int)).all (λx=>(X' P k0 k (aB x.1)).any (xD x.2))=N:=by ext
theorem IG(P:cf)(k0 k:Nat){nm:String}{i:Int}(h:(nm,i)∈([("VERSION_M1", -3),("VERSION_M2", -2),("VERSION_M3", -1),("ERROR_LEVEL_L",1),("ERROR_LEVEL_M",0)]:List (String×Int))):∃v,X' P k0 k (aB nm)=O (ag i v):=bf ((Option.any_eq_true _ _).mp (mW.mp (abn P k0 k) _ h)) λv q e=>dF (Tx e) λt r=>⟨t,r▸q⟩
theorem QX(P:cf)(k0 k:Nat):((BI++[("type",ao "type"),("issubclass",bB "issubclass")]).map λp=>(X' P k0 k (aB p.1),mbT P (aB p.1)))=(BI++[("type",ao "type"),("issubclass",bB "issubclass")]).map λp=>(ah,O p.2):=by ext
theorem aev(P:cf)(k0 k:Nat):dQ (X' P k0 k) (mbT P):=λp hp=>tM (vi.mp (QX P k0 k) p (de _ hp))
theorem abo(P:cf)(k0 k:Nat):uc (X' P k0 k) (mbT P):=λp hp=>tM (vi.mp (QX P k0 k) p (ew _ hp))
theorem Z4(l:List (LN)):∀(as:List af),as.length=l.length->(∀(j:Nat) a r,as[j]? =O a->l[j]? =O r->bM h (uN r) (R a) [])->bA h (l.map uN) (as.map R) []:=by
 induction l with
 |nil=>show λas hl _=>?_;rw[Uo hl];show .nil
 |cons r l ih=>show λas hl hr=>eT (MD hl) λa t e h=>by rw[e]at hr ⊢;show ej [] [] (hr 0 a r Z Z) (ih t h λj a r h1 h2=>hr (j+1) a r h1 h2)
theorem ajK(X:(qH P k).In h):bM h fpV (R 1900) []:=by show⟨1900,([1891,1892,1893,1894,1895,1896,1897,1898,1899]:List af).map R,0,rfl,DU Z,X _ _ Z,Z4 FPN _ Z λj a r h1 h2=>?_⟩;have hj:j<9:=(dR.mp h1).1;rcases(by lia:j=0\/j=1\/j=2\/j=3\/j=4\/j=5\/j=6\/j=7\/j=8) with rfl|rfl|rfl|rfl|rfl|rfl|rfl|rfl|rfl<;>(show aW h1▸?_;show aW h2▸?_;show bM.uN (DU Z) (X _ _ Z) (r9 _ _))
theorem ag8(X:(qH P k).In h):∃Ys Z' Z8 fdP fdC,Pkg h (X' P k0 k) P (tC k) (fC k) Ys Z' Z8 fdP fdC:=by
 have cF:=ui (c:=1925) X Z Z (uj Z);have cX:=ui (c:=1938) X Z Z (uj Z);show⟨_,_,_,_,_,⟨abm X,IG P k0 k au,IG P k0 k au,IG P k0 k au⟩,
  ⟨Z2 X,mg_of P k0 k 0 Z Z,mg_of P k0 k 1 Z Z,IG P k0 k au,IG P k0 k au,mg_of P k0 k 2 Z Z,lA X Z Z aL ⟨rfl,rfl,rfl,rfl,rfl,rfl,rfl,rfl⟩ ⟨_,rfl⟩,rfl,rfl,cF.1,cF.2⟩,
  ⟨mg_of P k0 k 3 Z Z,lA X Z Z aL ⟨rfl,rfl,rfl,rfl,rfl,rfl,rfl,rfl⟩ ⟨_,rfl⟩,rfl,⟨0,X _ _ Z⟩,rfl,cX.1,cX.2,mg_of P k0 k 4 Z Z,lA X Z Z aL ⟨rfl,rfl,rfl,rfl,rfl,rfl,rfl,rfl⟩ ⟨_,rfl⟩,rfl⟩,
  ⟨mg_of P k0 k 5 Z Z,lA X Z Z aL ⟨rfl,rfl,rfl,rfl,rfl,rfl,rfl,rfl⟩ ⟨_,rfl⟩,rfl,⟨_,mg_of P k0 k 7 Z Z,ajK X⟩⟩,
  mg_of P k0 k 6 Z Z,lA X Z Z aL ⟨rfl,rfl,rfl,rfl,rfl,rfl,rfl,rfl⟩ ⟨_,rfl⟩,rfl⟩
theorem Oi(X:(qH P k).In h):∀b∈bX,h.get? b=O (tabObj #[])/\isCodeTable h b:=λb D=>by
 apply tO D
 .show ⟨X _ _ Z,(ui (c:=1925) X Z Z (uj Z)).2.isCodeTable⟩
 .show ⟨X _ _ Z,(ui (c:=1938) X Z Z (uj Z)).2.isCodeTable⟩
 .show ⟨X _ _ Z,(ui (c:=1983) X Z Z (uj Z)).2.isCodeTable⟩
 .show ⟨X _ _ Z,(ui (c:=2009) X Z Z (uj Z)).2.isCodeTable⟩
theorem aew(X:(qH P k).In ax.heap)(m:sL [] ax Y):OldK ax.heap Y.heap:=⟨λb o e=>by
 by_cases D:b∈bX
 .show fc (Oi X b D) λe1 e2=>?_;obtain rfl:=aW (e1.symm.trans e);show dF (m.mod.tab b D _ e1) λmore e3=>(aw (ak ⟨e2,rfl,#[],more,rfl,e3⟩))
 .show ak (m.mod.keep b o (λh=>kM h) D e),λb o e=>m.mod.there b o e⟩
theorem ag9(X:(qH P k).In h):∃fd,MFn h (X' P k0 k) 2010 fd 2009:=by have c:=ui (c:=2009) X Z Z (uj Z);have F:rb h 2010 _ (dP 26):=lA X Z Z aL ⟨rfl,rfl,rfl,rfl,rfl,rfl,rfl,rfl⟩ ⟨_,rfl⟩;show⟨_,mg_of P k0 k 12 Z Z,F.at_,F.params,F.body,F.scope,F.clo,F.glob,F.bi,rfl,rfl,rfl,by decide,c.1,c.2⟩
theorem Z5(k:Nat):(S9 k).all (λe=>(aJ 64).any λi=>xD i e.key && e.hash==hashInt i)=N:=by ext
theorem abp(X:(zE k).In h):h.IntMap 1868 (findBy xD (S9 k)):=⟨_,S9 k,18,X _ _ Z,rfl,rfl,(λe he=>bf (Ld.mp (Vr.mp (Z5 k) e he)) λi _ h=>dF (Tx (fN.mp h).1) λt q=>⟨i,t,q,beq_iff_eq.mp (fN.mp h).2⟩),λ_=>rfl⟩
theorem QY(k:Nat):findBy xD (S9 k) (ai 5)=O (R 1870)/\findBy xD (S9 k) (ai 6)=O (R 1871):=⟨rfl,rfl⟩
theorem aex(X:(qH P k).In h)(hg:bM h (uN gen) (R gp) [])(D:∀x∈gen,x<255)(hl:gen.length<=100):L_ h wz iO.zB gen gp:=
 ⟨bM.uN (DU Z) (X _ _ Z) (r9 _ _),
  ⟨_,Dm (DU Z) (X _ _ Z) (by rw[iO.zB,jH];show(r9 Q9 (k+257)).append (r9 Q9 (k+257)))⟩,
  hg,
  tW,
  by rw[iO.zB,iu,yI],
  by decide,
  by decide,
  D,
  hl⟩
theorem ae6(XA:(zk P).In h)(XB:(zE k0).In h)(X:(qH P k).In h)(hg:bM h (uN gen) (R gp) [])(D:∀x∈gen,x<255)(hl:gen.length<=100)(hf:findBy xD (S9 k0) (ai gen.length)=O (R gp)):
 ∃Oy,ZZ h (X' P k0 k) P (tC k) (fC k) P tA fdG wz iO.zB gen gp Oy:=by
 have c:=ui (c:=1983) X Z Z (uj Z);show⟨_,ou (ou (ou X)),
  ⟨lA X Z Z aL ⟨rfl,rfl,rfl,rfl,rfl,rfl,rfl,rfl⟩ ⟨_,rfl⟩,rfl,rfl,c.1,c.2⟩,
  ⟨ou (ou XA),lA XA Z Z aL ⟨rfl,rfl,rfl,rfl,rfl,rfl,rfl,rfl⟩ ⟨_,rfl⟩,rfl,0,XA _ _ Z⟩,
  aex X hg D hl,
  mg_of P k0 k 9 Z Z,
  mg_of P k0 k 10 Z Z,
  mg_of P k0 k 11 Z Z,
  ⟨_,abp XB,hf⟩,
  mg_of P k0 k 8 Z Z,
  lA X Z Z aL ⟨rfl,rfl,rfl,rfl,rfl,rfl,rfl,rfl⟩ ⟨_,rfl⟩,
  rfl⟩
theorem aey(X:(qH P k).In h)(e:h.get? a=O o)(hc:o.cls≠aA):a∉bX:=λq=>by replace e:=((Oi X a q).1)▸e;obtain rfl:=aW e;show hc Z
theorem IH{lv d:Nat}(T:Ag w os s)(hk:uk s.heap ax.heap)(X:(qH P k).In ax.heap)(hl:m2s.lookup (.int (ai lv))=O (.ecs [(1,10,d)])):∃ta ei,IF ax.heap lv ta ei [1,10,d]:=by
 show uB T.ex λk0 k iD _ _ _ hD hM=>have up:∀{d:af} {iD:List (MK×aa)},s.heap.DictOf (d0) d iD->ax.heap.DictOf (d0) d iD:=λqQ=>ff qQ λo es ep e r=>⟨o,es,ep,hk _ _ e,r⟩;bf (hM.get JZ agE) λv e1 q1=>?_;obtain⟨d2,al8,_,hD2,hM2⟩:=q1;have FT:(m2s.map (·.1)).Nodup:=sd hD2 λ_ _ _ _ _ _ _ _ hn=>hM2.keys▸hn;show dF (hM2.get FT hl) λv2 i=>Ga i λe2 ta vs qI _ ht hv=>?_;subst qI;cases vs with
 |nil=>show hv.elim
 |cons u vs=>
  cases vs with
  |cons _ _=>show hv.2.elim
  |nil=>
   obtain⟨i,dx,t0,t1,t2,_,_,hi,hdx⟩:=hv.1;show tN (id (up hD2)) λo2 _ _ g2 x2 _=>?_;have xc:o2.cls≠aA:=λq=>by have:=x2.1;have this:=q.symm.trans this;ext
   show⟨ta,i,⟨_,d2,_,(up hD).mapOf,e1,((up hD2).mapOf),aey X g2 xc,e2⟩,⟨0,hk _ _ ht⟩,aey X (hk _ _ ht) (by nofun),⟨dx,t0,t1,t2,1,10,d,rfl,hk _ _ hi,hk _ _ hdx,aey X (hk _ _ hdx) (by nofun),aey X (hk _ _ hi) (by nofun)⟩⟩
theorem QZ(T:Ag w os s)(hk:uk s.heap ax.heap)(h3:s.heap.get? 3=O {cls:=ao "dict",data:=eg (nsC w.params k0 k) 34})(ha:ax.heap.get? a=O o)(hat:a=2016):cx ax.heap (X' w.params k0 k) (mbT w.params) where
 g:=xC (hk _ _ h3) Z (Cp _ _ _)
 b:=xC (hk _ _ (T.old 0 _ bD (uj Z) (uj Z) (uj Z) (uR bD))) (Te _) (Oa _)
 lim:=⟨_,xC (hk _ _ T.agM) Z (Vs.mpr λ_ h=>absurd h (rM _)),rfl⟩
 top:=⟨o,(show Q5=a from hat.symm)▸ha⟩
 bmod:=⟨4,_,mg_of w.params k0 k 14 Z Z,uj Z,DU Z,hk _ _ (T.old 4 _ bD (uj Z) (uj Z) (uj Z) (uR bD)),rfl,rfl,rfl⟩
theorem Z6:((aJ 256).all λv=>(n9 v).foldl (λwd b=>2 * wd+b) 0==v)=N:=by rfl
theorem v9:∀(l:LN),(∀x∈l,x<256)->wordsOf (dJ l) l.length=l
 | [],_=>rfl
 |v::l,hl=>by
  have ih:=v9 l λx E=>hl x (bV _ E);have h8:(n9 v).length=8:=by rfl
  unfold wordsOf at ih ⊢;rw[oO,Ut,ix,qo,iO.sE];show List.cons_eq_cons.mpr ⟨beq_iff_eq.mp (mW.mp Z6 v (dm.mpr (hl v (cR ..)))),?_⟩;show Eq.trans (AI λi _=>?_) ih;show(?_:wordAt (n9 v++dJ l) (8 * (i+1))=wordAt (dJ l) (8 * i))
  delta wordAt
  rw[show 8 * (i+1)=(n9 v).length+8 * i by lia,List.drop_append,rF,List.drop_eq_nil_of_le au,yh]
theorem abq{args:List WData}{as:List af}(ZT:FY.row.toRowW.claim.pre args=N)(ZU:Mp args=N)(br:Laid [] w s ax args vs as)(low:sQ<s.heap.objs.size):∃(ns:List Int) (a:af) (n:List aa),args=[ofPy (My (ns.map Mz))]/\ns.length<=63/\vs=[R a]/\ax.heap.get? a=O (bp n 0)/\fk n ns/\a=s.heap.objs.size:=by
 have hrd:=br.reads;have W9:=br.well;have IJ:=br.low low
 wrow_args ZT ZU hrd W9 IJ
 show⟨_,_,_,rfl,by lia,rfl,X.script_obj br (by assumption),by assumption,(X.script_at br).1⟩
theorem abr{cl:aV->Option af}{alM:ExcName->Option aa}{ns:List Int}(X:(qH P k).In ax.heap)(hg:ax.gens=#[])(m:sL [] ax Y):GoodWG FY.row.toRowW.claim cl alM [ofPy (My (ns.map Mz))] ax (bW (cB (c9 N))) Y:=
 ⟨ak ⟨c9 N,WData.bool N,[],rfl,λ_=>rfl,ReadsW.bool N,by ext,λ_=>⟨rQ,λ_ h=>kM h⟩⟩,aew X m,m.os,m.gens.2 (λx E=>by rw[hg]at E;show absurd E (Vm x))⟩
theorem Z7:QL:=by
 show λos s ax args vs as T ZT ZU br=>sd (abq ZT ZU br (by rw[T.size];decide)) λns a its dX wK qI ha ia hat=>?_;subst dX;subst qI;rw[T.size]at hat;have hk:=br.keeps;show og λgG kG=>?_;obtain⟨k0,k,iD,h3,hB,hC, -, -⟩:=id T.ex;have X:=hC.keeps hk;have XA:=T.fA.keeps hk;have XB:=hB.keeps hk;have B:=QZ T hk h3 ha hat;obtain⟨fdM,M⟩:=ag9 (k0:=k0) X;obtain⟨Ys,Z',Z8,fdP,fdC,Pk⟩:=ag8 (k0:=k0) X;obtain⟨fdL,NL,hdL⟩:∃fd,rb ax.heap 2015 fd (dP 27)/\fd.defaults=aA:=⟨_,lA X Z Z aL ⟨rfl,rfl,rfl,rfl,rfl,rfl,rfl,rfl⟩ ⟨_,rfl⟩,rfl⟩;show kG ?_;clear kG gG;have aO:bM ax.heap (kR ns) (R a) [a]:=by show sf [] (by rw[hat];decide) ha (wJ ia)
 have hnl:iR (lU ns)<2:=rV _ aL;show zx (H:=[]) (S:=[]) (us:=[R a]) (avs:=[kR ns]) (F:=[a]) [0] B (.refl _) aL NL Z Z Z ?_ ?_ aL Z aL (λ_ h=>kM h) λs2 L2 p2=>?_
 .delta Lake.T dy
  show NL.params.symm▸hdL.symm▸aC ⟨rfl,rfl⟩
 .show ej [a] [] aO .nil
 have key:∀(lv n:Nat) (gen:LN) (gp ta ei:af) (Oy:cq),iO.JW gen->gen.length=5+iR (lU ns)->n+1+gen.length=10->([1,0]:LN).getD (iR (lU ns)) 0=lv->ZZ ax.heap (X' w.params k0 k) w.params (tC k) (fC k) w.params tA fdG wz iO.zB gen gp Oy->IF ax.heap lv ta ei [1,n+1+gen.length,n+1]->
  C (callerA.deeper (gO fdL L2 2015)) (aU (bg (dP 27)) (gO fdL L2 2015)) s2 (λf Y=>GoodWG FY.row.toRowW.claim (classAt s.heap) (Ww s.heap) [ofPy (My (ns.map Mz))] ax (bW (cB (Xm f))) Y):=λlv n gen gp ta ei Oy hG hgl hnc hlv OM EA=>by
  have YT:(wW (lU ns) gen.length).length=n+1:=by delta wW;rw[ig,K9];show Nat.sub_eq_of_eq_add (id (lh hnc))
  have hd:∀x∈wW (lU ns) gen.length,x<256:=λx E=>by show bf (bH.mp E) λi _ DY=>?_;subst DY;show rV _ aL
  show dU (iO.plain (aM:=lU ns) hG au hd) λq1 q2 q3 q4 q5 q6 q7 q8=>?_;have hdk:∀x∈wW (lU ns) gen.length++b8 gen.length 0,x<256:=λx E=>by show ba (bZ.mp E) (λh=>hd x h) λh=>by rw[vh h];decide
  rw[iO.Iv]at q1 q2 q3 q4 q6 q7 q8;show abk ⟨rfl,(by change 302+10<1000;decide),(by show(?_:4+3+20 * 10<9900);decide)⟩ (by change 302<500;decide) B (aev w.params k0 k) (abo w.params k0 k) (λb D=>⟨_,(Oi X b D).1⟩) M Pk OM EA wK Z hgl Z au hlv YT hd (by show YT▸?_;show v9 _ hd) Z ?_ (λx E=>iO.SJ hdk _ x (ry E)) Z q2 q1 q3 q4 q5 q6 q7 p2 λY m=>?_
  .rw [AN,xu,iu,ru];lia
  .show q8.symm▸abr X br.gens m
 rcases(show iR (lU ns)=0\/iR (lU ns)=1 by lia) with e|e
 .show jg (IH T hk X ajf) λta ei EA=>dF (ae6 (gen:=iO.agh) XA XB X (bM.uN aL (XB _ _ Z) (r9 _ _)) aL aL (QY k0).1) λOy OM=>key 1 4 iO.agh 1870 ta ei Oy iO.ala (by rw[e];rfl) Z (by rw[e];rfl) OM EA
 .show jg (IH T hk X ajg) λta ei EA=>dF (ae6 (gen:=iO.agi) XA XB X (bM.uN aL (XB _ _ Z) (r9 _ _)) aL aL (QY k0).2) λOy OM=>key 0 3 iO.agi 1871 ta ei Oy iO.alb (by rw[e];rfl) Z (by rw[e];rfl) OM EA
end
end Mine.Lake
open PySem PySem.W PyProof.Rows
theorem PySem.Challenge.cw_nv0014_01_holds : PySem.Challenge.rw_nv0014_01.Holds :=
 holds_law Mine.Lake.t1 λk1=>Mine.Lake.aeh Mine.Lake.Z7 k1
