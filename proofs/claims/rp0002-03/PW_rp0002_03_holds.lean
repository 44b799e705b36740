import PyProof.Rows.All
import Wide.All
import OpenK.AllK
import Wide.FinOn
import Lean
import PySem.Challenge.RW_rp0002_03
set_option Elab.async false
set_option genSizeOf false
set_option genInjectivity false
set_option genCtorIdx false
set_option bootstrap.genMatcherCode false
set_option linter.all false
set_option tactic.hygienic false
local macro_rules |`(command|def $i:declId $s:optDeclSig $v:declVal)=>`(command|noncomputable def $i:declId $s:optDeclSig $v:declVal)|`(command|abbrev $i:declId $s:optDeclSig $v:declVal)=>`(command|noncomputable abbrev $i:declId $s:optDeclSig $v:declVal)
set_option hygiene false in
local macro_rules | `($a -> $b) => `(∀ ζ : $a, $b)
local macro_rules | `(tactic|erw [$e:term]) => `(tactic|refine Eq.substr $e ?_)
set_option maxRecDepth 100000
set_option maxHeartbeats 8000000
namespace Mine.Internal
open Option renaming some->aM,some_ne_none->Lm,elim->LW,map_eq_some_iff->Me,map->My,bind_eq_some_iff->MM,isNone_iff_eq_none->NC,filter_eq_some_iff->ND,getD->NS,map_map->OY,bind->OZ,isNone->RG,ne_none_iff_exists'->SQ,join_eq_some_iff->Tq,toList->Za,isSome_some->Zb,isSome_none->Zc,isSome_iff_exists->Zd,eq_none_iff_forall_ne_some->Ze,elim_none->Zf
open _root_ renaming List->cp,congrArg->dd,Nat->ki,of_decide_eq_true->p6,absurd->p7,Option->rt,if_neg->E1,if_pos->K2,decide_eq_true->Ln,Bool->LG,decide_eq_false->LQ,Array->Mv,beq_iff_eq->MU,Int->Nj,beq_eq_false_iff_ne->Om,Decidable->OS,ForInStep->O2,beq_self_eq_true->Pi,and_congr_right->Pu,decide_eq_decide->Qb,of_decide_eq_false->QM,decide_eq_true_iff->QN,Unit->Rt,bne_iff_ne->RB,String->RE,Except->RI,or_congr_right->R6,DecidableEq->Sh,or_congr_left->SA,if_false->T7,PUnit->Ub,or_iff_right->UT,iff_of_true->VB,congrFun->VE,bne_self_eq_false->Wt,iff_of_false->X0,exists_congr->X3,or_iff_left->Yj,decide_not->YD
open Nat renaming le_trans->cy,lt_of_le_of_lt->eF,le_of_ble_eq_true->e0,le_of_eq->p8,lt_of_lt_of_le->rf,le_of_lt_succ->tc,le_of_lt->y1,le_refl->Lf,zero_le->Lp,add_le_add_left->Ls,ne_of_lt->Lu,succ_le_succ->Lw,lt_succ_self->Lz,le_add_right->LA,lt_or_eq_of_le->LV,add_le_add->LY,lt_trans->Mj,lt_succ_of_le->Mz,le_succ->MA,not_lt_zero->MD,le_antisymm->ME,lt_of_lt_of_eq->MI,add_le_add_right->MJ,succ_ne_zero->MK,succ_pos->MO,lt_irrefl->MR,ne_of_gt->MW,sub_add_cancel->MZ,pos_of_ne_zero->Nd,not_succ_le_zero->Nf,add_comm->Nk,lt_succ_of_lt->Nn,lt_of_succ_lt_succ->Ny,le_of_succ_le_succ->Nz,mul_le_mul_left->NA,add_sub_cancel'->NB,lt_of_sub_eq_succ->NJ,succ_add_eq_add_succ->NU,add_assoc->NV,ble->Oc,lt_or_ge->Oj,not_lt->Os,ble_eq->OA,blt->OC,not_lt_of_le->OG,lt_one_iff->OH,zero_add->OQ,le_add_left->OV,add_lt_add_of_lt_of_le->O3,le_of_not_lt->O5,succ->Pj,ne_of_beq_eq_false->PD,le_succ_of_le->PG,succ_lt_succ->PW,min_le_right->PX,not_succ_le_self->P3,min_le_left->Qc,sub_le->Qx,blt_eq->Qy,le_zero->QG,sub_sub_self->QT,not_le_of_lt->QU,lt_of_not_le->QV,add_sub_cancel_left->QW,succ_add->Rc,eq_zero_of_not_pos->Rd,beq->Re,zero_lt_two->Rk,eq_of_beq_eq_true->Rv,mul_le_mul_right->RH,max_le->Sd,lt_of_le_of_ne->Se,add_right_comm->Sf,lt_trichotomy->Ss,le_of_succ_le->Su,not_le_of_gt->SL,le_max_right->SM,one_ne_zero->S9,min_eq_left->Ta,le_max_left->Tb,add_lt_add_of_le_of_lt->Ts,le_of_add_le_add_left->TA,succ_pred_eq_of_pos->TN,lt_add_of_pos_right->TO,exists_eq_add_of_le->TP,sub_zero->Uc,pred_eq_of_eq_succ->Ud,add_zero->Ue,sub_succ_lt_self->Ux,sub_le_of_le_add->Uy,add_lt_add_right->Uz,sub_pos_of_lt->Vh,lt_of_succ_lt->Vj,zero_lt_succ->VI,min_eq_right->VJ,succ_mul->WK,sub_self->WL,lt_asymm->WM,mul_two->Xf,add_mul->Xg,mod_lt->XF,beq_eq->XG
open PySem renaming wpAny_bind->ec,Shared->ow,wpAny_pure->pe,wpAny->rl,Value->rr,model->Lg,Str->Lj,Expr->LF,mainGlobals->LU,Addr->LZ,eval->Mb,wpAny_holding->Mc,starEach->Ml,DictEntry->MH,wpAny_call_entry->ML,Around->MQ,spliced->MV,World->MY,backTo->M1,Heap->M7,wpAny_callSpecial?_slot->Nh,wpAny_rule->Np,foldedSetIterable->Nq,rawInt->Nx,OsState->NG,strKind->NQ,wpAny_setField->Od,Stmt->Of,wpAny_newObj_type->Og,wpAny_specialOf->Oh,wpAny_ite_false->Oi,isTrue->Ou,Program->Ow,compEnvC->OB,wpAny_mono->OD,mem_of_lookup->OE,isSubtype_type->OO,exec->OP,Env->OR,wpAny_allTrue_And_cons->OX,wpAny_standAt->O1,sysModules->Pc,swapsWith->Pf,compareOp->Pg,cellsFrom->Ph,codeAny_builtin->Pt,Builtin->PB,assignEach->PC,wpAny_truthy_bool->PR,wpAny_setState_of->PS,getItem->PV,Obj->P0,cLine->P5,seqIndex?->P8,eqIsQuiet->Qa,swappedStores->Qf,sizeLine_eq->Qi,binaryOp->Qj,Scope->Ql,NameKind->Qm,FuncData->Qp,pushCells_keeps->Qw,plainExc_IndexError->QB,Pos->QC,wpAny_seqItems->QK,builtinsNs->QO,wpAny_sequenceKey->QY,wpAny_pyIter_enum->QZ,wpAny_field->Q0,holding->Q1,execs->Q3,truthy->Q8,assignInOrder->Q9,Comprehension->Rj,storeName->Rm,seqItems?->Rn,scanBound->Ro,pushCells->Rp,isSubtype->Rq,strKind->Rz,assign->RC,letOwnedTupleGo->RK,newFunctionEnv->R7,compPost->R9,Operator->Sa,pickOrder->Sj,wpAny_isTrue_BoolOp->Sp,wpAny_pyIter_tuple->SH,wpAny_missed_other->SI,wpAny_call->SJ,slot_dict_contains->SK,wpAny_typeOf->SW,wpAny_pyIter_list->SX,wpAny_dictEntries->SY,wpAny_assign_Name->SZ,slot_dict_getitem->S0,fits_of_scanBound->S6,eqIsQuiet_byValue->S7,wpAny_isInstance->Tj,wpAny_askSetting->Tn,treeTable->Tp,IsEnum->Tv,subscripted->Tx,wpAny_execs_nil->TH,dictGet->TM,wpAny_runValue->TV,strKind_is->TX,relayAll->TZ,recursionLimit->T3,letTemporaryGo->T4,call_meets->T8,SetTable->T9,Params->Ua,swapsWithSole->Ur,strLen_append->Us,plainId_quiet->Ut,behindInMarks->Uu,ExceptHandler->UE,wpAny_callSpecial?_none->UH,setFlight->UI,wpAny_Assign_Subscript->UP,pyNext->UQ,pyIter->UR,pyHash->US,codeAny_compStart_list->UW,codeAny->UX,callSpecial?->UY,bootBuiltins->UZ,aRefKeyMayBeTheName_at->U0,reduceHash->U2,Fin->U4,wpAny_allTrue_Or_cons->Ve,wpAny_allTrue_And_nil->Vf,builtinLookup_eq_fast->Vg,wpAny_storeName_cell->Vu,wpAny_of_eq->Vv,wpAny_mkInt->Vw,wpAny_loadName_local->Vx,wpAny_letTemporaryGo->Vy,sizeLine->VA,formatField->VC,evalPart->VD,callWith->VF,bindName->VG,bindArgs->VH,wpAny_setEntries_of->VU,wpAny_loadName_cell->VV,wpAny_Constant_str->V6,typeOf->V7,Data->Wg,wpAny_storeSet_of->Wh,wpAny_setEpoch_of->Wi,wpAny_pyIter_slot->Wj,standAt->Wk,slot_list_setitem->Wl,slot_list_getitem->Wm,slot_dict_setitem->Wn,setItem->Wo,newList->Wq,getMethod_builtin->Wr,callerA->Ws,Keyword->Wu,plain_len->Wy,entry_len->WD,drawOrder->WE,converted->WG,beq_builtin_none->WI,call->WJ,wpAny_updateSeq->WW,wpAny_loadPart'->WX,wpAny_dictEpoch->WY,typeLookup_type->WZ,Str->Xd,wpAny_newTuple->Xs,wpAny_loadPart->Xu,wpAny_layCells->Xv,wpAny_bindName->Xw,methodCallForm->Xx,eval_Subscript->Xz,entryFor_alias->XA,entryFor->XB,dictFind->XC,argsOk->XD,ReadsAll->XE,GenState->XH,wpAny_newList->XI,wpAny_UnaryOp->XJ,signature?_of->XK,methodCallPos->XM,evalPart_none->XQ,dictWalkPlain->XR,comprehension->XS,attributeBase->XT,tableMayTell->XW,setNextDrawn->XX,setAddHashed->XY,name_of_addr->XZ,getAttr->X1,foundByValue->X2,dictSet->X4,collect->X5,codeAny_mono->X6,cellsFrom_ok->X7,UnaryOp->X8,Flow->Yc,wpAny_letGo->Ye,wpAny_alloc->Yg,wpAny_Tuple->Yh,noBool_dict->Yk,list_append->Yl,interactive->Ym,field->Yn,Reads->Ys,IsRangeIter->Yt,Const->Yu,CmpOp->Yv,wpAny_load->Yw,typeLookup->Yx,typeIs_int->Yy,setsByText->Yz,reduceHash->YA,newExc->YB,eqBool->YC,cellOf->YE,PyData->YU,IsItemIter->YW,BoolOp->YX,updateSeq->YY,putSet_of->YZ,noteFrame->Y0,newFields->Y1,joinParts->Y2,dictEpoch->Y4,args_len1->Y5
open Option.some renaming inj->ey
open List renaming mem_cons_self->fp,length_map->h7,getElem?_eq_some_iff->kO,mem_singleton->n2,mem_of_getElem?->od,mem_cons_of_mem->oo,getElem?_eq_getElem->o2,mem_map->p9,mem_cons->ta,length_append->GE,not_mem_nil->Le,range->Lk,mem_append_right->Ll,mem_append->LB,mem_append_left->LD,mem_range->LI,length_range->LJ,mem_map_of_mem->LL,map_append->LP,nodup_nil->LR,getElem?_eq_none_iff->LS,getElem?_eq_none->Md,nodup_cons->Mf,getElem?_map->Mg,take_length->Mh,pairwise_singleton->Mi,mem_iff_getElem?->Mm,append_nil->Mp,eq_nil_of_length_eq_zero->Mq,take_add_one->Mr,isEmpty_iff->Mt,mem_flatMap->MB,mem_filter->MC,getElem_mem->MS,all_eq_true->M5,nodup_append->M8,append_assoc->M9,length->Nc,getElem?_append_left->Nl,pairwise_map->Nm,toArray->Nr,map_map->Nt,map_cons->Nv,length_filter_le->NI,lookup_cons->NK,length_drop->NL,length_cons->NN,any_eq_true->NO,filter_cons_of_pos->NY,filter_cons_of_neg->NZ,getElem_range->Oo,exists_mem_of_ne_nil->Ot,length_take_le'->Ox,range'->OL,filter_eq_nil_iff->ON,contains_iff_mem->OW,toList_toArray->O8,map_congr_left->O9,getElem?_range->Pa,filterMap_cons->Pb,getElem?_drop->Pk,size_toArray->Pv,mem_range'_1->Pw,map->Px,getElem?_inj->Py,prefix_refl->PJ,nodup_range->PN,cons_ne_nil->PP,mem_of_mem_take->P1,find?_cons->P7,filter_eq_self->Qd,prefix_append->Qq,perm_ext_iff_of_nodup->Qr,mem_filterMap->Qs,getD_eq_getElem?_getD->Qt,filter_append->Qu,lookup->QD,any_eq_false->QE,map_drop->QH,filterMap_cons_some->QI,all_cons->QJ,mem_toArray->QQ,pairwise_lt_range->Q5,length_take_of_le->Q6,isEmpty->Q7,take_append_drop->Rl,pairwise_cons->RS,ne_nil_of_mem->RT,lookup_append->RU,filterMap_nil->RW,append_ne_nil_of_right_ne_nil->RX,foldl_append->Sk,ext_getElem?->Sl,mk_mem_zipIdx_iff_getElem?->Sv,take_append_of_le_length->SN,drop_append_of_le_length->SO,forIn_cons->SR,filter_nil->SU,getElem?_concat_length->Tc,length_eraseIdx_of_lt->Tf,drop_drop->Th,mem_of_find?_eq_some->Tt,drop_eq_getElem_cons->Tu,map_take->TB,length_erase_of_mem->TC,getElem?_take_of_lt->TF,take_of_length_le->TQ,find?_cons_of_neg->TR,append_eq_nil_iff->TT,pairwise_flatMap->Ug,getElem?_toArray->Uh,countP_mono_left->Ui,range_eq_range'->Um,drop_eq_nil_iff->Un,flatMap_append->UA,zip_cons_cons->UK,length_range'->UL,length_modify->UM,flatMap_cons->U5,range'_succ->Vk,map_fst_zip->Vl,length_take->Vm,filter_cons->Vn,drop_length->Vo,countP_cons->Vp,cons_append->Vq,range_succ->VN,of_mem_zip->VO,find?_some->VP,replicate->VZ,take_nil->Wb,findIdx?->Wc,not_lt->WN,find?->Xh,Nodup->Xi
open Bool renaming and_eq_true_iff->rv,false_ne_true->Lq,or_eq_true_iff->Mu,noConfusion->NP,eq_false_iff->Oy,false_eq_true->Qv,and_eq_true->SG,not_eq_true'->Vc,eq_iff_iff->VT,and_false->V5
open PySem.Heap renaming get?_push_of_some->Lh,get?_push_size->Lv,get?_update_self->LN,lt_size->LX,get?_update_other->MF,size_push->M0,SameBut->Pz,ExtBut->P2,NewExc->SP,get?_push_ne->U9
open PySem.Str renaming ofString->Li,empty->RM,mk->U1
open Eq renaming substr->LH,symm->Ng,trans->SE,mpr->Zg
open PySem.Value renaming none->LM,type->Mw,ref->OT,isStrOf_shape->P6,str->Tz,builtin->VX
open Ne renaming symm->Ma
open Array renaming getElem?_toList->Mk,getElem?_eq_getElem->NF,length_toList->Oe,getElem?_eq_some_iff->On,toList_push->Ov,getElem?_eq_none->OM,toArray_toList->Rw,toList_inj->Sx,any_toList->Sy,getD_eq_getD_getElem?->SV,toList_extract->Ul,toList_append->Uq,getD->UF,forIn_toList->UG,all_toList->Vd,size_push->Vt
open Int renaming natCast_nonneg->Ms,le_trans->MG,ofNat_lt->MP,natCast_pos->Ni,ofNat_le->NW,le_refl->Ol,toNat_natCast->Oz,not_lt->O4,lt_trans->O6,not_le->Po,lt_of_lt_of_le->Pq,toNat_of_nonneg->Qh,le_of_eq->Qo,add_sub_cancel->Qz,neg_nonpos_of_nonneg->QP,eq_ofNat_of_zero_le->QX,le_of_lt->Rg,lt_of_le_of_lt->Sg,ne_of_gt->Uj,neg_le_of_neg_le->UD,natCast_eq_zero->UN,neg_neg_of_pos->U6,emod_lt_of_pos->U7,natCast_succ->VQ,min_eq_right->VR,min_eq_left->V1,emod_nonneg->V2,le_add_one->Wd,zero_add->WR,sub_zero->WT,add_zero->WU,lt_succ->Xj
open PySem.Heap.SameBut renaming update->Mx,refl->Xk
open PySem.NameKind renaming free->MN,cell->Nu
open Prod renaming ext->MX,snd->PY,fst->PZ
open PySem.Obj renaming mapSeq->M6,putNameByArray->NR,putName_eq->OF,data_mapFields->Pn,cls->Rb,isFreed_of_fields->Ru,mapFields->RQ,putSet->Sb,cls_mapFields->Sr,data->Tr,dict->Uw,isFreed_of_dict->UJ
open PySem.W renaming dictOf->Na,instObj->Nb,findIn->Oq,nsIn->P9,boot_heap->QF,Frag->Rh,emptyDict->Rr,keepIn->RA,putL->S2,typeIn->To,looks_findIn->UU,kas_rev->UV,InstAt->U8,topFrame->Vz,readsAllW_cons_inv->V8,boot_drawn->Wa,readsAllW_nil_inv->Wp,plainOver->Wz,kas_tail3->WA,kas_place->WB,hasDictIn->WC,boot_toks->WH,takerIn->XU,copiedNames->Yo,KasT->YV,get_value->Y3,ReadsAllW->Y6
open Classical renaming byContradiction->Nw,not_not->RJ,byCases->TU,em->Vb,typeDecidableEq->Yd
open List.cons renaming inj->NH
open PySem.W.Fast renaming te14364793385576792824->NX,te9446332074065402090->W2,te5923862056798008813->W4,te4187177175401517315->W5,te15667345088766844465->W6,te14374325043358763698->W7,te14082659384304107361->W8,te12563942051412417395->W9,te11892475500146522536->Xa,te10235530238920679567->Xb,te10110043849684766642->Xc
open Nat.succ renaming inj->Oa
open ForInStep renaming yield->OI
open PySem.Builtin.SmallTypes renaming nextOf->OJ
open Int.ofNat renaming inj->OK
open PySem.Builtin.Tuple renaming tupleHashOf->OU,tupleItemsOf->RO
open PySem.Around renaming under_plainId->O0,under_plain->Zh
open PySem.F renaming slot_tuple_iterator_next->O7,called_set->Pd,slot_tuple_hash->QR,slot_dict_len->Rx,slot_dict_get->Ry,slot_list_append->Sw,args_tuple_iterator_next_1->Tw,entry_tuple_iterator_next->TG,args_list_append_2->Va,entry_list_append->Vs,slot_list_insert->VS,slot_dict_items->V3,plain_list_iadd->V4,entry_dict_get->We,type_dict_get->Wv,slot_set_iter->Ww,slot_list_pop->Wx,slot_list_add->YR,entry_list_add->YS,args_list_add_2->YT
open PySem.Value.type renaming inj->Pe
open PySem.PyData renaming eqv->PH,keyHash->Qg,list->Sq,depthAll->SB,eqvAll->Te,canLayAll0->Uv,strOk->VY,str->Y7,showableAll->Y8,hasDictAll->Y9
open PyProof.Rows renaming seqObj->PU,SortKind->Qk,IsTup->Qn,slot_tuple_getitem->QL,StrsAre->RD,strOf->Sz,Call_->SF,keyKind'->S5,joinParts_cons->T6,getElem?_mirror_all->VW,keyLt'->V9,get?_update_seq->W0,formatField_str->W1,getItem_tuple->Xe,failedOf->Xy,listUpdate_at->XN,joinParts_nil->XO,seqEpoch_at->Yi
open Except renaming ok->Qe,error->RY
open PySem.Calls renaming call_function_entry->QA,spliced_cons->RN,spliced_nil->Si,Name_function_global->Td
open PySem.Builtin.Dict renaming missed->QS,pendingKey?->Xp,pendingCount->Xq,notOrdered->Xr
open PySem.SetTable renaming grown->Q4,relaid->Yp,laid->Yq,fits_plain_off->Yr
open Prod.mk renaming inj->Ra
open List.Pairwise renaming map->Rf,nil->Ti,of_map->WO,filterMap->WQ
open PyProof.Rows.F renaming plain_set_update_loop->Ri,entry_set_update_loop->Up
open PySem.Builtin.List renaming listExtendWith->RP,listSameRef->So,listUpdate->Xl,listSubscript?->Xm,listLengthHint->Xn,listFitsIndex->Xo
open PySem.Builtin.Range renaming rangeSize->Sn,small->WV
open List.Nodup renaming mem_erase_iff->SC
open PySem.AutoIntOps renaming isub_0->TJ,iadd_0->TL
open PySem.DictEntry renaming refKey->Uk,val->UO
open List.Perm renaming of_eq->Uo,refl->UB,swap->X9,eq_of_pairwise->Yb
open PySem.Keeper renaming boundFrame->UC,machine->Vr,frame->V0
open PySem.P renaming lt_int->U3,sub_int->YF,notIn_str->YG,neg_int->YH,lt_str->YI,len_str->YJ,le_int->YK,in_str->YL,gt_int->YM,getItem_str->YN,ge_int->YO,add_int->YQ
open PySem PySem.W PyProof.Rows PySem.MeetsSeq List Str NameKind Calls List.Pairwise
def oA{z Q:Prop}{C:Prop}(h:z/\Q)(k:z->Q->C):C:=k h.1 h.2
def oE{α:Type}{z:α->Prop}{C:Prop}(h:∃a,z a)(k:∀a,z a->C):C:=h.elim λa Q=>k a Q
def oAA{z Q w:Prop}{C:Prop}(h:z/\Q/\w)(k:z->Q->w->C):C:=k h.1 h.2.1 h.2.2
def oEA{α:Type}{z Q:α->Prop}{C:Prop}(h:∃a,z a/\Q a)(k:∀a,z a->Q a->C):C:=h.elim λa w=>k a w.1 w.2
def oEE{Q w:Type}{z:Q->w->Prop}{C:Prop}(h:∃a,∃b,z a b)(k:∀a,∀b,z a b->C):C:=h.elim λa y=>y.elim λb Y=>k a b Y
def ut{z Q w y:Prop}{C:Prop}(h:z/\Q/\w/\y)(k:z->Q->w->y->C):C:=k h.1 h.2.1 h.2.2.1 h.2.2.2
def xo{Y:Type}{z:Prop}{Q w:Y->Prop}{C:Prop}(h:z/\∃a,Q a/\w a)(k:z->∀a,Q a->w a->C):C:=h.2.elim λa y=>k h.1 a y.1 y.2
def aA{Y:Type}{Q w y:Y->Prop}{C:Prop}(h:∃a,Q a/\w a/\y a)(k:∀a,Q a->w a->y a->C):C:=h.elim λa z=>k a z.1 z.2.1 z.2.2
def JS{z Y:Type}{Q:z->Prop}{w:z->Y->Prop}{C:Prop}(h:∃a,Q a/\∃b,w a b)(k:∀a,Q a->∀b,w a b->C):C:=h.elim λa y=>y.2.elim λb U=>k a y.1 b U
def eC{y Y:Type}{z Q:y->Y->Prop}{C:Prop}(h:∃a,∃b,z a b/\Q a b)(k:∀a,∀b,z a b->Q a b->C):C:=h.elim λa U=>U.elim λb w=>k a b w.1 w.2
def Fm{Q w y:Type}{z:Q->w->y->Prop}{C:Prop}(h:∃a,∃b,∃c,z a b c)(k:∀a,∀b,∀c,z a b c->C):C:=h.elim λa Y=>Y.elim λb U=>U.elim λc v=>k a b c v
def Ey{U:Type}{z Q:Prop}{w y:U->Prop}{C:Prop}(h:z/\Q/\∃a,w a/\y a)(k:z->Q->∀a,w a->y a->C):C:=h.2.2.elim λa Y=>k h.1 h.2.1 a Y.1 Y.2
def mJ{U:Type}{Q:Prop}{w y Y:U->Prop}{C:Prop}(h:Q/\∃a,w a/\y a/\Y a)(k:Q->∀a,w a->y a->Y a->C):C:=h.2.elim λa z=>k h.1 a z.1 z.2.1 z.2.2
def jy{U:Type}{Q w y Y:U->Prop}{C:Prop}(h:∃a,Q a/\w a/\y a/\Y a)(k:∀a,Q a->w a->y a->Y a->C):C:=h.elim λa z=>k a z.1 z.2.1 z.2.2.1 z.2.2.2
def i6{Q U:Type}{w y:Q->Prop}{Y:Q->U->Prop}{C:Prop}(h:∃a,w a/\y a/\∃b,Y a b)(k:∀a,w a->y a->∀b,Y a b->C):C:=h.elim λa z=>z.2.2.elim λb v=>k a z.1 z.2.1 b v
def HG{z v:Type}{Q:z->Prop}{w y:z->v->Prop}{C:Prop}(h:∃a,Q a/\∃b,w a b/\y a b)(k:∀a,Q a->∀b,w a b->y a b->C):C:=h.elim λa Y=>Y.2.elim λb U=>k a Y.1 b U.1 U.2
def aX{Y U:Type}{Q w y:Y->U->Prop}{C:Prop}(h:∃a,∃b,Q a b/\w a b/\y a b)(k:∀a,∀b,Q a b->w a b->y a b->C):C:=h.elim λa v=>v.elim λb z=>k a b z.1 z.2.1 z.2.2
def vT{y Y U:Type}{z Q:y->Y->U->Prop}{C:Prop}(h:∃a,∃b,∃c,z a b c/\Q a b c)(k:∀a,∀b,∀c,z a b c->Q a b c->C):C:=h.elim λa v=>v.elim λb V=>V.elim λc w=>k a b c w.1 w.2
def eX{v:Type}{z Q w:Prop}{y Y:v->Prop}{C:Prop}(h:z/\Q/\w/\∃a,y a/\Y a)(k:z->Q->w->∀a,y a->Y a->C):C:=h.2.2.2.elim λa U=>k h.1 h.2.1 h.2.2.1 a U.1 U.2
def dv{v:Type}{Q:Prop}{w y Y U:v->Prop}{C:Prop}(h:Q/\∃a,w a/\y a/\Y a/\U a)(k:Q->∀a,w a->y a->Y a->U a->C):C:=h.2.elim λa z=>k h.1 a z.1 z.2.1 z.2.2.1 z.2.2.2
def qP{α U:Type}{Q:Prop}{w y Y:α->U->Prop}{C:Prop}(h:Q/\∃a,∃b,w a b/\y a b/\Y a b)(k:Q->∀a,∀b,w a b->y a b->Y a b->C):C:=h.2.elim λa v=>v.elim λb z=>k h.1 a b z.1 z.2.1 z.2.2
def Fo{Y U v:Type}{z:Prop}{Q w:Y->U->v->Prop}{C:Prop}(h:z/\∃a,∃b,∃c,Q a b c/\w a b c)(k:z->∀a,∀b,∀c,Q a b c->w a b c->C):C:=h.2.elim λa V=>V.elim λb j=>j.elim λc y=>k h.1 a b c y.1 y.2
def uu{v:Type}{Q w y Y U:v->Prop}{C:Prop}(h:∃a,Q a/\w a/\y a/\Y a/\U a)(k:∀a,Q a->w a->y a->Y a->U a->C):C:=h.elim λa z=>k a z.1 z.2.1 z.2.2.1 z.2.2.2.1 z.2.2.2.2
def qQ{Q V:Type}{w y:Q->Prop}{Y U:Q->V->Prop}{C:Prop}(h:∃a,w a/\y a/\∃b,Y a b/\U a b)(k:∀a,w a->y a->∀b,Y a b->U a b->C):C:=h.elim λa z=>z.2.2.elim λb v=>k a z.1 z.2.1 b v.1 v.2
def bG{U v:Type}{Q w y Y:U->v->Prop}{C:Prop}(h:∃a,∃b,Q a b/\w a b/\y a b/\Y a b)(k:∀a,∀b,Q a b->w a b->y a b->Y a b->C):C:=h.elim λa V=>V.elim λb z=>k a b z.1 z.2.1 z.2.2.1 z.2.2.2
def qR{z Q V:Type}{w:z->Q->Prop}{y Y:z->Q->V->Prop}{C:Prop}(h:∃a,∃b,w a b/\∃c,y a b c/\Y a b c)(k:∀a,∀b,w a b->∀c,y a b c->Y a b c->C):C:=h.elim λa j=>j.elim λb U=>U.2.elim λc v=>k a b U.1 c v.1 v.2
def uv{Y U v:Type}{Q w y:Y->U->v->Prop}{C:Prop}(h:∃a,∃b,∃c,Q a b c/\w a b c/\y a b c)(k:∀a,∀b,∀c,Q a b c->w a b c->y a b c->C):C:=h.elim λa V=>V.elim λb j=>j.elim λc z=>k a b c z.1 z.2.1 z.2.2
def Ck{Q v V:Type}{w:Prop}{y Y:Q->Prop}{U:Q->v->V->Prop}{C:Prop}(h:w/\∃a,y a/\Y a/\∃b,∃c,U a b c)(k:w->∀a,y a->Y a->∀b,∀c,U a b c->C):C:=h.2.elim λa z=>z.2.2.elim λb j=>j.elim λc J=>k h.1 a z.1 z.2.1 b c J
def Cl{v V:Type}{Q:Prop}{w y Y U:v->V->Prop}{C:Prop}(h:Q/\∃a,∃b,w a b/\y a b/\Y a b/\U a b)(k:Q->∀a,∀b,w a b->y a b->Y a b->U a b->C):C:=h.2.elim λa j=>j.elim λb z=>k h.1 a b z.1 z.2.1 z.2.2.1 z.2.2.2
def vU{Q j:Type}{w y Y:Q->Prop}{U v:Q->j->Prop}{C:Prop}(h:∃a,w a/\y a/\Y a/\∃b,U a b/\v a b)(k:∀a,w a->y a->Y a->∀b,U a b->v a b->C):C:=h.elim λa z=>z.2.2.2.elim λb V=>k a z.1 z.2.1 z.2.2.1 b V.1 V.2
def eK{w j:Type}{y Y:w->Prop}{U v V:w->j->Prop}{C:Prop}(h:∃a,y a/\Y a/\∃b,U a b/\v a b/\V a b)(k:∀a,y a->Y a->∀b,U a b->v a b->V a b->C):C:=h.elim λa z=>z.2.2.elim λb Q=>k a z.1 z.2.1 b Q.1 Q.2.1 Q.2.2
def qS{v V:Type}{Q w y Y U:v->V->Prop}{C:Prop}(h:∃a,∃b,Q a b/\w a b/\y a b/\Y a b/\U a b)(k:∀a,∀b,Q a b->w a b->y a b->Y a b->U a b->C):C:=h.elim λa j=>j.elim λb z=>k a b z.1 z.2.1 z.2.2.1 z.2.2.2.1 z.2.2.2.2
def mc{U v V:Type}{Q w y Y:U->v->V->Prop}{C:Prop}(h:∃a,∃b,∃c,Q a b c/\w a b c/\y a b c/\Y a b c)(k:∀a,∀b,∀c,Q a b c->w a b c->y a b c->Y a b c->C):C:=h.elim λa j=>j.elim λb J=>J.elim λc z=>k a b c z.1 z.2.1 z.2.2.1 z.2.2.2
def yt{V j:Type}{Q w y Y U v:V->j->Prop}{C:Prop}(h:∃a,∃b,Q a b/\w a b/\y a b/\Y a b/\U a b/\v a b)(k:∀a,∀b,Q a b->w a b->y a b->Y a b->U a b->v a b->C):C:=h.elim λa J=>J.elim λb z=>k a b z.1 z.2.1 z.2.2.1 z.2.2.2.1 z.2.2.2.2.1 z.2.2.2.2.2
def sr{v V j:Type}{Q w y Y U:v->V->j->Prop}{C:Prop}(h:∃a,∃b,∃c,Q a b c/\w a b c/\y a b c/\Y a b c/\U a b c)(k:∀a,∀b,∀c,Q a b c->w a b c->y a b c->Y a b c->U a b c->C):C:=h.elim λa J=>J.elim λb o=>o.elim λc z=>k a b c z.1 z.2.1 z.2.2.1 z.2.2.2.1 z.2.2.2.2
def su{Q w y j:Type}{Y U v:Q->w->y->Prop}{V:Q->w->y->j->Prop}{C:Prop}(h:∃a,∃b,∃c,Y a b c/\U a b c/\v a b c/\∃d,V a b c d)(k:∀a,∀b,∀c,Y a b c->U a b c->v a b c->∀d,V a b c d->C):C:=h.elim λa J=>J.elim λb o=>o.elim λc z=>z.2.2.2.elim λd O=>k a b c z.1 z.2.1 z.2.2.1 d O
def sv{U v V j:Type}{Q w y Y:U->v->V->j->Prop}{C:Prop}(h:∃a,∃b,∃c,∃d,Q a b c d/\w a b c d/\y a b c d/\Y a b c d)(k:∀a,∀b,∀c,∀d,Q a b c d->w a b c d->y a b c d->Y a b c d->C):C:=h.elim λa J=>J.elim λb o=>o.elim λc O=>O.elim λd z=>k a b c d z.1 z.2.1 z.2.2.1 z.2.2.2
def fQ{V j J:Type}{Q:Prop}{w y Y U v:V->j->J->Prop}{C:Prop}(h:Q/\∃a,∃b,∃c,w a b c/\y a b c/\Y a b c/\U a b c/\v a b c)(k:Q->∀a,∀b,∀c,w a b c->y a b c->Y a b c->U a b c->v a b c->C):C:=h.2.elim λa o=>o.elim λb O=>O.elim λc z=>k h.1 a b c z.1 z.2.1 z.2.2.1 z.2.2.2.1 z.2.2.2.2
def fR{j J:Type}{Q w y Y U v V:j->J->Prop}{C:Prop}(h:∃a,∃b,Q a b/\w a b/\y a b/\Y a b/\U a b/\v a b/\V a b)(k:∀a,∀b,Q a b->w a b->y a b->Y a b->U a b->v a b->V a b->C):C:=h.elim λa o=>o.elim λb z=>k a b z.1 z.2.1 z.2.2.1 z.2.2.2.1 z.2.2.2.2.1 z.2.2.2.2.2.1 z.2.2.2.2.2.2
def iN{V j J:Type}{Q w y Y U v:V->j->J->Prop}{C:Prop}(h:∃a,∃b,∃c,Q a b c/\w a b c/\y a b c/\Y a b c/\U a b c/\v a b c)(k:∀a,∀b,∀c,Q a b c->w a b c->y a b c->Y a b c->U a b c->v a b c->C):C:=h.elim λa o=>o.elim λb O=>O.elim λc z=>k a b c z.1 z.2.1 z.2.2.1 z.2.2.2.1 z.2.2.2.2.1 z.2.2.2.2.2
def lB{w y Y U v V j J o z Q:Prop}{C:Prop}(h:w/\y/\Y/\U/\v/\V/\j/\J/\o/\z/\Q)(k:w->y->Y->U->v->V->j->J->o->z->Q->C):C:=k h.1 h.2.1 h.2.2.1 h.2.2.2.1 h.2.2.2.2.1 h.2.2.2.2.2.1 h.2.2.2.2.2.2.1 h.2.2.2.2.2.2.2.1 h.2.2.2.2.2.2.2.2.1 h.2.2.2.2.2.2.2.2.2.1 h.2.2.2.2.2.2.2.2.2.2
def sw{V j J o O:Type}{Q w y Y U v:V->j->J->o->O->Prop}{C:Prop}(h:∃a,∃b,∃c,∃d,∃e,Q a b c d e/\w a b c d e/\y a b c d e/\Y a b c d e/\U a b c d e/\v a b c d e)(k:∀a,∀b,∀c,∀d,∀e,Q a b c d e->w a b c d e->y a b c d e->Y a b c d e->U a b c d e->v a b c d e->C):C:=h.elim λa p=>p.elim λb f=>f.elim λc g=>g.elim λd l=>l.elim λe z=>k a b c d e z.1 z.2.1 z.2.2.1 z.2.2.2.1 z.2.2.2.2.1 z.2.2.2.2.2
def i4{o O p f g l L t T z Q w y Y U v V j J:Prop}{C:Prop}(h:o/\O/\p/\f/\g/\l/\L/\t/\T/\z/\Q/\w/\y/\Y/\U/\v/\V/\j/\J)(k:o->O->p->f->g->l->L->t->T->z->Q->w->y->Y->U->v->V->j->J->C):C:=k h.1 h.2.1 h.2.2.1 h.2.2.2.1 h.2.2.2.2.1 h.2.2.2.2.2.1 h.2.2.2.2.2.2.1 h.2.2.2.2.2.2.2.1 h.2.2.2.2.2.2.2.2.1 h.2.2.2.2.2.2.2.2.2.1 h.2.2.2.2.2.2.2.2.2.2.1 h.2.2.2.2.2.2.2.2.2.2.2.1 h.2.2.2.2.2.2.2.2.2.2.2.2.1 h.2.2.2.2.2.2.2.2.2.2.2.2.2.1 h.2.2.2.2.2.2.2.2.2.2.2.2.2.2.1 h.2.2.2.2.2.2.2.2.2.2.2.2.2.2.2.1 h.2.2.2.2.2.2.2.2.2.2.2.2.2.2.2.2.1 h.2.2.2.2.2.2.2.2.2.2.2.2.2.2.2.2.2.1 h.2.2.2.2.2.2.2.2.2.2.2.2.2.2.2.2.2.2
def Ez:ki->ki->cp ki
 | 0,_=>[]
 | f+1,n=>match Oc n 1 with
  | true=>[]
  | false=>(n % 96+32)::Ez f (n / 96)
def u(n:ki):Str:=⟨⟨Ez 80 n⟩⟩
def ff{p:Prop}(h:false=true):p:=p7 h Lq
def ntf{p:Prop}(h:true=false):p:=ff h.symm
def ff1{a:Type}{p:a->Prop}(x:a)(h:false=true):p x:=ff h
def ff2{a b:Type}{p:a->b->Prop}(x:a)(y:b)(h:false=true):p x y:=ff h
def ff3{a b c:Type}{p:a->b->c->Prop}(x:a)(y:b)(z:c)(h:false=true):p x y z:=ff h
def ff4{a b c d:Type}{p:a->b->c->d->Prop}(x:a)(y:b)(z:c)(w:d)(h:false=true):p x y z w:=ff h
def ff5{a b c d e:Type}{p:a->b->c->d->e->Prop}(x:a)(y:b)(z:c)(w:d)(v:e)(h:false=true):p x y z w v:=ff h
def aO{α:Type}{p:α->Prop}(x:α)(h:x∈([]:cp α)):p x:=p7 h Le
def nme{z:Type}{x:z}{p:Prop}(h:x∈([]:cp z)):p:=p7 h Le
def nsm{z:Type}{x:z}{p:Prop}(h:none=aM x):p:=p7 h.symm (Lm x)
def nix{z:Type}{p:ki->z->Prop}(i:ki)(x:z)(h:([]:cp z)[i]?=aM x):p i x:=nsm h
set_option genInjectivity true in
set_option genCtorIdx true in
inductive CV where
 | none
 | bool (b:LG)
 | int (i:Nj)
 | str (s:Lj)
 | tup (l:cp CV)
 | ref (a:ki)
 deriving Inhabited
noncomputable instance:Sh CV:=Yd CV
structure CH where
 ro:ki->rt (cp CV)
 lst:ki->rt (cp CV)
 dct:ki->rt (cp (CV×CV))
 cls:ki->rt ki
 att:ki->ki->rt CV
def upd{α:Type}(f:ki->rt α)(a:ki)(v:α):ki->rt α:=λb=>if b=a then aM v else f b
namespace CH
structure free(H:CH)(a:ki):Prop where
 ro:H.ro a=none
 lst:H.lst a=none
 dct:H.dct a=none
 cls:H.cls a=none
 att:∀n,H.att n a=none
def getL(H:CH)(a:ki):rt (cp CV):=match H.lst a with
 | some l=>aM l
 | none=>H.ro a
def aD(H:CH)(a:ki)(l:cp CV):CH:={ H with lst:=upd H.lst a l }
def bo(H:CH)(a:ki)(l:cp (CV×CV)):CH:={ H with dct:=upd H.dct a l }
def cR(H:CH)(a c:ki):CH:={ H with cls:=upd H.cls a c }
def bw(H:CH)(n a:ki)(v:CV):CH:={ H with att:=λk=>if k=n then upd (H.att n) a v else H.att k }
end CH
def aw(l:cp (CV×CV))(x:CV):rt CV:=l.rec none λp Q z=>if p.1=x then aM p.2 else z
def bf(l:cp (CV×CV))(x w:CV):cp (CV×CV):=l.rec [(x,w)] λp r z=>if p.1=x then(p.1,w)::r else p::z
set_option genCtorIdx true in
inductive Exc where
 | key | index
structure St where
 H:CH
 L:ki->rt CV
inductive Fl where
 | next | brk | cont
 | ret (v:CV)
set_option genCtorIdx true in
inductive BO where
 | mod (_:Unit:=()) | add | sub
def BO.i(o:BO)(a b:Nj):Int:=o.casesOn (λz=>a) (a+b) (a - b)
set_option genCtorIdx true in
inductive CO where
 | eq (_:Unit:=()) | ne | lt | le | gt | ge | isIn | cu | is | lC
set_option genCtorIdx true in
inductive B1 where
 | len (_:Unit:=()) | list | tuple | sorted | all | bS
inductive LT where
 | n (i:ki)
 | t (is:cp ki)
mutual
inductive CE where
 | bad
 | c (v:CV)
 | v (i:ki)
 | at (e:CE) (n:ki)
 | ix (e k:CE)
 | sl (e lo hi:CE)
 | tu (es:cp CE)
 | li (es:cp CE)
 | d0
 | op (o:BO) (a b:CE)
 | cm (o:CO) (a b:CE)
 | nt (a:CE)
 | ng (a:CE)
 | an (a b:CE)
 | an3 (a b c:CE)
 | orr (a b:CE)
 | ife (t a b:CE)
 | fn (f:ki) (as:cp CE)
 | me (o:CE) (m:ki) (as:cp CE)
 | nw (k:ki) (as:cp CE)
 | b1 (k:B1) (a:CE)
 | sx
 | mn (a b:CE)
 | ap (o x:CE)
 | ins (o i x:CE)
 | ge (o k d:CE)
 | po (o i:CE)
 | jo (s x:CE)
 | js (a b:CE)
 | co (elt:CE) (t:LT) (i:CI) (ifs:cp CE)
inductive CI where
 | val (e:CE)
 | bu (e:CE)
 | rng (es:cp CE)
 | ai (e:CE)
end
inductive Tg where
 | n (i:ki)
 | t (is:cp ki)
 | at (e:CE) (n:ki)
 | ix (e k:CE)
 | li (e k:CE)
inductive CS where
 | bad
 | asg (t:Tg) (e:CE)
 | fS (i:ki) (o:BO) (e:CE)
 | gn (x:CE) (n:ki) (o:BO) (e:CE)
 | ex (e:CE)
 | ite (t:CE) (a b:cp CS)
 | whl (t:CE) (b:cp CS)
 | fr (t:LT) (i:CI) (b o:cp CS)
 | ret (e:CE)
 | brk
 | cont
 | mK
 | try (b:cp CS) (ks:cp Exc) (h:cp CS)
mutual
noncomputable def CV.pure:CV->LG
 | .none | .int _=>true
 | .str s=>s.cps.toList.all (OC · 128)
 | .tup l=>CV.bD l
 | .bool _ | .ref _=>false
noncomputable def CV.bD:cp CV->LG
 | []=>true
 | v::l=>v.pure&&CV.bD l
end
mutual
noncomputable def CV.depth:CV->ki
 | .tup l=>CV.dw l+1
 | _=>0
noncomputable def CV.dw:cp CV->ki
 | []=>0
 | v::l=>max v.depth (CV.dw l)
end
abbrev CV.hk:=CV.pure
abbrev CV.hks:=CV.bD
def CV.az(v:CV):Bool:=v.hk&&Oc v.depth 5
def szl:Nat:=16777216
def cq(c:ki):Bool:=[135,427].contains c
def Fp:cp Nat:=[100,135,283,427]
def bn(c:ki):Bool:=Fp.contains c
def gq(c:ki):Nat:=if c=100 then 62 else if c=135 then 118 else if c=283 then 172 else 333
def aL(H:CH):CV->rt LG
 | .none=>aM false
 | .bool b=>aM b
 | .int i=>aM (i != 0)
 | .str s=>if s.cps.size<2 ^ 30 then aM (s.cps.size != 0) else none
 | .tup l=>aM (!l.isEmpty)
 | .ref a=>(H.getL a).elim ((H.dct a).elim ((H.cls a).bind λc=>if cq c then aM true else none) λz=>aM (!z.isEmpty)) λl=>aM (!l.isEmpty)
def yu:Nat:=0
def Fq:Nat:=1
def fL(c n:ki):rt CV:=if c=100/\(n=yu∨n=Fq) then aM (.int 0) else none
def atI(l:cp CV)(i:Nj):rt CV:=
 if 0<=i then l[i.toNat]? else if 0<=i+l.length then l[(i+l.length).toNat]? else none
section on
variable{z:Type}
def CV.cf(d:z)(c:CV)(k:Nj->z):z:=match c with
 | .int i=>k i
 | _=>d
def CV.sz(d:z)(c:CV)(k:Lj->z):z:=match c with
 | .str i=>k i
 | _=>d
def CV.sC(d:z)(c:CV)(k:ki->z):z:=match c with
 | .ref a=>k a
 | _=>d
def CV.kF(d:z)(c:CV)(k:LG->z):z:=match c with
 | .bool a=>k a
 | _=>d
def CV.mL(d:z)(c:CV)(k:z):z:=match c with
 | .none=>k
 | _=>d
variable{d:z}{c:CV}{R:z->Prop}{P:CV->Prop}(Q:R d->P c)
include Q
def CV.jz{k:Nj->z}(h:R (c.cf d k))(f:∀i,R (k i)->P (.int i)):P c:=by cases c <;> first | exact f _ h | exact Q h
def CV.vV{k:Lj->z}(h:R (c.sz d k))(f:∀i,R (k i)->P (.str i)):P c:=by cases c <;> first | exact f _ h | exact Q h
def CV.qT{k:ki->z}(h:R (c.sC d k))(f:∀i,R (k i)->P (.ref i)):P c:=by cases c <;> first | exact f _ h | exact Q h
def CV.jA{k:LG->z}(h:R (c.kF d k))(f:∀i,R (k i)->P (.bool i)):P c:=by cases c <;> first | exact f _ h | exact Q h
def CV.sD{k:z}(h:R (c.mL d k))(f:R k->P .none):P c:=by cases c <;> first | exact f h | exact Q h
end on
def nos{α:Type}{p:Prop}{r:α}(h:none=aM r):p:=nomatch h
def i5(H:CH)(v:CV)(n:ki):rt CV:=v.sC none λa=>(H.cls a).bind λc=>if bn c then(H.att n a).elim (fL c n) aM else none
def eD(H:CH)(o k:CV):rt (RI Exc CV):=match o with
 | .tup l=>k.cf none λi=>(atI l i).elim (if -1000<i/\i<1000 then aM (.error .index) else none) λv=>aM (.ok v)
 | .str s=>k.cf none λi=>if i=0 then s.cps[0]?.map λc=>.ok (.str ⟨#[c]⟩) else none
 | .ref a=>(H.getL a).elim ((H.dct a).bind λz=>if k.az then aM ((aw z k).elim (.error .key) .ok) else none) λl=>k.cf none λi=>(atI l i).map .ok
 | _=>none
def cut(l:cp CV)(lo z:CV):rt (cp CV):=match lo with
 | .none=>(match z with
  | .none=>aM l
  | .int j=>if 0<=j/\j<2 ^ 30 then aM (l.take j.toNat) else none
  | _=>none)
 | .int i=>z.mL none (if 0<=i/\i<2 ^ 30 then aM (l.drop i.toNat) else none)
 | _=>none
def eqX(H:CH)(x y:CV):rt Bool:=match x with
 | .ref a=>y.sC none λb=>(H.getL a).bind λl=>(H.getL b).bind λm=>if CV.bD l/\CV.bD m/\CV.dw l<=20/\CV.dw m<=20 then aM (decide (l=m)) else none
 | _=>none
def eqV(H:CH)(x y:CV):rt Bool:=if x.pure/\y.pure/\x.depth<=20/\y.depth<=20 then aM (decide (x=y)) else eqX H x y
def sE(x:CV)(l:cp CV):rt Bool:=if x.pure/\CV.bD l/\x.depth<=20/\CV.dw l<=20 then aM (decide (x∈l)) else none
def uw(l:cp ki):rt Nat:=match l with
 | []=>none
 | c::r=>if r=[] then aM c else none
def inV(H:CH)(x y:CV):rt Bool:=match y with
 | .str s=>x.sz none λt=>(uw t.cps.toList).map λc=>s.cps.toList.contains c
 | .ref a=>(H.getL a).elim ((H.dct a).bind λz=>if x.az then aM (aw z x).isSome else none) (sE x)
 | _=>none
def b9(H:CH)(o:CO)(x y:CV):rt Bool:=match o with
 | .eq=>eqV H x y
 | .ne=>(eqV H x y).map (!·)
 | .isIn=>inV H x y
 | .cu=>(inV H x y).map (!·)
 | .is=>y.mL none (aM (decide (x=.none)))
 | .lC=>y.mL none (aM (!decide (x=.none)))
 | .lt=>x.cf none λa=>y.cf none λb=>aM (decide (a<b))
 | .le=>x.cf none λa=>y.cf none λb=>aM (decide (a<=b))
 | .gt=>x.cf none λa=>y.cf none λb=>aM (decide (a>b))
 | .ge=>x.cf none λa=>y.cf none λb=>aM (decide (a≥b))
def Fr(H:CH):CV->rt ki
 | .tup l=>aM l.length
 | .str s=>aM s.cps.size
 | .ref a=>(H.getL a).map (·.length)
 | _=>none
def qU(H:CH):CV->rt (cp CV)
 | .tup l=>aM l
 | .ref a=>H.getL a
 | _=>none
mutual
noncomputable def leV:CV->CV->LG
 | .int a,.int b=>decide (a<=b)
 | .str a,.str b=>decide (a.cps.toList<=b.cps.toList)
 | .tup l,.tup m=>jB l m
 | _,_=>false
noncomputable def jB:cp CV->cp CV->LG
 | [],_=>true
 | _::_,[]=>false
 | x::l,y::m=>if x=y then jB l m else leV x y
end
inductive Knd where
 | int | str
 | tup (l:cp Knd)
def pD:cp Knd->LG
 | []=>false
 | z=>z.all λk=>match k with | .tup _=>false | _=>true
mutual
noncomputable def CV.is:Knd->CV->LG
 | .int,.int _=>true
 | .str,.str s=>s.cps.toList.all (OC · 128)
 | .tup z,.tup l=>CV.iss z l
 | _,_=>false
noncomputable def CV.iss:cp Knd->cp CV->LG
 | [],[]=>true
 | k::z,v::l=>CV.is k v&&CV.iss z l
 | _,_=>false
end
def xp(x:CV)(l:cp CV):cp CV:=l.rec [x] λy l z=>if leV x y then x::y::l else y::z
def bY(l:cp CV):cp CV:=l.foldr xp []
def eY(l:cp CV):cp CV:=l.rec [] λx Q z=>if x∈z then z else x::z
def eE(a:Lj)(l:cp Lj):Str:=a++Li " -> "++(Sq (l.map .str)).shown
def isS:CV->LG
 | .str _=>true
 | _=>false
inductive It where
 | list (a i:ki)
 | ai (l:cp CV)
 | dK (a n i:ki)
 | ei (a n i:ki)
 | bu (k:ki) (t:It)
def xq(l:cp CV):rt (CV×It):=match l with
 | []=>none
 | v::l=>aM (v,.ai l)
def It.next(H:CH)(t:It):rt (rt (CV×It)):=match t with
 | .list a i=>(H.getL a).map λl=>l[i]?.map λv=>(v,.list a (i+1))
 | .ai l=>aM (xq l)
 | .dK a n i=>(H.dct a).bind λz=>if z.length=n/\z.all (λp=>isS p.1)=true then aM (z[i]?.map λp=>(p.1,.dK a n (i+1))) else none
 | .ei a n i=>(H.dct a).bind λz=>if z.length=n/\z.all (λp=>isS p.1)=true then aM (z[i]?.map λp=>(.tup [p.1,p.2],.ei a n (i+1))) else none
 | .bu k t=>(It.next H t).map λo=>o.map λp=>(.tup [.int k,p.1],.bu (k+1) p.2)
def hJ(z:cp CV):rt (cp CV):=match z with
 | []=>none
 | a::r=>a.cf none λa=>match r with
  | []=>if -(2 ^ 20)<a/\a<2 ^ 20 then aM ((Lk a.toNat).map λ(i:ki)=>.int i) else none
  | _::_=>none
def cS(L:ki->rt CV)(i:ki)(v:CV):ki->rt CV:=upd L i v
def mf(L:ki->rt CV)(w:cp ki):cp CV->rt (ki->rt CV):=
 w.rec (motive:=λQ=>(ki->rt CV)->cp CV->rt (ki->rt CV)) (λL z=>z.casesOn (aM L) λQ Q=>none) (λi Q y L z=>z.casesOn none λv z=>y (cS L i v) z) L
def de(L:ki->rt CV)(t:LT)(v:CV):rt (ki->rt CV):=match t with
 | .n i=>aM (cS L i v)
 | .t z=>match v with
  | .tup Q=>mf L z Q
  | _=>none
abbrev PT:=ki->cp CV->CH->(CV->CH->Prop)->Prop
abbrev MT:=ki->ki->rt ki
def gO(z:CV->St->(LG->St->Prop)->Prop)(w:St->Prop)(y:St->Prop)(n:ki):It->St->Prop:=
 n.rec (λY Y=>False) λY U v st=>(v.next st.H).elim False λo=>o.elim (w st) λp=>z p.1 st λb Q=>if b then U p.2 Q else y Q
def eZ(Q:CV->St->(rt CV->St->Prop)->Prop)(w:cp CV->St->Prop)(n:ki):It->cp CV->St->Prop:=
 n.rec (λy y y=>False) λy U v z st=>(v.next st.H).elim False λo=>o.elim (w z st) λp=>Q p.1 st λr Y=>z.length<szl/\U p.2 (r.elim z λx=>z++[x]) Y
noncomputable abbrev Ps:=CV->St->Prop
def JT(x y:CV)(st:St)(Q:Ps):Prop:=match x with
 | .int a=>y.cf False λb=>Q (.int (a+b)) st
 | .ref a=>y.sC False λb=>∃l m,st.H.getL a=aM l/\st.H.getL b=aM m/\l.length+m.length<=szl/\∀c,st.H.free c->Q (.ref c) { st with H:=st.H.aD c (l++m) }
 | _=>False
def JU(x y:CV)(st:St)(Q:Ps):Prop:=match x with
 | .int a=>y.cf False λb=>0<b/\Q (.int (a % b)) st
 | .str f=>y.sz False λz=>f=u 0x405584c7f5eca7988f9f25/\z.cps.size<=1000000/\∀r,Q (.str r) st
 | _=>False
def opV(o:BO)(x y:CV)(st:St)(Q:Ps):Prop:=match o with
 | .add=>JT x y st Q
 | .sub=>x.cf False λa=>y.cf False λb=>Q (.int (a - b)) st
 | .mod=>JU x y st Q
def Fs(x:CV)(st:St)(Q:Ps):Prop:=∃n,Fr st.H x=aM n/\n<=szl/\Q (.int n) st
def HH(z:PT)(x:CV)(st:St)(Q:Ps):Prop:=match x with
 | .ref a=>if st.H.cls a=aM 100 then z 83 [.ref a] st.H λr H=>∃n:ki,r=.int n/\n<2 ^ 30/\Q r { st with H:=H } else Fs (.ref a) st Q
 | x=>Fs x st Q
section
variable(w:PT)(M:MT)
mutual
noncomputable def wpE:CE->St->(CV->St->Prop)->(Exc->St->Prop)->Prop
 | .bad,_,_,_=>False
 | .c v,st,Q,_=>Q v st
 | .v i,st,Q,_=>∃v,st.L i=aM v/\Q v st
 | .at e n,st,Q,X=>wpE e st (λx st=>∃r,i5 st.H x n=aM r/\Q r st) X
 | .ix e k,st,Q,X=>wpE e st (λx st=>wpE k st (λy st=>∃r,eD st.H x y=aM r/\match r with | .ok v=>Q v st | .error q=>X q st) X) X
 | .sl e lo B,st,Q,X=>wpE e st (λx st=>wpE lo st (λy st=>wpE B st (λz st=>match x with
   | .tup l=>∃i:ki,y=.int i/\z=.none/\1<=i/\i<=l.length/\Q (.tup (l.drop i)) st
   | .ref a=>∃l m,st.H.getL a=aM l/\cut l y z=aM m/\∀c,st.H.free c->Q (.ref c) { st with H:=st.H.aD c m }
   | _=>False) X) X) X
 | .tu J,st,Q,X=>kH J st (λV st=>Q (.tup V) st) X
 | .li J,st,Q,X=>kH J st (λV st=>∀c,st.H.free c->Q (.ref c) { st with H:=st.H.aD c V }) X
 | .d0,st,Q,_=>∀c,st.H.free c->Q (.ref c) { st with H:=st.H.bo c [] }
 | .op o a b,st,Q,X=>wpE a st (λx st=>wpE b st (λy st=>opV o x y st Q) X) X
 | .cm o a b,st,Q,X=>wpE a st (λx st=>wpE b st (λy st=>∃r,b9 st.H o x y=aM r/\Q (.bool r) st) X) X
 | .nt a,st,Q,X=>wpE a st (λx st=>∃b,aL st.H x=aM b/\Q (.bool (!b)) st) X
 | .ng a,st,Q,X=>wpE a st (λx st=>∃i,x=.int i/\Q (.int (-i)) st) X
 | .an a b,st,Q,X=>wpE a st (λx st=>∃t,aL st.H x=aM t/\if t then wpE b st Q X else Q x st) X
 | .an3 a b c,st,Q,X=>wpE a st (λx st=>∃t,aL st.H x=aM t/\if t then wpE b st (λy st=>∃t,aL st.H y=aM t/\if t then wpE c st Q X else Q y st) X else Q x st) X
 | .orr a b,st,Q,X=>wpE a st (λx st=>∃t,aL st.H x=aM t/\if t then Q x st else wpE b st Q X) X
 | .ife t a b,st,Q,X=>wpE t st (λx st=>∃q,aL st.H x=aM q/\if q then wpE a st Q X else wpE b st Q X) X
 | .fn f as,st,Q,X=>kH as st (λV st=>w f V st.H λr H=>Q r { st with H:=H }) X
 | .me o m as,st,Q,X=>wpE o st (λx st=>∃a c f,x=.ref a/\st.H.cls a=aM c/\bn c=true/\M c m=aM f/\st.H.att m a=none/\
   kH as st (λV st=>w f (.ref a::V) st.H λr H=>Q r { st with H:=H }) X) X
 | .nw k as,st,Q,X=>kH as st (λV st=>bn k=true/\∀c,st.H.free c->w (gq k) (.ref c::V) (st.H.cR c k) λr H=>r=.none/\Q (.ref c) { st with H:=H }) X
 | .b1 k a,st,Q,X=>wpE a st (λx st=>match k with
   | .len=>HH w x st Q
   | .list=>∃l,qU st.H x=aM l/\l.length<=szl/\∀c,st.H.free c->Q (.ref c) { st with H:=st.H.aD c l }
   | .tuple=>∃l,qU st.H x=aM l/\l.length<=szl/\Q (.tup l) st
   | .sorted=>∃a l C,x=.ref a/\st.H.getL a=aM l/\l.length<64/\pD C=true/\(∀y∈l,y.is (.tup C)=true)/\∀c,st.H.free c->Q (.ref c) { st with H:=st.H.aD c (bY l) }
   | .bS=>∃a l,x=.ref a/\st.H.getL a=aM l/\l.length<64/\(∀y∈l,y.is .str=true)/\(∃y∈l,∃z∈l,y≠z)/\∀c,st.H.free c->Q (.ref c) { st with H:=st.H.aD c (bY (eY l)) }
   | .all=>∃l,qU st.H x=aM l/\(∀y∈l,∃b,y=.bool b)/\Q (.bool (l.all λy=>decide (y=.bool true))) st) X
 | .sx,st,Q,_=>∀c,st.H.free c->Q (.ref c) { st with H:=st.H.cR c 1 }
 | .mn a b,st,Q,X=>wpE a st (λx st=>wpE b st (λy st=>∃i j,x=.int i/\y=.int j/\Q (.int (min i j)) st) X) X
 | .ap o x,st,Q,X=>wpE o st (λo st=>∃a Y,o=.ref a/\st.H.lst a=aM Y/\wpE x st (λx st=>∃l,st.H.lst a=aM l/\l.length<szl/\Q .none { st with H:=st.H.aD a (l++[x]) }) X) X
 | .ins o i x,st,Q,X=>wpE o st (λo st=>∃a Y,o=.ref a/\st.H.lst a=aM Y/\wpE i st (λi st=>wpE x st (λx st=>∃(l:cp CV) (n:ki),i=.int n/\n<=l.length/\st.H.lst a=aM l/\l.length<64/\
   Q .none { st with H:=st.H.aD a (l.take n++x::l.drop n) }) X) X) X
 | .ge o k d,st,Q,X=>wpE o st (λo st=>∃a Y,o=.ref a/\st.H.dct a=aM Y/\wpE k st (λk st=>wpE d st (λd st=>∃J,st.H.dct a=aM J/\k.az=true/\Q ((aw J k).getD d) st) X) X) X
 | .po o i,st,Q,X=>wpE o st (λo st=>∃a Y,o=.ref a/\st.H.lst a=aM Y/\wpE i st (λi st=>∃x l,i=.int 0/\st.H.lst a=aM (x::l)/\Q x { st with H:=st.H.aD a l }) X) X
 | .jo s x,st,Q,X=>wpE s st (λy st=>∃t,y=.str t/\wpE x st (λx st=>∃l,t.cps.size=1/\x=.tup l/\l.length<64/\(∀z∈l,∃s,z=.str s/\s.cps.size<64)/\∀r:Lj,r.cps.size<10000->Q (.str r) st) X) X
 | .js a b,st,Q,X=>wpE a st (λx st=>∃f,x=.str f/\f.cps.size<=1000000/\wpE b st (λy st=>(∃t,y=.str t/\t.cps.size<=1000000/\∀r,Q (.str r) st)∨
   (∃l O,y=.ref l/\st.H.getL l=aM (O.map .str)/\(∀x∈O,x.cps.toList.all (OC · 128)=true)/\(Sq (O.map .str)).shown.length<=1000000/\Q (.str (eE f O)) st)) X) X
 | .co p t i g,st,Q,X=>wpI i st (λN U=>∃n,eZ (λv s K=>∃L,de s.L t v=aM L/\jC g { s with L:=L } (λb s=>if b then wpE p s (λr s=>K (aM r) s) (λT T=>False) else K none s) (λT T=>False))
   (λacc s=>acc.length<=szl/\∀c,s.H.free c->Q (.ref c) ⟨s.H.aD c acc,U.L⟩) n N [] U) X
noncomputable def kH:cp CE->St->(cp CV->St->Prop)->(Exc->St->Prop)->Prop
 | [],st,Q,_=>Q [] st
 | e::z,st,Q,X=>wpE e st (λv st=>kH z st (λy st=>Q (v::y) st) X) X
noncomputable def jC:cp CE->St->(LG->St->Prop)->(Exc->St->Prop)->Prop
 | [],st,Q,_=>Q true st
 | e::z,st,Q,X=>wpE e st (λv st=>∃b,aL st.H v=aM b/\if b then jC z st Q X else Q false st) X
noncomputable def wpI:CI->St->(It->St->Prop)->(Exc->St->Prop)->Prop
 | .val e,st,Q,X=>wpE e st (λx st=>match x with
   | .tup l=>Q (.ai l) st
   | .str s=>s.cps.all (·<128)=true/\Q (.ai (s.cps.toList.map λc=>.str ⟨#[c]⟩)) st
   | .ref a=>match st.H.getL a with
    | some _=>Q (.list a 0) st
    | none=>match st.H.dct a with
     | some z=>z.all (λp=>isS p.1)=true/\Q (.dK a z.length 0) st
     | none=>False
   | _=>False) X
 | .bu e,st,Q,X=>wpE e st (λx st=>match x with
   | .tup l=>Q (.bu 0 (.ai l)) st
   | .ref a=>match st.H.getL a with
    | some _=>Q (.bu 0 (.list a 0)) st
    | none=>False
   | _=>False) X
 | .rng z,st,Q,X=>kH z st (λy st=>∃l,hJ y=aM l/\Q (.ai l) st) X
 | .ai e,st,Q,X=>wpE e st (λx st=>∃a l,x=.ref a/\st.H.dct a=aM l/\∃z,st.H.dct a=aM z/\z.all (λp=>isS p.1)=true/\Q (.ei a z.length 0) st) X
end
def qV:Tg->CV->St->(St->Prop)->(Exc->St->Prop)->Prop
 | .n i,v,st,Q,_=>Q { st with L:=cS st.L i v }
 | .t Y,v,st,Q,_=>∃y L,v=.tup y/\mf st.L Y y=aM L/\Q { st with L:=L }
 | .at e n,v,st,Q,X=>wpE w M e st (λo st=>∃a c,o=.ref a/\st.H.cls a=aM c/\bn c=true/\Q { st with H:=st.H.bw n a v }) X
 | .ix e k,v,st,Q,X=>wpE w M e st (λo st=>wpE w M k st (λk st=>∃a z,o=.ref a/\st.H.dct a=aM z/\k.az=true/\z.length<szl/\
   Q { st with H:=st.H.bo a (bf z k v) }) X) X
 | .li e k,v,st,Q,X=>wpE w M e st (λo st=>wpE w M k st (λk st=>∃(a:ki) (l:cp CV) (n:ki),o=.ref a/\st.H.lst a=aM l/\k=.int n/\n<l.length/\
   Q { st with H:=st.H.aD a (l.set n v) }) X) X
def vW(z:St->(LG->St->Prop)->Prop)(Q:St->(LG->St->Prop)->Prop)(y Y:St->Prop)(n:ki):St->Prop:=
 n.rec (λU=>False) λU v st=>z st λb st=>if b then Q st λV st=>if V then v st else Y st else y st
mutual
noncomputable def wpS:CS->St->(Fl->St->Prop)->(Exc->St->Prop)->Prop
 | .bad,_,_,_=>False
 | .asg t e,st,Q,X=>wpE w M e st (λv st=>qV w M t v st (Q .next) X) X
 | .fS i o e,st,Q,X=>∃x,st.L i=aM x/\wpE w M e st (λy st=>∃a b,x=.int a/\y=.int b/\(o=.add∨o=.sub)/\Q .next { st with L:=cS st.L i (.int (o.i a b)) }) X
 | .gn x n o e,st,Q,X=>wpE w M x st (λY st=>∃r c l,Y=.ref l/\st.H.cls l=aM c/\i5 st.H Y n=aM r/\wpE w M e st (λy st=>∃a b,r=.int a/\y=.int b/\(o=.add∨o=.sub)/\
   Q .next { st with H:=st.H.bw n l (.int (o.i a b)) }) X) X
 | .ex e,st,Q,X=>wpE w M e st (λz st=>Q .next st) X
 | .ite t a b,st,Q,X=>wpE w M t st (λv st=>∃q,aL st.H v=aM q/\if q then ae a st Q X else ae b st Q X) X
 | .whl t b,st,Q,_=>∃n,vW (λs K=>wpE w M t s (λv s=>∃q,aL s.H v=aM q/\K q s) (λz z=>False))
   (λs K=>ae b s (λf s=>match f with | .next | .cont=>K true s | .brk=>K false s | .ret v=>Q (.ret v) s) (λz z=>False)) (Q .next) (Q .next) n st
 | .fr t i b o,st,Q,X=>wpI w M i st (λU st=>∃n,gO (λv s K=>∃L,de s.L t v=aM L/\
   ae b { s with L:=L } (λf s=>match f with | .next | .cont=>K true s | .brk=>K false s | .ret v=>Q (.ret v) s) (λz z=>False))
   (λs=>ae o s Q (λz z=>False)) (Q .next) n U st) X
 | .ret e,st,Q,X=>wpE w M e st (λv st=>Q (.ret v) st) X
 | .brk,st,Q,_=>Q .brk st
 | .cont,st,Q,_=>Q .cont st
 | .mK,st,Q,_=>Q .next st
 | .try b V h,st,Q,_=>ae b st Q (λq st=>q∈V/\ae h st Q (λz z=>False))
noncomputable def ae:cp CS->St->(Fl->St->Prop)->(Exc->St->Prop)->Prop
 | [],st,Q,_=>Q .next st
 | s::l,st,Q,X=>wpS s st (λf st=>match f with | .next=>ae l st Q X | f=>Q f st) X
end
end
structure Fn where
 ej:ki
 dY:cp CV
 body:cp CS
def jD(k:ki)(Q:cp CV):ki->rt CV:=Q.rec (motive:=λz=>ki->ki->rt CV) (λz z=>none) (λv z w k i=>if i=k then aM v else w (k+1) i) k
def ah(F:ki->rt Fn)(M:MT):ki->PT
 | 0,_,_,_,_=>False
 | n+1,f,z,H,Q=>∃d,F f=aM d/\z.length<=d.ej/\d.ej<=z.length+d.dY.length/\
   ae (ah F M n) M d.body ⟨H,jD 0 (z++d.dY.drop (d.dY.length - (d.ej - z.length)))⟩ (λw st=>match w with
    | .ret v=>Q v st.H
    | .next=>Q .none st.H
    | _=>False) (λy y=>False)
mutual
inductive RV(h:M7):rr->CV->Prop
 | none:RV h .none .none
 | bool (b:LG):RV h (.bool b) (.bool b)
 | int (i:Nj) (t:Tok):RV h (.int i t) (.int i)
 | str (x:Lj) (t:Tok):RV h (.str x t) (.str x)
 | tup {a:LZ} {vs:Mv rr} {l:cp CV}:Qn h a vs->l.length<=szl->RVs h vs.toList l->RV h (.ref a) (.tup l)
 | ref (a:LZ):RV h (.ref a) (.ref a)
inductive RVs(h:M7):cp rr->cp CV->Prop
 | nil:RVs h [] []
 | cons {v:rr} {c:CV} {vs:cp rr} {cs:cp CV}:RV h v c->RVs h vs cs->RVs h (v::vs) (c::cs)
end
def TK(h h':M7):Prop:=∀a vs,Qn h a vs->Qn h' a vs
def TK.refl(h:M7):TK h h:=λz z x=>x
def TK.trans(x:TK a b)(y:TK b c):TK a c:=λz z q=>y _ _ (x _ _ q)
def RVs.ind{P:cp rr->cp CV->Prop}(n:P [] [])(k:∀{v c Q w},RV h v c->RVs h Q w->P Q w->P (v::Q) (c::w))(x:RVs h Q w):P Q w:=
 x.rec (motive_1:=λz z z=>True) (motive_2:=λQ w z=>P Q w) trivial (λz=>trivial) (λz z=>trivial) (λz z=>trivial) (λz z z z=>trivial) (λz=>trivial) n λa b z y=>k a b y
def RV.mono(k:TK h z){v:rr}{c:CV}(x:RV h v c):RV z v c:=
 x.rec (motive_1:=λv c Q=>RV z v c) (motive_2:=λvs cs Q=>RVs z vs cs) .none (λb=>.bool b) (λi t=>.int i t) (λx t=>.str x t) (λw y Q Y=>.tup (k _ _ w) y Y) (λa=>.ref a) .nil λQ Q a b=>.cons a b
def RVs.mono(k:TK h z)(x:RVs h vs cs):RVs z vs cs:=x.ind .nil λa w Q=>.cons (a.mono k) Q
def RVs.length(x:RVs h vs z):vs.length=z.length:=x.ind (P:=λvs z=>vs.length=z.length) rfl λQ Q w=>dd Pj w
def RVs.append(x:RVs h z Q)(y:RVs h ws ds):RVs h (z++ws) (Q++ds):=x.ind (P:=λz Q=>RVs h (z++ws) (Q++ds)) y λa Y w=>.cons a w
theorem RVs.get(x:RVs h z Q):∀(i:ki) {c:CV},Q[i]?=aM c->∃v,z[i]?=aM v/\RV h v c:=
 x.ind (P:=λz Q=>∀(i:ki) {c:CV},Q[i]?=aM c->∃v,z[i]?=aM v/\RV h v c) (λw w e=>nomatch e) λa w y i w e=>by
  cases i with
  | zero=>exact⟨_,rfl,ey e▸a⟩
  | succ i=>exact y i e
theorem RVs.drop(x:RVs h z Q):∀n,RVs h (z.drop n) (Q.drop n):=
 x.ind (P:=λz Q=>∀n,RVs h (z.drop n) (Q.drop n)) (λn=>by cases n <;> exact .nil) λa b w n=>by
  cases n with
  | zero=>exact .cons a b
  | succ n=>exact w n
theorem RVs.take(x:RVs h z Q):∀n,RVs h (z.take n) (Q.take n):=
 x.ind (P:=λz Q=>∀n,RVs h (z.take n) (Q.take n)) (λn=>by cases n <;> exact .nil) λa y w n=>by
  cases n with
  | zero=>exact .nil
  | succ n=>exact .cons a (w n)
def RVc(h:M7)(v:rr):CV->Prop
 | .none=>v=.none
 | .bool b=>v=.bool b
 | .int i=>∃t,v=.int i t
 | .str x=>∃t,v=.str x t
 | .tup l=>∃a z,v=.ref a/\Qn h a z/\l.length<=szl/\RVs h z.toList l
 | .ref a=>v=.ref a
theorem RV.c{v:rr}{c:CV}(x:RV h v c):RVc h v c:=by
 cases x with
 | int _ t | str _ t=>exact⟨t,rfl⟩
 | tup a b c=>exact⟨_,_,rfl,a,b,c⟩
 | _=>exact rfl
def RVv(h:M7)(c:CV):rr->Prop
 | .none=>c=.none
 | .bool b=>c=.bool b
 | .int i _=>c=.int i
 | .str x _=>c=.str x
 | .ref a=>c=.ref a∨∃z l,c=.tup l/\Qn h a z/\l.length<=szl/\RVs h z.toList l
 | _=>False
theorem RV.v{v:rr}{c:CV}(x:RV h v c):RVv h c v:=by
 cases x with
 | tup a b c=>exact .inr ⟨_,_,rfl,a,b,c⟩
 | ref _=>exact .inl rfl
 | _=>exact rfl
def JV(h:M7)(Q:cp rr):cp CV->Prop
 | []=>Q=[]
 | c::w=>∃v z,Q=v::z/\RV h v c/\RVs h z w
theorem RVs.c(x:RVs h vs cs):JV h vs cs:=by
 cases x with
 | nil=>exact rfl
 | cons a b=>exact⟨_,_,rfl,a,b⟩
def JW(h:M7)(Q:cp CV):cp rr->Prop
 | []=>Q=[]
 | v::w=>∃c z,Q=c::z/\RV h v c/\RVs h w z
theorem RVs.v(x:RVs h vs cs):JW h cs vs:=
 match x with
 | .nil=>rfl
 | .cons a b=>⟨_,_,rfl,a,b⟩
section
variable(w:MY)
mutual
noncomputable def cj:CV->Nj
 | .int i=>hashInt i
 | .str s=>hashStr w s
 | .tup l=>U2 (OU (kI l))
 | .none=>U2 0xFCA86420
 | _=>0
noncomputable def kI:cp CV->cp Nj
 | []=>[]
 | c::l=>cj c::kI l
end
end
section
variable{z:Ow}{w:MY}{A:MQ}{s:ow}
def dM(h:CV.bD (c::l)=true):c.pure=true:=(rv.mp h).1
def dN(h:CV.bD (c::l)=true):CV.bD l=true:=(rv.mp h).2
def e7{Y y:Type}{f:Y->y->Sem (O2 y)}{b:y}{Q:y->ow->Prop}(h:Q b s):rl (Lg z w) A (forIn [] b f) Q E s:=pe h
theorem et{Y y:Type}{f:Y->y->Sem (O2 y)}{x:Y}{l:cp Y}{b:y}{Q:y->ow->Prop}(h:rl (Lg z w) A (f x b) (λr U=>match r with | .yield v=>rl (Lg z w) A (forIn l v f) Q E U | .done v=>Q v U) E s):rl (Lg z w) A (forIn (x::l) b f) Q E s:=by
 rw[SR]
 refine ec (OD h (λr U V=>?_) λk k j=>j)
 cases r with
 | done=>exact pe V
 | yield=>exact V
def EA(x:rr)(b:Mv Nj):Sem (O2 (Mv Nj)):=do
 let h ← US x
 pure (.yield (b.push h))
def yv{Q:Nj->ow->Prop}(V:A.units<P5)(U:Qn s.heap a Y)
(ai:∀Q:Mv Nj->ow->Prop,(∀b k,b.toList=kI w l->Q b { s with toks:=k })->rl (Lg z w) A.in1 (forIn Y.toList #[] EA) Q E s)
(h:∀k,Q (cj w (.tup l)) { s with toks:=k }):rl (Lg z w) A (US (.ref a)) Q E s:=by
 have y:=U.typeIs
 refine i6 U λo j p n J=>?_
 unfold US
 unfold pyHashByItsType
 refine ec (wpAny_cRoomFor_or (.inr V) (ec (Oh y QR.lookup ?_)))
 show rl _ _ (if (aM (VX "tuple.__hash__")==aM LM)=true then _ else _) Q E s
 rw[E1 (by rw[WI];exact Lq)]
 refine ec (Oh y QR.lookup (ec (wpAny_callSpecialIfBoundUnlessNone?_slot y QR (ML QR y F.entry_tuple_hash ?_ (F.args_tuple_hash_1 _)))))
 show rl _ _ (RO (.ref a) >>= _) _ _ s
 refine ec (wpAny_tupleItemsOf j J (ec ?_))
 rw[← UG]
 refine ai _ λb k O=>?_
 show rl _ _ (retInt (OU b.toList)) _ _ _
 rw[O]
 refine wpAny_ret_mkInt ?_
 have h:∀k,Q (YA (OU (kI w l))) { s with toks:=k }:=h
 generalize OU (kI w l)=x at h ⊢
 show rl _ _ (if (decide (-(2:Nj) ^ 63<=x)&&decide (x<2 ^ 63))=true then _ else _) Q E _
 unfold YA at h
 by_cases v:(decide (-(2:Nj) ^ 63<=x)&&decide (x<2 ^ 63))=true
 ·rw[K2 v] at h ⊢;exact pe (h _)
 ·rw[E1 v] at h ⊢;exact ec (Np (pe (h _)))
def yw(x:RV h v c):c.pure=true->∀(A:MQ) (s:ow) (Q:Nj->ow->Prop),s.heap=h->A.units+c.depth<P5->(∀k,Q (cj w c) { s with toks:=k })->rl (Lg z w) A (US v) Q E s:=
 x.rec (motive_1:=λv c y=>c.pure=true->∀(A:MQ) (s:ow) (Q:Nj->ow->Prop),s.heap=h->A.units+c.depth<P5->(∀k,Q (cj w c) { s with toks:=k })->rl (Lg z w) A (US v) Q E s)
  (motive_2:=λj V y=>CV.bD V=true->∀(A:MQ) (s:ow) (b:Mv Nj) (Q:Mv Nj->ow->Prop),s.heap=h->A.units+CV.dw V<P5->(∀U k,U.toList=b.toList++kI w V->Q U { s with toks:=k })->rl (Lg z w) A (forIn j b EA) Q E s)
  (λy A s Q y Y h=>pyHash_laid .none .none A s Q rfl .none Y h)
  (λy p=>nomatch p)
  (λy y y y y y y y h=>wpAny_pyHash_int (h _))
  (λy y y y y y y y h=>wpAny_pyHash_str (h _))
  (λJ y y o p A s Q e Y h=>yv (eF (LA _ _) Y) (e▸J) (λO f=>o p A.in1 s #[] O e (eF (p8 ((NV _ 1 _).trans (dd (A.units+·) (Nk 1 _)))) Y) f) h)
  (λy p=>nomatch p)
  (λy A s b Q y y h=>e7 (h b s.toks (Mp _).symm))
  (λy y g l p A s b Q e Y h=>et (ec (g (dM p) A s _ e (eF (Ls (Tb _ _) _) Y) λk=>pe (l (dN p) A { s with toks:=k } _ Q e (eF (Ls (SM _ _) _) Y) λU L t=>h U L (by(erw[t];erw[Ov];rewrite[M9]);rfl)))))
def vX(n:ki){c:CV}{A:MQ}{s:ow}{Q:Nj->ow->Prop}(y:c.depth<=n)(Y:c.hk=true)(U:A.units+n<P5)(V:RV s.heap v c)(h:∀k,Q (cj w c) { s with toks:=k }):rl (Lg z w) A (US v) Q E s:=
 yw V Y A s Q rfl (eF (Ls y _) U) h
def Ft(n:ki)(x:rr)(_:rt LG×Ub):Sem (O2 (rt LG×Ub)):=do
 let b ← Qa n x
 if (!b)=true then pure (.done (aM false,⟨⟩)) else pure (.yield (none,⟨⟩))
theorem xr(x:RV h v c):c.pure=true->∀(n:ki) (A:MQ) (s:ow) (Q:LG->ow->Prop),s.heap=h->c.depth<=n->Q true s->rl (Lg z w) A (Qa n v) Q E s:=
 x.rec (motive_1:=λv c y=>c.pure=true->∀(n:ki) (A:MQ) (s:ow) (Q:LG->ow->Prop),s.heap=h->c.depth<=n->Q true s->rl (Lg z w) A (Qa n v) Q E s)
  (motive_2:=λU j y=>CV.bD j=true->∀(n:ki) (A:MQ) (s:ow) (Q:rt LG×Ub->ow->Prop),s.heap=h->CV.dw j<=n->Q (none,⟨⟩) s->rl (Lg z w) A (forIn U (none,⟨⟩) (Ft n)) Q E s)
  (λy n y y y y y h=>(S7 n rfl:Qa n .none=_)▸pe h)
  (λy p=>nomatch p)
  (λi t y n y y y y y h=>(S7 n rfl:Qa n (.int i t)=_)▸pe h)
  (λx t y n y y y y y h=>(S7 n rfl:Qa n (.str x t)=_)▸pe h)
  (λ{a U l} V y y O p n A s Q e Y h=>by
   cases n with
   | zero=>exact p7 Y (Nf _)
   | succ n=>
    have V:Qn s.heap a U:=e▸V
    have J:=V.typeIs
    refine i6 V λo f y T k=>?_
    unfold Qa
    refine ec (Oh J F.slot_tuple_eq.lookup (ec (Tj J isSubtype_tuple_tuple (Oi rfl (ec (QK f k (ec ?_)))))))
    show rl _ _ (forIn U _ _) _ _ s
    erw[Ng UG]
    exact O p n A s _ e (Nz Y) (pe h))
  (λy p=>nomatch p)
  (λy y y y y y y h=>e7 h)
  (λy y g L p n A s Q e Y h=>et (ec (g (dM p) n A s _ e (cy (Tb _ _) Y) (Oi rfl (pe (L (dN p) n A s Q e (cy (SM _ _) Y) h))))))
def sF(n:ki){c:CV}{A:MQ}{s:ow}{Q:LG->ow->Prop}(y:c.depth<=n)(Y:c.hk=true)(U:RV s.heap v c)(h:Q true s):rl (Lg z w) A (Qa n v) Q E s:=
 xr U Y n A s Q rfl y h
end
mutual
noncomputable def pd:CV->YU
 | .none=>.none
 | .bool b=>.bool b
 | .int i=>.int i
 | .str x=>.str x
 | .tup l=>.tuple (pds l)
 | .ref _=>.none
noncomputable def pds:cp CV->cp YU
 | []=>[]
 | c::l=>pd c::pds l
end
def RV.hU{v:rr}{c:CV}(x:RV h v c):c.pure=true->∃as,Ys h v (pd c) as:=
 x.rec (motive_1:=λv c z=>c.pure=true->∃as,Ys h v (pd c) as) (motive_2:=λw Q z=>CV.bD Q=true->∃as,XE h w (pds Q) as)
  (λz=>⟨_,.none⟩) (λz p=>nomatch p) (λi t z=>⟨_,.int i t⟩) (λx t z=>⟨_,.str x t⟩)
  (λY z z U p=>(U p).elim λas q=>Y.elim λo y=>y.2.2.elim λn V=>⟨_,Reads.tuple y.1 y.2.1 V q⟩) (λz p=>nomatch p)
  (λz=>⟨_,.nil⟩) λz z k j p=>(k (dM p)).elim λas q=>(j (dN p)).elim λJ r=>⟨_,.cons q r⟩
def xt{x:Lj}(h:x.cps.toList.all (OC · 128)=true):VY x=true:=by
 unfold VY
 erw[Ng Vd]
 exact M5.mpr λc z=>Ln (rf (e0 (M5.mp h c z)) (by decide))
def je{c:CV}:c.pure=true->(pd c).canLay0=true:=
 c.rec (motive_1:=λc=>c.pure=true->(pd c).canLay0=true) (motive_2:=λl=>CV.bD l=true->Uv (pds l)=true)
  (λz=>rfl) (λz p=>nomatch p) (λz z=>rfl) (λz p=>xt p) (λz Q p=>Q p) (λz p=>nomatch p) (λz=>rfl) λz z w y p=>rv.mpr ⟨w (dM p),y (dN p)⟩
def jE(c:CV):(pd c).depth<=c.depth:=
 c.rec (motive_1:=λc=>(pd c).depth<=c.depth) (motive_2:=λl=>SB (pds l)<=CV.dw l)
  (Lf _) (λz=>Lf _) (λz=>Lf _) (λz=>Lf _) (λz Q=>Lw Q) (λz=>Lf _) (Lf _) λz z w y=>Sd.mpr ⟨cy w (Tb _ _),cy y (SM _ _)⟩
theorem Fu(c:CV):∀d:CV,c.pure=true->d.pure=true->PH (pd c) (pd d)=true->c=d:=
 c.rec (motive_1:=λc=>∀d:CV,c.pure=true->d.pure=true->PH (pd c) (pd d)=true->c=d) (motive_2:=λl=>∀m:cp CV,CV.bD l=true->CV.bD m=true->Te (pds l) (pds m)=true->l=m)
  (λd z q e=>by cases d <;> first | rfl | exact ff e | exact ff q) (λz z p=>ff p) (λi d z q e=>by cases d <;> first | exact dd _ (MU.mp e) | exact ff e | exact ff q)
  (λi d z q e=>by cases d <;> first | exact dd _ (MU.mp e) | exact ff e | exact ff q) (λz Q d p q e=>by cases d <;> first | exact dd _ (Q _ p q e) | exact ff e | exact ff q) (λz z p=>ff p)
  (λm z z e=>by cases m <;> first | rfl | exact ff e) λc l w y m p q e=>by
   cases m with
   | nil=>exact ff e
   | cons d m=>exact w d (dM p) (dM q) (rv.mp e).1▸y m (dN p) (dN q) (rv.mp e).2▸rfl
def Cm{c:CV}:c.pure=true->PH (pd c) (pd c)=true:=
 c.rec (motive_1:=λc=>c.pure=true->PH (pd c) (pd c)=true) (motive_2:=λl=>CV.bD l=true->Te (pds l) (pds l)=true)
  (λz=>rfl) (λz p=>nomatch p) (λz z=>MU.mpr rfl) (λz z=>MU.mpr rfl) (λz Q p=>Q p) (λz p=>nomatch p) (λz=>rfl) λz z w y p=>rv.mpr ⟨w (dM p),y (dN p)⟩
def mh{c d:CV}(z:c.pure=true)(Q:d.pure=true):PH (pd c) (pd d)=decide (c=d):=by
 by_cases h:c=d
 ·(erw[Ln h];erw[Ng h]);exact Cm z
 ·erw[LQ h];exact Oy.mpr λe=>h (Fu c d z Q e)
def ux{c:CV}(h:c.hk=true):c.pure=true:=h
section
variable{z:Ow}{w:MY}{A:MQ}{s:ow}
def pE{u:rr}{Q:LG->ow->Prop}(U:RV s.heap u c)(V:RV s.heap v d)(y:c.pure=true)(Y:d.pure=true)(k:A.units+c.depth<P5)(h:Q (decide (c=d)) s) :
  rl (Lg z w) A (YC u v) Q E s:=by
 refine oE (U.hU y) λas j=>?_
 refine oE (V.hU Y) λJ o=>?_
 refine SeqAt.eqBoolOverData z w A E s u v _ _ as J Q j o (je y) (je Y) ?_ (by erw[mh y Y];exact h)
 exact eF (Ls (cy (Qc _ _) (jE c)) _) k
end
inductive REs(w:MY)(h:M7):cp MH->cp (CV×CV)->Prop
 | nil:REs w h [] []
 | cons {e:MH} {k v:CV} {es:cp MH} {kvs:cp (CV×CV)}:e.hash=cj w k->k.az=true->RV h e.key k->RV h e.val v->REs w h es kvs->REs w h (e::es) ((k,v)::kvs)
section
variable{w:MY}{Q:M7}{z:cp (CV×CV)}
def REs.ind{P:cp MH->cp (CV×CV)->Prop}(n:P [] [])(f:∀{e k v es z},e.hash=cj w k->k.az=true->RV h e.key k->RV h e.val v->REs w h es z->P es z->P (e::es) ((k,v)::z))(x:REs w h es z):P es z:=
 x.rec (motive:=λes z Y=>P es z) n λa b c d r y=>f a b c d r y
def REs.mono(t:TK h Q)(x:REs w h es z):REs w Q es z:=x.ind .nil λa b c d Y y=>.cons a b (c.mono t) (d.mono t) y
def REs.length(x:REs w h es z):es.length=z.length:=x.ind (P:=λes z=>es.length=z.length) rfl λy y y y y Y=>dd Pj Y
theorem REs.get(x:REs w h es z):∀{i:ki} {e:MH},es[i]?=aM e->∃k v,z[i]?=aM (k,v)/\e.hash=cj w k/\k.az=true/\RV h e.key k/\RV h e.val v:=
 λ{i e} y=>x.ind (P:=λes z=>∀(i:ki) (e:MH),es[i]?=aM e->∃k v,z[i]?=aM (k,v)/\e.hash=cj w k/\k.az=true/\RV h e.key k/\RV h e.val v) (λY Y y=>nomatch y) (λa b c d Y U i Y y=>by
  cases i with
  | zero=>exact ey y▸⟨_,_,rfl,a,b,c,d⟩
  | succ i=>exact U i _ y) i e y
theorem REs.sG(x:REs w h es z):∀{i:ki} {k v:CV},z[i]?=aM (k,v)->∃e,es[i]?=aM e/\e.hash=cj w k/\k.az=true/\RV h e.key k/\RV h e.val v:=
 λ{i k v} y=>x.ind (P:=λes z=>∀(i:ki) (p:CV×CV),z[i]?=aM p->∃e,es[i]?=aM e/\e.hash=cj w p.1/\p.1.az=true/\RV h e.key p.1/\RV h e.val p.2) (λY Y y=>nomatch y) (λa b c d Y U i Y y=>by
  cases i with
  | zero=>exact ey y▸⟨_,rfl,a,b,c,d⟩
  | succ i=>exact U i _ y) i (k,v) y
end
def ifI{p:Prop}[OS p]{z:Type}{x y:Sem z}{Q:z->ow->Prop}(w:p->rl m A x Q E s)(Y:¬ p->rl m A y Q E s):rl m A (if p then x else y) Q E s:=by
 by_cases h:p
 ·erw[K2 h];exact w h
 ·erw[E1 h];exact Y h
def ed{c:CV}(h:c.az=true):c.hk=true:=(rv.mp h).1
def dO{c:CV}(h:c.az=true):c.depth<=5:=e0 (rv.mp h).2
def lD{c:CV}(h:c.az=true):c.pure=true:=ux (ed h)
def xu{z:cp (CV×CV)}(y:(z.map (·.1)).Nodup){i j:ki}(U:z[i]?=aM (k,v))(V:z[j]?=aM (k,Y)):i=j:=by
 have Q:(z.map (·.1))[i]?=aM k:=by rw[Mg,U];rfl
 have w:(z.map (·.1))[j]?=aM k:=by rw[Mg,V];rfl
 exact(Py (kO.mp Q).1 y).mp (Q.trans w.symm)
def Cn:aw ((k,v)::r) k=aM v:=K2 rfl
def vY(h:a≠k):aw ((a,b)::r) k=aw r k:=E1 h
def Co:bf ((k,x)::r) k v=(k,v)::r:=K2 rfl
def vZ(h:a≠k):bf ((a,b)::r) k v=(a,b)::bf r k v:=E1 h
theorem xv{z:cp (CV×CV)}(Q:(z.map (·.1)).Nodup):∀{i:ki},z[i]?=aM (k,v)->aw z k=aM v:=by
 induction z with
 | nil=>exact λh=>nomatch h
 | cons p r w=>
  intro i h
  have Q:=Mf.mp Q
  cases i with
  | zero=>exact ey h▸Cn
  | succ i=>exact(vY λe:p.1=k=>Q.1 (p9.mpr ⟨_,od (i:=i) h,e.symm⟩)).trans (w Q.2 (i:=i) h)
theorem xw{z:cp (CV×CV)}(h:∀(j:ki) (v:CV),z[j]?≠aM (k,v)):aw z k=none:=by
 induction z with
 | nil=>rfl
 | cons p r Q=>exact(vY λe:p.1=k=>h 0 p.2 (e▸rfl)).trans (Q λj v w=>h (j+1) v w)
theorem kJ{z:cp (CV×CV)}(Q:(z.map (·.1)).Nodup):∀{i:ki},z[i]?=aM (k,x)->bf z k v=z.modify i λp=>(p.1,v):=by
 induction z with
 | nil=>exact λh=>nomatch h
 | cons p r w=>
  intro i h
  have Q:=Mf.mp Q
  cases i with
  | zero=>exact ey h▸Co
  | succ i=>exact(vZ λe:p.1=k=>Q.1 (p9.mpr ⟨_,od (i:=i) h,e.symm⟩)).trans (dd _ (w Q.2 (i:=i) h))
theorem kK{z:cp (CV×CV)}(h:∀(j:ki) (v:CV),z[j]?≠aM (k,v)):bf z k v=z++[(k,v)]:=by
 induction z with
 | nil=>rfl
 | cons p r Q=>exact(vZ λe:p.1=k=>h 0 p.2 (e▸rfl)).trans (dd _ (Q λj v w=>h (j+1) v w))
def HI(x:rr)(_:rt LG×Ub):Sem (O2 (rt LG×Ub)):=do
 let b ← Qa 8 x
 if (!b)=true then pure (.done (aM true,⟨⟩)) else pure (.yield (none,⟨⟩))
def RV.inj{v:rr}{c:CV}(x:RV h v c)(y:RV h v d)(J:c.hk=true)(V:d.hk=true):c=d:=
 x.rec (motive_1:=λv c Q=>c.pure=true->∀d,RV h v d->d.pure=true->c=d) (motive_2:=λO Y Q=>CV.bD Y=true->∀U,RVs h O U->CV.bD U=true->Y=U)
  (λQ Q y Q=>y.v.symm) (λQ p=>ff p) (λQ Q Q Q y Q=>y.v.symm) (λQ Q Q Q y Q=>y.v.symm)
  (λf Q Q g p d y q=>y.v.elim (λe=>ff ((dd CV.pure e).symm.trans q)) λy=>y.elim λl y=>y.elim λL y=>by
   refine i6 f λo t Q n V=>?_
   refine ut y λe w Q z=>?_;obtain⟨a,k,_,A,j⟩:=w
   have T:=(Data.seq.inj (V.symm.trans ((dd Tr (ey (t.symm.trans k))).trans j))).1
   exact(dd CV.tup (g p L (T▸z) ((dd CV.pure e).symm.trans q))).trans e.symm)
  (λQ p=>ff p) (λQ Q y Q=>y.v.symm)
  (λQ Q C b p U y q=>y.v.elim λc y=>y.elim λY y=>by
   refine oAA y λe B N=>?_
   rw[e] at q ⊢
   exact C (dM p) c B (dM q)▸b (dN p) Y N (dN q)▸rfl)
  J d y V
section
variable{prog:Ow}{w:MY}{A:MQ}{E:rr->ow->Prop}{s:ow}
theorem xx{fM:cp rr}{Q:rt LG×Ub->ow->Prop}(h:Q (none,⟨⟩) s)(z:∀v∈fM,∃k:CV,k.az=true/\RV s.heap v k):rl (Lg prog w) A (forIn fM (none,⟨⟩) HI) Q E s:=by
 induction fM with
 | nil=>exact e7 h
 | cons v r Y=>exact(z v fp).elim λk y=>et (ec (sF 8 (cy (dO y.1) (by decide)) (ed y.1) y.2 (Oi rfl (pe (Y λv U=>z v (oo _ U))))))
def yx{fM:cp rr}{Q:LG->ow->Prop}(U:RV s.heap z c)(Y:c.az=true)
(y:∀v∈fM,∃k:CV,k.az=true/\RV s.heap v k)(h:Q false s):rl (Lg prog w) A (XW z fM) Q E s:=by
 unfold XW
 exact ifI (λV=>pe h) λV=>ec (sF 8 (cy (dO Y) (by decide)) (ed Y) U (Oi rfl (ec (xx (pe h) y))))
def Cp{Y:cp (CV×CV)}{Q:rt ki->ow->Prop}{o:Type}{F:ki->rt (rt ki)×o->Sem (O2 (rt (rt ki)×o))}{O:rt (rt ki)×o->Sem (rt ki)}{y:o->rt ki}
(m:(Y.map (·.1)).Nodup)
(R:∀(i:ki) (b:o) (k v:CV) (P:O2 (rt (rt ki)×o)->ow->Prop),Y[i]?=aM (k,v)->cj w k=cj w c->(k≠c->∀U,y U=y b->P (.yield (none,U)) s)->
   (k=c->y b=none->(∀U,y U=aM i->P (.yield (none,U)) s)/\∀U,P (.done (aM (aM i),U)) s)->(k=c->y b=none)->rl (Lg prog w) A (F i (none,b)) P E s)
(t:∀b,Q (y b) s->rl (Lg prog w) A (O (none,b)) Q E s)
(f:∀i b,Q (aM i) s->rl (Lg prog w) A (O (aM (aM i),b)) Q E s)
(g:(∀(j:ki) (v:CV),Y[j]?≠aM (c,v))->Q none s)(V:∀(j:ki) (v:CV),Y[j]?=aM (c,v)->Q (aM j) s) :
  ∀(L:cp ki) (b:o),L.Nodup->(∀i∈L,∃p,Y[i]?=aM p/\cj w p.1=cj w c)->(y b=none->∀j v,Y[j]?=aM (c,v)->j∈L)->(∀j,y b=aM j->j∉L/\∃v,Y[j]?=aM (c,v))->
   rl (Lg prog w) A (forIn L (none,b) F) (λr s=>rl (Lg prog w) A (O r) Q E s) E s:=by
 intro L
 induction L with
 | nil=>
  intro b _ _ n T
  refine e7 (t b ?_)
  cases e:y b with
  | none=>exact g λj v J=>Le (n e j v J)
  | some j=>exact(T j e).2.elim λv N=>V j v N
 | cons x L M=>
  intro b C d n T
  refine oEA (d x fp) λp a S=>?_
  have C:=Mf.mp C
  have D:=λl:p.1=c=>a.trans (dd (λk=>aM (k,p.2)) l)
  have B:=λi W=>d i (oo _ W)
  refine et (R x b p.1 p.2 _ a S (λI U e=>?_) (λl X=>⟨λU e=>?_,λU=>f x U (V x p.2 (D l))⟩) λl=>?_)
  ·refine M U C.2 B (λh j v J=>(ta.mp (n (e▸h) j v J)).resolve_left λq=>I ?_) λj J=>?_
   ·exact(Ra (ey (a.symm.trans (q▸J)))).1
   ·have z:=T j (e▸J);exact⟨λq=>z.1 (oo _ q),z.2⟩
  ·exact M U C.2 B (λh=>nomatch e.symm.trans h) λj J=>ey (e.symm.trans J)▸⟨C.1,p.2,D l⟩
  ·cases e:y b with
   | none=>rfl
   | some j=>exact(T j e).2.elim λv N=>p7 (xu m N (D l)▸fp) (T j e).1
structure FC(prog:Ow)(w:MY)(A:MQ)(E:rr->ow->Prop)(s:ow)(d:LZ)(es:Mv MH)(kvs:cp (CV×CV))(key:rr)(c:CV)(Q:rt ki->ow->Prop):Prop where
 hu:A.units+10<P5
 Cr:RV s.heap key c
 hc:c.az=true
 ob:∃o ep,s.heap.get? d=aM o/\o.data=.dict es ep
 he:REs w s.heap es.toList kvs
 hn:(kvs.map (·.1)).Nodup
 EB:(∀(j:ki) (v:CV),kvs[j]?≠aM (c,v))->Q none s
 EC:∀(j:ki) (v:CV),kvs[j]?=aM (c,v)->Q (aM j) s
section
variable{d:LZ}{es:Mv MH}{U:cp (CV×CV)}{c:CV}{Q:rt ki->ow->Prop}
inductive EnR(w:MY)(s:ow)(es:Mv MH)(i:ki)(k:CV):Prop
 | mk (e:MH) (he:es[i]?=aM e) (hh:e.hash=cj w k) (ok:k.az=true) (rk:RV s.heap e.key k)
def FC.ent(F:FC prog w A E s d es U Y c Q){i:ki}(h:U[i]?=aM p):EnR w s es i p.1:=
 (F.he.sG (k:=p.1) (v:=p.2) h).elim λe y=>.mk e (Mk.symm.trans y.1) y.2.1 y.2.2.1 y.2.2.2.1
def FC.jf(F:FC prog w A E s d es U Y c Q){i:ki}(h:es[i]?=aM e):∃p,U[i]?=aM p/\e.hash=cj w p.1/\p.1.az=true/\RV s.heap e.key p.1:=
 (F.he.get (Mk.trans h)).elim λk y=>y.elim λv y=>⟨(k,v),y.1,y.2.1,y.2.2.1,y.2.2.2.1⟩
def FC.eq(F:FC prog w A E s d es U Y c Q){z:LG->ow->Prop}{u:rr}(V:RV s.heap u k)(y:k.az=true)(q:z (decide (k=c)) s):rl (Lg prog w) A (YC u Y) z v s:=
 pE V F.Cr (lD y) (lD F.hc) (eF (Ls (cy (dO y) (by decide)) _) F.hu) q
def FC.yy(F:FC prog w A E s d es U Y c Q){V:Type}{j:V->ow->Prop}{u:rr}{J:rt rr}{O:ki->LG->ki->Sem V}{v:ki->LG->ki->Sem V}(p:RV s.heap u k)(f:k.az=true)(h:∀n,rl (Lg prog w) A (v n (decide (k=c)) n) j E s) :
  rl (Lg prog w) A (Y4 d J >>= λz=>YC u Y >>= λsame=>Y4 d J >>= λx=>if (x != z)=true then O z same x else v z same x) j E s:=
 F.ob.elim λo y=>y.elim λg y=>ec (WY y.1 y.2 (ec (F.eq p f (ec (WY y.1 y.2 (ifI (λq=>p7 q (by erw[Wt _];exact Lq)) λl=>h g))))))
abbrev Fv(w:MY)(es:Mv MH)(c:CV):cp Nat:=placesWithHash es.size (λi=>es[i]?.map (·.hash)) (cj w c)
def FC.HJ(F:FC prog w A E s d es U Y c Q){J:Type}{f:ki->rt (rt ki)×J->Sem (O2 (rt (rt ki)×J))}{o:rt (rt ki)×J->Sem (rt ki)}{L:J}(V:J->rt ki)(x:V L=none)
(C:∀(i:ki) (b:J) (k:CV) (P:O2 (rt (rt ki)×J)->ow->Prop),EnR w s es i k->cj w k=cj w c->(k≠c->∀O,V O=V b->P (.yield (none,O)) s)->
   (k=c->V b=none->(∀O,V O=aM i->P (.yield (none,O)) s)/\∀O,P (.done (aM (aM i),O)) s)->(k=c->V b=none)->rl (Lg prog w) A (f i (none,b)) P E s)
(l:∀b,Q (V b) s->rl (Lg prog w) A (o (none,b)) Q E s)
(g:∀i b,Q (aM i) s->rl (Lg prog w) A (o (aM (aM i),b)) Q E s):rl (Lg prog w) A (forIn (Fv w es c) (none,L) f >>= o) Q E s:=by
 refine ec (Cp F.hn (λi b k v P t=>C i b k P (F.ent t)) l g F.EB F.EC _ L (PN.sublist filter_sublist) (λi t=>?_) (λn j v T=>?_) λj T=>nomatch x.symm.trans T)
 ·have z:(es[i]?.map (·.hash)==aM (cj w c))=true:=(MC.mp t).2
  cases e:es[i]? with
  | none=>rw[e] at z;exact ff z
  | some N=>
   rw[e] at z
   exact(F.jf e).elim λp y=>⟨p,y.1,y.2.1.symm.trans (ey (MU.mp z))⟩
 ·obtain⟨e,he,B,_,_⟩:=F.ent T
  refine MC.mpr ⟨LI.mpr (On.mp he).1,?_⟩
  exact MU.mpr ((dd (My (·.hash)) he).trans (dd aM B))
def FC.walk(F:FC prog w A E s d es U Y c Q):rl (Lg prog w) A (XR d Y (cj w c) es (Fv w es c)) Q E s:=by
 unfold XR
 refine F.HJ (λv=>none) rfl (λi b k P V j J o f=>?_) (λb h=>pe h) λi b h=>pe h
 obtain⟨e,z,y,O,p⟩:=V
 erw[z]
 refine ifI (λv=>F.yy p O λv=>ifI (λq=>ec (Np (pe ((o (p6 q) rfl).2 _)))) λq=>ec (Np (pe (J (λe=>q (Ln e)) _ rfl)))) λq=>p7 (MU.mpr (y.trans j)) q
def Cs{v:rr}(h:v.isStr x=true):∃t,v=.str x t:=by cases v <;> first | exact ff h | exact⟨_,dd (Tz · _) (MU.mp h)⟩
theorem FC.HK(F:FC prog w A E s d es U Y c Q)(e:c=.str x)(b:Y=.str x t):rl (Lg prog w) A (X2 d Y es x) Q E s:=by
 unfold X2
 cases O:es.findIdx? (·.key.isStr x) with
 | none=>
  refine pe (F.EB λj v L=>?_)
  obtain⟨f,k,_,_,V⟩:=F.ent L
  have z:=Array.findIdx?_eq_none_iff.mp O f (Array.mem_of_getElem? k)
  refine oE ((e▸V:RV s.heap f.key (.str x)).c) λt q=>?_
  rw[q] at z
  exact NP (z.symm.trans (Pi x))
 | some i=>
  obtain⟨J,T,_⟩:=Array.findIdx?_eq_some_iff_getElem.mp O
  have g:=NF J
  refine jy (F.jf g) λp o l C V=>?_
  have y:p.1=c:=by
   refine oE (Cs T) λt q=>?_
   exact(q▸V:RV s.heap (.str x t) p.1).v.trans e.symm
  dsimp only
  erw[g]
  exact F.yy V C λl=>ifI (λl=>ec (Np (pe (F.EC i p.2 (y▸o))))) λq=>p7 (Ln y) q
def FC.fM(F:FC prog w A E s d es U Y c Q):∀v∈(Fv w es c).filterMap (λi=>es[i]?.map (·.key)),∃k:CV,k.az=true/\RV s.heap v k:=λv z=>by
 refine oEA (Qs.mp z) λi J V=>?_
 refine oEA (Me.mp V) λe he j=>?_
 exact(F.jf he).elim λp y=>⟨p.1,y.2.2.1,j▸y.2.2.2⟩
theorem FC.find(F:FC prog w A E s d es U Y c Q):rl (Lg prog w) A (XC d Y (cj w c)) Q E s:=by
 unfold XC
 try with_reducible refine Mc ?_
 refine F.ob.elim λo y=>y.elim λR y=>ec (SY y.1 y.2 ?_)
 extract_lets V fM g N D I
 have p:rl (Lg prog w) A (N false) Q E s:=by
  refine ifI ff λz=>?_
  refine F.HJ id rfl (λi b k P l m f p r=>?_) (λb h=>?_) λi b h=>pe h
  ·obtain⟨e,L,J,T,C⟩:=l
   erw[L]
   refine ifI (λz=>F.yy C T λz=>ifI (λq=>?_) λq=>ec (Np (ifI ff λz=>pe (f (λe=>q (Ln e)) _ rfl)))) λq=>p7 (MU.mpr (J.trans m)) q
   have B:=p6 q
   obtain rfl:b=none:=r B
   exact ifI ff λz=>ec (Np (ifI (λz=>pe ((p B rfl).2 _)) λz=>pe ((p B rfl).1 _ rfl)))
  ·cases b <;> exact pe h
 have f:rl (Lg prog w) A (D ()) Q E s:=ifI (λz=>ec (pe p)) λz=>ec (yx F.Cr F.hc F.fM p)
 clear_value N D
 clear p
 have M:rl (Lg prog w) A (I ()) Q E s:=by
  refine ifI (λz=>F.walk) λz=>?_
  clear_value V fM g
  have O:=F.Cr
  revert O
  cases Y with
  | ref a=>
   refine λO=>ifI (λq=>?_) λz=>f
   refine oEA (NO.mp (Sy.trans q)) λe n j=>?_
   refine oE (Mm.mp n) λi l=>?_
   refine qS (F.he.get l) λk v z J T C z=>?_
   have j:=rv.mp j
   exact p7 (J.trans (dd _ ((MU.mp j.1▸C:RV s.heap (.ref a) k).inj O (ed T) (ed F.hc)))) (RB.mp j.2)
  | _=>exact λz=>f
 clear_value I
 clear f
 have O:=F.Cr
 revert O
 cases Y with
 | str x t=>exact λO=>ifI (λz=>F.HK O.v rfl) λz=>M
 | _=>exact λz=>M
end
def v4{Q:rt ki->ow->Prop}
(O:A.units+10<P5)(V:RV s.heap U c)(p:c.az=true)(f:s.heap.get? d=aM o)(g:o.data=.dict k J)(l:REs w s.heap k.toList z)(L:(z.map (·.1)).Nodup)
(y:(∀(j:ki) (v:CV),z[j]?≠aM (c,v))->Q none s)(Y:∀(j:ki) (v:CV),z[j]?=aM (c,v)->Q (aM j) s) :
  rl (Lg prog w) A (XC d U (cj w c)) Q E s:=FC.find ⟨O,V,p,⟨o,J,f,g⟩,l,L,y,Y⟩
end
def nm(l:cp ki):Str:=⟨⟨l⟩⟩
def PL(h:M7)(a:LZ)(z:Mv rr):Prop:=∃n,h.get? a=aM { cls:=.type "list",dict:=none,data:=.seq z n,slots:=#[] }
def PL.Fw(x:PL h a z):h.IsList a z:=let ⟨n,e⟩:=x;⟨_,e,rfl,n,rfl⟩
def Own(h:M7)(H:CH)(a:LZ):Prop:=
 H.lst a≠none∨H.dct a≠none∨H.cls a≠none∨∃i c o,H.cls i=aM c/\h.get? i=aM o/\o.dict=aM a
def jg(e:MH):rt Str:=match e.key with
 | .str x _=>aM x
 | _=>none
def sH(z:cp MH):Prop:=∀e∈z,∃x t,e.key=.str x t
structure dh(AN:cp Lj)(h:M7)(att:ki->ki->rt CV)(a:LZ)(es:cp MH):Prop where
 dK:sH es
 nd:(es.map jg).Nodup
 sub:∀e∈es,∃x∈AN,jg e=aM x
 at_:∀n x,AN[n]?=aM x->match att n a with
  | some v=>∃e,es.find? (·.key.isStr x)=aM e/\RV h e.val v
  | none=>es.find? (·.key.isStr x)=none
def dZ(o z:P0):Prop:=z=o∨(o.cls=.type "frame"/\∃Q,z={ o with slots:=Q })
def dZ.refl(o:P0):dZ o o:=.inl rfl
def dZ.cls(h:dZ o z):z.cls=o.cls:=by
 rcases h with rfl | ⟨_,Q,rfl⟩ <;> rfl
def dZ.data(h:dZ o z):z.data=o.data:=by
 rcases h with rfl | ⟨_,Q,rfl⟩ <;> rfl
def dZ.trans(x:dZ a b)(y:dZ b c):dZ a c:=by
 rcases y with rfl | ⟨h,z,rfl⟩
 ·exact x
 ·rcases x with rfl | ⟨h',Q,rfl⟩
  ·exact .inr ⟨h,z,rfl⟩
  ·exact .inr ⟨h',z,rfl⟩
def dZ.symm(x:dZ a b):dZ b a:=by
 rcases x with rfl | ⟨h,z,rfl⟩
 ·exact .inl rfl
 ·exact .inr ⟨h,a.slots,rfl⟩
def dZ.eq(h:dZ o z)(n:o.cls≠.type "frame"):z=o:=by
 rcases h with h | ⟨h,_⟩
 ·exact h
 ·exact p7 h n
def xy(o:P0):Prop:=o.cls=.type "frame"/\∃z Q,o.data=.dict z Q
def xy.same(h:xy o)(q:dZ o z):xy z:=⟨q.cls.trans h.1,by erw[q.data];exact h.2⟩
def RoR(z h:M7)(a:ki)(l:cp CV):Prop:=∃o Q n,z.get? a=aM o/\o.cls=.type "list"/\o.data=.seq Q n/\RVs h Q.toList l/\l.length<=szl
def LsR(h:M7)(a:ki)(l:cp CV):Prop:=l.length<=szl/\∃z,PL h a z/\RVs h z.toList l
def DcR(w:MY)(h:M7)(a:ki)(z:cp (CV×CV)):Prop:=(z.map (·.1)).Nodup/\z.length<=szl/\∃Q,h.get? a=aM (Na Q Q.length)/\REs w h Q z
noncomputable abbrev Op:=LZ->P0->Prop
def InR(w:cp Lj)(y:Op)(h:M7)(H:CH)(a c:ki):Prop:=(c=1/\∃o,h.get? a=aM o/\o.cls=.type "set"/\o.dict=none)∨
  ∃z Q n,h.get? a=aM (Nb c z)/\(∀o,¬ y z o)/\H.dct z=none/\h.get? z=aM (Na Q n)/\dh w h H.att a Q
structure av(w:MY)(AN:cp Lj)(os:NG)(h₀:M7)(Pr:Op)(s:ow)(H:CH):Prop where
 os:s.os=os
 gens:s.gens=#[]
 b7:∀b o,Pr b o->∃o',s.heap.get? b=aM o'/\dZ o o'
 old:∀b o,h₀.get? b=aM o->s.heap.get? b=aM o
 base:∀b o,h₀.get? b=aM o->Pr b o
 ro:∀a l,H.ro a=aM l->RoR h₀ s.heap a l
 lst:∀a l,H.lst a=aM l->(∀o,¬ Pr a o)/\LsR s.heap a l
 dct:∀a kvs,H.dct a=aM kvs->(∀o,¬ Pr a o)/\DcR w s.heap a kvs
 ins:∀a c,H.cls a=aM c->(∀o,¬ Pr a o)/\InR AN Pr s.heap H a c
 one:∀a b c d dx,H.cls a=aM c->H.cls b=aM d->s.heap.get? a=aM (Nb c dx)->s.heap.get? b=aM (Nb d dx)->a=b
 att:∀n a,H.att n a≠none->H.cls a≠none
section
variable{w:MY}{os:NG}{Q:M7}{y:Op}{H:CH}
def av.kM(R:av w Y os Q Pr s H)(h:∀b o,y b o->∃U,Pr b U/\dZ o U)(j:∀b o,Q.get? b=aM o->y b o):av w Y os Q y s H where
 os:=R.os
 gens:=R.gens
 b7:=λb o p=>(h b o p).elim λU z=>(R.b7 b U z.1).elim λJ v=>⟨J,v.1,z.2.trans v.2⟩
 old:=R.old
 base:=j
 ro:=R.ro
 lst:=λa l e=>⟨λo p=>(h a o p).elim λU z=>(R.lst a l e).1 U z.1,(R.lst a l e).2⟩
 dct:=λa l e=>⟨λo p=>(h a o p).elim λU z=>(R.dct a l e).1 U z.1,(R.dct a l e).2⟩
 ins:=λa c e=>by
  refine oA (R.ins a c e) λn r=>?_
  refine⟨λo p=>(h a o p).elim λU z=>n U z.1,?_⟩
  rcases r with r | ⟨V,O,k,f,g,L⟩
  ·exact .inl r
  ·exact .inr ⟨V,O,k,f,λo p=>(h V o p).elim λU z=>g U z.1,L⟩
 one:=R.one
 att:=R.att
def frz(s:ow)(H:CH)(b:LZ)(o:P0):Prop:=s.heap.get? b=aM o/\¬ Own s.heap H b
def jF{z:Type}{o:rt z}(h:∀x,o≠aM x):o=none:=Ze.mpr h
def eL{z:Type}{o:rt z}(h:o≠none):∃x,o=aM x:=SQ.mp h
section
variable{c U:ki}
def InR.at(x:InR Y Pr h H a c):∃o,h.get? a=aM o/\(o.cls=.type "set"∨∃U,o=Nb c U):=
 x.elim (λy=>y.2.elim λo z=>⟨o,z.1,.inl z.2.1⟩) λy=>y.elim λU y=>y.elim λes y=>y.elim λn y=>⟨_,y.1,.inr ⟨U,rfl⟩⟩
def InR.dict(x:InR Y Pr h H a c)(v:h.get? a=aM o)(V:o.dict=aM b):(∀o,¬ Pr b o)/\∃es n,h.get? b=aM (Na es n):=
 x.elim (λy=>y.2.elim λk z=>nomatch z.2.2.symm.trans ((dd Uw (ey (z.1.symm.trans v))).trans V)) λy=>y.elim λU y=>y.elim λes y=>y.elim λn y=>
  (show U=b from ey ((dd Uw (ey (y.1.symm.trans v))).trans V))▸⟨y.2.1,es,n,y.2.2.2.1⟩
end
def av.eG(R:av w Y os Q Pr s H)(p:Pr b o):¬ Own s.heap H b:=λh=>
 h.elim (λh=>(eL h).elim λl e=>(R.lst b l e).1 o p) λh=>h.elim (λh=>(eL h).elim λl e=>(R.dct b l e).1 o p) λh=>h.elim (λh=>(eL h).elim λl e=>(R.ins b l e).1 o p)
  λh=>h.elim λi h=>h.elim λc h=>h.elim λz h=>((R.ins i c h.1).2.dict h.2.1 h.2.2).1 o p
def qW{h:M7}{b:ki}(e:h.get? b=aM z)(U:h.get? b=aM o)(v:z.cls=.type n)(V:n≠"tuple"):o.cls≠.type "tuple":=λq=>V (Pe (v.symm.trans ((dd Rb (ey (e.symm.trans U))).trans q)))
def av.yz(R:av w Y os Q Pr s H)(h:Own s.heap H b):∀o,s.heap.get? b=aM o->o.cls≠.type "tuple":=λo U=>
 h.elim (λh=>(eL h).elim λl e=>(R.lst b l e).2.2.elim λk y=>y.1.elim λn z=>qW z U rfl (by decide)) λh=>h.elim (λh=>(eL h).elim λl e=>(R.dct b l e).2.2.2.elim λv y=>qW y.1 U rfl (by decide)) λh=>h.elim
  (λh=>(eL h).elim λc e=>(R.ins b c e).2.at.elim λj y=>y.2.elim (λz=>qW y.1 U z (by decide)) λz=>z.elim λV z=>λq=>nomatch (show OT c=Mw "tuple" from(dd Rb (ey ((z▸y.1:s.heap.get? b=aM (Nb c V)).symm.trans U))).trans q))
  λh=>h.elim λi h=>h.elim λc h=>h.elim λJ h=>((R.ins i c h.1).2.dict h.2.1 h.2.2).2.elim λv z=>z.elim λn z=>qW z U rfl (by decide)
def av.bj(R:av w Y os Q Pr s H):av w Y os Q (frz s H) s H where
 os:=R.os
 gens:=R.gens
 b7:=λb o p=>⟨o,p.1,.refl o⟩
 old:=R.old
 base:=λb o e=>⟨R.old b o e,R.eG (R.base b o e)⟩
 ro:=R.ro
 lst:=λa l e=>⟨λo p=>p.2 (.inl (by erw[e];exact Lm _)),(R.lst a l e).2⟩
 dct:=λa l e=>⟨λo p=>p.2 (.inr (.inl (by erw[e];exact Lm _))),(R.dct a l e).2⟩
 ins:=λa c e=>by
  refine oA (R.ins a c e) λj r=>?_
  refine⟨λo p=>p.2 (.inr (.inr (.inl (by erw[e];exact Lm _)))),?_⟩
  rcases r with r | ⟨U,v,k,z,J,V⟩
  ·exact .inl r
  ·exact .inr ⟨U,v,k,z,λo p=>p.2 (.inr (.inr (.inr ⟨a,c,_,e,z,rfl⟩))),V⟩
 one:=R.one
 att:=R.att
def av.dP(R:av w Y os Q Pr s H):∀b o,Pr b o->∃z,frz s H b z/\dZ o z:=λb o p=>let ⟨z,e,q⟩:=R.b7 b o p;⟨z,⟨e,R.eG p⟩,q⟩
def sI(s:ow)(H:CH)(U:ow):Prop:=∀b o,s.heap.get? b=aM o->¬ Own s.heap H b->∃z,U.heap.get? b=aM z/\dZ o z
def av.keeps(U:av w Y os Q (frz s H) s' z):sI s H s':=λb o e n=>U.b7 b o ⟨e,n⟩
def av.tk(R:av w Y os Q Pr s H)(k:sI s H s'):TK s.heap s'.heap:=by
 rintro a v ⟨o,U,z,r⟩
 refine oEA (k a o U λh=>R.yz h o U z) λV e q=>?_
 rw[q.eq (by erw[z];decide)] at e
 exact⟨o,e,z,r⟩
theorem av.cr(R:av w Y os Q Pr s H)(e:H.getL a=aM l):∃vs,s.heap.IsList a vs/\RVs s.heap vs.toList l/\l.length<=szl:=by
 unfold CH.getL at e
 cases h:H.lst a with
 | some m=>
  rw[h] at e
  cases e
  refine Ey (R.lst a l h) λU z vs p q=>?_
  exact⟨vs,p.Fw,q,z⟩
 | none=>
  rw[h] at e
  refine mc (R.ro a l e) λo vs n p c d r=>?_
  exact⟨vs,⟨o,R.old a o p,c,n,d⟩,r⟩
end
def yA:Mw "dict"≠Mw "tuple":=by decide
def yB:Mw "list"≠Mw "tuple":=by decide
def TK.upd{h z:M7}(Q:h.get? a=aM o)(w:o.cls≠.type "tuple")(Y:∀b,b≠a->z.get? b=h.get? b):TK h z:=λb v y=>
 y.elim λU y=>⟨U,(Y b λe=>w ((dd Rb (ey (Q.symm.trans (e▸y.1)))).trans y.2.1)).trans y.1,y.2⟩
section
variable{w:MY}{os:NG}{Q:M7}{z:Op}{s s':ow}{H:CH}
theorem dh.mono(t:TK h V)(x:dh Y h U a k):dh Y V U a k:=
 ⟨x.dK,x.nd,x.sub,λn y e=>by
  have z:=x.at_ n y e
  revert z
  cases U n a with
  | none=>exact id
  | some v=>exact λz=>z.elim λj q=>⟨j,q.1,q.2.mono t⟩⟩
def TK.aS{h U:M7}(k:∀b o,h.get? b=aM o->U.get? b=aM o):TK h U:=λv v x=>x.elim λo y=>⟨o,k _ o y.1,y.2⟩
section
variable{h':M7}{H':CH}{a c U:ki}
def RoR.ay(t:TK h h')(x:RoR Q h a l):RoR Q h' a l:=x.elim λo x=>x.elim λy x=>x.elim λn x=>⟨o,y,n,x.1,x.2.1,x.2.2.1,x.2.2.2.1.mono t,x.2.2.2.2⟩
def LsR.ay(t:TK h h')(k:∀o,h.get? a=aM o->o.cls=.type "list"->h'.get? a=aM o)(x:LsR h a l):LsR h' a l:=⟨x.1,x.2.elim λv y=>⟨v,y.1.elim λn z=>⟨n,k _ z rfl⟩,y.2.mono t⟩⟩
def DcR.ay(t:TK h h')(k:∀o,h.get? a=aM o->o.cls=.type "dict"->h'.get? a=aM o)(x:DcR w h a v):DcR w h' a v:=⟨x.1,x.2.1,x.2.2.elim λV y=>⟨V,k _ y.1 rfl,y.2.mono t⟩⟩
def InR.ay(t:TK h h')(j:∀o,h.get? a=aM o->o.cls=.type "set"->h'.get? a=aM o)(J:∀U,h.get? a=aM (Nb c U)->h'.get? a=aM (Nb c U))
(kd:∀U V n,h.get? a=aM (Nb c U)->H.dct U=none->h.get? U=aM (Na V n)->dh Y h' H.att a V->H'.dct U=none/\∃v k,h'.get? U=aM (Na v k)/\dh Y h' H'.att a v)(x:InR Y Pr h H a c):InR Y Pr h' H' a c:=
 x.imp (λy=>⟨y.1,y.2.elim λo z=>⟨o,j o z.1 z.2.1,z.2⟩⟩) λy=>y.elim λU y=>y.elim λV y=>y.elim λn y=>
  have z:=kd U V n y.1 y.2.2.1 y.2.2.2.1 (y.2.2.2.2.mono t)
  z.2.elim λv q=>q.elim λk q=>⟨U,v,k,J U y.1,y.2.1,z.1,q.1,q.2⟩
def InR.JX(t:TK h h')(k:∀b o,h.get? b=aM o->h'.get? b=aM o)(x:InR Y Pr h H a c):InR Y Pr h' H a c:=
 x.ay t (λo e y=>k a o e) (λU e=>k a _ e) λU v n y V e q=>⟨V,v,n,k U _ e,q⟩
def InR.jf(x:InR Y Pr h H a c)(k:∀o,h.get? a=aM o->h'.get? a=aM o)(e:h'.get? a=aM (Nb c U)):h.get? a=aM (Nb c U):=
 x.at.elim λo y=>(dd aM (ey ((k o y.1).symm.trans e)))▸y.1
def mi{c U:ki}:(Nb c U).cls≠.type n:=λz=>nomatch z
def Fx:Mw "set"≠Mw "list":=by decide
def yC:Mw "set"≠Mw "dict":=by decide
def qX:Mw "dict"≠Mw "list":=by decide
end
def av.ext(R:av w Y os Q Pr s H)(k:∀b o,s.heap.get? b=aM o->s'.heap.get? b=aM o)(j:s'.os=s.os)(J:s'.gens=s.gens):av w Y os Q Pr s' H:=
 have t:=TK.aS k
 {os:=j.trans R.os
  gens:=J.trans R.gens
  base:=R.base
  b7:=λb o p=>(R.b7 b o p).elim λU y=>⟨U,k b U y.1,y.2⟩
  old:=λb o e=>k b o (R.old b o e)
  ro:=λa l e=>(R.ro a l e).ay t
  lst:=λa l e=>⟨(R.lst a l e).1,(R.lst a l e).2.ay t λo q O=>k a o q⟩
  dct:=λa l e=>⟨(R.dct a l e).1,(R.dct a l e).2.ay t λo q O=>k a o q⟩
  ins:=λa c e=>⟨(R.ins a c e).1,(R.ins a c e).2.JX t k⟩
  one:=λa b c d f v V g L=>R.one a b c d f v V ((R.ins a c v).2.jf (k a) g) ((R.ins b d V).2.jf (k b) L)
  att:=R.att }
def av.toks(R:av w Y os Q Pr s H)(n:ki):av w Y os Q Pr { s with toks:=n } H:=R.ext (λy y e=>e) rfl rfl
def av.mj(R:av w Y os Q Pr s H){U:M7}(k:∀b o,s.heap.get? b=aM o->U.get? b=aM o){b:ki}:Own U H b->Own s.heap H b:=λo=>o.imp id λo=>o.imp id λo=>o.imp id λx=>x.elim λi x=>x.elim λc x=>x.elim λv x=>
 (R.ins i c x.1).2.at.elim λV y=>⟨i,c,v,x.1,(ey ((k i V y.1).symm.trans x.2.1))▸y.1,x.2.2⟩
def av.ED(R:av w Y os Q Pr s H)(h:Own s.heap H b):∃o,s.heap.get? b=aM o:=
 h.elim (λh=>(eL h).elim λl e=>(R.lst b l e).2.2.elim λv y=>y.1.elim λn z=>⟨_,z⟩) λh=>h.elim (λh=>(eL h).elim λl e=>(R.dct b l e).2.2.2.elim λU y=>⟨_,y.1⟩) λh=>h.elim
  (λh=>(eL h).elim λc e=>(R.ins b c e).2.at.elim λo y=>⟨o,y.1⟩) λx=>x.elim λi x=>x.elim λc x=>x.elim λV x=>((R.ins i c x.1).2.dict x.2.1 x.2.2).2.elim λU z=>z.elim λn z=>⟨_,z⟩
def av.iO(R:av w Y os Q Pr s H)(k:∀b o,s.heap.get? b=aM o->s'.heap.get? b=aM o){a:ki}(y:∀o,s.heap.get? a≠aM o):¬ Own s'.heap H a:=λh=>(R.ED (R.mj k h)).elim y
def av.free(R:av w Y os Q Pr s H)(U:∀o,s.heap.get? a≠aM o):H.free a:=
 have k:H.cls a=none:=jF λc e=>(R.ins a c e).2.at.elim λo y=>U o y.1
 {ro:=jF λl e=>(R.ro a l e).elim λo y=>y.elim λV y=>y.elim λV y=>U o (R.old a o y.1)
  lst:=jF λl e=>(R.lst a l e).2.2.elim λV y=>y.1.elim λV z=>U _ z
  dct:=jF λl e=>(R.dct a l e).2.2.2.elim λV y=>U _ y.1
  cls:=k
  att:=λn=>jF λv e=>R.att n a (λq=>nomatch e.symm.trans q) k }
def bH(h:M7)(o:P0):h.get? h.objs.size≠aM o:=λe=>p7 (LX e) (MR _)
def e8{y:Type}(f:ki->rt y)(a:ki)(v:y):upd f a v a=aM v:=K2 rfl
def gu{y:Type}(f:ki->rt y){a b:ki}(v:y)(h:b≠a):upd f a v b=f b:=E1 h
section
variable{s:ow}(U:∀b,b≠a->s'.heap.get? b=s.heap.get? b)
include U
def mM(y:∀o,s.heap.get? a=aM o->o.cls=v):∀b o,s.heap.get? b=aM o->o.cls≠v->s'.heap.get? b=aM o:=λb o e n=>(U b λq=>n (y o (q▸e))).trans e
def eV(v:s'.heap.get? a=aM o)(V:o.cls=.type n){x:ki}(e:s'.heap.get? x=aM (Nb c y)):s.heap.get? x=aM (Nb c y):=(U x λq=>mi ((dd Rb (ey (v.symm.trans (q▸e)))).symm.trans V)).symm.trans e
def av.aD(R:av w Y os Q Pr s H)(J:PL s'.heap a vs)(f:RVs s'.heap vs.toList l)
(g:l.length<=szl)(V:∀o,¬ Pr a o)(L:∀o,s.heap.get? a=aM o->o.cls=.type "list")(T:s'.os=s.os)(C:s'.gens=s.gens):av w Y os Q Pr s' (H.aD a l):=
 have k:=mM U L
 have t:TK s.heap s'.heap:=λb h x=>x.elim λo y=>⟨o,k b o y.1 λz=>p7 (y.2.1.symm.trans z) (by decide),y.2⟩
 {os:=T.trans R.os
  gens:=C.trans R.gens
  base:=R.base
  b7:=λb o p=>(R.b7 b o p).imp λi y=>⟨(U b λq=>V o (q▸p)).trans y.1,y.2⟩
  old:=λb o e=>(U b λq=>V o (q▸R.base b o e)).trans (R.old b o e)
  ro:=λb m e=>(R.ro b m e).ay t
  lst:=λb m e=>by
   by_cases q:b=a
   ·subst q
    exact ey ((e8 H.lst b l).symm.trans e)▸⟨V,g,vs,J,f⟩
   ·have z:=R.lst b m ((gu H.lst l q).symm.trans e)
    exact⟨z.1,z.2.ay t λo e B=>(U b q).trans e⟩
  dct:=λb m e=>⟨(R.dct b m e).1,(R.dct b m e).2.ay t λo q z=>k b o q (z▸qX)⟩
  ins:=λb c e=>⟨(R.ins b c e).1,(R.ins b c e).2.ay t (λo q z=>k b o q (z▸Fx)) (λv q=>k b _ q mi) λv N n B A q y=>⟨A,N,n,k v _ q qX,y⟩⟩
  one:=λb D c d v E j I M=>J.elim λn O=>R.one b D c d v E j (eV U O rfl I) (eV U O rfl M)
  att:=R.att }
def av.HL(R:av w Y os Q Pr s H){j:cp MH}(f:s'.heap.get? a=aM (Na j j.length))(T:REs w s'.heap j v)
(C:(v.map (·.1)).Nodup)(B:v.length<=szl)(g:∀o,¬ Pr a o)(O:∀o,s.heap.get? a=aM o->o.cls=.type "dict")
(apart:∀b c V j n,H.cls b=aM c->s.heap.get? b=aM (Nb c V)->H.dct V=none->s.heap.get? V=aM (Na j n)->V≠a)(N:s'.os=s.os)(A:s'.gens=s.gens):av w Y os Q Pr s' (H.bo a v):=
 have k:=mM U O
 have t:TK s.heap s'.heap:=λb h x=>x.elim λo y=>⟨o,k b o y.1 λz=>p7 (y.2.1.symm.trans z) (by decide),y.2⟩
 {os:=N.trans R.os
  gens:=A.trans R.gens
  base:=R.base
  b7:=λb o p=>(R.b7 b o p).imp λi y=>⟨(U b λq=>g o (q▸p)).trans y.1,y.2⟩
  old:=λb o e=>(U b λq=>g o (q▸R.base b o e)).trans (R.old b o e)
  ro:=λb m e=>(R.ro b m e).ay t
  lst:=λb m e=>⟨(R.lst b m e).1,(R.lst b m e).2.ay t λo q z=>k b o q λe=>qX (e.symm.trans z)⟩
  dct:=λb m e=>by
   by_cases q:b=a
   ·subst q
    exact ey ((e8 H.dct b v).symm.trans e)▸⟨g,C,B,j,f,T⟩
   ·have z:=R.dct b m ((gu H.dct v q).symm.trans e)
    exact⟨z.1,z.2.ay t λo e r=>(U b q).trans e⟩
  ins:=λb c e=>⟨(R.ins b c e).1,(R.ins b c e).2.ay t (λo q z=>k b o q (z▸yC)) (λV q=>k b _ q mi) λV J n q1 O q y=>
   have L:=apart b c V J n e q1 O q
   ⟨(gu H.dct v L).trans O,J,n,(U V L).trans q,y⟩⟩
  one:=λb D c d V E l I M=>R.one b D c d V E l (eV U f rfl I) (eV U f rfl M)
  att:=R.att }
end
def av.bo(R:av w Y os Q Pr s H){es:cp MH}(V:∀b,b≠a->s'.heap.get? b=s.heap.get? b)(k:s'.heap.get? a=aM (Na es es.length))(j:REs w s'.heap es y)
(J:(y.map (·.1)).Nodup)(O:y.length<=szl)(p:∀o,¬ Pr a o)(v:(∀o,s.heap.get? a≠aM o)∨H.dct a≠none)(f:s'.os=s.os)(g:s'.gens=s.gens):av w Y os Q Pr s' (H.bo a y):=by
 refine av.HL V R k j J O p (λo e=>?_) (λb c x es n U U l L q=>?_) f g
 ·rcases v with h | h
  ·exact p7 e (h o)
  ·cases q:H.dct a with
   | none=>exact p7 q h
   | some m=>refine eX (R.dct a m q) λU U U t T U=>?_;rw[T] at e;cases e;rfl
 ·subst q
  rcases v with h | h
  ·exact h _ L
  ·exact h l
end
theorem br{y:Type}{l m:cp y}(h:l.Nodup)(z:∀x∈l,x∈m):l.length<=m.length:=by
 classical
 induction l generalizing m with
 | nil=>exact Lp _
 | cons a l Y=>
  have h:=Mf.mp h
  have Q:a∈m:=z a fp
  have k:=Y (m:=m.erase a) h.2 λx w=>(mem_erase_of_ne (λ(e:x=a)=>h.1 (e▸w))).mpr (z x (oo _ w))
  rw[TC Q] at k
  exact cy (Lw k) (p8 (TN (length_pos_of_mem Q)))
theorem mN{e:MH}:e.key.isStr x=true↔jg e=aM x:=by
 unfold jg
 cases e.key with
 | str y t=>exact MU.trans ⟨dd aM,ey⟩
 | _=>exact⟨λh=>ff h,λh=>nos h⟩
def v5(k:sH z):z.any (·.refKey)=false:=QE.mpr λe Q=>(k e Q).elim λy q=>q.elim λt q=>by
 unfold Uk
 erw[q];exact Lq
section
variable{z:Ow}{w:MY}{s:ow}{K:Rh}
theorem Ct(k:sH y)(x:Lj):getL x y=aM ((y.find? (·.key.isStr x)).map (·.val)):=by
 unfold getL
 cases h:y.find? (·.key.isStr x) with
 | some e=>rfl
 | none=>exact E1 (v5 k▸Lq)
def Fy{Q:Rt->ow->Prop}(X:K.In s.heap)(O:s.heap.get? x=aM (Nb C j))(k:s.heap.get? j=aM (Na V n))(f:sH V)
(g:Oq K (.ref C) "__setattr__"=aM (aM (.builtin "object.__setattr__")))(l:Wz K C=true)(L:XU K C y=aM none)(t:WC K C=true)(T:(S2 y (Qg w.params y) (.str y (s.toks+1)) v V).length<=1000)
(h:∀J:M7,(∀b,b≠j->J.get? b=s.heap.get? b)->J.get? j=aM (Na (S2 y (Qg w.params y) (.str y (s.toks+1)) v V) (putN y V n))->Q () { s with heap:=J,toks:=s.toks+2 }) :
  rl (Lg z w) A (setAttr (.ref x) y v) Q E s:=by
 have I:U8 s.heap x (Nb C j) C (aM (Na V n)):=⟨O,rfl,rfl,k⟩
 refine set_plain X I g (osa_open (s:={ s with toks:=s.toks+1 }) X I l L λb=>?_)
 refine oEA (any_some t) λa B o=>?_
 have e:=putName_dict y (Qg w.params y) (.str y (s.toks+1)) v V n
 have p:(s.heap.update j (Obj.putName y (Qg w.params y) (.str y (s.toks+1)) v)).get? j=aM (Na (S2 y (Qg w.params y) (.str y (s.toks+1)) v V) (putN y V n)):=by
  rw[LN _ k (by erw[e];rfl),e]
 refine ec (pe (ec (ec (Xu O (ec ((looks_clsIn X B).here (s:={ s with toks:=s.toks+1 }) ?_))))))
 erw[o]
 refine pe (a:=aM j) (ec (pe (ec ?_)))
 unfold nsSet
 refine ec (ec (Tn (pe (ec (wpAny_mkText (ec (Xu k ?_)))))))
 have c:(!V.toArray.any (·.key.isStr y)&&V.toArray.any (·.refKey))=false:=by
  (erw[Ng Sy];erw[Ng Sy];erw[O8];erw[v5 f];exact LH (V5 _) rfl)
 dsimp only
 (erw[U0 _ _];erw[c])
 refine wpAny_updatePart k ?_
 refine ec (wpAny_lookBehind p (pastItsLine_dict (by(erw[Pv];erw[Qi]);exact cy T (by decide))) ?_)
 exact pe (h _ (λb N=>MF _ _ (Ma N)) p)
def mO(x:Lj)(t:Tok):(Tz x t).isStr x=true:=Pi x
section
theorem xz(k:cp MH):(S2 x V (.str x t) v k).map jg=if k.any (·.key.isStr x) then k.map jg else k.map jg++[aM x]:=by
 induction k with
 | nil=>rfl
 | cons e r j=>
  show Px jg (if e.key.isStr x=true then⟨e.hash,e.key,v⟩::r else e::S2 x V (.str x t) v r)=if (e.key.isStr x||r.any (·.key.isStr x))=true then jg e::r.map jg else jg e::(r.map jg++[aM x])
  cases e.key.isStr x with
  | true=>rfl
  | false=>
   refine(dd (jg e::·) j).trans ?_
   cases r.any (·.key.isStr x) <;> rfl
theorem sJ{e:MH}(k:cp MH):e∈S2 x V (.str x t) v k->jg e=aM x∨e∈k:=by
 induction k with
 | nil=>exact λh=>.inl (n2.mp h▸rfl)
 | cons d r j=>
  show e∈(if d.key.isStr x=true then⟨d.hash,d.key,v⟩::r else d::S2 x V (.str x t) v r)->_
  by_cases q:d.key.isStr x=true
  ·erw[K2 q]
   exact λh=>(ta.mp h).elim (λh=>.inl (h▸mN.mp q)) λh=>.inr (.tail _ h)
  ·erw[E1 q]
   exact λh=>(ta.mp h).elim (λh=>.inr (h▸fp)) λh=>(j h).imp id (.tail _)
theorem mP(k:cp MH):∃e,(S2 x V (.str x t) v k).find? (·.key.isStr x)=aM e/\e.val=v:=by
 induction k with
 | nil=>exact⟨⟨V,.str x t,v⟩,by rw[S2,P7,mO],rfl⟩
 | cons d r j=>
  show ∃e,Xh _ (if d.key.isStr x=true then⟨d.hash,d.key,v⟩::r else d::S2 x V (.str x t) v r)=aM e/\e.val=v
  cases q:d.key.isStr x with
  | true=>exact⟨⟨d.hash,d.key,v⟩,(find?_cons_of_pos (by exact q)),rfl⟩
  | false=>exact j.elim λe y=>⟨e,(TR (by erw[q];exact Lq)).trans y.1,y.2⟩
theorem sK{v:rr}(h:v.isStr x=true)(n:y≠x):v.isStr y=false:=by
 cases v with
 | str z t=>exact Om.mpr λe=>n (e.symm.trans (MU.mp h))
 | _=>rfl
theorem lV(n:y≠x)(k:cp MH):(S2 x V (.str x t) v k).find? (·.key.isStr y)=k.find? (·.key.isStr y):=by
 induction k with
 | nil=>exact TR (by erw[sK (mO x t) n];exact Lq)
 | cons d r j=>
  show Xh _ (if d.key.isStr x=true then⟨d.hash,d.key,v⟩::r else d::S2 x V (.str x t) v r)=_
  by_cases q:d.key.isStr x=true
  ·rw[K2 q,P7,P7,sK q n]
  ·rw[E1 q,P7,P7,j]
end
variable{os:NG}{Q:M7}{U:Op}{s':ow}{H:CH}
def dh.few(x:dh Y h V a k):k.length<=Y.length:=by
 have:=br (m:=Y.map aM) x.nd λy j=>by
  refine oEA (p9.mp j) λe J v=>?_;subst v
  refine oEA (x.sub e J) λz o q=>?_
  erw[q];exact p9.mpr ⟨z,o,rfl⟩
 simpa using this
def dh.put{V:ki->ki->rt CV}(q:dh Y p J a es)(f:Y.Nodup){n:ki}(g:Y[n]?=aM x)
(C:RV p v c)(b:V n a=aM c)(B:∀k,k≠n->V k a=J k a):dh Y p V a (S2 x l (.str x T) v es) where
 dK:=λe o=>(sJ es o).elim (λz=>by
  unfold jg at z
  revert z
  cases e.key with
  | str y t=>exact λI=>⟨y,t,rfl⟩
  | _=>exact λz=>nos z) (q.dK e)
 nd:=by
  erw[xz _]
  by_cases L:es.any (·.key.isStr x)=true
  ·erw[K2 L];exact q.nd
  ·erw[E1 L]
   refine M8.mpr ⟨q.nd,Mf.mpr ⟨Le,LR⟩,λy j z N e=>L ?_⟩
   refine oEA (p9.mp j) λD o O=>?_
   exact NO.mpr ⟨D,o,mN.mpr (O.trans (e.trans (n2.mp N)))⟩
 sub:=λe o=>(sJ es o).elim (λz=>⟨x,od g,z⟩) (q.sub e)
 at_:=λk y j=>by
  by_cases O:k=n
  ·subst O
   obtain rfl:x=y:=ey (g.symm.trans j)
   erw[b]
   exact(mP es).elim λe z=>⟨e,z.1,z.2.symm▸C⟩
  ·rw[B k O,lV λe:y=x=>O ((Py (kO.mp j).1 f).mp (j.trans ((dd aM e).trans g.symm)))]
   exact q.at_ k y j
def dh.same{v:ki->ki->rt CV}(q:dh Y h V a j)(e:∀k,v k a=V k a):dh Y h v a j:=
 ⟨q.dK,q.nd,q.sub,λk y J=>by erw[e k];exact q.at_ k y J⟩
def Cu:(H.bw n a cv).att n a=aM cv:=(VE (K2 rfl:(H.bw n a cv).att n=upd (H.att n) a cv) a).trans (e8 _ _ _)
def yD{n k b:ki}(h:k≠n):(H.bw n a cv).att k b=H.att k b:=VE (E1 h) b
def yE{a b:ki}(h:b≠a):(H.bw n a cv).att k b=H.att k b:=by
 by_cases e:k=n
 ·subst e;exact(VE (K2 rfl:(H.bw k a cv).att k=upd (H.att k) a cv) b).trans (gu _ _ h)
 ·exact yD e
def av.bw(R:av w Y os Q U s H)(T:Y.Nodup){a:ki}(C:H.cls a=aM c)(O:s.heap.get? a=aM (Nb c V))(f:s.heap.get? V=aM (Na l m))
(J:∀b,b≠V->s'.heap.get? b=s.heap.get? b){n:ki}(P:Y[n]?=aM x){tk:Tok}(N:s'.heap.get? V=aM (Na (S2 x B (.str x tk) v l) (putN x l m)))
(S:RV s.heap v cv)(W:s'.os=s.os)(X:s'.gens=s.gens):av w Y os Q U s' (H.bw n a cv):=by
 have i:=(R.ins a c C).2
 have q2:=(i.dict O rfl).1
 have Z:H.dct V=none:=i.elim (λy=>y.2.elim λo z=>nomatch z.2.1.symm.trans (dd Rb (ey (z.1.symm.trans O)))) λy=>y.elim λD y=>y.elim λA y=>y.elim λm' y=>
  (show D=V from ey (dd Uw (ey (y.1.symm.trans O))))▸y.2.2.1
 have E:∀o,s.heap.get? V=aM o->o.cls=.type "dict":=λo e=>ey (f.symm.trans e)▸rfl
 have k:=mM J E
 have t:TK s.heap s'.heap:=λb us x=>x.elim λo y=>⟨o,k b o y.1 λz=>p7 (y.2.1.symm.trans z) (by decide),y.2⟩
 exact{
  os:=W.trans R.os
  gens:=X.trans R.gens
  base:=R.base
  b7:=λb o p=>(R.b7 b o p).imp λo' y=>⟨(J b λq=>q2 o (q▸p)).trans y.1,y.2⟩
  old:=λb o e=>(J b λq=>q2 o (q▸R.base b o e)).trans (R.old b o e)
  ro:=λb m e=>(R.ro b m e).ay t
  lst:=λb m e=>⟨(R.lst b m e).1,(R.lst b m e).2.ay t λo q z=>k b o q λe=>qX (e.symm.trans z)⟩
  dct:=λb m e=>⟨(R.dct b m e).1,(R.dct b m e).2.ay t λo q ζ=>(J b λz:b=V=>nos (Z.symm.trans (z▸(e:H.dct b=aM m)))).trans q⟩
  ins:=λb d e=>⟨(R.ins b d e).1,(R.ins b d e).2.ay (H:=H) (H':=H.bw n a cv) t (λo q z=>k b o q (z▸yC)) (λV q=>k b _ q mi) λI g m2 L h3 r F=>⟨h3,by
   by_cases j:b=a
   ·subst j
    obtain rfl:I=V:=ey (dd Uw (ey (L.symm.trans O)))
    have z:=Data.dict.inj (dd Tr (ey (r.symm.trans f)))
    obtain rfl:g=l:=dd Array.toList z.1
    exact⟨_,_,N,F.put T P (S.mono t) Cu λk h=>yD h⟩
   ·exact⟨g,m2,(J I λq=>j (R.one b a d c I e C L (q▸O))).trans r,F.same λk=>yE j⟩⟩⟩
  one:=λb b' c d dz j M L h2=>R.one b b' c d dz j M (eV J N rfl L) (eV J N rfl h2)
  att:=λk b e=>by
   by_cases j:b=a
   ·exact λz=>nos ((j▸(z:H.cls b=none):H.cls a=none).symm.trans C)
   ·exact R.att k b (yE (H:=H) (n:=n) (cv:=cv) j▸e) }
def av.JY(R:av w Y os Q U s H){x J:ki}(k:∀b o,s.heap.get? b=aM o->s'.heap.get? b=aM o)(P:∀o,s.heap.get? x≠aM o)(T:∀o,s.heap.get? J≠aM o)
(B:s'.heap.get? x=aM (Nb c J))(N:s'.heap.get? J=aM (Na [] 0))(X:s'.os=s.os)(Z:s'.gens=s.gens):av w Y os Q U s' (H.cR x c):=by
 have V:=R.ext k X Z
 have z:=R.free P
 have A:=R.free T
 have a:∀o,¬ U x o:=λo p=>let ⟨D,e,_⟩:=R.b7 x o p;P D e
 have I:∀o,¬ U J o:=λo p=>let ⟨D,e,_⟩:=R.b7 J o p;T D e
 have j:∀b d,(H.cR x c).cls b=aM d->(b=x/\d=c)∨(b≠x/\H.cls b=aM d):=λb d e=>by
  by_cases q:b=x
  ·subst q
   exact .inl ⟨rfl,by simpa [CH.cR,upd] using e.symm⟩
  ·exact .inr ⟨q,by simpa [CH.cR,upd,q] using e⟩
 exact{
  os:=V.os
  gens:=V.gens
  base:=R.base
  b7:=V.b7
  old:=V.old
  ro:=V.ro
  lst:=V.lst
  dct:=V.dct
  ins:=λb d e=>by
   rcases j b d e with⟨rfl,rfl⟩ | ⟨S,e⟩
   ·exact⟨a,.inr ⟨J,[],0,B,I,A.dct,N,⟨(λC h=>(nomatch h)),LR,(λC h=>(nomatch h)),λn y C=>by
     show match H.att n b with | some v=>_ | none=>_
     erw[z.att n];rfl⟩⟩⟩
   ·exact V.ins b d e
  one:=λb O d M E S m f g=>by
   rcases j b d S with⟨rfl,rfl⟩ | ⟨nb,W⟩ <;> rcases j O M m with⟨rfl,rfl⟩ | ⟨z0,l⟩
   ·rfl
   ·exfalso
    rw[B] at f;cases f
    refine oA (R.ins O M l) λC L=>?_;obtain⟨_,o,q1,q2,_⟩ | ⟨i,r,m',q1,q2,q3,F,q5⟩:=L
    ·have:=k O _ q1;rw[g] at this;cases this;cases q2
    ·have:=k O _ q1;rw[g] at this;cases this;exact T _ F
   ·exfalso
    rw[B] at g;cases g
    refine oA (R.ins b d W) λC t=>?_;obtain⟨_,o,q1,q2,_⟩ | ⟨i,r,m',q1,q2,q3,F,q5⟩:=t
    ·have:=k b _ q1;rw[f] at this;cases this;cases q2
    ·have:=k b _ q1;rw[f] at this;cases this;exact T _ F
   ·exact V.one b O d M E W l f g
  att:=λn b e=>by
   by_cases q:b=x
   ·subst q;show upd H.cls b c b≠none;rw[e8];exact Lm _
   ·show upd H.cls x c b≠none
    erw[gu _ _ q];exact R.att n b e }
def av.JZ(R:av w Y os Q U s H){x:ki}(k:∀b o,s.heap.get? b=aM o->s'.heap.get? b=aM o)(C:∀o,s.heap.get? x≠aM o)
(f:s'.heap.get? x=aM o)(g:o.cls=.type "set")(B:o.dict=none)(N:s'.os=s.os)(a:s'.gens=s.gens):av w Y os Q U s' (H.cR x 1):=by
 have y:=R.ext k N a
 have O:∀o,¬ U x o:=λo p=>let ⟨D,e,_⟩:=R.b7 x o p;C D e
 have v:∀b d,(H.cR x 1).cls b=aM d->(b=x/\d=1)∨(b≠x/\H.cls b=aM d):=λb d e=>by
  by_cases q:b=x
  ·subst q
   exact .inl ⟨rfl,by simpa [CH.cR,upd] using e.symm⟩
  ·exact .inr ⟨q,by simpa [CH.cR,upd,q] using e⟩
 have l:∀d j,s'.heap.get? x≠aM (Nb d j):=λd j e=>by rw[f] at e;cases e;cases g
 exact{
  os:=y.os
  gens:=y.gens
  base:=R.base
  b7:=y.b7
  old:=y.old
  ro:=y.ro
  lst:=y.lst
  dct:=y.dct
  ins:=λb d e=>by
   rcases v b d e with⟨rfl,rfl⟩ | ⟨J,e⟩
   ·exact⟨O,.inl ⟨rfl,o,f,g,B⟩⟩
   ·exact y.ins b d e
  one:=λb L d t j J V T c=>by
   rcases v b d J with⟨rfl,rfl⟩ | ⟨M,J⟩
   ·exact p7 T (l _ _)
   ·rcases v L t V with⟨rfl,rfl⟩ | ⟨I,V⟩
    ·exact p7 c (l _ _)
    ·exact y.one b L d t j J V T c
  att:=λn b e=>by
   by_cases q:b=x
   ·subst q;show upd H.cls b 1 b≠none;rw[e8];exact Lm _
   ·show upd H.cls x 1 b≠none
    erw[gu _ _ q];exact R.att n b e }
def AtV(h:M7)(o:rt CV)(r:rt rr):Prop:=match o with
 | some c=>∃v,r=aM v/\RV h v c
 | none=>r=none
theorem AtV.mono(t:TK h V)(x:AtV h o r):AtV V o r:=by
 cases o with
 | none=>exact x
 | some c=>exact x.elim λv y=>⟨v,y.1,y.2.mono t⟩
structure kP(env:OR)(vm:cp (Lj×ki))(h:M7)(L:ki->rt CV):Prop where
 kind:env.scope.kind=.function
 fN:env.globals=LU
 bi:env.builtins=QO
 ns:∃m,h.Ns env.locals m/\∀x i,(x,i)∈vm->env.kindOf x=aM .local->AtV h (L i) (m x)
 cell:∀x i,(x,i)∈vm->(env.kindOf x=aM .cell∨env.kindOf x=aM .free)->∃a r,env.cells.lookup x=aM a/\h.IsCell a r/\AtV h (L i) r
end
def aQ:Exc->RE
 | .key=>"KeyError"
 | .index=>"IndexError"
def hX(h:M7)(H:CH)(Q:Op)(e:rr)(q:Exc):Prop:=∃a z t,e=.ref a/\(∀o,¬ Q a o)/\h.get? a=aM z/\z.cls=.type (aQ q)/\z.data=.fields #[t,.none,.none,.none,.bool false,.none]/\¬ Own h H a
structure G where
 prog:Ow
 w:MY
 K:Rh
 AN:cp Lj
 nA:ki
 os:NG
 h₀:M7
 mg:Lj->rt rr
 mb:Lj->rt rr
 n:ki
 hd:LG
 Φ:PT
 M:MT
 fs:cp OR
def G.fr(g:G)(fs:cp OR):G:={ g with fs:=fs }
def G.uh(g:G)(b:LG):G:={ g with hd:=b }
def G.dn(g:G)(n:ki)(Φ:PT)(fs:cp OR):G:={ g with n:=n,hd:=true,Φ:=Φ,fs:=fs }
structure OKA(g:G)(A:MQ):Prop where
 handled:g.hd=true->A.handled=none
 units:A.units+200 * g.n+150<P5
 depth:A.depth+10 * g.n+10<T3
 guards:A.guards=aM []
 frames:A.frames=aM g.fs
def Fls(g:G)(Pr:Op):Prop:=∀b∈g.fs.filterMap (·.frame),∃o,Pr b o/\xy o
def aU(env:OR)(vm:cp (Lj×ki))(b:LZ):Prop:=b=env.locals∨∃x i,(x,i)∈vm/\(env.kindOf x=aM .cell∨env.kindOf x=aM .free)/\env.cells.lookup x=aM b
structure Rep(g:G)(Pr:Op)(env:OR)(vm:cp (Lj×ki))(s:ow)(st:St):Prop where
 H:av g.w g.AN g.os g.h₀ Pr s st.H
 L:kP env vm s.heap st.L
 fr:∀b,aU env vm b->∃o,Pr b o
 ofr:Fls g Pr
def kP.ext{Y:M7}(R:kP env w h L)(k:∀b o,h.get? b=aM o->Y.get? b=aM o):kP env w Y L where
 kind:=R.kind
 fN:=R.fN
 bi:=R.bi
 ns:=R.ns.elim λm y=>⟨m,y.1.keeps k,λx i z Q=>(y.2 x i z Q).mono (TK.aS k)⟩
 cell:=λx i z Q=>(R.cell x i z Q).elim λa y=>y.elim λr y=>⟨a,r,y.1,y.2.1.keeps k,y.2.2.mono (TK.aS k)⟩
section
variable{g:G}{w:cp (Lj×ki)}
noncomputable abbrev No:=Exc->St->Prop
variable(g) in
def EOk(A:MQ)(z:Op)(env:OR)(w:cp (Lj×ki))(X:No)(E:rr->ow->Prop):Prop:=
 ∀q st',X q st'->A.handled=none/\∀e s',hX s'.heap st'.H z e q->Rep g z env w s' st'->E e s'
variable(g) in
def POk(Y:Op)(env:OR)(w:cp (Lj×ki))(Q:Ps)(P:rr->ow->Prop):Prop:=
 ∀v c y z,RV y.heap v c->Rep g Y env w y z->Q c z->P v y
variable(g) in
def ES(env:OR)(w:cp (Lj×ki))(y:CE)(t:Sem rr):Prop:=
 ∀(A:MQ) (z:Op) (s:ow) (st:St) (Q:Ps) (X:No) (P:rr->ow->Prop) (E:rr->ow->Prop),OKA g A->Rep g z env w s st->wpE g.Φ g.M y st Q X->
  POk g z env w Q P->EOk g A z env w X E->rl (Lg g.prog g.w) A t P E s
variable(g) in
def TS(env:OR)(w:cp (Lj×ki))(U:CE)(t:Sem LG):Prop:=
 ∀(A:MQ) (y:Op) (s:ow) (st:St) (Q:Ps) (X:No) (P:LG->ow->Prop) (E:rr->ow->Prop),OKA g A->Rep g y env w s st->
  wpE g.Φ g.M U st Q X->
  (∀c Y z,Rep g y env w Y z->Q c z->∃b,aL z.H c=aM b/\P b Y)->
  EOk g A y env w X E->rl (Lg g.prog g.w) A t P E s
def Fls.bj{H:CH}(F:Fls g Q)(R:av g.w g.AN g.os g.h₀ Q s H):Fls g (frz s H):=λb y=>
 (F b y).elim λo p=>(R.dP b o p.1).elim λz q=>⟨z,q.1,p.2.same q.2⟩
def Rep.bj{st:St}(R:Rep g z env w s st):Rep g (frz s st.H) env w s st:=⟨R.H.bj,R.L,λb Q=>(R.fr b Q).elim λo p=>(R.H.dP b o p).imp λy q=>q.1,R.ofr.bj R.H⟩
def hX.d8{H:CH}{q:Exc}(x:hX h H (frz s Q) e q)(R:av g.w g.AN g.os g.h₀ Y s Q):hX h H Y e q:=by
 refine uv x λa U t v V k=>?_
 exact⟨a,U,t,v,λo p=>(R.dP a o p).elim λy z=>V y z.1,k⟩
def Rep.d8{st:St}(R:Rep g Q env w s st)(y:Rep g (frz s st.H) env w s' z):Rep g Q env w s' z:=
 ⟨y.H.kM R.H.dP R.H.base,y.L,R.fr,R.ofr⟩
def Rep.toks{st:St}(R:Rep g z env w s st)(k:ki):Rep g z env w { s with toks:=k } st:=⟨R.H.toks k,R.L.ext λQ Q e=>e,R.fr,R.ofr⟩
def kP.ay{env:OR}{w:cp (Lj×ki)}{h':M7}(R:kP env w h L)(k:∀b o,aU env w b->h.get? b=aM o->∃y,h'.get? b=aM y/\dZ o y)(t:TK h h'):kP env w h' L where
 kind:=R.kind
 fN:=R.fN
 bi:=R.bi
 ns:=by
  refine oEA R.ns λm Y q=>?_;obtain⟨o,p,f,j,l,r⟩:=Y
  refine oEA (k _ o (.inl rfl) j) λy Q J=>?_
  exact⟨m,⟨y,p,f,Q,J.data.trans l,r⟩,λx i v V=>(q x i v V).mono t⟩
 cell:=λx i v V=>by
  refine aX (R.cell x i v V) λa r O U q=>?_;obtain⟨o,j,z⟩:=U
  refine oEA (k a o (.inr ⟨x,i,v,V,O⟩) j) λy Q J=>?_
  exact⟨a,r,O,⟨y,Q,J.data.trans z⟩,q.mono t⟩
def av.same{w:MY}{os:NG}{H:CH}(R:av w j os Q V s H)(f:av w j os Q V J H')(p:V b k)(e:s.heap.get? b=aM o):∃z,J.heap.get? b=aM z/\dZ o z:=by
 refine oEA (R.b7 b k p) λO y Y=>?_
 rw[e] at y;cases y
 refine oEA (f.b7 b k p) λz U v=>?_
 exact⟨z,U,Y.symm.trans v⟩
def Rep.of{st:St}(R:Rep g z env w s st)(y:av g.w g.AN g.os g.h₀ z s' Q)(t:TK s.heap s'.heap):Rep g z env w s' { st with H:=Q }:=
 ⟨y,R.L.ay (λb o hb e=>by
  refine oE (R.fr b hb) λY p=>?_
  exact R.H.same y p e) t,R.fr,R.ofr⟩
def ES.run(h:ES g env w V t){st:St}{P:rr->ow->Prop}{E:rr->ow->Prop}
(j:OKA g A)(R:Rep g Y env w s st)(J:wpE g.Φ g.M V st Q X)
(o:∀v c s' z,RV s'.heap v c->Rep g Y env w s' z->sI s st.H s'->TK s.heap s'.heap->Q c z->P v s')
(k:∀q z,X q z->A.handled=none/\∀e s',hX s'.heap z.H Y e q->Rep g Y env w s' z->E e s'):rl (Lg g.prog g.w) A t P E s:=
 h A (frz s st.H) s st Q X P E j R.bj J (λv c s' z O y U=>o v c s' z O (R.d8 y) y.H.keeps (R.H.tk y.H.keeps) U)
  λq z U=>⟨(k q z U).1,λe s' p y=>(k q z U).2 e s' (p.d8 R.H) (R.d8 y)⟩
end
inductive xA(K:Rh)(C:ki)(x:Lj):rt CV->Prop
 | int {i:Nj} {t:Tok}:Oq K (.ref C) x=aM (aM (.int i t))->xA K C x (aM (.int i))
 | no {HM:rt rr}:Oq K (.ref C) x=aM HM->noGet K HM=true->xA K C x none
theorem xA.any{K:Rh}(h:xA K C x r):∃z,Oq K (.ref C) x=aM z/\noGet K z=true:=by
 cases h with
 | int h=>exact⟨_,h,rfl⟩
 | no h k=>exact⟨_,h,k⟩
structure HN(K:Rh)(AN:cp Lj)(nA:ki)(C:ki):Prop where
 sa:Oq K (.ref C) "__setattr__"=aM (aM (.builtin "object.__setattr__"))
 ga:Oq K (.ref C) "__getattribute__"=aM (aM (.builtin "object.__getattribute__"))
 gt:Oq K (.ref C) "__getattr__"=aM none
 po:Wz K C=true
 hd:WC K C=true
 bool:Oq K (.ref C) "__bool__"=aM none
 J0:makesIn K C=true
 init:Oq K (.ref C) "__init__"=aM (aM (.ref (gq C)))
 HO:To K (.ref (gq C))=aM (.type "function")
 ay:RA K (.ref C)=true
 att:∀n x,AN[n]?=aM x->n<nA->XU K C x=aM none/\Yo.contains x=false/\xA K C x (fL C n)
structure Tab(K:Rh)(AN:cp Lj)(nA:ki)(M:MT)(h₀:M7):Prop where
 nd:AN.Nodup
 few:AN.length<=900
 cls:∀C,bn C=true->HN K AN nA C
 len:∀C,cq C=true->Oq K (.ref C) "__len__"=aM none
 Cv:∀C m f,M C m=aM f->∃x,AN[m]?=aM x/\Oq K (.ref C) x=aM (aM (.ref f))/\To K (.ref f)=aM (.type "function")
 J1:∃o,h₀.get? Pc=aM o
def pG{C:ki}(h:cq C=true):bn C=true:=OW.mpr ((by decide:∀x∈[135,427],x∈Fp) C (OW.mp h))
section
variable{z:Ow}{w:MY}{s:ow}{K:Rh}{os:NG}{U:Op}{H:CH}
def av.inK(R:av w Y os y U s H)(X:K.In y):K.In s.heap:=X.keeps R.old
def av.yF(R:av w Y os y U s H){a:ki}(j:H.cls a=aM c)(J:bn c=true):(∀o,¬ U a o)/\∃v k n,s.heap.get? a=aM (Nb c v)/\(∀o,¬ U v o)/\H.dct v=none/\s.heap.get? v=aM (Na k n)/\dh Y s.heap H.att a k:=by
 refine oA (R.ins a c j) λO Q=>?_;obtain⟨rfl,_⟩ | r:=Q
 ·exact p7 J (by decide)
 ·exact⟨O,r⟩
def av.mQ(R:av w Y os y U s H)(T:Tab K Y V M y)(h:∀o,¬ U a o):(a==Pc)=false:=by
 refine Om.mpr λe=>?_
 refine oE T.J1 λo Q=>?_
 exact h o (e▸R.base _ o Q)
def o8(j:(d==Pc)=false)(J:s.heap.get? d=aM (Na k n)){R:rr->ow->Prop}(h:R (.int k.length s.toks) { s with toks:=s.toks+1 }) :
  rl (Lg z w) A (PB.«dict.__len__» ⟨[.ref d],[]⟩) (λQ o=>∃v,Q=Fin.done (Flow.ret v)/\R v o) E s:=by
 show rl _ _ (dictSize d >>= _) _ _ s
 unfold dictSize
 refine ec (ec (SY J rfl (pe ?_)))
 show rl _ _ (Xq d >>= _) _ _ s
 refine ec (wpAny_pendingCount_other j ?_)
 refine ec (Vw (pe ⟨_,rfl,?_⟩))
 (erw[Ue _];erw[Pv]);exact h
def o9(O:(d==Pc)=false)(j:s.heap.get? d=aM (Na v n))(J:v.length<=szl){Q:rr->ow->Prop}(h:Q (.int v.length (s.toks+1)) { s with toks:=s.toks+1+1 }) :
  rl (Lg z w) A (PB.«len» ⟨[.ref d],[]⟩) (λk p=>∃r,k=.done (.ret r)/\Q r p) E s:=by
 have o:s.TypeIs (.ref d) "dict":=⟨_,j,rfl⟩
 unfold szl at J
 unfold PB.«len»
 refine ec (m:=oneArg "len" _) (pe ?_)
 refine ec (m:=UY (.ref d) (Li "__len__")) (Nh (name:=Li "__len__") o Rx
  (ML Rx o F.entry_dict_len (o8 O j ?_) (F.args_dict_len_1 _)))
 show rl _ _ _ _ _ { s with toks:=s.toks+1 }
 refine ec (Mc (pe ?_))
 refine ec (Ye ?_)
 show rl _ _ (if ((v.length:ki):Nj)<0 then _ else _) _ _ _
 erw[E1 (O4.mpr (Ms _))]
 show rl _ _ (if ((v.length:ki):Nj)≥2 ^ 63 then _ else _) _ _ _
 erw[E1 (Po.mpr (Sg (NW.mpr J) (by decide)))]
 exact ec (Vw (pe ⟨_,rfl,h⟩))
theorem yG(T:(d==Pc)=false)(L:s.heap.get? d=aM (Na v n))(x:v.length<=szl){Q:LG->ow->Prop}(h:Q (!v.isEmpty) { s with toks:=s.toks+1+1 }) :
  rl (Lg z w) A (Q8 (.ref d)) Q E s:=by
 have j:((v.length:Nj) != 0)=!v.isEmpty:=by
  cases v with
  | nil=>rfl
  | cons a t=>exact RB.mpr λe=>MK _ (UN.mp e)
 have l:s.TypeIs (.ref d) "dict":=⟨_,L,rfl⟩
 have J:rl (Lg z w) A (runValue (.builtin "len" ⟨[.ref d],[]⟩)) (λr k=>r=.int v.length (s.toks+1)/\Q (!v.isEmpty) k) E s:=by
  refine TV (Pt WD ?_)
  erw[O0 Wy _]
  exact OD (o9 (Q:=λr k=>r=.int v.length (s.toks+1)/\Q (!v.isEmpty) k) T L x ⟨rfl,h⟩)
   (λc k o=>by refine oEA o λr O p=>?_;subst O;exact p) λf f e=>e
 unfold Q8
 first
  | refine ec (UH (name:=Li "__bool__") l Yk ?_)
  | refine ec (pe (ec (UH (name:=Li "__bool__") l Yk ?_)))
 first
  | refine ec (Oh (name:=Li "__len__") l Rx.lookup ?_)
  | refine ec (pe (ec (Oh (name:=Li "__len__") l Rx.lookup ?_)))
 first
  | exact ec (OD J (λr k o=>by refine oA o λg p=>?_;subst g;exact pe (j▸p)) λf f e=>e)
  | exact ec (pe (ec (OD J (λr k o=>by obtain⟨rfl,p⟩:=o;exact pe (j▸p)) λf f e=>e)))
def yH{Q:LG->ow->Prop}(X:K.In s.heap)(I:U8 s.heap x v C k)(j:Oq K (.ref C) "__bool__"=aM none)(J:Oq K (.ref C) "__len__"=aM none)
(h:Q true s):rl (Lg z w) A (Q8 (.ref x)) Q E s:=by
 unfold Q8
 refine ec (m:=UY (.ref x) (Li "__bool__")) (ec (ec (I.type.here ((UU X j).here (pe ?_)))))
 refine ec (ec (I.type.here ((UU X J).here ?_)))
 exact pe h
def av.Fz(R:av w Y os y U s H){a:ki}(e:H.dct a=aM Q):∃v,s.heap.get? a=aM (Na v v.length)/\REs w s.heap v Q/\v.length<=szl/\v.length=Q.length:=by
 refine eX (R.dct a Q e) λj j z v J k=>?_
 exact⟨v,J,k,by erw[k.length];exact z,k.length⟩
theorem mR{Q v:Type}{l:cp Q}{m:cp v}(h:l.length=m.length):l.isEmpty=m.isEmpty:=by
 cases l with
 | nil=>exact(Mt.mpr (length_eq_zero_iff.mp h.symm)).symm
 | cons a l=>cases m with
  | nil=>exact nomatch h
  | cons b m=>rfl
theorem Cw{H:CH}(h:aL H (.ref a)=aM b){Z:LG->Prop}(v:∀l,H.getL a=aM l->Z (!l.isEmpty))(k:∀Q,H.dct a=aM Q->Z (!Q.isEmpty))(j:∀c,H.cls a=aM c->cq c=true->Z true):Z b:=by
 have J:∀(o:rt (cp CV)) (d:rt (cp (CV×CV))) (c:rt ki),(o.elim (d.elim (c.bind λc=>if cq c then aM true else none) λQ=>aM (!Q.isEmpty)) λl=>aM (!l.isEmpty))=aM b->
   (∀l,o=aM l->Z (!l.isEmpty))->(∀Q,d=aM Q->Z (!Q.isEmpty))->(∀O,c=aM O->cq O=true->Z true)->Z b:=by
  intro o d c h v k j
  cases o with
  | some l=>exact ey h▸v l rfl
  | none=>
   cases d with
   | some Q=>exact ey h▸k Q rfl
   | none=>
    cases c with
    | none=>exact nos h
    | some c=>exact if p:cq c=true then ey ((K2 p).symm.trans h)▸j c rfl p else nos ((E1 p).symm.trans h)
 exact J _ _ _ h v k j
def Cx{x:Lj}(v:(if x.cps.size<2 ^ 30 then aM (x.cps.size != 0) else none)=aM b){Q:LG->ow->Prop}(h:∀k,Q b { s with toks:=k }):rl (Lg z w) A (Q8 (.str x t)) Q E s:=by
 by_cases q:x.cps.size<2 ^ 30
 ·cases ey ((K2 q).symm.trans v)
  have e:(((x.cps.size:ki):Nj) != 0)=(x.cps.size != 0):=by
   by_cases q:x.cps.size=0
   ·erw[q];rfl
   ·erw[RB.mpr q];exact RB.mpr λe=>q (UN.mp e)
  exact P.truthy_str (Po.mpr (O6 (MP.mpr q) (by decide))) (e.symm▸h _)
 ·exact nos ((E1 q).symm.trans v)
def v6{Q:Mv rr}{n:ki}(h:Q.toList.length=n)(z:n<=szl):Q.size<2 ^ 30:=by
 exact eF (cy (p8 (Oe.symm.trans h)) z) (by decide)
def sL{Q:Mv rr}{l:cp CV}(h:Q.toList.length=l.length):Q.isEmpty=l.isEmpty:=Array.isEmpty_toList.symm.trans (mR h)
def Cy(X:K.In y)(T:Tab K Y V M y)(R:av w Y os y U s H)(g:aL H (.ref a)=aM b){Q:LG->ow->Prop}
(h:∀k,Q b { s with toks:=k }):rl (Lg z w) A (Q8 (.ref a)) Q E s:=by
 refine Cw g (Z:=λb=>(∀k,Q b { s with toks:=k })->rl (Lg z w) A (Q8 (.ref a)) Q E s) (λl e h=>?_) (λj e h=>?_) (λc e p h=>?_) h
 ·refine aA (R.cr e) λt v J o=>?_
  exact wpAny_truthy_list v (O6 (MP.mpr (v6 J.length o)) (by decide)) (sL J.length▸h _)
 ·refine jy (R.Fz e) λj v J o O=>?_
  exact yG (R.mQ T (R.dct a _ e).1) v o (mR O▸h _)
 ·refine fQ (R.yF e (pG p)) λf L j n v f f O f=>?_
  exact yH (R.inK X) (⟨v,rfl,rfl,O⟩:U8 s.heap a (Nb c L) c (aM (Na j n))) (T.cls c (pG p)).bool (T.len c p) (h s.toks)
def jG(X:K.In y)(T:Tab K Y V M y)(R:av w Y os y U s H)(o:RV s.heap v c)(j:aL H c=aM b){Q:LG->ow->Prop}
(h:∀k,Q b { s with toks:=k }):rl (Lg z w) A (Q8 v) Q E s:=by
 cases o with
 | none=>exact truthy_none (ey j▸h s.toks)
 | bool x=>exact PR (ey j▸h s.toks)
 | int i t=>exact P.truthy_int (ey j▸h s.toks)
 | str x t=>exact Cx j h
 | tup O p J=>exact truthy_tuple O (O6 (MP.mpr (v6 J.length p)) (by decide)) (sL J.length▸ey j▸h _)
 | ref a=>exact Cy X T R j h
end
structure G.Ok(g:G):Prop where
 X:g.K.In g.h₀
 gl:g.h₀.Ns LU g.mg
 bl:g.h₀.Ns QO g.mb
 nolimit:g.h₀.NoLimit
 builtins:∀x:Lj,x≠"__name__"->g.mb x=UZ x
 T:Tab g.K g.AN g.nA g.M g.h₀
section
variable{g:G}{env:OR}{vm:cp (Lj×ki)}
def ES.HP:ES g env vm (.c (.int i)) (Mb (.Constant (.int i) k Q) env):=
 λz z z z z z z z z R w y z=>wpAny_Constant_int (y _ _ _ _ (.int i _) (R.toks _) w)
def ES.FA:ES g env vm (.c .none) (Mb (.Constant .none k Q) env):=
 λz z z z z z z z z R w y z=>wpAny_Constant_none (y _ _ _ _ .none R w)
def ES.FB:ES g env vm (.c (.bool b)) (Mb (.Constant (.bool b) k Q) env):=
 λz z z z z z z z z R w y z=>wpAny_Constant_bool (y _ _ _ _ (.bool b) R w)
def ES.HQ:ES g env vm (.c (.str x)) (Mb (.Constant (.str x) k Q) env):=
 λz z z z z z z z z R w y z=>V6 (y _ _ _ _ (.str x _) (R.toks _) w)
def ES.v(k:(x,i)∈vm)(z:env.kindOf x=aM .local∨env.kindOf x=aM .cell∨env.kindOf x=aM .free)(p:(x==Li "__debug__")=false)(f:(x==Li "__classdict__")=false) :
  ES g env vm (.v i) (Mb (.Name x Y) env):=by
 intro A t s st Q X P E T R l U c
 refine oEA l λv j V=>?_
 refine wpAny_Name ?_ p
 rcases z with z | z
 ·refine oEA R.L.ns λm L q=>?_
  exact(j▸q x i k z:AtV s.heap (aM v) (m x)).elim λu y=>Vx R.L.kind z L y.1 (U _ _ _ _ y.2 R V)
 ·refine aX (R.L.cell x i k z) λa r J o q=>?_
  refine oEA (j▸q:AtV s.heap (aM v) r) λu w O=>?_;subst w
  exact z.elim (λz=>VV R.L.kind z J o (U _ _ _ _ O R V)) λz=>wpAny_loadName_free R.L.kind z J o (U _ _ _ _ O R V) f
def Rep.mg{st:St}(R:Rep g z env vm s st)(O:g.Ok):s.heap.Ns LU g.mg:=O.gl.keeps R.H.old
def Rep.mb{st:St}(R:Rep g z env vm s st)(O:g.Ok):s.heap.Ns QO g.mb:=O.bl.keeps R.H.old
def qY(O:g.Ok){st:St}(R:Rep g Q env vm s st){P:rr->ow->Prop}
(w:env.kindOf x=aM .globalImplicit)(y:(x==Li "__debug__")=false)(Y:P9 g.K LU x=aM (aM v))(h:P v s):rl (Lg g.prog g.w) A (Mb (.Name x z) env) P E s:=
 Td R.L.kind w (loadGlobal_global (show s.heap.Ns env.globals g.mg from R.L.fN▸R.mg O) (mg_of O.X O.gl Y) h) y
def bT(O:g.Ok){st:St}(R:Rep g Q env vm s st){P:rr->ow->Prop}
(w:env.kindOf x=aM .globalImplicit)(y:(x==Li "__debug__")=false)(Y:x≠"__name__")(U:P9 g.K LU x=aM none)(V:UZ x=aM v)(h:P v s) :
  rl (Lg g.prog g.w) A (Mb (.Name x z) env) P E s:=
 Td R.L.kind w (loadGlobal_builtin (show s.heap.Ns env.globals g.mg from R.L.fN▸R.mg O) (mg_none_of O.X O.gl U) (show s.heap.Ns env.builtins g.mb from R.L.bi▸R.mb O)
  ((O.builtins x Y).trans V) h) y
def ES.fN{v:rr}(O:g.Ok)(w:env.kindOf x=aM .globalImplicit)(y:(x==Li "__debug__")=false)(Y:P9 g.K LU x=aM (aM v))(U:∀h,RV h v c) :
  ES g env vm (.c c) (Mb (.Name x Q) env):=
 λz z z z z z z z z R V k z=>qY O R w y Y (k _ _ _ _ (U _) R V)
def ex5{z:Type}(e:LF)(st Q:z)(c:cp LF->z)(nm:Lj->z)(w:cp LF->z)(d:z):z:=match e with
 | .Starred _ _=>st
 | .Slice _ _ _ _=>Q
 | .Call _ as _ _=>c as
 | .Name x _=>nm x
 | .Tuple y _ _=>w y
 | _=>d
def bU(e:LF):Bool:=ex5 e true true (λas=>!as.isEmpty) (λz=>true) (λz=>true) true
set_option tactic.hygienic true in
theorem v7(h:bU o=true):XT o Q env z=z:=by
 cases o
 case Call f as w pos=>
  cases as with
  | nil=>cases h
  | cons a as=>cases f <;> rfl
 all_goals rfl
def yI(z:LF)(Q:Lj)(w:QC):Mb (.Attribute z Q w) env=(do
  let o ← XT z Q env (Mb z env)
  Wk w.atName
  let r ← Q1 [o] (X1 o Q true)
  T4 z o r
  pure r):=by with_unfolding_all rfl
def xB(z:RV h v c):handedIn v=true:=by cases z <;> rfl
def pH(k:sH z)(n:ki)(x:Lj):lookIn x (Na z n)=aM ((z.find? (·.key.isStr x)).map (·.val)):=Ct k x
def yJ{H:CH}{n:ki}(h:i5 H c n=aM r){Z:CV->Prop}(f:∀a C,H.cls a=aM C->bn C=true->(H.att n a).elim (fL C n) aM=aM r->Z (.ref a)):Z c:=
 CV.qT (R:=(·=aM r)) (P:=Z) nos h λa h=>(MM.mp h).elim λC y=>if q:bn C=true then f a C y.1 q ((K2 q).symm.trans y.2) else nos ((E1 q).symm.trans y.2)
def v8(O:g.Ok){H:CH}(R:av g.w g.AN g.os g.h₀ T s H){n:ki}(J:g.AN[n]?=aM x)(B:n<g.nA)(y:RV s.heap v c)(Q:i5 H c n=aM r)
{P:rr->ow->Prop}(h:∀u k,RV s.heap u r->P u { s with toks:=k }):rl (Lg g.prog g.w) A (X1 v x b) P E s:=by
 refine yJ Q (Z:=λc=>RV s.heap v c->rl (Lg g.prog g.w) A (X1 v x b) P E s) (λa C N p Q y=>?_) y
 obtain rfl:v=.ref a:=y.c
 refine fQ (R.yF N p) λV D M m d V V i f=>?_
 have Y:=O.T.cls C p
 refine oAA (Y.att n x J B) λV j w=>?_
 have I:U8 s.heap a (Nb C D) C (aM (Na M m)):=⟨d,rfl,rfl,i⟩
 have l:=pH f.dK m x
 have U:=f.at_ n x J
 cases L:H.att n a with
 | some z=>
  rw[L] at Q U
  obtain rfl:z=r:=ey Q
  refine oEA U λe F y=>?_
  refine oEA w.any λt S W=>?_
  exact Y3 (R.inK O.X) I Y.ga (findObj_own Y.hd S W (l.trans (dd (λo=>aM (My UO o)) F))) (xB y) (h _ _ y)
 | none=>
  rw[L] at Q U
  have Q:fL C n=aM r:=Q
  rw[Q] at w
  obtain⟨X⟩:=w
  exact Y3 (R.inK O.X) I Y.ga (findObj_cls Y.hd X rfl rfl j (l.trans (dd (λo=>aM (My UO o)) U))) rfl (h _ _ (.int _ _))
def ES.at{n:ki}(O:g.Ok)(he:ES g env vm y (Mb e env))(U:g.AN[n]?=aM x)(V:n<g.nA)(j:bU e=true):ES g env vm (.at y n) (Mb (.Attribute e x w) env):=by
 intro A Pr s st Q X P E J R o p f
 (rewrite[yI];erw[v7 j])
 refine ec (he A Pr s st _ X _ E J R o (λv c s' st' l Y L=>?_) f)
 refine oEA L λr t z=>?_
 refine ec (O1 (ec (Mc (v8 O Y.H U V l t λu k T=>?_))))
 exact ec (Vy (pe (p _ _ _ _ T (Y.toks k) z)))
end
def REs.append(x:REs w h Q z)(y:REs w h fs lvs):REs w h (Q++fs) (z++lvs):=
 x.ind (P:=λQ z=>REs w h (Q++fs) (z++lvs)) y λa b c d U Y=>.cons a b c d Y
theorem REs.modify(y:RV h v c)(x:REs w h Q z):∀i,REs w h (Q.modify i λe=>{ e with val:=v }) (z.modify i λp=>(p.1,c)):=
 x.ind (P:=λQ z=>∀i,REs w h (Q.modify i λe=>{ e with val:=v }) (z.modify i λp=>(p.1,c))) (λi=>by cases i <;> exact .nil) λa b q d x Y i=>by
  cases i with
  | zero=>exact .cons a b q y x
  | succ i=>exact .cons a b q d (Y i)
section
variable{w:MY}{A:MQ}{E:rr->ow->Prop}{s:ow}
def jH{a n L:ki}(h:a+n<L)(e:Oc m n=true):a+m<L:=eF (Ls (e0 e) a) h
def mS{A:MQ}{L:ki}(h:A.units+20<L):A.in1.units+10<L:=eF (cy (p8 (NV A.units 1 10)) (Ls (by decide) _)) h
def qZ{J:cp MH}{Q:rt rr->ow->Prop}
(O:A.units+10<P5)(y:RV s.heap V c)(o:c.az=true)(p:s.heap.get? d=aM (Na J J.length))(f:REs w s.heap J z)(g:(z.map (·.1)).Nodup)
(Y:aw z c=none->∀k,Q none { s with toks:=k })(U:∀v l,aw z c=aM l->RV s.heap v l->∀k,Q (aM v) { s with toks:=k }) :
  rl (Lg prog w) A (TM d V) Q E s:=by
 unfold TM
 try with_reducible refine Mc ?_
 refine ec (vX 5 (dO o) (ed o) (jH O rfl) y λk=>?_)
 refine ec (v4 (s:={ s with toks:=k }) O y o p rfl (by erw[O8];exact f) g (λT=>?_) λj v L=>?_)
 ·exact pe (Y (xw T) k)
 ·refine uu (f.sG L) λe x t t t C=>?_
  refine ec (SY (s:={ s with toks:=k }) p rfl ?_)
  rw[Uh,x]
  exact pe (U _ v (xv g L) C k)
def HR{U:cp MH}{Q:LG->ow->Prop}(J:(d==Pc)=false)
(o:A.units+20<P5)(Y:RV s.heap z c)(O:c.az=true)(j:s.heap.get? d=aM (Na U U.length))(p:REs w s.heap U y)(f:(y.map (·.1)).Nodup)
(h:∀k,Q (aw y c).isSome { s with toks:=k }):rl (Lg prog w) A (PySem.contains (.ref d) z) Q E s:=by
 have V:s.TypeIs (.ref d) "dict":=⟨_,j,rfl⟩
 unfold PySem.contains
 try with_reducible refine Mc ?_
 refine ec (Oh V SK.lookup ?_)
 show rl _ _ (if (aM (VX "dict.__contains__")==aM LM)=true then _ else _) _ E s
 rw[E1 (by rw[WI];exact Lq)]
 refine ec (wpAny_callSpecialUnlessNone?_slot (name:=Li "__contains__") V SK
  (ML SK V entry_dict_contains ?_ (args_dict_contains _ _)))
 show rl _ _ (TM d z >>= _) _ _ s
 refine ec (qZ (A:=A.in1) (mS o) Y O j p f (λe k=>?_) λv g e l k=>?_)
 ·rw[e] at h
  show rl _ _ (Xp d z >>= _) _ _ _
  exact ec (wpAny_pendingKey_other J (pe ⟨_,rfl,PR (h k)⟩))
 ·rw[e] at h
  show rl _ _ (ret (.bool true)) _ _ _
  exact pe ⟨_,rfl,PR (h k)⟩
def Cz{o:cp MH}{Q:rr->ow->Prop}(f:(d==Pc)=false)
(g:A.units+20<P5)(V:RV s.heap y c)(l:c.az=true)(O:s.heap.get? d=aM (Na o o.length))(L:REs w s.heap o z)(t:(z.map (·.1)).Nodup)
(Y:aw z c=none->A.handled=none/\∀k p e,SP s.heap p e "KeyError"->E (.ref e) { s with heap:=p,toks:=k })(U:∀v j,aw z c=aM j->RV s.heap v j->∀k,Q v { s with toks:=k }) :
  rl (Lg prog w) A (PV (.ref d) y) Q E s:=by
 have J:s.TypeIs (.ref d) "dict":=⟨_,O,rfl⟩
 unfold PV
 try with_reducible refine Mc ?_
 refine ec (QY J (by decide) ?_)
 refine ec (Nh (name:=Li "__getitem__") J S0
  (ML S0 J entry_dict_getitem ?_ (args_dict_getitem _ _)))
 show rl _ _ (TM d y >>= _) _ _ s
 refine ec (qZ (A:=A.in1) (mS g) V l O L t (λe k=>?_) λv j e T k=>?_)
 ·refine oA (Y e) λx C=>?_
  show rl _ _ (QS d y >>= _) _ _ _
  refine ec (SI f ?_)
  refine ec (SW (s:={ s with toks:=k }) J ?_)
  show rl _ _ (if (Mw "dict" != Mw "dict")=true then _ else _) _ _ _
  erw[E1 (by decide)]
  exact ec (Np (wpAny_raise_newExc (A:=A.in1) plainExc_KeyError x (C k)))
 ·exact pe ⟨v,rfl,pe (U v j e T k)⟩
def uy{J:cp MH}{dY:rr}{Q:rr->ow->Prop}(O:(d==Pc)=false)
(p:A.units+20<P5)(V:RV s.heap y c)(f:c.az=true)(g:s.heap.get? d=aM (Na J J.length))(l:REs w s.heap J z)(L:(z.map (·.1)).Nodup)
(Y:aw z c=none->∀k,Q dY { s with toks:=k })(U:∀v j,aw z c=aM j->RV s.heap v j->∀k,Q v { s with toks:=k }) :
  rl (Lg prog w) A (PB.«dict.get» ⟨[.ref d,y,dY],[]⟩) (λo t=>∃v,o=Fin.done (Flow.ret v)/\Q v t) E s:=by
 show rl _ _ (TM d y >>= _) _ _ s
 refine ec (qZ (jH p rfl) V f g l L (λe k=>?_) λv j e T k=>?_)
 ·show rl _ _ (QS d y >>= _) _ _ _
  exact ec (SI O (pe ⟨dY,rfl,Y e k⟩))
 ·exact pe ⟨v,rfl,U v j e T k⟩
def sM{J:cp MH}{Q:rr->ow->Prop}(O:(d==Pc)=false)
(p:A.units+20<P5)(V:RV s.heap y c)(f:c.az=true)(g:s.heap.get? d=aM (Na J J.length))(l:REs w s.heap J z)(L:(z.map (·.1)).Nodup)
(Y:aw z c=none->∀k,Q .none { s with toks:=k })(U:∀v j,aw z c=aM j->RV s.heap v j->∀k,Q v { s with toks:=k }) :
  rl (Lg prog w) A (PB.«dict.get» ⟨[.ref d,y],[]⟩) (λo t=>∃v,o=Fin.done (Flow.ret v)/\Q v t) E s:=by
 show rl _ _ (TM d y >>= _) _ _ s
 refine ec (qZ (jH p rfl) V f g l L (λe k=>?_) λv j e T k=>?_)
 ·show rl _ _ (QS d y >>= _) _ _ _
  exact ec (SI O (pe ⟨.none,rfl,Y e k⟩))
 ·exact pe ⟨v,rfl,U v j e T k⟩
theorem kQ{z:cp (CV×CV)}:(z.modify i λp=>(p.1,c)).map (·.1)=z.map (·.1):=by
 induction z generalizing i with
 | nil=>cases i <;> rfl
 | cons p r Q=>cases i with
  | zero=>rfl
  | succ i=>exact dd (p.1::·) Q
def EE{n m:ki}(h:a=b)(e:n=m):aM ({ cls:=.type "dict",data:=.dict a n }:P0)=aM { cls:=.type "dict",data:=.dict b m }:=h▸e▸rfl
def uz{V:cp MH}{Q:Rt->ow->Prop}
(C:A.units+10<P5)(Y:RV s.heap key c)(B:RV s.heap v J)(f:c.az=true)(o:s.heap.get? d=aM (Na V V.length))(g:REs w s.heap V y)(U:(y.map (·.1)).Nodup)(l:y.length<szl)
(h:∀k t T,(∀b,b≠d->t.get? b=s.heap.get? b)->t.get? d=aM (Na T T.length)->REs w s.heap T (bf y c J)->((bf y c J).map (·.1)).Nodup->(bf y c J).length<=szl->
   Q () { s with heap:=t,toks:=k }) :
  rl (Lg prog w) A (X4 d key v) Q E s:=by
 have n:=g.length
 unfold szl at l h
 unfold X4
 try with_reducible refine Mc ?_
 refine ec (vX 5 (dO f) (ed f) (jH C rfl) Y λk=>?_)
 unfold dictSetHashed
 try with_reducible refine Mc ?_
 refine ec (v4 (s:={ s with toks:=k }) C Y f o rfl (by erw[O8];exact g) U (λL=>?_) λj u x=>?_)
 ·refine ec (Np (wpAny_updateDictKeys (hz:=cy (p8 n) (y1 l)) (hf:=p8 (Vt _)) (s:={ s with toks:=k }) o rfl ?_))
  refine h k _ (V++[⟨cj w c,key,v⟩]) (λb O=>MF _ _ (Ma O)) ?_ ?_ ?_ ?_
  ·exact(LN _ o (UJ (Obj.data_mapDictKeys rfl _))).trans (EE (push_toArray ..) (GE (bs:=[({ hash:=cj w c,key:=key,val:=v }:MH)])).symm)
  ·erw[kK L];exact g.append (.cons rfl f Y B .nil)
  ·exact(dd Xi ((dd (Px (·.1)) (kK L)).trans LP)).mpr (M8.mpr ⟨U,Mi _ _,λa N b O q=>(p9.mp N).elim λp z=>(Mm.mp z.1).elim λi D=>L i p.2 (D.trans (dd aM (MX (z.2.trans (q.trans (n2.mp O))) rfl)))⟩)
  ·exact cy (p8 ((dd Nc (kK L)).trans (GE (bs:=[(c,J)])))) l
 ·refine ec (Np (ec (wpAny_updateDict (s:={ s with toks:=k }) o rfl ?_ (p8 (Array.size_modify ..)))))
  refine wpAny_point (h k _ (V.modify j λe=>{ e with val:=v }) (λb O=>MF _ _ (Ma O)) ?_ ?_ ?_ ?_)
  ·exact(LN _ o (UJ (Obj.data_mapDict rfl _))).trans (EE modify_toArray (UM ..).symm)
  ·exact LH (kJ U x) (g.modify B j)
  ·exact(dd Xi ((dd (Px (·.1)) (kJ U x)).trans kQ)).mpr U
  ·exact cy (p8 ((dd Nc (kJ U x)).trans (UM ..))) (y1 l)
def uA{p:cp MH}{Q:Rt->ow->Prop}
(g:A.units+20<P5)(V:RV s.heap U c)(l:RV s.heap v o)(L:c.az=true)(f:s.heap.get? d=aM (Na p p.length))(t:REs w s.heap p Y)(T:(Y.map (·.1)).Nodup)(C:Y.length<szl)
(h:∀k j J,(∀b,b≠d->j.get? b=s.heap.get? b)->j.get? d=aM (Na J J.length)->REs w s.heap J (bf Y c o)->((bf Y c o).map (·.1)).Nodup->(bf Y c o).length<=szl->
   Q () { s with heap:=j,toks:=k }) :
  rl (Lg prog w) A (Wo (.ref d) U v) Q E s:=by
 have O:s.TypeIs (.ref d) "dict":=⟨_,f,rfl⟩
 unfold Wo
 try with_reducible refine Mc ?_
 refine ec (QY O (by decide) ?_)
 refine ec (Nh (name:=Li "__setitem__") O Wn
  (ML Wn O entry_dict_setitem ?_ (args_dict_setitem _ _ _)))
 show rl _ _ (Xr "__setitem__" ⟨[.ref d,U,v],[]⟩ >>= _) _ _ s
 refine ec (wpAny_notOrdered_dict O ?_)
 show rl _ _ (X4 d U v >>= _) _ _ s
 exact ec (uz (A:=A.in1) (mS g) V l L f t T C λk j J a b x y z=>pe ⟨.none,rfl,pe (h k j J a b x y z)⟩)
end
section
variable{g:G}{env:OR}{vm:cp (Lj×ki)}
variable(g) in
def ESs(env:OR)(vm:cp (Lj×ki))(z:cp CE)(t:Sem (cp rr)):Prop:=
 ∀(A:MQ) (y:Op) (s:ow) (st:St) (Q:cp CV->St->Prop) (X:No) (P:cp rr->ow->Prop) (E:rr->ow->Prop),OKA g A->Rep g y env vm s st->kH g.Φ g.M z st Q X->
  (∀vs Y s' w,RVs s'.heap vs Y->Y.length=z.length->Rep g y env vm s' w->Q Y w->P vs s')->
  EOk g A y env vm X E->rl (Lg g.prog g.w) A t P E s
def ESs.run(h:ESs g env vm w t){st:St}{P:cp rr->ow->Prop}
(J:OKA g A)(R:Rep g U env vm s st)(o:kH g.Φ g.M w st Q X)
(O:∀k V s' z,RVs s'.heap k V->V.length=w.length->Rep g U env vm s' z->sI s st.H s'->TK s.heap s'.heap->Q V z->P k s')
(j:EOk g A U env vm X E):rl (Lg g.prog g.w) A t P E s:=
 h A (frz s st.H) s st Q X P E J R.bj o (λv c s' z p f y Y=>O v c s' z p f (R.d8 y) y.H.keeps (R.H.tk y.H.keeps) Y)
  λq z Y=>⟨(j q z Y).1,λe s' l y=>(j q z Y).2 e s' (l.d8 R.H) (R.d8 y)⟩
def ESs.nil:ESs g env vm [] (MV []):=
 λz z z z z z z z z R Q w z=>Si (w _ _ _ _ .nil rfl R Q)
def ESs.cons{U:CE}{z:cp CE}{t:Sem rr}{V:cp (LG×Sem rr)}(h:ES g env vm U t)(o:ESs g env vm z (MV V)):ESs g env vm (U::z) (MV ((false,t)::V)):=by
 intro A O s st Q X P E k R p f j
 refine RN (h A O s st _ X _ E k R p (λv c s' l L T w=>?_) j)
 refine o.run k T w (λB n x J y C Y N b w=>f _ _ _ _ (.cons (L.mono b) y) (by(erw[NN];erw[NN];exact LH C rfl)) Y w) j
def aW(e:LF):Bool:=ex5 e false true (λz=>true) (λz=>true) (λz=>true) true
def dj(h:aW e=true):Ml (e::z) env=(false,Mb e env)::Ml z env:=by
 cases e <;> first | rfl | exact nomatch h
def ESs.jf(Y:aW e=true)(h:ES g env vm w (Mb e env))(U:ESs g env vm z (MV (M1 Q (Ml y env)))) :
  ESs g env vm (w::z) (MV (M1 Q (Ml (e::y) env))):=by
 erw[dj Y]
 exact ESs.cons h U
def Rep.ext{s':ow}{st:St}(R:Rep g Pr env vm s st)(k:∀b o,s.heap.get? b=aM o->s'.heap.get? b=aM o)(z:s'.os=s.os)(Q:s'.gens=s.gens):Rep g Pr env vm s' st:=
 ⟨R.H.ext k z Q,R.L.ext k,R.fr,R.ofr⟩
def aR(h:M7)(o:P0):∀b p,h.get? b=aM p->(h.push o).get? b=aM p:=λz z e=>Lh o e
def Rep.jh{st:St}(R:Rep g z env vm s st)(Q:RVs s.heap vs l)(w:l.length<=szl) :
  Rep g z env vm { s with heap:=s.heap.push { cls:=.type "list",data:=.seq vs.toArray } } { st with H:=st.H.aD s.heap.objs.size l }:=by
 have k:=aR s.heap { cls:=.type "list",data:=.seq vs.toArray }
 refine⟨(R.H.ext (s':={ s with heap:=s.heap.push { cls:=.type "list",data:=.seq vs.toArray } }) k rfl rfl).aD (vs:=vs.toArray) (λy y=>rfl) ⟨_,Lv _ rfl⟩ (Q.mono (TK.aS k)) w
  (λo p=>let ⟨Y,e,_⟩:=R.H.b7 _ o p;bH s.heap Y e) (λo e=>?_) rfl rfl,R.L.ext k,R.fr,R.ofr⟩
 have:=(Lv s.heap (o:={ cls:=.type "list",data:=.seq vs.toArray }) rfl).symm.trans e
 cases this;rfl
def Rep.pa{st:St}(R:Rep g z env vm s st) :
  Rep g z env vm { s with heap:=s.heap.push (Na [] 0) } { st with H:=st.H.bo s.heap.objs.size [] }:=by
 have k:=aR s.heap (Na [] 0)
 have Q:=bH s.heap
 refine⟨R.H.bo (s':={ s with heap:=s.heap.push (Na [] 0) }) (es:=[]) (λb w=>?_) (Lv _ rfl) .nil LR (Lp _) (λo p=>let ⟨y,e,_⟩:=R.H.b7 _ o p;Q y e) (.inl Q) rfl rfl,R.L.ext k,R.fr,R.ofr⟩
 exact U9 _ _ _ w
def ES.li(h:ESs g env vm z (MV (M1 w (Ml y env))))(Y:z.length<=1000):ES g env vm (.li z) (Mb (.List y w) env):=by
 intro A T s st Q X P E j R J o O
 refine wpAny_List (h.run j R J (λx c p f U V k l l L=>?_) O)
 have t:=U.length
 exact⟨cy (p8 (t.trans V)) (cy Y (e0 rfl)),o _ _ _ _ (.ref _) (k.jh U (cy (p8 V) (cy Y (e0 rfl)))) (L _ (k.H.free (bH p.heap)))⟩
def ES.tu(h:ESs g env vm z (MV (M1 w (Ml y env))))(Y:z.length<=1000):ES g env vm (.tu z) (Mb (.Tuple y k w) env):=by
 intro A C s st Q X P E J R o O p
 refine Yh (h.run J R o (λf b l L U V t T T x=>?_) p)
 have c:=U.length
 have j:=aR l.heap { cls:=.type "tuple",data:=.seq f.toArray }
 exact⟨cy (p8 (c.trans V)) (cy Y (e0 rfl)),O _ _ _ _ (.tup ⟨_,Lv _ rfl,rfl,_,rfl⟩ (cy (p8 V) (cy Y (e0 rfl))) (U.mono (TK.aS j))) (t.ext j rfl rfl) x⟩
def mo(p:CV.bD l=true):Uv (pds l)=true:=je (c:=.tup l) p
def yK(p:CV.bD l=true)(q:CV.bD m=true):Te (pds l) (pds m)=decide (l=m):=
 (mh (c:=.tup l) (d:=.tup m) p q).trans (Qb.mpr ⟨CV.tup.inj,dd _⟩)
def RVs.hU(x:RVs h Q z):CV.bD z=true->∃as,XE h Q (pds z) as:=
 x.ind (P:=λQ z=>CV.bD z=true->∃as,XE h Q (pds z) as) (λw=>⟨_,.nil⟩) λa w y p=>(a.hU (dM p)).elim λw q=>(y (dN p)).elim λw r=>⟨_,.cons q r⟩
inductive EqR(A:MQ)(h:M7)(u v:rr)(r:LG):Prop
 | mk (x y:YU) (as bs:cp LZ) (ra:Ys h u x as) (rb:Ys h v y bs) (c1:x.canLay0=true) (c2:y.canLay0=true) (uB:A.units+min x.depth y.depth<P5) (e:PH x y=r)
def v9(z:OKA g A){a b:ki}(h:a<=21):A.units+min a b<cLine:=eF (LY (LA _ _) (cy (Qc _ _) (cy h (by decide)))) z.units
theorem EF{H:CH}(R:av g.w g.AN g.os g.h₀ f s H)(J:OKA g A){u:rr}(O:RV s.heap u c)(w:RV s.heap v d)(h:eqV H c d=aM r):EqR A s.heap u v r:=by
 unfold eqV at h
 by_cases q:c.pure/\d.pure/\c.depth<=20/\d.depth<=20
 ·rw[K2 q] at h
  exact(O.hU q.1).elim λas y=>(w.hU q.2.1).elim λp Y=>⟨_,_,as,p,y,Y,je q.1,je q.2.1,v9 J (cy (jE c) (PG q.2.2.1)),(mh q.1 q.2.1).trans (ey h)⟩
 ·rw[E1 q] at h
  clear q
  cases c with
  | ref a=>exact CV.qT (R:=(·=aM r)) (P:=λd=>RV s.heap v d->EqR A s.heap u v r) nos h (λb e w=>by
    refine oEA (MM.mp e) λl L e=>?_
    refine oEA (MM.mp e) λm t e=>?_
    by_cases q:CV.bD l/\CV.bD m/\CV.dw l<=20/\CV.dw m<=20
    ·rw[K2 q] at e
     refine aA (R.cr L) λD z T x=>?_;obtain⟨o,C,B,n,N⟩:=z
     refine aA (R.cr t) λE Q U x=>?_;obtain⟨I,V,k,M,j⟩:=Q
     exact O.c▸w.c▸(T.hU q.1).elim λas y=>(U.hU q.2.1).elim λp Y=>⟨_,_,_,_,.list C B N y,.list V k j Y,mo q.1,mo q.2.1,v9 J (cy (jE (.tup l)) (Lw q.2.2.1)),(yK q.1 q.2.1).trans (ey e)⟩
    ·rw[E1 q] at e;exact nos e) w
  | _=>exact nos h
end
theorem CA{x:CV}(z:x.pure=true):CV.bD l=true->(pds l).any (λy=>PH y (pd x))=decide (x∈l):=by
 induction l with
 | nil=>exact λw=>rfl
 | cons c l Q=>
  intro p
  show(PH (pd c) (pd x)||(pds l).any _)=_
  (erw[Q (dN p)];erw[mh (dM p) z];rewrite[← Bool.decide_or])
  exact Qb.mpr ((SA eq_comm).trans ta.symm)
section
variable{g:G}{w:OR}{Y:cp (Lj×ki)}
def InG(g:G)(A:MQ)(s:ow)(u v:rr)(P:rr->ow->Prop)(E:rr->ow->Prop)(r:LG):Prop:=
 ((∀k,P (.bool r) { s with toks:=k })->rl (Lg g.prog g.w) A (Pg .In u v) P E s)/\((∀k,P (.bool (!r)) { s with toks:=k })->rl (Lg g.prog g.w) A (Pg .NotIn u v) P E s)
section
variable{Q:Op}{s:ow}{H:CH}{u:rr}{c d:CV}{P:rr->ow->Prop}
def FD(h:sE c l=aM r){Z:Prop}(f:c.pure=true->CV.bD l=true->c.depth<=20->r=decide (c∈l)->Z):Z:=by
 unfold sE at h
 by_cases q:c.pure/\CV.bD l/\c.depth<=20/\CV.dw l<=20
 ·rw[K2 q] at h;exact f q.1 q.2.1 q.2.2.1 (ey h).symm
 ·rw[E1 q] at h;exact nos h
def wb(z:OKA g A)(h:c.depth<=20):A.units+1+min a (pd c).depth<cLine:=eF (LY (MJ (LA _ _) 1) (cy (PX _ _) (cy (jE c) h))) (eF (by show A.units+200 * g.n+1+20<=A.units+200 * g.n+150;rw[NV];exact Ls (by decide) _) z.units)
theorem in_str(k:RV s.heap u c){x:Lj}{t:Tok}(h:(c.sz none λt=>(uw t.cps.toList).map λc=>x.cps.toList.contains c)=aM r):InG g A s u (.str x t) P E r:=
 CV.vV (R:=(·=aM r)) (P:=λc=>RV s.heap u c->InG g A s u (.str x t) P E r) nos h (λy h k=>by
  refine oEA (Me.mp h) λj V o=>?_
  refine oE k.c λp U=>?_;subst U
  clear h k
  have O:y=⟨#[j]⟩:=by
   unfold uw at V
   cases e:y.cps.toList with
   | nil=>rw[e] at V;exact nos V
   | cons a l=>
    rw[e] at V
    cases l with
    | nil=>exact dd U1 (Sx.mp (e.trans (dd (λa=>[a]) (ey V))))
    | cons=>exact nos V
  subst O
  have z:=(StrLaws.found_one x j).trans ((contains_eq_mem j x.cps.toList).symm.trans o)
  exact⟨λJ=>YL (z▸J s.toks),λJ=>YG (z▸J s.toks)⟩) k
theorem wg(O:g.Ok)(R:av g.w g.AN g.os g.h₀ Q s H)(L:OKA g A)(T:RV s.heap u c)(B:RV s.heap v d)(h:inV H c d=aM r):InG g A s u v P E r:=by
 cases d with
 | str x=>refine oE B.c λt y=>?_;subst y;exact in_str T h
 | ref a=>
  obtain rfl:=B.c
  cases e:H.getL a with
  | some l=>
   refine aA (R.cr e) λK U i F=>?_;obtain⟨o,j,N,n,D⟩:=U
   exact FD ((dd (LW · _ (sE c)) e).symm.trans h) λJ p I e=>(T.hU J).elim λas M=>(i.hU p).elim λG m=>
    have z:=(CA J p).trans e.symm
    ⟨λV=>SeqAt.in_list_reads (.list j N D m) M (mo p) (je J) (wb L I) (z▸V s.toks),
     λV=>SeqAt.notIn_list_reads (.list j N D m) M (mo p) (je J) (wb L I) (z▸V s.toks)⟩
  | none=>
   refine oEA (MM.mp ((dd (LW · _ (sE c)) e).symm.trans h)) λC S h=>?_
   by_cases q:c.az=true
   ·rw[K2 q] at h
    refine eX (R.dct a C S) λW X F w j Z=>?_
    have z:=λ(f:LG->LG) (V:∀k,P (.bool (f r)) { s with toks:=k })=>ec (HR (prog:=g.prog) (E:=E) (Q:=λb s=>rl (Lg g.prog g.w) A (pure (.bool (f b))) P E s) (R.mQ O.T W) (eF (LY (LA _ _) (by decide)) L.units) T q j Z X λk=>pe (ey h▸V k))
    exact⟨z id,z (!·)⟩
   ·rw[E1 q] at h;exact nos h
 | _=>exact nos h
end
def lE:CO->Yv
 | .eq=>.Eq
 | .ne=>.NotEq
 | .lt=>.Lt
 | .le=>.LtE
 | .gt=>.Gt
 | .ge=>.GtE
 | .isIn=>.In
 | .cu=>.NotIn
 | .is=>.Is
 | .lC=>.IsNot
def lF(Q:RV h v c):(v==LM)=decide (c=.none):=
 Q.casesOn (motive_1:=λv c z=>(v==LM)=decide (c=.none)) (Ln rfl).symm (λz=>(LQ (by intro h;injection h)).symm) (λz z=>(LQ (by intro h;injection h)).symm) (λz z=>(LQ (by intro h;injection h)).symm) (λz z z=>(LQ (by intro h;injection h)).symm) (λz=>(LQ (by intro h;injection h)).symm)
section
variable{z:Op}{s:ow}{H:CH}{u:rr}{c d:CV}{P:rr->ow->Prop}
def rd{f:Nj->Nj->LG}(h:(c.cf none λa=>d.cf none λb=>aM (f a b))=aM r)(Q:RV s.heap u c)(y:RV s.heap v d){Z:rr->rr->Prop}(k:∀a t b U,f a b=r->Z (.int a t) (.int b U)):Z u v:=
 CV.jz (R:=(·=aM r)) (P:=λc=>RV s.heap u c->Z u v) nos h (λa h Q=>CV.jz (R:=(·=aM r)) (P:=λd=>RV s.heap v d->Z u v) nos h (λb h y=>Q.c.elim λt e=>y.c.elim λU V=>e▸V▸k a t b U (ey h)) y) Q
def yL(h:d.mL none (aM b)=aM r)(Q:RV s.heap v d){Z:rr->Prop}(k:b=r->Z .none):Z v:=
 CV.sD (R:=(·=aM r)) (P:=λd=>RV s.heap v d->Z v) nos h (λh Q=>Q.c▸k (ey h)) Q
theorem yM(O:g.Ok)(R:av g.w g.AN g.os g.h₀ z s H)(j:OKA g A)(Q:RV s.heap u c)(U:RV s.heap v d)(h:b9 H o c d=aM r)(V:∀k,P (.bool r) { s with toks:=k }):rl (Lg g.prog g.w) A (Pg (lE o) u v) P E s:=by
 cases o with
 | eq=>
  obtain⟨x,y,as,T,J,p,f,l,uB,e⟩:=EF R j Q U h
  exact SeqAt.compareEq_reads J p f l uB (e▸V s.toks)
 | ne=>
  refine oEA (Me.mp h) λq C B=>?_
  obtain⟨x,y,as,T,J,p,f,l,uB,e⟩:=EF R j Q U C
  exact SeqAt.compareNe_reads J p f l uB (by(erw[e];erw[B]);exact V s.toks)
 | isIn=>exact(wg O R j Q U h).1 V
 | cu=>exact(Me.mp h).elim λq y=>(wg O R j Q U y.1).2 (y.2▸V)
 | is=>exact yL (Z:=λv=>rl (Lg g.prog g.w) A (Pg .Is u v) P E s) h U λe=>PySem.is_none (by(erw[lF Q];erw[e]);exact V s.toks)
 | lC=>exact yL (Z:=λv=>rl (Lg g.prog g.w) A (Pg .IsNot u v) P E s) h U λe=>PySem.isNot_none (by(erw[lF Q];erw[e]);exact V s.toks)
 | lt=>exact rd (Z:=λu v=>rl (Lg g.prog g.w) A (Pg .Lt u v) P E s) h Q U λa t b L e=>U3 (e▸V s.toks)
 | le=>exact rd (Z:=λu v=>rl (Lg g.prog g.w) A (Pg .LtE u v) P E s) h Q U λa t b L e=>YK (e▸V s.toks)
 | gt=>exact rd (Z:=λu v=>rl (Lg g.prog g.w) A (Pg .Gt u v) P E s) h Q U λa t b L e=>YM (e▸V s.toks)
 | ge=>exact rd (Z:=λu v=>rl (Lg g.prog g.w) A (Pg .GtE u v) P E s) h Q U λa t b L e=>YO (e▸V s.toks)
end
def ES.two{l L:CE}{t T:Sem rr}(B:ES g w Y l t)(n:ES g w Y L T){A:MQ}{J:Op}{s:ow}{st:St}{Q:CV->CV->St->Prop}{X:No}{P:rr->rr->ow->Prop}{E:rr->ow->Prop}
(C:OKA g A)(R:Rep g J w Y s st)(N:wpE g.Φ g.M l st (λx st=>wpE g.Φ g.M L st (λy st=>Q x y st) X) X)
(a:∀u v c d o V,RV o.heap u c->RV o.heap v d->Rep g J w Y o V->Q c d V->P u v o)
(b:EOk g A J w Y X E) :
  rl (Lg g.prog g.w) A t (λu z=>rl (Lg g.prog g.w) A T (λv U=>P u v U) E z) E s:=
 B A J s st _ X _ E C R N (λu c z O D k p=>n.run C k p (λv d U f I j h M p=>a _ _ _ _ _ _ (D.mono M) I j p) b) b
def ES.cm(O:g.Ok)(l:ES g w Y V (Mb a w))(L:ES g w Y j (Mb b w))(t:Uu (lE o) b=false):ES g w Y (.cm o V j) (Mb (.Compare a [lE o] [b] U) w):=by
 intro A h s st Q X P E J R T C B
 refine wpAny_Compare1 (ES.two (Q:=λx y st=>∃r,b9 st.H o x y=aM r/\Q (.bool r) st) (P:=λu v p=>rl (Lg g.prog g.w) A (Pg (lE o) u v) P E p) l L J R T (λu v c d p n N D f I=>?_) B) t
 refine oEA I λr M z=>?_
 exact yM O f.H J N D M λk=>C _ _ _ _ (.bool _) (f.toks k) z
def TS.cm(O:g.Ok)(T:ES g w Y p (Mb a w))(J:ES g w Y f (Mb b w))(C:Uu (lE o) b=false):TS g w Y (.cm o p f) (Ou (.Compare a [lE o] [b] j) w U):=by
 intro A e s st Q X P E l R B n N
 refine wpAny_isTrue_Compare1 (ES.two (Q:=λx y st=>∃r,b9 st.H o x y=aM r/\Q (.bool r) st) (P:=λu v L=>rl (Lg g.prog g.w) A (Pg (lE o) u v) (λc V=>rl (Lg g.prog g.w) A (Q8 c) P E V) E L) T J l R B (λu v c d L D I M t h=>?_) N) C
 refine oEA h λr m z=>?_
 refine yM O t.H l I M m λk=>PR ?_
 refine oEA (n _ _ _ (t.toks k) z) λb J i=>?_
 cases J
 exact i
def ES.J2(O:g.Ok)(h:ES g w Y U (Mb e w))(o:Ou e w (Mb e w)=(do let v ← Mb e w;Wk e.pos;Q1 [v] (Q8 v))):TS g w Y U (Ou e w (Mb e w)):=by
 intro A p s st Q X P E f R l V L
 refine wpAny_isTrue_value (h A p s st _ X _ E f R l (λv c C t T z j=>?_) L) o
 refine oEA (V _ _ _ z j) λb J B=>?_
 refine jG O.X O.T z.H T J λk=>?_
 refine oEA (V _ _ _ (z.toks k) j) λn y x=>?_
 cases J.symm.trans y
 exact x
def ES.nt(O:g.Ok)(j:ES g w Y U (Mb a w)):ES g w Y (.nt U) (Mb (.UnaryOp .Not a y) w):=by
 intro A J s st Q X P E o R p f l
 refine XJ (j A J s st _ X _ E o R p (λv c s' L t V T=>?_) l)
 refine oEA T λb x z=>?_
 exact not_value (jG O.X O.T V.H t x λk=>f _ _ _ _ (.bool _) (V.toks k) z)
def TS.nt(V:TS g w Y v (Ou a w (Mb a w))):TS g w Y (.nt v) (Ou (.UnaryOp .Not a U) w y):=by
 intro A k s st Q X P E j R J o O
 refine wpAny_isTrue_Not (V A k s st _ X (λb s'=>P (!b) s') E j R J (λc s' p f l=>?_) O)
 refine oEA l λb L z=>?_
 refine oEA (o _ _ _ f z) λt T x=>?_
 cases T
 exact⟨b,L,x⟩
def ES.ng(j:ES g w Y k (Mb a w)):ES g w Y (.ng k) (Mb (.UnaryOp .USub a V) w):=by
 intro A J s st Q X P E o R O p f
 refine XJ (j A J s st _ X _ E o R O (λv c C l L T x=>?_) f)
 refine oEA x λi y z=>?_;subst y
 refine oE L.c λt U=>?_;subst U
 exact YH (p _ _ _ _ (.int _ _) (T.toks _) z)
theorem ES.an(O:g.Ok)(L:ES g w Y V (Mb a w))(T:ES g w Y j (Mb b w)):ES g w Y (.an V j) (Mb (.BoolOp .And [a,b] y) w):=by
 intro A J s st Q X P E o R x p f
 refine wpAny_And2 (L A J s st _ X _ E o R x (λv c N C l U B=>?_) f)
 refine oEA B λt n z=>?_
 refine jG O.X O.T U.H l n λk=>?_
 cases t with
 | true=>exact T A J _ _ _ X _ E o (U.toks k) z p f
 | false=>exact p _ _ _ _ l (U.toks k) z
theorem ES.orr(O:g.Ok)(L:ES g w Y V (Mb a w))(T:ES g w Y j (Mb b w)):ES g w Y (.orr V j) (Mb (.BoolOp .Or [a,b] y) w):=by
 intro A J s st Q X P E o R x p f
 refine wpAny_Or2 (L A J s st _ X _ E o R x (λv c N C l U B=>?_) f)
 refine oEA B λt n z=>?_
 refine jG O.X O.T U.H l n λk=>?_
 cases t with
 | true=>exact p _ _ _ _ l (U.toks k) z
 | false=>exact T A J _ _ _ X _ E o (U.toks k) z p f
theorem TS.an(x:TS g w Y j (Ou a w (Mb a w)))(U:TS g w Y J (Ou b w (Mb b w))):TS g w Y (.an j J) (Ou (.BoolOp .And [a,b] V) w y):=by
 intro A o s st Q X P E O R C p f
 refine Sp (OX (x A o s st _ X _ E O R C (λc D B l n=>?_) f))
 refine oEA n λt L z=>?_
 refine⟨t,L,?_⟩
 cases t with
 | true=>
  refine OX (U A o _ _ _ X _ E O l z (λc N T k z=>?_) f)
  refine oEA (p _ _ _ k z) λb U v=>?_
  refine⟨b,U,?_⟩
  cases b with
  | true=>exact Vf v
  | false=>exact v
 | false=>
  refine oEA (p _ _ _ l z) λb U v=>?_
  cases L.symm.trans U
  exact v
theorem TS.an3(D:TS g w Y T (Ou a w (Mb a w)))(k:TS g w Y C (Ou b w (Mb b w)))(I:TS g w Y B (Ou c w (Mb c w))):TS g w Y (.an3 T C B) (Ou (.BoolOp .And [a,b,c] O) w V):=by
 intro A p s st Q X P E f R M l L
 refine Sp (OX (D A p s st _ X _ E f R M (λx r h n d=>?_) L))
 refine oEA d λt J U=>?_
 refine⟨t,J,?_⟩
 cases t with
 | true=>
  refine OX (k A p _ _ _ X _ E f n U (λy m N o U=>?_) L)
  refine oEA U λt J v=>?_
  refine⟨t,J,?_⟩
  cases t with
  | true=>
   refine OX (I A p _ _ _ X _ E f o v (λz F i e v=>?_) L)
   refine oEA (l _ _ _ e v) λb k j=>?_
   refine⟨b,k,?_⟩
   cases b with
   | true=>exact Vf j
   | false=>exact j
  | false=>
   refine oEA (l _ _ _ o v) λb k j=>?_
   cases J.symm.trans k
   exact j
 | false=>
  refine oEA (l _ _ _ n U) λb k j=>?_
  cases J.symm.trans k
  exact j
theorem TS.orr(x:TS g w Y j (Ou a w (Mb a w)))(U:TS g w Y J (Ou b w (Mb b w))):TS g w Y (.orr j J) (Ou (.BoolOp .Or [a,b] V) w y):=by
 intro A o s st Q X P E O R C p f
 refine Sp (Ve (x A o s st _ X _ E O R C (λc D B l n=>?_) f))
 refine oEA n λt L z=>?_
 refine⟨t,L,?_⟩
 cases t with
 | true=>
  refine oEA (p _ _ _ l z) λb U v=>?_
  cases L.symm.trans U
  exact v
 | false=>
  refine Ve (U A o _ _ _ X _ E O l z (λc N T k z=>?_) f)
  refine oEA (p _ _ _ k z) λb U v=>?_
  refine⟨b,U,?_⟩
  cases b with
  | true=>exact v
  | false=>exact wpAny_allTrue_Or_nil v
theorem ES.ife(f:TS g w Y j (Ou t w (Mb t w)))(l:ES g w Y J (Mb a w))(L:ES g w Y o (Mb b w)):ES g w Y (.ife j J o) (Mb (.IfExp t a b y) w):=by
 intro A U s st Q X P E V R T O k
 refine wpAny_IfExp (f A U s st _ X _ E V R T (λc n x p C=>?_) k)
 refine oEA C λq B z=>?_
 refine⟨q,B,?_⟩
 cases q with
 | true=>exact l A U _ _ _ X _ E V p z O k
 | false=>exact L A U _ _ _ X _ E V p z O k
end
inductive AtS(l:cp CV)(i:Nj)(c:CV):Prop
 | nn (h:0<=i) (hl:i<l.length) (e:l[i.toNat]?=aM c)
 | ng (h:i<0) (h':0<=i+l.length) (e:l[(i+l.length).toNat]?=aM c)
def AtS.of{i:Nj}(h:atI l i=aM c):AtS l i c:=by
 unfold atI at h
 by_cases q:0<=i
 ·rw[K2 q] at h
  exact .nn q (Qh q▸MP.mpr (kO.mp h).1) h
 ·rw[E1 q] at h
  by_cases z:0<=i+l.length
  ·rw[K2 z] at h;exact .ng (Po.mp q) z h
  ·rw[E1 z] at h;exact nos h
def uC{i:Nj}{n:ki}(h:0<=i)(z:i<n):P8 i n=aM i.toNat:=by
 unfold P8
 erw[E1 (O4.mpr h)]
 exact K2 (rv.mpr ⟨Ln h,Ln z⟩)
def wj{i n:Nj}(h:i<0):i+n<n:=Pq (Int.add_lt_add_right h n) (Qo (WR n))
def wl{i n:Nj}(h:0<=i+n):-i<=n:=WU (-i)▸Int.neg_add_le_of_le_add h
def CB{i:Nj}{n:ki}(h:i<0)(z:0<=i+n):P8 i n=aM (i+n).toNat:=by
 unfold P8
 erw[K2 h]
 exact K2 (rv.mpr ⟨Ln z,Ln (wj h)⟩)
theorem AtS.seq(h:AtS l i c)(z:l.length<=szl):∃j,P8 i l.length=aM j/\l[j]?=aM c/\-(2 ^ 63)<=i/\i<2 ^ 63:=by
 have Q:(l.length:Nj)<=16777216:=NW.mpr z
 cases h with
 | nn h z e=>exact⟨_,uC h z,e,MG (by decide) h,Pq z (MG Q (by decide))⟩
 | ng h w e=>exact⟨_,CB h w,e,UD (MG (wl w) (MG Q (by decide))),O6 h (by decide)⟩
def yN{i:Nj}(h:atI l i=none):P8 i l.length=none:=by
 unfold atI at h
 unfold P8
 by_cases q:0<=i
 ·rw[K2 q] at h
  erw[E1 (O4.mpr q)]
  refine E1 λz=>?_
  have z:=p6 (rv.mp z).2
  exact p7 (LS.mp h) (Nat.not_le.mpr (MP.mp (Qh q▸z)))
 ·rw[E1 q] at h
  erw[K2 (Po.mp q)]
  by_cases Q:0<=i+l.length
  ·rw[K2 Q] at h
   exact p7 (LS.mp h) (QU ((Int.toNat_lt Q).mpr (wj (Po.mp q))))
  ·exact E1 λz=>Q (p6 (rv.mp z).1)
section
variable{w:MY}{A:MQ}{E:rr->ow->Prop}{s:ow}
def xC{ai:Mv rr}{u:Tok}(Y:Qn s.heap t ai)(U:A.handled=none)
(J:P8 k ai.size=none)(V:-1000<k/\k<1000)
(v:∀j o e,SP s.heap j e "IndexError"->E (.ref e) { s with heap:=j,toks:=o }):rl (Lg y w) A (PV (.ref t) (.int k u)) Q E s:=by
 unfold PV
 try with_reducible refine Mc ?_
 first | refine ec (pe ?_) | skip
 refine ec (QY Y.typeIs (by decide) ?_)
 refine ec (Nh (name:=Li "__getitem__") Y.typeIs QL
  (ML QL Y.typeIs entry_tuple_getitem ?_ (args_tuple_getitem _ _)))
 show rl _ _ (RO (.ref t) >>= _) _ _ s
 refine ec (tupleItemsOf_ Y (ec (SW (Yy s k u) (Oi (by decide) (ec (Oh (T:="int") (Yy s k u) int_index (Oi rfl (ec (Vv (a:=k) rfl (Oi ?_ ?_))))))))))
 ·exact LQ λz=>(Mu.mp z).elim (λz=>p7 (p6 z) (O4.mpr (MG (by decide) (Rg V.1)))) λz=>p7 (p6 z) (Po.mpr (O6 V.2 (by decide)))
 ·erw[J]
  first
  | exact ec (Np (by exact_raiseError QB U v))
  | exact ec (Np (ec (by exact_raiseError QB U v)))
  | exact ec (ec (Np (by exact_raiseError QB U v)))
  | exact Np (by exact_raiseError QB U v)
end
def RVs.arr{z:Mv rr}(x:RVs h z.toList l){i:ki}{c:CV}(e:l[i]?=aM c):∃v,z[i]?=aM v/\RV h v c:=
 (x.get i e).elim λv y=>⟨v,Mk.symm.trans y.1,y.2⟩
def RVs.size{vs:Mv rr}(x:RVs h vs.toList l):vs.size=l.length:=x.length
def yO{h:M7}(n:h.get? e=none)(y:h.get? e=aM o){P:Prop}:P:=nos (n.symm.trans y)
def yP{os:NG}{s':ow}{H:CH}(R:av w Y os z Q s H){q:Exc}(x:SP s.heap s'.heap e (aQ q))(J:av w Y os z Q s' H) :
  hX s'.heap H Q (.ref e) q:=by
 obtain⟨k,n,U,t,v,V,j⟩:=x
 refine⟨e,U,t,rfl,λo p=>(R.b7 e o p).elim λO y=>yO n y.1,v,V,j,?_⟩
 exact λh=>(R.ED (R.mj k h)).elim λo y=>yO n y
section
variable{g:G}{z:OR}{Q:cp (Lj×ki)}
section
variable{w:Op}{s:ow}{H:CH}{u:rr}{c d:CV}{P:rr->ow->Prop}
def ItK(A:MQ)(s:ow)(P:rr->ow->Prop)(E:rr->ow->Prop)(r:RI Exc CV):Prop:=match r with
 | .ok x=>∀k y,RV s.heap y x->P y { s with toks:=k }
 | .error q=>A.handled=none/\∀e Y k,SP s.heap Y e (aQ q)->E (.ref e) { s with heap:=Y,toks:=k }
def ItG(g:G)(A:MQ)(s:ow)(u v:rr)(P:rr->ow->Prop)(E:rr->ow->Prop):Prop:=
 (∃T id,s.TypeIs u T/\Yx (.type T) "__getitem__"=pure (aM (.builtin id)))/\rl (Lg g.prog g.w) A (PV u v) P E s
def yQ(h:d.cf none k=aM r)(y:RV s.heap v d){Z:rr->Prop}(f:∀i t,k i=aM r->Z (.int i t)):Z v:=
 CV.jz (R:=(·=aM r)) (P:=λd=>RV s.heap v d->Z v) nos h (λi h y=>y.c.elim λt e=>e▸f i t h) y
theorem yR{l:cp CV}(U:Qn s.heap a k)(J:l.length<=szl)(V:RVs s.heap k.toList l)(o:RV s.heap v d)(h:eD H (.tup l) d=aM r)(Y:ItK A s P E r):ItG g A s (.ref a) v P E:=
 ⟨⟨"tuple","tuple.__getitem__",U.typeIs,QL.lookup⟩,yQ (Z:=λv=>rl (Lg g.prog g.w) A (PV (.ref a) v) P E s) h o λi t h=>by
  cases e:atI l i with
  | some x=>
   rw[e] at h
   refine jy ((AtS.of e).seq J) λj q1 q2 O p=>?_
   refine oEA (V.arr q2) λy f L=>?_
   exact Xe U O p (V.size▸q1) f ((ey h▸Y:ItK A s P E (.ok x)) s.toks y L)
  | none=>
   rw[e] at h
   by_cases q:-1000<i/\i<1000
   ·have Y:ItK A s P E (.error .index):=ey ((K2 q).symm.trans h)▸Y
    exact xC U Y.1 (V.size▸yN e) q λT C e x=>Y.2 e T C x
   ·exact nos ((E1 q).symm.trans h)⟩
def yS(Y:RV s.heap v d)(h:eD H (.str x) d=aM r)(U:ItK A s P E r):ItG g A s (.str x t) v P E:=
 ⟨⟨"str","str.__getitem__",typeIs_str s x t,F.slot_str_getitem.lookup⟩,yQ (Z:=λv=>rl (Lg g.prog g.w) A (PV (.str x t) v) P E s) h Y λi j h=>by
  by_cases q:i=0
  ·rw[K2 q] at h
   refine oEA (Me.mp h) λV y k=>?_
   erw[q]
   refine YN (by decide) (c:=V) ?_ ((k▸U:ItK A s P E (.ok _)) _ _ (.str _ _))
   rw[show P8 0 x.length=aM 0 from uC (by decide) (MP.mpr (On.mp y).1)]
   exact y
  ·exact nos ((E1 q).symm.trans h)⟩
theorem yT(O:g.Ok)(R:av g.w g.AN g.os g.h₀ w s H)(D:OKA g A)(C:RV s.heap v d)(h:eD H (.ref a) d=aM r)(Y:ItK A s P E r):ItG g A s (.ref a) v P E:=by
 cases e:H.getL a with
 | some l=>
  refine aA (R.cr e) λZ J U I=>?_
  refine⟨⟨"list","list.__getitem__",J.typeIs,Wm.lookup⟩,yQ (Z:=λv=>rl (Lg g.prog g.w) A (PV (.ref a) v) P E s) ((dd (LW · _ _) e).symm.trans h) C λi t h=>?_⟩
  refine oEA (Me.mp h) λx V j=>?_
  have V:=AtS.of V
  refine jy (V.seq I) λo o o M m=>?_
  have b:=λy p=>(j▸Y:ItK A s P E (.ok x)) s.toks y p
  cases V with
  | nn h K e=>exact(U.arr e).elim λy z=>wpAny_getItem_list J h m z.1 (b _ z.2)
  | ng h B e=>exact(U.arr e).elim λy z=>wpAny_getItem_list_neg J h (by erw[U.size];exact UD (wl B)) M (by erw[U.size];exact z.1) (b _ z.2)
 | none=>
  refine oEA (MM.mp ((dd (LW · _ _) e).symm.trans h)) λf F h=>?_
  by_cases q:d.az=true
  ·have j:=ey ((K2 q).symm.trans h)
   refine eX (R.dct a f F) λS W o G n L=>?_
   refine⟨⟨"dict","dict.__getitem__",⟨_,n,rfl⟩,S0.lookup⟩,Cz (R.mQ O.T S) (eF (LY (LA _ _) (by decide)) D.units) C q n L W (λX=>?_) λy N p T k=>?_⟩
   ·have Y:ItK A s P E (.error .key):=(show RY Exc.key=r from(dd (LW · _ _) X).symm.trans j)▸Y
    exact⟨Y.1,λk B e x=>Y.2 _ _ _ x⟩
   ·exact((show Qe N=r from(dd (LW · _ _) p).symm.trans j)▸Y:ItK A s P E (.ok N)) k y T
  ·exact nos ((E1 q).symm.trans h)
theorem item(O:g.Ok)(R:av g.w g.AN g.os g.h₀ w s H)(k:OKA g A)(Y:RV s.heap u c)(U:RV s.heap v d)(h:eD H c d=aM r)(V:ItK A s P E r):ItG g A s u v P E:=by
 cases c with
 | str x=>exact Y.c.elim λt e=>e▸yS U h V
 | tup l=>refine bG Y.c λa p y j J o=>?_;subst y;exact yR j J o U h V
 | ref a=>exact(Y.c:u=.ref a)▸yT O R k U h V
 | _=>exact nos h
end
end
def re(e:LF):Bool:=ex5 e true false (λz=>true) (λz=>true) (λz=>true) true
def mT(h:re e=true)(o i:rr):Tx e false o i=operate [o,i] (PV o i):=by
 cases e <;> first | rfl | exact nomatch h
inductive mU(l:cp CV):CV->CV->cp CV->Prop
 | all:mU l .none .none l
 | from(n:ki):mU l (.int n) .none (l.drop n)
 | HS (n:ki):mU l .none (.int n) (l.take n)
theorem mU.of(h:cut l x y=aM m):mU l x y m:=by
 cases x with
 | none=>
  cases y with
  | none=>exact ey h▸.all
  | int i=>
   by_cases q:0<=i/\i<2 ^ 30
   ·have z:=mU.HS (l:=l) i.toNat
    rw[Qh q.1] at z
    exact ey ((K2 q).symm.trans h)▸z
   ·exact nos ((E1 q).symm.trans h)
  | _=>exact nos h
 | int i=>exact CV.sD (R:=(·=aM m)) (P:=λy=>mU l (.int i) y m) nos h (λh=>by
   by_cases q:0<=i/\i<2 ^ 30
   ·have z:=mU.from (l:=l) i.toNat
    rw[Qh q.1] at z
    exact ey ((K2 q).symm.trans h)▸z
   ·exact nos ((E1 q).symm.trans h))
 | _=>exact nos h
section
variable{g:G}{U:cp (Lj×ki)}
def mV{s:ow}{id:RE}(k:s.TypeIs o T)
(J:Yx (.type T) "__getitem__"=pure (aM (.builtin id)))(h:rl (Lg g.prog g.w) A (PV o i) P E s)
(O:Tx z false o i=operate V (PV o i)) :
  rl (Lg g.prog g.w) A (do
   let r ← Tx z (← getitemInPython o) o i
   T4 Q o r
   pure r) P E s:=by
 refine ec ?_
 erw[getitemInPython_of_ne k.not_modules]
 refine ec (Oh k J ?_)
 have y:rl (Lg g.prog g.w) A (Tx z false o i) (λr w=>rl (Lg g.prog g.w) A (T4 Q o r >>= λj=>pure r) P E w) E s:=by
  erw[O]
  exact wpAny_operating (OD h (λr w v=>ec (Vy (pe v))) λj j x=>x)
 first
  | exact pe (ec y)
  | exact ec (pe (ec y))
  | exact ec y
theorem ES.ix(O:g.Ok)(he:ES g Y U C (Mb e Y))(N:ES g Y U b (Mb k Y))(a:re k=true):ES g Y U (.ix C b) (Mb (.Subscript e k o) Y):=by
 intro A D s st Q X P E p R I M f
 rw[Xz]
 refine ec (he A D s st _ X _ E p R I (λu c B l h j L=>?_) f)
 refine ec (Mc (N.run p j L (λv d J t m w G i L=>?_) f))
 refine ec (O1 ?_)
 refine oEA L λr F V=>?_
 obtain⟨⟨T,id,S,W⟩,Z⟩:=item O w.H p (h.mono i) m F (P:=P) (E:=E) (by
  cases r with
  | ok x=>exact λk y K=>M _ _ _ _ K (w.toks k) V
  | error q=>
   have z:=f _ _ V
   exact⟨z.1,λe H k x=>
    have n:=w.ext (s':={ J with heap:=H,toks:=k }) x.keeps rfl rfl
    z.2 _ _ (yP w.H x n.H) n⟩)
 exact mV S W Z (mT a _ _)
section
variable{Q:Op}{st:St}{P:rr->ow->Prop}{z V:LF}{c x y:CV}{u v w:rr}
abbrev slO(v w:rr):Obj:={ cls:=.type "slice",data:=.fields #[v,w,.none] }
abbrev slS(s:ow)(v w:rr):Shared:={ s with heap:=s.heap.push (slO v w) }
def FE(R:Rep g Q Y U s st){l:cp CV}{i:ki}(f:Qn s.heap a j)(p:l.length<=szl)(J:RVs s.heap j.toList l)(L:1<=i)(T:i<=l.length)
(C:∀v s',RV s'.heap v (.tup (l.drop i))->Rep g Q Y U s' st->P v s') :
  rl (Lg g.prog g.w) A (PV (.ref a) (.ref s.heap.objs.size)) P E (slS s (.int i t) .none):=by
 have o:=aR s.heap (slO (.int i t) .none)
 have O:Qn (slS s (.int i t) .none).heap a j:=TK.aS o _ _ f
 have k:=aR (slS s (.int i t) .none).heap { cls:=.type "tuple",data:=.seq (j.toList.drop i).toArray }
 exact getItem_tuple_from O (Heap.IsSliceOf.new ..) L (J.size▸T) (C _ _ (.tup ⟨_,Lv _ rfl,rfl,_,rfl⟩ (cy (NL▸Qx _ _) p) ((J.mono (TK.aS o)).mono (TK.aS k) |>.drop i)) ((R.ext (s':=slS s (.int i t) .none) o rfl rfl).ext k rfl rfl)) (J.size▸p)
inductive J3(h:M7)(vs:Mv rr)(v w:rr)(m:cp CV):Prop
 | mk (x y:rt Nj) (px:IsPart v x) (py:IsPart w y) (r:RVs h (slicePick vs x y none).toList m) (z:m.length<=szl)
theorem mU.FF{f:Mv rr}(c:mU l x y m)(J:RV h v x)(o:RV h w y)(O:RVs h f.toList l)(p:l.length<=szl):J3 h f v w m:=by
 cases c with
 | all=>
  obtain rfl:v=.none:=J.c
  obtain rfl:w=.none:=o.c
  exact⟨none,none,.none,.none,by erw[slicePick_all _];exact O,p⟩
 | «from» n=>
  refine oE J.c λt k=>?_;subst k
  obtain rfl:w=.none:=o.c
  exact⟨_,_,.int _ _,.none,by(erw[slicePick_from' _ _];erw[O8]);exact O.drop _,cy (NL▸Qx _ _) p⟩
 | HS n=>
  refine oE o.c λt j=>?_;subst j
  obtain rfl:v=.none:=J.c
  exact⟨_,_,.none,.int _ _,by(erw[slicePick_upto' _ _];erw[O8]);exact O.take _,cy (Vm▸PX _ _) p⟩
def CD(R:Rep g Q Y U s st)(p:st.H.getL a=aM l)(f:cut l x y=aM m)(L:RV s.heap v x)(t:RV s.heap w y)
(T:∀c s',st.H.free c->Rep g Q Y U s' { st with H:=st.H.aD c m }->P (.ref c) s') :
  (slS s v w).TypeIs (.ref a) "list"/\rl (Lg g.prog g.w) A (PV (.ref a) (.ref s.heap.objs.size)) P E (slS s v w):=by
 have k:=aR s.heap (slO v w)
 have j:=R.ext (s':=slS s v w) k rfl rfl
 refine aA (j.H.cr p) λN J o O=>?_
 obtain⟨_,_,C,b,B,n⟩:=(mU.of f).FF (L.mono (TK.aS k)) (t.mono (TK.aS k)) o O
 have z:=j.jh B n
 rw[Rw] at z
 exact⟨J.typeIs,wpAny_getItem_list_slice J (Heap.IsSliceOf.new ..) C b .none nsm (T _ _ (j.H.free (bH _)) z) (o.size▸O)⟩
end
theorem ES.sl(O:g.Ok){K H:CE}{lo G:rt LF}(he:ES g Y U Z (Mb e Y))(M:ES g Y U K (VD lo Y))(hh:ES g Y U H (VD G Y)) :
  ES g Y U (.sl Z K H) (Mb (.Subscript e (.Slice lo G none p) I) Y):=by
 intro A Pr s st Q X P E h R hw q r
 rw[Xz]
 refine ec (he A Pr s st _ X _ E h R hw (λu c z0 F N J V=>?_) r)
 refine ec (Mc (wpAny_Slice (M.run h J V (λv d z1 S D o ζ tk V=>hh.run h o V (λv' d' w W L y ζ T V=>?_) r) r)))
 erw[XQ _]
 refine pe (ec (O1 ?_))
 have N:=N.mono (tk.trans T)
 have D:=D.mono T
 cases c with
 | tup l=>
  refine uu V λi x C h1 h2 k=>?_;subst x;subst C
  refine bG N.c λa vs B t1 t2 t3=>?_;subst B
  refine oE D.c λt n=>?_;subst n
  obtain rfl:v'=.none:=L.c
  exact mV (s:=slS w (.int i t) .none) (TK.aS (aR w.heap _) _ _ t1).typeIs QL.lookup (FE y t1 t2 t3 h1 h2 λv s' a b=>q _ _ _ _ a b k) rfl
 | ref a=>
  refine aX V λl m M hc j=>?_
  obtain rfl:u=.ref a:=N.c
  have z:=CD (P:=P) (E:=E) (A:=A) y M hc D L λc s' f R=>q _ _ _ _ (.ref c) R (j c f)
  exact mV (s:=slS w v v') z.1 Wm.lookup z.2 rfl
 | _=>exact V.elim
def ES.xD:ES g Y U (.c .none) (VD none Y):=by
 intro A y s st Q X P E V R z w k
 erw[XQ _]
 exact pe (w _ _ _ _ .none R z)
end
section
open PySem PySem.W PyProof.Rows PySem.Builtin PySem.Builtin.Str
def J4:Str:=u 0x405584c7f5eca7988f9f25
section
variable{z:Ow}{w:MY}{A:MQ}{E:rr->ow->Prop}
set_option maxRecDepth 100000 in
set_option maxHeartbeats 4000000 in
theorem uD(t Q:Tok):∀z:Xd,z.length<=1000000->Meets («str.__mod__» ⟨[.str ⟨#[37,115,32,45,62,32,60,101,109,112,116,121,62]⟩ t,.str z Q],[]⟩) (λY R s=>∀y k,R (.ok (.ret (.str (z++Li " -> <empty>") y))) { s with toks:=k }):=by
 kpc_run_s
end
end
section
variable{Q:Ow}{w:MY}{s:ow}
def CF{P:rr->ow->Prop}(t y:Tok)(c:Xd)(Y:c.length<=1000000)
(h:∀U k,P (.str (c++Li " -> <empty>") U) { s with toks:=k }):rl (Lg Q w) A (Qj .Mod (.str J4 t) (.str c y)) P E s:=
 KPc.mod_str (X':=⟨#[37,115,32,45,62,32,60,101,109,112,116,121,62]⟩) (T:=λz=>z++Li " -> <empty>") rfl Y (uD t y) h
def CG{P:rr->ow->Prop}(p:s.heap.IsList l v)(f:s.heap.IsList b ws)(V:v.size+ws.size<=VA)
(h:P (.ref s.heap.objs.size) { s with heap:=s.heap.push { cls:=.type "list",data:=.seq (v++ws) } }):rl (Lg Q w) A (Qj .Add (.ref l) (.ref b)) P E s:=by
 refine i6 p λz O g n L=>?_;obtain⟨cls,t,data,T⟩:=z
 refine i6 f λy Y k x j=>?_;obtain⟨U,J,data2,o⟩:=y
 obtain rfl:cls=_:=g
 obtain rfl:data=_:=L
 obtain rfl:U=_:=k
 obtain rfl:data2=_:=j
 exact concat_meets ⟨_,O,rfl⟩ ⟨_,Y,rfl⟩ noFill_list_add seq_list_add YR YS (YT _ _) (list_addW l b v ws n x t J T o V) ⟨O,Y,h⟩
end
def rg:BO->Sa
 | .add=>.Add
 | .sub=>.Sub
 | .mod=>.Mod
section
variable{g:G}{w:OR}
section
variable{s:ow}{st:St}{u:rr}{c d:CV}{Q:Ps}{P:rr->ow->Prop}
def rh(h:d.cf False k)(z:RV s.heap v d){Z:rr->Prop}(f:∀i t,k i->Z (.int i t)):Z v:=
 CV.jz (R:=id) (P:=λd=>RV s.heap v d->Z v) False.elim h (λi h z=>z.c.elim λt e=>e▸f i t h) z
def FG(h:d.sz False k)(z:RV s.heap v d){Z:rr->Prop}(f:∀i t,k i->Z (.str i t)):Z v:=
 CV.vV (R:=id) (P:=λd=>RV s.heap v d->Z v) False.elim h (λi h z=>z.c.elim λt e=>e▸f i t h) z
def FH(h:d.sC False k)(z:RV s.heap v d){Z:rr->Prop}(f:∀i,k i->Z (.ref i)):Z v:=
 CV.qT (R:=id) (P:=λd=>RV s.heap v d->Z v) False.elim h (λi h z=>(z.c:v=.ref i)▸f i h) z
theorem HT(R:Rep g y w Y s st)(U:RV s.heap u c)(V:RV s.heap v d)(h:opV o c d st Q)(j:POk g y w Y Q P):rl (Lg g.prog g.w) A (Qj (rg o) u v) P E s:=by
 cases o with
 | add=>
  cases c with
  | int a=>exact U.c.elim λt e=>e▸rh (Z:=λv=>rl (Lg g.prog g.w) A (Qj .Add (.int a t) v) P E s) h V λb p h=>YQ (j _ _ _ _ (.int _ _) (R.toks _) h)
  | ref a=>exact(U.c:u=.ref a)▸FH (Z:=λv=>rl (Lg g.prog g.w) A (Qj .Add (.ref a) v) P E s) h V (λb h=>by
    refine bG h λl m C B T J=>?_
    refine aA (R.H.cr C) λD n x N=>?_
    refine aA (R.H.cr B) λI L O N=>?_
    have z:=R.jh (x.append O) (GE▸T)
    rw[← Uq,Rw] at z
    exact CG n L (by(erw[x.size];erw[O.size]);exact T) (j _ _ _ _ (.ref _) z (J _ (R.H.free (bH _)))))
  | _=>exact h.elim
 | sub=>exact rh (Z:=λu=>rl (Lg g.prog g.w) A (Qj .Sub u v) P E s) h U λa t h=>rh (Z:=λv=>rl (Lg g.prog g.w) A (Qj .Sub (.int a t) v) P E s) h V λb p h=>YF (j _ _ _ _ (.int _ _) (R.toks _) h)
 | mod=>
  cases c with
  | int a=>exact U.c.elim λt e=>e▸rh (Z:=λv=>rl (Lg g.prog g.w) A (Qj .Mod (.int a t) v) P E s) h V λb p h=>mod_int' (Uj h.1) (Int.fmod_eq_emod_of_nonneg _ (Rg h.1)▸j _ _ _ _ (.int _ _) (R.toks _) h.2)
  | str f=>exact U.c.elim λt e=>e▸FG (Z:=λv=>rl (Lg g.prog g.w) A (Qj .Mod (.str f t) v) P E s) h V λz p h=>h.1▸CF t _ _ h.2.1 λp k=>j _ _ _ _ (.str _ _) (R.toks _) (h.2.2 _)
  | _=>exact h.elim
end
def ES.op(j:ES g w Y U (Mb a w))(J:ES g w Y V (Mb b w)):ES g w Y (.op o U V) (Mb (.BinOp a (rg o) b z) w):=by
 intro A n s st Q X P E O R p f l
 exact wpAny_BinOp (ES.two (Q:=λx y st=>opV o x y st Q) (P:=λu v k=>rl (Lg g.prog g.w) A (Qj (rg o) u v) P E k) j J O R p (λu v c d k L t T C B=>HT C t T B f) l)
end
inductive OKF(fs:cp OR)(n:ki)(A:MQ):Prop
 | mk (handled:A.handled=none) (units:A.units+200 * n+100<P5) (depth:A.depth+10 * n+5<T3) (guards:A.guards=aM []) (frames:A.frames=aM fs)
def OKA.f(h:OKA g A)(e:g.hd=true):OKF g.fs g.n A:=⟨h.handled e,eF (Ls (by decide) _) h.units,eF (Ls (by decide) _) h.depth,h.guards,h.frames⟩
def uE{a n k m c:ki}(h:1+k<=m)(z:a+n+m<c):a+1+n+k<c:=eF (cy (p8 ((dd (·+k) (Sf a 1 n)).trans (NV _ 1 k))) (Ls h _)) z
noncomputable abbrev Rs:=CV->CH->Prop
def FS(g:G):Prop:=∀(f:ki) (z:cp rr) (y:cp CV) (A:MQ) (w:Op) (s:ow) (H:CH) (Q:Rs) (R:Result->ow->Prop),OKF g.fs g.n A->Fls g w->
 av g.w g.AN g.os g.h₀ w s H->RVs s.heap z y->g.Φ f y H Q->(∀v c s' Y,RV s'.heap v c->av g.w g.AN g.os g.h₀ w s' Y->Q c Y->R (.ok (.ret v)) s')->
 UX (Lg g.prog g.w) A (.call (.ref f) ⟨z,[]⟩) R s
theorem gv{z:cp LF}(h:z.all aW=true):(M1 pos (Ml z env)).any (·.1)=false:=by
 induction z with
 | nil=>rfl
 | cons e z Q=>
  rw[QJ,SG] at h
  erw[dj h.1]
  show(false||(M1 pos (Ml z env)).any (·.1))=false
  erw[Q h.2];rfl
section
variable{w:OR}{z:QC}{first:cp rr}{Q:rr->ow->Prop}
theorem hY{Y:cp LF}{Q:Args->ow->Prop}(U:Y.all aW=true)(h:rl M A (MV (M1 z (Ml Y w))) (λv V=>Q ⟨v,[]⟩ V) E s):rl M A (evalArgs f true (M1 z (Ml Y w)) []) Q E s:=by
 cases Y with
 | nil=>
  unfold evalArgs
  show rl M A (MV [] >>= _) Q E s
  refine ec (OD h (λv V k=>?_) λj j x=>x)
  refine Mc ?_
  exact ec (pe (ec (pe (pe k))))
 | cons e Y=>
  rw[QJ,SG] at U
  rw[dj U.1] at h ⊢
  exact evalArgs_plain h
def yU{P:M7->Prop}{U:cp LF}(v:U.all aW=true)(V:∀h,P h->∃k,(k=V0∨k=Vr∨k=UC)/\Looks M h (keeperOf f) k)
(h:rl M A (MV (M1 z (Ml U w))) (λvs Y=>P Y.heap/\rl M A (call f (first++vs)) Q E Y) E s):rl M A (VF z f first (M1 z (Ml U w)) []) Q E s:=
 callWith_of (by erw[gv v];rfl) V (hY v h)
def dA{id:RE}{U:cp LF}(v:U.all aW=true)
(h:rl M A (MV (M1 z (Ml U w))) (λvs Y=>rl M A (call (.builtin id) (first++vs)) Q E Y) E s):rl M A (VF z (.builtin id) first (M1 z (Ml U w)) []) Q E s:=
 callWith_builtin (gv v) (hY v h)
def iP{es:cp LF}(U:es.all aW=true)
(h:rl M A (MV (M1 z (Ml es w))) (λvs Y=>rl M A (call (.type T) (first++vs)) Q E Y) E s):rl M A (VF z (.type T) first (M1 z (Ml es w)) []) Q E s:=
 PySem.callWith_type (gv U) (hY U h)
end
section
variable{g:G}{env:OR}{z:cp (Lj×ki)}
def yV(U:g.hd=true)(F:FS g){st:St}{P:rr->ow->Prop}(o:OKA g A)
(R:Rep g J env z s st)(k:RVs s.heap w V)(O:g.Φ f V st.H Q)(p:∀v c y Y,RV y.heap v c->Rep g J env z y { st with H:=Y }->TK s.heap y.heap->Q c Y->P v y):rl (Lg g.prog g.w) A (call (.ref f) w) P E s:=
 SJ (F f w V A (frz s st.H) s st.H Q _ (o.f U) (R.ofr.bj R.H) R.H.bj k O λv c y Y k j l=>
  p v c y Y k (R.of (j.kM R.H.dP R.H.base) (R.H.tk j.keeps)) (R.H.tk j.keeps) l)
def kR{K:Rh}(Q:RA K f=true):∀h,K.In h->∃k,(k=V0∨k=Vr∨k=UC)/\Looks M h (keeperOf f) k:=λh X=>keeps_K Q h X
def ES.fn(O:g.Ok)(Y:g.hd=true)(F:FS g){U:cp LF}(T:env.kindOf x=aM .globalImplicit)(C:(x==Li "__debug__")=false)(V:P9 g.K LU x=aM (aM (.ref f)))
(k:RA g.K (.ref f)=true)(b:U.all aW=true)(h:ESs g env z y (MV (M1 w (Ml U env)))):ES g env z (.fn f y) (Mb (.Call (.Name x t) U [] w) env):=by
 intro A I s st Q X P E l R B n N
 refine SF (qY O R T C V ?_)
 refine yU (P:=g.K.In) b (kR k) (h.run l R B (λM d m a j J L J J o=>⟨L.H.inK O.X,?_⟩) N)
 exact yV Y F l L j o λv c D i V p J o=>n _ _ _ _ V p o
def jI{w Q:QC}{Y:cp LF}(l:bU o=true)(L:Y.all aW=true)(t:(w.endLine==Q.line)=true)(T:Y.length<30)
(h:rl (Lg g.prog g.w) A (Mb o env) (λf U=>∀c,rl (Lg g.prog g.w) A (getMethod f x c) (λO v=>rl (Lg g.prog g.w) A (VF Q O.1 O.2 (M1 Q (Ml Y env)) []) P E v) E U) E s) :
  rl (Lg g.prog g.w) A (Mb (.Call (.Attribute o x w) Y [] Q) env) P E s:=by
 (rewrite[arm_eval_Call];erw[v7 l])
 refine ec (OD h (λf U k=>ec (O1 ?_)) λp p e=>e)
 have V:Xx (Y.length+([]:cp Wu).length) (M1 Q (Ml Y env)) (backToKw Q (keywordEach [] env))=true:=by
  unfold Xx
  have:(M1 Q (Ml Y env)).all (λx=>!x.1)=true:=by
   have q:=QE.mp (gv (env:=env) (pos:=Q) L)
   exact M5.mpr λy C=>by
    have:=q y C
    cases e:y.1 with
    | false=>rfl
    | true=>exact p7 e this
  erw[this]
  show(true&&true&&decide (Y.length+0+0<30))=true
  simp[T]
 have j:XM true o env w Q=pure Q:=by unfold XM;simp[t]
 unfold methodCall
 erw[V]
 refine ec (Mc (OD (k _) (λO v J=>?_) λp p e=>e))
 exact ec (Vv j J)
def xE{n:ki}(q:dh w h Q a y)(Y:w[n]?=aM x)(U:Q n a=none):shadowIn (aM (Na y k)) x=aM false:=by
 have:=q.at_ n x Y
 rw[U] at this
 unfold shadowIn
 dsimp only
 (erw[pH q.dK _ _];erw[this])
 rfl
def ES.me(O:g.Ok)(L:g.hd=true)(F:FS g)(t:∀c m f,g.M c m=aM f->RA g.K (.ref f)=true){co:CE}{Y U:QC}{l:cp LF}(d:g.AN[m]?=aM x)(K:bU o=true)(i:l.all aW=true)(H:(Y.endLine==U.line)=true)(G:l.length<30)
(q:ES g env z co (Mb o env))(h:ESs g env z j (MV (M1 U (Ml l env)))):ES g env z (.me co m j) (Mb (.Call (.Attribute o x Y) l [] U) env):=by
 intro A Pr s st Q X P E T R hw hP e
 refine jI K i H G (q A Pr s st _ X _ E T R hw (λu c J b hu y hq=>λpl=>?_) e)
 refine iN hq λa C f p hc r S B w=>?_;subst p
 obtain rfl:=hu.c
 refine aA (O.T.Cv C m f S) λx' n hf ht=>?_
 obtain rfl:=ey (d.symm.trans n)
 refine fQ (y.H.yF hc r) λV dx N k h1 V V h4 h5=>?_
 have W:=O.T.cls C r
 have I:U8 J.heap a (Nb C dx) C (aM (Na N k)):=⟨h1,rfl,rfl,h4⟩
 refine method_fn (y.H.inK O.X) I W.ga W.gt hf ht (xE h5 d B) ?_
 refine yU (P:=g.K.In) i (kR (t _ _ _ S)) (h.run T y w (λvs cs s' z0 D V Z V V w=>⟨Z.H.inK O.X,?_⟩) e)
 exact yV L F T Z (.cons (.ref a) D) w λv c z1 H' hv M V w=>hP _ _ _ _ hv M w
def uF{g:G}(h:OKA g A)(e:g.hd=true)(C:LZ)(Q:cp rr):OKF g.fs g.n (A.under (.builtin "type.__call__" ⟨.ref C::Q,[]⟩)):=by
 have q1:(A.under (.builtin "type.__call__" ⟨.ref C::Q,[]⟩)).depth=A.depth+1:=rfl
 have q2:(A.under (.builtin "type.__call__" ⟨.ref C::Q,[]⟩)).units=A.units+1:=rfl
 have w:(Code.builtin "type.__call__" ⟨.ref C::Q,[]⟩).guards=[]:=rfl
 refine⟨h.handled e,?_,?_,?_,h.frames⟩
 ·erw[q2];exact uE (by decide) h.units
 ·erw[q1];exact uE (by decide) h.depth
 ·(erw[show(A.under (.builtin "type.__call__" ⟨.ref C::Q,[]⟩)).guards=pushGuards (Code.builtin "type.__call__" ⟨.ref C::Q,[]⟩).guards A.guards from rfl];erw[w];erw[h.guards]);rfl
def ES.nw(O:g.Ok)(L:g.hd=true)(F:FS g){t:cp LF}(T:RA g.K (.ref k)=true)(m:env.kindOf x=aM .globalImplicit)(i:(x==Li "__debug__")=false)(C:P9 g.K LU x=aM (aM (.ref k)))
(r:t.all aW=true)(h:ESs g env z J (MV (M1 j (Ml t env)))):ES g env z (.nw k J) (Mb (.Call (.Name x d) t [] j) env):=by
 intro A S s st Q X P E D R W Z K
 refine SF (qY O R m i C ?_)
 refine yU (P:=g.K.In) r (kR T) (h.run D R W (λvs G s' y B I Y I I u=>⟨Y.H.inK O.X,?_⟩) K)
 refine oA u λq w=>?_
 have n:=O.T.cls k q
 have nd:=bH s'.heap
 have M:∀o,s'.heap.get? (s'.heap.objs.size+1)≠aM o:=λo e=>p7 (LX e) (Os.mpr (MA _))
 have N:∀b o,s'.heap.get? b=aM o->((s'.heap.push Rr).push (Nb k s'.heap.objs.size)).get? b=aM o:=λb o e=>Lh _ (Lh _ e)
 have hx:((s'.heap.push Rr).push (Nb k s'.heap.objs.size)).get? (s'.heap.objs.size+1)=aM (Nb k s'.heap.objs.size):=by
  erw[Ng (M0 s'.heap Rr)];exact Lv _ rfl
 have a:((s'.heap.push Rr).push (Nb k s'.heap.objs.size)).get? s'.heap.objs.size=aM (Na [] 0):=Lh _ (Lv _ rfl)
 have R1:=Y.H.JY (s':={ s' with heap:=(s'.heap.push Rr).push (Nb k s'.heap.objs.size) }) N M nd hx a rfl rfl
 have U:Rep g S env z { s' with heap:=(s'.heap.push Rr).push (Nb k s'.heap.objs.size) } { y with H:=y.H.cR (s'.heap.objs.size+1) k }:=Y.of R1 (TK.aS N)
 refine SJ ?_
 refine make_core (makes_of (Y.H.inK O.X) n.J0) (UU (Y.H.inK O.X) n.init) (λp=>bind_fn (Y.H.inK O.X) p n.HO) (.inl rfl) ?_
 refine F (gq k) _ (.ref (s'.heap.objs.size+1)::G) _ (frz { s' with heap:=(s'.heap.push Rr).push (Nb k s'.heap.objs.size) } (y.H.cR (s'.heap.objs.size+1) k)) _ _ _ _ (uF D L _ _) (U.ofr.bj U.H) U.H.bj (.cons (.ref _) (B.mono (TK.aS N)))
  (w _ (Y.H.free M)) λv c z0 H' C f w=>?_
 refine oA w λl V=>?_;subst l
 cases C
 refine⟨rfl,Z _ _ _ _ (.ref _) ((U.of (f.kM U.H.dP U.H.base) (U.H.tk f.keeps))) V⟩
end
def RVs.one{h:M7}{z:cp rr}{Q:cp CV}{c:CV}(x:RVs h z Q)(e:Q=[c]):∃v,z=[v]/\RV h v c:=
 (e▸x:RVs h z [c]).c.elim λv y=>y.elim λr y=>⟨v,y.1.trans (dd _ y.2.2.c),y.2.1⟩
def RVs.J5{Q:cp rr}{c:CV}(x:RVs h Q [c,d]):∃u v,Q=[u,v]/\RV h u c/\RV h v d:=
 x.c.elim λu y=>y.elim λr y=>(y.2.2.one rfl).elim λv z=>⟨u,v,y.1.trans (dd _ z.1),y.2.1,z.2⟩
def q1(Q:Ps)(z:cp CV)(st:St):Prop:=match z with
 | []=>False
 | c::r=>match r with
  | []=>Q c st
  | _::_=>False
def q2(Q:CV->CV->St->Prop)(z:cp CV)(st:St):Prop:=match z with
 | []=>False
 | c::r=>q1 (Q c) r st
theorem HU{st:St}(q:q1 Q z st)(x:RVs h w z){Z:cp rr->Prop}(f:∀v c,RV h v c->Q c st->Z [v]):Z w:=by
 cases z with
 | nil=>exact q.elim
 | cons c r=>
  cases r with
  | nil=>exact(x.one rfl).elim λv y=>y.1▸f v c y.2 q
  | cons=>exact q.elim
theorem J6{st:St}(q:q2 Q z st)(x:RVs h w z){Z:cp rr->Prop}(f:∀u v c d,RV h u c->RV h v d->Q c d st->Z [u,v]):Z w:=by
 cases z with
 | nil=>exact q.elim
 | cons c r=>exact x.c.elim λu y=>y.elim λY y=>y.1▸HU (Z:=λl=>Z (u::l)) q y.2.2 λv d=>f u v c d y.2.1
section
variable{g:G}{w:OR}{Y:cp (Lj×ki)}
abbrev lsO(z:Mv rr)(n:ki):Obj:={ cls:=.type "list",dict:=none,data:=.seq z n,slots:=#[] }
def Rep.CJ{st:St}(R:Rep g U w Y s st){a:ki}{f:Mv rr->Mv rr}(v:st.H.lst a=aM l)(y:s.heap.get? a=aM { cls:=.type "list",dict:=none,data:=.seq Q n,slots:=#[] })
(V:RVs s.heap (f Q).toList m)(j:m.length<=szl):Rep g U w Y { s with heap:=s.heap.update a (M6 f),toks:=k } { st with H:=st.H.aD a m }:=by
 have J:∃O,(s.heap.update a (M6 f)).get? a=aM (lsO (f Q) O):=⟨_,LN _ y rfl⟩
 have z:∀b,b≠a->(s.heap.update a (M6 f)).get? b=s.heap.get? b:=λb z=>MF _ _ (Ma z)
 have t:TK s.heap (s.heap.update a (M6 f)):=.upd y yB z
 exact R.of (s':={ s with heap:=s.heap.update a (M6 f),toks:=k }) (R.H.aD z J (V.mono t) j (R.H.lst a l v).1 (λo e=>ey (y.symm.trans e)▸rfl) rfl rfl) t
def jJ{H:CH}(R:av g.w g.AN g.os g.h₀ U s H){a:ki}(e:H.lst a=aM l):∃y n,s.heap.get? a=aM { cls:=.type "list",dict:=none,data:=.seq y n,slots:=#[] }/\RVs s.heap y.toList l/\l.length<=szl/\y.size=l.length:=by
 refine Ey (R.lst a l e) λv z y Q r=>?_;obtain⟨n,h⟩:=Q
 exact⟨y,n,h,r,z,r.size⟩
def i7{A:MQ}{s:ow}{a:ki}(h:s.heap.get? a=aM o)(z:o.dict=none):∀b,OT a=.ref b->∃o,s.heap.get? b=aM o/\o.dict=none:=λb e=>⟨o,Value.ref.inj e▸h,z⟩
section
variable{z:Op}{st:St}{X:No}
def ESs.mW{k:CE}(h:ESs g w Y [k] t){P:cp rr->ow->Prop}(j:OKA g A)(R:Rep g z w Y s st)(J:wpE g.Φ g.M k st Q X)
(o:∀v c s' y,RV s'.heap v c->Rep g z w Y s' y->sI s st.H s'->TK s.heap s'.heap->Q c y->P [v] s')(O:EOk g A z w Y X E):rl (Lg g.prog g.w) A t P E s:=
 h.run (Q:=q1 Q) j R J (λvs T s' y U x p f L V=>HU (Z:=λl=>P l s') V U λv c U V=>o v c s' y U p f L V) O
def ESs.FI{j:CE}(h:ESs g w Y [j,J] t){Q:CV->CV->St->Prop}{P:cp rr->ow->Prop}(o:OKA g A)(R:Rep g z w Y s st)(O:wpE g.Φ g.M j st (λx st=>wpE g.Φ g.M J st (λy st=>Q x y st) X) X)
(p:∀u v c d s' U,RV s'.heap u c->RV s'.heap v d->Rep g z w Y s' U->Q c d U->P [u,v] s')(f:EOk g A z w Y X E):rl (Lg g.prog g.w) A t P E s:=
 h.run (Q:=q2 Q) o R O (λC b s' U V B L n N k=>J6 (Z:=λl=>P l s') k V λu v c d T V k=>p u v c d s' U T V L k) f
def mX{x:Lj}{id:RE}{f:cp LF}{U V:QC}{K:ki->St->Prop}(B:Slot "list" x id)(N:V7 (.builtin id)=pure (.type "method_descriptor"))(D:bU o=true)(t:f.all aW=true)(I:(U.endLine==V.line)=true)(M:f.length<30)
(h:ES g w Y L (Mb o w))(d:OKA g A)(R:Rep g z w Y s st)(m:wpE g.Φ g.M L st (λu st=>∃a l,u=.ref a/\st.H.lst a=aM l/\K a st) X)(i:EOk g A z w Y X E)
(k:∀a T p,Rep g z w Y T p->K a p->rl (Lg g.prog g.w) A (MV (M1 V (Ml f w))) (λC Q=>rl (Lg g.prog g.w) A (call (.builtin id) (.ref a::C)) P E Q) E T):rl (Lg g.prog g.w) A (Mb (.Call (.Attribute o x U) f [] V) w) P E s:=
 jI D t I M (h A z s st _ X _ E d R m (λu c Q j e v r W=>by
  refine aX r λa b J S O=>?_;subst J
  obtain rfl:u=.ref a:=e.c
  exact(jJ v.H S).elim λC y=>y.elim λn y=>Wr ⟨_,y.1,rfl⟩ F.plainAttrs_list B N (i7 (A:=A) y.1 rfl) (dA t (k a Q j v O))) i)
def mY{x:Lj}{id:RE}{p:cp LF}{U V:QC}{K:ki->St->Prop}(C:Slot "dict" x id)(b:V7 (.builtin id)=pure (.type "method_descriptor"))(B:bU o=true)(t:p.all aW=true)(n:(U.endLine==V.line)=true)(N:p.length<30)
(D:ES g w Y L (Mb o w))(I:OKA g A)(R:Rep g z w Y s st)(M:wpE g.Φ g.M L st (λu st=>∃a l,u=.ref a/\st.H.dct a=aM l/\K a st) X)(h:EOk g A z w Y X E)
(k:∀a s' f,Rep g z w Y s' f->K a f->rl (Lg g.prog g.w) A (MV (M1 V (Ml p w))) (λd Q=>rl (Lg g.prog g.w) A (call (.builtin id) (.ref a::d)) P E Q) E s'):rl (Lg g.prog g.w) A (Mb (.Call (.Attribute o x U) p [] V) w) P E s:=
 jI B t n N (D A z s st _ X _ E I R M (λu c Q j m v i r=>by
  refine aX i λa T J e O=>?_;subst J
  obtain rfl:u=.ref a:=m.c
  exact(v.H.dct a _ e).2.2.2.elim λp y=>Wr ⟨_,y.1,rfl⟩ F.plainAttrs_dict C b (i7 (A:=A) y.1 rfl) (dA t (k a Q j v O))) h)
end
def ES.ap{co T:CE}{e:LF}{z y:QC}(n:bU o=true)(N:[e].all aW=true)(j:(z.endLine==y.line)=true)(D:ES g w Y co (Mb o w))(h:ESs g w Y [T] (MV (M1 y (Ml [e] w)))) :
  ES g w Y (.ap co T) (Mb (.Call (.Attribute o "append" z) [e] [] y) w):=λA W s st Q X P E x R I M C=>
 mX Sw F.type_list_append n N j (NJ rfl) D x R I C λa b J k O=>h.mW x k O (λv c s' d m B i i O=>by
  refine aA O λl j r U=>?_
  refine bG (jJ B.H j) λp S V f L t=>?_
  exact T8 Sw (⟨_,V,rfl⟩:s'.TypeIs (.ref a) "list") Vs (Va _ _) (Yl a p S v (t▸L)) ⟨V,M _ _ _ _ .none (B.CJ (k:=s'.toks) j V (by erw[Ov];exact f.append (.cons m .nil)) (by erw[GE];exact r)) U⟩) C
def ES.po{co D:CE}{e:LF}{U V:QC}(r:bU o=true)(S:[e].all aW=true)(L:(U.endLine==V.line)=true)(W:ES g w Y co (Mb o w))(h:ESs g w Y [D] (MV (M1 V (Ml [e] w)))) :
  ES g w Y (.po co D) (Mb (.Call (.Attribute o "pop" U) [e] [] V) w):=λA Pr s st Q X P E I R Z K M=>
 mX Wx F.type_list_pop r S L (NJ rfl) W I R Z M λa d T J C=>h.mW I J C (λv c s' H G m u u C=>by
  refine aX C λx l k L j=>?_;subst k
  refine oE G.c λt O=>?_;subst O
  refine bG (jJ m.H L) λp n' z B f n=>?_;obtain⟨ws⟩:=p
  refine aX ((show RVs s'.heap ws (x::l) from B).c) λy i e hy N=>?_
  subst e
  refine T8 Wx (⟨_,z,rfl⟩:s'.TypeIs (.ref a) "list") F.entry_list_pop (F.args_list_pop_2 _ _) (MeetsSeq.list_pop_at a _ n' 0 _ 0 y (by decide) (uC (Ol _) (show(0:Nj)<((y::i).toArray.size:Nj) from MP.mpr (MO i.length))) rfl (n▸f)) ⟨z,?_⟩
  exact K _ _ _ _ (hy.mono (.upd z yB λb q=>MF _ _ (Ma q))) (m.CJ (k:=s'.toks) L z (by simpa using N) (Su f)) j) M
def ES.ins{co N:CE}{i:LF}{z y:QC}(H:bU o=true)(G:[i,e].all aW=true)(t:(z.endLine==y.line)=true)(q:ES g w Y co (Mb o w))(h:ESs g w Y [N,D] (MV (M1 y (Ml [i,e] w)))) :
  ES g w Y (.ins co N D) (Mb (.Call (.Attribute o "insert" z) [i,e] [] y) w):=λA Pr s st Q X P E I R hw hP M=>
 mX VS F.type_list_insert H G t (NJ rfl) q I R hw M λa m x J C=>h.FI I J C (λu v c d r z0 hu hv S C=>by
  refine qS C λl j O W t T U=>?_;subst O
  refine oE hu.c λB p=>?_;subst p
  refine bG (jJ S.H t) λvs' n' V f z1 L=>?_
  have n:vs'.size<=64:=L▸y1 T
  have Z:¬(!Builtin.List.listFitsIndex (j:Nj))=true:=by
   erw[show Xo (j:Nj)=true from fitsIndex_both (MG (by decide) (Ms j)) (Sg (NW.mpr (cy W (y1 T))) (by decide))];decide
  have K:(if (j:Nj)<0 then((j:Nj)+vs'.size).toNat else min (j:Nj).toNat vs'.size)=j:=by(erw[E1 (O4.mpr (Ms j))];erw[Oz _];erw[L];exact LH (Ta W) rfl)
  generalize (j:Nj)=k at Z K ⊢
  have e:((vs'.extract 0 j).push v++vs'.extract j).toList=vs'.toList.take j++v::vs'.toList.drop j:=by
   (erw[Uq];erw[Ov];erw[Ul];erw[Ul];rewrite[M9];erw[singleton_append])
   exact dd (λb=>vs'.toList.take j++v::b) (TQ (by erw[NL];exact Lf _))
  exact T8 VS (⟨_,V,rfl⟩:r.TypeIs (.ref a) "list") F.entry_list_insert (F.args_list_insert_3 _ _ _) (AutoSeq1.list_insert_list_int_val_1 a vs' n' k B v Z (cy n (by decide))) ⟨V,hP _ _ _ _ .none (S.CJ (k:=r.toks) t V (by
   show RVs _ ((vs'.extract 0 (if k<0 then(k+vs'.size).toNat else min k.toNat vs'.size)).push v++vs'.extract (if k<0 then(k+vs'.size).toNat else min k.toNat vs'.size)).toList _
   (erw[K];erw[e])
   exact(f.take j).append (.cons hv (f.drop j))) (by(erw[GE];erw[NN];erw[Vm];erw[NL]);exact cy (LY (PX _ _) (Lw (Qx _ _))) (cy (LY (y1 T) (Lw (y1 T))) (by decide)))) U⟩) M
def pI(z:OKA g A):A.in1.units+20<cLine:=eF (show A.units+21<=A.units+200 * g.n+150 from LY (LA _ _) (by decide)) z.units
def ES.ge(O:g.Ok){co C:CE}{k:LF}{U V:QC}(D:bU o=true)(I:[k,d].all aW=true)(l:(U.endLine==V.line)=true)(M:ES g w Y co (Mb o w))(h:ESs g w Y [C,b] (MV (M1 V (Ml [k,d] w)))) :
  ES g w Y (.ge co C b) (Mb (.Call (.Attribute o "get" U) [k,d] [] V) w):=λA Pr s st Q X P E L R m B n=>
 mY Ry Wv D I l (NJ rfl) M L R m n λa N t J T=>h.FI L J T (λu v c d i r S W f T=>by
  refine aA T λj l Z z=>?_
  refine eX (f.H.dct a j l) λK H ζ G p x=>?_
  exact ML Ry (⟨_,p,rfl⟩:i.TypeIs (.ref a) "dict") We (uy (A:=A.in1) (f.H.mQ O.T K) (pI L) S Z p x H (λe k=>B _ _ _ _ W (f.toks k) ((show(aw j c).getD d=d from dd (NS · d) e)▸z)) λy q e hy k=>B _ _ _ _ hy (f.toks k) ((show(aw j c).getD d=q from dd (NS · d) e)▸z)) (F.args_dict_get_3 _ _ _)) n
def ES.ge1(O:g.Ok){co C:CE}{k:LF}{z U:QC}(I:bU o=true)(M:[k].all aW=true)(L:(z.endLine==U.line)=true)(d:ES g w Y co (Mb o w))(h:ESs g w Y [C] (MV (M1 U (Ml [k] w)))) :
  ES g w Y (.ge co C (.c .none)) (Mb (.Call (.Attribute o "get" z) [k] [] U) w):=λA q s st Q X P E t R m b B=>
 mY Ry Wv I M L (NJ rfl) d t R m B λa n T J j=>h.mW t J j (λu c i p r l N N j=>by
  refine aA (show ∃D,p.H.dct a=aM D/\c.az=true/\Q ((aw D c).getD .none) p from j) λV L S j=>?_
  refine eX (l.H.dct a V L) λW Z N K f x=>?_
  exact ML Ry (⟨_,f,rfl⟩:i.TypeIs (.ref a) "dict") We (sM (A:=A.in1) (l.H.mQ O.T W) (pI t) r S f x Z (λe k=>b _ _ _ _ .none (l.toks k) ((show(aw V c).getD .none=.none from dd (NS · CV.none) e)▸j)) λy H e G k=>b _ _ _ _ G (l.toks k) ((show(aw V c).getD .none=H from dd (NS · CV.none) e)▸j)) (F.args_dict_get_2 _ _)) B
def CL(x:RVs h v l):(∀z∈l,∃s:Lj,z=.str s/\s.cps.size<64)->∃Q:cp Lj,RD v Q/\Q.length=l.length/\(Q.map (·.length)).sum<=l.length * 64:=
 x.ind (P:=λv l=>(∀z∈l,∃s:Lj,z=.str s/\s.cps.size<64)->∃Q:cp Lj,RD v Q/\Q.length=l.length/\(Q.map (·.length)).sum<=l.length * 64) (λk=>⟨[],.nil,rfl,Lf _⟩) λa k j V=>by
  refine oEA (V _ fp) λs y J=>?_;subst y
  refine aA (j λz o=>V z (oo _ o)) λQ O p f=>?_
  refine oE a.c λt U=>?_;subst U
  exact⟨s::Q,.cons _ _ O,dd Pj p,by(erw[Nv];erw[sum_cons];erw[NN];erw[WK _ _];erw[Nk _ _]);exact LY f (y1 J)⟩
def ES.jo{co C:CE}{e:LF}{U V:QC}(m:bU o=true)(b:[e].all aW=true)(i:(U.endLine==V.line)=true)(r:ES g w Y co (Mb o w))(h:ESs g w Y [C] (MV (M1 V (Ml [e] w)))) :
  ES g w Y (.jo co C) (Mb (.Call (.Attribute o "join" U) [e] [] V) w):=by
 intro A F s st Q X P E B R S W n
 refine jI m b i (NJ rfl) (r A F s st _ X _ E B R S (λu c N x Z f K=>λpl=>?_) n)
 refine oEA K λt j y=>?_;subst j
 refine oE Z.c λt0 J=>?_;subst J
 with_reducible refine GM.join ?_
 refine dA b (h.mW B f y (λv c s' H G q D D y=>?_) n)
 refine uu y λl I O M L p=>?_;subst O
 refine bG G.c λa vs T h1 D h3=>?_;subst T
 refine aA (CL h3 L) λys g1 g2 g3=>?_
 have d:(ys.map (·.length)).sum+ys.length * 64<=8192:=g2▸cy (MJ g3 _) (by rw[← Xg];exact RH 64 (LY (y1 M) (y1 M)))
 refine join_tupleC h1 g1 (cy (p8 I) (by decide)) (cy d (by decide)) λt' k=>W _ _ _ _ (.str _ _) (q.toks k) (p _ ?_)
 have z:=StrLaws.join_length_le t ys
 rw[show t.length=1 from I] at z
 erw[show Txt.join t ys=join t ys by first | rfl | exact StrLaws.glued_eq_join t ys]
 exact eF (cy z (cy (Ls (NA _ (by decide)) _) d)) (by decide)
section
variable{z:Op}{st:St}{c:CV}{Q:Ps}{P:rr->ow->Prop}
theorem EG(O:g.Ok)(R:Rep g z w Y s st)(o:RV s.heap v c)(L:POk g z w Y Q P)(h:Fs c st Q):rl (Lg g.prog g.w) A (call (.builtin "len") [v]) P E s:=by
 refine aA h λn J C T=>?_
 have y:(n:Nj)<2 ^ 63:=Sg (NW.mpr C) (by decide)
 have U:=λt k=>L (.int n t) _ { s with toks:=k } _ (.int _ _) (R.toks _) T
 clear L T
 cases c with
 | str x=>
  refine oE o.c λt V=>?_;subst V
  obtain rfl:x.cps.size=n:=ey J
  exact YJ (Po.mpr y) (U _ _)
 | tup l=>
  refine bG o.c λa p j f b B=>?_;subst j
  obtain rfl:p.size=n:=B.size.trans (ey J)
  exact QA kind_len Wy WD (Y5 _) (len_body_tuple f y (U _ _))
 | ref a=>
  obtain rfl:v=.ref a:=o.c
  refine oEA (Me.mp J) λl N D=>?_
  refine aA (R.H.cr N) λp f I b=>?_
  obtain rfl:p.size=n:=I.size.trans D
  exact call_len_list f y (U _ _)
 | _=>exact nos J
def FJ(O:g.Ok)(l:g.hd=true)(C:FS g)(V:Oq g.K (.ref 100) "__len__"=aM (aM (.ref 83)))(j:To g.K (.ref 83)=aM (.type "function"))(J:OKA g A)(y:Rep g z w Y s st){a:ki}(b:st.H.cls a=aM 100)(B:POk g z w Y Q P)
(L:g.Φ 83 [.ref a] st.H λr H=>∃n:ki,r=.int n/\n<2 ^ 30/\Q r { st with H:=H }):rl (Lg g.prog g.w) A (call (.builtin "len") [.ref a]) P E s:=by
 refine fQ (y.H.yF b rfl) λx N T k D x x M e=>?_
 have I:U8 s.heap a (Nb 100 N) 100 (aM (Na T k)):=⟨D,rfl,rfl,M⟩
 have h:=y.H.inK O.X
 refine QA kind_len Wy WD (Y5 _) ?_
 unfold PB.«len»
 refine ec (m:=oneArg "len" _) (pe (ec (m:=UY (.ref a) (Li "__len__")) (special_fn h I V j ?_)))
 refine SJ (C 83 [.ref a] [.ref a] A.in1 (frz s st.H) s st.H _ _ ⟨J.handled l,uE (by decide) J.units,eF (Ls (by decide) _) J.depth,J.guards,J.frames⟩ (y.ofr.bj y.H) y.H.bj (.cons (.ref a) .nil) L
  λr c d F m o L=>?_)
 refine aA L λn p i U=>?_;subst p
 refine oE m.c λt f=>?_;subst f
 refine ec (Mc (pe (ec (Ye ?_))))
 show rl _ _ (if ((n:ki):Nj)<0 then _ else _) _ _ _
 erw[E1 (O4.mpr (Ms n))]
 show rl _ _ (if ((n:ki):Nj)≥2 ^ 63 then _ else _) _ _ _
 erw[E1 (Po.mpr (O6 (MP.mpr i) (by decide)))]
 exact ec (Vw (pe ⟨_,rfl,B _ _ _ _ (.int _ _) ((y.of (o.kM y.H.dP y.H.base) (y.H.tk o.keeps)).toks _) U⟩))
end
def ES.len(O:g.Ok)(k:g.hd=true)(t:FS g)(z:Oq g.K (.ref 100) "__len__"=aM (aM (.ref 83)))(y:To g.K (.ref 83)=aM (.type "function")){l:CE}{e:LF}(x:w.kindOf "len"=aM .globalImplicit)(V:P9 g.K LU "len"=aM none)(C:[e].all aW=true)
(h:ESs g w Y [l] (MV (M1 U (Ml [e] w)))):ES g w Y (.b1 .len l) (Mb (.Call (.Name "len" T) [e] [] U) w):=by
 intro A N s st Q X P E L R b j B
 refine SF (bT (v:=.builtin "len") O R x (by decide) (by decide) V rfl ?_)
 refine dA C (h.mW L R b (λv c D J V o n n p=>?_) B)
 cases c with
 | ref a=>
  by_cases f:J.H.cls a=aM 100
  ·exact(V.c:v=.ref a)▸FJ O k t z y L o f j (cast (K2 f) p)
  ·exact EG O o V j (cast (E1 f) p)
 | _=>exact EG O o V j p
def Rep.EH{s':ow}{st:St}(R:Rep g z w Y s st)(k:∀b o,s.heap.get? b=aM o->s'.heap.get? b=aM o)(v:s'.os=s.os)(V:s'.gens=s.gens){a:ki}(j:∀o,s.heap.get? a≠aM o)
(y:PL s'.heap a Q)(J:RVs s.heap Q.toList l)(O:l.length<=szl):Rep g z w Y s' { st with H:=st.H.aD a l }:=by
 have U:=R.ext k v V
 exact U.of (U.H.aD (λf f=>rfl) y (J.mono (TK.aS k)) O (λo p=>let ⟨t,e,_⟩:=R.H.b7 _ o p;j t e) (λo e=>y.elim λn h=>ey (h.symm.trans e)▸rfl) rfl rfl) (TK.refl _)
def ES.list(O:g.Ok){N:CE}{e:LF}(d:w.kindOf "list"=aM .globalImplicit)(t:P9 g.K LU "list"=aM none)(i:[e].all aW=true)
(h:ESs g w Y [N] (MV (M1 y (Ml [e] w)))):ES g w Y (.b1 .list N) (Mb (.Call (.Name "list" M) [e] [] y) w):=by
 intro A Pr s st Q X P E r R F S W
 refine SF (bT (v:=.type "list") O R d (by decide) (by decide) t rfl ?_)
 refine iP i (h.mW r R F (λv c s' Z t C b b K=>?_) W)
 refine aA K λl B D z=>?_
 have U:∀(x:LZ) (T:RE) (o:P0) (ai:Mv rr) (n:ki),(T="list"∨T="tuple")->s'.heap.get? x=aM o->o.cls=.type T->o.data=.seq ai n->RVs s'.heap ai.toList l->rl (Lg g.prog g.w) A (call (.type "list") [.ref x]) P E s':=λx T o ai n H V j J I=>
  call_list_seq x H V j J (λG c' k u=>S _ _ _ _ (.ref _) (C.EH (s':={ s' with heap:=G }) k rfl rfl (bH _) ⟨_,u⟩ I D) (z _ (C.H.free (bH _)))) (cy (p8 I.size) D)
 cases c with
 | tup m=>
  refine bG t.c λa q p f b h3=>?_;subst p;obtain⟨o,V,j,n,J⟩:=f
  exact U _ "tuple" o _ n (.inr rfl) V j J (ey B▸h3)
 | ref a=>
  refine aA (C.H.cr B) λq L h2 b=>?_;obtain⟨o,V,j,n,J⟩:=L
  exact(t.c:v=.ref a)▸U _ "list" o _ n (.inl rfl) V j J h2
 | _=>exact nos B
def ES.tuple(O:g.Ok){T:CE}{e:LF}(D:w.kindOf "tuple"=aM .globalImplicit)(V:P9 g.K LU "tuple"=aM none)(I:[e].all aW=true)
(h:ESs g w Y [T] (MV (M1 y (Ml [e] w)))):ES g w Y (.b1 .tuple T) (Mb (.Call (.Name "tuple" N) [e] [] y) w):=by
 intro A W s st Q X P E M R d x i
 refine SF (bT (v:=.type "tuple") O R D (by decide) (by decide) V rfl ?_)
 refine iP I (h.mW M R d (λv c s' r V p F F S=>?_) i)
 refine aA S λl f C z=>?_
 cases c with
 | tup m=>
  refine bG V.c λa L U j J B=>?_;subst U
  obtain rfl:=ey f
  exact call_tuple_same j (x _ _ _ _ (.tup j J B) p z)
 | ref a=>
  refine aA (p.H.cr f) λL j J B=>?_
  refine(V.c:v=.ref a)▸call_tuple_list j (λt k=>?_) (cy (p8 J.size) C)
  have n:∀b o,s'.heap.get? b=aM o->(t.push { cls:=.type "tuple",data:=.seq L }).get? b=aM o:=λb o e=>aR t _ b o (k b o e)
  exact x _ _ _ _ (.tup ⟨_,Lv _ rfl,rfl,_,rfl⟩ C (J.mono (TK.aS n))) (p.ext (s':={ s' with heap:=t.push { cls:=.type "tuple",data:=.seq L } }) n rfl rfl) z
 | _=>exact nos f
def ES.sx(O:g.Ok)(k:w.kindOf "set"=aM .globalImplicit)(j:P9 g.K LU "set"=aM none):ES g w Y .sx (Mb (.Call (.Name "set" V) [] [] y) w):=by
 intro A p s st Q X P E f R J o l
 refine SF (bT (v:=.type "set") O R k (by decide) (by decide) j rfl ?_)
 refine iP (es:=[]) rfl (Si ?_)
 refine call_set_0 λz=>?_
 have U:=aR s.heap { cls:=.type "set",dict:=none,data:=.set #[] 0 (.fresh 0 0 z) }
 exact o _ _ _ _ (.ref _) (R.of (R.H.JZ (s':={ s with heap:=s.heap.push { cls:=.type "set",dict:=none,data:=.set #[] 0 (.fresh 0 0 z) } }) U (bH _) (Lv _ rfl) rfl rfl rfl rfl) (TK.aS U)) (J _ (R.H.free (bH _)))
def ES.mn(O:g.Ok)(p:g.hd=true){l:CE}{a:LF}(N:w.kindOf "min"=aM .globalImplicit)(f:P9 g.K LU "min"=aM none)(D:[a,b].all aW=true)
(h:ESs g w Y [l,L] (MV (M1 y (Ml [a,b] w)))):ES g w Y (.mn l L) (Mb (.Call (.Name "min" n) [a,b] [] y) w):=by
 intro A F s st Q X P E t R I T M
 refine SF (bT (v:=.builtin "min") O R N (by decide) (by decide) f rfl ?_)
 refine dA D (h.FI t R I (λu v c d s' m e f x r=>?_) M)
 refine aX r λi j U V z=>?_;subst U;subst V
 refine oE e.c λS J=>?_;subst J
 refine oE f.c λW o=>?_;subst o
 refine min_two_ints (t.handled p) λC B k=>?_
 by_cases q:j<i
 ·erw[K2 q]
  rw[VR (Rg q)] at z
  exact T _ _ _ _ (.int _ _) (x.ext (s':={ s' with heap:=C,toks:=B }) k rfl rfl) z
 ·erw[E1 q]
  rw[V1 (O4.mp q)] at z
  exact T _ _ _ _ (.int _ _) (x.ext (s':={ s' with heap:=C,toks:=B }) k rfl rfl) z
def ES.d0:ES g w Y .d0 (Mb (.Dict [] [] z) w):=by
 intro A V s st Q X P E k R y U j
 erw[eval_Dict_empty _]
 refine ec (O1 ?_)
 exact Og (U _ _ _ _ (.ref _) R.pa (y _ (R.H.free (bH _))))
end
section
variable{w:MY}{os:NG}{z:M7}{Q:Op}{s':ow}{H:CH}
def av.ia(R:av w Y os z Q s H){wr:cp LZ}(k:∀b o,b∉wr->s.heap.get? b=aM o->s'.heap.get? b=aM o)(V:∀b∈wr,(∀o,¬ Q b o)/\¬ Own s.heap H b/\∀O,¬ Qn s.heap b O)
(L:s'.os=s.os)(T:s'.gens=s.gens):av w Y os z Q s' H/\TK s.heap s'.heap:=by
 have t:TK s.heap s'.heap:=λb O x=>x.elim λo y=>⟨o,k b o (λU=>(V b U).2.2 O x) y.1,y.2⟩
 have v:∀b o,Own s.heap H b->s.heap.get? b=aM o->s'.heap.get? b=aM o:=λb o U e=>k b o (λh=>(V b h).2.1 U) e
 have j:∀{a c},H.cls a=aM c->Own s.heap H a:=λe=>.inr (.inr (.inl (e▸Lm _)))
 exact⟨{
  os:=L.trans R.os
  gens:=T.trans R.gens
  base:=R.base
  b7:=λb o p=>(R.b7 b o p).imp λC y=>⟨k b C (λU=>(V b U).1 o p) y.1,y.2⟩
  old:=λb o e=>k b o (λU=>(V b U).1 o (R.base b o e)) (R.old b o e)
  ro:=λa l e=>(R.ro a l e).ay t
  lst:=λa l e=>⟨(R.lst a l e).1,(R.lst a l e).2.ay t λo q g=>v a o (.inl (e▸Lm _)) q⟩
  dct:=λa l e=>⟨(R.dct a l e).1,(R.dct a l e).2.ay t λo q g=>v a o (.inr (.inl (e▸Lm _))) q⟩
  ins:=λa c e=>⟨(R.ins a c e).1,(R.ins a c e).2.ay t (λo q g=>v a o (j e) q) (λJ q=>v a _ (j e) q) λJ B n q1 N q y=>⟨N,B,n,v J _ (.inr (.inr (.inr ⟨a,c,_,e,q1,rfl⟩))) q,y⟩⟩
  one:=λa b c d J f U A D=>R.one a b c d J f U ((R.ins a c f).2.jf (λo=>v a o (j f)) A) ((R.ins b d U).2.jf (λo=>v b o (j U)) D)
  att:=R.att },t⟩
end
inductive yW(prog:Ow)(w:MY)(h:M7)(es:cp MH)(kvs:cp (CV×CV)):Prop
 | mk (lvs:cp (Lj×rr)) (h1:Pairs (Rz prog w) es lvs) (h2:lvs.length=kvs.length) (h3:(lvs.map (·.1)).Nodup) (h4:∀e∈es,∃k,(Rz prog w).is k e.key=true/\e.hash=(Rz prog w).hash k)
   (h5:∀(i:ki) (k v:CV),kvs[i]?=aM (k,v)->∃x u,lvs[i]?=aM (x,u)/\k=CV.str x/\RV h u v) (h6:∀x∈lvs.map (·.1),CV.str x∈kvs.map (·.1))
theorem fC(x:REs w h U z):z.all (λp=>isS p.1)=true->(z.map (·.1)).Nodup->yW prog w h U z:=
 x.ind (P:=λU z=>z.all (λp=>isS p.1)=true->(z.map (·.1)).Nodup->yW prog w h U z) (λQ Q=>⟨[],.nil,rfl,LR,(λQ h=>p7 h Le),(λQ Q Q h=>nomatch h),(λQ h=>p7 h Le)⟩) λ{e k v U z} a b c d r f V j=>by
  have V:=rv.mp V
  have j:=Mf.mp j
  obtain⟨J,g,l,L,T,C,O⟩:=f V.2 j.2
  cases k with
  | str x=>
   refine oE c.c λt B=>?_
   have Y:(Rz prog w).is x e.key=true:=by erw[B];exact TX prog w x t
   exact⟨(x,e.val)::J,.cons Y rfl g,dd Pj l,Mf.mpr ⟨λn=>j.1 (O x n),L⟩,λN o=>(ta.mp o).elim (λq=>q▸⟨x,Y,a⟩) (T N),λi k v Y=>by
    cases i with
    | zero=>exact⟨x,_,rfl,(dd PZ (ey Y)).symm,Eq.mp (dd (λp:CV×CV=>RV h e.val p.2) (ey Y)) d⟩
    | succ i=>exact C i k v Y,λy A=>(ta.mp A).elim (λq=>q▸fp) λq=>oo _ (O y q)⟩
  | _=>exact ff V.1
section
open AutoSeq1 (wpAny_loadPart')
set_option maxRecDepth 100000 in
theorem sN(t:LZ)(o:P0)(ai:Mv rr)(n:ki)(U:o.cls=.type "tuple")(v:o.data=.seq ai n) :
  Meets (PB.«enumerate.__new__» ⟨[.type "enumerate",.ref t],[]⟩) (λJ R s=>s.heap.get? t=aM o/\
   R (.ok (.ret (.ref (s.heap.push { cls:=.type "tuple_iterator",data:=.fields #[.ref t,.int 0 0] }).objs.size)))
    {s with heap:=(s.heap.push { cls:=.type "tuple_iterator",data:=.fields #[.ref t,.int 0 0] }).push { cls:=.type "enumerate",data:=.fields #[.none,.bool false,.ref s.heap.objs.size,Nx 0,.none,.none] } }):=
 .of_wp λy w A R s h=>by
  obtain⟨V,g,d,k,os⟩:=s;refine oA h λQ z=>?_
  have Y:=sub_enumerate
  have j:Heap.IsTuple (Shared.heap ⟨V,g,d,k,os⟩) t ai:=⟨_,Q,U,n,v⟩
  wp_walk using WX Q
  refine wpAny_stack_any λst=>pe ?_
  generalize Builtin.SmallTypes.calledThroughType.match_1 _ _ _ _=b
  cases b <;>
  ·wp_walk using WX Q,SH j
   exact⟨_,rfl,z⟩
section
variable{z:Ow}{w:MY}{A:MQ}{E:rr->ow->Prop}{s:ow}
def uG{ai:Mv rr}{Q:rr->ow->Prop}(V:s.heap.IsTuple t ai)
(h:∀y,Tv y (s.heap.objs.size+1) s.heap.objs.size 0 .none->y.IsTupleIter s.heap.objs.size t 0->y.objs.size=s.heap.objs.size+2->
   (∀b o,s.heap.get? b=aM o->y.get? b=aM o)->Q (.ref (s.heap.objs.size+1)) { s with heap:=y }) :
  rl (Lg z w) A (call (.type "enumerate") [.ref t]) Q E s:=by
 refine i6 V λo k j n J=>?_
 refine callType_new F.called_enumerate (by decide) (F.typeCall_enumerate_1 _) (F.newCall_enumerate_1 _) (λY=>F.args_object_init_2 Y _) F.entry_enumerate_new
  (sN t o ai n j J) ⟨k,?_⟩
 have U:(s.heap.push { cls:=.type "tuple_iterator",data:=.fields #[.ref t,.int 0 0] }).objs.size=s.heap.objs.size+1:=M0 ..
 show _/\_
 erw[U]
 have v:Tv ((s.heap.push { cls:=.type "tuple_iterator",data:=.fields #[.ref t,.int 0 0] }).push
   {cls:=.type "enumerate",data:=.fields #[.none,.bool false,.ref s.heap.objs.size,Nx 0,.none,.none] }) (s.heap.objs.size+1) s.heap.objs.size 0 .none:=by
  have:=Lv (s.heap.push { cls:=.type "tuple_iterator",data:=.fields #[.ref t,.int 0 0] })
   (o:={ cls:=.type "enumerate",data:=.fields #[.none,.bool false,.ref s.heap.objs.size,Nx 0,.none,.none] }) rfl
  rw[U] at this;exact this
 refine⟨⟨_,v,rfl⟩,h _ v ⟨_,Lh _ (Lv _ rfl),rfl,rfl⟩ (by(erw[M0 _ _];exact LH U rfl)) λb o x=>Lh _ (Lh _ x)⟩
def uH{ai:Mv rr}{Q:rr->ow->Prop}(y:s.heap.IsTupleIter Y t i)(J:s.heap.IsTuple t ai)(O:ai[i]?=aM x)
(p:∀V,V.IsTupleIter Y t (i+1)->Pz Y s.heap V->Q x { s with heap:=V }):rl (Lg z w) A (OJ (.ref Y)) Q E s:=by
 refine aA (id y) λo v f U=>?_
 refine i6 J λg k l L j=>?_
 unfold OJ
 refine ec (Nh (name:=Li "__next__") y.typeIs O7
  (ML O7 y.typeIs TG ?_ (Tw _)))
 show rl _ _ (Yn (.ref Y) 0 >>= _) _ _ s
 refine ec (Q0 v U (x:=.ref t) rfl ?_)
 show rl _ _ (if (OT t==LM)=true then _ else _) _ _ s
 erw[E1 (show ¬ ((OT t==LM)=true) from Lq)]
 show rl _ _ (Yn (.ref Y) 1 >>= _) _ _ s
 refine ec (Q0 v U (x:=.int i 0) rfl ?_)
 show rl _ _ (Rn (.ref t) >>= _) _ _ s
 refine ec (QK k j ?_)
 simp only[Oz,O]
 refine ec (Od v U (by simp) (pe ⟨x,rfl,pe (p _ ?_ (Mx ..))⟩))
 exact⟨_,LN _ v (Ru (Pn U _)),(Sr ..).trans f,by
  erw[Pn U _];simp[Nx]⟩
def mZ{U:Type}{R:U->ow->Prop}(v:A.handled=none)(V:P2 y Y s.heap)(k:∀Q e,P2 y Y Q->(∃o,Q.get? e=aM o/\o.cls=.type "StopIteration")->E (.ref e) { s with heap:=Q }) :
  rl (Lg z w) A (do raiseNew (← YB (.type "StopIteration") [])) R E s:=by
 refine ec ?_
 simp only[YB,newTuple]
 refine ec (Og ?_ (by size_fits))
 refine ec (m:=firstArgMember _ _) (Vv (a:=LM) rfl ?_)
 exact Og (wpAny_raiseNew_none v (k _ _ ((V.push _).push _) ⟨_,Lv _ rfl,rfl⟩)) (by size_fits)
def xF{ai:Mv rr}(J:A.handled=none)(y:s.heap.IsTupleIter Y t i)(O:s.heap.IsTuple t ai)(p:ai[i]?=none)
(f:∀U e,P2 Y s.heap U->(∃o,U.get? e=aM o/\o.cls=.type "StopIteration")->E (.ref e) { s with heap:=U }) :
  rl (Lg z w) A (OJ (.ref Y)) Q E s:=by
 refine aA (id y) λo v g V=>?_
 refine i6 O λl k L T j=>?_
 unfold OJ
 refine ec (Nh (name:=Li "__next__") y.typeIs O7
  (ML O7 y.typeIs TG ?_ (Tw _)))
 show rl _ _ (Yn (.ref Y) 0 >>= _) _ _ s
 refine ec (Q0 v V (x:=.ref t) rfl ?_)
 show rl _ _ (if (OT t==LM)=true then _ else _) _ _ s
 erw[E1 (show ¬ ((OT t==LM)=true) from Lq)]
 show rl _ _ (Yn (.ref Y) 1 >>= _) _ _ s
 refine ec (Q0 v V (x:=.int i 0) rfl ?_)
 show rl _ _ (Rn (.ref t) >>= _) _ _ s
 refine ec (QK k j ?_)
 simp only[Oz,p]
 refine ec (Np (ec (Od v V (by simp) ?_)))
 exact mZ (A:=A.in1) J (Mx ..).extBut f
end
def FK{A:MQ}(J:A.handled=none)(z t:LZ)(V:t≠z)(ai:Mv rr) :
  Draws prog w A z [z,t] ai.size (λi v=>ai[i]?=aM v) (λi h=>h.IsTupleIter z t i/\h.IsTuple t ai) where
 live:=λU U st=>let ⟨o,O,_⟩:=st.1;⟨o,O⟩
 frame:=λU U U st k=>⟨st.1.at λo e=>k z (by simp) o e,st.2.at λo e=>k t (by simp) o e⟩
 item:=λi s Q E j st p=>by
  refine uH st.1 st.2 (x:=ai[i]) (by simp[j]) λf y Y=>?_
  exact p _ f s.toks (by simp[j]) ⟨y,st.2.extBut Y.extBut V⟩ Y
 done:=λs Q E st g=>xF J st.1 st.2 (by simp) g
end
inductive ItR(h:M7)(I:LZ):cp LZ->It->Prop
 | list {a i:ki}:h.IsListIter I a i->a≠I->ItR h I [I] (.list a i)
 | tup {t:LZ} {vs:Mv rr} {i:ki} {l:cp CV}:h.IsTupleIter I t i->h.IsTuple t vs->t≠I->RVs h (vs.toList.drop i) l->ItR h I [I] (.ai l)
 | str {x:Lj} {tk:Tok} {i:ki}:h.IsStrIter I "str_ascii_iterator" x tk i->ItR h I [I] (.ai ((x.cps.toList.drop i).map λc=>.str ⟨#[c]⟩))
 | rng {a c:Nj} {n i:ki}:Yt h I (a+(i:ki) * c) ((n:Nj) - (i:ki)) c->i<=n->ItR h I [I] (.ai ((OL i (n - i)).map λ(j:ki)=>.int (a+j * c)))
 | dK {a n i:ki}:h.IsKeyIter I a i n n->a≠I->ItR h I [I] (.dK a n i)
 | sO {J a k:ki}:(∃old,Tv h I J k old)->h.IsListIter J a k->I≠J->a≠I->a≠J->ItR h I [I,J] (.bu k (.list a k))
 | sQ {J t k:ki} {vs:Mv rr} {l:cp CV}:(∃old,Tv h I J k old)->h.IsTupleIter J t k->h.IsTuple t vs->I≠J->t≠I->t≠J->RVs h (vs.toList.drop k) l->k<=vs.size->ItR h I [I,J] (.bu k (.ai l))
 | prs {a n i:ki} {ok ov:rr}:YW h I a i n n ok ov->a≠I->ItR h I [I] (.ei a n i)
theorem ItR.ay{h':M7}(x:ItR h I wr Y)(k:∀b∈wr,∀o,h.get? b=aM o->h'.get? b=aM o)(t:TK h h'):ItR h' I wr Y:=by
 have z:∀{l},wr=I::l->∀o,h.get? I=aM o->h'.get? I=aM o:=λe o q=>k I (e▸fp) o q
 cases x with
 | list a b=>exact .list (a.at (z rfl)) b
 | tup a b c d=>exact .tup (a.at (z rfl)) (t _ _ b) c (d.mono t)
 | str a=>refine oEA a λo U r=>?_;exact .str ⟨o,z rfl o U,r⟩
 | rng a b=>exact .rng (z rfl _ a) b
 | dK a b=>exact .dK (a.at (z rfl)) b
 | prs a b=>exact .prs (z rfl _ a) b
 | sO a b c d e=>refine oE a λQ w=>?_;exact .sO ⟨Q,z rfl _ w⟩ (b.at λo q=>k _ (by simp) o q) c d e
 | sQ a b c d e f g i=>refine oE a λQ y=>?_;exact .sQ ⟨Q,z rfl _ y⟩ (b.at λo q=>k _ (by simp) o q) (t _ _ c) d e f (g.mono t) i
def m9:cp String:=["enumerate","zip","dict_itemiterator","dict_reverseitemiterator","odict_iterator","itertools.zip_longest","itertools.pairwise"]
section
variable{z:Ow}{w:MY}{s:ow}
set_option tactic.hygienic true in
theorem lG{Q:Rt->ow->Prop}(V:s.heap.get? I=aM o)(k:o.cls=.type n)(j:m9.contains n=false)(h:Q () s) :
  rl (Lg z w) A (RK y (.ref I) v) Q E s:=by
 have Y:rl (Lg z w) A (do
   let (.ref r,.ref a):=(OT I,v) | return
   let o ← load r
   match o.cls,o.data with
   | .type n,.fields U=>
    if ["enumerate","zip","dict_itemiterator","dict_reverseitemiterator","odict_iterator","itertools.zip_longest","itertools.pairwise"].contains n&&U[0]?==aM (Nx a) then
     rule "for.unpacks-the-owned-tuple"
     updateField r 0 .none
   | _,_=>pure ()) Q E s:=by
  cases v <;> first | exact pe h | skip
  rename_i a
  refine ec (Yw V ?_)
  erw[k]
  cases o.data <;> first | exact pe h | skip
  rename_i U
  show rl _ _ (if (m9.contains n&&U[0]?==aM (Nx a))=true then _ else _) _ _ s
  (erw[j];erw[Bool.false_and _];erw[E1 Lq])
  exact pe h
 cases y <;> first | exact Y | exact pe h
end
def sR:It->LF->Prop
 | .bu _ _,t=>∃z k p,t=.Tuple z k p
 | .ei _ _ _,t=>∃z k p,t=.Tuple z k p
 | _,_=>True
theorem sT{l:cp CV}{z:cp rr}(x:RVs h (z.drop i) (c::r)):∃v,z[i]?=aM v/\RV h v c/\RVs h (z.drop (i+1)) r:=by
 cases e:z.drop i with
 | nil=>rw[e] at x;cases x
 | cons v Q=>
  rw[e] at x
  cases x with
  | cons a b=>
   have w:z[i]?=aM v:=by
    have:(z.drop i)[0]?=aM v:=by erw[e];rfl
    rwa [Pk,Ue] at this
   have y:z.drop (i+1)=Q:=by
    (erw[Ng Th];erw[e]);rfl
   exact⟨v,w,a,y▸b⟩
theorem sU{z:cp rr}(x:RVs h (z.drop i) []):z[i]?=none:=by
 cases e:z.drop i with
 | nil=>exact Md (Un.mp e)
 | cons v Q=>rw[e] at x;cases x
section
variable{g:G}{z:OR}{Q:cp (Lj×ki)}
abbrev KpW(w:cp LZ)(h y:M7):Prop:=∀b o,b∉w->h.get? b=aM o->y.get? b=aM o
def NtW(w:cp LZ)(h:M7):Prop:=∀b∈w,∀o,h.get? b=aM o->o.cls≠.type "tuple"
def KpW.tk(k:KpW wr h w)(n:NtW wr h):TK h w:=λb v ⟨o,y,Y,q⟩=>⟨o,k b o (λU=>n b U o y Y) y,Y,q⟩
def gW(x:P2 I h w):KpW [I] h w:=λb o y q=>x b o (λe=>y (e▸fp)) q
def ItO(h:M7)(b:LZ):Prop:=∃o n,h.get? b=aM o/\o.cls=.type n/\n≠"tuple"/\n≠"frame"
def pJ{h:M7}(x:∃o,h.get? a=aM o/\o.cls=.type n/\o.data=d)(w:n≠"tuple"/\n≠"frame"):ItO h a:=x.elim λo y=>⟨o,n,y.1,y.2.1,w⟩
def nc(x:ItO h a):∀b∈[a],ItO h b:=λy w=>(n2.mp w).symm▸x
def EI(x:ItO h a)(y:ItO h b):∀c∈[a,b],ItO h c:=λc w=>(ta.mp w).elim (λe=>e.symm▸x) (nc y c)
def ItR.objs(x:ItR h I y Y):∀b∈y,ItO h b:=
 x.casesOn (motive:=λy w w=>∀b∈y,ItO h b) (λa w=>nc (pJ a (by decide))) (λa w w w=>nc (pJ a (by decide))) (λa=>nc (pJ a (by decide))) (λa w=>nc ⟨_,_,a,rfl,by decide⟩) (λa w=>nc (pJ a (by decide)))
  (λa c w w w=>EI (a.elim λw a=>⟨_,_,a,rfl,by decide⟩) (pJ c (by decide))) (λa c w w w w w w=>EI (a.elim λw a=>⟨_,_,a,rfl,by decide⟩) (pJ c (by decide))) (λa w=>nc ⟨_,_,a,rfl,by decide⟩)
def ItO.ne(x:ItO h b)(k:∀n,n≠"tuple"/\n≠"frame"->n≠t):∀o,h.get? b=aM o->o.cls≠.type t:=λw Y e=>
 x.elim λw y=>y.elim λn y=>k n y.2.2 (Pe (y.2.1.symm.trans ((dd Rb (ey (y.1.symm.trans Y))).trans e)))
def ItR.kS(x:ItR h I w Y):NtW w h:=λb U=>(x.objs b U).ne λv y=>y.1
def ItR.sV(x:ItR h I w Y):∀b∈w,∀o,h.get? b=aM o->o.cls≠.type "frame":=λb U=>(x.objs b U).ne λv y=>y.2
def ItR.live(x:ItR h I w Y):∀b∈w,∃o,h.get? b=aM o:=λb U=>(x.objs b U).elim λo y=>y.elim λv y=>⟨o,y.1⟩
section
variable{H:CH}{P:rt (CV×It)->Prop}
def iQ(h:It.next H (.ai l)=aM r)(k:P (xq l)):P r:=ey h▸k
def nh(h:It.next H (.list a i)=aM r)(k:∀l,H.getL a=aM l->P (l[i]?.map λv=>(v,.list a (i+1)))):P r:=
 (Me.mp h).elim λl q=>q.2▸k l q.1
def sW(h:It.next H (.dK a n i)=aM r)(k:∀w,H.dct a=aM w->w.length=n->w.all (λp=>isS p.1)=true->P (w[i]?.map λp=>(p.1,.dK a n (i+1)))):P r:=
 (MM.mp h).elim λw e=>by
  by_cases q:w.length=n/\w.all (λp=>isS p.1)=true
  ·exact ey ((K2 q).symm.trans e.2)▸k w e.1 q.1 q.2
  ·exact nos ((E1 q).symm.trans e.2)
def pK(h:It.next H (.ei a n i)=aM r)(k:∀w,H.dct a=aM w->w.length=n->w.all (λp=>isS p.1)=true->P (w[i]?.map λp=>(.tup [p.1,p.2],.ei a n (i+1)))):P r:=
 (MM.mp h).elim λw e=>by
  by_cases q:w.length=n/\w.all (λp=>isS p.1)=true
  ·exact ey ((K2 q).symm.trans e.2)▸k w e.1 q.1 q.2
  ·exact nos ((E1 q).symm.trans e.2)
def sX(k:ki)(r:rt (CV×It)):rt (CV×It):=r.map λp=>(.tup [.int k,p.1],.bu (k+1) p.2)
def ni(h:It.next H (.bu k t)=aM r)(f:∀w,It.next H t=aM w->P (sX k w)):P r:=
 (Me.mp h).elim λw e=>e.2▸f w e.1
end
def pL{w:Type}{l:cp w}{i:ki}(e:l.drop i=[]):l[i]?=none:=Md (Un.mp e)
def kT{w:Type}{l r:cp w}{i:ki}{c:w}(e:l.drop i=c::r):l[i]?=aM c:=by
 have:(l.drop i)[0]?=aM c:=by erw[e];rfl
 rwa [Pk,Ue] at this
def kU{w:Type}{l r:cp w}{i:ki}{c:w}(e:l.drop i=c::r):l.drop (i+1)=r:=by(erw[Ng Th];erw[e]);rfl
def NxK(s:ow)(I:LZ)(y:cp LZ)(Y:LF)(K:rt rr->ow->Prop)(r:rt (CV×It)):Prop:=match r with
 | none=>∀w U,KpW y s.heap w->K none { s with heap:=w,toks:=U }
 | some p=>∀v w U,RV w v p.1->ItR w I y p.2->sR p.2 Y->KpW y s.heap w->K (aM v) { s with heap:=w,toks:=U }
def NxQ(g:G)(A:MQ)(Y:LF)(I:LZ)(K:rt rr->ow->Prop)(E:rr->ow->Prop)(r:rt rr)(w:ow):Prop:=match r with
 | none=>K none w
 | some v=>rl (Lg g.prog g.w) A (RK Y (.ref I) v) (λU y=>K (aM v) y) E w
section
variable{A:MQ}{Y:Op}{s:ow}{H:CH}{I a i k J:ki}{w:LF}{K:rt rr->ow->Prop}{E:rr->ow->Prop}{l:cp CV}{y:Mv rr}
theorem yX(U:r=none->∀V tk,KpW O s.heap V->K none { s with heap:=V,toks:=tk })(j:∀c o,r=aM (c,o)->∀v V tk,RV V v c->ItR V I O o->sR o w->KpW O s.heap V->K (aM v) { s with heap:=V,toks:=tk }):NxK s I O w K r:=by
 cases r with
 | none=>exact U rfl
 | some p=>exact j p.1 p.2 rfl
abbrev NxG(g:G)(A:MQ)(w:LF)(I:LZ)(K:rt rr->ow->Prop)(E:rr->ow->Prop)(s:ow):Prop:=rl (Lg g.prog g.w) A (UQ (.ref I)) (NxQ g A w I K E) E s
def jK{Q:Rt->ow->Prop}(x:∃o,s.heap.get? I=aM o/\o.cls=.type n/\o.data=d)(U:m9.contains n=false)(h:Q () s):rl (Lg g.prog g.w) A (RK w (.ref I) v) Q E s:=
 x.elim λV y=>lG y.1 y.2.1 U h
theorem CM(T:A.handled=none)(R:av g.w g.AN g.os g.h₀ Y s H)(V:s.heap.IsListIter I a i)(f:a≠I)(n:NtW [I] s.heap)(e:H.getL a=aM l)(j:NxK s I [I] w K (l[i]?.map λv=>(v,.list a (i+1)))):NxG g A w I K E s:=by
 refine aA (R.cr e) λy L t b=>?_
 cases o:l[i]? with
 | none=>
  rw[o] at j
  exact wpAny_pyNext_list_end T V L (OM (t.size▸LS.mp o)) λO p=>j O s.toks (gW p)
 | some c=>
  rw[o] at j
  refine oEA (t.arr o) λv x C=>?_
  exact wpAny_pyNext_list_item V L x λO U p=>jK (s:={ s with heap:=O }) U (by decide) (j v O s.toks (C.mono ((gW p.extBut).tk n)) (.list U f) trivial (gW p.extBut))
theorem FL(T:A.handled=none)(V:s.heap.IsTupleIter I a i)(O:s.heap.IsTuple a y)(p:a≠I)(f:RVs s.heap (y.toList.drop i) l)(n:NtW [I] s.heap)(L:NxK s I [I] w K (xq l)):NxG g A w I K E s:=by
 cases l with
 | nil=>exact wpAny_pyNext_tuple_end T V O (Mk.symm.trans (sU f)) λj o=>L j s.toks (gW o)
 | cons c l=>
  refine aA (sT (l:=[]) f) λv x C b=>?_
  exact wpAny_pyNext_tuple_item V O (Mk.symm.trans x) λj U o=>
   have t:=(gW o.extBut).tk n
   jK (s:={ s with heap:=j }) U (by decide) (L v j s.toks (C.mono t) (.tup U (t _ _ O) p (b.mono t)) trivial (gW o.extBut))
theorem FM{x:Lj}(p:A.handled=none)(v:s.heap.IsStrIter I "str_ascii_iterator" x o i)(V:NxK s I [I] w K (xq ((x.cps.toList.drop i).map λc=>.str ⟨#[c]⟩))):NxG g A w I K E s:=by
 cases e:x.cps.toList.drop i with
 | nil=>
  rw[e] at V
  exact wpAny_pyNext_ascii_end p v (Mk.symm.trans (pL e)) λj O=>V j s.toks (gW O)
 | cons f L=>
  rw[e] at V
  exact wpAny_pyNext_ascii_item v (Mk.symm.trans (kT e)) λj U O=>
   jK (s:={ s with heap:=j,toks:=s.toks+1 }) U (by decide) (V _ j (s.toks+1) (.str _ _) (kU e▸.str U) trivial (gW O.extBut))
def FN{b c:Nj}{n:ki}(f:A.handled=none)(V:Yt s.heap I (b+(i:ki) * c) ((n:Nj) - (i:ki)) c)(L:i<=n)(o:NxK s I [I] w K (xq ((OL i (n - i)).map λ(j:ki)=>.int (b+j * c)))):NxG g A w I K E s:=by
 rcases Nat.eq_or_lt_of_le L with e | v
 ·rw[e,WL] at o
  exact wpAny_pyNext_range_end f V (e▸Qo (Int.sub_self _)) λO p=>o O s.toks (gW p)
 ·rw[show n - i=n - (i+1)+1 from(TN (Vh v)).symm,Vk] at o
  exact wpAny_pyNext_range_item V (Int.sub_pos_of_lt (MP.mpr v)) λO U p=>
   lG (s:={ s with heap:=O,toks:=s.toks+1 }) U rfl (by decide) (o _ O (s.toks+1) (.int _ _) (.rng (by
    rw[show b+((i+1:ki):Nj) * c=b+(i:Nj) * c+c by rw[VQ,Int.add_mul,Int.one_mul,Int.add_assoc],show(n:Nj) - ((i+1:ki):Nj)=(n:Nj) - (i:Nj) - 1 by rw[VQ,Int.sub_sub]]
    exact U) v) trivial (gW p.extBut))
theorem CN(d:A.handled=none)(R:av g.w g.AN g.os g.h₀ Y s H)(o:s.heap.IsKeyIter I a i n n)(c:a≠I)(e:H.dct a=aM j)(q1:j.length=n)(q2:j.all (λp=>isS p.1)=true)(f:NxK s I [I] w K (j[i]?.map λp=>(p.1,.dK a n (i+1)))):NxG g A w I K E s:=by
 refine eX (R.dct a j e) λB m B N r D=>?_
 obtain⟨v,F,M,P,S,W,_⟩:=fC (prog:=g.prog) D q2 m
 have C:v.length=n:=M.trans q1
 subst C
 have h:s.heap.DictAt (Rz g.prog g.w) a v v.length:=⟨_,N.toArray,r,(by first | exact⟨rfl,rfl⟩ | exact⟨rfl,rfl,rfl⟩),dd (λn=>Data.dict N.toArray n) (D.length.trans q1),λe X=>S e (QQ.mp X),F,P⟩
 cases L:j[i]? with
 | none=>
  rw[L] at f
  exact wpAny_pyNext_dict_end d o h (LS.mpr (M▸LS.mp L)) λT b=>f T s.toks (gW b)
 | some p=>
  rw[L] at f
  refine aX (W i p.1 p.2 L) λx u Z G B=>?_
  exact wpAny_pyNext_dict_item o h Z λq T O U b=>by
   refine oE (P6 O) λt V=>?_;subst V
   exact jK (s:={ s with heap:=T }) U (by decide) (f _ T s.toks (G▸.str _ _) (.dK U c) trivial (gW b.extBut))
theorem yY{U:cp (CV×CV)}{G:rr}(Q:A.handled=none)(R:av g.w g.AN g.os g.h₀ Y s H)(y:∃U k p,w=.Tuple U k p)(V:YW s.heap I a i n n Z G)(N:a≠I)(J:NtW [I] s.heap)(e:H.dct a=aM U)(q1:U.length=n)(q2:U.all (λp=>isS p.1)=true)(C:NxK s I [I] w K (U[i]?.map λp=>(.tup [p.1,p.2],.ei a n (i+1)))):NxG g A w I K E s:=by
 refine eX (R.dct a U e) λl nd l r ho F=>?_
 obtain⟨j,p1,P,p3,p4,p5,_⟩:=fC (prog:=g.prog) F q2 nd
 have D:j.length=n:=P.trans q1
 subst D
 have S:s.heap.DictAt (Rz g.prog g.w) a j j.length:=⟨_,r.toArray,ho,(by first | exact⟨rfl,rfl⟩ | exact⟨rfl,rfl,rfl⟩),dd (λn=>Data.dict r.toArray n) (F.length.trans q1),λe he=>p4 e (QQ.mp he),p1,p3⟩
 cases B:U[i]? with
 | none=>
  rw[B] at C
  exact wpAny_pyNext_items_end Q V S (LS.mpr (P▸LS.mp B)) λM hs=>C M s.toks (gW hs)
 | some p=>
  rw[B] at C
  refine aX (p5 i p.1 p.2 B) λx u hx hk hu=>?_
  refine wpAny_pyNext_items_item V S hx λz0 M f h hT z1 d=>?_
  refine oE (P6 f) λt L=>?_;subst L
  refine Fm y λz2 ek ep T=>?_;subst T
  refine wpAny_letOwnedTupleGo_items (s:={ s with heap:=M }) h λO c v=>?_
  have W:KpW [I] s.heap O:=λb o X q=>v.extBut b o (λz=>X (z▸fp)) (d b o (λz=>X (z▸fp)) q)
  have tk:=W.tk J
  have m:s.heap.objs.size≠I:=MW (LX V)
  exact C (.ref s.heap.objs.size) O s.toks (show RV O (.ref _) (.tup [p.1,p.2]) from hk▸.tup ⟨_,v.extBut _ _ m hT,rfl,_,rfl⟩ (e0 rfl) (.cons (.str _ _) (.cons (hu.mono tk) .nil))) (.prs c N) ⟨_,_,_,rfl⟩ W
def wn{V:M7}{n:ki}{j:cp LZ}(O:V.IsTuple T #[.int n t,v])(p:T∉j)(k:KpW j V U)(t:TK h U)(y:RV h v c):RV U (.ref T) (.tup [.int n,c]):=
 O.elim λo x=>.tup ⟨o,k T o p x.1,x.2⟩ (e0 rfl) (.cons (.int _ _) (.cons (y.mono t) .nil))
theorem yZ(F:A.handled=none)(R:av g.w g.AN g.os g.h₀ Y s H)(P:∃h k p,w=.Tuple h k p)(B:∃V,Tv s.heap I J k V)(O:s.heap.IsListIter J a k)(S:I≠J)(X:a≠I)(Z:a≠J)(n:NtW [I,J] s.heap)(e:H.getL a=aM l)(N:NxK s I [I,J] w K (sX k (l[k]?.map λv=>(v,.list a (k+1))))):NxG g A w I K E s:=by
 refine aA (R.cr e) λy G u ζ=>?_
 have W:=WalksT.enumerate (prog:=g.prog) (w:=g.w) F I J a S X Z y
 cases D:l[k]? with
 | none=>
  rw[D] at N
  exact B.elim λV B=>wpAny_pyNext_enum_end F B O G (OM (u.size▸LS.mp D)) λf d=>N f s.toks λb o M q=>d b o (λeq=>M (eq▸oo _ fp)) q
 | some c=>
  rw[D] at N
  refine oEA (u.arr D) λv Q y2=>?_
  refine W.item k s _ E (On.mp Q).1 ⟨B,O,G⟩ λT i f L hP ζ hT hM m=>?_
  refine eC hP λt x d hv=>?_
  refine Fm (id P) λh ek ep r=>?_
  have z:=λU (C:(∃V,Tv U I J (k+1:ki) V)/\U.IsListIter J a (k+1)/\U.IsList a y) (j:KpW [I,J] f U)=>
   have kk:KpW [I,J] s.heap U:=λb o M q=>j b o M (m b o M q)
   N (.ref T) U L (wn (hv▸hT) (W.apart k T f hM) j (kk.tk n) (ey (Q.symm.trans d)▸y2)) (.sO C.1 C.2.1 S X Z) P kk
  exact r▸W.go h ek ep k T { s with heap:=f,toks:=L } _ E hM z
theorem y4{t:ki}(i:A.handled=none)(P:∃D k p,w=.Tuple D k p)(R:∃j,Tv s.heap I J k j)(L:s.heap.IsTupleIter J t k)(S:s.heap.IsTuple t y)(M:I≠J)(X:t≠I)(Z:t≠J)(G:RVs s.heap (y.toList.drop k) l)(d:k<=y.size)(n:NtW [I,J] s.heap)(u:NxK s I [I,J] w K (sX k (xq l))):NxG g A w I K E s:=by
 have W:=WalksT.enumerateD (FK (prog:=g.prog) (w:=g.w) (A:=A.in1) i J t Z y) I M (λh=>(ta.mp h).elim M λh=>X (n2.mp h).symm) fp
 cases l with
 | nil=>
  have O:k=y.size:=ME d (Array.getElem?_eq_none_iff.mp (Mk.symm.trans (sU G)))
  subst O
  exact W.done s _ E ⟨R,L,S⟩ u
 | cons c l=>
  refine aA (sT (l:=[]) G) λv N H y3=>?_
  have N:=Mk.symm.trans N
  have C:=(On.mp N).1
  refine W.item k s _ E C ⟨R,L,S⟩ λT Q m B hP ζ e Y O=>?_
  refine eC hP λt' x hx hv=>?_
  refine Fm (id P) λD ek ep r=>?_
  have z:=λU (f:(∃j,Tv U I J (k+1:ki) j)/\U.IsTupleIter J t (k+1)/\U.IsTuple t y) (V:KpW [I,J] m U)=>
   have F:KpW [I,J] s.heap U:=λb o a q=>V b o a (O b o a q)
   u (.ref T) U B (wn (hv▸e) (W.apart k T m Y) V (F.tk n) (ey (N.symm.trans hx)▸H)) (.sQ f.1 f.2.1 f.2.2 M X Z (y3.mono (F.tk n)) C) P F
  exact r▸W.go D ek ep k T { s with heap:=m,toks:=B } _ E Y z
def wq(j:A.handled=none)(R:av g.w g.AN g.os g.h₀ Y s H)(B:ItR s.heap I p O)(o:sR O w)(v:O.next H=aM r)(N:NxK s I p w K r):NxG g A w I K E s:=
 B.casesOn (motive:=λp O f=>NtW p s.heap->sR O w->O.next H=aM r->NxK s I p w K r->NxG g A w I K E s)
  (λU V n f v=>nh (P:=λr=>NxK s I [I] w K r->NxG g A w I K E s) v λl e=>CM j R U V n e)
  (λU L V t n f v=>iQ (P:=λr=>NxK s I [I] w K r->NxG g A w I K E s) v (FL j U L V t n))
  (λU n f v=>iQ (P:=λr=>NxK s I [I] w K r->NxG g A w I K E s) v (FM j U))
  (λU D n f v=>iQ (P:=λr=>NxK s I [I] w K r->NxG g A w I K E s) v (FN j U D))
  (λU V n f v=>sW (P:=λr=>NxK s I [I] w K r->NxG g A w I K E s) v λM e q1 q2=>CN j R U V e q1 q2)
  (λT U x c C n o v=>ni (P:=λr=>NxK s I _ w K r->NxG g A w I K E s) v λd h=>nh (P:=λr=>NxK s I _ w K (sX _ r)->NxG g A w I K E s) h λl e=>yZ j R o T U x c C n e)
  (λT U L x c C t b n o v=>ni (P:=λr=>NxK s I _ w K r->NxG g A w I K E s) v λd h=>iQ (P:=λr=>NxK s I _ w K (sX _ r)->NxG g A w I K E s) h (y4 j o T U L x c C t b n))
  (λU V n o v=>pK (P:=λr=>NxK s I [I] w K r->NxG g A w I K E s) v λM e q1 q2=>yY j R o U V n e q1 q2)
  B.kS o v N
end
end
def jM(z:Op)(s:ow)(H:CH)(Q:cp LZ):Prop:=∀b∈Q,(∀o,¬ z b o)/\¬ Own s.heap H b/\∀o,s.heap.get? b=aM o->o.cls≠.type "tuple"
section
variable{w:MY}{os:NG}{z:M7}{Q:Op}{s':ow}{H:CH}
def av.uI(R:av w y os z Q s H)(k:∀b o,s.heap.get? b=aM o->s'.heap.get? b=aM o){a:ki}(Y:∀o,s.heap.get? a≠aM o)(v:s'.heap.get? a=aM o)(V:o.cls≠.type "tuple") :
  (∀o,¬ Q a o)/\¬ Own s'.heap H a/\∀o,s'.heap.get? a=aM o->o.cls≠.type "tuple":=
 ⟨λo p=>let ⟨U,e,_⟩:=R.b7 a o p;Y U e,R.iO k Y,λU e=>by rw[v] at e;cases e;exact V⟩
end
section
variable{g:G}{env:OR}{z:cp (Lj×ki)}
def fT(w:CI):It->Prop
 | .bu _ _=>∃Q,w=.bu Q
 | .ei _ _ _=>∃Q,w=.ai Q
 | _=>True
noncomputable abbrev Sc:=It->St->Prop
variable(g) in
def IS(env:OR)(z:cp (Lj×ki))(U:CI)(e:LF):Prop:=
 ∀(A:MQ) (y:Op) (s:ow) (st:St) (Q:Sc) (X:No) (P:rr->ow->Prop) (E:rr->ow->Prop),OKA g A->Rep g y env z s st->wpI g.Φ g.M U st Q X->
  (∀I v Y s' st',ItR s'.heap I v Y->fT U Y->jM y s' st'.H v->Rep g y env z s' st'->Q Y st'->P (.ref I) s')->
  EOk g A y env z X E->
  rl (Lg g.prog g.w) A (Mb e env) (λx w=>rl (Lg g.prog g.w) A (UR x) P E w) E s
abbrev itS(s:ow)(n:RE)(d:Mv rr):Shared:={ s with heap:=s.heap.push { cls:=.type n,data:=.fields d } }
def lH{s:ow}:(itS s n d).heap.get? s.heap.objs.size=aM { cls:=.type n,data:=.fields d }:=Lv _ rfl
def av.kW{H:CH}(R:av g.w g.AN g.os g.h₀ Q s H)(w:n≠"tuple"):jM Q (itS s n d) H [s.heap.objs.size]:=λb y=>
 (n2.mp y).symm▸R.uI (aR _ _) (bH _) lH λe=>w (Pe e)
theorem IS.val(O:g.Ok)(h:ES g env z D (Mb e env)):IS g env z (.val D) e:=by
 intro A i s st Q X P E r R F f S
 refine h A i s st _ X _ E r R F (λv c U j T Y w=>?_) S
 have V:=λo=>aR U.heap o
 cases c with
 | str x=>
  refine oE T.c λt J=>?_;subst J
  exact wpAny_pyIter_ascii w.1 (f _ [_] _ (itS U "str_ascii_iterator" #[.str x t,.int 0 0]) _ (.str (i:=0) ⟨_,lH,rfl,rfl⟩) trivial (Y.H.kW (by decide)) (Y.ext (V _) rfl rfl) w.2)
 | tup l=>
  refine bG T.c λa W p k Z I=>?_;subst p
  exact SH k (f _ [_] _ (itS U "tuple_iterator" #[.ref a,.int 0 0]) _ (.tup (i:=0) ⟨_,lH,rfl,rfl⟩ (TK.aS (V _) _ _ k) (k.elim λo y=>Lu (LX y.1)) (I.mono (TK.aS (V _)))) trivial (Y.H.kW (by decide)) (Y.ext (V _) rfl rfl) w)
 | ref a=>
  obtain rfl:v=.ref a:=T.c
  dsimp only at w
  cases C:j.H.getL a with
  | some l=>
   rw[C] at w
   refine aA (Y.H.cr C) λW k Z I=>?_
   exact SX k (f _ [_] _ (itS U "list_iterator" #[.ref a,.int 0 0]) _ (.list ⟨_,lH,rfl,rfl⟩ (k.elim λo y=>Lu (LX y.1))) trivial (Y.H.kW (by decide)) (Y.ext (V _) rfl rfl) w)
  | none=>
   rw[C] at w
   dsimp only at w
   cases b:j.H.dct a with
   | none=>rw[b] at w;exact w.elim
   | some L=>
    rw[b] at w
    refine eX (Y.H.dct a L b) λK B ζ M d m=>?_
    obtain⟨N,H,G,u,q,_⟩:=fC (prog:=g.prog) m w.1 B
    have hD:U.heap.DictAt (Rz g.prog g.w) a N L.length:=⟨_,M.toArray,d,⟨rfl,rfl,rfl⟩,dd (λn=>Data.dict M.toArray n) m.length,λe he=>q e (QQ.mp he),H,u⟩
    refine wpAny_pyIter_dict (Y.H.mQ O.T K) hD ?_
    erw[G]
    exact f _ [_] _ (itS U "dict_keyiterator" #[.ref a,.int 0 0,.int L.length 0,.int L.length 0]) _ (.dK ⟨_,lH,rfl,rfl⟩ (Lu (LX d))) trivial (Y.H.kW (by decide)) (Y.ext (V _) rfl rfl) w.2
 | _=>exact w.elim
def IS.ai(O:g.Ok){Y v:QC}(c:bU o=true)(C:(Y.endLine==v.line)=true)(b:ES g env z l (Mb o env)):IS g env z (.ai l) (.Call (.Attribute o "items" Y) [] [] v):=by
 intro A Z s st Q X P E B R N D I
 refine mY V3 F.type_dict_items c rfl C (NJ rfl) b B R N I λa w J y M=>?_
 show rl (Lg g.prog g.w) A (pure []) _ E w
 refine pe ?_
 refine aA M λj h V U=>?_
 refine eX (y.H.dct a j h) λd p K L f t=>?_
 obtain⟨k,m,i,r,S,_⟩:=fC (prog:=g.prog) t V p
 have T:w.heap.DictAt (Rz g.prog g.w) a k j.length:=⟨_,L.toArray,f,⟨rfl,rfl,rfl⟩,dd (λn=>Data.dict L.toArray n) t.length,λe W=>S e (QQ.mp W),m,r⟩
 refine call_meetsIn V3 (⟨_,f,rfl⟩:w.TypeIs (.ref a) "dict") F.entry_dict_items (F.args_dict_items_1 _) (meets_dict_items (Rz g.prog g.w) a (y.H.mQ O.T d)) ⟨⟨k,T.dictOf⟩,?_⟩
 have x:=y.ext (s':=itS w "dict_items" #[.ref a]) (aR _ _) rfl rfl
 refine wpAny_pyIter_items (s:=itS w "dict_items" #[.ref a]) ⟨_,lH,rfl,rfl⟩ (T.push _) ?_
 erw[i]
 exact D _ [_] _ (itS (itS w "dict_items" #[.ref a]) "dict_itemiterator" #[.none,.bool false,.ref a,.int 0 0,.int j.length 0,.int j.length 0,.none,.none]) _ (.prs lH (Lu (rf (LX f) (by show _<=(w.heap.push _).objs.size;rw[M0];exact MA _)))) ⟨_,rfl⟩ (x.H.kW (by decide)) (x.ext (aR _ _) rfl rfl) U
def IS.bu(O:g.Ok){D:CE}{e:LF}(r:env.kindOf "enumerate"=aM .globalImplicit)(C:P9 g.K LU "enumerate"=aM none)(F:[e].all aW=true)
(h:ESs g env z [D] (MV (M1 f (Ml [e] env)))):IS g env z (.bu D) (.Call (.Name "enumerate" i) [e] [] f):=by
 intro A S s st Q X P E W R Z I K
 refine SF (bT (v:=.type "enumerate") O R r (by decide) (by decide) C rfl ?_)
 refine iP F (h.mW W R Z (λv c s' st' C L H H J=>?_) K)
 have G:=bH s'.heap
 have u:∀o,s'.heap.get? (s'.heap.objs.size+1)≠aM o:=λo e=>p7 (LX e) (Os.mpr (MA _))
 have t:s'.heap.objs.size+1≠s'.heap.objs.size:=Nat.succ_ne_self _
 have M:=λ(w:M7) (k:∀b o,s'.heap.get? b=aM o->w.get? b=aM o) (U V:P0) (j:w.get? (s'.heap.objs.size+1)=aM U) (q:U.cls≠.type "tuple") (B:w.get? s'.heap.objs.size=aM V) (c2:V.cls≠.type "tuple")=>
  (show jM S { s' with heap:=w } st'.H [s'.heap.objs.size+1,s'.heap.objs.size] from λb n=>(ta.mp n).elim (λe=>e.symm▸L.H.uI (s':={ s' with heap:=w }) k u j q) λn=>(n2.mp n).symm▸L.H.uI (s':={ s' with heap:=w }) k G B c2)
 have d:Mw "enumerate"≠Mw "tuple":=by decide
 cases c with
 | tup l=>
  refine bG C.c λa vs T j B m=>?_;subst T
  have x:a<s'.heap.objs.size:=j.elim λo y=>LX y.1
  exact uG j λw p Y hz k=>QZ (s:={ s' with heap:=w }) p (I _ [_,_] _ { s' with heap:=w } _ (.sQ ⟨_,p⟩ Y (TK.aS k _ _ j) t (Lu (Nn x)) (Lu x) (m.mono (TK.aS k)) (Lp _)) ⟨_,rfl⟩ (Y.elim λo y=>M w k _ o p d y.1 (y.2.1▸by decide)) (L.ext k rfl rfl) J)
 | ref a=>
  obtain rfl:v=.ref a:=C.c
  dsimp only at J
  cases N:st'.H.getL a with
  | some l=>
   rw[N] at J
   refine aA (L.H.cr N) λvs j B m=>?_
   have x:a<s'.heap.objs.size:=j.elim λo y=>LX y.1
   exact call_enumerate_list j λw p Y hz k=>QZ (s:={ s' with heap:=w }) p (I _ [_,_] _ { s' with heap:=w } _ (.sO ⟨_,p⟩ Y t (Lu (Nn x)) (Lu x)) ⟨_,rfl⟩ (Y.elim λo y=>M w k _ o p d y.1 (y.2.1▸by decide)) (L.ext k rfl rfl) J)
  | none=>rw[N] at J;exact J.elim
 | _=>exact J.elim
end
def sY(b:Nj):Sn 0 b 1=b.toNat:=(rangeSize_nat 0 b).trans (dd (λi:Nj=>(i.toNat:Nj)) (WT b))
def J7{x:Nj}(h:-(2 ^ 20)<x):-(2 ^ 62)<=x:=MG (by decide) (Rg h)
def J8{x:Nj}(h:x<2 ^ 20):x<2 ^ 62:=O6 h (by decide)
def FO{z:Type}{p:Prop}[OS p]{x l:z}(h:(if p then aM x else none)=aM l):p/\l=x:=
 if q:p then⟨q,(ey ((K2 q).symm.trans h)).symm⟩ else nos ((E1 q).symm.trans h)
theorem y5{Z:cp CV->Prop}(h:hJ z=aM l)(Q:∀b:Nj,(-(2 ^ 20)<b/\b<2 ^ 20)->(l=(Lk b.toNat).map λ(i:ki)=>.int i)->Z [.int b]):Z z:=by
 cases z with
 | nil=>exact nos h
 | cons a r=>
  refine CV.jz (R:=(·=aM l)) (P:=λa=>Z (a::r)) nos h λa h=>?_
  cases r with
  | nil=>exact(FO h).elim (Q a)
  | cons b r=>exact nos h
section
variable{g:G}{z:OR}{w:cp (Lj×ki)}{s:ow}{st:St}
def FP{h:M7}{n:ki}(x:h.get? I=aM { cls:=.type "range_iterator",data:=.fields #[Nx a,Nx (n:Nj),Nx c] }) :
  ItR h I [I] (.ai ((Lk n).map λ(j:ki)=>.int (a+j * c))):=by
 have Q:=ItR.rng (h:=h) (I:=I) (a:=a) (c:=c) (n:=n) (i:=0) (by(erw[Int.natCast_zero];erw[Int.zero_mul _];erw[WU _];erw[WT _]);exact x) (Lp _)
 rwa [Uc,← Um] at Q
def FR(g:G)(z:OR)(w:cp (Lj×ki))(y:Op)(Q:Sc)(P:rr->ow->Prop):Prop:=
 ∀I Y l s st,ItR s.heap I Y (.ai l)->jM y s st.H Y->Rep g y z w s st->Q (.ai l) st->P (.ref I) s
def FT(Y:FR g z w y Q P)(R:Rep g y z w s st){a c:Nj}{n:ki}(U:Q (.ai ((Lk n).map λ(j:ki)=>.int (a+j * c))) st) :
  P (.ref s.heap.objs.size) (itS s "range_iterator" #[Nx a,Nx (n:Nj),Nx c]):=
 Y _ [_] _ _ st (FP lH) (R.H.kW (by decide)) (R.ext (aR _ _) rfl rfl) U
def CP(U:FR g z w y Q P)(R:Rep g y z w s st){c:Nj}{u:Tok}{n:ki}(V:WV a b c=true)
(k:Sn a b c=n)(J:Q (.ai ((Lk n).map λ(j:ki)=>.int (a+j * c))) st)(Y:ki) :
  rl (Lg g.prog g.w) A (UR (.ref s.heap.objs.size)) P E { s with heap:=s.heap.push { cls:=.type "range",data:=.fields #[.int a t,.int b u,.int c v] },toks:=Y }:=by
 refine wpAny_pyIter_range (IsRange.new s.heap a b c t u v) V ?_
 erw[k]
 exact FT (s:={ s with heap:=s.heap.push { cls:=.type "range",data:=.fields #[.int a t,.int b u,.int c v] },toks:=Y }) U (R.ext (aR _ _) rfl rfl) J
def IS.rng(O:g.Ok){f:cp LF}(N:z.kindOf "range"=aM .globalImplicit)(L:P9 g.K LU "range"=aM none)(D:f.all aW=true)
(h:ESs g z w U (MV (M1 V (Ml f z)))):IS g z w (.rng U) (.Call (.Name "range" n) f [] V):=by
 intro A y s st Q X P E M R d m i
 refine SF (bT (v:=.type "range") O R N (by decide) (by decide) L rfl (iP D (h.run M R d (λvs c C r Y B F B B S=>?_) i)))
 have t:FR g z w y Q P:=λI W l s st a=>m I W _ s st a trivial
 refine oEA S λl Z T=>?_
 refine y5 (Z:=λc=>RVs C.heap vs c->rl (Lg g.prog g.w) A (call (.type "range") ([]++vs)) (λx J=>rl (Lg g.prog g.w) A (UR x) P E J) E C) Z (λb q e Y=>?_) Y
 subst e
 ·refine oEA (Y.one rfl) λv o L=>?_;subst o
  refine oE L.c λk p=>?_;subst p
  refine call_range_1 (CP t F (small_one (by decide) (by decide) (J7 q.1) (J8 q.2)) (sY b) ?_ _)
  rwa [O9 λ(j:ki) _=>show CV.int (0+(j:Nj) * 1)=.int j by(erw[WR _];exact LH (Int.mul_one _) rfl)]
end
def xG(M:Model)(O:Ctx)(E:rr->QC->ow->Prop)(p:QC)(s:ow)(C:s.heap.Ns a m)(z:Lj)(v:rr)(b:∀o,s.heap.get? a=aM o->o.cls=T)(Q:Rt->QC->ow->Prop)
(f:∀k,k.Ns a (λx=>if x=z then aM v else m x)->Pz a s.heap k->(∀o,k.get? a=aM o->o.cls=T)->Q () p { s with heap:=k,toks:=s.toks+1 }):Sem.wp M O (nsSet a z v) Q E p s:=by
 refine mc C λo j g U B J l=>?_
 have L:=b o U
 simp only[nsSet,strHash,Sem.wp_bind',Sem.wp_cmd_ask,Sem.wp_pure',Sem.wp_cmd_mkText]
 erw[Sem.wp_loadPart_of M O E p { s with toks:=s.toks+1 } (o:=o) _ U _]
 have V:j.any (·.refKey)=false:=by
  rw[Array.any_eq_false'];intro e N;refine oEE (J e N) λn t h=>?_;simp[Uk,h]
 obtain⟨c,d,D,I⟩:=o
 subst B
 simp only[U0,V,V5,Qv,T7,Sem.wp_cmd_updatePart]
 refine⟨by erw[U];rfl,?_⟩
 cases Y:j.findIdx? (·.key.isStr z) with
 | some i=>
  refine f _ ⟨_,_,g,LN _ U (by simp only[OF,NR,Y];rfl),by simp only[OF,NR,Y];rfl,J.modify _ _,λx=>?_⟩ (Mx ..) λA w=>?_
  ·show _=if x=z then aM v else m x
   rw[← l];exact findBy_modify (λn v=>v.isStr n) Value.isStr_inj j z x v i Y
  ·rw[LN _ U (by simp only[OF,NR,Y];rfl)] at w
   obtain rfl:=ey w
   simp only[OF,NR,Y]
   exact L
 | none=>
  refine f _ ⟨_,_,g+1,LN _ U (by simp only[OF,NR,Y];rfl),by simp only[OF,NR,Y];rfl,J.push _ _ _ _,λx=>?_⟩ (Mx ..) λA w=>?_
  ·show _=if x=z then aM v else m x
   rw[← l]
   exact findBy_push (λn v=>v.isStr n) j z x _ _ v (λy=>by
    show(z==y)=decide (y=z)
    by_cases h:y=z
    ·subst h;simp
    ·have:¬ z=y:=λe=>h e.symm
     simp[h,this]) Y
  ·rw[LN _ U (by simp only[OF,NR,Y];rfl)] at w
   obtain rfl:=ey w
   simp only[OF,NR,Y]
   exact L
def kX{s:ow}{z:OR}{Q:Rt->ow->Prop}(Y:z.kindOf w=aM .local)(U:s.heap.Ns z.locals m)(V:∀o,s.heap.get? z.locals=aM o->o.cls=T)
(h:∀y,y.Ns z.locals (λx=>if x=w then aM v else m x)->Pz z.locals s.heap y->(∀o,y.get? z.locals=aM o->o.cls=T)->Q () { s with heap:=y,toks:=s.toks+1 })
(k:(z.scope.kind==.class||(z.scope.kind==.module&&z.locals != z.globals))=false):rl M A (Rm z w v) Q E s:=by
 erw[storeName_local Y k _]
 exact λj p J=>xG M j _ p s U w v V _ h
structure aB(g:G)(wc:LG)(Pr:Op)(env:OR)(vm:cp (Lj×ki))(s:ow)(st:St):Prop where
 H:av g.w g.AN g.os g.h₀ Pr s st.H
 L:kP env vm s.heap st.L
 np:∀b,aU env vm b->((b=env.locals∨wc=true)->∀o,¬ Pr b o)/\¬ Own s.heap st.H b
 inj:wc=true->∀x i y j a,(x,i)∈vm->(y,j)∈vm->(env.kindOf x=aM .cell∨env.kindOf x=aM .free)->(env.kindOf y=aM .cell∨env.kindOf y=aM .free)->env.cells.lookup x=aM a->env.cells.lookup y=aM a->x=y
 ofr:∀b∈g.fs.filterMap (·.frame),(b=env.locals/\∀o,s.heap.get? b=aM o->o.cls=.type "frame")∨∃o,Pr b o/\xy o
def e9(z:cp (Lj×ki)):Prop:=∀x i y j,(x,i)∈z->(y,j)∈z->(x=y↔i=j)
def kP.mono{vm':cp (Lj×ki)}(R:kP env vm h L)(k:∀p∈vm',p∈vm):kP env vm' h L:=
 ⟨R.kind,R.fN,R.bi,R.ns.imp λw z=>⟨z.1,λx i Q=>z.2 x i (k _ Q)⟩,λx i Q=>R.cell x i (k _ Q)⟩
def gw{h:M7}(x:h.Ns a m)(y:Mv rr):¬ Qn h a y:=by
 rintro⟨_,z,_,_,Q⟩
 exact x.elim λw x=>x.elim λw x=>x.elim λw x=>Wg.noConfusion (x.2.1.symm.trans ((dd Tr (ey (x.1.symm.trans z))).trans Q))
def gx{h:M7}(x:h.IsCell a v)(w:Mv rr):¬ Qn h a w:=λ⟨_,z,_,_,Q⟩=>
 x.elim λy x=>Wg.noConfusion (x.2.symm.trans ((dd Tr (ey (x.1.symm.trans z))).trans Q))
def fD{h:M7}(x:h.Ns a m)(y:h.IsCell a v):False:=
 x.elim λz x=>x.elim λz x=>x.elim λz x=>y.elim λz y=>Wg.noConfusion (x.2.1.symm.trans ((dd Tr (ey (x.1.symm.trans y.1))).trans y.2))
def iR{h z:M7}{H:CH}(w:∀b,b≠a->z.get? b=h.get? b)(y:¬ Own h H a){b:LZ}:Own z H b->Own h H b:=λo=>o.imp id λo=>o.imp id λo=>o.imp id (by
 rintro⟨i,c,Y,Q,U,v⟩
 exact⟨i,c,Y,Q,(w i λe=>y (e▸.inr (.inr (.inl (Q▸Lm c))))).symm.trans U,v⟩)
section
variable{g:G}{w:LG}{env:OR}{Q:cp (Lj×ki)}
def kP.gy(R:kP env Q h L)(z:(x,i)∈Q)(Y:env.kindOf x=aM .cell∨env.kindOf x=aM .free):∃a v,env.cells.lookup x=aM a/\h.IsCell a v:=
 (R.cell x i z Y).elim λa y=>y.elim λr y=>⟨a,r,y.1,y.2.1⟩
def aB.bj{st:St}(R:aB g w T env Q s st):Rep g (frz s st.H) env Q s st:=by
 refine⟨R.H.bj,R.L,λb J=>?_,λb J=>?_⟩
 rotate_left
 ·rcases R.ofr b J with⟨rfl,h⟩ | ⟨o,p,q⟩
  ·refine oEA R.L.ns λm z O=>?_;obtain⟨o,f,l,Y,c,_⟩:=z
   exact⟨o,⟨Y,(R.np _ (.inl rfl)).2⟩,h o Y,f,l,c⟩
  ·refine oEA (R.H.dP b o p) λU V k=>?_
   exact⟨U,V,q.same k⟩
 have t:=(R.np b J).2
 rcases J with rfl | ⟨x,i,C,B,n⟩
 ·refine oEA R.L.ns λm y O=>?_;obtain⟨o,f,l,Y,_⟩:=y
  exact⟨o,Y,t⟩
 ·refine qR (R.L.gy C B) λa v j o Y O=>?_
  rw[n] at j;cases j
  exact⟨o,Y,t⟩
def aB.d8{st:St}(R:aB g w k env Q s st)(U:Rep g (frz s st.H) env Q s' Y):aB g w k env Q s' Y:=
 ⟨U.H.kM R.H.dP R.H.base,U.L,λb V=>⟨(R.np b V).1,by refine oE (U.fr b V) λo p=>?_;exact U.H.eG p⟩,R.inj,λb V=>by
  rcases R.ofr b V with⟨rfl,h⟩ | h
  ·refine .inl ⟨rfl,λo O=>?_⟩
   refine oEA R.L.ns λm v l=>?_;obtain⟨j,t,T,z,x,_⟩:=v
   refine oEA (U.H.b7 _ _ ⟨z,(R.np _ (.inl rfl)).2⟩) λJ y f=>?_
   rw[O] at y;cases y
   erw[f.cls];exact h _ z
  ·exact .inr h⟩
def eW(Y:env.kindOf x=aM .local)(z:env.kindOf y=aM .cell∨env.kindOf y=aM .free):y≠x:=λe=>z.elim (λh=>nomatch (show aM NameKind.local=aM Nu from Y.symm.trans (e▸h))) λh=>nomatch (show aM NameKind.local=aM MN from Y.symm.trans (e▸h))
def fE(h:(y,j)∈(x,i)::Q)(e:y≠x):(y,j)∈Q:=(ta.mp h).resolve_left λq=>e (dd PZ q)
def AtV.set{L:ki->rt CV}{i:ki}(x:AtV h (L j) r)(t:TK h z)(n:j≠i):AtV z (cS L i c j) r:=Zg (dd (λo=>AtV z o r) (gu L c n)) (x.mono t)
def AtV.new(y:RV z v c):AtV z (cS L i c i) (aM v):=Zg (dd (λo=>AtV z o (aM v)) (e8 L i c)) ⟨v,rfl,y⟩
section
variable{st:St}{i:ki}{c:CV}{P:Rt->ow->Prop}
def aB.lI(R:aB g w Y env Q s st)(l:env.kindOf x=aM .local)(F:RV s.heap v c)(O:∀y j,(y,j)∈Q->(y=x↔j=i))
(S:∀s',aB g w Y env ((x,i)::Q) s' { st with L:=cS st.L i c }->TK s.heap s'.heap->(∀b o,b≠env.locals->s.heap.get? b=aM o->s'.heap.get? b=aM o)->P () s'):rl (Lg g.prog g.w) A (Rm env x v) P E s:=by
 refine oEA R.L.ns λm B q=>?_
 refine vT (id B) λT N D J ζ=>?_
 refine kX (T:=T.cls) l B (λo I=>dd Rb (ey (I.symm.trans J))) (λW X n Z=>?_) (by erw[R.L.kind];rfl)
 have p:=R.np env.locals (.inl rfl)
 have K:=gW n.extBut
 refine oA (R.H.ia (s':={ s with heap:=W,toks:=s.toks+1 }) (wr:=[env.locals]) K (λb f=>(n2.mp f).symm▸⟨p.1 (.inl rfl),p.2,gw B⟩) rfl rfl) λG t=>?_
 refine S _ { H:=G,L:=⟨R.L.kind,R.L.fN,R.L.bi,⟨_,X,λy j V U=>?_⟩,λy j V U=>?_⟩,np:=λb f=>?_,inj:=λu y j z k a V hz U C=>R.inj u y j z k a (fE V (eW l U)) (fE hz (eW l C)) U C,ofr:=λb f=>(R.ofr b f).imp (λe:b=env.locals/\∀o,s.heap.get? b=aM o->o.cls=.type "frame"=>⟨e.1,λo I=>(Z o (e.1▸I)).trans (e.2 _ (e.1▸J))⟩) id } t λb o f e=>n.extBut b o f e
 ·by_cases e:y=x
  ·have hj:j=i:=(ta.mp V).elim (λh=>dd PY h) λh=>(O y j h).mp e
   erw[hj]
   exact(K2 e).symm▸AtV.new (F.mono t)
  ·have V:=fE V e
   exact(E1 e).symm▸(q y j V U).set t λM=>e ((O y j V).mpr M)
 ·have e:=eW l U
  have V:=fE V e
  refine aX (R.L.cell y j V U) λa r ha d q'=>?_
  exact⟨a,r,ha,d.elim λo z=>⟨o,n.extBut a o (λe=>fD B (e▸d)) z.1,z.2⟩,q'.set t λM=>e ((O y j V).mpr M)⟩
 ·have z:=R.np b (f.imp id (by rintro⟨y,j,V,U,hl⟩;exact⟨y,j,fE V (eW l U),U,hl⟩))
  exact⟨z.1,λh=>z.2 (iR n.2 p.2 h)⟩
def aB.uJ(R:aB g w Y env Q s st)(I:(x,i)∈Q)(l:w=true)(T:env.kindOf x=aM .cell)(S:RV s.heap v c)(J:∀y j,(y,j)∈Q->(y=x↔j=i))
(W:∀s',aB g w Y env Q s' { st with L:=cS st.L i c }->TK s.heap s'.heap->(∀b o,¬ aU env Q b->s.heap.get? b=aM o->s'.heap.get? b=aM o)->P () s'):rl (Lg g.prog g.w) A (Rm env x v) P E s:=by
 refine oEA R.L.ns λm M q=>?_
 refine eC (R.L.gy I (.inl T)) λa d D U=>?_
 refine Vu R.L.kind T D U (λX Z f=>?_)
 have C:aU env Q a:=.inr ⟨x,i,I,.inl T,D⟩
 have O:=R.np a C
 refine oA (R.H.ia (s':={ s with heap:=X }) (wr:=[a]) (gW f.extBut) (λb k=>(n2.mp k).symm▸⟨O.1 (.inr l),O.2,gx U⟩) rfl rfl) λK t=>?_
 have B:env.locals≠a:=λe=>fD (e▸M) U
 refine W _ { H:=K,L:=⟨R.L.kind,R.L.fN,R.L.bi,⟨m,M.elim λo z=>z.elim λG z=>z.elim λu z=>⟨o,G,u,f.extBut _ o B z.1,z.2⟩,λy j p V=>?_⟩,λy j p V=>?_⟩,np:=λb k=>⟨(R.np b k).1,λh=>(R.np b k).2 (iR f.2 O.2 h)⟩,inj:=R.inj,ofr:=λb k=>(R.ofr b k).imp (λe:b=env.locals/\∀o,s.heap.get? b=aM o->o.cls=.type "frame"=>⟨e.1,λo ho=>e.2 o ((f.2 b (e.1▸B)).symm.trans ho)⟩) id } t λb o k e=>f.extBut b o (λh=>k (h▸C)) e
 ·exact(q y j p V).set t λn=>eW V (.inl T) ((J y j p).mpr n).symm
 ·by_cases e:y=x
  ·have hj:=(J y j p).mp e
   exact⟨a,aM v,e▸D,Z,hj▸AtV.new (S.mono t)⟩
  ·refine aX (R.L.cell y j p V) λF r N hr q'=>?_
   exact⟨F,r,N,hr.elim λo z=>⟨o,f.extBut F o (λn=>e (R.inj l y j x i a p I V (.inl T) (n▸N) D)) z.1,z.2⟩,q'.set t λn=>e ((J y j p).mpr n)⟩
end
def aB.lJ{st:St}(R:aB g w T env Q s st)(O:e9 Q)(C:(x,i)∈Q)(f:w=true)(Y:env.kindOf x=aM .local∨env.kindOf x=aM .cell)(B:RV s.heap v c)
{P:Rt->ow->Prop}(n:∀s',aB g w T env Q s' { st with L:=cS st.L i c }->TK s.heap s'.heap->(∀b o,¬ aU env Q b->s.heap.get? b=aM o->s'.heap.get? b=aM o)->P () s'):rl (Lg g.prog g.w) A (Rm env x v) P E s:=by
 have U:∀y j,(y,j)∈Q->(y=x↔j=i):=λy j V=>O y j x i V C
 rcases Y with Y | Y
 ·refine R.lI Y B U λs' J t N=>n s' ⟨J.H,J.L.mono λp D=>oo _ D,λb l=>J.np b ?_,λI y j z k a V M=>J.inj I y j z k a (oo _ V) (oo _ M),J.ofr⟩ t λb o l e=>N b o (λh=>l (.inl h)) e
  rcases l with rfl | ⟨y,j,V,r⟩
  ·exact .inl rfl
  ·exact .inr ⟨y,j,oo _ V,r⟩
 ·exact R.uJ C f Y B U n
end
def aB.mono{vm':cp (Lj×ki)}{st:St}(R:aB g Q Pr env vm s st)(k:∀p∈vm',p∈vm):aB g Q Pr env vm' s st:=
 ⟨R.H,R.L.mono k,λb w=>R.np b (by
  rcases w with rfl | ⟨y,j,z,r⟩
  ·exact .inl rfl
  ·exact .inr ⟨y,j,k _ z,r⟩),λY x i y j a U z=>R.inj Y x i y j a (k _ U) (k _ z),R.ofr⟩
def aU.mono{vm':cp (Lj×ki)}(h:aU env vm b)(k:∀p∈vm,p∈vm'):aU env vm' b:=by
 rcases h with rfl | ⟨y,j,z,r⟩
 ·exact .inl rfl
 ·exact .inr ⟨y,j,k _ z,r⟩
inductive NT(k:Lj->ki->Prop)(vmF:cp (Lj×ki)):cp ki->cp LF->Prop
 | nil:NT k vmF [] []
 | cons {x:Lj} {i:ki} {pos:QC} {is:cp ki} {es:cp LF}:(x,i)∈vmF->k x i->NT k vmF is es->NT k vmF (i::is) (.Name x pos::es)
def FU(e:LF):rt Str:=ex5 e none none (λz=>none) aM (λz=>none) none
def HV(e:LF):cp Expr:=ex5 e [] [] (λz=>[]) (λz=>[]) id []
def mq(Q:cp ki):cp LF->cp (Lj×ki):=Q.rec (λw=>[]) λi w y z=>z.casesOn [] λe z=>(FU e).elim [] λx=>(x,i)::y z
section
variable{g:G}{wc:LG}{env:OR}
structure Sto(g:G)(wc:LG)(Pr:Op)(env:OR)(vmF:cp (Lj×ki))(k:Lj->ki->Prop)(J:cp (Lj×ki)->ow->CH->Prop):Prop where
 st:∀{A:MQ} {x:Lj} {i:ki} {v:rr} {c:CV} {vm:cp (Lj×ki)} {s:ow} {st:St} {P:Rt->ow->Prop} {E:rr->ow->Prop},(x,i)∈vmF->k x i->(∀p∈vm,p∈vmF)->J vm s st.H->aB g wc Pr env vm s st->RV s.heap v c->
  (∀s',J ((x,i)::vm) s' st.H->aB g wc Pr env ((x,i)::vm) s' { st with L:=cS st.L i c }->TK s.heap s'.heap->(∀b o,¬ aU env vmF b->s.heap.get? b=aM o->s'.heap.get? b=aM o)->P () s')->rl (Lg g.prog g.w) A (Rm env x v) P E s
 al:∀{vm:cp (Lj×ki)} {s s':ow} {H:CH},J vm s H->(∀b o,s.heap.get? b=aM o->s'.heap.get? b=aM o)->(∀b,Own s'.heap H b->Own s.heap H b)->J vm s' H
theorem CQ(S:Sto g wc l env Q k J){P:Rt->ow->Prop}:∀{w:cp LF} {z:cp rr} {y:cp CV} {vm:cp (Lj×ki)} {s:ow} {st:St} {L:ki->rt CV},
  NT k Q U w->(∀p∈vm,p∈Q)->J vm s st.H->aB g wc l env vm s st->RVs s.heap z y->mf st.L U y=aM L->
  (∀s' Y,J Y s' st.H->aB g wc l env (mq U w++vm) s' { st with L:=L }->TK s.heap s'.heap->(∀b o,¬ aU env Q b->s.heap.get? b=aM o->s'.heap.get? b=aM o)->P () s')->
  rl (Lg g.prog g.w) A (Q9 ((PC w env).map (·.2)) z) P E s:=by
 induction U with
 | nil=>
  intro w z y vm s st L h T j R C V B
  cases h
  cases y with
  | cons=>exact nos V
  | nil=>
   obtain rfl:z=[]:=C.c
   obtain rfl:=ey V
   exact pe (B s vm j R (TK.refl _) λd d d e=>e)
 | cons i U W=>
  intro w z y vm s st L h T j R C V B
  cases h with
  | @cons x _ n _ w m X Z=>
  cases y with
  | nil=>exact nos V
  | cons c y=>
   refine aX C.c λv r O a b=>?_;subst O
   show rl _ _ (do Q1 r (RC (.Name x n) env v);Q9 ((PC w env).map (·.2)) r) P E s
   refine ec (Mc (SZ (S.st m X T j R a λs' K H t G=>?_)))
   refine W (vm:=(x,i)::vm) (st:={ st with L:=cS st.L i c }) Z (λp f=>(ta.mp f).elim (λe=>e▸m) (T p)) K H (b.mono t) V λN Y D I u M=>?_
   refine B N Y D (I.mono λp f=>?_) (t.trans u) λb o F e=>M b o F (G b o F e)
   have f:p∈(x,i)::(mq U w++vm):=f
   exact(ta.mp f).elim (λh=>Ll _ (h▸fp)) λh=>(LB.mp h).elim (LD _) λh=>Ll _ (oo _ h)
def lW(k:Lj->ki->Prop)(Q:cp (Lj×ki)):LT->LF->Prop
 | .n i,t=>∃x z,t=.Name x z/\NT k Q [i] [t]
 | .t is,t=>∃es p z,t=.Tuple es p z/\NT k Q is es
def aG(t:LT)(e:LF):cp (Lj×ki):=match t with
 | .n i=>mq [i] [e]
 | .t z=>mq z (HV e)
def ic(x:NT k y Q z):(PC z env).length=Q.length/\(PC z env).findIdx? (·.1)=none:=
 x.rec (motive:=λQ z U=>(PC z env).length=Q.length/\(PC z env).findIdx? (·.1)=none) ⟨rfl,rfl⟩ λ{x i w Q z} a b U Y=>by
  show((false,RC (.Name x w) env)::PC z env).length=_/\Wc _ ((false,RC (.Name x w) env)::PC z env)=none
  rw[findIdx?_cons,Y.2]
  exact⟨dd Pj Y.1,rfl⟩
theorem lK{is:cp ki}:∀{cs:cp CV} {L z:ki->rt CV},mf L is cs=aM z->is.length=cs.length:=by
 induction is with
 | nil=>
  intro cs L z h
  cases cs with
  | nil=>rfl
  | cons=>exact nos h
 | cons i is Q=>
  intro cs L z h
  cases cs with
  | nil=>exact nos h
  | cons=>exact dd Pj (Q h)
def ri{vm:cp (Lj×ki)}(S:Sto g wc N env Q k J)(Y:∀p∈vm,p∈Q){A:MQ}(K:A.handled=none){st:St}(j:J vm s st.H)(R:aB g wc N env vm s st)(F:lW k Q t V)(W:RV s.heap v c)
(D:de st.L t c=aM L){P:Rt->ow->Prop}
(X:∀s' vm',J vm' s' st.H->aB g wc N env (aG t V++vm) s' { st with L:=L }->TK s.heap s'.heap->(∀b o,¬ aU env Q b->s.heap.get? b=aM o->s'.heap.get? b=aM o)->P () s'):rl (Lg g.prog g.w) A (RC V env v) P E s:=by
 cases t with
 | n i=>
  refine eC F λx I f l=>?_;subst f
  cases D
  cases l with
  | cons H G _=>exact SZ (S.st H G Y j R W λs' M h t d=>X s' _ M h t d)
 | t is=>
  refine vT F λes q I T l=>?_;subst T
  cases c with
  | tup cs=>
   refine bG W.c λa vs C u h2 Z=>?_;subst C
   refine wpAny_assign_Tuple K u ((ic l).1.trans ((lK D).trans Z.size.symm)) (ic l).2 λr he=>?_
   have w:∀b o,s.heap.get? b=aM o->r.get? b=aM o:=λb o e=>he b o (Lu (LX e)) e
   have R1:aB g wc N env vm { s with heap:=r } st:=⟨R.H.ext w rfl rfl,R.L.ext w,λb O=>⟨(R.np b O).1,λB=>(R.np b O).2 (R.H.mj w B)⟩,R.inj,λb O=>(R.ofr b O).imp (λe:b=env.locals/\∀o,s.heap.get? b=aM o->o.cls=.type "frame"=>⟨e.1,λo B=>R.L.ns.elim λm y=>y.1.elim λU z=>z.elim λζ z=>z.elim λζ z=>ey ((w _ U z.1).symm.trans (e.1▸B))▸e.2 U (e.1▸z.1)⟩) id⟩
   exact CQ S l Y (S.al (s':={ s with heap:=r }) j w λb B=>R.H.mj w B) R1 (Z.mono (TK.aS w)) D λs' vm' M h t d=>X s' vm' M h ((TK.aS w).trans t) λb o O e=>d b o O (w b o e)
  | _=>exact nos D
abbrev LC(env:OR)(x:Lj)(_:ki):Prop:=env.kindOf x=aM .local∨env.kindOf x=aM .cell
def EJ(Y:e9 z):Sto g true U env z (LC env) λvm' Q Q=>∀p∈z,p∈vm':=
 ⟨λ{A x i v c vm' s st P E} y V k j R J o=>(R.mono j).lJ Y y rfl V J λs' O t f=>o s' (λp w=>oo _ (j p w)) (O.mono λp w=>(ta.mp w).elim (λe=>e▸y) (k p)) t f,λj Q Q=>j⟩
end
section
variable{z:Ow}{w:MY}{s:ow}
theorem wu(h:ItR s.heap I v V){P:rr->ow->Prop}(Q:P (.ref I) s):rl (Lg z w) A (UR (.ref I)) P E s:=by
 cases h with
 | list a b=>exact wpAny_pyIter_listiter a Q
 | tup a _ _ _=>exact wpAny_pyIter_tupleiter a Q
 | str a=>exact wpAny_pyIter_striter_ascii a Q
 | rng a _=>exact wpAny_pyIter_rangeiter a Q
 | dK a _=>exact wpAny_pyIter_keyiter a Q
 | prs a _=>exact kcp_self a Q
 | sO a _ _ _ _=>refine oE a λU y=>?_;exact QZ y Q
 | sQ a _ _ _ _ _ _ _=>refine oE a λU Y=>?_;exact QZ Y Q
end
def FV(Q:OR)(z:cp (Lj×LZ))(x:Lj×Qm):cp (Lj×LZ):=if (x.2==MN)=true then(x.1,(Q.cells.lookup x.1).getD 0)::z else z
def nj(Q:OR)(z:cp (Lj×Qm))(w:cp (Lj×LZ)):cp (Lj×LZ):=z.foldl (FV Q) w
def rj{z:OR}{Q:cp (Lj×LZ)}:(FV z Q x).lookup y=if (y,MN)=x then aM ((z.cells.lookup y).getD 0) else Q.lookup y:=by
 by_cases w:(x.2==MN)=true
 ·refine(dd (QD y) (K2 w)).trans ?_
  by_cases e:y=x.1
  ·subst e;exact lookup_cons_self.trans (K2 (show(x.1,MN)=x from MX rfl (eq_of_beq w).symm)).symm
  ·refine SE ?_ (E1 λq=>e (dd PZ q)).symm
   refine NK.trans ?_
   rw[Om.mpr e]
 ·exact(dd (QD y) (E1 w)).trans (E1 λq=>w (MU.mpr (dd PY q).symm)).symm
theorem gz{env:OR}{names:cp (Lj×Qm)}:∀{acc:cp (Lj×LZ)},((y,.free)∈names∨acc.lookup y=aM ((env.cells.lookup y).getD 0))->(nj env names acc).lookup y=aM ((env.cells.lookup y).getD 0):=by
 induction names with
 | nil=>exact λh=>h.elim (p7 · Le) id
 | cons p r z=>
  refine λh=>z (h.elim (λh=>(ta.mp h).elim (λe=>.inr (rj.trans (K2 e))) .inl) λh=>.inr (rj.trans ?_))
  by_cases e:(y,MN)=p
  ·exact K2 e
  ·exact(E1 e).trans h
theorem pM:∀{acc:cp (Lj×LZ)},(nj env names acc).lookup y=aM a->(y,MN)∈names∨acc.lookup y=aM a:=by
 induction names with
 | nil=>exact .inr
 | cons p r z=>
  refine λh=>(z h).elim (λh=>.inl (oo _ h)) λh=>?_
  by_cases e:(y,MN)=p
  ·exact .inl (ta.mpr (.inl e))
  ·exact .inr ((rj.trans (E1 e)).symm.trans h)
theorem uK{env:OR}{z:Ql}(h:∀y,(y,MN)∈z.names->∃a,env.cells.lookup y=aM a):closureFor z env=pure (nj env z.names []):=by
 have w:∀(names:cp (Lj×Qm)) (acc:cp (Lj×LZ)),(∀y,(y,MN)∈names->∃a,env.cells.lookup y=aM a)->
   (forIn names acc λ(x:Lj×Qm) (Y:cp (Lj×LZ))=>(if (x.2==MN)=true then(do let c ← YE env x.1;pure (OI ((x.1,c)::Y))) else pure (OI Y):Sem (O2 (cp (Lj×LZ)))))=pure (nj env names acc):=by
  intro names
  induction names with
  | nil=>exact λv v=>rfl
  | cons p r V=>
   intro acc U
   refine(SR ..).trans (SE (dd (· >>= _) (?_:_=pure (OI (FV env acc p)))) ((pure_bind _ _).trans (V _ λy k=>U y (oo _ k))))
   by_cases Q:(p.2==MN)=true
   ·have j:YE env p.1=pure ((env.cells.lookup p.1).getD 0):=(U p.1 (ta.mpr (.inl (MX rfl (eq_of_beq Q).symm)))).elim λa J=>by unfold YE;rw[J];rfl
    exact(K2 Q).trans ((dd (· >>= _) j).trans ((pure_bind _ _).trans (dd (λc=>pure (OI c)) (K2 Q).symm)))
   ·exact(E1 Q).trans (dd (λc=>pure (OI c)) (E1 Q).symm)
 exact(bind_pure _).trans (w z.names [] h)
section
variable{g:G}{env:OR}{vm:cp (Lj×ki)}
structure ie(scope:Ql)(env:OR)(vm vm0:cp (Lj×ki)):Prop where
 kind:scope.kind=.function
 cell:∀y,(y,Nu)∈scope.names->(y,MN)∉scope.names
 names:∀y∈scope.names,y.2=.local->scope.names.lookup y.1=aM .local
 free:∀y,(y,MN)∈scope.names->∃i,(y,i)∈vm/\(env.kindOf y=aM .cell∨env.kindOf y=aM .free)
 v0:∀x i,(x,i)∈vm0->(x,i)∈vm/\(x,MN)∈scope.names/\(env.kindOf x=aM .cell∨env.kindOf x=aM .free)/\∀C cl,(OB scope cl C env).kindOf x=aM .cell∨(OB scope cl C env).kindOf x=aM .free
abbrev ocl(z:Ql)(C:LZ):cp (Lj×LZ):=Ph (C+1) z.names []
abbrev clE(env:OR)(z:Ql)(C:LZ):cp (Lj×LZ):=ocl z C++nj env z.names []
abbrev coE(env:OR)(z:Ql)(C:LZ):Env:=OB z (clE env z C) C env
theorem xH:∀(z:cp (Lj×Qm)) (n:ki) (acc:cp (Lj×LZ)),Ph n z acc=Ph n z []++acc:=by
 intro z
 induction z with
 | nil=>exact λw w=>rfl
 | cons p r Q=>
  intro n acc
  obtain⟨x,k⟩:=p
  unfold Ph
  split
  ·rw[Q _ ((x,n)::acc),Q _ [(x,n)],M9];rfl
  ·exact Q _ acc
set_option tactic.hygienic true in
theorem uL:∀{z:cp (Lj×Qm)} {n:ki} {Q:cp (Lj×LZ)} {x:Lj} {a:LZ},(x,a)∈Ph n z Q->(x,Nu)∈z∨(x,a)∈Q:=by
 intro z
 induction z with
 | nil=>exact λh=>.inr h
 | cons p r w=>
  intro n Q x a h
  obtain⟨y,k⟩:=p
  unfold Ph at h
  split at h
  ·rename_i Y
   rcases w h with h | h
   ·exact .inl (oo _ h)
   ·rcases ta.mp h with h | h
    ·cases h;exact .inl (by rw[show k=Nu by cases k <;> first | rfl | cases Y];exact fp)
    ·exact .inr h
  ·exact(w h).imp_left (oo _)
theorem y6{l m:cp (Lj×LZ)}(h:∀a,(x,a)∉l):(l++m).lookup x=m.lookup x:=by
 induction l with
 | nil=>rfl
 | cons p l z=>
  have Q:(x==p.1)=false:=Om.mpr λe=>h p.2 (e▸fp)
  show QD x (p::(l++m))=_
  rw[NK,Q]
  exact z λa w=>h a (oo _ w)
def ie.J9(V:ie z env vm Q)(h:(x,MN)∈z.names)(C:LZ):(clE env z C).lookup x=(nj env z.names []).lookup x:=
 y6 λa w=>(uL w).elim (λq=>V.cell x q h) λq=>nomatch q
def uM(V:ie z env vm y){st st':St}(Q:Rep g k env vm s st)(R:av g.w g.AN g.os g.h₀ k s' st'.H)(N:st'.L=st.L)(t:TK s.heap s'.heap)(A:s'.heap.Ns C m)(l:(∀o,¬ k C o)/\¬ Own s'.heap st'.H C) :
  aB g false k (coE env z C) y s' st':=by
 have B:∀x i,(x,i)∈y->∃a,env.cells.lookup x=aM a/\(clE env z C).lookup x=aM a/\∃o,k a o:=λx i w=>by
  refine ut (V.v0 x i w) λJ L O f=>?_
  refine eC (Q.L.gy J O) λa v U f=>?_
  refine⟨a,U,?_,Q.fr a (.inr ⟨x,i,J,O,U⟩)⟩
  have:=gz (env:=env) (names:=z.names) (acc:=[]) (.inl L)
  erw[V.J9 L C]
  (erw[this];erw[U]);rfl
 have D:=Q.L.ay (h':=s'.heap) (λb o j e=>by
  refine oE (Q.fr b j) λM p=>?_
  exact Q.H.same R p e) t
 refine⟨R,⟨V.kind,Q.L.fN,Q.L.bi,⟨m,A,λx i w n=>?_⟩,λx i w n=>?_⟩,λb j=>?_,λh=>(nomatch h),λb j=>.inr (Q.ofr b j)⟩
 ·rcases(V.v0 x i w).2.2.2 C (clE env z C) with h | h <;> rw[n] at h <;> cases h
 ·refine ut (V.v0 x i w) λJ L O f=>?_
  refine aA (B x i w) λa U Y f=>?_
  refine aX (D.cell x i J O) λE r T I q=>?_
  exact⟨E,r,ey (U.symm.trans T)▸Y,I,N▸q⟩
 ·rcases j with rfl | ⟨x,i,w,_,c⟩
  ·exact⟨λf=>l.1,l.2⟩
  ·refine i6 (B x i w) λa U Y o p=>?_
   have:(clE env z C).lookup x=aM b:=c
   rw[Y] at this;cases this
   refine⟨λh=>?_,R.eG p⟩
   rcases h with h | h
   ·exact p7 p (h▸l.1 o)
   ·cases h
def fa{s':ow}{H:CH}(R:av g.w g.AN g.os g.h₀ k s H)(v:∀j o,Own s.heap H j->s.heap.get? j=aM o->s'.heap.get? j=aM o)(h:¬ Own s.heap H b):¬ Own s'.heap H b:=by
 rintro(x | x | x | ⟨j,V,O,Y,z,U⟩)
 ·exact h (.inl x)
 ·exact h (.inr (.inl x))
 ·exact h (.inr (.inr (.inl x)))
 ·have Q:Own s.heap H j:=.inr (.inr (.inl (by erw[Y];exact Lm _)))
  refine oA (R.ins j V Y) λp w=>?_;obtain⟨_,o,y,_,J⟩ | ⟨f,l,m,y,_⟩:=w
  ·have:=v _ _ Q y;rw[z] at this;cases this;rw[J] at U;cases U
  ·have:=v _ _ Q y;rw[z] at this;cases this
   exact h (.inr (.inr (.inr ⟨j,V,_,Y,y,U⟩)))
theorem i8{names:cp (Lj×Qm)}:∀{n:ki} {acc:cp (Lj×LZ)},((x,Nu)∈names∨∃a,acc.lookup x=aM a)->∃a,(Ph n names acc).lookup x=aM a:=by
 induction names with
 | nil=>exact λh=>h.elim (p7 · Le) id
 | cons p r Y=>
  intro n acc h
  obtain⟨Q,w⟩:=p
  show ∃a,QD x (if (w==Nu)=true then Ph (n+1) r ((Q,n)::acc) else Ph n r acc)=aM a
  by_cases y:(w==Nu)=true
  ·erw[K2 y]
   refine Y ?_
   cases e:x==Q with
   | true=>exact .inr ⟨n,by(erw[NK];exact LH e rfl)⟩
   | false=>exact h.imp (λh=>(ta.mp h).resolve_left λq=>(Om.mp e) (dd PZ q)) λz=>z.imp λa U=>by(erw[NK];erw[e]);exact U
  ·erw[E1 y]
   exact Y (h.imp_left λh=>(ta.mp h).resolve_left λq=>y (MU.mpr (dd PY q).symm))
structure OcR(Pr:Op)(env:OR)(oc:cp (Lj×LZ))(s:ow)(H:CH):Prop where
 c:∀x a,oc.lookup x=aM a->env.cells.lookup x=aM a/\(∃r,s.heap.IsCell a r)/\(∀o,¬ Pr a o)/\¬ Own s.heap H a
 u:∀x a y,oc.lookup x=aM a->env.cells.lookup y=aM a->y=x
def OcR.ay{s':ow}{H:CH}(j:OcR Y env y s H)(k:∀x a o,y.lookup x=aM a->s.heap.get? a=aM o->∃Q,s'.heap.get? a=aM Q/\dZ o Q)(w:∀b o,s.heap.get? b=aM o->¬ Own s.heap H b->¬ Own s'.heap H' b):OcR Y env y s' H':=
 ⟨λx a h=>by refine ut (j.c x a h) λv z V J=>?_;obtain⟨r,o,U,O⟩:=z;refine oEA (k x a o h U) λQ p f=>?_;exact⟨v,⟨r,Q,p,f.data.trans O⟩,V,w a o U J⟩,j.u⟩
abbrev LO(env:OR)(z:cp (Lj×LZ))(x:Lj)(_:ki):Prop:=env.kindOf x=aM .local∨env.kindOf x=aM .cell/\∃a,z.lookup x=aM a
def HW(hF:e9 T):Sto g false Pr env T (LO env oc) λO s H=>OcR Pr env oc s H:=by
 refine⟨λ{A x i v c vm s st P E} hx p hs j R hv hP=>?_,λj k w=>j.ay (λO a o O e=>⟨o,k a o e,.refl o⟩) λb O O h F=>h (w b F)⟩
 have f:∀y j,(y,j)∈vm->(y=x↔j=i):=λy j I=>hF y j x i (hs _ I) hx
 refine oEA R.L.ns λm S q=>?_
 rcases p with p | ⟨p,a,ha⟩
 ·exact R.lI p hv f λs' W t X=>hP s' (j.ay (λy a o h e=>⟨o,X a o (λV=>(j.c y a h).2.1.elim λO C=>fD S (V▸C)) e,.refl o⟩) λb o O h=>fa R.H (λz o Q e=>X z o (λV=>(R.np z (.inl V)).2 Q) e) h) W t λb o Y e=>X b o (λV=>Y (.inl V)) e
 ·refine ut (j.c x a ha) λJ B hp l=>?_;obtain⟨r,C⟩:=B
  refine Vu R.L.kind p J C (λF n Y=>?_)
  refine oA (R.H.ia (s':={ s with heap:=F }) (wr:=[a]) (gW Y.extBut) (λb Y=>(n2.mp Y).symm▸⟨hp,l,gx C⟩) rfl rfl) λW t=>?_
  have N:env.locals≠a:=λe=>fD (e▸S) C
  have I:∀{y:Lj} {j:ki},(y,j)∈vm->y≠x->j≠i:=λh e V=>e ((f _ _ h).mpr V)
  refine hP _ ⟨λx' M h=>?_,j.u⟩ { H:=W,L:=⟨R.L.kind,R.L.fN,R.L.bi,⟨m,S.elim λo z=>z.elim λes z=>z.elim λep z=>⟨o,es,ep,Y.extBut _ o N z.1,z.2⟩,λy z Q U=>?_⟩,λy z Q U=>?_⟩,np:=λb Z=>?_,inj:=λh=>(nomatch h),ofr:=λb h=>(R.ofr b h).imp (λe:b=env.locals/\∀o,s.heap.get? b=aM o->o.cls=.type "frame"=>⟨e.1,λo ho=>e.2 o ((Y.2 b (e.1▸N)).symm.trans ho)⟩) id } t λb o Z e=>Y.extBut b o (λh=>Z (h▸.inr ⟨x,i,hx,.inl p,J⟩)) e
  ·refine ut (j.c x' M h) λd D h3 h4=>?_;obtain⟨r',h2⟩:=D
   refine⟨d,?_,h3,λh=>h4 (iR Y.2 l h)⟩
   by_cases e:M=a
   ·exact⟨_,e▸n⟩
   ·exact⟨r',h2.sameBut Y e⟩
  ·have e:y≠x:=λe=>eW U (.inl p) e.symm
   have Q:=fE Q e
   exact(q y z Q U).set t (I Q e)
  ·by_cases e:y=x
   ·have Q:z=i:=(ta.mp Q).elim (λh=>dd PY h) λh=>(f y z h).mp e
    exact⟨a,aM v,e▸J,n,Q▸AtV.new (hv.mono t)⟩
   ·have Q:=fE Q e
    refine aX (R.L.cell y z Q U) λM r' d h2 h3=>?_
    exact⟨M,r',d,h2.sameBut Y λV=>e (j.u x a y ha (V▸d)),h3.set t (I Q e)⟩
  ·rcases Z with rfl | ⟨y,z,Q,U,hl⟩
   ·exact⟨(R.np _ (.inl rfl)).1,λh=>(R.np _ (.inl rfl)).2 (iR Y.2 l h)⟩
   ·by_cases e:y=x
    ·subst e
     cases J.symm.trans hl
     exact⟨λO=>hp,λh=>l (iR Y.2 l h)⟩
    ·have w:=R.np b (.inr ⟨y,z,fE Q e,U,hl⟩)
     exact⟨w.1,λh=>w.2 (iR Y.2 l h)⟩
theorem wv{l m:cp (Lj×LZ)}(h:(l++m).lookup x=aM a):l.lookup x=aM a∨m.lookup x=aM a:=by
 cases e:l.lookup x with
 | none=>rw[RU,e] at h;exact .inr h
 | some b=>rw[RU,e] at h;exact .inl h
def jM.nt{H:CH}(h:jM w s H y):∀b∈y,(∀o,¬ w b o)/\¬ Own s.heap H b/\∀Y,¬ Qn s.heap b Y:=λb Q=>
 ⟨(h b Q).1,(h b Q).2.1,λY z=>z.elim λo z=>(h b Q).2.2 o z.1 z.2.1⟩
def eu{s':ow}{H:CH}{os:NG}(R:av w f os z p s H){v:cp LZ}(k:∀b o,b∉v->s.heap.get? b=aM o->s'.heap.get? b=aM o)(l:∀b∈v,¬ Own s.heap H b){b:LZ}(h:¬ Own s.heap H b):¬ Own s'.heap H b:=by
 rintro(x | x | x | ⟨j,O,T,V,Q,J⟩)
 ·exact h (.inl x)
 ·exact h (.inr (.inl x))
 ·exact h (.inr (.inr (.inl x)))
 ·have y:j∉v:=λL=>l j L (.inr (.inr (.inl (by erw[V];exact Lm _))))
  refine oA (R.ins j O V) λc Y=>?_;obtain⟨_,o,U,_,t⟩ | ⟨C,B,m,U,_⟩:=Y
  ·have:=k _ _ y U;rw[Q] at this;cases this;rw[t] at J;cases J
  ·have:=k _ _ y U;rw[Q] at this;cases this
   exact h (.inr (.inr (.inr ⟨j,O,_,V,U,J⟩)))
def aB.ia{env:OR}{vm:cp (Lj×ki)}{s':ow}{st:St}(R:aB g j Y env vm s st){wr:cp LZ}(k:∀b o,b∉wr->s.heap.get? b=aM o->s'.heap.get? b=aM o)
(J:∀b∈wr,(∀o,¬ Y b o)/\¬ Own s.heap st.H b/\∀p,¬ Qn s.heap b p)(O:∀b∈wr,¬ aU env vm b)(f:s'.os=s.os)(l:s'.gens=s.gens):aB g j Y env vm s' st/\TK s.heap s'.heap:=by
 refine oA (R.H.ia k J f l) λT t=>?_
 exact⟨⟨T,R.L.ay (λb o Q e=>⟨o,k b o (λU=>O b U Q) e,.refl o⟩) t,λb Q=>⟨(R.np b Q).1,eu R.H k (λb Q=>(J b Q).2.1) (R.np b Q).2⟩,R.inj,λb Q=>(R.ofr b Q).imp (λ⟨e,h⟩=>⟨e,λo x=>by
  subst e
  refine oEA R.L.ns λm w c=>?_;obtain⟨y,v,V,z,_⟩:=w
  have:=k _ y (λU=>O _ U (.inl rfl)) z
  rw[x] at this;cases this
  exact h _ z⟩) id⟩,t⟩
inductive ig(g:G)(scope:Ql)(env:OR)(vmF:cp (Lj×ki)):cp CE->cp LF->Prop
 | nil:ig g scope env vmF [] []
 | one {cc:CE} {c:LF}:(∀C cl,TS g (OB scope cl C env) vmF cc (Ou c (OB scope cl C env) (Mb c (OB scope cl C env))))->ig g scope env vmF [cc] [c]
structure fU(g:G)(Pr:Op)(CR:OR)(oc:cp (Lj×LZ))(vm0:cp (Lj×ki))(I:LZ)(wr:cp LZ)(D:LZ)(h₂:M7)(ci:CI)(s:ow)(st:St)(it:It)(acc:cp CV):Prop where
 F:aB g false Pr CR vm0 s st
 o:OcR Pr CR oc s st.H
 itr:ItR s.heap I wr it
 itf:fT ci it
 apart:jM Pr s st.H wr
 off:CR.locals∉wr/\D∉wr/\D≠CR.locals
 pf:∀x a,oc.lookup x=aM a->a∉wr/\a≠D
 d:∃vs n,s.heap.get? D=aM { cls:=.type "list",dict:=none,data:=.seq vs n,slots:=#[] }/\RVs s.heap vs.toList acc
 dn:(∀o,¬ Pr D o)/\¬ Own s.heap st.H D
 tk:TK h₂ s.heap
theorem fU.FW{H:CH}(R:av g.w g.AN g.os g.h₀ Q s H)(Y:∀o,¬ Q a o)(z:¬ Own s.heap H a):H.free a where
 ro:=by
  cases e:H.ro a with
  | none=>rfl
  | some l=>
   refine uv (R.ro a l e) λw y y p c y=>?_
   exact p7 (R.base a w p) (Y w)
 lst:=Nw λh=>z (.inl h)
 dct:=Nw λh=>z (.inr (.inl h))
 cls:=Nw λh=>z (.inr (.inr (.inl h)))
 att:=λn=>Nw λh=>R.att n a h (Nw λU=>z (.inr (.inr (.inl U))))
theorem sZ(h:fT U v)(z:(∃V k p,Y=.Tuple V k p)∨∀y,U≠.bu y/\U≠.ai y):sR v Y:=by
 cases v with
 | ei=>
  refine oE h λy Q=>?_;subst Q
  exact z.resolve_right λz=>(z y).2 rfl
 | bu k t=>
  refine oE h λy w=>?_;subst w
  rcases z with z | z
  ·exact z
  ·exact p7 rfl (z y).1
 | _=>trivial
def iS{Q:Type}{o:rt Q}{f:Q->CV×It}(Y:∀a,fT w (f a).2)(e:o.map f=aM (c,z)):fT w z:=
 (Me.mp e).elim λa y=>(show(f a).2=z from dd PY y.2)▸Y a
theorem nq{H:CH}(h:fT w y)(e:y.next H=aM (aM (c,z))):fT w z:=by
 cases y with
 | bu k t=>exact ni (P:=λr=>r=aM (c,z)->fT w z) e (λU Q e=>iS (λQ=>h) e) rfl
 | list a i=>exact nh (P:=λr=>r=aM (c,z)->fT w z) e (λl Q e=>iS (f:=λv=>(v,It.list a (i+1))) (λQ=>trivial) e) rfl
 | ai l=>
  cases l with
  | nil=>exact nomatch (ey e)
  | cons v l=>exact(show It.ai l=z from dd PY (ey (ey e)))▸trivial
 | dK a n i=>exact sW (P:=λr=>r=aM (c,z)->fT w z) e (λY Q Q Q e=>iS (f:=λp:CV×CV=>(p.1,It.dK a n (i+1))) (λQ=>trivial) e) rfl
 | ei a n i=>exact pK (P:=λr=>r=aM (c,z)->fT w z) e (λY Q Q Q e=>iS (f:=λp:CV×CV=>(.tup [p.1,p.2],It.ei a n (i+1))) (λQ=>h) e) rfl
def nr(V:ie z env vm w){st:St}(U:Rep g Y env vm s st)(h:aU (coE env z C) y b):b=C∨(∃x,(ocl z C).lookup x=aM b)∨∃o,Y b o:=by
 rcases h with rfl | ⟨x,i,_,_,Q⟩
 ·exact .inl rfl
 ·right
  refine(wv (show(clE env z C).lookup x=aM b from Q)).imp (λh=>⟨x,h⟩) λQ=>?_
  rcases pM Q with h | h
  ·refine oEA (V.free x h) λi k j=>?_
   refine eC (U.L.gy k j) λa v J O=>?_
   have:=gz (env:=env) (names:=z.names) (acc:=[]) (.inl h)
   rw[Q,J] at this
   cases this
   exact U.fr _ (.inr ⟨x,i,k,j,J⟩)
  ·cases h
def fU.d8{st:St}(N:fU g L z t y I p D w T s st x U)
(v:Rep g (frz s st.H) z y s' Y):fU g L z t y I p D w T s' Y x U/\TK s.heap s'.heap:=by
 have J:∀b o,s.heap.get? b=aM o->¬ Own s.heap st.H b->∃V,s'.heap.get? b=aM V/\dZ o V:=λb o e h=>v.H.b7 b o ⟨e,h⟩
 have tk:=N.F.H.tk (s':=s') J
 refine eC N.d λc n C B=>?_
 have k:∀b∈p,∀o,s.heap.get? b=aM o->s'.heap.get? b=aM o:=λb Q o q=>by
  refine oEA (J b o q (N.apart b Q).2.1) λV e f=>?_
  rw[f.eq (N.itr.sV b Q o q)] at e;exact e
 have l:s'.heap.get? D=aM { cls:=.type "list",dict:=none,data:=.seq c n,slots:=#[] }:=by
  refine oEA (J D _ C N.dn.2) λV e f=>?_
  rw[f.eq (by show Mw "list"≠Mw "frame";decide)] at e;exact e
 refine⟨⟨N.F.d8 v,N.o.ay (λE a o A e=>J a o e ((N.o.c _ a A).2.2.2)) (λb o e h=>v.H.eG (b:=b) ⟨e,h⟩),N.itr.ay k tk,N.itf,λb Q=>⟨(N.apart b Q).1,?_,?_⟩,N.off,N.pf,⟨c,n,l,B.mono tk⟩,⟨N.dn.1,v.H.eG (b:=D) ⟨C,N.dn.2⟩⟩,N.tk.trans tk⟩,tk⟩
 ·refine oE (N.itr.live b Q) λo O=>?_
  exact v.H.eG (b:=b) ⟨O,(N.apart b Q).2.1⟩
 ·refine oE (N.itr.live b Q) λo O=>?_
  have:=k b Q o O
  intro V j
  rw[this] at j;cases j
  exact(N.apart b Q).2.2 _ O
def fU.mono{w:cp (Lj×ki)}{st:St}(N:fU g Pr z Y y I wr D Q U s st v acc)(k:∀p∈w,p∈y) :
  fU g Pr z Y w I wr D Q U s st v acc:=⟨N.F.mono k,N.o,N.itr,N.itf,N.apart,N.off,N.pf,N.d,N.dn,N.tk⟩
def fU.ia{st:St}(N:fU g Y z j J I wr D w O s st p v)
(T:aB g false Y z U s' { st with L:=L })(c:OcR Y z j s' st.H)(t:TK s.heap s'.heap)(f:∀b o,b≠z.locals->(∀x,j.lookup x≠aM b)->(∀o,¬ Y b o)->s.heap.get? b=aM o->s'.heap.get? b=aM o)(y:∀b,¬ Own s.heap st.H b->¬ Own s'.heap st.H b):fU g Y z j U I wr D w O s' { st with L:=L } p v:=by
 refine eC N.d λC n B a=>?_
 have V:∀b∈wr,∀o,s.heap.get? b=aM o->s'.heap.get? b=aM o:=λb Q o q=>f b o (λh=>N.off.1 (h▸Q)) (λx h=>(N.pf x b h).1 Q) (N.apart b Q).1 q
 refine⟨T,c,N.itr.ay V t,N.itf,λb Q=>⟨(N.apart b Q).1,y b (N.apart b Q).2.1,?_⟩,N.off,N.pf,⟨C,n,f D _ N.off.2.2 (λx h=>(N.pf x D h).2 rfl) N.dn.1 B,a.mono t⟩,⟨N.dn.1,y D N.dn.2⟩,N.tk.trans t⟩
 refine oE (N.itr.live b Q) λo l=>?_
 have:=V b Q o l
 intro A k
 rw[this] at k;cases k
 exact(N.apart b Q).2.2 _ l
def pN{K:CI}{st:St}{H:It}(hA:OKA g A)
(L:ES g w V O (Mb l w))
(N:fU g R w Z V I S D p K s st H k)
(hw:wpE g.Φ g.M O st Q (λM M=>False)){P:rr->ow->Prop}
(hP:∀c s' y,fU g R w Z V I S D p K s' y H (k++[c])->Q c y->P .none s')(W:¬ aU w V D)(Y:∀c y,Q c y->k.length<=szl) :
  rl (Lg g.prog g.w) A (Mb l w) (λx t=>rl (Lg g.prog g.w) A (call (.builtin "list.append") [.ref D,x]) P E t) E s:=by
 refine L A (frz s st.H) s st Q _ _ E hA N.F.bj hw (λv c s' y hv d G=>?_) λM M h=>h.elim
 refine oA (N.d8 d) λU tk=>?_
 refine eC U.d λT n m u=>?_
 have Y:=Y _ _ G
 unfold szl at Y
 have X:T.size=k.length:=u.size
 refine T8 Sw (⟨_,m,rfl⟩:s'.TypeIs (.ref D) "list") Vs (Va _ _) (Yl D T n v (cy (p8 X) Y)) ⟨m,?_⟩
 obtain⟨i,e⟩:∃i,M6 (λj=>j.push v) { cls:=.type "list",dict:=none,data:=.seq T n,slots:=#[] }={ cls:=.type "list",dict:=none,data:=.seq (T.push v) i,slots:=#[] }:=⟨_,rfl⟩
 have h1:(s'.heap.update D (M6 λj=>j.push v)).get? D=aM { cls:=.type "list",dict:=none,data:=.seq (T.push v) i,slots:=#[] }:=by
  rw[LN _ m (by erw[e];rfl),e]
 have f:∀b o,b∉[D]->s'.heap.get? b=aM o->(s'.heap.update D (M6 λj=>j.push v)).get? b=aM o:=λb o z q=>by
  rw[MF _ _ (λh=>z (by simp[h]))];exact q
 have J:∀b∈[D],(∀o,¬ R b o)/\¬ Own s'.heap y.H b/\∀us,¬ Qn s'.heap b us:=λb z=>by
  rw[n2] at z;subst z
  exact⟨U.dn.1,U.dn.2,λus ⟨o,h2,hc,_⟩=>by rw[m] at h2;cases h2;exact p7 (show Mw "list"=Mw "tuple" from hc) (by decide)⟩
 refine oA (U.F.ia (s':={ s' with heap:=s'.heap.update D (M6 λj=>j.push v) }) f J (λb z=>by rw[n2] at z;subst z;exact W) rfl rfl) λF2 r=>?_
 have C:∀b∈S,∀o,s'.heap.get? b=aM o->(s'.heap.update D (M6 λj=>j.push v)).get? b=aM o:=λb z o q=>f b o (λh=>by rw[n2] at h;subst h;exact N.off.2.1 z) q
 refine hP c _ y ⟨F2,U.o.ay (λx a o hx e=>⟨o,f a o (λh=>(N.pf x a hx).2 (n2.mp h)) e,.refl o⟩) (λb o M h=>eu d.H f (λb z=>(J b z).2.1) h),U.itr.ay C r,N.itf,λb z=>⟨(N.apart b z).1,eu d.H f (λb z=>(J b z).2.1) (U.apart b z).2.1,?_⟩,N.off,N.pf,⟨_,i,h1,?_⟩,⟨N.dn.1,eu d.H f (λb z=>(J b z).2.1) U.dn.2⟩,U.tk.trans r⟩ G
 ·refine oE (U.itr.live b z) λo ho=>?_
  have:=C b z o ho
  intro o' B
  rw[this] at B;cases B
  exact(U.apart b z).2.2 _ ho
 ·erw[Ov]
  exact(u.mono r).append (.cons (hv.mono r) .nil)
def pO{Q:LF}(V:ie z env vm vm0){A:MQ}(R0:Rep g B env vm U M){st:St}
(hh:A.handled=none)(hF:e9 (aG t Q++vm0))(ht:lW (LO (coE env z C) (ocl z C)) (aG t Q++vm0) t Q)(z3:(∃es k p,Q=.Tuple es k p)∨∀ce,R≠.bu ce/\R≠.ai ce)
(N:fU g B (coE env z C) (ocl z C) vm0 I Z D y R s st it f)(hn:it.next st.H=aM r)
{K:ow->Prop}{K':rr->ow->Prop}
(d:r=none->∀s',aB g false B (coE env z C) vm0 s' st->(∃S n,s'.heap.get? D=aM { cls:=.type "list",dict:=none,data:=.seq S n,slots:=#[] }/\RVs s'.heap S.toList f)->¬ Own s'.heap st.H D->TK y s'.heap->K s')
(m:∀c Y,r=aM (c,Y)->∃L,de st.L t c=aM L/\∀s',fU g B (coE env z C) (ocl z C) (aG t Q++vm0) I Z D y R s' { st with L:=L } Y f->K' .none s') :
  rl (Lg g.prog g.w) A (UQ (.ref I)) (λr l=>match r with
   | none=>K l
   | some v=>rl (Lg g.prog g.w) A (RK Q (.ref I) v) (λζ U=>rl (Lg g.prog g.w) A (RC Q (coE env z C) v) (λζ J=>K' .none J) E U) E l) E s:=by
 have i:∀{b z4},aU (coE env z C) z4 b->b=C∨(∃x,(ocl z C).lookup x=aM b)∨∃o,B b o:=λh=>nr V R0 h
 have z0:∀b∈Z,¬ aU (coE env z C) vm0 b:=λb w h=>by
  rcases i h with rfl | ⟨x,h⟩ | ⟨o,p⟩
  ·exact N.off.1 w
  ·exact(N.pf x b h).1 w
  ·exact(N.apart b w).1 o p
 refine wq (K:=λr s=>match r with | none=>K s | some v=>rl (Lg g.prog g.w) A (RC Q (coE env z C) v) (λζ J=>K' .none J) E s) hh N.F.H N.itr (sZ N.itf z3) hn (yX (λhr F W T=>?_) (λc Y hr v F W hv hI ζ T=>?_))
 ·refine oA (N.F.ia (s':={ s with heap:=F,toks:=W }) T N.apart.nt z0 rfl rfl) λF' t'=>?_
  refine eC N.d λS n hd P=>?_
  exact d hr _ F' ⟨S,n,T D _ N.off.2.1 hd,P.mono t'⟩ (eu N.F.H T (λb w=>(N.apart b w).2.1) N.dn.2) (N.tk.trans t')
 ·refine oA (N.F.ia (s':={ s with heap:=F,toks:=W }) T N.apart.nt z0 rfl rfl) λF' t'=>?_
  refine eC N.d λS n hd P=>?_
  have O:∀b,¬ Own s.heap st.H b->¬ Own F st.H b:=λb w=>eu (s':={ s with heap:=F,toks:=W }) N.F.H T (λb w=>(N.apart b w).2.1) w
  have z1:fT R Y:=nq N.itf (hr▸hn)
  have z5:jM B { s with heap:=F,toks:=W } st.H Z:=λb w=>⟨(N.apart b w).1,O b (N.apart b w).2.1,hI.kS b w⟩
  have X:fU g B (coE env z C) (ocl z C) vm0 I Z D y R { s with heap:=F,toks:=W } st Y f:=
   ⟨F',N.o.ay (λx a o hx e=>⟨o,T a o (N.pf x a hx).1 e,.refl o⟩) (λb o ζ h=>O b h),hI,z1,z5,N.off,N.pf,⟨S,n,T D _ N.off.2.1 hd,P.mono t'⟩,⟨N.dn.1,O D N.dn.2⟩,N.tk.trans t'⟩
  refine oEA (m c Y hr) λL hL z6=>?_
  refine ri (HW hF) (λp hp=>Ll _ hp) hh X.o F' ht hv hL λs' ζ j' R' t2 z2=>z6 s' ?_
  refine X.ia R' j' t2 (λb o w hx hp e=>z2 b o (λhf=>?_) e) λb w=>fa X.F.H (λj o hj e=>z2 j o (λhf=>?_) e) w
  ·rcases i hf with h | ⟨x,h⟩ | ⟨o',p⟩
   ·exact w h
   ·exact hx x h
   ·exact hp o' p
  ·rcases i hf with h | ⟨x,h⟩ | ⟨o',p⟩
   ·subst h;exact(X.F.np _ (.inl rfl)).2 hj
   ·exact(X.o.c x j h).2.2.2 hj
   ·exact X.F.H.eG p hj
def coT(g:G)(t:LT)(z:cp CE)(Q:CE)(v:CV)(s:St)(K:rt CV->St->Prop):Prop:=
 ∃L,de s.L t v=aM L/\jC g.Φ g.M z { s with L:=L } (λb s=>if b=true then wpE g.Φ g.M Q s (λr s=>K (aM r) s) (λw w=>False) else K none s) (λw w=>False)
def EK(Q:Ps)(L:ki->rt CV)(acc:cp CV)(s:St):Prop:=acc.length<=szl/\∀c,s.H.free c->Q (.ref c) ⟨s.H.aD c acc,L⟩
theorem ww{st:St}(h:eZ Q w k U z st):∃j r,k=j+1/\U.next st.H=aM r/\(r=none->w z st)/\
  ∀v y,r=aM (v,y)->Q v st λr Y=>z.length<szl/\eZ Q w j y (r.elim z λx=>z++[x]) Y:=by
 cases k with
 | zero=>exact h.elim
 | succ k=>
  have h:=show(U.next st.H).elim False λo=>o.elim (w z st) λp=>Q p.1 st λr Y=>z.length<szl/\eZ Q w k p.2 (r.elim z λx=>z++[x]) Y from h
  cases e:U.next st.H with
  | none=>rw[e] at h;exact h.elim
  | some r=>rw[e] at h;exact⟨k,r,rfl,rfl,λV=>by subst V;exact h,λv y V=>by subst V;exact h⟩
def HX(h:M7)(D:LZ)(acc:cp CV):Prop:=∃z n,h.get? D=aM { cls:=.type "list",dict:=none,data:=.seq z n,slots:=#[] }/\RVs h z.toList acc
structure CoH(g:G)(env:OR)(vm:cp (Lj×ki))(Kb:CE)(ci:CI)(t:LT)(elt tgt:LF)(scope:Ql)(vm0:cp (Lj×ki))(A:MQ)(Pr:Op)(s₂:ow)(HY:St)(C D:LZ)(Fin:cp CV->St->Prop)(Z:ow->Prop):Prop where
 V:ie scope env vm vm0
 R:Rep g Pr env vm s₂ HY
 ok:OKA g A
 hh:A.handled=none
 F:e9 (aG t tgt++vm0)
 tg:lW (LO (coE env scope C) (ocl scope C)) (aG t tgt++vm0) t tgt
 to:(∃es k p,tgt=.Tuple es k p)∨∀ce,ci≠.bu ce/\ci≠.ai ce
 el:ES g (coE env scope C) (aG t tgt++vm0) Kb (Mb elt (coE env scope C))
 fr:∀{vmX},¬ aU (coE env scope C) vmX D
 fin:∀s' st' acc,aB g false Pr (coE env scope C) vm0 s' st'->HX s'.heap D acc->¬ Own s'.heap st'.H D->TK s₂.heap s'.heap->Fin acc st'->Z s'
section
variable{Q:CE}{ci:CI}{Y iter:LF}{scope:Ql}{vm0:cp (Lj×ki)}{Pr:Op}{w:ow}{z:St}{C D I:LZ}{Fin:cp CV->St->Prop}{wr:cp LZ}{U:It}{n:ki}{P:rr->ow->Prop}{use:rt (rr->Sem Rt)}
inductive CoI(g:G)(env:OR)(vm0:cp (Lj×ki))(Pr:Op)(C I:LZ)(wr:cp LZ)(D:LZ)(h₂:M7)(ci:CI)(scope:Ql)(turn:CV->St->(rt CV->St->Prop)->Prop)(Fin:cp CV->St->Prop)(k:ki)(s':ow):Prop
 | mk (st':St) (it':It) (acc:cp CV) (N:fU g Pr (coE env scope C) (ocl scope C) vm0 I wr D h₂ ci s' st' it' acc) (hl:eZ turn Fin k it' acc st'):CoI g env vm0 Pr C I wr D h₂ ci scope turn Fin k s'
def y7(X:CoH g env vm Q ci t y Y scope vm0 A Pr w z C D Fin (R9 (Lg g.prog g.w) A E use P (.ref D) C (.ok .next)))(N:fU g Pr (coE env scope C) (ocl scope C) vm0 I wr D w.heap ci j z U [])(F:eZ (coT g t [] Q) Fin n U [] z) :
  UX (Lg g.prog g.w) A (.compLoop (.ListComp y [⟨Y,iter,[],0⟩] scope v) 0 (.ref I) (.ref D) (coE env scope C)) (R9 (Lg g.prog g.w) A E use P (.ref D) C) j:=by
 refine kcp_loop (CoI g env vm0 Pr C I wr D w.heap ci scope (coT g t [] Q) Fin) ?_ n (.mk z U [] N F)
 rintro k s' ⟨st',R,acc,S,W⟩
 refine bG (ww W) λk r o x O f=>?_;subst o
 refine pO (K':=λe l=>rl (Lg g.prog g.w) A (Mb y (coE env scope C)) _ _ l) X.V X.R X.hh X.F X.tg X.to S x (λb T B Z a M=>X.fin T st' acc B Z a M (O b)) (λc J b=>?_)
 refine oEA (f c J b) λL K s=>?_
 exact⟨L,K,λT d=>pN X.ok X.el d s (λc u m H i=>⟨k,Lz k,.mk m J _ (H.mono λp G=>Ll _ G) i.2⟩) X.fr λe e h=>y1 h.1⟩
theorem y8(d:TS g (coE env scope C) (aG t Y++vm0) s (Ou J (coE env scope C) (Mb J (coE env scope C))))(X:CoH g env vm Q ci t y Y scope vm0 A Pr w z C D Fin (R9 (Lg g.prog g.w) A E use P (.ref D) C (.ok .next)))(N:fU g Pr (coE env scope C) (ocl scope C) vm0 I wr D w.heap ci f z U [])(q:eZ (coT g t [s] Q) Fin n U [] z) :
  UX (Lg g.prog g.w) A (.compLoop (.ListComp y [⟨Y,iter,[J],0⟩] scope v) 0 (.ref I) (.ref D) (coE env scope C)) (R9 (Lg g.prog g.w) A E use P (.ref D) C) f:=by
 refine kct_loop (CoI g env vm0 Pr C I wr D w.heap ci scope (coT g t [s] Q) Fin) ?_ n (.mk z U [] N q)
 rintro k s' ⟨st',V,acc,N',hl⟩
 refine bG (ww hl) λk r l m T x=>?_;subst l
 refine pO (K':=λa B=>rl (Lg g.prog g.w) A (Ou _ (coE env scope C) _) _ _ B) X.V X.R X.hh X.F X.tg X.to N' m (λi O e hd F R=>X.fin O st' acc e hd F R (T i)) (λc o i=>?_)
 refine oEA (x c o i) λL hL S=>?_
 refine⟨L,hL,λO M=>d A (frz O _) O _ _ _ _ _ X.ok M.F.bj S (λc3 s3 W R3 Z=>?_) λa a h=>h.elim⟩
 refine oEA Z λb hb j=>?_
 refine⟨b,hb,?_⟩
 refine oA (M.d8 R3) λu a=>?_
 cases b with
 | false=>exact⟨k,Lz k,.mk W o _ (u.mono λp K=>Ll _ K) j.2⟩
 | true=>exact pN X.ok X.el u j (λc s4 H N4 G=>⟨k,Lz k,.mk H o _ (N4.mono λp K=>Ll _ K) G.2⟩) X.fr λa a h=>y1 h.1
end
def FY{z:Ql}{s:ow}{Q:OR->ow->Prop}(h:∀w,w=Rp (s.heap.push { cls:=.type "dict",data:=.dict #[] }) z.names->Q (newEnv z s.heap.objs.size env.globals (clE env z s.heap.objs.size) env.qual none .none (aM env) QO) { s with heap:=w }) :
  rl M A (R7 z env.globals (nj env z.names []) [] env.qual none .none (aM env)) Q E s:=by
 simp only[R7,Zb,if_true]
 refine ec (Yg ?_)
 refine ec (Xv _ (λU y Y=>by cases v:y==Nu <;> simp) _ _ _ _ ?_)
 erw[show({ s with heap:=s.heap.push { cls:=.type "dict",data:=.dict #[] } }:ow).heap.objs.size=s.heap.objs.size+1 from M0 ..]
 rw[xH]
 exact ec (pe (pe (h _ rfl)))
def y9(zv:g.hd=true){use:rt (rr->Sem Rt)}{L iter:LF}(V:ie w env vm vm0)(z5:∀x,Nq iter env x=pure x)(hi:IS g env vm ci iter)
(hF:e9 (aG t L++vm0))(ht:∀C,lW (LO (coE env w C) (ocl w C)) (aG t L++vm0) t L)(zj:(∃es k p,L=.Tuple es k p)∨∀ce,ci≠.bu ce/\ci≠.ai ce)
(zq:∀C cl,ES g (OB w cl C env) (aG t L++vm0) B (Mb z4 (OB w cl C env)))(S:ig g w env (aG t L++vm0) z3 zz)
{st:St}(hA:OKA g A)(R:Rep g M env vm s st)(hw:wpE g.Φ g.M (.co B t ci z3) st Q X)
(hP:∀D C s' l m,Rep g M env vm s' l->Q (.ref D) l->s'.heap.Ns C m->(∀o,¬ M C o)->¬ Own s'.heap l.H C->R9 (Lg g.prog g.w) A E use P (.ref D) C (.ok .next) s')
(hE:EOk g A M env vm X E) :
  rl (Lg g.prog g.w) A (XS (.ListComp z4 [⟨L,iter,zz,0⟩] w zk) w env p (Wq []) false (Mb iter env) use) P E s:=by
 have hh:=hA.handled zv
 refine wpAny_comprehension_free (use:=use) rfl z5 (uK λy hy=>?_) V.kind V.names (hi A M s st _ X _ E hA R hw (λI wr it z U hI zw zy J hq=>?_) hE)
 ·refine oEA (V.free y hy) λi h1 h3=>?_
  refine eC (R.L.gy h1 h3) λa v ha ζ=>?_
  exact⟨a,ha⟩
 refine oE hq λn O=>?_
 refine Og (FY λY d=>?_)
 dsimp only at d ⊢
 generalize z6:z.heap.push { cls:=.type "list",dict:=none,data:=.seq ([]:cp rr).toArray }=f at d ⊢
 have hC:f.objs.size=z.heap.objs.size+1:=by(erw[Ng z6];exact LH (M0 _ _) rfl)
 have ok:=X7 w.names (f.push { cls:=.type "dict",data:=.dict #[] }) (f.objs.size+1) [] ⟨λζ ζ W=>(nomatch W),Ti⟩ (by erw[M0 _ _];exact Lf _)
 rw[M0,← d] at ok
 have k0:∀b o,f.get? b=aM o->Y.get? b=aM o:=λb o e=>d▸Qw _ _ b o (Lh _ e)
 have Z:Y.Ns f.objs.size (λζ=>none):=d▸(Heap.Ns.new f (.type "dict")).keeps (Qw _ _)
 have z7:z.heap.objs.size≠f.objs.size:=by erw[hC];exact Lu (Lz _)
 have nD:=bH z.heap
 have nN:∀b,z.heap.objs.size<=b->∀o,z.heap.get? b≠aM o:=λb c o e=>p7 (LX e) (Os.mpr c)
 have r:∀b o,z.heap.get? b=aM o->Y.get? b=aM o:=λb o e=>k0 b o (z6▸Lh _ e)
 have zo:Y.get? z.heap.objs.size=aM { cls:=.type "list",dict:=none,data:=.seq (#[]:Mv rr) 0,slots:=#[] }:=
  k0 _ _ (z6▸Lv _ rfl)
 have z8:TK z.heap Y:=TK.aS r
 have R3:av g.w g.AN g.os g.h₀ M { z with heap:=Y } U.H:=J.H.ext r rfl rfl
 have hN:∀b,z.heap.objs.size<=b->(∀o,¬ M b o)/\¬ Own Y U.H b:=λb c=>⟨λo p=>let ⟨o',e,_⟩:=J.H.b7 _ o p;nN b c o' e,J.H.iO (s':={ z with heap:=Y }) r (nN b c)⟩
 have zu:=hN f.objs.size (hC▸MA _)
 have z0:=hN z.heap.objs.size (Lf _)
 have F:∀x a,(ocl w f.objs.size).lookup x=aM a->z.heap.objs.size<a:=λx a h=>rf (hC▸Lz _) (Su (ok.empty x a (OE h)).2)
 have hO:OcR M (coE env w f.objs.size) (ocl w f.objs.size) { z with heap:=Y } U.H:=by
  refine⟨λx a h=>⟨by show(clE env w f.objs.size).lookup x=aM a;rw[RU,h];rfl,⟨_,(ok.empty x a (OE h)).1⟩,hN a (y1 (F x a h))⟩,λx a y h hy=>?_⟩
  rcases wv (show(clE env w f.objs.size).lookup y=aM a from hy) with h' | h'
  ·exact XZ ok.apart (OE h') (OE h)
  ·rcases pM h' with q | q
   ·refine oEA (V.free y q) λi h1 h3=>?_
    refine qR (J.L.gy h1 h3) λb v c o hl ζ=>?_
    have:=gz (env:=env) (names:=w.names) (acc:=[]) (.inl q)
    rw[h',c] at this
    cases this
    exact p7 hl (nN _ (y1 (F x _ h)) _)
   ·cases q
 have F3:=uM V J (s':={ z with heap:=Y }) (st':=U) R3 rfl z8 Z zu
 have z9:∀b∈wr,b<z.heap.objs.size:=λb c=>by refine oE (hI.live b c) λo ho=>?_;exact LX ho
 have z1:ItR Y I wr it:=hI.ay (λb c o e=>r b o e) z8
 have N:fU g M (coE env w f.objs.size) (ocl w f.objs.size) vm0 I wr z.heap.objs.size z.heap ci { z with heap:=Y } U it []:=
  ⟨F3,hO,z1,zw,λb c=>⟨(zy b c).1,fa (s':={ z with heap:=Y }) J.H (λj o ζ e=>r j o e) (zy b c).2.1,z1.kS b c⟩,
   ⟨λW=>p7 (z9 _ W) (by show ¬ f.objs.size<_;erw[hC];exact Os.mpr (MA _)),λW=>p7 (z9 _ W) (MR _),z7⟩,λx a h=>⟨λW=>WM (z9 _ W) (F x a h),MW (F x a h)⟩,⟨#[],0,zo,.nil⟩,z0,z8⟩
 have zp:∀{zf},¬ aU (coE env w f.objs.size) zf z.heap.objs.size:=λhf=>by
  rcases nr V J hf with h | ⟨x,h⟩ | ⟨o,p⟩
  ·exact z7 h
  ·exact MR _ (F x _ h)
  ·exact z0.1 o p
 have zg:∀(s':ow) (l:St) (acc:cp CV),aB g false M (coE env w f.objs.size) vm0 s' l->HX s'.heap z.heap.objs.size acc->
   ¬ Own s'.heap l.H z.heap.objs.size->TK z.heap s'.heap->EK Q U.L acc l->
   R9 (Lg g.prog g.w) A E use P (.ref z.heap.objs.size) f.objs.size (.ok .next) s':=by
  intro s' l acc F' hd zl zx ⟨hz,O⟩
  refine oEA F'.L.ns λm W ζ=>?_
  refine eC hd λvs n' T hr=>?_
  have R5:=F'.H.aD (s':=s') (a:=z.heap.objs.size) (λζ ζ=>rfl) ⟨n',T⟩ hr hz z0.1 (λo e=>by rw[T] at e;cases e;rfl) rfl rfl
  refine hP _ _ _ ⟨l.H.aD z.heap.objs.size acc,U.L⟩ _ (J.of R5 zx) (O _ (fU.FW F'.H z0.1 zl)) W zu.1 ?_
  have z2:=(F'.np _ (.inl rfl)).2
  rintro(h | h | h | h)
  ·have h:upd l.H.lst z.heap.objs.size acc f.objs.size≠none:=h
   rw[gu _ _ (Ma z7)] at h
   exact z2 (.inl h)
  ·exact z2 (.inr (.inl h))
  ·exact z2 (.inr (.inr (.inl h)))
  ·exact z2 (.inr (.inr (.inr h)))
 have X:CoH g env vm B ci t z4 L w vm0 A M z U f.objs.size z.heap.objs.size (EK Q U.L) (R9 (Lg g.prog g.w) A E use P (.ref z.heap.objs.size) f.objs.size (.ok .next)):=
  ⟨V,J,hA,hh,hF,ht _,zj,zq _ _,zp,zg⟩
 cases S with
 | nil=>exact UW (y7 X N O) (wu z1 (y7 X N O))
 | one S=>exact UW (y8 (S _ _) X N O) (wu z1 (y8 (S _ _) X N O))
def ES.co(f:g.hd=true){w iter:LF}(V:ie z env vm vm0)(U:∀x,Nq iter env x=pure x)(d:IS g env vm O iter)
(i:e9 (aG t w++vm0))(e:∀C,lW (LO (coE env z C) (ocl z C)) (aG t w++vm0) t w)(L:(∃r k p,w=.Tuple r k p)∨∀n,O≠.bu n/\O≠.ai n)
(o:∀C N,ES g (OB z N C env) (aG t w++vm0) y (Mb j (OB z N C env)))(T:ig g z env (aG t w++vm0) Y J) :
  ES g env vm (.co y t O Y) (Mb (.ListComp j [⟨w,iter,J,0⟩] z l) env):=by
 intro A Pr s st Q X P E F R S W Z
 rw[eval_ListComp]
 refine y9 (use:=none) f V U d i e L o T F R S (λD C s' st' m a K I c B=>⟨m,I,λM H=>?_⟩) Z
 have G:KpW [C] s'.heap M:=gW H.extBut
 obtain⟨u,q⟩:=a.H.ia (s':={ s' with heap:=M }) G (λb h=>by
  rw[n2] at h;subst h
  exact⟨c,B,gw I⟩) rfl rfl
 exact W _ _ _ _ (.ref D) (a.of u q) K
end
def xI{l:cp CV}(Y:∀y∈l,∃b,y=.bool b):(Lk l.length).all (λi=>decide (l[i]?=aM (.bool true)))=l.all λy=>decide (y=.bool true):=by
 rw[VT,M5,M5]
 constructor
 ·intro h y w
  refine oE (Mm.mp w) λi Q=>?_
  have z:i<l.length:=by
   rcases Oj i l.length with h | h
   ·exact h
   ·rw[Md h] at Q;cases Q
  have:=h i (LI.mpr z)
  rw[Q] at this
  simpa using this
 ·intro h i Q
  have z:=LI.mp Q
  rw[o2 z]
  have:=h l[i] (MS z)
  simpa using this
section
variable{g:G}{env:OR}{z:cp (Lj×ki)}
set_option tactic.hygienic true in
theorem ES.all(O:g.Ok)(x:g.hd=true){d:CE}{q:QC}{e:LF}(hk:env.kindOf "all"=aM .globalImplicit)(C:P9 g.K LU "all"=aM none)(hs:[e].all aW=true)
(h:ESs g env z [d] (MV (M1 pos (Ml [e] env)))):ES g env z (.b1 .all d) (Mb (.Call (.Name "all" q) [e] [] pos) env):=by
 intro A Pr s st Q X P E m R hw hP hE
 have r:=m.handled x
 refine SF (bT (v:=.builtin "all") O R hk (by decide) (by decide) C rfl ?_)
 refine dA hs (h.mW m R hw (λv c s' z0 C F L L hq=>?_) hE)
 refine aA hq λl B S U=>?_
 have nd:=bH s'.heap
 have W:∀(vs:Mv rr),RVs s'.heap vs.toList l->TruthOf g.prog g.w A.in1 (λi v=>vs[i]?=aM v) (λi=>decide (l[i]?=aM (.bool true))):=by
  intro vs t i v w Q2 E2 V Y
  have j:i<l.length:=by
   rcases Oj i vs.size with h | h
   ·erw[Ng t.size];exact h
   ·rw[OM h] at V;cases V
  refine oEA (t.arr (o2 j)) λy Z K=>?_
  rw[V] at Z;cases Z
  refine oE (S l[i] (MS j)) λb p=>?_
  rw[p] at K
  cases K
  have Y:Q2 (decide (l[i]?=aM (.bool true))) w:=Y
  rw[o2 j,p] at Y
  refine PR ?_
  cases b <;> simpa using Y
 have f:∀(vs:Mv rr) (I:LZ) (w:ow),RVs s'.heap vs.toList l->I=s'.heap.objs.size->w.os=s'.os->w.gens=s'.gens->w.drawn=s'.drawn->(∀b o,s'.heap.get? b=aM o->w.heap.get? b=aM o)->∀T n,(∀b o,b∉[I]->w.heap.get? b=aM o->T.get? b=aM o)->
   P (.bool ((Lk vs.size).all λi=>decide (l[i]?=aM (.bool true)))) { w with heap:=T,toks:=n }:=by
  intro vs I w t hI e1 e2 e3 k T n kk
  (erw[t.size];erw[xI S])
  exact hP _ _ _ _ (.bool _) (F.ext (s':={ w with heap:=T,toks:=n }) (λb o e=>kk b o (λH=>by rw[n2] at H;subst H;subst hI;exact nd o e) (k b o e)) e1 e2) U
 refine call_all_walk ?_
 cases C <;> try (cases B;done)
 ·rename_i a vs l0 J N G
  cases B
  refine SH J ?_
  have D:a≠s'.heap.objs.size:=by refine oEA J λo M L=>?_;exact Lu (LX M)
  have u:=aR s'.heap { cls:=.type "tuple_iterator",data:=.fields #[.ref a,.int 0 0] }
  exact⟨_,_,_,_,_,_,_,rfl,Walks.tuple (A:=A.in1) r _ a D vs,⟨⟨_,Lv _ rfl,rfl,rfl⟩,TK.aS u _ _ J⟩,W vs G,f vs _ _ G rfl rfl rfl rfl u⟩
 ·rename_i a
  refine aA (F.H.cr B) λvs J N L=>?_
  refine SX J ?_
  have D:a≠s'.heap.objs.size:=by refine oEA J λo M L=>?_;exact Lu (LX M)
  exact⟨_,_,_,_,_,_,_,rfl,Walks.list (A:=A.in1) r _ a D vs,⟨⟨_,Lv _ rfl,rfl,rfl⟩,J.push _⟩,W vs N,f vs _ _ N rfl rfl rfl rfl (aR _ _)⟩
end
inductive FlR(h:M7):Yc->Fl->Prop
 | next:FlR h .next .next
 | brk:FlR h .brk .brk
 | cont:FlR h .cont .cont
 | ret {v:rr} {c:CV}:RV h v c->FlR h (.ret v) (.ret c)
section
variable{g:G}{env:OR}{vm:cp (Lj×ki)}
noncomputable abbrev NE:=Fl->St->Prop
variable(g) in
def SS(env:OR)(vm:cp (Lj×ki))(cs:CS)(t:Sem Yc):Prop:=
 ∀(A:MQ) (w:Op) (s:ow) (st:St) (Q:NE) (X:No) (P:Yc->ow->Prop) (E:rr->ow->Prop),OKA g A->aB g true w env vm s st->wpS g.Φ g.M cs st Q X->
  (∀f y s' z,FlR s'.heap f y->aB g true w env vm s' z->Q y z->P f s')->
  (∀q z,X q z->A.handled=none/\∀e s',hX s'.heap z.H w e q->aB g true w env vm s' z->E e s')->rl (Lg g.prog g.w) A t P E s
variable(g) in
def SSs(env:OR)(vm:cp (Lj×ki))(y:cp CS)(t:Sem Yc):Prop:=
 ∀(A:MQ) (w:Op) (s:ow) (st:St) (Q:NE) (X:No) (P:Yc->ow->Prop) (E:rr->ow->Prop),OKA g A->aB g true w env vm s st->ae g.Φ g.M y st Q X->
  (∀f Y s' z,FlR s'.heap f Y->aB g true w env vm s' z->Q Y z->P f s')->
  (∀q z,X q z->A.handled=none/\∀e s',hX s'.heap z.H w e q->aB g true w env vm s' z->E e s')->rl (Lg g.prog g.w) A t P E s
def ES.inS(h:ES g env vm U t){st:St}{P:rr->ow->Prop}{E:rr->ow->Prop}(k:OKA g A)(R:aB g true w env vm s st)(j:wpE g.Φ g.M U st Q X)
(J:∀v c s' z,RV s'.heap v c->aB g true w env vm s' z->TK s.heap s'.heap->Q c z->P v s')
(V:∀q z,X q z->A.handled=none/\∀e s',hX s'.heap z.H w e q->aB g true w env vm s' z->E e s'):rl (Lg g.prog g.w) A t P E s:=
 h A (frz s st.H) s st Q X P E k R.bj j (λv c s' z o y Y=>J v c s' z o (R.d8 y) (R.H.tk y.H.keeps) Y)
  λq z Y=>⟨(V q z Y).1,λe s' O y=>(V q z Y).2 e s' (O.d8 R.H) (R.d8 y)⟩
def TS.inS(h:TS g env vm U t){st:St}{P:LG->ow->Prop}{E:rr->ow->Prop}(V:OKA g A)(R:aB g true w env vm s st)(k:wpE g.Φ g.M U st Q X)
(j:∀c s' z,aB g true w env vm s' z->Q c z->∃b,aL z.H c=aM b/\P b s')
(v:∀q z,X q z->A.handled=none/\∀e s',hX s'.heap z.H w e q->aB g true w env vm s' z->E e s'):rl (Lg g.prog g.w) A t P E s:=
 h A (frz s st.H) s st Q X P E V R.bj k (λc s' z Y y=>j c s' z (R.d8 Y) y)
  λq z y=>⟨(v q z y).1,λe s' J Y=>(v q z y).2 e s' (J.d8 R.H) (R.d8 Y)⟩
def SSs.nil:SSs g env vm [] (Q3 [] env):=λA Pr s st Q X P E y R z w Y=>TH (w _ _ _ _ .next R z)
theorem SSs.cons{c:CS}{U:cp CS}{b:Of}{bs:cp Of}(h:SS g env vm c (OP b env))(j:SSs g env vm U (Q3 bs env)):SSs g env vm (c::U) (Q3 (b::bs) env):=by
 intro A v s st Q X P E V R J z k
 refine wpAny_execs_cons (h A v s st _ X _ E V R (show wpS _ _ c st _ X from J) (λf O s' Y hf w y=>?_) k)
 cases hf with
 | next=>exact j A v s' Y Q X P E V w y z k
 | brk=>exact z _ _ _ _ .brk w y
 | cont=>exact z _ _ _ _ .cont w y
 | ret o=>exact z _ _ _ _ (.ret o) w y
def SS.mK:SS g env vm .mK (OP (.Pass z) env):=λA Y s st Q X P E U R w y v=>wpAny_Pass (y _ _ _ _ .next R w)
def SS.brk:SS g env vm .brk (OP (.Break z) env):=λA Y s st Q X P E U R w y v=>wpAny_Break (y _ _ _ _ .brk R w)
def SS.cont:SS g env vm .cont (OP (.Continue z) env):=λA Y s st Q X P E U R w y v=>wpAny_Continue (y _ _ _ _ .cont R w)
def SS.ret(h:ES g env vm w (Mb e env)):SS g env vm (.ret w) (OP (.Return (aM e) z) env):=by
 intro A O s st Q X P E y R Y U V
 exact wpAny_Return_some (h.inS y R Y (λv c s' k j J p o=>U _ _ _ _ (.ret j) J o) V)
def SS.ex{z:QC}(h:ES g env vm w (Mb e env))(y:Ym env=false)(Y:Pf e none z.line env=pure false):SS g env vm (.ex w) (OP (.Expr e z) env):=by
 intro A p s st Q X P E U R V k j
 exact wpAny_Expr_any (h.inS U R V (λv c f J l o L O=>k _ _ _ _ .next o O) j) y Y
def SS.bad:SS g env vm .bad t:=λA w s st Q X P E y R z Y U=>z.elim
theorem SS.ite(l:TS g env vm J (Ou w env (Mb w env)))(L:SSs g env vm a (Q3 y env))(t:SSs g env vm b (Q3 z env)) :
  SS g env vm (.ite J a b) (OP (.If w y z v) env):=by
 intro A o s st Q X P E V R T O k
 refine wpAny_If (l.inS V R T (λc p Y f x=>?_) k)
 refine oEA x λq j U=>?_
 refine⟨q,j,?_⟩
 cases q with
 | true=>exact L A o p Y Q X P E V f U O k
 | false=>exact t A o p Y Q X P E V f U O k
def SS.HZ{w:QC}(V:e9 vm)(h:ES g env vm Y (Mb e env))(k:(x,i)∈vm)(j:env.kindOf x=aM .local∨env.kindOf x=aM .cell)(J:Pf e (aM (.Name x z)) w.line env=pure false) :
  SS g env vm (.asg (.n i) Y) (OP (.Assign [.Name x z] e w) env):=by
 intro A b s st Q X P E o R O p f
 refine wpAny_Assign_Name (h.inS o R O (λv c B l L t U T=>?_) f) J
 exact t.lJ V k rfl j L λC y U U=>p _ _ _ _ .next y T
def SS.Kc(K:g.hd=true){O iter:LF}{a:QC}(H:e9 vm)(G:(x,i)∈vm)(hk:env.kindOf x=aM .local)
(hs:Pf (.ListComp O [⟨w,iter,f,0⟩] z J) (aM (.Name x y)) a.line env=pure true)
(V:ie z env vm vm0)(c:∀x,Nq iter env x=pure x)(hi:IS g env vm N iter)
(hF:e9 (aG t w++vm0))(ht:∀C,lW (LO (coE env z C) (ocl z C)) (aG t w++vm0) t w)(u:(∃es k p,w=.Tuple es k p)∨∀ce,N≠.bu ce/\N≠.ai ce)
(I:∀C cl,ES g (OB z cl C env) (aG t w++vm0) Y (Mb O (OB z cl C env)))(z0:ig g z env (aG t w++vm0) U f) :
  SS g env vm (.asg (.n i) (.co Y t N U)) (OP (.Assign [.Name x y] (.ListComp O [⟨w,iter,f,0⟩] z J) a) env):=by
 intro A Pr s st Q X P E hA R hw hP hE
 have hw:wpE g.Φ g.M (.co Y t N U) st (λv st=>qV g.Φ g.M (.n i) v st (Q .next) X) X:=hw
 erw[exec_Assign_Name_used _ _ _ _ hs]
 refine ec (O1 (ec ?_))
 show rl _ A (do let _ ← XS (.ListComp O [⟨w,iter,f,0⟩] z J) z env _ (Wq []) false (Mb iter env) (aM (RC (.Name x y) env))) _ _ s
 refine ec (OD (y9 (P:=λW s'=>P .next s') (use:=aM (RC (.Name x y) env)) K V c hi hF ht u I z0 hA R.bj hw (λD C s' l m Z n hm M z1=>?_)
  λq l n=>⟨(hE q l n).1,λe s' G Z=>(hE q l n).2 e s' (G.d8 R.H) (R.d8 Z)⟩) (λW s' n=>pe (pe n)) λW W e=>e)
 have h:¬ aU env vm C:=λhf=>by
  refine oE (Z.fr C hf) λo p=>?_
  exact M o p
 have RF:=R.d8 Z
 show rl _ A (RC (.Name x y) env (.ref D)) _ _ _
 refine SZ (RF.lJ H G rfl (.inl hk) (.ref D) λL z2 t kk=>?_)
 have T:L.heap.Ns C m:=by
  refine vT hm λo es ep ho r=>?_
  exact⟨o,es,ep,kk C o h ho,r⟩
 refine⟨m,T,λh' z3=>?_⟩
 have z4:KpW [C] L.heap h':=gW z3.extBut
 have B:¬ Own L.heap l.H C:=fa RF.H (λj o hj e=>kk j o (λhf=>(RF.np j hf).2 hj) e) z1
 obtain⟨R4,_⟩:=z2.ia (s':={ L with heap:=h' }) z4 (λb d=>by
  rw[n2] at d;subst d
  exact⟨λo p=>by refine oEA (R.H.dP b o p) λF S W=>?_;exact M F S,B,gw T⟩) (λb d=>by
  rw[n2] at d;subst d;exact h) rfl rfl
 exact hP _ _ _ _ .next R4 n
def SS.Kd(V:g.hd=true){Y:QC}(l:e9 vm)(h:ES g env vm O (Mb e env))(t:lW (LC env) vm (.t k) z)(T:Ur [z] e Y.line env=pure false)(j:Qf [z] e env=pure none)
(x:(PC [z] env).map (·.2)=[RC z env]):SS g env vm (.asg (.t k) O) (OP (.Assign [z] e Y) env):=by
 intro A m s st Q X P E f R C b B
 refine wpAny_Assign_stores (h.inS f R C (λv c i J n N y a=>?_) B) T j
 erw[x]
 refine aX a λD L U I w=>?_;subst U
 exact ri (EJ l) (λy p=>p) (f.handled V) (λy p=>p) N t n (show de J.L (.t k) (.tup D)=aM L from I) λM y y o y y=>b _ _ _ _ .next (o.mono λp d=>Ll _ d) w
end
theorem zA(x:Lj)(z:Nj)(k v:rr)(Q:cp MH):(S2 x z k v Q).length<=Q.length+1:=by
 induction Q with
 | nil=>exact Lf _
 | cons e r w=>
  simp only[S2]
  split
  ·simp
  ·exact Lw w
section
variable{g:G}{env:OR}{vm:cp (Lj×ki)}
def aB.s6{st:St}(R:aB g z Q env vm s st)(k:ki):aB g z Q env vm { s with toks:=k } st:=⟨R.H.toks k,R.L.ext λw w e=>e,R.np,R.inj,R.ofr⟩
def Rep.setAttr(O:g.Ok){st:St}(R:Rep g U env vm s st){a n:ki}(k:st.H.cls a=aM c)(j:bn c=true)(J:g.AN[n]?=aM x)(l:n<g.nA)(T:RV s.heap v V)
{P:Rt->ow->Prop}(C:∀s',Rep g U env vm s' { st with H:=st.H.bw n a V }->TK s.heap s'.heap->P () s'):rl (Lg g.prog g.w) A (setAttr (.ref a) x v) P E s:=by
 refine fQ (R.H.yF k j) λw D b m o w w y p=>?_
 have Q:=O.T.cls c j
 refine oA (Q.att n x J l) λB w=>?_
 have z:b.length<=900:=cy p.few O.T.few
 refine Fy (R.H.inK O.X) o y p.dK Q.sa Q.po B Q.hd (cy (zA ..) (cy (Lw z) (by decide))) λY f N=>?_
 have t:TK s.heap Y:=.upd y yA f
 exact C { s with heap:=Y,toks:=s.toks+2 } (R.of (R.H.bw O.T.nd k o y (s':={ s with heap:=Y,toks:=s.toks+2 }) f J N T rfl rfl) t) t
def SS.Ke(O:g.Ok){n:ki}{U:QC}(h:ES g env vm p (Mb e env))(B:ES g env vm f (Mb o env))(N:g.AN[n]?=aM x)(D:n<g.nA)(I:Pf e (aM (.Attribute o x z)) U.line env=pure false) :
  SS g env vm (.asg (.at f n) p) (OP (.Assign [.Attribute o x z] e U) env):=by
 intro A K s st Q X P E l R M m L
 refine plainObj_wpAny_Assign_Attribute (h.inS l R M (λv c T k i V r j=>?_) L) I
 refine B.inS l V j (λu d b J F w t j=>?_) L
 refine bG j λa C y S W Y=>?_;subst y
 obtain rfl:u=.ref a:=F.c
 exact w.bj.setAttr O S W N D (i.mono t) λH Z r=>m _ _ _ _ .next (w.d8 Z) Y
def SS.Kf(O:g.Ok){j:QC}(h:ES g env vm S (Mb e env))(ho:ES g env vm W (Mb o env))(hk:ES g env vm Z (Mb k env))(hs:Pf e (aM (.Subscript o k w)) j.line env=pure false) :
  SS g env vm (.asg (.ix W Z) S) (OP (.Assign [.Subscript o k w] e j) env):=by
 intro A Pr s st Q X P E x R hw hP C
 have B:=x.units
 refine UP (h.inS x R hw (λv c K n hv J ζ f=>?_) C) hs
 refine ho.inS x J f (λu d H N hu l t f=>hk.inS x l f (λy b Y D hy z t' f=>?_) C) C
 refine qS f λa I U M L hz V=>?_;subst U
 obtain rfl:u=.ref a:=hu.c
 refine eX (z.H.dct a I M) λnp m ζ es G hr=>?_
 refine uA (eF (LY (LA _ _) (by decide)) B) hy (hv.mono (t.trans t')) L G hr m hz λk' q fs hb i r T F=>?_
 have tk:TK Y.heap q:=.upd G yA hb
 have R4:=z.bj
 have R5:=R4.H.bo (s':={ Y with heap:=q,toks:=k' }) hb i (r.mono tk) T F (λo p=>p.2 (.inr (.inl (M▸Lm _)))) (.inr (M▸Lm _)) rfl rfl
 exact hP _ _ _ _ .next (z.d8 (R4.of R5 tk)) V
theorem RVs.set{v:rr}{c:CV}(w:RV h v c)(n:ki)(x:RVs h z Q):RVs h (z.set n v) (Q.set n c):=
 x.ind (P:=λz Q=>∀n,RVs h (z.set n v) (Q.set n c)) (λY=>.nil) (λa b y n=>by
  cases n with
  | zero=>exact .cons w b
  | succ n=>exact .cons a (y n)) n
def rm{s:ow}{k:Nj}{Q:Rt->ow->Prop}(V:s.heap.get? l=aM { cls:=.type "list",dict:=none,data:=.seq Y m,slots:=#[] })
(O:0<=k)(z:k<2 ^ 63)(f:k<Y.size)(p:Q () { s with heap:=s.heap.update l (M6 (·.setIfInBounds k.toNat v)) }):rl (Lg U w) A (Wo (.ref l) (.int k t) v) Q E s:=by
 have J:s.heap.IsList l Y:=⟨_,V,rfl,m,rfl⟩
 unfold Wo
 try with_reducible refine Mc ?_
 first | refine ec (pe ?_) | skip
 refine ec (QY J.typeIs (by decide) ?_)
 refine ec (Nh (name:=Li "__setitem__") J.typeIs Wl
  (ML Wl J.typeIs entry_list_setitem ?_ (args_list_setitem _ _ _)))
 show rl _ _ (Xm (.int k t) >>= _) _ _ s
 refine ec (wpAny_listSubscript_int (fitsIndex_of O z) ?_)
 clear z
 refine oE (QX O) λj y=>?_;subst y
 have L:j<Y.size:=MP.mp f
 have o:Y[j]?=aM Y[j]:=NF L
 show rl _ _ ((seqItemAt l j >>= λr=>pure (r.map (j,·))) >>= _) _ _ s
 refine ec (ec (wpAny_seqItemAt V rfl (pe ?_)))
 erw[o]
 show rl _ _ (setSeqItemAt l j v >>= _) _ _ s
 refine ec (wpAny_setSeqItemAt V rfl ?_)
 first
  | exact ec (pe (pe ⟨.none,rfl,pe p⟩))
  | exact pe ⟨.none,rfl,pe p⟩
def SS.zB(O:g.Ok){J:QC}(h:ES g env vm M (Mb e env))(G:ES g env vm i (Mb o env))(q:ES g env vm r (Mb k env))(hs:Pf e (aM (.Subscript o k w)) J.line env=pure false) :
  SS g env vm (.asg (.li i r) M) (OP (.Assign [.Subscript o k w] e J) env):=by
 intro A Pr s st Q X P E C R hw hP B
 refine UP (h.inS C R hw (λv c F N hv p ζ f=>?_) B) hs
 refine G.inS C p f (λu d S D hu L t f=>q.inS C L f (λy b T I hy z t' f=>?_) B) B
 refine sr f λa l n Y W U hn V=>?_;subst Y;subst U
 obtain rfl:u=.ref a:=hu.c
 refine oE hy.c λt0 j=>?_;subst j
 refine bG (jJ z.H W) λvs m Z h2 K H=>?_
 have x:(n:Nj)<vs.size:=MP.mpr (H▸hn)
 refine rm Z (Ms n) (Pq x (MG (NW.mpr (H▸K)) (by decide))) x ?_
 erw[Oz _]
 refine hP _ _ _ _ .next (z.d8 (z.bj.CJ (k:=T.toks) (f:=(·.setIfInBounds n v)) W Z ?_ (by erw[length_set];exact K))) V
 erw[Array.toList_setIfInBounds]
 exact RVs.set (hv.mono (t.trans t')) n h2
def SS.fS(I:e9 vm)(h:ES g env vm D (Mb e env))(L:(x,i)∈vm)(w:env.kindOf x=aM .local∨env.kindOf x=aM .cell) :
  SS g env vm (.fS i C D) (OP (.AugAssign (.Name x V) (rg C) e B) env):=by
 intro A Pr s st Q X P E Z R K M H
 refine oEA K λc F Y=>?_
 have k:∀{v},RV s.heap v c->rl (Lg g.prog g.w) A (Mb e env) (λu j=>rl (Lg g.prog g.w) A (inplaceOp (rg C) v u) (λr J=>rl (Lg g.prog g.w) A (Rm env x r) (λT=>P .next) E J) E j) E s:=λ{v} G=>by
  refine h.inS Z R Y (λu d S z0 hu W t hq=>?_) H
  refine bG hq λa b o O n z=>?_;subst o;subst O
  refine oE G.c λtv p=>?_;subst p
  refine oE hu.c λtu f=>?_;subst f
  rcases n with rfl | rfl
  ·refine TL ?_
   refine(W.s6 (S.toks+1)).lJ I L rfl w (.int (a+b) _) λN U T T=>M _ _ _ _ .next U z
  ·refine TJ ?_
   refine(W.s6 (S.toks+1)).lJ I L rfl w (.int (a - b) _) λN U T T=>M _ _ _ _ .next U z
 refine wpAny_AugAssign_Name ?_
 rcases w with w | w
 ·refine oEA R.L.ns λm hm q=>?_
  exact(F▸q x i L w:AtV s.heap (aM _) (m x)).elim λv y=>Vx R.L.kind w hm y.1 (k y.2)
 ·refine aX (R.L.cell x i L (.inl w)) λa r ha hr q=>?_
  refine oEA (F▸q:AtV s.heap (aM _) r) λv l h2=>?_;subst l
  exact VV R.L.kind w ha hr (k h2)
def SS.gn(O:g.Ok){n:ki}(ho:ES g env vm co (Mb o env))(h:ES g env vm (.c (.int j)) (Mb e env))(hx:g.AN[n]?=aM x)(hn:n<g.nA) :
  SS g env vm (.gn co n p (.c (.int j))) (OP (.AugAssign (.Attribute o x f) (rg p) e W) env):=by
 intro A Pr s st Q X P E hA R hw hP hE
 refine wpAny_AugAssign_AttributeAny (ho.inS hA R hw (λu c z1 Y hu v Z hq=>?_) hE)
 refine mc hq λr C l L T hr z=>?_;subst L
 refine v8 O v.H hx hn hu hr λw k K=>?_
 have B:=v.s6 k
 have G:wpE g.Φ g.M (.c (.int j)) Y (λy st=>st=Y/\∃a b,r=.int a/\y=.int b/\(p=.add∨p=.sub)/\Q .next { st with H:=st.H.bw n l (.int (p.i a b)) }) X:=⟨rfl,z⟩
 refine h.inS hA B G (λy d V q hy J t z=>?_) hE
 refine Cl z λN a b D I z0 U=>?_;subst N;subst D;subst I
 obtain rfl:u=.ref l:=hu.c
 refine oE K.c λtw M=>?_;subst M
 refine oE hy.c λty m=>?_;subst m
 have hi:bn C=true:=yJ hr (Z:=λc=>c=.ref l->bn C=true) (λa C' hc hi Z e=>ey (hc.symm.trans ((dd (CH.cls _) (CV.ref.inj e)).trans T))▸hi) rfl
 have F:∀(i:Nj) (S:ki),i=p.i a b->rl (Lg g.prog g.w) A (setAttr (.ref l) x (.int i V.toks)) (λZ=>P .next) E { V with toks:=S }:=λi S e=>by
  subst e
  exact(J.s6 S).bj.setAttr O T hi hx hn (.int _ _) λs' R' Z=>hP _ _ _ _ .next ((J.s6 S).d8 R') U
 rcases z0 with rfl | rfl
 ·exact TL (F (a+b) _ rfl)
 ·exact TJ (F (a - b) _ rfl)
def whT(g:G)(z:CE)(s:St)(K:LG->St->Prop):Prop:=wpE g.Φ g.M z s (λv s=>∃q,aL s.H v=aM q/\K q s) (λQ Q=>False)
def whB(g:G)(b:cp CS)(Q:NE)(s:St)(K:LG->St->Prop):Prop:=ae g.Φ g.M b s (λf s=>match f with | .next | .cont=>K true s | .brk=>K false s | .ret v=>Q (.ret v) s) (λz z=>False)
inductive WhI(g:G)(Pr:Op)(env:OR)(vm:cp (Lj×ki))(ct:CE)(b:cp CS)(Q:NE)(k:ki)(s:ow):Prop
 | mk (st:St) (R:aB g true Pr env vm s st) (hl:vW (whT g ct) (whB g b Q) (Q .next) (Q .next) k st):WhI g Pr env vm ct b Q k s
theorem SS.whl(a:TS g env vm J (Ou w env (Mb w env)))(D:SSs g env vm b (Q3 Y env)):SS g env vm (.whl J b) (OP (.While w Y [] l) env):=by
 intro A x s st Q X P E C R I L e
 refine oE I λn v=>?_
 refine wpAny_While (codeAny_whileLoop (WhI g x env vm J b Q) (λk r ⟨t,M,B⟩=>?_) n (.mk st R v))
 cases k with
 | zero=>exact B.elim
 | succ k=>
  refine a.inS C M (show whT g J t (λq st=>if q=true then whB g b Q st (λd st=>if d=true then vW (whT g J) (whB g b Q) (Q .next) (Q .next) k st else Q .next st) else Q .next st) from B) (λc o V U j=>?_) (λO O h=>h.elim)
  refine oEA j λq T p=>?_
  refine⟨q,T,?_⟩
  cases q with
  | false=>exact TH (L _ _ _ _ .next U p)
  | true=>
   refine D A x o V _ (λO O=>False) _ _ C U p (λf F N y m z j=>?_) (λO O h=>h.elim)
   cases m with
   | next=>exact⟨k,Lz k,.mk y z j⟩
   | cont=>exact⟨k,Lz k,.mk y z j⟩
   | brk=>exact L _ _ _ _ .next z j
   | ret i=>exact L _ _ _ _ (.ret i) z j
def rn(env:OR)(vm:cp (Lj×ki))(s:ow)(H:CH)(b:LZ)(o:P0):Prop:=s.heap.get? b=aM o/\¬ Own s.heap H b/\¬ aU env vm b
def aB.s7{st:St}(R:aB g true Q env vm s st):∀b o,Q b o->∃z,rn env vm s st.H b z/\dZ o z:=λb o p=>by
 refine oEA (R.H.b7 b o p) λz e q=>?_
 exact⟨z,⟨e,R.H.eG p,λw=>(R.np b w).1 (.inr rfl) o p⟩,q⟩
def av.rp{os:NG}{H:CH}(R:av w Q os z y s H)(U:∀b o,y b o->¬ aU env vm b):av w Q os z (rn env vm s H) s H where
 os:=R.os
 gens:=R.gens
 b7:=λb o p=>⟨o,p.1,.refl o⟩
 old:=R.old
 base:=λb o e=>⟨R.old b o e,R.eG (R.base b o e),U _ _ (R.base b o e)⟩
 ro:=R.ro
 lst:=λa l e=>⟨λo p=>p.2.1 (.inl (by erw[e];exact Lm _)),(R.lst a l e).2⟩
 dct:=λa l e=>⟨λo p=>p.2.1 (.inr (.inl (by erw[e];exact Lm _))),(R.dct a l e).2⟩
 ins:=λa c e=>by
  refine oA (R.ins a c e) λJ r=>?_
  refine⟨λo p=>p.2.1 (.inr (.inr (.inl (by erw[e];exact Lm _)))),?_⟩
  rcases r with r | ⟨v,V,k,Y,O,j⟩
  ·exact .inl r
  ·exact .inr ⟨v,V,k,Y,λo p=>p.2.1 (.inr (.inr (.inr ⟨a,c,_,e,Y,rfl⟩))),j⟩
 one:=R.one
 att:=R.att
def aB.rp{st:St}(R:aB g true Y env vm s st):aB g true (rn env vm s st.H) env vm s st:=
 ⟨R.H.rp λb o p U=>(R.np b U).1 (.inr rfl) o p,R.L,λb y=>⟨λv o p=>p.2.2 y,(R.np b y).2⟩,R.inj,λb y=>(R.ofr b y).imp id λ⟨o,p,q⟩=>by
  refine oEA (R.s7 b o p) λz Q w=>?_
  exact⟨z,Q,q.same w⟩⟩
def aB.zC{st:St}(R:aB g true y env vm s st)(w:aB g true (rn env vm s st.H) env vm s' z):aB g true y env vm s' z:=
 ⟨w.H.kM R.s7 R.H.base,w.L,λb Q=>⟨(R.np b Q).1,(w.np b Q).2⟩,R.inj,λb Q=>by
  rcases R.ofr b Q with⟨rfl,h⟩ | h
  ·rcases w.ofr _ Q with Y | ⟨o,p,_⟩
   ·exact .inl Y
   ·exact p7 (.inl rfl) p.2.2
  ·exact .inr h⟩
structure nu(g:G)(Pr:Op)(env:OR)(vm:cp (Lj×ki))(I:LZ)(wr:cp LZ)(ci:CI)(s:ow)(st:St)(it:It):Prop where
 F:aB g true Pr env vm s st
 itr:ItR s.heap I wr it
 itf:fT ci it
 apart:jM Pr s st.H wr
 off:∀b∈wr,¬ aU env vm b
section
variable{Q:Op}{z:cp LZ}{U:CI}{st:St}{w:It}{L:ki->rt CV}
def nu.nx(N:nu g Q env vm I z U s st w)(J:w.next st.H=aM (aM (c,Y)))(k:KpW z s.heap v)(j:ItR v I z Y):nu g Q env vm I z U { s with heap:=v,toks:=tk } st Y:=
 ⟨(N.F.ia (s':={ s with heap:=v,toks:=tk }) k N.apart.nt N.off rfl rfl).1,j,nq N.itf J,λb V=>⟨(N.apart b V).1,eu (s':={ s with heap:=v,toks:=tk }) N.F.H k (λb V=>(N.apart b V).2.1) (N.apart b V).2.1,j.kS b V⟩,N.off⟩
def nu.bind(N:nu g Q env vm I z U s st w)(R:aB g true Q env vm s' { st with L:=L })(t:TK s.heap s'.heap)(V:∀b o,¬ aU env vm b->s.heap.get? b=aM o->s'.heap.get? b=aM o):nu g Q env vm I z U s' { st with L:=L } w:=
 have k:ItR s'.heap I z w:=N.itr.ay (λb v o q=>V b o (N.off b v) q) t
 ⟨R,k,N.itf,λb v=>⟨(N.apart b v).1,fa N.F.H (λj o J e=>V j o (λO=>(N.F.np j O).2 J) e) (N.apart b v).2.1,k.kS b v⟩,N.off⟩
def aB.tkF(R:aB g true Q env vm s st)(f:aB g true (rn env vm s st.H) env vm s' y):TK s.heap s'.heap:=λb p ⟨o,j,k,r⟩=>by
 have J:¬ aU env vm b:=λl=>by
  rcases l with rfl | ⟨x,i,t,T,c⟩
  ·refine oEA R.L.ns λm C N=>?_
   exact gw C p ⟨o,j,k,r⟩
  ·refine eC (R.L.gy t T) λa v O V=>?_
   exact gx (ey (O.symm.trans c)▸V) p ⟨o,j,k,r⟩
 refine oEA (f.H.b7 b o ⟨j,λh=>R.H.yz h o j k,J⟩) λA B n=>?_
 exact⟨o,n.eq (k▸λe=>nomatch Pe e)▸B,k,r⟩
def nu.zC(N:nu g Q env vm I z U s st w)(R:aB g true (rn env vm s st.H) env vm s' y):nu g Q env vm I z U s' y w:=by
 have V:∀b∈z,∀o,s.heap.get? b=aM o->s'.heap.get? b=aM o/\rn env vm s st.H b o:=λb v o e=>by
  have p:rn env vm s st.H b o:=⟨e,(N.apart b v).2.1,N.off b v⟩
  refine oEA (R.H.b7 b o p) λf j J=>?_
  exact⟨J.eq (N.itr.sV b v o e)▸j,p⟩
 have k:ItR s'.heap I z w:=N.itr.ay (λb v o e=>(V b v o e).1) (N.F.tkF R)
 exact⟨N.F.zC R,k,N.itf,λb v=>(N.itr.live b v).elim λo O=>⟨(N.apart b v).1,R.H.eG (V b v o O).2,k.kS b v⟩,N.off⟩
end
theorem CT{st:St}(h:gO z Q w k U st):∃j r,k=j+1/\U.next st.H=aM r/\(r=none->Q st)/\
  ∀v Y,r=aM (v,Y)->z v st λb y=>if b=true then gO z Q w j Y y else w y:=by
 cases k with
 | zero=>exact h.elim
 | succ k=>
  have h:=show(U.next st.H).elim False λo=>o.elim (Q st) λp=>z p.1 st λb y=>if b=true then gO z Q w k p.2 y else w y from h
  cases e:U.next st.H with
  | none=>rw[e] at h;exact h.elim
  | some r=>rw[e] at h;exact⟨k,r,rfl,rfl,λV=>by subst V;exact h,λv Y V=>by subst V;exact h⟩
def zD(g:G)(t:LT)(b:cp CS)(Q:NE)(v:CV)(s:St)(K:LG->St->Prop):Prop:=
 ∃L,de s.L t v=aM L/\ae g.Φ g.M b { s with L:=L } (λf s=>match f with | .next | .cont=>K true s | .brk=>K false s | .ret v=>Q (.ret v) s) (λz z=>False)
inductive LoI(g:G)(Pr:Op)(env:OR)(vm:cp (Lj×ki))(I:LZ)(wr:cp LZ)(ci:CI)(body:CV->St->(LG->St->Prop)->Prop)(fin out:St->Prop)(k:ki)(s:ow):Prop
 | mk (st:St) (it:It) (N:nu g Pr env vm I wr ci s st it) (hl:gO body fin out k it st):LoI g Pr env vm I wr ci body fin out k s
def SS.fr(z4:g.hd=true){iter:LF}(hF:e9 vm)(D:∀x,Nq iter env x=pure x)(hi:IS g env vm a iter)(ht:lW (LC env) vm t l)(z6:(∃es k p,l=.Tuple es k p)∨∀ce,a≠.bu ce/\a≠.ai ce)
(F:SSs g env vm b (Q3 U env))(ho:SSs g env vm o (Q3 w env)):SS g env vm (.fr t a b o) (OP (.For l iter U w z5) env):=by
 intro A Pr s st Q X P E hA R hw hP hE
 have hh:=hA.handled z4
 have hw:wpI g.Φ g.M a st (λit st=>∃n,gO (zD g t b Q) (λs=>ae g.Φ g.M o s Q (λy y=>False)) (Q .next) n it st) X:=hw
 refine wpAny_For (hi A (frz s st.H) s st _ X _ E hA R.bj hw (λI wr it V j hI S M C hq=>?_)
  λq T hq=>⟨(hE q T hq).1,λe s' hx R'=>(hE q T hq).2 e s' (hx.d8 R.H) (R.d8 R')⟩) D
 refine oE hq λn z=>?_
 have N:nu g Pr env vm I wr a V j it:=⟨R.d8 C,hI,S,λb F=>⟨λo p=>by
  refine oEA (R.H.dP b o p) λW Z y=>?_
  exact(M b F).1 W Z,(M b F).2⟩,λb F hf=>by
  refine oE (C.fr b hf) λo p=>?_
  exact(M b F).1 o p⟩
 refine codeAny_forLoop_any (LoI g Pr env vm I wr a (zD g t b Q) (λs=>ae g.Φ g.M o s Q (λy y=>False)) (Q .next)) (λk s' ⟨T,zz,d,hl⟩=>?_) n (.mk j it N z)
 refine bG (CT hl) λk r z0 z1 m i=>?_;subst z0
 refine wq (K:=λr Y=>match r with
  | none=>rl (Lg g.prog g.w) A (Q3 w env) (λf B=>P f B) _ Y
  | some v=>rl (Lg g.prog g.w) A (RC l env v) (λy V=>rl (Lg g.prog g.w) A (Q3 U env) _ _ V) _ Y) hh d.F.H d.itr (sZ d.itf z6) z1 (yX (λhr h' tk kk=>?_) (λc J hr v h' tk hv z7 y kk=>?_))
 ·exact ho A Pr _ _ Q (λy y=>False) _ _ hA (d.F.ia (s':={ s' with heap:=h',toks:=tk }) kk d.apart.nt d.off rfl rfl).1 (m hr) hP (λy y h=>h.elim)
 ·refine oEA (i c J hr) λL hL z8=>?_
  have N1:=d.nx (tk:=tk) (hr▸z1) kk z7
  refine ri (EJ hF) (λy p=>p) hh (λy p=>p) N1.F ht hv hL λY y y z2 t2 z9=>?_
  have N2:=N1.bind (z2.mono (vm':=vm) λp hp=>Ll _ hp) t2 z9
  refine F A (rn env vm Y T.H) Y _ _ (λy y=>False) _ _ hA N2.F.rp z8 (λf fl B O hf z3 z=>?_) (λy y h=>h.elim)
  have N3:=N2.zC z3
  cases hf with
  | next=>exact⟨k,Lz k,.mk O J N3 z⟩
  | cont=>exact⟨k,Lz k,.mk O J N3 z⟩
  | brk=>exact hP _ _ _ _ .next N3.F z
  | ret hv=>exact hP _ _ _ _ (.ret hv) N3.F z
end
section
variable{w:MY}{U:cp Lj}{os:NG}{Q:M7}{s':ow}{H:CH}
def av.Ia(R:av w U os Q Y s H){wr:cp LZ}(k:∀b o,b∉wr->s.heap.get? b=aM o->∃f,s'.heap.get? b=aM f/\dZ o f)(v:∀b o,Own s.heap H b->s.heap.get? b=aM o->s'.heap.get? b=aM o)
(N:∀b o,Q.get? b=aM o->s'.heap.get? b=aM o)(T:∀b∈wr,(∀o,¬ Y b o)/\∀g,¬ Qn s.heap b g)(A:s'.os=s.os)(D:s'.gens=s.gens):av w U os Q Y s' H/\TK s.heap s'.heap:=by
 have t:TK s.heap s'.heap:=λb g x=>x.elim λo y=>(k b o (λV=>(T b V).2 g x) y.1).elim λf z=>⟨o,z.2.eq (y.2.1▸λe=>nomatch Pe e)▸z.1,y.2⟩
 have J:∀{a c},H.cls a=aM c->Own s.heap H a:=λe=>.inr (.inr (.inl (e▸Lm _)))
 exact⟨{
  os:=A.trans R.os
  gens:=D.trans R.gens
  base:=R.base
  old:=N
  b7:=λb o p=>(R.b7 b o p).elim λj y=>(k b j (λV=>(T b V).1 o p) y.1).imp λC z=>⟨z.1,y.2.trans z.2⟩
  ro:=λa l e=>(R.ro a l e).ay t
  lst:=λa l e=>⟨(R.lst a l e).1,(R.lst a l e).2.ay t λo q B=>v a o (.inl (e▸Lm _)) q⟩
  dct:=λa l e=>⟨(R.dct a l e).1,(R.dct a l e).2.ay t λo q B=>v a o (.inr (.inl (e▸Lm _))) q⟩
  ins:=λa c e=>⟨(R.ins a c e).1,(R.ins a c e).2.ay t (λo q B=>v a o (J e) q) (λO q=>v a _ (J e) q) λO E n q1 I q y=>⟨I,E,n,v O _ (.inr (.inr (.inr ⟨a,c,_,e,q1,rfl⟩))) q,y⟩⟩
  one:=λa b c d O L V M h=>R.one a b c d O L V ((R.ins a c L).2.jf (λo=>v a o (J L)) M) ((R.ins b d V).2.jf (λo=>v b o (J V)) h)
  att:=R.att },t⟩
end
structure EL(h h':M7)(fl:cp LZ)(a T:LZ):Prop where
 ay:∀b o,b≠a->h.get? b=aM o->∃o',h'.get? b=aM o'/\(o'=o∨(b∈fl/\∃sl,o'={ o with slots:=sl }))
 e:∃oe oe' vs,h.get? a=aM oe/\h'.get? a=aM oe'/\oe'.cls=oe.cls/\oe'.data=.fields vs/\vs[1]?=aM (.ref T)
 t:∃oT ts,h'.get? T=aM oT/\oT.cls=.type "traceback"/\oT.data=.fields ts/\3<ts.size
 new:∀o,h.get? T≠aM o
section
variable{A:MQ}{s:ow}
def zE{Q:Rt->ow->Prop}
(n:A.frames=aM (Y::w))(I:s.heap.FunFrames O (Y::w))(d:Y.frame=aM L)(x:s.heap.get? e=aM l)(c:l.data=.fields t)(m:t[1]?=aM .none)
(h:∀i T,EL s.heap i ((Y::w).filterMap (·.frame)) e T->Q () { s with heap:=i }):rl M A (Y0 (.ref e) Y) Q E s:=by
 have p:1<t.size:=(On.mp m).1
 have f:e∉(Y::w).filterMap (·.frame):=λC=>by
  refine xo (I.mem C) λR o J N=>?_
  rw[x] at J;injection J with J;subst J;exact N t c
 unfold Y0
 simp only[d]
 refine ec (Q0 x c m ?_)
 erw[E1 (by decide)]
 refine ec (wpAny_frameOf_fun n I d λz y=>?_)
 refine ec (wpAny_entryPlaceOf λB a=>?_)
 unfold EntryCells.newEntry Y1
 refine ec (Og ?_ (a.sizeOk5 _ _ _ _ _))
 have U:z.get? e=aM l:=(y.2.1 e f).trans x
 have v:=Lh (h:=z) { cls:=.type "traceback",dict:=none,data:=.fields ([LM,.ref L,.none,Nx L,.none]++(if B.isEmpty then VZ 6 LM else B)).toArray } U
 refine Od v c p (h _ z.objs.size ?_)
 have D:z.objs.size≠e:=MW (LX U)
 have V:=Pn c (·.setIfInBounds 1 (OT z.objs.size))
 have k:=LN (RQ (·.setIfInBounds 1 (OT z.objs.size))) v (Ru V)
 have j:=(MF (z.push { cls:=.type "traceback",dict:=none,data:=.fields ([LM,.ref L,.none,Nx L,.none]++(if B.isEmpty then VZ 6 LM else B)).toArray })
  (RQ (·.setIfInBounds 1 (OT z.objs.size))) (Ma D)).trans (Lv z rfl)
 refine⟨λb o g r=>?_,⟨l,_,_,x,k,Sr _ _,V,by simp[p]⟩,⟨_,_,j,rfl,rfl,by simp⟩,λo J=>?_⟩
 ·by_cases C:b∈(Y::w).filterMap (·.frame)
  ·refine oE (y.2.2 b o r) λF P=>?_
   refine⟨_,?_,.inr ⟨C,F,rfl⟩⟩
   rw[MF _ _ (Ma g)]
   exact Lh _ P
  ·refine⟨o,?_,.inl rfl⟩
   rw[MF _ _ (Ma g)]
   exact Lh _ ((y.2.1 b C).trans r)
 ·have:=LX J
  rw[← y.1] at this
  exact p7 this (MR _)
def uN{oT:P0}{Q:Rt->ow->Prop}(J:s.heap.get? e=aM U)(O:U.data=.fields v)(p:v[1]?=aM (.ref T))(k:s.heap.get? T=aM oT)(z:oT.data=.fields V)(j:3<V.size)
(h:∀Y,(∀b o,b∉[T]->s.heap.get? b=aM o->Y.get? b=aM o)->(∃w y,Y.get? T=aM w/\w.cls=oT.cls/\w.data=.fields y/\3<y.size)->Q () { s with heap:=Y }):rl M A (UI (.ref e) none) Q E s:=by
 unfold UI
 refine ec (Q0 J O p ?_)
 erw[K2 (show(OT T != LM)=true from by simp)]
 refine Od k z j (h _ (λb o f e=>?_) ⟨_,_,LN _ k (Ru (Pn z _)),Sr _ _,Pn z _,by simpa using j⟩)
 rw[MF _ _ (λq=>f (by simp[q]))]
 exact e
end
structure ii(g:G):Prop where
 all:∀e∈g.fs,e.scope.kind≠.module/\∃L,e.frame=aM L/\g.h₀.get? L=none
theorem rq{h z:M7}{l:cp OR}:(∀e∈l,e.scope.kind≠.module/\∃L o,e.frame=aM L/\z.get? L=none/\h.get? L=aM o/\∀w,o.data≠.fields w)->h.FunFrames z l:=by
 induction l with
 | nil=>exact λU=>trivial
 | cons e l y=>exact λH=>⟨(H e fp).1,(H e fp).2,y λY Q=>H Y (oo _ Q)⟩
section
variable{g:G}{env:OR}{vm:cp (Lj×ki)}
def aB.ru{st:St}(R:aB g w y env vm s st){b:LZ}(Y:b∈g.fs.filterMap (·.frame)):¬ Own s.heap st.H b/\∃o,s.heap.get? b=aM o/\xy o:=by
 rcases R.ofr b Y with⟨rfl,h⟩ | ⟨o,p,q⟩
 ·refine oEA R.L.ns λm z J=>?_;obtain⟨o,U,v,Q,V,_⟩:=z
  exact⟨(R.np _ (.inl rfl)).2,o,Q,h o Q,U,v,V⟩
 ·refine oEA (R.H.b7 b o p) λk e j=>?_
  exact⟨R.H.eG p,k,e,q.same j⟩
def aB.xJ{st:St}(R:aB g w y env vm s st)(Y:ii g):s.heap.FunFrames g.h₀ g.fs:=rq λe z=>by
 refine xo (Y.all e z) λU L Q v=>?_
 refine Ck (R.ru (Qs.mpr ⟨e,z,Q⟩)) λV o k V J O j=>?_
 exact⟨U,L,o,Q,v,k,λp q=>by rw[j] at q;cases q⟩
def ji{st:St}(R:aB g k j env vm s st)(Y:s.heap.get? a=aM o)(U:o.data=.fields J):¬ aU env vm a:=by
 rintro(rfl | ⟨x,i,O,p,f⟩)
 ·refine oEA R.L.ns λm Q L=>?_;obtain⟨l,t,T,z,w,_⟩:=Q
  rw[Y] at z;cases z
  rw[U] at w;cases w
 ·refine qR (R.L.gy O p) λc v y l z V=>?_
  rw[f] at y;cases y
  rw[Y] at z;cases z
  rw[U] at V;cases V
def rx{st:St}(R:aB g Y U env vm s st)(h:aU env vm a):∃o,s.heap.get? a=aM o:=by
 rcases h with rfl | ⟨x,i,V,k,j⟩
 ·refine oEA R.L.ns λm Q O=>?_;obtain⟨y,p,f,z,J,_⟩:=Q
  exact⟨y,z⟩
 ·refine qR (R.L.gy V k) λl v w y z L=>?_
  rw[j] at w;cases w
  exact⟨y,z⟩
structure gP(g:G)(Pr:Op)(env:OR)(vm:cp (Lj×ki))(s:ow)(H:CH)(a T:LZ)(q:Exc):Prop where
 e:∃oe vs,s.heap.get? a=aM oe/\oe.cls=.type (aQ q)/\oe.data=.fields vs/\vs[1]?=aM (.ref T)
 t:∃oT ts,s.heap.get? T=aM oT/\oT.cls=.type "traceback"/\oT.data=.fields ts/\3<ts.size
 eo:¬ Own s.heap H a
 tp:∀o,¬ Pr T o
 to:¬ Own s.heap H T
 tf:¬ aU env vm T
def uO(q:Exc):aQ q≠"tuple"/\aQ q≠"frame":=by cases q <;> decide
def aB.Ib{st:St}(R:aB g true c env vm s st)(X:ii g){q:Exc}(N:EL s.heap Y (g.fs.filterMap (·.frame)) a T)(x:hX s.heap st.H c (.ref a) q) :
  aB g true c env vm { s with heap:=Y } st/\gP g c env vm { s with heap:=Y } st.H a T q:=by
 refine iN x λa' ob t Z I C M hd O=>?_
 cases Z
 have B:=ji R C hd
 have d:∀b o,b∉[a]->s.heap.get? b=aM o->∃V,Y.get? b=aM V/\dZ o V:=λb o Q e=>(N.ay b o (λq=>Q (n2.mpr q)) e).imp λV y=>
  ⟨y.1,y.2.imp id λz=>⟨(R.ru z.1).2.elim λk w=>ey (w.1.symm.trans e)▸w.2.1,z.2⟩⟩
 have i:∀b o,b≠a->s.heap.get? b=aM o->b∉g.fs.filterMap (·.frame)->Y.get? b=aM o:=λb o Q e J=>(N.ay b o Q e).elim λV y=>y.2.elim (λq=>q▸y.1) λz=>p7 z.1 J
 have r:∀b o,Own s.heap st.H b->s.heap.get? b=aM o->Y.get? b=aM o:=λb o Q e=>i b o (λq=>O (q▸Q)) e λJ=>(R.ru J).1 Q
 have k0:∀b o,g.h₀.get? b=aM o->Y.get? b=aM o:=λb o e=>i b o (λq=>I o (q▸R.H.base b o e)) (R.H.old b o e) λJ=>(Qs.mp J).elim λe' z=>(X.all e' z.1).2.elim λL y=>
  nomatch ((ey (z.2.symm.trans y.1)▸y.2:g.h₀.get? b=none).symm.trans e)
 have n:∀F,¬ Qn s.heap a F:=λF x=>x.elim λV y=>(uO q).1 (Pe (M.symm.trans ((dd Rb (ey (C.symm.trans y.1))).trans y.2.1)))
 refine oA (R.H.Ia (s':={ s with heap:=Y }) (wr:=[a]) d r k0 (λb Q=>(n2.mp Q).symm▸⟨I,n⟩) rfl rfl) λR' tk=>?_
 have U:∀b,¬ Own s.heap st.H b->¬ Own Y st.H b:=λb Q=>fa (s':={ s with heap:=Y }) R.H (λj o hj e=>r j o hj e) Q
 have P:∀b o,aU env vm b->s.heap.get? b=aM o->∃V,Y.get? b=aM V/\dZ o V:=λb o Q=>d b o λJ=>B (n2.mp J▸Q)
 have A:(∀o,s.heap.get? env.locals=aM o->o.cls=.type "frame")->∀o,Y.get? env.locals=aM o->o.cls=.type "frame":=λh o D=>by
  refine oEA R.L.ns λm f S=>?_;obtain⟨k,_,_,v,_⟩:=f
  refine oEA (P _ k (.inl rfl) v) λW l sm=>?_
  exact ey (l.symm.trans D)▸sm.cls.trans (h _ v)
 refine⟨⟨R',R.L.ay (λb o Q e=>P b o Q e) tk,λb Q=>⟨(R.np b Q).1,U b (R.np b Q).2⟩,R.inj,λb Q=>(R.ofr b Q).imp (λ⟨e,h⟩=>by subst e;exact⟨rfl,A h⟩) id⟩,?_⟩
 refine sr N.e λoe E vs h1 h2 h3 h4 h5=>?_
 exact⟨⟨E,vs,h2,h3.trans ((dd Rb (ey (h1.symm.trans C))).trans M),h4,h5⟩,N.t,U a O,λo p=>(R.H.b7 _ _ p).elim λV y=>N.new _ y.1,U T (R.H.iO (s':=s) (λS S e=>e) N.new),λh=>(rx R h).elim N.new⟩
end
def nv(q:Exc):Rq (.type (aQ q)) (.type "BaseException")=pure true:=by cases q <;> (erw[OO _ _];kernel_rfl)
def nz(q:Exc):Rq (.type (aQ q)) (.type (aQ q))=pure true:=by cases q <;> (erw[OO _ _];kernel_rfl)
def uP(q:Exc):Rq (.type ((Manifest.find? (aQ q)).elim "type" λx=>x.metatype)) (.type "tuple")=pure false:=by cases q <;> (erw[OO _ _];kernel_rfl)
def nB(q:Exc):UZ (aQ q)=aM (.type (aQ q)):=by cases q <;> decide +kernel
def FZ:Rq (.type "KeyError") (.type "IndexError")=pure false:=by erw[OO _ _];kernel_rfl
def F4:Rq (.type "IndexError") (.type "KeyError")=pure false:=by erw[OO _ _];kernel_rfl
inductive ij(g:G)(env:OR):cp Exc->LF->Prop
 | one {q:Exc} {Kg:QC}:env.kindOf (aQ q)=aM .globalImplicit->P9 g.K LU (aQ q)=aM none->ij g env [q] (.Name (aQ q) Kg)
 | two {p1 p2 pos:QC} {k:ki}:(∀q,env.kindOf (aQ q)=aM .globalImplicit/\P9 g.K LU (aQ q)=aM none)->ij g env [.index,.key] (.Tuple [.Name (aQ .index) p1,.Name (aQ .key) p2] k pos)
section
variable{g:G}{z:cp (Lj×ki)}
def gP.off{st:St}(R:aB g true k env z s st){q:Exc}(x:gP g k env z s st.H a T q){P:Rt->ow->Prop}
(h:∀s',aB g true k env z s' st->gP g k env z s' st.H a T q->P () s'):rl (Lg g.prog g.w) A (UI (.ref a) none) P E s:=by
 obtain⟨D,I,J,B,n,N⟩:=x.e
 obtain⟨oT,m,j,w,o,M⟩:=x.t
 refine uN J n N j o M λO p q=>?_
 obtain⟨f,l,L,Y,U,c⟩:=q
 have C:a≠T:=λe=>by
  subst e
  rw[J] at j;cases j
  rw[B] at w
  revert w;cases q <;> decide
 obtain⟨d,tk⟩:=R.ia (s':={ s with heap:=O }) p (λb Q=>by
  rw[n2] at Q;subst Q
  exact⟨x.tp,x.to,λi=>by
   rintro⟨r,v,V,_⟩
   rw[j] at v;cases v
   rw[w] at V;exact p7 V (by decide)⟩) (λb Q=>by
  rw[n2] at Q;subst Q;exact x.tf) rfl rfl
 have y:∀b,¬ Own s.heap st.H b->¬ Own O st.H b:=λb Q=>eu (s':={ s with heap:=O }) R.H p (λb Q=>by
  rw[n2] at Q;subst Q;exact x.to) Q
 exact h _ d ⟨⟨D,I,p a _ (by simp[C]) J,B,n,N⟩,⟨f,l,L,Y.trans w,U,c⟩,y a x.eo,x.tp,y T x.to,x.tf⟩
def aB.F5{st:St}(R:aB g Q w env z s st)(b:LG):aB (g.uh b) Q w env z s st:=⟨R.H,R.L,R.np,R.inj,R.ofr⟩
def aB.Kh{st:St}(R:aB (g.uh b) Q w env z s st):aB g Q w env z s st:=⟨R.H,R.L,R.np,R.inj,R.ofr⟩
def gP.ty{H:CH}{q:Exc}(x:gP g Q env z s H a T q):s.TypeIs (.ref a) (aQ q):=x.e.elim λw y=>y.elim λY y=>⟨w,y.1,y.2.1⟩
def gP.ay{s':ow}{H:CH}{q:Exc}(x:gP g Q env z s H a T q)(k:∀b o,s.heap.get? b=aM o->s'.heap.get? b=aM o)(w:∀b,¬ Own s.heap H b->¬ Own s'.heap H b):gP g Q env z s' H a T q:=
 ⟨x.e.imp λY y=>y.imp λU y=>⟨k _ _ y.1,y.2⟩,x.t.imp λY y=>y.imp λU y=>⟨k _ _ y.1,y.2⟩,w a x.eo,x.tp,w T x.to,x.tf⟩
def Ic(g:G)(env:OR)(z:cp (Lj×ki))(A:MQ)(Y:Op)(st:St)(a T:LZ)(q:Exc)(w:Of)(Q:cp Of)(P:Yc->ow->Prop):Prop:=
 ∀s,aB g true Y env z s st->gP g Y env z s st.H a T q->∀U,rl (Lg g.prog g.w) (A.mark (aM (.ref a))) (UI (.ref a) none) (λv y=>rl (Lg g.prog g.w) (A.mark (aM (.ref a))) (Q3 (w::Q) env) P U y) U s
def s8(O:g.Ok){st:St}{q:Exc}(R:aB g true Y env z s st)(H:gP g Y env z s st.H a T q)
(U:∀q,env.kindOf (aQ q)=aM .globalImplicit/\P9 g.K LU (aQ q)=aM none)(run:Ic g env z A Y st a T q w Q P)
(k:Rq (.type (aQ q)) (.type "IndexError")=pure v)(J:Rq (.type (aQ q)) (.type "KeyError")=pure V)(p:(v||V)=true) :
  rl (Lg g.prog g.w) A (handleBy (.ref a) env [.ExceptHandler (aM (.Tuple [.Name (aQ .index) t,.Name (aQ .key) x] C y)) none (w::Q) c]) P E s:=by
 refine wpAny_handleBy_tup2 (X:=aQ q) (T1:="IndexError") (T2:="KeyError") (b1:=v) (b2:=V) (nv .index) (uP .index) (nv .key) (uP .key) k J (Yh ?_)
 (erw[dj rfl];erw[dj rfl])
 refine RN (bT O R.bj (U .index).1 (by decide) (by decide) (U .index).2 (nB .index) (RN (bT O R.bj (U .key).1 (by decide) (by decide) (U .key).2 (nB .key) (Si ⟨by unfold VA;exact e0 rfl,?_⟩))))
 have f:=aR s.heap { cls:=.type "tuple",data:=.seq [Mw "IndexError",.type "KeyError"].toArray }
 have L:gP g Y env z { s with heap:=s.heap.push { cls:=.type "tuple",data:=.seq [Mw "IndexError",.type "KeyError"].toArray } } st.H a T q:=H.ay f λb B=>fa R.H (λj o l e=>f j o e) B
 refine⟨_,rfl,⟨_,Lv _ rfl,rfl,_,rfl⟩,L.ty,?_⟩
 erw[K2 p]
 exact run _ (R.ia (s':={ s with heap:=s.heap.push { cls:=.type "tuple",data:=.seq [Mw "IndexError",.type "KeyError"].toArray } }) (wr:=[]) (λb o l e=>f b o e) (λl h=>(nomatch h)) (λl h=>(nomatch h)) rfl rfl).1 L _
def SS.tr(O:g.Ok)(W:g.hd=true)(l:ii g)(L:g.fs=env::j)(Z:env.frame=aM env.locals)
(hb:SSs g env z b (Q3 k env))(hk:ij g env ks t)(hh:SSs (g.uh false) env z h (Q3 (V::y) env)) :
  SS g env z (.try b ks h) (OP (.Try k [.ExceptHandler (aM t) none (V::y) hp] [] [] z0) env):=by
 intro A Pr s st Q X P E J R hw x hE
 have hw:ae g.Φ g.M b st Q (λq st=>q∈ks/\ae g.Φ g.M h st Q (λc c=>False)):=hw
 refine wpAny_Try_except (hb A Pr s st Q _ _ _ J R hw (λf fl C Y hf w p=>?_) (λq Y p=>⟨J.handled W,λe C hx w=>?_⟩))
 ·cases hf with
  | next=>exact TH (x _ _ _ _ .next w p)
  | brk=>exact x _ _ _ _ .brk w p
  | cont=>exact x _ _ _ _ .cont w p
  | ret hv=>exact x _ _ _ _ (.ret hv) w p
 refine oA p λB o=>?_
 refine iN (id hx) λa ob tp n zz z1 zq z2 zw=>?_;subst n
 have hl:=w.xJ l
 have D:=J.frames
 rw[L] at hl D
 refine zE D hl Z z1 z2 rfl λh' T N=>?_
 rw[← L] at N
 refine oA (w.Ib l N hx) λI M=>?_
 refine M.off I λd U v=>?_
 have z3:OKA (g.uh false) (A.mark (aM (.ref a))):=⟨λh=>(nomatch h),J.units,J.depth,J.guards,J.frames⟩
 have run:Ic g env z A Pr Y a T q V y P:=λz6 m i E'=>
  i.off m λr F z7=>hh (A.mark (aM (.ref a))) Pr r Y Q (λc c=>False) P E' z3 (F.F5 false) o (λf fl s' z4 hf R' z5=>x f fl s' z4 hf R'.Kh z5) (λc c h=>h.elim)
 cases hk with
 | @one q' z8 S h2=>
  rw[n2] at B
  subst B
  refine wpAny_handleBy_builtin (X:=aQ q) (T:=aQ q) (b:=true) (nv q) (uP q) (nz q) (bT O U.bj S (by cases q <;> decide) (by cases q <;> decide) h2 (nB q) ⟨rfl,v.ty,run d U v _⟩)
 | @two p1 p2 z9 tk S=>
  cases q with
  | key=>exact s8 O U v S run FZ (nz .key) rfl
  | index=>exact s8 O U v S run (nz .index) F4 rfl
def aB.ext{s':ow}{st:St}(R:aB g Q Pr env z s st)(k:∀b o,s.heap.get? b=aM o->s'.heap.get? b=aM o)(y:s'.os=s.os)(Y:s'.gens=s.gens):aB g Q Pr env z s' st/\TK s.heap s'.heap:=
 R.ia (wr:=[]) (λb o w e=>k b o e) (λw h=>(nomatch h)) (λw h=>(nomatch h)) y Y
def zF{Q:Type}(f:ki->rt Q){i j:ki}(h:i≠j)(v w:Q):upd (upd f i v) j w=upd (upd f j w) i v:=by
 funext b
 unfold upd
 by_cases y:b=i
 ·subst y;simp[h]
 ·by_cases Y:b=j
  ·subst Y;simp[Ma h]
  ·simp[y,Y]
def SS.Ki(l:g.hd=true){Y:LF}{V:QC}(W:e9 z)(h:ES g env z S (Mb e env))(hx:(x,i)∈z)(hy:(y,j)∈z)(t:env.kindOf x=aM .local)(T:env.kindOf y=aM .local)(C:i≠j)
(hs:Ur [Y] e V.line env=pure false)(B:Qf [Y] e env=pure (aM [x,y])):SS g env z (.asg (.t [i,j]) S) (OP (.Assign [Y] e V) env):=by
 intro A Pr s st Q X P E Z R hw hP hE
 rw[exec_Assign_arm]
 refine ec (O1 ?_)
 erw[hs]
 refine ec (pe ?_)
 erw[E1 (by decide)]
 refine ec (h.inS Z R hw (λv c s' U N R' D hq=>?_) hE)
 erw[B]
 refine ec (pe ?_)
 refine aX hq λvs L k f w=>?_;subst k
 have J:=lK (is:=[i,j]) (cs:=vs) f
 match vs,J,f,N with
 | [I,M],_,f,N=>
 cases f
 cases N with
 | @tup a ai _ h1 h2 h3=>
  have d:ai.size=2:=h3.size
  unfold assignStores
  dsimp only
  refine ec (Np ?_)
  have O:=wpAny_unpackItems_tuple (prog:=g.prog) (w:=g.w) (E:=E) (Q:=λm p=>rl (Lg g.prog g.w) A (do
   Q9 ([x,y].reverse.map λn=>VG env n) m.reverse
   pure .next) P E p) (Z.handled l) h1 (λh' he=>?_)
  ·rw[d] at O
   exact ec O
  ·have k1:∀b o,s'.heap.get? b=aM o->h'.get? b=aM o:=λb o e=>he b o (Lu (LX e)) e
   refine oA (R'.ext (s':={ s' with heap:=h' }) k1 rfl rfl) λR1 t1=>?_
   refine aX h3.J5 λr v2 F r1 r2=>?_
   erw[F]
   refine ec ?_
   show rl _ _ (do
    Q1 [r] (VG env y v2)
    Q9 [VG env x] [r]) _ E _
   refine ec (Mc (Xw (R1.lJ W hy rfl (.inl T) (r2.mono t1) λs2 R2 t2 D=>?_)))
   show rl _ _ (do
    Q1 [] (VG env x r)
    Q9 [] []) _ E _
   refine ec (Mc (Xw (R2.lJ W hx rfl (.inl t) ((r1.mono t1).mono t2) λs3 R3 D D=>?_)))
   refine pe (pe (hP _ _ _ _ .next R3 ?_))
   have e:cS (cS U.L i I) j M=cS (cS U.L j M) i I:=zF U.L C I M
   rw[e] at w
   exact w
end
section
variable{n:ki}{key:ki->ki}
variable(n key) in
def sp{z:Type}:YV z->(z->Prop)->Prop
 | .ret a,Q=>Q a
 | .ask i j k,Q=>i<n/\j<n/\sp (k (decide (key i<key j))) Q
def jN{w y:Type}{f:w->YV y}{Q:y->Prop}(t:YV w):sp n key t (λa=>sp n key (f a) Q)->sp n key (t.bind f) Q:=
 t.rec (motive:=λt=>sp n key t (λa=>sp n key (f a) Q)->sp n key (t.bind f) Q) (λz h=>h) λz z z Y h=>⟨h.1,h.2.1,Y _ h.2.2⟩
variable(n) in
structure Pm(p:Mv ki):Prop where
 size:p.size=n
 perm:p.toList.Perm (Lk n)
variable(n) in
structure Pp(p:Mv ki):Prop extends Pm n p where
 pos:0<n
def KP(key:ki->ki)(p:Mv ki)(i:ki):Nat:=key (p.getD i 0)
def Pp.lt(h:Pp n p)(i:ki):p.getD i 0<n:=by
 by_cases z:i<p.size
 ·(rewrite[UF];erw[dif_pos z])
  exact LI.mp (h.perm.mem_iff.mp (Array.mem_toList_iff.mpr (Array.getElem_mem z)))
 ·(rewrite[UF];erw[dif_neg z]);exact h.pos
def ik{p q:Mv ki}{i j:ki}(h:p[i]?=q[j]?):KP key p i=KP key q j:=
 dd key (SV.trans ((dd (NS · 0) h).trans SV.symm))
def Pp.rev(h:Pp n p)(i j:ki):Pp n (UV p i j):=⟨⟨(kas_rev_size i j).trans h.size,(mirror_perm _ _ _ _).toList.trans h.perm⟩,h.pos⟩
def Pp.bub(h:Pp n p)(i j:ki):Pp n (bubble p i j):=⟨⟨(bubble_size _ _ _).trans h.size,(bubble_perm _ _ _).toList.trans h.perm⟩,h.pos⟩
def zG{p:Mv ki}{i j k:ki}(z:j<=p.size)(h:i<=k/\k<j):KP key (UV p i j) k=KP key p (i+j - 1 - k):=ik ((VW (i:=i) z k).trans (K2 h))
def kY{p:Mv ki}{a k c:ki}(z:k+1<=p.size)(h:∀i,a<=i->i<k+1->KP key p i=c):KP key (UV p a (k+1))=KP key p:=by
 funext i
 by_cases q:a<=i/\i<k+1
 ·have e:a+(k+1) - 1 - i=a+(k - i):=Nat.add_sub_assoc (tc q.2) a
  refine(zG z q).trans ((h _ ?_ ?_).trans (h i q.1 q.2).symm)
  ·erw[e];exact LA _ _
  ·erw[e];exact Mz (cy (MJ q.1 _) (p8 (NB (tc q.2))))
 ·exact ik ((VW (i:=a) z i).trans (E1 q))
def nE{z:Type}{i:ki}{w y:YV z}{Q:z->Prop}(Y:Pp n p)(U:KP key p i<KP key p j->sp n key w Q)(v:KP key p j<=KP key p i->sp n key y Q) :
  sp n key (.ask (p.getD i 0) (p.getD j 0) λc=>if c=true then w else y) Q:=
 ⟨Y.lt i,Y.lt j,if h:key (p.getD i 0)<key (p.getD j 0) then by erw[Ln h];exact U h else by erw[LQ h];exact v (O5 h)⟩
def Mo(r:ki->ki->Prop)(f:ki->ki)(k:ki):Prop:=∀i j,i<=j->j<k->r (f i) (f j)
abbrev Asc(key:ki->ki)(p:Mv ki)(k:ki):Prop:=Mo (λa b=>a<=b) (KP key p) k
abbrev Dsc(key:ki->ki)(p:Mv ki)(k:ki):Prop:=Mo (λa b=>b<=a) (KP key p) k
def Mo.CU{k:ki}(h:Mo r f (k+1))(Q:∀a,r a a)(w:∀{a b c},r a b->r b c->r a c)(y:r (f k) (f (k+1))):Mo r f (k+2):=λi j z Y=>
 (LV (tc Y)).elim (h i j z) λe=>e▸(LV (e▸z:i<=k+1)).elim (λU=>w (h i k (tc U) (Lz k)) y) λe=>e▸Q _
def Mo.one{r:ki->ki->Prop}{f:ki->ki}(w:∀a,r a a):Mo r f 1:=λi j z Q=>(OH.mp (eF z Q)).trans (OH.mp Q).symm▸w _
def Mo.up{k:ki}(h:Asc key p (k+1))(z:KP key p k<=KP key p (k+1)):Asc key p (k+2):=h.CU Lf cy z
def Mo.dn{k:ki}(h:Dsc key p (k+1))(z:KP key p (k+1)<=KP key p k):Dsc key p (k+2):=h.CU Lf (λa b=>cy b a) z
theorem Id{N:ki}(Y:Pp n p){Q:ki->Prop}(y:∀m,m+1<=N->Asc key p (m+1)->(m+1<N->KP key p (m+1)<KP key p m)->Q (m+1))(f:ki):∀k,k+1+f=N->Asc key p (k+1)->sp n key (kas_asc p f (k+1)) Q:=by
 induction f with
 | zero=>exact λk e z=>y k (p8 e) z λh=>p7 (MI h e.symm) (MR _)
 | succ f U=>exact λk e z=>nE Y (λw=>y k (e▸LA _ _) z λv=>w) λw=>U (k+1) ((Rc _ _).trans e) (z.up w)
def Eqs(key:ki->ki)(p:Mv ki)(k q:ki):Prop:=∀i,k+1 - (q+1)<=i->i<k+1->KP key p i=KP key p k
def Eqs.z:Eqs key p k 0:=λi Q w=>dd _ (ME (tc w) Q)
theorem Ie{N:ki}(t:N<=n){Q:Mv ki×ki×ki->Prop}(J:∀p k q,Pp n p->k+1<=N->Dsc key p (k+1)->Eqs key p k q->Q (p,k+1,q))(f:ki):∀(p:Mv ki) (k q:ki),Pp n p->k+1+f=N->Dsc key p (k+1)->Eqs key p k q->sp n key (kas_desc f p (k+1) q) Q:=by
 induction f with
 | zero=>exact λp k q z e y Y=>J p k q z (p8 e) y Y
 | succ f o=>
  intro p k q z e y Y
  have O:k+1<=N:=e▸LA _ _
  have g:k+1+1+f=N:=(Rc _ _).trans e
  refine nE z (λv=>?_) λv=>nE z (λx=>J p k q z O y Y) λU=>o p (k+1) (q+1) z g (y.dn U) λi T V=>?_
  ·have l:∀w,Pp n w->KP key w=KP key p->sp n key (kas_desc f w (k+2) 0) Q:=λw j L=>o w (k+1) 0 j g (Mo.dn (p:=w) (show Mo _ _ _ from L▸y) (L▸y1 v)) Eqs.z
   by_cases h:q>0
   ·erw[K2 h];exact l _ (z.rev _ _) (kY (z.size▸cy O t) Y)
   ·erw[E1 h];exact l p z rfl
  ·exact(LV (tc V)).elim (λV=>(Y i (Nat.succ_sub_succ (k+1) (q+1)▸T) V).trans (ME v U)) λe=>dd _ e
section
variable{Q:ki×Mv ki->Prop}(z:∀m p',Pp n p'->m+1<=n->Asc key p' (m+1)->Q (m+1,p'))
include z
def zH{k:ki}(y:Pp n p)(Y:k+1<=n)(v:Dsc key p (k+1)):sp n key (WA (k+1) n p) Q:=
 jN _ (Id (N:=n) (y.rev 0 (k+1)) (λm V J o=>z m _ (y.rev 0 (k+1)) V J) _ k (NB Y) λi j w U=>by
  have e:∀i,i<k+1->KP key (UV p 0 (k+1)) i=KP key p (0+(k+1) - 1 - i):=λi h=>zG (y.size▸Y) ⟨Lp _,h⟩
  (erw[e i (eF w U)];erw[e j U])
  exact v _ _ (Nat.sub_le_sub_left w _) (Mz (cy (Qx _ _) (p8 (OQ k)))))
def pP{k:ki}(J:Pp n p)(o:k+2<=n)(O:Dsc key p (k+2)):sp n key (kas_descPart (k+1) n p) Q:=
 jN _ (Ie (Lf n) (λj U v w y Y V=>by
  show sp n key (if v>0 then WA (U+1) n (UV j (U+1 - (v+1)) (U+1)) else WA (U+1) n j) Q
  by_cases h:v>0
  ·erw[K2 h];exact zH z (w.rev _ _) y (show Mo _ _ _ from kY (w.size▸y) V▸Y)
  ·erw[E1 h];exact zH z w y Y) _ p (k+1) 0 J (NB o) O Eqs.z)
def F6(Y:Pp n p):sp n key (kas_count n p) Q:=
 jN _ (Id (N:=n) Y (λm U v J=>by
  by_cases V:m+1=n
  ·erw[K2 (MU.mpr V)]
   exact z m p Y U v
  ·have y:=Se U V
   erw[E1 (mt MU.mp V)]
   by_cases h:m+1>1
   ·erw[K2 h]
    refine nE Y (λf=>z m p Y U v) λg=>?_
    have w:∀i,0<=i->i<m+1->KP key p i=KP key p m:=λi f o=>ME (v i m (tc o) (Lz m)) (cy g (v 0 i (Lp _) o))
    have e:=kY (Y.size▸U) w
    exact pP z (Y.rev 0 (m+1)) y (show Mo _ _ _ from e▸Mo.dn (p:=p) (λi j k O=>p8 ((w j (Lp _) O).trans (w i (Lp _) (eF k O)).symm)) (y1 (J y)))
   ·erw[E1 h]
    obtain rfl:m=0:=QG.mp (Nz (O5 h))
    exact pP z Y y (Mo.dn (p:=p) (Mo.one Lf) (y1 (J y)))) _ 0 (NB Y.pos) (Mo.one Lf))
end
def zI{l r:ki}(h:l<r):l<=(l+r) / 2:=(Nat.le_div_iff_mul_le Rk).mpr (Xf l▸Ls (y1 h) l)
def uQ{l r:ki}(h:l<r):(l+r) / 2<r:=(Nat.div_lt_iff_lt_mul Rk).mpr (Xf r▸Uz h r)
theorem F7(O:Pp n p)(V:Asc key p k){Q:ki->Prop}(j:∀m,m<=k->(∀i,i<m->KP key p i<=KP key p k)->(∀i,m<=i->i<k->KP key p k<=KP key p i)->Q m)(f:ki) :
  ∀(l r:ki),r<=k->l<=r->r<=l+f->(∀i,i<l->KP key p i<=KP key p k)->(∀i,r<=i->i<k->KP key p k<=KP key p i)->sp n key (WB p k f l r) Q:=by
 induction f with
 | zero=>exact λl r w z y Y U=>j l (cy z w) Y λi a b=>U i (cy y a) b
 | succ f J=>
  intro l r w z y Y U
  show sp n key (if l≥r then KasT.ret l else KasT.ask (p.getD k 0) (p.getD ((l+r) / 2) 0) λc=>if c=true then WB p k f l ((l+r) / 2) else WB p k f ((l+r) / 2+1) r) Q
  by_cases h:l≥r
  ·erw[K2 h]
   exact j l (cy z w) Y λi a b=>U i (cy h a) b
  ·erw[E1 h]
   have h:=QV h
   have o:=rf (uQ h) w
   exact nE O (λv=>J l _ (y1 o) (zI h) (tc (rf (uQ h) y)) Y λi a b=>cy (y1 v) (V _ _ a b)) λv=>
    J _ r w (uQ h) (cy y (cy (MJ (zI h) _) (p8 (Rc _ _).symm))) (λi a=>cy (V i _ (tc a) o) v) U
def ry{p:Mv ki}{z m:ki}(Q:z<p.size)(w:m<=z)(k:ki):(bubble p z (z - m))[k]?=if k=m then p[z]? else if m<k/\k<=z then p[k - 1]? else p[k]?:=by
 have e:=getElem?_bubble Q (z - m) (Qx _ _) k
 rwa [QT w] at e
def CW{g:ki->ki}{m k:ki}(V:m<=k)(y:Mo (λa b=>a<=b) f k)(J:∀i,i<m->f i<=f k)(o:∀i,m<=i->i<k->f k<=f i)
(w:∀i,i<m->g i=f i)(Y:g m=f k)(U:∀i,m<=i->i<k->g (i+1)=f i):Mo (λa b=>a<=b) g (k+1):=λi j z Q=>by
 rcases Ss j m with h | h | h
 ·show g i<=g j
  (erw[w i (eF z h)];erw[w j h])
  exact y i j z (rf h V)
 ·subst h
  show g i<=g j
  erw[Y]
  exact(LV z).elim (λv=>w i v▸J i v) λe=>e▸p8 Y
 ·cases j with
  | zero=>exact p7 h (MD _)
  | succ j=>
   have h:=tc h
   have Q:=Ny Q
   show g i<=g (j+1)
   erw[U j h Q]
   rcases Ss i m with q | q | q
   ·erw[w i q];exact y i j (cy (y1 q) h) Q
   ·(erw[q];erw[Y]);exact o j h Q
   ·cases i with
    | zero=>exact p7 q (MD _)
    | succ i=>
     erw[U i (tc q) (eF (Nz z) Q)]
     exact y i j (Nz z) Q
theorem Kj{Q:Mv ki->Prop}(V:∀Y,Pp n Y->Asc key Y n->Q Y)(f:ki):∀(p:Mv ki) (k:ki),Pp n p->k+f=n->Asc key p k->sp n key (kas_bin f p k) Q:=by
 induction f with
 | zero=>exact λp k z e w=>V p z (e▸w)
 | succ f j=>
  intro p k z e w
  have U:k<p.size:=z.size▸e▸TO (MO f)
  exact jN _ (F7 z w (λm y J o=>j _ (k+1) (z.bub _ _) ((Rc _ _).trans e)
   (CW y w J o (λi h=>ik ((ry U y i).trans ((E1 (Lu h)).trans (E1 λq=>WM h q.1)))) (ik ((ry U y m).trans (K2 rfl)))
    λi v O=>ik ((ry U y (i+1)).trans ((E1 (MW (Mz v))).trans (K2 ⟨Mz v,O⟩)))))
   k 0 k (Lf _) (Lp _) (p8 (OQ k).symm) (λi h=>p7 h (MD _)) λi a b=>p7 b (OG a))
def Ig(U:0<n){Q:Mv ki->Prop}(z:∀p,Pm n p->Asc key p n->Q p):sp n key (kas_sort n) Q:=
 jN _ (F6 (λm w y v Y=>by
  show sp n key (if m+1<n then kas_bin (n - max (m+1) 1) w (max (m+1) 1) else KasT.ret w) Q
  erw[Nat.max_eq_left (OV 1 m)]
  by_cases h:m+1<n
  ·erw[K2 h]
   exact Kj (λp h=>z p h.toPm) _ _ _ y (NB (y1 h)) Y
  ·erw[E1 h]
   exact z _ y.toPm (ME v (O5 h)▸Y)) (p:=Nr (Lk n)) ⟨⟨LJ,UB _⟩,U⟩)
end
def s9{n:ki}{key:ki->ki}{Q:ki->ki->(LG->ow->Prop)->ow->Prop}{I:ow->Prop}(U:∀i j,i<n->j<n->∀C s,I s->(∀z,I z->C (decide (key i<key j)) z)->Q i j C s){Y:Type}{G:Y->ow->Prop}{t:YV Y} :
  ∀{s:ow},sp n key t (λa=>∀z,I z->G a z)->I s->t.kasWp Q G s:=
 t.rec (motive:=λt=>∀{s:ow},sp n key t (λa=>∀z,I z->G a z)->I s->t.kasWp Q G s) (λa V h w=>h _ w) λi j k v s h w=>U i j h.1 h.2.1 _ s w λz y=>v _ h.2.2 y
def Knd.atom:Knd->LG
 | .tup _=>false
 | _=>true
theorem fG(h:pD z=true):z.all Knd.atom=true/\z≠[]:=by
 cases z with
 | nil=>exact p7 h Lq
 | cons k z=>exact⟨h,(by intro h;injection h)⟩
def ltV(x y:CV):Bool:=!(leV y x)
def CX{a b:Lj}(h:a.cps.toList=b.cps.toList):a=b:=dd U1 (Sx.mp h)
def fb{x:CV}(h:x.is .int=true):∃i,x=.int i:=by
 cases x <;> first | exact⟨_,rfl⟩ | exact p7 h Lq
def eH{x:CV}(h:x.is .str=true):∃s,x=.str s:=by
 cases x <;> first | exact⟨_,rfl⟩ | exact p7 h Lq
theorem il{k:Knd}(V:k.atom=true){x y:CV}(U:x.is k=true)(v:y.is k=true):leV x y=true∨leV y x=true:=by
 cases k with
 | int=>
  refine oE (fb U) λa z=>?_;subst z;refine oE (fb v) λb Q=>?_;subst Q
  exact(Int.le_total a b).imp Ln Ln
 | str=>
  refine oE (eH U) λa w=>?_;subst w;refine oE (eH v) λb Y=>?_;subst Y
  exact(List.le_total a.cps.toList b.cps.toList).imp Ln Ln
 | tup _=>exact p7 V Lq
theorem im{k:Knd}(f:k.atom=true){x y z:CV}(j:x.is k=true)(J:y.is k=true)(o:z.is k=true)(O:leV x y=true)(p:leV y z=true):leV x z=true:=by
 cases k with
 | int=>
  refine oE (fb j) λa Q=>?_;subst Q;refine oE (fb J) λb w=>?_;subst w;refine oE (fb o) λc Y=>?_;subst Y
  exact Ln (MG (p6 (p:=a<=b) O) (p6 (p:=b<=c) p))
 | str=>
  refine oE (eH j) λa U=>?_;subst U;refine oE (eH J) λb v=>?_;subst v;refine oE (eH o) λc V=>?_;subst V
  exact Ln (List.le_trans (p6 (p:=a.cps.toList<=b.cps.toList) O) (p6 (p:=b.cps.toList<=c.cps.toList) p))
 | tup _=>exact p7 f Lq
theorem fO{k:Knd}(J:k.atom=true){x y:CV}(U:x.is k=true)(v:y.is k=true)(V:leV x y=true)(j:leV y x=true):x=y:=by
 cases k with
 | int=>
  refine oE (fb U) λa z=>?_;subst z;refine oE (fb v) λb Q=>?_;subst Q
  exact dd CV.int (Int.le_antisymm (p6 (p:=a<=b) V) (p6 (p:=b<=a) j))
 | str=>
  refine oE (eH U) λa w=>?_;subst w;refine oE (eH v) λb Y=>?_;subst Y
  exact dd CV.str (CX (List.le_antisymm (p6 (p:=a.cps.toList<=b.cps.toList) V) (p6 (p:=b.cps.toList<=a.cps.toList) j)))
 | tup _=>exact p7 J Lq
theorem ms(h:CV.iss [] l=true):l=[]:=by
 cases l with
 | nil=>rfl
 | cons _ _=>exact p7 h Lq
theorem fg(h:CV.iss (k::z) l=true):∃x r,l=x::r/\x.is k=true/\CV.iss z r=true:=by
 cases l with
 | nil=>exact p7 h Lq
 | cons x r=>exact⟨x,r,rfl,rv.mp h⟩
def jO:jB (x::l) (x::m)=jB l m:=K2 rfl
def eM(e:x≠y):jB (x::l) (y::m)=leV x y:=E1 e
theorem uR{w:cp Knd}(Y:w.all Knd.atom=true)(U:CV.iss w l=true)(v:CV.iss w m=true):jB l m=true∨jB m l=true:=by
 induction w generalizing l m with
 | nil=>cases ms U;exact .inl rfl
 | cons k w V=>
  refine aX (fg U) λx l z a b=>?_;subst z
  refine aX (fg v) λy m Q c d=>?_;subst Q
  have Y:=rv.mp Y
  by_cases e:x=y
  ·subst e;(erw[jO];erw[jO]);exact V Y.2 b d
  ·(erw[eM e];erw[eM (Ma e)]);exact il Y.1 a c
theorem xK{w:cp Knd}(Y:w.all Knd.atom=true)(V:CV.iss w l=true)(j:CV.iss w m=true)(U:jB l m=true)(v:jB m l=true):l=m:=by
 induction w generalizing l m with
 | nil=>exact(ms V).trans (ms j).symm
 | cons k w J=>
  refine aX (fg V) λx l z a b=>?_;subst z
  refine aX (fg j) λy m Q c d=>?_;subst Q
  have Y:=rv.mp Y
  by_cases e:x=y
  ·subst e;rw[jO] at U v;exact dd (x::·) (J Y.2 b d U v)
  ·exact p7 (fO Y.1 a c ((eM e).symm.trans U) ((eM (Ma e)).symm.trans v)) e
theorem uS{Y:cp Knd}(v:Y.all Knd.atom=true)(O:CV.iss Y l=true)(L:CV.iss Y m=true)(t:CV.iss Y p=true)(U:jB l m=true)(Q:jB m p=true):jB l p=true:=by
 induction Y generalizing l m p with
 | nil=>cases ms O;rfl
 | cons k Y T=>
  refine aX (fg O) λx l w a b=>?_;subst w
  refine aX (fg L) λy m V c d=>?_;subst V
  refine aX (fg t) λz p j e f=>?_;subst j
  have v:=rv.mp v
  by_cases o:x=y
  ·subst o
   rw[jO] at U
   by_cases J:x=z
   ·subst J;rw[jO] at Q ⊢;exact T v.2 b d f U Q
   ·rw[eM J] at Q ⊢;exact Q
  ·rw[eM o] at U
   by_cases J:y=z
   ·subst J;exact(eM o).trans U
   ·rw[eM J] at Q
    by_cases g:x=z
    ·subst g;exact p7 (fO v.1 a c U Q) o
    ·exact(eM g).trans (im v.1 a c e U Q)
structure gA(S:CV->Prop):Prop where
 total:∀x y,S x->S y->leV x y=true∨leV y x=true
 trans:∀x y z,S x->S y->S z->leV x y=true->leV y z=true->leV x z=true
 F8:∀x y,S x->S y->leV x y=true->leV y x=true->x=y
def fP{y:CV}(h:y.is (.tup z)=true):∃l,y=.tup l/\CV.iss z l=true:=by
 cases y <;> first | exact⟨_,rfl,h⟩ | exact p7 h Lq
def io(f:pD ks=true):gA (λy=>y.is (.tup ks)=true) where
 total:=λx y Q w=>by
  refine oEA (fP Q) λl Y U=>?_;subst Y;refine oEA (fP w) λm v V=>?_;subst v
  exact uR (fG f).1 U V
 trans:=λx y z Q w t g L=>by
  refine oEA (fP Q) λl k U=>?_;subst k;refine oEA (fP w) λm j V=>?_;subst j;refine oEA (fP t) λp J T=>?_;subst J
  exact uS (fG f).1 U V T g L
 F8:=λx y Q w g L=>by
  refine oEA (fP Q) λl o U=>?_;subst o;refine oEA (fP w) λm O V=>?_;subst O
  exact dd CV.tup (xK (fG f).1 U V g L)
def nF(l:cp CV)(x:CV):Nat:=l.countP λy=>ltV y x
theorem xL{Q:Type}{p q:Q->LG}{l:cp Q}(h:∀x∈l,p x=true->q x=true)(e:∃x∈l,p x=false/\q x=true):l.countP p<l.countP q:=by
 induction l with
 | nil=>exact e.elim λj y=>nomatch y.1
 | cons x l v=>
  refine aA e λy z w Y=>?_
  have U:=λx V=>h x (oo _ V)
  (erw[Vp];erw[Vp])
  rcases ta.mp z with rfl | z
  ·(erw[w];erw[Y]);exact Mz (Ui U)
  ·refine O3 (v U ⟨y,z,w,Y⟩) ?_
   cases k:p x with
   | false=>exact Lp _
   | true=>erw[h x fp k];exact Lf _
def wy(O:gA S){l:cp CV}(Y:∀y∈l,S y){x y:CV}(p:x∈l)(f:y∈l):(nF l x<nF l y)↔ltV x y=true:=by
 have w:=Y x p
 have U:=Y y f
 have v:∀{a b:CV},ltV a b=true->leV b a≠true:=λh e=>by unfold ltV at h;rw[e] at h;exact p7 h Lq
 have V:∀{a b:CV},leV b a≠true->ltV a b=true:=λh=>by unfold ltV;erw[Oy.mpr h];rfl
 refine⟨λh=>V λg=>p7 h (Os.mpr (Ui λz k j=>V λQ=>v j (O.trans _ _ _ U w (Y z k) g Q))),λh=>?_⟩
 have J:leV x y=true:=(O.total x y w U).resolve_right (v h)
 refine xL (λz k Q=>V λo=>v Q (O.trans _ _ _ w U (Y z k) J o)) ⟨x,p,?_,h⟩
 have:leV x x=true:=(O.total x x w w).elim id id
 unfold ltV;erw[this];rfl
def wz(h:leV x y=true):xp x (y::l)=x::y::l:=K2 h
def wA(h:¬ leV x y=true):xp x (y::l)=y::xp x l:=E1 h
theorem pQ(x:CV)(l:cp CV):(xp x l).Perm (x::l):=by
 induction l with
 | nil=>exact .refl _
 | cons y l z=>
  by_cases h:leV x y=true
  ·rw[wz h]
  ·rw[wA h];exact(z.cons y).trans (.swap ..)
theorem bW(l:cp CV):(bY l).Perm l:=by
 induction l with
 | nil=>exact .refl _
 | cons x l z=>exact(pQ x _).trans (z.cons x)
theorem td(O:gA S)(U:S x){l:cp CV}(v:∀y∈l,S y)(V:l.Pairwise (λa b=>leV a b=true)):(xp x l).Pairwise (λa b=>leV a b=true):=by
 induction l with
 | nil=>exact Mi _ _
 | cons y l j=>
  have w:=RS.mp V
  have k:=v y fp
  have Y:=λz Q=>v z (oo _ Q)
  by_cases h:leV x y=true
  ·erw[wz h]
   refine RS.mpr ⟨λz Q=>?_,V⟩
   rcases ta.mp Q with rfl | Q
   ·exact h
   ·exact O.trans _ _ _ U k (Y z Q) h (w.1 z Q)
  ·erw[wA h]
   refine RS.mpr ⟨λz Q=>?_,j Y w.2⟩
   rcases ta.mp ((pQ x l).mem_iff.mp Q) with rfl | Q
   ·exact(O.total y z k U).resolve_right h
   ·exact w.1 z Q
theorem gB(O:gA S){l:cp CV}(w:∀y∈l,S y):(bY l).Pairwise (λa b=>leV a b=true):=by
 induction l with
 | nil=>exact .nil
 | cons x l Y=>
  have Q:=λz U=>w z (oo _ U)
  exact td O (w x fp) (λy v=>Q y ((bW l).mem_iff.mp v)) (Y Q)
def eN(O:gA S){l m:cp CV}(z:∀y∈l,S y)(Q:m.Perm l)(w:m.Pairwise (λa b=>leV a b=true)):m=bY l:=
 Yb (le:=λa b=>leV a b=true) (λa b Y U v V=>O.F8 a b (z a (Q.mem_iff.mp Y)) (z b ((bW l).mem_iff.mp U)) v V) w (gB O z) (Q.trans (bW l).symm)
section
variable{z:Ow}{w:MY}{A:MQ}{s:ow}
theorem zJ{Q:cp rr}(h:Q.length<2):(Q.toArray.zip Q.toArray).map (·.2)=Nr ((Nr (Lk Q.length)).toList.map λi=>Q.getD i LM):=by
 cases Q with
 | nil=>simp
 | cons v r=>
  cases r with
  | nil=>simp
  | cons=>exact p7 h (Os.mpr (OV 2 _))
def CY{n:ki}(h:n<2):Asc key p n:=λi j y U=>by
 have Q:j=0:=OH.mp (rf U (tc h))
 have Y:i=0:=QG.mp (Q▸y)
 (erw[Y];erw[Q]);exact Lf _
def xM{y:cp rr}{P:U4->ow->Prop}{U:ki->ki}{κ:Qk}(r:s.heap.get? a=aM (PU "list" y.toArray n))(f:y.length<64)
(hk:2<=y.length->∀(g:ow),(∀b o,b≠a->s.heap.get? b=aM o->g.heap.get? b=aM o)->∀Q:Qk->ow->Prop,Q κ g->rl (Lg z w) A (S5 y.toArray) Q (λv v=>False) g)
(hc:∀i j,i<y.length->j<y.length->∀(g:ow),(∀b o,b≠a->s.heap.get? b=aM o->g.heap.get? b=aM o)->∀C:LG->ow->Prop,C (decide (U i<U j)) g->rl (Lg z w) A (V9 κ (y.getD i LM) (y.getD j LM)) C (λv v=>False) g)
(h:∀(p:Mv ki) (S:M7) (c:ki),Pm y.length p->Asc U p y.length->(∀b o,b≠a->s.heap.get? b=aM o->S.get? b=aM o)->S.get? a=aM (PU "list" (Nr (p.toList.map λi=>y.getD i LM)) c)->P (.done (.ret .none)) { s with heap:=S }) :
  rl (Lg z w) A (PB.«list.sort» ⟨[.ref a],[]⟩) P E s:=by
 have ha:a<s.heap.objs.size:=LX r
 have g:=Mx s.heap a (M6 λv=>(#[]:Mv rr))
 obtain⟨F,B⟩:∃F,(s.heap.update a (M6 λv=>(#[]:Mv rr))).get? a=aM (PU "list" #[] F):=⟨_,W0 r λv=>#[]⟩
 erw[list_sort_plain _]
 refine ec (listItems_at r rfl ?_)
 refine ec (XN r rfl ?_ (by(erw[Pv];erw[Qi]);exact cy (y1 f) (by decide)) (Lp _))
 refine ec (Yi B rfl ?_)
 refine ec (Xs ?_ (by show y.length<=_;erw[Qi];exact cy (y1 f) (by decide)))
 refine ec (XI ?_ (Lp _))
 refine Mc ?_
 show rl (Lg z w) A _ P E { s with heap:=((s.heap.update a (M6 λv=>(#[]:Mv rr))).push (PU "tuple" y.toArray 0)).push (PU "list" #[] 0) }
 generalize q:((s.heap.update a (M6 λv=>(#[]:Mv rr))).push (PU "tuple" y.toArray 0)).push (PU "list" #[] 0)=H
 have W:∀b o,b≠a->s.heap.get? b=aM o->H.get? b=aM o:=λb o R e=>by
  erw[Ng q]
  exact Lh _ (Lh _ (g.extBut b o R e))
 have l:H.get? a=aM (PU "list" #[] F):=by
  erw[Ng q]
  exact Lh _ (Lh _ B)
 have N:∀(p:Mv ki),Pm y.length p->Asc U p y.length->∀Y:SortSt,(arrOf Y).map (·.2)=Nr (p.toList.map λi=>y.getD i LM)->Xy Y=none->
   rl (Lg z w) A (do
    let sorted:=(arrOf Y).map (·.2)
    let k:=(← seqEpoch a) != F
    Xl (.ref a) λv=>sorted
    if let aM e:=Xy Y then rule "list.sort.comparison-raised";throw e
    if k then rule "list.sort.modified";raiseError "ValueError" "list modified during sort"
    ret .none) P E { s with heap:=H }:=by
  intro p L D Y J I
  have X:(Nr (p.toList.map λi=>y.getD i LM)).size=y.length:=by(erw[Pv];erw[h7 _];erw[Oe];exact LH L.size rfl)
  dsimp only
  erw[J]
  obtain⟨Z,K⟩:∃Z,(H.update a (M6 λv=>Nr (p.toList.map λi=>y.getD i LM))).get? a=aM (PU "list" (Nr (p.toList.map λi=>y.getD i LM)) Z):=⟨_,W0 l λv=>Nr (p.toList.map λi=>y.getD i LM)⟩
  refine ec (Yi l rfl ?_)
  refine ec (XN l rfl ?_ (Lp _) (cy (p8 X) (by erw[Qi];exact cy (y1 f) (by decide))))
  erw[I]
  simp only[Wt,Qv,T7]
  exact pe (h p _ Z L D (λb o R e=>(Mx H a _).extBut b o R (W b o R e)) K)
 dsimp only
 by_cases T:y.toArray.size<2
 ·(erw[K2 T];erw[K2 T])
  refine ec (pe ?_)
  erw[StateT.run_pure _ _]
  refine ec (pe ?_)
  have V:y.length<2:=T
  refine N (Nr (Lk y.length)) ⟨LJ,UB _⟩ (CY V) (SortSt.mk' general' (y.toArray.zip y.toArray) #[] 7 none) ?_ rfl
  show(y.toArray.zip y.toArray).map (·.2)=_
  exact zJ V
 ·(erw[E1 T];erw[E1 T])
  have V:2<=y.length:=Os.mp T
  refine ec (OD (hk V { s with heap:=H } W (λt O=>t=κ/\O={ s with heap:=H }) ⟨rfl,rfl⟩) (λt s0 hq=>?_) λv v x=>x.elim)
  refine oA hq λM d=>?_;subst M;subst d
  have run:=kat_run (E:=E) (ks:=y) (Q:=λY O=>O={ s with heap:=H }/\∃p:Mv ki,Pm y.length p/\Asc U p y.length/\(arrOf Y).map (·.2)=Nr (p.toList.map λi=>y.getD i LM)/\Xy Y=none) (G:=λp O=>O={ s with heap:=H }/\Pm y.length p/\Asc U p y.length) (κ:=t) rfl V f
   (λp Y O L G I ⟨e,u,m⟩=>⟨e,p,u,m,kat_snds rfl G,I⟩)
   (s9 (n:=y.length) (key:=U) (I:=λO=>O={ s with heap:=H }) (λi j hi hj C O e hC=>by subst e;exact hc i j hi hj _ W C (hC _ rfl))
    (Ig (rf Rk V) λp L D=>λO e=>⟨e,L,D⟩) rfl)
  refine ec (OD run ?_ λv v e=>e)
  rintro⟨⟨⟩,Y⟩ O ⟨rfl,p,L,D,J,I⟩
  exact N p L D Y J I
def te{y:cp rr}{P:U4->ow->Prop}{V:ki->ki}{L:Qk}(J:y.length<64)
(t:2<=y.length->∀(Y:ow),(∀b o,s.heap.get? b=aM o->Y.heap.get? b=aM o)->∀Q:Qk->ow->Prop,Q L Y->rl (Lg z w) A.in1 (S5 y.toArray) Q (λg g=>False) Y)
(T:∀i j,i<y.length->j<y.length->∀(Y:ow),(∀b o,s.heap.get? b=aM o->Y.heap.get? b=aM o)->∀C:LG->ow->Prop,C (decide (V i<V j)) Y->rl (Lg z w) A.in1 (V9 L (y.getD i LM) (y.getD j LM)) C (λg g=>False) Y)
(h:∀(p:Mv ki) (O:M7) (c:ki) (D:LZ),Pm y.length p->Asc V p y.length->(∀b o,s.heap.get? b=aM o->O.get? b=aM o)->(∀o,s.heap.get? D≠aM o)->O.get? D=aM (PU "list" (Nr (p.toList.map λi=>y.getD i LM)) c)->P (.done (.ret (.ref D))) { s with heap:=O }) :
  rl (Lg z w) A (do let l ← Wq y;let _ ← Q1 [l] (call (.builtin "list.sort") [l]);ret l) P E s:=by
 refine ec (XI ?_ (by erw[Qi];exact cy (y1 J) (by decide)))
 have f:(s.heap.push (PU "list" y.toArray 0)).get? s.heap.objs.size=aM (PU "list" y.toArray 0):=Lv _ rfl
 have v:∀b o,s.heap.get? b=aM o->b≠s.heap.objs.size:=λb o q=>Lu (LX q)
 have U:∀b o,s.heap.get? b=aM o->(s.heap.push (PU "list" y.toArray 0)).get? b=aM o:=λb o q=>Lh _ q
 refine ec (Mc (ML slot_list_sort ⟨_,f,rfl⟩ entry_list_sort ?body (args_list_sort _)))
 case body=>
  refine xM (s:={ s with heap:=s.heap.push (PU "list" y.toArray 0) }) f J
   (λx Y k=>t x Y λb o q=>k b o (v b o q) (U b o q)) (λi j B n Y k=>T i j B n Y λb o q=>k b o (v b o q) (U b o q)) λp O c N a k I=>⟨_,rfl,pe ?_⟩
  exact h p O c _ N a (λb o q=>k b o (v b o q) (U b o q)) (λo q=>p7 rfl (v _ o q)) I
def lL{Q:rr->ow->Prop}{C:cp rr->ow->Prop}(V:∀{B:MQ} {l:cp rr->ow->Prop} {L:rr->ow->Prop},B.handled=A.handled->(∀vs y,C vs y->l vs y)->rl (Lg z w) B (X5 v) l L s)
(h:∀vs y,C vs y->∃(Y:ki->ki) (κ:Qk),vs.length<64/\
   (2<=vs.length->∀(U:ow),(∀b o,y.heap.get? b=aM o->U.heap.get? b=aM o)->∀Q:Qk->ow->Prop,Q κ U->rl (Lg z w) A.in1.in1 (S5 vs.toArray) Q (λO O=>False) U)/\
   (∀i j,i<vs.length->j<vs.length->∀(U:ow),(∀b o,y.heap.get? b=aM o->U.heap.get? b=aM o)->∀C:LG->ow->Prop,C (decide (Y i<Y j)) U->rl (Lg z w) A.in1.in1 (V9 κ (vs.getD i LM) (vs.getD j LM)) C (λO O=>False) U)/\
   (∀(p:Mv ki) (J:M7) (c:ki) (D:LZ),Pm vs.length p->Asc Y p vs.length->(∀b o,y.heap.get? b=aM o->J.get? b=aM o)->(∀o,y.heap.get? D≠aM o)->J.get? D=aM (PU "list" (Nr (p.toList.map λi=>vs.getD i LM)) c)->Q (.ref D) { y with heap:=J })) :
  rl (Lg z w) A (call (.builtin "sorted") [v]) Q E s:=by
 refine QA kind_sorted plain_sorted entry_sorted (args_sorted1 _) ?_
 unfold PB.«sorted»
 refine ec (m:=checkCount "sorted" 1 1 _) (pe ?_)
 refine ec (V rfl λvs y f=>?_)
 refine bG (h vs y f) λY κ g t T h=>?_
 exact te g t T λp J c D x f k n N=>⟨_,rfl,h p J c D x f k n N⟩
def knT:Knd->RE
 | .str=>"str"
 | _=>"int"
theorem xN{k:Knd}(V:RV h v c)(J:k.atom=true)(j:c.is k=true):V7 v=pure (.type (knT k)):=by
 cases k with
 | int=>refine oE (fb j) λa Q=>?_;subst Q;refine oE V.c λt y=>?_;subst y;rfl
 | str=>refine oE (eH j) λa Y=>?_;subst Y;refine oE V.c λt U=>?_;subst U;rfl
 | tup _=>exact ff J
theorem wB(h:CV.iss (k::Q) m=true):∃x r,m=x::r/\x.is k=true/\CV.iss Q r=true:=by
 cases m with
 | nil=>exact ff h
 | cons x r=>exact⟨x,r,rfl,(rv.mp h).1,(rv.mp h).2⟩
theorem zK(h:CV.iss [] m=true):m=[]:=by
 cases m with
 | nil=>rfl
 | cons=>exact ff h
def uT{k:Knd}(t:k.atom=true)(x:RVs h vs l):(∀y∈l,y.is (.tup (k::g))=true)->∃Q,KatTups h vs Q/\Q.length=vs.length/\∀f∈Q,V7 f=pure (.type (knT k)):=
 x.ind (P:=λvs l=>(∀y∈l,y.is (.tup (k::g))=true)->∃Q,KatTups h vs Q/\Q.length=vs.length/\∀f∈Q,V7 f=pure (.type (knT k))) (λJ=>⟨[],.nil,rfl,λJ h=>(nomatch h)⟩) λ{v c vs l} a b T L=>by
  refine aA (T λy C=>L y (oo _ C)) λQ B N D=>?_
  refine oEA (fP (L c fp)) λm Y I=>?_;subst Y
  refine bG a.c λad S U V J M=>?_;subst U;obtain⟨o,d,i,n,F⟩:=V
  refine aX (wB I) λx r j P J=>?_;subst j
  refine oEA (M.arr (i:=0) (c:=x) rfl) λu O p=>?_
  exact⟨u::Q,.cons d i F O B,dd Pj N,λf R=>(ta.mp R).elim (λe=>e▸xN p t P) (D f)⟩
theorem pR{k:Knd}(U:k.atom=true){c:CV}(Y:c.is k=true):c.pure=true/\c.depth=0:=by
 cases k with
 | int=>refine oE (fb Y) λa Q=>?_;subst Q;exact⟨rfl,rfl⟩
 | str=>refine oE (eH Y) λa y=>?_;subst y;exact⟨Y,rfl⟩
 | tup _=>exact ff U
theorem nG{k:Knd}(t:k.atom=true){u:rr}(f:RV s.heap u c)(g:RV s.heap v d)(l:c.is k=true)(L:d.is k=true){Q:LG->ow->Prop}(h:Q (!(leV d c)) s):rl (Lg z w) A (oneLt' b u v) Q E s:=by
 cases k with
 | int=>
  refine oE (fb l) λi y=>?_;subst y;refine oE (fb L) λj Y=>?_;subst Y
  refine oE f.c λT U=>?_;subst U;refine oE g.c λx V=>?_;subst V
  have e:(!(leV (.int j) (.int i)))=decide (i<j):=(YD (p:=j<=i)).symm.trans (Qb.mpr Po)
  rw[e] at h
  cases b with
  | true=>exact oneLt_int h
  | false=>exact kat_one _ _ (U3 h)
 | str=>
  refine oE (eH l) λi J=>?_;subst J;refine oE (eH L) λj o=>?_;subst o
  refine oE f.c λT O=>?_;subst O;refine oE g.c λx p=>?_;subst p
  have e:(!(leV (.str j) (.str i)))=decide (i.cps.toList<j.cps.toList):=(YD (p:=j.cps.toList<=i.cps.toList)).symm.trans (Qb.mpr ⟨λh=>RJ.mp λq=>h (WN.mp q),λh q=>WN.mpr q h⟩)
  rw[e] at h
  cases b with
  | true=>exact oneLt_str h
  | false=>exact kat_one _ _ (YI h)
 | tup _=>exact ff t
theorem xO{Q:LG->ow->Prop}(n:A.units<P5){O:cp Knd}:∀{vs p:cp rr} {y Y:cp CV} {i:ki},O.all Knd.atom=true->RVs s.heap vs y->RVs s.heap p Y->CV.iss O y=true->CV.iss O Y=true->Q (!(jB Y y)) s->
  KatLex z w A b false Q (vs.zip p) i s:=by
 induction O with
 | nil=>
  intro vs p y Y i _ f L g l h
  obtain rfl:=zK g
  obtain rfl:=zK l
  obtain rfl:vs=[]:=f.c
  exact kat_nil h
 | cons k O N=>
  intro vs p y Y i o f L g l h
  have o:=rv.mp o
  refine aX (wB g) λc y U t D=>?_;subst U
  refine aX (wB l) λd Y V T I=>?_;subst V
  refine aX f.c λv vs j a x=>?_;subst j
  refine aX L.c λm p J C M=>?_;subst J
  have h:Q (!(if d=c then jB Y y else leV d c)) s:=h
  have B:=pR o.1 t
  erw[UK]
  refine kat_cons (pE a C B.1 (pR o.1 T).1 (by erw[B.2];exact n) ?_)
  by_cases e:c=d
  ·rw[K2 e.symm] at h
   erw[Ln e]
   exact kat_yes (N o.2 x M D I h)
  ·rw[E1 (Ma e)] at h
   erw[LQ e]
   exact kat_no (nG o.1 a C t T h)
end
def dE{z:Type}{l:cp z}{i:ki}{d v:z}(h:l[i]?=aM v):l.getD i d=v:=by rw[Qt,h];rfl
def th{z:Type}(l:cp z)(d:z):(Lk l.length).map (λi=>l.getD i d)=l:=by
 apply Sl
 intro i
 rw[Mg]
 by_cases h:i<l.length
 ·rw[Pa h,o2 h]
  show aM (l.getD i d)=_
  rw[Qt,o2 h];rfl
 ·rw[Md (by simpa using h),Md (by simpa using h)];rfl
theorem wC{z:cp Knd}:∀{l:cp CV},CV.iss z l=true->l.length=z.length:=by
 induction z with
 | nil=>exact λh=>dd Nc (zK h)
 | cons k z Q=>exact λh=>(wB h).elim λx y=>y.elim λr y=>(dd Nc y.1).trans (dd Pj (Q y.2.2))
theorem RVs.FF(x:RVs h Q l){z:cp ki}(w:∀i∈z,i<l.length):RVs h (z.map λi=>Q.getD i LM) (z.map λi=>l.getD i CV.none):=by
 induction z with
 | nil=>exact .nil
 | cons i z Y=>
  have y:=o2 (w i fp)
  refine oEA (x.get i y) λu U V=>?_
  (erw[Nv];erw[Nv];erw[dE U];erw[dE y])
  exact .cons V (Y λj k=>w j (oo _ k))
def rz{p:Mv ki}{n:ki}(Y:p.size=n)(h:Asc z p n):p.toList.Pairwise (λa b=>z a<=z b):=by
 rw[pairwise_iff_getElem]
 intro i j Q y w
 have:=h i j (y1 w) (by erw[Ng Y];simpa using y)
 have e:∀{i:ki} (Q:i<p.toList.length),p.getD i 0=p.toList[i]:=λ{i} Q=>by
  have:i<p.size:=by simpa using Q
  simp[UF,this]
 unfold KP at this
 rwa [e Q,e y] at this
section
variable{g:G}{z:OR}{w:cp (Lj×ki)}
def nH{V:ow}{st:St}{l:cp CV}(O:gA S)(m:∀y∈l,S y)(T:RVs V.heap vs l)(n:l.length<64){κ:Qk}
(H:2<=vs.length->∀(Y:ow),RVs Y.heap vs l->∀Q:Qk->ow->Prop,Q κ Y->rl (Lg g.prog g.w) A (S5 vs.toArray) Q (λf f=>False) Y)
(G:∀(u v:rr) (c d:CV) (Y:ow),c∈l->d∈l->RV Y.heap u c->RV Y.heap v d->∀C:LG->ow->Prop,C (ltV c d) Y->rl (Lg g.prog g.w) A (V9 κ u v) C (λf f=>False) Y)
(R:Rep g X z w V st){P:rr->ow->Prop}(hP:∀D Y,Rep g X z w Y ⟨st.H.aD D (bY l),st.L⟩->st.H.free D->P (.ref D) Y):∃(L:ki->ki) (κ:Qk),vs.length<64/\
   (2<=vs.length->∀(Y:ow),(∀b o,V.heap.get? b=aM o->Y.heap.get? b=aM o)->∀Q:Qk->ow->Prop,Q κ Y->rl (Lg g.prog g.w) A (S5 vs.toArray) Q (λf f=>False) Y)/\
   (∀i j,i<vs.length->j<vs.length->∀(Y:ow),(∀b o,V.heap.get? b=aM o->Y.heap.get? b=aM o)->∀C:LG->ow->Prop,C (decide (L i<L j)) Y->rl (Lg g.prog g.w) A (V9 κ (vs.getD i LM) (vs.getD j LM)) C (λf f=>False) Y)/\
   (∀(p:Mv ki) (B:M7) (c:ki) (D:LZ),Pm vs.length p->Asc L p vs.length->(∀b o,V.heap.get? b=aM o->B.get? b=aM o)->(∀o,V.heap.get? D≠aM o)->B.get? D=aM (PU "list" (Nr (p.toList.map λi=>vs.getD i LM)) c)->P (.ref D) { V with heap:=B }):=by
 have U:vs.length=l.length:=T.length
 refine⟨λi=>nF l (l.getD i .none),κ,U▸n,λe Y N=>H e Y (T.mono (TK.aS N)),λi j r hj Y N C s=>?_,λp B c D F a N Z E=>?_⟩
 ·have K:=T.mono (TK.aS N)
  have k:i<l.length:=U▸r
  have J:j<l.length:=U▸hj
  refine oEA (K.get i (o2 k)) λu u1 u2=>?_
  refine oEA (K.get j (o2 J)) λv v1 v2=>?_
  (erw[dE u1];erw[dE v1])
  have s:C (decide (nF l (l.getD i .none)<nF l (l.getD j .none))) Y:=s
  rw[dE (o2 k),dE (o2 J)] at s
  refine G u v _ _ Y (MS k) (MS J) u2 v2 C ?_
  have W:decide (nF l l[i]<nF l l[j])=ltV l[i] l[j]:=by
   (rewrite[VT];erw[decide_eq_true_eq])
   exact wy O m (MS k) (MS J)
  exact W▸s
 ·have t:∀i∈p.toList,i<l.length:=λi r=>by
   have:=F.perm.mem_iff.mp r
   rw[LI,U] at this
   exact this
  have hm:(p.toList.map λi=>l.getD i .none)=bY l:=by
   refine eN O m ?_ ?_
   ·have:=F.perm.map (λi=>l.getD i CV.none)
    rw[U,th] at this
    exact this
   ·rw[Nm]
    refine(rz F.size a).imp_of_mem λ{x y} hx hy I=>?_
    have M:=t x hx
    have h:=t y hy
    rw[dE (o2 M),dE (o2 h)] at I ⊢
    have e:¬ ltV l[y] l[x]=true:=λq=>p7 ((wy O m (MS h) (MS M)).mpr q) (Os.mpr I)
    simpa [ltV] using e
  have T:RVs V.heap (p.toList.map λi=>vs.getD i LM) (bY l):=hm▸T.FF t
  have hz:(bY l).length<=szl:=by erw[(bW l).length_eq];exact cy (y1 n) (e0 rfl)
  exact hP D { V with heap:=B } (R.EH (s':={ V with heap:=B }) N rfl rfl Z ⟨_,E⟩ (by simpa using T) hz) (R.H.free Z)
def ES.sorted(O:g.Ok){cx:CE}{e:LF}(hk:z.kindOf "sorted"=aM .globalImplicit)(V:P9 g.K LU "sorted"=aM none)(hs:[e].all aW=true)
(h:ESs g z w [cx] (MV (M1 j (Ml [e] z)))):ES g z w (.b1 .sorted cx) (Mb (.Call (.Name "sorted" np) [e] [] j) z):=by
 intro A Pr s st Q X P E hA R hw hP hE
 have Z:=hA.units
 refine SF (bT (v:=.builtin "sorted") O R hk (by decide) (by decide) V rfl ?_)
 refine dA hs (h.mW hA R hw (λv c s' z1 V R' S S hq=>?_) hE)
 refine iN hq λa l ks J hl p f U Y=>?_;subst J
 obtain rfl:v=.ref a:=V.c
 refine aA (R'.H.cr hl) λvs h1 h2 h3=>?_
 refine oA (fG f) λL K=>?_
 have t:vs.toList.length=l.length:=h2.length
 refine oEE (exists_cons_of_ne_nil K) λk ks T=>?_;subst T
 have H:k.atom=true:=(rv.mp L).1
 have G:A.in1.in1.units<cLine:=eF (show A.units+2<=A.units+200 * g.n+150 from LY (LA _ _) (by decide)) Z
 refine lL (C:=λws s1=>ws=vs.toList/\∃W,s1={ s' with heap:=W }/\∀b o,s'.heap.get? b=aM o->W.get? b=aM o) (λS Y=>collect_list (vs:=vs.toList) (by erw[Rw];exact h1) (Y _ _ ⟨rfl,_,rfl,λb o q=>?_⟩) (by erw[t];erw[Qi];exact cy (y1 p) (by decide))) λws s1 ⟨e,W,e',kp⟩=>?_
 ·rw[Heap.get?_update_ne _ _ _ _ (Lu (LX q)),U9 _ _ _ (Lu (LX q))]
  exact q
 subst e e'
 refine nH (κ:=tuples' (Mw (knT k) != Mw "tuple")) (io f) U (h2.mono (TK.aS kp)) p (λhn s2 r Q hQ=>?_) (λu v c d s2 hc hd hu V C hC=>?_) (R'.ext (s':={ s' with heap:=W }) kp rfl rfl) λD s2 R2 hf=>hP _ _ s2 _ (.ref D) R2 (Y _ hf)
 ·refine aA (uT H r U) λfs t1 t2 t3=>?_
  exact kat_kind t1 (t2▸rf Rk hn) (λv V=>Looks.of_pure (t3 v V)) (by exact LH (Pi _) rfl) hQ
 ·refine oEA (fP (U _ hc)) λcs B n=>?_;subst B
  refine oEA (fP (U _ hd)) λds N I=>?_;subst N
  refine bG hu.c λx xs M m S x3=>?_;subst M;obtain⟨ox,hx,_,nx,dx⟩:=m
  refine bG V.c λy ys i F S y3=>?_;subst i;obtain⟨oy,hy,_,ny,dy⟩:=F
  refine kat_lt hx dx hy dy ?_
  have z0:decide (xs.size<ys.size)=false:=by
   (erw[x3.size];erw[y3.size];erw[wC n];erw[wC I])
   exact LQ (MR _)
  erw[z0]
  exact xO G L x3 y3 n I hC
end
section
variable{prog:Ow}{w:MY}{s:ow}
def uU(z:cp (Nj×rr)):cp Str:=z.map λe=>Sz e.2
structure ElS(prog:Ow)(w:MY)(es:Mv (Nj×rr))(l:cp Lj):Prop where
 el:ElemsOf (NQ prog w) es.toList
 nd:(uU es.toList).Nodup
 mem:∀x,x∈uU es.toList↔x∈l
 le:es.size<=l.length
inductive ip(prog:Ow)(w:MY)(h:M7)(a:LZ)(l:cp Lj):Prop
 | mk {o:P0} {es:Mv (Nj×rr)} {ep:ki} {t:T9} (ho:h.get? a=aM o) (hx:o.ExactSet) (hd:o.data=.set es ep t) (he:ElS prog w es l) (hb:es.size<Ro) (hf:t.fits es.size=true) (hp:l≠[]->t.plain=false):ip prog w h a l
def zL(h:(NQ prog w).is k v=true):Sz v=k:=by
 refine oE (P6 h) λt z=>?_;subst z;rfl
def ElS.is(h:ElS prog w es l){e:Nj×rr}(z:e∈es.toList):∃t,e.2=.str (Sz e.2) t:=
 (h.el e z).1.elim λk q=>(P6 q.1).elim λt q=>⟨t,q▸rfl⟩
def ElS.perm{z:Mv (Nj×rr)}(h:ElS prog w es l)(p:Perm z.toList es.toList):ElS prog w z l:=
 ⟨h.el.perm p,(p.map _).nodup_iff.mpr h.nd,λx=>(p.map _).mem_iff.trans (h.mem x),cy (p8 p.length_eq) h.le⟩
theorem tj{t:T9}(p:t.plain=false):(TZ t es n).2.1.plain=false:=by
 unfold TZ
 cases e:t.relaid (es.map (·.1)) n with
 | none=>rfl
 | some x=>
  dsimp only
  split
  ·unfold Yp Yq at e
   refine oEA (MM.mp e) λz Q q=>?_
   exact ey q▸p
  ·rfl
def ip.put{h:M7}{Q:T9}(v:h.get? a=aM o)(V:o.ExactSet)(Y:o.data=.set es y t)(k:ElS prog w z l)(j:z.size<Ro)(J:Q.fits z.size=true)(O:Q.plain=false) :
  (h.update a (Sb z Q)).get? a=aM { o with data:=.set z (y+1) Q }/\ip prog w (h.update a (Sb z Q)) a l:=
 have U:(h.update a (Sb z Q)).get? a=aM { o with data:=.set z (y+1) Q }:=(LN (Sb z Q) v ((YZ z Q Y).symm▸rfl)).trans (dd aM (YZ z Q Y))
 ⟨U,.mk U V rfl k j J λp=>O⟩
def tl{g:LG->Sem Rt}(c:∀(b:LG) (y:ow) (p:Rt->ow->Prop),p () y->rl (Lg prog w) A (g b) p E y)
{Q:T9}(f:s.heap.get? a=aM o)(hex:o.ExactSet)(L:o.data=.set es C t)
(v:ElS prog w z l)(T:l.length<Ro)(B:Q.fits z.size=true)(x:Q.plain=false){n:LG}{R:rt LG->ow->Prop}
(h:∀J,Pz a s.heap J->ip prog w J a l->R (aM true) { s with heap:=J }) :
  rl (Lg prog w) A (do
    storeSet a z Q
    if (!n&&Q.tooFull)=true then do
      g (TZ Q z (Q4 z.size)).2.2
      storeSet a (TZ Q z (Q4 z.size)).1 (TZ Q z (Q4 z.size)).2.1
      pure (aM true)
     else pure (aM true)) R E s:=by
 have V:=eF v.le T
 refine ec (Wh f L ?_ (S6 V))
 refine oA (ip.put (prog:=prog) (w:=w) f hex L v V B x) λk O=>?_
 have Y:=Mx s.heap a (Sb z Q)
 split
 ·have U:=v.perm (relayAll_perm Q z (Q4 z.size))
  have j:=eF U.le T
  exact ec (c _ _ _ (ec (Wh k rfl (pe (h _ (Y.trans (Mx _ a _)) (ip.put k hex rfl U j (relayAll_fits Q z _) (tj (es:=z) x)).2)) (S6 j))))
 ·exact pe (h _ Y O)
set_option tactic.hygienic true in
theorem CZ{x:Lj}{Q:LG->ow->Prop}(f:ip prog w s.heap a l)(U:(l++[x]).length<Ro)
(h:∀b O,Pz a s.heap O->ip prog w O a (l++[x])->Q b { s with heap:=O }):rl (Lg prog w) A (XY a (.str x V) ((NQ prog w).hash x)) Q E s:=by
 obtain⟨g,hex,T,z,C,D,P⟩:=f
 rename_i o k Z t
 have J:(NQ prog w).is x (.str x V)=true:=TX prog w x V
 have I:l.length<=(l++[x]).length:=GE▸LA _ _
 unfold XY setAddHashedIn
 refine Mc (ec (PS g T D ?_))
 dsimp only
 erw[byScan_of (x:=.str x V) rfl C z.el]
 refine ec (ec (Np (ec (wpAny_setScan_of J g T D z.el ?_))))
 cases i:Wc (λe=>(NQ prog w).is x e.2) k.toList with
 | some j=>
  obtain⟨R,M,_⟩:=findIdx?_eq_some_iff_getElem.mp i
  have B:x∈l:=(z.mem x).mp (p9.mpr ⟨k.toList[j],MS R,zL M⟩)
  exact pe (pe (h false s.heap (Xk a s.heap) (.mk g hex T ⟨z.el,z.nd,λy=>(z.mem y).trans ⟨LD _,λq=>(LB.mp q).elim id λq=>n2.mp q▸B⟩,cy z.le I⟩ C D λζ=>P (RT B))))
 | none=>
  have B:x∉uU k.toList:=λq=>by
   refine oEA (p9.mp q) λe r n=>?_
   refine oE (z.is r) λu S=>?_
   exact p7 (S.trans (dd (Tz · u) n)▸TX prog w x u) (Oy.mp (findIdx?_eq_none_iff.mp i e r))
  have Y:=layNew_fits t k ((NQ prog w).hash x) (.str x V)
  have n:uU (k.push ((NQ prog w).hash x,.str x V)).toList=uU k.toList++[x]:=(dd uU Ov).trans LP
  have c:ElS prog w (k.push ((NQ prog w).hash x,.str x V)) (l++[x]):=⟨Ov▸z.el.push J rfl,n▸M8.mpr ⟨z.nd,Mi _ _,λa W b C e=>B (n2.mp C▸e▸W)⟩,
   λy=>n▸LB.trans ((SA (z.mem y)).trans LB.symm),by rw[Vt,GE];exact Lw z.le⟩
  have c:=c.perm (layNew_perm t k ((NQ prog w).hash x) (.str x V))
  have p:∀(b:LG) (v:ow) (d:Rt->ow->Prop),d () v->rl (Lg prog w) A (match b with | true=>rule "set.scan.the-table-gave-way" | false=>pure ()) d E v:=
   λb v d N=>by cases b <;> first | exact pe N | exact Np N
  generalize layNew t k ((NQ prog w).hash x) (.str x V)=L at c Y ⊢
  obtain⟨X,t1,wd,F⟩:=L
  refine ec (p _ _ _ ?_)
  split
  ·refine ec ?_
   erw[hashByValue_scannable 8 (x:=.str x V) rfl]
   exact pe (tl p g hex T c U (Yr Y) rfl λO m f=>pe (h true O m f))
  ·rename_i N
   exact ec (pe (tl p g hex T c U Y (Oy.mpr N) λO m f=>pe (h true O m f)))
end
theorem tm{i:ki}:∀{z:cp rr} {Q:cp Lj},RD z Q->z[i]?=aM v->∃x t,Q[i]?=aM x/\v=.str x t:=by
 induction i with
 | zero=>
  intro z Q h e
  cases h with
  | nil=>cases e
  | cons x t _=>cases e;exact⟨x,t,rfl,rfl⟩
 | succ i w=>
  intro z Q h e
  cases h with
  | nil=>cases e
  | cons x t h=>exact w h e
section
variable{w:MY}{A:MQ}{R:Result->ow->Prop}{Q z:cp LZ}{G:Mv XH->Mv XH->Prop}{n:ki}{P:ki->rr->Prop}{St:ki->ow->Prop}
def ip.at{h':M7}(x:ip prog w h a l)(k:∀o,h.get? a=aM o->h'.get? a=aM o):ip prog w h' a l:=
 let ⟨y,Y,U,he,v,hf,V⟩:=x;⟨k _ y,Y,U,he,v,hf,V⟩
theorem zM(W:WalksS prog w A.in1 I Q z G n P St){S:LZ}(J:S∉Q){Y:cp Lj}(O:∀i v,P i v->∃x t,Y[i]?=aM x/\v=.str x t)(V:Y.length<Ro)(C:Y.length=n)(k:ki):∀(i:ki) (s:ow),i+k=n->St i s->ip prog w s.heap S (Y.take i)->
  (∀y,Moved (S::z) G s y->ip prog w y.heap S Y->R (.ok (.ret .none)) y)->UX (Lg prog w) A (.builtin "set.update.loop" ⟨[.ref S,.ref I],[]⟩) R s:=by
 have p:S∉z:=λh=>J (W.sub _ h)
 have U:∀b∈z,b∈S::z:=λb V=>oo _ V
 induction k with
 | zero=>
  intro i s c j B N
  obtain rfl:i=n:=c
  refine Pt Up ?_
  erw[O0 Ri _]
  show rl _ A.in1 (UQ (.ref I) >>= _) _ _ s
  exact ec (W.done s _ _ j λy f=>pe (N y (f.mono U) ((TQ (p8 C)▸B).at λo=>f.heap S o p)))
 | succ k d=>
  intro i s c j B N
  refine Pt Up ?_
  erw[O0 Ri _]
  show rl _ A.in1 (UQ (.ref I) >>= _) _ _ s
  refine ec (W.item i s _ _ (c▸TO (MO k)) j λv y m g f=>?_)
  refine eC (O i v m) λx t r l=>?_;subst l
  have E:Y.take i++[x]=Y.take (i+1):=(Mr.trans (dd (Y.take i++·.toList) r)).symm
  show rl _ A.in1 (Q1 [Tz x t] (setAdd S (.str x t)) >>= _) _ _ y
  refine ec (Mc ?_)
  unfold setAdd
  refine Mc (ec ((NQ prog w).pyHash (k:=x) (TX prog w x t) (CZ (s:={ y with toks:=y.toks+1 }) (B.at λo=>f.heap S o p) (E▸eF (Ox _ _) V) λb X M a=>?_)))
  exact pe ⟨Ut Ri _,d (i+1) _ ((NU i k).trans c) (W.frame _ y _ _ g (MA _) λb V o e=>(M.2 b (λh=>J (h▸V))).trans e) (E▸a) λD L T=>N D (Moved.trans W.gtrans ((f.mono U).then_heap (MA _) λb o V e=>(M.2 b (λh=>V (h▸fp))).trans e) L) T⟩
end
section
variable{z:Ow}{w:MY}{A:MQ}{s:ow}
def jP(z:Ow)(w:MY)(s:ow)(y:cp Lj)(Y:ow):Prop:=
 ∃Q U,Y={ s with heap:=Q,toks:=U }/\ip z w Q s.heap.objs.size y/\∀b o,s.heap.get? b=aM o->Q.get? b=aM o
theorem lM(h:RD Q y):Q.length=y.length:=by
 induction h with
 | nil=>rfl
 | cons _ _ _ Y=>exact dd Pj Y
abbrev rA(led:LG):Obj:={ cls:=.type "set",dict:=none,data:=.set #[] 0 (.fresh 0 0 led) }
def zN{ai:Mv rr}(N:A.handled=none)(a:s.heap.IsList l ai)(C:RD ai.toList L)(D:ai.size<Ro){R:U4->ow->Prop}
(h:∀y,jP z w s L y->R (.done (.ret .none)) y) :
  rl (Lg z w) A.in1 (PB.«set.__init__» ⟨[.ref s.heap.objs.size,.ref l],[]⟩) R E { s with heap:=s.heap.push (rA led) }:=by
 have I:(s.heap.push (rA led)).get? s.heap.objs.size=aM (rA led):=Lv _ rfl
 refine i6 (id a) λY U V M k=>?_;obtain⟨c,d,Z,sl⟩:=Y
 dsimp only at V k
 subst V k
 have j:=Lh (rA led) U
 have B:=F.sub_list_set
 have n:=F.sub_list_frozenset
 have m:(Mw "list"==Mw "dict")=false:=by decide
 have J:(s.heap.push (rA led)).IsList l ai:=⟨_,j,rfl,M,rfl⟩
 unfold PB.«set.__init__» noKeywords Builtin.Frozenset.updateFrom
 generalize t:UR=PI
 wp_walk
 subst t
 refine SX J (ec (TV ?_))
 have O:l<s.heap.objs.size:=LX U
 have Q:s.heap.objs.size<(s.heap.push (rA led)).objs.size:=M0 s.heap (rA led)▸Lz _
 have p:L.length=ai.size:=(lM C).symm
 refine zM ((Walks.list (A:=A.in1.in1) N _ l (Lu (Mj O Q)) ai).toS) (S:=s.heap.objs.size) (λh=>(ta.mp h).elim (Lu Q) λh=>MW O (n2.mp h))
  (λi v r=>tm C (Mk▸r)) (p▸D) p ai.size 0 _ (OQ _) ⟨⟨_,Lv _ rfl,rfl,rfl⟩,J.push _⟩
  (.mk (Lh _ I) ⟨rfl,rfl,rfl⟩ rfl ⟨(λe P=>nomatch P),LR,λζ=>Iff.rfl,Lp _⟩ (by decide) rfl λh=>p7 rfl h) λy g T=>?_
 refine pe (pe (h _ ⟨y.heap,y.toks,?_,T,λb o e=>?_⟩))
 ·obtain⟨h',S,W,X,x⟩:=y
  obtain rfl:S=s.gens:=g.gens
  obtain rfl:W=s.drawn:=g.drawn
  obtain rfl:x=s.os:=g.os
  rfl
 ·have f:=LX e
  exact g.heap b o (λq=>(ta.mp q).elim (Lu f) λq=>Lu (Mj f Q) (n2.mp q)) (Lh _ (Lh _ e))
set_option maxRecDepth 100000 in
set_option maxHeartbeats 3200000 in
theorem pg{ai:Mv rr}{Q:rr->ow->Prop}(C:A.handled=none)(b:s.heap.IsList l ai)(B:RD ai.toList k)(n:ai.size<Ro)
(h:∀s',jP z w s k s'->Q (.ref s.heap.objs.size) s'):rl (Lg z w) A (call (.type "set") [.ref l]) Q E s:=by
 refine oEE Pd.mro λc d T=>?_
 have g:=Pd.made
 have x:=Pd.sub
 refine SJ (codeAny_of_tree ?_)
 show rl _ _ (callAny (.type "set") _) _ _ _
 refine pe ⟨Code.quiet_builtin _ (by decide +kernel),Pt F.entry_type_call ?_⟩
 rw[Zh (weight_type_call_type "set" [.ref l] []) rfl]
 have m:=Pd.notType
 have i:=Pd.canCreate
 have N:=F.typeCall_set_1 (.ref l)
 repeat (any_goals (first | assumption | wp_step))
 refine X6 (code_set_new_1 (.ref l) (E:=E) (Q₁:=λj v=>∃U:LG,j=.ref s.heap.objs.size/\v={ s with heap:=s.heap.push (rA U) }) λU=>⟨U,rfl,rfl⟩) λr v L=>?_
 cases r with
 | error e=>exact L
 | ok a=>
  cases a with
  | ret j=>
   refine oEA L λU J o=>?_;subst J;subst o
   have D:Shared.TypeIs { s with heap:=s.heap.push (rA U) } (.ref s.heap.objs.size) "set":=⟨_,Lv _ rfl,rfl⟩
   have I:=Pd.init.lookup
   have M:=Pd.init.bind (.ref s.heap.objs.size)
   repeat (any_goals (first | assumption | wp_step))
   refine X6 (codeAny_call_builtin (R:=wants (λr y=>r=.none/\jP z w s k y) E) Pd.init.plain F.entry_set_init (check_set_init_1 D (zN (led:=U) (A:=A.in1) (R:=λf s'=>match f with | .done f=>wants (λr y=>r=LM/\jP z w s k y) E (.ok f) s' | .again c=>c.quiet=true/\UX (Lg z w) A.in1 c (wants (λr y=>r=LM/\jP z w s k y) E) s') C b B n λs' t=>⟨rfl,t⟩))) λO y Y=>?_
   cases O with
   | error e=>exact Y
   | ok V=>
    cases V with
    | ret r=>
     refine oA Y λp t=>?_;subst p
     repeat (any_goals (first | assumption | wp_step))
     exact h _ t
    | _=>exact Y.elim
  | _=>exact L.elim
end
def tq:Manifest.owners.lookup (String.ofList ['r','o','t','a','r','e','t','i','_','t','e','s'].reverse)=aM Manifest.sig_set_iterator:=by kernel_rfl
def dQ:Slot "set_iterator" "__next__" "set_iterator.__next__":=
 .of (owner:="set_iterator") (n:="__next__") (by rw[WZ,Vg];kernel_rfl) (by decide +kernel) (by decide +kernel) (by decide +kernel)
  (by first | exact .inl (by decide +kernel) | exact .inr (by decide +kernel)) (by rw[OO];kernel_rfl)
def ph:XB table "set_iterator.__next__"=aM PB.«set_iterator.__next__»:=entryFor_of_tree (by kernel_rfl)
def rB(a:rr):XD "set_iterator.__next__" ⟨[a],[]⟩:=by
 unfold XD;rw[XK (id:="set_iterator.__next__") (n:=['_','_','t','x','e','n','_','_']) (o:=['r','o','t','a','r','e','t','i','_','t','e','s']) (by kernel_rfl) tq];kernel_rfl
def jQ:Slot "set_iterator" "__iter__" "set_iterator.__iter__":=
 .of (owner:="set_iterator") (n:="__iter__") (by rw[WZ,Vg];kernel_rfl) (by decide +kernel) (by decide +kernel) (by decide +kernel)
  (by first | exact .inl (by decide +kernel) | exact .inr (by decide +kernel)) (by rw[OO];kernel_rfl)
def nI:XB table "set.__iter__"=aM PB.«frozenset.__iter__»:=
 XA (id':="frozenset.__iter__") (by kernel_rfl) rfl (by decide +kernel) (by kernel_rfl)
def rC{n:ki}{Q:ki->ow->Prop}(w:n≠0)(h:∀i d,i<n->Q i { s with drawn:=d }):rl M A (choose z n) Q E s:=
 λy y y=>⟨w,h _ _ (XF _ (Nd w))⟩
theorem nJ{w:Type}{z:cp w}:∀{i:ki} (Q:i<z.length),(z[i]::z.eraseIdx i).Perm z:=by
 induction z with
 | nil=>exact λQ=>p7 Q (MD _)
 | cons x z y=>
  intro i Q
  cases i with
  | zero=>exact .refl _
  | succ i=>exact(X9 _ _ _).trans ((y (Ny Q)).cons x)
theorem uV{V:Type}(n:ki):∀{xs:cp V} {s:ow} {Q:cp V->ow->Prop},xs.length=n->(∀U d,U.Perm xs->Q U { s with drawn:=d })->rl (Lg z w) A (WE n xs) Q E s:=by
 induction n with
 | zero=>
  intro xs s Q Y h
  obtain rfl:=Mq Y
  exact pe (h [] s.drawn .nil)
 | succ n k=>
  intro xs s Q Y h
  cases xs with
  | nil=>cases Y
  | cons x xs=>
   have j:(x::xs).length≠0:=MK _
   show rl _ A (choose .order (x::xs).length >>= λi=>match (x::xs)[i]? with | some y=>(do return y::(← WE n ((x::xs).eraseIdx i))) | none=>unsupported "internal:drawOrder") Q E s
   refine ec (rC j λi d v=>?_)
   rw[o2 v]
   refine ec (k (by rw[Tf v];exact Ud Y) λU J o=>pe (h _ J ((o.cons _).trans ?_)))
   exact(nJ v)
theorem C0{y:Type}(n:ki):∀{k:ki} {l:cp y} {z:Mv y},l.length=n->(pickOrder.go f n k l z).toList.Perm (z.toList++l):=by
 induction n with
 | zero=>
  intro k l z Q
  obtain rfl:=Mq Q
  rw[Mp]
  exact .refl _
 | succ n Y=>
  intro k l z Q
  have w:f k % l.length<l.length:=XF _ (Q▸MO n)
  rw[show pickOrder.go f (n+1) k l z=(l[f k % l.length]?).elim z λx=>pickOrder.go f n (k+1) (l.eraseIdx (f k % l.length)) (z.push x) from by kernel_rfl,o2 w]
  refine(Y (by rw[Tf w];exact Ud Q)).trans ?_
  rw[Ov,M9]
  exact(nJ w).append_left _
def xP{z:Type}{xs:Mv z}:(Sj f xs).toList.Perm xs.toList:=C0 xs.size (Oe ..)
inductive Way(w:MY)(h:M7)(S T:LZ)(es:Mv (Nj×rr))(ep:ki)(L:cp rr):rr->Prop
 | text:w.params.followText "set-order"=true->L=(Sj (w.params.setOrder S ep) es).toList.map (·.2)->Way w h S T es ep L (Nx 0)
 | drawn {o:P0} {ps:Mv rr} {n:ki}:h.get? T=aM o->o.data=.seq ps n->ps.size=L.length->(∀(j:ki) (x:rr),L[j]?=aM x->∃(p:ki) (y:Nj),ps[j]?=aM (Nx p)/\es[p]?=aM (y,x))->Way w h S T es ep L (.ref T)
inductive SIt(w:MY)(I S T:LZ)(L:cp rr)(i:ki)(h:M7):Prop
 | mk {o:P0} {es:Mv (Nj×rr)} {ep:ki} {t:T9} {first:rr} (ho:h.get? S=aM o) (hd:o.data=.set es ep t) (hf:t.fits es.size=true)
  (hI:h.get? I=aM { cls:=.type "set_iterator",data:=.fields #[first,Nx i,.ref S,Nx es.size,Nx ep] }) (hL:L.length=es.size) (hw:Way w h S T es ep L first):SIt w I S T L i h
theorem Way.ay{h':M7}(x:Way w h S T z Q L v)(k:∀o,h.get? T=aM o->h'.get? T=aM o):Way w h' S T z Q L v:=by
 cases x with
 | text a b=>exact .text a b
 | drawn a b c d=>exact .drawn (k _ a) b c d
section
variable{z:Ow}{w:MY}{A:MQ}{s:ow}{T:LZ}{L:cp rr}
def SIt.ay{h':M7}(x:SIt w I S T L i h)(k:∀b∈[I,S,T],∀o,h.get? b=aM o->h'.get? b=aM o):SIt w I S T L i h':=
 by
 obtain⟨Q,y,Y,U,v,V⟩:=x
 exact⟨k S (oo _ fp) _ Q,y,Y,k I fp _ U,v,V.ay λo=>k T (oo _ (oo _ fp)) o⟩
def SIt.ne(x:SIt w I S T L i s.heap):S≠I:=λe=>by
 obtain⟨y,Y,U,Q,v,V⟩:=x
 subst e
 rw[y] at Q;cases Q;cases Y
def SIt.typeIs(x:SIt w I S T L i s.heap):s.TypeIs (.ref I) "set_iterator":=by obtain⟨y,Y,U,Q,v,V⟩:=x;exact⟨_,Q,rfl⟩
def mv{Q:LG->ow->Prop}(y:w.params.followText "set-order"=b)(h:Q b s):rl (Lg z w) A Yz Q E s:=by
 unfold Yz
 exact ec (Tn (pe (show Q (w.params.followText "set-order") s from y.symm▸h)))
def wD{Q:rt rr->ow->Prop}(v:A.handled=none)(V:P2 I U s.heap)(h:∀y,P2 I U y->Q none { s with heap:=y }) :
  rl (Lg z w) A.in1 (do raiseNew (← YB (.type "StopIteration") [])) R (λe k=>rl (Lg z w) A (do if (← isInstance e (.type "StopIteration")) then pure none else throw e) Q E k) s:=by
 exact mZ (A:=A.in1) v V λy e Y j=>ec (Tj (T:="StopIteration") (b:=true) j isSubtype_stop (pe (h _ Y)))
def wE{Q:rt rr->ow->Prop}(D:A.handled=none)(X:SIt w I S T L i s.heap)(l:T≠I)(F:∀x,L[i]?=aM x->∀Y,SIt w I S T L (i+1) Y->Pz I s.heap Y->Q (aM x) { s with heap:=Y })
(M:L[i]?=none->∀Y,P2 I s.heap Y->Q none { s with heap:=Y }):rl (Lg z w) A (UQ (.ref I)) Q E s:=by
 have C:=X.ne
 have h:=X.typeIs
 obtain @⟨o,g,v,t,first,j,J,O,U,P,m⟩:=X
 have f:∀x,L[i]?=aM x->∀Y,Pz I s.heap Y->Y.get? I=aM { cls:=.type "set_iterator",data:=.fields #[first,Nx (i+1:ki),.ref S,Nx g.size,Nx v] }->Q (aM x) { s with heap:=Y }:=λx V Y B n=>
  F x V Y ⟨(B.2 S C).trans j,J,O,n,P,m.ay λo e=>(B.2 T l).trans e⟩ B
 unfold UQ
 refine ec (wpAny_attempt (Nh (name:=Li "__next__") h dQ (ML dQ h ph ?_ (rB _))))
 show rl _ _ (fieldsOf (.ref I) >>= _) _ _ s
 refine ec (wpAny_fieldsOf U rfl ?_)
 show rl _ _ (setEntries S >>= _) _ _ s
 refine ec (VU j J O ?_)
 rw[E1 (by simp)]
 cases m with
 | text r e=>
  have N:L[i]?=((Sj (w.params.setOrder S v) g)[i]?).map (·.2):=e▸Mg.trans (dd _ Mk)
  show rl _ _ (setNext S 0 i v >>= _) _ _ s
  refine ec ?_
  unfold setNext
  refine ec (PS j J O (ec (mv r ?_)))
  dsimp only
  rw[K2 rfl,E1 (by simp)]
  refine ec ?_
  unfold setWalk
  refine ec (PS j J O (ec (mv r ?_)))
  rw[K2 rfl]
  refine ec (Tn (pe (pe ?_)))
  show rl _ _ (match ((Sj (w.params.setOrder S v) g)[i]?).map λe:Nj×rr=>(e.2,0) with | some (x,next)=>_ | none=>_) _ _ _
  generalize (Sj (w.params.setOrder S v) g)[i]?=y at N ⊢
  cases y with
  | some y=>
   have k:=LN (RQ (·.setIfInBounds 0 (Nx (0:ki)))) U rfl
   show rl _ _ (setField (.ref I) 0 (Nx (0:ki)) >>= _) _ _ s
   exact ec (Od U rfl (by simp) (ec (Od k rfl (by simp) (pe ⟨_,rfl,pe (f _ N _ ((Mx ..).trans (Mx ..)) (LN _ k rfl))⟩))))
  | none=>
   show rl _ _ (setField (.ref I) 2 .none >>= _) _ _ s
   exact ec (Od U rfl (by simp) (wD D (Mx ..).extBut (M N)))
 | drawn a b c d=>
  show rl _ _ (Rn (.ref T) >>= _) _ _ s
  refine ec (QK a b ?_)
  dsimp only
  rw[show((i:Nj).toNat)=i from rfl]
  cases V:L[i]? with
  | some x=>
   refine eC (d i x V) λp y k R=>?_
   rw[k]
   show rl _ _ (XX S p v >>= _) _ _ s
   refine ec ?_
   unfold XX
   refine ec (PS j J O ?_)
   dsimp only
   rw[E1 (by simp),R]
   exact pe (ec (Od U rfl (by simp) (pe ⟨_,rfl,pe (f x V _ (Mx ..) (LN _ U rfl))⟩)))
  | none=>
   rw[OM (c▸LS.mp V)]
   have k:=LN (RQ (·.setIfInBounds 0 (Nx 0))) U rfl
   exact ec (Od U rfl (by simp) (ec (Od k rfl (by simp) (wD D ((Mx ..).trans (Mx ..)).extBut (M V)))))
end
section
variable{w:MY}{s:ow}{S:LZ}{ks:cp Lj}
structure C1(L:cp rr)(l:cp Lj):Prop where
 nd:(L.map Sz).Nodup
 mem:∀x,x∈L.map Sz↔x∈l
 str:∀v∈L,∃t,v=.str (Sz v) t
 le:L.length<=l.length
theorem F9{z:Type}{l:cp z}{a b:z}(Q:a∈l)(y:b∈l)(h:a≠b):2<=l.length:=by
 cases l with
 | nil=>exact nomatch Q
 | cons x l=>
  cases l with
  | nil=>exact p7 ((n2.mp Q).trans (n2.mp y).symm) h
  | cons=>exact OV 2 _
structure Kk(w:MY)(s:ow)(S:LZ)(ks:cp Lj)(I T:LZ)(L:cp rr)(h:M7):Prop where
 it:SIt w I S T L 0 h
 ti:T≠I
 tn:T=S∨s.heap.objs.size<=T
 p:C1 L ks
 new:s.heap.objs.size<=I
 k:∀b o,s.heap.get? b=aM o->h.get? b=aM o
def tt(h:ElS Y w z l){L:cp rr}(p:L.Perm (z.toList.map (·.2))):C1 L l:=
 have q:(L.map Sz).Perm (uU z.toList):=(p.map Sz).trans (Uo Nt)
 ⟨q.nodup_iff.mpr h.nd,λx=>q.mem_iff.trans (h.mem x),λv Q=>(p9.mp (p.mem_iff.mp Q)).elim λe r=>r.2▸h.is r.1,cy (p8 (p.length_eq.trans (h7 _))) h.le⟩
theorem C2{Q:rr->ow->Prop}(H:ip Y w s.heap S ks){y z:Lj}(P:y∈ks)(G:z∈ks)(a:y≠z)(R:∀W I T L d,Kk w s S ks I T L W->Q (.ref I) { s with heap:=W,drawn:=d }):rl (Lg Y w) A (UR (.ref S)) Q E s:=by
 obtain @⟨o,U,X,t,V,B,J,v,u,O,N⟩:=H
 have Z:s.TypeIs (.ref S) "set":=⟨o,V,B.1⟩
 have q:2<=U.size:=cy (F9 ((v.mem y).mpr P) ((v.mem z).mpr G) a) (p8 (h7 _))
 have D:=LX V
 refine Wj Z Ww (ML Ww Z nI ?_ (F.args_set_iter_1 _))
 show rl _ _ (do
  let n ← Builtin.Frozenset.sizeOf S
  let first ← if ← setDrawn S then newTuple ((← WE n (Lk n)).map λ(i:ki)=>Nx i) else pure (Nx 0)
  ret (← Y1 "set_iterator" [first,Nx 0,.ref S,Nx n,Nx (← setEpoch S)])) _ _ s
 refine ec (ec (VU V J O (pe ?_)))
 refine ec ?_
 unfold setDrawn
 refine ec (PS V J O ?_)
 cases M:w.params.followText "set-order" with
 | true=>
  refine ec (mv M (pe ?_))
  dsimp only
  rw[E1 (by simp)]
  refine ec (pe (ec (Wi V J O (ec (Og (pe ⟨_,rfl,"set_iterator",_,⟨_,Lv _ rfl,rfl⟩,dQ.lookup,?_⟩))))))
  have N:=xP (f:=w.params.setOrder S X) (xs:=U)
  have h:=tt v (N.map _)
  exact R _ _ S ((Sj (w.params.setOrder S X) U).toList.map (·.2)) s.drawn ⟨⟨Lh _ V,J,O,Lv _ rfl,by rw[h7,N.length_eq,Oe],.text M rfl⟩,Lu D,.inl rfl,h,Lf _,λb o=>Lh _⟩
 | false=>
  refine ec (mv M ?_)
  show rl _ _ (pure (!false&&(!t.plain&&decide (U.size>1)))) _ _ s
  rw[N (RT P),Ln (show U.size>1 from q)]
  refine pe ?_
  dsimp only
  rw[K2 (by decide)]
  refine ec (uV U.size LJ λf d k=>?_)
  have g:f.length=U.size:=k.length_eq.trans LJ
  refine ec (Xs ?_ (by rw[h7,g];exact S6 u))
  have l:=Lh { cls:=.type "tuple",data:=.seq (f.map λ(i:ki)=>Nx i).toArray } V
  refine ec (Wi l J O (ec (Og (pe ⟨_,rfl,"set_iterator",_,⟨_,Lv _ rfl,rfl⟩,dQ.lookup,?_⟩))))
  have K:(s.heap.push { cls:=.type "tuple",data:=.seq (f.map λ(i:ki)=>Nx i).toArray }).objs.size=s.heap.objs.size+1:=M0 _ _
  have m:(f.map λp=>(U.toList.getD p (0,LM)).2).Perm (U.toList.map (·.2)):=by
   have:=k.map λp=>(U.toList.getD p (0,LM)).2
   refine this.trans (Uo ?_)
   exact Oe (xs:=U)▸(Nt (f:=λp=>U.toList.getD p (0,LM)) (g:=λe:Nj×rr=>e.2) (l:=Lk U.toList.length)).symm.trans (dd (Px _) (th U.toList (0,LM)))
  have h:=tt v m
  refine R _ _ s.heap.objs.size (f.map λp=>(U.toList.getD p (0,LM)).2) d ⟨⟨Lh _ l,J,O,Lv _ rfl,by rw[h7,g],.drawn (Lh _ (Lv _ rfl)) rfl (by rw[h7,Pv,h7]) λj x B=>?_⟩,K▸Lu (Lz _),.inr (Lf _),h,K▸MA _,λb o e=>Lh _ (Lh _ e)⟩
  rw[Mg] at B
  refine oEA (Me.mp B) λp c C=>?_;subst C
  have r:p<U.size:=LI.mp (k.mem_iff.mp (od c))
  refine⟨p,U[p].1,by rw[Uh,Mg,c];rfl,?_⟩
  rw[Qt,Mk,NF r]
  rfl
end
def pi:XB table "set_iterator.__iter__"=aM PB.«dict_keyiterator.__iter__»:=
 XA (id':="dict_keyiterator.__iter__") (by kernel_rfl) (by first | rfl | decide +kernel | (unfold String.splitOn;simp +decide [String.splitOnAux])) (by decide +kernel) (by kernel_rfl)
def rD(a:rr):XD "set_iterator.__iter__" ⟨[a],[]⟩:=by
 unfold XD;rw[XK (id:="set_iterator.__iter__") (n:=['_','_','r','e','t','i','_','_']) (o:=['r','o','t','a','r','e','t','i','_','t','e','s']) (by kernel_rfl) tq];kernel_rfl
section
variable{w:MY}{A:MQ}{s:ow}{T:LZ}{L:cp rr}
def C3(O:A.handled=none)(y:T≠I):WalksS Y w A I [I,S,T] [I] (λa b=>b=a) L.length (λi v=>L[i]?=aM v) (λi s=>SIt w I S T L i s.heap) where
 sub:=λb U=>ta.mpr (.inl (n2.mp U))
 grefl:=λz=>rfl
 gtrans:=λz z z f g=>g.trans f
 frame:=λi s p z st z l=>st.ay l
 item:=λi s Q E t st V=>wE O st y (λx k p j J=>V _ _ k j ⟨λb o U e=>(J.2 b λq=>U (n2.mpr q)).trans e,rfl,rfl,rfl,Lf _⟩) λc=>p7 t (Os.mpr (LS.mp c))
 done:=λs Q E st V=>wE O st y (λx k=>p7 (kO.mp k).1 (MR _)) λz p J=>V _ ⟨λb o U e=>J b o (λq=>U (n2.mpr q)) e,rfl,rfl,rfl,Lf _⟩
 self:=λi s Q E st V=>Wj st.typeIs jQ (ML jQ st.typeIs pi (by show rl _ _ (ret (.ref I)) _ _ s;exact pe ⟨_,rfl,"set_iterator",_,st.typeIs,dQ.lookup,V⟩) (rD _))
def tx{Q:cp rr->ow->Prop}(hh:A.handled=none)(Z:ip Y w s.heap S J){y z:Lj}(hy:y∈J)(hz:z∈J)(N:y≠z)(hl:J.length<=VA)
(hQ:∀(L:cp rr) O d tk,C1 L J->(∀b o,s.heap.get? b=aM o->O.get? b=aM o)->Q L { s with heap:=O,drawn:=d,toks:=tk }):rl (Lg Y w) A (X5 (.ref S)) Q E s:=by
 have V:S<s.heap.objs.size:=by obtain⟨a,_,_,_,_,_,_⟩:=Z;exact LX a
 unfold X5
 refine ec (TV (Pt F.entry_proto_collect ?_))
 rw[O0 F.plain_proto_collect _]
 show rl _ A.in1 (Wq [] >>= λl=>again (.builtin "list.__iadd__" ⟨[l,.ref S],[]⟩)) _ _ s
 refine ec (Og ?_)
 refine pe ⟨Ut V4 _,Pt F.entry_list_iadd ?_⟩
 rw[O0 V4 _]
 have D:∀b o,s.heap.get? b=aM o->(s.heap.push { cls:=.type "list",data:=.seq ([]:cp rr).toArray }).get? b=aM o:=λb o=>Lh _
 have K:(s.heap.push { cls:=.type "list",data:=.seq ([]:cp rr).toArray }).get? s.heap.objs.size=aM { cls:=.type "list",data:=.seq ([]:cp rr).toArray }:=Lv _ rfl
 have M:(s.heap.push { cls:=.type "list",data:=.seq ([]:cp rr).toArray }).objs.size=s.heap.objs.size+1:=M0 _ _
 generalize s.heap.push { cls:=.type "list",data:=.seq ([]:cp rr).toArray }=H at D K M ⊢
 have p:ip Y w H S J:=Z.at λo=>D S o
 have G:Shared.TypeIs { s with heap:=H } (.ref S) "set":=by obtain⟨a,hx,_,_,_,_,_⟩:=p;exact⟨_,a,hx.1⟩
 show rl _ A.in1 (RP (.ref s.heap.objs.size) (.ref S) (.ref s.heap.objs.size)) _ _ _
 unfold RP
 refine ec (SW G ?_)
 have h1:So (.ref s.heap.objs.size) (.ref S)=false:=by simp[So,MW V]
 have h3:(Mw "set"==Mw "list")=false:=by decide
 have h4:(Mw "set"==Mw "tuple")=false:=by decide
 simp only[h1,h3,h4,Bool.or_false,Qv,T7]
 refine ec (C2 p hy hz N λO I T L d X=>?_)
 have k:Shared.TypeIs { s with heap:=O,drawn:=d } (.ref S) "set":=G.imp λζ h=>⟨X.k _ _ h.1,h.2⟩
 refine ec (Mc ?_)
 unfold Xn
 refine ec (Oh k F.slot_set_len.lookup ?_)
 (generalize f:("set.__len__":RE)=m;wp_delta;rw[show splitId m=aM ("set","__len__") from by subst f;decide +kernel];subst f)
 refine ec (Tj (b:=true) k (by rw[OO];kernel_rfl) ?_)
 rw[E1 (by decide)]
 refine ec (SW k ?_)
 refine pe ?_
 rw[K2 (by decide)]
 refine ec (Np (ec ?_))
 have g:=X.k _ _ K
 show rl _ A.in1 (YY s.heap.objs.size (·.push .none) >>= λζ=>YY s.heap.objs.size (·.pop)) _ _ _
 refine ec (WW g rfl ?_)
 have t:=LN (M6 (·.push LM)) g rfl
 refine WW t rfl ?_
 have i:=LN (M6 (·.pop)) t rfl
 have x:∀b o,b≠s.heap.objs.size->O.get? b=aM o->((O.update s.heap.objs.size (M6 (·.push LM))).update s.heap.objs.size (M6 (·.pop))).get? b=aM o:=
  λb o U e=>(MF _ _ (Ma U)).trans ((MF _ _ (Ma U)).trans e)
 have u:s.heap.objs.size<I:=rf (Lz _) (cy (p8 M.symm) X.new)
 have nf:∀b∈[I,S,T],b≠s.heap.objs.size:=λb U e=>by
  subst e
  rcases ta.mp U with e | U
  ·exact Lu u e
  ·rcases ta.mp U with e | U
   ·exact MW V e
   ·have e:=n2.mp U
    rcases X.tn with q | q
    ·exact MW V (e.trans q)
    ·exact Lu (rf (Lz _) (cy (p8 M.symm) q)) e
 refine pe ⟨Ut F.plain_extend_loop _,codeAny_extend_loopS (C3 (T:=T) (S:=S) (L:=L) (A:=A.in1) hh X.ti) (cy X.p.le hl) s.heap.objs.size (λh=>nf _ h rfl) _ L.length 0 _ _ _ (Uc _) (Lp _)
  (X.it.ay λb U o=>x b o (nf b U)) i (ItemsOf.nil _) λs' C c B r v=>?_⟩
 obtain⟨P,g',d',R,W⟩:=s'
 obtain rfl:g'=s.gens:=B.gens
 obtain rfl:d'=d:=B.drawn
 obtain rfl:W=s.os:=B.os
 refine ec (Yw r (pe ?_))
 have hq:C.toList=L:=Sl λj=>by
  rw[Mk]
  by_cases n:j<C.size
  ·rw[v.2 j _ (NF n)];exact NF n
  ·rw[OM (Os.mp n),Md (v.1▸Os.mp n)]
 erw[hq]
 refine hQ L P d' R X.p λb o e=>B.heap b o (λq=>?_) (x b o (Lu (LX e)) (X.k _ _ (D _ _ e)))
 have U:=LX e
 exact(ta.mp q).elim (Lu U) λq=>Lu (Mj U u) (n2.mp q)
end
def iq:gA (λy=>y.is .str=true) where
 total:=λx y Q w=>il rfl Q w
 trans:=λx y z Q w Y=>im rfl Q w Y
 F8:=λx y Q w=>fO rfl Q w
theorem nK(l:cp CV):(eY l).Nodup/\∀x,x∈eY l↔x∈l:=by
 induction l with
 | nil=>exact⟨LR,λQ=>Iff.rfl⟩
 | cons x l z=>
  show(if x∈eY l then eY l else x::eY l).Nodup/\∀y,y∈(if x∈eY l then eY l else x::eY l)↔_
  by_cases h:x∈eY l
  ·rw[K2 h]
   exact⟨z.1,λy=>(z.2 y).trans ⟨oo _,λq=>(ta.mp q).elim (λe=>e▸(z.2 x).mp h) id⟩⟩
  ·rw[E1 h]
   exact⟨Mf.mpr ⟨h,z.1⟩,λy=>by rw[ta,ta,z.2 y]⟩
def zO(x:RVs h Q l):(∀y∈l,y.is .str=true)->∃z,l=z.map CV.str/\RD Q z:=
 x.ind (P:=λQ l=>(∀y∈l,y.is .str=true)->∃z,l=z.map CV.str/\RD Q z) (λo=>⟨[],rfl,.nil⟩) λ{v c Q l} a b k V=>by
  refine oEA (k λy j=>V y (oo _ j)) λz w J=>?_;subst w
  refine oE (eH (V c fp)) λs Y=>?_;subst Y
  refine oE a.c λt U=>?_;subst U
  exact⟨s::z,rfl,.cons s t J⟩
theorem zP{z:cp rr}:(∀v∈z,∃t,v=.str (Sz v) t)->RVs h z ((z.map Sz).map CV.str):=by
 induction z with
 | nil=>exact λY=>.nil
 | cons v z w=>
  intro Q
  refine oE (Q v fp) λt e=>?_
  refine .cons ?_ (w λu y=>Q u (oo _ y))
  rw[e];exact .str _ _
def C4{L:cp rr}(h:2<=L.length)(k:RD L z):S5 L.toArray=pure oneType':=by
 rcases L with _ | ⟨_,_ | _⟩
 ·exact p7 h (by decide)
 ·exact p7 h (P3 1)
 ·exact keyKind_strs k
section
variable{g:G}{w:OR}{Y:cp (Lj×ki)}
def ES.bS(O:g.Ok)(F:g.hd=true){cx:CE}{e:LF}(hk:w.kindOf "sorted"=aM .globalImplicit)(f:P9 g.K LU "sorted"=aM none)(Z:w.kindOf "set"=aM .globalImplicit)(K:P9 g.K LU "set"=aM none)(hs:[e].all aW=true)
(h:ESs g w Y [cx] (MV (M1 J (Ml [e] w)))):ES g w Y (.b1 .bS cx) (Mb (.Call (.Name "sorted" np) [.Call (.Name "set" S) [e] [] J] [] W) w):=by
 intro A Pr s st Q X P E H R hw hP hE
 have z3:=H.units
 have hh:=H.handled F
 refine Call_name1 rfl (bT (v:=.builtin "sorted") O R hk (by decide) (by decide) f rfl (callWith_builtin1 ?_))
 refine SF (bT (v:=.type "set") O R Z (by decide) (by decide) K rfl ?_)
 refine iP hs (h.mW H R hw (λv c s' G f R' ζ ζ hq=>?_) hE)
 refine yt hq λa l T hl j o B V=>?_;subst T;obtain⟨y,n,z,hz,z0⟩:=B
 obtain rfl:v=.ref a:=f.c
 refine aA (R'.H.cr hl) λvs h1 h2 h3=>?_
 refine oEA (zO h2 o) λss N I=>?_;subst N
 have z1:vs.size=ss.length:=by rw[← Oe];exact lM I
 rw[h7] at j
 refine pg hh h1 I (z1▸Mj j (by decide)) λs1 ⟨h',tk,e1,hS,kp⟩=>?_
 subst e1
 refine oEA (p9.mp n) λy my M=>?_;subst M
 refine oEA (p9.mp hz) λz mz m=>?_;subst m
 have R1:=R'.ext (s':={ s' with heap:=h',toks:=tk }) kp rfl rfl
 refine lL (C:=λL s2=>C1 L ss/\Rep g Pr w Y s2 G) (λhB V=>tx (hB.trans hh) hS my mz (λe=>z0 (dd CV.str e)) (Qi▸cy (y1 j) (by decide)) λL h2 d z2 p k=>V _ _ ⟨p,R1.ext (s':={ s' with heap:=h2,drawn:=d,toks:=z2 }) k rfl rfl⟩) λL s2 ⟨p,R2⟩=>?_
 have U:∀y∈(L.map Sz).map CV.str,y.is .str=true:=λy n=>(p9.mp n).elim λx q=>o y (p9.mpr ⟨x,(p.mem x).mp q.1,q.2⟩)
 refine nH (κ:=oneType') iq U (zP p.str) (eF (p8 ((h7 _).trans (h7 _))) (eF p.le j)) (λhn s3 r Q hQ=>C4 hn (strsAre_map L λv f=>(p.str v f).elim λt e=>⟨_,t,e⟩)▸pe hQ) (λu v c d s3 hc hd hu f C hC=>nG (k:=.str) (b:=true) rfl hu f (U c hc) (U d hd) hC) R2 λD s3 R3 hf=>?_
 have i:((L.map Sz).map CV.str).Perm (eY (ss.map CV.str)):=(Qr (Rf _ (λa b (q:a≠b) e=>q (CV.str.inj e)) p.nd) (nK _).1).mpr λx=>
  p9.trans ((X3 λy=>and_congr_left λζ=>p.mem y).trans (p9.symm.trans ((nK _).2 x).symm))
 exact hP _ _ s3 _ (.ref D) (eN iq (λy n=>U y (i.mem_iff.mpr n)) ((bW _).trans i) (gB iq U)▸R3) (V _ hf)
end
def zQ{n:Lj}{v:rr}{l:cp (Lj×rr)}:((n,v)::l).lookup n=aM v:=NK.trans (dd (λb=>match b with | true=>aM v | false=>l.lookup n) (Pi n))
def wF{l:cp (Lj×rr)}(h:n≠m):((m,v)::l).lookup n=l.lookup n:=NK.trans (dd (λb=>match b with | true=>aM v | false=>l.lookup n) (Om.mpr h))
theorem lX{n:Lj}{Q:cp Lj}:∀{z:cp rr},n∉Q.take z.length->(Q.zip z).lookup n=none:=by
 induction Q with
 | nil=>exact λy=>rfl
 | cons p Q w=>
  intro z h
  cases z with
  | nil=>rfl
  | cons v z=>exact(wF (ne_of_not_mem_cons (show n∉p::Q.take z.length from h))).trans (w (not_mem_of_not_mem_cons (show n∉p::Q.take z.length from h)))
theorem gQ{n:Lj}{Q:cp Lj}:∀{z:cp rr},n∈Q.take z.length->((Q.zip z).lookup n).isNone=false:=by
 induction Q with
 | nil=>exact λh=>p7 (Wb▸h) Le
 | cons p Q w=>
  intro z h
  cases z with
  | nil=>exact p7 h Le
  | cons v z=>
   by_cases e:n=p
   ·subst e;exact dd RG zQ
   ·exact(dd RG (wF e)).trans (w ((ta.mp h).resolve_left e))
theorem nM(h:n≠m)(l:cp (Lj×rr)):(l++[(m,v)]).lookup n=l.lookup n:=by
 induction l with
 | nil=>exact wF h
 | cons x l z=>(erw[Vq];erw[NK];erw[NK];exact LH z rfl)
def wG(x:Lj×rr)(t:cp (Lj×rr)):Sem (O2 (cp (Lj×rr))):=if (QD x.fst t).isNone=true then pure (OI (t++[(x.fst,x.snd)])) else pure (OI t)
theorem uW(l:cp (Lj×rr)):∀(z:cp (Lj×rr)),(l.map (·.1)).Nodup->forIn l z wG=pure (z++l.filter λx=>(z.lookup x.1).isNone):=by
 induction l with
 | nil=>exact λz U=>forIn_nil.trans (dd pure (Mp z).symm)
 | cons x l Q=>
  intro z h
  have h:=Mf.mp h
  rw[SR]
  cases e:(QD x.1 z).isNone with
  | true=>
   (rewrite[wG];erw[K2 e];erw[pure_bind _ _];erw[NY (p:=λy:Lj×rr=>(z.lookup y.1).isNone) e])
   refine(Q _ h.2).trans (dd pure ((M9 _ _ _).trans (dd (λl=>z++x::l) (filter_congr λy w=>dd RG (nM (λY:y.1=x.1=>h.1 (p9.mpr ⟨y,w,Y⟩)) z)))))
  | false=>
   (rewrite[wG];erw[e];erw[E1 Lq];erw[pure_bind _ _];erw[NZ (p:=λy:Lj×rr=>(z.lookup y.1).isNone) (λq=>Lq (e.symm.trans q))])
   exact Q _ h.2
theorem kZ{z Q:Type}{f g:z->rt Q}{l:cp z}(h:∀x∈l,f x=g x):l.filterMap f=l.filterMap g:=by
 induction l with
 | nil=>rfl
 | cons x l w=>(erw[Pb];erw[Pb];erw[h x fp];exact LH (w λy Y=>h y (oo _ Y)) rfl)
theorem xQ{z:cp Lj}:∀{Q:cp rr},z.Nodup->Q.length=z.length->(z.filterMap λn=>((z.zip Q).lookup n).map (n,·))=z.zip Q:=by
 induction z with
 | nil=>exact λy y=>rfl
 | cons p z Y=>
  intro Q h w
  cases Q with
  | nil=>exact p7 w.symm (MK _)
  | cons v Q=>
   have h:=Mf.mp h
   refine(QI (f:=λn=>(((p,v)::z.zip Q).lookup n).map (n,·)) (b:=(p,v)) (dd (My (p,·)) zQ)).trans (dd ((p,v)::·) ((kZ (f:=λn=>(((p,v)::z.zip Q).lookup n).map (n,·)) (g:=λn=>((z.zip Q).lookup n).map (n,·)) λn U=>?_).trans (Y h.2 (Oa w))))
   exact dd (My (n,·)) (wF λe=>h.1 (e▸U))
theorem pS{Q:cp Lj}:∀{z rest:cp rr},z.length<=Q.length->Q.zip (z++rest)=Q.zip z++(Q.drop z.length).zip rest:=by
 induction Q with
 | nil=>
  intro z rest h
  obtain rfl:=Mq (QG.mp h)
  rfl
 | cons p Q w=>
  intro z rest h
  cases z with
  | nil=>rfl
  | cons v z=>exact dd _ (w (Nz h))
theorem uX{z Q:Type}{l:cp z}:∀{r:cp Q},l.zip r=(l.take r.length).zip r:=by
 induction l with
 | nil=>exact λ{r}=>by exact LH Wb rfl
 | cons a l w=>
  intro r
  cases r with
  | nil=>rfl
  | cons b r=>exact dd _ w
def zR{ps:cp Lj}{z d1 d2:cp rr}{k:ki}(Q:ps.Nodup)(w:k+d1.length=z.length)(U:z.length<=ps.length) :
  ps.zip z++((ps.drop k).zip (d1++d2)).filter (λx=>((ps.zip z).lookup x.1).isNone)=ps.zip (z++d2):=by
 (erw[pS U];erw[pS (NL▸Nat.le_sub_of_add_le (Nk k _▸w▸U))];erw[Th];erw[w];erw[Qu _ _])
 have v:((ps.drop k).zip d1).filter (λx=>((ps.zip z).lookup x.1).isNone)=[]:=ON.mpr λx y=>by
  have q:x.1∈(ps.drop k).take d1.length:=(VO (show(x.1,x.2)∈((ps.drop k).take d1.length).zip d1 from uX (l:=ps.drop k)▸y)).1
  erw[gQ (w▸take_add▸Ll _ q)]
  exact Lq
 have V:((ps.drop z.length).zip d2).filter (λx=>((ps.zip z).lookup x.1).isNone)=(ps.drop z.length).zip d2:=Qd.mpr λx y=>
  dd RG (lX λY=>(M8.mp ((Rl z.length ps).symm▸Q:(ps.take z.length++ps.drop z.length).Nodup)).2.2 _ Y _ (VO (show(x.1,x.2)∈_ from y)).1 rfl)
 (erw[v];erw[V];exact LH (nil_append _) rfl)
def C5{p:Arguments}(Q:p.posonlyargs=[])(w:p.vararg=none)(y:p.kwonlyargs=[])(z:p.kwarg=none):p={ p with posonlyargs:=[],vararg:=none,kwonlyargs:=[],kwarg:=none }:=by
 cases p;cases Q;cases w;cases y;cases z;rfl
def C6{P V D:ki}(w:V<=P)(y:D<=P)(Y:P<=V+D):P - D+(D - (P - V))=V:=by
 refine oE (TP w) λr z=>?_;subst z
 refine oE (TP (TA Y)) λe Q=>?_;subst Q
 (erw[QW _ _];erw[QW _ _];erw[Nk V r];rewrite[Nat.add_sub_add_left])
 exact MZ (TA (Nk V r▸y))
def zS{w:cp Lj}{Q dV:cp rr}(Y:w.Nodup)(U:Q.length<=w.length)(v:dV.length<=w.length)(y:w.length<=Q.length+dV.length) :
  ((w++[]).filterMap λn=>((w.zip Q++((w.drop (w.length - dV.length)).zip dV).filter λx:Lj×rr=>((w.zip Q).lookup x.1).isNone).lookup n).map (n,·))=w.zip (Q++dV.drop (dV.length - (w.length - Q.length))):=by
 have z:=zR (k:=w.length - dV.length) (d1:=dV.take (dV.length - (w.length - Q.length))) (d2:=dV.drop (dV.length - (w.length - Q.length))) Y ((dd (w.length - dV.length+·) (Q6 (Qx _ _))).trans (C6 U v y)) U
 rw[Rl] at z
 (erw[Mp _];erw[z])
 exact xQ Y (by(erw[GE];erw[NL];erw[QT (Nat.sub_le_iff_le_add'.mpr y)]);exact NB U)
section
def zT{z:Type}{a b:Sem z}{Q:z->ow->Prop}(e:a=b)(h:rl M A b Q E s):rl M A a Q E s:=e▸h
def C7{l:cp Lj}{p:Lj->LG}(h:∀n∈l,p n=false):(!(l.filter p).isEmpty)=false:=by
 erw[ON.mpr λn z=>(h n z).symm▸Lq];rfl
def nO(z:Qp):cp Str:=z.params.args.map (·.arg)
def zU(Q:cp Lj)(z:cp rr)(Y U:rt (Mv rr)->Sem (cp (Lj×rr)))(y:cp rr->cp rr)(o:rt (Mv rr)):Sem (cp (Lj×rr)):=
 if (decide (z.length>Q.length)&&true)=true then Y o else if (!((Q.take (Q.length - (y (o.getD #[]).toList).length)).filter λn=>((Q.zip z).lookup n).isNone).isEmpty)=true then U o else
  forIn ((Q.drop (Q.length - (y (o.getD #[]).toList).length)).zip (y (o.getD #[]).toList)) (Q.zip z) wG >>= λw=>pure ((Q++[]).filterMap λn=>(w.lookup n).map (n,·))
def xR(Q:Qp)(z:cp rr):∃w y,VH { Q with params:={ Q.params with posonlyargs:=[],vararg:=none,kwonlyargs:=[],kwarg:=none } } ⟨z,[]⟩=Rn Q.defaults >>= zU (nO Q) z w y λd=>d.drop (d.length - (nO Q).length):=⟨_,_,rfl⟩
def C8{w:cp rr}(U:(nO y).Nodup)
(k:∀Q:rt (Mv rr)->ow->Prop,(∀r,(r.getD #[]).toList=dV->Q r s)->rl M A (Rn y.defaults) Q E s)(V:w.length<=(nO y).length)(v:dV.length<=(nO y).length)(Y:(nO y).length<=w.length+dV.length){Q:cp (Lj×rr)->ow->Prop}
(h:Q ((nO y).zip (w++dV.drop (dV.length - ((nO y).length - w.length)))) s):rl M A (VH { y with params:={ y.params with posonlyargs:=[],vararg:=none,kwonlyargs:=[],kwarg:=none } } ⟨w,[]⟩) Q E s:=by
 refine oEE (xR y w) λj J e=>?_
 refine zT e (ec (k _ λr o=>?_))
 have O:(r.getD #[]).toList.drop ((r.getD #[]).toList.length - (nO y).length)=dV:=by rw[o,Nat.sub_eq_zero_of_le v];rfl
 have z:∀L:cp rr->cp rr,L (r.getD #[]).toList=dV->rl M A (zU (nO y) w j J L r) Q E s:=λL p=>by
  unfold zU
  rw[p]
  refine Oi (LQ λh=>Os.mpr V (p6 (rv.mp h).1)) (Oi (LQ λh=>Lq ((C7 λn f=>gQ (take_subset_take_left _ (Nat.sub_le_iff_le_add.mpr Y) f)).symm.trans h)) (ec (zT (uW _ _ ?_) (pe (pe (zS U V v Y▸h))))))
  rw[Vl (by rw[NL,QT v];exact Lf _)]
  exact U.sublist (drop_sublist _ _)
 exact z (λd=>d.drop (d.length - (nO y).length)) O
def zV{w:Qp}{z:cp rr}(V:w.params.posonlyargs=[])(k:w.params.args.map (·.arg)=y)(j:w.params.vararg=none)(J:w.params.kwonlyargs=[])(U:w.params.kwarg=none)(v:y.Nodup)
(o:∀Q:rt (Mv rr)->ow->Prop,(∀r,(r.getD #[]).toList=dV->Q r s)->rl M A (Rn w.defaults) Q E s)(O:z.length<=y.length)(f:dV.length<=y.length)(Y:y.length<=z.length+dV.length){Q:cp (Lj×rr)->ow->Prop}
(h:Q (y.zip (z++dV.drop (dV.length - (y.length - z.length)))) s):rl M A (VH w ⟨z,[]⟩) Q E s:=by
 subst k
 exact zT (dd (λp=>VH { w with params:=p } ⟨z,[]⟩) (C5 V j J U)) (C8 v o O f Y h)
end
def fh(z:Qp)(f:ki)(L:LZ):Env:=newEnv z.scope L LU (Ph (L+1) z.scope.names []) (z.qualname++".<locals>.") (aM f) z.code none QO
theorem C9{i:ki}(z:cp CV):∀{k:ki},i<k->jD k z i=none:=by
 induction z with
 | nil=>exact λw=>rfl
 | cons v z Q=>exact λh=>(E1 (Lu h)).trans (Q (Nn h))
def zW(k:ki)(Q:cp CV)(L:ki->rt CV):ki->rt CV:=Q.rec (motive:=λz=>ki->(ki->rt CV)->ki->rt CV) (λz L=>L) (λv z w k L=>w (k+1) (cS L k v)) k L
theorem xS{i:ki}(z:cp CV):∀(k:ki) (L:ki->rt CV),zW k z L i=(jD k z i).elim (L i) some:=by
 induction z with
 | nil=>exact λQ Q=>rfl
 | cons v z w=>
  intro k L
  refine(w (k+1) (cS L k v)).trans ?_
  show _=LW (if i=k then aM v else jD (k+1) z i) (L i) aM
  by_cases e:i=k
  ·(erw[K2 e];erw[C9 z (e▸Lz k)];erw[e]);exact e8 L k v
  ·erw[E1 e];exact dd (λo=>LW (jD (k+1) z i) o aM) (gu L v e)
def xT(z:cp CV):zW 0 z (λQ=>none)=jD 0 z:=by
 funext i
 rw[xS]
 cases jD 0 z i <;> rfl
section
variable{g:G}{z:cp (Lj×ki)}
def zX(O:e9 z)(f:Lj×rr->Ub->Sem (O2 Ub))(l:∀n v u,f (n,v) u=(do Rm env n v;pure (.yield ⟨⟩))){Q:Ub->ow->Prop}
(Y:cp Lj):∀(w:cp rr) (y:cp CV) (k:ki) (s:ow) (st:St),(∀i x,Y[i]?=aM x->(x,k+i)∈z/\(env.kindOf x=aM .local∨env.kindOf x=aM .cell))->y.length=Y.length->RVs s.heap w y->aB g true Pr env z s st->
   (∀s',aB g true Pr env z s' { st with L:=zW k y st.L }->Q ⟨⟩ s')->rl (Lg g.prog g.w) A (forIn (Y.zip w) ⟨⟩ f) Q E s:=by
 induction Y with
 | nil=>
  intro w y k s st j V J R h
  obtain rfl:=Mq V
  exact e7 (h s R)
 | cons p Y T=>
  intro w y k s st j V J R h
  cases y with
  | nil=>exact p7 V.symm (MK _)
  | cons c y=>
   refine aX J.c λv C U a b=>?_;subst U
   have o:=j 0 p rfl
   erw[UK]
   refine et ?_
   rw[l]
   exact ec (R.lJ O o.1 rfl o.2 a λs' B t D=>pe (T C y (k+1) s' _ (λi x N=>(NU k i)▸j (i+1) x N) (Oa V) (b.mono t) B h))
def zY{w:Qp}{H:CH}(R:av g.w g.AN g.os g.h₀ k s H)(D:Fls g k)(hF:e9 z)(J:w.scope.kind=.function)(O:∀x i,(x,i)∈z->w.scope.names.lookup x=aM .local∨w.scope.names.lookup x=aM .cell)
{C:cp Lj}{B:cp CV}(hp:∀i x,C[i]?=aM x->(x,i)∈z)(hl:B.length=C.length)(hv:RVs s.heap Y B){Q:OR->ow->Prop}
(h:∀s',aB (g.fr (fh w f s.heap.objs.size::g.fs)) true k (fh w f s.heap.objs.size) z s' ⟨H,jD 0 B⟩->Q (fh w f s.heap.objs.size) s') :
  rl (Lg g.prog g.w) A (R7 w.scope LU [] (C.zip Y) (w.qualname++".<locals>.") (aM f) w.code none QO) Q E s:=by
 simp only[R7,Zc,Qv,T7]
 refine ec (Yg ?_)
 refine ec (Xv _ (λS l I=>by cases z0:l==Nu <;> simp) _ _ _ _ ?_)
 have n:=X7 w.scope.names (s.heap.push { cls:=.type "frame",data:=.dict #[] }) (s.heap.objs.size+1) [] ⟨λU U hm=>(nomatch hm),Ti⟩ (by erw[M0 _ _];exact Lf _)
 rw[M0] at n
 erw[show({ s with heap:=s.heap.push { cls:=.type "frame",data:=.dict #[] } }:ow).heap.objs.size=s.heap.objs.size+1 from M0 ..]
 have M:∀b o,s.heap.get? b=aM o->(Rp (s.heap.push { cls:=.type "frame",data:=.dict #[] }) w.scope.names).get? b=aM o:=λb o e=>Qw _ _ b o (Lh _ e)
 have d:(Rp (s.heap.push { cls:=.type "frame",data:=.dict #[] }) w.scope.names).get? s.heap.objs.size=aM { cls:=.type "frame",data:=.dict #[] }:=Qw _ _ _ _ (Lv _ rfl)
 have m:(Rp (s.heap.push { cls:=.type "frame",data:=.dict #[] }) w.scope.names).Ns s.heap.objs.size (λU=>none):=(Heap.Ns.new s.heap (.type "frame")).keeps (Qw _ _)
 have R1:av g.w g.AN g.os g.h₀ k { s with heap:=Rp (s.heap.push { cls:=.type "frame",data:=.dict #[] }) w.scope.names } H:=R.ext M rfl rfl
 have V:∀b,s.heap.objs.size<=b->(∀o,¬ k b o)/\¬ Own (Rp (s.heap.push { cls:=.type "frame",data:=.dict #[] }) w.scope.names) H b:=λb L=>by
  have W:∀o,s.heap.get? b≠aM o:=λo e=>p7 (LX e) (Os.mpr L)
  exact⟨λo p=>by
   refine oEA (R.b7 b o p) λo' e U=>?_
   exact W o' e,R.iO (s':={ s with heap:=_ }) M W⟩
 have X:(fh w f s.heap.objs.size).locals=s.heap.objs.size:=rfl
 have z1:(fh w f s.heap.objs.size).cells=Ph (s.heap.objs.size+1) w.scope.names []:=rfl
 have t:∀x,(fh w f s.heap.objs.size).kindOf x=w.scope.names.lookup x:=λU=>rfl
 have RF:aB (g.fr (fh w f s.heap.objs.size::g.fs)) true k (fh w f s.heap.objs.size) z { s with heap:=Rp (s.heap.push { cls:=.type "frame",data:=.dict #[] }) w.scope.names } ⟨H,λU=>none⟩:=by
  refine⟨R1,⟨J,rfl,rfl,⟨_,m,λx i T Z=>rfl⟩,λx i T Z=>?_⟩,λb L=>?_,λU x i y j a T hy z2 z3 r F=>?_,λb L=>?_⟩
  ·have P:w.scope.names.lookup x=aM .cell:=by
    rcases Z with h | h
    ·exact h
    ·rw[t] at h
     rcases O x i T with h' | h' <;> rw[h'] at h <;> cases h
   refine oE (i8 (x:=x) (n:=s.heap.objs.size+1) (names:=w.scope.names) (acc:=[]) (.inl (OE P))) λa N=>?_
   exact⟨a,none,N,(n.empty x a (OE N)).1,rfl⟩
  ·have c:s.heap.objs.size<=b:=by
    rcases L with rfl | ⟨x,i,_,_,N⟩
    ·exact Lf _
    ·exact Su (n.empty x b (OE N)).2
   exact⟨λU=>(V b c).1,(V b c).2⟩
  ·exact XZ n.apart (OE r) (OE F)
  ·have v:b∈(fh w f s.heap.objs.size::g.fs).filterMap (·.frame):=L
   rw[Pb,show(fh w f s.heap.objs.size).frame=aM s.heap.objs.size from rfl] at v
   rcases ta.mp v with rfl | v
   ·exact .inl ⟨rfl,λo ho=>by
     rw[d] at ho;cases ho;rfl⟩
   ·exact .inr (D b v)
 refine ec (zX (g:=(g.fr (fh w f s.heap.objs.size::g.fs))) (env:=fh w f s.heap.objs.size) (Pr:=k) hF _ (λU U U=>rfl) C Y B 0 _ ⟨H,λU=>none⟩ (λi x T=>?_) hl (hv.mono (TK.aS M)) RF λs' R'=>pe (h s' ?_))
 ·have:=hp i x T
  erw[OQ _]
  exact⟨this,by erw[t _];exact O x i this⟩
 ·rw[← xT];exact R'
end
inductive EM(K:Rh)(h₀:M7)(f:ki)(d:Fn)(fd:Qp)(body:cp Of)(vm:cp (Lj×ki)):Prop
 | mk (obj:∃o,h₀.get? f=aM o/\o.data=.func fd) (body:fd.body=.stmts body) (clo:fd.closure=[]) (fN:fd.globals=LU) (bi:fd.builtins=QO) (co:fd.scope.isCoroutine=false) (gen:fd.scope.isGenerator=false) (code:h₀.CodeRec fd.code fd.qualname) (vk:∀x i,(x,i)∈vm->fd.scope.names.lookup x=aM .local∨fd.scope.names.lookup x=aM .cell) (po:fd.params.posonlyargs=[]) (va:fd.params.vararg=none) (ko:fd.params.kwonlyargs=[]) (kw:fd.params.kwarg=none) (par:∀i x,(fd.params.args.map (·.arg))[i]?=aM x->(x,i)∈vm) (nd:(fd.params.args.map (·.arg)).Nodup) (ar:(fd.params.args.map (·.arg)).length=d.ej) (df:d.dY.length<=d.ej) (dfl:(fd.defaults=.none/\d.dY=[])∨∃T o vs n,fd.defaults=.ref T/\h₀.get? T=aM o/\o.data=.seq vs n/\RVs h₀ vs.toList d.dY)
structure Da(g:G)(F:ki->rt Fn):Prop where
 ok:g.Ok
 defs:∀f d,F f=aM d->∃fd body vm,EM g.K g.h₀ f d fd body vm/\fd.scope.kind=.function/\e9 vm/\
  ∀(n:ki) (fs:cp OR) (L:LZ),ii (g.dn n (ah F g.M n) (fh fd f L::fs))->FS (g.dn n (ah F g.M n) (fh fd f L::fs))->
   SSs (g.dn n (ah F g.M n) (fh fd f L::fs)) (fh fd f L) vm d.body (Q3 body (fh fd f L))
def ii.push{g:G}(h:ii (g.fr (Q))){e:OR}(y:e.scope.kind≠.module)(Y:e.frame=aM L)(U:g.h₀.get? L=none):ii (g.dn n (w) (e::Q)):=
 ⟨λv z=>by
  rcases ta.mp z with rfl | z
  ·exact⟨y,L,Y,U⟩
  ·exact h.all v z⟩
def Ih{g:G}{d:Fn}{w:Qp}{H:CH}(D:(w.defaults=.none/\d.dY=[])∨∃T o z n,w.defaults=.ref T/\g.h₀.get? T=aM o/\o.data=.seq z n/\RVs g.h₀ z.toList d.dY)(R:av g.w g.AN g.os g.h₀ V s H) :
  ∃v,RVs s.heap v d.dY/\∀Q:rt (Mv rr)->ow->Prop,∀E,(∀r,(r.getD #[]).toList=v->Q r s)->rl (Lg g.prog g.w) A (Rn w.defaults) Q E s:=by
 rcases D with⟨y,Y⟩ | ⟨T,oT,z,k,y,Y,j,J⟩
 ·exact⟨[],Y▸.nil,λQ E U=>y▸pe (U none rfl)⟩
 ·exact⟨z.toList,J.mono (TK.aS R.old),λQ E U=>y▸QK (R.old T oT Y) j (U _ rfl)⟩
def uB{a n u c d e L:ki}(h:a+u * (n+1)+e<L)(k:c+d<=u+e):a+c+u * n+d<L:=
 eF (cy (p8 ((dd (·+d) (Sf a c (u * n))).trans (NV _ c d))) (cy (Ls k (a+u * n)) (p8 ((NV (a+u * n) u e).symm.trans (dd (·+e) (NV a (u * n) u)))))) h
theorem Da.fs(P:Da g F):∀(n:ki) (fs:cp OR),ii (g.fr (fs))->FS (g.dn n (ah F g.M n) (fs))
 | 0,fs,M=>λf V x A Pr s H Q R hA m l hv hw hP=>hw.elim
 | n+1,fs,M=>by
  intro f V x A Pr s H Q R hA m l hv hw hP
  obtain⟨w,U,v,y,Y⟩:=hA
  refine jy hw λd hd L t c=>?_
  refine mc (P.defs f d hd) λj zk vm D i z8 hb=>?_
  obtain⟨C,J,b,O,r,S,B,p,W,X,Z,K,u,N,q,z0,z1,a⟩:=D
  refine oEA C λo ho z2=>?_
  have hu:A.units+200 * (n+1)+100<cLine:=U
  have z3:A.depth+10 * (n+1)+5<recursionLimit:=v
  have l:av g.w g.AN g.os g.h₀ Pr s H:=l
  have z9:=l.old f o ho
  have E:=hv.length
  refine codeAny_call_function (eF (cy (LA _ _) (LA _ _)) z3) z9 z2 S B J (p.keeps l.old) ?_
  refine oEA (Ih (A:=A.in1) a l) λdV z4 zz=>?_
  have I:=z4.length
  have k:=z0
  refine zV X rfl Z K u q (λQ=>zz Q _) (cy (p8 E) (cy L (p8 k.symm))) (cy (p8 I) (cy z1 (p8 k.symm))) (k.symm▸E.symm▸I.symm▸t) ?_
  (erw[O];erw[b];erw[r])
  have zq:RVs s.heap (V++dV.drop (dV.length - ((j.params.args.map (·.arg)).length - V.length))) (x++d.dY.drop (d.dY.length - (d.ej - x.length))):=by
   (erw[I];erw[E];erw[k])
   exact hv.append (z4.drop _)
  have zw:(x++d.dY.drop (d.dY.length - (d.ej - x.length))).length=(j.params.args.map (·.arg)).length:=by
   (erw[GE];erw[NL];erw[k];erw[QT (Uy (Nk _ _▸t))])
   exact NB L
  have z5:Fls (g.fr (fs)) Pr:=m
  refine zY (g:=(g.fr (fs))) (f:=f) l z5 z8 i W N zw zq λz6 z=>⟨P.ok.nolimit.keeps z.H.old,codeAny_func ?_⟩
  have zy:g.h₀.get? s.heap.objs.size=none:=by
   cases e:g.h₀.get? s.heap.objs.size with
   | none=>rfl
   | some o=>exact p7 (LX (l.old _ _ e)) (MR _)
  have T:ii (g.dn n (ah F g.M n) (fh j f s.heap.objs.size::fs)):=M.push (by show j.scope.kind≠.module;erw[i];decide) rfl zy
  have z7:ii (g.fr (fh j f s.heap.objs.size::fs)):=⟨T.all⟩
  have zu:OKA (g.dn n (ah F g.M n) (fh j f s.heap.objs.size::fs)) (A.deeper (fh j f s.heap.objs.size)):=⟨λζ=>w,
   uB (u:=200) hu (by decide),uB (u:=10) z3 (by decide),y,dd (My (fh j f s.heap.objs.size::·)) Y⟩
  refine hb n fs s.heap.objs.size T (Da.fs P n _ z7) (A.deeper (fh j f s.heap.objs.size)) Pr z6 ⟨H,jD 0 (x++d.dY.drop (d.dY.length - (d.ej - x.length)))⟩ _ (λζ ζ=>False) _ _ zu ⟨z.H,z.L,z.np,z.inj,z.ofr⟩ c (λfl fc s' zj hf R' hq=>?_) λζ ζ h=>h.elim
  cases hf with
  | next=>exact hP _ _ _ _ .none R'.H hq
  | brk=>exact hq.elim
  | cont=>exact hq.elim
  | ret zv=>exact hP _ _ _ _ zv R'.H hq
section
variable{g:G}{z:OR}{w:cp (Lj×ki)}
def nP
(h:rl M A (Mb y z) (λv Y=>rl M A (WG 115 v) (λr U=>rl M A (VC r RM) Q E U) E Y) E s):rl M A (Mb (.FormattedValue y 115 none k) z) Q E s:=by
 rw[arm_eval_FormattedValue]
 refine ec (OD h (λv Y V=>?_) λj j x=>x)
 refine ec (O1 ?_)
 show rl _ _ (do let J ← Q1 [v] (WG 115 v);VC J RM) Q E Y
 exact ec (Mc V)
def zZ{x:Lj}(h:x.length<=1000000):x.length<=sizeLine:=cy h (by decide)
def Aa:(Li " -> ").length=4:=by decide +kernel
def Kl{x:Lj}(h:x.length<=1000000):(x++Li " -> ").length<=sizeLine:=by(erw[Us _ _];erw[Aa]);exact cy (MJ h 4) (by decide)
def Db{x y:Lj}(h:x.length<=1000000)(Q:y.length<=1000000):(x++Li " -> "++y).length<=sizeLine:=by(erw[Us _ _];erw[Us _ _];erw[Aa]);exact cy (LY (MJ h 4) Q) (by decide)
def xU(x:Lj):RM++x=x:=by
 show U1 (#[]++x.cps)=U1 x.cps
 exact LH Array.empty_append rfl
def tz{x:Lj}{Q:rr->ow->Prop}(U:x.length<=1000000)(h:∀v k,Q (.str x v) { s with toks:=k }) :
  rl M A (WG 115 (.str x t)) (λr y=>rl M A (VC r RM) Q E y) E s:=by
 show rl M A (habitSame "fstring-hands-on-the-str" (.str x t)) _ E s
 exact habitSame_str (λv k=>W1 (λY V=>h Y V) (zZ U)) (zZ U)
theorem Ab(Q:cp Lj):pds (Q.map .str)=Q.map .str:=by
 induction Q with
 | nil=>rfl
 | cons x r y=>exact dd (Y7 x::·) y
theorem uY{Q:cp Lj}(h:∀x∈Q,x.cps.toList.all (OC · 128)=true):CV.bD (Q.map .str)=true/\Y8 (Q.map .str)=true/\Y9 (Q.map .str)=false/\SB (Q.map .str)=0:=by
 induction Q with
 | nil=>exact⟨rfl,rfl,rfl,rfl⟩
 | cons x r Y=>
  have i:=Y λy U=>h y (oo _ U)
  exact⟨rv.mpr ⟨h x fp,i.1⟩,i.2.1,i.2.2.1,(Nat.zero_max _).trans i.2.2.2⟩
def ES.js(O:g.Ok)(ha:ES g z w h (Mb a z))(hb:ES g z w m (Mb b z)) :
  ES g z w (.js h m) (Mb (.JoinedStr [.FormattedValue a 115 none p1,.Constant (.str (Li " -> ")) k p2,.FormattedValue b 115 none i] D) z):=by
 intro A r s st Q X P E B R hw F S
 refine JoinedStr_many (T6 (nP (ha A r s st _ X _ E B R hw (λv c W V hv J hq=>?_) S)))
 refine aA hq λf p j y=>?_;subst p
 refine oE hv.c λt0 L=>?_;subst L
 refine tz j λt' Z=>?_
 show(RM++f).length<=VA/\rl _ A (Y2 (RM++f) _) P E _
 erw[xU f]
 refine⟨zZ j,T6 (V6 ⟨Kl j,?_⟩)⟩
 show rl _ A (Y2 _ [Mb (.FormattedValue b 115 none i) z]) P E _
 refine T6 (nP ((hb A r _ V _ X _ E B ((J.toks _).toks _) y (λu d U I hu Y y=>?_) S)))
 rcases y with⟨t,rfl,M,y⟩ | ⟨l,xs,rfl,hl,hp,N,y⟩
 ·refine oE hu.c λt1 T=>?_;subst T
  exact tz M λt' Z=>⟨Db j M,XO (F _ _ _ _ (.str _ _) ((Y.toks _).toks _) (y _)) (Db j M)⟩
 ·obtain rfl:u=.ref l:=hu.c
  refine aA (Y.H.cr hl) λws x h2 ζ=>?_;obtain⟨o,ho,hc,n,hd⟩:=x
  have q:=uY hp
  refine oE (h2.hU q.1) λas C=>?_
  rw[Ab] at C
  show rl _ A (pyStrObj (.ref l)) _ E U
  refine pyStrObj_of_reads (.list ho hc hd C) q.2.1 (λe=>nomatch q.2.2.1.symm.trans e) B.guards (eF (LY (LA _ _) (by show SB _+1+1<=150;erw[q.2.2.2];decide)) B.units) (λζ ζ e=>e) (λh' u tk hk=>?_) (zZ N)
  exact W1 (λz0 Z=>⟨Db j N,XO (F _ _ _ _ (.str _ _) (Y.ext (s':={ U with heap:=h',toks:=_ }) hk rfl rfl) y) (Db j N)⟩) (zZ N)
end
def ab(h:(a&&b)=true):a=true:=(rv.mp h).1
def ag(h:(a&&b)=true):b=true:=(rv.mp h).2
def Ga(h:a=true)(k:b=true):(a&&b)=true:=rv.mpr ⟨h,k⟩
def ir{a:LG}(h:(!a)=true):a=false:=Vc a▸h
abbrev NM:=cp (Lj×Qm)
abbrev VM:=cp (Lj×ki)
def uZ(l:cp ki):cp ki->Bool:=l.rec Q7 λa Q z m=>m.casesOn false λb m=>Re a b&&z m
theorem xV:∀{m:cp ki},uZ l m=true->l=m:=by
 induction l with
 | nil=>
  intro m h
  cases m with
  | nil=>rfl
  | cons=>exact ff h
 | cons a l z=>
  intro m h
  cases m with
  | nil=>exact ff h
  | cons b m=>exact cons_eq_cons.mpr ⟨Rv (ab h),z (ag h)⟩
theorem tA(l:cp ki):uZ l l=true:=by
 induction l with
 | nil=>rfl
 | cons a l z=>exact rv.mpr ⟨Nat.beq_refl a,z⟩
def cT(a b:Lj):Bool:=uZ a.cps.toList b.cps.toList
def bb:cT a b=true↔a=b:=by
 refine⟨λh=>?_,λh=>h▸tA _⟩
 obtain⟨a⟩:=a;obtain⟨b⟩:=b
 exact dd U1 (Sx.mp (xV h))
def tB(h:cT a b=false):a≠b:=λe=>NP ((bb.mpr e).symm.trans h)
def jR(h:cT a b=false):(a==b)=false:=Om.mpr (tB h)
def kd(l:NM)(x:Lj):rt NameKind:=l.rec none λp Q z=>if cT x p.1=true then aM p.2 else z
theorem Ac(l:NM)(x:Lj):kd l x=l.lookup x:=by
 induction l with
 | nil=>rfl
 | cons p r z=>
  refine SE ?_ NK.symm
  show(if cT x p.1=true then aM p.2 else kd r x)=_
  cases h:cT x p.1 with
  | true=>(erw[bb.mp h];erw[Pi _]);rfl
  | false=>erw[jR h];exact z
def rE(l:VM)(x:Lj)(i:ki):Bool:=l.any λp=>Re i p.2&&cT x p.1
def cV{i:ki}(h:rE l x i=true):(x,i)∈l:=
 (NO.mp h).elim λp q=>(MX (bb.mp (ag q.2)) (Rv (ab q.2)):(x,i)=p)▸q.1
def Ad(l:VM):Bool:=l.rec true λp r z=>r.all (λq=>!(cT p.1 q.1)&&!(Re p.2 q.2))&&z
theorem wH:Ad l=true->e9 l:=by
 induction l with
 | nil=>exact λQ Q Q Q Q h=>p7 h Le
 | cons p r v=>
  intro h a j b k V J
  have z:∀{y:Lj} {j:ki},(y,j)∈r->p.1≠y/\p.2≠j:=λo=>
   have Y:=M5.mp (ab h) _ o
   ⟨tB (ir (ab Y)),λe=>NP ((XG.mpr e).symm.trans (ir (ag Y)))⟩
  rcases ta.mp V with e | w <;> rcases ta.mp J with U | hd
  ·cases e.trans U.symm;exact⟨λQ=>rfl,λQ=>rfl⟩
  ·cases e;exact⟨λe=>p7 e (z hd).1,λe=>p7 e (z hd).2⟩
  ·cases U;exact⟨λe=>p7 e.symm (z w).1,λe=>p7 e.symm (z w).2⟩
  ·exact v (ag h) a j b k w hd
structure CK where
 fN:cp (Lj×CV)
 fns:cp (Lj×ki)
 pT:cp Lj
 AN:cp Lj
 nA:ki
structure CK.Ok(ck:CK)(g:G):Prop where
 ok:g.Ok
 fN:∀p∈ck.fN,∃v,P9 g.K LU p.1=aM (aM v)/\∀h,RV h v p.2
 fns:∀p∈ck.fns,P9 g.K LU p.1=aM (aM (.ref p.2))/\RA g.K (.ref p.2)=true
 pT:∀x∈ck.pT,P9 g.K LU x=aM none
 an:g.AN=ck.AN
 na:g.nA=ck.nA
 Cv:∀c m f,g.M c m=aM f->RA g.K (.ref f)=true
 l83:Oq g.K (.ref 100) "__len__"=aM (aM (.ref 83))
 f83:To g.K (.ref 83)=aM (.type "function")
def Ii:Str:=⟨⟨[95,95,100,101,98,117,103,95,95]⟩⟩
def EO:Str:=⟨⟨[95,95,99,108,97,115,115,100,105,99,116,95,95]⟩⟩
def Dc:Ii=Li "__debug__":=by decide +kernel
def Ae:EO=Li "__classdict__":=by decide +kernel
def jk(x:Lj):Bool:=!(cT x Ii)&&!(cT x EO)
def iu(h:jk x=true):(x==Li "__debug__")=false:=Dc▸jR (ir (ab h))
def Af(h:jk x=true):(x==Li "__classdict__")=false:=Ae▸jR (ir (ag h))
def Ij(a b:CV):Bool:=match a,b with
 | .str a,.str b=>cT a b
 | .ref a,.ref b=>Re a b
 | _,_=>false
def Dd(h:Ij a b=true):a=b:=by
 cases a <;> cases b <;> first | exact dd _ (bb.mp h) | exact dd _ (Rv h) | exact ff h
def Ik(l:cp (Lj×CV))(x:Lj)(c:CV):Bool:=l.any λp=>Ij c p.2&&cT x p.1
def Ag(h:Ik l x c=true):(x,c)∈l:=
 (NO.mp h).elim λp q=>(MX (bb.mp (ag q.2)) (Dd (ab q.2)):(x,c)=p)▸q.1
def Il(l:cp Lj)(x:Lj):Bool:=l.any (cT x)
def Ah(h:Il l x=true):x∈l:=(NO.mp h).elim λy h=>bb.mp h.2▸h.1
def atN(l:cp Lj)(n:ki)(x:Lj):Bool:=(l[n]?).elim false (cT x)
theorem rF(h:atN l n x=true):l[n]?=aM x:=by
 revert h
 show(l[n]?).elim _ _=_->_
 cases l[n]? with
 | none=>exact λh=>ff h
 | some y=>exact λh=>dd aM (bb.mp h).symm
def Ai(nm:NM)(l:NM):NM:=l.map λp=>if p.2=.free/\kd nm p.1=aM .cell then(p.1,.cell) else p
structure bM(env:OR)(nm:NM):Prop where
 names:env.scope.names=nm
 kind:env.scope.kind=.function
def bM.kd{nm:NM}(h:bM z nm)(x:Lj):z.kindOf x=Mine.Internal.kd nm x:=by
 (erw[Ac _ _];erw[Ng h.names]);rfl
def bM.comp{nm:NM}(h:bM Q nm){z:Ql}(w:z.kind=.function)(y:cp (Lj×LZ))(C:LZ):bM (OB z y C Q) (Ai nm z.names):=
 ⟨O9 λp Y=>by
  show(if (p.2==.free&&Q.scope.kind==.function&&Q.kindOf p.1==aM .cell)=true then(p.1,Nu) else p)=if p.2=.free/\Mine.Internal.kd nm p.1=aM .cell then(p.1,Nu) else p
  rw[h.kind,h.kd p.1]
  by_cases e:p.2=.free/\Mine.Internal.kd nm p.1=aM .cell
  ·rw[K2 e,K2 (by rw[e.1,e.2];rfl)]
  ·rw[E1 e,E1 λq=>e ⟨MU.mp (ab (ab q)),MU.mp (ag q)⟩],w⟩
def kCF(k:rt Qm):Bool:=decide (k=aM .cell∨k=aM .free)
def rG(l:NM)(x:Lj):Bool:=l.any λp=>decide (p.2=.free)&&cT x p.1
def u0(h:rG l x=true):(x,MN)∈l:=(NO.mp h).elim λp h=>p6 (ab h.2)▸bb.mp (ag h.2)▸h.1
def xW{l:NM}(h:(x,MN)∈l):rG l x=true:=NO.mpr ⟨_,h,Ga (Ln rfl) (bb.mpr rfl)⟩
def Aj(l:NM)(x:Lj):Bool:=l.any λp=>decide (p.2=.cell)&&cT x p.1
def u4(h:Aj l x=true):(x,Nu)∈l:=(NO.mp h).elim λp h=>p6 (ab h.2)▸bb.mp (ag h.2)▸h.1
def pU(nm:NM)(Q:VM)(z:NM):VM:=Q.filter λp=>rG z p.1&&kCF (kd nm p.1)&&kCF (kd (Ai nm z) p.1)
def Ak(nm:NM)(Q:VM)(z:Ql):Bool:=
 decide (z.kind=.function)&&z.names.all (λp=>(decide (p.2=.local->kd z.names p.1=aM .local)&&(!(decide (p.2=.cell))||!(rG z.names p.1)))&&(decide (p.2≠.free)||(Q.any (λq=>cT p.1 q.1)&&kCF (kd nm p.1))))
def Am{nm:NM}(h:bM w nm)(j:Ak nm U v=true):ie v w U (pU nm U v.names):=by
 have J:=p6 (ab j)
 have Q:=M5.mp (ag j)
 refine⟨J,λy Y q=>(Mu.mp (ag (ab (Q _ Y)))).elim (λh=>QM (ir h) rfl) λh=>NP ((ir h).symm.trans (xW q)),λy Y e=>Ac ..▸p6 (ab (ab (Q y Y))) e,λy Y=>?_,λx i o=>?_⟩
 ·have q:=(Mu.mp (ag (Q _ Y))).resolve_left λq=>p6 q rfl
  refine oEA (NO.mp (ab q)) λz O V=>?_
  exact⟨z.2,(bb.mp V:y=z.1)▸O,(h.kd y).symm▸p6 (ag q)⟩
 ·refine oA (MC.mp o) λp k=>?_
  exact⟨p,u0 (ab (ab k)),(h.kd x).symm▸p6 (ag (ab k)),λC f=>((h.comp J f C).kd x).symm▸p6 (ag k)⟩
def rH:Str:=⟨⟨[97,112,112,101,110,100]⟩⟩
def Gb:Str:=⟨⟨[112,111,112]⟩⟩
def rI:Str:=⟨⟨[105,110,115,101,114,116]⟩⟩
def An:Str:=⟨⟨[105,116,101,109,115]⟩⟩
def De:Str:=⟨⟨[103,101,116]⟩⟩
def Ao:Str:=⟨⟨[106,111,105,110]⟩⟩
def Gc:Str:=⟨⟨[108,101,110]⟩⟩
def Ap:Str:=⟨⟨[108,105,115,116]⟩⟩
def u5:Str:=⟨⟨[116,117,112,108,101]⟩⟩
def gC:Str:=⟨⟨[115,111,114,116,101,100]⟩⟩
def Gd:Str:=⟨⟨[97,108,108]⟩⟩
def Df:Str:=⟨⟨[115,101,116]⟩⟩
def Ge:Str:=⟨⟨[109,105,110]⟩⟩
def Aq:Str:=⟨⟨[101,110,117,109,101,114,97,116,101]⟩⟩
def Ar:Str:=⟨⟨[114,97,110,103,101]⟩⟩
def As:Str:=⟨⟨[32,45,62,32]⟩⟩
def Dg:As=Li " -> ":=by decide +kernel
def At:rH=Li "append":=by decide +kernel
def Im:Gb=Li "pop":=by decide +kernel
def Au:rI=Li "insert":=by decide +kernel
def Dh:An=Li "items":=by decide +kernel
def EP:De=Li "get":=by decide +kernel
def Gf:Ao=Li "join":=by decide +kernel
def Io:Gc=Li "len":=by decide +kernel
def Gg:Ap=Li "list":=by decide +kernel
def Di:u5=Li "tuple":=by decide +kernel
def tC:gC=Li "sorted":=by decide +kernel
def Ip:Gd=Li "all":=by decide +kernel
def EQ:Df=Li "set":=by decide +kernel
def Iq:Ge=Li "min":=by decide +kernel
def Gh:Aq=Li "enumerate":=by decide +kernel
def Dj:Ar=Li "range":=by decide +kernel
structure VK where
 wI:Lj->QC->Bool:=λζ ζ=>false
 rJ:Yu->Bool:=λζ=>false
 wJ:LF->Lj->QC->Bool:=λζ ζ ζ=>false
 Dk:LF->LF->Bool:=λζ ζ=>false
 u6:rt LF->rt LF->rt LF->Bool:=λζ ζ ζ=>false
 Dl:cp LF->Bool:=λζ=>false
 kLi:cp LF->Bool:=λζ=>false
 wK:cp (rt LF)->cp LF->Bool:=λζ ζ=>false
 Dm:LF->Sa->LF->Bool:=λζ ζ ζ=>false
 Do:LF->cp Yv->cp LF->Bool:=λζ ζ ζ=>false
 kUn:X8->LF->Bool:=λζ ζ=>false
 wL:YX->cp LF->Bool:=λζ ζ=>false
 kIf:LF->LF->LF->Bool:=λζ ζ ζ=>false
 wM:LF->cp LF->cp Wu->QC->Bool:=λζ ζ ζ ζ=>false
 Gi:LF->Nj->rt LF->Bool:=λζ ζ ζ=>false
 wN:cp LF->Bool:=λζ=>false
 Av:LF->cp Rj->Ql->QC->Bool:=λζ ζ ζ ζ=>false
def vw(k:VK)(e:LF):Bool:=match e with
 | .Name x p=>k.wI x p
 | .Constant c _ _=>k.rJ c
 | .Attribute o x p=>k.wJ o x p
 | .Subscript o x _=>k.Dk o x
 | .Slice l u s _=>k.u6 l u s
 | .Tuple z _ _=>k.Dl z
 | .List z _=>k.kLi z
 | .Dict w Q _=>k.wK w Q
 | .BinOp a o b _=>k.Dm a o b
 | .Compare a os y _=>k.Do a os y
 | .UnaryOp o a _=>k.kUn o a
 | .BoolOp o Q _=>k.wL o Q
 | .IfExp t a b _=>k.kIf t a b
 | .Call f z w p=>k.wM f z w p
 | .FormattedValue a Y s _=>k.Gi a Y s
 | .JoinedStr Q _=>k.wN Q
 | .ListComp a U v p=>k.Av a U v p
 | _=>false
section
variable{P:LF->Prop}
def gX(h:vw k e=true)(n:∀x p,k.wI x p=true->P (.Name x p))(N:∀c z Y,k.rJ c=true->P (.Constant c z Y))(A:∀o x p,k.wJ o x p=true->P (.Attribute o x p))(D:∀o x z,k.Dk o x=true->P (.Subscript o x z))(E:∀l u s z,k.u6 l u s=true->P (.Slice l u s z))(I:∀Q z Y,k.Dl Q=true->P (.Tuple Q z Y))(M:∀Q z,k.kLi Q=true->P (.List Q z))(d:∀y w z,k.wK y w=true->P (.Dict y w z))(m:∀a o b z,k.Dm a o b=true->P (.BinOp a o b z))(i:∀a os L z,k.Do a os L=true->P (.Compare a os L z))(U:∀o a z,k.kUn o a=true->P (.UnaryOp o a z))(v:∀o w z,k.wL o w=true->P (.BoolOp o w z))(V:∀t a b z,k.kIf t a b=true->P (.IfExp t a b z))(j:∀f Q y p,k.wM f Q y p=true->P (.Call f Q y p))(J:∀a T s z,k.Gi a T s=true->P (.FormattedValue a T s z))(O:∀w z,k.wN w=true->P (.JoinedStr w z))(g:∀a C B p,k.Av a C B p=true->P (.ListComp a C B p)):P e:=by cases e <;> first | exact ff h | exact n _ _ h | exact N _ _ _ h | exact A _ _ _ h | exact D _ _ _ h | exact E _ _ _ _ h | exact I _ _ _ h | exact M _ _ h | exact d _ _ _ h | exact m _ _ _ _ h | exact i _ _ _ _ h | exact U _ _ _ h | exact v _ _ _ h | exact V _ _ _ _ h | exact j _ _ _ _ h | exact J _ _ _ _ h | exact O _ _ h | exact g _ _ _ _ h
def cW(e:LF)(K:Lj->QC->LG):Bool:=vw { wI:=K } e
def cw{K:Lj->QC->LG}(h:cW e K=true)(k:∀x p,K x p=true->P (.Name x p)):P e:=gX h k ff3 ff3 ff3 ff4 ff3 ff2 ff3 ff4 ff4 ff3 ff3 ff4 ff4 ff4 ff2 ff4
def rK(e:LF)(K:Yu->LG):Bool:=vw { rJ:=K } e
def pV{K:Yu->LG}(h:rK e K=true)(k:∀c z Q,K c=true->P (.Constant c z Q)):P e:=gX h ff2 k ff3 ff3 ff4 ff3 ff2 ff3 ff4 ff4 ff3 ff3 ff4 ff4 ff4 ff2 ff4
def jl(e:LF)(K:LF->Lj->QC->LG):Bool:=vw { wJ:=K } e
def fV{K:LF->Lj->QC->LG}(h:jl e K=true)(k:∀o x p,K o x p=true->P (.Attribute o x p)):P e:=gX h ff2 ff3 k ff3 ff4 ff3 ff2 ff3 ff4 ff4 ff3 ff3 ff4 ff4 ff4 ff2 ff4
def pW(e:LF)(K:LF->LF->LG):Bool:=vw { Dk:=K } e
def jS{K:LF->LF->LG}(h:pW e K=true)(k:∀o x z,K o x=true->P (.Subscript o x z)):P e:=gX h ff2 ff3 ff3 k ff4 ff3 ff2 ff3 ff4 ff4 ff3 ff3 ff4 ff4 ff4 ff2 ff4
def wO(e:LF)(K:rt LF->rt LF->rt LF->LG):Bool:=vw { u6:=K } e
def xX{K:rt LF->rt LF->rt LF->LG}(h:wO e K=true)(k:∀l u s z,K l u s=true->P (.Slice l u s z)):P e:=gX h ff2 ff3 ff3 ff3 k ff3 ff2 ff3 ff4 ff4 ff3 ff3 ff4 ff4 ff4 ff2 ff4
def nQ(e:LF)(K:cp LF->LG):Bool:=vw { Dl:=K } e
def iT{K:cp LF->LG}(h:nQ e K=true)(k:∀es z Q,K es=true->P (.Tuple es z Q)):P e:=gX h ff2 ff3 ff3 ff3 ff4 k ff2 ff3 ff4 ff4 ff3 ff3 ff4 ff4 ff4 ff2 ff4
def Ir(e:LF)(K:cp LF->LG):Bool:=vw { kLi:=K } e
def Gj{K:cp LF->LG}(h:Ir e K=true)(k:∀z Q,K z=true->P (.List z Q)):P e:=gX h ff2 ff3 ff3 ff3 ff4 ff3 k ff3 ff4 ff4 ff3 ff3 ff4 ff4 ff4 ff2 ff4
def Aw(e:LF)(K:cp (rt LF)->cp LF->LG):Bool:=vw { wK:=K } e
def Ax{K:cp (rt LF)->cp LF->LG}(h:Aw e K=true)(k:∀z Q w,K z Q=true->P (.Dict z Q w)):P e:=gX h ff2 ff3 ff3 ff3 ff4 ff3 ff2 k ff4 ff4 ff3 ff3 ff4 ff4 ff4 ff2 ff4
def ER(e:LF)(K:LF->Sa->LF->LG):Bool:=vw { Dm:=K } e
def Dp{K:LF->Sa->LF->LG}(h:ER e K=true)(k:∀a o b z,K a o b=true->P (.BinOp a o b z)):P e:=gX h ff2 ff3 ff3 ff3 ff4 ff3 ff2 ff3 k ff4 ff3 ff3 ff4 ff4 ff4 ff2 ff4
def ET(e:LF)(K:LF->cp Yv->cp LF->LG):Bool:=vw { Do:=K } e
def Dq{K:LF->cp Yv->cp LF->LG}(h:ET e K=true)(k:∀a os z Q,K a os z=true->P (.Compare a os z Q)):P e:=gX h ff2 ff3 ff3 ff3 ff4 ff3 ff2 ff3 ff4 k ff3 ff3 ff4 ff4 ff4 ff2 ff4
def Gk(e:LF)(K:X8->LF->LG):Bool:=vw { kUn:=K } e
def Ay{K:X8->LF->LG}(h:Gk e K=true)(k:∀o a z,K o a=true->P (.UnaryOp o a z)):P e:=gX h ff2 ff3 ff3 ff3 ff4 ff3 ff2 ff3 ff4 ff4 k ff3 ff4 ff4 ff4 ff2 ff4
def kF(e:LF)(K:YX->cp LF->LG):Bool:=vw { wL:=K } e
def jA{K:YX->cp LF->LG}(h:kF e K=true)(k:∀o z Q,K o z=true->P (.BoolOp o z Q)):P e:=gX h ff2 ff3 ff3 ff3 ff4 ff3 ff2 ff3 ff4 ff4 ff3 k ff4 ff4 ff4 ff2 ff4
def Iu(e:LF)(K:LF->LF->LF->LG):Bool:=vw { kIf:=K } e
def Gl{K:LF->LF->LF->LG}(h:Iu e K=true)(k:∀t a b z,K t a b=true->P (.IfExp t a b z)):P e:=gX h ff2 ff3 ff3 ff3 ff4 ff3 ff2 ff3 ff4 ff4 ff3 ff3 k ff4 ff4 ff2 ff4
def lb(e:LF)(K:LF->cp LF->cp Wu->QC->LG):Bool:=vw { wM:=K } e
def iv{K:LF->cp LF->cp Wu->QC->LG}(h:lb e K=true)(k:∀f z Q p,K f z Q p=true->P (.Call f z Q p)):P e:=gX h ff2 ff3 ff3 ff3 ff4 ff3 ff2 ff3 ff4 ff4 ff3 ff3 ff4 k ff4 ff2 ff4
def Az(e:LF)(K:LF->Nj->rt LF->LG):Bool:=vw { Gi:=K } e
def wP{K:LF->Nj->rt LF->LG}(h:Az e K=true)(k:∀a z s Q,K a z s=true->P (.FormattedValue a z s Q)):P e:=gX h ff2 ff3 ff3 ff3 ff4 ff3 ff2 ff3 ff4 ff4 ff3 ff3 ff4 ff4 k ff2 ff4
def AA(e:LF)(K:cp LF->LG):Bool:=vw { wN:=K } e
def AB{K:cp LF->LG}(h:AA e K=true)(k:∀z Q,K z=true->P (.JoinedStr z Q)):P e:=gX h ff2 ff3 ff3 ff3 ff4 ff3 ff2 ff3 ff4 ff4 ff3 ff3 ff4 ff4 ff4 k ff4
def u7(e:LF)(K:LF->cp Rj->Ql->QC->LG):Bool:=vw { Av:=K } e
def tD{K:LF->cp Rj->Ql->QC->LG}(h:u7 e K=true)(k:∀a z Q p,K a z Q p=true->P (.ListComp a z Q p)):P e:=gX h ff2 ff3 ff3 ff3 ff4 ff3 ff2 ff3 ff4 ff4 ff3 ff3 ff4 ff4 ff4 ff2 k
end
def on1{z:Type}(l:cp z)(K:z->LG):Bool:=match l with | [a]=>K a | _=>false
def on2{z:Type}(l:cp z)(K:z->z->LG):Bool:=match l with | [a,b]=>K a b | _=>false
def on3{z:Type}(l:cp z)(K:z->z->z->LG):Bool:=match l with | [a,b,c]=>K a b c | _=>false
section
variable{z:Type}{P:cp z->Prop}{l:cp z}
def Iv{K:z->z->z->LG}(h:on3 l K=true)(k:∀a b c,K a b c=true->P [a,b,c]):P l:=by
 rcases l with _ | ⟨_,_ | ⟨_,_ | ⟨_,_ | _⟩⟩⟩ <;> first | exact ff h | exact k _ _ _ h
def i9{K:z->LG}(h:on1 l K=true)(k:∀a,K a=true->P [a]):P l:=by
 rcases l with _ | ⟨_,_ | _⟩ <;> first | exact ff h | exact k _ h
def lN{K:z->z->LG}(h:on2 l K=true)(k:∀a b,K a b=true->P [a,b]):P l:=by
 rcases l with _ | ⟨_,_ | ⟨_,_ | _⟩⟩ <;> first | exact ff h | exact k _ _ h
end
abbrev CkT:=CE->LG->NM->VM->LF->LG
section
variable(Q:CK)(w:LG)(c:CkT)(nm:NM)(z:VM)
def kG(x:Lj):Bool:=decide (kd nm x=aM .globalImplicit)
def tE(x y:Lj):Bool:=cT x y&&kG nm x&&Il Q.pT x
def gR(y:Lj)(e:LF)(K:cp LF->LG):Bool:=lb e λf Y U v=>U.isEmpty&&cW f (λx v=>tE Q nm x y)&&K Y
def lY(a:CE)(y:cp LF):Bool:=on1 y λe=>aW e&&c a false nm z e
def Dr(a b:CE)(y:cp LF):Bool:=on2 y λe f=>aW e&&aW f&&c a false nm z e&&c b false nm z f
def nR(y:Lj)(o:CE)(e:LF)(K:cp LF->LG):Bool:=lb e λf v V Y=>V.isEmpty&&jl f (λU x k=>cT x y&&bU U&&(k.endLine==Y.line)&&c o false nm z U)&&K v
def ntB(U:Lj->LG)(y:VM)(v:cp ki):cp LF->Bool:=v.rec Q7 λi V k Y=>Y.casesOn false λe Y=>
 cW e (λx V=>rE y x i&&(decide (kd nm x=aM .local)||(decide (kd nm x=aM .cell)&&U x)))&&k Y
def AC(Y:Lj->LG)(y:VM)(t:LT)(e:LF):Bool:=match t with
 | .n i=>ntB nm Y y [i] [e]
 | .t is=>nQ e λes=>ntB nm Y y is es
def nT(e:LF):Bool:=nQ e λy=>true
def u8(i:CI):Bool:=match i with
 | .bu _=>true
 | .ai _=>true
 | _=>false
def AD(e:LF):Bool:=cW e (λy y=>true)||jl e (λy y y=>true)||pW e (λy y=>true)||lb e λy y y y=>true
def Gm(l:CE):Bool:=match l with
 | .c v=>match v with | .none=>true | _=>false
 | _=>false
def rL(v:CV)(k:Yu):Bool:=match v with
 | .int i=>decide (k=.int i)
 | .none=>decide (k=.none)
 | .bool b=>decide (k=.bool b)
 | .str s=>match k with | .str q=>cT s q | _=>false
 | _=>false
def pX(as:cp CE):cp LF->Bool:=as.rec Q7 λa U Y y=>y.casesOn false λe y=>aW e&&c a false nm z e&&Y y
def fnB(l:cp (Lj×ki))(f:ki)(as:cp CE)(e:LF):Bool:=lb e λg y Y U=>Y.isEmpty&&cW g (λx U=>kG nm x&&jk x&&rE l x f)&&pX c nm z as y
def AE(l:CE)(o:rt LF):Bool:=match o with
 | some q=>c l false nm z q
 | none=>Gm l
def Go(i:CI)(e:LF):Bool:=match i with
 | .val a=>c a false nm z e
 | .bu a=>gR Q nm Aq e (lY c nm z a)
 | .rng as=>gR Q nm Ar e (pX c nm z as)
 | .ai a=>nR c nm z An a e λy=>y.isEmpty
def Iw(as:cp CE)(y:cp LF):Bool:=match as with
 | []=>y.isEmpty
 | a::as=>as.isEmpty&&on1 y λe=>c a true nm z e
def coB(U:CE)(t:LT)(i:CI)(v:cp CE)(Y:LF)(g:Rj)(y:Ql):Bool:=
 decide (g.is_async=0)&&Ak nm z y&&AD g.iter&&Go Q c nm z i g.iter&&Ad (aG t g.target++pU nm z y.names)&&AC (Ai nm y.names) (Aj y.names) (aG t g.target++pU nm z y.names) t g.target
  && (nT g.target||!(u8 i))&&c U false (Ai nm y.names) (aG t g.target++pU nm z y.names) Y&&Iw c (Ai nm y.names) (aG t g.target++pU nm z y.names) v g.ifs
def Ix(E:CE)(t:LG)(nm:NM)(z:VM)(e:LF):Bool:=match E with
 | .bad=>true
 | .c v=>rK e (rL v)||cW e λx L=>kG nm x&&jk x&&Ik Q.fN x v
 | .v i=>cW e λx L=>decide (kd nm x=aM .local∨kd nm x=aM .cell∨kd nm x=aM .free)&&jk x&&rE z x i
 | .at a n=>jl e λo x L=>atN Q.AN n x&&OC n Q.nA&&bU o&&c a false nm z o
 | .ix a k=>pW e λo O=>re O&&c a false nm z o&&c k false nm z O
 | .sl a lo I=>pW e λo O=>wO O λl u s=>s.isNone&&c a false nm z o&&AE c nm z lo l&&AE c nm z I u
 | .tu as=>nQ e λU=>Oc as.length 1000&&pX c nm z as U
 | .li as=>Ir e λU=>Oc as.length 1000&&pX c nm z as U
 | .d0=>Aw e λT V=>T.isEmpty&&V.isEmpty
 | .op o a b=>ER e λy j Y=>decide (j=rg o)&&c a false nm z y&&c b false nm z Y
 | .cm o a b=>ET e λy os M=>on1 os λj=>on1 M λY=>decide (j=lE o)&&!(Uu j Y)&&c a false nm z y&&c b false nm z Y
 | .nt a=>Gk e λo y=>decide (o=.Not)&&c a t nm z y
 | .ng a=>Gk e λo y=>decide (o=.USub)&&c a false nm z y
 | .an a b=>kF e λo V=>decide (o=.And)&&on2 V λy Y=>c a t nm z y&&c b t nm z Y
 | .an3 a b d=>t&&kF e λo V=>decide (o=.And)&&on3 V λy Y C=>c a t nm z y&&(c b t nm z Y&&c d t nm z C)
 | .orr a b=>kF e λo V=>decide (o=.Or)&&on2 V λy Y=>c a t nm z y&&c b t nm z Y
 | .ife d a b=>!t&&Iu e λC y Y=>c d true nm z C&&c a false nm z y&&c b false nm z Y
 | .fn f as=>w&&fnB c nm z Q.fns f as e
 | .nw k as=>w&&fnB c nm z Q.fns k as e
 | .me o m as=>w&&lb e λf U T B=>T.isEmpty&&jl f (λj x h=>atN Q.AN m x&&bU j&&(h.endLine==B.line)&&c o false nm z j)&&OC U.length 30&&pX c nm z as U
 | .b1 k a=>match k with
  | .len=>w&&gR Q nm Gc e (lY c nm z a)
  | .list=>gR Q nm Ap e (lY c nm z a)
  | .tuple=>gR Q nm u5 e (lY c nm z a)
  | .sorted=>gR Q nm gC e (lY c nm z a)
  | .all=>w&&gR Q nm Gd e (lY c nm z a)
  | .bS=>w&&gR Q nm gC e λU=>on1 U λe=>gR Q nm Df e (lY c nm z a)
 | .sx=>gR Q nm Df e λU=>U.isEmpty
 | .mn a b=>w&&gR Q nm Ge e (Dr c nm z a b)
 | .ap o x=>nR c nm z rH o e (lY c nm z x)
 | .po o x=>nR c nm z Gb o e (lY c nm z x)
 | .jo o x=>nR c nm z Ao o e (lY c nm z x)
 | .ins o i x=>nR c nm z rI o e (Dr c nm z i x)
 | .ge o k d=>nR c nm z De o e λU=>Dr c nm z k d U||(lY c nm z k U&&Gm d)
 | .js a b=>AA e λV=>match V with
  | [p,q,r]=>Az p (λy N s=>decide (N=115)&&s.isNone&&c a false nm z y)&&rK q (rL (.str As))&&Az r (λY N s=>decide (N=115)&&s.isNone&&c b false nm z Y)
  | _=>false
 | .co A F i D=>w&&u7 e λJ P R L=>on1 P λg=>coB Q c nm z A F i D J g R
end
def chk(Q:CK)(w:LG):ki->CkT
 | 0=>λz z z z z=>false
 | n+1=>Ix Q w (chk Q w n)
def dJ(g:G)(z:OR)(Q:VM)(w:CE)(t:LG)(e:LF):Prop:=(t=false->ES g z Q w (Mb e z))/\(t=true->TS g z Q w (Ou e z (Mb e z)))
def nU(h:AD e=true):∀x,Nq e Q x=pure x:=λx=>
 (Mu.mp h).elim (λh=>(Mu.mp h).elim (λh=>(Mu.mp h).elim (λh=>cw (P:=λe=>Nq e Q x=pure x) h λz z z=>rfl) λh=>fV (P:=λe=>Nq e Q x=pure x) h λz z z z=>rfl) λh=>jS (P:=λe=>Nq e Q x=pure x) h λz z z z=>rfl) λh=>iv (P:=λe=>Nq e Q x=pure x) h λz z z z z=>rfl
theorem wQ(h:Gm l=true):l=.c .none:=by
 cases l with
 | c v=>cases v <;> first | rfl | exact ff h
 | _=>exact ff h
def Ds(h:nT e=true):∃z k p,e=.Tuple z k p:=iT (P:=λe=>∃z k p,e=.Tuple z k p) h λz k p Q=>⟨z,k,p,rfl⟩
section
variable{Q:CK}{w:LG}{c:CkT}{nm:NM}{vm:VM}{g:G}{env:OR}{e:LF}
theorem EU{y:Lj->LG}{k:Lj->ki->Prop}(U:∀x i,(kd nm x=aM .local∨(kd nm x=aM .cell/\y x=true))->k x i):∀{es:cp LF},ntB nm y z is es=true->NT k z is es:=by
 induction is with
 | nil=>
  intro es h
  cases es with
  | nil=>exact .nil
  | cons=>exact ff h
 | cons i is v=>
  intro es h
  cases es with
  | nil=>exact ff h
  | cons e es=>exact cw (P:=λe=>NT k z (i::is) (e::es)) (ab h) λx p Y=>.cons (cV (ab Y)) (U x i ((Mu.mp (ag Y)).imp p6 λq=>⟨p6 (ab q),ag q⟩)) (v (ag h))
theorem AF{y:Lj->LG}{k:Lj->ki->Prop}(Y:∀x i,(kd nm x=aM .local∨(kd nm x=aM .cell/\y x=true))->k x i)(h:AC nm y z t e=true):lW k z t e:=by
 cases t with
 | n i=>
  have U:=EU (is:=[i]) (es:=[e]) Y h
  cases U with
  | cons a b c=>exact⟨_,_,rfl,.cons a b c⟩
 | t is=>exact iT (P:=λe=>lW k z (.t is) e) h λes p q h=>⟨es,p,q,rfl,EU Y h⟩
def EV(z:bM env nm)(h:AC nm (λy=>true) vm t e=true):lW (LC env) vm t e:=AF (λx y q=>q.imp (z.kd x).trans λq=>(z.kd x).trans q.1) h
def mw(C:CK.Ok Q g)(z:bM env nm){P:LF->Prop}(h:cW f (λx Y=>tE Q nm x y)=true)(k:∀p,env.kindOf y=aM .globalImplicit->P9 g.K LU y=aM none->P (.Name y p)):P f:=
 cw h λx p h=>bb.mp (ab (ab h))▸k p ((z.kd y).trans (p6 (bb.mp (ab (ab h))▸ag (ab h)))) (C.pT _ (bb.mp (ab (ab h))▸Ah (ag h)))
def dR(C:CK.Ok Q g)(U:bM env nm){P:LF->Prop}{K:cp LF->LG}(h:gR Q nm y e K=true)(k:∀z Y p,K z=true->env.kindOf y=aM .globalImplicit->P9 g.K LU y=aM none->P (.Call (.Name y Y) z [] p)):P e:=
 iv h λf z v p h=>mw C U (P:=λf=>P (.Call f z v p)) (ag (ab h)) λY V j=>Mt.mp (ab (ab h))▸k z Y p (ag h) V j
def OkC(g:G)(c:CkT):Prop:=∀{z:CE} {t:LG} {nm:NM} {vm:VM} {e:LF},c z t nm vm e=true->∀{env:OR},bM env nm->dJ g env vm z t e
def OkC.es(y:OkC g c)(h:c z false nm vm e=true)(Y:bM env nm):ES g env vm z (Mb e env):=(y h Y).1 rfl
def OkC.ts(y:OkC g c)(h:c z true nm vm e=true)(Y:bM env nm):TS g env vm z (Ou e env (Mb e env)):=(y h Y).2 rfl
def AG(O:g.Ok)(y:Ou e env (Mb e env)=(do let v ← Mb e env;Wk e.pos;Q1 [v] (Q8 v)))(h:ES g env vm z (Mb e env)):dJ g env vm z t e:=⟨λY=>h,λY=>ES.J2 O h y⟩
def fi(Y:OkC g c)(U:bM env nm){P:cp LF->Prop}(h:lY c nm vm a y=true)(k:∀e,[e].all aW=true->(∀{z:QC},ESs g env vm [a] (MV (M1 z (Ml [e] env))))->P [e]):P y:=
 i9 h λe h=>k e (by(erw[QJ];erw[ab h]);rfl) (ESs.jf (ab h) (Y.es (ag h) U) ESs.nil)
def u9(y:OkC g c)(Y:bM env nm){P:cp LF->Prop}(h:Dr c nm vm a b U=true)(k:∀e f,[e,f].all aW=true->(∀{z:QC},ESs g env vm [a,b] (MV (M1 z (Ml [e,f] env))))->P [e,f]):P U:=
 lN h λe f h=>k e f (by(erw[QJ];erw[QJ];erw[ab (ab (ab h))];erw[ag (ab (ab h))]);rfl) (ESs.jf (ab (ab (ab h))) (y.es (ag (ab h)) Y) (ESs.jf (ag (ab (ab h))) (y.es (ag h) Y) ESs.nil))
theorem ew(U:OkC g c)(v:bM env nm){as:cp CE}:∀{z:cp LF},pX c nm vm as z=true->z.all aW=true/\∀{y:QC},ESs g env vm as (MV (M1 y (Ml z env))):=by
 induction as with
 | nil=>
  intro z h
  cases z with
  | nil=>exact⟨rfl,ESs.nil⟩
  | cons=>exact ff h
 | cons a as V=>
  intro z h
  cases z with
  | nil=>exact ff h
  | cons e z=>
   have Y:=V (ag h)
   exact⟨rv.mpr ⟨ab (ab h),Y.1⟩,ESs.jf (ab (ab h)) (U.es (ag (ab h)) v) Y.2⟩
def iU(V:OkC g c)(j:bM env nm){P:LF->Prop}{K:cp LF->LG}(h:nR c nm vm y o e K=true)(k:∀z Y U p,K Y=true->bU z=true->(U.endLine==p.line)=true->ES g env vm o (Mb z env)->P (.Call (.Attribute z y U) Y [] p)):P e:=
 iv h λf Y J p h=>fV (P:=λf=>P (.Call f Y J p)) (ag (ab h)) λz x U v=>Mt.mp (ab (ab h))▸bb.mp (ab (ab (ab v)))▸k z Y U p (ag h) (ag (ab (ab v))) (ag (ab v)) (V.es (ag v) j)
theorem wR(C:CK.Ok Q g)(U:OkC g c)(z:bM env nm)(h:Go Q c nm vm i e=true):IS g env vm i e:=by
 cases i with
 | val a=>exact IS.val C.ok (U.es h z)
 | bu a=>exact dR C z (P:=λe=>IS g env vm (.bu a) e) h λv V p h=>fi U z (P:=λv=>_->_->IS g env vm (.bu a) (.Call (.Name Aq V) v [] p)) h λe k j y Y=>(by rw[Gh] at y Y ⊢;exact IS.bu C.ok y Y k j)
 | rng as=>exact dR C z (P:=λe=>IS g env vm (.rng as) e) h λv V p h y Y=>(by rw[Dj] at y Y ⊢;exact IS.rng C.ok y Y (ew U z h).1 (ew U z h).2)
 | ai a=>exact iU U z (P:=λe=>IS g env vm (.ai a) e) h λO v f p J y Y o=>Mt.mp J▸Dh▸IS.ai C.ok y Y o
theorem Dt(U:OkC g c)(v:∀(C:LZ) (Y:cp (Lj×LZ)),bM (OB z Y C env) nm){as:cp CE}(h:Iw c nm vm as y=true):ig g z env vm as y:=by
 cases as with
 | nil=>
  cases y with
  | nil=>exact .nil
  | cons=>exact ff h
 | cons a as=>exact Mt.mp (ab h)▸i9 (P:=λy=>ig g z env vm [a] y) (ag h) λe h=>.one λC Y=>U.ts h (v C Y)
structure CoR(g:G)(env:OR)(vm:VM)(elt:CE)(t:LT)(i:CI)(ifs:cp CE)(Km:LF)(gg:Rj)(sc:Ql)(vm0:VM):Prop where
 as:gg.is_async=0
 V:ie sc env vm vm0
 fold:∀x,Nq gg.iter env x=pure x
 hi:IS g env vm i gg.iter
 F:e9 (aG t gg.target++vm0)
 ht:∀C,lW (LO (coE env sc C) (ocl sc C)) (aG t gg.target++vm0) t gg.target
 hto:(∃es k p,gg.target=.Tuple es k p)∨∀ce,i≠.bu ce/\i≠.ai ce
 Iy:∀C cl,ES g (OB sc cl C env) (aG t gg.target++vm0) elt (Mb Km (OB sc cl C env))
 hts:ig g sc env (aG t gg.target++vm0) ifs gg.ifs
def wS(h:(nT t||!(u8 i))=true):(∃y k p,t=.Tuple y k p)∨∀z,i≠.bu z/\i≠.ai z:=
 (Mu.mp h).imp Ds λh z=>⟨λe=>by subst e;exact ff h,λe=>by subst e;exact ff h⟩
def AH(C:CK.Ok Q g)(k:OkC g c)(j:bM env nm)(h:coB Q c nm vm Y t i U y o v=true):CoR g env vm Y t i U y o v (pU nm vm v.names):=
 have O:=ab h;have p:=ab O;have f:=ab p;have l:=ab f;have L:=ab l;have T:=ab L;have b:=ab T
 have V:=Am j (ag b)
 have z:=λC J=>j.comp V.kind J C
 ⟨p6 (ab b),V,nU (ag T),wR C k j (ag L),wH (ag l),λC=>AF (λx B q=>q.imp ((z C (clE env v C)).kd x).trans λq=>⟨((z C (clE env v C)).kd x).trans q.1,i8 (.inl (u4 q.2))⟩) (ag f),wS (ag p),λC J=>k.es (ag O) (z C J),Dt k z (ag h)⟩
def EW(C:CK.Ok Q g)(V:OkC g c)(Y:bM env nm){as:cp CE}{P:LF->Prop}(h:fnB c nm vm Q.fns f as e=true)
(k:∀x U z p,env.kindOf x=aM .globalImplicit->(x==Li "__debug__")=false->P9 g.K LU x=aM (aM (.ref f))->RA g.K (.ref f)=true->z.all aW=true->(∀{v:QC},ESs g env vm as (MV (M1 v (Ml z env))))->P (.Call (.Name x U) z [] p)):P e:=
 iv h λj z J p h=>cw (P:=λj=>P (.Call j z J p)) (ag (ab h)) λx U y=>Mt.mp (ab (ab h))▸k x U z p ((Y.kd x).trans (p6 (ab (ab y)))) (iu (ag (ab y))) (C.fns _ (cV (ag y))).1 (C.fns _ (cV (ag y))).2 (ew V Y (ag h)).1 (ew V Y (ag h)).2
theorem AI(h:rL v k=true):ES g env vm (.c v) (Mb (.Constant k n p) env):=by
 cases v with
 | int i=>exact p6 h▸ES.HP
 | none=>exact p6 h▸ES.FA
 | bool b=>exact p6 h▸ES.FB
 | str s=>cases k <;> first | exact ff h | exact bb.mp h▸ES.HQ
 | _=>exact ff h
theorem wT(z:OkC g c)(y:bM env nm)(h:AE c nm vm l o=true):ES g env vm l (VD o env):=by
 cases o with
 | some q=>exact z.es h y
 | none=>exact wQ h▸ES.xD
theorem Dv(C:CK.Ok Q g)(I:w=true->g.hd=true/\FS g)(V:OkC g c):OkC g (Ix Q w c):=by
 intro W t nm vm e h env Y
 have B:∀{e},Ou e env (Mb e env)=(do let v ← Mb e env;Wk e.pos;Q1 [v] (Q8 v))->ES g env vm W (Mb e env)->dJ g env vm W t e:=AG C.ok
 revert h
 cases W with
 | bad=>exact λL=>⟨λL L L L L L L L L L L X=>X.elim,λL L L L L L L L L L L X=>X.elim⟩
 | c v=>exact λh=>(Mu.mp h).elim (λh=>pV h λk n p h=>B rfl (AI h)) λh=>cw h λx p h=>(C.fN _ (Ag (ag h))).elim λv j=>B rfl (ES.fN C.ok ((Y.kd x).trans (p6 (ab (ab h)))) (iu (ag (ab h))) j.1 j.2)
 | v i=>exact λh=>cw h λx p h=>B rfl (ES.v (cV (ag h)) ((Y.kd x).symm▸p6 (ab (ab h))) (iu (ag (ab h))) (Af (ag (ab h))))
 | «at» a n=>exact λh=>fV h λo x p h=>B rfl (ES.at C.ok (V.es (ag h) Y) (C.an▸rF (ab (ab (ab h)))) (C.na▸Qy.mp (ag (ab (ab h)))) (ag (ab h)))
 | ix a k=>exact λh=>jS h λo Z p h=>B rfl (ES.ix C.ok (V.es (ag (ab h)) Y) (V.es (ag h) Y) (ab (ab h)))
 | sl a lo hi=>exact λh=>jS h λo Z p h=>xX (P:=λZ=>dJ g env vm (.sl a lo hi) t (.Subscript o Z p)) h λl u s q h=>NC.mp (ab (ab (ab h)))▸B rfl (ES.sl C.ok (V.es (ag (ab (ab h))) Y) (wT V Y (ag (ab h))) (wT V Y (ag h)))
 | tu as=>exact λh=>iT h λJ n p h=>B rfl (ES.tu (ew V Y (ag h)).2 (e0 (ab h)))
 | li as=>exact λh=>Gj h λJ p h=>B rfl (ES.li (ew V Y (ag h)).2 (e0 (ab h)))
 | d0=>exact λh=>Ax h λks r p h=>Mt.mp (ab h)▸Mt.mp (ag h)▸B rfl ES.d0
 | op o a b=>exact λh=>Dp h λM E F p h=>p6 (ab (ab h))▸B rfl (ES.op (V.es (ag (ab h)) Y) (V.es (ag h) Y))
 | cm o a b=>exact λh=>Dq h λM os bs p h=>i9 (P:=λos=>dJ g env vm (.cm o a b) t (.Compare M os bs p)) h λE h=>i9 (P:=λbs=>dJ g env vm (.cm o a b) t (.Compare M [E] bs p)) h λF h=>
   have hm:=ir (ag (ab (ab h)))
   have eo:=p6 (ab (ab (ab h)))
   eo▸⟨λL=>ES.cm C.ok (V.es (ag (ab h)) Y) (V.es (ag h) Y) (eo▸hm),λL=>TS.cm C.ok (V.es (ag (ab h)) Y) (V.es (ag h) Y) (eo▸hm)⟩
 | nt a=>exact λh=>Ay h λo M p h=>p6 (ab h)▸⟨λe=>ES.nt C.ok ((V (ag h) Y).1 e),λe=>TS.nt ((V (ag h) Y).2 e)⟩
 | ng a=>exact λh=>Ay h λo M p h=>p6 (ab h)▸B rfl (ES.ng (V.es (ag h) Y))
 | an a b=>exact λh=>jA h λo r p h=>lN (P:=λr=>dJ g env vm (.an a b) t (.BoolOp o r p)) (ag h) λM F U=>p6 (ab h)▸⟨λe=>ES.an C.ok ((V (ab U) Y).1 e) ((V (ag U) Y).1 e),λe=>TS.an ((V (ab U) Y).2 e) ((V (ag U) Y).2 e)⟩
 | an3 a b d=>exact λh=>jA (ag h) λo r p U=>Iv (P:=λr=>dJ g env vm (.an3 a b d) t (.BoolOp o r p)) (ag U) λM F d' q=>p6 (ab U)▸⟨λe=>ff (e.symm.trans (ab h)),λe=>TS.an3 ((V (ab q) Y).2 e) ((V (ab (ag q)) Y).2 e) ((V (ag (ag q)) Y).2 e)⟩
 | orr a b=>exact λh=>jA h λo r p h=>lN (P:=λr=>dJ g env vm (.orr a b) t (.BoolOp o r p)) (ag h) λM F U=>p6 (ab h)▸⟨λe=>ES.orr C.ok ((V (ab U) Y).1 e) ((V (ag U) Y).1 e),λe=>TS.orr ((V (ab U) Y).2 e) ((V (ag U) Y).2 e)⟩
 | ife d a b=>exact λh=>Gl (ag h) λd' M F p U=>⟨λL=>ES.ife (V.ts (ab (ab U)) Y) (V.es (ag (ab U)) Y) (V.es (ag U) Y),λe=>ff ((dd (!·) e).symm.trans (ab h:(!t)=true))⟩
 | fn f as=>exact λh=>EW C V Y (ag h) λx D J p j O A P h5 h6=>B rfl (ES.fn C.ok (I (ab h)).1 (I (ab h)).2 j O A P h5 h6)
 | nw k as=>exact λh=>EW C V Y (ag h) λx D J p j O A P h5 h6=>B rfl (ES.nw C.ok (I (ab h)).1 (I (ab h)).2 P j O A h5 h6)
 | me o m as=>exact λh=>iv (ag h) λf J ks p U=>fV (P:=λf=>dJ g env vm (.me o m as) t (.Call f J ks p)) (ag (ab (ab U))) λE x ap j=>Mt.mp (ab (ab (ab U)))▸B rfl (ES.me C.ok (I (ab h)).1 (I (ab h)).2 C.Cv (C.an▸rF (ab (ab (ab j)))) (ag (ab (ab j))) (ew V Y (ag U)).1 (ag (ab j)) (Qy.mp (ag (ab U))) (V.es (ag j) Y) (ew V Y (ag U)).2)
 | b1 k a=>cases k with
  | len=>exact λh=>dR C Y (ag h) λJ D p U=>fi V Y (P:=λJ=>_->_->dJ g env vm (.b1 .len a) t (.Call (.Name Gc D) J [] p)) U λe T N j O=>(by rw[Io] at j O ⊢;exact B rfl (ES.len C.ok (I (ab h)).1 (I (ab h)).2 C.l83 C.f83 j O T N))
  | list=>exact λh=>dR C Y h λJ D p U=>fi V Y (P:=λJ=>_->_->dJ g env vm (.b1 .list a) t (.Call (.Name Ap D) J [] p)) U λe T N j O=>(by rw[Gg] at j O ⊢;exact B rfl (ES.list C.ok j O T N))
  | tuple=>exact λh=>dR C Y h λJ D p U=>fi V Y (P:=λJ=>_->_->dJ g env vm (.b1 .tuple a) t (.Call (.Name u5 D) J [] p)) U λe T N j O=>(by rw[Di] at j O ⊢;exact B rfl (ES.tuple C.ok j O T N))
  | sorted=>exact λh=>dR C Y h λJ D p U=>fi V Y (P:=λJ=>_->_->dJ g env vm (.b1 .sorted a) t (.Call (.Name gC D) J [] p)) U λe T N j O=>(by rw[tC] at j O ⊢;exact B rfl (ES.sorted C.ok j O T N))
  | all=>exact λh=>dR C Y (ag h) λJ D p U=>fi V Y (P:=λJ=>_->_->dJ g env vm (.b1 .all a) t (.Call (.Name Gd D) J [] p)) U λe T N j O=>(by rw[Ip] at j O ⊢;exact B rfl (ES.all C.ok (I (ab h)).1 j O T N))
  | bS=>exact λh=>dR C Y (P:=λe=>dJ g env vm (.b1 .bS a) t e) (ag h) λJ D p U j O=>i9 (P:=λJ=>dJ g env vm (.b1 .bS a) t (.Call (.Name gC D) J [] p)) U λe U=>dR C Y (P:=λe=>dJ g env vm (.b1 .bS a) t (.Call (.Name gC D) [e] [] p)) U λJ z0 p2 U A P=>fi V Y (P:=λJ=>dJ g env vm (.b1 .bS a) t (.Call (.Name gC D) [.Call (.Name Df z0) J [] p2] [] p)) U λe T N=>(by rw[tC] at j O ⊢;rw[EQ] at A P ⊢;exact B rfl (ES.bS C.ok (I (ab h)).1 j O A P T N))
 | sx=>exact λh=>dR C Y h λJ D p U j O=>(by rw[EQ] at j O ⊢;exact Mt.mp U▸B rfl (ES.sx C.ok j O))
 | mn a b=>exact λh=>dR C Y (ag h) λJ D p U=>u9 V Y (P:=λJ=>_->_->dJ g env vm (.mn a b) t (.Call (.Name Ge D) J [] p)) U λe f T N j O=>(by rw[Iq] at j O ⊢;exact B rfl (ES.mn C.ok (I (ab h)).1 j O T N))
 | ap o x=>exact λh=>iU V Y h λE J ap p U j O A=>fi V Y (P:=λJ=>dJ g env vm (.ap o x) t (.Call (.Attribute E rH ap) J [] p)) U λe T N=>At▸B rfl (ES.ap j T O A N)
 | po o x=>exact λh=>iU V Y h λE J ap p U j O A=>fi V Y (P:=λJ=>dJ g env vm (.po o x) t (.Call (.Attribute E Gb ap) J [] p)) U λe T N=>Im▸B rfl (ES.po j T O A N)
 | jo o x=>exact λh=>iU V Y h λE J ap p U j O A=>fi V Y (P:=λJ=>dJ g env vm (.jo o x) t (.Call (.Attribute E Ao ap) J [] p)) U λe T N=>Gf▸B rfl (ES.jo j T O A N)
 | ins o i x=>exact λh=>iU V Y h λE J ap p U j O A=>u9 V Y (P:=λJ=>dJ g env vm (.ins o i x) t (.Call (.Attribute E rI ap) J [] p)) U λe f T N=>Au▸B rfl (ES.ins j T O A N)
 | ge o k d=>exact λh=>iU V Y h λE J ap p U j O A=>(Mu.mp U).elim (λU=>u9 V Y (P:=λJ=>dJ g env vm (.ge o k d) t (.Call (.Attribute E De ap) J [] p)) U λe f T N=>EP▸B rfl (ES.ge C.ok j T O A N)) λU=>fi V Y (P:=λJ=>dJ g env vm (.ge o k d) t (.Call (.Attribute E De ap) J [] p)) (ab U) λe T N=>EP▸B rfl (wQ (ag U)▸ES.ge1 C.ok j T O A N)
 | js a b=>exact λh=>AB h λr p h=>match r,h with
  | [x,y,z],h=>wP (P:=λx=>dJ g env vm (.js a b) t (.JoinedStr [x,y,z] p)) (ab (ab h)) λM cv s p1 j=>pV (P:=λy=>dJ g env vm (.js a b) t (.JoinedStr [.FormattedValue M cv s p1,y,z] p)) (ag (ab h)) λk n p2 O=>wP (P:=λz=>dJ g env vm (.js a b) t (.JoinedStr [.FormattedValue M cv s p1,.Constant k n p2,z] p)) (ag h) λF z5 s' p3 A=>
   (by
    obtain rfl:=p6 (ab (ab j))
    obtain rfl:=p6 (ab (ab A))
    obtain rfl:=NC.mp (ag (ab j))
    obtain rfl:=NC.mp (ag (ab A))
    cases k <;> first | exact ff O | exact(bb.mp O).symm.trans Dg▸B rfl (ES.js C.ok (V.es (ag j) Y) (V.es (ag A) Y)))
  | [],h=>ff h
  | [_],h=>ff h
  | [_,_],h=>ff h
  | _::_::_::_::_,h=>ff h
 | co z1 tg i z2=>exact λh=>tD (ag h) λS gs sc p U=>i9 (P:=λgs=>dJ g env vm (.co z1 tg i z2) t (.ListComp S gs sc p)) U λgg U=>match gg,AH C V Y U with
  | ⟨z6,iter,z4,z3⟩,R=>(show z3=0 from R.as)▸B rfl (ES.co (I (ab h)).1 R.V R.fold R.hi R.F R.ht R.hto R.Iy R.hts)
theorem Gp(C:CK.Ok Q g)(z:w=true->g.hd=true/\FS g)(n:ki):OkC g (chk Q w n):=by
 induction n with
 | zero=>exact λh=>ff h
 | succ n y=>exact Dv C z y
end
structure VKS where
 Gq:cp LF->LF->QC->Bool:=λζ ζ ζ=>false
 Gr:LF->Sa->LF->Bool:=λζ ζ ζ=>false
 sEx:LF->Bool:=λζ=>false
 Gs:LF->cp Of->cp Of->Bool:=λζ ζ ζ=>false
 Gu:LF->cp Of->cp Of->Bool:=λζ ζ ζ=>false
 sFr:LF->LF->cp Of->cp Of->Bool:=λζ ζ ζ ζ=>false
 Gv:rt LF->Bool:=λζ=>false
 Gw:Bool:=false
 AJ:Bool:=false
 AK:Bool:=false
 Gx:cp Of->cp UE->cp Of->cp Of->Bool:=λζ ζ ζ ζ=>false
def vwS(k:VKS)(s:Of):Bool:=match s with
 | .Assign z v p=>k.Gq z v p
 | .AugAssign t o v _=>k.Gr t o v
 | .Expr v _=>k.sEx v
 | .If t a b _=>k.Gs t a b
 | .While t b o _=>k.Gu t b o
 | .For t i b o _=>k.sFr t i b o
 | .Return v _=>k.Gv v
 | .Break _=>k.Gw
 | .Continue _=>k.AJ
 | .Pass _=>k.AK
 | .Try b Q o f _=>k.Gx b Q o f
 | _=>false
section
variable{P:Of->Prop}
def iw(h:vwS k s=true)(Y:∀w v p,k.Gq w v p=true->P (.Assign w v p))(U:∀t o v z,k.Gr t o v=true->P (.AugAssign t o v z))(V:∀v z,k.sEx v=true->P (.Expr v z))(j:∀t a b z,k.Gs t a b=true->P (.If t a b z))(J:∀t b o z,k.Gu t b o=true->P (.While t b o z))(O:∀t i b o z,k.sFr t i b o=true->P (.For t i b o z))(g:∀v z,k.Gv v=true->P (.Return v z))(l:∀z,k.Gw=true->P (.Break z))(L:∀z,k.AJ=true->P (.Continue z))(T:∀z,k.AK=true->P (.Pass z))(Q:∀b y o f z,k.Gx b y o f=true->P (.Try b y o f z)):P s:=by cases s <;> first | exact ff h | exact Y _ _ _ h | exact U _ _ _ _ h | exact V _ _ h | exact j _ _ _ _ h | exact J _ _ _ _ h | exact O _ _ _ _ _ h | exact g _ _ h | exact l _ h | exact L _ h | exact T _ h | exact Q _ _ _ _ _ h
def EX(s:Of)(K:cp LF->LF->QC->LG):Bool:=vwS { Gq:=K } s
def Dw{K:cp LF->LF->QC->LG}(h:EX s K=true)(k:∀z v p,K z v p=true->P (.Assign z v p)):P s:=iw h k ff4 ff2 ff4 ff4 ff5 ff2 ff1 ff1 ff1 ff5
def AL(s:Of)(K:LF->Sa->LF->LG):Bool:=vwS { Gr:=K } s
def wU{K:LF->Sa->LF->LG}(h:AL s K=true)(k:∀t o v z,K t o v=true->P (.AugAssign t o v z)):P s:=iw h ff3 k ff2 ff4 ff4 ff5 ff2 ff1 ff1 ff1 ff5
def Iz(s:Of)(K:LF->LG):Bool:=vwS { sEx:=K } s
def Gy{K:LF->LG}(h:Iz s K=true)(k:∀v z,K v=true->P (.Expr v z)):P s:=iw h ff3 ff4 k ff4 ff4 ff5 ff2 ff1 ff1 ff1 ff5
def EY(s:Of)(K:LF->cp Of->cp Of->LG):Bool:=vwS { Gs:=K } s
def Dx{K:LF->cp Of->cp Of->LG}(h:EY s K=true)(k:∀t a b z,K t a b=true->P (.If t a b z)):P s:=iw h ff3 ff4 ff2 k ff4 ff5 ff2 ff1 ff1 ff1 ff5
def EZ(s:Of)(K:LF->cp Of->cp Of->LG):Bool:=vwS { Gu:=K } s
def Dy{K:LF->cp Of->cp Of->LG}(h:EZ s K=true)(k:∀t b o z,K t b o=true->P (.While t b o z)):P s:=iw h ff3 ff4 ff2 ff4 k ff5 ff2 ff1 ff1 ff1 ff5
def IB(s:Of)(K:LF->LF->cp Of->cp Of->LG):Bool:=vwS { sFr:=K } s
def Gz{K:LF->LF->cp Of->cp Of->LG}(h:IB s K=true)(k:∀t i b o z,K t i b o=true->P (.For t i b o z)):P s:=iw h ff3 ff4 ff2 ff4 ff4 k ff2 ff1 ff1 ff1 ff5
def E0(s:Of)(K:rt LF->LG):Bool:=vwS { Gv:=K } s
def Dz{K:rt LF->LG}(h:E0 s K=true)(k:∀v z,K v=true->P (.Return v z)):P s:=iw h ff3 ff4 ff2 ff4 ff4 ff5 k ff1 ff1 ff1 ff5
def E3(s:Of)(K:LG):Bool:=vwS { Gw:=K } s
def DA{K:LG}(h:E3 s K=true)(k:∀z,K=true->P (.Break z)):P s:=iw h ff3 ff4 ff2 ff4 ff4 ff5 ff2 k ff1 ff1 ff5
def AM(s:Of)(K:LG):Bool:=vwS { AJ:=K } s
def AO{K:LG}(h:AM s K=true)(k:∀z,K=true->P (.Continue z)):P s:=iw h ff3 ff4 ff2 ff4 ff4 ff5 ff2 ff1 k ff1 ff5
def AP(s:Of)(K:LG):Bool:=vwS { AK:=K } s
def AQ{K:LG}(h:AP s K=true)(k:∀z,K=true->P (.Pass z)):P s:=iw h ff3 ff4 ff2 ff4 ff4 ff5 ff2 ff1 ff1 k ff5
def E4(s:Of)(K:cp Of->cp UE->cp Of->cp Of->LG):Bool:=vwS { Gx:=K } s
def DB{K:cp Of->cp UE->cp Of->cp Of->LG}(h:E4 s K=true)(k:∀b z o f Q,K b z o f=true->P (.Try b z o f Q)):P s:=iw h ff3 ff4 ff2 ff4 ff4 ff5 ff2 ff1 ff1 ff1 k
end
def fH(e:LF):Bool:=vw { wI:=λz z=>true,rJ:=λz=>true,wJ:=λz z z=>true,Dk:=λz z=>true,Dl:=λz=>true,kLi:=λz=>true,wK:=λz z=>true,Dm:=λz z z=>true,Do:=λz z z=>true,kUn:=λz z=>true,wL:=λz z=>true,kIf:=λz z z=>true,wM:=λz z z z=>true,wN:=λz=>true } e
def cG(h:fH e=true)(t:rt LF)(l:ki)(Q:OR):Pf e t l Q=pure false:=
 gX (P:=λe=>Pf e t l Q=pure false) h (λz z z=>rfl) (λz z z z=>rfl) (λz z z z=>rfl) (λz z z z=>rfl) ff4 (λz z z z=>rfl) (λz z z=>rfl) (λz z z z=>rfl) (λz z z z z=>rfl) (λz z z z z=>rfl) (λz z z z=>rfl) (λz z z z=>rfl) (λz z z z z=>rfl) (λz z z z z=>rfl) ff4 (λz z z=>rfl) λz z z z=>ff
def vb{z:OR}(h:z.kindOf x=aM .cell)(v:LF)(w:QC)(l:ki):Pf v (aM (.Name x w)) l z=pure false:=by
 have Q:∀b c d:LG,(b&&z.kindOf x==aM .local&&c&&d)=false:=λb c d=>by rw[h];cases b <;> rfl
 unfold Pf
 cases v <;> first | rfl | exact dd pure (Q _ _ _)
def jT(h:fH e=true)(t:LF)(l:ki)(z:OR):Ur [t] e l z=pure false:=cG h _ _ _
def pj(h:nT e=false)(Q:cp LF)(n:ki)(p:QC)(z:OR):Qf [.Tuple Q n p] e z=pure none:=by
 cases e <;> first | rfl | exact ff h.symm
section
variable(Q:CK)(hd:LG)(c:CkT)(nm:NM)(z:VM)
def kL(x:Lj):Bool:=decide (kd nm x=aM .local)
def kLC(x:Lj):Bool:=decide (kd nm x=aM .local∨kd nm x=aM .cell)
def E5(w:cp ki)(Y e:LF):Bool:=on2 w λi j=>nQ Y λU=>on2 U λv V=>cW v λx k=>cW V λy J=>nQ e λo=>on2 o λO p=>cW O λa f=>cW p λb f=>
 !(Re i j)&&rE z x i&&rE z y j&&kL nm x&&kL nm y&&(J.line==k.line)&&!(cT y x)&&jk a&&jk b
def IC(V:CE)(i:ki)(x:Lj)(k:QC)(v:LF):Bool:=match V with
 | .co y t j Y=>u7 v λw J U o=>kL nm x&&(k.line==o.line)&&!(U.names.any λp=>cT p.1 x&&decide (p.2=.local∨p.2=.cell))&&on1 J λg=>coB Q c nm z y t j Y w g U
 | _=>false
def ID(t:Tg)(w:CE)(y v:LF):Bool:=match t with
 | .n i=>cW y λx j=>rE z x i&&(kLC nm x&&fH v&&c w false nm z v||(decide (kd nm x=aM .cell)&&c w false nm z v||hd&&IC Q c nm z w i x j v))
 | .t V=>fH v&&hd&&c w false nm z v&&(nT v&&E5 nm z V y v||!(nT v)&&AC nm (λJ=>true) z (.t V) y)
 | .at o n=>jl y λY x J=>fH v&&c w false nm z v&&c o false nm z Y&&atN Q.AN n x&&OC n Q.nA
 | .ix o k=>pW y λY U=>fH v&&c w false nm z v&&c o false nm z Y&&c k false nm z U
 | .li o k=>pW y λY U=>fH v&&c w false nm z v&&c o false nm z Y&&c k false nm z U
def AS(q:Exc):Str:=match q with
 | .key=>⟨⟨[75,101,121,69,114,114,111,114]⟩⟩
 | .index=>⟨⟨[73,110,100,101,120,69,114,114,111,114]⟩⟩
def DC(q:Exc):Bool:=q.casesOn false true
def E6(w:cp Exc)(e:LF):Bool:=on1 w (λq=>cW e λx y=>tE Q nm x (AS q))||on2 w λq Y=>DC q&&!DC Y&&nQ e λU=>on2 U λa b=>cW a (λx y=>tE Q nm x (AS .index))&&cW b λx y=>tE Q nm x (AS .key)
abbrev CkS:=CS->LG->Of->LG
def gD(s:CkS)(y:cp CS)(hd:LG):cp Of->Bool:=y.rec Q7 λc U Y w=>w.casesOn false λb w=>s c hd b&&Y w
def E7(s:CkS)(g:CS)(hd:LG)(st:Of):Bool:=match g with
 | .bad=>true
 | .asg t w=>EX st λl v V=>on1 l λU=>ID Q hd (chk Q hd 30) nm z t w U v
 | .fS i o w=>AL st λt k v=>cW t λx V=>decide (k=rg o)&&rE z x i&&kLC nm x&&chk Q hd 30 w false nm z v
 | .gn L n o w=>AL st λt k v=>jl t λY x V=>decide (k=rg o)&&atN Q.AN n x&&OC n Q.nA&&chk Q hd 30 L false nm z Y&&match w with
  | .c T=>match T with
   | .int j=>chk Q hd 30 (.c (.int j)) false nm z v
   | _=>false
  | _=>false
 | .ex w=>Iz st λv=>fH v&&chk Q hd 30 w false nm z v
 | .ite t a b=>EY st λJ C y=>chk Q hd 30 t true nm z J&&gD s a hd C&&gD s b hd y
 | .whl t b=>EZ st λJ y Y=>Y.isEmpty&&chk Q hd 30 t true nm z J&&gD s b hd y
 | .fr t i b o=>hd&&IB st λU O y Y=>AD O&&Go Q (chk Q hd 30) nm z i O&&AC nm (λV=>true) z t U&&(nT U||!(u8 i))&&gD s b hd y&&gD s o hd Y
 | .ret w=>E0 st λv=>v.any λv=>chk Q hd 30 w false nm z v
 | .brk=>E3 st true
 | .cont=>AM st true
 | .mK=>AP st true
 | .try b B h=>hd&&E4 st λy N o f=>o.isEmpty&&f.isEmpty&&gD s b hd y&&on1 N fun
  | .ExceptHandler t n p _=>n.isNone&&t.any (E6 Q nm B)&&!(p.isEmpty)&&gD s h false p
def GA:ki->CkS
 | 0=>λw w w=>false
 | n+1=>E7 Q nm z (GA n)
def AT(w:cp CS)(hd:LG)(y:cp Of):Bool:=gD (GA Q nm z 30) w hd y
end
section
variable{z:CK}{hd:LG}{c:CkT}{nm:NM}{vm:VM}{g:G}{env:OR}{e:LF}
inductive ja(env:OR)(vm:VM)(is:cp ki)(tg e:LF):Prop
 | mk (i j:ki) (x y:Lj) (hi:is=[i,j]) (hx:(x,i)∈vm) (hy:(y,j)∈vm) (kx:env.kindOf x=aM .local) (ky:env.kindOf y=aM .local) (ne:i≠j) (h:Qf [tg] e env=pure (aM [x,y]))
def bM.bk(Q:bM env nm):env.blockKind=.function:=by unfold Env.blockKind;erw[Q.kind];rfl
def tF(U:bM env nm){Q w q q1 q2:QC}(v:env.kindOf x=aM .local)(V:env.kindOf y=aM .local)(k:(w.line==Q.line)=true)(Y:(y==x)=false)(j:(a==Li "__debug__")=false)(J:(b==Li "__debug__")=false) :
  Qf [.Tuple [.Name x Q,.Name y w] m p] (.Tuple [.Name a q1,.Name b q2] n q) env=pure (aM [x,y]):=by
 unfold Qf
 dsimp only
 rw[E1 (by rw[U.bk];exact Lq)]
 refine(E1 Lq).trans ?_
 rw[QI (b:=x),QI (b:=y),RW]
 ·refine(E1 ?_).trans ((E1 Lq).trans ((E1 (show ¬ ((a==Li "__debug__")&&((b==Li "__debug__")&&true))=true by rw[j];exact Lq)).trans rfl))
  rw[eraseDups_cons]
  show ¬ (false||(_::eraseDups (match !(y==x) with | true=>[y] | false=>[])).length != 2)=true
  rw[Y];exact Lq
 ·show(if (env.kindOf y==aM .local&&w.line==Q.line)=true then aM y else none)=aM y
  rw[V,k];rfl
 ·show(if (env.kindOf x==aM .local&&Q.line==Q.line)=true then aM x else none)=aM x
  rw[v,show(Q.line==Q.line)=true from Pi _];rfl
def DD(v:bM env nm)(h:E5 nm vm Y Q e=true):ja env vm Y Q e:=
 lN (P:=λY=>ja env vm Y Q e) h λi j h=>iT (P:=λQ=>ja env vm [i,j] Q e) h λJ n p h=>lN (P:=λJ=>ja env vm [i,j] (.Tuple J n p) e) h λo V h=>cw (P:=λo=>ja env vm [i,j] (.Tuple [o,V] n p) e) h λx w h=>cw (P:=λV=>ja env vm [i,j] (.Tuple [.Name x w,V] n p) e) h λy U h=>
  iT (P:=λe=>ja env vm [i,j] (.Tuple [.Name x w,.Name y U] n p) e) h λO m q h=>lN (P:=λO=>ja env vm [i,j] (.Tuple [.Name x w,.Name y U] n p) (.Tuple O m q)) h λf k h=>cw (P:=λf=>ja env vm [i,j] (.Tuple [.Name x w,.Name y U] n p) (.Tuple [f,k] m q)) h λa q1 h=>cw (P:=λk=>ja env vm [i,j] (.Tuple [.Name x w,.Name y U] n p) (.Tuple [.Name a q1,k] m q)) h λb q2 h=>
   have l:=ab h;have L:=ab l;have t:=ab L;have T:=ab t;have C:=ab T;have B:=ab C;have N:=ab B
   have A:=(v.kd x).trans (p6 (ag C))
   have D:=(v.kd y).trans (p6 (ag T))
   ⟨i,j,x,y,rfl,cV (ag N),cV (ag B),A,D,λe=>NP ((XG.mpr e).symm.trans (ir (ab N))),tF v A D (ag t) (jR (ir (ag L))) (iu (ag l)) (iu (ag h))⟩
def vc(v:bM env nm){Q:Ql}{y Y:QC}(j:env.kindOf x=aM .local)(J:(Y.line==y.line)=true)(o:(Q.names.any λp=>cT p.1 x&&decide (p.2=.local∨p.2=.cell))=false) :
  Pf (.ListComp w V Q y) (aM (.Name x Y)) l env=pure true:=by
 have O:(Q.names.any λ(n,k)=>n==x&&(k==.local||k==.cell))=false:=QE.mpr λp f U=>QE.mp o p f (rv.mpr ⟨bb.mpr (MU.mp (ab U)),Ln ((Mu.mp (ag U)).imp MU.mp MU.mp)⟩)
 show(pure (env.blockKind==.function&&env.kindOf x==aM .local&&Y.line==y.line&&!(Q.names.any λ(n,k)=>n==x&&(k==.local||k==.cell))):Sem LG)=pure true
 (erw[v.bk];erw[j];erw[J];erw[O]);rfl
def rM(q:Exc):AS q=Li (aQ q):=by cases q <;> decide +kernel
def DE{q:Exc}(h:DC q=true):Exc.index=q:=by cases q <;> first | rfl | exact ff h
def DF{q:Exc}(h:(!DC q)=true):Exc.key=q:=by cases q <;> first | rfl | exact ff h
def DG(C:CK.Ok z g)(Y:bM env nm)(h:E6 z nm Q e=true):ij g env Q e:=
 (Mu.mp h).elim (λh=>i9 (P:=λQ=>ij g env Q e) h λq h=>mw C Y (P:=λe=>ij g env [q] e) h λp w y=>(by rw[rM] at w y ⊢;exact .one w y))
  λh=>lN (P:=λQ=>ij g env Q e) h λq1 q2 h=>DE (ab (ab h))▸DF (ag (ab h))▸iT (P:=λe=>ij g env [.index,.key] e) (ag h) λU n p h=>lN (P:=λU=>ij g env [.index,.key] (.Tuple U n p)) h λa b h=>mw C Y (P:=λa=>ij g env [.index,.key] (.Tuple [a,b] n p)) (ab h) λk w y=>mw C Y (P:=λb=>ij g env [.index,.key] (.Tuple [.Name (AS .index) k,b] n p)) (ag h) λj v V=>(by
   rw[rM] at w y v V ⊢;erw[rM _]
   exact .two λq=>match q with | .key=>⟨v,V⟩ | .index=>⟨w,y⟩)
structure DH(g:G)(env:OR):Prop where
 hd:g.hd=true
 fs:FS g
 frs:ii g
 top:∃IE,g.fs=env::IE
 fr:env.frame=aM env.locals
theorem DI(C:CK.Ok z g)(B:hd=true->DH g env)(Y:OkC g c)(Q:bM env nm)(O:e9 vm)(h:ID z hd c nm vm t J U v=true):SS g env vm (.asg t J) (OP (.Assign [U] v p) env):=by
 cases t with
 | n i=>exact cw (P:=λU=>SS g env vm (.asg (.n i) J) (OP (.Assign [U] v p) env)) h λx a h=>(Mu.mp (ag h)).elim (λw=>SS.HZ O (Y.es (ag w) Q) (cV (ab h)) ((Q.kd x).symm▸p6 (ab (ab w))) (cG (ag (ab w)) _ _ _)) λw=>(Mu.mp w).elim (λw=>have k:=(Q.kd x).trans (p6 (ab w));SS.HZ O (Y.es (ag w) Q) (cV (ab h)) (.inr k) (vb k _ _ _)) λw=>(by
   cases J with
   | co f t A l=>exact tD (P:=λv=>SS g env vm (.asg (.n i) (.co f t A l)) (OP (.Assign [.Name x a] v p) env)) (ag w) λL D m r V=>i9 (P:=λD=>SS g env vm (.asg (.n i) (.co f t A l)) (OP (.Assign [.Name x a] (.ListComp L D m r) p) env)) (ag V) λF T=>match F,AH C Y Q T with
    | ⟨P,iter,E,N⟩,R=>
     have I:=(Q.kd x).trans (p6 (ab (ab (ab V))))
     (show N=0 from R.as)▸SS.Kc (B (ab w)).hd O (cV (ab h)) I (vc Q I (ag (ab (ab V))) (ir (ag (ab V)))) R.V R.fold R.hi R.F R.ht R.hto R.Iy R.hts
   | _=>exact ff (ag w))
 | t is=>
  have T:=ab h
  have V:=ab T
  exact(Mu.mp (ag h)).elim (λw=>match DD Q (ag w) with | .mk i j x y S W X Z e ne hs=>S▸SS.Ki (B (ag V)).hd O (Y.es (ag T) Q) W X Z e ne (jT (ab V) _ _ _) hs) λw=>(by
   have M:=EV Q (ag w)
   refine vT (id M) λes n q b ζ=>?_;subst b
   exact SS.Kd (B (ag V)).hd O (Y.es (ag T) Q) M (jT (ab V) _ _ _) (pj (ir (ab w)) _ _ _ _) rfl)
 | «at» o n=>exact fV (P:=λU=>SS g env vm (.asg (.at o n) J) (OP (.Assign [U] v p) env)) h λs x d h=>SS.Ke C.ok (Y.es (ag (ab (ab (ab h)))) Q) (Y.es (ag (ab (ab h))) Q) (C.an▸rF (ag (ab h))) (C.na▸Qy.mp (ag h)) (cG (ab (ab (ab (ab h)))) _ _ _)
 | ix o k=>exact jS (P:=λU=>SS g env vm (.asg (.ix o k) J) (OP (.Assign [U] v p) env)) h λs x d h=>SS.Kf C.ok (Y.es (ag (ab (ab h))) Q) (Y.es (ag (ab h)) Q) (Y.es (ag h) Q) (cG (ab (ab (ab h))) _ _ _)
 | li o k=>exact jS (P:=λU=>SS g env vm (.asg (.li o k) J) (OP (.Assign [U] v p) env)) h λs x d h=>SS.zB C.ok (Y.es (ag (ab (ab h))) Q) (Y.es (ag (ab h)) Q) (Y.es (ag h) Q) (cG (ab (ab (ab h))) _ _ _)
def CK.Ok.F5(C:CK.Ok z g)(b:LG):CK.Ok z (g.uh b):=⟨⟨C.ok.X,C.ok.gl,C.ok.bl,C.ok.nolimit,C.ok.builtins,C.ok.T⟩,C.fN,C.fns,C.pT,C.an,C.na,C.Cv,C.l83,C.f83⟩
def OkS(z:CK)(vm:VM)(env:OR)(s:CkS):Prop:=∀{Q:CS} {hd:LG} {st:Of},s Q hd st=true->∀{g:G},CK.Ok z g->(hd=true->DH g env)->SS g env vm Q (OP st env)
theorem dG(Y:OkS z vm env s):∀{hd:LG} {Q:cp Of},gD s w hd Q=true->∀{g:G},CK.Ok z g->(hd=true->DH g env)->SSs g env vm w (Q3 Q env):=by
 induction w with
 | nil=>
  intro hd Q h g _ _
  cases Q with
  | nil=>exact SSs.nil
  | cons=>exact ff h
 | cons c w U=>
  intro hd Q h g C y
  cases Q with
  | nil=>exact ff h
  | cons b Q=>exact SSs.cons (Y (ab h) C y) (U (ag h) C y)
theorem AU(Q:bM env nm)(l:e9 vm)(k:OkS z vm env s):OkS z vm env (E7 z nm vm s):=by
 intro m hd st h g C Y
 have U:OkC g (chk z hd 30):=Gp C (λe=>⟨(Y e).hd,(Y e).fs⟩) 30
 revert h
 cases m with
 | bad=>exact λL=>SS.bad
 | asg t y=>exact λh=>Dw (P:=λst=>SS g env vm (.asg t y) (OP st env)) h λA v p h=>i9 (P:=λA=>SS g env vm (.asg t y) (OP (.Assign A v p) env)) h λr h=>DI C Y U Q l h
 | fS i o y=>exact λh=>wU (P:=λst=>SS g env vm (.fS i o y) (OP st env)) h λt T v p h=>cw (P:=λt=>SS g env vm (.fS i o y) (OP (.AugAssign t T v p) env)) h λx X h=>p6 (ab (ab (ab h)))▸SS.fS l (U.es (ag h) Q) (cV (ag (ab (ab h)))) ((Q.kd x).symm▸p6 (ag (ab h)))
 | gn D n o y=>exact λh=>wU (P:=λst=>SS g env vm (.gn D n o y) (OP st env)) h λt T v p h=>fV (P:=λt=>SS g env vm (.gn D n o y) (OP (.AugAssign t T v p) env)) h λE x Z h=>(by
   have P:=ab (ab (ab (ab h)))
   cases y with
   | c w=>cases w with
    | int j=>exact p6 P▸SS.gn C.ok (U.es (ag (ab h)) Q) (U.es (ag h) Q) (C.an▸rF (ag (ab (ab (ab h))))) (C.na▸Qy.mp (ag (ab (ab h))))
    | _=>exact ff (ag h)
   | _=>exact ff (ag h))
 | ex y=>exact λh=>Gy (P:=λst=>SS g env vm (.ex y) (OP st env)) h λv p h=>SS.ex (U.es (ag h) Q) (by unfold Ym;erw[Q.kind];rfl) (cG (ab h) _ _ _)
 | ite t a b=>exact λh=>Dx (P:=λst=>SS g env vm (.ite t a b) (OP st env)) h λR a' O p h=>SS.ite (U.ts (ab (ab h)) Q) (dG k (ag (ab h)) C Y) (dG k (ag h) C Y)
 | whl t b=>exact λh=>Dy (P:=λst=>SS g env vm (.whl t b) (OP st env)) h λR O E p h=>Mt.mp (ab (ab h))▸SS.whl (U.ts (ag (ab h)) Q) (dG k (ag h) C Y)
 | fr t i b o=>
  exact λh=>Gz (P:=λst=>SS g env vm (.fr t i b o) (OP st env)) (ag h) λr it O E p V=>SS.fr (Y (ab h)).hd l (nU (ab (ab (ab (ab (ab V)))))) (wR C U Q (ag (ab (ab (ab (ab V)))))) (EV Q (ag (ab (ab (ab V))))) (wS (ag (ab (ab V)))) (dG k (ag (ab V)) C Y) (dG k (ag V) C Y)
 | ret y=>exact λh=>Dz (P:=λst=>SS g env vm (.ret y) (OP st env)) h λv p h=>match v,h with
   | some v,h=>SS.ret (U.es h Q)
   | none,h=>ff h
 | brk=>exact λh=>DA (P:=λst=>SS g env vm .brk (OP st env)) h λp L=>SS.brk
 | cont=>exact λh=>AO (P:=λst=>SS g env vm .cont (OP st env)) h λp L=>SS.cont
 | mK=>exact λh=>AQ (P:=λst=>SS g env vm .mK (OP st env)) h λp L=>SS.mK
 | «try» b I V=>exact λh=>DB (P:=λst=>SS g env vm (.try b I V) (OP st env)) (ag h) λO J o f p q=>i9 (P:=λJ=>SS g env vm (.try b I V) (OP (.Try O J o f p) env)) (ag q) λS q2=>match S,q2 with
   | .ExceptHandler t n M hp,q2=>(by
    have q1:=ab q
    obtain rfl:=Mt.mp (ab (ab q1))
    obtain rfl:=Mt.mp (ag (ab q1))
    have d:=ab q2
    have B:=ab d
    obtain rfl:=NC.mp (ab B)
    have F:=Y (ab h)
    cases t with
    | none=>exact ff (ag B)
    | some t=>cases M with
     | nil=>exact ff (ag d)
     | cons b0 M=>exact F.top.elim λN W=>SS.tr C.ok F.hd F.frs W F.fr (dG k (ag q1) C Y) (DG C Q (ag B)) (dG k (ag q2) (C.F5 false) λe=>ff e))
theorem AW(Y:bM env nm)(U:e9 vm){hd:LG}(h:AT z nm vm w hd y=true)(C:CK.Ok z g)(v:hd=true->DH g env):SSs g env vm w (Q3 y env):=
 have Q:∀n,OkS z vm env (GA z nm vm n):=λn=>by
  induction n with
  | zero=>exact λh=>ff h
  | succ n V=>exact AU Y U V
 dG (Q 30) h C v
end
def gS:Fn:=⟨1,[],
 [.ret (.an (.cm .gt (.b1 .len (.v 0)) (.c (.int 0))) (.b1 .all (.co (.cm .isIn (.v 1) (.c (.str (u 0x31816a8261d679ddb8e10c0da968c04081bc61b92173b417f0cbc761d548053dc80445c1c5f59e4080e4bd98942ea214d204ef8501)))) (.n 1) (.val (.v 0)) [])))]⟩
def gY:cp CS:=
 [.ite (.cm .cu (.v 8) (.at (.v 0) 11))
  [.ex (.ap (.at (.v 0) 11) (.v 8))]
  []]
def dB:Fn:=⟨8,[.tup [.str (u 15352600498),.int 0],.none,.str (u 1),.int 0],
 [.asg (.at (.v 0) 2) (.v 2),
 .asg (.at (.v 0) 3) (.b1 .tuple (.v 3)),
 .asg (.at (.v 0) 4) (.v 1),
 .asg (.at (.v 0) 5) (.v 5),
 .asg (.at (.v 0) 6) (.c (.none)),
 .asg (.at (.v 0) 7) (.v 6),
 .asg (.at (.v 0) 8) (.v 7),
 .asg (.at (.v 0) 9) (.v 4),
 .asg (.at (.v 0) 10) (.b1 .len (.at (.v 0) 3)),
 .asg (.at (.v 0) 11) (.li []),
 .fr (.n 8) (.val (.at (.v 0) 3)) gY [],
 .asg (.at (.v 0) 12) (.li []),
 .asg (.at (.v 0) 13) (.c (.none)),
 .ite (.at (.v 0) 3)
  [.asg (.at (.v 0) 14) (.js (.at (.v 0) 2) (.jo (.c (.str (u 96))) (.at (.v 0) 3)))]
  [.asg (.at (.v 0) 14) (.op .mod (.c (.str (u 0x405584c7f5eca7988f9f25))) (.at (.v 0) 2))]]⟩
def fI:Fn:=⟨1,[],
 [.ret (.b1 .len (.at (.v 0) 3))]⟩
def iy:Fn:=⟨3,[],
 [.asg (.at (.v 0) 2) (.at (.v 1) 2),
 .asg (.at (.v 0) 3) (.b1 .list (.at (.v 1) 3)),
 .asg (.at (.v 0) 4) (.at (.v 1) 4),
 .asg (.at (.v 0) 15) (.v 2),
 .asg (.at (.v 0) 16) (.d0),
 .ex (.ins (.at (.v 0) 3) (.v 2) (.c (.str (u 110)))),
 .asg (.at (.v 0) 3) (.b1 .tuple (.at (.v 0) 3)),
 .asg (.at (.v 0) 10) (.b1 .len (.at (.v 0) 3)),
 .asg (.at (.v 0) 11) (.at (.v 1) 11)]⟩
def fW:cp CS:=
 [.ite (.cm .isIn (.ix (.v 0) (.v 2)) (.v 1))
  [.ret (.ix (.v 0) (.v 2))]
  [],
 .fS 2 .sub (.c (.int 1))]
def ez:Fn:=⟨2,[],
 [.asg (.n 2) (.op .sub (.b1 .len (.v 0)) (.c (.int 1))),
 .whl (.cm .ge (.v 2) (.c (.int 0))) fW,
 .ret (.c (.none))]⟩
def jm:cp CS:=
 [.asg (.ix (.at (.v 0) 20) (.v 2)) (.li [])]
def gT:Fn:=⟨2,[],
 [.asg (.at (.v 0) 17) (.li [.c (.none)]),
 .asg (.at (.v 0) 18) (.d0),
 .asg (.at (.v 0) 19) (.d0),
 .asg (.at (.v 0) 20) (.d0),
 .fr (.n 2) (.val (.v 1)) jm [],
 .asg (.ix (.at (.v 0) 20) (.c (.str (u 15189026565)))) (.li []),
 .asg (.at (.v 0) 21) (.d0),
 .asg (.at (.v 0) 22) (.d0),
 .asg (.at (.v 0) 23) (.d0),
 .asg (.at (.v 0) 24) (.d0),
 .asg (.at (.v 0) 25) (.sx),
 .asg (.at (.v 0) 26) (.c (.none))]⟩
def eO:cp CS:=
 [.ite (.cm .isIn (.ix (.v 7) (.c (.int 0))) (.c (.str (u 9415))))
  [.bad]
  [],
 .ite (.an (.nt (.fn 39 [.v 7])) (.cm .ne (.v 7) (.c (.str (u 13906159109)))))
  [.bad]
  []]
def cK:cp CS:=
 [.ite (.cm .isIn (.v 13) (.at (.v 0) 20))
  [.ex (.ap (.ix (.at (.v 0) 20) (.v 13)) (.v 12))]
  [.ite (.cm .cu (.v 13) (.at (.v 0) 21))
   [.asg (.ix (.at (.v 0) 21) (.v 13)) (.li [])]
   [],
  .ex (.ap (.ix (.at (.v 0) 21) (.v 13)) (.v 12))]]
def dm:Fn:=⟨6,[.none,.str (u 1),.int 0],
 [.ite (.cm .isIn (.v 1) (.at (.v 0) 20))
  [.bad]
  [],
 .ite (.cm .eq (.v 1) (.c (.str (u 15189026565))))
  [.bad]
  [],
 .ite (.nt (.fn 39 [.v 1]))
  [.bad]
  [],
 .fr (.t [6,7]) (.bu (.v 2)) eO [],
 .ite (.cm .isIn (.c (.str (u 13906159109))) (.v 2))
  [.ite (.cm .eq (.ix (.v 2) (.ng (.c (.int 1)))) (.c (.str (u 13906159109))))
   [.bad]
   [],
  .ite (.cm .ne (.ix (.v 2) (.ng (.c (.int 2)))) (.c (.str (u 13906159109))))
   [.bad]
   [],
  .asg (.n 8) (.ix (.v 2) (.ng (.c (.int 1)))),
  .asg (.n 9) (.ge (.at (.v 0) 24) (.v 8) (.c .none)),
  .ite (.nt (.v 9))
   [.bad]
   [.bad],
  .bad]
  [.asg (.n 8) (.fn 146 [.v 2,.at (.v 0) 20]),
  .asg (.n 9) (.ge (.at (.v 0) 24) (.v 8) (.tu [.c (.str (u 15352600498)),.c (.int 0)]))],
 .asg (.n 10) (.js (.v 1) (.v 2)),
 .ite (.cm .isIn (.v 10) (.at (.v 0) 19))
  [.asg (.n 11) (.ix (.at (.v 0) 19) (.v 10)),
  .bad]
  [],
 .asg (.n 12) (.b1 .len (.at (.v 0) 17)),
 .ite (.cm .cu (.v 1) (.at (.v 0) 21))
  [.asg (.ix (.at (.v 0) 21) (.v 1)) (.li [])]
  [],
 .fr (.n 13) (.val (.v 2)) cK [],
 .asg (.n 14) (.nw 100 [.v 12,.v 1,.v 2,.v 9,.v 3,.v 4,.v 5]),
 .ex (.ap (.at (.v 0) 17) (.v 14)),
 .asg (.ix (.at (.v 0) 19) (.v 10)) (.v 14),
 .try
  [.ex (.ap (.ix (.at (.v 0) 18) (.v 1)) (.v 14))]
  [.key]
  [.asg (.ix (.at (.v 0) 18) (.v 1)) (.li [.v 14])]]⟩
def eJ:Fn:=⟨2,[.none],
 [.ite (.nt (.v 1))
  [.asg (.n 1) (.at (.ix (.at (.v 0) 17) (.c (.int 1))) 2)]
  [],
 .ite (.cm .cu (.v 1) (.at (.v 0) 21))
  [.bad]
  [],
 .asg (.li (.at (.v 0) 17) (.c (.int 0))) (.nw 100 [.c (.int 0),.c (.str (u 9939)),.li [.v 1]]),
 .ex (.ap (.ix (.at (.v 0) 21) (.v 1)) (.c (.int 0))),
 .asg (.at (.v 0) 26) (.v 1)]⟩
def jn:cp CS:=
 [.ite (.cm .eq (.v 5) (.c (.str (u 99360369208828))))
  [.asg (.n 4) (.c (.bool true))]
  [.ite (.cm .cu (.v 5) (.v 2))
   [.ex (.ap (.v 2) (.v 5))]
   []]]
def fj:cp CS:=
 [.asg (.n 4) (.c (.bool false)),
 .fr (.n 5) (.val (.ix (.at (.v 0) 22) (.v 3))) jn [],
 .ite (.v 4)
  [.mK]
  [.brk]]
def gU:Fn:=⟨2,[],
 [.asg (.n 2) (.li []),
 .fr (.n 3) (.val (.v 1)) fj [.ex (.ap (.v 2) (.c (.str (u 99360369208828))))],
 .ret (.v 2)]⟩
def fk:cp CS:=
 [.asg (.ix (.at (.v 0) 22) (.v 1)) (.li [.v 1])]
def fm:cp CS:=
 [.asg (.ix (.at (.v 0) 22) (.v 2)) (.li [])]
def cX:cp CS:=
 [.ite (.cm .cu (.v 5) (.ix (.at (.v 0) 22) (.v 2)))
  [.ex (.ap (.ix (.at (.v 0) 22) (.v 2)) (.v 5)),
  .asg (.n 3) (.c (.bool true))]
  []]
def cY:cp CS:=
 [.fr (.n 5) (.val (.me (.v 0) 44 [.at (.v 4) 3])) cX []]
def cZ:cp CS:=
 [.fr (.n 4) (.val (.ix (.at (.v 0) 18) (.v 2))) cY []]
def da:cp CS:=
 [.asg (.n 3) (.c (.bool false)),
 .fr (.n 2) (.val (.at (.v 0) 21)) cZ [],
 .ite (.nt (.v 3))
  [.brk]
  []]
def dH:Fn:=⟨1,[],
 [.ite (.at (.v 0) 22)
  [.ret (.at (.v 0) 22)]
  [],
 .fr (.n 1) (.val (.at (.v 0) 20)) fk [],
 .asg (.ix (.at (.v 0) 22) (.c (.str (u 145822180)))) (.li [.c (.str (u 145822180))]),
 .fr (.n 2) (.val (.at (.v 0) 21)) fm [],
 .whl (.c (.bool true)) da,
 .ret (.at (.v 0) 22)]⟩
def eP:cp CS:=
 [.asg (.ix (.at (.v 0) 23) (.v 2)) (.li [])]
def cL:cp CS:=
 [.ite (.an (.cm .ne (.v 9) (.c (.str (u 99360369208828)))) (.cm .cu (.v 9) (.ix (.at (.v 0) 23) (.v 6))))
  [.ex (.ap (.ix (.at (.v 0) 23) (.v 6)) (.v 9)),
  .asg (.n 3) (.c (.bool true))]
  [],
 .ite (.cm .eq (.v 9) (.c (.str (u 99360369208828))))
  [.asg (.n 8) (.c (.bool true))]
  []]
def bC:cp CS:=
 [.ite (.cm .cu (.v 9) (.ix (.at (.v 0) 23) (.v 6)))
  [.ex (.ap (.ix (.at (.v 0) 23) (.v 6)) (.v 9)),
  .asg (.n 3) (.c (.bool true))]
  []]
def cM:cp CS:=
 [.ite (.cm .isIn (.v 6) (.at (.v 0) 21))
  [.asg (.n 7) (.me (.v 0) 44 [.sl (.at (.v 4) 3) (.op .add (.v 5) (.c (.int 1))) (.c .none)]),
  .asg (.n 8) (.c (.bool false)),
  .fr (.n 9) (.val (.v 7)) cL [],
  .ite (.orr (.v 8) (.cm .eq (.v 5) (.op .sub (.b1 .len (.at (.v 4) 3)) (.c (.int 1)))))
   [.fr (.n 9) (.val (.ix (.at (.v 0) 23) (.at (.v 4) 2))) bC []]
   []]
  []]
def cN:cp CS:=
 [.fr (.t [5,6]) (.bu (.at (.v 4) 3)) cM []]
def cO:cp CS:=
 [.asg (.n 3) (.c (.bool false)),
 .fr (.n 4) (.val (.sl (.at (.v 0) 17) (.c (.int 1)) (.c .none))) cN [],
 .ite (.nt (.v 3))
  [.brk]
  []]
def dp:Fn:=⟨2,[.none],
 [.ite (.at (.v 0) 23)
  [.ret (.at (.v 0) 23)]
  [],
 .ite (.nt (.at (.v 0) 22))
  [.ex (.me (.v 0) 45 [])]
  [],
 .fr (.n 2) (.val (.at (.v 0) 21)) eP [],
 .ite (.nt (.v 1))
  [.asg (.n 1) (.at (.ix (.at (.v 0) 17) (.c (.int 1))) 2)]
  [],
 .asg (.ix (.at (.v 0) 23) (.v 1)) (.li [.c (.str (u 145822180))]),
 .whl (.c (.bool true)) cO,
 .ret (.at (.v 0) 23)]⟩
def bI:cp CS:=
 [.ite (.cm .gt (.v 3) (.b1 .len (.v 1)))
  [.asg (.n 5) (.c (.none))]
  [.asg (.n 5) (.nw 135 [.v 1,.v 3]),
  .try
   [.asg (.at (.v 5) 27) (.ix (.at (.v 0) 18) (.ix (.at (.v 5) 3) (.op .add (.v 3) (.c (.int 1)))))]
   [.index,.key]
   [.asg (.at (.v 5) 27) (.li [])],
  .try
   [.asg (.at (.v 5) 28) (.ix (.at (.v 5) 3) (.op .sub (.v 3) (.c (.int 1))))]
   [.index]
   [.asg (.at (.v 5) 28) (.c (.none))]],
 .asg (.at (.v 2) 13) (.v 5),
 .ite (.nt (.v 5))
  [.brk]
  [],
 .ex (.ap (.v 4) (.v 5)),
 .asg (.n 2) (.v 5),
 .fS 3 .add (.c (.int 1))]
def db:cp CS:=
 [.asg (.n 2) (.v 1),
 .asg (.n 3) (.c (.int 0)),
 .asg (.n 4) (.li []),
 .whl (.c (.bool true)) bI,
 .asg (.at (.v 1) 12) (.v 4)]
def dI:Fn:=⟨1,[],
 [.fr (.n 1) (.val (.at (.v 0) 17)) db []]⟩
def rN:Fn:=⟨1,[],
 [.ite (.nt (.v 0))
  [.ret (.tu [])]
  [],
 .ret (.b1 .tuple (.co (.tu [.at (.v 1) 4,.at (.v 1) 15]) (.n 1) (.val (.v 0)) []))]⟩
def dq:Fn:=⟨4,[.str (u 129580172),.none],
 [.ite (.cm .cu (.v 2) (.li [.c (.str (u 1349811)),.c (.str (u 129580172))]))
  [.bad]
  [],
 .asg (.at (.v 0) 29) (.v 1),
 .asg (.at (.v 0) 30) (.v 2),
 .asg (.at (.v 0) 31) (.d0),
 .asg (.at (.v 0) 32) (.d0),
 .asg (.at (.v 0) 33) (.at (.v 1) 17),
 .asg (.at (.v 0) 34) (.d0),
 .asg (.at (.v 0) 35) (.d0),
 .asg (.at (.v 0) 36) (.c (.int 0)),
 .asg (.at (.v 0) 37) (.c (.int 0)),
 .asg (.at (.v 0) 38) (.c (.int 0)),
 .asg (.at (.v 0) 39) (.li []),
 .asg (.at (.v 0) 40) (.li []),
 .asg (.at (.v 0) 41) (.li []),
 .ex (.me (.at (.v 0) 29) 47 []),
 .ex (.me (.at (.v 0) 29) 45 []),
 .ex (.me (.at (.v 0) 29) 46 []),
 .ex (.me (.v 0) 51 [])]⟩
def bN:cp CS:=
 [.ite (.cm .eq (.at (.v 5) 1) (.at (.v 0) 36))
  [.cont]
  [],
 .ex (.ap (.v 2) (.at (.v 5) 13)),
 .asg (.at (.v 5) 1) (.at (.v 0) 36),
 .asg (.n 3) (.c (.bool true))]
def bO:cp CS:=
 [.fr (.n 5) (.val (.at (.v 4) 27)) bN []]
def bP:cp CS:=
 [.asg (.n 3) (.c (.bool false)),
 .fr (.n 4) (.val (.v 2)) bO []]
def b8:Fn:=⟨2,[],
 [.gn (.v 0) 36 .add (.c (.int 1)),
 .asg (.n 2) (.sl (.v 1) (.c .none) (.c .none)),
 .asg (.n 3) (.c (.bool true)),
 .whl (.v 3) bP,
 .ret (.v 2)]⟩
def aH:cp CS:=
 [.asg (.n 7) (.at (.v 6) 13),
 .ite (.an (.v 7) (.cm .eq (.at (.v 7) 28) (.v 2)))
  [.asg (.n 8) (.ge (.v 4) (.tu [.at (.v 7) 4,.at (.v 7) 15]) (.c .none)),
  .ite (.nt (.v 8))
   [.asg (.n 8) (.d0),
   .asg (.ix (.v 4) (.tu [.at (.v 7) 4,.at (.v 7) 15])) (.v 8)]
   [],
  .ex (.ap (.v 5) (.v 7)),
  .asg (.n 4) (.v 8)]
  []]
def cP:Fn:=⟨3,[],
 [.asg (.n 3) (.ge (.at (.v 0) 34) (.tu [.fn 318 [.v 1],.v 2]) (.c .none)),
 .ite (.v 3)
  [.ret (.v 3)]
  [],
 .asg (.n 4) (.ge (.at (.v 0) 34) (.v 2) (.c .none)),
 .ite (.nt (.v 4))
  [.asg (.n 4) (.d0),
  .asg (.ix (.at (.v 0) 34) (.v 2)) (.v 4)]
  [],
 .asg (.n 5) (.li []),
 .fr (.n 6) (.val (.v 1)) aH [],
 .asg (.n 3) (.ge (.v 4) (.c (.str (u 145822180))) (.c .none)),
 .ite (.nt (.v 3))
  [.ite (.v 5)
   [.asg (.n 3) (.me (.v 0) 48 [.v 5]),
   .asg (.ix (.v 4) (.c (.str (u 145822180)))) (.v 3)]
   [.asg (.ix (.v 4) (.c (.str (u 145822180)))) (.v 5)]]
  [],
 .asg (.ix (.at (.v 0) 34) (.tu [.fn 318 [.v 1],.v 2])) (.v 3),
 .ret (.v 3)]⟩
def d9:cp CS:=
 [.asg (.ix (.at (.v 0) 35) (.fn 318 [.v 3])) (.v 2),
 .fS 2 .add (.c (.int 1))]
def eb:cp CS:=
 [.asg (.ix (.v 4) (.v 6)) (.c (.none))]
def bZ:cp CS:=
 [.fr (.n 6) (.val (.at (.v 5) 11)) eb []]
def b3:cp CS:=
 [.asg (.n 8) (.me (.v 0) 49 [.v 3,.v 7]),
 .ite (.orr (.nt (.v 8)) (.cm .isIn (.fn 318 [.v 8]) (.at (.v 0) 35)))
  [.cont]
  [],
 .asg (.ix (.at (.v 0) 35) (.fn 318 [.v 8])) (.b1 .len (.v 1)),
 .ex (.ap (.v 1) (.v 8))]
def b4:cp CS:=
 [.asg (.n 3) (.ix (.v 1) (.v 2)),
 .fS 2 .add (.c (.int 1)),
 .asg (.n 4) (.d0),
 .fr (.n 5) (.val (.v 3)) bZ [],
 .fr (.n 7) (.val (.v 4)) b3 []]
def cz:Fn:=⟨1,[],
 [.asg (.n 1) (.li [.me (.v 0) 48 [.li [.at (.ix (.at (.at (.v 0) 29) 17) (.c (.int 0))) 13]]]),
 .asg (.n 2) (.c (.int 0)),
 .fr (.n 3) (.val (.v 1)) d9 [],
 .asg (.n 2) (.c (.int 0)),
 .whl (.cm .lt (.v 2) (.b1 .len (.v 1))) b4,
 .ret (.v 1)]⟩
def bx:cp CS:=
 [.asg (.n 15) (.ge (.v 9) (.v 14) (.c .none)),
 .ite (.cm .lC (.v 15) (.c (.none)))
  [.ite (.cm .gt (.v 15) (.c (.int 0)))
   [.asg (.t [16,17]) (.ge (.v 2) (.v 14) (.tu [.c (.str (u 15352600498)),.c (.int 0)])),
   .asg (.t [18,19]) (.at (.ix (.v 1) (.at (.v 12) 4)) 9),
   .ite (.orr (.cm .lt (.v 17) (.v 19)) (.an (.cm .eq (.v 17) (.v 19)) (.cm .eq (.v 18) (.c (.str (u 159904300))))))
    [.asg (.ix (.v 9) (.v 14)) (.ng (.at (.v 12) 4)),
    .asg (.ix (.v 10) (.v 14)) (.v 12),
    .ite (.an (.nt (.v 17)) (.nt (.v 19)))
     [.ex (.ap (.at (.v 0) 40) (.tu [.v 7,.v 14,.c (.str (u 1351131408946))]))]
     [],
    .gn (.ix (.v 1) (.at (.v 12) 4)) 0 .add (.c (.int 1))]
    [.ite (.an (.cm .eq (.v 17) (.v 19)) (.cm .eq (.v 18) (.c (.str (u 0x2bbce4f9a895ee)))))
     [.asg (.ix (.v 9) (.v 14)) (.c (.none))]
     [.ite (.nt (.v 19))
      [.ex (.ap (.at (.v 0) 40) (.tu [.v 7,.v 14,.c (.str (u 15350849363))]))]
      []]]]
   [.ite (.cm .lt (.v 15) (.c (.int 0)))
    [.asg (.n 20) (.ix (.v 1) (.ng (.v 15))),
    .asg (.n 21) (.ix (.v 1) (.at (.v 12) 4)),
    .ite (.cm .gt (.at (.v 20) 8) (.at (.v 21) 8))
     [.asg (.ix (.v 9) (.v 14)) (.ng (.at (.v 12) 4)),
     .asg (.ix (.v 10) (.v 14)) (.v 12),
     .asg (.t [22,23]) (.tu [.v 21,.v 20]),
     .gn (.ix (.v 1) (.at (.v 12) 4)) 0 .add (.c (.int 1)),
     .gn (.ix (.v 1) (.at (.v 20) 4)) 0 .sub (.c (.int 1))]
     [.asg (.t [22,23]) (.tu [.v 20,.v 21])],
    .ex (.ap (.at (.v 0) 41) (.tu [.v 7,.v 22,.v 23]))]
    [.bad]]]
  [.asg (.ix (.v 9) (.v 14)) (.ng (.at (.v 12) 4)),
  .asg (.ix (.v 10) (.v 14)) (.v 12),
  .gn (.ix (.v 1) (.at (.v 12) 4)) 0 .add (.c (.int 1))]]
def a7:cp CS:=
 [.ite (.cm .eq (.at (.v 12) 10) (.op .add (.at (.v 12) 15) (.c (.int 1))))
  [.ite (.cm .eq (.at (.v 12) 2) (.c (.str (u 9939))))
   [.asg (.ix (.v 9) (.c (.str (u 145822180)))) (.c (.int 0)),
   .asg (.ix (.v 10) (.c (.str (u 145822180)))) (.v 12)]
   [.ite (.cm .eq (.at (.v 0) 30) (.c (.str (u 129580172))))
    [.asg (.n 13) (.ix (.at (.v 12) 16) (.v 7))]
    [.asg (.n 13) (.ix (.at (.at (.v 0) 29) 23) (.at (.v 12) 2))],
   .fr (.n 14) (.val (.v 13)) bx []]]
  [.asg (.n 24) (.at (.v 12) 15),
  .asg (.n 14) (.ix (.at (.v 12) 3) (.op .add (.v 24) (.c (.int 1)))),
  .ite (.cm .isIn (.v 14) (.at (.at (.v 0) 29) 20))
   [.asg (.n 25) (.me (.v 0) 49 [.v 8,.v 14]),
   .asg (.n 26) (.ge (.at (.v 0) 35) (.fn 318 [.v 25]) (.ng (.c (.int 1)))),
   .ite (.cm .ge (.v 26) (.c (.int 0)))
    [.asg (.n 15) (.ge (.v 9) (.v 14) (.c .none)),
    .ite (.cm .lC (.v 15) (.c (.none)))
     [.ite (.cm .gt (.v 15) (.c (.int 0)))
      [.ite (.cm .ne (.v 15) (.v 26))
       [.bad]
       []]
      [.ite (.cm .lt (.v 15) (.c (.int 0)))
       [.asg (.t [16,17]) (.ge (.v 2) (.v 14) (.tu [.c (.str (u 15352600498)),.c (.int 0)])),
       .asg (.t [18,19]) (.at (.ix (.v 1) (.at (.ix (.v 10) (.v 14)) 4)) 9),
       .ite (.orr (.cm .gt (.v 17) (.v 19)) (.an (.cm .eq (.v 17) (.v 19)) (.cm .eq (.v 18) (.c (.str (u 15352600498))))))
        [.gn (.ix (.v 1) (.at (.ix (.v 10) (.v 14)) 4)) 0 .sub (.c (.int 1)),
        .asg (.ix (.v 9) (.v 14)) (.v 26),
        .asg (.ix (.v 10) (.v 14)) (.v 12),
        .ite (.nt (.v 19))
         [.ex (.ap (.at (.v 0) 40) (.tu [.v 7,.v 14,.c (.str (u 15350849363))]))]
         []]
        [.ite (.an (.cm .eq (.v 17) (.v 19)) (.cm .eq (.v 18) (.c (.str (u 0x2bbce4f9a895ee)))))
         [.asg (.ix (.v 9) (.v 14)) (.c (.none))]
         [.ite (.an (.nt (.v 17)) (.nt (.v 19)))
          [.ex (.ap (.at (.v 0) 40) (.tu [.v 7,.v 14,.c (.str (u 1351131408946))]))]
          []]]]
       [.bad]]]
     [.asg (.ix (.v 9) (.v 14)) (.v 26),
     .asg (.ix (.v 10) (.v 14)) (.v 12)]]
    []]
   []]]
def di:cp CS:=
 [.ite (.cm .isIn (.v 29) (.at (.at (.v 0) 29) 21))
  [.asg (.ix (.v 27) (.v 29)) (.c (.none))]
  []]
def bz:cp CS:=
 [.fr (.n 29) (.val (.at (.v 28) 11)) di []]
def bA:cp CS:=
 [.asg (.n 25) (.me (.v 0) 49 [.v 8,.v 30]),
 .asg (.n 26) (.ge (.at (.v 0) 35) (.fn 318 [.v 25]) (.ng (.c (.int 1)))),
 .ite (.cm .ge (.v 26) (.c (.int 0)))
  [.asg (.ix (.v 11) (.v 30)) (.v 26)]
  []]
def bB:cp CS:=
 [.asg (.n 9) (.d0),
 .asg (.n 10) (.d0),
 .asg (.n 11) (.d0),
 .fr (.n 12) (.val (.v 8)) a7 [],
 .asg (.n 27) (.d0),
 .fr (.n 28) (.val (.v 8)) bz [],
 .fr (.n 30) (.val (.v 27)) bA [],
 .asg (.ix (.v 4) (.v 7)) (.v 9),
 .asg (.ix (.v 5) (.v 7)) (.v 10),
 .asg (.ix (.v 3) (.v 7)) (.v 11),
 .fS 7 .add (.c (.int 1))]
def bQ:Fn:=⟨1,[],
 [.asg (.n 1) (.at (.at (.v 0) 29) 17),
 .asg (.n 2) (.at (.at (.v 0) 29) 24),
 .asg (.n 3) (.at (.v 0) 32),
 .asg (.n 4) (.at (.v 0) 31),
 .asg (.n 5) (.d0),
 .asg (.n 6) (.me (.v 0) 50 []),
 .ite (.cm .eq (.at (.v 0) 30) (.c (.str (u 129580172))))
  [.bad]
  [],
 .asg (.n 7) (.c (.int 0)),
 .fr (.n 8) (.val (.v 6)) bB []]⟩
def lO:Fn:=⟨0,[],
 [.ret (.li [.c (.str (u 147)),.c (.str (u 129)),.c (.str (u 130))])]⟩
def nV:Fn:=⟨1,[],
 [.ret (.ife (.v 0) (.po (.v 0) (.c (.int 0))) (.c (.int 0)))]⟩
def jU:cp CS:=
 [.asg (.n 5) (.ife (.v 4) (.c (.ref 440)) (.c (.ref 439))),
 .ex (.ap (.v 3) (.ix (.v 5) (.op .mod (.fn 447 [.v 0]) (.b1 .len (.v 5)))))]
def pY:Fn:=⟨3,[],
 [.asg (.n 3) (.li []),
 .fr (.n 4) (.rng [.op .mod (.fn 447 [.v 0]) (.op .add (.v 2) (.c (.int 1)))]) jU [],
 .ret (.tu [.v 1,.b1 .tuple (.v 3)])]⟩
def lP:Fn:=⟨1,[],
 [.asg (.n 1) (.li [.fn 454 [.v 0,.c (.str (u 147)),.c (.int 2)],.fn 454 [.v 0,.c (.str (u 129)),.c (.int 2)],.fn 454 [.v 0,.c (.str (u 130)),.c (.int 2)]]),
 .ite (.v 0)
  [.asg (.n 2) (.ix (.fn 438 []) (.op .mod (.fn 447 [.v 0]) (.c (.int 3)))),
  .asg (.n 3) (.fn 454 [.v 0,.v 2,.c (.int 2)]),
  .ite (.cm .cu (.v 3) (.v 1))
   [.ex (.ap (.v 1) (.v 3))]
   []]
  [],
 .ret (.v 1)]⟩
def jb:cp CS:=
 [.asg (.n 11) (.tu [.v 10,.op .add (.v 5) (.v 9),.ife (.v 9) (.ix (.v 8) (.op .sub (.v 9) (.c (.int 1)))) (.v 6)]),
 .ite (.an3 (.cm .isIn (.v 10) (.fn 438 [])) (.cm .le (.op .add (.v 5) (.v 9)) (.v 2)) (.cm .cu (.v 11) (.v 3)))
  [.ex (.ap (.v 3) (.v 11))]
  []]
def pm:cp CS:=
 [.ite (.cm .eq (.v 7) (.v 4))
  [.fr (.t [9,10]) (.bu (.v 8)) jb []]
  []]
def pn:cp CS:=
 [.fr (.t [7,8]) (.val (.v 0)) pm []]
def nW:Fn:=⟨3,[],
 [.asg (.n 3) (.li [.tu [.v 1,.c (.int 0),.c (.str (u 1))]]),
 .fr (.t [4,5,6]) (.val (.v 3)) pn [],
 .ret (.v 3)]⟩
def jV:cp CS:=
 [.asg (.n 11) (.tu [.ife (.v 10) (.ix (.ix (.v 9) (.c (.int 1))) (.op .sub (.v 10) (.c (.int 1)))) (.v 7),.v 8,.v 10]),
 .ite (.cm .cu (.v 11) (.ix (.v 3) (.op .add (.v 6) (.v 10))))
  [.ex (.ap (.ix (.v 3) (.op .add (.v 6) (.v 10))) (.v 11))]
  []]
def jW:cp CS:=
 [.ite (.cm .eq (.ix (.v 9) (.c (.int 0))) (.v 5))
  [.fr (.n 10) (.rng [.op .add (.mn (.b1 .len (.ix (.v 9) (.c (.int 1)))) (.op .sub (.v 2) (.v 6))) (.c (.int 1))]) jV []]
  []]
def jX:cp CS:=
 [.fr (.t [8,9]) (.bu (.v 0)) jW []]
def pZ:Fn:=⟨3,[],
 [.asg (.n 3) (.co (.li []) (.n 4) (.rng [.op .add (.v 2) (.c (.int 1))]) []),
 .fr (.t [5,6,7]) (.val (.v 1)) jX [],
 .ret (.co (.b1 .sorted (.v 12)) (.n 12) (.val (.v 3)) [])]⟩
def iz:cp CS:=
 [.asg (.n 9) (.tu [.v 8,.mn (.c (.int 1)) (.op .add (.v 4) (.v 7))]),
 .ite (.an (.cm .isIn (.v 8) (.fn 438 [])) (.cm .cu (.v 9) (.v 2)))
  [.ex (.ap (.v 2) (.v 9))]
  []]
def nX:cp CS:=
 [.ite (.cm .eq (.v 5) (.v 3))
  [.fr (.t [7,8]) (.bu (.v 6)) iz []]
  []]
def nY:cp CS:=
 [.fr (.t [5,6]) (.val (.v 0)) nX []]
def lQ:Fn:=⟨2,[],
 [.asg (.n 2) (.li [.tu [.v 1,.c (.int 0)]]),
 .fr (.t [3,4]) (.val (.v 2)) nY [],
 .ret (.v 2)]⟩
def lZ:cp CS:=
 [.ite (.cm .isIn (.ix (.v 4) (.c (.int 0))) (.v 1))
  [.asg (.n 2) (.op .add (.v 2) (.co (.tu [.v 3,.v 5]) (.n 5) (.rng [.op .add (.b1 .len (.ix (.v 4) (.c (.int 1)))) (.c (.int 1))]) []))]
  []]
def jY:Fn:=⟨2,[],
 [.asg (.n 2) (.li []),
 .fr (.t [3,4]) (.bu (.v 0)) lZ [],
 .ret (.v 2)]⟩
def nZ:cp CS:=
 [.ite (.cm .gt (.v 6) (.c (.int 0)))
  [.ex (.ap (.v 2) (.tu [.v 5,.v 6]))]
  []]
def lR:Fn:=⟨2,[],
 [.asg (.n 2) (.co (.tu [.v 3,.v 4]) (.t [3,4]) (.ai (.ix (.at (.v 0) 32) (.v 1))) []),
 .fr (.t [5,6]) (.ai (.ix (.at (.v 0) 31) (.v 1))) nZ [],
 .ret (.b1 .sorted (.v 2))]⟩
def rO:cp CS:=
 [.ite (.cm .cu (.v 4) (.v 2))
  [.ex (.ap (.v 2) (.v 4))]
  []]
def rP:cp CS:=
 [.fr (.n 4) (.val (.ix (.v 0) (.v 3))) rO []]
def p0:Fn:=⟨2,[],
 [.asg (.n 2) (.b1 .list (.v 1)),
 .fr (.n 3) (.val (.v 2)) rP [],
 .ret (.v 2)]⟩
def pp:cp CS:=
 [.asg (.n 1) (.op .add (.v 1) (.co (.v 3) (.n 3) (.val (.v 2)) [.cm .cu (.v 3) (.v 1)]))]
def n0:Fn:=⟨1,[],
 [.asg (.n 1) (.li []),
 .fr (.n 2) (.val (.v 0)) pp [],
 .ret (.b1 .sorted (.v 1))]⟩
def AX:cp CS:=
 [.ex (.me (.v 4) 42 [.v 5,.b1 .list (.v 6)])]
def AY:cp CS:=
 [.asg (.n 21) (.op .add (.v 21) (.co (.v 24) (.n 24) (.val (.ix (.v 11) (.v 23))) [.cm .cu (.v 24) (.v 21)]))]
def n7:cp CS:=
 [.ite (.cm .ne (.fn 502 [.co (.co (.tu [.v 17,.v 19,.v 20]) (.t [19,20]) (.val (.ix (.v 8) (.v 18))) []) (.t [17,18]) (.val (.v 15)) []]) (.ix (.v 14) (.v 16)))
  [.ret (.c (.bool false))]
  [],
 .asg (.n 21) (.li []),
 .fr (.t [22,23]) (.val (.v 15)) AY [],
 .asg (.n 15) (.v 21)]
def iA:cp CS:=
 [.asg (.n 34) (.fn 480 [.v 3,.v 5]),
 .ite (.cm .isIn (.tu [.v 5,.c (.int 1)]) (.v 34))
  [.asg (.n 31) (.op .add (.v 31) (.co (.v 28) (.t [28,35]) (.val (.v 34)) []))]
  []]
def fq:Fn:=⟨1,[],
 [.asg (.n 1) (.co (.op .mod (.v 2) (.c (.int 720720))) (.n 2) (.val (.sl (.v 0) (.c .none) (.c (.int 13)))) []),
 .asg (.n 3) (.op .add (.li [.tu [.c (.str (u 9939)),.tu [.c (.str (u 147))]]]) (.fn 461 [.v 1])),
 .asg (.n 4) (.nw 283 [.li [.c (.str (u 161)),.c (.str (u 162))]]),
 .fr (.t [5,6]) (.val (.sl (.v 3) (.c (.int 1)) (.c .none))) AX [],
 .ex (.me (.v 4) 43 [.c (.str (u 147))]),
 .asg (.n 7) (.nw 427 [.v 4,.c (.str (u 1349811))]),
 .asg (.at (.v 7) 35) (.d0),
 .asg (.n 8) (.co (.co (.tu [.at (.v 10) 4,.at (.v 10) 15]) (.n 10) (.val (.v 9)) []) (.n 9) (.val (.me (.v 7) 50 [])) []),
 .asg (.n 11) (.co (.fn 490 [.v 7,.v 12]) (.n 12) (.rng [.b1 .len (.v 8)]) []),
 .asg (.n 13) (.fn 468 [.v 3,.c (.str (u 9939)),.c (.int 4)]),
 .asg (.n 14) (.fn 473 [.v 3,.v 13,.c (.int 4)]),
 .asg (.n 15) (.li [.tu [.c (.str (u 1)),.c (.int 0)]]),
 .fr (.n 16) (.rng [.c (.int 5)]) n7 [],
 .asg (.n 25) (.co (.co (.v 28) (.t [27,28]) (.val (.v 26)) []) (.n 26) (.val (.v 11)) []),
 .asg (.n 29) (.co (.v 30) (.n 30) (.rng [.b1 .len (.v 8)]) [.cm .isIn (.v 30) (.fn 497 [.v 25,.ix (.v 25) (.v 30)])]),
 .asg (.n 31) (.li []),
 .fr (.n 5) (.val (.b1 .bS (.co (.v 28) (.t [28,32,33]) (.val (.v 13)) []))) iA [],
 .ret (.cm .eq (.fn 502 [.co (.ix (.v 8) (.v 36)) (.n 36) (.val (.fn 497 [.v 25,.v 29])) []]) (.fn 485 [.v 3,.v 31]))]⟩
def anL:cp Str:=[u 0x754555b52a32,u 0x107dc0a36464df0c,u 146697390,u 145832720,u 1457283003438,u 144939046,u 0x2c4351991cc8a3,u 146688934,u 146707372,u 144855824,u 1610284,u 15272256373,u 0x3000ddeb227b0c,u 0x80cd7175fb0c,u 1648595,u 0x3150e1e6c27b0c,u 0x6bf3770013d0fb9ec,u 0x288164da865e3f13af0,u 0x11fe360634813af0,u 0x7dc8ef713af0,u 0x12000bfbc9ab2214,u 0xf300a1c722864dc915ce,u 15362433926,u 1498909822406,u 0x638940771b8e252f0,u 0x1f7e6d65afb7f9c3e29fd355,u 15361393587,u 0x2fb6f01dd67b0c,u 0x109ae1f404d3fb0c,u 0x7f356fe8c307,u 0x10806f0ad9687b0c,u 0x1180b9c10ea67b0c,u 0x7d36cbb77b0c,u 0x222d2d18615f85389d60fb0c,u 0x5402688c668d86cbb77b0c,u 0x2609fe86ab4ec84df0c,u 0x6c9d977f6348fa89f,u 0x28b46a0858b27817b13,u 0x28b46a0858b27817b12,u 0x1202301eda7c15e3,u 0xf31d89a0858b27817b13,u 0xf31d89a0858b27817b12,u 0x213a60a483d1f53b045c29c1,u 0x121b47175f8e6a33,u 1474793660031,u 0x5babaebdb269686a92f1e3,u 0x22f0496c1904a9686a92f1e3,u 0x5b21a54c6883c3f64c6422,u 0x255c86396575e84df0c,u 0x2ef48c64c4df0c,u 0x120053382ce4df0c,u 0x1f82ecd78c54c66bb950fb0c]
def Kq:Nat:=42
def ckF:CK:=⟨[(u 0x5939009a9a78fc0bf,.ref 439),(u 0xc74cebd92e6e558fc0bf,.ref 440),(u 0x20f9946eba3e2d89f9f,.str (u 0x31816a8261d679ddb8e10c0da968c04081bc61b92173b417f0cbc761d548053dc80445c1c5f59e4080e4bd98942ea214d204ef8501))],
 [(u 0x21f7ed93a86d3871ccee479f,39),(u 0xa6271d799f8ad3974ad5599b1617b2,146),(u 1351113788991,318),(u 0x5888b804ed78fc0bf,438),(u 0x121ce3f4978fc0bf,447),(u 0x3113c2af8fc0bf,454),(u 0x6bf540c402f8fc0bf,461),(u 0x12005e9a158fc0bf,468),(u 0x2c49bd9b8fc0bf,473),(u 0x6c039d9e64d8fc0bf,480),(u 0x251b0b559a01b8fc0bf,485),(u 0x6bf377008cb8fc0bf,490),(u 0x2bfa10cb8fc0bf,497),(u 0x107f9fc9338fc0bf,502),(u 1692844,507),(u 0x69045a865e3f13af0,100),(u 1416529958636,135),(u 0x7f356fe8c2e7,283),(u 0x46e694e248e4130493d0c890eec,427)],
 [u 1610284,u 160024492,u 14082203700,u 1343146796531,u 1592513,u 1665587,u 1610669,u 0x109b60c34d6b9185,u 14077759666,u 0x2fbe0b0d201e0b,u 0x6b6b98dd87f2d2d69],anL,Kq⟩
def GB:cp (ki×ki×ki):=[(283,42,201),(283,43,209),(283,44,258),(283,45,265),(283,46,273),(283,47,280),(427,48,340),(427,49,347),(427,50,354),(427,51,424)]
def mF:MT:=λc m=>(GB.find? λp=>p.1==c&&p.2.1==m).map (·.2.2)
def Kr:cp (ki×VM):=[(201,[(u 147573299,0),(u 0x2c440634813b10,1),(u 159086003,2),(u 144939046,3),(u 146688934,4),(u 146707372,5),(u 174,6),(u 179,7),(u 0x2c440634725310,8),(u 0x2bb5c484a13b10,9),(u 1628333,10),(u 173,11),(u 0x7f3cd03b9190,12),(u 180,13),(u 176,14)]),(473,[(u 15265058866,0),(u 159085619,1),(u 160025069,2),(u 1528868,3),(u 146697390,5),(u 1473849646647,6),(u 1629684,7),(u 1457283003438,8),(u 146690098,9),(u 1666532,10),(u 153703369,11)]),(490,[(u 14082072756,0),(u 14089143251,1),(u 15264071212,2),(u 184,5),(u 1665377,6)]),(507,[(u 1474530976115,0),(u 146725044,1),(u 15265058866,3),(u 0x7f356fe8c307,4),(u 146697390,5),(u 0x80009b75f5b3,6),(u 14082072756,7),(u 15272072137,8),(u 15264071212,11),(u 159085619,13),(u 1528868,14),(u 15180242092,15),(u 1473849646632,16),(u 13987434305,21),(u 1629684,22),(u 14089143251,23),(u 159194295,25),(u 15278356875,29),(u 15613643298,31),(u 15272991911,34)])]
def IF:cp (ki×Fn):=[(39,gS),(62,dB),(83,fI),(118,iy),(146,ez),(172,gT),(201,dm),(209,eJ),(258,gU),(265,dH),(273,dp),(280,dI),(318,rN),(333,dq),(340,b8),(347,cP),(354,cz),(424,bQ),(438,lO),(447,nV),(454,pY),(461,lP),(468,nW),(473,pZ),(480,lQ),(485,jY),(490,lR),(497,p0),(502,n0),(507,fq)]
def fF:ki->rt Fn:=λf=>(IF.find? λp=>p.1==f).map (·.2)
section
abbrev tp:Program:=PySem.Challenge.pw_rp0002_03
abbrev Hb.r(a:ki):Value:=.ref a
open Hb
abbrev Hb.s(n k:ki):Value:=.str (u n) k
abbrev Hb.i(n k:ki):Value:=.int (Int.ofNat n) k
def Hb.d(k:ki):Stmt:=tp.main.body.getD k (.Pass ⟨0,0,0,0⟩)
abbrev oT(z:cp rr):Obj:={ cls:=.type "tuple",data:=.seq ⟨z⟩ 0 }
abbrev oN(z:cp rr):Obj:={ cls:=.none,data:=.fields ⟨z⟩ }
abbrev oF(t:RE)(z:cp rr):Obj:={ cls:=.type t,data:=.fields ⟨z⟩ }
abbrev oR(z:cp (rt rr)):Obj:={ cls:=.type "frame",slots:=⟨z⟩ }
def GC(l:cp P0)(n:ki):ki->ki->ki->BT
 | 0,_,_=>.nil
 | f+1,a,b=>match OC b n with
  | true=>.node (l.getD b { cls:=.none }) (GC l n f (2 * a) (a+b)) (GC l n f (2 * a) (2 * a+b))
  | false=>.nil
def DJ:Env:={ scope:=tp.main.scope,locals:=mainNs,globals:=mainNs,cells:=[],code:=.ref 13,frame:=aM 14 }
def pq:Pos:=⟨0,0,0,0⟩
def Ks:Pos:=⟨725,0,753,100⟩
def cE:Code:=.body tp.main.body DJ
def IG(P:Ua):cp Obj:=
 [boot_o_0 P,boot_o_1 P,boot_o_2 P,boot_o_3 P,boot_o_4 P,boot_o_5 P,boot_o_6 P,boot_o_7 P,boot_o_8 P,boot_o_9 P,boot_o_10 P,
 oT [],oN [],oF "code" [(s 9522875475245308 182),(s 9522875475245308 183),(s 0x5e2f676cdbe3496308492f 184),(i 1 0),(i 0 0),(i 0 0),(i 0 0),(i 0 0),(r 11),(.bool false),(i 181 0),(r 12),.none,.none,.none,.none,(i 185 0),(i 1 0),(s 0x5e2f676cdbe3496308492f 186)],oR [(aM (r 13)),(aM (r 3)),(aM (r 3)),none,(aM (s 0x2aa01749086bdf 164)),none,(aM (r 0))]]
def IH(P:Ua):BT:=GC (IG P) 15 10 1 0
def stA(w:MY)(os:NG):SharedT:=⟨IH w.params,15,{},⟨[]⟩,{},187,os⟩
def Kt(w:MY)(os:NG):=Fast.tw10110043849684766642 Fast.tw14364793385576792824 tp w 11 (aM (OT 6)) 1 4500 (stA w os) { cur:=Sem.wrap doneF deadEnd id id (Fast.tw12563942051412417395 tp.main.body DJ),code:=cE,pos:=pq,stack:=[Vz pq] }
def E8(P:Ua):BT:=(Kt ⟨λz z=>0,P⟩ {}).elim .nil λx=>x.2.1.tree
def stF(w:MY)(os:NG):SharedT:=⟨E8 w.params,508,{},⟨[]⟩,{},1035,os⟩
def DK(w:MY)(os:NG):topGo Tp tp w 11 (aM (.ref 6)) 12 ⟨QF w.params,⟨[]⟩,Wa,WH,os⟩ (topStub tp) =
  aM ((stA w os).abs,⟨denote Tp cE,cE,pq,[Vz pq]⟩):=by
 (erw[W6];erw[NX];erw[Xa])
 kernel_rfl
def xY(w:MY)(os:NG):segRun Tp tp w 11 (aM (.ref 6)) 1 1 (stA w os).abs (blockOf tp.main.body DJ cE pq [Vz pq])=aM (.next,(stA w os).abs,cE,pq):=by
 (erw[W7];erw[NX])
 kernel_rfl
def AZ(w:MY)(os:NG):segRunT Tp tp w 11 (aM (.ref 6)) 1 4500 (stA w os) (piecesOf tp.main.body DJ cE pq [Vz pq])=aM (.next,stF w os,cE,Ks):=by
 unfold piecesOf
 (erw[Xc];erw[NX];erw[W9])
 kernel_rfl
end
section
open Hb
def DL(w:MY)(os:NG):topRun Tp tp w 11 (aM (.ref 6)) (12+(1+(4500+2))) ⟨QF w.params,⟨[]⟩,Wa,WH,os⟩ (topStub tp)=aM (stF w os).abs:=by
 refine go_top (DK w os) (piece_block (xY w os) ?_)
 have h:=piece_app (rest:=[]) (segRun_of (AZ w os)) (N:=2) (r:=(stF w os).abs) ?_
 ·rw[Mp] at h;exact h
 ·exact piece_nil (by
   (erw[W8];erw[NX])
   kernel_rfl)
def vd:opening tp=plainProg tp.main.scope.names:=by kernel_rfl
def A0(s:ow):fenceModules? tp s=aM s:=by kernel_rfl
def DM(w:MY):((QF w.params).isNs LU&&(Array.mk ([]:cp XH)).size==0,(QF w.params).objs.size,(QF w.params).nsMap LU "__annotations__")=(true,11,aM (.ref 6)):=by
 kernel_rfl
def q:Program:={ tp with main:={ tp.main with body:=[d 31] } }
def ve:DefRec:=(recsOf q).getD 0 ⟨u 1,⟨[],[],none,[],[],none,[]⟩,[],tp.main.scope,pq⟩
def qt(P:Ua):Heap:=absHeap (E8 P) 508 {}
def xZ(w:MY)(os:NG):Shared:=⟨qt w.params,⟨[]⟩,{},1035,os⟩
def GD(w:MY)(os:NG):(stF w os).abs=xZ w os:=rfl
def as:cp Nat:=Lk 508
def K(P:Ua):Frag:=as.map λa=>(a,((qt P).get? a).getD { cls:=.none })
def II(P:Ua):as=(K P).map (·.1):=by kernel_rfl
def H:Hook:=kHook K as II
def loose:cp Str:=(tp.main.scope.names.map (·.1)).filter λx=>!(["__name__","Exception","object","law"].map Li).contains x
def Xt(s:ow):Bool:=xlAt q [] s&&recOk [] s
def DN:importedModules tp.main.body=[]:=by
 erw[W4];kernel_rfl
def IJ(w:MY)(os:NG):(staticsOk [] (QF w.params) (qt w.params)&&namesBound tp (qt w.params)&&gensDone (xZ w os)&&laidKept (QF w.params) (qt w.params))=true:=by
 kernel_rfl
def IK(w:MY)(os:NG):openSeen q loose [] Xt true (xZ w os)=openGood q loose:=by
 erw[W5]
 kernel_rfl
def IM(w:MY)(os:NG):H.obs (xZ w os)=H.val w:=by
 kernel_rfl
end
section
open Hb
@[reducible] def rw0:OpenRow:=PySem.Challenge.rw_rp0002_03.row
theorem A1:PySem.Challenge.pw_rp0002_03=tp:=rfl
def GF:PySem.Challenge.rw_rp0002_03.wellSaid=true:=by
 erw[W2]
 kernel_rfl
def GG(h:PySem.Challenge.rw_rp0002_03.row.wellSaid=true->PySem.Challenge.rw_rp0002_03.row.Holds):PySem.Challenge.rw_rp0002_03.Holds:=
 holds_law GF h
def DO:LeftO tp q loose Xt H.obs H.val 10000:=by
 refine LeftO.of_pieces (H₀:=QF) (H₁:=qt) (gs₀:=⟨[]⟩) (gs₁:=⟨[]⟩) (d₀:=Wa) (d₁:={}) (k₀:=WH) (k₁:=1035) (m₀:=11) (ann:=aM (.ref 6)) (M:=12+(1+(4500+2)))
  (boot_open (p:=tp) (N:=10000) vd (by decide) A0) DM (λw os=>(DL w os).trans (dd aM (GD w os))) (by decide) (λw=>funext λos=>?_)
 erw[DN]
 show(_,openSeen q loose [] Xt true (xZ w os),H.obs (xZ w os))=_
 (erw[IK _ _];erw[IM _ _])
 exact dd (λb=>(b,openGood q loose,H.val w)) (IJ w os)
def head(z:rw0.toRowW.promised)(call:WalkO q loose (XL q []) H.says rw0.toRowW ve [] (λf Q=>WJ f Q)):PySem.Challenge.rw_rp0002_03.Holds:=by
 refine GG λGF=>?_
 refine holds_open (q:=q) (loose:=loose) (Xt:=Xt) (XP:=XL q []) (Yf:=H.obs) (Ya:=H.val) (YP:=H.says) (N:=10000) (d:=ve) (kwd:=[]) ?hl H.of H.keeps
  (λs e=>xl_of s (rv.mp e).1) XL.keeps ?hdef ?hp ?hk (λs e=>recFacts_of (rv.mp e).2) ?hwr GF ?ok ?hb z call
 case hl=>exact(show LeftO PySem.Challenge.pw_rp0002_03 q loose Xt H.obs H.val 10000 by erw[A1];exact DO)
 case hdef=>kernel_rfl
 case hp=>
  show Program.theDef PySem.Challenge.pw_rp0002_03 _=_
  (erw[A1];erw[Xb])
  kernel_rfl
 case hk=>kernel_rfl
 case hwr=>rfl
 case ok=>
  show(chainsOk q&&(opensWell PySem.Challenge.pw_rp0002_03&&(frees rw0.toRowW&&_)))=true
  erw[A1]
  kernel_rfl
 case hb=>exact⟨rfl,rfl,rfl,rfl,rfl,by decide +kernel⟩
def Ku:rw0.toRowW.promised:=by w_witness2
end
section
open Hb
theorem jc{z:Type}{P:Prop}{o:rt z}{p:z->LG}(h:o.any p=true)(k:∀a,o=aM a->p a=true->P):P:=by
 cases o with
 | none=>exact ff h
 | some a=>exact k a rfl h
def GH(v:rr):Nat:=match v with
 | .int _ t=>t
 | .str _ t=>t
 | _=>0
def DP(v:rr):rt Nat:=match v with
 | .ref a=>aM a
 | _=>none
theorem rQ(h:DP v=aM a):v=.ref a:=by
 cases v with
 | ref=>exact dd _ (ey h)
 | _=>exact nos h
def toV(t:ki)(c:CV):rt Value:=match c with
 | .none=>aM .none
 | .str y=>aM (.str y t)
 | .int i=>aM (.int i t)
 | .bool b=>aM (.bool b)
 | .ref a=>aM (.ref a)
 | _=>none
def qA(c:CV)(v:rr):Bool:=decide (toV (GH v) c=aM v)
theorem GI(e:toV t c=aM v):RV h v c:=by
 cases c with
 | none=>exact ey e▸.none
 | str=>exact ey e▸.str _ _
 | int=>exact ey e▸.int _ _
 | bool=>exact ey e▸.bool _
 | ref=>exact ey e▸.ref _
 | _=>exact nos e
def jZ(e:qA c v=true):RV h v c:=GI (p6 e)
def IN(d:Wg):rt (cp rr):=match d with
 | .seq z _=>aM z.toList
 | _=>none
theorem GJ{P:Prop}{d:Wg}(h:(IN d).any p=true)(k:∀z n,d=.seq z n->p z.toList=true->P):P:=by
 cases d with
 | seq=>exact k _ _ rfl h
 | _=>exact ff h
def IO(d:Wg):rt (cp rr):=match d with
 | .fields z=>aM z.toList
 | _=>none
theorem GK{P:Prop}{d:Wg}(h:(IO d).any p=true)(k:∀z,d=.fields z->p z.toList=true->P):P:=by
 cases d with
 | fields=>exact k _ rfl h
 | _=>exact ff h
def IP(d:Wg):rt (Qp×cp Of):=match d with
 | .func f=>match f.body with
  | .stmts b=>aM (f,b)
  | _=>none
 | _=>none
theorem GL{P:Prop}{d:Wg}(h:(IP d).any p=true)(k:∀f b,d=.func f->f.body=.stmts b->p (f,b)=true->P):P:=by
 cases d with
 | func f=>
  obtain⟨_,_,_,b⟩:=f
  cases b with
  | stmts=>exact k _ _ rfl rfl h
  | _=>exact ff h
 | _=>exact ff h
def A2{z Q:Type}(p:Q->z->LG)(w:cp z):cp Q->Bool:=w.rec Q7 λv U y l=>l.casesOn false λc Y=>p c v&&y Y
theorem rR{p:CV->rr->LG}(w:∀c v,p c v=true->RV h v c):∀{z:cp CV},A2 p Q z=true->RVs h Q z:=by
 induction Q with
 | nil=>
  intro z e
  cases z with
  | nil=>exact .nil
  | cons=>exact ff e
 | cons v Q y=>
  intro z e
  cases z with
  | nil=>exact ff e
  | cons c z=>exact .cons (w _ _ (ab e)) (y (ag e))
def A3(K:Rh)(t:RE)(a:ki)(p:cp rr->LG):Bool:=(K.lookup a).any λo=>decide (o.cls=.type t)&&(IN o.data).any p
def rS{K:Rh}(X:K.In h){P:Prop}(e:A3 K t a p=true)(k:∀o z n,h.get? a=aM o->o.cls=.type t->o.data=.seq z n->p z.toList=true->P):P:=
 jc e λo Q q=>GJ (ag q) λz n w y=>k o z n (X _ _ Q) (p6 (ab q)) w y
def IQ(K:Rh)(c:CV)(v:rr):Bool:=match c with
 | .tup l=>Oc l.length 100&&(DP v).any λa=>A3 K "tuple" a λz=>A2 qA z l
 | c=>qA c v
theorem GN{K:Rh}(X:K.In h)(c:CV)(v:rr)(e:IQ K c v=true):RV h v c:=by
 cases c with
 | tup l=>exact jc (ag e) λa z q=>rQ z▸rS X q λo V n Q w y Y=>.tup ⟨o,Q,w,n,y⟩ (cy (e0 (ab e)) (by decide)) (rR (λU U=>jZ) Y)
 | _=>exact jZ e
def Kv(f:ki)(l:NM):VM:=(Kr.lookup f).getD ((l.filter λp=>decide (p.2=.local∨p.2=.cell)).map (·.1)).zipIdx
abbrev Kw(K:Rh)(z:Fn)(w:VM)(p:Qp×cp Of)(y:cp Lj)(Q:Ql):Prop:=
 p.1.closure.isEmpty=true/\p.1.globals=3/\p.1.builtins=0/\Q.isCoroutine=false/\Q.isGenerator=false/\Q.kind=.function/\((DP p.1.code).any λc=>(K.lookup c).any λo=>(IO o.data).any λl=>l[1]?.any λv=>decide (v=.str p.1.qualname (GH v)))=true/\Ad w=true/\
 (∀p∈w,kd Q.names p.1=aM .local∨kd Q.names p.1=aM .cell)/\p.1.params.posonlyargs.isEmpty=true/\p.1.params.vararg.isNone=true/\p.1.params.kwonlyargs.isEmpty=true/\p.1.params.kwarg.isNone=true/\(∀x∈y.zipIdx,rE w x.1 x.2=true)/\y.Nodup/\y.length=z.ej/\z.dY.length<=z.ej/\
 ((p.1.defaults=.none/\z.dY.isEmpty=true)∨(DP p.1.defaults).any (λT=>A3 K "tuple" T λY=>A2 (IQ K) Y z.dY)=true)/\AT ckF Q.names w z.body true p.2=true
def IR(K:Rh)(f:ki)(z:Fn):Bool:=(K.lookup f).any λo=>(IP o.data).any λp=>decide (Kw K z (Kv f p.1.scope.names) p (p.1.params.args.map (·.arg)) p.1.scope)
inductive Kx(K:Rh)(h₀:M7)(f:ki)(fn:Fn):Prop
 | mk (fd:Qp) (body:cp Of) (vm:VM) (d:EM K h₀ f fn fd body vm) (hk:fd.scope.kind=.function) (hv:e9 vm) (h:AT ckF fd.scope.names vm fn.body true body=true)
def DQ{K:Rh}(X:K.In z)(D:IR K f L=true):Kx K z f L:=
 jc D λo Q D=>GL D λt b w C D=>by
 refine i4 (p6 D) λB N A E I M h m e y Y U v V k j J O p=>?_
 exact .mk t b _ ⟨⟨o,X _ _ Q,w⟩,C,Mt.mp B,N,A,E,I,jc h λc F q=>jc q λo Q q=>GK q λg P q=>jc q λa R q=>⟨c,o,g,_,rQ F,X _ _ Q,P,(Mk ..).symm.trans (R.trans (dd _ (p6 q)))⟩,λx i l=>Ac t.scope.names x▸e _ l,Mt.mp y,NC.mp Y,Mt.mp U,NC.mp v,λi x l=>cV (V (x,i) (Sv.mpr l)),k,j,J,O.elim (λq=>.inl ⟨q.1,Mt.mp q.2⟩) λq=>jc q λT S q=>rS X q λo g n Q Z w W=>.inr ⟨T,o,g,n,rQ S,Q,w,rR (GN X) W⟩⟩ M (wH m) p
end
def sS:Str:=u 147
def sA:Str:=u 129
def sB:Str:=u 130
def sa:Str:=u 161
def sb:Str:=u 162
def vf:Str:=u 15189026565
def sP:Str:=u 9939
def dC:Str:=u 145822180
def gZ:Str:=u 99360369208828
def pt:Str:=u 110
def jp:Str:=u 15352600498
def jq:cp Str:=[sa,sb,sA,sB,vf]
def bm:cp Str:=[sa,sb,sA,sB,vf,sS]
def aC:cp Str:=[sS,sA,sB]
def dr:cp Str:=[sa,sb,vf]
def laS:cp Str:=[sa,sb,vf,dC,gZ]
def jr:cp CV:=jq.map .str
def ft:cp CV:=bm.map .str
def lf(L:ki)(Q:cp Nj):CH:=⟨λa=>if a=439 then aM jr else if a=440 then aM ft else if a=L then aM (Q.map .int) else none,λz=>none,λz=>none,λz=>none,λz z=>none⟩
abbrev aE:=Lj×cp Lj
def cI(r:aE):CV:=.tup [.str r.1,.tup (r.2.map .str)]
abbrev Pl:=ki×ki
def plC(p:Pl):CV:=.tup [.int p.1,.int p.2]
def bJ(q:cp Pl):CV:=.tup (q.map plC)
def nub(acc l:cp Lj):cp Str:=l.foldl (λacc x=>if x∈acc then acc else acc++[x]) acc
section
variable(R:cp aE)
def lhs(r:ki):Str:=(R[r]?.map (·.1)).getD (u 1)
def rhs(r:ki):cp Str:=(R[r]?.map (·.2)).getD []
def after(p:Pl):cp Nat:=match (rhs R p.1)[p.2]? with
 | some x=>(Lk R.length).filter λr=>decide (1<=r/\lhs R r=x)
 | none=>[]
def j4(f:ki):cp ki->cp Pl->cp Pl:=f.rec (λz z=>[]) λz Q ad l=>l.casesOn [] λj t=>
 j::Q (ad++(after R j).filter (λr=>decide (r∉ad))) (t++((after R j).filter (λr=>decide (r∉ad))).map λr=>(r,0))
def clo(I:cp Pl):cp Pl:=j4 R (I.length+R.length+1) [] I
def moves(q:cp Pl)(x:Lj):cp Pl:=q.filterMap λp=>if (rhs R p.1)[p.2]?=aM x then aM (p.1,p.2+1) else none
end
def dS(z:ki)(l:cp Lj):Prop:=l.length<=z/\(∀x∈l,x∈bm)/\∀x,l[0]?=aM x->x∈jq
structure Rows(vg:cp aE):Prop where
 len:3<=vg.length/\vg.length<=4
 r0:∃x,vg[0]?=aM (sS,x)
 r1:∃x,vg[1]?=aM (sA,x)
 r2:∃x,vg[2]?=aM (sB,x)
 A4:∀r∈vg,r.1∈aC/\dS 2 r.2
 nd:vg.Nodup
def aZ(s:Lj):Prop:=s.cps.toList.all (OC · 128)=true
def aI{x:Lj}(h:x∈bm):aZ x:=by
 revert h x
 unfold aZ
 decide
def dt{x:Lj}(h:x∈laS):aZ x:=by
 revert h x
 unfold aZ
 decide
def bL{x:Lj}(h:x∈aC):x∈bm:=by
 revert h x
 decide
def aq{z:Type}{x:rt z}{v:z}(h:x=aM v):x≠none:=h▸Lm _
def bg{z:Type}{f:ki->rt z}{v:z}:upd f a v a=aM v:=K2 rfl
def a6{z:Type}{f:ki->rt z}{a b:ki}{v:z}(h:b≠a):upd f a v b=f b:=E1 h
structure Wf(H:CH):Prop where
 ro:∀a,H.ro a≠none->H.lst a=none/\H.dct a=none/\H.cls a=none
 lst:∀a,H.lst a≠none->H.ro a=none/\H.dct a=none/\H.cls a=none
 dct:∀a,H.dct a≠none->H.ro a=none/\H.lst a=none/\H.cls a=none
 cls:∀a,H.cls a≠none->H.ro a=none/\H.lst a=none/\H.dct a=none
 att:∀a,H.cls a=none->∀n,H.att n a=none
section
variable{H:CH}{a b:ki}
def tG:(H.aD a l).lst b=if b=a then aM l else H.lst b:=rfl
def n8:(H.bo a l).dct b=if b=a then aM l else H.dct b:=rfl
def oa:(H.cR a k).cls b=if b=a then aM k else H.cls b:=rfl
def j5:(H.bw n a v).att m b=if m=n/\b=a then aM v else H.att m b:=by
 unfold CH.bw upd
 by_cases h:m=n
 ·subst h
  by_cases e:b=a <;> simp[e]
 ·simp[h]
def gE{z:Type}{x y:z}{P:z->Prop}(h:b=a->P x)(k:b≠a->P y):P (if b=a then x else y):=by
 split
 ·exact h ‹_›
 ·exact k ‹_›
def Wf.aD(w:Wf H)(h:H.lst a≠none∨H.free a):Wf (H.aD a l):=
 have z:H.ro a=none/\H.dct a=none/\H.cls a=none:=h.elim (w.lst a) λf=>⟨f.ro,f.dct,f.cls⟩
 ⟨λb e=>⟨gE (P:=(·=none)) (λq=>p7 z.1 (q▸e)) λQ=>(w.ro b e).1,(w.ro b e).2⟩,
 λb e=>if q:b=a then by subst q;exact z else w.lst b (by rwa [tG,E1 q] at e),
 λb e=>⟨(w.dct b e).1,gE (P:=(·=none)) (λq=>p7 z.2.1 (q▸e)) λQ=>(w.dct b e).2.1,(w.dct b e).2.2⟩,
 λb e=>⟨(w.cls b e).1,gE (P:=(·=none)) (λq=>p7 z.2.2 (q▸e)) λQ=>(w.cls b e).2.1,(w.cls b e).2.2⟩,w.att⟩
def Wf.bo(w:Wf H)(h:H.dct a≠none∨H.free a):Wf (H.bo a l):=
 have z:H.ro a=none/\H.lst a=none/\H.cls a=none:=h.elim (w.dct a) λf=>⟨f.ro,f.lst,f.cls⟩
 ⟨λb e=>⟨(w.ro b e).1,gE (P:=(·=none)) (λq=>p7 z.1 (q▸e)) λQ=>(w.ro b e).2.1,(w.ro b e).2.2⟩,
 λb e=>⟨(w.lst b e).1,gE (P:=(·=none)) (λq=>p7 z.2.1 (q▸e)) λQ=>(w.lst b e).2.1,(w.lst b e).2.2⟩,
 λb e=>if q:b=a then by subst q;exact z else w.dct b (by rwa [n8,E1 q] at e),
 λb e=>⟨(w.cls b e).1,(w.cls b e).2.1,gE (P:=(·=none)) (λq=>p7 z.2.2 (q▸e)) λQ=>(w.cls b e).2.2⟩,w.att⟩
def Wf.cR(w:Wf H)(f:H.free a):Wf (H.cR a k):=
 ⟨λb e=>⟨(w.ro b e).1,(w.ro b e).2.1,gE (P:=(·=none)) (λq=>p7 f.ro (q▸e)) λz=>(w.ro b e).2.2⟩,
 λb e=>⟨(w.lst b e).1,(w.lst b e).2.1,gE (P:=(·=none)) (λq=>p7 f.lst (q▸e)) λz=>(w.lst b e).2.2⟩,
 λb e=>⟨(w.dct b e).1,(w.dct b e).2.1,gE (P:=(·=none)) (λq=>p7 f.dct (q▸e)) λz=>(w.dct b e).2.2⟩,
 λb e=>if q:b=a then by subst q;exact⟨f.ro,f.lst,f.dct⟩ else w.cls b (by rwa [oa,E1 q] at e),
 λb e=>if q:b=a then by subst q;exact f.att else w.att b (by rwa [oa,E1 q] at e)⟩
def Wf.bw(w:Wf H)(h:H.cls a≠none):Wf (H.bw n a v):=
 ⟨w.ro,w.lst,w.dct,w.cls,λb e m=>by
  rw[j5,E1 (λq:m=n/\b=a=>h (q.2▸e))];exact w.att b e m⟩
def CH.free.aD(h:(H.aD a l).free c):H.free c:=
 ⟨h.ro,by have:=h.lst;rw[tG] at this;split at this <;> first | cases this | exact this,h.dct,h.cls,h.att⟩
def CH.free.bo(h:(H.bo a l).free c):H.free c:=
 ⟨h.ro,h.lst,by have:=h.dct;rw[n8] at this;split at this <;> first | cases this | exact this,h.cls,h.att⟩
def CH.free.cR(h:(H.cR a k).free c):H.free c:=
 ⟨h.ro,h.lst,h.dct,by have:=h.cls;rw[oa] at this;split at this <;> first | cases this | exact this,h.att⟩
def CH.free.bw(h:(H.bw n a v).free c):H.free c:=
 ⟨h.ro,h.lst,h.dct,h.cls,λm=>by have:=h.att m;rw[j5] at this;split at this <;> first | cases this | exact this⟩
def aV(h:H.lst a=aM l):H.getL a=aM l:=by unfold CH.getL;rw[h]
def wV(w:Wf H)(h:H.ro a=aM l):H.getL a=aM l:=by unfold CH.getL;rw[(w.ro a (aq h)).1];exact h
def wW(z:H.lst a=none)(Q:H.ro a=none):H.getL a=none:=by unfold CH.getL;rw[z];exact Q
end
inductive aK
 | ak (l:cp CV)
 | bc (es:cp (CV×CV))
 | cA (c:ki) (f:ki->rt CV)
 | bX | jd | names | iB (x:Lj) | tH | lS | gV | j6 | prec | cJ (r:ki) | us (r:ki)
 | pu | fst (x:Lj) | pw | fol (x:Lj)
 | item (r d:ki) | rT
 | table | j9 | A5 | tI | srL | oh | iD (x:Lj) (p:cp Pl) | stL (q:cp Pl)
def aK.own(ρ:aK):Bool:=ρ.casesOn (motive:=λz=>LG) (λz=>true) (λz=>true) (λz z=>true) false false false (λz=>false) false false false false false (λz=>false) (λz=>false) false (λz=>false) false (λz=>false) (λz z=>false) false false false false false false false (λz z=>false) (λz=>false)
def aK.gr(ρ:aK):Bool:=ρ.casesOn (motive:=λz=>LG) (λz=>true) (λz=>true) (λz z=>true) true true true (λz=>true) true true true true true (λz=>true) (λz=>true) true (λz=>true) true (λz=>true) (λz z=>true) true false false false false false false (λz z=>false) (λz=>false)
def aK.fx(Q:aK):Nat:=Q.casesOn (motive:=λz=>ki) (λz=>0) (λz=>1) (λz z=>2) 5 5 5 (λz=>5) 5 5 5 5 5 (λz=>3) (λz=>4) 5 (λz=>5) 5 (λz=>5) (λz z=>5) 5 5 5 5 5 5 5 (λz z=>5) (λz=>5)
def E9(K:Rh)(y:rt (rt rr))(c:rt CV):Bool:=match c with
 | some c=>match c with
  | .int i=>y.join.any λv=>decide (v=.int i (GH v))
  | _=>false
 | none=>y.any (noGet K)
theorem DR{K:Rh}(h:E9 K (Oq K (.ref C) x) c=true):xA K C x c:=by
 cases c with
 | none=>exact jc h λa e q=>.no e q
 | some c=>
  cases c with
  | int i=>exact jc h λv e q=>.int ((Tq.mp e).trans (dd (λv=>aM (aM v)) (p6 q)))
  | _=>exact ff h
def IT(K:Rh)(C:ki):Bool:=decide (
 Oq K (.ref C) "__setattr__"=aM (aM (.builtin "object.__setattr__"))/\Oq K (.ref C) "__getattribute__"=aM (aM (.builtin "object.__getattribute__"))/\Oq K (.ref C) "__getattr__"=aM none/\Wz K C=true/\WC K C=true/\
 Oq K (.ref C) "__bool__"=aM none/\makesIn K C=true/\Oq K (.ref C) "__init__"=aM (aM (.ref (gq C)))/\To K (.ref (gq C))=aM (.type "function")/\RA K (.ref C)=true/\
 ∀p∈(anL.take 42).zipIdx,XU K C p.1=aM none/\Yo.contains p.1=false/\E9 K (Oq K (.ref C) p.1) (fL C p.2)=true)
def GO{K:Rh}{C:ki}(h:IT K C=true):HN K anL 42 C:=by
 refine lB (p6 h) λw y Y U v V k j J z Q=>?_
 exact⟨w,y,Y,U,v,V,k,j,J,z,λn x o O=>
  have q:=Q (x,n) (Sv.mpr ((TF O).trans o))
  ⟨q.1,q.2.1,DR q.2.2⟩⟩
abbrev Ky(K:Rh):Prop:=
 (∀p∈IF,IR K p.1 p.2=true)/\(∀C∈Fp,IT K C=true)/\(∀p∈GB,anL[p.2.1]?.bind (Oq K (.ref p.1))=aM (aM (.ref p.2.2))/\To K (.ref p.2.2)=aM (.type "function")/\RA K (.ref p.2.2)=true)/\
 (∀p∈ckF.fN,((P9 K LU p.1).join.any (qA p.2))=true)/\(∀p∈ckF.fns,P9 K LU p.1=aM (aM (.ref p.2))/\RA K (.ref p.2)=true)/\(∀x∈ckF.pT,P9 K LU x=aM none)/\
 (∀C∈[135,427],Oq K (.ref C) "__len__"=aM none)/\Oq K (.ref 100) "__len__"=aM (aM (.ref 83))/\To K (.ref 83)=aM (.type "function")/\(K.lookup Pc).isSome=true/\P9 K LU "law"=aM (aM (.ref 507))/\
 (∀p∈[(439,jr),(440,ft)],A3 K "list" p.1 (λz=>A2 qA z p.2)=true)
def DS(P:Ua):Ky (K P):=p6 (by kernel_rfl)
def x5:anL.Nodup:=p6 (by kernel_rfl)
def gOf(w:MY)(s:ow)(mg mb:Lj->rt rr)(n:ki)(fs:cp OR):G:={ prog:=tp,w:=w,K:=K w.params,AN:=anL,nA:=42,os:=s.os,h₀:=s.heap,mg:=mg,mb:=mb,n:=n,hd:=true,Φ:=ah fF mF n,M:=mF,fs:=fs }
def vh{m:ki}(h:mF c m=aM f):(c,m,f)∈GB:=
 (Me.mp h).elim λp h=>
  have z:(p.1==c&&p.2.1==m)=true:=VP (p:=λp:ki×ki×ki=>p.1==c&&p.2.1==m) h.1
  have e:p=(c,m,f):=MX (MU.mp (ab z)) (MX (MU.mp (ag z)) h.2)
  e▸Tt h.1
section
variable{s:ow}{w:MY}{z Q:Lj->rt rr}{lo:cp Lj}{y:ExcName->rt rr}(X:(K w.params).In s.heap)(T:Top p lo y z Q s.heap)
include X T
def Fa(n:ki)(V:cp OR):CK.Ok ckF (gOf w s z Q n V):=by
 refine lB (DS w.params) λB k Y j J O g l L U t=>?_
 exact⟨⟨X,T.g,T.b,T.nolimit,T.builtins,x5,(by decide:anL.length<=900),λC h=>GO (k C (OW.mp h)),λC h=>g C (OW.mp h),λC m f h=>(MM.mp (Y _ (vh h)).1).elim λx q=>⟨x,q.1,q.2,(Y _ (vh h)).2.1⟩,(Zd.mp U).elim λo b=>⟨o,X _ _ b⟩⟩,
  λp h=>jc (j p h) λv e q=>⟨v,Tq.mp e,λN=>jZ q⟩,J,O,rfl,rfl,λc m f h=>(Y _ (vh h)).2.2,l,L⟩
theorem DT:Da (gOf w s z Q 30 []) fF:=
 ⟨(Fa X T _ _).ok,λf l J=>(Me.mp J).elim λp h=>
  match DQ (f:=f) X (h.2▸MU.mp (VP (p:=λp:ki×Fn=>p.1==f) h.1)▸(DS w.params).1 p (Tt h.1)) with
  | .mk o Y O D k j U=>⟨o,Y,O,D,k,j,λn g L v V=>AW ⟨rfl,k⟩ j U (Fa X T n _) λt=>⟨rfl,V,v,⟨g,rfl⟩,rfl⟩⟩⟩
end
theorem DU:WShape.hasItems R w .int=true->∃y:cp Nj,w=y.map .int:=by
 induction w with
 | nil=>exact λU=>⟨[],rfl⟩
 | cons x w Y=>
  intro h
  refine oE (Y (ag h)) λy z=>?_;subst z
  refine oE (hasW_int (ab h)) λi Q=>?_;subst Q
  exact⟨i::y,rfl⟩
def GQ(b:LG):Bool:=(WTm.not (.lit (.bool b))).holds rw0.toRowW.records { args:=[] }
def DV(Q:rw0.toRowW.claim.pre args=true):∃z:cp Nj,args=[.list (z.map .int)]/\z.length<=63:=by
 refine oA (pre_splitW Q) λv V=>?_
 refine aX (hasAllW_cons (e:=.list .int) (es:=[]) v) λd r w k U=>?_;subst w
 have U:=hasAllW_nil U
 subst U
 refine oEA (hasW_list k) λo y j=>?_;subst y
 refine oE (DU j) λz Y=>?_;subst Y
 refine⟨z,rfl,?_⟩
 have e:(WTm.not (.lt (.lit (.int 63)) (.len (.arg 0)))).holds rw0.toRowW.records { args:=[.list (z.map .int)] }=GQ (decide ((63:Nj)<((z.map WData.int).length:Nj))):=by kernel_rfl
 have J:=e.symm.trans (holds_andW (a:=.not (.lt (.lit (.int 63)) (.len (.arg 0)))) (b:=.lit (.bool true)) V).1
 have f:GQ true=false:=by kernel_rfl
 exact O5 λh=>ntf (J.symm.trans ((dd GQ (Ln (MP.mpr (h7 (as:=z) WData.int▸h)))).trans f))
theorem x6{Q:cp Nj}:∀{w:cp rr} {as:cp LZ},Y6 R Y h w (Q.map .int) as->RVs h w (Q.map .int):=by
 induction Q with
 | nil=>exact λr=>(Wp r).1▸.nil
 | cons n Q U=>
  intro w as r
  refine sv (V8 r) λv w y y z y V k=>?_;subst z
  exact(readsW_int_inv V).elim λt e=>e.1▸.cons (.int _ _) (U k)
inductive Kz(h:M7)(ns:cp Nj)(KA:cp rr):Prop
 | mk (L:ki) (o:P0) (vs:Mv rr) (n:ki) (e:KA=[.ref L]) (ho:h.get? L=aM o) (hc:o.cls=.type "list") (hd:o.data=.seq vs n) (hi:RVs h vs.toList (ns.map .int))
def DW{y:cp Nj}{z:cp rr}{as:cp LZ}(r:Y6 R Y h z [.list (y.map .int)] as):Kz h y z:=by
 refine sv (V8 r) λv f Q Q e Q U V=>?_
 refine sw (readsW_list_open U) λl o w n Q k j J O p Q=>?_
 exact⟨l,o,w,n,e.trans (k▸(Wp V).1▸rfl),j,J,O,x6 p⟩
def DX:ve.name=Li "law":=by kernel_rfl
theorem apart{K:Rh}(X:K.In h){a L:ki}(e:A3 K "list" a (λQ=>A2 qA Q Y)=true)(j:∃x,Y[0]?=aM (.str x)){Q:Mv rr}(J:h.get? L=aM U)(O:U.data=.seq Q n){w:cp Nj}(V:RVs h Q.toList (w.map .int)):L≠a:=λq=>
 rS X e λo p b f y g l=>j.elim λx T=>by
 refine oEA ((rR (λy y=>jZ (h:=h)) l).get 0 T) λv q1 q2=>?_
 obtain rfl:=ey (J.symm.trans (q▸f))
 refine oA (Data.seq.inj (O.symm.trans g)) λz y=>?_;subst z
 cases w with
 | nil=>exact nos ((Md (p8 V.length)).symm.trans q1)
 | cons m w=>exact(V.get 0 (c:=.int m) rfl).elim λB k=>q2.c.elim λt c=>k.2.c.elim λN C=>rr.noConfusion (c.symm.trans ((ey (q1.symm.trans k.1)).trans C))
def vj{w:MY}{s:ow}{L:ki}{Q:cp Nj}(X:(K w.params).In s.heap)(J:s.gens=#[])(y:s.heap.get? L=aM o)(Y:o.cls=.type "list")(U:o.data=.seq z n)(v:RVs s.heap z.toList (Q.map .int))(O:Q.length<=63):av w anL s.os s.heap (λb o=>s.heap.get? b=aM o) s (lf L Q):=by
 have k:∀p∈[(439,jr),(440,ft)],p.2.length<=szl->∃o z n,s.heap.get? p.1=aM o/\o.cls=.type "list"/\o.data=.seq z n/\RVs s.heap z.toList p.2/\p.2.length<=szl:=λp f g=>rS X ((DS w.params).2.2.2.2.2.2.2.2.2.2.2 p f) λt V T y Y U v=>⟨t,V,T,y,Y,U,rR (λx x=>jZ) v,g⟩
 refine⟨rfl,J,λb o e=>⟨o,e,.refl o⟩,λb o e=>e,λb o e=>e,λa l e=>?_,λa l e=>nos e,λa l e=>nos e,λa l e=>nos e,λa b c d C e=>nos e,λn a e=>p7 rfl e⟩
 have e:(if a=439 then aM jr else if a=440 then aM ft else if a=L then aM (Q.map .int) else none)=aM l:=e
 by_cases q1:a=439
 ·exact ey ((K2 q1).symm.trans e)▸q1▸k _ fp (by decide)
 have e:=(E1 q1).symm.trans e
 by_cases q2:a=440
 ·exact ey ((K2 q2).symm.trans e)▸q2▸k _ (oo _ fp) (by decide)
 have e:=(E1 q2).symm.trans e
 by_cases j:a=L
 ·exact ey ((K2 j).symm.trans e)▸j▸⟨o,z,n,y,Y,U,v,cy (p8 (h7 _)) (cy O (by decide))⟩
 exact nos ((E1 j).symm.trans e)
def A6(h:∀(L:ki) (J:cp Nj),L≠439->L≠440->J.length<=63->ah fF mF 30 507 [.ref L] (lf L J) (λv f=>v=.bool true)):PySem.Challenge.rw_rp0002_03.Holds:=by
 refine head Ku λw N Q s d GT Y a o Z cd m dV kV ho A g i l y D E as O I U t M=>?_
 have X:(K w.params).In Q.heap:=kIn_of Y
 have C:=DS w.params
 have T:a=507:=Value.ref.inj (ey ((DX▸l).symm.trans (mg_of X GT.T.g C.2.2.2.2.2.2.2.2.2.2.1)))
 refine oEA (DV O) λJ r p=>?_
 obtain⟨L,oL,vs,n,e,V,x,k,z⟩:=DW (r▸U)
 subst T
 subst e
 have F:OKF [] 30 callerA:=⟨rfl,(by decide:Ws.units+200 * 30+100<P5),(by decide:Ws.depth+10 * 30+5<T3),rfl,rfl⟩
 have C:=C.2.2.2.2.2.2.2.2.2.2.2
 have B:FS (gOf w Q s d 30 []):=(DT X GT.T).fs 30 [] ⟨λe P=>nomatch P⟩
 show rl (Lg tp w) Ws (WJ (.ref 507) [.ref L]) _ _ Q
 refine SJ (B 507 [.ref L] [.ref L] Ws _ Q (lf L J) (λv f=>v=.bool true) _ F (λb R=>nomatch R) (vj X y V x k z p) (.cons (.ref L) .nil) (h L J (apart X (C (439,jr) fp) ⟨_,rfl⟩ V k z) (apart X (C (440,ft) (oo _ fp)) ⟨_,rfl⟩ V k z) p) λv c s' H' S j W=>?_)
 subst W
 cases S
 exact GoodW.toG ⟨.inl ⟨_,.bool true,[],rfl,λf=>rfl,.bool true,by kernel_rfl,λf=>⟨LR,λa T=>nomatch T⟩⟩,j.old,j.os,j.gens⟩
inductive cB{α β:Type}(P:α->β->Prop):cp α->cp β->Prop
 | nil:cB P [] []
 | cons {a b l m}:P a b->cB P l m->cB P (a::l) (b::m)
section
variable{α z:Type}{P Q:α->z->Prop}{l l':cp α}{m m':cp z}
theorem cB.mono(h:∀a b,P a b->Q a b)(x:cB P l m):cB Q l m:=by
 induction x with
 | nil=>exact .nil
 | cons p _ w=>exact .cons (h _ _ p) w
theorem cB.len(x:cB P l m):l.length=m.length:=by
 induction x with
 | nil=>rfl
 | cons p _ w=>exact dd Pj w
theorem cB.app(x:cB P l m)(y:cB P l' m'):cB P (l++l') (m++m'):=by
 induction x with
 | nil=>exact y
 | cons p _ w=>exact .cons p w
theorem cB.get(x:cB P l m):∀{i:ki} {a:α},l[i]?=aM a->∃b,m[i]?=aM b/\P a b:=by
 induction x with
 | nil=>exact λh=>nomatch h
 | cons p _ w=>
  intro i a h
  cases i with
  | zero=>exact⟨_,rfl,ey h▸p⟩
  | succ i=>exact w h
theorem cB.sG(x:cB P l m):∀{i:ki} {b:z},m[i]?=aM b->∃a,l[i]?=aM a/\P a b:=by
 induction x with
 | nil=>exact λh=>nomatch h
 | cons p _ w=>
  intro i b h
  cases i with
  | zero=>exact⟨_,rfl,ey h▸p⟩
  | succ i=>exact w h
end
structure PK where
 R:cp aE
 k:Nat:=1
 kq:Nat:=1
 kn:Nat:=1
 kt:Nat:=1
 km:Nat:=1
 z:Bool:=false
 aNm:Lj->Nat:=λζ=>0
 c:Nat:=0
 pr:ki->Nat:=λζ=>0
structure PI where
 li:Nat:=0
 lx:Nat:=0
 ly:Nat:=0
 it:ki->ki->Nat:=λζ ζ=>0
structure PM where
 ad:ki->Int:=λζ=>0
 m:Int:=0
structure PF where
 fe:Bool:=true
 ff:Bool:=false
 af:Lj->rt Nat:=λζ=>none
 fc:Lj->cp Str:=λζ=>[]
structure PO where
 ge:Bool:=true
 fz:Bool:=false
 ao:Lj->rt Nat:=λζ=>none
 fo:Lj->cp Str:=λζ=>[]
structure PA where
 gr:Nat:=0
 aP:Nat:=0
 aPn:Nat:=0
 aPm:Nat:=0
 aT:Nat:=0
 aN:Nat:=0
 aF:Nat:=0
 aFo:Nat:=0
 aPr:Nat:=0
 nk:rt (cp Lj):=none
structure PQ where
 tb:Nat:=0
 tJ:Nat:=0
 lT:Nat:=0
 GR:Nat:=0
 aSr:Nat:=0
 aRr:Nat:=0
 qs:cp (cp Pl):=[]
structure PE where
 hash:Nat:=0
 he:cp (CV×CV):=[]
 acE:cp (CV×CV):=[]
 goE:cp (CV×CV):=[]
 sc:Nat:=0
structure Par extends PK,PI,PM,PF,PO,PA,PQ,PE
structure Ob where
 lst:rt (cp CV)
 dct:rt (cp (CV×CV))
 cls:rt ki
 att:ki->rt CV
def aY(H:CH)(a:ki):Ob:=⟨H.lst a,H.dct a,H.cls a,λn=>H.att n a⟩
abbrev TY:=ki->rt aK
def AR(v:Ob)(z:TY)(n b:ki)(Q:aK):Prop:=v.att n=aM (.ref b)/\z b=aM Q
section
variable(K:PK)(I:PI)(M:PM)(A:PA)(T:PQ)(ty:TY)(v:Ob)
structure Fb:Prop where
 cls:v.cls=aM 283
 a17:AR v ty 17 A.aP .jd
 a18:AR v ty 18 A.aPn .names
 a19:AR v ty 19 A.aPm .tH
 a20:AR v ty 20 A.aT .lS
 a21:AR v ty 21 A.aN .gV
 a22:AR v ty 22 A.aF .pu
 a23:AR v ty 23 A.aFo .pw
 a24:AR v ty 24 A.aPr .prec
 no:∀n,42<=n->v.att n=none
structure A7(a r:ki):Prop where
 pr:a=K.pr r
 rk:r<K.k/\(1<=r∨K.z=true)
 cls:v.cls=aM 100
 a2:v.att 2=aM (.str (lhs K.R r))
 a3:v.att 3=aM (.tup ((rhs K.R r).map .str))
 a4:v.att 4=aM (.int r)
 a8:v.att 8=aM (.int 0)
 a9:v.att 9=aM (.tup [.str jp,.int 0])
 a11:∃b,AR v ty 11 b (.us r)
 a0:v.att 0=none∨∃i,v.att 0=aM (.int i)
 a1:(v.att 1=none/\M.ad r=0)∨v.att 1=aM (.int (M.ad r))
 am:M.ad r<=M.m
 a13:(r<I.li∨r=I.li/\0<I.lx)->∃b,AR v ty 13 b (.item r 0)
def pz(R:cp aE)(r d:ki)(z:aK):Prop:=((rhs R r)[d]?).elim (z=.rT) λx=>if x∈aC then z=.iB x else z=.rT
def pz.eq{d:ki}(e:(rhs R r)[d]?=o):pz R r d z=o.elim (z=.rT) λx=>if x∈aC then z=.iB x else z=.rT:=by subst e;rfl
theorem pz.own(h:pz R r d ρ):ρ.own=false/\ρ.gr=true:=by
 revert h
 show((rhs R r)[d]?).elim _ _->_
 cases(rhs R r)[d]? with
 | none=>exact λh=>h▸⟨rfl,rfl⟩
 | some x=>exact λh=>(Decidable.em (x∈aC)).elim (λq=>(K2 q).mp h▸⟨rfl,rfl⟩) λq=>(E1 q).mp h▸⟨rfl,rfl⟩
def Aft(R:cp aE)(ty:TY)(r d b:ki):Prop:=∃z,ty b=aM z/\pz R r d z
structure Fc(a r d:ki):Prop where
 pin:a=I.it r d
 ex:r<I.li∨r=I.li/\d<I.ly
 rk:r<K.k
 dk:d<=(rhs K.R r).length
 cls:v.cls=aM 135
 a2:v.att 2=aM (.str (lhs K.R r))
 a3:v.att 3=aM (.tup (((rhs K.R r).take d++pt::(rhs K.R r).drop d).map .str))
 a4:v.att 4=aM (.int r)
 a10:v.att 10=aM (.int ((rhs K.R r).length+1:ki))
 a11:∃b,AR v ty 11 b (.us r)
 a15:v.att 15=aM (.int d)
 a27:∃b,v.att 27=aM (.ref b)/\Aft K.R ty r d b
 a28:∃w,v.att 28=aM w/\∀e x,d=e+1->(rhs K.R r)[e]?=aM x->w=.str x
 a13:(r<I.li∨r=I.li/\d+1<I.lx)->(d<(rhs K.R r).length/\∃b,AR v ty 13 b (.item r (d+1)))∨d=(rhs K.R r).length/\v.att 13=aM .none
structure A8(hash:ki):Prop where
 cls:v.cls=aM 427
 a29:AR v ty 29 A.gr .bX
 a30:v.att 30=aM (.str (u 1349811))
 a31:AR v ty 31 T.tJ .A5
 a32:AR v ty 32 T.lT .tI
 a34:AR v ty 34 T.GR .oh
 a35:AR v ty 35 hash .j9
 a36:v.att 36=aM (.int M.m)
 a40:AR v ty 40 T.aSr .srL
 a41:AR v ty 41 T.aRr .srL
 no:∀n,42<=n->v.att n=none
end
def iE(z:TY)(q:cp Pl)(v:CV):Prop:=(v=.none/\q=[])∨∃b,v=.ref b/\z b=aM (.stL q)
def tK(q:cp Pl)(x:Lj):CV:=.tup [bJ q,.str x]
structure SD(ty:TY)(D:cp Lj)(f:Lj->aK)(g:Lj->ki->Prop)(es:cp (CV×CV)):Prop where
 ks:∀p∈es,∃x∈D,p.1=.str x/\∃b,p.2=.ref b/\ty b=aM (f x)/\g x b
 nd:(es.map (·.1)).Nodup
def Sat(P:Par)(Q:TY)(v:Ob)(a:ki):aK->Prop
 | .ak l=>v.lst=aM l
 | .bc z=>v.dct=aM z
 | .cA c f=>v.cls=aM c/\v.att=f
 | .bX=>a=P.gr/\Fb P.toPA Q v
 | .jd=>a=P.aP/\v.lst=aM ((if P.z then .ref (P.pr 0) else .none)::(OL 1 (P.kq - 1)).map λi=>.ref (P.pr i))/\∀i,i<P.kq->(P.z=true∨1<=i)->Q (P.pr i)=aM (.cJ i)
 | .names=>a=P.aPn/\∃z,v.dct=aM z/\SD Q aC .iB (λw w=>True) z/\∀i,1<=i->i<P.kn->aw z (.str (lhs P.R i))≠none
 | .iB x=>a=P.aNm x/\v.lst=aM (((Lk P.kn).filter λr=>decide (1<=r/\lhs P.R r=x)).map λi=>.ref (P.pr i))/\(∀i,i<P.kn->1<=i->Q (P.pr i)=aM (.cJ i))/\∃i,1<=i/\i<P.kn/\lhs P.R i=x
 | .tH=>a=P.aPm/\∃z,v.dct=aM z/\z.length<P.km/\∀p∈z,∃i,1<=i/\i<P.km/\p.1=.str (eE (lhs P.R i) (rhs P.R i))
 | .lS=>∃z,v.dct=aM z/\z.map (·.1)=dr.map .str/\∀p∈z,∃b,p.2=.ref b/\Q b=aM .j6
 | .gV=>a=P.aN/\∃z,v.dct=aM z/\SD Q aC (λw=>.j6) (λw w=>True) z/\(∀i,1<=i->i<P.kt->aw z (.str (lhs P.R i))≠none)/\∀ks,P.nk=aM ks->z.map (·.1)=ks.map .str
 | .j6=>∃l,v.lst=aM l/\l.length<=P.c
 | .prec=>v.dct=aM []
 | .cJ r=>A7 P.toPK P.toPI P.toPM Q v a r
 | .us r=>v.lst=aM ((nub [] (rhs P.R r)).map .str)
 | .pu=>a=P.aF/\∃z,v.dct=aM z/\SD Q (dC::bm) .fst (λx b=>P.af x=aM b) z/\(P.fe=true->z=[])/\(P.ff=true->∀x∈bm,aw z (.str x)≠none)
 | .fst x=>v.lst≠none/\(P.af x=aM a->v.lst=aM ((P.fc x).map .str)/\(P.fc x).Nodup/\∀y∈P.fc x,y∈laS)
 | .pw=>a=P.aFo/\∃z,v.dct=aM z/\SD Q aC .fol (λx b=>P.ao x=aM b) z/\(P.ge=true->z=[])/\(P.fz=true->∀x∈aC,aw z (.str x)≠none)
 | .fol x=>v.lst≠none/\(P.ao x=aM a->v.lst=aM ((P.fo x).map .str)/\(P.fo x).Nodup/\∀y∈P.fo x,y∈laS/\y≠gZ)
 | .item r d=>Fc P.toPK P.toPI Q v a r d
 | .rT=>v.lst=aM []
 | .table=>a=P.tb/\A8 P.toPM P.toPA P.toPQ Q v P.hash
 | .j9=>v.dct≠none/\(P.hash=a->v.dct=aM P.he)
 | .A5=>a=P.tJ/\v.dct=aM P.acE
 | .tI=>a=P.lT/\v.dct=aM P.goE
 | .srL=>∃l,v.lst=aM l/\l.length<=P.sc
 | .oh=>∃z,v.dct=aM z/\(∀p∈z,∃x∈bm,(p.1=.str x/\∃b,p.2=.ref b/\Q b=aM (.iD x []))∨∃q∈P.qs,p.1=tK q x/\iE Q (clo P.R (moves P.R q x)) p.2)/\(z.map (·.1)).Nodup
 | .iD x p=>∃z,v.dct=aM z/\(∀e∈z,(e.1=.str dC/\∃b,e.2=.ref b/\Q b=aM (.stL (clo P.R p)))∨∃r d,r<P.k/\d<=(rhs P.R r).length/\e.1=plC (r,d)/\∃b,e.2=.ref b/\Q b=aM (.iD x (p++[(r,d)])))/\(z.map (·.1)).Nodup
 | .stL q=>∃l:cp ki,v.lst=aM (l.map .ref)/\cB (λa p=>Q a=aM (.item p.1 p.2)) l q/\q.length<1000
def Sat.live(h:Sat P z v a ρ):v.lst≠none∨v.dct≠none∨v.cls≠none:=by
 cases ρ <;> first | exact .inl (aq h) | exact .inr (.inl (aq h)) | exact .inr (.inl (aq h.choose_spec.1)) | exact .inl (aq h.choose_spec.1) | exact .inr (.inl (aq h.2.choose_spec.1)) | exact .inr (.inr (aq h.1)) | exact .inr (.inr (aq h.2.cls)) | exact .inr (.inr (aq h.cls)) | exact .inl (aq h.2.1) | exact .inr (.inl (aq h.2)) | exact .inl h.1 | exact .inr (.inl h.1)
section
variable{P:Par}{w Q:TY}
def SD.mono{f:Lj->aK}(y:∀b x,w b=aM (f x)->Q b=aM (f x))(h:SD w D f g z):SD Q D f g z:=
 ⟨λp Y=>by refine eK (h.ks p Y) λx U e b V t q=>?_;exact⟨x,U,e,b,V,y _ _ t,q⟩,h.nd⟩
def AR.mono(h:AR v w n b ρ)(z:w b=aM ρ->Q b=aM ρ):AR v Q n b ρ:=⟨h.1,z h.2⟩
theorem Sat.mono{ρ:aK}(y:∀b Y,Y.own=false->(ρ.gr=true->Y.gr=true)->w b=aM Y->Q b=aM Y)(h:Sat P w v a ρ):Sat P Q v a ρ:=by
 cases ρ with
 | bX=>
  have m:∀{n b ρ},ρ.own=false->ρ.gr=true->AR v w n b ρ->AR v Q n b ρ:=λo g q=>q.mono (y _ _ o λU=>g)
  exact⟨h.1,h.2.cls,m rfl rfl h.2.a17,m rfl rfl h.2.a18,m rfl rfl h.2.a19,m rfl rfl h.2.a20,m rfl rfl h.2.a21,m rfl rfl h.2.a22,m rfl rfl h.2.a23,m rfl rfl h.2.a24,h.2.no⟩
 | jd=>exact⟨h.1,h.2.1,λi a b=>y _ _ rfl id (h.2.2 i a b)⟩
 | names=>exact⟨h.1,h.2.imp λV q=>⟨q.1,q.2.1.mono λU U=>y _ _ rfl id,q.2.2⟩⟩
 | iB=>exact⟨h.1,h.2.1,λi a b=>y _ _ rfl id (h.2.2.1 i a b),h.2.2.2⟩
 | lS=>exact h.imp λV q=>⟨q.1,q.2.1,λp j=>(q.2.2 p j).imp λb q=>⟨q.1,y _ _ rfl id q.2⟩⟩
 | gV=>exact⟨h.1,h.2.imp λV q=>⟨q.1,q.2.1.mono λU U=>y _ _ rfl id,q.2.2⟩⟩
 | cJ=>exact{ h with a11:=h.a11.imp λb t=>t.mono (y _ _ rfl id),a13:=λq=>(h.a13 q).imp λb t=>t.mono (y _ _ rfl id) }
 | pu=>exact⟨h.1,h.2.imp λV q=>⟨q.1,q.2.1.mono λU U=>y _ _ rfl id,q.2.2⟩⟩
 | pw=>exact⟨h.1,h.2.imp λV q=>⟨q.1,q.2.1.mono λU U=>y _ _ rfl id,q.2.2⟩⟩
 | item r d=>
  exact{ h with
   a11:=h.a11.imp λb t=>t.mono (y _ _ rfl id)
   a13:=λq=>(h.a13 q).imp (λx=>⟨x.1,x.2.imp λb t=>t.mono (y _ _ rfl id)⟩) id
   a27:=h.a27.imp λb x=>⟨x.1,x.2.imp λρ x=>⟨y _ _ x.2.own.1 (λU=>x.2.own.2) x.1,x.2⟩⟩ }
 | table=>
  have m:∀{n b ρ},ρ.own=false->AR v w n b ρ->AR v Q n b ρ:=λo q=>q.mono (y _ _ o λk=>nomatch k)
  exact⟨h.1,{ h.2 with a29:=m rfl h.2.a29,a31:=m rfl h.2.a31,a32:=m rfl h.2.a32,a34:=m rfl h.2.a34,a35:=m rfl h.2.a35,a40:=m rfl h.2.a40,a41:=m rfl h.2.a41 }⟩
 | oh=>exact h.imp λV q=>⟨q.1,λp j=>(q.2.1 p j).imp λx z=>⟨z.1,z.2.imp (λz=>⟨z.1,z.2.imp λb t=>⟨t.1,y _ _ rfl ff t.2⟩⟩) λz=>z.imp λq z=>⟨z.1,z.2.1,z.2.2.imp id λt=>t.imp λb t=>⟨t.1,y _ _ rfl ff t.2⟩⟩⟩,q.2.2⟩
 | iD=>exact h.imp λV q=>⟨q.1,λp j=>(q.2.1 p j).imp (λz=>⟨z.1,z.2.imp λb t=>⟨t.1,y _ _ rfl ff t.2⟩⟩) λz=>z.imp λr z=>z.imp λd z=>⟨z.1,z.2.1,z.2.2.1,z.2.2.2.imp λb t=>⟨t.1,y _ _ rfl ff t.2⟩⟩,q.2.2⟩
 | stL=>exact h.imp λl q=>⟨q.1,q.2.1.mono λa p=>y _ _ rfl ff,q.2.2⟩
 | _=>exact h
end
structure au(P:Par)(ty:TY)(H:CH):Prop where
 wf:Wf H
 f:H.ro 439=aM jr
 s:H.ro 440=aM ft
 sat:∀a ρ,ty a=aM ρ->Sat P ty (aY H a) a ρ
structure Now(H0:CH)(t0:TY)(P:Par)(ty:TY)(H:CH):Prop where
 T:au P ty H
 live:∀a,H.free a->H0.free a
 iF:∀a,¬ H0.free a->ty a=t0 a
def Kp(c:ki)(w z:TY):Prop:=∀a Q,a≠c->w a=aM Q->z a=aM Q
def Ka(w z:TY):Prop:=∀a Q,w a=aM Q->z a=aM Q
def K1(c:ki)(w z:TY):Prop:=∀a Q,w a=aM Q->z a=aM Q/\a≠c
def Kn(w z:TY):Prop:=∀{a Q},w a=aM Q->(o:Q.own=false:=by rfl)->z a=aM Q
section
variable{P:Par}{z Q w:TY}{H U:CH}{a b c n:ki}{ρ:aK}
def bh(h:z a=aM ρ)(o:ρ.own=false)(j:z c=aM V)(J:V.own=true):a≠c:=λe=>by
 subst e;rw[h] at j;cases j;rw[o] at J;cases J
def wX(h:z a=aM ρ)(j:z b=aM V)(n:Re ρ.fx V.fx=false):a≠b:=λe=>PD n (dd aK.fx (ey (h.symm.trans (e▸j))))
def Kp.nn(k:Kp c z Q)(j:z c=aM V)(J:V.own=true:=by rfl):Kn z Q:=λ{O O} h o=>k _ _ (bh h o j J) h
def K1.aa(k:K1 c z Q):Ka z Q:=λa ρ h=>(k a ρ h).1
def Kp.r:Kp c z z:=λj j j h=>h
def Ka.t(k:Ka Y t1)(j:Ka t1 w):Ka Y w:=λa ρ h=>j a ρ (k a ρ h)
def Kp.t(k:Kp c Y t1)(j:Kp c t1 w):Kp c Y w:=λa ρ e h=>j a ρ e (k a ρ e h)
def Ka.p(k:Ka z Q):Kp c z Q:=λa ρ j h=>k a ρ h
def K1.p(k:K1 b z Q):Kp c z Q:=λa ρ j h=>(k a ρ h).1
def au.live(T:au P z H)(h:z a=aM ρ):¬ H.free a:=λf=>(T.sat a ρ h).live.elim (λq=>q f.lst) λq=>q.elim (λq=>q f.dct) λq=>q f.cls
theorem au.fresh(T:au P z H)(h:H.free a):z a=none:=match e:z a with
 | none=>rfl
 | some ρ=>p7 h (T.live e)
def au.ne(T:au P z H)(h:z a=aM ρ)(j:H.free c):a≠c:=λe=>T.live h (e▸j)
def au.L(T:au P z H)(h:z a=aM (.ak l)):H.lst a=aM l:=T.sat a _ h
def au.gL(T:au P z H)(h:z a=aM (.ak l)):H.getL a=aM l:=aV (T.L h)
def au.D(T:au P z H)(h:z a=aM (.bc l)):H.dct a=aM l:=T.sat a _ h
def au.C{f:ki->rt CV}(T:au P z H)(h:z a=aM (.cA k f)):H.cls a=aM k:=(T.sat a _ h).1
def au.A{f:ki->rt CV}(T:au P z H)(h:z a=aM (.cA k f))(n:ki):H.att n a=f n:=VE (T.sat a _ h).2 n
def au.lc(T:au P z H)(h:H.lst a=aM l):H.cls a=none:=(T.wf.lst a (aq h)).2.2
def au.dg(T:au P z H)(h:H.dct a=aM l):H.getL a=none:=wW (T.wf.dct a (aq h)).2.1 (T.wf.dct a (aq h)).1
def au.cg(T:au P z H)(h:H.cls a=aM k):H.getL a=none:=wW (T.wf.cls a (aq h)).2.1 (T.wf.cls a (aq h)).1
def au.gf(T:au P z H):H.getL 439=aM jr:=wV T.wf T.f
def au.gs(T:au P z H):H.getL 440=aM ft:=wV T.wf T.s
def ee(h:b≠a):aY (H.aD a l) b=aY H b:=by unfold aY CH.aD upd;simp only[E1 h]
def fX(h:b≠a):aY (H.bo a l) b=aY H b:=by unfold aY CH.bo upd;simp only[E1 h]
def qB(h:b≠a):aY (H.cR a k) b=aY H b:=by unfold aY CH.cR upd;simp only[E1 h]
def qC(h:b≠a):aY (H.bw n a v) b=aY H b:=by
 unfold aY
 simp only[j5,h,and_false,T7]
 rfl
def fv:aY (H.aD a l) a={ aY H a with lst:=aM l }:=by unfold aY CH.aD;simp only[bg]
def gF:aY (H.bo a l) a={ aY H a with dct:=aM l }:=by unfold aY CH.bo;simp only[bg]
def vl:aY (H.cR a k) a={ aY H a with cls:=aM k }:=by unfold aY CH.cR;simp only[bg]
def oi:aY (H.bw n a v) a={ aY H a with att:=λm=>if m=n then aM v else H.att m a }:=by
 unfold aY
 simp only[j5,and_true]
 rfl
def au.now(T:au P z H):Now H z P z H:=⟨T,λj h=>h,λj j=>rfl⟩
def Now.gen(N:Now y Y P z H)(w:Wf U)(j:U.ro=H.ro)(o:∀b,U.free b->H.free b)(O:∀b,b≠a->aY U b=aY H b)
(J:∀b ρ,b≠a->Q b=aM ρ->z b=aM ρ/\(Sat P z (aY H b) b ρ->Sat P' Q (aY H b) b ρ))(p:∀b,¬ y.free b->Q b=z b)
(f:∀ρ,Q a=aM ρ->Sat P' Q (aY U a) a ρ):Now y Y P' Q U:=
 ⟨⟨w,j▸N.T.f,j▸N.T.s,λb ρ h=>if e:b=a then by subst e;exact f ρ h else O b e▸(J b ρ e h).2 (N.T.sat b ρ (J b ρ e h).1)⟩,λb h=>N.live b (o b h),λb h=>(p b h).trans (N.iF b h)⟩
def Now.jt(N:Now y Y P z H)(w:Wf U)(J:U.ro=H.ro)(f:∀b,U.free b->H.free b)(g:∀b,b≠a->aY U b=aY H b)(l:y.free a)(j:∀ρ,z a=aM ρ->ρ.own=true)
(L:Sat P (upd z a ρ) (aY U a) a ρ):Now y Y P (upd z a ρ) U:=
 N.gen w J f g (λb V o h=>⟨by rwa [a6 o] at h,λs=>s.mono λx t O C p=>(a6 λe=>by subst e;rw[j _ p] at O;cases O).trans p⟩) (λb o=>a6 λe=>o (e▸l)) λV h=>by
  rw[bg] at h;cases h;exact L
def ju(T:au P z H)(j:H.free c):K1 c z (upd z c ρ):=λa ρ h=>⟨(a6 (T.ne h j)).trans h,T.ne h j⟩
def rU:Kp c z (upd z c ρ):=λa ρ e h=>(a6 e).trans h
def Now.nL{G:CH->Prop}(N:Now y Y P z H)(j:H.free c)(r:∀Q U,Now y Y P Q U->Q c=aM (.ak l)->y.free c->K1 c z Q->G U):G (H.aD c l):=
 r _ _ (N.jt (N.T.wf.aD (.inr j)) rfl (λJ h=>h.aD) (λb h=>ee h) (N.live c j) (λρ h=>by rw[N.T.fresh j] at h;cases h) (by erw[fv];rfl)) bg (N.live c j) (ju N.T j)
def Now.nD{G:CH->Prop}(N:Now y Y P z H)(j:H.free c)(r:∀Q U,Now y Y P Q U->Q c=aM (.bc l)->y.free c->K1 c z Q->G U):G (H.bo c l):=
 r _ _ (N.jt (N.T.wf.bo (.inr j)) rfl (λJ h=>h.bo) (λb h=>fX h) (N.live c j) (λρ h=>by rw[N.T.fresh j] at h;cases h) (by erw[gF];rfl)) bg (N.live c j) (ju N.T j)
def Now.nC{G:CH->Prop}(N:Now y Y P z H)(j:H.free c)(r:∀Q U,Now y Y P Q U->Q c=aM (.cA k λJ=>none)->y.free c->K1 c z Q->G U):G (H.cR c k):=
 r _ _ (N.jt (N.T.wf.cR j) rfl (λJ h=>h.cR) (λb h=>qB h) (N.live c j) (λρ h=>by rw[N.T.fresh j] at h;cases h) (by erw[vl];exact⟨rfl,funext λn=>j.att n⟩)) bg (N.live c j) (ju N.T j)
def rV(h:z a=aM j)(o:j.own=true):∀ρ,z a=aM ρ->ρ.own=true:=λρ e=>ey (h.symm.trans e)▸o
def Now.oL{G:CH->Prop}(N:Now y Y P z H)(f:y.free c)(g:z c=aM (.ak l))(r:∀Q U,Now y Y P Q U->Q c=aM (.ak m)->Kp c z Q->G U):G (H.aD c m):=
 r _ _ (N.jt (N.T.wf.aD (.inl (aq (N.T.L g)))) rfl (λj h=>h.aD) (λb h=>ee h) f (rV g rfl) (by erw[fv];rfl)) bg rU
def Now.oD{G:CH->Prop}(N:Now y Y P z H)(f:y.free c)(g:z c=aM (.bc l))(r:∀Q U,Now y Y P Q U->Q c=aM (.bc m)->Kp c z Q->G U):G (H.bo c m):=
 r _ _ (N.jt (N.T.wf.bo (.inl (aq (N.T.D g)))) rfl (λj h=>h.bo) (λb h=>fX h) f (rV g rfl) (by erw[gF];rfl)) bg rU
def Now.oA{G:CH->Prop}(N:Now y Y P z H)(f:y.free c)(g:z c=aM (.cA k j))(r:∀Q U,Now y Y P Q U->Q c=aM (.cA k λm=>if m=n then aM v else j m)->Kp c z Q->G U):G (H.bw n c v):=
 r _ _ (N.jt (N.T.wf.bw (aq (N.T.C g))) rfl (λJ h=>h.bw) (λb h=>qC h) f (rV g rfl) (by
  erw[oi];exact⟨N.T.C g,funext λm=>by simp only[N.T.A g]⟩)) bg rU
def Now.pro(ρ:aK)(N:Now y Y P z H)(f:y.free c)(g:z c=aM j)(l:Sat P z (aY H c) c ρ)(o:j.own=true:=by rfl):Now y Y P (upd z c ρ) H/\upd z c ρ c=aM ρ/\Kp c z (upd z c ρ):=
 ⟨N.jt N.T.wf rfl (λJ h=>h) (λJ J=>rfl) f (rV g o) (l.mono λb V p J O=>(a6 λe=>by subst e;rw[g] at O;cases O;rw[o] at p;cases p).trans O),bg,rU⟩
def Now.aD(N:Now y Y P z H)(h:z a=aM ρ)(J:H.lst a≠none)
(o:∀b ρ,b≠a->z b=aM ρ->Sat P z (aY H b) b ρ->Sat P' z (aY H b) b ρ)(O:Sat P' z { aY H a with lst:=aM l } a ρ):Now y Y P' z (H.aD a l):=
 N.gen (N.T.wf.aD (.inl J)) rfl (λj h=>h.aD) (λb h=>ee h) (λb ρ p e=>⟨e,o b ρ p e⟩) (λj j=>rfl) λV e=>by rw[h] at e;cases e;erw[fv];exact O
def Now.bo(N:Now y Y P z H)(h:z a=aM ρ)(J:H.dct a≠none)
(o:∀b ρ,b≠a->z b=aM ρ->Sat P z (aY H b) b ρ->Sat P' z (aY H b) b ρ)(O:Sat P' z { aY H a with dct:=aM l } a ρ):Now y Y P' z (H.bo a l):=
 N.gen (N.T.wf.bo (.inl J)) rfl (λj h=>h.bo) (λb h=>fX h) (λb ρ p e=>⟨e,o b ρ p e⟩) (λj j=>rfl) λV e=>by rw[h] at e;cases e;erw[gF];exact O
def Now.bw(N:Now y Y P z H)(h:z a=aM ρ)(J:H.cls a≠none)
(o:∀b ρ,b≠a->z b=aM ρ->Sat P z (aY H b) b ρ->Sat P' z (aY H b) b ρ)(O:Sat P' z { aY H a with att:=λm=>if m=n then aM v else H.att m a } a ρ):Now y Y P' z (H.bw n a v):=
 N.gen (N.T.wf.bw J) rfl (λj h=>h.bw) (λb h=>qC h) (λb ρ p e=>⟨e,o b ρ p e⟩) (λj j=>rfl) λV e=>by rw[h] at e;cases e;erw[oi];exact O
def Now.par(N:Now y Y P z H)(h:∀a ρ,z a=aM ρ->Sat P z (aY H a) a ρ->Sat P' z (aY H a) a ρ):Now y Y P' z H:=
 ⟨⟨N.T.wf,N.T.f,N.T.s,λa ρ e=>h a ρ e (N.T.sat a ρ e)⟩,N.live,N.iF⟩
def Now.IU(N:Now y Y P z H)(j:H.free a):Now y Y P z (H.cR a k):=
 N.gen (a:=a) (N.T.wf.cR j) rfl (λJ h=>h.cR) (λb h=>qB h) (λb ρ o e=>⟨e,id⟩) (λJ J=>rfl) λρ e=>by rw[N.T.fresh j] at e;cases e
def Now.get(N:Now y Y P z H)(T:au P' Y y)(h:Y a=aM ρ):z a=aM ρ:=(N.iF a (T.live h)).trans h
def Now.call{t1:TY}(N:Now y Y P z H)(M:Now H z P' t1 j):Now y Y P' t1 j:=⟨M.T,λa h=>N.live a (M.live a h),λa h=>(M.iF a λf=>h (N.live a f)).trans (N.iF a h)⟩
def kb(z:TY):TY:=λa=>(z a).filter aK.gr
def iG(h:z a=aM ρ)(j:ρ.gr=true):kb z a=aM ρ:=by unfold kb;erw[h];exact K2 j
def fY(h:kb z a=aM ρ):z a=aM ρ/\ρ.gr=true:=ND.mp h
theorem Now.only(N:Now y Y P z H)(h:∀a ρ,Y a=aM ρ->ρ.gr=true):Now y Y P (kb z) H:=
 ⟨⟨N.T.wf,N.T.f,N.T.s,λa ρ e=>(N.T.sat a ρ (fY e).1).mono λb V O j J=>iG J (j (fY e).2)⟩,N.live,λa o=>by
  have:=N.iF a o
  cases e:Y a with
  | none=>unfold kb;(erw[this];erw[e]);rfl
  | some ρ=>exact iG (this.trans e) (h a ρ e)⟩
end
section
variable{P:Par}{z:TY}
def Sat.upM:∀{Q:aK},(∀r,Q≠.cJ r)->Q≠.table->Sat P z v a Q->Sat { P with toPM:=M } z v a Q:=λ{Q} w y h=>by
 cases Q <;> first | exact h | exact p7 rfl (w _) | exact p7 rfl y
def Sat.upT:∀{ρ:aK},ρ.gr=true->Sat P z v a ρ->Sat { P with toPQ:=T,toPE:=E } z v a ρ:=λ{ρ} Q h=>by
 cases ρ <;> first | exact h | cases Q
def Sat.upF:∀{Q:aK},Q≠.pu->(∀x,Q≠.fst x)->Sat P z v a Q->Sat { P with toPF:=F } z v a Q:=λ{Q} w y h=>by
 cases Q <;> first | exact h | exact p7 rfl (y _) | exact p7 rfl w
def Sat.upO:∀{Q:aK},Q≠.pw->(∀x,Q≠.fol x)->Sat P z v a Q->Sat { P with toPO:=F } z v a Q:=λ{Q} w y h=>by
 cases Q <;> first | exact h | exact p7 rfl (y _) | exact p7 rfl w
end
abbrev EN:=ki->rt CV
def Ev(L:EN)(H:CH)(e:CE)(v:CV):Prop:=∀(z:PT) (M:MT) (Q:Ps) (X:No),Q v ⟨H,L⟩->wpE z M e ⟨H,L⟩ Q X
def Evs(L:EN)(H:CH)(z:cp CE)(w:cp CV):Prop:=∀(y:PT) (M:MT) (Q:cp CV->St->Prop) (X:No),Q w ⟨H,L⟩->kH y M z ⟨H,L⟩ Q X
namespace Ev
variable{L:EN}{H:CH}{e Q w:CE}{x y z:CV}{es:cp CE}{U:cp CV}{k:ki}
def c{v:CV}:Ev L H (.c v) v:=λV V V V h=>h
def v{i:ki}(g:L i=aM x):Ev L H (.v i) x:=λV V V V h=>⟨x,g,h⟩
def att{n:ki}(he:Ev L H e x)(g:i5 H x n=aM y):Ev L H (.at e n) y:=λV V V V h=>he _ _ _ _ ⟨y,g,h⟩
def ix(j:Ev L H Q x)(J:Ev L H w y)(g:eD H x y=aM (.ok z)):Ev L H (.ix Q w) z:=λV V V V h=>j _ _ _ _ (J _ _ _ _ ⟨.ok z,g,h⟩)
def _root_.Mine.Internal.Evs.nil:Evs L H [] []:=λV V V V h=>h
def _root_.Mine.Internal.Evs.cons(j:Ev L H e x)(J:Evs L H es U):Evs L H (e::es) (x::U):=λV V V V h=>j _ _ _ _ (J _ _ _ _ h)
def _root_.Mine.Internal.Evs.one(V:Ev L H e x):Evs L H [e] [x]:=.cons V .nil
def _root_.Mine.Internal.Evs.two(V:Ev L H Q x)(j:Ev L H w y):Evs L H [Q,w] [x,y]:=.cons V (.cons j .nil)
def tu(j:Evs L H es U):Ev L H (.tu es) (.tup U):=λV V V V h=>j _ _ _ _ h
def add(J:Ev L H Q (.int i))(o:Ev L H w (.int j)):Ev L H (.op .add Q w) (.int (i+j)):=λV V V V h=>J _ _ _ _ (o _ _ _ _ h)
def sub(J:Ev L H Q (.int i))(o:Ev L H w (.int j)):Ev L H (.op .sub Q w) (.int (i - j)):=λV V V V h=>J _ _ _ _ (o _ _ _ _ h)
def mod(J:Ev L H Q (.int i))(o:Ev L H w (.int j))(g:0<j):Ev L H (.op .mod Q w) (.int (i % j)):=λV V V V h=>J _ _ _ _ (o _ _ _ _ ⟨g,h⟩)
def cm(j:Ev L H Q x)(J:Ev L H w y)(g:b9 H o x y=aM b):Ev L H (.cm o Q w) (.bool b):=λV V V V h=>j _ _ _ _ (J _ _ _ _ ⟨b,g,h⟩)
def nt(j:Ev L H e x)(g:aL H x=aM b):Ev L H (.nt e) (.bool (!b)):=λV V V V h=>j _ _ _ _ ⟨b,g,h⟩
def ng(j:Ev L H e (.int i)):Ev L H (.ng e) (.int (-i)):=λV V V V h=>j _ _ _ _ ⟨i,rfl,h⟩
def anT(j:Ev L H Q x)(g:aL H x=aM true)(J:Ev L H w y):Ev L H (.an Q w) y:=λV V V V h=>j _ _ _ _ ⟨true,g,J _ _ _ _ h⟩
def anF(j:Ev L H Q x)(g:aL H x=aM false):Ev L H (.an Q w) x:=λV V V V h=>j _ _ _ _ ⟨false,g,h⟩
def orT(j:Ev L H Q x)(g:aL H x=aM true):Ev L H (.orr Q w) x:=λV V V V h=>j _ _ _ _ ⟨true,g,h⟩
def orF(j:Ev L H Q x)(g:aL H x=aM false)(J:Ev L H w y):Ev L H (.orr Q w) y:=λV V V V h=>j _ _ _ _ ⟨false,g,J _ _ _ _ h⟩
theorem an{q:LG}(V:Ev L H Q (.bool p))(j:p=true->Ev L H w (.bool q)):Ev L H (.an Q w) (.bool (p&&q)):=match p,V,j with
 | true,V,j=>anT V rfl (j rfl)
 | false,V,_=>anF V rfl
def ifT(j:Ev L H Q x)(g:aL H x=aM true)(J:Ev L H w y):Ev L H (.ife Q w Y) y:=λV V V V h=>j _ _ _ _ ⟨true,g,J _ _ _ _ h⟩
def ifF(j:Ev L H Q x)(g:aL H x=aM false)(J:Ev L H Y y):Ev L H (.ife Q w Y) y:=λV V V V h=>j _ _ _ _ ⟨false,g,J _ _ _ _ h⟩
def geN{es:cp (CV×CV)}(j:Ev L H Q (.ref a))(g:H.dct a=aM es)(J:Ev L H w y)(k:y.az=true)(o:Ev L H Y z)(q:aw es y=none):Ev L H (.ge Q w Y) z:=λV V V V h=>j _ _ _ _ ⟨a,es,rfl,g,J _ _ _ _ (o _ _ _ _ ⟨es,g,k,by erw[q];exact h⟩)⟩
def geS{es:cp (CV×CV)}(j:Ev L H Q (.ref a))(g:H.dct a=aM es)(J:Ev L H w y)(k:y.az=true)(o:Ev L H Y z)(q:aw es y=aM x):Ev L H (.ge Q w Y) x:=λV V V V h=>j _ _ _ _ ⟨a,es,rfl,g,J _ _ _ _ (o _ _ _ _ ⟨es,g,k,by erw[q];exact h⟩)⟩
def x7(j:Ev L H e (.tup l))(J:l.length<=szl):Ev L H (.b1 .len e) (.int l.length):=λV V V V h=>j _ _ _ _ ⟨_,rfl,J,h⟩
def KB(j:Ev L H e (.str s))(J:s.cps.size<=szl):Ev L H (.b1 .len e) (.int s.cps.size):=λV V V V h=>j _ _ _ _ ⟨_,rfl,J,h⟩
def x8(j:Ev L H e (.ref a))(J:H.cls a=none)(g:Fr H (.ref a)=aM k)(o:k<=szl):Ev L H (.b1 .len e) (.int k):=λV V V V h=>j _ _ _ _ (cast (E1 (λe:H.cls a=aM 100=>nomatch J.symm.trans e)).symm ⟨_,g,o,h⟩)
def tuple(j:Ev L H e x)(g:qU H x=aM l)(J:l.length<=szl):Ev L H (.b1 .tuple e) (.tup l):=λV V V V h=>j _ _ _ _ ⟨l,g,J,h⟩
def slT(i:ki)(j:Ev L H Q (.tup l))(J:Ev L H w (.int i))(o:Ev L H Y .none)(O:1<=i)(p:i<=l.length):Ev L H (.sl Q w Y) (.tup (l.drop i)):=λV V V V h=>j _ _ _ _ (J _ _ _ _ (o _ _ _ _ ⟨i,rfl,rfl,O,p,h⟩))
def go{Q:Ps}(h:Ev L H e x)(r:Q x ⟨H,L⟩):wpE V M e ⟨H,L⟩ Q X:=h _ _ _ _ r
def gtT{i j:Nj}(h:j<i):b9 H .gt (.int i) (.int j)=aM true:=dd aM (Ln h)
def gtF{i j:Nj}(h:¬ j<i):b9 H .gt (.int i) (.int j)=aM false:=dd aM (LQ h)
def geT{i j:Nj}(h:j<=i):b9 H .ge (.int i) (.int j)=aM true:=dd aM (Ln h)
def geF{i j:Nj}(h:¬ j<=i):b9 H .ge (.int i) (.int j)=aM false:=dd aM (LQ h)
def ltT{i j:Nj}(h:i<j):b9 H .lt (.int i) (.int j)=aM true:=dd aM (Ln h)
def ltF{i j:Nj}(h:¬ i<j):b9 H .lt (.int i) (.int j)=aM false:=dd aM (LQ h)
def nn0:b9 H .lC .none .none=aM false:=dd (λb=>aM (!b)) (Ln rfl)
def nnI:b9 H .lC (.int i) .none=aM true:=dd (λb=>aM (!b)) (LQ (by intro h;injection h))
end Ev
def KC{st:St}{Q:Ps}(h:wpE z M a st (λx st=>∃l,qU st.H x=aM l/\(∀y∈l,∃b,y=.bool b)/\Q (.bool (l.all λy=>decide (y=.bool true))) st) X):wpE z M (.b1 .all a) st Q X:=h
def GS{st:St}{Q:Ps}(h:wpE z M a st (λx st=>∃l,qU st.H x=aM l/\l.length<=szl/\Q (.tup l) st) X):wpE z M (.b1 .tuple a) st Q X:=h
def rW{a:CE}{st:St}{Q:Ps}(h:wpE z M a st (λx st=>∃a l w,x=.ref a/\st.H.getL a=aM l/\l.length<64/\pD w=true/\(∀y∈l,y.is (.tup w)=true)/\∀c,st.H.free c->Q (.ref c) { st with H:=st.H.aD c (bY l) }) X):wpE z M (.b1 .sorted a) st Q X:=h
def bq(z:PT)(M:MT)(l:cp CS)(Q:NE)(X:No):Fl->St->Prop:=λf st=>match f with | .next=>ae z M l st Q X | f=>Q f st
abbrev FX:Exc->St->Prop:=λz z=>False
structure LK(Φ:PT)(M:MT)(l:cp CS)(Q:NE)(X:No)(nx:CH->EN->Prop)(K:NE):Prop where
 nxt:∀{H' L'},nx H' L'->K .next ⟨H',L'⟩
 con:∀{H' L'},nx H' L'->K .cont ⟨H',L'⟩
 brk:∀{H' L'},ae Φ M l ⟨H',L'⟩ Q X->K .brk ⟨H',L'⟩
 ret:∀{v H' L'},Q (.ret v) ⟨H',L'⟩->K (.ret v) ⟨H',L'⟩
namespace W
variable{w:PT}{M:MT}{a b:cp CS}{L:EN}{H:CH}{Q:NE}{X:No}{U:CE}{x y v:CV}{i j n c d:ki}
def asg(h:Ev L H e v)(r:ae w M l ⟨H,upd L i v⟩ Q X):ae w M (.asg (.n i) e::l) ⟨H,L⟩ Q X:=h _ _ _ _ r
def A9(h:Ev L H e (.tup [x,y]))(r:ae w M l ⟨H,upd (upd L i x) j y⟩ Q X):ae w M (.asg (.t [i,j]) e::l) ⟨H,L⟩ Q X:=h _ _ _ _ ⟨_,_,rfl,rfl,r⟩
def bo{es:cp (CV×CV)}(z:Ev L H e v)(V:Ev L H o (.ref c))(J:Ev L H k x)(g:H.dct c=aM es)(O:x.az=true)(p:es.length<szl)(r:ae w M l ⟨H.bo c (bf es x v),L⟩ Q X):ae w M (.asg (.ix o k) e::l) ⟨H,L⟩ Q X:=
 z _ _ _ _ (V _ _ _ _ (J _ _ _ _ ⟨c,es,rfl,g,O,p,r⟩))
def bw(z:Ev L H e v)(V:Ev L H o (.ref c))(g:H.cls c=aM d)(J:bn d=true)(r:ae w M l ⟨H.bw n c v,L⟩ Q X):ae w M (.asg (.at o n) e::l) ⟨H,L⟩ Q X:=
 z _ _ _ _ (V _ _ _ _ ⟨c,d,rfl,g,J,r⟩)
def ap(z:Ev L H o (.ref c))(g:H.lst c=aM m)(V:Ev L H e v)(J:m.length<szl)(r:ae w M l ⟨H.aD c (m++[v]),L⟩ Q X):ae w M (.ex (.ap o e)::l) ⟨H,L⟩ Q X:=
 z _ _ _ _ ⟨c,m,rfl,g,V _ _ _ _ ⟨m,g,J,r⟩⟩
def gn{q:Nj}(V:Ev L H e (.ref c))(J:H.cls c=aM d)(O:i5 H (.ref c) n=aM (.int p))(f:Ev L H k (.int q))(g:z=.add∨z=.sub)(r:ae w M l ⟨H.bw n c (.int (z.i p q)),L⟩ Q X):ae w M (.gn e n z k::l) ⟨H,L⟩ Q X:=
 V _ _ _ _ ⟨_,_,c,rfl,J,O,f _ _ _ _ ⟨p,q,rfl,rfl,g,r⟩⟩
def fS{q:Nj}(V:L i=aM (.int p))(J:Ev L H k (.int q))(O:z=.add∨z=.sub)(r:ae w M l ⟨H,upd L i (.int (z.i p q))⟩ Q X):ae w M (.fS i z k::l) ⟨H,L⟩ Q X:=
 ⟨_,V,J _ _ _ _ ⟨p,q,rfl,rfl,O,r⟩⟩
def fZ(h:Ev L H e v)(g:aL H v=aM true)(r:ae w M a ⟨H,L⟩ (bq w M l Q X) X):ae w M (.ite e a b::l) ⟨H,L⟩ Q X:=h _ _ _ _ ⟨true,g,r⟩
def fy(h:Ev L H e v)(g:aL H v=aM false)(r:ae w M b ⟨H,L⟩ (bq w M l Q X) X):ae w M (.ite e a b::l) ⟨H,L⟩ Q X:=h _ _ _ _ ⟨false,g,r⟩
theorem ite(h:Ev L H e v)(g:aL H v=aM p)(z:p=true->ae w M a ⟨H,L⟩ (bq w M l Q X) X)(V:p=false->ae w M b ⟨H,L⟩ (bq w M l Q X) X):ae w M (.ite e a b::l) ⟨H,L⟩ Q X:=by
 cases p with
 | true=>exact fZ h g (z rfl)
 | false=>exact fy h g (V rfl)
def f6{p:Prop}[OS p](h:Ev L H e (.bool (decide p)))(z:p->ae w M a ⟨H,L⟩ (bq w M l Q X) X)(V:¬ p->ae w M b ⟨H,L⟩ (bq w M l Q X) X):ae w M (.ite e a b::l) ⟨H,L⟩ Q X:=
 ite h rfl (λq=>z (p6 q)) λq=>V (QM q)
def rX{p:Prop}[OS p](h:Ev L H e (.bool (!decide p)))(V:¬ p->ae w M a ⟨H,L⟩ (bq w M l Q X) X)(J:p->ae w M b ⟨H,L⟩ (bq w M l Q X) X):ae w M (.ite e a b::l) ⟨H,L⟩ Q X:=
 ite h rfl (λq=>V (QM (by cases z:decide p with | true=>rw[z] at q;cases q | false=>rfl))) λq=>J (p6 (by cases z:decide p with | true=>rfl | false=>rw[z] at q;cases q))
def nil(r:ae w M l ⟨H,L⟩ Q X):ae w M [] ⟨H,L⟩ (bq w M l Q X) X:=r
def ret(h:Ev L H e v)(r:Q (.ret v) ⟨H,L⟩):ae w M (.ret e::l) ⟨H,L⟩ Q X:=h _ _ _ _ r
def IV(h:Ev L H Y x)(g:aL H x=aM true)(r:wpE w M U ⟨H,L⟩ (λv st=>Q (.ret v) st) X):ae w M (.ret (.an Y U)::l) ⟨H,L⟩ Q X:=h _ _ _ _ ⟨true,g,r⟩
def cont(r:Q .cont ⟨H,L⟩):ae w M (.cont::l) ⟨H,L⟩ Q X:=r
def brk(r:Q .brk ⟨H,L⟩):ae w M (.brk::l) ⟨H,L⟩ Q X:=r
def mK(r:ae w M l ⟨H,L⟩ Q X):ae w M (.mK::l) ⟨H,L⟩ Q X:=r
def fn(h:Evs L H es vs)(r:w f vs H λr z=>ae w M l ⟨z,upd L i r⟩ Q X):ae w M (.asg (.n i) (.fn f es)::l) ⟨H,L⟩ Q X:=h _ _ _ _ r
def me{m:ki}(z:Ev L H o (.ref c))(V:H.cls c=aM d)(J:bn d=true)(O:M d m=aM f)(p:H.att m c=none)(h:Evs L H es vs)(r:w f (.ref c::vs) H λr g=>ae w M l ⟨g,upd L i r⟩ Q X):ae w M (.asg (.n i) (.me o m es)::l) ⟨H,L⟩ Q X:=
 z _ _ _ _ ⟨c,d,f,rfl,V,J,O,p,h _ _ _ _ r⟩
def Ba{m:ki}(z:Ev L H o (.ref c))(V:H.cls c=aM d)(J:bn d=true)(O:M d m=aM f)(p:H.att m c=none)(h:Evs L H es vs)(r:w f (.ref c::vs) H λt g=>ae w M l ⟨g,L⟩ Q X):ae w M (.ex (.me o m es)::l) ⟨H,L⟩ Q X:=
 z _ _ _ _ ⟨c,d,f,rfl,V,J,O,p,h _ _ _ _ r⟩
def nw(h:Evs L H es vs)(g:bn n=true)(r:∀c,H.free c->w (gq n) (.ref c::vs) (H.cR c n) λr z=>r=.none/\ae w M l ⟨z,upd L i (.ref c)⟩ Q X):ae w M (.asg (.n i) (.nw n es)::l) ⟨H,L⟩ Q X:=h _ _ _ _ ⟨g,r⟩
def IW(O:Ev L H o (.ref c))(g:H.dct c=aM V)(h:Evs L H es vs)(r:w f vs H λy p=>wpE w M J ⟨p,L⟩ (λz st=>∃V,st.H.dct c=aM V/\y.az=true/\ae w M l ⟨st.H,upd st.L i ((aw V y).getD z)⟩ Q X) X):ae w M (.asg (.n i) (.ge o (.fn f es) J)::l) ⟨H,L⟩ Q X:=
 O _ _ _ _ ⟨c,V,rfl,g,h _ _ _ _ r⟩
section
variable{P:Par}{z:cp (CV×CV)}{m:cp CV}
def jh(N:Now V O P J H)(h:Evs L H f vs)(r:∀c p g,Now V O P p g->p c=aM (.ak vs)->V.free c->K1 c J p->ae w M l ⟨g,upd L i (.ref c)⟩ Q X):ae w M (.asg (.n i) (.li f)::l) ⟨H,L⟩ Q X:=
 h _ _ _ _ λc t=>N.nL (G:=λH=>ae w M l ⟨H,_⟩ Q X) t (r c)
def pa(N:Now V O P J H)(r:∀c p f,Now V O P p f->p c=aM (.bc [])->V.free c->K1 c J p->ae w M l ⟨f,upd L i (.ref c)⟩ Q X):ae w M (.asg (.n i) .d0::l) ⟨H,L⟩ Q X:=
 λc g=>N.nD (G:=λH=>ae w M l ⟨H,_⟩ Q X) g (r c)
def GU(N:Now V O P J H)(h:Ev L H e x)(g:qU H x=aM m)(t:m.length<=szl)(r:∀c p f,Now V O P p f->p c=aM (.ak m)->V.free c->K1 c J p->ae w M l ⟨f,upd L i (.ref c)⟩ Q X):ae w M (.asg (.n i) (.b1 .list e)::l) ⟨H,L⟩ Q X:=
 h _ _ _ _ ⟨m,g,t,λc T=>N.nL (G:=λH=>ae w M l ⟨H,_⟩ Q X) T (r c)⟩
def slL(N:Now V O P J H){z:CV}(C:Ev L H Y (.ref c))(B:Ev L H U y)(A:Ev L H t z)(g:H.getL c=aM m)(D:cut m y z=aM f)(r:∀c p T,Now V O P p T->p c=aM (.ak f)->V.free c->K1 c J p->ae w M l ⟨T,upd L i (.ref c)⟩ Q X):ae w M (.asg (.n i) (.sl Y U t)::l) ⟨H,L⟩ Q X:=
 C _ _ _ _ (B _ _ _ _ (A _ _ _ _ ⟨m,f,g,D,λc E=>N.nL (G:=λH=>ae w M l ⟨H,_⟩ Q X) E (r c)⟩))
def pA(N:Now V O P J H)(f:V.free c)(g:J c=aM (.bc z))(T:Ev L H e v)(C:Ev L H o (.ref c))(B:Ev L H k x)(A:x.az=true)(D:z.length<szl)
(r:∀p t,Now V O P p t->p c=aM (.bc (bf z x v))->Kp c J p->ae w M l ⟨t,L⟩ Q X):ae w M (.asg (.ix o k) e::l) ⟨H,L⟩ Q X:=
 bo T C B (N.T.D g) A D (N.oD (G:=λH=>ae w M l ⟨H,L⟩ Q X) f g r)
def f7(N:Now V O P J H)(f:V.free c)(g:J c=aM (.ak m))(T:Ev L H o (.ref c))(C:Ev L H e v)(B:m.length<szl)
(r:∀p t,Now V O P p t->p c=aM (.ak (m++[v]))->Kp c J p->ae w M l ⟨t,L⟩ Q X):ae w M (.ex (.ap o e)::l) ⟨H,L⟩ Q X:=
 ap T (N.T.L g) C B (N.oL (G:=λH=>ae w M l ⟨H,L⟩ Q X) f g r)
def tL(N:Now V O P J H)(f:V.free c)(g:J c=aM (.cA d t))(C:bn d=true)(B:Ev L H o (.ref c))(A:Ev L H e v)
(r:∀p T,Now V O P p T->p c=aM (.cA d λm=>if m=n then aM v else t m)->Kp c J p->ae w M l ⟨T,L⟩ Q X):ae w M (.asg (.at o n) e::l) ⟨H,L⟩ Q X:=
 bw A B (N.T.C g) C (N.oA (G:=λH=>ae w M l ⟨H,L⟩ Q X) f g r)
def Fd(N:Now V O P J H)(f:V.free c)(g:J c=aM (.cA d B))(I:bn d=true)(s:L j=aM (.ref c))(F:Evs L H T vs)
(r:∀b p A,Now V O P p A->p c=aM (.cA d λm=>if m=n then aM (.ref b) else B m)->p b=aM (.ak vs)->V.free b->b≠c->(∀a C,a≠c->J a=aM C->p a=aM C/\a≠b)->ae w M l ⟨A,L⟩ Q X):ae w M (.asg (.at (.v j) n) (.li T)::l) ⟨H,L⟩ Q X:=
 F _ _ _ _ λb R=>N.nL (G:=λH=>qV w M (.at (.v j) n) (.ref b) ⟨H,L⟩ _ X) R λz y D S W t=>⟨_,s,c,d,rfl,D.T.C (t _ _ g).1,I,
  D.oA (G:=λH=>ae w M l ⟨H,L⟩ Q X) f (t _ _ g).1 λZ K G u E=>r b Z K G u (E _ _ (Ma (t _ _ g).2) S) W (Ma (t _ _ g).2) λa C q h=>⟨E _ _ q (t _ _ h).1,(t _ _ h).2⟩⟩
end
end W
def bK{f:ki}{z:cp CV}{H:CH}{Q:Rs}(Y:cp CV)(U:fF f=aM d)(V:Oc z.length d.ej=true)(k:Oc d.ej (z.length+d.dY.length)=true)(e:z++d.dY.drop (d.dY.length - (d.ej - z.length))=Y)
(h:∀y:Fl->St->Prop,(∀{v w L'},Q v w->y (.ret v) ⟨w,L'⟩)->(∀{w L'},Q .none w->y .next ⟨w,L'⟩)->ae (ah fF mF n) mF d.body ⟨H,jD 0 Y⟩ y FX):ah fF mF (n+1) f z H Q:=
 ⟨d,U,e0 V,e0 k,e▸h _ id id⟩
def IX{n f:ki}{w:cp CV}{H:CH}(U:fF f=aM d)(v:Oc w.length d.ej=true)(V:Oc d.ej (w.length+d.dY.length)=true)(e:w++d.dY.drop (d.dY.length - (d.ej - w.length))=Y)(k:Y.length=d.ej)(h:ah fF mF (n+1) f Y H Q):ah fF mF (n+1) f w H Q:=by
 refine jy h λJ y j j z=>?_
 rw[U] at y;cases y
 refine⟨d,U,e0 v,e0 V,?_⟩
 rw[k,WL,Uc,Vo,Mp] at z
 erw[e];exact z
theorem vn{H:CH}{l:cp CV}:(It.ai (l.drop i)).next H=aM (l[i]?.map λv=>(v,.ai (l.drop (i+1)))):=by
 cases h:l[i]? with
 | none=>rw[drop_eq_nil_of_le (LS.mp h)];rfl
 | some v=>
  obtain⟨z,e⟩:=kO.mp h
  (erw[Tu z];erw[e]);rfl
def qD{H:CH}{a:ki}(h:H.getL a=aM l):(It.list a i).next H=aM (l[i]?.map λv=>(v,.list a (i+1))):=dd (My λ(l:cp CV)=>l[i]?.map λv=>(v,It.list a (i+1))) h
def ax{α:Type}{H:CH}{ys:cp α}{f:α->CV}{a:ki}(h:H.getL a=aM (ys.map f)):(It.list a i).next H=aM (ys[i]?.map λv=>(f v,.list a (i+1))):=
 (qD h).trans (dd aM ((dd (My _) Mg).trans (OY _ _ _)))
def bE{α:Type}{H:CH}{ys:cp α}{f:α->CV}:(It.ai ((ys.map f).drop i)).next H=aM (ys[i]?.map λv=>(f v,.ai ((ys.map f).drop (i+1)))):=
 vn.trans (dd aM ((dd (My _) Mg).trans (OY _ _ _)))
def x9{H:CH}{Q:cp Lj}{a n:ki}(h:H.dct a=aM z)(w:z.map (·.1)=Q.map .str)(y:Q.length=n):(It.dK a n i).next H=aM (Q[i]?.map λv=>(.str v,.dK a n (i+1))):=by
 have Y:z.length=n:=(h7 _).symm.trans ((dd Nc w).trans ((h7 _).trans y))
 have U:z.all (λp=>isS p.1)=true:=M5.mpr λp V=>(p9.mp (w▸LL (f:=(·.1)) V:p.1∈Q.map CV.str)).elim λx e=>e.2▸rfl
 refine(dd (OZ · _) h).trans ((K2 ⟨Y,U⟩).trans (dd aM ?_))
 have k:z[i]?.map (λp:CV×CV=>p.1)=Q[i]?.map CV.str:=Mg.symm.trans ((dd (·[i]?) w).trans Mg)
 exact(OY (λv=>(v,It.dK a n (i+1))) (λp:CV×CV=>p.1) z[i]?).symm.trans ((dd (My λv=>(v,It.dK a n (i+1))) k).trans (OY _ _ _))
def iV{α:Type}{H:CH}{k:ki}{t:It}{w:α->CV}{o:rt α}(h:t.next H=aM (o.map λv=>(w v,z))):(It.bu k t).next H=aM (o.map λv=>(.tup [.int k,w v],.bu (k+1) z)):=
 (dd (My λ(o:rt (CV×It))=>o.map λ(p:CV×It)=>(CV.tup [.int k,p.1],It.bu (k+1) p.2)) h).trans (dd aM (OY _ _ _))
section
variable{Q:CV->St->(rt CV->St->Prop)->Prop}{w:CV->St->(LG->St->Prop)->Prop}{Y U:St->Prop}{y:cp CV->St->Prop}{n:ki}{k:It}{z:cp CV}{st:St}
def qE(h:k.next st.H=aM none)(r:y z st):eZ Q y (n+1) k z st:=(dd (λo:rt (rt (CV×It))=>LW o False λo=>LW o (y z st) λp=>Q p.1 st λr j=>z.length<szl/\eZ Q y n p.2 (r.elim z λx=>z++[x]) j) h).mpr r
def tM(h:k.next st.H=aM (aM (v,V)))(r:Q v st λr j=>z.length<szl/\eZ Q y n V (r.elim z λx=>z++[x]) j):eZ Q y (n+1) k z st:=(dd (λo:rt (rt (CV×It))=>LW o False λo=>LW o (y z st) λp=>Q p.1 st λr j=>z.length<szl/\eZ Q y n p.2 (r.elim z λx=>z++[x]) j) h).mpr r
def ya(h:k.next st.H=aM none)(r:Y st):gO w Y U (n+1) k st:=(dd (λo:rt (rt (CV×It))=>LW o False λo=>LW o (Y st) λp=>w p.1 st λb j=>if b=true then gO w Y U n p.2 j else U j) h).mpr r
def Bb(h:k.next st.H=aM (aM (v,V)))(r:w v st λb j=>if b=true then gO w Y U n V j else U j):gO w Y U (n+1) k st:=(dd (λo:rt (rt (CV×It))=>LW o False λo=>LW o (Y st) λp=>w p.1 st λb j=>if b=true then gO w Y U n p.2 j else U j) h).mpr r
end
section
variable{Φ:PT}{M:MT}{l b o:cp CS}{L:EN}{H:CH}{Q:NE}{X:No}{z:CI}{α:Type}
inductive FgS(Φ:PT)(M:MT)(l b o:cp CS)(Q:NE)(X:No)(it:ki->It)(w:ki->α->CV)(bd:ki->α->EN->EN)(B:ki)(I:ki->CH->EN->Prop)(i:ki)(H:CH)(L:EN):Prop
 | mk (hB:i<=B) (y?:rt α) (hn:(it i).next H=aM (y?.map λy=>(w i y,it (i+1)))) (h1:y?=none->ae Φ M o ⟨H,L⟩ (bq Φ M l Q X) FX) (h2:∀y,y?=aM y->∀K,LK Φ M l Q X (I (i+1)) K->ae Φ M b ⟨H,bd i y L⟩ K FX)
def frG(U:ki->It)(w:ki->α->CV)(g:ki->α->EN->EN)(V:∀i y L,de L t (w i y)=aM (g i y L))(n:∀T:It->St->Prop,T (U 0) ⟨H,L⟩->wpI Φ M z ⟨H,L⟩ T X)(B:ki)(I:ki->CH->EN->Prop)(N:I 0 H L)
(step:∀i H L,I i H L->FgS Φ M l b o Q X U w g B I i H L):ae Φ M (.fr t z b o::l) ⟨H,L⟩ Q X:=by
 have j:∀(k i:ki) (H:CH) (L:EN),B<i+k->I i H L->gO (λv s K=>∃L,de s.L t v=aM L/\ae Φ M b { s with L:=L } (λf s=>match f with | .next | .cont=>K true s | .brk=>K false s | .ret v=>bq Φ M l Q X (.ret v) s) (λY Y=>False))
   (λs=>ae Φ M o s (bq Φ M l Q X) (λY Y=>False)) (bq Φ M l Q X .next) k (U i) ⟨H,L⟩:=by
  intro k
  induction k with
  | zero=>exact λi H L J h=>(step i H L h).casesOn λx Y Y Y Y=>p7 J (OG x)
  | succ k a=>
   intro i H L J h
   obtain⟨x,A,c,D,E⟩:=step i H L h
   cases A with
   | none=>exact ya c (D rfl)
   | some y=>
    have C:∀{O p},I (i+1) O p->_:=λ{O p} h=>a (i+1) O p (MI J (NU i k).symm) h
    exact Bb c ⟨_,V i y L,E y rfl _ ⟨C,C,λh=>h,λh=>h⟩⟩
 exact n _ ⟨B+1,j (B+1) 0 H L (MI (Lz B) (OQ _).symm) N⟩
def frS{ys:cp α}(Y:ki->It)(w:ki->α->CV)(v:ki->α->EN->EN)(V:∀i y L,de L t (w i y)=aM (v i y L))(j:∀k:It->St->Prop,k (Y 0) ⟨H,L⟩->wpI Φ M z ⟨H,L⟩ k X)(I:ki->CH->EN->Prop)(J:I 0 H L)
(O:∀i H L,I i H L->(Y i).next H=aM (ys[i]?.map λy=>(w i y,Y (i+1))))
(p:∀i y H L K,ys[i]?=aM y->I i H L->LK Φ M l Q X (I (i+1)) K->ae Φ M b ⟨H,v i y L⟩ K FX)(f:∀H L,I ys.length H L->ae Φ M o ⟨H,L⟩ (bq Φ M l Q X) FX):ae Φ M (.fr t z b o::l) ⟨H,L⟩ Q X:=by
 refine frG Y w v V j ys.length (λi H L=>i<=ys.length/\I i H L) ⟨Lp _,J⟩ λi H L h=>⟨h.1,ys[i]?,O i H L h.2,λe=>f H L (ME h.1 (LS.mp e)▸h.2),λy e K U=>p i y H L K e h.2 ⟨λq=>U.nxt ⟨(kO.mp e).1,q⟩,λq=>U.con ⟨(kO.mp e).1,q⟩,U.brk,U.ret⟩⟩
section
variable{w a n:ki}{ys:cp α}{f:α->CV}{I:ki->CH->EN->Prop}
def bp(h:Ev L H e (.ref a))(g:H.getL a=aM U)(y:Sc)(r:y (.list a 0) ⟨H,L⟩):wpI Φ M (.val e) ⟨H,L⟩ y X:=h _ _ _ _ (by dsimp only;erw[g];exact r)
def wY(h:Ev L H e (.ref a))(g:H.getL a=aM U)(y:Sc)(r:y (.bu 0 (.list a 0)) ⟨H,L⟩):wpI Φ M (.bu e) ⟨H,L⟩ y X:=h _ _ _ _ (by dsimp only;erw[g];exact r)
def DY(h:Ev L H e (.ref a))(g:H.dct a=aM y)(v:H.getL a=none)(V:y.all (λp=>isS p.1)=true)(U:Sc)(r:U (.dK a y.length 0) ⟨H,L⟩):wpI Φ M (.val e) ⟨H,L⟩ U X:=h _ _ _ _ (by dsimp only;(erw[v];erw[g]);exact⟨V,r⟩)
def frL(h:Ev L H e (.ref a))(v:I 0 H L)(V:∀i H L,I i H L->H.getL a=aM (ys.map f))
(j:∀i y H L K,ys[i]?=aM y->I i H L->LK Φ M l Q X (I (i+1)) K->ae Φ M b ⟨H,upd L k (f y)⟩ K FX)(J:∀H L,I ys.length H L->ae Φ M o ⟨H,L⟩ (bq Φ M l Q X) FX):ae Φ M (.fr (.n k) (.val e) b o::l) ⟨H,L⟩ Q X:=
 frS (λi=>.list a i) (λU y=>f y) (λU y L=>upd L k (f y)) (λU U U=>rfl) (bp h (V 0 H L v)) I v (λi H L O=>ax (V i H L O)) j J
def frE(h:Ev L H e (.ref a))(U:I 0 H L)(v:∀i H L,I i H L->H.getL a=aM (ys.map f))
(j:∀i y H L K,ys[i]?=aM y->I i H L->LK Φ M l Q X (I (i+1)) K->ae Φ M b ⟨H,upd (upd L w (.int i)) Y (f y)⟩ K FX)(J:∀H L,I ys.length H L->ae Φ M o ⟨H,L⟩ (bq Φ M l Q X) FX):ae Φ M (.fr (.t [w,Y]) (.bu e) b o::l) ⟨H,L⟩ Q X:=
 frS (λi=>.bu i (.list a i)) (λi y=>.tup [.int i,f y]) (λi y L=>upd (upd L w (.int i)) Y (f y)) (λV V V=>rfl) (wY h (v 0 H L U)) I U (λi H L O=>iV (w:=f) (ax (v i H L O))) j J
def frP{f1 f2:α->CV}(h:Ev L H e (.ref a))(v:I 0 H L)(V:∀i H L,I i H L->H.getL a=aM (ys.map λy=>.tup [f1 y,f2 y]))
(j:∀i y H L K,ys[i]?=aM y->I i H L->LK Φ M l Q X (I (i+1)) K->ae Φ M b ⟨H,upd (upd L w (f1 y)) Y (f2 y)⟩ K FX)(J:∀H L,I ys.length H L->ae Φ M o ⟨H,L⟩ (bq Φ M l Q X) FX):ae Φ M (.fr (.t [w,Y]) (.val e) b o::l) ⟨H,L⟩ Q X:=
 frS (λi=>.list a i) (λU y=>.tup [f1 y,f2 y]) (λU y L=>upd (upd L w (f1 y)) Y (f2 y)) (λU U U=>rfl) (bp h (V 0 H L v)) I v (λi H L O=>ax (V i H L O)) j J
def frT(h:Ev L H e (.tup (ys.map f)))(v:I 0 H L)
(V:∀i y H L K,ys[i]?=aM y->I i H L->LK Φ M l Q X (I (i+1)) K->ae Φ M b ⟨H,upd L k (f y)⟩ K FX)(j:∀H L,I ys.length H L->ae Φ M o ⟨H,L⟩ (bq Φ M l Q X) FX):ae Φ M (.fr (.n k) (.val e) b o::l) ⟨H,L⟩ Q X:=
 frS (λi=>.ai ((ys.map f).drop i)) (λU y=>f y) (λU y L=>upd L k (f y)) (λU U U=>rfl) (λU r=>h _ _ _ _ r) I v (λU U U U=>bE) V j
def KD(h:Ev L H e (.tup (ys.map f)))(v:I 0 H L)
(V:∀i y H L K,ys[i]?=aM y->I i H L->LK Φ M l Q X (I (i+1)) K->ae Φ M b ⟨H,upd (upd L w (.int i)) Y (f y)⟩ K FX)(j:∀H L,I ys.length H L->ae Φ M o ⟨H,L⟩ (bq Φ M l Q X) FX):ae Φ M (.fr (.t [w,Y]) (.bu e) b o::l) ⟨H,L⟩ Q X:=
 frS (λi=>.bu i (.ai ((ys.map f).drop i))) (λi y=>.tup [.int i,f y]) (λi y L=>upd (upd L w (.int i)) Y (f y)) (λU U U=>rfl) (λU r=>h _ _ _ _ r) I v (λU U U U=>iV (w:=f) bE) V j
def frR(h:Evs L H v V)(g:hJ V=aM (ys.map f))(j:I 0 H L)
(J:∀i y H L K,ys[i]?=aM y->I i H L->LK Φ M l Q X (I (i+1)) K->ae Φ M b ⟨H,upd L k (f y)⟩ K FX)(O:∀H L,I ys.length H L->ae Φ M o ⟨H,L⟩ (bq Φ M l Q X) FX):ae Φ M (.fr (.n k) (.rng v) b o::l) ⟨H,L⟩ Q X:=
 frS (λi=>.ai ((ys.map f).drop i)) (λU y=>f y) (λU y L=>upd L k (f y)) (λU U U=>rfl) (λU r=>h _ _ _ _ ⟨_,g,r⟩) I j (λU U U U=>bE) J O
def frK{ks:cp Lj}(h:Ev L H e (.ref a))(V:H.getL a=none)(j:I 0 H L)(J:∀i H L,I i H L->∃U,H.dct a=aM U/\U.map (·.1)=ks.map .str)
(g:∀i y H L K,ks[i]?=aM y->I i H L->LK Φ M l Q X (I (i+1)) K->ae Φ M b ⟨H,upd L k (.str y)⟩ K FX)(t:∀H L,I ks.length H L->ae Φ M o ⟨H,L⟩ (bq Φ M l Q X) FX):ae Φ M (.fr (.n k) (.val e) b o::l) ⟨H,L⟩ Q X:=by
 refine oEA (J 0 H L j) λU T O=>?_
 have c:ks.length=U.length:=by have:=dd Nc O;rw[h7,h7] at this;exact this.symm
 refine frS (λi=>.dK a U.length i) (λv y=>.str y) (λv y L=>upd L k (.str y)) (λv v v=>rfl) (DY h T V (M5.mpr λp C=>?_)) I j (λi H L B=>let ⟨N,A,V⟩:=J i H L B;x9 A V c) g t
 refine oEA (p9.mp (O▸LL (f:=(·.1)) C:p.1∈ks.map CV.str)) λx v e=>?_
 exact e▸rfl
inductive FwS(Φ:PT)(M:MT)(l b o:cp CS)(Q:NE)(X:No)(f:α->CV)(bd:α->EN->EN)(a B:ki)(I:ki->CH->EN->Prop)(i:ki)(H:CH)(L:EN):Prop
 | mk (hB:i<=B) (ys:cp α) (g:H.getL a=aM (ys.map f)) (h1:i=ys.length->ae Φ M o ⟨H,L⟩ (bq Φ M l Q X) FX) (le:i<=ys.length) (h2:∀y,ys[i]?=aM y->∀K,LK Φ M l Q X (I (i+1)) K->ae Φ M b ⟨H,bd y L⟩ K FX)
def frW(B:ki)(h:Ev L H e (.ref a))(v:I 0 H L)(step:∀i H L,I i H L->FwS Φ M l b o Q X f (λy L=>upd L k (f y)) a B I i H L):ae Φ M (.fr (.n k) (.val e) b o::l) ⟨H,L⟩ Q X:=
 (step 0 H L v).casesOn λU U V U U U=>frG (λi=>.list a i) (λU y=>f y) (λU y L=>upd L k (f y)) (λU U U=>rfl) (bp h V) B I v λi H L j=>(step i H L j).casesOn λJ ys O p g t=>
  ⟨J,ys[i]?,ax O,λe=>p (ME g (LS.mp e)),t⟩
end
inductive WhS(Φ:PT)(M:MT)(t:CE)(l b:cp CS)(Q:NE)(X:No)(J:ki->CH->EN->Prop)(k:ki)(H:CH)(L:EN):Prop
 | mk (v:CV) (p:LG) (h:Ev L H t v) (g:aL H v=aM p) (hf:p=false->ae Φ M l ⟨H,L⟩ Q X) (ht:p=true->∀K,LK Φ M l Q X (λH' L'=>∃j,j<k/\J j H' L') K->ae Φ M b ⟨H,L⟩ K FX)
theorem whl{J:ki->CH->EN->Prop}(k:ki)(O:J k H L)(step:∀k H L,J k H L->WhS Φ M t l b Q X J k H L):ae Φ M (.whl t b::l) ⟨H,L⟩ Q X:=by
 have y:∀(n k:ki) (H:CH) (L:EN),k<n->J k H L->vW (λs K=>wpE Φ M t s (λv s=>∃q,aL s.H v=aM q/\K q s) (λw w=>False)) (λs K=>ae Φ M b s (λf s=>match f with | .next | .cont=>K true s | .brk=>K false s | .ret v=>bq Φ M l Q X (.ret v) s) (λw w=>False)) (bq Φ M l Q X .next) (bq Φ M l Q X .next) n ⟨H,L⟩:=by
  intro n
  induction n with
  | zero=>exact λw w w h=>p7 h (MD _)
  | succ n g=>
   intro k H L T h
   obtain⟨v,p,x,c,C,B⟩:=step k H L h
   refine x _ _ _ _ ⟨p,c,?_⟩
   cases p with
   | false=>exact C rfl
   | true=>
    have V:∀{Y U},(∃j,j<k/\J j Y U)->_:=λ{Y U} h=>h.elim λj h=>g j Y U (rf h.1 (tc T)) h.2
    exact B rfl _ ⟨V,V,λh=>h,λh=>h⟩
 exact⟨k+1,y _ k H L (Lz k) O⟩
inductive CoS(t:LT)(elt:CE)(ifs:cp CE)(H:CH)(V:EN->Prop)(L:EN)(p:LG)(g:CV):Prop
 | mk (v:V L) (h1:∀(Φ:PT) (M:MT) (Q:LG->St->Prop) X,Q p ⟨H,L⟩->jC Φ M ifs ⟨H,L⟩ Q X) (h2:p=true->Ev L H elt g)
def coP{Q:Ps}{U:cp α}(C:ki->It)(w:ki->α->CV)(A:ki->α->EN->EN)(B:∀i y L,de L t (w i y)=aM (A i y L))(P:∀D:It->St->Prop,D (C 0) ⟨H,L⟩->wpI Φ M z ⟨H,L⟩ D X)
(E:∀i,(C i).next H=aM (U[i]?.map λy=>(w i y,C (i+1))))(R:U.length<szl)(p:ki->α->LG)(g:ki->α->CV)(V:EN->Prop)(S:V L)
(W:∀i y L,U[i]?=aM y->V L->CoS t k j H V (A i y L) (p i y) (g i y))
(r:∀c,H.free c->Q (.ref c) ⟨H.aD c (((U.zipIdx).filter λq=>p q.2 q.1).map λq=>g q.2 q.1),L⟩):wpE Φ M (.co k t z j) ⟨H,L⟩ Q X:=by
 refine P _ ⟨U.length+1,?_⟩
 generalize I:((U.zipIdx).filter λq=>p q.2 q.1).map (λq=>g q.2 q.1)=T at r
 have h:T.length<szl:=eF (I▸(h7 _).symm▸cy (NI _ _) (p8 length_zipIdx)) R
 have n:∀(J:cp α) (i:ki) (O:EN) (Y:cp CV),U.drop i=J->V O->Y++(((J.zipIdx i).filter λq=>p q.2 q.1).map λq=>g q.2 q.1)=T->eZ (λv s K=>∃L,de s.L t v=aM L/\jC Φ M j { s with L:=L } (λb s=>if b then wpE Φ M k s (λr s=>K (aM r) s) (λN N=>False) else K none s) (λN N=>False))
   (λY s=>Y.length<=szl/\∀c,s.H.free c->Q (.ref c) ⟨s.H.aD c Y,L⟩) (J.length+1) (C i) Y ⟨H,O⟩:=by
  intro J
  induction J with
  | nil=>
   intro i O Y e d f
   obtain rfl:=(Mp Y).symm.trans f
   exact qE ((E i).trans (dd (λo=>aM (My _ o)) (pL e))) ⟨y1 h,r⟩
  | cons y J m=>
   intro i O Y e d f
   obtain⟨F,Z,G⟩:=W i y O (kT e) d
   have x:Y.length<szl:=eF (f▸GE▸LA _ _) h
   refine tM ((E i).trans (dd (λo=>aM (My _ o)) (kT e))) ⟨_,B i y O,Z _ _ _ _ ?_⟩
   cases a:p i y with
   | false=>exact⟨x,m (i+1) _ Y (kU e) F ((dd (λl=>Y++Px _ l) (NZ (p:=λq:α×ki=>p q.2 q.1) (a:=(y,i)) (Oy.mp a)).symm).trans f)⟩
   | true=>exact G a _ _ _ _ ⟨x,m (i+1) _ (Y++[g i y]) (kU e) F ((M9 _ _ _).trans ((dd (λl=>Y++Px _ l) (NY (p:=λq:α×ki=>p q.2 q.1) (a:=(y,i)) a).symm).trans f))⟩
 exact n U 0 L [] rfl S I
end
def KE{H:CH}(h:Ev L H e (.bool b))(z:PT)(M:MT)(Q:LG->St->Prop)(X:No)(r:Q b ⟨H,L⟩):jC z M [e] ⟨H,L⟩ Q X:=h _ _ _ _ ⟨b,rfl,by cases b <;> exact r⟩
theorem oj{z Y:Type}{p:z->LG}{g:z->Y}{Q:cp z}:∀{n:ki},(((Q.zipIdx n).filter λq=>p q.1).map λq=>g q.1)=(Q.filter p).map g:=by
 induction Q with
 | nil=>exact λ{U}=>rfl
 | cons y Q w=>
  intro n
  cases h:p y with
  | true=>exact(dd (Px _) (NY (p:=λq:z×ki=>p q.1) (a:=(y,n)) h)).trans ((dd (g y::·) w).trans (dd (Px g) (NY h)).symm)
  | false=>exact(dd (Px _) (NZ (p:=λq:z×ki=>p q.1) (a:=(y,n)) (Oy.mp h))).trans (w.trans (dd (Px g) (NZ (Oy.mp h))).symm)
def coM{U:Type}{H:CH}{Q:Ps}{ys:cp U}(v:ki->It)(w:ki->U->CV)(V:ki->U->EN->EN)(k:∀i y L,de L t (w i y)=aM (V i y L))(O:∀o:It->St->Prop,o (v 0) ⟨H,L⟩->wpI j M J ⟨H,L⟩ o X)
(p:∀i,(v i).next H=aM (ys[i]?.map λy=>(w i y,v (i+1))))(f:ys.length<szl)(g:U->CV)(l:∀i y L,ys[i]?=aM y->Ev (V i y L) H Y (g y))
(r:∀c,H.free c->Q (.ref c) ⟨H.aD c (ys.map g),L⟩):wpE j M (.co Y t J []) ⟨H,L⟩ Q X:=
 coP v w V k O p f (λz z=>true) (λz=>g) (λz=>True) trivial (λi y L T z=>⟨trivial,λz z z z q=>q,λz=>l i y L T⟩) λc x=>by
  (erw[oj (p:=λz=>true) (g:=g)];erw[Qd.mpr λz z=>rfl]);exact r c x
def ke:aw ((k,v)::z) k=aM v:=K2 rfl
def mx(h:a≠k):aw ((a,v)::z) k=aw z k:=E1 h
def ol:bf ((k,v)::z) k w=(k,w)::z:=K2 rfl
def rY(h:a≠k):bf ((a,v)::z) k w=(a,v)::bf z k w:=E1 h
theorem du:aw z k=aM v->(k,v)∈z:=by
 induction z with
 | nil=>exact nos
 | cons p z Q=>
  by_cases e:p.1=k
  ·subst e
   exact λh=>ey (ke.symm.trans h)▸fp
  ·exact λh=>oo _ (Q ((mx e).symm.trans h))
theorem kf{z:cp (CV×CV)}:aw z k≠none↔k∈z.map (·.1):=by
 induction z with
 | nil=>exact⟨λh=>p7 rfl h,λh=>p7 h Le⟩
 | cons p z Q=>
  (erw[Nv];rewrite[ta])
  by_cases e:p.1=k
  ·subst e
   exact VB (λh=>nos (h.symm.trans ke)) (.inl rfl)
  ·(erw[show aw (p::z) k=aw z k from mx e];rewrite[Q])
   exact(UT (Ma e)).symm
def cH{es:cp (CV×CV)}:aw es k=none↔k∉es.map (·.1):=RJ.symm.trans (not_congr kf)
def be(h:aw z k≠none):∃v,aw z k=aM v/\(k,v)∈z:=(SQ.mp h).imp λQ e=>⟨e,du e⟩
theorem bV{p:CV×CV}:p∈bf z k v->p∈z∨p=(k,v):=by
 induction z with
 | nil=>exact λh=>.inr (n2.mp h)
 | cons q z Q=>
  by_cases e:q.1=k
  ·subst e
   exact λh=>(ta.mp ((ol (v:=q.2)).symm▸h)).elim .inr λh=>.inl (oo _ h)
  ·exact λh=>(ta.mp ((rY (v:=q.2) e)▸h)).elim (λh=>.inl (ta.mpr (.inl h))) λh=>(Q h).imp (oo _) id
theorem iW{es:cp (CV×CV)}:(bf es k v).map (·.1)=if k∈es.map (·.1) then es.map (·.1) else es.map (·.1)++[k]:=by
 induction es with
 | nil=>exact(E1 Le).symm
 | cons q es z=>
  erw[Nv]
  by_cases e:q.1=k
  ·subst e
   erw[K2 fp]
   exact dd (Px (·.1)) (ol (v:=q.2))
  ·(erw[(show bf (q::es) k v=q::bf es k v from rY e)];erw[Nv];erw[z])
   by_cases m:k∈es.map (·.1)
   ·(erw[K2 m];exact LH (K2 (oo _ m)) rfl)
   ·(erw[E1 m];erw[E1 λh=>(ta.mp h).elim (Ma e) m]);rfl
def cQ{α:Type}{l:cp α}{y:α}(h:l.Nodup)(z:y∉l):(l++[y]).Nodup:=
 M8.mpr ⟨h,Mi _ _,λa Q b w q=>z (n2.mp w▸q▸Q)⟩
def dc{z:cp (CV×CV)}(h:(z.map (·.1)).Nodup):((bf z k v).map (·.1)).Nodup:=by
 erw[iW]
 by_cases e:k∈z.map (·.1)
 ·erw[K2 e];exact h
 ·erw[E1 e];exact cQ h e
def om{es:cp (CV×CV)}:(bf es k v).length<=es.length+1:=by
 have q:=dd Nc (iW (es:=es) (k:=k) (v:=v))
 rw[h7] at q
 erw[q]
 by_cases e:k∈es.map (·.1)
 ·(erw[K2 e];erw[h7 _]);exact MA _
 ·(erw[E1 e];erw[GE];erw[h7 _]);exact Lf _
theorem bt:aw (bf z k v) x=if k=x then aM v else aw z x:=by
 induction z with
 | nil=>rfl
 | cons q z Q=>
  by_cases e:q.1=k
  ·subst e
   erw[(show bf (q::z) q.1 v=(q.1,v)::z from ol)]
   by_cases h:q.1=x
   ·erw[K2 h];exact K2 h
   ·erw[E1 h];exact(E1 h).trans (E1 h).symm
  ·erw[(show bf (q::z) k v=q::bf z k v from rY e)]
   by_cases h:q.1=x
   ·subst h
    erw[E1 (Ma e)]
    exact ke.trans ke.symm
   ·(erw[show aw (q::bf z k v) x=_ from mx h];erw[Q];exact LH (show aw (q::z) x=_ from mx h) rfl)
def cC{z:Type}{l:cp z}{y:z}{p:z->Prop}(h:∀x∈l,p x)(Q:p y):∀x∈l++[y],p x:=λx w=>(LB.mp w).elim (h x) λe=>n2.mp e▸Q
theorem qF{l:cp Lj}(h:∀x∈l,aZ x):CV.bD (l.map .str)=true:=by
 induction l with
 | nil=>rfl
 | cons x l z=>exact rv.mpr ⟨h x fp,z λy Q=>h y (oo _ Q)⟩
theorem oq(l:cp Lj):CV.dw (l.map .str)=0:=by
 induction l with
 | nil=>rfl
 | cons x l z=>exact(dd (max 0) z).trans rfl
def ot(r:aE):Prop:=aZ r.1/\∀x∈r.2,aZ x
def qG(h:ot r):(cI r).pure=true:=rv.mpr ⟨h.1,rv.mpr ⟨qF h.2,rfl⟩⟩
def ou(r:aE):(cI r).depth=2:=(dd (λn=>max 0 (max (n+1) 0)+1) (oq r.2)).trans rfl
theorem yb{l:cp aE}(h:∀r∈l,ot r):CV.bD (l.map cI)=true:=by
 induction l with
 | nil=>rfl
 | cons x l z=>exact rv.mpr ⟨qG (h x fp),z λy Q=>h y (oo _ Q)⟩
theorem vo(l:cp aE):CV.dw (l.map cI)<=2:=by
 induction l with
 | nil=>exact Lp _
 | cons x l z=>exact Sd.mpr ⟨p8 (ou x),z⟩
def tN{l m:cp Lj}(h:l.map CV.str=m.map CV.str):l=m:=(List.map_inj_right λz z h=>CV.str.inj h).mp h
def Bc(h:cI r=cI s):r=s:=
 have a:=NH (CV.tup.inj h)
 MX (CV.str.inj a.1) (tN (CV.tup.inj (NH a.2).1))
def Fe{r:aE}(z:r.1∈aC)(Q:dS m r.2):ot r:=⟨aI (bL z),λx w=>aI (Q.2.1 x w)⟩
def dS.mono{k:ki}(h:dS m l)(z:m<=k):dS k l:=⟨cy h.1 z,h.2⟩
def ba:∀x∈bm,(CV.str x).az=true:=by decide
def Be:∀x∈laS,(CV.str x).az=true:=by decide
def vp:∀x∈dC::bm,(CV.str x).az=true:=by decide
def wZ{x:Lj}(h:x∈dr):x∈laS:=by revert h x;decide
def Bf{x:Lj}(h:x∈dr):x∈bm:=by revert h x;decide
def tO{x:Lj}(h:x∈dr):x≠dC:=by revert h x;decide
def Bg{x:Lj}(h:x∈aC):x∉dr:=by revert h x;decide
def vq{x:Lj}(h:x∈bm):x∈dr∨x∈aC:=by revert h x;decide
def asc{x:Lj}(h:x∈[sa,sb,vf,dC,gZ,sA,sB,sS,sP,pt,jp,u 1349811,u 129580172,u 159904300,u 0x2bbce4f9a895ee,u 13906159109]):aZ x:=by
 revert h x
 unfold aZ
 decide
def kh{a b:Prop}[OS a][OS b](h:a↔b):decide a=decide b:=Qb.mpr h
section
variable{H:CH}
def dT{a:ki}{l:cp Lj}(h:H.getL a=aM (l.map .str))(w:∀y∈l,aZ y)(Y:aZ x):b9 H .isIn (.str x) (.ref a)=aM (decide (x∈l)):=
 (dd (LW · _ (sE (.str x))) h).trans ((K2 ⟨Y,qF w,Lp _,cy (p8 (oq _)) (Lp _)⟩).trans (dd aM (kh ⟨λh=>(p9.mp h).elim λy q=>CV.str.inj q.2▸q.1,LL⟩)))
def lh(h:b9 H .isIn x y=aM b):b9 H .cu x y=aM (!b):=dd (My (!·)) h
def neV(h:b9 H .eq x y=aM b):b9 H .ne x y=aM (!b):=dd (My (!·)) h
def eqP{x y:CV}(w:x.pure=true)(Y:y.pure=true)(U:x.depth<=20)(v:y.depth<=20):b9 H .eq x y=aM (decide (x=y)):=K2 ⟨w,Y,U,v⟩
def eqS(w:aZ x)(Y:aZ y):b9 H .eq (.str x) (.str y)=aM (decide (x=y)):=
 (eqP (x:=.str x) (y:=.str y) w Y (Lp _) (Lp _)).trans (dd aM (kh ⟨CV.str.inj,dd _⟩))
def eqI:b9 H .eq (.int i) (.int j)=aM (decide (i=j)):=
 (eqP (x:=.int i) (y:=.int j) rfl rfl (Lp _) (Lp _)).trans (dd aM (kh ⟨CV.int.inj,dd _⟩))
def eh{a:ki}(h:H.cls a=aM c)(w:bn c=true)(y:H.att n a=aM v):i5 H (.ref a) n=aM v:=
 (dd (OZ · λc=>if bn c then(H.att n a).elim (fL c n) aM else none) h).trans ((K2 w).trans (dd (LW · (fL c n) aM) y))
def w4{a:ki}(h:H.cls a=aM c)(w:bn c=true)(y:H.att n a=none):i5 H (.ref a) n=fL c n:=
 (dd (OZ · λc=>if bn c then(H.att n a).elim (fL c n) aM else none) h).trans ((K2 w).trans (dd (LW · (fL c n) aM) y))
def oz{a:ki}(h:H.getL a=aM l):aL H (.ref a)=aM (!l.isEmpty):=dd (LW · _ λ(l:cp CV)=>aM (!l.isEmpty)) h
variable{P:Par}{z:TY}{n:ki}{Q:Rs}
def oB{a:ki}(T:au P z H)(h:H.dct a=aM w):aL H (.ref a)=aM (!w.isEmpty):=
 (dd (LW · _ _) (T.dg h)).trans (dd (LW · _ λ(w:cp (CV×CV))=>aM (!w.isEmpty)) h)
def Bh{a:ki}(T:au P z H)(h:H.cls a=aM c)(w:cq c=true):aL H (.ref a)=aM true:=
 (dd (LW · _ _) (T.cg h)).trans ((dd (LW · _ _) (T.wf.cls a (aq h)).2.2).trans ((dd (OZ · λc=>if cq c then aM true else none) h).trans (K2 w)))
def inD{a:ki}{x:CV}(T:au P z H)(h:H.dct a=aM w)(y:x.az=true):b9 H .isIn x (.ref a)=aM (aw w x).isSome:=
 (dd (LW · _ (sE x)) (T.dg h)).trans ((dd (OZ · λw=>if x.az then aM (aw w x).isSome else none) h).trans (K2 y))
def Bi{a:ki}{k:CV}(T:au P z H)(h:H.dct a=aM w)(y:k.az=true):eD H (.ref a) k=aM ((aw w k).elim (.error .key) .ok):=
 (dd (LW · _ λl=>k.cf none λi=>(atI l i).map (Qe:CV->RI Exc CV)) (T.dg h)).trans ((dd (OZ · λw=>if k.az then aM ((aw w k).elim (RY Exc.key:RI Exc CV) (Qe:CV->RI Exc CV)) else none) h).trans (K2 y))
def getD{a:ki}{k:CV}(T:au P z H)(h:H.dct a=aM w)(y:k.az=true)(Y:aw w k=aM v):eD H (.ref a) k=aM (.ok v):=
 (Bi T h y).trans (dd (λo=>aM (LW o (RY Exc.key:RI Exc CV) (Qe:CV->RI Exc CV))) Y)
def Ff{a:ki}{k:CV}(T:au P z H)(h:H.dct a=aM w)(y:k.az=true)(Y:aw w k=none):eD H (.ref a) k=aM (.error .key):=
 (Bi T h y).trans (dd (λo=>aM (LW o (RY Exc.key:RI Exc CV) (Qe:CV->RI Exc CV))) Y)
def vr{a:ki}{i:Nj}(h:H.getL a=aM l)(e:atI l i=aM v):eD H (.ref a) (.int i)=aM (.ok v):=
 (dd (LW · _ λl=>CV.cf none (.int i) λi=>(atI l i).map (Qe:CV->RI Exc CV)) h).trans (dd (My (Qe:CV->RI Exc CV)) e)
def mA{l:cp CV}{i:ki}:atI l (i:Nj)=l[i]?:=(K2 (Ms i)).trans (dd (l[·]?) (Oz i))
def eQ{w:Type}{a i:ki}{ys:cp w}{f:w->CV}{y:w}(h:H.getL a=aM (ys.map f))(Y:ys[i]?=aM y):eD H (.ref a) (.int i)=aM (.ok (f y)):=
 vr h (mA.trans (Mg.trans (dd (My f) Y)))
def Bj{i:Nj}(e:atI l i=aM v):eD H (.tup l) (.int i)=aM (.ok v):=by
 show LW (atI l i) _ _=_
 erw[e];rfl
def GV{i:Nj}(e:atI l i=none)(h:-1000<i/\i<1000):eD H (.tup l) (.int i)=aM (.error .index):=by
 show LW (atI l i) _ _=_
 (erw[e];erw[Zf _ _];exact LH (K2 h) rfl)
def rZ{i:ki}{l:cp CV}(w:l[i]?=aM y):eD H (.tup l) (.int i)=aM (.ok y):=Bj (mA.trans w)
def KF{l:cp CV}:cut l (.int 1) .none=aM (l.drop 1):=by first | rfl | kernel_rfl
def yc{a:ki}(h:H.getL a=aM l):Fr H (.ref a)=aM l.length:=dd (My Nc) h
end
def DZ:∀x∈bm,(x.cps.toList.length<=10/\0<x.cps.toList.length)/\(∀c∈x.cps.toList,c<128)/\∀c∈x.cps.toList,c∈(u 0x31816a8261d679ddb8e10c0da968c04081bc61b92173b417f0cbc761d548053dc80445c1c5f59e4080e4bd98942ea214d204ef8501).cps.toList:=by
 decide
def vt:∀x∈bm,(x.cps.size<=10/\0<x.cps.size)/\x.cps.all (λx=>decide (x<128))=true/\∀c∈x.cps.toList,(u 0x31816a8261d679ddb8e10c0da968c04081bc61b92173b417f0cbc761d548053dc80445c1c5f59e4080e4bd98942ea214d204ef8501).cps.toList.contains c=true:=by
 intro x Q
 refine oAA (DZ x Q) λw y Y=>?_
 refine⟨by simpa using w,?_,λc z=>OW.mpr (Y c z)⟩
 (erw[Ng Vd];rewrite[M5])
 exact λc z=>Ln (y c z)
def Bk{x:Lj}(h:x∈bm):x.cps.size<=1000000:=cy (vt x h).1.1 (e0 rfl)
def tP{l:cp Lj}{x:Lj}:nub z (l++[x])=if x∈nub z l then nub z l else nub z l++[x]:=by
 unfold nub;erw[Sk];rfl
theorem gG:∀{acc:cp Lj} {x:Lj},x∈nub acc l↔x∈acc∨x∈l:=by
 induction l with
 | nil=>exact λ{acc x}=>(Yj Le).symm
 | cons y l z=>
  intro acc x
  refine(z (acc:=if y∈acc then acc else acc++[y])).trans ?_
  by_cases h:y∈acc
  ·rw[K2 h]
   exact⟨Or.imp_right (oo _),λq=>q.elim .inl λq=>(ta.mp q).elim (λe=>.inl (e▸h)) .inr⟩
  ·rw[E1 h,LB,n2,or_assoc]
   exact R6 ta.symm
theorem D1(m:cp Lj):∀z:cp Lj,(nub z m).length<=z.length+m.length:=by
 induction m with
 | nil=>exact λw=>Lf _
 | cons y m Q=>
  intro z
  show(nub (if y∈z then z else z++[y]) m).length<=_
  split
  ·exact cy (Q z) (Ls (MA _) _)
  ·refine cy (Q _) (p8 ?_)
   exact(dd (·+m.length) GE).trans (Sf ..)
section
variable{P:Par}{z w:TY}{H:CH}{n:ki}{Q:Rs}
def au.it{a:ki}(T:au P z H)(h:z a=aM (.item r d)):Fc P.toPK P.toPI z (aY H a) a r d:=T.sat _ _ h
def au.pd{a:ki}(T:au P z H)(h:z a=aM (.cJ r)):A7 P.toPK P.toPI P.toPM z (aY H a) a r:=T.sat _ _ h
def au.st{a:ki}{q:cp Pl}(T:au P z H)(h:z a=aM (.stL q)):∃l:cp ki,H.lst a=aM (l.map .ref)/\cB (λa p=>z a=aM (.item p.1 p.2)) l q/\q.length<1000:=T.sat _ _ h
def au.tb{a:ki}(T:au P z H)(h:z a=aM .table):A8 P.toPM P.toPA P.toPQ z (aY H a) P.hash:=(T.sat _ _ h).2
def au.gr{a:ki}(T:au P z H)(h:z a=aM .bX):Fb P.toPA z (aY H a):=(T.sat _ _ h).2
def au.gat{a k:ki}(T:au P z H)(h:z a=aM .bX)(g:(aY H a).att k=aM v):i5 H (.ref a) k=aM v:=eh (T.gr h).cls rfl g
def au.pat{a k:ki}(T:au P z H)(h:z a=aM (.cJ r))(g:(aY H a).att k=aM v):i5 H (.ref a) k=aM v:=eh (T.pd h).cls rfl g
def au.iat{a k:ki}(T:au P z H)(h:z a=aM (.item r d))(g:(aY H a).att k=aM v):i5 H (.ref a) k=aM v:=eh (T.it h).cls rfl g
def au.tat{a k:ki}(T:au P z H)(h:z a=aM .table)(g:(aY H a).att k=aM v):i5 H (.ref a) k=aM v:=eh (T.tb h).cls rfl g
def au.oat{c m:ki}{f:EN}(T:au P z H)(h:z c=aM (.cA k f))(y:bn k=true)(U:f m=aM v):i5 H (.ref c) m=aM v:=eh (T.C h) y ((T.A h m).trans U)
def iH{x:Lj}(N:Now Y w P z H)(f:x∈bm)(g:∀v o,Now Y w P v o->Ka z v->Q (.bool true) o):ah fF mF (n+1) 39 [.str x] H Q:=by
 refine oAA (vt x f) λV t T=>?_;obtain⟨O,C⟩:=V
 refine bK [.str x] (d:=gS) rfl rfl rfl rfl λB k U=>?_
 refine W.IV (.cm (.KB (.v rfl) (cy O (e0 rfl))) .c (Ev.gtT (Ni.mpr C))) rfl ?_
 refine KC (coM (ys:=x.cps.toList) (λi=>.ai ((x.cps.toList.map λc=>CV.str ⟨#[c]⟩).drop i)) (λU c=>.str ⟨#[c]⟩) (λU c L=>upd L 1 (.str ⟨#[c]⟩)) (λU U U=>rfl) (λU r=>⟨_,rfl,t,r⟩) (λi=>bE) (by erw[Oe];exact eF O (by decide)) (λU=>.bool true)
  (λi c L j=>.cm (.v rfl) .c (dd aM (T c (od j)))) λc j=>?_)
 refine N.nL (G:=λH=>∃l,qU H (.ref c)=aM l/\(∀y∈l,∃b,y=.bool b)/\B (.ret (.bool (l.all λy=>decide (y=.bool true)))) ⟨H,_⟩) j λa A p D U E=>⟨_,p.T.gL D,λy J=>(p9.mp J).elim λU e=>⟨true,e.2.symm⟩,?_⟩
 erw[M5.mpr λy J=>(p9.mp J).elim λU e=>Ln e.2.symm]
 exact k (g a A p E.aa)
def yd{a:ki}(U:H.cls a=aM 100)(v:H.att 3 a=aM (.tup l))(V:l.length<=szl)(k:Q (.int l.length) H):ah fF mF (n+1) 83 [.ref a] H Q:=
 bK [.ref a] (d:=fI) rfl rfl rfl rfl λj y J=>W.ret (.x7 (.att (.v rfl) (eh U rfl v)) V) (y k)
theorem vu{c t:ki}{l:cp Lj}(T:au P z H)(o:z c=aM (.ak (l.map .str)))(O:H.dct t=aM N)(a:l.length<100)(A:∀x∈l,x∈bm)(g:∀v,(v=.none∨∃x∈bm,v=.str x)->Q v H):ah fF mF (n+1) 146 [.ref c,.ref t] H Q:=by
 refine bK [.ref c,.ref t] (d:=ez) rfl rfl rfl rfl λM y J=>?_
 refine W.asg (.sub (.x8 (.v rfl) (T.lc (T.L o)) (yc (T.gL o)) (by erw[h7 _];exact cy (y1 a) (e0 rfl))) .c) ?_
 refine whl (J:=λk D L=>D=H/\L 0=aM (.ref c)/\L 1=aM (.ref t)/\L 2=aM (.int ((k:Nj) - 1))/\k<=l.length) l.length ⟨rfl,rfl,rfl,dd (λn:ki=>aM (CV.int ((n:Nj) - 1))) (h7 _),Lf _⟩ ?_
 rintro k E I ⟨rfl,p,C,U,f⟩
 cases k with
 | zero=>exact⟨_,false,.cm (.v U) .c (Ev.geF (by decide)),rfl,λJ=>W.ret .c (y (g _ (.inl rfl))),ff⟩
 | succ j=>
  replace U:I 2=aM (.int (j:Nj)):=U.trans (dd (λi=>aM (CV.int i)) (Qz (j:Nj) 1))
  refine⟨_,true,.cm (.v U) .c (Ev.geT (Ms j)),rfl,ntf,λJ K b=>?_⟩
  have B:eD E (.ref c) (.int j)=aM (.ok (.str l[j])):=eQ (T.gL o) (o2 f)
  have V:=A _ (MS f)
  refine W.ite (.cm (.ix (.v p) (.v U) B) (.v C) (inD T O (ba _ V))) rfl (λJ=>W.ret (.ix (.v p) (.v U) B) (b.ret (y (g _ (.inr ⟨_,V,rfl⟩))))) λJ=>W.nil ?_
  exact W.fS U .c (.inr rfl) (b.nxt ⟨j,Lz j,rfl,p,C,rfl,y1 f⟩)
end
def Al{α:Type}(p:α->Prop)(l:cp α):Prop:=l.rec True λa Q z=>p a/\z
theorem Al.mem{α:Type}{p:α->Prop}{l:cp α}:Al p l->∀x∈l,p x:=by
 induction l with
 | nil=>exact λz z h=>p7 h Le
 | cons a l Q=>exact λh x w=>(ta.mp w).elim (λe=>e▸h.1) (Q h.2 x)
def Al.app{α:Type}{p:α->Prop}{l m:cp α}(h:Al p l)(k:∀x∈m,p x):∀x∈l++m,p x:=λx z=>(LB.mp z).elim (h.mem x) (k x)
structure MnE(H0:CH)(ty:TY)(c:ki)(x:ki×aK):Prop where
 t:ty x.1=aM x.2
 ne:x.1≠c
 fr:H0.free x.1
structure Mn(H0:CH)(ty:TY)(c:ki)(L:cp (ki×aK)):Prop where
 r:∀x∈L,MnE H0 ty c x
 nd:(L.map (·.1)).Nodup
section
variable{Q w:TY}{z:CH}{b c:ki}{L:cp (ki×aK)}{y:aK}
def Mn.at(h:Mn z Q c L)(i:ki)(e:L[i]?=aM x):MnE z Q c x:=h.r x (od e)
def Mn.put(h:Mn z Q c L)(V:w b=aM y)(j:z.free b)(v:b≠c)(k:∀a y,a≠c->Q a=aM y->w a=aM y/\a≠b):Mn z w c ((b,y)::L):=
 ⟨λx U=>(ta.mp U).elim (λe=>e▸⟨V,v,j⟩) λU=>⟨(k _ _ (h.r x U).ne (h.r x U).t).1,(h.r x U).ne,(h.r x U).fr⟩,Mf.mpr ⟨λJ=>(p9.mp J).elim λx q=>(k _ _ (h.r x q.1).ne (h.r x q.1).t).2 q.2,h.nd⟩⟩
def Mn.ay(h:Mn z Q c L)(k:Kp c Q w):Mn z w c L:=⟨λx U=>⟨k _ _ (h.r x U).ne (h.r x U).t,(h.r x U).ne,(h.r x U).fr⟩,h.nd⟩
def Mn.perm(h:Mn z Q c L)(p:L.Perm Y):Mn z Q c Y:=⟨λx U=>h.r x (p.mem_iff.mpr U),(p.map _).nodup_iff.mp h.nd⟩
def Mn.nil:Mn z Q c []:=⟨λU h=>p7 h Le,LR⟩
def Mn.one(v:Q b=aM y)(U:b≠c)(V:z.free b):Mn z Q c [(b,y)]:=⟨λx k=>n2.mp k▸⟨v,U,V⟩,Mi _ _⟩
end
def EvS(L:EN)(H:CH)(e:CE):Prop:=∀(z:PT) (M:MT) (Q:Ps) (X:No),(∀r,Q (.str r) ⟨H,L⟩)->wpE z M e ⟨H,L⟩ Q X
section
variable{L:EN}{H:CH}{w U:CE}{s:Lj}{c i d j:ki}
def EvS.jj{l:cp Lj}(v:Ev L H w (.str f))(V:f.cps.size<=1000000)(J:Ev L H Y (.str s))(O:s.cps.size=1)(p:Ev L H U (.tup (l.map .str)))(C:l.length<64)(g:∀z∈l,z.cps.size<64):EvS L H (.js w (.jo Y U)):=λQ Q Q Q k=>
 v _ _ _ _ ⟨f,rfl,V,J _ _ _ _ ⟨s,rfl,p _ _ _ _ ⟨_,O,rfl,by rwa [h7],λz t=>let ⟨y,T,e⟩:=p9.mp t;⟨y,e.symm,g y T⟩,λr x=>.inl ⟨r,rfl,y1 (Mj x (e0 rfl)),k⟩⟩⟩⟩
def EvS.md(Q:Ev L H w (.str (u 0x405584c7f5eca7988f9f25)))(y:Ev L H Y (.str s))(v:s.cps.size<=1000000):EvS L H (.op .mod w Y):=λz z z z k=>Q _ _ _ _ (y _ _ _ _ ⟨rfl,v,k⟩)
namespace W
variable{z:PT}{Q:NE}{X:No}{P:Par}{v:EN}{n:ki}
def vv{st:St}(r:wpE z M e st (λv st=>Q (.ret v) st) X):ae z M (.ret e::l) st Q X:=r
def Fg(N:Now y k P V H)(f:y.free c)(g:V c=aM (.cA d v))(p:bn d=true)(t:Ev L H o (.ref c))(T:EvS L H e)
(r:∀s J O,Now y k P J O->J c=aM (.cA d λm=>if m=n then aM (.str s) else v m)->Kp c V J->ae z M l ⟨O,L⟩ Q X):ae z M (.asg (.at o n) e::l) ⟨H,L⟩ Q X:=
 T _ _ _ _ λs=>t _ _ _ _ ⟨c,d,rfl,N.T.C g,p,N.oA (G:=λH=>ae z M l ⟨H,L⟩ Q X) f g (r s)⟩
def GW(N:Now y k P V H)(f:y.free c)(g:V c=aM (.cA d v))(C:bn d=true)(B:L j=aM (.ref c))(A:Ev L H e (.tup m))(D:m.length<=szl)
(r:∀b J t,Now y k P J t->J c=aM (.cA d λm=>if m=n then aM (.ref b) else v m)->J b=aM (.ak m)->y.free b->b≠c->(∀a p,a≠c->V a=aM p->J a=aM p/\a≠b)->ae z M l ⟨t,L⟩ Q X):ae z M (.asg (.at (.v j) n) (.b1 .list e)::l) ⟨H,L⟩ Q X:=
 A _ _ _ _ ⟨m,rfl,D,λb E=>N.nL (G:=λH=>qV z M (.at (.v j) n) (.ref b) ⟨H,L⟩ _ X) E λG u T I F O=>⟨_,B,c,d,rfl,T.T.C (O _ _ g).1,C,
  T.oA (G:=λH=>ae z M l ⟨H,L⟩ Q X) f (O _ _ g).1 λR S W Z x=>r b R S W Z (x _ _ (Ma (O _ _ g).2) I) F (Ma (O _ _ g).2) λa p K h=>⟨x _ _ K (O _ _ h).1,(O _ _ h).2⟩⟩⟩
def IY(N:Now y k P V H)(f:y.free c)(g:V c=aM (.cA d v))(C:bn d=true)(B:L j=aM (.ref c))
(r:∀b J t,Now y k P J t->J c=aM (.cA d λm=>if m=n then aM (.ref b) else v m)->J b=aM (.bc [])->y.free b->b≠c->(∀a p,a≠c->V a=aM p->J a=aM p/\a≠b)->ae z M l ⟨t,L⟩ Q X):ae z M (.asg (.at (.v j) n) .d0::l) ⟨H,L⟩ Q X:=
 λb A=>N.nD (G:=λH=>qV z M (.at (.v j) n) (.ref b) ⟨H,L⟩ _ X) A λZ K T D E O=>⟨_,B,c,d,rfl,T.T.C (O _ _ g).1,C,
  T.oA (G:=λH=>ae z M l ⟨H,L⟩ Q X) f (O _ _ g).1 λI F R S x=>r b I F R S (x _ _ (Ma (O _ _ g).2) D) E (Ma (O _ _ g).2) λa p W h=>⟨x _ _ W (O _ _ h).1,(O _ _ h).2⟩⟩
def GX{p:ki}{v:CV}(N:Now y k P V H)(f:y.free c)(g:V c=aM (.ak m))(t:Ev L H w (.ref c))(T:Ev L H Y (.int p))(x:Ev L H U v)(C:p<=m.length)(b:m.length<64)
(r:∀J O,Now y k P J O->J c=aM (.ak (m.take p++v::m.drop p))->Kp c V J->ae z M l ⟨O,L⟩ Q X):ae z M (.ex (.ins w Y U)::l) ⟨H,L⟩ Q X:=
 t _ _ _ _ ⟨c,m,rfl,N.T.L g,T _ _ _ _ (x _ _ _ _ ⟨m,p,rfl,C,N.T.L g,b,N.oL (G:=λH=>ae z M l ⟨H,L⟩ Q X) f g r⟩)⟩
end W
end
inductive IA
 | v (e:CE) (x:CV)
 | l (es:cp CE) (vs:cp CV)
 | d
def IA.cs(n:ki):IA->CS
 | .v e _=>.asg (.at (.v 0) n) e
 | .l z _=>.asg (.at (.v 0) n) (.li z)
 | .d=>.asg (.at (.v 0) n) .d0
def at1(f:EN)(n:ki)(v:CV):EN:=λm=>if m=n then aM v else f m
def hi1{f:EN}{n:ki}(h:∀k,42<=k->f k=none)(Q:Oc 42 n=false):∀k,42<=k->at1 f n v k=none:=λk z=>(E1 λe:k=n=>NP (Q.symm.trans (OA.mpr (e▸z)))).trans (h k z)
def oC(k:EN->cp (ki×aK)->Prop):cp (ki×IA)->EN->cp (ki×aK)->Prop
 | [],f,R=>k f R
 | (n,.v _ x)::r,f,R=>oC k r (at1 f n x) R
 | (n,.l _ z)::r,f,R=>∀b,oC k r (at1 f n (.ref b)) ((b,.ak z)::R)
 | (n,.d)::r,f,R=>∀b,oC k r (at1 f n (.ref b)) ((b,.bc [])::R)
section
variable{P:Par}{z:TY}{H w:CH}{c d:ki}{L:EN}
variable(w P c d L) in
def D2(Q:TY):cp (ki×IA)->EN->Prop
 | [],_=>True
 | (n,.v e x)::r,f=>(∀z H,Now w Q P z H->z c=aM (.cA d f)->Ev L H e x)/\D2 Q r (at1 f n x)
 | (n,.l y Y)::r,f=>(∀H,Evs L H y Y)/\∀b,D2 Q r (at1 f n (.ref b))
 | (n,.d)::r,f=>∀b,D2 Q r (at1 f n (.ref b))
theorem W.oC(as:cp (ki×IA))(j:bn d=true)(J:L 0=aM (.ref c))(o:w.free c):∀{z H f R},Now w V P z H->z c=aM (.cA d f)->Mn w z c R->D2 P w c d L V as f->
  oC (λf R=>∀z H,Now w V P z H->z c=aM (.cA d f)->Mn w z c R->ae C M l ⟨H,L⟩ Q X) as f R->ae C M (as.map (λa=>a.2.cs a.1)++l) ⟨H,L⟩ Q X:=by
 induction as with
 | nil=>exact λN g y U h=>h _ _ N g y
 | cons a r O=>
  obtain⟨n,a⟩:=a
  cases a with
  | v e x=>exact λN g y Y h=>W.tL N o g j (.v J) (Y.1 _ _ N g) λU U N g k=>O N g (y.ay k) Y.2 h
  | l B A=>exact λN g y Y h=>W.Fd N o g j J (Y.1 _) λb U U N g p t T k=>O N g (y.put p t T k) (Y.2 b) (h b)
  | d=>exact λN g y Y h=>W.IY N o g j J λb U U N g p t T k=>O N g (y.put p t T k) (Y b) (h b)
end
section
variable{P:Par}{w t0:TY}{H H0:CH}{n:ki}{Q:Rs}
structure D3(f:EN)(nm:Lj)(l:cp Lj)(r:ki)(pc:CV)(b:ki):Prop where
 f0:f 0=none
 f1:f 1=none
 f2:f 2=aM (.str nm)
 f3:f 3=aM (.tup (l.map .str))
 f4:f 4=aM (.int r)
 f8:f 8=aM (.int 0)
 f9:f 9=aM pc
 f11:f 11=aM (.ref b)
def gh{l:cp Lj}(h:l.length<=20):(l.map CV.str).length<=szl:=by erw[h7 _];exact cy h (e0 rfl)
inductive PrI(H0:CH)(t0:TY)(P:Par)(c b:ki)(f:EN)(l:cp Lj)(H':CH)(L:EN):Prop
 | mk (l0:L 0=aM (.ref c)) (ty':TY) (N:Now H0 t0 P ty' H') (g:ty' c=aM (.cA 100 f)) (gb:ty' b=aM (.ak (l.map .str)))
def oG{s:ki}{l:cp Lj}{r:ki}{nm:Lj}(T:au P w H)(hc:H.free c)(hs:w s=aM (.ak (l.map .str)))(S:∀x∈l,x∈bm)(X:l.length<=5)(p:nm.cps.size<=1000000)
(hQ:∀U J f b,Now H w P U J->U c=aM (.cA 100 f)->U b=aM (.ak ((nub [] l).map .str))->H.free b->b≠c->D3 f nm l r O b->Q .none J):ah fF mF (n+1) 62 [.ref c,.int r,.str nm,.ref s,O,.none,.str R,.int 0] (H.cR c 100) Q:=by
 refine T.now.nC (G:=λH=>ah fF mF (n+1) 62 _ H Q) hc λt1 H1 N g h Y=>?_
 refine bK [.ref c,.int r,.str nm,.ref s,O,.none,.str R,.int 0] (d:=dB) rfl rfl rfl rfl λFQ Y o=>?_
 have d:=gh (cy X (by decide:5<=20))
 refine W.oC [(2,.v (.v 2) (.str nm)),(3,.v (.b1 .tuple (.v 3)) (.tup (l.map .str))),(4,.v (.v 1) (.int r)),(5,.v (.v 5) .none),(6,.v (.c .none) .none),(7,.v (.v 6) (.str R)),(8,.v (.v 7) (.int 0)),(9,.v (.v 4) O),(10,.v (.b1 .len (.at (.v 0) 3)) (.int (l.map CV.str).length)),(11,.l [] [])] rfl rfl h N g .nil
  ⟨λY Y Y Y=>.v rfl,λY Y N Y=>.tuple (.v rfl) (N.T.gL (N.get T hs)) d,λY Y Y Y=>.v rfl,λY Y Y Y=>.v rfl,λY Y Y Y=>.c,λY Y Y Y=>.v rfl,λY Y Y Y=>.v rfl,λY Y Y Y=>.v rfl,λY Y N g=>.x7 (.att (.v rfl) (N.T.oat g rfl rfl)) d,λY=>.nil,λY=>trivial⟩ λb t z2 N g Z=>?_
 obtain⟨j,V,G⟩:=Z.at 0 rfl
 obtain⟨f,g,F⟩:∃f,t c=aM (.cA 100 f)/\D3 f nm l r O b:=⟨_,g,rfl,rfl,rfl,rfl,rfl,rfl,rfl,rfl⟩
 refine frT (ys:=l) (f:=.str) (I:=λi=>PrI H w P c b f (nub [] (l.take i))) (.att (.v rfl) (N.T.oat g rfl F.f3)) ⟨rfl,t,N,g,j⟩ ?_ ?_
 ·rintro i x C L K B ⟨v,a,N,g,j⟩ hK
  have u:=S x (od B)
  have A:∀y∈nub [] (l.take i),aZ y:=λy hy=>aI (S y (P1 ((gG.mp hy).resolve_left Le)))
  have D:nub [] (l.take (i+1))=if x∈nub [] (l.take i) then nub [] (l.take i) else nub [] (l.take i)++[x]:=by(erw[Mr];erw[B]);exact tP
  have E:i5 C (.ref c) 11=aM (.ref b):=N.T.oat g rfl F.f11
  refine W.rX (.cm (.v rfl) (.att (.v v) E) (lh (dT (N.T.gL j) A (aI u)))) (λhn=>?_) λq=>W.nil (hK.nxt ⟨v,a,N,g,by(erw[D];erw[K2 q]);exact j⟩)
  refine W.f7 N G j (.att (.v v) E) (.v rfl) (eF (m:=20) ?_ (e0 rfl)) λz0 z3 N z1 k=>W.nil (hK.nxt ⟨v,z0,N,k _ _ (Ma V) g,by(erw[D];erw[E1 hn];erw[LP]);exact z1⟩)
  erw[h7 _]
  exact cy (D1 (l.take i) []) (cy (p8 (OQ _)) (cy (Ox i l) (cy X (by decide))))
 rintro C L ⟨v,a,N,g,j⟩
 rw[Mh] at j
 refine W.oC [(12,.l [] []),(13,.v (.c .none) .none)] rfl v h N g (.one j V G) ⟨λY=>.nil,λY=>⟨λY Y Y Y=>.c,trivial⟩⟩ λb2 I z4 N g Z=>?_
 obtain⟨e,g,F⟩:∃e,I c=aM (.cA 100 e)/\D3 e nm l r O b:=⟨_,g,F.f0,F.f1,F.f2,F.f3,F.f4,F.f8,F.f9,F.f11⟩
 have M:∀s U J,Now H w P U J->U c=aM (.cA 100 λm=>if m=14 then aM (.str s) else e m)->Kp c I U->ae (ah fF mF n) mF [] ⟨J,L⟩ (bq (ah fF mF n) mF [] FQ FX) FX:=λs U J N g k=>W.nil (o (hQ U J _ b N g (k _ _ V (Z.at 1 rfl).t) G V ⟨F.f0,F.f1,F.f2,F.f3,F.f4,F.f8,F.f9,F.f11⟩))
 refine W.ite (.att (.v v) (N.T.oat g rfl F.f3)) rfl (λz5=>?_) λz6=>?_
 ·exact W.Fg N h g rfl (.v v) (.jj (.att (.v v) (N.T.oat g rfl F.f2)) p .c rfl (.att (.v v) (N.T.oat g rfl F.f3)) (eF X (by decide)) λz d=>eF (vt z (S z d)).1.1 (by decide)) M
 ·exact W.Fg N h g rfl (.v v) (.md .c (.att (.v v) (N.T.oat g rfl F.f2)) p) M
structure KG(f:EN)(R:cp aE)(r d b:ki):Prop where
 f2:f 2=aM (.str (lhs R r))
 f3:f 3=aM (.tup (((rhs R r).take d++pt::(rhs R r).drop d).map .str))
 f4:f 4=aM (.int r)
 f10:f 10=aM (.int ((rhs R r).length+1:ki))
 f11:f 11=aM (.ref b)
 f15:f 15=aM (.int d)
 no:∀k,42<=k->f k=none
def vx{p:ki}{d:ki}(T:au P w H)(I:H.free c)(y:w p=aM (.cJ r))(O:(rhs P.R r).length<=5)(M:d<=(rhs P.R r).length)
(h:∀U A f b,Now H w P U A->U c=aM (.cA 135 f)->U b=aM (.us r)->KG f P.R r d b->Q .none A):ah fF mF (n+1) 118 [.ref c,.ref p,.int d] (H.cR c 135) Q:=by
 refine T.now.nC (G:=λH=>ah fF mF (n+1) 118 _ H Q) I λR S N g j X=>?_
 refine bK [.ref c,.ref p,.int d] (d:=iy) rfl rfl rfl rfl λZ z v=>?_
 have o:∀{l L},Now H w P l L->A7 P.toPK P.toPI P.toPM l (aY L p) p r:=λN=>N.T.pd (N.get T y)
 refine W.tL N j g rfl (.v rfl) (.att (.v rfl) (N.T.pat (N.get T y) (o N).a2)) λl L N g z=>?_
 have s:(rhs P.R r).length+1<=szl:=cy (Lw O) (e0 rfl)
 refine W.GW N j g rfl rfl (.att (.v rfl) (N.T.pat (N.get T y) (o N).a3)) (gh (cy O (by decide))) λb K G N g t D V z=>?_
 refine W.oC [(4,.v (.at (.v 1) 4) (.int r)),(15,.v (.v 2) (.int d)),(16,.d)] rfl rfl j N g (.one t V D) ⟨λz z N z=>.att (.v rfl) (N.T.pat (N.get T y) (o N).a4),λz z z z=>.v rfl,λz=>trivial⟩ λe q H6 N g m=>?_
 have Y:(((rhs P.R r).map CV.str).take d++CV.str (u 110)::((rhs P.R r).map CV.str).drop d).length=(rhs P.R r).length+1:=by
  (erw[Ng TB];erw[Ng QH];erw[GE];erw[NN];erw[h7 _];erw[h7 _];rewrite[← NV];erw[Ng GE];exact LH (Rl _ _) rfl)
 have J:=cy (p8 Y) s
 refine W.GX N D (m.at 1 rfl).t (.att (.v rfl) (N.T.oat g rfl rfl)) (.v rfl) .c (by erw[h7 _];exact M) (by erw[h7 _];exact eF O (by decide)) λt7 H7 N t E=>?_
 refine W.tL N j (E _ _ (Ma V) g) rfl (.v rfl) (.tuple (.att (.v rfl) (N.T.oat (E _ _ (Ma V) g) rfl rfl)) (N.T.gL t) J) λt8 H8 N g z=>?_
 refine W.tL N j g rfl (.v rfl) (.x7 (.att (.v rfl) (N.T.oat g rfl rfl)) J) λt9 H9 N g z=>?_
 refine oEA ((o N).a11) λi x C=>?_
 refine W.tL N j g rfl (.v rfl) (.att (.v rfl) (N.T.pat (N.get T y) x)) λB a N F k=>?_
 refine v (h B a _ i N F ((k.nn g) C) ⟨rfl,?_,rfl,?_,rfl,rfl,hi1 (hi1 (hi1 (hi1 (hi1 (hi1 (hi1 (hi1 (λz z=>rfl) rfl) rfl) rfl) rfl) rfl) rfl) rfl) rfl⟩)
 ·show aM (CV.tup _)=_
  (erw[LP];erw[Nv];erw[TB];erw[QH])
  rfl
 ·exact dd (λk:ki=>aM (CV.int k)) Y
def Fh{I:ki}{q:cp Pl}{Q:Ps}(N:Now H0 t0 P w H)(h:w I=aM (.stL q))(J:Ev L H e (.ref I))(r:∀c,H.free c->Q (.ref c) ⟨H.aD c (q.map plC),L⟩):wpE j M (.co (.tu [.at (.v k) 4,.at (.v k) 15]) (.n k) (.val e) []) ⟨H,L⟩ Q X:=by
 refine aA (N.T.st h) λl V U o=>?_
 refine coM (ys:=l.zip q) (λi=>.list I i) (λv y=>.ref y.1) (λv y L=>upd L k (.ref y.1)) (λv v v=>rfl) (bp J (aV V)) (λi=>?_) (by(erw[length_zip];erw[U.len];erw[Nat.min_self _]);exact Mj o (e0 rfl)) (λy=>plC y.2) (λi y L O=>?_) λc f=>?_
 ·have g:H.getL I=aM (((l.zip q).map PZ).map .ref):=by erw[Vl (p8 U.len)];exact aV V
  rw[qD g,Mg,Mg,OY,OY]
  rfl
 ·obtain⟨a,p⟩:=y
  refine oA (getElem?_zip_eq_some.mp O) λt T=>?_
  refine oEA (U.get t) λx Y z=>?_
  rw[T] at Y;cases Y
  exact .tu (.two (.att (.v bg) (N.T.iat z (N.T.it z).a4)) (.att (.v bg) (N.T.iat z (N.T.it z).a15)))
 ·(erw[show(λy:ki×Pl=>plC y.2)=plC∘PY from rfl];erw[Ng Nt];erw[map_snd_zip (p8 U.len.symm)])
  exact r c f
theorem mB{I:ki}{q:cp Pl}(N:Now H0 t0 P w H)(h:w I=aM (.stL q))(U:∀y v,Now H0 t0 P y v->Ka w y->Q (bJ q) v):ah fF mF (n+1) 318 [.ref I] H Q:=by
 refine aA (N.T.st h) λl k j J=>?_
 refine bK [.ref I] (d:=rN) rfl rfl rfl rfl λo z Y=>?_
 refine W.ite (.nt (.v rfl) (oz (aV k))) rfl (λhe=>?_) λY=>W.nil ?_
 ·cases j with
  | nil=>exact W.ret (.tu .nil) (z (U w H N λY Y h=>h))
  | cons=>cases he
 exact W.vv (GS (Fh N h (.v rfl) λc O=>N.nL (G:=λH=>∃l,qU H (.ref c)=aM l/\l.length<=szl/\o (.ret (.tup l)) ⟨H,_⟩) O λp f V g Y L=>⟨_,V.T.gL g,by erw[h7 _];exact y1 (Mj J (e0 rfl)),z (U p f V L.aa)⟩))
end
def rol(d:TY)(l:cp (ki×aK))(a:ki):rt aK:=l.rec (d a) λx Q z=>if a=x.1 then aM x.2 else z
theorem vy{d:TY}{a:ki}{L:cp (ki×aK)}:(∀x∈L,x.1≠a)->rol d L a=d a:=by
 induction L with
 | nil=>exact λw=>rfl
 | cons x L z=>exact λh=>(E1 (Ma (h x fp))).trans (z λy Q=>h y (oo _ Q))
theorem w7{L:cp (ki×aK)}(z:(L.map (·.1)).Nodup):∀x∈L,rol d L x.1=aM x.2:=by
 induction L with
 | nil=>exact λY h=>p7 h Le
 | cons y L w=>
  have z:=Mf.mp z
  refine λx Q=>(ta.mp Q).elim (λe=>e▸K2 rfl) λQ=>(E1 λe:x.1=y.1=>z.1 (p9.mpr ⟨x,Q,e⟩)).trans (w z.2 x Q)
theorem w8{d:TY}{a:ki}:rol d L a=aM ρ->(a,ρ)∈L∨d a=aM ρ:=by
 induction L with
 | nil=>exact .inr
 | cons x L z=>
  refine λ(h:(if a=x.1 then aM x.2 else rol d L a)=aM ρ)=>(Decidable.em (a=x.1)).elim (λe=>?_) λe=>(z ((E1 e).symm.trans h)).imp (oo _) id
  exact .inl (ta.mpr (.inl (MX e (ey ((K2 e).symm.trans h)).symm)))
section
variable{P:Par}{ty t0 z:TY}{H H0:CH}{n b c:ki}{Q:Rs}{L:cp (ki×aK)}{ρ w:aK}
def Sat.IZ:∀{ρ:aK},ρ.own=true->Sat P ty v a ρ->Sat P' z v a ρ:=λ{ρ} o h=>by
 cases ρ <;> first | exact h | cases o
def Mn.fr(v:Mn H0 ty c L){U:cp (ki×aK)}(e:U.map (·.1)=L.map (·.1))(V:H0.free c){x:ki×aK}(Y:x∈(c,ρ)::U):H0.free x.1:=
 (ta.mp Y).elim (λq=>q▸V) λY=>by
  obtain⟨y,k,q⟩:=p9.mp (e▸LL (f:=λz:ki×aK=>z.1) Y)
  exact q▸(v.r y k).fr
def Mn.nd'(Y:Mn H0 ty c L){U:cp (ki×aK)}(e:U.map (·.1)=L.map (·.1)):(((c,ρ)::U).map (·.1)).Nodup:=
 Mf.mpr (e▸⟨λv=>(p9.mp v).elim λy h=>(Y.r y h.1).ne h.2,Y.nd⟩)
def Now.KH(Y:cp (ki×aK))(N:Now H0 t0 P ty H)(y:∀a ρ,t0 a=aM ρ->ρ.own=true)(j:H0.free c)(v:Mn H0 ty c L)(e:Y.map (·.1)=L.map (·.1))
(J:∀z,(∀x∈(c,ρ)::Y,z x.1=aM x.2)->∀x∈(c,ρ)::Y,Sat P' z (aY H x.1) x.1 x.2):∃z,Now H0 t0 P' z H/\z c=aM ρ:=by
 classical
 have V:=w7 (d:=λa=>if H0.free a then none else t0 a) (v.nd' (ρ:=ρ) e)
 refine⟨_,⟨⟨N.T.wf,N.T.f,N.T.s,λa w h=>?_⟩,N.live,λa k=>?_⟩,V _ fp⟩
 ·exact(w8 h).elim (J _ V _) λh=>by
   by_cases U:H0.free a
   ·rw[K2 U] at h;cases h
   ·rw[E1 U] at h
    exact(N.T.sat a w ((N.iF a U).trans h)).IZ (y a w h)
 ·exact(vy λx o (q:x.1=a)=>k (q▸v.fr e j o)).trans (E1 k)
def Mn.dl(h:Mn H0 ty c ((e,ρ)::L))(o:z e=aM w)(O:z b=aM (.ak []))(p:H0.free b)(Y:b≠c)(U:e≠b)(k:∀a ρ,a≠e->ty a=aM ρ->z a=aM ρ/\a≠b):Mn H0 z c ((e,w)::(b,.ak [])::L):=by
 have n:=Mf.mp h.nd
 have v:=λx y=>h.r x (oo _ y)
 have j:∀x∈L,z x.1=aM x.2/\x.1≠b:=λx y=>k _ _ (λq=>n.1 (q▸LL (f:=(·.1)) y)) (v x y).t
 have J:=h.r _ fp
 exact⟨λx y=>(ta.mp y).elim (λq=>q▸⟨o,J.ne,J.fr⟩) λy=>(ta.mp y).elim (λq=>q▸⟨O,Y,p⟩) λy=>⟨(j x y).1,(v x y).ne,(v x y).fr⟩,
  Mf.mpr ⟨λV=>(ta.mp V).elim U n.1,Mf.mpr ⟨λV=>(p9.mp V).elim λx q=>(j x q.1).2 q.2,n.2⟩⟩⟩
namespace W
variable{Q:NE}{X:No}{U L:EN}{k:CE}{j d m:ki}
def I0(N:Now H0 t0 P ty H)(p:ty c=aM (.cA d U))(t:bn d=true)(T:L j=aM (.ref c))(O:U m=aM (.ref e))(V:ty e=aM (.bc Y))(C:H0.free e)(B:∀H,Ev L H k x)(A:x.az=true)(D:Y.length<szl)
(r:∀b z f,Now H0 t0 P z f->z b=aM (.ak [])->z e=aM (.bc (bf Y x (.ref b)))->H0.free b->e≠b->(∀a ρ,a≠e->ty a=aM ρ->z a=aM ρ/\a≠b)->ae y M l ⟨f,L⟩ Q X):ae y M (.asg (.ix (.at (.v j) m) k) (.li [])::l) ⟨H,L⟩ Q X:=
 λb E=>N.nL (G:=λH=>wpE y M (.at (.v j) m) ⟨H,L⟩ (λo st=>wpE y M k st (λk st=>∃a Y,o=.ref a/\st.H.dct a=aM Y/\k.az=true/\Y.length<szl/\ae y M l { st with H:=st.H.bo a (bf Y k (.ref b)) } Q X) X) X) E λZ I J s i v=>
  (Ev.att (.v T) (eh (J.T.C (v _ _ p).1) t ((J.T.A (v _ _ p).1 m).trans O))) _ _ _ _ (B I _ _ _ _ ⟨e,Y,rfl,J.T.D (v _ _ V).1,A,D,
   J.oD (G:=λH=>ae y M l ⟨H,L⟩ Q X) C (v _ _ V).1 λF R S W g=>r b F R S (g _ _ (Ma (v _ _ V).2) s) W i (v _ _ V).2 λa ρ O h=>⟨g _ _ O (v _ _ h).1,(v _ _ h).2⟩⟩)
def I1(N:Now H0 t0 P ty H)(f:H0.free c)(g:ty c=aM (.cA d U))(o:bn d=true)(O:L j=aM (.ref c))
(r:∀v z V,Now H0 t0 P z V->z c=aM (.cA d λk=>if k=m then aM v else U k)->Kp c ty z->ae y M l ⟨V,L⟩ Q X):ae y M (.asg (.at (.v j) m) .sx::l) ⟨H,L⟩ Q X:=
 λb J=>⟨_,O,c,d,rfl,(N.IU J).T.C g,o,(N.IU J).oA (G:=λH=>ae y M l ⟨H,L⟩ Q X) f g (r (.ref b))⟩
end W
structure TI(H0:CH)(t0:TY)(P:Par)(c t aT:ki)(f0:EN)(Lr:cp (ki×aK))(ks:cp Lj)(ty:TY)(H:CH)(es:cp (CV×CV))(is:cp ki):Prop where
 N:Now H0 t0 P ty H
 g:ty c=aM (.cA 283 f0)
 ht:ty t=aM (.ak [.str sa,.str sb])
 ho:Mn H0 ty c ((aT,.bc es)::(Lr++is.map λb=>(b,.ak [])))
 kk:es.map (·.1)=ks.map .str
 vs:∀p∈es,∃b∈is,p.2=.ref b
def tQ{Q:NE}{L:EN}(I:TI H0 t0 P c t Y J C U ty H B a)(A:J 20=aM (.ref Y))(D:t≠Y)(E:L 0=aM (.ref c))(s:∀H,Ev L H k (.str x))(d:x∈bm)(m:x∉U)(i:U.length<10)
(r:∀z v o O,TI H0 t0 P c t Y J C (U++[x]) z v o O->ae T M l ⟨v,L⟩ Q X):ae T M (.asg (.ix (.at (.v 0) 20) k) (.li [])::l) ⟨H,L⟩ Q X:=by
 have V:=I.ho.r _ fp
 have F:CV.str x∉B.map (·.1):=by erw[I.kk];exact λh=>(p9.mp h).elim λy h=>m (CV.str.inj h.2▸h.1)
 refine W.I0 I.N I.g rfl E A V.t V.fr s (ba x d) ?_ λb z v N R S Z f j=>r z v _ (b::a) ⟨N,(j _ _ (Ma V.ne) I.g).1,(j _ _ D I.ht).1,(I.ho.dl S R Z (Ma (j _ _ (Ma V.ne) I.g).2) f j).perm (.cons _ perm_middle.symm),?_,λp g=>?_⟩
 ·have:=dd Nc I.kk
  rw[h7,h7] at this
  erw[this];exact rf i (e0 rfl)
 ·(erw[iW];erw[E1 F];erw[I.kk];erw[LP]);rfl
 ·rcases bV g with g | rfl
  ·refine oEA (I.vs p g) λK G e=>?_;exact⟨K,oo _ G,e⟩
  ·exact⟨b,fp,rfl⟩
inductive TIi(H0:CH)(t0:TY)(P:Par)(c t aT:ki)(f0:EN)(Lr:cp (ki×aK))(ks:cp Lj)(H:CH)(L:EN):Prop
 | mk (l0:L 0=aM (.ref c)) (ty:TY) (es:cp (CV×CV)) (is:cp ki) (I:TI H0 t0 P c t aT f0 Lr ks ty H es is)
def vz{c t:ki}(T:au P ty H)(B:∀a ρ,ty a=aM ρ->ρ.own=true)(hc:H.free c)(O:ty t=aM (.ak [.str sa,.str sb]))
(hQ:∀z f (A:PA),Now H ty { R:=R,toPA:=A } z f->A.gr=c->A.nk=none->z c=aM .bX->Q .none f):ah fF mF (n+1) 172 [.ref c,.ref t] (H.cR c 283) Q:=by
 refine T.now.nC (G:=λH=>ah fF mF (n+1) 172 _ H Q) hc λt1 H1 N g E k1=>?_
 refine bK [.ref c,.ref t] (d:=gT) rfl rfl rfl rfl λFQ Y j=>?_
 refine W.oC [(17,.l [.c .none] [.none]),(18,.d),(19,.d),(20,.d)] rfl rfl E N g .nil ⟨λY=>.cons .c .nil,λY Y Y Y=>trivial⟩ λaP aPn aPm aT t5 H5 N g y=>?_
 have F:=O
 replace O:=N.get T O
 have M:t≠aT:=T.ne F (y.at 0 rfl).fr
 clear k1
 obtain⟨U,g,S,X,Z,J,G⟩:∃U,t5 c=aM (.cA 283 U)/\U 17=aM (.ref aP)/\U 18=aM (.ref aPn)/\U 19=aM (.ref aPm)/\U 20=aM (.ref aT)/\∀k,42<=k->U k=none:=⟨_,g,rfl,rfl,rfl,rfl,hi1 (hi1 (hi1 (hi1 (λY Y=>rfl) rfl) rfl) rfl) rfl⟩
 have I:TI H ty P c t aT U [(aPm,.bc []),(aPn,.bc []),(aP,.ak [.none])] [] t5 H5 [] []:=⟨N,g,O,y,rfl,aO⟩
 clear N g O y
 refine frL (ys:=[sa,sb]) (f:=.str) (I:=λi=>TIi H ty P c t aT U [(aPm,.bc []),(aPn,.bc []),(aP,.ak [.none])] ([sa,sb].take i)) (.v rfl) ⟨rfl,_,_,_,I⟩ (λi f L h=>h.casesOn λY Y Y Y I=>I.N.T.gL I.ht) ?_ ?_
 ·rintro i x f L K l ⟨o,z,C,is,I⟩ hK
  have ex:[sa,sb].take (i+1)=[sa,sb].take i++[x]:=by(erw[Mr];erw[l]);rfl
  have hf:x∈bm/\x∉[sa,sb].take i:=by
   cases i with
   | zero=>obtain rfl:=ey l;decide
   | succ i=>cases i with
    | zero=>obtain rfl:=ey l;decide
    | succ i=>exact nos l
  exact tQ I J M o (λY=>.v rfl) hf.1 hf.2 (eF (Ox i [sa,sb]) (by decide)) λz f u w I=>hK.nxt ⟨o,z,u,w,ex▸I⟩
 rintro f L ⟨o,z,C,is,I⟩
 refine tQ I J M o (λY=>.c) (x:=vf) (by decide) (by decide) (by decide) λt6 H6 C is I=>?_
 obtain⟨N,g,O,y,z0,z1⟩:=I
 refine W.oC [(21,.d),(22,.d),(23,.d),(24,.d)] rfl o E N g y (λY Y Y Y=>trivial) λaN aF aFo aPr z3 z4 N g y=>?_
 refine W.I1 N E g rfl o λv z5 z6 N g k=>?_
 replace y:=y.ay k
 clear k
 refine W.tL N E g rfl (.v o) .c λz2 s N g k=>?_
 replace y:=y.ay k
 clear k
 have D:=λ{C b} (h:MnE H z2 c (b,.bc C))=>N.T.D h.t
 have A:=N.T.A g
 obtain⟨z,N',q1⟩:=N.KH (ρ:=.bX) (P':={ R:=R,gr:=c,aP:=aP,aPn:=aPn,aPm:=aPm,aT:=aT,aN:=aN,aF:=aF,aFo:=aFo,aPr:=aPr })
  ([(aPr,.prec),(aFo,.pw),(aF,.pu),(aN,.gV),(aT,.lS),(aPm,.tH),(aPn,.names),(aP,.jd)]++is.map λb=>(b,.j6)) B E y (by
   show _::_::_::_::_::_::_::_::(is.map λb=>(b,aK.j6)).map _=_::_::_::_::_::_::_::_::(is.map λb=>(b,aK.ak [])).map _
   (erw[Nt];erw[Nt]);rfl)
  λz q=>by
   have V:=λi (x:ki×aK) (e:((c,aK.bX)::([(aPr,.prec),(aFo,.pw),(aF,.pu),(aN,.gV),(aT,.lS),(aPm,.tH),(aPn,.names),(aP,.jd)]++is.map λb=>(b,.j6)))[i]?=aM x)=>q x (od e)
   have qi:∀b∈is,z b=aM .j6:=λb hb=>q (b,.j6) (oo _ (Ll _ (LL hb)))
   refine Al.app (α:=ki×aK) (p:=λx=>Sat _ z (aY s x.1) x.1 x.2) (l:=[(c,.bX),(aPr,.prec),(aFo,.pw),(aF,.pu),(aN,.gV),(aT,.lS),(aPm,.tH),(aPn,.names),(aP,.jd)])
    ⟨⟨rfl,N.T.C g,⟨(A 17).trans S,V 8 _ rfl⟩,⟨(A 18).trans X,V 7 _ rfl⟩,⟨(A 19).trans Z,V 6 _ rfl⟩,⟨(A 20).trans J,V 5 _ rfl⟩,⟨A 21,V 4 _ rfl⟩,⟨A 22,V 3 _ rfl⟩,⟨A 23,V 2 _ rfl⟩,⟨A 24,V 1 _ rfl⟩,λk hk=>(A k).trans (hi1 (hi1 (hi1 (hi1 (hi1 (hi1 G rfl) rfl) rfl) rfl) rfl) rfl k hk)⟩,
     D (y.at 0 rfl),⟨rfl,[],D (y.at 1 rfl),⟨aO,LR⟩,λY=>rfl,ff⟩,⟨rfl,[],D (y.at 2 rfl),⟨aO,LR⟩,λY=>rfl,ff⟩,⟨rfl,[],D (y.at 3 rfl),⟨aO,LR⟩,λi d m=>p7 d (QU m),(by intro i h;injection h)⟩,
     ⟨C,D (y.at 4 rfl),z0,λp hp=>(z1 p hp).imp λb h=>⟨h.2,qi b h.1⟩⟩,⟨rfl,[],D (y.at 5 rfl),Nat.zero_lt_one,aO⟩,⟨rfl,[],D (y.at 6 rfl),⟨aO,LR⟩,λi d m=>p7 d (QU m)⟩,
     ⟨rfl,N.T.L (y.at 7 rfl).t,λi d m=>p7 d (m.elim (λh=>NP h) OG)⟩,trivial⟩
    λx l=>?_
   refine oEA (p9.mp l) λb hb r=>?_;subst r
   exact⟨[],N.T.L (y.r (b,.ak []) (Ll [(aPr,aK.bc []),(aFo,.bc []),(aF,.bc []),(aN,.bc []),(aT,.bc C),(aPm,.bc []),(aPn,.bc []),(aP,.ak [.none])] (LL hb))).t,Lp _⟩
 exact j (hQ z s _ N' rfl rfl q1)
end
structure aj(R:cp aE):Prop where
 len:4<=R.length/\R.length<=5
 r0:R[0]?=aM (sP,[sS])
 nm:∀r,1<=r->r<R.length->lhs R r∈aC
 sym:∀r x,x∈rhs R r->x∈bm
 fst:∀r x,1<=r->(rhs R r)[0]?=aM x->x∈jq
 ln:∀r,(rhs R r).length<=2
 has:∀x∈aC,∃r,1<=r/\r<R.length/\lhs R r=x
 nd:∀i j,1<=i->1<=j->i<R.length->j<R.length->lhs R i=lhs R j->rhs R i=rhs R j->i=j
def aj.pos(G:aj R):0<R.length:=rf (MO 3) G.len.1
def aj.one{R:cp aE}(G:aj R):1<R.length:=rf (PW (MO 2)) G.len.1
def dU{R:cp aE}{r:ki}(h:R[r]?=aM x):lhs R r=x.1:=dd (λo=>(My (λx:aE=>x.1) o).getD (u 1)) h
def gH{R:cp aE}{r:ki}(h:R[r]?=aM x):rhs R r=x.2:=dd (λo=>(My (λx:aE=>x.2) o).getD []) h
def Bl{R:cp aE}{r:ki}(h:R.length<=r):rhs R r=[]:=dd (λo=>(My (λx:aE=>x.2) o).getD []) (Md h)
def lk(h:Rows z)(r:ki):dS 2 (rhs z r):=
 (Oj r z.length).elim (λq=>gH (o2 q)▸(h.A4 _ (MS q)).2) λq=>Bl q▸⟨Lp _,aO,λQ=>nos⟩
def D4(h:Rows z):aj ((sP,[sS])::z) where
 len:=⟨Lw h.len.1,Lw h.len.2⟩
 r0:=rfl
 nm:=λr=>r.casesOn (λh=>p7 h (Nf 0)) λr Q q=>by
  have q:=Ny q
  exact(show lhs ((sP,[sS])::z) (r+1)=_ from dU (R:=z) (o2 q))▸(h.A4 _ (MS q)).1
 sym:=λr=>r.casesOn (λx w=>n2.mp (show x∈[sS] from w)▸by decide) λr=>(lk h r).2.1
 fst:=λr=>r.casesOn (λx h=>p7 h (Nf 0)) λr x Q=>(lk h r).2.2 x
 ln:=λr=>r.casesOn (MA 1) λr=>(lk h r).1
 has:=λx w=>by
  have Y:=λ{i} (q:i<3)=>PW (rf q h.len.1)
  rcases ta.mp w with rfl | w
  ·exact h.r0.elim λQ e=>⟨1,Lf 1,Y (by decide),dU (R:=z) e⟩
  rcases ta.mp w with rfl | w
  ·exact h.r1.elim λQ e=>⟨2,MA 1,Y (by decide),dU (R:=z) e⟩
  exact n2.mp w▸h.r2.elim λQ e=>⟨3,OV 1 2,Y (by decide),dU (R:=z) e⟩
 nd:=λi j=>i.casesOn (λh=>p7 h (Nf 0)) λi=>j.casesOn (λQ h=>p7 h (Nf 0)) λj Q Q y U v V=>by
  have y:=Ny y
  have a:=o2 y
  have b:=o2 (Ny U)
  exact dd Pj ((Py y h.nd).mp (a.trans ((dd aM (MX ((dU a).symm.trans (SE v (dU b))) ((gH a).symm.trans (SE V (gH b))))).trans b.symm)))
section
variable{R:cp aE}
def oH{p:Pl}(h:(rhs R p.1)[p.2]?=aM x):after R p=(Lk R.length).filter λr=>decide (1<=r/\lhs R r=x):=by unfold after;exact LH h rfl
def oI{p:Pl}(h:(rhs R p.1)[p.2]?=none):after R p=[]:=by unfold after;exact LH h rfl
theorem ef{p:Pl}{r:ki}:r∈after R p↔r<R.length/\1<=r/\(rhs R p.1)[p.2]?=aM (lhs R r):=by
 cases h:(rhs R p.1)[p.2]? with
 | none=>erw[oI h];exact X0 Le λq=>nos q.2.2
 | some x=>
  (erw[oH h];rewrite[MC,LI])
  exact Pu λz=>(QN).trans (Pu λz=>⟨λe=>dd aM e.symm,λe=>(ey e).symm⟩)
theorem oJ(p:Pl):(after R p).Nodup:=by
 cases h:(rhs R p.1)[p.2]? with
 | none=>erw[oI h];exact LR
 | some x=>erw[oH h];exact PN.filter _
def left(R:cp aE)(ad:cp ki):Nat:=((Lk R.length).filter λr=>decide (r∉ad)).length
def kj{ad:cp ki}{r:ki}:r∈(Lk R.length).filter (λr=>decide (r∉ad))↔r<R.length/\r∉ad:=MC.trans (and_congr LI QN)
def Bm{ad new:cp ki}(Q:new.Nodup)(h:∀r∈new,r<R.length/\r∉ad):left R (ad++new)+new.length<=left R ad:=
 cy (p8 GE.symm) (br (M8.mpr ⟨PN.filter _,Q,λa w b y e=>(kj.mp w).2 (Ll _ (e▸y))⟩)
  λr z=>kj.mpr ((LB.mp z).elim (λz=>⟨(kj.mp z).1,λq=>(kj.mp z).2 (LD _ q)⟩) (h r)))
def Bn:left R []=R.length:=(dd Nc (Qd.mpr λz z=>rfl)).trans LJ
def fA(R:cp aE)(ad:cp ki)(j:Pl):cp Nat:=(after R j).filter λr=>decide (r∉ad)
def w9{ad:cp ki}:(fA R ad j).Nodup:=(oJ j).filter _
def dW{ad:cp ki}{r:ki}:r∈fA R ad j↔r∈after R j/\r∉ad:=MC.trans (Pu λz=>QN)
def qH{ad:cp ki}:left R (ad++fA R ad j)+(fA R ad j).length<=left R ad:=
 Bm w9 λr z=>⟨(ef.mp (dW.mp z).1).1,(dW.mp z).2⟩
def Fwd(R:cp aE)(S:Pl->Prop):Prop:=∀p,S p->∀r∈after R p,S (r,0)
abbrev at0(l:cp ki):cp Pl:=l.map λr=>(r,0)
def qI{f:ki}{ad:cp ki}:j4 R (f+1) ad (j::t)=j::j4 R f (ad++fA R ad j) (t++at0 (fA R ad j)):=rfl
def iX{f:ki}{ad:cp ki}(h:(j::t).length+left R ad<=f+1):(t++at0 (fA R ad j)).length+left R (ad++fA R ad j)<=f:=by
 (erw[GE];erw[h7 _];rewrite[NV];erw[Nk (fA R ad j).length _])
 exact cy (Ls qH _) (Nz (cy (p8 (Rc _ _).symm) h))
structure I2(R:cp aE)(ad:cp ki)(p:Pl):Prop where
 z:p.2=0
 n:p.1∉ad
 o:1<=p.1
 l:p.1<R.length
def ye{ad:cp ki}{p:Pl}(h:p∈at0 (fA R ad j)):I2 R ad p:=by
 refine oEA (p9.mp h) λr Q z=>?_;subst z
 have w:=ef.mp (dW.mp Q).1
 exact⟨rfl,(dW.mp Q).2,w.2.1,w.1⟩
theorem xa(f:ki):∀(ad:cp ki) (t:cp Pl),t.length+left R ad<=f->∃ex:cp Pl,j4 R f ad t=t++ex/\(∀p∈ex,I2 R ad p)/\ex.Nodup:=by
 induction f with
 | zero=>exact λad t h=>(Mq (QG.mp (cy (LA _ _) h)))▸⟨[],rfl,aO,LR⟩
 | succ f y=>
  intro ad t h
  cases t with
  | nil=>exact⟨[],rfl,aO,LR⟩
  | cons j t=>
   refine aA (y _ _ (iX h)) λex Y Q U=>?_
   refine⟨at0 (fA R ad j)++ex,(dd (j::·) Y).trans (dd (j::·) (M9 _ _ _)),λp z=>(LB.mp z).elim ye λz=>⟨(Q p z).z,λq=>(Q p z).n (LD _ q),(Q p z).o,(Q p z).l⟩,M8.mpr ⟨Rf _ (λa b w q=>w (dd PZ q)) w9,U,λa v b V q=>?_⟩⟩
   refine oEA (p9.mp v) λr k e=>?_
   exact(Q b V).n (Ll _ (q▸e▸k))
def tR{f:ki}{ad:cp ki}{t:cp Pl}(h:t.length+left R ad<=f){p:Pl}(z:p∈t):p∈j4 R f ad t:=(xa f ad t h).elim λQ e=>e.1▸LD _ z
theorem Bo(f:ki):∀(ad:cp ki) (t:cp Pl),t.length+left R ad<=f->∀j∈j4 R f ad t,∀r∈after R j,r∈ad∨(r,0)∈j4 R f ad t:=by
 induction f with
 | zero=>exact λad t h j w=>p7 w Le
 | succ f Y=>
  intro ad t h
  cases t with
  | nil=>exact λU w=>p7 w Le
  | cons j t=>
   erw[qI]
   have Q:∀r,r∈ad++fA R ad j->r∈ad∨(r,0)∈j::j4 R f (ad++fA R ad j) (t++at0 (fA R ad j)):=λr z=>(LB.mp z).imp_right λz=>oo _ (tR (iX h) (Ll _ (LL z)))
   exact λi y r z=>(ta.mp y).elim (λe=>Q r (TU (p:=r∈ad) (LD _) λq=>Ll _ (dW.mpr ⟨e▸z,q⟩))) λy=>(Y _ _ (iX h) i y r z).elim (Q r) λh=>.inr (oo _ h)
theorem Bp(y:Fwd R S)(f:ki):∀(ad:cp ki) (t:cp Pl),(∀p∈t,S p)->∀p∈j4 R f ad t,S p:=by
 induction f with
 | zero=>exact λQ Q Q Q z=>p7 z Le
 | succ f Y=>
  intro ad t w
  cases t with
  | nil=>exact λQ z=>p7 z Le
  | cons j t=>exact λp z=>(ta.mp z).elim (λe=>e▸w j fp) (Y _ _ (λp z=>(LB.mp z).elim (λz=>w p (oo _ z)) λz=>(p9.mp z).elim λr q=>q.2▸y j (w j fp) r (dW.mp q.1).1) p)
def oK(I:cp Pl):I.length+left R []<=I.length+R.length+1:=Bn (R:=R)▸MA _
def r5(I:cp Pl):Fwd R (·∈clo R I):=λp z r Q=>(Bo _ _ _ (oK I) p z r Q).resolve_left Le
def mC{I:cp Pl}(z:Fwd R S)(h:∀p∈I,S p):∀p∈clo R I,S p:=Bp z _ _ _ h
def kl{I:cp Pl}{p:Pl}(h:p∈I):p∈clo R I:=tR (oK I) h
def kr:clo R []=[]:=by
 unfold clo;cases R.length <;> rfl
def iY(I:cp Pl):∃ex:cp Pl,clo R I=I++ex/\(∀p∈ex,p.2=0/\1<=p.1/\p.1<R.length)/\ex.Nodup:=
 (xa _ _ _ (oK (R:=R) I)).imp λex h=>⟨h.1,λp z=>⟨(h.2.1 p z).z,(h.2.1 p z).o,(h.2.1 p z).l⟩,h.2.2⟩
def vA:clo R I=[]↔I=[]:=⟨λh=>(iY (R:=R) I).elim λz e=>(TT.mp (e.1.symm.trans h)).1,λh=>by erw[h];exact kr⟩
def bv{q:cp Pl}{p:Pl}:p∈moves R q x↔∃d,p.2=d+1/\(p.1,d)∈q/\(rhs R p.1)[d]?=aM x:=by
 refine Qs.trans ⟨λh=>h.elim λa h=>?_,λh=>h.elim λd h=>⟨(p.1,d),h.2.1,(K2 h.2.2).trans (dd aM (MX rfl h.1.symm))⟩⟩
 by_cases e:(rhs R a.1)[a.2]?=aM x
 ·obtain rfl:=ey ((K2 e).symm.trans h.2)
  exact⟨a.2,rfl,h.1,e⟩
 ·exact nos ((E1 e).symm.trans h.2)
def oM{q:cp Pl}(h:q.Nodup):(moves R q x).Nodup:=by
 refine WQ _ (λa b w c Q d y e=>w ?_) h
 have z:∀{a c:Pl},(if (rhs R a.1)[a.2]?=aM x then aM (a.1,a.2+1) else none)=aM c->(a.1,a.2+1)=c:=λ{a c} Q=>by
  by_cases e:(rhs R a.1)[a.2]?=aM x
  ·exact ey ((K2 e).symm.trans Q)
  ·exact nos ((E1 e).symm.trans Q)
 have e:=Ra ((z Q).trans (e.trans (z y).symm))
 exact MX e.1 (Oa e.2)
def r6{I:cp Pl}(h:I.Nodup)(w:∀p∈I,p.2=0->p.1=0):(clo R I).Nodup:=by
 refine aA (iY (R:=R) I) λU e z y=>?_
 erw[e]
 exact M8.mpr ⟨h,y,λa Y b Q q=>p7 (w a Y (q▸(z b Q).1)) (MW (q▸(z b Q).2.1))⟩
end
def Par.wk(P:Par)(K:PK):Par:={ P with toPK:=K }
def PK.ktU(K:PK):PK:={ K with kt:=K.k+1 }
def PK.cU(K:PK)(n:ki):PK:={ K with c:=K.c+n }
def PK.prU(K:PK)(p:ki):PK:={ K with k:=K.k+1,pr:=λi=>if i=K.k then p else K.pr i }
def PK.kqU(K:PK):PK:={ K with kq:=K.k }
def PK.kmU(K:PK):PK:={ K with km:=K.k }
def PK.knU(K:PK)(f:Lj->ki):PK:={ K with kn:=K.k,aNm:=f }
structure KS(K K':PK):Prop where
 R:K'.R=K.R
 z:K.z=true->K'.z=true
 k:K.k<=K'.k
 c:K.c<=K'.c
 pr:∀i,i<K.k->(1<=i∨K.z=true)->K'.pr i=K.pr i
section
variable{P P':Par}{Y v w:TY}{H z U:CH}{n b c e:ki}{Q:Rs}{ρ y:aK}
def D5{f g:ki->ki}{y:Lj}{n k:ki}(h:∀i,i<k->1<=i->f i=g i)(j:n<=k):(((Lk n).filter λr=>decide (1<=r/\lhs R r=y)).map λi=>CV.ref (f i))=((Lk n).filter λr=>decide (1<=r/\lhs R r=y)).map λi=>CV.ref (g i):=
 O9 λi V=>dd CV.ref (h i (rf (LI.mp (MC.mp V).1) j) (p6 (MC.mp V).2).1)
set_option tactic.hygienic true in
theorem Sat.upK{v:Ob}{K:PK}:∀{ρ:aK},KS P.toPK K->P.kq<=P.k/\0<P.k->P.kn<=P.k->(ρ=.jd->K.kq=P.kq/\K.z=P.z)->(ρ=.names->K.kn=P.kn)->(∀x,ρ=.iB x->K.kn=P.kn/\K.aNm=P.aNm)->(ρ=.tH->K.km=P.km)->(ρ=.gV->K.kt=P.kt)->Sat P Y v a ρ->Sat (P.wk K) Y v a ρ:=λ{ρ} s j L t T C B N h=>by
 obtain⟨R,k,M,m,F,S,z,A,c,pr⟩:=K
 obtain⟨rfl,o,O,D,V⟩:=s
 replace V:∀i,i<P.k->(1<=i∨P.z=true)->pr i=P.pr i:=V
 replace o:P.z=true->z=true:=o
 cases ρ
 case jd=>
  refine oA (t rfl) λf g=>?_
  cases f;cases g
  refine⟨h.1,h.2.1.trans (dd aM ?_),λi a b=>(show Y (pr i)=_ from(V i (rf a j.1) b.symm).symm▸h.2.2 i a b)⟩
  show _=(if P.z=true then CV.ref (pr 0) else .none)::(OL 1 (P.kq - 1)).map λi=>.ref (pr i)
  refine congr (dd List.cons ?_) (O9 λi J=>dd CV.ref (V i ?_ (.inl (Pw.mp J).1)).symm)
  ·split
   ·exact LH (V 0 j.2 (.inr (by assumption))) rfl
   ·rfl
  ·exact rf (Pw.mp J).2 (cy (p8 (Nk 1 _)) (Nat.succ_le_of_lt (eF (Nat.sub_le_sub_right j.1 1) (Nat.sub_lt j.2 Nat.one_pos))))
 case names=>cases T rfl;exact h
 case iB x=>
  refine oA (C x rfl) λf g=>?_
  cases f;cases g
  exact⟨h.1,h.2.1.trans (dd aM (D5 (λi J E=>(V i J (.inl E)).symm) L)),λi a b=>(show Y (pr i)=_ from(V i (rf a L) (.inl b)).symm▸h.2.2.1 i a b),h.2.2.2⟩
 case tH=>cases B rfl;exact h
 case gV=>cases N rfl;exact h
 case j6=>exact h.imp λl h=>⟨h.1,cy h.2 D⟩
 case cJ r=>exact{ h with pr:=h.pr.trans (V r h.rk.1 h.rk.2).symm,rk:=⟨rf h.rk.1 O,h.rk.2.imp id o⟩ }
 case item r d=>exact{ h with rk:=rf h.rk O }
 case iD x p=>exact h.imp λW h=>⟨h.1,λe I=>(h.2.1 e I).imp id λz=>z.imp λr z=>z.imp λd z=>⟨rf z.1 O,z.2⟩,h.2.2⟩
 all_goals exact h
def Now.two(N:Now U v P Y H)(w:Wf z)(k:z.ro=H.ro)(p:∀c,z.free c->H.free c)(o:H.free b)(f:Y e=aM y)(g:∀c,c≠e->c≠b->aY z c=aY H c)
(l:∀c V,c≠e->Y c=aM V->Sat P (upd Y b ρ) (aY H c) c V->Sat P' (upd Y b ρ) (aY H c) c V)(j:Sat P' (upd Y b ρ) (aY z b) b ρ)(J:Sat P' (upd Y b ρ) (aY z e) e y):Now U v P' (upd Y b ρ) z:=by
 refine⟨⟨w,k▸N.T.f,k▸N.T.s,λc V h=>?_⟩,λc h=>N.live c (p c h),λc h=>(a6 λ(q:c=b)=>h (q▸N.live b o)).trans (N.iF c h)⟩
 by_cases q:c=b
 ·subst q;rw[bg] at h;cases h;exact j
 rw[a6 q] at h
 by_cases q2:c=e
 ·subst q2;rw[f] at h;cases h;exact J
 erw[g c q2 q]
 exact l c V q2 h ((N.T.sat c V h).mono λx L t t O=>(a6 (N.T.ne O o)).trans O)
def Now.D6{G:CH->Prop}(ρ:aK)(N:Now U v P Y H)(k:H.free b)(p:Y e=aM y)(f:H.dct e≠none)
(g:∀c V,c≠e->Y c=aM V->Sat P (upd Y b ρ) (aY H c) c V->Sat P' (upd Y b ρ) (aY H c) c V)(o:upd Y b ρ b=aM ρ->Sat P' (upd Y b ρ) { aY H b with lst:=aM l } b ρ)(O:upd Y b ρ b=aM ρ->K1 b Y (upd Y b ρ)->Sat P' (upd Y b ρ) { aY H e with dct:=aM J } e y)
(r:∀w z,Now U v P' w z->w b=aM ρ->K1 b Y w->z.dct e=aM J->G z):G ((H.aD b l).bo e J):=by
 have j:=N.T.ne p k
 refine r _ _ (N.two (b:=b) (e:=e) ((N.T.wf.aD (.inr k)).bo (.inl f)) rfl (λc h=>h.bo.aD) k p (λc L t=>(fX L).trans (ee t)) g ?_ ?_) bg (ju N.T k) (n8.trans (K2 rfl))
 ·(erw[fX (Ma j)];erw[fv]);exact o bg
 ·(erw[gF];erw[ee j])
  exact O bg (ju N.T k)
def Now.KI(ρ:aK)(N:Now U v P Y H)(t:U.free p)(f:Y p=aM k)(o:k.own=true)(g:Y e=aM y)(x:y.own=false)(C:H.lst e≠none)
(B:∀c V,c≠e->Y c=aM V->Sat P (upd Y p ρ) (aY H c) c V->Sat P' (upd Y p ρ) (aY H c) c V)(j:Sat P' (upd Y p ρ) (aY H p) p ρ)(J:Sat P' (upd Y p ρ) { aY H e with lst:=aM l } e y):Now U v P' (upd Y p ρ) (H.aD e l):=by
 have O:p≠e:=Ma (bh g x f o)
 refine⟨⟨N.T.wf.aD (.inl C),N.T.f,N.T.s,λc V h=>?_⟩,λc h=>N.live c h.aD,λc h=>(a6 λ(q:c=p)=>h (q▸t)).trans (N.iF c h)⟩
 by_cases q:c=p
 ·subst q;rw[bg] at h;cases h;erw[ee O];exact j
 rw[a6 q] at h
 by_cases q2:c=e
 ·subst q2;rw[g] at h;cases h;erw[fv];exact J
 erw[ee q2]
 exact B c V q2 h ((N.T.sat c V h).mono λD a A E L=>(a6 (bh L A f o)).trans L)
namespace W
variable{V:PT}{Q:NE}{X:No}{L:EN}{i j d:ki}
def I3{b:cp CS}(h:Evs L H J O)(r:V f O H λv z=>∃p,aL z v=aM p/\∃q,aL z (.bool (!p))=aM q/\if q then ae V M a ⟨z,L⟩ (bq V M l Q X) X else ae V M b ⟨z,L⟩ (bq V M l Q X) X):ae V M (.ite (.nt (.fn f J)) a b::l) ⟨H,L⟩ Q X:=h _ _ _ _ r
def GY{b:cp CS}(h:Evs L H J O)(r:V f O H λv z=>∃p,aL z v=aM p/\∃t,aL z (.bool (!p))=aM t/\if t then wpE V M g ⟨z,L⟩ (λv st=>∃q,aL st.H v=aM q/\if q then ae V M a st (bq V M l Q X) X else ae V M b st (bq V M l Q X) X) X else ∃q,aL z (.bool (!p))=aM q/\if q then ae V M a ⟨z,L⟩ (bq V M l Q X) X else ae V M b ⟨z,L⟩ (bq V M l Q X) X):ae V M (.ite (.an (.nt (.fn f J)) g) a b::l) ⟨H,L⟩ Q X:=h _ _ _ _ r
def dL(p:Evs L H J O)(f:L j=aM (.ref c))(g:H.cls c=aM d)(t:bn d=true)(T:H.att m c=aM (.ref e))(C:H.dct e=aM o)(B:∀H,Ev L H k x)(N:x.az=true)(A:o.length<szl)
(r:∀b,H.free b->ae V M l ⟨(H.aD b O).bo e (bf o x (.ref b)),L⟩ Q X):ae V M (.asg (.ix (.at (.v j) m) k) (.li J)::l) ⟨H,L⟩ Q X:=
 p _ _ _ _ λb D=>⟨_,f,_,eh (H:=H.aD b O) g t T,B _ _ _ _ _ ⟨e,o,rfl,C,N,A,r b D⟩⟩
def I4{x:Lj}(N:Now U v P Y H)(E:Y c=aM .bX)(I:L 0=aM (.ref c))(F:L i=aM (.str x))(R:x∈aC)(D:P.nk=none)
(r:∀w z o,Now U v P w z->Ka Y w->z.dct P.aN=aM o->aw o (.str x)≠none->ae V M l ⟨z,L⟩ Q X):ae V M (.ite (.cm .cu (.v i) (.at (.v 0) 21)) [.asg (.ix (.at (.v 0) 21) (.v i)) (.li [])] []::l) ⟨H,L⟩ Q X:=by
 have t:=N.T.gr E
 refine dv (N.T.sat _ _ t.a21.2) λm o g B Z h4=>?_
 have g:H.dct P.aN=aM o:=g
 have A:=ba _ (bL R)
 refine W.ite (.cm (.v F) (.att (.v I) (N.T.gat E t.a21.1)) (lh (inD N.T g A))) rfl (λq=>?_) λq=>W.nil (r Y H o N (λf f h=>h) g λe=>by rw[e] at q;cases q)
 have K:o.length<=3:=by
  have:=br B.nd (m:=aC.map CV.str) λk A=>by
   refine oEA (p9.mp A) λp T e=>?_
   refine aA (B.ks p T) λy G u f=>?_
   (erw[Ng e];erw[u]);exact LL G
  rw[h7] at this
  exact this
 refine W.dL .nil I t.cls rfl t.a21.1 g (λf=>.v F) A (eF K (e0 rfl)) λb j=>?_
 refine N.D6 (G:=λH=>ae V M [] ⟨H,L⟩ (bq V M l Q X) X) .j6 j t.a21.2 (aq g) (λf f f f s=>s) (λf=>⟨[],rfl,Lp _⟩) (λS k=>⟨rfl,_,rfl,⟨λp T=>(bV T).elim (λT=>(B.mono λJ f h=>(k J _ h).1).ks p T) λe=>⟨x,R,by exact LH e rfl,b,by exact LH e rfl,S,trivial⟩,dc B.nd⟩,λi O n=>?_,λks C=>?_⟩) λw z a S k d=>W.nil (r w z _ a k.aa d ?_)
 ·erw[bt]
  split
  ·exact Lm _
  ·exact Z i O n
 ·rw[show P.nk=none from D] at C;cases C
 ·(erw[bt];erw[K2 rfl]);exact Lm _
end W
end
def lm:cp (cp Lj):=[]::(bm.map λx=>[x])++bm.flatMap λx=>bm.map λy=>[x,y]
set_option maxRecDepth 100000 in
theorem GZ:∀a∈aC,∀l∈lm,(eE a l).cps.toList.all (OC · 128)=true/\(Sq (l.map .str)).shown.length<=100:=by decide +kernel
set_option maxRecDepth 100000 in
theorem G0:((aC.flatMap λa=>lm.map λl=>(a,l)).map λp=>(eE p.1 p.2).cps.toList).Nodup:=by decide +kernel
theorem oO{l:cp Lj}(h:l.length<=2)(z:∀x∈l,x∈bm):l∈lm:=by
 unfold lm
 cases l with
 | nil=>exact LD _ fp
 | cons x l=>
  have Q:=z x fp
  cases l with
  | nil=>exact LD _ (oo _ (p9.mpr ⟨x,Q,rfl⟩))
  | cons y l=>
   have w:=z y (oo _ fp)
   cases l with
   | nil=>exact Ll _ (MB.mpr ⟨x,Q,p9.mpr ⟨y,w,rfl⟩⟩)
   | cons=>exact p7 h (SL (e0 rfl))
theorem lp{Y v:Type}{f:Y->v}{l:cp Y}(w:(l.map f).Nodup){x y:Y}(U:x∈l)(V:y∈l)(e:f x=f y):x=y:=by
 induction l with
 | nil=>exact p7 U Le
 | cons a l k=>
  rw[Nv,Mf] at w
  rcases ta.mp U with z | z <;> rcases ta.mp V with Q | Q
  ·exact z.trans Q.symm
  ·exact p7 (p9.mpr ⟨y,Q,by(erw[Ng e];exact LH z rfl)⟩) w.1
  ·exact p7 (p9.mpr ⟨x,z,by(erw[e];exact LH Q rfl)⟩) w.1
  ·exact k w.2 z Q
def vB{a b:Lj}{l m:cp Lj}(z:a∈aC)(Q:b∈aC)(w:l∈lm)(y:m∈lm)(e:eE a l=eE b m):a=b/\l=m:=
 Ra (lp G0 (x:=(a,l)) (y:=(b,m)) (MB.mpr ⟨a,z,p9.mpr ⟨l,w,rfl⟩⟩) (MB.mpr ⟨b,Q,p9.mpr ⟨m,y,rfl⟩⟩) (dd (λs=>s.cps.toList) e))
def G1:∀x∈bm,x.cps.size≠0/\[39,34].contains (x.cps[0]?.getD 39)=false:=by decide
def D7{x:Lj}(h:x∈aC):x≠vf:=by revert h x;decide
section
variable{P y:Par}{ty t0 ty':TY}{H H' H0:CH}{n c g:ki}{Q:Rs}{z w:aK}
def Now.Bq{a:ki}{v:CV}(N:Now H0 t0 P ty H)(V:P.kq<=P.k/\0<P.k)(k:P.kn<=P.k)(h:ty a=aM .j6)(U:H.lst a=aM l):Now H0 t0 (P.wk (P.toPK.cU 1)) ty (H.aD a (l++[v])):=by
 refine N.aD h (aq U) (λb z Y Y s=>s.upK ⟨rfl,id,Lf _,MA _,λY Y Y=>rfl⟩ V k (λY=>⟨rfl,rfl⟩) (λY=>rfl) (λY Y=>⟨rfl,rfl⟩) (λY=>rfl) λY=>rfl) ?_
 refine oEA (N.T.sat _ _ h) λm j J=>?_
 cases(show H.lst a=aM m from j).symm.trans U
 exact⟨_,rfl,by erw[GE];exact MJ J 1⟩
def Now.KJ(N:Now H0 t0 P ty H)(j:P.kq<=P.k/\0<P.k)(J:P.kn<=P.k)(v:P.kt=P.k)(o:H.dct P.aN=aM U)(O:aw U (.str (lhs P.R P.k))≠none):Now H0 t0 (P.wk P.toPK.ktU) ty H:=
 N.par λa z Y h=>by
  by_cases e:z=.gV
  ·subst e
   refine dv h λk V q1 q2 p f=>?_
   cases(show H.dct a=aM V from q1).symm.trans (k.symm▸o)
   exact⟨k,U,q1,q2,λi a b=>(Oj i P.kt).elim (p i a) λc=>(show i=P.k from ME (tc b) (v▸c))▸O,f⟩
  ·exact h.upK ⟨rfl,id,Lf _,Lf _,λY Y Y=>rfl⟩ j J (λY=>⟨rfl,rfl⟩) (λY=>rfl) (λY Y=>⟨rfl,rfl⟩) (λY=>rfl) λq=>p7 q e
def Now.KK{p b:ki}(N:Now H0 t0 P ty H)(j:P.kq<=P.k/\0<P.k)(l:P.kn<=P.k)(U:ty p=aM (.cA 100 f))(L:H0.free p)(k:ty b=aM (.ak ((nub [] (rhs P.R P.k)).map .str)))(t:H0.free b)(J:b≠p)(F:D3 f (lhs P.R P.k) (rhs P.R P.k) P.k (.tup [.str jp,.int 0]) b)
(v:P.ad P.k=0)(x:0<=P.m)(V:P.li=0)(C:P.lx=0):∃ty',Now H0 t0 (P.wk (P.toPK.prU p)) ty' H/\ty' p=aM (.cJ P.k)/\∀a z,a≠p->a≠b->ty a=aM z->ty' a=aM z:=by
 refine oAA (N.pro (.us P.k) t k (N.T.L k)) λN k O=>?_
 replace U:=O _ _ (Ma J) U
 replace N:Now H0 t0 (P.wk (P.toPK.prU p)) _ H:=N.par λa z Y s=>s.upK ⟨rfl,id,MA _,Lf _,λi B Y=>E1 (Lu B)⟩ j l (λY=>⟨rfl,rfl⟩) (λY=>rfl) (λY Y=>⟨rfl,rfl⟩) (λY=>rfl) λY=>rfl
 have A:=N.T.A U
 obtain⟨D,o,E⟩:=N.pro (.cJ P.k) L U ⟨(K2 rfl).symm,⟨Lz _,.inl j.2⟩,N.T.C U,(A 2).trans F.f2,(A 3).trans F.f3,(A 4).trans F.f4,(A 8).trans F.f8,(A 9).trans F.f9,⟨b,(A 11).trans F.f11,k⟩,.inl ((A 0).trans F.f0),.inl ⟨(A 1).trans F.f1,v⟩,by
  show P.ad P.k<=P.m
  erw[v];exact x,λq=>(show P.k<P.li∨P.k=P.li/\0<P.lx from q).elim (λq=>p7 (V▸q) (MD _)) λq=>p7 (q.1.trans V) (MW j.2)⟩
 exact⟨_,D,o,λa z o I h=>E _ _ o (O _ _ I h)⟩
def Now.KL{v p:ki}(N:Now H0 t0 P ty H)(U:P.kq+1=P.k/\0<P.kq)(j:P.kn<=P.k)(h:ty v=aM .jd)(e:P.pr P.kq=p)(J:ty p=aM (.cJ P.kq)):∃l,H.lst v=aM l/\l.length=P.kq/\Now H0 t0 (P.wk P.toPK.kqU) ty (H.aD v (l++[.ref p])):=by
 subst e
 refine oAA (N.T.sat _ _ h) λk V o=>?_
 have V:H.lst v=aM _:=V
 refine⟨_,V,(dd (·+1) ((h7 _).trans UL)).trans (MZ U.2),N.aD h (aq V) (λb z O Y s=>s.upK ⟨rfl,id,Lf _,Lf _,λY Y Y=>rfl⟩ ⟨U.1▸MA _,U.1▸MO _⟩ j (λq=>?_) (λY=>rfl) (λY Y=>⟨rfl,rfl⟩) (λY=>rfl) λY=>rfl) ⟨k,dd aM ?_,λi a b=>?_⟩⟩
 ·subst q
  exact p7 (s.1.trans k.symm) O
 ·show _=(if P.z=true then CV.ref (P.pr 0) else .none)::(OL 1 (P.k - 1)).map λi=>.ref (P.pr i)
  rw[show P.k - 1=(P.kq - 1)+1 from(show P.k - 1=P.kq from(dd (· - 1) U.1).symm).trans (MZ U.2).symm,range'_concat,LP,Vq]
  refine dd (λx=>_::(_++x)) ?_
  show [CV.ref (P.pr P.kq)]=[CV.ref (P.pr (1+1 * (P.kq - 1)))]
  rw[show 1+1 * (P.kq - 1)=P.kq from(dd (1+·) (Nat.one_mul _)).trans ((Nk 1 _).trans (MZ U.2))]
 ·rcases Oj i P.kq with q | q
  ·exact o i q b
  ·obtain rfl:i=P.kq:=ME (tc (MI (show i<P.k from a) U.1.symm)) q
   exact J
def Now.KM{k i:ki}(N:Now H0 t0 P ty H)(L:P.kq<=P.k/\0<P.k)(t:P.kn<=P.k)(o:P.km+1=P.k)(O:1<=i/\i<P.k)(h:ty k=aM .tH)(e:eE (lhs P.R i) (rhs P.R i)=x):∃U,H.dct k=aM U/\U.length<P.km/\Now H0 t0 (P.wk P.toPK.kmU) ty (H.bo k (bf U (.str x) v)):=by
 subst e
 refine mJ (N.T.sat _ _ h) λf U l V C=>?_
 have V:U.length<P.km:=V
 refine⟨U,l,V,N.bo h (aq l) (λb z B Y s=>s.upK ⟨rfl,id,Lf _,Lf _,λY Y Y=>rfl⟩ L t (λY=>⟨rfl,rfl⟩) (λY=>rfl) (λY Y=>⟨rfl,rfl⟩) (λq=>?_) λY=>rfl) ⟨f,_,rfl,eF om (MI (PW V) o),λp J=>(bV J).elim (λJ=>(C p J).imp λj q=>⟨q.1,Mj q.2.1 (MI (Lz _) o),q.2.2⟩) λe=>⟨i,O.1,O.2,by erw[e];rfl⟩⟩⟩
 subst q
 exact p7 (s.1.trans f.symm) B
def lq{f:ki->ki}{k:ki}{y:Lj}(Y:1<=k):(((Lk (k+1)).filter λr=>decide (1<=r/\lhs R r=y)).map λi=>CV.ref (f i))=(((Lk k).filter λr=>decide (1<=r/\lhs R r=y)).map λi=>CV.ref (f i))++if lhs R k=y then [.ref (f k)] else []:=by
 (erw[VN];erw[Qu _ _];erw[LP])
 refine dd _ ?_
 by_cases h:lhs R k=y
 ·(erw[K2 h];erw[Vn];erw[K2 (Ln (p:=1<=k/\lhs R k=y) ⟨Y,h⟩)]);rfl
 ·(erw[E1 h];erw[Vn];erw[E1 λq=>h (p6 (p:=1<=k/\lhs R k=y) q).2]);rfl
def Sat.I5{f:Lj->ki}{z:aK}(j:P.kq<=P.k/\0<P.k)(V:P.kn+1=P.k/\1<=P.kn)(J:ty (P.pr P.kn)=aM (.cJ P.kn))(o:z≠.names)(O:∀y,z=.iB y->lhs P.R P.kn≠y/\f y=P.aNm y)(h:Sat P ty v a z):Sat (P.wk (P.toPK.knU f)) ty v a z:=by
 have k:P.kn<=P.k:=V.1▸MA P.kn
 by_cases e:∃y,z=.iB y
 ·refine oE e λy Y=>?_;subst Y
  refine oA (O y rfl) λp l=>?_
  refine⟨h.1.trans l.symm,h.2.1.trans (dd aM ?_),λi a b=>?_,h.2.2.2.imp λi q=>⟨q.1,rf q.2.1 k,q.2.2⟩⟩
  ·show _=(((Lk P.k).filter λr=>decide (1<=r/\lhs P.R r=y)).map λi=>CV.ref (P.pr i))
   (erw[Ng V.1];erw[lq V.2];erw[E1 p];exact LH (Mp _) rfl)
  ·rcases Oj i P.kn with q | q
   ·exact h.2.2.1 i q b
   ·obtain rfl:i=P.kn:=ME (tc (MI (show i<P.k from a) V.1.symm)) q
    exact J
 ·exact h.upK ⟨rfl,id,Lf _,Lf _,λU U U=>rfl⟩ j k (λU=>⟨rfl,rfl⟩) (λq=>p7 q o) (λy q=>p7 ⟨y,q⟩ e) (λU=>rfl) λU=>rfl
def SD.len(h:SD ty D f Y es):es.length<=D.length:=
 cy (p8 (h7 _).symm) (cy (br h.nd (m:=D.map CV.str) λk U=>(p9.mp U).elim λp q=>(h.ks p q.1).elim λy r=>q.2▸r.2.1▸LL r.1) (p8 (h7 _)))
def yf{a:ki}{x:CV}(T:au P ty H)(h:H.dct a=aM Y)(U:x.az=true)(v:aw Y x=none):b9 H .isIn x (.ref a)=aM false:=(inD T h U).trans (dd (λy:rt CV=>aM y.isSome) v)
def Br{a:ki}{x:CV}(T:au P ty H)(h:H.dct a=aM Y)(U:x.az=true)(V:aw Y x=aM v):b9 H .isIn x (.ref a)=aM true:=(inD T h U).trans (dd (λy:rt CV=>aM y.isSome) V)
def I6{x:Lj}(h:x.cps.size≠0):eD H (.str x) (.int 0)=aM (.ok (.str ⟨#[x.cps[0]?.getD 39]⟩)):=by
 show My _ x.cps[0]?=_
 rw[NF (Nd h)];rfl
def Ev.jsL{Y:cp Lj}(J:Ev L H V (.str f))(o:f.cps.size<=1000000)(O:Ev L H j (.ref a))(p:H.getL a=aM (Y.map .str))(l:∀x∈Y,aZ x)(t:(Sq (Y.map .str)).shown.length<=1000000):Ev L H (.js V j) (.str (eE f Y)):=λU U U U k=>
 J _ _ _ _ ⟨f,rfl,o,O _ _ _ _ (.inr ⟨a,Y,rfl,p,l,t,k⟩)⟩
namespace W
variable{Q:NE}{X:No}{L:EN}
def gen{p:EN->Prop}(U:p L)(r:∀L,p L->ae Y M l ⟨H,L⟩ Q X):ae Y M l ⟨H,L⟩ Q X:=r L U
def G2{b:cp CS}{U:cp Exc}(r:ae Y M b ⟨H,L⟩ (bq Y M l Q X) λq st=>q∈U/\ae Y M h st (bq Y M l Q X) FX):ae Y M (.try b U h::l) ⟨H,L⟩ Q X:=r
def G3{y:CV}{q:Exc}(k:Ev L H U x)(j:Ev L H v y)(g:eD H x y=aM (.error q))(r:X q ⟨H,L⟩):ae Y M (.ex (.ap (.ix U v) V)::l) ⟨H,L⟩ Q X:=k _ _ _ _ (j _ _ _ _ ⟨.error q,g,r⟩)
end W
structure Bld(P:Par):Prop where
 G:aj P.R
 k:1<=P.k/\P.k<P.R.length
 q:P.kq=P.k
 n:P.kn=P.k
 t:P.kt=P.k
 mm:P.km=P.k
 li:P.li=0
 lx:P.lx=0
 m:0<=P.m
 ad:∀r,P.ad r=0
 nk:P.nk=none
def PK.nx(K:PK)(p:ki)(f:Lj->ki)(i:ki):PK:=(((((K.ktU.cU i).prU p).kqU).kmU).knU f)
structure APL(g:ki)(name:Lj)(s:ki)(L:EN):Prop where
 l0:L 0=aM (.ref g)
 l1:L 1=aM (.str name)
 l2:L 2=aM (.ref s)
 l3:L 3=aM .none
 l4:L 4=aM (.str (u 1))
 l5:L 5=aM (.int 0)
def APL.u{g j:ki}(m:APL g name s L)(Y:Oc 6 j=true):APL g name s (upd L j v):=by
 have h:∀i,i<6->upd L j v i=L i:=λi U=>a6 (Lu (rf U (e0 Y)))
 exact⟨(h 0 (by decide)).trans m.l0,(h 1 (by decide)).trans m.l1,(h 2 (by decide)).trans m.l2,(h 3 (by decide)).trans m.l3,(h 4 (by decide)).trans m.l4,(h 5 (by decide)).trans m.l5⟩
structure APM(g:ki)(name:Lj)(s:ki)(rs:cp Lj)(k:ki)(L:EN):Prop extends APL g name s L where
 l9:L 9=aM (.tup [.str jp,.int 0])
 l10:L 10=aM (.str (eE name rs))
 l12:L 12=aM (.int k)
def oP{a:ki}{x:Lj}(T:au P ty H)(h:ty a=aM .lS)(U:x∉dr):∃Y,H.dct a=aM Y/\aw Y (.str x)=none:=by
 refine aA (T.sat _ _ h) λY v V k=>?_
 exact⟨Y,v,cH.mpr λq=>by rw[V] at q;exact(p9.mp q).elim λy q=>U (CV.str.inj q.2▸q.1)⟩
def tS{a:ki}{x:Lj}(T:au P ty H)(h:ty a=aM .lS)(U:x∈dr):∃Y b,H.dct a=aM Y/\aw Y (.str x)=aM (.ref b)/\ty b=aM .j6:=by
 refine aA (T.sat _ _ h) λY v V k=>?_
 refine oEA (be (kf.mpr (show CV.str x∈Y.map (·.1) by erw[V];exact LL U))) λw j J=>?_
 refine oEA (k _ J) λb e o=>?_
 exact⟨Y,b,v,j.trans (dd aM e),o⟩
def I7{L:EN}{K:NE}{x:Lj}{k:ki}(N:Now H0 t0 P ty H)(j:ty g=aM .bX)(E:P.kq<=P.k/\0<P.k)(I:P.kn<=P.k)(T:P.nk=none)(M:P.c<=200)(A:x∈bm)(O:L 0=aM (.ref g))(C:L 12=aM (.int k))(Y:L 13=aM (.str x))
(r:∀ty' H',Now H0 t0 (P.wk (P.toPK.cU 1)) ty' H'->Ka ty ty'->K .next ⟨H',L⟩):ae (ah fF mF n) mF cK ⟨H,L⟩ K FX:=by
 have v:=N.T.gr j
 have f:=ba _ A
 have p:∀{ty' H' b o},Now H0 t0 P ty' H'->Ka ty ty'->ty' b=aM .j6->Ev L H' o (.ref b)->ae (ah fF mF n) mF [.ex (.ap o (.v 12))] ⟨H',L⟩ (bq (ah fF mF n) mF [] K FX) FX:=λ{ty' H' b o} N k t s=>by
  refine oEA (N.T.sat _ _ t) λl U V=>?_
  exact W.ap s U (.v C) (eF (cy V M) (e0 rfl)) (W.nil (r ty' _ (N.Bq E I t U) k))
 by_cases B:x∈dr
 ·refine aX (tS N.T v.a20.2 B) λD b U V d=>?_
  exact W.fZ (.cm (.v Y) (.att (.v O) (N.T.gat j v.a20.1)) (Br N.T U f V)) rfl (p N (λJ J h=>h) d (.ix (.att (.v O) (N.T.gat j v.a20.1)) (.v Y) (getD N.T U f V)))
 ·refine oEA (oP N.T v.a20.2 B) λD U V=>?_
  refine W.fy (.cm (.v Y) (.att (.v O) (N.T.gat j v.a20.1)) (yf N.T U f V)) rfl ?_
  refine W.I4 N j O Y ((vq A).resolve_left B) T λty' H' D N k U V=>?_
  have v:=N.T.gr (k _ _ j)
  refine mJ (N.T.sat _ _ v.a21.2) λJ a q1 q2 J=>?_
  cases(show H'.dct P.aN=aM a from q1).symm.trans U
  refine oEA (be V) λw m i=>?_
  refine eK (q2.ks _ i) λJ J J b e t J=>?_
  exact p N k t (.ix (.att (.v O) (N.T.gat (k _ _ j) v.a21.1)) (.v Y) (getD N.T U f (m.trans (dd aM e))))
def Bs{L:EN}{F:NE}{p:ki}{nm:Lj}(N:Now H0 t0 P ty H)(G:ty g=aM .bX)(B:P.kq=P.k)(v:P.kn+1=P.k/\1<=P.kn)(R:P.kn<=100)(Y:lhs P.R P.kn=nm)(A:nm∈aC)(S:P.pr P.kn=p)(u:L 0=aM (.ref g))(X:L 1=aM (.str nm))(D:L 14=aM (.ref p))
(r:∀ty' H' f,Now H0 t0 (P.wk (P.toPK.knU f)) ty' H'->Ka ty ty'->F .next ⟨H',L⟩):ae (ah fF mF n) mF [.try [.ex (.ap (.ix (.at (.v 0) 18) (.v 1)) (.v 14))] [.key] [.asg (.ix (.at (.v 0) 18) (.v 1)) (.li [.v 14])]] ⟨H,L⟩ F FX:=by
 subst S
 have l:=N.T.gr G
 refine mJ (N.T.sat _ _ l.a18.2) λQ M o d t=>?_
 have o:H.dct P.aPn=aM M:=o
 have Z:=ba _ (bL A)
 have V:P.kn<P.k:=v.1▸Lz _
 have hq:P.kq<=P.k/\0<P.k:=⟨p8 B,Nat.zero_lt_of_lt V⟩
 have O:∀i,1<=i->i<P.k->ty (P.pr i)=aM (.cJ i):=λi a b=>(N.T.sat _ _ l.a17.2).2.2 i (B▸b) (.inr a)
 have T:=O P.kn v.2 V
 refine W.G2 ?_
 have o1:Ev L H (.at (.v 0) 18) (.ref P.aPn):=.att (.v u) (N.T.gat G l.a18.1)
 have j:∀U,(∀i,1<=i->i<P.kn->aw U (.str (lhs P.R i))≠none)->aw U (.str nm)≠none->∀i,1<=i->i<P.k->aw U (.str (lhs P.R i))≠none:=λU t J i a b=>by
  rcases Oj i P.kn with q | q
  ·exact t i a q
  ·obtain rfl:i=P.kn:=ME (tc (MI b v.1.symm)) q
   erw[Y];exact J
 by_cases J:aw M (.str nm)=none
 ·refine W.G3 o1 (.v X) (Ff N.T o Z J) ⟨n2.mpr rfl,?_⟩
  refine W.dL (.one (.v D)) u l.cls rfl l.a18.1 o (λE=>.v X) Z (eF d.len (e0 rfl)) λb C=>?_
  refine N.D6 (P':=P.wk (P.toPK.knU λx=>if x=nm then b else P.aNm x)) (G:=λH=>ae _ _ [] ⟨H,L⟩ (bq _ _ [] F FX) FX) (.iB nm) C l.a18.2 (aq o) (λa z K ht s=>s.I5 hq v ((ju N.T C _ _ T).1) (λq=>?_) λy q=>?_) (λE=>⟨(K2 rfl).symm,dd aM ?_,λi a c=>(ju N.T C _ _ (O i c a)).1,P.kn,v.2,V,Y⟩)
   (λgb k=>⟨Q,_,rfl,⟨λp T=>(bV T).elim (λT=>(d.mono λb' E h=>(k b' _ h).1).ks p T) λe=>⟨nm,A,by exact LH e rfl,b,by exact LH e rfl,gb,trivial⟩,dc d.nd⟩,j _ (λi a c=>?_) ?_⟩) λty' H' N' gb k J=>W.nil (r ty' H' _ N' k.aa)
  ·subst q;exact K (s.1.trans Q.symm)
  ·subst q
   have:nm≠y:=λq=>by
    subst q
    refine aA s.2.2.2 λi q1 q2 q3=>?_
    exact t i q1 q2 (q3▸J)
   exact⟨Y▸this,E1 (Ma this)⟩
  ·show [CV.ref (P.pr P.kn)]=(((Lk P.k).filter λr=>decide (1<=r/\lhs P.R r=nm)).map λi=>CV.ref (P.pr i))
   (erw[Ng v.1];erw[lq v.2];erw[K2 Y];erw[show(Lk P.kn).filter (λr=>decide (1<=r/\lhs P.R r=nm))=[] from ON.mpr λi hi q=>t i (p6 q).1 (LI.mp hi) ((p6 q).2▸J)])
   rfl
  ·erw[bt]
   split
   ·exact Lm _
   ·exact t i a c
  ·(erw[bt];erw[K2 rfl]);exact Lm _
 ·refine oEA (be J) λw hw hm=>?_
  refine eK (d.ks _ hm) λx hx e1 b e2 C E=>?_
  obtain rfl:nm=x:=CV.str.inj e1
  refine ut (N.T.sat _ _ C) λr1 m r3 r4=>?_
  have m:H.lst b=aM _:=m
  refine W.ap (.ix o1 (.v X) (getD N.T o Z (hw.trans (dd aM e2)))) m (.v D) ?_ (W.nil (r ty _ P.aNm (N.aD C (aq m) (λa z K ht s=>?_) ⟨r1,dd aM ?_,λi a c=>O i c a,P.kn,v.2,V,Y⟩) λE E h=>h))
  ·erw[h7 _]
   have:=NI (λr=>decide (1<=r/\lhs P.R r=nm)) (Lk P.kn)
   rw[LJ] at this
   exact eF (cy this R) (e0 rfl)
  ·by_cases q:z=.names
   ·subst q
    refine mJ s λI U q1 q2 q3=>?_
    cases(show H.dct a=aM U from q1).symm.trans (I.symm▸o)
    exact⟨I,M,q1,q2,j M t J⟩
   ·refine s.I5 hq v T q λy e=>?_
    subst e
    exact⟨λe=>K (s.1.trans ((dd P.aNm (Y.symm.trans e)).symm.trans r1.symm)),rfl⟩
  ·show _=(((Lk P.k).filter λr=>decide (1<=r/\lhs P.R r=nm)).map λi=>CV.ref (P.pr i))
   (erw[Ng v.1];erw[lq v.2];exact LH (K2 Y) rfl)
inductive API(P:Par)(H0:CH)(t0 ty:TY)(W:EN->Prop)(H':CH)(L:EN):Prop
 | mk (w:W L) (ty':TY) (N:Now H0 t0 P ty' H') (k:Ka ty ty')
def yg{s:ki}(N:Now H0 t0 P ty H)(B:Bld P)(E:ty g=aM .bX)(hc:P.c<=100)(U:lhs P.R P.k=Y)(j:rhs P.R P.k=t)(hs:ty s=aM (.ak (t.map .str)))
(hQ:∀ty' H' p f,Now H0 t0 (P.wk (P.toPK.nx p f t.length)) ty' H'->Ka ty ty'->Q .none H'):ah fF mF (n+2) 201 [.ref g,.str Y,.ref s] H Q:=by
 have o:=U▸B.G.nm _ B.k.1 B.k.2
 have v:=j▸B.G.sym P.k
 have M:=j▸B.G.ln P.k
 have z6:=B.G.len.2
 have d:=B.k.2
 have r:P.k<=5:=y1 (rf d z6)
 have z0:=oO M v
 have V:=bL o
 have z7:=ba _ V
 have X:∀y∈t,aZ y:=λy hy=>aI (v y hy)
 refine bK [.ref g,.str Y,.ref s,.none,.str (u 1),.int 0] (d:=dm) rfl rfl rfl rfl λFQ T c=>?_
 refine oEA (oP N.T (N.T.gr E).a20.2 (Bg o)) λz8 C z1=>?_
 refine W.fy (.cm (.v rfl) (.att (.v rfl) (N.T.gat E (N.T.gr E).a20.1)) (yf N.T C z7 z1)) rfl (W.nil ?_)
 refine W.f6 (.cm (.v rfl) .c (eqS (aI V) (asc (by decide)))) (λq=>p7 q (D7 o)) λT=>W.nil ?_
 refine W.I3 (.one (.v rfl)) (iH N V λt1 H1 N1 k1=>⟨true,rfl,false,rfl,W.nil ?_⟩)
 clear C z1
 refine frE (ys:=t) (f:=.str) (I:=λT=>API P H0 t0 ty (APL g Y s)) (.v rfl) ⟨⟨rfl,rfl,rfl,rfl,rfl,rfl⟩,t1,N1,k1⟩ (λi H' L h=>h.casesOn λT T N k=>N.T.gL (k _ _ hs)) ?_ ?_
 ·rintro i x H2 L K hx ⟨m,t2,J,k2⟩ hK
  have z2:=v x (od hx)
  refine oA (G1 x z2) λc1 c2=>?_
  refine W.fy (.cm (.ix (.v rfl) .c (I6 c1)) .c (dd aM c2)) rfl (W.nil ?_)
  exact W.GY (.one (.v rfl)) (iH J z2 λt3 H3 N3 k3=>⟨true,rfl,false,rfl,false,rfl,W.nil (hK.nxt ⟨(m.u rfl).u rfl,t3,N3,k2.t k3⟩)⟩)
 rintro H2 L2 ⟨m,t2,J,k2⟩
 have O:=k2 _ _ E
 have R:=k2 _ _ hs
 have S:=J.T.gr O
 refine W.f6 (.cm .c (.v m.l2) (dT (J.T.gL R) X (asc (by decide)))) (λq=>p7 (v _ q) (by decide)) λT=>?_
 refine oEA (J.T.sat _ _ S.a20.2) λz8 C T=>?_
 refine W.fn (.two (.v m.l2) (.att (.v m.l0) (J.T.gat O S.a20.1))) (vu J.T R C (eF M (e0 rfl)) v λpv z9=>?_)
 refine W.asg (.geN (.att (.v m.l0) (J.T.gat O S.a24.1)) (J.T.sat _ _ S.a24.2) (.v rfl) (z9.elim (λe=>e▸rfl) λ⟨x,hx,e⟩=>e▸ba x hx) (.tu (.two .c .c)) rfl) (W.nil ?_)
 have Z:=GZ Y o t z0
 have z3:(CV.str (eE Y t)).az=true:=rv.mpr ⟨Z.1,rfl⟩
 refine W.asg (.jsL (.v m.l1) (Bk V) (.v m.l2) (J.T.gL R) X (cy Z.2 (e0 rfl))) ?_
 refine mJ (J.T.sat _ _ S.a19.2) λT zo z4 zz z5=>?_
 refine W.fy (.cm (.v rfl) (.att (.v m.l0) (J.T.gat O S.a19.1)) (yf J.T z4 z3 (cH.mpr λh=>?_))) rfl (W.nil ?_)
 ·refine oEA (p9.mp h) λp hp e=>?_
  refine aA (z5 p hp) λi hi1 A e2=>?_
  have A:i<P.k:=B.mm▸A
  refine oA (vB (B.G.nm i hi1 (Mj A d)) o (oO (B.G.ln i) (B.G.sym i)) z0 (CV.str.inj (e2.symm.trans e))) λe3 e4=>?_
  exact p7 (B.G.nd i P.k hi1 B.k.1 (Mj A d) d (e3.trans U.symm) (e4.trans j.symm)) (Lu A)
 clear z4 zz z5 C
 refine oAA (J.T.sat _ _ S.a17.2) λT D T=>?_
 have D:H2.lst P.aP=aM _:=D
 refine W.asg (.x8 (k:=P.k) (.att (.v m.l0) (J.T.gat O S.a17.1)) (J.T.lc D) ((yc (aV D)).trans (dd aM ?_)) (cy r (e0 rfl))) ?_
 ·(erw[NN];erw[h7 _];erw[UL];erw[B.q]);exact MZ B.k.1
 refine W.gen (p:=APM g Y s t P.k) ⟨m.u rfl |>.u rfl |>.u rfl |>.u rfl,rfl,rfl,rfl⟩ λL m=>?_
 clear D
 refine W.I4 J O m.l0 m.l1 o B.nk λt4 H4 es N4 k4 h1 h2=>?_
 have hq:P.kq<=P.k/\0<P.k:=⟨p8 B.q,B.k.1⟩
 replace N4:=N4.KJ hq (p8 B.n) B.t h1 (U▸h2)
 replace k4:=k2.t k4
 clear J k2 O R S
 refine frL (ys:=t) (f:=.str) (I:=λi=>API (P.wk (P.toPK.ktU.cU i)) H0 t0 ty (APM g Y s t P.k)) (.v m.l2) ⟨m,t4,N4,k4⟩ (λi H' L h=>h.casesOn λT T N k=>N.T.gL (k _ _ hs)) ?_ ?_
 ·rintro i x H5 L5 K hx ⟨m,t5,I,w⟩ hK
  have hi:=(kO.mp hx).1
  exact I7 (k:=P.k) I (w _ _ E) hq (p8 B.n) B.nk (show P.c+i<=100+100 from LY hc (cy (y1 hi) (cy M (e0 rfl)))) (v x (od hx)) m.l0 m.l12 rfl λt6 H6 N6 k6=>hK.nxt ⟨⟨m.u rfl,m.l9,m.l10,m.l12⟩,t6,N6,w.t k6⟩
 rintro H5 L5 ⟨m,t5,I,w⟩
 refine W.nw (.cons (.v m.l12) (.cons (.v m.l1) (.cons (.v m.l2) (.cons (.v m.l9) (.cons (.v m.l3) (.cons (.v m.l4) (.one (.v m.l5)))))))) rfl λp hp=>oG I.T hp (w _ _ hs) v (cy M (e0 rfl)) (Bk V) λt6 H6 f b N6 gp gb bF zq F=>⟨rfl,?_⟩
 refine aA ((I.call N6).KK (p:=p) (b:=b) (f:=f) hq (p8 B.n) gp (I.live p hp) (by erw[show rhs (P.wk (P.toPK.ktU.cU t.length)).R (P.wk (P.toPK.ktU.cU t.length)).k=t from j];exact gb) (I.live b bF) zq (U▸j▸F) (B.ad _) B.m B.li B.lx) λt7 N7 zw k7=>?_
 have ka:Ka ty t7:=λa z h=>k7 _ _ (I.T.ne (w _ _ h) hp) (I.T.ne (w _ _ h) bF) (N6.get I.T (w _ _ h))
 clear I N6 gp gb w k7 F N4 k4
 have g7:=N7.T.gr (ka _ _ E)
 have zy:P.kq+1=P.k+1/\0<P.kq:=⟨dd (·+1) B.q,by erw[B.q];exact B.k.1⟩
 refine aA (N7.KL zy (cy (p8 B.n) (MA _)) g7.a17.2 (K2 B.q) (B.q▸zw)) λl q1 q2 N8=>?_
 refine W.ap (.att (.v m.l0) (N7.T.gat (ka _ _ E) g7.a17.1)) q1 (.v rfl) (eF (show l.length<=5 from q2▸(B.q.symm▸r:P.kq<=5)) (e0 rfl)) ?_
 clear N7 q1 q2 g7
 have g8:=N8.T.gr (ka _ _ E)
 refine aA (N8.KM (i:=P.k) (v:=.ref p) ⟨Lf _,MO _⟩ (cy (p8 B.n) (MA _)) (dd (·+1) B.mm) ⟨B.k.1,Lz _⟩ g8.a19.2 (show eE (lhs P.R P.k) (rhs P.R P.k)=eE Y t by(erw[U];exact LH j rfl))) λes q1 q2 N9=>?_
 refine W.bo (.v rfl) (.att (.v m.l0) (N8.T.gat (ka _ _ E) g8.a19.1)) (.v m.l10) q1 z3 (rf q2 (cy (show P.km<=5 from B.mm.symm▸r) (e0 rfl))) ?_
 exact Bs (p:=p) N9 (ka _ _ E) rfl ⟨dd (·+1) B.n,B.n▸B.k.1⟩ (show P.kn<=100 from B.n.symm▸cy r (e0 rfl)) (B.n▸U) o (K2 B.n) m.l0 m.l1 rfl λzu zv f zk zj=>c (hQ zu zv p f zk (ka.t zj))
end
def PK.stU(K:PK)(p:ki):PK:={ K with z:=true,pr:=λi=>if i=0 then p else K.pr i }
section
variable{P:Par}{U w:TY}{H:CH}{n c e g:ki}{Q:Rs}{z:aK}
namespace W
variable{j:PT}{M:MT}{l:cp CS}{Q:NE}{X:No}{L:EN}{v:CV}
def nwS{k:CE}(N:Now V U P y H)(f:L 1=aM v)(r:∀s J O,Now V U P J O->J s=aM (.ak [v])->K1 s y J->∀p,O.free p->j 62 [.ref p,.int 0,.str x,.ref s] (O.cR p 100) λr Y=>r=.none/\qV j M (.li o k) (.ref p) ⟨Y,L⟩ (λst=>ae j M l st Q X) X) :
  ae j M (.asg (.li o k) (.nw 100 [.c (.int 0),.c (.str x),.li [.v 1]])::l) ⟨H,L⟩ Q X:=
 ⟨v,f,λs t=>N.nL (G:=λH=>bn 100=true/\∀c,H.free c->j 62 [.ref c,.int 0,.str x,.ref s] (H.cR c 100) λr Y=>r=.none/\qV j M (.li o k) (.ref c) ⟨Y,L⟩ (λst=>ae j M l st Q X) X) t λJ O T g a C=>⟨rfl,λp B=>r s J O T g C p B⟩⟩
def KN{o k:CE}{a i:ki}{m:cp CV}(J:Ev L H o (.ref a))(O:Ev L H k (.int i))(g:H.lst a=aM m)(p:i<m.length)(r:ae j M l ⟨H.aD a (m.set i v),L⟩ Q X):qV j M (.li o k) v ⟨H,L⟩ (λst=>ae j M l st Q X) X:=
 J _ _ _ _ (O _ _ _ _ ⟨a,m,i,rfl,g,rfl,p,r⟩)
end W
def xb(N:Now V U P y H)(h:y e=aM .gV)(o:∃i,1<=i/\i<P.kt/\lhs P.R i=x):∃j b,H.dct e=aM j/\aw j (.str x)=aM (.ref b)/\y b=aM .j6:=by
 refine dv (N.T.sat _ _ h) λa j O p f A=>?_
 refine aA o λi l L t=>?_
 refine oEA (be (t▸f i l L)) λw T C=>?_
 refine eK (p.ks _ C) λJ J J b e B J=>?_
 exact⟨j,b,O,T.trans (dd aM e),B⟩
def vC(N:Now V U P y H)(G:aj P.R)(O:y g=aM .bX)(B:P.k=P.R.length)(m:P.kq=P.k)(r:P.kn=P.k)(z0:P.kt=P.k)(hz:P.z=false)(z1:P.li=0)(z2:P.lx=0)(hc:P.c<=100)(R:P.ad 0=0)(hm:0<=P.m)
(hQ:∀w Y p,Now V U (P.wk ((P.toPK.stU p).cU 1)) w Y->Ka y w->Q .none Y):ah fF mF (n+2) 209 [.ref g,.str sS] H Q:=by
 refine bK [.ref g,.str sS] (d:=eJ) rfl rfl rfl rfl λFQ J D=>?_
 have S:rhs P.R 0=[sS]:=gH (x:=(sP,[sS])) G.r0
 have z3:lhs P.R 0=sP:=dU (x:=(sP,[sS])) G.r0
 have z4:=G.len
 have hS:∃i,1<=i/\i<P.kt/\lhs P.R i=sS:=(G.has sS (by decide)).imp λi h=>⟨h.1,by(erw[z0];erw[B]);exact h.2.1,h.2.2⟩
 have T:=ba sS (by decide)
 have g1:=N.T.gr O
 refine W.fy (.nt (b:=true) (.v rfl) rfl) rfl (W.nil ?_)
 refine aX (xb N g1.a21.2 hS) λes b0 X Z J=>?_
 refine W.fy (.cm (.v rfl) (.att (.v rfl) (N.T.gat O g1.a21.1)) (lh (Br N.T X T Z))) rfl (W.nil ?_)
 clear X Z g1
 refine W.nwS N rfl λs t1 H1 x gs e p hp=>IX (d:=dB) rfl rfl rfl rfl rfl (oG (r:=0) (l:=[sS]) x.T hp gs (by decide) (by decide) (by decide) λE H2 f b N2 I K bF u F=>⟨rfl,?_⟩)
 have pF:=x.live p hp
 have j:∀a z,y a=aM z->E a=aM z/\a≠p/\a≠b:=λa z h=>⟨N2.get x.T (e _ _ h).1,x.T.ne (e _ _ h).1 hp,x.T.ne (e _ _ h).1 bF⟩
 refine oAA ((x.call N2).pro (.us 0) (x.live b bF) K (show H2.lst b=aM ((nub [] (rhs P.R 0)).map .str) by erw[S];exact N2.T.L K)) λM K k3=>?_
 replace I:=k3 _ _ (Ma u) I
 replace j:∀a z,y a=aM z->upd E b (.us 0) a=aM z/\a≠p:=λa z h=>⟨k3 _ _ (j _ _ h).2.2 (j _ _ h).1,(j _ _ h).2.1⟩
 clear x N2 e k3 gs
 have g3:=M.T.gr (j _ _ O).1
 refine oAA (M.T.sat _ _ g3.a17.2) λea q1 q2=>?_
 have q1:H2.lst P.aP=aM _:=q1
 have A:=M.T.A I
 refine W.KN (.att (.v rfl) (M.T.gat (j _ _ O).1 g3.a17.1)) .c q1 (VI _) ?_
 have L:∀a t,a≠p->upd E b (.us 0) a=aM t->upd (upd E b (.us 0)) p (.cJ 0) a=aM t:=λa t d v=>(a6 d).trans v
 have C:=M.KI (P':=P.wk (P.toPK.stU p)) (l:=set ((if P.z then .ref (P.pr 0) else .none)::(OL 1 (P.kq - 1)).map λi=>.ref (P.pr i)) 0 (.ref p)) (.cJ 0) pF I rfl g3.a17.2 rfl (aq q1) (λc t d v s=>s.upK ⟨rfl,λJ=>rfl,Lf _,Lf _,λi J h=>E1 (by rw[hz] at h;exact MW (h.resolve_right ff))⟩ ⟨p8 m,B.symm▸G.pos⟩ (p8 r) (λq=>p7 (by subst q;exact s.1) d) (λJ=>rfl) (λJ J=>⟨rfl,rfl⟩) (λJ=>rfl) λJ=>rfl)
  ⟨rfl,⟨(B.symm▸G.pos:0<P.k),.inr rfl⟩,M.T.C I,(A 2).trans (F.f2.trans (dd (aM∘CV.str) z3.symm)),(A 3).trans (F.f3.trans (dd (λl:cp Lj=>aM (CV.tup (l.map .str))) S.symm)),(A 4).trans F.f4,(A 8).trans F.f8,(A 9).trans F.f9,⟨b,(A 11).trans F.f11,L _ _ u K⟩,.inl ((A 0).trans F.f0),.inl ⟨(A 1).trans F.f1,R⟩,(show P.ad 0<=P.m by erw[R];exact hm),λq=>?_⟩
  ⟨rfl,dd aM (show CV.ref p::((OL 1 (P.kq - 1)).map λi=>CV.ref (P.pr i))=CV.ref p::((OL 1 (P.kq - 1)).map λi=>CV.ref (if i=0 then p else P.pr i)) from dd (CV.ref p::·) (O9 λi hi=>dd CV.ref (E1 (MW (Pw.mp hi).1)).symm)),λi a c=>?_⟩
 rotate_left
 ·exact(show 0<P.li∨0=P.li/\0<P.lx from q).elim (λq=>p7 z1 (MW q)) λq=>p7 z2 (MW q.2)
 ·show upd (upd E b (.us 0)) p (.cJ 0) (if i=0 then p else P.pr i)=_
  by_cases h0:i=0
  ·subst h0;exact bg
  ·have:=q2 i a (.inr (Nd h0))
   erw[E1 h0]
   exact L _ _ (wX this I rfl) this
 replace j:∀a z,y a=aM z->upd (upd E b (.us 0)) p (.cJ 0) a=aM z:=λa z h=>L _ _ (j _ _ h).2 (j _ _ h).1
 clear M g3 q1 q2 A L I K F
 generalize upd (upd E b (.us 0)) p (.cJ 0)=t4 at *
 generalize CH.aD _ _ _=H4 at C ⊢
 have g4:=C.T.gr (j _ _ O)
 refine aX (xb C g4.a21.2 hS) λes b1 X Z e3=>?_
 refine oEA (C.T.sat _ _ e3) λl d v=>?_
 refine W.ap (.ix (.att (.v rfl) (C.T.gat (j _ _ O) g4.a21.1)) (.v rfl) (getD C.T X T Z)) d .c (eF (cy v hc) (e0 rfl)) ?_
 have N5:=C.Bq (v:=.int 0) ⟨p8 m,(B.symm▸G.pos:0<P.k)⟩ (p8 r) e3 d
 clear C g4 X Z e3 d v
 generalize CH.aD _ _ _=H5 at N5 ⊢
 have o:=N5.T.gr (j _ _ O)
 refine W.bw (.v rfl) (.v rfl) o.cls rfl (D (hQ t4 _ p (N5.bw (j _ _ O) (aq o.cls) (λJ J J J h=>h) ⟨(N5.T.sat _ _ (j _ _ O)).1,{ o with no:=λk B=>(E1 (MW (rf (by decide) B))).trans (o.no k B),a17:=o.a17,a18:=o.a18,a19:=o.a19,a20:=o.a20,a21:=o.a21,a22:=o.a22,a23:=o.a23,a24:=o.a24 }⟩) j))
end
def Par.wi(P:Par)(I:PI):Par:={ P with toPI:=I }
section
variable{P w:Par}{ty t0 ty':TY}{H H' H0:CH}{n b c e g:ki}{Q:Rs}{z:aK}
set_option tactic.hygienic true in
theorem Sat.wi{r0 x0 y0 y Y U:ki}{f:ki->ki->ki}(k:P.li=r0)(ex:P.lx=x0)(j:P.ly=y0)(V:∀r d,d<=(rhs P.R r).length->(r<r0∨r=r0/\d<y0)->f r d=P.it r d/\(r<y∨r=y/\d<U))
(J:∀r,ρ=.cJ r->(r<y∨r=y/\0<Y)->(r<r0∨r=r0/\0<x0))(o:∀r d,ρ=.item r d->d<=(rhs P.R r).length->(r<y∨r=y/\d+1<Y)->(r<r0∨r=r0/\d+1<x0))(s:Sat P ty v a ρ):Sat (P.wi ⟨y,Y,U,f⟩) ty v a ρ:=by
 subst k ex j
 cases ρ
 case cJ r=>exact{ s with a13:=λq=>s.a13 (J r rfl q) }
 case item r d=>exact{ s with pin:=s.pin.trans (V r d s.dk s.ex).1.symm,ex:=(V r d s.dk s.ex).2,a13:=λq=>s.a13 (o r d rfl s.dk q) }
 all_goals exact s
def Aft.ay{b:ki}(h:Aft R t r d b)(k:Kn t y):Aft R y r d b:=by
 exact h.imp λρ h=>⟨k h.1 h.2.own.1,h.2⟩
namespace W
variable{M:MT}{l a b:cp CS}{Q:NE}{X:No}{L:EN}
def I8{q:Exc}(V:Ev L H U x)(k:Ev L H v y)(g:eD H x y=aM (.error q))(r:X q ⟨H,L⟩):ae Y M (.asg t (.ix U v)::l) ⟨H,L⟩ Q X:=V _ _ _ _ (k _ _ _ _ ⟨.error q,g,r⟩)
def G4{z:CV}{q:Exc}(k:Ev L H U x)(j:Ev L H v y)(J:Ev L H V z)(g:eD H y z=aM (.error q))(r:X q ⟨H,L⟩):ae Y M (.asg t (.ix U (.ix v V))::l) ⟨H,L⟩ Q X:=k _ _ _ _ (j _ _ _ _ (J _ _ _ _ ⟨.error q,g,r⟩))
def Fi{p i k:ki}{y:cp CV}(V:L 3=aM (.int i))(j:L 1=aM (.ref p))(U:H.cls p=aM 100)(J:H.att 3 p=aM (.tup y))(o:y.length=k)(v:k<=100)(O:k<i->ae (ah fF mF (n+1)) M a ⟨H,L⟩ (bq (ah fF mF (n+1)) M l Q X) X)(f:i<=k->ae (ah fF mF (n+1)) M b ⟨H,L⟩ (bq (ah fF mF (n+1)) M l Q X) X) :
  ae (ah fF mF (n+1)) M (.ite (.cm .gt (.v 3) (.b1 .len (.v 1))) a b::l) ⟨H,L⟩ Q X:=by
 refine⟨_,V,_,j,?_⟩
 show HH (ah fF mF (n+1)) (.ref p) ⟨H,L⟩ _
 refine cast (K2 U).symm ?_
 subst o
 refine yd U J (cy v (e0 rfl)) ⟨_,rfl,eF v (by decide),_,rfl,_,rfl,?_⟩
 by_cases h:y.length<i
 ·erw[K2 (Ln (MP.mpr h))];exact O h
 ·erw[E1 λq=>h (MP.mp (p6 q))];exact f (O5 h)
end W
def tT{l:cp Lj}{d:ki}(Y:d<=l.length):((l.take d++pt::l.drop d).map CV.str)[d+1 ]?=l[d]?.map .str:=
 have y:(l.take d).length=d:=Q6 Y
 Mg.trans (dd (My CV.str) ((getElem?_append_right (cy (p8 y) (MA d))).trans ((dd ((pt::l.drop d)[·]?) ((dd (d+1 - ·) y).trans (QW ..))).trans Pk)))
def Bt{l:cp Lj}{d j:ki}(y:d<=l.length)(h:j<d):((l.take d++pt::l.drop d).map CV.str)[j]?=l[j]?.map .str:=
 Mg.trans (dd (My CV.str) ((Nl (MI h (Q6 y).symm)).trans (TF h)))
def D8{i:ki}{l:cp CV}(y:l[i]?=none)(Y:i<1000):eD H (.tup l) (.int i)=aM (.error .index):=GV (mA.trans y) ⟨Pq (by decide) (Ms i),MP.mpr Y⟩
theorem G5(h:l≠[]):∃w,atI l (-1)=aM w:=by
 cases l with
 | nil=>exact p7 rfl h
 | cons a t=>
  have e:(-1:Nj)+((a::t).length:ki)=(t.length:ki):=(Int.add_comm _ _).trans (Qz (t.length:Nj) 1)
  exact⟨_,(E1 (by decide)).trans ((K2 (MG (Ms t.length) (Qo e.symm))).trans ((dd (λi:Nj=>(a::t)[i.toNat]?) e).trans (o2 (Lz t.length))))⟩
def yh{i:ki}{L:EN}{Q:NE}(N:Now H0 t0 P ty H)(G:aj P.R)(D:ty g=aM .bX)(p:P.kn=P.R.length)(E:i<=(rhs P.R r).length)
(I:H0.free c)(v:ty c=aM (.cA 135 f))(u:f 3=aM (.tup (((rhs P.R r).take i++pt::(rhs P.R r).drop i).map .str)))(z:L 0=aM (.ref g))(n:L 3=aM (.int i))(t:L 5=aM (.ref c))
(M:∀b ty' H',Now H0 t0 P ty' H'->ty' c=aM (.cA 135 λj=>if j=27 then aM (.ref b) else f j)->Kp c ty ty'->Aft P.R ty' r i b->ae V mF l ⟨H',L⟩ Q X) :
  ae V mF (.try [.asg (.at (.v 5) 27) (.ix (.at (.v 0) 18) (.ix (.at (.v 5) 3) (.op .add (.v 3) (.c (.int 1)))))] [.index,.key] [.asg (.at (.v 5) 27) (.li [])]::l) ⟨H,L⟩ Q X:=by
 have s:=N.T.gr D
 have Y:=tT E
 have U:Ev L H (.at (.v 0) 18) (.ref P.aPn):=.att (.v z) (N.T.gat D s.a18.1)
 have d:Ev L H (.at (.v 5) 3) (.tup (((rhs P.R r).take i++pt::(rhs P.R r).drop i).map .str)):=.att (.v t) (N.T.oat v rfl u)
 have m:Ev L H (.op .add (.v 3) (.c (.int 1))) (.int (i+1:ki)):=.add (.v n) .c
 have nil:(∀ty' b,ty' b=aM aK.rT->Aft P.R ty' r i b)->ae V mF [.asg (.at (.v 5) 27) (.li [])] ⟨H,L⟩ (bq V mF l Q X) FX:=λhA=>
  W.Fd N I v rfl t .nil λb t2 H2 N v J bF T k=>W.nil (by
   refine oAA (N.pro .rT bF J (N.T.L J)) λN J F=>?_
   exact M b _ _ N (F _ _ (Ma T) v) (λa ρ R h=>F _ _ (k _ _ R h).2 (k _ _ R h).1) (hA _ _ J))
 refine W.G2 ?_
 cases e:(rhs P.R r)[i]? with
 | none=>
  rw[e] at Y
  exact W.G4 U d m (D8 Y (eF (Lw (cy E (G.ln r))) (e0 rfl))) ⟨fp,nil λty' b h=>⟨_,h,(pz.eq e).mpr rfl⟩⟩
 | some x=>
  rw[e] at Y
  have S:Ev L H (.ix (.at (.v 5) 3) (.op .add (.v 3) (.c (.int 1)))) (.str x):=.ix d m (rZ Y)
  have Z:=ba x (G.sym r x (od e))
  refine mJ (N.T.sat _ _ s.a18.2) λC es o K n3=>?_
  have o:H.dct P.aPn=aM es:=o
  by_cases O:x∈aC
  ·refine aA (G.has x O) λk h1 h2 h3=>?_
   refine oEA (be (h3▸n3 k h1 (p▸h2))) λw hw hm=>?_
   refine eK (K.ks _ hm) λy C B b e2 hb C=>?_
   obtain rfl:=CV.str.inj B
   exact W.tL N I v rfl (.v t) (.ix U S (getD N.T o Z (hw.trans (dd aM e2)))) λt2 H2 N A k=>W.nil (M b _ _ N A k ⟨_,(k.nn v) hb,(pz.eq e).mpr ((K2 O).mpr rfl)⟩)
  ·refine W.I8 U S (Ff N.T o Z (cH.mpr λh=>?_)) ⟨oo _ fp,nil λty' b h=>⟨_,h,(pz.eq e).mpr ((E1 O).mpr rfl)⟩⟩
   refine oEA (p9.mp h) λq hq e=>?_
   refine aA (K.ks q hq) λy hy B C=>?_
   exact O (CV.str.inj (e.symm.trans B)▸hy)
def vD{i:ki}{L:EN}{Q:NE}(N:Now H0 t0 P ty H)(J:i<=(rhs P.R r).length)
(p:H0.free c)(Y:ty c=aM (.cA 135 f))(t:f 3=aM (.tup (((rhs P.R r).take i++pt::(rhs P.R r).drop i).map .str)))(T:L 3=aM (.int i))(o:L 5=aM (.ref c))
(C:∀w ty' H',Now H0 t0 P ty' H'->ty' c=aM (.cA 135 λj=>if j=28 then aM w else f j)->Kp c ty ty'->(∀e x,i=e+1->(rhs P.R r)[e]?=aM x->w=.str x)->ae V mF l ⟨H',L⟩ Q X) :
  ae V mF (.try [.asg (.at (.v 5) 28) (.ix (.at (.v 5) 3) (.op .sub (.v 3) (.c (.int 1))))] [.index] [.asg (.at (.v 5) 28) (.c .none)]::l) ⟨H,L⟩ Q X:=by
 have U:∃w,atI (((rhs P.R r).take i++pt::(rhs P.R r).drop i).map CV.str) ((i:Nj) - 1)=aM w/\(∀e x,i=e+1->(rhs P.R r)[e]?=aM x->w=.str x):=by
  cases i with
  | zero=>exact(G5 λe=>PP _ _ (TT.mp (map_eq_nil_iff.mp e)).2).imp λw h=>⟨h,λe x q=>p7 q.symm (MK e)⟩
  | succ j=>
   obtain⟨y,O⟩:∃y,(rhs P.R r)[j]?=aM y:=⟨_,o2 J⟩
   exact⟨.str y,(dd (atI _) (Qz (j:Nj) 1)).trans (mA.trans ((Bt J (Lz j)).trans (dd (My CV.str) O))),λe x q h=>by
    obtain rfl:=Oa q
    exact dd CV.str (ey (O.symm.trans h))⟩
 refine oEA U λw B v=>?_
 exact W.G2 (W.tL N p Y rfl (.v o) (.ix (.att (.v o) (N.T.oat Y rfl t)) (.sub (.v T) .c) (Bj B)) λa A N Y k=>W.nil (C w _ _ N Y k v))
structure BL(g p D9 i c4:ki)(L:EN):Prop where
 l0:L 0=aM (.ref g)
 l1:L 1=aM (.ref p)
 l2:L 2=aM (.ref D9)
 l3:L 3=aM (.int i)
 l4:L 4=aM (.ref c4)
def xc(ty:TY)(p y r i:ki):Prop:=(i=0/\y=p)∨∃j,i=j+1/\ty y=aM (.item r j)
def Bu{p i r:ki}(N:Now H0 t0 P ty H)(J:P.li=r)(l:P.lx=i)(o:P.ly=i+1)(t:P.it=f)(T:ty p=aM (.cJ r))(O:xc ty p U r i)(x:ty c=aM (.item r i))(B:i<=(rhs P.R r).length) :
  (∃k,H.cls U=aM k/\bn k=true)/\Now H0 t0 (P.wi ⟨r,i+1,i+1,f⟩) ty (H.bw 13 U (.ref c)):=by
 have C:∀{v:Ob} {a:ki} {ρ:aK},(∀Y,ρ=.cJ Y->i=0->Y≠r)->(∀Y d,ρ=.item Y d->d+1=i->Y≠r)->Sat P ty v a ρ->Sat (P.wi ⟨r,i+1,i+1,f⟩) ty v a ρ:=λ{v a ρ} q1 q2 s=>
  s.wi J l o (λY d V h=>⟨by exact LH t rfl,h⟩) (λY e q=>q.imp id λz=>⟨z.1,Nd λh=>q1 Y e h z.1⟩) λY d e V q=>q.imp id λz=>⟨z.1,Se (tc z.2) λh=>q2 Y d e h z.1⟩
 rcases O with⟨rfl,rfl⟩ | ⟨j,rfl,O⟩
 ·have y:=N.T.pd T
  refine⟨⟨_,y.cls,rfl⟩,N.bw T (aq y.cls) (λa ρ L V s=>C (λY e V q=>?_) (λV V V q=>nomatch q) s) { y with a13:=λV=>⟨c,rfl,x⟩,a2:=y.a2,a3:=y.a3,a4:=y.a4,a8:=y.a8,a9:=y.a9,a11:=y.a11,a0:=y.a0,a1:=y.a1 }⟩
  subst e;subst q
  exact L (s.pr.trans y.pr.symm)
 ·have y:=N.T.it O
  refine⟨⟨_,y.cls,rfl⟩,N.bw O (aq y.cls) (λa ρ L V s=>C (λV V q=>nomatch q) (λY d e q q2=>?_) s) { y with pin:=y.pin.trans (by erw[t];rfl),ex:=o▸J▸y.ex,a13:=λV=>.inl ⟨B,c,rfl,x⟩,a2:=y.a2,a3:=y.a3,a4:=y.a4,a10:=y.a10,a11:=y.a11,a15:=y.a15,a27:=y.a27,a28:=y.a28 }⟩
  subst e;cases q;subst q2
  exact L (s.pin.trans y.pin.symm)
def G6{p l i:ki}{K:NE}(N:Now H0 t0 P ty H)(G:aj P.R)(hg:ty g=aM .bX)(R:ty p=aM (.cJ r))(hr:r<P.k)(S:P.kn=P.R.length)
(X:P.li=r)(Z:P.lx=i)(u:P.ly=i)(J:i<=(rhs P.R r).length)(hl:xc ty p k r i)
(h4:ty l=aM (.ak M))(Q:H0.free l)(e:M.length=i)(m:BL g p k i l L)
(hQ:∀c ty' H' L' f,Now H0 t0 (P.wi ⟨r,i+1,i+1,f⟩) ty' H'->ty' c=aM (.item r i)->ty' l=aM (.ak (M++[.ref c]))->Kp l ty ty'->BL g p c (i+1) l L'->K .next ⟨H',L'⟩) :
  ae (ah fF mF (n+1)) mF bI ⟨H,L⟩ K FX:=by
 have t:=N.T.pd R
 have Y:=G.ln r
 refine W.Fi m.l3 m.l1 t.cls t.a3 (h7 _) (cy Y (e0 rfl)) (λq=>p7 J (SL q)) λU=>?_
 refine W.nw (.two (.v m.l1) (.v m.l3)) rfl λc hc=>vx (d:=i) N.T hc R (cy Y (e0 rfl)) J λt1 H1 f b T O C F=>⟨rfl,?_⟩
 have cF:=N.live c hc
 have y:∀a ρ,ty a=aM ρ->t1 a=aM ρ/\a≠c:=λa ρ h=>⟨T.get N.T h,N.T.ne h hc⟩
 replace T:=N.call T
 clear N
 refine yh T G (y _ _ hg).1 S J cF O F.f3 m.l0 m.l3 rfl λz0 t3 H3 N3 v k3 B=>?_
 refine vD N3 J cF v F.f3 m.l3 rfl λw D H4 N4 V E hw=>W.nil ?_
 replace y:∀a ρ,ty a=aM ρ->D a=aM ρ/\a≠c:=λa ρ h=>⟨E _ _ (y _ _ h).2 (k3 _ _ (y _ _ h).2 (y _ _ h).1),(y _ _ h).2⟩
 replace B:=B.ay λ{U U} h o=>E _ _ (bh h o v rfl) h
 replace C:=(E.nn v) ((k3.nn O) C)
 clear T N3 k3 E O v
 have I:Now H0 t0 (P.wi ⟨r,i,i+1,λr' d=>if r'=r/\d=i then c else P.it r' d⟩) D H4:=N4.par λa ρ U s=>s.wi X Z u (λr' d U h=>⟨E1 λz=>h.elim (λh=>p7 z.1 (Lu h)) λh=>p7 z.2 (Lu h.2),h.imp id λh=>⟨h.1,Nn h.2⟩⟩) (λU U q=>q) λU U U U q=>q
 have A:=I.T.A V
 refine oAA (I.pro (.item r i) cF V ⟨(K2 ⟨rfl,rfl⟩).symm,.inr ⟨rfl,Lz i⟩,hr,J,I.T.C V,(A 2).trans F.f2,(A 3).trans F.f3,(A 4).trans F.f4,(A 10).trans F.f10,⟨b,(A 11).trans F.f11,C⟩,(A 15).trans F.f15,⟨z0,A 27,B⟩,⟨w,A 28,hw⟩,λq=>(show r<r∨r=r/\i+1<i from q).elim (λq=>p7 q (MR r)) λq=>p7 q.2 (OG (MA i))⟩) λN6 O k6=>?_
 replace y:∀a ρ,ty a=aM ρ->upd D c (.item r i) a=aM ρ/\a≠c:=λa ρ h=>⟨k6 _ _ (y _ _ h).2 (y _ _ h).1,(y _ _ h).2⟩
 clear N4 I k6 V A B C hw
 generalize upd D c (.item r i)=t6 at *
 refine oA (Bu N6 rfl rfl rfl rfl (y _ _ R).1 (hl.imp id λh=>h.imp λj h=>⟨h.1,(y _ _ h.2).1⟩) O J) λx N7=>?_;obtain⟨d,q1,q2⟩:=x
 refine W.bw (.v rfl) (.v m.l2) q1 q2 ?_
 refine W.fy (.nt (.v rfl) (Bh N7.T (N7.T.it O).cls rfl)) rfl (W.nil ?_)
 refine W.f7 N7 Q (y _ _ h4).1 (.v m.l4) (.v rfl) (by erw[e];exact eF (cy J Y) (e0 rfl)) λt8 H8 N8 g8 k8=>?_
 exact W.asg (.v rfl) (W.fS m.l3 .c (.inl rfl) (hQ c t8 H8 _ _ N8 (k8 _ _ (Ma (y _ _ h4).2) O) g8 (λa ρ ha h=>k8 _ _ ha (y _ _ h).1) ⟨m.l0,m.l1,rfl,rfl,m.l4⟩))
def Ea{p i:ki}{K:NE}(N:Now H0 t0 P ty H)(G:aj P.R)(x:ty p=aM (.cJ r))(v:P.li=r)(f:P.lx=i)(V:P.ly=i)(k:i=(rhs P.R r).length+1)(O:xc ty p Y r i)(m:BL g p Y i l L)
(C:∀H' t,Now H0 t0 (P.wi ⟨r,i+1,i,P.it⟩) ty H'->BL g p Y i l t->K .brk ⟨H',t⟩):ae (ah fF mF (n+1)) mF bI ⟨H,L⟩ K FX:=by
 have J:=N.T.pd x
 have o:=G.ln r
 refine W.Fi m.l3 m.l1 J.cls J.a3 (h7 _) (cy o (e0 rfl)) (λU=>?_) λq=>p7 q (SL (k.symm▸Lz _))
 refine W.asg .c (W.nil ?_)
 rcases O with⟨q,_⟩ | ⟨j,q,O⟩
 ·exact p7 (k.symm.trans q) (MK _)
 obtain rfl:j=(rhs P.R r).length:=Oa (q.symm.trans k)
 have y:=N.T.it O
 refine W.bw (.v rfl) (.v m.l2) y.cls rfl ?_
 refine W.fZ (.nt (b:=false) (.v rfl) rfl) rfl (W.brk (C _ _ (N.bw O (aq y.cls) (λa ρ B U s=>s.wi v f V (λU U U h=>⟨rfl,h⟩) (λT U q=>q.imp id λz=>⟨z.1,k.symm▸MO _⟩) λT d e E q=>?_) { y with ex:=V▸v▸y.ex,a13:=λU=>.inr ⟨rfl,rfl⟩,a2:=y.a2,a3:=y.a3,a4:=y.a4,a10:=y.a10,a11:=y.a11,a15:=y.a15,a27:=y.a27,a28:=y.a28 }) ⟨m.l0,m.l1,m.l2,m.l3,m.l4⟩))
 subst e
 by_cases e:T=r/\d=(rhs P.R r).length
 ·refine oA e λA D=>?_
  subst A;subst D
  exact p7 (s.pin.trans y.pin.symm) B
 ·exact q.imp id λz=>⟨z.1,Se (tc z.2) λh=>e ⟨z.1,Oa (h.trans k)⟩⟩
inductive LRI(P:Par)(H0:CH)(t0 ty:TY)(g p r c4:ki)(k:ki)(H':CH)(L:EN):Prop
 | mk (i:ki) (f:ki->ki->ki) (ty':TY) (D9:ki) (l4:cp CV) (e:k=(rhs P.R r).length+2 - i) (hi:i<=(rhs P.R r).length+1) (N:Now H0 t0 (P.wi ⟨r,i,i,f⟩) ty' H') (h4:ty' c4=aM (.ak l4)) (hl:l4.length=i) (h:xc ty' p D9 r i) (k:Ka ty ty') (m:BL g p D9 i c4 L)
inductive LRJ(P:Par)(H0:CH)(t0 ty:TY)(g:ki)(i:ki)(H':CH)(L:EN):Prop
 | mk (hi:i<=P.k) (l0:L 0=aM (.ref g)) (f:ki->ki->ki) (ty':TY) (N:Now H0 t0 (P.wi ⟨i,0,0,f⟩) ty' H') (k:Ka ty ty')
def G7{p:ki}{L:EN}{K:NE}(N:Now H0 t0 P ty H)(G:aj P.R)(u:ty g=aM .bX)(J:ty p=aM (.cJ r))(z:r<P.k)(O:P.kn=P.R.length)
(l:P.li=r)(t:P.lx=0)(T:P.ly=0)(Q:L 0=aM (.ref g))(D:L 1=aM (.ref p))
(w:∀f ty' H' E,Now H0 t0 (P.wi ⟨r+1,0,0,f⟩) ty' H'->E 0=aM (.ref g)->Ka ty ty'->K .next ⟨H',E⟩):ae (ah fF mF (n+1)) mF db ⟨H,L⟩ K FX:=by
 refine W.asg (.v D) (W.asg .c (W.jh N .nil λb t1 H1 N1 h4 x I=>?_))
 have M:=G.ln r
 refine whl (J:=LRI P H0 t0 ty g p r b) _ ⟨0,P.it,t1,p,[],rfl,Lp _,N1.par λa ρ y s=>s.wi l t T (λy y y h=>⟨rfl,h⟩) (λy y q=>q) λy y y y q=>q,h4,rfl,.inl ⟨rfl,rfl⟩,I.aa,Q,D,rfl,rfl,rfl⟩ ?_
 rintro k H2 L2 ⟨i,f,t2,F,l4,rfl,hi,R,C,V,S,v,m⟩
 refine⟨_,true,.c,rfl,ntf,λy K' X=>?_⟩
 by_cases U:i<=(rhs P.R r).length
 ·exact G6 (i:=i) R G (v _ _ u) (v _ _ J) z O rfl rfl rfl U S C x V m λc t3 H3 L3 f' o hc B k3 j=>X.nxt ⟨(rhs P.R r).length+2 - (i+1),Ux _ _ (Mz (PG U)),i+1,f',t3,c,_,rfl,Lw U,o,B,by(erw[GE];erw[V]);rfl,.inr ⟨i,rfl,hc⟩,λa ρ h=>k3 _ _ (I _ _ h).2 (v _ _ h),j⟩
 ·refine Ea (i:=i) R G (v _ _ J) rfl rfl rfl (ME hi (QV U)) S m λH3 L3 o j=>X.brk ?_
  have Y:=o.T.pd (v _ _ J)
  refine W.bw (.v j.l4) (.v j.l1) Y.cls rfl (w f t2 _ _ (o.bw (v _ _ J) (aq Y.cls) (λa ρ ha y s=>Sat.wi (P:=P.wi ⟨r,i+1,i,f⟩) (r0:=r) (x0:=i+1) (y0:=i) rfl rfl rfl (λA d Z h=>⟨rfl,?_⟩) (λA y q=>?_) (λA d y Z q=>?_) s) { Y with a13:=λy=>Y.a13 (.inr ⟨rfl,MO i⟩),a2:=Y.a2,a3:=Y.a3,a4:=Y.a4,a8:=Y.a8,a9:=Y.a9,a11:=Y.a11,a0:=Y.a0,a1:=Y.a1 }) j.l0 v)
  ·exact .inl (h.elim Nn λh=>Mz (p8 h.1))
  ·exact q.elim (λq=>(LV (tc q)).imp id λe=>⟨e,MO i⟩) λq=>p7 q.2 (MR 0)
  ·exact q.elim (λq=>(LV (tc q)).imp id λe=>⟨e,PW (eF (e▸(show d<=(rhs P.R A).length from Z)) (QV U))⟩) λq=>p7 q.2 (MD _)
def dX{a:ki}(T:au P ty H)(h:ty a=aM .jd)(y:P.kq=P.k)(U:0<P.k)(Y:P.z=true):H.lst a=aM ((Lk P.k).map λi=>CV.ref (P.pr i))/\∀i,i<P.k->ty (P.pr i)=aM (.cJ i):=by
 refine oAA (T.sat _ _ h) λV q1 q2=>?_
 refine⟨q1.trans (dd aM ?_),λi v=>q2 i (y▸v) (.inl Y)⟩
 rw[Y,y,Um,show P.k=(P.k - 1)+1 from(MZ U).symm,Vk];rfl
def Bv(N:Now H0 t0 P ty H)(G:aj P.R)(k:ty g=aM .bX)(C:P.k=P.R.length)(J:P.kq=P.k)(p:P.kn=P.R.length)(B:P.z=true)(l:P.li=0)(L:P.lx=0)(t:P.ly=0)
(D:∀f ty' H',Now H0 t0 (P.wi ⟨P.R.length,0,0,f⟩) ty' H'->Ka ty ty'->Q .none H'):ah fF mF (n+2) 280 [.ref g] H Q:=by
 refine bK [.ref g] (d:=dI) rfl rfl rfl rfl λS y v=>?_
 have o:=G.len
 have O:0<P.k:=rf (MO 3) (C.symm▸o.1)
 refine frL (ys:=Lk P.k) (f:=λi=>.ref (P.pr i)) (a:=P.aP) (I:=LRJ P H0 t0 ty g) (.att (.v rfl) (N.T.gat k (N.T.gr k).a17.1)) ⟨Lp _,rfl,P.it,ty,N.par λa ρ y s=>s.wi l L t (λy y y h=>⟨rfl,h⟩) (λy y q=>q) λy y y y q=>q,λy y h=>h⟩ ?_ ?_ ?_
 ·rintro i T A ⟨_,_,f,x,Y,V⟩
  exact aV (dX (P:=P.wi ⟨i,0,0,f⟩) Y.T (Y.T.gr (V _ _ k)).a17.2 J O B).1
 ·rintro i j T A K E ⟨W,I,f,x,Y,V⟩ M
  obtain⟨U,e⟩:=kO.mp E
  rw[Oo] at e
  subst e
  rw[LJ] at U
  exact G7 Y G (V _ _ k) ((dX (P:=P.wi ⟨i,0,0,f⟩) Y.T (Y.T.gr (V _ _ k)).a17.2 J O B).2 i U) U p rfl rfl rfl I rfl λd m X Z r F R=>M.nxt ⟨U,F,d,m,r,V.t R⟩
 ·rintro T A ⟨_,_,f,x,Y,V⟩
  rw[LJ] at Y
  exact v (D f x T (C▸Y) V)
end
def Par.wf(P:Par)(F:PF):Par:={ P with toPF:=F }
def Par.wo(P:Par)(F:PO):Par:={ P with toPO:=F }
def b6{z:Type}(f:Lj->z)(x:Lj)(v:z):Lj->z:=λy=>if y=x then v else f y
def fJ{z:Type}{f:Lj->z}{v:z}:b6 f x v x=v:=K2 rfl
def eR{z:Type}{f:Lj->z}{v:z}(h:y≠x):b6 f x v y=f y:=E1 h
def PF.new(F:PF)(x:Lj)(b:ki)(l:cp Lj):PF:={ F with fe:=false,af:=b6 F.af x (aM b),fc:=b6 F.fc x l }
def PF.fcU(F:PF)(fc:Lj->cp Lj):PF:={ F with fc:=fc }
def PO.new(F:PO)(x:Lj)(b:ki)(l:cp Lj):PO:={ F with ge:=false,ao:=b6 F.ao x (aM b),fo:=b6 F.fo x l }
def PO.foU(F:PO)(fo:Lj->cp Lj):PO:={ F with fo:=fo }
def oQ{l:cp Lj}(h:l.Nodup)(z:∀x∈l,x∈laS):l.length<=5:=br h z
def mu(c:Lj->cp Lj):Nat:=(5 - (c sS).length)+(5 - (c sA).length)+(5 - (c sB).length)
def xd{c:Lj->cp Lj}{x y:Lj}(Q:x∈aC)(h:(c x).length<5):mu (b6 c x (c x++[y]))<mu c:=by
 have E:5 - (b6 c x (c x++[y]) x).length<5 - (c x).length:=(dd (λl=>5 - Nc l<_) fJ).mpr ((dd (5 - ·<_) GE).mpr (Nat.sub_lt_sub_left h (Lz _)))
 have e:∀z,5 - (b6 c x (c x++[y]) z).length<=5 - (c z).length:=λz=>(Decidable.em (z=x)).elim (λq=>by cases q;exact y1 E) λq=>p8 (dd (λl=>5 - Nc l) (eR q))
 rcases Q with _ | ⟨_,_ | ⟨_,_ | ⟨_,⟨⟩⟩⟩⟩
 ·exact O3 (O3 E (e _)) (e _)
 ·exact O3 (Ts (e _) E) (e _)
 ·exact Ts (LY (e _) (e _)) E
structure Dn(q q':LG)(a b:ki):Prop where
 le:b<=a
 lt:q'=true->q=true∨b<a
def Dn.r{q:LG}:Dn q q a a:=⟨Lf _,.inl⟩
def Dn.t{q:LG}(h:Dn q Q a b)(k:Dn Q z b c):Dn q z a c:=
 ⟨cy k.le h.le,λe=>(k.lt e).elim (λe=>(h.lt e).imp id (eF k.le)) λe=>.inr (rf e h.le)⟩
section
variable{P y:Par}{ty t0 ty':TY}{H H' H0:CH}{n b c g:ki}{Q:Rs}{z w:aK}
structure RL(ty:TY)(c:ki)(r:cp Lj):Prop where
 t:ty c=aM (.ak (r.map .str))
 nd:r.Nodup
 la:∀y∈r,y∈laS
def Bw{x:Lj}(T:au P ty H)(k:ty g=aM .bX)(j:P.ff=true)(J:x∈bm):∃b Y,H.dct P.aF=aM Y/\aw Y (.str x)=aM (.ref b)/\ty b=aM (.fst x)/\P.af x=aM b/\H.lst b=aM ((P.fc x).map .str)/\(P.fc x).Nodup/\∀y∈P.fc x,y∈laS:=by
 refine dv (T.sat _ _ (T.gr k).a22.2) λU Y o O U p=>?_
 refine oEA (be (p j x J)) λw f l=>?_
 refine eK (O.ks _ l) λy U L b e v V=>?_
 obtain rfl:=CV.str.inj L
 exact⟨b,Y,o,f.trans (dd aM e),v,V,(T.sat _ _ v).2 V⟩
def vE{x:Lj}(T:au P ty H)(k:ty g=aM .bX)(j:P.fz=true)(J:x∈aC):∃b Y,H.dct P.aFo=aM Y/\aw Y (.str x)=aM (.ref b)/\ty b=aM (.fol x)/\P.ao x=aM b/\H.lst b=aM ((P.fo x).map .str)/\(P.fo x).Nodup/\∀y∈P.fo x,y∈laS/\y≠gZ:=by
 refine dv (T.sat _ _ (T.gr k).a23.2) λU Y o O U p=>?_
 refine oEA (be (p j x J)) λw f l=>?_
 refine eK (O.ks _ l) λy U L b e v V=>?_
 obtain rfl:=CV.str.inj L
 exact⟨b,Y,o,f.trans (dd aM e),v,V,(T.sat _ _ v).2 V⟩
def G8:aZ gZ:=dt (by decide)
inductive FI2(P:Par)(H0:CH)(t0 ty:TY)(g c:ki)(H':CH)(L':EN):Prop
 | mk (r:cp Lj) (ty':TY) (N:Now H0 t0 P ty' H') (k:Kp c ty ty') (h:RL ty' c r) (he:gZ∉r) (l0:L' 0=aM (.ref g)) (l2:L' 2=aM (.ref c)) (q:LG) (l4:L' 4=aM (.bool q))
inductive FI1(P:Par)(H0:CH)(t0 ty:TY)(g c:ki)(H':CH)(L':EN):Prop
 | mk (r:cp Lj) (ty':TY) (N:Now H0 t0 P ty' H') (k:Kp c ty ty') (h:RL ty' c r) (he:gZ∉r) (l0:L' 0=aM (.ref g)) (l2:L' 2=aM (.ref c))
def Bx{x:Lj}{L:EN}{K:NE}(N:Now H0 t0 P ty H)(T:ty g=aM .bX)(C:P.ff=true)(I:x∈bm)(M:RL ty c r)(B:H0.free c)(U:gZ∉r)
(s:L 0=aM (.ref g))(F:L 2=aM (.ref c))(R:L 3=aM (.str x))
(d:∀(m:cp Lj) ty' H' a f,Now H0 t0 P ty' H'->Kp c ty ty'->RL ty' c m->gZ∉m->a 0=aM (.ref g)->a 2=aM (.ref c)->(f=.next∨f=.brk)->K f ⟨H',a⟩) :
  ae (ah fF mF n) mF fj ⟨H,L⟩ K FX:=by
 refine fR (Bw N.T T C I) λb es S X Z G f1 f2 u=>?_
 refine W.asg .c ?_
 refine frL (ys:=P.fc x) (f:=.str) (I:=λO=>FI2 P H0 t0 ty g c) (.ix (.att (.v s) (N.T.gat T (N.T.gr T).a22.1)) (.v R) (getD N.T S (ba _ I) X)) ⟨r,ty,N,.r,M,U,s,F,false,rfl⟩ ?_ ?_ ?_
 ·rintro i p l ⟨r,J,v,V,Y,_⟩
  exact aV ((v.T.sat _ _ ((V.nn M.t) Z)).2 G).1
 ·rintro i y p l K A ⟨r,J,v,V,Y,U,o,k,q,t⟩ D
  have j:=u y (od A)
  refine W.f6 (.cm (.v rfl) .c (eqS (dt j) G8)) (λO=>W.asg .c (W.nil (D.nxt ⟨r,J,v,V,Y,U,o,k,true,rfl⟩))) λz=>?_
  refine W.rX (.cm (.v rfl) (.v k) (lh (dT (v.T.gL Y.t) (λy A=>dt (Y.la y A)) (dt j)))) (λQ=>?_) λO=>W.nil (W.nil (D.nxt ⟨r,J,v,V,Y,U,o,k,q,t⟩))
  refine W.f7 v B Y.t (.v k) (.v rfl) (by erw[h7 _];exact eF (oQ Y.nd Y.la) (e0 rfl)) λw H3 e E k3=>W.nil (W.nil (D.nxt ⟨r++[y],w,e,V.t k3,⟨by erw[LP];exact E,cQ Y.nd Q,cC Y.la j⟩,λh=>(LB.mp h).elim U λh=>z (n2.mp h).symm,o,k,q,t⟩))
 ·rintro p l ⟨r,J,v,V,Y,U,o,k,q,t⟩
  exact W.ite (.v t) rfl (λO=>W.mK (W.nil (d r J p l .next v V Y U o k (.inl rfl)))) λO=>W.brk (d r J p l .brk v V Y U o k (.inr rfl))
def By{l:cp Lj}(N:Now H0 t0 P ty H)(F:ty g=aM .bX)(t:P.ff=true)(R:∀x∈l,x∈bm)
(D:∀c r ty' H',Now H0 t0 P ty' H'->Ka ty ty'->RL ty' c r->Q (.ref c) H'):ah fF mF (n+1) 258 [.ref g,.tup (l.map .str)] H Q:=by
 refine bK [.ref g,.tup (l.map .str)] (d:=gU) rfl rfl rfl rfl λb v S=>?_
 refine W.jh N .nil λc T e X Z E I=>?_
 have C:∀{J},Kp c T J->Ka ty J:=λV a z h=>V _ _ (I _ _ h).2 (I _ _ h).1
 refine frT (ys:=l) (f:=.str) (I:=λS=>FI1 P H0 t0 T g c) (.v rfl) ⟨[],T,X,.r,⟨Z,LR,aO⟩,Le,rfl,rfl⟩ ?_ ?_
 ·rintro i x G u K q ⟨r,J,B,V,Y,k,M,o⟩ s
  refine Bx B (C V _ _ F) t (R x (od q)) Y E k M o rfl λd O A L3 f p L U j w m y=>?_
  rcases y with rfl | rfl
  ·exact s.nxt ⟨d,O,p,V.t L,U,j,w,m⟩
  ·exact s.brk (W.ret (.v m) (v (D c d O A p (C (V.t L)) U)))
 ·rintro G u ⟨r,J,B,V,Y,k,M,o⟩
  exact W.f7 B E Y.t (.v o) .c (by erw[h7 _];exact eF (oQ Y.nd Y.la) (e0 rfl)) λO A p U L=>W.nil (W.ret (.v o) (v (D c (r++[gZ]) O A p (C (V.t L)) ⟨by erw[LP];exact U,cQ Y.nd k,cC Y.la (by decide)⟩)))
end
def vF(H:CH)(a:ki)(x:Lj):Prop:=∃z,H.dct a=aM z/\aw z (.str x)≠none
section
variable{P w:Par}{ty t0 ty':TY}{H H' H0:CH}{n b c e g:ki}{Q:Rs}{z:aK}
def SD.put{V:Lj->rt ki}{x:Lj}(h:SD ty D f (λy c=>V y=aM c) es)(J:x∈D)(k:Ka ty ty')(o:ty' b=aM (f x)):SD ty' D f (λy c=>b6 V x (aM b) y=aM c) (bf es (.str x) (.ref b)):=by
 refine⟨λp j=>?_,dc h.nd⟩
 have Y:=bV j
 by_cases q:p=(.str x,.ref b)
 ·exact⟨x,J,by exact LH q rfl,b,by exact LH q rfl,o,fJ⟩
 ·refine eK (h.ks p (Y.resolve_right q)) λy O e c l L t=>?_
  refine⟨y,O,e,c,l,k _ _ L,(eR λT=>q ?_).trans t⟩
  subst T
  have U:aw (bf es (.str y) (.ref b)) (.str y)=aM (.ref b):=by(erw[bt];exact LH (K2 rfl) rfl)
  exact MX e ((λ{v w:CV} (U:(CV.str y,v)∈_) (C:(CV.str y,w)∈_)=>(Ra (lp (dc h.nd) U C rfl)).2) (e▸j) (du U))
set_option tactic.hygienic true in
theorem iI(h:y=x∨aw Y y≠none):aw (bf Y x v) y≠none:=by
 erw[bt]
 split
 ·exact Lm _
 ·rename_i q;exact h.resolve_left λe=>q e.symm
namespace W
variable{U:PT}{M:MT}{Q:NE}{X:No}{L:EN}{r:cp Lj}
def G9(N:Now H0 t0 P ty H)(B:ty g=aM .bX)(A:L 0=aM (.ref g))(h:Evs L H Y (r.map .str))(D:∀H,Ev L H k (.str x))(O:x∈dC::bm)(E:r.Nodup)(I:∀y∈r,y∈laS)(p:P.ff=false)
(z:∀b ty' H',Now H0 t0 (P.wf (P.toPF.new x b r)) ty' H'->Ka ty ty'->(∀y,y=x∨vF H P.aF y->vF H' P.aF y)->ae U M l ⟨H',L⟩ Q X):ae U M (.asg (.ix (.at (.v 0) 22) k) (.li Y)::l) ⟨H,L⟩ Q X:=by
 have J:=N.T.gr B
 refine dv (N.T.sat _ _ J.a22.2) λf d V t c n=>?_
 have V:H.dct P.aF=aM d:=V
 refine W.dL h A J.cls rfl J.a22.1 V D (vp x O) (eF t.len (e0 rfl)) λb T=>?_
 refine N.D6 (P':=P.wf (P.toPF.new x b r)) (G:=λH=>ae U M l ⟨H,L⟩ Q X) (.fst x) T J.a22.2 (aq V) (λa ρ m i s=>?_) (λF=>⟨Lm _,λF=>(show _=aM ((b6 P.fc x r x).map _)/\(b6 P.fc x r x).Nodup/\∀y∈b6 P.fc x r x,y∈laS by erw[fJ];exact⟨rfl,E,I⟩)⟩) (λC o=>⟨f,_,rfl,t.put O o.aa C,ff,λq=>?_⟩) λty' H' R C o S=>z b ty' H' R o.aa λy Z=>⟨_,S,iI (Z.imp (dd _) λ⟨w,q1,q2⟩=>ey (V.symm.trans q1)▸q2)⟩
 ·by_cases q:∃y,ρ=.fst y
  ·refine oE q λy j=>?_;subst j
   refine⟨s.1,λv=>?_⟩
   have v:b6 P.af x (aM b) y=aM a:=v
   by_cases e:y=x
   ·subst e
    rw[fJ] at v
    exact p7 (ey v).symm (N.T.ne i T)
   ·rw[eR e] at v
    show _=aM ((b6 P.fc x r y).map _)/\(b6 P.fc x r y).Nodup/\∀z∈b6 P.fc x r y,z∈laS
    erw[eR e]
    exact s.2 v
  ·exact s.upF (λe=>by subst e;exact m (s.1.trans f.symm)) λy e=>q ⟨y,e⟩
 ·rw[show P.ff=true from q] at p;cases p
def I9(N:Now H0 t0 P ty H)(B:ty g=aM .bX)(A:L 0=aM (.ref g))(h:Evs L H Y (r.map .str))(D:∀H,Ev L H k (.str x))(O:x∈aC)(E:r.Nodup)(I:∀y∈r,y∈laS/\y≠gZ)(p:P.fz=false)
(z:∀b ty' H',Now H0 t0 (P.wo (P.toPO.new x b r)) ty' H'->Ka ty ty'->(∀y,y=x∨vF H P.aFo y->vF H' P.aFo y)->ae U M l ⟨H',L⟩ Q X):ae U M (.asg (.ix (.at (.v 0) 23) k) (.li Y)::l) ⟨H,L⟩ Q X:=by
 have J:=N.T.gr B
 refine dv (N.T.sat _ _ J.a23.2) λf d V t c n=>?_
 have V:H.dct P.aFo=aM d:=V
 refine W.dL h A J.cls rfl J.a23.1 V D (ba x (bL O)) (eF t.len (e0 rfl)) λb T=>?_
 refine N.D6 (P':=P.wo (P.toPO.new x b r)) (G:=λH=>ae U M l ⟨H,L⟩ Q X) (.fol x) T J.a23.2 (aq V) (λa ρ m i s=>?_) (λF=>⟨Lm _,λF=>(show _=aM ((b6 P.fo x r x).map _)/\(b6 P.fo x r x).Nodup/\∀y∈b6 P.fo x r x,y∈laS/\y≠gZ by erw[fJ];exact⟨rfl,E,I⟩)⟩) (λC o=>⟨f,_,rfl,t.put O o.aa C,ff,λq=>?_⟩) λty' H' R C o S=>z b ty' H' R o.aa λy Z=>⟨_,S,iI (Z.imp (dd _) λ⟨w,q1,q2⟩=>ey (V.symm.trans q1)▸q2)⟩
 ·by_cases q:∃y,ρ=.fol y
  ·refine oE q λy j=>?_;subst j
   refine⟨s.1,λv=>?_⟩
   have v:b6 P.ao x (aM b) y=aM a:=v
   by_cases e:y=x
   ·subst e
    rw[fJ] at v
    exact p7 (ey v).symm (N.T.ne i T)
   ·rw[eR e] at v
    show _=aM ((b6 P.fo x r y).map _)/\(b6 P.fo x r y).Nodup/\∀z∈b6 P.fo x r y,z∈laS/\z≠gZ
    erw[eR e]
    exact s.2 v
  ·exact s.upO (λe=>by subst e;exact m (s.1.trans f.symm)) λy e=>q ⟨y,e⟩
 ·rw[show P.fz=true from q] at p;cases p
def KO{m:ki}{b:cp CS}(j:Ev L H o (.ref c))(J:H.cls c=aM d)(O:bn d=true)(p:M d m=aM f)(T:H.att m c=none)(h:Evs L H Y y)(r:U f (.ref c::y) H λv H'=>ae U M (.fr t (.val (.c v)) b V::l) ⟨H',L⟩ Q X):ae U M (.fr t (.val (.me o m Y)) b V::l) ⟨H,L⟩ Q X:=
 j _ _ _ _ ⟨c,d,f,rfl,J,O,p,T,h _ _ _ _ r⟩
def Ha{z:CV}{b:cp CS}(N:Now H0 t0 P ty H)(o:Ev L H V (.ref c))(O:Ev L H j y)(p:Ev L H J z)(g:H.getL c=aM m)(f:cut m y z=aM m')(r:∀c ty' H',Now H0 t0 P ty' H'->ty' c=aM (.ak m')->H0.free c->K1 c ty ty'->ae U M (.fr t (.val (.c (.ref c))) b v::l) ⟨H',L⟩ Q X):ae U M (.fr t (.val (.sl V j J)) b v::l) ⟨H,L⟩ Q X:=
 o _ _ _ _ (O _ _ _ _ (p _ _ _ _ ⟨m,m',g,f,λc T=>N.nL (G:=λH=>ae U M (.fr t (.val (.c (.ref c))) b v::l) ⟨H,L⟩ Q X) T (r c)⟩))
end W
def Hc{y:Lj}(N:Now H0 t0 P ty H)(k:ty b=aM (.fst x))(j:P.af x=aM b)(o:y∉P.fc x)(O:y∈laS) :
  Now H0 t0 (P.wf (P.toPF.fcU (b6 P.fc x (P.fc x++[y])))) ty (H.aD b ((P.fc x).map .str++[.str y]))/\(P.fc x).length<5:=by
 refine oAA ((N.T.sat _ _ k).2 j) λp f l=>?_
 have Y:=cQ f o
 have U:=cC l O
 refine⟨N.aD k (aq (show H.lst b=_ from p)) (λa ρ V L s=>?_) ⟨Lm _,λt=>?_⟩,?_⟩
 ·by_cases q:∃z,ρ=.fst z
  ·refine oE q λz v=>?_;subst v
   refine⟨s.1,λJ=>?_⟩
   have e:z≠x:=λe=>by subst e;exact p7 (ey ((show P.af z=aM a from J).symm.trans j)) V
   show _=aM ((b6 P.fc x _ z).map _)/\(b6 P.fc x _ z).Nodup/\∀w∈b6 P.fc x _ z,_
   erw[eR e]
   exact s.2 J
  ·by_cases q2:ρ=.pu
   ·subst q2;exact s
   ·exact s.upF q2 λy e=>q ⟨y,e⟩
 ·show _=aM ((b6 P.fc x _ x).map _)/\(b6 P.fc x _ x).Nodup/\∀w∈b6 P.fc x _ x,_
  erw[fJ]
  exact⟨by erw[LP];rfl,Y,U⟩
 ·have:=oQ Y U
  rw[GE] at this
  exact this
def Hd{y:Lj}(N:Now H0 t0 P ty H)(k:ty b=aM (.fol x))(j:P.ao x=aM b)(o:y∉P.fo x)(O:y∈laS/\y≠gZ) :
  Now H0 t0 (P.wo (P.toPO.foU (b6 P.fo x (P.fo x++[y])))) ty (H.aD b ((P.fo x).map .str++[.str y]))/\(P.fo x).length<5:=by
 refine oAA ((N.T.sat _ _ k).2 j) λp f l=>?_
 have Y:=cQ f o
 have U:=cC l O
 refine⟨N.aD k (aq (show H.lst b=_ from p)) (λa ρ V t s=>?_) ⟨Lm _,λT=>?_⟩,?_⟩
 ·by_cases q:∃z,ρ=.fol z
  ·refine oE q λz v=>?_;subst v
   refine⟨s.1,λJ=>?_⟩
   have e:z≠x:=λe=>by subst e;exact p7 (ey ((show P.ao z=aM a from J).symm.trans j)) V
   show _=aM ((b6 P.fo x _ z).map _)/\(b6 P.fo x _ z).Nodup/\∀w∈b6 P.fo x _ z,_
   erw[eR e]
   exact s.2 J
  ·by_cases q2:ρ=.pw
   ·subst q2;exact s
   ·exact s.upO q2 λy e=>q ⟨y,e⟩
 ·show _=aM ((b6 P.fo x _ x).map _)/\(b6 P.fo x _ x).Nodup/\∀w∈b6 P.fo x _ x,_
  erw[fJ]
  exact⟨by erw[LP];rfl,Y,U⟩
 ·have:=oQ Y λz L=>(U z L).1
  rw[GE] at this
  exact this
theorem pB{D:cp Lj}{Y:cp (CV×CV)}(h:∀p∈Y,∃x∈D,p.1=.str x):∃U:cp Lj,Y.map (·.1)=U.map .str/\∀x∈U,x∈D:=by
 induction Y with
 | nil=>exact⟨[],rfl,aO⟩
 | cons p Y v=>
  refine oEA (v λq V=>h q (oo _ V)) λU e k=>?_
  refine oEA (h p fp) λx j J=>?_
  exact⟨x::U,by(erw[Nv];erw[Nv];erw[e];exact LH J rfl),λy o=>(ta.mp o).elim (λe=>e▸j) (k y)⟩
def PA.nkU(A:PA)(y:cp Lj):PA:={ A with nk:=aM y }
def Par.wa(P:Par)(A:PA):Par:={ P with toPA:=A }
structure Nms(nk:rt (cp Lj))(ks:cp Lj):Prop where
 nk:nk=aM ks
 sub:∀x∈ks,x∈aC
 all:∀x∈aC,x∈ks
def bj(N:Now H0 t0 P ty H)(G:aj P.R)(f:ty g=aM .bX)(V:P.kt=P.R.length):∃Y:cp Lj,Now H0 t0 (P.wa (P.toPA.nkU Y)) ty H/\Nms (aM Y) Y:=by
 refine dv (N.T.sat _ _ (N.T.gr f).a21.2) λl L t T C I=>?_
 refine oEA (pB (D:=aC) λp B=>(T.ks p B).imp λx h=>⟨h.1,h.2.1⟩) λY O k=>?_
 refine⟨Y,N.par λa ρ M h=>?_,rfl,k,λx A=>?_⟩
 ·by_cases q:ρ=.gV
  ·subst q
   refine dv h λU j v J o s=>?_
   cases(show H.dct a=aM j from v).symm.trans ((U.trans l.symm)▸t)
   exact⟨U,L,v,J,o,λD E=>ey E▸O⟩
  ·cases ρ
   case gV=>exact p7 rfl q
   case bX=>exact⟨h.1,h.2.cls,h.2.a17,h.2.a18,h.2.a19,h.2.a20,h.2.a21,h.2.a22,h.2.a23,h.2.a24,h.2.no⟩
   case table=>exact⟨h.1,h.2.cls,h.2.a29,h.2.a30,h.2.a31,h.2.a32,h.2.a34,h.2.a35,h.2.a36,h.2.a40,h.2.a41,h.2.no⟩
   all_goals exact h
 ·refine aA (G.has x A) λi v J o=>?_
  have:=kf.mp (C i v (V▸J))
  rw[O,o] at this
  exact(p9.mp this).elim λy h=>CV.str.inj h.2▸h.1
structure CFL(g:ki)(nm:Lj)(q:LG)(L:EN):Prop where
 l0:L 0=aM (.ref g)
 l2:L 2=aM (.str nm)
 l3:L 3=aM (.bool q)
def Ja{nm y:Lj}{q:LG}{K:NE}(N:Now H0 t0 P ty H)(V:ty g=aM .bX)(k:P.ff=true)(Y:nm∈aC)(v:y∈laS)(m:CFL g nm q L)(j:L 5=aM (.str y))
(J:∀O H' p f,Now H0 t0 (P.wf (P.toPF.fcU O)) ty H'->Dn q f (mu P.fc) (mu O)->CFL g nm f p->K .next ⟨H',p⟩):ae (ah fF mF n) mF cX ⟨H,L⟩ K FX:=by
 refine fR (Bw N.T V k (bL Y)) λb E t T x C l I B=>?_
 have o:Ev L H (.ix (.at (.v 0) 22) (.v 2)) (.ref b):=.ix (.att (.v m.l0) (N.T.gat V (N.T.gr V).a22.1)) (.v m.l2) (getD N.T t (ba _ (bL Y)) T)
 refine W.rX (.cm (.v j) o (lh (dT (aV l) (λy v=>dt (B y v)) (dt v)))) (λa=>?_) λA=>W.nil (J P.fc H L q N .r m)
 refine oA (Hc N x C a v) λD U=>?_
 exact W.ap o l (.v j) (by erw[h7 _];exact Mj U (e0 rfl)) (W.asg .c (W.nil (J _ _ _ true D ⟨y1 (xd Y U),λA=>.inr (xd Y U)⟩ ⟨m.l0,m.l2,rfl⟩)))
inductive CF4(P:Par)(H0:CH)(t0 t1:TY)(q:LG)(g:ki)(nm:Lj)(H':CH)(L:EN):Prop
 | mk (fc:Lj->cp Lj) (q':LG) (N:Now H0 t0 (P.wf (P.toPF.fcU fc)) t1 H') (h:Dn q q' (mu P.fc) (mu fc)) (m:CFL g nm q' L)
def Jb{p:ki}{nm:Lj}{q:LG}{K:NE}(N:Now H0 t0 P ty H)(G:aj P.R)(k:ty g=aM .bX)(U:P.ff=true)(j:nm∈aC)(t:ty p=aM (.cJ r))(m:CFL g nm q L)(E:L 4=aM (.ref p))
(I:∀Y ty' H' T J,Now H0 t0 (P.wf (P.toPF.fcU Y)) ty' H'->Ka ty ty'->Dn q J (mu P.fc) (mu Y)->CFL g nm J T->K .next ⟨H',T⟩):ae (ah fF mF (n+1)) mF cY ⟨H,L⟩ K FX:=by
 have v:=N.T.gr k
 refine W.KO (.v m.l0) v.cls rfl rfl (v.no 44 (by decide)) (.one (.att (.v E) (N.T.pat t (N.T.pd t).a3))) (By N k U (G.sym r) λc l x Z M C B=>?_)
 refine frL (ys:=l) (f:=.str) (I:=λa=>CF4 P H0 t0 x q g nm) .c ⟨P.fc,q,M,.r,m⟩ (λi H L h=>h.casesOn λY J N a a=>N.T.gL B.t) ?_ λA D h=>h.casesOn λY q2 o O V=>I Y x A D q2 o C O V
 rintro i y A D K s ⟨Y,q2,o,O,V⟩ d
 exact Ja o (C _ _ k) U j (B.la y (od s)) ⟨V.l0,V.l2,V.l3⟩ rfl λf u z F R S X=>d.nxt ⟨f,F,R,O.t S,X⟩
inductive CF5(P:Par)(H0:CH)(t0 ty:TY)(q:LG)(g:ki)(nm:Lj)(H':CH)(L:EN):Prop
 | mk (fc:Lj->cp Lj) (ty':TY) (q':LG) (N:Now H0 t0 (P.wf (P.toPF.fcU fc)) ty' H') (k:Ka ty ty') (h:Dn q q' (mu P.fc) (mu fc)) (m:CFL g nm q' L)
def Jc{nm:Lj}{q:LG}{K:NE}(N:Now H0 t0 P ty H)(G:aj P.R)(f:P.kn=P.R.length)(l:ty g=aM .bX)(t:P.ff=true)(Y:nm∈aC)(m:CFL g nm q L)
(I:∀V ty' H' B a,Now H0 t0 (P.wf (P.toPF.fcU V)) ty' H'->Ka ty ty'->Dn q a (mu P.fc) (mu V)->CFL g nm a B->K .next ⟨H',B⟩):ae (ah fF mF (n+1)) mF cZ ⟨H,L⟩ K FX:=by
 have J:=N.T.gr l
 refine mJ (N.T.sat _ _ J.a18.2) λU es M s d=>?_
 refine aA (G.has nm Y) λk F o T=>?_
 refine oEA (be (T▸d k F (f▸o))) λw R S=>?_
 refine eK (s.ks _ S) λy U W b X A U=>?_
 obtain rfl:=CV.str.inj W
 refine frL (ys:=(Lk P.kn).filter λr=>decide (1<=r/\lhs P.R r=nm)) (f:=λi=>.ref (P.pr i)) (a:=b) (I:=λU=>CF5 P H0 t0 ty q g nm) (.ix (.att (.v m.l0) (N.T.gat l J.a18.1)) (.v m.l2) (getD N.T M (ba _ (bL Y)) (R.trans (dd aM X)))) ⟨P.fc,ty,q,N,λU U h=>h,.r,m⟩ (λi H L h=>h.casesOn λV x q2 j v U U=>aV (j.T.sat _ _ (v _ _ A)).2.1) ?_ λD E h=>h.casesOn λV x q2 j v o O=>I V x D E q2 j v o O
 rintro i r D E K Z ⟨V,x,q2,j,v,o,O⟩ u
 have p:=MC.mp (od Z)
 exact Jb j G (v _ _ l) t Y ((j.T.sat _ _ (v _ _ A)).2.2.1 r (LI.mp p.1) (p6 p.2).1) ⟨O.l0,O.l2,O.l3⟩ rfl λC z H3 L3 Q c e T m3=>u.nxt ⟨C,z,Q,c,v.t e,o.t T,m3⟩
def eA(T:au P ty H)(U:ty g=aM .bX)(v:P.nk=aM ks):∃y,H.dct P.aN=aM y/\y.map (·.1)=ks.map .str:=by
 refine dv (T.sat _ _ (T.gr U).a21.2) λY y V Y Y k=>?_
 exact⟨y,V,k ks v⟩
inductive CF6(P:Par)(H0:CH)(t0 ty:TY)(g:ki)(H':CH)(L:EN):Prop
 | mk (fc:Lj->cp Lj) (ty':TY) (q':LG) (N:Now H0 t0 (P.wf (P.toPF.fcU fc)) ty' H') (k:Ka ty ty') (h:Dn false q' (mu P.fc) (mu fc)) (l0:L 0=aM (.ref g)) (l3:L 3=aM (.bool q'))
def Jd{L:EN}{K:NE}(N:Now H0 t0 P ty H)(G:aj P.R)(o:P.kn=P.R.length)(k:ty g=aM .bX)(O:P.ff=true)(p:Nms P.nk ks)(B:L 0=aM (.ref g))
(a:∀f y ty' H' A,Now H0 t0 (P.wf (P.toPF.fcU y)) ty' H'->Ka ty ty'->A 0=aM (.ref g)->(f=.next/\mu y<mu P.fc∨f=.brk)->K f ⟨H',A⟩):ae (ah fF mF (n+1)) mF da ⟨H,L⟩ K FX:=by
 refine oEA (eA N.T k p.nk) λF D Y=>?_
 refine W.asg .c (frK (ks:=ks) (a:=P.aN) (I:=λY=>CF6 P H0 t0 ty g) (.att (.v B) (N.T.gat k (N.T.gr k).a21.1)) (N.T.dg D) ⟨P.fc,ty,false,N,λY Y h=>h,.r,B,rfl⟩ (λi H L h=>h.casesOn λy j q2 v U Y Y Y=>eA (P:=P.wf (P.toPF.fcU y)) v.T (U _ _ k) p.nk) ?_ ?_)
 ·rintro i x l t K E ⟨y,j,q2,v,U,T,J,V⟩ I
  exact Jc v G o (U _ _ k) O (p.sub x (od E)) ⟨J,rfl,V⟩ λC M R S s d m r V=>I.nxt ⟨C,M,s,d,U.t m,T.t r,V.l0,V.l3⟩
 ·rintro l t ⟨y,j,q2,v,U,T,J,V⟩
  refine W.nil (W.ite (.nt (.v V) rfl) rfl (λY=>W.brk (a .brk y j l t v U J (.inr rfl))) λe=>W.nil (a .next y j l t v U J (.inl ⟨rfl,(T.lt ?_).resolve_left ff⟩)))
  cases q2
  ·cases e
  ·rfl
inductive CFA(P:Par)(H0:CH)(t0 ty:TY)(g:ki)(X:Lj->Prop)(H':CH)(L:EN):Prop
 | mk (af:Lj->rt ki) (fc:Lj->cp Lj) (ty':TY) (N:Now H0 t0 (P.wf ⟨false,false,af,fc⟩) ty' H') (k:Ka ty ty') (l0:L 0=aM (.ref g)) (h:∀x,X x->vF H' P.aF x)
inductive CFW(P:Par)(H0:CH)(t0 ty:TY)(g:ki)(af:Lj->rt ki)(k:ki)(H':CH)(L:EN):Prop
 | mk (fc:Lj->cp Lj) (ty':TY) (N:Now H0 t0 (P.wf ⟨false,true,af,fc⟩) ty' H') (h:Ka ty ty') (l0:L 0=aM (.ref g)) (e:k=mu fc)
def oS(N:Now H0 t0 P ty H)(G:aj P.R)(z:P.kn=P.R.length)(U:ty g=aM .bX)(w:P.fe=true)(z3:P.ff=false)(M:Nms P.nk ks)
(hQ:∀v j ty' H' r,Now H0 t0 (P.wf ⟨false,true,v,j⟩) ty' H'->Ka ty ty'->Q r H'):ah fF mF (n+2) 265 [.ref g] H Q:=by
 refine bK [.ref g] (d:=dH) rfl rfl rfl rfl λFQ s V=>?_
 have J:=N.T.gr U
 refine dv (N.T.sat _ _ J.a22.2) λc m a1 a2 a4 a5=>?_
 have a1:H.dct P.aF=aM m:=a1
 obtain rfl:m=[]:=a4 w
 refine W.fy (.att (.v rfl) (N.T.gat U J.a22.1)) (oB N.T a1) (W.nil ?_)
 have N0:Now H0 t0 (P.wf ⟨false,false,P.af,P.fc⟩) ty H:=N.par λa ρ hr h=>by
  by_cases q:ρ=.pu
  ·subst q;exact h.imp id λh=>h.imp λF h=>⟨h.1,h.2.1,ff,ff⟩
  ·by_cases q2:∃x,ρ=.fst x
   ·refine oE q2 λx R=>?_;subst R;exact h
   ·exact h.upF q λx e=>q2 ⟨x,e⟩
 refine aA (N.T.sat _ _ J.a20.2) λz4 b1 b2 V=>?_
 refine frK (ks:=dr) (a:=P.aT) (I:=λi=>CFA P H0 t0 ty g (·∈dr.take i)) (.att (.v rfl) (N.T.gat U J.a20.1)) (N.T.dg b1) ⟨P.af,P.fc,ty,N0,λV V h=>h,rfl,aO⟩ (λi H L h=>h.casesOn λv j t2 l t V V=>(l.T.sat _ _ (l.T.gr (t _ _ U)).a20.2).imp λF d=>⟨d.1,d.2.1⟩) ?_ ?_
 ·rintro i x H2 L2 K T ⟨v,j,t2,l,t,o,p⟩ E
  have S:=od T
  refine W.G9 (r:=[x]) l (t _ _ U) o (.one (.v rfl)) (λV=>.v rfl) (oo _ (Bf S)) (Mi _ _) (λy Y=>n2.mp Y▸wZ S) rfl λb t3 H3 B C O=>E.nxt ⟨_,_,t3,B,t.t C,o,λy Y=>?_⟩
  rw[Mr,T] at Y
  exact(LB.mp Y).elim (λY=>O y (.inr (p y Y))) λY=>O y (.inl (n2.mp Y))
 rintro H2 L2 ⟨v,j,t2,l,t,o,p⟩
 refine W.nil (W.G9 (r:=[dC]) l (t _ _ U) o (.one .c) (λV=>.c) fp (Mi _ _) (λy Y=>n2.mp Y▸(by decide)) rfl λb t3 H3 B C O=>?_)
 replace C:=t.t C
 have z0:∀x∈dr,vF H3 P.aF x:=λx T=>O x (.inr (p x T))
 clear N N0 l p O J
 refine oEA (eA (P:=P.wf _) B.T (C _ _ U) M.nk) λF e1 V=>?_
 refine frK (ks:=ks) (a:=P.aN) (I:=λi=>CFA P H0 t0 ty g λx=>x∈dr∨x∈ks.take i) (.att (.v o) (B.T.gat (C _ _ U) (B.T.gr (C _ _ U)).a21.1)) (B.T.dg e1) ⟨_,_,t3,B,C,o,λx h=>h.elim (z0 x) nme⟩ (λi H L h=>h.casesOn λv j t2 l t V V=>eA (P:=P.wf ⟨false,false,v,j⟩) l.T (t _ _ U) M.nk) ?_ ?_
 ·rintro i x H4 L4 K T ⟨v,j,t4,N4,Z,o,p⟩ E
  refine W.G9 (r:=[]) N4 (Z _ _ U) o .nil (λV=>.v rfl) (oo _ (bL (M.sub x (od T)))) LR aO rfl λb t5 H5 N5 k5 A=>E.nxt ⟨_,_,t5,N5,Z.t k5,o,λy Y=>?_⟩
  rw[Mr,T] at Y
  exact Y.elim (λY=>A y (.inr (p y (.inl Y)))) λY=>(LB.mp Y).elim (λY=>A y (.inr (p y (.inr Y)))) λY=>A y (.inl (n2.mp Y))
 rintro H4 L4 ⟨v,j,t4,N4,Z,o,p⟩
 rw[Mh] at p
 have N5:Now H0 t0 (P.wf ⟨false,true,v,j⟩) t4 H4:=N4.par λa ρ hr h=>by
  by_cases q:ρ=.pu
  ·subst q
   refine dv h λc F h1 h2 h3 V=>?_
   refine⟨c,F,h1,h2,h3,λV x T=>?_⟩
   refine oEA (p x ((vq T).imp id (M.all x))) λz5 q1 q2=>?_
   exact ey (q1.symm.trans (c▸(show H4.dct a=aM F from h1)))▸q2
  ·by_cases q2:∃x,ρ=.fst x
   ·refine oE q2 λx X=>?_;subst X;exact h
   ·exact Sat.upF (P:=P.wf ⟨false,false,v,j⟩) (F:=⟨false,true,v,j⟩) q (λx e=>q2 ⟨x,e⟩) h
 refine W.nil (whl (J:=CFW P H0 t0 ty g v) _ ⟨j,t4,N5,Z,o,rfl⟩ ?_)
 rintro k H6 L6 ⟨z1,t6,N6,k6,m6,rfl⟩
 refine⟨_,true,.c,rfl,ntf,λV K E=>Jd (P:=P.wf ⟨false,true,v,z1⟩) N6 G z (k6 _ _ U) rfl M m6 λf D t7 H7 L7 u I m7 hf=>?_⟩
 rcases hf with⟨rfl,z2⟩ | rfl
 ·exact E.nxt ⟨mu D,z2,D,t7,u,k6.t I,m7,rfl⟩
 ·have I:=k6.t I
  exact E.brk (W.ret (.att (.v m7) (u.T.gat (I _ _ U) (u.T.gr (I _ _ U)).a22.1)) (s (hQ v D t7 H7 _ u I)))
structure FLL(g p i:ki)(B:Lj)(q:LG)(L:EN):Prop where
 l0:L 0=aM (.ref g)
 l3:L 3=aM (.bool q)
 l4:L 4=aM (.ref p)
 l5:L 5=aM (.int i)
 l6:L 6=aM (.str B)
def Bz{B y:Lj}{q:LG}{K:NE}(N:Now H0 t0 P ty H)(k:ty g=aM .bX)(j:P.fz=true)(U:B∈aC)(v:y∈laS)(J:y≠gZ)(m:FLL g p i B q L)(l:L 9=aM (.str y)) :
  ∃b,Ev L H (.ix (.at (.v 0) 23) (.v 6)) (.ref b)/\b9 H .cu (.str y) (.ref b)=aM (!decide (y∈P.fo B))/\((∀O H' V,Now H0 t0 (P.wo (P.toPO.foU O)) ty H'->Dn q V (mu P.fo) (mu O)->(∀z,z≠B->O z=P.fo z)->FLL g p i B V (upd L 3 (.bool V))->ae (ah fF mF n) mF [] ⟨H',upd L 3 (.bool V)⟩ K FX)->y∉P.fo B->
   ae (ah fF mF n) mF [.ex (.ap (.ix (.at (.v 0) 23) (.v 6)) (.v 9)),.asg (.n 3) (.c (.bool true))] ⟨H,L⟩ K FX):=by
 refine fR (vE N.T k j U) λb M t T x C f h a=>?_
 have o:Ev L H (.ix (.at (.v 0) 23) (.v 6)) (.ref b):=.ix (.att (.v m.l0) (N.T.gat k (N.T.gr k).a23.1)) (.v m.l6) (getD N.T t (ba _ (bL U)) T)
 refine⟨b,o,lh (dT (aV f) (λy v=>dt (a y v).1) (dt v)),λA D=>?_⟩
 refine oA (Hd N x C D ⟨v,J⟩) λE Y=>?_
 exact W.ap o f (.v l) (by erw[h7 _];exact Mj Y (e0 rfl)) (W.asg .c (A _ _ true E ⟨y1 (xd U Y),λs=>.inr (xd U Y)⟩ (λz I=>eR I) ⟨m.l0,rfl,m.l4,m.l5,m.l6⟩))
def Je{B y:Lj}{q:LG}{K:NE}(N:Now H0 t0 P ty H)(l:ty g=aM .bX)(v:P.fz=true)(t:B∈aC)(T:y∈laS)(V:y≠gZ)(m:FLL g p i B q L)(k:L 9=aM (.str y))
(j:∀Y H' J U,Now H0 t0 (P.wo (P.toPO.foU Y)) ty H'->Dn q U (mu P.fo) (mu Y)->(∀z,(z=B->y∈P.fo B)->Y z=P.fo z)->FLL g p i B U J->K .next ⟨H',J⟩):ae (ah fF mF n) mF bC ⟨H,L⟩ K FX:=by
 refine aA (Bz (n:=n) (K:=bq (ah fF mF n) mF [] K FX) N l v t T V m k) λb o x C=>?_
 exact W.rX (.cm (.v k) o x) (λO=>C (λY H' U a d A D=>W.nil (j Y H' _ U a d (λz e=>A z λq=>O (e q)) D)) O) λf=>W.nil (j P.fo H L q N .r (λf f=>rfl) m)
def Jf{B y:Lj}{q e:LG}{K:NE}(N:Now H0 t0 P ty H)(a:ty g=aM .bX)(l:P.fz=true)(A:B∈aC)(t:y∈laS)(m:FLL g p i B q L)(J:L 8=aM (.bool e))(V:L 9=aM (.str y))
(T:∀Y H' U v D,Now H0 t0 (P.wo (P.toPO.foU Y)) ty H'->Dn q v (mu P.fo) (mu Y)->FLL g p i B v U->U 8=aM (.bool D)->K .next ⟨H',U⟩):ae (ah fF mF n) mF cL ⟨H,L⟩ K FX:=by
 have k:∀{H':CH} {U:EN} {Y:Lj->cp Lj} {v:LG},Now H0 t0 (P.wo (P.toPO.foU Y)) ty H'->Dn q v (mu P.fo) (mu Y)->FLL g p i B v U->U 8=aM (.bool e)->U 9=aM (.str y)->
   ae (ah fF mF n) mF [.ite (.cm .eq (.v 9) (.c (.str (u 99360369208828)))) [.asg (.n 8) (.c (.bool true))] []] ⟨H',U⟩ K FX:=λ{H' U Y v} x O m J V=>
  W.f6 (.cm (.v V) .c (eqS (dt t) G8)) (λC=>W.asg .c (W.nil (T Y H' _ v true x O ⟨m.l0,m.l3,m.l4,m.l5,m.l6⟩ rfl))) λC=>W.nil (T Y H' _ v e x O m J)
 have f:Ev L H (.cm .ne (.v 9) (.c (.str (u 99360369208828)))) (.bool (!decide (y=gZ))):=.cm (.v V) .c (neV (eqS (dt t) G8))
 by_cases j:y=gZ
 ·rw[Ln j] at f
  exact W.fy (.anF f rfl) rfl (W.nil (k N .r m J V))
 ·obtain⟨b,o,E,O⟩:=Bz (n:=n) (K:=bq (ah fF mF n) mF _ K FX) N a l A t j m V
  rw[LQ j] at f
  exact W.rX (.anT f rfl (.cm (.v V) o E)) (λI=>O (λY H' v M d s h=>W.nil (k M d h J V)) I) λC=>W.nil (k N .r m J V)
inductive FLA(P:Par)(H0:CH)(t0 t1:TY)(q:LG)(g p i:ki)(B:Lj)(H':CH)(L:EN):Prop
 | mk (fo:Lj->cp Lj) (q' e:LG) (N:Now H0 t0 (P.wo (P.toPO.foU fo)) t1 H') (h:Dn q q' (mu P.fo) (mu fo)) (m:FLL g p i B q' L) (l8:L 8=aM (.bool e))
inductive FLB(P:Par)(H0:CH)(t0 t1:TY)(q:LG)(g p i:ki)(B:Lj)(x:Lj)(l:cp Lj)(H':CH)(L:EN):Prop
 | mk (fo:Lj->cp Lj) (q':LG) (N:Now H0 t0 (P.wo (P.toPO.foU fo)) t1 H') (e:fo x=l) (h:Dn q q' (mu P.fo) (mu fo)) (m:FLL g p i B q' L)
def Jg{p i:ki}{q:LG}{K:NE}(N:Now H0 t0 P ty H)(G:aj P.R)(A:ty g=aM .bX)(z:P.ff=true)(t:P.fz=true)(Q:Nms P.nk ks)(w:ty p=aM (.cJ r))(z0:1<=r)(z1:r<P.R.length)(hi:(rhs P.R r)[i]?=aM B)(m:FLL g p i B q L)
(hQ:∀k ty' H' L' q',Now H0 t0 (P.wo (P.toPO.foU k)) ty' H'->Ka ty ty'->Dn q q' (mu P.fo) (mu k)->FLL g p i B q' L'->K .next ⟨H',L'⟩):ae (ah fF mF (n+1)) mF cM ⟨H,L⟩ K FX:=by
 have T:=N.T.gr A
 have hB:=G.sym r B (od hi)
 have z2:i<(rhs P.R r).length:=(kO.mp hi).1
 have D:=G.ln r
 refine oEA (eA N.T A Q.nk) λes e1 E=>?_
 have I:aw es (.str B)≠none↔B∈aC:=by
  (rewrite[kf];erw[E])
  exact⟨λh=>(p9.mp h).elim λy h=>Q.sub B (CV.str.inj h.2▸h.1),λh=>LL (Q.all B h)⟩
 refine W.ite (.cm (.v m.l6) (.att (.v m.l0) (N.T.gat A T.a21.1)) (inD N.T e1 (ba _ hB))) rfl (λhs=>?_) λv=>W.nil (hQ P.fo ty H L q N (λv v h=>h) .r m)
 have M:B∈aC:=I.mp λe=>by rw[e] at hs;cases hs
 refine W.me (.v m.l0) T.cls rfl rfl (T.no 44 (by decide)) (.one (.slT (i+1) (.att (.v m.l4) (N.T.pat w (N.T.pd w).a3)) (.add (.v m.l5) .c) .c (MO i) (by erw[h7 _];exact z2))) ?_
 erw[Ng QH]
 refine By N A z (λx hx=>G.sym r x (mem_of_mem_drop hx)) λc l S H1 N1 X hc=>W.asg .c ?_
 have V:=X _ _ A
 refine frL (ys:=l) (f:=.str) (I:=λv=>FLA P H0 t0 S q g p i B) (.v rfl) ⟨P.fo,q,false,N1,.r,⟨m.l0,m.l3,m.l4,m.l5,m.l6⟩,rfl⟩ (λj H L h=>h.casesOn λk q2 E Y v v v=>Y.T.gL hc.t) ?_ ?_
 ·rintro j y H2 L2 K hy ⟨k,q2,E,Y,Z,U,u⟩ hK
  exact Jf Y V t M (hc.la y (od hy)) ⟨U.l0,U.l3,U.l4,U.l5,U.l6⟩ u rfl λz3 H3 L3 s e3 C d J j8=>hK.nxt ⟨z3,s,e3,C,Z.t d,J,j8⟩
 rintro H2 L2 ⟨k,q2,E,Y,Z,U,u⟩
 have o:=X _ _ w
 have f:ae (ah fF mF (n+1)) mF [.fr (.n 9) (.val (.ix (.at (.v 0) 23) (.at (.v 4) 2))) bC []] ⟨H2,L2⟩ (bq (ah fF mF (n+1)) mF [] (bq (ah fF mF (n+1)) mF [] K FX) FX) FX:=by
  have F:=G.nm r z0 z1
  refine fR (vE (P:=P.wo (P.toPO.foU k)) Y.T V t F) λb es d1 d2 d3 d4 d5 d6 d7=>?_
  refine frL (ys:=k (lhs P.R r)) (f:=.str) (I:=λv=>FLB P H0 t0 S q g p i B (lhs P.R r) (k (lhs P.R r))) (.ix (.att (.v U.l0) (Y.T.gat V (Y.T.gr V).a23.1)) (.att (.v U.l4) (Y.T.pat o (Y.T.pd o).a2)) (getD Y.T d1 (ba _ (bL F)) d2)) ⟨k,q2,Y,rfl,Z,U⟩ (λj H L h=>h.casesOn λO s C R v v=>R▸aV ((C.T.sat _ _ d3).2 d4).1) ?_ λH3 L3 h=>h.casesOn λO s C R d J=>W.nil (W.nil (W.nil (hQ O S H3 L3 s C X d J)))
  rintro j y H3 L3 K hy ⟨O,s,C,R,d,J⟩ hK
  have a:=od hy
  exact Je C V t M (d7 y a).1 (d7 y a).2 ⟨J.l0,J.l3,J.l4,J.l5,J.l6⟩ rfl λz4 H4 L4 q4 N4 h4 hz m4=>hK.nxt ⟨z4,q4,N4,(hz _ λe=>(show y∈O B from e▸R.symm▸a)).trans R,d.t h4,m4⟩
 refine W.nil ?_
 cases E with
 | true=>exact W.fZ (.orT (.v u) rfl) rfl f
 | false=>exact W.f6 (.orF (.v u) rfl (.cm (.v U.l5) (.sub (.x7 (.att (.v U.l4) (Y.T.pat o (Y.T.pd o).a3)) (gh (cy D (e0 (m:=20) rfl)))) .c) eqI)) (λv=>f) λv=>W.nil (W.nil (hQ k S H2 L2 q2 Y X Z U))
inductive FLC(P:Par)(H0:CH)(t0 ty:TY)(q:LG)(g p:ki)(H':CH)(L:EN):Prop
 | mk (fo:Lj->cp Lj) (ty':TY) (q':LG) (N:Now H0 t0 (P.wo (P.toPO.foU fo)) ty' H') (k:Ka ty ty') (h:Dn q q' (mu P.fo) (mu fo)) (l0:L 0=aM (.ref g)) (l3:L 3=aM (.bool q')) (l4:L 4=aM (.ref p))
def Jh{p:ki}{L:EN}{q:LG}{K:NE}(N:Now H0 t0 P ty H)(G:aj P.R)(I:ty g=aM .bX)(U:P.ff=true)(v:P.fz=true)(M:Nms P.nk E)(V:ty p=aM (.cJ r))(k:1<=r)(j:r<P.R.length)(s:L 0=aM (.ref g))(d:L 3=aM (.bool q))(x:L 4=aM (.ref p))
(F:∀y ty' H' J C,Now H0 t0 (P.wo (P.toPO.foU y)) ty' H'->Ka ty ty'->Dn q C (mu P.fo) (mu y)->J 0=aM (.ref g)->J 3=aM (.bool C)->K .next ⟨H',J⟩):ae (ah fF mF (n+1)) mF cN ⟨H,L⟩ K FX:=by
 refine KD (ys:=rhs P.R r) (f:=.str) (I:=λo=>FLC P H0 t0 ty q g p) (.att (.v x) (N.T.pat V (N.T.pd V).a3)) ⟨P.fo,ty,q,N,λo o h=>h,.r,s,d,x⟩ ?_ λa A h=>h.casesOn λy D q2 O Y f l t o=>F y D a A q2 O Y f l t
 rintro i B a A K R ⟨y,D,q2,O,Y,f,l,t,S⟩ W
 exact Jg (i:=i) (B:=B) (p:=p) O G (Y _ _ I) U v M (Y _ _ V) k j R ⟨l,t,S,rfl,rfl⟩ λT X w c Z u z Q m=>W.nxt ⟨T,X,Z,u,Y.t z,f.t Q,m.l0,m.l3,m.l4⟩
inductive FLD(P:Par)(H0:CH)(t0 ty:TY)(q:LG)(g:ki)(H':CH)(L:EN):Prop
 | mk (fo:Lj->cp Lj) (ty':TY) (q':LG) (N:Now H0 t0 (P.wo (P.toPO.foU fo)) ty' H') (k:Ka ty ty') (h:Dn q q' (mu P.fo) (mu fo)) (l0:L 0=aM (.ref g)) (l3:L 3=aM (.bool q'))
def Ji{L:EN}{K:NE}(N:Now H0 t0 P ty H)(G:aj P.R)(p:ty g=aM .bX)(l:P.ff=true)(t:P.fz=true)(m:Nms P.nk ks)(k:P.k=P.R.length)(T:P.kq=P.k)(F:P.z=true)(D:L 0=aM (.ref g))
(E:∀f Y ty' H' I,Now H0 t0 (P.wo (P.toPO.foU Y)) ty' H'->Ka ty ty'->I 0=aM (.ref g)->(f=.next/\mu Y<mu P.fo∨f=.brk)->K f ⟨H',I⟩):ae (ah fF mF (n+1)) mF cO ⟨H,L⟩ K FX:=by
 have j:=N.T.gr p
 have M:=G.len
 refine oA (dX N.T j.a17.2 T (k.symm▸G.pos) F) λR S=>?_
 refine W.asg .c (W.Ha (m':=((Lk P.k).drop 1).map λi=>CV.ref (P.pr i)) N (.att (.v D) (N.T.gat p j.a17.1)) .c .c (aV R) (by erw[QH];exact KF) λc s H1 X Z U J=>?_)
 refine frL (ys:=(Lk P.k).drop 1) (f:=λi=>.ref (P.pr i)) (I:=λU=>FLD P H0 t0 s false g) .c ⟨P.fo,s,false,X,λU U h=>h,.r,D,rfl⟩ (λi H L h=>h.casesOn λY o q2 V y U U U=>V.T.gL (y _ _ Z)) ?_ ?_
 ·rintro i r x C K d ⟨Y,o,q2,V,y,B,O,a⟩ u
  rw[Pk] at d
  obtain⟨v,e⟩:=kO.mp d
  rw[Oo] at e
  rw[LJ] at v
  subst e
  exact Jh (r:=1+i) V G (y _ _ (J _ _ p).1) l t m (y _ _ (J _ _ (S _ v)).1) (LA _ _) (show 1+i<P.R.length from k▸v) O a rfl λA q H3 L3 z Q w b j0 j3=>u.nxt ⟨A,q,z,Q,y.t w,B.t b,j0,j3⟩
 ·rintro x C ⟨Y,o,q2,V,y,B,O,a⟩
  refine W.nil (W.ite (.nt (.v a) rfl) rfl (λU=>W.brk (E .brk Y o x C V (J.aa.t y) O (.inr rfl))) λe=>W.nil (E .next Y o x C V (J.aa.t y) O (.inl ⟨rfl,(B.lt ?_).resolve_left ff⟩)))
  cases q2
  ·cases e
  ·rfl
inductive FLE(P:Par)(H0:CH)(t0 ty:TY)(g:ki)(X:cp Lj)(H':CH)(L:EN):Prop
 | mk (ao:Lj->rt ki) (fo:Lj->cp Lj) (ty':TY) (N:Now H0 t0 (P.wo ⟨false,false,ao,fo⟩) ty' H') (k:Ka ty ty') (l0:L 0=aM (.ref g)) (l1:L 1=aM .none) (h:∀x∈X,vF H' P.aFo x)
inductive FLW(P:Par)(H0:CH)(t0 ty:TY)(g:ki)(ao:Lj->rt ki)(k:ki)(H':CH)(L:EN):Prop
 | mk (fo:Lj->cp Lj) (ty':TY) (N:Now H0 t0 (P.wo ⟨false,true,ao,fo⟩) ty' H') (h:Ka ty ty') (l0:L 0=aM (.ref g)) (e:k=mu fo)
def ma(N:Now H0 t0 P ty H)(G:aj P.R)(Y:ty g=aM .bX)(J:P.k=P.R.length)(I:P.kq=P.k)(hz:P.z=true)(M:P.ff=true)(z0:P.ge=true)(z3:P.fz=false)(s:Nms P.nk ks)
(hQ:∀o O ty' H' r,Now H0 t0 (P.wo ⟨false,true,o,O⟩) ty' H'->Ka ty ty'->Q r H'):ah fF mF (n+2) 273 [.ref g] H Q:=by
 refine bK [.ref g,.none] (d:=dp) rfl rfl rfl rfl λFQ d U=>?_
 have v:=N.T.gr Y
 have z2:=G.len
 refine dv (N.T.sat _ _ v.a23.2) λU m z a2 a4 a5=>?_
 have z:H.dct P.aFo=aM m:=z
 obtain rfl:m=[]:=a4 z0
 refine W.fy (.att (.v rfl) (N.T.gat Y v.a23.1)) (oB N.T z) (W.nil ?_)
 refine dv (N.T.sat _ _ v.a22.2) λU F f1 f2 f4 f5=>?_
 have p:(!F.isEmpty)=true:=by
  cases F with
  | nil=>exact p7 rfl (f5 M sS (by decide))
  | cons _ _=>rfl
 refine W.fy (.nt (.att (.v rfl) (N.T.gat Y v.a22.1)) ((oB N.T f1).trans (dd aM p))) rfl (W.nil ?_)
 have N0:Now H0 t0 (P.wo ⟨false,false,P.ao,P.fo⟩) ty H:=N.par λa ρ hr h=>by
  by_cases q:ρ=.pw
  ·subst q;exact h.imp id λh=>h.imp λw h=>⟨h.1,h.2.1,ff,ff⟩
  ·by_cases q2:∃x,ρ=.fol x
   ·refine oE q2 λx R=>?_;subst R;exact h
   ·exact h.upO q λx e=>q2 ⟨x,e⟩
 refine oEA (eA N.T Y s.nk) λw e1 U=>?_
 refine frK (ks:=ks) (a:=P.aN) (I:=λi=>FLE P H0 t0 ty g (ks.take i)) (.att (.v rfl) (N.T.gat Y v.a21.1)) (N.T.dg e1) ⟨P.ao,P.fo,ty,N0,λU U h=>h,rfl,rfl,aO⟩ (λi H L h=>h.casesOn λo O t2 N2 k2 U U U=>eA (P:=P.wo ⟨false,false,o,O⟩) N2.T (k2 _ _ Y) s.nk) ?_ ?_
 ·rintro i x H4 L4 K c ⟨o,O,t4,j,l,D,m1,S⟩ hK
  refine W.I9 (r:=[]) j (l _ _ Y) D .nil (λU=>.v rfl) (s.sub x (od c)) LR aO rfl λb t5 H5 N5 X V=>hK.nxt ⟨_,_,t5,N5,l.t X,D,m1,λy t=>?_⟩
  rw[Mr,c] at t
  exact(LB.mp t).elim (λt=>V y (.inr (S y t))) λt=>V y (.inl (n2.mp t))
 rintro H4 L4 ⟨o,O,t4,j,l,D,m1,S⟩
 rw[Mh] at S
 clear N N0 v z a2 a4 a5 f1 f2 f4 f5 p e1
 refine oA (dX (P:=P.wo ⟨false,false,o,O⟩) j.T (j.T.gr (l _ _ Y)).a17.2 I (J.symm▸G.pos) hz) λp1 p2=>?_
 have T:=p2 1 (J.symm▸G.one)
 refine W.nil (W.fZ (.nt (b:=false) (.v m1) rfl) rfl (W.asg (.att (.ix (.att (.v D) (j.T.gat (l _ _ Y) (j.T.gr (l _ _ Y)).a17.1)) .c (eQ (i:=1) (aV p1) (Pa (J.symm▸G.one:1<P.k)))) (j.T.pat T (j.T.pd T).a2)) (W.nil ?_)))
 refine W.I9 (r:=[dC]) j (l _ _ Y) D (.one .c) (λU=>.v rfl) (G.nm 1 (Lf _) G.one) (Mi _ _) (λy t=>n2.mp t▸(by decide)) rfl λb t5 H5 N5 X V=>?_
 replace X:=l.t X
 have Z:Now H0 t0 (P.wo ⟨false,true,b6 o (lhs P.R 1) (aM b),b6 O (lhs P.R 1) [dC]⟩) t5 H5:=N5.par λa ρ hr h=>by
  by_cases q:ρ=.pw
  ·subst q
   refine dv h λea w h1 h2 h3 U=>?_
   refine⟨ea,w,h1,h2,h3,λU x c=>?_⟩
   refine oEA (V x (.inr (S x (s.all x c)))) λz4 q1 q2=>?_
   exact ey (q1.symm.trans (ea▸(show H5.dct a=aM w from h1)))▸q2
  ·by_cases q2:∃x,ρ=.fol x
   ·refine oE q2 λx u=>?_;subst u;exact h
   ·exact Sat.upO (P:=P.wo ((P.wo ⟨false,false,o,O⟩).toPO.new (lhs P.R 1) b [dC])) (F:=⟨false,true,_,_⟩) q (λx e=>q2 ⟨x,e⟩) h
 generalize b6 o (lhs P.R 1) (aM b)=C at Z
 generalize b6 O (lhs P.R 1) [dC]=B at Z
 clear j N5 V S p1 p2 T
 refine whl (J:=FLW P H0 t0 ty g C) _ ⟨B,t5,Z,X,D,rfl⟩ ?_
 rintro k H6 L6 ⟨B,t6,Z,k6,m6,rfl⟩
 refine⟨_,true,.c,rfl,ntf,λU K hK=>Ji (P:=P.wo ⟨false,true,C,B⟩) Z G (k6 _ _ Y) M rfl s J I hz m6 λf A t7 H7 L7 N7 E m7 hf=>?_⟩
 rcases hf with⟨rfl,z1⟩ | rfl
 ·exact hK.nxt ⟨mu A,z1,A,t7,N7,k6.t E,m7,rfl⟩
 ·have E:=k6.t E
  exact hK.brk (W.ret (.att (.v m7) (N7.T.gat (E _ _ Y) (N7.T.gr (E _ _ Y)).a23.1)) (d (hQ C A t7 H7 _ N7 E)))
end
def Par.wm(P:Par)(M:PM):Par:={ P with toPM:=M }
structure fB(P:Par):Prop where
 G:aj P.R
 k:P.k=P.R.length
 kq:P.kq=P.k
 kn:P.kn=P.R.length
 z:P.z=true
 li:P.li=P.R.length
 m0:0<=P.m
section
variable{P P':Par}{ty t0 ty0 ty':TY}{H H' H0:CH}{n b c e g t:ki}{Q:Rs}{ρ z:aK}
inductive AfL(P:Par)(ty:TY)(H:CH)(a r d:ki):Prop
 | mk (b:ki) (ρ:aK) (h1:(aY H a).att 27=aM (.ref b)) (h2:ty b=aM ρ) (o:ρ.own=false) (hl:∀(P':Par) ty' H',P'.toPK=P.toPK->au P' ty' H'->ty' b=aM ρ->H'.lst b=aM ((after P.R (r,d)).map λi=>CV.ref (P.pr i))) (hp:∀i∈after P.R (r,d),ty (P.pr i)=aM (.cJ i))
theorem vG{a:ki}(T:au P ty H)(F:fB P)(h:ty a=aM (.item r d)):AfL P ty H a r d:=by
 refine HG ((T.it h).a27) λb o ρ y Y=>?_
 have w:ρ=.rT->after P.R (r,d)=[]->AfL P ty H a r d:=λe O=>by
  subst e
  exact⟨b,_,o,y,rfl,O.symm▸λV V V V k j=>k.sat _ _ j,O.symm▸aO⟩
 cases e:(rhs P.R r)[d]? with
 | none=>exact w ((pz.eq e).mp Y) (oI e)
 | some x=>
  have Y:if x∈aC then ρ=.iB x else ρ=.rT:=(pz.eq e).mp Y
  have U:=oH (R:=P.R) (p:=(r,d)) e
  by_cases J:x∈aC
  ·obtain rfl:=(K2 J).mp Y
   rw[← F.kn] at U
   exact⟨b,_,o,y,rfl,U.symm▸λP' ty' H' e k j=>e▸(k.sat _ _ j).2.1,U.symm▸λi v=>(T.sat _ _ y).2.2.1 i (LI.mp (MC.mp v).1) (p6 (MC.mp v).2).1⟩
  ·exact w ((E1 J).mp Y) (U.trans (ON.mpr λi v q=>J ((p6 q).2▸F.G.nm i (p6 q).1 (LI.mp v))))
def BA{a:ki}(T:au P ty H)(h:ty a=aM (.cJ r)):i5 H (.ref a) 1=aM (.int (P.ad r)):=by
 have w:=T.pd h
 rcases w.a1 with⟨y,Y⟩ | y
 ·erw[Y];exact(w4 w.cls rfl y).trans (K2 ⟨rfl,.inr rfl⟩)
 ·exact eh w.cls rfl y
inductive ClS(H0:CH)(t0:TY)(P:Par)(c:ki)(ty0:TY)(ad:cp ki)(q:cp Pl)(H:CH):Prop
 | mk (l:cp ki) (adf:ki->Nj) (ty:TY) (N:Now H0 t0 (P.wm ⟨adf,P.m⟩) ty H) (k:Kp c ty0 ty) (hc:ty c=aM (.ak (l.map .ref))) (ha:cB (λa p=>ty a=aM (.item p.1 p.2)) l q) (M:∀r,r<P.R.length->(adf r=P.m↔r∈ad))
structure Cl0(P:Par)(ty0:TY)(t c:ki):Prop where
 F:fB P
 t:ty0 t=aM .table
 c:∃l,ty0 c=aM (.ak l)
def Cl0.k(B:Cl0 P ty0 t c)(k:Kp c ty0 ty):Kn ty0 ty:=λ{w w} h o=>k _ _ (bh h o B.c.choose_spec rfl) h
def He{r:ki}{L:EN}{q:cp Pl}{ad:cp ki}{K:NE}(B:Cl0 P ty0 t c)(S:ClS H0 t0 P c ty0 ad q H)(G:H0.free c)(u:q.length<900)(f:r<P.R.length)(U:ty0 (P.pr r)=aM (.cJ r))
(m:L 0=aM (.ref t))(z:L 2=aM (.ref c))(C:L 5=aM (.ref (P.pr r)))(Q:r∈ad->K .cont ⟨H,L⟩)(g:r∉ad->∀H',ClS H0 t0 P c ty0 (ad++[r]) (q++[(r,0)]) H'->K .next ⟨H',upd L 3 (.bool true)⟩) :
  ae (ah fF mF n) mF bN ⟨H,L⟩ K FX:=by
 obtain⟨l,y,ty,N,k,F,R,M⟩:=S
 have A:=(B.k k) B.t
 replace U:=(B.k k) U
 refine W.f6 (.cm (.att (.v C) (BA N.T U)) (.att (.v m) (N.T.tat A (N.T.tb A).a36)) eqI) (λe=>W.cont (Q ((M r f).mp e))) λD=>W.nil ?_
 replace D:r∉ad:=λh=>D ((M r f).mpr h)
 refine oEA ((N.T.pd U).a13 (.inl (B.F.li▸f))) λa v E=>?_
 refine W.f7 N G F (.v z) (.att (.v C) (N.T.pat U v)) (by(erw[h7 _];erw[R.len]);exact Mj u (e0 rfl)) λX H1 T I Z=>?_
 have x:∀{a ρ},ty a=aM ρ->ρ.own=false->X a=aM ρ:=λh o=>Z _ _ (bh h o F rfl) h
 have V:=x U rfl
 have j:=x A rfl
 have w:=T.T.pd V
 refine W.bw (.att (.v m) (T.T.tat j (T.T.tb j).a36)) (.v C) w.cls rfl (W.asg .c (g D _ ⟨l++[a],λi=>if i=r then P.m else y i,X,T.bw V (aq w.cls) (λa ρ d f s=>?_) ?_,k.t Z,by erw[LP];exact I,(R.mono λa p h=>x h rfl).app (.cons (x E rfl) .nil),λi b=>?_⟩))
 ·by_cases q:∃Y,ρ=.cJ Y
  ·refine oE q λY J=>?_;subst J
   have O:Y≠r:=λe=>by subst e;exact d (s.pr.trans w.pr.symm)
   exact{ s with a1:=(show _/\(if Y=r then P.m else y Y)=0∨_=aM (CV.int (if Y=r then P.m else y Y)) by erw[E1 O];exact s.a1),am:=(show(if Y=r then P.m else y Y)<=P.m by erw[E1 O];exact s.am) }
  ·by_cases q2:ρ=.table
   ·subst q2;exact⟨s.1,{ s.2 with cls:=s.2.cls }⟩
   ·exact Sat.upM (P:=P.wm ⟨y,P.m⟩) (λY e=>q ⟨Y,e⟩) q2 s
 ·exact{ w with a1:=.inr (show aM _=aM (CV.int (if r=r then P.m else y r)) by erw[K2 rfl];rfl),am:=(show(if r=r then P.m else y r)<=P.m by erw[K2 rfl];exact Ol _),a2:=w.a2,a3:=w.a3,a4:=w.a4,a8:=w.a8,a9:=w.a9,a11:=w.a11,a0:=w.a0,a13:=w.a13 }
 ·by_cases e:i=r
  ·subst e;exact VB (K2 rfl) (Ll _ fp)
  ·exact(iff_of_eq (dd (·=P.m) (E1 e))).trans ((M i b).trans ⟨LD _,λh=>(LB.mp h).elim id λh=>p7 (n2.mp h) e⟩)
def yi{R:cp aE}(p:Pl):(after R p).length<=R.length:=cy (br (oJ (R:=R) p) (m:=Lk R.length) λr w=>LI.mpr (ef.mp w).1) (p8 LJ)
def fB.wm(F:fB P):fB (P.wm ⟨w,P.m⟩):=⟨F.G,F.k,F.kq,F.kn,F.z,F.li,F.m0⟩
def ClS.base{ad:cp ki}{q:cp Pl}(k:Kp c ty0 ty)(S:ClS H0 t0 P c ty ad q H):ClS H0 t0 P c ty0 ad q H:=
 S.casesOn λl f t N w y Y M=>⟨l,f,t,N,k.t w,y,Y,M⟩
inductive CLI(H0:CH)(t0:TY)(P:Par)(t c:ki)(ty0:TY)(b:LG)(ad:cp ki)(q:cp Pl)(nw:cp ki)(H':CH)(L':EN):Prop
 | mk (S:ClS H0 t0 P c ty0 (ad++nw) (q++nw.map λr=>(r,0)) H') (l0:L' 0=aM (.ref t)) (l2:L' 2=aM (.ref c)) (b':LG) (l3:L' 3=aM (.bool b')) (hb:b'=true->b=true∨nw≠[])
def Hf{I r:ki}{L:EN}{q:cp Pl}{ad l:cp ki}{b:LG}{K:NE}(B:Cl0 P ty t c)(N:Now H0 t0 (P.wm ⟨U,P.m⟩) ty H)(s:ty c=aM (.ak (l.map .ref)))(Z:cB (λa p=>ty a=aM (.item p.1 p.2)) l q)(M:∀r,r<P.R.length->(U r=P.m↔r∈ad))(G:H0.free c)(u:q.length<800)(m:ty I=aM (.item r d))
(z:L 0=aM (.ref t))(Q:L 2=aM (.ref c))(g:L 3=aM (.bool b))(e:L 4=aM (.ref I))
(hQ:∀H' V v,ClS H0 t0 P c ty (ad++fA P.R ad (r,d)) (q++(fA P.R ad (r,d)).map λr=>(r,0)) H'->(v=true->b=true∨fA P.R ad (r,d)≠[])->V 0=aM (.ref t)->V 2=aM (.ref c)->V 3=aM (.bool v)->K .next ⟨H',V⟩) :
  ae (ah fF mF n) mF bO ⟨H,L⟩ K FX:=by
 obtain⟨T,ρ,e1,F,e3,e4,e5⟩:=vG N.T B.F.wm m
 refine frL (ys:=after P.R (r,d)) (f:=λi=>.ref (P.pr i)) (a:=T) (I:=λk=>CLI H0 t0 P t c ty b ad q (((after P.R (r,d)).take k).filter λr=>decide (r∉ad)))
  (.att (.v e) (N.T.iat m e1)) ⟨⟨l,U,ty,N,.r,s,(Mp q).symm▸Z,(Mp ad).symm▸M⟩,z,Q,b,g,.inl⟩ (λi H' V h=>h.casesOn λS y y y y y=>S.casesOn λy x t2 N2 k2 y y y=>aV (e4 (P.wm ⟨x,P.m⟩) _ _ rfl N2.T (k2 _ _ (bh F e3 s rfl) F))) ?_ λR W h=>?_
 ·rintro k Y R W K X ⟨S,j,J,v,C,A⟩ D
  have o:=od X
  have O:(after P.R (r,d)).take (k+1)=(after P.R (r,d)).take k++[Y]:=by(erw[Mr];erw[X]);rfl
  have f:Y∉(after P.R (r,d)).take k:=λh=>(M8.mp (O▸(oJ (R:=P.R) (r,d)).sublist (take_sublist (k+1) _))).2.2 Y h Y fp rfl
  have E:(((after P.R (r,d)).take k).filter λr=>decide (r∉ad)).length<=5:=cy (NI _ _) (cy (Ox k _) (cy (yi _) B.F.G.len.2))
  have hf:((after P.R (r,d)).take (k+1)).filter (λr=>decide (r∉ad))=((after P.R (r,d)).take k).filter (λr=>decide (r∉ad))++[Y].filter (λr=>decide (r∉ad)):=by(erw[O];exact LH (Qu _ _) rfl)
  rw[hf] at D
  refine He (r:=Y) B S G (by(erw[GE];erw[h7 _]);exact eF (Ls E _) (rf (Uz u 5) (by decide))) (ef.mp o).1 (e5 Y o) j J rfl (λw=>D.con ?_) λw H3 S3=>D.nxt ?_
  ·have w:=(LB.mp w).resolve_right λh=>f (MC.mp h).1
   (erw[NZ (p:=λr=>decide (r∉ad)) (a:=Y) (l:=[]) (λh=>p6 h w)];erw[SU];erw[Mp _])
   exact⟨S,j,J,v,C,A⟩
  ·(erw[NY (p:=λr=>decide (r∉ad)) (a:=Y) (l:=[]) (Ln λh=>w (LD _ h))];erw[SU])
   exact⟨by(rewrite[← M9];erw[LP];rewrite[← M9]);exact S3,j,J,true,rfl,λy=>.inr (RX _ (PP _ _))⟩
 ·rw[Mh] at h
  exact h.casesOn λS j J v C A=>hQ R W v S A j J C
theorem tU{ad:cp ki}{f:ki}:∀{q:cp Pl},q.length<=f->(∀j∈q,∀r∈after R j,r∈ad)->j4 R f ad q=q:=by
 induction f with
 | zero=>exact λ{q} h V=>(Mq (QG.mp h)).symm▸rfl
 | succ f y=>
  intro q h w
  cases q with
  | nil=>rfl
  | cons j q=>
   have Y:fA R ad j=[]:=ON.mpr λr U q=>p6 q (w j fp r U)
   (erw[qI];erw[Y];erw[Mp _];erw[show at0 []=[] from rfl];erw[Mp _];exact LH (y (Nz h) λj v=>w j (oo _ v)) rfl)
def Eb{R:cp aE}{ad:cp ki}:left R ad<=R.length:=cy (NI _ _) (p8 LJ)
structure GrS(R:cp aE)(C:cp Pl)(ad:cp ki)(B i:ki)(q2:cp Pl)(ad2:cp ki)(f2:ki):Prop where
 le:i<=q2.length
 eq:q2.take i++j4 R f2 ad2 (q2.drop i)=C
 fu:(q2.drop i).length+left R ad2<=f2
 bd:q2.length+left R ad2<=B
 done:∀j∈q2.take i,∀r∈after R j,r∈ad2
 sub:∀r∈ad,r∈ad2
theorem GrS.next{ad:cp ki}{q2:cp Pl}(h:GrS R C ad B i q2 w T)(x:q2[i]?=aM p) :
  (∃J,GrS R C ad B (i+1) (q2++(fA R w p).map λr=>(r,0)) (w++fA R w p) J)/\(fA R w p≠[]->¬ ∀j∈C,∀r∈after R j,r∈ad):=by
 obtain⟨y,o⟩:=kO.mp x
 have v:q2.take (i+1)=q2.take i++[p]:=by(erw[Mr];erw[x]);rfl
 have O:q2.drop i=p::q2.drop (i+1):=(Tu y).trans (dd (·::_) o)
 have Y:=h.fu
 have f:=h.eq
 rw[O] at Y f
 cases T with
 | zero=>exact p7 (cy (LA _ _) Y) (Nf _)
 | succ J=>
  refine⟨⟨J,GE▸cy y (LA _ _),?_,SO y▸iX Y,?_,λj U r V=>?_,λr q=>LD _ (h.sub r q)⟩,λl k=>(Ot _ l).elim λr V=>(dW.mp V).2 (h.sub r (k p (f▸Ll _ fp) r (dW.mp V).1))⟩
  ·(erw[SN y];erw[SO y];erw[v];rewrite[M9])
   exact f
  ·(erw[GE];erw[h7 _];rewrite[NV];erw[Nk (fA R w p).length _])
   exact cy (Ls qH _) h.bd
  ·rw[SN y,v] at U
   refine(LB.mp U).elim (λU=>LD _ (h.done j U r V)) λU=>?_
   obtain rfl:=n2.mp U
   exact TU (p:=r∈w) (LD _) λL=>Ll _ (dW.mpr ⟨V,L⟩)
inductive CLJ(H0:CH)(t0:TY)(P:Par)(t c:ki)(ty0:TY)(C:cp Pl)(ad:cp ki)(m i:ki)(H':CH)(L':EN):Prop
 | mk (q2:cp Pl) (ad2:cp ki) (f2:ki) (S:ClS H0 t0 P c ty0 ad2 q2 H') (G:GrS P.R C ad m i q2 ad2 f2) (l0:L' 0=aM (.ref t)) (l2:L' 2=aM (.ref c)) (b':LG) (l3:L' 3=aM (.bool b')) (hb:(∀j∈C,∀r∈after P.R j,r∈ad)->b'=false)
def BB{L:EN}{q:cp Pl}{ad:cp ki}{m:ki}{K:NE}(B:Cl0 P ty0 t c)(S:ClS H0 t0 P c ty0 ad q H)(G:H0.free c)(u:m<800)(v:j4 P.R f ad q=C)(z:q.length+left P.R ad<=f)(o:q.length+left P.R ad<=m)(Q:L 0=aM (.ref t))(A:L 2=aM (.ref c))
(g:∀w H' V D,ClS H0 t0 P c ty0 w C H'->C.length+left P.R w<=m->(∀j∈C,∀r∈after P.R j,r∈w)->((∀j∈C,∀r∈after P.R j,r∈ad)->D=false)->V 0=aM (.ref t)->V 2=aM (.ref c)->V 3=aM (.bool D)->K .next ⟨H',V⟩) :
  ae (ah fF mF n) mF bP ⟨H,L⟩ K FX:=by
 refine W.asg .c (frW (α:=ki) (f:=.ref) (a:=c) (I:=CLJ H0 t0 P t c ty0 C ad m) m (.v A)
  ⟨q,ad,f,S,⟨Lp _,v,z,o,aO,λb h=>h⟩,Q,A,false,rfl,λb=>rfl⟩ ?_)
 rintro i H2 L2 ⟨q2,w,E,I,y,s,d,b2,F,R⟩
 have O:=I
 obtain⟨l,z0,ty,N,k,T,J,M⟩:=O
 have Y:q2.length<=m:=cy (LA _ _) y.bd
 refine⟨cy y.le Y,l,N.T.gL T,λe=>?_,cy y.le (p8 J.len.symm),λa4 h4 K hK=>?_⟩
 ·obtain rfl:=e.trans J.len
  have v:=y.eq
  rw[Vo,Mh,show j4 P.R E w []=[] by cases E <;> rfl,Mp] at v
  subst v
  exact W.nil (g w H2 L2 b2 I y.bd (Mh (l:=q2)▸y.done) R s d F)
 ·refine oEA (J.get h4) λp hp hi=>?_
  refine oA (y.next hp) λU x=>?_;obtain⟨f3,W3⟩:=U
  refine Hf (r:=p.1) (d:=p.2) ⟨B.F,(B.k k) B.t,_,T⟩ N T J M G (eF Y u) hi s d F rfl λH3 L3 X O a j0 j2 j3=>hK.nxt ⟨_,_,f3,O.base k,W3,j0,j2,X,j3,λZ=>?_⟩
  cases X with
  | false=>rfl
  | true=>exact(a rfl).elim (λe=>e.symm.trans (R Z)) λh=>p7 Z (x h)
inductive CLK(H0:CH)(t0:TY)(P:Par)(t c:ki)(ty0:TY)(q:cp Pl)(k:ki)(H':CH)(L:EN):Prop
 | a (e:k=2) (l0:L 0=aM (.ref t)) (l2:L 2=aM (.ref c)) (l3:L 3=aM (.bool true)) (S:ClS H0 t0 P c ty0 [] q H')
 | b (b:LG) (ad:cp ki) (l0:L 0=aM (.ref t)) (l2:L 2=aM (.ref c)) (l3:L 3=aM (.bool b)) (hk:k<=1) (hb:k=0->b=false) (S:ClS H0 t0 P c ty0 ad (clo P.R q) H') (hB:(clo P.R q).length+left P.R ad<=q.length+P.R.length) (hd:∀j∈clo P.R q,∀r∈after P.R j,r∈ad)
def tV{I:ki}{l:cp ki}{q:cp Pl}(N:Now H0 t0 P ty H)(F:fB P)(V:ty t=aM .table)(hI:ty I=aM (.ak (l.map .ref)))(ha:cB (λa p=>ty a=aM (.item p.1 p.2)) l q)(hq:q.length<=600)
(hQ:∀c y ty' H',Now H0 t0 (P.wm ⟨y,P.m+1⟩) ty' H'->Ka ty ty'->ty' c=aM (.stL (clo P.R q))->Q (.ref c) H'):ah fF mF (n+1) 340 [.ref t,.ref I] H Q:=by
 refine bK [.ref t,.ref I] (d:=b8) rfl rfl rfl rfl λFQ J o=>?_
 have w:=N.T.tb V
 have hM:∀r,r<P.R.length->(P.ad r=P.m+1↔r∈([]:cp ki)):=λr hr=>
  X0 (λe=>p7 (e▸(N.T.pd ((dX N.T (N.T.gr w.a29.2).a17.2 F.kq (F.k▸rf (VI 3) F.G.len.1) F.z).2 r (F.k▸hr))).am) (Int.not_le_of_gt (Xj P.m))) Le
 refine W.gn (.v rfl) w.cls (N.T.tat V w.a36) .c (.inl rfl) ?_
 have O:P.m<=P.m+1:=Rg (Xj P.m)
 have N1:Now H0 t0 (P.wm ⟨P.ad,P.m+1⟩) ty (H.bw 36 t (.int (P.m+1))):=N.bw V (aq w.cls) (λa ρ m hr s=>by
  by_cases q:∃D,ρ=.cJ D
  ·refine oE q λD f=>?_;subst f
   exact{ s with am:=MG s.am O }
  ·exact s.upM (λD e=>q ⟨D,e⟩) λe=>by subst e;exact m (s.1.trans (N.T.sat _ _ V).1.symm)) ⟨(N.T.sat _ _ V).1,{ w with a36:=rfl,no:=λk E=>(E1 (MW (rf (by decide) E))).trans (w.no k E),a30:=w.a30,a29:=w.a29,a31:=w.a31,a32:=w.a32,a34:=w.a34,a35:=w.a35,a40:=w.a40,a41:=w.a41 }⟩
 have F1:fB (P.wm ⟨P.ad,P.m+1⟩):=⟨F.G,F.k,F.kq,F.kn,F.z,F.li,MG F.m0 O⟩
 refine W.slL N1 (.v rfl) .c .c (N1.T.gL hI) rfl λc M d N2 hc i T=>W.asg .c ?_
 have B:Cl0 (P.wm ⟨P.ad,P.m+1⟩) M t c:=⟨F1,(T _ _ V).1,_,hc⟩
 have x:q.length+P.R.length<=605:=LY hq F.G.len.2
 have R:∀{ad d} {L:EN},ClS H0 t0 (P.wm ⟨P.ad,P.m+1⟩) c M ad (clo P.R q) d->(clo P.R q).length+left P.R ad<=q.length+P.R.length->L 2=aM (.ref c)->ae (ah fF mF n) mF [.ret (.v 2)] ⟨d,L⟩ FQ FX:=λ{ad d L} S hb j=>S.casesOn λl' y t3 N3 k3 C X o=>by
  refine oAA (N3.pro (.stL (clo P.R q)) i C ⟨l',N3.T.L C,X,eF (cy (LA _ _) hb) (eF x (by decide))⟩) λN4 h4 k4=>?_
  exact W.ret (.v j) (J (hQ c y _ _ N4 (λa ρ h=>k4 _ _ (T _ _ h).2 (k3 _ _ (T _ _ h).2 (T _ _ h).1)) h4))
 have A:q.length+P.R.length<800:=eF x (by decide)
 refine whl (J:=CLK H0 t0 (P.wm ⟨P.ad,P.m+1⟩) t c M q) 2 (.a rfl rfl rfl rfl ⟨l,P.ad,M,N2,.r,hc,ha.mono λa p h=>(T _ _ h).1,hM⟩) ?_
 rintro k H3 L3 (⟨rfl,Z,j,G,S⟩ | ⟨b,ad,Z,j,G,E,u,S,hB,hd⟩)
 ·have hn:q.length+left P.R []<=q.length+P.R.length:=Ls Eb _
  exact⟨_,true,.v G,rfl,(NP ·),λo K z=>BB (m:=q.length+P.R.length) B S i A (show j4 P.R (q.length+P.R.length+1) [] q=clo P.R q from rfl) (PG hn) hn Z j λY H4 L4 g S4 U v o j0 j2 j3=>z.nxt ⟨1,Lz 1,.b g Y j0 j2 j3 (Lf 1) (λh=>p7 h S9) S4 U v⟩⟩
 ·refine⟨_,b,.v G,rfl,λo=>R S hB j,λz0 K z=>?_⟩
  obtain rfl:k=1:=ME E (Nd λh=>NP ((u h).symm.trans z0))
  exact BB (f:=(clo P.R q).length+left P.R ad) (m:=q.length+P.R.length) B S i A (tU (LA _ _) hd) (Lf _) hB Z j λY H4 L4 g S4 U v z1 j0 j2 j3=>z.nxt ⟨0,Lz 0,.b g Y j0 j2 j3 (MA 0) (λo=>z1 hd) S4 U v⟩
end
section
variable(R:cp aE)
def ai:cp Pl:=(Lk R.length).flatMap λr=>(Lk ((rhs R r).length+1)).map λd=>(r,d)
def kit:cp Pl:=(ai R).filter λp=>decide (1<=p.2/\1<=p.1)
end
def Ec(n:ki):cp Pl->cp (cp Pl):=n.rec (λz=>[[]]) λz Q U=>[]::U.flatMap λx=>(Q (U.erase x)).map (x::·)
def cnt(n:ki):Nat:=n.rec 1 λn z=>1+(n+1) * z
theorem Ed{z Q:Type}{f:z->cp Q}{k:ki}{V:cp z}(h:∀x∈V,(f x).length<=k):(V.flatMap f).length<=V.length * k:=by
 induction V with
 | nil=>exact Lp _
 | cons a V w=>
  (erw[U5];erw[GE];erw[NN];erw[WK _ _];erw[Nk _ _])
  exact LY (w λx y=>h x (oo _ y)) (h a fp)
def tW{n:ki}{U:cp Pl}{x:Pl}(h:U.length<=n+1)(z:x∈U):(U.erase x).length<=n:=TC z▸Uy h
theorem BC(n:ki):∀(U:cp Pl),U.length<=n->(Ec n U).length<=cnt n:=by
 induction n with
 | zero=>exact λz z=>Lf 1
 | succ n Q=>exact λU h=>cy (Lw (cy (Ed λx w=>(h7 _).symm▸Q _ (tW h w)) (RH (cnt n) h))) (p8 (Nk ((n+1) * cnt n) 1))
theorem tX(n:ki):∀(U l:cp Pl),U.length<=n->U.Nodup->(l∈Ec n U↔l.Nodup/\∀x∈l,x∈U):=by
 induction n with
 | zero=>
  intro U l h _
  obtain rfl:U=[]:=Mq (QG.mp h)
  exact n2.trans ⟨λe=>e.symm▸⟨LR,aO⟩,λh=>eq_nil_iff_forall_not_mem.mpr λx V=>Le (h.2 x V)⟩
 | succ n o=>
  intro U l h j
  have Q:=λx (V:x∈U) t=>o (U.erase x) t (tW h V) (j.erase x)
  cases l with
  | nil=>exact VB fp ⟨LR,aO⟩
  | cons x t=>
   refine⟨λq=>?_,λq=>oo _ (MB.mpr ⟨x,q.2 x fp,LL ((Q x (q.2 x fp) t).mpr ⟨(Mf.mp q.1).2,λy w=>(SC j).mpr ⟨λe=>(Mf.mp q.1).1 (e▸w),q.2 y (oo _ w)⟩⟩)⟩)⟩
   refine oEA (MB.mp ((ta.mp q).resolve_left (PP _ _))) λy w q=>?_
   refine oEA (p9.mp q) λO p e=>?_
   refine oA (NH e) λY v=>?_;subst Y;subst v
   have k:=(Q y w O).mp p
   exact⟨Mf.mpr ⟨λq=>((SC j).mp (k.2 y q)).1 rfl,k.1⟩,λz J=>(ta.mp J).elim (λe=>e▸w) λJ=>mem_of_mem_erase (k.2 z J)⟩
section
variable{R:cp aE}
def aJ{p:Pl}:p∈ai R↔p.1<R.length/\p.2<=(rhs R p.1).length:=by
 refine MB.trans ⟨λh=>?_,λh=>⟨p.1,LI.mpr h.1,p9.mpr ⟨p.2,LI.mpr (Mz h.2),rfl⟩⟩⟩
 refine oEA h λr w z=>?_
 refine oEA (p9.mp z) λd y Q=>?_;subst Q
 exact⟨LI.mp w,tc (LI.mp y)⟩
def tY:(ai R).Nodup:=
 Ug.mpr ⟨λr Y=>Rf _ (λa b z q=>z (dd PY q)) PN,PN.imp λ{a b} z x Q y w q=>z ((p9.mp Q).elim λd h=>(p9.mp w).elim λe k=>dd PZ (h.2.trans (q.trans k.2.symm)))⟩
def ku{p:Pl}:p∈kit R↔p∈ai R/\1<=p.2/\1<=p.1:=MC.trans (Pu λz=>QN)
def vH:(kit R).Nodup:=tY.filter _
def tZ(G:aj R):rhs R 0=[sS]:=gH (x:=(sP,[sS])) G.r0
def r7(G:aj R):(kit R).length<=8:=
 br (m:=(Lk 4).flatMap λr=>(Lk 2).map λd=>(r+1,d+1)) vH λp z=>
  have h:=ku.mp z
  have k:=aJ.mp h.1
  MB.mpr ⟨p.1 - 1,LI.mpr (Ny (eF (p8 (MZ h.2.2)) (rf k.1 G.len.2))),p9.mpr ⟨p.2 - 1,LI.mpr (rf (Nat.sub_one_lt_of_lt h.2.1) (cy k.2 (G.ln _))),MX (MZ h.2.2) (MZ h.2.1)⟩⟩
def gi(G:aj R):(ai R).length<=15:=
 br (m:=(Lk 5).flatMap λr=>(Lk 3).map λd=>(r,d)) tY λp z=>
  have k:=aJ.mp z
  MB.mpr ⟨p.1,LI.mpr (rf k.1 G.len.2),p9.mpr ⟨p.2,LI.mpr (Mz (cy k.2 (G.ln _))),rfl⟩⟩
def eS(R:cp aE):cp (cp Pl):=clo R [(0,0)]::clo R [(0,1)]::(Ec 8 (kit R)).map (clo R)
def kv(G:aj R):(eS R).length<=109603:=by
 show((Ec 8 (kit R)).map (clo R)).length+2<=109601+2
 erw[h7 _]
 exact Lw (Lw (BC 8 (kit R) (r7 G)))
def vI{p:Pl}:[p].Nodup:=Mi _ _
def oU:(clo R [(0,0)]).Nodup:=r6 vI λp z Q=>n2.mp z▸rfl
def BD:(clo R [(0,1)]).Nodup:=r6 vI λp z Q=>n2.mp z▸rfl
def fw{q:cp Pl}{p:Pl}(h:p∈clo R q):p∈q∨p.2=0/\1<=p.1:=(iY (R:=R) q).elim λz e=>(LB.mp (e.1▸h)).imp_right λh=>⟨(e.2.1 p h).1,(e.2.1 p h).2.1⟩
theorem vJ{l:cp Pl}{a:Pl}(z:l.Nodup)(Q:a∈l)(h:∀b∈l,b=a):l=[a]:=by
 cases l with
 | nil=>exact p7 Q Le
 | cons b t=>
  obtain rfl:=h b fp
  cases t with
  | nil=>rfl
  | cons c t=>exact p7 ((h c (oo _ fp)).symm▸fp) (Mf.mp z).1
def Ee{p:Pl}(z:p∈clo R [(0,0)]):p.2=0:=(fw z).elim (λh=>n2.mp h▸rfl) λh=>h.1
def Ef(G:aj R)(h:(0,1)∈moves R (clo R [(0,0)]) sS):moves R (clo R [(0,0)]) sS=[(0,1)]:=vJ (oM oU) h λp z=>by
 refine aA (bv.mp z) λd Q w y=>?_
 obtain rfl:d=0:=Ee w
 exact MX (Rd λY=>p7 (G.fst p.1 sS Y y) (by decide)) Q
def oV{q:cp Pl}{P:cp Pl->Prop}(G:aj R)(h:q∈eS R)(Q:P (clo R [(0,0)]))(w:P (clo R [(0,1)]))(y:∀I:cp Pl,I.Nodup->(∀p∈I,p∈kit R)->P (clo R I)):P q:=by
 rcases ta.mp h with rfl | h
 ·exact Q
 rcases ta.mp h with rfl | h
 ·exact w
 refine oEA (p9.mp h) λI Y z=>?_;subst z
 have h:=(tX 8 _ I (r7 G) vH).mp Y
 exact y I h.1 h.2
def iZ(G:aj R){q:cp Pl}(h:q∈eS R):q.Nodup/\(∀p∈q,p∈ai R)/\Fwd R (·∈q):=by
 have Q:∀I:cp Pl,(∀p∈I,p∈ai R)->∀p∈clo R I,p∈ai R:=λI U p z=>by
  refine aA (iY (R:=R) I) λk e w j=>?_
  exact(LB.mp (e▸z)).elim (U p) λz=>aJ.mpr ⟨(w p z).2.2,(w p z).1▸Lp _⟩
 have y:0<R.length:=rf (by decide) G.len.1
 exact oV (P:=λq=>q.Nodup/\(∀p∈q,p∈ai R)/\Fwd R (·∈q)) G h
  ⟨oU,Q _ λp z=>n2.mp z▸aJ.mpr ⟨y,Lp _⟩,r5 _⟩
  ⟨BD,Q _ λp z=>n2.mp z▸aJ.mpr ⟨y,p8 (dd Nc (tZ G)).symm⟩,r5 _⟩
  λI v Y=>⟨r6 v λp z V=>p7 V (MW (ku.mp (Y p z)).2.1),Q _ λp z=>(ku.mp (Y p z)).1,r5 _⟩
def i3(G:aj R){q:cp Pl}(h:q∈eS R):q.length<=15:=
 cy (br (iZ G h).1 (iZ G h).2.1) (gi G)
def yj(G:aj R){q:cp Pl}(h:q∈eS R):(0,0)∈q->q=clo R [(0,0)]:=by
 have z:∀{I:cp Pl},(0,0)∉I->(0,0)∉clo R I:=λn m=>(fw m).elim n λm=>Nf 0 m.2
 exact oV (P:=λq=>(0,0)∈q->q=clo R [(0,0)]) G h (λQ=>rfl) (λm=>p7 m (z λm=>nomatch n2.mp m))
  λI Q w m=>p7 m (z λm=>Nf 0 (ku.mp (w _ m)).2.1)
def yk(G:aj R){q:cp Pl}(h:q∈eS R)(x:Lj):clo R (moves R q x)∈eS R:=by
 have Y:=iZ G h
 by_cases z:(0,1)∈moves R q x
 ·refine aA (bv.mp z) λd k Q w=>?_
  obtain rfl:=Oa k
  obtain rfl:=yj G h Q
  obtain rfl:sS=x:=ey ((dd (·[0]?) (tZ G)).symm.trans w)
  exact Ef G z▸oo _ fp
 ·refine oo _ (oo _ (p9.mpr ⟨_,(tX 8 _ _ (r7 G) vH).mpr ⟨oM Y.1,λp U=>?_⟩,rfl⟩))
  refine aA (bv.mp U) λd e y w=>?_
  have v:=(kO.mp w).1
  refine ku.mpr ⟨aJ.mpr ⟨(aJ.mp (Y.2.1 _ y)).1,e▸v⟩,e▸MO d,Nd λV=>z ?_⟩
  have j:d<1:=MI v ((dd (λr=>(rhs R r).length) V).trans (dd Nc (tZ G)))
  obtain rfl:=OH.mp j
  exact(show p=(0,1) from MX V e)▸U
end
section
variable{P:Par}{ty t0 w ty':TY}{H H' H0:CH}{n b c e g t:ki}{Q:Rs}{z y:aK}
theorem ua(q:cp Pl):CV.hks (q.map plC)=true/\CV.dw (q.map plC)<=1:=by
 induction q with
 | nil=>exact⟨rfl,Lp _⟩
 | cons p q U=>
  refine⟨U.1,?_⟩
  exact Sd.mpr ⟨Lf 1,U.2⟩
def gI(q:cp Pl):(bJ q).az=true:=by
 refine oA (ua q) λU V=>?_
 unfold bJ CV.az
 exact rv.mpr ⟨U,OA.mpr (cy (Lw V) (by decide))⟩
def ub(q:cp Pl)(U:aZ x):(tK q x).az=true:=by
 refine oA (ua q) λV k=>?_
 exact rv.mpr ⟨rv.mpr ⟨V,rv.mpr ⟨U,rfl⟩⟩,OA.mpr (Lw (Sd.mpr ⟨cy (Lw k) (by decide),Lp _⟩))⟩
def mD{q:Pl}(h:plC p=plC q):p=q:=by
 have h:=(NH (CV.tup.inj h))
 exact MX (OK (CV.int.inj h.1)) (OK (CV.int.inj (NH h.2).1))
theorem uc{p q:cp Pl}(h:p.map plC=q.map plC):p=q:=by
 induction p generalizing q with
 | nil=>cases q with
  | nil=>rfl
  | cons=>cases h
 | cons a p U=>cases q with
  | nil=>cases h
  | cons b q=>(erw[mD (NH h).1];exact LH (U (NH h).2) rfl)
def jv{q:cp Pl}(h:bJ p=bJ q):p=q:=uc (CV.tup.inj h)
def BE{q:cp Pl}{y:Lj}(h:tK p x=tK q y):p=q/\x=y:=
 have h:=NH (CV.tup.inj h)
 ⟨jv h.1,CV.str.inj (NH h.2).1⟩
def gJ{q:cp Pl}{p:Pl}:moves R (q++[p]) x=moves R q x++(if (rhs R p.1)[p.2]?=aM x then [(p.1,p.2+1)] else []):=by
 unfold moves
 erw[filterMap_append]
 refine dd _ ?_
 by_cases h:(rhs R p.1)[p.2]?=aM x
 ·simp only[Pb,RW,K2 h]
 ·simp only[Pb,RW,E1 h]
def oW{V:cp (CV×CV)}(F:fB P)(j:∀e∈V,(e.1=.str dC/\∃b,e.2=.ref b/\ty b=aM (.stL (clo P.R p)))∨∃r d,r<P.k/\d<=(rhs P.R r).length/\e.1=plC (r,d)/\∃b,e.2=.ref b/\ty b=aM (.iD x (p++[(r,d)])))(J:(V.map (·.1)).Nodup):V.length<szl:=by
 have:=br J (m:=CV.str dC::(ai P.R).map plC) λk o=>by
  refine oEA (p9.mp o) λe O U=>?_;subst U
  rcases j e O with h | ⟨r,d,f,l,h,_⟩
  ·erw[h.1];exact fp
  ·erw[h];exact oo _ (LL (aJ.mpr ⟨F.k▸f,l⟩))
 rw[h7,NN,h7] at this
 exact eF (cy this (Lw (gi F.G))) (e0 rfl)
structure GTL(t I:ki)(x:Lj)(s c:ki)(L:EN):Prop where
 l0:L 0=aM (.ref t)
 l1:L 1=aM (.ref I)
 l2:L 2=aM (.str x)
 l4:L 4=aM (.ref s)
 l5:L 5=aM (.ref c)
def Eg{s a:ki}{x:Lj}{l:cp ki}{p:cp Pl}{K:NE}(N:Now H0 t0 P ty H)(F:fB P)(hx:x∈bm)(hc:ty c=aM (.ak (l.map .ref)))(cF:H0.free c)(ha:cB (λa p=>ty a=aM (.item p.1 p.2)) l p)(hp:p.length<900)(hs:ty s=aM (.iD x p))(B:ty a=aM (.item r d))(m:GTL t I x s c L)(l6:L 6=aM (.ref a))
(hQ:∀l' i ty' H' L',Now H0 t0 P ty' H'->Kp c ty ty'->ty' c=aM (.ak (l'.map .ref))->cB (λa p=>ty' a=aM (.item p.1 p.2)) l' (p++if (rhs P.R r)[d]?=aM x then [(r,d+1)] else [])->ty' i=aM (.iD x (p++if (rhs P.R r)[d]?=aM x then [(r,d+1)] else []))->GTL t I x i c L'->K .next ⟨H',L'⟩) :
  ae (ah fF mF n) mF aH ⟨H,L⟩ K FX:=by
 have hi:=N.T.it B
 have skip:¬ (rhs P.R r)[d]?=aM x->∀v,K .next ⟨H,upd L 7 v⟩:=λJ v=>by
  rw[E1 J,Mp] at hQ
  exact hQ l s ty H _ N .r hc ha hs ⟨m.l0,m.l1,m.l2,m.l4,m.l5⟩
 rcases hi.a13 (.inl (by(erw[F.li];erw[Ng F.k]);exact hi.rk)) with⟨S,b,T,k⟩ | ⟨S,T⟩
 ·have X:=N.T.it k
  refine oEA X.a28 λw hw z1=>?_
  have A:=o2 S
  have hw:=hw.trans (dd aM (z1 d _ rfl A))
  refine W.asg (.att (.v l6) (N.T.iat B T)) (W.f6 (.anT (.v rfl) (Bh N.T X.cls rfl) (.cm (.att (.v rfl) (N.T.iat k hw)) (.v m.l2) (eqS (aI (F.G.sym r _ (MS S))) (aI hx)))) (λJ=>?_) λJ=>W.nil (skip (λh=>J (ey (A.symm.trans h))) _))
  rw[K2 (A.trans (dd aM J))] at hQ
  have D:∀{o C U},Now H0 t0 P o C->Ka ty o->U 7=aM (.ref b)->Ev U C (.tu [.at (.v 7) 4,.at (.v 7) 15]) (plC (r,d+1)):=λ{o C U} O f E=>
   have T:=f _ _ k
   .tu (.two (.att (.v E) (O.T.iat T (O.T.it T).a4)) (.att (.v E) (O.T.iat T (O.T.it T).a15)))
  have Z:∀{M o C U},Now H0 t0 P o C->Ka ty o->o M=aM (.iD x (p++[(r,d+1)]))->GTL t I x s c U->U 7=aM (.ref b)->U 8=aM (.ref M)->ae (ah fF mF n) mF [.ex (.ap (.v 5) (.v 7)),.asg (.n 4) (.v 8)] ⟨C,U⟩ (bq (ah fF mF n) mF [] K FX) FX:=λ{M o C U} O f G m E l8=>
   have u:=f _ _ hc
   W.f7 O cF u (.v m.l5) (.v E) (by(erw[h7 _];erw[ha.len]);exact Mj hp (e0 rfl)) λt2 H2 Q z2 R=>W.asg (.v l8) (W.nil (hQ (l++[b]) M t2 _ _ Q (f.p.t R) (by erw[LP];exact z2) ((ha.mono λa p h=>R _ _ (bh h rfl hc rfl) (f _ _ h)).app (.cons (R _ _ (bh k rfl hc rfl) (f _ _ k)) .nil)) (R _ _ (bh G rfl u rfl) G) ⟨m.l0,m.l1,m.l2,rfl,m.l5⟩))
  refine aA (N.T.sat _ _ hs) λes M s2 s3=>?_
  have y:∀{U},GTL t I x s c U->U 7=aM (.ref b)->ae (ah fF mF n) mF [.asg (.n 8) .d0,.asg (.ix (.v 4) (.tu [.at (.v 7) 4,.at (.v 7) 15])) (.v 8)] ⟨H,U⟩ (bq (ah fF mF n) mF [.ex (.ap (.v 5) (.v 7)),.asg (.n 4) (.v 8)] (bq (ah fF mF n) mF [] K FX) FX) FX:=λ{U} m E=>by
   refine W.pa N λc2 o C O Y dF f=>?_
   refine oAA (O.pro (.iD x (p++[(r,d+1)])) dF Y ⟨[],O.T.D Y,aO,LR⟩) λQ g R=>?_
   have k3:Ka ty _:=λa z h=>R _ _ (f _ _ h).2 (f _ _ h).1
   refine aA (Q.T.sat _ _ (k3 _ _ hs)) λz3 u1 u2 u3=>?_
   refine W.bo (.v rfl) (.v m.l4) (D Q k3 E) u1 rfl (oW F u2 u3) (W.nil (Z (Q.bo (P':=P) (k3 _ _ hs) (aq u1) (λV V V V h=>h) ⟨_,rfl,λe J=>(bV J).elim (u2 e) λq=>?_,dc u3⟩) k3 g ⟨m.l0,m.l1,m.l2,m.l4,m.l5⟩ E rfl))
   subst q
   exact .inr ⟨r,d+1,hi.rk,S,rfl,c2,rfl,g⟩
  have m7:GTL t I x s c (upd L 7 (.ref b)):=⟨m.l0,m.l1,m.l2,m.l4,m.l5⟩
  cases j:aw es (plC (r,d+1)) with
  | none=>exact W.asg (.geN (.v m.l4) M (D N (λV V h=>h) rfl) rfl .c j) (W.fZ (.nt (b:=false) (.v rfl) rfl) rfl (y ⟨m.l0,m.l1,m.l2,m.l4,m.l5⟩ rfl))
  | some w=>
   obtain⟨i,rfl,z0⟩:∃i,w=.ref i/\ty i=aM (.iD x (p++[(r,d+1)])):=by
    rcases s2 _ (du j) with⟨h,_⟩ | ⟨r',d',_,_,h,b',h1,h2⟩
    ·cases h
    ·cases mD h
     exact⟨b',h1,h2⟩
   refine oEA (N.T.sat _ _ z0) λz4 v1 V=>?_
   exact W.asg (.geS (.v m.l4) M (D N (λV V h=>h) rfl) rfl .c j) (W.ite (.nt (.v rfl) (oB N.T v1)) rfl (λV=>y ⟨m.l0,m.l1,m.l2,m.l4,m.l5⟩ rfl) λV=>W.nil (Z N (λV V h=>h) z0 ⟨m.l0,m.l1,m.l2,m.l4,m.l5⟩ rfl rfl))
 ·have J:¬ (rhs P.R r)[d]?=aM x:=by rw[Md (p8 S.symm)];exact nsm
  exact W.asg (.att (.v l6) (N.T.iat B T)) (W.fy (.anF (.v rfl) rfl) rfl (W.nil (skip J _)))
variable{I:ki}{q:cp Pl}{x:Lj}
def r8(V:Q (bJ []) H):ah fF mF (n+1) 318 [.none] H Q:=
 bK [.none] (d:=rN) rfl rfl rfl rfl λk U j=>W.fZ (.nt (b:=false) (.v rfl) rfl) rfl (W.ret (.tu .nil) (U V))
def kz(N:Now H0 t0 P ty H)(h:iE ty q v)(U:∀ty' H',Now H0 t0 P ty' H'->Ka ty ty'->Q (bJ q) H'):ah fF mF (n+1) 318 [v] H Q:=by
 rcases h with⟨rfl,rfl⟩ | ⟨b,rfl,V⟩
 ·exact r8 (U ty H N λk k h=>h)
 ·exact mB N V U
def iE.aL(T:au P ty H)(h:iE ty q v):aL H v=aM (!q.isEmpty):=by
 rcases h with⟨rfl,rfl⟩ | ⟨b,rfl,U⟩
 ·rfl
 ·refine aA (T.st U) λl V k j=>?_
  erw[oz (aV V)]
  cases k <;> rfl
def iE.ka(h:iE ty q v)(k:Ka ty ty'):iE ty' q v:=h.imp id λh=>h.imp λb h=>⟨h.1,k _ _ h.2⟩
theorem qJ{j:cp (CV×CV)}(F:fB P)(J:P.qs=eS P.R)(O:∀p∈j,∃x∈bm,(p.1=.str x/\∃b,p.2=.ref b/\ty b=aM (.iD x []))∨∃q∈P.qs,p.1=tK q x/\iE ty (clo P.R (moves P.R q x)) p.2)(f:(j.map (·.1)).Nodup):j.length<szl:=by
 have:=br f (m:=bm.map CV.str++P.qs.flatMap λq=>bm.map λx=>tK q x) λk L=>by
  refine oEA (p9.mp L) λe T U=>?_;subst U
  refine oEA (O e T) λx o V=>?_;obtain⟨h,_⟩ | ⟨q,C,h,_⟩:=V
  ·rw[h];exact LD _ (LL o)
  ·rw[h];exact Ll _ (MB.mpr ⟨q,C,p9.mpr ⟨x,o,rfl⟩⟩)
 have B:∀l:cp (cp Pl),(l.flatMap λq=>bm.map λx=>tK q x).length=l.length * 6:=λl=>by
  induction l with
  | nil=>rfl
  | cons a l N=>rw[U5,GE,N,h7,NN,Xg,Nk];rfl
 rw[h7,GE,B,h7,J] at this
 exact eF (cy this (Ls (RH 6 (kv F.G)) _)) (e0 rfl)
namespace W
variable{V:PT}{Q:NE}{X:No}{L:EN}{U:cp CE}{j:ki}
def KQ(T:Ev L H o (.ref c))(g:H.dct c=aM k)(h:Evs L H U J)(r:V f J H λy H'=>∃p,L j=aM p/\∃k,H'.dct c=aM k/\(CV.tup [y,p]).az=true/\ae V M l ⟨H',upd L i ((aw k (.tup [y,p])).getD .none)⟩ Q X):ae V M (.asg (.n i) (.ge o (.tu [.fn f U,.v j]) (.c .none))::l) ⟨H,L⟩ Q X:=
 T _ _ _ _ ⟨c,k,rfl,g,h _ _ _ _ r⟩
def Jj(C:Ev L H O v)(B:Ev L H o (.ref c))(h:Evs L H U J)(r:V f J H λy H'=>∃p,L j=aM p/\∃a T,CV.ref c=.ref a/\H'.dct a=aM T/\(CV.tup [y,p]).az=true/\T.length<szl/\ae V M l ⟨H'.bo a (bf T (.tup [y,p]) v),L⟩ Q X):ae V M (.asg (.ix o (.tu [.fn f U,.v j])) O::l) ⟨H,L⟩ Q X:=
 C _ _ _ _ (B _ _ _ _ (h _ _ _ _ r))
end W
structure Gt(P:Par)(ty:TY)(t I:ki)(q:cp Pl)(x:Lj):Prop where
 F:fB P
 qs:P.qs=eS P.R
 t:ty t=aM .table
 I:ty I=aM (.stL q)
 q:q∈P.qs
 x:x∈bm
def Gt.ka(h:Gt P ty t I q x)(k:Ka ty ty'):Gt P ty' t I q x:={ h with t:=k _ _ h.t,I:=k _ _ h.I }
def Gt.wm{M:PM}(h:Gt P ty t I q x)(U:P.m<=M.m):Gt (P.wm M) ty t I q x:={ h with F:=⟨h.F.G,h.F.k,h.F.kq,h.F.kn,h.F.z,h.F.li,MG h.F.m0 U⟩ }
def oX{L:EN}{j:NE}(N:Now H0 t0 P ty H)(g:Gt P ty t I q x)(l:iE ty (clo P.R (moves P.R q x)) v)(T:L 0=aM (.ref t))(C:L 1=aM (.ref I))(B:L 2=aM (.str x))(J:L 3=aM v)
(a:∀ty' H',Now H0 t0 P ty' H'->Ka ty ty'->j (.ret v) ⟨H',L⟩):ae (ah fF mF (n+1)) mF [.asg (.ix (.at (.v 0) 34) (.tu [.fn 318 [.v 1],.v 2])) (.v 3),.ret (.v 3)] ⟨H,L⟩ j FX:=by
 have U:=(N.T.tb g.t).a34
 refine W.Jj (.v J) (.att (.v T) (N.T.tat g.t U.1)) (.one (.v C)) (mB N g.I λA M o V=>?_)
 refine aA (o.T.sat _ _ (V _ _ U.2)) λD O p f=>?_
 refine⟨_,B,_,D,rfl,O,ub q (aI g.x),qJ g.F g.qs p f,W.ret (.v J) (a A _ (o.bo (P':=P) (V _ _ U.2) (aq O) (λk k k k h=>h) ⟨_,rfl,λe E=>(bV E).elim (p e) λe=>?_,dc f⟩) V)⟩
 subst e
 exact⟨x,g.x,.inr ⟨q,g.q,rfl,l.ka V⟩⟩
theorem gK{a:ki}(T:au P ty H)(h:ty a=aM (.stL q)):H.lst a=aM (q.map λp=>CV.ref (P.it p.1 p.2))/\∀p∈q,ty (P.it p.1 p.2)=aM (.item p.1 p.2):=by
 refine aA (T.st h) λl O j L=>?_
 have U:∀{l:cp ki} {q:cp Pl},cB (λa p=>ty a=aM (.item p.1 p.2)) l q->l.map CV.ref=q.map (λp=>CV.ref (P.it p.1 p.2))/\∀p∈q,ty (P.it p.1 p.2)=aM (.item p.1 p.2):=λ{l q} j=>by
  induction j with
  | nil=>exact⟨rfl,aO⟩
  | @cons a p l q V _ o=>
   have k:a=P.it p.1 p.2:=(T.it V).pin
   subst k
   exact⟨by(erw[Nv];erw[Nv];exact LH o.1 rfl),λf J=>(ta.mp J).elim (λe=>e▸V) (o.2 f)⟩
 exact⟨O.trans (dd aM (U j).1),(U j).2⟩
def qK:(moves R q x).length<=q.length:=length_filterMap_le _ _
theorem qL{FQ:NE}{s:ki}{r:cp ki}(N:Now H0 t0 P ty H)(g:Gt P ty t I q x)(l:ty c=aM (.ak (r.map .ref)))(cF:H0.free c)(ha:cB (λa p=>ty a=aM (.item p.1 p.2)) r (moves P.R q x))(F:ty s=aM (.iD x (moves P.R q x)))(m:GTL t I x s c L)(l3:L 3=aM v)(R:moves P.R q x=[]->iE ty (clo P.R (moves P.R q x)) v)
(hQ:∀M ty' H' v L,P.m<=M.m->Now H0 t0 (P.wm M) ty' H'->Kp c ty ty'->iE ty' (clo P.R (moves P.R q x)) v->FQ (.ret v) ⟨H',L⟩) :
  ae (ah fF mF (n+1)) mF [.ite (.v 5) [.asg (.n 3) (.me (.v 0) 48 [.v 5]),.asg (.ix (.v 4) (.c (.str dC))) (.v 3)] [.asg (.ix (.v 4) (.c (.str dC))) (.v 5)]] ⟨H,L⟩ (bq (ah fF mF (n+1)) mF [.asg (.ix (.at (.v 0) 34) (.tu [.fn 318 [.v 1],.v 2])) (.v 3),.ret (.v 3)] FQ FX) FX:=by
 have U:=ha.len
 have k:(CV.str dC).az=true:=vp _ fp
 have S:=qK (q:=q) (x:=x) (R:=P.R)
 have X:=i3 g.F.G (g.qs▸g.q)
 refine W.ite (.v m.l5) (oz (N.T.gL l)) (λz0=>?_) λZ=>?_
 ·have T:=N.T.tb g.t
  refine W.me (.v m.l0) T.cls rfl rfl (T.no 48 (by decide)) (.one (.v m.l5)) (tV N g.F g.t l ha (cy S (cy X (by decide))) λK V t5 H5 C j J=>?_)
  have hm:P.m<=P.m+1:=Wd (Ol _)
  have g5:=(g.ka j).wm (M:=⟨V,P.m+1⟩) hm
  refine aA (C.T.sat _ _ (j _ _ F)) λG B A D=>?_
  refine W.bo (.v rfl) (.v m.l4) .c B k (oW (P:=P.wm ⟨V,P.m+1⟩) g5.F A D) (W.nil (W.nil (oX (C.bo (P':=P.wm ⟨V,P.m+1⟩) (j _ _ F) (aq B) (λO O O O h=>h) ⟨_,rfl,λe u=>(bV u).elim (A e) λe=>?_,dc D⟩) g5 (.inr ⟨K,rfl,J⟩) m.l0 m.l1 m.l2 rfl λQ w y E=>hQ ⟨V,P.m+1⟩ Q w _ _ hm y (j.t E).p (.inr ⟨K,rfl,E _ _ J⟩))))
  subst e
  exact .inl ⟨rfl,K,rfl,J⟩
 ·have f:moves P.R q x=[]:=by
   cases r with
   | nil=>exact Mq U.symm
   | cons=>cases Z
  have R:=R f
  rw[f] at U
  obtain rfl:r=[]:=Mq U
  refine oAA (N.pro (.stL []) cF l ⟨[],N.T.L l,.nil,by decide⟩) λC Y j=>?_
  have d:∀{a z},ty a=aM z->z.own=false->_=aM z:=λh o=>j _ _ (bh h o l rfl) h
  refine aA (C.T.sat _ _ (d F rfl)) λG B A D=>?_
  have i:iE _ (clo P.R (moves P.R q x)) v:=R.imp id λh=>h.imp λb h=>⟨h.1,d h.2 rfl⟩
  refine W.bo (.v m.l5) (.v m.l4) .c B k (oW g.F A D) (W.nil (W.nil (oX (C.bo (P':=P) (d F rfl) (aq B) (λO O O O h=>h) ⟨_,rfl,λe u=>(bV u).elim (A e) λe=>?_,dc D⟩) { g with t:=d g.t rfl,I:=d g.I rfl } i m.l0 m.l1 m.l2 l3 λQ w y E=>hQ P.toPM Q w _ _ (Ol _) y (j.t E.p) (i.ka E))))
  subst e
  exact .inl ⟨rfl,c,rfl,by(erw[f];erw[kr]);exact Y⟩
inductive GTI(P:Par)(H0:CH)(t0 ty:TY)(t I:ki)(x:Lj)(c:ki)(m:cp Pl)(H':CH)(L:EN):Prop
 | mk (l5:cp ki) (s:ki) (ty':TY) (N:Now H0 t0 P ty' H') (k:Kp c ty ty') (hc:ty' c=aM (.ak (l5.map .ref))) (ha:cB (λa p=>ty' a=aM (.item p.1 p.2)) l5 m) (hs:ty' s=aM (.iD x m)) (w:GTL t I x s c L)
theorem ud{L:EN}{D:NE}{s:ki}(N:Now H0 t0 P ty H)(g:Gt P ty t I q x)(hs:ty s=aM (.iD x []))(l0:L 0=aM (.ref t))(l1:L 1=aM (.ref I))(l2:L 2=aM (.str x))(l4:L 4=aM (.ref s))
(hQ:∀M ty' H' v L,P.m<=M.m->Now H0 t0 (P.wm M) ty' H'->Ka ty ty'->iE ty' (clo P.R (moves P.R q x)) v->D (.ret v) ⟨H',L⟩) :
  ae (ah fF mF (n+1)) mF [.asg (.n 5) (.li []),.fr (.n 6) (.val (.v 1)) aH [],.asg (.n 3) (.ge (.v 4) (.c (.str dC)) (.c .none)),
   .ite (.nt (.v 3)) [.ite (.v 5) [.asg (.n 3) (.me (.v 0) 48 [.v 5]),.asg (.ix (.v 4) (.c (.str dC))) (.v 3)] [.asg (.ix (.v 4) (.c (.str dC))) (.v 5)]] [],
   .asg (.ix (.at (.v 0) 34) (.tu [.fn 318 [.v 1],.v 2])) (.v 3),.ret (.v 3)] ⟨H,L⟩ D FX:=by
 refine W.jh N .nil λc t1 H1 N1 hc E V=>?_
 have F:=i3 g.F.G (g.qs▸g.q)
 refine frL (ys:=q) (f:=λp=>.ref (P.it p.1 p.2)) (a:=I) (I:=λi=>GTI P H0 t0 t1 t I x c (moves P.R (q.take i) x)) (.v l1)
  ⟨[],s,t1,N1,.r,hc,.nil,(V _ _ hs).1,l0,l1,l2,l4,rfl⟩ (λi H L h=>h.casesOn λO O C J f O O O O=>aV (gK J.T (f _ _ (V _ _ g.I).2 (V _ _ g.I).1)).1) ?_ ?_
 ·rintro i p H2 L2 K hp ⟨l5,s',C,J,f,o,j,U,m⟩ hK
  have R:=(gK J.T (f _ _ (V _ _ g.I).2 (V _ _ g.I).1)).2 p (od hp)
  have S:moves P.R (q.take (i+1)) x=moves P.R (q.take i) x++if (rhs P.R p.1)[p.2]?=aM x then [(p.1,p.2+1)] else []:=by
   (erw[Mr];erw[hp])
   exact gJ
  rw[S] at hK
  exact Eg (t:=t) (I:=I) J g.F g.x o E j (eF qK (eF (Ox i q) (eF F (by decide)))) U R ⟨m.l0,m.l1,m.l2,m.l4,m.l5⟩ rfl λl' s2 X H3 L3 Z B G u Q m3=>hK.nxt ⟨l',s2,X,Z,f.t B,G,u,Q,m3⟩
 rintro H2 L2 ⟨l5,s',C,J,f,o,j,U,m⟩
 rw[Mh] at j U
 have y:Gt P C t I q x:={ g with t:=f _ _ (V _ _ g.t).2 (V _ _ g.t).1,I:=f _ _ (V _ _ g.I).2 (V _ _ g.I).1 }
 refine aA (J.T.sat _ _ U) λes u1 u2 u3=>?_
 have l:(CV.str dC).az=true:=vp _ fp
 have T:∀M ty' H' v L,P.m<=M.m->Now H0 t0 (P.wm M) ty' H'->Kp c C ty'->iE ty' (clo P.R (moves P.R q x)) v->D (.ret v) ⟨H',L⟩:=λM ty' H' v L Y N k hr=>hQ M ty' H' v L Y N (λa z h=>k _ _ (V _ _ h).2 (f _ _ (V _ _ h).2 (V _ _ h).1)) hr
 refine W.nil ?_
 cases e:aw es (.str dC) with
 | none=>exact W.asg (.geN (.v m.l4) u1 .c l .c e) (W.fZ (.nt (b:=false) (.v rfl) rfl) rfl (qL J y o E j U ⟨m.l0,m.l1,m.l2,m.l4,m.l5⟩ rfl (λY=>.inl ⟨rfl,by(erw[Y];exact LH kr rfl)⟩) T))
 | some w=>
  obtain⟨b,rfl,hb⟩:∃b,w=.ref b/\C b=aM (.stL (clo P.R (moves P.R q x))):=by
   rcases u2 _ (du e) with⟨_,h⟩ | ⟨r,d,_,_,h,_⟩
   ·exact h
   ·cases h
  have A:iE C (clo P.R (moves P.R q x)) (.ref b):=.inr ⟨b,rfl,hb⟩
  exact W.asg (.geS (.v m.l4) u1 .c l .c e) (W.ite (.nt (.v rfl) (A.aL J.T)) rfl (λO=>qL J y o E j U ⟨m.l0,m.l1,m.l2,m.l4,m.l5⟩ rfl (λO=>A) T) λO=>W.nil (oX J y A m.l0 m.l1 m.l2 rfl λX H3 Z B=>T P.toPM X H3 _ _ (Ol _) Z B.p (A.ka B)))
theorem BF(N:Now H0 t0 P ty H)(g:Gt P ty t I q x)(r:∀M ty' H' v,P.m<=M.m->Now H0 t0 (P.wm M) ty' H'->Ka ty ty'->iE ty' (clo P.R (moves P.R q x)) v->Q v H'):ah fF mF (n+2) 347 [.ref t,.ref I,.str x] H Q:=by
 refine bK [.ref t,.ref I,.str x] (d:=cP) rfl rfl rfl rfl λY V k=>?_
 have U:=(N.T.tb g.t).a34
 refine oEA (N.T.sat _ _ U.2) λz0 c1 k=>?_
 have o:=ba x g.x
 refine W.KQ (.att (.v rfl) (N.T.tat g.t U.1)) c1 (.one (.v rfl)) (mB N g.I λm F j p=>?_)
 clear c1
 refine aA (j.T.sat _ _ (p _ _ U.2)) λf R d2 d3=>?_
 have l:=g.ka p
 have U:=(j.T.tb l.t).a34
 refine⟨_,rfl,f,R,ub q (aI g.x),?_⟩
 have J:∀v3,ae (ah fF mF (n+1)) mF [.asg (.n 4) (.ge (.at (.v 0) 34) (.v 2) (.c .none)),.ite (.nt (.v 4)) [.asg (.n 4) .d0,.asg (.ix (.at (.v 0) 34) (.v 2)) (.v 4)] [],
   .asg (.n 5) (.li []),.fr (.n 6) (.val (.v 1)) aH [],.asg (.n 3) (.ge (.v 4) (.c (.str dC)) (.c .none)),
   .ite (.nt (.v 3)) [.ite (.v 5) [.asg (.n 3) (.me (.v 0) 48 [.v 5]),.asg (.ix (.v 4) (.c (.str dC))) (.v 3)] [.asg (.ix (.v 4) (.c (.str dC))) (.v 5)]] [],
   .asg (.ix (.at (.v 0) 34) (.tu [.fn 318 [.v 1],.v 2])) (.v 3),.ret (.v 3)] ⟨F,upd (jD 0 [.ref t,.ref I,.str x]) 3 v3⟩ Y FX:=λv3=>by
  have T:∀{L},L 0=aM (.ref t)->L 1=aM (.ref I)->L 2=aM (.str x)->ae (ah fF mF (n+1)) mF [.asg (.n 4) .d0,.asg (.ix (.at (.v 0) 34) (.v 2)) (.v 4)] ⟨F,L⟩ (bq (ah fF mF (n+1)) mF [.asg (.n 5) (.li []),.fr (.n 6) (.val (.v 1)) aH [],.asg (.n 3) (.ge (.v 4) (.c (.str dC)) (.c .none)),
   .ite (.nt (.v 3)) [.ite (.v 5) [.asg (.n 3) (.me (.v 0) 48 [.v 5]),.asg (.ix (.v 4) (.c (.str dC))) (.v 3)] [.asg (.ix (.v 4) (.c (.str dC))) (.v 5)]] [],
   .asg (.ix (.at (.v 0) 34) (.tu [.fn 318 [.v 1],.v 2])) (.v 3),.ret (.v 3)] Y FX) FX:=λ{L} l0 l1 l2=>by
   refine W.pa j λc t3 H3 N3 C dF k3=>?_
   refine oAA (N3.pro (.iD x []) dF C ⟨[],N3.T.D C,aO,LR⟩) λi B k4=>?_
   have k5:Ka m _:=λa z h=>k4 _ _ (k3 _ _ h).2 (k3 _ _ h).1
   have S:=l.ka k5
   have U:=(i.T.tb S.t).a34
   refine aA (i.T.sat _ _ U.2) λz1 w1 w2 w3=>?_
   refine W.bo (.v rfl) (.att (.v l0) (i.T.tat S.t U.1)) (.v l2) w1 o (qJ g.F g.qs w2 w3) (W.nil (ud (i.bo (P':=P) U.2 (aq w1) (λk k k k h=>h) ⟨_,rfl,λe he=>(bV he).elim (w2 e) λe=>?_,dc w3⟩) S B l0 l1 l2 rfl λM X Z v L K G u A=>V (r M X Z v K G (p.t (k5.t u)) A)))
   subst e
   exact⟨x,g.x,.inl ⟨rfl,c,rfl,B⟩⟩
  cases O:aw f (.str x) with
  | none=>exact W.asg (.geN (.att (.v rfl) (j.T.tat l.t U.1)) R (.v rfl) o .c O) (W.fZ (.nt (b:=false) (.v rfl) rfl) rfl (T rfl rfl rfl))
  | some w=>
   obtain⟨b,rfl,hb⟩:∃b,w=.ref b/\m b=aM (.iD x []):=by
    refine oEA (d2 _ (du O)) λy hy D=>?_;obtain⟨h,b,h1,h2⟩ | ⟨_,_,h,_⟩:=D
    ·cases CV.str.inj h;exact⟨b,h1,h2⟩
    ·cases h
   refine oEA (j.T.sat _ _ hb) λz2 v1 k=>?_
   exact W.asg (.geS (.att (.v rfl) (j.T.tat l.t U.1)) R (.v rfl) o .c O) (W.ite (.nt (.v rfl) (oB j.T v1)) rfl (λk=>T rfl rfl rfl) λk=>W.nil (ud j l hb rfl rfl rfl rfl λM X Z v L K G u A=>V (r M X Z v K G (p.t u) A)))
 cases O:aw f (tK q x) with
 | none=>exact W.fy (.v (by erw[show aw f (.tup [bJ q,.str x])=none from O];rfl)) rfl (W.nil (J _))
 | some v=>
  have hR:iE m (clo P.R (moves P.R q x)) v:=by
   refine oEA (d2 _ (du O)) λy hy E=>?_;obtain⟨h,_⟩ | ⟨q',z3,h,A⟩:=E
   ·cases h
   ·refine oA (BE h) λs d=>?_;subst s;subst d
    exact A
  erw[show aw f (.tup [bJ q,.str x])=aM v from O]
  exact W.ite (.v rfl) (hR.aL j.T) (λk=>W.ret (.v rfl) (V (r P.toPM m F v (Ol _) j p hR))) λk=>W.nil (J _)
end
section
variable(R:cp aE)
def usy(q:cp Pl):cp Str:=nub [] (q.flatMap λp=>nub [] (rhs R p.1))
def eT(q:cp Pl)(C:cp (cp Pl))(x:Lj):cp (cp Pl):=if clo R (moves R q x)=[]∨clo R (moves R q x)∈C then C else C++[clo R (moves R q x)]
def r9(f:ki):cp (cp Pl)->ki->cp (cp Pl):=f.rec (λC z=>C) λz Q C i=>C[i]?.elim C λq=>Q ((usy R q).foldl (eT R q) C) (i+1)
def CC:cp (cp Pl):=r9 R ((eS R).length+1) [clo R [(0,0)]] 0
end
section
variable{R:cp aE}
theorem mE{q:cp Pl}{x:Lj}:x∈usy R q↔∃p∈q,x∈rhs R p.1:=
 gG.trans ((UT Le).trans (MB.trans (X3 λp=>Pu λz=>gG.trans (UT Le))))
theorem qM{q:cp Pl}(h:moves R q x≠[]):x∈usy R q:=
 (Ot _ h).elim λp z=>(bv.mp z).elim λd e=>mE.mpr ⟨_,e.2.1,od e.2.2⟩
section
variable{q:cp Pl}{C:cp (cp Pl)}
theorem sd(h:clo R (moves R q x)=[]∨clo R (moves R q x)∈C):eT R q C x=C:=K2 h
theorem oY(h:¬ (clo R (moves R q x)=[]∨clo R (moves R q x)∈C)):eT R q C x=C++[clo R (moves R q x)]:=E1 h
theorem yl{g:cp Pl}(h:g∈C):g∈eT R q C x:=by
 by_cases k:clo R (moves R q x)=[]∨clo R (moves R q x)∈C
 ·erw[sd k];exact h
 ·erw[oY k];exact LD _ h
end
theorem ym{q:cp Pl}{l:cp Lj}:∀{C:cp (cp Pl)} {g:cp Pl},g∈C->g∈l.foldl (eT R q) C:=by
 induction l with
 | nil=>exact λh=>h
 | cons x l z=>exact λh=>z (yl h)
theorem oZ{z:Type}{l:cp z}{a p:z}{j:ki}(h:(l++[a])[j]?=aM p):l[j]?=aM p∨j=l.length/\p=a:=by
 rcases Ss j l.length with q | q | q
 ·exact .inl ((Nl q).symm.trans h)
 ·exact .inr ⟨q,(ey (Tc.symm.trans (q▸h))).symm⟩
 ·exact nos ((Md (GE▸q)).symm.trans h)
theorem kB{z:Type}{l:cp z}{a p:z}{j:ki}(h:l[j]?=aM p):(l++[a])[j]?=aM p:=(Nl (kO.mp h).1).trans h
inductive Rch(R:cp aE)(C:cp (cp Pl))(j:ki)(q:cp Pl):Prop
 | z (e:j=0)
 | s (i:ki) (p:cp Pl) (x:Lj) (h:i<j) (hp:C[i]?=aM p) (hx:x∈bm) (hm:moves R p x≠[]) (e:q=clo R (moves R p x))
structure Stt(R:cp aE)(C:cp (cp Pl))(i:ki):Prop where
 le:i<=C.length
 nd:C.Nodup
 sub:∀q∈C,q∈eS R
 hd:C[0]?=aM (clo R [(0,0)])
 rch:∀j q,C[j]?=aM q->Rch R C j q
 cls:∀j q x,j<i->C[j]?=aM q->moves R q x≠[]->clo R (moves R q x)∈C
theorem Jk:Stt R [clo R [(0,0)]] 0:=
 ⟨Lp _,Mi _ _,λq h=>n2.mp h▸fp,rfl,λj q h=>.z (OH.mp (kO.mp h).1),λj q x h=>p7 h (MD _)⟩
theorem BG(G:aj R){i:ki}{q:cp Pl}{x:Lj}(h:Stt R C k)(w:C[i]?=aM q)(v:x∈bm):Stt R (eT R q C x) k/\(eT R q C x)[i]?=aM q:=by
 by_cases Y:clo R (moves R q x)=[]∨clo R (moves R q x)∈C
 ·erw[sd Y];exact⟨h,w⟩
 ·erw[oY Y]
  exact⟨⟨GE▸cy h.le (LA _ _),cQ h.nd λe=>Y (.inr e),cC h.sub (yk G (h.sub q (od w)) x),kB h.hd,
   λj p Q=>(oZ Q).elim (λQ=>(h.rch j p Q).casesOn .z λV J o O f=>.s V J o O (kB f)) λe=>.s i q x (e.1▸(kO.mp w).1) (kB w) v (λz=>Y (.inl ((dd (clo R) z).trans kr))) e.2,
   λj p y Q U g=>(oZ U).elim (λU=>LD _ (h.cls j p y Q U g)) λe=>p7 (e.1▸Q) (OG h.le)⟩,kB w⟩
theorem ue(G:aj R){i:ki}{q:cp Pl}{l:cp Lj}:∀{C:cp (cp Pl)},Stt R C k->C[i]?=aM q->(∀x∈l,x∈bm)->Stt R (l.foldl (eT R q) C) k/\(l.foldl (eT R q) C)[i]?=aM q/\∀x∈l,moves R q x≠[]->clo R (moves R q x)∈l.foldl (eT R q) C:=by
 induction l with
 | nil=>exact λh Q V=>⟨h,Q,aO⟩
 | cons x l v=>
  intro C h Q Y
  have a:=BG G h Q (Y x fp)
  have b:=v a.1 a.2 λy z=>Y y (oo _ z)
  refine⟨b.1,b.2.1,λy z U=>(ta.mp z).elim (λe=>ym (l:=l) ?_) λz=>b.2.2 y z U⟩
  subst e
  by_cases w:clo R (moves R q y)=[]∨clo R (moves R q y)∈C
  ·erw[sd w];exact w.resolve_left λe=>U (vA.mp e)
  ·erw[oY w];exact Ll _ fp
theorem mG(G:aj R)(h:Stt R C i):C.length<=(eS R).length:=br h.nd h.sub
theorem xe{f i:ki}{C:cp (cp Pl)}(e:C[i]?=none):r9 R (f+1) C i=C:=dd (LW · C _) e
theorem xf{f i:ki}{C:cp (cp Pl)}{q:cp Pl}(e:C[i]?=aM q):r9 R (f+1) C i=r9 R f ((usy R q).foldl (eT R q) C) (i+1):=dd (LW · C λq=>r9 R f ((usy R q).foldl (eT R q) C) (i+1)) e
theorem uf(G:aj R){q:cp Pl}(h:Stt R C i)(e:C[i]?=aM q):Stt R ((usy R q).foldl (eT R q) C) (i+1):=by
 refine oAA (ue G h e (l:=usy R q) λx U=>(mE.mp U).elim λp h=>G.sym _ _ h.2) λz y v=>?_
 refine⟨(kO.mp y).1,z.nd,z.sub,z.hd,z.rch,λj p x V Y Q=>(LV (tc V)).elim (λw=>z.cls j p x w Y Q) λe=>?_⟩
 obtain rfl:=ey (y.symm.trans (e▸Y))
 exact v x (qM Q) Q
theorem BH(G:aj R)(f:ki):∀(C:cp (cp Pl)) (i:ki),Stt R C i->(eS R).length<f+i->Stt R (r9 R f C i) (r9 R f C i).length:=by
 induction f with
 | zero=>exact λC i h z=>p7 (rf z ((OQ i).symm▸cy h.le (mG G h))) (MR _)
 | succ f Q=>
  intro C i h z
  cases e:C[i]? with
  | none=>erw[xe e];exact ME h.le (LS.mp e)▸h
  | some q=>erw[xf e];exact Q _ (i+1) (uf G h e) (MI z (NU f i))
theorem bR(G:aj R):Stt R (CC R) (CC R).length:=BH G _ _ _ Jk (Lz _)
theorem gM(G:aj R):(CC R).length<=109603:=cy (mG G (bR G)) (kv G)
theorem BI{C:cp (cp Pl)}:r9 R f C C.length=C:=by
 cases f with
 | zero=>rfl
 | succ f=>exact xe (Md (Lf _))
theorem ug{q:cp Pl}(h:(0,0)∈clo R (moves R q x)):False:=(fw h).elim (λh=>(bv.mp h).elim λd h=>p7 h.1.symm (MK d)) λh=>p7 h.2 (Nf 0)
theorem Eh(G:aj R){j:ki}{q:cp Pl}(h:(CC R)[j]?=aM q)(Q:(0,0)∈q):j=0:=
 ((bR G).rch j q h).casesOn id λi p x z z z z e=>(ug (e▸Q)).elim
theorem Hg(G:aj R){j:ki}{q:cp Pl}(h:(CC R)[j]?=aM q)(V:(0,1)∈q):q=[(0,1)]:=by
 have k:∀p∈clo R [(0,0)],p.2=0:=λp Q=>(fw Q).elim (λh=>n2.mp h▸rfl) λh=>h.1
 cases(bR G).rch j q h with
 | z e=>exact p7 (k _ (ey ((e▸h).symm.trans (bR G).hd)▸V)) S9
 | s i p x _ J _ f e=>
  subst e
  have w:(0,1)∈moves R p x:=(fw V).resolve_right λh=>p7 h.1 S9
  refine aA (bv.mp w) λd U v y=>?_
  obtain rfl:=Oa U
  obtain rfl:=ey ((Eh G J v▸J).symm.trans (bR G).hd)
  obtain rfl:sS=x:=ey ((dd (·[0]?) (tZ G)).symm.trans y)
  have Y:moves R (clo R [(0,0)]) sS=[(0,1)]:=vJ (oM oU) w λp Q=>by
   refine aA (bv.mp Q) λd U o y=>?_
   obtain rfl:d=0:=k _ o
   exact MX (Rd λO=>p7 (G.fst p.1 sS O y) (by decide)) U
  erw[Y]
  exact vJ (r6 vI λp Q g=>n2.mp Q▸rfl) (kl fp) (mC (S:=λp=>p=(0,1)) (λp Q r y=>nos ((dd (·[1]?) (tZ G)).symm.trans (Q▸(ef.mp y).2.2))) λp Q=>n2.mp Q)
end
def PE.heU(E:PE)(he:cp (CV×CV)):PE:={ E with he:=he }
def Par.wh(P:Par)(M:PM)(he:cp (CV×CV)):Par:={ P with toPM:=M,toPE:=P.toPE.heU he }
structure eI(he:cp (CV×CV))(C:cp (cp Pl)):Prop where
 at_:∀(j:ki) (q:cp Pl),C[j]?=aM q->aw he (bJ q)=aM (.int j)
 no:∀q,q∉C->aw he (bJ q)=none
 len:he.length<=C.length
theorem qN{g:cp Pl}(h:eI he C)(Y:g∉C):eI (bf he (bJ g) (.int C.length)) (C++[g]):=by
 refine⟨λj q Q=>?_,λq w=>?_,?_⟩
 ·rw[bt]
  rcases Oj j C.length with z | z
  ·rw[Nl z] at Q
   rw[E1 λe=>Y (by rw[jv e];exact od Q)]
   exact h.at_ j q Q
  ·have y:=(kO.mp Q).1
   rw[GE] at y
   obtain rfl:j=C.length:=ME (tc y) z
   rw[Tc] at Q
   rw[ey Q,K2 rfl]
 ·rw[bt,E1 λe=>w (by rw[jv e];exact Ll _ fp)]
  exact h.no q λU=>w (LD _ U)
 ·rw[GE]
  exact cy om (Lw h.len)
theorem iJ{z:cp Lj}{s:Lj}:bf (z.map λs=>(CV.str s,CV.none)) (.str s) .none=(if s∈z then z else z++[s]).map λs=>(CV.str s,CV.none):=by
 induction z with
 | nil=>rfl
 | cons a z Q=>
  show(if CV.str a=.str s then _ else _::bf (z.map λs=>(CV.str s,CV.none)) (.str s) .none)=_
  by_cases e:a=s
  ·subst e;(erw[K2 rfl];erw[K2 fp]);rfl
  ·(erw[E1 λq=>e (CV.str.inj q)];erw[Q])
   by_cases h:s∈z
   ·(erw[K2 h];erw[K2 (oo _ h)]);rfl
   ·(erw[E1 h];erw[E1 λq=>(ta.mp q).elim (λq=>e q.symm) h]);rfl
section
variable{P:Par}{w U z:TY}{H Y y:CH}{n c g t:ki}{Q:Rs}{q:cp Pl}
theorem fK(T:au P w H)(o:w t=aM .table):H.dct P.hash=aM P.he:=(T.sat _ _ (T.tb o).a35.2).2 rfl
theorem ui{k v:CV}(N:Now y U P w H)(O:w t=aM .table):Now y U (P.wh P.toPM (bf P.he k v)) w (H.bo P.hash (bf P.he k v)):=by
 refine N.bo (N.T.tb O).a35.2 (aq (fK N.T O)) (λa V o p s=>?_) ⟨Lm _,λf=>rfl⟩
 cases V
 case j9=>exact⟨s.1,λe=>p7 (show P.hash=a from e).symm o⟩
 all_goals exact s
namespace W
variable{O:PT}{a:cp CS}{Q:NE}{X:No}{L:EN}{T:cp CV}{i j:ki}
theorem Hh(D:Ev L H B (.bool A))(E:A=true->ae O M a ⟨H,L⟩ (bq O M l Q X) X)(h:Evs L H p T)(s:A=false->O f T H λy Y=>wpE O M N ⟨Y,L⟩ (λz st=>∃r,b9 st.H .isIn y z=aM r/\∃q,aL st.H (.bool r)=aM q/\if q then ae O M a st (bq O M l Q X) X else ae O M b st (bq O M l Q X) X) X):ae O M (.ite (.orr B (.cm .isIn (.fn f p) N)) a b::l) ⟨H,L⟩ Q X:=by
 cases A with
 | true=>exact D _ _ _ _ ⟨true,rfl,true,rfl,E rfl⟩
 | false=>exact D _ _ _ _ ⟨false,rfl,h _ _ _ _ (s rfl)⟩
theorem Jl(D:Ev L H C v)(E:Ev L H o (.ref c))(h:Evs L H p T)(r:O f T H λy Y=>∃a A,CV.ref c=.ref a/\Y.dct a=aM A/\y.az=true/\A.length<szl/\ae O M l ⟨Y.bo a (bf A y v),L⟩ Q X):ae O M (.asg (.ix o (.fn f p)) C::l) ⟨H,L⟩ Q X:=
 D _ _ _ _ (E _ _ _ _ (h _ _ _ _ r))
end W
theorem BJ{L:EN}{l:cp ki}{K:NE}(N:Now y U P w H)(g:Gt P w t I q x)(hc:w c=aM (.ak (l.map .ref)))(cF:y.free c)(J:cB (λa q=>w a=aM (.stL q)) l C)(r:eI P.he C)(D:C.length<=109603)
(l0:L 0=aM (.ref t))(l1:L 1=aM (.ref c))(l3:L 3=aM (.ref I))(l7:L 7=aM (.str x))
(Q:∀M he l' z Y v f,P.m<=M.m->Now y U (P.wh M he) z Y->Kp c w z->z c=aM (.ak (l'.map .ref))->cB (λa q=>z a=aM (.stL q)) l' (eT P.R q C x)->eI he (eT P.R q C x)->(f=.next∨f=.cont)->K f ⟨Y,upd L 8 v⟩) :
  ae (ah fF mF (n+3)) mF b3 ⟨H,L⟩ K FX:=by
 have F:=N.T.tb g.t
 refine W.me (.v l0) F.cls rfl rfl (F.no 49 (by decide)) (.two (.v l3) (.v l7)) (BF N g λM t1 H1 v hm N1 V k=>?_)
 have skip:∀{R m},Now y U (P.wm M) R m->Ka t1 R->(clo P.R (moves P.R q x)=[]∨clo P.R (moves P.R q x)∈C)->K .cont ⟨m,upd L 8 v⟩:=λ{R m} o B h=>by
  have p:eT P.R q C x=C:=K2 h
  rw[p] at Q
  exact Q M P.he l R m v .cont hm o (V.t B).p (B _ _ (V _ _ hc)) (J.mono λa q h=>B _ _ (V _ _ h)) r (.inr rfl)
 refine W.Hh (.nt (.v rfl) (k.aL N1.T)) (λe=>W.cont (skip N1 (λζ ζ h=>h) (.inl (Mt.mp (by simpa using e))))) (.one (.v rfl)) λe=>kz N1 k λR m o A=>?_
 have S:clo P.R (moves P.R q x)≠[]:=λh=>by rw[h] at e;cases e
 have B:=V.t A
 have O:=B _ _ g.t
 have X:m.dct P.hash=aM P.he:=fK (P:=P.wm M) o.T O
 have E:=gI (clo P.R (moves P.R q x))
 refine(Ev.att (L:=upd L 8 v) (.v (i:=0) l0) (o.T.tat O (o.T.tb O).a35.1)) _ _ _ _ ?_
 by_cases T:clo P.R (moves P.R q x)∈C
 ·refine oE (Mm.mp T) λj hj=>?_
  exact⟨true,Br o.T X E (r.at_ j _ hj),true,rfl,W.cont (skip o A (.inr T))⟩
 refine⟨false,yf o.T X E (r.no _ T),false,rfl,?_⟩
 have p:eT P.R q C x=C++[clo P.R (moves P.R q x)]:=E1 λe=>e.elim S T
 have s:=B _ _ hc
 have Z:=J.len
 refine W.nil (W.Jl (.x8 (k:=C.length) (.v l1) (o.T.lc (o.T.L s)) (by(erw[yc (o.T.gL s)];erw[h7 _];exact LH Z rfl)) (cy D (e0 rfl))) (.att (.v l0) (o.T.tat O (o.T.tb O).a35.1)) (.one (.v rfl)) (kz o (k.ka A) λt3 H3 N3 i=>?_))
 have G:=i _ _ O
 have N4:=ui (k:=bJ (clo P.R (moves P.R q x))) (v:=.int C.length) N3 G
 refine⟨_,_,rfl,fK N3.T G,E,eF (cy r.len D) (e0 rfl),?_⟩
 have z0:∃b,v=.ref b/\t3 b=aM (.stL (clo P.R (moves P.R q x))):=by
  rcases k with⟨_,h⟩ | ⟨b,e,h⟩
  ·exact p7 h S
  ·exact⟨b,e,i _ _ (A _ _ h)⟩
 refine oEA z0 λb u hb=>?_;subst u
 have d:=i _ _ s
 refine W.f7 N4 cF d (.v l1) (.v rfl) (by(erw[h7 _];erw[Z]);exact eF D (e0 rfl)) λt5 H5 N5 z1 k5=>?_
 rw[p] at Q
 exact Q M _ (l++[b]) t5 H5 _ .next hm N5 ((B.t i).p.t k5) (by erw[LP];exact z1) ((J.mono λa q h=>k5 _ _ (bh (i _ _ (B _ _ h)) rfl d rfl) (i _ _ (B _ _ h))).app (.cons (k5 _ _ (bh hb rfl d rfl) hb) .nil)) (qN r T) (.inl rfl)
end
theorem BK{l:cp Lj}{i:ki}(h:l[i]?=aM x):nub z (l.take (i+1))=if x∈nub z (l.take i) then nub z (l.take i) else nub z (l.take i)++[x]:=by
 (erw[Mr];erw[h]);exact tP
theorem xg{D l:cp Lj}:∀{acc:cp Lj},acc.Nodup->(∀y∈acc,y∈D)->(∀y∈l,y∈D)->(nub acc l).Nodup/\∀y∈nub acc l,y∈D:=by
 induction l with
 | nil=>exact λQ w j=>⟨Q,w⟩
 | cons y m U=>
  intro acc Q w v
  show(nub (if y∈acc then acc else acc++[y]) m).Nodup/\∀z∈nub (if y∈acc then acc else acc++[y]) m,z∈D
  have V:=λz k=>v z (oo _ k)
  by_cases Y:y∈acc
  ·erw[K2 Y];exact U Q w V
  ·erw[E1 Y];exact U (cQ Q Y) (cC w (v y fp)) V
def kN(ks:cp Lj):cp (CV×CV):=ks.map λs=>(CV.str s,CV.none)
structure IL(t c i I c4:ki)(L:EN):Prop where
 l0:L 0=aM (.ref t)
 l1:L 1=aM (.ref c)
 l2:L 2=aM (.int (i+1:ki))
 l3:L 3=aM (.ref I)
 l4:L 4=aM (.ref c4)
section
variable{P:Par}{ty t0 w ty':TY}{H H' H0:CH}{n c e g t I:ki}{Q:Rs}{z:aK}{q:cp Pl}{x:Lj}
inductive IT3(P:Par)(H0:CH)(t0 ty:TY)(t c i I c4:ki)(ks:cp Lj)(H':CH)(L:EN):Prop
 | mk (ty':TY) (N:Now H0 t0 P ty' H') (k:Kp c4 ty ty') (h:ty' c4=aM (.bc (kN ks))) (m:IL t c i I c4 L)
theorem BM{j a:ki}{K:NE}(N:Now H0 t0 P ty H)(F:fB P)(J:ty a=aM (.item r d))(E:ty j=aM (.bc (kN ks)))(X:H0.free j)(T:∀x∈ks,x∈bm)(C:ks.Nodup)(m:IL t c i I j L)(Z:L 5=aM (.ref a))
(G:∀ty' H' M,Now H0 t0 P ty' H'->Kp j ty ty'->ty' j=aM (.bc (kN (nub ks (nub [] (rhs P.R r)))))->IL t c i I j M->K .next ⟨H',M⟩) :
  ae (ah fF mF n) mF bZ ⟨H,L⟩ K FX:=by
 refine oEA ((N.T.it J).a11) λb u o=>?_
 have O:∀y∈nub [] (rhs P.R r),y∈bm:=λy B=>F.G.sym r y ((gG.mp B).resolve_left Le)
 refine frL (ys:=nub [] (rhs P.R r)) (f:=.str) (a:=b) (I:=λk=>IT3 P H0 t0 ty t c i I j (nub ks ((nub [] (rhs P.R r)).take k))) (.att (.v Z) (N.T.iat J u)) ⟨ty,N,.r,E,m⟩ (λk H' L h=>h.casesOn λA p f z z=>aV (p.T.sat _ _ (f _ _ (bh o rfl E rfl) o))) ?_ λs R h=>h.casesOn λA p f U V=>G A s R p f (by rw[Mh] at U;exact U) V
 rintro k x s R K S ⟨A,p,f,U,V⟩ Q
 refine oA (xg C T λy B=>O y (P1 (i:=k) B)) λw Y=>?_
 refine W.pA p X U .c (.v V.l4) (.v rfl) (ba _ (O x (od S))) (by(rewrite[kN];erw[h7 _]);exact eF (br w Y) (e0 rfl)) λv q g D e=>Q.nxt ⟨v,g,f.t e,?_,V.l0,V.l1,V.l2,V.l3,V.l4⟩
 erw[BK S]
 exact D.trans (dd (λl=>aM (aK.bc l)) iJ)
theorem Ei{a b:cp Lj}:nub [] (a++b)=nub (nub [] a) b:=by unfold nub;exact LH Sk rfl
theorem fB.wh{M:PM}(F:fB P)(U:P.m<=M.m):fB (P.wh M he):=⟨F.G,F.k,F.kq,F.kn,F.z,F.li,MG F.m0 U⟩
inductive IT5(P:Par)(H0:CH)(t0 ty:TY)(t c i I c4:ki)(C:cp (cp Pl))(H':CH)(L:EN):Prop
 | mk (M:PM) (he:cp (CV×CV)) (l:cp ki) (ty':TY) (hm:P.m<=M.m) (N:Now H0 t0 (P.wh M he) ty' H') (k:Kp c ty ty') (h:ty' c=aM (.ak (l.map .ref))) (ha:cB (λa q=>ty' a=aM (.stL q)) l C) (hh:eI he C) (m:IL t c i I c4 L)
theorem BN{i:ki}{L:EN}{l:cp ki}{K:NE}(N:Now H0 t0 P ty H)(F:fB P)(X:P.qs=eS P.R)(ht:ty t=aM .table)(b:ty c=aM (.ak (l.map .ref)))(cF:H0.free c)(ha:cB (λa q=>ty a=aM (.stL q)) l C)
(hS:Stt P.R C i)(hi:C[i]?=aM q)(hH:eI P.he C)(l0:L 0=aM (.ref t))(l1:L 1=aM (.ref c))(e:L 2=aM (.int i))
(hQ:∀M he r ty' H' L',P.m<=M.m->Now H0 t0 (P.wh M he) ty' H'->Kp c ty ty'->ty' c=aM (.ak (r.map .ref))->cB (λa q=>ty' a=aM (.stL q)) r ((usy P.R q).foldl (eT P.R q) C)->eI he ((usy P.R q).foldl (eT P.R q) C)->L' 0=aM (.ref t)->L' 1=aM (.ref c)->L' 2=aM (.int (i+1:ki))->K .next ⟨H',L'⟩) :
  ae (ah fF mF (n+3)) mF b4 ⟨H,L⟩ K FX:=by
 have z0:=hS.sub q (od hi)
 refine oEA (ha.sG hi) λI z1 hI=>?_
 refine W.asg (.ix (.v l1) (.v e) (eQ (N.T.gL b) z1)) (W.fS e .c (.inl rfl) (W.pa N λZ t1 H1 N1 z2 dF k1=>?_))
 have G:=k1 _ _ hI
 have u:∀{J H2},Now H0 t0 P J H2->Kp Z t1 J->H2.lst I=aM (q.map λp=>CV.ref (P.it p.1 p.2))/\∀p∈q,J (P.it p.1 p.2)=aM (.item p.1 p.2):=λO A=>gK O.T (A _ _ G.2 G.1)
 refine frL (ys:=q) (f:=λp=>.ref (P.it p.1 p.2)) (a:=I) (I:=λk=>IT3 P H0 t0 t1 t c i I Z (nub [] ((q.take k).flatMap λp=>nub [] (rhs P.R p.1)))) (.v rfl) ⟨t1,N1,.r,z2,l0,l1,rfl,rfl,rfl⟩ (λk H' L h=>h.casesOn λJ O A R R=>aV (u O A).1) ?_ ?_
 ·rintro k p H2 L2 K hp ⟨J,O,A,V,D⟩ hK
  refine oA (xg (D:=bm) (acc:=[]) (l:=(q.take k).flatMap λp=>nub [] (rhs P.R p.1)) LR aO λy hy=>(MB.mp hy).elim λp' h=>F.G.sym _ y ((gG.mp h.2).resolve_left Le)) λw1 w2=>?_
  refine BM (a:=P.it p.1 p.2) O F ((u O A).2 p (od hp)) V dF w2 w1 ⟨D.l0,D.l1,D.l2,D.l3,D.l4⟩ rfl λS H3 L3 d E j U=>hK.nxt ⟨S,d,A.t E,?_,U⟩
  (erw[Mr];erw[hp];erw[UA];erw[Ei])
  simpa using j
 rintro H2 L2 ⟨J,O,A,V,D⟩
 rw[Mh] at V
 have Q:∀x∈usy P.R q,x∈bm:=λx hx=>(mE.mp hx).elim λp h=>F.G.sym _ _ h.2
 have m:(kN (usy P.R q)).map (·.1)=(usy P.R q).map .str:=by(rewrite[kN];erw[Nt]);rfl
 have w:=(k1 _ _ b).2
 have up:∀a z,ty a=aM z->J a=aM z:=λa z h=>A _ _ (k1 _ _ h).2 (k1 _ _ h).1
 refine frK (ks:=usy P.R q) (a:=Z) (I:=λk=>IT5 P H0 t0 J t c i I Z (((usy P.R q).take k).foldl (eT P.R q) C)) (.v D.l4) (O.T.dg (O.T.D V))
  ⟨P.toPM,P.he,l,J,Ol _,O,.r,up _ _ b,ha.mono λa q h=>up _ _ h,hH,D⟩ (λk H' L h=>h.casesOn λM he r S R d E R R R R=>⟨_,d.T.D (E _ _ (Ma w) V),m⟩) ?_ λH3 L3 h=>h.casesOn λM he r S hm d E j T B U=>?_
 ·rintro k x H4 L4 K hx ⟨M,he,r,S,hm,d,E,j,T,B,U⟩ hK
  have Y:=(ue F.G (l:=(usy P.R q).take k) hS hi λy hy=>Q y (P1 hy)).1
  have kn:∀{a z},ty a=aM z->z.own=false->S a=aM z:=λh o=>E _ _ (bh h o b rfl) (up _ _ h)
  refine BJ (t:=t) (I:=I) d (⟨F.wh hm,X,kn ht rfl,kn hI rfl,X▸z0,Q x (od hx)⟩) j cF T B (cy (mG F.G Y) (kv F.G)) U.l0 U.l1 U.l3 rfl λM2 z3 e t4 H5 v f z4 N4 k4 z5 z6 z7 hf=>?_
  have s:eT P.R q (((usy P.R q).take k).foldl (eT P.R q) C) x=((usy P.R q).take (k+1)).foldl (eT P.R q) C:=by
   (erw[Mr];erw[hx];erw[Sk]);rfl
  have g:IT5 P H0 t0 J t c i I Z (((usy P.R q).take (k+1)).foldl (eT P.R q) C) H5 (upd (upd L4 7 (.str x)) 8 v):=⟨M2,z3,e,t4,MG hm z4,N4,E.t k4,z5,s▸z6,s▸z7,U.l0,U.l1,U.l2,U.l3,U.l4⟩
  rcases hf with rfl | rfl
  ·exact hK.nxt g
  ·exact hK.con g
 ·rw[Mh] at T B
  exact W.nil (hQ M he r S H3 L3 hm d (λa z h1 h2=>E _ _ h1 (up _ _ h2)) j T B U.l0 U.l1 U.l2)
namespace W
variable{U:PT}{M:MT}{a b:cp CS}{Q:NE}{X:No}{L:EN}{m d:ki}
theorem Hi(N:Now H0 t0 P ty H)(O:Ev L H o (.ref t))(p:H.cls t=aM d)(T:bn d=true)(C:M d m=aM f)(B:H.att m t=none)(he:Ev L H V v)(r:∀s j J,Now H0 t0 P j J->j s=aM (.ak [v])->K1 s ty j->U f [.ref t,.ref s] J λv H'=>∀c,H'.free c->ae U M l ⟨H'.aD c [v],upd L i (.ref c)⟩ Q X):ae U M (.asg (.n i) (.li [.me o m [.li [V]]])::l) ⟨H,L⟩ Q X:=
 O _ _ _ _ ⟨t,d,f,rfl,p,T,C,B,he _ _ _ _ λs A=>N.nL (G:=λH=>U f [.ref t,.ref s] H λv H'=>∀c,H'.free c->ae U M l ⟨H'.aD c [v],upd L i (.ref c)⟩ Q X) A λj J D g E k=>r s j J D g k⟩
end W
inductive ITA(P:Par)(H0:CH)(t0 ty:TY)(t c:ki)(ad:ki->Nj)(h1:cp (CV×CV))(i:ki)(H':CH)(L:EN):Prop
 | mk (l0:L 0=aM (.ref t)) (l1:L 1=aM (.ref c)) (l2:L 2=aM (.int i)) (ty':TY) (N:Now H0 t0 (P.wh ⟨ad,P.m+1⟩ (if i=0 then P.he else h1)) ty' H') (k:Ka ty ty')
inductive ITW(P:Par)(H0:CH)(t0 ty:TY)(t c:ki)(k:ki)(H':CH)(L:EN):Prop
 | mk (M:PM) (he:cp (CV×CV)) (i f:ki) (l:cp ki) (C:cp (cp Pl)) (ty':TY) (e:k=(eS P.R).length+1 - i) (hm:P.m<=M.m) (N:Now H0 t0 (P.wh M he) ty' H') (h:Kp c ty ty') (hc:ty' c=aM (.ak (l.map .ref))) (ha:cB (λa q=>ty' a=aM (.stL q)) l C) (hh:eI he C) (hS:Stt P.R C i) (hn:r9 P.R f C i=CC P.R) (hf:(eS P.R).length<f+i) (l0:L 0=aM (.ref t)) (l1:L 1=aM (.ref c)) (l2:L 2=aM (.int (i:ki)))
theorem BP(N:Now H0 t0 P ty H)(F:fB P)(z5:P.qs=eS P.R)(Z:ty t=aM .table)(G:P.he=[])
(hQ:∀M he c l ty' H',P.m<=M.m->Now H0 t0 (P.wh M he) ty' H'->Ka ty ty'->ty' c=aM (.ak (l.map .ref))->H0.free c->cB (λa q=>ty' a=aM (.stL q)) l (CC P.R)->eI he (CC P.R)->Q (.ref c) H'):ah fF mF (n+4) 354 [.ref t] H Q:=by
 refine bK [.ref t] (d:=cz) rfl rfl rfl rfl λFQ u D=>?_
 have V:=N.T.tb Z
 have O:=V.a29.2
 have zu:=F.G.len
 have w:=F.G.pos
 have m:0<P.k:=F.k.symm▸w
 refine oA (dX N.T (N.T.gr O).a17.2 F.kq m F.z) λp1 p2=>?_
 have r:=p2 0 m
 refine oEA ((N.T.pd r).a13 (.inl (by erw[F.li];exact w))) λb0 Y v=>?_
 refine W.Hi N (.v rfl) V.cls rfl rfl (V.no 48 (by decide)) (.att (.ix (.att (.att (.v rfl) (N.T.tat Z V.a29.1)) (N.T.gat O (N.T.gr O).a17.1)) .c (eQ (i:=0) (aV p1) (Pa m))) (N.T.pat r Y)) λs t1 H1 N1 gs g=>tV (l:=[b0]) (q:=[(0,0)]) N1 F (g _ _ Z).1 gs (.cons (g _ _ v).1 .nil) (by decide) λc0 p t2 H2 N2 k2 x c hc=>?_
 have z6:P.m<=P.m+1:=Wd (Ol _)
 refine N2.nL (G:=λH=>ae (ah fF mF (n+3)) mF _ ⟨H,_⟩ FQ FX) hc λt3 H3 N3 R cF k3=>W.asg .c ?_
 have ka:Ka ty t3:=λa z h=>(k3 _ _ (k2 _ _ (g _ _ h).1)).1
 have kc:∀a z,ty a=aM z->a≠c:=λa z h=>(k3 _ _ (k2 _ _ (g _ _ h).1)).2
 have E:=(k3 _ _ x).1
 clear N N1 N2 g k2 k3 p1 p2 r Y v V O gs x
 refine frL (ys:=[c0]) (f:=.ref) (a:=c) (I:=ITA P H0 t0 t3 t c p (bf P.he (bJ (clo P.R [(0,0)])) (.int 0))) (.v rfl) ⟨rfl,rfl,rfl,t3,N3,λD D h=>h⟩ (λi H' L h=>h.casesOn λD D D b o U=>o.T.gL (U _ _ R)) ?_ ?_
 ·rintro i y H4 L4 K hy ⟨m0,m1,m2,b,o,U⟩ hK
  have hi:i=0:=by have:=(kO.mp hy).1;exact OH.mp this
  subst hi
  obtain rfl:=ey hy
  have T:=U _ _ (ka _ _ Z)
  refine W.Jl (.v m2) (.att (.v m0) (o.T.tat T (o.T.tb T).a35.1)) (.one (.v rfl)) (mB o (U _ _ E) λt5 H5 N5 k5=>?_)
  refine⟨_,_,rfl,fK N5.T (k5 _ _ T),gI _,(by erw[show(P.wh ⟨p,P.m+1⟩ (if (0:ki)=0 then P.he else _)).he=[] from G];exact e0 rfl),W.fS m2 .c (.inl rfl) (hK.nxt ⟨m0,m1,rfl,t5,ui N5 (k5 _ _ T),U.t k5⟩)⟩
 rintro H4 L4 ⟨m0,m1,m2,b,o,U⟩
 have I:eI (bf P.he (bJ (clo P.R [(0,0)])) (.int 0)) [clo P.R [(0,0)]]:=by
  erw[G]
  exact qN (he:=[]) (C:=[]) ⟨nix,λq D=>rfl,Lf _⟩ Le
 have o:Now H0 t0 (P.wh ⟨p,P.m+1⟩ (bf P.he (bJ (clo P.R [(0,0)])) (.int 0))) b H4:=o
 generalize bf P.he (bJ (clo P.R [(0,0)])) (.int 0)=z7 at o I
 have z8:=kv F.G
 refine W.nil (W.asg .c (whl (J:=ITW P H0 t0 b t c) ((eS P.R).length+1)
  ⟨⟨p,P.m+1⟩,z7,0,(eS P.R).length+1,[c0],_,b,rfl,z6,o,.r,U _ _ R,.cons (U _ _ E) .nil,I,Jk,rfl,Lz _,m0,m1,rfl⟩ ?_))
 rintro k H6 L6 ⟨M,he,i,f,l,C,t6,rfl,hm,N6,k6,B,S,z0,A,j,z1,j0,j1,j2⟩
 have X:=S.len
 have z2:=mG F.G A
 have d:Ev L6 H6 (.b1 .len (.v 1)) (.int l.length):=.x8 (.v j1) (N6.T.lc (N6.T.L B)) ((yc (N6.T.gL B)).trans (by exact LH (h7 _) rfl)) (by erw[X];exact cy (cy z2 z8) (e0 rfl))
 by_cases J:i<C.length
 ·refine⟨_,true,.cm (.v j2) d (Ev.ltT (MP.mpr (X.symm▸J))),rfl,ntf,λD K hK=>?_⟩
  have hq:C[i]?=aM C[i]:=o2 J
  have z3:=cy (y1 J) z2
  refine oE (Nat.exists_eq_succ_of_ne_zero (n:=f) λe=>OG z3 (OQ i▸e▸z1)) λf' z4=>?_;subst z4
  refine BN N6 (F.wh hm) z5 (k6 _ _ (bh (U _ _ (ka _ _ Z)) rfl (U _ _ R) rfl) (U _ _ (ka _ _ Z))) B cF S A hq z0 j0 j1 j2 λM2 z9 l2 t7 H7 L7 zz N7 k7 zq zw zy i0 i1 i2=>hK.nxt ⟨(eS P.R).length+1 - (i+1),Ux _ _ (Mz z3),M2,z9,i+1,f',l2,_,t7,rfl,MG hm zz,N7,k6.t k7,zq,zw,zy,uf F.G A hq,?_,MI z1 (NU f' i),i0,i1,i2⟩
  exact(xf hq).symm.trans j
 ·refine⟨_,false,.cm (.v j2) d (Ev.ltF λq=>J (X▸MP.mp q)),rfl,λD=>?_,ff⟩
  obtain rfl:i=C.length:=ME A.le (O5 J)
  rw[BI] at j
  subst j
  exact W.ret (.v j1) (u (hQ M he c l t6 H6 hm N6 (λa z h=>k6 _ _ (kc _ _ h) (U _ _ (ka _ _ h))) B cF S z0))
end
def Par.we(P:Par)(E:PE):Par:={ P with toPE:=E }
def PE.scU(E:PE)(n:ki):PE:={ E with sc:=n }
def AV(R:cp aE)(q m:cp Pl)(x:Lj)(i:Nj):Prop:=
 (x∈dr/\moves R m x≠[]/\∃j:ki,0<j/\(CC R)[j]?=aM (clo R (moves R q x))/\i=j)∨
 ((x∈dr->moves R m x=[])/\∃r:ki,1<=r/\r<R.length/\i=-(r:Nj))∨(x=dC/\i=0/\q=[(0,1)])
structure eg(R:cp aE)(ty:TY)(q m:cp Pl)(es esp:cp (CV×CV)):Prop where
 ky:∀p∈es,∃x∈laS,p.1=.str x/\∃i,p.2=.int i/\AV R q m x i
 nd:(es.map (·.1)).Nodup
 sh:∀x∈dr,moves R m x≠[]->aw es (.str x)≠none
 pk:∀x,aw es (.str x)≠none->aw esp (.str x)≠none
 pv:∀p∈esp,(∃x∈laS,p.1=.str x)/\∃b r d,p.2=.ref b/\ty b=aM (.item r d)
 pnd:(esp.map (·.1)).Nodup
theorem lU{Q:cp (CV×CV)}(h:∀p∈Q,∃x∈laS,p.1=.str x)(w:(Q.map (·.1)).Nodup):Q.length<szl:=by
 have:=br w (m:=laS.map .str) λk y=>by
  refine oEA (p9.mp y) λp Y z=>?_;subst z
  refine oEA (h p Y) λx U e=>?_
  erw[e];exact LL U
 rw[h7] at this
 exact eF this (e0 rfl)
section
variable{Q w:TY}{q:cp Pl}{z:cp (CV×CV)}
theorem eg.len(h:eg R Q q m es z):es.length<szl/\z.length<szl:=
 ⟨lU (λp y=>(h.ky p y).imp λx h=>⟨h.1,h.2.1⟩) h.nd,lU (λp y=>(h.pv p y).1) h.pnd⟩
theorem eg.ay(h:eg R Q q m es z)(k:∀b r d,Q b=aM (.item r d)->w b=aM (.item r d)):eg R w q m es z:=
 {h with pv:=λp y=>(h.pv p y).imp id λh=>h.imp λb h=>h.imp λr h=>h.imp λd h=>⟨h.1,k _ _ _ h.2⟩ }
theorem eg.get(h:eg R Q q m es z)(e:aw es (.str x)=aM v):x∈laS/\∃i,v=.int i/\AV R q m x i:=by
 refine qQ (h.ky _ (du e)) λy Y U i V k=>?_
 obtain rfl:=CV.str.inj U
 exact⟨Y,i,V,k⟩
theorem eg.set(h:eg R Q q m es z){y:Lj}{b:ki}(V:y∈laS)(J:AV R q m' y i)(o:∀x i,x≠y->AV R q m x i->AV R q m' x i)
(O:∀x∈dr,x≠y->moves R m' x≠[]->moves R m x≠[])(f:Q b=aM (.item r d)):eg R Q q m' (bf es (.str y) (.int i)) (bf z (.str y) (.ref b)) where
 ky:=λp U=>by
  by_cases e:p=(.str y,.int i)
  ·exact⟨y,V,by exact LH e rfl,i,by exact LH e rfl,J⟩
  ·refine qQ (h.ky p ((bV U).resolve_right e)) λx Y k j g l=>?_
   refine⟨x,Y,k,j,g,o x j (λv=>e ?_) l⟩
   subst v
   have L:aw (bf es (.str x) (.int i)) (.str x)=aM (.int i):=by(erw[bt];exact LH (K2 rfl) rfl)
   exact lp (dc h.nd) U (du L) k
 nd:=dc h.nd
 sh:=λx Y t=>iI ((Vb (x=y)).imp (dd _) λe=>h.sh x Y (O x Y e t))
 pk:=λx Y=>iI ((Vb (CV.str x=.str y)).imp id λe=>h.pk x λq=>Y (by(erw[bt];erw[E1 (Ma e)];exact LH q rfl)))
 pv:=λp U=>(bV U).elim (h.pv p) λe=>e▸⟨⟨y,V,rfl⟩,b,r,d,rfl,f⟩
 pnd:=dc h.pnd
end
def E15(L z:EN):Prop:=∀j,j<15->z j=L j
theorem E15.u{k:ki}(h:E15 L L')(Q:Oc 15 k=true):E15 L (upd L' k v):=λj z=>(a6 (Lu (rf z (e0 Q)))).trans (h j z)
section
variable{P:Par}{z w Y:TY}{H:CH}{n b c g t:ki}{Q:Rs}{U:aK}{q:cp Pl}
theorem o0{a:ki}(T:au P z H)(h:z a=aM (.cJ r)):∃i,i5 H (.ref a) 0=aM (.int i):=by
 have o:=T.pd h
 rcases o.a0 with O | ⟨i,O⟩
 ·exact⟨0,(w4 o.cls rfl O).trans (K2 ⟨rfl,.inl rfl⟩)⟩
 ·exact⟨i,eh o.cls rfl O⟩
theorem Now.reduced{a:ki}(N:Now V k P z H)(h:z a=aM (.cJ r)):Now V k P z (H.bw 0 a (.int i)):=by
 have o:=N.T.pd h
 exact N.bw h (aq o.cls) (λO O O O h=>h) ⟨o.pr,o.rk,o.cls,o.a2,o.a3,o.a4,o.a8,o.a9,o.a11,.inr ⟨i,rfl⟩,o.a1,o.am,o.a13⟩
theorem Now.Jm{a:ki}{v:CV}(N:Now V k P z H)(o:z a=aM .srL)(O:H.lst a=aM l):Now V k (P.we (P.toPE.scU (P.sc+1))) z (H.aD a (l++[v])):=by
 refine oEA (N.T.sat _ _ o) λp f L=>?_
 cases(show H.lst a=aM p from f).symm.trans O
 refine N.aD o (aq O) (λb U C B s=>?_) ⟨_,rfl,by erw[GE];exact Lw L⟩
 cases U
 case srL=>exact s.imp λl h=>⟨h.1,PG h.2⟩
 all_goals exact s
theorem gj{r:ki}(o:H.lst P.aP=aM ((Lk P.k).map λi=>CV.ref (P.pr i)))(O:r<P.k):eD H (.ref P.aP) (.int r)=aM (.ok (.ref (P.pr r))):=eQ (f:=λi=>CV.ref (P.pr i)) (aV o) (Pa O)
theorem xh:b9 H .lC .none .none=aM false:=Ev.nn0
theorem vK:b9 H .eq (.str jp) (.str (u 159904300))=aM false:=(eqS (asc (by decide)) (asc (by decide))).trans (dd aM (LQ (by decide)))
theorem yn:b9 H .eq (.str jp) (.str (u 0x2bbce4f9a895ee))=aM false:=(eqS (asc (by decide)) (asc (by decide))).trans (dd aM (LQ (by decide)))
structure PTL(t aP aPr st c9 c10 a:ki)(L:EN):Prop where
 l0:L 0=aM (.ref t)
 l1:L 1=aM (.ref aP)
 l2:L 2=aM (.ref aPr)
 l7:L 7=aM (.int st)
 l9:L 9=aM (.ref c9)
 l10:L 10=aM (.ref c10)
 l12:L 12=aM (.ref a)
theorem Jn{G O a st:ki}{y:Lj}{K:NE}(N:Now V k P z H)(F:fB P)(ht:z t=aM .table)(h9:z G=aM (.bc es))(f9:V.free G)(u:z O=aM (.bc z0))(zz:V.free O)(s:G≠O)
(E:z a=aM (.item r d))(zq:1<=r)(hA:eg P.R z q m es z0)(hq:q≠[(0,1)])(hy:y∈laS)(z1:P.sc<10000000)(w:PTL t P.aP P.aPr st G O a L)(B:L 14=aM (.str y))
(hQ:∀z2 z3 R Y J M,z2<=P.sc+1->Now V k (P.we (P.toPE.scU z2)) Y J->Y G=aM (.bc z3)->Y O=aM (.bc R)->eg P.R Y q m z3 R->(∀b U,b≠G->b≠O->z b=aM U->Y b=aM U)->E15 L M->K .next ⟨J,M⟩) :
  ae (ah fF mF n) mF bx ⟨H,L⟩ K FX:=by
 have p:=N.T.tb ht
 have Q:=p.a29.2
 have hi:=N.T.it E
 have A:=Be y hy
 have z4:=F.G.len
 have z5:0<P.k:=F.k▸rf (by decide) z4.1
 refine oA (dX N.T (N.T.gr Q).a17.2 F.kq z5 F.z) λp1 p2=>?_
 have T:=p2 r hi.rk
 have z6:=N.T.pd T
 have er:E15 L L:=λD D=>rfl
 have o4:∀{M},M 12=aM (.ref a)->Ev M H (.at (.v 12) 4) (.int r):=λzw=>.att (.v zw) (N.T.iat E hi.a4)
 cases C:aw es (.str y) with
 | none=>
  refine W.asg (.geN (.v w.l9) (N.T.D h9) (.v B) A .c C) (W.fy (.cm (.v rfl) .c xh) rfl ?_)
  refine W.pA N f9 h9 (.ng (o4 w.l12)) (.v w.l9) (.v B) A hA.len.1 λt1 H1 N1 zy k1=>?_
  refine W.pA N1 zz (k1 _ _ (Ma s) u) (.v w.l12) (.v w.l10) (.v B) A hA.len.2 λt2 H2 g z7 k2=>?_
  have kp:∀b U,b≠G->b≠O->z b=aM U->t2 b=aM U:=λb U h1 h2 h3=>k2 _ _ h2 (k1 _ _ h1 h3)
  have kn:∀{b U},z b=aM U->U.own=false->t2 b=aM U:=λh o=>kp _ _ (bh h o h9 rfl) (bh h o u rfl) h
  have S:=kn E rfl
  have f:=kn T rfl
  refine oE (o0 g.T f) λi0 zu=>?_
  refine oA (dX g.T (g.T.gr (kn Q rfl)).a17.2 F.kq z5 F.z) λzv D=>?_
  refine W.gn (.ix (.v w.l1) (.att (.v w.l12) (g.T.iat S (g.T.it S).a4)) (gj zv hi.rk)) (g.T.pd f).cls zu .c (.inl rfl) (W.nil (hQ P.sc _ _ t2 _ _ (MA _) (g.reduced f) (k2 _ _ s zy) z7 ?_ kp (er.u rfl)))
  exact(hA.set (m':=m) (i:=-(r:Nj)) (b:=a) (r:=r) (d:=d) hy (.inr (.inl ⟨λc=>RJ.mp λzk=>hA.sh y c zk C,r,zq,F.k▸hi.rk,rfl⟩)) (λx i D h=>h) (λx D D h=>h) E).ay λb r d hb=>kn hb rfl
 | some v=>
  refine xo (hA.get C) λD i z8 hv=>?_;subst z8
  refine W.asg (.geS (.v w.l9) (N.T.D h9) (.v B) A .c C) (W.fZ (.cm (.v rfl) .c Ev.nnI) rfl ?_)
  have z9:∀{a':ki} {ls:cp CV} {v:CV} {M},z a'=aM .srL->H.lst a'=aM ls->E15 L M->K .next ⟨H.aD a' (ls++[v]),M⟩:=λ{a' ls v M} ha l e=>hQ _ _ _ z _ _ (Lf _) (N.Jm ha l) h9 u hA (λD D D D h=>h) e
  rcases hv with⟨c,zf,j,zj,zg,rfl⟩ | ⟨c,r',zo,zp,rfl⟩ | ⟨_,_,h⟩
  ·refine oEA (N.T.sat _ _ p.a40.2) λls l I=>?_
   refine W.fZ (.cm (.v rfl) .c (Ev.gtT (Ni.mpr zj))) rfl ?_
   refine W.A9 (.geN (.v w.l2) (N.T.sat _ _ (N.T.gr Q).a24.2) (.v B) A (.tu (.two .c .c)) rfl) (W.A9 (.att (.ix (.v w.l1) (o4 w.l12) (gj p1 hi.rk)) (N.T.pat T z6.a9)) ?_)
   refine W.fy (.orF (.cm (.v rfl) (.v rfl) (Ev.ltF (by decide))) rfl (.anT (.cm (.v rfl) (.v rfl) eqI) rfl (.cm (.v rfl) .c vK))) rfl ?_
   refine W.fy (.anT (.cm (.v rfl) (.v rfl) eqI) rfl (.cm (.v rfl) .c yn)) rfl ?_
   refine W.fZ (.nt (b:=false) (.v rfl) rfl) rfl ?_
   exact W.ap (.att (.v w.l0) (N.T.tat ht p.a40.1)) l (.tu (.cons (.v w.l7) (.two (.v B) .c))) (eF (cy I (y1 z1)) (e0 rfl)) (W.nil (W.nil (W.nil (W.nil (W.nil (z9 p.a40.2 l (((((er.u rfl).u rfl).u rfl).u rfl).u rfl)))))))
  ·refine oEA (N.T.sat _ _ p.a41.2) λls l I=>?_
   have X:=F.k▸zp
   have Z:=p2 r' X
   refine W.fy (.cm (.v rfl) .c (Ev.gtF (O4.mpr (QP (Ms _))))) rfl (W.fZ (.cm (.v rfl) .c (Ev.ltT (U6 (Ni.mpr zo)))) rfl ?_)
   refine W.asg (.ix (.v w.l1) (.ng (.v rfl)) (by erw[Int.neg_neg _];exact gj p1 X)) (W.asg (.ix (.v w.l1) (o4 w.l12) (gj p1 hi.rk)) ?_)
   refine W.fy (.cm (.att (.v rfl) (N.T.pat Z (N.T.pd Z).a8)) (.att (.v rfl) (N.T.pat T z6.a8)) (Ev.gtF (by decide))) rfl (W.A9 (.tu (.two (.v rfl) (.v rfl))) (W.nil ?_))
   exact W.ap (.att (.v w.l0) (N.T.tat ht p.a41.1)) l (.tu (.cons (.v w.l7) (.two (.v rfl) (.v rfl)))) (eF (cy I (y1 z1)) (e0 rfl)) (W.nil (W.nil (W.nil (z9 p.a41.2 l (((((er.u rfl).u rfl).u rfl).u rfl).u rfl)))))
  ·exact p7 h hq
end
section
variable{m q:cp Pl}{d:ki}{x:Lj}
theorem yo(h:(rhs R r)[d]?=none):moves R (m++[(r,d)]) x=moves R m x:=by
 rw[gJ,E1 (by rw[h];exact nsm),Mp]
theorem kC(h:(rhs R r)[d]?=aM y)(e:x≠y):moves R (m++[(r,d)]) x=moves R m x:=by
 rw[gJ,E1 (by rw[h];exact λq=>e (ey q).symm),Mp]
theorem o3(h:(rhs R r)[d]?=aM x):moves R (m++[(r,d)]) x≠[]:=by
 (erw[gJ];erw[K2 h])
 exact RX _ (PP _ _)
theorem yp(h:(rhs R r)[d]?=aM x)(z:(r,d)∈q):moves R q x≠[]:=λe=>by
 have:(r,d+1)∈moves R q x:=bv.mpr ⟨d,rfl,z,h⟩
 rw[e] at this;cases this
theorem eg.to(h:eg R Y q m U Q)(w:∀x∈dr,(moves R m' x=[]↔moves R m x=[])):eg R Y q m' U Q:=
 {h with
  ky:=λp V=>(h.ky p V).imp λx h=>⟨h.1,h.2.1,h.2.2.imp λi h=>⟨h.1,h.2.imp (λz=>⟨z.1,λe=>z.2.1 ((w x z.1).mp e),z.2.2⟩) (Or.imp (λz=>⟨λe=>(w x e).mpr (z.1 e),z.2⟩) id)⟩⟩
  sh:=λx v k=>h.sh x v λe=>k ((w x v).mpr e) }
theorem BQ(G:aj R){s:ki}(Q:(CC R)[s]?=aM q)(w:moves R q x≠[]):∃j:ki,0<j/\(CC R)[j]?=aM (clo R (moves R q x)):=by
 have h:=bR G
 refine oE (Mm.mp (h.cls s q x (kO.mp Q).1 Q w)) λj z=>?_
 refine⟨j,Nd λe=>?_,z⟩
 subst e
 rw[h.hd] at z
 exact ug (ey z▸kl fp)
theorem vL(G:aj R){i j:ki}(z:(CC R)[i]?=aM q)(Q:(CC R)[j]?=aM q):i=j:=
 (Py (kO.mp z).1 (bR G).nd).mp (z.trans Q.symm)
theorem uj{s:ki}(G:aj R)(Q:eI z (CC R))(w:(CC R)[s]?=aM q)(Y:moves R q x≠[]):∃j:ki,0<j/\(CC R)[j]?=aM (clo R (moves R q x))/\aw z (bJ (clo R (moves R q x)))=aM (.int j):=
 (BQ G w Y).imp λj h=>⟨h.1,h.2,Q.at_ j _ h.2⟩
end
def Par.wc(P:Par)(M:PM)(sc:ki):Par:={ P with toPM:=M,toPE:=P.toPE.scU sc }
def E12(L z:EN):Prop:=∀j,j<12->z j=L j
theorem E12.r:E12 L L:=λz z=>rfl
theorem E12.u{k:ki}(h:E12 L L')(Q:Oc 12 k=true):E12 L (upd L' k v):=λj z=>(a6 (Lu (rf z (e0 Q)))).trans (h j z)
section
variable{P:Par}{ty t0 z ty':TY}{H H' H0:CH}{n b c g t I:ki}{Q:Rs}{ρ w:aK}{q:cp Pl}
theorem uk:b9 H .eq (.str jp) (.str (u 15352600498))=aM true:=(eqS (asc (by decide)) (asc (by decide))).trans (dd aM (Ln rfl))
theorem BR(T:au P ty H)(V:ty g=aM .bX){y:Lj}(k:y∈bm):b9 H .isIn (.str y) (.ref P.aT)=aM (decide (y∈dr)):=by
 by_cases h:y∈dr
 ·refine aX (tS T (T.gr V).a20.2 h) λj b Y U J=>?_
  (erw[Br T Y (ba y k) U];exact LH (Ln h) rfl)
 ·refine oEA (oP T (T.gr V).a20.2 h) λj Y U=>?_
  (erw[yf T Y (ba y k) U];exact LH (LQ h) rfl)
structure PtS(P:Par)(ty:TY)(t I s:ki)(q:cp Pl):Prop where
 F:fB P
 qs:P.qs=eS P.R
 fz:P.fz=true
 hH:eI P.he (CC P.R)
 t:ty t=aM .table
 I:ty I=aM (.stL q)
 Cq:(CC P.R)[s]?=aM q
inductive P2A(P:Par)(H0:CH)(t0 ty:TY)(c9 c10 a i:ki)(q m:cp Pl)(L:EN)(H':CH)(L':EN):Prop
 | mk (sc:ki) (es esp:cp (CV×CV)) (ty':TY) (hs:sc<=P.sc+i) (N:Now H0 t0 (P.wc P.toPM sc) ty' H') (h9:ty' c9=aM (.bc es)) (h10:ty' c10=aM (.bc esp)) (hA:eg P.R ty' q m es esp) (kp:∀b ρ,b≠c9->b≠c10->ty b=aM ρ->ty' b=aM ρ) (hL:E12 L L') (l12:L' 12=aM (.ref a))
theorem Hj{T V a st:ki}{z:cp (CV×CV)}{K:NE}(N:Now H0 t0 P ty H)(S:PtS P ty t I s q)(h9:ty T=aM (.bc z))(f9:H0.free T)(C:ty V=aM (.bc O))(v:H0.free V)(l:T≠V)
(k:ty a=aM (.item r (rhs P.R r).length))(M:(r,(rhs P.R r).length)∈q)(hA:eg P.R ty q m z O)(z5:P.sc<9000000)(w:PTL t P.aP P.aPr st T V a L)
(hQ:∀sc p Y ty' H' L',sc<=P.sc+5->Now H0 t0 (P.wc P.toPM sc) ty' H'->ty' T=aM (.bc p)->ty' V=aM (.bc Y)->eg P.R ty' q (m++[(r,(rhs P.R r).length)]) p Y->(∀b ρ,b≠T->b≠V->ty b=aM ρ->ty' b=aM ρ)->E12 L L'->K .next ⟨H',L'⟩) :
  ae (ah fF mF (n+2)) mF a7 ⟨H,L⟩ K FX:=by
 have F:=N.T.tb S.t
 have R:=F.a29.2
 have z6:=N.T.gr R
 have Q:=N.T.it k
 have z7:r<P.R.length:=S.F.k▸Q.rk
 have g:∀{ty z O},eg P.R ty q m z O->eg P.R ty q (m++[(r,(rhs P.R r).length)]) z O:=λh=>h.to λx U=>by rw[yo (Md (Lf _))]
 refine W.f6 (.cm (.att (.v w.l12) (N.T.iat k Q.a10)) (.add (.att (.v w.l12) (N.T.iat k Q.a15)) .c) eqI) (λU=>?_) λh=>p7 rfl h
 by_cases X:r=0
 ·subst X
  have z8:q=[(0,1)]:=Hg S.F.G S.Cq (by rw[show(1:ki)=(rhs P.R 0).length by rw[tZ S.F.G];rfl];exact M)
  have E:(CV.str dC).az=true:=Be dC (by decide)
  refine W.f6 (.cm (.att (.v w.l12) (N.T.iat k Q.a2)) .c (eqS (by rw[dU S.F.G.r0];exact asc (by decide)) (asc (by decide)))) (λU=>?_) λh=>p7 (dU S.F.G.r0) h
  refine W.pA N f9 h9 .c (.v w.l9) .c E hA.len.1 λt1 H1 N1 z9 k1=>?_
  refine W.pA N1 v (k1 _ _ (Ma l) C) (.v w.l12) (.v w.l10) .c E hA.len.2 λB H2 Z J k2=>W.nil (W.nil ?_)
  have f:∀b ρ,b≠T->b≠V->ty b=aM ρ->B b=aM ρ:=λb ρ h1 h2 h3=>k2 _ _ h2 (k1 _ _ h1 h3)
  exact hQ P.sc _ _ B _ L (LA _ _) Z (k2 _ _ l z9) J (g ((hA.set (m':=m) (i:=0) (b:=a) (by decide) (.inr (.inr ⟨rfl,rfl,z8⟩)) (λx i U h=>h) (λx U U h=>h) k).ay λb r d hb=>f _ _ (bh hb rfl h9 rfl) (bh hb rfl C rfl) hb)) f (λU U=>rfl)
 ·have c:1<=r:=Nd X
  have A:=S.F.G.nm r c z7
  refine W.f6 (.cm (.att (.v w.l12) (N.T.iat k Q.a2)) .c (eqS (aI (bL A)) (asc (by decide)))) (λe=>p7 (e▸A) (by decide)) λU=>?_
  refine W.f6 (.cm (.att (.v w.l0) (N.T.tat S.t F.a30)) .c (eqS (asc (by decide)) (asc (by decide)))) (λe=>p7 e (by decide)) λU=>?_
  refine fR (vE N.T R S.fz A) λb zl zz zq zw zy zx zu z0=>?_
  have z1:=oQ zu λy hy=>(z0 y hy).1
  refine W.asg (.ix (.att (.att (.v w.l0) (N.T.tat S.t F.a29.1)) (N.T.gat R z6.a23.1)) (.att (.v w.l12) (N.T.iat k Q.a2)) (getD N.T zz (ba _ (bL A)) zq)) (W.nil ?_)
  have kn:∀{B:TY} {b ρ},(∀b ρ,b≠T->b≠V->ty b=aM ρ->B b=aM ρ)->ty b=aM ρ->ρ.own=false->B b=aM ρ:=λf h o=>f _ _ (bh h o h9 rfl) (bh h o C rfl) h
  refine frL (ys:=P.fo (lhs P.R r)) (f:=.str) (a:=b) (I:=λi=>P2A P H0 t0 ty T V a i q m L) (.v rfl)
   ⟨P.sc,z,O,ty,Lf _,N,h9,C,hA,λU U U U h=>h,E12.r.u rfl,w.l12⟩ (λi H' L' h=>h.casesOn λsc p Y B U Z U U U f U U=>aV ((Z.T.sat _ _ (kn f zw rfl)).2 zy).1) ?_ λH2 L2 h=>h.casesOn λsc p Y B hs Z G J u f D U=>W.nil (W.nil (W.nil (hQ sc p Y B H2 L2 (cy hs (Ls z1 _)) Z G J (g u) f D)))
  rintro i y H2 L2 K hy ⟨sc,p,Y,B,hs,Z,G,J,u,f,D,z2⟩ hK
  have zv:=(kO.mp hy).1
  refine Jn (P:=P.wc P.toPM sc) (y:=y) Z ⟨S.F.G,S.F.k,S.F.kq,S.F.kn,S.F.z,S.F.li,S.F.m0⟩ (kn f S.t rfl) G f9 J v l (kn f k rfl) c u (λe=>?_) (z0 y (od hy)).1 (eF hs (Nat.add_lt_add z5 (Mj (rf zv z1) (e0 rfl:5<1000000)))) ⟨(D 0 (by decide)).trans w.l0,(D 1 (by decide)).trans w.l1,(D 2 (by decide)).trans w.l2,(D 7 (by decide)).trans w.l7,(D 9 (by decide)).trans w.l9,(D 10 (by decide)).trans w.l10,z2⟩ rfl λzk zj z3 t3 H3 L3 zo N3 zp z4 zf zg jL=>hK.nxt ⟨zk,zj,z3,t3,cy zo (Lw hs),N3,zp,z4,zf,λb ρ h1 h2 h3=>zg _ _ h1 h2 (f _ _ h1 h2 h3),λj hj=>(jL j (Mj hj (by decide))).trans ((a6 (Lu (Mj hj (by decide)))).trans (D j hj)),(jL 12 (by decide)).trans z2⟩
  rw[e,n2] at M
  exact X (Ra M).1
theorem Hk{A U a st:ki}{K:NE}(N:Now H0 t0 P ty H)(S:PtS P ty t I s q)(h9:ty A=aM (.bc es))(f9:H0.free A)(zq:ty U=aM (.bc zz))(zx:H0.free U)(z0:A≠U)
(p:ty a=aM (.item r d))(hd:d<(rhs P.R r).length)(zc:(r,d)∈q)(hA:eg P.R ty q m es zz)(zb:P.sc<9000000)(w:PTL t P.aP P.aPr st A U a L)(l8:L 8=aM (.ref I))
(hQ:∀M sc zw Y ty' H' L',P.m<=M.m->sc<=P.sc+5->Now H0 t0 (P.wc M sc) ty' H'->ty' A=aM (.bc zw)->ty' U=aM (.bc Y)->eg P.R ty' q (m++[(r,d)]) zw Y->(∀b ρ,b≠A->b≠U->ty b=aM ρ->ty' b=aM ρ)->E12 L L'->K .next ⟨H',L'⟩) :
  ae (ah fF mF (n+2)) mF a7 ⟨H,L⟩ K FX:=by
 have u:=N.T.tb S.t
 have z4:=u.a29.2
 have zn:=N.T.gr z4
 have hi:=N.T.it p
 have zy:=S.F.G.len
 have q5:=S.F.G.ln r
 obtain⟨y,z⟩:∃y,(rhs P.R r)[d]?=aM y:=⟨_,o2 hd⟩
 have z5:y∈bm:=S.F.G.sym r y (od z)
 have f:=ba y z5
 refine W.f6 (.cm (.att (.v w.l12) (N.T.iat p hi.a10)) (.add (.att (.v w.l12) (N.T.iat p hi.a15)) .c) eqI) (λe=>p7 (OK e) (MW (PW hd))) λZ=>?_
 refine W.asg (.att (.v w.l12) (N.T.iat p hi.a15)) (W.asg (.ix (.att (.v w.l12) (N.T.iat p hi.a3)) (.add (.v rfl) .c) (rZ (i:=d+1) ((tT (y1 hd)).trans (dd (My CV.str) z)))) ?_)
 refine W.f6 (.cm (.v rfl) (.att (.att (.v w.l0) (N.T.tat S.t u.a29.1)) (N.T.gat z4 zn.a20.1)) (BR N.T z4 z5)) (λD=>?_) λD=>W.nil (W.nil (hQ P.toPM P.sc _ _ ty _ _ (Ol _) (LA _ _) N h9 zq (hA.to λx hx=>by rw[kC z (λe=>D (e▸hx))]) (λZ Z Z Z h=>h) ((E12.r.u rfl).u rfl)))
 have za:=yp z zc
 refine aA (uj S.F.G S.hH S.Cq za) λj zu zv ze=>?_
 refine W.me (.v w.l0) u.cls rfl rfl (u.no 49 (by decide)) (.two (.v l8) (.v rfl)) (BF N ⟨S.F,S.qs,S.t,S.I,S.qs▸(bR S.F.G).sub q (od S.Cq),z5⟩ λM t1 H1 v hm N1 k1 hR=>?_)
 have Q:=k1 _ _ S.t
 refine W.IW (.att (.v w.l0) (N1.T.tat Q (N1.T.tb Q).a35.1)) (fK N1.T Q) (.one (.v rfl)) (kz N1 hR λt2 H2 V G=>?_)
 replace G:=k1.t G
 clear N1 hR k1 Q
 have z6:=G _ _ S.t
 refine(Ev.ng (i:=1) (.c:Ev _ H2 (.c (.int 1)) (.int 1))) _ _ _ _ ?_
 refine⟨_,fK V.T z6,gI _,?_⟩
 rw[show(aw (P.wm M).he (bJ (clo P.R (moves P.R q y)))).getD (.int (-1))=.int j by rw[show aw (P.wm M).he _=_ from ze];rfl]
 have E:=G _ _ h9
 have k:=G _ _ zq
 have kn:∀{B:TY} {b ρ},(∀b ρ,b≠A->b≠U->t2 b=aM ρ->B b=aM ρ)->t2 b=aM ρ->ρ.own=false->B b=aM ρ:=λkp h o=>kp _ _ (bh h o E rfl) (bh h o k rfl) h
 have zk:=G _ _ p
 have T:=hA.ay λb r d h=>G _ _ h
 have z1:∀{H3 L5 l Q'},Now H0 t0 (P.wm M) t2 H3->PTL t P.aP P.aPr st A U a L5->L5 14=aM (.str y)->L5 26=aM (.int j)->
   (∀Y B H4,Now H0 t0 (P.wm M) B H4->B A=aM (.bc (bf es (.str y) (.int j)))->B U=aM (.bc Y)->eg P.R B q (m++[(r,d)]) (bf es (.str y) (.int j)) Y->(∀b ρ,b≠A->b≠U->t2 b=aM ρ->B b=aM ρ)->ae (ah fF mF (n+2)) mF l ⟨H4,L5⟩ Q' FX)->
   ae (ah fF mF (n+2)) mF (.asg (.ix (.v 9) (.v 14)) (.v 26)::.asg (.ix (.v 10) (.v 14)) (.v 12)::l) ⟨H3,L5⟩ Q' FX:=λ{H3 L5 l Q'} N3 w g zd hq=>by
  refine W.pA N3 f9 E (.v zd) (.v w.l9) (.v g) f T.len.1 λt4 H4 N4 F k4=>W.pA N4 zx (k4 _ _ (Ma z0) k) (.v w.l12) (.v w.l10) (.v g) f T.len.2 λt5 H5 N5 zj k5=>?_
  have kp:∀b ρ,b≠A->b≠U->t2 b=aM ρ->t5 b=aM ρ:=λb ρ h1 h2 h3=>k5 _ _ h2 (k4 _ _ h1 h3)
  refine hq _ t5 H5 N5 (k5 _ _ z0 F) zj ((T.set (m':=m++[(r,d)]) (i:=(j:Nj)) (b:=a) (wZ D) (.inl ⟨D,o3 z,j,zu,zv,rfl⟩) (λx i C h=>?_) (λx Z C h=>kC z C▸h) zk).ay λb r d hb=>kn kp hb rfl) kp
  unfold AV at h ⊢
  rw[kC z C];exact h
 refine W.fZ (.cm (.v rfl) .c (Ev.geT (Ms j))) rfl ?_
 have e4:E12 L (upd (upd (upd (upd L 24 (.int d)) 14 (.str y)) 25 v) 26 (.int j)):=(((E12.r.u rfl).u rfl).u rfl).u rfl
 cases J:aw es (.str y) with
 | none=>
  refine W.asg (.geN (.v w.l9) (V.T.D E) (.v rfl) f .c J) (W.fy (.cm (.v rfl) .c xh) rfl ?_)
  exact z1 V ⟨w.l0,w.l1,w.l2,w.l7,w.l9,w.l10,w.l12⟩ rfl rfl λY B H4 N4 F R z7 c=>W.nil (W.nil (W.nil (W.nil (hQ M P.sc _ Y B H4 _ hm (LA _ _) N4 F R z7 (λb ρ h1 h2 h3=>c _ _ h1 h2 (G _ _ h3)) (e4.u rfl)))))
 | some w'=>
  refine xo (hA.get J) λZ i zo hv=>?_;subst zo
  refine W.asg (.geS (.v w.l9) (V.T.D E) (.v rfl) f .c J) (W.fZ (.cm (.v rfl) .c Ev.nnI) rfl ?_)
  rcases hv with⟨_,zh,j',q3,zp,rfl⟩ | ⟨q4,r',zi,q6,rfl⟩ | ⟨h,_,_⟩
  ·obtain rfl:=vL S.F.G zp zv
   refine W.fZ (.cm (.v rfl) .c (Ev.gtT (Ni.mpr zu))) rfl (W.rX (.cm (.v rfl) (.v rfl) (neV eqI)) (λh=>p7 rfl h) λZ=>W.nil (W.nil (W.nil (W.nil (W.nil (W.nil (hQ M P.sc _ _ t2 H2 _ hm (LA _ _) V E k (T.to λx hx=>?_) (λb ρ Z Z h=>G _ _ h) (e4.u rfl))))))))
   by_cases C:x=y
   ·subst C
    exact⟨λe=>p7 e (o3 z),λe=>p7 e zh⟩
   ·rw[kC z C]
  ·refine W.fy (.cm (.v rfl) .c (Ev.gtF (O4.mpr (QP (Ms _))))) rfl (W.fZ (.cm (.v rfl) .c (Ev.ltT (U6 (Ni.mpr zi)))) rfl ?_)
   have z2:=(V.T.tb z6).a29.2
   refine oEA (be (T.pk y (by rw[J];exact Lm _))) λw0 hw zm=>?_
   refine Fo (T.pv _ zm) λZ b2 r2 d2 e2 z3=>?_
   have hw:=hw.trans (dd aM e2)
   have z8:=V.T.it z3
   refine oA (dX V.T (V.T.gr z2).a17.2 S.F.kq (S.F.k▸rf (by decide) zy.1) S.F.z) λzr zs=>?_
   have O:=zs r2 z8.rk
   have zf:=V.T.pd O
   refine oE (o0 V.T O) λi0 zt=>?_
   have op:∀{L'},L' 1=aM (.ref P.aP)->L' 10=aM (.ref U)->L' 14=aM (.str y)->Ev L' H2 (.ix (.v 1) (.at (.ix (.v 10) (.v 14)) 4)) (.ref (P.pr r2)):=λl1 q0 g=>.ix (.v l1) (.att (.ix (.v q0) (.v g) (getD V.T (V.T.D k) f hw)) (V.T.iat z3 z8.a4)) (gj (P:=P.wm M) zr z8.rk)
   refine W.A9 (.geN (.v w.l2) (V.T.sat _ _ (V.T.gr z2).a24.2) (.v rfl) f (.tu (.two .c .c)) rfl) (W.A9 (.att (op w.l1 w.l10 rfl) (V.T.pat O zf.a9)) ?_)
   refine W.fZ (.orF (.cm (.v rfl) (.v rfl) (Ev.gtF (by decide))) rfl (.anT (.cm (.v rfl) (.v rfl) eqI) rfl (.cm (.v rfl) .c uk))) rfl ?_
   refine W.gn (op w.l1 w.l10 rfl) zf.cls zt .c (.inr rfl) ?_
   refine z1 (V.reduced O) ⟨w.l0,w.l1,w.l2,w.l7,w.l9,w.l10,w.l12⟩ rfl rfl λY B H4 N4 F R z7 c=>?_
   have zg:=kn c z6 rfl
   have X:=N4.T.tb zg
   refine oEA (N4.T.sat _ _ X.a40.2) λls zl z9=>?_
   have z9:ls.length<=P.sc:=z9
   refine W.fZ (.nt (b:=false) (.v rfl) rfl) rfl ?_
   exact W.ap (.att (.v w.l0) (N4.T.tat zg X.a40.1)) zl (.tu (.cons (.v w.l7) (.two (.v rfl) .c))) (eF (cy z9 (y1 zb)) (e0 rfl)) (W.nil (W.nil (W.nil (W.nil (W.nil (W.nil (W.nil (W.nil (hQ M (P.sc+1) _ Y B _ _ hm (Ls (by decide) _) (N4.Jm X.a40.2 zl) F R z7 (λb ρ h1 h2 h3=>c _ _ h1 h2 (G _ _ h3)) (((((e4.u rfl).u rfl).u rfl).u rfl).u rfl))))))))))
  ·exact p7 h (tO D)
end
structure kD(R:cp aE)(q:cp Pl)(es:cp (CV×CV)):Prop where
 sh:∀x∈dr,moves R q x≠[]->∃j:ki,0<j/\(CC R)[j]?=aM (clo R (moves R q x))/\aw es (.str x)=aM (.int j)
 ky:∀p∈es,∃x∈laS,p.1=.str x/\∃i:Nj,p.2=.int i/\(0<i->moves R q x≠[]/\∃j:ki,(CC R)[j]?=aM (clo R (moves R q x))/\i=j)
 nd:(es.map (·.1)).Nodup
structure pC(R:cp aE)(q:cp Pl)(es:cp (CV×CV)):Prop where
 go:∀x∈aC,moves R q x≠[]->∃j:ki,(CC R)[j]?=aM (clo R (moves R q x))/\aw es (.str x)=aM (.int j)
 ky:∀p∈es,∃x∈aC,p.1=.str x/\moves R q x≠[]/\∃j:ki,(CC R)[j]?=aM (clo R (moves R q x))/\p.2=.int j
 nd:(es.map (·.1)).Nodup
structure GoP(R:cp aE)(q:cp Pl)(dn:cp Lj)(es:cp (CV×CV)):Prop where
 ky:∀p∈es,∃x∈aC,p.1=.str x/\moves R q x≠[]/\∃j:ki,(CC R)[j]?=aM (clo R (moves R q x))/\p.2=.int j
 nd:(es.map (·.1)).Nodup
 has:∀x∈dn,moves R q x≠[]->aw es (.str x)≠none
structure iK(R:cp aE)(ty:TY)(s:ki)(acE goE:cp (CV×CV)):Prop where
 la:acE.length=s
 lg:goE.length=s
 ka:∀p∈acE,∃j:ki,j<s/\p.1=.int j
 kg:∀p∈goE,∃j:ki,j<s/\p.1=.int j
 ac:∀j q,j<s->(CC R)[j]?=aM q->∃b es,aw acE (.int j)=aM (.ref b)/\ty b=aM (.bc es)/\kD R q es
 go:∀j q,j<s->(CC R)[j]?=aM q->∃b es,aw goE (.int j)=aM (.ref b)/\ty b=aM (.bc es)/\pC R q es
section
variable{z:TY}{q:cp Pl}{Q:cp Lj}{es U w:cp (CV×CV)}{s:ki}
theorem eg.ok(h:eg R Y q q es U):kD R q es:=by
 refine⟨λx J O=>?_,λp hp=>(h.ky p hp).imp λx h=>⟨h.1,h.2.1,h.2.2.imp λi h=>⟨h.1,λf=>?_⟩⟩,h.nd⟩
 ·refine oEA (be (h.sh x J O)) λv g l=>?_
  refine xo (h.get g) λl i k V=>?_;subst k
  rcases V with⟨_,_,j,L,o,rfl⟩ | ⟨V,_⟩ | ⟨V,_⟩
  ·exact⟨j,L,o,g⟩
  ·exact p7 (V J) O
  ·exact p7 V (tO J)
 ·rcases h.2 with⟨_,V,j,_,o,e⟩ | ⟨_,r,_,_,e⟩ | ⟨_,e,_⟩
  ·exact⟨V,j,o,e⟩
  ·exact p7 (e▸f) (O4.mpr (QP (Ms r)))
  ·exact p7 (e▸f) (Int.lt_irrefl 0)
theorem GoP.len(h:GoP R q Q es):es.length<szl:=by
 have:=br h.nd (m:=aC.map .str) λk V=>by
  refine oEA (p9.mp V) λp j v=>?_;subst v
  refine aA (h.ky p j) λx J e o=>?_
  erw[e];exact LL J
 rw[h7] at this
 exact eF this (e0 rfl)
theorem GoP.set(h:GoP R q Q es){y:Lj}{j:ki}(k:y∈aC)(J:moves R q y≠[])(o:(CC R)[j]?=aM (clo R (moves R q y))):GoP R q (Q++[y]) (bf es (.str y) (.int j)) where
 ky:=λp O=>(bV O).elim (h.ky p) λe=>e▸⟨y,k,rfl,J,j,o,rfl⟩
 nd:=dc h.nd
 has:=λx v V=>iI ((LB.mp v).elim (λv=>.inr (h.has x v V)) λv=>.inl (dd _ (n2.mp v)))
theorem GoP.skip(h:GoP R q Q es){y:Lj}(k:moves R q y=[]):GoP R q (Q++[y]) es:=
 ⟨h.ky,h.nd,λx v V=>(LB.mp v).elim (λv=>h.has x v V) λv=>p7 (n2.mp v▸k) V⟩
theorem GoP.ok(h:GoP R q Q es)(J:∀x∈aC,moves R q x≠[]->x∈Q):pC R q es:=by
 refine⟨λx o k=>?_,h.ky,h.nd⟩
 refine oEA (be (h.has x (J x o k) k)) λv O hp=>?_
 refine vU (h.ky _ hp) λy p e p j f V=>?_;subst V
 obtain rfl:=CV.str.inj e
 exact⟨j,f,O⟩
theorem ul(h:aw es k=none):(bf es k v).length=es.length+1:=by
 have V:=dd Nc (iW (es:=es) (k:=k) (v:=v))
 rw[E1 (cH.mp h),h7,GE,h7] at V
 exact V
theorem iK.new(h:∀p∈es,∃j:ki,j<s/\p.1=.int j):aw es (.int s)=none:=by
 rw[cH]
 intro v
 refine oEA (p9.mp v) λp V e=>?_
 refine oEA (h p V) λj k J=>?_
 exact p7 (OK (CV.int.inj (J.symm.trans e))) (Lu k)
theorem iK.step(h:iK R Y s w y)(t:∀b es,(∃j:ki,aw w (.int j)=aM (.ref b)∨aw y (.int j)=aM (.ref b))->Y b=aM (.bc es)->z b=aM (.bc es)){J o:ki}
(T:(CC R)[s]?=aM q)(C:z J=aM (.bc O))(B:kD R q O)(n:z o=aM (.bc f))(N:pC R q f):iK R z (s+1) (bf w (.int s) (.ref J)) (bf y (.int s) (.ref o)):=by
 have x:∀{es:cp (CV×CV)} {v:CV},(∀p∈es,∃j:ki,j<s/\p.1=.int j)->∀p∈bf es (.int s) v,∃j:ki,j<s+1/\p.1=.int j:=λh p V=>(bV V).elim (λV=>(h p V).imp λj h=>⟨Nn h.1,h.2⟩) λe=>e▸⟨s,Lz s,rfl⟩
 have c:∀{es:cp (CV×CV)} {v:CV} {j:ki},j≠s->aw (bf es (.int s) v) (.int j)=aw es (.int j):=λ{a a j} e=>by(erw[bt];exact LH (E1 λq:CV.int s=CV.int j=>e (OK (CV.int.inj q)).symm) rfl)
 refine⟨by(erw[ul (iK.new h.ka)];exact LH h.la rfl),by(erw[ul (iK.new h.kg)];exact LH h.lg rfl),x h.ka,x h.kg,λj p g V=>?_,λj p g V=>?_⟩
 ·by_cases e:j=s
  ·subst e
   cases T.symm.trans V
   exact⟨J,O,by(erw[bt];exact LH (K2 rfl) rfl),C,B⟩
  ·refine aX (h.ac j p ((LV (tc g)).resolve_right e) V) λb es k l L=>?_
   exact⟨b,es,(c e).trans k,t b es ⟨j,.inl k⟩ l,L⟩
 ·by_cases e:j=s
  ·subst e
   cases T.symm.trans V
   exact⟨o,f,by(erw[bt];exact LH (K2 rfl) rfl),n,N⟩
  ·refine aX (h.go j p ((LV (tc g)).resolve_right e) V) λb es k l L=>?_
   exact⟨b,es,(c e).trans k,t b es ⟨j,.inr k⟩ l,L⟩
end
def E29(L z:EN):Prop:=∀j,j<29->z j=L j
structure NsP(ty:TY)(c:ki)(ns:cp Lj):Prop where
 t:ty c=aM (.bc (kN ns))
 sub:∀x∈ns,x∈aC
 nd:ns.Nodup
section
variable{P Y:Par}{ty t0 z ty':TY}{H H' H0:CH}{n c g t:ki}{Q:Rs}{U w:aK}{q:cp Pl}{x y:Lj}
theorem BS(T:au P ty H)(o:ty g=aM .bX)(V:Nms P.nk ks)(k:y∈bm):b9 H .isIn (.str y) (.ref P.aN)=aM (decide (y∈aC)):=by
 refine oEA (eA T o V.nk) λO j J=>?_
 by_cases h:y∈aC
 ·refine oEA (be (kf.mpr (by erw[J];exact LL (V.all y h)):aw O (.str y)≠none)) λv p f=>?_
  (erw[Br T j (ba y k) p];exact LH (Ln h) rfl)
 ·(erw[yf T j (ba y k) (cH.mpr λq=>by rw[J] at q;exact(p9.mp q).elim λz q=>h (CV.str.inj q.2▸V.sub z q.1))];exact LH (LQ h) rfl)
inductive P4I(P:Par)(H0:CH)(t0 ty:TY)(c:ki)(ns dn:cp Lj)(L:EN)(H':CH)(L':EN):Prop
 | mk (ns':cp Lj) (ty':TY) (N:Now H0 t0 P ty' H') (k:Kp c ty ty') (h:NsP ty' c ns') (hs:∀x∈ns,x∈ns') (hd:∀x∈dn,x∈aC->x∈ns') (hL:E29 L L')
theorem Jo{a:ki}{L:EN}{K:NE}(N:Now H0 t0 P ty H)(F:fB P)(hk:Nms P.nk ks)(g:ty t=aM .table)(m:ty a=aM (.item r d))(u:NsP ty c Z)(cF:H0.free c)(l0:L 0=aM (.ref t))(z:L 27=aM (.ref c))(Q:L 28=aM (.ref a))
(hQ:∀(V:cp Lj) ty' H' w,Now H0 t0 P ty' H'->Kp c ty ty'->NsP ty' c V->(∀x∈Z,x∈V)->(∀x∈rhs P.R r,x∈aC->x∈V)->E29 L w->K .next ⟨H',w⟩) :
  ae (ah fF mF n) mF bz ⟨H,L⟩ K FX:=by
 refine oEA ((N.T.it m).a11) λb hb R=>?_
 refine frL (ys:=nub [] (rhs P.R r)) (f:=.str) (a:=b) (I:=λi=>P4I P H0 t0 ty c Z ((nub [] (rhs P.R r)).take i) L) (.att (.v Q) (N.T.iat m hb))
  ⟨Z,ty,N,.r,u,λI h=>h,aO,λI I=>rfl⟩ ?_ ?_ ?_
 ·rintro i H' w ⟨V,G,C,A,_⟩
  exact aV (C.T.sat _ _ (A _ _ (bh R rfl u.t rfl) R))
 ·rintro i x s Y K D ⟨V,G,C,A,o,O,k,U⟩ e
  have S:x∈bm:=F.G.sym r x ((gG.mp (od D)).resolve_left Le)
  have X:=A _ _ (bh g rfl u.t rfl) g
  have p:=C.T.tb X
  have E:(nub [] (rhs P.R r)).take (i+1)=(nub [] (rhs P.R r)).take i++[x]:=by(erw[Mr];erw[D]);rfl
  have B:E29 L (upd Y 29 (.str x)):=λj q=>(a6 (Lu q)).trans (U j q)
  refine W.f6 (.cm (.v rfl) (.att (.att (.v ((B 0 (by decide)).trans l0)) (C.T.tat X p.a29.1)) (C.T.gat p.a29.2 (C.T.gr p.a29.2).a21.1)) (BS C.T p.a29.2 hk S)) (λD=>?_) λD=>W.nil (e.nxt ⟨V,G,C,A,o,O,λy J f=>?_,B⟩)
  ·refine W.pA C cF o.t .c (.v ((B 27 (by decide)).trans z)) (.v rfl) (ba _ S) (by(rewrite[kN];erw[h7 _]);exact eF (br o.nd o.sub) (e0 rfl)) λv H3 N3 T k3=>W.nil (e.nxt ?_)
   have T:v c=aM (.bc (kN (if x∈V then V else V++[x]))):=T.trans (dd (λl=>aM (aK.bc l)) iJ)
   by_cases M:x∈V
   ·rw[K2 M] at T
    refine⟨V,v,N3,A.t k3,⟨T,o.sub,o.nd⟩,O,λy J f=>?_,B⟩
    rw[E] at J
    exact(LB.mp J).elim (λJ=>k y J f) λJ=>n2.mp J▸M
   ·rw[E1 M] at T
    refine⟨V++[x],v,N3,A.t k3,⟨T,cC o.sub D,cQ o.nd M⟩,λy J=>LD _ (O y J),λy J f=>?_,B⟩
    rw[E] at J
    exact(LB.mp J).elim (λJ=>LD _ (k y J f)) λJ=>Ll _ J
  ·rw[E] at J
   exact(LB.mp J).elim (λJ=>k y J f) λJ=>p7 (n2.mp J▸f) D
 ·rintro s Y ⟨V,G,C,A,o,O,k,U⟩
  rw[Mh] at k
  exact hQ V G s Y C A o O (λx D M=>k x (gG.mpr (.inr D)) M) U
theorem Jp{V:ki}{G:cp Lj}{L:EN}{K:NE}(N:Now H0 t0 P ty H)(S:PtS P ty t I s q)(O:ty V=aM (.bc D))(E:H0.free V)(h:GoP P.R q G D)(u:y∈aC)
(z:L 0=aM (.ref t))(l8:L 8=aM (.ref I))(d:L 11=aM (.ref V))(f:L 30=aM (.str y))
(Q:∀M l ty' H' Y,P.m<=M.m->Now H0 t0 (P.wm M) ty' H'->ty' V=aM (.bc l)->GoP P.R q (G++[y]) l->Kp V ty ty'->(∀j,j<25->Y j=L j)->K .next ⟨H',Y⟩) :
  ae (ah fF mF (n+2)) mF bA ⟨H,L⟩ K FX:=by
 have T:=N.T.tb S.t
 have C:=bL u
 refine W.me (.v z) T.cls rfl rfl (T.no 49 (by decide)) (.two (.v l8) (.v f)) (BF N ⟨S.F,S.qs,S.t,S.I,S.qs▸(bR S.F.G).sub q (od S.Cq),C⟩ λM t1 H1 v U A g hR=>?_)
 have J:=g _ _ S.t
 refine W.IW (.att (.v z) (A.T.tat J (A.T.tb J).a35.1)) (fK A.T J) (.one (.v rfl)) (kz A hR λt2 c m o=>?_)
 replace o:=g.t o
 have r:=o _ _ S.t
 refine(Ev.ng (i:=1) (.c:Ev _ c (.c (.int 1)) (.int 1))) _ _ _ _ ?_
 refine⟨_,fK m.T r,gI _,?_⟩
 have b:∀v w j,j<25->upd (upd L 25 v) 26 w j=L j:=λv w j B=>(a6 (Lu (Nn B))).trans (a6 (Lu B))
 by_cases k:moves P.R q y=[]
 ·have F:aw P.he (bJ (clo P.R (moves P.R q y)))=none:=S.hH.no _ (by
   rw[k,kr]
   exact λR=>(Mm.mp R).elim λj B=>((bR S.F.G).rch j [] B).casesOn (λe=>p7 (vA.mp (ey ((bR S.F.G).hd.symm.trans (e▸B)))) (PP _ _)) λi p x ζ ζ ζ h1 h2=>h1 (vA.mp h2.symm))
  rw[show(aw (P.wm M).he (bJ (clo P.R (moves P.R q y)))).getD (.int (-1))=.int (-1) by rw[show aw (P.wm M).he _=_ from F];rfl]
  exact W.fy (.cm (.v rfl) .c (Ev.geF (by decide))) rfl (W.nil (Q M D t2 c _ U m (o _ _ O) (h.skip k) o.p (b _ _)))
 ·refine aA (uj S.F.G S.hH S.Cq k) λj z0 X Z=>?_
  rw[show(aw (P.wm M).he (bJ (clo P.R (moves P.R q y)))).getD (.int (-1))=.int j by rw[show aw (P.wm M).he _=_ from Z];rfl]
  exact W.fZ (.cm (.v rfl) .c (Ev.geT (Ms j))) rfl (W.pA m E (o _ _ O) (.v rfl) (.v d) (.v f) (ba y C) h.len λt4 H4 N4 a k4=>W.nil (Q M _ t4 H4 _ U N4 a (h.set u k X) (o.p.t k4) (b _ _)))
end
def Par.wt(P:Par)(M:PM)(sc:ki)(acE goE:cp (CV×CV)):Par:={ P with toPM:=M,toPE:={ P.toPE with sc:=sc,acE:=acE,goE:=goE } }
abbrev AcG(z Q:cp (CV×CV))(b:ki):Prop:=∃j:ki,aw z (.int j)=aM (.ref b)∨aw Q (.int j)=aM (.ref b)
section
variable{P:Par}{ty U w ty':TY}{H H':CH}{n b c g t I:ki}{Q:Rs}{z j:aK}{q:cp Pl}{x:Lj}{k:CV}
theorem lu(T:au P ty H)(J:ty t=aM .table):H.dct P.tJ=aM P.acE/\H.dct P.lT=aM P.goE:=⟨(T.sat _ _ (T.tb J).a31.2).2,(T.sat _ _ (T.tb J).a32.2).2⟩
theorem Ej(N:Now Y U P ty H)(o:ty t=aM .table):Now Y U (P.wt P.toPM P.sc (bf P.acE k v) P.goE) ty (H.bo P.tJ (bf P.acE k v)):=by
 refine N.bo (N.T.tb o).a31.2 (aq (lu N.T o).1) (λa z J O s=>?_) ⟨rfl,rfl⟩
 cases z
 case A5=>exact p7 s.1 J
 all_goals exact s
theorem Hl(N:Now Y U P ty H)(o:ty t=aM .table):Now Y U (P.wt P.toPM P.sc P.acE (bf P.goE k v)) ty (H.bo P.lT (bf P.goE k v)):=by
 refine N.bo (N.T.tb o).a32.2 (aq (lu N.T o).2) (λa z J O s=>?_) ⟨rfl,rfl⟩
 cases z
 case tI=>exact p7 s.1 J
 all_goals exact s
theorem PtS.wc{M:PM}(S:PtS P ty t I s q)(J:P.m<=M.m)(k:Ka ty ty'):PtS (P.wc M sc) ty' t I s q:=
 {S with F:=⟨S.F.G,S.F.k,S.F.kq,S.F.kn,S.F.z,S.F.li,MG S.F.m0 J⟩,t:=k _ _ S.t,I:=k _ _ S.I }
structure B6L(P:Par)(t c5 st I c9 c10 c11:ki)(L0 L:EN):Prop where
 l0:L 0=aM (.ref t)
 l1:L 1=aM (.ref P.aP)
 l2:L 2=aM (.ref P.aPr)
 l3:L 3=aM (.ref P.lT)
 l4:L 4=aM (.ref P.tJ)
 l5:L 5=aM (.ref c5)
 l7:L 7=aM (.int st)
 l8:L 8=aM (.ref I)
 l9:L 9=aM (.ref c9)
 l10:L 10=aM (.ref c10)
 l11:L 11=aM (.ref c11)
 lo:∀j,j<7->L j=L0 j
theorem B6L.go{P:Par}{t st I:ki}(w:B6L P t O st I p J o f L)(h:E12 L l):B6L P t O st I p J o f l:=
 ⟨(h 0 (by decide)).trans w.l0,(h 1 (by decide)).trans w.l1,(h 2 (by decide)).trans w.l2,(h 3 (by decide)).trans w.l3,(h 4 (by decide)).trans w.l4,(h 5 (by decide)).trans w.l5,(h 7 (by decide)).trans w.l7,(h 8 (by decide)).trans w.l8,(h 9 (by decide)).trans w.l9,(h 10 (by decide)).trans w.l10,(h 11 (by decide)).trans w.l11,λj T=>(h j (Mj T (by decide))).trans (w.lo j T)⟩
inductive B6A(P:Par)(ty:TY)(H:CH)(t c5 st I c9 c10 c11:ki)(q:cp Pl)(L:EN)(i:ki)(H':CH)(L':EN):Prop
 | mk (M:PM) (sc:ki) (es esp:cp (CV×CV)) (ty':TY) (hm:P.m<=M.m) (hs:sc<=P.sc+5 * i) (N:Now H ty (P.wc M sc) ty' H') (h9:ty' c9=aM (.bc es)) (h10:ty' c10=aM (.bc esp)) (h11:ty' c11=aM (.bc [])) (hA:eg P.R ty' q (q.take i) es esp) (w:B6L P t c5 st I c9 c10 c11 L L')
inductive B6B(P:Par)(ty:TY)(H:CH)(c27:ki)(q:cp Pl)(t5:TY)(L:EN)(i:ki)(H':CH)(L':EN):Prop
 | mk (ns:cp Lj) (ty':TY) (N:Now H ty P ty' H') (k:Kp c27 t5 ty') (h:NsP ty' c27 ns) (hd:∀p∈q.take i,∀x∈rhs P.R p.1,x∈aC->x∈ns) (w:∀j,j<28->L' j=upd L 27 (.ref c27) j)
inductive B6C(P:Par)(ty:TY)(H:CH)(sc t c5 st I c9 c10 c11:ki)(q:cp Pl)(t6:TY)(ns:cp Lj)(L:EN)(k:ki)(H':CH)(L':EN):Prop
 | mk (M:PM) (es:cp (CV×CV)) (ty':TY) (hm:P.m<=M.m) (N:Now H ty (P.wc M sc) ty' H') (h:Kp c11 t6 ty') (h11:ty' c11=aM (.bc es)) (hG:GoP P.R q (ns.take k) es) (w:B6L P t c5 st I c9 c10 c11 L L')
theorem Jq{Q st:ki}{L:EN}{K:NE}(N:Now Y U P ty H)(S:PtS P ty t I st q)(hk:Nms P.nk ks)(h5:ty Q=aM (.bc e5))(f5:Y.free Q)(zo:e5.length<=st)(qq:st<=109603)(qw:P.sc+75<9000000)(hT:iK P.R ty st P.acE P.goE)(zw:∀b,AcG P.acE P.goE b->b≠Q)
(l0:L 0=aM (.ref t))(l1:L 1=aM (.ref P.aP))(l2:L 2=aM (.ref P.aPr))(l3:L 3=aM (.ref P.lT))(l4:L 4=aM (.ref P.tJ))(l5:L 5=aM (.ref Q))(l7:L 7=aM (.int st))(l8:L 8=aM (.ref I))
(hQ:∀M f zy zu zp ty' H' X,P.m<=M.m->f<=P.sc+75->Now Y U (P.wt M f zy zu) ty' H'->ty' Q=aM (.bc zp)->zp.length<=st+1->iK P.R ty' (st+1) zy zu->(∀b,AcG zy zu b->b≠Q)->Kp Q ty ty'->(∀j,j<7->X j=L j)->X 7=aM (.int (st+1:ki))->K .next ⟨H',X⟩) :
  ae (ah fF mF (n+2)) mF bB ⟨H,L⟩ K FX:=by
 have qy:=(bR S.F.G).sub q (od S.Cq)
 have zf:=i3 S.F.G qy
 have ka:∀{V t' H'},Now H ty V t' H'->Ka ty t':=λN' a z h=>N'.get N.T h
 refine W.pa N.T.now λc9 t1 H1 N1 zg f9 k1=>W.pa N1 λB t2 H2 N2 z7 zl k2=>W.pa N2 λD t3 H3 N3 zx qu k3=>?_
 refine oA (k2 _ _ zg) λzc z8=>?_
 refine oA (k3 _ _ zc) λqv z9=>?_
 refine oA (k3 _ _ z7) λzb y=>?_
 have n9:=(k1 _ _ h5).2
 have zn:=(k3 _ _ (k2 _ _ (k1 _ _ h5).1).1).2
 clear k1 k2 k3 zg zc z7 N1 N2
 refine W.gen (p:=B6L P t Q st I c9 B D L) ⟨l0,l1,l2,l3,l4,l5,l7,l8,rfl,rfl,rfl,λj l=>have ne:=λ{k:ki} (h:Oc 9 k=true)=>Lu (rf l (cy (by decide) (OA.mp h)));(a6 (ne rfl)).trans ((a6 (ne rfl)).trans (a6 (ne rfl)))⟩ λL1 w=>?_
 refine frL (ys:=q) (f:=λp=>.ref (P.it p.1 p.2)) (a:=I) (I:=B6A P ty H t Q st I c9 B D q L) (.v w.l8)
  ⟨P.toPM,P.sc,[],[],t3,Ol _,Lf _,N3,qv,zb,zx,⟨aO,LR,λx ζ h=>p7 rfl h,λζ h=>p7 rfl h,aO,LR⟩,w⟩ ?_ ?_ ?_
 ·rintro i H' X ⟨M,f,es,za,t4,_,_,Z,_⟩
  exact aV (gK Z.T (ka Z _ _ S.I)).1
 ·rintro i ⟨r,d⟩ H4 L4 K hp ⟨M,f,es,za,t4,hm,hs,Z,z4,A,v,g,G⟩ hK
  have qk:=(kO.mp hp).1
  have z0:=(gK Z.T (ka Z _ _ S.I)).2 (r,d) (od hp)
  have ze:=od hp
  have zz:(P.wc M f).sc<9000000:=eF hs (eF (Ls (NA 5 (cy (y1 qk) zf)) _) qw)
  have zd:∀M2 E J o ty' H' X,M.m<=M2.m->E<=f+5->Now H ty (P.wc M2 E) ty' H'->ty' c9=aM (.bc J)->ty' B=aM (.bc o)->eg P.R ty' q (q.take i++[(r,d)]) J o->(∀b z,b≠c9->b≠B->t4 b=aM z->ty' b=aM z)->E12 (upd L4 12 (.ref (P.it r d))) X->K .next ⟨H',X⟩:=λM2 E J o ty' H' X s zv N' qj zh qo kp hL=>hK.nxt ⟨M2,E,J,o,ty',MG hm s,cy zv (MJ hs 5),N',qj,zh,kp _ _ (Ma z9) (Ma y) v,by(erw[Mr];erw[hp]);exact qo,G.go λj l=>(hL j l).trans (a6 (Lu l))⟩
  have w5:PTL t P.aP P.aPr st c9 B (P.it r d) (upd L4 12 (.ref (P.it r d))):=⟨G.l0,G.l1,G.l2,G.l7,G.l9,G.l10,rfl⟩
  have qp:d<=(rhs P.R r).length:=(Z.T.it z0).dk
  rcases Oj d (rhs P.R r).length with hd | hd
  ·exact Hk (P:=P.wc M f) Z (S.wc hm (ka Z)) z4 f9 A zl z8 z0 hd ze g zz w5 G.l8 zd
  ·obtain rfl:d=(rhs P.R r).length:=ME qp hd
   exact Hj (P:=P.wc M f) Z (S.wc hm (ka Z)) z4 f9 A zl z8 z0 ze g zz w5 λE J o ty' H' X zv N' a b c d e=>zd M E J o ty' H' X (Ol _) zv N' a b c d e
 rintro H4 L4 ⟨M,f,es,za,t4,hm,hs,Z,z4,A,v,g,G⟩
 rw[Mh] at g
 have hR:(P.wc M f).R=P.R:=rfl
 refine W.nil (W.pa Z λzi t5 H5 N5 zm qf k5=>?_)
 refine oA (k5 _ _ z4) λqg zr=>?_
 refine oA (k5 _ _ A) λzs zk=>?_
 refine oA (k5 _ _ v) λzt z1=>?_
 refine frL (ys:=q) (f:=λp=>.ref (P.it p.1 p.2)) (a:=I) (I:=B6B (P.wc M f) ty H zi q t5 L4) (.v G.l8)
  ⟨[],t5,N5,.r,⟨zm,aO,LR⟩,aO,λζ ζ=>rfl⟩ ?_ ?_ ?_
 ·rintro i H' X ⟨ns,t6,u,_⟩
  exact aV (gK u.T (ka u _ _ S.I)).1
 ·rintro i ⟨r,d⟩ H6 L6 K hp ⟨ns,t6,u,k6,T,O,m⟩ hK
  have z0:=(gK u.T (ka u _ _ S.I)).2 (r,d) (od hp)
  refine Jo (P:=P.wc M f) (t:=t) u (S.wc (sc:=f) hm (ka u)).F hk (ka u _ _ S.t) z0 T qf ((m 0 (by decide)).trans G.l0) (m 27 (by decide)) rfl λql t7 H7 L7 N7 k7 q0 q3 q4 jL=>hK.nxt ⟨ql,t7,N7,k6.t k7,q0,λp' F x hx q5=>?_,λj l=>(jL j (Nn l)).trans ((a6 (Lu l)).trans (m j l))⟩
  rw[Mr,hp] at F
  rcases LB.mp F with F | F
  ·exact q3 x (O p' F x hx q5)
  ·exact q4 x (n2.mp F▸hx) q5
 rintro H6 L6 ⟨ns,t6,u,k6,T,O,m⟩
 rw[Mh] at O
 have zj:(kN ns).map (·.1)=ns.map .str:=by(rewrite[kN];erw[Nt]);rfl
 have qx:=k6 _ _ zr qg
 have q6:=k6 _ _ zk zs
 have q7:=k6 _ _ z1 zt
 have w6:B6L P t Q st I c9 B D L L6:=G.go λj l=>(m j (Mj l (by decide))).trans (a6 (Lu (Mj l (by decide))))
 refine W.nil (frK (ks:=ns) (a:=zi) (I:=B6C P ty H f t Q st I c9 B D q t6 ns L) (.v (m 27 (by decide))) (u.T.dg (u.T.D T.t))
  ⟨M,[],t6,hm,u,.r,q7,⟨aO,LR,aO⟩,w6⟩ ?_ ?_ ?_)
 ·rintro k H' X ⟨M2,J,t7,_,N7,k7,_⟩
  exact⟨_,N7.T.D (k7 _ _ (Ma z1) T.t),zj⟩
 ·rintro k x H7 L7 K hx ⟨M2,J,t7,s,N7,k7,z2,z5,C⟩ hK
  exact Jp (P:=P.wc M2 f) N7 (S.wc s (ka N7)) z2 qu z5 (T.sub x (od hx)) C.l0 C.l8 C.l11 rfl λM3 qc t8 H8 L8 qb N8 q8 qn k8 jL=>hK.nxt ⟨M3,qc,t8,MG s qb,N8,k7.t k8,q8,by(erw[Mr];erw[hx]);exact qn,C.go λj l=>(jL j (Mj l (by decide))).trans (a6 (Lu (Mj l (by decide))))⟩
 rintro H7 L7 ⟨M2,J,t7,s,N7,k7,z2,z5,C⟩
 rw[Mh] at z5
 have qa:pC P.R q J:=z5.ok λx hx hm=>(mE.mp (qM hm)).elim λp h=>O p h.1 x h.2 hx
 have qe:=k7 _ _ z9 qx
 have qm:=k7 _ _ y q6
 have kA:=ka N7
 have q9:=kA _ _ h5
 have z6:=kA _ _ S.t
 have hz:st<szl:=eF qq (e0 rfl)
 have N8:=N.call N7
 refine W.nil (W.bo (.v C.l9) (.v C.l4) (.v C.l7) (lu (P:=P.wc M2 f) N8.T z6).1 rfl (eF (p8 hT.la) hz) ?_)
 have N9:=Ej (k:=.int st) (v:=.ref c9) N8 z6
 refine W.pA N9 f5 q9 (.v C.l10) (.v C.l5) (.v C.l7) rfl (eF zo hz) λqd qr qz qh z3=>?_
 have zq:=z3 _ _ (bh z6 rfl q9 rfl) z6
 refine W.bo (.v C.l11) (.v C.l3) (.v C.l7) (lu qz.T zq).2 rfl (eF (p8 hT.lg) hz) ?_
 have qi:=Hl (k:=.int st) (v:=.ref D) qz zq
 refine W.fS C.l7 .c (.inl rfl) (hQ M2 f (bf P.acE (.int st) (.ref c9)) (bf P.goE (.int st) (.ref D)) _ qd _ _ s (cy hs (Ls (NA 5 zf) _)) qi qh (cy om (Lw zo)) (hT.step (λb es R h=>z3 _ _ (zw b R) (kA _ _ h)) S.Cq (z3 _ _ (Ma n9) qe) g.ok (z3 _ _ (Ma zn) z2) qa) (λb R=>?_) (λa z h1 h2=>z3 _ _ h1 (kA _ _ h2)) (λj l=>(a6 (Lu l)).trans (C.lo j l)) rfl)
 obtain⟨j,R | R⟩:=R
 ·rw[bt] at R
  split at R
  ·cases R;exact Ma n9
  ·exact zw b ⟨j,.inl R⟩
 ·rw[bt] at R
  split at R
  ·cases R;exact Ma zn
  ·exact zw b ⟨j,.inr R⟩
end
def Par.wx(P:Par)(M:PM)(E:PE):Par:={ P with toPM:=M,toPE:=E }
section
variable{P z:Par}{ty t0 w ty':TY}{H H' H0:CH}{n b c g t:ki}{Q:Rs}{ρ U:aK}{x y:Lj}{k:CV}
structure PAL(t aP aPr aGo aAc c5:ki)(L:EN):Prop where
 l0:L 0=aM (.ref t)
 l1:L 1=aM (.ref aP)
 l2:L 2=aM (.ref aPr)
 l3:L 3=aM (.ref aGo)
 l4:L 4=aM (.ref aAc)
 l5:L 5=aM (.ref c5)
inductive PaI(P:Par)(M:PM)(H0:CH)(t0 ty:TY)(t c5 i:ki)(H':CH)(L':EN):Prop
 | mk (M3:PM) (sc:ki) (acE goE e5:cp (CV×CV)) (ty':TY) (hm:M.m<=M3.m) (hs:sc<=75 * i) (N:Now H0 t0 (P.wt M3 sc acE goE) ty' H') (h5:ty' c5=aM (.bc e5)) (h:e5.length<=i) (hT:iK P.R ty' i acE goE) (hn:∀b,AcG acE goE b->b≠c5) (k:Kp c5 ty ty') (w:PAL t P.aP P.aPr P.lT P.tJ c5 L') (l7:L' 7=aM (.int i))
theorem Hm(N:Now H0 t0 P ty H)(F:fB P)(z:P.qs=eS P.R)(z8:P.fz=true)(hk:Nms P.nk Y)(p:ty t=aM .table)(z9:P.he=[])(y:P.acE=[])(U:P.goE=[])(zz:P.sc=0)
(hQ:∀M E ty' H',P.m<=M.m->Now H0 t0 (P.wx M E) ty' H'->Ka ty ty'->iK P.R ty' (CC P.R).length E.acE E.goE->Q .none H'):ah fF mF (n+5) 424 [.ref t] H Q:=by
 refine bK [.ref t] (d:=bQ) rfl rfl rfl rfl λFQ ζ s=>?_
 have f:=N.T.tb p
 have d:=f.a29.2
 have v:=N.T.gr d
 have og:∀{L':EN},L' 0=aM (.ref t)->Ev L' H (.at (.v 0) 29) (.ref P.gr):=λl0=>.att (.v l0) (N.T.tat p f.a29.1)
 refine W.asg (.att (og rfl) (N.T.gat d v.a17.1)) (W.asg (.att (og rfl) (N.T.gat d v.a24.1)) (W.asg (.att (.v rfl) (N.T.tat p f.a32.1)) (W.asg (.att (.v rfl) (N.T.tat p f.a31.1)) (W.pa N λc5 t1 H1 N1 zq f5 k=>?_))))
 refine W.gen (p:=PAL t P.aP P.aPr P.lT P.tJ c5) ⟨rfl,rfl,rfl,rfl,rfl,rfl⟩ λL1 w=>?_
 have C:=N1.T.tb (k _ _ p).1
 refine W.me (.v w.l0) C.cls rfl rfl (C.no 50 (by decide)) .nil (BP N1 F z (k _ _ p).1 z9 λM he c l t2 H2 hm N2 k2 g cF x zw=>?_)
 have m:=k2 _ _ zq
 have z0:c≠c5:=wX g m rfl
 have r:=k2 _ _ (k _ _ p).1
 have zy:=gM F.G
 have B:=x.len
 have z1:=cy (p8 B) zy
 have S:∀{R Z V J A I i q},P.m<=R.m->A t=aM .table->A I=aM (.stL q)->(CC P.R)[i]?=aM q->PtS ((P.wh M he).wt R Z V J) A t I i q:=λh p hI hq=>⟨⟨F.G,F.k,F.kq,F.kn,F.z,F.li,MG F.m0 h⟩,z,z8,zw,p,hI,hq⟩
 refine W.f6 (.cm (.att (.v w.l0) (N2.T.tat r (N2.T.tb r).a30)) .c (eqS (asc (by decide)) (asc (by decide)))) (λe=>p7 e (by decide)) λζ=>W.nil (W.asg .c ?_)
 refine frL (ys:=l) (f:=.ref) (a:=c) (I:=PaI (P.wh M he) M H0 t0 t2 t c5) (.v rfl)
  ⟨M,P.sc,P.acE,P.goE,[],t2,Ol _,p8 zz,N2,m,Lf _,?_,?_,.r,⟨w.l0,w.l1,w.l2,w.l3,w.l4,w.l5⟩,rfl⟩ ?_ ?_ ?_
 ·(erw[y];erw[U])
  exact⟨rfl,rfl,aO,aO,λj ζ h=>p7 h (MD _),λj ζ h=>p7 h (MD _)⟩
 ·(erw[y];erw[U])
  rintro b ⟨j,h | h⟩ <;> cases h
 ·rintro i H' L' ⟨R,Z,V,J,e5,A,_,_,N3,_,_,_,_,G,_⟩
  exact N3.T.gL (G _ _ z0 g)
 ·rintro i I H3 L3 K hI ⟨R,Z,V,J,e5,A,L,X,N3,z2,z3,T,D,G,O,l7⟩ hK
  refine oEA (x.get hI) λq hq zu=>?_
  have z4:=(kO.mp hI).1
  have kn:∀{b ρ},t2 b=aM ρ->ρ.own=false->A b=aM ρ:=λh o=>G _ _ (bh h o m rfl) h
  exact Jq (n:=n+2) (P:=(P.wh M he).wt R Z V J) N3 (S (MG hm L) (kn r rfl) (kn zu rfl) hq) hk z2 f5 z3 (cy (y1 z4) z1) (eF (cy (MJ X 75) (NA 75 (cy z4 z1))) (e0 rfl)) T D O.l0 O.l1 O.l2 O.l3 O.l4 O.l5 l7 rfl λM4 zv z5 z6 e6 t4 H4 L4 zk zj N4 zo zp zf z7 k4 u j7=>hK.nxt ⟨M4,zv,z5,z6,e6,t4,MG L zk,cy zj (MJ X 75),N4,zo,zp,zf,z7,G.t k4,⟨(u 0 (by decide)).trans O.l0,(u 1 (by decide)).trans O.l1,(u 2 (by decide)).trans O.l2,(u 3 (by decide)).trans O.l3,(u 4 (by decide)).trans O.l4,(u 5 (by decide)).trans O.l5⟩,j7⟩
 ·rintro H3 L3 ⟨R,Z,V,J,e5,A,L,X,N3,z2,z3,T,D,G,_⟩
  rw[B] at T
  exact W.nil (s (hQ R ⟨P.hash,he,V,J,Z⟩ A H3 (MG hm L) N3 (λa ρ h=>G _ _ (k _ _ h).2 (k2 _ _ (k _ _ h).1)) T))
theorem Now.Jr{L':cp (ki×aK)}{T:PQ}(N:Now H0 t0 P ty H)(J:∀a ρ,t0 a=aM ρ->ρ.gr=true)(D:H0.free c)(M:ty c=aM (.cA d f))(O:Mn H0 ty c L)(s:∀x∈L,x.2.own=true)(e:L'.map (·.1)=L.map (·.1))
(m:∀ty',(∀x∈(c,ρ)::L',ty' x.1=aM x.2)->(∀a ρ,ty a=aM ρ->ρ.own=false->ρ.gr=true->ty' a=aM ρ)->∀x∈(c,ρ)::L',Sat { P with toPQ:=T,toPE:=E } ty' (aY H x.1) x.1 x.2):∃ty',Now H0 t0 { P with toPQ:=T,toPE:=E } ty' H/\ty' c=aM ρ:=by
 have C:=w7 (d:=kb ty) (O.nd' (ρ:=ρ) e)
 have B:∀a V,ty a=aM V->V.own=false->V.gr=true->rol (kb ty) ((c,ρ)::L') a=aM V:=λa V h o p=>(vy λx j q=>by
  rcases ta.mp j with rfl | j
  ·exact bh h o M rfl q.symm
  ·obtain⟨y,A,r⟩:=p9.mp (e▸LL (f:=λz:ki×aK=>z.1) j)
   exact bh h o (O.r y A).t (s y A) (q.symm.trans r.symm)).trans (iG h p)
 refine⟨_,⟨⟨N.T.wf,N.T.f,N.T.s,λa V h=>?_⟩,N.live,λa l=>?_⟩,C _ fp⟩
 ·exact(w8 h).elim (m _ C B _) λh=>Sat.upT (fY h).2 ((N.T.sat a V (fY h).1).mono λb V o p i=>B b V i o (p (fY h).2))
 ·refine(vy λx j (q:x.1=a)=>l (q▸O.fr e D j)).trans ?_
  cases e:t0 a with
  | none=>unfold kb;(erw[N.iF a l];erw[e]);rfl
  | some ρ=>exact iG ((N.iF a l).trans e) (J a ρ e)
namespace W
variable{a:cp CS}{Q:NE}{X:No}{L:EN}{xs:cp Lj}
theorem BU(N:Now H0 t0 P ty H)(B:Ev L H J (.str x))(A:Evs L H j (xs.map .str))(p:x∈xs)(T:∀y∈xs,aZ y)(r:∀s o O,Now H0 t0 P o O->K1 s ty o->ae V M l ⟨O,L⟩ Q X):ae V M (.ite (.cm .cu J (.li j)) a []::l) ⟨H,L⟩ Q X:=
 B _ _ _ _ (A _ _ _ _ λs D=>N.nL (G:=λH'=>∃r,b9 H' .cu (.str x) (.ref s)=aM r/\∃q,aL H' (.bool r)=aM q/\if q then ae V M a ⟨H',L⟩ (bq V M l Q X) X else ae V M [] ⟨H',L⟩ (bq V M l Q X) X) D λo O C g f k=>⟨false,(lh (dT (C.T.gL g) T (T x p))).trans (dd (λb=>aM (!b)) (Ln p)),false,rfl,r s o O C k⟩)
end W
theorem um(T:au P ty H)(v:∀a ρ,ty a=aM ρ->ρ.gr=true)(G:aj P.R)(hc:H.free c)(r:ty g=aM .bX)(X:P.k=P.R.length)(C:P.kq=P.k)(B:P.kn=P.R.length)(t:P.kt=P.R.length)(U:P.z=true)(b:P.li=0)(I:P.lx=0)(z0:P.ly=0)(hm:P.m=0)
(z1:P.fe=true)(z2:P.ff=false)(z3:P.ge=true)(z4:P.fz=false)
(hQ:∀z ty' H',z.R=P.R->fB z->z.qs=eS z.R->Now H ty z ty' H'->ty' c=aM .table->iK P.R ty' (CC P.R).length z.acE z.goE->Q .none H'):ah fF mF (n+6) 333 [.ref c,.ref g,.str (u 1349811)] (H.cR c 427) Q:=by
 obtain rfl:g=P.gr:=(T.sat _ _ r).1
 refine T.now.nC (G:=λH=>ah fF mF (n+6) 333 _ H Q) hc λt1 H1 N p cF k1=>?_
 refine bK [.ref c,.ref P.gr,.str (u 1349811),.none] (d:=dq) rfl rfl rfl rfl λFQ V R=>?_
 clear k1
 refine W.BU (xs:=[u 1349811,u 129580172]) N (.v rfl) (.two .c .c) (by decide) (λy hy=>asc (by revert hy;revert y;decide)) λs t2 H2 N k=>?_
 replace p:=(k _ _ p).1
 clear k
 refine W.oC [(29,.v (.v 1) (.ref P.gr)),(30,.v (.v 2) (.str (u 1349811))),(31,.d),(32,.d),(33,.v (.at (.v 1) 17) (.ref P.aP)),(34,.d),(35,.d),(36,.v (.c (.int 0)) (.int 0)),(37,.v (.c (.int 0)) (.int 0)),(38,.v (.c (.int 0)) (.int 0)),(39,.l [] []),(40,.l [] []),(41,.l [] [])] rfl rfl cF N p .nil
  ⟨λV V V V=>.v rfl,λV V V V=>.v rfl,λV V=>⟨λV V N V=>.att (.v rfl) (N.T.gat (N.get T r) (N.T.gr (N.get T r)).a17.1),λV V=>⟨λV V V V=>.c,λV V V V=>.c,λV V V V=>.c,λV=>.nil,λV=>⟨λV=>.nil,λV=>⟨λV=>.nil,λV=>trivial⟩⟩⟩⟩⟩ λL o J O K D d z5 zg N p l=>?_
 obtain⟨f,p,m,z6,z7,z8,z9,zz,zq,zw,zy,zu⟩:∃f,z5 c=aM (.cA 427 f)/\f 29=aM (.ref P.gr)/\f 30=aM (.str (u 1349811))/\f 31=aM (.ref L)/\f 32=aM (.ref o)/\f 34=aM (.ref J)/\f 35=aM (.ref O)/\f 36=aM (.int 0)/\f 40=aM (.ref D)/\f 41=aM (.ref d)/\∀k,42<=k->f k=none:=
  ⟨_,p,rfl,rfl,rfl,rfl,rfl,rfl,rfl,rfl,rfl,hi1 (hi1 (hi1 (hi1 (hi1 (hi1 (hi1 (hi1 (hi1 (hi1 (hi1 (hi1 (hi1 (λV V=>rfl) rfl) rfl) rfl) rfl) rfl) rfl) rfl) rfl) rfl) rfl) rfl) rfl) rfl⟩
 have j:=N.get T r
 refine W.Ba (.att (.v rfl) (N.T.oat p rfl m)) (N.T.gr j).cls rfl rfl ((N.T.gr j).no 47 (by decide)) .nil (Bv N G j X C B U b I z0 λf2 zv zl N k=>?_)
 replace l:Mn H zv c _:=l.ay k.p
 replace p:=k _ _ p
 clear k j
 refine oEA (bj N G (N.get T r) t) λY N S=>?_
 have j:=N.get T r
 refine W.Ba (.att (.v rfl) (N.T.oat p rfl m)) (N.T.gr j).cls rfl rfl ((N.T.gr j).no 45 (by decide)) .nil (oS N G B j z1 z2 S λaf fc zk zx V N k=>?_)
 replace l:Mn H zk c _:=l.ay k.p
 replace p:=k _ _ p
 clear k j
 have j:=N.get T r
 refine W.Ba (.att (.v rfl) (N.T.oat p rfl m)) (N.T.gr j).cls rfl rfl ((N.T.gr j).no 46 (by decide)) .nil (ma N G j X C U rfl z3 z4 S λao fo zj zc V N k=>?_)
 replace l:Mn H zj c _:=l.ay k.p
 replace p:=k _ _ p
 clear k j
 have A:=N.T.A p
 obtain⟨zb,N2,ht⟩:=N.Jr (ρ:=.table) (L':=[(d,.srL),(D,.srL),(K,.ak []),(O,.j9),(J,.oh),(o,.tI),(L,.A5)]) (T:=⟨c,L,o,J,D,d,eS P.R⟩) (E:=⟨O,[],[],[],0⟩) v cF p l
  (Al.mem ⟨rfl,rfl,rfl,rfl,rfl,rfl,rfl,trivial⟩) rfl λty' q kk=>by
   have Z:=λi (x:ki×aK) (e:[(c,aK.table),(d,.srL),(D,.srL),(K,.ak []),(O,.j9),(J,.oh),(o,.tI),(L,.A5)][i]?=aM x)=>q x (od e)
   exact Al.mem ⟨⟨rfl,N.T.C p,⟨(A 29).trans m,kk _ _ (N.get T r) rfl rfl⟩,(A 30).trans z6,⟨(A 31).trans z7,Z 7 _ rfl⟩,⟨(A 32).trans z8,Z 6 _ rfl⟩,⟨(A 34).trans z9,Z 5 _ rfl⟩,⟨(A 35).trans zz,Z 4 _ rfl⟩,(A 36).trans (zq.trans (dd (λi=>aM (CV.int i)) hm.symm)),⟨(A 40).trans zw,Z 2 _ rfl⟩,⟨(A 41).trans zy,Z 1 _ rfl⟩,λk X=>(A k).trans (zu k X)⟩,
    ⟨[],N.T.L (l.at 0 rfl).t,Lp _⟩,⟨[],N.T.L (l.at 1 rfl).t,Lp _⟩,N.T.L (l.at 2 rfl).t,⟨aq (N.T.D (l.at 3 rfl).t),λV=>N.T.D (l.at 3 rfl).t⟩,⟨[],N.T.D (l.at 4 rfl).t,aO,LR⟩,⟨rfl,N.T.D (l.at 5 rfl).t⟩,⟨rfl,N.T.D (l.at 6 rfl).t⟩,trivial⟩
 have w:=N2.T.tb ht
 have F:∀{M:PM},P.m<=M.m->0<=M.m:=λh=>by rw[hm] at h;exact h
 refine W.Ba (.v rfl) w.cls rfl rfl (w.no 51 (by decide)) .nil (Hm N2 ⟨G,X,C,B,U,rfl,show 0<=P.m from Qo hm.symm⟩ rfl rfl S ht rfl rfl rfl rfl λM E zo zp zf N3 k3 hT=>R (hQ _ zo zp (by exact rfl) (by exact⟨G,X,C,B,U,rfl,F (M:=M) zf⟩) (by exact rfl) N3 (k3 _ _ ht) hT))
end
section
variable{z:PT}{L:EN}{H:CH}{U y v:CE}{x:CV}{c:ki}{w:cp CV}{Q:Ps}{X:No}
theorem KR(V:Ev L H U x)(g:aL H x=aM p)(r:if p then wpE z M y ⟨H,L⟩ Q X else wpE z M v ⟨H,L⟩ Q X):wpE z M (.ife U y v) ⟨H,L⟩ Q X:=V _ _ _ _ ⟨p,g,r⟩
theorem poE(h:Ev L H o (.ref c))(g:H.lst c=aM (x::m))(r:Q x ⟨H.aD c m,L⟩):wpE z M (.po o (.c (.int 0))) ⟨H,L⟩ Q X:=h _ _ _ _ ⟨c,_,rfl,g,x,m,rfl,g,r⟩
theorem ixE(h:Ev L H e x)(r:wpE z M U ⟨H,L⟩ (λy st=>∃r,eD st.H x y=aM r/\match r with | .ok v=>Q v st | .error q=>X q st) X):wpE z M (.ix e U) ⟨H,L⟩ Q X:=h _ _ _ _ r
theorem Js(h:Evs L H Y w)(r:z f w H λr V=>wpE z M e ⟨V,L⟩ (λy st=>opV .mod r y st Q) X):wpE z M (.op .mod (.fn f Y) e) ⟨H,L⟩ Q X:=h _ _ _ _ r
theorem ixF(h:Evs L H Y w)(r:z f w H λx V=>wpE z M e ⟨V,L⟩ (λy st=>∃r,eD st.H x y=aM r/\match r with | .ok v=>Q v st | .error q=>X q st) X):wpE z M (.ix (.fn f Y) e) ⟨H,L⟩ Q X:=h _ _ _ _ r
theorem liF{as:cp CE}{Q:cp CV->St->Prop}(h:Evs L H Y w)(r:z f w H λr V=>kH z M as ⟨V,L⟩ (λk st=>Q (r::k) st) X):kH z M (.fn f Y::as) ⟨H,L⟩ Q X:=h _ _ _ _ r
theorem W.zB{as:cp CE}{Q:NE}(r:kH z M as ⟨H,L⟩ (λw st=>∀c,st.H.free c->ae z M l ⟨st.H.aD c w,upd st.L i (.ref c)⟩ Q X) X):ae z M (.asg (.n i) (.li as)::l) ⟨H,L⟩ Q X:=r
theorem W.se{Q:NE}(r:wpE z M e ⟨H,L⟩ (λv st=>ae z M l ⟨st.H,upd st.L i v⟩ Q X) X):ae z M (.asg (.n i) e::l) ⟨H,L⟩ Q X:=r
theorem W.apE{Q:NE}(h:Ev L H o (.ref c))(g:H.lst c=aM m)(r:wpE z M e ⟨H,L⟩ (λx st=>∃V,st.H.lst c=aM V/\V.length<szl/\ae z M l { st with H:=st.H.aD c (V++[x]) } Q X) X):ae z M (.ex (.ap o e)::l) ⟨H,L⟩ Q X:=h _ _ _ _ ⟨c,m,rfl,g,r⟩
end
section
variable{Q:Type}{f:Q->CV}{l m:cp Q}{x:Q}{H:CH}{a b:ki}
def okL(l:cp CV):Prop:=CV.bD l=true/\CV.dw l<=20
theorem okL.of{p:Q->Prop}{d:ki}(h:∀x,p x->(f x).pure=true/\(f x).depth<=d)(w:d<=20){l:cp Q}:(∀x∈l,p x)->okL (l.map f):=by
 induction l with
 | nil=>exact λv=>⟨rfl,Lp _⟩
 | cons y l Y=>
  intro hl
  have q:=Y λx U=>hl x (oo _ U)
  have z:=h y (hl y fp)
  exact⟨(SG _ _).mpr ⟨z.1,q.1⟩,Sd.mpr ⟨cy z.2 w,q.2⟩⟩
theorem inL[OS (x∈l)](h:H.getL a=aM (l.map f))(w:okL (l.map f))(Y:(f x).pure=true)(U:(f x).depth<=20)(z:∀y∈l,f y=f x->y=x):b9 H .isIn (f x) (.ref a)=aM (decide (x∈l)):=
 (dd (LW · _ (sE (f x))) h).trans ((K2 ⟨Y,w.1,U,w.2⟩).trans (dd aM (kh ⟨λh=>(p9.mp h).elim λy q=>z y q.1 q.2▸q.1,LL⟩)))
theorem KT[OS (l=m)](h:H.getL a=aM (l.map f))(Y:H.getL b=aM (m.map f))(w:okL (l.map f))(y:okL (m.map f))(z:l.map f=m.map f->l=m):b9 H .eq (.ref a) (.ref b)=aM (decide (l=m)):=by
 have e:eqV H (.ref a) (.ref b)=eqX H (.ref a) (.ref b):=by unfold eqV;exact E1 λq=>Lq q.1
 refine SE e ?_
 show(H.getL a).bind _=_
 erw[h]
 show(H.getL b).bind _=_
 erw[Y]
 exact(K2 ⟨w.1,y.1,w.2,y.2⟩).trans (dd aM (kh ⟨z,dd _⟩))
end
theorem b5{a b:ki}(h:a<=b)(z:Oc b 1000000=true):a<szl:=eF (cy h (e0 z)) (e0 rfl)
section
variable{P:Par}{t0:TY}{H H0:CH}{n t:ki}{Q:Rs}{l:cp Nj}
theorem lv(N:Now H0 t0 P Y H)(g:Y t=aM (.ak (l.map .int)))(f:H0.free t)(U:∀i (v:cp Nj) z y,Now H0 t0 P z y->z t=aM (.ak (v.map .int))->Kp t Y z->Q (.int i) y):ah fF mF (n+1) 447 [.ref t] H Q:=by
 refine bK [.ref t] (d:=nV) rfl rfl rfl rfl λV w o=>W.vv ?_
 refine KR (.v rfl) (oz (N.T.gL g)) ?_
 cases l with
 | nil=>exact w (U 0 [] Y H N g .r)
 | cons x l=>exact poE (.v rfl) (N.T.L g) (N.oL (G:=λH=>V (.ret (.int x)) ⟨H,_⟩) f g λz y j J k=>w (U x l z y j J k))
theorem xi{z:Type}{l:cp z}{f:z->CV}(w:0<l.length)(i:Nj):∃x∈l,atI (l.map f) (i % (l.length:Nj))=aM (f x):=by
 refine oE (QX (V2 i (Uj (Ni.mpr w)))) λm e=>?_
 have y:=U7 i (Ni.mpr w)
 rw[e] at y ⊢
 have U:m<l.length:=MP.mp y
 exact⟨l[m],MS U,(K2 (Ms m)).trans (by rw[Oz,Mg,o2 U];rfl)⟩
theorem Ek{b:Nj}(h:-(2 ^ 20)<b/\b<2 ^ 20):hJ [.int b]=aM ((Lk b.toNat).map λ(i:ki)=>.int i):=K2 h
theorem gk{m:ki}(h:m<1000000):hJ [.int m]=aM ((Lk m).map λ(i:ki)=>.int i):=
 (Ek ⟨Pq (by decide) (Ms m),O6 (MP.mpr h) (by decide)⟩).trans (by exact LH (Oz _) rfl)
structure RoL(t c:ki)(nm:Lj)(L:EN):Prop where
 l0:L 0=aM (.ref t)
 l1:L 1=aM (.str nm)
 l3:L 3=aM (.ref c)
theorem Hn{c p:ki}{nm:Lj}{y:cp Lj}{K:NE}(N:Now H0 t0 P Y H)(g:Y t=aM (.ak (l.map .int)))(f:H0.free t)(B:Y c=aM (.ak (y.map .str)))(r:H0.free c)(A:c≠t)(F:y.length<=100)(w:RoL t c nm L)(D:L 4=aM (.int p))
(R:∀(o:cp Nj) x z U E,Now H0 t0 P z U->z t=aM (.ak (o.map .int))->z c=aM (.ak ((y++[x]).map .str))->(∀a O,a≠t->a≠c->Y a=aM O->z a=aM O)->x∈bm->(p=0->x∈jq)->RoL t c nm E->K .next ⟨U,E⟩):ae (ah fF mF (n+1)) mF jU ⟨H,L⟩ K FX:=by
 have V:∀(k:ki) (v:cp Lj),0<v.length->v.length<100->(∀{z U},Now H0 t0 P z U->U.getL k=aM (v.map .str)/\U.cls k=none)->(∀x∈v,x∈bm)->(p=0->∀x∈v,x∈jq)->
   ae (ah fF mF (n+1)) mF [.ex (.ap (.v 3) (.ix (.v 5) (.op .mod (.fn 447 [.v 0]) (.b1 .len (.v 5)))))] ⟨H,upd L 5 (.ref k)⟩ K FX:=by
  intro k v J T S X Z
  refine W.apE (.v w.l3) (N.T.L B) (ixE (.v rfl) (Js (.one (.v w.l0)) (lv N g f λi o t1 H1 C G I=>?_)))
  refine oA (S C) λM u=>?_
  have j:=I _ _ A B
  refine Ev.go (.x8 (.v rfl) u (yc M) (by erw[h7 _];exact y1 (b5 (y1 T) rfl))) ⟨by erw[h7 _];exact Ni.mpr J,?_⟩
  refine oEA (xi (f:=CV.str) J i) λx s e=>?_
  refine⟨.ok (.str x),vr M (by erw[h7 _];exact e),_,C.T.L j,by erw[h7 _];exact b5 F rfl,C.oL (G:=λH=>K .next ⟨H,_⟩) r j λq Q N2 g2 d=>R o x q Q _ N2 (d _ _ (Ma A) G) (by(erw[g2];erw[LP]);rfl) (λa O J T h=>d _ _ T (I _ _ J h)) (X x s) (λe=>Z e x s) ⟨w.l0,w.l1,w.l3⟩⟩
 by_cases b:p=0
 ·subst b
  exact W.asg (.ifF (.v D) rfl .c) (V 439 jq (by decide) (by decide) (λN=>⟨N.T.gf,(N.T.wf.ro _ (aq N.T.f)).2.2⟩) (by decide) λm m h=>h)
 ·exact W.asg (.ifT (.v D) (dd aM (RB.mpr λe=>b (OK e))) .c) (V 440 bm (by decide) (by decide) (λN=>⟨N.T.gs,(N.T.wf.ro _ (aq N.T.s)).2.2⟩) (λm h=>h) λe=>p7 e b)
inductive KU(H0:CH)(t0:TY)(P:Par)(t c:ki)(nm:Lj)(t2:TY)(i:ki)(H':CH)(L':EN):Prop
 | mk (acc:cp Lj) (l':cp Nj) (ty':TY) (N:Now H0 t0 P ty' H') (g:ty' t=aM (.ak (l'.map .int))) (gc:ty' c=aM (.ak (acc.map .str))) (k:∀a ρ,a≠t->a≠c->t2 a=aM ρ->ty' a=aM ρ) (hl:acc.length=i) (hs:∀x∈acc,x∈bm) (hf:∀x,acc[0]?=aM x->x∈jq) (w:RoL t c nm L')
theorem KV{z:PT}{Q:NE}(h:Evs L H w U)(r:z f U H λr k=>wpE z M e ⟨k,L⟩ (λy st=>opV .mod r y st λv st=>ae z M (.fr V (.rng [.c v]) b o::s) st Q X) X):ae z M (.fr V (.rng [.op .mod (.fn f w) e]) b o::s) ⟨H,L⟩ Q X:=h _ _ _ _ r
theorem kE{nm:Lj}{most:ki}(N:Now H0 t0 P Y H)(g:Y t=aM (.ak (l.map .int)))(f:H0.free t)(T:most<100)
(u:∀(q:cp Nj) rhs V d,Now H0 t0 P V d->V t=aM (.ak (q.map .int))->Kp t Y V->dS most rhs->Q (cI (nm,rhs)) d):ah fF mF (n+2) 454 [.ref t,.str nm,.int most] H Q:=by
 refine bK [.ref t,.str nm,.int most] (d:=pY) rfl rfl rfl rfl λFQ J O=>?_
 refine W.jh N .nil λc t1 H1 N1 gc cF C=>?_
 have b:=C _ _ g
 refine KV (.one (.v rfl)) (lv N1 b.1 f λi l2 r H2 N2 g2 F=>?_)
 refine Ev.go (.add (.v rfl) .c) ⟨Ni.mpr (MO most),?_⟩
 refine oE (QX (V2 i (Uj (Ni.mpr (MO most))))) λm e=>?_
 have v:m<=most:=tc (MP.mp (e▸U7 i (Ni.mpr (MO most))))
 erw[e]
 refine frR (ys:=Lk m) (f:=λ(i:ki)=>.int i) (I:=KU H0 t0 P t c nm r) (.one .c) ?_
  ⟨[],l2,r,N2,g2,F _ _ (Ma b.2) gc,λO O O O h=>h,rfl,aO,(by intro i h;injection h),rfl,rfl,rfl⟩ ?_ ?_
 ·exact gk (eF v (Mj T (by decide)))
 ·rintro i y R L3 K p ⟨U,S,X,L,B,k,A,j,D,E,w⟩ hK
  obtain⟨Z,rfl⟩:=kO.mp p
  erw[Oo _]
  rw[LJ] at Z
  exact Hn (p:=i) L B f k cF (Ma b.2) (j▸cy (y1 Z) (cy v (y1 T))) ⟨w.l0,w.l1,w.l3⟩ rfl λl4 x t4 H4 L4 N4 g4 I k4 hx M s=>hK.nxt ⟨U++[x],l4,t4,N4,g4,I,λa ρ o G h=>k4 _ _ o G (A _ _ o G h),by(erw[GE];erw[j]);rfl,cC D hx,λy p=>(by
   cases U with
   | nil=>cases p;exact M j.symm
   | cons z U=>exact E y p),s.l0,s.l1,s.l3⟩
 ·rintro R L3 ⟨U,S,X,L,B,k,A,j,D,E,w⟩
  rw[LJ] at j
  exact W.nil (W.ret (.tu (.two (.v w.l1) (.tuple (.v w.l3) (L.T.gL k) (by erw[h7 _];exact y1 (b5 (cy (p8 j) (cy v (y1 T))) rfl))))) (J (u S U X R L B (λa ρ o h=>A _ _ o (C _ _ h).2 (F _ _ o (C _ _ h).1)) ⟨cy (p8 j) v,D,E⟩)))
theorem jw(N:Now H0 t0 P Y H)(U:∀c z y,Now H0 t0 P z y->z c=aM (.ak (aC.map .str))->K1 c Y z->Q (.ref c) y):ah fF mF (n+1) 438 [] H Q:=
 bK [] (d:=lO) rfl rfl rfl rfl λv w O=>W.vv λc V=>N.nL (G:=λH=>v (.ret (.ref c)) ⟨H,_⟩) V λj J o g f k=>w (U c j J o g k)
end
theorem El{l:cp aE}(h:∀r∈l,ot r):okL (l.map cI):=⟨yb h,cy (vo _) (e0 rfl)⟩
theorem Jt(Y:dS 2 Q)(U:dS 2 w)(v:dS 2 y):Rows [(sS,Q),(sA,w),(sB,y)]:=by
 refine⟨⟨Lf 3,MA 3⟩,⟨_,rfl⟩,⟨_,rfl⟩,⟨_,rfl⟩,λr z=>?_,?_⟩
 ·rcases ta.mp z with rfl | z
  ·exact⟨show sS∈aC by decide,Y⟩
  rcases ta.mp z with rfl | z
  ·exact⟨show sA∈aC by decide,U⟩
  ·erw[n2.mp z];exact⟨show sB∈aC by decide,v⟩
 ·exact WO (S:=(·≠·)) PZ (λa b h e=>h (dd _ e)) (show [sS,sA,sB].Nodup by decide)
theorem Rows.CU{r:aE}(h:Rows z)(w:z.length=3)(y:r∉z)(Y:r.1∈aC)(U:dS 2 r.2):Rows (z++[r]):=by
 have Q:∀{i:ki} {x:aE},z[i]?=aM x->(z++[r])[i]?=aM x:=λe=>(Nl (kO.mp e).1).trans e
 exact⟨by(erw[GE];erw[w]);exact⟨MA 3,Lf 4⟩,h.r0.imp λx=>Q,h.r1.imp λx=>Q,h.r2.imp λx=>Q,cC h.A4 ⟨Y,U⟩,cQ h.nd y⟩
section
variable{P:Par}{z:TY}{H w:CH}{n t:ki}{Q:Rs}{l:cp Nj}
theorem vM(N:Now w y P z H)(g:z t=aM (.ak (l.map .int)))(f:w.free t)
(C:∀c Y V F,Now w y P V F->V c=aM (.ak (Y.map cI))->Kp t z V->Rows Y->Q (.ref c) F):ah fF mF (n+3) 461 [.ref t] H Q:=by
 refine bK [.ref t] (d:=lP) rfl rfl rfl rfl λFQ U O=>?_
 refine W.zB (liF (.cons (.v rfl) (.two .c .c)) (kE (most:=2) N g f (by decide) λl1 R t1 H1 S q1 X v=>?_))
 refine liF (.cons (.v rfl) (.two .c .c)) (kE (most:=2) S q1 f (by decide) λl2 Z t2 H2 K q2 G u=>?_)
 refine liF (.cons (.v rfl) (.two .c .c)) (kE (most:=2) K q2 f (by decide) λl3 q t3 H3 N3 q3 x h3 c hc=>?_)
 have x:=X.t (G.t x)
 have J:=Jt v u h3
 clear v u h3 q1 q2 S K X G
 refine N3.nL (l:=[(sS,R),(sA,Z),(sB,q)].map cI) (G:=λH=>ae (ah fF mF (n+2)) mF _ ⟨H,upd _ 1 (.ref c)⟩ FQ FX) hc λb H4 B A cF k=>?_
 generalize p:[(sS,R),(sA,Z),(sB,q)]=Y at J A
 have hl:Y.length=3:=p▸rfl
 clear p
 have D:=k _ _ q3
 have kc:∀a L,a≠t->z a=aM L->a≠c:=λa L v h=>(k _ _ (x _ _ v h)).2
 have k:Kp t z b:=x.t k.p
 have ct:=Ma D.2
 refine W.ite (.v rfl) (oz (B.T.gL D.1)) (λO=>?_) λO=>W.nil (W.ret (.v rfl) (U (C c Y b H4 B A k J)))
 refine W.se (ixF .nil (jw B λc5 t5 H5 N5 g5 E=>?_))
 have q5:=E _ _ D.1
 refine Js (.one (.v rfl)) (lv N5 q5.1 f λi l6 t6 H6 N6 q6 o=>⟨by decide,?_⟩)
 refine oEA (xi (l:=aC) (f:=CV.str) (by decide) i) λnm T e=>?_
 refine⟨.ok (.str nm),vr (N6.T.gL (o _ _ (Ma q5.2) g5)) e,?_⟩
 have I:=o _ _ ct (E _ _ A).1
 have o:Kp t b t6:=λa L v h=>o _ _ v (E _ _ h).1
 show ae _ _ (_::_) ⟨H6,upd _ 2 (.str nm)⟩ _ _
 refine W.fn (.cons (.v rfl) (.two (.v rfl) .c)) (kE (most:=2) N6 q6 f (by decide) λl7 x4 t7 H7 M q7 s h4=>?_)
 have j:=s _ _ ct I
 have d:ot (nm,x4):=Fe T h4
 refine W.rX (.cm (.v rfl) (.v rfl) (lh (inL (f:=cI) (M.T.gL j) (El λr p=>Fe (J.A4 r p).1 (J.A4 r p).2) (qG d) (by erw[ou _];decide) λO O=>Bc))) (λhn=>?_) λO=>W.nil (W.nil (W.ret (.v rfl) (U (C c Y t7 H7 M j (k.t (o.t s)) J))))
 exact W.f7 M cF j (.v rfl) (.v rfl) (by(erw[h7 _];erw[hl]);exact b5 (Lf 3) rfl) λt8 H8 N8 m k8=>W.nil (W.nil (W.ret (.v rfl) (U (C c _ t8 H8 N8 (by erw[LP];exact m) (λa L v h=>k8 _ _ (kc a L v h) (s _ _ v (o _ _ v (k _ _ v h)))) (J.CU hl hn T h4)))))
end
def eU(R:cp aE)(r:ki)(d:ki)(t:Lj):Str:=d.casesOn t λd=>((rhs R r)[d]?).getD t
def Ld(R:cp aE)(j:ki)(x:Lj)(k:ki):Prop:=∃q,(CC R)[j]?=aM q/\moves R q x≠[]/\(CC R)[k]?=aM (clo R (moves R q x))
inductive Ly(R:cp aE):ki->Lj->ki->Prop
 | z:Ly R 0 (u 1) 0
 | s {h j k:ki} {t x:Lj}:Ly R h t j->Ld R j x k->Ly R (h+1) x k
inductive Sm(R:cp aE):Lj->ki->Lj->Prop
 | z:Sm R sP 0 (u 1)
 | s {r p w:ki} {t x:Lj}:Sm R (lhs R r) w t->(rhs R r)[p]?=aM x->x∈aC->Sm R x (w+p) (eU R r p t)
def Vi(R:cp aE)(h:ki)(x:Lj)(p:Pl):Prop:=∃j q,Ly R h x j/\(CC R)[j]?=aM q/\p∈q
def Du(R:cp aE)(h:ki)(x:Lj)(p:Pl):Prop:=p∈ai R/\∃w t,Sm R (lhs R p.1) w t/\w+p.2=h/\x=eU R p.1 p.2 t
section
variable{R:cp aE}
theorem Sm.nm(h:Sm R x w t):x=sP∨x∈aC:=by
 cases h with
 | z=>exact .inl rfl
 | s _ _ h=>exact .inr h
theorem vN{p:ki}(h:(rhs R r)[p]?=aM x):r<R.length:=QV λn=>nsm ((dd (·[p]?) (Bl n)).symm.trans h)
theorem Em(G:aj R):lhs R 0=sP:=dU (x:=(sP,[sS])) G.r0
theorem En(G:aj R){n:ki}(h:lhs R n∈aC):1<=n:=Nd λe=>p7 (show sP∈aC from Em G▸(show lhs R 0∈aC from e▸h)) (by decide)
theorem Ho(G:aj R){j:ki}{q:cp Pl}(h:(CC R)[j]?=aM q):Fwd R (·∈q):=(iZ G ((bR G).sub q (od h))).2.2
theorem Du.fwd(G:aj R):Fwd R (Du R h x):=λp y r Q=>by
 refine qP y λV w t Y e z=>?_;subst z
 refine oAA (ef.mp Q) λQ U v=>?_
 exact⟨aJ.mpr ⟨Q,Lp _⟩,h,_,e▸Y.s v (G.nm r U Q),rfl,rfl⟩
theorem Du.of(G:aj R)(l:Ly R h x j):∀q,(CC R)[j]?=aM q->∀p∈q,Du R h x p:=by
 induction l with
 | z=>
  intro q Q
  obtain rfl:=ey ((bR G).hd.symm.trans Q)
  exact mC (Du.fwd G) λp hp=>n2.mp hp▸⟨aJ.mpr ⟨G.pos,Lp _⟩,0,_,(Em G).symm▸.z,rfl,rfl⟩
 | s l d v=>
  intro o y
  refine aA d λq Q O hk=>?_
  obtain rfl:=ey (hk.symm.trans y)
  refine mC (Du.fwd G) λp hp=>?_
  refine aA (bv.mp hp) λd e V U=>?_
  refine qP (v q Q _ V) λY w t k J f=>?_
  have Y:=aJ.mp Y
  exact⟨aJ.mpr ⟨Y.1,e▸(kO.mp U).1⟩,w,t,k,e▸dd Pj J,e▸(dd (NS · t) U).symm⟩
theorem Vi.up(G:aj R)(v:Vi R h x (r,d))(e:(rhs R r)[d]?=aM y):Vi R (h+1) y (r,d+1):=by
 refine aX v λj q l z U=>?_
 have Q:(r,d+1)∈moves R q y:=bv.mpr ⟨d,rfl,U,e⟩
 have w:=RT Q
 refine oE (Mm.mp ((bR G).cls j q y (kO.mp z).1 z w)) λk Y=>?_
 exact⟨k,_,l.s ⟨q,z,w,Y⟩,Y,kl Q⟩
theorem Vi.Ju(G:aj R)(v:Vi R w t (r,0)):∀d,d<=(rhs R r).length->Vi R (w+d) (eU R r d t) (r,d):=by
 intro d
 induction d with
 | zero=>exact λQ=>v
 | succ d z=>exact λh=>(show(rhs R r)[d]=eU R r (d+1) t from(dd (NS · t) (o2 h)).symm)▸(z (y1 h)).up G (o2 h)
theorem Sm.vi(G:aj R)(s:Sm R y w t):∀n,n<R.length->lhs R n=y->Vi R w t (n,0):=by
 induction s with
 | z=>
  intro n Q e
  obtain rfl:n=0:=Rd λh=>p7 (e▸G.nm n h Q) (by decide)
  exact⟨0,_,.z,(bR G).hd,kl fp⟩
 | s _ Y v V=>
  intro n Q e
  refine aX ((V _ (vN Y) rfl).Ju G _ (y1 (kO.mp Y).1)) λj q l U k=>?_
  exact⟨j,q,l,U,Ho G U _ k n (ef.mpr ⟨Q,En G (e▸v),e▸Y⟩)⟩
theorem Fj(G:aj R):Vi R h x p↔Du R h x p:=by
 refine⟨?_,?_⟩
 ·rintro⟨_,_,l,Q,y⟩;exact Du.of G l _ Q _ y
 ·rintro⟨z,w,t,Y,e,U⟩;exact e▸U▸(Y.vi G _ (aJ.mp z).1 rfl).Ju G _ (aJ.mp z).2
inductive Pth(R:cp aE)(a:ki):ki->ki->Prop
 | z:Pth R a 0 a
 | s {n j k:ki} {x:Lj}:Pth R a n j->Ld R j x k->Pth R a (n+1) k
theorem Pth.t(p:Pth R a n b)(q:Pth R b m c):Pth R a (n+m) c:=by
 induction q with
 | z=>exact p
 | s _ d Q=>exact Q.s d
theorem Ly.pth(l:Ly R h x j):Pth R 0 h j:=by
 induction l with
 | z=>exact .z
 | s _ d Q=>exact Q.s d
theorem Pth.ly(p:Pth R 0 h j):∃x,Ly R h x j:=by
 induction p with
 | z=>exact⟨_,.z⟩
 | s _ d Q=>exact Q.elim λw l=>⟨_,l.s d⟩
def sf(R:cp aE)(j:ki):Prop:=∃n,Pth R j (n+1) j
def Afk(R:cp aE)(k:ki):Prop:=∃j n,sf R j/\Pth R j n k
theorem Ld.lt(d:Ld R j x k):j<(CC R).length/\k<(CC R).length:=d.elim λz h=>⟨(kO.mp h.1).1,(kO.mp h.2.2).1⟩
theorem Pth.lt(p:Pth R a n k)(Q:a<(CC R).length):k<(CC R).length:=by
 cases p with
 | z=>exact Q
 | s _ d=>exact d.lt.2
theorem Pth.st{n:ki}(p:Pth R a (n+1) k):k<(CC R).length:=by
 cases p with
 | s _ d=>exact d.lt.2
theorem Hp(G:aj R)(j:ki):j<(CC R).length->∃n,Pth R 0 n j:=by
 induction j using Nat.strongRecOn with
 | ind j y=>
  intro w
  cases(bR G).rch j _ (o2 w) with
  | z e=>subst e;exact⟨0,.z⟩
  | s i p x Q Y _ U e=>exact(y i Q (Mj Q w)).elim λn q=>⟨n+1,q.s ⟨p,Y,U,(o2 w).trans (dd aM e)⟩⟩
theorem BV{Q:Type}{l:cp Q}{m:ki}{f:ki->Q}(h:∀i,i<=m->f i∈l)(w:l.length<=m):∃i j,i<j/\j<=m/\f i=f j:=by
 refine Nw λy=>p7 (br (l:=(Lk (m+1)).map f) (m:=l) ?_ ?_) ?_
 ·refine Nm.mpr (Q5.imp_of_mem λ{a b} v Y z e=>y ⟨a,b,z,tc (LI.mp Y),e⟩)
 ·exact λx U=>(p9.mp U).elim λi e=>e.2▸h i (tc (LI.mp e.1))
 ·exact λq=>p7 (cy (p8 ((h7 f).trans LJ).symm) (cy q w)) (MR m)
theorem Pth.fn(p:Pth R a n k):∃f:ki->ki,f 0=a/\f n=k/\∀i,i<n->∃x,Ld R (f i) x (f (i+1)):=by
 induction p with
 | z=>exact⟨λU=>a,rfl,rfl,λi h=>p7 h (MD i)⟩
 | @s n j k x _ d w=>
  refine aA w λf y Y h=>?_
  refine⟨λi=>if i<=n then f i else k,(K2 (Lp _)).trans y,E1 (P3 n),λi Q=>?_⟩
  show ∃x,Ld R (if i<=n then f i else k) x (if i+1<=n then f (i+1) else k)
  rw[K2 (tc Q)]
  rcases LV (tc Q) with q | q
  ·rw[K2 (show i+1<=n from q)];exact h i q
  ·subst q;rw[E1 (P3 i)];exact⟨x,Y.symm▸d⟩
theorem Hq{f:ki->ki}{n:ki}(h:∀i,i<n->∃x,Ld R (f i) x (f (i+1)))(i:ki):∀m,i+m<=n->Pth R (f i) m (f (i+m)):=by
 intro m
 induction m with
 | zero=>exact λQ=>.z
 | succ m z=>exact λq=>(h (i+m) q).elim λx d=>(z (y1 q)).s d
theorem Pth.aft(U:0<(CC R).length)(p:Pth R 0 n k)(v:(CC R).length<=n):Afk R k:=by
 refine aA p.fn λf V J h=>?_
 have step:∀{a b},a<=b->b<=n->Pth R (f a) (b - a) (f b):=λ{a b} w o=>by
  have q:=Hq h a (b - a)
  rw[NB w] at q
  exact q o
 have O:∀i,i<=n->f i<(CC R).length:=λi y=>(step (Lp i) y).lt (V.symm▸U)
 refine aX (BV (f:=f) (l:=Lk (CC R).length) (m:=n) (λi y=>LI.mpr (O i y)) (cy (p8 LJ) v)) λi j Q Y e=>?_
 have c:=step (y1 Q) Y
 refine⟨f i,n - i,⟨j - i - 1,?_⟩,J▸step (cy (y1 Q) Y) (Lf n)⟩
 exact(MZ (Vh Q)).symm▸(e.symm▸c:Pth R (f i) (j - i) (f i))
theorem Pth.Hr{c:ki}(p:Pth R j (c+1) j):∀N,∃n,N<=n/\Pth R j n j:=by
 intro N
 induction N with
 | zero=>exact⟨0,Lf 0,.z⟩
 | succ N Q=>exact Q.elim λn q=>⟨n+(c+1),cy (Lw q.1) (Ls (Lw (Lp c)) n),q.2.t p⟩
theorem Afk.Hs(G:aj R)(a:Afk R k)(N:ki):∃h x,N<=h/\Ly R h x k:=by
 refine eC a λj m z q=>?_;obtain⟨c,p⟩:=z
 refine oE (Hp G j p.st) λn r=>?_
 refine oEA (p.Hr N) λy Q w=>?_
 refine oE (((r.t w).t q).ly) λx l=>?_
 exact⟨_,x,cy Q (cy (OV _ _) (LA _ _)),l⟩
inductive Gn(R:cp aE)(y:Lj):Lj->ki->Prop
 | z:Gn R y y 0
 | s {r p g:ki} {x:Lj}:Gn R y (lhs R r) g->(rhs R r)[p]?=aM x->x∈aC->Gn R y x (min 1 (g+p))
def Blw(R:cp aE)(x:Lj):Prop:=∃y w t,Sm R y w t/\w<=4/\Gn R y y 1/\∃g,Gn R y x g
theorem Gn.le(h:Gn R y x g):g<=1:=by
 cases h with
 | z=>exact Lp 1
 | s=>exact Qc _ _
theorem Gn.sm(s:Sm R y w t)(h:Gn R y x g):∃Q Y,Sm R x Q Y/\w+g<=Q:=by
 induction h with
 | z=>exact⟨w,t,s,Lf w⟩
 | s _ U v V=>
  refine eC V λQ Y s' h=>?_
  exact⟨_,_,s'.s U v,cy (Ls (PX _ _) w) (cy (p8 (NV _ _ _).symm) (MJ h _))⟩
theorem Gn.Hr(s:Sm R y w t)(h:Gn R y y 1):∀N,∃Q Y,Sm R y Q Y/\N<=Q:=by
 intro N
 induction N with
 | zero=>exact⟨w,t,s,Lp w⟩
 | succ N U=>
  refine eC U λQ Y v V=>?_
  refine eC (h.sm v) λk j J o=>?_
  exact⟨k,j,J,cy (Lw V) o⟩
theorem Blw.Hs(b:Blw R x)(N:ki):∃w t,Sm R x w t/\N<=w:=by
 refine su b λy w t s J z g Q=>?_
 refine eC (z.Hr s N) λo O Y U=>?_
 refine eC (Q.sm Y) λv V k j=>?_
 exact⟨v,V,k,cy U (cy (LA _ _) j)⟩
structure Mil(R:cp aE)(x:Lj)(w:ki)(f:ki->Lj):Prop where
 s:∀i,i<=w->∃t,Sm R (f i) i t
 g:∀i,i<=w->∃g,Gn R (f i) x g/\(i<w->g=1)
 m:∀i j,i<j->j<=w->Gn R (f i) (f j) 1
theorem Sm.mil(G:aj R)(s:Sm R x w t):∃f,Mil R x w f:=by
 induction s with
 | z=>exact⟨λk=>sP,λi h=>Nat.eq_zero_of_le_zero h▸⟨_,.z⟩,λi h=>⟨0,.z,λq=>p7 (rf q (Lp i)) (MR i)⟩,λi j q h=>p7 (rf q (cy h (Lp i))) (MR i)⟩
 | @s r p w t x s Y U J=>
  refine oE J λf M=>?_
  have o:p<2:=rf (kO.mp Y).1 (G.ln r)
  rcases LV (tc o) with q | q
  ·obtain rfl:=OH.mp q
   exact⟨f,M.s,λi h=>(M.g i h).elim λg e=>⟨_,e.1.s Y U,λq=>(VJ e.1.le).trans (e.2 q)⟩,M.m⟩
  ·subst q
   have Q:∀{i},i<=w->(if i<=w then f i else x)=f i:=λh=>K2 h
   have y:(if w+1<=w then f (w+1) else x)=x:=E1 (P3 w)
   have v:∀{i},i<=w->Gn R (f i) x 1:=λh=>(M.g _ h).elim λg e=>(Ta (OV 1 g))▸e.1.s Y U
   refine⟨λi=>if i<=w then f i else x,λi h=>?_,λi h=>?_,λi j q h=>?_⟩
   ·rcases LV h with h | h
    ·exact(Q (tc h)).symm▸M.s i (tc h)
    ·subst h;exact y.symm▸⟨_,s.s Y U⟩
   ·rcases LV h with h | h
    ·exact(Q (tc h)).symm▸⟨1,v (tc h),λk=>rfl⟩
    ·subst h;exact y.symm▸⟨0,.z,λq=>p7 q (MR _)⟩
   ·have V:i<=w:=tc (rf q h)
    refine LH (p:=λz=>Gn R z _ 1) (Q V) ?_
    rcases LV h with h | h
    ·exact LH (p:=λz=>Gn R (f i) z 1) (Q (tc h)) (M.m i j q (tc h))
    ·subst h;exact LH (p:=λz=>Gn R (f i) z 1) y (v V)
theorem Sm.blw(G:aj R)(s:Sm R x w t)(y:4<=w):Blw R x:=by
 refine oE (s.mil G) λf M=>?_
 refine aX (BV (f:=f) (l:=sP::aC) (m:=4) (λi U=>(M.s i (cy U y)).elim λt s=>s.nm.elim (λe=>e▸fp) (oo _)) (Lf 4)) λi j Q Y e=>?_
 refine oE (M.s i (cy (y1 Q) (cy Y y))) λt v=>?_
 refine oE (M.g i (cy (y1 Q) (cy Y y))) λg h=>?_
 exact⟨f i,i,t,v,cy (y1 Q) Y,(e▸M.m i j Q (cy Y y):Gn R (f i) (f i) 1),g,h.1⟩
theorem Eo(G:aj R){p:Pl}:(∃k q,Afk R k/\(CC R)[k]?=aM q/\p∈q)↔p∈ai R/\Blw R (lhs R p.1):=by
 constructor
 ·rintro⟨k,q,a,Q,y⟩
  refine eC (a.Hs G 6) λh x Y l=>?_
  refine qP (Du.of G l q Q p y) λz w t s e U=>?_
  exact⟨z,s.blw G (Nat.le_of_add_le_add_right (b:=2) (cy Y (cy (p8 e.symm) (Ls (cy (aJ.mp z).2 (G.ln _)) w))))⟩
 ·rintro⟨z,b⟩
  refine eC (b.Hs (CC R).length) λw t s Y=>?_
  refine aX ((Fj G).mpr ⟨z,w,t,s,rfl,rfl⟩) λk q l Q y=>?_
  exact⟨k,q,l.pth.aft (kO.mp (bR G).hd).1 (cy Y (LA _ _)),Q,y⟩
end
def iC(i:ki):CV:=.int i
theorem iL{i:ki}(h:iC i=iC j):i=j:=OK (CV.int.inj h)
theorem Ep(l:cp ki):okL (l.map iC):=okL.of (f:=iC) (p:=λz=>True) (d:=0) (λz z=>⟨rfl,Lf 0⟩) (Lp _) λz z=>trivial
theorem inI{H:CH}{a i:ki}{l:cp ki}(h:H.getL a=aM (l.map iC)):b9 H .isIn (.int i) (.ref a)=aM (decide (i∈l)):=inL (f:=iC) h (Ep l) rfl (Lp _) λz z=>iL
theorem o5{z:Type}{f:z->CV}(Q:∀a b,f a=f b->a=b){l:cp z}{a:z}:f a∈l.map f↔a∈l:=⟨λh=>(p9.mp h).elim λb e=>Q _ _ e.2▸e.1,LL⟩
theorem yq{Y:Type}{f:Y->CV}(k:∀a b,f a=f b->a=b)(Q:cp Knd)(U:pD Q=true){l m:cp Y}(v:∀a∈l,(f a).is (.tup Q)=true)(V:l.Nodup)(nm:m.Nodup)(h:∀a,a∈l↔a∈m):bY (l.map f)=bY (m.map f):=by
 have O:=io U
 have p:(m.map f).Perm (l.map f):=((Qr nm V).mpr λa=>(h a).symm).map f
 have z:∀y∈l.map f,y.is (.tup Q)=true:=λy w=>(p9.mp w).elim λa e=>e.2▸v a e.1
 exact(eN O z ((bW _).trans p) (gB O λy w=>z y (p.mem_iff.mp w))).symm
theorem o6{x:CV}:x∈bY l↔x∈l:=(bW l).mem_iff
theorem BW{z:Type}{l Q:cp z}(h:l <+: Q){k:ki}{a:z}(e:l[k]?=aM a):Q[k]?=aM a:=h.elim λw q=>q▸(Nl (kO.mp e).1).trans e
theorem BX{z:Type}{l Q:cp z}(h:l <+: Q){k:ki}{a:z}(w:k<l.length)(e:Q[k]?=aM a):l[k]?=aM a:=h.elim λy q=>(Nl w).symm.trans (q▸e)
theorem lw{z:Type}{r:cp z}{m:ki}{x:z}(e:r[m]?=aM x):r.take (m+1)=r.take m++[x]:=Mr.trans (dd (r.take m++·) (dd Za e))
def Lo(k:ki)(z L:EN):Prop:=∀i,OC i k=true->L i=z i
theorem Lo.up{j:ki}(h:Lo k z L)(w:Oc k j=true:=by rfl):Lo k z (upd L j v):=λi Q=>(a6 (Lu (rf (Qy.mp Q) (OA.mp w)))).trans (h i Q)
theorem Lo.t(h:Lo k z Q)(h':Lo j Q w)(Y:Oc k j=true:=by rfl):Lo k z w:=λi y=>(h' i (Qy.mpr (rf (Qy.mp y) (OA.mp Y)))).trans (h i y)
theorem Lo.r:Lo k L L:=λz z=>rfl
section
variable{z:PT}{l:cp CS}{L:EN}{H H0:CH}{Q:NE}{X:No}{α β:Type}{P:Par}{t0 t1 ty:TY}{c j k:ki}{f:β->CV}
inductive OwL(H0:CH)(t0:TY)(P:Par)(f:β->CV)(c:ki)(t1:TY)(k:ki)(L0:EN)(C:cp β->Prop)(H:CH)(L:EN):Prop
 | mk (l:cp β) (ty:TY) (N:Now H0 t0 P ty H) (hc:ty c=aM (.ak (l.map f))) (q:Kp c t1 ty) (F:C l) (s:Lo k L0 L)
inductive VaL(H0:CH)(t0:TY)(P:Par)(f:β->CV)(j:ki)(t1:TY)(E:EN->Prop)(C:cp β->Prop)(H:CH)(L:EN):Prop
 | mk (c:ki) (l:cp β) (ty:TY) (N:Now H0 t0 P ty H) (hc:ty c=aM (.ak (l.map f))) (q:Ka t1 ty) (F:C l) (s:E L) (lj:L j=aM (.ref c))
theorem frO{ys:cp α}(O:ki->It)(w:ki->α->CV)(o:ki->α->EN->EN)(p:∀i y L,de L t (w i y)=aM (o i y L))(D:∀x:It->St->Prop,x (O 0) ⟨H,L⟩->wpI z M Y ⟨H,L⟩ x X)(k:ki)(E:∀i y U,Lo k L U->Lo k L (o i y U))(C:ki->cp β->Prop){g:cp β}
(N:Now H0 t0 P ty H)(V:ty c=aM (.ak (g.map f)))(q:Kp c t1 ty)(I:C 0 g)(d:∀i H ty,Now H0 t0 P ty H->Kp c t1 ty->(O i).next H=aM (ys[i]?.map λy=>(w i y,O (i+1))))
(m:∀i y v U K l ty,ys[i]?=aM y->(∀{B n a J},Now H0 t0 P J B->J c=aM (.ak (a.map f))->Kp c t1 J->C (i+1) a->Lo k L n->K .next ⟨B,n⟩)->Now H0 t0 P ty v->ty c=aM (.ak (l.map f))->Kp c t1 ty->C i l->Lo k L (o i y U)->ae z M b ⟨v,o i y U⟩ K FX)
(r:∀v U A ty,Now H0 t0 P ty v->ty c=aM (.ak (A.map f))->Kp c t1 ty->C ys.length A->Lo k L U->ae z M l ⟨v,U⟩ Q X):ae z M (.fr t Y b []::l) ⟨H,L⟩ Q X:=
 frS O w o p D (λi=>OwL H0 t0 P f c t1 k L (C i)) ⟨g,ty,N,V,q,I,.r⟩ (λi H L h=>h.casesOn λT ty N T q T T=>d i H ty N q) (λi y v U K R h S=>h.casesOn λl ty N V q F s=>m i y v U K l ty R (λN V q F s=>S.nxt ⟨_,_,N,V,q,F,s⟩) N V q F (E i y U s)) λv U h=>h.casesOn λl ty N V q F s=>W.nil (r v U l ty N V q F s)
theorem frV{ys:cp α}(g:ki->It)(w:ki->α->CV)(O:ki->α->EN->EN)(T:∀i y L,de L t (w i y)=aM (O i y L))(I:∀B:It->St->Prop,B (g 0) ⟨H,L⟩->wpI z M Y ⟨H,L⟩ B X)(E:EN->Prop)(d:E L)(m:∀i y U,E U->E (O i y U))(C:ki->cp β->Prop){l0:cp β}
(N:Now H0 t0 P ty H)(V:ty c=aM (.ak (l0.map f)))(q:Ka t1 ty)(r:C 0 l0)(J:L j=aM (.ref c))(R:∀i H ty,Now H0 t0 P ty H->Ka t1 ty->(g i).next H=aM (ys[i]?.map λy=>(w i y,g (i+1))))
(S:∀i y v U K c l ty,ys[i]?=aM y->(∀{n x a A o},Now H0 t0 P o n->o a=aM (.ak (A.map f))->Ka t1 o->C (i+1) A->E x->x j=aM (.ref a)->K .next ⟨n,x⟩)->Now H0 t0 P ty v->ty c=aM (.ak (l.map f))->Ka t1 ty->C i l->E (O i y U)->U j=aM (.ref c)->ae z M b ⟨v,O i y U⟩ K FX)
(Z:∀v U c D ty,Now H0 t0 P ty v->ty c=aM (.ak (D.map f))->Ka t1 ty->C ys.length D->E U->U j=aM (.ref c)->ae z M l ⟨v,U⟩ Q X):ae z M (.fr t Y b []::l) ⟨H,L⟩ Q X:=
 frS g w O T I (λi=>VaL H0 t0 P f j t1 E (C i)) ⟨c,l0,ty,N,V,q,r,d,J⟩ (λi H L h=>h.casesOn λp p ty N p q p p p=>R i H ty N q) (λi y v U K G h u=>h.casesOn λc l ty N V q F s J=>S i y v U K c l ty G (λN V q F s J=>u.nxt ⟨_,_,_,N,V,q,F,s,J⟩) N V q F (m i y U s) J) λv U h=>h.casesOn λc l ty N V q F s J=>W.nil (Z v U c l ty N V q F s J)
theorem frU(J:β->EN->EN)(o:∀y L,de L t (f y)=aM (J y L))(A:Ev L H e (.ref c))(k:ki)(D:∀y w,Lo k L w->Lo k L (J y w))(B:ki)(C:ki->cp β->Prop){O:cp β}(E:∀i l,C i l->l.length<=B)(g:∀i l,C i l->i<=l.length)
(N:Now H0 t0 P ty H)(U:ty c=aM (.ak (O.map f)))(q:Kp c t1 ty)(I:C 0 O)
(d:∀i y v w K l ty,(∀{T x n V},Now H0 t0 P V T->V c=aM (.ak (n.map f))->Kp c t1 V->C (i+1) n->Lo k L x->K .next ⟨T,x⟩)->Now H0 t0 P ty v->ty c=aM (.ak (l.map f))->Kp c t1 ty->C i l->l[i]?=aM y->Lo k L (J y w)->ae z M b ⟨v,J y w⟩ K FX)
(m:∀v w p ty,Now H0 t0 P ty v->ty c=aM (.ak (p.map f))->Kp c t1 ty->C p.length p->Lo k L w->ae z M l ⟨v,w⟩ Q X):ae z M (.fr t (.val e) b []::l) ⟨H,L⟩ Q X:=
 frG (λi=>.list c i) (λa y=>f y) (λa y L=>J y L) (λa=>o) (bp A (N.T.gL U)) B (λi=>OwL H0 t0 P f c t1 k L (C i)) ⟨O,ty,N,U,q,I,.r⟩ λi v w h=>h.casesOn λl ty N U q F s=>
  ⟨cy (g i l F) (E i l F),l[i]?,ax (N.T.gL U),λh=>W.nil (m v w l ty N U q (ME (g i l F) (LS.mp h)▸F) s),λy r K R=>d i y v w K l ty (λN U q F s=>R.nxt ⟨_,_,N,U,q,F,s⟩) N U q F r (D y w s)⟩
end
inductive Led(V:cp (cp ki))(l0:cp ki):ki->Prop
 | b {k:ki}:k∈l0->Led V l0 k
 | s {j k:ki} {r:cp ki}:Led V l0 j->V[j]?=aM r->k∈r->Led V l0 k
structure LdF(V:cp (cp ki))(l0:cp ki)(i:ki)(l:cp ki):Prop where
 nd:l.Nodup
 sub:∀k∈l,k<V.length
 led:∀k∈l,Led V l0 k
 base:∀k∈l0,k∈l
 le:i<=l.length
 dn:∀m j r,m<i->l[m]?=aM j->V[j]?=aM r->∀k∈r,k∈l
structure LdR(V:cp (cp ki))(l0:cp ki)(i:ki)(l1 r:cp ki)(m:ki)(l:cp ki):Prop where
 F:LdF V l0 i l
 pre:l1 <+: l
 d:∀k∈r.take m,k∈l
section
variable{l z r:cp ki}{k:ki}
theorem LdF.len(h:LdF V l0 i l):l.length<=V.length:=cy (br h.nd λk Q=>LI.mpr (h.sub k Q)) (p8 LJ)
theorem LdF.add(h:LdF V l0 i l)(Q:k<V.length)(y:Led V l0 k)(Y:k∉l):LdF V l0 i (l++[k]):=
 ⟨cQ h.nd Y,cC h.sub Q,cC h.led y,λk Q=>LD _ (h.base k Q),cy h.le (GE▸LA _ _),λm j r w U v k Q=>LD _ (h.dn m j r w (BX (Qq _ _) (rf w h.le) U) v k Q)⟩
theorem LdR.next(h:LdR V l0 i z r m l)(y:r[m]?=aM k)(Y:LdF V l0 i Q)(w:l <+: Q)(U:k∈Q):LdR V l0 i z r (m+1) Q:=
 ⟨Y,h.pre.trans w,λx v=>(LB.mp (lw y▸v)).elim (λq=>w.subset (h.d x q)) λq=>n2.mp q▸U⟩
theorem LdR.fin(h:LdR V l0 i z r r.length l)(Q:z[i]?=aM j)(Y:V[j]?=aM r):LdF V l0 (i+1) l:=
 ⟨h.F.nd,h.F.sub,h.F.led,h.F.base,rf (kO.mp Q).1 h.pre.length_le,λm U v J w y=>(LV (tc J)).elim (λq=>h.F.dn m U v q w y) λq k o=>by
  subst q
  obtain rfl:=ey ((BW h.pre Q).symm.trans w)
  obtain rfl:=ey (Y.symm.trans y)
  exact h.d k (Mh.symm▸o)⟩
theorem LdF.all(h:LdF V l0 l.length l)(Q:Led V l0 k):k∈l:=by
 induction Q with
 | b y=>exact h.base _ y
 | s _ e Q Y=>exact(Mm.mp Y).elim λm w=>h.dn m _ _ (kO.mp w).1 w e _ Q
end
structure cD{α:Type}(f:α->CV)(ty:TY)(a:ki)(bs:cp ki)(V:cp (cp α)):Prop where
 a:ty a=aM (.ak (bs.map .ref))
 w:cB (λb r=>ty b=aM (.ak (r.map f))) bs V
section
variable{P:Par}{z U:TY}{H:CH}{n a:ki}{Q:Rs}{w:cp ki}
theorem cD.ay{α:Type}{f:α->CV}{V:cp (cp α)}(h:cD f Y a bs V)(k:Ka Y z):cD f z a bs V:=⟨k _ _ h.a,h.w.mono λy y=>k _ _⟩
theorem cD.at{α:Type}{f:α->CV}{V:cp (cp α)}(h:cD f Y a bs V)(T:au P Y H){j:ki}{r:cp α}(e:V[j]?=aM r):∃b,Y b=aM (.ak (r.map f))/\eD H (.ref a) (.int j)=aM (.ok (.ref b)):=
 (h.w.sG e).elim λb q=>⟨b,q.2,eQ (T.gL h.a) q.1⟩
theorem Jv(N:Now v U P Y H)(S:cD iC Y a bs V){b:ki}(hb:Y b=aM (.ak (w.map iC)))(hz:V.length<=109603)(hW:∀r∈V,∀k∈r,k<V.length)(h0:∀k∈w,k<V.length)(nd:w.Nodup)
(hQ:∀c (l:cp ki) z X,Now v U P z X->z c=aM (.ak (l.map iC))->K1 c Y z->l.Nodup->(∀k,k∈l↔Led V w k)->Q (.ref c) X):ah fF mF (n+1) 497 [.ref a,.ref b] H Q:=by
 refine bK [.ref a,.ref b] (d:=p0) rfl rfl rfl rfl λFQ g J=>?_
 have Z:LdF V w 0 w:=⟨nd,h0,λk hk=>.b hk,λJ h=>h,Lp _,λm J J h=>p7 h (MD m)⟩
 have t:∀{i l},LdF V w i l->(l.map iC).length<szl:=λ{i l} F=>(h7 iC).symm▸b5 (cy F.len hz) rfl
 refine W.GU N (.v rfl) (N.T.gL hb) (y1 (t Z)) λc t1 H1 N1 e cF T=>?_
 refine frU (t1:=t1) (λy L=>upd L 3 (iC y)) (λJ J=>rfl) (.v rfl) 3 (λJ J h=>h.up) V.length (LdF V w) (λJ J F=>F.len) (λJ J F=>F.le) N1 e .r Z ?_ λG L2 l u x p q2 F s=>W.ret (.v (s 2 rfl)) (g (hQ c l u G x p (λa ρ h=>⟨q2 _ _ (T _ _ h).2 (T _ _ h).1,(T _ _ h).2⟩) F.nd λk=>⟨F.led k,F.all⟩))
 intro i j G L2 K l u hK x p q2 F hj s
 have C:=od hj
 obtain⟨r,E⟩:∃r,V[j]?=aM r:=⟨_,o2 (F.sub j C)⟩
 refine oEA (S.w.sG E) λd hd gd=>?_
 have S1:=T _ _ S.a
 have O:=T _ _ gd
 exact frO (ys:=r) (f:=iC) (t1:=t1) (λi=>.list d i) (λJ y=>iC y) (λJ y L=>upd L 4 (iC y)) (λJ J J=>rfl) (bp (.ix (.v (s 0 rfl)) (.v rfl) (eQ (x.T.gL (q2 _ _ S1.2 S1.1)) hd)) (x.T.gL (q2 _ _ O.2 O.1))) 4 (λJ J J h=>h.up) (LdR V w i l r) x p q2 ⟨F,PJ l,aO⟩ (λJ J J N q=>ax (N.T.gL (q _ _ O.2 O.1)))
  (λm y H3 L3 K3 l3 t3 I B A o M D f=>W.rX (.cm (.v rfl) (.v ((f 2 rfl).trans (s 2 rfl))) (lh (inI (A.T.gL o)))) (λhn=>W.f7 A cF o (.v ((f 2 rfl).trans (s 2 rfl))) (.v rfl) (t D.F) λt4 H4 N4 R k4=>W.nil (B N4 (by erw[LP];exact R) (M.t k4) (D.next I (D.F.add (hW r (od E) y (od I)) ((F.led j C).s E (od I)) hn) (Qq _ _) (Ll _ fp)) f)) λhm=>W.nil (B A o M (D.next I D.F (PJ _) hm) f))
  λH3 L3 l3 t3 A o M D f=>hK A o M (D.fin hj E) (s.t f)
end
section
variable{w:PT}{U:Type}{H:CH}{L:EN}{z:CE}{P:Par}{a b c k i:ki}{f g:U->CV}{l r Q:cp U}{X:No}
theorem coF{Q:Ps}(h:Ev L H e (.ref b))(O:H.getL b=aM (r.map f))(x:r.length<szl)(p:U->LG)(g:U->CV)(V:EN->Prop)(C:V L)(B:∀L y,V L->V (upd L k y))(o:∀L y,V L->y∈r->Ev (upd L k (f y)) H v (.bool (p y)))(n:∀L y,y∈r->Ev (upd L k (f y)) H z (g y))
(N:∀c,H.free c->Q (.ref c) ⟨H.aD c ((r.filter p).map g),L⟩):wpE w M (.co z (.n k) (.val e) [v]) ⟨H,L⟩ Q X:=
 coP (λi=>.list b i) (λJ y=>f y) (λJ y L=>upd L k (f y)) (λJ J J=>rfl) (bp h O) (λi=>ax O) x (λJ=>p) (λJ=>g) V C (λi y L t T=>⟨B _ _ T,KE (o L y T (od t)),λJ=>n L y (od t)⟩) λc o=>by
  erw[oj (p:=p) (g:=g)];exact N c o
theorem Jw{st:St}{Q:Ps}(h:st.H.getL a=aM m)(y:st.H.getL b=aM m')(J:m.length+m'.length<=szl)(r:∀c,st.H.free c->Q (.ref c) { st with H:=st.H.aD c (m++m') }):opV .add (.ref a) (.ref b) st Q:=⟨_,_,h,y,J,r⟩
theorem opE{Q:Ps}(h:Ev L H J x)(r:wpE w M O ⟨H,L⟩ (λy st=>opV o x y st Q) X):wpE w M (.op o J O) ⟨H,L⟩ Q X:=h _ _ _ _ r
theorem W.Ht{Q:NE}{l m:cp CV}(N:Now V j P Y H)(n:L i=aM (.ref c))(A:Y c=aM (.ak l))(D:l.length+m.length<=szl)
(E:∀x:CV->St->Prop,(∀c,H.free c->x (.ref c) ⟨H.aD c m,L⟩)->wpE w M (.co e t T J) ⟨H,L⟩ x X)
(I:∀d y C,Now V j P y C->y d=aM (.ak (l++m))->K1 d Y y->ae w M s ⟨C,upd L i (.ref d)⟩ Q X):ae w M (.asg (.n i) (.op .add (.v i) (.co e t T J))::s) ⟨H,L⟩ Q X:=
 W.se (opE (.v n) (E _ λF o=>N.nL (G:=λH=>opV .add (.ref c) (.ref F) ⟨H,L⟩ λv st=>ae w M s ⟨st.H,upd st.L i v⟩ Q X) o λt1 z O R S p=>Jw (O.T.gL (p _ _ A).1) (O.T.gL R) D λd Z=>
  O.nL (G:=λH=>ae w M s ⟨H,upd L i (.ref d)⟩ Q X) Z λK G u q S B=>I d K G u q λa U h=>⟨(B _ _ (p _ _ h).1).1,(B _ _ (p _ _ h).1).2⟩))
theorem vO{n m:ki}(h:n+m<=1000000):n+m<=szl:=y1 (b5 h rfl)
theorem W.Jx[Sh U]{Q:NE}(N:Now V j P Y H)(T:L i=aM (.ref c))(C:Y c=aM (.ak (l.map f)))(h:Ev L H e (.ref b))(A:H.getL b=aM (r.map f))(o:i≠k)(O:∀a b,f a=f b->a=b)(pd:∀y,y∈l∨y∈r->(f y).pure=true/\(f y).depth<=1)(B:l.length+r.length<=1000000)
(D:∀d J n,Now V j P J n->J d=aM (.ak ((l++r.filter λy=>!decide (y∈l)).map f))->K1 d Y J->ae w M s ⟨n,upd L i (.ref d)⟩ Q X):ae w M (.asg (.n i) (.op .add (.v i) (.co (.v k) (.n k) (.val e) [.cm .cu (.v k) (.v i)]))::s) ⟨H,L⟩ Q X:=
 W.Ht (m:=(r.filter λy=>!decide (y∈l)).map f) N T C (vO (by rw[h7,h7];exact cy (Ls (NI _ _) _) B)) (λZ E=>coF h A (b5 (cy (OV _ _) B) rfl) (λy=>!decide (y∈l)) f (λL=>L i=aM (.ref c)) T (λL y p=>(a6 o).trans p) (λL y p t=>.cm (.v bg) (.v ((a6 o).trans p)) (lh (inL (N.T.gL C) (okL.of pd (by decide) λx I=>.inl I) (pd y (.inr t)).1 (cy (pd y (.inr t)).2 (by decide)) λz K e=>O _ _ e))) (λL y t=>.v bg) E) λd t1 m F R S=>D d t1 m F (R.trans (dd (λl=>aM (aK.ak l)) LP.symm)) S
end
theorem BY{z:Type}[Sh z]{l r:cp z}(Q:l.Nodup)(w:r.Nodup):(l++r.filter λy=>!decide (y∈l)).Nodup:=
 M8.mpr ⟨Q,w.filter _,λa Y b U e=>p7 (e▸Y:b∈l) (QM ((Vc _).mp (MC.mp U).2))⟩
theorem xj{z:Type}[Sh z]{l r:cp z}{x:z}:x∈(l++r.filter λy=>!decide (y∈l))↔x∈l∨x∈r:=by
 rw[LB,MC]
 by_cases h:x∈l
 ·exact⟨λQ=>.inl h,λQ=>.inl h⟩
 ·exact R6 (and_iff_left (dd (!·) (LQ h)))
theorem sg{z:Type}{V:cp z}{p:z->Prop}{i:ki}{r:z}(w:V[i]?=aM r):(∃r∈V.take (i+1),p r)↔(∃r∈V.take i,p r)∨p r:=by
 rw[lw w]
 exact⟨λh=>h.elim λQ q=>(LB.mp q.1).imp (λh=>⟨Q,h,q.2⟩) λh=>(show Q=r from n2.mp h)▸q.2,λh=>h.elim (λh=>h.imp λr q=>⟨LD _ q.1,q.2⟩) λh=>⟨r,Ll _ fp,h⟩⟩
section
variable{α:Type}{P:Par}{z w:TY}{H:CH}{n a:ki}{Q:Rs}{U:cp ki}{V:cp (cp α)}{f:α->CV}
theorem Fk[Sh α](t:cp Knd)(hk:pD t=true)(T:∀a b,f a=f b->a=b)(N:Now Y w P z H)(S:cD f z a U V)(e:∀r∈V,r.Nodup)(C:∀r∈V,∀x∈r,((f x).pure=true/\(f x).depth<=1)/\(f x).is (.tup t)=true)(B:∀l:cp α,l.Nodup->(∀x∈l,∃r∈V,x∈r)->l.length<64)
(hQ:∀c (l:cp α) j F,Now Y w P j F->j c=aM (.ak (bY (l.map f)))->Ka z j->l.Nodup->(∀x,x∈l↔∃r∈V,x∈r)->Q (.ref c) F):ah fF mF (n+1) 502 [.ref a] H Q:=by
 refine bK [.ref a] (d:=n0) rfl rfl rfl rfl λFQ o v=>?_
 refine W.jh N .nil λc t1 H1 R gc cF X=>?_
 have all:∀{i:ki} {l:cp α},(∀x,x∈l↔∃r∈V.take i,x∈r)->∀x∈l,∃r∈V,x∈r:=λm x O=>((m x).mp O).imp λr h=>⟨P1 h.1,h.2⟩
 refine frV (ys:=U) (t1:=z) (j:=1) (f:=f) (λi=>.list a i) (λv b=>.ref b) (λv b L=>upd L 2 (.ref b)) (λv v v=>rfl) (bp (.v rfl) (R.T.gL (X _ _ S.a).1)) (Lo 1 _) .r (λv v v h=>h.up) (λi l=>l.Nodup/\∀x,x∈l↔∃r∈V.take i,x∈r) (l0:=[]) R gc X.aa ⟨.nil,λx=>⟨λh=>p7 h Le,λh=>h.elim λv h=>p7 h.1 Le⟩⟩ rfl (λi H z N q=>ax (N.T.gL (q _ _ S.a))) ?_ ?_
 ·intro i b H2 Z K c l t2 hb hK p J g m s A
  refine oEA (S.w.get hb) λr G gr=>?_
  have k:=od G
  exact W.Jx p A J (.v rfl) (p.T.gL (g _ _ gr)) (by decide) T (λy D=>D.elim (λh=>(all m.2 y h).elim λr h=>(C r h.1 y h.2).1) λh=>(C r k y h).1) (cy (LY (y1 (B l m.1 (all m.2))) (y1 (B r (e r k) λx O=>⟨r,k,O⟩))) (by decide)) λd u H3 E I M=>hK E I (g.t M.aa) ⟨BY m.1 (e r k),λx=>xj.trans ((SA (m.2 x)).trans (sg (p:=(x∈·)) G).symm)⟩ s.up rfl
 ·intro H2 Z c l t2 p J g m s A
  rw[S.w.len,Mh] at m
  exact W.vv (rW (Ev.go (.v A) ⟨c,l.map f,t,rfl,p.T.gL J,h7 (as:=l) f▸B l m.1 λx O=>(m.2 x).mp O,hk,λy D=>(p9.mp D).elim λx h=>h.2▸((m.2 x).mp h.1).elim λr q=>(C r q.1 x q.2).2,λd hd=>
   p.nL (G:=λH=>FQ (.ret (.ref d)) ⟨H,Z⟩) hd λu H3 E I v M=>o (hQ d l u H3 E I (g.t M.aa) m.1 m.2)⟩))
end
def leC(p:Lj×ki):CV:=.tup [.str p.1,.int p.2]
theorem dD(h:CV.tup (x::l)=.tup (y::m)):x=y/\CV.tup l=.tup m:=⟨(NH (CV.tup.inj h)).1,dd _ (NH (CV.tup.inj h)).2⟩
theorem mH(a b:Lj×ki)(h:leC a=leC b):a=b:=MX (CV.str.inj (dD h).1) (iL (dD (dD h).2).1)
theorem Hu{p:Lj×ki}(h:aZ p.1):(leC p).is (.tup [.str,.int])=true:=rv.mpr ⟨h,rfl⟩
theorem lz{p:Lj×ki}(h:aZ p.1):(leC p).pure=true/\(leC p).depth<=1:=⟨rv.mpr ⟨h,rfl⟩,e0 rfl⟩
theorem of_map{z Q:Type}{f:z->Q}{l:cp Q}:(∀v∈l,∃a,v=f a)->∃m:cp z,l=m.map f:=by
 induction l with
 | nil=>exact λV=>⟨[],rfl⟩
 | cons v l y=>exact λh=>(h v fp).elim λx e=>(y λw Y=>h w (oo _ Y)).elim λm U=>⟨x::m,e▸U▸rfl⟩
theorem si{α:Type}{f:α->CV}(z:∀a b,f a=f b->a=b){l:cp α}:∃m:cp α,bY (l.map f)=m.map f/\(l.Nodup->m.Nodup)/\(∀x,x∈m↔x∈l)/\m.length=l.length:=by
 refine oE (of_map (l:=bY (l.map f)) λv Q=>(p9.mp (o6.mp Q)).imp λa h=>h.2.symm) λm e=>?_
 have p:(m.map f).Perm (l.map f):=e▸bW _
 exact⟨m,e,λw=>(Nm.mp (p.nodup_iff.mpr (Nm.mpr (w.imp λh q=>h (z _ _ q))))).imp λh q=>h (dd f q),λx=>(o5 z).symm.trans (p.mem_iff.trans (o5 z)),(h7 f).symm.trans (p.length_eq.trans (h7 f))⟩
section
variable{Q:PT}{H:CH}{L:EN}{a n:ki}{z:cp (CV×CV)}{X:No}
theorem o7(h:H.dct a=aM z)(w:z.length=n)(y:z.all (λp=>isS p.1)=true):(It.ei a n i).next H=aM (z[i]?.map λp=>(.tup [p.1,p.2],.ei a n (i+1))):=
 (dd (OZ · _) h).trans (K2 ⟨w,y⟩)
theorem un(h:Ev L H e (.ref a))(g:H.dct a=aM z)(y:z.all (λp=>isS p.1)=true)(w:Sc)(r:w (.ei a z.length 0) ⟨H,L⟩):wpI Q M (.ai e) ⟨H,L⟩ w X:=h _ _ _ _ ⟨a,z,rfl,g,z,g,y,r⟩
end
def enT(p:CV×CV):CV:=.tup [p.1,p.2]
def enP(p:Lj×ki):CV×CV:=(.str p.1,.int p.2)
def lA(p:CV×CV):Bool:=p.2.cf false λi=>decide (0<i)
section
variable{q:cp Pl}{j:ki}{es:cp (CV×CV)}{p:CV×CV}{D:cp Lj}
theorem sj(z:(es.map (·.1)).Nodup)(h:∀p∈es,∃x∈D,p.1=.str x):es.length<=D.length:=by
 have:=br z (m:=D.map .str) λx Q=>(p9.mp Q).elim λp q=>(h p q.1).elim λy e=>q.2▸e.2▸LL e.1
 rwa [h7,h7] at this
theorem BZ(h:∀p∈es,∃x∈D,p.1=.str x):es.all (λp=>isS p.1)=true:=M5.mpr λp z=>(h p z).elim λx e=>e.2▸rfl
theorem pC.k(g:pC R q es):∀p∈es,∃x∈aC,p.1=.str x:=λp z=>(g.ky p z).imp λx h=>⟨h.1,h.2.1⟩
theorem kD.k(g:kD R q es):∀p∈es,∃x∈laS,p.1=.str x:=λp z=>(g.ky p z).imp λx h=>⟨h.1,h.2.1⟩
theorem pC.ld(g:pC R q es)(z:(CC R)[j]?=aM q)(Q:p∈es):∃y,p=enP y/\Ld R j y.1 y.2:=by
 refine vU (g.ky p Q) λx V w Y k U v=>?_
 exact⟨(x,k),MX w v,q,z,Y,U⟩
theorem kD.ld(g:kD R q es)(w:(CC R)[j]?=aM q)(z:p∈es.filter lA):∃y,p=enP y/\Ld R j y.1 y.2:=by
 refine oA (MC.mp z) λz Y=>?_
 refine qQ (g.ky p z) λx O U i Q V=>?_
 refine xo (V (p6 (show decide (0<i)=true from(dd (λv:CV=>v.cf false λi=>decide (0<i)) Q).symm.trans Y))) λJ k o e=>?_
 exact⟨(x,k),MX U (Q.trans (dd CV.int e)),q,w,J,o⟩
theorem Jy(G:aj R)(g:pC R q es)(a:kD R q es')(U:(CC R)[j]?=aM q){y:Lj×ki}(h:Ld R j y.1 y.2):enP y∈es++es'.filter lA:=by
 refine aA h λL v z Y=>?_
 obtain rfl:=ey (U.symm.trans v)
 refine oE (Ot _ z) λp V=>?_
 refine aA (bv.mp V) λd J J o=>?_
 refine(vq (G.sym _ _ (od o))).elim (λO=>?_) λf=>?_
 ·refine aA (a.sh y.1 O z) λk l Q w=>?_
  obtain rfl:=vL G Y Q
  exact Ll _ (MC.mpr ⟨du w,Ln (Ni.mpr l)⟩)
 ·refine oEA (g.go y.1 f z) λk Q w=>?_
  obtain rfl:=vL G Y Q
  exact LD _ (du w)
theorem Ld.sy(G:aj R)(d:Ld R j x k):x∈bm:=by
 refine aA d λq z Q z=>?_
 refine oE (Ot _ Q) λp w=>?_
 refine aA (bv.mp w) λz z z y=>?_
 exact G.sym _ _ (od y)
theorem Hv:∀x∈laS,x∉aC:=by decide
theorem B0{es:cp (CV×CV)}(h:(es.map (·.1)).Nodup):es.Nodup:=(Nm.mp h).imp λh e=>h (dd _ e)
theorem B2(G:aj R)(g:pC R q es)(a:kD R q es')(U:(CC R)[j]?=aM q):∃m:cp (Lj×ki),bY ((es++es'.filter lA).map enT)=m.map leC/\m.Nodup/\(∀x k,(x,k)∈m↔Ld R j x k)/\m.length<=8:=by
 have ld:∀p∈es++es'.filter lA,∃y,p=enP y/\Ld R j y.1 y.2:=λp Q=>(LB.mp Q).elim (g.ld U) (a.ld U)
 have v:=cy (p8 GE) (LY (sj g.nd g.k) (cy (NI lA es') (sj a.nd a.k)))
 have V:(es++es'.filter lA).Nodup:=M8.mpr ⟨B0 g.nd,(B0 a.nd).filter _,λp Q r f e=>(g.k p Q).elim λx J=>(a.k r (MC.mp f).1).elim λy o=>Hv y o.1 (CV.str.inj (o.2.symm.trans ((dd PZ e).symm.trans J.2))▸J.1)⟩
 have z:∀{y:Lj×ki},Ld R j y.1 y.2->enP y∈es++es'.filter lA:=Jy G g a U
 revert ld v V z
 generalize es++es'.filter lA=E
 intro ld v V z
 refine oE (of_map λp Q=>(ld p Q).imp λl h=>h.1) λO w=>?_;subst w
 refine jy (si mH (l:=O)) λm em nm L t=>?_
 have Y:∀a b,enP a=enP b->a=b:=λa b e=>MX (CV.str.inj (dd PZ e)) (iL (dd PY e))
 refine⟨m,(dd bY Nt).trans em,nm ((Nm.mp V).imp λh e=>h (dd _ e)),λx k=>(L _).trans ⟨λh=>?_,λh=>(p9.mp (z (y:=(x,k)) h)).elim λl e=>Y _ _ e.2▸e.1⟩,t▸h7 (as:=O) enP▸v⟩
 refine oEA (ld _ (LL h)) λy e T=>?_
 obtain rfl:=Y _ _ e
 exact T
end
section
variable{P:Par}{w:TY}{H U:CH}{n t j:ki}{Q:Rs}{q:cp Pl}
theorem Hw(G:aj P.R)(N:Now U Y P w H)(M:w t=aM .table)(o:iK P.R w s P.acE P.goE)(B:j<s)(A:(CC P.R)[j]?=aM q)
(hQ:∀c (m:cp (Lj×ki)) f H',Now U Y P f H'->f c=aM (.ak (m.map leC))->Ka w f->m.Nodup->(∀x k,(x,k)∈m↔Ld P.R j x k)->m.length<=8->Q (.ref c) H'):ah fF mF (n+1) 490 [.ref t,.int j] H Q:=by
 refine bK [.ref t,.int j] (d:=lR) rfl rfl rfl rfl λFQ D V=>?_
 refine aX (o.go j q B A) λb1 r g1 g2 E=>?_
 refine aX (o.ac j q B A) λb2 e2 a1 a2 C=>?_
 have i1:=BZ E.k
 have i2:=BZ C.k
 have z1:=sj E.nd E.k
 refine W.se (coM (λi=>.ei b1 r.length i) (λV p=>enT p) (λ_ (p:CV×CV) L=>upd (upd L 3 p.1) 4 p.2) (λV V V=>rfl) (un (.ix (.att (.v rfl) (N.T.tat M (N.T.tb M).a32.1)) (.v rfl) (getD N.T (lu N.T M).2 rfl g1)) (N.T.D g2) i1) (λi=>o7 (N.T.D g2) rfl i1) (b5 z1 rfl) enT (λi p L hp=>.tu (.two (.v rfl) (.v rfl))) λc hc=>?_)
 refine N.nL (G:=λH=>ae (ah fF mF n) mF _ ⟨H,_⟩ FQ FX) hc λt1 H1 b gc cF R=>?_
 have g:=(R _ _ M).1
 have T:=R _ _ a2
 refine frO (ys:=e2) (f:=enT) (λi=>.ei b2 e2.length i) (λV p=>enT p) (λ_ (p:CV×CV) L=>upd (upd L 5 p.1) 6 p.2) (λV V V=>rfl) (un (.ix (.att (.v rfl) (b.T.tat g (b.T.tb g).a31.1)) (.v rfl) (getD b.T (lu b.T g).1 rfl a1)) (b.T.D T.1) i2) 3 (λV V V h=>h.up.up) (λi l=>l=r++(e2.take i).filter lA) b gc .r (by rw[take_zero,SU,Mp]) (λi H w N q=>o7 (N.T.D (q _ _ T.2 T.1)) rfl i2) ?_ ?_
 ·intro i p H2 L2 K l t2 S hK I J X F s
  have O:r++(e2.take (i+1)).filter lA=l++[p].filter lA:=by rw[lw S,Qu,← M9,F]
  refine qQ (C.ky p (od S)) λx V h2 v h3 V=>?_
  have pb:lA p=decide (0<v):=dd (λv:CV=>v.cf false λi=>decide (0<i)) h3
  refine W.f6 (p:=0<v) (.cm (.v (dd aM h3)) .c rfl) (λZ=>W.f7 I cF J (.v (s 2 rfl)) (.tu (.two (.v rfl) (.v rfl))) ?_ λt3 H3 u z0 k3=>W.nil (hK u (by rw[LP];exact z0) (X.t k3) (O.trans (dd (l++·) (NY (pb.trans (Ln Z))))).symm s)) λZ=>W.nil (hK I J X (O.trans ((dd (l++·) (NZ (ne_true_of_eq_false (pb.trans (LQ Z))))).trans (Mp l))).symm s)
  rw[F,h7,GE]
  exact b5 (LY z1 (cy (NI _ _) (cy (Ox _ _) (sj C.nd C.k)))) rfl
 ·intro H2 L2 l t2 I J X F s
  rw[Mh] at F
  subst F
  refine jy (B2 G E C A) λm em nd z2 hz=>?_
  have asc:∀p∈(r++e2.filter lA),∃y,p=enP y/\aZ y.1:=λp hp=>((LB.mp hp).elim (E.ld A) (C.ld A)).imp λy h=>⟨h.1,aI (h.2.sy G)⟩
  exact W.vv (rW (Ev.go (.v (s 2 rfl)) ⟨c,_,[.str,.int],rfl,I.T.gL J,eF (p8 ((bW _).length_eq.symm.trans ((dd Nc em).trans (h7 _)))) (eF hz (by decide)),rfl,λy S=>(p9.mp S).elim λp h=>(asc p h.1).elim λz e=>h.2▸e.1▸Hu e.2,λd hd=>
   I.nL (G:=λH=>FQ (.ret (.ref d)) ⟨H,L2⟩) hd λt3 H3 u gd V k3=>D (hQ d m t3 H3 u (em▸gd) (λa ρ h=>(k3 _ _ (X _ _ (R _ _ h).2 (R _ _ h).1)).1) nd z2 hz)⟩))
end
section
variable{z:PT}{H:CH}{L:EN}{w d:CE}{x:CV}{U:cp CV}{Q y v:LG}{X:No}
theorem W.Hx{b:cp CS}{Q:NE}(r:wpE z M e ⟨H,L⟩ (λv st=>∃q,aL st.H v=aM q/\if q then ae z M a st (bq z M l Q X) X else ae z M b st (bq z M l Q X) X) X):ae z M (.ite e a b::l) ⟨H,L⟩ Q X:=r
theorem inF{Q:Ps}(k:Ev L H w x)(h:Evs L H Y U)(r:z f U H λy V=>∃r,b9 V .isIn x y=aM r/\Q (.bool r) ⟨V,L⟩):wpE z M (.cm .isIn w (.fn f Y)) ⟨H,L⟩ Q X:=k _ _ _ _ (h _ _ _ _ r)
theorem KW{Q:Ps}(r:wpE z M a ⟨H,L⟩ (λx st=>∃t,aL st.H x=aM t/\if t then wpE z M b st (λy st=>∃t,aL st.H y=aM t/\if t then wpE z M d st Q X else Q y st) X else Q x st) X):wpE z M (.an3 a b d) ⟨H,L⟩ Q X:=r
theorem anE{Q:Ps}(r:wpE z M a ⟨H,L⟩ (λx st=>∃t,aL st.H x=aM t/\if t then wpE z M b st Q X else Q x st) X):wpE z M (.an a b) ⟨H,L⟩ Q X:=r
theorem anD{Q:Ps}{p q:Prop}[OS p][OS q](J:Ev L H b (.bool (!decide q)))(o:p->¬ q->Q (.bool true) ⟨H,L⟩)(j:¬ p∨q->Q (.bool false) ⟨H,L⟩):∃t,aL H (.bool (decide p))=aM t/\if t then wpE z M b ⟨H,L⟩ Q X else Q (.bool (decide p)) ⟨H,L⟩:=by
 by_cases V:p
 ·rw[Ln V]
  refine⟨true,rfl,J _ _ _ _ ?_⟩
  by_cases k:q
  ·rw[Ln k];exact j (.inr k)
  ·rw[LQ k];exact o V k
 ·rw[LQ V];exact⟨false,rfl,j (.inl V)⟩
theorem KX{Q:Ps}{p q r:Prop}[OS p][OS q][OS r](J:Ev L H b (.bool (decide q)))(o:Ev L H d (.bool (!decide r)))(O:p/\q->¬ r->Q (.bool true) ⟨H,L⟩)(j:¬ (p/\q)∨r->Q (.bool false) ⟨H,L⟩):∃t,aL H (.bool (decide p))=aM t/\if t then wpE z M b ⟨H,L⟩ (λy st=>∃t,aL st.H y=aM t/\if t then wpE z M d st Q X else Q y st) X else Q (.bool (decide p)) ⟨H,L⟩:=by
 by_cases V:p
 ·rw[Ln V]
  exact⟨true,rfl,J _ _ _ _ (anD o (λa b=>O ⟨V,a⟩ b) λh=>j (h.imp_left λh k=>h k.2))⟩
 ·rw[LQ V];exact⟨false,rfl,j (.inl λk=>V k.1)⟩
theorem Er{V:Type}{f:V->CV}{ys:cp V}(h:Ev L H e (.tup (ys.map f)))(k:Sc)(r:k (.bu 0 (.ai (ys.map f))) ⟨H,L⟩):wpI z M (.bu e) ⟨H,L⟩ k X:=h _ _ _ _ r
end
theorem jx(G:aj R){r:ki}(h:r<R.length):aZ (lhs R r):=(Nat.eq_zero_or_pos r).elim (λe=>e▸(Em G).symm▸asc (by decide)) λz=>aI (bL (G.nm r z h))
def Lx(A:ki->ki->Prop)(r p:ki):Prop:=∀z Q,(z<r∨z=r/\Q<p)->A z Q
section
variable{B:ki->ki->Prop}
theorem Lx.z0:Lx A 0 0:=λz Q h=>h.elim (λh=>p7 h (MD _)) λh=>p7 h.2 (MD _)
theorem Lx.imp(h:Lx A r p)(i:∀r p,A r p->B r p):Lx B r p:=λz Q q=>i _ _ (h z Q q)
theorem Lx.next(h:Lx A r p)(a:A r p):Lx A r (p+1):=λz Q q=>q.elim (λq=>h _ _ (.inl q)) λq=>(LV (tc q.2)).elim (λk=>h _ _ (.inr ⟨q.1,k⟩)) λk=>q.1.symm▸k.symm▸a
theorem Lx.row(h:Lx A r p)(a:∀z,p<=z->A r z):Lx A (r+1) 0:=λQ z q=>(LV (tc (q.resolve_right λk=>MD _ k.2))).elim (λk=>h _ _ (.inl k)) λk=>k.symm▸(Oj z p).elim (λm=>h r z (.inr ⟨rfl,m⟩)) (a z)
end
section
variable{α:Type}{R:cp aE}{S:α->Prop}{z:α}{nm:α->Lj}{nx:α->ki->ki->rt α}{l Q l1:cp α}{y:α}{r p i:ki}
structure Gro{α:Type}(S:α->Prop)(z:α)(l:cp α):Prop where
 nd:l.Nodup
 s:∀p∈l,S p
 z:z∈l
theorem Gro.add(h:Gro S z l)(w:S y)(Y:y∉l):Gro S z (l++[y]):=⟨cQ h.nd Y,cC h.s w,LD _ h.z⟩
def DnG(R:cp aE)(nm:α->Lj)(nx:α->ki->ki->rt α)(y:α)(r p:ki)(l:cp α):Prop:=Lx (λr p=>lhs R r=nm y->∀z,nx y r p=aM z->z∈l) r p
theorem DnG.mono(w:l <+: Q)(h:DnG R nm nx y r p l):DnG R nm nx y r p Q:=h.imp λY Y a e z U=>w.subset (a e z U)
structure GrA(R:cp aE)(S:α->Prop)(z:α)(nm:α->Lj)(nx:α->ki->ki->rt α)(i:ki)(l:cp α):Prop where
 F:Gro S z l
 le:i<=l.length
 dn:∀m y,m<i->l[m]?=aM y->DnG R nm nx y R.length 0 l
structure GrB(R:cp aE)(S:α->Prop)(z:α)(nm:α->Lj)(nx:α->ki->ki->rt α)(l1:cp α)(y:α)(r p:ki)(l:cp α):Prop where
 F:Gro S z l
 pre:l1 <+: l
 d:DnG R nm nx y r p l
theorem GrA.step(h:GrA R S z nm nx i l1)(w:l1[i]?=aM y)(b:GrB R S z nm nx l1 y R.length 0 l):GrA R S z nm nx (i+1) l:=
 have Y:=(kO.mp w).1
 ⟨b.F,rf Y b.pre.length_le,λm U v e=>(LV (tc v)).elim (λq=>(h.dn m U q (BX b.pre (Mj q Y) e)).mono b.pre) λq=>ey ((BW b.pre w).symm.trans (q▸e))▸b.d⟩
theorem GrA.fin(v:∀y r p z,nx y r p=aM z->p<(rhs R r).length)(h:GrA R S z nm nx l.length l){p:ki}(V:y∈l)(k:lhs R r=nm y){w:α}(Y:nx y r p=aM w):w∈l:=
 (Mm.mp V).elim λm U=>h.dn m y (kO.mp U).1 U r p (.inl (vN (o2 (v _ _ _ _ Y)))) k w Y
end
section
variable{α:Type}{f:α->CV}{P:Par}{w t1:TY}{H U:CH}{c:ki}{S:α->Prop}{z:α}{nm:α->Lj}{nx:α->ki->ki->rt α}{L:EN}
theorem Jz{j O J u g E B:ki}{l:cp CS}{l0:cp α}(I:α->EN->EN)(z0:∀y L,de L t (f y)=aM (I y L))(z1:∀y k,Lo k0 L k->Lo k0 L (I y k))(z2:OC 0 k0=true)(M:Oc k0 O=true)(d:Oc O J=true)(z3:Oc J g=true)(z4:Oc g E=true)(n1:Re O J=false)(n4:OC J g=true)(n5:Re g E=false)(n6:OC u O=true)
(lr:L 0=aM (.ref v))(lc:L j=aM (.ref c))(ho:∀y L,I y L u=aM (.str (nm y)))(z5:∀y,S y->aZ (nm y))(hB:∀l,Gro S z l->l.length<=B)(hx:∀y r p z,nx y r p=aM z->p<(rhs P.R r).length)
(G:aj P.R)(N:Now U Y P w H)(hr:t1 v=aM (.ak (P.R.map cI)))(rc:v≠c)(m:w c=aM (.ak (l0.map f)))(q:Kp c t1 w)(F0:Gro S z l0)
(b1:∀{y r p x H L1 k K l w},S y->(rhs P.R r)[p]?=aM x->lhs P.R r=nm y->(∀{H2 L2 l2 C},Now U Y P C H2->C c=aM (.ak (l2.map f))->Kp c t1 C->Gro S z l2->l <+: l2->(∀z,nx y r p=aM z->z∈l2)->Lo g k L2->K .next ⟨H2,L2⟩)->Now U Y P w H->w c=aM (.ak (l.map f))->Kp c t1 w->Gro S z l->Lo k0 L k->Lo O (I y L1) k->k J=aM (.tup ((rhs P.R r).map .str))->k g=aM (.int p)->k E=aM (.str x)->ae Φ mF Bd ⟨H,k⟩ K FX)
(hf:∀{H' k l' w},Now U Y P w H'->w c=aM (.ak (l'.map f))->Kp c t1 w->GrA P.R S z nm nx l'.length l'->Lo k0 L k->ae Φ mF l ⟨H',k⟩ Q X) :
  ae Φ mF (.fr t (.val (.v j)) [.fr (.t [O,J]) (.val (.v 0)) [.ite (.cm .eq (.v O) (.v u)) [.fr (.t [g,E]) (.bu (.v J)) Bd []] []] []] []::l) ⟨H,L⟩ Q X:=by
 have o:=OA.mpr (cy (OA.mp d) (OA.mp z3))
 refine frU (f:=f) (t1:=t1) I z0 (.v lc) k0 z1 B (GrA P.R S z nm nx) (λV l h=>hB l h.F) (λV V h=>h.le) N m q ⟨F0,Lp _,λV V h=>p7 h (MD _)⟩ ?_ λH' k l' w N m q F s=>hf N m q F s
 intro i y H2 L2 K l t2 hK N2 z6 q2 A hy s
 have hS:=A.F.s y (od hy)
 refine frO (ys:=P.R) (f:=f) (t1:=t1) (λi=>.list v i) (λV r=>cI r) (λ_ (r:aE) L=>upd (upd L O (.str r.1)) J (.tup (r.2.map .str))) (λV V V=>rfl) (bp (.v ((s 0 z2).trans lr)) (N2.T.gL (q2 _ _ rc hr))) O (λV V V h=>(h.up (OA.mpr (Lf _))).up d) (λr=>GrB P.R S z nm nx l y r 0) N2 z6 q2 ⟨A.F,PJ l,.z0⟩ (λV V V N q=>ax (N.T.gL (q _ _ rc hr))) ?_ λH3 L3 l3 t3 N3 T q3 D b=>hK N3 T q3 (A.step hy D) (s.t b M)
 intro r n H3 L3 K3 l3 t3 a R N3 T q3 D b
 have hl:=dU a
 have z7:=gH a
 refine W.f6 (p:=n.1=nm y) (.cm (.v ((a6 (PD n1)).trans bg)) (.v ((b u n6).trans (ho y L2))) (eqS (hl▸jx G (kO.mp a).1) (z5 y hS))) (λe=>?_) λe=>W.nil (R N3 T q3 ⟨D.F,D.pre,D.d.row λp' V e'=>p7 (hl.symm.trans e') e⟩ b)
 have l8:upd (upd L3 O (.str n.1)) J (.tup (n.2.map .str)) J=aM (.tup ((rhs P.R r).map .str)):=z7.symm▸bg
 refine frO (ys:=rhs P.R r) (f:=f) (t1:=t1) (λi=>.bu i (.ai (((rhs P.R r).map .str).drop i))) (λi x=>.tup [.int i,.str x]) (λi x L=>upd (upd L g (.int i)) E (.str x)) (λV V V=>rfl) (Er (.v l8)) g (λV V V h=>(h.up (OA.mpr (Lf _))).up z4) (λp=>GrB P.R S z nm nx l y r p) N3 T q3 D (λV V V V V=>iV (w:=.str) bE) ?_ λH4 L4 l4 t4 N4 z8 q4 B4 s4=>W.nil (R N4 z8 q4 ⟨B4.F,B4.pre,B4.d.row λp' hp V z hz=>p7 (hx _ _ _ _ hz) (OG hp)⟩ (b.t s4 o))
 exact λp x H5 L5 K5 l5 t5 hp z9 N5 zz q5 B5 s5=>b1 hS hp (hl.trans e) (λN m q F Z hm s=>z9 N m q ⟨F,B5.pre.trans Z,(B5.d.mono Z).next λV z hz=>hm z hz⟩ (s5.t s (OA.mpr (Lf _)))) N5 zz q5 B5.F (s.t (b.t s5 o) M) (b.t s5 o) ((s5 J n4).trans l8) ((a6 (PD n5)).trans bg) bg
end
def gm(p:Lj×ki×Lj):CV:=.tup [.str p.1,.int p.2.1,.str p.2.2]
theorem B3(a b:Lj×ki×Lj)(h:gm a=gm b):a=b:=MX (CV.str.inj (dD h).1) (MX (iL (dD (dD h).2).1) (CV.str.inj (dD (dD (dD h).2).2).1))
theorem KY:aZ (u 1):=(by decide:(u 1).cps.toList.all (OC · 128)=true)
theorem xk{p:Lj×ki×Lj}(h:aZ p.1/\aZ p.2.2):(gm p).pure=true/\(gm p).depth<=1:=⟨rv.mpr ⟨h.1,rv.mpr ⟨rfl,rv.mpr ⟨h.2,rfl⟩⟩⟩,e0 rfl⟩
section
variable{x:Lj}{w:ki}
theorem vP(G:aj R){t:Lj}(h:t=u 1∨t∈bm):eU R r p t=u 1∨eU R r p t∈bm:=by
 cases p with
 | zero=>exact h
 | succ p=>
  show((rhs R r)[p]?).getD t=u 1∨((rhs R r)[p]?).getD t∈bm
  cases e:(rhs R r)[p]? with
  | none=>exact h
  | some x=>exact .inr (G.sym r x (od e))
theorem Sm.tp(G:aj R)(h:Sm R x w t):t=u 1∨t∈bm:=by
 induction h with
 | z=>exact .inl rfl
 | s _ _ _ Q=>exact vP G Q
theorem vQ{t:Lj}(h:t=u 1∨t∈bm):aZ t:=h.elim (λe=>e▸KY) aI
theorem gN{t:Lj}(h:t=sP∨t∈aC):aZ t:=h.elim (λe=>e▸asc (by decide)) λh=>aI (bL h)
def SmS(R:cp aE)(p:Lj×ki×Lj):Prop:=Sm R p.1 p.2.1 p.2.2/\p.2.1<=4
theorem SmS.pd(G:aj R)(h:SmS R p):(gm p).pure=true/\(gm p).depth<=1:=xk ⟨gN h.1.nm,vQ (h.1.tp G)⟩
def smU(R:cp aE):cp (Lj×ki×Lj):=(sP,0,u 1)::(aC.map λx=>(x,0,u 1))++aC.flatMap λx=>(OL 1 4).flatMap λw=>(OL 1 4).map λr=>(x,w,((rhs R r)[0]?).getD (u 1))
theorem Sm.in(G:aj R)(h:Sm R x w t):(w=0/\t=u 1)∨x∈aC/\0<w/\∃r,(1<=r/\r<5)/\((rhs R r)[0]?).getD (u 1)=t:=by
 induction h with
 | z=>exact .inl ⟨rfl,rfl⟩
 | @s r p w t x v y Y U=>
  cases p with
  | zero=>exact U.imp id λh=>⟨Y,h.2⟩
  | succ p=>
   have Q:=(kO.mp y).1
   obtain rfl:p=0:=OH.mp (Ny (rf Q (G.ln r)))
   refine .inr ⟨Y,MO _,r,⟨Nd λe=>p7 (tZ G▸e▸Q:1<[sS].length) (by decide),rf (vN y) G.len.2⟩,?_⟩
   show _=((rhs R r)[0]?).getD t
   rw[o2 (Vj Q)];rfl
theorem SmS.in(G:aj R)(h:Sm R x w t)(z:w<=4):(x,w,t)∈smU R:=
 (Sm.in G h).elim (λq=>LD _ (q.1▸q.2▸h.nm.elim (λe=>e▸fp) λe=>oo _ (p9.mpr ⟨x,e,rfl⟩))) λq=>q.2.2.elim λr e=>Ll _ (MB.mpr ⟨x,q.1,MB.mpr ⟨w,Pw.mpr ⟨q.2.1,Mz z⟩,p9.mpr ⟨r,Pw.mpr e.1,e.2▸rfl⟩⟩⟩)
theorem vR(G:aj R){l:cp (Lj×ki×Lj)}(y:l.Nodup)(z:∀p∈l,SmS R p):l.length<=52:=br y (m:=smU R) λp Q=>SmS.in G (z p Q).1 (z p Q).2
def smN(R:cp aE)(y:Lj×ki×Lj)(r p:ki):rt (Lj×ki×Lj):=(rhs R r)[p]?.bind λx=>if x∈aC/\y.2.1+p<=4 then aM (x,y.2.1+p,eU R r p y.2.2) else none
theorem xl{α:Type}{p:ki}{z:α}{g:Lj->rt α}(h:(rhs R r)[p]?.bind g=aM z):p<(rhs R r).length:=(MM.mp h).elim λQ h=>(kO.mp h.1).1
theorem B6{y:Lj×ki×Lj}{p:ki}{x:Lj}(z:(rhs R r)[p]?=aM x):smN R y r p=if x∈aC/\y.2.1+p<=4 then aM (x,y.2.1+p,eU R r p y.2.2) else none:=dd (OZ · λx=>if x∈aC/\y.2.1+p<=4 then aM (x,y.2.1+p,eU R r p y.2.2) else none) z
theorem B7{H:CH}{z Y p:ki}{t:Lj}(Q:p<=(rhs R r).length)(U:Ev L H e (.tup ((rhs R r).map .str)))(y:L z=aM (.int p))(v:L Y=aM (.str t)):Ev L H (.ife (.v z) (.ix e (.op .sub (.v z) (.c (.int 1)))) (.v Y)) (.str (eU R r p t)):=by
 cases p with
 | zero=>exact .ifF (.v y) rfl (.v v)
 | succ p=>
  erw[(dd (NS · t) (o2 Q):eU R r (p+1) t=(rhs R r)[p])]
  refine .ifT (.v y) (dd aM (RB.mpr λe=>MK p (OK e))) (.ix U (.sub (.v y) .c) ?_)
  erw[Qz (p:Nj) 1]
  exact rZ (Mg.trans ((dd (My CV.str) (o2 Q)).trans (dd (λo=>aM (CV.str (NS o t))) (o2 Q)).symm))
end
section
variable{P:Par}{H U:CH}{n v c:ki}{Q:Rs}{L:EN}{l:cp (Lj×ki×Lj)}
theorem Es{p:ki}{K:NE}(G:aj P.R)(cF:U.free c)(R:SmS P.R y)(B:(rhs P.R r)[p]?=aM x)(hl:lhs P.R r=y.1)(F:Gro (SmS P.R) (sP,0,u 1) l)
(S:∀{X f O w},Now U V P w X->w c=aM (.ak (O.map gm))->Kp c t1 w->Gro (SmS P.R) (sP,0,u 1) O->l <+: O->(∀z,smN P.R y r p=aM z->z∈O)->Lo 9 L f->K .next ⟨X,f⟩)(N:Now U V P Y H)(hc:Y c=aM (.ak (l.map gm)))(q:Kp c t1 Y)
(O:L 2=aM (.int 4))(l3:L 3=aM (.ref c))(Z:L 5=aM (.int y.2.1))(l6:L 6=aM (.str y.2.2))(l8:L 8=aM (.tup ((rhs P.R r).map .str)))(E:L 9=aM (.int p))(g:L 10=aM (.str x)):ae (ah fF mF (n+1)) mF jb ⟨H,L⟩ K FX:=by
 have t:=G.sym r x (od B)
 have pd:=xk (p:=(x,y.2.1+p,eU P.R r p y.2.2)) ⟨aI t,vQ (vP G (R.1.tp G))⟩
 refine W.asg (v:=gm (x,y.2.1+p,eU P.R r p y.2.2)) (.tu (.cons (.v g) (.cons (.add (.v Z) (.v E)) (.cons (B7 (y1 (kO.mp B).1) (.v l8) E l6) .nil)))) ?_
 have s:∀{f:EN} {v:CV},Lo 9 (upd L 11 v) f->Lo 9 L f:=λs=>(Lo.up .r).t s
 generalize k:upd L 11 (gm (x,y.2.1+p,eU P.R r p y.2.2))=j
 have I:j 2=aM (.int 4):=k▸O
 have T:j 3=aM (.ref c):=k▸l3
 have M:j 5=aM (.int y.2.1):=k▸Z
 have d:j 9=aM (.int p):=k▸E
 have C:j 10=aM (.str x):=k▸g
 have b:j 11=aM (gm (x,y.2.1+p,eU P.R r p y.2.2)):=k▸bg
 have Q:Lo 9 L j:=k▸Lo.up .r
 have J:=B6 (R:=P.R) (y:=y) B
 refine W.Hx (KW (inF (.v C) .nil (jw N λcn t4 H4 a g4 m=>⟨_,dT (a.T.gL g4) (λy hy=>aI (bL hy)) (aI t),?_⟩)))
 have o:=(m _ _ hc).1
 refine KX (q:=((y.2.1+p:ki):Nj)<=4) (r:=(x,y.2.1+p,eU P.R r p y.2.2)∈l) (.cm (.add (.v M) (.v d)) (.v I) rfl) (.cm (.v b) (.v T) (lh (inL (f:=gm) (a.T.gL o) (okL.of (d:=1) (λζ h=>SmS.pd G h) (by decide) F.s) pd.1 (cy pd.2 (by decide)) λζ ζ e=>B3 _ _ e))) (λh hn=>⟨true,rfl,?_⟩) λh=>⟨false,rfl,W.nil (S a o (q.t m.p) F (PJ l) (λz A=>?_) Q)⟩
 ·have h4:y.2.1+p<=4:=NW.mp h.2
  exact W.f7 a cF o (.v T) (.v b) ((h7 gm).symm▸b5 (vR G F.nd F.s) rfl) λt5 H5 N5 i k5=>W.nil (S N5 (LP▸i) ((q.t m.p).t k5) (F.add ⟨Sm.s (hl▸R.1) B h.1,h4⟩ hn) (Qq _ _) (λz A=>ey ((J.trans (K2 ⟨h.1,h4⟩)).symm.trans A)▸Ll _ fp) Q)
 ·by_cases D:x∈aC/\y.2.1+p<=4
  ·exact ey ((J.trans (K2 D)).symm.trans A)▸h.resolve_left λq=>q ⟨D.1,NW.mpr D.2⟩
  ·exact nos ((J.trans (E1 D)).symm.trans A)
theorem JA(N:Now U V P Y H)(G:aj P.R)(B:Y v=aM (.ak (P.R.map cI)))
(I:∀c (l:cp (Lj×ki×Lj)) j D,Now U V P j D->j c=aM (.ak (l.map gm))->Ka Y j->l.Nodup->(∀p,p∈l↔SmS P.R p)->Q (.ref c) D):ah fF mF (n+2) 468 [.ref v,.str sP,.int 4] H Q:=by
 refine bK [.ref v,.str sP,.int 4] (d:=nW) rfl rfl rfl rfl λFQ J k=>?_
 refine W.jh N (.one (.tu (.cons (.v rfl) (.cons .c (.cons .c .nil))))) λc t1 H1 M O d o=>?_
 have m:Gro (SmS P.R) (sP,0,u 1) [(sP,0,u 1)]:=⟨Mi _ _,λp i=>n2.mp i▸⟨.z,Lp _⟩,fp⟩
 refine Jz (α:=Lj×ki×Lj) (f:=gm) (S:=SmS P.R) (z:=(sP,0,u 1)) (nm:=(·.1)) (nx:=smN P.R) (k0:=4) (B:=52) (t1:=t1) (l0:=[(sP,0,u 1)]) (λy L=>upd (upd (upd L 4 (.str y.1)) 5 (.int y.2.1)) 6 (.str y.2.2)) (λk k=>rfl) (λk k h=>h.up.up.up) rfl rfl rfl rfl rfl rfl rfl rfl rfl rfl rfl (λk k=>rfl) (λk h=>gN h.1.nm) (λk F=>vR G F.nd F.s) (λk k k k h=>xl h) G M (o _ _ B).1 (o _ _ B).2 O .r m (λ{y r p x H L1 L' K l Y} e f R S N X q F sa sb Z l9 g=>Es G d e f R F S N X q (sa 2 rfl) (sa 3 rfl) (sb 5 rfl) (sb 6 rfl) Z l9 g) λ{H2 L2 l T} N2 C q2 A s=>W.ret (.v (s 3 rfl)) (J (I c l T H2 N2 C (λa ρ h=>q2 _ _ (o _ _ h).2 (o _ _ h).1) A.F.nd λp=>⟨A.F.s p,λh=>?_⟩))
 have b:∀{x w t},Sm P.R x w t->w<=4->(x,w,t)∈l:=λh=>by
  induction h with
  | z=>exact λk=>A.F.z
  | s s f hm ih=>exact λE=>A.fin (λk k k k h=>xl h) (ih (cy (LA _ _) E)) rfl ((B6 f).trans (K2 ⟨hm,E⟩))
 exact b h.1 h.2
end
theorem Ev.mn{H:CH}(y:Ev L H Q (.int i))(Y:Ev L H w (.int j)):Ev L H (.mn Q w) (.int (min i j)):=λz z z z h=>y _ _ _ _ (Y _ _ _ _ ⟨i,j,rfl,rfl,h⟩)
section
variable{Q x:Lj}{g:ki}
def gnN(R:cp aE)(y:Lj×ki)(r p:ki):rt (Lj×ki):=(rhs R r)[p]?.bind λx=>if x∈aC then aM (x,min 1 (y.2+p)) else none
theorem B8{y:Lj×ki}{p:ki}(z:(rhs R r)[p]?=aM x):gnN R y r p=if x∈aC then aM (x,min 1 (y.2+p)) else none:=dd (OZ · λx=>if x∈aC then aM (x,min 1 (y.2+p)) else none) z
abbrev GnG(R:cp aE)(Q:Lj)(l:cp (Lj×ki)):Prop:=Gro (λp=>Gn R Q p.1 p.2) (Q,0) l
theorem Gn.nm(w:Q=sP∨Q∈aC)(h:Gn R Q x g):x=sP∨x∈aC:=by
 cases h with
 | z=>exact w
 | s _ _ h=>exact .inr h
def gnU:cp (Lj×ki):=(sP::aC).flatMap λx=>(Lk 2).map λg=>(x,g)
theorem GnG.len(w:Q=sP∨Q∈aC)(h:GnG R Q l):l.length<=8:=br h.nd (m:=gnU) λp z=>MB.mpr ⟨p.1,ta.mpr (Gn.nm w (h.s p z)),p9.mpr ⟨p.2,LI.mpr (Mz (Gn.le (h.s p z))),rfl⟩⟩
theorem KZ:∀a:ki,min (1:Nj) a=((min 1 a:ki):Nj)
 | 0=>rfl
 | a+1=>(K2 (NW.mpr (Lw (Lp a)))).trans (dd (λn:ki=>(n:Nj)) (K2 (Lw (Lp a))).symm)
end
section
variable{P:Par}{H U:CH}{n V c:ki}{Q:Rs}{L:EN}{w:Lj}{l:cp (Lj×ki)}
theorem B9{y:Lj×ki}{p:ki}{K:NE}(G:aj P.R)(E:w=sP∨w∈aC)(S:U.free c)(X:Gn P.R w y.1 y.2)(b:(rhs P.R r)[p]?=aM x)(Z:lhs P.R r=y.1)(F:GnG P.R w l)
(I:∀{M s o k},Now U v P k M->k c=aM (.ak (o.map leC))->Kp c t1 k->GnG P.R w o->l <+: o->(∀z,gnN P.R y r p=aM z->z∈o)->Lo 7 L s->K .next ⟨M,s⟩)(N:Now U v P Y H)(u:Y c=aM (.ak (l.map leC)))(q:Kp c t1 Y)
(o:L 2=aM (.ref c))(Q:L 4=aM (.int y.2))(V:L 7=aM (.int p))(d:L 8=aM (.str x)):ae (ah fF mF (n+1)) mF iz ⟨H,L⟩ K FX:=by
 have O:=G.sym r x (od b)
 have pd:=lz (p:=(x,min 1 (y.2+p))) (aI O)
 refine W.asg (v:=leC (x,min 1 (y.2+p))) (.tu (.two (.v d) (KZ (y.2+p)▸.mn .c (.add (.v Q) (.v V))))) ?_
 generalize g:upd L 9 (leC (x,min 1 (y.2+p)))=t
 have f:t 2=aM (.ref c):=g▸o
 have B:t 8=aM (.str x):=g▸d
 have m:t 9=aM (leC (x,min 1 (y.2+p))):=g▸bg
 have i:Lo 7 L t:=g▸Lo.up .r
 have j:=B8 (R:=P.R) (y:=y) b
 refine W.Hx (anE (inF (.v B) .nil (jw N λcn t4 H4 T g4 a=>⟨_,dT (T.T.gL g4) (λy hy=>aI (bL hy)) (aI O),?_⟩)))
 have J:=(a _ _ u).1
 refine anD (q:=(x,min 1 (y.2+p))∈l) (.cm (.v m) (.v f) (lh (inL (f:=leC) (T.T.gL J) (okL.of (d:=1) (λR h=>lz (gN (Gn.nm E h))) (by decide) F.s) pd.1 (cy pd.2 (by decide)) λR R e=>mH _ _ e))) (λh hn=>⟨true,rfl,?_⟩) λh=>⟨false,rfl,W.nil (I T J (q.t a.p) F (PJ l) (λz C=>?_) i)⟩
 ·exact W.f7 T S J (.v f) (.v m) ((h7 leC).symm▸b5 (GnG.len E F) rfl) λt5 H5 N5 A k5=>W.nil (I N5 (LP▸A) ((q.t a.p).t k5) (F.add (Gn.s (Z▸X) b h) hn) (Qq _ _) (λz C=>ey ((j.trans (K2 h)).symm.trans C)▸Ll _ fp) i)
 ·by_cases D:x∈aC
  ·exact ey ((j.trans (K2 D)).symm.trans C)▸h.resolve_left λq=>q D
  ·exact nos ((j.trans (E1 D)).symm.trans C)
theorem Hy(N:Now U v P Y H)(G:aj P.R)(b:Y V=aM (.ak (P.R.map cI)))(o:w=sP∨w∈aC)
(D:∀c (l:cp (Lj×ki)) j B,Now U v P j B->j c=aM (.ak (l.map leC))->Ka Y j->(∀x g,(x,g)∈l↔Gn P.R w x g)->l.length<=8->Q (.ref c) B):ah fF mF (n+2) 480 [.ref V,.str w] H Q:=by
 refine bK [.ref V,.str w] (d:=lQ) rfl rfl rfl rfl λFQ J k=>?_
 refine W.jh N (.one (.tu (.two (.v rfl) .c))) λc t1 H1 E f I O=>?_
 have M:GnG P.R w [(w,0)]:=⟨Mi _ _,λp d=>n2.mp d▸.z,fp⟩
 refine Jz (α:=Lj×ki) (f:=leC) (S:=λp=>Gn P.R w p.1 p.2) (z:=(w,0)) (nm:=(·.1)) (nx:=gnN P.R) (k0:=3) (B:=8) (t1:=t1) (l0:=[(w,0)]) (λy L=>upd (upd L 3 (.str y.1)) 4 (.int y.2)) (λk k=>rfl) (λk k h=>h.up.up) rfl rfl rfl rfl rfl rfl rfl rfl rfl rfl rfl (λk k=>rfl) (λk h=>gN (Gn.nm o h)) (λk F=>GnG.len o F) (λk k k k h=>xl h) G E (O _ _ b).1 (O _ _ b).2 f .r M (λ{y r p x H L1 L' K l Y} m t i e N R q F sa sb l6 S X=>B9 G o I m t i F e N R q (sa 2 rfl) (sb 4 rfl) S X) λ{Z L2 l T} u C q2 A s=>W.ret (.v (s 2 rfl)) (J (D c l T Z u C (λa ρ h=>q2 _ _ (O _ _ h).2 (O _ _ h).1) (λx g=>⟨A.F.s (x,g),λh=>?_⟩) (GnG.len o A.F)))
 induction h with
 | z=>exact A.F.z
 | s s t hm ih=>exact A.fin (λk k k k h=>xl h) ih rfl ((B8 t).trans (K2 hm))
end
theorem coX{α:Type}{H:CH}{Q:Ps}{ys:cp α}(l:ki->It)(w:ki->α->CV)(A:ki->α->EN->EN)(n:∀i y L,de L t (w i y)=aM (A i y L))(d:∀p:It->St->Prop,p (l 0) ⟨H,L⟩->wpI O M a ⟨H,L⟩ p X)(D:ys.length<szl)
(I:ki->cp CV->CH->EN->Prop)(m:I 0 [] H L)(E:∀i z H L,I i z H L->(l i).next H=aM (ys[i]?.map λy=>(w i y,l (i+1))))
(e:∀i y z H L,ys[i]?=aM y->I i z H L->∀p:rt CV->St->Prop,(∀{o Y f},I (i+1) (o.elim z λx=>z++[x]) Y f->p o ⟨Y,f⟩)->jC O M V ⟨H,A i y L⟩ (λb s=>if b then wpE O M U s (λr s=>p (aM r) s) FX else p none s) FX)
(r:∀z Y f,I ys.length z Y f->∀c,Y.free c->Q (.ref c) ⟨Y.aD c z,L⟩):wpE O M (.co U t a V) ⟨H,L⟩ Q X:=by
 refine d _ ⟨ys.length+1,?_⟩
 have N:∀(k i:ki) (g:CH) (j:EN) (z:cp CV),k+i=ys.length->z.length<=i->I i z g j->eZ (λv s K=>∃L,de s.L t v=aM L/\jC O M V { s with L:=L } (λb s=>if b then wpE O M U s (λr s=>K (aM r) s) FX else K none s) FX) (λz s=>z.length<=szl/\∀c,s.H.free c->Q (.ref c) ⟨s.H.aD c z,L⟩) (k+1) (l i) z ⟨g,j⟩:=by
  intro k
  induction k with
  | zero=>
   intro i g j z B T C
   obtain rfl:i=ys.length:=(OQ i).symm.trans B
   exact qE ((E _ _ _ _ C).trans (dd (λo=>aM (My _ o)) (Md (Lf _)))) ⟨cy T (y1 D),r z g j C⟩
  | succ k F=>
   intro i g j z B T C
   have J:i<ys.length:=B▸Nat.lt_add_of_pos_left (MO k)
   exact tM ((E _ _ _ _ C).trans (dd (λo=>aM (My _ o)) (o2 J))) ⟨_,n i _ j,e i _ z g j (o2 J) C (λo st=>z.length<szl/\eZ _ _ (k+1) (l (i+1)) (o.elim z λx=>z++[x]) st) λ{o Y f} h=>⟨eF T (Mj J D),F (i+1) Y f _ ((NU k i).symm.trans B) (match o with
    | none=>PG T
    | some _=>cy (p8 GE) (Lw T)) h⟩⟩
 exact N ys.length 0 H L [] rfl (Lf 0) m
theorem coS{α:Type}{H:CH}{Q:Ps}{ys:cp α}(k:ki->It)(w:ki->α->CV)(o:ki->α->EN->EN)(O:∀i y L,de L t (w i y)=aM (o i y L))(g:∀Y:It->St->Prop,Y (k 0) ⟨H,L⟩->wpI J M f ⟨H,L⟩ Y X)(l:ys.length<szl)
(I:ki->cp CV->CH->EN->Prop)(T:I 0 [] H L)(x:∀i z H L,I i z H L->(k i).next H=aM (ys[i]?.map λy=>(w i y,k (i+1))))
(C:∀i y z H L,ys[i]?=aM y->I i z H L->∀Y:CV->St->Prop,(∀{v U j},I (i+1) (z++[v]) U j->Y v ⟨U,j⟩)->wpE J M V ⟨H,o i y L⟩ Y FX)
(r:∀z U j,I ys.length z U j->∀c,U.free c->Q (.ref c) ⟨U.aD c z,L⟩):wpE J M (.co V t f []) ⟨H,L⟩ Q X:=
 coX k w o O g l I T x (λi y z H L b B Y p=>C i y z H L b B (λv s=>Y (aM v) s) λh=>p h) r
theorem cB.of{z Q:Type}{P:z->Q->Prop}{l:cp z}:∀{m:cp Q},l.length=m.length->(∀(i:ki) a b,l[i]?=aM a->m[i]?=aM b->P a b)->cB P l m:=by
 induction l with
 | nil=>
  intro m e _
  obtain rfl:=Mq e.symm
  exact .nil
 | cons a l w=>
  intro m e h
  cases m with
  | nil=>exact p7 e (MK _)
  | cons b m=>exact .cons (h 0 a b rfl rfl) (w (Oa e) λi a b y Y=>h (i+1) a b y Y)
abbrev DuT:=Lj×Pl
def eB(p:DuT):CV:=.tup [.str p.1,.int p.2.1,.int p.2.2]
theorem iM(a b:DuT)(h:eB a=eB b):a=b:=MX (CV.str.inj (dD h).1) (MX (iL (dD (dD h).2).1) (iL (dD (dD (dD h).2).2).1))
theorem mI{p:DuT}(h:aZ p.1):(eB p).pure=true/\(eB p).depth<=1:=⟨rv.mpr ⟨h,rfl⟩,e0 rfl⟩
theorem sk{p:DuT}(h:aZ p.1):(eB p).is (.tup [.str,.int,.int])=true:=rv.mpr ⟨h,rfl⟩
abbrev Rws:=ki->cp DuT
def vS(V:Rws)(h:ki)(x:DuT):Rws:=λk=>if k=h then V h++[x] else V k
section
variable{R:cp aE}{V z:Rws}{h k:ki}{x y:DuT}
theorem so:y∈vS V h x k↔y∈V k∨k=h/\y=x:=by
 unfold vS
 by_cases q:k=h
 ·rw[K2 q,LB,n2,q]
  exact R6 (and_iff_right rfl).symm
 ·rw[E1 q]
  exact(Yj λh=>q h.1).symm
def DuS(R:cp aE)(h:ki)(x:DuT):Prop:=Du R h x.1 x.2
theorem DuS.asc(G:aj R)(d:DuS R h x):aZ x.1:=d.2.elim λw h=>h.elim λt h=>h.2.2▸vQ (vP G (h.1.tp G))
def duU(R:cp aE):cp DuT:=(ai R).map (λp=>(eU R p.1 p.2 (u 1),p))++(u 1::bm).flatMap λt=>(Lk 5).map λr=>(t,r,0)
theorem Et(G:aj R):(duU R).length<64:=
 eF (cy (p8 GE) (MJ (cy (p8 (h7 _)) (gi G)) 35)) (by decide)
theorem DuS.mem(G:aj R)(d:DuS R h x):x∈duU R:=by
 obtain⟨t,r,d⟩:=x
 obtain⟨Q,w,Y,U,_,e⟩:=d
 cases d with
 | zero=>exact Ll _ (MB.mpr ⟨t,ta.mpr ((show Y=t from Ng e)▸U.tp G),p9.mpr ⟨r,LI.mpr (rf (aJ.mp Q).1 G.len.2),rfl⟩⟩)
 | succ d=>
  have g:=o2 (aJ.mp Q).2
  exact LD _ (p9.mpr ⟨(r,d+1),Q,MX ((dd (NS · (u 1)) g).trans ((dd (NS · Y) g).symm.trans (Ng e))) rfl⟩)
theorem DuS.len(G:aj R){r:cp DuT}(Q:r.Nodup)(s:∀x∈r,DuS R h x):r.length<64:=eF (br Q λx w=>(s x w).mem G) (Et G)
structure DuV(R:cp aE)(V:Rws):Prop where
 nd:∀h,(V h).Nodup
 s:∀h,∀x∈V h,DuS R h x
theorem DuV.put(F:DuV R V)(Q:x∉V h)(w:DuS R h x):DuV R (vS V h x):=
 ⟨λk=>by
  unfold vS
  split
  ·exact cQ (F.nd h) Q
  ·exact F.nd k,λk y Y=>(so.mp Y).elim (F.s k y) λe=>e.1▸e.2▸w⟩
def DuP(R:cp aE)(y:Lj×ki×Lj)(V:Rws)(r d:ki):Prop:=Lx (λr d=>lhs R r=y.1->d<=(rhs R r).length->y.2.1+d<=4->(eU R r d y.2.2,r,d)∈V (y.2.1+d)) r d
def DuA(R:cp aE)(S:cp (Lj×ki×Lj))(i:ki)(V:Rws):Prop:=∀k y,k<i->S[k]?=aM y->DuP R y V R.length 0
def Lev(V z:Rws):Prop:=∀h,∀x∈V h,x∈z h
theorem DuP.up{y:Lj×ki×Lj}(h:DuP R y V r d)(l:Lev V z):DuP R y z r d:=h.imp λQ Q a e f g=>l _ _ (a e f g)
theorem DuA.up(h:DuA R S i V)(l:Lev V z):DuA R S i z:=λk y Q w=>(h k y Q w).up l
theorem Ca{H:CH}{i:ki}{R:cp aE}(h:R[i]?=aM Q):eD H (cI Q) (.int 1)=aM (.ok (.tup ((rhs R i).map .str))):=gH h▸rfl
end
theorem qO{z:cp ki}:z.map CV.ref++[.ref c]=(z++[c]).map CV.ref:=Ng (LP (l₂:=[c]))
section
variable{U:PT}{α β:Type}{H H0:CH}{L:EN}{Q:Ps}{X:No}{ys:cp α}{P:Par}{ty t0 t1:TY}{f:β->CV}
inductive RoI(H0:CH)(t0:TY)(P:Par)(f:β->CV)(t1:TY)(ys:cp α)(F:ki->α->cp β->Prop)(k:ki)(L0:EN)(i:ki)(acc:cp CV)(H:CH)(L:EN):Prop
 | mk (bs:cp ki) (V:cp (cp β)) (ty:TY) (N:Now H0 t0 P ty H) (e:acc=bs.map .ref) (hl:V.length=i) (w:cB (λb r=>ty b=aM (.ak (r.map f))) bs V) (q:Ka t1 ty) (s:Lo k L0 L) (hF:∀(j:ki) y r,ys[j]?=aM y->V[j]?=aM r->F j y r)
theorem coR(a:ki->It)(w:ki->α->CV)(l:ki->α->EN->EN)(D:∀i y L,de L t (w i y)=aM (l i y L))(N:Now H0 t0 P ty H)(hi:∀p:It->St->Prop,p (a 0) ⟨H,L⟩->wpI U M v ⟨H,L⟩ p X)(hz:ys.length<szl)(k:ki)(S:∀i y T,Lo k L T->Lo k L (l i y T))(F:ki->α->cp β->Prop)
(hn:∀i H o,Now H0 t0 P o H->Ka ty o->(a i).next H=aM (ys[i]?.map λy=>(w i y,a (i+1))))
(hs:∀i y H o T,ys[i]?=aM y->Now H0 t0 P o H->Ka ty o->Lo k L (l i y T)->∀p:CV->St->Prop,(∀c r g x,Now H0 t0 P g x->g c=aM (.ak (r.map f))->Ka o g->F i y r->p (.ref c) ⟨x,l i y T⟩)->wpE U M Y ⟨H,l i y T⟩ p FX)
(r:∀c C V o x,Now H0 t0 P o x->cD f o c C V->Ka ty o->V.length=ys.length->(∀(j:ki) y r,ys[j]?=aM y->V[j]?=aM r->F j y r)->Q (.ref c) ⟨x,L⟩):wpE U M (.co Y t v []) ⟨H,L⟩ Q X:=
 coS a w l D hi hz (RoI H0 t0 P f ty ys F k L) ⟨[],[],ty,N,rfl,rfl,.nil,λO O h=>h,.r,λO O O O h=>nsm h⟩ (λi b H L h=>h.casesOn λO O O N O O O q O O=>hn i H _ N q)
  (λi y b W Z K J p E=>J.casesOn λC V t1 I e A w q s d=>hs i y W t1 Z K I q (S _ _ _ s) p λc r g G m R q2 hr=>E ⟨C++[c],V++[r],g,m,e▸qO,GE.trans (dd (·+1) A),(w.mono λO O h=>q2 _ _ h).app (.cons R .nil),q.t q2,S _ _ _ s,λj y' r' u h2=>(oZ h2).elim (d j y' r' u) λz=>by
   refine oA z λB n=>?_;subst n
   obtain rfl:=B.trans A
   exact ey (K.symm.trans u)▸hr⟩)
  λb W Z J c hc=>J.casesOn λC V t1 I e A w q s d=>e▸I.nL (G:=λH=>Q (.ref c) ⟨H,_⟩) hc λg G m R O q2=>r c C V g G m ⟨R,w.mono λO O h=>(q2 _ _ h).1⟩ (q.t q2.aa) A d
end
theorem sq{H:CH}(h:Evs L H z Q)(g:hJ Q=aM l)(w:Sc)(r:w (.ai l) ⟨H,L⟩):wpI y M (.rng z) ⟨H,L⟩ w X:=h _ _ _ _ ⟨_,g,r⟩
theorem Cb:hJ [.int (4+1)]=aM ((Lk 5).map iC):=gk (m:=5) (by decide)
theorem K0{a w:ki}(h:w<=4):min (a:Nj) (4 - (w:Nj))+1=((min a (4 - w)+1:ki):Nj):=by
 rw[show(4:Nj) - (w:Nj)=((4 - w:ki):Nj) from(Int.ofNat_sub h).symm]
 rcases Nat.le_total a (4 - w) with q | q
 ·rw[V1 (NW.mpr q),Ta q];rfl
 ·rw[VR (NW.mpr q),VJ q];rfl
theorem JB{z:Type}{l:cp z}(w:l.Nodup){i j:ki}{a:z}(Q:l[i]?=aM a)(y:l[j]?=aM a):i=j:=
 (Py (kO.mp Q).1 w).mp (Q.trans y.symm)
section
variable{P:Par}{ty z t0 t1:TY}{H H0:CH}{n Y U c:ki}{Q:Rs}{L:EN}{bs:cp ki}{S:cp (Lj×ki×Lj)}{V:Rws}
structure DRo(H0:CH)(ty:TY)(c:ki)(bs:cp ki)(V:Rws):Prop where
 a:ty c=aM (.ak (bs.map .ref))
 w:∀(i:ki) b,bs[i]?=aM b->ty b=aM (.ak ((V i).map eB))
 fr:∀b∈bs,H0.free b
 nd:bs.Nodup
 len:bs.length=5
def Ko(bs:cp ki)(ty z:TY):Prop:=∀a w,a∉bs->ty a=aM w->z a=aM w
theorem DRo.put(D:DRo H0 ty c bs V)(j:c∉bs){h:ki}(y:bs[h]?=aM b)(g:z b=aM (.ak ((V h).map eB++[eB x])))(k:Kp b ty z):DRo H0 z c bs (vS V h x):=
 ⟨k _ _ (λe=>j (e▸od y)) D.a,λi a v=>by
  unfold vS
  by_cases q:i=h
  ·subst q
   obtain rfl:=ey (y.symm.trans v)
   rw[K2 rfl,LP];exact g
  ·rw[E1 q]
   exact k _ _ (λe=>q (JB D.nd (e▸v) y)) (D.w i a v),D.fr,D.nd,D.len⟩
inductive DuJ(H0:CH)(t0:TY)(P:Par)(c:ki)(bs:cp ki)(t1:TY)(k:ki)(L0:EN)(C:Rws->Prop)(H:CH)(L:EN):Prop
 | mk (V:Rws) (ty:TY) (N:Now H0 t0 P ty H) (D:DRo H0 ty c bs V) (q:Ko bs t1 ty) (F:DuV P.R V) (hc:C V) (s:Lo k L0 L)
theorem JC{r d:ki}{K:NE}(G:aj P.R)(m:SmS P.R y)(p:P.R[r]?=aM j)(R:lhs P.R r=y.1)(f:d<=(rhs P.R r).length)(X:y.2.1+d<=4)(Z:c∉bs)
(g:∀{l t o w},Now H0 t0 P w l->DRo H0 w c bs o->Ko bs t1 w->DuV P.R o->DuA P.R S i o->DuP P.R y o r (d+1)->Lo 10 L t->K .next ⟨l,t⟩)(N:Now H0 t0 P ty H)(D:DRo H0 ty c bs V)(q:Ko bs t1 ty)(F:DuV P.R V)(T:DuA P.R S i V)(C:DuP P.R y V r d)
(u:L 3=aM (.ref c))(Q:L 6=aM (.int y.2.1))(Y:L 7=aM (.str y.2.2))(U:L 8=aM (.int r))(l9:L 9=aM (cI j))(v:L 10=aM (.int d)):ae (ah fF mF n) mF jV ⟨H,L⟩ K FX:=by
 refine W.asg (v:=eB (eU P.R r d y.2.2,r,d)) (.tu (.cons (B7 f (.ix (.v l9) .c (Ca p)) v Y) (.cons (.v U) (.cons (.v v) .nil)))) ?_
 obtain⟨b,O⟩:∃b,bs[y.2.1+d]?=aM b:=⟨_,o2 (D.len▸Mz X)⟩
 have J:=od O
 have B:=D.w _ _ O
 have A:Ev (upd L 11 (eB (eU P.R r d y.2.2,r,d))) H (.ix (.v 3) (.op .add (.v 6) (.v 10))) (.ref b):=.ix (.v u) (.add (.v Q) (.v v)) (eQ (f:=.ref) (i:=y.2.1+d) (N.T.gL D.a) O)
 have E:DuS P.R (y.2.1+d) (eU P.R r d y.2.2,r,d):=⟨aJ.mpr ⟨(kO.mp p).1,f⟩,y.2.1,y.2.2,R▸m.1,rfl,rfl⟩
 have pd:=mI (E.asc G)
 refine W.rX (.cm (.v bg) A (lh (inL (f:=eB) (N.T.gL B) (okL.of (d:=1) (λz hz=>mI (DuS.asc G hz)) (by decide) (F.s _)) pd.1 (cy pd.2 (by decide)) λk k e=>iM _ _ e))) (λhn=>?_) λhm=>W.nil (g N D q F T (C.next λk k k=>hm) (Lo.up .r))
 have I:Lev V (vS V (y.2.1+d) (eU P.R r d y.2.2,r,d)):=λh x a=>so.mpr (.inl a)
 exact W.f7 N (D.fr b J) B A (.v bg) ((h7 eB).symm▸b5 (y1 (DuS.len G (F.nd _) (F.s _))) rfl) λt' H' N' g' M=>W.nil (g N' (D.put Z O g' M) (λa ρ s h=>M _ _ (λe=>s (e▸J)) (q _ _ s h)) (F.put hn E) (T.up I) ((C.up I).next λk k k=>so.mpr (.inr ⟨rfl,rfl⟩)) (Lo.up .r))
theorem JD{r:ki}{K:NE}(G:aj P.R)(f:SmS P.R y)(g:P.R[r]?=aM O)(Q:c∉bs)
(R:∀{X Z l j},Now H0 t0 P j X->DRo H0 j c bs l->Ko bs t1 j->DuV P.R l->DuA P.R S i l->DuP P.R y l (r+1) 0->Lo 10 L Z->K .next ⟨X,Z⟩)(N:Now H0 t0 P ty H)(D:DRo H0 ty c bs V)(q:Ko bs t1 ty)(F:DuV P.R V)(t:DuA P.R S i V)(T:DuP P.R y V r 0)
(Y:L 2=aM (.int 4))(U:L 3=aM (.ref c))(l5:L 5=aM (.str y.1))(u:L 6=aM (.int y.2.1))(l7:L 7=aM (.str y.2.2))(l8:L 8=aM (.int r))(C:L 9=aM (cI O)):ae (ah fF mF n) mF jW ⟨H,L⟩ K FX:=by
 refine W.f6 (p:=lhs P.R r=y.1) (.cm (.ix (.v C) .c (dU g▸rfl)) (.v l5) (eqS (jx G (kO.mp g).1) (gN f.1.nm))) (λe=>?_) λe=>W.nil (R N D q F t (T.row λd' ζ h=>p7 h e) .r)
 have p:=G.ln r
 have k:=Ev.x7 (Ev.ix (.v C) .c (Ca (H:=H) g)) (gh (cy p (by decide)))
 rw[h7] at k
 refine frR (ys:=Lk (min (rhs P.R r).length (4 - y.2.1)+1)) (f:=iC) (I:=λd=>DuJ H0 t0 P c bs t1 10 L (λV=>DuA P.R S i V/\DuP P.R y V r d)) (.one (.add (.mn k (.sub (.v Y) (.v u))) .c)) ((dd (λv=>hJ [.int v]) (K0 f.2)).trans (gk (eF (Lw (cy (Qc _ _) p)) (by decide)))) ⟨V,ty,N,D,q,F,⟨t,T⟩,.r⟩ ?_ ?_
 ·intro d z H3 b K3 hz J B
  obtain⟨x,rfl⟩:=kO.mp hz
  have x:=tc (MI x LJ)
  have a:=Nat.add_le_of_le_sub' f.2 (cy x (PX _ _))
  obtain⟨V,t3,A,E,I,M,⟨o,w⟩,s⟩:=J
  erw[Oo _]
  exact JC G f g e (cy x (Qc _ _)) a Q (λN D q F t T s'=>B.nxt ⟨_,_,N,D,q,F,⟨t,T⟩,s.t ((Lo.up .r:Lo 10 b (upd b 10 (iC d))).t s')⟩) A E I M o w ((s 3 rfl).trans U) ((s 6 rfl).trans u) ((s 7 rfl).trans l7) ((s 8 rfl).trans l8) ((s 9 rfl).trans C) rfl
 ·rintro H3 b ⟨V,t3,A,E,I,M,⟨o,w⟩,s⟩
  rw[LJ] at w
  exact W.nil (W.nil (R A E I M o (w.row λd' m ζ h1 h2=>p7 (Nat.le_min.mpr ⟨h1,Nat.le_sub_of_add_le' h2⟩) (QU m)) s))
theorem JE{K:NE}(G:aj P.R)(T:SmS P.R y)(x:t1 Y=aM (.ak (P.R.map cI)))(C:Y∉bs)(b:c∉bs)
(B:∀{O j o w},Now H0 t0 P w O->DRo H0 w c bs o->Ko bs t1 w->DuV P.R o->DuA P.R S i o->DuP P.R y o P.R.length 0->Lo 8 L j->K .next ⟨O,j⟩)(N:Now H0 t0 P ty H)(D:DRo H0 ty c bs V)(q:Ko bs t1 ty)(F:DuV P.R V)(p:DuA P.R S i V)
(a:L 0=aM (.ref Y))(A:L 2=aM (.int 4))(E:L 3=aM (.ref c))(I:L 5=aM (.str y.1))(M:L 6=aM (.int y.2.1))(d:L 7=aM (.str y.2.2)):ae (ah fF mF n) mF jX ⟨H,L⟩ K FX:=by
 refine frE (ys:=P.R) (f:=cI) (I:=λr=>DuJ H0 t0 P c bs t1 8 L (λV=>DuA P.R S i V/\DuP P.R y V r 0)) (.v a) ⟨V,ty,N,D,q,F,⟨p,.z0⟩,.r⟩ (λr H L h=>h.casesOn λv v N v k v v v=>N.T.gL (k _ _ C x)) ?_ λH L h=>h.casesOn λV ty N D k F h s=>W.nil (B N D k F h.1 h.2 s)
 intro r f O j z m J g
 obtain⟨V,Q,e,R,q2,X,⟨l,t⟩,s⟩:=J
 exact JD G T m b (λN D q F p Z u=>g.nxt ⟨_,_,N,D,q,F,⟨p,Z⟩,(s.up.up:Lo 8 L (upd (upd j 8 (.int r)) 9 (cI f))).t u⟩) e R q2 X l t ((s 2 rfl).trans A) ((s 3 rfl).trans E) ((s 5 rfl).trans I) ((s 6 rfl).trans M) ((s 7 rfl).trans d) rfl rfl
inductive CrI(H0:CH)(t0:TY)(P:Par)(t1:TY)(i:ki)(acc:cp CV)(H:CH)(L:EN):Prop
 | mk (bs:cp ki) (ty:TY) (N:Now H0 t0 P ty H) (e:acc=bs.map .ref) (hl:bs.length=i) (g:∀b∈bs,H0.free b/\ty b=aM (.ak [])) (nd:bs.Nodup) (k:∀a ρ,t1 a=aM ρ->ty a=aM ρ/\a∉bs)
inductive JF(R:cp aE)(W:cp (cp DuT))(h:ki):Prop
 | mk (m r:cp DuT) (e:W[h]?=aM m) (s:bY (r.map eB)=m.map eB) (nd:r.Nodup) (mem:∀x,x∈r↔DuS R h x)
theorem K4(N:Now H0 t0 P ty H)(G:aj P.R)(hr:ty Y=aM (.ak (P.R.map cI)))(R:ty U=aM (.ak (S.map gm)))(hS:∀p,p∈S↔SmS P.R p)
(hQ:∀c cs (W:cp (cp DuT)) z H',Now H0 t0 P z H'->cD eB z c cs W->Ka ty z->(∀h,h<=4->JF P.R W h)->Q (.ref c) H'):ah fF mF (n+2) 473 [.ref Y,.ref U,.int 4] H Q:=by
 refine bK [.ref Y,.ref U,.int 4] (d:=pZ) rfl rfl rfl rfl λFQ B v=>?_
 refine W.se (coS (α:=ki) (ys:=Lk 5) (λi=>.ai (((Lk 5).map iC).drop i)) (λv y=>iC y) (λv y L=>upd L 4 (iC y)) (λv v v=>rfl) (sq (.one (.add (.v rfl) .c)) Cb) (b5 (b:=5) (Lf _) rfl) (CrI H0 t0 P ty) ⟨[],ty,N,rfl,rfl,aO,.nil,λa A h=>⟨h,Le⟩⟩ (λv v v v v=>bE) ?_ ?_)
 ·intro i y z0 H1 L1 E J Q' O c hc
  obtain⟨bs,t1,N1,e,X,g,nd,k⟩:=J
  exact N1.nL (G:=λH=>Q' (.ref c) ⟨H,_⟩) hc λf H2 Z g2 f2 o=>O ⟨bs++[c],f,Z,e▸qO,GE.trans (dd (·+1) X),λb I=>(LB.mp I).elim (λh=>⟨(g b h).1,(o _ _ (g b h).2).1⟩) λh=>n2.mp h▸⟨f2,g2⟩,cQ nd λh=>(o _ _ (g c h).2).2 rfl,λa A h=>⟨(o _ _ (k a A h).1).1,λhm=>(LB.mp hm).elim (k a A h).2 λe=>(o _ _ (k a A h).1).2 (n2.mp e)⟩⟩
 intro z0 H1 L1 J c hc
 obtain⟨bs,t1,N1,rfl,X,g,nd,k⟩:=J
 refine N1.nL (G:=λH=>ae (ah fF mF (n+1)) mF _ ⟨H,upd _ 3 (.ref c)⟩ FQ FX) hc λf H2 Z g2 f2 o=>?_
 have cb:c∉bs:=λh=>(o _ _ (g c h).2).2 rfl
 have D0:DRo H0 f c bs λv=>[]:=⟨g2,λi a h1=>(o _ _ (g a (od h1)).2).1,λb I=>(g b I).1,nd,X⟩
 have u:∀{M:TY},Ko bs f M->Ka ty M:=λq a A h=>q _ _ (k _ _ h).2 (o _ _ (k _ _ h).1).1
 generalize hL:upd (jD 0 [.ref Y,.ref U,.int 4]) 3 (.ref c)=C
 have l0:C 0=aM (.ref Y):=hL▸rfl
 have l1:C 1=aM (.ref U):=hL▸rfl
 have l2:C 2=aM (.int 4):=hL▸rfl
 have l3:C 3=aM (.ref c):=hL▸rfl
 refine frS (ys:=S) (λi=>.list U i) (λv y=>gm y) (λ_ (y:Lj×ki×Lj) L=>upd (upd (upd L 5 (.str y.1)) 6 (.int y.2.1)) 7 (.str y.2.2)) (λv v v=>rfl) (bp (.v l1) (Z.T.gL (u (λv v v h=>h) _ _ R))) (λi=>DuJ H0 t0 P c bs f 5 C (DuA P.R S i)) ⟨_,f,Z,D0,λv v v h=>h,⟨λv=>.nil,λv=>aO⟩,λv v h=>p7 h (MD _),.r⟩ (λi H L h=>h.casesOn λv v N v q v v v=>ax (N.T.gL (u q _ _ R))) ?_ ?_
 ·intro i y H3 L3 K E J hK
  obtain⟨V,M,N3,l,q3,T,r,s⟩:=J
  refine JE (y:=y) (S:=S) (i:=i) (t1:=f) G ((hS y).mp (od E)) (u (λv v v h=>h) _ _ hr) (k _ _ hr).2 cb (λN D q F r hP s'=>hK.nxt ⟨_,_,N,D,q,F,λm y' hm e=>(LV (tc hm)).elim (λq=>r m y' q e) λq=>?_,(s.up.up.up:Lo 5 C (upd (upd (upd L3 5 (.str y.1)) 6 (.int y.2.1)) 7 (.str y.2.2))).t s'⟩) N3 l q3 T r ((s 0 rfl).trans l0) ((s 2 rfl).trans l2) ((s 3 rfl).trans l3) rfl rfl rfl
  subst q
  exact ey (E.symm.trans e)▸hP
 intro H3 L3 J
 obtain⟨V,M,N3,l,q3,T,r,s⟩:=J
 have gb:∀{i b},bs[i]?=aM b->M b=aM (.ak ((V i).map eB)):=λh=>l.w _ _ h
 refine W.nil (W.vv (coR (f:=eB) (ys:=bs) (λi=>.list c i) (λv b=>.ref b) (λv b L=>upd L 12 (.ref b)) (λv v v=>rfl) N3 (bp (.v ((s 3 rfl).trans l3)) (N3.T.gL l.a)) (X▸b5 (b:=5) (Lf _) rfl) 0 (λv v v h=>h.up) (λi b m=>bY ((V i).map eB)=m.map eB) (λi H t' N q=>ax (N.T.gL (q _ _ l.a))) ?_ ?_))
 ·intro i b H4 t4 L4 I N4 q4 _ Q' O
  refine oEA (si iM (l:=V i)) λm em v=>?_
  exact rW (Ev.go (.v rfl) ⟨b,(V i).map eB,[.str,.int,.int],rfl,N4.T.gL (q4 _ _ (gb I)),(h7 eB).symm▸DuS.len G (T.nd i) (T.s i),rfl,λy E=>(p9.mp E).elim λx h=>h.2▸sk ((T.s i x h.1).asc G),λd hd=>
   N4.nL (G:=λH=>Q' (.ref d) ⟨H,_⟩) hd λt5 H5 N5 g5 v q5=>O d m t5 H5 N5 (em▸g5) q5.aa em⟩)
 ·intro d cs W t4 H4 N4 R4 q4 hW hF
  refine B (hQ d cs W t4 H4 N4 R4 ((u q3).t q4) λh hh=>?_)
  have h1:=o2 (l:=bs) (i:=h) (l.len▸Mz hh)
  have h2:=o2 (l:=W) (i:=h) (hW▸l.len▸Mz hh)
  refine⟨_,V h,h2,hF h _ _ h1 h2,T.nd h,λx=>⟨T.s h x,λd=>?_⟩⟩
  obtain⟨x1,x2,x3⟩:=x
  refine qP d λhi w t R e ex=>?_
  subst e
  have ex:x1=eU P.R x2 x3 t:=ex
  subst ex
  refine oE (Mm.mp ((hS (lhs P.R x2,w,t)).mpr ⟨R,cy (LA _ _) hh⟩)) λj hj=>?_
  exact r j _ (kO.mp hj).1 hj x2 x3 (.inl (aJ.mp hi).1) rfl (aJ.mp hi).2 hh
end
section
variable{R:cp aE}{x:Lj}{j k:ki}
theorem Ld.uq(h:Ld R i x k)(z:Ld R j y k):x=y:=by
 refine aA h λq Q U v=>?_
 refine aA z λV Q Q Y=>?_
 refine oE (Ot _ U) λp w=>?_
 exact(bv.mp w).elim λd h=>ey (h.2.2.symm.trans (mC (R:=R) (I:=moves R V y) (S:=λp=>∀d,p.2=d+1->(rhs R p.1)[d]?=aM y) (λp Q r Q d h=>p7 h (MK d).symm) (λp w d h=>(bv.mp w).elim λJ z=>Oa (h.symm.trans z.1)▸z.2.2) p (ey (v.symm.trans Y)▸kl w) d h.1))
theorem Cc{l:cp (Lj×ki)}(Q:l.Nodup)(u:∀x y k,(x,k)∈l->(y,k)∈l->x=y):(l.map (·.2)).Nodup:=
 Nm.mpr (Q.imp_of_mem λ{a b} w Y z e=>z (MX (u a.1 b.1 a.2 w (by rw[e];exact Y)) e))
structure WS(R:cp aE)(W:cp (cp ki)):Prop where
 len:W.length=(CC R).length
 at_:∀(j:ki) r,W[j]?=aM r->r.Nodup/\∀k,k∈r↔∃x,Ld R j x k
section
variable{r l0:cp ki}
theorem WS.row(S:WS R W)(h:j<(CC R).length):∃r,W[j]?=aM r:=⟨_,o2 (S.len.symm▸h)⟩
theorem WS.lt(S:WS R W)(h:r∈W)(z:k∈r):k<W.length:=by
 refine oE (Mm.mp h) λj Q=>?_
 refine oE (((S.at_ j r Q).2 k).mp z) λx d=>?_
 exact S.len.symm▸d.lt.2
theorem WS.pth(S:WS R W)(h:Led W l0 i)(p:Pth R i n k):Led W l0 k:=by
 induction p with
 | z=>exact h
 | s _ d w=>exact(S.row d.lt.1).elim λr Q=>w.s Q (((S.at_ _ r Q).2 _).mpr ⟨_,d⟩)
theorem WS.to(S:WS R W)(h:Led W l0 k):∃j∈l0,∃n,Pth R j n k:=by
 induction h with
 | b h=>exact⟨_,h,0,.z⟩
 | s _ z Q w=>exact w.imp λi h=>⟨h.1,h.2.elim λn p=>(((S.at_ _ _ z).2 _).mp Q).elim λx d=>⟨n+1,p.s d⟩⟩
theorem WS.hd(S:WS R W)(w:W[j]?=aM r)(p:Pth R j n k):(n=0/\k=j)∨Led W r k:=by
 induction p with
 | z=>exact .inl ⟨rfl,rfl⟩
 | s _ d Y=>exact .inr (Y.elim (λh=>.b (((S.at_ j r w).2 _).mpr ⟨_,h.2▸d⟩)) λh=>(S.row d.lt.1).elim λU Q=>h.s Q (((S.at_ _ U Q).2 _).mpr ⟨_,d⟩))
theorem WS.K6(S:WS R W)(z:W[j]?=aM r):Led W r j↔sf R j:=
 ⟨λh=>(S.to h).elim λi h=>h.2.elim λn p=>(((S.at_ j r z).2 i).mp h.1).elim λx d=>⟨n,Nk 1 n▸(Pth.z.s d).t p⟩,λh=>h.elim λn p=>(S.hd z p).resolve_left λh=>MK n h.1⟩
theorem WS.afk(S:WS R W)(z:∀j,j∈l0↔sf R j):Led W l0 k↔Afk R k:=by
 constructor
 ·intro h
  refine JS (S.to h) λj Q n p=>?_
  exact⟨j,n,(z j).mp Q,p⟩
 ·rintro⟨j,n,w,p⟩
  exact S.pth (.b ((z j).mpr w)) p
end
def dtd(R:cp aE)(nm:cp Lj)(i:ki):cp Pl:=(Lk i).flatMap λr=>if lhs R r∈nm then(Lk ((rhs R r).length+1)).map λd=>(r,d) else []
section
variable{nm:cp Lj}
theorem uo{i:ki}:dtd R nm (i+1)=dtd R nm i++if lhs R i∈nm then(Lk ((rhs R i).length+1)).map λd=>(i,d) else []:=by
 unfold dtd
 rw[VN,UA,flatMap_singleton]
set_option tactic.hygienic true in
theorem xm{p:Pl}:p∈dtd R nm R.length↔p∈ai R/\lhs R p.1∈nm:=by
 unfold dtd
 rw[MB]
 constructor
 ·rintro⟨r,w,z⟩
  split at z
  ·rename_i h
   refine oEA (p9.mp z) λd Y Q=>?_;subst Q
   exact⟨aJ.mpr ⟨LI.mp w,tc (LI.mp Y)⟩,h⟩
  ·exact p7 z Le
 ·rintro⟨z,h⟩
  have z:=aJ.mp z
  exact⟨p.1,LI.mpr z.1,by rw[K2 h];exact p9.mpr ⟨p.2,LI.mpr (Mz z.2),rfl⟩⟩
theorem Cd{i:ki}:(dtd R nm i).Pairwise λp q=>p.1<q.1∨p.1=q.1/\p.2<q.2:=by
 refine Ug.mpr ⟨λr w=>?_,Q5.imp λ{a b} Q x Y y U=>.inl ?_⟩
 ·split
  ·exact Nm.mpr (Q5.imp λh=>.inr ⟨rfl,h⟩)
  ·exact .nil
 ·have k:∀{r:ki} {x:Pl},x∈(if lhs R r∈nm then(Lk ((rhs R r).length+1)).map λd=>(r,d) else [])->x.1=r:=λ{r x} h=>by
   split at h
   ·refine oEA (p9.mp h) λd w z=>?_;subst z;rfl
   ·exact p7 h Le
  rw[k Y,k U];exact Q
theorem Ce{i:ki}:(dtd R nm i).Nodup:=Cd.imp λh e=>(e▸h).elim (MR _) λh=>MR _ h.2
theorem Hz{p q:Pl}(h:p.1<q.1∨p.1=q.1/\p.2<q.2):leV (plC p) (plC q)=true:=by
 show(if iC p.1=iC q.1 then(if iC p.2=iC q.2 then true else decide ((p.2:Nj)<=q.2)) else decide ((p.1:Nj)<=q.1))=true
 rcases h with h | ⟨h,z⟩
 ·rw[E1 λe:iC p.1=iC q.1=>Lu h (iL e)]
  exact Ln (NW.mpr (y1 h))
 ·rw[K2 (dd iC h),E1 λe:iC p.2=iC q.2=>Lu z (iL e)]
  exact Ln (NW.mpr (y1 z))
theorem Cf{l:cp Pl}(z:l.Nodup)(h:∀p,p∈l↔p∈dtd R nm i):bY (l.map plC)=(dtd R nm i).map plC:=
 (eN (io (ks:=[.int,.int]) rfl) (λy Q=>(p9.mp Q).elim λw e=>e.2▸rfl) (((Qr Ce z).mpr λa=>(h a).symm).map plC) (Nm.mpr (Cd.imp Hz))).symm
end
theorem HA{S:cp (Lj×ki×Lj)}:∃nm:cp Lj,bY (eY (S.map λp=>.str p.1))=nm.map .str/\(∀x,x∈nm↔∃p∈S,p.1=x)/\nm.length<=S.length:=by
 refine oA (nK (S.map λp=>CV.str p.1)) λY w=>?_
 have z:∀v,v∈bY (eY (S.map λp=>.str p.1))↔∃p∈S,CV.str p.1=v:=λv=>o6.trans ((w v).trans p9)
 refine oE (of_map (f:=CV.str) λv Q=>((z v).mp Q).elim λp h=>⟨p.1,h.2.symm⟩) λnm e=>?_
 refine⟨nm,e,λx=>(o5 (f:=CV.str) λU U=>CV.str.inj).symm.trans (e▸(z _).trans ⟨λh=>h.imp λp h=>⟨h.1,CV.str.inj h.2⟩,λh=>h.imp λp h=>⟨h.1,dd _ h.2⟩⟩),?_⟩
 have:=br ((bW _).nodup_iff.mpr Y) (m:=S.map λp=>CV.str p.1) λv Q=>(w v).mp (o6.mp Q)
 rwa [e,h7,h7] at this
end
section
variable{P:Par}{z U:TY}{H:CH}{n w Y c i:ki}{Q:Rs}{L:EN}{nm:cp Lj}
theorem coV{α:Type}{H:CH}{L:EN}{Q:Ps}{ys:cp α}(O:ki->It)(w:ki->α->CV)(J:ki->α->EN->EN)(p:∀i y L,de L t (w i y)=aM (J i y L))(b:∀T:It->St->Prop,T (O 0) ⟨H,L⟩->wpI f M l ⟨H,L⟩ T X)
(B:∀i,(O i).next H=aM (ys[i]?.map λy=>(w i y,O (i+1))))(N:ys.length<szl)(k:ki)(x:∀i y o,Lo k L o->Lo k L (J i y o))(g:α->CV)(a:∀i y o,ys[i]?=aM y->Lo k L (J i y o)->Ev (J i y o) H j (g y))
(r:∀c,H.free c->Q (.ref c) ⟨H.aD c (ys.map g),L⟩):wpE f M (.co j t l []) ⟨H,L⟩ Q X:=
 coP O w J p b B N (λV V=>true) (λV=>g) (Lo k L) .r (λi y L A C=>⟨x i y L C,λV V V V q=>q,λV=>a i y L A (x i y L C)⟩) λc D=>by
  (erw[oj (p:=λV=>true) (g:=g)];erw[Qd.mpr λV V=>rfl]);exact r c D
theorem Eu(G:aj R){i:ki}(h:i<=R.length):(dtd R nm i).length<=15:=cy (br Ce λp y=>(MB.mp y).elim λr q=>by
 refine oA q λk y=>?_
 split at y
 ·refine oEA (p9.mp y) λd j V=>?_;subst V
  exact aJ.mpr ⟨rf (LI.mp k) h,tc (LI.mp j)⟩
 ·exact p7 y Le) (gi G)
theorem Ew(N:Now v U P z H)(G:aj P.R)(a:z w=aM (.ak (P.R.map cI)))(R:z Y=aM (.ak (nm.map .str)))(S:∀x∈nm,aZ x)
(X:∀c j A,Now v U P j A->j c=aM (.ak ((dtd P.R nm P.R.length).map plC))->Ka z j->Q (.ref c) A):ah fF mF (n+1) 485 [.ref w,.ref Y] H Q:=by
 refine bK [.ref w,.ref Y] (d:=jY) rfl rfl rfl rfl λFQ J V=>?_
 refine W.jh N .nil λc t1 H1 D Z V E=>?_
 refine frV (ys:=P.R) (t1:=z) (j:=2) (f:=plC) (l0:=[]) (λi=>.bu i (.list w i)) (λi r=>.tup [.int i,cI r]) (λi r L=>upd (upd L 3 (.int i)) 4 (cI r)) (λV V V=>rfl) (wY (.v rfl) (D.T.gL (E _ _ a).1)) (Lo 2 _) .r (λV V V h=>h.up.up) (λi l=>l=dtd P.R nm i) D Z E.aa rfl rfl (λi H t N q=>iV (w:=cI) (ax (N.T.gL (q _ _ a)))) ?_ λT I c l M o f q2 F s g=>W.ret (.v g) (J (X c M T o (F▸f) q2))
 intro r C T I K c l M b m o f q2 F s g
 have O:=(kO.mp b).1
 have k:=G.ln r
 refine W.f6 (p:=lhs P.R r∈nm) (.cm (.ix (.v rfl) .c (dU b▸rfl)) (.v (s 1 rfl)) (dT (o.T.gL (q2 _ _ R)) S (jx G O))) (λe=>?_) λe=>W.nil (m o f q2 (F.trans ((Mp _).symm.trans (uo.trans (dd (dtd P.R nm r++·) (E1 e))).symm)) s g)
 have p:Ev (upd (upd I 3 (.int r)) 4 (cI C)) T (.b1 .len (.ix (.v 4) (.c (.int 1)))) (.int (rhs P.R r).length):=h7 (as:=rhs P.R r) CV.str▸Ev.x7 (Ev.ix (.v rfl) .c (Ca b)) (gh (cy k (by decide)))
 have u:(((Lk ((rhs P.R r).length+1)).map λd=>(r,d)).map plC).length<=3:=cy (p8 ((h7 _).trans ((h7 _).trans LJ))) (Lw k)
 exact W.Ht (m:=((Lk ((rhs P.R r).length+1)).map λd=>(r,d)).map plC) o g f (vO (cy (LY (cy (p8 (h7 _)) (F▸Eu G (y1 O))) u) (by decide)))
  (λQ' h=>coV (α:=ki) (ys:=Lk ((rhs P.R r).length+1)) (λi=>.ai (((Lk ((rhs P.R r).length+1)).map iC).drop i)) (λV y=>iC y) (λV y L=>upd L 5 (iC y)) (λV V V=>rfl) (sq (.one (.add p .c)) (gk (m:=(rhs P.R r).length+1) (eF (Lw k) (by decide)))) (λi=>bE) (LJ.symm▸b5 (Lw k) rfl) 5 (λV V V h=>h.up) (λd=>plC (r,d)) (λi y L' hy s=>.tu (.two (.v (s 3 rfl)) (.v rfl))) λc1 B=>Nt (f:=λd=>(r,d)) (g:=plC)▸h c1 B) λd t3 H3 N3 g3 k3=>W.nil (m N3 (g3.trans (dd (λl=>aM (aK.ak l)) LP.symm)) (q2.t k3.aa) (F▸(uo.trans (dd (dtd P.R nm r++·) (K2 e))).symm) s.up rfl)
end
section
variable{w:PT}{M:MT}{U:Type}{H V:CH}{L:EN}{z v:CE}{Q:Ps}{X:No}{P:Par}{k j J:TY}{a n g:ki}{y:cp CE}
theorem K7{m:ki}(O:Ev L H o (.ref c))(p:H.cls c=aM d)(f:bn d=true)(l:M d m=aM g)(T:H.att m c=none)(r:w g [.ref c] H λv x=>wpE w M (.co z t (.val (.c v)) y) ⟨x,L⟩ Q X):wpE w M (.co z t (.val (.me o m [])) y) ⟨H,L⟩ Q X:=O _ _ _ _ ⟨c,d,g,rfl,p,f,l,T,r⟩
theorem K8(o:Evs L H Y ws)(r:w g ws H λv O=>wpE w M (.co z t (.val (.c v)) y) ⟨O,L⟩ Q X):wpE w M (.co z t (.val (.fn g Y)) y) ⟨H,L⟩ Q X:=o _ _ _ _ r
theorem cmE(r:wpE w M e ⟨H,L⟩ (λx st=>wpE w M v st (λz st=>∃r,b9 st.H o x z=aM r/\Q (.bool r) st) X) X):wpE w M (.cm o e v) ⟨H,L⟩ Q X:=r
theorem JG(r:wpE w M e ⟨H,L⟩ (λx st=>w g [x] st.H λy o=>Q y ⟨o,st.L⟩) X):wpE w M (.fn g [e]) ⟨H,L⟩ Q X:=r
theorem fnE(h:Evs L H Y ws)(r:w g ws H λy o=>Q y ⟨o,L⟩):wpE w M (.fn g Y) ⟨H,L⟩ Q X:=h _ _ _ _ r
theorem JH{g:U->CV}{l:cp U}(o:∀a b,g a=g b->a=b)(e:s=bY (l.map g))(h:H.getL a=aM (bY (l.map g)))(O:H.getL b=aM s)(pd:∀x∈l,(g x).pure=true/\(g x).depth<=1):b9 H .eq (.ref a) (.ref b)=aM true:=by
 refine jy (si o (l:=l)) λm em p T p=>?_
 subst e
 rw[em] at h O
 classical
 have f:=okL.of pd (by decide) (l:=m) λx c=>(T x).mp c
 exact(KT h O f f λp=>rfl).trans (dd aM (Ln rfl))
end
section
variable{R:cp aE}{k:ki}{x y:Lj}
theorem Ly.in(l:Ly R h x k):(h=0/\x=u 1/\k=0)∨∃Q j t,h=Q+1/\Ly R Q t j/\Ld R j x k:=by
 cases l with
 | z=>exact .inl ⟨rfl,rfl,rfl⟩
 | s l d=>exact .inr ⟨_,_,_,rfl,l,d⟩
theorem Ly.uq(l:Ly R h x k)(w:Ly R h y k):x=y:=by
 rcases l.in with⟨a,b,_⟩ | ⟨_,_,_,a,_,d⟩ <;> rcases w.in with⟨Q,Y,_⟩ | ⟨_,_,_,Q,_,U⟩
 ·exact b.trans Y.symm
 ·exact p7 (a.symm.trans Q) (MK _).symm
 ·exact p7 (Q.symm.trans a) (MK _).symm
 ·exact d.uq U
theorem Ly.lt(G:aj R)(l:Ly R h x k):k<(CC R).length:=l.in.elim (λa=>a.2.2▸(kO.mp (bR G).hd).1) λ⟨_,_,_,_,_,d⟩=>d.lt.2
theorem Cg(G:aj R){l:cp (Lj×ki)}(z:l.Nodup)(Q:∀x y k,(x,k)∈l->(y,k)∈l->x=y)(w:∀x k,(x,k)∈l->k<(CC R).length):l.length<=109603:=by
 have:=br (Cc z Q) (m:=Lk (CC R).length) λk Y=>(p9.mp Y).elim λp e=>LI.mpr (e.2▸w p.1 p.2 e.1)
 rw[h7,LJ] at this
 exact cy this (gM G)
structure ur(R:cp aE)(j:ki)(r:cp (Lj×ki)):Prop where
 nd:r.Nodup
 len:r.length<=8
 m:∀x k,(x,k)∈r↔Ld R j x k
theorem Ex(G:aj R){l:cp (Lj×ki)}{Z:cp (cp DuT)}(m:∀x k,(x,k)∈l↔Ly R h x k)(o:Z.length=l.length)(O:∀(j:ki) y r,l[j]?=aM y->Z[j]?=aM r->∃q,(CC R)[y.2]?=aM q/\r=q.map λx=>(y.1,x))(x:DuT):(∃r∈Z,x∈r)↔DuS R h x:=by
 refine Iff.trans ⟨λU=>?_,λU=>?_⟩ (Fj G (h:=h) (x:=x.1) (p:=x.2))
 ·refine oEA U λr Y z=>?_
  refine oE (Mm.mp Y) λj p=>?_
  have f:=o2 (o▸(kO.mp p).1)
  refine oEA (O j _ r f p) λq v e=>?_
  rw[e] at z
  refine oEA (p9.mp z) λy L w=>?_;subst w
  exact⟨_,q,(m _ _).mp (od f),v,L⟩
 ·refine aX U λj q V v Q=>?_
  refine oE (Mm.mp ((m x.1 j).mpr V)) λi g=>?_
  have Y:=o2 (o.symm▸(kO.mp g).1)
  refine oEA (O i _ _ g Y) λt J e=>?_
  exact⟨_,od Y,e▸p9.mpr ⟨x.2,ey (v.symm.trans J)▸Q,rfl⟩⟩
theorem HB(G:aj R){l:cp (Lj×ki)}{Z:cp (cp DuT)}(Q:Z.length=l.length)(w:∀(j:ki) y r,l[j]?=aM y->Z[j]?=aM r->∃q,(CC R)[y.2]?=aM q/\r=q.map λx=>(y.1,x))(Y:r∈Z):r.Nodup:=by
 refine oE (Mm.mp Y) λj z=>?_
 refine oEA (w j _ r (o2 (Q▸(kO.mp z).1)) z) λq U e=>?_
 exact e▸Nm.mpr ((iZ G ((bR G).sub q (od U))).1.imp λh e=>h (dd PY e))
end
section
variable{P:Par}{z U k:TY}{H:CH}{n w c h:ki}{Q:Rs}{L:EN}{p:cp ki}{l:cp (Lj×ki)}
structure LyC(R:cp aE)(h:ki)(l:cp (Lj×ki)):Prop where
 nd:l.Nodup
 m:∀x k,(x,k)∈l↔Ly R h x k
theorem LyC.len(G:aj R)(C:LyC R h l):l.length<=109603:=Cg G C.nd (λx y k j f=>((C.m x k).mp j).uq ((C.m y k).mp f)) λx k h=>((C.m x k).mp h).lt G
structure AhC(R:cp aE)(l l2:cp (Lj×ki)):Prop where
 nd:l2.Nodup
 m:∀x k,(x,k)∈l2↔∃p∈l,Ld R p.2 x k
theorem AhC.len(G:aj R)(C:AhC R l j):j.length<=109603:=Cg G C.nd (λx y k f g=>((C.m x k).mp f).elim λp a=>((C.m y k).mp g).elim λq b=>a.2.uq b.2) λx k h=>((C.m x k).mp h).elim λp a=>a.2.lt.2
theorem AhC.to(C:LyC R h l)(A:AhC R l f):LyC R (h+1) f:=
 ⟨A.nd,λx k=>(A.m x k).trans ⟨λh=>h.elim λp a=>((C.m p.1 p.2).mp a.1).s a.2,λh=>by
  rcases h.in with⟨a,_⟩ | ⟨_,j,t,e,a,d⟩
  ·exact p7 a (MK _)
  ·exact⟨(t,j),(C.m t j).mpr (Oa e▸a),d⟩⟩⟩
theorem Ch(G:aj P.R)(N:Now v U P z H)(h8:cD plC z V J (CC P.R))(C:LyC P.R h l)(w:z c=aM (.ak (l.map leC)))(l8:L 8=aM (.ref V))(E:L 15=aM (.ref c)){A:Ps}
(hQ:∀D (T:cp DuT) f Y,Now v U P f Y->f D=aM (.ak (bY (T.map eB)))->Ka z f->T.Nodup->(∀x,x∈T↔DuS P.R h x)->A (.ref D) ⟨Y,L⟩):wpE (ah fF mF (n+1)) mF (.fn 502 [.co (.co (.tu [.v 17,.v 19,.v 20]) (.t [19,20]) (.val (.ix (.v 8) (.v 18))) []) (.t [17,18]) (.val (.v 15)) []]) ⟨H,L⟩ A X:=by
 have hz:=C.len G
 refine JG (coR (f:=eB) (ys:=l) (λi=>.list c i) (λj p=>leC p) (λj p L=>upd (upd L 17 (.str p.1)) 18 (.int p.2)) (λj j j=>rfl) N (bp (.v E) (N.T.gL w)) (b5 hz rfl) 17 (λj j j h=>h.up.up) (λj p r=>∃q,(CC P.R)[p.2]?=aM q/\r=q.map λx=>(p.1,x)) (λi H t' N' k'=>ax (N'.T.gL (k' _ _ w))) ?_ ?_)
 ·intro i p H2 k L2 hp B I s A M
  obtain⟨q,d⟩:∃q,(CC P.R)[p.2]?=aM q:=⟨_,o2 (((C.m _ _).mp (od hp)).lt G)⟩
  refine oEA ((h8.ay I).at B.T d) λb o ib=>?_
  exact coV (α:=Pl) (ys:=q) (λi=>.list b i) (λj p=>plC p) (λj p L=>upd (upd L 19 (.int p.1)) 20 (.int p.2)) (λj j j=>rfl) (bp (.ix (.v ((s 8 rfl).trans l8)) (.v rfl) ib) (B.T.gL o)) (λi=>ax (B.T.gL o)) (b5 (i3 G ((bR G).sub q (od d))) rfl) 19 (λj j j h=>h.up.up) (λx=>eB (p.1,x)) (λi y L' hy s=>.tu (.cons (.v (s 17 rfl)) (.cons (.v rfl) (.cons (.v rfl) .nil)))) λO m=>
   B.nL (G:=λH=>A (.ref O) ⟨H,_⟩) m λe F R S j W=>M O (q.map λx=>(p.1,x)) e F R (S.trans (dd (λl=>aM (aK.ak l)) (Nt (g:=eB) (f:=λx=>(p.1,x))).symm)) W.aa ⟨q,d,rfl⟩
 ·intro a bs Z k H2 B RZ I hl hZ
  have g:=Ex G C.m hl hZ
  exact Fk [.str,.int,.int] rfl iM B RZ (λr K=>HB G hl hZ K) (λr K x u=>have ha:=((g x).mp ⟨r,K,u⟩).asc G;⟨mI ha,sk ha⟩) (λT t Q=>DuS.len G t λx u=>(g x).mp (Q x u)) λD T e F R S W t ml=>hQ D T e F R S (I.t W) t λx=>(ml x).trans (g x)
theorem yr{K:NE}(G:aj P.R)(N:Now v U P z H)(I:cD leC z w o Y)(O:∀(j:ki) r,Y[j]?=aM r->ur P.R j r)(M:Y.length=(CC P.R).length)(C:LyC P.R h l)(gc:z c=aM (.ak (l.map leC)))(q:Ka t1 z)(m:L 11=aM (.ref w))(e:L 15=aM (.ref c))
(hK:∀{Z F u a g},Now v U P g Z->g u=aM (.ak (a.map leC))->Ka t1 g->LyC P.R (h+1) a->Lo 15 L F->F 15=aM (.ref u)->K .next ⟨Z,F⟩):ae (ah fF mF (n+1)) mF (n7.drop 1) ⟨H,L⟩ K FX:=by
 refine W.jh N .nil λd t4 H4 Q g4 f R=>?_
 have T:=(R _ _ gc).1
 refine frV (ys:=l) (t1:=t4) (j:=21) (f:=leC) (l0:=[]) (λi=>.list c i) (λf p=>leC p) (λ_ (p:Lj×ki) L=>upd (upd L 22 (.str p.1)) 23 (.int p.2)) (λf f f=>rfl) (bp (.v e) (Q.T.gL T)) (Lo 16 _) .r (λf f f h=>h.up.up) (λi=>AhC P.R (l.take i)) Q g4 (λf f h=>h) ⟨.nil,λx k=>⟨λh=>p7 h Le,λh=>h.elim λf h=>p7 h.1 Le⟩⟩ rfl (λi H z N q=>ax (N.T.gL (q _ _ T))) ?_ λH5 L5 d5 a t5 B S D A s t=>W.asg (.v t) (hK B S (q.t (R.aa.t D)) (AhC.to C (Mh (l:=l)▸A)) ((Lo.up .r:Lo 15 L (upd L 21 (.ref d))).t s).up rfl)
 intro i y H5 L5 K5 d5 a t5 V X B S D A s t
 obtain⟨r,J⟩:∃r,Y[y.2]?=aM r:=⟨_,o2 (M.symm▸((C.m _ _).mp (od V)).lt G)⟩
 refine oEA ((I.ay (R.aa.t D)).at B.T J) λb gb ib=>?_
 have E:=O _ _ J
 exact W.Jx B t S (.ix (.v ((s 11 rfl).trans m)) (.v rfl) ib) (B.T.gL gb) (by decide) mH (λp hp=>hp.elim (λh=>((A.m p.1 p.2).mp h).elim λq h=>lz (aI (h.2.sy G))) λh=>lz (aI (((E.m p.1 p.2).mp h).sy G))) (cy (LY (A.len G) E.len) (by decide)) λd6 t6 H6 N6 g6 k6=>X N6 g6 (D.t k6.aa) ⟨BY A.nd E.nd,λx k=>xj.trans ((or_congr (A.m x k) (E.m x k)).trans (sg (p:=λp:Lj×ki=>Ld P.R p.2 x k) V).symm)⟩ s.up rfl
theorem HC{K:NE}(G:aj P.R)(u:cD plC t1 V J (CC P.R))(A:cD leC t1 w o Y)(Q:∀(j:ki) r,Y[j]?=aM r->ur P.R j r)(E:Y.length=(CC P.R).length)(D:cD eB t1 y p O)(k:∀h,h<=4->JF P.R O h)(hh:h<=4)(N:Now v U P z H)(R:z c=aM (.ak (l.map leC)))(q:Ka t1 z)(C:LyC P.R h l)
(l8:L 8=aM (.ref V))(I:L 11=aM (.ref w))(M:L 14=aM (.ref y))(g:L 15=aM (.ref c))(s:L 16=aM (iC h))
(hK:∀{S d i X f},Now v U P f S->f i=aM (.ak (X.map leC))->Ka t1 f->LyC P.R (h+1) X->Lo 15 L d->d 15=aM (.ref i)->K .next ⟨S,d⟩):ae (ah fF mF (n+1)) mF n7 ⟨H,L⟩ K FX:=by
 obtain⟨m,r,e,es,nd,t⟩:=k h hh
 refine W.Hx (cmE (Ch G N (u.ay q) C R l8 g λi l' t3 H3 B g3 a F Z=>?_))
 refine oEA ((D.ay (q.t a)).at B.T e) λb gb ib=>?_
 have pd:∀x∈l',aZ x.1:=λx T=>((Z x).mp T).asc G
 exact Ev.go (.ix (.v M) (.v s) ib) ⟨false,neV (JH iM (es.symm.trans (yq iM [.str,.int,.int] rfl (λx T=>sk (((t x).mp T).asc G)) nd F λx=>(t x).trans (Z x).symm)) (B.T.gL g3) (B.T.gL gb) λx T=>mI (pd x T)),false,rfl,W.nil (yr G B (A.ay (q.t a)) Q E C (a _ _ R) (q.t a) I g hK)⟩
end
section
variable{w:PT}{b:cp CS}{Q:NE}{X:No}{H:CH}{L:EN}
theorem JI(r:wpE w M e ⟨H,L⟩ (λx st=>∃a m,x=.ref a/\st.H.getL a=aM m/\m.length<64/\(∀y∈m,y.is .str=true)/\(∃y∈m,∃z∈m,y≠z)/\∀c,st.H.free c->ae w M (.fr Y (.val (.c (.ref c))) b o::l) ⟨st.H.aD c (bY (eY m)),st.L⟩ Q X) X):ae w M (.fr Y (.val (.b1 .bS e)) b o::l) ⟨H,L⟩ Q X:=r
theorem K9{Q:LG->St->Prop}(r:wpE w M e ⟨H,L⟩ (λv st=>∃b,aL st.H v=aM b/\if b then Q true st else Q false st) X):jC w M [e] ⟨H,L⟩ Q X:=r
end
section
variable{P:Par}{Q t1:TY}{H:CH}{n c v T w U:ki}{L:EN}{J:cp ki}{S:cp (Lj×ki×Lj)}{nm bl:cp Lj}
structure BlC(R:cp aE)(nm:cp Lj)(i:ki)(bl:cp Lj):Prop where
 m:∀x,x∈bl↔∃y∈nm.take i,Gn R y y 1/\∃g,Gn R y x g
 len:bl.length<=8 * i
theorem BlC.blw(B:BlC R nm nm.length bl)(g:∀p,p∈S↔SmS R p)(k:∀x,x∈nm↔∃p∈S,p.1=x)(x:Lj):x∈bl↔Blw R x:=by
 refine(B.m x).trans (Mh (l:=nm).symm▸⟨λh=>?_,λh=>?_⟩)
 ·refine oEA h λy C j=>?_
  refine oEA ((k y).mp C) λp b z=>?_;subst z
  have s:=(g p).mp b
  exact⟨_,_,_,s.1,s.2,j⟩
 ·refine uv h λy w t s N o=>?_
  exact⟨y,(k y).mpr ⟨(y,w,t),(g _).mpr ⟨s,N⟩,rfl⟩,o⟩
theorem Ci{i:ki}{K:NE}(G:aj P.R)(Y:t1 v=aM (.ak (P.R.map cI)))(E:y=sP∨y∈aC)(U:nm[i]?=aM y)(V:i<=52)(N:Now f O P Q H)(m:Q c=aM (.ak (bl.map .str)))(q:Ka t1 Q)(B:BlC P.R nm i bl)(J:L 3=aM (.ref v))(r:L 5=aM (.str y))(C:L 31=aM (.ref c))
(F:∀{R I X b k},Now f O P k R->k X=aM (.ak (b.map .str))->Ka t1 k->BlC P.R nm (i+1) b->Lo 31 L I->I 31=aM (.ref X)->K .next ⟨R,I⟩):ae (ah fF mF (n+2)) mF iA ⟨H,L⟩ K FX:=by
 refine W.fn (.two (.v J) (.v r)) (Hy N G (q _ _ Y) E λu M t5 H5 a s D A j=>?_)
 have w:∀x,(∃z∈nm.take (i+1),Gn P.R z z 1/\∃g,Gn P.R z x g)↔x∈bl∨Gn P.R y y 1/\∃g,Gn P.R y x g:=λx=>(sg (p:=λz=>Gn P.R z z 1/\∃g,Gn P.R z x g) U).trans (SA (B.m x).symm)
 have pd:=lz (p:=(y,1)) (gN E)
 refine W.f6 (p:=(y,1)∈M) (.cm (.tu (.two (.v r) .c)) (.v rfl) (inL (f:=leC) (x:=(y,1)) (a.T.gL s) (okL.of (d:=1) (λp T=>lz (gN (Gn.nm E ((A p.1 p.2).mp T)))) (by decide) λo h=>h) pd.1 (cy pd.2 (by decide)) λo o e=>mH _ _ e)) (λt=>?_) λt=>W.nil (F a (D _ _ m) (q.t D) ⟨λx=>(Iff.trans (w x) ⟨λh=>h.resolve_right λh=>t ((A y 1).mpr h.1),.inl⟩).symm,cy B.len (NA 8 (MA i))⟩ (Lo.up .r) C)
 refine W.Ht (m:=(M.map (·.1)).map .str) a C (D _ _ m) (vO (cy (LY (cy (p8 (h7 _)) (cy B.len (NA 8 V))) (cy (p8 ((h7 _).trans (h7 _))) j)) (by decide))) (λQ' h=>coM (ys:=M) (λi=>.list u i) (λo p=>leC p) (λ_ (p:Lj×ki) L=>upd (upd L 28 (.str p.1)) 35 (.int p.2)) (λo o o=>rfl) (bp (.v rfl) (a.T.gL s)) (λi=>ax (a.T.gL s)) (b5 j rfl) (λp=>.str p.1) (λi p L' o=>.v rfl) λS d=>Nt (g:=CV.str) (f:=λp:Lj×ki=>p.1)▸h S d) λd6 t6 H6 Z g6 k6=>W.nil (F Z (g6.trans (dd (λl=>aM (aK.ak l)) LP.symm)) (q.t (D.t k6.aa)) ⟨λx=>Iff.symm ((w x).trans ((R6 ⟨λh=>h.2.elim λg h=>p9.mpr ⟨(x,g),(A x g).mpr h,rfl⟩,λh=>⟨(A y 1).mp t,(p9.mp h).elim λp e=>⟨p.2,e.2▸(A p.1 p.2).mp e.1⟩⟩⟩).trans LB.symm)),?_⟩ ((Lo.up .r:Lo 31 L (upd L 34 (.ref u))).up) rfl)
 exact cy (p8 (GE.trans (dd (bl.length+·) (h7 _)))) (LY B.len j)
theorem JJ{FQ:NE}(N:Now f O P Q H)(G:aj P.R)(A:Q v=aM (.ak (P.R.map cI)))(h8:cD plC Q T V (CC P.R))(z0:cD iC Q Y ws Z)(u:WS P.R Z)(z1:Q U=aM (.ak (J.map iC)))(nk:J.Nodup)(B:∀j,j∈J↔sf P.R j)(gb:Q c=aM (.ak (bl.map .str)))(E:∀x,x∈bl↔Blw P.R x)
(l3:L 3=aM (.ref v))(l8:L 8=aM (.ref T))(z2:L 25=aM (.ref Y))(z3:L 29=aM (.ref U))(z4:L 31=aM (.ref c))(R:∀{H' L'},FQ (.ret (.bool true)) ⟨H',L'⟩):ae (ah fF mF (n+2)) mF (fq.body.drop 17) ⟨H,L⟩ FQ FX:=by
 have hs:=gM G
 refine W.vv (cmE (JG (K8 (.two (.v z2) (.v z3)) (Jv N z0 z1 (u.len▸hs) (λr A k B=>u.lt A B) (λk h=>((B k).mp h).elim λn p=>u.len.symm▸p.st) nk λcl l t5 H5 S g5 k5 z5 m5=>?_))))
 have I:∀k,k∈l↔Afk P.R k:=λk=>(m5 k).trans (u.afk B)
 have lt:∀k∈l,∃q,(CC P.R)[k]?=aM q:=λk B=>by
  refine eC ((I k).mp B) λj n M q=>?_;obtain⟨m,p⟩:=M
  exact⟨_,o2 (q.lt p.st)⟩
 have R8:=h8.ay k5.aa
 have ll:l.length<=109603:=cy (br z5 (m:=Lk (CC P.R).length) λk B=>(lt k B).elim λq e=>LI.mpr (kO.mp e).1) (LJ.symm▸hs)
 refine coV (ys:=l) (λi=>.list cl i) (λC k=>iC k) (λC k L=>upd L 36 (iC k)) (λC C C=>rfl) (bp .c (S.T.gL g5)) (λi=>ax (S.T.gL g5)) (b5 ll rfl) 36 (λC C C h=>h.up) (λk=>.ref (V[k]?.getD 0)) (λi k L' B s=>?_) λd6 z6=>?_
 ·refine oE (lt k (od B)) λq d=>?_
  refine oEA (R8.w.sG d) λb E C=>?_
  exact .ix (.v ((s 8 rfl).trans l8)) (.v rfl) ((eQ (f:=.ref) (S.T.gL R8.a) E).trans (dd (λo:rt ki=>aM (Qe (CV.ref (o.getD 0)))) E.symm))
 refine S.nL (G:=λH=>ah fF mF (n+2) 502 [.ref d6] H _) z6 λt6 H6 N6 g6 C k6=>?_
 have RR:cD plC t6 d6 (l.map λk=>V[k]?.getD 0) (l.map λk=>(CC P.R)[k]?.getD []):=⟨Nt (g:=CV.ref) (f:=λk:ki=>V[k]?.getD 0)▸g6,.of ((h7 _).trans (h7 _).symm) λi a m h1 h2=>by
  rw[Mg] at h1 h2
  refine oEA (Me.mp h1) λk B X=>?_;subst X
  rw[B] at h2;cases h2
  refine oE (lt k (od B)) λq d=>?_
  refine oEA (R8.w.sG d) λb E gb=>?_
  show t6 (V[k]?.getD 0)=aM (.ak (((CC P.R)[k]?.getD []).map plC))
  rw[E,d]
  exact(k6 _ _ gb).1⟩
 have mr:∀r∈l.map (λk=>(CC P.R)[k]?.getD []),∃k∈l,(CC P.R)[k]?=aM r:=λr A=>(p9.mp A).elim λk h=>(lt k h.1).elim λq d=>⟨k,h.1,d.trans (dd aM ((dd (NS · []) d).symm.trans h.2))⟩
 have D:∀p,(∃r∈l.map (λk=>(CC P.R)[k]?.getD []),p∈r)↔p∈dtd P.R bl P.R.length:=λp=>by
  refine Iff.trans ⟨λh=>?_,λh=>?_⟩ ((Eo G).trans ((Pu λC=>(E _).symm).trans xm.symm))
  ·refine oEA h λr A hp=>?_
   refine oEA (mr r A) λk B e=>?_
   exact⟨k,r,(I k).mp B,e,hp⟩
  ·refine aX h λk q ha e hp=>?_
   exact⟨q,p9.mpr ⟨k,(I k).mpr ha,dd (NS · []) e⟩,hp⟩
 refine Fk [.int,.int] rfl (λC C=>mD) N6 RR (λr A=>(mr r A).elim λk h=>(iZ G ((bR G).sub r (od h.2))).1) (λr C x C=>⟨⟨rfl,e0 rfl⟩,rfl⟩) (λl' F z7=>eF (cy (br F λx hx=>(xm.mp ((D x).mp (z7 x hx))).1) (gi G)) (by decide)) λc7 l' t7 H7 N7 g7 k7 F m7=>?_
 have K:Ka Q t7:=k5.aa.t (k6.aa.t k7)
 exact fnE (ws:=[.ref v,.ref c]) (Q:=λz st=>∃r,b9 st.H .eq (.ref c7) z=aM r/\FQ (.ret (.bool r)) st) (L:=L) (X:=FX) (.two (.v l3) (.v z4)) (Ew N7 G (K _ _ A) (K _ _ gb) (λx hx=>by
  refine su ((E x).mp hx) λy w t s hw C g h=>?_
  exact gN (Gn.nm s.nm h)) λc9 t9 H9 N9 g9 k9=>⟨true,JH (λC C=>mD) (Cf F λp=>(m7 p).trans (D p)).symm (N9.T.gL (k9 _ _ g7)) (N9.T.gL g9) (λx C=>⟨rfl,e0 rfl⟩),R⟩)
theorem JK{A:NE}(N:Now f O P Q H)(G:aj P.R)(hr:Q v=aM (.ak (P.R.map cI)))(h8:cD plC Q T V (CC P.R))(z0:Q w=aM (.ak (S.map gm)))(D:∀p,p∈S↔SmS P.R p)(nS:S.Nodup)(z1:cD iC Q Y ws Z)(hW:WS P.R Z)(z2:Q U=aM (.ak (J.map iC)))(nk:J.Nodup)(hk:∀j,j∈J↔sf P.R j)
(l3:L 3=aM (.ref v))(l8:L 8=aM (.ref T))(z3:L 13=aM (.ref w))(z4:L 25=aM (.ref Y))(z5:L 29=aM (.ref U))(E:∀{H' l},A (.ret (.bool true)) ⟨H',l⟩):ae (ah fF mF (n+2)) mF (fq.body.drop 15) ⟨H,L⟩ A FX:=by
 refine W.jh N .nil λc t1 H1 N1 gc k k1=>?_
 have I:=(k1 _ _ z0).1
 have hz:=vR G nS λp hp=>(D p).mp hp
 refine aA (HA (S:=S)) λnm en M z6=>?_
 have r:∀p∈S,p.1=sP∨p.1∈aC:=λp hp=>((D p).mp hp).1.nm
 have z7:∃y∈S.map (λp=>CV.str p.1),∃z∈S.map (λp=>CV.str p.1),y≠z:=⟨.str sP,p9.mpr ⟨_,(D (sP,0,u 1)).mpr ⟨.z,Lp _⟩,rfl⟩,.str sS,p9.mpr ⟨_,(D (sS,0,eU P.R 0 0 (u 1))).mpr ⟨Sm.s (w:=0) (p:=0) ((Em G).symm▸.z) (dd (·[0]?) (tZ G)) (show sS∈aC by decide),Lp _⟩,rfl⟩,λe=>p7 (CV.str.inj e) (by decide)⟩
 generalize hL:upd L 31 (.ref c)=t
 have o:t 31=aM (.ref c):=hL▸bg
 have F:t 13=aM (.ref w):=hL▸z3
 have g:Lo 31 L t:=hL▸Lo.up .r
 refine JI (coM (ys:=S) (λi=>.list w i) (λk y=>gm y) (λ_ (y:Lj×ki×Lj) L=>upd (upd (upd L 28 (.str y.1)) 32 (.int y.2.1)) 33 (.str y.2.2)) (λk k k=>rfl) (bp (.v F) (N1.T.gL I)) (λi=>ax (N1.T.gL I)) (b5 hz rfl) (λy=>.str y.1) (λi y l k=>.v rfl) λa ha=>?_)
 refine N1.nL (G:=λH=>∃a' m,CV.ref a=.ref a'/\H.getL a'=aM m/\m.length<64/\(∀y∈m,y.is .str=true)/\(∃y∈m,∃z∈m,y≠z)/\∀c',H.free c'->ae (ah fF mF (n+2)) mF (.fr (.n 5) (.val (.c (.ref c'))) iA []::fq.body.drop 17) ⟨H.aD c' (bY (eY m)),t⟩ A FX) ha λt2 H2 N2 g2 k k2=>⟨a,_,rfl,N2.T.gL g2,(h7 _).symm▸eF hz (by decide),λy R=>(p9.mp R).elim λp e=>e.2▸gN (r p e.1),z7,λd hd=>?_⟩
 refine LH (p:=λm=>ae (ah fF mF (n+2)) mF (.fr (.n 5) (.val (.c (.ref d))) iA []::fq.body.drop 17) ⟨H2.aD d m,t⟩ A FX) en ?_
 refine N2.nL (G:=λH=>ae (ah fF mF (n+2)) mF (.fr (.n 5) (.val (.c (.ref d))) iA []::fq.body.drop 17) ⟨H,t⟩ A FX) hd λt3 H3 N3 g3 k k3=>?_
 have X:Ka Q t3:=k1.aa.t (k2.aa.t k3.aa)
 exact frV (ys:=nm) (t1:=t3) (j:=31) (f:=.str) (l0:=[]) (λi=>.list d i) (λk y=>.str y) (λk y L=>upd L 5 (.str y)) (λk k k=>rfl) (bp .c (N3.T.gL g3)) (λl=>∀i,OC i 31=true->Re i 5=false->l i=t i) (λk k k=>rfl) (λk k k h i a b=>(a6 (PD b)).trans (h i a b)) (BlC P.R nm) N3 (k3 _ _ (k2 _ _ gc).1).1 (λk k h=>h) ⟨λx=>⟨λh=>p7 h Le,λh=>h.elim λk h=>p7 h.1 Le⟩,Lp _⟩ o (λi H Q N q=>ax (N.T.gL (q _ _ g3)))
  (λi y H4 L4 K c4 bl t4 R hK N4 g4 C B s o=>Ci G (X _ _ hr) (((M y).mp (od R)).elim λp e=>e.2▸r p e.1) R (cy (y1 (kO.mp R).1) (cy z6 hz)) N4 g4 C B ((s 3 rfl rfl).trans ((g 3 rfl).trans l3)) rfl o λN hc q B s' lj=>hK N hc q B (λi a b=>(s' i a).trans (s i a b)) lj)
  λH4 L4 c4 bl t4 N4 g4 C B s o=>JJ N4 G (C _ _ (X _ _ hr)) (h8.ay (X.t C)) (z1.ay (X.t C)) hW (C _ _ (X _ _ z2)) nk hk g4 (B.blw D M) ((s 3 rfl rfl).trans ((g 3 rfl).trans l3)) ((s 8 rfl rfl).trans ((g 8 rfl).trans l8)) ((s 25 rfl rfl).trans ((g 25 rfl).trans z4)) ((s 29 rfl rfl).trans ((g 29 rfl).trans z5)) o E
end
section
variable{P:Par}{ty t0 t1:TY}{H H0:CH}{n o Q U z:ki}{L:EN}{S:cp (Lj×ki×Lj)}
theorem xn(G:aj P.R)(N:Now H0 t0 P ty H)(w:cD plC ty Y v (CC P.R))(j:L 8=aM (.ref Y))(y:Sc)(r:y (.ai (((Lk (CC P.R).length).map iC).drop 0)) ⟨H,L⟩):wpI k mF (.rng [.b1 .len (.v 8)]) ⟨H,L⟩ y X:=
 have e:(v.map CV.ref).length=(CC P.R).length:=(h7 _).trans w.w.len
 sq (.one (.x8 (.v j) (N.T.lc (N.T.L w.a)) ((yc (N.T.gL w.a)).trans (dd aM e)) (y1 (b5 (gM G) rfl)))) (gk (eF (gM G) (by decide))) y r
structure KnC(R:cp aE)(i:ki)(ks:cp ki):Prop where
 nd:ks.Nodup
 m:∀j,j∈ks↔j<i/\sf R j
theorem KnC.yes(K:KnC R i w)(h:sf R i):KnC R (i+1) (w++[i]):=
 ⟨cQ K.nd λh=>MR i ((K.m i).mp h).1,λj=>LB.trans ⟨λq=>q.elim (λq=>⟨Nn ((K.m j).mp q).1,((K.m j).mp q).2⟩) λq=>by obtain rfl:=n2.mp q;exact⟨Lz _,h⟩,λq=>(LV (tc q.1)).imp (λk=>(K.m j).mpr ⟨k,q.2⟩) n2.mpr⟩⟩
theorem KnC.no(K:KnC R i w)(h:¬ sf R i):KnC R (i+1) w:=
 ⟨K.nd,λj=>(K.m j).trans ⟨λq=>⟨Nn q.1,q.2⟩,λq=>⟨(LV (tc q.1)).resolve_right λe=>h (e▸q.2),q.2⟩⟩⟩
inductive KnI(H0:CH)(t0:TY)(P:Par)(t1:TY)(L0:EN)(i:ki)(acc:cp CV)(H:CH)(L:EN):Prop
 | mk (ks:cp ki) (ty:TY) (N:Now H0 t0 P ty H) (e:acc=ks.map iC) (q:Ka t1 ty) (K:KnC P.R i ks) (s:Lo 30 L0 L)
theorem HD(G:aj P.R)(N:Now H0 t0 P ty H)(V:cD plC ty Y v (CC P.R))(M:cD iC ty z ws Z)(t:WS P.R Z)(o:L 8=aM (.ref Y))(d:L 25=aM (.ref z)){Q:Ps}
(S:∀c f g W,Now H0 t0 P g W->g c=aM (.ak (f.map iC))->Ka ty g->KnC P.R (CC P.R).length f->Q (.ref c) ⟨W,L⟩):wpE (ah fF mF (n+1)) mF (.co (.v 30) (.n 30) (.rng [.b1 .len (.v 8)]) [.cm .isIn (.v 30) (.fn 497 [.v 25,.ix (.v 25) (.v 30)])]) ⟨H,L⟩ Q X:=by
 have u:=gM G
 refine coX (α:=ki) (ys:=Lk (CC P.R).length) (λi=>.ai (((Lk (CC P.R).length).map iC).drop i)) (λw y=>iC y) (λw y L=>upd L 30 (iC y)) (λw w w=>rfl) (xn G N V o) (LJ.symm▸b5 u rfl) (KnI H0 t0 P ty L) ⟨[],ty,N,rfl,λw w h=>h,⟨.nil,λj=>⟨λh=>p7 h Le,λh=>p7 h.1 (MD j)⟩⟩,.r⟩ (λw w w w w=>bE) ?_ ?_
 ·intro i y m H2 L2 hy J Q' x
  obtain⟨hi,rfl⟩:=kO.mp hy
  rw[Oo]
  obtain⟨f,t2,D,e,C,K,s⟩:=J
  refine oE (t.row (LJ▸hi)) λr T=>?_
  have q:=M.ay C
  refine oEA (q.at D.T T) λb gb ib=>?_
  have O:=(s 25 rfl).trans d
  refine K9 (inF (x:=iC i) (.v rfl) (.two (.v O) (.ix (.v O) (.v rfl) ib)) (Jv D q gb (t.len▸u) (λr T k p=>t.lt T p) (λk p=>t.lt (od T) p) (t.at_ _ _ T).1 λc l E F B R I z0 m3=>⟨_,inI (B.T.gL R),?_⟩))
  have U:i∈l↔sf P.R i:=(m3 i).trans (t.K6 T)
  by_cases p:i∈l
  ·rw[Ln p]
   exact⟨true,rfl,Ev.v (x:=iC i) (H:=F) rfl (ah fF mF (n+1)) mF (λr s=>Q' (aM r) s) FX (x (o:=aM (iC i)) ⟨f++[i],E,B,e▸Ng (LP (l₂:=[i])),C.t I.aa,K.yes (U.mp p),s.up⟩)⟩
  ·rw[LQ p]
   exact⟨false,rfl,x (o:=none) ⟨f,E,B,e,C.t I.aa,K.no λh=>p (U.mpr h),s.up⟩⟩
 intro m H2 L2 J a A
 obtain⟨f,t2,D,rfl,C,K,_⟩:=J
 exact D.nL (G:=λH=>Q (.ref a) ⟨H,L⟩) A λE F B R w I=>S a f E F B R (C.t I.aa) (LJ (n:=(CC P.R).length)▸K)
theorem JL{R:NE}(N:Now H0 t0 P ty H)(G:aj P.R)(D:ty o=aM (.ak (P.R.map cI)))(h8:cD plC ty Y v (CC P.R))(f:cD leC ty Q J V)(X:∀(j:ki) r,V[j]?=aM r->ur P.R j r)(M:V.length=(CC P.R).length)(s:ty U=aM (.ak (S.map gm)))(hS:∀p,p∈S↔SmS P.R p)(nS:S.Nodup)
(l3:L 3=aM (.ref o))(u:L 8=aM (.ref Y))(m:L 11=aM (.ref Q))(e:L 13=aM (.ref U))(g:∀{H' q},R (.ret (.bool true)) ⟨H',q⟩):ae (ah fF mF (n+2)) mF (fq.body.drop 13) ⟨H,L⟩ R FX:=by
 have t:J.length=(CC P.R).length:=f.w.len.trans M
 refine W.se (coR (f:=iC) (ys:=J) (λi=>.list Q i) (λO a=>.ref a) (λO a L=>upd L 26 (.ref a)) (λO O O=>rfl) N (bp (.v m) (N.T.gL f.a)) (t▸b5 (gM G) rfl) 0 (λO O O h=>h.up) (λi O r=>∃w,V[i]?=aM w/\r=w.map (·.2)) (λi H t' N' k'=>ax (N'.T.gL (k' _ _ f.a))) ?_ ?_)
 ·intro i a H1 t1 L1 ha E T _ Q' F
  refine oEA (f.w.get ha) λr D gr=>?_
  have g1:=E.T.gL (T _ _ gr)
  exact coM (ys:=r) (λi=>.list a i) (λO p=>leC p) (λ_ (p:Lj×ki) L=>upd (upd L 27 (.str p.1)) 28 (.int p.2)) (λO O O=>rfl) (bp (.v rfl) g1) (λi=>ax g1) (b5 (X _ _ D).len rfl) (λp=>iC p.2) (λi p q O=>.v rfl) λc hc=>
   E.nL (G:=λH=>Q' (.ref c) ⟨H,_⟩) hc λt2 H2 N2 g2 O k2=>F c (r.map λp:Lj×ki=>p.2) t2 H2 N2 (g2.trans (dd (λl=>aM (aK.ak l)) (Nt (g:=iC) (f:=λp:Lj×ki=>p.2)).symm)) k2.aa ⟨r,D,rfl⟩
 intro z ws Z t1 H1 E C T b hZ
 have hW:WS P.R Z:=⟨b.trans t,λj r hj=>by
  refine oEA (hZ j _ r (o2 (b▸(kO.mp hj).1)) hj) λw hw B=>?_;subst B
  have A:=X j w hw
  exact⟨Cc A.nd λx y k h1 h2=>((A.m x k).mp h1).uq ((A.m y k).mp h2),λk=>p9.trans ⟨λh=>h.elim λp h=>⟨p.1,h.2▸(A.m p.1 p.2).mp h.1⟩,λh=>h.imp' (λx=>(x,k)) λx d=>⟨(A.m x k).mpr d,rfl⟩⟩⟩⟩
 have R8:=h8.ay T
 exact W.se (HD (L:=upd L 25 (.ref z)) G E R8 C hW u rfl λz0 ks t3 H3 N3 g3 I K=>JK N3 G (I _ _ (T _ _ D)) (R8.ay I) (I _ _ (T _ _ s)) hS nS (C.ay I) hW g3 K.nd (λj=>(K.m j).trans (and_iff_right_of_imp λh=>h.elim λO p=>p.st)) l3 u e rfl rfl g)
end
section
variable{P:Par}{z v U:TY}{H:CH}{n w Y y:ki}{L:EN}{Q:cp ki}
theorem iK.ay{z:TY}(h:iK R z s o O)(k:Ka z J):iK R J s o O:=
 ⟨h.la,h.lg,h.ka,h.kg,λj q a b=>(h.ac j q a b).imp λc w=>w.imp λp w=>⟨w.1,k _ _ w.2.1,w.2.2⟩,λj q a b=>(h.go j q a b).imp λc w=>w.imp λp w=>⟨w.1,k _ _ w.2.1,w.2.2⟩⟩
theorem JM{FQ:NE}(N:Now V v P z H)(G:aj P.R)(hr:z w=aM (.ak (P.R.map cI)))(ht:z Y=aM .table)(t:iK P.R z (CC P.R).length P.acE P.goE)(R8:cD plC z c8 is (CC P.R))(l3:L 3=aM (.ref w))(l7:L 7=aM (.ref Y))(Q:L 8=aM (.ref c8))(T:∀{H' L'},FQ (.ret (.bool true)) ⟨H',L'⟩) :
  ae (ah fF mF (n+2)) mF (fq.body.drop 8) ⟨H,L⟩ FQ FX:=by
 refine W.se (coR (f:=leC) (α:=ki) (ys:=Lk (CC P.R).length) (λi=>.ai (((Lk (CC P.R).length).map iC).drop i)) (λJ y=>iC y) (λJ y L=>upd L 12 (iC y)) (λJ J J=>rfl) N (xn G N R8 Q) (LJ.symm▸b5 (gM G) rfl) 12 (λJ J J h=>h.up) (λi J r=>ur P.R i r) (λJ J J J J=>bE) ?_ ?_)
 ·intro i y H2 t2 L2 hy N2 O s Q' b
  obtain⟨Z,rfl⟩:=kO.mp hy
  have Z:=MI Z LJ
  rw[Oo] at s b ⊢
  exact fnE (ws:=[.ref Y,.int i]) (.two (.v ((s 7 rfl).trans l7)) (.v rfl)) (Hw G N2 (O _ _ ht) (t.ay O) Z (o2 Z) λc m t3 H3 N3 g3 U nd mm hl=>b c m t3 H3 N3 g3 U ⟨nd,hl,mm⟩)
 intro B ls VL t2 H2 N2 z0 O o z1
 have o:=o.trans LJ
 have hV:∀(j:ki) r,VL[j]?=aM r->ur P.R j r:=λj r hj=>z1 j j r (Pa (o▸(kO.mp hj).1)) hj
 refine W.fn (.cons (.v l3) (.two .c .c)) (JA N2 G (O _ _ hr) λA S t3 H3 N3 D U nS hS=>?_)
 refine W.fn (.cons (.v l3) (.two (.v rfl) .c)) (K4 N3 G (U _ _ (O _ _ hr)) D hS λE cs Z5 t4 H4 N4 z2 k4 hD=>?_)
 refine W.jh N4 (.one (.tu (.two .c .c))) λI t5 H5 N5 z3 J k5=>?_
 have M:Ka t2 t5:=U.t (k4.t k5.aa)
 have d:=O.t M
 have S8:=R8.ay d
 have F:=z0.ay M
 have z4:=z2.ay k5.aa
 have R:=(k5 _ _ (k4 _ _ D)).1
 generalize p:upd (upd (upd (upd L 11 (.ref B)) 13 (.ref A)) 14 (.ref E)) 15 (.ref I)=f
 have m3:f 3=aM (.ref w):=p▸l3
 have m8:f 8=aM (.ref c8):=p▸Q
 have X:f 11=aM (.ref B):=p▸rfl
 have z5:f 13=aM (.ref A):=p▸rfl
 have z6:f 14=aM (.ref E):=p▸rfl
 have z7:f 15=aM (.ref I):=p▸rfl
 exact frV (α:=ki) (ys:=Lk 5) (t1:=t5) (j:=15) (f:=leC) (l0:=[(u 1,0)]) (λi=>.ai (((Lk 5).map iC).drop i)) (λJ y=>iC y) (λJ y L=>upd L 16 (iC y)) (λJ J J=>rfl) (sq (.one .c) Cb) (Lo 15 _) .r (λJ J J h=>h.up) (LyC P.R) N5 z3 (λJ J h=>h) ⟨Mi _ _,λx k=>n2.trans ⟨λe=>by cases e;exact .z,λh=>h.in.elim (λa=>MX a.2.1 a.2.2) λh=>h.elim λJ h=>h.elim λJ h=>h.elim λJ h=>p7 h.1 (MK _).symm⟩⟩ z7 (λJ J J J J=>bE)
  (λi y H6 L6 K c l t6 hy hK N6 g6 g C s z8=>by
   obtain⟨hh,rfl⟩:=kO.mp hy
   rw[Oo] at s ⊢
   exact HC G S8 F hV o z4 hD (tc hh) N6 g6 g C ((s 8 rfl).trans m8) ((s 11 rfl).trans X) ((s 14 rfl).trans z6) z8 rfl λN hc q C s' lj=>hK N hc q C (s.t s') lj)
  λH6 L6 c l t6 N6 g6 g C s J=>JL N6 G (g _ _ (d _ _ hr)) (S8.ay g) (F.ay g) hV o (g _ _ R) hS nS ((s 3 rfl).trans m3) ((s 8 rfl).trans m8) ((s 11 rfl).trans X) ((s 13 rfl).trans z5) T
theorem JN{t:NE}(T:au P z H)(G:aj P.R)(C:z w=aM (.ak (P.R.map cI)))(b:z Y=aM .table)(J:iK P.R z (CC P.R).length P.acE P.goE)(x:z y=aM (.ak (Q.map .ref)))(o:cB (λa q=>z a=aM (.stL q)) Q (CC P.R))(B:L 3=aM (.ref w))(N:L 7=aM (.ref Y))(O:∀{A D},t (.ret (.bool true)) ⟨A,D⟩) :
  wpE (ah fF mF (n+2)) mF (.co (.co (.tu [.at (.v 10) 4,.at (.v 10) 15]) (.n 10) (.val (.v 9)) []) (.n 9) (.val (.c (.ref y))) []) ⟨H,L⟩ (λv st=>ae (ah fF mF (n+2)) mF (fq.body.drop 8) ⟨st.H,upd st.L 8 v⟩ t FX) FX:=
 have p:=o.len
 coR (f:=plC) (ys:=Q) (λi=>.list y i) (λk a=>.ref a) (λk a L=>upd L 9 (.ref a)) (λk k k=>rfl) T.now (bp .c (T.gL x)) (p▸b5 (gM G) rfl) 0 (λk k k h=>h.up) (λi k r=>(CC P.R)[i]?=aM r) (λi H K E I=>ax (E.T.gL (I _ _ x)))
  (λi a M U u s g f k d l=>(o.get s).elim λq h=>Fh g (f _ _ h.2) (.v rfl) λc m=>g.nL (G:=λH=>d (.ref c) ⟨H,_⟩) m λe F R S k W=>l c q e F R S W.aa h.1)
  λc8 is V U M g X f j Z=>by
   obtain rfl:V=CC P.R:=Sl λi=>(Oj i Q.length).elim (λq=>(Z i _ _ (o2 q) (o2 (j▸q))).symm▸o2 (j▸q)) λq=>(Md (j▸q)).trans (Md (p▸q)).symm
   exact JM g G (f _ _ C) (f _ _ b) (J.ay f) X B N rfl O
def Par.hw(P:Par)(k:ki):Par:={ P with hash:=k,he:=[] }
end
section
variable{P:Par}{z Q U:TY}{H w:CH}{n c t g y:ki}{L:EN}
theorem Cj{V:ki}(N:Now w Q P z H)(o:z t=aM .table)(J:z V=aM .j9)(p:H.dct V=aM []):Now w Q (P.hw V) z (H.bw 35 t (.ref V)):=by
 refine oA (N.T.sat _ _ o) λj v=>?_
 refine N.bw o (aq v.cls) (λb f l T h=>?_) ⟨j,v.cls,v.a29,v.a30,v.a31,v.a32,v.a34,⟨rfl,J⟩,v.a36,v.a40,v.a41,λk O=>(E1 λe:k=35=>p7 (e▸O:42<=35) (by decide)).trans (v.no k O)⟩
 cases f
 case j9=>exact⟨h.1,λe=>by have e:V=b:=e;subst e;exact p⟩
 case table=>exact p7 (h.1.trans j.symm) l
 all_goals exact h
theorem JO{x:NE}(T:au P z H)(C:∀a b,z a=aM b->b.gr=true)(G:aj P.R)(hr:z y=aM (.ak (P.R.map cI)))(hg:z g=aM .bX)(hk:P.k=P.R.length)(B:P.kq=P.k)(N:P.kn=P.R.length)(A:P.kt=P.R.length)(hz:P.z=true)(D:P.li=0)(E:P.lx=0)(I:P.ly=0)(hm:P.m=0)
(s:P.fe=true)(d:P.ff=false)(m:P.ge=true)(i:P.fz=false)(l3:L 3=aM (.ref y))(l4:L 4=aM (.ref g))(o:∀{H' L'},x (.ret (.bool true)) ⟨H',L'⟩):ae (ah fF mF (n+6)) mF (fq.body.drop 5) ⟨H,L⟩ x FX:=by
 refine W.nw (.two (.v l4) .c) rfl λt ht=>um T C G ht hg hk B N A hz D E I hm s d m i λP4 t4 H4 hR V r F k j=>⟨rfl,?_⟩
 have J:=F.get T hr
 rw[← hR] at J j
 have Q:=F.T
 clear F
 show ae _ _ (.asg (.at (.v 7) 35) .d0::fq.body.drop 7) _ _ _
 intro R S
 refine Q.now.nD (G:=λH=>qV (ah fF mF (n+6)) mF (.at (.v 7) 35) (.ref R) ⟨H,upd L 7 (.ref t)⟩ (λst=>ae (ah fF mF (n+6)) mF (fq.body.drop 7) st x FX) FX) S λt5 H5 O f f5 p=>⟨_,rfl,t,427,rfl,(O.T.tb (p _ _ k).1).cls,rfl,?_⟩
 refine oAA (O.pro .j9 f5 f ⟨aq (O.T.D f),λe=>p7 e (p _ _ (Q.tb k).a35.2).2⟩) λw U c=>?_
 have l:Ka t4 (upd t5 R .j9):=λa b h=>c _ _ (p _ _ h).2 (p _ _ h).1
 have v:=l _ _ k
 have X:=(Cj w v U (O.T.D f)).T
 have Z:=j.ay l
 have K:=l _ _ J
 clear O w p c f U j J l
 refine W.se (K7 (.v rfl) (X.tb v).cls rfl rfl ((X.tb v).no 50 (by decide)) (BP X.now (P:=P4.hw R) ⟨V.G,V.k,V.kq,V.kn,V.z,V.li,V.m0⟩ r v rfl λM he Y l8 t8 H8 ζ N8 u h8 ζ q ζ=>?_))
 exact JN (n:=n+4) N8.T V.G (u _ _ K) (u _ _ v) (Z.ay u) h8 q l3 rfl o
end
structure GP(R:cp aE)(P:Par)(i:ki):Prop where
 R:P.R=R
 k:P.k=i+1
 kq:P.kq=P.k
 kn:P.kn=P.k
 kt:P.kt=P.k
 km:P.km=P.k
 z:P.z=false
 c:P.c<=2 * i
 li:P.li=0
 lx:P.lx=0
 ly:P.ly=0
 m:P.m=0
 ad:∀r,P.ad r=0
 nk:P.nk=none
 fe:P.fe=true
 ff:P.ff=false
 ge:P.ge=true
 fz:P.fz=false
theorem GP.nx{R:cp aE}{j:ki}(h:GP R P i)(Q:j<=2):GP R (P.wk (P.toPK.nx p b j)) (i+1):=
 ⟨h.R,dd (·+1) h.k,rfl,rfl,rfl,rfl,h.z,LY h.c Q,h.li,h.lx,h.ly,h.m,h.ad,h.nk,h.fe,h.ff,h.ge,h.fz⟩
section
variable{P:Par}{ty t0 w:TY}{H H0:CH}{n c g c5 z:ki}{L:EN}
theorem HE:∀{Q:aK},Q.own=true->Q.gr=true:=λ{Q} o=>by cases Q <;> first | rfl | cases o
theorem au.JP(T:au P ty H):au P' (λa=>(ty a).filter aK.own) H:=
 ⟨T.wf,T.f,T.s,λa Q e=>have h:=ND.mp e;(T.sat a Q h.1).IZ h.2⟩
section
variable{Y:PT}{M:MT}{b:cp CS}{y z:CV}{U:cp CV}{Q:NE}{X:No}{T:LT}{d k:ki}
theorem La{Q:Ps}(N:Now H0 t0 P ty H)(D:Ev L H J (.ref a))(E:Ev L H O y)(I:Ev L H p z)(g:H.getL a=aM m)(h:cut m y z=aM m')(r:∀c B A,Now H0 t0 P B A->B c=aM (.ak m')->K1 c ty B->wpE Y M (.co V T (.val (.c (.ref c))) j) ⟨A,L⟩ Q X):wpE Y M (.co V T (.val (.sl J O p)) j) ⟨H,L⟩ Q X:=
 D _ _ _ _ (E _ _ _ _ (I _ _ _ _ ⟨m,m',g,h,λc s=>N.nL (G:=λH=>wpE Y M (.co V T (.val (.c (.ref c))) j) ⟨H,L⟩ Q X) s λB A F R S k=>r c B A F R k⟩))
theorem Ha(N:Now H0 t0 P ty H)(D:Ev L H J (.ref a))(E:Ev L H O y)(I:Ev L H p z)(g:H.getL a=aM m)(h:cut m y z=aM m')(r:∀c B A,Now H0 t0 P B A->B c=aM (.ak m')->K1 c ty B->ae Y M (.fr T (.val (.c (.ref c))) b o::l) ⟨A,L⟩ Q X):ae Y M (.fr T (.val (.sl J O p)) b o::l) ⟨H,L⟩ Q X:=
 D _ _ _ _ (E _ _ _ _ (I _ _ _ _ ⟨m,m',g,h,λc s=>N.nL (G:=λH=>ae Y M (.fr T (.val (.c (.ref c))) b o::l) ⟨H,L⟩ Q X) s λB A F R S k=>r c B A F R k⟩))
theorem JQ{l:cp Nj}:cut (l.map .int) .none (.int 13)=aM ((l.take 13).map .int):=(rfl:_=aM ((l.map CV.int).take 13)).trans (dd aM (TB (f:=CV.int)).symm)
namespace W
theorem HF(N:Now H0 t0 P ty H)(A:Ev L H e v)(h:∀D,Evs L D C U)(r:∀c w B,Now H0 t0 P w B->w c=aM (.ak [v])->K1 c ty w->Y f U B λy E=>opV .add (.ref c) y ⟨E,L⟩ λv st=>ae Y M l ⟨st.H,upd st.L i v⟩ Q X):ae Y M (.asg (.n i) (.op .add (.li [e]) (.fn f C))::l) ⟨H,L⟩ Q X:=
 A _ _ _ _ λc I=>N.nL (G:=λB=>wpE Y M (.fn f C) ⟨B,L⟩ (λy st=>opV .add (.ref c) y st λv st=>ae Y M l ⟨st.H,upd st.L i v⟩ Q X) X) I λw B s g F k=>h B _ _ _ _ (r c w B s g k)
theorem Lb(N:Now H0 t0 P ty H)(h:Evs L H C U)(D:bn d=true)(r:∀c w B,Now H0 t0 P w B->w c=aM (.ak U)->K1 c ty w->∀b,B.free b->Y (gq d) [.ref b,.ref c] (B.cR b d) λr A=>r=.none/\ae Y M l ⟨A,upd L i (.ref b)⟩ Q X):ae Y M (.asg (.n i) (.nw d [.li C])::l) ⟨H,L⟩ Q X:=
 h _ _ _ _ λc E=>N.nL (G:=λB=>bn d=true/\∀b,B.free b->Y (gq d) [.ref b,.ref c] (B.cR b d) λr A=>r=.none/\ae Y M l ⟨A,upd L i (.ref b)⟩ Q X) E λw B I g s k=>⟨D,r c w B I g k⟩
theorem JR(N:Now H0 t0 P ty H)(E:Ev L H J (.ref c))(I:H.cls c=aM d)(h:bn d=true)(F:M d k=aM f)(R:H.att k c=none)(S:Ev L H O x)(W:Ev L H p (.tup U))(Z:U.length<=szl)(r:∀s w B,Now H0 t0 P w B->w s=aM (.ak U)->K1 s ty w->Y f [.ref c,x,.ref s] B λD A=>ae Y M l ⟨A,L⟩ Q X):ae Y M (.ex (.me J k [O,.b1 .list p])::l) ⟨H,L⟩ Q X:=
 E _ _ _ _ ⟨c,d,f,rfl,I,h,F,R,S _ _ _ _ (W _ _ _ _ ⟨U,rfl,Z,λs K=>N.nL (G:=λB=>Y f [.ref c,x,.ref s] B λD A=>ae Y M l ⟨A,L⟩ Q X) K λw B G g D k=>r s w B G g k⟩)⟩
end W
end
inductive GrI(H0:CH)(t0:TY)(R:cp aE)(g c5 c7:ki)(t8:TY)(i:ki)(H:CH)(L:EN):Prop
 | mk (P:Par) (ty:TY) (N:Now H0 t0 P ty H) (k:Ka t8 ty) (q:GP R P i) (l3:L 3=aM (.ref c5)) (l4:L 4=aM (.ref g))
theorem Lc{V:ki}{j:cp Nj}(h1:V≠439)(h2:V≠440)(zq:j.length<=63):ah fF mF (n+8) 507 [.ref V] (lf V j) (λv Q=>v=.bool true):=by
 refine bK [.ref V] (d:=fq) rfl rfl rfl rfl λFQ b Q=>?_
 have T0:au { R:=[] } (λQ=>none) (lf V j):=⟨⟨λa Q=>⟨rfl,rfl,rfl⟩,λa h=>p7 rfl h,λa h=>p7 rfl h,λa h=>p7 rfl h,λa Q n=>rfl⟩,rfl,rfl,nix⟩
 have g0:(lf V j).getL V=aM (j.map .int):=(E1 h1).trans ((E1 h2).trans (K2 rfl))
 have hz:(j.take 13).length<=13:=length_take_le _ _
 refine W.se (La T0.now (.v rfl) .c .c g0 JQ λc1 w H1 t g1 k1=>coM (ys:=j.take 13) (λi=>.list c1 i) (λQ z=>.int z) (λQ z L=>upd L 2 (.int z)) (λQ Q Q=>rfl) (bp .c (t.T.gL g1)) (λi=>ax (t.T.gL g1)) (b5 hz rfl) (λz=>.int (z % 720720)) (λi z L' Q=>.mod (.v rfl) .c (by decide)) λc z0=>?_)
 refine t.nL (l:=(j.take 13).map λz=>.int (z % 720720)) (G:=λH=>ae (ah fF mF (n+7)) mF (fq.body.drop 1) ⟨H,upd (jD 0 [.ref V]) 1 (.ref c)⟩ FQ FX) z0 λt2 H2 N2 B f2 k2=>?_
 have B:t2 c=aM (.ak (((j.take 13).map (· % 720720)).map .int)):=B.trans (by rw[Nt];rfl)
 refine W.HF N2 (.tu (.two .c (.tu (.one .c)))) (λQ=>.one (.v rfl)) λc3 t3 H3 N3 g3 k3=>vM N3 (k3 _ _ B).1 f2 λc4 y t4 H4 Z g4 k4 Y=>?_
 have D:=k4 _ _ (Ma (k3 _ _ B).2) g3
 have G:aj ((sP,[sS])::y):=D4 Y
 refine Jw (Z.T.gL D) (Z.T.gL g4) (h7 (as:=y) cI▸y1 (b5 (Ls Y.len.2 1) rfl)) λc5 E=>?_
 refine Z.nL (l:=((sP,[sS])::y).map cI) (G:=λH=>ae (ah fF mF (n+7)) mF (fq.body.drop 2) ⟨H,upd (upd (jD 0 [.ref V]) 1 (.ref c)) 3 (.ref c5)⟩ FQ FX) E λt5 H5 N5 g5 Q Q=>?_
 generalize (sP,[sS])::y=R at g5 G
 have T5:=N5.T
 clear N5 Z D g4 k4 g3 k3 B k2 E
 refine W.Lb T5.now (.two .c .c) rfl λc6 t6 H6 N6 g6 k6 g hg=>?_
 have z1:=(k6 _ _ g5).1
 have O:=G.len.2
 refine vz (R:=R) (P:={ R:=R }) N6.T.JP (λa l e=>(ND.mp e).2) hg (ND.mpr ⟨g6,rfl⟩) λt7 H7 A N7 hA z2 z3=>⟨rfl,?_⟩
 have I:=N7.get (P':={ R:=R }) N6.T.JP (ND.mpr ⟨z1,rfl⟩)
 refine Ha N7 (.v rfl) .c .c (N7.T.gL I) (rfl:_=aM ((R.map cI).drop 1)) λc7 t8 H8 N8 g8 k8=>?_
 have z4:=(k8 _ _ I).1
 have U:=(k8 _ _ z3).1
 refine frP (ys:=R.drop 1) (f1:=λr=>.str r.1) (f2:=λr=>.tup (r.2.map .str)) (a:=c7) (I:=GrI _ _ R g c5 c7 t8) .c ⟨_,t8,N8,λQ Q h=>h,⟨rfl,rfl,rfl,rfl,rfl,rfl,rfl,Lp _,rfl,rfl,rfl,rfl,λQ=>rfl,z2,rfl,rfl,rfl,rfl⟩,rfl,rfl⟩ ?_ ?_ ?_
 ·rintro i H' L' ⟨P,ty,N,k,_⟩
  rw[QH]
  exact N.T.gL (k _ _ g8)
 ·rintro i zw H9 L9 K M ⟨P,t9,d,T,q,l3,m⟩ hK
  rw[Pk,Nk] at M
  have F:=(kO.mp M).1
  have S:=d.T.gr (T _ _ U)
  have x:=G.ln (i+1)
  rw[gH M] at x
  refine W.JR d (.v m) S.cls rfl rfl (S.no 42 (by decide)) (.v rfl) (.v rfl) (gh (cy x (by decide))) λs X z5 C z6 J=>?_
  exact yg C ⟨q.R▸G,⟨q.k▸MO i,q.k▸q.R.symm▸F⟩,q.kq,q.kn,q.kt,q.km,q.li,q.lx,Qo q.m.symm,q.ad,q.nk⟩ (J _ _ (T _ _ U)).1 (cy q.c (cy (NA 2 (y1 (Vj (rf F O)))) (by decide))) (q.R▸q.k▸dU M) (q.R▸q.k▸gH M) z6 λz7 zy p f z8 z9=>hK.nxt ⟨_,z7,z8,T.t (J.aa.t z9),q.nx x,l3,m⟩
 rintro H9 L9 ⟨P,t9,d,T,q,l3,m⟩
 rw[NL] at q
 have u:P.k=P.R.length:=q.k.trans ((MZ (cy (by decide) G.len.1)).trans (dd Nc q.R.symm))
 have S:=d.T.gr (T _ _ U)
 refine W.nil (W.Ba (.v m) S.cls rfl rfl (S.no 43 (by decide)) (.one .c) (vC d (q.R▸G) (T _ _ U) u q.kq q.kn q.kt q.z q.li q.lx (cy q.c (cy (NA 2 (cy (Qx _ _) O)) (by decide))) (q.ad 0) (Qo q.m.symm) λX z5 p C J=>?_))
 have zz:=(C.only λa l e=>HE (ND.mp e).2).T
 have kk:∀a l,l.gr=true->t8 a=aM l->kb X a=aM l:=λa l o h=>iG (J _ _ (T _ _ h)) o
 exact JO (n:=n+1) zz (λa l e=>(fY e).2) (q.R▸G) (q.R▸kk _ _ rfl z4) (kk _ _ rfl U) u q.kq (q.kn.trans u) (q.kt.trans u) rfl q.li q.lx q.ly q.m q.fe q.ff q.ge q.fz l3 m (b rfl)
end
end Mine.Internal
theorem PySem.Challenge.cw_rp0002_03_holds : PySem.Challenge.rw_rp0002_03.Holds :=
 Mine.Internal.A6 λL ns h1 h2 h3=>Mine.Internal.Lc (n:=22) h1 h2 h3
