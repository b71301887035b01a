import PyProof.Rows.All
import Wide.All
import OpenK.AllK
import Wide.FinOn
import KE.KNest
import KE.KBytesCut
import KE.KxDecode
import ObjForm.ListNI
import KE.KPairTest
import Lean
import PySem.Challenge.RW_oc0260_01
set_option Elab.async false
set_option linter.all false
set_option maxRecDepth 100000
set_option genSizeOf false
set_option genInjectivity false
set_option genCtorIdx false
set_option compiler.extract_closed false
set_option backward.match.sparseCases false
set_option bootstrap.genMatcherCode false
open Option.some renaming inj->Kd
open List renaming length_map->Ke,getElem?_eq_some_iff->Kh,mem_singleton->Kk,getElem?_eq_getElem->Kl,length_append->Km,mem_of_getElem?->Ko,mem_map->Ku,getElem?_map->Kv,mem_cons->Kw,mem_append->Kx,size_toArray->Kz,getElem?_append_left->KB,range->KC,map_append->KD,map_cons->KG,map_map->KH,length_range->KI,length_singleton->KP,contains_iff_mem->KR,all_eq_true->KS,mem_map_of_mem->KU,append_assoc->KW,length_set->KZ,filterMap_cons->K0,getElem?_eq_none_iff->K8,forall_mem_cons->La,mem_iff_getElem?->Lc,take_add_one->Le,mem_append_right->Ll,getElem?_concat_length->Ls,length_take->Lv,length_cons->Lw,nodup_append->Lx,mem_range->LA,getElem?_append_right->LB,append_nil->LG,getElem?_set_ne->LL,map_congr_left->LN,nodup_cons->LP,mem_filter->LQ,replicate->LU,eq_nil_of_length_eq_zero->LW,casesOn->LZ,mem_append_left->L5,sum_cons->L7,eq_nil_iff_forall_not_mem->Ma,pairwise_singleton->Md,mem_flatten->Me,findIdx?_eq_some_iff_getElem->Mg,take_of_length_le->Mi,getElem?_set_self->Mj,drop_eq_getElem_cons->Mp,take_length->Mr,getElem_mem->Ms,filter_cons->Mt,filterMap_map->Mu,count_pos_iff->Mv,zipWith->My,mem_of_mem_take->ME,reverse_cons->MG,not_mem_nil->MJ,lookup_cons->MK,find?_cons->MU,dropLast_concat->MW,getElem?_take_of_lt->MY,flatten_append->M4,flatMap_append->M5,filter_sublist->M6,length_drop->M7,map->Nd,length_reverse->Nw,getElem?_drop->NH,pairwise_map->NM,pairwise_lt_range->NN,flatten_cons->NO,flatMap_cons->NP,take_append_drop->NW,getElem?_toArray->NY,map_id->N6,range_succ->Oc,dropLast_concat_getLast->Od,count_cons->Oe,pairwise_cons->Oz,findIdx?_eq_none_iff->OG,mem_reverse->ON,isEmpty_iff->OO,getElem_map->OP,countP_cons->OQ,range_succ_eq_map->O2,drop_of_length_le->O3,foldl_cons->O8,getElem?_eq_none->Pb,getElem_toArray->Pp,isEmpty_eq_false_iff_exists_mem->PB,getElem?_range->PC,take_nil->PG,getElem_range->PO,take_sublist->PY,getElem?_inj->PZ,foldl_append->P0,count_append->P1,cons_eq_cons->P3,mem_flatMap->Qb,flatten_nil->Qc,append_cons->Qd,lookup->Qo,length->Qp,getElem?_replicate_of_lt->Qq,filter->Qr,forIn_cons->Qv,take_zero->QN,perm_ext_iff_of_nodup->QO,length_eraseIdx_of_lt->QP,getD_eq_getElem?_getD->QQ,drop_left->QR,pairwise_iff_getElem->Q2,getLast?_eq_some_iff->Q3,map_drop->Ra,set_set->Rn,isEmpty->Ro,any_map->Rp,set_append_right->RI,mem_of_mem_drop->RL,length_dropLast->RM,getLast?_concat->RN,replicate_succ->R9,map_filterMap->Sm,lookup_append->So,getElem?_take->Sp,filterMap_nil->Sq,count_eq_zero->Ss,push_toArray->SG,getElem?_set->SH,getElem?_nil->SJ,findIdx?_map->SK,drop_sublist->SL,perm_middle->SR,nodup_range->SS,map_reverse->ST,isEmpty_map->SU,drop_length->SV,sum_append->Td,idxOf_cons->Tf,head?_drop->Tg,take_left->To,tail_drop->Tq,tail_cons->Tr,nodup_nil->Tt,forIn_nil->Tv,drop_drop->Tw,map_take->TK,findIdx?->TL,drop_nil->TM,any_cons->TN,all_cons->TO,Pairwise->TP,Sublist->T9,foldl->Uv,take->UV,set->U3
open PySem renaming Expr->Kf,wpAny_bind->Kg,wpAny->Kq,model->Kr,wpAny_pure->Ks,wpAny_mono->KQ,intKind->Ld,Around->Lg,World->Lh,wpAny_holding->Lp,rawInt->Lu,mainGlobals->Ly,Params->LF,starEach->LH,NameKind->LM,wpAny_newObj_type->LY,builtinLookup_eq_fast->Mc,Builtin->Mf,wpAny_standAt->Mn,backTo->Mw,codeAny->Mx,SetTable->Mz,intKind_is->MF,sysModules->MH,wpAny_of_eq->MP,wpAny_call_entry->MR,isSubtype_type->MS,eval->MT,typeLookup_type->MZ,codeAny_builtin->M0,getMethod_builtin->M1,callWith->M2,builtinsNs->M8,wpAny_setField->Na,setField->Nk,assign->Nn,wpAny_field->Ny,codeAny_call_builtin->Nz,Operator->NA,valueAt->NE,cellsFrom->NF,bindArgs->NI,wpAny_ite_split->NK,setItem->NL,wpAny_callSpecial?_slot->NT,keywordEach->NU,wpAny_setState_of->NZ,newFunctionEnv->N1,getAttr->N2,firstArgMember->N3,wpAny_execs_cons->Of,wpAny_call->Og,typeLookup->Oh,truthy->Oi,storeName->Oj,assignEach->Ol,DictEntry->Om,plainId_quiet->Op,behindInMarks->Oq,valueOrNone->Ot,sizeLine_eq->Ou,wpAny_specialOf->OB,letOwnedTupleGo->OC,getItem->OH,Scope->OL,Result->OM,wants->OX,setAttr->OY,fastTable_eq_tree->OZ,Sem->O0,newTuple->Pd,newFields->Pe,compareOp->Pf,backToKw->Pg,methodCall->Pr,codeAny_mono->Ps,pushCells_keeps->Px,codeAny_call_function->PD,wpAny_seqItems->PP,methodCallForm->PQ,Tok->PT,CmpOp->PU,BoolOp->PV,wpAny_setEntries_of->P6,list_getitem_lookup->P7,wpAny_rule->Qh,wpAny_pyIter_tuple->Qi,wpAny_Constant_int->Qj,pyNext->Qk,call_meets->Ql,argsOk->Qm,wpAny_typeOf->Qx,wpAny_pyIter_list->Qy,relayAll->Qz,holding->QA,evalOpt->QB,call_meetsIn->QC,Flow->QE,wpAny_isInstance->QV,wpAny_askSetting->QW,inplaceOp->QX,wpAny_mkStr->Q5,Walks->Q6,wpAny_updateSeq->Rf,codeAny_of_tree->Rg,arm_assign_Name->Rh,without->Rj,delItem->Rk,ItemsOf->Rl,wpAny_bindName->Rq,pyIter->Rr,letTemporaryGo->Rt,entryFor->Ru,cameBackBy->Rv,binaryOp->Rw,Drawn->Rz,wpAny_comprehension_free->RW,swapsWithSole->RX,attributeBase->RY,assignInOrder->RZ,swapsWith->Se,slicePick->Sf,pickOrder->Sg,wpAny_getItem_list_neg->Sv,bootBuiltins->Sw,wpAny_tryStmt_except->SX,wpAny_letTemporaryGo->SY,subscripted->SZ,sliceBounds->S4,keeperOf->S5,codeAny_extend_loopS->S7,GenState->Ta,wpAny_raiseNew_none->Ti,wpAny_load->TA,wpAny_getItem_list->TC,wpAny_List_spliced->TD,stored->TE,wpAny_truthy_list->TR,wpAny_truthy_bool->TS,wpAny_pyIter_slot->TT,wpAny_collect_seq->TU,wpAny_Assign_Name->TV,slot_list_setitem->TX,slot_dict_getitem->TY,newList->TZ,collect->T0,callerA->T4,wpAny_getItem_of->Ua,isSubtype->Ub,entryFor_of_tree->Uc,drawOrder->Ud,arm_assign_Tuple->Ue,wpAny_operating->Ur,wpAny_execs_nil->Us,importedModules->Ut,wpAny_runValue->Ux,wpAny_newTuple->Uy,wpAny_fieldsOf->Uz,table->UA,storeSet->UB,setEpoch->UC,setAddHashedIn->UD,newExc->UE,newEnv->UF,layNew->UG,entryFor_alias->UH,checkBoundCall->UI,wpAny_newList->UX,wpAny_attempt->UY,swappedStores->UZ,standAt->U4,setNextDrawn->U5,setNext->U6,relabel->U7,leaving->U8,entryPlaceOf->U9,wpAny_alloc->Vg,wpAny_BinOp->Vh,unsupported->Vi,mkStr->Vj,interactive->Vk,field->Vl,execs->Vm
open PySem.PyData renaming keyHash->Ki
open Option renaming or->Kj,map->KJ,map_eq_some_iff->KY,bind->Lm,casesOn->MI,some_inj->OS,getD->TI,some->Vr,none->Vs
open Bool renaming and_eq_true_iff->Kn,not_eq_true'->KO,eq_iff_iff->LR,false_ne_true->L1,or_eq_true_iff->Mm,or_eq_false_iff->N8,false_eq_true->OA,or_false->OK,false_or->PK,and_true->PM,not_eq_true->Qf,and_eq_true->Qg,false_and->QT,and_false->QU,xor->Ty,not_false->Tz,true_and->TQ,true->Vt,false->Vu
open PySem.Heap renaming get?_push_size->Kt,get?_push_of_some->KM,get?_none_of_le->KV,get?_update_self->Lq,lt_size->LD,size_push->LK,dictOf_iff->LO,get?_update_other->L9,SameBut->MV,MadeExcOf->QI
open Nat renaming le_of_ble_eq_true->Ky,le_refl->KL,le_trans->Lr,zero_le->LE,zero_add->L2,ne_of_lt->L4,lt_of_lt_of_le->L6,not_lt_zero->L8,lt_succ_self->Mb,lt_succ_of_lt->Ml,lt_succ_iff_lt_or_eq->MB,lt_irrefl->MC,le_of_not_lt->ML,lt_of_le_of_lt->MO,le_succ->MX,zero_lt_succ->M9,testBit_two_pow_mul_add->Ni,succ->Np,succ_le_succ->Nu,beq->Nv,min_eq_left->NG,sub_self->NS,not_lt_of_le->N5,zero_lt_one->On,le_antisymm->Oo,le_of_lt->Ox,lt_or_eq_of_le->OF,succ_ne_self->OT,succ_lt_succ->OU,le_add_right->OV,ne_of_gt->O5,lt_trans->O6,le_of_eq->O7,eq_of_beq_eq_true->Pm,add_le_add_left->PF,pos_of_ne_zero->PW,lt_or_ge->P8,le_succ_of_le->P9,mod_eq_of_lt->Qn,casesOn->Qu,testBit_and->QG,toUInt8_eq->Q0,land->Q1,add_sub_cancel_left->Rm,mul_comm->RE,le_of_succ_le_succ->RG,add_comm->RH,eq_of_testBit_eq->R7,add_le_add_right->R8,mod_lt->SE,add_sub_cancel->SF,mod->SQ,min_eq_right->Tc,add_le_add->TJ,mul->Uj,min_self->Uk,le_total->Ul,div->Um,ble->Un,add->Uo
open Array renaming length_toList->KN,getElem?_eq_getElem->Li,getElem?_toList->Lk,getElem?_eq_some_iff->MM,size_append->NJ,getElem?_append_left->Oy,getElem?_setIfInBounds_self_of_lt->Pc,toArray_toList->Pn,getElem?_setIfInBounds_ne->P5,toList_append->RP,not_mem_empty->RQ,toList_push->Su,size_map->Th
open Int renaming toNat_natCast->KT,eq_ofNat_of_zero_le->Lj,fmod->Ln,fdiv->Lo,natCast_nonneg->LC,ofNat_lt->MD,fdiv_eq_ediv_of_nonneg->Nq,toNat_of_nonneg->NB,toNat->OW,le_refl->Qw,add_zero->RJ,le_of_lt_add_one->Sd,natAbs->SM,zero_add->Up,le_of_lt->Uq,mul_one->Uw,not_le->UW
open PySem.SetTable renaming below->KX,grown->Oa,insertAt->Py,has->Pz,laid->SB,Met->SN,probe->Vp
open PyProof.Rows renaming subscriptTail->Lz,IntsAre->Nt,seqObj->TG,Subscript_->TH,entry_list_sort->Uu,sortedHeap_old->UR,slot_list_sort->US,list_sort_tree->UT,args_list_sort->UU,sortedHeap_at->U2,plain_sorted->Vc,entry_sorted->Vd,args_sorted1->Ve,StrsAre->Vf,kind_sorted->Vq
open Int.ofNat renaming inj->LJ
open Ne renaming symm->LV
open PySem.Heap.SameBut renaming update->LX
open PySem.Builtin.List renaming listExtendWith->L3,listLengthHint->NV,listSameRef->Ob,listItems->Qa
open PySem.Str renaming ofString->Mh,length->UP
open PySem.F renaming called_set->Mo,excAttr_ValueError->Ng,plainAttrs_list->NC,typeOf_object_class->N9,plain_extend_loop->Ow,slot_dict_get->OR,slot_gs_get->Pj,slot_tuple_iterator_next->PE,slot_dict_delitem->Qs,slot_dict_values->QF,slot_list_index->QJ,slot_list_clear->QK,plain_list_iadd->QL,plainAttrs_dict->QM,entry_dict_get->QZ,slot_set_iter->Q8,plain_set_new->Q9
open PySem.Flow renaming next->Mq,ret->U1
open PySem.Obj renaming mapFields->MA,data_mapFields->MN,isFreed_of_fields->MQ,mapSeq->N4,data->QY,cls_mapFields->SO,putSet->UQ
open PySem.SetTable.below renaming go->M3
open PySem.Value renaming ref->Nb,type->Nl,none->Nm,isInt_shape->PS,isStr->T8
open PyProof.Rows.F renaming plain_set_update_loop->Nc,entry_set_update_loop->OJ
open PySem.W renaming plainGet_of->Nf,dictOf->NQ,instObj->Os,findIn->O4,methodObj->Ph,tabObj->Pu,handedIn->QD,lookIn_dict->Q7,mem_of_lookupK->Rx,StarOf->Ry,putL->R0,plainOver->Si,typeIs_bytes->Sx,looks_findIn->Sy,hideAll_none->Sz,fnMade->SA,nsIn->TF,takerIn->T5,hideAll->T6,Looks->T7,nsMap_none_of_in->Ug,make_core->Uh,hasDictIn->Ui,typeIn->UJ,plainGet->UK,mg_of->UL,makes_of->UM,getL->UN,exmOne->UO,makesIn->Va,bind_fn->Vb,findObj_own->Vn,callWith_of->Vo
open PySem.Around renaming under_plainId->Nh
open Nat.succ renaming inj->Nj
open PySem.SetTable.probe renaming go->Nr
open PySem.AutoSeq1 renaming wpAny_loadPart'->ND
open PySem.Builtin._codecs renaming runDecoder->NR,latin1Decoder->Pa,decodeRoad->Pw
open List.Pairwise renaming map->N7
open PySem.Value.ref renaming inj->Ov
open PySem.Keeper renaming boundFrame->OD,machine->O9,frame->PN
open PySem.Calls renaming call_function_entry->OE,evalArgs_plain->RA,Constant_str->R5,spliced_nil->Sl
open PySem.Builtin.SmallTypes renaming stopIteration->OI,nextOf->Pl
open PySem.EntryCells renaming newEntry->O1
open PySem.NameKind renaming cell->Pi,free->SC
open PySem.Challenge renaming rw_oc0260_01->Pk
open PySem.W.FB renaming slot_bytes_getitem->Po
open PySem.pickOrder renaming go->Pq
open PySem.Txt renaming join->Pv
open PySem.Builtin.Range renaming rangeFitsLong->PA,rangeSize->PX,small->Qt
open False renaming elim->PH
open Classical renaming choose->PJ,byContradiction->Qe,em->QH,choose_spec->QS
open List.Sublist renaming refl->Q4,map->Rd
open List.Nodup renaming sublist->Re
open Std.Legacy renaming Range->Ri
open UInt8 renaming toNat_ofNat'->RT
open List.Perm renaming swap->Sb,cons->Sc
open PySem.Heap.Ns renaming of_isNs->Sj
open PySem.Code renaming quiet_builtin->Sk
open PySem.Builtin renaming bitAnd->SD
open Prod.mk renaming injEq->SP
open Iff renaming rfl->SW
open PySem.W.Looks renaming ld->S8
open PySem.W.KBw renaming pyIter_bytes->S9,walks->U0
open PySem.W.Hook renaming val->Tj,obs->Tk
open PySem.Moved renaming eq_with->Tl
open PySem.ItemsOf renaming nil->Tm
open Prod renaming ext->Tn
open PySem.Walks renaming list->Uf
section
set_option linter.all false
namespace Mine.Internal
theorem JM {a b c d:Nat}(h:a=b) (h2:b≤c) (h3:c≤d):a≤d:=h▸Lr h2 h3
theorem JK {a b c:Nat}(h:a<b) (h2:c=b):a<c:=h2▸h
theorem JJ {a b c:Nat}(h:a<b) (h2:b=c):a<c:=h2▸h
theorem JN {a b c:Nat}(h:a=b) (h2:b≤c):a≤c:=h▸h2
theorem JI {a b:Nat}(h:a<b):b≠a:=O5 h
theorem JL {x a b:Nat}(h:0≤(x:Int)∧(x:Int)<a) (h2:a≤b):x<b:=L6 (MD.mp h.2) h2
theorem JO {x a:Nat}(h:x<a):0≤(x:Int)∧(x:Int)<(a:Int):=⟨LC _,MD.mpr h⟩
theorem x1.{a}{α:Sort a}{P:α→Prop}{G:Prop}(h:∃a,P a) (k:∀a,P a→G):G:=h.elim k
theorem x2.{a,b}{α:Sort a}{β:Sort b}{P:α→β→Prop}{G:Prop}(h:∃a b,P a b) (k:∀a b,P a b→G):G:=h.elim fun a h=>h.elim (k a)
theorem x3.{a,b,c}{α:Sort a}{β:Sort b}{γ:Sort c}{P:α→β→γ→Prop}{G:Prop}(h:∃a b c,P a b c) (k:∀a b c,P a b c→G):G:=h.elim fun a h=>x2 h (k a)
theorem x4.{a,b,c,d}{α:Sort a}{β:Sort b}{γ:Sort c}{δ:Sort d}{P:α→β→γ→δ→Prop}{G:Prop}(h:∃a b c d,P a b c d) (k:∀a b c d,P a b c d→G):G:=h.elim fun a h=>x3 h (k a)
theorem x5.{a,b,c,d,e}{α:Sort a}{β:Sort b}{γ:Sort c}{δ:Sort d}{ε:Sort e}{P:α→β→γ→δ→ε→Prop}{G:Prop}(h:∃a b c d e,P a b c d e) (k:∀a b c d e,P a b c d e→G):G:=h.elim fun a h=>x4 h (k a)
theorem z2 {A B G:Prop}(h:A∧B) (k:A→B→G):G:=k h.1 h.2
theorem z3 {A B C G:Prop}(h:A∧B∧C) (k:A→B→C→G):G:=k h.1 h.2.1 h.2.2
theorem z4 {A B C D G:Prop}(h:A∧B∧C∧D) (k:A→B→C→D→G):G:=z3 h.2 (k h.1)
theorem z5 {A B C D E G:Prop}(h:A∧B∧C∧D∧E) (k:A→B→C→D→E→G):G:=z4 h.2 (k h.1)
theorem z6 {A B C D E F G:Prop}(h:A∧B∧C∧D∧E∧F) (k:A→B→C→D→E→F→G):G:=z5 h.2 (k h.1)
theorem z7 {A B C D E F H G:Prop}(h:A∧B∧C∧D∧E∧F∧H) (k:A→B→C→D→E→F→H→G):G:=z6 h.2 (k h.1)
@[elab_as_elim] theorem rp.{u}{α:Sort u}{a b:α}{P:α→Prop}(e:a=b) (h:P b):P a:=e▸h
@[elab_as_elim] theorem rq.{u}{α:Sort u}{a b:α}{P:α→Prop}(e:a=b) (h:P a):P b:=e▸h
@[elab_as_elim] theorem oc.{u}{α:Type u}{P:Option α→Prop}(o:Option α) (n:o=none→P none) (s:∀a,o=some a→P (some a)):P o:=o.rec (fun n _=>n rfl) (fun a _ s=>s a rfl) n s
theorem y2.{a,b}{α:Sort a}{β:Sort b}{P:α→β→Prop}(x:α) (y:β) (h:P x y):∃a b,P a b:=⟨x,y,h⟩
theorem y3.{a,b,c}{α:Sort a}{β:Sort b}{γ:Sort c}{P:α→β→γ→Prop}(x:α) (y:β) (z:γ) (h:P x y z):∃a b c,P a b c:=⟨x,y,z,h⟩
theorem y4.{a,b,c,d}{α:Sort a}{β:Sort b}{γ:Sort c}{δ:Sort d}{P:α→β→γ→δ→Prop}(x:α) (y:β) (z:γ) (u:δ) (h:P x y z u):∃a b c d,P a b c d:=⟨x,y,z,u,h⟩
theorem y5.{a,b,c,d,e}{α:Sort a}{β:Sort b}{γ:Sort c}{δ:Sort d}{ε:Sort e}{P:α→β→γ→δ→ε→Prop}(x:α) (y:β) (z:γ) (u:δ) (v:ε) (h:P x y z u v):∃a b c d e,P a b c d e:=⟨x,y,z,u,v,h⟩
theorem w3 {A B C:Prop}(a:A) (b:B) (c:C):A∧B∧C:=⟨a,b,c⟩
theorem w4 {A B C D:Prop}(a:A) (b:B) (c:C) (d:D):A∧B∧C∧D:=⟨a,b,c,d⟩
theorem w5 {A B C D E:Prop}(a:A) (b:B) (c:C) (d:D) (e:E):A∧B∧C∧D∧E:=⟨a,b,c,d,e⟩
theorem w6 {A B C D E F:Prop}(a:A) (b:B) (c:C) (d:D) (e:E) (f:F):A∧B∧C∧D∧E∧F:=⟨a,b,c,d,e,f⟩
theorem w7 {A B C D E F G:Prop}(a:A) (b:B) (c:C) (d:D) (e:E) (f:F) (g:G):A∧B∧C∧D∧E∧F∧G:=⟨a,b,c,d,e,f,g⟩
theorem nr {P:Nat→Prop}(z:P 0) (s:∀n,P n→P (n+1)):∀n,P n:=fun n=>n.rec z s
theorem lr.{u}{α:Type u}{P:List α→Prop}(z:P []) (s:∀a l,P l→P (a::l)):∀l,P l:=fun l=>l.rec z s
section
open Lean
def sI (n:Name):Syntax:=.ident .none "".toRawSubstring n []
def sk (x:String):Name:=if x.startsWith "t." then `Lean.Parser.Tactic++(x.drop 2).toString.toName else if x.startsWith "m." then `Lean.Parser.Term++(x.drop 2).toString.toName else x.toName
def fo {α β:Type}(f:α→β→β)(b:β):List α→β|[]=>b|a::l=>f a (fo f b l)
def B (s:String)(a:List Syntax):Syntax:=
 let r:=fo (fun w (t:List (String×List Syntax))=>
 let x:=(w.drop 1).toString
 let c:=w.front
 if c='(' then (x,[])::t else
 match t with
 |[]=>t
 |(k,l)::r=>
  if c=')' then match r with|[]=>t|(j,m)::r=>(j,.node .none (sk k) l.reverse.toArray::m)::r
  else (k,(if c='$' then a.getD x.toNat! .missing else if c='!' then sI x.toName else .atom .none x)::l)::r) [("",[])] (s.splitOn " ").reverse
 (r.headD ("",[])).2.headD .missing
def mp (f:String→Syntax):List String→List Syntax|[]=>[]|a::l=>f a::mp f l
def ms (f:Syntax→Syntax):List Syntax→List Syntax|[]=>[]|a::l=>f a::ms f l
def sL (a:List Syntax):Syntax:=.node .none nullKind a.toArray
def sV (a:List Syntax):List Syntax:=fo (fun x l=>if x.isAtom then l else x::l) [] a
def sJ (a:List Syntax):List Syntax:=match a with|[]=>[]|x::l=>x::fo (fun y r=>.atom .none ","::y::r) [] l
def sF (a:List Syntax):Syntax:=B "(t.first 'first $0 )" [sL (ms (fun t=>B "(group '| (t.tacticSeq (t.tacticSeq1Indented (null $0 ) ) ) )" [t]) a)]
def sX (f:Syntax)(a:List Syntax):Syntax:=B "(m.app $0 $1 )" [f,sL a]
def sR (t:Syntax):Syntax:=B "(t.withReducible 'with_reducible (t.tacticSeq (t.tacticSeq1Indented (null $0 ) ) ) )" [t]
def sE (t:Syntax):Syntax:=B "(t.refine 'refine $0 )" [t]
def sH (n:Name):Syntax:=B "(m.syntheticHole '? $0 )" [sI n]
def sC (n:Name)(t:Syntax):Syntax:=B "(t.case 'case (null (t.caseArg (Lean.binderIdent $0 ) (null ) ) ) '=> (t.tacticSeq (t.tacticSeq1Indented (null $1 ) ) ) )" [sI n,t]
def sW (k:String):Syntax:=B "(PyProof.Rows.tacticWalk_at_ 'walk_at $0 )" [Syntax.mkStrLit k]
def sS (k:String):Syntax:=B s!"(t.{k} '{k} )" []
def sO (k:String):Syntax:=B s!"(t.{k} '{k} (t.optConfig (null ) ) )" []
def s_:Syntax:=B "(m.syntheticHole '? '_ )" []
def sU (b:List Syntax)(e:Syntax):Syntax:=B "(m.fun 'fun (m.basicFun $0 (null ) '=> $1 ) )" [sL b,e]
def sY (h t:Syntax):Syntax:=B "(m.typeAscription (m.hygienicLParen '( (hygieneInfo ! ) ) $0 ': (null $1 ) ') )" [h,t]
def tH (A:Syntax)(c:Char):Syntax:=match c with
 |'A'=>A
 |'r'=>B "(t.tacticRfl 'rfl )" []
 |'k'=>sF [B "(t.exact 'exact (m.app !Eq.refl (null (m.hole '_ ) ) ) )" [],B "(PyProof.Rows.tacticKernel_rfl! 'kernel_rfl! )" []]
 |'I'=>B "(null (t.refine' 'refine' (m.anonymousCtor '⟨ (null !rfl ', (m.hole '_ ) ) '⟩ ) ) (PyProof.Rows.tacticKernel_rfl! 'kernel_rfl! ) )" []
 |'J'=>B "(t.exact 'exact (m.anonymousCtor '⟨ (null !rfl ', (m.hole '_ ) ', !rfl ', !rfl ) '⟩ ) )" []
 |'c'=>sO "decide"
 |'B'=>sF [A,sO "decide"]
 |'K'=>sF [B "(t.tacticRfl 'rfl )" [],B "(PyProof.Rows.tacticKernel_rfl! 'kernel_rfl! )" []]
 |_=>sW c.toString
def tC (A:Syntax)(z:Nat):List Char→List Syntax
 |d::c::l=>if c='Z' then tC A z l else sC (.num (.mkSimple d.toString) z) (tH A c)::tC A z l
 |_=>[]
def tA (w:Bool)(A:Syntax)(z:Nat)(a:String):Syntax:=
 if a="A" then A else
 let s:=a.splitOn " "
 let v:=s.headD "" |>.splitOn "@"
 let m:=sI (v.headD "").toName
 let x:=v.getD 1 ""
 let h:=s.getD 1 ""
 let g:=if x="" then [] else if x.startsWith "N"||x.startsWith "I" then [B s!"(m.namedArgument '( !op ':= !PySem.CmpOp.{x} ') )" []] else if x="#" then [B "(m.namedArgument '( !d ':= (m.app !Mine.Internal.D.gbl (null $0 ) ) ') )" [Syntax.mkNatLit 55]] else [B s!"(m.namedArgument '( !d ':= (m.app !Mine.Internal.D.bi (null !Mine.Internal.Bi.{x} ) ) ') )" []]
 let q:=if h="_" then [B "(m.hole '_ )" []] else fo (fun i l=>sH (.num (.mkSimple (toString i)) z)::l) [] (KC (h.length/2))
 let f:=if g.isEmpty&&q.isEmpty then m else sX m (g++q)
 let t:=B (if h.length≤1 then "(t.exact 'exact $0 )" else "(t.refine' 'refine' $0 )") [f]
 sL ((if w then sR t else t)::tC A z h.toList)
def tF (w:Bool)(A:Syntax)(z:Nat)(s:String):Syntax:=sF (mp (tA w A z) (s.splitOn ";"))
def tD (z:Nat)(e:String):Syntax:=
 let n:=fun s:String=>Name.num (.mkSimple s) z
 B "(null (t.refine' 'refine' (m.app $0 (null $1 ) ) ) $2 $3 )" [sY (sH (n "d")) (B "(m.arrow $0 '→ $0 )" [sH (n "a")]),sH (n "k"),sC (n "k") (sW e),sC (n "d") (sF [B "(null (t.intro 'intro (null (m.hole '_ ) ) ) (PyProof.Rows.tacticKernel_rfl! 'kernel_rfl! ) )" [],B "(null (t.intro 'intro (null !h ) ) (t.exact 'exact !h ) )" []])]
def tW (z:Nat)(k:String):Option Syntax:=
 let A:=sR (sS "assumption")
 match k with
 |"D"=>some (tF true A z "Jl;Ip 0D")
 |"d"=>some (tD z "D")
 |"L"=>some (tF false A z "Nat.le_of_ble_eq_true 0K")
 |"G"=>some (tF true A z "aU;A;Kb 0A;Ka 0A;J9 0A;J8 0A;J7 0A;J6 0A;wL 0k1G;Ik 0k1G")
 |"g"=>some (sF [tF true A z "aU;A",tD z "G"])
 |"p"=>some (tF true A z "A;HQ;Jz;JA 0c;JB 0B;kK;JV;JW;Je;JX;zK 0A;Fx 0A;DW 1A0A;Bb 0A;kX 1A0A;zJ 1A0A;Ef 0A;rU 0A;Id 0c;Ic 0A;HP;Gn;A5;vC;Ji;fG;EE;Jv 1d0L;Ju 1d0L")
 |"E"=>some (tF true A z "A;dY;AB;eI;aL;yN;Au;fY 0k1g;ka 0k1g2A;Hz 0k1g;gy 0k1g;ry 0L;Hx@list 0k1k;Hx@bytes 0k1k;Hx@tuple 0k1k;Hx@# 0k1k;cE 0r1E;aI 0r1E2E;ij 0E1E2p;mM 0r1E2p;oo 0r1E2p;C8 0E1E2E3E4p;E5 0E;eJ 0r1E2p;gz 0r1E2E3p;dH@range 2k0r1r3E;dH@list 2k0r1r3E;dH@len 2k0r1r3E;dH@sum 2k0r1r3E;dH@bytes 2k0r1r3E;dH@isinstance 2k0r1r3E;dH@sorted 2k0r1r3E;dH@tuple 2k0r1r3E;dH@bool 2k0r1r3E;rC 0k1k2E3p")
 |"e"=>some (sF [A,tD z "E"])
 |"a"=>some (sL [tF false A z "bT 0k1I2e3Z"])
 |"l"=>some (tF false A z "W.of 0e1J")
 |"T"=>some (tF true A z "A;Bk;ma;si;BV@In 0r1r2e3e4p;BV@NotIn 0r1r2e3e4p;cU 0r1r2e3e4p;IF 0T;sh 0T;jd 0e1p;je 0e1p;IG 0e1p;Jr 0e1p;uw 0T;x6 0T;gH 0T1T;IR 0T;vI 0T1T;Bj 0T")
 |"t"=>some (sF [A,tD z "T"])
 |"h"=>some (tF true A z "A;Jx;Jw 1k0h;tf 0g1h")
 |"N"=>some (tF false (sS "assumption") z "A;Nat.le_trans 0A1c;Nat.lt_of_le_of_lt 0A1c;Nat.lt_of_lt_of_le 0A1c;Nat.succ_ne_self _;Nat.le_succ _;Nat.lt_succ_self _;JK 0A1A;JJ 0A1A;JM 0A1A2c;JN 0A1c;Nat.ne_of_lt 0A;JI 0A;Nat.le_of_lt 0A;Nat.lt_of_lt_of_le 0A1A;Nat.lt_of_le_of_lt 0A1A;Nat.le_trans 0A1A;Nat.succ_lt_succ 0A;Nat.succ_le_succ 0A;Nat.le_of_not_lt 0A;Nat.lt_of_not_le 0A;Nat.lt_succ_of_le 0A;Nat.le_succ_of_le 0A")
 |"n"=>some (sF [sW "N",sO "lia"])
 |"m"=>some (sF [sW "N",sO "omega"])
 |_=>none
def oP (p:Syntax):Option Syntax:=let i:=p[0];if i.isIdent then (if i.getId.eraseMacroScopes∈[`rfl,`«-»] then none else some i) else if p.isOfKind ``Parser.Tactic.rcasesPat.ignore then some (B "(m.hole '_ )" []) else none
def oB (p:Syntax)(e:Syntax):Syntax:=B "(t.obtain 'obtain (null $0 ) (null ) (null ':= (null $1 ) ) )" [p,e]
def oT (ps:List Syntax):Syntax:=B "(t.rcasesPatMed (null (t.rcasesPat.tuple '⟨ $0 '⟩ ) ) )" [sL (sJ ps)]
def oK (e:Syntax):Syntax:=sF [B "(t.clear 'clear (null $0 ) )" [e],sS "skip"]
def oN (ps:List Syntax)(e:Syntax):List Syntax:=if e.isIdent&&((sL ps).find? fun x=>x.isIdent&&x.getId==e.getId).isNone then [oK e] else []
def oS (p:Syntax):Option Syntax:=if p[0][0].getNumArgs==1 then oP p[0][0][0] else none
def oY (e:Syntax):String:=let s:=e.getId.toString (escape:=false);if s.startsWith "-" then s++"-" else "-"
def oV (y:String):Nat→List Syntax→List Syntax×List Syntax
 |_,[]=>([],[])
 |i,p::l=>let r:=oV y (i+1) l;let f:=sI (.mkSimple s!"{y}{i}");match oS p with|some x=>(x::r.1,r.2)|none=>(f::r.1,oB p[0] f::r.2)
def oR (n:String)(k:Nat)(l:List Syntax)(e:Syntax):Syntax:=
 let ps:=l.take k
 let rest:=l.drop k
 let y:=oY e
 let b:=oV y 0 ps
 let t:=sI (.mkSimple y)
 sL (sE (sX (sI n.toName) [e,sU (if rest.isEmpty then b.1 else b.1++[t]) s_])::oN l e++b.2++(match rest with|[]=>[]|[p]=>[oB p[0] t]|r=>[oB (oT r) t]))
def sG (a:List Syntax):Syntax:=sF (a++[B "(t.fail 'fail (null ) )" []])
def oW:List Syntax→Nat|[]=>0|p::l=>if (oS p).isSome then oW l+1 else 0
def tO (ps:List Syntax)(e:Syntax):Syntax:=
 let k:=ps.length
 let c:=oW ps+1
 sG (fo (fun m l=>if m+1<k then oR s!"x{m+1}" (if m+2=k then k else m+1) ps e::l else l) (fo (fun n l=>if 2≤n&&n≤k&&(n=k&&c≥k-1||n≤c+1&&n<k) then oR s!"z{n}" (if n=k then k else n-1) ps e::l else l) [] [7,6,5,4,3,2,1,0]) [4,3,2,1,0])
def sD:Syntax:=
 let n:=fun i:Nat=>sI (.mkSimple s!".{i}")
 let c:=fun i:Nat=>B "(t.clear 'clear (null $0 ) )" [n i]
 let r:=(KC 14).reverse
 sL (sF (fo (fun k l=>sL [B "(t.renameI 'rename_i $0 )" [sL (fo (fun i l=>B "(Lean.binderIdent $0 )" [n i]::l) [] (KC (k+1)))],c 0]::l) [sS "skip"] r)::fo (fun i l=>sF [c i,sS "skip"]::l) [] r)
def BC (x:Option Syntax):MacroM Syntax:=fun _ m=>match x with|some t=>.ok t m|none=>.error .unsupportedSyntax m
def mW (s:Syntax):MacroM Syntax:=fun c=>BC (tW c.currMacroScope (s[1].isStrLit?.getD "")) c
def oQ (z:Nat)(p e:Syntax):Option Syntax:=
 let q:=p[0][0]
 if p[0].getNumArgs=1 then
 if q.isOfKind ``Parser.Tactic.rcasesPat.tuple then some (tO (sV q[1].getArgs.toList) e)
 else if q[0].isIdent&&q[0].getId.eraseMacroScopes= `rfl then some (B "(null $0 (t.rcases 'rcases (null (t.elimTarget (null ) $1 ) ) (null 'with (t.rcasesPatLo (t.rcasesPatMed (null (t.rcasesPat.paren '( (t.rcasesPatLo $2 (null ) ) ') ) ) ) (null ) ) ) ) )" [sD,e,p])
 else none
 else
 let ps:=sV p[0].getArgs.toList
 let f:=fun (i:String) (r:Syntax)=>let x:=sI (.mkSimple (oY e++i));match r[0].getNumArgs==1,oP r[0][0] with|true,some x=>(x,sL (oN ps e))|_,_=>(x,sL (oN ps e++[oB r x]))
 let a:=f "a" (B "(t.rcasesPatMed (null $0 ) )" [ps.headD .missing])
 let b:=f "b" (B "(t.rcasesPatMed $0 )" [sL (match ps.tail with|[]=>[]|x::l=>x::fo (fun y r=>.atom .none "|"::y::r) [] l)])
 let h:=fun s:String=>Name.num (.mkSimple s) z
 let c:="(t.case' 'case' (null (t.caseArg (Lean.binderIdent $0 ) (null ) ) ) '=> (t.tacticSeq (t.tacticSeq1Indented (null $1 ) ) ) )"
 some (sG [sL [sE (sX (sI `Or.elim) [e,sU [a.1] (sH (h "a")),sU [b.1] (sH (h "b"))]),B c [sI (h "b"),b.2],B c [sI (h "a"),a.2]]])
def mO (p e:Syntax):MacroM Syntax:=fun c=>BC (oQ c.currMacroScope p e) c
def mQ (s:Syntax):MacroM Syntax:=if s[1].getNumArgs=1&&s[2].getNumArgs=0&&s[3].getNumArgs=2&&s[3][1].getNumArgs=1 then mO s[1][0] s[3][1][0] else BC none
def mP (s:Syntax):MacroM Syntax:=if s[1].getNumArgs=1&&s[1][0][0].getNumArgs=0&&s[2].getNumArgs=2&&s[2][1][1].getNumArgs=0 then mO s[2][1][0] s[1][0][1] else BC none
def mR (s:Syntax):MacroM Syntax:=if s[1][0].getNumArgs>0||s[3].getNumArgs>0 then BC none else BC (some (sL (ms (fun x=>
 let e:=x[1]
 let l:=B "(m.ellipsis '.. )" []
 sF [sE (sX (sI (if x[0].getNumArgs=1 then `Mine.Internal.rq else `Mine.Internal.rp)) [if e.isOfKind ``Parser.Term.app then sX e[0] (e[1].getArgs.toList++[l]) else sX e [l],s_]),B "(t.rewriteSeq 'rewrite (t.optConfig (null ) ) (t.rwRuleSeq '[ (null $0 ) '] ) (null ) )" [x]]) (sV s[2][1].getArgs.toList)++[sF [sR (B "(t.tacticRfl 'rfl )" []),sS "skip"]])))
def mV (s:Syntax):MacroM Syntax:=BC (some (sF [sE (sY s_ s[1]),B "(t.change 'change $0 (null ) )" [s[1]]]))
def mK (_:Syntax):MacroM Syntax:=BC (some (sG [B "(t.exact 'exact (m.app !Eq.refl (null (m.hole '_ ) ) ) )" []]))
def mS (s:Syntax):MacroM Syntax:=if s[1].getNumArgs=1&&s[1][0].isIdent then mO (B "(t.rcasesPatMed (null (t.rcasesPat.one !rfl ) ) )" []) s[1][0] else BC none
def mC (s:Syntax):MacroM Syntax:=fun c=>
 let t:=s[1][0]
 let l:=s[3][0][2].getArgs.toList
 let h:=fun s:String=>Name.num (.mkSimple s) c.currMacroScope
 let g:=fun (k:Name)=>fo (fun x (r:Option Syntax)=>if x[0][0][1][1].getId.eraseMacroScopes==k&&x[1][1].isOfKind ``Parser.Tactic.tacticSeq then some x else r) none l
 BC (match s[1].getNumArgs==1&&t[0].getNumArgs==2&&l.length==2&&s[2].getNumArgs==0,g `none,g `some with
 |true,some x,some y=>let n:=t[0][0][0];some (sG [sL [sE (sX (sI `Mine.Internal.oc) [t[1],sU [n] (sH (h "a")),sU [y[0][0][2][0],n] (sH (h "b"))]),sC (h "a") x[1][1],sC (h "b") y[1][1]]])
 |_,_,_=>none) c
end
end Mine.Internal
end
local macro_rules (kind:=PyProof.Rows.tacticWalk_at_)|s=>Mine.Internal.mW s
local macro_rules (kind:=Lean.Parser.Tactic.obtain)|s=>Mine.Internal.mQ s
local macro_rules (kind:=Lean.Parser.Tactic.rcases)|s=>Mine.Internal.mP s
local macro_rules (kind:=Lean.Parser.Tactic.rwSeq)|s=>Mine.Internal.mR s
local macro_rules (kind:=Lean.Parser.Tactic.show)|s=>Mine.Internal.mV s
local macro_rules (kind:=Lean.Parser.Tactic.subst)|s=>Mine.Internal.mS s
local macro_rules (kind:=Lean.Parser.Tactic.cases)|s=>Mine.Internal.mC s
namespace Mine.Internal
open PySem PySem.W PyProof.Rows
section
local macro_rules (kind:=tacticKernel_rfl)|s=>Mine.Internal.mK s
theorem aC {P:Prop}(h:∀G:Prop,(P->G)->G):P:=h P id
mutual
inductive Bi where
 | len | range | sum | list | bytes | tuple | set | bool | sorted | ord | isinstance | enumerate | iter | valueError | stopIteration
inductive BM where | append | pop | clear | index | get | values | add | join | decode
end
noncomputable def Bi.val:Bi->Value
 | .len=>.builtin "len" | .range=>.type "range" | .sum=>.builtin "sum" | .list=>.type "list" | .bytes=>.type "bytes" | .tuple=>.type "tuple" | .set=>.type "set"
 | .bool=>.type "bool" | .sorted=>.builtin "sorted" | .ord=>.builtin "ord" | .isinstance=>.builtin "isinstance" | .enumerate=>.type "enumerate" | .iter=>.builtin "iter"
 | .valueError=>.type "ValueError" | .stopIteration=>.type "StopIteration"
inductive D where
 | non
 | bool (b:Bool)
 | int (i:Int)
 | str (s:Str)
 | bytes (b:Array UInt8)
 | tup (ds:List D)
 | lst (ds:List D)
 | dct (kvs:List (Int×D))
 | rng (lo hi:Int)
 | bi (b:Bi)
 | gbl (a:Addr)
inductive V where
 | d (d:D)
 | loc (l:Nat)
 | nxt (l:Nat)
 | vals (l:Nat)
 | pair (l:Nat) (d:D)
inductive SObj where
 | ctab
 | list (ds:List D)
 | nexts (ls:List Nat)
 | dict (kvs:List (Int×D))
 | objs (kvs:List (Int×Nat))
 | fobjs (kvs:List (Int×Nat))
 | set (xs:List Int)
 | inst (at_:List (Str×V))
 | node (a b c:Option V)
 | iter (l:Nat) (i:Nat)
 | exc (cls:D) (args:List D)
 | tape (b:Array UInt8) (l:Nat)
 | gone
 | einst (at_:List (Str×V))
structure St where
 fr:List (Str×V)
 st:List SObj
inductive Res (α:Type) where
 | ok (a:α) (s:St)
 | exn (c:D) (args:List D) (s:St)
 | bad
noncomputable def Res.bind {α β:Type}(x:Res α) (f:α->St->Res β):Res β:=Res.casesOn x f .exn .bad
noncomputable def cP {α:Type}(x:Option α) (s:St):Res α:=MI x .bad λa=>.ok a s
inductive Fl where
 | next | brk | cont
 | ret (v:V)
structure Cx where
 names:List (Str×LM)
 comp:Bool
 inH:Bool
section
variable {α β:Type}{P:Prop}
theorem aA {a:Option α}{f:α->Option β}{o:β}(e:a.bind f=Vr o) (k:∀x,a=Vr x->f x=Vr o->P):P:=match a,e,k with
 | some x,e,k=>k x rfl e
theorem aV {a:Option α}{f:α->β}{o:β}(e:a.map f=Vr o) (k:∀x,a=Vr x->f x=o->P):P:=match a,e,k with
 | some x,e,k=>k x rfl (Kd e)
theorem cL {a b:Option α}{o:α}(e:a.or b=Vr o) (c:a=Vr o->P) (d:b=Vr o->P):P:=match a,e,c with
 | some _,e,c=>c e
 | none,e,_=>d e
theorem bD {c:Prop} [i:Decidable c] {a:Option α}{o:α}(e:(if c then a else Vs)=Vr o) (k:c->a=Vr o->P):P:=match i,e with
 | .isTrue h,e=>k h e
 | .isFalse _,e=>nomatch e
end
section
variable {α:Type}
noncomputable def D.int? (d:D):Option Int:=D.casesOn d Vs (λ_=>Vs) Vr (λ_=>Vs) (λ_=>Vs) (λ_=>Vs) (λ_=>Vs) (λ_=>Vs) (λ_ _=>Vs) (λ_=>Vs) (λ_=>Vs)
noncomputable def D.bool? (d:D):Option Bool:=D.casesOn d Vs Vr (λ_=>Vs) (λ_=>Vs) (λ_=>Vs) (λ_=>Vs) (λ_=>Vs) (λ_=>Vs) (λ_ _=>Vs) (λ_=>Vs) (λ_=>Vs)
noncomputable def D.str? (d:D):Option Str:=D.casesOn d Vs (λ_=>Vs) (λ_=>Vs) Vr (λ_=>Vs) (λ_=>Vs) (λ_=>Vs) (λ_=>Vs) (λ_ _=>Vs) (λ_=>Vs) (λ_=>Vs)
noncomputable def D.bytes? (d:D):Option (Array UInt8):=D.casesOn d Vs (λ_=>Vs) (λ_=>Vs) (λ_=>Vs) Vr (λ_=>Vs) (λ_=>Vs) (λ_=>Vs) (λ_ _=>Vs) (λ_=>Vs) (λ_=>Vs)
noncomputable def D.tup? (d:D):Option (List D):=D.casesOn d Vs (λ_=>Vs) (λ_=>Vs) (λ_=>Vs) (λ_=>Vs) Vr (λ_=>Vs) (λ_=>Vs) (λ_ _=>Vs) (λ_=>Vs) (λ_=>Vs)
noncomputable def D.lst? (d:D):Option (List D):=D.casesOn d Vs (λ_=>Vs) (λ_=>Vs) (λ_=>Vs) (λ_=>Vs) (λ_=>Vs) Vr (λ_=>Vs) (λ_ _=>Vs) (λ_=>Vs) (λ_=>Vs)
noncomputable def D.dct? (d:D):Option (List (Int×D)):=D.casesOn d Vs (λ_=>Vs) (λ_=>Vs) (λ_=>Vs) (λ_=>Vs) (λ_=>Vs) (λ_=>Vs) Vr (λ_ _=>Vs) (λ_=>Vs) (λ_=>Vs)
noncomputable def D.rng? (d:D):Option (Int×Int):=D.casesOn d Vs (λ_=>Vs) (λ_=>Vs) (λ_=>Vs) (λ_=>Vs) (λ_=>Vs) (λ_=>Vs) (λ_=>Vs) (λa b=>Vr (a,b)) (λ_=>Vs) (λ_=>Vs)
noncomputable def D.none? (d:D):Option Unit:=D.casesOn d (Vr ()) (λ_=>Vs) (λ_=>Vs) (λ_=>Vs) (λ_=>Vs) (λ_=>Vs) (λ_=>Vs) (λ_=>Vs) (λ_ _=>Vs) (λ_=>Vs) (λ_=>Vs)
noncomputable def D.bi? (d:D):Option Bi:=D.casesOn d Vs (λ_=>Vs) (λ_=>Vs) (λ_=>Vs) (λ_=>Vs) (λ_=>Vs) (λ_=>Vs) (λ_=>Vs) (λ_ _=>Vs) Vr (λ_=>Vs)
noncomputable def D.gbl? (d:D):Option Addr:=D.casesOn d Vs (λ_=>Vs) (λ_=>Vs) (λ_=>Vs) (λ_=>Vs) (λ_=>Vs) (λ_=>Vs) (λ_=>Vs) (λ_ _=>Vs) (λ_=>Vs) Vr
noncomputable def V.d? (v:V):Option D:=V.casesOn v Vr (λ_=>Vs) (λ_=>Vs) (λ_=>Vs) λ_ _=>Vs
noncomputable def V.loc? (v:V):Option Nat:=V.casesOn v (λ_=>Vs) Vr (λ_=>Vs) (λ_=>Vs) λ_ _=>Vs
noncomputable def V.nxt? (v:V):Option Nat:=V.casesOn v (λ_=>Vs) (λ_=>Vs) Vr (λ_=>Vs) λ_ _=>Vs
noncomputable def V.vals? (v:V):Option Nat:=V.casesOn v (λ_=>Vs) (λ_=>Vs) (λ_=>Vs) Vr λ_ _=>Vs
noncomputable def SObj.list? (o:SObj):Option (List D):=SObj.casesOn o Vs Vr (λ_=>Vs) (λ_=>Vs) (λ_=>Vs) (λ_=>Vs) (λ_=>Vs) (λ_=>Vs) (λ_ _ _=>Vs) (λ_ _=>Vs) (λ_ _=>Vs) (λ_ _=>Vs) Vs λ_=>Vs
noncomputable def SObj.nexts? (o:SObj):Option (List Nat):=SObj.casesOn o Vs (λ_=>Vs) Vr (λ_=>Vs) (λ_=>Vs) (λ_=>Vs) (λ_=>Vs) (λ_=>Vs) (λ_ _ _=>Vs) (λ_ _=>Vs) (λ_ _=>Vs) (λ_ _=>Vs) Vs λ_=>Vs
noncomputable def SObj.dict? (o:SObj):Option (List (Int×D)):=SObj.casesOn o Vs (λ_=>Vs) (λ_=>Vs) Vr (λ_=>Vs) (λ_=>Vs) (λ_=>Vs) (λ_=>Vs) (λ_ _ _=>Vs) (λ_ _=>Vs) (λ_ _=>Vs) (λ_ _=>Vs) Vs λ_=>Vs
noncomputable def SObj.objs? (o:SObj):Option (List (Int×Nat)):=SObj.casesOn o Vs (λ_=>Vs) (λ_=>Vs) (λ_=>Vs) Vr (λ_=>Vs) (λ_=>Vs) (λ_=>Vs) (λ_ _ _=>Vs) (λ_ _=>Vs) (λ_ _=>Vs) (λ_ _=>Vs) Vs λ_=>Vs
noncomputable def SObj.fobjs? (o:SObj):Option (List (Int×Nat)):=SObj.casesOn o Vs (λ_=>Vs) (λ_=>Vs) (λ_=>Vs) (λ_=>Vs) Vr (λ_=>Vs) (λ_=>Vs) (λ_ _ _=>Vs) (λ_ _=>Vs) (λ_ _=>Vs) (λ_ _=>Vs) Vs λ_=>Vs
noncomputable def SObj.set? (o:SObj):Option (List Int):=SObj.casesOn o Vs (λ_=>Vs) (λ_=>Vs) (λ_=>Vs) (λ_=>Vs) (λ_=>Vs) Vr (λ_=>Vs) (λ_ _ _=>Vs) (λ_ _=>Vs) (λ_ _=>Vs) (λ_ _=>Vs) Vs λ_=>Vs
noncomputable def SObj.inst? (o:SObj):Option (List (Str×V)):=SObj.casesOn o Vs (λ_=>Vs) (λ_=>Vs) (λ_=>Vs) (λ_=>Vs) (λ_=>Vs) (λ_=>Vs) Vr (λ_ _ _=>Vs) (λ_ _=>Vs) (λ_ _=>Vs) (λ_ _=>Vs) Vs λ_=>Vs
noncomputable def SObj.node? (o:SObj):Option (Option V×Option V×Option V):=SObj.casesOn o Vs (λ_=>Vs) (λ_=>Vs) (λ_=>Vs) (λ_=>Vs) (λ_=>Vs) (λ_=>Vs) (λ_=>Vs) (λa b c=>Vr (a,b,c)) (λ_ _=>Vs) (λ_ _=>Vs) (λ_ _=>Vs) Vs λ_=>Vs
noncomputable def SObj.iter? (o:SObj):Option (Nat×Nat):=SObj.casesOn o Vs (λ_=>Vs) (λ_=>Vs) (λ_=>Vs) (λ_=>Vs) (λ_=>Vs) (λ_=>Vs) (λ_=>Vs) (λ_ _ _=>Vs) (λa b=>Vr (a,b)) (λ_ _=>Vs) (λ_ _=>Vs) Vs λ_=>Vs
noncomputable def SObj.exc? (o:SObj):Option (D×List D):=SObj.casesOn o Vs (λ_=>Vs) (λ_=>Vs) (λ_=>Vs) (λ_=>Vs) (λ_=>Vs) (λ_=>Vs) (λ_=>Vs) (λ_ _ _=>Vs) (λ_ _=>Vs) (λa b=>Vr (a,b)) (λ_ _=>Vs) Vs λ_=>Vs
noncomputable def SObj.tape? (o:SObj):Option (Array UInt8×Nat):=SObj.casesOn o Vs (λ_=>Vs) (λ_=>Vs) (λ_=>Vs) (λ_=>Vs) (λ_=>Vs) (λ_=>Vs) (λ_=>Vs) (λ_ _ _=>Vs) (λ_ _=>Vs) (λ_ _=>Vs) (λa b=>Vr (a,b)) Vs λ_=>Vs
noncomputable def SObj.einst? (o:SObj):Option (List (Str×V)):=SObj.casesOn o Vs (λ_=>Vs) (λ_=>Vs) (λ_=>Vs) (λ_=>Vs) (λ_=>Vs) (λ_=>Vs) (λ_=>Vs) (λ_ _ _=>Vs) (λ_ _=>Vs) (λ_ _=>Vs) (λ_ _=>Vs) Vs Vr
noncomputable def SObj.ctab? (o:SObj):Bool:=SObj.casesOn o Vt (λ_=>Vu) (λ_=>Vu) (λ_=>Vu) (λ_=>Vu) (λ_=>Vu) (λ_=>Vu) (λ_=>Vu) (λ_ _ _=>Vu) (λ_ _=>Vu) (λ_ _=>Vu) (λ_ _=>Vu) Vu λ_=>Vu
end
noncomputable def aY (x:Str) (v:V):List (Str×V)->List (Str×V)
 | []=>[(x,v)]
 | p::r=>if p.1=x then (p.1,v)::r else p::aY x v r
noncomputable def Dd (x:Str):List (Str×V)->List (Str×V)
 | []=>[]
 | p::r=>if p.1=x then Dd x r else p::Dd x r
noncomputable def get (x:Str):List (Str×V)->Option V
 | []=>Vs
 | p::r=>if p.1=x then Vr p.2 else get x r
theorem DM {x:Str}{v:V}{p:Str×V}{r:List (Str×V)}:aY x v (p::r)=if p.1=x then (p.1,v)::r else p::aY x v r:=rfl
theorem HC {x:Str}{p:Str×V}{r:List (Str×V)}:Dd x (p::r)=if p.1=x then Dd x r else p::Dd x r:=rfl
theorem vh {x:Str}{p:Str×V}{r:List (Str×V)}:get x (p::r)=if p.1=x then Vr p.2 else get x r:=rfl
noncomputable def eF (a:List (Str×V)) (fr:List (Str×V)):List (Str×V):=a.foldl (λfr b=>aY b.1 b.2 fr) fr
noncomputable def aF {α:Type}(k:Int):List (Int×α)->Option α
 | []=>Vs
 | p::r=>if p.1=k then Vr p.2 else aF k r
noncomputable def lZ {α:Type}(k:Int) (v:α):List (Int×α)->List (Int×α)
 | []=>[(k,v)]
 | p::r=>if p.1=k then (p.1,v)::r else p::lZ k v r
noncomputable def pR {α:Type}(k:Int):List (Int×α)->List (Int×α)
 | []=>[]
 | p::r=>if p.1=k then r else p::pR k r
noncomputable def V.ls? (st:List SObj) (v:V):Option (List D):=(v.d?.bind D.lst?).or (v.loc?.bind λl=>(st[l]?).bind SObj.list?)
noncomputable def V.kvs? (st:List SObj) (v:V):Option (List (Int×D)):=(v.d?.bind D.dct?).or (v.loc?.bind λl=>(st[l]?).bind SObj.dict?)
noncomputable def SObj.objs0? (o:SObj):Option (List (Int×Nat)):=o.objs?.or (o.dict?.bind λkvs=>if kvs.isEmpty=Vt then Vr [] else Vs)
noncomputable def SObj.anyObjs? (o:SObj):Option (List (Int×Nat)):=o.objs?.or o.fobjs?
noncomputable def V.objs? (st:List SObj) (v:V):Option (List (Int×Nat)):=v.loc?.bind λl=>(st[l]?).bind SObj.anyObjs?
abbrev cM (i:Int):Prop:=i.natAbs<18446744073709551616
noncomputable def jr {α:Type}(a b:D) (f:Int->Int->Option α):Option α:=a.int?.bind λi=>b.int?.bind λj=>f i j
noncomputable def B1 {α:Type}(a b:D) (f:Str->Str->Option α):Option α:=a.str?.bind λi=>b.str?.bind λj=>f i j
noncomputable def CA {α:Type}(a b:D) (f:List D->List D->Option α):Option α:=a.lst?.bind λi=>b.lst?.bind λj=>f i j
noncomputable def HO (op:NA) (a b:D):Option D:=match op with
 | .Add=>(jr a b λi j=>Vr (.int (i+j))).or ((B1 a b λs t=>if s.cps.size+t.cps.size<=1000 then Vr (.str (s++t)) else Vs).or (CA a b λs t=>if s.length+t.length<=100000 then Vr (.lst (s++t)) else Vs))
 | .Sub=>jr a b λi j=>Vr (.int (i-j))
 | .Mult=>(jr a b λi j=>if cM i/\cM j then Vr (.int (i*j)) else Vs).or (a.lst?.bind λl=>b.int?.bind λn=>if l.length=1/\0<=n/\n<=1000 then Vr (.lst ((LU n.toNat l).flatten)) else Vs)
 | .FloorDiv=>jr a b λi j=>if j≠0/\j.natAbs<1000000 then Vr (.int (Lo i j)) else Vs
 | .Mod=>jr a b λi j=>if j≠0 then Vr (.int (Ln i j)) else Vs
 | .BitAnd=>jr a b λi j=>if 0<=i/\0<=j then Vr (.int ((i.toNat&&& j.toNat:Nat):Int)) else Vs
 | _=>Vs
noncomputable def kN:List (Option Bool)->Option Bool
 | []=>Vr Vt
 | o::r=>o.bind λa=>(kN r).map λb=>a&&b
noncomputable def fE:Nat->D->D->Option Bool
 | 0,_,_=>Vs
 | n+1,a,b=>(jr a b λi j=>Vr (i==j)).or ((B1 a b λi j=>Vr (i==j)).or ((a.bytes?.bind λi=>b.bytes?.bind λj=>Vr (i==j)).or ((a.bool?.bind λi=>b.bool?.bind λj=>Vr (i==j)).or ((CA a b λs t=>if s.length=t.length then kN (My (fE n) s t) else Vr Vu).or (a.tup?.bind λs=>b.tup?.bind λt=>if s.length=t.length then kN (My (fE n) s t) else Vs)))))
noncomputable def vp (d:D):List D->Option (List Bool)
 | []=>Vr []
 | x::r=>(fE 3 x x).bind λ_=>(fE 3 x d).bind λa=>(vp d r).map λb=>a::b
noncomputable def JP (d:D) (l:List D):Option Bool:=(vp d l).map λa=>a.any id
noncomputable def gs (d:D) (l:List D):Option Nat:=(vp d l).bind λa=>a.findIdx? id
noncomputable def zA (st:List SObj) (a:D) (v:V):Option Bool:=((v.ls? st).bind (JP a)).or (a.int?.bind λk=>((v.kvs? st).map λkvs=>(aF k kvs).isSome).or ((v.loc?.bind λl=>(st[l]?).bind SObj.set?).map λb=>b.contains k))
noncomputable def I2 (v:V) (d:D):Option Bool:=(v.loc?.bind λ_=>d.none?.map λ_=>Vu).or (v.d?.bind λe=>(d.none?.bind λ_=>(e.none?.map λ_=>Vt).or ((e.tup?.map λ_=>Vu).or (e.lst?.map λ_=>Vu))).or (d.bool?.bind λb=>e.bool?.map λa=>a==b))
noncomputable def gJ (a b:D):Option Bool:=(jr a b λi j=>Vr (i==j)).or ((B1 a b λi j=>Vr (i==j)).or ((CA a b λs t=>if s.length=t.length then kN (My (fE 5) s t) else Vr Vu).or (a.tup?.bind λs=>b.tup?.bind λt=>if s.length=t.length then kN (My (fE 5) s t) else Vs)))
noncomputable def HD (op:PU) (a b:D):Option Bool:=match op with
 | .Eq=>gJ a b
 | .NotEq=>(gJ a b).map (!·)
 | .Lt=>jr a b λi j=>Vr (decide (i<j))
 | .Gt=>jr a b λi j=>Vr (decide (j<i))
 | .GtE=>jr a b λi j=>Vr (decide (j<=i))
 | _=>Vs
noncomputable def bV (st:List SObj) (op:PU) (a b:V):Option Bool:=match op with
 | .In=>a.d?.bind λd=>zA st d b
 | .NotIn=>(a.d?.bind λd=>zA st d b).map (!·)
 | .Is=>b.d?.bind (I2 a)
 | .IsNot=>(b.d?.bind (I2 a)).map (!·)
 | op=>a.d?.bind λd=>b.d?.bind λe=>HD op d e
noncomputable def cc (st:List SObj) (v:V):Option Bool:=((v.ls? st).map λl=>!l.isEmpty).or (v.d?.bind λd=>(d.none?.map λ_=>Vu).or (d.bool?.or ((d.int?.map λi=>decide (i≠0)).or ((d.bytes?.map λb=>decide (b.size≠0)).or (d.tup?.map λl=>!l.isEmpty)))))
noncomputable def ki (n:Nat) (i:Int):Option Nat:=if 0<=i then (if i.toNat<n then Vr i.toNat else Vs) else (if 0<=i+n then Vr (i+n).toNat else Vs)
noncomputable def zF (st:List SObj) (v:V) (i:Int):Option D:=((v.ls? st).bind λl=>(ki l.length i).bind λk=>l[k]?).or (((v.kvs? st).bind (aF i)).or (v.d?.bind λd=>(d.tup?.bind λl=>(ki l.length i).bind λk=>l[k]?).or ((d.str?.bind λs=>if 0<=i then (s.cps[i.toNat]?).map λc=>.str ⟨#[c]⟩ else Vs).or (d.bytes?.bind λb=>if 0<=i then (b[i.toNat]?).map λc=>.int (c.toNat:Int) else Vs))))
noncomputable def zE (st:List SObj) (v:V) (i:Int):Option V:=((zF st v i).map V.d).or (((v.objs? st).bind (aF i)).map V.loc)
noncomputable def gi {α:Type}(k m:Int) (l:List α):List α:=(sliceRange (S4 (Vr k) Vs (Vr m) l.length).1 (S4 (Vr k) Vs (Vr m) l.length).2.1 (S4 (Vr k) Vs (Vr m) l.length).2.2).filterMap (l[·]?)
noncomputable def yk (l:List D) (a b c:Option Int):Option (List D):=match a,b,c with
 | some k,Vs,Vr m=>if m≠0 then Vr (gi k m l) else Vs
 | none,Vr k,Vs=>if 0<=k then Vr (l.take k.toNat) else Vs
 | some k,Vs,Vs=>if 0<=k then Vr (l.drop k.toNat) else Vs
 | _,_,_=>Vs
noncomputable def cR:List D->Option (List Int)
 | []=>Vr []
 | d::r=>d.int?.bind λi=>(cR r).map (i::·)
noncomputable def gT:List D->Option (List Str)
 | []=>Vr []
 | d::r=>d.str?.bind λi=>(gT r).map (i::·)
noncomputable def eE (lo:Int):Nat->List D
 | 0=>[]
 | n+1=>.int lo::eE (lo+1) n
noncomputable def il (b:Array UInt8):List D:=b.toList.map λc=>.int (c.toNat:Int)
noncomputable def iF (k:Int):List Int->List Int
 | []=>[k]
 | x::r=>if k<=x then k::x::r else x::iF k r
theorem nZ {k x:Int}{r:List Int}:iF k (x::r)=if k<=x then k::x::r else x::iF k r:=rfl
noncomputable def fe:List Int->List Int
 | []=>[]
 | x::r=>iF x (fe r)
noncomputable def ik (l:List Int):List Int:=l.foldl (λacc x=>if acc.contains x then acc else acc++[x]) []
noncomputable def items (d:D):Option (List D):=d.lst?.or (d.tup?.or ((d.rng?.bind λp=>if 0<=p.1/\p.1<=p.2/\p.2<=1000 then Vr (eE p.1 (p.2-p.1).toNat) else Vs).or ((d.bytes?.map il).or (d.str?.map λs=>s.cps.toList.map λc=>.str ⟨#[c]⟩))))
noncomputable def cycleC:Addr:=55
noncomputable def eu:Addr:=40
noncomputable def bJ:Addr:=137
noncomputable def bL:Addr:=179
noncomputable def Bi.ix (a:Bi):Nat:=a.casesOn 0 1 2 3 4 5 6 7 8 9 10 11 12 13 14
noncomputable def Bi.eq (a b:Bi):Bool:=a.ix==b.ix
noncomputable def pD (st:List SObj) (v:V) (c:D):Option Bool:=(c.bi?.bind λb=>v.d?.bind λd=>Bi.casesOn b Vs Vs Vs (d.lst?.map λ_=>Vt) (d.bytes?.map λ_=>Vt) (d.tup?.map λ_=>Vt) Vs Vs Vs Vs Vs Vs Vs Vs Vs).or (c.gbl?.bind λa=>(v.loc?.bind λl=>(st[l]?).bind SObj.exc?).bind λp=>p.1.bi?.bind λb=>if a=cycleC/\b.eq .valueError=Vt then Vr Vu else Vs)
noncomputable def G4 (st:List SObj) (v:V):Option Nat:=((v.ls? st).map Qp).or (v.d?.bind λd=>(d.tup?.map Qp).or ((d.bytes?.map Array.size).or (d.str?.map λs=>s.cps.size)))
noncomputable def fc {α:Type}(vs:List V) (f:V->Option α):Option α:=LZ vs Vs λv r=>LZ r (f v) λ_ _=>Vs
noncomputable def Dw {α:Type}(vs:List V) (f:V->V->Option α):Option α:=LZ vs Vs λv r=>fc r (f v)
noncomputable def G1 (d:D):Option D:=(d.rng?.bind λp=>if 0<=p.1/\p.1<=p.2/\p.2<=1000 then Vr (.lst (eE p.1 (p.2-p.1).toNat)) else Vs).or (d.bytes?.bind λb=>if b.size<=1000 then Vr (.lst (il b)) else Vs)
abbrev bK (i:Int):Prop:=0<=i/\i<256
noncomputable def DJ (d:D):Option D:=(d.tup?.bind λl=>(cR l).bind λis=>if is.length<64 then Vr (.lst ((fe is).map .int)) else Vs).or (d.dct?.bind λkvs=>if kvs.length<64 then Vr (.lst ((fe (kvs.map (·.1))).map .int)) else Vs)
noncomputable def EV (d:D):Option D:=d.int?.map λ(n:Int)=>.rng 0 n
noncomputable def IH (d:D):Option D:=d.lst?.bind λl=>(cR l).map λ(is:List Int)=>.int is.sum
noncomputable def F5 (d:D):Option D:=d.lst?.bind λl=>(cR l).bind λ(is:List Int)=>if is.length<=100000/\∀i∈is,bK i then Vr (.bytes (is.map λ(i:Int)=>i.toNat.toUInt8).toArray) else Vs
noncomputable def IQ (d:D):Option D:=d.str?.bind λs=>if s.cps.size=1 then (s.cps[(0:Nat)]?).map λ(n:Nat)=>.int (n:Int) else Vs
noncomputable def bI (st:List SObj) (b:Bi) (vs:List V):Option D:=match b with
 | .len=>fc vs λv=>(G4 st v).map λ(n:Nat)=>.int (n:Int)
 | .range=>(fc vs λv=>v.d?.bind EV).or (Dw vs λv u=>v.d?.bind λd=>u.d?.bind λe=>jr d e λi j=>Vr (.rng i j))
 | .sum=>fc vs λv=>v.d?.bind IH
 | .list=>fc vs λv=>v.d?.bind G1
 | .bytes=>fc vs λv=>v.d?.bind F5
 | .tuple=>fc vs λv=>(v.ls? st).map .tup
 | .bool=>fc vs λv=>(v.ls? st).map λl=>.bool (!l.isEmpty)
 | .sorted=>fc vs λv=>v.d?.bind DJ
 | .ord=>fc vs λv=>v.d?.bind IQ
 | .isinstance=>Dw vs λv c=>c.d?.bind λc=>(pD st v c).map .bool
 | _=>Vs
noncomputable def nV (b:Bi) (d:D):Option D:=d.lst?.bind λl=>(cR l).bind λis=>if is.length<64 then Bi.casesOn b (Vr (.int (ik is).length)) Vs Vs Vs Vs Vs Vs Vs (Vr (.lst ((fe (ik is)).map .int))) Vs Vs Vs Vs Vs Vs else Vs
noncomputable abbrev PR:Program:=PySem.Challenge.pw_oc0260_01
abbrev Imm:=List (Addr×Obj)
noncomputable abbrev dU (vs:List Value) (n:Nat):Obj:={cls:=.type "tuple",data:=.seq vs.toArray n}
noncomputable abbrev lstO (vs:List Value) (n:Nat):Obj:={cls:=.type "list",data:=.seq vs.toArray n}
noncomputable abbrev ER (lo a:Int) (t u v:PT):Obj:={cls:=.type "range",dict:=Vs,data:=.fields #[.int lo t,.int a u,.int 1 v],slots:=#[]}
noncomputable abbrev sZ (b:Addr):Obj:={cls:=.type "method-wrapper",data:=.fields #[.builtin "list_iterator.__next__",.ref b]}
noncomputable abbrev Iy (d:Addr):Obj:={cls:=.type "dict_values",data:=.fields #[.ref d]}
noncomputable abbrev zz (l:Addr) (i:Nat):Obj:={cls:=.type "list_iterator",data:=.fields #[.ref l,.int i 0]}
noncomputable def bN (i:Nat):Stmt:=(PR.main.body[i]?).getD (.Pass ⟨0,0,0,0⟩)
noncomputable def gK:Stmt->List Stmt
 | .FunctionDef _ _ b _ _ _ _ _ _ _=>b
 | _=>[]
noncomputable def fZ:Stmt->Arguments
 | .FunctionDef _ a _ _ _ _ _ _ _ _=>a
 | _=>⟨[],[],Vs,[],[],Vs,[]⟩
noncomputable def bO:Stmt->OL
 | .FunctionDef _ _ _ _ _ _ a _ _ _=>a
 | _=>{kind:=.function,names:=[],isGenerator:=Vu,isCoroutine:=Vu}
mutual
inductive RD (w:Lh) (imm:Imm):Value->D->Prop
 | non:RD w imm .none .non
 | bool (b:Bool):RD w imm (.bool b) (.bool b)
 | int (i:Int) (t:PT):RD w imm (.int i t) (.int i)
 | str (s:Str) (t:PT):s.cps.size<=16777216->RD w imm (.str s t) (.str s)
 | bytes (b:Array UInt8) (t:PT):b.size<=16777216->RD w imm (.bytes b t) (.bytes b)
 | tup {a:Addr}{vs:List Value}{n:Nat}{ds:List D}:(a,dU vs n)∈imm->vs.length<=16777216->RDs w imm vs ds->RD w imm (.ref a) (.tup ds)
 | lst {a:Addr}{vs:List Value}{n:Nat}{ds:List D}:(a,lstO vs n)∈imm->vs.length<=16777216->RDs w imm vs ds->RD w imm (.ref a) (.lst ds)
 | dct {a:Addr}{o:Obj}{kvs:List (Int×Value)}{ds:List (Int×D)}:(a,o)∈imm->o.IsDictOf (Ld PR w) kvs->(a==MH)=Vu->RKs w imm kvs ds->RD w imm (.ref a) (.dct ds)
 | rng {a:Addr}{lo hi:Int}{t u v:PT}:(a,ER lo hi t u v)∈imm->RD w imm (.ref a) (.rng lo hi)
 | bi (b:Bi):RD w imm b.val (.bi b)
 | gbl (a:Addr):RD w imm (.ref a) (.gbl a)
inductive RDs (w:Lh) (imm:Imm):List Value->List D->Prop
 | nil:RDs w imm [] []
 | cons {v:Value}{vs:List Value}{d:D}{ds:List D}:RD w imm v d->RDs w imm vs ds->RDs w imm (v::vs) (d::ds)
inductive RKs (w:Lh) (imm:Imm):List (Int×Value)->List (Int×D)->Prop
 | nil:RKs w imm [] []
 | cons {k:Int}{v:Value}{d:D}{r:List (Int×Value)}{q:List (Int×D)}:RD w imm v d->RKs w imm r q->RKs w imm ((k,v)::r) ((k,d)::q)
end
section
variable {w:Lh}{imm imm':Imm}
theorem RD.mono (a:∀p∈imm,p∈imm'){v:Value}{d:D}(h:RD w imm v d):RD w imm' v d:=RD.rec (motive_1:=λv d _=>RD w imm' v d) (motive_2:=λv d _=>RDs w imm' v d) (motive_3:=λv d _=>RKs w imm' v d) .non .bool .int .str .bytes (λm z _ r=>.tup (a _ m) z r) (λm z _ r=>.lst (a _ m) z r) (λm h s _ r=>.dct (a _ m) h s r) (λm=>.rng (a _ m)) .bi .gbl .nil (λ_ _ h r=>.cons h r) .nil (λ_ _ h r=>.cons h r) h
theorem RDs.mono (a:∀p∈imm,p∈imm'){v:List Value}{d:List D}(h:RDs w imm v d):RDs w imm' v d:=RDs.rec (motive_1:=λ_ _ _=>True) (motive_2:=λv d _=>RDs w imm' v d) (motive_3:=λ_ _ _=>True) trivial (λ_=>trivial) (λ_ _=>trivial) (λ_ _ _=>trivial) (λ_ _ _=>trivial) (λ_ _ _ _=>trivial) (λ_ _ _ _=>trivial) (λ_ _ _ _ _=>trivial) (λ_=>trivial) (λ_=>trivial) (λ_=>trivial) .nil (λh _ _ r=>.cons (h.mono a) r) trivial (λ_ _ _ _=>trivial) h
theorem RKs.mono (a:∀p∈imm,p∈imm'){v:List (Int×Value)}{d:List (Int×D)}(h:RKs w imm v d):RKs w imm' v d:=RKs.rec (motive_1:=λ_ _ _=>True) (motive_3:=λv d _=>RKs w imm' v d) (motive_2:=λ_ _ _=>True) trivial (λ_=>trivial) (λ_ _=>trivial) (λ_ _ _=>trivial) (λ_ _ _=>trivial) (λ_ _ _ _=>trivial) (λ_ _ _ _=>trivial) (λ_ _ _ _ _=>trivial) (λ_=>trivial) (λ_=>trivial) (λ_=>trivial) trivial (λ_ _ _ _=>trivial) .nil (λh _ _ r=>.cons (h.mono a) r) h
noncomputable def El (w:Lh) (imm:Imm) (v:Value) (d:D):Prop:=D.casesOn d (v=.none) (λb=>v=.bool b) (λi=>∃t,v=.int i t) (λs=>∃t,v=.str s t/\s.cps.size<=16777216) (λb=>∃t,v=.bytes b t/\b.size<=16777216) (λds=>∃a us n,v=.ref a/\(a,dU us n)∈imm/\us.length<=16777216/\RDs w imm us ds) (λds=>∃a us n,v=.ref a/\(a,lstO us n)∈imm/\us.length<=16777216/\RDs w imm us ds) (λds=>∃a o kvs,v=.ref a/\(a,o)∈imm/\o.IsDictOf (Ld PR w) kvs/\(a==MH)=Vu/\RKs w imm kvs ds) (λlo c=>∃a t u x,v=.ref a/\(a,ER lo c t u x)∈imm) (λb=>v=b.val) (λa=>v=.ref a)
theorem RD.view {v:Value}{d:D}(h:RD w imm v d):El w imm v d:=RD.casesOn (motive_1:=λv d _=>El w imm v d) h rfl (λ_=>rfl) (λ_ t=>⟨t,rfl⟩) (λ_ t z=>⟨t,rfl,z⟩) (λ_ t z=>⟨t,rfl,z⟩) (λm z r=>⟨_,_,_,rfl,m,z,r⟩) (λm z r=>⟨_,_,_,rfl,m,z,r⟩) (λm h s r=>⟨_,_,_,rfl,m,h,s,r⟩) (λm=>⟨_,_,_,_,rfl,m⟩) (λ_=>rfl) (λ_=>rfl)
noncomputable def Br (w:Lh) (imm:Imm) (vs:List Value) (ds:List D):Prop:=LZ ds (vs=[]) λd ds=>∃u us,vs=u::us/\RD w imm u d/\RDs w imm us ds
theorem RDs.view {vs:List Value}{ds:List D}(h:RDs w imm vs ds):Br w imm vs ds:=RDs.casesOn (motive_2:=λv d _=>Br w imm v d) h rfl λh r=>⟨_,_,rfl,h,r⟩
theorem RDs.ind {M:List Value->List D->Prop}(h0:M [] []) (a:∀{v vs d ds},RD w imm v d->RDs w imm vs ds->M vs ds->M (v::vs) (d::ds)){vs:List Value}{ds:List D}(h:RDs w imm vs ds):M vs ds:=RDs.rec (motive_1:=λ_ _ _=>True) (motive_2:=λv d _=>M v d) (motive_3:=λ_ _ _=>True) trivial (λ_=>trivial) (λ_ _=>trivial) (λ_ _ _=>trivial) (λ_ _ _=>trivial) (λ_ _ _ _=>trivial) (λ_ _ _ _=>trivial) (λ_ _ _ _ _=>trivial) (λ_=>trivial) (λ_=>trivial) (λ_=>trivial) h0 (λh r _ m=>a h r m) trivial (λ_ _ _ _=>trivial) h
theorem RKs.ind {M:List (Int×Value)->List (Int×D)->Prop}(h0:M [] []) (a:∀{k v vs d ds},RD w imm v d->RKs w imm vs ds->M vs ds->M ((k,v)::vs) ((k,d)::ds)){vs:List (Int×Value)}{ds:List (Int×D)}(h:RKs w imm vs ds):M vs ds:=RKs.rec (motive_1:=λ_ _ _=>True) (motive_3:=λv d _=>M v d) (motive_2:=λ_ _ _=>True) trivial (λ_=>trivial) (λ_ _=>trivial) (λ_ _ _=>trivial) (λ_ _ _=>trivial) (λ_ _ _ _=>trivial) (λ_ _ _ _=>trivial) (λ_ _ _ _ _=>trivial) (λ_=>trivial) (λ_=>trivial) (λ_=>trivial) trivial (λ_ _ _ _=>trivial) h0 (λh r _ m=>a h r m) h
theorem RDs.length {vs:List Value}{ds:List D}(h:RDs w imm vs ds):vs.length=ds.length:=h.ind (M:=λvs ds=>vs.length=ds.length) rfl λ_ _ e=>congrArg Np e
theorem RDs.append {vs a:List Value}{ds es:List D}(h:RDs w imm vs ds) (k:RDs w imm a es):RDs w imm (vs++a) (ds++es):=h.ind (M:=λvs ds=>RDs w imm (vs++a) (ds++es)) k λh _ r=>.cons h r
theorem RDs.one {vs:List Value}{d:D}(h:RDs w imm vs [d]):∃u,vs=[u]/\RD w imm u d:=by obtain ⟨u,a,rfl,k,r⟩:=h.view;exact ⟨u,congrArg _ (show a=[] from r.view),k⟩
theorem RDs.get {vs:List Value}{ds:List D}(h:RDs w imm vs ds):∀{k:Nat}{d:D},ds[k]?=Vr d->∃v,vs[k]?=Vr v/\RD w imm v d:=h.ind (M:=λvs ds=>∀{k:Nat}{d:D},ds[k]?=Vr d->∃v,vs[k]?=Vr v/\RD w imm v d) (λe=>nomatch e) λ{v _ _ _} h _ a k {_} e=>match k,e with
  | 0,e=>⟨v,rfl,Kd e▸h⟩
  | k+1,e=>a (k:=k) e
theorem au {α:Type}{i:α}{P:Prop}(e:(Vs:Option α)=Vr i):P:=nomatch e
theorem hY {d:D}{i:Int}(e:d.int?=Vr i):d=.int i:=by cases d<;>first | exact au e | exact congrArg _ (Kd e)
theorem iN {d:D}{i:Bool}(e:d.bool?=Vr i):d=.bool i:=by cases d<;>first | exact au e | exact congrArg _ (Kd e)
theorem gU {d:D}{i:Str}(e:d.str?=Vr i):d=.str i:=by cases d<;>first | exact au e | exact congrArg _ (Kd e)
theorem fF {d:D}{i:Array UInt8}(e:d.bytes?=Vr i):d=.bytes i:=by cases d<;>first | exact au e | exact congrArg _ (Kd e)
theorem gS {d:D}{i:List D}(e:d.tup?=Vr i):d=.tup i:=by cases d<;>first | exact au e | exact congrArg _ (Kd e)
theorem hO {d:D}{i:List D}(e:d.lst?=Vr i):d=.lst i:=by cases d<;>first | exact au e | exact congrArg _ (Kd e)
theorem FW {d:D}{i:List (Int×D)}(e:d.dct?=Vr i):d=.dct i:=by cases d<;>first | exact au e | exact congrArg _ (Kd e)
theorem EQ {d:D}{p:Int×Int}(e:d.rng?=Vr p):d=.rng p.1 p.2:=by cases d<;>first | exact au e | exact Kd e▸rfl
theorem pq {d:D}{p:Unit}(e:d.none?=Vr p):d=.non:=by cases d<;>first | exact au e | rfl
theorem kh {d:D}{i:Bi}(e:d.bi?=Vr i):d=.bi i:=by cases d<;>first | exact au e | exact congrArg _ (Kd e)
theorem mG {d:D}{i:Addr}(e:d.gbl?=Vr i):d=.gbl i:=by cases d<;>first | exact au e | exact congrArg _ (Kd e)
theorem tL {v:V}{d:D}(e:v.d?=Vr d):v=.d d:=by cases v<;>first | exact au e | exact congrArg _ (Kd e)
theorem kE {v:V}{l:Nat}(e:v.loc?=Vr l):v=.loc l:=by cases v<;>first | exact au e | exact congrArg _ (Kd e)
theorem E6 {v:V}{l:Nat}(e:v.nxt?=Vr l):v=.nxt l:=by cases v<;>first | exact au e | exact congrArg _ (Kd e)
theorem BR {v:V}{l:Nat}(e:v.vals?=Vr l):v=.vals l:=by cases v<;>first | exact au e | exact congrArg _ (Kd e)
variable {v:Value}{d:D}{P:Value->Prop}
theorem RD.onInt {i:Int}(r:RD w imm v d) (e:d.int?=Vr i) (k:∀t,P (.int i t)):P v:=by obtain ⟨t,rfl⟩:=(hY e▸r).view;exact k t
theorem RD.onStr {i:Str}(r:RD w imm v d) (e:d.str?=Vr i) (k:∀t,i.cps.size<=16777216->P (.str i t)):P v:=by obtain ⟨t,rfl,z⟩:=(gU e▸r).view;exact k t z
theorem RD.onBytes {i:Array UInt8}(r:RD w imm v d) (e:d.bytes?=Vr i) (k:∀t,i.size<=16777216->P (.bytes i t)):P v:=by obtain ⟨t,rfl,z⟩:=(fF e▸r).view;exact k t z
theorem RD.onBool {i:Bool}(r:RD w imm v d) (e:d.bool?=Vr i) (k:P (.bool i)):P v:=(show v=.bool i from (iN e▸r).view)▸k
theorem RD.onNone {u:Unit}(r:RD w imm v d) (e:d.none?=Vr u) (k:P .none):P v:=(show v=.none from (pq e▸r).view)▸k
theorem RD.onTup {l:List D}(r:RD w imm v d) (e:d.tup?=Vr l) (k:∀{a us n},(a,dU us n)∈imm->us.length<=16777216->RDs w imm us l->P (.ref a)):P v:=by obtain ⟨_,_,_,rfl,m,z,r⟩:=(gS e▸r).view;exact k m z r
theorem RD.onLst {l:List D}(r:RD w imm v d) (e:d.lst?=Vr l) (k:∀{a us n},(a,lstO us n)∈imm->us.length<=16777216->RDs w imm us l->P (.ref a)):P v:=by obtain ⟨_,_,_,rfl,m,z,r⟩:=(hO e▸r).view;exact k m z r
theorem RD.onDct {l:List (Int×D)}(r:RD w imm v d) (e:d.dct?=Vr l) (k:∀{a o kvs},(a,o)∈imm->o.IsDictOf (Ld PR w) kvs->(a==MH)=Vu->RKs w imm kvs l->P (.ref a)):P v:=by obtain ⟨_,_,_,rfl,m,h,s,r⟩:=(FW e▸r).view;exact k m h s r
theorem RD.onRng {p:Int×Int}(r:RD w imm v d) (e:d.rng?=Vr p) (k:∀{a t u x},(a,ER p.1 p.2 t u x)∈imm->P (.ref a)):P v:=by obtain ⟨_,_,_,_,rfl,m⟩:=(EQ e▸r).view;exact k m
theorem RD.onBi {b:Bi}(r:RD w imm v d) (e:d.bi?=Vr b) (k:P b.val):P v:=(show v=b.val from (kh e▸r).view)▸k
theorem RD.onGbl {a:Addr}(r:RD w imm v d) (e:d.gbl?=Vr a) (k:P (.ref a)):P v:=(show v=.ref a from (mG e▸r).view)▸k
end
noncomputable def RV (w:Lh) (ρ:List Addr) (c:Imm) (v:Value) (u:V):Prop:=V.casesOn u (λd=>RD w c v d) (λl=>∃a,v=.ref a/\ρ[l]?=Vr a) (λl=>∃a b,v=.ref a/\(a,sZ b)∈c/\ρ[l]?=Vr b) (λl=>∃a b,v=.ref a/\(a,Iy b)∈c/\ρ[l]?=Vr b) λl d=>∃a b u n,v=.ref a/\(a,dU [.ref b,u] n)∈c/\ρ[l]?=Vr b/\RD w c u d
theorem RV.mono {w:Lh}{ρ i:List Addr}{e c:Imm}(g:∀(l:Nat) (a:Addr),ρ[l]?=Vr a->i[l]?=Vr a) (f:∀p∈e,p∈c){v:Value}{u:V}(h:RV w ρ e v u):RV w i c v u:=by
 cases u with
 | d=>exact RD.mono f h
 | loc=>exact h.imp λa h=>h.imp id (g _ _)
 | nxt=>exact h.imp λa h=>h.imp λb h=>⟨h.1,f _ h.2.1,g _ _ h.2.2⟩
 | vals=>exact h.imp λa h=>h.imp λb h=>⟨h.1,f _ h.2.1,g _ _ h.2.2⟩
 | pair=>exact h.imp λa h=>h.imp λb h=>h.imp λx h=>h.imp λn h=>⟨h.1,f _ h.2.1,g _ _ h.2.2.1,h.2.2.2.mono f⟩
inductive RK {α:Type}(R:Value->α->Prop):List (Int×Value)->List (Int×α)->Prop
 | nil:RK R [] []
 | cons {k:Int}{v:Value}{d:α}{r:List (Int×Value)}{q:List (Int×α)}:R v d->RK R r q->RK R ((k,v)::r) ((k,d)::q)
theorem RK.ind {α:Type}{R:Value->α->Prop}{M:List (Int×Value)->List (Int×α)->Prop}(h0:M [] []) (a:∀{k v d vs ds},R v d->RK R vs ds->M vs ds->M ((k,v)::vs) ((k,d)::ds)){vs:List (Int×Value)}{ds:List (Int×α)}(h:RK R vs ds):M vs ds:=RK.rec (motive:=λv d _=>M v d) h0 (λh r m=>a h r m) h
theorem RK.imp {α:Type}{R c:Value->α->Prop}(f:∀v d,R v d->c v d){a:List (Int×Value)}{b:List (Int×α)}(h:RK R a b):RK c a b:=h.ind .nil λh _ r=>.cons (f _ _ h) r
theorem RKs.rk {w:Lh}{c:Imm}{a:List (Int×Value)}{b:List (Int×D)}(h:RKs w c a b):RK (RD w c) a b:=h.ind .nil λh _ r=>.cons h r
theorem RK.rks {w:Lh}{c:Imm}{a:List (Int×Value)}{b:List (Int×D)}(h:RK (RD w c) a b):RKs w c a b:=h.ind .nil λh _ r=>.cons h r
abbrev uh (ρ:List Addr):List (Int×Value)->List (Int×Nat)->Prop:=RK λv l=>∃a,v=.ref a/\ρ[l]?=Vr a
noncomputable def Bu (w:Lh) (ρ:List Addr) (b:Imm) (es:List Om) (a:List (Str×V)):Prop:=es.any (·.refKey)=Vu/\∀m,match get m a with
  | some v=>∃val,UN m es=Vr (Vr val)/\QD val=Vt/\RV w ρ b val v
  | none=>UN m es=Vr Vs
noncomputable def xA (w:Lh) (ρ:List Addr) (a:Imm) (b:Array (Option Value)) (i:Nat) (o:Option V):Prop:=∀v,o=Vr v->∃val,(b[i]?).join=Vr val/\QD val=Vt/\RV w ρ a val v
noncomputable def me (ρ:List Addr) (c:Imm) (vs:List Value) (ls:List Nat):Prop:=vs.length=ls.length/\∀(i:Nat) (v:Value),vs[i]?=Vr v->∃l a b,ls[i]?=Vr l/\v=.ref a/\(a,sZ b)∈c/\ρ[l]?=Vr b
noncomputable def xf (c:D):Value:=D.casesOn c .none (λ_=>.none) (λ_=>.none) (λ_=>.none) (λ_=>.none) (λ_=>.none) (λ_=>.none) (λ_=>.none) (λ_ _=>.none) (λb=>b.val) λa=>.ref a
noncomputable def jE (d:Addr):Obj:=⟨.ref bJ,Vr d,.plain,#[]⟩
noncomputable def I6 (d:Addr):Obj:=⟨.ref bL,Vr d,.plain,#[]⟩
noncomputable def qB (d:Addr) (a:Array (Option Value)):Obj:=⟨.ref eu,Vr d,.plain,a⟩
noncomputable abbrev JH:Addr:=243
noncomputable abbrev tabP:Addr:=239
noncomputable abbrev readPos:Pos:=⟨192,4,195,20⟩
noncomputable abbrev readQual:Str:=Mh "_law_stream.<locals>._law_read"
noncomputable def aX:Stmt:=((gK (bN 37))[1]?).getD (.Pass ⟨0,0,0,0⟩)
inductive FnIs (imm:Imm) (f:Addr) (b:Array UInt8) (al:Addr):Prop
 | mk {c' co ca:Addr}{clos:List (Str×Addr)}{doc pm ctv:Value}{oc o1 o2:Obj}{vs:Array Value}{tq tb:PT}:b.size<=16777216->
  (f,SA (Mh "_law_read") readQual (fZ aX) (gK aX) (bO aX) clos doc pm c' ctv)∈imm->(c',oc)∈imm->oc.data=.fields vs->vs[1]?=Vr (.str readQual tq)->
  clos.lookup (Mh "octets")=Vr co->clos.lookup (Mh "at")=Vr ca->(co,o1)∈imm->o1.data=.cell (Vr (.bytes b tb))->(ca,o2)∈imm->o2.data=.cell (Vr (.ref al))->co≠ca->FnIs imm f b al
inductive TapeIs (imm:Imm) (a:Addr) (b:Array UInt8) (al:Addr):Prop
 | mk {d f:Addr}{es:List Om}{n:Nat}:(a,I6 d)∈imm->(d,NQ es n)∈imm->UN (Mh "read") es=Vr (Vr (.ref f))->FnIs imm f b al->TapeIs imm a b al
theorem FnIs.mono {c a:Imm}{f al:Addr}{b:Array UInt8}(d:∀p∈c,p∈a) (h:FnIs c f b al):FnIs a f b al:=h.rec λz k r m j l g q i e n o=>.mk z (d _ k) (d _ r) m j l g (d _ q) i (d _ e) n o
theorem TapeIs.mono {d c:Imm}{a al:Addr}{b:Array UInt8}(e:∀p∈d,p∈c) (h:TapeIs d a b al):TapeIs c a b al:=h.rec λj g f i=>.mk (e _ j) (e _ g) f (i.mono e)
noncomputable def eY (w:Lh) (ρ:List Addr) (c:Imm) (a:Addr) (o:SObj) (ft:List (Addr×Obj)):Prop:=SObj.casesOn o (a=tabP/\∃ps,ft=[(tabP,Pu ps)]/\(ps=#[]\/∃j oc vs s,ps=#[Lu readPos.line,Lu readPos.col,.ref j]/\(j,oc)∈c/\oc.data=.fields vs/\vs[1]?=Vr (.str readQual s))) (λds=>∃vs n,ft=[(a,lstO vs n)]/\vs.length<=16777216/\RDs w c vs ds) (λls=>∃vs n,ft=[(a,lstO vs n)]/\vs.length<=16777216/\me ρ c vs ls) (λds=>∃o kvs,ft=[(a,o)]/\o.IsDictOf (Ld PR w) kvs/\RKs w c kvs ds) (λls=>∃o kvs,ft=[(a,o)]/\o.IsDictOf (Ld PR w) kvs/\uh ρ kvs ls) (λls=>ft=[]/\∃o kvs,(a,o)∈c/\o.IsDictOf (Ld PR w) kvs/\(a==MH)=Vu/\uh ρ kvs ls) (λg=>∃o,ft=[(a,o)]/\o.SetObjOf (Ld PR w) (λk=>g.contains k) g.length/\g.length<=1001) (λe=>∃d es n,ft=[(a,jE d),(d,NQ es n)]/\Bu w ρ c es e/\es.length<=e.length) (λp q r=>∃d f,ft=[(a,qB d f)]/\(d,emptyDict)∈c/\f.size<=3/\xA w ρ c f 2 p/\xA w ρ c f 1 q/\xA w ρ c f 0 r) (λl i=>∃b,ft=[(a,zz b i)]/\ρ[l]?=Vr b) (λk args=>∃o vs t h n,ft=[(a,o)]/\o.cls=xf k/\o.data=.fields vs/\vs[0]?=Vr (.ref t)/\(t,dU h n)∈c/\h.length<=16777216/\RDs w c h args) (λb l=>ft=[]/\∃m,ρ[l]?=Vr m/\TapeIs c a b m) (ft=[]\/∃o,ft=[(a,o)]) (λe=>∃d es n,ft=[(a,I6 d),(d,NQ es n)]/\Bu w ρ c es e/\es.length<=e.length)
structure X where
 ρ:List Addr
 imm:Imm
 led:List (List (Addr×Obj))
 S:Shared
noncomputable abbrev X.h (x:X):Heap:=x.S.heap
noncomputable def X.la (x:X):List Addr:=x.led.flatten.map (·.1)
structure Cn where
 w:Lh
 hb:Heap
 imm0:Imm
 fs:List Env
noncomputable def mi:Heap:=⟨#[],{}⟩
noncomputable def Cn.fa (c:Cn):List Addr:=c.fs.filterMap (·.frame)
structure HI (c:Cn) (st:List SObj) (x:X):Prop where
 base:c.hb.StaysIn x.h
 immIn:∀p∈x.imm,x.h.get? p.1=Vr p.2
 ledIn:∀p∈x.led.flatten,x.h.get? p.1=Vr p.2
 nd:x.la.Nodup
 ledB:∀a∈x.la,c.hb.get? a=Vs
 dis:∀p∈x.imm,p.1∉x.la
 len:x.led.length=st.length/\x.ρ.length=st.length
 foot:∀(l:Nat) (o:SObj),st[l]?=Vr o->∃a ft,x.ρ[l]?=Vr a/\x.led[l]?=Vr ft/\eY c.w x.ρ x.imm a o ft
 frs:x.h.FunFrames mi c.fs
 fsI:∀a∈c.fa,(∀p∈x.imm,p.1≠a)/\a∉x.la/\c.hb.get? a=Vs
 imm0:∀p∈c.imm0,p∈x.imm
structure Adv (c:Cn) (own:List Addr) (x y:X):Prop where
 keep:∀b o,x.h.get? b=Vr o->b∉own->b∉x.la->y.h.get? b=Vr o\/(b∈c.fa/\∃sl,y.h.get? b=Vr {o with slots:=sl})
 alive:∀b o,x.h.get? b=Vr o->∃o',y.h.get? b=Vr o'
 imm:∀p∈x.imm,p∈y.imm
 immN:∀p∈y.imm,p∈x.imm\/x.h.get? p.1=Vs\/p.1∈x.la
 ledN:∀a∈y.la,a∈x.la\/x.h.get? a=Vs
 rho:∀(l:Nat) (a:Addr),x.ρ[l]?=Vr a->y.ρ[l]?=Vr a
 rest:∃h tk d,y.S={x.S with heap:=h,toks:=tk,drawn:=d}
noncomputable def cC:Option LM->Bool
 | some .cell=>Vt
 | some .free=>Vt
 | _=>Vu
structure EI (c:Cn) (cx:Cx) (env:Env) (own:List Addr) (fr:List (Str×V)) (x:X):Prop where
 kind:env.scope.kind=.function
 glb:env.globals=Ly
 blt:env.builtins=M8
 names:∀n,(cx.names.lookup n=Vr .local->env.kindOf n=Vr .local)/\(cC (cx.names.lookup n)=Vt->cC (env.kindOf n)=Vt)/\(cx.names.lookup n=Vr .globalImplicit->env.kindOf n=Vr .globalImplicit)/\(cx.names.lookup n=Vr .cell->env.kindOf n=Vr .cell)
 ns:∃m,x.h.Ns env.locals m/\∀n v,get n fr=Vr v->cx.names.lookup n=Vr .local->∃val,m n=Vr val/\RV c.w x.ρ x.imm val v
 cells:∀n,cC (cx.names.lookup n)=Vt->∃a o val,env.cells.lookup n=Vr a/\x.h.get? a=Vr o/\o.data=.cell val/\∀v,get n fr=Vr v->∃u,val=Vr u/\RV c.w x.ρ x.imm u v
 loc:env.locals∈own
 ownI:∀a∈own,a∉x.la/\(∀p∈x.imm,p.1≠a)/\c.hb.get? a=Vs/\∃o,x.h.get? a=Vr o
 cellI:∀n n' a,cC (cx.names.lookup n)=Vt->cC (cx.names.lookup n')=Vt->env.cells.lookup n=Vr a->env.cells.lookup n'=Vr a->n=n'
 cellO:∀n a,cx.names.lookup n=Vr .cell->env.cells.lookup n=Vr a->a∈own
 cellL:∀n a,cC (cx.names.lookup n)=Vt->env.cells.lookup n=Vr a->a∉x.la/\a≠env.locals
section
variable {c:Cn}{own own':List Addr}{x y z:X}
theorem Adv.refl (c:Cn) (own:List Addr) (x:X):Adv c own x x:=⟨λ_ _ e _ _=>.inl e,λ_ o e=>⟨o,e⟩,λ_ h=>h,λ_ h=>.inl h,λ_ h=>.inl h,λ_ _ e=>e,y3 x.S.heap x.S.toks x.S.drawn rfl⟩
theorem Adv.dead (p:Adv c own x y){a:Addr}(h:y.h.get? a=Vs):x.h.get? a=none:=by
 cases e:x.h.get? a with
 | none=>rfl
 | some o=>exact (p.alive a o e).elim λd b=>au (h.symm.trans b)
theorem Adv.off (p:Adv c own x y){b:Addr}{o:Obj}(e:x.h.get? b=Vr o) (n:b∉x.la):b∉y.la:=λm=>(p.ledN b m).elim n λm=>au (m.symm.trans e)
theorem Adv.trans (p:Adv c own x y) (q:Adv c own y z):Adv c own x z where
 keep:=λb o e i g=>(p.keep b o e i g).elim (λf=>q.keep b o f i (p.off e g)) λ⟨m,r,f⟩=>(q.keep b _ f i (p.off e g)).elim (λj=>.inr ⟨m,r,j⟩) λ⟨_,k,j⟩=>.inr ⟨m,k,j⟩
 alive:=λb o e=>(p.alive b o e).elim λv d=>q.alive b v d
 imm:=λa h=>q.imm a (p.imm a h)
 immN:=λa h=>(q.immN a h).elim (p.immN a) λh=>h.elim (λh=>.inr (.inl (p.dead h))) λh=>(p.ledN _ h).elim (λh=>.inr (.inr h)) λh=>.inr (.inl h)
 ledN:=λa h=>(q.ledN a h).elim (p.ledN a) λh=>.inr (p.dead h)
 rho:=λl a e=>q.rho l a (p.rho l a e)
 rest:=p.rest.elim λh e=>e.elim λt e=>e.elim λ_ e=>q.rest.elim λn d=>d.elim λu d=>d.elim λs d=>y3 n u s (by rw[d,e])
theorem Adv.weak (p:Adv c own x y) (hs:∀a∈own,a∈own'):Adv c own' x y:=⟨λb o e d f=>p.keep b o e (λm=>d (hs b m)) f,p.alive,p.imm,p.immN,p.ledN,p.rho,p.rest⟩
theorem RV.up {v:Value}{u:V}(r:RV c.w x.ρ x.imm v u) (p:Adv c own x y):RV c.w y.ρ y.imm v u:=r.mono p.rho p.imm
theorem RD.up {v:Value}{u:D}(r:RD c.w x.imm v u) (p:Adv c own x y):RD c.w y.imm v u:=r.mono p.imm
end
structure Z where
 c:Cn
 env:Env
 own:List Addr
 A:Lg
structure At (cx:Cx) (z:Z) (s:St) (x:X):Prop where
 H:HI z.c s.st x
 F:EI z.c cx z.env z.own s.fr x
structure Nx (cx:Cx) (z:Z) (x:X) (s:St) (y:X) (r:Prop):Prop where
 at_:At cx z s y
 adv:Adv z.c z.own x y
 r:r
structure Fresh (x₀ x:X) (b:Addr):Prop where
 la:b∉x.la
 imm:∀p∈x.imm,p.1≠b
 new:x₀.h.get? b=Vs
theorem Fresh.lift {c:Cn}{own:List Addr}{x y z:X}{b:Addr}(h:Fresh y z b) (p:Adv c own x y):Fresh x z b:=⟨h.la,h.imm,p.dead h.new⟩
structure EO (c:Cn) (x:X) (ea:Addr) (k:D) (args:List D) (oe:Obj) (vs:Array Value) (t:Addr) (ws:List Value) (n:Nat):Prop where
 get:x.h.get? ea=Vr oe
 cls:oe.cls=xf k
 data:oe.data=.fields vs
 arg:vs[0]?=Vr (.ref t)
 tup:(t,dU ws n)∈x.imm
 le:ws.length<=16777216
 rs:RDs c.w x.imm ws args
structure TB (x₀ x:X) (ea T:Addr) (oT:Obj) (ts:Array Value) (v:Option Value):Prop where
 at_:v=Vr (.ref T)
 ne:T≠ea
 get:x.h.get? T=Vr oT
 data:oT.data=.fields ts
 size:3<ts.size
 off:Fresh x₀ x T
def dX (e:Bool) (c:Cn) (x₀ x:X) (a:Addr) (k:D) (args:List D):Prop:=Fresh x₀ x a/\∃d vs t b n,EO c x a k args d vs t b n/\((e=Vu/\vs[1]?=Vr .none)\/∃T oT ts,TB x₀ x a T oT ts vs[1]?)
theorem TB.lift {c:Cn}{own:List Addr}{x y z:X}{a T:Addr}{oT:Obj}{ts:Array Value}{v:Option Value}(h:TB y z a T oT ts v) (p:Adv c own x y):TB x z a T oT ts v:=⟨h.at_,h.ne,h.get,h.data,h.size,h.off.lift p⟩
theorem dX.lift {b:Bool}{c:Cn}{own:List Addr}{x y z:X}{a:Addr}{k:D}{args:List D}(h:dX b c y z a k args) (p:Adv c own x y):dX b c x z a k args:=⟨h.1.lift p,h.2.imp λ_ h=>h.imp λ_ h=>h.imp λ_ h=>h.imp λ_ h=>h.imp λ_ h=>⟨h.1,h.2.imp id λh=>h.imp λ_ h=>h.imp λ_ h=>h.imp λ_ h=>h.lift p⟩⟩
section
variable {cx:Cx}{z:Z}{s:St}{x x₀ y:X}{α β γ δ:Type}{Q:β->Shared->Prop}{Q':δ->Shared->Prop}{E E':Value->Shared->Prop}
abbrev eZ (β:Type):=(β->Shared->Prop)->(Value->Shared->Prop)->Shared->Prop
def eL (cx:Cx) (z:Z) (RB:X->β->α->Prop) (x:X) (res:Res α) (Q:β->Shared->Prop) (E:Value->Shared->Prop):Prop:=Res.casesOn res (λa s=>∀b y,Nx cx z x s y (RB y b a)->Q b y.S) (λk as s=>∀d y,Nx cx z x s y (dX Vu z.c x y d k as)->E (.ref d) y.S) False
def aN (cx:Cx) (z:Z) (RB:X->β->α->Prop) (x:X) (res:Res α) (P:eZ β):Prop:=∀Q E,eL cx z RB x res Q E->P Q E x.S
abbrev tr (z:Z) (t:O0 β):eZ β:=λQ E s=>Kq (Kr PR z.c.w) z.A t Q E s
theorem At.go (a:At cx z s x){r:Prop}(h:r):Nx cx z x s x r:=⟨a,.refl _ _ _,h⟩
theorem Nx.trans {a:St}{r r':Prop}(m:Adv z.c z.own x y){w:X}(n:Nx cx z y a w r) (h:r->r'):Nx cx z x a w r':=⟨n.at_,m.trans n.adv,h n.r⟩
theorem eL.adv {RB:X->β->α->Prop}{res:Res α}(p:Adv z.c z.own x y) (h:eL cx z RB x res Q E):eL cx z RB y res Q E:=by
 cases res with
 | bad=>exact h
 | ok a s=>exact λb w n=>h b w (.trans p n id)
 | exn k e s=>exact λd w n=>h d w (.trans p n λq=>q.lift p)
theorem eL.bind {g:X->δ->γ->Prop}{RB:X->β->α->Prop}{res:Res γ}{f:γ->St->Res α}(p:Adv z.c z.own x₀ x) (h:eL cx z RB x₀ (res.bind f) Q E) (q:∀a (s:St) b y,Nx cx z x s y (g y b a)->eL cx z RB x₀ (f a s) Q E->Q' b y.S) (e:∀k as (s:St) d y,Nx cx z x s y (dX Vu z.c x y d k as)->(∀w,Nx cx z x s w (dX Vu z.c x w d k as)->E (.ref d) w.S)->E' (.ref d) y.S):eL cx z g x res Q' E':=by
 cases res with
 | bad=>exact h
 | ok a s=>exact λb y n=>q a s b y n h
 | exn k as s=>exact λd y n=>e k as s d y n λw m=>h d w (.trans p m λq=>q.lift p)
theorem aN.bind {RB:X->β->α->Prop}{RC:X->δ->γ->Prop}{res:Res α}{f:α->St->Res γ}{P:eZ β}{K:β->eZ δ}(r:aN cx z RB x res P) (h:∀a s b y,Nx cx z x s y (RB y b a)->aN cx z RC y (f a s) (K b)):aN cx z RC x (res.bind f) (λQ E s=>P (λb c=>K b Q E c) E s):=λQ E q=>
 r _ E (q.bind (.refl _ _ _) (λa s b y n e=>h a s b y n Q E (e.adv n.adv)) λ_ _ _ _ y n d=>d y n)
theorem aN.of {RB:X->β->α->Prop}{res:Res α}{P P':eZ β}(r:aN cx z RB x res P) (h:∀Q E,P Q E x.S->P' Q E x.S):aN cx z RB x res P':=λQ E q=>h Q E (r Q E q)
theorem aN.pure {RB:X->β->α->Prop}{a:α}{b:β}{P:eZ β}(c:At cx z s x) (r:RB x b a) (h:∀Q E,Q b x.S->P Q E x.S):aN cx z RB x (.ok a s) P:=λQ E q=>h Q E (q b x (c.go r))
theorem aN.bad {RB:X->β->α->Prop}{P:eZ β}:aN cx z RB x .bad P:=λ_ _ q=>q.elim
theorem aN.opt {RB:X->β->α->Prop}{o:Option α}{P:eZ β}(h:∀a,o=Vr a->aN cx z RB x (.ok a s) P):aN cx z RB x (cP o s) P:=by
 cases o with
 | none=>exact .bad
 | some a=>exact h a rfl
theorem aN.ite {RB:X->β->α->Prop}{p:Prop} [i:Decidable p] {res:Res α}{P:eZ β}(h:p->aN cx z RB x res P):aN cx z RB x (if p then res else .bad) P:=by
 cases i with
 | isTrue q=>exact h q
 | isFalse=>exact .bad
abbrev aZ (z:Z) (y:X) (b:Value) (v:V):Prop:=RV z.c.w y.ρ y.imm b v
abbrev Gp (z:Z) (y:X) (b:Value) (d:D):Prop:=RD z.c.w y.imm b d
abbrev HZ (_:X) (b:Bool) (d:Bool):Prop:=b=d
abbrev RU (_:X) (_:Unit) (_:Unit):Prop:=True
end
noncomputable def X.gr (x:X) (h:Heap) (tk:Nat) (ex:Imm):X:={ρ:=x.ρ,imm:=ex++x.imm,led:=x.led,S:={x.S with heap:=h,toks:=tk}}
section
variable {c:Cn}{cx:Cx}{z:Z}{own:List Addr}{st:List SObj}{s s0:St}{x x₀ y:X}{r r':Prop}{w:Lh}{ρ ρ':List Addr}{imm imm':Imm}
theorem Bu.mono (c:∀(l:Nat) (a:Addr),ρ[l]?=Vr a->ρ'[l]?=Vr a) (b:∀p∈imm,p∈imm'){es:List Om}{at_:List (Str×V)}(h:Bu w ρ imm es at_):Bu w ρ' imm' es at_:=⟨h.1,λm=>by
 have:=h.2 m
 revert this
 cases get m at_ with
 | none=>exact id
 | some v=>exact λq=>q.imp λ_ q=>w3 q.1 q.2.1 (q.2.2.mono c b)⟩
theorem xA.mono (d:∀(l:Nat) (a:Addr),ρ[l]?=Vr a->ρ'[l]?=Vr a) (c:∀p∈imm,p∈imm'){b:Array (Option Value)}{i:Nat}{o:Option V}(h:xA w ρ imm b i o):xA w ρ' imm' b i o:=λv e=>(h v e).imp λ_ q=>w3 q.1 q.2.1 (q.2.2.mono d c)
theorem uh.mono (b:∀(l:Nat) (a:Addr),ρ[l]?=Vr a->ρ'[l]?=Vr a){kvs:List (Int×Value)}{ls:List (Int×Nat)}(h:uh ρ kvs ls):uh ρ' kvs ls:=RK.imp (λ_ _ h=>h.imp λ_ h=>⟨h.1,b _ _ h.2⟩) h
theorem me.mono (c:∀(l:Nat) (a:Addr),ρ[l]?=Vr a->ρ'[l]?=Vr a) (b:∀p∈imm,p∈imm'){vs:List Value}{ls:List Nat}(h:me ρ imm vs ls):me ρ' imm' vs ls:=⟨h.1,λi v e=>(h.2 i v e).imp λ_ q=>q.imp λ_ q=>q.imp λ_ q=>w4 q.1 q.2.1 (b _ q.2.2.1) (c _ _ q.2.2.2)⟩
theorem eY.mono (c:∀(l:Nat) (a:Addr),ρ[l]?=Vr a->ρ'[l]?=Vr a) (b:∀p∈imm,p∈imm'){a:Addr}{o:SObj}{ft:List (Addr×Obj)}(h:eY w ρ imm a o ft):eY w ρ' imm' a o ft:=by
 cases o with
 | ctab=>exact ⟨h.1,h.2.imp λ_ h=>⟨h.1,h.2.imp id λh=>h.imp λ_ h=>h.imp λ_ h=>h.imp λ_ h=>h.imp λ_ h=>w3 h.1 (b _ h.2.1) h.2.2⟩⟩
 | list=>exact h.imp λ_ h=>h.imp λ_ h=>w3 h.1 h.2.1 (h.2.2.mono b)
 | nexts=>exact h.imp λ_ h=>h.imp λ_ h=>w3 h.1 h.2.1 (h.2.2.mono c b)
 | dict=>exact h.imp λ_ h=>h.imp λ_ h=>w3 h.1 h.2.1 (h.2.2.mono b)
 | objs=>exact h.imp λ_ h=>h.imp λ_ h=>w3 h.1 h.2.1 (uh.mono c h.2.2)
 | fobjs=>exact ⟨h.1,h.2.imp λ_ h=>h.imp λ_ h=>w4 (b _ h.1) h.2.1 h.2.2.1 (uh.mono c h.2.2.2)⟩
 | set=>exact h
 | inst=>exact h.imp λ_ h=>h.imp λ_ h=>h.imp λ_ h=>w3 h.1 (h.2.1.mono c b) h.2.2
 | node=>exact h.imp λ_ h=>h.imp λ_ h=>w6 h.1 (b _ h.2.1) h.2.2.1 (h.2.2.2.1.mono c b) (h.2.2.2.2.1.mono c b) (h.2.2.2.2.2.mono c b)
 | iter=>exact h.imp λ_ h=>⟨h.1,c _ _ h.2⟩
 | exc=>exact h.imp λ_ h=>h.imp λ_ h=>h.imp λ_ h=>h.imp λ_ h=>h.imp λ_ h=>w7 h.1 h.2.1 h.2.2.1 h.2.2.2.1 (b _ h.2.2.2.2.1) h.2.2.2.2.2.1 (h.2.2.2.2.2.2.mono b)
 | tape=>exact ⟨h.1,h.2.imp λ_ h=>⟨c _ _ h.1,h.2.mono b⟩⟩
 | gone=>exact h
 | einst=>exact h.imp λ_ h=>h.imp λ_ h=>h.imp λ_ h=>w3 h.1 (h.2.1.mono c b) h.2.2
theorem tj {h h':Heap}:∀{l:List Env},(∀a∈l.filterMap (·.frame),∀o,h.get? a=Vr o->∃b,h'.get? a=Vr b/\(b.data=o.data\/∀vs,b.data≠.fields vs))->h.FunFrames mi l->h'.FunFrames mi l:=@lr _ _ (@λ_ _=>trivial) (λk g p=>(@λi q=>by
  obtain ⟨m,⟨L,o,c,f,n,j⟩,s⟩:=q;obtain ⟨b,e,d⟩:=i L (by rw[K0,c];exact .head _) o n;exact w3 m (y2 L b (w4 c f e (d.elim (λd vs=>d▸j vs) id))) (p (λa r=>i a (by rw[K0,c];exact .tail _ r)) s)))
theorem HI.laIn (H:HI c st x){a:Addr}(h:a∈x.la):∃o,x.h.get? a=Vr o:=(Ku.mp h).elim λp h=>⟨p.2,h.2▸H.ledIn p h.1⟩
theorem Nx.heap (E:At cx z s0 x₀) (n:Nx cx z x₀ s y r){h':Heap}{tk:Nat}{ex:Imm}{W:Addr->Prop}(k:∀b o,y.h.get? b=Vr o->W b\/h'.get? b=Vr o\/(b∈z.c.fa/\∃A,h'.get? b=Vr {o with slots:=A})) (w:∀b,W b->Fresh x₀ y b) (e:∀p∈ex,h'.get? p.1=Vr p.2/\y.h.get? p.1=Vs) (hr:r'):Nx cx z x₀ s (y.gr h' tk ex) r':=by
 refine aC λM d=>?_;obtain ⟨⟨H,F⟩,p,-⟩:=n;refine d ?_;have hb:∀b o,z.c.hb.get? b=Vr o->¬W b:=λb o q m=>au ((w b m).new.symm.trans (E.H.base b o q));have i:∀b o,x₀.h.get? b=Vr o->¬W b:=λb o q m=>au ((w b m).new.symm.trans q);have fa:∀{b:Addr},b∈z.c.fa->∃o,x₀.h.get? b=Vr o:=λm=>(E.H.frs.mem m).2.imp λ_ h=>h.1;have I:∀{b:Addr},y.h.get? b=Vs->b∉y.la:=λq m=>(H.laIn m).elim λo e=>au (q.symm.trans e);have t:∀b o,y.h.get? b=Vr o->¬W b->b∉z.c.fa->h'.get? b=Vr o:=λb o q P O=>(k b o q).elim (absurd · P) λq=>q.elim id λq=>absurd q.1 O;have sub:∀p∈y.imm,p∈(y.gr h' tk ex).imm:=λ_ h=>Ll _ h;refine ⟨⟨⟨λb o q=>t b o (H.base b o q) (hb b o q) λm=>au ((H.fsI b m).2.2.symm.trans q),λq f=>?_,λq f=>t _ _ (H.ledIn q f) (λm=>(w _ m).la (KU f)) λm=>(H.fsI _ m).2.1 (KU f),H.nd,H.ledB,λq f=>?_,H.len,λl o q=>(H.foot l o q).imp λ_ q=>q.imp λ_ q=>w3 q.1 q.2.1 (q.2.2.mono (λ_ _ e=>e) sub),tj (λa m o q=>?_) H.frs,λa m=>⟨λq f=>?_,(H.fsI a m).2⟩,λq f=>sub q (H.imm0 q f)⟩,⟨F.kind,F.glb,F.blt,F.names,?_,λn R=>?_,F.loc,λa U=>?_,F.cellI,F.cellO,F.cellL⟩⟩,⟨λb o q P O=>?_,λb o q=>?_,λq f=>sub q (p.imm q f),λq f=>?_,p.ledN,p.rho,?_⟩,hr⟩
 ·exact (Kx.mp f).elim (λm=>(e q m).1) λm=>t _ _ (H.immIn q m) (λx=>(w _ x).imm q m rfl) λx=>(H.fsI _ x).1 q m rfl
 ·exact (Kx.mp f).elim (λm=>I (e q m).2) λm=>H.dis q m
 ·exact (k a o q).elim (λx=>(fa m).elim λo q=>absurd x (i a o q)) λq=>q.elim (λq=>⟨o,q,.inl rfl⟩) λq=>q.2.elim λA q=>⟨_,q,.inl rfl⟩
 ·refine (Kx.mp f).elim (λx G=>?_) λx=>(H.fsI a m).1 q x;refine aC λM d=>?_;obtain ⟨o,q'⟩:=(H.frs.mem m).2;refine d ?_;exact au ((e q x).2.symm.trans (G▸q'.1))
 ·refine aC λM d=>?_;obtain ⟨m,⟨o,Q,T,j,C,K⟩,b⟩:=F.ns;obtain ⟨J,N⟩:=(E.F.ownI _ E.F.loc).2.2.2;refine d ?_;refine ⟨m,(k _ o j).elim (λq=>absurd q (i _ J N)) λq=>q.elim (λq=>y3 o Q T (w3 q C K)) λq=>q.2.elim λA q=>y3 _ Q T (w3 q C K),λn v g l=>(b n v g l).imp λ_ q=>⟨q.1,q.2.mono (λ_ _ e=>e) sub⟩⟩
 ·refine aC λM d=>?_;obtain ⟨a,o,val,j,C,K,e4⟩:=F.cells n R;obtain ⟨a',J,_,f1,f2,_⟩:=E.F.cells n R;refine d ?_;obtain rfl:a=a':=Kd (j.symm.trans f1);have L:∀v,get n s.fr=Vr v->∃u,val=Vr u/\RV z.c.w y.ρ (y.gr h' tk ex).imm u v:=λv g=>(e4 v g).imp λ_ q=>⟨q.1,q.2.mono (λ_ _ e=>e) sub⟩
  exact (k _ o C).elim (λq=>absurd q (i _ J f2)) λq=>q.elim (λq=>y3 a o val (w4 j q K L)) λq=>q.2.elim λA q=>y3 a _ val (w4 j q K L)
 ·refine aC λM d=>?_;obtain ⟨h1,Y,h3,o,j⟩:=F.ownI a U;obtain ⟨_,_,_,J,N⟩:=E.F.ownI a U;refine d ?_;refine w4 h1 (λq f=>(Kx.mp f).elim (λm G=>au ((e q m).2.symm.trans (G▸j))) λm=>Y q m) h3 ((k _ o j).elim (λq=>absurd q (i _ J N)) λq=>q.elim (λq=>⟨o,q⟩) λq=>q.2.elim λA q=>⟨_,q⟩)
 ·refine (p.keep b o q P O).elim (λj=>(k _ _ j).elim (λm=>absurd m (i b o q)) id) λj=>j.2.elim λA C=>(k _ _ C).elim (λm=>absurd m (i b o q)) λq=>q.elim (λq=>.inr ⟨j.1,A,q⟩) λq=>.inr ⟨j.1,q.2⟩
 ·exact (p.alive b o q).elim λo' G=>(k _ _ G).elim (λm=>absurd m (i b o q)) λq=>q.elim (λq=>⟨_,q⟩) λq=>q.2.elim λ_ q=>⟨_,q⟩
 ·exact (Kx.mp f).elim (λm=>.inr (.inl (p.dead (e q m).2))) λm=>p.immN q m
 ·exact p.rest.elim λh0 q=>q.elim λt0 q=>q.elim λd0 q=>y3 h' tk d0 (by show {y.S with heap:=h',toks:=tk}=_;rw[q])
end
theorem aD {α:Type}{g:List α}{p:α}{led:List (List α)}{m:Nat}(e:led[m]?=Vr g) (a:p∈g):p∈led.flatten:=Me.mpr ⟨_,Ko e,a⟩
theorem gp {α:Type}{ft':List α}{p:α}{led:List (List α)}{l:Nat}(h:p∈(led.set l ft').flatten):p∈ft'\/∃m g,m≠l/\led[m]?=Vr g/\p∈g:=by
 obtain ⟨g,c,b⟩:=Me.mp h;obtain ⟨m,a⟩:=Lc.mp c;by_cases q:m=l
 ·subst q;rw[SH] at a;split at a
  ·split at a
   ·exact .inl (Kd a▸b)
   ·cases a
  ·exact absurd rfl ‹_›
 ·exact .inr (y2 m g (w3 q ((LL (LV q)).symm.trans a) b))
theorem gt {α β:Type}(f:α->β){ft ft':List α}(h:ft'.map f=ft.map f):∀{led:List (List α)}{l:Nat},led[l]?=Vr ft->(led.set l ft').flatten.map f=led.flatten.map f
 | [],_,e=>au e
 | a::r,0,e=>by
  refine rp (Kd e) ?_;simp only[List.set_cons_zero,NO,KD,h]
 | a::r,l+1,e=>by
  simp only[List.set_cons_succ,NO,KD];rw[gt f h (led:=r) (l:=l) e]
theorem bR {α:Type}:∀{led:List (List α)}{l:Nat},((led.set l []).flatten).Sublist led.flatten
 | [],_=>.slnil
 | a::r,0=>List.sublist_append_right a r.flatten
 | a::r,l+1=>T9.append (Q4 a) (bR (led:=r) (l:=l))
theorem sy {α:Type}{st:List α}{l i:Nat}{so o:α}(e:(st.set l so)[i]?=Vr o):(i=l/\o=so/\l<st.length)\/(i≠l/\st[i]?=Vr o):=by
 rw[SH] at e;split at e
 ·rename_i q;split at e
  ·exact .inl (w3 q.symm ((Kd e).symm) (‹_›))
  ·cases e
 ·exact .inr ⟨λq=>‹¬_› q.symm,e⟩
noncomputable def X.up (x:X) (l:Nat) (ft:List (Addr×Obj)) (h:Heap) (tk:Nat):X:={ρ:=x.ρ,imm:=x.imm,led:=x.led.set l ft,S:={x.S with heap:=h,toks:=tk}}
noncomputable def X.frz (x:X) (l:Nat) (p:Addr×Obj):X:={ρ:=x.ρ,imm:=p::x.imm,led:=x.led.set l [],S:=x.S}
noncomputable def X.ad (y:X) (a:Addr) (ft:List (Addr×Obj)):X:={ρ:=y.ρ++[a],imm:=y.imm,led:=y.led++[ft],S:=y.S}
section
variable {c:Cn}{cx:Cx}{z:Z}{own:List Addr}{st:List SObj}{s s0:St}{x x₀ y:X}{r r':Prop}{l:Nat}{a:Addr}{ft ft':List (Addr×Obj)}{so:SObj}
theorem HI.mem (b:x.led[l]?=Vr ft){p:Addr×Obj}(a:p∈ft):p.1∈x.la:=KU (aD b a)
theorem HI.off (H:HI c st x){m:Nat}{f g:List (Addr×Obj)}(s:x.led[l]?=Vr f) (t:x.led[m]?=Vr g) (k:m≠l){p q:Addr×Obj}(o:p∈f) (r:q∈g):q.1≠p.1:=by
 have d:=H.nd;unfold X.la at d;rw[List.map_flatten] at d;have j:=(List.pairwise_flatten.mp (List.nodup_iff_pairwise_ne.mp d)).2;rw[Q2] at j;obtain ⟨b,rfl⟩:=Kh.mp s;obtain ⟨a,rfl⟩:=Kh.mp t;have e:∀{i:Nat}(h:i<x.led.length),(x.led.map (Nd (·.1)))[i]'(by rw[Ke];exact h)=(x.led[i]).map (·.1):=λh=>OP ..;refine (Nat.lt_or_gt_of_ne k).elim (λn=>?_) λn=>LV ?_
 ·exact j m l (by rw[Ke];exact a) (by rw[Ke];exact b) n _ (by rw[e a];exact KU r) _ (by rw[e b];exact KU o)
 ·exact j l m (by rw[Ke];exact b) (by rw[Ke];exact a) n _ (by rw[e b];exact KU o) _ (by rw[e a];exact KU r)
theorem px (h:x.led.length=st.length/\x.ρ.length=st.length):(x.led.set l ft').length=(st.set l so).length/\x.ρ.length=(st.set l so).length:=by rw[KZ,KZ];exact h
theorem pz (h:x.led.length=st.length) (a:l<st.length):(x.led.set l ft')[l]?=Vr ft':=Mj (h▸a)
theorem At.up (y:At cx z s x){h':Heap}{tk:Nat}(I:x.led[l]?=Vr ft) (S:x.ρ[l]?=Vr a) (K:ft'.map (·.1)=ft.map (·.1)) (j:∀p∈ft',h'.get? p.1=Vr p.2) (k:∀b o,x.h.get? b=Vr o->b∈ft.map (·.1)\/b=z.env.locals\/h'.get? b=Vr o) (ns:∀m,x.h.Ns z.env.locals m->h'.Ns z.env.locals m) (R:eY z.c.w x.ρ x.imm a so ft') (r:r'):Nx cx z x ⟨s.fr,s.st.set l so⟩ (x.up l ft' h' tk) r':=by
 obtain ⟨H,F⟩:=y;have la:(x.up l ft' h' tk).la=x.la:=gt (λp:Addr×Obj=>p.1) K I;have sub:∀b∈ft.map (·.1),b∈x.la:=λb d=>(Ku.mp d).elim λp h=>h.2▸HI.mem I h.1;have L:=F.ownI _ F.loc;have v:∀b o,x.h.get? b=Vr o->b∉x.la->b≠z.env.locals->h'.get? b=Vr o:=λb o e n nL=>(k b o e).elim (λm=>absurd (sub b m) n) λq=>q.elim (absurd · nL) id;have u:∃o T ep,h'.get? z.env.locals=Vr o/\o.data=.dict T ep:=F.ns.elim λm h=>(ns m h.1).imp λ_ h=>h.imp λ_ h=>h.imp λ_ h=>⟨h.1,h.2.1⟩
 have M:∀b,(∃o,x.h.get? b=Vr o)->∃o,h'.get? b=Vr o:=λb h=>h.elim λo e=>(k b o e).elim (λm=>by
  rw[<- K] at m;exact (Ku.mp m).elim λp h=>⟨_,h.2▸j p h.1⟩) λq=>q.elim (λq=>q▸u.elim λo h=>h.elim λ_ h=>h.elim λ_ h=>⟨o,h.1⟩) λq=>⟨o,q⟩
 refine ⟨⟨⟨λb p e=>v b p (H.base b p e) (λm=>au ((H.ledB b m).symm.trans e)) λq=>au ((q▸L.2.2.1).symm.trans e),λq f=>v _ _ (H.immIn q f) (H.dis q f) (L.2.1 q f),λq f=>?_,la▸H.nd,la▸H.ledB,λq f=>la▸H.dis q f,px H.len,λi Y e=>?_,tj (λb m o e=>?_) H.frs,λb d=>w3 ((H.fsI b d).1) (la▸(H.fsI b d).2.1) ((H.fsI b d).2.2),H.imm0⟩,⟨F.kind,F.glb,F.blt,F.names,F.ns.imp λm h=>⟨ns m h.1,h.2⟩,λn t=>?_,F.loc,λb d=>?_,F.cellI,F.cellO,λn b t e=>la▸F.cellL n b t e⟩⟩,⟨λb o e n1 n2=>.inl (v b o e n2 λq=>n1 (q▸F.loc)),λb o e=>M b ⟨o,e⟩,λ_ h=>h,λ_ h=>.inl h,λb d=>.inl (la▸d),λ_ _ e=>e,y3 _ _ _ rfl⟩,r⟩
 ·refine (gp f).elim (j q) λ⟨m,g,hm,A,C⟩=>(k _ _ (H.ledIn q (aD A C))).elim (λmm=>?_) λe=>e.elim (λe=>absurd (HI.mem A C) (e▸L.1)) id;exact (Ku.mp mm).elim λp h=>absurd h.2.symm (H.off I A hm h.1 C)
 ·refine (sy e).elim (λ⟨J,E,e3⟩=>?_) λ⟨J,E⟩=>(H.foot i Y E).imp λ_ h=>h.imp λ_ h=>w3 h.1 ((LL (LV J)).trans h.2.1) h.2.2;subst J E;exact y2 a ft' (w3 S (pz H.len.1 e3) R)
 ·refine (k b o e).elim (λq=>absurd (sub b q) (H.fsI b m).2.1) λq=>q.elim (λq=>?_) λq=>⟨o,q,.inl rfl⟩
  refine rp q ?_;exact u.elim λo h=>h.elim λ_ h=>h.elim λ_ h=>⟨o,h.1,.inr λvs q=>by rw[h.2] at q;cases q⟩
 ·obtain ⟨b,o,w,G,O,g3⟩:=F.cells n t;exact y3 b o w (w3 G (v _ _ O (F.cellL n b t G).1 (F.cellL n b t G).2) g3)
 ·obtain ⟨Q,N,U,P⟩:=F.ownI b d;exact w4 (la▸Q) N U (M b P)
theorem At.frz (t:At cx z s x){p:Addr×Obj}(A:x.led[l]?=Vr [p]) (J:∀a,x.ρ[l]?=Vr a->eY z.c.w x.ρ (p::x.imm) a so []) (r:r'):Nx cx z x ⟨s.fr,s.st.set l so⟩ (x.frz l p) r':=by
 obtain ⟨H,F⟩:=t;have sub:∀{a:Addr},a∈(x.frz l p).la->a∈x.la:=λ{a} h=>(Ku.mp h).elim λq h=>h.2▸KU (bR.subset h.1);have mp:p.1∈x.la:=HI.mem A (.head _);have j:∀q∈x.imm,q∈p::x.imm:=λ_ h=>.tail _ h;have G:∀{v:Value}{u:V},RV z.c.w x.ρ x.imm v u->RV z.c.w x.ρ (p::x.imm) v u:=λh=>h.mono (λ_ _ e=>e) j;refine ⟨⟨⟨H.base,λq b=>?_,λq b=>H.ledIn q (bR.subset b),Re (Rd _ bR) H.nd,λa d=>H.ledB a (sub d),λq b m=>?_,px H.len,λi o e=>?_,H.frs,λa d=>w3 (λq b=>?_) (λm=>(H.fsI a d).2.1 (sub m)) ((H.fsI a d).2.2),λq b=>j q (H.imm0 q b)⟩,⟨F.kind,F.glb,F.blt,F.names,F.ns.imp λm h=>⟨h.1,λn v g l=>(h.2 n v g l).imp λ_ h=>⟨h.1,G h.2⟩⟩,λn f=>(F.cells n f).imp λ_ h=>h.imp λ_ h=>h.imp λ_ h=>w4 h.1 h.2.1 h.2.2.1 (λv g=>(h.2.2.2 v g).imp λ_ h=>⟨h.1,G h.2⟩),F.loc,λa d=>w3 (λm=>(F.ownI a d).1 (sub m)) (λq b=>?_) ((F.ownI a d).2.2),F.cellI,F.cellO,λn a f e=>⟨λm=>(F.cellL n a f e).1 (sub m),(F.cellL n a f e).2⟩⟩⟩,⟨λ_ _ e _ _=>.inl e,λ_ o e=>⟨o,e⟩,j,λq b=>?_,λa h=>.inl (sub h),λ_ _ e=>e,y3 _ _ _ rfl⟩,r⟩
 ·exact (Kw.mp b).elim (λe=>e.symm▸H.ledIn _ (aD A (.head _))) (H.immIn q)
 ·refine (Kw.mp b).elim (λe=>?_) λb=>H.dis q b (sub m);subst e;obtain ⟨v,K,e⟩:=Ku.mp m;exact (gp K).elim (λh=>nomatch h) λ⟨k,g,I,L,M⟩=>H.off A L I (.head _) M e
 ·refine (sy e).elim (λ⟨y,C,E⟩=>?_) λ⟨y,C⟩=>(H.foot i o C).imp λ_ h=>h.imp λ_ h=>w3 h.1 ((LL (LV y)).trans h.2.1) (h.2.2.mono (λ_ _ e=>e) j);subst y C;exact (H.foot i _ (Kl E)).imp λa h=>⟨[],h.elim λ_ h=>w3 h.1 (pz H.len.1 E) (J a h.1)⟩
 ·exact (Kw.mp b).elim (λe q=>(H.fsI a d).2.1 (q▸e▸mp)) λm=>(H.fsI a d).1 q m
 ·exact (Kw.mp b).elim (λe q=>(F.ownI a d).1 (q▸e▸mp)) λm=>(F.ownI a d).2.1 q m
 ·exact (Kw.mp b).elim (λe=>.inr (.inr (e▸mp))) .inl
theorem iw (ρ:List Addr) (a:Addr):∀(l:Nat) (b:Addr),ρ[l]?=Vr b->(ρ++[a])[l]?=Vr b:=λ_ _ e=>(KB (Kh.mp e).1).trans e
theorem Nx.adopt (x:At cx z s0 x₀) (n:Nx cx z x₀ s y r) (j:∀p∈ft,y.h.get? p.1=Vr p.2/\Fresh x₀ y p.1) (K:(ft.map (·.1)).Nodup) (M:eY z.c.w (y.ρ++[a]) y.imm a so ft) (N:aZ z (y.ad a ft) (.ref a) (.loc s.st.length)->r'):Nx cx z x₀ ⟨s.fr,s.st++[so]⟩ (y.ad a ft) r':=by
 obtain ⟨⟨H,F⟩,p,-⟩:=n;have la:(y.ad a ft).la=y.la++ft.map (·.1):=by unfold X.la X.ad;rw[M4,KD];simp only[NO,Qc,LG]
 have fr:∀b∈ft.map (·.1),Fresh x₀ y b/\∃o,y.h.get? b=Vr o:=λb d=>(Ku.mp d).elim λp h=>h.2▸⟨(j p h.1).2,_,(j p h.1).1⟩;have f:∀{b:Addr},(∃o,x₀.h.get? b=Vr o)->b∉y.la->b∉(y.ad a ft).la:=λ{b} q n m=>(Kx.mp (la▸m)).elim n λm=>q.elim λo e=>au ((fr b m).1.new.symm.trans e);have G:∀{v:Value}{u:V},RV z.c.w y.ρ y.imm v u->RV z.c.w (y.ρ++[a]) y.imm v u:=λh=>h.mono (iw _ _) λ_ h=>h;have E:(y.ρ++[a])[s.st.length]?=Vr a:=by rw[<- H.len.2];exact Ls
 refine ⟨⟨⟨H.base,H.immIn,λq k=>?_,?_,λb d=>?_,λq k m=>?_,?_,λi O e=>?_,H.frs,λb d=>w3 ((H.fsI b d).1) (f ((x.H.frs.mem d).2.imp λ_ h=>h.1) (H.fsI b d).2.1) ((H.fsI b d).2.2),H.imm0⟩,⟨F.kind,F.glb,F.blt,F.names,F.ns.imp λm h=>⟨h.1,λn v g l=>(h.2 n v g l).imp λ_ h=>⟨h.1,G h.2⟩⟩,λn t=>(F.cells n t).imp λ_ h=>h.imp λ_ h=>h.imp λ_ h=>w4 h.1 h.2.1 h.2.2.1 (λv g=>(h.2.2.2 v g).imp λ_ h=>⟨h.1,G h.2⟩),F.loc,λb d=>⟨f (x.F.ownI b d).2.2.2 (F.ownI b d).1,(F.ownI b d).2⟩,F.cellI,F.cellO,λn b t e=>⟨f ?_ (F.cellL n b t e).1,(F.cellL n b t e).2⟩⟩⟩,⟨p.keep,p.alive,p.imm,p.immN,λb d=>(Kx.mp (la▸d)).elim (p.ledN b) λm=>.inr (fr b m).1.new,λl b e=>iw _ _ _ _ (p.rho l b e),p.rest⟩,N ⟨a,rfl,E⟩⟩
 ·have:q∈y.led.flatten++ft:=by
   have k:q∈(y.led++[ft]).flatten:=k
   rwa [M4,NO,Qc,LG] at k
  exact (Kx.mp this).elim (H.ledIn q) λm=>(j q m).1
 ·rw[la];exact Lx.mpr (w3 H.nd K (λb d J C e=>(fr J C).1.la (e▸d)))
 ·refine (Kx.mp (la▸d)).elim (H.ledB b) λm=>?_;cases e:z.c.hb.get? b with
  | none=>rfl
  | some o=>exact au ((fr b m).1.new.symm.trans (x.H.base b o e))
 ·exact (Kx.mp (la▸m)).elim (H.dis q k) λm=>(fr _ m).1.imm q k rfl
 ·show (y.led++[ft]).length=(s.st++[so]).length/\(y.ρ++[a]).length=(s.st++[so]).length;rw[Km,Km,Km,H.len.1,H.len.2];exact ⟨rfl,rfl⟩
 ·by_cases A:i<s.st.length
  ·rw[KB A] at e;exact (H.foot i O e).imp λb h=>h.imp λg h=>w3 (iw _ _ _ _ h.1) ((KB (H.len.1▸A)).trans h.2.1) (h.2.2.mono (iw _ _) λ_ h=>h)
  ·have I:=(Kh.mp e).1;rw[Km] at I;obtain rfl:i=s.st.length:=Oo (Nat.le_of_lt_succ I) (ML A);rw[Ls] at e;refine rq (Kd e) ?_;exact y2 a ft (w3 E (H.len.1▸Ls) M)
 ·skip
  obtain ⟨Q,o,_,L,P,_⟩:=x.F.cells n t;obtain ⟨S,_,_,R,_⟩:=F.cells n t;exact ⟨o,Kd (e.symm.trans L)▸P⟩
end
theorem cV (x y:Str) (v:V):∀fr:List (Str×V),get y (aY x v fr)=if y=x then Vr v else get y fr:=@lr _ _ (by
  show (if x=y then Vr v else Vs)=if y=x then Vr v else Vs
  exact if h:x=y then (if_pos h).trans (if_pos h.symm).symm else (if_neg h).trans (if_neg (LV h)).symm)
 (λp r b=>by
  rw[DM];by_cases h:p.1=x
  ·rw[if_pos h];show (if p.1=y then Vr v else get y r)=if y=x then Vr v else if p.1=y then Vr p.2 else get y r
   rw[h];by_cases a:x=y
   ·rw[if_pos a,if_pos a.symm]
   ·rw[if_neg a,if_neg (LV a),if_neg a]
  ·rw[if_neg h];show (if p.1=y then Vr p.2 else get y (aY x v r))=if y=x then Vr v else if p.1=y then Vr p.2 else get y r
   rw[b];by_cases a:p.1=y
   ·rw[if_pos a,if_pos a,if_neg λq=>h (a.trans q)]
   ·rw[if_neg a,if_neg a])
theorem vg (x y:Str){v:V}:∀{fr:List (Str×V)},get y (Dd x fr)=Vr v->y≠x/\get y fr=Vr v:=@lr _ _ (@λe=>au e) (λp r b=>(@λe=>by
  rw[HC] at e;by_cases h:p.1=x
  ·rw[if_pos h] at e;have a:=b e;exact ⟨a.1,(if_neg λq=>a.1 (q.symm.trans h)).trans a.2⟩
  ·rw[if_neg h] at e;by_cases c:p.1=y
   ·exact ⟨λq=>h (c.trans q),(if_pos c).trans ((if_pos c).symm.trans e)⟩
   ·have a:=b ((if_neg c).symm.trans e);exact ⟨a.1,(if_neg c).trans a.2⟩))
noncomputable def hW:Option LM->Bool
 | some .local=>Vt
 | some .cell=>Vt
 | some .free=>Vt
 | _=>Vu
noncomputable def bC:Option LM->Bool
 | some .local=>Vt
 | some .cell=>Vt
 | _=>Vu
theorem E2 {k:Option LM}(h:bC k=Vt):k=Vr .local\/k=Vr .cell:=by
 cases k with
 | none=>cases h
 | some k=>cases k<;>first | exact .inl rfl | exact .inr rfl | cases h
theorem zf {k:Option LM}(h:hW k=Vt):k=Vr .local\/cC k=true:=by
 cases k with
 | none=>cases h
 | some k=>cases k<;>first | exact .inl rfl | exact .inr rfl | cases h
section
variable {cx:Cx}{z:Z}{s:St}{x:X}{r:Prop}
theorem At.ownW (i:At cx z s x){h':Heap}{tk:Nat}{L:Addr}{g:Obj}{fr':List (Str×V)}(t:L∈z.own) (k:∀b o,x.h.get? b=Vr o->b≠L->h'.get? b=Vr o) (e:h'.get? L=Vr g) (y:∀vs,g.data≠.fields vs) (ns:∃m,h'.Ns z.env.locals m/\∀n v,get n fr'=Vr v->cx.names.lookup n=Vr .local->∃val,m n=Vr val/\aZ z x val v) (c:∀n,cC (cx.names.lookup n)=Vt->∃a o val,z.env.cells.lookup n=Vr a/\h'.get? a=Vr o/\o.data=.cell val/\∀v,get n fr'=Vr v->∃u,val=Vr u/\aZ z x u v) (E:r):Nx cx z x ⟨fr',s.st⟩ (x.gr h' tk []) r:=by
 refine aC λI j=>?_;obtain ⟨H,F⟩:=i;obtain ⟨C,A,G,_⟩:=F.ownI L t;refine j ?_;have l:∀b,(∃o,x.h.get? b=Vr o)->∃o,h'.get? b=Vr o:=λb h=>if q:b=L then ⟨g,q▸e⟩ else h.imp λo w=>k b o w q
 exact ⟨⟨⟨λb p w=>k b p (H.base b p w) λq=>au ((q▸G).symm.trans w),λq d=>k _ _ (H.immIn q d) (A q d),λq d=>k _ _ (H.ledIn q d) λe=>C (e▸KU d),H.nd,H.ledB,H.dis,H.len,H.foot,tj (λb _ o w=>if q:b=L then ⟨g,q▸e,.inr y⟩ else ⟨o,k b o w q,.inl rfl⟩) H.frs,H.fsI,H.imm0⟩,⟨F.kind,F.glb,F.blt,F.names,ns,c,F.loc,λb f=>w4 ((F.ownI b f).1) ((F.ownI b f).2.1) ((F.ownI b f).2.2.1) (l b (F.ownI b f).2.2.2),F.cellI,F.cellO,F.cellL⟩⟩,⟨λb o w n _=>.inl (k b o w λq=>n (q▸t)),λb o w=>l b ⟨o,w⟩,λ_ h=>h,λ_ h=>.inl h,λ_ h=>.inl h,λ_ _ e=>e,y3 _ _ _ rfl⟩,E⟩
theorem uM {h:Heap}{a:Addr}{m:Str->Option Value}(n:h.Ns a m):∃o,h.get? a=Vr o/\∀vs,o.data≠.fields vs:=n.imp λ_ h=>h.elim λ_ h=>h.elim λ_ h=>⟨h.1,λvs q=>by rw[h.2.1] at q;cases q⟩
abbrev Gj (x y:X):Prop:=y.ρ=x.ρ/\y.imm=x.imm
theorem gY {n:Str}{v:V}{val:Value}{Q:Unit->Shared->Prop}{E:Value->Shared->Prop}(a:At cx z s x) (hn:bC (cx.names.lookup n)=Vt) (N:aZ z x val v) (h:∀y,Nx cx z x ⟨aY n v s.fr,s.st⟩ y (Gj x y)->Q () y.S):Kq (Kr PR z.c.w) z.A (Oj z.env n val) Q E x.S:=by
 have F:=a.F;refine (E2 hn).elim (λp=>?_) λp=>?_
 ·skip
  obtain ⟨m,hm,J⟩:=F.ns;refine wpAny_storeName_local ((F.names n).1 p) hm (λG T hs=>?_) (by rw[F.kind];rfl);obtain ⟨O,e,U⟩:=uM T;have k:∀b o,x.h.get? b=Vr o->b≠z.env.locals->G.get? b=Vr o:=λb o e H=>(hs.2 b H).trans e;refine h _ (a.ownW (tk:=x.S.toks+1) F.loc k e U ⟨_,T,λf i g l=>?_⟩ (λf d=>?_) ⟨rfl,rfl⟩)
  ·rw[cV] at g;by_cases q:f=n
   ·rw[if_pos q] at g;exact ⟨val,if_pos q,Kd g▸N⟩
   ·rw[if_neg q] at g;exact (J f i g l).imp λu w=>⟨(if_neg q).trans w.1,w.2⟩
  ·skip
   obtain ⟨b,o,w,j,I,K,R⟩:=F.cells f d;exact y3 b o w (w4 j (k _ _ I (F.cellL f b d j).2) K (λi g=>R i (by rw[cV,if_neg λq=>by rw[q,p] at d;cases d] at g;exact g)))
 ·have L:cC (cx.names.lookup n)=true:=by rw[p];rfl
  obtain ⟨b,o,w,j,I,K,R⟩:=F.cells n L;refine wpAny_storeName_cell F.kind ((F.names n).2.2.2 p) j ⟨o,I,K⟩ λG Y hs=>?_;have k:∀r o,x.h.get? r=Vr o->r≠b->G.get? r=Vr o:=λb o e H=>(hs.2 b H).trans e;obtain ⟨O,M,P⟩:=id Y;refine h _ (a.ownW (tk:=x.S.toks) (F.cellO n b p j) k M (λvs q=>by rw[P] at q;cases q) ?_ (λf d=>?_) ⟨rfl,rfl⟩)
  ·skip
   obtain ⟨m,⟨o,es,ep,t,C⟩,J⟩:=F.ns;exact ⟨m,y3 o es ep ⟨k _ _ t λq=>(F.cellL n b L j).2 q.symm,C⟩,λf i g l=>J f i (by rw[cV,if_neg λq=>by rw[q,p] at l;cases l] at g;exact g) l⟩
  ·by_cases q:f=n
   ·refine rp q ?_;exact y3 b O _ (w4 j M P (λi g=>⟨val,rfl,by rw[cV,if_pos rfl] at g;exact Kd g▸N⟩))
   ·skip
    obtain ⟨r,o,w,t,C,g3,g4⟩:=F.cells f d;exact y3 r o w (w4 t (k _ _ C λe=>q (F.cellI f n b d L (e▸t) j)) g3 (λi g=>g4 i (by rw[cV,if_neg q] at g;exact g)))
theorem CV {n:Str}{pos:Pos}{Q:Unit->Shared->Prop}{E:Value->Shared->Prop}(a:At cx z s x) (hn:cx.names.lookup n=Vr .local) (h:∀y,Nx cx z x ⟨Dd n s.fr,s.st⟩ y True->Q () y.S):Kq (Kr PR z.c.w) z.A (do bindName z.env n .none;unbindBehindTheSuite z.env n pos) Q E x.S:=by
 have F:=a.F;obtain ⟨m,t,I⟩:=F.ns;refine wpAny_nameGoes_keeps ((F.names n).1 hn) t (by rw[F.kind];rfl) λC v q hs=>?_;obtain ⟨L,e,r⟩:=uM q;have k:∀b o,x.h.get? b=Vr o->b≠z.env.locals->C.get? b=Vr o:=λb o e H=>(hs.2 b H).trans e;refine h _ (a.ownW (tk:=x.S.toks+1) F.loc k e r ⟨_,q,λd i g l=>?_⟩ (λd f=>?_) trivial)
 ·have p:=vg n d g;exact (I d i p.2 l).imp λu w=>⟨(if_neg p.1).trans w.1,w.2⟩
 ·skip
  obtain ⟨b,o,w,j,K,G,J⟩:=F.cells d f;exact y3 b o w (w4 j (k _ _ K (F.cellL d b f j).2) G (λi g=>J i (vg n d g).2))
end
noncomputable abbrev sn (s:String):Str:=Mh s
noncomputable def HG:Stmt->List Stmt
 | .ClassDef _ _ _ b _ _ _ _ _ _ _=>b
 | _=>[]
noncomputable def nC (i j:Nat):Stmt:=((HG (bN i))[j]?).getD (.Pass ⟨0,0,0,0⟩)
noncomputable def iT (b a:String) (d:Stmt) (dflt c:Value) (e:Addr):FuncData:={name:=sn b,qualname:=sn a,params:=fZ d,body:=.stmts (gK d),scope:=bO d,globals:=3,closure:=[],defaults:=dflt,kwdefaults:=.none,doc:=.none,pyModule:=c,annotations:=Vs,code:=.ref e,closureTuple:=.none,builtins:=0}
noncomputable def gM:Value:=.str (sn "cpy313.graphlib") 194
noncomputable def pM:Value:=.str (sn "cpy313.pickletools") 376
noncomputable def BF:List (Nat×FuncData):=[(36,iT "__init__" "_NodeInfo.__init__" (nC 4 1) .none gM 35),(73,iT "__init__" "TopologicalSorter.__init__" (nC 6 0) (.ref 66) gM 72),(80,iT "_get_nodeinfo" "TopologicalSorter._get_nodeinfo" (nC 6 1) .none gM 79),(87,iT "add" "TopologicalSorter.add" (nC 6 2) .none gM 86),(92,iT "prepare" "TopologicalSorter.prepare" (nC 6 3) .none gM 91),(99,iT "get_ready" "TopologicalSorter.get_ready" (nC 6 4) .none gM 98),(106,iT "is_active" "TopologicalSorter.is_active" (nC 6 5) .none gM 105),(120,iT "done" "TopologicalSorter.done" (nC 6 7) .none gM 119),(127,iT "_find_cycle" "TopologicalSorter._find_cycle" (nC 6 8) .none gM 126),(148,iT "read_uint1" "read_uint1" (bN 8) .none pM 147),(155,iT "read_string1" "read_string1" (bN 9) .none pM 154),(162,iT "read_bytes1" "read_bytes1" (bN 10) .none pM 161),(176,iT "__init__" "_Example.__init__" (nC 11 0) .none pM 175),(190,iT "S_IFMT" "S_IFMT" (bN 13) .none (.str (sn "cpy313.stat") 433) 189),(197,iT "S_ISDIR" "S_ISDIR" (bN 21) .none (.str (sn "cpy313.stat") 433) 196),(237,iT "filemode" "filemode" (bN 35) .none (.str (sn "cpy313.stat") 433) 236),(249,iT "_law_drawn" "_law_drawn" (bN 38) .none (.str (sn "law_oc0260_01") 525) 248),(256,iT "_law_tape" "_law_tape" (bN 39) .none (.str (sn "law_oc0260_01") 525) 255),(263,iT "_law_things" "_law_things" (bN 40) .none (.str (sn "law_oc0260_01") 525) 262),(268,iT "_law_second_tape" "_law_second_tape" (bN 41) .none (.str (sn "law_oc0260_01") 525) 267),(275,iT "_law_rows" "_law_rows" (bN 42) .none (.str (sn "law_oc0260_01") 525) 274),(282,iT "_law_row" "_law_row" (bN 43) .none (.str (sn "law_oc0260_01") 525) 281),(287,iT "_law_heights" "_law_heights" (bN 44) .none (.str (sn "law_oc0260_01") 525) 286),(292,iT "_law_looks" "_law_looks" (bN 45) .none (.str (sn "law_oc0260_01") 525) 291),(299,iT "_law_early" "_law_early" (bN 46) .none (.str (sn "law_oc0260_01") 525) 298),(306,iT "_law_sorter" "_law_sorter" (bN 47) .none (.str (sn "law_oc0260_01") 525) 305),(311,iT "_law_ring" "_law_ring" (bN 48) .none (.str (sn "law_oc0260_01") 525) 310),(316,iT "_law_kept" "_law_kept" (bN 49) .none (.str (sn "law_oc0260_01") 525) 315),(323,iT "_law_groups" "_law_groups" (bN 50) .none (.str (sn "law_oc0260_01") 525) 322),(328,iT "_law_as_due" "_law_as_due" (bN 51) .none (.str (sn "law_oc0260_01") 525) 327),(333,iT "law" "law" (bN 52) .none (.str (sn "law_oc0260_01") 525) 332)]
noncomputable def zZ (a:Nat):Option FuncData:=BF.lookup a
noncomputable def Hs:Nat->Option FuncData
 | 244=>Vr (iT "_law_stream" "_law_stream" (bN 37) .none (.str (sn "law_oc0260_01") 525) 243)
 | a=>zZ a
noncomputable def bZ (n:Int) (s:String):D:=.tup [.int n,.str (sn s)]
noncomputable def fmTable:D:=.tup [.tup [bZ 40960 "l",bZ 49152 "s",bZ 32768 "-",bZ 24576 "b",bZ 16384 "d",bZ 8192 "c",bZ 4096 "p"],.tup [bZ 256 "r"],.tup [bZ 128 "w"],.tup [bZ 2112 "s",bZ 2048 "S",bZ 64 "x"],.tup [bZ 32 "r"],.tup [bZ 16 "w"],.tup [bZ 1032 "s",bZ 1024 "S",bZ 8 "x"],.tup [bZ 4 "r"],.tup [bZ 2 "w"],.tup [bZ 513 "t",bZ 512 "T",bZ 1 "x"]]
noncomputable def bY {α:Type}(n:Str):List (Str×α)->Option α
 | []=>Vs
 | p::r=>if p.1=n then Vr p.2 else bY n r
noncomputable def ib:List (Str×D):=[(sn "len",.bi .len),(sn "range",.bi .range),(sn "sum",.bi .sum),(sn "list",.bi .list),(sn "bytes",.bi .bytes),(sn "tuple",.bi .tuple),(sn "set",.bi .set),(sn "bool",.bi .bool),(sn "sorted",.bi .sorted),(sn "ord",.bi .ord),(sn "isinstance",.bi .isinstance),(sn "enumerate",.bi .enumerate),(sn "iter",.bi .iter),(sn "ValueError",.bi .valueError),(sn "StopIteration",.bi .stopIteration),(sn "CycleError",.gbl 55),(sn "_NodeInfo",.gbl 40),(sn "TopologicalSorter",.gbl 137),(sn "_Example",.gbl 179),(sn "_NODE_OUT",.int (-1)),(sn "_NODE_DONE",.int (-2)),(sn "S_IFDIR",.int 16384),(sn "_filemode_table",fmTable),(sn "read_uint1",.gbl 148),(sn "read_string1",.gbl 155),(sn "read_bytes1",.gbl 162),(sn "S_IFMT",.gbl 190),(sn "S_ISDIR",.gbl 197),(sn "filemode",.gbl 237),(sn "_law_stream",.gbl 244),(sn "_law_drawn",.gbl 249),(sn "_law_tape",.gbl 256),(sn "_law_things",.gbl 263),(sn "_law_second_tape",.gbl 268),(sn "_law_rows",.gbl 275),(sn "_law_row",.gbl 282),(sn "_law_heights",.gbl 287),(sn "_law_looks",.gbl 292),(sn "_law_early",.gbl 299),(sn "_law_sorter",.gbl 306),(sn "_law_ring",.gbl 311),(sn "_law_kept",.gbl 316),(sn "_law_groups",.gbl 323),(sn "_law_as_due",.gbl 328)]
noncomputable def methods:List (Str×Addr):=[(sn "_get_nodeinfo",80),(sn "add",87),(sn "prepare",92),(sn "get_ready",99),(sn "is_active",106),(sn "done",120),(sn "_find_cycle",127)]
noncomputable def IV:List Str:=[sn "things",sn "perm",sn "given",sn "rows",sn "heights",sn "looks",sn "groups",sn "stack",sn "itstack",sn "number",sn "seen",sn "node2stacki"]
noncomputable def aW (a:Nat):FuncData:=(Hs a).getD (iT "" "" (.Pass ⟨0,0,0,0⟩) .none .none 0)
noncomputable def KK (P:LF):Frag:=[(1,⟨.type "dict",Vs,.dict #[⟨Ki P (sn "builtins"),.str (sn "builtins") 162,.ref 4⟩,⟨Ki P (sn "__main__"),.str (sn "__main__") 163,.ref 5⟩] 2,#[]⟩),(4,⟨.type "module",Vr 0,.plain,#[]⟩),(3,⟨.type "dict",Vs,.dict #[⟨Ki P (sn "__name__"),.str (sn "__name__") 165,.str (sn "law_oc0260_01") 525⟩,⟨Ki P (sn "__doc__"),.str (sn "__doc__") 166,.none⟩,⟨Ki P (sn "__package__"),.str (sn "__package__") 167,.none⟩,⟨Ki P (sn "__loader__"),.str (sn "__loader__") 168,.builtin "__main__.__loader__#opaque"⟩,⟨Ki P (sn "__spec__"),.str (sn "__spec__") 169,.none⟩,⟨Ki P (sn "__annotations__"),.str (sn "__annotations__") 170,.ref 6⟩,⟨Ki P (sn "__builtins__"),.str (sn "__builtins__") 171,.ref 4⟩,⟨Ki P (sn "__file__"),.str (sn "__file__") 173,.str (sn "/claim/cut.py") 172⟩,⟨Ki P (sn "__cached__"),.str (sn "__cached__") 174,.none⟩,⟨Ki P (sn "_wall"),.str (sn "_wall") 193,.ref 21⟩,⟨Ki P (sn "_NODE_OUT"),.str (sn "_NODE_OUT") 198,.int (-1) 197⟩,⟨Ki P (sn "_NODE_DONE"),.str (sn "_NODE_DONE") 201,.int (-2) 200⟩,⟨Ki P (sn "_NodeInfo"),.str (sn "_NodeInfo") 238,.ref 40⟩,⟨Ki P (sn "CycleError"),.str (sn "CycleError") 256,.ref 55⟩,⟨Ki P (sn "TopologicalSorter"),.str (sn "TopologicalSorter") 375,.ref 137⟩,⟨Ki P (sn "read_uint1"),.str (sn "read_uint1") 385,.ref 148⟩,⟨Ki P (sn "read_string1"),.str (sn "read_string1") 394,.ref 155⟩,⟨Ki P (sn "read_bytes1"),.str (sn "read_bytes1") 403,.ref 162⟩,⟨Ki P (sn "_Example"),.str (sn "_Example") 432,.ref 179⟩,⟨Ki P (sn "S_IFMT"),.str (sn "S_IFMT") 441,.ref 190⟩,⟨Ki P (sn "S_IFDIR"),.str (sn "S_IFDIR") 443,.int (16384) 442⟩,⟨Ki P (sn "S_IFCHR"),.str (sn "S_IFCHR") 445,.int (8192) 444⟩,⟨Ki P (sn "S_IFBLK"),.str (sn "S_IFBLK") 447,.int (24576) 446⟩,⟨Ki P (sn "S_IFREG"),.str (sn "S_IFREG") 449,.int (32768) 448⟩,⟨Ki P (sn "S_IFIFO"),.str (sn "S_IFIFO") 451,.int (4096) 450⟩,⟨Ki P (sn "S_IFLNK"),.str (sn "S_IFLNK") 453,.int (40960) 452⟩,⟨Ki P (sn "S_IFSOCK"),.str (sn "S_IFSOCK") 455,.int (49152) 454⟩,⟨Ki P (sn "S_ISDIR"),.str (sn "S_ISDIR") 462,.ref 197⟩,⟨Ki P (sn "S_ISUID"),.str (sn "S_ISUID") 464,.int (2048) 463⟩,⟨Ki P (sn "S_ISGID"),.str (sn "S_ISGID") 466,.int (1024) 465⟩,⟨Ki P (sn "S_ISVTX"),.str (sn "S_ISVTX") 468,.int (512) 467⟩,⟨Ki P (sn "S_IRUSR"),.str (sn "S_IRUSR") 470,.int (256) 469⟩,⟨Ki P (sn "S_IWUSR"),.str (sn "S_IWUSR") 472,.int (128) 471⟩,⟨Ki P (sn "S_IXUSR"),.str (sn "S_IXUSR") 474,.int (64) 473⟩,⟨Ki P (sn "S_IRGRP"),.str (sn "S_IRGRP") 476,.int (32) 475⟩,⟨Ki P (sn "S_IWGRP"),.str (sn "S_IWGRP") 478,.int (16) 477⟩,⟨Ki P (sn "S_IXGRP"),.str (sn "S_IXGRP") 480,.int (8) 479⟩,⟨Ki P (sn "S_IROTH"),.str (sn "S_IROTH") 482,.int (4) 481⟩,⟨Ki P (sn "S_IWOTH"),.str (sn "S_IWOTH") 484,.int (2) 483⟩,⟨Ki P (sn "S_IXOTH"),.str (sn "S_IXOTH") 486,.int (1) 485⟩,⟨Ki P (sn "_filemode_table"),.str (sn "_filemode_table") 512,.ref 230⟩,⟨Ki P (sn "filemode"),.str (sn "filemode") 524,.ref 237⟩,⟨Ki P (sn "_law_stream"),.str (sn "_law_stream") 538,.ref 244⟩,⟨Ki P (sn "_law_drawn"),.str (sn "_law_drawn") 544,.ref 249⟩,⟨Ki P (sn "_law_tape"),.str (sn "_law_tape") 556,.ref 256⟩,⟨Ki P (sn "_law_things"),.str (sn "_law_things") 569,.ref 263⟩,⟨Ki P (sn "_law_second_tape"),.str (sn "_law_second_tape") 575,.ref 268⟩,⟨Ki P (sn "_law_rows"),.str (sn "_law_rows") 587,.ref 275⟩,⟨Ki P (sn "_law_row"),.str (sn "_law_row") 599,.ref 282⟩,⟨Ki P (sn "_law_heights"),.str (sn "_law_heights") 605,.ref 287⟩,⟨Ki P (sn "_law_looks"),.str (sn "_law_looks") 611,.ref 292⟩,⟨Ki P (sn "_law_early"),.str (sn "_law_early") 619,.ref 299⟩,⟨Ki P (sn "_law_sorter"),.str (sn "_law_sorter") 629,.ref 306⟩,⟨Ki P (sn "_law_ring"),.str (sn "_law_ring") 635,.ref 311⟩,⟨Ki P (sn "_law_kept"),.str (sn "_law_kept") 641,.ref 316⟩,⟨Ki P (sn "_law_groups"),.str (sn "_law_groups") 650,.ref 323⟩,⟨Ki P (sn "_law_as_due"),.str (sn "_law_as_due") 656,.ref 328⟩,⟨Ki P (sn "law"),.str (sn "law") 662,.ref 333⟩] 58,#[]⟩),(39,⟨.type "dict",Vs,.dict #[⟨Ki P (sn "__module__"),.str (sn "__module__") 209,.str (sn "cpy313.graphlib") 194⟩,⟨Ki P (sn "__firstlineno__"),.str (sn "__firstlineno__") 213,.int (7) 212⟩,⟨Ki P (sn "__slots__"),.str (sn "__slots__") 217,.ref 29⟩,⟨Ki P (sn "__init__"),.str (sn "__init__") 225,.ref 36⟩,⟨Ki P (sn "__static_attributes__"),.str (sn "__static_attributes__") 229,.ref 37⟩,⟨Ki P (sn "node"),.str (sn "node") 231,.ref 41⟩,⟨Ki P (sn "npredecessors"),.str (sn "npredecessors") 233,.ref 42⟩,⟨Ki P (sn "successors"),.str (sn "successors") 235,.ref 43⟩,⟨Ki P (sn "__doc__"),.str (sn "__doc__") 236,.none⟩] 5,#[]⟩),(40,⟨.type "type",Vs,.cls {name:=(sn "_NodeInfo"),bases:=[.type "object"],mro:=[.ref 40,.type "object"],ns:=39,qualname:=(sn "_NodeInfo"),hasDict:=Vu,slotNames:=[(sn "node"),(sn "npredecessors"),(sn "successors")]},#[Vs,Vs,Vr (.str (sn "_NodeInfo") 202),Vr (.str (sn "_NodeInfo") 210),Vr (.builtin "object.__new__"),Vr (.bool Vu)]⟩),(41,⟨.type "member_descriptor",Vs,.fields #[.str (sn "node") 230,.ref 40,.builtin "proto.slot",.builtin "proto.slot#set",.int (2) 0],#[]⟩),(42,⟨.type "member_descriptor",Vs,.fields #[.str (sn "npredecessors") 232,.ref 40,.builtin "proto.slot",.builtin "proto.slot#set",.int (1) 0],#[]⟩),(43,⟨.type "member_descriptor",Vs,.fields #[.str (sn "successors") 234,.ref 40,.builtin "proto.slot",.builtin "proto.slot#set",.int (0) 0],#[]⟩),(46,⟨.type "tuple",Vs,.seq #[.type "ValueError"] 0,#[]⟩),(54,⟨.type "dict",Vs,.dict #[⟨Ki P (sn "__module__"),.str (sn "__module__") 246,.str (sn "cpy313.graphlib") 194⟩,⟨Ki P (sn "__firstlineno__"),.str (sn "__firstlineno__") 250,.int (14) 249⟩,⟨Ki P (sn "__static_attributes__"),.str (sn "__static_attributes__") 251,.ref 53⟩,⟨Ki P (sn "__weakref__"),.str (sn "__weakref__") 253,.ref 56⟩,⟨Ki P (sn "__doc__"),.str (sn "__doc__") 254,.none⟩] 3,#[]⟩),(55,⟨.type "type",Vs,.cls {name:=(sn "CycleError"),bases:=[.type "ValueError"],mro:=[.ref 55,.type "ValueError",.type "Exception",.type "BaseException",.type "object"],ns:=54,qualname:=(sn "CycleError"),hasDict:=Vt,slotNames:=[]},#[Vr (.ref 46),Vs,Vr (.str (sn "CycleError") 239),Vr (.str (sn "CycleError") 247),Vr (.builtin "ValueError.__new__"),Vr (.bool Vt)]⟩),(56,⟨.type "getset_descriptor",Vs,.fields #[.str (sn "__weakref__") 252,.ref 55,.builtin "ExceptionGroup.__weakref__",.none],#[]⟩),(136,⟨.type "dict",Vs,.dict #[⟨Ki P (sn "__module__"),.str (sn "__module__") 264,.str (sn "cpy313.graphlib") 194⟩,⟨Ki P (sn "__firstlineno__"),.str (sn "__firstlineno__") 268,.int (16) 267⟩,⟨Ki P (sn "__init__"),.str (sn "__init__") 278,.ref 73⟩,⟨Ki P (sn "_get_nodeinfo"),.str (sn "_get_nodeinfo") 287,.ref 80⟩,⟨Ki P (sn "add"),.str (sn "add") 299,.ref 87⟩,⟨Ki P (sn "prepare"),.str (sn "prepare") 305,.ref 92⟩,⟨Ki P (sn "get_ready"),.str (sn "get_ready") 315,.ref 99⟩,⟨Ki P (sn "is_active"),.str (sn "is_active") 322,.ref 106⟩,⟨Ki P (sn "__bool__"),.str (sn "__bool__") 329,.ref 113⟩,⟨Ki P (sn "done"),.str (sn "done") 343,.ref 120⟩,⟨Ki P (sn "_find_cycle"),.str (sn "_find_cycle") 356,.ref 127⟩,⟨Ki P (sn "static_order"),.str (sn "static_order") 363,.ref 134⟩,⟨Ki P (sn "__static_attributes__"),.str (sn "__static_attributes__") 368,.ref 135⟩,⟨Ki P (sn "__dict__"),.str (sn "__dict__") 370,.ref 138⟩,⟨Ki P (sn "__weakref__"),.str (sn "__weakref__") 372,.ref 139⟩,⟨Ki P (sn "__doc__"),.str (sn "__doc__") 373,.none⟩] 4,#[]⟩),(137,⟨.type "type",Vs,.cls {name:=(sn "TopologicalSorter"),bases:=[.type "object"],mro:=[.ref 137,.type "object"],ns:=136,qualname:=(sn "TopologicalSorter"),hasDict:=Vt,slotNames:=[]},#[Vs,Vs,Vr (.str (sn "TopologicalSorter") 257),Vr (.str (sn "TopologicalSorter") 265),Vr (.builtin "object.__new__"),Vr (.bool Vt)]⟩),(138,⟨.type "getset_descriptor",Vs,.fields #[.str (sn "__dict__") 369,.ref 137,.builtin "function.__dict__",.builtin "function.__dict__#set"],#[]⟩),(139,⟨.type "getset_descriptor",Vs,.fields #[.str (sn "__weakref__") 371,.ref 137,.builtin "ExceptionGroup.__weakref__",.none],#[]⟩),(178,⟨.type "dict",Vs,.dict #[⟨Ki P (sn "__module__"),.str (sn "__module__") 411,.str (sn "cpy313.pickletools") 376⟩,⟨Ki P (sn "__firstlineno__"),.str (sn "__firstlineno__") 415,.int (142) 414⟩,⟨Ki P (sn "__init__"),.str (sn "__init__") 423,.ref 176⟩,⟨Ki P (sn "__static_attributes__"),.str (sn "__static_attributes__") 425,.ref 177⟩,⟨Ki P (sn "__dict__"),.str (sn "__dict__") 427,.ref 180⟩,⟨Ki P (sn "__weakref__"),.str (sn "__weakref__") 429,.ref 181⟩,⟨Ki P (sn "__doc__"),.str (sn "__doc__") 430,.none⟩] 4,#[]⟩),(179,⟨.type "type",Vs,.cls {name:=(sn "_Example"),bases:=[.type "object"],mro:=[.ref 179,.type "object"],ns:=178,qualname:=(sn "_Example"),hasDict:=Vt,slotNames:=[]},#[Vs,Vs,Vr (.str (sn "_Example") 404),Vr (.str (sn "_Example") 412),Vr (.builtin "object.__new__"),Vr (.bool Vt)]⟩),(180,⟨.type "getset_descriptor",Vs,.fields #[.str (sn "__dict__") 426,.ref 179,.builtin "function.__dict__",.builtin "function.__dict__#set"],#[]⟩),(181,⟨.type "getset_descriptor",Vs,.fields #[.str (sn "__weakref__") 428,.ref 179,.builtin "ExceptionGroup.__weakref__",.none],#[]⟩),(66,⟨.type "tuple",Vs,.seq #[.none] 0,#[]⟩),(36,⟨.type "function",Vs,.func (aW 36),#[]⟩),(73,⟨.type "function",Vs,.func (aW 73),#[]⟩),(80,⟨.type "function",Vs,.func (aW 80),#[]⟩),(87,⟨.type "function",Vs,.func (aW 87),#[]⟩),(92,⟨.type "function",Vs,.func (aW 92),#[]⟩),(99,⟨.type "function",Vs,.func (aW 99),#[]⟩),(106,⟨.type "function",Vs,.func (aW 106),#[]⟩),(120,⟨.type "function",Vs,.func (aW 120),#[]⟩),(127,⟨.type "function",Vs,.func (aW 127),#[]⟩),(148,⟨.type "function",Vs,.func (aW 148),#[]⟩),(155,⟨.type "function",Vs,.func (aW 155),#[]⟩),(162,⟨.type "function",Vs,.func (aW 162),#[]⟩),(176,⟨.type "function",Vs,.func (aW 176),#[]⟩),(190,⟨.type "function",Vs,.func (aW 190),#[]⟩),(197,⟨.type "function",Vs,.func (aW 197),#[]⟩),(237,⟨.type "function",Vs,.func (aW 237),#[]⟩),(244,⟨.type "function",Vs,.func (aW 244),#[]⟩),(249,⟨.type "function",Vs,.func (aW 249),#[]⟩),(256,⟨.type "function",Vs,.func (aW 256),#[]⟩),(263,⟨.type "function",Vs,.func (aW 263),#[]⟩),(268,⟨.type "function",Vs,.func (aW 268),#[]⟩),(275,⟨.type "function",Vs,.func (aW 275),#[]⟩),(282,⟨.type "function",Vs,.func (aW 282),#[]⟩),(287,⟨.type "function",Vs,.func (aW 287),#[]⟩),(292,⟨.type "function",Vs,.func (aW 292),#[]⟩),(299,⟨.type "function",Vs,.func (aW 299),#[]⟩),(306,⟨.type "function",Vs,.func (aW 306),#[]⟩),(311,⟨.type "function",Vs,.func (aW 311),#[]⟩),(316,⟨.type "function",Vs,.func (aW 316),#[]⟩),(323,⟨.type "function",Vs,.func (aW 323),#[]⟩),(328,⟨.type "function",Vs,.func (aW 328),#[]⟩),(333,⟨.type "function",Vs,.func (aW 333),#[]⟩),(35,⟨.type "code",Vs,.fields #[.str (sn "__init__") 218,.str (sn "_NodeInfo.__init__") 219,.str (sn "/claim/cut.py") 220,.int (10) 0,.int (2) 0,.int (0) 0,.int (0) 0,.int (3) 0,.ref 30,.bool Vt,.int (181) 0,.ref 31,.none,.ref 32,.ref 33,.ref 34,.int (223) 0,.int (10) 0,.str (sn "/claim/cut.py") 224],#[]⟩),(72,⟨.type "code",Vs,.fields #[.str (sn "__init__") 269,.str (sn "TopologicalSorter.__init__") 270,.str (sn "/claim/cut.py") 271,.int (18) 0,.int (2) 0,.int (0) 0,.int (0) 0,.int (3) 0,.ref 67,.bool Vt,.int (181) 0,.ref 68,.none,.ref 69,.ref 70,.ref 71,.int (276) 0,.int (18) 0,.str (sn "/claim/cut.py") 277],#[]⟩),(79,⟨.type "code",Vs,.fields #[.str (sn "_get_nodeinfo") 279,.str (sn "TopologicalSorter._get_nodeinfo") 280,.str (sn "/claim/cut.py") 281,.int (27) 0,.int (2) 0,.int (0) 0,.int (0) 0,.int (3) 0,.ref 74,.bool Vt,.int (181) 0,.ref 75,.none,.ref 76,.ref 77,.ref 78,.int (285) 0,.int (27) 0,.str (sn "/claim/cut.py") 286],#[]⟩),(86,⟨.type "code",Vs,.fields #[.str (sn "add") 288,.str (sn "TopologicalSorter.add") 289,.str (sn "/claim/cut.py") 290,.int (32) 0,.int (2) 0,.int (0) 0,.int (0) 0,.int (7) 0,.ref 81,.bool Vt,.int (181) 0,.ref 82,.none,.ref 83,.ref 84,.ref 85,.int (297) 0,.int (32) 0,.str (sn "/claim/cut.py") 298],#[]⟩),(91,⟨.type "code",Vs,.fields #[.str (sn "prepare") 300,.str (sn "TopologicalSorter.prepare") 301,.str (sn "/claim/cut.py") 302,.int (41) 0,.int (1) 0,.int (0) 0,.int (0) 0,.int (3) 0,.ref 88,.bool Vt,.int (181) 0,.ref 89,.none,.none,.none,.ref 90,.int (303) 0,.int (41) 0,.str (sn "/claim/cut.py") 304],#[]⟩),(98,⟨.type "code",Vs,.fields #[.str (sn "get_ready") 306,.str (sn "TopologicalSorter.get_ready") 307,.str (sn "/claim/cut.py") 308,.int (49) 0,.int (1) 0,.int (0) 0,.int (0) 0,.int (3) 0,.ref 93,.bool Vt,.int (181) 0,.ref 94,.none,.ref 95,.ref 96,.ref 97,.int (313) 0,.int (49) 0,.str (sn "/claim/cut.py") 314],#[]⟩),(105,⟨.type "code",Vs,.fields #[.str (sn "is_active") 316,.str (sn "TopologicalSorter.is_active") 317,.str (sn "/claim/cut.py") 318,.int (60) 0,.int (1) 0,.int (0) 0,.int (0) 0,.int (3) 0,.ref 100,.bool Vt,.int (181) 0,.ref 101,.none,.ref 102,.ref 103,.ref 104,.int (320) 0,.int (60) 0,.str (sn "/claim/cut.py") 321],#[]⟩),(119,⟨.type "code",Vs,.fields #[.str (sn "done") 330,.str (sn "TopologicalSorter.done") 331,.str (sn "/claim/cut.py") 332,.int (68) 0,.int (1) 0,.int (0) 0,.int (0) 0,.int (7) 0,.ref 114,.bool Vt,.int (181) 0,.ref 115,.none,.ref 116,.ref 117,.ref 118,.int (341) 0,.int (68) 0,.str (sn "/claim/cut.py") 342],#[]⟩),(126,⟨.type "code",Vs,.fields #[.str (sn "_find_cycle") 344,.str (sn "TopologicalSorter._find_cycle") 345,.str (sn "/claim/cut.py") 346,.int (91) 0,.int (1) 0,.int (0) 0,.int (0) 0,.int (3) 0,.ref 121,.bool Vt,.int (181) 0,.ref 122,.none,.ref 123,.ref 124,.ref 125,.int (354) 0,.int (91) 0,.str (sn "/claim/cut.py") 355],#[]⟩),(147,⟨.type "code",Vs,.fields #[.str (sn "read_uint1") 378,.str (sn "read_uint1") 379,.str (sn "/claim/cut.py") 380,.int (123) 0,.int (1) 0,.int (0) 0,.int (0) 0,.int (3) 0,.ref 142,.bool Vt,.int (181) 0,.ref 143,.none,.ref 144,.ref 145,.ref 146,.int (383) 0,.int (123) 0,.str (sn "/claim/cut.py") 384],#[]⟩),(154,⟨.type "code",Vs,.fields #[.str (sn "read_string1") 386,.str (sn "read_string1") 387,.str (sn "/claim/cut.py") 388,.int (128) 0,.int (1) 0,.int (0) 0,.int (0) 0,.int (3) 0,.ref 149,.bool Vt,.int (181) 0,.ref 150,.none,.ref 151,.ref 152,.ref 153,.int (392) 0,.int (128) 0,.str (sn "/claim/cut.py") 393],#[]⟩),(161,⟨.type "code",Vs,.fields #[.str (sn "read_bytes1") 395,.str (sn "read_bytes1") 396,.str (sn "/claim/cut.py") 397,.int (135) 0,.int (1) 0,.int (0) 0,.int (0) 0,.int (3) 0,.ref 156,.bool Vt,.int (181) 0,.ref 157,.none,.ref 158,.ref 159,.ref 160,.int (401) 0,.int (135) 0,.str (sn "/claim/cut.py") 402],#[]⟩),(175,⟨.type "code",Vs,.fields #[.str (sn "__init__") 416,.str (sn "_Example.__init__") 417,.str (sn "/claim/cut.py") 418,.int (144) 0,.int (2) 0,.int (0) 0,.int (0) 0,.int (3) 0,.ref 170,.bool Vt,.int (181) 0,.ref 171,.none,.ref 172,.ref 173,.ref 174,.int (421) 0,.int (144) 0,.str (sn "/claim/cut.py") 422],#[]⟩),(189,⟨.type "code",Vs,.fields #[.str (sn "S_IFMT") 435,.str (sn "S_IFMT") 436,.str (sn "/claim/cut.py") 437,.int (147) 0,.int (1) 0,.int (0) 0,.int (0) 0,.int (3) 0,.ref 184,.bool Vt,.int (181) 0,.ref 185,.none,.ref 186,.ref 187,.ref 188,.int (439) 0,.int (147) 0,.str (sn "/claim/cut.py") 440],#[]⟩),(196,⟨.type "code",Vs,.fields #[.str (sn "S_ISDIR") 456,.str (sn "S_ISDIR") 457,.str (sn "/claim/cut.py") 458,.int (156) 0,.int (1) 0,.int (0) 0,.int (0) 0,.int (3) 0,.ref 191,.bool Vt,.int (181) 0,.ref 192,.none,.ref 193,.ref 194,.ref 195,.int (460) 0,.int (156) 0,.str (sn "/claim/cut.py") 461],#[]⟩),(236,⟨.type "code",Vs,.fields #[.str (sn "filemode") 513,.str (sn "filemode") 514,.str (sn "/claim/cut.py") 515,.int (171) 0,.int (1) 0,.int (0) 0,.int (0) 0,.int (3) 0,.ref 231,.bool Vt,.int (181) 0,.ref 232,.none,.ref 233,.ref 234,.ref 235,.int (522) 0,.int (171) 0,.str (sn "/claim/cut.py") 523],#[]⟩),(243,⟨.type "code",Vs,.fields #[.str (sn "_law_stream") 527,.str (sn "_law_stream") 528,.str (sn "/claim/cut.py") 529,.int (189) 0,.int (2) 0,.int (0) 0,.int (0) 0,.int (3) 0,.ref 238,.bool Vt,.int (181) 0,.ref 239,.none,.ref 240,.ref 241,.ref 242,.int (536) 0,.int (189) 0,.str (sn "/claim/cut.py") 537],#[]⟩),(248,⟨.type "code",Vs,.fields #[.str (sn "_law_drawn") 539,.str (sn "_law_drawn") 540,.str (sn "/claim/cut.py") 541,.int (198) 0,.int (1) 0,.int (0) 0,.int (0) 0,.int (3) 0,.ref 245,.bool Vt,.int (181) 0,.ref 246,.none,.none,.none,.ref 247,.int (542) 0,.int (198) 0,.str (sn "/claim/cut.py") 543],#[]⟩),(255,⟨.type "code",Vs,.fields #[.str (sn "_law_tape") 545,.str (sn "_law_tape") 546,.str (sn "/claim/cut.py") 547,.int (210) 0,.int (1) 0,.int (0) 0,.int (0) 0,.int (3) 0,.ref 250,.bool Vt,.int (181) 0,.ref 251,.none,.ref 252,.ref 253,.ref 254,.int (554) 0,.int (210) 0,.str (sn "/claim/cut.py") 555],#[]⟩),(262,⟨.type "code",Vs,.fields #[.str (sn "_law_things") 557,.str (sn "_law_things") 558,.str (sn "/claim/cut.py") 559,.int (215) 0,.int (1) 0,.int (0) 0,.int (0) 0,.int (3) 0,.ref 257,.bool Vt,.int (181) 0,.ref 258,.none,.ref 259,.ref 260,.ref 261,.int (567) 0,.int (215) 0,.str (sn "/claim/cut.py") 568],#[]⟩),(267,⟨.type "code",Vs,.fields #[.str (sn "_law_second_tape") 570,.str (sn "_law_second_tape") 571,.str (sn "/claim/cut.py") 572,.int (227) 0,.int (1) 0,.int (0) 0,.int (0) 0,.int (3) 0,.ref 264,.bool Vt,.int (181) 0,.ref 265,.none,.none,.none,.ref 266,.int (573) 0,.int (227) 0,.str (sn "/claim/cut.py") 574],#[]⟩),(274,⟨.type "code",Vs,.fields #[.str (sn "_law_rows") 576,.str (sn "_law_rows") 577,.str (sn "/claim/cut.py") 578,.int (232) 0,.int (1) 0,.int (0) 0,.int (0) 0,.int (3) 0,.ref 269,.bool Vt,.int (181) 0,.ref 270,.none,.ref 271,.ref 272,.ref 273,.int (585) 0,.int (232) 0,.str (sn "/claim/cut.py") 586],#[]⟩),(281,⟨.type "code",Vs,.fields #[.str (sn "_law_row") 588,.str (sn "_law_row") 589,.str (sn "/claim/cut.py") 590,.int (242) 0,.int (2) 0,.int (0) 0,.int (0) 0,.int (3) 0,.ref 276,.bool Vt,.int (181) 0,.ref 277,.none,.ref 278,.ref 279,.ref 280,.int (597) 0,.int (242) 0,.str (sn "/claim/cut.py") 598],#[]⟩),(286,⟨.type "code",Vs,.fields #[.str (sn "_law_heights") 600,.str (sn "_law_heights") 601,.str (sn "/claim/cut.py") 602,.int (250) 0,.int (1) 0,.int (0) 0,.int (0) 0,.int (3) 0,.ref 283,.bool Vt,.int (181) 0,.ref 284,.none,.none,.none,.ref 285,.int (603) 0,.int (250) 0,.str (sn "/claim/cut.py") 604],#[]⟩),(291,⟨.type "code",Vs,.fields #[.str (sn "_law_looks") 606,.str (sn "_law_looks") 607,.str (sn "/claim/cut.py") 608,.int (258) 0,.int (1) 0,.int (0) 0,.int (0) 0,.int (3) 0,.ref 288,.bool Vt,.int (181) 0,.ref 289,.none,.none,.none,.ref 290,.int (609) 0,.int (258) 0,.str (sn "/claim/cut.py") 610],#[]⟩),(298,⟨.type "code",Vs,.fields #[.str (sn "_law_early") 612,.str (sn "_law_early") 613,.str (sn "/claim/cut.py") 614,.int (268) 0,.int (1) 0,.int (0) 0,.int (0) 0,.int (3) 0,.ref 293,.bool Vt,.int (181) 0,.ref 294,.none,.ref 295,.ref 296,.ref 297,.int (617) 0,.int (268) 0,.str (sn "/claim/cut.py") 618],#[]⟩),(305,⟨.type "code",Vs,.fields #[.str (sn "_law_sorter") 620,.str (sn "_law_sorter") 621,.str (sn "/claim/cut.py") 622,.int (274) 0,.int (1) 0,.int (0) 0,.int (0) 0,.int (3) 0,.ref 300,.bool Vt,.int (181) 0,.ref 301,.none,.ref 302,.ref 303,.ref 304,.int (627) 0,.int (274) 0,.str (sn "/claim/cut.py") 628],#[]⟩),(310,⟨.type "code",Vs,.fields #[.str (sn "_law_ring") 630,.str (sn "_law_ring") 631,.str (sn "/claim/cut.py") 632,.int (284) 0,.int (2) 0,.int (0) 0,.int (0) 0,.int (3) 0,.ref 307,.bool Vt,.int (181) 0,.ref 308,.none,.none,.none,.ref 309,.int (633) 0,.int (284) 0,.str (sn "/claim/cut.py") 634],#[]⟩),(315,⟨.type "code",Vs,.fields #[.str (sn "_law_kept") 636,.str (sn "_law_kept") 637,.str (sn "/claim/cut.py") 638,.int (291) 0,.int (2) 0,.int (0) 0,.int (0) 0,.int (3) 0,.ref 312,.bool Vt,.int (181) 0,.ref 313,.none,.none,.none,.ref 314,.int (639) 0,.int (291) 0,.str (sn "/claim/cut.py") 640],#[]⟩),(322,⟨.type "code",Vs,.fields #[.str (sn "_law_groups") 642,.str (sn "_law_groups") 643,.str (sn "/claim/cut.py") 644,.int (310) 0,.int (1) 0,.int (0) 0,.int (0) 0,.int (3) 0,.ref 317,.bool Vt,.int (181) 0,.ref 318,.none,.ref 319,.ref 320,.ref 321,.int (648) 0,.int (310) 0,.str (sn "/claim/cut.py") 649],#[]⟩),(327,⟨.type "code",Vs,.fields #[.str (sn "_law_as_due") 651,.str (sn "_law_as_due") 652,.str (sn "/claim/cut.py") 653,.int (319) 0,.int (4) 0,.int (0) 0,.int (0) 0,.int (3) 0,.ref 324,.bool Vt,.int (181) 0,.ref 325,.none,.none,.none,.ref 326,.int (654) 0,.int (319) 0,.str (sn "/claim/cut.py") 655],#[]⟩),(332,⟨.type "code",Vs,.fields #[.str (sn "law") 657,.str (sn "law") 658,.str (sn "/claim/cut.py") 659,.int (331) 0,.int (1) 0,.int (0) 0,.int (0) 0,.int (3) 0,.ref 329,.bool Vt,.int (181) 0,.ref 330,.none,.none,.none,.ref 331,.int (660) 0,.int (331) 0,.str (sn "/claim/cut.py") 661],#[]⟩),(198,⟨.type "tuple",Vs,.seq #[.int (40960) 452,.str (sn "l") 487] 0,#[]⟩),(199,⟨.type "tuple",Vs,.seq #[.int (49152) 454,.str (sn "s") 488] 0,#[]⟩),(200,⟨.type "tuple",Vs,.seq #[.int (32768) 448,.str (sn "-") 489] 0,#[]⟩),(201,⟨.type "tuple",Vs,.seq #[.int (24576) 446,.str (sn "b") 490] 0,#[]⟩),(202,⟨.type "tuple",Vs,.seq #[.int (16384) 442,.str (sn "d") 491] 0,#[]⟩),(203,⟨.type "tuple",Vs,.seq #[.int (8192) 444,.str (sn "c") 492] 0,#[]⟩),(204,⟨.type "tuple",Vs,.seq #[.int (4096) 450,.str (sn "p") 493] 0,#[]⟩),(205,⟨.type "tuple",Vs,.seq #[.ref 198,.ref 199,.ref 200,.ref 201,.ref 202,.ref 203,.ref 204] 0,#[]⟩),(206,⟨.type "tuple",Vs,.seq #[.int (256) 469,.str (sn "r") 494] 0,#[]⟩),(207,⟨.type "tuple",Vs,.seq #[.ref 206] 0,#[]⟩),(208,⟨.type "tuple",Vs,.seq #[.int (128) 471,.str (sn "w") 495] 0,#[]⟩),(209,⟨.type "tuple",Vs,.seq #[.ref 208] 0,#[]⟩),(210,⟨.type "tuple",Vs,.seq #[.int (2112) 496,.str (sn "s") 497] 0,#[]⟩),(211,⟨.type "tuple",Vs,.seq #[.int (2048) 463,.str (sn "S") 498] 0,#[]⟩),(212,⟨.type "tuple",Vs,.seq #[.int (64) 473,.str (sn "x") 499] 0,#[]⟩),(213,⟨.type "tuple",Vs,.seq #[.ref 210,.ref 211,.ref 212] 0,#[]⟩),(214,⟨.type "tuple",Vs,.seq #[.int (32) 475,.str (sn "r") 500] 0,#[]⟩),(215,⟨.type "tuple",Vs,.seq #[.ref 214] 0,#[]⟩),(216,⟨.type "tuple",Vs,.seq #[.int (16) 477,.str (sn "w") 501] 0,#[]⟩),(217,⟨.type "tuple",Vs,.seq #[.ref 216] 0,#[]⟩),(218,⟨.type "tuple",Vs,.seq #[.int (1032) 502,.str (sn "s") 503] 0,#[]⟩),(219,⟨.type "tuple",Vs,.seq #[.int (1024) 465,.str (sn "S") 504] 0,#[]⟩),(220,⟨.type "tuple",Vs,.seq #[.int (8) 479,.str (sn "x") 505] 0,#[]⟩),(221,⟨.type "tuple",Vs,.seq #[.ref 218,.ref 219,.ref 220] 0,#[]⟩),(222,⟨.type "tuple",Vs,.seq #[.int (4) 481,.str (sn "r") 506] 0,#[]⟩),(223,⟨.type "tuple",Vs,.seq #[.ref 222] 0,#[]⟩),(224,⟨.type "tuple",Vs,.seq #[.int (2) 483,.str (sn "w") 507] 0,#[]⟩),(225,⟨.type "tuple",Vs,.seq #[.ref 224] 0,#[]⟩),(226,⟨.type "tuple",Vs,.seq #[.int (513) 508,.str (sn "t") 509] 0,#[]⟩),(227,⟨.type "tuple",Vs,.seq #[.int (512) 467,.str (sn "T") 510] 0,#[]⟩),(228,⟨.type "tuple",Vs,.seq #[.int (1) 485,.str (sn "x") 511] 0,#[]⟩),(229,⟨.type "tuple",Vs,.seq #[.ref 226,.ref 227,.ref 228] 0,#[]⟩),(230,⟨.type "tuple",Vs,.seq #[.ref 205,.ref 207,.ref 209,.ref 213,.ref 215,.ref 217,.ref 221,.ref 223,.ref 225,.ref 229] 0,#[]⟩)]
noncomputable def KA:List Addr:=[1,4,3,39,40,41,42,43,46,54,55,56,136,137,138,139,178,179,180,181,66,36,73,80,87,92,99,106,120,127,148,155,162,176,190,197,237,244,249,256,263,268,275,282,287,292,299,306,311,316,323,328,333,35,72,79,86,91,98,105,119,126,147,154,161,175,189,196,236,243,248,255,262,267,274,281,286,291,298,305,310,315,322,327,332,198,199,200,201,202,203,204,205,206,207,208,209,210,211,212,213,214,215,216,217,218,219,220,221,222,223,224,225,226,227,228,229,230]
theorem JE (P:LF):KA=(KK P).map (·.1):=rfl
structure Bs (c:Cn):Prop where
 k:(KK c.w.params).In c.hb
 gl:∀n d,bY n ib=Vr d->∃val,(∃mg,c.hb.Ns Ly mg/\(mg n=Vr val\/(mg n=Vs/\∃mb,c.hb.Ns M8 mb/\mb n=Vr val)))/\∀imm,(∀p∈c.imm0,p∈imm)->RD c.w imm val d
 lim:c.hb.NoLimit
theorem Bs.sys {c:Cn}(B:Bs c):∃o,c.hb.get? MH=Vr o:=⟨_,B.k MH _ rfl⟩
theorem Bs.kin {c:Cn}(B:Bs c){h:Heap}(k:c.hb.StaysIn h):(KK c.w.params).In h:=B.k.keeps k
structure Ok (n:Nat) (cx:Cx) (z:Z):Prop where
 B:Bs z.c
 top:cx.comp=Vu->∃L outer,z.c.fs=z.env::outer/\z.env.frame=Vr L
 frames:z.A.frames=Vr z.c.fs
 hd:cx.inH=Vu->z.A.handled=Vs
 depth:z.A.depth+n<recursionLimit
 units:z.A.units+8*n+200<cLine
abbrev Kp (h h':Heap):Prop:=∀b o,h.get? b=Vr o->h'.get? b=Vr o
theorem bF (h:Heap):h.get? h.objs.size=none:=KV (KL _)
theorem aM (h:Heap) (o:Obj):Kp h (h.push o):=λ_ _ e=>KM _ e
def Lf {β:Type}(w:Lh) (A:Lg) (x:X) (t:O0 β) (R:Imm->β->Prop):Prop:=∀(Q:β->Shared->Prop) (E:Value->Shared->Prop),(∀b h' tk ex,Kp x.h h'->(∀p∈ex,h'.get? p.1=Vr p.2/\x.h.get? p.1=Vs)->R (ex++x.imm) b->Q b {x.S with heap:=h',toks:=tk})->Kq (Kr PR w) A t Q E x.S
abbrev fT (w:Lh) (A:Lg) (x:X) (t:O0 Value) (d:D):Prop:=Lf w A x t λa b=>RD w a b d
abbrev Iq (w:Lh) (A:Lg) (x:X) (t:O0 Bool) (d:Bool):Prop:=Lf w A x t λ_ b=>b=d
section
variable {w:Lh}{A:Lg}{c:Cn}{cx:Cx}{z:Z}{s:St}{x:X}{st:List SObj}{t:O0 Value}{d:D}{β:Type}{T:O0 β}
theorem At.kp (a:At cx z s x){h':Heap}{tk:Nat}{ex:Imm}(k:Kp x.h h') (e:∀p∈ex,h'.get? p.1=Vr p.2/\x.h.get? p.1=Vs){r:Prop}(h:r):Nx cx z x s (x.gr h' tk ex) r:=Nx.heap (W:=λ_=>False) a (a.go trivial) (λb o q=>.inr (.inl (k b o q))) (λ_ f=>f.elim) e h
theorem Lf.ref {α:Type}{RB:X->β->α->Prop}{u:α}(l:Lf z.c.w z.A x T λd b=>∀y:X,y.ρ=x.ρ->y.imm=d->RB y b u) (a:At cx z s x):aN cx z RB x (.ok u s) (tr z T):=λQ E q=>
 l Q E λb g h f k e r=>q b (x.gr g h f) (a.kp k e (r _ rfl rfl))
theorem Lf.refD (l:fT z.c.w z.A x t d) (a:At cx z s x):aN cx z (aZ z) x (.ok (.d d) s) (tr z t):=λQ E q=>l Q E λb g h f k e r=>q b (x.gr g h f) (a.kp k e r)
theorem Lf.same {R:Imm->β->Prop}{b:β}(r:R x.imm b) (h:∀(Q:β->Shared->Prop) (E:Value->Shared->Prop),Q b x.S->Kq (Kr PR w) A T Q E x.S):Lf w A x T R:=λQ E q=>h Q E (q b x.h x.S.toks [] (λ_ _ e=>e) (λ_ h=>nomatch h) r)
theorem Lf.stay {R:Imm->β->Prop}(h:∀(Q:β->Shared->Prop) (E:Value->Shared->Prop),(∀b h' tk,Kp x.h h'->R x.imm b->Q b {x.S with heap:=h',toks:=tk})->Kq (Kr PR w) A T Q E x.S):Lf w A x T R:=λQ E q=>h Q E λb h' tk k r=>q b h' tk [] k (λ_ h=>nomatch h) r
theorem Lf.tok {R:Imm->β->Prop}{b:β}{tk:Nat}(r:R x.imm b) (h:∀(Q:β->Shared->Prop) (E:Value->Shared->Prop),Q b {x.S with toks:=tk}->Kq (Kr PR w) A T Q E x.S):Lf w A x T R:=.stay λQ E q=>h Q E (q b x.h tk (λ_ _ e=>e) r)
theorem Lf.int {i:Int}(h:∀(Q:Value->Shared->Prop) (E:Value->Shared->Prop),Q (.int i x.S.toks) {x.S with toks:=x.S.toks+1}->Kq (Kr PR w) A t Q E x.S):fT w A x t (.int i):=.tok (.int _ _) h
theorem Lf.push {R:Imm->Value->Prop}{o:Obj}{tk:Nat}(b:o.isFreed=Vu) (r:R ((x.h.objs.size,o)::x.imm) (.ref x.h.objs.size)) (h:∀(Q:Value->Shared->Prop) (E:Value->Shared->Prop),Q (.ref x.h.objs.size) {x.S with heap:=x.h.push o,toks:=tk}->Kq (Kr PR w) A t Q E x.S):Lf w A x t R:=λQ E q=>h Q E (q _ _ tk [(x.h.objs.size,o)] (aM _ _) (λp a=>by rw[Kk.mp a];exact ⟨Kt _ b,bF _⟩) r)
theorem Lf.grown {R:Imm->Value->Prop}(h:∀(Q:Value->Shared->Prop) (E:Value->Shared->Prop),(∀h' tk a o,Kp x.h h'->x.h.get? a=Vs->h'.get? a=Vr o->R ((a,o)::x.imm) (.ref a)->Q (.ref a) {x.S with heap:=h',toks:=tk})->Kq (Kr PR w) A t Q E x.S):Lf w A x t R:=λQ E q=>h Q E λh' tk a o k c d r=>q _ h' tk [(a,o)] k (λp b=>by rw[Kk.mp b];exact ⟨d,c⟩) r
theorem Lf.of {R:Imm->β->Prop}{a:Type}{d:O0 a}{R':Imm->a->Prop}{c:Lg}(l:Lf w A x T R) (h:∀(Q:a->Shared->Prop) (E:Value->Shared->Prop),(∀b h' tk ex,Kp x.h h'->(∀p∈ex,h'.get? p.1=Vr p.2/\x.h.get? p.1=Vs)->R' (ex++x.imm) b->Q b {x.S with heap:=h',toks:=tk})->Kq (Kr PR w) A T (λb f=>∃h' tk ex,f={x.S with heap:=h',toks:=tk}/\Kp x.h h'/\(∀p∈ex,h'.get? p.1=Vr p.2/\x.h.get? p.1=Vs)/\R (ex++x.imm) b) E x.S->Kq (Kr PR w) c d Q E x.S):Lf w c x d R':=λQ E q=>h Q E q (l _ E λb h' tk ex k e r=>y3 h' tk ex (w4 rfl k e r))
theorem eO {o:SObj}{d:List D}(e:o.list?=Vr d):o=.list d:=by cases o<;>first | exact au e | exact congrArg _ (Kd e)
theorem mj {o:SObj}{d:List Nat}(e:o.nexts?=Vr d):o=.nexts d:=by cases o<;>first | exact au e | exact congrArg _ (Kd e)
theorem iL {o:SObj}{d:List (Int×D)}(e:o.dict?=Vr d):o=.dict d:=by cases o<;>first | exact au e | exact congrArg _ (Kd e)
theorem ly {o:SObj}{d:List (Int×Nat)}(e:o.objs?=Vr d):o=.objs d:=by cases o<;>first | exact au e | exact congrArg _ (Kd e)
theorem mI {o:SObj}{d:List (Int×Nat)}(e:o.fobjs?=Vr d):o=.fobjs d:=by cases o<;>first | exact au e | exact congrArg _ (Kd e)
theorem ym {o:SObj}{d:List Int}(e:o.set?=Vr d):o=.set d:=by cases o<;>first | exact au e | exact congrArg _ (Kd e)
theorem pE {o:SObj}{d:List (Str×V)}(e:o.inst?=Vr d):o=.inst d:=by cases o<;>first | exact au e | exact congrArg _ (Kd e)
theorem uN {o:SObj}{p:Option V×Option V×Option V}(e:o.node?=Vr p):o=.node p.1 p.2.1 p.2.2:=by cases o<;>first | exact au e | exact Kd e▸rfl
theorem BU {o:SObj}{p:Array UInt8×Nat}(e:o.tape?=Vr p):o=.tape p.1 p.2:=by cases o<;>first | exact au e | exact Kd e▸rfl
theorem rt {o:SObj}{d:List (Str×V)}(e:o.einst?=Vr d):o=.einst d:=by cases o<;>first | exact au e | exact congrArg _ (Kd e)
theorem uY {o:SObj}{p:Nat×Nat}(e:o.iter?=Vr p):o=.iter p.1 p.2:=by cases o<;>first | exact au e | exact Kd e▸rfl
theorem Ad {o:SObj}{p:D×List D}(e:o.exc?=Vr p):o=.exc p.1 p.2:=by cases o<;>first | exact au e | exact Kd e▸rfl
variable {v:Value}{u:V}{P:Value->Prop}
structure Thing (c:Cn) (st:List SObj) (x:X) (l:Nat) (a:Addr) (ft:List (Addr×Obj)) (o:SObj):Prop where
 st:st[l]?=Vr o
 rho:x.ρ[l]?=Vr a
 led:x.led[l]?=Vr ft
 foot:eY c.w x.ρ x.imm a o ft
theorem HI.on {α:Type}{f:SObj->Option α}{d:α}(H:HI c st x) (r:RV c.w x.ρ x.imm v u) (e:(u.loc?.bind λl=>(st[l]?).bind f)=Vr d) (k:∀{l a ft o},u=.loc l->Thing c st x l a ft o->f o=Vr d->P (.ref a)):P v:=aA e λl g m=>aA m λo b j=>by
  obtain rfl:=kE g;obtain ⟨a,rfl,h1⟩:=r;obtain ⟨p,ft,h,n,i⟩:=H.foot l o b;obtain rfl:=Kd (h1.symm.trans h);exact k rfl ⟨b,h1,n,i⟩ j
theorem HI.onL {α:Type}{f:Nat->SObj->Option α}{d:α}(H:HI c st x) (r:RV c.w x.ρ x.imm v u) (e:(u.loc?.bind λl=>(st[l]?).bind (f l))=Vr d) (k:∀{l a ft o},u=.loc l->Thing c st x l a ft o->f l o=Vr d->P (.ref a)):P v:=aA e λl b i=>H.on (f:=f l) r (by rw[b];exact i) λ{l' _ _ _} h t g=>by
  obtain rfl:l=l':=by rw[h] at b;exact (Kd b).symm
  exact k h t g
theorem RV.onD (r:RV c.w x.ρ x.imm v u) (e:u.d?=Vr d):RD c.w x.imm v d:=by cases tL e;exact r
theorem Thing.list {l:Nat}{a:Addr}{ft:List (Addr×Obj)}{ds:List D}(t:Thing c st x l a ft (.list ds)) (H:HI c st x):∃us n,ft=[(a,lstO us n)]/\x.h.get? a=Vr (lstO us n)/\us.length<=16777216/\RDs c.w x.imm us ds:=by
 obtain ⟨us,n,rfl,z,r⟩:=t.foot;exact y2 us n (w4 rfl (H.ledIn _ (aD t.led (.head _))) z r)
theorem HI.ls {ds:List D}(H:HI c st x) (r:RV c.w x.ρ x.imm v u) (e:u.ls? st=Vr ds) (k:∀{a us n},x.h.get? a=Vr (lstO us n)->us.length<=16777216->RDs c.w x.imm us ds->P (.ref a)):P v:=cL e (λe=>aA e λd f b=>(r.onD f).onLst b λm z r=>k (H.immIn _ m) z r) λe=>H.on r e λ_ t e=>by
  obtain rfl:=eO e;obtain ⟨us,n,_,h,z,r⟩:=t.list H;exact k h z r
theorem HI.kvs {ds:List (Int×D)}(H:HI c st x) (B:Bs c) (r:RV c.w x.ρ x.imm v u) (e:u.kvs? st=Vr ds) (k:∀{a o kvs},x.h.get? a=Vr o->o.IsDictOf (Ld PR c.w) kvs->(a==MH)=Vu->RKs c.w x.imm kvs ds->P (.ref a)):P v:=cL e (λe=>aA e λd g b=>(r.onD g).onDct b λm h s r=>k (H.immIn _ m) h s r) λe=>H.on r e λ_ t e=>by
  obtain rfl:=iL e;obtain ⟨o,kvs,rfl,h,r⟩:=t.foot;refine k (H.ledIn _ (aD t.led (.head _))) h ?_ r;obtain ⟨i,f⟩:=B.sys;exact beq_eq_false_iff_ne.mpr λq=>au ((H.ledB _ (HI.mem t.led (.head _))).symm.trans (q▸f))
theorem aJ {h:Heap}{a:Addr}{vs:List Value}{n:Nat}(e:h.get? a=Vr (lstO vs n)):h.IsList a vs.toArray:=⟨_,w3 e rfl ⟨n,rfl⟩⟩
theorem my {h:Heap}{a:Addr}{vs:List Value}{n:Nat}(e:h.get? a=Vr (dU vs n)):IsTup h a vs.toArray:=⟨_,w3 e rfl ⟨n,rfl⟩⟩
theorem dn {h:Heap}{a:Addr}{vs:List Value}{n:Nat}(e:h.get? a=Vr (dU vs n)):h.IsTuple a vs.toArray:=⟨_,w3 e rfl ⟨n,rfl⟩⟩
end
end
section
section
set_option maxHeartbeats 0
noncomputable def qv:Program:={PR with main:={PR.main with body:=PR.main.body.drop 52}}
noncomputable def Ii:List Str:=PR.boundNames.filter λn=>n != Mh "law"
noncomputable def Gk (P:LF):Frag:=(6,⟨.type "dict",Vs,.dict #[] 0,#[]⟩)::(239,Pu #[])::KK P
noncomputable def J3:List Addr:=6::239::KA
noncomputable def HH:Hook:=kHook Gk J3 (λ_=>rfl)
theorem Cj {β:Type}{x:Option Shared}{T:Shared->Option Shared}{f:Shared->β}{v:Option β}{H:Heap}{G:Array Ta}{D:Rz}{K:Nat}(e:x.map (λs=>(s.heap,s.gens,s.drawn,s.toks))=Vr (H,G,D,K)) (h:∀a,(T ⟨H,G,D,K,a⟩).map f=v):(x.bind T).map f=v:=by
 cases x with
 | none=>exact au e
 | some s=>exact (congrArg (λp:Heap×Array Ta×Rz×Nat=>(T ⟨p.1,p.2.1,p.2.2.1,p.2.2.2,s.os⟩).map f) (Kd e)).trans (h s.os)
noncomputable def topQ (c:String->Option Mf) (p:Program) (w:Lh) (N:Nat) (a:Shared):Option Shared:=cond (a.heap.isNs Ly&&a.gens.size==0) ((PySem.W.Fast.tw14082659384304107361 c p w a.heap.objs.size (a.heap.nsMap Ly (Mh "__annotations__")) N a (topStub p)).bind λb=>
   cond (staticsOk (Ut p.main.body) a.heap b.heap&&namesBound p b.heap&&gensDone b&&laidKept a.heap b.heap) (Vr b) Vs) Vs
theorem BT:@topFrom=@topQ:=by
 unfold topQ;rw[<- PySem.W.Fast.te14082659384304107361];rfl
theorem G7:∀w a,(topFrom treeTable PR w 4684 ⟨boot_heap w.params,#[],boot_drawn,boot_toks,a⟩).map (λs=>(openSeen qv Ii (Ut PR.main.body) (λs=>xlAt qv [] s&&recOk [] s) Vt s,Tk HH s))=Vr (openGood qv Ii,Tj HH w):=by
 rw[BT,PySem.W.Fast.te14364793385576792824,PySem.W.Fast.te4187177175401517315];exact λw a=>by kernel_rfl
theorem G6:LeftO PR qv Ii (λs=>xlAt qv [] s&&recOk [] s) (Tk HH) (Tj HH) 4684:=λw=>Cj (boot_open (by kernel_rfl) rfl (λs=>by kernel_rfl) w) (G7 w)
end
end
section
local macro_rules (kind:=tacticKernel_rfl)|s=>Mine.Internal.mK s
section
variable {w:Lh}{A:Lg}{c:Cn}{x:X}{st:List SObj}{a b:Value}{d e o:D}{imm:Imm}
theorem et {t:O0 Value}(h:Vr d=Vr o) (k:fT w A x t d):fT w A x t o:=Kd h▸k
theorem FQ {t:O0 Value}(h:d=o) (k:fT w A x t d):fT w A x t o:=h▸k
theorem Hv {t:O0 Bool}{d o:Bool}(h:d=o) (k:Iq w A x t d):Iq w A x t o:=h▸k
theorem RD.intL {β:Type}{v:Value}{R:Imm->β->Prop}{T:Value->O0 β}{i:Int}(r:RD w imm v d) (e:d.int?=Vr i) (k:∀t,Lf w A x (T (.int i t)) R):Lf w A x (T v) R:=RD.onInt (P:=λv=>Lf w A x (T v) R) r e k
theorem RD.strL {β:Type}{v:Value}{R:Imm->β->Prop}{T:Value->O0 β}{i:Str}(r:RD w imm v d) (e:d.str?=Vr i) (k:∀t,i.cps.size<=16777216->Lf w A x (T (.str i t)) R):Lf w A x (T v) R:=RD.onStr (P:=λv=>Lf w A x (T v) R) r e k
theorem RD.bytesL {β:Type}{v:Value}{R:Imm->β->Prop}{T:Value->O0 β}{i:Array UInt8}(r:RD w imm v d) (e:d.bytes?=Vr i) (k:∀t,i.size<=16777216->Lf w A x (T (.bytes i t)) R):Lf w A x (T v) R:=RD.onBytes (P:=λv=>Lf w A x (T v) R) r e k
theorem RD.boolL {β:Type}{v:Value}{R:Imm->β->Prop}{T:Value->O0 β}{i:Bool}(r:RD w imm v d) (e:d.bool?=Vr i) (k:Lf w A x (T (.bool i)) R):Lf w A x (T v) R:=RD.onBool (P:=λv=>Lf w A x (T v) R) r e k
theorem RD.noneL {β:Type}{v:Value}{R:Imm->β->Prop}{T:Value->O0 β}{i:Unit}(r:RD w imm v d) (e:d.none?=Vr i) (k:Lf w A x (T .none) R):Lf w A x (T v) R:=RD.onNone (P:=λv=>Lf w A x (T v) R) r e k
theorem RD.tupL {β:Type}{v:Value}{R:Imm->β->Prop}{T:Value->O0 β}{l:List D}(r:RD w imm v d) (e:d.tup?=Vr l) (k:∀{a us n},(a,dU us n)∈imm->us.length<=16777216->RDs w imm us l->Lf w A x (T (.ref a)) R):Lf w A x (T v) R:=RD.onTup (P:=λv=>Lf w A x (T v) R) r e k
theorem RD.lstL {β:Type}{v:Value}{R:Imm->β->Prop}{T:Value->O0 β}{l:List D}(r:RD w imm v d) (e:d.lst?=Vr l) (k:∀{a us n},(a,lstO us n)∈imm->us.length<=16777216->RDs w imm us l->Lf w A x (T (.ref a)) R):Lf w A x (T v) R:=RD.onLst (P:=λv=>Lf w A x (T v) R) r e k
theorem HI.lsL {β:Type}{v:Value}{u:V}{R:Imm->β->Prop}{T:Value->O0 β}{ds:List D}(H:HI c st x) (r:RV c.w x.ρ x.imm v u) (e:u.ls? st=Vr ds) (k:∀{a us n},x.h.get? a=Vr (lstO us n)->us.length<=16777216->RDs c.w x.imm us ds->Lf w A x (T (.ref a)) R):Lf w A x (T v) R:=HI.ls (P:=λv=>Lf w A x (T v) R) H r e k
theorem HI.kvsL {β:Type}{v:Value}{u:V}{R:Imm->β->Prop}{T:Value->O0 β}{ds:List (Int×D)}(H:HI c st x) (B:Bs c) (r:RV c.w x.ρ x.imm v u) (e:u.kvs? st=Vr ds) (k:∀{a o kvs},x.h.get? a=Vr o->o.IsDictOf (Ld PR c.w) kvs->(a==MH)=Vu->RKs c.w x.imm kvs ds->Lf w A x (T (.ref a)) R):Lf w A x (T v) R:=HI.kvs (P:=λv=>Lf w A x (T v) R) H B r e k
theorem dS {β α:Type}{o:α}{R:Imm->β->Prop}{T:Value->Value->O0 β}{f:Int->Int->Option α}(n:RD w imm a d) (l:RD w imm b e) (h:jr d e f=Vr o) (k:∀i j t u,f i j=Vr o->Lf w A x (T (.int i t) (.int j u)) R):Lf w A x (T a b) R:=aA h λi c p=>aA p λj g m=>n.intL (T:=λa=>T a b) c λt=>l.intL g λu=>k i j t u m
theorem B0 {β α:Type}{o:α}{R:Imm->β->Prop}{T:Value->Value->O0 β}{f:Str->Str->Option α}(n:RD w imm a d) (l:RD w imm b e) (h:B1 d e f=Vr o) (k:∀i j t u,f i j=Vr o->Lf w A x (T (.str i t) (.str j u)) R):Lf w A x (T a b) R:=aA h λi c p=>aA p λj g m=>n.strL (T:=λa=>T a b) c λt _=>l.strL g λu _=>k i j t u m
theorem Cz {β α:Type}{o:α}{R:Imm->β->Prop}{T:Value->Value->O0 β}{f:List D->List D->Option α}(t:RD w imm a d) (s:RD w imm b e) (h:CA d e f=Vr o) (k:∀{p us n q vs m} i j,(p,lstO us n)∈imm->us.length<=16777216->RDs w imm us i->(q,lstO vs m)∈imm->vs.length<=16777216->RDs w imm vs j->f i j=Vr o->Lf w A x (T (.ref p) (.ref q)) R):Lf w A x (T a b) R:=aA h λi g y=>aA y λj l u=>t.lstL (T:=λa=>T a b) g λm z r=>s.lstL l λC v c=>k i j m z r C v c u
theorem yi {i:Int}(h:cM i):Mf.Int.intBits i<=64:=intBits_le (by unfold cM at h;simpa using h)
theorem Dp {a b:Int}(c:0<=a) (d:0<=b):((a.toNat&&& b.toNat:Nat):Int)=SD a b:=by unfold SD;simp[c,d]
theorem Cc (vs:Array Value):∀(n:Nat) (b:Array Value),Uv (λx1 x2:Array Value=>x1++x2) b (LU n vs)=b++(LU n vs.toList).flatten.toArray:=@nr _ (@λb=>by simp) (λn a=>(@λb=>by
  rw[R9,O8,a];apply Array.ext';simp[R9]))
theorem RDs.rep {vs:List Value}{ds:List D}(h:RDs w imm vs ds):∀n,RDs w imm (LU n vs).flatten (LU n ds).flatten
 | 0=>.nil
 | n+1=>h.append (RDs.rep h n)
theorem mD {x:X}{w:Lh}{vs:List Value}{ds:List D}(r:RDs w x.imm vs ds){p:Addr×Obj}:RDs w (p::x.imm) vs ds:=r.mono λ_ h=>.tail _ h
theorem bQ {n:Nat}(h:n<=16777216):n<=sizeLine:=by rw[Ou];exact h
def Gq (w:Lh) (A:Lg) (x:X) (t:O0 Value) (ds:List D):Prop:=∃us tk,RDs w x.imm us ds/\us.length<=16777216/\∀(Q:Value->Shared->Prop) (E:Value->Shared->Prop),Q (.ref x.h.objs.size) {x.S with heap:=x.h.push (lstO us 0),toks:=tk}->Kq (Kr PR w) A t Q E x.S
theorem Gq.data {A:Lg}{x:X}{t:O0 Value}{ds:List D}(h:Gq w A x t ds):fT w A x t (.lst ds):=h.elim λb h=>h.elim λa h=>.push rfl (.lst (.head _) h.2.1 (mD h.1)) h.2.2
theorem yU {A:Lg}{x:X}{t:O0 Value}{us:List Value}{ds:List D}{tk:Nat}(r:RDs w x.imm us ds) (hz:us.length<=16777216) (h:∀(Q:Value->Shared->Prop) (E:Value->Shared->Prop),Q (.ref x.h.objs.size) {x.S with heap:=x.h.push (lstO us 0),toks:=tk}->Kq (Kr PR w) A t Q E x.S):fT w A x t (.lst ds):=Gq.data (y2 us tk (w3 r hz h))
theorem yX {p:Addr}{us:List Value}{n:Nat}{ds:List D}{i:Int}{t:PT}(a:x.h.get? p=Vr (lstO us n)) (r:RDs w x.imm us ds) (g:ds.length=1) (j:0<=i) (k:i<=1000):Gq w A x (Rw .Mult (.ref p) (.int i t)) (LU i.toNat ds).flatten:=by
 have b:us.length=1:=r.length.trans g;have d:=r.rep i.toNat;have e:Uv (λx1 x2:Array Value=>x1++x2) #[] (LU (if us.toArray.isEmpty=Vt then 0 else i.toNat) us.toArray)=(LU i.toNat us).flatten.toArray:=by
  rw[Cc,if_neg (by simp;intro q;subst q;cases b)];simp
 have f:(LU i.toNat us).flatten.length<=16777216:=by
  rw[List.length_flatten,List.map_replicate,List.sum_replicate_nat,b];lia
 refine y2 _ x.S.toks (w3 d f (λQ E q=>?_));refine wpAny_binaryOp_repeat_ref (U:="int") (by decide) ⟨_,a,rfl⟩ (λc=>typeIs_int c i t) noFill_list_mul F.fills_int_mul F.slot_int_rmul repeat_list F.slot_int_index.lookup (Ql F.slot_int_rmul (typeIs_int x.S i t) F.entry_int_rmul (F.args_int_rmul_2 _ _) (int___rmul___int_list i t p us.toArray n) (w4 a rfl ⟨_,a,rfl⟩ (Ql F.slot_list_mul ⟨_,a,rfl⟩ F.entry_list_mul (F.args_list_mul_2 _ _) (AutoListH.list___mul___list_int_3 p us.toArray n i t ?_ ?_ ?_) ⟨a,?_⟩)))
 ·unfold Mf.List.listFitsIndex;simp;lia
 ·simp[b];lia
 ·unfold Mf.List.listTooLong;simp[b];rw[Ou];lia
 ·rw[e];exact q
theorem F6 {op:NA}(H:HI c st x) (k:RD c.w x.imm a d) (g:RD c.w x.imm b e) (h:HO op d e=Vr o):fT c.w A x (Rw op a b) o:=by
 cases op with
 | Add=>
  exact cL h (λh=>dS k g h λi j t u h=>et h <| .int λQ E q=>add_int q) λh=>cL h (λh=>B0 k g h λi j t u h=>bD h λf h=>et h <| .stay λQ E q=>add_str (λp tk=>q (.str _ p) x.h tk (λ_ _ e=>e) (RD.str (i++j) p (by rw[Str.cps_append,NJ];walk_at "n"))) (bQ (by simp only[UP];walk_at "n"))) λh=>Cz k g h λi j m _ r y _ n h=>bD h λf h=>et h <| yU (tk:=x.S.toks) (r.append n) (by rw[Km,r.length,n.length];walk_at "n") λQ E q=>
        P.add_list (H.immIn _ m) (H.immIn _ y) (by rw[List.append_toArray];exact q) (bQ (by rw[Kz,Kz,r.length,n.length];walk_at "n"))
 | Sub=>exact dS k g h λi j t u h=>et h <| .int λQ E q=>sub_int q
 | Mult=>exact cL h (λh=>dS k g h λi j t u h=>bD h λf h=>et h <| .int λQ E q=>mul_int q (.of_left (yi f.1))) λh=>aA h λl s h=>aA h λi v h=>bD h λf h=>et h <| k.lstL (T:=λa=>Rw .Mult a b) s λm _ r=>g.intL v λt=>(yX (H.immIn _ m) r f.1 f.2.1 f.2.2).data
 | FloorDiv=>exact dS k g h λi j t u h=>bD h λf h=>et h <| .int λQ E q=>floordiv_int f.1 q (.inl (PyProof.noPylong_small (O6 f.2 (by decide))))
 | Mod=>exact dS k g h λi j t u h=>bD h λf h=>et h <| .int λQ E q=>mod_int f q
 | BitAnd=>exact dS k g h λi j t u h=>bD h λf h=>et h <| .int λQ E q=>and_int (Dp f.1 f.2▸q)
 | _=>exact au h
theorem s8 {us:List Value}{ds:List D}(r:RDs w imm us ds):(!us.toArray.isEmpty)=!ds.isEmpty:=by
 have:=r.length;cases us<;>cases ds<;>first | rfl | cases this
theorem qP {us:List Value}(h:us.length<=16777216):(us.toArray.size:Int)<2 ^ 63:=by rw[Kz];lia
theorem xV {v:Value}{u:V}{r:Bool}(H:HI c st x) (f:RV c.w x.ρ x.imm v u) (h:cc st u=Vr r):Iq c.w A x (Oi v) r:=cL h (λh=>aV h λl a h=>Hv h <| H.lsL f a λg z r=>.tok (s8 r) λQ E q=>TR (aJ g) (qP z) q) λh=>aA h λd a h=>have rd:=f.onD a
  cL h (λh=>aV h λ_ e h=>Hv h <| rd.noneL e (.same rfl λQ E q=>truthy_none q)) λh=>cL h (λh=>rd.boolL h (.same rfl λQ E q=>TS q)) λh=>cL h (λh=>aV h λi e h=>Hv h <| rd.intL e λt=>.same rfl λQ E q=>PyProof.Rows.truthy_int (by rw[show (i != 0)=decide (i≠0) by by_cases h:i=0<;>simp[h]];exact q)) λh=>cL h (λh=>aV h λi e h=>Hv h <| rd.bytesL e λt z=>.tok (by by_cases h:i.size=0<;>simp[h]) λQ E q=>PySem.W.truthy_bytes (b:=i) (by (first | walk_at "m" | lia)) q) λh=>aV h λl e h=>Hv h <| rd.tupL e λm z r=>.tok (s8 r) λQ E q=>PyProof.Rows.truthy_tuple (my (H.immIn _ m)) (qP z) q
end
section
open PySem.SeqAt
section
variable {w:Lh}{A:Lg}{c:Cn}{x:X}{st:List SObj}{a b:Value}{d e o:D}{imm:Imm}
theorem iQ {f:D->D->Option Bool}:∀{s t:List D}{b:Bool},s.length=t.length->kN (My f s t)=Vr b->∃e:Nat->Bool,(∀(j:Nat) (d c:D),s[j]?=Vr d->t[j]?=Vr c->f d c=Vr (e j))/\b=(KC s.length).all e
 | [],t,b,_,h=>⟨λ_=>Vt,λ_ _ _ h=>au h,(Kd h).symm⟩
 | d::s,[],b,hl,_=>nomatch hl
 | d::s,c::t,b,hl,h=>aA h λp i h=>aV h λq k h=>by
  obtain ⟨e,m,l⟩:=iQ (Nj hl) k;refine ⟨λj=>Qu j p e,λj u n g a=>?_,?_⟩
  ·cases j with
   | zero=>exact Kd g▸Kd a▸i
   | succ j=>exact m j u n g a
  ·rw[Lw,O2,TO,List.all_map,<- h,l];rfl
theorem Bl {n:Nat}{e:Nat->Bool}(h:∀j,j<n->e j=Vt):(KC n).all e=true:=KS.mpr λj a=>h j (LA.mp a)
abbrev Im (x:X):Prop:=∀p∈x.imm,x.h.get? p.1=Vr p.2
theorem uG (I:Im x){p:Addr}{us vs:List Value}{n m:Nat}{T b:String}(h:(p,({cls:=.type T,data:=.seq us.toArray n}:Obj))∈x.imm) (h':(p,({cls:=.type b,data:=.seq vs.toArray m}:Obj))∈x.imm):us=vs:=by
 have c:=I _ h;have a:=I _ h';have:=congrArg QY (Kd (c.symm.trans a));injection this with q
 exact (Array.mk.injEq ..).mp q
theorem RDs.both {vs:List Value}{ds es:List D}(h:RDs w imm vs ds) (h':RDs w imm vs es){j:Nat}(f:j<ds.length):∃v d e,RD w imm v d/\RD w imm v e/\ds[j]?=Vr d/\es[j]?=Vr e:=by
 have c:=Kl f;have g:=Kl (l:=es) (i:=j) (by rw[<- h'.length,h.length];exact f);refine aC λo b=>?_;obtain ⟨v,m,r⟩:=h.get c;obtain ⟨n,a,k⟩:=h'.get g;refine b ?_;obtain rfl:=Kd (m.symm.trans a);exact y3 v _ _ (w4 r k c g)
theorem C6 (I:Im x):∀(n:Nat){v:Value}{d e:D}{r:Bool},RD w x.imm v d->RD w x.imm v e->fE n d e=Vr r->r=true:=@nr _ (@λ_ _ _ _ _ _ h=>au h) (λn A=>(@λv d e r l k h=>by
  have m:∀{o:List Value}{s t:List D}{r:Bool},RDs w x.imm o s->RDs w x.imm o t->kN (My (fE n) s t)=Vr r->r=true:=λg c F=>by
   obtain ⟨f,y,rfl⟩:=iQ (g.length.symm.trans c.length) F;exact Bl λj C=>(g.both c C).elim λv h=>h.elim λd h=>h.elim λe h=>A h.1 h.2.1 (y j d e h.2.2.1 h.2.2.2)
  refine cL h (λh=>aA h λi a h=>aA h λj b h=>?_) λh=>cL h (λh=>aA h λi a h=>aA h λj b h=>?_) λh=>cL h (λh=>aA h λi a h=>aA h λj b h=>?_) λh=>
   cL h (λh=>aA h λi a h=>aA h λj b h=>?_) λh=>cL h (λh=>aA h λs a h=>aA h λt b h=>?_) λh=>aA h λs a h=>aA h λt b h=>?_
  ·obtain ⟨t,rfl⟩:=(hY a▸l).view;obtain ⟨_,q⟩:=(hY b▸k).view;cases q;exact (Kd h).symm.trans (beq_self_eq_true i)
  ·obtain ⟨t,rfl,_⟩:=(gU a▸l).view;obtain ⟨_,q,_⟩:=(gU b▸k).view;cases q;exact (Kd h).symm.trans (beq_self_eq_true i)
  ·obtain ⟨t,rfl,_⟩:=(fF a▸l).view;obtain ⟨_,q,_⟩:=(fF b▸k).view;cases q;exact (Kd h).symm.trans (beq_self_eq_true i)
  ·obtain rfl:=show v=_ from (iN a▸l).view;obtain q:=show Value.bool i=_ from (iN b▸k).view;cases q;exact (Kd h).symm.trans (beq_self_eq_true i)
  ·obtain ⟨p,o,_,rfl,m1,_,g⟩:=(hO a▸l).view;obtain ⟨E,z,_,q,u,_,c⟩:=(hO b▸k).view;cases q;obtain rfl:=uG I m1 u;exact m g c ((if_pos (g.length.symm.trans c.length)).symm.trans h)
  ·obtain ⟨p,o,_,rfl,m1,_,g⟩:=(gS a▸l).view;obtain ⟨E,z,_,q,u,_,c⟩:=(gS b▸k).view;cases q;obtain rfl:=uG I m1 u;exact m g c ((if_pos (g.length.symm.trans c.length)).symm.trans h)))
theorem iG {A:Lg}:A.in1.units<=A.units+1:=KL _
theorem RDs.toArray {vs:List Value}{ds:List D}(r:RDs w imm vs ds){j:Nat}(h:j<vs.toArray.size):∃d,ds[j]?=Vr d/\RD w imm vs.toArray[j] d:=by
 have b:j<vs.length:=by rwa [Kz] at h
 have e:=Kl (l:=ds) (i:=j) (r.length▸b);obtain ⟨v,a,q⟩:=r.get e;exact ⟨_,e,by rw[Pp,(Kh.mp a).2];exact q⟩
theorem lx {n:Nat}{us vs:List Value}{s t:List D}{r:Bool}(c:RDs w x.imm us s) (g:RDs w x.imm vs t) (l:s.length=t.length) (k:∀{u v:Value}{d e:D}{b:Bool},RD w x.imm u d->RD w x.imm v e->fE n d e=Vr b->EqAt A x.S u v b) (h:kN (My (fE n) s t)=Vr r):∃e:Nat->Bool,(∀j (f:j<us.toArray.size) (a:j<vs.toArray.size),EqAt A x.S us.toArray[j] vs.toArray[j] (e j))/\r=(KC us.toArray.size).all e:=by
 obtain ⟨e,m,q⟩:=iQ l h;refine ⟨e,λj f a=>?_,by rw[q,Kz,c.length]⟩;obtain ⟨d,i,p⟩:=c.toArray f;obtain ⟨o,z,y⟩:=g.toArray a;exact k p y (m j d o i z)
theorem lM {us vs:List Value}{s t:List D}(b:RDs w imm us s) (a:RDs w imm vs t) (h:s.length=t.length):us.toArray.size=vs.toArray.size:=by rw[Kz,Kz,b.length,a.length,h]
theorem x7 {us vs:List Value}{s t:List D}(b:RDs w imm us s) (a:RDs w imm vs t) (h:¬s.length=t.length):(us.toArray.size != vs.toArray.size)=true:=bne_iff_ne.mpr λq=>h (by rwa [Kz,Kz,b.length,a.length] at q)
theorem AW (a b:Array UInt8):decide (a.toList=b.toList)=(a==b):=by rw[LR];simp
theorem vr (I:Im x):∀(n:Nat){A:Lg}{u v:Value}{d e:D}{b:Bool},A.units+n<cLine->RD w x.imm u d->RD w x.imm v e->fE n d e=Vr b->EqAt A x.S u v b:=@nr _ (@λ_ _ _ _ _ _ _ _ _ h=>au h) (λn m=>(@λA u v d e r J k g h=>by
  by_cases same:u=v
  ·subst same;obtain rfl:=C6 I _ k g h;exact EqAt.same u
  have o:=λ{u v:Value}{d e:D}{b:Bool}(G:RD w x.imm u d) (H:RD w x.imm v e)=>m (A:=A.in1) (b:=b) (by have:=@iG A;lia) G H;refine cL h (λh=>aA h λi a h=>aA h λj c h=>?_) λh=>cL h (λh=>aA h λi a h=>aA h λj c h=>?_) λh=>cL h (λh=>aA h λi a h=>aA h λj c h=>?_) λh=>
   cL h (λh=>aA h λi a h=>aA h λj c h=>?_) λh=>cL h (λh=>aA h λs a h=>aA h λt c h=>?_) λh=>aA h λs a h=>aA h λt c h=>?_
  ·obtain ⟨t,rfl⟩:=(hY a▸k).view;obtain ⟨_,rfl⟩:=(hY c▸g).view;refine rq (Kd h) ?_;exact EqAt.int_int i t _ _
  ·obtain ⟨t,rfl,_⟩:=(gU a▸k).view;obtain ⟨_,rfl,_⟩:=(gU c▸g).view;refine rq (Kd h) ?_;exact EqAt.str_str i t _ _
  ·obtain ⟨t,rfl,_⟩:=(fF a▸k).view;obtain ⟨_,rfl,_⟩:=(fF c▸g).view;refine rq (Kd h) ?_;exact λy w E Q q=>eqBool_bytes (by rw[AW];exact q)
  ·refine rp (show u=_ from (iN a▸k).view) ?_;refine rp (show v=_ from (iN c▸g).view) ?_;obtain rfl:=Kd h;exact EqAt.bool_bool _ _
  ·obtain ⟨p,C,_,rfl,m1,_,r1⟩:=(hO a▸k).view;obtain ⟨p',F,_,rfl,m2,_,r2⟩:=(hO c▸g).view;have z:p≠p':=λq=>same (congrArg _ q);by_cases f:s.length=t.length
   ·obtain ⟨e,l,rfl⟩:=lx r1 r2 f o ((if_pos f).symm.trans h);exact EqAt.of_refs z (RcAt.lists (aJ (I _ m1)) (aJ (I _ m2)) (lM r1 r2 f) (by lia) l)
   ·refine rq (Kd ((if_neg f).symm.trans h)) ?_;exact EqAt.of_refs z (RcAt.lists_lengths (aJ (I _ m1)) (aJ (I _ m2)) (x7 r1 r2 f) (by lia))
  ·obtain ⟨p,C,_,rfl,m1,_,r1⟩:=(gS a▸k).view;obtain ⟨p',F,_,rfl,m2,_,r2⟩:=(gS c▸g).view;refine bD h λf h=>?_;obtain ⟨e,l,rfl⟩:=lx r1 r2 f o h;have:=RcAt.tuples (A:=A) (dn (I _ m1)) (dn (I _ m2)) (by lia) l;rw[lM r1 r2 f,Uk,beq_self_eq_true,PM] at this;rw[lM r1 r2 f];exact EqAt.of_refs (λq=>same (congrArg _ q)) this))
noncomputable def IK (o:Obj):List Value:=match o.data with
 | .seq vs _=>vs.toList
 | _=>[]
noncomputable def BA (h:Heap):Nat->Value->Option D
 | 0,_=>Vs
 | n+1,v=>Value.casesOn v Vs Vs Vs (λb=>Vr (.bool b)) (λi _=>Vr (.int i)) (λ_ _=>Vs) (λs _=>Vr (.str s)) (λb _=>Vr (.bytes b)) (λ_=>Vs) (λ_=>Vs) λa=>(h.get? a).bind λo=>((IK o).mapM (BA h n)).map λds=>if o.cls=.type "list" then .lst ds else .tup ds
theorem ET (f:Value->Option D){us:List Value}{ds:List D}(r:RDs w imm us ds):(∀v d,RD w imm v d->d∈ds->f v=Vr d)->us.mapM f=Vr ds:=r.ind (M:=λus ds=>(∀v d,RD w imm v d->d∈ds->f v=Vr d)->us.mapM f=Vr ds) (λ_=>rfl) λh _ a k=>by
  rw[List.mapM_cons,k _ _ h (.head _),a λv d r m=>k v d r (.tail _ m)];rfl
theorem GN (I:Im x):∀(n:Nat){v:Value}{d:D}{r:Bool},RD w x.imm v d->fE n d d=Vr r->BA x.h n v=Vr d:=@nr _ (@λ_ _ _ _ h=>au h) (λn u=>(@λv d r c h=>by
  have e:∀{b:List Value}{s:List D}{r:Bool},RDs w x.imm b s->kN (My (fE n) s s)=Vr r->b.mapM (BA x.h n)=Vr s:=λg y=>ET _ g λv d q m=>by
   obtain ⟨f,o,_⟩:=iQ rfl y;obtain ⟨j,l⟩:=Lc.mp m;exact u q (o j d d l l)
  refine cL h (λh=>aA h λi a h=>?_) λh=>cL h (λh=>aA h λi a h=>?_) λh=>cL h (λh=>aA h λi a h=>?_) λh=>
   cL h (λh=>aA h λi a h=>?_) λh=>cL h (λh=>aA h λs a h=>aA h λt k h=>?_) λh=>aA h λs a h=>aA h λt k h=>?_
  ·obtain rfl:=hY a;obtain ⟨t,rfl⟩:=c.view;rfl
  ·obtain rfl:=gU a;obtain ⟨t,rfl,_⟩:=c.view;rfl
  ·obtain rfl:=fF a;obtain ⟨t,rfl,_⟩:=c.view;rfl
  ·obtain rfl:=iN a;obtain rfl:=show v=_ from c.view;rfl
  ·skip
   obtain rfl:=hO a;obtain rfl:=Kd k;obtain ⟨p,b,_,rfl,m1,_,g⟩:=c.view;replace h:=(if_pos rfl).symm.trans h;show ((x.h.get? p).bind _)=_;rw[I _ m1];show (b.mapM (BA x.h n)).map _=_;rw[e g h];rfl
  ·skip
   obtain rfl:=gS a;obtain rfl:=Kd k;obtain ⟨p,b,_,rfl,m1,_,g⟩:=c.view;replace h:=(if_pos rfl).symm.trans h;show ((x.h.get? p).bind _)=_;rw[I _ m1];show (b.mapM (BA x.h n)).map _=_;rw[e g h];rfl))
open Classical in
theorem Ai (I:Im x) (z:A.units+3<cLine){u:Value}{us:List Value}{ds:List D}(s:RD w x.imm u d) (rs:RDs w x.imm us ds):∀{a:List Bool},vp d ds=Vr a->
  (∀y∈us,EqAt A x.S y u (decide (∃k,BA x.h 3 y=Vr k/\fE 3 k d=Vr Vt)))/\a=us.map λy=>decide (∃k,BA x.h 3 y=Vr k/\fE 3 k d=Vr Vt):=
 rs.ind (M:=λus ds=>∀{a:List Bool},vp d ds=Vr a->(∀y∈us,EqAt A x.S y u (decide (∃k,BA x.h 3 y=Vr k/\fE 3 k d=Vr Vt)))/\a=us.map λy=>decide (∃k,BA x.h 3 y=Vr k/\fE 3 k d=Vr Vt)) (λ{_} h=>⟨λ_ h=>(nomatch h),(Kd h).symm⟩) λ{v C k E} i _ p {a} h=>aA h λq n h=>aA h λb c h=>aV h λt m h=>by
   have e:decide (∃k,BA x.h 3 v=Vr k/\fE 3 k d=Vr Vt)=b:=by
    have f:=GN I 3 i n;cases b with
    | true=>exact decide_eq_true ⟨k,f,c⟩
    | false=>exact decide_eq_false λ⟨F,o,g⟩=>by rw[<- Kd (f.symm.trans o),c] at g;cases g
   obtain ⟨j,l⟩:=p m;subst h;refine ⟨λy r=>(Kw.mp r).elim (λq=>?_) (j y),by rw[KG,e,l]⟩;refine rp q ?_;rw[e];exact vr I 3 z i s c
end
end
section
open PySem.SeqAt
set_option linter.all false
section
variable {w:Lh}{A:Lg}{c:Cn}{x:X}{st:List SObj}{a b:Value}{d e o:D}{imm:Imm}{u v:V}{r:Bool}
def Rc (A:Lg) (S:Shared) (a b:Value) (r:Bool):Prop:=RcAt A S a b r/\RcNeAt A S a b (!r)
theorem DL (I:Im x) (G:A.units+7<cLine) (m:RD w x.imm a d) (l:RD w x.imm b e) (h:gJ d e=Vr r):Rc A x.S a b r:=by
 have q:=λ{u v:Value}{d e:D}{b:Bool}(E:RD w x.imm u d) (F:RD w x.imm v e)=>vr (A:=A.in1) (b:=b) I 5 (by have:=@iG A;walk_at "n") E F;refine cL h (λh=>aA h λi f h=>aA h λj g h=>?_) λh=>cL h (λh=>aA h λi f h=>aA h λj g h=>?_) λh=>cL h (λh=>aA h λs f h=>aA h λt g h=>?_) λh=>aA h λs f h=>aA h λt g h=>?_
 ·obtain ⟨t,rfl⟩:=(hY f▸m).view;obtain ⟨_,rfl⟩:=(hY g▸l).view;refine rq (Kd h) ?_;exact ⟨.int_int _ _ _ _,.int_int _ _ _ _⟩
 ·obtain ⟨t,rfl,_⟩:=(gU f▸m).view;obtain ⟨_,rfl,_⟩:=(gU g▸l).view;refine rq (Kd h) ?_;exact ⟨.str_str _ _ _ _,.str_str _ _ _ _⟩
 ·obtain ⟨p,y,_,rfl,m1,_,r1⟩:=(hO f▸m).view;obtain ⟨C,z,_,rfl,m2,_,r2⟩:=(hO g▸l).view;by_cases c:s.length=t.length
  ·obtain ⟨e,k,rfl⟩:=lx r1 r2 c q ((if_pos c).symm.trans h);exact ⟨.lists (aJ (I _ m1)) (aJ (I _ m2)) (lM r1 r2 c) (by walk_at "n") k,.lists (aJ (I _ m1)) (aJ (I _ m2)) (lM r1 r2 c) (by walk_at "n") k⟩
  ·refine rq (Kd ((if_neg c).symm.trans h)) ?_;exact ⟨.lists_lengths (aJ (I _ m1)) (aJ (I _ m2)) (x7 r1 r2 c) (by walk_at "n"),.lists_lengths (aJ (I _ m1)) (aJ (I _ m2)) (x7 r1 r2 c) (by walk_at "n")⟩
 ·obtain ⟨p,y,_,rfl,m1,_,r1⟩:=(gS f▸m).view;obtain ⟨C,z,_,rfl,m2,_,r2⟩:=(gS g▸l).view;refine bD h λc h=>?_;obtain ⟨e,k,rfl⟩:=lx r1 r2 c q h;have o:=RcAt.tuples (A:=A) (dn (I _ m1)) (dn (I _ m2)) (by walk_at "n") k;have n:=RcNeAt.tuples (A:=A) (dn (I _ m1)) (dn (I _ m2)) (by walk_at "n") k;rw[lM r1 r2 c,Uk,beq_self_eq_true,PM] at o n;rw[lM r1 r2 c];exact ⟨o,n⟩
theorem Kc {t:O0 Value}{p q:Bool}(h:p=q) (k:fT w A x t (.bool p)):fT w A x t (.bool q):=h▸k
abbrev H8 (w:Lh) (A:Lg) (x:X) (a b:Value) (r:Bool):Prop:=fT w A x (Pf .In a b) (.bool r)/\fT w A x (Pf .NotIn a b) (.bool (!r))
theorem RK.look {α:Type}{R:Value->α->Prop}{kvs:List (Int×Value)}{ds:List (Int×α)}(h:RK R kvs ds) (i:Int):(∀d,aF i ds=Vr d->∃v,NE kvs i=Vr v/\R v d)/\(aF i ds=Vs->NE kvs i=Vs):=h.ind (M:=λkvs ds=>(∀d,aF i ds=Vr d->∃v,NE kvs i=Vr v/\R v d)/\(aF i ds=Vs->NE kvs i=Vs)) ⟨λ_ h=>au h,λ_=>rfl⟩ λ{k v d b ds} h _ a=>by
  have f:NE ((k,v)::b) i=if k=i then Vr v else NE b i:=by unfold NE;rw[MU];by_cases q:k=i<;>simp[q]
  rw[f];by_cases q:k=i
  ·rw[if_pos q];exact ⟨λc e=>⟨v,rfl,Kd ((if_pos q).symm.trans e)▸h⟩,λe=>au (e.symm.trans (if_pos q))⟩
  ·rw[if_neg q];exact ⟨λc e=>a.1 c ((if_neg q).symm.trans e),λe=>a.2 ((if_neg q).symm.trans e)⟩
theorem RK.isSome {α:Type}{R:Value->α->Prop}{kvs:List (Int×Value)}{ds:List (Int×α)}(h:RK R kvs ds) (i:Int):(NE kvs i).isSome=(aF i ds).isSome:=by
 cases e:aF i ds with
 | none=>rw[(h.look i).2 e];rfl
 | some d=>exact ((h.look i).1 d e).elim λv h=>by rw[h.1];rfl
theorem RK.length {α:Type}{R:Value->α->Prop}{kvs:List (Int×Value)}{ds:List (Int×α)}(h:RK R kvs ds):kvs.length=ds.length:=h.ind (M:=λ(a:List (Int×Value)) (ds:List (Int×α))=>a.length=ds.length) rfl λ_ _ e=>congrArg Np e
theorem RK.keys {α:Type}{R:Value->α->Prop}{kvs:List (Int×Value)}{ds:List (Int×α)}(h:RK R kvs ds):kvs.map (·.1)=ds.map (·.1):=h.ind (M:=λ(a:List (Int×Value)) (ds:List (Int×α))=>a.map (·.1)=ds.map (·.1)) rfl λ_ _ e=>congrArg (List.cons _) e
theorem uZ (H:HI c st x) (B:Bs c) (S:A.units+7<cLine) (s:RD c.w x.imm a d) (k:RV c.w x.ρ x.imm b v) (h:zA st d v=Vr r):H8 c.w A x a b r:=cL h (λh=>aA h λl m h=>aV h λO g h=>H.ls (P:=λb=>H8 c.w A x a b r) k m λf z L=>by
  obtain ⟨n,M⟩:=Ai (A:=A.in1) H.immIn (by have:=@iG A;walk_at "n") s L g;subst M;rw[Rp] at h;subst h;exact ⟨.same (.bool _) λQ E q=>in_listAt _ (aJ f) (λy j=>n y (by simpa using j)) (by simpa using q),.same (.bool _) λQ E q=>notIn_listAt _ (aJ f) (λy j=>n y (by simpa using j)) (by simpa using q)⟩)
 λh=>aA h λi m h=>RD.onInt (P:=λa=>H8 c.w A x a b r) s m λt=>cL h (λh=>aV h λI g h=>H.kvs (P:=λb=>H8 c.w A x (.int i t) b r) B k g λ{p o J} f G hs K=>by
   have C:x.h.MapOf (Ld PR c.w) p (NE J):=(LO.mpr ⟨o,f,G⟩).mapOf;rw[<- K.rk.isSome] at h;subst h;exact ⟨.tok (.bool _) λQ E q=>wpAny_in_of (MF _ _ _ _) hs C q,.tok (.bool _) λQ E q=>wpAny_notIn_of (MF _ _ _ _) hs C q⟩)
  λh=>aV h λR g h=>H.on (P:=λb=>H8 c.w A x (.int i t) b r) k g λ{l p N o} _ u e=>by
   obtain rfl:=ym e;obtain ⟨o,rfl,f,hz⟩:=u.foot;subst h;have F:=f.setOf (H.ledIn _ (aD u.led (.head _))) (by walk_at "n");exact ⟨.tok (.bool _) λQ E q=>wpAny_inSet_of (MF _ _ _ _) rfl F q,.tok (.bool _) λQ E q=>wpAny_notInSet_of (MF _ _ _ _) rfl F q⟩
abbrev Em (w:Lh) (A:Lg) (x:X) (a b:Value) (r:Bool):Prop:=fT w A x (Pf .Is a b) (.bool r)/\fT w A x (Pf .IsNot a b) (.bool (!r))
theorem hV (c:plainIs a b=Vt) (d:(a==b)=r):Em w A x a b r:=⟨.same (.bool _) λQ E q=>wpAny_is_plain c (d.symm▸q),.same (.bool _) λQ E q=>wpAny_isNot_plain c (d.symm▸q)⟩
theorem DV (g:RV c.w x.ρ x.imm a v) (k:RD c.w x.imm b d) (h:I2 v d=Vr r):Em c.w A x a b r:=cL h (λh=>aA h λl j h=>aV h λ_ i m=>by
  obtain rfl:=kE j;obtain rfl:=pq i;subst m;obtain ⟨p,rfl,_⟩:=g;refine rp (show b=_ from k.view) ?_;exact hV rfl rfl)
 λh=>aA h λe j h=>have g:=g.onD j
  cL h (λh=>aA h λ_ i h=>RD.onNone (P:=λb=>Em c.w A x a b r) k i <| cL h (λh=>aV h λ_ f h=>RD.onNone (P:=λa=>Em c.w A x a .none r) g f (hV rfl h)) λh=>cL h (λh=>aV h λ_ f h=>RD.onTup (P:=λa=>Em c.w A x a .none r) g f λ_ _ _=>hV rfl h) λh=>aV h λ_ f h=>RD.onLst (P:=λa=>Em c.w A x a .none r) g f λ_ _ _=>hV rfl h) λh=>aA h λp i h=>aV h λq f h=>RD.onBool (P:=λb=>Em c.w A x a b r) k i <| RD.onBool (P:=λa=>Em c.w A x a (.bool p) r) g f (hV rfl (by rw[<- h];cases p<;>cases q<;>rfl))
theorem FZ {op:PU}(H:HI c st x) (B:Bs c) (m:A.units+7<cLine) (g:RV c.w x.ρ x.imm a v) (f:RV c.w x.ρ x.imm b u) (h:bV st op v u=Vr r):fT c.w A x (Pf op a b) (.bool r):=by
 have p:∀{op:PU},(v.d?.bind λd=>u.d?.bind λe=>HD op d e)=Vr r->fT c.w A x (Pf op a b) (.bool r):=λ{op} h=>aA h λd k h=>aA h λe o h=>by
  have g:=g.onD k;have f:=f.onD o;cases op with
  | Eq=>exact .same (.bool _) λQ E q=>(DL H.immIn m g f h).1 _ _ _ _ q
  | NotEq=>exact aV h λn h l=>.same (.bool _) λQ E q=>(DL H.immIn m g f h).2 _ _ _ _ (l▸q)
  | Lt=>exact dS g f h λi j t u h=>Kd h▸.same (.bool _) λQ E q=>lt_int q
  | Gt=>exact dS g f h λi j t u h=>Kd h▸.same (.bool _) λQ E q=>gt_int q
  | GtE=>exact dS g f h λi j t u h=>Kd h▸.same (.bool _) λQ E q=>PyProof.Rows.ge_int q
  | _=>exact au h
 cases op with
 | In=>exact aA h λd k h=>(uZ H B m (g.onD k) f h).1
 | NotIn=>exact aV h λn h l=>aA h λd k h=>l▸(uZ H B m (g.onD k) f h).2
 | Is=>exact aA h λd k h=>(DV g (f.onD k) h).1
 | IsNot=>exact aV h λn h l=>aA h λd k h=>l▸(DV g (f.onD k) h).2
 | _=>exact p h
end
end
section
set_option linter.all false
section
variable {w:Lh}{A:Lg}{c:Cn}{x:X}{st:List SObj}{a b:Value}{d e o:D}{imm:Imm}{u v:V}{r:Bool}
theorem lQ (a:Kf) (o i:Value):SZ a Vu o i=operate [i,o] (OH o i)\/SZ a Vu o i=operate [o,i] (OH o i):=by
 cases a with
 | Slice l u s p=>cases s with
  | none=>exact .inl (by with_unfolding_all rfl)
  | some s=>exact .inr (by with_unfolding_all rfl)
 | _=>exact .inr (by with_unfolding_all rfl)
theorem lu {b a:Kf}{o i:Value}{T id:String}{Q:Value->Shared->Prop}{E:Value->Shared->Prop}{S:Shared}(g:S.TypeIs o T) (j:Oh (.type T) "__getitem__" = pure (Vr (.builtin id))) (h:Kq (Kr PR w) A (OH o i) Q E S):Kq (Kr PR w) A (Lz b a o i) Q E S:=by
 unfold Lz;refine Kg ?_;rw[getitemInPython_of_ne g.not_modules];refine Kg (OB g j ?_);have c:Kq (Kr PR w) A (SZ a Vu o i) (λr d=>Kq (Kr PR w) A (Rt b o r >>= λ_=>pure r) Q E d) E S:=by
  have f:Kq (Kr PR w) A (OH o i) (λr d=>Kq (Kr PR w) A (Rt b o r >>= λ_=>pure r) Q E d) E S:=KQ h (λr d k=>Kg (SY (Ks k))) λ_ _ x=>x;exact (lQ a o i).elim (λe=>e▸Ur f) λe=>e▸Ur f
 first
  | exact Ks (Kg c)
  | exact Kg (Ks (Kg c))
  | exact Kg c
theorem iP {n:Nat}{i:Int}{j:Nat}(h:ki n i=Vr j):j<n/\((0<=i/\j=i.toNat)\/(i<0/\-(n:Int)<=i/\j=(i+n).toNat)):=by
 unfold ki at h;by_cases q:0<=i
 ·rw[if_pos q] at h;exact bD h λa h=>⟨by refine rq (Kd h) ?_;exact a,.inl ⟨q,(Kd h).symm⟩⟩
 ·rw[if_neg q] at h;exact bD h λa h=>by refine rq (Kd h) ?_;exact ⟨(Int.toNat_lt a).mpr (by lia),.inr (w3 (UW.mp q) (by lia) rfl)⟩
theorem uH {n:Nat}{i:Int}{j:Nat}(h:ki n i=Vr j):seqIndex? i n=Vr j:=by
 obtain ⟨e,d⟩:=iP h;unfold seqIndex?;rcases d with ⟨b,rfl⟩ | ⟨b,h3,rfl⟩
 ·have c:¬i<0:=by lia
  have a:(decide (0<=i)&&decide (i<(n:Int)))=true:=by rw[Qg,decide_eq_true_eq,decide_eq_true_eq];lia
  simp only[c,if_false,a,if_true]
 ·have a:(decide (0<=i+(n:Int))&&decide (i+(n:Int)<(n:Int)))=true:=by rw[Qg,decide_eq_true_eq,decide_eq_true_eq];lia
  simp only[b,if_true,a]
theorem gC {us:List Value}{k:Nat}{v:Value}(h:us[k]?=Vr v):us.toArray[k]?=Vr v:=NY.trans h
theorem Eh {p:Addr}{us:List Value}{n k:Nat}{ds:List D}{i:Int}{t:PT}(b:x.h.get? p=Vr (lstO us n)) (hz:us.length<=16777216) (rs:RDs w x.imm us ds) (f:ki ds.length i=Vr k) (l:ds[k]?=Vr d):fT w A x (OH (.ref p) (.int i t)) d:=by
 obtain ⟨v,c,m⟩:=rs.get l;have g:=rs.length;obtain ⟨o,j⟩:=iP f;have e:us.toArray.size=us.length:=Kz;refine .same m λQ E q=>?_;rcases j with ⟨a,rfl⟩ | ⟨a,h3,rfl⟩
 ·exact TC (aJ b) a (by lia) (gC c) q
 ·exact Sv (aJ b) a (by lia) (by lia) (by rw[e,g];exact gC c) q
abbrev xB (w:Lh) (A:Lg) (x:X) (t:O0 Value) (v:V):Prop:=Lf w A x t λimm b=>RV w x.ρ imm b v
theorem Lf.sub {a b:Kf}{o i:Value}{T id:String}{R:Imm->Value->Prop}(l:Lf w A x (OH o i) R) (d:x.S.TypeIs o T) (c:Oh (.type T) "__getitem__" = pure (Vr (.builtin id))):Lf w A x (Lz a b o i) R:=λQ E q=>lu d c (l Q E q)
theorem wK {f b:Kf}{i:Int}{t:PT}(H:HI c st x) (B:Bs c) (u:RV c.w x.ρ x.imm a v) (h:zF st v i=Vr d):fT c.w A x (Lz f b a (.int i t)) d:=cL h (λh=>aA h λl r h=>aA h λk g h=>H.lsL (T:=λa=>Lz f b a (.int i t)) u r λG z y=>(Eh G z y g h).sub ⟨_,G,rfl⟩ P7) λh=>cL h (λh=>aA h λl r h=>H.kvsL (T:=λa=>Lz f b a (.int i t)) B u r λ{p o I} G P hs U=>by
   have O:x.h.MapOf (Ld PR c.w) p (NE I):=(LO.mpr ⟨o,G,P⟩).mapOf;obtain ⟨v,N,L⟩:=(U.rk.look i).1 _ h;exact .sub (.tok L λQ E q=>Ua (MF _ _ _ _) O N q) (O.typeIs (s:=x.S)) TY.lookup)
 λh=>aA h λd R h=>have u:=u.onD R
  cL h (λh=>aA h λl r h=>aA h λk g h=>u.tupL (T:=λa=>Lz f b a (.int i t)) r λ{p Y n} m z y=>by
   obtain ⟨v,N,L⟩:=y.get h;exact .sub (.same L λQ E q=>PyProof.Rows.getItem_tuple (j:=k) (my (H.immIn _ m)) (by have:=iP g;have:=y.length;walk_at "n") (by have:=iP g;have:=y.length;walk_at "n") (by rw[Kz,y.length];exact uH g) (gC N) q) ⟨_,H.immIn _ m,rfl⟩ PySem.F.slot_tuple_getitem.lookup)
  λh=>cL h (λh=>aA h λs r h=>bD h λK h=>aV h λch g h=>u.strL (T:=λa=>Lz f b a (.int i t)) r λJ z=>by
   have C:i.toNat<s.cps.size:=(MM.mp g).1;have M:ki s.cps.size i=Vr i.toNat:=by unfold ki;rw[if_pos K,if_pos C]
   subst h;exact .sub (.stay λQ E q=>getItem_str (c:=ch) (by rw[N8,decide_eq_false_iff_not,decide_eq_false_iff_not];walk_at "n") (by rw[show s.length=s.cps.size from rfl,uH M];exact g) (q _ x.h _ (λ_ _ e=>e) (RD.str _ _ (by simp)))) (typeIs_str _ _ _) PySem.F.slot_str_getitem.lookup)
  λh=>aA h λs r h=>bD h λK h=>aV h λch g h=>u.bytesL (T:=λa=>Lz f b a (.int i t)) r λJ z=>by
   have C:i.toNat<s.size:=(MM.mp g).1;have M:s.toList.getD i.toNat 0=ch:=by rw[QQ,Lk,g];rfl
   subst h;refine .sub (T:="bytes") (.stay λQ E q=>?_) rfl Po.lookup;rw[show Value.bytes s J=.bytes s.toList.toArray J by rw[Pn]];exact getItem_bytes (by simp;walk_at "n") K (by simp;walk_at "n") (q _ x.h _ (λ_ _ e=>e) (by rw[M];exact .int _ _))
theorem zD {k j:Kf}{i:Int}{t:PT}(H:HI c st x) (B:Bs c) (G:RV c.w x.ρ x.imm a v) (h:zE st v i=Vr u):xB c.w A x (Lz k j a (.int i t)) u:=cL h (λh=>aV h λd h e=>e▸wK H B G h) λh=>aV h λl h e=>aA h λls K h=>HI.on (P:=λa=>xB c.w A x (Lz k j a (.int i t)) u) H G K λ{O p N o} _ y n=>by
  have:∃o f,x.h.get? p=Vr o/\o.IsDictOf (Ld PR c.w) f/\uh x.ρ f ls:=cL n (λn=>by
    refine aC λC g=>?_;obtain rfl:=ly n;obtain ⟨o,f,rfl,h,r⟩:=y.foot;refine g ?_;exact y2 o f (w3 (H.ledIn _ (aD y.led (.head _))) h r)) λn=>by
    refine aC λC g=>?_;obtain rfl:=mI n;obtain ⟨_,o,f,m,h,_,r⟩:=y.foot;refine g ?_;exact y2 o f (w3 (H.immIn _ m) h r)
  refine aC λC g=>?_;obtain ⟨o,f,J,I,L⟩:=this;have z:x.h.MapOf (Ld PR c.w) p (NE f):=(LO.mpr ⟨o,J,I⟩).mapOf;obtain ⟨_,M,F,rfl,ha⟩:=(RK.look L i).1 _ h;refine g ?_;refine rq e ?_;exact .sub (.tok (b:=.ref F) ⟨F,rfl,ha⟩ λQ E q=>Ua (MF _ _ _ _) z M q) (z.typeIs (s:=x.S)) TY.lookup
end
end
section
set_option linter.all false
section
variable {w:Lh}{A:Lg}{c:Cn}{x:X}{st:List SObj}{a b:Value}{d e o:D}{imm:Imm}{u v:V}{r:Bool}
theorem RDs.sub {vs:List Value}{ds:List D}(r:RDs w imm vs ds):(∀k,RDs w imm (vs.take k) (ds.take k))/\∀k,RDs w imm (vs.drop k) (ds.drop k):=r.ind (M:=λvs ds=>(∀k,RDs w imm (vs.take k) (ds.take k))/\∀k,RDs w imm (vs.drop k) (ds.drop k)) ⟨λk=>by rw[PG,PG];exact .nil,λk=>by rw[TM,TM];exact .nil⟩ λh r a=>⟨λk=>Qu k .nil λk=>.cons h (a.1 k),λk=>Qu k (.cons h r) λk=>a.2 k⟩
theorem RDs.pick {vs:List Value}{ds:List D}(h:RDs w imm vs ds):∀l:List Nat,RDs w imm (l.filterMap (vs[·]?)) (l.filterMap (ds[·]?))
 | []=>.nil
 | i::l=>by
  rw[K0,K0];cases a:ds[i]? with
  | none=>rw[K8.mpr (h.length▸K8.mp a)];exact h.pick l
  | some d=>
   obtain ⟨v,b,c⟩:=h.get a;rw[b];exact .cons c (h.pick l)
noncomputable def pf (a b c:Value):Obj:={cls:=.type "slice",data:=.fields #[a,b,c]}
def H6 (w:Lh) (A:Lg) (x:X) (c a:Kf) (k g f j:Value) (d:D):Prop:=∀(Q:Value->Shared->Prop) (E:Value->Shared->Prop),(∀b h' tk ex,Kp x.h h'->(∀p∈ex,h'.get? p.1=Vr p.2/\x.h.get? p.1=Vs)->RD w (ex++x.imm) b d->Q b {x.S with heap:=h',toks:=tk})->Kq (Kr PR w) A (Pe "slice" [k,g,f]) (λi e=>Kq (Kr PR w) A (Lz c a j i) Q E e) E x.S
theorem vV {c a:Kf}{p:Addr}{vs:List Value}{n:Nat}{es:List D}{g f d:Value}{lo i st:Option Int}(l:x.h.get? p=Vr (lstO vs n)) (hz:vs.length<=16777216) (m:IsPart g lo) (r:IsPart f i) (s:IsPart d st) (h0:st≠Vr 0) (rs:RDs w x.imm (Sf vs.toArray lo i st).toList es):H6 w A x c a g f d (.ref p) (.lst es):=λQ E q=>by
 refine LY ?_ (by size_fits);have j:(x.h.push (pf g f d)).get? p=Vr (lstO vs n):=aM _ _ _ _ l;refine lu (S:={x.S with heap:=x.h.push (pf g f d)}) ⟨_,j,rfl⟩ P7 ?_;have t:=slicePick_size_le vs.toArray lo i st;have u:vs.toArray.size=vs.length:=Kz;refine wpAny_getItem_list_slice (aJ j) ⟨_,w3 (Kt _ rfl) rfl rfl⟩ m r s h0 ?_ (bQ (by (first | walk_at "m" | lia)));exact q _ _ x.S.toks [((x.h.push (pf g f d)).objs.size,lstO (Sf vs.toArray lo i st).toList 0)] (λb o e=>aM _ _ _ _ (aM _ _ _ _ e)) (λp k=>by rw[Kk.mp k];exact ⟨Kt _ rfl,KV (by rw[LK];exact MX _)⟩) (.lst (.head _) (by rw[KN];(first | walk_at "m" | lia)) (mD rs))
def RO (w:Lh) (imm:Imm) (b:Value) (o:Option D):Prop:=MI o (b=.none) λd=>RD w imm b d
theorem RO.mono {a:Imm}{b:Value}{o:Option D}(h:RO w imm b o) (c:∀p∈imm,p∈a):RO w a b o:=by
 cases o with
 | none=>exact h
 | some d=>exact RD.mono c h
noncomputable def wj (o:Option D):Option (Option Int):=MI o (Vr Vs) λd=>d.int?.map Vr
theorem IsPart.of {b:Value}{o:Option D}{i:Option Int}(h:RO w imm b o) (e:wj o=Vr i):IsPart b i:=by
 cases o with
 | none=>obtain rfl:=Kd e;cases h;exact .none
 | some d=>exact aV e λj c a=>RD.onInt (P:=λb=>IsPart b i) h c λt=>a▸.int _ _
noncomputable def iU (b:Array UInt8) (i j:Nat):Array UInt8:=((b.toList.drop i).take (j-i)).toArray
noncomputable def Ja (b:Array UInt8) (i j:Option Int) (k:Option D):Option D:=i.bind λi=>j.bind λj=>if 0<=i/\0<=j/\k.isNone=Vt then Vr (.bytes (iU b i.toNat j.toNat)) else Vs
noncomputable def fN (st:List SObj) (v:V) (a b c:Option D):Option D:=((v.ls? st).bind λl=>(wj a).bind λi=>(wj b).bind λj=>(wj c).bind λk=>(yk l i j k).map .lst).or (v.d?.bind λd=>d.bytes?.bind λx=>(wj a).bind λi=>(wj b).bind λj=>Ja x i j c)
theorem FX (b:Array UInt8) (i j:Nat):KBy.picked b (Vr (i:Int)) (Vr (j:Int))=iU b i j:=by
 rw[KBc.picked_eq];unfold iU;show ((b.toList.drop (clipAt b.size (i:Int))).take (clipAt b.size (j:Int)-clipAt b.size (i:Int))).toArray=_;rw[clipAt_nat,clipAt_nat]
 congr 1
 have c:b.toList.length=b.size:=KN;rcases Ul i b.size with q | q
 ·rw[NG q];rcases Ul j b.size with a | a
  ·rw[NG a]
  ·rw[Tc a,Mi (by rw[M7];walk_at "n"),Mi (by rw[M7];walk_at "n")]
 ·rw[Tc q,O3 (by walk_at "n"),O3 (by walk_at "n"),PG,PG]
theorem AN (b:Array UInt8) (i j:Nat):(iU b i j).size<=b.size:=by
 unfold iU;rw[Kz,Lv,M7,KN];lia
theorem vW {c a:Kf}{b:Array UInt8}{t:PT}{f e:Value}{i j:Int}(l:IsPart f (Vr i)) (m:IsPart e (Vr j)) (n:0<=i) (g:0<=j) (hz:b.size<=16777216):H6 w A x c a f e .none (.bytes b t) (.bytes (iU b i.toNat j.toNat)):=λQ E q=>by
 refine LY ?_ (by size_fits);refine aC λo d=>?_;obtain ⟨i,rfl⟩:=Lj n;obtain ⟨j,rfl⟩:=Lj g;refine d ?_;refine lu (S:={x.S with heap:=x.h.push (pf f e .none)}) (Sx _ b t) Po.lookup ?_;refine getItem_meets (Sx _ _ _) (by decide) Po FB.entry_bytes_getitem (FB.args_bytes_getitem_2 _ _) (KBc.meets_slice2 b t _ l m) (w3 ⟨_,w3 (Kt _ rfl) rfl rfl⟩ ?_ (λp k=>?_))
 ·exact Lr (KBc.size_picked_le b _ _) (bQ hz)
 ·rw[FX];exact q _ _ k [] (aM _ _) (λ_ h=>nomatch h) (RD.bytes _ _ (Lr (AN _ _ _) hz))
theorem vX {us:List Value}{l es:List D}{i j k:Option Int}(rs:RDs w imm us l) (h:yk l i j k=Vr es):k≠Vr 0/\RDs w imm (Sf us.toArray i j k).toList es:=by
 cases i with
 | none=>cases j with
  | none=>cases k<;>exact au h
  | some j=>cases k with
   | some k=>exact au h
   | none=>exact bD h λa h=>⟨nofun,by
    obtain ⟨n,rfl⟩:=Lj a;obtain rfl:=Kd h;rw[slicePick_upto'];exact rs.sub.1 n⟩
 | some i=>cases j with
  | some j=>cases k<;>exact au h
  | none=>cases k with
   | none=>exact bD h λa h=>⟨nofun,by
    obtain ⟨n,rfl⟩:=Lj a;obtain rfl:=Kd h;rw[slicePick_from'];exact rs.sub.2 n⟩
   | some k=>exact bD h λa h=>⟨λe=>a (Kd e),by
    obtain rfl:=Kd h;unfold Sf gi;rw[List.toList_toArray,<- rs.length,Kz]
    simpa using rs.pick _⟩
theorem yj {f a:Kf}{g o n m:Value}{p q r:Option D}(H:HI c st x) (F:RV c.w x.ρ x.imm g v) (G:RO c.w x.imm o p) (I:RO c.w x.imm n q) (E:RO c.w x.imm m r) (h:fN st v p q r=Vr d):H6 c.w A x f a o n m g d:=cL h (λh=>aA h λl u h=>aA h λi s h=>aA h λj y h=>aA h λk T h=>aV h λR h e=>e▸H.ls (P:=λg=>H6 c.w A x f a o n m g (.lst R)) F u λQ z O=>
  (vX O h).elim λM K=>vV Q z (IsPart.of G s) (IsPart.of I y) (IsPart.of E T) M K)
 λh=>aA h λY J h=>aA h λb u h=>aA h λi s h=>aA h λj y h=>aA h λi' L h=>aA h λU S h=>bD h λC h=>RD.onBytes (P:=λg=>H6 c.w A x f a o n m g d) (F.onD J) u λt N=>by
  obtain rfl:=Kd h;cases r with
  | some r=>exact nomatch C.2.2
  | none=>
   obtain rfl:=show m=.none from E
   exact vW (L▸IsPart.of G s) (S▸IsPart.of I y) C.1 C.2.1 N
end
end
section
set_option linter.all false
section
variable {prog:Program}{w:Lh}{A:Lg}{E:Value->Shared->Prop}{s:Shared}
def qa (b:Array UInt8) (i:Nat) (v:Value):Prop:=∃c u,b[i]?=Vr c/\v=.int (c.toNat:Int) u
theorem pK {R:OM->Shared->Prop}(hh:A.handled=Vs) (b:Array UInt8) (t:PT) (S:Addr) (res:Value) (r:Nat) (q:s.heap.get? S=Vr {cls:=.type "list",data:=.seq #[] r}) (G:∀h' tk a h,(∀b o,b≠S->s.heap.get? b=Vr o->h'.get? b=Vr o)->h'.get? S=Vr {cls:=.type "list",dict:=Vs,data:=.seq a h,slots:=#[]}->
   Rl (qa b) a b.size->R (.ok (.ret res)) {s with heap:=h',toks:=tk}) (hn:b.size<=sizeLine) :
  Kq (Kr prog w) A.in1 (L3 (.ref S) (.bytes b t) res) (λl d=>match l with | .done f=>R (.ok f) d | .again h=>h.quiet=Vt/\Mx (Kr prog w) A h R d) (λe d=>R (.error e) d) s:=by
 have p:S≠s.heap.objs.size:=L4 (LD q);have m:S∉[s.heap.objs.size]:=λk=>p (Kk.mp k);unfold L3;refine Kg (Qx (T:="bytes") (v:=.bytes b t) rfl ?_);have y:Ob (.ref S) (.bytes b t)=false:=rfl;have u:(Nl "bytes"==Nl "list")=false:=by decide
 have E:(Nl "bytes"==Nl "tuple")=false:=by decide
 simp only[y,u,E,OK,OA,if_false];refine Kg (S9 ?_);refine Kg (Lp ?_);unfold NV;refine Kg (OB (T:="bytes") (v:=.bytes b t) rfl FB.slot_bytes_len.lookup ?_);generalize j:("bytes.__len__" : String)=id0
 wp_delta
 rw[show splitId id0=Vr ("bytes","__len__") from by refine rq j ?_;decide +kernel];refine rq j ?_;refine Kg (QV (T:="bytes") (v:=.bytes b t) (b:=Vt) rfl (by rw[MS];kernel_rfl) ?_);refine NK (λg=>absurd g (by decide)) (λ_=>?_);refine NK (λ_=>?_) (λg=>absurd (by decide +kernel) g);refine Kg (Qx (T:="bytes") (v:=.bytes b t) rfl ?_);refine Ks ?_;rw[if_neg (by decide +kernel)];refine Ks ⟨Op Ow _,S7 (U0 (A:=A.in1) hh s.heap.objs.size b t).toS hn _ m _ b.size 0 _ _ _ rfl (LE _) ⟨_,w3 (Kt _ rfl) rfl rfl⟩ (KM _ q) (Tm _) λd a h k n i=>?_⟩;rw[Tl k];refine G d.heap d.toks a h (λb z x e=>k.heap b z (λc=>?_) (KM _ e)) n i;rcases Kw.mp c with C | c
 ·exact x C
 ·exact absurd (LD e) (by rw[Kk.mp c];exact MC _)
theorem lm {R:OM->Shared->Prop}(hh:A.handled=Vs) (x:Array UInt8) (t:PT) (S:Addr) (k:s.heap.get? S=Vr {cls:=.type "list",data:=.seq #[]}) (p:∀h' tk a c,(∀b o,b≠S->s.heap.get? b=Vr o->h'.get? b=Vr o)->h'.get? S=Vr {cls:=.type "list",dict:=Vs,data:=.seq a c,slots:=#[]}->
   Rl (qa x) a x.size->R (.ok (.ret .none)) {s with heap:=h',toks:=tk}) (hn:x.size<=sizeLine) :
  Kq (Kr prog w) A.in1 (Mf.«list.__init__» ⟨[.ref S,.bytes x t],[]⟩) (λl g=>match l with | .done f=>R (.ok f) g | .again c=>c.quiet=Vt/\Mx (Kr prog w) A c R g) (λe g=>R (.error e) g) s:=by
 show Kq _ _ (do let old <- Qa (.ref S);Mf.List.listUpdate (.ref S) (λ_=>#[]);letGo old.toList.reverse;L3 (.ref S) (.bytes x t) .none) _ _ s;refine Kg ?_;unfold Qa;refine Kg (PP k rfl (Ks ?_));show Kq _ _ (updateSeq S (λ_=>#[]) >>= λ_=>letGo (#[]:Array Value).toList.reverse >>= λ_=>L3 (.ref S) (.bytes x t) .none) _ _ s;refine Kg (Rf k rfl ?_);have m:=Lq (N4 (λ_=>(#[]:Array Value))) k rfl;have i:∀b o,b≠S->s.heap.get? b=Vr o->(s.heap.update S (N4 (λ_=>(#[]:Array Value)))).get? b=Vr o:=λb o h e=>(L9 _ _ (LV h)).trans e;refine Kg (wpAny_letGo ?_);refine pK (hn:=hn) hh x t S .none _ m λh' tk a c n j d=>?_;exact p h' tk a c (λb o h e=>n b o h (i b o h e)) j d
theorem lp {Q:Value->Shared->Prop}(hh:A.handled=Vs) (x:Array UInt8) (t:PT) (l:∀h' tk a g,(∀b o,s.heap.get? b=Vr o->h'.get? b=Vr o)->
   h'.get? s.heap.objs.size=Vr {cls:=.type "list",dict:=Vs,data:=.seq a g,slots:=#[]}->Rl (qa x) a x.size->Q (.ref s.heap.objs.size) {s with heap:=h',toks:=tk}) (hn:x.size<=sizeLine) :
  Kq (Kr prog w) A (call (.type "list") [.bytes x t]) Q E s:=by
 refine callType_codes (Q₁:=λd i=>d=.ref s.heap.objs.size/\i={s with heap:=s.heap.push {cls:=.type "list",data:=.seq #[]}}) PySem.F.called_list (PySem.F.typeCall_list_1 _) PySem.F.entry_list_init (code_list_new _ ⟨rfl,rfl⟩) λd i k=>?_;obtain ⟨rfl,rfl⟩:=k;have h:(s.heap.push {cls:=.type "list",data:=.seq #[]}).get? s.heap.objs.size=Vr {cls:=.type "list",data:=.seq #[]}:=Kt _ rfl;refine w3 ⟨_,h,rfl⟩ (PySem.F.args_list_init_2 _ _) (lm (A:=A.in1) (hn:=hn) hh x t _ h λh' tk a g j f c=>?_);exact ⟨rfl,l h' tk a g (λb o e=>j b o (L4 (LD e)) (KM _ e)) f c⟩
theorem nG (l:Addr) (items:Array Value) (a:(items.size:Int)<2 ^ 63):Meets (Mf.«bool.__new__» ⟨[.type "bool",.ref l],[]⟩) (λ_ R s=>s.heap.IsList l items/\R (.ok (.ret (.bool (!items.isEmpty)))) {s with toks:=s.toks+1+1}):=Meets.of_wp λprog w A R s hs=>by
  obtain ⟨b,hs⟩:=hs;obtain ⟨c,g,d,e,h⟩:=s;have f:=PySem.F.conv_sub_bool
  repeat (any_goals (first | assumption | (with_reducible refine TR b a ?_) | wp_step))
  all_goals first | exact ⟨_,rfl,hs⟩ | exact hs | skip
end
section
variable {w:Lh}{A:Lg}{c:Cn}{x:X}{st:List SObj}{a b:Value}{d e o:D}{imm:Imm}{u v:V}
theorem gq {vs:List Value}{ds:List D}(r:RDs w imm vs ds):∀{ns:List Int},cR ds=Vr ns->Nt vs ns:=r.ind (M:=λvs ds=>∀{ns:List Int},cR ds=Vr ns->Nt vs ns) (λ{_} h=>Kd h▸.nil) λ{v vs d ds} h _ a {ns} e=>aA e λi c e=>aV e λm b e=>e▸RD.onInt (P:=λv=>Nt (v::vs) (i::m)) h c λt=>.cons _ _ (a b)
theorem jS:∀{vs:List Value}{ns:List Int},Nt vs ns->RDs w imm vs (ns.map .int)
 | _,_,.nil=>.nil
 | _,_,.cons n t h=>.cons (.int n t) (jS h)
theorem eU:∀{vs:List Value}{ns:List Int},Nt vs ns->vs.length=ns.length
 | _,_,.nil=>rfl
 | _,_,.cons n t h=>congrArg Np (eU h)
theorem jl (lo:Int):∀(n j:Nat),j<n->(eE lo n)[j]?=Vr (.int (lo+j))
 | 0,j,h=>absurd h (L8 _)
 | n+1,0,h=>by rw[show lo+((0:Nat):Int)=lo from RJ _];rfl
 | n+1,j+1,h=>(jl (lo+1) n j (Nat.lt_of_succ_lt_succ h)).trans (by congr 2;lia)
theorem dP (lo:Int):∀n,(eE lo n).length=n
 | 0=>rfl
 | n+1=>congrArg Np (dP (lo+1) n)
theorem RDs.of_get:∀{vs:List Value}{ds:List D},vs.length=ds.length->(∀(j:Nat) (v:Value) (d:D),vs[j]?=Vr v->ds[j]?=Vr d->RD w imm v d)->RDs w imm vs ds
 | [],[],_,_=>.nil
 | v::vs,d::ds,hl,h=>.cons (h 0 v d rfl rfl) (RDs.of_get (Nj hl) λj v d a b=>h (j+1) v d a b)
 | [],_::_,hl,_=>nomatch hl
 | _::_,[],hl,_=>nomatch hl
theorem Dl {b:Array UInt8}{acc:Array Value}(h:Rl (qa b) acc b.size):RDs w imm acc.toList (il b):=.of_get (by have:=h.1;simp[il];walk_at "n") λj v d c a=>by
 obtain ⟨f,u,e,rfl⟩:=h.2 j v (by rw[<- Lk];exact c);unfold il at a;rw[Kv,Lk,e] at a;refine rq (Kd a) ?_;exact .int _ _
theorem ji {lo a:Int}(h:lo<=a):PX lo a 1=((a-lo).toNat:Int):=by
 unfold PX;rw[if_pos (by decide)];split<;>lia
theorem fits {i:Int}(a:0<=i) (b:i<=1000000):PA i=true:=by
 unfold PA;rw[Qg,decide_eq_true_eq,decide_eq_true_eq];lia
theorem kS {lo a:Int}(h0:0<=lo) (h:lo<=a) (b:a<=1000):Qt lo a 1=true:=by
 unfold Qt
 rewrite [ji h,fits h0 (by lia),fits (i:=a) (by lia) (by lia),fits (i:=1) (by decide) (by decide),fits (i:=((a-lo).toNat:Int)) (by lia) (by lia),if_pos (by decide),fits (by lia) (by lia)];simp
theorem yF {lo:Int}{n:Nat}{acc:Array Value}(h:Rl (λi v=>∃t,v=.int (lo+i*1) t) acc n):RDs w imm acc.toList (eE lo n):=.of_get (by rw[dP,KN];exact h.1) λj v d c a=>by
 obtain ⟨t,rfl⟩:=h.2 j v (by rw[<- Lk];exact c);have b:=(Kh.mp a).1;rw[dP] at b;rw[jl _ _ _ b] at a;refine rq (Kd a) ?_;rw[Uw];exact .int _ _
theorem Cy (H:HI c st x) (hh:A.handled=Vs) (s:RD c.w x.imm a d) (h:G1 d=Vr o):fT c.w A x (call (.type "list") [a]) o:=cL h (λh=>aA h λp j h=>bD h λf h=>et h <| RD.onRng (P:=λa=>fT c.w A x (call (.type "list") [a]) _) s j λm=>.grown λQ E q=>call_list_range (n:=(p.2-p.1).toNat) hh (H.immIn _ m) (kS f.1 f.2.1 f.2.2) (ji f.2.1) (by (first | walk_at "m" | lia)) λg i b l k r e=>
   q g i _ (lstO b.toList l) k (bF _) (by rw[r,Pn]) (.lst (.head _) (by have:=e.1;rw[KN];(first | walk_at "m" | lia)) (yF e)))
 λh=>aA h λu j h=>bD h λf h=>et h <| s.bytesL (T:=λa=>call (.type "list") [a]) j λt z=>.grown λQ E q=>lp hh u t (λg i b l k r e=>
   q g i _ (lstO b.toList l) k (bF _) (by rw[r,Pn]) (.lst (.head _) (by have:=e.1;rw[KN];(first | walk_at "m" | lia)) (Dl e))) (bQ (by (first | walk_at "m" | lia)))
end
end
end
section
section
set_option linter.all false
theorem GA:Oh (.type "ValueError") "__class__" = pure (Vr (.builtin "object.__class__")):=by rw[MZ,Mc];kernel_rfl
theorem Ey:Ub (.type "ValueError") (.type (".".intercalate ("object.__class__".cutAt '.').dropLast))=pure true:=by rw[PySem.F.owner_object_class,MS];kernel_rfl
section
variable {prog:Program}{w:Lh}{A:Lg}{E:Value->Shared->Prop}{h:Heap}{g:Array Ta}{d:Rz}{t:Nat}{os:OsState}{a:Addr}{o:Obj}
theorem EB {R:OM->Shared->Prop}(e:h.get? a=Vr o) (c:o.cls=.type "ValueError") (f:R (.ok (.ret (.type "ValueError"))) ⟨h,g,d,t,os⟩):Mx (Kr prog w) A (.call (.builtin "getset_descriptor.__get__") ⟨[.builtin "object.__class__",.ref a,.type "ValueError"],[]⟩) R ⟨h,g,d,t,os⟩:=by
 have j:(⟨h,g,d,t,os⟩:Shared).TypeIs (.ref a) "ValueError":=⟨_,e,c⟩
 have b:(⟨h,g,d,t,os⟩:Shared).TypeIs (.builtin "object.__class__") "getset_descriptor":=N9;have i:=Ey;refine Nz Pj.plain PySem.F.entry_gs_get (Pj.check _ _ _ _ _ _ _ _ b (PySem.F.args_gs_get _ _ _) ?_)
 repeat (any_goals (first | assumption | wp_step))
 refine ⟨Sk _ (by decide +kernel),M0 PySem.F.entry_object_class ?_⟩
 repeat (any_goals (first | assumption | wp_step))
theorem xN {tk:PT}{Q:Fin->Shared->Prop}(c:h.get? a=Vr o) (b:o.cls=.type "ValueError") (j:Q (.done (.ret (.type "ValueError"))) ⟨h,g,d,t,os⟩):Kq (Kr prog w) A (Mf.«object.__getattribute__» ⟨[.ref a,.str "__class__" tk],[]⟩) Q E ⟨h,g,d,t,os⟩:=by
 have k:(⟨h,g,d,t,os⟩:Shared).TypeIs (.ref a) "ValueError":=⟨_,c,b⟩
 have e:(⟨h,g,d,t,os⟩:Shared).TypeIs (.builtin "object.__class__") "getset_descriptor":=N9;have i:=GA;have l:=N9;have m:=Pj.lookup;have f:=PySem.F.slot_gs_set.lookup
 repeat (any_goals (first | assumption | wp_step))
 refine EB c b ?_
 repeat (any_goals (first | assumption | wp_step))
theorem GB {tk:PT}{Q:Value->Shared->Prop}(c:h.get? a=Vr o) (b:o.cls=.type "ValueError") (f:Q (.type "ValueError") ⟨h,g,d,t,os⟩):Kq (Kr prog w) A (getAttrBy (.ref a) (.str "__class__" tk) Vu) Q E ⟨h,g,d,t,os⟩:=by
 have j:(⟨h,g,d,t,os⟩:Shared).TypeIs (.ref a) "ValueError":=⟨_,c,b⟩
 have e:=Ng.ga.lookup;have i:=Ng.ga.bind (.ref a)
 repeat (any_goals (first | assumption | wp_step))
 refine Nz Ng.ga.plain PySem.F.entry_bexc_ga (Ng.ga.check _ _ _ _ _ _ _ _ (show (⟨h,g,d,t,os⟩:Shared).TypeIs (.ref a) "ValueError" from ⟨_,c,b⟩) (PySem.F.args_bexc_ga _ _) (xN c b ?_))
 repeat (any_goals (first | assumption | wp_step))
theorem EC {prog:Program}{w:Lh}{A:Lg}{E:Value->Shared->Prop}{Q:Option Value->Shared->Prop}{s:Shared}(p:∃o,s.heap.get? a=Vr o/\o.cls=.type "ValueError") (e:Q (Vr (.type "ValueError")) {s with toks:=s.toks+1}):Kq (Kr prog w) A (getAttr? (.ref a) "__class__") Q E s:=by
 obtain ⟨o,c,b⟩:=p;obtain ⟨h,g,d,t,os⟩:=s;unfold getAttr? getAttrBy?
 repeat (any_goals (first | assumption | with_reducible apply GB c b | wp_step))
end
theorem Ez (P:LF):isNotIn (KK P) "ValueError" cycleC=true:=rfl
theorem EA {c:Cn}{A:Lg}{x:X}{st:List SObj}{a:Addr}{o:Obj}(B:Bs c) (H:HI c st x) (d:x.h.get? a=Vr o) (b:o.cls=.type "ValueError"):fT c.w A x (call (.builtin "isinstance") [.ref a,.ref cycleC]) (.bool Vu):=.tok (.bool _) λQ E q=>isn_call (P:=λh=>∃o,h.get? a=Vr o/\o.cls=.type "ValueError") (B.kin H.base) (λM=>b▸(S8 d).andThen .now) (Ez _) (λe=>nomatch e) ⟨o,d,b⟩ (λp h=>EC p h) q
end
end
section
local macro_rules (kind:=tacticKernel_rfl)|s=>Mine.Internal.mK s
section
set_option linter.all false
section
variable {w:Lh}{A:Lg}{c:Cn}{x:X}{st:List SObj}{a b:Value}{d e o:D}{imm:Imm}{u v:V}
theorem x9 {S:Shared}{l:Addr}{vs:List Value}{ns:List Int}{Q:Value->Shared->Prop}{E:Value->Shared->Prop}(hh:A.handled=Vs) (b:S.heap.IsList l vs.toArray) (f:Nt vs ns) (h:∀h' tk a,Kp S.heap h'->Q (.int ns.sum a) {S with heap:=h',toks:=tk}):Kq (Kr PR w) A (call (.builtin "sum") [.ref l]) Q E S:=by
 obtain ⟨d,e⟩:=f.allInts.items;rw[e] at b;refine sum_intListG hh b λh' tk a g=>?_;have i:preSum (numAt d) d.size=ns.sum:=by
  rw[preSum_eq,Mi (by simp)];have c:numsOf vs.toArray.toList=ns:=f.numsOf;rw[e,nums_intItems] at c;rw[<- c]
 rw[i];exact h h' tk a g
theorem jU (k:Int):∀l,(iF k l).Perm (k::l):=@lr _ _ (.refl _) (λx r a=>by
  rw[nZ];exact if h:k<=x then (if_pos h)▸.refl _ else (if_neg h)▸(Sc x (a)).trans (Sb k x r))
theorem lR:∀l,(fe l).Perm l:=@lr _ _ (.refl _) (λx r a=>(jU x (fe r)).trans (Sc x (a)))
theorem mz {k:Int}:∀{l:List Int},l.Pairwise (·<=·)->(iF k l).Pairwise (·<=·):=@lr _ _ (@λ_=>Md _ _) (λx r d=>(@λh=>by
  have c:=Oz.mp h;rw[nZ];by_cases a:k<=x
  ·rw[if_pos a];exact Oz.mpr ⟨λy b=>(Kw.mp b).elim (λe=>e▸a) λb=>Int.le_trans a (c.1 y b),h⟩
  ·rw[if_neg a];exact Oz.mpr ⟨λy b=>(Kw.mp ((jU k r).mem_iff.mp b)).elim (λe=>e▸Uq (UW.mp a)) (c.1 y),d c.2⟩))
theorem pe:∀l:List Int,(fe l).Pairwise (·<=·):=@lr _ _ (.nil) (λx r a=>mz (a))
theorem lS {l m:List Int}(b:m.Perm l) (hs:m.Pairwise (·<=·)):m=fe l:=List.Perm.eq_of_pairwise (le:=(·<=·)) (λ_ _ _ _ a c=>Int.le_antisymm a c) hs (pe l) (b.trans (lR l).symm)
theorem nQ {w:Lh}{p:Value}{ns:List Int}(u:ns.length<64) (y:∀(Q:List Value->Shared->Prop) (E:Value->Shared->Prop),(∀h' tk vs c,Kp x.h h'->Nt vs c->c.Perm ns->Q vs {x.S with heap:=h',toks:=tk})->Kq (Kr PR w) A.in1 (T0 p) Q E x.S):fT w A x (call (.builtin "sorted") [p]) (.lst ((fe ns).map .int)):=.grown λQ E q=>by
 refine OE Vq Vc Vd (Ve _) ?_;unfold Mf.«sorted»;refine Kg (m:=checkCount "sorted" 1 1 _) (Ks ?_);refine Kg (y _ _ λh' tk vs c k g f=>?_);have z:=eU g;have r:=f.length_eq;refine Kg (UX (items:=vs) ?_ (bQ (by lia)));have a:(h'.push (TG "list" vs.toArray 0)).get? h'.objs.size=Vr (TG "list" vs.toArray 0):=Kt _ rfl;refine Kg (Lp (MR US ⟨_,a,rfl⟩ Uu (UT a g (by lia) λout s i j v=>⟨_,rfl,?_⟩) (UU _)));obtain ⟨e,t⟩:=U2 (out:=out) a;have d:∀b o,x.h.get? b=Vr o->b<h'.objs.size:=λb o e=>LD (k b o e);refine Ks ⟨_,rfl,q _ tk h'.objs.size (lstO out.toList e) (λb o l=>?_) ?_ (by rw[t]) (.lst (.head _) ?_ ?_)⟩
 ·have n:=d b o l;rw[UR (L4 n) (by rw[LK];exact Ml n)];exact aM _ _ _ _ (k b o l)
 ·cases e:x.h.get? h'.objs.size with
  | none=>rfl
  | some o=>exact absurd (d _ o e) (MC _)
 ·have:=eU i;have:=j.length_eq;lia
 ·rw[<- lS (j.trans f) v];exact jS i
theorem wC {kvs:List (Int×Value)}{ds:List (Int×D)}(rs:RKs c.w imm kvs ds):∀(l:List Value),l.length=kvs.length->(∀(j:Nat) v,l[j]?=Vr v->∃k x,kvs[j]?=Vr (k,x)/\(Ld PR c.w).is k v=Vt)->Nt l (ds.map (·.1)):=rs.ind (M:=λkvs ds=>∀(l:List Value),l.length=kvs.length->(∀(j:Nat) v,l[j]?=Vr v->∃k x,kvs[j]?=Vr (k,x)/\(Ld PR c.w).is k v=Vt)->Nt l (ds.map (·.1))) (λl a _=>LW a▸.nil) λ{k v i d ds} _ _ g l a h=>by
   cases l with
   | nil=>cases a
   | cons u l=>
    refine aC λm b=>?_;obtain ⟨o,n,e,f⟩:=h 0 u rfl;cases Kd e;obtain ⟨t,rfl⟩:=PS f;refine b ?_;exact .cons _ _ (g l (Nj a) λj v e=>h (j+1) v e)
theorem yh (H:HI c st x) (hh:A.handled=Vs) (t:RD c.w x.imm a d) (h:DJ d=Vr o):fT c.w A x (call (.builtin "sorted") [a]) o:=cL h (λh=>aA h λl f h=>aA h λJ K h=>bD h λr h=>et h <| t.tupL (T:=λa=>call (.builtin "sorted") [a]) f λ{p I n} m z F=>by
  exact nQ r λQ E q=>TU p (.inr rfl) (H.immIn _ m) rfl rfl (λb k=>q b x.S.toks I J k (gq F K) (.refl _)) (bQ (by rw[Kz];exact z)))
 λh=>aA h λkvs f h=>bD h λr h=>et h <| RD.onDct (P:=λa=>fT c.w A x (call (.builtin "sorted") [a]) _) t f λ{p o u} m C hs y=>by
  obtain ⟨ep,i⟩:=(LO.mpr ⟨o,H.immIn _ m,C⟩:x.h.DictOf (Ld PR c.w) p u).dictAt;have L:=y.rk.length;exact nQ (by rw[Ke];exact r) λQ E q=>kdu_collect (A:=A.in1) (kdl_dict (knd:=Ld PR c.w) (kvs:=u) (ep:=ep) hs) hh i (bQ (by lia)) λb G g k s=>q b G _ _ k (wC y g.toList (by rw[KN];exact s.1) λj v e=>s.2 j v (by rw[<- Lk];exact e)) (.refl _)
theorem Fs {n:Nat}(H:HI c st x) (f:RV c.w x.ρ x.imm a v) (h:G4 st v=Vr n):fT c.w A x (call (.builtin "len") [a]) (.int n):=cL h (λh=>aV h λl b h=>h▸H.lsL (T:=λa=>call (.builtin "len") [a]) f b λi z r=>.tok (RD.int _ _) λQ E q=>len_list (aJ i) (qP z) (by rw[Kz,r.length];exact q)) λh=>aA h λd g h=>have e:=f.onD g
  cL h (λh=>aV h λl b h=>h▸e.tupL (T:=λa=>call (.builtin "len") [a]) b λm z r=>.tok (RD.int _ _) λQ E q=>PyProof.Rows.len_tuple (my (H.immIn _ m)) (qP z) (by rw[Kz,r.length];exact q))
  λh=>cL h (λh=>aV h λl b h=>h▸e.bytesL (T:=λa=>call (.builtin "len") [a]) b λt z=>.tok (RD.int _ _) λQ E q=>len_bytes (by walk_at "n") q)
  λh=>aV h λl b h=>h▸e.strL (T:=λa=>call (.builtin "len") [a]) b λt z=>.tok (RD.int _ _) λQ E q=>PyProof.Rows.len_str (by simp only[UP];walk_at "n") q
theorem wG {g:Value}{r:Bool}(B:Bs c) (H:HI c st x) (f:RV c.w x.ρ x.imm a v) (s:RD c.w x.imm g d) (h:pD st v d=Vr r):fT c.w A x (call (.builtin "isinstance") [a,g]) (.bool r):=cL h (λh=>aA h λb i h=>aA h λK j h=>have f:=f.onD j
  RD.onBi (P:=λg=>fT c.w A x (call (.builtin "isinstance") [a,g]) (.bool r)) s i <| by
   cases b<;>first
    | exact au h
    | exact aV h λl e h=>h▸f.lstL (T:=λa=>call (.builtin "isinstance") [a,.type "list"]) e λm z u=>.same (.bool _) λQ E q=>PySem.IsiPair.list_list (H.immIn _ m) rfl q
    | exact aV h λl e h=>h▸f.tupL (T:=λa=>call (.builtin "isinstance") [a,.type "tuple"]) e λm z u=>.same (.bool _) λQ E q=>PySem.IsiPair.tuple_tuple (H.immIn _ m) rfl q
    | exact aV h λl e h=>h▸f.bytesL (T:=λa=>call (.builtin "isinstance") [a,.type "bytes"]) e λt z=>.stay λQ E q=>call_isinstance (isinstance_true (Tx:="bytes") PySem.F.isi_meta_bytes PySem.F.isi_self_bytes) ⟨rfl,q _ x.h _ (λ_ _ e=>e) (RD.bool _)⟩)
 λh=>aA h λp i h=>aA h λL j h=>aA h λb y h=>bD h λG h=>RD.onGbl (P:=λg=>fT c.w A x (call (.builtin "isinstance") [a,g]) (.bool r)) s i <| by
   obtain ⟨rfl,hb⟩:=G;obtain rfl:b=.valueError:=by cases b<;>first | rfl | cases hb
   refine rq (Kd h) ?_;refine H.on (P:=λa=>fT c.w A x (call (.builtin "isinstance") [a,.ref cycleC]) (.bool Vu)) f j λ{l a I o} _ k C=>?_;obtain rfl:=Ad C;obtain ⟨o,J,t,M,n,rfl,hc,_⟩:=k.foot;exact EA B H (H.ledIn _ (aD k.led (.head _))) (hc.trans (by rw[kh y];rfl))
end
end
section
set_option linter.all false
abbrev xu (l:List Nat):Prop:=l.Pairwise (· < ·)
section
variable {xs:Array Nat}{j:Nat}
theorem lW (h:xu xs.toList){m n:Nat}(a:m<n) (hn:n<xs.size):xs[m]'(O6 a hn)<xs[n]:=by
 have:=Q2.mp h m n (by simpa using O6 a hn) (by simpa using hn) a
 simpa using this
structure Bel (xs:Array Nat) (j r:Nat):Prop where
 le:r<=xs.size
 lo:∀m (h:m<xs.size),m<r->xs[m]<j
 hi:∀m (h:m<xs.size),r<=m->j<=xs[m]
theorem Gb (h:xu xs.toList):∀(b lo hi:Nat),hi-lo<=b->lo<=hi->hi<=xs.size->(∀m (h:m<xs.size),m<lo->xs[m]<j)->(∀m (h:m<xs.size),hi<=m->j<=xs[m])->Bel xs j (M3 xs j b lo hi):=@nr _ (@λlo hi o p f g e=>by
  obtain rfl:lo=hi:=by (first | walk_at "m" | lia)
  exact ⟨f,g,e⟩)
 (λb k=>(@λlo hi o p f g e=>by
  rw[show M3 xs j (b+1) lo hi=if lo<hi then (if xs.getD ((lo+hi) / 2) j<j then M3 xs j b ((lo+hi) / 2+1) hi else M3 xs j b lo ((lo+hi) / 2)) else lo from rfl];by_cases q:lo<hi
  ·rw[if_pos q];have i:(lo+hi) / 2<xs.size:=by (first | walk_at "m" | lia)
   have r:xs.getD ((lo+hi) / 2) j=xs[(lo+hi) / 2]:=by simp[i]
   show Bel xs j (if xs.getD ((lo+hi) / 2) j<j then M3 xs j b ((lo+hi) / 2+1) hi else M3 xs j b lo ((lo+hi) / 2));rw[r];split
   ·rename_i c;refine k _ _ (by (first | walk_at "m" | lia)) (by (first | walk_at "m" | lia)) f (λm d l=>?_) e;rcases P8 m ((lo+hi) / 2) with a | a
    ·exact O6 (lW h a i) c
    ·obtain rfl:m=(lo+hi) / 2:=by (first | walk_at "m" | lia)
     exact c
   ·rename_i c;refine k _ _ (by (first | walk_at "m" | lia)) (by (first | walk_at "m" | lia)) (by (first | walk_at "m" | lia)) g λm d n=>?_;rcases P8 ((lo+hi) / 2) m with a | a
    ·have:=lW h a d;(first | walk_at "m" | lia)
    ·obtain rfl:m=(lo+hi) / 2:=by (first | walk_at "m" | lia)
     (first | walk_at "m" | lia)
  ·rw[if_neg q];obtain rfl:lo=hi:=by (first | walk_at "m" | lia)
   exact ⟨f,g,e⟩))
theorem no (h:xu xs.toList) (j:Nat):Bel xs j (KX xs j):=Gb h _ _ _ (by lia) (LE _) (KL _) (λm _ q=>absurd q (L8 _)) λm h q=>absurd h (by lia)
theorem nj {r r':Nat}(a:Bel xs j r) (b:Bel xs j r'):r=r':=by
 rcases Nat.lt_trichotomy r r' with q | q | q
 ·have h:r<xs.size:=L6 q b.le;have:=b.lo r h q;have:=a.hi r h (KL _);lia
 ·exact q
 ·have h:r'<xs.size:=L6 q a.le;have:=a.lo r' h q;have:=b.hi r' h (KL _);lia
theorem ua (h:xu xs.toList):KX xs 0=0:=nj (no h 0) ⟨LE _,λm _ q=>absurd q (L8 _),λm _ _=>LE _⟩
theorem ub (h:xu xs.toList){i:Nat}(c:i<xs.size):KX xs (xs[i]+1)=i+1:=nj (no h _) ⟨c,λm b q=>by
  rcases P8 m i with a | a
  ·have:=lW h a c;walk_at "n"
  ·obtain rfl:m=i:=by walk_at "n"
   walk_at "n",λm b q=>lW h q b⟩
theorem sB (h:xu xs.toList) (hn:xs[KX xs j]?≠Vr j):xu (Py xs (KX xs j) j).toList:=by
 have b:=no h j;have e:(Py xs (KX xs j) j).toList=xs.toList.take (KX xs j)++j::xs.toList.drop (KX xs j):=by
  unfold Py;simp[Array.toList_extract,List.extract];exact Mi (by simp)
 rw[e];refine List.pairwise_append.mpr (w3 (h.sublist (PY _ _)) (Oz.mpr ⟨λy g=>?_,h.sublist (SL _ _)⟩) (λx z y g=>?_))
 ·obtain ⟨m,d⟩:=Lc.mp g;rw[NH] at d;obtain ⟨l,k⟩:=Kh.mp d;have c:KX xs j+m<xs.size:=by simpa using l
  have p:=b.hi _ c (by lia);have w:xs[KX xs j+m]=y:=by simpa using k
  rcases P8 j y with a | a
  ·exact a
  ·exfalso;cases m with
   | zero=>
    have o:KX xs j<xs.size:=c;exact hn ((Li o).trans (congrArg Vr ((show xs[KX xs j]=y from w).trans (by lia))))
   | succ m=>
    have o:KX xs j<xs.size:=by lia
    have:=lW h (m:=KX xs j) (n:=KX xs j+(m+1)) (by lia) c;have:=b.hi _ o (KL _);lia
 ·obtain ⟨m,d⟩:=Lc.mp z;have v:=(Kh.mp d).1;rw[Lv] at v;rw[MY (by lia)] at d;obtain ⟨l,k⟩:=Kh.mp d;have c:m<xs.size:=by simpa using l
  have q:xs[m]=x:=by simpa using k
  have s:=b.lo m c (by lia);rcases Kw.mp g with rfl | g
  ·lia
  ·obtain ⟨n,f⟩:=Lc.mp g;rw[NH] at f;obtain ⟨t,u⟩:=Kh.mp f;have i:KX xs j+n<xs.size:=by simpa using t
   have r:xs[KX xs j+n]=y:=by simpa using u
   have:=b.hi _ i (by lia);lia
end
structure Tb (t:Mz) (L:Bool):Prop where
 ris:xu t.place.toList
 dum:t.dummies=#[]
 led:t.led=L
section
variable {t:Mz}{L:Bool}
theorem Tb.slot (T:Tb t L) (j:Nat):t.slot j≠.dummy/\(t.slot j=.empty->t.place[KX t.place j]?≠Vr j):=by
 unfold Mz.slot;rw[T.dum];have a:Pz #[] j=false:=by
  unfold Pz;rw[show ((#[]:Array Nat)[KX #[] j]?)=Vs by simp];rfl
 rw[a];dsimp only;split
 ·exact ⟨nofun,nofun⟩
 ·rename_i h;exact ⟨nofun,λ_ e=>h (by rw[e];simp)⟩
theorem Tb.probe (T:Tb t L){f:Nat->Int}{h:Int}:∀(a:Nat){p:Mz.Probe}{j:Nat}{d:Option Nat},p.dummy=Vs->Nr t f h a p=Vr (.empty j d)->d=Vs/\t.slot j=.empty
 | 0,_,_,_,_,e=>nomatch e
 | a+1,p,j,d,c,e=>by
  have e:Mz.Slot.casesOn (motive:=λ_=>Option SN) (t.slot p.j) (Vr (.empty p.j p.dummy)) (Nr t f h a (t.advance {p with dummy:=Vr p.j})) (λi=>if f i==h then Vr (.candidate p.j i (t.advance p)) else Nr t f h a (t.advance p))=Vr (.empty j d):=(show _=Nr t f h (a+1) p from by kernel_rfl).trans e;have b:(t.advance p).dummy=none:=by
   unfold Mz.advance;split
   ·exact c
   ·exact c
  cases q:t.slot p.j with
  | empty=>
   rw[q] at e;obtain ⟨rfl,rfl⟩:=SN.empty.inj (Kd e);exact ⟨c,q⟩
  | dummy=>exact absurd q (T.slot _).1
  | live i=>
   rw[q] at e;have e:(if f i==h then Vr (.candidate p.j i (t.advance p)) else Nr t f h a (t.advance p))=Vr (.empty j d):=e;split at e
   ·cases e
   ·exact T.probe a b e
theorem Tb.free (T:Tb t L){h:Int}{j:Nat}{b:Bool}(e:t.freeSlot h=Vr (j,b)):t.place[KX t.place j]?≠Vr j:=by
 unfold Mz.freeSlot at e;split at e
 ·rename_i a d q;unfold Vp at q;obtain ⟨rfl,h2⟩:=T.probe _ rfl q;cases e;exact (T.slot _).2 h2
 ·cases e
theorem wc (n:Nat):xu (Array.range n).toList:=by rw[Array.toList_range];exact NN
theorem Tb.standIn (T:Tb t L) (n:Nat):Tb (t.standIn n) L:=⟨wc n,rfl,T.led⟩
theorem Tb.orStandIn (T:Tb t L) (n:Nat):Tb (t.orStandIn n) L:=by
 unfold Mz.orStandIn;split
 ·exact T
 ·exact T.standIn n
theorem Tb.put (T:Tb t L){j:Nat}(hn:t.place[KX t.place j]?≠Vr j):Tb (t.put j).1 L:=by
 have a:Pz t.dummies j=false:=by
  rw[T.dum];unfold Pz;rw[show ((#[]:Array Nat)[KX #[] j]?)=Vs by simp];rfl
 unfold Mz.put;rw[a];exact ⟨sB T.ris hn,T.dum,T.led⟩
theorem Tb.layNew (T:Tb t L) (es:Array (Int×Value)) (h:Int) (x:Value):Tb (UG t es h x).2.1 L:=by
 unfold PySem.layNew;split
 ·rename_i a b q;exact (T.put (T.free q)).orStandIn _
 ·exact T.standIn _
theorem Tb.laid {c b d:Nat}{led plain:Bool}{hs:Array Int}{h:Mz}{o:Array Nat}(e:SB c b d led plain hs=Vr (h,o)):Tb h led:=by
 unfold SB at e;cases q:Mz.layClean c hs with
 | none=>rw[q] at e;cases e
 | some owner=>
  rw[q] at e;cases e;refine ⟨?_,rfl,rfl⟩;show xu (Nd _ (List.filterMap _ _));rw[Sm];have f:∀(l:List Nat),xu l->xu (l.filterMap λj=>KJ (·.1) ((owner.getD j Vs).map (j,·))):=λl i=>by
   have:∀(l:List Nat),(l.filterMap λj=>KJ (·.1) ((owner.getD j Vs).map (j,·))).Sublist l:=λl=>by
    induction l with
    | nil=>exact .slnil
    | cons a l g=>
     rw[K0];cases owner.getD a Vs with
     | none=>exact .cons _ g
     | some v=>exact .cons_cons _ g
   exact i.sublist (this l)
  exact f _ NN
theorem Tb.relayAll (T:Tb t L) (es:Array (Int×Value)) (n:Nat):Tb (Qz t es n).2.1 L:=by
 unfold PySem.relayAll;split
 ·rename_i a o q;dsimp only;split
  ·exact T.led▸Tb.laid q
  ·exact T.standIn _
 ·exact T.standIn _
theorem Tb.fresh (L:Bool):Tb (.fresh 0 0 L) L:=⟨.nil,rfl,rfl⟩
theorem Tb.off (T:Tb t L):Tb {t with plain:=Vu} L:=⟨T.ris,T.dum,T.led⟩
end
end
section
set_option linter.all false
noncomputable def CO:Value->Int
 | .int i _=>i
 | _=>0
structure Es (w:Lh) (L:Bool) (es:Array (Int×Value)) (t:Mz) (σ:List Int):Prop where
 el:ElemsOf (Ld PR w) es.toList
 perm:(es.toList.map λe=>CO e.2).Perm σ
 fits:t.fits es.size=Vt
 tb:Tb t L
 len:σ.length<=1000
structure SetAt (w:Lh) (L:Bool) (h:Heap) (a:Addr) (σ:List Int):Prop where
 at_:∃o es ep t,h.get? a=Vr o/\o.ExactSet/\o.data=.set es ep t/\Es w L es t σ
section
variable {w:Lh}{A:Lg}{E:Value->Shared->Prop}{s:Shared}{L:Bool}{es es':Array (Int×Value)}{t t':Mz}{σ:List Int}{a:Addr}{k:Int}{u:PT}{o:Obj}{ep:Nat}
theorem Es.size (G:Es w L es t σ):es.size=σ.length:=by have:=G.perm.length_eq;simpa using this
theorem Es.int (G:Es w L es t σ){e:Int×Value}(b:e∈es.toList):∃i u,e.2=.int i u:=by
 refine aC λd a=>?_;obtain ⟨⟨k,c,_⟩,_⟩:=G.el e b;obtain ⟨u,q⟩:=PS c;refine a ?_;exact y2 k u q
theorem zC {v:Value}{i:Int}{u:PT}(h:v=.int i u) (k:Int):(Ld PR w).is k v=Vt<->k=i:=by
 refine rp h ?_;have:=KeyKind.is_eq_decide (knd:=Ld PR w) (MF PR w i u) k;rw[this,decide_eq_true_eq]
theorem Es.mem (G:Es w L es t σ) (k:Int):k∈σ<->∃e∈es.toList,(Ld PR w).is k e.2=true:=by
 rw[<- G.perm.mem_iff,Ku];constructor
 ·rintro ⟨e,a,rfl⟩
  obtain ⟨i,u,q⟩:=G.int a;exact ⟨e,a,(zC q _).mpr (by rw[q];rfl)⟩
 ·rintro ⟨e,a,b⟩
  obtain ⟨i,u,q⟩:=G.int a;exact ⟨e,a,by rw[q];exact ((zC q k).mp b).symm⟩
theorem Es.move (G:Es w L es t σ) (p:es'.toList.Perm es.toList) (f:t'.fits es'.size=Vt) (T:Tb t' L):Es w L es' t' σ:=⟨G.el.perm p,(p.map _).trans G.perm,f,T,G.len⟩
theorem Es.store {Q:Unit->Shared->Prop}(e:s.heap.get? a=Vr o) (g:o.ExactSet) (b:o.data=.set es ep t) (G:Es w L es' t' σ) (h:∀h' d c,MV a s.heap h'->h'.get? a=Vr d->d.ExactSet->d.data=.set es' c t'->Q () {s with heap:=h'}):Kq (Kr PR w) A (UB a es' t') Q E s:=by
 refine wpAny_storeSet_of e b ?_ (by have:=G.size;have:=G.len;rw[Ou];walk_at "n");have f:=Lq (UQ es' t') e (by rw[putSet_of es' t' b];rfl);rw[putSet_of es' t' b] at f;exact h _ _ _ (LX s.heap a (UQ es' t')) f g rfl
theorem D1 {b:Bool}{Q:Unit->Shared->Prop}(h:Q () s):Kq (Kr PR w) A (match b with | true=>rule "set.scan.the-table-gave-way" | false=>pure ()) Q E s:=by cases b<;>first | exact Ks h | exact Qh h
theorem vZ {Q:Bool->Shared->Prop}(S:SetAt w L s.heap a σ) (hz:σ.length<1000) (h:∀b h' tk,MV a s.heap h'->SetAt w L h' a (if σ.contains k=Vt then σ else σ++[k])->Q b {s with heap:=h',toks:=tk}):Kq (Kr PR w) A (setAdd a (.int k u)) Q E s:=by
 obtain ⟨o,es,ep,t,y,P,x,G⟩:=S.at_;have Y:es.size<scanBound:=by have:=G.size;show _<4096;walk_at "n"
 unfold setAdd;refine Lp (Kg ((Ld PR w).pyHash (k:=k) (MF _ _ _ _) ?_));unfold setAddHashed UD;refine Lp (Kg (NZ (s:={s with toks:=s.toks+1}) y x G.fits ?_));dsimp only;rw[byScan_of rfl Y G.el];simp only[↓reduceIte];unfold setAddByScan;refine Kg (Kg (Qh (Kg (wpAny_setScan_of (MF _ _ _ _) y x G.fits G.el ?_))));cases O:TL (λe=>(Ld PR w).is k e.2) es.toList with
 | some j=>
  dsimp only;obtain ⟨hj,C,_⟩:=Mg.mp O;have z:σ.contains k=true:=KR.mpr ((G.mem k).mpr ⟨_,Ms hj,C⟩);refine Ks (Ks (h _ s.heap _ (MV.refl a s.heap) ?_));rw[if_pos z];exact ⟨o,es,ep,t,y,P,x,G⟩
 | none=>
  dsimp only;have z:¬σ.contains k=true:=λq=>by
   obtain ⟨e,he,p⟩:=(G.mem k).mp (KR.mp q);have:=OG.mp O e he;rw[p] at this;cases this
  rw[if_neg z] at h;have l:Es w L (UG t es ((Ld PR w).hash k) (.int k u)).1 (UG t es ((Ld PR w).hash k) (.int k u)).2.1 (σ++[k]):=by
   have p:=layNew_perm t es ((Ld PR w).hash k) (.int k u);rw[Su] at p;refine ⟨(G.el.push (MF _ _ _ _) rfl).perm p,(p.map _).trans ?_,layNew_fits _ _ _ _,G.tb.layNew _ _ _,by rw[Km,KP];walk_at "n"⟩;rw[KD];exact G.perm.append (.refl _)
  generalize UG t es ((Ld PR w).hash k) (.int k u)=R at l ⊢;obtain ⟨c,f,wd,K⟩:=R;dsimp only at l ⊢;refine Kg (D1 ?_);have d:∀(tk:Nat),Kq (Kr PR w) A (do
    UB a c f
    if (!wd&&f.tooFull)=Vt then do
      (match (Qz f c (Oa c.size)).2.2 with | true=>rule "set.scan.the-table-gave-way" | false=>pure ())
      UB a (Qz f c (Oa c.size)).1 (Qz f c (Oa c.size)).2.1
      pure (Vr Vt)
     else pure (Vr Vt)) (λr i=>r=Vr Vt/\Q Vt i) E {s with toks:=tk}:=λtk=>by
   refine Kg (l.store y P x λh1 o1 H v M J T=>?_);split
   ·have N:Es w L (Qz f c (Oa c.size)).1 (Qz f c (Oa c.size)).2.1 (σ++[k]):=l.move (relayAll_perm _ _ _) (relayAll_fits _ _ _) (l.tb.relayAll _ _);refine Kg (D1 (Kg (N.store M J T λU o2 F I e1 e2 e3=>Ks ⟨rfl,h _ U _ (v.trans I) ⟨o2,_,F,_,e1,e2,e3,N⟩⟩)))
   ·exact Ks ⟨rfl,h _ h1 _ v ⟨o1,c,H,f,M,J,T,l⟩⟩
  have n:∀{m:O0 (Option Bool)}{S:Shared},Kq (Kr PR w) A m (λr i=>r=Vr Vt/\Q Vt i) E S->Kq (Kr PR w) A m (λr i=>Kq (Kr PR w) A (match r with | some g=>pure g | none=>UD a (.int k u) ((Ld PR w).hash k) 99999) Q E i) E S:=λhm=>KQ hm (λr i q=>by rw[q.1];exact Ks q.2) λ_ _ e=>e;split
  ·refine Kg ?_;rw[hashByValue_scannable 8 rfl];exact Ks (n (d _))
  ·refine Kg (Ks ?_);simp only[↓reduceIte];exact n (d _)
end
end
section
set_option linter.all false
noncomputable abbrev ff (w:Lh):Bool:=!w.params.followText "set-order"
noncomputable abbrev BE (L:Bool):Obj:={cls:=.type "set",dict:=Vs,data:=.set #[] 0 (.fresh 0 0 L)}
noncomputable def xc (acc:List Int) (l:List Int):List Int:=l.foldl (λacc x=>if acc.contains x then acc else acc++[x]) acc
theorem rF (acc:List Int):∀l,(xc acc l).length<=acc.length+l.length
 | []=>KL _
 | x::l=>by
  have:=rF (if acc.contains x then acc else acc++[x]) l;show (xc (if acc.contains x then acc else acc++[x]) l).length<=_;rw[Lw];split at this
  ·rename_i h;rw[if_pos h];walk_at "n"
  ·rename_i h;rw[if_neg h];rw[Km,KP] at this;walk_at "n"
section
variable {w:Lh}{A:Lg}{E:Value->Shared->Prop}{s:Shared}{L:Bool}{σ:List Int}{a I l:Addr}{vs:List Value}{ns:List Int}{n:Nat}
theorem SetAt.frame {h h':Heap}(S:SetAt w L h a σ) (k:∀o,h.get? a=Vr o->h'.get? a=Vr o):SetAt w L h' a σ:=⟨S.at_.imp λo h=>h.imp λ_ h=>h.imp λ_ h=>h.imp λ_ h=>⟨k _ h.1,h.2⟩⟩
theorem yo {R:OM->Shared->Prop}(hh:A.handled=Vs) (hl:s.heap.get? l=Vr (lstO vs n)) (G:Nt vs ns) (H:l≠I) (x:a≠I) (q:a≠l) (hz:ns.length<=100):∀(k i:Nat) (s':Shared) (σ:List Int),ns.length-i=k->i<=ns.length->s'.heap.get? l=Vr (lstO vs n)->s'.heap.IsListIter I l i->SetAt w L s'.heap a σ->σ.length<=i->
  (∀h' tk,(∀b o,b≠a->b≠I->s'.heap.get? b=Vr o->h'.get? b=Vr o)->SetAt w L h' a (xc σ (ns.drop i))->R (.ok (.ret .none)) {s' with heap:=h',toks:=tk})->Mx (Kr PR w) A (.builtin "set.update.loop" ⟨[.ref a,.ref I],[]⟩) R s':=by
 have d:=eU G;have W:=Uf (prog:=PR) (w:=w) (A:=A.in1) hh I l H vs.toArray;have E:∀{h:Heap},h.get? l=Vr (lstO vs n)->h.IsList l vs.toArray:=λe=>aJ e;intro k;induction k with
 | zero=>
  intro i s' σ J O j r S T h;obtain rfl:i=ns.length:=by walk_at "n"
  refine M0 OJ ?_;rw[Nh Nc _];refine Kg (W.done s' _ _ ⟨by rw[Kz,d];exact r,E j⟩ λh' tk g=>?_);show Kq _ A.in1 (ret Nm) _ _ _;refine Ks (h h' tk (λb o C p e=>g b o (λm=>p (Kk.mp m)) e) ?_);rw[SV];exact S.frame λo e=>g a o (λm=>x (Kk.mp m)) e
 | succ k Y=>
  intro i s' σ J O j r S T h;have c:i<ns.length:=by walk_at "n"
  refine M0 OJ ?_;rw[Nh Nc _];refine Kg (W.item i s' _ _ (by rw[Kz,d];exact c) ⟨r,E j⟩ λv h' tk U y g=>?_);obtain ⟨u,rfl⟩:=Nt.int_at G i v (by rw[<- NY];exact U);have f:∀b o,b≠I->s'.heap.get? b=Vr o->h'.get? b=Vr o:=λb o n e=>g b o (λm=>n (Kk.mp m)) e;show Kq _ A.in1 (QA [Value.int (ns.getD i 0) u] (setAdd a (.int (ns.getD i 0) u)) >>= _) _ _ _;refine Kg (Lp (vZ (s:={s' with heap:=h',toks:=tk}) (S.frame λo e=>f a o x e) (by walk_at "n") λb h2 K hs M=>?_));refine Ks ⟨Op Nc _,Y (i+1) _ _ (by walk_at "n") c ?_ ?_ M ?_ λN z t P=>?_⟩
  ·exact (hs.2 l (LV q)).trans (f l _ H j)
  ·exact y.1.at λo e=>(hs.2 I (LV x)).trans e
  ·split
   ·walk_at "n"
   ·rw[Km,KP];walk_at "n"
  ·refine h N z (λb o C p e=>t b o C p ((hs.2 b C).trans (f b o p e))) ?_;have Q:ns.drop i=ns.getD i 0::ns.drop (i+1):=by
    rw[Mp c,QQ,Kl c];rfl
   rw[Q];exact P
set_option maxHeartbeats 1000000 in
theorem B4 (v:Value){Q₁:Value->Shared->Prop}(h:Q₁ (.ref s.heap.objs.size) {s with heap:=s.heap.push (BE (ff w))}):Mx (Kr PR w) A (.call (.builtin "set.__new__") ⟨[.type "set",v],[]⟩) (OX Q₁ E) s:=by
 refine Rg ?_;show Kq _ A.in1 (do checkBuiltinCall "set.__new__" ⟨[.type "set",v],[]⟩;again (.builtin "set.__new__" ⟨[.type "set",v],[]⟩)) _ _ s;refine Kg (MP (PySem.F.newCall_set_1 v) (Ks ⟨Op Q9 _,M0 PySem.F.entry_set_new ?_⟩));rw[Nh Q9 _];unfold Mf.«set.__new__» Mf.Frozenset.newClass;have a:=sub_set_self;obtain ⟨b,g,d,e,c⟩:=s;dsimp only
 wp_walk
 refine QW (Ks ?_);dsimp only;simp only[newObj];refine Kg (Vg (Ks ?_));exact Ks h
set_option maxHeartbeats 3200000 in
theorem xi {Q:Value->Shared->Prop}(hh:A.handled=Vs) (x:s.heap.get? l=Vr (lstO vs n)) (O:Nt vs ns) (hz:ns.length<=100) (h:∀h' tk,Kp s.heap h'->SetAt w (ff w) h' s.heap.objs.size (xc [] ns)->Q (.ref s.heap.objs.size) {s with heap:=h',toks:=tk}):Kq (Kr PR w) A (call (.type "set") [.ref l]) Q E s:=by
 obtain ⟨c,Y,G⟩:=Mo.mro;have m:=Mo.made;have y:=Mo.sub;refine Og (Rg ?_);refine Ks ⟨Sk _ (by decide +kernel),M0 PySem.F.entry_type_call ?_⟩;rw[Lg.under_plain (weight_type_call_type "set" [.ref l] []) rfl];have h1:=Mo.notType;have h2:=Mo.canCreate;have N:=PySem.F.typeCall_set_1 (.ref l)
 repeat (any_goals (first | assumption | wp_step))
 refine Ps (B4 (.ref l) (E:=E) (Q₁:=λg C=>g=.ref s.heap.objs.size/\C={s with heap:=s.heap.push (BE (ff w))}) ⟨rfl,rfl⟩) λr C q=>?_;rcases r with e | (g | _ | _ | _)<;>first | exact q.elim | exact q | skip
 obtain ⟨rfl,rfl⟩:=q;have z:(s.heap.push (BE (ff w))).get? s.heap.objs.size=Vr (BE (ff w)):=Kt _ rfl;have L:Shared.TypeIs {s with heap:=s.heap.push (BE (ff w))} (.ref s.heap.objs.size) "set":=⟨_,z,rfl⟩
 have T:=Mo.init.lookup;have M:=Mo.init.bind (.ref s.heap.objs.size)
 repeat (any_goals (first | assumption | wp_step))
 refine Ps (Nz (R:=OX (λr u=>r=.none/\∃h' tk,u={s with heap:=h',toks:=tk}/\SetAt w (ff w) h' s.heap.objs.size (xc [] ns)/\Kp s.heap h') E) Mo.init.plain PySem.F.entry_set_init (check_set_init_1 L ?_)) λU u f=>?_
 ·have a:(s.heap.push (BE (ff w))).get? l=Vr (lstO vs n):=KM _ x;have v:=PySem.F.sub_list_set;have t:=PySem.F.sub_list_frozenset;have H:(Nl "list"==Nl "dict")=false:=by decide
  unfold Mf.«set.__init__» noKeywords Mf.Frozenset.updateFrom;generalize p:Rr=PI
  wp_walk
  subst p;refine Qy (aJ a) ?_;refine Kg (Ux ?_);have i:l<s.heap.objs.size:=LD x;have d:(s.heap.push (BE (ff w))).objs.size=s.heap.objs.size+1:=LK ..;have j:A.in1.in1.handled=none:=by simp[hh]
  have J:SetAt w (ff w) ((s.heap.push (BE (ff w))).push (zz l 0)) s.heap.objs.size []:=⟨_,#[],0,_,KM _ z,w3 rfl rfl rfl,rfl,⟨λe P=>absurd P MJ,.refl _,rfl,.fresh _,LE _⟩⟩
  refine yo (s:={s with heap:=(s.heap.push (BE (ff w))).push (zz l 0)}) (I:=(s.heap.push (BE (ff w))).objs.size) j (KM _ a) O (L4 (d▸Ml i)) (L4 (d▸Mb _)) (O5 i) hz ns.length 0 _ [] (by lia) (LE _) (KM _ a) ⟨_,w3 (Kt _ rfl) rfl rfl⟩ J (KL _) λh' tk K S=>?_;refine Ks ?_;refine Ks ⟨rfl,y2 h' tk (w3 rfl S (λb o e=>?_))⟩;have:=LD e;exact K b o (L4 this) (L4 (d▸Ml this)) (aM _ _ _ _ (aM _ _ _ _ e))
 ·rcases U with e | (g | _ | _ | _)<;>first | exact f.elim | exact f | skip
  obtain ⟨rfl,h',tk,rfl,S,k⟩:=f
  repeat (any_goals (first | assumption | wp_step))
  exact h _ _ k S
end
end
end
section
section
set_option linter.all false
noncomputable abbrev Bz (f:Value) (i:Nat) (a:Addr) (n ep:Nat):Obj:={cls:=.type "set_iterator",data:=.fields #[f,.int i 0,.ref a,.int n 0,.int ep 0]}
namespace SI
theorem slot_next:Slot "set_iterator" "__next__" "set_iterator.__next__":=.of (owner:="set_iterator") (n:="__next__") (by rw[MZ,Mc];kernel_rfl) (by decide +kernel) (by decide +kernel) (by decide +kernel) (by first | exact .inl (by decide +kernel) | exact .inr (by decide +kernel)) (by rw[MS];kernel_rfl)
theorem slot_self:Slot "set_iterator" "__iter__" "set_iterator.__iter__":=.of (owner:="set_iterator") (n:="__iter__") (by rw[MZ,Mc];kernel_rfl) (by decide +kernel) (by decide +kernel) (by decide +kernel) (by first | exact .inl (by decide +kernel) | exact .inr (by decide +kernel)) (by rw[MS];kernel_rfl)
theorem entry_next:Ru UA "set_iterator.__next__" = Vr Mf.«set_iterator.__next__»:=Uc (by kernel_rfl)
theorem entry_self:Ru UA "set_iterator.__iter__" = Vr Mf.«dict_keyiterator.__iter__»:=UH (id':="dict_keyiterator.__iter__") ((OZ _).trans (by kernel_rfl)) (by kernel_rfl) (by kernel_rfl) ((OZ _).trans (by kernel_rfl))
theorem args_next (a:Value):Qm "set_iterator.__next__" ⟨[a],[]⟩:=by unfold Qm;kernel_rfl
theorem args_self (a:Value):Qm "set_iterator.__iter__" ⟨[a],[]⟩:=by unfold Qm;kernel_rfl
theorem entry_iter:Ru UA "set.__iter__" = Vr Mf.«frozenset.__iter__»:=UH (id':="frozenset.__iter__") ((OZ _).trans (by kernel_rfl)) (by kernel_rfl) (by kernel_rfl) ((OZ _).trans (by kernel_rfl))
end SI
theorem ju {α:Type}:∀{l:List α}{i:Nat}{x:α},l[i]?=Vr x->(x::l.eraseIdx i).Perm l
 | y::l,0,x,h=>by refine rq (Kd h) ?_;exact .refl _
 | y::l,i+1,x,h=>(Sb y x _).trans ((ju (l:=l) (i:=i) h).cons y)
 | [],_,_,h=>nomatch h
theorem wi {α:Type}(next:Nat->Nat):∀(a k:Nat) (l:List α) (out:Array α),l.length=a->(Pq next a k l out).toList.Perm (out.toList++l):=@nr _ (@λk l out h=>by
  show out.toList.Perm _;rw[LW h,LG])
 (λa c=>(@λk l out h=>by
  have b:next k % l.length<l.length:=SE _ (by lia)
  have e:=Kl b;rw[show Pq next (a+1) k l out=(l[next k % l.length]?).elim out λx=>Pq next a (k+1) (l.eraseIdx (next k % l.length)) (out.push x) from by kernel_rfl,e];show (Pq next a (k+1) _ _).toList.Perm _;refine (c (k+1) _ _ (by rw[QP b];lia)).trans ?_;rw[Su,KW];exact (ju e).append_left _))
theorem E1 {α:Type}(next:Nat->Nat) (es:Array α):(Sg next es).toList.Perm es.toList:=by
 exact wi next es.size 0 es.toList #[] (KN)
section
variable {w:Lh}{A:Lg}{E:Value->Shared->Prop}{s:Shared}{es:Array (Int×Value)}{t:Mz}{σ:List Int}{a I T:Addr}{o:Obj}{ep i m:Nat}{L:List (Int×Value)}{f:Value}
theorem xh {a:Source}{n:Nat}{Q:Nat->Shared->Prop}(hn:n≠0) (h:∀j d,j<n->Q j {s with drawn:=d}):Kq (Kr PR w) A (PySem.choose a n) Q E s:=λΓ p b=>by
 rw[O0.wp_choose];refine ⟨hn,?_⟩;rw[O0.wp_pure];exact h _ _ (SE _ (PW hn))
theorem Da {α:Type}(n:Nat):∀(a:List α){s:Shared}{Q:List α->Shared->Prop},a.length=n->(∀c d,c.Perm a->Q c {s with drawn:=d})->Kq (Kr PR w) A (Ud n a) Q E s:=by
 induction n with
 | zero=>
  intro a s Q h k;rw[LW h] at k ⊢;exact Ks (k [] s.drawn (.refl _))
 | succ n g=>
  intro a s Q h k;cases a with
  | nil=>cases h
  | cons x a=>
   refine Kg (xh (Nat.succ_ne_zero _) λj d b=>?_);have e:=Kl b;rw[e];refine Kg (g _ (by rw[QP b];simp at h ⊢;exact h) λc d f=>?_);exact Ks (k _ d ((f.cons _).trans (ju e)))
end
end
end
section
local macro_rules (kind:=tacticKernel_rfl)|s=>Mine.Internal.mK s
section
set_option linter.all false
section
variable {w:Lh}{A:Lg}{E:Value->Shared->Prop}{s:Shared}{es:Array (Int×Value)}{t:Mz}{σ:List Int}{a I T:Addr}{o:Obj}{ep i n m:Nat}{L:List (Int×Value)}{f:Value}{Lb:Bool}{slot:Nat}
def fL (h:Heap) (a:Addr) (es:Array (Int×Value)) (ep:Nat) (t:Mz):Prop:=∃o,h.get? a=Vr o/\o.ExactSet/\o.data=.set es ep t/\t.fits es.size=Vt
def xv (w:Lh) (a:Addr) (es:Array (Int×Value)) (ep:Nat) (t:Mz) (L:List (Int×Value)) (slot i:Nat):Prop:=(ff w=Vu/\L=(Sg (w.params.setOrder a ep) es).toList)\/(ff w=Vt/\t.led=Vt/\(!t.plain&&decide (es.size > 1))=Vu/\xu t.place.toList/\L=es.toList/\KX t.place slot=i)
theorem sb {Q:Bool->Shared->Prop}(h:Q (!ff w) s):Kq (Kr PR w) A setsByText Q E s:=by
 unfold setsByText;refine Kg (QW (Ks ?_))
 rwa [show (!ff w)=w.params.followText "set-order" from Bool.not_not _] at h
theorem wR (h:t.fits n=Vt):t.place.size=n:=by
 unfold Mz.fits at h;exact beq_iff_eq.mp (Kn.mp h).1
theorem sz {Q:Option (Value×Nat)->Shared->Prop}(S:fL s.heap a es ep t) (M:xv w a es ep t L slot i) (o:i<=es.size) (h:∀r,(∀e,L[i]?=Vr e->∃c,xv w a es ep t L c (i+1)/\r=Vr (e.2,c))->(L[i]?=Vs->r=Vs)->Q r s):Kq (Kr PR w) A (U6 a slot i ep) Q E s:=by
 obtain ⟨n,k,m,l,f⟩:=S;unfold U6;refine Kg (NZ k l f ?_);dsimp only;refine Kg (sb ?_);rcases M with ⟨d,rfl⟩ | ⟨d,m1,m2,m3,rfl,m4⟩
 ·rw[d];simp only[Tz,↓reduceIte,bne_self_eq_false,OA];refine Kg ?_;unfold setWalk;refine Kg (NZ k l f ?_);dsimp only;refine Kg (sb ?_);rw[d];simp only[Tz,↓reduceIte];refine Kg (QW (Ks (Ks (h _ (λe b=>⟨slot,.inl ⟨d,rfl⟩,?_⟩) λb=>?_))))
  ·rw[Lk] at b;rw[show (Sg ((Kr PR w).w.params.setOrder a ep) es)[i]?=Vr e from b];rfl
  ·rw[Lk] at b;rw[show (Sg ((Kr PR w).w.params.setOrder a ep) es)[i]?=Vs from b];rfl
 ·rw[d];simp only[Bool.not_true,OA,↓reduceIte];refine NK (λq=>absurd (m2.symm.trans q) L1) λ_=>?_;refine Kg (MP (a:=()) ?_ (Ks (h _ (λe b=>?_) λb=>?_)))
  ·show (if (!t.led&&!es.isEmpty)=Vt then Vi "set:maker-not-led" else pure PUnit.unit)=pure ();rw[m1];rfl
  ·rw[Lk] at b;have g:=(MM.mp b).1;have j:i<t.place.size:=by rw[wR f];exact g
   refine ⟨t.place[i]+1,.inr (w6 d m1 m2 m3 rfl (ub m3 j)),?_⟩;rw[m4,b,Li j]
  ·rw[Lk] at b;rw[m4,b]
theorem yf:Ub (.type "StopIteration") (.type "StopIteration")=pure true:=by rw[MS];kernel_rfl
theorem uz {α:Type}{Q:α->Shared->Prop}{c:Option Value->Shared->Prop}{fr:α->Option Value}(hh:A.handled=Vs) (h:∀h',Kp s.heap h'->c Vs {s with heap:=h'}):Kq (Kr PR w) A.in1 (UE (.type "StopIteration") [] >>= λe=>(raiseNew e:O0 α)) Q (λe d=>Kq (Kr PR w) A (do if <- isInstance e (.type "StopIteration") then pure Vs else throw e) c E d) s:=by
 refine Kg ?_;simp only[UE,Pd];refine Kg (LY ?_ (by size_fits));refine Kg (m:=N3 _ _) (MP (a:=Nm) (by first | rfl | (simp only[N3];rfl)) ?_);refine LY ?_ (by size_fits);refine Ti hh ?_;refine Kg (QV (T:="StopIteration") (b:=Vt) ⟨_,Kt _ rfl,rfl⟩ yf ?_);exact Ks (h _ λb o e=>aM _ _ _ _ (aM _ _ _ _ e))
theorem fk {k:Nat}{v:Value}{g:Value}{x1 x2 x3 x4:Value}{Q:Unit->Shared->Prop}(a:s.heap.get? I=Vr {cls:=.type "set_iterator",data:=.fields #[g,x1,x2,x3,x4]}) (b:k<5) (h:∀h',MV I s.heap h'->h'.get? I=Vr {cls:=.type "set_iterator",data:=.fields (#[g,x1,x2,x3,x4].setIfInBounds k v)}->Q () {s with heap:=h'}):Kq (Kr PR w) A (Nk (.ref I) k v) Q E s:=Na a rfl b (h _ (LX ..) ((Lq _ a (MQ (MN rfl _))).trans (congrArg Vr rfl)))
abbrev J4 (E:Value->Shared->Prop) (w:Lh) (A:Lg) (Q:Option Value->Shared->Prop):Value->Shared->Prop:=λe a=>Kq (Kr PR w) A (do if <- isInstance e (.type "StopIteration") then pure Vs else throw e) Q E a
theorem qD {Q:Option Value->Shared->Prop}(hh:A.handled=Vs) (f:s.heap.get? I=Vr (Bz (.int slot 0) i a es.size ep)) (S:fL s.heap a es ep t) (M:xv w a es ep t L slot i) (H:i<=es.size) (P:a≠I) (y:∀e h' (c:Nat),L[i]?=Vr e->MV I s.heap h'->h'.get? I=Vr (Bz (.int c 0) (i+1) a es.size ep)->xv w a es ep t L c (i+1)->Q (Vr e.2) {s with heap:=h'}) (p:∀h',L[i]?=Vs->(∀b o,b≠I->s.heap.get? b=Vr o->h'.get? b=Vr o)->Q Vs {s with heap:=h'}):Kq (Kr PR w) A (Qk (.ref I)) Q E s:=by
 have l:s.TypeIs (.ref I) "set_iterator":=⟨_,f,rfl⟩
 obtain ⟨O,F,N,K,C⟩:=id S;unfold Qk;refine Kg (UY (NT (name:=Mh "__next__") l SI.slot_next (MR SI.slot_next l SI.entry_next ?_ (SI.args_next _))));show Kq _ _ (slotArgs "__next__" 0 ⟨[.ref I],[]⟩ >>= _) _ _ s;refine Kg (MP (a:=(Nb I,[])) rfl ?_);show Kq _ _ (fieldsOf (.ref I) >>= _) _ _ s;refine Kg (Uz f rfl ?_);show Kq _ _ (setEntries a >>= _) _ _ s;refine Kg (P6 F K C ?_);show Kq _ _ (if ((es.size:Int) != (es.size:Int))=Vt then _ else _) _ _ s;rw[if_neg (by simp)];show Kq _ _ (U6 a (slot:Int).toNat (i:Int).toNat (ep:Int).toNat >>= _) _ _ s;rw[KT,KT,KT];refine Kg (sz S M H λr u J=>?_);cases e:L[i]? with
 | some x=>
  obtain ⟨c,v,rfl⟩:=u x e;show Kq _ _ (Nk (.ref I) 0 (Lu (c:Int)) >>= _) _ _ s;refine Kg (fk f (by decide) λh' d m=>?_);show Kq _ _ (Nk (.ref I) 1 (Lu ((i:Int)+1)) >>= _) _ _ _;refine Kg (fk (g:=.int c 0) (x1:=.int i 0) (x2:=.ref a) (x3:=.int es.size 0) (x4:=.int ep 0) m (by decide) λh j z=>?_);refine Ks ⟨_,rfl,Ks (y x h c e (d.trans j) z v)⟩
 | none=>
  rw[J e];show Kq _ _ (Nk (.ref I) 2 .none >>= _) _ _ s;refine Kg (fk f (by decide) λh' d m=>?_);exact uz (s:={s with heap:=h'}) (fr:=λ_=>Vs) hh λG k=>p G e λb o n q=>k b o ((d.2 b n).trans q)
theorem qC {Q:Option Value->Shared->Prop}{f:List Nat}{mT:Nat}(hh:A.handled=Vs) (h:s.heap.get? I=Vr (Bz (.ref T) i a es.size ep)) (S:fL s.heap a es ep t) (C:s.heap.get? T=Vr (dU (f.map λ(j:Nat)=>Lu j) mT)) (l:∀j∈f,j<es.size) (F:∀e h',(f[i]?).bind (es[·]?)=Vr e->MV I s.heap h'->h'.get? I=Vr (Bz (.ref T) (i+1) a es.size ep)->Q (Vr e.2) {s with heap:=h'}) (z:∀h',f[i]?=Vs->(∀b o,b≠I->s.heap.get? b=Vr o->h'.get? b=Vr o)->Q Vs {s with heap:=h'}):Kq (Kr PR w) A (Qk (.ref I)) Q E s:=by
 have d:s.TypeIs (.ref I) "set_iterator":=⟨_,h,rfl⟩
 obtain ⟨J,v,H,y,u⟩:=id S;unfold Qk;refine Kg (UY (NT (name:=Mh "__next__") d SI.slot_next (MR SI.slot_next d SI.entry_next ?_ (SI.args_next _))));show Kq _ _ (slotArgs "__next__" 0 ⟨[.ref I],[]⟩ >>= _) _ _ s;refine Kg (MP (a:=(Nb I,[])) rfl ?_);show Kq _ _ (fieldsOf (.ref I) >>= _) _ _ s;refine Kg (Uz h rfl ?_);show Kq _ _ (setEntries a >>= _) _ _ s;refine Kg (P6 v y u ?_);show Kq _ _ (if ((es.size:Int) != (es.size:Int))=Vt then _ else _) _ _ s;rw[if_neg (by simp)];show Kq _ _ (seqItems? (.ref T) >>= _) _ _ s;refine Kg (PP C rfl ?_);dsimp only;rw[KT,NY,Kv];cases e:f[i]? with
 | some j=>
  have x:j<es.size:=l j (Ko e);show Kq _ _ (U5 a (j:Int).toNat (ep:Int).toNat >>= _) _ _ s;rw[KT,KT];refine Kg ?_;unfold U5;refine Kg (NZ v y u ?_);dsimp only;rw[if_neg (by simp),Li x];refine Ks ?_;show Kq _ _ (Nk (.ref I) 1 (Lu ((i:Int)+1)) >>= _) _ _ s;refine Kg (fk h (by decide) λh' c m=>?_);exact Ks ⟨_,rfl,Ks (F es[j] h' (by rw[e];exact Li x) c m)⟩
 | none=>
  show Kq _ _ (Nk (.ref I) 0 (Lu 0) >>= _) _ _ s;refine Kg (fk h (by decide) λh' c m=>?_);show Kq _ _ (Nk (.ref I) 2 .none >>= _) _ _ _;refine Kg (fk (g:=Lu 0) (x1:=.int i 0) (x2:=.ref a) (x3:=.int es.size 0) (x4:=.int ep 0) m (by decide) λp r K=>?_);exact uz (s:={s with heap:=p}) (fr:=λ_=>Vs) hh λG k=>z G e λb o n q=>k b o ((r.2 b n).trans ((c.2 b n).trans q))
end
end
section
set_option linter.all false
section
variable {w:Lh}{A:Lg}{E:Value->Shared->Prop}{s:Shared}{es:Array (Int×Value)}{t:Mz}{σ:List Int}{a I T S₀:Addr}{o:Obj}{ep i n m:Nat}{L:List (Int×Value)}{f:Value}{Lb:Bool}{slot:Nat}
theorem yr {Q:Bool->Shared->Prop}(e:s.TypeIs (.ref a) "set") (h:Q Vu s):Kq (Kr PR w) A (NV (.ref a)) Q E s:=by
 unfold NV;refine Kg (OB e PySem.F.slot_set_len.lookup ?_);generalize d:("set.__len__" : String)=id0
 wp_delta
 rw[show splitId id0=Vr ("set","__len__") from by refine rq d ?_;decide +kernel];refine rq d ?_;refine Kg (QV (T:="set") (b:=Vt) e (by rw[MS];kernel_rfl) ?_);refine NK (λc=>absurd c (by decide)) (λ_=>?_);refine NK (λ_=>?_) (λc=>absurd (by decide +kernel) c);refine Kg (Qx e ?_);exact Ks h
theorem fL.ty {S:Shared}(h:fL S.heap a es ep t):S.TypeIs (.ref a) "set":=h.imp λo h=>⟨h.1,h.2.1.1⟩
theorem fL.keep {h h':Heap}(S:fL h a es ep t) (k:∀o,h.get? a=Vr o->h'.get? a=Vr o):fL h' a es ep t:=S.imp λo h=>⟨k o h.1,h.2⟩
theorem nS {Q:Value->Shared->Prop}(c:s.heap.get? I=Vr (Bz f i a n ep)) (h:Q (.ref I) s):Kq (Kr PR w) A (Rr (.ref I)) Q E s:=by
 have b:s.TypeIs (.ref I) "set_iterator":=⟨_,c,rfl⟩
 refine TT b SI.slot_self (MR SI.slot_self b SI.entry_self ?_ (SI.args_self _));exact Ks ⟨_,rfl,y2 "set_iterator" _ (w3 b SI.slot_next.lookup h)⟩
abbrev PL (L:List (Int×Value)) (i:Nat) (v:Value):Prop:=∃e,L[i]?=Vr e/\v=e.2
theorem xK (hh:A.handled=Vs) (l:a≠I) (v:L.length=es.size):Q6 PR w A I [I,a] [I] es.size (PL L) (λi h=>(∃slot:Nat,h.get? I=Vr (Bz (.int slot 0) i a es.size ep)/\xv w a es ep t L slot i)/\fL h a es ep t) where
 sub:=λb j=>by rw[Kk.mp j];exact .head _
 frame:=λi h f d k=>⟨d.1.imp λslot q=>⟨k I (.head _) _ q.1,q.2⟩,d.2.keep λo e=>k a (.tail _ (.head _)) o e⟩
 item:=λi s Q E r d n=>by
  obtain ⟨⟨slot,m,M⟩,S⟩:=d;refine qD hh m S M (Ox r) l (λe f c g hs u p=>?_) λf g _=>?_
  ·exact n e.2 f s.toks ⟨e,g,rfl⟩ ⟨⟨c,u,p⟩,S.keep λo q=>(hs.2 a l).trans q⟩ λb o j q=>(hs.2 b λe=>j (Kk.mpr e)).trans q
  ·exact absurd (K8.mp g) (by lia)
 done:=λs Q E d n=>by
  obtain ⟨⟨slot,m,M⟩,S⟩:=d;refine qD hh m S M (KL _) l (λe f c g _ _ _=>?_) λf g k=>?_
  ·have:=(Kh.mp g).1;lia
  ·exact n f s.toks λb o j q=>k b o (λe=>j (Kk.mpr e)) q
 self:=λi s Q E d h=>nS d.1.choose_spec.1 h
theorem xH {d:List Nat}{mT:Nat}(hh:A.handled=Vs) (x:a≠I) (y:T≠I) (u:d.Perm (KC es.size)):Q6 PR w A I [I,a,T] [I] es.size (PL (d.filterMap (es[·]?))) (λi h=>h.get? I=Vr (Bz (.ref T) i a es.size ep)/\h.get? T=Vr (dU (d.map λ(j:Nat)=>Lu j) mT)/\fL h a es ep t):=by
 have v:d.length=es.size:=by have:=u.length_eq;rwa [KI] at this
 have g:∀j∈d,j<es.size:=λj n=>LA.mp (u.mem_iff.mp n);have p:∀(d:List Nat),(∀j∈d,j<es.size)->∀i:Nat,(d.filterMap (es[·]?))[i]?=(d[i]?).bind (es[·]?):=λd h=>by
  induction d with
  | nil=>intro i;rfl
  | cons j d z=>
   intro i;rw[K0,Li (h j (.head _))];cases i with
   | zero=>exact (Li (h j (.head _))).symm
   | succ i=>exact z (λj n=>h j (.tail _ n)) i
 exact {
  sub:=λb m=>by rw[Kk.mp m];exact .head _
  frame:=λi h l c k=>w3 (k I (.head _) _ c.1) (k T (.tail _ (.tail _ (.head _))) _ c.2.1) (c.2.2.keep λo e=>k a (.tail _ (.head _)) o e)
  item:=λi s Q E F c r=>by
   refine qC hh c.1 c.2.2 c.2.1 g (λe l f hs C=>?_) λl f _=>?_
   ·exact r e.2 l s.toks ⟨e,(p d g i).trans f,rfl⟩ (w3 C ((hs.2 T y).trans c.2.1) (c.2.2.keep λo q=>(hs.2 a x).trans q)) λb o m q=>(hs.2 b λe=>m (Kk.mpr e)).trans q
   ·exact absurd (K8.mp f) (by lia)
  done:=λs Q E c r=>by
   refine qC hh c.1 c.2.2 c.2.1 g (λe l f _ _=>?_) λl f k=>?_
   ·rw[Pb (by lia)] at f;cases f
   ·exact r l s.toks λb o m q=>k b o (λe=>m (Kk.mpr e)) q
  self:=λi s Q E c h=>nS c.1 h}
theorem yp {Q:Value->Shared->Prop}(hh:A.handled=Vs) (S:fL s.heap a es ep t) (hz:es.size<=1000) (T:Tb t (ff w)) (h:∀h' d I K P St L,Kp s.heap h'->s.heap.get? I=Vs->(∀b∈K,s.heap.objs.size<=b\/b=a)->Q6 PR w A I K [I] es.size P St->(∀i v,P i v->PL L i v)->L.Perm es.toList->St 0 h'->Q (.ref I) {s with heap:=h',drawn:=d}):Kq (Kr PR w) A (Rr (.ref a)) Q E s:=by
 have N:=S.ty;obtain ⟨os,H,g2,g3,Y⟩:=id S;have z:a<s.heap.objs.size:=LD H;refine TT N Q8 (MR Q8 N SI.entry_iter ?_ (PySem.F.args_set_iter_1 _));refine Kg (MP (a:=a) rfl ?_);show Kq _ _ (Mf.Frozenset.sizeOf a >>= _) _ _ s;refine Kg (Kg (P6 H g3 Y (Ks ?_)));show Kq _ _ (setDrawn a >>= _) _ _ s;refine Kg ?_;unfold setDrawn;refine Kg (NZ H g3 Y ?_);dsimp only;refine Kg (sb (Ks ?_));have c:∀{f:Value}{h0:Heap}{d:Rz},fL h0 a es ep t->Q (.ref h0.objs.size) {s with heap:=h0.push (Bz f 0 a es.size ep),drawn:=d}->Kq (Kr PR w) A.in1 (do ret (<- Pe "set_iterator" [f,Lu 0,.ref a,Lu (es.size:Nat),Lu ((<- UC a):Nat)])) (λm y=>∃q,m=.done (.ret q)/\∃U r,y.TypeIs q U/\Oh (.type U) "__next__" = pure (Vr r)/\Q q y) E {s with heap:=h0,drawn:=d}:=λ{f h0 d} S0 hq=>by
  obtain ⟨o0,e1,e2,e3,e4⟩:=S0;refine Kg (wpAny_setEpoch_of e1 e3 e4 ?_);exact Kg (LY (Ks ⟨_,rfl,y2 "set_iterator" _ (w3 ⟨_,Kt _ rfl,rfl⟩ SI.slot_next.lookup hq)⟩) (by size_fits))
 have plain:∀{b:Bool},b=Vu->(ff w=Vu\/ff w=Vt/\(!t.plain&&decide (es.size > 1))=Vu)->Kq (Kr PR w) A.in1 (do
   let first <- if b then Pd ((<- Ud es.size (KC es.size)).map λ(i:Nat)=>Lu i) else pure (Lu 0)
   ret (<- Pe "set_iterator" [first,Lu 0,.ref a,Lu (es.size:Nat),Lu ((<- UC a):Nat)])) (λm y=>∃q,m=.done (.ret q)/\∃U r,y.TypeIs q U/\Oh (.type U) "__next__" = pure (Vr r)/\Q q y) E s:=λ{b} hb k=>by
  refine rp hb ?_;refine Kg (Ks ?_);have na:a≠s.heap.objs.size:=L4 z;have J:Kp s.heap (s.heap.push (Bz (Lu 0) 0 a es.size ep)):=aM _ _;have go:∀L,L.Perm es.toList->xv w a es ep t L 0 0->Q (.ref s.heap.objs.size) {s with heap:=s.heap.push (Bz (Lu 0) 0 a es.size ep),drawn:=s.drawn}:=λL R M=>
   h _ s.drawn _ _ _ _ L J (bF _) (λb hb=>(Kw.mp hb).imp (λe=>O7 e.symm) Kk.mp) (xK (I:=s.heap.objs.size) hh na (by rw[R.length_eq,KN])) (λ_ _ p=>p) R ⟨⟨0,Kt _ rfl,M⟩,S.keep λo e=>J _ _ e⟩
  refine c (f:=Lu 0) (h0:=s.heap) (d:=s.drawn) S ?_;rcases k with k | ⟨k,u⟩
  ·exact go _ (E1 _ _) (.inl ⟨k,rfl⟩)
  ·exact go _ (.refl _) (.inr (w6 k (T.led.trans k) u T.ris rfl (ua T.ris)))
 cases k:ff w with
 | false=>exact plain rfl (.inl k)
 | true=>
  cases u:(!t.plain&&decide (es.size > 1)) with
  | false=>exact plain (by show (!(!true)&&(!t.plain&&decide (es.size > 1)))=Vu;rw[u]) (.inr ⟨k,u⟩)
  | true=>
   show Kq _ _ (do
    let first <- if (!(!true)&&(!t.plain&&decide (es.size > 1)))=Vt then Pd ((<- Ud es.size (KC es.size)).map λ(i:Nat)=>Lu i) else pure (Lu 0)
    ret (<- Pe "set_iterator" [first,Lu 0,.ref a,Lu (es.size:Nat),Lu ((<- UC a):Nat)])) _ _ s
   rw[u];refine Kg (Da es.size _ KI λC d G=>Kg ?_);have O:C.length=es.size:=by have:=G.length_eq;rwa [KI] at this
   refine Uy ?_ (by rw[Ke,Ou];(first | walk_at "m" | lia));have n:Kp s.heap (s.heap.push (dU (C.map λ(j:Nat)=>Lu j) 0)):=aM _ _;have g:(s.heap.push (dU (C.map λ(j:Nat)=>Lu j) 0)).objs.size=s.heap.objs.size+1:=LK ..;refine c (f:=.ref s.heap.objs.size) (h0:=s.heap.push (dU (C.map λ(j:Nat)=>Lu j) 0)) (d:=d) (S.keep λo e=>n _ _ e) ?_;refine h _ d _ _ _ _ (C.filterMap (es[·]?)) (λb o e=>aM _ _ _ _ (n b o e)) (KV (by rw[g];exact MX _)) (λb hb=>?_) (xH (T:=s.heap.objs.size) (mT:=0) hh (L4 (g▸Ml z)) (L4 (g▸Mb _)) G) (λ_ _ p=>p) ?_ (w3 (Kt _ rfl) (aM _ _ _ _ (Kt _ rfl)) (S.keep λo e=>aM _ _ _ _ (n _ _ e)))
   ·rcases Kw.mp hb with e | hb
    ·exact .inl (by rw[e,g];exact MX _)
    ·exact (Kw.mp hb).symm.imp (λe=>O7 (Kk.mp e).symm) id
   ·refine (G.filterMap _).trans ?_;have:∀(l:List (Int×Value)),(KC l.length).filterMap (l[·]?)=l:=λl=>by
     induction l with
     | nil=>rfl
     | cons x l ih=>rw[Lw,O2,K0,Mu];exact congrArg (x::·) ih
    have e:=this es.toList;rw[KN] at e;rw[show (λx=>es[x]?)=λx=>es.toList[x]? from funext λx=>Lk.symm,e]
end
end
section
set_option linter.all false
section
variable {w:Lh}{A:Lg}{E:Value->Shared->Prop}{s:Shared}{es:Array (Int×Value)}{t:Mz}{σ:List Int}{a S₀:Addr}{o:Obj}{ep n:Nat}{L:List (Int×Value)}
theorem zy {P:Nat->Value->Prop}{acc:Array Value}(h:Rl P acc n) (d:∀i v,P i v->PL L i v) (k:L.length=n):acc.toList=L.map (·.2):=by
 refine List.ext_getElem? λi=>?_;rw[Kv];have g:=h.1;cases e:L[i]? with
 | none=>
  rw[K8] at e;exact Pb (by rw[KN];lia)
 | some x=>
  have j:=(Kh.mp e).1;have a:i<acc.size:=by lia
  have b:=Li a;obtain ⟨y,f,c⟩:=d i _ (h.2 i _ b);refine rp (Kd (e.symm.trans f)) ?_;rw[Lk,b,c];rfl
theorem tw {R:OM->Shared->Prop}{K:Nat}{res:Value}(hh:A.handled=Vs) (S:fL s.heap a es ep t) (hz:es.size<=1000) (T:Tb t (ff w)) (M:S₀≠a) (Y:s.heap.get? S₀=Vr {cls:=.type "list",data:=.seq #[] K}) (hR:∀h' tk d c l (L:List (Int×Value)),(∀b o,b≠S₀->s.heap.get? b=Vr o->h'.get? b=Vr o)->h'.get? S₀=Vr {cls:=.type "list",dict:=Vs,data:=.seq c l,slots:=#[]}->L.Perm es.toList->c.toList=L.map (·.2)->R (.ok (.ret res)) {s with heap:=h',toks:=tk,drawn:=d}):Kq (Kr PR w) A.in1 (L3 (.ref S₀) (.ref a) res) (λz j=>match z with | .done f=>R (.ok f) j | .again l=>l.quiet=Vt/\Mx (Kr PR w) A l R j) (λe j=>R (.error e) j) s:=by
 have hT:=S.ty;unfold L3;refine Kg (Qx hT ?_);have h1:Ob (.ref S₀) (.ref a)=false:=by simp[Ob,M]
 have h2:(Nl "set"==Nl "list")=false:=by decide
 have h3:(Nl "set"==Nl "tuple")=false:=by decide
 simp only[h1,h2,h3,OK,OA,if_false];refine Kg (yp (A:=A.in1) hh S hz T λO d I fp P St L x nI J W hP N Q=>?_);have y:S₀<s.heap.objs.size:=LD Y;have p:S₀∉fp:=λm=>(J _ m).elim (λq=>absurd y (N5 q)) M;have r:∀(h:Heap) (H tk:Nat),St 0 h->(∀b o,b≠S₀->s.heap.get? b=Vr o->h.get? b=Vr o)->h.get? S₀=Vr {cls:=.type "list",data:=.seq #[] H}->Mx (Kr PR w) A (.builtin "list.extend.loop" ⟨[.ref S₀,.ref I,res],[]⟩) R {s with heap:=h,toks:=tk,drawn:=d}:=by
  intro h H tk C hk g;refine S7 W.toS (by rw[Ou];(first | walk_at "m" | lia)) S₀ p res es.size 0 _ #[] H rfl (LE _) C g (Tm _) λj c l U E u=>?_;rw[Tl U];refine hR j.heap j.toks d c l L (λb o k e=>U.heap b o (λi=>?_) (hk b o k e)) E N (zy u hP (by rw[N.length_eq,KN]));rcases Kw.mp i with e' | i
  ·exact k e'
  ·rw[Kk.mp i,nI] at e;cases e
 have g:=x _ _ Y;refine Kg (Lp (yr (s:={s with heap:=O,drawn:=d}) ((S.keep λo e=>x _ _ e).ty (S:={s with heap:=O,drawn:=d})) ?_));refine NK (λ_=>?_) (λ_=>Ks ⟨Op Ow _,r _ K _ Q (λb o _ e=>x _ _ e) g⟩);refine Kg (Qh ?_);refine Kg ?_;refine Kg (Rf g rfl ?_);have v:=Lq (N4 (·.push Nm)) g rfl;refine Rf (hz:=by seq_fits) v rfl ?_;have G:=Lq (N4 (·.pop)) v rfl;refine Ks ⟨Op Ow _,r _ _ _ ?_ (λb o k e=>?_) G⟩
 ·refine W.frame 0 _ _ Q λb k o e=>?_;have n:b≠S₀:=λh=>p (h▸k);exact (L9 _ _ (LV n)).trans ((L9 _ _ (LV n)).trans e)
 ·exact (L9 _ _ (LV k)).trans ((L9 _ _ (LV k)).trans (x _ _ e))
set_option backward.match.sparseCases true in
theorem rJ {R:List Value->Shared->Prop}(hh:A.handled=Vs) (S:fL s.heap a es ep t) (hz:es.size<=1000) (T:Tb t (ff w)) (h:∀h' tk d (L:List (Int×Value)),Kp s.heap h'->L.Perm es.toList->R (L.map (·.2)) {s with heap:=h',toks:=tk,drawn:=d}):Kq (Kr PR w) A (T0 (.ref a)) R E s:=by
 have u:a<s.heap.objs.size:=S.elim λo h=>LD h.1;unfold T0;refine Kg (Ux (M0 entry_proto_collect' ?_));rw[Nh PySem.F.plain_proto_collect _];show Kq _ A.in1 (TZ [] >>= λl=>again (.builtin "list.__iadd__" ⟨[l,.ref a],[]⟩)) _ _ s;refine Kg (LY ?_);refine Ks ⟨Op QL _,M0 entry_list_iadd' ?_⟩;rw[Nh QL _];have v:(s.heap.push {cls:=.type "list",data:=.seq ([]:List Value).toArray}).get? s.heap.objs.size=Vr {cls:=.type "list",data:=.seq #[]}:=Kt _ rfl;show Kq _ A.in1 (L3 (.ref s.heap.objs.size) (.ref a) (.ref s.heap.objs.size)) _ _ _;have n:=tw (A:=A) (s:={s with heap:=s.heap.push {cls:=.type "list",data:=.seq ([]:List Value).toArray}}) (res:=.ref s.heap.objs.size) (R:=λ(q:OM) (s':Shared)=>∃(h':Heap) (tk:Nat) (d:Rz) (c:Array Value) (j:Nat) (L:List (Int×Value)),q=.ok (.ret (.ref s.heap.objs.size))/\s'={s with heap:=h',toks:=tk,drawn:=d}/\Kp s.heap h'/\h'.get? s.heap.objs.size=Vr {cls:=.type "list",dict:=Vs,data:=.seq c j,slots:=#[]}/\L.Perm es.toList/\c.toList=L.map (·.2)) hh (S.keep λo e=>KM _ e) hz T (O5 u) v (λh' tk d c j L p i z g=>y5 h' tk d c j ⟨L,w6 rfl rfl (λb o e=>p b o (L4 (LD e)) (KM _ e)) i z g⟩);have k:∀{q:OM}{s':Shared},(∃(h':Heap) (tk:Nat) (d:Rz) (c:Array Value) (j:Nat) (L:List (Int×Value)),q=.ok (.ret (.ref s.heap.objs.size))/\s'={s with heap:=h',toks:=tk,drawn:=d}/\Kp s.heap h'/\h'.get? s.heap.objs.size=Vr {cls:=.type "list",dict:=Vs,data:=.seq c j,slots:=#[]}/\L.Perm es.toList/\c.toList=L.map (·.2))->
   ∃r,q=.ok (.ret r)/\r=.ref s.heap.objs.size/\Kq (Kr PR w) A (load s.heap.objs.size >>= λo=>match o.data with | .seq xs _=>pure xs.toList | _=>Vi "internal:collect") R E s':=λ{q s'} x=>by
  obtain ⟨h',tk,d,c,j,L,rfl,rfl,p,i,z,g⟩:=x;exact ⟨_,w3 rfl rfl (Kg (TA i (Ks (by show R c.toList _;rw[g];exact h h' tk d L p z))))⟩
 refine KQ n (λm s' x=>?_) λe s' x=>?_
 ·cases m with
  | done f=>
   obtain ⟨r,e,rfl,q⟩:=k x;cases e;exact q
  | again H=>
   refine ⟨x.1,Ps x.2 λq G y=>?_⟩;obtain ⟨r,rfl,rfl,q⟩:=k y;exact q
 ·obtain ⟨_,_,_,_,_,_,C,_⟩:=x;cases C
theorem sw {Q:Value->Shared->Prop}(hh:A.handled=Vs) (S:SetAt w (ff w) s.heap a σ) (P:σ.length<64) (h:∀h' tk d l vs c,Kp s.heap h'->s.heap.get? l=Vs->h'.get? l=Vr (lstO vs c)->Nt vs (fe σ)->vs.length<=16777216->Q (.ref l) {s with heap:=h',toks:=tk,drawn:=d}):Kq (Kr PR w) A (call (.builtin "sorted") [.ref a]) Q E s:=by
 obtain ⟨I,es,ep,t,M,C,R,G⟩:=S.at_;have K:=G.size;refine OE Vq Vc Vd (Ve _) ?_;unfold Mf.«sorted»;refine Kg (m:=checkCount "sorted" 1 1 _) (Ks ?_);refine Kg (rJ (A:=A.in1) hh ⟨I,w4 M C R G.fits⟩ (by lia) G.tb λh' tk d L k r=>?_);have x:Nt (L.map (·.2)) (L.map λe=>CO e.2):=by
  have:∀l:List (Int×Value),(∀e∈l,∃i u,e.2=.int i u)->Nt (l.map (·.2)) (l.map λe=>CO e.2):=λl=>by
   induction l with
   | nil=>exact λ_=>.nil
   | cons e l O=>
    intro q;obtain ⟨i,u,N⟩:=q e (.head _);rw[KG,KG,N];exact .cons i u (O λe j=>q e (.tail _ j))
  exact this L λe j=>G.int (r.mem_iff.mp j)
 have v:(L.map λe=>CO e.2).Perm σ:=(r.map _).trans G.perm;have T:=eU x;have F:=v.length_eq;refine Kg (UX (items:=L.map (·.2)) ?_ (bQ (by lia)));have f:(h'.push (TG "list" (L.map (·.2)).toArray 0)).get? h'.objs.size=Vr (TG "list" (L.map (·.2)).toArray 0):=Kt _ rfl;refine Kg (Lp (MR US ⟨_,f,rfl⟩ Uu (UT (s:={s with heap:=h'.push (TG "list" (L.map (·.2)).toArray 0),toks:=tk,drawn:=d}) f x (by lia) λout H y z J=>⟨_,rfl,?_⟩) (UU _)));obtain ⟨e,j⟩:=U2 (out:=out) f;have g:∀b o,s.heap.get? b=Vr o->b<h'.objs.size:=λb o e=>LD (k b o e);refine Ks ⟨_,rfl,h _ tk d h'.objs.size out.toList e (λb o n=>?_) ?_ (by rw[j]) ?_ ?_⟩
 ·have p:=g b o n;rw[UR (L4 p) (by rw[LK];exact Ml p)];exact aM _ _ _ _ (k b o n)
 ·cases e:s.heap.get? h'.objs.size with
  | none=>rfl
  | some o=>exact absurd (g _ o e) (MC _)
 ·rw[<- lS (z.trans v) J];exact y
 ·have:=eU y;have:=z.length_eq;lia
end
end
section
set_option linter.all false
section
variable {w:Lh}{A:Lg}{c:Cn}{x:X}{st:List SObj}{a b:Value}{d e o:D}{imm:Imm}{u v:V}
inductive RVs (w:Lh) (ρ:List Addr) (imm:Imm):List Value->List V->Prop
 | nil:RVs w ρ imm [] []
 | cons {v:Value}{vs:List Value}{u:V}{us:List V}:RV w ρ imm v u->RVs w ρ imm vs us->RVs w ρ imm (v::vs) (u::us)
theorem RVs.ind {ρ:List Addr}{M:List Value->List V->Prop}(h0:M [] []) (a:∀{v vs u us},RV w ρ imm v u->RVs w ρ imm vs us->M vs us->M (v::vs) (u::us)){vs:List Value}{us:List V}(h:RVs w ρ imm vs us):M vs us:=RVs.rec (motive:=λv d _=>M v d) h0 (λh r m=>a h r m) h
theorem RVs.mono {ρ c:List Addr}{imm b:Imm}(e:∀(l:Nat) (a:Addr),ρ[l]?=Vr a->c[l]?=Vr a) (d:∀p∈imm,p∈b){vs:List Value}{us:List V}(h:RVs w ρ imm vs us):RVs w c b vs us:=h.ind .nil λh _ r=>.cons (h.mono e d) r
theorem RVs.up {own:List Addr}{x y:X}{vs:List Value}{us:List V}(h:RVs c.w x.ρ x.imm vs us) (p:Adv c own x y):RVs c.w y.ρ y.imm vs us:=h.mono p.rho p.imm
theorem RVs.view {ρ:List Addr}{vs:List Value}{us:List V}(h:RVs w ρ imm vs us):LZ us (vs=[]) λu us=>∃v a,vs=v::a/\RV w ρ imm v u/\RVs w ρ imm a us:=h.ind (M:=λvs us=>LZ us (vs=[]) λu us=>∃v a,vs=v::a/\RV w ρ imm v u/\RVs w ρ imm a us) rfl λh r _=>⟨_,_,rfl,h,r⟩
theorem gD {ρ:List Addr}{α:Type}{f:V->Option α}{o:α}{vs:List Value}{us:List V}(r:RVs w ρ imm vs us) (e:fc us f=Vr o){P:List Value->Prop}(k:∀{v u},us=[u]->RV w ρ imm v u->f u=Vr o->P [v]):P vs:=by
 cases us with
 | nil=>exact au e
 | cons u us=>cases us with
  | cons=>exact au e
  | nil=>
   obtain ⟨v,a,rfl,h,r'⟩:=r.view;refine rp (show a=[] from r'.view) ?_;exact k rfl h e
theorem p6 {ρ:List Addr}{α:Type}{f:V->V->Option α}{o:α}{vs:List Value}{us:List V}(r:RVs w ρ imm vs us) (e:Dw us f=Vr o){P:List Value->Prop}(k:∀{v u a b},RV w ρ imm v u->RV w ρ imm a b->f u b=Vr o->P [v,a]):P vs:=by
 cases us with
 | nil=>exact au e
 | cons u us=>
  obtain ⟨v,d,rfl,h,r'⟩:=r.view;exact gD (P:=λvs=>P (v::vs)) r' e λ_ c e=>k h c e
theorem Gm {is:List Int}:(is.map λn:Int=>n.toNat.toUInt8)=is.map λi=>UInt8.ofNat i.toNat:=rfl
theorem A9 {bi:Bi}{vals:List Value}{vs:List V}(B:Bs c) (H:HI c st x) (hh:bi.eq .isinstance=Vu->A.handled=Vs) (rs:RVs c.w x.ρ x.imm vals vs) (h:bI st bi vs=Vr o):fT c.w A x (call bi.val vals) o:=by
 have g:∀{T:Value}{f:V->Option D},fc vs f=Vr o->(∀{v u},RV c.w x.ρ x.imm v u->f u=Vr o->fT c.w A x (call T [v]) o)->fT c.w A x (call T vals) o:=λ{T f} h k=>gD (P:=λvs=>fT c.w A x (call T vs) o) rs h λ_ r e=>k r e;have G:∀{T:Value}{f:D->Option D},(fc vs λv=>v.d?.bind f)=Vr o->(∀{v d},RD c.w x.imm v d->f d=Vr o->fT c.w A x (call T [v]) o)->fT c.w A x (call T vals) o:=λ{T f} h k=>g h λr e=>aA e λd y e=>k (r.onD y) e;cases bi with
 | len=>exact g h λr e=>aV e λn y e=>FQ e <| Fs H r y
 | range=>exact cL h (λh=>G h λr e=>aV e λn y e=>FQ e <| r.intL (T:=λa=>call (.type "range") [a]) y λt=>.push rfl (RD.rng (.head _)) λQ E q=>call_range_1 q) λh=>p6 (P:=λvs=>fT c.w A x (call (.type "range") vs) o) rs h λr L e=>aA e λd y e=>aA e λd' C e=>dS (T:=λa b=>call (.type "range") [a,b]) (r.onD y) (L.onD C) e λi j t u e=>et e <| .push rfl (RD.rng (.head _)) λQ E q=>call_range_2 q
 | sum=>exact G h λr e=>aA e λl y e=>aV e λU C e=>FQ e <| r.lstL (T:=λa=>call (.builtin "sum") [a]) y λm z rs=>.stay λQ E q=>x9 (hh rfl) (aJ (H.immIn _ m)) (gq rs C) λF K t' k=>q _ F K k (RD.int _ _)
 | list=>exact G h λr e=>Cy H (hh rfl) r e
 | bytes=>
  exact G h λr e=>aA e λl y e=>aA e λU C e=>bD e λN e=>et e <| r.lstL (T:=λa=>call (.type "bytes") [a]) y λm z rs=>by
       have O:=gq rs C;have Y:=eU O;exact .stay λQ E q=>call_bytes_ints (aJ (H.immIn _ m)) O N.2 (bQ (by walk_at "n")) (hh rfl) λF t K k=>q _ F K k (RD.bytes _ t (by rw[Kz,Ke];walk_at "n"))
 | tuple=>
  exact g h λr e=>aV e λl y e=>FQ e <| H.lsL (T:=λa=>call (.type "tuple") [a]) r y λ{p J n} M z rs=>.grown λQ E q=>call_tuple_list (aJ M) (λF k=>q (F.push (dU J 0)) x.S.toks F.objs.size (dU J 0) (λb o e=>aM _ _ _ _ (k b o e)) (by
         cases e:x.h.get? F.objs.size with
         | none=>rfl
         | some o=>exact absurd (LD (k _ _ e)) (MC _)) (Kt _ rfl) (.tup (.head _) z (mD rs))) (bQ (by rw[Kz];exact z))
 | bool=>exact g h λr e=>aV e λl y e=>FQ e <| H.lsL (T:=λa=>call (.type "bool") [a]) r y λ{p J n} M z rs=>.stay λQ E q=>call_bool_1 (nG p J.toArray (qP z)) ⟨aJ M,show OX (λI R=>R.TypeIs I "bool"/\Q I R) E _ _ from ⟨rfl,q _ x.h _ (λ_ _ e=>e) (by rw[s8 rs];exact .bool _)⟩⟩
 | sorted=>exact G h λr e=>yh H (hh rfl) r e
 | ord=>
  exact G h λr e=>aA e λs y e=>bD e λN e=>aV e λn C e=>FQ e <| by
       have hs:s=⟨#[n]⟩:=by
        obtain ⟨⟨l⟩⟩:=s;rcases l with _ | ⟨m,_ | _⟩<;>first | (cases Kd C;rfl) | cases N
       subst hs;exact r.strL (T:=λa=>call (.builtin "ord") [a]) y λt z=>.int λQ E q=>PySem.P.ord_of_char q
 | isinstance=>exact p6 (P:=λvs=>fT c.w A x (call (.builtin "isinstance") vs) o) rs h λr L e=>aA e λd y e=>aV e λb C e=>FQ e <| wG B H r (L.onD y) C
 | _=>exact au h
end
end
section
set_option linter.all false
section
variable {c:Cn}{cx:Cx}{env:Env}{own own':List Addr}{fr:List (Str×V)}{x y:X}{z:Z}{s:St}
theorem EI.advD (H:EI c cx env own fr x) (p:Adv c own' x y) (J:env.locals∉own') (C:∀n a,cC (cx.names.lookup n)=Vt->env.cells.lookup n=Vr a->a∉own'):EI c cx env own fr y where
 kind:=H.kind
 glb:=H.glb
 blt:=H.blt
 names:=H.names
 ns:=by
  obtain ⟨m,⟨o,A,s,d,i⟩,b⟩:=H.ns;refine ⟨m,?_,λn v g l=>(b n v g l).imp λ_ h=>⟨h.1,h.2.up p⟩⟩;exact (p.keep _ _ d J (H.ownI _ H.loc).1).elim (λe=>y3 o A s ⟨e,i⟩) λe=>e.2.elim λE e=>y3 _ A s ⟨e,i⟩
 cells:=λn f=>by
  obtain ⟨a,o,val,d,i,j,t⟩:=H.cells n f;have r:∀v,get n fr=Vr v->∃u,val=Vr u/\RV c.w y.ρ y.imm u v:=λv g=>(t v g).imp λ_ h=>⟨h.1,h.2.up p⟩
  exact (p.keep _ _ i (C n a f d) (H.cellL n a f d).1).elim (λe=>y3 a o val (w4 d e j r)) λe=>e.2.elim λE e=>y3 a _ val (w4 d e j r)
 loc:=H.loc
 ownI:=λa G=>by
  obtain ⟨z,I,K,o,e⟩:=H.ownI a G;exact w4 (p.off e z) (λq F k=>(p.immN q F).elim (λm=>I q m k) λm=>m.elim (λm=>au ((k▸m).symm.trans e)) λm=>z (k▸m)) K (p.alive a o e)
 cellI:=H.cellI
 cellO:=H.cellO
 cellL:=λn a f e=>by
  obtain ⟨a',o,val,d,i,j,t⟩:=H.cells n f;obtain rfl:a=a':=Kd (e.symm.trans d);exact ⟨p.off i (H.cellL n a f e).1,(H.cellL n a f e).2⟩
theorem EI.adv (H:EI c cx env own fr x) (p:Adv c [] x y):EI c cx env own fr y:=H.advD p MJ λ_ _ _ _=>MJ
noncomputable def uj (c:Cn) (x:X) (res:Res V) (Q:Value->Shared->Prop) (E:Value->Shared->Prop):Prop:=Res.casesOn res (λv s=>∀b y,HI c s.st y->Adv c [] x y->RV c.w y.ρ y.imm b v->Q b y.S) (λk as s=>∀a y,HI c s.st y->Adv c [] x y->dX Vu c x y a k as->E (.ref a) y.S) False
def ip (k:Nat) (a:Addr) (vs:List V) (st:List SObj) (res:Res V):Prop:=∀{cx:Cx}{z:Z}{fr:List (Str×V)}{x:X}{vals:List Value},Ok k cx z->z.A.handled=Vs->At cx z ⟨fr,st⟩ x->RVs z.c.w x.ρ x.imm vals vs->
 ∀(Q:Value->Shared->Prop) (E:Value->Shared->Prop),uj z.c x res Q E->Mx (Kr PR z.c.w) z.A (.call (.ref a) ⟨vals,[]⟩) (OX Q E) x.S
def Bt (k:Nat) (b:Array UInt8) (l:Nat) (d:D) (st:List SObj) (res:Res V):Prop:=∀{cx:Cx}{z:Z}{fr:List (Str×V)}{x:X}{val:Value}{f a:Addr},Ok k cx z->z.A.handled=Vs->At cx z ⟨fr,st⟩ x->x.ρ[l]?=Vr a->FnIs x.imm f b a->Gp z x val d->
 ∀(Q:Value->Shared->Prop) (E:Value->Shared->Prop),uj z.c x res Q E->Mx (Kr PR z.c.w) z.A (.call (.ref f) ⟨[val],[]⟩) (OX Q E) x.S
noncomputable def RF (z:Z) (y:X) (f:QE) (g:Fl):Prop:=Fl.casesOn g (f=.next) (f=.brk) (f=.cont) λv=>∃b,f=.ret b/\aZ z y b v
structure Ev (k:Nat) (cx:Cx) (e:Kf) where
 f:St->Res V
 ok:∀{z:Z}{s:St}{x:X},Ok k cx z->At cx z s x->aN cx z (aZ z) x (f s) (tr z (MT e z.env))
structure Ts (k:Nat) (cx:Cx) (e:Kf) where
 f:St->Res Bool
 ok:∀{z:Z}{s:St}{x:X},Ok k cx z->At cx z s x->aN cx z HZ x (f s) (tr z (isTrue e z.env (MT e z.env)))
structure Xs (k:Nat) (cx:Cx) (l:List Stmt) where
 f:St->Res Fl
 ok:∀{z:Z}{s:St}{x:X},Ok k cx z->At cx z s x->aN cx z (RF z) x (f s) (tr z (Vm l z.env))
structure Ex (k:Nat) (cx:Cx) (t:Stmt) where
 f:St->Res Fl
 ok:∀{z:Z}{s:St}{x:X},Ok k cx z->At cx z s x->aN cx z (RF z) x (f s) (tr z (exec t z.env))
structure Sr (k:Nat) where
 ev:∀cx e,Ev k cx e
 ts:∀cx e,Ts k cx e
 xs:∀cx l,Xs k cx l
 call:Addr->List V->List SObj->Res V
 callOk:∀a vs st,ip k a vs st (call a vs st)
 rd:Array UInt8->Nat->D->List SObj->Res V
 rdOk:∀b l d st,Bt k b l d st (rd b l d st)
noncomputable def Ev.bad {k:Nat}{cx:Cx}{e:Kf}:Ev k cx e:=⟨λ_=>.bad,λ_ _=>.bad⟩
noncomputable def Ts.bad {k:Nat}{cx:Cx}{e:Kf}:Ts k cx e:=⟨λ_=>.bad,λ_ _=>.bad⟩
noncomputable def Ex.bad {k:Nat}{cx:Cx}{e:Stmt}:Ex k cx e:=⟨λ_=>.bad,λ_ _=>.bad⟩
noncomputable def BB (id:Str):Bool:=!(id==sn "__debug__")&&!(id==sn "__classdict__")
noncomputable def dQ (st:List SObj) (l:Nat):Option (D×List SObj):=(st[l]?).bind λo=>(o.list?.map λds=>(.lst ds,st.set l .gone)).or (o.dict?.map λds=>(.dct ds,st.set l .gone))
noncomputable def GM (id:Str) (v:V) (s:St):Res V:=V.casesOn v (λ_=>.ok v s) (λl=>MI (dQ s.st l) (.ok v s) λp=>.ok (.d p.1) ⟨aY id (.d p.1) s.fr,p.2⟩) (λ_=>.ok v s) (λ_=>.ok v s) λ_ _=>.ok v s
noncomputable def dO (id:Str) (s:St):Res V:=MI (get id s.fr) .bad λv=>GM id v s
noncomputable def cO (id:Str) (s:St):Res V:=cP (get id s.fr) s
theorem EI.sub {fr':List (Str×V)}(H:EI c cx env own fr x) (h:∀n a,get n fr'=Vr a->∃v,get n fr=Vr v/\∀val,RV c.w x.ρ x.imm val v->RV c.w x.ρ x.imm val a):EI c cx env own fr' x:=⟨H.kind,H.glb,H.blt,H.names,H.ns.imp λm k=>⟨k.1,λn a g l=>(h n a g).elim λv e=>(k.2 n v e.1 l).imp λ_ q=>⟨q.1,e.2 _ q.2⟩⟩,λn b=>(H.cells n b).imp λ_ q=>q.imp λ_ q=>q.imp λ_ q=>w4 q.1 q.2.1 q.2.2.1 (λa g=>(h n a g).elim λv e=>(q.2.2.2 v e.1).imp λ_ w=>⟨w.1,e.2 _ w.2⟩),H.loc,H.ownI,H.cellI,H.cellO,H.cellL⟩
theorem uR {n:Str}{pos:Pos}{v:V}(a:At cx z s x) (H:hW (cx.names.lookup n)=Vt) (g:BB n=Vt) (t:get n s.fr=Vr v):∃val,aZ z x val v/\∀Q E,Q val x.S->Kq (Kr PR z.c.w) z.A (MT (.Name n pos) z.env) Q E x.S:=by
 have F:=a.F;have g:=Kn.mp g;have j:(n==("__debug__" : Str))=false:=KO _▸g.1;have i:(n==("__classdict__" : Str))=false:=KO _▸g.2;refine (zf H).elim (λl=>?_) λy=>?_
 ·refine aC λJ f=>?_;obtain ⟨m,G,K⟩:=F.ns;obtain ⟨val,e,r⟩:=K n v t l;refine f ?_;exact ⟨val,r,λQ E q=>wpAny_Name (wpAny_loadName_local F.kind ((F.names n).1 l) G e q) j⟩
 ·refine aC λJ f=>?_;obtain ⟨b,o,w,k,C,p,L⟩:=F.cells n y;obtain ⟨u,rfl,r⟩:=L v t;refine f ?_;refine ⟨u,r,λQ E q=>wpAny_Name ?_ j⟩;have d:=(F.names n).2.1 y;cases h:z.env.kindOf n with
  | none=>rw[h] at d;cases d
  | some I=>
   rw[h] at d;cases I with
   | cell=>exact wpAny_loadName_cell F.kind h k ⟨o,C,p⟩ q
   | free=>exact wpAny_loadName_free F.kind h k ⟨o,C,p⟩ q i
   | _=>cases d
theorem FD {l:Nat}{p:D×List SObj}{val:Value}(a:At cx z s x) (B:Bs z.c) (r:aZ z x val (.loc l)) (h:dQ s.st l=Vr p):∃y,y.S=x.S/\Nx cx z x ⟨s.fr,p.2⟩ y (y.ρ=x.ρ/\(∀q∈x.imm,q∈y.imm)/\Gp z y val p.1):=by
 refine aC λf d=>?_;obtain ⟨b,rfl,h1⟩:=r;refine d ?_;refine aA h λo u h=>?_;refine aC λf d=>?_;obtain ⟨C,A,v,i,j⟩:=a.H.foot l o u;refine d ?_;obtain rfl:=Kd (h1.symm.trans v);refine cL h (λh=>aV h λw g e=>?_) λh=>aV h λw g e=>?_
 ·refine aC λf d=>?_;obtain rfl:=eO g;subst e;obtain ⟨t,n,rfl,hz,rs⟩:=j;refine d ?_;exact ⟨x.frz l (b,lstO t n),rfl,a.frz (so:=.gone) i (λ_ _=>.inl rfl) (w3 rfl (λ_ h=>.tail _ h) (.lst (.head _) hz (mD rs)))⟩
 ·refine aC λf d=>?_;obtain rfl:=iL g;subst e;obtain ⟨o,k,rfl,hd,rk⟩:=j;obtain ⟨E,m⟩:=B.sys;refine d ?_;refine ⟨x.frz l (b,o),rfl,a.frz (so:=.gone) i (λ_ _=>.inl rfl) (w3 rfl (λ_ h=>.tail _ h) (.dct (.head _) hd (beq_eq_false_iff_ne.mpr λq=>?_) (rk.mono λ_ h=>.tail _ h)))⟩;exact au ((a.H.ledB _ (HI.mem i (.head _))).symm.trans (q▸m))
theorem At.toFr {fr':List (Str×V)}(a:At cx z s x) (h:∀n b,get n fr'=Vr b->∃v,get n s.fr=Vr v/\∀val,aZ z x val v->aZ z x val b):At cx z ⟨fr',s.st⟩ x:=⟨a.H,a.F.sub h⟩
theorem Cd {n:Str}{pos:Pos}(B:Bs z.c) (a:At cx z s x) (m:hW (cx.names.lookup n)=Vt) (o:BB n=Vt):aN cx z (aZ z) x (dO n s) (tr z (MT (.Name n pos) z.env)):=by
 unfold dO;cases i:get n s.fr with
 | none=>exact .bad
 | some v=>
  obtain ⟨val,r,h⟩:=uR (pos:=pos) a m o i;have plain:aN cx z (aZ z) x (.ok v s) (tr z (MT (.Name n pos) z.env)):=.pure a r h;cases v with
  | loc l=>
   show aN cx z (aZ z) x (MI (dQ s.st l) (.ok (.loc l) s) λp=>.ok (.d p.1) ⟨aY n (.d p.1) s.fr,p.2⟩) _;cases k:dQ s.st l with
   | none=>exact plain
   | some p=>
    obtain ⟨y,e,f⟩:=FD a B r k;refine λQ E q=>h Q E (e▸q val y ⟨⟨f.at_.H,f.at_.F.sub λj t g=>?_⟩,f.adv,f.r.2.2⟩);rw[cV] at g;by_cases e:j=n
    ·rw[if_pos e] at g;refine ⟨_,e▸i,λu w=>Kd g▸?_⟩;obtain ⟨b,rfl,h1⟩:=w;obtain ⟨A,rfl,h2⟩:=r;rw[f.r.1,h2] at h1;exact Kd h1▸f.r.2.2
    ·rw[if_neg e] at g;exact ⟨t,g,λ_ h=>h⟩
  | _=>exact plain
theorem iD {α:Type}{n:Str}{d:α}:∀{l:List (Str×α)},bY n l=Vr d->(n,d)∈l:=@lr _ _ (@λh=>au h) (λp r a=>(@λh=>if e:p.1=n then by
   obtain rfl:=e;exact Kd ((if_pos rfl).symm.trans h)▸.head _
  else .tail _ (a ((if_neg e).symm.trans h))))
theorem zQ:ib.all (λp=>!(p.1==sn "__debug__"))=true:=by decide +kernel
theorem jX {n:Str}{pos:Pos}{d:D}(B:Bs z.c) (a:At cx z s x) (k:cx.names.lookup n=Vr .globalImplicit) (g:bY n ib=Vr d):∃val,Gp z x val d/\∀Q E,Q val x.S->Kq (Kr PR z.c.w) z.A (MT (.Name n pos) z.env) Q E x.S:=by
 refine aC λm e=>?_;obtain ⟨val,⟨mg,l,b⟩,r⟩:=B.gl n d g;refine e ?_;have F:=a.F;have j:(n==("__debug__" : Str))=false:=(KO _).mp (KS.mp zQ _ (iD g));refine ⟨val,r _ a.H.imm0,λQ E q=>Calls.Name_function_global F.kind ((F.names n).2.2.1 k) ?_ j⟩;have f:x.h.Ns z.env.globals mg:=F.glb▸l.keeps a.H.base;exact b.elim (λb=>Calls.loadGlobal_global f b q) λb=>b.2.elim λo i=>Calls.loadGlobal_builtin f b.1 (F.blt▸i.1.keeps a.H.base) i.2 q
noncomputable def cK (cx:Cx) (id:Str) (s:St):Res V:=if cx.names.lookup id=Vr .globalImplicit then cP ((bY id ib).map .d) s else if (hW (cx.names.lookup id)&&BB id)=Vt then (if cx.comp=Vt then cO id s else dO id s) else .bad
theorem uK {n:Str}{pos:Pos}(a:At cx z s x) (c:hW (cx.names.lookup n)=Vt) (d:BB n=Vt):aN cx z (aZ z) x (cO n s) (tr z (MT (.Name n pos) z.env)):=.opt λv b=>(uR (pos:=pos) a c d b).elim λval h=>.pure a h.1 h.2
theorem kF {n:Str}{pos:Pos}(B:Bs z.c) (a:At cx z s x):aN cx z (aZ z) x (cK cx n s) (tr z (MT (.Name n pos) z.env)):=by
 unfold cK;by_cases b:cx.names.lookup n=Vr .globalImplicit
 ·rw[if_pos b];exact .opt λv i=>aV i λd g e=>e▸(jX (pos:=pos) B a b g).elim λval h=>.pure a h.1 h.2
 ·rw[if_neg b];refine aN.ite λh=>?_;have h:=Kn.mp h;by_cases f:cx.comp=Vt
  ·rw[if_pos f];exact uK a h.1 h.2
  ·rw[if_neg f];exact Cd B a h.1 h.2
end
variable {k:Nat}{cx:Cx}
noncomputable def pN (n:Str) (pos:Pos):Ev k cx (.Name n pos):=⟨cK cx n,λo a=>kF o.B a⟩
noncomputable def l0 (n:Str) (pos:Pos):Ev k cx (.Name n pos):=⟨λs=>if (hW (cx.names.lookup n)&&BB n)=Vt then cO n s else cK cx n s,λ{z s x} o a=>by
 by_cases h:(hW (cx.names.lookup n)&&BB n)=Vt
 ·have h':=Kn.mp h;rw[if_pos h];exact uK a h'.1 h'.2
 ·rw[if_neg h];exact kF o.B a⟩
noncomputable def ek (r:Sr k) (cx:Cx) (e:Kf):Ev k cx e:=match e with
 | .Name id p=>l0 id p
 | e=>r.ev cx e
end
section
set_option linter.all false
section
variable {cx:Cx}{z:Z}{s:St}{x y:X}{k:Nat}{env:Env}
noncomputable def optE {α β:Type}(o:Option α) (b:β) (f:α->β):β:=MI o b f
noncomputable def bb (e:Kf):Option Kf:=match e with
 | .Starred a _=>Vr a
 | _=>Vs
theorem lv {e:Kf}{es:List Kf}(h:bb e=Vs):LH (e::es) env=(Vu,MT e env)::LH es env:=by
 cases e<;>first | rfl | cases h
theorem pA {e a:Kf}(h:bb e=Vr a):∃p,e=.Starred a p:=by
 cases e<;>first | exact au h | exact ⟨_,by rw[Kd h]⟩
noncomputable def aO:List Kf->Bool
 | []=>Vt
 | e::es=>(Ro es||(bb e).isNone)&&aO es
noncomputable def kP (z:Z):List Kf->eZ (List Value)
 | []=>λQ _ s=>Q [] s
 | e::es=>optE (bb e) (λQ E s=>Kq (Kr PR z.c.w) z.A (MT e z.env) (λv b=>kP z es (λvs d=>Q (v::vs) d) E b) E s) λa Q E s=>Kq (Kr PR z.c.w) z.A (MT a z.env) (λv b=>Ry (Kr PR z.c.w) z.A E v Q b) E s
theorem fm {e:Kf}{es:List Kf}(h:bb e=Vs):kP z (e::es)=λQ E s=>Kq (Kr PR z.c.w) z.A (MT e z.env) (λv a=>kP z es (λvs b=>Q (v::vs) b) E a) E s:=by
 show optE (bb e) _ _=_;rw[h];rfl
theorem kL {e a:Kf}{es:List Kf}(h:bb e=Vr a):kP z (e::es)=λQ E s=>Kq (Kr PR z.c.w) z.A (MT a z.env) (λv b=>Ry (Kr PR z.c.w) z.A E v Q b) E s:=by
 show optE (bb e) _ _=_;rw[h];rfl
theorem Go:∀{es:List Kf}{Q c:List Value->Shared->Prop}{E:Value->Shared->Prop}{S:Shared},kP z es Q E S->(∀vs s,Q vs s->c vs s)->kP z es c E S:=@lr _ _ (@λ_ _ _ _ h k=>k _ _ h) (λe es g=>(@λQ c E S h k=>by
  cases hs:bb e with
  | none=>
   rw[fm hs] at h ⊢;exact KQ h (λv i d=>g d λvs s q=>k _ _ q) λ_ _ e=>e
  | some a=>
   rw[kL hs] at h ⊢;exact KQ h (λv i d=>KQ d (λb l f=>⟨f.1,KQ f.2 (λvs m j=>k _ _ j) λ_ _ e=>e⟩) λ_ _ e=>e) λ_ _ e=>e))
theorem iV {e:Kf}{es:List Kf}(h:aO (e::es)=Vt):(bb e≠Vs->es=[])/\aO es=true:=by
 have h:=Kn.mp h;refine ⟨λn=>?_,h.2⟩;cases es with
 | nil=>rfl
 | cons=>cases hs:bb e with
  | none=>exact absurd hs n
  | some a=>rw[hs] at h;cases h.1
theorem ei {pos:Pos}:∀{es:List Kf}{Q:List Value->Shared->Prop}{E:Value->Shared->Prop}{S:Shared},aO es=Vt->kP z es Q E S->Kq (Kr PR z.c.w) z.A (spliced (Mw pos (LH es z.env))) Q E S:=@lr _ _ (@λQ E S _ h=>Sl h) (λe es j=>(@λQ E S d h=>by
  have d:=iV d;cases hs:bb e with
  | none=>
   rw[fm hs] at h;rw[lv hs];exact Calls.spliced_cons (KQ h (λv k f=>j d.2 f) λ_ _ e=>e)
  | some a=>
   rw[kL hs] at h;obtain ⟨p,rfl⟩:=pA hs;refine rp (d.1 (by rw[hs];exact nofun)) ?_;exact items_star (KQ h (λv k f=>KQ f (λb m g=>⟨g.1,KQ g.2 (λi n l=>Sl (by rw[LG];exact l)) λ_ _ e=>e⟩) λ_ _ e=>e) λ_ _ e=>e)))
theorem fu {f:Value}{first:List Value}{pos:Pos}{P:Heap->Prop}{es:List Kf}{Q:Value->Shared->Prop}{E:Value->Shared->Prop}{S:Shared}(l:aO es=Vt) (i:∀h,P h->∃k,(k=PN\/k=O9\/k=OD)/\T7 (Kr PR z.c.w) h (S5 f) k) (h:kP z es (λvs g=>P g.heap/\Kq (Kr PR z.c.w) z.A (call f (first++vs)) Q E g) E S):Kq (Kr PR z.c.w) z.A (M2 pos f first (Mw pos (LH es z.env)) []) Q E S:=by
 cases es with
 | nil=>exact Vo rfl i (evalArgs_nil3 h)
 | cons e es=>
  cases hs:bb e with
  | none=>
   have j:=ei (pos:=pos) l h;rw[lv hs] at j ⊢;have d:Kq (Kr PR z.c.w) z.A (evalArgs f Vt ((Vu,MT e z.env)::Mw pos (LH es z.env)) []) (λa g=>P g.heap/\Kq (Kr PR z.c.w) z.A (call f (first++a.pos) a.kw) Q E g) E S:=RA (f:=f) j;cases b:(Mw pos (LH es z.env)).any (·.1) with
   | false=>exact Vo (by show ((Vu||(Mw pos (LH es z.env)).any (·.1))||false)=Vu;rw[b];rfl) i d
   | true=>exact ks_call (by show (Vu||(Mw pos (LH es z.env)).any (·.1))=Vt;rw[b];rfl) i d
  | some a=>
   obtain ⟨p,rfl⟩:=pA hs;refine rp ((iV l).1 (by rw[hs];exact nofun)) ?_;exact ks_call rfl i (ks_lone h)
abbrev dJ (z:Z) (y:X) (b:List Value) (v:List V):Prop:=RVs z.c.w y.ρ y.imm b v
noncomputable def v7 (v:V):Option (List V):=v.d?.bind λd=>(d.lst?.or d.tup?).map λl=>l.map .d
noncomputable def bM (g:∀e,Ev k cx e):List Kf->St->Res (List V)
 | [],s=>.ok [] s
 | e::es,s=>optE (bb e) ((g e).f s |>.bind λv s=>(bM g es s).bind λvs s=>.ok (v::vs) s) λa=>if Ro es=Vt then (g a).f s |>.bind λv s=>cP (v7 v) s else .bad
theorem ph {w:Lh}{ρ:List Addr}{a:Imm}{us:List Value}{ds:List D}(r:RDs w a us ds):RVs w ρ a us (ds.map .d):=r.ind (M:=λus ds=>RVs w ρ a us (ds.map .d)) .nil λh _ b=>.cons h b
theorem B3 {v:Value}{u:V}{us:List V}(a:At cx z s x) (r:aZ z x v u) (h:v7 u=Vr us):aN cx z (dJ z) x (.ok us s) (λQ E b=>Ry (Kr PR z.c.w) z.A E v Q b):=by
 have I:∀{p:Addr}{o:Obj}{T:String}{g:List Value}{n:Nat}{k:List D},x.h.get? p=Vr o->o.cls=.type T->o.data=.seq g.toArray n->(T = "list"\/T = "tuple")->g.length<=16777216->RDs z.c.w x.imm g k->k.map .d=us->aN cx z (dJ z) x (.ok us s) (λQ E b=>Ry (Kr PR z.c.w) z.A E (.ref p) Q b):=by
  intro p o T g n k y J K G j f e Q E q;have t:Kq (Kr PR z.c.w) z.A (T0 (.ref p)) Q E x.S:=TU p G y J K (λM L=>q g (x.gr M x.S.toks []) (a.kp (ex:=[]) L (λ_ h=>nomatch h) (e▸ph f))) (bQ (by rw[Kz];exact j));have i:x.S.TypeIs (.ref p) T:=⟨o,y,J⟩
  unfold Ry notIterableAtAll;rcases G with rfl | rfl
  ·exact Kg (OB i PySem.F.slot_list_iter.lookup (Ks ⟨rfl,t⟩))
  ·exact Kg (OB i PySem.F.slot_tuple_iter.lookup (Ks ⟨rfl,t⟩))
 exact aA h λd C h=>aV h λk h e=>cL h (λl=>RD.onLst (P:=λv=>aN cx z (dJ z) x (.ok us s) (λQ E b=>Ry (Kr PR z.c.w) z.A E v Q b)) (r.onD C) l λm j f=>I (a.H.immIn _ m) rfl rfl (.inl rfl) j f e) λl=>RD.onTup (P:=λv=>aN cx z (dJ z) x (.ok us s) (λQ E b=>Ry (Kr PR z.c.w) z.A E v Q b)) (r.onD C) l λm j f=>I (a.H.immIn _ m) rfl rfl (.inr rfl) j f e
theorem eP (g:∀e,Ev k cx e) (o:Ok k cx z):∀{es:List Kf}{s:St}{x:X},At cx z s x->aN cx z (dJ z) x (bM g es s) (kP z es):=@lr _ _ (@λs x a=>.pure a .nil λ_ _ q=>q) (λe es i=>(@λs x a=>by
  show aN cx z (dJ z) x (optE (bb e) _ _) _;cases hs:bb e with
  | none=>
   rw[fm hs];exact ((g e).ok o a).bind (K:=λv Q E l=>kP z es (λb f=>Q (v::b) f) E l) λv p c y n=>(i n.at_).bind (P:=kP z es) (K:=λb Q _ d=>Q (c::b) d) λb s2 t w m=>.pure m.at_ (.cons (n.r.up m.adv) m.r) λ_ _ q=>q
  | some j=>
   rw[kL hs];exact aN.ite λ_=>((g j).ok o a).bind λv p c y n=>.opt λu h=>B3 n.at_ n.r h))
noncomputable def ej:List V->Option (List D)
 | []=>Vr []
 | v::r=>v.d?.bind λd=>(ej r).map (d::·)
theorem kj {w:Lh}{ρ:List Addr}{a:Imm}{us:List Value}{vs:List V}(r:RVs w ρ a us vs):∀{ds:List D},ej vs=Vr ds->RDs w a us ds:=r.ind (M:=λus vs=>∀{ds:List D},ej vs=Vr ds->RDs w a us ds) (λ{_} h=>Kd h▸.nil) λ{_ _ _ _} h _ c {_} e=>aA e λd b e=>aV e λds g f=>by
  obtain rfl:=tL b;exact f▸.cons h (c g)
def ui (c:Cn) (f:Value):Prop:=∀h,c.hb.StaysIn h->∃k,(k=PN\/k=O9\/k=OD)/\T7 (Kr PR c.w) h (S5 f) k
theorem mu {c:Cn}{f:Value}(h:∀a,f≠.ref a):ui c f:=λb _=>⟨.machine,.inr (.inl rfl),T7.of_pure (by cases f<;>first | rfl | exact absurd rfl (h _))⟩
theorem iM {f:Value}{first:List Value}{pos:Pos}{es:List Kf}{res:Res (List V)}{g:List V->St->Res V}{P:Heap->Prop}(d:aO es=Vt) (e:aN cx z (dJ z) x res (kP z es)) (a:∀h,P h->∃k,(k=PN\/k=O9\/k=OD)/\T7 (Kr PR z.c.w) h (S5 f) k) (i:∀(s:St) (y:X),At cx z s y->Adv z.c z.own x y->P y.h) (j:∀vs s1 vals y,Nx cx z x s1 y (dJ z y vals vs)->aN cx z (aZ z) y (g vs s1) (tr z (call f (first++vals)))):aN cx z (aZ z) x (res.bind g) (tr z (M2 pos f first (Mw pos (LH es z.env)) [])):=λQ E q=>
 fu (P:=P) d a (e _ E (q.bind (.refl _ _ _) (λvs s1 vals y n b=>⟨i s1 y n.at_ n.adv,j vs s1 vals y n Q E (b.adv n.adv)⟩) λ_ _ _ _ y n l=>l y n))
end
end
section
set_option linter.all false
section
variable {cx:Cx}{z:Z}{s:St}{x y:X}{k:Nat}{b:Value}{v:V}
theorem Lf.refB {T:O0 Bool}{r:Bool}(l:Iq z.c.w z.A x T r) (a:At cx z s x):aN cx z HZ x (.ok r s) (tr z T):=Lf.ref (λQ E q=>l Q E λb f g d k e r=>q b f g d k e λ_ _ _=>r) a
theorem Lf.refV {T:O0 Value}{v:V}(l:xB z.c.w z.A x T v) (a:At cx z s x):aN cx z (aZ z) x (.ok v s) (tr z T):=λQ E q=>l Q E λb f g d k e r=>q b (x.gr f g d) (a.kp k e r)
noncomputable def okD (o:Option D) (s:St):Res V:=cP (o.map V.d) s
theorem aN.optD {T:O0 Value}{o:Option D}(a:At cx z s x) (h:∀d,o=Vr d->fT z.c.w z.A x T d):aN cx z (aZ z) x (okD o s) (tr z T):=.opt λv f=>aV f λd b e=>e▸(h d b).refD a
theorem kt (a:At cx z s x) (c:aZ z x b v):aN cx z HZ x (cP (cc s.st v) s) (tr z (Oi b)):=.opt λr d=>(xV a.H c d).refB a
theorem aN.done {α β:Type}{RB:X->β->α->Prop}{u:α}{b:β}(a:At cx z s x) (h:RB x b u):aN cx z RB x (.ok u s) (λQ _ c=>Q b c):=.pure a h λ_ _ q=>q
theorem pT {β γ:Type}{t:Kf}{RB:X->β->γ->Prop}{p q:O0 β}{P:eZ β}(T:Ts k cx t){f g:St->Res γ}(o:Ok k cx z) (a:At cx z s x) (i:∀{s:St}{y:X},At cx z s y->aN cx z RB y (f s) (tr z p)) (e:∀{s:St}{y:X},At cx z s y->aN cx z RB y (g s) (tr z q)) (h:∀Q E,Kq (Kr PR z.c.w) z.A (isTrue t z.env (MT t z.env)) (λb d=>if b then Kq (Kr PR z.c.w) z.A p Q E d else Kq (Kr PR z.c.w) z.A q Q E d) E x.S->P Q E x.S):aN cx z RB x ((T.f s).bind λc s=>cond c (f s) (g s)) P:=(aN.bind (K:=λb Q E d=>if b then Kq (Kr PR z.c.w) z.A p Q E d else Kq (Kr PR z.c.w) z.A q Q E d) (T.ok o a) λc s b y n=>by
  refine rq (show b=c from n.r) ?_;cases b with
  | true=>exact i n.at_
  | false=>exact e n.at_).of h
end
variable {k:Nat}{cx:Cx}
noncomputable def AO (c:Const) (n:Nat) (p:Pos):Ev k cx (.Constant c n p):=match c with
 | .none=>⟨λs=>.ok (.d .non) s,λ_ a=>.pure a RD.non λ_ _ q=>wpAny_Constant_none q⟩
 | .bool b=>⟨λs=>.ok (.d (.bool b)) s,λ_ a=>.pure a (RD.bool b) λ_ _ q=>wpAny_Constant_bool q⟩
 | .int i=>⟨λs=>.ok (.d (.int i)) s,λ_ a=>Lf.refD (.int λ_ _ q=>Qj q) a⟩
 | .str t=>⟨λs=>if t.cps.size<=1000 then .ok (.d (.str t)) s else .bad,λ_ a=>aN.ite λh=>Lf.refD (.tok (RD.str _ _ (by (first | walk_at "m" | lia))) λ_ _ q=>R5 q) a⟩
 | _=>.bad
noncomputable def jv (op:NA) (v u:V):Option D:=v.d?.bind λd=>u.d?.bind λe=>HO op d e
section
variable {p q t:Kf}(a:Ev k cx p) (b:Ev k cx q) (T:Ts k cx t)
noncomputable def Jh (op:NA) (pos:Pos):Ev k cx (.BinOp p op q pos):=⟨λs=>(a.f s).bind λv s=>(b.f s).bind λu s=>okD (jv op v u) s,λo c=>
 ((a.ok o c).bind λv s l y n=>(b.ok o n.at_).bind λu s j w m=>.optD m.at_ λd h=>aA h λt e h=>aA h λi g h=>F6 m.at_.H (RV.onD (n.r.up m.adv) e) (RV.onD m.r g) h).of λ_ _ h=>Vh h⟩
noncomputable def IU (pos:Pos):Ev k cx (.UnaryOp .Not p pos):=⟨λs=>(a.f s).bind λv s=>(cP (cc s.st v) s).bind λb s=>.ok (.d (.bool (!b))) s,λ{z s x} o c=>
 ((a.ok o c).bind λv s i y n=>(aN.bind (K:=λb Q _ e=>Q (.bool (!b)) e) (kt n.at_ n.r) λb s g w m=>.done m.at_ (show RD _ _ (.bool (!g)) (.bool (!b)) from m.r▸.bool _)).of (P':=tr z (unaryOp .Not i)) λ_ _ h=>not_of h).of λ_ _ h=>UnaryOp_ h⟩
noncomputable def GC (i:Int) (n:Nat) (b pos:Pos):Ev k cx (.UnaryOp .USub (.Constant (.int i) n b) pos):=⟨λs=>.ok (.d (.int (-i))) s,λ_ a=>Lf.refD (.tok (RD.int _ _) λ_ _ q=>UnaryOp_ (Qj (PyProof.Rows.neg_int q))) a⟩
noncomputable def JS (pos:Pos):Ev k cx (.IfExp t p q pos):=⟨λs=>(T.f s).bind λc s=>cond c (a.f s) (b.f s),λo d=>pT T o d (a.ok o) (b.ok o) λ_ _ h=>wpAny_IfExp h⟩
noncomputable def tN (op:PU) (a:Ev k cx p) (b:Ev k cx q) (s:St):Res D:=if Oq op q=Vu then (a.f s).bind λv s=>(b.f s).bind λu s=>cP ((bV s.st op v u).map D.bool) s else .bad
theorem vz {z:Z}{s:St}{x:X}(op:PU) (a:Ev k cx p) (b:Ev k cx q) (o:Ok k cx z) (f:At cx z s x):aN cx z (λy b d=>Gp z y b d/\∃r,d=.bool r) x (tN op a b s) (λQ E s=>Oq op q=Vu/\Kq (Kr PR z.c.w) z.A (MT p z.env) (λi I=>Kq (Kr PR z.c.w) z.A (MT q z.env) (λg G=>Kq (Kr PR z.c.w) z.A (Pf op i g) Q E G) E I) E s):=aN.ite λj=>((a.ok o f).bind λv s i y n=>(b.ok o n.at_).bind λu s g w m=>.opt λd h=>aV h λr h e=>e▸λQ E J=>
  FZ m.at_.H o.B (by have:=o.units;lia) (n.r.up m.adv) m.r h Q E λb t C l k e F=>J b (w.gr t C l) (m.at_.kp k e ⟨F,_,rfl⟩)).of λ_ _ h=>⟨j,h⟩
noncomputable def Jd (op:PU) (pos:Pos):Ev k cx (.Compare p [op] [q] pos):=⟨λs=>(tN op a b s).bind λd s=>.ok (.d d) s,λ{z s x} o c=>
 ((vz op a b o c).bind (K:=λb Q _ e=>Q b e) λd s b y n=>.done n.at_ (show aZ z y b (.d d) from n.r.1)).of λ_ _ h=>wpAny_Compare1 h.2 h.1⟩
noncomputable def Jc (op:PU) (pos:Pos):Ts k cx (.Compare p [op] [q] pos):=⟨λs=>(tN op a b s).bind λd s=>cP d.bool? s,λ{z s x} o e=>
 ((vz op a b o e).bind (K:=λb Q E g=>Kq (Kr PR z.c.w) z.A (Oi b) Q E g) λd s b y n=>by
  obtain ⟨f,r,rfl⟩:=n.r;refine rp (show b=.bool r from f.view) ?_;exact .pure n.at_ rfl λ_ _ q=>TS q).of λ_ _ h=>wpAny_isTrue_Compare1 h.2 h.1⟩
noncomputable def kx (e:Kf) (a:Ev k cx e) (d:∀(env:Env) b,isTrue e env b=(do let v <- b;U4 e.pos;QA [v] (Oi v))):Ts k cx e:=⟨λs=>(a.f s).bind λv s=>cP (cc s.st v) s,λo c=>
 ((a.ok o c).bind λv s g y n=>kt n.at_ n.r).of λ_ _ h=>isTrue_plain h (d _ _)⟩
noncomputable def IT (pos:Pos):Ts k cx (.UnaryOp .Not t pos):=⟨λs=>(T.f s).bind λb s=>.ok (!b) s,λo a=>
 ((T.ok o a).bind (K:=λb Q _ c=>Q (!b) c) λb s d y n=>.done n.at_ (congrArg _ n.r)).of λ_ _ h=>isTrue_not h⟩
noncomputable def JQ {p q:Kf}(a:Ts k cx p) (b:Ts k cx q) (pos:Pos):Ts k cx (.IfExp t p q pos):=⟨λs=>(T.f s).bind λc s=>cond c (a.f s) (b.f s),λo d=>pT T o d (a.ok o) (b.ok o) λ_ _ h=>isTrue_IfExp h⟩
end
section
variable (g:∀e,Ts k cx e)
noncomputable def rV:List Kf->St->Res Bool
 | [],s=>.ok Vt s
 | e::es,s=>((g e).f s).bind λb s=>cond b (rV es s) (.ok Vu s)
noncomputable def DO:List Kf->St->Res Bool
 | [],s=>.ok Vu s
 | e::es,s=>((g e).f s).bind λb s=>cond b (.ok Vt s) (DO es s)
theorem DB {pos:Pos}{z:Z}{d:O0 Value}(o:Ok k cx z):∀{es:List Kf}{s:St}{x:X},At cx z s x->aN cx z HZ x (rV g es s) (tr z (isTrue (.BoolOp .And es pos) z.env d)):=@lr _ _ (@λs x a=>.pure a rfl λ_ _ q=>isTrue_and_nil q) (λe es i=>(@λs x a=>(((g e).ok o a).bind (K:=λb Q E f=>if b then Kq (Kr PR z.c.w) z.A (isTrue (.BoolOp .And es pos) z.env d) Q E f else Q Vu f) λc s b y n=>by
  refine rq (show b=c from n.r) ?_;cases b with
  | true=>exact i n.at_
  | false=>exact .done n.at_ rfl).of λ_ _ h=>isTrue_and h))
theorem E4 {pos:Pos}{z:Z}{d:O0 Value}(o:Ok k cx z):∀{es:List Kf}{s:St}{x:X},At cx z s x->aN cx z HZ x (DO g es s) (tr z (isTrue (.BoolOp .Or es pos) z.env d)):=@lr _ _ (@λs x a=>.pure a rfl λ_ _ q=>isTrue_or_nil q) (λe es i=>(@λs x a=>(((g e).ok o a).bind (K:=λb Q E f=>if b then Q Vt f else Kq (Kr PR z.c.w) z.A (isTrue (.BoolOp .Or es pos) z.env d) Q E f) λc s b y n=>by
  refine rq (show b=c from n.r) ?_;cases b with
  | true=>exact .done n.at_ rfl
  | false=>exact i n.at_).of λ_ _ h=>isTrue_or h))
end
noncomputable def HJ (r:Sr k) (op:PV) (es:List Kf) (pos:Pos):Ts k cx (.BoolOp op es pos):=match op with
 | .And=>⟨rV (r.ts cx) es,λo a=>DB _ o a⟩
 | .Or=>⟨DO (r.ts cx) es,λo a=>E4 _ o a⟩
noncomputable def js (op:PV) (b:Bool):Bool:=PV.casesOn op b (!b)
noncomputable def lj (r:Sr k) (op:PV):List Kf->St->Res V
 | [],_=>.bad
 | e::es,s=>LZ es ((r.ev cx e).f s) λ_ _=>((r.ev cx e).f s).bind λv s=>(cP (cc s.st v) s).bind λb s=>cond (js op b) (lj r op es s) (.ok v s)
theorem rR (r:Sr k){op:PV}{pos:Pos}{z:Z}(o:Ok k cx z):∀{es:List Kf}{s:St}{x:X},At cx z s x->aN cx z (aZ z) x (lj (cx:=cx) r op es s) (tr z (MT (.BoolOp op es pos) z.env))
 | [],_,_,_=>.bad
 | [e],s,x,a=>((r.ev cx e).ok o a).of λ_ _ h=>BoolOp_one h
 | e::j::es,s,x,a=>by
  refine aN.of (P:=λQ E g=>Kq (Kr PR z.c.w) z.A (MT e z.env) (λd i=>Kq (Kr PR z.c.w) z.A (Oi d) (λb f=>if js op b=Vt then Kq (Kr PR z.c.w) z.A (MT (.BoolOp op (j::es) pos) z.env) Q E f else Q d f) E i) E g) (((r.ev cx e).ok o a).bind (K:=λd Q E i=>Kq (Kr PR z.c.w) z.A (Oi d) (λb f=>if js op b=Vt then Kq (Kr PR z.c.w) z.A (MT (.BoolOp op (j::es) pos) z.env) Q E f else Q d f) E i) λv s d y n=>
   (kt n.at_ n.r).bind (K:=λb Q E g=>if js op b=Vt then Kq (Kr PR z.c.w) z.A (MT (.BoolOp op (j::es) pos) z.env) Q E g else Q d g) λc s b w m=>?_) λQ E h=>?_
  ·refine rq (show b=c from m.r) ?_;cases q:js op b with
   | true=>exact rR r o m.at_
   | false=>exact .done m.at_ (n.r.up m.adv)
  ·cases op with
   | And=>exact BoolOp_and h
   | Or=>exact BoolOp_or (KQ h (λd i l=>KQ l (λb f p=>by cases b<;>exact p) λ_ _ e=>e) λ_ _ e=>e)
noncomputable def HK (r:Sr k) (op:PV) (es:List Kf) (pos:Pos):Ev k cx (.BoolOp op es pos):=⟨lj (cx:=cx) r op es,λo a=>rR r o a⟩
noncomputable def G3 (vs:List V) (s:St):Res V:=okD ((ej vs).bind λds=>if ds.length<=1000 then Vr (.lst ds) else Vs) s
noncomputable def DN (vs:List V):Option V:=LZ vs Vs λv r=>LZ r Vs λu r=>LZ r (v.loc?.bind λl=>u.d?.map λd=>.pair l d) λ_ _=>Vs
noncomputable def xU (vs:List V):Option V:=((ej vs).bind λds=>if ds.length<=1000 then Vr (.d (.tup ds)) else Vs).or (DN vs)
abbrev oz (T:String) (us:List Value):eZ Value:=λQ _ a=>us.length<=sizeLine/\Q (.ref a.heap.objs.size) {a with heap:=a.heap.push {cls:=.type T,data:=.seq us.toArray}}
theorem pw {z:Z}{s:St}{x:X}{T:String}{us:List Value}{v:V}(a:At cx z s x) (hz:us.length<=16777216) (r:RV z.c.w x.ρ ((x.h.objs.size,({cls:=.type T,data:=.seq us.toArray}:Obj))::x.imm) (.ref x.h.objs.size) v):aN cx z (aZ z) x (.ok v s) (oz T us):=λQ E q=>
 ⟨bQ hz,q _ (x.gr (x.h.push {cls:=.type T,data:=.seq us.toArray}) x.S.toks [(x.h.objs.size,{cls:=.type T,data:=.seq us.toArray})]) (a.kp (aM _ _) (λp b=>by rw[Kk.mp b];exact ⟨Kt _ rfl,bF _⟩) r)⟩
noncomputable def IY (r:Sr k) (es:List Kf) (pos:Pos):Ev k cx (.List es pos):=⟨λs=>if aO es=Vt then (bM (r.ev cx) es s).bind G3 else .bad,λ{z s x} o a=>
 aN.ite λb=>((eP (r.ev cx) o a).bind (K:=λus=>oz "list" us) λvs s us y n=>.opt λv h=>aV h λd h e=>aA h λds c h=>bD h λhz h=>by
  have rs:=kj n.r c;have b:=rs.length;obtain rfl:=Kd h;exact e▸pw n.at_ (by walk_at "n") (RD.lst (.head _) (by walk_at "n") (mD rs))).of λ_ _ h=>TD (ei b h)⟩
theorem Cg {z:Z}{s:St}{x:X}{us:List Value}{vs:List V}{v:V}(a:At cx z s x) (r:dJ z x us vs) (h:DN vs=Vr v):aN cx z (aZ z) x (.ok v s) (oz "tuple" us):=by
 cases vs with
 | nil=>exact au h
 | cons m vs=>cases vs with
  | nil=>exact au h
  | cons k vs=>cases vs with
   | cons=>exact au h
   | nil=>
    refine aA h λl c h=>aV h λd i e=>?_;obtain rfl:=kE c;obtain rfl:=tL i;subst e;obtain ⟨j,g,rfl,⟨p,rfl,hp⟩,r2⟩:=r.view;obtain ⟨f,b,rfl,rd,r3⟩:=r2.view;refine rp (show b=[] from r3.view) ?_;exact pw a (Ky rfl) (y4 _ p f 0 (w4 rfl (.head _) hp (RD.mono (λ_ h=>.tail _ h) rd)))
theorem ED {z:Z}{s:St}{x:X}{us:List Value}{vs:List V}{v:V}(a:At cx z s x) (r:dJ z x us vs) (h:xU vs=Vr v):aN cx z (aZ z) x (.ok v s) (oz "tuple" us):=cL h (λh=>aA h λe c h=>bD h λf h=>by
  have b:=kj r c;have d:=b.length;refine rq (Kd h) ?_;exact pw a (by lia) (RD.tup (.head _) (by lia) (mD b))) λh=>Cg a r h
noncomputable def Iz (r:Sr k) (es:List Kf) (n:Nat) (pos:Pos):Ev k cx (.Tuple es n pos):=⟨λs=>if aO es=Vt then (bM (r.ev cx) es s).bind λvs s=>cP (xU vs) s else .bad,λ{z s x} o a=>
 aN.ite λb=>((eP (r.ev cx) o a).bind (K:=λus=>oz "tuple" us) λvs s us y n=>.opt λv h=>ED n.at_ n.r h).of λ_ _ h=>wpAny_Tuple_spliced (ei b h)⟩
end
end
section
namespace NX
theorem ga_li:Slot "list_iterator" "__getattribute__" "object.__getattribute__":=.of (owner:="object") (n:="__getattribute__") (by rw[MZ,Mc];kernel_rfl) (by decide +kernel) (by decide +kernel) (by decide +kernel) (by first | exact .inl (by decide +kernel) | exact .inr (by decide +kernel)) (by rw[MS];kernel_rfl)
theorem lk_next:Oh (.type "list_iterator") "__next__" = pure (Vr (.builtin "list_iterator.__next__")):=by rw[MZ,Mc];kernel_rfl
theorem ty_next:typeOf (.builtin "list_iterator.__next__")=pure (.type "wrapper_descriptor"):=rfl
theorem sl_get:Slot "wrapper_descriptor" "__get__" "wrapper_descriptor.__get__":=.of (owner:="wrapper_descriptor") (n:="__get__") (by rw[MZ,Mc];kernel_rfl) (by decide +kernel) (by decide +kernel) (by decide +kernel) (by first | exact .inl (by decide +kernel) | exact .inr (by decide +kernel)) (by rw[MS];kernel_rfl)
theorem en_get:Ru UA "wrapper_descriptor.__get__" = Vr Mf.«wrapper_descriptor.__get__»:=Uc (by kernel_rfl)
theorem ar_get (a b c:Value):Qm "wrapper_descriptor.__get__" ⟨[a,b,c],[]⟩:=by unfold Qm;kernel_rfl
theorem owner:(".".intercalate ("list_iterator.__next__".cutAt '.').dropLast) = "list_iterator":=by
 have a : "list_iterator.__next__".cutAt '.'=["list_iterator","__next__"]:=by first | rfl | decide +kernel
 rw[a];decide +kernel
theorem sub:Ub (.type "list_iterator") (.type (".".intercalate ("list_iterator.__next__".cutAt '.').dropLast))=pure true:=by rw[owner,MS];kernel_rfl
theorem en_ga:Ru UA "object.__getattribute__" = Vr Mf.«object.__getattribute__»:=PySem.F.entry_object_getattribute
theorem ar_ga (a b:Value):Qm "object.__getattribute__" ⟨[a,b],[]⟩:=PySem.F.args_object_getattribute_2 _ _
theorem no_set:Oh (.type "wrapper_descriptor") "__set__" = pure none:=by rw[MZ,Mc];kernel_rfl
theorem no_del:Oh (.type "wrapper_descriptor") "__delete__" = pure none:=by rw[MZ,Mc];kernel_rfl
end NX
section
variable {w:Lh}{A:Lg}{E:Value->Shared->Prop}{h:Heap}{g:Array Ta}{d:Rz}{t:Nat}{os:OsState}{a l:Addr}{i:Nat}
theorem E7 {R:OM->Shared->Prop}(c:h.get? a=Vr (zz l i)) (e:R (.ok (.ret (.ref h.objs.size))) ⟨h.push (sZ a),g,d,t,os⟩):Mx (Kr PR w) A (.call (.builtin "wrapper_descriptor.__get__") ⟨[.builtin "list_iterator.__next__",.ref a,.type "list_iterator"],[]⟩) R ⟨h,g,d,t,os⟩:=by
 have j:(⟨h,g,d,t,os⟩:Shared).TypeIs (.ref a) "list_iterator":=⟨_,c,rfl⟩
 have b:(⟨h,g,d,t,os⟩:Shared).TypeIs (.builtin "list_iterator.__next__") "wrapper_descriptor":=NX.ty_next;refine Nz NX.sl_get.plain NX.en_get (NX.sl_get.check _ _ _ _ _ _ _ _ b (NX.ar_get _ _ _) ?_);have f:=NX.sub
 repeat (any_goals (first | assumption | wp_step))
theorem yO {tk:PT}{Q:Fin->Shared->Prop}(b:h.get? a=Vr (zz l i)) (j:Q (.done (.ret (.ref h.objs.size))) ⟨h.push (sZ a),g,d,t,os⟩):Kq (Kr PR w) A (Mf.«object.__getattribute__» ⟨[.ref a,.str "__next__" tk],[]⟩) Q E ⟨h,g,d,t,os⟩:=by
 have k:(⟨h,g,d,t,os⟩:Shared).TypeIs (.ref a) "list_iterator":=⟨_,b,rfl⟩
 have c:(⟨h,g,d,t,os⟩:Shared).TypeIs (.builtin "list_iterator.__next__") "wrapper_descriptor":=NX.ty_next;have f:=NX.lk_next;have m:=NX.ty_next;have o:=NX.sl_get.lookup;have e:=NX.no_set;have n:=NX.no_del
 repeat (any_goals (first | assumption | wp_step))
 refine E7 b ?_
 repeat (any_goals (first | assumption | wp_step))
theorem wl {tk:PT}{R:OM->Shared->Prop}(b:h.get? a=Vr (zz l i)) (c:R (.ok (.ret (.ref h.objs.size))) ⟨h.push (sZ a),g,d,t,os⟩):Mx (Kr PR w) A (.call (.builtin "object.__getattribute__") ⟨[.ref a,.str "__next__" tk],[]⟩) R ⟨h,g,d,t,os⟩:=Nz NX.ga_li.plain NX.en_ga (NX.ga_li.check _ _ _ _ _ _ _ _ (show (⟨h,g,d,t,os⟩:Shared).TypeIs (.ref a) "list_iterator" from ⟨_,b,rfl⟩) (NX.ar_ga _ _) (yO b c))
theorem GS {tk:PT}{fill expr:Bool}{Q:Value->Shared->Prop}(b:h.get? a=Vr (zz l i)) (f:Q (.ref h.objs.size) ⟨h.push (sZ a),g,d,t,os⟩):Kq (Kr PR w) A (getAttrBy (.ref a) (.str "__next__" tk) fill expr) Q E ⟨h,g,d,t,os⟩:=by
 have k:(⟨h,g,d,t,os⟩:Shared).TypeIs (.ref a) "list_iterator":=⟨_,b,rfl⟩
 have e:=NX.ga_li.lookup;have j:=NX.ga_li.bind (.ref a);have c:(expr&&onTheHeap (Value.builtin "object.__getattribute__"))=false:=by cases expr<;>rfl
 repeat (any_goals (first | assumption | wp_step))
 refine wl b ?_
 repeat (any_goals (first | assumption | wp_step))
theorem Cm {expr:Bool}{Q:Value->Shared->Prop}{S:Shared}(b:S.heap.get? a=Vr (zz l i)) (c:Q (.ref S.heap.objs.size) {S with heap:=S.heap.push (sZ a),toks:=S.toks+1}):Kq (Kr PR w) A (N2 (.ref a) (sn "__next__") expr) Q E S:=by
 obtain ⟨h,g,d,t,os⟩:=S;unfold N2
 repeat (any_goals (first | assumption | with_reducible apply GS b | wp_step))
end
end
section
local macro_rules (kind:=tacticKernel_rfl)|s=>Mine.Internal.mK s
section
set_option linter.all false
section
variable {w:Lh}{A:Lg}{c:Cn}{cx:Cx}{z:Z}{s:St}{x y:X}{st:List SObj}{b:Value}{v u:V}{k:Nat}
noncomputable def jn (p:Option V×Option V×Option V) (m:Str):Option V:=if m=sn "successors" then p.1 else if m=sn "npredecessors" then p.2.1 else if m=sn "node" then p.2.2 else Vs
noncomputable def iZ:List Str:=[sn "_node2info",sn "_ready_nodes",sn "_npassedout",sn "_nfinished"]
noncomputable def Af (d:D):Bool:=optE d.bi? (optE d.gbl? Vu λa=>a==cycleC) λb=>b.eq .valueError
noncomputable def cG (st:List SObj) (v:V) (m:Str):Option V:=v.loc?.bind λl=>(st[l]?).bind λo=>(o.inst?.bind λa=>if iZ.contains m=Vt then get m a else Vs).or ((o.node?.bind λp=>jn p m).or ((o.exc?.bind λp=>if m=sn "args"/\Af p.1=Vt then Vr (.d (.tup p.2)) else Vs).or (o.iter?.bind λ_=>if m=sn "__next__" then Vr (.nxt l) else Vs)))
theorem fy (P:LF) (n:Str):UK (KK P) bJ n=true:=rfl
theorem gZ (P:LF):Ui (KK P) bJ=true:=rfl
theorem pc (P:LF):iZ.all (λn=>O4 (KK P) (.ref bJ) n==Vr Vs)=true:=rfl
theorem qq (P:LF){n:Str}(h:iZ.contains n=Vt):O4 (KK P) (.ref bJ) n=Vr none:=beq_iff_eq.mp (KS.mp (pc P) n (KR.mp h))
theorem qA (P:LF) (n:Str):UK (KK P) eu n=true:=rfl
noncomputable def slotsN:List (Str×Nat×Nat):=[(sn "successors",43,2),(sn "npredecessors",42,1),(sn "node",41,0)]
theorem mf (P:LF):∀p∈slotsN,findObj (KK P) eu (Vr emptyDict) p.1=Vr (.bind (.builtin "member_descriptor.__get__") (.ref p.2.1))/\slotIn (KK P) p.2.1 eu=Vr p.2.2/\T5 (KK P) eu p.1=Vr (Vr (.ref p.2.1))/\UJ (KK P) (.ref p.2.1)=Vr (.type "member_descriptor"):=La.mpr ⟨w4 rfl rfl rfl rfl,La.mpr ⟨w4 rfl rfl rfl rfl,La.mpr ⟨w4 rfl rfl rfl rfl,λ_ h=>nomatch h⟩⟩⟩
theorem wp {p:Option V×Option V×Option V}{m:Str}(h:jn p m=Vr v):∃d i o,(m,d,i)∈slotsN/\o=Vr v/\((i=2/\o=p.1)\/(i=1/\o=p.2.1)\/(i=0/\o=p.2.2)):=by
 unfold jn at h;by_cases b:m=sn "successors"
 ·subst b;exact y3 43 2 _ (w3 (.head _) ((if_pos rfl).symm.trans h) (.inl ⟨rfl,rfl⟩))
 ·replace h:=(if_neg b).symm.trans h;by_cases a:m=sn "npredecessors"
  ·subst a;exact y3 42 1 _ (w3 (.tail _ (.head _)) ((if_pos rfl).symm.trans h) (.inr (.inl ⟨rfl,rfl⟩)))
  ·exact bD ((if_neg a).symm.trans h) λc h=>y3 41 0 _ (w3 (c▸.tail _ (.tail _ (.head _))) h (.inr (.inr ⟨rfl,rfl⟩)))
theorem Thing.inst {l:Nat}{a:Addr}{ft:List (Addr×Obj)}{b:List (Str×V)}(t:Thing c st x l a ft (.inst b)) (H:HI c st x):∃d es n,ft=[(a,jE d),(d,NQ es n)]/\Bu c.w x.ρ x.imm es b/\es.length<=b.length/\InstAt x.h a (jE d) bJ (Vr (NQ es n)):=by
 obtain ⟨d,es,n,rfl,z1,z2⟩:=t.foot;exact y3 d es n (w4 rfl z1 z2 ⟨H.ledIn _ (aD t.led (.head _)),rfl,rfl,H.ledIn (d,NQ es n) (aD t.led (.tail _ (.head _)))⟩)
theorem Thing.node {l:Nat}{a:Addr}{ft:List (Addr×Obj)}{p q r:Option V}(t:Thing c st x l a ft (.node p q r)) (H:HI c st x):∃d b,InstAt x.h a (qB d b) eu (Vr emptyDict)/\(ft=[(a,qB d b)]/\(d,emptyDict)∈x.imm/\b.size<=3)/\xA c.w x.ρ x.imm b 2 p/\xA c.w x.ρ x.imm b 1 q/\xA c.w x.ρ x.imm b 0 r:=by
 obtain ⟨d,b,rfl,m,z,z1,z2,z3⟩:=t.foot;exact y2 d b (w5 ⟨H.ledIn _ (aD t.led (.head _)),rfl,rfl,H.immIn _ m⟩ (w3 rfl m z) z1 z2 z3)
noncomputable abbrev cycO:Obj:=excClassObj (sn "CycleError") (sn "CycleError") 55 54 [.type "ValueError"] [.type "ValueError",.type "Exception",.type "BaseException",.type "object"] Vt [] [] Vu Vs Vs (Vr (.ref 46)) Vs (Vr (.str (sn "CycleError") 239)) (Vr (.str (sn "CycleError") 247)) (Vr (.bool Vt)) "ValueError.__new__"
theorem AL (P:LF):(KK P).lookup 55=Vr cycO:=rfl
theorem AJ (P:LF):nsOkIn (KK P) 54=Vt/\TF (KK P) 54 "__init__" = Vr none:=⟨by kernel_rfl,by kernel_rfl⟩
theorem Du {l:Nat}{a:Addr}{ft:List (Addr×Obj)}{args:List D}{expr:Bool}(H:HI c st x) (t:Thing c st x l a ft (.exc (.bi .valueError) args)):xB c.w A x (N2 (.ref a) (sn "args") expr) (.d (.tup args)):=by
 refine aC λg b=>?_;obtain ⟨o,f,p,h,n,rfl,hc,hd,h0,hm,hz,rs⟩:=t.foot;refine b ?_;have e:=H.ledIn _ (aD t.led (.head _));exact .tok (RD.tup hm hz rs) λQ E q=>args_attr F.excAttr_ValueError e hc hd h0 q
theorem xd (P:LF):quietNames.all (λn=>TF (KK P) 54 n==Vr Vs)=true:=rfl
theorem Dv {l:Nat}{a:Addr}{ft:List (Addr×Obj)}{args:List D}{expr:Bool}(B:Bs c) (H:HI c st x) (t:Thing c st x l a ft (.exc (.gbl cycleC) args)):xB c.w A x (N2 (.ref a) (sn "args") expr) (.d (.tup args)):=by
 refine aC λi b=>?_;obtain ⟨o,h,p,j,n,rfl,hc,hd,h0,hm,hz,rs⟩:=t.foot;have f:=H.ledIn _ (aD t.led (.head _));obtain ⟨e,_⟩:=AJ c.w.params;refine b ?_;exact .tok (RD.tup hm hz rs) λQ E q=>args_attr_own (B:="ValueError") F.attrBase_ValueError (B.kin H.base _ _ (AL _)) ((Sj (isNs_of_in B.k e)).keeps H.base) (λn g=>Ug B.k e (beq_iff_eq.mp (KS.mp (xd c.w.params) n g))) .base f hc hd h0 q
theorem Ae {l:Nat}{a:Addr}{ft:List (Addr×Obj)}{kc:D}{args:List D}{expr:Bool}(B:Bs c) (H:HI c st x) (t:Thing c st x l a ft (.exc kc args)) (h:Af kc=Vt):xB c.w A x (N2 (.ref a) (sn "args") expr) (.d (.tup args)):=by
 unfold Af at h;cases e:kc.bi? with
 | some b=>
  rw[e] at h;obtain rfl:b=.valueError:=by cases b<;>first | rfl | cases h
  exact Du H (kh e▸t)
 | none=>cases f:kc.gbl? with
  | none=>rw[e,f] at h;cases h
  | some g=>
   rw[e,f] at h;obtain rfl:g=cycleC:=eq_of_beq h;exact Dv B H (mG f▸t)
theorem wE {l m i:Nat}{a:Addr}{ft:List (Addr×Obj)}{expr:Bool}(H:HI c st x) (t:Thing c st x l a ft (.iter m i)):xB c.w A x (N2 (.ref a) (sn "__next__") expr) (.nxt l):=by
 refine aC λe d=>?_;obtain ⟨b,rfl,hb⟩:=t.foot;refine d ?_;exact .push (o:=sZ a) (tk:=x.S.toks+1) rfl (y2 _ a (w3 rfl (.head _) t.rho)) λQ E q=>Cm (H.ledIn _ (aD t.led (.head _))) q
theorem xo {l:Nat}{a:Addr}{ft:List (Addr×Obj)}{b:List (Str×V)}{m:Str}{expr:Bool}(B:Bs c) (H:HI c st x) (i:Thing c st x l a ft (.inst b)) (k:iZ.contains m=Vt) (j:get m b=Vr u):xB c.w A x (N2 (.ref a) m expr) u:=by
 refine aC λp e=>?_;obtain ⟨d,r,n,_,h,_,I⟩:=i.inst H;have:=h.2 m;rw[j] at this;obtain ⟨val,g,f,o⟩:=this;refine e ?_;exact .tok o λQ E q=>get_value (B.kin H.base) I (Nf (fy c.w.params m)).1 (Vn (gZ _) (qq _ k) rfl g) f q
theorem xn {l:Nat}{a:Addr}{ft:List (Addr×Obj)}{p:Option V×Option V×Option V}{m:Str}{expr:Bool}(B:Bs c) (H:HI c st x) (t:Thing c st x l a ft (.node p.1 p.2.1 p.2.2)) (v:jn p m=Vr u):xB c.w A x (N2 (.ref a) m expr) u:=by
 have X:=B.kin H.base;refine aC λz b=>?_;obtain ⟨d,j,I,J,r,z2,z3⟩:=t.node H;obtain ⟨G,i,o,f,rfl,ho⟩:=wp v;obtain ⟨n,e,F,C⟩:=mf c.w.params _ f;obtain ⟨val,k,g,y⟩:∃val,(j[i]?).join=Vr val/\QD val=Vt/\RV c.w x.ρ x.imm val u:=ho.elim (λh=>h.1▸r u h.2.symm) λh=>h.elim (λh=>h.1▸z2 u h.2.symm) λh=>h.1▸z3 u h.2.symm;refine b ?_;exact .tok y λQ E q=>get_bind X I (Nf (qA c.w.params m)).1 n (Nf (qA c.w.params m)).2 (Og (slot_get (s:={x.S with toks:=x.S.toks+1}) X I e k (handed_on g q)))
theorem vF {m:Str}{expr:Bool}(B:Bs c) (H:HI c st x) (i:RV c.w x.ρ x.imm b v) (h0:cG st v m=Vr u):xB c.w A x (N2 b m expr) u:=H.onL (P:=λb=>xB c.w A x (N2 b m expr) u) i h0 λ_ t h=>cL h (λh=>aA h λf a h=>bD h λg d=>xo B H (pE a▸t) g d) λh=>cL h (λh=>aA h λp a d=>xn B H (uN a▸t) d) λh=>cL h (λh=>aA h λp a h=>bD h λe d=>Kd d▸e.1▸Ae B H (Ad a▸t) e.2) λh=>aA h λp a h=>bD h λe d=>Kd d▸e▸wE H (uY a▸t)
theorem aN.store {β α:Type}{RB:X->β->α->Prop}{r:β}{q:α}{n:Str}{v:V}{val:Value}(a:At cx z s x) (hn:bC (cx.names.lookup n)=Vt) (d:aZ z x val v) (h:∀y,Nx cx z x ⟨aY n v s.fr,s.st⟩ y (Gj x y)->RB y r q):aN cx z RB x (.ok q ⟨aY n v s.fr,s.st⟩) (λQ E b=>Kq (Kr PR z.c.w) z.A (Oj z.env n val) (λ_=>Q r) E b):=λQ E f=>gY a hn d λy m=>f r y ⟨m.at_,m.adv,h y m⟩
noncomputable def hF (e:Kf):Bool:=match e with
 | .Call (.Name _ _) [] [] _=>Vu
 | _=>Vt
theorem vE {env:Env}{o:Kf}{m:Str}{w:O0 Value}(h:hF o=Vt):RY o m env w=w:=by
 cases o with
 | Call f b a p=>cases f with
  | Name n q=>cases b with
   | nil=>cases a with
    | nil=>cases h
    | cons=>rfl
   | cons=>rfl
  | _=>rfl
 | _=>rfl
end
variable {k:Nat}{cx:Cx}
noncomputable def HT (r:Sr k) (e:Kf) (m:Str) (pos:Pos):Ev k cx (.Attribute e m pos):=⟨λs=>if hF e=Vt then ((ek r cx e).f s).bind λv s=>cP (cG s.st v m) s else .bad,λ{z s x} o a=>aN.ite λg=>
 (((ek r cx e).ok o a).bind λv s l y n=>.opt λu h=>(vF (expr:=Vt) o.B n.at_.H n.r h).refV n.at_).of λQ E h=>by
  show Kq (Kr PR z.c.w) z.A (do
   let o' <- RY e m z.env (MT e z.env)
   U4 pos.atName
   let r <- QA [o'] (N2 o' m Vt)
   Rt e o' r
   pure r) Q E x.S
  rw[vE g];exact Kg (KQ h (λv j b=>Kg (Mn (Kg (Lp (KQ b (λr i d=>Kg (SY (Ks d))) λ_ _ e=>e))))) λ_ _ e=>e)⟩
noncomputable def C5 (r:Sr k) (cx:Cx) (e:Option Kf) (s:St):Res (Option D):=optE e (.ok Vs s) λe=>((r.ev cx e).f s).bind λv s=>cP (v.d?.map Vr) s
theorem tz {z:Z}{s:St}{x:X}(r:Sr k) (e:Option Kf) (o:Ok k cx z) (a:At cx z s x):aN cx z (λy b d=>RO z.c.w y.imm b d) x (C5 r cx e s) (tr z (Ot (QB e z.env))):=by
 cases e with
 | none=>exact .pure a rfl λ_ _ q=>Ks q
 | some e=>exact (((r.ev cx e).ok o a).bind (K:=λb Q _ f=>Q b f) λv s b y n=>.opt λd h=>aV h λd h e=>e▸.done n.at_ (RV.onD n.r h)).of λ_ _ h=>h
theorem tx {env:Env}(a b t:Option Kf) (p:Pos):MT (.Slice a b t p) env=(do
  let l <- Ot (QB a env);let u <- QA [l] (Ot (QB b env));let s <- QA [l,u] (Ot (QB t env))
  Pe "slice" [l,u,s]):=rfl
theorem RO.up {c:Cn}{own:List Addr}{x y:X}{b:Value}{o:Option D}(h:RO c.w x.imm b o) (p:Adv c own x y):RO c.w y.imm b o:=h.mono p.imm
noncomputable def EM (r:Sr k) (e:Kf) (a b t:Option Kf) (p pos:Pos):Ev k cx (.Subscript e (.Slice a b t p) pos):=⟨λs=>((ek r cx e).f s).bind λv s=>(C5 r cx a s).bind λa s=>(C5 r cx b s).bind λb s=>(C5 r cx t s).bind λc s=>okD (fN s.st v a b c) s,λ{z s x} o m=>
 (((ek r cx e).ok o m).bind (K:=λo Q E I=>Kq (Kr PR z.c.w) z.A (Ot (QB a z.env)) (λl G=>Kq (Kr PR z.c.w) z.A (Ot (QB b z.env)) (λu F=>Kq (Kr PR z.c.w) z.A (Ot (QB t z.env)) (λw J=>Kq (Kr PR z.c.w) z.A (Pe "slice" [l,u,w]) (λi R=>Kq (Kr PR z.c.w) z.A (Lz e (.Slice a b t p) o i) Q E R) E J) E F) E G) E I) λv s U y n=>(tz r a o n.at_).bind λl s Y y2 C=>(tz r b o C.at_).bind λu s T y3 j=>(tz r t o j.at_).bind λt s S y4 g=>
   .opt λv L=>aV L λd h e=>e▸λQ E q=>yj g.at_.H (((n.r.up C.adv).up j.adv).up g.adv) ((C.r.up j.adv).up g.adv) (j.r.up g.adv) g.r h Q E λb h' tk ex k e r=>q b (y4.gr h' tk ex) (g.at_.kp k e r)).of λQ E h=>TH (KQ h (λo I O=>by
 rw[tx];exact Kg (KQ O (λl G M=>Kg (Lp (KQ M (λu F P=>Kg (Lp (KQ P (λw J N=>N) λ_ _ e=>e))) λ_ _ e=>e))) λ_ _ e=>e)) λ_ _ e=>e)⟩
noncomputable def bE (v u:V) (st:List SObj):Option V:=u.d?.bind λd=>d.int?.bind λi=>zE st v i
noncomputable def zG (r:Sr k) (e i:Kf) (pos:Pos):Ev k cx (.Subscript e i pos):=⟨λs=>((ek r cx e).f s).bind λv s=>((r.ev cx i).f s).bind λu s=>cP (bE v u s.st) s,λ{z s x} o a=>
 (((ek r cx e).ok o a).bind λv s p y n=>((r.ev cx i).ok o n.at_).bind λu s b w m=>.opt λq h=>aA h λd g h=>aA h λj l h=>
  (RD.onInt (P:=λb=>xB z.c.w z.A w (Lz e i p b) q) (RV.onD m.r g) l λt=>zD m.at_.H o.B (n.r.up m.adv) h).refV m.at_).of λ_ _ h=>TH h⟩
noncomputable def BK (r:Sr k) (n:Str) (p:Pos) (e:Kf) (pos:Pos):Ev k cx (.NamedExpr (.Name n p) e pos):=⟨λs=>if cx.comp=Vu/\bC (cx.names.lookup n)=Vt then ((r.ev cx e).f s).bind λv s=>.ok v ⟨aY n v s.fr,s.st⟩ else .bad,λ{z s x} o a=>aN.ite λg=>
 (((r.ev cx e).ok o a).bind (K:=λv Q E b=>Kq (Kr PR z.c.w) z.A (Oj z.env n v) (λ_=>Q v) E b) λv s j y m=>.store m.at_ g.2 m.r λw t=>m.r.up t.adv).of λ_ _ h=>wpAny_NamedExpr (KQ h (λv i d=>by rw[Rh];exact Kg (Mn (Rq d))) λ_ _ e=>e)⟩
noncomputable def Hb (t:Str) (n:Nat) (p pos:Pos):Ev k cx (.JoinedStr [.Constant (.str t) n p] pos):=⟨λs=>if t.cps.size<=1000 then .ok (.d (.str t)) s else .bad,λ_ a=>aN.ite λh=>Lf.refD (.tok (RD.str _ _ (by walk_at "n")) λ_ _ q=>wpAny_JoinedStr_one (R5 q)) a⟩
end
section
set_option linter.all false
section
variable {w:Lh}{A:Lg}{c:Cn}{cx:Cx}{z:Z}{s:St}{x y:X}{st:List SObj}{b val:Value}{v u:V}{k:Nat}{ρ:List Addr}{imm:Imm}
theorem GT {h:Heap}{a:Addr}{m m':Str->Option Value}(p:h.Ns a m) (q:h.Ns a m'):m=m':=by
 obtain ⟨o,l,k,c,g,_,e⟩:=p;obtain ⟨r,j,i,d,b,_,f⟩:=q;obtain rfl:=Kd (c.symm.trans d);rw[g] at b;cases b;exact funext λn=>(e n).symm.trans (f n)
noncomputable def allBut (h:Heap) (L d:Addr):Imm:=(KC h.objs.size).filterMap λa=>if a=L\/a=d then Vs else (h.get? a).map λo=>(a,o)
theorem jo {h:Heap}{L d a:Addr}{o:Obj}:(a,o)∈allBut h L d<->¬(a=L\/a=d)/\h.get? a=Vr o:=by
 unfold allBut;rw[List.mem_filterMap];constructor
 ·rintro ⟨b,_,e⟩
  by_cases q:b=L\/b=d
  ·rw[if_pos q] at e;cases e
  ·rw[if_neg q] at e;obtain ⟨g,f,c⟩:=KY.mp e;cases c;exact ⟨q,f⟩
 ·exact λ⟨n,e⟩=>⟨a,LA.mpr (LD e),by rw[if_neg n,e];rfl⟩
theorem lz (a:Addr):mi.get? a=none:=rfl
theorem At.frm (a:At cx z s x):∃m,Fr mi z.env.locals x.h m:=a.F.ns.imp λm h=>⟨h.1,(λb o e=>au ((lz b).symm.trans e)),LE _⟩
theorem vB {h:Heap}{L d:Addr}{o:Obj}(b:h.get? d=Vr o) (hn:d≠L):News mi L h ([]++(d,o)::allBut h L d):=λp a=>by
 rcases Kw.mp a with rfl | a
 ·exact w3 b hn (lz _)
 ·have:=jo.mp (show (p.1,p.2)∈allBut h L d from a);exact w3 this.2 (λe=>this.1 (.inl e)) (lz _)
theorem AY {h:Heap}{L d:Addr}:∀p∈allBut h L d,p.1≠d:=λp a e=>(jo.mp (show (p.1,p.2)∈allBut h L d from a)).1 (.inr e)
theorem At.upF (f:At cx z s x){m:Str->Option Value}{l:Nat}{a d:Addr}{g:Obj}{ft ft':List (Addr×Obj)}{so:SObj}{h':Heap}{tk:Nat}{r:Prop}(A:Fr mi z.env.locals x.h m) (t:x.led[l]?=Vr ft) (G:x.ρ[l]?=Vr a) (I:ft'.map (·.1)=ft.map (·.1)) (y:d∈ft.map (·.1)) (u:∀p∈ft',p=(d,g)\/(p∈ft/\p.1≠d)) (E:Fr mi z.env.locals h' m) (v:News mi z.env.locals h' ([]++(d,g)::allBut x.h z.env.locals d)) (C:eY z.c.w x.ρ x.imm a so ft') (K:r):Nx cx z x ⟨s.fr,s.st.set l so⟩ (x.up l ft' h' tk) r:=by
 have k:∀b o,x.h.get? b=Vr o->b=z.env.locals\/b=d\/h'.get? b=Vr o:=λb o e=>if n:b=z.env.locals\/b=d then n.imp id .inl else .inr (.inr (v (b,o) (.tail _ (jo.mpr ⟨n,e⟩))).1)
 have J:∀p∈ft,p.1≠z.env.locals:=λp i e=>(f.F.ownI _ f.F.loc).1 (e▸HI.mem t i);exact f.up t G I (λp i=>(u p i).elim (λe=>e▸(v (d,g) (.head _)).1) λq=>(k _ _ (f.H.ledIn p (aD t q.1))).elim (λe=>absurd e (J p q.1)) λe=>e.elim (λe=>absurd e q.2) id) (λb o e=>(k b o e).elim (λq=>.inr (.inl q)) λq=>q.elim (λq=>.inl (q▸y)) λq=>.inr (.inr q)) (λL j=>GT A.ns j▸E.ns) C K
theorem aN.upd {α β:Type}{RB:X->β->α->Prop}{d:α}{l:Nat}{a:Addr}{o:Obj}{so:SObj}{P:eZ β}(f:At cx z s x) (i:x.led[l]?=Vr [(a,o)]) (v:x.ρ[l]?=Vr a) (h:∀(Q:β->Shared->Prop) (E:Value->Shared->Prop),(∀h' tk g b,MV a x.h h'->h'.get? a=Vr g->eY z.c.w x.ρ x.imm a so [(a,g)]->(∀y:X,y.ρ=x.ρ->y.imm=x.imm->RB y b d)->Q b {x.S with heap:=h',toks:=tk})->P Q E x.S):aN cx z RB x (.ok d ⟨s.fr,s.st.set l so⟩) P:=λQ E q=>h Q E λh' tk g b hs t r A=>by
 have u:a≠z.env.locals:=λe=>(f.F.ownI _ f.F.loc).1 (e▸HI.mem i (.head _));exact q b (x.up l [(a,g)] h' tk) (f.up i v rfl (λp j=>by rw[Kk.mp j];exact t) (λb o e=>if n:b=a then .inl (n▸.head _) else .inr (.inr ((hs.2 b n).trans e))) (λm k=>k.sameBut hs u.symm) r (A _ rfl rfl))
theorem qx {m:Str}{hh:Int}{t:PT}{v:Value}:∀{es:List Om},es.any (·.refKey)=Vu->(R0 m hh (.str m t) v es).any (·.refKey)=false:=@lr _ _ (@λ_=>rfl) (λe r a=>(@λh=>by
  have h:=N8.mp h;unfold R0;split
  ·exact N8.mpr ⟨h.1,h.2⟩
  ·exact N8.mpr ⟨h.1,a h.2⟩))
theorem oh {m a:Str}{hh:Int}{t:PT}{v:Value}:∀{es:List Om},((R0 m hh (.str m t) v es).find? (·.key.isStr a)).map (·.val)=if a=m then Vr v else (es.find? (·.key.isStr a)).map (·.val)
 | []=>by
  by_cases h:a=m
  ·subst h;simp[R0,T8]
  ·simp[R0,T8,h,LV h]
 | e::r=>by
  unfold R0;by_cases b:e.key.isStr m=Vt
  ·rw[if_pos b];by_cases h:a=m
   ·subst h;simp[b]
   ·have:e.key.isStr a=false:=isStr_other h e b;simp[h,this]
  ·rw[if_neg b];rw[Qf] at b;have f:=@oh m a hh t v r;by_cases c:e.key.isStr a=Vt
   ·have d:a≠m:=λq=>by rw[q,b] at c;cases c
    simp[c,d]
   ·rw[Qf] at c;simp only[MU,c];exact f
theorem lE {m:Str}{es:List Om}(h:es.any (·.refKey)=Vu):UN m es=Vr ((es.find? (·.key.isStr m)).map (·.val)):=by
 unfold UN;cases e:es.find? (·.key.isStr m) with
 | none=>simp[h]
 | some d=>rfl
theorem ht {m:Str}{hh:Int}{a v:Value}:∀{es:List Om},(R0 m hh a v es).length<=es.length+1/\((es.find? (·.key.isStr m)).isSome=Vt->(R0 m hh a v es).length=es.length)
 | []=>⟨KL _,nofun⟩
 | e::r=>by
  unfold R0;by_cases q:e.key.isStr m=Vt
  ·rw[if_pos q];exact ⟨MX _,λ_=>rfl⟩
  ·rw[if_neg q];have b:=@ht m hh a v r;exact ⟨Nu b.1,λh=>congrArg Np (b.2 (by rwa [List.find?_cons_of_neg (p:=λx:Om=>x.key.isStr m) q] at h))⟩
theorem sP {m:Str}{v:V}:∀{a:List (Str×V)},(aY m v a).length=if (get m a).isSome=Vt then a.length else a.length+1:=@lr _ _ (rfl) (λp r b=>by
  rw[DM,vh];by_cases e:p.1=m
  ·rw[if_pos e,if_pos e];rfl
  ·rw[if_neg e,if_neg e,Lw,Lw,b];split<;>rfl)
theorem Bu.put {es:List Om}{a:List (Str×V)}(h:Bu w ρ imm es a) (c:es.length<=a.length){m:Str}{hh:Int}{t:PT}{val:Value}{v:V}(g:QD val=Vt) (i:RV w ρ imm val v):Bu w ρ imm (R0 m hh (.str m t) val es) (aY m v a)/\(R0 m hh (.str m t) val es).length<=(aY m v a).length:=by
 refine ⟨⟨qx h.1,λf=>?_⟩,?_⟩
 ·rw[cV,lE (qx h.1),oh];by_cases e:f=m
  ·rw[if_pos e,if_pos e];exact ⟨val,w3 rfl g i⟩
  ·rw[if_neg e,if_neg e];have:=h.2 f
   rwa [lE h.1] at this
 ·rw[sP];have b:=@ht m hh (.str m t) val es;cases e:get m a with
  | none=>rw[if_neg (by exact nofun)];exact Lr b.1 (Nu c)
  | some u=>
   have:=h.2 m;rw[e,lE h.1] at this;obtain ⟨w,d,_⟩:=this;rw[if_pos (show (Vr u).isSome=Vt from rfl),b.2 (by cases q:es.find? (·.key.isStr m) with | none=>rw[q] at d;cases Kd d | some _=>rfl)];exact c
noncomputable def DP (v:V):Bool:=optE v.d? Vt λd=>(d.bi?).isNone
theorem mh {val:Value}{v:V}(h:DP v=Vt) (r:RV w ρ imm val v):QD val=true:=by
 cases v with
 | d d=>
  cases d with
  | bi=>cases h
  | non=>refine rp (show val=_ from r.view) ?_;rfl
  | bool=>refine rp (show val=_ from r.view) ?_;rfl
  | gbl=>refine rp (show val=_ from r.view) ?_;rfl
  | int=>obtain ⟨_,rfl⟩:=r.view;rfl
  | str=>obtain ⟨_,rfl,_⟩:=r.view;rfl
  | bytes=>obtain ⟨_,rfl,_⟩:=r.view;rfl
  | tup=>obtain ⟨_,_,_,rfl,_⟩:=r.view;rfl
  | lst=>obtain ⟨_,_,_,rfl,_⟩:=r.view;rfl
  | dct=>obtain ⟨_,_,_,rfl,_⟩:=r.view;rfl
  | rng=>obtain ⟨_,_,_,_,rfl,_⟩:=r.view;rfl
 | loc=>obtain ⟨_,rfl,_⟩:=r;rfl
 | nxt=>obtain ⟨_,_,rfl,_⟩:=r;rfl
 | vals=>obtain ⟨_,_,rfl,_⟩:=r;rfl
 | pair=>obtain ⟨_,_,_,_,rfl,_⟩:=r;rfl
theorem qo (P:LF):Si (KK P) bJ=true:=rfl
theorem sv (P:LF):O4 (KK P) (.ref bJ) "__setattr__" = Vr (Vr (.builtin "object.__setattr__")):=rfl
theorem vU (P:LF):iZ.all (λn=>T5 (KK P) bJ n==Vr Vs)=true:=rfl
theorem wn (P:LF):Si (KK P) eu=true:=rfl
theorem yQ (P:LF):O4 (KK P) (.ref eu) "__setattr__" = Vr (Vr (.builtin "object.__setattr__")):=rfl
noncomputable abbrev lw (a:Array (Option Value)) (i:Nat) (val:Value):Array (Option Value):=(a++Array.replicate (i+1-a.size) Vs).setIfInBounds i (Vr val)
theorem qr {a:Array (Option Value)}{i:Nat}{val:Value}(b:i<3) (hz:a.size<=3):(lw a i val).size<=3/\∀j,((lw a i val)[j]?).join=if j=i then Vr val else (a[j]?).join:=by
 refine ⟨by simp;(first | walk_at "m" | lia),λj=>?_⟩;by_cases e:j=i
 ·subst e;rw[if_pos rfl,Pc (by simp;(first | walk_at "m" | lia))];rfl
 ·rw[if_neg e,P5 (LV e),Array.getElem?_append];split
  ·rfl
  ·rename_i h;rw[show a[j]?=Vs by simp;(first | walk_at "m" | lia)];by_cases q:j-a.size<i+1-a.size
   ·simp[q]
   ·simp[q]
theorem xA.put {a:Array (Option Value)}{i j:Nat}{val:Value}{v:V}{o:Option V}(h:xA w ρ imm a j o) (c:i<3) (hz:a.size<=3) (b:QD val=Vt) (d:RV w ρ imm val v):xA w ρ imm (lw a i val) j (if j=i then Vr v else o):=λu e=>by
 rw[(qr c hz).2];by_cases q:j=i
 ·rw[if_pos q] at e ⊢;exact ⟨val,w3 rfl b (Kd e▸d)⟩
 ·rw[if_neg q] at e ⊢;exact h u e
noncomputable def fJ (p:Option V×Option V×Option V) (m:Str) (v:V):Option SObj:=if m=sn "successors" then Vr (.node (Vr v) p.2.1 p.2.2) else if m=sn "npredecessors" then Vr (.node p.1 (Vr v) p.2.2) else if m=sn "node" then Vr (.node p.1 p.2.1 (Vr v)) else Vs
noncomputable def pL:List Str:=[sn "value",sn "read"]
noncomputable def cN (st:List SObj) (v:V) (m:Str) (u:V):Option (List SObj):=if DP u=Vt then v.loc?.bind λl=>(st[l]?).bind λo=>(o.inst?.bind λa=>if iZ.contains m=Vt/\a.length<=800 then Vr (st.set l (.inst (aY m u a))) else Vs).or ((o.node?.bind λp=>(fJ p m u).map λo=>st.set l o).or (o.einst?.bind λa=>if pL.contains m=Vt/\a.length<=800 then Vr (st.set l (.einst (aY m u a))) else Vs)) else Vs
noncomputable def jD (fr:List (Str×V)) (o:Option (List SObj)):Res Unit:=optE o .bad λst=>.ok () ⟨fr,st⟩
theorem aN.toSt {fr:List (Str×V)}{o:Option (List SObj)}{P:eZ Unit}(h:∀st,o=Vr st->aN cx z RU x (.ok () ⟨fr,st⟩) P):aN cx z RU x (jD fr o) P:=by
 cases o with
 | none=>exact .bad
 | some st=>exact h st rfl
theorem uB {l C:Nat}{a:Addr}{ft:List (Addr×Obj)}{f:List (Str×V)}{m:Str}{so i:SObj}(B:Bs z.c) (b:At cx z s x) (t:Thing z.c s.st x l a ft so) (r:∃d es n,ft=[(a,⟨.ref C,Vr d,.plain,#[]⟩),(d,NQ es n)]/\Bu z.c.w x.ρ x.imm es f/\es.length<=f.length) (y:∀d es n,Bu z.c.w x.ρ x.imm es (aY m u f)->es.length<=(aY m u f).length->eY z.c.w x.ρ x.imm a i [(a,⟨.ref C,Vr d,.plain,#[]⟩),(d,NQ es n)]) (J:aZ z x val u) (O:DP u=Vt) (hz:f.length<=800) (M:O4 (KK z.c.w.params) (.ref C) "__setattr__" = Vr (Vr (.builtin "object.__setattr__"))) (R:Si (KK z.c.w.params) C=Vt) (Y:T5 (KK z.c.w.params) C m=Vr Vs) (T:Ui (KK z.c.w.params) C=Vt):aN cx z RU x (.ok () ⟨s.fr,s.st.set l i⟩) (tr z (OY (.ref a) m val)):=by
 have X:=B.kin b.H.base;refine aC λGz k=>?_;obtain ⟨P,A⟩:=b.frm;obtain ⟨dd,es,n,rfl,z1,z2⟩:=r;refine k ?_;have G:=b.H.ledIn (a,⟨.ref C,Vr dd,.plain,#[]⟩) (aD t.led (.head _));have g:x.h.get? dd=Vr (NQ es n):=b.H.ledIn (dd,NQ es n) (aD t.led (.tail _ (.head _)));have I:InstAt x.h a ⟨.ref C,Vr dd,.plain,#[]⟩ C (Vr (NQ es n)):=⟨G,rfl,rfl,g⟩
 have o:dd≠z.env.locals:=λq=>(b.F.ownI _ b.F.loc).1 (q▸HI.mem (p:=(dd,NQ es n)) t.led (.tail _ (.head _)));have v:a≠dd:=λq=>by
  have U:=congrArg QY (Kd (G.symm.trans (q▸g)));cases U
 have j:=z1.put (m:=m) (hh:=Ki z.c.w.params m) (t:=x.S.toks+1) z2 (mh O J) J;intro Q E q;refine set_plain X I M ?_;refine osa_dict (s:={x.S with toks:=x.S.toks+1}) (L:=z.env.locals) (h₀:=mi) (m:=P) (pre:=[]) (post:=allBut x.h z.env.locals dd) A (vB g o) X I rfl R Y T (by rw[Q7,lE z1.1];rfl) (λ_ h=>by cases h) AY (putName_dict _ _ _ _ _ _) rfl (Lr ht.1 (by lia)) λh' K N=>?_;exact q () _ (b.upF (tk:=x.S.toks+1+1) (ft':=[(a,⟨.ref C,Vr dd,.plain,#[]⟩),(dd,NQ (R0 m (Ki z.c.w.params m) (.str m (x.S.toks+1)) val es) (putN m es n))]) A t.led t.rho rfl (.tail _ (.head _)) (λp j=>(Kw.mp j).elim (λe=>.inr (by refine rp e ?_;exact ⟨.head _,v⟩)) λh=>.inl (Kk.mp h)) K N (y _ _ _ j.1 j.2) trivial)
theorem yq {l:Nat}{a:Addr}{ft:List (Addr×Obj)}{b:List (Str×V)}{m:Str}(B:Bs z.c) (e:At cx z s x) (t:Thing z.c s.st x l a ft (.inst b)) (g:aZ z x val u) (j:DP u=Vt) (k:iZ.contains m=Vt) (hz:b.length<=800):aN cx z RU x (.ok () ⟨s.fr,s.st.set l (.inst (aY m u b))⟩) (tr z (OY (.ref a) m val)):=uB (C:=bJ) B e t t.foot (λd i n h f=>y3 d i n (w3 rfl h f)) g j hz (sv _) (qo _) (beq_iff_eq.mp (KS.mp (vU z.c.w.params) m (KR.mp k))) (gZ _)
theorem C4 (P:LF):Si (KK P) bL=true:=rfl
theorem FN (P:LF):O4 (KK P) (.ref bL) "__setattr__" = Vr (Vr (.builtin "object.__setattr__")):=rfl
theorem Hu (P:LF):pL.all (λn=>T5 (KK P) bL n==Vr Vs)=true:=rfl
theorem vm (P:LF):Ui (KK P) bL=true:=rfl
theorem EP {l:Nat}{a:Addr}{ft:List (Addr×Obj)}{b:List (Str×V)}{m:Str}(B:Bs z.c) (e:At cx z s x) (t:Thing z.c s.st x l a ft (.einst b)) (g:aZ z x val u) (j:DP u=Vt) (k:pL.contains m=Vt) (hz:b.length<=800):aN cx z RU x (.ok () ⟨s.fr,s.st.set l (.einst (aY m u b))⟩) (tr z (OY (.ref a) m val)):=uB (C:=bL) B e t t.foot (λd i n h f=>y3 d i n (w3 rfl h f)) g j hz (FN _) (C4 _) (beq_iff_eq.mp (KS.mp (Hu z.c.w.params) m (KR.mp k))) (vm _)
theorem yn {l:Nat}{a:Addr}{ft:List (Addr×Obj)}{p:Option V×Option V×Option V}{m:Str}{so:SObj}(B:Bs z.c) (b:At cx z s x) (t:Thing z.c s.st x l a ft (.node p.1 p.2.1 p.2.2)) (g:aZ z x val u) (N:DP u=Vt) (h:fJ p m u=Vr so):aN cx z RU x (.ok () ⟨s.fr,s.st.set l so⟩) (tr z (OY (.ref a) m val)):=by
 have X:=B.kin b.H.base;refine aC λK e=>?_;obtain ⟨O,G⟩:=b.frm;obtain ⟨o,C,I,⟨rfl,m1,hz⟩,z1,z2,z3⟩:=t.node b.H;refine e ?_;have n:=b.H.ledIn (a,qB o C) (aD t.led (.head _));have A:a≠z.env.locals:=λq=>(b.F.ownI _ b.F.loc).1 (q▸HI.mem t.led (.head _));have v:=mh N g;have y:∀{d i:Nat},(m,d,i)∈slotsN->i<3->so=.node (if 2=i then Vr u else p.1) (if 1=i then Vr u else p.2.1) (if 0=i then Vr u else p.2.2)->aN cx z RU x (.ok () ⟨s.fr,s.st.set l so⟩) (tr z (OY (.ref a) m val)):=λ{d i} k f T Q E q=>by
  refine aC λK e=>?_;obtain ⟨f1,P,U,R⟩:=mf z.c.w.params _ k;refine e ?_;refine set_plain X I (yQ _) (osa_descr (s:={x.S with toks:=x.S.toks+1}) KF.slot_mset X I (wn _) U R (slot_set (s:={x.S with toks:=x.S.toks+1}) (L:=z.env.locals) (h₀:=mi) (m:=O) (pre:=[]) (post:=allBut x.h z.env.locals a) G (vB n A) X I P (show i<1000 by walk_at "n") (λ_ h=>by cases h) AY rfl rfl λh' J M=>?_));exact q () _ (b.upF (tk:=x.S.toks+1) (ft':=[(a,qB o (lw C i val))]) G t.led t.rho rfl (.head _) (λp k=>.inl (Kk.mp k)) J M (T▸(y2 o _ (w6 rfl m1 ((qr f hz).1) (z1.put f hz v g) (z2.put f hz v g) (z3.put f hz v g)))) trivial)
 unfold fJ at h;by_cases r:m=sn "successors"
 ·exact y (d:=43) (i:=2) (r▸.head _) (by walk_at "n") (Kd ((if_pos r).symm.trans h)).symm
 ·replace h:=(if_neg r).symm.trans h;by_cases j:m=sn "npredecessors"
  ·exact y (d:=42) (i:=1) (j▸.tail _ (.head _)) (by walk_at "n") (Kd ((if_pos j).symm.trans h)).symm
  ·exact bD ((if_neg j).symm.trans h) λY h=>y (d:=41) (i:=0) (Y▸.tail _ (.tail _ (.head _))) (by walk_at "n") (Kd h).symm
theorem lU {m:Str}(B:Bs z.c) (a:At cx z s x) (n:aZ z x b v) (i:aZ z x val u):aN cx z RU x (jD s.fr (cN s.st v m u)) (tr z (OY b m val)):=.toSt λj h=>bD h λk h=>a.H.onL (P:=λb=>aN cx z RU x (.ok () ⟨s.fr,j⟩) (tr z (OY b m val))) n h λ_ t h=>cL h (λh=>aA h λg d h=>bD h λf l=>Kd l▸yq B a (pE d▸t) i k f.1 f.2) λh=>cL h (λh=>aA h λp d h=>aV h λo h e=>e▸yn B a (uN d▸t) i k h) λh=>aA h λg d h=>bD h λf l=>Kd l▸EP B a (rt d▸t) i k f.1 f.2
end
end
section
set_option linter.all false
section
variable {w:Lh}{A:Lg}{c:Cn}{cx:Cx}{z:Z}{s:St}{x y:X}{st:List SObj}{b val iv:Value}{v u:V}{k:Nat}{ρ:List Addr}{imm:Imm}
theorem nB {S:Shared}{E:Value->Shared->Prop}{l:Addr}{vs:List Value}{n:Nat}{k:Int}{t:PT}{v:Value}{Q:Unit->Shared->Prop}(b:S.heap.get? l=Vr (lstO vs n)) (h0:0<=k) (a:k<2 ^ 63) (f:k<vs.length) (g:∀h' n',h'.get? l=Vr (lstO (vs.set k.toNat v) n')->MV l S.heap h'->Q () {S with heap:=h'}):Kq (Kr PR w) A (NL (.ref l) (.int k t) v) Q E S:=by
 have d:=aJ b;unfold NL
 try with_reducible refine Lp ?_
 first | refine Kg (Ks ?_) | skip
 refine Kg (wpAny_sequenceKey d.typeIs (by decide) ?_);refine Kg (NT (name:=Mh "__setitem__") d.typeIs TX (MR TX d.typeIs entry_list_setitem ?_ (args_list_setitem _ _ _)));show Kq _ _ (Mf.List.listSubscript? (.int k t) >>= _) _ _ S;refine Kg (wpAny_listSubscript_int (fitsIndex_of h0 a) ?_);clear a;obtain ⟨j,rfl⟩:=Lj h0;have f:j<vs.length:=by lia
 have c:vs.toArray[j]?=Vr vs[j]:=by simp[f]
 show Kq _ _ ((seqItemAt l j >>= λr=>pure (r.map (j,·))) >>= _) _ _ S;refine Kg (Kg (wpAny_seqItemAt b rfl (Ks ?_)));rw[c];show Kq _ _ (setSeqItemAt l j v >>= _) _ _ S;have e:=Lq (N4 (·.setIfInBounds j v)) b rfl;obtain ⟨n',h⟩:∃n',N4 (·.setIfInBounds j v) (lstO vs n)=lstO (vs.set j v) n':=⟨_,by
  have i:vs.toArray.setIfInBounds j v=(vs.set j v).toArray:=by simp
  unfold N4 lstO;simp only[i];rfl⟩
 rw[h] at e;refine Kg (wpAny_setSeqItemAt b rfl ?_)
 first
  | exact Kg (Ks (Ks ⟨.none,rfl,Ks (g _ _ e (LX ..))⟩))
  | exact Ks ⟨.none,rfl,Ks (g _ _ e (LX ..))⟩
theorem RDs.set {vs:List Value}{ds:List D}(r:RDs w imm vs ds){v:Value}{d:D}(h:RD w imm v d):∀j,RDs w imm (vs.set j v) (ds.set j d):=r.ind (M:=λvs ds=>∀j,RDs w imm (vs.set j v) (ds.set j d)) (λ_=>.nil) λb r a j=>Qu j (.cons h r) λj=>.cons b (a j)
theorem yH {α:Type}{k:Int}{d:α}:∀{ds:List (Int×α)},k∉ds.map (·.1)->lZ k d ds=ds++[(k,d)]/\pR k ds=ds:=@lr _ _ (@λ_=>⟨rfl,rfl⟩) (λp r a=>(@λh=>by
  rw[KG,Kw,not_or] at h;have b:=a h.2;exact ⟨(if_neg (LV h.1)).trans (congrArg _ b.1),(if_neg (LV h.1)).trans (congrArg _ b.2)⟩))
theorem qn {k j:Int}{u v:Value}{r:List (Int×Value)}:TE ((j,u)::r) k v=if j=k then (j,v)::r.map (λa=>if a.1=k then (a.1,v) else a) else (j,u)::TE r k v:=by
 unfold TE;by_cases h:j=k
 ·rw[if_pos h,if_pos (by rw[TN];simp[h]),KG,if_pos h]
 ·rw[if_neg h,TN,show decide (j=k)=Vu from decide_eq_false h,PK,KG,if_neg h];split<;>rfl
theorem RK.put {α:Type}{R:Value->α->Prop}{k:Int}{v:Value}{d:α}(l:R v d){kvs:List (Int×Value)}{ds:List (Int×α)}(h:RK R kvs ds):(kvs.map (·.1)).Nodup->RK R (TE kvs k v) (lZ k d ds)/\RK R (Rj kvs k) (pR k ds):=h.ind (M:=λkvs ds=>(kvs.map (·.1)).Nodup->RK R (TE kvs k v) (lZ k d ds)/\RK R (Rj kvs k) (pR k ds)) (λ_=>⟨.cons l .nil,.nil⟩) λ{j u e r q} i rq g a=>by
  have a:=LP.mp a;have n:Rj ((j,u)::r) k=if j=k then Rj r k else (j,u)::Rj r k:=by unfold Rj;rw[Mt];by_cases h:j=k<;>simp[h]
  rw[qn,n];show RK R _ (if j=k then (j,d)::q else (j,e)::lZ k d q)/\RK R _ (if j=k then q else (j,e)::pR k q);by_cases b:j=k
  ·subst b;rw[if_pos rfl,if_pos rfl,if_pos rfl,if_pos rfl,without_of_not_mem _ _ a.1,show r.map (λc=>if c.1=j then (c.1,v) else c)=r from (LN λc m=>if_neg λ(e:c.1=j)=>a.1 (e▸KU (f:=(·.1)) m)).trans (N6 r)];exact ⟨.cons l rq,rq⟩
  ·rw[if_neg b,if_neg b,if_neg b,if_neg b];exact ⟨.cons i (g a.2).1,.cons i (g a.2).2⟩
noncomputable def eD (st:List SObj) (v:V) (i:Int) (u:V):Option (List SObj):=v.loc?.bind λl=>(st[l]?).bind λo=>
 (u.d?.bind λd=>(o.list?.bind λds=>if 0<=i/\i.toNat<ds.length then Vr (st.set l (.list (ds.set i.toNat d))) else Vs).or (o.dict?.bind λkvs=>if kvs.length<=1000 then Vr (st.set l (.dict (lZ i d kvs))) else Vs)).or
 (u.loc?.bind λm=>(o.objs?.bind λkvs=>if kvs.length<=1000 then Vr (st.set l (.objs (lZ i m kvs))) else Vs).or (o.dict?.bind λkvs=>if kvs.isEmpty=Vt then Vr (st.set l (.objs [(i,m)])) else Vs))
theorem lT {α:Type}{R:Value->α->Prop}{i:Int}{t:PT}{l:Nat}{a:Addr}{o:Obj}{kvs:List (Int×Value)}{ds:List (Int×α)}{d:α}{so:SObj}(e:At cx z s x) (k:x.led[l]?=Vr [(a,o)]) (C:x.ρ[l]?=Vr a) (j:o.IsDictOf (Ld PR z.c.w) kvs) (m:RK R kvs ds) (A:R val d) (hz:ds.length<=1000) (r:∀f b,f.IsDictOf (Ld PR z.c.w) b->RK R b (lZ i d ds)->eY z.c.w x.ρ x.imm a so [(a,f)]):aN cx z RU x (.ok () ⟨s.fr,s.st.set l so⟩) (tr z (NL (.ref a) (.int i t) val)):=by
 have v:=e.H.ledIn _ (aD k (.head _));have F:=m.length;refine aN.upd e k C λQ E q=>wpAny_setItem_pairs (MF _ _ _ _) (LO.mpr ⟨o,v,j⟩) (λu h hs=>?_) (bQ (by walk_at "n"));refine aC λG g=>?_;obtain ⟨f,y,p⟩:=LO.mp h;obtain ⟨_,_,_,_,_,_,n⟩:=j;refine g ?_;exact q u _ f () hs y (r f _ p (m.put A n).1) λ_ _ _=>trivial
theorem qs {i:Int}{t:PT}(f:At cx z s x) (R:aZ z x b v) (M:aZ z x val u):aN cx z RU x (jD s.fr (eD s.st v i u)) (tr z (NL b (.int i t) val)):=.toSt λI h=>f.H.onL (P:=λb=>aN cx z RU x (.ok () ⟨s.fr,I⟩) (tr z (NL b (.int i t) val))) R h λ{l a Y o} _ g h=>cL h (λh=>aA h λd J h=>have K:=RV.onD M J
  cL h (λh=>aA h λds w h=>bD h λk r=>by
   refine aC λF e=>?_;obtain rfl:=eO w;obtain ⟨U,n,rfl,G,hz,rs⟩:=g.list f.H;have T:=rs.length;obtain ⟨j,rfl⟩:=Lj k.1;refine e ?_;have hj:j<U.length:=T▸k.2;exact Kd r▸aN.upd f g.led g.rho λQ E q=>nB G k.1 (by walk_at "n") (by walk_at "n") λO N G hs=>q O x.S.toks _ () hs G (y2 _ N (w3 rfl (by rw[KZ];exact hz) (rs.set K _))) λ_ _ _=>trivial)
  λh=>aA h λds w h=>bD h λk r=>by
   refine aC λF e=>?_;obtain rfl:=iL w;obtain ⟨o,p,rfl,hd,rk⟩:=g.foot;refine e ?_;exact Kd r▸lT f g.led g.rho hd rk.rk K k λC c A y=>y2 C c (w3 rfl A y.rks))
 λh=>aA h λm J h=>have L:∃a,val=.ref a/\x.ρ[m]?=Vr a:=by obtain rfl:=kE J;exact M
  cL h (λh=>aA h λds w h=>bD h λk r=>by
   refine aC λF e=>?_;obtain rfl:=ly w;obtain ⟨o,p,rfl,hd,rk⟩:=g.foot;refine e ?_;exact Kd r▸lT f g.led g.rho hd rk L k λC c A y=>y2 C c (w3 rfl A y))
  λh=>aA h λds w h=>bD h λk r=>by
   refine aC λF e=>?_;obtain rfl:=iL w;obtain rfl:=OO.mp k;obtain ⟨o,p,rfl,hd,rk⟩:=g.foot;refine e ?_;have:p=[]:=LW rk.rk.length;subst this;exact Kd r▸lT (ds:=[]) f g.led g.rho hd .nil L (LE _) λC c A y=>y2 C c (w3 rfl A y)
noncomputable def kI (st:List SObj) (v:V) (i:Int):Option (List SObj):=v.loc?.bind λl=>(st[l]?).bind λo=>o.dict?.bind λkvs=>if (aF i kvs).isSome=Vt/\kvs.length<=1000 then Vr (st.set l (.dict (pR i kvs))) else Vs
theorem AE {i:Int}{t:PT}(f:At cx z s x) (C:aZ z x b v):aN cx z RU x (jD s.fr (kI s.st v i)) (tr z (Rk b (.int i t))):=.toSt λk h=>f.H.onL (P:=λb=>aN cx z RU x (.ok () ⟨s.fr,k⟩) (tr z (Rk b (.int i t)))) C h λ{l a K o} _ g h=>aA h λL G h=>bD h λJ p=>by
  refine aC λA e=>?_;obtain rfl:=iL G;obtain ⟨o,kvs,rfl,hd,rk⟩:=g.foot;refine e ?_;have M:=rk.rk.length;have j:x.h.DictOf (Ld PR z.c.w) a kvs:=LO.mpr ⟨o,f.H.ledIn _ (aD g.led (.head _)),hd⟩;refine Kd p▸aN.upd f g.led g.rho λQ E q=>wpAny_delItem_slot (j.typeIs (s:=x.S)) (by decide) Qs (QC Qs (j.typeIs (s:=x.S)) PySem.F.entry_dict_delitem (PySem.F.args_dict_delitem_2 _ _) (meets_dict_delitem_pairs (Ld PR z.c.w) a (MF _ _ _ t)) ⟨kvs,w4 j (bQ (by walk_at "n")) ((rk.rk.isSome i).trans J.1) (λy m hs=>?_)⟩);refine aC λA e=>?_;obtain ⟨n,I,u⟩:=LO.mp m;obtain ⟨_,_,_,_,_,_,r⟩:=hd;refine e ?_;exact q y _ n () hs I (y2 n _ (w3 rfl u (((rk.rk.put (v:=.none) (d:=D.non) .non r).2).rks))) λ_ _ _=>trivial
noncomputable def HS (op:NA) (a b:D):Option D:=match op with
 | .Add=>jr a b λi j=>Vr (.int (i+j))
 | .Sub=>jr a b λi j=>Vr (.int (i-j))
 | _=>Vs
theorem Bc {op:NA}{d e o:D}(c:RD w x.imm b d) (a:RD w x.imm val e) (h:HS op d e=Vr o):fT w A x (QX op b val) o:=by
 cases op with
 | Add=>exact dS c a h λi j t u h=>et h <| .int λQ E q=>PySem.AutoIntOps.iadd_0 q
 | Sub=>exact dS c a h λi j t u h=>et h <| .int λQ E q=>PySem.AutoIntOps.isub_0 q
 | _=>exact au h
end
end
section
set_option linter.all false
noncomputable def wy (b:Array UInt8):Str:=⟨b.map λc=>c.toNat⟩
section
variable {w:Lh}{A:Lg}{E:Value->Shared->Prop}{s:Shared}{b:Array UInt8}{c:UInt8}{cs:List UInt8}{t u:PT}{n:Nat}
theorem zl {id:String}:Pw id b (sn "latin-1") Vs []=(NR id Pa Vs Vt b 0 [] >>= λr=>Vj ⟨r.1⟩):=rfl
theorem wx:Mf.«bytes.decode» ⟨[.bytes (c::cs).toArray t,.str (sn "latin-1") u],[]⟩=(Vj (sn "utf-8") >>= λ_=>Vj (sn "latin-1") >>= λe=>Vj (sn "bytes.decode") >>= λd=>
  call (.builtin "_codecs.decode.text") [.bytes (c::cs).toArray t,e,.none,d] >>= λv=>ret v):=by kernel_rfl
theorem zp (a b:Value):Qm "bytes.decode" ⟨[a,b],[]⟩:=by
 unfold Qm;rw[signature?_of (id:="bytes.decode") (n:=['e','d','o','c','e','d']) (o:=['s','e','t','y','b']) rfl FB.owner_bytes];kernel_rfl
theorem zm {σ:Type}{st:σ}{f:Nat->Nat×Array Nat×σ->O0 (ForInStep (Nat×Array Nat×σ))}(e:∀x p out,p<b.size->out.size=p->f x (p,out,st)=pure (.yield (p+1,out++[(b.getD p 0).toNat].toArray,st))):∀(l:List Nat) (p:Nat) (out:Array Nat),p+l.length=b.size->out.toList=(b.toList.take p).map (·.toNat)->forIn l (p,out,st) f=pure (b.size,(wy b).cps,st):=@lr _ _ (@λp out c d=>by
  have c:p=b.size:=c;rw[Tv,c];have:out=(wy b).cps:=Array.toList_inj.mp (by
   rw[d,c,Mi (by rw[KN];exact KL _)];exact (Array.toList_map ..).symm)
  rw[this])
 (λx l g=>(@λp out c d=>by
  rw[Lw] at c;have a:p<b.size:=by lia
  have h:p<b.toList.length:=by rw[KN];exact a
  rw[Qv,e x p out a (by rw[<- KN,d,Ke,Lv];lia)];refine g (p+1) _ (by lia) ?_;rw[RP,d,List.take_succ,KD,Kl h]
  congr 1
  simp[a]))
theorem CD {id:String}(hz:b.size<=1000):NR id Pa Vs Vt b 0 []=pure ((wy b).cps,b.size):=by
 unfold NR;simp only[Ri.forIn_eq_forIn_range']
 rewrite [zm (b:=b) (st:=_) (λx p c d a=>?_) _ 0 #[] (by simp[Ri.size]) rfl]
 ·rfl
 ·dsimp only;rw[if_neg (by rw[a,Ou];lia),if_neg (by lia)];rfl
theorem zn {Q:Value->Shared->Prop}(hz:b.size<=1000) (h0:b.size≠0) (h:∀a k,Q (.str (wy b) a) {s with toks:=k}):Kq (Kr PR w) A (call (.builtin "bytes.decode") [.bytes b t,.str (sn "latin-1") u]) Q E s:=by
 obtain ⟨l⟩:=b;cases l with
 | nil=>exact absurd rfl h0
 | cons c cs=>
  have e:=λid=>CD (id:=id) hz;have f:(wy (c::cs).toArray).length<=sizeLine:=by rw[Ou];show (Array.map _ _).size<=_;rw[Th];exact Lr hz (by decide)
  refine Ql (S:=λ_ R s=>∀a k,R (.ok (.ret (.str (wy (c::cs).toArray) a))) {s with toks:=k}) FB.slot_bytes_decode (Sx _ _ _) FB.entry_bytes_decode (zp _ _) (.of_wp λd w A R s h=>?_) λa k=>h a k;show Kq _ _ (Mf.«bytes.decode» ⟨[.bytes (c::cs).toArray t,.str (sn "latin-1") u],[]⟩) _ _ _;rw[wx];refine Kg (Q5 ?_ (by decide));refine Kg (Q5 ?_ (by decide));refine Kg (Q5 ?_ (by decide));refine Kg (call_function_meets (S:=λ_ R s=>R (.ok (.ret (.str (wy (c::cs).toArray) s.toks))) {s with toks:=s.toks+1}) KBd.kind_text KBd.plain_text KBd.entry_text (KBd.args_text _ _ _ _) (.of_wp λd w A R s h=>?_) (Ks ⟨_,rfl,h _ _⟩));show Kq _ _ (Mf.Bytes.bytesLike _ (.bytes (c::cs).toArray t) >>= λr=>_) _ _ s;refine Kg (MP KBd.like_eq ?_);refine Kg (MP KBd.held_eq ?_);show Kq _ _ (Pw _ (c::cs).toArray (sn "latin-1") Vs [] >>= λv=>_) _ _ s;rw[zl,e];refine Kg (Kg (Ks ?_));exact Q5 (Ks ⟨_,rfl,h⟩) f
end
end
section
set_option linter.all false
noncomputable def BM.id:BM->String
 | .append=>"list.append" | .pop=>"list.pop" | .clear=>"list.clear" | .index=>"list.index" | .get=>"dict.get" | .values=>"dict.values" | .add=>"set.add" | .join=>"str.join" | .decode=>"bytes.decode"
noncomputable def qN:List (Str×BM):=[(sn "append",.append),(sn "pop",.pop),(sn "clear",.clear),(sn "index",.index)]
noncomputable def rD:List (Str×BM):=[(sn "get",.get),(sn "values",.values)]
noncomputable def IJ:List (Str×BM):=[(sn "add",.add)]
noncomputable def II:List (Str×BM):=[(sn "join",.join)]
noncomputable def F4:List (Str×BM):=[(sn "decode",.decode)]
noncomputable def SObj.tab (o:SObj):List (Str×BM):=SObj.casesOn o [] (λ_=>qN) (λ_=>qN) (λ_=>rD) (λ_=>rD) (λ_=>rD) (λ_=>IJ) (λ_=>[]) (λ_ _ _=>[]) (λ_ _=>[]) (λ_ _=>[]) (λ_ _=>[]) [] λ_=>[]
noncomputable def D.tab (d:D):List (Str×BM):=D.casesOn d [] (λ_=>[]) (λ_=>[]) (λ_=>II) (λ_=>F4) (λ_=>[]) (λ_=>qN) (λ_=>rD) (λ_ _=>[]) (λ_=>[]) λ_=>[]
noncomputable def hS (st:List SObj) (v:V) (m:Str):Option BM:=(v.d?.bind λd=>bY m d.tab).or (v.loc?.bind λl=>(st[l]?).bind λo=>bY m o.tab)
section
variable {w:Lh}{A:Lg}{c:Cn}{cx:Cx}{z:Z}{s:St}{x y:X}{st:List SObj}{b val iv:Value}{v u:V}{k:Nat}{ρ:List Addr}{imm:Imm}{m:Str}{pl:O0 Bool}{Q:Value×List Value->Shared->Prop}{E:Value->Shared->Prop}{S:Shared}{a:Addr}{bm:BM}
def dK (w:Lh) (S:Shared) (a:Value) (m:Str) (b:BM):Prop:=∀(A:Lg) (pl:O0 Bool) (Q:Value×List Value->Shared->Prop) (E:Value->Shared->Prop),Q (.builtin b.id,[a]) S->Kq (Kr PR w) A (getMethod a m pl) Q E S
theorem jL {a:Value}{l:List (Str×BM)}(b:bY m l=Vr bm) (h:∀p∈l,dK w S a p.1 p.2):dK w S a m bm:=h _ (iD b)
theorem hH {a:Value}:∀p∈([]:List (Str×BM)),dK w S a p.1 p.2:=λ_ h=>nomatch h
theorem dC {a:Value}{p:Str×BM}{l:List (Str×BM)}(h:dK w S a p.1 p.2) (k:∀p∈l,dK w S a p.1 p.2):∀q∈p::l,dK w S a q.1 q.2:=λq b=>(Kw.mp b).elim (λe=>by rw[e];exact h) (k q)
theorem iA {o:Obj}(h:S.heap.get? a=Vr o) (c:o.dict=Vs):∀b,Nb a=.ref b->∃o,S.heap.get? b=Vr o/\o.dict=none:=λb e=>by cases e;exact ⟨o,h,c⟩
theorem kC {o:Obj}(h:S.heap.get? a=Vr o) (c:o.cls=.type "list") (b:o.dict=Vs) (d:bY m qN=Vr bm):dK w S (.ref a) m bm:=by
 refine jL d (dC ?_ (dC ?_ (dC ?_ (dC ?_ hH))))
 ·exact λA pl Q E q=>M1 ⟨o,h,c⟩ NC PySem.F.slot_list_append PySem.F.type_list_append (iA h b) q
 ·exact λA pl Q E q=>M1 ⟨o,h,c⟩ NC PySem.F.slot_list_pop PySem.F.type_list_pop (iA h b) q
 ·exact λA pl Q E q=>M1 ⟨o,h,c⟩ NC QK PySem.F.type_list_clear (iA h b) q
 ·exact λA pl Q E q=>M1 ⟨o,h,c⟩ NC QJ PySem.F.type_list_index (iA h b) q
theorem iC {o:Obj}{kvs:List (Int×Value)}(h:S.heap.get? a=Vr o) (b:o.IsDictOf (Ld PR w) kvs) (c:bY m rD=Vr bm):dK w S (.ref a) m bm:=by
 obtain ⟨d,f,e,_⟩:=b;refine jL c (dC ?_ (dC ?_ hH))
 ·exact λA pl Q E q=>M1 ⟨o,h,e.1⟩ QM OR PySem.F.type_dict_get (iA h e.2.1) q
 ·exact λA pl Q E q=>M1 ⟨o,h,e.1⟩ QM QF PySem.F.type_dict_values (iA h e.2.1) q
theorem xb {t:Array UInt8}{k:PT}:dK w S (.bytes t k) (sn "decode") .decode:=λA pl Q E q=>by
 have q:Q (.builtin "bytes.decode",[.bytes t k]) S:=q
 with_reducible exact KBd.method q
theorem CM {t:Str}{k:PT}:dK w S (.str t k) (sn "join") .join:=λA pl Q E q=>M1 (typeIs_str _ _ _) PySem.F.plainAttrs_str PySem.F.slot_str_join PySem.F.type_str_join (λb e=>nomatch e) q
theorem Gh {o:Obj}{b:List Int}(h:S.heap.get? a=Vr o) (c:o.SetObjOf (Ld PR w) (λk=>b.contains k) b.length) (hz:b.length<=1001):dK w S (.ref a) (sn "add") .add:=λA pl Q E q=>getMethod_set_add (c.setOf h (by show _<4096;walk_at "n")) q
theorem uU {a:Value}(h:bY m []=Vr bm):dK w S a m bm:=nomatch h
theorem Fo {a:Value}{d:D}(I:Im x) (r:RD w x.imm a d) (h:bY m d.tab=Vr bm):dK w x.S a m bm:=by
 have r:=r.view;cases d with
 | lst=>obtain ⟨p,b,n,rfl,m,_⟩:=r;exact kC (I _ m) rfl rfl h
 | dct=>obtain ⟨p,o,n,rfl,m,hd,_⟩:=r;exact iC (I _ m) hd h
 | str=>obtain ⟨t,rfl,_⟩:=r;exact jL h (dC CM hH)
 | bytes=>obtain ⟨t,rfl,_⟩:=r;exact jL h (dC xb hH)
 | _=>exact uU h
theorem Fn {l:Nat}{ft:List (Addr×Obj)}{o:SObj}(H:HI c st x) (g:Thing c st x l a ft o) (h:bY m o.tab=Vr bm):dK c.w x.S (.ref a) m bm:=by
 have b:=g.foot;have e:∀q∈ft,x.h.get? q.1=Vr q.2:=λq i=>H.ledIn _ (aD g.led i);clear g;cases o with
 | list=>obtain ⟨f,n,rfl,_⟩:=b;exact kC (e _ (.head _)) rfl rfl h
 | nexts=>obtain ⟨f,n,rfl,_⟩:=b;exact kC (e _ (.head _)) rfl rfl h
 | dict=>obtain ⟨f,n,rfl,d,_⟩:=b;exact iC (e _ (.head _)) d h
 | objs=>obtain ⟨f,n,rfl,d,_⟩:=b;exact iC (e _ (.head _)) d h
 | fobjs=>obtain ⟨_,f,n,m,d,_⟩:=b;exact iC (H.immIn _ m) d h
 | set=>obtain ⟨o,rfl,ho,hz⟩:=b;exact jL h (dC (Gh (e _ (.head _)) ho hz) hH)
 | _=>exact uU h
theorem CB {a:Value}(H:HI c st x) (b:RV c.w x.ρ x.imm a v) (h:hS st v m=Vr bm):dK c.w x.S a m bm:=cL h (λh=>aA h λd e h=>Fo H.immIn (b.onD e) h) λh=>HI.on (P:=λa=>dK c.w x.S a m bm) H b h λ_ f h=>Fn H f h
noncomputable def vH (st:List SObj) (v u:V):Option (List SObj):=v.loc?.bind λl=>(st[l]?).bind λo=>(u.d?.bind λd=>o.list?.bind λds=>if ds.length<=1000 then Vr (st.set l (.list (ds++[d]))) else Vs).or (u.nxt?.bind λm=>(o.list?.bind λds=>if ds.isEmpty=Vt then Vr (st.set l (.nexts [m])) else Vs).or (o.nexts?.bind λls=>if ls.length<=1000 then Vr (st.set l (.nexts (ls++[m]))) else Vs))
noncomputable def GP (st:List SObj) (v:V):Option (V×List SObj):=v.loc?.bind λl=>(st[l]?).bind λo=>(o.list?.bind λds=>ds.getLast?.map λd=>(.d d,st.set l (.list ds.dropLast))).or (o.nexts?.bind λls=>ls.getLast?.map λm=>(.nxt m,st.set l (.nexts ls.dropLast)))
noncomputable def AQ (st:List SObj) (v:V):Option (List SObj):=v.loc?.bind λl=>(st[l]?).bind λo=>o.list?.map λ_=>st.set l (.list [])
noncomputable def Hk (st:List SObj) (v:V) (us:List V):Option V:=(fc us λu=>u.d?.bind λd=>d.int?.bind λi=>((v.kvs? st).map λkvs=>.d ((aF i kvs).getD .non)).or ((v.objs? st).map λkvs=>optE (aF i kvs) (.d .non) .loc)).or (Dw us λu e=>u.d?.bind λd=>d.int?.bind λi=>e.d?.bind λe=>(v.kvs? st).map λkvs=>.d ((aF i kvs).getD e))
noncomputable def uv (st:List SObj) (v:V):Option V:=v.loc?.bind λl=>(st[l]?).bind λo=>o.objs0?.map λ_=>.vals l
noncomputable def HW (st:List SObj) (v:V) (i:Int):Option (List SObj):=v.loc?.bind λl=>(st[l]?).bind λo=>o.set?.bind λa=>if a.length<=1000 then Vr (st.set l (.set (if a.contains i=Vt then a else a++[i]))) else Vs
noncomputable def DU (d e:D):Option D:=d.str?.bind λx=>e.lst?.bind λl=>if x.length=0/\l.length<=1000 then (gT l).bind λa=>if (a.map (·.length)).sum<=1000 then Vr (.str (Pv x a)) else Vs else Vs
noncomputable def GR (fr:List (Str×V)) (o:Option (V×List SObj)):Res V:=optE o .bad λp=>.ok p.1 ⟨fr,p.2⟩
noncomputable def Bg {α:Type}(us:List V) (o:Option α):Option α:=LZ us o λ_ _=>Vs
noncomputable def iW (st:List SObj) (b:BM) (v:V) (us:List V):Option (V×List SObj):=match b with
 | .append=>fc us λu=>(vH st v u).map λst=>(.d .non,st)
 | .pop=>Bg us (GP st v)
 | .clear=>Bg us ((AQ st v).map λst=>(.d .non,st))
 | .index=>fc us λu=>u.d?.bind λd=>(v.ls? st).bind λl=>(gs d l).map λ(i:Nat)=>(.d (.int (i:Int)),st)
 | .get=>(Hk st v us).map λu=>(u,st)
 | .values=>Bg us ((uv st v).map λu=>(u,st))
 | .add=>fc us λu=>u.d?.bind λd=>d.int?.bind λi=>(HW st v i).map λst=>(.d .non,st)
 | .join=>fc us λu=>u.d?.bind λd=>v.d?.bind λe=>(DU e d).map λo=>(.d o,st)
 | .decode=>fc us λu=>u.d?.bind λd=>d.str?.bind λe=>v.d?.bind λf=>f.bytes?.bind λb=>if e=sn "latin-1"/\b.size<=1000/\b.size≠0 then Vr (.d (.str (wy b)),st) else Vs
theorem aN.ofB {fr:List (Str×V)}{o:Option (V×List SObj)}{P:eZ Value}(h:∀v st,o=Vr (v,st)->aN cx z (aZ z) x (.ok v ⟨fr,st⟩) P):aN cx z (aZ z) x (GR fr o) P:=by
 cases o with
 | none=>exact .bad
 | some p=>exact h p.1 p.2 rfl
theorem me.snoc {vs:List Value}{ls:List Nat}(h:me ρ imm vs ls){l:Nat}{a b:Addr}(f:(a,sZ b)∈imm) (g:ρ[l]?=Vr b):me ρ imm (vs++[.ref a]) (ls++[l]):=by
 refine ⟨by rw[Km,Km,h.1];rfl,λi v e=>?_⟩;by_cases d:i<vs.length
 ·rw[KB d] at e;rw[KB (h.1▸d)];exact h.2 i v e
 ·rw[LB (by walk_at "n")] at e;rw[LB (by have:=h.1;walk_at "n"),<- h.1];cases c:i-vs.length with
  | zero=>
   rw[c] at e;exact y3 l a b (w4 rfl ((Kd e).symm) f g)
  | succ j=>rw[c] at e;cases e
theorem me.init {vs:List Value}{ls:List Nat}(h:me ρ imm vs ls){m:Nat}(e:ls.getLast?=Vr m):∃us u a b,vs=us++[u]/\me ρ imm us ls.dropLast/\u=.ref a/\(a,sZ b)∈imm/\ρ[m]?=Vr b:=by
 obtain ⟨j,rfl⟩:=Q3.mp e;have c:=h.1;rw[Km,KP] at c;obtain ⟨us,u,rfl⟩:∃us u,vs=us++[u]:=y2 vs.dropLast _ ((Od (λe=>by rw[e] at c;cases c)).symm);rw[Km,KP] at c;have c:us.length=j.length:=Nj c;rw[MW];obtain ⟨l,a,b,d,n,g,k⟩:=h.2 us.length u (by rw[LB (KL _),NS];rfl);rw[c,LB (KL _),NS] at d;refine rp (Kd d) ?_;refine y4 us u a b (w5 rfl ⟨c,λi v e=>?_⟩ n g k);have f:=(Kh.mp e).1;have:=h.2 i v (by rw[KB f];exact e)
 rwa [KB (c▸f)] at this
theorem RDs.init {vs:List Value}{ds:List D}(h:RDs w imm vs ds){d:D}(e:ds.getLast?=Vr d):∃us u,vs=us++[u]/\RDs w imm us ds.dropLast/\RD w imm u d:=by
 obtain ⟨c,rfl⟩:=Q3.mp e;have a:=h.length;rw[Km,KP] at a;obtain ⟨us,u,rfl⟩:∃us u,vs=us++[u]:=y2 vs.dropLast _ ((Od (λe=>by rw[e] at a;cases a)).symm);rw[Km,KP] at a;have a:us.length=c.length:=Nj a;rw[MW];obtain ⟨n,f,r⟩:=h.get (k:=c.length) (d:=d) (by rw[LB (KL _),NS];rfl);rw[<- a,LB (KL _),NS] at f;obtain rfl:=Kd f;refine y2 us u (w3 rfl (.of_get a λj v l g b=>?_) r);obtain ⟨m,i,r⟩:=h.get (k:=j) (d:=l) (by rw[KB (Kh.mp b).1];exact b);rw[KB (Kh.mp g).1,g] at i;exact Kd i▸r
abbrev cX (z:Z) (b:BM) (a:Value) (vs:List Value):eZ Value:=tr z (call (.builtin b.id) (a::vs))
theorem nw {l n:Nat}{a:Addr}{us:List Value}{so:SObj}{u:Value}(b:At cx z s x) (f:x.led[l]?=Vr [(a,lstO us n)]) (i:x.ρ[l]?=Vr a) (hz:us.length<=1000) (g:eY z.c.w x.ρ x.imm a so [(a,lstO (us++[u]) (n+1))]):aN cx z (aZ z) x (.ok (.d .non) ⟨s.fr,s.st.set l so⟩) (cX z .append (.ref a) [u]):=by
 refine aN.upd b f i λQ E q=>append_at (b.H.ledIn _ (aD f (.head _))) (λh hs e=>?_) (bQ (by rw[Kz];walk_at "n"));have j:({cls:=.type "list",data:=.seq (us.toArray.push u) (n+1)}:Obj)=lstO (us++[u]) (n+1):=by rw[SG]
 rw[j] at e;exact q h x.S.toks _ .none hs e g λ_ _ _=>RD.non
theorem xq {w:Value}(c:At cx z s x) (C:aZ z x w v) (t:aZ z x val u){st':List SObj}(h:vH s.st v u=Vr st'):aN cx z (aZ z) x (.ok (.d .non) ⟨s.fr,st'⟩) (cX z .append w [val]):=c.H.onL (P:=λb=>aN cx z (aZ z) x (.ok (.d .non) ⟨s.fr,st'⟩) (cX z .append b [val])) C h λ{l a E o} _ f h=>cL h (λh=>aA h λd q h=>aA h λA j h=>bD h λr k=>by
   refine aC λG g=>?_;obtain rfl:=eO j;obtain ⟨p,n,rfl,ho,hz,rs⟩:=f.list c.H;refine g ?_;have y:=rs.length;exact Kd k▸nw c f.led f.rho (by walk_at "n") (y2 _ _ (w3 rfl (by rw[Km,KP];walk_at "n") (rs.append (.cons (t.onD q) .nil)))))
  λh=>aA h λm q h=>by
   refine aC λG g=>?_;obtain rfl:=E6 q;obtain ⟨F,I,rfl,h1,h2⟩:=t;refine g ?_;exact cL h (λh=>aA h λA j h=>bD h λr k=>by
    refine aC λG g=>?_;obtain rfl:=eO j;obtain rfl:=OO.mp r;obtain ⟨p,n,rfl,ho,hz,rs⟩:=f.list c.H;refine g ?_;have:p=[]:=rs.view;subst this;exact Kd k▸nw c f.led f.rho (LE _) (y2 _ _ (w3 rfl (Ky rfl) (me.snoc (vs:=[]) (ls:=[]) ⟨rfl,λi v e=>au (SJ.symm.trans e)⟩ h1 h2))))
    λh=>aA h λls j h=>bD h λr k=>by
     refine aC λG g=>?_;obtain rfl:=mj j;obtain ⟨p,n,rfl,hz,rs⟩:=f.foot;refine g ?_;have y:=rs.1;exact Kd k▸nw c f.led f.rho (by walk_at "n") (y2 _ _ (w3 rfl (by rw[Km,KP];walk_at "n") (rs.snoc h1 h2)))
theorem qy {l n:Nat}{a:Addr}{us:List Value}{so:SObj}{u:Value}{d:V}(b:At cx z s x) (f:x.led[l]?=Vr [(a,lstO (us++[u]) n)]) (k:x.ρ[l]?=Vr a) (hz:us.length<=16777215) (g:∀n,eY z.c.w x.ρ x.imm a so [(a,lstO us n)]) (j:aZ z x u d):aN cx z (aZ z) x (.ok d ⟨s.fr,s.st.set l so⟩) (cX z .pop (.ref a) []):=by
 refine aN.upd b f k λQ E q=>PyProof.Rows.Copied.pop_at (b.H.ledIn _ (aD f (.head _))) (y:=u) (by simp) (λh hs e=>?_) (bQ (by rw[Kz,Km,KP];(first | walk_at "m" | lia)));have o:({cls:=.type "list",data:=.seq ((us++[u]).toArray.pop) (n+1)}:Obj)=lstO us (n+1):=by rw[List.pop_toArray,MW]
 rw[o] at e;exact q h x.S.toks _ u hs e (g _) λy m i=>by show RV _ y.ρ y.imm _ _;rw[m,i];exact j
theorem EY {p:Value}(c:At cx z s x) (t:aZ z x p v){d:V}{st':List SObj}(h:GP s.st v=Vr (d,st')):aN cx z (aZ z) x (.ok d ⟨s.fr,st'⟩) (cX z .pop p []):=c.H.onL (P:=λb=>aN cx z (aZ z) x (.ok d ⟨s.fr,st'⟩) (cX z .pop b [])) t h λ{l a w o} _ e h=>cL h (λh=>aA h λy i h=>aV h λA g j=>by
   refine aC λG k=>?_;obtain rfl:=eO i;obtain ⟨f,n,rfl,ho,hz,rs⟩:=e.list c.H;obtain ⟨f,u,rfl,r1,r2⟩:=rs.init g;rw[Km,KP] at hz;cases j;refine k ?_;exact qy c e.led e.rho (by walk_at "n") (λn=>y2 _ _ (w3 rfl (by walk_at "n") r1)) r2)
  λh=>aA h λC i h=>aV h λm g j=>by
   refine aC λG k=>?_;obtain rfl:=mj i;obtain ⟨f,n,rfl,hz,rs⟩:=e.foot;obtain ⟨f,u,r,q,rfl,r1,rfl,h1,h2⟩:=rs.init g;rw[Km,KP] at hz;cases j;refine k ?_;exact qy c e.led e.rho (by walk_at "n") (λn=>y2 _ _ (w3 rfl (by walk_at "n") r1)) (y2 r q (w3 rfl h1 h2))
theorem AP {f:Value}(c:At cx z s x) (k:aZ z x f v){st':List SObj}(h:AQ s.st v=Vr st'):aN cx z (aZ z) x (.ok (.d .non) ⟨s.fr,st'⟩) (cX z .clear f []):=c.H.onL (P:=λb=>aN cx z (aZ z) x (.ok (.d .non) ⟨s.fr,st'⟩) (cX z .clear b [])) k h λ{l a m o} _ e h=>aV h λp j i=>by
  obtain rfl:=eO j;obtain ⟨g,n,rfl,ho,hz,rs⟩:=e.list c.H;refine rq i ?_;refine aN.upd c e.led e.rho λQ E q=>Ql QK ⟨_,ho,rfl⟩ PySem.F.entry_list_clear (PySem.F.args_list_clear_1 _) (PySem.AutoSeq1.list_clear_list_0 a g.toArray n (bQ (by rw[Kz];exact hz))) ⟨ho,?_⟩;exact q _ x.S.toks (lstO [] _) .none (LX _ _ _) (Lq (N4 λ_=>(#[]:Array Value)) ho rfl) (y2 _ _ (w3 rfl (by decide) .nil)) λ_ _ _=>RD.non
theorem wJ {us:List Value}{n:Nat}{ds:List D}{d:D}{i:Nat}(I:Im x) (t:A.units+7<cLine) (f:x.h.get? a=Vr (lstO us n)) (hz:us.length<=16777216) (rs:RDs w x.imm us ds) (o:RD w x.imm val d) (h:gs d ds=Vr i):fT w A x (call (.builtin "list.index") [.ref a,val]) (.int i):=aA h λu k p=>by
  refine aC λG r=>?_;obtain ⟨g,j⟩:=Ai (A:=A.in1) I (by have:=@iG A;lia) o rs k;subst j;obtain ⟨b,hit,e⟩:=Mg.mp p;refine r ?_;rw[Ke] at b;rw[OP] at hit;refine .int λQ E q=>Ql QJ ⟨_,f,rfl⟩ PySem.F.entry_list_index (PySem.F.args_list_index_2 _ _) (SeqAt.list_indexAt a us.toArray n Vs #[] val _ i (by rw[Kz];exact b) (by lia) ?_ ?_) (w3 f (λy l=>g y (by simpa using l)) q)
  ·rw[Pp];exact hit
  ·intro m s c;have:=e m c;rw[OP] at this;rw[Pp];exact Qf _▸this
end
end
section
set_option linter.all false
section
variable {w:Lh}{A:Lg}{c:Cn}{cx:Cx}{z:Z}{s:St}{x y:X}{st:List SObj}{b val iv ov:Value}{v u:V}{k:Nat}{ρ:List Addr}{imm:Imm}{a:Addr}
theorem HI.obj (H:HI c st x){l:Nat}{ft:List (Addr×Obj)}{o:SObj}{ls:List (Int×Nat)}(B:Bs c) (d:Thing c st x l a ft o) (e:o.anyObjs?=Vr ls):∃o kvs,x.h.get? a=Vr o/\o.IsDictOf (Ld PR c.w) kvs/\(a==MH)=Vu/\uh x.ρ kvs ls:=cL e (λe=>by
  refine aC λg b=>?_;obtain rfl:=ly e;obtain ⟨o,kvs,rfl,h,r⟩:=d.foot;obtain ⟨i,f⟩:=B.sys;refine b ?_;exact y2 o kvs (w4 (H.ledIn _ (aD d.led (.head _))) h (beq_eq_false_iff_ne.mpr λq=>au ((H.ledB _ (HI.mem d.led (.head _))).symm.trans (q▸f))) r)) λe=>by
  refine aC λg b=>?_;obtain rfl:=mI e;obtain ⟨_,o,kvs,m,h,n,r⟩:=d.foot;refine b ?_;exact y2 o kvs (w4 (H.immIn _ m) h n r)
theorem qY {R:Value->V->Prop}{o:Obj}{kvs:List (Int×Value)}{i:Int}{t:PT}(b:At cx z s x) (g:x.h.get? a=Vr o) (f:o.IsDictOf (Ld PR z.c.w) kvs) (hs:(a==MH)=Vu) (r:aZ z x ((NE kvs i).getD .none) u):aN cx z (aZ z) x (.ok u s) (cX z .get (.ref a) [.int i t]):=by
 have d:x.h.MapOf (Ld PR z.c.w) a (NE kvs):=(LO.mpr ⟨o,g,f⟩).mapOf;exact Lf.ref (RB:=aZ z) (.stay λQ E q=>QC OR (d.typeIs (s:=x.S)) QZ (PySem.F.args_dict_get_2 _ _) (meets_dict_get (Ld PR z.c.w) a (MF _ _ i t) hs) ⟨_,d,q _ x.S.heap _ (λ_ _ e=>e) λy k j=>by show RV _ y.ρ y.imm _ _;rw[k,j];exact r⟩) b
theorem FC {vals:List Value}{us:List V}(B:Bs z.c) (b:At cx z s x) (C:aZ z x ov v) (rs:dJ z x vals us) (h:Hk s.st v us=Vr u):aN cx z (aZ z) x (.ok u s) (cX z .get ov vals):=cL h (λh=>gD (P:=λvals=>aN cx z (aZ z) x (.ok u s) (cX z .get ov vals)) rs h λ_ r h=>aA h λd j h=>aA h λi g h=>RD.onInt (P:=λa=>aN cx z (aZ z) x (.ok u s) (cX z .get ov [a])) (r.onD j) g λt=>cL h (λh=>aV h λf y m=>HI.kvs (P:=λov=>aN cx z (aZ z) x (.ok u s) (cX z .get ov [.int i t])) b.H B C y λ{a o A} p l hs n=>by
   refine rq m ?_;refine qY (R:=λ_ _=>True) b p l hs ?_;have:=n.rk.look i;cases k:aF i f with
   | none=>rw[this.2 k];exact RD.non
   | some d=>obtain ⟨w,j,g⟩:=this.1 d k;rw[j];exact g)
  λh=>aV h λf y m=>b.H.on (P:=λov=>aN cx z (aZ z) x (.ok u s) (cX z .get ov [.int i t])) C y λ_ K M=>by
   obtain ⟨o,A,p,l,hs,n⟩:=b.H.obj B K M;refine rq m ?_;refine qY (R:=λ_ _=>True) b p l hs ?_;have:=n.look i;cases k:aF i f with
   | none=>rw[this.2 k];exact RD.non
   | some d=>obtain ⟨w,j,g⟩:=this.1 d k;rw[j];exact g)
 λh=>p6 (P:=λvals=>aN cx z (aZ z) x (.ok u s) (cX z .get ov vals)) rs h λ{_ _ G N} r L h=>aA h λd j h=>aA h λi g h=>aA h λe J h=>aV h λf y m=>RD.onInt (P:=λa=>aN cx z (aZ z) x (.ok u s) (cX z .get ov [a,G])) (r.onD j) g λt=>
  HI.kvs (P:=λov=>aN cx z (aZ z) x (.ok u s) (cX z .get ov [.int i t,G])) b.H B C y λ{a o A} p l hs n=>by
   have I:x.h.MapOf (Ld PR z.c.w) a (NE A):=(LO.mpr ⟨o,p,l⟩).mapOf;refine rq m ?_;refine Lf.refD (.stay λQ E q=>QC OR (I.typeIs (s:=x.S)) QZ (PySem.F.args_dict_get_3 _ _ _) (meets_dict_get_default (Ld PR z.c.w) a (MF _ _ i t) hs G) ⟨_,I,q _ x.S.heap _ (λ_ _ e=>e) ?_⟩) b;have:=n.rk.look i;cases k:aF i f with
   | none=>rw[this.2 k];exact L.onD J
   | some d=>obtain ⟨w,j,g⟩:=this.1 d k;rw[j];exact g
theorem HI.obj0 (H:HI c st x){l:Nat}{ft:List (Addr×Obj)}{o:SObj}{ls:List (Int×Nat)}(B:Bs c) (d:Thing c st x l a ft o) (e:o.objs0?=Vr ls):∃o kvs,ft=[(a,o)]/\x.h.get? a=Vr o/\o.IsDictOf (Ld PR c.w) kvs/\(a==MH)=Vu/\uh x.ρ kvs ls:=by
 have b:∀{o:Obj}{kvs:List (Int×Value)},ft=[(a,o)]->o.IsDictOf (Ld PR c.w) kvs->uh x.ρ kvs ls->∃o kvs,ft=[(a,o)]/\x.h.get? a=Vr o/\o.IsDictOf (Ld PR c.w) kvs/\(a==MH)=Vu/\uh x.ρ kvs ls:=λe h r=>by
  subst e;obtain ⟨k,g⟩:=B.sys;exact y2 _ _ (w5 rfl (H.ledIn _ (aD d.led (.head _))) h (beq_eq_false_iff_ne.mpr λq=>au ((H.ledB _ (HI.mem d.led (.head _))).symm.trans (q▸g))) r)
 refine cL e (λe=>?_) λe=>aA e λj e f=>bD f λi f=>?_
 ·skip
  obtain rfl:=ly e;obtain ⟨o,kvs,e,h,r⟩:=d.foot;exact b e h r
 ·skip
  obtain rfl:=iL e;obtain rfl:=OO.mp i;obtain rfl:=Kd f;obtain ⟨o,kvs,e,h,r⟩:=d.foot;have:kvs=[]:=LW r.rk.length;subst this;exact b e h .nil
theorem vO (B:Bs z.c) (b:At cx z s x) (r:aZ z x ov v) (h:uv s.st v=Vr u):aN cx z (aZ z) x (.ok u s) (cX z .values ov []):=b.H.onL (P:=λov=>aN cx z (aZ z) x (.ok u s) (cX z .values ov [])) r h λ{l a t o} _ f h=>aV h λC j p=>by
  obtain ⟨o,g,_,e,d,hs,A⟩:=b.H.obj0 B f j;have i:x.h.MapOf (Ld PR z.c.w) a (NE g):=(LO.mpr ⟨o,e,d⟩).mapOf;have m:=f.rho;refine rq p ?_;exact Lf.ref (RB:=aZ z) (.push (o:=Iy a) rfl (λy n k=>y2 _ a (w3 rfl (k▸.head _) (n▸m))) λQ E q=>QC QF (i.typeIs (s:=x.S)) PySem.F.entry_dict_values (PySem.F.args_dict_values_1 _) (meets_dict_values (Ld PR z.c.w) a hs) ⟨⟨g,LO.mpr ⟨o,e,d⟩⟩,q⟩) b
theorem Gg {i:Int}{t:PT}(f:At cx z s x) (I:aZ z x ov v){st':List SObj}(h:HW s.st v i=Vr st'):aN cx z (aZ z) x (.ok (.d .non) ⟨s.fr,st'⟩) (cX z .add ov [.int i t]):=f.H.onL (P:=λb=>aN cx z (aZ z) x (.ok (.d .non) ⟨s.fr,st'⟩) (cX z .add b [.int i t])) I h λ{l a J o} _ j h=>aA h λc n h=>bD h λu G=>by
  refine aC λC g=>?_;obtain rfl:=ym n;obtain ⟨o,rfl,ho,hz⟩:=j.foot;refine g ?_;have F:=ho.setOf (f.H.ledIn _ (aD j.led (.head _))) (by walk_at "n");refine Kd G▸aN.upd f j.led j.rho λQ E q=>call_set_add (MF _ _ _ _) rfl F (by show _<4096;walk_at "n") λw hs k=>?_;refine aC λC g=>?_;obtain ⟨r,y,p⟩:=k.objOf;refine g ?_;refine q w _ r .none hs y ⟨r,w3 rfl ?_ ?_⟩ λ_ _ _=>RD.non
  ·have A:(λk'=>c.contains k'||decide (k'=i))=λk'=>(if c.contains i then c else c++[i]).contains k':=by
    funext k';by_cases m:c.contains i=Vt
    ·rw[if_pos m];by_cases e:k'=i
     ·rw[e,m];rfl
     ·rw[decide_eq_false e,OK]
    ·rw[if_neg m,List.contains_append]
     congr 1
     rw[List.contains_cons,List.contains_nil,OK,Bool.beq_eq_decide_eq]
   have n:(if c.contains i=Vt then c.length else c.length+1)=(if c.contains i then c else c++[i]).length:=by split<;>simp
   rw[A,n] at p;exact p
  ·split
   ·walk_at "n"
   ·rw[Km,KP];walk_at "n"
theorem sj {vs:List Value}{ds:List D}(r:RDs w imm vs ds):∀{ss:List Str},gT ds=Vr ss->Vf vs ss:=r.ind (M:=λvs ds=>∀{ss:List Str},gT ds=Vr ss->Vf vs ss) (λ{_} h=>Kd h▸.nil) λ{_ _ _ _} h _ a {_} e=>aA e λi d e=>aV e λr c b=>b▸RD.onStr (P:=λv=>Vf (v::_) _) h d λt _=>.cons _ _ (a c)
theorem yd:∀{ds:List D}{a:List Str},gT ds=Vr a->a.length=ds.length:=@lr _ _ (@λa h=>Kd h▸rfl) (λd r b=>(@λa h=>aA h λi g e=>aV e λr f c=>c▸congrArg Np (b f)))
theorem CL {d e o:D}(I:Im x) (n:RD w x.imm ov d) (k:RD w x.imm val e) (h:DU d e=Vr o):fT w A x (call (.builtin "str.join") [ov,val]) o:=aA h λf j h=>aA h λl r h=>bD h λp h=>aA h λb g h=>bD h λhs h=>et h <| n.strL (T:=λa=>call (.builtin "str.join") [a,val]) j λt u=>k.lstL (T:=λa=>call (.builtin "str.join") [_,a]) r λm z i=>by
  have v:=yd g;have c:(b.map (·.length)).sum+b.length*f.length<=16777216:=by rw[p.1];walk_at "n"
  refine .stay λQ E q=>PyProof.Rows.join_list (aJ (I _ m)) (sj i g) c λy s=>q _ x.S.heap s (λ_ _ e=>e) (RD.str _ _ ?_);have C:=StrLaws.join_length_le f b;show (Pv f b).length<=_;unfold Pv;rw[StrLaws.glued_eq_join];walk_at "n"
theorem Dx {α:Type}{o:Option α}{p:α}{vals:List Value}{us:List V}(r:RVs w ρ imm vals us) (e:Bg us o=Vr p){P:List Value->Prop}(k:o=Vr p->P []):P vals:=by
 cases us with
 | nil=>exact (show vals=[] from r.view)▸k e
 | cons=>exact au e
def En (cx:Cx) (z:Z) (s:St) (x:X) (bm:BM) (ov:Value) (vals:List Value) (q:V×List SObj):Prop:=aN cx z (aZ z) x (.ok q.1 ⟨s.fr,q.2⟩) (cX z bm ov vals)
theorem ng {bm:BM}{vals:List Value}{us:List V}{q:V×List SObj}{f:V->Option (V×List SObj)}(rs:dJ z x vals us) (h:fc us f=Vr q) (k:∀{a u},aZ z x a u->f u=Vr q->En cx z s x bm ov [a] q):En cx z s x bm ov vals q:=gD (P:=λvals=>En cx z s x bm ov vals q) rs h λ_ r h=>k r h
theorem p4 {bm:BM}{vals:List Value}{us:List V}{q:V×List SObj}{o:Option (V×List SObj)}(rs:dJ z x vals us) (h:Bg us o=Vr q) (k:o=Vr q->En cx z s x bm ov [] q):En cx z s x bm ov vals q:=Dx (P:=λvals=>En cx z s x bm ov vals q) rs h k
theorem HN {bm:BM}{vals:List Value}{us:List V}{q:V×List SObj}(B:Bs z.c) (G:z.A.units+7<cLine) (g:At cx z s x) (k:aZ z x ov v) (rs:dJ z x vals us) (h:iW s.st bm v us=Vr q):En cx z s x bm ov vals q:=by
 cases bm with
 | append=>exact ng rs h λr h=>aV h λ_ j e=>rq e (xq g k r j)
 | pop=>exact p4 rs h λh=>EY g k h
 | clear=>exact p4 rs h λh=>aV h λ_ j e=>rq e (AP g k j)
 | index=>exact ng rs h λr h=>aA h λd m h=>aA h λl n h=>aV h λi j e=>rq e (Lf.refD (HI.lsL (T:=λov=>call (.builtin "list.index") [ov,_]) g.H k n λw J rs=>wJ g.H.immIn G w J rs (r.onD m) j) g)
 | get=>exact aV h λ_ j e=>rq e (FC B g k rs j)
 | values=>exact p4 rs h λh=>aV h λ_ j e=>rq e (vO B g k j)
 | add=>exact ng rs h λr h=>aA h λd m h=>aA h λi n h=>aV h λ_ j e=>rq e (RD.onInt (P:=λa=>En cx z s x .add ov [a] _) (r.onD m) n λt=>Gg g k j)
 | join=>exact ng rs h λr h=>aA h λd m h=>aA h λe n h=>aV h λo j F=>rq F (Lf.refD (CL g.H.immIn (k.onD n) (r.onD m) j) g)
 | decode=>exact ng rs h λ{a u} r h=>aA h λd m h=>aA h λe n h=>aA h λf y h=>aA h λb C h=>bD h λp h=>rq (Kd h) (Lf.refD ((r.onD m).strL (T:=λa=>call (.builtin "bytes.decode") [ov,a]) n λt _=>(k.onD y).bytesL (T:=λov=>call (.builtin "bytes.decode") [ov,.str e t]) C λu _=>p.1▸.stay λQ E q=>zn p.2.1 p.2.2 λK I=>q _ x.S.heap I (λ_ _ e=>e) (RD.str _ _ (by rw[Th];exact Lr p.2.1 (by decide)))) g)
theorem HM {bm:BM}{vals:List Value}{us:List V}(B:Bs z.c) (b:z.A.units+7<cLine) (a:At cx z s x) (d:aZ z x ov v) (rs:dJ z x vals us):aN cx z (aZ z) x (GR s.fr (iW s.st bm v us)) (cX z bm ov vals):=.ofB λ_ _ h=>HN B b a d rs h
end
end
section
set_option linter.all false
section
variable {w:Lh}{A:Lg}{c:Cn}{cx:Cx}{z:Z}{s:St}{x y:X}{st:List SObj}{own:List Addr}{env:Env}{fr:List (Str×V)}{g g':List (Addr×Obj)}{led:List (List (Addr×Obj))}{a:Addr}{ρ:List Addr}
noncomputable def X.cut (x:X):X:=⟨x.ρ.take 1,x.imm,x.led.take 1,x.S⟩
noncomputable def X.uncut (x y:X):X:=⟨x.ρ,y.imm,y.led.take 1++x.led.drop 1,y.S⟩
theorem eH {a:Addr}:a∈x.cut.la->a∈x.la:=λh=>(Ku.mp h).elim λp h=>h.2▸KU ((Me.mp h.1).elim λg e=>Me.mpr ⟨g,ME e.1,e.2⟩)
theorem jP:x.la=x.cut.la++(x.led.drop 1).flatten.map (·.1):=by
 unfold X.la X.cut;rw[<- KD,<- M4,NW]
theorem HI.cut (H:HI c (.ctab::st) x):HI c [.ctab] x.cut where
 base:=H.base
 immIn:=H.immIn
 ledIn:=λp h=>H.ledIn p ((Me.mp h).elim λg e=>Me.mpr ⟨g,ME e.1,e.2⟩)
 nd:=(Lx.mp (jP (x:=x)▸H.nd)).1
 ledB:=λa h=>H.ledB a (eH h)
 dis:=λp h m=>H.dis p h (eH m)
 len:=⟨by rw[Lv,H.len.1];exact NG (Nu (LE _)),by rw[Lv,H.len.2];exact NG (Nu (LE _))⟩
 foot:=λl o e=>by
  cases l with
  | succ l=>exact au e
  | zero=>
   obtain ⟨a,f,b,d,i⟩:=H.foot 0 o e;refine y2 a f (w3 ((MY (On)).trans b) ((MY (On)).trans d) ?_);obtain rfl:=Kd e;exact i
 frs:=H.frs
 fsI:=λa h=>w3 ((H.fsI a h).1) (λm=>(H.fsI a h).2.1 (eH m)) ((H.fsI a h).2.2)
 imm0:=H.imm0
theorem EI.cut (F:EI c cx env own fr x):EI c cx env own [] x.cut where
 kind:=F.kind
 glb:=F.glb
 blt:=F.blt
 names:=F.names
 ns:=F.ns.imp λm h=>⟨h.1,λn v g _=>au g⟩
 cells:=λn h=>(F.cells n h).imp λa h=>h.imp λo h=>h.imp λv h=>w4 h.1 h.2.1 h.2.2.1 (λv g=>au g)
 loc:=F.loc
 ownI:=λa h=>⟨λm=>(F.ownI a h).1 (eH m),(F.ownI a h).2⟩
 cellI:=F.cellI
 cellO:=F.cellO
 cellL:=λn a h e=>⟨λm=>(F.cellL n a h e).1 (eH m),(F.cellL n a h e).2⟩
theorem qQ:(x.uncut y).la=y.cut.la++(x.led.drop 1).flatten.map (·.1):=by
 unfold X.la X.cut X.uncut;rw[M4,KD]
theorem HI.uncut {st':List SObj}(H:HI c (.ctab::st) x) (p:Adv c [] x.cut y) (G:HI c (.ctab::st') y):HI c (.ctab::st) (x.uncut y)/\Adv c [] x (x.uncut y):=by
 have nd:=Lx.mp (jP (x:=x)▸H.nd);have inR:∀{a:Addr},a∈(x.led.drop 1).flatten.map (·.1)->a∈x.la/\a∉x.cut.la/\∃o,x.h.get? a=Vr o:=λ{a} h=>by
  have m:a∈x.la:=jP (x:=x)▸Ll _ h;exact w3 m (λz=>nd.2.2 a z a h rfl) (H.laIn m)
 have j:∀{a:Addr},a∈y.cut.la->a∉(x.led.drop 1).flatten.map (·.1):=λ{a} h m=>(p.ledN a (eH h)).elim (inR m).2.1 λe=>(inR m).2.2.elim λo w=>au (e.symm.trans w);have s:∀{a:Addr},a∈(x.uncut y).la->a∈y.cut.la\/a∈(x.led.drop 1).flatten.map (·.1):=λh=>Kx.mp (qQ (x:=x) (y:=y)▸h);constructor
 ·exact {
   base:=G.base
   immIn:=G.immIn
   ledIn:=λq h=>by
    rw[show (x.uncut y).led=y.led.take 1++x.led.drop 1 from rfl,M4] at h;refine (Kx.mp h).elim (λh=>G.ledIn q ((Me.mp h).elim λg e=>Me.mpr ⟨g,ME e.1,e.2⟩)) λh=>?_;have A:=inR (KU (f:=(·.1)) h);have e:=H.ledIn q ((Me.mp h).elim λg e=>Me.mpr ⟨g,RL e.1,e.2⟩);exact (p.keep _ _ e MJ A.2.1).elim id λk=>absurd A.1 (H.fsI _ k.1).2.1
   nd:=by rw[qQ];exact Lx.mpr (w3 ((Lx.mp (jP (x:=y)▸G.nd)).1) nd.2.1 (λa h b m e=>j h (e▸m)))
   ledB:=λa h=>(s h).elim (λh=>G.ledB a (eH h)) λh=>H.ledB a (inR h).1
   dis:=λq h m=>(s m).elim (λm=>G.dis q h (eH m)) λm=>(p.immN q h).elim (λh=>H.dis q h (inR m).1) λe=>e.elim (λe=>(inR m).2.2.elim λo w=>au (e.symm.trans w)) (inR m).2.1
   len:=⟨by
    have r:=H.len.1;have i:=G.len.1;show (y.led.take 1++x.led.drop 1).length=_;rw[Km,Lv,M7,r,i,Lw,Lw];lia,H.len.2⟩
   foot:=λl o e=>by
    have J:(y.led.take 1).length=1:=by rw[Lv,G.len.1];exact NG (Nu (LE _))
    cases l with
    | zero=>
     refine aC λE d=>?_;obtain ⟨a,t,r,i,v⟩:=G.foot 0 .ctab rfl;obtain ⟨u,F,C,L,K⟩:=H.foot 0 .ctab rfl;obtain rfl:=Kd e;refine d ?_;have I:u=a:=Kd ((p.rho 0 u ((MY On).trans C)).symm.trans r);exact y2 u t (w3 C ((KB (by lia)).trans ((MY On).trans i)) (I▸v))
    | succ l=>
     refine aC λE d=>?_;obtain ⟨a,t,r,i,v⟩:=H.foot (l+1) o e;refine d ?_;refine y2 a t (w3 r ?_ (v.mono (λ_ _ e=>e) p.imm));show (y.led.take 1++x.led.drop 1)[l+1]?=_;rw[LB (by lia),J,SF,NH,RH];exact i
   frs:=G.frs
   fsI:=λa h=>w3 ((G.fsI a h).1) (λm=>(s m).elim (λm=>(G.fsI a h).2.1 (eH m)) λm=>(H.fsI a h).2.1 (inR m).1) ((G.fsI a h).2.2)
   imm0:=G.imm0}
 ·exact {
   keep:=λb o e n m=>p.keep b o e n λz=>m (eH z)
   alive:=p.alive
   imm:=p.imm
   immN:=λq h=>(p.immN q h).imp id λh=>h.imp id eH
   ledN:=λa h=>(s h).elim (λh=>(p.ledN a (eH h)).imp eH id) λh=>.inl (inR h).1
   rho:=λ_ _ e=>e
   rest:=p.rest}
theorem RVs.data {a:Imm}{ρ b:List Addr}{us:List Value}{vs:List V}(r:RVs w ρ a us vs):∀{ds:List D},ej vs=Vr ds->RVs w b a us vs:=r.ind (M:=λus vs=>∀{ds:List D},ej vs=Vr ds->RVs w b a us vs) (λ{_} _=>.nil) λ{_ _ _ _} h _ f {_} e=>aA e λd c e=>aV e λds g _=>by
  obtain rfl:=tL c;exact .cons h (f g)
noncomputable def dt (st:List SObj):Option (List SObj):=LZ st Vs λo r=>if o.ctab?=Vt then Vr r else Vs
noncomputable def dI (res:Res V):Option D:=Res.casesOn res (λv s=>(dt s.st).bind λ_=>v.d?) (λ_ _ _=>Vs) Vs
theorem mF {st r:List SObj}(h:dt st=Vr r):st=.ctab::r:=by
 cases st with
 | nil=>exact au h
 | cons o st=>exact bD h λa e=>by cases o<;>first | exact Kd e▸rfl | cases a
theorem ot {res:Res V}{d:D}(h:dI res=Vr d):∃s r,res=.ok (.d d) s/\s.st=.ctab::r:=by
 cases res with
 | ok v s=>exact aA h λr b a=>y2 s r ⟨tL a▸rfl,mF b⟩
 | exn=>exact au h
 | bad=>exact au h
theorem wN {k:Nat}{f:Addr}{vs:List V}{vals:List Value}{d:D}{ds:List D}{st':List SObj}{res:Res V}(o:Ok k cx z) (hh:z.A.handled=Vs) (a:At cx z s x) (rs:dJ z x vals vs) (l:dt s.st=Vr st') (j:ej vs=Vr ds) (n:ip k f vs [.ctab] res) (t:dI res=Vr d) (Q E:Value->Shared->Prop) (q:eL cx z (aZ z) x (.ok (.d d) s) Q E):Mx (Kr PR z.c.w) z.A (.call (.ref f) ⟨vals,[]⟩) (OX Q E) x.S:=by
 obtain ⟨G,r,e,u⟩:=ot t;have g:=mF l;subst e;have H:HI z.c (.ctab::st') x:=g▸a.H;refine n (x:=x.cut) (fr:=[]) o hh ⟨H.cut,a.F.cut⟩ (rs.data j) Q E λb y v p C=>?_;obtain ⟨m,i⟩:=H.uncut p (u▸v);exact q b (x.uncut y) ⟨⟨g▸m,a.F.adv i⟩,i.weak (λ_ h=>nomatch h),C⟩
end
end
section
set_option linter.all false
section
variable {w:Lh}{A:Lg}{c:Cn}{cx:Cx}{z:Z}{s s0:St}{x x₀ y:X}{k:Nat}{a:Addr}{b:Value}{ds:List D}{r r':Prop}
theorem EI.more {env:Env}{own:List Addr}{fr:List (Str×V)}{h:Heap}{tk:Nat}{ex:Imm}(F:EI c cx env own fr y) (h:∀p∈ex,p.1∉own):EI c cx env own fr (y.gr y.h y.S.toks ex) where
 kind:=F.kind
 glb:=F.glb
 blt:=F.blt
 names:=F.names
 ns:=F.ns.imp λm k=>⟨k.1,λn v g l=>(k.2 n v g l).imp λ_ k=>⟨k.1,k.2.mono (λ_ _ e=>e) λ_ h=>Ll _ h⟩⟩
 cells:=λn d=>(F.cells n d).imp λ_ k=>k.imp λ_ k=>k.imp λ_ k=>w4 k.1 k.2.1 k.2.2.1 (λv g=>(k.2.2.2 v g).imp λ_ k=>⟨k.1,k.2.mono (λ_ _ e=>e) λ_ h=>Ll _ h⟩)
 loc:=F.loc
 ownI:=λa b=>w3 ((F.ownI a b).1) (λq f=>(Kx.mp f).elim (λm e=>h q m (e▸b)) ((F.ownI a b).2.1 q)) ((F.ownI a b).2.2)
 cellI:=F.cellI
 cellO:=F.cellO
 cellL:=F.cellL
theorem Nx.take (i:At cx z s0 x₀) (n:Nx cx z x₀ s y r){o:Obj}(h:y.h.get? a=Vr o) (f:Fresh x₀ y a) (t:r'):Nx cx z x₀ s (y.gr y.h y.S.toks [(a,o)]) r':=by
 obtain ⟨⟨H,F⟩,p,-⟩:=n;have u:a∉z.c.fa:=λm=>(i.H.frs.mem m).2.elim λo e=>au (f.new.symm.trans e.1);have k:a∉z.own:=λm=>(i.F.ownI a m).2.2.2.elim λo e=>au (f.new.symm.trans e);have g:∀{P:Addr×Obj->Prop},P (a,o)->∀q∈[(a,o)],P q:=λh q m=>Kk.mp m▸h;refine ⟨⟨⟨H.base,λq d=>(Kw.mp d).elim (λe=>by rw[e];exact h) (H.immIn q),H.ledIn,H.nd,H.ledB,λq d=>(Kw.mp d).elim (λe=>by rw[e];exact f.la) (H.dis q),H.len,λl o q=>(H.foot l o q).imp λ_ q=>q.imp λ_ q=>w3 q.1 q.2.1 (q.2.2.mono (λ_ _ e=>e) λ_ h=>.tail _ h),H.frs,λb m=>⟨λq d=>(Kw.mp d).elim (λe j=>u (by rw[e] at j;rw[show a=b from j];exact m)) ((H.fsI b m).1 q),(H.fsI b m).2⟩,λq d=>.tail _ (H.imm0 q d)⟩,F.more (h:=y.h) (tk:=0) (g k)⟩,⟨p.keep,p.alive,λq d=>.tail _ (p.imm q d),λq d=>(Kw.mp d).elim (λe=>.inr (.inl (by rw[e];exact f.new))) (p.immN q),p.ledN,p.rho,p.rest⟩,t⟩
theorem nd1 {α:Type}{a:α}:[a].Nodup:=LP.mpr ⟨MJ,Tt⟩
def ja (z:Z) (x₀ y:X) (b:Value) (ds:List D):Prop:=∃a us n,b=.ref a/\y.h.get? a=Vr (lstO us n)/\Fresh x₀ y a/\us.length<=16777216/\RDs z.c.w y.imm us ds
theorem wu (e:At cx z s0 x₀) (n:Nx cx z x₀ s y (ja z x₀ y b ds)):∃c,c.S=y.S/\Nx cx z x₀ s c (aZ z c b (.d (.lst ds))):=by
 obtain ⟨a,g,m,rfl,h,f,hz,rs⟩:=n.r;exact ⟨y.gr y.h y.S.toks [(a,lstO g m)],rfl,n.take e h f (RD.lst (.head _) hz (mD rs))⟩
theorem ze (e:At cx z s0 x₀) (n:Nx cx z x₀ s y (ja z x₀ y b ds)):∃c,c.S=y.S/\Nx cx z x₀ ⟨s.fr,s.st++[.list ds]⟩ c (aZ z c b (.loc s.st.length)):=by
 obtain ⟨a,d,m,rfl,h,f,hz,rs⟩:=n.r;exact ⟨y.ad a [(a,lstO d m)],rfl,Nx.adopt (so:=.list ds) (ft:=[(a,lstO d m)]) e n (λq g=>Kk.mp g▸⟨h,f⟩) nd1 (y2 d m (w3 rfl hz rs)) id⟩
theorem fV (H:HI c s.st y){own:List Addr}(p:Adv c own x y){h':Heap}{tk:Nat}{ex:Imm}(e:∀p∈ex,p.1≠y.h.objs.size):Fresh x (y.gr h' tk ex) y.h.objs.size:=⟨λm=>(H.laIn m).elim λo e=>au ((bF _).symm.trans e),λq b a=>(Kx.mp b).elim (λm=>e q m a) λm=>au ((bF _).symm.trans (a▸H.immIn q m)),p.dead (bF _)⟩
theorem Gq.ref {t:O0 Value}(h:Gq z.c.w z.A y t ds) (a:At cx z s y) (p:Adv z.c z.own x y):aN cx z (ja z x) y (.ok ds s) (tr z t):=λQ E q=>by
 obtain ⟨b,e,d,f,h⟩:=h;exact h Q E (q _ (y.gr (y.h.push (lstO b 0)) e []) (a.kp (ex:=[]) (aM _ _) (λ_ h=>nomatch h) (y3 _ b 0 (w5 rfl (Kt _ rfl) (fV (ex:=[]) a.H p (λ_ h=>nomatch h)) f d))))
theorem aN.made {res:Res (List D)}{P:eZ Value}(a:At cx z s0 x) (h:aN cx z (ja z x) x res P):aN cx z (aZ z) x (res.bind λds s=>.ok (.d (.lst ds)) s) P:=λQ E q=>
 h Q E (q.bind (.refl _ _ _) (λds s b y n f=>(wu a n).elim λe h=>h.1▸f b e h.2) λ_ _ _ _ y n c=>c y n)
theorem aN.madeL {res:Res (List D)}{P:eZ Value}(a:At cx z s0 x) (h:aN cx z (ja z x) x res P):aN cx z (aZ z) x (res.bind λds s=>.ok (.loc s.st.length) ⟨s.fr,s.st++[.list ds]⟩) P:=λQ E q=>
 h Q E (q.bind (.refl _ _ _) (λds s b y n e=>(ze a n).elim λd h=>h.1▸e b d h.2) λ_ _ _ _ y n c=>c y n)
theorem aN.fresh {so:SObj}{P:eZ Value}{o:Obj}{tk:Nat}(a:At cx z s x) (d:o.isFreed=Vu) (b:eY z.c.w (x.ρ++[x.h.objs.size]) x.imm x.h.objs.size so [(x.h.objs.size,o)]) (h:∀(Q:Value->Shared->Prop) (E:Value->Shared->Prop),Q (.ref x.h.objs.size) {x.S with heap:=x.h.push o,toks:=tk}->P Q E x.S):aN cx z (aZ z) x (.ok (.loc s.st.length) ⟨s.fr,s.st++[so]⟩) P:=λQ E q=>
 h Q E (q _ ((x.gr (x.h.push o) tk []).ad x.h.objs.size [(x.h.objs.size,o)]) (Nx.adopt (y:=x.gr (x.h.push o) tk []) (so:=so) (s:=s) a (a.kp (ex:=[]) (aM _ _) (λ_ h=>nomatch h) trivial) (λq e=>Kk.mp e▸⟨Kt _ d,fV (ex:=[]) a.H (.refl _ z.own _) λ_ h=>nomatch h⟩) nd1 b id))
end
structure Mk (k:Nat) (cx:Cx) (e:Kf) where
 f:St->Res (List D)
 ok:∀{z:Z}{s:St}{x:X},Ok k cx z->At cx z s x->aN cx z (ja z x) x (f s) (tr z (MT e z.env))
section
variable {k:Nat}{cx:Cx}{e:Kf}
noncomputable def Mk.ev (m:Mk k cx e):Ev k cx e:=⟨λs=>(m.f s).bind λds s=>.ok (.d (.lst ds)) s,λo a=>.made a (m.ok o a)⟩
noncomputable def Mk.fresh (m:Mk k cx e):Ev k cx e:=⟨λs=>(m.f s).bind λds s=>.ok (.loc s.st.length) ⟨s.fr,s.st++[.list ds]⟩,λo a=>.madeL a (m.ok o a)⟩
noncomputable def zh (vs:List V):Option (List D):=(ej vs).bind λds=>if ds.length<=1000 then Vr ds else Vs
noncomputable def za (r:Sr k) (es:List Kf) (pos:Pos):Mk k cx (.List es pos):=⟨λs=>if aO es=Vt then (bM (r.ev cx) es s).bind λvs s=>cP (zh vs) s else .bad,λ{z s x} o a=>
 aN.ite λb=>((eP (r.ev cx) o a).bind (K:=λus=>oz "list" us) λvs s us y n=>.opt λds h=>aA h λd e h=>bD h λhz c=>by
  have rs:=kj n.r e;have b:=rs.length;refine rq (Kd c) ?_;exact λQ E q=>⟨bQ (by walk_at "n"),q _ (y.gr (y.h.push (lstO us 0)) y.S.toks []) (n.at_.kp (ex:=[]) (aM _ _) (λ_ h=>nomatch h) (y3 _ us 0 (w5 rfl (Kt _ rfl) (fV (ex:=[]) n.at_.H n.adv (λ_ h=>nomatch h)) (by walk_at "n") rs)))⟩).of λ_ _ h=>TD (ei b h)⟩
noncomputable def IW (v u:V):Option (List D):=v.d?.bind λd=>d.lst?.bind λl=>u.d?.bind λe=>e.int?.bind λn=>if l.length=1/\0<=n/\n<=1000 then Vr (LU n.toNat l).flatten else Vs
noncomputable def GV {p q:Kf}(a:Ev k cx p) (b:Ev k cx q) (pos:Pos):Mk k cx (.BinOp p .Mult q pos):=⟨λs=>(a.f s).bind λv s=>(b.f s).bind λu s=>cP (IW v u) s,λ{z s x} o c=>
 ((a.ok o c).bind λv s A y n=>(b.ok o n.at_).bind λu s g w m=>.opt λds h=>aA h λd E h=>aA h λl J h=>aA h λe F h=>aA h λi G h=>bD h λj I=>
  RD.onLst (P:=λA=>aN cx z (ja z x) w (.ok ds s) (tr z (Rw .Mult A g))) (RV.onD (n.r.up m.adv) E) J λ{a us K} C hz rs=>RD.onInt (P:=λg=>aN cx z (ja z x) w (.ok ds s) (tr z (Rw .Mult (.ref a) g))) (RV.onD m.r F) G λt=>
   Kd I▸(yX (m.at_.H.immIn _ C) rs j.1 j.2.1 j.2.2).ref m.at_ (n.adv.trans m.adv)).of λ_ _ h=>Vh h⟩
noncomputable def wM (pos:Pos):Ev k cx (.Dict [] [] pos):=⟨λs=>.ok (.loc s.st.length) ⟨s.fr,s.st++[.dict []]⟩,λ{z s x} o a=>
 aN.fresh (so:=.dict []) (o:={cls:=.type "dict",data:=.dict #[]}) (tk:=x.S.toks) a rfl (y2 _ [] (w3 rfl (y2 (#[]) 0 (w5 (w3 rfl rfl rfl) rfl (λe b=>absurd b (RQ _)) .nil .nil)) .nil)) λQ E q=>wpAny_Dict_empty q⟩
end
end
section
set_option linter.all false
noncomputable def ke:List Addr:=[36,40,73,80,87,92,99,106,120,127,137,148,155,162,176,179,190,197,237,244,249,256,263,268,275,282,287,292,299,306,311,316,323,328,333]
noncomputable def ie:List Addr:=[190,197,237,249,256,263,268,275,282,287,292,311,328]
theorem tU (P:LF):ke.all (λa=>keepIn (KK P) (.ref a))=true:=rfl
section
variable {w:Lh}{A:Lg}{c:Cn}{cx:Cx}{z:Z}{s:St}{x y:X}{st:List SObj}{b:Value}{v u:V}{k:Nat}{vals:List Value}{vs:List V}
theorem mw (B:Bs c){a:Nat}(h:ke.contains a=Vt):ui c (.ref a):=λb hs=>keeps_K (KS.mp (tU c.w.params) a (KR.mp h)) b (B.kin hs)
noncomputable def uc (fr:List (Str×V)) (x:Res V):Res V:=Res.casesOn x (λv s=>.ok v ⟨fr,s.st⟩) (λk as s=>.exn k as ⟨fr,s.st⟩) .bad
noncomputable def eW (r:Sr k) (a:Addr) (vs:List V) (s:St):Res V:=cond (ie.contains a) (optE (ej vs) .bad λ_=>optE (dt s.st) .bad λ_=>cP ((dI (r.call a vs [.ctab])).map V.d) s) (uc s.fr (r.call a vs s.st))
theorem rK {a:Addr}(r:Sr k) (o:Ok k cx z) (hh:z.A.handled=Vs) (f:At cx z s x) (rs:dJ z x vals vs) (Q E:Value->Shared->Prop):eL cx z (aZ z) x (eW r a vs s) Q E->Mx (Kr PR z.c.w) z.A (.call (.ref a) ⟨vals,[]⟩) (OX Q E) x.S:=by
 unfold eW;cases ie.contains a with
 | true=>
  cases n:ej vs with
  | none=>exact λq=>PH q
  | some ds=>cases u:dt s.st with
   | none=>exact λq=>PH q
   | some t=>cases p:dI (r.call a vs [.ctab]) with
    | none=>exact λq=>PH q
    | some d=>exact wN o hh f rs u n (r.callOk a vs _) p Q E
 | false=>
  have h:=λq=>r.callOk a vs s.st (fr:=s.fr) o hh f rs Q E q;cases l:r.call a vs s.st with
  | bad=>exact λq=>PH q
  | ok v m=>exact λq=>h (by rw[l];exact λb y i g j=>q b y ⟨⟨i,f.F.adv g⟩,g.weak (λ_ h=>nomatch h),j⟩)
  | exn e C m=>exact λq=>h (by rw[l];exact λb y i g j=>q b y ⟨⟨i,f.F.adv g⟩,g.weak (λ_ h=>nomatch h),j⟩)
theorem rO {a:Addr}(r:Sr k) (o:Ok k cx z) (hh:z.A.handled=Vs) (b:At cx z s x) (rs:dJ z x vals vs):aN cx z (aZ z) x (eW r a vs s) (tr z (call (.ref a) vals)):=λQ E q=>Og (rK r o hh b rs Q E q)
theorem gG {env:Env}{f:Str}{p pos:Pos}{args:List Kf}{Q:Value->Shared->Prop}{E:Value->Shared->Prop}{S:Shared}(h:Kq (Kr PR w) A (MT (.Name f p) env) (λa b=>Kq (Kr PR w) A (M2 pos a [] (Mw pos (LH args env)) []) Q E b) E S):Kq (Kr PR w) A (MT (.Call (.Name f p) args [] pos) env) Q E S:=by
 show Kq (Kr PR w) A (do M2 pos (<- MT (.Name f p) env) [] (Mw pos (LH args env)) (Pg pos (NU [] env))) Q E S;exact Kg h
noncomputable def zx (vs:List V) (s:St):Res V:=optE (fc vs λv=>v.loc?.bind λl=>(s.st[l]?).bind λo=>o.list?.map λ_=>l) .bad λl=>.ok (.loc s.st.length) ⟨s.fr,s.st++[.iter l 0]⟩
theorem wF {l:Nat}{a:Addr}{us:List Value}{n:Nat}(b:At cx z s x) (c:x.h.get? a=Vr (lstO us n)) (d:x.ρ[l]?=Vr a):aN cx z (aZ z) x (.ok (.loc s.st.length) ⟨s.fr,s.st++[.iter l 0]⟩) (tr z (call (.builtin "iter") [.ref a])):=aN.fresh (o:=zz a 0) (tk:=x.S.toks) b rfl ⟨a,rfl,iw _ _ _ _ d⟩ λQ E q=>by
  refine OE (by decide +kernel) (by decide +kernel) kdk_entry_iter (kdk_args_iter _) ?_;unfold Mf.«iter»;refine Kg (m:=someArgs "iter" 1 2 _) (MP (a:=[Nb a]) (by first | rfl | kernel_rfl!) ?_);exact Kg (Qy (aJ c) (Ks ⟨_,rfl,q⟩))
theorem zw (b:At cx z s x) (rs:dJ z x vals vs):aN cx z (aZ z) x (zx vs s) (tr z (call (.builtin "iter") vals)):=by
 unfold zx;cases h:(fc vs λv=>v.loc?.bind λl=>(s.st[l]?).bind λo=>o.list?.map λ_=>l) with
 | none=>exact .bad
 | some l=>
  exact gD (P:=λvals=>aN cx z (aZ z) x (.ok (.loc s.st.length) ⟨s.fr,s.st++[.iter l 0]⟩) (tr z (call (.builtin "iter") vals))) rs h λ_ i h=>
   b.H.onL (P:=λv=>aN cx z (aZ z) x (.ok (.loc s.st.length) ⟨s.fr,s.st++[.iter l 0]⟩) (tr z (call (.builtin "iter") [v]))) i h λ{q a j o} _ d h=>aV h λp e g=>by
    refine aC λm c=>?_;obtain rfl:=eO e;obtain ⟨k,n,_,f,_⟩:=d.list b.H;refine c ?_;exact g▸wF b f d.rho
noncomputable def p0 (cx:Cx) (b:Bi) (vs:List V) (s:St):Res V:=cond (b.eq .iter) (zx vs s) (if cx.inH=Vu\/b.eq .isinstance=Vt then okD (bI s.st b vs) s else .bad)
theorem Bi.iter_of {b:Bi}(h:b.eq .iter=Vt):b=.iter:=by cases b<;>first | rfl | cases h
theorem Bi.set_of {b:Bi}(h:b.eq .set=Vt):b=.set:=by cases b<;>first | rfl | cases h
theorem xk {bi:Bi}(o:Ok k cx z) (a:At cx z s x) (rs:dJ z x vals vs):aN cx z (aZ z) x (p0 cx bi vs s) (tr z (call bi.val vals)):=by
 unfold p0;cases h:bi.eq .iter with
 | true=>refine rp (Bi.iter_of h) ?_;exact zw a rs
 | false=>exact aN.ite λc=>.optD a λd b=>A9 o.B a.H (λe=>c.elim o.hd λf=>nomatch e.symm.trans f) rs b
theorem jR (b:Bi):ui c b.val:=mu λa e=>by cases b<;>cases e
noncomputable def xZ (r:Sr k) (cx:Cx) (e:Kf):Ev k cx e:=match e with
 | .List es p=>(za r es p).fresh
 | e=>r.ev cx e
noncomputable def ox (r:Sr k) (cx:Cx) (b:Bi) (args:List Kf) (s:St):Res V:=cond (b.eq .set) (if args=[] then .ok (.loc s.st.length) ⟨s.fr,s.st++[.set []]⟩ else .bad) ((bM (ek r cx) args s).bind λvs s=>p0 cx b vs s)
noncomputable def ow (r:Sr k) (cx:Cx) (args:List Kf) (g:V) (s:St):Res V:=optE (g.d?.bind D.gbl?) (optE (g.d?.bind D.bi?) .bad λb=>ox r cx b args s) λa=>if ke.contains a=Vt/\cx.inH=Vu then (bM (λe=>cond (a==244) (xZ r cx e) (r.ev cx e)) args s).bind λvs s=>eW r a vs s else .bad
theorem AV {b:Bi}{pos:Pos}{args:List Kf}(r:Sr k) (o:Ok k cx z) (d:At cx z s x) (f:aO args=Vt):aN cx z (aZ z) x (ox r cx b args s) (tr z (M2 pos b.val [] (Mw pos (LH args z.env)) [])):=by
 unfold ox;cases h:b.eq .set with
 | true=>
  refine aN.ite λg=>?_;refine rp (Bi.set_of h) ?_;refine rp g ?_;exact λQ E q=>fu (P:=λh=>z.c.hb.StaysIn h) rfl (jR .set) ⟨d.H.base,call_set_0 λe=>aN.fresh (so:=.set []) (P:=λQ E i=>Q (.ref x.h.objs.size) {x.S with heap:=x.h.push {cls:=.type "set",dict:=Vs,data:=.set #[] 0 (.fresh 0 0 e)}}) (tk:=x.S.toks) d rfl ⟨_,w3 rfl (setObjOf_fresh e) (LE _)⟩ (λQ E q=>q) Q E q⟩
 | false=>exact iM (first:=[]) (P:=λh=>z.c.hb.StaysIn h) f (eP (ek r cx) o d) (jR b) (λs y a _=>a.H.base) λvs j vals y n=>xk o n.at_ n.r
theorem AT {g:V}{f:Value}{pos:Pos}{args:List Kf}(r:Sr k) (o:Ok k cx z) (i:At cx z s x) (m:aZ z x f g) (p:aO args=Vt):aN cx z (aZ z) x (ow r cx args g s) (tr z (M2 pos f [] (Mw pos (LH args z.env)) [])):=by
 unfold ow;cases e:g.d?.bind D.gbl? with
 | some a=>exact aA e λd j l=>RD.onGbl (P:=λf=>aN cx z (aZ z) x _ (tr z (M2 pos f [] (Mw pos (LH args z.env)) []))) (m.onD j) l (aN.ite λq=>iM (first:=[]) (P:=λh=>z.c.hb.StaysIn h) p (eP _ o i) (mw o.B q.1) (λs y a _=>a.H.base) λvs t vals y n=>rO r o (o.hd q.2) n.at_ n.r)
 | none=>cases e:g.d?.bind D.bi? with
  | some b=>exact aA e λd j l=>RD.onBi (P:=λf=>aN cx z (aZ z) x (ox r cx b args s) (tr z (M2 pos f [] (Mw pos (LH args z.env)) []))) (m.onD j) l (AV r o i p)
  | none=>exact .bad
end
section
variable {k:Nat}{cx:Cx}
noncomputable def kg (r:Sr k) (f:Str) (p:Pos) (args:List Kf) (pos:Pos):Ev k cx (.Call (.Name f p) args [] pos):=⟨λs=>if aO args=Vt then (cK cx f s).bind λg s=>ow r cx args g s else .bad,λ{z s x} o a=>
 aN.ite λb=>((kF (pos:=p) o.B a).bind λg s c y n=>AT (pos:=pos) r o n.at_ n.r b).of λ_ _ h=>gG h⟩
noncomputable def X.dr (y:X) (d:Rz):X:={ρ:=y.ρ,imm:=y.imm,led:=y.led,S:={y.S with drawn:=d}}
theorem Nx.dr {cx:Cx}{z:Z}{s:St}{x y:X}{r r':Prop}{d:Rz}(n:Nx cx z x s y r) (h:r'):Nx cx z x s (y.dr d) r':=by
 obtain ⟨⟨H,F⟩,p,-⟩:=n;exact ⟨⟨⟨H.base,H.immIn,H.ledIn,H.nd,H.ledB,H.dis,H.len,H.foot,H.frs,H.fsI,H.imm0⟩,⟨F.kind,F.glb,F.blt,F.names,F.ns,F.cells,F.loc,F.ownI,F.cellI,F.cellO,F.cellL⟩⟩,⟨p.keep,p.alive,p.imm,p.immN,p.ledN,p.rho,p.rest.elim λh e=>e.elim λt e=>e.elim λa e=>y3 h t d (by show {y.S with drawn:=d}=_;rw[e])⟩,h⟩
theorem yL {z:Z}{s:St}{x:X}{b:Bi}{d o:D}{v:Value}(hh:z.A.handled=Vs) (a:At cx z s x) (rl:Gp z x v d) (h:nV b d=Vr o):aN cx z (aZ z) x (.ok (.d o) s) (λQ E y=>Kq (Kr PR z.c.w) z.A (call (.type "set") [v]) (λI f=>z.c.hb.StaysIn f.heap/\Kq (Kr PR z.c.w) z.A (call b.val [I]) Q E f) E y):=aA h λl e1 h=>aA h λj T h=>bD h λhz h=>RD.onLst (P:=λv=>aN cx z (aZ z) x (.ok (.d o) s) (λQ E y=>Kq (Kr PR z.c.w) z.A (call (.type "set") [v]) (λI f=>z.c.hb.StaysIn f.heap/\Kq (Kr PR z.c.w) z.A (call b.val [I]) Q E f) E y)) rl e1 λ{p us n} m _ U Q E q=>by
  refine xi hh (a.H.immIn _ m) (gq U T) (by walk_at "n") λu g k S=>?_;have n1:=a.kp (h':=u) (tk:=g) (ex:=[]) (r:=True) k (λ_ h=>nomatch h) trivial;have hl:(xc [] j).length<=j.length:=by have:=rF [] j;simpa using this
  refine ⟨n1.at_.H.base,?_⟩;cases b<;>first
   | exact au h
   | skip
  ·refine aC λR i=>?_;obtain rfl:=Kd h;obtain ⟨os,es,ep,t,g1,N,g3,G⟩:=S.at_;refine i ?_;have hs:=G.size;refine call_len_set (s:={x.S with heap:=u,toks:=g}) g1 N g3 G.fits (by walk_at "n") (q _ (x.gr u (g+1+1) []) (a.kp (ex:=[]) k (λ_ h=>nomatch h) ?_));show RD _ _ _ (.int ((ik j).length:Int));rw[show (ik j).length=es.size from hs.symm];exact .int _ _
  ·refine aC λR i=>?_;obtain rfl:=Kd h;refine i ?_;refine sw (s:={x.S with heap:=u,toks:=g}) hh S (by walk_at "n") λh2 C L K O c k2 nl M hI hv=>?_;have J:Kp x.h h2:=λb o e=>k2 b o (k b o e);have F:x.h.get? K=none:=by
    cases e:x.h.get? K with
    | none=>rfl
    | some o=>exact au (nl.symm.trans (k _ _ e))
   exact q _ ((x.gr h2 C [(K,lstO O c)]).dr L) (Nx.dr (a.kp (r:=True) J (λp Y=>by rw[Kk.mp Y];exact ⟨M,F⟩) trivial) (RD.lst (.head _) hv (jS hI)))
noncomputable def pg (cx:Cx) (f g:Str):Option Bi:=if cx.inH=Vu/\cx.names.lookup f=Vr .globalImplicit/\cx.names.lookup g=Vr .globalImplicit then (bY g ib).bind λd=>d.bi?.bind λb=>if b.eq .set=Vt then (bY f ib).bind D.bi? else Vs else Vs
noncomputable def ys (r:Sr k) (f:Str) (p:Pos) (g:Str) (m:Pos) (e:Kf) (i pos:Pos):Ev k cx (.Call (.Name f p) [.Call (.Name g m) [e] [] i] [] pos):=⟨λs=>optE (pg cx f g) .bad λb=>if bb e=Vs then ((r.ev cx e).f s).bind λv s=>okD (v.d?.bind (nV b)) s else .bad,λ{z s x} o a=>by
 cases h:pg cx f g with
 | none=>exact .bad
 | some b=>
  exact bD h λl h=>aA h λd e1 h=>aA h λb' S h=>bD h λN h=>aA h λd2 e3 e4=>by
   refine aC λGz j=>?_;obtain ⟨fv,t,T⟩:=jX (pos:=p) o.B a l.2.1 e3;obtain ⟨M,C,O⟩:=jX (pos:=m) o.B a l.2.2 e1;refine j ?_;rw[kh e4] at t;rw[kh S,Bi.set_of N] at C;obtain rfl:=show fv=b.val from t.view
   obtain rfl:=show M=.type "set" from C.view
   exact aN.ite λhs=>(((r.ev cx e).ok o a).bind (K:=λI Q E G=>z.c.hb.StaysIn G.heap/\Kq (Kr PR z.c.w) z.A (call (.type "set") [I]) (λU F=>z.c.hb.StaysIn F.heap/\Kq (Kr PR z.c.w) z.A (call b.val [U]) Q E F) E G) λv s1 I y n=>.opt λu Y=>aV Y λq J R=>aA J λd L e8=>R▸λQ E q=>⟨n.at_.H.base,yL (o.hd l.1) n.at_ (RV.onD n.r L) e8 Q E q⟩).of λQ E h=>gG (T _ _ (by
     refine fu (P:=λh=>z.c.hb.StaysIn h) rfl (jR b) ?_;rw[fm rfl];refine gG (O _ _ (fu (P:=λh=>z.c.hb.StaysIn h) rfl (jR .set) ?_));rw[fm hs];exact h))⟩
end
end
section
set_option linter.all false
noncomputable def cD (args:List Kf):Bool:=args.all λe=>(bb e).isNone
noncomputable def cZ (st:List SObj) (v:V) (m:Str):Option Addr:=v.loc?.bind λl=>(st[l]?).bind λo=>o.inst?.bind λa=>if get m a=Vs then bY m methods else Vs
section
variable {w:Lh}{A:Lg}{c:Cn}{cx:Cx}{z:Z}{s:St}{x y:X}{st:List SObj}{b:Value}{v u:V}{k:Nat}{vals:List Value}{vs:List V}{env:Env}{o:Kf}{m:Str}{ap p:Pos}{args:List Kf}
theorem ku:∀{args:List Kf},(Mw p (LH args env)).all (λx=>!x.1)=cD args:=@lr _ _ (rfl) (λe c b=>by
  show _=((bb e).isNone&&cD c);cases hs:bb e with
  | none=>
   rw[lv hs,<- b];rfl
  | some a=>
   obtain ⟨q,rfl⟩:=pA hs;rfl)
theorem oC {P:Value->eZ Value}{Q:Value->Shared->Prop}{E:Value->Shared->Prop}{S:Shared}(d:hF o=Vt) (f:(ap.endLine==p.line)=Vt) (hn:args.length<29) (h:Kq (Kr PR w) A (MT o env) (λa b=>P a Q E b) E S) (k:∀(a:Value) (b:Shared),P a Q E b->Kq (Kr PR w) A (Pr o m ap p env a (args.length+0) (Mw p (LH args env)) (Pg p (NU [] env))) Q E b):Kq (Kr PR w) A (MT (.Call (.Attribute o m ap) args [] p) env) Q E S:=by
 show Kq (Kr PR w) A (do
  let a <- RY o m env (MT o env)
  U4 ap.atName
  Pr o m ap p env a (args.length+0) (Mw p (LH args env)) (Pg p (NU [] env))) Q E S
 rw[vE d];exact Kg (KQ h (λa b c=>Kg (Mn (k a b c))) λ_ _ e=>e)
abbrev rZ (w:Lh) (A:Lg) (env:Env) (m:Str) (p:Pos) (args:List Kf) (e:Value):eZ Value:=λQ E c=>∀d,Kq (Kr PR w) A (getMethod e m d) (λa b=>Kq (Kr PR w) A (M2 p a.1 a.2 (Mw p (LH args env)) []) Q E b) E c
abbrev rY (w:Lh) (A:Lg) (env:Env) (m:Str) (p:Pos) (args:List Kf) (c:Value):eZ Value:=λQ E a=>Kq (Kr PR w) A (N2 c m Vt) (λf b=>Kq (Kr PR w) A (M2 p f [] (Mw p (LH args env)) []) Q E b) E a
theorem FJ {b:Value}{Q:Value->Shared->Prop}{E:Value->Shared->Prop}{S:Shared}(d:(ap.endLine==p.line)=Vt) (hn:args.length<29) (hs:cD args=Vt) (h:rZ w A env m p args b Q E S):Kq (Kr PR w) A (Pr o m ap p env b (args.length+0) (Mw p (LH args env)) (Pg p (NU [] env))) Q E S:=by
 unfold Pr;have a:PQ (args.length+0) (Mw p (LH args env)) (Pg p (NU [] env))=true:=by
  unfold PQ;rw[ku,hs];show (Vt&&Vt&&decide (args.length+0+0<30))=Vt;simp;walk_at "n"
 rw[a];refine Kg (Lp (KQ (h _) (λg f c=>?_) λ_ _ e=>e));unfold methodCallPos;rw[d];exact Kg (Ks c)
theorem star_of' {b:Value}{Q:Value->Shared->Prop}{E:Value->Shared->Prop}{S:Shared}(hs:cD args=Vu) (h:rY w A env m p args b Q E S):Kq (Kr PR w) A (Pr o m ap p env b (args.length+0) (Mw p (LH args env)) (Pg p (NU [] env))) Q E S:=by
 unfold Pr;have a:PQ (args.length+0) (Mw p (LH args env)) (Pg p (NU [] env))=false:=by
  unfold PQ;rw[ku,hs];rfl
 rw[a];refine Kg (Lp ?_);exact Kg (KQ h (λf d c=>Ks (Kg (Ks c))) λ_ _ e=>e)
theorem pb (P:LF):methods.all (λp=>O4 (KK P) (.ref bJ) p.1==Vr (Vr (.ref p.2))&&(isFn (KK P) (.ref p.2)&&((specialIn (KK P) (.ref p.2) "__get__"==Vr (Vr (.builtin "function.__get__")))&&((takesIn (KK P) (.ref p.2)==Vr Vu)&&(!copiedNames.contains p.1&&(fnIn (KK P) p.2&&ke.contains p.2))))))=true:=rfl
theorem mo (P:LF){m:Str}{a:Addr}(h:bY m methods=Vr a):O4 (KK P) (.ref bJ) m=Vr (Vr (.ref a))/\isFn (KK P) (.ref a)=Vt/\specialIn (KK P) (.ref a) "__get__" = Vr (Vr (.builtin "function.__get__"))/\takesIn (KK P) (.ref a)=Vr Vu/\copiedNames.contains m=Vu/\fnIn (KK P) a=Vt/\ke.contains a=true:=by
 have h:=Kn.mp (KS.mp (pb P) _ (iD h));have b:=Kn.mp h.2;have e:=Kn.mp b.2;have c:=Kn.mp e.2;have d:=Kn.mp c.2;have f:=Kn.mp d.2;exact w6 (beq_iff_eq.mp h.1) b.1 (beq_iff_eq.mp e.1) (beq_iff_eq.mp c.1) ((KO _).mp d.1) f
noncomputable def E3 (r:Sr k) (cx:Cx) (args:List Kf) (a:Addr) (v:V) (s:St):Res V:=if cx.inH=Vu then (bM (r.ev cx) args s).bind λus s=>eW r a (v::us) s else .bad
theorem yJ {e:Value}{a:Addr}(H:HI c st x) (l:RV c.w x.ρ x.imm e v) (h:cZ st v m=Vr a):bY m methods=Vr a/\∃b d es n,e=.ref b/\InstAt x.h b (jE d) bJ (Vr (NQ es n))/\UN m es=Vr none:=H.on (P:=λe=>bY m methods=Vr a/\∃b d es n,e=.ref b/\InstAt x.h b (jE d) bJ (Vr (NQ es n))/\UN m es=Vr Vs) l h λ_ j h=>aA h λf g h=>bD h λk h=>by
  obtain ⟨d,es,n,_,i,_,I⟩:=(pE g▸j:Thing c st x _ _ _ (.inst f)).inst H;have:=i.2 m;rw[k] at this;exact ⟨h,y4 _ d es n (w3 rfl I this)⟩
theorem Ci {i:Value}{a:Addr}(r:Sr k) (ok:Ok k cx z) (b:At cx z s x) (g:aZ z x i v) (h:cZ s.st v m=Vr a) (q:aO args=Vt):aN cx z (aZ z) x (E3 r cx args a v s) (rZ z.c.w z.A z.env m p args i):=aN.ite λt=>by
 refine aC λJ f=>?_;obtain ⟨F,j,d,u,n,rfl,I,hg⟩:=yJ b.H g h;obtain ⟨o,C,R,O,K,N,l⟩:=mo z.c.w.params F;refine f ?_;have e:aN cx z (aZ z) x ((bM (r.ev cx) args s).bind λG s=>eW r a (v::G) s) (tr z (M2 p (.ref a) [.ref j] (Mw p (LH args z.env)) [])):=iM (first:=[.ref j]) (P:=λh=>z.c.hb.StaysIn h) q (eP _ ok b) (mw ok.B l) (λs y a _=>a.H.base) λvs M vals y n=>rO r ok (ok.hd t) n.at_ (.cons (g.up n.adv) n.r);exact e.of λQ E h L=>method_fn (ok.B.kin b.H.base) I (Nf (fy z.c.w.params m)).1 (Nf (fy z.c.w.params m)).2 o (beq_iff_eq.mp C) (by show (lookIn m (NQ u n)).map _=_;rw[Q7,hg];rfl) h
theorem aN.back {β α:Type}{RB:X->β->α->Prop}{res:Res α}{P:eZ β}(p:Adv z.c z.own x y) (h:aN cx z RB y res P){Q:β->Shared->Prop}{E:Value->Shared->Prop}(q:eL cx z RB x res Q E):P Q E y.S:=h Q E (q.adv p)
theorem yI {l:Value}{a:Addr}(r:Sr k) (ok:Ok k cx z) (e:At cx z s x) (j:aZ z x l v) (h:cZ s.st v m=Vr a) (F:aO args=Vt):aN cx z (aZ z) x (E3 r cx args a v s) (rY z.c.w z.A z.env m p args l):=aN.ite λG=>by
 refine aC λGz g=>?_;obtain ⟨N,b,d,es,n,rfl,I,hg⟩:=yJ e.H j h;obtain ⟨u,M,U,R,J,L,Y⟩:=mo z.c.w.params N;refine g ?_;have X:=ok.B.kin e.H.base;have i:Nx cx z x s (x.gr (x.h.push (Ph (.ref a) (.ref b))) (x.S.toks+1) [(x.h.objs.size,Ph (.ref a) (.ref b))]) True:=e.kp (aM _ _) (λp C=>by rw[Kk.mp C];exact ⟨Kt _ rfl,bF _⟩) trivial;have f:aN cx z (aZ z) (x.gr (x.h.push (Ph (.ref a) (.ref b))) (x.S.toks+1) [(x.h.objs.size,Ph (.ref a) (.ref b))]) ((bM (r.ev cx) args s).bind λO s=>eW r a (v::O) s) (tr z (M2 p (.ref x.h.objs.size) [] (Mw p (LH args z.env)) [])):=by
  refine iM (first:=[]) (P:=λh=>MethP (KK z.c.w.params) x.h.objs.size a (.ref b) h) F (eP _ ok i.at_) (λh T=>keeps_M L h T) (λs y t K=>⟨t.H.immIn (x.h.objs.size,Ph (.ref a) (.ref b)) (K.imm _ (.head _)),ok.B.kin t.H.base⟩) λvs s2 vals y n=>λQ E q=>?_;have o:y.h.get? x.h.objs.size=Vr (Ph (.ref a) (.ref b)):=n.at_.H.immIn (x.h.objs.size,Ph (.ref a) (.ref b)) (n.adv.imm _ (.head _));exact Og (method_call o (rK r ok (ok.hd G) n.at_ (.cons ((j.up i.adv).up n.adv) n.r) Q E q))
 exact λQ E q=>get_bind X I (Nf (fy z.c.w.params m)).1 (findObj_fn (gZ _) u U R J (by rw[Q7,hg])) (Nf (fy z.c.w.params m)).2 (Og (fn_get (s:={x.S with toks:=x.S.toks+1}) X (beq_iff_eq.mp M) (handed_on rfl (f.back i.adv q))))
theorem Ga {d:Value}{bm:BM}(r:Sr k) (ok:Ok k cx z) (b:At cx z s x) (g:aZ z x d v) (h:hS s.st v m=Vr bm) (j:aO args=Vt):aN cx z (aZ z) x ((bM (r.ev cx) args s).bind λus s=>GR s.fr (iW s.st bm v us)) (rZ z.c.w z.A z.env m p args d):=(iM (first:=[d]) (pos:=p) (P:=λh=>z.c.hb.StaysIn h) j (eP (r.ev cx) ok b) (mu (f:=.builtin bm.id) (λa e=>nomatch e)) (λs y a _=>a.H.base) λvs o vals y n=>HM ok.B (by have:=ok.units;lia) n.at_ (g.up n.adv) n.r).of λQ E i l=>CB b.H g h _ _ _ _ i
noncomputable def qL (st:List SObj) (v:V) (m:Str):Option (Array UInt8×Nat):=if m=sn "read" then v.loc?.bind λl=>(st[l]?).bind SObj.tape? else Vs
noncomputable def nU (r:Sr k) (p:Array UInt8×Nat) (us:List V) (s:St):Res V:=optE (fc us V.d?) .bad λd=>uc s.fr (r.rd p.1 p.2 d s.st)
theorem FO (P:LF):UK (KK P) bL (sn "read")=Vt/\O4 (KK P) (.ref bL) (sn "read")=Vr none:=⟨rfl,rfl⟩
theorem yA {f j:Addr}{q:Array UInt8×Nat}(r:Sr k) (o:Ok k cx z) (hh:z.A.handled=Vs) (a:At cx z s x) (p:x.ρ[q.2]?=Vr j) (m:FnIs x.imm f q.1 j) (rs:dJ z x vals vs):aN cx z (aZ z) x (nU r q vs s) (tr z (call (.ref f) vals)):=by
 unfold nU;cases h:fc vs V.d? with
 | none=>exact .bad
 | some d=>
  refine gD (P:=λvals=>aN cx z (aZ z) x (uc s.fr (r.rd q.1 q.2 d s.st)) (tr z (call (.ref f) vals))) rs h λ{v u} _ w e Q E=>?_;have h:=λt=>r.rdOk q.1 q.2 d s.st (fr:=s.fr) o hh a p m (w.onD e) Q E t;cases l:r.rd q.1 q.2 d s.st with
  | bad=>exact λq=>PH q
  | ok v n=>exact λq=>Og (h (by rw[l];exact λb y g c i=>q b y ⟨⟨g,a.F.adv c⟩,c.weak (λ_ h=>nomatch h),i⟩))
  | exn e C n=>exact λq=>Og (h (by rw[l];exact λb y g c i=>q b y ⟨⟨g,a.F.adv c⟩,c.weak (λ_ h=>nomatch h),i⟩))
theorem Hn {a:Imm}{h:Heap}{f c:Addr}{b:Array UInt8}(d:∀p∈a,h.get? p.1=Vr p.2) (e:FnIs a f b c):FnAt f h:=by
 obtain ⟨z,m⟩:=e;exact y4 _ _ _ _ (d _ m)
theorem xY {j:Value}{q:Array UInt8×Nat}(r:Sr k) (ok:Ok k cx z) (b:At cx z s x) (O:aZ z x j v) (h:qL s.st v m=Vr q) (R:aO args=Vt):aN cx z (aZ z) x (if cx.inH=Vu then (bM (r.ev cx) args s).bind λus s=>nU r q us s else .bad) (rZ z.c.w z.A z.env m p args j):=aN.ite λT=>
 bD h λhm h=>b.H.on (P:=λj=>aN cx z (aZ z) x ((bM (r.ev cx) args s).bind λus s=>nU r q us s) (rZ z.c.w z.A z.env m p args j)) O h λ{l a ft o} _ N L=>by
  refine rp hm ?_;refine aC λM g=>?_;obtain rfl:=BU L;obtain ⟨rfl,al,hal,ti⟩:=N.foot;obtain ⟨Y,K,e1,J⟩:=ti;refine g ?_;rename_i d f U n;refine aC λM g=>?_;obtain ⟨C,F⟩:=FO z.c.w.params;refine g ?_;have I:InstAt x.h a (I6 d) bL (Vr (NQ U n)):=⟨b.H.immIn _ Y,rfl,rfl,b.H.immIn _ K⟩
  have X:=ok.B.kin b.H.base;have G:Nx cx z x s (x.gr x.h (x.S.toks+1) []) True:=b.kp (ex:=[]) (λ_ _ e=>e) (λ_ h=>nomatch h) trivial;have i:aN cx z (aZ z) (x.gr x.h (x.S.toks+1) []) ((bM (r.ev cx) args s).bind λus s=>nU r q us s) (tr z (M2 p (.ref f) [] (Mw p (LH args z.env)) [])):=iM (first:=[]) (P:=λh=>FnAt f h) R (eP _ ok G.at_) keeps_F (λs y t h3=>Hn t.H.immIn (J.mono λp u=>h3.imm p u)) λvs s1 vals y n=>yA r ok (ok.hd T) n.at_ (n.adv.rho _ _ hal) (J.mono λp u=>n.adv.imm p u) n.r;exact λQ E q pl=>method_usual X I (Nf C).1 (Nf C).2 F rfl (get_value X I (Nf C).1 (Vn (vm _) F rfl (by rw[Q7];exact e1)) rfl (i.back G.adv q))
end
section
variable {k:Nat}{cx:Cx}
noncomputable def gI (r:Sr k) (cx:Cx) (m:Str) (args:List Kf) (v:V) (s:St):Res V:=optE (cZ s.st v m) (optE (hS s.st v m) (optE (qL s.st v m) .bad λq=>if cD args=Vt then (if cx.inH=Vu then (bM (r.ev cx) args s).bind λus s=>nU r q us s else .bad) else .bad) λbm=>if cD args=Vt then (bM (r.ev cx) args s).bind λus s=>GR s.fr (iW s.st bm v us) else .bad) λa=>E3 r cx args a v s
theorem zb {z:Z}{s:St}{x:X}{f:Value}{v:V}{m:Str}{p:Pos}{args:List Kf}(r:Sr k) (ok:Ok k cx z) (b:At cx z s x) (e:aZ z x f v) (d:aO args=Vt):aN cx z (aZ z) x (gI r cx m args v s) (rZ z.c.w z.A z.env m p args f):=by
 unfold gI;cases h:cZ s.st v m with
 | some a=>exact Ci r ok b e h d
 | none=>cases h:hS s.st v m with
  | none=>cases h:qL s.st v m with
   | none=>exact .bad
   | some q=>exact aN.ite λ_=>xY r ok b e h d
  | some g=>exact aN.ite λ_=>Ga r ok b e h d
theorem wr {z:Z}{s:St}{x:X}{d:Value}{v:V}{m:Str}{p:Pos}{args:List Kf}(r:Sr k) (ok:Ok k cx z) (b:At cx z s x) (g:aZ z x d v) (f:aO args=Vt) (hs:cD args=Vu):aN cx z (aZ z) x (gI r cx m args v s) (rY z.c.w z.A z.env m p args d):=by
 unfold gI;cases h:cZ s.st v m with
 | some a=>exact yI r ok b g h f
 | none=>cases h:hS s.st v m with
  | none=>cases h:qL s.st v m with
   | none=>exact .bad
   | some q=>exact aN.ite λe=>nomatch hs.symm.trans e
  | some i=>exact aN.ite λe=>nomatch hs.symm.trans e
noncomputable def GX (r:Sr k) (o:Kf) (m:Str) (ap:Pos) (args:List Kf) (p:Pos):Ev k cx (.Call (.Attribute o m ap) args [] p):=⟨λs=>if hF o=Vt/\aO args=Vt/\(ap.endLine==p.line)=Vt/\args.length<29 then ((ek r cx o).f s).bind λv s=>gI r cx m args v s else .bad,λ{z s x} ok a=>aN.ite λb=>by
 cases hs:cD args with
 | true=>exact (((ek r cx o).ok ok a).bind (K:=λd=>rZ z.c.w z.A z.env m p args d) λv s d y n=>zb r ok n.at_ n.r b.2.1).of λQ E h=>oC (P:=rZ z.c.w z.A z.env m p args) b.1 b.2.2.1 b.2.2.2 h λd e h=>FJ b.2.2.1 b.2.2.2 hs h
 | false=>exact (((ek r cx o).ok ok a).bind (K:=λd=>rY z.c.w z.A z.env m p args d) λv s d y n=>wr r ok n.at_ n.r b.2.1 hs).of λQ E h=>oC (P:=rY z.c.w z.A z.env m p args) b.1 b.2.2.1 b.2.2.2 h λd e h=>star_of' hs h⟩
end
end
section
set_option linter.all false
noncomputable def hX (e:Kf):Bool:=match e with
 | .ListComp _ _ _ _=>Vt
 | .SetComp _ _ _ _=>Vt
 | .DictComp _ _ _ _ _=>Vt
 | _=>Vu
noncomputable def jq (e:Kf):Bool:=match e with
 | .Tuple _ _ _=>Vt
 | _=>Vu
noncomputable def s6 (e:Kf):Option Str:=match e with
 | .Name x _=>Vr x
 | _=>Vs
noncomputable def DG (e:Kf):Option (List Kf):=match e with
 | .Tuple es _ _=>Vr es
 | _=>Vs
noncomputable def nz (cx:Cx):List Kf->List V->Option (List (Str×V))
 | [],vs=>LZ vs (Vr []) λ_ _=>Vs
 | e::es,vs=>LZ vs Vs λv r=>(s6 e).bind λx=>if bC (cx.names.lookup x)=Vt then (nz cx es r).map ((x,v)::·) else Vs
noncomputable def GI (v:V):Option (List V):=(v7 v).or (V.casesOn v (λ_=>Vs) (λ_=>Vs) (λ_=>Vs) (λ_=>Vs) λl d=>Vr [.loc l,.d d])
noncomputable def dB (cx:Cx) (t:Kf) (v:V):Option (List (Str×V)):=((s6 t).bind λx=>if bC (cx.names.lookup x)=Vt then Vr [(x,v)] else Vs).or ((DG t).bind λes=>(GI v).bind λvs=>nz cx es vs)
section
variable {w:Lh}{A:Lg}{c:Cn}{cx:Cx}{z:Z}{s:St}{x y:X}{st:List SObj}{b val:Value}{v u:V}{k:Nat}{vals:List Value}{vs:List V}{env:Env}{e t:Kf}
theorem pv {n:Str}(h:s6 e=Vr n):∃p,e=.Name n p:=by cases e<;>first | exact au h | exact ⟨_,by rw[Kd h]⟩
theorem tup_of' {es:List Kf}(h:DG e=Vr es):∃n p,e=.Tuple es n p:=by cases e<;>first | exact au h | exact y2 _ _ (by rw[Kd h])
theorem lO {t:Option Kf}{n:Nat}(h:hX e=Vu):Se e t n env=pure false:=by cases e<;>first | rfl | cases h
theorem x8 {ts:List Kf}{n:Nat}{p:Pos}(h:jq e=Vu):UZ [.Tuple ts n p] e env=pure none:=by cases e<;>first | rfl | cases h
theorem EI.quiet {own:List Addr}{fr:List (Str×V)}(F:EI c cx env own fr x):Vk env=false:=by unfold Vk;rw[F.kind];rfl
theorem RVs.length {ρ:List Addr}{a:Imm}(h:RVs w ρ a vals vs):vals.length=vs.length:=h.ind (M:=λvs b=>vs.length=b.length) rfl λ_ _ e=>congrArg Np e
theorem fR {n:Str}{p:Pos}{Q:Unit->Shared->Prop}{E:Value->Shared->Prop}(a:At cx z s x) (hn:bC (cx.names.lookup n)=Vt) (b:aZ z x val v) (h:∀y,Nx cx z x ⟨aY n v s.fr,s.st⟩ y (Gj x y)->Q () y.S):Kq (Kr PR z.c.w) z.A (Nn (.Name n p) z.env val) Q E x.S:=by
 rw[Rh];exact Kg (Mn (Rq (gY a hn b h)))
theorem vL {env:Env}:∀{es:List Kf}{vs:List V}{a:List (Str×V)},nz cx es vs=Vr a->(Ol es env).findIdx? (·.1)=Vs/\(Ol es env).length=vs.length:=@lr _ _ (@λvs a h=>by
  cases vs with
  | cons=>exact au h
  | nil=>exact ⟨rfl,rfl⟩)
 (λe es d=>(@λvs a h=>by
  cases vs with
  | nil=>exact au h
  | cons v vs=>
   refine aA h λn c b=>bD b λj b=>aV b λf g k=>?_;obtain ⟨p,rfl⟩:=pv c;have i:=d g;refine ⟨?_,congrArg Np i.2⟩;show TL _ ((Vu,Nn (.Name n p) env)::Ol es env)=Vs;rw[List.findIdx?_cons,i.1];rfl))
theorem ue {Q:Unit->Shared->Prop}{E:Value->Shared->Prop}:∀{es:List Kf}{vals:List Value}{vs:List V}{f:List (Str×V)}{fr:List (Str×V)}{x:X},nz cx es vs=Vr f->At cx z ⟨fr,st⟩ x->dJ z x vals vs->
  (∀y,Nx cx z x ⟨eF f fr,st⟩ y True->Q () y.S)->Kq (Kr PR z.c.w) z.A (RZ ((Ol es z.env).map (·.2)) vals) Q E x.S:=
 @lr _ _
 (@λvals vs f fr x b a g h=>by
  cases vs with
  | cons=>exact au b
  | nil=>
   obtain rfl:vals=[]:=g.view;obtain rfl:=Kd b;exact Ks (h x (a.go trivial)))
 (λe es k=>(@λvals vs f fr x b a g h=>by
  cases vs with
  | nil=>exact au b
  | cons v vs=>
   refine aA b λn j b=>bD b λi b=>aV b λo t s=>?_;obtain ⟨p,rfl⟩:=pv j;obtain ⟨q,d,rfl,r1,r2⟩:=g.view;subst s;show Kq _ _ (do QA _ (Nn (.Name n p) z.env q);RZ ((Ol es z.env).map (·.2)) d) _ _ _;exact Kg (Lp (fR a i r1 λy m=>k t m.at_ (r2.mono (λ_ _ e=>m.r.1▸e) λ_ h=>m.r.2▸h) λw l=>h w ⟨l.at_,m.adv.trans l.adv,trivial⟩))))
theorem B7 {P:Value->Prop}(a:At cx z s x) (c:aZ z x val v) (h:GI v=Vr vs) (i:∀{p us n},x.h.get? p=Vr (lstO us n)->dJ z x us vs->P (.ref p)) (f:∀{p us n},x.h.get? p=Vr (dU us n)->dJ z x us vs->P (.ref p)):P val:=cL h (λh=>aA h λd g h=>aV h λl h e=>cL h (λh=>(c.onD g).onLst h λm _ r=>i (a.H.immIn _ m) (e▸ph r)) λh=>(c.onD g).onTup h λm _ r=>f (a.H.immIn _ m) (e▸ph r)) λh=>by
  cases v with
  | pair l d=>
   obtain ⟨p,b,u,n,rfl,m,h1,h2⟩:=c;obtain rfl:=Kd h;exact f (a.H.immIn _ m) (.cons ⟨b,rfl,h1⟩ (.cons h2 .nil))
  | _=>exact au h
theorem jw {r:List (Str×V)}(hh:z.A.handled=Vs) (a:At cx z s x) (H:aZ z x val v) (J:dB cx t v=Vr r):aN cx z RU x (.ok () ⟨eF r s.fr,s.st⟩) (tr z (Nn t z.env val)):=cL J (λh=>aA h λn C h=>bD h λj K=>by
  obtain ⟨p,rfl⟩:=pv C;refine rq (Kd K) ?_;exact λQ E q=>fR a j H λy m=>q () y ⟨m.at_,m.adv,trivial⟩)
 λh=>aA h λi C h=>aA h λvs L f=>by
  obtain ⟨n,p,rfl⟩:=tup_of' C;obtain ⟨G,F⟩:=vL (env:=z.env) f;have l:∀(Q:Unit->Shared->Prop) (E:Value->Shared->Prop) (d:List Value) (h':Heap),eL cx z RU x (.ok () ⟨eF r s.fr,s.st⟩) Q E->dJ z x d vs->Heap.ExtBut x.h.objs.size x.h h'->Kq (Kr PR z.c.w) z.A (RZ ((Ol i z.env).map (·.2)) d) Q E {x.S with heap:=h'}:=λQ E d h' q g k=>
   have I:=a.kp (h':=h') (tk:=x.S.toks) (ex:=[]) (λb o e=>k b o (L4 (LD e)) e) (λ_ h=>nomatch h) trivial
   ue (x:=x.gr h' x.S.toks []) f I.at_ g λy m=>q () y ⟨m.at_,I.adv.trans m.adv,trivial⟩
  refine B7 (P:=λval=>aN cx z RU x (.ok () ⟨eF r s.fr,s.st⟩) (tr z (Nn (.Tuple i n p) z.env val))) a H L (λ{q d m} j g Q E u=>?_) λ{q d m} j g Q E u=>?_
  ·rw[show tr z (Nn (.Tuple i n p) z.env (.ref q)) Q E x.S=Kq (Kr PR z.c.w) z.A (Nn (.Tuple i n p) z.env (.ref q)) Q E x.S from rfl,Ue];refine Kg (Mn ?_);unfold unpack;rw[G,show (Ol i z.env).length=d.toArray.size by rw[Kz,g.length];exact F];exact Kg (Lp (kun_itemsOf hh (aJ j) λh' k=>l Q E d h' u g k))
  ·rw[show tr z (Nn (.Tuple i n p) z.env (.ref q)) Q E x.S=Kq (Kr PR z.c.w) z.A (Nn (.Tuple i n p) z.env (.ref q)) Q E x.S from rfl,Ue];refine Kg (Mn ?_);exact wpAny_unpack_tuple hh (dn j) (by rw[Kz,g.length];exact F) G λh' k=>l Q E d h' u g k
end
end
section
set_option linter.all false
section
variable {w:Lh}{A:Lg}{env:Env}{E:Value->Shared->Prop}{S:Shared}
theorem lX {vs a:List Value}{Q:Unit->Shared->Prop}(h:Q () S):Kq (Kr PR w) A (release vs a) Q E S:=λΓ p b=>by rw[O0.wp_release];exact h
theorem Ds {o:Kf}{m:Str}{p:Pos}{v:Value}{Q:Unit->Shared->Prop}(h:Kq (Kr PR w) A (MT o env) (λb a=>Kq (Kr PR w) A (OY b m v) Q E a) E S):Kq (Kr PR w) A (Nn (.Attribute o m p) env v) Q E S:=by
 rw[arm_assign_Attribute];exact Kg (Lp (KQ h (λb a c=>Kg (Mn (Kg (Lp (KQ c (λ_ f d=>lX d) λ_ _ e=>e))))) λ_ _ e=>e))
theorem vG {o i:Kf}{p:Pos}{v:Value}{Q:Unit->Shared->Prop}(h:Kq (Kr PR w) A (MT o env) (λd b=>Kq (Kr PR w) A (MT i env) (λc a=>Kq (Kr PR w) A (NL d c v) Q E a) E b) E S):Kq (Kr PR w) A (Nn (.Subscript o i p) env v) Q E S:=by
 rw[arm_assign_Subscript];exact Kg (Lp (KQ h (λd b f=>Kg (Lp (KQ f (λc a g=>Kg (Mn (Kg (Lp (KQ g (λ_ k j=>lX j) λ_ _ e=>e))))) λ_ _ e=>e))) λ_ _ e=>e))
theorem lI {ts:List Kf}{e:Kf}{pos:Pos}{a:List (Value->O0 Unit)}{Q:QE->Shared->Prop}(g:RX ts e pos.line env=pure Vu) (f:UZ ts e env=pure Vs) (i:(Ol ts env).map (·.2)=a) (h:Kq (Kr PR w) A (MT e env) (λv b=>Kq (Kr PR w) A (assignAll v a) (λ_=>Q Mq) E b) E S):Kq (Kr PR w) A (exec (.Assign ts e pos) env) Q E S:=by
 rw[arm_exec_Assign];refine Kg (Mn (Kg ?_));rw[g];refine Ks (Kg (KQ h (λv b c=>?_) λ_ _ e=>e));rw[f];refine Kg (Ks ?_);refine rp i ?_;exact Kg (KQ c (λ_ _ d=>Ks d) λ_ _ e=>e)
end
section
variable {k:Nat}{cx:Cx}{e o i t:Kf}(a:Ev k cx e) (T:Ts k cx t) (r:Sr k)
theorem fH {z:Z}{y:X}:RF z y .next .next:=rfl
theorem aN.next {z:Z}{x:X}{P:eZ Unit}{res:Res Unit}(h:aN cx z RU x res P):aN cx z (RF z) x (res.bind λ_ s=>.ok .next s) (λQ E s=>P (λ_=>Q Mq) E s):=λQ E q=>h _ E (q.bind (.refl _ _ _) (λ_ s b y n c=>c _ y ⟨n.at_,n.adv,rfl⟩) λ_ _ _ _ y n a=>a y n)
noncomputable def Ht (pos:Pos):Ex k cx (.Expr e pos):=⟨λs=>if hX e=Vu then (a.f s).bind λ_ s=>.ok .next s else .bad,λ{z s x} ok b=>aN.ite λh=>
 ((a.ok ok b).bind (K:=λ_ Q _ c=>Q Mq c) λv s1 d y n=>.done n.at_ fH).of λQ E h'=>wpAny_Expr_any h' b.F.quiet (lO h)⟩
noncomputable def ES (pos:Pos):Ex k cx (.Return (Vr e) pos):=⟨λs=>(a.f s).bind λv s=>.ok (.ret v) s,λ{z s x} ok b=>
 ((a.ok ok b).bind (K:=λv Q _ c=>Q (U1 v) c) λv s1 d y n=>.done n.at_ ⟨d,rfl,n.r⟩).of λQ E h'=>wpAny_Return_some h'⟩
noncomputable def JR (b d:List Stmt) (pos:Pos):Ex k cx (.If t b d pos):=⟨λs=>(T.f s).bind λc s=>cond c ((r.xs cx b).f s) ((r.xs cx d).f s),λok a=>pT T ok a ((r.xs cx b).ok ok) ((r.xs cx d).ok ok) λ_ _ h=>wpAny_If h⟩
noncomputable def Dt (m:Option Kf) (pos:Pos):Ex k cx (.Assert t m pos):=⟨λs=>(T.f s).bind λc s=>cond c (.ok .next s) .bad,λ{z s x} ok a=>
 ((T.ok ok a).bind (K:=λb Q _ e=>b=Vt/\Q Mq e) λb s1 d y n=>by
  refine rq (show d=b from n.r) ?_;cases d with
  | true=>exact .pure n.at_ rfl λQ E q=>⟨rfl,q⟩
  | false=>exact .bad).of λQ E h'=>wpAny_Assert_holds h'⟩
noncomputable def lH (n:Str) (p pos:Pos):Ex k cx (.Assign [.Name n p] e pos):=⟨λs=>if hX e=Vu/\bC (cx.names.lookup n)=Vt then (a.f s).bind λv s=>.ok .next ⟨aY n v s.fr,s.st⟩ else .bad,λ{z s x} ok b=>aN.ite λh=>
 ((a.ok ok b).bind (K:=λv Q E d=>Kq (Kr PR z.c.w) z.A (Oj z.env n v) (λ_=>Q Mq) E d) λv s1 g y m=>.store m.at_ h.2 m.r λ_ _=>fH).of λ_ _ h'=>TV h' (lO h.1)⟩
theorem uA {env:Env}{t e:Kf}{n:Nat}(h:hX e=Vu):RX [t] e n env=pure false:=lO h
theorem EL {env:Env}{o e:Kf}{m:Str}{p:Pos}{n:Nat}:RX [.Attribute o m p] e n env=pure false:=by
 show Se e (Vr (.Attribute o m p)) n env=_;unfold Se;cases e<;>rfl
noncomputable def xp (ts:List Kf) (n:Nat) (p pos:Pos):Ex k cx (.Assign [.Tuple ts n p] e pos):=⟨λs=>if hX e=Vu/\jq e=Vu/\cx.inH=Vu then (a.f s).bind λv s=>(cP (dB cx (.Tuple ts n p) v) s).bind λd s=>.ok .next ⟨eF d s.fr,s.st⟩ else .bad,λ{z s x} ok b=>aN.ite λh=>
 ((a.ok ok b).bind (K:=λv Q E g=>Kq (Kr PR z.c.w) z.A (Nn (.Tuple ts n p) z.env v) (λ_=>Q Mq) E g) λv s1 j y m=>by
  cases i:dB cx (.Tuple ts n p) v with
  | none=>exact .bad
  | some d=>exact aN.next (jw (ok.hd h.2.2) m.at_ m.r i)).of λ_ _ h'=>lI (uA h.1) (x8 h.2.1) rfl h'⟩
noncomputable def nv (m:Str) (p pos:Pos):Ex k cx (.Assign [.Attribute o m p] e pos):=⟨λs=>(a.f s).bind λv s=>((ek r cx o).f s).bind λd s=>(jD s.fr (cN s.st d m v)).bind λ_ s=>.ok .next s,λ{z s x} ok g=>
 ((a.ok ok g).bind (K:=λv Q E b=>Kq (Kr PR z.c.w) z.A (MT o z.env) (λd b=>Kq (Kr PR z.c.w) z.A (OY d m v) (λ_=>Q Mq) E b) E b) λv s1 j y n=>((ek r cx o).ok ok n.at_).bind (K:=λd Q E b=>Kq (Kr PR z.c.w) z.A (OY d m j) (λ_=>Q Mq) E b) λd s2 l y2 h=>.next (lU ok.B h.at_ h.r (n.r.up h.adv))).of λ_ _ h'=>lI EL rfl rfl (KQ h' (λv b i=>Ds i) λ_ _ e=>e)⟩
noncomputable def uE (s:St) (b a v:V):Res Unit:=optE (a.d?.bind D.int?) .bad λi=>jD s.fr (eD s.st b i v)
theorem qt {z:Z}{s:St}{x:X}{b a val:Value}{v j u:V}(c:At cx z s x) (l:aZ z x b v) (e:aZ z x a j) (g:aZ z x val u):aN cx z RU x (uE s v j u) (tr z (NL b a val)):=by
 unfold uE;cases h:j.d?.bind D.int? with
 | none=>exact .bad
 | some i=>exact aA h λd f k=>RD.onInt (P:=λa=>aN cx z RU x (jD s.fr (eD s.st v i u)) (tr z (NL b a val))) (e.onD f) k λt=>qs c l g
noncomputable def Bf (p pos:Pos):Ex k cx (.Assign [.Subscript o i p] e pos):=⟨λs=>if hX e=Vu then (a.f s).bind λv s=>((ek r cx o).f s).bind λg s=>((r.ev cx i).f s).bind λb s=>(uE s g b v).bind λ_ s=>.ok .next s else .bad,λ{z s x} ok m=>aN.ite λh=>
 ((a.ok ok m).bind (K:=λv Q E d=>Kq (Kr PR z.c.w) z.A (MT o z.env) (λg d=>Kq (Kr PR z.c.w) z.A (MT i z.env) (λb j=>Kq (Kr PR z.c.w) z.A (NL g b v) (λ_=>Q Mq) E j) E d) E d) λv s1 t y n=>((ek r cx o).ok ok n.at_).bind (K:=λg Q E d=>Kq (Kr PR z.c.w) z.A (MT i z.env) (λb j=>Kq (Kr PR z.c.w) z.A (NL g b t) (λ_=>Q Mq) E j) E d) λg s2 u y2 q=>
  ((r.ev cx i).ok ok q.at_).bind (K:=λb Q E j=>Kq (Kr PR z.c.w) z.A (NL u b t) (λ_=>Q Mq) E j) λb F G y3 l=>.next (qt l.at_ (q.r.up l.adv) l.r ((n.r.up q.adv).up l.adv))).of
  λ_ _ h'=>lI (uA h) rfl rfl (KQ h' (λv d C=>vG C) λ_ _ e=>e)⟩
noncomputable def Be (n:Str) (p t pos:Pos):Ex k cx (.Assign [.Subscript o i p,.Name n t] e pos):=⟨λs=>if bC (cx.names.lookup n)=Vt then (a.f s).bind λv s=>((ek r cx o).f s).bind λd s=>((r.ev cx i).f s).bind λg s=>(uE s d g v).bind λ_ s=>.ok .next ⟨aY n v s.fr,s.st⟩ else .bad,λ{z s x} ok q=>aN.ite λh=>
 ((a.ok ok q).bind (K:=λv Q E j=>Kq (Kr PR z.c.w) z.A (MT o z.env) (λd j=>Kq (Kr PR z.c.w) z.A (MT i z.env) (λg F=>Kq (Kr PR z.c.w) z.A (NL d g v) (λ_ C=>Kq (Kr PR z.c.w) z.A (Oj z.env n v) (λ_=>Q Mq) E C) E F) E j) E j) λv s1 N y m=>((ek r cx o).ok ok m.at_).bind λd s2 P y2 l=>
  ((r.ev cx i).ok ok l.at_).bind λg R O y3 b=>(qt b.at_ (l.r.up b.adv) b.r ((m.r.up l.adv).up b.adv)).bind λ_ L _ y4 u=>.store u.at_ h (((m.r.up l.adv).up b.adv).up u.adv) λ_ _=>fH).of
  λ_ _ h'=>lI rfl rfl rfl (KQ h' (λv j G=>by
   show Kq _ _ (do QA [v] (Nn (.Subscript o i p) z.env v);Nn (.Name n t) z.env v) _ _ _;refine Kg (Lp (vG (KQ G (λd F I=>KQ I (λg C J=>KQ J (λ_ M H=>?_) λ_ _ e=>e) λ_ _ e=>e) λ_ _ e=>e)));rw[Rh];exact Kg (Mn (Rq H))) λ_ _ e=>e)⟩
noncomputable def Dq (op:NA) (v u:V):Option D:=v.d?.bind λd=>u.d?.bind λe=>HS op d e
noncomputable def Jj (op:NA) (m:Str) (p pos:Pos):Ex k cx (.AugAssign (.Attribute o m p) op e pos):=⟨λs=>((ek r cx o).f s).bind λj s=>(cP (cG s.st j m) s).bind λold s=>(a.f s).bind λv s=>(okD (Dq op old v) s).bind λb s=>(jD s.fr (cN s.st j m b)).bind λ_ s=>.ok .next s,λ{z s x} ok g=>
 (((ek r cx o).ok ok g).bind λj s1 q y n=>(aN.opt (P:=tr z (N2 q m Vt)) λu h=>(vF ok.B n.at_.H n.r h).refV n.at_).bind λold s2 A y2 i=>(a.ok ok i.at_).bind λv I t y3 c=>
  (aN.optD (T:=QX op A t) c.at_ λd h=>aA h λJ w h=>aA h λF C h=>Bc (RV.onD (i.r.up c.adv) w) (RV.onD c.r C) h).bind λb G E y4 l=>.next (lU ok.B l.at_ (((n.r.up i.adv).up c.adv).up l.adv) l.r)).of λ_ _ h'=>wpAny_AugAssign_AttributeAny h'⟩
noncomputable def qZ (st:List SObj) (v:V) (i:Int):Option D:=(v.ls? st).bind λl=>(ki l.length i).bind λk=>l[k]?
theorem zS {z:Z}{s:St}{x:X}{b:Value}{v:V}{i:Int}{t:PT}{d:D}(a:At cx z s x) (m:aZ z x b v) (h:qZ s.st v i=Vr d):fT z.c.w z.A x (OH b (.int i t)) d:=aA h λl g h=>aA h λk j h=>a.H.lsL (T:=λb=>OH b (.int i t)) m g λf z e=>Eh f z e j h
noncomputable def HR (op:NA) (j:Int) (n:Nat) (I p pos:Pos):Ex k cx (.AugAssign (.Subscript o (.Constant (.int j) n I) p) op e pos):=⟨λs=>((ek r cx o).f s).bind λi s=>(okD (qZ s.st i j) s).bind λold s=>(a.f s).bind λv s=>(okD (Dq op old v) s).bind λb s=>(jD s.fr (eD s.st i j b)).bind λ_ s=>.ok .next s,λ{z s x} ok m=>
 (((ek r cx o).ok ok m).bind (K:=λi Q E R=>Kq (Kr PR z.c.w) z.A (MT (.Constant (.int j) n I) z.env) (λJ N=>Kq (Kr PR z.c.w) z.A (OH i J) (λold C=>Kq (Kr PR z.c.w) z.A (MT e z.env) (λv t=>Kq (Kr PR z.c.w) z.A (QX op old v) (λb F=>Kq (Kr PR z.c.w) z.A (NL i J b) (λ_=>Q Mq) E F) E t) E C) E N) E R) λi s1 H y g=>λQ E q=>
  Qj (((aN.optD (x:=y.gr y.h (y.S.toks+1) []) (T:=OH H (.int j y.S.toks)) (g.at_.kp (ex:=[]) (r:=True) (λ_ _ e=>e) (λ_ h=>nomatch h) trivial).at_ λd h=>zS (g.at_.kp (ex:=[]) (r:=True) (λ_ _ e=>e) (λ_ h=>nomatch h) trivial).at_ g.r h).bind (K:=λold Q E C=>Kq (Kr PR z.c.w) z.A (MT e z.env) (λv t=>Kq (Kr PR z.c.w) z.A (QX op old v) (λb F=>Kq (Kr PR z.c.w) z.A (NL H (.int j y.S.toks) b) (λ_=>Q Mq) E F) E t) E C) λold s2 O y2 G=>(a.ok ok G.at_).bind λv s3 L y3 l=>
   (aN.optD (T:=QX op O L) l.at_ λd h=>aA h λd1 P h=>aA h λU M h=>Bc (RV.onD (G.r.up l.adv) P) (RV.onD l.r M) h).bind λb Y vn y4 u=>.next (qs u.at_ (((g.r.up (g.at_.kp (ex:=[]) (r:=True) (λ_ _ e=>e) (λ_ h=>nomatch h) trivial).adv).up G.adv).up l.adv |>.up u.adv) u.r)) Q E (q.adv (g.at_.kp (ex:=[]) (r:=True) (λ_ _ e=>e) (λ_ h=>nomatch h) trivial).adv))).of
  λ_ _ h'=>wpAny_AugAssign_SubscriptAny h'⟩
noncomputable def AH (s:St) (b a:V):Res Unit:=optE (a.d?.bind D.int?) .bad λi=>jD s.fr (kI s.st b i)
theorem AG {z:Z}{s:St}{x:X}{b a:Value}{v j:V}(c:At cx z s x) (k:aZ z x b v) (e:aZ z x a j):aN cx z RU x (AH s v j) (tr z (Rk b a)):=by
 unfold AH;cases h:j.d?.bind D.int? with
 | none=>exact .bad
 | some i=>exact aA h λd f g=>RD.onInt (P:=λa=>aN cx z RU x (jD s.fr (kI s.st v i)) (tr z (Rk b a))) (e.onD f) g λt=>AE c k
noncomputable def I9 (p pos:Pos):Ex k cx (.Delete [.Subscript o i p] pos):=⟨λs=>((ek r cx o).f s).bind λb s=>((r.ev cx i).f s).bind λa s=>(AH s b a).bind λ_ s=>.ok .next s,λ{z s x} ok g=>
 (((ek r cx o).ok ok g).bind (K:=λb Q E l=>Kq (Kr PR z.c.w) z.A (MT i z.env) (λa d=>Kq (Kr PR z.c.w) z.A (Rk b a) (λ_=>Q Mq) E d) E l) λb s1 m y n=>((r.ev cx i).ok ok n.at_).bind (K:=λa Q E d=>Kq (Kr PR z.c.w) z.A (Rk m a) (λ_=>Q Mq) E d) λa s2 C y2 j=>
  .next (AG j.at_ (n.r.up j.adv) j.r)).of λ_ _ h=>wpAny_Delete (by
  exact Kg (wpAny_delete_Subscript (KQ h (λb l q=>KQ q (λa d t=>KQ t (λ_ v u=>Ks u) λ_ _ e=>e) λ_ _ e=>e) λ_ _ e=>e)))⟩
end
end
section
set_option linter.all false
section
variable {cx:Cx}{z:Z}{s s0:St}{x x₀ y:X}{k:Nat}{kc:D}{args:List D}{ea L T:Addr}{outer:List Env}{nt:Bool}
theorem dX.weak {c:Cn}(h:dX nt c x₀ y ea kc args):dX Vu c x₀ y ea kc args:=⟨h.1,h.2.imp λ_ h=>h.imp λ_ h=>h.imp λ_ h=>h.imp λ_ h=>h.imp λ_ h=>⟨h.1,h.2.imp (λh=>⟨rfl,h.2⟩) id⟩⟩
theorem Fa {c:Cn}{st:List SObj}{b:Addr}{o:Obj}{vs:Array Value}(H:HI c st y) (e:y.h.get? b=Vr o) (d:o.data=.fields vs):b∉c.fa:=λm=>(H.frs.mem m).2.elim λa h=>h.2 vs (by rw[<- d,Kd (e.symm.trans h.1)])
theorem yT (H:HI z.c s.st y) (p:Adv z.c z.own x₀ y){a:Addr}(h:a=y.h.objs.size):Fresh x₀ y a:=h▸⟨λm=>(H.laIn m).elim λo e=>au ((bF _).symm.trans e),λq d b=>au ((bF _).symm.trans (b▸H.immIn q d)),p.dead (bF _)⟩
theorem kT {i:Value}{hn:Bool}{Q:Unit->Shared->Prop}{E:Value->Shared->Prop}(k:z.c.fs=z.env::outer) (hf:z.env.frame=Vr L) (hA:z.A.frames=Vr z.c.fs) (a0:At cx z s0 x₀) (n:Nx cx z x₀ s y (dX nt z.c x₀ y ea kc args)) (h:∀w,Nx cx z x₀ s w (dX Vt z.c x₀ w ea kc args)->Q () w.S):Kq (Kr PR z.c.w) z.A (do Nk (.ref ea) 1 (<- O1 i (<- frameOf z.env) .none (Lu L) .none (<- U9 L hn))) Q E y.S:=by
 have H:=n.at_.H;refine aC λY d=>?_;obtain ⟨f,oe,vs,t,ws,m,X,e7⟩:=n.r;refine d ?_;have C:1<vs.size:=e7.elim (λe=>(MM.mp e.2).1) λe=>e.elim λT e=>e.elim λoT e=>e.elim λI e=>(MM.mp e.at_).1;have N:=Fa H X.get X.data;refine Kg (wpAny_frameOf_fun (k▸hA) (k▸H.frs) hf λa g=>?_);rw[show (z.env::outer).filterMap (·.frame)=z.c.fa by unfold Cn.fa;rw[k]] at g;refine Kg (wpAny_entryPlaceOf λpl J=>?_);unfold O1 Pe;refine Kg (LY ?_ (J.sizeOk5 _ _ _ _ _));refine aC λY d=>?_;obtain ⟨oT,I,U,O,M,R⟩:∃oT I,({cls:=.type "traceback",dict:=Vs,data:=.fields ([i,.ref L,.none,Lu L,.none]++(if pl.isEmpty then LU 6 Nm else pl)).toArray}:Obj)=oT/\oT.data=.fields I/\3<I.size/\oT.isFreed=false:=(y2 _ _ (w4 rfl rfl (by rw[Kz,Km];exact L6 (by decide:3<5) (OV 5 _)) rfl))
 refine d ?_;rw[U];have l:a.get? ea=Vr oe:=(g.2.1 ea N).trans X.get;have v:=KM (h:=a) oT l;refine Na v X.data C ?_;have F:a.objs.size≠ea:=O5 (LD l);have G:=MN X.data (·.setIfInBounds 1 (Nb a.objs.size));have x:=Lq (MA (·.setIfInBounds 1 (Nb a.objs.size))) v (MQ G);have p:=(L9 (a.push oT) (MA (·.setIfInBounds 1 (Nb a.objs.size))) (LV F)).trans (Kt a R);generalize K:(a.push oT).update ea (MA (·.setIfInBounds 1 (Nb a.objs.size)))=h₃ at x p;have j:∀b o,b≠ea->a.get? b=Vr o->h₃.get? b=Vr o:=λb o u e=>by
  rw[<- K,L9 _ _ (LV u)];exact KM _ e
 have P:=yT H n.adv g.1;refine h (y.gr h₃ y.S.toks []) (Nx.heap (W:=λb=>b=ea) a0 n (λb o e=>?_) (λb e=>e▸f) (λ_ h=>nomatch h) ⟨⟨f.la,f.imm,f.new⟩,y5 _ _ t ws m ⟨⟨x,(SO ..).trans X.cls,G,?_,X.tup,X.le,X.rs⟩,.inr (y3 _ oT I ⟨?_,F,p,O,M,⟨P.la,P.imm,P.new⟩⟩)⟩⟩)
 ·by_cases u:b=ea
  ·exact .inl u
  ·by_cases m:b∈z.c.fa
   ·refine aC λY d=>?_;obtain ⟨sl,q⟩:=g.2.2 b o e;refine d ?_;exact .inr (.inr ⟨m,sl,j b _ u q⟩)
   ·exact .inr (.inl (j b o u ((g.2.1 b m).trans e)))
 ·rw[P5 (by decide)];exact X.arg
 ·exact Pc C
theorem rm {g oT:Obj}{vs ts:Array Value}{t:Addr}{i:List Value}{m:Nat}{v:Value}{r:Prop}(j:At cx z s0 x₀) (n:Nx cx z x₀ s y r) (f:Fresh x₀ y ea) (X:EO z.c y ea kc args g vs t i m) (B:TB x₀ y ea T oT ts vs[1]?):Nx cx z x₀ s (y.gr (y.h.update T (MA (·.setIfInBounds 3 v))) y.S.toks []) (dX Vt z.c x₀ (y.gr (y.h.update T (MA (·.setIfInBounds 3 v))) y.S.toks []) ea kc args):=by
 have a:∀b o,b≠T->y.h.get? b=Vr o->(y.h.update T (MA (·.setIfInBounds 3 v))).get? b=Vr o:=λb o k e=>(L9 _ _ (LV k)).trans e;have d:=MN B.data (·.setIfInBounds 3 v);exact Nx.heap (W:=λb=>b=T) j n (λb o e=>if q:b=T then .inl q else .inr (.inl (a b o q e))) (λb e=>e▸B.off) (λ_ h=>nomatch h) ⟨⟨f.la,f.imm,f.new⟩,y5 g vs t i m ⟨⟨a _ _ (LV B.ne) X.get,X.cls,X.data,X.arg,X.tup,X.le,X.rs⟩,.inr (y3 T _ _ ⟨B.at_,B.ne,Lq (MA (·.setIfInBounds 3 v)) B.get (MQ d),d,by rw[Array.size_setIfInBounds];exact B.size,⟨B.off.la,B.off.imm,B.off.new⟩⟩)⟩⟩
theorem gm {Q:Unit->Shared->Prop}{E:Value->Shared->Prop}(a:z.c.fs=z.env::outer) (b:z.env.frame=Vr L) (i:z.A.frames=Vr z.c.fs) (d:At cx z s0 x₀) (n:Nx cx z x₀ s y (dX nt z.c x₀ y ea kc args)) (h:∀w,Nx cx z x₀ s w (dX Vt z.c x₀ w ea kc args)->Q () w.S):Kq (Kr PR z.c.w) z.A (noteFrame (.ref ea) z.env) Q E y.S:=by
 refine aC λp e=>?_;obtain ⟨f,l,j,t,o,m,X,g⟩:=n.r;refine e ?_;unfold noteFrame;rw[b];refine g.elim (λg=>Kg (Ny X.get X.data g.2 (kT a b i d n h))) λ⟨T,oT,k,B⟩=>?_;refine Kg (Ny X.get X.data B.at_ ?_);show Kq _ _ (do
  if (<- Vl (.ref T) 3)==Lu L then return
  Nk (.ref T) 3 .none
  Nk (.ref ea) 1 (<- O1 (.ref T) (<- frameOf z.env) .none (Lu L) .none (<- U9 L _))) _ _ _
 refine Kg (Ny B.get B.data (Li B.size) ?_);split
 ·exact Ks (h y ⟨n.at_,n.adv,f,l,j,t,o,m,X,.inr (y3 T oT k B)⟩)
 ·exact Kg (Na B.get B.data B.size (kT a b i d (rm (v:=.none) d n f X B) h))
theorem fW {f:Option Addr}{Q:Unit->Shared->Prop}{E:Value->Shared->Prop}(a:At cx z s0 x₀) (n:Nx cx z x₀ s y (dX Vt z.c x₀ y ea kc args)) (h:∀w,Nx cx z x₀ s w (dX Vt z.c x₀ w ea kc args)->Q () w.S):Kq (Kr PR z.c.w) z.A (setFlight (.ref ea) f) Q E y.S:=by
 obtain ⟨b,j,g,t,k,m,X,d⟩:=n.r;refine d.elim (λe=>nomatch e.1) λ⟨T,oT,i,B⟩=>?_;unfold setFlight;refine Kg (Ny X.get X.data B.at_ ?_);exact Na B.get B.data B.size (h _ (rm a n b X B))
theorem s9 {Q:Unit->Shared->Prop}{E:Value->Shared->Prop}(o:Ok k cx z) (d:cx.comp=Vu) (b:At cx z s0 x₀) (n:Nx cx z x₀ s y (dX nt z.c x₀ y ea kc args)) (h:∀w,Nx cx z x₀ s w (dX Vt z.c x₀ w ea kc args)->Q () w.S):Kq (Kr PR z.c.w) z.A (U8 z.env (.ref ea)) Q E y.S:=by
 obtain ⟨L,outer,a,e⟩:=o.top d;unfold U8;exact Kg (gm a e o.frames b n λw m=>fW b m h)
abbrev Bx (c:Cn) (A:Lg) (env:Env) (E:Value->Shared->Prop):Value->Shared->Prop:=notedBy (Kr PR c.w) A env λe a=>Rv (Kr PR c.w) A env E e a
theorem vA {E:Value->Shared->Prop}(o:Ok k cx z) (i:cx.comp=Vu) (b:At cx z s0 x₀) (n:Nx cx z x₀ s y (dX nt z.c x₀ y ea kc args)) (h:∀w,Nx cx z x₀ s w (dX Vu z.c x₀ w ea kc args)->E (.ref ea) w.S):Bx z.c z.A z.env E (.ref ea) y.S:=by
 obtain ⟨L,outer,a,d⟩:=o.top i;refine gm a d o.frames b n λw m=>?_;obtain ⟨f,q,j,t,u,v,X,g⟩:=m.r;refine g.elim (λe=>nomatch e.1) λ⟨T,oT,p,B⟩=>?_;unfold Rv;refine Kg (Ny X.get X.data B.at_ ?_);rw[if_neg (show ¬((Nb T==Nm)=Vt) from L1)];exact fW b m λw l=>h w ⟨l.at_,l.adv,l.r.weak⟩
theorem eL.bindN {α β γ δ:Type}{e:X->δ->γ->Prop}{RB:X->β->α->Prop}{res:Res γ}{f:γ->St->Res α}{Q:β->Shared->Prop}{d:δ->Shared->Prop}{E:Value->Shared->Prop}(p:Adv z.c z.own x₀ x) (h:eL cx z RB x₀ (res.bind f) Q E) (o:Ok k cx z) (g:cx.comp=Vu) (a:At cx z s x) (q:∀a (s:St) b y,Nx cx z x s y (e y b a)->eL cx z RB x₀ (f a s) Q E->d b y.S):eL cx z e x res d (Bx z.c z.A z.env E):=h.bind p q λ_ _ _ _ _ n i=>vA o g a n i
theorem eL.noted {α β:Type}{RB:X->β->α->Prop}{res:Res α}{Q:β->Shared->Prop}{E:Value->Shared->Prop}(h:eL cx z RB x res Q E) (o:Ok k cx z) (b:cx.comp=Vu) (a:At cx z s x):eL cx z RB x res Q (Bx z.c z.A z.env E):=by
 cases res with
 | bad=>exact h
 | ok a s=>exact h
 | exn k d s=>exact λea y n=>vA o b a n λw=>h ea w
end
end
section
set_option linter.all false
noncomputable def p8 (f:Fl) (s:St) (k:St->Res Fl):Res Fl:=Fl.casesOn f (k s) (.ok .next s) (k s) λv=>.ok (.ret v) s
section
variable {k:Nat}{cx:Cx}{t:Kf}
noncomputable def oG (T:Ts k cx t) (r:Sr k) (body els:List Stmt):Nat->St->Res Fl
 | 0,_=>.bad
 | n+1,s=>(T.f s).bind λb s=>cond b (((r.xs cx body).f s).bind λf s=>p8 f s (oG T r body els n)) ((r.xs cx els).f s)
noncomputable def iS (r:Sr k) (cx:Cx) (t:Kf) (body els:List Stmt):List V->St->Res Fl
 | [],s=>(r.xs cx els).f s
 | v::vs,s=>(cP (dB cx t v) s).bind λa s=>((r.xs cx body).f ⟨eF a s.fr,s.st⟩).bind λf s=>p8 f s (iS r cx t body els vs)
end
section
variable {cx:Cx}{z:Z}{s s0:St}{x x₀ y w:X}{k:Nat}{t:Kf}{body els:List Stmt}{Q:QE->Shared->Prop}{E:Value->Shared->Prop}{vs:List V}{b:Addr}
theorem rW {f:Fl}{a:QE}{g:St->Res Fl}{P:Prop}(n:Nx cx z x₀ s y (RF z y a f)) (h:eL cx z (RF z) x₀ (p8 f s g) Q E) (c:eL cx z (RF z) x₀ (g s) Q E->P):match a with
  | .next=>P
  | .cont=>P
  | .brk=>Q .next y.S
  | .ret v=>Q (.ret v) y.S:=by
 have r:=n.r;cases f with
 | next=>obtain rfl:=r;exact c h
 | cont=>obtain rfl:=r;exact c h
 | brk=>obtain rfl:=r;exact h _ y ⟨n.at_,n.adv,fH⟩
 | ret v=>obtain ⟨b,rfl,rv⟩:=r;exact h _ y ⟨n.at_,n.adv,b,rfl,rv⟩
def HX (T:Ts k cx t) (r:Sr k) (body els:List Stmt) (z:Z) (Q:QE->Shared->Prop) (E:Value->Shared->Prop) (n:Nat) (S:Shared):Prop:=∃y s1,S=y.S/\At cx z s1 y/\eL cx z (RF z) y (oG T r body els n s1) Q E
noncomputable def Ew (T:Ts k cx t) (r:Sr k) (body els:List Stmt) (pos:Pos):Ex k cx (.While t body els pos):=⟨λs=>if cx.comp=Vu then oG T r body els 1000000 s else .bad,λ{z s x} o a=>aN.ite λd Q E h=>by
 refine wpAny_While (codeAny_whileLoop (HX T r body els z Q E) ?_ 1000000 (y2 x s (w3 rfl a h)));intro n _ c;obtain ⟨y,s1,rfl,ay,h⟩:=c;cases n with
 | zero=>exact h.elim
 | succ n=>
  refine T.ok o ay _ _ (h.bindN (.refl _ _ _) o d ay λb s2 i w m hz=>?_);obtain rfl:=show i=b from m.r
  cases i with
  | true=>
   refine (r.xs cx body).ok o m.at_ _ _ (eL.bindN m.adv hz o d m.at_ λf e p u l j=>?_);have:=rW (P:=∃m,m<n+1/\HX T r body els z Q E m u.S) (⟨l.at_,m.adv.trans l.adv,l.r⟩:Nx cx z y e u _) j λg=>⟨n,Mb _,y2 u e (w3 rfl l.at_ (g.adv (m.adv.trans l.adv)))⟩
   cases p<;>exact this
  | false=>exact (r.xs cx els).ok o m.at_ _ _ (eL.noted (hz.adv m.adv) o d m.at_)⟩
structure Walk (cx:Cx) (z:Z) (x₀:X) (it:Value) (t:Kf) (vs:List V) (J:Nat->X->Prop):Prop where
 keep:∀i s s' y w,J i y->Nx cx z x₀ s y True->Nx cx z y s' w True->J i w
 step:∀i d s y (Q:Option Value->Shared->Prop) (E:Value->Shared->Prop),J i y->Nx cx z x₀ s y True->vs[i]?=Vr d->
  (∀v S,(∀(Q:Unit->Shared->Prop) (E:Value->Shared->Prop),(∀w,Nx cx z x₀ s w (aZ z w v d)->J (i+1) w->Q () w.S)->Kq (Kr PR z.c.w) z.A (OC t it v) Q E S)->Q (Vr v) S)->Kq (Kr PR z.c.w) z.A (Qk it) Q E y.S
 stop:∀i s y (Q:Option Value->Shared->Prop) (E:Value->Shared->Prop),J i y->Nx cx z x₀ s y True->vs[i]?=Vs->(∀w,Nx cx z x₀ s w True->Q Vs w.S)->Kq (Kr PR z.c.w) z.A (Qk it) Q E y.S
def Ia (r:Sr k) (cx:Cx) (t:Kf) (body els:List Stmt) (z:Z) (x₀:X) (vs:List V) (J:Nat->X->Prop) (Q:QE->Shared->Prop) (E:Value->Shared->Prop) (n:Nat) (S:Shared):Prop:=∃y s1 i,i+n=vs.length/\S=y.S/\Nx cx z x₀ s1 y True/\J i y/\eL cx z (RF z) x₀ (iS r cx t body els (vs.drop i) s1) Q E
theorem vj {it:Value}{J:Nat->X->Prop}(r:Sr k) (o:Ok k cx z) (H:cx.comp=Vu) (N:cx.inH=Vu) (W:Walk cx z x₀ it t vs J) (L:Nx cx z x₀ s x True) (j:J 0 x) (h:eL cx z (RF z) x₀ (iS r cx t body els vs s) Q E):Mx (Kr PR z.c.w) z.A (.forLoop t it body els z.env) (λr C=>match r with | .ok f=>Q f C | .error e=>Rv (Kr PR z.c.w) z.A z.env E e C) x.S:=by
 refine codeAny_forLoop_any (Ia r cx t body els z x₀ vs J Q E) ?_ vs.length (y3 x s 0 (w5 (L2 _) rfl L j h));intro n _ b;obtain ⟨y,d,i,R,rfl,ny,jy,h⟩:=b;cases n with
 | zero=>
  rw[List.drop_eq_nil_of_le (by lia)] at h;exact W.stop i d y _ _ jy ny (Pb (by lia)) λw m=>(r.xs cx els).ok o m.at_ _ _ (eL.noted (h.adv m.adv) o H m.at_)
 | succ n=>
  have G:i<vs.length:=by lia
  rw[Mp G] at h;refine W.step i vs[i] d y _ _ jy ny (Kl G) λv S M=>M _ _ λw m O=>?_;change eL cx z (RF z) x₀ ((cP (dB cx t vs[i]) d).bind _) Q E at h;cases q:dB cx t vs[i] with
  | none=>rw[q] at h;exact h.elim
  | some U=>
   rw[q] at h;refine jw (o.hd N) m.at_ m.r q _ _ λ_ T a=>?_;refine (r.xs cx body).ok o a.at_ _ _ (eL.bindN (m.adv.trans a.adv) h o H a.at_ λf F I u l K=>?_);have p:=(m.adv.trans a.adv).trans l.adv;have:=rW (P:=∃m,m<n+1/\Ia r cx t body els z x₀ vs J Q E m u.S) (⟨l.at_,p,l.r⟩:Nx cx z x₀ F u _) K λg=>⟨n,Mb _,y3 u F (i+1) (w5 (by lia) rfl ⟨l.at_,p,trivial⟩ (W.keep _ _ _ _ _ O ⟨m.at_,m.adv,trivial⟩ ⟨l.at_,a.adv.trans l.adv,trivial⟩) g)⟩
   cases I<;>exact this
theorem Fresh.keep {c:Cn}{own:List Addr}{o:Obj}(f:Fresh x₀ y b) (e:y.h.get? b=Vr o) (p:Adv c own y w):Fresh x₀ w b:=⟨λm=>(p.ledN b m).elim f.la λa=>au (a.symm.trans e),λq d a=>(p.immN q d).elim (λm=>f.imm q m a) λh=>h.elim (λh=>au ((a▸h).symm.trans e)) λh=>f.la (a▸h),f.new⟩
theorem Fresh.same {o:Obj}(a:At cx z s0 x₀) (f:Fresh x₀ y b) (e:y.h.get? b=Vr o) (p:Adv z.c z.own y w):w.h.get? b=Vr o:=(p.keep b o e (λm=>(a.F.ownI b m).2.2.2.elim λo e=>au (f.new.symm.trans e)) f.la).elim id λm=>(a.H.frs.mem m.1).2.elim λo e=>au (f.new.symm.trans e.1)
noncomputable def sT:List String:=["enumerate","zip","dict_itemiterator","dict_reverseitemiterator","odict_iterator","itertools.zip_longest","itertools.pairwise"]
theorem hU {e:Lh}{A:Lg}{I:Addr}{v:Value}{S:Shared}{o:Obj}{us:Array Value}{T:String}{Q:Unit->Shared->Prop}{E:Value->Shared->Prop}(b:S.heap.get? I=Vr o) (d:o.cls=.type T) (a:o.data=.fields us) (c:sT.contains T=Vu) (h:Q () S):Kq (Kr PR e) A (OC t (.ref I) v) Q E S:=by
 unfold OC;cases t<;>first
  | exact Ks h
  | skip
 all_goals
  cases v<;>first
   | exact Ks h
   | skip
  refine Kg (TA b ?_);rw[d,a];show Kq _ _ (if (sT.contains T&&_)=Vt then _ else _) _ _ _;rw[c,QT,if_neg L1];exact Ks h
structure It (wd:Lh) (A:Lg) (imm:Imm) (I:Addr) (vs:List V) (R:Value->V->Prop) (fp:List Addr) (n:Nat) (P:Nat->Value->Prop) (St:Nat->Heap->Prop) (T:String):Prop where
 W:Q6 PR wd A I fp [I] n P St
 len:vs.length=n
 rv:∀i v d,P i v->vs[i]?=Vr d->R v d
 fp:∀b∈fp,b=I\/∃o,(b,o)∈imm
 obj:∀i h,St i h->∃o us,h.get? I=Vr o/\o.cls=.type T/\o.data=.fields us
 own:sT.contains T=Vu
theorem It.walk {I:Addr}{G:List Addr}{n:Nat}{P:Nat->Value->Prop}{St:Nat->Heap->Prop}{T:String}{a:Imm}{R:Value->V->Prop}(u:At cx z s0 x₀) (i:It z.c.w z.A a I vs R G n P St T) (F:∀p∈a,p∈x₀.imm) (O:∀v d,R v d->aZ z x₀ v d):Walk cx z x₀ (.ref I) t vs (λi y=>St i y.h/\Fresh x₀ y I/\i<=n) where
 keep:=λj s Y y w h n m=>by
  obtain ⟨o,K,e,_⟩:=i.obj _ _ h.1;exact ⟨i.W.frame j _ _ h.1 λb J o' x=>(i.fp b J).elim (λq=>by subst q;exact h.2.1.same u x m.adv) λq=>q.elim λo2 q=>by
   have r:=n.at_.H.immIn _ (n.adv.imm _ (F _ q));refine rp (Kd (x.symm.trans r)) ?_;exact m.at_.H.immIn _ (m.adv.imm _ (n.adv.imm _ (F _ q))),h.2.1.keep e m.adv,h.2.2⟩
 step:=λj d s y Q E h m g q=>by
  have C:j<n:=i.len▸(Kh.mp g).1;refine i.W.item j y.S Q E C h.1 λv h' tk N f l=>q v _ λQ' E' U=>?_;obtain ⟨o,K,L,r,M⟩:=i.obj _ _ f;have k:=Nx.heap (h':=h') (tk:=tk) (ex:=[]) (W:=λb=>b=I) u m (λb o e=>if q:b=I then .inl q else .inr (.inl (l b o (λm=>q (Kk.mp m)) e))) (λb e=>e▸h.2.1) (λ_ h=>nomatch h) trivial;exact hU L r M i.own (U (y.gr h' tk []) ⟨k.at_,k.adv,(O v d (i.rv j v d N g)).up k.adv⟩ (w3 f ⟨h.2.1.la,h.2.1.imm,h.2.1.new⟩ C))
 stop:=λj s y Q E h m g q=>by
  have e:j=n:=Oo h.2.2 (i.len▸K8.mp g);subst e;exact i.W.done y.S Q E h.1 λh' tk l=>q (y.gr h' tk []) (Nx.heap (W:=λb=>b=I) u m (λb o e=>if q:b=I then .inl q else .inr (.inl (l b o (λm=>q (Kk.mp m)) e))) (λb e=>e▸h.2.1) (λ_ h=>nomatch h) trivial)
end
end
section
set_option linter.all false
section
variable {wd:Lh}{cx:Cx}{z:Z}{s s0:St}{x x₀ y w:X}{k:Nat}{t:Kf}{vs:List V}{a b:Addr}{val:Value}{v:V}{d:D}{ds:List D}{R:Value->V->Prop}
def Bv (z:Z) (x:X) (vs:List V) (P:eZ Value):Prop:=∀(Q:Value->Shared->Prop) (E:Value->Shared->Prop),(∀o a n b St T,It z.c.w z.A x.imm x.h.objs.size vs (aZ z x) a n b St T->St 0 (x.h.push o)->o.isFreed=Vu->Q (.ref x.h.objs.size) {x.S with heap:=x.h.push o})->P Q E x.S
theorem oL {imm:Imm}{I a:Addr}{o:Obj}(m:(a,o)∈imm):∀b∈[I,a],b=I\/∃o,(b,o)∈imm:=λb c=>(Kw.mp c).imp id λc=>⟨o,by rw[Kk.mp c];exact m⟩
theorem pp {imm:Imm}{I:Addr}:∀b∈[I],b=I\/∃o,(b,o)∈imm:=λb a=>.inl (Kk.mp a)
theorem pu (I:Im x){o:Obj}(m:(a,o)∈x.imm):a≠x.h.objs.size:=L4 (LD (I _ m))
theorem eQ {o:Obj}(h:o.isFreed=Vu):(x.h.push o).get? x.h.objs.size=Vr o:=Kt _ h
theorem kA {α:Type}{f:α->V}{l:List α}{i:Nat}{d:V}(h:(l.map f)[i]?=Vr d):∃p,l[i]?=Vr p/\d=f p:=by
 rw[Kv] at h;exact (KY.mp h).imp λ_ h=>⟨h.1,h.2.symm⟩
theorem yC {us:List Value}(r:RDs z.c.w x.imm us ds) (i:Nat) (v:Value) (d:V) (b:us.toArray[i]?=Vr v) (e:(ds.map V.d)[i]?=Vr d):aZ z x v d:=by
 obtain ⟨g,a,rfl⟩:=kA e;obtain ⟨u,f,r⟩:=r.get a;rw[NY,f] at b;exact Kd b▸r
abbrev io (z:Z) (val:Value):eZ Value:=tr z (Rr val)
theorem qS (hh:z.A.handled=Vs) (I:Im x) (j:Gp z x val d) (N:items d=Vr ds):Bv z x (ds.map .d) (io z val):=cL N (λh=>j.onLst (P:=λval=>Bv z x (ds.map .d) (io z val)) h λ{a J n} m H r Q E q=>by
  have k:=aJ (I _ m);exact Qy k (q _ _ _ _ _ "list_iterator" ⟨Uf hh x.h.objs.size a (pu I m) J.toArray,by rw[Ke,Kz,r.length],yC r,oL m,λi h c=>c.1.imp λo e=>⟨_,e⟩,by decide⟩ ⟨⟨_,w3 (eQ rfl) rfl rfl⟩,k.push _⟩ rfl))
 λh=>cL h (λh=>j.onTup (P:=λval=>Bv z x (ds.map .d) (io z val)) h λ{a J n} m H r Q E q=>by
  have k:=dn (I _ m);exact Qi k (q _ _ _ _ _ "tuple_iterator" ⟨Q6.tuple hh x.h.objs.size a (pu I m) J.toArray,by rw[Ke,Kz,r.length],yC r,oL m,λi h c=>c.1.imp λo e=>⟨_,e⟩,by decide⟩ ⟨⟨_,w3 (eQ rfl) rfl rfl⟩,k.push _⟩ rfl))
 λh=>cL h (λh=>aA h λp s h=>bD h λC g=>j.onRng (P:=λval=>Bv z x (ds.map .d) (io z val)) s λ{a t u w} m Q E q=>by
  obtain rfl:=Kd g;refine wpAny_pyIter_range (I _ m) (kS C.1 C.2.1 C.2.2) (q _ _ _ _ _ "range_iterator" ⟨Q6.range hh x.h.objs.size p.1 1 (p.2-p.1).toNat,by rw[Ke,dP],λi v d y f=>?_,pp,λi h c=>y2 _ _ (w3 c rfl rfl),by decide⟩ ?_ rfl)
  ·obtain ⟨t,rfl⟩:=y;obtain ⟨d,b,rfl⟩:=kA f;have K:=(Kh.mp b).1;rw[dP] at K;refine rq (Kd ((jl _ _ _ K).symm.trans b)) ?_;rw[Uw];exact RD.int _ _
  ·rw[ji C.2.1];have e:IsRangeIter (x.h.push {cls:=.type "range_iterator",data:=.fields #[Lu p.1,Lu (p.2-p.1).toNat,Lu 1]}) x.h.objs.size p.1 (p.2-p.1).toNat 1:=eQ rfl;rw[show p.1+((0:Nat):Int)*1=p.1 by lia];exact e)
 λh=>cL h (λh=>aV h λO s g=>j.onBytes (P:=λval=>Bv z x (ds.map .d) (io z val)) s λt H Q E q=>by
  subst g;refine S9 (q _ _ _ _ _ "bytes_iterator" ⟨U0 hh x.h.objs.size _ t,by simp[il],λi v d y f=>?_,pp,λi h c=>c.imp λo e=>⟨_,e⟩,by decide⟩ ⟨_,w3 (eQ rfl) rfl rfl⟩ rfl);obtain ⟨F,u,G,rfl⟩:=y;obtain ⟨d,b,rfl⟩:=kA f;unfold il at b;rw[Kv,Lk,G] at b;refine rq (Kd b) ?_;exact RD.int _ _)
 λh=>aV h λl s g=>j.onStr (P:=λval=>Bv z x (ds.map .d) (io z val)) s λt H Q E q=>by
  subst g;have L:∀i v d,SignAt l i v->((l.cps.toList.map λF=>D.str ⟨#[F]⟩).map V.d)[i]?=Vr d->aZ z x v d:=λi v d y f=>by
   obtain ⟨F,u,G,rfl⟩:=y;obtain ⟨d,b,rfl⟩:=kA f;rw[Kv,Lk,G] at b;obtain rfl:=Kd b;exact RD.str _ _ (Ky rfl)
  cases M:l.cps.all (· < 128)
  ·exact wpAny_pyIter_wide M (q _ _ _ _ _ "str_iterator" ⟨Q6.strWide hh x.h.objs.size l t,by simp,L,pp,λi h c=>c.imp λo e=>⟨_,e⟩,by decide⟩ ⟨_,w3 (eQ rfl) rfl rfl⟩ rfl)
  ·exact wpAny_pyIter_ascii M (q _ _ _ _ _ "str_ascii_iterator" ⟨Q6.strAscii hh x.h.objs.size l t,by simp,L,pp,λi h c=>c.imp λo e=>⟨_,e⟩,by decide⟩ ⟨_,w3 (eQ rfl) rfl rfl⟩ rfl)
theorem DK {α:Type}{R:Value->α->Prop}{kvs:List (Int×Value)}{ds:List (Int×α)}(h:RK R kvs ds):∀{i:Nat}{k:Int}{v:Value}{p:Int×α},kvs[i]?=Vr (k,v)->ds[i]?=Vr p->p.1=k/\R v p.2:=h.ind (M:=λ(kvs:List (Int×Value)) (ds:List (Int×α))=>∀{i:Nat}{k:Int}{v:Value}{p:Int×α},kvs[i]?=Vr (k,v)->ds[i]?=Vr p->p.1=k/\R v p.2) (λ{_ _ _ _} e _=>nomatch e) λ{_ _ _ _ _} r _ b {i _ _ _} e a=>match i,e,a with
  | 0,e,a=>by cases e;cases a;exact ⟨rfl,r⟩
  | i+1,e,a=>b (i:=i) e a
theorem zr {o:Obj}{kvs:List (Int×Value)}{ls:List (Int×Nat)}(hh:z.A.handled=Vs) (I:Im x) (m:(a,o)∈x.imm) (f:o.IsDictOf (Ld PR z.c.w) kvs) (g:uh x.ρ kvs ls) (hs:(a==MH)=Vu):Bv z x (ls.map λp=>.d (.int p.1)) (io z (.ref a)):=λQ E q=>by
 have s:x.h.DictOf (Ld PR z.c.w) a kvs:=LO.mpr ⟨o,I _ m,f⟩;obtain ⟨n,b⟩:=s.dictAt;refine wpAny_pyIter_dict hs b (q _ _ _ _ _ "dict_keyiterator" ⟨Q6.dictKeys hh x.h.objs.size a (pu I m) kvs n,by rw[Ke,RK.length g],λi v d r f=>?_,oL m,λi h y=>y.1.imp λo e=>⟨_,e⟩,by decide⟩ ⟨⟨_,w3 (eQ rfl) rfl rfl⟩,b.push _⟩ rfl);obtain ⟨k,u,e,l⟩:=r;obtain ⟨p,j,rfl⟩:=kA f;obtain ⟨t,rfl⟩:=PS l;rw[(DK g e j).1];exact RD.int _ _
theorem xO {o:Obj}{kvs:List (Int×Value)}{ls:List (Int×Nat)}(hh:z.A.handled=Vs) (I:Im x) (n:(b,Iy a)∈x.imm) (m:(a,o)∈x.imm) (g:o.IsDictOf (Ld PR z.c.w) kvs) (j:uh x.ρ kvs ls):Bv z x (ls.map λp=>.loc p.2) (io z (.ref b)):=λQ E q=>by
 have t:x.h.DictOf (Ld PR z.c.w) a kvs:=LO.mpr ⟨o,I _ m,g⟩;obtain ⟨r,f⟩:=t.dictAt;refine wpAny_pyIter_values ⟨_,w3 (I _ n) rfl rfl⟩ f (q _ _ _ _ _ "dict_valueiterator" ⟨Q6.dictValues hh x.h.objs.size a (pu I m) kvs r,by rw[Ke,RK.length j],λi v d s g=>?_,oL m,λi h u=>u.1.imp λo e=>⟨_,e⟩,by decide⟩ ⟨⟨_,w3 (eQ rfl) rfl rfl⟩,f.push _⟩ rfl);obtain ⟨k,e⟩:=s;obtain ⟨p,l,rfl⟩:=kA g;exact (DK j e l).2
noncomputable def SObj.walk (l:Nat) (st:List SObj) (f:Int×Nat->V) (o:SObj):Option (List V×List SObj):=(o.objs0?.map λkvs=>(kvs.map f,st.set l (.fobjs kvs))).or (o.fobjs?.map λkvs=>(kvs.map f,st))
noncomputable def cS (st:List SObj) (v:V):Option (List V×List SObj):=(v.d?.bind λd=>(items d).map λl=>(l.map .d,st)).or ((v.loc?.bind λl=>(st[l]?).bind λo=>(o.list?.map λds=>(ds.map .d,st.set l .gone)).or (o.walk l st λp=>.d (.int p.1))).or (v.vals?.bind λl=>(st[l]?).bind (SObj.walk l st λp=>.loc p.2)))
theorem q0 {l:Nat}{ft:List (Addr×Obj)}{o:SObj}{f:Int×Nat->V}{p:List V×List SObj}(B:Bs z.c) (d:At cx z s x) (j:Thing z.c s.st x l a ft o) (h:o.walk l s.st f=Vr p):∃y ls o kvs,y.S=x.S/\Nx cx z x ⟨s.fr,p.2⟩ y True/\y.ρ=x.ρ/\p.1=ls.map f/\(a,o)∈y.imm/\o.IsDictOf (Ld PR z.c.w) kvs/\(a==MH)=Vu/\uh y.ρ kvs ls:=cL h (λh=>aV h λls e n=>by
  obtain ⟨q,b,k,_,g,hs,i⟩:=d.H.obj0 B j e;subst k n;exact ⟨x.frz l (a,q),ls,q,b,rfl,d.frz (so:=.fobjs ls) j.led (λv t=>by
   refine rp (Kd (t.symm.trans j.rho)) ?_;exact ⟨rfl,y2 q b (w4 (.head _) g hs i)⟩) trivial,rfl,rfl,.head _,g,hs,i⟩)
 λh=>aV h λls e n=>by
  obtain rfl:=mI e;obtain ⟨_,o,kvs,m,r,hs,u⟩:=j.foot;refine rq n ?_;exact y4 x ls o kvs (w7 rfl (d.go trivial) rfl rfl m r ⟨hs,u⟩)
def Bp (cx:Cx) (z:Z) (x:X) (fr:List (Str×V)) (p:List V×List SObj) (val:Value):Prop:=∃y,y.S=x.S/\Nx cx z x ⟨fr,p.2⟩ y True/\Bv z y p.1 (io z val)
theorem ur {p:List V×List SObj}(B:Bs z.c) (hh:z.A.handled=Vs) (f:At cx z s x) (u:aZ z x val v) (h:cS s.st v=Vr p):Bp cx z x s.fr p val:=cL h (λh=>aA h λd k h=>aV h λl g t=>t▸⟨x,w3 rfl (f.go trivial) (qS hh f.H.immIn (u.onD k) g)⟩) λh=>cL h (λh=>f.H.onL (P:=Bp cx z x s.fr p) u h λ{l a w o} _ q h=>cL h (λh=>aV h λds e t=>by
   obtain rfl:=eO e;obtain ⟨F,n,rfl,ho,hz,rs⟩:=q.list f.H;have n:=f.frz (so:=.gone) (r':=True) q.led (λ_ _=>.inl rfl) trivial;refine rq t ?_;exact ⟨x.frz l (a,lstO F _),w3 rfl n (qS (d:=.lst ds) hh n.at_.H.immIn (RD.lst (.head _) hz (mD rs)) rfl)⟩)
  λh=>by
   obtain ⟨y,J,o,j,e,n,_,g,m,i,hs,r⟩:=q0 B f q h;exact ⟨y,w3 e n (g▸zr hh n.at_.H.immIn m i r hs)⟩)
 λh=>aA h λl k h=>aA h λo g E=>by
  obtain rfl:=BR k;obtain ⟨b,a,rfl,mv,hr⟩:=u;obtain ⟨K,w,C,G,I⟩:=f.H.foot l o g;obtain rfl:=Kd (hr.symm.trans C);obtain ⟨y,J,o,j,e,n,_,g,m,i,hs,r⟩:=q0 B f (⟨g,C,G,I⟩:Thing z.c s.st x l a w o) E;exact ⟨y,w3 e n (g▸xO hh n.at_.H.immIn (n.adv.imm _ mv) m i r)⟩
end
end
section
set_option linter.all false
section
variable {prog:Program}{w:Lh}{A:Lg}{E:Value->Shared->Prop}{s:Shared}
theorem qj {it t:Addr}{i:Nat}{items:Array Value}{o:Obj}(b:s.heap.get? it=Vr o) (j:o.cls=.type "tuple_iterator") (a:o.data=.fields #[.ref t,.int i 0]) (g:s.heap.IsTuple t items){Q:Value->Shared->Prop}(h:Kq (Kr prog w) A.in1 (match items[i]? with
   | some x=>do Nk (.ref it) 1 (Lu ((i:Int)+1));ret x
   | none=>do rule (toString "tuple_iterator.__next__"++toString ".end");Nk (.ref it) 0 .none;OI) (λd f=>∃v,d=.done (.ret v)/\Kq (Kr prog w) A (pure v) Q E f) E s):Kq (Kr prog w) A (Pl (.ref it)) Q E s:=by
 have hit:s.heap.IsTupleIter it t i:=⟨o,w3 b j a⟩
 obtain ⟨l,c,_,k,e⟩:=g;unfold Pl;refine Kg (NT (name:=Mh "__next__") hit.typeIs PE (MR PE hit.typeIs PySem.F.entry_tuple_iterator_next ?_ (PySem.F.args_tuple_iterator_next_1 _)));show Kq _ _ (Vl (.ref it) 0 >>= _) _ _ s;refine Kg (Ny b a (x:=.ref t) rfl ?_);rw[if_neg (show ¬((Nb t==Nm)=Vt) from L1)];refine Kg (Ny b a (x:=.int i 0) rfl ?_);exact Kg (PP c e h)
theorem lf (hh:A.handled=Vs) (it t:Addr) (j:t≠it) (items:Array Value):Draws prog w A it [it,t] items.size (λi v=>items[i]?=Vr v) (λi h=>h.IsTupleIter it t i/\h.IsTuple t items) where
 live:=λ_ _ b=>let ⟨o,c,_⟩:=b.1;⟨o,c⟩
 frame:=λ_ _ _ b k=>⟨b.1.at λo e=>k it (by simp) o e,b.2.at λo e=>k t (by simp) o e⟩
 item:=λi s Q E p b n=>by
  obtain ⟨o,c,f,d⟩:=b.1;refine qj c f d b.2 ?_;have g:items[i]?=Vr items[i]:=by simp[p]
  rw[g];refine Kg (Na c d (by simp) (Ks ⟨_,rfl,Ks (n _ _ s.toks g ⟨?_,b.2.extBut (LX ..).extBut j⟩ (LX ..))⟩));exact ⟨_,Lq _ c (MQ (MN d _)),(SO ..).trans f,by
   rw[MN d];simp[Lu]⟩
 done:=λs Q E b l=>by
  obtain ⟨o,c,f,d⟩:=b.1;refine qj c f d b.2 ?_;have g:items[items.size]?=none:=by simp
  rw[g];refine Kg (Qh (Kg (Na c d (by simp) ?_)));refine Kg ?_;simp only[UE,Pd];refine Kg (LY ?_ (by size_fits));refine Kg (m:=N3 _ _) (MP (a:=Nm) (by first | rfl | (simp only[N3];rfl)) ?_);refine LY ?_ (by size_fits);unfold raiseNew;refine Kg (wpAny_handled ?_);rw[show A.in1.handled=Vs from hh];refine Kg (Ks (wpAny_throw ?_));exact l _ _ (((LX ..).extBut.push _).push _) ⟨_,Kt _ rfl,rfl⟩
noncomputable abbrev xW (t:Addr):Obj:={cls:=.type "tuple_iterator",data:=.fields #[.ref t,.int 0 0]}
noncomputable abbrev Ec (it:Addr):Obj:={cls:=.type "enumerate",data:=.fields #[.none,.bool Vu,.ref it,Lu 0,.none,.none]}
theorem Eu {α:Type}{M:Model}{A:Lg}{a:α}{Q:α->Shared->Prop}{E:Value->Shared->Prop}{S:Shared}(h:∀b,Q b S):Kq M A (pure a) Q E S:=Ks (h a)
theorem Ap (l:Addr) (items:List Value) (n:Nat):Meets (Mf.«enumerate.__new__» ⟨[.type "enumerate",.ref l],[]⟩) (λ_ R s=>s.heap.get? l=Vr (dU items n)/\R (.ok (.ret (.ref (s.heap.push (xW l)).objs.size))) {s with heap:=(s.heap.push (xW l)).push (Ec s.heap.objs.size)}):=.of_wp λprog w A R s h=>by
  obtain ⟨f,g,d,i,j⟩:=s;obtain ⟨a,h⟩:=h;have c:=sub_enumerate;have e:Heap.IsTuple (Shared.heap ⟨f,g,d,i,j⟩) l items.toArray:=⟨_,w3 a rfl ⟨n,rfl⟩⟩
  wp_walk using ND a
  refine wpAny_stack_any λk=>Eu λb=>?_;cases b
  ·wp_walk using ND a,Qi e
   exact ⟨_,rfl,h⟩
  ·wp_walk using ND a,Qi e
   exact ⟨_,rfl,h⟩
theorem xj {l:Addr}{items:List Value}{n:Nat}{Q:Value->Shared->Prop}(b:s.heap.get? l=Vr (dU items n)) (h:Q (.ref (s.heap.objs.size+1)) {s with heap:=(s.heap.push (xW l)).push (Ec s.heap.objs.size)}):Kq (Kr prog w) A (call (.type "enumerate") [.ref l]) Q E s:=by
 refine callType_new PySem.F.called_enumerate (by decide) (PySem.F.typeCall_enumerate_1 _) (PySem.F.newCall_enumerate_1 _) (λa=>PySem.F.args_object_init_2 a _) PySem.F.entry_enumerate_new (Ap l items n) ⟨b,?_⟩;have c:(s.heap.push (xW l)).objs.size=s.heap.objs.size+1:=LK ..;refine ⟨⟨_,Kt _ rfl,rfl⟩,?_⟩;rw[c];exact h
end
noncomputable def pC (e:Kf):Bool:=match e with
 | .Set _ _ _=>Vt
 | _=>Vu
noncomputable def k0 (i:Nat):List D->List V
 | []=>[]
 | d::ds=>.d (.tup [.int (i:Int),d])::k0 (i+1) ds
section
variable {wd:Lh}{cx:Cx}{z:Z}{s s0:St}{x x₀ y w:X}{k:Nat}{t:Kf}{vs:List V}{a b e it l:Addr}{val:Value}{v:V}{d:D}{ds:List D}{us:List Value}
theorem kG:∀{ds:List D}{j i:Nat}{d:V},(k0 j ds)[i]?=Vr d->∃u,ds[i]?=Vr u/\d=.d (.tup [.int ((j+i:Nat):Int),u])
 | [],_,_,_,h=>au (SJ.symm.trans h)
 | v::vs,j,0,d,h=>⟨v,rfl,(Kd h).symm⟩
 | v::vs,j,i+1,d,h=>(kG (ds:=vs) (j:=j+1) (i:=i) h).imp λu h=>⟨h.1,h.2.trans (by rw[Nat.succ_add,Nat.add_succ])⟩
theorem wW:∀(ds:List D) (j:Nat),(k0 j ds).length=ds.length:=@lr _ _ (@λ_=>rfl) (λv vs a=>(@λj=>congrArg Np (a (j+1))))
theorem IX {P:Addr->Prop}{a b:Addr}(g:P a) (f:P b):∀d∈[a,b],P d:=λd c=>(Kw.mp c).elim (λe=>e▸g) λc=>Kk.mp c▸f
structure EnJ (x₀:X) (e it l:Addr) (us:List Value) (i:Nat) (y:X):Prop where
 en:∃old,IsEnum y.h e it i old
 at_:y.h.IsTupleIter it l i/\y.h.IsTuple l us.toArray
 oe:Fresh x₀ y e
 oi:Fresh x₀ y it
 le:i<=us.length
theorem wV {n:Nat}{es:List Kf}{ct:Nat}{pos:Pos}(K:At cx z s0 x₀) (hh:z.A.handled=Vs) (m:(l,dU us n)∈x₀.imm) (rs:RDs z.c.w x₀.imm us ds) (x:e≠it) (G:e≠l) (t:l≠it):Walk cx z x₀ (.ref e) (.Tuple es ct pos) (k0 0 ds) (EnJ x₀ e it l us) where
 keep:=λi s s' y w j r k=>by
  refine aC λR a=>?_;obtain ⟨v,F⟩:=j.en;obtain ⟨oi,C,_⟩:=j.at_.1;refine a ?_;refine ⟨⟨v,j.oe.same K F k.adv⟩,⟨j.at_.1.at λo e=>j.oi.same K e k.adv,j.at_.2.at λo e=>?_⟩,j.oe.keep F k.adv,j.oi.keep C k.adv,j.le⟩;obtain rfl:=Kd (e.symm.trans (r.at_.H.immIn _ (r.adv.imm _ m)));exact k.at_.H.immIn _ (k.adv.imm _ (r.adv.imm _ m))
 step:=λi d s y Q E j r L q=>by
  refine aC λR a=>?_;obtain ⟨u,hu,rfl⟩:=kG L;rw[L2] at q;obtain ⟨v,F⟩:=j.en;refine a ?_;have hl:=rs.length;have C:i<us.toArray.size:=by have:=(Kh.mp hu).1;rw[Kz];walk_at "n"
  refine wpAny_pyNext_enum_itemD (lf (A:=z.A.in1) hh it l t us.toArray) F j.at_ C x (λm=>IX (P:=λb=>e≠b) x G e m rfl) λJ h' tk T ho hs hT hz kk=>q _ _ λQ' E' q'=>?_;refine wpAny_letOwnedTupleGo_enum ho λN Y g=>?_;have U:y.h.get? y.h.objs.size=none:=bF _;have Te:y.h.objs.size≠e:=λq=>au ((q▸U).symm.trans F);have O:N.get? y.h.objs.size=Vr (dU [.int i tk,J] 0):=g.extBut _ _ Te hT;refine aC λR a=>?_;obtain ⟨xv',M,rx⟩:=rs.get hu;obtain rfl:J=xv':=Kd (T.symm.trans (gC M));obtain ⟨o3,e3,_⟩:=j.at_.1;refine a ?_;have k:=Nx.heap (h':=N) (tk:=tk+1) (ex:=[(y.h.objs.size,dU [.int i tk,J] 0)]) (W:=λb=>b=e\/b=it) (r':=aZ z (y.gr N (tk+1) [(y.h.objs.size,dU [.int i tk,J] 0)]) (.ref y.h.objs.size) (.d (.tup [.int (i:Int),u]))) K r (λb o f=>if q:b=e\/b=it then .inl q else .inr (.inl (g.extBut b o (not_or.mp q).1 (kk b o (not_or.mp q).1 (λm=>q (.inr m)) f)))) (λb h=>h.elim (λe=>e▸j.oe) λe=>e▸j.oi) (λp hp=>by rw[Kk.mp hp];exact ⟨O,U⟩) (RD.tup (.head _) (Ky rfl) (.cons (.int _ _) (.cons (rx.mono λq I=>.tail _ (r.adv.imm q I)) .nil)));exact q' _ k ⟨⟨_,Y⟩,⟨hs.1.at λo f=>g.extBut _ _ (LV x) f,hs.2.at λo f=>g.extBut _ _ (LV G) f⟩,⟨j.oe.la,λq I=>(Kw.mp I).elim (λf=>by rw[f];exact Te) (j.oe.imm q),j.oe.new⟩,⟨j.oi.la,λq I=>(Kw.mp I).elim (λf=>by rw[f];exact λq2=>au ((show y.h.objs.size=it from q2)▸U |>.symm.trans e3)) (j.oi.imm q),j.oi.new⟩,by rw[Kz] at C;exact C⟩
 stop:=λi s y Q E j r L q=>by
  refine aC λR a=>?_;obtain ⟨v,F⟩:=j.en;refine a ?_;have hl:=rs.length;have C:i=us.toArray.size:=by
   have:=K8.mp L;rw[wW] at this;have:=j.le;rw[Kz];walk_at "n"
  subst C;refine wpAny_pyNext_enum_endD (lf (A:=z.A.in1) hh it l t us.toArray) F j.at_ λh' T=>?_;exact q _ (Nx.heap (h':=h') (tk:=y.S.toks) (ex:=[]) (W:=λb=>b=e\/b=it) K r (λb o f=>if q:b=e\/b=it then .inl q else .inr (.inl (T b o (λm=>q (.inr m)) f))) (λb h=>h.elim (λe=>e▸j.oe) λe=>e▸j.oi) (λ_ h=>nomatch h) trivial)
theorem pI {it:Kf}{env:Env}(h:pC it=Vu) (v:Value):foldedSetIterable it env v=pure v:=by cases it<;>first | rfl | cases h
end
section
variable {k:Nat}{cx:Cx}(r:Sr k) (t it:Kf) (body els:List Stmt) (pos:Pos)
abbrev H0 (z:Z) (t:Kf) (body els:List Stmt) (it:Value) (Q:QE->Shared->Prop) (E:Value->Shared->Prop) (S:Shared):Prop:=Mx (Kr PR z.c.w) z.A (.forLoop t it body els z.env) (λr a=>match r with | .ok f=>Q f a | .error e=>Rv (Kr PR z.c.w) z.A z.env E e a) S
theorem CZ {z:Z}{s:St}{x:X}{vs:List V}{val:Value}{Q:QE->Shared->Prop}{E:Value->Shared->Prop}(o:Ok k cx z) (f:cx.comp=Vu) (g:cx.inH=Vu) (a:At cx z s x) (i:Bv z x vs (io z val)) (h:eL cx z (RF z) x (iS r cx t body els vs s) Q E):Kq (Kr PR z.c.w) z.A (Rr val) (H0 z t body els · Q E) E x.S:=i _ _ λb j n l St T i d _=>by
  have e:=a.kp (h':=x.h.push b) (tk:=x.S.toks) (ex:=[]) (aM _ _) (λ_ h=>nomatch h) trivial;exact vj (x:=x.gr (x.h.push b) x.S.toks []) r o f g (i.walk a (λ_ h=>h) λ_ _ h=>h) e (w3 d (fV (ex:=[]) a.H (.refl _ z.own _) (λ_ h=>nomatch h)) (LE _)) h
noncomputable def FF:Ex k cx (.For t it body els pos):=⟨λs=>if cx.comp=Vu/\cx.inH=Vu/\pC it=Vu then ((ek r cx it).f s).bind λv s=>optE (cS s.st v) .bad λp=>iS r cx t body els p.1 ⟨s.fr,p.2⟩ else .bad,λ{z s x} o a=>aN.ite λc Q E h=>
 wpAny_For ((ek r cx it).ok o a _ _ (h.bind (.refl _ _ _) (λv s1 val y n b=>by
  cases d:cS s1.st v with
  | none=>rw[d] at b;exact b.elim
  | some p=>
   rw[d] at b;obtain ⟨g,e,m,i⟩:=ur o.B (o.hd c.2.1) n.at_ n.r d;exact e▸CZ r t body els o c.1 c.2.1 m.at_ i (b.adv (n.adv.trans m.adv))) λ_ _ _ _ y n hz=>hz y n)) (pI c.2.2)⟩
noncomputable def D5 (es:List Kf) (M:Nat) (p:Pos) (f:Str) (I:Pos) (e:Kf) (j:Pos):Ex k cx (.For (.Tuple es M p) (.Call (.Name f I) [e] [] j) body els pos):=⟨λs=>if cx.comp=Vu/\cx.inH=Vu/\cx.names.lookup f=Vr .globalImplicit/\bb e=Vs then optE ((bY f ib).bind D.bi?) .bad λb=>if b.eq .enumerate=Vt then ((r.ev cx e).f s).bind λv s=>optE (v.d?.bind D.tup?) .bad λds=>iS r cx (.Tuple es M p) body els (k0 0 ds) s else .bad else .bad,λ{z s x} o a=>aN.ite λt=>by
 cases N:(bY f ib).bind D.bi? with
 | none=>exact .bad
 | some b=>
  refine aN.ite λu Q E h=>aA N λd e1 U=>?_;obtain rfl:b=.enumerate:=by cases b<;>first | rfl | cases u
  refine aC λR g=>?_;obtain ⟨fv,K,Y⟩:=jX (pos:=I) o.B a t.2.2.1 e1;refine g ?_;rw[kh U] at K;obtain rfl:=show fv=.type "enumerate" from K.view
  refine wpAny_For (gG (Y _ _ (fu (P:=λh=>z.c.hb.StaysIn h) rfl (jR .enumerate) ?_))) (pI rfl);rw[fm t.2.2.2];refine (r.ev cx e).ok o a _ _ (h.bind (.refl _ _ _) (λv s1 val y n A=>⟨n.at_.H.base,?_⟩) λ_ _ _ _ y n hz=>hz y n);cases F:v.d?.bind D.tup? with
  | none=>rw[F] at A;exact A.elim
  | some ds=>
   rw[F] at A;refine aC λR g=>?_;obtain ⟨l,us,m,rfl,hm,hz,rs⟩:∃l us m,val=.ref l/\(l,dU us m)∈y.imm/\us.length<=16777216/\RDs z.c.w y.imm us ds:=aA F λd e3 e4=>RD.onTup (P:=λval=>∃l us m,val=.ref l/\(l,dU us m)∈y.imm/\us.length<=16777216/\RDs z.c.w y.imm us ds) (n.r.onD e3) e4 λm hz r=>y3 _ _ _ (w4 rfl m hz r);refine g ?_;have G:=n.at_.H.immIn _ hm;have hn:y.h.get? y.h.objs.size=none:=bF _;have C:(y.h.push (xW l)).objs.size=y.h.objs.size+1:=LK ..;have u:((y.h.push (xW l)).push (Ec y.h.objs.size)).get? (y.h.objs.size+1)=Vr (Ec y.h.objs.size):=C▸Kt _ rfl;have hit:((y.h.push (xW l)).push (Ec y.h.objs.size)).get? y.h.objs.size=Vr (xW l):=KM _ (Kt _ rfl);have J:Kp y.h ((y.h.push (xW l)).push (Ec y.h.objs.size)):=λb o e=>aM _ _ _ _ (aM _ _ _ _ e);have L:l<y.h.objs.size:=LD G;have T:=n.at_.kp (h':=(y.h.push (xW l)).push (Ec y.h.objs.size)) (tk:=y.S.toks) (ex:=[]) J (λ_ h=>nomatch h) trivial;have H:=n.at_.H;refine xj G (wpAny_pyIter_enum (it:=y.h.objs.size) (i:=0) (old:=.none) u ?_);exact vj (x₀:=y) (x:=y.gr ((y.h.push (xW l)).push (Ec y.h.objs.size)) y.S.toks []) r o t.1 t.2.1 (wV n.at_ (o.hd t.2.1) hm rs (OT _) (O5 (Ml L)) (L4 L)) T ⟨⟨.none,u⟩,⟨⟨_,w3 hit rfl rfl⟩,⟨_,w3 (J _ _ G) rfl ⟨m,rfl⟩⟩⟩,⟨λm=>(H.laIn m).elim λo e=>absurd (LD e) (N5 (MX _)),λq O e=>absurd (LD (e▸H.immIn q O)) (N5 (MX _)),KV (MX _)⟩,fV (ex:=[]) H (.refl _ z.own _) (λ_ h=>nomatch h),LE _⟩ (A.adv n.adv)⟩
end
end
section
set_option linter.all false
section
variable {c:Cn}{cx:Cx}{env:Env}{own:List Addr}{x x₀ y z:X}{A:Lg}{s:St}{st:List SObj}{fr outF:List (Str×V)}{names:List (Str×LM)}{cl:List (Str×Addr)}
theorem tR:∀{names:List (Str×LM)}{k:Nat}{a b:List (Str×Addr)},NF k names (a++b)=NF k names a++b
 | [],_,_,_=>rfl
 | (n,c)::r,k,a,b=>by
  unfold NF;split
  ·exact tR (a:=(n,k)::a)
  ·exact tR
theorem tT {p:Str×Addr}:∀{names:List (Str×LM)}{k:Nat}{acc:List (Str×Addr)},p∈acc->p∈NF k names acc
 | [],_,_,h=>h
 | (n,a)::r,k,acc,h=>by
  unfold NF;split
  ·exact tT (.tail _ h)
  ·exact tT h
theorem pY {n:Str}:∀{names:List (Str×LM)}{k:Nat}{acc:List (Str×Addr)},(n,.cell)∈names->∃a,(n,a)∈NF k names acc
 | (m,b)::r,k,acc,h=>by
  unfold NF;refine (Kw.mp h).elim (λe=>?_) λh=>?_
  ·cases e;exact ⟨k,tT (.head _)⟩
  ·split
   ·exact pY h
   ·exact pY h
theorem pZ {p:Str×Addr}:∀{names:List (Str×LM)}{k:Nat}{acc:List (Str×Addr)},p∈NF k names acc->p∈acc\/(p.1,.cell)∈names
 | [],_,_,h=>.inl h
 | (n,b)::r,k,acc,h=>by
  unfold NF at h;split at h
  ·rename_i a;exact (pZ h).elim (λh=>(Kw.mp h).elim (λe=>.inr (by rw[e,eq_of_beq a];exact .head _)) .inl) λh=>.inr (.tail _ h)
  ·exact (pZ h).imp id (.tail _)
theorem kB {β:Type}{n:Str}{a:β}:∀{l:List (Str×β)},(n,a)∈l->∃d,l.lookup n=Vr d
 | (m,b)::r,h=>by
  rw[MK];cases c:n==m with
  | true=>exact ⟨b,rfl⟩
  | false=>exact kB ((Kw.mp h).elim (λe=>by cases e;rw[beq_self_eq_true] at c;cases c) id)
structure FrIn (c:Cn) (names:List (Str×LM)) (cl:List (Str×Addr)) (outF:List (Str×V)) (x:X):Prop where
 fn:∀p∈names,names.lookup p.1=Vr p.2
 out:∀n v,get n outF=Vr v->names.lookup n=Vr .free
 fre:∀n,names.lookup n=Vr .free->∃a o val,cl.lookup n=Vr a/\x.h.get? a=Vr o/\o.data=.cell val/\a∉x.la/\∀v,get n outF=Vr v->∃u,val=Vr u/\RV c.w x.ρ x.imm u v
 inj:∀n n' a,names.lookup n=Vr .free->names.lookup n'=Vr .free->cl.lookup n=Vr a->cl.lookup n'=Vr a->n=n'
structure EnvIs (names:List (Str×LM)) (L:Addr) (cells:List (Str×Addr)) (env:Env):Prop where
 kind:env.scope.kind=.function
 glb:env.globals=Ly
 blt:env.builtins=M8
 names:∀n,(names.lookup n=Vr .local->env.kindOf n=Vr .local)/\(cC (names.lookup n)=Vt->cC (env.kindOf n)=Vt)/\(names.lookup n=Vr .globalImplicit->env.kindOf n=Vr .globalImplicit)/\(names.lookup n=Vr .cell->env.kindOf n=Vr .cell)
 loc:env.locals=L
 cells:env.cells=cells
noncomputable abbrev De (T:String):Obj:={cls:=.type T,data:=.dict #[]}
noncomputable abbrev bU (names:List (Str×LM)) (L:Addr):List (Str×Addr):=NF (L+1) names []
noncomputable abbrev frOwn (names:List (Str×LM)) (L:Addr):List Addr:=L::(bU names L).map (·.2)
noncomputable abbrev dG (names:List (Str×LM)) (T:String) (h:Heap):Heap:=pushCells (h.push (De T)) names
theorem fB (H:HI c st x){b:Addr}(h:x.h.objs.size<=b):b∉x.la/\(∀p∈x.imm,p.1≠b)/\c.hb.get? b=Vs/\b∉c.fa:=by
 have e:x.h.get? b=none:=KV h;exact ⟨λm=>(H.laIn m).elim λo q=>au (e.symm.trans q),λp a q=>au (e.symm.trans (q▸H.immIn p a)),by
  cases q:c.hb.get? b with
  | none=>rfl
  | some o=>exact au (e.symm.trans (H.base b o q)),λm=>(H.frs.mem m).2.elim λo q=>au (e.symm.trans q.1)⟩
theorem mH {T:String}:Kp x.h (dG names T x.h):=λb o e=>Px _ _ _ _ (aM _ _ _ _ e)
theorem rN {T:String}:CellsOk (dG names T x.h) (x.h.objs.size+1) (bU names x.h.objs.size):=by
 have ok:=cellsFrom_ok names (x.h.push (De T)) (x.h.objs.size+1) [] ⟨λ_ _ a=>(nomatch a),TP.nil⟩ (by rw[LK];exact KL _);rw[LK] at ok;exact ok
theorem iz {b:Addr}(a:b∈frOwn names x.h.objs.size):x.h.objs.size<=b:=(Kw.mp a).elim (λe=>O7 e.symm) λa=>(Ku.mp a).elim λp c=>c.2▸Nat.le_of_succ_le ((rN (T:="dict") (x:=x)).empty p.1 p.2 c.1).2
theorem EI.new {T:String}{tk:Nat}{E Q:Bool}(H:HI c st x) (I:FrIn c names cl outF x) (N:EnvIs names x.h.objs.size (bU names x.h.objs.size++cl) env):EI c ⟨names,E,Q⟩ env (frOwn names x.h.objs.size) outF (x.gr (dG names T x.h) tk []):=by
 have ok:=rN (T:=T) (x:=x) (names:=names);have hL:(dG names T x.h).get? x.h.objs.size=Vr (De T):=Px _ _ _ _ (Kt _ rfl);have pn:∀n,names.lookup n≠Vr .cell->(bU names x.h.objs.size).lookup n=none:=λn i=>by
  cases q:(bU names x.h.objs.size).lookup n with
  | none=>rfl
  | some a=>exact (pZ (mem_of_lookup q)).elim (λh=>nomatch h) λh=>absurd (I.fn _ h) i
 have S:∀n,env.cells.lookup n=((bU names x.h.objs.size).lookup n).or (cl.lookup n):=λn=>by rw[N.cells,So]
 have O:∀n,names.lookup n=Vr .cell->∃d,env.cells.lookup n=Vr d/\(n,d)∈bU names x.h.objs.size:=λn i=>by
  refine aC λw f=>?_;obtain ⟨d,r⟩:=pY (k:=x.h.objs.size+1) (acc:=[]) (mem_of_lookup i);obtain ⟨M,G⟩:=kB r;refine f ?_;exact ⟨M,by rw[S,G];rfl,mem_of_lookup G⟩
 have A:∀n,names.lookup n=Vr .free->env.cells.lookup n=cl.lookup n:=λn i=>by rw[S,pn n (by rw[i];exact nofun)];rfl
 have j:∀n,cC (names.lookup n)=Vt->names.lookup n=Vr .cell\/names.lookup n=Vr .free:=λn i=>by
  cases q:names.lookup n with
  | none=>rw[q] at i;cases i
  | some kd=>rw[q] at i;cases kd<;>first | exact .inl rfl | exact .inr rfl | cases i
 have y:∀{n d},(n,d)∈bU names x.h.objs.size->d∈frOwn names x.h.objs.size:=λh=>.tail _ (Ku.mpr ⟨_,h,rfl⟩);have t:∀{n a},names.lookup n=Vr .free->cl.lookup n=Vr a->a<x.h.objs.size/\a∉x.la:=λ{n a} i e=>by
  refine aC λw f=>?_;obtain ⟨a',o,val,R,P,_,Y,_⟩:=I.fre n i;cases e.symm.trans R;refine f ?_;exact ⟨LD P,Y⟩
 refine ⟨N.kind,N.glb,N.blt,N.names,⟨_,N.loc▸(Heap.Ns.new x.h (.type T)).keeps (Px _ _),λn v g l=>nomatch (I.out n v g).symm.trans l⟩,λn i=>?_,N.loc▸.head _,λb K=>?_,λn C d i F e L=>?_,λn d i e=>?_,λn d i e=>?_⟩
 ·refine (j n i).elim (λh=>?_) λh=>?_
  ·refine aC λw f=>?_;obtain ⟨d,r,m⟩:=O n h;obtain ⟨⟨o,ho,u⟩,_⟩:=ok.empty n d m;refine f ?_;exact y3 d o Vs (w4 r ho u (λv g=>nomatch (I.out n v g).symm.trans h))
  ·refine aC λw f=>?_;obtain ⟨a,o,val,R,P,e3,Y,e5⟩:=I.fre n h;refine f ?_;exact y3 a o val (w4 ((A n h).trans R) (mH _ _ P) e3 e5)
 ·have z:=fB H (iz K);refine w4 z.1 z.2.1 z.2.2.1 ((Kw.mp K).elim (λe=>e▸⟨_,hL⟩) λK=>?_);refine aC λw f=>?_;obtain ⟨p,hp,rfl⟩:=Ku.mp K;refine f ?_;exact (ok.empty p.1 p.2 hp).1.imp λo h=>h.1
 ·have J:∀{n d},names.lookup n=Vr .cell->env.cells.lookup n=Vr d->(n,d)∈bU names x.h.objs.size:=λ{n d} h e=>by
   refine aC λw f=>?_;obtain ⟨M,r,m⟩:=O n h;cases e.symm.trans r;refine f ?_;exact m
  have U:∀{n d},(n,d)∈bU names x.h.objs.size->x.h.objs.size<=d:=λm=>iz (y m);refine (j n i).elim (λh=>(j C F).elim (λs=>name_of_addr ok.apart (J h e) (J s L)) λs=>?_) λh=>(j C F).elim (λs=>?_) λs=>I.inj n C d h s ((A n h).symm.trans e) ((A C s).symm.trans L)
  ·exact absurd (t s ((A C s).symm.trans L)).1 (N5 (U (J h e)))
  ·exact absurd (t h ((A n h).symm.trans e)).1 (N5 (U (J s L)))
 ·refine aC λw f=>?_;obtain ⟨M,r,m⟩:=O n i;cases e.symm.trans r;refine f ?_;exact y m
 ·refine (j n i).elim (λh=>?_) λh=>?_
  ·refine aC λw f=>?_;obtain ⟨M,r,m⟩:=O n h;cases e.symm.trans r;refine f ?_;exact ⟨(fB H (iz (y m))).1,λq=>absurd (ok.empty n d m).2 (by rw[q,N.loc];exact Nat.not_succ_le_self _)⟩
  ·have:=t h ((A n h).symm.trans e);exact ⟨this.2,λq=>MC _ (by rw[q,N.loc] at this;exact this.1)⟩
theorem nX {scope:OL}{f:Str}{e:Option Addr}{code:Value}{b:Option Env}{c d:Addr}{k:List (Str×Value)}{w:Lh}{Q:Env->Shared->Prop}{E:Value->Shared->Prop}{T:String}(l:(if b.isSome=Vt then "dict" else "frame")=T) (h:Kq (Kr PR w) A (do
   for (name,v) in k do Oj (UF scope x.h.objs.size d (bU scope.names x.h.objs.size++cl) f e code b c) name v
   pure (UF scope x.h.objs.size d (bU scope.names x.h.objs.size++cl) f e code b c)) Q E {x.S with heap:=dG scope.names T x.h}) :
  Kq (Kr PR w) A (N1 scope d cl k f e code b c) Q E x.S:=by
 subst l;unfold N1;refine Kg (Vg ?_);refine Kg (wpAny_layCells _ (λname g j=>by cases i:g==Pi<;>simp[i]) _ _ _ _ ?_);rw[show ({x.S with heap:=x.h.push (De (if b.isSome=Vt then "dict" else "frame"))}:Shared).heap.objs.size=x.h.objs.size+1 from LK ..];rw[show NF (x.h.objs.size+1) scope.names cl=bU scope.names x.h.objs.size++cl from tR (a:=[])];cases b<;>exact h
theorem A3 {z:Z}(f:Str×Value->PUnit->O0 (ForInStep PUnit)) (o:∀n v u,f (n,v) u=(do Oj z.env n v;pure (.yield ⟨⟩))):∀{ns:List Str}{vals:List Value}{vs:List V}{b:List (Str×V)}{s:St}{x:X}{Q:PUnit->Shared->Prop}{E:Value->Shared->Prop},dJ z x vals vs->b=ns.zip vs->ns.length=vs.length->(∀n∈ns,bC (cx.names.lookup n)=Vt)->At cx z s x->
  (∀y,Nx cx z x ⟨eF b s.fr,s.st⟩ y True->Q ⟨⟩ y.S)->Kq (Kr PR z.c.w) z.A (forIn (ns.zip vals) ⟨⟩ f) Q E x.S:=
 @lr _ _
 (@λvals vs b s x Q E k i g d a h=>by
  subst i;rw[List.zip_nil_left,Tv];exact Ks (h x (a.go trivial)))
 (λn ns q=>(@λvals vs b s x Q E k i g d a h=>by
  cases vs with
  | nil=>cases g
  | cons v vs=>
   obtain ⟨u,t,rfl,rv,rs⟩:=k.view;subst i;rw[List.zip_cons_cons,Qv,o];refine Kg (Kg (gY a (d _ (.head _)) rv λy m=>Ks ?_));exact q (rs.mono (λ_ _ e=>m.r.1▸e) λ_ h=>m.r.2▸h) rfl (Nj g) (λp l=>d p (.tail _ l)) m.at_ λw j=>h w ⟨j.at_,m.adv.trans j.adv,trivial⟩))
end
end
section
set_option linter.all false
noncomputable def bx (fd:FuncData):List Str:=fd.params.args.map (·.arg)++fd.params.vararg.toList.map (·.arg)
noncomputable def dA (fd:FuncData):List Stmt:=match fd.body with
 | .stmts b=>b
 | _=>[]
noncomputable def u0 (fd:FuncData):Bool:=match fd.body with
 | .stmts _=>Vt
 | _=>Vu
noncomputable def zV (d:Data):Option (Array Value):=match d with
 | .fields vs=>Vr vs
 | _=>Vs
noncomputable def DI (v:Value):Option Str:=match v with
 | .str q _=>Vr q
 | _=>Vs
noncomputable def Ej (v:Value):Option Addr:=match v with
 | .ref c=>Vr c
 | _=>Vs
noncomputable def vy (K:Frag) (fd:FuncData):Bool:=((Ej fd.code).bind λc=>(K.lookup c).bind λo=>(zV o.data).bind λvs=>(vs[1]?).bind DI)==Vr fd.qualname
noncomputable def Jy (K:Frag) (fd:FuncData):Bool:=vy K fd&&((fd.scope.kind==.function)&&(!fd.scope.isGenerator&&(!fd.scope.isCoroutine&&((fd.globals==Ly)&&((fd.builtins==M8)&&(fd.closure.isEmpty&&(u0 fd&&fd.scope.names.all λp=>!(p.2==.free)&&(fd.scope.names.lookup p.1==Vr p.2))))))))
theorem Hm (P:LF):BF.all (λp=>Jy (KK P) p.2)=true:=rfl
theorem Ea (P:LF):BF.map (λp=>(KK P).lookup p.1)=BF.map λp=>Vr ⟨.type "function",Vs,.func p.2,#[]⟩:=rfl
noncomputable def Aa (v:Bool) (n:Nat):List (Nat×FuncData):=BF.filter λp=>(p.1 != 73)&&((p.2.params.vararg.isSome==v)&&(p.2.params.args.length==n))
theorem D6:BF.all (λp=>(p.1==73)||(((p.2.params.vararg.isSome==Vu)&&((p.2.params.args.length==1)||((p.2.params.args.length==2)||(p.2.params.args.length==4))))||((p.2.params.vararg.isSome==Vt)&&((p.2.params.args.length==1)||(p.2.params.args.length==2)))))=true:=rfl
theorem J2 (a:Value):(Aa Vu 1).map (λp=>NI p.2 ⟨[a],[]⟩)=(Aa Vu 1).map λp=>pure ((bx p.2).zip [a]):=rfl
theorem J1 (a b:Value):(Aa Vu 2).map (λp=>NI p.2 ⟨[a,b],[]⟩)=(Aa Vu 2).map λp=>pure ((bx p.2).zip [a,b]):=rfl
theorem J0 (a b d e:Value):(Aa Vu 4).map (λp=>NI p.2 ⟨[a,b,d,e],[]⟩)=(Aa Vu 4).map λp=>pure ((bx p.2).zip [a,b,d,e]):=rfl
theorem JZ (a:Value) (l:List Value):(Aa Vt 1).map (λp=>NI p.2 ⟨[a]++l,[]⟩)=(Aa Vt 1).map λp=>Pd l >>= λt=>pure ((bx p.2).zip ([a]++[t])):=by
 cases l<;>kernel_rfl
theorem JY (a b:Value) (l:List Value):(Aa Vt 2).map (λp=>NI p.2 ⟨[a,b]++l,[]⟩)=(Aa Vt 2).map λp=>Pd l >>= λt=>pure ((bx p.2).zip ([a,b]++[t])):=by
 cases l<;>kernel_rfl
noncomputable def iY (a:Addr) (fd:FuncData) (vs:List V):Option (List V):=if a=73 then fc vs λv=>Vr [v,.d .non] else
 optE fd.params.vararg (if vs.length=fd.params.args.length then Vr vs else Vs) λ_=>if fd.params.args.length<=vs.length then (ej (vs.drop fd.params.args.length)).bind λds=>if ds.length<=1000 then Vr (vs.take fd.params.args.length++[.d (.tup ds)]) else Vs else Vs
theorem I0 (P:LF):(KK P).lookup 73=Vr ⟨.type "function",Vs,.func (aW 73),#[]⟩:=rfl
theorem I1 (P:LF):(KK P).lookup 66=Vr ⟨.type "tuple",Vs,.seq #[.none] 0,#[]⟩:=rfl
theorem Db (a:Value){s:Shared}(b:s.heap.get? 66=Vr ⟨.type "tuple",Vs,.seq #[.none] 0,#[]⟩):BindsTo s (aW 73) ⟨[a],[]⟩ ((bx (aW 73)).zip [a,.none]):=by
 refine BindsTo.of_defaults (T:=66) (k:=?_) rfl b rfl ?_ ?_
 rotate_left
 ·unfold NI;exact rfl
 ·kernel_rfl
theorem hM {α β:Type}{l:List α}{f g:α->β}(h:l.map f=l.map g){p:α}(a:p∈l):f p=g p:=List.map_inj_left.mp h p a
theorem zX {a:Nat}{fd:FuncData}:∀{l:List (Nat×FuncData)},l.lookup a=Vr fd->(a,fd)∈l
 | p::r,h=>by
  rw[MK] at h;cases b:a==p.1 with
  | true=>rw[b] at h;refine rq (Kd h) ?_;rw[eq_of_beq b];exact .head _
  | false=>rw[b] at h;exact .tail _ (zX h)
section
variable {cx:Cx}{z:Z}{s:St}{x y:X}{k:Nat}{vals:List Value}{args us:List V}{p:Nat×FuncData}{A:Lg}{E:Value->Shared->Prop}
theorem G5 {α:Type}{l:List α}(h:l.length=1):∃a,l=[a]:=List.length_eq_one_iff.mp h
theorem Ft {α:Type}{l:List α}(h:l.length=2):∃a b,l=[a,b]:=match l,h with
 | [a,b],_=>y2 a b rfl
theorem IZ {α:Type}{l:List α}(h:l.length=4):∃a b c d,l=[a,b,c,d]:=match l,h with
 | [a,b,c,d],_=>y4 a b c d rfl
theorem zI {v:Bool}{n:Nat}(b:p∈BF) (h:(p.1==73)=Vu) (a:(p.2.params.vararg.isSome==v)=Vt) (c:(p.2.params.args.length==n)=Vt):p∈Aa v n:=LQ.mpr ⟨b,by rw[a,c];show (!(p.1==73)&&_)=Vt;rw[h];rfl⟩
theorem tY (g:p∈BF) (h:(p.1==73)=Vu) (c:(p.2.params.vararg.isSome==Vu)=Vt) (i:vals.length=p.2.params.args.length):NI p.2 ⟨vals,[]⟩=pure ((bx p.2).zip vals):=by
 have e:=KS.mp D6 p g;rw[h,c,show (p.2.params.vararg.isSome==Vt)=Vu by rw[beq_iff_eq.mp c];rfl,QT,OK,PK,TQ] at e;refine (Mm.mp e).elim (λe=>?_) λe=>(Mm.mp e).elim (λe=>?_) λe=>?_
 ·obtain ⟨a,rfl⟩:=G5 (i.trans (beq_iff_eq.mp e));exact hM (J2 a) (zI g h c e)
 ·obtain ⟨a,b,rfl⟩:=Ft (i.trans (beq_iff_eq.mp e));exact hM (J1 a b) (zI g h c e)
 ·obtain ⟨a,b,d,f,rfl⟩:=IZ (i.trans (beq_iff_eq.mp e));exact hM (J0 a b d f) (zI g h c e)
theorem xl {l:List Value}(d:p∈BF) (h:(p.1==73)=Vu) (c:(p.2.params.vararg.isSome==Vt)=Vt) (f:vals.length=p.2.params.args.length):NI p.2 ⟨vals++l,[]⟩=(Pd l >>= λt=>pure ((bx p.2).zip (vals++[t]))):=by
 have e:=KS.mp D6 p d;rw[h,c,show (p.2.params.vararg.isSome==Vu)=Vu by rw[beq_iff_eq.mp c];rfl,QT,PK,PK,TQ] at e;refine (Mm.mp e).elim (λe=>?_) λe=>?_
 ·obtain ⟨a,rfl⟩:=G5 (f.trans (beq_iff_eq.mp e));exact hM (JZ a l) (zI d h c e)
 ·obtain ⟨a,b,rfl⟩:=Ft (f.trans (beq_iff_eq.mp e));exact hM (JY a b l) (zI d h c e)
theorem RVs.split {w:Lh}{ρ:List Addr}{c:Imm}(n:Nat):∀{vals:List Value}{us:List V},RVs w ρ c vals us->n<=us.length->∃a b,vals=a++b/\RVs w ρ c a (us.take n)/\RVs w ρ c b (us.drop n):=by
 induction n with
 | zero=>exact λh _=>y2 [] _ (w3 rfl .nil h)
 | succ n e=>
  intro vals us h d;cases us with
  | nil=>cases d
  | cons u us=>
   obtain ⟨v,f,rfl,r,rs⟩:=h.view;obtain ⟨a,b,rfl,h1,h2⟩:=e rs (RG d);exact y2 (v::a) b (w3 rfl (.cons r h1) h2)
theorem RVs.app {w:Lh}{ρ:List Addr}{c:Imm}{a b:List Value}{us vs:List V}(h:RVs w ρ c a us) (k:RVs w ρ c b vs):RVs w ρ c (a++b) (us++vs):=h.ind (M:=λa us=>RVs w ρ c (a++b) (us++vs)) k λh _ r=>.cons h r
theorem Adv.gr {c:Cn}{own:List Addr}{h':Heap}{tk:Nat}{ex:Imm}(k:Kp x.h h') (e:∀p∈ex,x.h.get? p.1=Vs):Adv c own x (x.gr h' tk ex):=⟨λb o e _ _=>.inl (k b o e),λb o e=>⟨o,k b o e⟩,λ_ h=>Ll _ h,λp h=>(Kx.mp h).elim (λh=>.inr (.inl (e p h))) .inl,λ_ h=>.inl h,λ_ _ e=>e,y3 _ _ _ rfl⟩
theorem Dm {Q:List (Str×Value)->Shared->Prop}(j:p∈BF) (B:Bs z.c) (g:At cx z s x) (rs:dJ z x vals args) (i:iY p.1 p.2 args=Vr us) (h:∀f y,Nx cx z x s y (dJ z y f us)->Adv z.c [] x y->Q ((bx p.2).zip f) y.S):Kq (Kr PR z.c.w) A (NI p.2 ⟨vals,[]⟩) Q E x.S:=by
 unfold iY at i;by_cases d:p.1=73
 ·rw[if_pos d] at i;have t:p.2=aW 73:=by
   have m:=hM (Ea z.c.w.params) j;rw[d] at m;exact Data.func.inj (congrArg QY (Kd (m.symm.trans (I0 z.c.w.params))))
  refine gD (P:=λvals=>Kq (Kr PR z.c.w) A (NI p.2 ⟨vals,[]⟩) Q E x.S) rs i λ{v u} _ r e=>?_;rw[t] at h ⊢;exact Db v (B.kin g.H.base 66 _ (I1 z.c.w.params)) _ _ _ _ (h _ x (g.go (Kd e▸.cons r (.cons RD.non .nil))) (.refl _ _ _))
 ·rw[if_neg d] at i;have d:(p.1==73)=false:=beq_eq_false_iff_ne.mpr d;cases l:p.2.params.vararg with
  | none=>
   rw[l] at i;refine bD i λk e=>?_;rw[tY j d (by rw[l];rfl) (rs.length.trans k)];exact Ks (h _ x (g.go (Kd e▸rs)) (.refl _ _ _))
  | some F=>
   rw[l] at i;refine bD i λk e=>aA e λG q e=>bD e λI e=>?_;obtain ⟨a,b,rfl,r1,r2⟩:=rs.split p.2.params.args.length k;have o:=kj r2 q;have C:=o.length;rw[xl j d (by rw[l];rfl) (by rw[r1.length,Lv];exact NG k)];refine Kg (Uy (Ks ?_) (bQ (by walk_at "n")));have n:=g.kp (h':=x.h.push (dU b 0)) (tk:=x.S.toks) (ex:=[(x.h.objs.size,dU b 0)]) (r:=True) (aM _ _) (λp j=>by rw[Kk.mp j];exact ⟨Kt _ rfl,bF _⟩) trivial;exact h _ _ ⟨n.at_,n.adv,Kd e▸(r1.up n.adv).app (.cons (RD.tup (.head _) (by walk_at "n") (mD o)) .nil)⟩ (.gr (aM _ _) λp j=>by rw[Kk.mp j];exact bF _)
end
end
section
set_option linter.all false
section
variable {c:Cn}{cx:Cx}{env:Env}{own own':List Addr}{x x₀ y z:X}{st:List SObj}{fr:List (Str×V)}
noncomputable def Cn.push (c:Cn) (env:Env):Cn:={c with fs:=env::c.fs}
theorem Bs.push (B:Bs c):Bs (c.push env):=⟨B.k,B.gl,B.lim⟩
theorem lF {L:Addr}(a:env.frame=Vr L):(c.push env).fa=L::c.fa:=by unfold Cn.fa Cn.push;rw[K0,a]
theorem HI.push {L:Addr}{o:Obj}(H:HI c st x) (f:env.scope.kind≠.module) (b:env.frame=Vr L) (g:x.h.get? L=Vr o) (d:∀vs,o.data≠.fields vs) (j:L∉x.la) (k:∀p∈x.imm,p.1≠L) (l:c.hb.get? L=Vs):HI (c.push env) st x where
 base:=H.base
 immIn:=H.immIn
 ledIn:=H.ledIn
 nd:=H.nd
 ledB:=H.ledB
 dis:=H.dis
 len:=H.len
 foot:=H.foot
 frs:=w3 f (y2 L o (w4 b (lz _) g d)) H.frs
 fsI:=λa i=>(Kw.mp (lF b▸i)).elim (λe=>by rw[e];exact w3 k j l) (H.fsI a)
 imm0:=H.imm0
theorem HI.pop {L:Addr}(d:env.frame=Vr L) (H:HI (c.push env) st x):HI c st x:=⟨H.base,H.immIn,H.ledIn,H.nd,H.ledB,H.dis,H.len,H.foot,H.frs.2.2,λa b=>H.fsI a (lF d▸.tail _ b),H.imm0⟩
theorem EI.push {e:Env}(F:EI c cx env own fr x):EI (c.push e) cx env own fr x:=⟨F.kind,F.glb,F.blt,F.names,F.ns,F.cells,F.loc,F.ownI,F.cellI,F.cellO,F.cellL⟩
theorem Adv.pop {L:Addr}(p:Adv (c.push env) own' x y) (f:env.frame=Vr L) (d:x.h.get? L=Vs) (hn:∀a∈own',x.h.get? a=Vs):Adv c [] x y where
 keep:=λb o e _ n=>(p.keep b o e (λm=>au ((hn b m).symm.trans e)) n).imp id λq=>⟨(Kw.mp (lF f▸q.1)).elim (λg=>au (d.symm.trans (g▸e))) id,q.2⟩
 alive:=p.alive
 imm:=p.imm
 immN:=p.immN
 ledN:=p.ledN
 rho:=p.rho
 rest:=p.rest
theorem Adv.push {L:Addr}(p:Adv c own x y) (d:env.frame=Vr L) (hs:∀a∈own,a∈own'):Adv (c.push env) own' x y where
 keep:=λb o e f g=>(p.keep b o e (λm=>f (hs b m)) g).imp id λq=>⟨lF d▸.tail _ q.1,q.2⟩
 alive:=p.alive
 imm:=p.imm
 immN:=p.immN
 ledN:=p.ledN
 rho:=p.rho
 rest:=p.rest
theorem dX.pop {b:Bool}{a:Addr}{k:D}{as:List D}(h:dX b (c.push env) x y a k as):dX b c x y a k as:=⟨h.1,h.2.imp λ_ h=>h.imp λ_ h=>h.imp λ_ h=>h.imp λ_ h=>h.imp λ_ h=>⟨⟨h.1.get,h.1.cls,h.1.data,h.1.arg,h.1.tup,h.1.le,h.1.rs⟩,h.2⟩⟩
end
noncomputable def Hw (x:Res Fl):Res V:=Res.casesOn x (λf s=>Fl.casesOn f (.ok (.d .non) ⟨[],s.st⟩) .bad .bad λv=>.ok v ⟨[],s.st⟩) (λk as s=>.exn k as ⟨[],s.st⟩) .bad
noncomputable def gP (fd:FuncData):Cx:=⟨fd.scope.names,Vu,Vu⟩
noncomputable def v8 {k:Nat}(r:Sr k) (fd:FuncData) (oF:List (Str×V)) (us:List V) (st:List SObj):Res V:=Hw ((r.xs (gP fd) (dA fd)).f ⟨eF ((bx fd).zip us) oF,st⟩)
noncomputable def nb {k:Nat}(r:Sr k) (a:Addr) (fd:FuncData) (vs:List V) (st:List SObj):Res V:=optE (iY a fd vs) .bad λus=>if (bx fd).length=us.length/\((bx fd).all λn=>bC (fd.scope.names.lookup n))=Vt then v8 r fd [] us st else .bad
structure FnA (fd:FuncData):Prop where
 kind:fd.scope.kind=.function
 glb:fd.globals=Ly
 blt:fd.builtins=M8
structure FnB (fd:FuncData):Prop where
 kind:fd.scope.kind=.function
 gen:fd.scope.isGenerator=Vu
 co:fd.scope.isCoroutine=Vu
 glb:fd.globals=Ly
 blt:fd.builtins=M8
 clo:fd.closure=[]
 body:fd.body=.stmts (dA fd)
 names:∀p∈fd.scope.names,p.2≠.free/\fd.scope.names.lookup p.1=Vr p.2
theorem FH {K:Frag}{fd:FuncData}(h:Jy K fd=Vt):vy K fd=Vt/\FnB fd:=by
 have f:=Kn.mp h;have c:=Kn.mp f.2;have j:=Kn.mp c.2;have d:=Kn.mp j.2;have i:=Kn.mp d.2;have a:=Kn.mp i.2;have g:=Kn.mp a.2;have b:=Kn.mp g.2;refine ⟨f.1,beq_iff_eq.mp c.1,(KO _).mp j.1,(KO _).mp d.1,beq_iff_eq.mp i.1,beq_iff_eq.mp a.1,OO.mp g.1,?_,λp k=>?_⟩
 ·have:=b.1;unfold u0 at this;unfold dA;cases q:fd.body with
  | stmts=>rfl
  | _=>rw[q] at this;cases this
 ·have:=Kn.mp (KS.mp b.2 p k);have l:p.2≠.free:=λe=>by rw[e] at this;cases this.1
  exact ⟨l,beq_iff_eq.mp this.2⟩
theorem FnB.fr {fd:FuncData}{c:Cn}{x:X}(N:FnB fd):FrIn c fd.scope.names fd.closure [] x:=by
 rw[N.clo];exact ⟨λp a=>(N.names p a).2,λn v g=>au g,λn q=>absurd rfl (N.names _ (mem_of_lookup q)).1,λn _ _ q=>absurd rfl (N.names _ (mem_of_lookup q)).1⟩
theorem Gf {v:Value}{c:Addr}(h:Ej v=Vr c):v=.ref c:=by cases v<;>first | exact au h | exact congrArg _ (Kd h)
theorem C1 {d:Data}{vs:Array Value}(h:zV d=Vr vs):d=.fields vs:=by cases d<;>first | exact au h | exact congrArg _ (Kd h)
theorem ye {v:Value}{q:Str}(h:DI v=Vr q):∃t,v=.str q t:=by cases v<;>first | exact au h | exact ⟨_,by rw[Kd h]⟩
theorem vx {K:Frag}{fd:FuncData}{h:Heap}(X:K.In h) (q:vy K fd=Vt):h.CodeRec fd.code fd.qualname:=aA (beq_iff_eq.mp q) λc d e=>aA e λo i e=>aA e λa b e=>aA e λv f e=>(ye e).elim λt g=>y4 c o a t (w4 (Gf d) (X _ _ i) (C1 b) (g▸f))
noncomputable abbrev gu (fd:FuncData) (L a:Addr):Env:=UF fd.scope L fd.globals (bU fd.scope.names L++fd.closure) (fd.qualname++".<locals>.") (Vr a) fd.code Vs fd.builtins
section
variable {k:Nat}
noncomputable abbrev Gl (z:Z) (fd:FuncData) (L a:Addr):Z:=⟨z.c.push (gu fd L a),gu fd L a,frOwn fd.scope.names L,z.A.deeper (gu fd L a)⟩
set_option backward.match.sparseCases true in
theorem rf {cx:Cx}{z:Z}{s:St}{x:X}{fd:FuncData}{a:Addr}{vals:List Value}{us:List V}{oF:List (Str×V)}{Q:Value->Shared->Prop}{E:Value->Shared->Prop}(N:FnA fd) (I:FrIn z.c fd.scope.names fd.closure oF x) (o:Ok (k+1) cx z) (hh:z.A.handled=Vs) (d:At cx z s x) (rs:dJ z x vals us) (P:(bx fd).length=us.length) (M:((bx fd).all λn=>bC (fd.scope.names.lookup n))=Vt) (h:∀y,Ok k (gP fd) (Gl z fd x.h.objs.size a)->At (gP fd) (Gl z fd x.h.objs.size a) ⟨eF ((bx fd).zip us) oF,s.st⟩ y->Adv (z.c.push (gu fd x.h.objs.size a)) (frOwn fd.scope.names x.h.objs.size) x y->(∀w,Adv (z.c.push (gu fd x.h.objs.size a)) (frOwn fd.scope.names x.h.objs.size) y w->Adv z.c [] x w)->
   Kq (Kr PR z.c.w) (Gl z fd x.h.objs.size a).A (Vm (dA fd) (Gl z fd x.h.objs.size a).env) (λf i=>OX Q E (.ok (.ret (match f with | .ret v=>v | _=>.none))) i) (λe i=>Kq (Kr PR z.c.w) (Gl z fd x.h.objs.size a).A (U8 (Gl z fd x.h.objs.size a).env e) (λ_ g=>OX Q E (.error e) g) (λK g=>OX Q E (.error K) g) i) y.S) :
  Kq (Kr PR z.c.w) z.A.in1 (N1 fd.scope fd.globals fd.closure ((bx fd).zip vals) (fd.qualname++".<locals>.") (Vr a) fd.code Vs fd.builtins) (λenv u=>u.heap.NoLimit/\Mx (Kr PR z.c.w) z.A (.func (dA fd) env) (OX Q E) u) (λe i=>OX Q E (.error e) i) x.S:=by
 refine nX (T:="frame") rfl ?_;have j:Kp x.h (dG fd.scope.names "frame" x.h):=mH;have C:=d.kp (h':=dG fd.scope.names "frame" x.h) (tk:=x.S.toks) (ex:=[]) (r:=True) j (λ_ h=>nomatch h) trivial;obtain ⟨J,Y,f3,_⟩:=fB d.H (KL x.h.objs.size);have O:HI (z.c.push (gu fd x.h.objs.size a)) s.st (x.gr (dG fd.scope.names "frame" x.h) x.S.toks []):=C.at_.H.push (L:=x.h.objs.size) (by rw[N.kind];exact nofun) rfl (Px _ _ _ _ (Kt _ rfl)) (λvs q=>nomatch q) J Y f3;have R:EI z.c (gP fd) (gu fd x.h.objs.size a) (frOwn fd.scope.names x.h.objs.size) oF (x.gr (dG fd.scope.names "frame" x.h) x.S.toks []):=.new d.H I ⟨N.kind,N.glb,N.blt,λn=>w4 id id id id,rfl,rfl⟩;refine Kg (A3 (z:=⟨z.c.push (gu fd x.h.objs.size a),gu fd x.h.objs.size a,frOwn fd.scope.names x.h.objs.size,z.A.in1⟩) (cx:=gP fd) (s:=⟨oF,s.st⟩) _ (λ_ _ _=>rfl) (rs.up C.adv) rfl P (λn U=>KS.mp M n U) ⟨O,R.push⟩ λy m=>Ks ⟨o.B.lim.keeps m.at_.H.base,codeAny_func ?_⟩);have ok:Ok k (gP fd) ⟨z.c.push (gu fd x.h.objs.size a),gu fd x.h.objs.size a,frOwn fd.scope.names x.h.objs.size,z.A.deeper (gu fd x.h.objs.size a)⟩:=⟨o.B.push,λ_=>y2 _ _ ⟨rfl,rfl⟩,by show z.A.frames.map _=_;rw[o.frames];rfl,λ_=>hh,by have:=o.depth;show z.A.depth+1+k<_;lia,by have:=o.units;show z.A.units+3+8*k+200<_;lia⟩
 have a1:At (gP fd) ⟨z.c.push (gu fd x.h.objs.size a),gu fd x.h.objs.size a,frOwn fd.scope.names x.h.objs.size,z.A.deeper (gu fd x.h.objs.size a)⟩ ⟨eF ((bx fd).zip us) oF,s.st⟩ y:=⟨m.at_.H,m.at_.F⟩
 have t:Adv (z.c.push (gu fd x.h.objs.size a)) (frOwn fd.scope.names x.h.objs.size) x y:=((Adv.push (own:=[]) (own':=frOwn fd.scope.names x.h.objs.size) (env:=gu fd x.h.objs.size a) (L:=x.h.objs.size) ⟨λb o e _ _=>.inl (j b o e),λb o e=>⟨o,j b o e⟩,λ_ h=>h,λ_ h=>.inl h,λ_ h=>.inl h,λ_ _ e=>e,y3 _ _ _ rfl⟩ rfl (λ_ h=>nomatch h):Adv _ _ x (x.gr (dG fd.scope.names "frame" x.h) x.S.toks []))).trans m.adv;have l:∀{w:X},Adv (z.c.push (gu fd x.h.objs.size a)) (frOwn fd.scope.names x.h.objs.size) y w->Adv z.c [] x w:=λp=>(t.trans p).pop (L:=x.h.objs.size) rfl (bF _) λb G=>KV (iz G);exact h y ok a1 t λw p=>l p
theorem yv {cx:Cx}{z:Z}{s:St}{x:X}{fd:FuncData}{a:Addr}{vals:List Value}{us:List V}{oF:List (Str×V)}{Q:Value->Shared->Prop}{E:Value->Shared->Prop}(r:Sr k) (N:FnA fd) (I:FrIn z.c fd.scope.names fd.closure oF x) (o:Ok (k+1) cx z) (hh:z.A.handled=Vs) (g:At cx z s x) (rs:dJ z x vals us) (F:(bx fd).length=us.length) (C:((bx fd).all λn=>bC (fd.scope.names.lookup n))=Vt) (h:uj z.c x (v8 r fd oF us s.st) Q E):Kq (Kr PR z.c.w) z.A.in1 (N1 fd.scope fd.globals fd.closure ((bx fd).zip vals) (fd.qualname++".<locals>.") (Vr a) fd.code Vs fd.builtins) (λenv j=>j.heap.NoLimit/\Mx (Kr PR z.c.w) z.A (.func (dA fd) env) (OX Q E) j) (λe q=>OX Q E (.error e) q) x.S:=by
 refine rf N I o hh g rs F C λy ok m t d=>?_;refine (r.xs (gP fd) (dA fd)).ok ok m _ _ ?_;unfold v8 at h;cases i:(r.xs (gP fd) (dA fd)).f ⟨eF ((bx fd).zip us) oF,s.st⟩ with
 | bad=>rw[i] at h;exact h.elim
 | ok f J=>
  rw[i] at h;intro M w n;have p:=n.r;cases f with
  | next=>refine rp p ?_;exact h _ w (n.at_.H.pop (L:=x.h.objs.size) rfl) (d _ n.adv) RD.non
  | ret v=>obtain ⟨b,rfl,rv⟩:=p;exact h _ w (n.at_.H.pop (L:=x.h.objs.size) rfl) (d _ n.adv) rv
  | brk=>exact h.elim
  | cont=>exact h.elim
 | exn kc K J=>
  rw[i] at h;exact λG w n=>s9 ok rfl m n λu l=>h G u (l.at_.H.pop (L:=x.h.objs.size) rfl) (d _ l.adv) (l.r.weak.lift t).pop
theorem C0 {a:Nat}{fd:FuncData}{vs:List V}{st:List SObj}(r:Sr k) (I:zZ a=Vr fd):ip (k+1) a vs st (nb r a fd vs st):=λ{L z M x t} o J d G Q E h=>by
 have s:=zX I;obtain ⟨F,N⟩:=FH (KS.mp (Hm z.c.w.params) _ s);have X:=o.B.kin d.H.base;have C:=hM (Ea z.c.w.params) s;unfold nb at h;cases i:iY a fd vs with
 | none=>rw[i] at h;exact h.elim
 | some u=>
  rw[i] at h;change uj z.c x (if _ then _ else _) Q E at h;by_cases f:(bx fd).length=u.length/\((bx fd).all λn=>bC (fd.scope.names.lookup n))=Vt
  ·rw[if_pos f] at h;refine PD (by have:=o.depth;(first | omega | lia)) (X _ _ C) rfl N.co N.gen N.body (vx X F) (Dm s o.B d G i λl y n p=>yv r ⟨N.kind,N.glb,N.blt⟩ (FnB.fr (fd:=fd) N) o J n.at_ n.r f.1 f.2 ?_);cases m:v8 r fd [] u st with
   | bad=>rw[m] at h;exact h.elim
   | ok v A=>rw[m] at h;exact λb w j g q=>h b w j (p.trans g) q
   | exn e K A=>rw[m] at h;exact λb w j g q=>h b w j (p.trans g) (q.lift p)
  ·rw[if_neg f] at h;exact h.elim
end
end
section
set_option linter.all false
noncomputable abbrev oO (C:Addr) (vals:List Value):Code:=.builtin "type.__call__" ⟨.ref C::vals,[]⟩
theorem ID {C:Addr}{vals:List Value}:(oO C vals).weight=1:=rfl
theorem IE {C:Addr}{vals:List Value}:(oO C vals).cUnits=1:=rfl
noncomputable def Z.tc (z:Z) (C:Addr) (vals:List Value):Z:=⟨z.c,z.env,z.own,z.A.under (oO C vals)⟩
noncomputable def jV (res:Res V) (n:Nat):Res V:=Res.casesOn res (λv s=>optE (v.d?.bind D.none?) .bad λ_=>.ok (.loc n) s) (λ_ _ _=>.bad) .bad
section
variable {k:Nat}{cx:Cx}{z:Z}{s:St}{x:X}{C fI:Nat}{vals:List Value}{args:List V}{a:Addr}{so:SObj}{ft:List (Addr×Obj)}{h':Heap}{ex:Imm}{Q:Value->Shared->Prop}{E:Value->Shared->Prop}
theorem Ok.tc (o:Ok (k+1) cx z):Ok k cx (z.tc C vals):=⟨o.B,o.top,o.frames,o.hd,by have:=o.depth;show z.A.depth+Code.weight _+k<_;rw[ID];lia,by have:=o.units;show z.A.units+Code.cUnits _+8*k+200<_;rw[IE];lia⟩
theorem mZ (r:Sr k) (o:Ok (k+1) cx z) (hh:z.A.handled=Vs) (i:At cx z s x) (rs:dJ z x vals args) (n:Kp x.h h') (M:∀p∈ex,h'.get? p.1=Vr p.2/\x.h.get? p.1=Vs) (f:∀p∈ft,h'.get? p.1=Vr p.2/\x.h.get? p.1=Vs) (N:∀p∈ft,∀q∈ex,q.1≠p.1) (O:(ft.map (·.1)).Nodup) (hf:eY z.c.w (x.ρ++[a]) (ex++x.imm) a so ft) (mk:∀R,Mx (Kr PR z.c.w) (z.A.under (oO C vals)) (.call (.ref fI) ⟨.ref a::vals,[]⟩) (InitBack a R) {x.S with heap:=h'}->Mx (Kr PR z.c.w) z.A (.call (.ref C) ⟨vals,[]⟩) R x.S) (h:uj z.c x (jV (r.call fI (.loc s.st.length::args) (s.st++[so])) s.st.length) Q E):Mx (Kr PR z.c.w) z.A (.call (.ref C) ⟨vals,[]⟩) (OX Q E) x.S:=by
 refine mk _ ?_;have fresh:∀p∈ft,Fresh x (x.gr h' x.S.toks ex) p.1:=λp g=>⟨λm=>(i.H.laIn m).elim λo e=>au ((f p g).2.symm.trans e),λq T e=>(Kx.mp T).elim (λm=>N p g q m e) λm=>au ((f p g).2.symm.trans (e▸i.H.immIn q m)),(f p g).2⟩
 have U:=i.kp (h':=h') (tk:=x.S.toks) (ex:=ex) (r:=True) n M trivial;have l:Nx cx z x ⟨s.fr,s.st++[so]⟩ ((x.gr h' x.S.toks ex).ad a ft) (aZ z ((x.gr h' x.S.toks ex).ad a ft) (.ref a) (.loc s.st.length)):=Nx.adopt (y:=x.gr h' x.S.toks ex) (so:=so) i U (λp g=>⟨(f p g).1,fresh p g⟩) O hf id;have P:Adv z.c [] x ((x.gr h' x.S.toks ex).ad a ft):=⟨λb o e _ _=>.inl (n b o e),λb o e=>⟨o,n b o e⟩,λ_ h=>Ll _ h,λp h=>(Kx.mp h).elim (λh=>.inr (.inl (M p h).2)) .inl,λb t=>by
  have:((x.gr h' x.S.toks ex).ad a ft).la=x.la++ft.map (·.1):=by unfold X.la X.ad X.gr;rw[M4,KD];simp only[NO,Qc,LG]
  exact (Kx.mp (this▸t)).imp id λt=>(Ku.mp t).elim λp g=>by rw[<- g.2];exact (f p g.1).2,iw _ _,y3 _ _ _ rfl⟩
 have L:=r.callOk fI (.loc s.st.length::args) (s.st++[so]) (z:=z.tc C vals) (fr:=s.fr) (vals:=.ref a::vals) o.tc hh ⟨l.at_.H,l.at_.F⟩ (.cons l.r (rs.up l.adv));cases G:r.call fI (.loc s.st.length::args) (s.st++[so]) with
 | bad=>rw[G] at h;exact h.elim
 | exn=>rw[G] at h;exact h.elim
 | ok v s1=>
  rw[G] at h L;change uj z.c x (optE (v.d?.bind D.none?) .bad λ_=>.ok (.loc s.st.length) s1) Q E at h;cases I:v.d?.bind D.none? with
  | none=>rw[I] at h;exact h.elim
  | some u=>
   rw[I] at h;obtain rfl:v=.d .non:=aA I λd e1 Y=>by rw[tL e1,pq Y]
   refine Ps (L (λb S=>b=.none/\Q (.ref a) S) (λ_ _=>False) λb y Hy K rb=>⟨rb.view,h (.ref a) y Hy (P.trans K) ⟨a,rfl,K.rho _ _ (l.r.elim λa' e=>Ov e.1▸e.2)⟩⟩) λJ s' j=>?_;rcases J with e | (v | _ | _ | _)<;>first | exact j.elim | exact j
theorem mA (P:LF):(Va (KK P) bJ=Vt/\O4 (KK P) (.ref bJ) "__init__" = Vr (Vr (.ref 73))/\UJ (KK P) (.ref 73)=Vr (.type "function"))/\Va (KK P) eu=Vt/\O4 (KK P) (.ref eu) "__init__" = Vr (Vr (.ref 36))/\UJ (KK P) (.ref 36)=Vr (.type "function"):=(w4 (w3 rfl rfl rfl) rfl rfl rfl)
theorem CP (P:LF):Va (KK P) bL=Vt/\O4 (KK P) (.ref bL) "__init__" = Vr (Vr (.ref 176))/\UJ (KK P) (.ref 176)=Vr (.type "function"):=w3 rfl rfl rfl
theorem qp {vs:List V}{st:List SObj}(r:Sr k):ip (k+1) bJ vs st (jV (r.call 73 (.loc st.length::vs) (st++[.inst []])) st.length):=λ{cx z t x vals} o n d g Q E h=>by
 obtain ⟨⟨p,l,q⟩,_⟩:=mA z.c.w.params;have s:(x.h.push emptyDict).objs.size=x.h.objs.size+1:=LK ..;have j:((x.h.push emptyDict).push (Os bJ x.h.objs.size)).get? (x.h.objs.size+1)=Vr (Os bJ x.h.objs.size):=s▸Kt _ rfl;have i:((x.h.push emptyDict).push (Os bJ x.h.objs.size)).get? x.h.objs.size=Vr emptyDict:=KM _ (Kt _ rfl);have X:=o.B.kin d.H.base;exact mZ (so:=.inst []) (a:=x.h.objs.size+1) (ex:=[]) (ft:=[(x.h.objs.size+1,Os bJ x.h.objs.size),(x.h.objs.size,emptyDict)]) r o n d g (λb o e=>aM _ _ _ _ (aM _ _ _ _ e)) (λ_ h=>nomatch h) (La.mpr ⟨⟨j,KV (MX _)⟩,La.mpr ⟨⟨i,bF _⟩,λ_ h=>nomatch h⟩⟩) (λ_ _ _ h=>nomatch h) (LP.mpr ⟨λm=>absurd (Kk.mp m) (OT _),nd1⟩) (y3 _ [] 0 (w3 rfl ⟨rfl,λm=>rfl⟩ (KL _))) (λR h=>Uh (UM X p) (Sy X l) (λf=>Vb X f q) (.inl rfl) h) h
theorem wT {vs:List V}{st:List SObj}(r:Sr k):ip (k+1) bL vs st (jV (r.call 176 (.loc st.length::vs) (st++[.einst []])) st.length):=λ{cx z t x vals} o n d g Q E h=>by
 obtain ⟨q,l,s⟩:=CP z.c.w.params;have p:(x.h.push emptyDict).objs.size=x.h.objs.size+1:=LK ..;have j:((x.h.push emptyDict).push (Os bL x.h.objs.size)).get? (x.h.objs.size+1)=Vr (Os bL x.h.objs.size):=p▸Kt _ rfl;have i:((x.h.push emptyDict).push (Os bL x.h.objs.size)).get? x.h.objs.size=Vr emptyDict:=KM _ (Kt _ rfl);have X:=o.B.kin d.H.base;exact mZ (so:=.einst []) (a:=x.h.objs.size+1) (ex:=[]) (ft:=[(x.h.objs.size+1,Os bL x.h.objs.size),(x.h.objs.size,emptyDict)]) r o n d g (λb o e=>aM _ _ _ _ (aM _ _ _ _ e)) (λ_ h=>nomatch h) (La.mpr ⟨⟨j,KV (MX _)⟩,La.mpr ⟨⟨i,bF _⟩,λ_ h=>nomatch h⟩⟩) (λ_ _ _ h=>nomatch h) (LP.mpr ⟨λm=>absurd (Kk.mp m) (OT _),nd1⟩) (y3 _ [] 0 (w3 rfl ⟨rfl,λm=>rfl⟩ (KL _))) (λR h=>Uh (UM X q) (Sy X l) (λf=>Vb X f s) (.inl rfl) h) h
theorem wo {vs:List V}{st:List SObj}(r:Sr k):ip (k+1) eu vs st (jV (r.call 36 (.loc st.length::vs) (st++[.node Vs Vs Vs])) st.length):=λ{cx z t x vals} o m d g Q E h=>by
 obtain ⟨_,n,l,p⟩:=mA z.c.w.params;have s:(x.h.push emptyDict).objs.size=x.h.objs.size+1:=LK ..;have j:((x.h.push emptyDict).push (Os eu x.h.objs.size)).get? (x.h.objs.size+1)=Vr (Os eu x.h.objs.size):=s▸Kt _ rfl;have i:((x.h.push emptyDict).push (Os eu x.h.objs.size)).get? x.h.objs.size=Vr emptyDict:=KM _ (Kt _ rfl);have X:=o.B.kin d.H.base;exact mZ (so:=.node Vs Vs Vs) (a:=x.h.objs.size+1) (ex:=[(x.h.objs.size,emptyDict)]) (ft:=[(x.h.objs.size+1,Os eu x.h.objs.size)]) r o m d g (λb o e=>aM _ _ _ _ (aM _ _ _ _ e)) (La.mpr ⟨⟨i,bF _⟩,λ_ h=>nomatch h⟩) (La.mpr ⟨⟨j,KV (MX _)⟩,λ_ h=>nomatch h⟩) (La.mpr ⟨La.mpr ⟨λq=>absurd q.symm (OT _),λ_ h=>nomatch h⟩,λ_ h=>nomatch h⟩) nd1 (y2 _ (#[]) (w6 rfl (.head _) (by decide) (λ_ e=>au e) (λ_ e=>au e) (λ_ e=>au e))) (λR h=>Uh (UM X n) (Sy X l) (λf=>Vb X f p) (.inl rfl) h) h
end
end
section
set_option linter.all false
noncomputable def Cx.hand (cx:Cx):Cx:=⟨cx.names,cx.comp,Vt⟩
noncomputable def nA (kc c:D):Bool:=optE kc.bi? (optE kc.gbl? Vu λa=>(a==cycleC)&&optE c.gbl? Vu λb=>b==cycleC) λb=>optE c.bi? Vu λd=>(b.eq .valueError&&d.eq .valueError)||(b.eq .stopIteration&&d.eq .stopIteration)
noncomputable def uO (x:Res Fl) (g:St->St):Res Fl:=Res.casesOn x (λf s=>.ok f (g s)) (λ_ _ _=>.bad) .bad
section
variable {cx:Cx}{z:Z}{s s0 s1:St}{x x₀ y w:X}{k:Nat}{kc:D}{as:List D}{ea:Addr}
theorem Bi.ve_of {b:Bi}(h:b.eq .valueError=Vt):b=.valueError:=by cases b<;>first | rfl | cases h
theorem Bi.si_of {b:Bi}(h:b.eq .stopIteration=Vt):b=.stopIteration:=by cases b<;>first | rfl | cases h
theorem vR (P:LF):UO (KK P) (.ref cycleC) (.ref cycleC)=Vr Vt/\UO (KK P) (.type "ValueError") (.type "ValueError")=Vr Vt/\UO (KK P) (.type "StopIteration") (.type "StopIteration")=Vr true:=w3 rfl rfl rfl
theorem BY {c:Cn}{g:D}{val:Value}{j:Imm}(P:LF) (h:nA kc g=Vt) (e:RD c.w j val g):UO (KK P) (xf kc) val=Vr true:=by
 obtain ⟨l,k,m⟩:=vR P;unfold nA at h;cases f:kc.bi? with
 | none=>
  cases d:kc.gbl? with
  | none=>rw[f,d] at h;cases h
  | some a=>cases i:g.gbl? with
   | none=>rw[f,d,i] at h;exact nomatch (Kn.mp h).2
   | some b=>
    rw[f,d,i] at h;have h:=Kn.mp h;rw[mG d,eq_of_beq h.1];rw[mG i,eq_of_beq h.2] at e;refine rp (show val=.ref cycleC from e.view) ?_;exact l
 | some b=>cases d:g.bi? with
  | none=>rw[f,d] at h;cases h
  | some n=>
   rw[f,d] at h;rw[kh f];rw[kh d] at e;refine (Mm.mp h).elim (λh=>?_) λh=>?_
   ·have h:=Kn.mp h;rw[Bi.ve_of h.2] at e;refine rp (show val=.type "ValueError" from e.view) ?_;exact Bi.ve_of h.1▸k
   ·have h:=Kn.mp h;rw[Bi.si_of h.2] at e;refine rp (show val=.type "StopIteration" from e.view) ?_;exact Bi.si_of h.1▸m
theorem EI.re {a:Cx}{c:Cn}{env:Env}{own:List Addr}{fr:List (Str×V)}(F:EI c cx env own fr x) (h:a.names=cx.names):EI c a env own fr x:=by
 cases cx;cases a;cases h;exact ⟨F.kind,F.glb,F.blt,F.names,F.ns,F.cells,F.loc,F.ownI,F.cellI,F.cellO,F.cellL⟩
theorem At.hand (a:At cx z s x):At cx.hand z s x:=⟨a.H,a.F.re rfl⟩
noncomputable def Z.mark (z:Z) (e:Value):Z:=⟨z.c,z.env,z.own,z.A.mark (Vr e)⟩
theorem Ok.mark {e:Value}(o:Ok k cx z):Ok k cx.hand (z.mark e):=⟨o.B,o.top,o.frames,(λh=>nomatch h),o.depth,o.units⟩
theorem At.mark {e:Value}(a:At cx z s x):At cx.hand (z.mark e) s x:=⟨a.H,a.F.re rfl⟩
theorem At.unmark {e:Value}(a:At cx.hand (z.mark e) s x):At cx z s x:=⟨a.H,a.F.re rfl⟩
theorem dX.keep (a:At cx z s0 x₀) (X:dX Vt z.c x₀ y ea kc as) (p:Adv z.c z.own y w):dX Vt z.c x₀ w ea kc as:=by
 obtain ⟨f,g,b,t,i,n,E,e⟩:=X;refine e.elim (λh=>nomatch h.1) λ⟨T,oT,d,B⟩=>?_;exact ⟨f.keep E.get p,y5 g b t i n ⟨⟨f.same a E.get p,E.cls,E.data,E.arg,p.imm _ E.tup,E.le,E.rs.mono p.imm⟩,.inr (y3 T oT d ⟨B.at_,B.ne,B.off.same a B.get p,B.data,B.size,B.off.keep B.get p⟩)⟩⟩
theorem wS {r:Prop}(e:At cx z s0 x₀) (n:Nx cx z x₀ s y r) (X:dX Vt z.c x₀ y ea kc as):∃a,a.S=y.S/\Nx cx z x₀ ⟨s.fr,s.st++[.exc kc as]⟩ a (aZ z a (.ref ea) (.loc s.st.length)):=by
 refine aC λG i=>?_;obtain ⟨f,b,g,t,h,m,E,_⟩:=X;refine i ?_;exact ⟨y.ad ea [(ea,b)],rfl,Nx.adopt (so:=.exc kc as) e n (λp d=>Kk.mp d▸⟨E.get,f⟩) nd1 (y5 b g t h m (w7 rfl E.cls E.data E.arg E.tup E.le E.rs)) id⟩
theorem eL.noExn {f:St->St}{res:Res Fl}{Q e:QE->Shared->Prop}{E E':Value->Shared->Prop}{c:Cx}{d:Z}(h:eL cx z (RF z) x₀ (uO res f) Q E) (q:∀a (s:St) b y,Nx c d x s y (RF d y b a)->eL cx z (RF z) x₀ (.ok a (f s)) Q E->e b y.S):eL c d (RF d) x res e E':=by
 cases res with
 | bad=>exact h
 | ok a s=>exact λb y n=>q a s b y n h
 | exn k as s=>exact h.elim
end
section
variable {k:Nat}{cx:Cx}(r:Sr k) (ty:Kf) (nm:Option Str) (b:Stmt) (hb:List Stmt)
noncomputable def lP (kc:D) (as:List D) (s:St):Res Fl:=optE nm (uO ((r.xs cx.hand (b::hb)).f s) id) λn=>if cx.names.lookup n=Vr .local then uO ((r.xs cx.hand (b::hb)).f ⟨aY n (.loc s.st.length) s.fr,s.st++[.exc kc as]⟩) λs=>⟨Dd n s.fr,s.st⟩ else .bad
noncomputable def kZ (kc:D) (as:List D) (s:St):Res Fl:=Res.casesOn ((r.ev cx.hand ty).f s) (λa s=>optE a.d? .bad λd=>if nA kc d=Vt then lP (cx:=cx) r nm b hb kc as s else .bad) (λ_ _ _=>.bad) .bad
theorem RF.up {z:Z}{y w:X}{f:QE}{g:Fl}{own:List Addr}(h:RF z y f g) (p:Adv z.c own y w):RF z w f g:=by
 cases g with
 | ret v=>exact h.imp λb h=>⟨h.1,h.2.up p⟩
 | _=>exact h
theorem CT {z:Z}{P s1:St}{x y:X}{kc:D}{as:List D}{a:Addr}{pos:Pos}{Q:QE->Shared->Prop}{E:Value->Shared->Prop}(o:Ok k cx z) (L:At cx z P x) (n:Nx cx z x s1 y (dX Vt z.c x y a kc as)) (h:eL cx z (RF z) x (kZ (cx:=cx) r ty nm b hb kc as s1) Q E):Kq (Kr PR z.c.w) z.A (handleBy (.ref a) z.env [.ExceptHandler (Vr ty) nm (b::hb) pos]) Q E y.S:=by
 unfold kZ at h;have O:=(r.ev cx.hand ty).ok (z:=z.mark (.ref a)) (s:=s1) o.mark n.at_.mark;cases i:(r.ev cx.hand ty).f s1 with
 | bad=>rw[i] at h;exact h.elim
 | exn k as s=>rw[i] at h;exact h.elim
 | ok N s2=>
  rw[i] at h O;refine wpAny_handleBy_cons (codeAny_handlers_test (O _ _ λT u m=>?_)) (λq=>nomatch q);change eL cx z (RF z) x (optE N.d? .bad λd=>if nA kc d=Vt then lP (cx:=cx) r nm b hb kc as s2 else .bad) Q E at h;cases C:N.d? with
  | none=>rw[C] at h;exact h.elim
  | some d=>
   rw[C] at h;change eL cx z (RF z) x (if nA kc d=Vt then lP (cx:=cx) r nm b hb kc as s2 else .bad) Q E at h;by_cases hs:nA kc d=Vt
   ·rw[if_pos hs] at h;have U:=n.r.keep L m.adv;obtain ⟨_,oe,vs,t,ws,n',X,_⟩:=id U;have LT:T7 (Kr PR z.c.w) u.h (typeOf (.ref a)) (xf kc):=X.cls▸(S8 X.get).andThen .now;refine (exm_one (o.B.kin m.at_.H.base) LT (BY z.c.w.params hs (RV.onD m.r C))).at ?_;have Y:At cx z s2 u:=m.at_.unmark;have g:At cx (z.mark (.ref a)) P x:=⟨L.H,L.F⟩
    have R:Nx cx (z.mark (.ref a)) x s2 u (dX Vt z.c x u a kc as):=⟨⟨Y.H,Y.F⟩,n.adv.trans m.adv,U⟩
    cases nm with
    | none=>
     refine codeAny_handlers_suite (fW g R λv l=>?_);exact (r.xs cx.hand (b::hb)).ok (z:=z.mark (.ref a)) o.mark ⟨l.at_.H,l.at_.F.re rfl⟩ _ _ (eL.noExn h λf s3 K w j J=>J K w ⟨j.at_.unmark,l.adv.trans j.adv,j.r⟩)
    | some n=>
     change eL cx z (RF z) x (if cx.names.lookup n=Vr .local then _ else .bad) Q E at h;by_cases p:cx.names.lookup n=Vr .local
     ·rw[if_pos p] at h;refine codeAny_handlers_suite_as (fW g R λv l=>?_);obtain ⟨y',e,M⟩:=wS g l l.r;refine e▸gY M.at_ (by rw[p];rfl) M.r λu2 G=>?_;refine (r.xs cx.hand (b::hb)).ok (z:=z.mark (.ref a)) o.mark ⟨G.at_.H,G.at_.F.re rfl⟩ _ _ (eL.noExn h λf s3 K w j J=>?_);exact CV (z:=z) j.at_.unmark p λv2 I=>J K v2 ⟨I.at_,((M.adv.trans G.adv).trans j.adv).trans I.adv,RF.up (z:=z) j.r I.adv⟩
     ·rw[if_neg p] at h;exact h.elim
   ·rw[if_neg hs] at h;exact h.elim
set_option backward.match.sparseCases true in
noncomputable def IA (body:List Stmt) (g pos:Pos):Ex k cx (.Try body [.ExceptHandler (Vr ty) nm (b::hb) g] [] [] pos):=⟨λs=>if cx.comp=Vu/\cx.inH=Vu then Res.casesOn ((r.xs cx body).f s) (λf s=>.ok f s) (kZ (cx:=cx) r ty nm b hb) .bad else .bad,λ{z s x} o a=>aN.ite λF Q E h=>by
 rw[arm_exec_Try];refine Kg (Mn ?_);have p:∀{f:Fl}{e:QE}{y:X},RF z y e f->Q e y.S->match e with | .next=>Kq (Kr PR z.c.w) z.A (Vm [] z.env) Q E y.S | f=>Q f y.S:=λ{f e y} i q=>by
  cases f with
  | next=>obtain rfl:=i;exact Us q
  | brk=>obtain rfl:=i;exact q
  | cont=>obtain rfl:=i;exact q
  | ret v=>obtain ⟨b,rfl,_⟩:=i;exact q
 have run:=(r.xs cx body).ok o a;cases d:(r.xs cx body).f s with
 | bad=>rw[d] at h;exact h.elim
 | ok f s1=>
  rw[d] at h run;exact SX (run _ _ λe y n=>p n.r (h e y n))
 | exn kc as s1=>
  rw[d] at h run;obtain ⟨L,j,C,t⟩:=o.top F.1;exact SX (run _ _ λG y n=>gm C t o.frames a n λw m=>fW a m λu l=>CT r ty nm b hb o a l h)⟩
theorem qJ {z:Z}{s:St}{x:X}{kc:D}{vals:List Value}{ds:List D}{h':Heap}{e:Addr}{tk:Nat}{E:Value->Shared->Prop}(a:At cx z s x) (M:QI x.h h' e (xf kc) vals) (rs:RDs z.c.w x.imm vals ds) (hz:vals.length<=16777216) (h:∀g y,Nx cx z x s y (dX Vu z.c x y g kc ds)->E (.ref g) y.S):E (.ref e) {x.S with heap:=h',toks:=tk}:=by
 obtain ⟨k,d,t,f,l,i⟩:=M;have j:t≠e:=λq=>by
  subst q;exact nomatch congrArg QY (Kd (f.symm.trans i))
 exact h e (x.gr h' tk [(t,dU vals 0)]) (a.kp k (λp b=>by rw[Kk.mp b];exact ⟨i,l⟩) ⟨⟨λm=>(a.H.laIn m).elim λo q=>au (d.symm.trans q),λp b q=>(Kw.mp b).elim (λn=>j (by rw[n] at q;exact q)) λm=>au (d.symm.trans (q▸a.H.immIn p m)),d⟩,y5 _ _ t vals 0 ⟨⟨f,rfl,rfl,rfl,.head _,hz,mD rs⟩,.inl ⟨rfl,rfl⟩⟩⟩)
noncomputable def sN (cx:Cx) (f:Str):Option D:=if cx.names.lookup f=Vr .globalImplicit then (bY f ib).bind λd=>if Af d=Vt then Vr d else Vs else Vs
theorem yg {env:Env}{pos:Pos}{args:List Kf}(h:cD args=Vt):(Mw pos (LH args env)).any (·.1)=false:=by
 have:=(ku (env:=env) (p:=pos) (args:=args)).trans h;rw[List.all_eq_not_any_not] at this
 simpa using this
theorem pt:∀{args:List Kf},cD args=Vt->aO args=true:=@lr _ _ (@λ_=>rfl) (λe a b=>(@λh=>by
  have h:=Kn.mp h;show ((Ro a||(bb e).isNone)&&aO a)=Vt;rw[show (bb e).isNone=Vt from h.1,b h.2,Bool.or_true];rfl))
theorem ri {z:Z}{f:Value}{pos:Pos}{args:List Kf}{Q:List Value->Shared->Prop}{E:Value->Shared->Prop}{S:Shared}(hs:cD args=Vt) (hn:args≠[]) (h:kP z args Q E S):Kq (Kr PR z.c.w) z.A (evalArgs f Vt (Mw pos (LH args z.env)) []) (λa d=>a.kw=[]/\Q a.pos d) E S:=by
 cases args with
 | nil=>exact absurd rfl hn
 | cons e g=>
  have b:=ei (pos:=pos) (pt hs) h;rw[lv (Option.isNone_iff_eq_none.mp (Kn.mp hs).1)] at b ⊢;exact RA (f:=f) (KQ b (λ_ _ q=>⟨rfl,q⟩) λ_ _ e=>e)
noncomputable def lL (kc:D) (vs:List V) (s:St):Res Fl:=optE (ej vs) .bad λds=>if ds.length<=1000 then .exn kc ds s else .bad
theorem qk {z:Z}{s:St}{x y:X}{kc:D}{vals:List Value}{vs:List V}{Q:QE->Shared->Prop}{E:Value->Shared->Prop}{P:Prop}(n:Nx cx z x s y (dJ z y vals vs)) (h:eL cx z (RF z) x (lL kc vs s) Q E) (k:vals.length<=sizeLine->(∀{h' e},QI y.h h' e (xf kc) vals->E (.ref e) {y.S with heap:=h'})->P):P:=by
 unfold lL at h;cases a:ej vs with
 | none=>rw[a] at h;exact h.elim
 | some ds=>
  rw[a] at h;have b:=kj n.r a;have f:=b.length;change eL cx z (RF z) x (if ds.length<=1000 then .exn kc ds s else .bad) Q E at h;by_cases c:ds.length<=1000
  ·rw[if_pos c] at h;exact k (bQ (by walk_at "n")) λM=>qJ (tk:=y.S.toks) n.at_ M b (by walk_at "n") λd w m=>h d w ⟨m.at_,n.adv.trans m.adv,m.r.lift n.adv⟩
  ·rw[if_neg c] at h;exact h.elim
noncomputable def EW (f:Str) (p:Pos) (args:List Kf) (i pos:Pos):Ex k cx (.Raise (Vr (.Call (.Name f p) args [] i)) Vs pos):=⟨λs=>if cx.inH=Vu/\cD args=Vt/\args≠[] then optE (sN cx f) .bad λkc=>(bM (r.ev cx) args s).bind λvs s=>lL kc vs s else .bad,λ{z s x} o a=>aN.ite λt=>by
 have hh:=o.hd t.1;have I:=yg (env:=z.env) (pos:=i) t.2.1;cases L:sN cx f with
 | none=>exact .bad
 | some kc=>
  refine λQ E h=>bD L λR e=>aA e λd N e=>bD e λl T=>?_;cases Kd T;obtain ⟨C,K,G⟩:=jX (pos:=p) o.B a R N;have run:=λ(P:List Value->Shared->Prop) (q:∀vs (s:St) vals y,Nx cx z x s y (dJ z y vals vs)->eL cx z (RF z) x (lL kc vs s) Q E->P vals y.S)=>ri (f:=C) (pos:=i) t.2.1 t.2.2 (eP (r.ev cx) o a P E (h.bind (.refl _ _ _) q λ_ _ _ _ y n hz=>hz y n));unfold Af at l;cases m:kc.bi? with
  | some b=>
   rw[m] at l;obtain rfl:=kh m;cases Bi.ve_of l;obtain rfl:=show C=.type "ValueError" from K.view
   exact wpAny_Raise_call PySem.F.excCall_ValueError PySem.F.excRaise_ValueError hh I (G _ _ ⟨rfl,run (λvals j=>vals.length<=sizeLine/\∀h' e,Heap.MadeExc j.heap h' e "ValueError" vals->E (.ref e) {j with heap:=h'}) λvs s vals y n hz=>qk n hz λv u=>⟨v,λh' e M=>u ⟨M.keeps,M.new,M.there⟩⟩⟩)
  | none=>cases A:kc.gbl? with
   | none=>rw[m,A] at l;cases l
   | some g=>
    rw[m,A] at l;obtain rfl:=mG A;obtain rfl:g=cycleC:=eq_of_beq l;obtain rfl:=show C=.ref cycleC from K.view
    obtain ⟨J,O⟩:=AJ z.c.w.params;exact wpAny_Raise_call_sub (mN:=z.c.hb.nsMap 54) PySem.F.excBase_ValueError hh I (Ug o.B.k J O) (G _ _ ⟨rfl,run (λvals j=>vals.length<=sizeLine/\j.heap.get? cycleC=Vr cycO/\j.heap.Ns 54 (z.c.hb.nsMap 54)/\∀h' e,QI j.heap h' e (.ref cycleC) vals->E (.ref e) {j with heap:=h'}) λvs s vals y n hz=>qk n hz λv u=>
     (w4 v (o.B.kin n.at_.H.base _ _ (AL _)) ((Sj (isNs_of_in o.B.k J)).keeps n.at_.H.base) (λh' e M=>u M))⟩)⟩
end
end
section
set_option linter.all false
noncomputable def iX {α β:Type}(x:Res α) (f:α->St->Res β):Res β:=Res.casesOn x f (λ_ _ _=>.bad) .bad
section
variable {k:Nat}(r:Sr k) (cx:Cx) (t elt:Kf) (ifs:List Kf) (oF:List (Str×V))
noncomputable def jC (s:St):Res Bool:=LZ ifs (.ok Vt s) λc l=>LZ l ((r.ts cx c).f s) λ_ _=>.bad
noncomputable def ez:List V->List D->List SObj->Res (List D)
 | [],acc,st=>.ok acc ⟨[],st⟩
 | v::vs,acc,st=>optE (dB cx t v) .bad λa=>iX (jC r cx ifs ⟨eF a oF,st⟩) λb s=>cond b (iX ((r.ev cx elt).f s) λu s=>optE u.d? .bad λd=>ez vs (acc++[d]) s.st) (ez vs acc s.st)
end
section
variable {c:Cn}{cx cx':Cx}{z:Z}{env:Env}{own own':List Addr}{fr oF:List (Str×V)}{s s0 s1:St}{x x₀ y w:X}{b:Addr}
theorem Adv.thru (p:Adv c own x y) (q:Adv c own' y w) (h:∀a∈own',x.h.get? a=Vs):Adv c own x w where
 keep:=λb o e u g=>have n:b∉own':=λm=>au ((h b m).symm.trans e)
  (p.keep b o e u g).elim (λf=>q.keep b o f n (p.off e g)) λ⟨k,s,f⟩=>(q.keep b _ f n (p.off e g)).elim (λi=>.inr ⟨k,s,i⟩) λ⟨_,j,i⟩=>.inr ⟨k,j,i⟩
 alive:=λb o e=>(p.alive b o e).elim λA d=>q.alive b A d
 imm:=λa h=>q.imm a (p.imm a h)
 immN:=λa h=>(q.immN a h).elim (p.immN a) λh=>h.elim (λh=>.inr (.inl (p.dead h))) λh=>(p.ledN _ h).elim (λh=>.inr (.inr h)) λh=>.inr (.inl h)
 ledN:=λa h=>(q.ledN a h).elim (p.ledN a) λh=>.inr (p.dead h)
 rho:=λl a e=>q.rho l a (p.rho l a e)
 rest:=p.rest.elim λh e=>e.elim λt e=>e.elim λ_ e=>q.rest.elim λr d=>d.elim λz d=>d.elim λv d=>y3 r z v (by rw[d,e])
theorem EI.but {h':Heap}{tk:Nat}(F:EI c cx env own fr y) (k:∀a o,a≠b->y.h.get? a=Vr o->h'.get? a=Vr o) (f:b∉own) (j:∀n,cC (cx.names.lookup n)=Vt->env.cells.lookup n≠Vr b):EI c cx env own fr (y.gr h' tk []) where
 kind:=F.kind
 glb:=F.glb
 blt:=F.blt
 names:=F.names
 ns:=F.ns.imp λm h=>⟨h.1.elim λo h=>h.elim λl h=>h.elim λi h=>y3 o l i ⟨k _ _ (λe=>f (e▸F.loc)) h.1,h.2⟩,h.2⟩
 cells:=λn g=>(F.cells n g).imp λa h=>h.imp λo h=>h.imp λval h=>w3 h.1 (k _ _ (λe=>j n g (e▸h.1)) h.2.1) h.2.2
 loc:=F.loc
 ownI:=λa d=>w4 ((F.ownI a d).1) ((F.ownI a d).2.1) ((F.ownI a d).2.2.1) ((F.ownI a d).2.2.2.imp λo e=>k a o (λp=>f (p▸d)) e)
 cellI:=F.cellI
 cellO:=F.cellO
 cellL:=F.cellL
structure CI (cx:Cx) (z:Z) (x₀:X) (cx':Cx) (env':Env) (own':List Addr) (oF:List (Str×V)) (s:St) (y:X):Prop where
 o:Nx cx z x₀ s y True
 i:EI z.c cx' env' own' oF y
 new:∀a∈own',x₀.h.get? a=Vs
 link:∀n,cx'.names.lookup n=Vr .free->cC (cx.names.lookup n)=Vt/\env'.cells.lookup n=z.env.cells.lookup n
 cellN:∀n a,cx'.names.lookup n=Vr .cell->env'.cells.lookup n=Vr a->a∈own'
 out:∀n v,get n oF=Vr v->cx'.names.lookup n=Vr .free/\get n s.fr=Vr v
theorem zB {k:Option LM}(h:cC k=Vt):k=Vr .cell\/k=Vr .free:=by
 cases k with
 | none=>cases h
 | some k=>cases k<;>first | exact .inl rfl | exact .inr rfl | cases h
structure CFr (cx':Cx) (env':Env) (own':List Addr) (x₀ y:X) (b:Addr):Prop where
 f:Fresh x₀ y b
 a:∃o,y.h.get? b=Vr o
 own:b∉own'
theorem CI.notCell (h:CI cx z x₀ cx' env own' oF s y) (a:At cx z s0 x₀) (f:CFr cx' env own' x₀ y b):∀n,cC (cx'.names.lookup n)=Vt->env.cells.lookup n≠Vr b:=λn g e=>(zB g).elim (λq=>f.own (h.cellN n b q e)) λq=>by
 have l:=h.link n q;obtain ⟨i,o,_,c,d,_⟩:=a.F.cells n l.1;rw[l.2,c] at e;exact au (f.f.new.symm.trans (Kd e▸d))
theorem CI.but {h':Heap}{tk:Nat}(h:CI cx z x₀ cx' env own' oF s y) (c:At cx z s0 x₀) (f:CFr cx' env own' x₀ y b) (k:∀a o,a≠b->y.h.get? a=Vr o->h'.get? a=Vr o):CI cx z x₀ cx' env own' oF s (y.gr h' tk []):=⟨Nx.heap (W:=λa=>a=b) c h.o (λa o e=>if q:a=b then .inl q else .inr (.inl (k a o q e))) (λa e=>e▸f.f) (λ_ h=>nomatch h) trivial,h.i.but k f.own (h.notCell c f),h.new,h.link,h.cellN,h.out⟩
theorem CI.run {r:Prop}{A:Lg}(h:CI cx z x₀ cx' env own' oF s y) (i:At cx z s0 x₀) (n:Nx cx' ⟨z.c,env,own',A⟩ y s1 w r):CI cx z x₀ cx' env own' oF ⟨s.fr,s1.st⟩ w:=by
 have F:=n.at_.F;have b:∀{a o},x₀.h.get? a=Vr o->a∉own':=λ{a o} e m=>au ((h.new a m).symm.trans e);have t:EI z.c cx z.env z.own s.fr w:=h.o.at_.F.advD n.adv (λm=>(i.F.ownI _ i.F.loc).2.2.2.elim λo e=>b e m) λq a j e m=>by
  obtain ⟨G,o,_,d,f,_⟩:=i.F.cells q j;exact b (Kd (e.symm.trans d)▸f) m
 refine ⟨⟨⟨n.at_.H,t⟩,h.o.adv.thru n.adv h.new,trivial⟩,⟨F.kind,F.glb,F.blt,F.names,F.ns.imp λm k=>⟨k.1,λq v g l=>nomatch (h.out q v g).1.symm.trans l⟩,λq j=>?_,F.loc,F.ownI,F.cellI,F.cellO,F.cellL⟩,h.new,h.link,h.cellN,h.out⟩;obtain ⟨a,o,val,d,f,u,_⟩:=F.cells q j;refine y3 a o val (w4 d f u (λv g=>?_));have l:=h.link q (h.out q v g).1;obtain ⟨G,J,p,C,x,I,E⟩:=t.cells q l.1;rw[l.2,C] at d;obtain rfl:=Kd d;obtain rfl:=Kd (x.symm.trans f);obtain rfl:=Data.cell.inj (I.symm.trans u);exact E v (h.out q v g).2
theorem CFr.run {A:Lg}{r:Prop}(f:CFr cx' env own' x₀ y b) (d:At cx z s0 x₀) (n:Nx cx' ⟨z.c,env,own',A⟩ y s1 w r){o:Obj}(e:y.h.get? b=Vr o):CFr cx' env own' x₀ w b/\w.h.get? b=Vr o:=by
 have a:w.h.get? b=Vr o:=(n.adv.keep b o e f.own f.f.la).elim id λm=>(d.H.frs.mem m.1).2.elim λo e=>au (f.f.new.symm.trans e.1);exact ⟨⟨f.f.keep e n.adv,⟨o,a⟩,f.own⟩,a⟩
theorem CFr.but {h':Heap}{tk:Nat}{d:Addr}(f:CFr cx' env own' x₀ y b) (a:∃o,h'.get? b=Vr o):CFr cx' env own' x₀ (y.gr h' tk []) b:=⟨⟨f.f.la,f.f.imm,f.f.new⟩,a,f.own⟩
theorem eL.bindX {α γ δ:Type}{d:X->δ->γ->Prop}{res:Res γ}{f:γ->St->Res α}{K:Res α->Prop}(e:¬K .bad) (h:K (iX res f)){c:δ->Shared->Prop}{E':Value->Shared->Prop}(q:∀a (s:St) b w,Nx cx' z x s w (d w b a)->K (f a s)->c b w.S):eL cx' z d x res c E':=by
 cases res with
 | bad=>exact absurd h e
 | ok a s=>exact λb w n=>q a s b w n h
 | exn k g s=>exact absurd h e
end
end
section
set_option linter.all false
structure LS where
 cx:Cx
 z:Z
 x₀:X
 cx':Cx
 env:Env
 own:List Addr
 oF:List (Str×V)
 fr:List (Str×V)
 I:Addr
 D:Addr
 St:Nat->Heap->Prop
noncomputable abbrev LS.z' (l:LS):Z:=⟨l.z.c,l.env,l.own,l.z.A⟩
structure LI (l:LS) (i:Nat) (st:List SObj) (us:List Value) (m:Nat) (y:X):Prop where
 ci:CI l.cx l.z l.x₀ l.cx' l.env l.own l.oF ⟨l.fr,st⟩ y
 st:l.St i y.h
 fi:CFr l.cx' l.env l.own l.x₀ y l.I
 fd:CFr l.cx' l.env l.own l.x₀ y l.D
 dl:y.h.get? l.D=Vr (lstO us m)
section
variable {l:LS}{i m:Nat}{st:List SObj}{us:List Value}{y w:X}{s0 s1:St}{vs:List V}{fp:List Addr}{n:Nat}{P:Nat->Value->Prop}{T:String}{imm:Imm}{R:Value->V->Prop}{r:Prop}
theorem LI.at' (h:LI l i st us m y):At l.cx' l.z' ⟨l.oF,st⟩ y:=⟨h.ci.o.at_.H,h.ci.i⟩
theorem LI.run (h:LI l i st us m y) (j:At l.cx l.z s0 l.x₀) (it:It l.z.c.w l.z.A imm l.I vs R fp n P l.St T) (s:∀p∈imm,p∈l.x₀.imm) (g:Nx l.cx' l.z' y s1 w r):LI l i s1.st us m w:=by
 obtain ⟨o,k⟩:=h.fi.a;have f:=h.fi.run j g k;have d:=h.fd.run j g h.dl;exact ⟨h.ci.run j g,it.W.frame i _ _ h.st λb t v e=>(it.fp b t).elim (λq=>by
  subst q;exact (Kd (e.symm.trans k))▸f.2) λq=>q.elim λu q=>by
  have q:=h.ci.o.adv.imm _ (s _ q);refine rp (Kd (e.symm.trans (h.ci.o.at_.H.immIn _ q))) ?_;exact g.at_.H.immIn _ (g.adv.imm _ q),f.1,d.1,d.2⟩
theorem LI.item {h':Heap}{tk:Nat}(h:LI l i st us m y) (e:At l.cx l.z s0 l.x₀) (b:l.D≠l.I) (k:∀a o,a≠l.I->y.h.get? a=Vr o->h'.get? a=Vr o) (hs:l.St (i+1) h') (c:∃o,h'.get? l.I=Vr o):LI l (i+1) st us m (y.gr h' tk []):=⟨h.ci.but e h.fi k,hs,h.fi.but (d:=0) c,h.fd.but (d:=0) ⟨_,k _ _ b h.dl⟩,k _ _ b h.dl⟩
theorem LI.push {h':Heap}{tk:Nat}{u:Value}(h:LI l i st us m y) (t:At l.cx l.z s0 l.x₀) (it:It l.z.c.w l.z.A imm l.I vs R fp n P l.St T) (s:∀p∈imm,p∈l.x₀.imm) (g:l.D≠l.I) (k:∀a o,a≠l.D->y.h.get? a=Vr o->h'.get? a=Vr o) (r:h'.get? l.D=Vr (lstO (us++[u]) (m+1))):LI l i st (us++[u]) (m+1) (y.gr h' tk []):=⟨h.ci.but t h.fd k,it.W.frame i _ _ h.st λb v x e=>k b x (λq=>(it.fp b v).elim (λj=>g (q.symm.trans j)) λj=>j.elim λC j=>h.fd.f.imm _ (h.ci.o.adv.imm _ (s _ j)) q) e,h.fi.but (d:=0) (h.fi.a.imp λo e=>k _ _ (LV g) e),h.fd.but (d:=0) ⟨_,r⟩,r⟩
theorem EX {t:Kf}{v:V}{x:List (Str×V)}{Q:Shared->Prop}{K:Unit->Shared->Prop}{E:Value->Shared->Prop}(hh:l.z.A.handled=Vs) (h:LI l i st us m y) (C:At l.cx l.z s0 l.x₀) (it:It l.z.c.w l.z.A imm l.I vs R fp n P l.St T) (Y:∀p∈imm,p∈l.x₀.imm) (hR:∀v d,R v d->aZ l.z l.x₀ v d) (f:l.D≠l.I) (G:vs[i]?=Vr v) (L:dB l.cx' t v=Vr x) (k:∀w,LI l (i+1) st us m w->Adv l.z.c l.z.own l.x₀ w->(∀p∈y.imm,p∈w.imm)->At l.cx' l.z' ⟨eF x l.oF,st⟩ w->K () w.S):Kq (Kr PR l.z.c.w) l.z.A (Qk (.ref l.I)) (λr H=>match r with
   | none=>Q H
   | some v=>Kq (Kr PR l.z.c.w) l.z.A (OC t (.ref l.I) v) (λ_ M=>Kq (Kr PR l.z.c.w) l.z.A (Nn t l.env v) K E M) E H) E y.S:=by
 have U:i<n:=it.len▸(Kh.mp G).1;refine it.W.item i y.S _ E U h.st λval h' tk s b N=>?_;obtain ⟨o,J,F,O,e3⟩:=it.obj _ _ b;refine hU F O e3 it.own ?_;have j:=h.item (tk:=tk) C f (λa o q e=>N a o (λm=>q (Kk.mp m)) e) b ⟨o,F⟩;exact jw (z:=l.z') hh j.at' ((hR val v (it.rv i val v s G)).up j.ci.o.adv) L K E λ_ w g=>by
  have u:=j.run C it Y g;exact k w u u.ci.o.adv (λp s=>g.adv.imm p s) g.at_
theorem CJ {K:Value->Shared->Prop}{E:Value->Shared->Prop}{u:Value}(h:LI l i st us m y) (g:At l.cx l.z s0 l.x₀) (it:It l.z.c.w l.z.A imm l.I vs R fp n P l.St T) (f:∀p∈imm,p∈l.x₀.imm) (b:l.D≠l.I) (hz:us.length<=100000) (k:∀w,LI l i st (us++[u]) (m+1) w->w.imm=y.imm->K .none w.S):Kq (Kr PR l.z.c.w) l.z.A (call (.builtin "list.append") [.ref l.D,u]) K E y.S:=by
 refine append_at h.dl (λj hs d=>?_) (bQ (by rw[Kz];(first | walk_at "m" | lia)));rw[SG] at d;exact k (y.gr j y.S.toks []) (h.push (tk:=y.S.toks) g it f b (λa o q e=>(hs.2 a q).trans e) d) rfl
end
section
variable {k:Nat}(r:Sr k) (t elt:Kf) (ifs:List Kf)
def DF (l:LS) (vs:List V) (K:Res (List D)->Prop) (n:Nat) (S:Shared):Prop:=∃y st i us ds m,S=y.S/\i+n=vs.length/\LI l i st us m y/\RDs l.z.c.w y.imm us ds/\us.length<=i/\K (ez r l.cx' t elt ifs l.oF (vs.drop i) ds st)
structure CLd (l:LS) (vs:List V) (imm:Imm) (R:Value->V->Prop) (s0:St) (fp:List Addr) (n:Nat) (P:Nat->Value->Prop) (T:String):Prop where
 a0:At l.cx l.z s0 l.x₀
 it:It l.z.c.w l.z.A imm l.I vs R fp n P l.St T
 hm:∀p∈imm,p∈l.x₀.imm
 hR:∀v d,R v d->aZ l.z l.x₀ v d
 nid:l.D≠l.I
 hh:l.z.A.handled=Vs
 ok:Ok k l.cx' l.z'
 hl:vs.length<=100000
variable {l:LS}{vs:List V}{K:Res (List D)->Prop}{imm:Imm}{R:Value->V->Prop}{s0:St}{fp:List Addr}{n:Nat}{P:Nat->Value->Prop}{T:String}{RR:OM->Shared->Prop}
theorem Ar {i m:Nat}{us:List Value}{ds:List D}{y:X}{s1:St}{E:Value->Shared->Prop}{N:Nat}(j:¬K .bad) (L:CLd (k:=k) l vs imm R s0 fp n P T) (h:LI l i s1.st us m y) (p:At l.cx' l.z' s1 y) (F:i+N=vs.length) (rs:RDs l.z.c.w y.imm us ds) (hz:us.length+1<=i) (a:K (iX ((r.ev l.cx' elt).f s1) λu s=>optE u.d? .bad λd=>ez r l.cx' t elt ifs l.oF (vs.drop i) (ds++[d]) s.st)):Kq (Kr PR l.z.c.w) l.z.A (MT elt l.env) (λx q=>Kq (Kr PR l.z.c.w) l.z.A (call (.builtin "list.append") [.ref l.D,x]) (λ_ C=>∃m,m<N+1/\DF r t elt ifs l vs K m C) E q) E y.S:=(r.ev l.cx' elt).ok (z:=l.z') L.ok p _ _ (eL.bindX j a λu s2 val w g a=>by
  cases b:u.d? with
  | none=>rw[b] at a;exact absurd a j
  | some d=>
   rw[b] at a;have G:=L.hl;exact CJ (h.run L.a0 L.it L.hm g) L.a0 L.it L.hm L.nid (by lia) λv o e=>⟨N,Mb _,y5 v s2.st i _ _ ⟨_,w6 rfl F o (e▸(rs.mono g.adv.imm).append (.cons (RV.onD g.r b) .nil)) (by rw[Km,KP];exact hz) a⟩⟩)
def Ib (l:LS) (K:Res (List D)->Prop) (RR:OM->Shared->Prop):Prop:=∀y st us ds m,CI l.cx l.z l.x₀ l.cx' l.env l.own l.oF ⟨l.fr,st⟩ y->CFr l.cx' l.env l.own l.x₀ y l.D->y.h.get? l.D=Vr (lstO us m)->us.length<=16777216->RDs l.z.c.w y.imm us ds->K (.ok ds ⟨[],st⟩)->RR (.ok .next) y.S
theorem ou {y:X}{st:List SObj}{i m:Nat}{us:List Value}{ds:List D}{Q:Option Value->Shared->Prop}{E:Value->Shared->Prop}(L:CLd (k:=k) l vs imm R s0 fp n P T) (f:Ib l K RR) (s:i+0=vs.length) (h:LI l i st us m y) (rs:RDs l.z.c.w y.imm us ds) (hz:us.length<=i) (p:K (ez r l.cx' t elt ifs l.oF (vs.drop i) ds st)) (q:∀S,RR (.ok .next) S->Q Vs S):Kq (Kr PR l.z.c.w) l.z.A (Qk (.ref l.I)) Q E y.S:=by
 have x:=L.hl;have v:=L.it.len;rw[O3 (show vs.length<=i from O7 s.symm)] at p;have j:∀{g:Heap},(∀b o,b∉[l.I]->y.h.get? b=Vr o->g.get? b=Vr o)->∀b o,b≠l.I->y.h.get? b=Vr o->g.get? b=Vr o:=λa b o q e=>a b o (λm=>q (Kk.mp m)) e;exact L.it.W.done y.S Q E (v▸s▸h.st) λg u a=>q _ (f (y.gr g u []) st us ds m (h.ci.but L.a0 h.fi (j a)) (h.fd.but (d:=0) ⟨_,j a _ _ L.nid h.dl⟩) (j a _ _ L.nid h.dl) (by walk_at "n") rs p)
theorem vw {y:X}{st:List SObj}{i m N:Nat}{us:List Value}{ds:List D}{H:Shared->Prop}{G:Unit->Shared->Prop}{E:Value->Shared->Prop}(M:¬K .bad) (L:CLd (k:=k) l vs imm R s0 fp n P T) (Q:i+(N+1)=vs.length) (h:LI l i st us m y) (rs:RDs l.z.c.w y.imm us ds) (j:K (ez r l.cx' t elt ifs l.oF (vs.drop i) ds st)) (q:∀g w,LI l (i+1) st us m w->At l.cx' l.z' ⟨eF g l.oF,st⟩ w->RDs l.z.c.w w.imm us ds->K (iX (jC r l.cx' ifs ⟨eF g l.oF,st⟩) λb s=>cond b (iX ((r.ev l.cx' elt).f s) λu s=>optE u.d? .bad λd=>ez r l.cx' t elt ifs l.oF (vs.drop (i+1)) (ds++[d]) s.st) (ez r l.cx' t elt ifs l.oF (vs.drop (i+1)) ds s.st))->G () w.S):Kq (Kr PR l.z.c.w) l.z.A (Qk (.ref l.I)) (λr F=>match r with
   | none=>H F
   | some v=>Kq (Kr PR l.z.c.w) l.z.A (OC t (.ref l.I) v) (λ_ O=>Kq (Kr PR l.z.c.w) l.z.A (Nn t l.env v) G E O) E F) E y.S:=by
 have C:i<vs.length:=by walk_at "n"
 rw[Mp C] at j;cases e:dB l.cx' t vs[i] with
 | none=>exact absurd (show K .bad from rp (P:=λx=>K (optE x .bad _)) e.symm j) M
 | some g=>exact EX L.hh h L.a0 L.it L.hm L.hR L.nid (Kl C) e λw J p o a=>q g w J a (rs.mono o) (rp (P:=λx=>K (optE x .bad _)) e.symm j)
set_option maxHeartbeats 1000000 in
theorem xe {iter:Kf}{scope:OL}{pos:Pos}{y:X}{st:List SObj}(o:¬K .bad) (L:CLd (k:=k) l vs imm R s0 fp n P T) (h:LI l 0 st [] 0 y) (s:ifs.length<=1) (f:Ib l K RR) (e:K (ez r l.cx' t elt ifs l.oF vs [] st)):Mx (Kr PR l.z.c.w) l.z.A (.compLoop (.ListComp elt [⟨t,iter,ifs,0⟩] scope pos) 0 (.ref l.I) (.ref l.D) l.env) RR y.S:=by
 have start:DF r t elt ifs l vs K vs.length y.S:=y5 y st 0 [] [] ⟨0,w6 rfl (L2 _) h .nil (KL _) e⟩;clear e h;rcases ifs with _ | ⟨c,_ | ⟨_,_⟩⟩
 ·refine kcp_loop (DF r t elt [] l vs K) (λN S I=>?_) vs.length start;obtain ⟨y,st,i,v,E,m,rfl,hi,h,rs,hz,e⟩:=I;cases N with
  | zero=>exact ou r t elt [] L f hi h rs hz e λS q=>q
  | succ N=>exact vw r t elt [] o L hi h rs e λF w u a d g=>Ar r t elt [] o L u a (by walk_at "n") d (by walk_at "n") g
 ·refine kct_loop (DF r t elt [c] l vs K) (λN S I=>?_) vs.length start;obtain ⟨y,st,i,v,E,m,rfl,hi,h,rs,hz,e⟩:=I;cases N with
  | zero=>exact ou r t elt [c] L f hi h rs hz e λS q=>q
  | succ N=>
   exact vw r t elt [c] o L hi h rs e λF w u a d g=>(r.ts l.cx' c).ok (z:=l.z') L.ok a _ _ (eL.bindX o g λb s2 x G j p=>by
    obtain rfl:=show x=b from j.r
    have C:=u.run L.a0 L.it L.hm j;cases x with
    | true=>exact Ar r t elt [c] o L C j.at_ (by walk_at "n") (d.mono j.adv.imm) (by walk_at "n") p
    | false=>exact ⟨N,Mb _,y5 G s2.st (i+1) v E ⟨m,w6 rfl (by walk_at "n") C (d.mono j.adv.imm) (by walk_at "n") p⟩⟩)
 ·exact absurd s (by simp)
end
end
section
set_option linter.all false
section
variable {c:Cn}{cx:Cx}{z:Z}{env:Env}{own:List Addr}{fr:List (Str×V)}{s s0:St}{x y:X}{scope:OL}{names:List (Str×LM)}
noncomputable def jG (cx:Cx) (scope:OL):Bool:=(scope.kind==.function)&&scope.names.all λp=>(scope.names.lookup p.1==Vr p.2)&&(!(p.2==.free)||cC (cx.names.lookup p.1))
theorem jF (h:jG cx scope=Vt):scope.kind=.function/\(∀p∈scope.names,scope.names.lookup p.1=Vr p.2)/\∀n,(n,.free)∈scope.names->cC (cx.names.lookup n)=true:=by
 have h:=Kn.mp h;have g:=λp a=>Kn.mp (KS.mp h.2 p a);exact w3 (beq_iff_eq.mp h.1) (λp a=>beq_iff_eq.mp (g p a).1) (λn b=>(Mm.mp (g _ b).2).elim (λe=>nomatch e) id)
noncomputable def bW (env:Env):List (Str×LM)->List (Str×Addr)->List (Str×Addr)
 | [],acc=>acc
 | (n,a)::r,acc=>if a==.free then bW env r ((n,(env.cells.lookup n).getD 0)::acc) else bW env r acc
theorem kb {env:Env}{n:Str}{a:LM}{r:List (Str×LM)}{acc:List (Str×Addr)}:bW env ((n,a)::r) acc=if a==.free then bW env r ((n,(env.cells.lookup n).getD 0)::acc) else bW env r acc:=rfl
theorem pV (f:Str×LM->List (Str×Addr)->O0 (ForInStep (List (Str×Addr)))) (b:∀name kind c,f (name,kind) c=if kind==.free then (do let a <- cellOf env name;pure (.yield ((name,a)::c))) else pure (.yield c)):∀{names:List (Str×LM)}{acc:List (Str×Addr)},(∀n,(n,.free)∈names->∃a,env.cells.lookup n=Vr a)->
  forIn names acc f=pure (bW env names acc)
 | [],acc,h=>rfl
 | (n,i)::r,acc,h=>by
  rw[Qv,b];rw[kb];cases g:i==.free with
  | true=>
   obtain ⟨a,e⟩:=h n (by rw[<- eq_of_beq g];exact .head _);rw[e,if_pos rfl,if_pos rfl];unfold cellOf;rw[e];exact pV f b λn d=>h n (.tail _ d)
  | false=>
   rw[if_neg L1,if_neg L1];exact pV f b λn d=>h n (.tail _ d)
theorem tP {p:Str×Addr}:∀{names:List (Str×LM)}{acc:List (Str×Addr)},p∈bW env names acc->p∈acc\/p.2=(env.cells.lookup p.1).getD 0
 | [],_,h=>.inl h
 | (n,a)::r,acc,h=>by
  rw[kb] at h;split at h
  ·exact (tP h).elim (λh=>(Kw.mp h).elim (λe=>.inr (by rw[e])) .inl) .inr
  ·exact tP h
theorem tQ {p:Str×Addr}:∀{names:List (Str×LM)}{acc:List (Str×Addr)},p∈acc->p∈bW env names acc
 | [],_,h=>h
 | (n,a)::r,acc,h=>by
  rw[kb];split
  ·exact tQ (.tail _ h)
  ·exact tQ h
theorem pW {n:Str}:∀{names:List (Str×LM)}{acc:List (Str×Addr)},(n,.free)∈names->∃a,(n,a)∈bW env names acc
 | (m,b)::r,acc,h=>by
  rw[kb];refine (Kw.mp h).elim (λe=>?_) λh=>?_
  ·cases e;exact ⟨_,tQ (.head _)⟩
  ·split
   ·exact pW h
   ·exact pW h
theorem pX {n:Str}{a:Addr}(h:(n,.free)∈names) (e:env.cells.lookup n=Vr a):(bW env names []).lookup n=Vr a:=by
 obtain ⟨b,f⟩:=pW (env:=env) (acc:=[]) h;obtain ⟨d,c⟩:=kB f;rw[c,show d=_ from (tP (mem_of_lookup c)).elim (λh=>nomatch h) id,e];rfl
theorem qK (f:Str->LM->Bool){n:Str}:∀{names:List (Str×LM)},(names.map λp=>if f p.1 p.2=Vt then (p.1,Pi) else (p.1,p.2)).lookup n=(names.lookup n).map λk=>if f n k=Vt then .cell else k
 | []=>rfl
 | (m,k)::r=>by
  have a:=qK f (n:=n) (names:=r);show Qo n ((if f m k=Vt then (m,Pi) else (m,k))::_)=KJ _ (Qo n ((m,k)::r));by_cases q:f m k=Vt
  ·rw[if_pos q,MK,MK];cases h:n==m with
   | true=>refine rp (eq_of_beq h) ?_;exact (congrArg Vr (if_pos q)).symm
   | false=>exact a
  ·rw[if_neg q,MK,MK];cases h:n==m with
   | true=>refine rp (eq_of_beq h) ?_;exact (congrArg Vr (if_neg q)).symm
   | false=>exact a
end
noncomputable def ef (names:List (Str×LM)) (fr:List (Str×V)):List (Str×V):=fr.filter λq=>names.lookup q.1==Vr .free
theorem pj {names:List (Str×LM)}{n:Str}{v:V}:∀{fr:List (Str×V)},get n (ef names fr)=Vr v->names.lookup n=Vr .free/\get n fr=Vr v:=@lr _ _ (@λh=>au h) (λp r b=>(@λh=>by
  unfold ef at h;rw[Mt] at h;cases a:names.lookup p.1==Vr .free with
  | true=>
   rw[a,if_pos rfl] at h;change (if p.1=n then Vr p.2 else get n (ef names r))=Vr v at h;show _/\(if p.1=n then Vr p.2 else get n r)=Vr v;by_cases q:p.1=n
   ·rw[if_pos q] at h ⊢;exact ⟨q▸beq_iff_eq.mp a,h⟩
   ·rw[if_neg q] at h ⊢;exact b h
  | false=>
   rw[a,if_neg L1] at h;have c:=b h;refine ⟨c.1,?_⟩;show (if p.1=n then Vr p.2 else get n r)=Vr v
   rewrite [if_neg λq=>?_]
   ·exact c.2
   ·rw[q,c.1] at a;cases a))
noncomputable abbrev Dk (scope:OL) (C:Addr) (a:List (Str×Addr)) (env:Env):Env:={UF scope C env.globals (bU scope.names C++a) env.qual Vs .none (Vr env) M8 with scope:=U7 scope env}
noncomputable def dW (cx:Cx) (scope:OL):Cx:=⟨scope.names,Vt,cx.inH⟩
section
variable {k:Nat}{cx:Cx}{z:Z}{s:St}{x:X}(r:Sr k) (t elt:Kf) (ifs:List Kf) (scope:OL)
set_option maxHeartbeats 1000000 in
theorem A2 {vs:List V}{val:Value}{iter:Kf}{pos:Pos}{K:Res (List D)->Prop}{RR:Value->Addr->OM->Shared->Prop}{E:Value->Shared->Prop}(o:Ok k cx z) (a:At cx z s x) (i:Bv z x vs (io z val)) (sc:jG cx scope=Vt) (hi:cx.inH=Vu) (U:ifs.length<=1) (hl:vs.length<=100000) (G:¬K .bad) (hk:K (ez r (dW cx scope) t elt ifs (ef scope.names s.fr) vs [] s.st)) (Q:∀D C y st ds,Nx cx z x ⟨s.fr,st⟩ y (ja z x y (.ref D) ds)->Fresh x y C->(∃m,y.h.Ns C m)->D≠C->K (.ok ds ⟨[],st⟩)->RR (.ref D) C (.ok .next) y.S):Kq (Kr PR z.c.w) z.A (Rr val) (λit s₂=>Kq (Kr PR z.c.w) z.A (TZ []) (λacc s₃=>Kq (Kr PR z.c.w) z.A (N1 scope z.env.globals (bW z.env scope.names []) [] z.env.qual Vs .none (Vr z.env)) (λp s₄=>
   Mx (Kr PR z.c.w) z.A (.compStart (.ListComp elt [⟨t,iter,ifs,0⟩] scope pos) 0 it acc {p with scope:=U7 scope z.env}) (RR acc p.locals) s₄) E s₃) E s₂) E x.S:=by
 obtain ⟨sk,sf,sn⟩:=jF sc;refine i _ _ λd fp n Pt St T it h0 J=>LY ?_;have e1:(x.h.push d).objs.size=x.h.objs.size+1:=LK ..;have e2:((x.h.push d).push (lstO [] 0)).objs.size=x.h.objs.size+2:=by rw[LK,e1]
 have k2:Kp x.h ((x.h.push d).push (lstO [] 0)):=λb o e=>aM _ _ _ _ (aM _ _ _ _ e);have n2:=a.kp (h':=(x.h.push d).push (lstO [] 0)) (tk:=x.S.toks) (ex:=[]) (r:=True) k2 (λ_ h=>nomatch h) trivial;refine nX (x:=x.gr ((x.h.push d).push (lstO [] 0)) x.S.toks []) (T:="dict") rfl (Ks ?_);have Y:Kp ((x.h.push d).push (lstO [] 0)) (dG scope.names "dict" ((x.h.push d).push (lstO [] 0))):=mH (x:=x.gr ((x.h.push d).push (lstO [] 0)) x.S.toks []);have n3:=n2.at_.kp (h':=dG scope.names "dict" ((x.h.push d).push (lstO [] 0))) (tk:=x.S.toks) (ex:=[]) (r:=True) Y (λ_ h=>nomatch h) trivial;have j:∀n,scope.names.lookup n=Vr .free->cC (cx.names.lookup n)=true:=λn q=>sn n (mem_of_lookup q);have cl:∀n,scope.names.lookup n=Vr .free->∃b o val,z.env.cells.lookup n=Vr b/\(bW z.env scope.names []).lookup n=Vr b/\x.h.get? b=Vr o/\o.data=.cell val/\∀v,get n s.fr=Vr v->∃u,val=Vr u/\aZ z x u v:=λn q=>by
  obtain ⟨b,o,val,N,f2,f3,f4⟩:=a.F.cells n (j n q);exact y3 b o val (w5 N (pX (mem_of_lookup q) N) f2 f3 f4)
 have hC:(x.gr ((x.h.push d).push (lstO [] 0)) x.S.toks []).h.objs.size=x.h.objs.size+2:=e2;have a6:∀n,(Dk scope ((x.h.push d).push (lstO [] 0)).objs.size (bW z.env scope.names []) z.env).kindOf n=(scope.names.lookup n).map λkd=>if (kd==.free&&z.env.scope.kind==.function&&z.env.kindOf n==Vr .cell)=Vt then .cell else kd:=λn=>qK λm kd=>kd==.free&&z.env.scope.kind==.function&&z.env.kindOf m==Vr .cell
 have P:EI z.c (dW cx scope) (Dk scope ((x.h.push d).push (lstO [] 0)).objs.size (bW z.env scope.names []) z.env) (frOwn scope.names ((x.h.push d).push (lstO [] 0)).objs.size) (ef scope.names s.fr) ((x.gr ((x.h.push d).push (lstO [] 0)) x.S.toks []).gr (dG scope.names "dict" ((x.h.push d).push (lstO [] 0))) x.S.toks []):=.new (x:=x.gr ((x.h.push d).push (lstO [] 0)) x.S.toks []) n2.at_.H ⟨sf,λn v g=>(pj g).1,λn q=>(cl n q).imp λb h=>h.imp λo h=>h.imp λval h=>w5 h.2.1 (k2 _ _ h.2.2.1) h.2.2.2.1 ((n2.at_.F.cellL n b (j n q) h.1).1) (λv g=>h.2.2.2.2 v (pj g).2),λn n' b q q' e e'=>by
   obtain ⟨b1,_,_,N,g1,_⟩:=cl n q;obtain ⟨b2,_,_,f2,g2,_⟩:=cl n' q';obtain rfl:=Kd (e.symm.trans g1);obtain rfl:=Kd (e'.symm.trans g2);exact a.F.cellI n n' b (j n q) (j n' q') N f2⟩
   ⟨sk,a.F.glb,a.F.blt,λn=>by
    rw[a6 n];refine w4 (λh=>by rw[h];rfl) (λh=>?_) (λh=>by rw[h];rfl) (λh=>by rw[h];rfl);refine (zB h).elim (λh=>by rw[h];rfl) λh=>?_;rw[h];show cC (Vr (if _ then Pi else SC))=Vt;split<;>rfl,rfl,rfl⟩
 have M:∀b∈frOwn scope.names ((x.h.push d).push (lstO [] 0)).objs.size,x.h.objs.size+2<=b:=λb G=>e2▸iz (x:=x.gr ((x.h.push d).push (lstO [] 0)) x.S.toks []) G;have I:∀{b:Addr},x.h.objs.size<=b->Fresh x ((x.gr ((x.h.push d).push (lstO [] 0)) x.S.toks []).gr (dG scope.names "dict" ((x.h.push d).push (lstO [] 0))) x.S.toks []) b:=λ{b} G=>have q:=fB a.H G;⟨q.1,q.2.1,KV G⟩;have R:St 0 (dG scope.names "dict" ((x.h.push d).push (lstO [] 0))):=it.W.frame 0 _ _ h0 λb _ o e=>Y _ _ (aM _ _ _ _ e);have a1:x.h.objs.size<=(x.h.push d).objs.size:=by lia
 have a2:¬x.h.objs.size+2<=x.h.objs.size:=by lia
 have a3:¬x.h.objs.size+2<=(x.h.push d).objs.size:=by lia
 have a4:(x.h.push d).objs.size≠((x.h.push d).push (lstO [] 0)).objs.size:=by lia
 have a5:(x.h.push d).objs.size≠x.h.objs.size:=by lia
 have L0:LI ⟨cx,z,x,dW cx scope,Dk scope ((x.h.push d).push (lstO [] 0)).objs.size (bW z.env scope.names []) z.env,frOwn scope.names ((x.h.push d).push (lstO [] 0)).objs.size,ef scope.names s.fr,s.fr,x.h.objs.size,(x.h.push d).objs.size,St⟩ 0 s.st [] 0 ((x.gr ((x.h.push d).push (lstO [] 0)) x.S.toks []).gr (dG scope.names "dict" ((x.h.push d).push (lstO [] 0))) x.S.toks []):=⟨⟨.trans n2.adv n3 id,P,λb G=>KV (Lr (OV _ 2) (M b G)),λn q=>⟨j n q,?_⟩,λn b q e=>P.cellO n b q e,λn v g=>pj g⟩,R,⟨I (KL _),⟨d,Y _ _ (aM _ _ _ _ (Kt _ J))⟩,λm=>a2 (M _ m)⟩,⟨I a1,⟨_,Y _ _ (Kt _ rfl)⟩,λm=>a3 (M _ m)⟩,Y _ _ (Kt _ rfl)⟩
 ·have L:CLd (k:=k) ⟨cx,z,x,dW cx scope,Dk scope ((x.h.push d).push (lstO [] 0)).objs.size (bW z.env scope.names []) z.env,frOwn scope.names ((x.h.push d).push (lstO [] 0)).objs.size,ef scope.names s.fr,s.fr,x.h.objs.size,(x.h.push d).objs.size,St⟩ vs x.imm (aZ z x) s fp n Pt T:=⟨a,it,λ_ h=>h,λ_ _ h=>h,a5,o.hd hi,⟨o.B,(λh=>nomatch h),o.frames,o.hd,o.depth,o.units⟩,hl⟩
  have l:=xe (RR:=RR (.ref (x.h.push d).objs.size) ((x.h.push d).push (lstO [] 0)).objs.size) (iter:=iter) (scope:=scope) (pos:=pos) r t elt ifs G L L0 U (λy st us ds m O cd dl hz rs hk=>Q _ _ y st ds ⟨O.o.at_,O.o.adv,_,us,m,rfl,dl,cd.f,hz,rs⟩ ⟨(O.i.ownI _ (.head _)).1,(O.i.ownI _ (.head _)).2.1,O.new _ (.head _)⟩ (O.i.ns.imp λm h=>h.1) a4 hk) hk;exact codeAny_compStart_list l (it.W.self 0 _ _ _ R l)
 ·skip
  obtain ⟨b,_,_,N,g1,_⟩:=cl n q;show Qo n (bU scope.names _++bW z.env scope.names [])=Qo n z.env.cells;rw[So,N,g1];cases h:(bU scope.names ((x.h.push d).push (lstO [] 0)).objs.size).lookup n with
  | none=>rfl
  | some b'=>exact (pZ (mem_of_lookup h)).elim (λh=>nomatch h) λh=>nomatch (sf _ h).symm.trans q
end
end
section
set_option linter.all false
section
variable {k:Nat}{cx:Cx}(r:Sr k) (elt t it:Kf) (ifs:List Kf) (scope:OL) (pos:Pos)
noncomputable def Ba (fr:List (Str×V)) (x:Res (List D)):Res (List D):=Res.casesOn x (λds s=>.ok ds ⟨fr,s.st⟩) (λ_ _ _=>.bad) .bad
noncomputable def li (v:V) (s:St):Res (List D):=optE (cS s.st v) .bad λp=>if p.1.length<=100000 then Ba s.fr (ez r (dW cx scope) t elt ifs (ef scope.names s.fr) p.1 [] p.2) else .bad
abbrev dM (cx:Cx) (it:Kf) (ifs:List Kf) (scope:OL):Prop:=jG cx scope=Vt/\cx.inH=Vu/\pC it=Vu/\ifs.length<=1
theorem gB {z:Z}{s:St}{x:X}(a:At cx z s x) (h:jG cx scope=Vt):closureFor scope z.env=pure (bW z.env scope.names []):=by
 obtain ⟨_,_,sn⟩:=jF h;unfold closureFor;show (forIn scope.names [] _ >>= pure)=_;rw[pV (env:=z.env) _ (λc b f=>by cases d:b==SC<;>simp[d]) λn e=>(a.F.cells n (sn n e)).imp λ_ h=>h.elim λ_ h=>h.elim λ_ h=>h.1];rfl
theorem nT {cx:Cx}{z:Z}{a s:St}{x₀ y:X}{C:Addr}{h':Heap}{r r':Prop}(c:At cx z a x₀) (n:Nx cx z x₀ s y r) (f:Fresh x₀ y C) (hs:MV C y.h h') (d:r'):Nx cx z x₀ s (y.gr h' y.S.toks []) r':=Nx.heap (W:=λb=>b=C) c n (λb o e=>if q:b=C then .inl q else .inr (.inl ((hs.2 b q).trans e))) (λb e=>e▸f) (λ_ h=>nomatch h) d
theorem Res.bind_assoc {α β γ:Type}(a:Res α) (f:α->St->Res β) (g:β->St->Res γ):(a.bind f).bind g=a.bind λv s=>(f v s).bind g:=by cases a<;>rfl
theorem vv {iter:Kf}{z:Z}{x:X}{v:V}{val:Value}{y:X}{s1:St}{α:Type}{β:Type}{RB:X->β->α->Prop}{f:List D->St->Res α}{Q:β->Shared->Prop}{E:Value->Shared->Prop}{RR:Value->Addr->OM->Shared->Prop}(o:Ok k cx z) (j:dM cx it ifs scope) (n:Nx cx z x s1 y (aZ z y val v)) (a:eL cx z RB x ((li (cx:=cx) r elt t ifs scope v s1).bind f) Q E) (g:∀d D C w s2 ds,At cx z s2 d->Adv z.c z.own x d->(∀st,s2=st->True)->∀F,Nx cx z d F w (ja z d w (.ref D) ds)->Fresh d w C->(∃m,w.h.Ns C m)->D≠C->eL cx z RB x (f ds F) Q E->RR (.ref D) C (.ok .next) w.S):Kq (Kr PR z.c.w) z.A (Rr val) (λit I=>Kq (Kr PR z.c.w) z.A (TZ []) (λacc H=>Kq (Kr PR z.c.w) z.A (N1 scope z.env.globals (bW z.env scope.names []) [] z.env.qual Vs .none (Vr z.env)) (λb M=>
   Mx (Kr PR z.c.w) z.A (.compStart (.ListComp elt [⟨t,iter,ifs,0⟩] scope pos) 0 it acc {b with scope:=U7 scope z.env}) (RR acc b.locals) M) E H) E I) E y.S:=by
 cases q:cS s1.st v with
 | none=>unfold li at a;rw[q] at a;exact a.elim
 | some p=>
  obtain ⟨d,e,m,i⟩:=ur o.B (o.hd j.2.1) n.at_ n.r q;unfold li at a;rw[q] at a;change eL cx z RB x ((if p.1.length<=100000 then Ba s1.fr (ez r (dW cx scope) t elt ifs (ef scope.names s1.fr) p.1 [] p.2) else .bad).bind f) Q E at a;by_cases s:p.1.length<=100000
  ·rw[if_pos s] at a;rw[<- e];exact A2 (K:=λl=>eL cx z RB x ((Ba s1.fr l).bind f) Q E) r t elt ifs scope o m.at_ i j.1 j.2.1 j.2.2.2 s (λh=>h) a λD C w st ds J L N u G=>g d D C w _ ds m.at_ (n.adv.trans m.adv) (λ_ _=>trivial) ⟨s1.fr,st⟩ J L N u G
  ·rw[if_neg s] at a;exact a.elim
noncomputable def fO:Mk k cx (.ListComp elt [⟨t,it,ifs,0⟩] scope pos):=⟨λs=>if dM cx it ifs scope then ((r.ev cx it).f s).bind λv s=>(li (cx:=cx) r elt t ifs scope v s).bind .ok else .bad,λ{z s x} o a=>aN.ite λb Q E h=>by
 obtain ⟨sk,K,_⟩:=jF b.1;rw[eval_ListComp];refine RW (use:=Vs) rfl (pI b.2.2.1) (gB scope a b.1) sk (λp u e=>by rw[K p u,e]) ((r.ev cx it).ok o a _ _ (h.bind (.refl _ _ _) (λv s1 val y n G=>?_) λ_ _ _ _ y n hz=>hz y n));exact vv (RR:=λacc C=>compPost (Kr PR z.c.w) z.A E Vs Q acc C) r elt t it ifs scope pos o b n G λN D C w s2 ds H j _ M i J L g F=>L.imp λm hn=>⟨hn,λh' hs=>by
  obtain ⟨O,us,I,e,q,d,hz,rs⟩:=i.r;obtain rfl:=Ov e;have l:=nT H i J hs (r':=True) trivial;exact F (.ref D) (w.gr h' w.S.toks []) ⟨l.at_,j.trans l.adv,D,us,I,rfl,(hs.2 D g).trans q,⟨d.la,d.imm,j.dead d.new⟩,hz,rs⟩⟩⟩
noncomputable def uf (n:Str) (j g:Pos):Ex k cx (.Assign [.Name n j] (.ListComp elt [⟨t,it,ifs,0⟩] scope pos) g):=⟨λs=>if bC (cx.names.lookup n)=Vt then ((fO r elt t it ifs scope pos).f s).bind λds s=>.ok .next ⟨aY n (.d (.lst ds)) s.fr,s.st⟩ else .bad,λ{z s x} o a=>aN.ite λhn=>by
 have i:∃b,Se (.ListComp elt [⟨t,it,ifs,0⟩] scope pos) (Vr (.Name n j)) g.line z.env=pure b:=⟨_,rfl⟩
 obtain ⟨b,i⟩:=i;cases b with
 | false=>
  have:=(((fO r elt t it ifs scope pos).ev.ok o a).bind (RC:=RF z) (K:=λv Q E l=>Kq (Kr PR z.c.w) z.A (Oj z.env n v) (λ_=>Q Mq) E l) λv s1 va y m=>aN.store m.at_ hn m.r λ_ _=>fH (z:=z))
  change aN cx z (RF z) x ((((fO r elt t it ifs scope pos).f s).bind λds s=>Res.ok (V.d (.lst ds)) s).bind _) _ at this;rw[Res.bind_assoc] at this;exact this.of λ_ _ h'=>TV h' i
 | true=>
  intro Q E h;unfold fO at h;by_cases u:dM cx it ifs scope
  ·change eL cx z (RF z) x (Res.bind (if dM cx it ifs scope then _ else _) _) Q E at h;rw[if_pos u,Res.bind_assoc] at h;obtain ⟨sk,sf,_⟩:=jF u.1;show Kq _ _ (exec (.Assign [.Name n j] (.ListComp elt [⟨t,it,ifs,0⟩] scope pos) g) z.env) _ _ _;rw[exec_Assign_Name_used _ _ _ _ i];refine Kg (Mn (Kg ?_));show Kq _ _ (do let _ <- comprehension (.ListComp elt [⟨t,it,ifs,0⟩] scope pos) scope z.env _ (TZ []) Vu (MT it z.env) (Vr (Nn (.Name n j) z.env))) _ _ _;refine Kg (KQ (RW (use:=Vr (Nn (.Name n j) z.env)) (Q:=λ_ l=>Q .next l) rfl (pI u.2.2.1) (gB scope a u.1) sk (λp hp e=>by rw[sf p hp,e]) ((r.ev cx it).ok o a _ _ (h.bind (.refl _ _ _) (λv s1 val y nn hv=>?_) λ_ _ _ _ y n hz=>hz y n))) (λ_ l L=>Ks (Ks L)) λ_ _ e=>e);rw[Res.bind_assoc] at hv;exact vv (RR:=λacc C=>compPost (Kr PR z.c.w) z.A E (Vr (Nn (.Name n j) z.env)) (λ_ l=>Q .next l) acc C) r elt t it ifs scope pos o u nn hv λN D C w s2 ds M p' _ s3 Y T H O hk=>by
    obtain ⟨D',us,P,e,hd,fD,hz,rs⟩:=Y.r;obtain rfl:=Ov e;obtain ⟨m,H⟩:=H;have R:=Nx.take (r':=aZ z (w.gr w.h w.S.toks [(D,lstO us P)]) (.ref D) (.d (.lst ds))) M Y hd fD (RD.lst (.head _) hz (mD rs));have F:Fresh N (w.gr w.h w.S.toks [(D,lstO us P)]) C:=⟨T.la,λq L=>(Kw.mp L).elim (λe'=>by rw[e'];exact O) (T.imm q),T.new⟩
    show Kq _ _ (Nn (.Name n j) z.env (.ref D)) _ _ w.S;refine fR (x:=w.gr w.h w.S.toks [(D,lstO us P)]) R.at_ hn R.r λI G=>?_;have J:Fresh N I C:=H.elim λo h=>h.elim λ_ h=>h.elim λ_ h=>F.keep h.1 G.adv;have n2:Nx cx z N _ I True:=⟨G.at_,R.adv.trans G.adv,trivial⟩
    exact ⟨m,H.at' λo e=>F.same M e G.adv,λh' hs=>have U:=nT M n2 J hs (r':=True) trivial;hk .next (I.gr h' I.S.toks []) ⟨U.at_,p'.trans U.adv,fH⟩⟩
  ·change eL cx z (RF z) x (Res.bind (if dM cx it ifs scope then _ else _) _) Q E at h;rw[if_neg u] at h;exact h.elim⟩
end
end
section
set_option linter.all false
section
variable {w:Lh}{A:Lg}{a b l:Addr}{i:Nat}{us:List Value}{n:Nat}{s:Shared}{Q:Value->Shared->Prop}{E:Value->Shared->Prop}
noncomputable abbrev yP (b:Addr):Code:=.builtin "list_iterator.__next__" ⟨[.ref b],[]⟩
theorem F2:UI "list_iterator.__next__" ⟨[.ref b],[]⟩=pure ():=rfl
theorem yG:(yP b).quiet=true:=by kernel_rfl
theorem Cl (j:s.heap.get? a=Vr (sZ b)) (f:s.heap.get? b=Vr (zz l i)) (k:s.heap.get? l=Vr (lstO us n)) (h:Kq (Kr PR w) (A.under (yP b)) (match us.toArray[i]? with
   | some x=>do Nk (.ref b) 1 (Lu ((i:Int)+1));ret x
   | none=>do rule (toString "list_iterator.__next__"++toString ".end");Nk (.ref b) 0 .none;OI) (λc d=>∃v,c=.done (.ret v)/\Q v d) E s):Kq (Kr PR w) A (call (.ref a) []) Q E s:=by
 refine Og (Rg ?_);show Kq _ _ (callAny (.ref a) ⟨[],[]⟩) _ _ _;unfold callAny;refine Kg (TA j ?_);show Kq _ _ (do UI "list_iterator.__next__" ⟨[.ref b],[]⟩;return <- again (.builtin "list_iterator.__next__" ⟨[.ref b],[]⟩)) _ _ _;refine Kg (MP (a:=()) F2 ?_);refine Kg (Ks (Ks ⟨yG,M0 entry_listiter_next ?_⟩));show Kq _ _ (Vl (.ref b) 0 >>= _) _ _ s;refine Kg (Ny f rfl (x:=.ref l) rfl ?_);show Kq _ _ (if (Nb l==Nm)=Vt then _ else _) _ _ s;rw[if_neg (show ¬((Nb l==Nm)=Vt) from L1)];show Kq _ _ (Vl (.ref b) 1 >>= _) _ _ s;refine Kg (Ny f rfl (x:=.int i 0) rfl ?_);show Kq _ _ (seqItems? (.ref l) >>= _) _ _ s;refine Kg (PP k rfl ?_);simp only[KT];exact KQ h (λc d g=>by obtain ⟨v,rfl,q⟩:=g;exact q) λ_ _ e=>e
theorem CK {h:Heap}(c:h.get? a=Vr (sZ b)):∃k,(k=PN\/k=O9\/k=OD)/\T7 (Kr PR w) h (S5 (.ref a)) k:=⟨.machine,.inr (.inl rfl),(S8 c).andThen .now⟩
theorem HU {x:X}{p:Addr}{k:Nat}{v:Value}{j:Int}{t:PT}(b:x.h.get? p=Vr (lstO us n)) (hz:us.length<=16777216) (e:ki us.length j=Vr k) (c:us[k]?=Vr v) (q:Q v x.S):Kq (Kr PR w) A (OH (.ref p) (.int j t)) Q E x.S:=by
 obtain ⟨g,f⟩:=iP e;have d:us.toArray.size=us.length:=Kz;rcases f with ⟨a,rfl⟩ | ⟨a,h3,rfl⟩
 ·exact TC (aJ b) a (by walk_at "n") (gC c) q
 ·exact Sv (aJ b) a (by walk_at "n") (by walk_at "n") (by rw[d];exact gC c) q
end
noncomputable def qE (st:List SObj) (v:V) (u:V):Option Nat:=u.d?.bind λd=>d.int?.bind λi=>v.loc?.bind λl=>(st[l]?).bind λo=>o.nexts?.bind λls=>(ki ls.length i).bind λk=>ls[k]?
noncomputable def kU (m:Nat) (s:St):Res V:=optE ((s.st[m]?).bind SObj.iter?) .bad λp=>optE ((s.st[p.1]?).bind SObj.list?) .bad λds=>optE (ds[p.2]?) (.exn (.bi .stopIteration) [] ⟨s.fr,s.st.set m .gone⟩) λd=>.ok (.d d) ⟨s.fr,s.st.set m (.iter p.1 (p.2+1))⟩
section
variable {cx:Cx}{z:Z}{s:St}{x:X}{k:Nat}
theorem zv {m:Nat}{a b:Addr}(hh:z.A.handled=Vs) (f:At cx z s x) (T:x.h.get? a=Vr (sZ b)) (Y:x.ρ[m]?=Vr b):aN cx z (aZ z) x (kU m s) (tr z (call (.ref a) [])):=λQ E q=>by
 unfold kU at q;cases v:(s.st[m]?).bind SObj.iter? with
 | none=>rw[v] at q;exact q.elim
 | some p=>
  rw[v] at q;change eL cx z (aZ z) x (optE ((s.st[p.1]?).bind SObj.list?) .bad _) Q E at q;cases l:(s.st[p.1]?).bind SObj.list? with
  | none=>rw[l] at q;exact q.elim
  | some ds=>
   rw[l] at q;change eL cx z (aZ z) x (optE (ds[p.2]?) _ _) Q E at q;refine aA v λo N f2=>aA l λo2 f3 f4=>?_;refine aC λI g=>?_;obtain rfl:=uY f2;obtain rfl:=eO f4;obtain ⟨b',ft,t,j,J,rfl,g3⟩:=f.H.foot m _ N;obtain rfl:=Kd (Y.symm.trans t);obtain ⟨b3,R,K,k2,us,n,rfl,hz,rs⟩:=f.H.foot p.1 _ f3;refine g ?_;obtain rfl:=Kd (g3.symm.trans K);have i:=f.H.ledIn _ (aD j (.head _));have U:=f.H.ledIn _ (aD k2 (.head _));refine Cl T i U ?_;cases k:ds[p.2]? with
   | some d=>
    refine aC λI g=>?_;obtain ⟨u,hu,ru⟩:=rs.get k;refine g ?_;rw[gC hu];rw[k] at q;refine Kg (Na i rfl (Mb 1) (Ks ⟨u,rfl,?_⟩));exact (aN.upd (RB:=aZ z) (so:=.iter p.1 (p.2+1)) (d:=V.d d) (P:=λQ E s'=>Q u {x.S with heap:=x.h.update b (MA (·.setIfInBounds 1 (Lu ((p.2:Int)+1))))}) f j t λQ E q=>q _ x.S.toks (zz J (p.2+1)) u (LX ..) (by
     refine (Lq _ i (MQ (MN rfl _))).trans (congrArg Vr ?_);rfl) ⟨J,rfl,g3⟩ λy h1 L=>by show RD _ y.imm _ _;rw[L];exact ru) Q E q
   | none=>
    rw[k] at q;have hn:us.toArray[p.2]?=none:=by
     have:=K8.mp k;have:=rs.length;rw[Array.getElem?_eq_none_iff,Kz];lia
    rw[hn];refine aC λI g=>?_;obtain ⟨o',e4⟩:∃o',(x.h.update b (MA (·.setIfInBounds 0 .none))).get? b=Vr o':=⟨_,Lq _ i (MQ (MN rfl _))⟩
    refine g ?_;have hs:MV b x.h (x.h.update b (MA (·.setIfInBounds 0 .none))):=LX ..;have nL:b≠z.env.locals:=λe=>(f.F.ownI _ f.F.loc).1 (e▸HI.mem j (.head _));have C:=f.up (so:=.gone) (ft':=[(b,o')]) (tk:=x.S.toks) (r':=True) j t rfl (λp O=>by rw[Kk.mp O];exact e4) (λc o e=>if n:c=b then .inl (n▸.head _) else .inr (.inr ((hs.2 c n).trans e))) (λm hm=>hm.sameBut hs nL.symm) (.inr ⟨o',rfl⟩) trivial;refine Kg (Qh (Kg (Na i rfl (M9 1) ?_)));refine Kg ?_;simp only[UE,Pd];refine Kg (LY ?_ (by size_fits));refine Kg (m:=N3 _ _) (MP (a:=Nm) (by first | rfl | (simp only[N3];rfl)) ?_);refine LY ?_ (by size_fits);refine Ti hh ?_;exact qJ (x:=x.up m [(b,o')] (x.h.update b (MA (·.setIfInBounds 0 .none))) x.S.toks) (tk:=x.S.toks) (s:=⟨s.fr,s.st.set m .gone⟩) C.at_ (kc:=.bi .stopIteration) (vals:=[]) (ds:=[]) ⟨λb o M=>KM _ (KM _ M),KV (by rw[LK];exact MX _),_,Kt _ rfl,bF _,KM _ (Kt _ rfl)⟩ .nil (LE _) λea w G=>q ea w ⟨G.at_,C.adv.trans G.adv,G.r.lift C.adv⟩
theorem Cu {v u:V}{m:Nat}{g r:Value}{e i:Kf}{Q:Value->Shared->Prop}{E:Value->Shared->Prop}(f:At cx z s x) (M:aZ z x g v) (T:aZ z x r u) (h:qE s.st v u=Vr m) (q:∀a b,x.h.get? a=Vr (sZ b)->x.ρ[m]?=Vr b->Q (.ref a) x.S):Kq (Kr PR z.c.w) z.A (Lz e i g r) Q E x.S:=aA h λd O h=>aA h λj L h=>RD.onInt (P:=λr=>Kq (Kr PR z.c.w) z.A (Lz e i g r) Q E x.S) (T.onD O) L λt=>f.H.onL (P:=λg=>Kq (Kr PR z.c.w) z.A (Lz e i g (.int j t)) Q E x.S) M h λ{l a U o} _ F h=>aA h λY R h=>aA h λk C J=>by
  refine aC λGz y=>?_;obtain rfl:=mj R;obtain ⟨N,n,rfl,hz,rs⟩:=F.foot;have I:=f.H.ledIn _ (aD F.led (.head _));rw[<- rs.1] at C;obtain ⟨w,G⟩:∃w,N[k]?=Vr w:=⟨_,Kl (iP C).1⟩
  obtain ⟨l2,p,b,K,rfl,f3,f4⟩:=rs.2 k w G;obtain rfl:=Kd (J.symm.trans K);refine y ?_;exact lu ⟨_,I,rfl⟩ P7 (HU I hz C G (q p b (f.H.immIn _ f3) f4))
noncomputable def GU (r:Sr k) (e i:Kf) (p pos:Pos):Ev k cx (.Call (.Subscript e i p) [] [] pos):=⟨λs=>if cx.inH=Vu then ((ek r cx e).f s).bind λv s=>((r.ev cx i).f s).bind λu s=>optE (qE s.st v u) .bad λm=>kU m s else .bad,λ{z s x} o a=>aN.ite λJ=>
 (((ek r cx e).ok o a).bind (K:=λt Q E H=>Kq (Kr PR z.c.w) z.A (MT i z.env) (λd g=>Kq (Kr PR z.c.w) z.A (Lz e i t d) (λf l=>Kq (Kr PR z.c.w) z.A (M2 pos f [] (Mw pos (LH [] z.env)) []) Q E l) E g) E H) λv s1 t y n=>((r.ev cx i).ok o n.at_).bind (K:=λd Q E g=>Kq (Kr PR z.c.w) z.A (Lz e i t d) (λf l=>Kq (Kr PR z.c.w) z.A (M2 pos f [] (Mw pos (LH [] z.env)) []) Q E l) E g) λu s2 d w m=>by
  cases G:qE s2.st v u with
  | none=>exact .bad
  | some j=>exact λQ E q=>Cu m.at_ (n.r.up m.adv) m.r G λa b C I=>fu (z:=z) (es:=[]) (first:=[]) (P:=λh=>h.get? a=Vr (sZ b)) rfl (λh F=>CK F) ⟨C,zv (o.hd J) m.at_ C I Q E q⟩).of λQ E h=>by
   show Kq (Kr PR z.c.w) z.A (do M2 pos (<- MT (.Subscript e i p) z.env) [] (Mw pos (LH [] z.env)) (Pg pos (NU [] z.env))) Q E _;exact Kg (TH h)⟩
end
end
section
set_option linter.all false
theorem Ok.down {k:Nat}{cx:Cx}{z:Z}(o:Ok (k+1) cx z):Ok k cx z:=⟨o.B,o.top,o.frames,o.hd,by have:=o.depth;walk_at "n",by have:=o.units;walk_at "n"⟩
noncomputable def Ev.up {k:Nat}{cx:Cx}{e:Kf}(a:Ev k cx e):Ev (k+1) cx e:=⟨a.f,λo b=>a.ok o.down b⟩
noncomputable def Ts.up {k:Nat}{cx:Cx}{e:Kf}(a:Ts k cx e):Ts (k+1) cx e:=⟨a.f,λo b=>a.ok o.down b⟩
noncomputable def Xs.up {k:Nat}{cx:Cx}{e:List Stmt}(a:Xs k cx e):Xs (k+1) cx e:=⟨a.f,λo b=>a.ok o.down b⟩
section
variable {k:Nat}(r:Sr k) (cx:Cx)
noncomputable def wO (e:Kf):Ev k cx e:=match e with
 | .List es p=>(za r es p).fresh
 | .BinOp a .Mult b p=>(GV (r.ev cx a) (r.ev cx b) p).fresh
 | .Dict [] [] p=>wM p
 | .ListComp c [⟨t,it,d,0⟩] scope pos=>(fO r c t it d scope pos).fresh
 | e=>r.ev cx e
noncomputable def gL (f:Str) (p:Pos) (args:List Kf) (pos:Pos):Ev k cx (.Call (.Name f p) args [] pos):=match args with
 | [.Call (.Name g b) [e] [] a]=>if (g==sn "set")=Vt then ys r f p g b e a pos else kg r f p _ pos
 | args=>kg r f p args pos
noncomputable def BG (op:PU) (e:Kf):Ev k cx e:=match op with
 | .In=>ek r cx e
 | .NotIn=>ek r cx e
 | _=>r.ev cx e
noncomputable def I7 (e:Kf):Ev k cx e:=match e with
 | .Constant c n p=>AO c n p
 | .Name n p=>pN n p
 | .BinOp a op b p=>Jh (r.ev cx a) (r.ev cx b) op p
 | .UnaryOp .Not e p=>IU (r.ev cx e) p
 | .UnaryOp .USub (.Constant (.int i) n h) pos=>GC i n h pos
 | .BoolOp op es p=>HK r op es p
 | .Compare a [op] [b] p=>Jd (r.ev cx a) (BG r cx op b) op p
 | .IfExp t a b p=>JS (r.ev cx a) (r.ev cx b) (r.ts cx t) p
 | .List es p=>IY r es p
 | .Tuple es n p=>Iz r es n p
 | .ListComp d [⟨t,it,g,0⟩] scope pos=>(fO r d t it g scope pos).ev
 | .Call (.Attribute o m ap) args [] p=>GX r o m ap args p
 | .Call (.Name f p) args [] pos=>gL r cx f p args pos
 | .Call (.Subscript a i p) [] [] pos=>GU r a i p pos
 | .Attribute e m p=>HT r e m p
 | .Subscript e (.Slice a b t p) pos=>EM r e a b t p pos
 | .Subscript e i pos=>zG r e i pos
 | .NamedExpr (.Name n p) e pos=>BK r n p e pos
 | .JoinedStr [.Constant (.str t) n p] pos=>Hb t n p pos
 | _=>.bad
noncomputable def JG (e:Kf):Ts k cx e:=match e with
 | .UnaryOp .Not e p=>IT (r.ts cx e) p
 | .BoolOp op es p=>HJ r op es p
 | .IfExp t a b p=>JQ (r.ts cx t) (r.ts cx a) (r.ts cx b) p
 | .Compare a [op] [b] p=>Jc (r.ev cx a) (BG r cx op b) op p
 | .Constant (.bool b) n p=>kx _ (AO (.bool b) n p) λ_ _=>rfl
 | .Name n p=>kx _ (ek r cx (.Name n p)) λ_ _=>rfl
 | .Call f a g p=>kx _ (r.ev cx (.Call f a g p)) λ_ _=>rfl
 | .Attribute e m p=>kx _ (ek r cx (.Attribute e m p)) λ_ _=>rfl
 | .Subscript e i p=>kx _ (r.ev cx (.Subscript e i p)) λ_ _=>rfl
 | .ListComp a b c d=>kx _ (r.ev cx (.ListComp a b c d)) λ_ _=>rfl
 | _=>.bad
noncomputable def Dr (n:Str) (p:Pos) (e:Kf) (pos:Pos):Ex k cx (.Assign [.Name n p] e pos):=match e with
 | .ListComp a [⟨t,it,b,0⟩] scope c=>uf r a t it b scope c n p pos
 | e=>lH (cond (IV.contains n) (wO r cx e) (r.ev cx e)) n p pos
noncomputable def GQ (p:Pos):Ex k cx (.Pass p):=⟨λs=>.ok .next s,λ_ a=>.pure a fH λ_ _ q=>wpAny_Pass q⟩
noncomputable def Jf (p:Pos):Ex k cx (.Break p):=⟨λs=>.ok .brk s,λ{z s x} _ a=>.pure (b:=QE.brk) a (show RF z x .brk .brk from rfl) λ_ _ q=>wpAny_Break q⟩
noncomputable def HE (p:Pos):Ex k cx (.Continue p):=⟨λs=>.ok .cont s,λ{z s x} _ a=>.pure (b:=QE.cont) a (show RF z x .cont .cont from rfl) λ_ _ q=>wpAny_Continue q⟩
noncomputable def GL (p:Pos):Ex k cx (.Return Vs p):=⟨λs=>.ok (.ret (.d .non)) s,λ{z s x} _ a=>.pure (b:=U1 .none) a (show RF z x (.ret .none) (.ret (.d .non)) from ⟨.none,rfl,RD.non⟩) λ_ _ q=>wpAny_Return_none q⟩
noncomputable def xy (t:Stmt):Ex k cx t:=match t with
 | .Expr e p=>Ht (r.ev cx e) p
 | .Pass p=>GQ cx p
 | .Break p=>Jf cx p
 | .Continue p=>HE cx p
 | .Return Vs p=>GL cx p
 | .Return (Vr e) p=>ES (r.ev cx e) p
 | .Assign [.Name n p] e pos=>Dr r cx n p e pos
 | .Assign [.Tuple ts n p] e pos=>xp (r.ev cx e) ts n p pos
 | .Assign [.Attribute o m p] e pos=>nv (wO r cx e) r m p pos
 | .Assign [.Subscript o i p] e pos=>Bf (r.ev cx e) r p pos
 | .Assign [.Subscript o i p,.Name n d] e pos=>Be (r.ev cx e) r n p d pos
 | .AugAssign (.Attribute o m p) op e pos=>Jj (r.ev cx e) r op m p pos
 | .AugAssign (.Subscript o (.Constant (.int j) n l) p) op e pos=>HR (r.ev cx e) r op j n l p pos
 | .Delete [.Subscript o i p] pos=>I9 r p pos
 | .If t a b p=>JR (r.ts cx t) r a b p
 | .While t a b p=>Ew (r.ts cx t) r a b p
 | .For (.Tuple es s p) (.Call (.Name f d) [e] [] c) a b pos=>cond (f==sn "enumerate") (D5 r a b pos es s p f d e c) (FF r _ _ a b pos)
 | .For t it a b p=>FF r t it a b p
 | .Try body [.ExceptHandler (Vr ty) h (b::hb) g] [] [] p=>IA r ty h b hb body g p
 | .Assert t m p=>Dt (r.ts cx t) m p
 | .Raise (Vr (.Call (.Name f p) args [] q)) Vs pos=>EW r f p args q pos
 | _=>.bad
noncomputable def cH (f:Fl) (s:St) (g:St->Res Fl):Res Fl:=Fl.casesOn f (g s) (.ok .brk s) (.ok .cont s) λv=>.ok (.ret v) s
set_option backward.match.sparseCases true in
noncomputable def JF (l:List Stmt):Xs k cx l:=match l with
 | []=>⟨λs=>.ok .next s,λ_ a=>.pure a fH λ_ _ q=>Us q⟩
 | t::l=>⟨λs=>((xy r cx t).f s).bind λf s=>cH f s (r.xs cx l).f,λ{z s x} o a=>
  (((xy r cx t).ok o a).bind (K:=λf Q E e=>match f with | .next=>Kq (Kr PR z.c.w) z.A (Vm l z.env) Q E e | f=>Q f e) λf s1 g y n=>by
   have d:=n.r;cases f with
   | next=>refine rp d ?_;exact (r.xs cx l).ok o n.at_
   | brk=>refine rp d ?_;exact .done n.at_ (show RF z y .brk .brk from rfl)
   | cont=>refine rp d ?_;exact .done n.at_ (show RF z y .cont .cont from rfl)
   | ret v=>obtain ⟨b,rfl,rv⟩:=d;exact .done n.at_ (show RF z y (.ret b) (.ret v) from ⟨b,rfl,rv⟩)).of λ_ _ h=>Of h⟩
end
end
section
set_option linter.all false
noncomputable def FK (a:List (Str×Addr)) (c d:Value) (e:Addr) (b:Value):FuncData:=fnX (sn "_law_read") readQual (fZ aX) (gK aX) (bO aX) a .none .none c d Vs (.ref e) b
noncomputable def ll (b:Array UInt8) (l:Nat):List (Str×V):=[(sn "octets",.d (.bytes b)),(sn "at",.loc l)]
noncomputable def uI {k:Nat}(r:Sr k) (b:Array UInt8) (l:Nat) (d:D) (st:List SObj):Res V:=v8 r (FK [] .none .none 0 .none) (ll b l) [.d d] st
theorem zY (a:List (Str×Addr)) (c d:Value) (e:Addr) (b val:Value):NI (FK a c d e b) ⟨[val],[]⟩=pure ((bx (FK a c d e b)).zip [val]):=rfl
theorem oj:(bO aX).names.all (λp=>((bO aX).names.lookup p.1==Vr p.2)&&(!(p.2==.free)||((p.1==sn "octets")||(p.1==sn "at"))))=true:=rfl
theorem ii:(bO aX).names.lookup (sn "octets")=Vr .free/\(bO aX).names.lookup (sn "at")=Vr .free/\(sn "octets"==sn "at")=false:=w3 rfl rfl rfl
theorem tv:(bO aX).kind=.function/\(bO aX).isCoroutine=Vu/\(bO aX).isGenerator=false:=w3 rfl rfl rfl
theorem C3:((bx (FK [] .none .none 0 .none)).all λn=>bC ((bO aX).names.lookup n))=true:=rfl
section
variable {k:Nat}{cx:Cx}{z:Z}{s:St}{x:X}{b:Array UInt8}{l:Nat}{st:List SObj}
theorem jB {n:Str}(q:(bO aX).names.lookup n=Vr .free):n=sn "octets"\/n=sn "at":=(Mm.mp (Kn.mp (KS.mp oj _ (mem_of_lookup q))).2).elim (λq=>nomatch q) λq=>(Mm.mp q).imp (λq=>eq_of_beq q) λq=>eq_of_beq q
theorem yV:sn "octets"≠sn "at":=beq_eq_false_iff_ne.mp ii.2.2
theorem Ce {c:Cn}{f:List (Str×Addr)}{r j i:Addr}{o m:Obj}{A:PT}(H:HI c st x) (hz:b.size<=16777216) (s:f.lookup (sn "octets")=Vr j) (k:f.lookup (sn "at")=Vr i) (C:(j,o)∈x.imm) (I:o.data=.cell (Vr (.bytes b A))) (t:(i,m)∈x.imm) (G:m.data=.cell (Vr (.ref r))) (w:j≠i) (K:x.ρ[l]?=Vr r):FrIn c (bO aX).names f (ll b l) x:=by
 have L:get (sn "octets") (ll b l)=Vr (.d (.bytes b)):=if_pos rfl;have F:get (sn "at") (ll b l)=Vr (.loc l):=(if_neg yV).trans (if_pos rfl);refine ⟨λp J=>beq_iff_eq.mp (Kn.mp (KS.mp oj _ J)).1,λn v g=>?_,λn q=>(jB q).elim (λe=>?_) λe=>?_,λn M a q E g z=>(jB q).elim (λe=>(jB E).elim (λh=>e.trans h.symm) λh=>?_) λe=>(jB E).elim (λh=>?_) λh=>e.trans h.symm⟩
 ·by_cases y:sn "octets" = n
  ·exact y▸ii.1
  ·by_cases u:sn "at" = n
   ·exact u▸ii.2.1
   ·exact au (((if_neg y).trans (if_neg u)).symm.trans g)
 ·refine rp e ?_;exact y3 j o _ (w5 s (H.immIn _ C) I (H.dis _ C) (λv g=>⟨_,rfl,Kd (L.symm.trans g)▸RD.bytes b A hz⟩))
 ·refine rp e ?_;exact y3 i m _ (w5 k (H.immIn _ t) G (H.dis _ t) (λv g=>⟨_,rfl,Kd (F.symm.trans g)▸⟨r,rfl,K⟩⟩))
 ·subst e h;exact absurd (Kd (s.symm.trans (g.trans (z.symm.trans k)))) w
 ·subst e h;exact absurd (Kd (s.symm.trans (z.trans (g.symm.trans k)))) w
theorem Cf {d:D}(r:Sr k):Bt (k+1) b l d st (uI r b l d st):=λ{cx z O x val f S} o F a C A s Q E h=>by
 obtain ⟨y,p,L,v,J,K,n,I,u,m,q,G⟩:=A;rename_i i T M c e j g oc P N t w R;refine PD (fd:=FK c e j i g) (body:=gK aX) (by have:=o.depth;lia) (a.H.immIn _ p) rfl tv.2.1 tv.2.2 rfl (y4 i oc t w (w4 rfl (a.H.immIn _ L) v J)) ?_;rw[zY];exact Ks (yv (fd:=FK c e j i g) (us:=[.d d]) (oF:=ll b l) r ⟨tv.1,rfl,rfl⟩ (Ce a.H y K n I u m q G C) o F a (.cons s .nil) rfl C3 h)
end
noncomputable def km:FuncData:=aW 244
noncomputable abbrev nF:Cx:=gP km
noncomputable def Ih:Stmt:=.Assign [.Name (sn "tape") ⟨190,4,190,8⟩] (.Call (.Name (sn "_Example") ⟨190,11,190,19⟩) [.Name (sn "octets") ⟨190,20,190,26⟩] [] ⟨190,11,190,27⟩) ⟨190,4,190,27⟩
noncomputable def tS:Stmt:=.Assign [.Attribute (.Name (sn "tape") ⟨196,4,196,8⟩) (sn "read") ⟨196,4,196,13⟩] (.Name (sn "_law_read") ⟨196,16,196,25⟩) ⟨196,4,196,25⟩
noncomputable def rS:Stmt:=.Return (Vr (.Name (sn "tape") ⟨197,11,197,15⟩)) ⟨197,4,197,15⟩
theorem HL:dA km=[Ih,aX,tS,rS]:=rfl
theorem yB:aX=.FunctionDef (sn "_law_read") (fZ aX) (gK aX) [] Vs [] (bO aX) Vs (sn "_law_read") readPos:=rfl
theorem FY (P:LF):(KK P).lookup 243=Vr ⟨.type "code",Vs,.fields #[.str (sn "_law_stream") 527,.str (sn "_law_stream") 528,.str (sn "/claim/cut.py") 529,.int (189) 0,.int (2) 0,.int (0) 0,.int (0) 0,.int (3) 0,.ref 238,.bool Vt,.int (181) 0,.ref 239,.none,.ref 240,.ref 241,.ref 242,.int (536) 0,.int (189) 0,.str (sn "/claim/cut.py") 537],#[]⟩:=rfl
theorem pU (P:LF){h:Heap}(X:(KK P).In h):CodeHd h 243 239:=(y5 _ _ _ _ _ (y4 _ _ _ _ (w7 (X 243 _ (FY P)) rfl rfl rfl rfl rfl (w4 rfl rfl rfl (by decide)))))
theorem AZ (P:LF):TF (KK P) Ly (sn "__builtins__")=Vr (Vr (.ref 4))/\(KK P).lookup 4=Vr ⟨.type "module",Vr 0,.plain,#[]⟩/\bY (sn "len") ib=Vr (.bi .len):=w3 rfl rfl rfl
theorem GW {c:Cn}(B:Bs c):∃a,c.hb.Ns Ly a/\a (sn "__builtins__")=Vr (.ref 4):=by
 obtain ⟨val,⟨a,b,d⟩,_⟩:=B.gl (sn "len") (.bi .len) (AZ c.w.params).2.2;exact ⟨a,b,UL B.k b (AZ c.w.params).1⟩
def oA (b:Imm) (f:Addr) (a:List (Str×Addr)):Prop:=∃d h e c oc vs g,(f,SA (sn "_law_read") readQual (fZ aX) (gK aX) (bO aX) a d h e c)∈b/\(e,oc)∈b/\oc.data=.fields vs/\vs[1]?=Vr (.str readQual g)
theorem oA.mono {b a:Imm}{f:Addr}{clos:List (Str×Addr)}(c:∀p∈b,p∈a) (h:oA b f clos):oA a f clos:=h.imp λ_ h=>h.imp λ_ h=>h.imp λ_ h=>h.imp λ_ h=>h.imp λ_ h=>h.imp λ_ h=>h.imp λ_ h=>w3 (c _ h.1) (c _ h.2.1) h.2.2
theorem Jt:jG nF (bO aX)=true:=rfl
theorem IP:bC (nF.names.lookup (sn "_law_read"))=true:=rfl
theorem Jk (env:Env):(fZ aX).defaults=[]/\(fZ aX).kw_defaults=[]/\annTrees (fZ aX) Vs env=[]:=w3 rfl rfl rfl
theorem Gd (c:Value):codeAmong readPos [Lu readPos.line,Lu readPos.col,c]=Vr c:=rfl
theorem FV {z:Z}{s:St}{x:X}{r0:List SObj}{Q:QE->Shared->Prop}{E:Value->Shared->Prop}(B:Bs z.c) (a:At nF z s x) (hc:s.st=.ctab::r0) (t:z.env.code=.ref 243) (hq:qualnameIn z.env (sn "_law_read") (sn "_law_read")=readQual) (h:∀f y,Nx nF z x ⟨aY (sn "_law_read") (.d (.gbl f)) s.fr,s.st⟩ y (oA y.imm f (bW z.env (bO aX).names []))->Q .next y.S):Kq (Kr PR z.c.w) z.A (exec aX z.env) Q E x.S:=by
 rw[yB];refine aC λGz g=>?_;obtain ⟨M,K,g3⟩:=Jk z.env;refine g ?_;refine nestDef_K M K g3 ?_;rw[hq];have U:=B.kin a.H.base;refine aC λGz g=>?_;obtain ⟨O,I3,Y⟩:=GW B;have hg:=I3.keeps a.H.base;obtain ⟨a0,ft,e1,L,rfl,ps,rfl,hps⟩:=a.H.foot 0 .ctab (by rw[hc];rfl);refine g ?_;have hP:=a.H.ledIn _ (aD L (.head _));have hb:x.h.BuiltinsAt O tabP:=y2 4 _ (w7 Y (by decide) (by decide) (by decide) (U 4 _ (AZ z.c.w.params).2.1) rfl ⟨rfl,rfl⟩);have C:z.env.locals≠tabP:=λq=>(a.F.ownI _ a.F.loc).1 (q▸HI.mem L (.head _));have J:∀{y:X}{f:Addr}{r:Prop},Nx nF z x s y r->oA y.imm f (bW z.env (bO aX).names [])->Kq (Kr PR z.c.w) z.A (Oj z.env (sn "_law_read") (.ref f)) (λ_ a1=>Q .next a1) E y.S:=λ{y f r} n m=>
  gY n.at_ IP (show aZ z y (.ref f) (.d (.gbl f)) from RD.gbl f) λw k=>h f w ⟨k.at_,n.adv.trans k.adv,m.mono λp G=>k.r.2▸G⟩
 rcases hps with rfl | ⟨c0,oc,R,T,rfl,m1,m2,m3⟩
 ·refine makeFunction_K (gB _ a Jt) a.F.glb hg t (pU _ U) hP trivial rfl (by decide) hb λj i l h' tk hx u v N I=>?_;refine aC λGz g=>?_;obtain ⟨a2,oc,R,T,e4,g4,g5,g6⟩:=N;obtain rfl:=Ov e4;have kf:∀(fn:Obj) b o,b≠tabP->x.h.get? b=Vr o->(h'.push fn).get? b=Vr o:=λfn b o n e=>aM _ _ _ _ (hx b o n e);have n1:=a.up (h':=h'.push (SA (sn "_law_read") readQual (fZ aX) (gK aX) (bO aX) (bW z.env (bO aX).names []) l ((O "__name__").getD .none) j i)) (tk:=tk) (ft':=[(tabP,Pu (#[]++#[Lu readPos.line,Lu readPos.col,.ref j]))]) (so:=.gone) (r':=True) L e1 rfl (λp G=>by rw[Kk.mp G];exact aM _ _ _ _ I) (λb o e=>if q:b=tabP then .inl (by rw[q];exact .head _) else .inr (.inr (kf _ b o q e))) (λm hm=>hm.imp λ_ k=>k.imp λ_ k=>k.imp λ_ k=>⟨kf _ _ _ C k.1,k.2⟩) (.inr ⟨_,rfl⟩) trivial;obtain ⟨f1,f2,_⟩:=fB a.H u;obtain ⟨M,K,_⟩:=fB a.H (Ox (MO u v));refine g ?_;have la:(x.up 0 [(tabP,Pu (#[]++#[Lu readPos.line,Lu readPos.col,.ref j]))] (h'.push (SA (sn "_law_read") readQual (fZ aX) (gK aX) (bO aX) (bW z.env (bO aX).names []) l ((O "__name__").getD .none) j i)) tk).la=x.la:=gt (ft:=[(tabP,Pu #[])]) (ft':=[(tabP,Pu (#[]++#[Lu readPos.line,Lu readPos.col,.ref j]))]) (λp:Addr×Obj=>p.1) rfl L;have n2:=n1.take (o:=oc) (a:=j) (r':=True) a (aM _ _ _ _ g4) ⟨la▸f1,f2,KV u⟩ trivial;have n3:=n2.take (a:=h'.objs.size) (r':=True) a (Kt _ rfl) ⟨la▸M,λp G=>(Kw.mp G).elim (λe q=>MC _ (by rw[e] at q;exact q▸v)) (K p),KV (Ox (MO u v))⟩ trivial;have l3:(x.led.set 0 [(tabP,Pu (#[]++#[Lu readPos.line,Lu readPos.col,.ref j]))])[0]?=Vr [(tabP,Pu (#[]++#[Lu readPos.line,Lu readPos.col,.ref j]))]:=Mj (Kh.mp L).1;have n4:=n3.at_.up (h':=h'.push (SA (sn "_law_read") readQual (fZ aX) (gK aX) (bO aX) (bW z.env (bO aX).names []) l ((O "__name__").getD .none) j i)) (tk:=tk) (so:=.ctab) (r':=True) l3 e1 rfl (λp G=>n3.at_.H.ledIn _ (aD l3 G)) (λb o e=>.inr (.inr e)) (λm hm=>hm) ⟨rfl,_,rfl,.inr (y4 j oc R T (w4 rfl (.tail _ (.head _)) g5 g6))⟩ trivial;have n5:=Nx.trans n3.adv n4 id;have es:(s.st.set 0 .gone).set 0 .ctab=s.st:=by rw[hc];rfl
  rw[es] at n5;exact J n5 (y5 _ _ j i oc (y2 R T (w4 (.head _) (.tail _ (.head _)) g5 g6)))
 ·refine makeFunction_hit (gB _ a Jt) a.F.glb hg t (pU _ U) hP trivial (Gd _) hb λi l h' tk k P=>?_;have n1:=a.kp (h':=h'.push (SA (sn "_law_read") readQual (fZ aX) (gK aX) (bO aX) (bW z.env (bO aX).names []) l ((O "__name__").getD .none) c0 i)) (tk:=tk) (ex:=[]) (r:=True) (λb o e=>aM _ _ _ _ (k b o e)) (λ_ h=>nomatch h) trivial;refine aC λGz g=>?_;obtain ⟨M,K,_⟩:=fB a.H P;refine g ?_;have n2:=n1.take (a:=h'.objs.size) (r':=True) a (Kt _ rfl) ⟨M,K,KV P⟩ trivial;exact J n2 (y5 _ _ c0 i oc (y2 R T (w4 (.head _) (.tail _ m1) m2 m3)))
noncomputable def X.frzs (x:X) (l:Nat) (ft:List (Addr×Obj)):X:={ρ:=x.ρ,imm:=ft++x.imm,led:=x.led.set l [],S:=x.S}
section
variable {k:Nat}{cx:Cx}{z:Z}{s:St}{x:X}{l:Nat}{st:List SObj}{so:SObj}{r':Prop}{ft:List (Addr×Obj)}
theorem At.frzs (p:At cx z s x) (y:x.led[l]?=Vr ft) (J:∀a,x.ρ[l]?=Vr a->eY z.c.w x.ρ (ft++x.imm) a so []) (r:r'):Nx cx z x ⟨s.fr,s.st.set l so⟩ (x.frzs l ft) r':=by
 obtain ⟨H,F⟩:=p;have sub:∀{a:Addr},a∈(x.frzs l ft).la->a∈x.la:=λ{a} h=>(Ku.mp h).elim λq h=>h.2▸KU (bR.subset h.1);have mp:∀q∈ft,q.1∈x.la:=λq b=>HI.mem y b;have j:∀q∈x.imm,q∈ft++x.imm:=λ_ h=>Ll _ h;have G:∀{v:Value}{u:V},RV z.c.w x.ρ x.imm v u->RV z.c.w x.ρ (ft++x.imm) v u:=λh=>h.mono (λ_ _ e=>e) j;refine ⟨⟨⟨H.base,λq b=>?_,λq b=>H.ledIn q (bR.subset b),Re (Rd _ bR) H.nd,λa d=>H.ledB a (sub d),λq b m=>?_,px H.len,λi o e=>?_,H.frs,λa d=>w3 (λq b=>?_) (λm=>(H.fsI a d).2.1 (sub m)) ((H.fsI a d).2.2),λq b=>j q (H.imm0 q b)⟩,⟨F.kind,F.glb,F.blt,F.names,F.ns.imp λm h=>⟨h.1,λn v g l=>(h.2 n v g l).imp λ_ h=>⟨h.1,G h.2⟩⟩,λn f=>(F.cells n f).imp λ_ h=>h.imp λ_ h=>h.imp λ_ h=>w4 h.1 h.2.1 h.2.2.1 (λv g=>(h.2.2.2 v g).imp λ_ h=>⟨h.1,G h.2⟩),F.loc,λa d=>w3 (λm=>(F.ownI a d).1 (sub m)) (λq b=>?_) ((F.ownI a d).2.2),F.cellI,F.cellO,λn a f e=>⟨λm=>(F.cellL n a f e).1 (sub m),(F.cellL n a f e).2⟩⟩⟩,⟨λ_ _ e _ _=>.inl e,λ_ o e=>⟨o,e⟩,j,λq b=>?_,λa h=>.inl (sub h),λ_ _ e=>e,y3 _ _ _ rfl⟩,r⟩
 ·exact (Kx.mp b).elim (λe=>H.ledIn _ (aD y e)) (H.immIn q)
 ·refine (Kx.mp b).elim (λe=>?_) λb=>H.dis q b (sub m);obtain ⟨v,K,L⟩:=Ku.mp m;exact (gp K).elim (λh=>nomatch h) λ⟨k,g,I,M,N⟩=>H.off y M I e N L
 ·refine (sy e).elim (λ⟨t,A,E⟩=>?_) λ⟨t,A⟩=>(H.foot i o A).imp λ_ h=>h.imp λ_ h=>w3 h.1 ((LL (LV t)).trans h.2.1) (h.2.2.mono (λ_ _ e=>e) j);subst t A;exact (H.foot i _ (Kl E)).imp λa h=>⟨[],h.elim λ_ h=>w3 h.1 (pz H.len.1 E) (J a h.1)⟩
 ·exact (Kx.mp b).elim (λe C=>(H.fsI a d).2.1 (C▸mp q e)) λm=>(H.fsI a d).1 q m
 ·exact (Kx.mp b).elim (λe C=>(F.ownI a d).1 (C▸mp q e)) λm=>(F.ownI a d).2.1 q m
 ·exact (Kx.mp b).elim (λe=>.inr (.inr (mp q e))) .inl
end
noncomputable def oU (s:St):Option (Nat×List (Str×V)×Array UInt8×Nat):=(dt s.st).bind λ_=>((get (sn "tape") s.fr).bind V.loc?).bind λn=>((s.st[n]?).bind SObj.einst?).bind λa=>(((get (sn "octets") s.fr).bind V.d?).bind D.bytes?).bind λb=>((get (sn "at") s.fr).bind V.loc?).bind λl=>if a.length<=800 then Vr (n,a,b,l) else Vs
structure TapeGot (s:St) (n:Nat) (at_:List (Str×V)) (b:Array UInt8) (l:Nat):Prop where
 hd:∃r0,s.st=.ctab::r0
 tape:get (sn "tape") s.fr=Vr (.loc n)
 st:s.st[n]?=Vr (.einst at_)
 oct:get (sn "octets") s.fr=Vr (.d (.bytes b))
 atl:get (sn "at") s.fr=Vr (.loc l)
 le:at_.length<=800
theorem se {s:St}{p:Nat×List (Str×V)×Array UInt8×Nat}(h:oU s=Vr p):TapeGot s p.1 p.2.1 p.2.2.1 p.2.2.2:=aA h λm i h=>aA h λn q h=>aA h λg j h=>aA h λb k h=>aA h λl f h=>bD h λt h=>by
  refine rq (Kd h) ?_;exact ⟨⟨m,mF i⟩,aA q λv c a=>kE a▸c,aA j λo c a=>rt a▸c,aA k λd c a=>aA c λv r e=>by rw[r,tL e,fF a],aA f λv c a=>kE a▸c,t⟩
noncomputable def oX (s:St):Res V:=optE (oU s) .bad λp=>.ok (.loc p.1) ⟨[],s.st.set p.1 (.tape p.2.2.1 p.2.2.2)⟩
noncomputable def yK (res:Res Fl) (g:St->Res V):Res V:=Res.casesOn res (λf s=>Fl.casesOn f (g s) .bad .bad λ_=>.bad) (λ_ _ _=>.bad) .bad
noncomputable def x0 {k:Nat}(r:Sr k) (vs:List V) (st:List SObj):Res V:=if vs.length=2 then yK ((xy r nF Ih).f ⟨eF ((bx km).zip vs) [],st⟩) oX else .bad
theorem Fp:(∀s,cK nF (sn "_law_read") s=dO (sn "_law_read") s)/\(∀s,(l0 (k:=0) (cx:=nF) (sn "tape") ⟨0,0,0,0⟩).f s=cO (sn "tape") s):=⟨λs=>rfl,λs=>rfl⟩
section
variable {k:Nat}{s:St}{n l:Nat}{at_:List (Str×V)}{b:Array UInt8}{f:Addr}
theorem GH (r:Sr k){p q e pos:Pos}(g:get (sn "_law_read") s.fr=Vr (.d (.gbl f))) (c:get (sn "tape") s.fr=Vr (.loc n)) (h:s.st[n]?=Vr (.einst at_)) (hz:at_.length<=800):(nv (o:=.Name (sn "tape") p) (pN (cx:=nF) (sn "_law_read") q) r (sn "read") e pos).f s=.ok .next ⟨s.fr,s.st.set n (.einst (aY (sn "read") (.d (.gbl f)) at_))⟩:=by
 show ((cK nF (sn "_law_read") s).bind λv s=>((l0 (k:=0) (cx:=nF) (sn "tape") ⟨0,0,0,0⟩).f s).bind λi s=>(jD s.fr (cN s.st i (sn "read") v)).bind λ_ s=>Res.ok Fl.next s)=_;rw[Fp.1];have a:dO (sn "_law_read") s=.ok (.d (.gbl f)) s:=by unfold dO;rw[g];rfl
 have j:cO (sn "tape") s=.ok (.loc n) s:=by unfold cO;rw[c];rfl
 have b:cN s.st (.loc n) (sn "read") (.d (.gbl f))=Vr (s.st.set n (.einst (aY (sn "read") (.d (.gbl f)) at_))):=by
  refine (if_pos rfl).trans ?_;show (s.st[n]?).bind _=_;rw[h];exact if_pos ⟨rfl,hz⟩
 rw[a];show ((l0 (k:=0) (cx:=nF) (sn "tape") ⟨0,0,0,0⟩).f s).bind _=_;rw[Fp.2,j];show (jD s.fr (cN s.st (.loc n) (sn "read") (.d (.gbl f)))).bind _=_;rw[b];rfl
theorem GK {p pos:Pos}(a:get (sn "tape") s.fr=Vr (.loc n)):(ES (k:=k) (l0 (cx:=nF) (sn "tape") p) pos).f s=.ok (.ret (.loc n)) s:=by
 show ((l0 (k:=0) (cx:=nF) (sn "tape") ⟨0,0,0,0⟩).f s).bind (λv s=>Res.ok (Fl.ret v) s)=_;rw[Fp.2];unfold cO;rw[a];rfl
end
theorem AS:nF.names.lookup (sn "octets")=Vr .cell/\nF.names.lookup (sn "at")=Vr .cell/\(sn "tape"==sn "_law_read")=Vu/\(sn "octets"==sn "_law_read")=Vu/\(sn "at"==sn "_law_read")=false:=w5 rfl rfl rfl rfl rfl
theorem xX {cx:Cx}{z s:Z}{fr k:List (Str×V)}{st g:List SObj}{x y:X}{n l:Nat}{o:List (Str×V)}{b:Array UInt8}{f:Addr}{L:Addr}{env:Env}(i:At cx z ⟨fr,st⟩ x) (hc:s.c=z.c.push env) (hf:env.frame=Vr L) (J:∀a∈s.own,x.h.get? a=Vs) (a4:At nF s ⟨k,g⟩ y) (j:Adv z.c [] x y) (q1:get (sn "octets") k=Vr (.d (.bytes b))) (q2:get (sn "at") k=Vr (.loc l)) (q3:g[n]?=Vr (.einst o)) (q4:get (sn "read") o=Vr (.d (.gbl f))) (P:oA y.imm f (bW s.env (bO aX).names [])):∃y6:X,y6.S=y.S/\y6.ρ=y.ρ/\HI z.c (g.set n (.tape b l)) y6/\Adv z.c [] x y6:=by
 refine aC λGz u=>?_;obtain ⟨H,F⟩:=a4;obtain ⟨C,v,_⟩:=AS;obtain ⟨t,o1,v1,E,c2,c3,c4⟩:=F.cells (sn "octets") (by rw[C];rfl);obtain ⟨u1,rfl,rv1⟩:=c4 _ q1;obtain ⟨ca,o2,v2,w,N,O,d4⟩:=F.cells (sn "at") (by rw[v];rfl);obtain ⟨u2,rfl,rv2⟩:=d4 _ q2;obtain ⟨tb,rfl,hz⟩:=RD.view rv1;obtain ⟨al,rfl,hal⟩:=rv2;have oc:=F.cellO _ _ C E;have G:=F.cellO _ _ v w;have K:t≠ca:=λq=>yV (F.cellI _ _ _ (by rw[C];rfl) (by rw[v];rfl) E (q▸w));rw[hc] at H;have N0:Nx cx z x ⟨fr,g⟩ y True:=⟨⟨H.pop hf,i.F.adv j⟩,j.weak (λ_ h=>nomatch h),trivial⟩
 have U:=N0.take (r':=True) i c2 ⟨(F.ownI t oc).1,(F.ownI t oc).2.1,J t oc⟩ trivial;have I:=U.take (r':=True) i N ⟨(F.ownI ca G).1,λp hp=>(Kw.mp hp).elim (λe q=>K (by rw[e] at q;exact q)) ((F.ownI ca G).2.1 p),J ca G⟩ trivial;obtain ⟨an,ft,e1,e2,d,es,m,rfl,ra,hle⟩:=H.foot n _ q3;have r:=ra.2 (sn "read");rw[q4] at r;obtain ⟨val,g1,g2,T⟩:=r;obtain rfl:=(show val=.ref f from RD.view T)
 obtain ⟨a1,pm,c',a2,Y,vs,tq,m1,Q,R,m4⟩:=P;refine u ?_;have M:=I.at_.frzs (l:=n) (so:=.tape b l) (r':=True) e2 (λa' ha=>by
  obtain rfl:=Kd (e1.symm.trans ha);exact ⟨rfl,al,hal,.mk (d:=d) (f:=f) (.head _) (.tail _ (.head _)) g1 (.mk hz (.tail _ (.tail _ (.tail _ (.tail _ m1)))) (.tail _ (.tail _ (.tail _ (.tail _ Q)))) R m4 (pX (mem_of_lookup ii.1) E) (pX (mem_of_lookup ii.2.1) w) (.tail _ (.tail _ (.tail _ (.head _)))) c3 (.tail _ (.tail _ (.head _))) O K)⟩) trivial
 have A:=I.adv.trans M.adv;refine ⟨_,?_,?_,M.at_.H,j.keep,A.alive,A.imm,A.immN,A.ledN,A.rho,A.rest⟩<;>rfl
theorem Eb (P:LF):(KK P).lookup 244=Vr ⟨.type "function",Vs,.func km,#[]⟩/\vy (KK P) km=true:=⟨rfl,rfl⟩
theorem Ac (a b:Value):NI km ⟨[a,b],[]⟩=pure ((bx km).zip [a,b]):=rfl
theorem Ab:km.scope.kind=.function/\km.scope.isCoroutine=Vu/\km.scope.isGenerator=Vu/\km.globals=Ly/\km.builtins=M8/\km.closure=[]/\km.body=.stmts (dA km)/\(bx km).length=2/\((bx km).all λn=>bC (km.scope.names.lookup n))=Vt/\(km.scope.names.all λp=>(km.scope.names.lookup p.1==Vr p.2)&&!(p.2==.free))=true:=w7 rfl rfl rfl rfl rfl rfl (w4 rfl rfl rfl rfl)
theorem FM {c:Cn}{x:X}:FrIn c km.scope.names km.closure [] x:=by
 have k:=λp a=>Kn.mp (KS.mp Ab.2.2.2.2.2.2.2.2.2 p a);have b:∀{n},km.scope.names.lookup n≠Vr .free:=λ{n} q=>nomatch (k _ (mem_of_lookup q)).2;exact ⟨λp a=>beq_iff_eq.mp (k p a).1,λn v g=>au g,λn q=>absurd q b,λn _ _ q=>absurd q b⟩
theorem GO (L:Addr):qualnameIn (gu km L 244) (sn "_law_read") (sn "_law_read")=readQual:=rfl
theorem vQ {k:Nat}{vs:List V}{st:List SObj}(r:Sr k):ip (k+1) 244 vs st (x0 r vs st):=λ{cx z fr x K} o hh i O Q E h=>by
 unfold x0 at h;by_cases u:vs.length=2
 ·rw[if_pos u] at h;obtain ⟨u1,u2,rfl⟩:=Ft (O.length.trans u);have M:=o.B.kin i.H.base;obtain ⟨t1,T,U,Y,t5,t6,t7,t8,t9,_⟩:=Ab;refine PD (fd:=km) (body:=dA km) (by have:=o.depth;lia) (M 244 _ (Eb _).1) rfl T U t7 (vx M (Eb _).2) ?_;rw[Ac];refine Ks (rf (fd:=km) (oF:=[]) ⟨t1,Y,t5⟩ FM o hh i O (t8.trans u.symm) t9 λy0 ok a0 A1 y=>?_);rw[HL];refine Of ((xy r nF Ih).ok ok a0 _ _ ?_);cases F:(xy r nF Ih).f ⟨eF ((bx km).zip vs) [],st⟩ with
  | bad=>rw[F] at h;exact h.elim
  | exn=>rw[F] at h;exact h.elim
  | ok f1 g=>
   rw[F] at h;cases f1 with
   | brk=>exact h.elim
   | cont=>exact h.elim
   | ret=>exact h.elim
   | next=>
    change uj z.c x (oX g) Q E at h;unfold oX at h;cases A:oU g with
    | none=>rw[A] at h;exact h.elim
    | some p=>
     rw[A] at h;obtain ⟨⟨r0,S⟩,P,N,g3,g4,hz⟩:=se A;obtain ⟨_,_,j,w,C⟩:=AS;intro f' y1 G;refine rp ((show f'=.next from G.r)) ?_;refine Of (FV ok.B G.at_ S rfl (GO _) λf y2 I=>?_);have b:∀{n:Str}{v:V},(n==sn "_law_read")=Vu->get n g.fr=Vr v->get n (aY (sn "_law_read") (.d (.gbl f)) g.fr)=Vr v:=λq e=>by rw[cV,if_neg (beq_eq_false_iff_ne.mp q)];exact e
     refine Of ((nv (o:=.Name (sn "tape") _) (pN (cx:=nF) (sn "_law_read") _) r (sn "read") _ _).ok ok I.at_ _ _ ?_);rw[GH (s:=⟨aY (sn "_law_read") (.d (.gbl f)) g.fr,g.st⟩) (f:=f) r (by rw[cV,if_pos rfl]) (b j P) N hz];intro f3 y3 l;refine rp ((show f3=.next from l.r)) ?_;refine Of ((ES (l0 (cx:=nF) (sn "tape") _) _).ok ok l.at_ _ _ ?_);rw[GK (s:=⟨aY (sn "_law_read") (.d (.gbl f)) g.fr,g.st.set p.1 (.einst (aY (sn "read") (.d (.gbl f)) p.2.1))⟩) (b j P)];intro f4 y4 m;obtain ⟨bv,rfl,rv⟩:=m.r;obtain ⟨y6,eS,e6,J,A6⟩:=xX (L:=x.h.objs.size) i rfl rfl (λa t=>KV (iz t)) m.at_ (y y4 (G.adv.trans (I.adv.trans (l.adv.trans m.adv)))) (b w g3) (b C g4) (Mj (Kh.mp N).1) (by rw[cV,if_pos rfl]) (I.r.mono λp hp=>(l.adv.trans m.adv).imm p hp);have R:=h bv y6 (by rw[Rn] at J;exact J) A6 (rv.imp λa t=>⟨t.1,e6▸t.2⟩);rw[eS] at R;exact R
 ·rw[if_neg u] at h;exact h.elim
noncomputable def rP {k:Nat}(r:Sr k) (a:Addr) (vs:List V) (st:List SObj):Res V:=cond (a==eu) (jV (r.call 36 (.loc st.length::vs) (st++[.node Vs Vs Vs])) st.length) (cond (a==bJ) (jV (r.call 73 (.loc st.length::vs) (st++[.inst []])) st.length) (cond (a==bL) (jV (r.call 176 (.loc st.length::vs) (st++[.einst []])) st.length) (cond (a==244) (x0 r vs st) (optE (zZ a) .bad λfd=>nb r a fd vs st))))
theorem AU {k:Nat}(r:Sr k) (a:Addr) (vs:List V) (st:List SObj):ip (k+1) a vs st (rP r a vs st):=by
 unfold rP;cases c:a==eu with
 | true=>exact eq_of_beq c▸wo r
 | false=>cases d:a==bJ with
  | true=>exact eq_of_beq d▸qp r
  | false=>cases b:a==bL with
   | true=>exact eq_of_beq b▸wT r
   | false=>cases b:a==244 with
    | true=>exact eq_of_beq b▸vQ r
    | false=>cases e:zZ a with
     | none=>exact λ_ _ _ _ _ _ h=>h.elim
     | some fd=>exact C0 r e
noncomputable def mk:(n:Nat)->Sr n
 | 0=>⟨λ_ _=>.bad,λ_ _=>.bad,λ_ _=>⟨λ_=>.bad,λ_ _=>.bad⟩,λ_ _ _=>.bad,λ_ _ _=>λ_ _ _ _ _ _ h=>h.elim,λ_ _ _ _=>.bad,λ_ _ _ _=>λ_ _ _ _ _ _ _ _ h=>h.elim⟩
 | n+1=>⟨λcx e=>(I7 (mk n) cx e).up,λcx e=>(JG (mk n) cx e).up,λcx l=>(JF (mk n) cx l).up,λa vs st=>rP (mk n) a vs st,λa vs st=>AU (mk n) a vs st,λb l d st=>uI (mk n) b l d st,λb l d st=>Cf (mk n)⟩
end
end
section
section
set_option maxHeartbeats 0
set_option linter.all false
abbrev IL:OpenLaw:=Pk
noncomputable def dL:DefRec:=⟨sn "law",fZ (bN 52),gK (bN 52),bO (bN 52),(bN 52).pos⟩
noncomputable def immT (P:LF):Imm:=(KK P).filter λp=>decide (198<=p.1)&&decide (p.1<=230)
section
variable {w:Lh}{imm:Imm}{h:Heap}{mg mb:Str->Option Value}{s₁:Shared}
theorem xS (b:∀p∈immT w.params,p∈imm){a:Addr}{us:List Value}{ds:List D}(e:(immT w.params).lookup a=Vr (dU us 0)) (hz:us.length<=16777216) (r:RDs w imm us ds):RD w imm (.ref a) (.tup ds):=.tup (b _ (Rx e)) hz r
theorem bP (b:∀p∈immT w.params,p∈imm){a:Addr}{i:Int}{t u:PT}{s:String}(e:(immT w.params).lookup a=Vr (dU [.int i t,.str (sn s) u] 0)) (hz:(sn s).cps.size<=16777216):RD w imm (.ref a) (bZ i s):=xS b e (Ky rfl) (.cons (.int _ _) (.cons (.str _ _ hz) .nil))
theorem Hp (c:∀p∈immT w.params,p∈imm):RD w imm (.ref 230) fmTable:=by
 have b:∀{a:Addr}{us:List Value}{o:List D},(immT w.params).lookup a=Vr (dU us 0)->us.length<=16777216->RDs w imm us o->RD w imm (.ref a) (.tup o):=λe z r=>xS c e z r;have g:RD w imm (.ref 205) (.tup [bZ 40960 "l",bZ 49152 "s",bZ 32768 "-",bZ 24576 "b",bZ 16384 "d",bZ 8192 "c",bZ 4096 "p"]):=b (us:=[.ref 198,.ref 199,.ref 200,.ref 201,.ref 202,.ref 203,.ref 204]) (by kernel_rfl) (Ky rfl) (.cons (bP c (t:=452) (u:=487) (by kernel_rfl) (by decide)) (.cons (bP c (t:=454) (u:=488) (by kernel_rfl) (by decide)) (.cons (bP c (t:=448) (u:=489) (by kernel_rfl) (by decide)) (.cons (bP c (t:=446) (u:=490) (by kernel_rfl) (by decide)) (.cons (bP c (t:=442) (u:=491) (by kernel_rfl) (by decide)) (.cons (bP c (t:=444) (u:=492) (by kernel_rfl) (by decide)) (.cons (bP c (t:=450) (u:=493) (by kernel_rfl) (by decide)) (.nil))))))));have i:RD w imm (.ref 207) (.tup [bZ 256 "r"]):=b (us:=[.ref 206]) (by kernel_rfl) (Ky rfl) (.cons (bP c (t:=469) (u:=494) (by kernel_rfl) (by decide)) (.nil));have l:RD w imm (.ref 209) (.tup [bZ 128 "w"]):=b (us:=[.ref 208]) (by kernel_rfl) (Ky rfl) (.cons (bP c (t:=471) (u:=495) (by kernel_rfl) (by decide)) (.nil));have m:RD w imm (.ref 213) (.tup [bZ 2112 "s",bZ 2048 "S",bZ 64 "x"]):=b (us:=[.ref 210,.ref 211,.ref 212]) (by kernel_rfl) (Ky rfl) (.cons (bP c (t:=496) (u:=497) (by kernel_rfl) (by decide)) (.cons (bP c (t:=463) (u:=498) (by kernel_rfl) (by decide)) (.cons (bP c (t:=473) (u:=499) (by kernel_rfl) (by decide)) (.nil))));have d:RD w imm (.ref 215) (.tup [bZ 32 "r"]):=b (us:=[.ref 214]) (by kernel_rfl) (Ky rfl) (.cons (bP c (t:=475) (u:=500) (by kernel_rfl) (by decide)) (.nil));have f:RD w imm (.ref 217) (.tup [bZ 16 "w"]):=b (us:=[.ref 216]) (by kernel_rfl) (Ky rfl) (.cons (bP c (t:=477) (u:=501) (by kernel_rfl) (by decide)) (.nil));have n:RD w imm (.ref 221) (.tup [bZ 1032 "s",bZ 1024 "S",bZ 8 "x"]):=b (us:=[.ref 218,.ref 219,.ref 220]) (by kernel_rfl) (Ky rfl) (.cons (bP c (t:=502) (u:=503) (by kernel_rfl) (by decide)) (.cons (bP c (t:=465) (u:=504) (by kernel_rfl) (by decide)) (.cons (bP c (t:=479) (u:=505) (by kernel_rfl) (by decide)) (.nil))));have h:RD w imm (.ref 223) (.tup [bZ 4 "r"]):=b (us:=[.ref 222]) (by kernel_rfl) (Ky rfl) (.cons (bP c (t:=481) (u:=506) (by kernel_rfl) (by decide)) (.nil));have j:RD w imm (.ref 225) (.tup [bZ 2 "w"]):=b (us:=[.ref 224]) (by kernel_rfl) (Ky rfl) (.cons (bP c (t:=483) (u:=507) (by kernel_rfl) (by decide)) (.nil));have k:RD w imm (.ref 229) (.tup [bZ 513 "t",bZ 512 "T",bZ 1 "x"]):=b (us:=[.ref 226,.ref 227,.ref 228]) (by kernel_rfl) (Ky rfl) (.cons (bP c (t:=508) (u:=509) (by kernel_rfl) (by decide)) (.cons (bP c (t:=467) (u:=510) (by kernel_rfl) (by decide)) (.cons (bP c (t:=485) (u:=511) (by kernel_rfl) (by decide)) (.nil))));exact b (us:=[.ref 205,.ref 207,.ref 209,.ref 213,.ref 215,.ref 217,.ref 221,.ref 223,.ref 225,.ref 229]) (by kernel_rfl) (Ky rfl) (.cons g (.cons i (.cons l (.cons m (.cons d (.cons f (.cons n (.cons h (.cons j (.cons k (.nil)))))))))))
noncomputable def IS (P:LF) (n:Str) (d:D):Bool:=match d with
 | .bi b=>TF (KK P) Ly n==Vr Vs&&(Sw n==Vr b.val&&n != sn "__name__")
 | .gbl a=>TF (KK P) Ly n==Vr (Vr (.ref a))
 | .int i=>match TF (KK P) Ly n with
  | some (Vr (.int j _))=>i==j
  | _=>Vu
 | _=>n==sn "_filemode_table"
theorem CW (P:LF):ib.all (λp=>IS P p.1 p.2)=true:=by kernel_rfl
theorem Hr (P:LF):TF (KK P) Ly (sn "_filemode_table")=Vr (Vr (.ref 230))/\bY (sn "_filemode_table") ib=Vr fmTable:=⟨by kernel_rfl,by kernel_rfl⟩
def Jp (w:Lh) (h:Heap) (n:Str) (d:D):Prop:=∃val,(∃mg,h.Ns Ly mg/\(mg n=Vr val\/(mg n=Vs/\∃mb,h.Ns M8 mb/\mb n=Vr val)))/\∀imm,(∀p∈immT w.params,p∈imm)->RD w imm val d
theorem Hj (X:(KK w.params).In h) (g:h.Ns Ly mg){n:Str}{d:D}(e:bY n ib=Vr d) (q:(n==sn "_filemode_table")=Vt):Jp w h n d:=by
 obtain rfl:=eq_of_beq q;obtain ⟨c,a⟩:=Hr w.params;exact rp (Kd (e.symm.trans a)) ⟨.ref 230,⟨mg,g,.inl (UL X g c)⟩,λimm b=>Hp b⟩
theorem FA (X:(KK w.params).In h) (g:h.Ns Ly mg){n:Str}{i:Int}(k:IS w.params n (.int i)=Vt):Jp w h n (.int i):=by
 unfold IS at k;cases q:TF (KK w.params) Ly n with
 | none=>rw[q] at k;exact (L1 k).elim
 | some o=>
  rw[q] at k;rcases o with _ | v
  ·exact (L1 k).elim
  ·cases v<;>first
    | exact (L1 k).elim
    | exact ⟨.int _ _,⟨mg,g,.inl (UL X g q)⟩,λ_ _=>eq_of_beq k▸.int _ _⟩
theorem Hi (X:(KK w.params).In h) (g:h.Ns Ly mg) (b:h.Ns M8 mb) (m:∀x:Str,x≠"__name__"->mb x=Sw x) (n:Str) (d:D) (e:bY n ib=Vr d):Jp w h n d:=by
 have k:=KS.mp (CW w.params) _ (iD e);by_cases q:(n==sn "_filemode_table")=Vt
 ·exact Hj X g e q
 ·clear e;cases d with
  | bi l=>
   obtain ⟨f,c⟩:=Kn.mp k;obtain ⟨c,j⟩:=Kn.mp c;exact ⟨l.val,⟨mg,g,.inr ⟨mg_none_of X g (beq_iff_eq.mp f),mb,b,(m n (bne_iff_ne.mp j)).trans (beq_iff_eq.mp c)⟩⟩,λ_ _=>.bi _⟩
  | gbl a=>exact ⟨.ref a,⟨mg,g,.inl (UL X g (beq_iff_eq.mp k))⟩,λ_ _=>.gbl _⟩
  | int i=>exact FA X g k
  | _=>exact absurd k q
noncomputable def c0 (w:Lh) (h:Heap):Cn:=⟨w,T6 h [239,6],immT w.params,[]⟩
noncomputable def z0 (w:Lh) (h:Heap) (env:Env):Z:=⟨c0 w h,env,[6],T4⟩
theorem Hd (P:LF):(immT P).map (λp=>(KK P).lookup p.1)=(immT P).map λp=>Vr p.2:=by kernel_rfl
theorem Hc (P:LF):(immT P).all (λp=>!(p.1==6)&&!(p.1==239))=true:=by kernel_rfl
theorem G8 (P:LF):(KK P).all (λp=>!(p.1==6)&&!(p.1==239))=true:=by kernel_rfl
theorem G9 (P:LF):(Gk P).lookup 6=Vr (⟨.type "dict",Vs,.dict #[] 0,#[]⟩)/\(Gk P).lookup 239=Vr (Pu #[]):=⟨by kernel_rfl,by kernel_rfl⟩
theorem DS {P:LF}(X:(Gk P).In h):(KK P).In h:=λa o e=>by
 have k:=Kn.mp (KS.mp (G8 P) _ (Rx e));refine X a o ?_;unfold Gk;rw[MK,(KO _).mp k.1,MK,(KO _).mp k.2];exact e
theorem zk {a:Addr}{vs:List Value}{m:Nat}{ns:List Int}(X:(Gk w.params).In s₁.heap) (g:s₁.heap.Ns Ly mg) (b:s₁.heap.Ns M8 mb) (j:∀x:Str,x≠"__name__"->mb x=Sw x) (J:s₁.heap.NoLimit) (A:s₁.heap.get? a=Vr (lstO vs m)) (P:Nt vs ns) (a1:ns.length<=63){N:Nat}(T:N<=300) (run:dI ((mk N).call 333 [.d (.lst (ns.map .int))] [.ctab])=Vr (.bool Vt)){Q E:Value->Shared->Prop}(h:∀h' tk d,(∀b o,b≠239->s₁.heap.get? b=Vr o->h'.get? b=Vr o)->GrownAt 239 h'->Q (.bool Vt) {s₁ with heap:=h',toks:=tk,drawn:=d}):Mx (Kr PR w) T4 (.call (.ref 333) ⟨[.ref a],[]⟩) (OX Q E) s₁:=by
 obtain ⟨e6,C⟩:=G9 w.params;have I:=X 6 _ e6;have i:=X 239 _ C;have R:=DS X;have nk:∀{b o},(KK w.params).lookup b=Vr o->b∉[239,6]:=λ{b o} e m=>by
  have k:=Kn.mp (KS.mp (G8 w.params) _ (Rx e));refine (Kw.mp m).elim (λq=>?_) λm=>?_
  ·subst q;exact absurd (show (!true)=Vt from k.2) (by decide)
  ·cases Kk.mp m;exact absurd (show (!true)=Vt from k.1) (by decide)
 have G:∀{b o},s₁.heap.get? b=Vr o->b∉[239,6]->(T6 s₁.heap [239,6]).get? b=Vr o:=λe n=>hideAll_get _ e n;have S:(KK w.params).In (T6 s₁.heap [239,6]):=λb o e=>G (R b o e) (nk e);have t:∀{b:Addr}{mm:Str->Option Value},b∉[239,6]->s₁.heap.Ns b mm->(T6 s₁.heap [239,6]).Ns b mm:=λn q=>q.imp λo q=>q.imp λes q=>q.imp λep q=>⟨G q.1 n,q.2⟩
 have B:Bs (c0 w s₁.heap):=⟨S,λn d e=>Hi S (t (by decide) g) (t (by decide) b) j n d e,J.imp λmc q=>⟨t (by decide) q.1,q.2⟩⟩
 have ne:a≠239:=λq=>by
  rw[q,i] at A;exact nomatch congrArg Obj.cls (Kd A)
 have L:a≠6:=λq=>by
  rw[q,I] at A;exact nomatch congrArg QY (Kd A)
 have M:∀p∈(a,lstO vs m)::immT w.params,s₁.heap.get? p.1=Vr p.2/\p.1≠6/\p.1≠239:=λp c=>(Kw.mp c).elim (λe=>by rw[e];exact w3 A L ne) λc=>by
  have k:=Kn.mp (KS.mp (Hc w.params) _ c);exact w3 (R _ _ (hM (f:=λp:Addr×Obj=>(KK w.params).lookup p.1) (g:=λp=>Vr p.2) (Hd w.params) c)) (beq_eq_false_iff_ne.mp ((KO _).mp k.1)) (beq_eq_false_iff_ne.mp ((KO _).mp k.2))
 have H:HI (c0 w s₁.heap) [.ctab] ⟨[239],(a,lstO vs m)::immT w.params,[[(239,Pu #[])]],s₁⟩:=⟨λb o e=>of_hideAll _ e,λp c=>(M p c).1,λp c=>by rw[Kk.mp c];exact i,nd1,λb j=>Sz _ (by rw[Kk.mp j];exact .head _),λp c m=>(M p c).2.2 (Kk.mp m),⟨rfl,rfl⟩,λl o e=>by
   cases l with
   | zero=>cases Kd e;exact y2 239 _ (w4 rfl rfl rfl ⟨#[],rfl,.inl rfl⟩)
   | succ l=>exact au e,trivial,λb j=>(nomatch j),λp c=>.tail _ c⟩
 let u:Env:={(default:Env) with scope:={kind:=.function,names:=[],isGenerator:=Vu,isCoroutine:=Vu},globals:=Ly,builtins:=M8,locals:=6,cells:=[]}
 have F:EI (c0 w s₁.heap) ⟨[],Vt,Vu⟩ u [6] [] ⟨[239],(a,lstO vs m)::immT w.params,[[(239,Pu #[])]],s₁⟩:=⟨rfl,rfl,rfl,λn=>w4 (λh=>au h) (λh=>nomatch h) (λh=>au h) (λh=>au h),⟨λ_=>Vs,y3 _ (#[]) 0 (w4 I rfl (λe he=>absurd he (RQ _)) (λn=>rfl)),λn v e=>au e⟩,λn h=>(nomatch h),.head _,λb j=>by
   rw[Kk.mp j];exact w4 (λm=>absurd (Kk.mp m) (by decide)) (λp c=>(M p c).2.1) (Sz _ (.tail _ (.head _))) ⟨_,I⟩,λn n' b h=>(nomatch h),λn b h=>au h,λn b h=>(nomatch h)⟩
 have d1:T4.depth+300<recursionLimit:=by decide +kernel
 have Y:T4.units+8*300+200<cLine:=by decide +kernel
 have ok:Ok N ⟨[],Vt,Vu⟩ (z0 w s₁.heap u):=⟨B,(λh=>nomatch h),rfl,λ_=>rfl,MO (PF T _) d1,MO (R8 (PF (Nat.mul_le_mul_left 8 T) _) _) Y⟩
 have O:=eU P;obtain ⟨s,r,e1,e2⟩:=ot run;refine (mk N).callOk 333 _ _ (z:=z0 w s₁.heap u) (fr:=[]) ok rfl ⟨H,F⟩ (RVs.cons (show RV w [239] ((a,lstO vs m)::immT w.params) (.ref a) (.d (.lst (ns.map .int))) from RD.lst (.head _) (by lia) (jS P)) .nil) Q E ?_;rw[e1];intro bv y U p rv;refine rp (show bv=.bool Vt from rv.view) ?_;obtain ⟨hh,tk,dd,K⟩:=p.rest;rw[K];refine h hh tk dd (λb o n e=>?_) ?_
 ·have:=(p.keep b o e MJ λm=>n (Kk.mp m)).elim id λq=>nomatch q.1;rw[X.h,K] at this;exact this
 ·obtain ⟨b,ft,h1,h2,e3,ps,rfl,_⟩:=U.foot 0 .ctab (by rw[e2];rfl);have:=U.ledIn _ (aD h2 (.head _));rw[X.h,K] at this;exact ⟨ps,this⟩
end
theorem yu:PySem.W.Fast.tw17960256430627541270 (PySem.W.Fast.tw2368527892694137696 IL)=true:=by kernel_rfl
theorem GJ:IL.wellSaid=true:=by
 refine (congrFun PySem.W.Fast.te9446332074065402090 _).trans ?_
 iterate 18 refine look_both ?_ (by kernel_rfl)
 exact yu
theorem FG (P:LF):TF (KK P) Ly (sn "law")=Vr (Vr (.ref 333)):=by kernel_rfl
theorem holds_of {N:Nat}(hN:N<=300) (run:∀ns:List Int,ns.length<=63->dI ((mk N).call 333 [.d (.lst (ns.map .int))] [.ctab])=Vr (.bool Vt)):IL.Holds:=by
 refine holds_law GJ λi=>PySem.W.holds_open (d:=dL) (kwd:=[]) (q:=qv) (loose:=Ii) (Xt:=λs=>xlAt qv [] s&&recOk [] s) (XP:=XL qv []) (Yf:=Tk HH) (Ya:=Tj HH) (YP:=Hook.says HH) (N:=4684) G6 (Hook.of HH) (Hook.keeps HH) (λs e=>xl_of s (Kn.mp e).1) XL.keeps (by rfl) (by rfl) (by rfl) (λs e=>recFacts_of (Kn.mp e).2) (by rfl) i (by decide +kernel) (w6 rfl rfl rfl rfl rfl (by decide +kernel)) ?hw ?_
 ·w_witness2
 intro w s₀ p mg mb G Y P o pm cd a1 dV kV ho hd a2 hD x O F H as j l A u z;have t:(Gk w.params).In p.heap:=Y;refine Ground.open G ?_;intro T B D M TW;clear M TW D B;have K:=DS t;obtain rfl:P=333:=Ov (Kd (x.symm.trans (UL K T.g (FG _))))
 wrow_args j l A u z
 refine enter_call (kn_post (tabs:=[(243,239)]) (λq S=>by rw[Kk.mp S];exact ⟨pU w.params K,t 239 _ (G9 w.params).2⟩) (λ_ _=>rfl) ?_);rename_i ns _ _ _ _ _ _ _ a R _ U _ L _ hI _ J _;have w2:Well w.params p.heap (.ref a) (.list (ofPys (ns.map PyData.int))):=L;refine aC λI c=>?_;cases w2;refine c ?_;rename_i us r _;refine aC λI c=>?_;obtain ⟨ol,e1,e2,n,e3⟩:=U;cases Kd (r.symm.trans e1);refine c ?_;have e4:us.toArray=R.toArray:=(Data.seq.inj e3).1;rw[e4] at r;refine Ps (zk t T.g T.b T.builtins T.nolimit r hI (by lia) hN (run ns (by lia)) (Q:=λv C=>v=.bool Vt/\∃h m d,C={p with heap:=h,toks:=m,drawn:=d}/\(∀b o,b≠239->p.heap.get? b=Vr o->h.get? b=Vr o)/\GrownAt 239 h) (E:=λ_ _=>False) λh m d k g=>⟨rfl,y3 h m d (w3 rfl k g)⟩) λy C f=>?_;rcases y with e | (v | _ | _ | _)<;>first | exact f.elim | skip
 refine aC λI c=>?_;obtain ⟨rfl,h,m,d,rfl,k,g⟩:=f;refine c ?_;refine w3 (w4 (.inl (y3 (.bool Vt) (.bool Vt) [] (w5 rfl (λ_=>rfl) (.bool Vt) (by wrow_post) unshared_nil))) (λb o e=>k b o (λq=>?_) (of_hideAll _ e)) rfl O) g trivial
 ·subst q;exact au ((Sz _ (.head _)).symm.trans e)
end
end
section
local macro_rules (kind:=tacticKernel_rfl)|s=>Mine.Internal.mK s
section
set_option linter.all false
def W {α:Type}(x:Res α) (Q:α->St->Prop) (E:D->List D->St->Prop):Prop:=Res.casesOn x Q E False
abbrev noE:D->List D->St->Prop:=λ_ _ _=>False
section
variable {α β:Type}{x:Res α}{f:α->St->Res β}{s:St}{E:D->List D->St->Prop}
theorem W.imp {Q b:α->St->Prop}(h:W x Q E) (k:∀a s,Q a s->b a s):W x b E:=by cases x<;>first | exact k _ _ h | exact h
theorem W.bind {Q:β->St->Prop}(h:W x (λa s=>W (f a s) Q E) E):W (x.bind f) Q E:=by cases x<;>exact h
theorem W.opt {o:Option α}{Q:α->St->Prop}(h:∃a,o=Vr a/\Q a s):W (cP o s) Q E:=by obtain ⟨a,rfl,h⟩:=h;exact h
theorem W.optE {o:Option α}{f:α->Res β}{Q:β->St->Prop}(h:∃a,o=Vr a/\W (f a) Q E):W (Mine.Internal.optE o .bad f) Q E:=by obtain ⟨a,rfl,h⟩:=h;exact h
theorem W.okD {o:Option D}{Q:V->St->Prop}(h:∃d,o=Vr d/\Q (.d d) s):W (Mine.Internal.okD o s) Q E:=by obtain ⟨a,rfl,h⟩:=h;exact h
theorem W.ite {c:Prop} [i:Decidable c] {Q:α->St->Prop}(a:c) (h:W x Q E):W (if c then x else .bad) Q E:=by rw[if_pos a];exact h
theorem W.cond {b:Bool}{y:Res α}{Q:α->St->Prop}(a:b=Vt->W x Q E) (c:b=Vu->W y Q E):W (cond b x y) Q E:=by
 cases b with
 | true=>exact a rfl
 | false=>exact c rfl
theorem W.get {Q:α->St->Prop}(h:W x Q noE):∃a s,x=.ok a s/\Q a s:=by cases x<;>first | exact (y2 _ _ ⟨rfl,h⟩) | exact h.elim
theorem W.of {Q:α->St->Prop}{a:α}(e:x=.ok a s) (h:Q a s):W x Q E:=e▸h
end
section
variable {n m:Str}{v w:V}{fr:List (Str×V)}
theorem aU:get n (aY n v fr)=Vr v:=by rw[cV,if_pos rfl]
theorem wL (h:(m==n)=Vu) (k:get m fr=Vr w):get m (aY n v fr)=Vr w:=by rw[cV,if_neg (beq_eq_false_iff_ne.mp h)];exact k
theorem Ik {names:List (Str×LM)}(h:names.lookup n=Vr .free):∀{fr:List (Str×V)},get n fr=Vr v->get n (ef names fr)=Vr v:=λ{fr}=>by
 induction fr with
 | nil=>exact λk=>au k
 | cons p r a=>
  intro k;rw[vh] at k;by_cases q:p.1=n
  ·rw[if_pos q] at k;show get n (Qr _ (p::r))=_;rw[Mt,if_pos (by rw[q,h];rfl)];rw[vh];rw[if_pos q];exact k
  ·rw[if_neg q] at k;show get n (Qr _ (p::r))=_;rw[Mt];split
   ·rw[vh];rw[if_neg q];exact a k
   ·exact a k
end
noncomputable def zg (cx:Cx) (n:Str):Bool:=!(cx.names.lookup n==Vr .globalImplicit)&&((hW (cx.names.lookup n)&&BB n)&&!cx.comp)
noncomputable def G2 (cx:Cx) (n:Str):Bool:=!(cx.names.lookup n==Vr .globalImplicit)&&((hW (cx.names.lookup n)&&BB n)&&cx.comp)
noncomputable def ia (cx:Cx) (n:Str):Option D:=cond (cx.names.lookup n==Vr .globalImplicit) (bY n ib) Vs
section
variable {k:Nat}{cx:Cx}{s:St}{n:Str}{p pos:Pos}{Q:V->St->Prop}{E:D->List D->St->Prop}{v:V}{d:D}{l:Nat}{e a b t:Kf}{es:List Kf}
theorem jt (h:zg cx n=Vt):cK cx n s=dO n s:=by
 obtain ⟨b,a⟩:=Kn.mp h;obtain ⟨a,c⟩:=Kn.mp a;unfold cK;rw[if_neg (by have:=(KO _).mp b;exact beq_eq_false_iff_ne.mp this),if_pos a,if_neg (by rw[(KO _).mp c];decide)]
theorem tB (h:G2 cx n=Vt):cK cx n s=cO n s:=by
 obtain ⟨b,a⟩:=Kn.mp h;obtain ⟨a,c⟩:=Kn.mp a;unfold cK;rw[if_neg (by have:=(KO _).mp b;exact beq_eq_false_iff_ne.mp this),if_pos a,if_pos c]
theorem fK (h:ia cx n=Vr d):cK cx n s=.ok (.d d) s:=by
 unfold ia at h;unfold cK;cases q:cx.names.lookup n==Vr .globalImplicit with
 | false=>rw[q] at h;exact au h
 | true=>
  rw[q] at h;rw[if_pos (beq_iff_eq.mp q),show bY n ib=Vr d from h];rfl
variable {s1 s2 s3 s4 s5:St}{u w:V}
theorem fY {a:List (Str×V)}{b:List SObj}(h:zg cx n=Vt) (c:get n a=Vr (.d d)):((mk (k+1)).ev cx (.Name n p)).f ⟨a,b⟩=.ok (.d d) ⟨a,b⟩:=by
 show cK cx n ⟨a,b⟩=_;rw[jt h];unfold dO;rw[c];rfl
theorem ka {b:List (Str×V)}{a:List SObj}(h:zg cx n=Vt) (c:get n b=Vr (.loc l)) (d:dQ a l=Vs):((mk (k+1)).ev cx (.Name n p)).f ⟨b,a⟩=.ok (.loc l) ⟨b,a⟩:=by
 show cK cx n ⟨b,a⟩=_;rw[jt h];unfold dO;rw[c];show (MI (dQ a l) _ _:Res V)=_;rw[d]
theorem dR {a:List (Str×V)}{b:List SObj}{o:D}{st':List SObj}(h:zg cx n=Vt) (c:get n a=Vr (.loc l)) (e:dQ b l=Vr (o,st')):((mk (k+1)).ev cx (.Name n p)).f ⟨a,b⟩=.ok (.d o) ⟨aY n (.d o) a,st'⟩:=by
 show cK cx n ⟨a,b⟩=_;rw[jt h];unfold dO;rw[c];show (MI (dQ b l) _ _:Res V)=_;rw[e]
theorem Hz {a:List (Str×V)}{b:List SObj}(h:G2 cx n=Vt) (c:get n a=Vr v):((mk (k+1)).ev cx (.Name n p)).f ⟨a,b⟩=.ok v ⟨a,b⟩:=by
 show cK cx n ⟨a,b⟩=_;rw[tB h];unfold cO;rw[c];rfl
theorem fQ (h:ia cx n=Vr d):((mk (k+1)).ev cx (.Name n p)).f s=.ok (.d d) s:=fK h
theorem gy {a:List (Str×V)}{b:List SObj}(h:(hW (cx.names.lookup n)&&BB n)=Vt) (c:get n a=Vr v):(ek (mk k) cx (.Name n p)).f ⟨a,b⟩=.ok v ⟨a,b⟩:=by
 show (if _ then cO n ⟨a,b⟩ else cK cx n ⟨a,b⟩)=_;rw[if_pos h];unfold cO;rw[c];rfl
theorem Hx (h0:(hW (cx.names.lookup n)&&BB n)=Vu) (h:ia cx n=Vr d):(ek (mk k) cx (.Name n p)).f s=.ok (.d d) s:=by
 show (if _ then cO n s else cK cx n s)=_;rw[if_neg (by rw[h0];decide),fK h]
theorem cE (h:ek (mk k) cx e=(mk k).ev cx e) (q:((mk k).ev cx e).f s=.ok v s1):(ek (mk k) cx e).f s=.ok v s1:=h▸q
theorem dY {i:Int}{m:Nat}:((mk (k+1)).ev cx (.Constant (.int i) m p)).f s=.ok (.d (.int i)) s:=rfl
theorem AB {b:Bool}{m:Nat}:((mk (k+1)).ev cx (.Constant (.bool b) m p)).f s=.ok (.d (.bool b)) s:=rfl
theorem eI {m:Nat}:((mk (k+1)).ev cx (.Constant .none m p)).f s=.ok (.d .non) s:=rfl
theorem ry {t:Str}{m:Nat}(h:t.cps.size<=1000):((mk (k+1)).ev cx (.Constant (.str t) m p)).f s=.ok (.d (.str t)) s:=if_pos h
theorem aK {α β:Type}{x:Res α}{f:α->St->Res β}{a:α}{r:Res β}(e:x=.ok a s1) (h:f a s1=r):x.bind f=r:=by rw[e];exact h
theorem fU {α:Type}{o:Option α}{a:α}(e:o=Vr a):cP o s=.ok a s:=by rw[e];rfl
theorem hE {o:Option D}(e:o=Vr d):okD o s=.ok (.d d) s:=by rw[e];rfl
theorem ij {op:NA}(c:((mk k).ev cx a).f s=.ok v s1) (e:((mk k).ev cx b).f s1=.ok u s2) (g:jv op v u=Vr d):((mk (k+1)).ev cx (.BinOp a op b p)).f s=.ok (.d d) s2:=aK c (aK e (hE g))
theorem Ed {F1:List (Str×V)}{T1:List SObj}{c:Bool}(a:((mk k).ev cx e).f s=.ok v ⟨F1,T1⟩) (b:cc T1 v=Vr c):((mk (k+1)).ev cx (.UnaryOp .Not e p)).f s=.ok (.d (.bool (!c))) ⟨F1,T1⟩:=aK a (aK (fU b) rfl)
theorem Au {i:Int}{m:Nat}{a:Pos}:((mk (k+1)).ev cx (.UnaryOp .USub (.Constant (.int i) m a) p)).f s=.ok (.d (.int (-i))) s:=rfl
theorem Ax {c:Bool}(h:((mk k).ts cx t).f s=.ok c s1) (d:c=Vt->((mk k).ev cx a).f s1=.ok v s2) (e:c=Vu->((mk k).ev cx b).f s1=.ok v s2):((mk (k+1)).ev cx (.IfExp t a b p)).f s=.ok v s2:=aK h (by cases c with
 | true=>exact d rfl
 | false=>exact e rfl)
theorem HA (h:((mk k).ts cx t).f s=.ok Vt s1) (c:((mk k).ev cx a).f s1=.ok v s2):((mk (k+1)).ev cx (.IfExp t a b p)).f s=.ok v s2:=aK h c
theorem HB (h:((mk k).ts cx t).f s=.ok Vu s1) (c:((mk k).ev cx b).f s1=.ok v s2):((mk (k+1)).ev cx (.IfExp t a b p)).f s=.ok v s2:=aK h c
theorem aL {g:∀e,Ev k cx e}:bM g [] s=.ok [] s:=rfl
theorem aI {g:∀e,Ev k cx e}{vs:List V}(b:bb e=Vs) (a:(g e).f s=.ok v s1) (c:bM g es s1=.ok vs s2):bM g (e::es) s=.ok (v::vs) s2:=by
 show Mine.Internal.optE (bb e) _ _=_;rw[b];exact aK a (aK c rfl)
theorem ug {g:∀e,Ev k cx e}{vs:List V}(c:bb e=Vr a) (b:(g a).f s=.ok v s1) (d:v7 v=Vr vs):bM g [e] s=.ok vs s1:=by
 show Mine.Internal.optE (bb e) _ _=_;rw[c];exact aK b (fU d)
noncomputable def Fm (vs:List V):Option D:=(ej vs).bind λds=>if ds.length<=1000 then Vr (.lst ds) else Vs
theorem mM {vs:List V}(b:aO es=Vt) (a:bM ((mk k).ev cx) es s=.ok vs s1) (c:Fm vs=Vr d):((mk (k+1)).ev cx (.List es p)).f s=.ok (.d d) s1:=(if_pos b).trans (aK a (hE c))
theorem oo {m:Nat}{vs:List V}(b:aO es=Vt) (a:bM ((mk k).ev cx) es s=.ok vs s1) (c:xU vs=Vr v):((mk (k+1)).ev cx (.Tuple es m p)).f s=.ok v s1:=(if_pos b).trans (aK a (fU c))
theorem mX {g:List (Str×V)}{e:List SObj}{op:PU}{c:Bool}(h:BG (mk k) cx op b=(mk k).ev cx b) (m:Oq op b=Vu) (j:((mk k).ev cx a).f s=.ok v s1) (i:((mk k).ev cx b).f s1=.ok u ⟨g,e⟩) (l:bV e op v u=Vr c):((mk (k+1)).ev cx (.Compare a [op] [b] p)).f s=.ok (.d (.bool c)) ⟨g,e⟩:=by
 show (tN op ((mk k).ev cx a) (BG (mk k) cx op b) s).bind _=_;rw[h];exact aK ((if_pos m).trans (aK j (aK i (fU (by rw[l];rfl))))) rfl
theorem JU {g:List (Str×V)}{e:List SObj}{op:PU}{c:Bool}(h:BG (mk k) cx op b=ek (mk k) cx b) (m:Oq op b=Vu) (j:((mk k).ev cx a).f s=.ok v s1) (i:(ek (mk k) cx b).f s1=.ok u ⟨g,e⟩) (l:bV e op v u=Vr c):((mk (k+1)).ev cx (.Compare a [op] [b] p)).f s=.ok (.d (.bool c)) ⟨g,e⟩:=by
 show (tN op ((mk k).ev cx a) (BG (mk k) cx op b) s).bind _=_;rw[h];exact aK ((if_pos m).trans (aK j (aK i (fU (by rw[l];rfl))))) rfl
theorem eJ {F1:List (Str×V)}{T1:List SObj}{m:Str}(c:hF e=Vt) (a:(ek (mk k) cx e).f s=.ok v ⟨F1,T1⟩) (b:cG T1 v m=Vr u):((mk (k+1)).ev cx (.Attribute e m p)).f s=.ok u ⟨F1,T1⟩:=(if_pos c).trans (aK a (fU b))
theorem yN:C5 (mk k) cx Vs s=.ok Vs s:=rfl
theorem E5 (h:((mk k).ev cx e).f s=.ok (.d d) s1):C5 (mk k) cx (Vr e) s=.ok (Vr d) s1:=aK h rfl
theorem C8 {a b t:Option Kf}{c g h:Option D}(l:(ek (mk k) cx e).f s=.ok v s1) (i:C5 (mk k) cx a s1=.ok c s2) (n:C5 (mk k) cx b s2=.ok g s3) (j:C5 (mk k) cx t s3=.ok h s4) (m:fN s4.st v c g h=Vr d):((mk (k+1)).ev cx (.Subscript e (.Slice a b t p) pos)).f s=.ok (.d d) s4:=aK l (aK i (aK n (aK j (hE m))))
theorem gz {b:List (Str×V)}{a:List SObj}{i:Kf}(h:I7 (mk k) cx (.Subscript e i pos)=zG (mk k) e i pos) (d:(ek (mk k) cx e).f s=.ok v s1) (c:((mk k).ev cx i).f s1=.ok u ⟨b,a⟩) (g:bE v u a=Vr w):((mk (k+1)).ev cx (.Subscript e i pos)).f s=.ok w ⟨b,a⟩:=by
 show (I7 (mk k) cx (.Subscript e i pos)).f s=_;rw[h];exact aK d (aK c (fU g))
theorem mL {F1:List (Str×V)}{T1:List SObj}(a:cx.comp=Vu/\bC (cx.names.lookup n)=Vt) (h:((mk k).ev cx e).f s=.ok v ⟨F1,T1⟩):((mk (k+1)).ev cx (.NamedExpr (.Name n p) e pos)).f s=.ok v ⟨aY n v F1,T1⟩:=(if_pos a).trans (aK h rfl)
theorem tX {op:PV}(h:((mk k).ev cx e).f s=.ok v s1):lj (cx:=cx) (mk k) op [e] s=.ok v s1:=h
theorem A0 {F1:List (Str×V)}{T1:List SObj}{op:PV}{a:Kf}{c:Bool}(d:((mk k).ev cx e).f s=.ok v ⟨F1,T1⟩) (b:cc T1 v=Vr c) (h:js op c=Vt) (g:lj (cx:=cx) (mk k) op (a::es) ⟨F1,T1⟩=.ok u s2):lj (cx:=cx) (mk k) op (e::a::es) s=.ok u s2:=aK d (aK (fU b) (by rw[h];exact g))
theorem Jg {F1:List (Str×V)}{T1:List SObj}{op:PV}{g:Kf}{c:Bool}(a:((mk k).ev cx e).f s=.ok v ⟨F1,T1⟩) (d:cc T1 v=Vr c) (b:js op c=Vu):lj (cx:=cx) (mk k) op (e::g::es) s=.ok v ⟨F1,T1⟩:=aK a (aK (fU d) (by rw[b];rfl))
theorem mY {op:PV}(h:lj (cx:=cx) (mk k) op es s=.ok v s1):((mk (k+1)).ev cx (.BoolOp op es p)).f s=.ok v s1:=h
theorem FT {t:Str}{m:Nat}{a:Pos}(hz:t.cps.size<=1000):((mk (k+1)).ev cx (.JoinedStr [.Constant (.str t) m a] p)).f s=.ok (.d (.str t)) s:=if_pos hz
section
variable {f:Str}{args:List Kf}{vs:List V}
theorem dH (hs:gL (mk k) cx f p args pos=kg (mk k) f p args pos) (a:aO args=Vt) (b:ia cx f=Vr d) (h:ow (mk k) cx args (.d d) s=.ok v s1):((mk (k+1)).ev cx (.Call (.Name f p) args [] pos)).f s=.ok v s1:=by
 show (gL (mk k) cx f p args pos).f s=_;rw[hs];exact (if_pos a).trans (aK (fK b) h)
theorem Az {c:Addr}(e:ke.contains c=Vt/\cx.inH=Vu) (g:(c==244)=Vu) (b:bM ((mk k).ev cx) args s=.ok vs s1) (f:eW (mk k) c vs s1=.ok v s2):ow (mk k) cx args (.d (.gbl c)) s=.ok v s2:=by
 refine (if_pos e).trans (aK (s1:=s1) (a:=vs) ?_ f);rw[g];exact b
noncomputable def EZ (b:Bi):Bool:=!(b.eq .set)&&!(b.eq .iter)
theorem rC {F1:List (Str×V)}{T1:List SObj}{c:Bi}(a:EZ c=Vt) (hh:(!cx.inH||c.eq .isinstance)=Vt) (g:bM (ek (mk k) cx) args s=.ok vs ⟨F1,T1⟩) (f:bI T1 c vs=Vr d):ow (mk k) cx args (.d (.bi c)) s=.ok (.d d) ⟨F1,T1⟩:=by
 obtain ⟨e,b⟩:=Kn.mp a;show ox (mk k) cx c args s=_;unfold ox;rw[(KO _).mp e];refine aK g ?_;unfold p0;rw[(KO _).mp b];exact (if_pos ((Mm.mp hh).imp (λq=>(KO _).mp q) id)).trans (hE f)
theorem aT {o:Kf}{m:Str}{ap:Pos}(h0:hF o=Vt/\aO args=Vt/\(ap.endLine==p.line)=Vt) (a:args.length<29) (b:(ek (mk k) cx o).f s=.ok v s1) (c:gI (mk k) cx m args v s1=.ok u s2):((mk (k+1)).ev cx (.Call (.Attribute o m ap) args [] p)).f s=.ok u s2:=(if_pos (w4 h0.1 h0.2.1 h0.2.2 a)).trans (aK b c)
theorem aS {b F1:List (Str×V)}{a T1:List SObj}{m:Str}{bm:BM}{st':List SObj}(e:cZ a v m=Vs) (c:hS a v m=Vr bm) (g:cD args=Vt) (d:bM ((mk k).ev cx) args ⟨b,a⟩=.ok vs ⟨F1,T1⟩) (f:iW T1 bm v vs=Vr (u,st')):gI (mk k) cx m args v ⟨b,a⟩=.ok u ⟨F1,st'⟩:=by
 unfold gI;rw[e,c];refine (if_pos g).trans (aK d ?_);unfold GR;rw[f];rfl
theorem cF {b:List (Str×V)}{a:List SObj}{m:Str}{c:Addr}(e:cZ a v m=Vr c) (hh:cx.inH=Vu) (d:bM ((mk k).ev cx) args ⟨b,a⟩=.ok vs s1) (f:eW (mk k) c (v::vs) s1=.ok u s2):gI (mk k) cx m args v ⟨b,a⟩=.ok u s2:=by
 unfold gI;rw[e];exact (if_pos hh).trans (aK d f)
end
section
variable {c c':Bool}{α:Type}
theorem DH (h:((mk k).ts cx t).f s=.ok c s1):((mk (k+1)).ts cx (.UnaryOp .Not t p)).f s=.ok (!c) s1:=aK h rfl
theorem Bk:rV ((mk k).ts cx) [] s=.ok Vt s:=rfl
theorem vI (h:((mk k).ts cx e).f s=.ok Vt s1) (a:rV ((mk k).ts cx) es s1=.ok c s2):rV ((mk k).ts cx) (e::es) s=.ok c s2:=aK h a
theorem Bj (h:((mk k).ts cx e).f s=.ok Vu s1):rV ((mk k).ts cx) (e::es) s=.ok Vu s1:=aK h rfl
theorem ma:DO ((mk k).ts cx) [] s=.ok Vu s:=rfl
theorem gH (h:((mk k).ts cx e).f s=.ok Vu s1) (a:DO ((mk k).ts cx) es s1=.ok c s2):DO ((mk k).ts cx) (e::es) s=.ok c s2:=aK h a
theorem IR (h:((mk k).ts cx e).f s=.ok Vt s1):DO ((mk k).ts cx) (e::es) s=.ok Vt s1:=aK h rfl
theorem uw (h:rV ((mk k).ts cx) es s=.ok c s1):((mk (k+1)).ts cx (.BoolOp .And es p)).f s=.ok c s1:=h
theorem x6 (h:DO ((mk k).ts cx) es s=.ok c s1):((mk (k+1)).ts cx (.BoolOp .Or es p)).f s=.ok c s1:=h
theorem GE (h:((mk k).ts cx t).f s=.ok Vt s1) (d:((mk k).ts cx a).f s1=.ok c s2):((mk (k+1)).ts cx (.IfExp t a b p)).f s=.ok c s2:=aK h d
theorem GF (h:((mk k).ts cx t).f s=.ok Vu s1) (d:((mk k).ts cx b).f s1=.ok c s2):((mk (k+1)).ts cx (.IfExp t a b p)).f s=.ok c s2:=aK h d
theorem cU {e:List (Str×V)}{d:List SObj}{op:PU}(g:BG (mk k) cx op b=(mk k).ev cx b) (l:Oq op b=Vu) (i:((mk k).ev cx a).f s=.ok v s1) (h:((mk k).ev cx b).f s1=.ok u ⟨e,d⟩) (j:bV d op v u=Vr c):((mk (k+1)).ts cx (.Compare a [op] [b] p)).f s=.ok c ⟨e,d⟩:=by
 show (tN op ((mk k).ev cx a) (BG (mk k) cx op b) s).bind _=_;rw[g];exact aK ((if_pos l).trans (aK i (aK h (fU (by rw[j];rfl))))) rfl
theorem BV {e:List (Str×V)}{d:List SObj}{op:PU}(g:BG (mk k) cx op b=ek (mk k) cx b) (l:Oq op b=Vu) (i:((mk k).ev cx a).f s=.ok v s1) (h:(ek (mk k) cx b).f s1=.ok u ⟨e,d⟩) (j:bV d op v u=Vr c):((mk (k+1)).ts cx (.Compare a [op] [b] p)).f s=.ok c ⟨e,d⟩:=by
 show (tN op ((mk k).ev cx a) (BG (mk k) cx op b) s).bind _=_;rw[g];exact aK ((if_pos l).trans (aK i (aK h (fU (by rw[j];rfl))))) rfl
theorem si {b:Bool}{m:Nat}:((mk (k+1)).ts cx (.Constant (.bool b) m p)).f s=.ok b s:=rfl
theorem jd {F1:List (Str×V)}{T1:List SObj}(a:(ek (mk k) cx (.Name n p)).f s=.ok v ⟨F1,T1⟩) (b:cc T1 v=Vr c):((mk (k+1)).ts cx (.Name n p)).f s=.ok c ⟨F1,T1⟩:=aK a (fU b)
theorem je {F1:List (Str×V)}{T1:List SObj}{a:List Keyword}(b:((mk k).ev cx (.Call e es a p)).f s=.ok v ⟨F1,T1⟩) (d:cc T1 v=Vr c):((mk (k+1)).ts cx (.Call e es a p)).f s=.ok c ⟨F1,T1⟩:=aK b (fU d)
theorem IG {F1:List (Str×V)}{T1:List SObj}(a:(ek (mk k) cx (.Attribute e n p)).f s=.ok v ⟨F1,T1⟩) (b:cc T1 v=Vr c):((mk (k+1)).ts cx (.Attribute e n p)).f s=.ok c ⟨F1,T1⟩:=aK a (fU b)
theorem Jr {F1:List (Str×V)}{T1:List SObj}(b:((mk k).ev cx (.Subscript e a p)).f s=.ok v ⟨F1,T1⟩) (d:cc T1 v=Vr c):((mk (k+1)).ts cx (.Subscript e a p)).f s=.ok c ⟨F1,T1⟩:=aK b (fU d)
end
end
section
variable {k:Nat}{cx:Cx}{s s1 s2 s3:St}{n:Str}{p pos:Pos}{Q:Fl->St->Prop}{E:D->List D->St->Prop}{v u ov:V}{d:D}{l:Nat}{e a b t o i:Kf}{es:List Kf}{st:Stmt}{ss body els:List Stmt}
theorem aG (q:Q .next s):W (((mk (k+1)).xs cx []).f s) Q E:=q
theorem Iv (h:W ((xy (mk k) cx st).f s) (λf s=>W (cH f s ((mk k).xs cx ss).f) Q E) E):W (((mk (k+1)).xs cx (st::ss)).f s) Q E:=W.bind h
theorem ko (h:(xy (mk k) cx st).f s=.ok .next s1) (q:W (((mk k).xs cx ss).f s1) Q E):W (((mk (k+1)).xs cx (st::ss)).f s) Q E:=W.bind (W.of h q)
theorem bT {F1:List (Str×V)}{T1:List SObj}(b:xy (mk k) cx (.Assign [.Name n p] e pos)=lH ((mk k).ev cx e) n p pos) (a:hX e=Vu/\bC (cx.names.lookup n)=Vt) (h:((mk k).ev cx e).f s=.ok v ⟨F1,T1⟩) (q:W (((mk k).xs cx ss).f ⟨aY n v F1,T1⟩) Q E):W (((mk (k+1)).xs cx (.Assign [.Name n p] e pos::ss)).f s) Q E:=ko (by rw[b];exact (if_pos a).trans (aK h rfl)) q
theorem ee {F1:List (Str×V)}{T1:List SObj}(b:xy (mk k) cx (.Assign [.Name n p] e pos)=lH (wO (mk k) cx e) n p pos) (a:hX e=Vu/\bC (cx.names.lookup n)=Vt) (h:(wO (mk k) cx e).f s=.ok v ⟨F1,T1⟩) (q:W (((mk k).xs cx ss).f ⟨aY n v F1,T1⟩) Q E):W (((mk (k+1)).xs cx (.Assign [.Name n p] e pos::ss)).f s) Q E:=ko (by rw[b];exact (if_pos a).trans (aK h rfl)) q
theorem cb (a:hX e=Vu) (h:((mk k).ev cx e).f s=.ok v s1) (q:W (((mk k).xs cx ss).f s1) Q E):W (((mk (k+1)).xs cx (.Expr e p::ss)).f s) Q E:=ko ((if_pos a).trans (aK h rfl)) q
theorem cg (h:((mk k).ev cx e).f s=.ok v s1) (q:Q (.ret v) s1):W (((mk (k+1)).xs cx (.Return (Vr e) p::ss)).f s) Q E:=W.bind (W.bind (W.of h q))
theorem ul {F1:List (Str×V)}{T1:List SObj}{ts:List Kf}{m:Nat}{a:List (Str×V)}(b:hX e=Vu/\jq e=Vu/\cx.inH=Vu) (h:((mk k).ev cx e).f s=.ok v ⟨F1,T1⟩) (c:dB cx (.Tuple ts m p) v=Vr a) (q:W (((mk k).xs cx ss).f ⟨eF a F1,T1⟩) Q E):W (((mk (k+1)).xs cx (.Assign [.Tuple ts m p] e pos::ss)).f s) Q E:=ko ((if_pos b).trans (aK h (aK (fU c) rfl))) q
theorem ir {fr:List (Str×V)}{x:Option (List SObj)}{st:List SObj}(h:x=Vr st):jD fr x=.ok () ⟨fr,st⟩:=by rw[h];rfl
theorem fM {a:List (Str×V)}{b:List SObj}{m:Str}{st':List SObj}(d:(wO (mk k) cx e).f s=.ok v s1) (c:(ek (mk k) cx o).f s1=.ok ov ⟨a,b⟩) (g:cN b ov m v=Vr st') (q:W (((mk k).xs cx ss).f ⟨a,st'⟩) Q E):W (((mk (k+1)).xs cx (.Assign [.Attribute o m p] e pos::ss)).f s) Q E:=ko (aK d (aK c (aK (ir g) rfl))) q
theorem xE {a:List (Str×V)}{b:List SObj}{j:Int}{st':List SObj}(c:hX e=Vu) (l:((mk k).ev cx e).f s=.ok v s1) (g:(ek (mk k) cx o).f s1=.ok ov s2) (m:((mk k).ev cx i).f s2=.ok (.d (.int j)) ⟨a,b⟩) (h:eD b ov j v=Vr st') (q:W (((mk k).xs cx ss).f ⟨a,st'⟩) Q E):W (((mk (k+1)).xs cx (.Assign [.Subscript o i p] e pos::ss)).f s) Q E:=ko ((if_pos c).trans (aK l (aK g (aK m (aK (ir h) rfl))))) q
theorem un {F1 b:List (Str×V)}{T1 c:List SObj}{m:Str}{op:NA}{old:V}{a:D}{st':List SObj}(i:(ek (mk k) cx o).f s=.ok ov ⟨F1,T1⟩) (g:cG T1 ov m=Vr old) (l:((mk k).ev cx e).f ⟨F1,T1⟩=.ok v ⟨b,c⟩) (h:Dq op old v=Vr a) (j:cN c ov m (.d a)=Vr st') (q:W (((mk k).xs cx ss).f ⟨b,st'⟩) Q E):W (((mk (k+1)).xs cx (.AugAssign (.Attribute o m p) op e pos::ss)).f s) Q E:=ko (aK i (aK (fU g) (aK l (aK (hE h) (aK (ir j) rfl))))) q
theorem Et {F1 b:List (Str×V)}{T1 c:List SObj}{j:Int}{m:Nat}{i:Pos}{op:NA}{old a:D}{st':List SObj}(l:(ek (mk k) cx o).f s=.ok ov ⟨F1,T1⟩) (g:qZ T1 ov j=Vr old) (r:((mk k).ev cx e).f ⟨F1,T1⟩=.ok v ⟨b,c⟩) (h:Dq op (.d old) v=Vr a) (n:eD c ov j (.d a)=Vr st') (q:W (((mk k).xs cx ss).f ⟨b,st'⟩) Q E):W (((mk (k+1)).xs cx (.AugAssign (.Subscript o (.Constant (.int j) m i) p) op e pos::ss)).f s) Q E:=ko (aK l (aK (hE g) (aK r (aK (hE h) (aK (ir n) rfl))))) q
theorem qd {c:Bool}(h:((mk k).ts cx t).f s=.ok c s1) (a:c=Vt->W (((mk k).xs cx body).f s1) (λf s=>W (cH f s ((mk k).xs cx ss).f) Q E) E) (b:c=Vu->W (((mk k).xs cx els).f s1) (λf s=>W (cH f s ((mk k).xs cx ss).f) Q E) E):W (((mk (k+1)).xs cx (.If t body els p::ss)).f s) Q E:=W.bind (W.bind (W.of h (W.cond a b)))
theorem lJ (h:((mk k).ts cx t).f s=.ok Vt s1) (a:W (((mk k).xs cx body).f s1) (λf s=>W (cH f s ((mk k).xs cx ss).f) Q E) E):W (((mk (k+1)).xs cx (.If t body els p::ss)).f s) Q E:=W.bind (W.bind (W.of h a))
theorem dN (h:((mk k).ts cx t).f s=.ok Vu s1) (a:W (((mk k).xs cx els).f s1) (λf s=>W (cH f s ((mk k).xs cx ss).f) Q E) E):W (((mk (k+1)).xs cx (.If t body els p::ss)).f s) Q E:=W.bind (W.bind (W.of h a))
theorem qe {m:Option Kf}(h:((mk k).ts cx t).f s=.ok Vt s1) (q:W (((mk k).xs cx ss).f s1) Q E):W (((mk (k+1)).xs cx (.Assert t m p::ss)).f s) Q E:=ko (aK h rfl) q
end
end
section
set_option linter.all false
def AF (Q:Fl->St->Prop) (I:St->Prop) (f:Fl) (s:St):Prop:=Fl.casesOn f (I s) (Q .next s) (I s) λv=>Q (.ret v) s
def rX (st:List SObj) (v:V) (K:List V->List SObj->Prop):Prop:=∃q,cS st v=Vr q/\K q.1 q.2
section
variable {k:Nat}{cx:Cx}{s:St}{Q:Fl->St->Prop}{E:D->List D->St->Prop}{t it e:Kf}{body els:List Stmt}{p pos:Pos}
theorem W.after {I:St->Prop}{g:St->Res Fl}{f:Fl}(a:∀s,I s->W (g s) Q E) (h:AF Q I f s):W (p8 f s g) Q E:=by
 cases f with
 | next=>exact a s h
 | brk=>exact h
 | cont=>exact a s h
 | ret v=>exact h
theorem oI {I:Nat->St->Prop}:∀{vs:List V}{s:St}(a:Nat),I a s->(∀i v s,vs[i]?=Vr v->I (a+i) s->∃c,dB cx t v=Vr c/\W (((mk k).xs cx body).f ⟨eF c s.fr,s.st⟩) (AF Q (I (a+i+1))) E)->(∀s,I (a+vs.length) s->W (((mk k).xs cx els).f s) Q E)->W (iS (mk k) cx t body els vs s) Q E:=@lr _ _ (@λs a d _ b=>b s d) (λv vs j=>(@λs a d step b=>by
  obtain ⟨c,g,m⟩:=step 0 v s rfl d;refine W.bind (W.opt ⟨c,g,W.bind (m.imp λf n h=>W.after (I:=I (a+0+1)) (λs2 l=>?_) h)⟩);refine j (a+1) l (λi v s e h=>?_) λs h=>b s (by rw[Lw,show a+(vs.length+1)=a+1+vs.length by lia];exact h);have:=step (i+1) v s e (by rw[show a+(i+1)=a+1+i by lia];exact h);rw[show a+(i+1)=a+1+i by lia] at this;exact this))
theorem ed {F1:List (Str×V)}{T1:List SObj}{a:List Stmt}{v:V}(b:xy (mk k) cx (.For t it body els pos)=FF (mk k) t it body els pos) (c:cx.comp=Vu/\cx.inH=Vu/\pC it=Vu) (h:(ek (mk k) cx it).f s=.ok v ⟨F1,T1⟩) (q:rX T1 v λvs st=>W (iS (mk k) cx t body els vs ⟨F1,st⟩) (λf s=>W (cH f s ((mk k).xs cx a).f) Q E) E):W (((mk (k+1)).xs cx (.For t it body els pos::a)).f s) Q E:=by
 refine W.bind ?_;rw[b];exact W.ite c (W.bind (W.of h (W.optE (q.elim λq h=>⟨q,h⟩))))
theorem xM {T:Ts k cx t}{I:Nat->St->Prop}:∀{n j:Nat}{s:St},j<n->I j s->(∀j s,I j s->W (T.f s) (λb s=>(b=Vt->W (((mk k).xs cx body).f s) (AF Q (λs=>∃a,a<j/\I a s)) E)/\(b=Vu->W (((mk k).xs cx els).f s) Q E)) E)->W (oG T (mk k) body els n s) Q E:=@nr _ (@λ_ _ h _ _=>absurd h (L8 _)) (λn c=>(@λj s g e step=>W.bind ((step j s e).imp λb s h=>W.cond (λq=>W.bind ((h.1 q).imp λf s h=>W.after (λs ⟨a,i,d⟩=>c (by lia) d step) h)) h.2)))
theorem uk {a:List Stmt}(I:Nat->St->Prop) (j:Nat) (e:cx.comp=Vu) (d:j<1000000) (h0:I j s) (step:∀j s,I j s->∃b s1,((mk k).ts cx t).f s=.ok b s1/\(b=Vt->W (((mk k).xs cx body).f s1) (AF (λf s=>W (cH f s ((mk k).xs cx a).f) Q E) (λs=>∃c,c<j/\I c s)) E)/\(b=Vu->W (((mk k).xs cx els).f s1) (λf s=>W (cH f s ((mk k).xs cx a).f) Q E) E)):W (((mk (k+1)).xs cx (.While t body els pos::a)).f s) Q E:=W.bind (W.ite e (xM d h0 λj s h=>(step j s h).elim λb h=>h.elim λs1 h=>W.of h.1 h.2))
end
section
variable {k:Nat}{cx:Cx}{s:St}{Q:V->St->Prop}{E:D->List D->St->Prop}{t it elt:Kf}{ifs:List Kf}{scope:OL}{p pos:Pos}
def jx (k:Nat) (cx:Cx) (t elt:Kf) (ifs:List Kf) (oF:List (Str×V)) (st:List SObj) (v:V) (o:Option D):Prop:=∃a,dB cx t v=Vr a/\W (jC (mk k) cx ifs ⟨eF a oF,st⟩) (λb s=>(b=Vt->W (((mk k).ev cx elt).f s) (λu s=>s.st=st/\∃d,u=.d d/\o=Vr d) noE)/\(b=Vu->s.st=st/\o=Vs)) noE
def kl (k:Nat) (a:Cx) (t elt:Kf) (ifs:List Kf) (oF:List (Str×V)) (st:List SObj) (v:V) (K:List D->List SObj->Prop):Prop:=∃vs st',cS st v=Vr (vs,st')/\vs.length<=100000/\∃g,(∀v∈vs,jx k a t elt ifs oF st' v (g v))/\K (vs.filterMap g) st'
theorem BQ {oF:List (Str×V)}{st:List SObj}{g:V->Option D}:∀{vs:List V}{acc:List D},(∀v∈vs,jx k cx t elt ifs oF st v (g v))->ez (mk k) cx t elt ifs oF vs acc st=.ok (acc++vs.filterMap g) ⟨[],st⟩:=@lr _ _ (@λacc _=>by rw[Sq,LG];rfl) (λv vs m=>(@λacc h=>by
  refine aC λj a=>?_;obtain ⟨s,o,q⟩:=h v (.head _);obtain ⟨b,n,r,l⟩:=q.get;refine a ?_;show optE (dB cx t v) _ _=_;rw[o];show iX (jC _ _ _ _) _=_;rw[r];show cond b _ _=_;rw[K0];cases b with
  | true=>
   refine aC λj a=>?_;obtain ⟨u,s2,p,i,d,rfl,c⟩:=(l.1 rfl).get;refine a ?_;show iX (((mk k).ev cx elt).f n) _=_;rw[p,c];show ez (mk k) cx t elt ifs oF vs (acc++[d]) s2.st=_;rw[i,m λv e=>h v (.tail _ e),KW];rfl
  | false=>
   refine aC λj a=>?_;obtain ⟨i,c⟩:=l.2 rfl;refine a ?_;rw[c];show ez (mk k) cx t elt ifs oF vs acc n.st=_;rw[i];exact m λv e=>h v (.tail _ e)))
theorem rA {F1:List (Str×V)}{T1:List SObj}{R:List D->List SObj->Prop}{v:V}(j:dM cx it ifs scope) (h:((mk k).ev cx it).f s=.ok v ⟨F1,T1⟩) (c:kl k (dW cx scope) t elt ifs (ef scope.names F1) T1 v R):∃ds st',(fO (cx:=cx) (mk k) elt t it ifs scope pos).f s=.ok ds ⟨F1,st'⟩/\R ds st':=by
 have:(fO (cx:=cx) (mk k) elt t it ifs scope pos).f s=if dM cx it ifs scope then (((mk k).ev cx it).f s).bind λv s=>(li (cx:=cx) (mk k) elt t ifs scope v s).bind .ok else .bad:=rfl
 refine aC λm a=>?_;obtain ⟨n,b,d,l,g,e,i⟩:=c;refine a ?_;refine y2 _ b ⟨?_,i⟩;rw[this,if_pos j];refine aK h (aK (s1:=⟨F1,b⟩) ?_ rfl);unfold li;rw[d];show (if _ then _ else _)=_;rw[if_pos l,BQ e];rfl
theorem AA {F1:List (Str×V)}{T1:List SObj}{R:List D->List SObj->Prop}{v:V}(a:dM cx it ifs scope) (h:((mk k).ev cx it).f s=.ok v ⟨F1,T1⟩) (b:kl k (dW cx scope) t elt ifs (ef scope.names F1) T1 v R):∃ds st',((mk (k+1)).ev cx (.ListComp elt [⟨t,it,ifs,0⟩] scope pos)).f s=.ok (.d (.lst ds)) ⟨F1,st'⟩/\R ds st':=by
 obtain ⟨ds,st',e,c⟩:=rA (pos:=pos) a h b;exact y2 ds st' ⟨aK e rfl,c⟩
theorem jc {F1:List (Str×V)}{T1:List SObj}{n:Str}{Q:Fl->St->Prop}{a:Pos}{b:List Stmt}{v:V}(hn:bC (cx.names.lookup n)=Vt) (i:dM cx it ifs scope) (h:((mk k).ev cx it).f s=.ok v ⟨F1,T1⟩) (q:kl k (dW cx scope) t elt ifs (ef scope.names F1) T1 v λds st=>W (((mk k).xs cx b).f ⟨aY n (.d (.lst ds)) F1,st⟩) Q E):W (((mk (k+1)).xs cx (.Assign [.Name n p] (.ListComp elt [⟨t,it,ifs,0⟩] scope pos) a::b)).f s) Q E:=by
 obtain ⟨ds,g,e,c⟩:=rA (pos:=pos) i h q;exact ko ((if_pos hn).trans (aK e rfl)) c
theorem iH {st:St}{Q:Bool->St->Prop}(q:Q Vt st):W (jC (mk k) cx [] st) Q E:=q
theorem lB {e:Kf}{st:St}{Q:Bool->St->Prop}(h:W (((mk k).ts cx e).f st) Q E):W (jC (mk k) cx [e] st) Q E:=h
end
end
section
set_option linter.all false
section
variable {st:List SObj}{i j:Int}{l l':List D}{d e:D}{m:Nat}{s t:Str}{b c:Bool}{n:Nat}{kvs:List (Int×D)}
theorem Il {α:Type}{o:Option α}{K:α->Prop}{a:α}(h:o=Vr a) (k:K a):∃a,o=Vr a/\K a:=⟨a,h,k⟩
theorem JT {v:V}{K:D->Prop}{a:D}(h:v=.d a) (k:K a):∃a,v=.d a/\K a:=⟨a,h,k⟩
theorem HQ:jv .Add (.d (.int i)) (.d (.int j))=Vr (.int (i+j)):=rfl
theorem Jz:jv .Sub (.d (.int i)) (.d (.int j))=Vr (.int (i-j)):=rfl
theorem Ef (h:cM i/\cM j):jv .Mult (.d (.int i)) (.d (.int j))=Vr (.int (i*j)):=by
 show Kj (if _ then _ else _) _=_;rw[if_pos h];rfl
theorem JB (h:j≠0/\j.natAbs<1000000):jv .FloorDiv (.d (.int i)) (.d (.int j))=Vr (.int (Lo i j)):=if_pos h
theorem JA (h:j≠0):jv .Mod (.d (.int i)) (.d (.int j))=Vr (.int (Ln i j)):=if_pos h
theorem Eg (h:0<=i/\0<=j):jv .BitAnd (.d (.int i)) (.d (.int j))=Vr (.int ((i.toNat&&& j.toNat:Nat):Int)):=if_pos h
theorem rU (h:l.length+l'.length<=100000):jv .Add (.d (.lst l)) (.d (.lst l'))=Vr (.lst (l++l')):=by
 show Kj Vs (Kj Vs (if _ then _ else _))=_;rw[if_pos h];rfl
theorem Bb (h:s.cps.size+t.cps.size<=1000):jv .Add (.d (.str s)) (.d (.str t))=Vr (.str (s++t)):=by
 show Kj Vs (Kj (if _ then _ else _) _)=_;rw[if_pos h];rfl
theorem kK:bV st .Eq (.d (.int i)) (.d (.int j))=Vr (i==j):=rfl
theorem JV:bV st .NotEq (.d (.int i)) (.d (.int j))=Vr (!(i==j)):=rfl
theorem JW:bV st .Lt (.d (.int i)) (.d (.int j))=Vr (decide (i<j)):=rfl
theorem Je:bV st .Gt (.d (.int i)) (.d (.int j))=Vr (decide (j<i)):=rfl
theorem JX:bV st .GtE (.d (.int i)) (.d (.int j))=Vr (decide (j<=i)):=rfl
theorem p5 (h:n<m):ki m (n:Int)=Vr n:=by
 unfold ki;rw[if_pos (LC n),if_pos (by simpa using h)];simp
theorem kX (h:ki l.length i=Vr m) (k:l[m]?=Vr d):bE (.d (.lst l)) (.d (.int i)) st=Vr (.d d):=by
 show (Kj ((Kj (Lm (Vr l) λl=>(ki l.length i).bind λk=>l[k]?) _).map V.d) _)=_;show (Kj ((Kj ((ki l.length i).bind λk=>l[k]?) _).map V.d) _)=_;rw[h];show (Kj ((Kj (l[m]?) _).map V.d) _)=_;rw[k];rfl
theorem zJ (h:ki l.length i=Vr m) (k:l[m]?=Vr d):bE (.d (.tup l)) (.d (.int i)) st=Vr (.d d):=by
 show (Kj ((Kj Vs (Kj Vs (Kj ((ki l.length i).bind λk=>l[k]?) _))).map V.d) _)=_;rw[h];show (Kj ((Kj Vs (Kj Vs (Kj (l[m]?) _))).map V.d) _)=_;rw[k];rfl
theorem zK (k:l[m]?=Vr d):bE (.d (.lst l)) (.d (.int (m:Int))) st=Vr (.d d):=kX (p5 (Kh.mp k).1) k
theorem Fx (k:l[m]?=Vr d):bE (.d (.tup l)) (.d (.int (m:Int))) st=Vr (.d d):=zJ (p5 (Kh.mp k).1) k
theorem He {q:Nat}(e:st[q]?=Vr (.list l)) (h:ki l.length i=Vr m) (k:l[m]?=Vr d):bE (.loc q) (.d (.int i)) st=Vr (.d d):=by
 have a:(V.loc q).ls? st=Vr l:=by
  show Kj Vs ((st[q]?).bind SObj.list?)=_;rw[e];rfl
 show (Kj ((Kj (((V.loc q).ls? st).bind λl=>(ki l.length i).bind λk=>l[k]?) _).map V.d) _)=_;rw[a];show (Kj ((Kj ((ki l.length i).bind λk=>l[k]?) _).map V.d) _)=_;rw[h];show (Kj ((Kj (l[m]?) _).map V.d) _)=_;rw[k];rfl
theorem Ic (h:0<=i):fN st (.d (.lst l)) Vs (Vr (.int i)) Vs=Vr (.lst (l.take i.toNat)):=by
 show Kj ((if _ then _ else _:Option (List D)).map D.lst) _=_;rw[if_pos h];rfl
theorem Id (h:j≠0):fN st (.d (.lst l)) (Vr (.int i)) Vs (Vr (.int j))=Vr (.lst (gi i j l)):=by
 show Kj ((if _ then _ else _:Option (List D)).map D.lst) _=_;rw[if_pos h];rfl
theorem Ie (h:0<=i):fN st (.d (.lst l)) (Vr (.int i)) Vs Vs=Vr (.lst (l.drop i.toNat)):=by
 show Kj ((if _ then _ else _:Option (List D)).map D.lst) _=_;rw[if_pos h];rfl
theorem sp {α β:Type}(f:α->β) (k m:Int) (l:List α):gi k m (l.map f)=(gi k m l).map f:=by
 unfold gi;rw[Ke,Sm]
 congr 1
 funext i;rw[Kv]
theorem eh (l:List Int):cR (l.map .int)=Vr l:=by
 induction l with
 | nil=>rfl
 | cons a l b=>show KJ _ (cR (l.map .int))=_;rw[b];rfl
theorem F7 {is:List Int}(h:cR l=Vr is):bI st .sum [.d (.lst l)]=Vr (.int is.sum):=by
 show (cR l).map _=_;rw[h];rfl
theorem HP:bI st .range [.d (.int i)]=Vr (.rng 0 i):=rfl
theorem Gn:bI st .range [.d (.int i),.d (.int j)]=Vr (.rng i j):=rfl
theorem A5:bI st .len [.d (.lst l)]=Vr (.int (l.length:Int)):=rfl
theorem Jv (h:l.length<=1000):∀{vs:List V},ej vs=Vr l->Fm vs=Vr (.lst l):=λ{vs} e=>by
 unfold Fm;rw[e];exact if_pos h
theorem Ju (h:l.length<=1000):∀{vs:List V},ej vs=Vr l->xU vs=Vr (.d (.tup l)):=λ{vs} e=>by
 unfold xU;rw[e];show Kj (if _ then _ else _) _=_;rw[if_pos h];rfl
end
section
variable {k:Nat}{a:Addr}{fd:FuncData}{vs us:List V}{st:List SObj}{Q:V->St->Prop}{E:D->List D->St->Prop}{fr:List (Str×V)}
def EF (Q:V->St->Prop) (f:Fl) (s:St):Prop:=Fl.casesOn f (Q (.d .non) ⟨[],s.st⟩) False False λv=>Q v ⟨[],s.st⟩
noncomputable def E0 (a:Addr):Bool:=!(a==eu)&&(!(a==bJ)&&(!(a==bL)&&!(a==244)))
theorem bX (j:E0 a=Vt) (l:zZ a=Vr fd) (q:iY a fd vs=Vr us) (hn:((bx fd).length==us.length&&(bx fd).all λn=>bC (fd.scope.names.lookup n))=Vt) (d:eF ((bx fd).zip us) []=fr) (h:W (((mk k).xs (gP fd) (dA fd)).f ⟨fr,st⟩) (EF Q) λc as s=>E c as ⟨[],s.st⟩):W ((mk (k+1)).call a vs st) Q E:=by
 show W (rP (mk k) a vs st) Q E;refine aC λt b=>?_;obtain ⟨p,e⟩:=Kn.mp j;obtain ⟨e,g⟩:=Kn.mp e;obtain ⟨g,m⟩:=Kn.mp g;obtain ⟨o,r⟩:=Kn.mp hn;refine b ?_;unfold rP;rw[(KO _).mp p,(KO _).mp e,(KO _).mp g,(KO _).mp m,l];show W (nb (mk k) a fd vs st) Q E;unfold nb;rw[q];show W (if _ then _ else _) Q E;rw[if_pos ⟨beq_iff_eq.mp o,r⟩];unfold v8;rw[d];cases i:((mk k).xs (gP fd) (dA fd)).f ⟨fr,st⟩ with
 | bad=>rw[i] at h;exact h
 | exn=>rw[i] at h;exact h
 | ok f s=>rw[i] at h;cases f<;>exact h
theorem cW {res:Res V}{P:D->Prop}(h:W res (λv s=>∃d,v=.d d/\(dt s.st).isSome=Vt/\P d) noE):∃d,dI res=Vr d/\P d:=by
 obtain ⟨v,s,rfl,d,rfl,h1,h2⟩:=h.get;refine ⟨d,?_,h2⟩;show (dt s.st).bind _=_;cases q:dt s.st with
 | none=>rw[q] at h1;cases h1
 | some r=>rfl
end
section
variable {k:Nat}{cx:Cx}{n:Str}{p:Pos}{v:V}{t elt:Kf}{ifs:List Kf}{oF:List (Str×V)}{st:List SObj}{o:Option D}
theorem eK (h:bC (cx.names.lookup n)=Vt):dB cx (.Name n p) v=Vr [(n,v)]:=by
 show Kj (if _ then _ else _) _=_;rw[if_pos h];rfl
theorem jZ (h:bC (cx.names.lookup n)=Vt) (q:W (jC (mk k) cx ifs ⟨aY n v oF,st⟩) (λb s=>(b=Vt->W (((mk k).ev cx elt).f s) (λu s=>s.st=st/\∃d,u=.d d/\o=Vr d) noE)/\(b=Vu->s.st=st/\o=Vs)) noE):jx k cx (.Name n p) elt ifs oF st v o:=⟨_,eK h,q⟩
theorem gw (h:bC (cx.names.lookup n)=Vt) (q:W (((mk k).ev cx elt).f ⟨aY n v oF,st⟩) (λu s=>s.st=st/\∃d,u=.d d/\o=Vr d) noE):jx k cx (.Name n p) elt [] oF st v o:=jZ h (iH ⟨λ_=>q,λe=>nomatch e⟩)
theorem jk:∀{n:Nat}{lo:Int},eE lo n=(KC n).map λ(i:Nat)=>.int (lo+i):=@nr _ (@λ_=>rfl) (λn a=>(@λlo=>by
  rw[O2,KG,KH];show D.int lo::eE (lo+1) n=_;rw[a]
  congr 1
  ·simp
  ·refine LN λi _=>?_;show D.int _=D.int _
   congr 1
   show lo+1+(i:Int)=lo+((i+1:Nat):Int);lia))
theorem gh {n:Nat}(h:n<=1000):cS st (.d (.rng 0 (n:Int)))=Vr (((KC n).map λ(i:Nat)=>V.d (.int (i:Int))),st):=by
 have e:items (.rng 0 (n:Int))=Vr (eE 0 n):=by
  show Kj Vs (Kj Vs (Kj (if _ then _ else _) _))=_;rw[if_pos (w3 (Qw _) (by lia) (by lia))];rfl
 show Kj ((items (.rng 0 (n:Int))).map _) _=_;rw[e,jk];show Vr ((Nd V.d _,st))=_;rw[KH]
 congr 3
 funext i;show V.d (.int _)=_;rw[Up]
theorem jA {l:List D}:cS st (.d (.lst l))=Vr (l.map .d,st):=rfl
theorem ut {k:Nat}{a:Cx}{n:Nat}{g:Nat->Option D}{K:List D->List SObj->Prop}(hn:n<=1000) (b:∀i,i<n->jx k a t elt ifs oF st (.d (.int (i:Int))) (g i)) (q:K ((KC n).filterMap g) st):kl k a t elt ifs oF st (.d (.rng 0 (n:Int))) K:=by
 refine y2 _ _ (w3 (gh hn) (by rw[Ke,KI];walk_at "n") ⟨λv=>v.d?.bind λd=>d.int?.bind λi=>g i.toNat,λv c=>?_,?_⟩)
 ·obtain ⟨i,e,rfl⟩:=Ku.mp c;exact b i (LA.mp e)
 ·rw[Mu];exact q
theorem nM {k:Nat}{a:Cx}{l:List D}{g:D->Option D}{K:List D->List SObj->Prop}(hn:l.length<=100000) (b:∀d∈l,jx k a t elt ifs oF st (.d d) (g d)) (q:K (l.filterMap g) st):kl k a t elt ifs oF st (.d (.lst l)) K:=by
 refine y2 _ _ (w3 jA (by rw[Ke];walk_at "n") ⟨λv=>v.d?.bind g,λv c=>?_,?_⟩)
 ·obtain ⟨i,e,rfl⟩:=Ku.mp c;exact b i e
 ·rw[Mu];exact q
theorem Hq {α β:Type}{P:Nat->β->Prop}{l:List α}{g:Nat->Option β}{f:Nat->α}(j:∀i,i<l.length->l[i]?=Vr (f i)) (h:∀i,i<l.length->∃d,g i=Vr d/\P i d){G:α->Option β}(k:∀i,i<l.length->G (f i)=g i):(l.filterMap G).length=l.length/\∀i d,(l.filterMap G)[i]?=Vr d->P i d:=by
 induction l generalizing P g f with
 | nil=>exact ⟨rfl,λi d e=>nomatch e⟩
 | cons a l o=>
  have t:=Kd (j 0 (M9 _));refine aC λu c=>?_;obtain ⟨d,n,p⟩:=h 0 (M9 _);have s:G a=Vr d:=t▸(k 0 (M9 _)).trans n;obtain ⟨m,r⟩:=o (P:=λi=>P (i+1)) (g:=λi=>g (i+1)) (f:=λi=>f (i+1)) (λi b=>j (i+1) (OU b)) (λi b=>h (i+1) (OU b)) (λi b=>k (i+1) (OU b));refine c ?_;rw[K0,s];refine ⟨congrArg Np m,λi q e=>?_⟩;cases i with
  | zero=>exact Kd e▸p
  | succ i=>exact r i q e
theorem qi {k:Nat}{c:Cx}{n:Nat}{P:Nat->D->Prop}{K:List D->List SObj->Prop}(hn:n<=1000) (b:∀i,i<n->∃d,P i d/\jx k c t elt ifs oF st (.d (.int (i:Int))) (Vr d)) (q:∀ds,ds.length=n->(∀i d,ds[i]?=Vr d->P i d)->K ds st):kl k c t elt ifs oF st (.d (.rng 0 (n:Int))) K:=by
 classical
 refine ut (g:=λi=>if h:i<n then Vr (PJ (b i h)) else Vs) hn (λi a=>by rw[dif_pos a];exact (QS (b i a)).2) ?_;obtain ⟨e,j⟩:=Hq (P:=P) (l:=KC n) (f:=λi=>i) (g:=λi=>if h:i<n then Vr (PJ (b i h)) else Vs) (G:=λi=>if h:i<n then Vr (PJ (b i h)) else Vs) (λi a=>by rw[PC (by simpa using a)]) (λi a=>by
  have a:i<n:=by simpa using a
  exact ⟨_,dif_pos a,(QS (b i a)).1⟩) (λi a=>rfl)
 exact q _ (e.trans KI) j
end
section
variable {k:Nat}{cx:Cx}{s:St}{Q:V->St->Prop}{E:D->List D->St->Prop}{es:List Kf}{p:Pos}
theorem dT {F1:List (Str×V)}{T1:List SObj}{vs:List V}{ds:List D}(a:aO es=Vt) (h:bM ((mk k).ev cx) es s=.ok vs ⟨F1,T1⟩) (b:zh vs=Vr ds):(wO (mk k) cx (.List es p)).f s=.ok (.loc T1.length) ⟨F1,T1++[.list ds]⟩:=aK (((if_pos a).trans (aK h (fU b)))) rfl
end
section
variable {k:Nat}{cx:Cx}{n:Str}{p:Pos}{Q:Fl->St->Prop}{E:D->List D->St->Prop}{fr:List (Str×V)}{st:List SObj}{body els:List Stmt}{I:Nat->List (Str×V)->List SObj->Prop}
theorem lK {vs:List V}(h:bC (cx.names.lookup n)=Vt) (h0:I 0 fr st) (step:∀i v fr st,vs[i]?=Vr v->I i fr st->W (((mk k).xs cx body).f ⟨aY n v fr,st⟩) (AF Q λs=>I (i+1) s.fr s.st) E) (a:∀fr st,I vs.length fr st->W (((mk k).xs cx els).f ⟨fr,st⟩) Q E):W (iS (mk k) cx (.Name n p) body els vs ⟨fr,st⟩) Q E:=by
 refine oI (I:=λi s=>I i s.fr s.st) 0 h0 (λi v s e b=>⟨_,eK h,?_⟩) λs hs=>?_
 ·rw[L2] at b;rw[L2];exact step i v s.fr s.st e b
 ·rw[L2] at hs;exact a s.fr s.st hs
theorem eB {N:Nat}(I:Nat->List (Str×V)->List SObj->Prop) (g:N<=1000) (h:bC (cx.names.lookup n)=Vt) (h0:I 0 fr st) (step:∀i fr st,i<N->I i fr st->W (((mk k).xs cx body).f ⟨aY n (.d (.int (i:Int))) fr,st⟩) (AF Q λs=>I (i+1) s.fr s.st) E) (a:∀fr st,I N fr st->W (((mk k).xs cx els).f ⟨fr,st⟩) Q E):rX st (.d (.rng 0 (N:Int))) λvs st=>W (iS (mk k) cx (.Name n p) body els vs ⟨fr,st⟩) Q E:=by
 refine ⟨_,gh g,lK h h0 (λi v fr st e l=>?_) λfr st hs=>a fr st (by rw[Ke,KI] at hs;exact hs)⟩;rw[Kv] at e;cases q:(KC N)[i]? with
 | none=>rw[q] at e;cases e
 | some j=>
  rw[q] at e;refine rq (Kd e) ?_;obtain ⟨c,b⟩:=Kh.mp q;rw[PO] at b;refine rq b ?_;exact step _ fr st (by simpa using c) l
theorem nK {l:List D}(I:Nat->List (Str×V)->List SObj->Prop) (h:bC (cx.names.lookup n)=Vt) (h0:I 0 fr st) (step:∀i d fr st,l[i]?=Vr d->I i fr st->W (((mk k).xs cx body).f ⟨aY n (.d d) fr,st⟩) (AF Q λs=>I (i+1) s.fr s.st) E) (a:∀fr st,I l.length fr st->W (((mk k).xs cx els).f ⟨fr,st⟩) Q E):rX st (.d (.lst l)) λvs st=>W (iS (mk k) cx (.Name n p) body els vs ⟨fr,st⟩) Q E:=by
 refine ⟨_,jA,lK h h0 (λi v fr st e b=>?_) λfr st hs=>a fr st (by rw[Ke] at hs;exact hs)⟩;rw[Kv] at e;cases q:l[i]? with
 | none=>rw[q] at e;cases e
 | some j=>
  rw[q] at e;refine rq (Kd e) ?_;exact step _ _ fr st q b
end
section
variable {st:List SObj}{l:Nat}{ds:List D}{d:D}
theorem cv (e:st[l]?=Vr (.list ds)) (hz:ds.length<=1000):iW st .append (.loc l) [.d d]=Vr (.d .non,st.set l (.list (ds++[d]))):=by
 show KJ _ ((st[l]?).bind _)=_;rw[e];show KJ _ (Kj (if _ then _ else _) _)=_;rw[if_pos hz];rfl
end
section
variable {k:Nat}{cx:Cx}{n:Str}{p:Pos}{Q:Fl->St->Prop}{E:D->List D->St->Prop}{fr:List (Str×V)}{st:List SObj}{body els:List Stmt}{t:Kf}{ts:List Kf}{m:Nat}{v:V}{vs:List V}{bs:List (Str×V)}{l:List D}{d:D}{is:List Int}
theorem eA:nz cx [] []=Vr []:=rfl
theorem aQ (h:bC (cx.names.lookup n)=Vt) (q:nz cx ts vs=Vr bs):nz cx (.Name n p::ts) (v::vs)=Vr ((n,v)::bs):=by
 show (if _ then _ else _)=_;rw[if_pos h,q];rfl
theorem dZ (h:nz cx ts (l.map .d)=Vr bs):dB cx (.Tuple ts m p) (.d (.lst l))=Vr bs:=h
theorem iO (h:nz cx ts (l.map .d)=Vr bs):dB cx (.Tuple ts m p) (.d (.tup l))=Vr bs:=h
theorem kq (I:Nat->List (Str×V)->List SObj->Prop) (h0:I 0 fr st) (step:∀i d fr st,l[i]?=Vr d->I i fr st->∃bs fr',dB cx t (.d d)=Vr bs/\eF bs fr=fr'/\W (((mk k).xs cx body).f ⟨fr',st⟩) (AF Q λs=>I (i+1) s.fr s.st) E) (a:∀fr st,I l.length fr st->W (((mk k).xs cx els).f ⟨fr,st⟩) Q E):rX st (.d (.lst l)) λvs st=>W (iS (mk k) cx t body els vs ⟨fr,st⟩) Q E:=by
 refine ⟨_,jA,oI (I:=λi s=>I i s.fr s.st) 0 h0 (λi v s e b=>?_) λs hs=>a s.fr s.st (by rw[Ke,L2] at hs;exact hs)⟩;rw[Kv] at e;rw[L2] at b ⊢;cases q:l[i]? with
 | none=>rw[q] at e;cases e
 | some j=>
  rw[q] at e;refine rq (Kd e) ?_;obtain ⟨bs,fr',c,rfl,e2⟩:=step i j s.fr s.st q b;exact ⟨bs,c,e2⟩
theorem Jl:ej []=Vr []:=rfl
theorem Ip (h:ej vs=Vr l):ej (.d d::vs)=Vr (d::l):=by
 show (ej vs).map _=_;rw[h];rfl
theorem im (h:cR l=Vr is) (hz:is.length<=100000/\∀i∈is,bK i):bI st .bytes [.d (.lst l)]=Vr (.bytes (is.map λ(i:Int)=>i.toNat.toUInt8).toArray):=by
 show (cR l).bind _=_;rw[h];exact if_pos hz
end
section
variable {k:Nat}{a:Addr}{vs:List V}{ds:List D}{s:St}{r:List SObj}{d:D}{fr:List (Str×V)}
theorem jI {c:List (Str×V)}{b:List SObj}(e:ie.contains a=Vt) (g:ej vs=Vr ds) (h:dI ((mk k).call a vs [.ctab])=Vr d) (f:b=.ctab::r):eW (mk k) a vs ⟨c,b⟩=.ok (.d d) ⟨c,b⟩:=by
 unfold eW;rw[e];show optE (ej vs) _ _=_;rw[g];show optE (dt b) _ _=_;rw[f];show cP ((dI _).map V.d) ⟨c,_⟩=_;rw[h];rfl
end
section
variable {k:Nat}{cx:Cx}{s s1:St}{Q:Fl->St->Prop}{E:D->List D->St->Prop}{body els ss:List Stmt}{pos p p2 pos2:Pos}{es:List Kf}{ct:Nat}{f:Str}{e:Kf}{ds:List D}
theorem BJ (a:xy (mk k) cx (.For (.Tuple es ct p) (.Call (.Name f p2) [e] [] pos2) body els pos)=D5 (mk k) body els pos es ct p f p2 e pos2) (b:cx.comp=Vu/\cx.inH=Vu/\cx.names.lookup f=Vr .globalImplicit/\bb e=Vs) (g:(bY f ib).bind D.bi?=Vr .enumerate) (h:((mk k).ev cx e).f s=.ok (.d (.tup ds)) s1) (q:W (iS (mk k) cx (.Tuple es ct p) body els (k0 0 ds) s1) (λf s=>W (cH f s ((mk k).xs cx ss).f) Q E) E):W (((mk (k+1)).xs cx (.For (.Tuple es ct p) (.Call (.Name f p2) [e] [] pos2) body els pos::ss)).f s) Q E:=by
 refine W.bind ?_;rw[a];refine W.ite b ?_;rw[g];refine W.optE ⟨_,rfl,?_⟩;refine W.ite (c:=Bi.eq .enumerate .enumerate=Vt) rfl ?_;refine W.bind ?_;refine W.of h ?_;exact W.optE ⟨ds,rfl,q⟩
end
section
variable {k:Nat}{cx:Cx}{Q:Fl->St->Prop}{E:D->List D->St->Prop}{fr:List (Str×V)}{st:List SObj}{body els ss:List Stmt}{t:Kf}{v:V}{l:List D}{s:St}{p:Pos}
theorem um (q:Q .brk s):W (((mk (k+1)).xs cx (.Break p::ss)).f s) Q E:=q
theorem Er (q:Q .cont s):W (((mk (k+1)).xs cx (.Continue p::ss)).f s) Q E:=q
theorem iq (c:cS st v=Vr (l.map .d,st)) (I:Nat->List (Str×V)->List SObj->Prop) (h0:I 0 fr st) (step:∀i d fr st,l[i]?=Vr d->I i fr st->∃b fr',dB cx t (.d d)=Vr b/\eF b fr=fr'/\W (((mk k).xs cx body).f ⟨fr',st⟩) (AF Q λs=>I (i+1) s.fr s.st) E) (a:∀fr st,I l.length fr st->W (((mk k).xs cx els).f ⟨fr,st⟩) Q E):rX st v λvs st=>W (iS (mk k) cx t body els vs ⟨fr,st⟩) Q E:=by
 obtain ⟨q,e,h⟩:=kq (k:=k) (cx:=cx) (t:=t) (body:=body) (els:=els) (Q:=Q) (E:=E) (fr:=fr) (st:=st) (l:=l) I h0 step a;obtain rfl:=Kd (jA.symm.trans e);exact ⟨_,c,h⟩
theorem wP {l:List D}(I:Nat->List (Str×V)->List SObj->Prop) (h0:I 0 fr st) (step:∀i d fr st,l[i]?=Vr d->I i fr st->∃b fr',dB cx t (.d (.tup [.int (i:Int),d]))=Vr b/\eF b fr=fr'/\W (((mk k).xs cx body).f ⟨fr',st⟩) (AF Q λs=>I (i+1) s.fr s.st) E) (g:∀fr st,I l.length fr st->W (((mk k).xs cx els).f ⟨fr,st⟩) Q E):W (iS (mk k) cx t body els (k0 0 l) ⟨fr,st⟩) Q E:=by
 have n:∀(j:Nat) (l:List D),(k0 j l).length=l.length:=λj l=>by
  induction l generalizing j with
  | nil=>rfl
  | cons a l o=>exact congrArg Np (o _)
 refine oI (I:=λi s=>I i s.fr s.st) 0 h0 (λi v s e h=>?_) λs hs=>g s.fr s.st (by rw[n,L2] at hs;exact hs);rw[L2] at h ⊢;refine aC λq c=>?_;obtain ⟨u,p,rfl⟩:=kG e;obtain ⟨b,fr',m,rfl,e2⟩:=step i u s.fr s.st p h;refine c ?_;exact ⟨b,by rw[L2];exact m,e2⟩
end
end
section
set_option linter.all false
theorem DW {st:List SObj}{i:Int}{s:Str}{c:Nat}(h:0<=i) (k:s.cps[i.toNat]?=Vr c):bE (.d (.str s)) (.d (.int i)) st=Vr (.d (.str ⟨#[c]⟩)):=by
 show (Kj ((Kj Vs (Kj Vs (Kj Vs (Kj (if _ then _ else _) _)))).map V.d) _)=_;rw[if_pos h];show (Kj ((Kj Vs (Kj Vs (Kj Vs (Kj (KJ _ (s.cps[i.toNat]?)) _)))).map V.d) _)=_;rw[k];rfl
section
variable {k:Nat}{cx:Cx}{s s1:St}{t:Kf}{p:Pos}{st:List SObj}{l:List D}
theorem IF (h:((mk k).ts cx t).f s=.ok Vu s1):((mk (k+1)).ts cx (.UnaryOp .Not t p)).f s=.ok Vt s1:=DH h
theorem sh (h:((mk k).ts cx t).f s=.ok Vt s1):((mk (k+1)).ts cx (.UnaryOp .Not t p)).f s=.ok Vu s1:=DH h
theorem fG {b:Bool}:cc st (.d (.bool b))=Vr b:=rfl
theorem EE:cc st (.d (.lst l))=Vr (!l.isEmpty):=rfl
theorem vC:bI st .len [.d (.tup l)]=Vr (.int (l.length:Int)):=rfl
end
theorem Ji {st:List SObj}{b:Array UInt8}:bI st .isinstance [.d (.bytes b),.d (.bi .bytes)]=Vr (.bool Vt):=rfl
def jb (fr l:List (Str×V)):Prop:=∀p∈l,get p.1 fr=Vr p.2
section
variable {fr l:List (Str×V)}{n:Str}{v w:V}{a b c d e f:Str×V}
theorem Kb (h:jb fr ((n,v)::l)):get n fr=Vr v:=h _ (.head _)
theorem Ka (h:jb fr (a::(n,v)::l)):get n fr=Vr v:=h _ (.tail _ (.head _))
theorem J9 (h:jb fr (a::b::(n,v)::l)):get n fr=Vr v:=h _ (.tail _ (.tail _ (.head _)))
theorem J8 (h:jb fr (a::b::c::(n,v)::l)):get n fr=Vr v:=h _ (.tail _ (.tail _ (.tail _ (.head _))))
theorem J7 (h:jb fr (a::b::c::d::(n,v)::l)):get n fr=Vr v:=h _ (.tail _ (.tail _ (.tail _ (.tail _ (.head _)))))
theorem J6 (h:jb fr (a::b::c::d::e::(n,v)::l)):get n fr=Vr v:=h _ (.tail _ (.tail _ (.tail _ (.tail _ (.tail _ (.head _))))))
theorem Jx:jb fr []:=λ_ h=>nomatch h
theorem tf (g:get n fr=Vr v) (h:jb fr l):jb fr ((n,v)::l):=λp a=>(Kw.mp a).elim (λe=>e▸g) (h p)
theorem Jw (h:jb fr l) (q:(l.all λp=>!(p.1==n))=Vt):jb (aY n v fr) l:=λp a=>wL ((KO _).mp (KS.mp q p a)) (h p a)
end
section
variable {α:Type}{x:Res α}{k:Nat}{cx:Cx}{s:St}{Q:Fl->St->Prop}{E:D->List D->St->Prop}{t:Kf}{body els ss:List Stmt}{pos:Pos}
theorem W.abs {Q:α->St->Prop}(h:∀a:α->St->Prop,(∀v s,Q v s->a v s)->W x a E):W x Q E:=h Q λ_ _ h=>h
theorem gQ (I:Nat->St->Prop) (j:Nat) (d:cx.comp=Vu) (c:j<1000000) (h0:I j s) (step:∀(R P:Fl->St->Prop) j s,(∀f s,AF (λf s=>W (cH f s ((mk k).xs cx ss).f) Q E) (λs=>∃a,a<j/\I a s) f s->R f s)->(∀f s,W (cH f s ((mk k).xs cx ss).f) Q E->P f s)->I j s->∃b s1,((mk k).ts cx t).f s=.ok b s1/\(b=Vt->W (((mk k).xs cx body).f s1) R E)/\(b=Vu->W (((mk k).xs cx els).f s1) P E)):W (((mk (k+1)).xs cx (.While t body els pos::ss)).f s) Q E:=uk I j d c h0 λj s h=>step _ _ j s (λ_ _ h=>h) (λ_ _ h=>h) h
end
end
section
set_option linter.all false
structure Thing9 where
 high:Int
 kind:Int
 rights:Int
 inner:List Int
noncomputable def Thing9.d (t:Thing9):D:=.lst [.int t.high,.int t.kind,.int t.rights,.lst (t.inner.map .int)]
structure Thing9.Good (t:Thing9):Prop where
 high:0<=t.high/\t.high<256
 kind:t.kind=4\/t.kind=8\/t.kind=12\/t.kind=6\/t.kind=0\/t.kind=3
 rights:0<=t.rights/\t.rights<4096
 inner:t.inner.length<=2/\∀x∈t.inner,0<=x/\x<9
def DD (d:D):Prop:=∃ts:List Thing9,ts.length=9/\(∀t∈ts,t.Good)/\d=.lst (ts.map Thing9.d)
theorem cJ {i m:Int}(h:0<m):0<=Ln i m/\Ln i m<m:=⟨Int.fmod_nonneg_of_pos _ h,Int.fmod_lt_of_pos _ h⟩
theorem rg {i:Int}{n:Nat}(h:0<n):∃q:Nat,Ln i (n:Int)=(q:Int)/\q<n:=by
 have:=cJ (i:=i) (m:=(n:Int)) (MD.mpr h);obtain ⟨q,e⟩:=Lj this.1;exact ⟨q,e,MD.mp (e▸this.2)⟩
theorem Ha:∀k∈([4,4,4,8,12,6,0,3]:List Int),k=4\/k=8\/k=12\/k=6\/k=0\/k=3:=by decide
theorem CF {q:Nat}(h:q<8):∃a,[D.int 4,.int 4,.int 4,.int 8,.int 12,.int 6,.int 0,.int 3][q]?=Vr (.int a)/\(a=4\/a=8\/a=12\/a=6\/a=0\/a=3):=by
 refine ⟨([4,4,4,8,12,6,0,3]:List Int)[q]'h,?_,Ha _ (Ms _)⟩;show (([4,4,4,8,12,6,0,3]:List Int).map D.int)[q]?=_;rw[Kv,Kl h];rfl
theorem ud {l:List D}{i:Nat}{d:D}(h:l[i]?=Vr d):ki l.length (i:Int)=Vr i:=p5 (Kh.mp h).1
theorem drawn {k:Nat}{ns:List Int}:W ((mk (k+30)).call 249 [.d (.lst (ns.map .int))] [.ctab]) (λv s=>∃d,v=.d d/\(dt s.st).isSome=Vt/\DD d) noE:=by
 refine bX (fd:=aW 249) (us:=[.d (.lst (ns.map .int))]) (fr:=aY (sn "script") (.d (.lst (ns.map .int))) []) rfl rfl rfl rfl rfl ?_;refine jc rfl (w4 rfl rfl rfl (by decide)) (by walk_at "e") ?_;refine qi (n:=12) (P:=λi d=>∃x,d=.int x) (by decide) (λi f=>⟨_,⟨(gi (i:Int) 12 ns).sum,rfl⟩,gw rfl ?_⟩) λT hL Y=>?_
 ·have hs:∀st,bI st .sum [.d (.lst (gi (i:Int) 12 (ns.map .int)))]=Vr (.int (gi (i:Int) 12 ns).sum):=λst=>by rw[sp];exact F7 (eh _)
  have hs:=hs [.ctab];walk_at "l"
 have L:∀i,i<12->∃x,T[i]?=Vr (.int x):=λi f=>by
  have f:i<T.length:=by walk_at "n"
  refine aC λu a=>?_;obtain ⟨x,g⟩:=Y i _ (Kl f);refine a ?_;exact ⟨x,by rw[Kl f,g]⟩
 walk_at "a";refine jc rfl (w4 rfl rfl rfl (by decide)) (by walk_at "e") ?_;refine qi (n:=3) (P:=λi d=>∃x,d=.int x/\0<=x/\x<4096) (by decide) (λi f=>?_) λP a3 hP=>?_
 ·refine aC λu a=>?_;obtain ⟨t,b⟩:=L (9+i) (by walk_at "n");refine a ?_;have ⟨p,hp⟩:∃p,[D.int 2025,.int 3488,.int 2373][i]?=Vr (.int p):=by
   obtain rfl | rfl | rfl:i=0\/i=1\/i=2:=by walk_at "n"
   all_goals exact ⟨_,rfl⟩
  have M:∀st,bE (.d (.lst T)) (.d (.int (9+(i:Int)))) st=Vr (.d (.int t)):=λst=>kX (m:=9+i) (by rw[show (9:Int)+(i:Int)=((9+i:Nat):Int) by walk_at "n"];exact ud b) b;have M:=M [.ctab];refine ⟨_,⟨Ln (p+t) 4096,rfl,cJ (by decide)⟩,gw rfl ?_⟩;walk_at "l"
 refine ee rfl ⟨rfl,rfl⟩ (dT rfl aL rfl) ?_;refine ed rfl (w3 rfl rfl rfl) (by walk_at "e") ?_;refine eB (N:=9) (λi fr st=>∃o:List Thing9,o.length=i/\(∀t∈o,t.Good)/\st=[.ctab,.list (o.map Thing9.d)]/\get (sn "told") fr=Vr (.d (.lst T))/\get (sn "pool") fr=Vr (.d (.lst P))/\get (sn "things") fr=Vr (.loc 1)/\∃C,get (sn "cells") fr=Vr (.d (.tup C))/\C.length=9/\∀d∈C,∃x,d=.int x) (by decide) rfl ?_ (λi fr st f F=>?_) λfr st F=>?_
 ·refine ⟨[],w7 rfl (λ_ h=>nomatch h) rfl (by walk_at "g") (by walk_at "g") (by exact aU) ⟨_,w3 (by walk_at "g") rfl ?_⟩⟩;intro d O;obtain ⟨x,_,e⟩:=Ku.mp (show d∈([2784,32665,322,4928,4030,1170431,4028,4512,553]:List Int).map D.int from O);exact ⟨x,e.symm⟩
 ·refine W.abs λR hR=>?_;refine aC λu a=>?_;obtain ⟨o,J,E,rfl,g1,g2,g3,C,g4,hC,hC2⟩:=F;obtain ⟨t,b⟩:=L i (by walk_at "n");obtain ⟨c,hc⟩:∃c,C[i]?=Vr (.int c):=by
   have f:i<C.length:=by walk_at "n"
   refine aC λu a=>?_;obtain ⟨x,g⟩:=hC2 _ (Ms f);refine a ?_;exact ⟨x,by rw[Kl f,g]⟩
  refine a ?_;walk_at "a";have l:=cJ (i:=c+t) (m:=1492992) (by decide);generalize Ln (c+t) 1492992=cell at l ⊢;walk_at "a";have r:0<=Lo cell 24/\Lo cell 24<62208:=by
   rw[Nq _ (by decide)];walk_at "n"
  generalize hr:Lo cell 24=rest at r ⊢;refine aC λu a=>?_;obtain ⟨q,U,G⟩:∃q:Nat,Ln cell 8=(q:Int)/\q<8:=rg (n:=8) (by decide);obtain ⟨K,S,A⟩:=CF G;refine a ?_;have Q:ki [D.int 4,.int 4,.int 4,.int 8,.int 12,.int 6,.int 0,.int 3].length (Ln cell 8)=Vr q:=by rw[U];exact ud S
  walk_at "a";have h3:=cJ (i:=rest) (m:=3) (by decide);have a1:=h3.1;walk_at "a";refine aC λu a=>?_;obtain ⟨j,hj,a4⟩:∃j:Nat,Ln (Lo cell 8) 3=(j:Int)/\j<3:=rg (n:=3) (by decide);have w:j<P.length:=by walk_at "n"
  obtain ⟨z,I,H⟩:=hP j _ (Kl w);refine a ?_;have y:P[j]?=Vr (.int z):=by rw[Kl w,I]
  have a2:ki P.length (Ln (Lo cell 8) 3)=Vr j:=by rw[hj];exact ud y
  refine' cb rfl (aT (w3 rfl rfl rfl) ?n1 ?n2 (aS (bm:=.append) ?n3 ?n4 rfl ?n5 ?n6)) (aG ?n7)
  case n1=>decide
  case n2=>walk_at "e"
  case n3=>kernel_rfl
  case n4=>kernel_rfl
  case n5=>walk_at "e"
  case n6=>exact cv rfl (by rw[Ke];walk_at "n")
  case n7=>
   refine hR _ _ ⟨o++[⟨Lo rest 243,K,z,([Ln (Lo rest 3) 9,Ln (Lo rest 27) 9]:List Int).take (Ln rest 3).toNat⟩],w7 (by rw[Km,J];rfl) (λt b=>?_) ?_ (by walk_at "g") (by walk_at "g") (by walk_at "g") ⟨C,w3 (by walk_at "g") hC hC2⟩⟩
   ·rcases Kx.mp b with b | b
    ·exact E t b
    ·rw[Kk.mp b];refine ⟨?_,A,H,?_,λx g=>?_⟩
     ·show 0<=Lo rest 243/\Lo rest 243<256;rw[Nq _ (by decide)];walk_at "n"
     ·show (UV _ _).length<=2;rw[Lv];exact Lr (Nat.min_le_right _ _) (KL 2)
     ·have g:=ME g;simp only[Kw,MJ,or_false] at g;rcases g with rfl | rfl<;>exact cJ (by decide)
   ·show [SObj.ctab,SObj.list _]=[SObj.ctab,SObj.list _];rw[KD];show _=[SObj.ctab,SObj.list (_++[D.lst [.int (Lo rest 243),.int K,.int z,.lst (Nd D.int (UV (Ln rest 3).toNat [Ln (Lo rest 3) 9,Ln (Lo rest 27) 9]))]])];rw[TK];rfl
 ·refine aC λu a=>?_;obtain ⟨o,J,E,rfl,g1,g2,g3,_⟩:=F;refine a ?_;refine aG ?_;refine cg (dR rfl g3 rfl) ⟨_,w3 rfl rfl ⟨o,w3 J E rfl⟩⟩
end
section
set_option linter.all false
noncomputable def Thing9.oct (t:Thing9):List Int:=[t.high,t.kind*16+Lo t.rights 256,Ln t.rights 256,(t.inner.length:Int)]++t.inner
noncomputable def octs (ts:List Thing9):List Int:=ts.flatMap Thing9.oct
noncomputable def aR (is:List Int):Array UInt8:=(is.map λ(i:Int)=>i.toNat.toUInt8).toArray
theorem wB {k d:Int}(b:0<=k/\k<=12) (a:0<=d/\d<16):bK (k*16+d):=by unfold bK;lia
theorem C2 {r:Int}(h:0<=r/\r<4096):0<=Lo r 256/\Lo r 256<16:=by
 rw[Nq _ (by decide)];lia
theorem Thing9.Good.oct {t:Thing9}(h:t.Good):t.oct.length<=6/\∀i∈t.oct,bK i:=by
 have a:=h.inner;have b:0<=t.kind/\t.kind<=12:=by rcases h.kind with e | e | e | e | e | e<;>rw[e]<;>decide
 refine ⟨?_,λi hi=>?_⟩
 ·skip
  rw[Km];exact PF a.1 4
 ·rcases Kx.mp hi with hi | hi
  ·exact (La (p:=bK)).mpr ⟨h.high,(La (p:=bK)).mpr ⟨wB b (C2 h.rights),(La (p:=bK)).mpr ⟨cJ (by decide),(La (p:=bK)).mpr ⟨⟨LC _,MD.mpr (MO a.1 (by decide:2<256))⟩,λ_ h=>absurd h MJ⟩⟩⟩⟩ i hi
  ·exact ⟨(a.2 i hi).1,Int.lt_trans (a.2 i hi).2 (by decide)⟩
theorem ky {ts:List Thing9}(f:∀t∈ts,t.Good):(octs ts).length<=6*ts.length/\∀i∈octs ts,bK i:=by
 induction ts with
 | nil=>exact ⟨KL _,λi e=>nomatch e⟩
 | cons t ts g=>
  obtain ⟨a,b⟩:=g λt h=>f t (.tail _ h);obtain ⟨c,d⟩:=(f t (.head _)).oct;unfold octs at a b ⊢
  rewrite [NP,Km,Lw]
  exact ⟨by lia,λi e=>(Kx.mp e).elim (d i) (b i)⟩
theorem nW {ts:List Thing9}{i:Nat}{t:Thing9}(h:ts[i]?=Vr t):octs (ts.take (i+1))=octs (ts.take i)++t.oct:=by
 unfold octs;rw[Le,h,M5];simp
theorem vP {k:Nat}{ts:List Thing9}(r:ts.length=9) (j:∀t∈ts,t.Good):W ((mk (k+30)).call 256 [.d (.lst (ts.map Thing9.d))] [.ctab]) (λv s=>∃d,v=.d d/\(dt s.st).isSome=Vt/\d=.bytes (aR (octs ts))) noE:=by
 refine bX (fd:=aW 256) (us:=[.d (.lst (ts.map Thing9.d))]) (fr:=aY (sn "things") (.d (.lst (ts.map Thing9.d))) []) rfl rfl rfl rfl rfl ?_;walk_at "a";refine ed rfl (w3 rfl rfl rfl) (by walk_at "e") ?_;refine kq (λi fr st=>st=[.ctab]/\get (sn "octets") fr=Vr (.d (.lst ((octs (ts.take i)).map .int)))) ⟨rfl,by exact aU⟩ (λi d fr st l h=>?_) λfr st h=>?_
 ·obtain ⟨rfl,g⟩:=h;rw[Kv] at l;obtain ⟨t,c,rfl⟩:=KY.mp l;have m:=Ko c;have G:=j t m;have hs:cM t.kind/\cM 16:=by
   have p:0<=t.kind/\t.kind<=12:=by rcases G.kind with e | e | e | e | e | e<;>rw[e]<;>decide
   exact ⟨by unfold cM;lia,by decide⟩
  have u:=(ky (ts:=ts.take i) λt c=>j t (ME c)).1;have n:(ts.take i).length<=9:=by rw[Lv];lia
  have o:=G.inner.1;have x:((octs (ts.take i)).map D.int).length+[D.int t.high,.int (t.kind*16+Lo t.rights 256),.int (Ln t.rights 256),.int ((t.inner.map D.int).length:Int)].length<=100000:=by
   rw[Ke];show _+4<=_;lia
  have w:((octs (ts.take i)).map D.int++[D.int t.high,.int (t.kind*16+Lo t.rights 256),.int (Ln t.rights 256),.int ((t.inner.map D.int).length:Int)]).length+(t.inner.map D.int).length<=100000:=by
   rw[Km,Ke,Ke];show _+4+_<=_;lia
  refine y2 _ (aY (sn "inner") (.d (.lst (t.inner.map .int))) (aY (sn "rights") (.d (.int t.rights)) (aY (sn "kind") (.d (.int t.kind)) (aY (sn "high") (.d (.int t.high)) fr)))) (w3 (dZ (aQ rfl (aQ rfl (aQ rfl (aQ rfl eA))))) rfl ?_);walk_at "a";refine aG ⟨rfl,?_⟩;rw[nW c,KD];unfold Thing9.oct;rw[KD,<- KW,<- Ke (as:=t.inner) (f:=D.int)];exact aU
 ·obtain ⟨rfl,g⟩:=h;rw[Ke,Mr] at g;obtain ⟨a,b⟩:=ky j;have y:=im (st:=[.ctab]) (eh (octs ts)) ⟨by lia,b⟩;refine aG ?_;refine' cg ?e ?q
  case e=>walk_at "e"
  case q=>exact ⟨_,w3 rfl rfl rfl⟩
end
section
set_option linter.all false
noncomputable def nD (m:Int):Int:=((m.toNat&&& 61440:Nat):Int)
theorem oa {k:Nat}{m:Int}(h:0<=m):dI ((mk (k+8)).call 190 [.d (.int m)] [.ctab])=Vr (.int (nD m)):=by
 obtain ⟨d,e,rfl⟩:=cW (res:=(mk (k+8)).call 190 [.d (.int m)] [.ctab]) (P:=λd=>d=.int (nD m)) (by
  refine bX (fd:=aW 190) (us:=[.d (.int m)]) (fr:=aY (sn "mode") (.d (.int m)) []) rfl rfl rfl rfl rfl ?_;have a:jv .BitAnd (.d (.int m)) (.d (.int 61440))=Vr (.int (nD m)):=Eg ⟨h,by decide⟩;refine' cg ?e ?q
  case e=>walk_at "e"
  case q=>exact ⟨_,w3 rfl rfl rfl⟩)
 exact e
theorem mx {k:Nat}{m:Int}(h:0<=m):dI ((mk (k+16)).call 197 [.d (.int m)] [.ctab])=Vr (.bool (nD m==16384)):=by
 obtain ⟨d,e,rfl⟩:=cW (res:=(mk (k+16)).call 197 [.d (.int m)] [.ctab]) (P:=λd=>d=.bool (nD m==16384)) (by
  refine bX (fd:=aW 197) (us:=[.d (.int m)]) (fr:=aY (sn "mode") (.d (.int m)) []) rfl rfl rfl rfl rfl ?_;refine' cg (mX rfl ?b (dH (d:=.gbl 190) ?h rfl ?f (Az ⟨?c,rfl⟩ rfl ?a (jI ?fr ?ad (oa h) ?st))) (fQ (d:=.int 16384) ?g) kK) ?q
  case b=>rfl
  case h=>rfl
  case f=>kernel_rfl
  case c=>kernel_rfl
  case a=>walk_at "e"
  case fr=>kernel_rfl
  case ad=>walk_at "d"
  case st=>rfl
  case g=>kernel_rfl
  case q=>exact ⟨_,w3 rfl rfl rfl⟩)
 exact e
end
section
set_option linter.all false
noncomputable def fmT:List (List (Int×String)):=[[(40960,"l"),(49152,"s"),(32768,"-"),(24576,"b"),(16384,"d"),(8192,"c"),(4096,"p")],[(256,"r")],[(128,"w")],[(2112,"s"),(2048,"S"),(64,"x")],[(32,"r")],[(16,"w")],[(1032,"s"),(1024,"S"),(8,"x")],[(4,"r")],[(2,"w")],[(513,"t"),(512,"T"),(1,"x")]]
theorem I5:fmTable=.tup (fmT.map λr=>.tup (r.map λp=>bZ p.1 p.2)):=rfl
noncomputable def hit (i:Nat) (m b:Int):Bool:=cond (i==0) (nD m==b) (((m.toNat&&& b.toNat:Nat):Int)==b)
noncomputable def qb (i:Nat) (m:Int) (r:List (Int×String)):String:=((r.find? λp=>hit i m p.1).map (·.2)).getD (cond (i==0) "?" "-")
noncomputable def gb (m:Int) (n:Nat):List D:=(KC n).map λi=>.str (sn (qb i m (fmT[i]?.getD [])))
theorem FI:∀r∈fmT,∀p∈r,0<=p.1:=by decide
theorem vl {α:Type}{f:α->Bool}{p:α}:∀{r:List α}{j:Nat},(∀q∈r.take j,f q=Vu)->r[j]?=Vr p->f p=Vt->r.find? f=Vr p
 | a::r,0,_,e,h=>by refine rp (Kd e) ?_;rw[MU,h]
 | a::r,j+1,b,e,h=>by
  rw[MU,b a (.head _)];exact vl (λq c=>b q (.tail _ c)) e h
 | [],_,_,e,_=>nomatch e
theorem Fg {st:List SObj}{l:List D}{a:List Str}(e:gT l=Vr a) (hz:l.length<=1000) (hs:(a.map (·.length)).sum<=1000):iW st .join (.d (.str (sn ""))) [.d (.lst l)]=Vr (.d (.str (Pv (sn "") a)),st):=by
 show KJ _ (if _ then _ else _)=_;rw[if_pos ⟨rfl,hz⟩,e];show KJ _ (if _ then _ else _)=_;rw[if_pos hs];rfl
theorem yc {α:Type}(f:α->Str) (l:List α):gT (l.map λa=>.str (f a))=Vr (l.map f):=by
 induction l with
 | nil=>rfl
 | cons a l b=>show KJ _ (gT (l.map _))=_;rw[b];rfl
theorem Dg:∀r∈fmT,∀p∈r,(sn p.2).length=1:=by decide
theorem Dh {m:Int}{i:Nat}(d:i<10):(sn (qb i m (fmT[i]?.getD []))).length=1:=by
 unfold qb;cases c:(fmT[i]?.getD []).find? λp=>hit i m p.1 with
 | none=>
  cases (i==0)<;>rfl
 | some p=>
  have a:=List.mem_of_find?_eq_some c;have b:i<fmT.length:=d;rw[Kl b] at a;exact Dg _ (Ms b) p a
theorem BW {l:List Nat}(h:∀x∈l,x=1):l.sum=l.length:=by
 induction l with
 | nil=>rfl
 | cons a l b=>rw[L7,Lw,h a (.head _),b λx c=>h x (.tail _ c)];lia
theorem nE {k:Nat}{m:Int}(h:0<=m):W ((mk (k+30)).call 237 [.d (.int m)] [.ctab]) (λv s=>∃d,v=.d d/\(dt s.st).isSome=Vt/\d=.str (Pv (sn "") ((KC 10).map λi=>sn (qb i m (fmT[i]?.getD []))))) noE:=by
 refine bX (fd:=aW 237) (us:=[.d (.int m)]) (fr:=aY (sn "mode") (.d (.int m)) []) rfl rfl rfl rfl rfl ?_;refine ee rfl ⟨rfl,rfl⟩ (dT rfl aL rfl) ?_;refine BJ (ds:=fmT.map λr=>.tup (r.map λp=>bZ p.1 p.2)) rfl (w4 rfl rfl rfl rfl) rfl (fQ (d:=fmTable) rfl) ?_;refine wP (λi fr st=>st=[.ctab,.list (gb m i)]/\get (sn "mode") fr=Vr (.d (.int m))/\get (sn "perm") fr=Vr (.loc 1)) (w3 rfl (by walk_at "g") (by exact aU)) (λi d fr st w o=>?_) λfr st o=>?_
 ·obtain ⟨rfl,g1,g2⟩:=o;rw[Kv] at w;obtain ⟨r,A,rfl⟩:=KY.mp w;have I:i<10:=(Kh.mp A).1;have F:gb m (i+1)=gb m i++[.str (sn (qb i m r))]:=by
   unfold gb;rw[Oc,KD,List.map_singleton,A];rfl
  have H:(gb m i).length<=1000:=by
   unfold gb;rw[Ke,KI];lia
  refine y2 _ (aY (sn "table") (.d (.tup (r.map λp=>bZ p.1 p.2))) (aY (sn "index") (.d (.int (i:Int))) fr)) (w3 (iO (aQ rfl (aQ rfl eA))) rfl ?_);refine ed rfl (w3 rfl rfl rfl) (by walk_at "e") ?_;refine iq (l:=r.map λp=>bZ p.1 p.2) rfl (λj fr st=>(∀p∈r.take j,hit i m p.1=Vu)/\st=[.ctab,.list (gb m i)]/\get (sn "mode") fr=Vr (.d (.int m))/\get (sn "perm") fr=Vr (.loc 1)/\get (sn "index") fr=Vr (.d (.int (i:Int)))) (w5 (λp n=>nomatch n) rfl (by walk_at "g") (by walk_at "g") (by walk_at "g")) (λj d fr st w o=>?_) λfr st o=>?_
  ·obtain ⟨y,rfl,g1,g2,g3⟩:=o;rw[Kv] at w;obtain ⟨p,n,rfl⟩:=KY.mp w;have K:=FI r (Ko A) p (Ko n);refine y2 _ (aY (sn "char") (.d (.str (sn p.2))) (aY (sn "bit") (.d (.int p.1)) fr)) (w3 (iO (aQ rfl (aQ rfl eA))) rfl ?_);have G:hit i m p.1=Vt->[SObj.ctab,.list (gb m i)].set 1 (.list (gb m i++[.str (sn p.2)]))=[SObj.ctab,.list (gb m (i+1))]:=λt=>by
    rw[F];unfold qb;rw[vl y n t];rfl
   have J:hit i m p.1=Vu->∀q∈r.take (j+1),hit i m q.1=false:=λt q z=>by
    rw[Le,n] at z;exact (Kx.mp z).elim (y q) λz=>by rw[Kk.mp z];exact t
   have b:iW [SObj.ctab,.list (gb m i)] .append (.loc 1) [.d (.str (sn p.2))]=Vr (.d .non,[SObj.ctab,.list (gb m i)].set 1 (.list (gb m i++[.str (sn p.2)]))):=cv rfl H;have L:jv .BitAnd (.d (.int m)) (.d (.int p.1))=Vr (.int ((m.toNat&&& p.1.toNat:Nat):Int)):=Eg ⟨h,K⟩;refine' qd (c:=((i:Int)==0)) (cU rfl rfl ?e1 dY kK) (λq=>?b1) λq=>?b2
   case e1=>walk_at "e"
   case b1=>
    obtain rfl:i=0:=by have:=eq_of_beq q;lia
    refine' qd (c:=(nD m==p.1)) (cU rfl rfl (dH (d:=.gbl 190) ?h rfl ?f (Az ⟨?c,rfl⟩ rfl ?a (jI ?fr ?ad ?hm ?st))) ?e2 kK) (λq=>?c1) λq=>?c2
    case h=>rfl
    case f=>kernel_rfl
    case c=>kernel_rfl
    case a=>walk_at "e"
    case fr=>kernel_rfl
    case ad=>walk_at "d"
    case hm=>exact oa h
    case st=>rfl
    case e2=>walk_at "e"
    case c1=>
     refine' cb rfl (aT (w3 rfl rfl rfl) ?n1 ?n2 (aS (bm:=.append) ?n3 ?n4 rfl ?n5 ?n6)) (um ?n7)
     case n1=>decide
     case n2=>walk_at "e"
     case n3=>kernel_rfl
     case n4=>kernel_rfl
     case n5=>walk_at "e"
     case n6=>exact b
     case n7=>exact w3 (G q) (by walk_at "g") (by walk_at "g")
    case c2=>exact w5 (J q) rfl (by walk_at "g") (by walk_at "g") (by walk_at "g")
   case b2=>
    have g:(i==0)=false:=beq_eq_false_iff_ne.mpr λe=>by rw[e] at q;exact nomatch q
    have t:hit i m p.1=(((m.toNat&&& p.1.toNat:Nat):Int)==p.1):=by unfold hit;rw[g];rfl
    refine' qd (c:=(((m.toNat&&& p.1.toNat:Nat):Int)==p.1)) (cU rfl rfl ?e3 ?e2 kK) (λq=>?c1) λq=>?c2
    case e3=>walk_at "e"
    case e2=>walk_at "e"
    case c1=>
     refine' cb rfl (aT (w3 rfl rfl rfl) ?n1 ?n2 (aS (bm:=.append) ?n3 ?n4 rfl ?n5 ?n6)) (um ?n7)
     case n1=>decide
     case n2=>walk_at "e"
     case n3=>kernel_rfl
     case n4=>kernel_rfl
     case n5=>walk_at "e"
     case n6=>exact b
     case n7=>exact w3 (G (t.trans q)) (by walk_at "g") (by walk_at "g")
    case c2=>exact w5 (J (t.trans q)) rfl (by walk_at "g") (by walk_at "g") (by walk_at "g")
  ·obtain ⟨y,rfl,g1,g2,g3⟩:=o;rw[Ke,Mr] at y;have N:r.find? (λp=>hit i m p.1)=none:=List.find?_eq_none.mpr λp n e=>by rw[y p n] at e;exact nomatch e
   have E:∀x,cond (i==0) "?" "-" = x->[SObj.ctab,.list (gb m i)].set 1 (.list (gb m i++[.str (sn x)]))=[SObj.ctab,.list (gb m (i+1))]:=λx C=>by
    rw[F];unfold qb;rw[N,<- C];rfl
   have b:∀x,iW [SObj.ctab,.list (gb m i)] .append (.loc 1) [.d (.str (sn x))]=Vr (.d .non,[SObj.ctab,.list (gb m i)].set 1 (.list (gb m i++[.str (sn x)]))):=λx=>cv rfl H;refine' qd (c:=((i:Int)==0)) (cU rfl rfl ?e1 dY kK) (λq=>?b1) λq=>?b2
   case e1=>walk_at "e"
   case b1=>
    have g:i=0:=by have:=eq_of_beq q;lia
    refine' cb rfl (aT (w3 rfl rfl rfl) ?n1 ?n2 (aS (bm:=.append) ?n3 ?n4 rfl ?n5 ?n6)) (aG ?n7)
    case n1=>decide
    case n2=>walk_at "e"
    case n3=>kernel_rfl
    case n4=>kernel_rfl
    case n5=>walk_at "e"
    case n6=>exact b "?"
    case n7=>exact w3 (E "?" (by rw[g];rfl)) (by walk_at "g") (by walk_at "g")
   case b2=>
    have g:(i==0)=false:=beq_eq_false_iff_ne.mpr λe=>by rw[e] at q;exact nomatch q
    refine' cb rfl (aT (w3 rfl rfl rfl) ?n1 ?n2 (aS (bm:=.append) ?n3 ?n4 rfl ?n5 ?n6)) (aG ?n7)
    case n1=>decide
    case n2=>walk_at "e"
    case n3=>kernel_rfl
    case n4=>kernel_rfl
    case n5=>walk_at "e"
    case n6=>exact b "-"
    case n7=>exact w3 (E "-" (by rw[g];rfl)) (by walk_at "g") (by walk_at "g")
 ·obtain ⟨rfl,g1,g2⟩:=o;refine aG ?_;refine' cg (aT (v:=.d (.str (sn ""))) (w3 rfl rfl rfl) ?n1 ?n2 (aS (bm:=.join) ?n3 ?n4 rfl ?n5 ?n6)) ?n7
  case n1=>decide
  case n2=>walk_at "e"
  case n3=>kernel_rfl
  case n4=>kernel_rfl
  case n5=>exact aI rfl (dR rfl g2 rfl) aL
  case n6=>exact Fg (yc (λi=>sn (qb i m (fmT[i]?.getD []))) (KC 10)) (by unfold gb;rw[Ke,Ke,KI];decide) (by
   rewrite [BW λx C=>?_,Ke,Ke,KI]
   ·decide
   ·obtain ⟨u,M,rfl⟩:=Ku.mp C;obtain ⟨i,I,rfl⟩:=Ku.mp M;exact Dh (LA.mp I))
  case n7=>exact ⟨_,w3 rfl rfl rfl⟩
end
section
set_option linter.all false
noncomputable def cT (i:Nat):Int:=cond (i==0) 64 (cond (i==1) 8 1)
noncomputable def eT (i:Nat):Int:=cond (i==0) 2048 (cond (i==1) 1024 512)
noncomputable def xT (i:Nat):Str:=cond (i==2) (sn "-xTt") (sn "-xSs")
noncomputable def vu (r:Int) (i:Nat):Int:=Ln (Lo r (cT i)) 8
noncomputable def lst (r:Int) (i:Nat):Int:=Ln (vu r i) 2+2*Ln (Lo r (eT i)) 2
noncomputable def gR (r:Int) (i:Nat):Str:=cond (decide (3<vu r i)) (sn "r") (sn "-")
noncomputable def gW (r:Int) (i:Nat):Str:=cond (Ln (Lo (vu r i) 2) 2==1) (sn "w") (sn "-")
noncomputable def gX (r:Int) (i:Nat):Str:=⟨#[((xT i).cps[(lst r i).toNat]?).getD 0]⟩
noncomputable def rowS (h:Str) (r:Int):Nat->Str
 | 0=>h
 | i+1=>rowS h r i++gR r i++gW r i++gX r i
theorem ww (r:Int) (i:Nat):0<=lst r i/\lst r i<4:=by
 have a:=cJ (i:=vu r i) (m:=2) (by decide);have b:=cJ (i:=Lo r (eT i)) (m:=2) (by decide);unfold lst;exact ⟨Int.add_nonneg a.1 (Int.mul_nonneg (by decide) b.1),Int.lt_of_le_of_lt (Int.add_le_add (Sd (show _<(1:Int)+1 from a.2)) (Int.mul_le_mul_of_nonneg_left (Sd (show _<(1:Int)+1 from b.2)) (by decide))) (by decide)⟩
theorem gc (a b:Str):(a++b).cps.size=a.cps.size+b.cps.size:=NJ ..
theorem th (r:Int) (i:Nat):(gR r i).cps.size=1/\(gW r i).cps.size=1/\(gX r i).cps.size=1:=by
 refine w3 ?_ ?_ rfl
 ·unfold gR;cases decide (3<vu r i)<;>rfl
 ·unfold gW;cases (Ln (Lo (vu r i) 2) 2==1)<;>rfl
theorem lV {h:Str}{r:Int}(hh:h.cps.size=1):∀i,(rowS h r i).cps.size=1+3*i:=@nr _ (hh) (λi d=>by
  obtain ⟨a,b,c⟩:=th r i;rw[gc,gc,gc,d,a,b,c];lia)
theorem yw {k:Nat}{a r:Int}{c:Nat}(x:0<=a) (I:(sn "?pc?d?b?-?l?s???").cps[a.toNat]?=Vr c):W ((mk (k+15)).call 282 [.d (.int a),.d (.int r)] [.ctab]) (λv s=>∃d,v=.d d/\(dt s.st).isSome=Vt/\d=.str (rowS ⟨#[c]⟩ r 3)) noE:=by
 refine bX (fd:=aW 282) (us:=[.d (.int a),.d (.int r)]) (fr:=aY (sn "rights") (.d (.int r)) (aY (sn "kind") (.d (.int a)) [])) rfl rfl rfl rfl rfl ?_;walk_at "a";refine ed rfl (w3 rfl rfl rfl) (by walk_at "e") ?_;refine eB (N:=3) (λi fr st=>st=[.ctab]/\get (sn "rights") fr=Vr (.d (.int r))/\get (sn "row") fr=Vr (.d (.str (rowS ⟨#[c]⟩ r i)))) (by decide) rfl (w3 rfl (by walk_at "g") (by exact aU)) (λi fr st F b=>?_) λfr st b=>?_
 ·obtain ⟨rfl,g1,g2⟩:=b;have A:[D.int 64,.int 8,.int 1][i]?=Vr (.int (cT i)):=by
   obtain rfl | rfl | rfl:i=0\/i=1\/i=2:=by lia
   all_goals rfl
  have C:[D.int 2048,.int 1024,.int 512][i]?=Vr (.int (eT i)):=by
   obtain rfl | rfl | rfl:i=0\/i=1\/i=2:=by lia
   all_goals rfl
  have o:[D.str (sn "-xSs"),.str (sn "-xSs"),.str (sn "-xTt")][i]?=Vr (.str (xT i)):=by
   obtain rfl | rfl | rfl:i=0\/i=1\/i=2:=by lia
   all_goals rfl
  have y:cT i≠0/\(cT i).natAbs<1000000:=by
   obtain rfl | rfl | rfl:i=0\/i=1\/i=2:=by lia
   all_goals decide
  have w:eT i≠0/\(eT i).natAbs<1000000:=by
   obtain rfl | rfl | rfl:i=0\/i=1\/i=2:=by lia
   all_goals decide
  walk_at "a";have hs:cM 2/\cM (Ln (Lo r (eT i)) 2):=by
   have f:=cJ (i:=Lo r (eT i)) (m:=2) (by decide);exact ⟨by decide,by unfold cM;lia⟩
  walk_at "a";obtain ⟨E,s2,H⟩:=th r i;have z:=lV (h:=⟨#[c]⟩) (r:=r) rfl i;have g:(rowS ⟨#[c]⟩ r i).cps.size+(gR r i).cps.size<=1000:=by lia
  have p:(rowS ⟨#[c]⟩ r i++gR r i).cps.size+(gW r i).cps.size<=1000:=by rw[gc];lia
  have j:(rowS ⟨#[c]⟩ r i++gR r i++gW r i).cps.size+(gX r i).cps.size<=1000:=by rw[gc,gc];lia
  refine' bT ?h1 ?h2 (ij (ij ?e1 (Ax (v:=.d (.str (gR r i))) (c:=decide (3<Ln (Lo r (cT i)) 8)) (cU rfl rfl ?e2 dY Je) (λq=>?q1) λq=>?q2) (Bb g)) (Ax (v:=.d (.str (gW r i))) (c:=(Ln (Lo (Ln (Lo r (cT i)) 8) 2) 2==1)) (cU rfl rfl ?e3 dY kK) (λq=>?q3) λq=>?q4) (Bb p)) ?h4
  case h1=>kernel_rfl
  case h2=>exact ⟨rfl,rfl⟩
  case e1=>walk_at "e"
  case e2=>walk_at "e"
  case q1=>unfold gR vu;rw[q];exact ry (Ky rfl)
  case q2=>unfold gR vu;rw[q];exact ry (Ky rfl)
  case e3=>walk_at "e"
  case q3=>unfold gW vu;rw[q];exact ry (Ky rfl)
  case q4=>unfold gW vu;rw[q];exact ry (Ky rfl)
  have t:=ww r i;have u:0<=Ln (Ln (Lo r (cT i)) 8) 2+2*Ln (Lo r (eT i)) 2:=t.1;have l:(xT i).cps[(Ln (Ln (Lo r (cT i)) 8) 2+2*Ln (Lo r (eT i)) 2).toNat]?=Vr (((xT i).cps[(lst r i).toNat]?).getD 0):=by
   have G:(xT i).cps.size=4:=by unfold xT;cases (i==2)<;>rfl
   have n:(lst r i).toNat<(xT i).cps.size:=by lia
   show (xT i).cps[(lst r i).toNat]?=Vr (((xT i).cps[(lst r i).toNat]?).getD 0);rw[Li n];rfl
  refine' bT ?h1 ?h2 (ij ?e1 (gz rfl (cE rfl (gz rfl (cE rfl ?e4) ?e5 (Fx o))) ?e6 (DW u l)) (Bb j)) (aG ?n1)
  case h1=>kernel_rfl
  case h2=>exact ⟨rfl,rfl⟩
  case e1=>walk_at "e"
  case e4=>walk_at "e"
  case e5=>walk_at "e"
  case e6=>walk_at "e"
  case n1=>exact w3 rfl (by walk_at "g") (by exact aU)
 ·obtain ⟨rfl,g1,g2⟩:=b;refine aG ?_;refine' cg ?e ?q
  case e=>walk_at "e"
  case q=>exact ⟨_,w3 rfl rfl rfl⟩
end
section
set_option linter.all false
section
variable {k:Nat}{cx:Cx}{s s1 s2:St}{e a b:Kf}{p:Pos}{v u:V}{l ds:List D}{st:List SObj}{x:Int}{n:Nat}
theorem sM {n:Nat}:eE 0 n=(KC n).map λ(i:Nat)=>.int (i:Int):=by
 rw[jk];refine LN λi _=>?_;rw[Up]
theorem Do (h:n<=1000):bI st .list [.d (.rng 0 (n:Int))]=Vr (.lst ((KC n).map λ(i:Nat)=>.int (i:Int))):=by
 show Kj (if _ then _ else _) _=_;rw[if_pos (w3 (Qw _) (by lia) (by lia))];show Vr (D.lst (eE 0 n))=_;rw[sM]
theorem tG {e:List (Str×V)}{c:List SObj}{n:Int}(h:((mk k).ev cx a).f s=.ok (.d (.lst l)) s1) (g:((mk k).ev cx b).f s1=.ok (.d (.int n)) ⟨e,c⟩) (i:l.length=1/\0<=n/\n<=1000):(wO (mk k) cx (.BinOp a .Mult b p)).f s=.ok (.loc c.length) ⟨e,c++[.list (LU n.toNat l).flatten]⟩:=aK (aK h (aK g (fU (if_pos i)))) rfl
theorem qh {lo:Nat}{n:Nat}(h:lo+n<=1000):cS st (.d (.rng (lo:Int) ((lo+n:Nat):Int)))=Vr (((KC n).map λ(i:Nat)=>V.d (.int ((lo+i:Nat):Int))),st):=by
 have e:items (.rng (lo:Int) ((lo+n:Nat):Int))=Vr (eE (lo:Int) n):=by
  show Kj Vs (Kj Vs (Kj (if _ then _ else _) _))=_;rw[if_pos (w3 (by lia) (by lia) (by lia))];show Vr (eE (lo:Int) (((lo+n:Nat):Int)-(lo:Int)).toNat)=_;rw[show (((lo+n:Nat):Int)-(lo:Int)).toNat=n by lia]
 show Kj ((items (.rng (lo:Int) ((lo+n:Nat):Int))).map _) _=_;rw[e,jk];show Vr ((Nd V.d _,st))=_;rw[KH]
 congr 3
theorem Ah:∀{is:List Int},vp (.int x) (is.map .int)=Vr (is.map (·==x)):=@lr _ _ (rfl) (λi is c=>by
  show Lm (Vr (i==i)) (λ_=>Lm (Vr (i==x)) λa=>(vp (.int x) (is.map .int)).map λb=>a::b)=_;rw[c];rfl)
theorem lA {is:List Int}:bV st .In (.d (.int x)) (.d (.lst (is.map .int)))=Vr (is.contains x):=by
 show Kj ((vp (.int x) (is.map .int)).map λa=>a.any id) _=_;rw[Ah];show Vr ((is.map (·==x)).any id)=_
 congr 1
 rw[Rp,List.contains_eq_any_beq]
 congr 1
 funext i;show (i==x)=(x==i);exact LR.mpr ⟨λh=>by rw[eq_of_beq h];exact beq_self_eq_true _,λh=>by rw[eq_of_beq h];exact beq_self_eq_true _⟩
theorem EJ {F1:List (Str×V)}{T1:List SObj}{a:Kf}{b:List Comprehension}{scope:OL}{c:Bool}(e:((mk k).ev cx (.ListComp a b scope p)).f s=.ok v ⟨F1,T1⟩) (d:cc T1 v=Vr c):((mk (k+1)).ts cx (.ListComp a b scope p)).f s=.ok c ⟨F1,T1⟩:=aK e (fU d)
theorem DR {l:Nat}{i:Int}{d:D}(e:st[l]?=Vr (.list ds)) (h:0<=i/\i.toNat<ds.length):eD st (.loc l) i (.d d)=Vr (st.set l (.list (ds.set i.toNat d))):=by
 show (st[l]?).bind _=_;rw[e];show Kj (Kj (if _ then _ else _) _) _=_;rw[if_pos h];rfl
end
theorem BN {F1:List (Str×V)}{T1:List SObj}{k:Nat}{cx:Cx}{s:St}{Q:Bool->St->Prop}{E:D->List D->St->Prop}{t it b:Kf}{a:List Kf}{scope:OL}{pos:Pos}{v:V}(i:dM cx it a scope) (h:((mk k).ev cx it).f s=.ok v ⟨F1,T1⟩) (c:kl k (dW cx scope) t b a (ef scope.names F1) T1 v λds st=>Q (!ds.isEmpty) ⟨F1,st⟩):W (((mk (k+2)).ts cx (.ListComp b [⟨t,it,a,0⟩] scope pos)).f s) Q E:=by
 obtain ⟨ds,g,e,d⟩:=AA (pos:=pos) i h c;exact W.of (EJ e rfl) d
noncomputable def wk (needs:List (List Int)):Nat->List Int
 | 0=>(KC 9).map λ(i:Nat)=>(i:Int)
 | t+1=>((KC 9).map λ(i:Nat)=>(i:Int)).filter λi=>!((needs[i.toNat]?.getD []).filter λx=>(wk needs t).contains x).isEmpty
theorem Ix {needs:List (List Int)}:wk needs 0=(KC 9).map λ(i:Nat)=>(i:Int):=rfl
theorem Iw {needs:List (List Int)}{t:Nat}:wk needs (t+1)=((KC 9).map λ(i:Nat)=>(i:Int)).filter λi=>!((needs[i.toNat]?.getD []).filter λx=>(wk needs t).contains x).isEmpty:=rfl
noncomputable def hs (needs:List (List Int)):Nat->List Int
 | 0=>LU 9 0
 | t+1=>(wk needs (t+1)).foldl (λh i=>h.set i.toNat ((t+1:Nat):Int)) (hs needs t)
theorem og {p:Int->Bool}:∀{is:List Int},(is.map D.int).filterMap (λd=>d.int?.bind λx=>cond (p x) (Vr (D.int x)) Vs)=(is.filter p).map .int:=@lr _ _ (rfl) (λi is a=>by
  have b:=a;have e:((D.int i).int?.bind λx=>cond (p x) (Vr (D.int x)) Vs)=cond (p i) (Vr (D.int i)) none:=rfl;rw[KG,K0,Mt,e];cases p i with
  | true=>exact congrArg (D.int i::·) b
  | false=>exact b)
theorem Ho {p:Nat->Bool}:∀{l:List Nat},l.filterMap (λi=>cond (p i) (Vr (D.int (i:Int))) Vs)=((l.map λ(i:Nat)=>(i:Int)).filter λi=>p i.toNat).map .int:=@lr _ _ (rfl) (λi c a=>by
  have b:=a;rw[K0,KG,Mt,KT];cases p i with
  | true=>exact congrArg (D.int (i:Int)::·) b
  | false=>exact b)
theorem zL (n:Int):∀(l h:List Int),h.length=9->(l.foldl (λh i=>h.set i.toNat n) h).length=9:=@lr _ _ (@λ_ e=>e) (λi l a=>(@λh e=>a _ (by rw[KZ];exact e)))
theorem qV (needs:List (List Int)):∀t,(hs needs t).length=9:=@nr _ (rfl) (λt a=>zL _ _ _ (a))
theorem pG {k:Nat}{needs:List (List Int)}(M:needs.length=9) (H:∀l∈needs,l.length<=2):W ((mk (k+30)).call 287 [.d (.lst (needs.map λl=>.lst (l.map .int)))] [.ctab]) (λv s=>∃d,v=.d d/\(dt s.st).isSome=Vt/\d=.lst ((hs needs 9).map .int)) noE:=by
 refine bX (fd:=aW 287) (us:=[.d (.lst (needs.map λl=>.lst (l.map .int)))]) (fr:=aY (sn "needs") (.d (.lst (needs.map λl=>.lst (l.map .int)))) []) rfl rfl rfl rfl rfl ?_;have K:bI [.ctab] .list [.d (.rng 0 9)]=Vr (.lst ((KC 9).map λ(i:Nat)=>.int (i:Int))):=Do (n:=9) (by decide);walk_at "a";refine' ee ?h1 ?h2 (tG ?e1 dY ?hc) ?h4
 case h1=>kernel_rfl
 case h2=>exact ⟨rfl,rfl⟩
 case e1=>walk_at "e"
 case hc=>exact w3 rfl (by decide) (by decide)
 refine' ed rfl (w3 rfl rfl rfl) ?e2 ?q2
 case e2=>walk_at "e"
 have A:∀st,cS st (.d (.rng 1 10))=Vr (((KC 9).map λ(i:Nat)=>V.d (.int ((1+i:Nat):Int))),st):=λst=>qh (lo:=1) (n:=9) (by decide);refine ⟨(_,_),A _,?_⟩;refine lK (I:=λt fr st=>st=[.ctab,.list ((hs needs t).map .int)]/\get (sn "needs") fr=Vr (.d (.lst (needs.map λl=>.lst (l.map .int))))/\get (sn "walking") fr=Vr (.d (.lst ((wk needs t).map .int)))/\get (sn "heights") fr=Vr (.loc 1)) rfl (w4 rfl (by walk_at "g") ?_ (by exact aU)) (λt v fr st y f=>?_) λfr st f=>?_
 ·show get (sn "walking") (aY _ _ (aY _ _ _))=_;rw[cV,if_neg (beq_eq_false_iff_ne.mp rfl),cV,if_pos rfl];rw[Ix];rw[KH];rfl
 ·obtain ⟨rfl,g1,g2,g3⟩:=f;obtain ⟨J,rfl⟩:t<9/\v=.d (.int ((1+t:Nat):Int)):=by
   rw[Kv] at y;obtain ⟨j,G,rfl⟩:=KY.mp y;obtain ⟨w,c⟩:=Kh.mp G;rw[PO] at c;refine rq c ?_;exact ⟨by simpa using w,rfl⟩
  refine' jc ?ae ?ac ?aa ?ab
  case ae=>kernel_rfl
  case ac=>exact w4 rfl rfl rfl (by decide)
  case aa=>walk_at "e"
  refine ut (n:=9) (g:=λi=>cond (!((needs[i]?.getD []).filter λx=>(wk needs t).contains x).isEmpty) (Vr (.int (i:Int))) Vs) (by decide) (λi L=>jZ rfl (lB ?_)) ?_
  ·have r:i<needs.length:=by walk_at "n"
   have o:(needs.map λl=>D.lst (l.map .int))[i]?=Vr (.lst ((needs[i]?.getD []).map .int)):=by
    rw[Kv,Kl r];rfl
   refine' BN ?k2 ?k3 ?k4
   case k2=>exact w4 rfl rfl rfl (by decide)
   case k3=>walk_at "e"
   case k4=>
    refine nM (l:=(needs[i]?.getD []).map .int) (g:=λd=>d.int?.bind λx=>cond ((wk needs t).contains x) (Vr (D.int x)) Vs) ?_ (λd b=>?_) ?_
    ·have:=H _ (Ms r);rw[Ke,Kl r];show (needs[i]).length<=_;walk_at "n"
    ·obtain ⟨x,z,rfl⟩:=Ku.mp b;refine jZ rfl (lB ?_);refine' W.of (BV rfl rfl ?m1 ?m2 lA) ⟨λq=>?m3,λq=>?m4⟩
     case m1=>walk_at "e"
     case m2=>walk_at "e"
     case m3=>
      refine' W.of ?m5 ?m6
      case m5=>walk_at "e"
      case m6=>exact ⟨rfl,_,rfl,by show cond _ _ _=_;rw[q];rfl⟩
     case m4=>exact ⟨rfl,by show cond _ _ _=_;rw[q];rfl⟩
    ·rw[og];have N:((needs[i]?.getD []).filter λx=>(wk needs t).contains x).map D.int=[]<->((needs[i]?.getD []).filter λx=>(wk needs t).contains x)=[]:=List.map_eq_nil_iff;refine ⟨λq=>?_,λq=>⟨rfl,?_⟩⟩
     ·refine' W.of ?m7 ?m8
      case m7=>walk_at "e"
      case m8=>
       refine ⟨rfl,_,rfl,?_⟩;rw[SU] at q;rw[q];rfl
     ·rw[SU] at q;rw[q];rfl
  ·rw[Ho (p:=λi=>!((needs[i]?.getD []).filter λx=>(wk needs t).contains x).isEmpty)];have e:(((KC 9).map λ(i:Nat)=>(i:Int)).filter λi=>!((needs[i.toNat]?.getD []).filter λx=>(wk needs t).contains x).isEmpty)=wk needs (t+1):=rfl;rw[e];refine' ed rfl (w3 rfl rfl rfl) ?r1 ?r2
   case r1=>walk_at "e"
   case r2=>
    refine nK (λj fr st=>st=[.ctab,.list ((((wk needs (t+1)).take j).foldl (λh i=>h.set i.toNat ((t+1:Nat):Int)) (hs needs t)).map .int)]/\get (sn "needs") fr=Vr (.d (.lst (needs.map λl=>.lst (l.map .int))))/\get (sn "walking") fr=Vr (.d (.lst ((wk needs (t+1)).map .int)))/\get (sn "heights") fr=Vr (.loc 1)/\get (sn "turn") fr=Vr (.d (.int ((1+t:Nat):Int)))) rfl (w5 rfl (by walk_at "g") (by walk_at "g") (by walk_at "g") (by walk_at "g")) (λj d fr st b m=>?_) λfr st m=>?_
    ·obtain ⟨rfl,g1,g2,g3,g4⟩:=m;rw[Kv] at b;obtain ⟨x,o,rfl⟩:=KY.mp b;have a:0<=x/\x.toNat<9:=by
      have F:=(LQ.mp (show x∈Qr _ _ from Ko o)).1;obtain ⟨u,E,rfl⟩:=Ku.mp F;have:=LA.mp E;exact ⟨by walk_at "n",by walk_at "n"⟩
     have C:(((wk needs (t+1)).take j).foldl (λh i=>h.set i.toNat ((t+1:Nat):Int)) (hs needs t)).length=9:=zL _ _ _ (qV _ _);refine' xE rfl ?u1 ?u2 ?u3 ?u4 (aG ?u5)
     case u1=>walk_at "e"
     case u2=>walk_at "e"
     case u3=>walk_at "e"
     case u4=>exact DR rfl ⟨a.1,by rw[Ke,C];exact a.2⟩
     case u5=>
      refine w5 ?_ (by walk_at "g") (by walk_at "g") (by walk_at "g") (by walk_at "g");rw[Le,o,P0,RH 1 t];show [SObj.ctab,SObj.list (U3 (Nd _ _) _ _)]=[SObj.ctab,SObj.list (Nd D.int (U3 _ _ _))];rw[List.map_set]
    ·obtain ⟨rfl,g1,g2,g3,g4⟩:=m;rw[Ke,Mr];exact aG (aG (w4 rfl g1 g2 g3))
 ·obtain ⟨rfl,g1,g2,g3⟩:=f;rw[Ke,KI] at *;refine aG ?_;exact cg (dR rfl g3 rfl) ⟨_,w3 rfl rfl rfl⟩
end
section
set_option linter.all false
abbrev Look:=Str×List Int
noncomputable def da (l:Look):D:=.lst [.str l.1,.lst (l.2.map .int)]
theorem kM {n:Nat}:∀{s t:List Int},s.length=t.length->kN (My (fE (n+1)) (s.map .int) (t.map .int))=Vr (decide (s=t))
 | [],[],_=>rfl
 | a::s,b::t,h=>by
  have f:=kM (n:=n) (Nj h);show Lm (Vr (a==b)) (λx=>(kN (My (fE (n+1)) (s.map .int) (t.map .int))).map λy=>x&&y)=_;rw[f];show Vr ((a==b)&&decide (s=t))=_
  congr 1
  exact LR.mpr ⟨λe=>by
   obtain ⟨d,c⟩:=Kn.mp e;rw[eq_of_beq d,of_decide_eq_true c];exact decide_eq_true rfl,λe=>by
   have e:=of_decide_eq_true e;injection e with d c
   rw[d,c,beq_self_eq_true];exact decide_eq_true rfl⟩
theorem Ao {n:Nat}{s t:List Int}:fE (n+2) (.lst (s.map .int)) (.lst (t.map .int))=Vr (decide (s=t)):=by
 show Kj Vs (Kj Vs (Kj Vs (Kj Vs (Kj (if (s.map D.int).length=(t.map D.int).length then _ else _) _))))=_;rw[Ke,Ke];by_cases h:s.length=t.length
 ·rw[if_pos h,kM h];rfl
 ·rw[if_neg h,decide_eq_false λe=>h (by rw[e])];rfl
theorem rj {a b:Look}:fE 3 (da a) (da b)=Vr (decide (a=b)):=by
 show Kj Vs (Kj Vs (Kj Vs (Kj Vs (Kj (Lm (Vr (a.1==b.1)) λx=>KJ (λy=>x&&y) (Lm (fE 2 (.lst (a.2.map .int)) (.lst (b.2.map .int))) λx=>KJ (λy=>x&&y) (Vr Vt))) _))))=_;rw[Ao];show Vr ((a.1==b.1)&&(decide (a.2=b.2)&&Vt))=_;rw[PM]
 congr 1
 exact LR.mpr ⟨λe=>by
  obtain ⟨d,c⟩:=Kn.mp e;exact decide_eq_true (Tn (eq_of_beq d) (of_decide_eq_true c)),λe=>by
  rw[of_decide_eq_true e,beq_self_eq_true];exact decide_eq_true rfl⟩
theorem Ag {a:Look}:∀{L:List Look},vp (da a) (L.map da)=Vr (L.map λb=>decide (b=a)):=@lr _ _ (rfl) (λb L c=>by
  show Lm (fE 3 (da b) (da b)) (λ_=>Lm (fE 3 (da b) (da a)) λx=>(vp (da a) (L.map da)).map λy=>x::y)=_;rw[rj,rj,c];rfl)
theorem mB {a:Look}{L:List Look}{i:Nat}(h:L.findIdx? (λb=>decide (b=a))=Vr i):gs (da a) (L.map da)=Vr i:=by
 unfold gs;rw[Ag];show (L.map λb=>decide (b=a)).findIdx? id=Vr i;rw[SK];exact h
theorem Cv {st:List SObj}{l:List D}{d:D}{i:Nat}(h:gs d l=Vr i):iW st .index (.d (.lst l)) [.d d]=Vr (.d (.int (i:Int)),st):=by
 show KJ _ (gs d l)=_;rw[h];rfl
noncomputable def kc (k:Int):Nat:=((sn "?pc?d?b?-?l?s???").cps[k.toNat]?).getD 0
noncomputable def Thing9.row (t:Thing9):Str:=rowS ⟨#[kc t.kind]⟩ t.rights 3
theorem yx {k:Nat}{t:Thing9}(h:t.Good):dI ((mk (k+15)).call 282 [.d (.int t.kind),.d (.int t.rights)] [.ctab])=Vr (.str t.row):=by
 have c:0<=t.kind:=by rcases h.kind with e | e | e | e | e | e<;>rw[e]<;>decide
 have b:(sn "?pc?d?b?-?l?s???").cps[t.kind.toNat]?=Vr (kc t.kind):=by
  unfold kc;rcases h.kind with e | e | e | e | e | e<;>rw[e]<;>rfl
 obtain ⟨d,e,a⟩:=cW (yw (k:=k) (r:=t.rights) c b);rw[e,a];rfl
noncomputable def cI (ts:List Thing9) (mk:List Int) (p:Nat):Look:=((ts[p]?.map Thing9.row).getD (sn ""),(ts[p]?.map λt=>cond (t.kind==4) (t.inner.map λi=>(mk[i.toNat]?).getD 0) t.inner).getD [])
noncomputable def bB (ts:List Thing9) (mk:List Int):List Look:=(KC 9).map (cI ts mk)
noncomputable def aH (ts:List Thing9):Nat->List Int
 | 0=>LU 9 0
 | n+1=>(bB ts (aH ts n)).map λa=>(((bB ts (aH ts n)).findIdx? λb=>decide (b=a)).getD 0:Nat)
theorem uS {ts:List Thing9}{n:Nat}:aH ts (n+1)=(bB ts (aH ts n)).map λa=>((((bB ts (aH ts n)).findIdx? λb=>decide (b=a)).getD 0:Nat):Int):=rfl
theorem rr {k:Nat}{cx:Cx}{v:V}{t a:Kf}{c:List Kf}{oF fr':List (Str×V)}{st:List SObj}{o:Option D}{e:List (Str×V)}(h:dB cx t v=Vr e) (g:eF e oF=fr') (q:W (jC (mk k) cx c ⟨fr',st⟩) (λb s=>(b=Vt->W (((mk k).ev cx a).f s) (λu s=>s.st=st/\∃d,u=.d d/\o=Vr d) noE)/\(b=Vu->s.st=st/\o=Vs)) noE):jx k cx t a c oF st v o:=⟨e,h,by rw[g];exact q⟩
theorem dE {α β:Type}{f:α->β}{l:List α}:l.filterMap (λa=>Vr (f a))=l.map f:=by rw[<- List.filterMap_eq_map];rfl
theorem vf {α:Type}{b:List α}{x:α}:(b++[x])[b.length]?=Vr x:=Ls
theorem uC {α:Type}{b:List α}{x y:α}:(b++[x]).set b.length y=b++[y]:=by rw[RI _ _ (KL _),NS];rfl
theorem cY {st:List SObj}{l:Nat}{ds:List D}{m:Str}(e:st[l]?=Vr (.list ds)):cZ st (.loc l) m=none:=by
 show (st[l]?).bind _=_;rw[e];rfl
theorem db {st:List SObj}{l:Nat}{ds:List D}{m:Str}{b:BM}(e:st[l]?=Vr (.list ds)) (h:bY m qN=Vr b):hS st (.loc l) m=Vr b:=by
 show Kj Vs ((st[l]?).bind _)=_;rw[e];exact h
theorem lG {F1:List (Str×V)}{T1:List SObj}{k:Nat}{cx:Cx}{s:St}{t it b:Kf}{a:List Kf}{scope:OL}{pos:Pos}{v:V}{L:List D}(i:dM cx it a scope) (h:((mk k).ev cx it).f s=.ok v ⟨F1,T1⟩) (c:kl k (dW cx scope) t b a (ef scope.names F1) T1 v λds st=>ds=L/\st=T1):((mk (k+1)).ev cx (.ListComp b [⟨t,it,a,0⟩] scope pos)).f s=.ok (.d (.lst L)) ⟨F1,T1⟩:=by
 obtain ⟨ds,g,e,rfl,rfl⟩:=AA (pos:=pos) i h c;exact e
theorem wt (ts:List Thing9):∀n,(aH ts n).length=9:=@nr _ (rfl) (λn _=>by
  show (Nd _ (bB ts (aH ts n))).length=9;unfold bB;rw[Ke,Ke,KI])
theorem jY {st:List SObj}{l:Nat}{ds:List D}(e:st[l]?=Vr (.list ds)):dQ st l=Vr (.lst ds,st.set l .gone):=by
 unfold dQ;rw[e];rfl
theorem iJ {a:Look}{L:List Look}(h:a∈L):∃i,L.findIdx? (λb=>decide (b=a))=Vr i:=by
 cases q:L.findIdx? (λb=>decide (b=a)) with
 | some i=>exact ⟨i,rfl⟩
 | none=>exact absurd (decide_eq_true rfl) (by have:=OG.mp q a h;rw[this];decide)
theorem mJ {α β:Type}{f g:α->Option β}:∀{l:List α},(∀x∈l,f x=g x)->l.filterMap f=l.filterMap g:=@lr _ _ (@λ_=>rfl) (λa l b=>(@λh=>by rw[K0,K0,h a (.head _),b λx c=>h x (.tail _ c)]))
theorem Gc {l:List D}{n:Int}(h:l.length=1/\0<=n/\n<=1000):jv .Mult (.d (.lst l)) (.d (.int n))=Vr (.lst (LU n.toNat l).flatten):=by
 show Kj Vs (if _ then _ else _)=_;rw[if_pos h];rfl
theorem s7 {k:Nat}{ts:List Thing9}(h9:ts.length=9) (M:∀t∈ts,t.Good):W ((mk (k+40)).call 292 [.d (.lst (ts.map Thing9.d))] [.ctab]) (λv s=>∃d,v=.d d/\(dt s.st).isSome=Vt/\d=.tup [.lst (ts.map λt=>.str t.row),.lst ((aH ts 9).map .int)]) noE:=by
 refine bX (fd:=aW 292) (us:=[.d (.lst (ts.map Thing9.d))]) (fr:=aY (sn "things") (.d (.lst (ts.map Thing9.d))) []) rfl rfl rfl rfl rfl ?_;refine' jc ?a1 ?a2 ?a3 ?a4
 case a1=>kernel_rfl
 case a2=>exact w4 rfl rfl rfl (by decide)
 case a3=>walk_at "e"
 refine nM (l:=ts.map Thing9.d) (g:=λd=>d.lst?.bind λl=>(l[1]?).bind λa=>a.int?.bind λA=>(l[2]?).bind λb=>b.int?.map λr=>.str (rowS ⟨#[kc A]⟩ r 3)) (by rw[Ke];walk_at "n") (λd o=>?_) ?_
 ·obtain ⟨t,j,rfl⟩:=Ku.mp o;refine rr (fr':=aY (sn "inner") (.d (.lst (t.inner.map .int))) (aY (sn "rights") (.d (.int t.rights)) (aY (sn "kind") (.d (.int t.kind)) (aY (sn "high") (.d (.int t.high)) _)))) (dZ (aQ rfl (aQ rfl (aQ rfl (aQ rfl eA))))) rfl (iH ⟨λ_=>?_,λe=>nomatch e⟩);refine' W.of (dH (d:=.gbl 282) ?b1 rfl ?b2 (Az ⟨?b3,rfl⟩ rfl ?b4 (jI ?b5 ?b6 ?b7 ?b8))) ?b9
  case b1=>rfl
  case b2=>kernel_rfl
  case b3=>kernel_rfl
  case b4=>walk_at "e"
  case b5=>kernel_rfl
  case b6=>walk_at "d"
  case b7=>exact yx (M t j)
  case b8=>rfl
  case b9=>exact ⟨rfl,_,rfl,rfl⟩
 ·have Q:(ts.map Thing9.d).filterMap (λd=>d.lst?.bind λl=>(l[1]?).bind λa=>a.int?.bind λA=>(l[2]?).bind λb=>b.int?.map λr=>D.str (rowS ⟨#[kc A]⟩ r 3))=ts.map λt=>D.str t.row:=by
   rw[Mu];exact dE (f:=λt:Thing9=>D.str t.row)
  rw[Q];have T:jv .Mult (.d (.lst [.int 0])) (.d (.int 9))=Vr (.lst ((aH ts 0).map .int)):=Gc (w3 rfl (by decide) (by decide));walk_at "a";refine' ed rfl (w3 rfl rfl rfl) ?c1 ?c2
  case c1=>walk_at "e"
  case c2=>
   refine eB (N:=9) (λn fr st=>(∃r,st=.ctab::r)/\get (sn "things") fr=Vr (.d (.lst (ts.map Thing9.d)))/\get (sn "rows") fr=Vr (.d (.lst (ts.map λt=>.str t.row)))/\get (sn "marks") fr=Vr (.d (.lst ((aH ts n).map .int)))) (by decide) rfl (w4 ⟨_,rfl⟩ (by walk_at "g") (by walk_at "g") (by walk_at "g")) (λn fr st hn h=>?_) λfr st h=>?_
   ·obtain ⟨⟨r,rfl⟩,H,E,L⟩:=h;refine' ee ?d1 ?d2 (dT rfl aL rfl) ?d3
    case d1=>kernel_rfl
    case d2=>exact ⟨rfl,rfl⟩
    refine' ed rfl (w3 rfl rfl rfl) ?c3 ?c4
    case c3=>walk_at "e"
    case c4=>
     refine eB (N:=9) (λp fr st=>st=(.ctab::r)++[.list (((KC p).map (cI ts (aH ts n))).map da)]/\get (sn "things") fr=Vr (.d (.lst (ts.map Thing9.d)))/\get (sn "rows") fr=Vr (.d (.lst (ts.map λt=>.str t.row)))/\get (sn "marks") fr=Vr (.d (.lst ((aH ts n).map .int)))/\get (sn "looks") fr=Vr (.loc (SObj.ctab::r).length)) (by decide) rfl (w5 rfl (by walk_at "g") (by walk_at "g") (by walk_at "g") (by exact aU)) (λp fr st hp h=>?_) λfr st h=>?_
     ·obtain ⟨w,H,E,L,O⟩:=h;have J:p<ts.length:=by walk_at "n"
      obtain ⟨t,j⟩:∃t,ts[p]?=Vr t:=⟨_,Kl J⟩
      have G:=M t (Ko j);have Y:(ts.map Thing9.d)[p]?=Vr (.lst [.int t.high,.int t.kind,.int t.rights,.lst (t.inner.map .int)]):=by rw[Kv,j];rfl
      have S:(ts.map λt=>D.str t.row)[p]?=Vr (.str t.row):=by rw[Kv,j];rfl
      have x1:bE (.d (.lst [.int t.high,.int t.kind,.int t.rights,.lst (t.inner.map .int)])) (.d (.int 1)) st=Vr (.d (.int t.kind)):=kX (m:=1) rfl rfl;have x3:bE (.d (.lst [.int t.high,.int t.kind,.int t.rights,.lst (t.inner.map .int)])) (.d (.int 3)) st=Vr (.d (.lst (t.inner.map .int))):=kX (m:=3) rfl rfl;have u:st[(SObj.ctab::r).length]?=Vr (.list (((KC p).map (cI ts (aH ts n))).map da)):=by rw[w];exact vf
      have I:da (cI ts (aH ts n) p)=.lst [.str t.row,.lst ((cond (t.kind==4) (t.inner.map λi=>((aH ts n)[i.toNat]?).getD 0) t.inner).map .int)]:=by unfold cI;rw[j];rfl
      have F:iW st .append (.loc (SObj.ctab::r).length) [.d (.lst [.str t.row,.lst ((cond (t.kind==4) (t.inner.map λi=>((aH ts n)[i.toNat]?).getD 0) t.inner).map .int)])]=Vr (.d .non,st.set (SObj.ctab::r).length (.list (((KC p).map (cI ts (aH ts n))).map da++[.lst [.str t.row,.lst ((cond (t.kind==4) (t.inner.map λi=>((aH ts n)[i.toNat]?).getD 0) t.inner).map .int)]]))):=cv u (by rw[Ke,Ke,KI];walk_at "n");walk_at "a";refine' cb rfl (aT (w3 rfl rfl rfl) ?n1 ?n2 (aS (bm:=.append) ?n3 ?n4 rfl (aI rfl (mM rfl (aI rfl ?n5 (aI rfl (Ax (c:=(t.kind==4)) (v:=.d (.lst ((cond (t.kind==4) (t.inner.map λi=>((aH ts n)[i.toNat]?).getD 0) t.inner).map .int))) (cU rfl rfl ?n6 dY kK) (λq=>?n7) λq=>?n8) aL)) ?n9) aL) ?aa)) (aG ?ab)
      case n1=>decide
      case n2=>walk_at "e"
      case n3=>exact cY u
      case n4=>exact db u rfl
      case n5=>walk_at "e"
      case n6=>walk_at "e"
      case n8=>
       rw[q];show _=Res.ok (V.d (.lst (t.inner.map .int))) _;walk_at "e"
      case n7=>
       rw[q];show _=Res.ok (V.d (.lst ((t.inner.map λi=>((aH ts n)[i.toNat]?).getD 0).map .int))) _;refine' lG ?w1 ?w2 (nM (l:=t.inner.map .int) (g:=λd=>d.int?.map λi=>D.int (((aH ts n)[i.toNat]?).getD 0)) ?w3 (λd o=>?w4) ?w5)
       case w1=>exact w4 rfl rfl rfl (by decide)
       case w2=>walk_at "e"
       case w3=>rw[Ke];have:=G.inner.1;walk_at "n"
       case w4=>
        obtain ⟨x,z,rfl⟩:=Ku.mp o;have C:=G.inner.2 x z;have P:=wt ts n;have y2:((aH ts n).map D.int)[x.toNat]?=Vr (.int (((aH ts n)[x.toNat]?).getD 0)):=by
         have:x.toNat<(aH ts n).length:=by walk_at "n"
         rw[Kv,Kl this];rfl
        have U:ki ((aH ts n).map D.int).length x=Vr x.toNat:=by
         rw[Ke,P];unfold ki;rw[if_pos C.1,if_pos (by walk_at "n")]
        refine gw rfl ?_;walk_at "l"
       case w5=>
        refine ⟨?_,rfl⟩;rw[Mu,KH];exact dE (f:=λi:Int=>D.int (((aH ts n)[i.toNat]?).getD 0))
      case n9=>walk_at "p"
      case aa=>exact F
      case ab=>
       refine w5 ?_ (by walk_at "g") (by walk_at "g") (by walk_at "g") (by walk_at "g");show st.set _ _=_;rw[w,uC,Oc,KD,KD];show _=(SObj.ctab::r)++[SObj.list (_++[da (cI ts (aH ts n) p)])];rw[I]
     ·obtain ⟨w,H,E,L,O⟩:=h;have u:st[(SObj.ctab::r).length]?=Vr (.list ((bB ts (aH ts n)).map da)):=by rw[w];exact vf
      refine aG ?_;refine' jc ?v1 ?v2 (dR ?v3 O (jY u)) ?v4
      case v1=>kernel_rfl
      case v2=>exact w4 rfl rfl rfl (by decide)
      case v3=>kernel_rfl
      case v4=>
       refine nM (l:=(bB ts (aH ts n)).map da) (g:=λd=>(gs d ((bB ts (aH ts n)).map da)).map λ(i:Nat)=>D.int (i:Int)) ?_ (λd o=>?_) ?_
       ·unfold bB;rw[Ke,Ke,KI];decide
       ·obtain ⟨a,K,rfl⟩:=Ku.mp o;obtain ⟨i,y⟩:=iJ K;have z:=mB y;refine gw rfl ?_;refine' W.of (aT (w3 rfl rfl rfl) ?z1 ?z2 (aS (bm:=.index) ?z3 ?z4 rfl ?z5 (Cv z))) ?z6
        case z1=>decide
        case z2=>walk_at "e"
        case z3=>rfl
        case z4=>kernel_rfl
        case z5=>walk_at "e"
        case z6=>exact ⟨rfl,_,rfl,by rw[z];rfl⟩
       ·have R:((bB ts (aH ts n)).map da).filterMap (λd=>(gs d ((bB ts (aH ts n)).map da)).map λ(i:Nat)=>D.int (i:Int))=(aH ts (n+1)).map .int:=by
         rw[Mu];show _=Nd D.int (Nd _ (bB ts (aH ts n)));rw[KH];refine Eq.trans (mJ (g:=λa=>Vr (D.int ((((bB ts (aH ts n)).findIdx? λb=>decide (b=a)).getD 0:Nat):Int))) λa K=>?_) dE;obtain ⟨i,y⟩:=iJ K;show (gs (da a) _).map _=Vr (D.int ((((bB ts (aH ts n)).findIdx? λb=>decide (b=a)).getD 0:Nat):Int));rw[mB y,y];rfl
        rw[R];refine aG (w4 ⟨r++[.gone],?_⟩ (by walk_at "g") (by walk_at "g") (by exact aU));show st.set _ _=_;rw[w,uC];rfl
   ·obtain ⟨⟨r,rfl⟩,H,E,L⟩:=h;refine aG ?_;refine' cg ?f1 ?f2
    case f1=>walk_at "e"
    case f2=>exact ⟨_,w3 rfl rfl rfl⟩
end
section
set_option linter.all false
abbrev Row:=Str×Array UInt8
noncomputable def cA (r:Row):D:=.lst [.str r.1,.bytes r.2]
noncomputable def gV (s:Str):List Int:=s.cps.toList.map λ(c:Nat)=>(c:Int)
noncomputable def eX (b:Array UInt8):List Int:=b.toList.map λ(c:UInt8)=>(c.toNat:Int)
noncomputable def rowO (r:Row):List Int:=[(r.1.cps.size:Int)]++gV r.1++[(r.2.size:Int)]++eX r.2
noncomputable def octs2 (rs:List Row):List Int:=rs.flatMap rowO
structure RowOk (r:Row):Prop where
 len:r.1.cps.size<=20
 chars:∀c∈r.1.cps.toList,c<256
 inner:r.2.size<=20
theorem Io {st:List SObj}{s:Str}:bI st .len [.d (.str s)]=Vr (.int (s.cps.size:Int)):=rfl
theorem vD {st:List SObj}{b:Array UInt8}:bI st .len [.d (.bytes b)]=Vr (.int (b.size:Int)):=rfl
theorem F8 {st:List SObj}{c:Nat}:bI st .ord [.d (.str ⟨#[c]⟩)]=Vr (.int (c:Int)):=rfl
theorem nh {st:List SObj}{b:Array UInt8}(h:b.size<=1000):bI st .list [.d (.bytes b)]=Vr (.lst ((eX b).map .int)):=by
 show (if _ then _ else _)=_;rw[if_pos h];unfold eX il;rw[KH];rfl
theorem BL {k:Nat}{b:Cx}{t a:Kf}{g:List Kf}{oF:List (Str×V)}{st:List SObj}{s:Str}{f:Nat->D}{K:List D->List SObj->Prop}(hn:s.cps.size<=100000) (i:∀c∈s.cps.toList,jx k b t a g oF st (.d (.str ⟨#[c]⟩)) (Vr (f c))) (q:K (s.cps.toList.map f) st):kl k b t a g oF st (.d (.str s)) K:=by
 refine y2 (s.cps.toList.map λc=>V.d (.str ⟨#[c]⟩)) st (w3 ?_ (by rw[Ke,KN];exact hn) ⟨λv=>v.d?.bind λd=>d.str?.bind λs=>(s.cps[(0:Nat)]?).map f,λv h=>?_,?_⟩)
 ·show Vr (Nd V.d (s.cps.toList.map λc=>D.str ⟨#[c]⟩),st)=_;rw[KH];rfl
 ·obtain ⟨c,j,rfl⟩:=Ku.mp h;exact i c j
 ·rw[Mu];have e:s.cps.toList.filterMap ((λv:V=>v.d?.bind λd=>d.str?.bind λs=>(s.cps[(0:Nat)]?).map f) ∘ λc=>V.d (.str ⟨#[c]⟩))=s.cps.toList.map f:=dE (f:=f);rw[e];exact q
theorem wb {r:Row}(h:RowOk r):(rowO r).length<=42/\∀i∈rowO r,bK i:=by
 have e:=h.len;have f:=h.inner;have b:(gV r.1).length=r.1.cps.size:=by unfold gV;rw[Ke,KN]
 have d:(eX r.2).length=r.2.size:=by unfold eX;rw[Ke,KN]
 unfold rowO;refine ⟨?_,λi hi=>?_⟩
 ·rw[Km,Km,Km,b,d];show 1+_+1+_<=42;lia
 ·unfold bK;rcases Kx.mp hi with hi | hi
  ·rcases Kx.mp hi with hi | hi
   ·rcases Kx.mp hi with hi | hi
    ·rw[Kk.mp hi];lia
    ·obtain ⟨c,a,rfl⟩:=Ku.mp hi;have:=h.chars c a;lia
   ·rw[Kk.mp hi];lia
  ·obtain ⟨c,a,rfl⟩:=Ku.mp hi;have:=c.toNat_lt;lia
theorem jm {rs:List Row}(f:∀r∈rs,RowOk r):(octs2 rs).length<=42*rs.length/\∀i∈octs2 rs,bK i:=by
 induction rs with
 | nil=>exact ⟨KL _,λi e=>nomatch e⟩
 | cons t ts g=>
  obtain ⟨a,b⟩:=g λt h=>f t (.tail _ h);obtain ⟨c,d⟩:=wb (f t (.head _));unfold octs2 at a b ⊢
  rewrite [NP,Km,Lw]
  exact ⟨by lia,λi e=>(Kx.mp e).elim (d i) (b i)⟩
theorem md {rs:List Row}{i:Nat}{r:Row}(h:rs[i]?=Vr r):octs2 (rs.take (i+1))=octs2 (rs.take i)++rowO r:=by
 unfold octs2;rw[Le,h,M5];simp
theorem sg {k:Nat}{rs:List Row}(o:rs.length<=9) (j:∀r∈rs,RowOk r):W ((mk (k+20)).call 268 [.d (.lst (rs.map cA))] [.ctab]) (λv s=>∃d,v=.d d/\(dt s.st).isSome=Vt/\d=.bytes (aR (octs2 rs))) noE:=by
 refine bX (fd:=aW 268) (us:=[.d (.lst (rs.map cA))]) (fr:=aY (sn "rows") (.d (.lst (rs.map cA))) []) rfl rfl rfl rfl rfl ?_;walk_at "a";refine ed rfl (w3 rfl rfl rfl) (by walk_at "e") ?_;refine kq (λi fr st=>st=[.ctab]/\get (sn "octets") fr=Vr (.d (.lst ((octs2 (rs.take i)).map .int)))) ⟨rfl,by exact aU⟩ (λi d fr st l h=>?_) λfr st h=>?_
 ·obtain ⟨rfl,g⟩:=h;rw[Kv] at l;obtain ⟨r,m,rfl⟩:=KY.mp l;have G:=j r (Ko m);have z:=G.len;have C:=G.inner;have x:=(jm (rs:=rs.take i) λt p=>j t (ME p)).1;have n:(rs.take i).length<=9:=by rw[Lv];walk_at "n"
  have w:bI [.ctab] .len [.d (.str r.1)]=Vr (.int (r.1.cps.size:Int)):=rfl;have u:bI [.ctab] .len [.d (.bytes r.2)]=Vr (.int (r.2.size:Int)):=rfl;have y:bI [.ctab] .list [.d (.bytes r.2)]=Vr (.lst ((eX r.2).map .int)):=nh (by walk_at "n");have A:(gV r.1).length=r.1.cps.size:=by unfold gV;rw[Ke,KN]
  have E:(eX r.2).length=r.2.size:=by unfold eX;rw[Ke,KN]
  refine y2 _ (aY (sn "inner") (.d (.bytes r.2)) (aY (sn "row") (.d (.str r.1)) fr)) (w3 (dZ (aQ rfl (aQ rfl eA))) rfl ?_);refine' bT ?h1 ?h2 (ij (ij (ij (ij ?h3 ?h4 (rU ?h5)) (lG (L:=(gV r.1).map .int) ?h6 ?h7 ?h8) (rU ?h9)) ?ac (rU ?af)) ?ae (rU ?aa)) (aG ?ab)
  case h1=>kernel_rfl
  case h2=>exact ⟨rfl,rfl⟩
  case h3=>walk_at "e"
  case h4=>walk_at "e"
  case h6=>exact w4 rfl rfl rfl (by decide)
  case h7=>walk_at "e"
  case h8=>
   refine BL (f:=λc=>.int (c:Int)) (by walk_at "n") (λc H=>gw rfl ?_) ⟨?_,rfl⟩
   ·refine' W.of (dH (d:=.bi .ord) ?w1 rfl ?w2 (rC ?w3 ?w4 ?w5 ?w6)) ?w7
    case w1=>rfl
    case w2=>kernel_rfl
    case w3=>kernel_rfl
    case w4=>kernel_rfl
    case w5=>walk_at "e"
    case w6=>exact F8
    case w7=>exact ⟨rfl,_,rfl,rfl⟩
   ·unfold gV;rw[KH];rfl
  case ac=>walk_at "e"
  case ae=>walk_at "e"
  case h5=>rw[Ke];show _+1<=_;walk_at "n"
  case h9=>rw[Km,Ke,Ke];show _+1+_<=_;walk_at "n"
  case af=>rw[Km,Km,Ke,Ke];show _+1+_+1<=_;walk_at "n"
  case aa=>rewrite [Km,Km,Km,Ke,Ke,Ke];show _+1+_+1+_<=_;walk_at "n"
  case ab=>
   refine ⟨rfl,?_⟩;rw[md m,KD];unfold rowO;rw[KD,KD,KD,<- KW,<- KW,<- KW];exact aU
 ·obtain ⟨rfl,g⟩:=h;rw[Ke,Mr] at g;obtain ⟨a,b⟩:=jm j;have F:=im (st:=[.ctab]) (eh (octs2 rs)) ⟨by walk_at "n",b⟩;refine aG ?_;refine' cg ?e ?q
  case e=>walk_at "e"
  case q=>exact ⟨_,w3 rfl rfl rfl⟩
end
section
set_option linter.all false
section
variable {k:Nat}{cx:Cx}{s s1:St}{Q:Fl->St->Prop}{E:D->List D->St->Prop}{body hb ss:List Stmt}{b:Stmt}{ty:Kf}{nm:Option Str}{hp p pos cp:Pos}{kc d:D}{as:List D}{n f:Str}{args:List Kf}{vs:List V}{ds:List D}
theorem qc (c:cx.comp=Vu/\cx.inH=Vu) (h:W (((mk k).xs cx body).f s) (λf s=>W (cH f s ((mk k).xs cx ss).f) Q E) (λkc as s=>W (kZ (cx:=cx) (mk k) ty nm b hb kc as s) (λf s=>W (cH f s ((mk k).xs cx ss).f) Q E) E)):W (((mk (k+1)).xs cx (.Try body [.ExceptHandler (Vr ty) nm (b::hb) hp] [] [] p::ss)).f s) Q E:=by
 refine W.bind (W.ite c ?_);cases a:((mk k).xs cx body).f s with
 | bad=>rw[a] at h;exact h
 | ok f s1=>rw[a] at h;exact h
 | exn kc as s1=>rw[a] at h;exact h
theorem uu {x:Res Fl}{g:St->St}(h:W x (λf s=>Q f (g s)) noE):W (uO x g) Q E:=by
 cases x<;>first | exact h | exact h.elim
theorem oH {F1:List (Str×V)}{T1:List SObj}(a:((mk k).ev cx.hand ty).f s=.ok (.d d) ⟨F1,T1⟩) (hs:nA kc d=Vt) (hn:cx.names.lookup n=Vr .local) (h:W (((mk k).xs cx.hand (b::hb)).f ⟨aY n (.loc T1.length) F1,T1++[.exc kc as]⟩) (λf s=>Q f ⟨Dd n s.fr,s.st⟩) noE):W (kZ (cx:=cx) (mk k) ty (Vr n) b hb kc as s) Q E:=by
 unfold kZ;rw[a];show W (if nA kc d=Vt then lP (cx:=cx) (mk k) (Vr n) b hb kc as ⟨F1,T1⟩ else .bad) Q E;rw[if_pos hs];show W (if cx.names.lookup n=Vr .local then _ else .bad) Q E;rw[if_pos hn];exact uu h
theorem BO (a:((mk k).ev cx.hand ty).f s=.ok (.d d) s1) (hs:nA kc d=Vt) (h:W (((mk k).xs cx.hand (b::hb)).f s1) Q noE):W (kZ (cx:=cx) (mk k) ty Vs b hb kc as s) Q E:=by
 unfold kZ;rw[a];show W (if nA kc d=Vt then lP (cx:=cx) (mk k) Vs b hb kc as s1 else .bad) Q E;rw[if_pos hs];exact uu (g:=id) h
theorem oD (b:cx.inH=Vu/\cD args=Vt/\args≠[]) (c:sN cx f=Vr kc) (h:bM ((mk k).ev cx) args s=.ok vs s1) (a:ej vs=Vr ds) (d:ds.length<=1000) (q:E kc ds s1):W (((mk (k+1)).xs cx (.Raise (Vr (.Call (.Name f p) args [] cp)) Vs pos::ss)).f s) Q E:=by
 refine W.bind (W.ite b ?_);rw[c];show W (Res.bind _ _) _ _;rw[aK h rfl];unfold lL;rw[a];show W (if _ then _ else _) _ _;rw[if_pos d];exact q
end
section
variable {k:Nat}{a:Addr}{vs:List V}{s:St}{v:V}{st:List SObj}{fr:List (Str×V)}
theorem fA {c:List (Str×V)}{b:List SObj}(d:ie.contains a=Vu) (h:(mk k).call a vs b=.ok v ⟨[],st⟩):eW (mk k) a vs ⟨c,b⟩=.ok v ⟨c,st⟩:=by
 unfold eW;rw[d];show uc c ((mk k).call a vs b)=_;rw[h];rfl
end
end
section
set_option linter.all false
theorem yl {st:List SObj}{b:Array UInt8}{i j:Int}(h:0<=i/\0<=j):fN st (.d (.bytes b)) (Vr (.int i)) (Vr (.int j)) Vs=Vr (.bytes (iU b i.toNat j.toNat)):=by
 show Kj Vs (if _ then _ else _)=_;rw[if_pos (w3 h.1 h.2 rfl)];rfl
noncomputable abbrev rh:FuncData:=FK [] .none .none 0 .none
theorem wg {k:Nat}{b:Array UInt8}{l:Nat}{st:List SObj}{pos c:Int}(e:st[l]?=Vr (.list [.int pos])) (h:0<=pos) (o:0<=c):W (uI (mk (k+12)) b l (.int c) st) (λv s=>v=.d (.bytes (iU b pos.toNat (pos+c).toNat))/\s=⟨[],st.set l (.list [.int (pos+(iU b pos.toNat (pos+c).toNat).size)])⟩) noE:=by
 have n:get (sn "octets") (ll b l)=Vr (.d (.bytes b)):=if_pos rfl;have j:get (sn "at") (ll b l)=Vr (.loc l):=(if_neg yV).trans (if_pos rfl);have a:W (((mk (k+12)).xs (gP rh) (dA rh)).f ⟨aY (sn "count") (.d (.int c)) (ll b l),st⟩) (EF λv s=>v=.d (.bytes (iU b pos.toNat (pos+c).toNat))/\s=⟨[],st.set l (.list [.int (pos+(iU b pos.toNat (pos+c).toNat).size)])⟩) noE:=by
  have x1:bE (.loc l) (.d (.int 0)) st=Vr (.d (.int pos)):=He (m:=0) e rfl rfl;have x2:fN st (.d (.bytes b)) (Vr (.int pos)) (Vr (.int (pos+c))) Vs=Vr (.bytes (iU b pos.toNat (pos+c).toNat)):=yl ⟨h,by lia⟩;walk_at "a";have i:qZ st (.loc l) 0=Vr (.int pos):=by
   unfold qZ;show Lm (Kj Vs ((st[l]?).bind SObj.list?)) _=_;rw[e];rfl
  have y2:bI st .len [.d (.bytes (iU b pos.toNat (pos+c).toNat))]=Vr (.int ((iU b pos.toNat (pos+c).toNat).size:Int)):=rfl;refine' Et ?n1 ?n6 ?n2 ?n7 ?n3 (cg ?n4 ?n5)
  case n1=>walk_at "e"
  case n2=>walk_at "e"
  case n6=>exact i
  case n7=>rfl
  case n3=>exact DR e ⟨Qw _,On⟩
  case n4=>walk_at "e"
  case n5=>exact ⟨rfl,rfl⟩
 show W (Hw (((mk (k+12)).xs (gP rh) (dA rh)).f ⟨eF ((bx rh).zip [.d (.int c)]) (ll b l),st⟩)) _ _;rw[show eF ((bx rh).zip [.d (.int c)]) (ll b l)=aY (sn "count") (.d (.int c)) (ll b l) by kernel_rfl];cases g:((mk (k+12)).xs (gP rh) (dA rh)).f ⟨aY (sn "count") (.d (.int c)) (ll b l),st⟩ with
 | bad=>rw[g] at a;exact a
 | exn=>rw[g] at a;exact a
 | ok f s=>rw[g] at a;cases f<;>exact a
end
section
set_option linter.all false
def Wk (a:Nat->List Nat):Nat->Nat->Prop
 | 0,_=>True
 | t+1,i=>∃j∈a i,Wk a t j
section
variable {nd:Nat->List Nat}{i j k t n:Nat}
theorem Wk.pred:∀{t i},Wk nd (t+1) i->Wk nd t i
 | 0,_,_=>trivial
 | _+1,_,⟨j,a,b⟩=>⟨j,a,b.pred⟩
theorem Wk.le {s t:Nat}(h:s<=t):Wk nd t i->Wk nd s i:=by
 induction h with
 | refl=>exact id
 | step _ a=>exact λq=>a q.pred
def Hg (nd:Nat->List Nat) (k i:Nat):Prop:=Wk nd k i/\¬Wk nd (k+1) i
theorem Hg.uniq (h:Hg nd k i) (h':Hg nd t i):k=t:=Oo (ML λq=>h'.2 (h.1.le q)) (ML λq=>h.2 (h'.1.le q))
theorem Hh:∀{t},¬Wk nd t i->∃k,k<t/\Hg nd k i:=@nr _ (@λh=>absurd trivial h) (λt a=>(@λh=>(QH (Wk nd t i)).elim (λq=>⟨t,w3 (Mb _) q h⟩) λq=>(a q).imp λ_ h=>⟨Ml h.1,h.2⟩))
theorem CR (h:¬Wk nd (k+1) i) (a:j∈nd i):¬Wk nd k j:=λq=>h ⟨j,a,q⟩
theorem mE:∀{k i},Hg nd (k+1) i->∃j∈nd i,Hg nd k j:=λ{k i} ⟨⟨j,a,b⟩,c⟩=>⟨j,w3 a b (λq=>c ⟨j,a,q⟩)⟩
theorem uq {r:Nat->Nat}{P:Nat->Prop}(a:∀i,P i->∀j∈nd i,P j/\r j<r i):∀{t i},P i->Wk nd t i->t<=r i
 | 0,_,_,_=>LE _
 | _+1,i,p,⟨j,b,c⟩=>Nat.succ_le_of_lt (MO (uq a (a i p j b).1 c) (a i p j b).2)
theorem uo {c:List Nat}(l:2<=c.length) (h:c[0]?=c[c.length-1]?) (j:∀a x y,c[a]?=Vr x->c[a+1]?=Vr y->x∈nd y):∀t x,x∈c->Wk nd t x:=@nr _ (@λ_ _=>trivial) (λt e=>(@λx k=>by
  have g:=e;obtain ⟨a,d⟩:=Lc.mp k;have f:=(Kh.mp d).1;have b:∀a,a<c.length->0<a->∀x,c[a]?=Vr x->Wk nd (t+1) x:=λa f i x d=>by
   cases a with
   | zero=>exact absurd i (MC _)
   | succ a=>exact ⟨c[a],j a _ x (Kl (by (first | omega | lia))) d,g _ (Ms _)⟩
  cases a with
  | succ a=>exact b _ f (M9 _) x d
  | zero=>exact b (c.length-1) (by (first | omega | lia)) (by (first | omega | lia)) x (h▸d)))
end
end
section
set_option linter.all false
def xz (c:Nat->Nat) (e r:List Nat):Prop:=r.Nodup/\∀s,s∈r<->s∈e/\c s<=e.count s
section
variable {nd:Nat->List Nat}{i j k t n s:Nat}{c:Nat->Nat}{e r g l:List Nat}
theorem xz.nil:xz c [] []:=⟨Tt,λ_=>⟨λh=>(nomatch h),λh=>nomatch h.1⟩⟩
theorem gA {x:Nat}:(e++[s]).count x=e.count x+if s=x then 1 else 0:=by
 rw[P1,List.count_singleton];simp[beq_iff_eq]
theorem xz.hit (h:xz c e r) (q:c s=e.count s+1):xz c (e++[s]) (r++[s]):=by
 have hs:s∉r:=λm=>by have:=((h.2 s).mp m).2;(first | omega | lia)
 refine ⟨Lx.mpr (w3 h.1 (Md _ _) (λa f b g=>?_)),λx=>?_⟩
 ·rw[Kk.mp g];exact λq=>hs (q▸f)
 ·rw[gA,Kx,Kx,Kk];by_cases d:s=x
  ·subst d;rw[if_pos rfl];exact ⟨λ_=>⟨.inr rfl,by (first | omega | lia)⟩,λ_=>.inr rfl⟩
  ·rw[if_neg d,h.2 x];exact ⟨λm=>m.elim (λm=>⟨.inl m.1,m.2⟩) λm=>absurd m.symm d,λm=>m.1.elim (λa=>.inl ⟨a,m.2⟩) λa=>.inr a⟩
theorem xz.miss (h:xz c e r) (q:e.count s+1<c s):xz c (e++[s]) r:=by
 refine ⟨h.1,λx=>?_⟩;rw[gA,Kx,Kk,h.2 x];by_cases b:s=x
 ·subst b;rw[if_pos rfl];exact ⟨λm=>by (first | omega | lia),λm=>by (first | omega | lia)⟩
 ·rw[if_neg b];exact ⟨λm=>⟨.inl m.1,m.2⟩,λm=>m.1.elim (λa=>⟨a,m.2⟩) λa=>absurd a.symm b⟩
theorem qz {g:List Nat}:∀{l:List Nat},(g.map λi=>l.count i).sum=(l.map λx=>g.count x).sum:=@lr _ _ (by induction g with
  | nil=>rfl
  | cons a g b=>simpa using b)
 (λx l c=>by
  have b:=c;have:∀g:List Nat,(g.map λi=>(x::l).count i).sum=g.count x+(g.map λi=>l.count i).sum:=λg=>by
   induction g with
   | nil=>rfl
   | cons a g d=>
    rw[KG,KG,L7,L7,d,Oe,Oe];by_cases q:x=a
    ·subst q;simp;lia
    ·have e:¬a=x:=λh=>q h.symm;simp[q,e];lia
  rw[this,b];rfl)
def gF (nd su:Nat->List Nat) (n:Nat):Prop:=∀i,i<n->∀s,(s<n->(su i).count s=(nd s).count i)/\(s∈su i->s<n)
open Classical in
noncomputable def cnt (nd:Nat->List Nat) (k s:Nat):Nat:=(nd s).countP λx=>decide (Wk nd k x)
theorem BX {p:Nat->Bool}{f:Nat->Nat}(b:∀x∈l,f x=cond (p x) 1 0):(l.map f).sum=l.countP p:=by
 induction l with
 | nil=>rfl
 | cons a l c=>
  rw[KG,L7,OQ,c λx d=>b x (.tail _ d),b a (.head _)];cases p a<;>simp<;>lia
theorem tp {su:Nat->List Nat}:(g.flatMap su).count s=(g.map λi=>(su i).count s).sum:=by
 induction g with
 | nil=>rfl
 | cons a g b=>rw[NP,P1,b];rfl
theorem pS {p q w:Nat->Bool}(h:∀x∈l,(p x=Vt<->q x=Vt\/w x=Vt)/\¬(q x=Vt/\w x=Vt)):l.countP p=l.countP q+l.countP w:=by
 induction l with
 | nil=>rfl
 | cons a l e=>
  have f:=h a (.head _);rw[OQ,OQ,OQ,e λx g=>h x (.tail _ g)];cases c:p a<;>cases d:q a<;>cases b:w a<;>simp[c,d,b] at f ⊢<;>lia
structure Grp (nd:Nat->List Nat) (n k:Nat) (g:List Nat):Prop where
 nod:g.Nodup
 mem:∀s,s∈g<->s<n/\Hg nd k s
theorem rL:cnt nd k s=0<->¬Wk nd (k+1) s:=by
 classical
 unfold cnt;rw[List.countP_eq_zero];exact ⟨λh ⟨j,a,b⟩=>h j a (decide_eq_true b),λh j a b=>h ⟨j,a,of_decide_eq_true b⟩⟩
section
variable {su:Nat->List Nat}(T:gF nd su n) (G:Grp nd n k g) (hn:∀s,s<n->∀x∈nd s,x<n)
include T G hn
theorem lD (hs:s<n):cnt nd k s=cnt nd (k+1) s+(g.flatMap su).count s:=by
 classical
 have d:(g.flatMap su).count s=(nd s).countP λx=>decide (x∈g):=by
  rw[tp,LN (g:=λi=>(nd s).count i) λi c=>(T i ((G.mem i).mp c).1 s).1 hs,qz];refine BX λx b=>?_;by_cases q:x∈g
  ·rw[G.nod.count,if_pos q,decide_eq_true q];rfl
  ·rw[Ss.mpr q,decide_eq_false q];rfl
 rw[d];unfold cnt;refine pS λx b=>?_;have a:=hn s hs x b;rw[decide_eq_true_iff,decide_eq_true_iff,decide_eq_true_iff,G.mem];refine ⟨⟨λq=>?_,λq=>q.elim (λq=>q.pred) λq=>q.2.1⟩,λq=>q.2.2.2 q.1⟩;exact (QH (Wk nd (k+1) x)).imp id λh=>w3 a q h
theorem tg (h:s∈g.flatMap su):s<n/\Wk nd (k+1) s:=by
 obtain ⟨i,a,hs⟩:=Qb.mp h;have q:=(G.mem i).mp a;have hn:=(T i q.1 s).2 hs;refine ⟨hn,i,Mv.mp ?_,q.2.1⟩;rw[<- (T i q.1 s).1 hn];exact Mv.mpr hs
theorem zP (h:xz (cnt nd k) (g.flatMap su) r):Grp nd n (k+1) r:=by
 refine ⟨h.1,λs=>(h.2 s).trans ⟨λ⟨a,b⟩=>?_,λ⟨a,b⟩=>?_⟩⟩
 ·obtain ⟨e,f⟩:=tg T G hn a;have:=lD T G hn e;exact w3 e f (rL.mp (by lia))
 ·have:=lD T G hn a;have z:=rL.mpr b.2;obtain ⟨j,d,i⟩:=mE b;have c:=hn s a j d;refine ⟨Qb.mpr ⟨j,(G.mem j).mpr ⟨c,i⟩,Mv.mp ?_⟩,by lia⟩;rw[(T j c s).1 a];exact Mv.mpr d
end
end
end
section
set_option linter.all false
def Bq (su:Nat->List Nat):List Nat->Prop
 | []=>True
 | f::r=>(∀x∈su f,x∈r)/\Bq su r
def Ch (su:Nat->List Nat) (a:List Nat):Option Nat->List (Nat×Nat)->Prop
 | _,[]=>True
 | o,p::r=>(p.2<=(su p.1).length/\(∀i x,i<p.2->(su p.1)[i]?=Vr x->x∈a\/o=Vr x)/\∀x,o=Vr x->x∈su p.1)/\Ch su a (Vr p.1) r
section
variable {nd su:Nat->List Nat}{n:Nat}{fin:List Nat}{o:Option Nat}{S:List (Nat×Nat)}{v q x:Nat}
theorem Ch.mono {a:List Nat}(c:∀x∈fin,x∈a):∀{S}{o b:Option Nat},(∀x,o=Vr x->x∈a\/b=Vr x)->(∀x,b=Vr x->o=Vr x)->Ch su fin o S->Ch su a b S
 | [],_,_,_,_,_=>trivial
 | p::r,_,_,d,hb,⟨⟨h,f,j⟩,g⟩=>⟨w3 h (λi x k e=>(f i x k e).elim (λm=>.inl (c x m)) (d x)) (λx e=>j x (hb x e)),Ch.mono c (λ_ e=>.inr e) (λ_ e=>e) g⟩
theorem Ch.push (h:Ch su fin (Vr v) S):Ch su fin Vs ((v,0)::S):=⟨w3 (LE _) (λi x a=>absurd a (L8 _)) (λ_ e=>nomatch e),h⟩
theorem Ch.next (h:Ch su fin Vs ((v,q)::S)) (e:(su v)[q]?=Vr x):Ch su fin (Vr x) ((v,q+1)::S):=by
 obtain ⟨⟨d,b,f⟩,c⟩:=h;refine ⟨w3 ((Kh.mp e).1) (λi y hi a=>?_) (λy a=>Kd a▸Ko e),c⟩;rcases MB.mp hi with hi | hi
 ·exact .inl ((b i y hi a).elim id λe=>absurd e nofun)
 ·subst hi;exact .inr (e.symm.trans a)
theorem Ch.pop (h:Ch su fin Vs ((v,q)::S)) (e:(su v)[q]?=Vs):(∀x∈su v,x∈fin)/\Ch su (v::fin) Vs S:=by
 obtain ⟨⟨g,c,j⟩,d⟩:=h;have b:=K8.mp e;refine ⟨λx f=>?_,d.mono (λx h=>.tail _ h) (λx e=>.inl (Kd e▸.head _)) nofun⟩;obtain ⟨i,a⟩:=Lc.mp f;have:=(Kh.mp a).1;exact (c i x (by have:q>=_:=b;show i<q;walk_at "n") a).elim id λe=>absurd e nofun
theorem Ch.old (h:Ch su fin (Vr x) S) (m:x∈fin):Ch su fin Vs S:=h.mono (λ_ h=>h) (λy e=>.inl (Kd e▸m)) nofun
structure Ring (nd:Nat->List Nat) (n:Nat) (c:List Nat):Prop where
 len:2<=c.length
 ends : c[0]? = c[c.length - 1]?
 once:c.dropLast.Nodup
 lt:∀x∈c,x<n
 by_:∀a x y,c[a]?=Vr x->c[a+1]?=Vr y->x∈nd y
theorem Ch.path:∀{S:List (Nat×Nat)}{x:Nat},Ch su fin (Vr x) S->∀a u w,((S.map (·.1)).reverse++[x])[a]?=Vr u->((S.map (·.1)).reverse++[x])[a+1]?=Vr w->w∈su u
 | [],x,_,a,u,w,_,b=>nomatch b
 | p::r,x,h,a,u,w,c,b=>by
  rw[KG,MG] at c b;by_cases q:a+1<((r.map (·.1)).reverse++[p.1]).length
  ·rw[KB (by walk_at "n")] at c;rw[KB q] at b;exact h.2.path a u w c b
  ·have e:=(Kh.mp b).1;rw[Km,KP] at e;have d:a+1=((r.map (·.1)).reverse++[p.1]).length:=by walk_at "n"
   rw[d,Ls] at b;rw[Km,KP] at d;rw[KB (by rw[Km,KP];walk_at "n"),show a=((r.map (·.1)).reverse).length by walk_at "n",Ls] at c;refine rq (Kd c) ?_;refine rq (Kd b) ?_;exact h.1.2.2 _ rfl
theorem Cb (T:gF nd su n) (h:Ch su fin (Vr x) S) (g:(S.map (·.1)).Nodup) (e:∀y∈S.map (·.1),y<n){i:Nat}(j:((S.map (·.1)).reverse)[i]?=Vr x):Ring nd n (((S.map (·.1)).reverse).drop i++[x]):=by
 have q:=(Kh.mp j).1;have p:((S.map (·.1)).reverse).drop i++[x]=((S.map (·.1)).reverse++[x]).drop i:=(List.drop_append_of_le_length (by walk_at "n")).symm;have m:x<n:=e x (ON.mp (Ko j));refine ⟨?_,?_,?_,λy b=>?_,λa u w d l=>?_⟩
 ·rw[Km,M7,KP];walk_at "n"
 ·rw[Km,KP,SF,Ls,KB (by rw[M7];walk_at "n"),NH];exact j
 ·rw[MW];exact ((List.reverse_perm _).nodup_iff.mpr g).sublist (SL _ _)
 ·rcases Kx.mp b with b | b
  ·exact e y (ON.mp (RL b))
  ·rw[Kk.mp b];exact m
 ·rw[p,NH] at d l;have k:=h.path _ u w d l;have o:∀y,y∈(S.map (·.1)).reverse++[x]->y<n:=λy b=>(Kx.mp b).elim (λb=>e y (ON.mp b)) λb=>Kk.mp b▸m;have c:=o u (Ko d);have f:=(T u c w).2 k;refine Mv.mp ?_;rw[<- (T u c w).1 f];exact Mv.mpr k
theorem nN:∀{fin:List Nat},Bq su fin->fin.Nodup->∀j i,j∈fin->i∈su j->i∈fin/\fin.idxOf j<fin.idxOf i
 | [],_,_,j,_,c,_=>nomatch c
 | f::r,⟨k,h⟩,nd,j,i,c,hi=>by
  obtain ⟨d,l⟩:=LP.mp nd;rw[Tf,Tf];by_cases q:f=j
  ·subst q;have g:=k i hi;have:¬f=i:=λe=>d (e▸g);rw[beq_self_eq_true,beq_eq_false_iff_ne.mpr this];exact ⟨.tail _ g,M9 _⟩
  ·have c:j∈r:=(Kw.mp c).elim (λe=>absurd e.symm q) id;obtain ⟨a,b⟩:=nN h l j i c hi;have:¬f=i:=λe=>d (e▸a);rw[beq_eq_false_iff_ne.mpr q,beq_eq_false_iff_ne.mpr this];exact ⟨.tail _ a,OU b⟩
theorem Ct (T:gF nd su n) (hn:∀s,s<n->∀x∈nd s,x<n) (f:Bq su fin) (e:fin.Nodup) (c:∀i,i<n->i∈fin){t i:Nat}(b:i<n) (h:Wk nd t i):t<fin.length:=by
 refine MO (uq (r:=λi=>fin.idxOf i) (P:=λi=>i<n) (λi b j d=>?_) b h) (List.idxOf_lt_length_of_mem (c i b));have a:=hn i b j d;refine ⟨a,(nN f e j i (c j a) (Mv.mp ?_)).2⟩;rw[(T j a i).1 b];exact Mv.mpr d
theorem oZ {f:Nat->Nat}:∀{n:Nat}{l:List Nat},l.Nodup->(∀x∈l,x<n)->(l.map f).sum<=((KC n).map f).sum:=@nr _ (@λl _ h=>by
  cases l with
  | nil=>exact KL _
  | cons a l=>exact absurd (h a (.head _)) (L8 _))
 (λn b=>(@λl d h=>by
  rw[Oc,KD,Td];by_cases q:n∈l
  ·have p:=List.perm_cons_erase q;have e:=(p.map f).sum_nat;have g:=b (l:=l.erase n) (d.erase n) λx c=>by
    have:=h x (List.mem_of_mem_erase c);have:x≠n:=λe=>(List.Nodup.not_mem_erase d) (e▸c)
    lia
   rw[KG,L7] at e;rw[e];show _<=_+(f n+0);lia
  ·exact Lr (b d λx c=>by have:=h x c;have:x≠n:=λe=>q (e▸c);lia) (OV _ _)))
end
end
section
set_option linter.all false
noncomputable def ndOf (needs:List (List Int)) (i:Nat):List Nat:=((needs[i]?).getD []).map OW
def xw (needs:List (List Int)) (n:Nat):Prop:=∀l∈needs,∀x∈l,0<=x/\x<(n:Int)
section
variable {needs:List (List Int)}{n:Nat}
theorem xw.at_ (h:xw needs n) (i:Nat):∀x∈(needs[i]?).getD [],0<=x/\x<(n:Int):=λx a=>by
 cases e:needs[i]? with
 | none=>rw[e] at a;exact nomatch a
 | some l=>rw[e] at a;exact h l (Ko e) x a
theorem xw.lt (h:xw needs n) (i:Nat):∀x∈ndOf needs i,x<n:=λx b=>by
 obtain ⟨y,a,rfl⟩:=Ku.mp b;have:=h.at_ i y a
 (first | omega | lia)
theorem zd {i:Nat}:((i:Int)∈(KC 9).map λ(i:Nat)=>(i:Int))<->i<9:=⟨λh=>by obtain ⟨j,a,e⟩:=Ku.mp h;have:=LA.mp a;lia,λh=>Ku.mpr ⟨i,LA.mpr h,rfl⟩⟩
theorem zc (h:xw needs 9):∀{t i:Nat},i<9->((i:Int)∈wk needs t<->Wk (ndOf needs) t i):=@nr _ (@λi d=>⟨λ_=>trivial,λ_=>zd.mpr d⟩) (λt e=>(@λi d=>by
  rw[Iw];rw[LQ,zd,KT,KO,PB];refine ⟨λ⟨_,x,c⟩=>?_,λ⟨j,l,g⟩=>⟨d,?_⟩⟩
  ·refine aC λk a=>?_;obtain ⟨c,f⟩:=LQ.mp c;have b:=h.at_ i x c;obtain ⟨y,rfl⟩:=Lj b.1;refine a ?_;exact ⟨y,Ku.mpr ⟨_,c,KT _⟩,(e (by lia)).mp (KR.mp f)⟩
  ·refine aC λk a=>?_;obtain ⟨x,c,rfl⟩:=Ku.mp l;refine a ?_;have b:=h.at_ i x c;refine ⟨x,LQ.mpr ⟨c,KR.mpr ?_⟩⟩;have:=(e (i:=x.toNat) (by lia)).mpr g;rw[NB b.1] at this;exact this))
theorem B6 {v:Int}:∀{l h:List Int}{j:Nat},(∀x∈l,0<=x)->j<h.length->(l.foldl (λh i=>h.set i.toNat v) h)[j]?=if (j:Int)∈l then Vr v else h[j]?:=@lr _ _ (@λh j _ _=>(if_neg (λm=>nomatch m)).symm) (λa l d=>(@λh j p b=>by
  rw[O8,d (λx e=>p x (.tail _ e)) (by rw[KZ];exact b)];have f:=p a (.head _);by_cases q:(j:Int)∈l
  ·rw[if_pos q,if_pos (.tail _ q)]
  ·rw[if_neg q];by_cases c:(j:Int)=a
   ·subst c;rw[if_pos (.head _),KT,Mj b]
   ·rw[if_neg λm=>(Kw.mp m).elim c q,LL (by lia)]))
theorem Gw:∀{t:Nat}{x:Int},x∈wk needs t->0<=x:=λ{t x} h=>by
 have:x∈(KC 9).map λ(i:Nat)=>(i:Int):=by
  cases t with
  | zero=>exact h
  | succ t=>exact (LQ.mp h).1
 obtain ⟨j,_,rfl⟩:=Ku.mp this;exact LC _
theorem zM (h:xw needs 9){i:Nat}(b:i<9):∀t:Nat,∃k:Nat,(hs needs t)[i]?=Vr (k:Int)/\k<=t/\Wk (ndOf needs) k i/\(k<t->¬Wk (ndOf needs) (k+1) i):=@nr _ (⟨0,w4 (Qq b) (KL _) trivial (λq=>absurd q (MC _))⟩) (λt f=>by
  obtain ⟨k,e,d,g,j⟩:=f;have a:(hs needs (t+1))[i]?=_:=B6 (v:=((t+1:Nat):Int)) (l:=wk needs (t+1)) (h:=hs needs t) (λx n=>Gw n) (by rw[qV];exact b);by_cases q:Wk (ndOf needs) (t+1) i
  ·rw[if_pos ((zc h b).mpr q)] at a;exact ⟨t+1,w4 a (KL _) q (λq=>absurd q (MC _))⟩
  ·rw[if_neg λm=>q ((zc h b).mp m)] at a;refine ⟨k,w4 (a.trans e) (P9 d) g (λ_=>?_)⟩;rcases OF d with c | c
   ·exact j c
   ·rw[c];exact q)
theorem DY (h:xw needs 9){i k:Nat}(g:i<9) (c:k<9):(hs needs 9)[i]?=Vr (k:Int)<->Hg (ndOf needs) k i:=by
 obtain ⟨m,e,f,a,d⟩:=zM h g 9;rw[e];refine ⟨λq=>?_,λq=>?_⟩
 ·have:m=k:=by have:=Kd q;lia
  subst this;exact ⟨a,d c⟩
 ·rcases OF f with b | b
  ·rw[Hg.uniq ⟨a,d b⟩ q]
  ·subst b;exact absurd (a.le c) q.2
theorem vd (h:xw needs 9){i:Nat}(f:i<9):(hs needs 9)[i]?=Vr 9<->Wk (ndOf needs) 9 i:=by
 obtain ⟨m,e,c,b,d⟩:=zM h f 9;rw[e];refine ⟨λq=>?_,λq=>?_⟩
 ·have:m=9:=by have:=Kd q;lia
  exact this▸b
 ·rcases OF c with a | a
  ·exact absurd (q.le a) (d a)
  ·rw[a];rfl
end
end
section
set_option linter.all false
theorem wa {h:Str}{r:Int}(hh:h.cps.size=1):∀i,(rowS h r i).cps[0]?=h.cps[0]?:=@nr _ (rfl) (λi b=>by
  have a:=lV (h:=h) (r:=r) hh i;show (((rowS h r i).cps++(gR r i).cps++(gW r i).cps++(gX r i).cps)[0]?)=_;rw[Oy (by rw[NJ,NJ];lia),Oy (by rw[NJ];lia),Oy (by lia)];exact b)
theorem sA (t:Thing9):t.row.cps[0]?=Vr (kc t.kind):=wa rfl 3
theorem Fu:∀k∈([4,8,12,6,0,3]:List Int),(kc k==100)=(k==4):=by decide +kernel
theorem ta {t:Thing9}(h:t.Good):(kc t.kind==100)=(t.kind==4):=Fu _ (by rcases h.kind with e | e | e | e | e | e<;>rw[e]<;>decide)
theorem jH {t u:Thing9}(h:t.Good) (h':u.Good) (e:t.row=u.row):(t.kind==4)=(u.kind==4):=by
 have q:Vr (kc t.kind)=Vr (kc u.kind):=(sA t).symm.trans ((congrArg (λs:Str=>s.cps[0]?) e).trans (sA u));rw[<- ta h,<- ta h',Kd q]
noncomputable def needsOf (ts:List Thing9):List (List Int):=ts.map λt=>cond (t.kind==4) t.inner []
section
variable {ts:List Thing9}(h9:ts.length=9) (hg:∀t∈ts,t.Good)
theorem eG (hg:∀t∈ts,t.Good):xw (needsOf ts) 9:=λl b x a=>by
 obtain ⟨t,c,rfl⟩:=Ku.mp b;cases q:t.kind==4 with
 | true=>rw[q] at a;exact (hg t c).inner.2 x a
 | false=>rw[q] at a;exact nomatch a
theorem mn {i:Nat}{t:Thing9}(e:ts[i]?=Vr t):ndOf (needsOf ts) i=cond (t.kind==4) (t.inner.map OW) []:=by
 unfold ndOf needsOf;rw[Kv,e];show Nd OW (cond (t.kind==4) t.inner [])=_;cases t.kind==4<;>rfl
theorem eR {n i:Nat}(c:i<9):∃p:Nat,(aH ts n)[i]?=Vr (p:Int)/\p<9:=by
 cases n with
 | zero=>exact ⟨0,Qq c,by decide⟩
 | succ n=>
  have e:(bB ts (aH ts n))[i]?=Vr (cI ts (aH ts n) i):=by unfold bB;rw[Kv,PC c];rfl
  obtain ⟨p,a⟩:=iJ (Ko e);refine ⟨p,?_,?_⟩
  ·rw[uS,Kv,e];show Vr ((((bB ts (aH ts n)).findIdx? λb=>decide (b=cI ts (aH ts n) i)).getD 0:Nat):Int)=_;rw[a];rfl
  ·have:=(Mg.mp a).1;unfold bB at this;rw[Ke,KI] at this;exact this
theorem kz {n i p:Nat}(l:i<9) (e:(aH ts (n+1))[i]?=Vr (p:Int)):p<9/\cI ts (aH ts n) p=cI ts (aH ts n) i/\∀j,j<p->cI ts (aH ts n) j≠cI ts (aH ts n) i:=by
 have g:(bB ts (aH ts n))[i]?=Vr (cI ts (aH ts n) i):=by unfold bB;rw[Kv,PC l];rfl
 obtain ⟨q,f⟩:=iJ (Ko g);have:p=q:=by
  rw[uS,Kv,g] at e;have e:((((bB ts (aH ts n)).findIdx? λb=>decide (b=cI ts (aH ts n) i)).getD 0:Nat):Int)=(p:Int):=Kd e;rw[f] at e;exact LJ e.symm
 refine rp this ?_;obtain ⟨c,h,k⟩:=Mg.mp f;have d:∀j (a:j<(bB ts (aH ts n)).length),(bB ts (aH ts n))[j]=cI ts (aH ts n) j:=λj a=>by
  simp only[bB,OP,PO]
 rw[d] at h;refine w3 (by unfold bB at c;rw[Ke,KI] at c;exact c) (of_decide_eq_true h) (λj a e=>?_);have:=k j a;rw[d] at this;exact this (decide_eq_true e)
theorem uT {n i j:Nat}(k:i<9) (f:j<9):(aH ts (n+1))[i]?=(aH ts (n+1))[j]?<->cI ts (aH ts n) i=cI ts (aH ts n) j:=by
 refine aC λr a=>?_;obtain ⟨p,e,_⟩:=eR (ts:=ts) (n:=n+1) k;obtain ⟨q,g,_⟩:=eR (ts:=ts) (n:=n+1) f;obtain ⟨s,d,l⟩:=kz k e;obtain ⟨o,c,m⟩:=kz f g;refine a ?_;rw[e,g];refine ⟨λh=>?_,λh=>?_⟩
 ·have:p=q:=LJ (Kd h);subst this;exact d.symm.trans c
 ·congr 2
  exact Oo (ML λb=>l q b (c.trans h.symm)) (ML λb=>m p b (d.trans h))
def Al (ts:List Thing9) (n i j:Nat):Prop:=(aH ts n)[i]?=(aH ts n)[j]?
theorem jN {α β γ:Type}{f:α->β}{g:α->γ}:∀{l l':List α},(∀x∈l,∀y∈l',f x=f y<->g x=g y)->(l.map f=l'.map f<->l.map g=l'.map g)
 | [],[],_=>⟨λ_=>rfl,λ_=>rfl⟩
 | [],_::_,_=>⟨λh=>absurd h nofun,λh=>absurd h nofun⟩
 | _::_,[],_=>⟨λh=>absurd h nofun,λh=>absurd h nofun⟩
 | a::l,b::l',h=>by
  have c:=jN (l:=l) (l':=l') λx e y d=>h x (.tail _ e) y (.tail _ d);rw[KG,KG,KG,KG,P3,P3,c,h a (.head _) b (.head _)]
theorem qI {α β:Type}{f:α->β}{P:α->Prop}:∀{l l':List α},(∀x∈l,∀y∈l',f x=f y->P x->P y)->l.map f=l'.map f->(∃x∈l,P x)->∃y∈l',P y
 | [],_,_,_,⟨_,h,_⟩=>nomatch h
 | a::l,[],_,e,_=>absurd e nofun
 | a::l,b::l',h,e,⟨x,c,g⟩=>by
  rw[KG,KG,P3] at e;rcases Kw.mp c with rfl | c
  ·exact ⟨b,.head _,h x (.head _) b (.head _) e.1 g⟩
  ·obtain ⟨y,d,i⟩:=qI (λx c y d=>h x (.tail _ c) y (.tail _ d)) e.2 ⟨x,c,g⟩;exact ⟨y,.tail _ d,i⟩
def DE {α:Type}(f:Nat->α) (t u:Thing9):Prop:=t.row=u.row/\cond (t.kind==4) ((t.inner.map λx=>f x.toNat)=u.inner.map λx=>f x.toNat) (t.inner=u.inner)
theorem vK {n i j:Nat}{t u:Thing9}(m:i<9) (d:j<9) (r:ts[i]?=Vr t) (h:ts[j]?=Vr u) (b:t.Good) (a:u.Good):Al ts (n+1) i j<->DE (λx=>(aH ts n)[x]?) t u:=by
 refine (uT m d).trans ?_;unfold cI;rw[r,h,SP];refine and_congr_right λe=>?_;rw[show (Vr u).map (λt=>cond (t.kind==4) (t.inner.map λi=>((aH ts n)[i.toNat]?).getD 0) t.inner)=Vr (cond (t.kind==4) (u.inner.map λi=>((aH ts n)[i.toNat]?).getD 0) u.inner) by rw[jH b a e];rfl];show cond (t.kind==4) _ _=cond (t.kind==4) _ _<->_;cases t.kind==4 with
 | false=>exact SW
 | true=>
  refine jN (f:=λi:Int=>((aH ts n)[i.toNat]?).getD 0) (g:=λi:Int=>(aH ts n)[i.toNat]?) λx o y k=>⟨λe=>?_,λe=>by show (_:Option Int).getD 0=_;rw[show (aH ts n)[x.toNat]?=_ from e]⟩
  obtain ⟨p,c,_⟩:=eR (ts:=ts) (n:=n) (i:=x.toNat) (by have:=b.inner.2 x o;lia);obtain ⟨q,l,_⟩:=eR (ts:=ts) (n:=n) (i:=y.toNat) (by have:=a.inner.2 y k;lia);have e:((aH ts n)[x.toNat]?).getD 0=((aH ts n)[y.toNat]?).getD 0:=e;rw[c,l] at e ⊢;exact congrArg Vr e
end
end
section
set_option linter.all false
def eo (ts:List Thing9) (i:Nat):Prop:=i<9/\¬Wk (ndOf (needsOf ts)) 9 i
noncomputable def fP (t:Thing9):Bool:=t.kind==4
noncomputable def inn (a:Nat->Nat) (t:Thing9):List Int:=cond (fP t) (t.inner.map λx=>(a x.toNat:Int)) t.inner
noncomputable def bS (a:Nat->Nat) (t:Thing9):Row:=(t.row,aR (inn a t))
structure Kept (ts:List Thing9) (nu:Nat->Nat) (rows:List Row):Prop where
 at_:∀i t,eo ts i->ts[i]?=Vr t->rows[nu i]?=Vr (bS nu t)
 once:rows.Nodup
 all:∀r,r<rows.length->∃i,eo ts i/\nu i=r
 le:rows.length<=9
 below:∀i t,eo ts i->ts[i]?=Vr t->fP t=Vt->∀x∈t.inner,nu x.toNat<nu i
theorem hG {i:Int}(h:bK i):(i.toNat.toUInt8.toNat:Int)=i:=by
 unfold bK at h;rw[Q0,RT,Qn (by lia)];lia
theorem nO {a b:List Int}(c:∀x∈a,bK x) (k:∀x∈b,bK x) (e:aR a=aR b):a=b:=by
 have e:(a.map λ(i:Int)=>i.toNat.toUInt8)=b.map λ(i:Int)=>i.toNat.toUInt8:=congrArg Array.toList e;have h:=(jN (f:=λ(i:Int)=>i.toNat.toUInt8) (g:=id) (l:=a) (l':=b) λx j y d=>⟨λe=>?_,λe=>by rw[show x=y from e]⟩).mp e
 ·rw[N6,N6] at h;exact h
 ·exact (hG (c x j)).symm.trans ((congrArg (λu:UInt8=>(u.toNat:Int)) e).trans (hG (k y d)))
section
variable {ts:List Thing9}(h9:ts.length=9) (hg:∀t∈ts,t.Good)
include h9 hg
theorem Ei:∀{n i j s:Nat},i<9->j<9->s<=n->Al ts n i j->Wk (ndOf (needsOf ts)) s i->Wk (ndOf (needsOf ts)) s j
 | _,_,_,0,_,_,_,_,_=>trivial
 | 0,_,_,_+1,_,_,h,_,_=>absurd h (Nat.not_succ_le_zero _)
 | n+1,i,j,s+1,hi,r,hs,h,a=>by
  obtain ⟨t,l⟩:∃t,ts[i]?=Vr t:=⟨_,Kl (by (first | walk_at "m" | lia))⟩;obtain ⟨u,b⟩:∃t,ts[j]?=Vr t:=⟨_,Kl (by (first | walk_at "m" | lia))⟩;have g:=hg t (Ko l);have d:=hg u (Ko b);obtain ⟨v,m⟩:=(vK hi r l b g d).mp h;have o:=jH g d v;change ∃y∈ndOf (needsOf ts) i,Wk (ndOf (needsOf ts)) s y at a;show ∃y∈ndOf (needsOf ts) j,Wk (ndOf (needsOf ts)) s y;rw[mn l] at a;rw[mn b,<- o];cases q:t.kind==4 with
  | false=>rw[q] at a;exact a.elim λ_ h=>nomatch h.1
  | true=>
   rw[q] at a m;obtain ⟨x,k,A⟩:=a;obtain ⟨z,C,rfl⟩:=Ku.mp k;obtain ⟨y,c,p⟩:=qI (f:=λx:Int=>(aH ts n)[x.toNat]?) (P:=λx=>Wk (ndOf (needsOf ts)) s x.toNat) (λx k y c e w=>Ei (by have:=g.inner.2 x k;(first | walk_at "m" | lia)) (by have:=d.inner.2 y c;(first | walk_at "m" | lia)) (RG hs) e w) m ⟨z,C,A⟩;exact ⟨_,Ku.mpr ⟨y,c,rfl⟩,p⟩
theorem iI {i:Nat}{t:Thing9}(f:eo ts i) (b:ts[i]?=Vr t) (c:fP t=Vt):∀x∈t.inner,eo ts x.toNat:=λx a=>by
 have d:=hg t (Ko b);refine ⟨by have:=d.inner.2 x a;lia,λw=>f.2 (Wk.pred ⟨x.toNat,?_,w⟩)⟩;rw[mn b,show (t.kind==4)=Vt from c];exact Ku.mpr ⟨x,a,rfl⟩
theorem CX {i:Nat}{n:Nat}{t:Thing9}(f:¬Wk (ndOf (needsOf ts)) (n+1) i) (c:ts[i]?=Vr t) (a:fP t=Vt):∀x∈t.inner,¬Wk (ndOf (needsOf ts)) n x.toNat:=λx b w=>f ⟨x.toNat,by
 rw[mn c,show (t.kind==4)=Vt from a];exact Ku.mpr ⟨x,b,rfl⟩,w⟩
section
variable {nu:Nat->Nat}{rows:List Row}(K:Kept ts nu rows)
include K
theorem uL {i:Nat}(f:eo ts i):nu i<rows.length:=(Kh.mp (K.at_ i _ f (Kl (by have:=f.1;(first | walk_at "m" | lia))))).1
theorem pF {i:Nat}{t:Thing9}(f:eo ts i) (b:ts[i]?=Vr t):∀x∈inn nu t,bK x:=λx a=>by
 have c:=hg t (Ko b);unfold inn at a;unfold bK;cases q:fP t with
 | false=>rw[q] at a;have:=c.inner.2 x a;lia
 | true=>
  rw[q] at a;obtain ⟨y,d,rfl⟩:=Ku.mp a;have:=uL h9 hg K (iI h9 hg f b q y d);have:=K.le;lia
theorem Co {i j:Nat}{t u:Thing9}(g:eo ts i) (d:eo ts j) (c:ts[i]?=Vr t) (b:ts[j]?=Vr u):nu i=nu j<->DE nu t u:=by
 have l:=hg t (Ko c);have k:=hg u (Ko b);have a:=K.at_ i t g c;have f:=K.at_ j u d b;have:nu i=nu j<->bS nu t=bS nu u:=⟨λe=>Kd (a.symm.trans (e▸f)),λe=>by
  rw[e] at a;exact (PZ (Kh.mp a).1 K.once).mp (a.trans f.symm)⟩
 rw[this];unfold bS DE;rw[SP];refine and_congr_right λe=>?_;have:aR (inn nu t)=aR (inn nu u)<->inn nu t=inn nu u:=⟨nO (pF h9 hg K g c) (pF h9 hg K d b),λe=>by rw[e]⟩
 rw[this];have h:fP t=fP u:=jH l k e;unfold inn;rw[<- h];show _<->cond (fP t) _ _;cases fP t with
 | false=>exact SW
 | true=>exact jN λx _ y _=>⟨λe=>LJ e,λe=>congrArg _ e⟩
theorem HV:∀{n i j:Nat},eo ts i->eo ts j->¬Wk (ndOf (needsOf ts)) n i->(Al ts n i j<->nu i=nu j):=@nr _ (@λ_ _ _ _ h=>absurd trivial h) (λn o=>(@λi j d c m=>by
  obtain ⟨t,a⟩:∃t,ts[i]?=Vr t:=⟨_,Kl (by have:=d.1;lia)⟩
  obtain ⟨u,b⟩:∃t,ts[j]?=Vr t:=⟨_,Kl (by have:=c.1;lia)⟩
  have g:=hg t (Ko a);have f:=hg u (Ko b);rw[vK d.1 c.1 a b g f,Co h9 hg K d c a b];unfold DE;refine and_congr_right λe=>?_;have l:fP t=fP u:=jH g f e;show cond (fP t) _ _<->cond (fP t) _ _;cases q:fP t with
  | false=>exact SW
  | true=>exact jN λx k y p=>o (iI h9 hg d a q x k) (iI h9 hg c b (l▸q) y p) (CX h9 hg m a q x k)))
theorem JD {i j:Nat}(a:eo ts i) (b:eo ts j):Al ts 9 i j<->nu i=nu j:=HV h9 hg K a b a.2
theorem DQ {i p:Nat}(b:eo ts i) (e:(aH ts 9)[i]?=Vr (p:Int)):eo ts p/\nu p=nu i/\(aH ts 9)[p]?=Vr (p:Int):=by
 obtain ⟨c,f,g⟩:=kz b.1 e;have a:Al ts 9 p i:=(uT c b.1).mpr f;have d:eo ts p:=⟨c,λw=>b.2 (Ei h9 hg c b.1 (KL _) a w)⟩
 exact w3 d ((JD h9 hg K d b).mp a) ((show (aH ts 9)[p]?=(aH ts 9)[i]? from a).trans e)
end
end
end
section
set_option linter.all false
theorem pd {l m:List Int}(h:l.Nodup) (a:m.Pairwise (· < ·)) (e:∀x,x∈l<->x∈m):fe l=m:=(lS ((QO (a.imp λq=>Int.ne_of_lt q) h).mpr λx=>(e x).symm) (a.imp λq=>Uq q)).symm
noncomputable def r8 (ts:List Thing9) (i:Nat):Int:=((hs (needsOf ts) 9)[i]?).getD 0
noncomputable def ic (ts:List Thing9):List Nat:=(KC 9).filter λi=>decide (r8 ts i<9)
noncomputable def qu (ts:List Thing9):List Nat:=(ic ts).filter λi=>((aH ts 9)[i]?).getD 0==(i:Int)
section
variable {ts:List Thing9}(h9:ts.length=9) (hg:∀t∈ts,t.Good)
theorem zO (hg:∀t∈ts,t.Good){i:Nat}(c:i<9):r8 ts i<9<->¬Wk (ndOf (needsOf ts)) 9 i:=by
 obtain ⟨k,e,b,a,d⟩:=zM (eG hg) c 9;unfold r8;rw[e];show (k:Int)<9<->_;refine ⟨λq w=>d (by lia) (w.le (by lia)),λq=>?_⟩;rcases OF b with h | h
 ·lia
 ·rw[h] at a;exact absurd a q
theorem hK (hg:∀t∈ts,t.Good){i:Nat}:i∈ic ts<->eo ts i:=by
 unfold ic;rw[LQ,LA,decide_eq_true_iff];exact and_congr_right λa=>zO hg a
theorem tm:(ic ts).Nodup:=SS.sublist M6
include h9 hg in
theorem yz {d:Nat->Nat}{rows:List Row}(K:Kept ts d rows):(qu ts).length=rows.length:=by
 have c:∀{i},i∈qu ts<->eo ts i/\(aH ts 9)[i]?=Vr (i:Int):=λ{i}=>by
  unfold qu;rw[LQ,hK hg];refine and_congr_right λf=>?_;obtain ⟨p,e,_⟩:=eR (ts:=ts) (n:=9) f.1;rw[e];show ((p:Int)==(i:Int))=Vt<->_;rw[beq_iff_eq,OS]
 have p:((qu ts).map d).Perm (KC rows.length):=by
  refine (QO ?_ SS).mpr λr=>?_
  ·refine (NM).mpr ((tm.sublist M6).imp_of_mem λ{a b} o u q e=>q ?_);obtain ⟨j,v⟩:=c.mp o;obtain ⟨w,m⟩:=c.mp u;have:Al ts 9 a b:=(JD h9 hg K j w).mpr e;exact LJ (Kd (v.symm.trans ((show (aH ts 9)[a]?=(aH ts 9)[b]? from this).trans m)))
  ·rw[Ku,LA];refine ⟨λ⟨i,x,e⟩=>e▸uL h9 hg K (c.mp x).1,λh=>?_⟩;obtain ⟨i,g,e⟩:=K.all r h;obtain ⟨p,k,_⟩:=eR (ts:=ts) (n:=9) g.1;obtain ⟨t,s,l⟩:=DQ h9 hg K g k;exact ⟨p,c.mpr ⟨t,l⟩,s.trans e⟩
 have:=p.length_eq;rw[Ke,KI] at this;exact this
end
end
section
set_option linter.all false
section
variable {k:Nat}{cx:Cx}{s s1:St}{t e:Kf}{p p2 pos pos2:Pos}{st:List SObj}{l:List D}{f g:Str}{is:List Int}{c:Addr}{args:List Kf}{vs:List V}{ds:List D}{r:List SObj}{d:D}
theorem vt {b:Bi}(c:gL (mk k) cx f p [.Call (.Name g p2) [e] [] pos2] pos=ys (mk k) f p g p2 e pos2 pos) (hs:pg cx f g=Vr b) (i:bb e=Vs) (h:((mk k).ev cx e).f s=.ok (.d (.lst l)) s1) (a:nV b (.lst l)=Vr d):((mk (k+1)).ev cx (.Call (.Name f p) [.Call (.Name g p2) [e] [] pos2] [] pos)).f s=.ok (.d d) s1:=by
 show (gL (mk k) cx f p _ pos).f s=_;rw[c];show optE (pg cx f g) _ _=_;rw[hs];exact (if_pos i).trans (aK h (hE a))
theorem B5 (h:cR l=Vr is) (hz:is.length<64):nV .len (.lst l)=Vr (.int (ik is).length):=by
 show (cR l).bind _=_;rw[h];exact if_pos hz
theorem sx (h:cR l=Vr is) (hz:is.length<64):nV .sorted (.lst l)=Vr (.lst ((fe (ik is)).map .int)):=by
 show (cR l).bind _=_;rw[h];exact if_pos hz
theorem cQ {F1:List (Str×V)}{T1:List SObj}(c:Addr) (hs:gL (mk k) cx f p args pos=kg (mk k) f p args pos) (e:aO args=Vt) (b:ia cx f=Vr (.gbl c)) (m:ke.contains c=Vt/\cx.inH=Vu) (h:(c==244)=Vu) (l:bM ((mk k).ev cx) args s=.ok vs ⟨F1,T1⟩) (j:ie.contains c=Vt) (g:ej vs=Vr ds) (a:dI ((mk k).call c vs [.ctab])=Vr d) (i:T1=.ctab::r):((mk (k+1)).ev cx (.Call (.Name f p) args [] pos)).f s=.ok (.d d) ⟨F1,T1⟩:=dH hs e b (Az m h l (jI j g a i))
end
theorem AI:∀{l acc:List Int},(acc++l).Nodup->l.foldl (λacc x=>if acc.contains x then acc else acc++[x]) acc=acc++l:=@lr _ _ (@λacc _=>(LG _).symm) (λx l a=>(@λacc h=>by
  rewrite [O8,if_neg λm=>?_,a (acc:=acc++[x]) (by rw[KW];exact h),KW]
  ·rfl
  ·exact (Lx.mp h).2.2 x (KR.mp m) x (.head _) rfl))
theorem rE {l:List Int}(h:l.Nodup):ik l=l:=AI (acc:=[]) h
theorem tK {l:List Int}{x:Int}(h:l.Nodup) (a:x∈l):ik (l++[x])=l:=by
 unfold ik;rw[P0,show l.foldl _ []=l from rE h];exact if_pos (KR.mpr a)
theorem Bd {n:Nat}(h:0<n):ki n (-1)=Vr (n-1):=by
 unfold ki;rw[if_neg (by walk_at "n"),if_pos (by walk_at "n")]
 congr 1;walk_at "n"
noncomputable def aB (c:List Nat):List Int:=c.map λ(x:Nat)=>(x:Int)
theorem we {k:Nat}{needs:List (List Int)}{c:List Nat}(J:xw needs 9) (h9:needs.length=9) (R:Ring (ndOf needs) 9 c) (T:c.length<=10):W ((mk (k+20)).call 311 [.d (.tup [.str (sn "nodes are in a cycle"),.lst ((aB c).map .int)]),.d (.lst (needs.map λl=>.lst (l.map .int)))] [.ctab]) (λv s=>∃d,v=.d d/\(dt s.st).isSome=Vt/\d=.bool Vt) noE:=by
 have p:2<=c.length:=R.len;refine bX (fd:=aW 311) (us:=[.d (.tup [.str (sn "nodes are in a cycle"),.lst ((aB c).map .int)]),.d (.lst (needs.map λl=>.lst (l.map .int)))]) (fr:=aY (sn "needs") (.d (.lst (needs.map λl=>.lst (l.map .int)))) (aY (sn "told") (.d (.tup [.str (sn "nodes are in a cycle"),.lst ((aB c).map .int)])) [])) rfl rfl rfl rfl rfl ?_;have P:bV [.ctab] .Is (.d (.tup [.str (sn "nodes are in a cycle"),.lst ((aB c).map .int)])) (.d .non)=Vr false:=rfl;have f2:bV [.ctab] .NotEq (.d (.int ([D.str (sn "nodes are in a cycle"),.lst ((aB c).map .int)].length:Int))) (.d (.int 2))=Vr false:=rfl;have f3:bE (.d (.tup [.str (sn "nodes are in a cycle"),.lst ((aB c).map .int)])) (.d (.int 0)) [.ctab]=Vr (.d (.str (sn "nodes are in a cycle"))):=zJ (m:=0) rfl rfl;have f4:bV [.ctab] .NotEq (.d (.str (sn "nodes are in a cycle"))) (.d (.str (sn "nodes are in a cycle")))=Vr false:=by
  show Vr (!(sn "nodes are in a cycle"==sn "nodes are in a cycle"))=_;rw[beq_self_eq_true];rfl
 have f5:bE (.d (.tup [.str (sn "nodes are in a cycle"),.lst ((aB c).map .int)])) (.d (.int 1)) [.ctab]=Vr (.d (.lst ((aB c).map .int))):=zJ (m:=1) rfl rfl;have f6:bI [.ctab] .isinstance [.d (.lst ((aB c).map .int)),.d (.bi .list)]=Vr (.bool Vt):=rfl;refine' dN ?a1 (aG ?a2)
 case a1=>
  walk_at "t"
 walk_at "a";have f:((aB c).map D.int).length=c.length:=by unfold aB;rw[Ke,Ke]
 have g1:bV [.ctab] .Lt (.d (.int (((aB c).map D.int).length:Int))) (.d (.int 2))=Vr false:=by
  show Vr (decide _)=_;rw[decide_eq_false (by walk_at "n")]
 have o:∀{i x:Nat},c[i]?=Vr x->((aB c).map D.int)[i]?=Vr (.int (x:Int)):=λ{i x} e=>by unfold aB;rw[Kv,Kv,e];rfl
 have c0:c[0]?=Vr (c[0]):=Kl (by walk_at "n");have O:bE (.d (.lst ((aB c).map .int))) (.d (.int 0)) [.ctab]=Vr (.d (.int (c[0]:Int))):=kX (m:=0) (p5 (n:=0) (by walk_at "n")) (o c0);have g3:bE (.d (.lst ((aB c).map .int))) (.d (.int (-1))) [.ctab]=Vr (.d (.int (c[0]:Int))):=kX (m:=c.length-1) (by rw[f];exact Bd (by walk_at "n")) (o (R.ends.symm.trans c0));have Y:bV [.ctab] .NotEq (.d (.int (c[0]:Int))) (.d (.int (c[0]:Int)))=Vr false:=by
  show Vr (!((c[0]:Int)==(c[0]:Int)))=_;rw[beq_self_eq_true];rfl
 have M:(aB c.dropLast).Nodup:=N7 _ (λa b h e=>h (LJ e)) R.once;have j:(c[0]:Int)∈aB c.dropLast:=by
  refine Ku.mpr ⟨c[0],?_,rfl⟩;rw[Lc];exact ⟨0,by rw[List.getElem?_dropLast,if_pos (by walk_at "n")];exact c0⟩
 have t:c.dropLast++[c[0]]=c:=by
  have:=Od (l:=c) (λe=>by rw[e] at p;exact absurd p (by decide));have w:c.getLast (λe=>by rw[e] at p;exact absurd p (by decide))=c[0]:=by
   have:=R.ends.symm.trans c0;rw[List.getLast_eq_getElem];exact Kd ((Kl (by walk_at "n")).symm.trans this)
  rw[w] at this;exact this
 have q:(ik (aB c)).length=c.length-1:=by
  have:aB c=aB c.dropLast++[(c[0]:Int)]:=by
   conv=>lhs;rw[<- t]
   unfold aB;rw[KD];rfl
  rw[this,tK M j];unfold aB;rw[Ke,RM]
 have N:nV .len (.lst ((aB c).map .int))=Vr (.int ((c.length-1:Nat):Int)):=by rw[<- q];exact B5 (eh _) (by unfold aB;rw[Ke];walk_at "n")
 have G:bV [.ctab] .NotEq (.d (.int ((c.length-1:Nat):Int))) (.d (.int ((((aB c).map D.int).length:Int)-1)))=Vr false:=by
  show Vr (!(((c.length-1:Nat):Int)==(((aB c).map D.int).length:Int)-1))=_;rw[show (((aB c).map D.int).length:Int)-1=((c.length-1:Nat):Int) by walk_at "n",beq_self_eq_true];rfl
 refine' dN (x6 (gH ?b1 (gH ?b2 (gH (cU rfl rfl (vt ?b3 ?b4 rfl ?b5 N) ?b6 G) ma)))) (aG ?b7)
 case b1=>walk_at "t"
 case b2=>walk_at "t"
 case b3=>rfl
 case b4=>kernel_rfl
 case b5=>walk_at "e"
 case b6=>walk_at "e"
 case b7=>
  have F:∀{l:List D},l=[]->jv .Sub (.d (.int (((aB c).map D.int).length:Int))) (.d (.int 1))=Vr (.int ((c.length-1:Nat):Int)):=λ_=>by
   show Vr (D.int (((aB c).map D.int).length-1))=_
   congr 2;walk_at "n"
  have E:=F (l:=[]) rfl;refine' cg (Ed (lG (L:=[]) ?d1 ?d2 ?d3) ?d4) ?d5
  case d1=>exact w4 rfl rfl rfl (by decide)
  case d2=>walk_at "e"
  case d3=>
   refine ut (n:=c.length-1) (g:=λ_=>Vs) (by walk_at "n") (λi hi=>jZ rfl (lB ?_)) ⟨?_,rfl⟩
   ·refine aC λQ r=>?_;obtain ⟨x,C⟩:∃x,c[i]?=Vr x:=⟨_,Kl (by walk_at "n")⟩;obtain ⟨y,u⟩:∃x,c[i+1]?=Vr x:=⟨_,Kl (by walk_at "n")⟩;have I:=R.by_ i x y C u;have y9:=R.lt y (Ko u);obtain ⟨z,A,K⟩:=Ku.mp I;refine r ?_;have H:=J.at_ y z A;have S:=o C;have q2:bE (.d (.lst ((aB c).map .int))) (.d (.int ((i:Int)+1))) [.ctab]=Vr (.d (.int (y:Int))):=zK (m:=i+1) (o u);have U:(needs.map λl=>D.lst (l.map .int))[y]?=Vr (.lst (((needs[y]?).getD []).map .int)):=by
     rw[Kv,Kl (show y<needs.length by walk_at "n")];rfl
    have q4:bV [.ctab] .NotIn (.d (.int (x:Int))) (.d (.lst (((needs[y]?).getD []).map .int)))=Vr false:=by
     show (bV [.ctab] .In (.d (.int (x:Int))) (.d (.lst (((needs[y]?).getD []).map .int)))).map (!·)=_;rw[lA,show ((needs[y]?).getD []).contains (x:Int)=Vt from KR.mpr (by rw[show (x:Int)=z by walk_at "n"];exact A)];rfl
    refine' W.of (a:=Vu) ?e1 ?e2
    case e1=>walk_at "t"
    case e2=>exact ⟨λe=>(nomatch e),λ_=>⟨rfl,rfl⟩⟩
   ·exact List.filterMap_eq_nil_iff.mpr λ_ _=>rfl
  case d4=>rfl
  case d5=>exact ⟨_,w3 rfl rfl rfl⟩
end
section
set_option linter.all false
section
variable {k:Nat}{cx:Cx}{s s1:St}{Q:Fl->St->Prop}{E:D->List D->St->Prop}{t:Kf}{p:Pos}{body els ss:List Stmt}{c:Bool}{st:List SObj}{i:Int}{d:D}{kvs:List (Int×D)}
theorem xF (I:List (Str×V)->List SObj->Prop) (h:((mk k).ts cx t).f s=.ok c s1) (b:c=Vt->W (((mk k).xs cx body).f s1) (λf s=>f=.next/\I s.fr s.st) E) (d:c=Vu->W (((mk k).xs cx els).f s1) (λf s=>f=.next/\I s.fr s.st) E) (q:∀fr st,I fr st->W (((mk k).xs cx ss).f ⟨fr,st⟩) Q E):W (((mk (k+1)).xs cx (.If t body els p::ss)).f s) Q E:=qd h (λe=>(b e).imp λf s a=>a.1▸q s.fr s.st a.2) λe=>(d e).imp λf s a=>a.1▸q s.fr s.st a.2
theorem vc (h:aF i kvs=Vr d):bE (.d (.dct kvs)) (.d (.int i)) st=Vr (.d d):=by
 show Kj ((Kj Vs (Kj (aF i kvs) _)).map V.d) _=_;rw[h];rfl
theorem sa {F1:List (Str×V)}{T1:List SObj}{c g:Str}{i l pos:Pos}{m:Nat}{e:Kf}{a b:D}(o:hX e=Vu/\jq e=Vu/\cx.inH=Vu) (n:bC (cx.names.lookup c)=Vt) (j:bC (cx.names.lookup g)=Vt) (h:((mk k).ev cx e).f s=.ok (.d (.tup [a,b])) ⟨F1,T1⟩) (q:W (((mk k).xs cx ss).f ⟨aY g (.d b) (aY c (.d a) F1),T1⟩) Q E):W (((mk (k+1)).xs cx (.Assign [.Tuple [.Name c i,.Name g l] m p] e pos::ss)).f s) Q E:=ul o h (iO (aQ n (aQ j eA))) q
theorem rn {F1 i:List (Str×V)}{T1 b:List SObj}{n:Str}{v:V}{a:Kf}{oF:List (Str×V)}(hn:bC (cx.names.lookup n)=Vt) (h:((mk k).ts cx t).f ⟨aY n v oF,st⟩=.ok c ⟨F1,T1⟩) (g:c=Vt->((mk k).ev cx a).f ⟨F1,T1⟩=.ok (.d d) ⟨i,b⟩) (e:T1=st) (j:b=st):jx k cx (.Name n p) a [t] oF st v (cond c (Vr d) Vs):=jZ hn (lB (W.of h ⟨λq=>W.of (g q) ⟨j,d,rfl,by rw[q];rfl⟩,λq=>⟨e,by rw[q];rfl⟩⟩))
end
structure NumOk (ts:List Thing9) (nu:Nat->Nat) (kvs:List (Int×D)):Prop where
 once:(kvs.map (·.1)).Nodup
 keys:∀x,x∈kvs.map (·.1)<->∃i:Nat,eo ts i/\x=(i:Int)
 at_:∀i:Nat,eo ts i->aF (i:Int) kvs=Vr (.int (nu i:Int))
noncomputable abbrev iu (ts:List Thing9):D:=.lst (ts.map Thing9.d)
noncomputable abbrev kR (rs:List Row):D:=.lst (rs.map cA)
noncomputable abbrev ew (is:List Int):D:=.lst (is.map .int)
theorem tE {s:List Int}:gJ (ew s) (ew s)=Vr true:=by
 show Kj Vs (Kj Vs (Kj (if (s.map D.int).length=(s.map D.int).length then _ else _) _))=_;rw[if_pos rfl,kM rfl,decide_eq_true rfl];rfl
theorem wU {a:Str}{b:Array UInt8}:gJ (.lst [.str a,.bytes b]) (.lst [.str a,.bytes b])=Vr true:=by
 show Vr ((a==a)&&((b==b)&&Vt))=_;rw[beq_self_eq_true,beq_self_eq_true];rfl
theorem qG {st:List SObj}{a b:D}(h:gJ a b=Vr Vt):bV st .NotEq (.d a) (.d b)=Vr false:=by
 show (gJ a b).map (!·)=_;rw[h];rfl
theorem om {a b:Int}(h:a=b):gJ (.int a) (.int b)=Vr true:=by
 show Vr (a==b)=_;rw[h,beq_self_eq_true]
theorem rc {ts:List Thing9}:(ic ts).length<=9:=by
 have:=(M6 (p:=λi=>decide (r8 ts i<9)) (l:=KC 9)).length_le;rw[KI] at this;exact this
theorem pJ {α β:Type}{p:α->Bool}{f:α->β}:∀{l:List α},l.filterMap (λa=>cond (p a) (Vr (f a)) Vs)=(l.filter p).map f:=@lr _ _ (rfl) (λa l b=>by
  rw[K0,Mt,b];cases p a<;>rfl)
section
variable {ts:List Thing9}{nu:Nat->Nat}{rows:List Row}{kvs:List (Int×D)}(h9:ts.length=9) (hg:∀t∈ts,t.Good) (K:Kept ts nu rows) (N:NumOk ts nu kvs)
include h9 hg K N
theorem tJ {st:List SObj}:bI st .sorted [.d (.dct kvs)]=Vr (ew (aB (ic ts))):=by
 have e:fe (kvs.map (·.1))=aB (ic ts):=pd N.once (N7 _ (λa b h=>MD.mpr h) ((NN).sublist M6)) λx=>by
  rw[N.keys];unfold aB;rw[Ku];exact ⟨λ⟨i,f,e⟩=>⟨i,(hK hg).mpr f,e.symm⟩,λ⟨i,f,e⟩=>⟨i,(hK hg).mp f,e.symm⟩⟩
 have l:kvs.length<64:=by
  have:=congrArg Qp e;rw[(lR _).length_eq] at this;unfold aB at this;rw[Ke,Ke] at this;have:=rc (ts:=ts);lia
 show (if kvs.length<64 then _ else _)=_;rw[if_pos l,e]
theorem AC {k:Nat}:W ((mk (k+45)).call 328 [.d (iu ts),.d (ew (hs (needsOf ts) 9)),.d (.dct kvs),.d (kR rows)] [.ctab]) (λv s=>∃d,v=.d d/\(dt s.st).isSome=Vt/\d=.bool Vt) noE:=by
 refine bX (fd:=aW 328) (us:=[.d (iu ts),.d (ew (hs (needsOf ts) 9)),.d (.dct kvs),.d (kR rows)]) (fr:=aY (sn "rows") (.d (kR rows)) (aY (sn "number") (.d (.dct kvs)) (aY (sn "heights") (.d (ew (hs (needsOf ts) 9))) (aY (sn "things") (.d (iu ts)) [])))) rfl rfl rfl rfl rfl ?_;obtain ⟨d,h,rfl⟩:=cW (s7 (k:=k+2) h9 hg);refine' sa ?a1 ?b1 ?b2 (cQ 292 ?a2 ?a3 ?a4 ?a5 ?a6 ?a7 ?a8 ?a9 h ?aj) ?b3
 case a1=>exact w3 rfl rfl rfl
 case b1=>kernel_rfl
 case b2=>kernel_rfl
 case a2=>rfl
 case a3=>rfl
 case a4=>kernel_rfl
 case a5=>exact ⟨rfl,rfl⟩
 case a6=>rfl
 case a7=>walk_at "e"
 case a8=>kernel_rfl
 case a9=>walk_at "d"
 case aj=>rfl
 have I:∀i:Nat,i<9->((hs (needsOf ts) 9).map D.int)[i]?=Vr (.int (r8 ts i)):=λi a=>by
  rw[Kv,Kl (by rw[qV];exact a)];unfold r8;rw[Kl (by rw[qV];exact a)];rfl
 have M:∀i:Nat,i<9->((aH ts 9).map D.int)[i]?=Vr (.int (((aH ts 9)[i]?).getD 0)):=λi a=>by
  rw[Kv];obtain ⟨p,e,_⟩:=eR (ts:=ts) (n:=9) a;rw[e];rfl
 refine' jc ?c1 ?c2 ?c3 ?c4
 case c1=>kernel_rfl
 case c2=>exact w4 rfl rfl rfl (by decide)
 case c3=>walk_at "e"
 refine ut (n:=9) (g:=λi=>cond (decide (r8 ts i<9)) (Vr (.int (i:Int))) Vs) (by decide) (λi a=>?_) ?_
 ·have u:=I i a;refine' rn ?c7 ?c8 (λ_=>?c9) ?am ?ai
  case c7=>kernel_rfl
  case c8=>walk_at "t"
  case c9=>walk_at "e"
  case am=>rfl
  case ai=>rfl
 rw[pJ (p:=λi=>decide (r8 ts i<9)) (f:=λi:Nat=>D.int (i:Int))];have A:(Nd (λi:Nat=>D.int (i:Int)) ((KC 9).filter λi=>decide (r8 ts i<9)))=(aB (ic ts)).map .int:=by unfold aB;rw[KH];rfl
 rw[A];have G:=tJ h9 hg K N (st:=[.ctab]);have L:bV [.ctab] .NotEq (.d (ew (aB (ic ts)))) (.d (ew (aB (ic ts))))=Vr false:=qG tE;have z:bV [.ctab] .NotEq (.d (.int ((rows.map cA).length:Int))) (.d (.int (((qu ts).map λi:Nat=>D.int (i:Int)).length:Int)))=Vr false:=qG (om (by rw[Ke,Ke,yz h9 hg K]));refine' dN (x6 (gH ?d1 (gH (cU rfl rfl (dH (d:=.bi .len) ?d2 ?d3 ?d4 (rC ?d5 ?d6 ?d7 A5)) (dH (d:=.bi .len) ?d8 ?d9 ?ar (rC ?ak ?ag (aI rfl (cE rfl (lG ?ae ?aa ?av)) aL) A5)) z) ma))) (aG ?ao)
 case d1=>walk_at "t"
 case d2=>rfl
 case d3=>rfl
 case d4=>kernel_rfl
 case d5=>kernel_rfl
 case d6=>kernel_rfl
 case d7=>walk_at "e"
 case d8=>rfl
 case d9=>rfl
 case ar=>kernel_rfl
 case ak=>kernel_rfl
 case ag=>kernel_rfl
 case ae=>exact w4 rfl rfl rfl (by decide)
 case aa=>walk_at "e"
 case av=>
  refine nM (l:=(aB (ic ts)).map .int) (g:=λd=>d.int?.bind λx=>cond (((aH ts 9)[x.toNat]?).getD 0==x) (Vr (.int x)) Vs) ?_ (λd h=>?_) ⟨?_,rfl⟩
  ·unfold aB;rw[Ke,Ke];have:=rc (ts:=ts);walk_at "n"
  ·skip
   obtain ⟨x,o,rfl⟩:=Ku.mp h;obtain ⟨i,a,rfl⟩:=Ku.mp o;have u:=M i ((hK hg).mp a).1;refine' rn (c:=((aH ts 9)[i]?).getD 0==(i:Int)) (d:=.int (i:Int)) ?aq ?af (λ_=>?ah) ?ab ?ac
   case aq=>kernel_rfl
   case af=>walk_at "t"
   case ah=>walk_at "e"
   case ab=>rfl
   case ac=>rfl
  ·rw[og (p:=λx=>((aH ts 9)[x.toNat]?).getD 0==x)];unfold aB;rw[List.filter_map,KH];rfl
 refine' ed rfl (w3 rfl rfl rfl) ?e1 ?e2
 case e1=>walk_at "e"
 refine nK (λi fr st=>st=[.ctab]/\get (sn "things") fr=Vr (.d (iu ts))/\get (sn "number") fr=Vr (.d (.dct kvs))/\get (sn "rows") fr=Vr (.d (kR rows))/\get (sn "texts") fr=Vr (.d (.lst (ts.map λt=>.str t.row)))/\get (sn "marks") fr=Vr (.d (ew (aH ts 9)))) rfl (w6 rfl (by walk_at "g") (by walk_at "g") (by walk_at "g") (by walk_at "g") (by walk_at "g")) (λj d fr st h r=>?_) λfr st r=>?_
 ·refine W.abs λR O=>?_;obtain ⟨rfl,g1,g2,g3,g4,g5⟩:=r;obtain ⟨i,a,rfl⟩:∃i,eo ts i/\d=.int (i:Int):=by
   obtain ⟨x,o,rfl⟩:=Ku.mp (Ko h);obtain ⟨i,a,rfl⟩:=Ku.mp o;exact ⟨i,(hK hg).mp a,rfl⟩
  obtain ⟨t,b⟩:∃t,ts[i]?=Vr t:=⟨_,Kl (by have:=a.1;walk_at "n")⟩;have H:(ts.map Thing9.d)[i]?=Vr (.lst [.int t.high,.int t.kind,.int t.rights,ew t.inner]):=by rw[Kv,b];rfl
  have x1:bE (.d (.lst [.int t.high,.int t.kind,.int t.rights,ew t.inner])) (.d (.int 1)) [.ctab]=Vr (.d (.int t.kind)):=kX (m:=1) rfl rfl;have x3:bE (.d (.lst [.int t.high,.int t.kind,.int t.rights,ew t.inner])) (.d (.int 3)) [.ctab]=Vr (.d (ew t.inner)):=kX (m:=3) rfl rfl;walk_at "a";refine' xF (c:=(t.kind==4)) (λfr st=>st=[.ctab]/\get (sn "place") fr=Vr (.d (.int (i:Int)))/\get (sn "inner") fr=Vr (.d (ew (inn nu t)))/\get (sn "things") fr=Vr (.d (iu ts))/\get (sn "number") fr=Vr (.d (.dct kvs))/\get (sn "rows") fr=Vr (.d (kR rows))/\get (sn "texts") fr=Vr (.d (.lst (ts.map λt=>.str t.row)))/\get (sn "marks") fr=Vr (.d (ew (aH ts 9)))) ?f1 (λq=>?f2) (λq=>?f3) λfr st r=>?f4
  case f1=>walk_at "t"
  case f2=>
   have q:fP t=true:=q;refine' jc ?g1 ?g2 ?g3 ?g4
   case g1=>kernel_rfl
   case g2=>exact w4 rfl rfl rfl (by decide)
   case g3=>walk_at "e"
   refine nM (l:=t.inner.map .int) (g:=λd=>d.int?.map λx=>D.int (nu x.toNat:Int)) ?_ (λd h=>?_) ?_
   ·rw[Ke];have:=(hg t (Ko b)).inner.1;walk_at "n"
   ·skip
    obtain ⟨x,o,rfl⟩:=Ku.mp h;have J:=iI h9 hg a b q x o;have w:=((hg t (Ko b)).inner.2 x o).1;have T:bE (.d (.dct kvs)) (.d (.int x)) [.ctab]=Vr (.d (.int (nu x.toNat:Int))):=vc (by have:=N.at_ _ J;rw[NB w] at this;exact this);refine gw rfl ?_;walk_at "l"
   ·refine aG (w7 rfl rfl (by walk_at "g") ?_ (by walk_at "g") (by walk_at "g") (w3 (by walk_at "g") (by walk_at "g") (by walk_at "g")));unfold inn;rw[q,Mu];refine aU.trans ?_;rw[show (t.inner.filterMap ((λd:D=>d.int?.map λx=>D.int (nu x.toNat:Int)) ∘ D.int))=_ from dE (f:=λx:Int=>D.int (nu x.toNat:Int))];unfold ew;rw[show cond Vt (t.inner.map λx=>(nu x.toNat:Int)) t.inner=t.inner.map λx=>(nu x.toNat:Int) from rfl,KH];rfl
  case f3=>exact aG (w7 rfl rfl (by walk_at "g") (by unfold inn;rw[show fP t=Vu from q];exact aU) (by walk_at "g") (by walk_at "g") (w3 (by walk_at "g") (by walk_at "g") (by walk_at "g")))
  case f4=>
   obtain ⟨rfl,g0,g6,g1,g2,g3,g4,g5⟩:=r;obtain ⟨p,y,_⟩:=eR (ts:=ts) (n:=9) a.1;obtain ⟨E,C,_⟩:=DQ h9 hg K a y;have F:bE (.d (.dct kvs)) (.d (.int (i:Int))) [.ctab]=Vr (.d (.int (nu i:Int))):=vc (N.at_ i a);have y2:((aH ts 9).map D.int)[i]?=Vr (.int (p:Int)):=by rw[Kv,y];rfl
   have y3:bE (.d (.dct kvs)) (.d (.int (p:Int))) [.ctab]=Vr (.d (.int (nu p:Int))):=vc (N.at_ p E);have y4:bV [.ctab] .NotEq (.d (.int (nu i:Int))) (.d (.int (nu p:Int)))=Vr false:=qG (om (by rw[C]));have y5:(rows.map cA)[nu i]?=Vr (.lst [.str t.row,.bytes (aR (inn nu t))]):=by rw[Kv,K.at_ i t a b];rfl
   have S:(ts.map λt=>D.str t.row)[i]?=Vr (.str t.row):=by rw[Kv,b];rfl
   have P:bI [.ctab] .bytes [.d (ew (inn nu t))]=Vr (.bytes (aR (inn nu t))):=im (eh _) ⟨?_,pF h9 hg K a b⟩;have Q:bV [.ctab] .NotEq (.d (.lst [.str t.row,.bytes (aR (inn nu t))])) (.d (.lst [.str t.row,.bytes (aR (inn nu t))]))=Vr false:=qG wU
   ·refine' dN (x6 (gH ?h1 (gH ?h2 ma))) ?h3
    case h1=>walk_at "t"
    case h2=>walk_at "t"
    case h3=>exact aG (aG (O _ _ (w6 rfl g1 g2 g3 g4 g5)))
   ·have:=(hg t (Ko b)).inner.1;unfold inn;cases fP t
    ·show t.inner.length<=_;walk_at "n"
    ·show (t.inner.map _).length<=_;rw[Ke];walk_at "n"
 ·skip
  obtain ⟨rfl,g1,g2,g3,g4,g5⟩:=r;refine aG ?_;refine' cg ?y1 ?y2
  case y1=>walk_at "e"
  case y2=>exact ⟨_,w3 rfl rfl rfl⟩
end
end
section
set_option linter.all false
theorem Hf {st:List SObj}{b:Array UInt8}{i:Nat}{c:UInt8}(h:b[i]?=Vr c):bE (.d (.bytes b)) (.d (.int (i:Int))) st=Vr (.d (.int (c.toNat:Int))):=by
 show Kj ((Kj Vs (Kj Vs (Kj Vs (Kj Vs (if (0:Int)<=(i:Int) then (b[(i:Int).toNat]?).map λc=>D.int (c.toNat:Int) else Vs))))).map V.d) _=_;rw[if_pos (LC i),KT,h];rfl
theorem IC {st:List SObj}{b:Array UInt8}:cc st (.d (.bytes b))=Vr (decide (b.size≠0)):=rfl
section
variable {α:Type}{x:Res α}{s:St}
theorem W.exn {E:D->List D->St->Prop}(h:W x (λ_ _=>False) E):∃c as s,x=.exn c as s/\E c as s:=by cases x<;>first | exact (y3 _ _ _ ⟨rfl,h⟩) | exact h.elim
theorem W.ofx {Q:α->St->Prop}{E:D->List D->St->Prop}{c:D}{as:List D}(e:x=.exn c as s) (h:E c as s):W x Q E:=e▸h
end
section
variable {k:Nat}{cx:Cx}{s s1 s2:St}{Q:Fl->St->Prop}{E:D->List D->St->Prop}{e a b o:Kf}{p pos ap:Pos}{ss:List Stmt}{n f:Str}{c d:D}{as:List D}{v:V}{op:NA}{args:List Kf}{vs:List V}
theorem nq {α β:Type}{x:Res α}{f:α->St->Res β}(e:x=.exn c as s1):x.bind f=.exn c as s1:=by rw[e];rfl
theorem C9 (d:((mk k).ev cx a).f s=.ok v s1) (e:((mk k).ev cx b).f s1=.exn c as s2):((mk (k+1)).ev cx (.BinOp a op b p)).f s=.exn c as s2:=aK d (nq e)
theorem lq (b:xy (mk k) cx (.Assign [.Name n p] e pos)=lH ((mk k).ev cx e) n p pos) (a:hX e=Vu/\bC (cx.names.lookup n)=Vt) (h:((mk k).ev cx e).f s=.exn c as s1) (q:E c as s1):W (((mk (k+1)).xs cx (.Assign [.Name n p] e pos::ss)).f s) Q E:=by
 refine W.bind (W.ofx (c:=c) (as:=as) (s:=s1) ?_ q);rw[b];exact (if_pos a).trans (nq h)
theorem fX {F1:List (Str×V)}{T1:List SObj}(c:Addr){st:List SObj}(hs:gL (mk k) cx f p args pos=kg (mk k) f p args pos) (b:aO args=Vt) (a:ia cx f=Vr (.gbl c)) (i:ke.contains c=Vt/\cx.inH=Vu) (d:(c==244)=Vu) (g:bM ((mk k).ev cx) args s=.ok vs ⟨F1,T1⟩) (e:ie.contains c=Vu) (h:(mk k).call c vs T1=.ok v ⟨[],st⟩):((mk (k+1)).ev cx (.Call (.Name f p) args [] pos)).f s=.ok v ⟨F1,st⟩:=dH hs b a (Az i d g (fA e h))
theorem pQ {F1:List (Str×V)}{T1:List SObj}(g:Addr){st:List SObj}(hs:gL (mk k) cx f p args pos=kg (mk k) f p args pos) (d:aO args=Vt) (b:ia cx f=Vr (.gbl g)) (l:ke.contains g=Vt/\cx.inH=Vu) (e:(g==244)=Vu) (j:bM ((mk k).ev cx) args s=.ok vs ⟨F1,T1⟩) (i:ie.contains g=Vu) (h:(mk k).call g vs T1=.exn c as ⟨[],st⟩):((mk (k+1)).ev cx (.Call (.Name f p) args [] pos)).f s=.exn c as ⟨F1,st⟩:=by
 show (gL (mk k) cx f p args pos).f s=_;rw[hs];refine (if_pos d).trans (aK (fK b) ?_);refine (if_pos l).trans (aK (s1:=⟨F1,T1⟩) (a:=vs) ?_ ?_)
 ·rw[e];exact j
 ·unfold eW;rw[i];show uc F1 ((mk k).call g vs T1)=_;rw[h];rfl
end
structure Tp (st:List SObj) (tl l:Nat) (os:List Int) (pos:Nat):Prop where
 tape:st[tl]?=Vr (.tape (aR os) l)
 at_:st[l]?=Vr (.list [.int (pos:Int)])
 ok:∀x∈os,bK x
noncomputable abbrev jK (st:List SObj) (l pos:Nat):List SObj:=st.set l (.list [.int (pos:Int)])
theorem Tp.mv {st:List SObj}{tl l:Nat}{a:List Int}{pos p:Nat}(T:Tp st tl l a pos):Tp (jK st l p) tl l a p:=by
 have b:l≠tl:=λe=>by have:=T.at_;rw[e,T.tape] at this;exact SObj.noConfusion (Kd this)
 exact ⟨(LL b).trans T.tape,Mj (Kh.mp T.at_).1,T.ok⟩
theorem Tp.frz {st:List SObj}{a l:Nat}{b:List Int}{pos:Nat}(T:Tp st a l b pos):dQ st a=none:=by
 unfold dQ;rw[T.tape];rfl
theorem AM {a:List Int}{i n:Nat}:iU (aR a) i (i+n)=aR ((a.drop i).take n):=by
 unfold iU aR;rw[Rm,<- Ra,<- TK]
theorem eC {a:List Int}:(aR a).size=a.length:=by unfold aR;rw[Kz,Ke]
theorem GZ {st:List SObj}{b:Array UInt8}(h:b.size<=1000) (h0:b.size≠0):iW st .decode (.d (.bytes b)) [.d (.str (sn "latin-1"))]=Vr (.d (.str (wy b)),st):=if_pos (w3 rfl h h0)
section
variable {k tl l pos:Nat}{cx:Cx}{s s1:St}{os xs rest:List Int}{o a:Kf}{ap p:Pos}{c:Nat}{st:List SObj}{i:Int}
theorem pP {F1:List (Str×V)}{T1:List SObj}(h0:hF o=Vt/\aO [a]=Vt/\(ap.endLine==p.line)=Vt) (r:cx.inH=Vu) (h:bb a=Vs) (n:(ek (mk (k+13)) cx o).f s=.ok (.loc tl) ⟨F1,T1⟩) (T:Tp T1 tl l os pos){ci:Int}(q:ci=(c:Int)) (i:((mk (k+13)).ev cx a).f ⟨F1,T1⟩=.ok (.d (.int ci)) ⟨F1,T1⟩):((mk (k+14)).ev cx (.Call (.Attribute o (sn "read") ap) [a] [] p)).f s=.ok (.d (.bytes (aR ((os.drop pos).take c)))) ⟨F1,jK T1 l (pos+((os.drop pos).take c).length)⟩:=by
 subst q;refine aC λw g=>?_;obtain ⟨v,u,e,rfl,rfl⟩:=(wg (k:=k) (b:=aR os) (c:=(c:Int)) T.at_ (LC _) (LC _)).get;refine g ?_;rw[KT,show ((pos:Int)+(c:Int)).toNat=pos+c by lia,AM,eC] at e;refine aT h0 (by decide:(1:Nat)<29) n ?_;unfold gI;have j:cZ T1 (.loc tl) (sn "read")=none:=by show (T1[tl]?).bind _=_;rw[T.tape];rfl
 have m:hS T1 (.loc tl) (sn "read")=none:=by show Kj Vs ((T1[tl]?).bind _)=_;rw[T.tape];rfl
 have t:qL T1 (.loc tl) (sn "read")=Vr (aR os,l):=(if_pos rfl).trans (by show (T1[tl]?).bind _=_;rw[T.tape];rfl);rw[j,m,t];refine (if_pos (show cD [a]=Vt from ?_)).trans ((if_pos r).trans (aK (aI h i aL) ?_))
 ·unfold cD;rw[TO,h];rfl
 ·show uc F1 (uI (mk (k+12)) (aR os) l (.int (c:Int)) T1)=_;rw[e];rfl
end
noncomputable abbrev Aq:Str:=sn "not enough data in stream to read uint1"
noncomputable abbrev CY (a:Nat):List (Str×V):=aY (sn "f") (.loc a) []
section
variable {k tl l pos:Nat}{os xs rest:List Int}{st:List SObj}{i:Int}
theorem xQ (T:Tp st tl l os pos) (h:os[pos]?=Vr i):(mk (k+18)).call 148 [.loc tl] st=.ok (.d (.int i)) ⟨[],jK st l (pos+1)⟩:=by
 have g:(os.drop pos).take 1=[i]:=by
  obtain ⟨f,rfl⟩:=Kh.mp h;rw[Mp f];rfl
 have u:=T.ok i (Ko h);have b:W ((mk (k+18)).call 148 [.loc tl] st) (λv s=>v=.d (.int i)/\s=⟨[],jK st l (pos+1)⟩) noE:=by
  refine bX (fd:=aW 148) (us:=[.loc tl]) (fr:=CY tl) rfl rfl rfl rfl rfl ?_;have n:(aR [i])[0]?=Vr i.toNat.toUInt8:=rfl;have w:bE (.d (.bytes (aR [i]))) (.d (.int 0)) (jK st l (pos+[i].length))=Vr (.d (.int i)):=(Hf (i:=0) n).trans (by rw[hG u]);have x:cc (jK st l (pos+[i].length)) (.d (.bytes (aR [i])))=Vr true:=rfl;have r:=λcx o a ap p f j t m q=>pP (k:=k+2) (cx:=cx) (s:=⟨CY tl,st⟩) (F1:=CY tl) (T1:=st) (c:=1) (o:=o) (a:=a) (ap:=ap) (p:=p) f j t m T (ci:=1) rfl q;rw[g] at r;refine' bT ?a1 ?a2 (r _ _ _ _ _ ?a3 ?a4 ?a5 ?a6 ?a7) ?a8
  case a1=>kernel_rfl
  case a2=>exact ⟨rfl,rfl⟩
  case a3=>exact w3 rfl rfl rfl
  case a4=>rfl
  case a5=>rfl
  case a6=>walk_at "e"
  case a7=>walk_at "e"
  refine' lJ ?b1 (cg ?b2 ?b3)
  case b1=>walk_at "t"
  case b2=>walk_at "e"
  case b3=>exact ⟨rfl,rfl⟩
 obtain ⟨v,s,e,rfl,rfl⟩:=b.get;exact e
theorem xR (T:Tp st tl l os pos) (h:pos=os.length):(mk (k+18)).call 148 [.loc tl] st=.exn (.bi .valueError) [.str Aq] ⟨[],jK st l pos⟩:=by
 have i:(os.drop pos).take 1=[]:=by rw[h,SV];rfl
 have b:W ((mk (k+18)).call 148 [.loc tl] st) (λ_ _=>False) (λc g s=>c=.bi .valueError/\g=[.str Aq]/\s=⟨[],jK st l pos⟩):=by
  refine bX (fd:=aW 148) (us:=[.loc tl]) (fr:=CY tl) rfl rfl rfl rfl rfl ?_;have v:cc (jK st l (pos+([]:List Int).length)) (.d (.bytes (aR [])))=Vr false:=rfl;have r:=λcx o a ap p n j t m q=>pP (k:=k+2) (cx:=cx) (s:=⟨CY tl,st⟩) (F1:=CY tl) (T1:=st) (c:=1) (o:=o) (a:=a) (ap:=ap) (p:=p) n j t m T (ci:=1) rfl q;rw[i] at r;refine' bT ?a1 ?a2 (r _ _ _ _ _ ?a3 ?a4 ?a5 ?a6 ?a7) ?a8
  case a1=>kernel_rfl
  case a2=>exact ⟨rfl,rfl⟩
  case a3=>exact w3 rfl rfl rfl
  case a4=>rfl
  case a5=>rfl
  case a6=>walk_at "e"
  case a7=>walk_at "e"
  refine' dN ?b1 (aG (oD ?b2 ?b3 ?b4 ?b5 ?b6 ?b7))
  case b1=>walk_at "t"
  case b2=>exact w3 rfl rfl nofun
  case b3=>kernel_rfl
  case b4=>walk_at "e"
  case b5=>walk_at "d"
  case b6=>decide
  case b7=>exact w3 rfl rfl rfl
 refine aC λu f=>?_;obtain ⟨c,g,s,e,rfl,rfl,rfl⟩:=b.exn;refine f ?_;exact e
theorem Ee (T:Tp st tl l os pos) (h:os.drop pos=(xs.length:Int)::(xs++rest)):(mk (k+24)).call 162 [.loc tl] st=.ok (.d (.bytes (aR xs))) ⟨[],jK st l (pos+1+xs.length)⟩:=by
 have q:os[pos]?=Vr (xs.length:Int):=by rw[<- Tg,h];rfl
 have g:(os.drop (pos+1)).take xs.length=xs:=by rw[<- Tq,h,Tr,To]
 have b:W ((mk (k+24)).call 162 [.loc tl] st) (λv s=>v=.d (.bytes (aR xs))/\s=⟨[],jK st l (pos+1+xs.length)⟩) noE:=by
  refine bX (fd:=aW 162) (us:=[.loc tl]) (fr:=CY tl) rfl rfl rfl rfl rfl ?_;have u:=xQ (k:=k+3) T q;have w:=T.frz;refine' bT ?a1 ?a2 (fX 148 ?a3 ?a4 ?a5 ?a6 ?a7 ?a8 ?a9 ?aa) ?ab
  case a1=>kernel_rfl
  case a2=>exact ⟨rfl,rfl⟩
  case a3=>rfl
  case a4=>rfl
  case a5=>kernel_rfl
  case a6=>exact ⟨rfl,rfl⟩
  case a7=>rfl
  case a8=>walk_at "e"
  case a9=>kernel_rfl
  case aa=>exact u
  have z:bV (jK st l (pos+1)) .GtE (.d (.int (xs.length:Int))) (.d (.int 0))=Vr true:=by
   show Vr (decide _)=_;rw[decide_eq_true (LC _)]
  have r:=λcx fr o a ap p m i t j n=>pP (k:=k+6) (cx:=cx) (s:=⟨fr,jK st l (pos+1)⟩) (F1:=fr) (T1:=jK st l (pos+1)) (c:=xs.length) (o:=o) (a:=a) (ap:=ap) (p:=p) m i t j T.mv rfl n;rw[g] at r;refine' qe ?b1 (bT ?b2 ?b3 (r _ _ _ _ _ _ ?b4 ?b5 ?b6 ?b7 ?b8) ?b9)
  ·walk_at "t"
  ·kernel_rfl
  ·exact ⟨rfl,rfl⟩
  ·exact w3 rfl rfl rfl
  ·rfl
  ·rfl
  ·walk_at "e"
  ·walk_at "e"
  have y:bI (jK (jK st l (pos+1)) l (pos+1+xs.length)) .len [.d (.bytes (aR xs))]=Vr (.int (xs.length:Int)):=vD.trans (by rw[eC]);have x:bV (jK (jK st l (pos+1)) l (pos+1+xs.length)) .Eq (.d (.int (xs.length:Int))) (.d (.int (xs.length:Int)))=Vr true:=by
   rw[kK,beq_self_eq_true]
  refine' lJ ?c1 (cg ?c2 ?c3)
  case c1=>walk_at "t"
  case c2=>walk_at "e"
  case c3=>exact ⟨rfl,congrArg (St.mk []) (Rn ..)⟩
 refine aC λA f=>?_;obtain ⟨v,s,e,rfl,rfl⟩:=b.get;refine f ?_;exact e
theorem GG (T:Tp st tl l os pos) (h:os.drop pos=(xs.length:Int)::(xs++rest)) (hz:xs.length<=1000/\xs≠[]):(mk (k+24)).call 155 [.loc tl] st=.ok (.d (.str (wy (aR xs)))) ⟨[],jK st l (pos+1+xs.length)⟩:=by
 have q:os[pos]?=Vr (xs.length:Int):=by rw[<- Tg,h];rfl
 have g:(os.drop (pos+1)).take xs.length=xs:=by rw[<- Tq,h,Tr,To]
 have b:W ((mk (k+24)).call 155 [.loc tl] st) (λv s=>v=.d (.str (wy (aR xs)))/\s=⟨[],jK st l (pos+1+xs.length)⟩) noE:=by
  refine bX (fd:=aW 155) (us:=[.loc tl]) (fr:=CY tl) rfl rfl rfl rfl rfl ?_;have u:=xQ (k:=k+3) T q;have w:=T.frz;refine' bT ?a1 ?a2 (fX 148 ?a3 ?a4 ?a5 ?a6 ?a7 ?a8 ?a9 ?aa) ?ab
  case a1=>kernel_rfl
  case a2=>exact ⟨rfl,rfl⟩
  case a3=>rfl
  case a4=>rfl
  case a5=>kernel_rfl
  case a6=>exact ⟨rfl,rfl⟩
  case a7=>rfl
  case a8=>walk_at "e"
  case a9=>kernel_rfl
  case aa=>exact u
  have z:bV (jK st l (pos+1)) .GtE (.d (.int (xs.length:Int))) (.d (.int 0))=Vr true:=by
   show Vr (decide _)=_;rw[decide_eq_true (LC _)]
  have r:=λcx fr o a ap p m i t j n=>pP (k:=k+6) (cx:=cx) (s:=⟨fr,jK st l (pos+1)⟩) (F1:=fr) (T1:=jK st l (pos+1)) (c:=xs.length) (o:=o) (a:=a) (ap:=ap) (p:=p) m i t j T.mv rfl n;rw[g] at r;refine' qe ?b1 (bT ?b2 ?b3 (r _ _ _ _ _ _ ?b4 ?b5 ?b6 ?b7 ?b8) ?b9)
  case b1=>walk_at "t"
  case b2=>kernel_rfl
  case b3=>exact ⟨rfl,rfl⟩
  case b4=>exact w3 rfl rfl rfl
  case b5=>rfl
  case b6=>rfl
  case b7=>walk_at "e"
  case b8=>walk_at "e"
  have y:bI (jK (jK st l (pos+1)) l (pos+1+xs.length)) .len [.d (.bytes (aR xs))]=Vr (.int (xs.length:Int)):=vD.trans (by rw[eC]);have x:bV (jK (jK st l (pos+1)) l (pos+1+xs.length)) .Eq (.d (.int (xs.length:Int))) (.d (.int (xs.length:Int)))=Vr true:=by
   rw[kK,beq_self_eq_true]
  refine' lJ ?c1 (cg ?c2 ?c3)
  case c1=>walk_at "t"
  case c2=>
   refine' aT (w3 rfl rfl rfl) ?d1 ?d2 (aS (bm:=.decode) ?d3 ?d4 rfl (aI rfl (ry ?d5) aL) (GZ ?d6 ?d7))
   case d1=>decide
   case d2=>walk_at "e"
   case d3=>rfl
   case d4=>kernel_rfl
   case d5=>exact Ky rfl
   case d6=>rw[eC];exact hz.1
   case d7=>rw[eC];exact λe=>hz.2 (LW e)
  case c3=>exact ⟨rfl,congrArg (St.mk []) (Rn ..)⟩
 refine aC λA f=>?_;obtain ⟨v,s,e,rfl,rfl⟩:=b.get;refine f ?_;exact e
end
end
section
set_option linter.all false
section
variable {k:Nat}{cx:Cx}{s s1:St}{f:Str}{p pos:Pos}{args:List Kf}{vs:List V}{v:V}{st:List SObj}
theorem Av {F1:List (Str×V)}{T1:List SObj}(hs:gL (mk k) cx f p args pos=kg (mk k) f p args pos) (c:aO args=Vt) (d:ia cx f=Vr (.gbl 244)) (e:cx.inH=Vu) (b:bM (xZ (mk k) cx) args s=.ok vs ⟨F1,T1⟩) (h:(mk k).call 244 vs T1=.ok v ⟨[],st⟩):((mk (k+1)).ev cx (.Call (.Name f p) args [] pos)).f s=.ok v ⟨F1,st⟩:=dH hs c d ((if_pos ⟨rfl,e⟩).trans (aK (s1:=⟨F1,T1⟩) (a:=vs) b (fA rfl h)))
theorem zT {a:List (Str×V)}{b:List SObj}{n:Str}(h:zg cx n=Vt){d:D}(c:get n a=Vr (.d d)):(xZ (mk (k+1)) cx (.Name n p)).f ⟨a,b⟩=.ok (.d d) ⟨a,b⟩:=fY h c
end
theorem nP {k:Nat}{b:Array UInt8}:(mk (k+12)).call 244 [.d (.bytes b),.loc 1] [.ctab,.list [.int 0]]=.ok (.loc 2) ⟨[],[.ctab,.list [.int 0],.tape b 1]⟩:=rfl
noncomputable def Thing9.mode (t:Thing9):Int:=t.high*65536+t.kind*4096+t.rights
noncomputable def Thing9.gd (t:Thing9):D:=.lst [.int t.mode,.bytes (aR t.inner),.bool Vt]
noncomputable def wv (l:List Int):Int:=l.foldl (λm x=>256*m+x) 0
theorem yZ {t:Thing9}(h:t.Good):wv (t.oct.take 3)=t.mode:=by
 show 256*(256*(256*0+t.high)+(t.kind*16+Lo t.rights 256))+Ln t.rights 256=t.high*65536+t.kind*4096+t.rights;have:=Int.fmod_add_mul_fdiv t.rights 256;lia
theorem xt {t:Thing9}(h:t.Good):∀j,j<3->cM 256/\cM (wv (t.oct.take j)):=λj c=>by
 have a:=h.oct.2;have d:=a t.high (.head _);have b:=a _ (.tail _ (.head _));unfold bK at d b;refine ⟨by unfold cM;decide,?_⟩;unfold cM
 match j,c with
 | 0,_=>show SM 0<_;decide
 | 1,_=>show SM (256*0+t.high)<_;lia
 | 2,_=>show SM (256*(256*0+t.high)+(t.kind*16+Lo t.rights 256))<_;lia
theorem Bo {l:List Int}{j:Nat}{x:Int}(h:l[j]?=Vr x):wv (l.take (j+1))=256*wv (l.take j)+x:=by
 unfold wv;rw[Le,h,P0];rfl
theorem Ck {ts:List Thing9}{i:Nat}{t:Thing9}(h:ts[i]?=Vr t):octs ts=octs (ts.take i)++(t.oct++octs (ts.drop (i+1))):=by
 obtain ⟨a,rfl⟩:=Kh.mp h
 conv=>lhs;rw[<- NW i ts,Mp a]
 unfold octs;rw[M5,NP]
noncomputable abbrev sr (b:List Int) (pos:Nat) (a:List D):List SObj:=[.ctab,.list [.int (pos:Int)],.tape (aR b) 1,.list a]
noncomputable abbrev qg:D:=.tup [.str Aq]
theorem qm {k:Nat}{ts:List Thing9}(J:ts.length=9) (q:∀t∈ts,t.Good):W ((mk (k+40)).call 263 [.d (.bytes (aR (octs ts)))] [.ctab]) (λv s=>∃d,v=.d d/\(dt s.st).isSome=Vt/\d=.tup [.lst (ts.map Thing9.gd),qg]) noE:=by
 refine bX (fd:=aW 263) (us:=[.d (.bytes (aR (octs ts)))]) (fr:=aY (sn "octets") (.d (.bytes (aR (octs ts)))) []) rfl rfl rfl rfl rfl ?_;have ok:=(ky q).2;refine' bT ?a1 ?a2 (Av ?a3 ?a4 ?a5 ?a6 (aI ?a7 (zT ?a8 ?a9) (aI ?ac (dT rfl (aI rfl dY aL) rfl) aL)) nP) ?aj
 ·kernel_rfl
 ·exact ⟨rfl,rfl⟩
 ·rfl
 ·rfl
 ·kernel_rfl
 ·rfl
 ·rfl
 ·kernel_rfl
 ·walk_at "g"
 ·rfl
 refine' ee ?b1 ?b2 (dT rfl aL rfl) ?b3
 ·kernel_rfl
 ·exact ⟨rfl,rfl⟩
 refine' gQ (λj s=>∃i,i+j=9/\s.st=sr (octs ts) (octs (ts.take i)).length ((ts.take i).map Thing9.gd)/\get (sn "tape") s.fr=Vr (.loc 2)/\get (sn "given") s.fr=Vr (.loc 3)) 9 rfl (by decide) ⟨0,w4 rfl rfl ?c1 ?c2⟩ (λR Z j s z O F=>?c3)
 case c1=>walk_at "g"
 case c2=>exact aU
 case c3=>
  obtain ⟨i,C,n,H,E⟩:=F;obtain ⟨fr,st⟩:=s;have n:st=_:=n;subst n;refine y2 Vt _ (w3 si (λ_=>?_) (λe=>nomatch e));have T:Tp (sr (octs ts) (octs (ts.take i)).length ((ts.take i).map Thing9.gd)) 2 1 (octs ts) (octs (ts.take i)).length:=⟨rfl,rfl,ok⟩
  refine' qc ⟨rfl,rfl⟩ ?d1
  case d1=>
   walk_at "a";cases a:ts[i]? with
   | some t=>
    have G:=q t (Ko a);have p:=Ck a;have L:(sr (octs ts) 0 ((ts.take i).map Thing9.gd)).length=4:=rfl;have g:∀j x,t.oct[j]?=Vr x->(octs ts)[(octs (ts.take i)).length+j]?=Vr x:=λj x f=>by
     rw[p,LB (OV _ _),Rm,KB (Kh.mp f).1];exact f
    refine' ed rfl (w3 rfl rfl rfl) ?e1 ?e2
    case e1=>walk_at "e"
    refine eB (N:=3) (λj fr st=>st=sr (octs ts) ((octs (ts.take i)).length+j) ((ts.take i).map Thing9.gd)/\get (sn "mode") fr=Vr (.d (.int (wv (t.oct.take j))))/\get (sn "tape") fr=Vr (.loc 2)/\get (sn "given") fr=Vr (.loc 3)) (by decide) rfl (w4 rfl (by exact aU) (by walk_at "g") (by walk_at "g")) (λj fr st y b=>?_) λfr st b=>?_
    ·refine W.abs λM o=>?_;obtain ⟨rfl,q1,q2,q3⟩:=b;obtain ⟨x,f⟩:∃x,t.oct[j]?=Vr x:=⟨_,Kl (by show j<_+4;lia)⟩
     have A:Tp (sr (octs ts) ((octs (ts.take i)).length+j) ((ts.take i).map Thing9.gd)) 2 1 (octs ts) ((octs (ts.take i)).length+j):=⟨rfl,rfl,ok⟩
     have r:=A.frz;have u:=xQ (k:=k+12) A (g j x f);have h:=xt G j y;refine' bT ?f1 ?f2 (ij (ij dY ?f3 (Ef h)) (fX 148 ?f4 ?f5 ?f6 ?f7 ?f8 ?f9 ?ar ?af) HQ) (aG ?ae)
     case f1=>kernel_rfl
     case f2=>exact ⟨rfl,rfl⟩
     case f3=>walk_at "e"
     case f4=>rfl
     case f5=>rfl
     case f6=>kernel_rfl
     case f7=>exact ⟨rfl,rfl⟩
     case f8=>rfl
     case f9=>walk_at "e"
     case ar=>kernel_rfl
     case af=>exact u
     case ae=>
      refine o _ _ (w4 rfl ?_ (by walk_at "g") (by walk_at "g"));rw[Bo f];exact aU
    ·obtain ⟨rfl,q1,q2,q3⟩:=b;rw[yZ G] at q1;have w:Tp (sr (octs ts) ((octs (ts.take i)).length+3) ((ts.take i).map Thing9.gd)) 2 1 (octs ts) ((octs (ts.take i)).length+3):=⟨rfl,rfl,ok⟩
     have r:=w.frz;have l:(octs ts).drop ((octs (ts.take i)).length+3)=(t.inner.length:Int)::(t.inner++octs (ts.drop (i+1))):=by
      rw[p,<- Tw,QR];rfl
     have u:=Ee (k:=k+7) w l;have c:(octs (ts.take i)).length+3+1+t.inner.length=(octs (ts.take (i+1))).length:=by
      rw[nW a,Km];show _=_+(t.inner.length+4);lia
     have m:(ts.take (i+1)).map Thing9.gd=(ts.take i).map Thing9.gd++[t.gd]:=by rw[Le,a,KD];rfl
     refine' aG (bT ?h1 ?h2 (fX 162 ?h3 ?h4 ?h5 ?h6 ?h7 ?h8 ?h9 ?h0) (aG ?ai))
     case h1=>kernel_rfl
     case h2=>exact ⟨rfl,rfl⟩
     case h3=>rfl
     case h4=>rfl
     case h5=>kernel_rfl
     case h6=>exact ⟨rfl,rfl⟩
     case h7=>rfl
     case h8=>walk_at "e"
     case h9=>kernel_rfl
     case h0=>exact u
     rw[c];have K:bI (sr (octs ts) (octs (ts.take (i+1))).length ((ts.take i).map Thing9.gd)) .isinstance [.d (.bytes (aR t.inner)),.d (.bi .bytes)]=Vr (.bool Vt):=rfl;have z2:iW (sr (octs ts) (octs (ts.take (i+1))).length ((ts.take i).map Thing9.gd)) .append (.loc 3) [.d t.gd]=Vr (.d .non,sr (octs ts) (octs (ts.take (i+1))).length ((ts.take (i+1)).map Thing9.gd)):=by
      rw[m];exact cv rfl (by rw[Ke,Lv];lia)
     refine' cb rfl (aT (w3 rfl rfl rfl) ?i1 ?i2 (aS (bm:=.append) ?i3 ?i4 rfl (aI rfl ?i5 aL) ?i7)) (aG ?i6)
     case i1=>decide
     case i2=>walk_at "e"
     case i3=>rfl
     case i4=>kernel_rfl
     case i5=>walk_at "e"
     case i7=>exact z2
     case i6=>exact z _ _ ⟨j-1,by have:=(Kh.mp a).1;lia,i+1,w4 (by have:=(Kh.mp a).1;lia) rfl (by walk_at "g") (by walk_at "g")⟩
   | none=>
    have I:=K8.mp a;rw[Mi I] at T H E ⊢;refine' ed rfl (w3 rfl rfl rfl) ?k1 ?k2
    case k1=>walk_at "e"
    refine eB (N:=3) (λj fr st=>j=0/\st=sr (octs ts) (octs ts).length (ts.map Thing9.gd)/\get (sn "mode") fr=Vr (.d (.int 0))/\get (sn "tape") fr=Vr (.loc 2)/\get (sn "given") fr=Vr (.loc 3)) (by decide) rfl (w5 rfl rfl (by exact aU) (by walk_at "g") (by walk_at "g")) (λj fr st y b=>?_) λfr st b=>nomatch b.1;obtain ⟨rfl,rfl,q1,q2,q3⟩:=b;have r:=T.frz;have u:=xR (k:=k+12) T rfl;have h:cM 256/\cM 0:=by unfold cM;decide
    refine' lq ?l1 ?l2 (C9 (ij dY ?l3 (Ef h)) (pQ 148 ?l4 ?l5 ?l6 ?l7 ?l8 ?l9 ?aa ?ao)) ?aq
    case l1=>kernel_rfl
    case l2=>exact ⟨rfl,rfl⟩
    case l3=>walk_at "e"
    case l4=>rfl
    case l5=>rfl
    case l6=>kernel_rfl
    case l7=>exact ⟨rfl,rfl⟩
    case l8=>rfl
    case l9=>walk_at "e"
    case aa=>kernel_rfl
    case ao=>exact u
    refine' oH (fQ (d:=.bi .valueError) ?m1) ?m2 ?m3 (cg (oo ?m4 (aI ?m5 (dR ?m6 ?m7 ?m8) (aI ?m9 (eJ ?av (gy ?ag ?ab) ?am) aL)) ?ak) ?ah)
    case m1=>kernel_rfl
    case m2=>kernel_rfl
    case m3=>kernel_rfl
    case m4=>rfl
    case m5=>rfl
    case m6=>kernel_rfl
    case m7=>walk_at "g"
    case m8=>rfl
    case m9=>rfl
    case av=>rfl
    case ag=>kernel_rfl
    case ab=>walk_at "g"
    case am=>rfl
    case ak=>walk_at "p"
    case ah=>exact z _ _ ⟨_,w3 rfl rfl rfl⟩
end
section
set_option linter.all false
theorem EK {k a l pos:Nat}{f:List Int}{st:List SObj}(T:Tp st a l f pos) (h:pos=f.length):(mk (k+24)).call 155 [.loc a] st=.exn (.bi .valueError) [.str Aq] ⟨[],jK st l pos⟩:=by
 have b:W ((mk (k+24)).call 155 [.loc a] st) (λ_ _=>False) (λc g s=>c=.bi .valueError/\g=[.str Aq]/\s=⟨[],jK st l pos⟩):=by
  refine bX (fd:=aW 155) (us:=[.loc a]) (fr:=CY a) rfl rfl rfl rfl rfl ?_;have u:=xR (k:=k+3) T h;have i:=T.frz;refine' lq ?a1 ?a2 (pQ 148 ?a3 ?a4 ?a5 ?a6 ?a7 ?a8 ?a9 ?ab) ?aa
  case a1=>kernel_rfl
  case a2=>exact ⟨rfl,rfl⟩
  case a3=>rfl
  case a4=>rfl
  case a5=>kernel_rfl
  case a6=>exact ⟨rfl,rfl⟩
  case a7=>rfl
  case a8=>walk_at "e"
  case a9=>kernel_rfl
  case ab=>exact u
  case aa=>exact w3 rfl rfl rfl
 refine aC λj d=>?_;obtain ⟨c,g,s,e,rfl,rfl,rfl⟩:=b.exn;refine d ?_;exact e
theorem zo {s:Str}(h:∀c∈s.cps.toList,c<256):wy (aR (gV s))=s:=by
 unfold wy aR gV;rw[KH,List.map_toArray,KH];have:s.cps.toList.map ((λc:UInt8=>c.toNat) ∘ ((λi:Int=>i.toNat.toUInt8) ∘ λc:Nat=>(c:Int)))=s.cps.toList:=(LN λc a=>by
  show ((c:Int).toNat.toUInt8).toNat=id c;rw[KT,Q0,RT,Qn (h c a)];rfl).trans (N6 _)
 rw[this]
theorem AX {b:Array UInt8}:aR (eX b)=b:=by
 unfold aR eX;rw[KH];have:b.toList.map ((λi:Int=>i.toNat.toUInt8) ∘ λc:UInt8=>(c.toNat:Int))=b.toList:=(LN λc a=>by
  show ((c.toNat:Int).toNat.toUInt8)=id c;rw[KT,Q0];exact UInt8.ofNat_toNat).trans (N6 _)
 rw[this]
theorem yM {rs:List Row}{i:Nat}{r:Row}(h:rs[i]?=Vr r):octs2 rs=octs2 (rs.take i)++(rowO r++octs2 (rs.drop (i+1))):=by
 obtain ⟨a,rfl⟩:=Kh.mp h
 conv=>lhs;rw[<- NW i rs,Mp a]
 unfold octs2;rw[M5,NP]
theorem v9 {k:Nat}{rs:List Row}(H:rs.length<=9) (n:∀r∈rs,RowOk r/\r.1.cps.size≠0):W ((mk (k+40)).call 275 [.d (.bytes (aR (octs2 rs)))] [.ctab]) (λv s=>∃d,v=.d d/\(dt s.st).isSome=Vt/\d=.tup [kR rs,qg]) noE:=by
 refine bX (fd:=aW 275) (us:=[.d (.bytes (aR (octs2 rs)))]) (fr:=aY (sn "octets") (.d (.bytes (aR (octs2 rs)))) []) rfl rfl rfl rfl rfl ?_;have ok:=(jm λr F=>(n r F).1).2;refine' bT ?a1 ?a2 (Av ?a3 ?a4 ?a5 ?a6 (aI ?a7 (zT ?a8 ?a9) (aI ?ai (dT rfl (aI rfl dY aL) rfl) aL)) nP) ?aj
 ·kernel_rfl
 ·exact ⟨rfl,rfl⟩
 ·rfl
 ·rfl
 ·kernel_rfl
 ·rfl
 ·rfl
 ·kernel_rfl
 ·walk_at "g"
 ·rfl
 refine' ee ?b1 ?b2 (dT rfl aL rfl) ?b3
 ·kernel_rfl
 ·exact ⟨rfl,rfl⟩
 refine' uk (λj s=>∃i,i+j=rs.length/\s.st=sr (octs2 rs) (octs2 (rs.take i)).length ((rs.take i).map cA)/\get (sn "tape") s.fr=Vr (.loc 2)/\get (sn "rows") s.fr=Vr (.loc 3)) rs.length rfl (by walk_at "n") ⟨0,w4 (L2 _) rfl ?c1 ?c2⟩ (λj s C=>?c3)
 ·walk_at "g"
 ·exact aU
 ·
  obtain ⟨i,x,l,E,z⟩:=C;obtain ⟨fr,st⟩:=s;have l:st=_:=l;subst l;refine y2 Vt _ (w3 si (λ_=>?_) (λe=>nomatch e));have T:Tp (sr (octs2 rs) (octs2 (rs.take i)).length ((rs.take i).map cA)) 2 1 (octs2 rs) (octs2 (rs.take i)).length:=⟨rfl,rfl,ok⟩
  have y:=T.frz;refine' qc ⟨rfl,rfl⟩ ?d1
  case d1=>
   cases a:rs[i]? with
   | some r=>
    have p:=(Kh.mp a).1;obtain ⟨G,A⟩:=n r (Ko a);have w:=yM a;have h:(gV r.1).length=r.1.cps.size:=by unfold gV;rw[Ke,KN]
    have q:(eX r.2).length=r.2.size:=by unfold eX;rw[Ke,KN]
    have c:(octs2 rs).drop (octs2 (rs.take i)).length=((gV r.1).length:Int)::(gV r.1++([(r.2.size:Int)]++(eX r.2++octs2 (rs.drop (i+1))))):=by
     rw[w,QR,h];unfold rowO;rw[KW,KW,KW];rfl
    have u:=GG (k:=k+9) T c ⟨by have:=G.len;walk_at "n",λe=>A (by rw[<- h,e];rfl)⟩;rw[zo G.chars] at u;have t:Tp (sr (octs2 rs) ((octs2 (rs.take i)).length+1+(gV r.1).length) ((rs.take i).map cA)) 2 1 (octs2 rs) ((octs2 (rs.take i)).length+1+(gV r.1).length):=⟨rfl,rfl,ok⟩
    have m:=t.frz;have f:(octs2 rs).drop ((octs2 (rs.take i)).length+1+(gV r.1).length)=((eX r.2).length:Int)::(eX r.2++octs2 (rs.drop (i+1))):=by
     rw[Nat.add_assoc,<- Tw,c,RH 1,List.drop_succ_cons,QR,q];rfl
    have o:=Ee (k:=k+8) t f;rw[AX] at o;have b:(octs2 (rs.take i)).length+1+(gV r.1).length+1+(eX r.2).length=(octs2 (rs.take (i+1))).length:=by
     rw[md a,Km];unfold rowO;rw[Km,Km,Km];show _=_+(1+_+1+_);walk_at "n"
    have g:(rs.take (i+1)).map cA=(rs.take i).map cA++[.lst [.str r.1,.bytes r.2]]:=by rw[Le,a,KD];rfl
    refine' bT ?f1 ?f2 (fX 155 ?f4 ?f5 ?f6 ?f7 ?f8 ?f9 ?ae ?ao) (bT ?h1 ?h2 (fX 162 ?h3 ?h4 ?h5 ?h6 ?h7 ?h8 ?h9 ?h0) (aG ?ag))
    case f1=>kernel_rfl
    case f2=>exact ⟨rfl,rfl⟩
    case f4=>rfl
    case f5=>rfl
    case f6=>kernel_rfl
    case f7=>exact ⟨rfl,rfl⟩
    case f8=>rfl
    case f9=>walk_at "e"
    case ae=>kernel_rfl
    case ao=>exact u
    case h1=>kernel_rfl
    case h2=>exact ⟨rfl,rfl⟩
    case h3=>rfl
    case h4=>rfl
    case h5=>kernel_rfl
    case h6=>exact ⟨rfl,rfl⟩
    case h7=>rfl
    case h8=>exact aI rfl (ka rfl (by walk_at "g") m) aL
    case h9=>kernel_rfl
    case h0=>exact o
    rw[b];have z2:iW (sr (octs2 rs) (octs2 (rs.take (i+1))).length ((rs.take i).map cA)) .append (.loc 3) [.d (.lst [.str r.1,.bytes r.2])]=Vr (.d .non,sr (octs2 rs) (octs2 (rs.take (i+1))).length ((rs.take (i+1)).map cA)):=by
     rw[g];exact cv rfl (by rw[Ke,Lv];walk_at "n")
    refine' cb rfl (aT (w3 rfl rfl rfl) ?i1 ?i2 (aS (bm:=.append) ?i3 ?i4 rfl (aI rfl ?i5 aL) ?i7)) (aG ?i6)
    case i1=>decide
    case i2=>walk_at "e"
    case i3=>rfl
    case i4=>kernel_rfl
    case i5=>walk_at "e"
    case i7=>exact z2
    case i6=>exact ⟨j-1,by walk_at "n",i+1,w4 (by walk_at "n") rfl (by walk_at "g") (by walk_at "g")⟩
   | none=>
    have p:=K8.mp a;rw[Mi p] at T E z y ⊢;have u:=EK (k:=k+9) T rfl;refine' lq ?l1 ?l2 (pQ 155 ?l4 ?l5 ?l6 ?l7 ?l8 ?l9 ?aa ?ab) ?ac
    case l1=>kernel_rfl
    case l2=>exact ⟨rfl,rfl⟩
    case l4=>rfl
    case l5=>rfl
    case l6=>kernel_rfl
    case l7=>exact ⟨rfl,rfl⟩
    case l8=>rfl
    case l9=>walk_at "e"
    case aa=>kernel_rfl
    case ab=>exact u
    refine' oH (fQ (d:=.bi .valueError) ?m1) ?m2 ?m3 (cg (oo ?m4 (aI ?m5 (dR ?m6 ?m7 ?m8) (aI ?m9 (eJ ?ak (gy ?aq ?ah) ?ar) aL)) ?am) ?af)
    case m1=>kernel_rfl
    case m2=>kernel_rfl
    case m3=>kernel_rfl
    case m4=>rfl
    case m5=>rfl
    case m6=>kernel_rfl
    case m7=>walk_at "g"
    case m8=>rfl
    case m9=>rfl
    case ak=>rfl
    case aq=>kernel_rfl
    case ah=>walk_at "g"
    case ar=>rfl
    case am=>walk_at "p"
    case af=>exact ⟨_,w3 rfl rfl rfl⟩
end
section
set_option linter.all false
theorem Dy {x r b:Nat}(c:r<4096) (a:b<4096):(4096*x+r)&&& b=r&&& b:=by
 refine R7 λj=>?_;rw[QG,QG,Ni x (i:=12) c];by_cases h:j<12
 ·rw[if_pos h]
 ·rw[if_neg h,Nat.testBit_lt_two_pow (x:=b) (i:=j) (L6 a (Nat.pow_le_pow_right (n:=2) (by decide) (ML h))),QU,QU]
theorem Bh {x r:Nat}(a:r<4096):(4096*x+r)&&& 61440=4096*(x % 16):=by
 refine R7 λj=>?_;rw[QG,Ni x (i:=12) a,show (61440:Nat)=2 ^ 12*15+0 from rfl,Ni 15 (i:=12) (by decide),show 4096*(x % 16)=2 ^ 12*(x % 16)+0 from rfl,Ni (x % 16) (i:=12) (by decide)];by_cases h:j<12
 ·rw[if_pos h,if_pos h,if_pos h,Nat.zero_testBit,QU]
 ·rw[if_neg h,if_neg h,if_neg h,show x % 16=x % 2 ^ 4 from rfl,Nat.testBit_mod_two_pow,show (15:Nat)=2 ^ 4-1 from rfl,Nat.testBit_two_pow_sub_one,Bool.and_comm]
noncomputable def AR (r c e a g h f b:Nat):Bool:=(λd y=>
 cond (Ty (Nv (Q1 r a) a) (Un 4 d)) Vu (cond (Ty (Nv (Q1 r g) g) (Nv (SQ (Um d 2) 2) 1)) Vu (Nv (Uo (SQ d 2) (Uj 2 (SQ y 2))) (cond (Nv (Q1 r h) h) 3 (cond (Nv (Q1 r f) f) 2 (cond (Nv (Q1 r b) b) 1 0)))))) (SQ (Um r c) 8) (Um r e)
noncomputable def HF (r:Nat):Bool:=cond (AR r 64 2048 256 128 2112 2048 64) (cond (AR r 8 1024 32 16 1032 1024 8) (AR r 1 512 4 2 513 512 1) Vu) Vu
noncomputable def DC (n:Nat) (f:Nat->Bool):Bool:=Nat.rec Vt (λk b=>cond (f k) b Vu) n
theorem vJ {f:Nat->Bool}:∀{n:Nat},DC n f=Vt->∀k,k<n->f k=true:=@nr _ (@λ_ _ h=>absurd h (L8 _)) (λn a=>(@λh k b=>by
  change cond (f n) (DC n f) Vu=Vt at h;cases q:f n with
  | false=>rw[q] at h;exact nomatch h
  | true=>
   rw[q] at h;rcases MB.mp b with e | e
   ·exact a h k e
   ·exact e▸q))
theorem Di:(DC 64 λa=>DC 64 λb=>HF (Uo (Uj 64 a) b))=true:=by decide +kernel
theorem F3 {r:Nat}(h:r<4096):HF r=true:=by
 have:=vJ (vJ Di (r / 64) (by lia)) (r % 64) (SE _ (by decide));rw[show Uo (Uj 64 (r / 64)) (r % 64)=r from Nat.div_add_mod r 64] at this;exact this
theorem rI {a b:Bool}(h:cond a b Vu=Vt):a=Vt/\b=true:=by
 cases a
 ·exact nomatch h
 ·exact ⟨rfl,h⟩
theorem rH {a b:Bool}(h:cond a Vu b=Vt):a=Vu/\b=true:=by
 cases a
 ·exact ⟨rfl,h⟩
 ·exact nomatch h
theorem xC {a b:Bool}(h:Ty a b=Vu):a=b:=by cases a<;>cases b<;>first | rfl | exact nomatch h
theorem Dj {r c e a f i g b:Nat}(h:AR r c e a f i g b=Vt):Nv (r&&& a) a=Un 4 (r / c % 8)/\Nv (r&&& f) f=Nv (r / c % 8 / 2 % 2) 1/\r / c % 8 % 2+2*(r / e % 2)=cond (Nv (r&&& i) i) 3 (cond (Nv (r&&& g) g) 2 (cond (Nv (r&&& b) b) 1 0)):=by
 obtain ⟨j,d⟩:=rH h;obtain ⟨d,k⟩:=rH d;exact w3 (xC j) (xC d) (Pm k)
theorem jW {i:Nat}{m:Int}{r b:Nat}(a:(i==0)=Vu) (h:m.toNat&&& b=r&&& b):hit i m (b:Int)=Nv (r&&& b) b:=by
 unfold hit;rw[a,KT,h];show (((r&&& b:Nat):Int)==(b:Int))=_;exact LR.mpr ⟨λe=>by rw[LJ (eq_of_beq e)];exact Nat.beq_refl _,λe=>by rw[Pm e];exact beq_self_eq_true _⟩
theorem rM {i:Nat}{m b:Int}{c:String}(a:(i==0)=Vu):sn (qb i m [(b,c)])=cond (hit i m b) (sn c) (sn "-"):=by
 unfold qb;rw[a,MU];show sn (TI (KJ _ (match hit i m b with | true=>_ | false=>_)) _)=_;cases hit i m b<;>rfl
theorem xg {i:Nat}{m b c a:Int}{c3 c4 c5:String}(d:(i==0)=Vu):qb i m [(b,c3),(c,c4),(a,c5)]=cond (hit i m b) c3 (cond (hit i m c) c4 (cond (hit i m a) c5 "-")):=by
 unfold qb;rw[d,MU,MU,MU];show TI (KJ _ (match hit i m b with | true=>_ | false=>match hit i m c with | true=>_ | false=>match hit i m a with | true=>_ | false=>_)) _=_;cases hit i m b<;>cases hit i m c<;>cases hit i m a<;>rfl
theorem zW (a b:Nat):Lo (a:Int) (b:Int)=((a / b:Nat):Int):=Nq _ (LC _)
theorem vk (a b:Nat):Ln (a:Int) (b:Int)=((a % b:Nat):Int):=Int.fmod_eq_emod_of_nonneg _ (LC _)
theorem pH {g r:Nat}{m:Int}{c e i k n l j:Nat}{c3 c4 c5:String}(a:∀b,b<4096->m.toNat&&& b=r&&& b) (d:i<4096/\k<4096/\n<4096/\l<4096/\j<4096) (h:AR r c e i k n l j=Vt) (t:cT g=(c:Int)) (o:eT g=(e:Int)) (u:∀x y z:Bool,(⟨#[((xT g).cps[cond x 3 (cond y 2 (cond z 1 0))]?).getD 0]⟩:Str)=sn (cond x c3 (cond y c4 (cond z c5 "-")))):sn (qb (3*g+1) m [((i:Int),"r")])=gR (r:Int) g/\sn (qb (3*g+2) m [((k:Int),"w")])=gW (r:Int) g/\sn (qb (3*g+3) m [((n:Int),c3),((l:Int),c4),((j:Int),c5)])=gX (r:Int) g:=by
 obtain ⟨q,v,s⟩:=Dj h;have f:vu (r:Int) g=((r / c % 8:Nat):Int):=by
  unfold vu;rw[t,zW,show (8:Int)=((8:Nat):Int) from rfl,vk]
 have p:(lst (r:Int) g).toNat=r / c % 8 % 2+2*(r / e % 2):=by
  unfold lst;rw[f,o,zW,show (2:Int)=((2:Nat):Int) from rfl,vk,vk];rfl
 refine w3 ?_ ?_ ?_
 ·rw[rM rfl,jW rfl (a _ d.1),q];unfold gR;rw[f]
  congr 1
  show Un 4 _=decide _;rw[LR,decide_eq_true_iff];exact ⟨λh=>MD.mpr (Ky h),λh=>Nat.ble_eq_true_of_le (MD.mp h)⟩
 ·rw[rM rfl,jW rfl (a _ d.2.1),v];unfold gW;rw[f,show (2:Int)=((2:Nat):Int) from rfl,zW,vk]
  congr 1
  show Nv _ 1=(((_:Nat):Int)==((1:Nat):Int));exact LR.mpr ⟨λe=>by rw[Pm e];rfl,λe=>by rw[LJ (eq_of_beq e)];rfl⟩
 ·rw[xg rfl,jW rfl (a _ d.2.2.1),jW rfl (a _ d.2.2.2.1),jW rfl (a _ d.2.2.2.2)];unfold gX;rw[p,s,u]
theorem CE:∀k∈([4,8,12,6,0,3]:List Int),(sn (((([(40960,"l"),(49152,"s"),(32768,"-"),(24576,"b"),(16384,"d"),(8192,"c"),(4096,"p")]:List (Int×String)).find? λp=>k*4096==p.1).map (·.2)).getD "?")).cps=#[kc k]:=by decide +kernel
theorem gk {s:Str}(h:s.cps.size=1):∃x,s=⟨#[x]⟩:=by
 obtain ⟨a⟩:=s;obtain ⟨l⟩:=a
 match l,h with
 | [x],_=>exact ⟨x,rfl⟩
theorem zt {c d e h a i j f b g:Nat}:Pv (sn "") [⟨#[c]⟩,⟨#[d]⟩,⟨#[e]⟩,⟨#[h]⟩,⟨#[a]⟩,⟨#[i]⟩,⟨#[j]⟩,⟨#[f]⟩,⟨#[b]⟩,⟨#[g]⟩]=(⟨#[c,d,e,h,a,i,j,f,b,g]⟩:Str):=rfl
theorem qH {t:Thing9}(h:t.Good):∃a k r:Nat,t.kind=(k:Int)/\t.rights=(r:Int)/\k<16/\r<4096/\t.mode.toNat=4096*(16*a+k)+r:=by
 have d:0<=t.kind/\t.kind<16:=by rcases h.kind with e | e | e | e | e | e<;>rw[e]<;>decide
 obtain ⟨a,f⟩:=Lj h.high.1;obtain ⟨k,b⟩:=Lj d.1;obtain ⟨r,c⟩:=Lj h.rights.1;refine y3 a k r (w5 b c (MD.mp (b▸d.2)) (MD.mp (c▸h.rights.2)) ?_);unfold Thing9.mode;rw[f,b,c];show a*65536+k*4096+r=_;rw[Nat.mul_add,<- Nat.mul_assoc,RE a,RE k]
theorem ob {t:Thing9}(h:t.Good):nD t.mode=t.kind*4096:=by
 obtain ⟨a,k,r,c,_,d,b,e⟩:=qH h;unfold nD;rw[e,Bh b,Nat.mul_add_mod,Qn d,RE,c];rfl
theorem yY {t:Thing9}(h:t.Good):Pv (sn "") ((KC 10).map λi=>sn (qb i t.mode (fmT[i]?.getD [])))=t.row:=by
 have y:=ob h;obtain ⟨_,_,r,_,A,_,c,F⟩:=qH h;have a:∀b,b<4096->t.mode.toNat&&& b=r&&& b:=λb s=>by rw[F,Dy c s]
 have o:sn (qb 0 t.mode (fmT[0]?.getD []))=⟨#[kc t.kind]⟩:=by
  have:=CE t.kind (by rcases h.kind with e | e | e | e | e | e<;>rw[e]<;>decide);rw[<- y] at this;exact congrArg Str.mk this
 obtain ⟨z,d⟩:=rI (F3 c);obtain ⟨d,L⟩:=rI d;obtain ⟨G,x,H⟩:=pH (g:=0) (c3:="s") (c4:="S") (c5:="x") a (by decide) z rfl rfl (by decide +kernel);obtain ⟨I,p,w⟩:=pH (g:=1) (c3:="s") (c4:="S") (c5:="x") a (by decide) d rfl rfl (by decide +kernel);obtain ⟨q,C,v⟩:=pH (g:=2) (c3:="t") (c4:="T") (c5:="x") a (by decide) L rfl rfl (by decide +kernel);have hs:=th (r:Int);obtain ⟨x1,j⟩:=gk (hs 0).1;obtain ⟨x2,y2⟩:=gk (hs 0).2.1;obtain ⟨x3,y3⟩:=gk (hs 0).2.2;obtain ⟨x4,y4⟩:=gk (hs 1).1;obtain ⟨x5,y5⟩:=gk (hs 1).2.1;obtain ⟨K,m⟩:=gk (hs 1).2.2;obtain ⟨u,f⟩:=gk (hs 2).1;obtain ⟨J,k⟩:=gk (hs 2).2.1;obtain ⟨E,n⟩:=gk (hs 2).2.2;have l:((KC 10).map λi=>sn (qb i t.mode (fmT[i]?.getD [])))=[⟨#[kc t.kind]⟩,⟨#[x1]⟩,⟨#[x2]⟩,⟨#[x3]⟩,⟨#[x4]⟩,⟨#[x5]⟩,⟨#[K]⟩,⟨#[u]⟩,⟨#[J]⟩,⟨#[E]⟩]:=by
  rw[<- o,<- G.trans j,<- x.trans y2,<- H.trans y3,<- I.trans y4,<- p.trans y5,<- w.trans m,<- q.trans f,<- C.trans k,<- v.trans n];rfl
 rw[l,zt];unfold Thing9.row;rw[show rowS ⟨#[kc t.kind]⟩ t.rights 3=⟨#[kc t.kind]⟩++gR t.rights 0++gW t.rights 0++gX t.rights 0++gR t.rights 1++gW t.rights 1++gX t.rights 1++gR t.rights 2++gW t.rights 2++gX t.rights 2 from rfl];rw[A,j,y2,y3,y4,y5,m,f,k,n];rfl
end
section
set_option linter.all false
noncomputable def D.ctorIdx (x:D):Nat:=x.casesOn 0 (λ_=>1) (λ_=>2) (λ_=>3) (λ_=>4) (λ_=>5) (λ_=>6) (λ_=>7) (λ_ _=>8) (λ_=>9) λ_=>10
noncomputable def SObj.ctorIdx (x:SObj):Nat:=x.casesOn 0 (λ_=>1) (λ_=>2) (λ_=>3) (λ_=>4) (λ_=>5) (λ_=>6) (λ_=>7) (λ_ _ _=>8) (λ_ _=>9) (λ_ _=>10) (λ_ _=>11) 12 λ_=>13
section
variable {st:List SObj}{B l q p m:Nat}{A:List (Str×V)}{n:Str}{u:V}{a b c:Option V}{so x y:SObj}{kvs:List (Int×Nat)}{i:Int}
theorem fS (h:st[B]?=Vr (.inst A)) (a:iZ.contains n=Vt) (g:get n A=Vr u):cG st (.loc B) n=Vr u:=by
 show (st[B]?).bind _=_;rw[h];show Kj (if iZ.contains n=Vt then get n A else Vs) _=_;rw[if_pos a,g];rfl
theorem gE (h:st[l]?=Vr (.node a b c)) (g:jn (a,b,c) n=Vr u):cG st (.loc l) n=Vr u:=by
 show (st[l]?).bind _=_;rw[h];show Kj Vs (Kj (jn (a,b,c) n) _)=_;rw[g];rfl
theorem jg (h:st[B]?=Vr (.inst A)) (a:iZ.contains n=Vt/\A.length<=800) (b:DP u=Vt):cN st (.loc B) n u=Vr (st.set B (.inst (aY n u A))):=by
 unfold cN;refine (if_pos b).trans ?_;show (st[B]?).bind _=_;rw[h];show Kj (if _ then _ else _) _=_;rw[if_pos a];rfl
theorem jf (h:st[l]?=Vr (.node a b c)) (d:DP u=Vt) (g:fJ (a,b,c) n u=Vr so):cN st (.loc l) n u=Vr (st.set l so):=by
 unfold cN;refine (if_pos d).trans ?_;show (st[l]?).bind _=_;rw[h];show Kj Vs (Kj ((fJ (a,b,c) n u).map _) _)=_;rw[g];rfl
theorem Cr:fJ (a,b,c) (sn "successors") u=Vr (.node (Vr u) b c):=if_pos rfl
theorem jJ:fJ (a,b,c) (sn "npredecessors") u=Vr (.node a (Vr u) c):=(if_neg (by decide)).trans (if_pos rfl)
theorem Cs:fJ (a,b,c) (sn "node") u=Vr (.node a b (Vr u)):=(if_neg (by decide)).trans ((if_neg (by decide)).trans (if_pos rfl))
noncomputable def eV (kvs:List (Int×Nat)):SObj:=LZ kvs (.dict []) λp r=>.objs (p::r)
theorem GY (h:st[l]?=Vr (eV kvs)):iW st .get (.loc l) [.d (.int i)]=Vr (optE (aF i kvs) (.d .non) .loc,st):=by
 show KJ _ (Kj (Kj (KJ _ ((st[l]?).bind _)) (KJ _ ((st[l]?).bind _))) _)=_;rw[h];cases kvs with
 | nil=>rfl
 | cons p r=>rfl
theorem vY (h:st[l]?=Vr (eV kvs)) (hz:kvs.length<=1000):eD st (.loc l) i (.loc m)=Vr (st.set l (.objs (lZ i m kvs))):=by
 show (st[l]?).bind _=_;rw[h];cases kvs with
 | nil=>rfl
 | cons p r=>
  show Kj Vs (Kj (if _ then _ else _) _)=_;rw[if_pos hz];rfl
theorem aP (a:st[p]?=Vr x) (c:st[q]?=Vr y) (b:x≠y):(st.set q so)[p]?=Vr x:=(LL λ(e:q=p)=>b (Kd (a.symm.trans ((congrArg (λi=>st[i]?) e.symm).trans c)))).trans a
theorem bA (a:st[q]?=Vr y):(st.set q so)[q]?=Vr so:=Mj (Kh.mp a).1
theorem aE {r:List SObj}(a:st[p]?=Vr x):(st++r)[p]?=Vr x:=(KB (Kh.mp a).1).trans a
theorem bH {r:List SObj}(a:m=st.length):(st++x::r)[m]?=Vr x:=by
 rw[a,LB (KL _),NS];rfl
theorem gj {r:List SObj}(a:m=st.length):(st++x::r).set m y=st++y::r:=by
 rw[a,RI _ _ (KL _),NS];rfl
theorem pB:bV st .Is (.loc l) (.d .non)=Vr false:=rfl
theorem Ij:bV st .IsNot (.loc l) (.d .non)=Vr true:=rfl
theorem Fv:bV st .Is (.d .non) (.d .non)=Vr true:=rfl
theorem vb:bV st .IsNot (.d .non) (.d .non)=Vr false:=rfl
end
section
variable {k:Nat}{cx:Cx}{s s1 s2 s3:St}{Q:Fl->St->Prop}{E:D->List D->St->Prop}{e o i:Kf}{p p2 pos:Pos}{ss:List Stmt}{n:Str}{v ov:V}{j:Int}{st':List SObj}
theorem Iu {a:List (Str×V)}{b:List SObj}(hn:bC (cx.names.lookup n)=Vt) (h:((mk k).ev cx e).f s=.ok v s1) (c:(ek (mk k) cx o).f s1=.ok ov s2) (l:((mk k).ev cx i).f s2=.ok (.d (.int j)) ⟨a,b⟩) (g:eD b ov j v=Vr st') (q:W (((mk k).xs cx ss).f ⟨aY n v a,st'⟩) Q E):W (((mk (k+1)).xs cx (.Assign [.Subscript o i p,.Name n p2] e pos::ss)).f s) Q E:=ko ((if_pos hn).trans (aK h (aK c (aK l (aK (ir g) rfl))))) q
end
theorem ig {k:Nat}{cx:Cx}{e:Kf}{s s1:St}{v:V}(a:wO (mk k) cx e=(mk k).ev cx e) (h:((mk k).ev cx e).f s=.ok v s1):(wO (mk k) cx e).f s=.ok v s1:=a▸h
theorem dD {α:Type}{k:Int}{r:List (Int×α)}:∀{l:List (Int×α)},aF k (l++r)=(aF k l).or (aF k r):=@lr _ _ (rfl) (λp l a=>by
  show (if p.1=k then Vr p.2 else aF k (l++r))=Kj (if p.1=k then Vr p.2 else aF k l) _;by_cases h:p.1=k
  ·rw[if_pos h,if_pos h];rfl
  ·rw[if_neg h,if_neg h];exact a)
theorem fC {α:Type}{k:Int}:∀{l:List (Int×α)},aF k l=Vs<->k∉l.map (·.1):=@lr _ _ (⟨λ_ m=>(nomatch m),λ_=>rfl⟩) (λp l a=>by
  show (if p.1=k then Vr p.2 else aF k l)=Vs<->_;by_cases h:p.1=k
  ·rw[if_pos h];exact ⟨λe=>absurd e nofun,λq=>absurd (by rw[<- h];exact KU (.head _)) q⟩
  ·rw[if_neg h,a,KG,Kw,not_or];exact ⟨λq=>⟨λe=>h e.symm,q⟩,λq=>q.2⟩)
noncomputable def gO (B:Nat) (b:V) (a c:Int):List (Str×V):=[(sn "_node2info",.loc (B+1)),(sn "_ready_nodes",b),(sn "_npassedout",.d (.int a)),(sn "_nfinished",.d (.int c))]
noncomputable abbrev uQ (l a:Nat) (k:Int):SObj:=.node (Vr (.loc (l+1))) (Vr (.d (.int (a:Int)))) (Vr (.d (.int k)))
structure Sa (st:List SObj) (B n:Nat) (kvs:List (Int×Nat)) (np:Int->Nat) (su:Int->List Int):Prop where
 hd:∃r,st=.ctab::r
 inst:st[B]?=Vr (.inst (gO B (.d .non) 0 0))
 dict:st[B+1]?=Vr (eV kvs)
 node:∀k l,aF k kvs=Vr l->st[l]?=Vr (uQ l (np k) k)/\st[l+1]?=Vr (.list ((su k).map .int))
 new:∀k,aF k kvs=Vs->np k=0/\su k=[]
 keys:∀p∈kvs,0<=p.1/\p.1<(n:Int)
 once:(kvs.map (·.1)).Nodup
theorem Sa.info {st:List SObj}{B n:Nat}{kvs:List (Int×Nat)}{a:Int->Nat}{su:Int->List Int}(S:Sa st B n kvs a su):cG st (.loc B) (sn "_node2info")=Vr (.loc (B+1)):=fS S.inst rfl rfl
theorem Sa.frz {st:List SObj}{B n:Nat}{kvs:List (Int×Nat)}{a:Int->Nat}{su:Int->List Int}(S:Sa st B n kvs a su):dQ st B=none:=by
 unfold dQ;rw[S.inst];rfl
theorem W.eq {α:Type}{x:Res α}{a:α}{s:St}(h:W x (λv t=>v=a/\t=s) noE):x=.ok a s:=by
 obtain ⟨v,t,e,rfl,rfl⟩:=h.get;exact e
theorem yR {k m:Nat}{i:Int}{st:List SObj}(b:m=st.length):(mk (k+10)).call 40 [.d (.int i)] st=.ok (.loc m) ⟨[],st++[uQ m 0 i,.list []]⟩:=by
 refine rp b ?_;have a:(mk (k+9)).call 36 [.loc st.length,.d (.int i)] (st++[.node Vs Vs Vs])=.ok (.d .non) ⟨[],st++[uQ st.length 0 i,.list []]⟩:=by
  refine W.eq (bX (fd:=aW 36) (us:=[.loc st.length,.d (.int i)]) (fr:=aY (sn "node") (.d (.int i)) (aY (sn "self") (.loc st.length) [])) rfl rfl rfl rfl rfl ?_);refine' fM (ig ?a0 ?a1) ?a2 ?a3 (fM (ig ?b0 dY) ?b2 ?b3 (fM (dT ?c0 aL ?c1) ?c2 ?c3 (aG ?c4)))
  case a0=>rfl
  case a1=>walk_at "e"
  case a2=>walk_at "e"
  case a3=>exact jf (bH rfl) rfl Cs
  case b0=>rfl
  case b2=>walk_at "e"
  case b3=>exact jf (bA (bH rfl)) rfl jJ
  case c0=>rfl
  case c1=>rfl
  case c2=>walk_at "e"
  case c3=>exact jf (aE (bA (bA (bH rfl)))) rfl Cr
  case c4=>
   refine ⟨rfl,congrArg (St.mk []) ?_⟩;show ((((st++[SObj.node Vs Vs Vs]).set st.length _).set st.length _++[SObj.list []]).set st.length (.node (Vr (.loc (((st++[SObj.node Vs Vs Vs]).set st.length _).set st.length _).length)) _ _))=_;rw[gj rfl,gj rfl,KW,Km];exact gj rfl
 have e:(mk (k+10)).call 40 [.d (.int i)] st=jV ((mk (k+9)).call 36 [.loc st.length,.d (.int i)] (st++[.node Vs Vs Vs])) st.length:=rfl;rw[e,a];rfl
theorem fw:∀(l:List Nat),(l.map λ_=>1).sum=l.length
 | []=>rfl
 | a::l=>by rw[KG,L7,fw,Lw];lia
theorem uX {n:Nat}{kvs:List (Int×Nat)}(h:∀p∈kvs,0<=p.1/\p.1<(n:Int)) (c:(kvs.map (·.1)).Nodup):kvs.length<=n:=by
 have:=oZ (f:=λ_=>1) (n:=n) (l:=kvs.map λp=>p.1.toNat) ?_ λx k=>?_
 ·rw[fw,fw,Ke,KI] at this;exact this
 ·refine NM.mpr ((NM.mp c).imp_of_mem λ{a b} g j i e=>i ?_);have:=h a g;have:=h b j;lia
 ·obtain ⟨p,d,rfl⟩:=Ku.mp k;have:=h p d;lia
theorem lY {α:Type}{k:Int}{d:α}{l:List (Int×α)}(h:aF k l=Vs):lZ k d l=l++[(k,d)]:=(yH (fC.mp h)).1
theorem wZ {kvs:List (Int×Nat)}{p:Int×Nat}:eV (kvs++[p])=.objs (kvs++[p]):=by cases kvs<;>rfl
section
variable {k B n l:Nat}{st:List SObj}{kvs:List (Int×Nat)}{np:Int->Nat}{su:Int->List Int}{i:Int}
theorem Sa.frzN (S:Sa st B n kvs np su) (h:aF i kvs=Vr l):dQ st l=none:=by
 unfold dQ;rw[(S.node i l h).1];rfl
theorem Sa.more (S:Sa st B n kvs np su) (A:0<=i/\i<(n:Int)) (h:aF i kvs=Vs):Sa ((st++[uQ st.length 0 i,.list []]).set (B+1) (.objs (kvs++[(i,st.length)]))) B n (kvs++[(i,st.length)]) np su:=by
 obtain ⟨r,v⟩:=S.hd;have f:=aE (r:=[uQ st.length 0 i,.list []]) S.dict;have C:∀(p:Int×Nat),eV kvs≠.node Vs Vs none:=λ_=>by cases kvs<;>exact nofun
 have t:∀{a b c},SObj.node a b c≠eV kvs:=by cases kvs<;>exact nofun
 have s:∀{z},SObj.list z≠eV kvs:=by cases kvs<;>exact nofun
 have w:∀{a},SObj.inst a≠eV kvs:=by cases kvs<;>exact nofun
 refine ⟨⟨(r++[uQ st.length 0 i,.list []]).set B (.objs (kvs++[(i,st.length)])),by rw[v];rfl⟩,aP (aE S.inst) f w,by rw[wZ];exact bA f,λx m d=>?_,λx o=>?_,λp g=>?_,?_⟩
 ·rw[dD] at d;cases q:aF x kvs with
  | some k=>
   rw[q] at d;obtain rfl:k=m:=Kd d;obtain ⟨l,j⟩:=S.node x k q;exact ⟨aP (aE l) f t,aP (aE j) f s⟩
  | none=>
   rw[q] at d;change (if i=x then Vr st.length else Vs)=Vr m at d;by_cases e:i=x
   ·rw[if_pos e] at d;obtain rfl:st.length=m:=Kd d;refine rq e ?_;obtain ⟨l,j⟩:=S.new i h;rw[l,j];refine ⟨aP (bH rfl) f t,aP ?_ f s⟩;rw[Qd];exact bH (by rw[Km];rfl)
   ·rw[if_neg e] at d;exact nomatch d
 ·rw[dD] at o;cases q:aF x kvs with
  | some k=>rw[q] at o;exact nomatch o
  | none=>exact S.new x q
 ·rcases Kx.mp g with g | g
  ·exact S.keys p g
  ·rw[Kk.mp g];exact A
 ·rw[KD];refine Lx.mpr (w3 S.once (Md _ _) (λa u b y e=>?_));rw[Kk.mp y] at e;exact fC.mp h ((show a=i from e)▸u)
theorem n0 (hn:n<=1000) (S:Sa st B n kvs np su) (p:0<=i/\i<(n:Int)):W ((mk (k+20)).call 80 [.loc B,.d (.int i)] st) (λv s=>∃l a,v=.loc l/\s.fr=[]/\Sa s.st B n a np su/\aF i a=Vr l/\∀x,(aF x a).isSome=Vt<->(aF x kvs).isSome=Vt\/x=i) noE:=by
 refine bX (fd:=aW 80) (us:=[.loc B,.d (.int i)]) (fr:=aY (sn "node") (.d (.int i)) (aY (sn "self") (.loc B) [])) rfl rfl rfl rfl rfl ?_;have t:=S.info;have b:iW st .get (.loc (B+1)) [.d (.int i)]=_:=GY S.dict;have g:cZ st (.loc (B+1)) (sn "get")=none:=by
  show (st[B+1]?).bind _=_;rw[S.dict];cases kvs<;>rfl
 have c:hS st (.loc (B+1)) (sn "get")=Vr .get:=by
  show Kj Vs ((st[B+1]?).bind _)=_;rw[S.dict];cases kvs<;>kernel_rfl
 cases q:aF i kvs with
 | some l=>
  rw[q] at b;refine' dN (cU rfl rfl (mL ?a1 (aT (w3 rfl rfl rfl) ?a2 ?a3 (aS (bm:=.get) ?a4 ?a5 rfl (aI rfl ?a6 aL) ?a7))) eI ?a8) (aG (cg ?a9 ?ac))
  case a1=>exact ⟨rfl,rfl⟩
  case a2=>decide
  case a3=>walk_at "e"
  case a4=>exact g
  case a5=>exact c
  case a6=>walk_at "e"
  case a7=>exact b
  case a8=>rfl
  case a9=>exact ka rfl aU (S.frzN q)
  case ac=>exact y2 l kvs (w5 rfl rfl S q (λx=>⟨.inl,λh=>h.elim id λe=>by rw[e,q];rfl⟩))
 | none=>
  rw[q] at b;have M:=S.more p q;have f:aF i (kvs++[(i,st.length)])=Vr st.length:=by
   rw[dD,q];exact if_pos rfl
  have r:cG (st++[uQ st.length 0 i,.list []]) (.loc B) (sn "_node2info")=Vr (.loc (B+1)):=fS (aE S.inst) rfl rfl;have j:eD (st++[uQ st.length 0 i,.list []]) (.loc (B+1)) i (.loc st.length)=Vr ((st++[uQ st.length 0 i,.list []]).set (B+1) (.objs (kvs++[(i,st.length)]))):=by
   rw[<- lY q];exact vY (aE S.dict) (Lr (uX S.keys S.once) hn)
  have o:=yR (k:=k+6) (i:=i) (st:=st) rfl;refine' lJ (cU rfl rfl (mL ?a1 (aT (w3 rfl rfl rfl) ?a2 ?a3 (aS (bm:=.get) ?a4 ?a5 rfl (aI rfl ?a6 aL) ?a7))) eI ?a8) (Iu ?b1 (fX 40 ?b2 ?b3 ?b4 ?b5 ?b6 ?b7 ?b8 ?b9) ?ab ?aa ?ae (aG (cg ?a9 ?ac)))
  case a1=>exact ⟨rfl,rfl⟩
  case a2=>decide
  case a3=>walk_at "e"
  case a4=>exact g
  case a5=>exact c
  case a6=>walk_at "e"
  case a7=>exact b
  case a8=>rfl
  case b1=>kernel_rfl
  case b2=>rfl
  case b3=>rfl
  case b4=>kernel_rfl
  case b5=>exact ⟨rfl,rfl⟩
  case b6=>rfl
  case b7=>walk_at "e"
  case b8=>kernel_rfl
  case b9=>exact o
  case ab=>walk_at "e"
  case aa=>walk_at "e"
  case ae=>exact j
  case a9=>exact ka rfl aU (M.frzN f)
  case ac=>
   refine y2 st.length _ (w5 rfl rfl M f (λx=>?_));rw[dD];cases h:aF x kvs with
   | some m=>exact ⟨λ_=>.inl rfl,λ_=>rfl⟩
   | none=>
    show (if i=x then Vr st.length else Vs).isSome=Vt<->_;by_cases e:i=x
    ·rw[if_pos e];exact ⟨λ_=>.inr e.symm,λ_=>rfl⟩
    ·rw[if_neg e];exact ⟨λh=>absurd h nofun,λh=>h.elim id λh=>absurd h.symm e⟩
end
end
section
set_option linter.all false
theorem cB {st:List SObj}{B:Nat}{A:List (Str×V)}{m:Str}(h:st[B]?=Vr (.inst A)) (g:get m A=Vs):cZ st (.loc B) m=bY m methods:=by
 show (st[B]?).bind _=_;rw[h];exact if_pos g
theorem jz {st:List SObj}{l:List D}:cS st (.d (.tup l))=Vr (l.map .d,st):=rfl
noncomputable def xP {α:Type}(f:Int->α) (i:Int) (a:α) (x:Int):α:=if x=i then a else f x
noncomputable def xx (su:Int->List Int) (i:Int) (ps:List Int) (x:Int):List Int:=su x++(ps.filter (·==x)).map λ_=>i
section
variable {k B n l:Nat}{st:List SObj}{kvs:List (Int×Nat)}{np:Int->Nat}{su:Int->List Int}{i p:Int}{ps:List Int}
theorem Sa.frzI (S:Sa st B n kvs np su):dQ st B=none:=by
 unfold dQ;rw[S.inst];rfl
theorem Sa.inj (S:Sa st B n kvs np su){x:Int}{m:Nat}(h:aF i kvs=Vr l) (h':aF x kvs=Vr m) (b:x≠i):m≠l:=λe=>by
 have a:=(S.node i l h).1;rw[<- e,(S.node x m h').1] at a;injection a with a
 injection a with _ _ a
 injection a with a
 injection a with a
 injection a with a
 exact b a
theorem bG {st:List SObj}{p q:Nat}{so x:SObj}(b:p≠q) (a:st[p]?=Vr x):(st.set q so)[p]?=Vr x:=(LL (LV b)).trans a
theorem Sa.setN (S:Sa st B n kvs np su) (h:aF i kvs=Vr l) (m:Nat):Sa (st.set l (uQ l m i)) B n kvs (xP np i m) su:=by
 obtain ⟨a,j⟩:=S.node i l h;obtain ⟨r,d⟩:=S.hd;have f:eV kvs≠uQ l (np i) i:=by cases kvs<;>exact nofun
 refine ⟨?_,aP S.inst a nofun,aP S.dict a f,λx y b=>?_,λx b=>?_,S.keys,S.once⟩
 ·cases l with
  | zero=>rw[d] at a;exact nomatch a
  | succ l=>exact ⟨r.set l (uQ (l+1) m i),by rw[d];rfl⟩
 ·obtain ⟨g,c⟩:=S.node x y b;unfold xP;by_cases e:x=i
  ·subst e;obtain rfl:l=y:=Kd (h.symm.trans b);rw[if_pos rfl];exact ⟨bA a,aP c a nofun⟩
  ·rw[if_neg e];exact ⟨bG (S.inj h b e) g,aP c a nofun⟩
 ·have:x≠i:=λe=>by rw[e,h] at b;exact nomatch b
  unfold xP;rw[if_neg this];exact S.new x b
theorem Sa.setS (S:Sa st B n kvs np su) (h:aF i kvs=Vr l) (ds:List Int):Sa (st.set (l+1) (.list (ds.map .int))) B n kvs np (xP su i ds):=by
 obtain ⟨k,b⟩:=S.node i l h;obtain ⟨r,g⟩:=S.hd;have d:eV kvs≠.list ((su i).map .int):=by cases kvs<;>exact nofun
 refine ⟨⟨r.set l (.list (ds.map .int)),by rw[g];rfl⟩,aP S.inst b nofun,aP S.dict b d,λx y a=>?_,λx a=>?_,S.keys,S.once⟩
 ·obtain ⟨c,f⟩:=S.node x y a;unfold xP;by_cases e:x=i
  ·subst e;obtain rfl:l=y:=Kd (h.symm.trans a);rw[if_pos rfl];exact ⟨aP c b nofun,bA b⟩
  ·rw[if_neg e];exact ⟨aP c b nofun,bG (λj=>S.inj h a e (Nj j)) f⟩
 ·have:x≠i:=λe=>by rw[e,h] at a;exact nomatch a
  unfold xP;rw[if_neg this];exact S.new x a
theorem ya {j:Nat}(h:ps[j]?=Vr p):xP (xx su i (ps.take j)) p (xx su i (ps.take j) p++[i])=xx su i (ps.take (j+1)):=by
 funext x;unfold xP xx;rw[Le,h,List.filter_append,KD];show _=su x++(_++((Qr (·==x) [p]).map λ_=>i));rw[Mt];by_cases e:x=p
 ·refine rq e ?_;rw[if_pos rfl,if_pos (beq_self_eq_true _),KW];rfl
 ·rw[if_neg e,if_neg (by rw[beq_iff_eq];exact λq=>e q.symm)];exact congrArg _ (LG _).symm
theorem ux {x:Int}{C:Nat}(h:(su x).length<=C):(xx su i ps x).length<=C+ps.length:=by
 unfold xx;rw[Km,Ke];exact TJ h (List.length_filter_le ..)
theorem oy {ps:List Int}:ej (ps.map λx=>.d (.int x))=Vr (ps.map .int):=by
 induction ps with
 | nil=>rfl
 | cons a l b=>
  show (ej (l.map λx=>.d (.int x))).map _=_;rw[b];rfl
theorem A4 (hz:ps.length<=1000):iY 87 (aW 87) (.loc B::.d (.int i)::ps.map λx=>.d (.int x))=Vr [.loc B,.d (.int i),.d (.tup (ps.map .int))]:=by
 have e:∀(a b:V) (c:List V),iY 87 (aW 87) (a::b::c)=(ej c).bind λf=>if f.length<=1000 then Vr [a,b,.d (.tup f)] else none:=λa b c=>rfl
 rw[e,oy];exact if_pos (by rw[Ke];exact hz)
theorem Bn (hn:n<=1000) (S:Sa st B n kvs np su) (T:0<=i/\i<(n:Int)) (N:∀x∈ps,0<=x/\x<(n:Int)) (hz:ps.length<=100){C:Nat}(hC:C<=800) (hs:∀x,(su x).length<=C):W ((mk (k+30)).call 87 (.loc B::.d (.int i)::ps.map λx=>.d (.int x)) st) (λv s=>v=.d .non/\s.fr=[]/\∃e,Sa s.st B n e (xP np i (np i+ps.length)) (xx su i ps)/\∀x,(aF x e).isSome=Vt<->(aF x kvs).isSome=Vt\/x=i\/x∈ps) noE:=by
 have I:iY 87 (aW 87) (.loc B::.d (.int i)::ps.map λx=>.d (.int x))=Vr [.loc B,.d (.int i),.d (.tup (ps.map .int))]:=A4 (by walk_at "n");refine W.abs λQ J=>?_;refine bX (fd:=aW 87) (us:=[.loc B,.d (.int i),.d (.tup (ps.map .int))]) (fr:=aY (sn "predecessors") (.d (.tup (ps.map .int))) (aY (sn "node") (.d (.int i)) (aY (sn "self") (.loc B) []))) rfl rfl I rfl rfl ?_;have f1:cG st (.loc B) (sn "_ready_nodes")=Vr (.d .non):=fS S.inst rfl rfl;have U:cZ st (.loc B) (sn "_get_nodeinfo")=Vr 80:=(cB S.inst rfl).trans rfl;have f3:bV st .IsNot (.d .non) (.d .non)=Vr false:=rfl;refine aC λz b=>?_;obtain ⟨v,⟨_,o⟩,Y,l,c,rfl,hf,u,lk1,K1⟩:=(n0 (k:=k+6) hn S T).get;refine b ?_;obtain rfl:=show _=[] from hf
 have u:Sa o B n c np su:=u;refine' dN ?a1 (aG (bT ?a2 ?a3 (aT (w3 rfl rfl rfl) ?a4 ?a5 (cF ?a6 ?a7 (aI rfl ?a8 aL) (fA ?a9 ?ae))) ?ag))
 case a1=>walk_at "t"
 case a2=>kernel_rfl
 case a3=>exact ⟨rfl,rfl⟩
 case a4=>decide
 case a5=>walk_at "e"
 case a6=>exact U
 case a7=>rfl
 case a8=>walk_at "e"
 case a9=>kernel_rfl
 case ae=>exact Y
 have H:=(u.node i l lk1).1;have f4:cG o (.loc l) (sn "npredecessors")=Vr (.d (.int (np i:Int))):=gE H rfl;have f5:bI o .len [.d (.tup (ps.map .int))]=Vr (.int (ps.length:Int)):=by rw[<- Ke (f:=D.int)];exact vC
 have M:=u.setN lk1 (np i+ps.length);have K:=u.frzN lk1;refine' un ?b1 ?b2 ?b3 ?b4 ?b5 ?b6
 case b1=>walk_at "e"
 case b2=>exact f4
 case b3=>walk_at "e"
 case b4=>rfl
 case b5=>exact jf H rfl jJ
 refine' ed rfl (w3 rfl rfl rfl) ?c1 ?c2
 case c1=>walk_at "e"
 refine iq jz (λj fr st=>get (sn "self") fr=Vr (.loc B)/\get (sn "node") fr=Vr (.d (.int i))/\∃a,Sa st B n a (xP np i (np i+ps.length)) (xx su i (ps.take j))/\∀x,(aF x a).isSome=Vt<->(aF x kvs).isSome=Vt\/x=i\/x∈ps.take j) (w3 (by walk_at "g") (by walk_at "g") ⟨c,?_,λx=>?_⟩) (λj d fr st F A=>?_) λfr st A=>?_
 ·rw[show xx su i (ps.take 0)=su from funext λx=>LG _];exact M
 ·rw[K1];exact ⟨λh=>h.imp id .inl,λh=>h.imp id λh=>h.elim id λh=>nomatch h⟩
 ·refine aC λz b=>?_;obtain ⟨O,L,a,q,w⟩:=A;rw[Kv] at F;obtain ⟨p,E,rfl⟩:=KY.mp F;refine b ?_;refine y2 _ (aY (sn "pred") (.d (.int p)) fr) (w3 (eK rfl) rfl ?_);refine W.abs λR hR=>?_;refine aC λz b=>?_;obtain ⟨v,⟨_,r⟩,e3,m,g,rfl,hf,t,lk4,K4⟩:=(n0 (k:=k+3) hn q (N p (Ko E))).get;refine b ?_;obtain rfl:=show _=[] from hf
  have t:Sa r B n g _ _:=t;have P:cZ st (.loc B) (sn "_get_nodeinfo")=Vr 80:=(cB q.inst rfl).trans rfl;have f7:cG r (.loc m) (sn "successors")=Vr (.loc (m+1)):=gE (t.node p m lk4).1 rfl;have y:=(t.node p m lk4).2;have K:=q.frzI;refine' bT ?d1 ?d2 (aT (w3 rfl rfl rfl) ?d3 ?d4 (cF ?d5 ?d6 (aI rfl ?d7 aL) (fA ?d8 ?d9))) (cb rfl (aT (w3 rfl rfl rfl) ?ai ?af (aS (bm:=.append) ?ac ?ab rfl (aI rfl ?aa aL) ?aj)) (aG ?ah))
  case d1=>kernel_rfl
  case d2=>exact ⟨rfl,rfl⟩
  case d3=>decide
  case d4=>walk_at "e"
  case d5=>exact P
  case d6=>rfl
  case d7=>walk_at "e"
  case d8=>kernel_rfl
  case d9=>exact e3
  case ai=>decide
  case af=>walk_at "e"
  case ac=>exact cY y
  case ab=>exact db y rfl
  case aa=>walk_at "e"
  case aj=>exact cv y (by rw[Ke];have:=ux (i:=i) (ps:=ps.take j) (hs p);have:=(PY j ps).length_le;walk_at "n")
  case ah=>
   refine hR _ _ (w3 (by walk_at "g") (by walk_at "g") ⟨g,?_,λx=>?_⟩)
   ·have G:=t.setS lk4 (xx su i (ps.take j) p++[i]);rw[ya E,KD] at G;exact G
   ·rw[K4,w,Le,E,Kx];show _<->_\/_\/_\/x∈[p];rw[Kk];exact ⟨λh=>h.elim (λh=>h.imp id λh=>h.imp id .inl) λh=>.inr (.inr (.inr h)),λh=>h.elim (λh=>.inl (.inl h)) λh=>h.elim (λh=>.inl (.inr (.inl h))) λh=>h.elim (λh=>.inl (.inr (.inr h))) .inr⟩
 ·refine aC λz b=>?_;obtain ⟨O,L,a,q,w⟩:=A;refine b ?_;rw[Ke,Mr] at q w;exact aG (aG (J _ _ (w3 rfl rfl ⟨a,q,w⟩)))
end
end
section
set_option linter.all false
theorem mU {b:List (Str×V)}{a:List SObj}{k:Nat}{cx:Cx}{p:Pos}:(wO (mk k) cx (.Dict [] [] p)).f ⟨b,a⟩=.ok (.loc a.length) ⟨b,a++[.dict []]⟩:=rfl
section
variable {k:Nat}{cx:Cx}{s s1 s2 s3:St}{Q:Fl->St->Prop}{E:D->List D->St->Prop}{e o:Kf}{p ap:Pos}{ss:List Stmt}{m:Str}{c:D}{as:List D}{v:V}{args:List Kf}{vs:List V}{a:Addr}{st:List SObj}
theorem xG (a:hX e=Vu) (h:((mk k).ev cx e).f s=.exn c as s1) (q:E c as s1):W (((mk (k+1)).xs cx (.Expr e p::ss)).f s) Q E:=W.bind (W.ofx ((if_pos a).trans (nq h)) q)
theorem BI (h:((mk k).ev cx e).f s=.exn c as s1) (q:E c as s1):W (((mk (k+1)).xs cx (.Return (Vr e) p::ss)).f s) Q E:=W.bind (W.ofx (nq h) q)
theorem rB {F1:List (Str×V)}{T1:List SObj}(h0:hF o=Vt/\aO args=Vt/\(ap.endLine==p.line)=Vt) (b:args.length<29) (g:(ek (mk k) cx o).f s=.ok v ⟨F1,T1⟩) (d:cZ T1 v m=Vr a) (hh:cx.inH=Vu) (h:bM ((mk k).ev cx) args ⟨F1,T1⟩=.ok vs s2) (e:eW (mk k) a (v::vs) s2=.exn c as s3):((mk (k+1)).ev cx (.Call (.Attribute o m ap) args [] p)).f s=.exn c as s3:=by
 refine (if_pos (w4 h0.1 h0.2.1 h0.2.2 b)).trans (aK g ?_);unfold gI;rw[d];exact (if_pos hh).trans (aK h e)
theorem uJ {d:List (Str×V)}{b:List SObj}(e:ie.contains a=Vu) (h:(mk k).call a vs b=.exn c as ⟨[],st⟩):eW (mk k) a vs ⟨d,b⟩=.exn c as ⟨d,st⟩:=by
 unfold eW;rw[e];show uc d ((mk k).call a vs b)=_;rw[h];rfl
end
noncomputable abbrev Js (B:Nat):List (Str×V):=[(sn "self",.loc B)]
theorem CQ {k B:Nat}{st:List SObj}(b:B=st.length):(mk (k+12)).call 137 [] st=.ok (.loc B) ⟨[],st++[.inst (gO B (.d .non) 0 0),.dict []]⟩:=by
 refine rp b ?_;have a:(mk (k+11)).call 73 [.loc st.length] (st++[.inst []])=.ok (.d .non) ⟨[],st++[.inst (gO st.length (.d .non) 0 0),.dict []]⟩:=by
  refine W.eq (bX (fd:=aW 73) (us:=[.loc st.length,.d .non]) (fr:=aY (sn "graph") (.d .non) (aY (sn "self") (.loc st.length) [])) rfl rfl rfl rfl rfl ?_);refine' fM ?a0 ?a1 ?a2 (fM (ig ?b0 eI) ?b1 ?b2 (fM (ig ?c0 dY) ?c1 ?c2 (fM (ig ?d0 dY) ?d1 ?d2 (dN (cU ?e1 ?e2 ?e3 eI vb) (aG (aG ?e4))))))
  case a0=>exact mU
  case a1=>walk_at "e"
  case a2=>exact jg (aE (bH rfl)) ⟨rfl,Ky rfl⟩ rfl
  case b0=>rfl
  case b1=>walk_at "e"
  case b2=>exact jg (bA (aE (bH rfl))) ⟨rfl,Ky rfl⟩ rfl
  case c0=>rfl
  case c1=>walk_at "e"
  case c2=>exact jg (bA (bA (aE (bH rfl)))) ⟨rfl,Ky rfl⟩ rfl
  case d0=>rfl
  case d1=>walk_at "e"
  case d2=>exact jg (bA (bA (bA (aE (bH rfl))))) ⟨rfl,Ky rfl⟩ rfl
  case e1=>rfl
  case e2=>rfl
  case e3=>walk_at "e"
  case e4=>
   refine ⟨rfl,congrArg (St.mk []) ?_⟩;show ((((st++[SObj.inst []]++[SObj.dict []]).set st.length _).set st.length _).set st.length _).set st.length (.inst (aY (sn "_nfinished") (.d (.int 0)) (aY (sn "_npassedout") (.d (.int 0)) (aY (sn "_ready_nodes") (.d .non) (aY (sn "_node2info") (.loc (st++[SObj.inst []]).length) [])))))=_;rw[<- Qd,gj rfl,gj rfl,gj rfl,Km];exact (gj rfl).trans rfl
 have e:(mk (k+12)).call 137 [] st=jV ((mk (k+11)).call 73 [.loc st.length] (st++[.inst []])) st.length:=rfl;rw[e,a];rfl
noncomputable abbrev gx:Str:=sn "prepare() must be called first"
theorem qw {k B:Nat}{st:List SObj}(h:st[B]?=Vr (.inst (gO B (.d .non) 0 0))):(mk (k+12)).call 99 [.loc B] st=.exn (.bi .valueError) [.str gx] ⟨[],st⟩:=by
 have a:W ((mk (k+12)).call 99 [.loc B] st) (λ_ _=>False) (λc f s=>c=.bi .valueError/\f=[.str gx]/\s=⟨[],st⟩):=by
  refine bX (fd:=aW 99) (us:=[.loc B]) (fr:=aY (sn "self") (.loc B) []) rfl rfl rfl rfl rfl ?_;have g:cG st (.loc B) (sn "_ready_nodes")=Vr (.d .non):=fS h rfl rfl;refine' lJ (cU ?a1 ?a2 ?a3 eI Fv) (oD ?b2 ?b3 ?b4 ?b5 ?b6 ?b7)
  case a1=>rfl
  case a2=>rfl
  case a3=>walk_at "e"
  case b2=>exact w3 rfl rfl nofun
  case b3=>kernel_rfl
  case b4=>walk_at "e"
  case b5=>walk_at "d"
  case b6=>decide
  case b7=>exact w3 rfl rfl rfl
 refine aC λi b=>?_;obtain ⟨c,f,s,e,rfl,rfl,rfl⟩:=a.exn;refine b ?_;exact e
theorem As {k B:Nat}{st:List SObj}(h:st[B]?=Vr (.inst (gO B (.d .non) 0 0))):(mk (k+22)).call 299 [.loc B] st=.ok (.d (.bool Vt)) ⟨[],st++[.exc (.bi .valueError) [.str gx]]⟩:=by
 refine W.eq (bX (fd:=aW 299) (us:=[.loc B]) (fr:=aY (sn "sorter") (.loc B) []) rfl rfl rfl rfl rfl ?_);have r:=qw (k:=k+6) h;have a:cZ st (.loc B) (sn "get_ready")=Vr 99:=(cB h rfl).trans rfl;refine' qc ⟨rfl,rfl⟩ (xG rfl (rB (w3 rfl rfl rfl) ?a1 ?a2 ?a3 rfl aL (uJ ?a4 ?a5)) ?a6)
 case a1=>decide
 case a2=>walk_at "e"
 case a3=>exact a
 case a4=>kernel_rfl
 case a5=>exact r
 have e:pD (st++[.exc (.bi .valueError) [.str gx]]) (.loc st.length) (.gbl 55)=Vr false:=by
  show Kj Vs (Lm (Lm ((st++[SObj.exc _ _])[st.length]?) SObj.exc?) _)=_;rw[bH rfl];rfl
 have b:cG (st++[.exc (.bi .valueError) [.str gx]]) (.loc st.length) (sn "args")=Vr (.d (.tup [.str gx])):=by
  show ((st++[SObj.exc _ _])[st.length]?).bind _=_;rw[bH rfl];rfl
 refine' oH (fQ (d:=.bi .valueError) ?m1) ?m2 ?m3 (cg (mY (A0 (c:=Vt) (Ed (c:=Vu) (dH (d:=.bi .isinstance) ?b1 ?b2 ?b3 (rC ?b4 ?b5 ?b6 ?b7)) ?b8) ?b9 ?c1 (tX (mX ?c2 ?c3 (eJ ?c4 (gy ?c5 ?c6) ?c7) (oo ?c8 ?c9 ?ab) ?aa)))) ?d1)
 case m1=>kernel_rfl
 case m2=>kernel_rfl
 case m3=>kernel_rfl
 case b1=>rfl
 case b2=>rfl
 case b3=>kernel_rfl
 case b4=>kernel_rfl
 case b5=>kernel_rfl
 case b6=>walk_at "e"
 case b7=>
  show ((pD _ _ _).map D.bool)=_;exact congrArg (KJ D.bool) e
 case b8=>rfl
 case b9=>rfl
 case c1=>rfl
 case c2=>rfl
 case c3=>rfl
 case c4=>rfl
 case c5=>kernel_rfl
 case c6=>walk_at "g"
 case c7=>exact b
 case c8=>rfl
 case c9=>walk_at "e"
 case ab=>walk_at "p"
 case aa=>kernel_rfl
 case d1=>exact ⟨rfl,rfl⟩
end
section
set_option linter.all false
structure Dfs (n:Nat) (su:Nat->List Nat) (S:List (Nat×Nat)) (fin:List Nat) (o:Option Nat):Prop where
 nod:(S.map (·.1)++fin).Nodup
 lt:∀x∈S.map (·.1)++fin,x<n
 topo:Bq su fin
 ch:Ch su fin o S
noncomputable def val (su:Nat->List Nat) (S:List (Nat×Nat)) (a:List Nat):Nat:=(S.map λt=>t.2+1).sum+(a.map λx=>(su x).length+2).sum
noncomputable def top (n:Nat) (su:Nat->List Nat):Nat:=((KC n).map λx=>(su x).length+2).sum
section
variable {n v q x:Nat}{su:Nat->List Nat}{S:List (Nat×Nat)}{fin:List Nat}{o:Option Nat}
theorem Ch.sum:∀{S:List (Nat×Nat)} {o},Ch su fin o S->(S.map λt=>t.2+1).sum<=((S.map (·.1)).map λx=>(su x).length+2).sum
 | [],_,_=>KL _
 | p::r,_,⟨⟨h,_⟩,a⟩=>by
  have:=a.sum;rw[KG,L7,KG,KG,L7];exact TJ (P9 (Nu h)) this
theorem Dfs.le (D:Dfs n su S fin o):val su S fin<=top n su:=by
 refine Lr (R8 D.ch.sum _) ?_;rw[<- Td,<- KD];exact oZ D.nod D.lt
theorem Dfs.push (D:Dfs n su S fin (Vr v)) (a:v<n) (hn:v∉S.map (·.1)++fin):Dfs n su ((v,0)::S) fin Vs/\val su ((v,0)::S) fin=val su S fin+1:=by
 refine ⟨⟨LP.mpr ⟨hn,D.nod⟩,λx b=>(Kw.mp b).elim (λe=>e▸a) (D.lt x),D.topo,D.ch.push⟩,?_⟩;unfold val;rw[KG,L7];lia
theorem Dfs.old (D:Dfs n su S fin (Vr v)) (a:v∈fin):Dfs n su S fin none:=⟨D.nod,D.lt,D.topo,D.ch.old a⟩
theorem Dfs.next (D:Dfs n su ((v,q)::S) fin Vs) (e:(su v)[q]?=Vr x):Dfs n su ((v,q+1)::S) fin (Vr x)/\val su ((v,q+1)::S) fin=val su ((v,q)::S) fin+1:=by
 refine ⟨⟨D.nod,D.lt,D.topo,D.ch.next e⟩,?_⟩;unfold val;rw[KG,L7,KG,L7];lia
theorem Dfs.pop (D:Dfs n su ((v,q)::S) fin Vs) (e:(su v)[q]?=Vs):Dfs n su S (v::fin) Vs/\val su S (v::fin)=val su ((v,q)::S) fin+1:=by
 obtain ⟨b,a⟩:=D.ch.pop e;have p:(S.map (·.1)++v::fin).Perm ((((v,q)::S).map (·.1))++fin):=SR;refine ⟨⟨p.nodup_iff.mpr D.nod,λx d=>D.lt x (p.mem_iff.mp d),⟨b,D.topo⟩,a⟩,?_⟩;have f:(su v).length<=q:=K8.mp e;have c:q<=(su v).length:=D.ch.1.1;unfold val;rw[KG,L7,KG,L7];lia
end
end
section
set_option linter.all false
section
variable {k:Nat}{cx:Cx}{s s1 s2 s3:St}{Q:Fl->St->Prop}{E:D->List D->St->Prop}{e o i:Kf}{p p2 pos:Pos}{ss:List Stmt}{n f:Str}{v ov:V}{j:Int}{st st':List SObj}{l m q:Nat}{ls:List Nat}{ds:List D}{xs:List Int}{d:D}{kvs:List (Int×D)}{ks:List (Int×Nat)}
theorem Gv {a:List (Str×V)}{b:List SObj}(c:(ek (mk k) cx o).f s=.ok ov s2) (g:((mk k).ev cx i).f s2=.ok (.d (.int j)) ⟨a,b⟩) (e:kI b ov j=Vr st') (q:W (((mk k).xs cx ss).f ⟨a,st'⟩) Q E):W (((mk (k+1)).xs cx (.Delete [.Subscript o i p] pos::ss)).f s) Q E:=ko (aK c (aK g (aK (ir e) rfl))) q
theorem FS {b:List (Str×V)}{a:List SObj}(hs:gL (mk k) cx f p [] pos=kg (mk k) f p [] pos) (c:ia cx f=Vr (.bi .set)):((mk (k+1)).ev cx (.Call (.Name f p) [] [] pos)).f ⟨b,a⟩=.ok (.loc a.length) ⟨b,a++[.set []]⟩:=dH hs rfl c rfl
theorem FU {F1:List (Str×V)}{T1:List SObj}(hs:gL (mk k) cx f p [e] pos=kg (mk k) f p [e] pos) (c:ia cx f=Vr (.bi .iter)) (b:bb e=Vs) (h:(ek (mk k) cx e).f s=.ok (.loc l) ⟨F1,T1⟩) (a:T1[l]?=Vr (.list ds)):((mk (k+1)).ev cx (.Call (.Name f p) [e] [] pos)).f s=.ok (.loc T1.length) ⟨F1,T1++[.iter l 0]⟩:=by
 refine dH hs rfl c (aK (aI b h aL) ?_);show optE (Lm (T1[l]?) λo=>o.list?.map λ_=>l) _ _=_;rw[a];rfl
theorem ml (h:st[l]?=Vr (.nexts (ls++[m]))):qE st (.loc l) (.d (.int (-1)))=Vr m:=by
 show (st[l]?).bind _=_;rw[h];show (ki (ls++[m]).length (-1)).bind _=_;rw[Bd (by rw[Km];exact Nat.succ_pos _),Km];exact Ls
theorem Aw {b:List (Str×V)}{a:List SObj}{r:Res V}(j:cx.inH=Vu) (g:(ek (mk k) cx e).f s=.ok v s1) (c:((mk k).ev cx i).f s1=.ok ov ⟨b,a⟩) (h:qE a v ov=Vr m) (d:kU m ⟨b,a⟩=r):((mk (k+1)).ev cx (.Call (.Subscript e i p) [] [] pos)).f s=r:=(if_pos j).trans (aK g (aK c (by rw[h];exact d)))
theorem CN (h:st[m]?=Vr (.iter l q)) (a:st[l]?=Vr (.list ds)) (b:ds[q]?=Vr d){fr:List (Str×V)}:kU m ⟨fr,st⟩=.ok (.d d) ⟨fr,st.set m (.iter l (q+1))⟩:=by
 unfold kU;rw[h];show optE ((st[l]?).bind _) _ _=_;rw[a];show optE (ds[q]?) _ _=_;rw[b];rfl
theorem zu (h:st[m]?=Vr (.iter l q)) (a:st[l]?=Vr (.list ds)) (b:ds[q]?=Vs){fr:List (Str×V)}:kU m ⟨fr,st⟩=.exn (.bi .stopIteration) [] ⟨fr,st.set m .gone⟩:=by
 unfold kU;rw[h];show optE ((st[l]?).bind _) _ _=_;rw[a];show optE (ds[q]?) _ _=_;rw[b];rfl
theorem Fj (h:st[l]?=Vr (.nexts ls)) (hz:ls.length<=1000):iW st .append (.loc l) [.nxt m]=Vr (.d .non,st.set l (.nexts (ls++[m]))):=by
 show KJ _ ((st[l]?).bind _)=_;rw[h];show KJ _ (Kj Vs (if _ then _ else _))=_;rw[if_pos hz];rfl
theorem Fk (h:st[l]?=Vr (.list [])):iW st .append (.loc l) [.nxt m]=Vr (.d .non,st.set l (.nexts [m])):=by
 show KJ _ ((st[l]?).bind _)=_;rw[h];rfl
theorem Ff (h:st[l]?=Vr (.list (ds++[d]))):iW st .pop (.loc l) []=Vr (.d d,st.set l (.list ds)):=by
 show (st[l]?).bind _=_;rw[h];show Kj (((ds++[d]).getLast?).map λe=>(V.d e,st.set l (.list (ds++[d]).dropLast))) Vs=_;rw[RN,MW];rfl
theorem Fe (h:st[l]?=Vr (.nexts (ls++[m]))):iW st .pop (.loc l) []=Vr (.nxt m,st.set l (.nexts ls)):=by
 show (st[l]?).bind _=_;rw[h];show (Kj Vs (((ls++[m]).getLast?).map λd=>(V.nxt d,st.set l (.nexts (ls++[m]).dropLast))))=_;rw[RN,MW];rfl
theorem G0 (h:st[l]?=Vr (.set xs)) (hz:xs.length<=1000) (a:xs.contains j=Vu):iW st .add (.loc l) [.d (.int j)]=Vr (.d .non,st.set l (.set (xs++[j]))):=by
 show KJ _ ((st[l]?).bind _)=_;rw[h];show KJ _ (if _ then _ else _)=_;rw[if_pos hz,a];rfl
theorem uD (h:st[l]?=Vr (.dict kvs)) (hz:kvs.length<=1000):eD st (.loc l) j (.d d)=Vr (st.set l (.dict (lZ j d kvs))):=by
 show (st[l]?).bind _=_;rw[h];show Kj (Kj Vs (if _ then _ else _)) _=_;rw[if_pos hz];rfl
theorem Dc (h:st[l]?=Vr (.dict kvs)) (hz:kvs.length<=1000) (a:(aF j kvs).isSome=Vt):kI st (.loc l) j=Vr (st.set l (.dict (pR j kvs))):=by
 show (st[l]?).bind _=_;rw[h];exact if_pos ⟨a,hz⟩
theorem zH (h:st[l]?=Vr (.set xs)):bV st .In (.d (.int j)) (.loc l)=Vr (xs.contains j):=by
 show Kj (Lm (Kj Vs ((st[l]?).bind _)) _) (Kj (KJ _ (Kj Vs ((st[l]?).bind _))) (KJ _ ((st[l]?).bind _)))=_;rw[h];rfl
theorem Fw (h:st[l]?=Vr (.dict kvs)):bV st .In (.d (.int j)) (.loc l)=Vr (aF j kvs).isSome:=by
 show Kj (Lm (Kj Vs ((st[l]?).bind _)) _) (Kj (KJ _ (Kj Vs ((st[l]?).bind _))) _)=_;rw[h];rfl
theorem Fy (h:st[l]?=Vr (.dict kvs)) (a:aF j kvs=Vr d):bE (.loc l) (.d (.int j)) st=Vr (.d d):=by
 show Kj (KJ V.d (Kj (Lm (Kj Vs ((st[l]?).bind _)) _) (Kj (Lm (Kj Vs ((st[l]?).bind _)) _) _))) _=_;rw[h];show Kj (KJ V.d (Kj Vs (Kj (aF j kvs) _))) _=_;rw[a];rfl
theorem DX (h:st[l]?=Vr (.fobjs ks)) (a:aF j ks=Vr m):bE (.loc l) (.d (.int j)) st=Vr (.loc m):=by
 show Kj (KJ V.d (Kj (Lm (Kj Vs ((st[l]?).bind _)) _) (Kj (Lm (Kj Vs ((st[l]?).bind _)) _) Vs))) (KJ V.loc (Lm (Lm (st[l]?) _) _))=_;rw[h];show KJ V.loc (aF j ks)=_;rw[a];rfl
theorem EG (h:st[l]?=Vr (.list ds)):cc st (.loc l)=Vr (!ds.isEmpty):=by
 show Kj (KJ _ (Kj Vs ((st[l]?).bind _))) _=_;rw[h];rfl
theorem CC (h:st[l]?=Vr (.list ds)):bI st .len [.loc l]=Vr (.int (ds.length:Int)):=by
 show KJ _ (Kj (KJ _ (Kj Vs ((st[l]?).bind _))) _)=_;rw[h];rfl
theorem EN (h:st[l]?=Vr (.list ds)) (h0:0<=j):fN st (.loc l) (Vr (.int j)) Vs Vs=Vr (.lst (ds.drop j.toNat)):=by
 show Kj (Lm (Kj Vs ((st[l]?).bind _)) _) _=_;rw[h];show Kj ((if _ then _ else _:Option (List D)).map D.lst) _=_;rw[if_pos h0];rfl
theorem vN (h:st[l]?=Vr (.fobjs ks)):cS st (.loc l)=Vr (ks.map λp=>V.d (.int p.1),st):=by
 show Kj Vs (Kj ((st[l]?).bind _) _)=_;rw[h];rfl
end
end
section
set_option linter.all false
abbrev Fr3:=Nat×Nat×Nat
noncomputable def qR:List Fr3->List (Int×D)
 | []=>[]
 | t::r=>qR r++[((t.1:Int),.int (r.length:Int))]
noncomputable def yW (S:List Fr3):SObj:=.list ((S.map λt=>D.int (t.1:Int)).reverse)
structure Df (st0 st:List SObj) (L:Nat) (lc:Nat->Nat) (S:List Fr3) (xs:List Int):Prop where
 low:∀p,p<L->st[p]?=st0[p]?
 stk:st[L]?=Vr (yW S)
 its:st[L+1]?=Vr (.nexts ((S.map (·.2.2)).reverse))\/S=[]/\st[L+1]?=Vr (.list [])
 see:st[L+2]?=Vr (.set xs)
 n2s:st[L+3]?=Vr (.dict (qR S))
 it:∀t∈S,L<=t.2.2/\st[t.2.2]?=Vr (.iter (lc t.1+1) t.2.1)
 nd:(S.map (·.2.2)).Nodup
section
variable {st0 st:List SObj}{L m v q w:Nat}{lc:Nat->Nat}{S:List Fr3}{xs:List Int}{so:SObj}
theorem jO (h:∀p,p<L->st[p]?=st0[p]?) (b:L<=q):∀p,p<L->(st.set q so)[p]?=st0[p]?:=λp a=>(LL (by lia)).trans (h p a)
theorem uW:∀S:List Fr3,(qR S).length=S.length:=@lr _ _ (rfl) (λt r a=>by
  rw[Km,a];rfl)
theorem zq:∀S:List Fr3,(qR S).map (·.1)=(S.map λt=>(t.1:Int)).reverse:=@lr _ _ (rfl) (λt r a=>by
  show (qR r++[((t.1:Int),D.int (r.length:Int))]).map (·.1)=_;rw[KD,a,KG (l:=r) (f:=λt:Fr3=>(t.1:Int)),MG];rfl)
theorem jQ {S:List Fr3}(h:v∉S.map λt:Fr3=>t.1):aF (v:Int) (qR S)=none:=fC.mpr λm=>h (by
 rw[zq] at m;obtain ⟨t,a,e⟩:=Ku.mp (ON.mp m);exact Ku.mpr ⟨t,a,LJ e⟩)
theorem mt:∀{S:List Fr3},(S.map λt:Fr3=>t.1).Nodup->(v∈S.map λt:Fr3=>t.1)->∃i:Nat,aF (v:Int) (qR S)=Vr (.int (i:Int))/\((S.map λt:Fr3=>t.1).reverse)[i]?=Vr v
 | t::r,hd,a=>by
  obtain ⟨f,d⟩:=LP.mp hd;rw[dD,KG,MG];rcases Kw.mp a with e | a
  ·refine rp e ?_;rw[jQ f];refine ⟨r.length,if_pos rfl,?_⟩;have:((r.map (·.1)).reverse).length=r.length:=by rw[Nw,Ke]
   rw[<- this];exact Ls
  ·obtain ⟨i,c,b⟩:=mt d a;exact ⟨i,by rw[c];rfl,(KB (Kh.mp b).1).trans b⟩
theorem Df.len (H:Df st0 st L lc S xs):L+3<st.length:=(Kh.mp H.n2s).1
theorem hit' {X:List SObj}(h:q<X.length):(X.set q so)[q]?=Vr so:=Mj h
theorem off' {X:List SObj}{p:Nat}{r:Option SObj}(a:p≠q) (h:X[p]?=r):(X.set q so)[p]?=r:=(LL a.symm).trans h
theorem uP {p:Nat}{x y:SObj}(h:st[p]?=Vr x) (h':st[q]?=Vr y) (a:x≠y):p≠q:=λe=>a (Kd (h.symm.trans (by rw[e];exact h')))
theorem Df.far (H:Df st0 st L lc S xs){t:Fr3}(a:t∈S):t.2.2≠L/\t.2.2≠L+1/\t.2.2≠L+2/\t.2.2≠L+3:=by
 have h:=(H.it t a).2;refine w4 (uP h H.stk nofun) ?_ (uP h H.see nofun) (uP h H.n2s nofun);rcases H.its with e | ⟨rfl,e⟩
 ·exact uP h e nofun
 ·exact nomatch a
theorem Df.push (H:Df st0 st L lc S xs){st1:List SObj}(e:st1=(((st.set (L+2) (.set (xs++[(v:Int)]))++[SObj.iter (lc v+1) 0]).set (L+1) (.nexts ((S.map (·.2.2)).reverse++[st.length]))).set (L+3) (.dict (qR S++[((v:Int),.int (S.length:Int))]))).set L (.list ((S.map λt=>D.int (t.1:Int)).reverse++[.int (v:Int)]))):Df st0 st1 L lc ((v,0,st.length)::S) (xs++[(v:Int)]):=by
 have q:=H.len;have f:(st.set (L+2) (.set (xs++[(v:Int)]))++[SObj.iter (lc v+1) 0]).length=st.length+1:=by rw[Km,KZ];rfl
 have c:∀p,p<st.length->p≠L+2->(st.set (L+2) (.set (xs++[(v:Int)]))++[SObj.iter (lc v+1) 0])[p]?=st[p]?:=λp d l=>(KB (by rw[KZ];exact d)).trans (off' l rfl);refine rp e ?_;refine ⟨λp d=>?_,?_,.inl ?_,?_,?_,λt b=>?_,?_⟩
 ·exact off' (by walk_at "n") (off' (by walk_at "n") (off' (by walk_at "n") ((c p (by walk_at "n") (by walk_at "n")).trans (H.low p d))))
 ·rw[hit' (by rw[KZ,KZ,f];walk_at "n")];unfold yW;rw[KG,MG]
 ·rw[KG,MG];exact off' (by walk_at "n") (off' (by walk_at "n") (hit' (by rw[f];walk_at "n")))
 ·exact off' (by walk_at "n") (off' (by walk_at "n") (off' (by walk_at "n") ((KB (by rw[KZ];walk_at "n")).trans (hit' (by walk_at "n")))))
 ·exact off' (by walk_at "n") (hit' (by rw[KZ,f];walk_at "n"))
 ·rcases Kw.mp b with rfl | b
  ·exact ⟨by show L<=st.length;walk_at "n",off' (by show st.length≠L;walk_at "n") (off' (by show st.length≠_;walk_at "n") (off' (by show st.length≠_;walk_at "n") (bH (by rw[KZ]))))⟩
  ·refine aC λj a=>?_;obtain ⟨n,i,o,k⟩:=H.far b;obtain ⟨h,g⟩:=H.it t b;refine a ?_;exact ⟨h,off' n (off' k (off' i ((c _ (Kh.mp g).1 o).trans g)))⟩
 ·refine LP.mpr ⟨λm=>?_,H.nd⟩;refine aC λj a=>?_;obtain ⟨t,b,e⟩:=Ku.mp m;refine a ?_;have:=(Kh.mp (H.it t b).2).1;have e:t.2.2=st.length:=e;walk_at "n"
theorem Df.next (H:Df st0 st L lc ((v,q,m)::S) xs):Df st0 (st.set m (.iter (lc v+1) (q+1))) L lc ((v,q+1,m)::S) xs:=by
 obtain ⟨j,d,k,h⟩:=H.far (.head _);have g:=H.it _ (.head _);obtain ⟨i,l⟩:=LP.mp H.nd;refine ⟨jO H.low g.1,off' (LV j) H.stk,H.its.elim (λe=>.inl (off' (LV d) e)) λe=>(nomatch e.1),off' (LV k) H.see,off' (LV h) H.n2s,λt a=>?_,H.nd⟩;rcases Kw.mp a with rfl | a
 ·exact ⟨g.1,hit' (Kh.mp g.2).1⟩
 ·obtain ⟨c,b⟩:=H.it t (.tail _ a);exact ⟨c,off' (λ(e:t.2.2=m)=>i (show m∈_ from e▸KU (f:=λt:Fr3=>t.2.2) a)) b⟩
theorem w0 {α:Type}{k:Int}{d:α}:∀{l:List (Int×α)},aF k l=Vs->pR k (l++[(k,d)])=l:=@lr _ _ (@λ_=>if_pos rfl) (λp l a=>(@λh=>by
  have h:(if p.1=k then Vr p.2 else aF k l)=none:=h;show (if p.1=k then l++[(k,d)] else p::pR k (l++[(k,d)]))=_;by_cases e:p.1=k
  ·rw[if_pos e] at h;exact nomatch h
  ·rw[if_neg e] at h ⊢;rw[a h]))
theorem Df.pop (H:Df st0 st L lc ((v,q,m)::S) xs){st1:List SObj}(e:st1=(((st.set m .gone).set L (.list (S.map λt=>D.int (t.1:Int)).reverse)).set (L+3) (.dict (qR S))).set (L+1) (.nexts ((S.map (·.2.2)).reverse))):Df st0 st1 L lc S xs:=by
 have n:=H.len;obtain ⟨s,o,c,r⟩:=H.far (.head _);have g:=(H.it _ (.head _)).1;obtain ⟨a,l⟩:=LP.mp H.nd;have a:m∉S.map (·.2.2):=a;have c:m≠L+2:=c;have g:L<=m:=g;refine rp e ?_;refine ⟨jO (jO (jO (jO H.low g) (by walk_at "n")) (by walk_at "n")) (by walk_at "n"),?_,.inl ?_,?_,?_,λt b=>?_,l⟩
 ·exact off' (by walk_at "n") (off' (by walk_at "n") (hit' (by rw[KZ];walk_at "n")))
 ·exact hit' (by rw[KZ,KZ,KZ];walk_at "n")
 ·exact off' (by walk_at "n") (off' (by walk_at "n") (off' (by walk_at "n") (off' (LV c) H.see)))
 ·exact off' (by walk_at "n") (hit' (by rw[KZ,KZ];walk_at "n"))
 ·skip
  obtain ⟨k,d,p,j⟩:=H.far (.tail _ b);obtain ⟨i,h⟩:=H.it t (.tail _ b);exact ⟨i,off' d (off' j (off' k (off' (λ(e:t.2.2=m)=>a (e▸KU (f:=λt:Fr3=>t.2.2) b)) h)))⟩
end
end
section
set_option linter.all false
section
variable {k:Nat}{cx:Cx}{s s1:St}{Q:Fl->St->Prop}{E:D->List D->St->Prop}{t:Kf}{p:Pos}{body els ss:List Stmt}{c:Bool}{st:List SObj}{l q:Nat}{o:SObj}{m:Str}{b:BM}{n:Nat}
theorem Gu (I:St->Prop) (h:((mk k).ts cx t).f s=.ok c s1) (b:c=Vt->W (((mk k).xs cx body).f s1) (λf s=>(f=.next/\I s)\/W (cH f s ((mk k).xs cx ss).f) Q E) E) (d:c=Vu->W (((mk k).xs cx els).f s1) (λf s=>(f=.next/\I s)\/W (cH f s ((mk k).xs cx ss).f) Q E) E) (q:∀s,I s->W (((mk k).xs cx ss).f s) Q E):W (((mk (k+1)).xs cx (.If t body els p::ss)).f s) Q E:=qd h (λe=>(b e).imp λf s a=>a.elim (λa=>a.1▸q s a.2) id) λe=>(d e).imp λf s a=>a.elim (λa=>a.1▸q s a.2) id
theorem Ep (I:St->Prop) (h:((mk k).ts cx t).f s=.ok c s1) (a:∀R:Fl->St->Prop,(∀s,I s->R .next s)->(∀f s,W (cH f s ((mk k).xs cx ss).f) Q E->R f s)->c=Vt->W (((mk k).xs cx body).f s1) R E) (b:∀R:Fl->St->Prop,(∀s,I s->R .next s)->(∀f s,W (cH f s ((mk k).xs cx ss).f) Q E->R f s)->c=Vu->W (((mk k).xs cx els).f s1) R E) (q:∀s,I s->W (((mk k).xs cx ss).f s) Q E):W (((mk (k+1)).xs cx (.If t body els p::ss)).f s) Q E:=Gu I h (a _ (λ_ h=>.inl ⟨rfl,h⟩) λ_ _ h=>.inr h) (b _ (λ_ h=>.inl ⟨rfl,h⟩) λ_ _ h=>.inr h) q
theorem eM (h:st[l]?=Vr o) (a:o.inst?=Vs):cZ st (.loc l) m=none:=by
 show (st[l]?).bind _=_;rw[h];show (o.inst?).bind _=_;rw[a];rfl
theorem eN (h:st[l]?=Vr o) (a:bY m o.tab=Vr b):hS st (.loc l) m=Vr b:=by
 show Kj Vs ((st[l]?).bind _)=_;rw[h];exact a
theorem Jq {I:St->Prop}{g:St->Res Fl}(h:Q .next s):W (cH .brk s g) (AF Q I) E:=h
theorem Bm {I:St->Prop}(h:Q .next s):AF Q I .brk s:=h
theorem Gi (h:st[l]?=Vr (.iter q n)):cG st (.loc l) (sn "__next__")=Vr (.nxt l):=by
 show (st[l]?).bind _=_;rw[h];show (if sn "__next__" = sn "__next__" then Vr (V.nxt l) else Vs)=_;exact if_pos rfl
end
structure Gs (st:List SObj) (B n:Nat) (kvs:List (Int×Nat)) (lc:Nat->Nat) (su:Nat->List Nat):Prop where
 inst:∃A,st[B]?=Vr (.inst A)/\get (sn "_node2info") A=Vr (.loc (B+1))/\get (sn "_find_cycle") A=Vs
 dict:st[B+1]?=Vr (.fobjs kvs)
 node:∀i,i<n->aF (i:Int) kvs=Vr (lc i)/\(∃m,st[lc i]?=Vr (uQ (lc i) m i))/\st[lc i+1]?=Vr (.list ((aB (su i)).map .int))
 keys:∀p∈kvs,0<=p.1/\p.1<(n:Int)
noncomputable abbrev Hl (B L:Nat):List (Str×V):=[(sn "n2i",.loc (B+1)),(sn "stack",.loc L),(sn "itstack",.loc (L+1)),(sn "seen",.loc (L+2)),(sn "node2stacki",.loc (L+3))]
noncomputable def s2 (S:List Fr3):List (Nat×Nat):=S.map λt=>(t.1,t.2.1)
theorem jh (S:List Fr3):(s2 S).map (·.1)=S.map λt=>t.1:=by unfold s2;rw[KH];rfl
def HY (b:List Int) (S:List Fr3) (a:List Nat):Prop:=(∀x:Nat,(x:Int)∈b<->x∈(s2 S).map (·.1)++a)/\b.length=S.length+a.length
def Ir (b:Nat->List Nat) (su:Nat->List Nat) (n:Nat) (v:V):Prop:=(v=.d .non/\∃a:List Nat,Bq su a/\a.Nodup/\a.length<=n/\∀i,i<n->i∈a)\/∃c,v=.d (.lst ((aB c).map .int))/\Ring b n c
structure Turn (st0 st:List SObj) (n L:Nat) (lc:Nat->Nat) (su:Nat->List Nat) (F0:List Nat) (v0:Nat) (S:List Fr3) (xs:List Int) (fin:List Nat) (o:Option Nat) (j:Nat):Prop where
 df:Df st0 st L lc S xs
 ds:Dfs n su (s2 S) fin o
 seen:HY xs S fin
 m:j+val su (s2 S) fin=top n su
 old:∀x∈F0,x∈fin
 v0:v0∈(s2 S).map (·.1)++fin\/S=[]/\o=Vr v0
section
variable {st0 st:List SObj}{B n L v q m x v0:Nat}{kvs:List (Int×Nat)}{lc:Nat->Nat}{nd su:Nat->List Nat}{S:List Fr3}{xs:List Int}{fin F0:List Nat}{j k:Nat}
theorem Turn.push (T:Turn st0 st n L lc su F0 v0 S xs fin (Vr v) j) (a:v<n) (h:v∉(s2 S).map (·.1)++fin){st1:List SObj}(H:Df st0 st1 L lc ((v,0,m)::S) (xs++[(v:Int)])):∃i,i<j/\Turn st0 st1 n L lc su F0 v0 ((v,0,m)::S) (xs++[(v:Int)]) fin Vs i:=by
 obtain ⟨D,e⟩:=T.ds.push a h;have b:=D.le;have c:=T.m;refine ⟨j-1,by lia,H,D,⟨λx=>?_,?_⟩,?_,T.old,.inl ?_⟩
 ·rw[Kx,T.seen.1,Kk];show _<->x∈v::((s2 S).map (·.1)++fin);rw[Kw];exact ⟨λh=>h.elim .inr λh=>.inl (LJ h),λh=>h.elim (λh=>.inr (by rw[h])) .inl⟩
 ·rw[Km,T.seen.2];show S.length+fin.length+1=(S.length+1)+fin.length;lia
 ·show j-1+val su ((v,0)::s2 S) fin=_;lia
 ·show v0∈v::((s2 S).map (·.1)++fin);exact T.v0.elim (λh=>.tail _ h) λh=>Kd h.2▸.head _
theorem Turn.old' (T:Turn st0 st n L lc su F0 v0 S xs fin (Vr v) j) (h:v∈fin):Turn st0 st n L lc su F0 v0 S xs fin Vs j:=⟨T.df,T.ds.old h,T.seen,T.m,T.old,.inl (T.v0.elim id λe=>Ll _ (Kd e.2▸h))⟩
theorem Turn.next (T:Turn st0 st n L lc su F0 v0 ((v,q,m)::S) xs fin Vs j) (e:(su v)[q]?=Vr x):∃i,i<j/\Turn st0 (st.set m (.iter (lc v+1) (q+1))) n L lc su F0 v0 ((v,q+1,m)::S) xs fin (Vr x) i:=by
 obtain ⟨D,e⟩:=T.ds.next (S:=s2 S) e;have a:=D.le;have b:j+val su ((v,q)::s2 S) fin=_:=T.m;exact ⟨j-1,by lia,T.df.next,D,T.seen,by show j-1+val su ((v,q+1)::s2 S) fin=_;lia,T.old,.inl (T.v0.elim id λh=>nomatch h.1)⟩
theorem Turn.pop (T:Turn st0 st n L lc su F0 v0 ((v,q,m)::S) xs fin Vs j) (e:(su v)[q]?=Vs){st1:List SObj}(H:Df st0 st1 L lc S xs):∃i,i<j/\Turn st0 st1 n L lc su F0 v0 S xs (v::fin) Vs i:=by
 obtain ⟨D,e⟩:=T.ds.pop (S:=s2 S) e;have b:=D.le;have c:j+val su ((v,q)::s2 S) fin=_:=T.m;have p:((s2 S).map (·.1)++v::fin).Perm ((s2 ((v,q,m)::S)).map (·.1)++fin):=SR;refine ⟨j-1,by lia,H,D,⟨λx=>(T.seen.1 x).trans p.mem_iff.symm,?_⟩,by lia,λx a=>.tail _ (T.old x a),.inl (p.mem_iff.mpr (T.v0.elim id λh=>nomatch h.1))⟩;have:=T.seen.2;rw[Lw] at this ⊢;lia
theorem Dfs.len {S:List (Nat×Nat)}{o:Option Nat}(D:Dfs n su S fin o):S.length+fin.length<=n:=by
 have:=oZ (f:=λ_=>1) D.nod D.lt;rw[fw,fw,KI,Km,Ke] at this;exact this
theorem Df.app {st0 st:List SObj}{L:Nat}{lc:Nat->Nat}{S:List Fr3}{xs:List Int}(H:Df st0 st L lc S xs) (hz:S.length<=1000):∃o,st[L+1]?=Vr o/\o.inst?=Vs/\bY (sn "append") o.tab=Vr .append/\∀{X:List SObj}{m:Nat},X[L+1]?=Vr o->iW X .append (.loc (L+1)) [.nxt m]=Vr (.d .non,X.set (L+1) (.nexts ((S.map (·.2.2)).reverse++[m]))):=by
 rcases H.its with e | ⟨rfl,e⟩
 ·exact ⟨_,w4 e rfl rfl (λh=>Fj h (by rw[Nw,Ke];exact hz))⟩
 ·exact ⟨_,w4 e rfl rfl (λh=>Fk h)⟩
theorem kD {α:Type}{k:Int}{a:α}:∀{l:List (Int×α)},aF k l=Vr a->(k,a)∈l
 | p::l,h=>by
  have h:(if p.1=k then Vr p.2 else aF k l)=Vr a:=h;by_cases e:p.1=k
  ·rw[if_pos e] at h;exact (Tn e (Kd h):p=(k,a))▸.head _
  ·rw[if_neg e] at h;exact .tail _ (kD h)
theorem tM (G:Gs st B n kvs lc su) (T:gF nd su n) (hn:n<=9) (al:top n su<1000000):W ((mk (k+30)).call 127 [.loc B] st) (λv s=>s.fr=[]/\(∀p,p<st.length->s.st[p]?=st[p]?)/\Ir nd su n v) noE:=by
 refine aC λu b=>?_;obtain ⟨A,i1,i2,i3⟩:=G.inst;refine b ?_;refine W.abs λQ hQ=>?_;refine bX (fd:=aW 127) (us:=[.loc B]) (fr:=aY (sn "self") (.loc B) []) rfl rfl rfl rfl rfl ?_;have f1:cG st (.loc B) (sn "_node2info")=Vr (.loc (B+1)):=fS i1 rfl i2;refine' bT ?a1 ?a2 (eJ ?a3 ?a4 ?a5) (ee ?b1 ?b2 (dT rfl aL rfl) (ee ?c1 ?c2 (dT rfl aL rfl) (ee ?d1 ?d2 ?d3 (ee ?e1 ?e2 mU (ed rfl (w3 rfl rfl rfl) ?f1 ?f2)))))
 case a1=>kernel_rfl
 case a2=>exact ⟨rfl,rfl⟩
 case a3=>rfl
 case a4=>walk_at "e"
 case a5=>exact f1
 case b1=>kernel_rfl
 case b2=>exact ⟨rfl,rfl⟩
 case c1=>kernel_rfl
 case c2=>exact ⟨rfl,rfl⟩
 case d1=>kernel_rfl
 case d2=>exact ⟨rfl,rfl⟩
 case d3=>exact ig rfl (FS rfl rfl)
 case e1=>kernel_rfl
 case e2=>exact ⟨rfl,rfl⟩
 case f1=>walk_at "e"
 have gd:((((st++[SObj.list []])++[SObj.list []])++[SObj.set []])++[SObj.dict []])[B+1]?=Vr (.fobjs kvs):=aE (aE (aE (aE G.dict)));refine ⟨_,vN gd,?_⟩;have l1:(st++[SObj.list []]).length=st.length+1:=Km;have l2:((st++[SObj.list []])++[SObj.list []]).length=st.length+2:=by rw[Km,l1];rfl
 have l3:(((st++[SObj.list []])++[SObj.list []])++[SObj.set []]).length=st.length+3:=by rw[Km,l2];rfl
 have hB:=(Kh.mp G.dict).1;refine' lK (I:=λi fr st1=>jb fr (Hl B st.length)/\∃xs fin j,Df st st1 st.length lc [] xs/\Dfs n su [] fin Vs/\HY xs [] fin/\j+val su [] fin=top n su/\∀m p,m<i->kvs[m]?=Vr p->p.1.toNat∈fin) ?g1 ⟨?g2,?g3⟩ (λi v fr st1 hv hI=>?g4) λfr st1 hI=>?g5
 case g1=>kernel_rfl
 case g2=>
  unfold Hl;rw[<- l1,<- l2,<- l3];walk_at "h"
 case g3=>
  refine y3 [] [] (top n su) (w5 ⟨λp hp=>?_,aE (aE (aE (bH rfl))),.inr ⟨rfl,aE (aE (bH l1.symm))⟩,aE (bH l2.symm),bH l3.symm,nofun,.nil⟩ ⟨.nil,nofun,trivial,trivial⟩ ⟨λx=>⟨λh=>(nomatch h),λh=>(nomatch h)⟩,rfl⟩ rfl (λm p h=>absurd h (L8 _)));show (st++_++_++_++_)[p]?=_;rw[KW,KW,KW,KB hp]
 case g5=>
  refine aC λu b=>?_;obtain ⟨_,xs,fin,j,H,D,_,_,K⟩:=hI;refine b ?_;refine aG (cg eI (hQ _ _ (w3 rfl H.low (.inl ⟨rfl,fin,w4 D.topo D.nod ?_ (λi C=>?_)⟩))))
  ·have:=D.len;rw[List.length_nil] at this;walk_at "n"
  ·refine aC λu b=>?_;obtain ⟨m,hm⟩:=Lc.mp (kD (G.node i C).1);refine b ?_;have:=K m _ (by rw[Ke];exact (Kh.mp hm).1) hm
   rwa [KT] at this
 case g4=>
  refine W.abs λR1 a9=>?_;refine aC λu b=>?_;obtain ⟨hf,xs,fin,j,H,Dz,Sn,hj,K⟩:=hI;rw[Kv] at hv;obtain ⟨pr,hp,rfl⟩:=KY.mp hv;have kr:=G.keys pr (Ko hp);obtain ⟨v0,ae⟩:=Lj kr.1;refine b ?_;have af:v0<n:=by walk_at "n"
  have K2:∀{fin2:List Nat},(∀x∈fin,x∈fin2)->v0∈fin2->∀m p,m<i+1->kvs[m]?=Vr p->p.1.toNat∈fin2:=λh h0 m p hm e=>by
   rcases MB.mp hm with hm | hm
   ·exact h _ (K m p hm e)
   ·subst hm;obtain rfl:=Kd (hp.symm.trans e);rw[ae];exact h0
  rw[ae];have q1:bV st1 .In (.d (.int (v0:Int))) (.loc (st.length+2))=Vr (xs.contains (v0:Int)):=zH H.see;refine' qd ?h1 (λe=>?h2) (λe=>aG ?h3)
  case h1=>walk_at "t"
  case h2=>
   have m0:=(Sn.1 v0).mp (KR.mp e);exact Er (a9 _ _ ⟨by walk_at "h",y3 xs fin j (w5 H Dz Sn hj (K2 (λ_ h=>h) m0))⟩)
  case h3=>
   have m0:v0∉fin:=λm=>by rw[KR.mpr ((Sn.1 v0).mpr m)] at e;exact nomatch e
   refine' gQ (λj s=>jb s.fr (Hl B st.length)/\∃(S:List Fr3) (xs:List Int) (fin':List Nat) (v:Nat),get (sn "node") s.fr=Vr (.d (.int (v:Int)))/\v<n/\Turn st s.st n st.length lc su fin v0 S xs fin' (Vr v) j) j rfl (by walk_at "n") ⟨?i1,y4 [] xs fin v0 (w3 aU af ⟨H,⟨Dz.nod,Dz.lt,Dz.topo,trivial⟩,Sn,hj,λ_ h=>h,.inr ⟨rfl,rfl⟩⟩)⟩ (λR2 P2 j s a6 ar hJ=>?i2)
   case i1=>walk_at "h"
   case i2=>
    refine aC λu b=>?_;obtain ⟨hf,S,xs,fin',v,gv,ac,f⟩:=hJ;obtain ⟨fr,st1⟩:=s;refine b ?_;refine y2 Vt _ (w3 si (λ_=>?_) (λe=>nomatch e));have ap:=tf gv hf;have c:=f.df;have O:=f.seen;have up:∀{p o},st[p]?=Vr o->st1[p]?=Vr o:=λ{p o} h=>(c.low p (Kh.mp h).1).trans h;have q2:bV st1 .In (.d (.int (v:Int))) (.loc (st.length+2))=Vr (xs.contains (v:Int)):=zH c.see;have q3:bV st1 .In (.d (.int (v:Int))) (.loc (st.length+3))=Vr (aF (v:Int) (qR S)).isSome:=Fw c.n2s;refine' Ep (λs=>∃i,i<=j/\jb s.fr (Hl B st.length)/\∃S xs fin',Turn st s.st n st.length lc su fin v0 S xs fin' Vs i) ?j1 (λR3 hn ho e=>?j2) (λR3 hn ho e=>?j3) λs hI=>?j4
    case j1=>walk_at "t"
    case j2=>
     refine' qd ?k1 (λe2=>?k2) (λe2=>aG (aG (hn _ ?k3)))
     case k1=>walk_at "t"
     case k3=>
      refine ⟨j,w3 (KL _) (by walk_at "h") (y3 S xs fin' (f.old' ?_))⟩;rcases Kx.mp ((O.1 v).mp (KR.mp e)) with m | m
      ·rw[jh] at m;have nd:=(Lx.mp f.ds.nod).1;rw[jh] at nd;refine aC λu b=>?_;obtain ⟨i,e3,_⟩:=mt nd m;refine b ?_;rw[e3] at e2;exact nomatch e2
      ·exact m
     case k2=>
      have nd1:=(Lx.mp f.ds.nod).1;have mS:v∈S.map λt:Fr3=>t.1:=Qe λm=>by rw[jQ m] at e2;exact nomatch e2
      have ab:=nd1;rw[jh] at ab;refine aC λu b=>?_;obtain ⟨i,e3,e4⟩:=mt ab mS;refine b ?_;rw[<- jh] at e4;have R:=Cb T f.ds.ch nd1 (λy hy=>f.ds.lt y (L5 _ hy)) e4;have C:bE (.loc (st.length+3)) (.d (.int (v:Int))) st1=Vr (.d (.int (i:Int))):=Fy c.n2s e3;have hs:fN st1 (.loc st.length) (Vr (.int (i:Int))) Vs Vs=Vr (.lst (((S.map λt=>D.int (t.1:Int)).reverse).drop i)):=(EN c.stk (LC _)).trans (by rw[KT]);have hl:=f.ds.len;have ec:((S.map λt=>D.int (t.1:Int)).reverse).drop i++[.int (v:Int)]=(aB ((((s2 S).map (·.1)).reverse).drop i++[v])).map .int:=by
       unfold aB;rw[jh,KD,KD,Ra,Ra,ST,ST,KH,KH];rfl
      refine' cg (ij (C8 ?l1 (E5 ?l2) yN yN ?l7) (mM rfl ?l3 ?l4) (rU ?l5)) (ho _ _ ?l6)
      case l1=>walk_at "e"
      case l2=>exact gz rfl (gy rfl (by walk_at "g")) (fY rfl (by walk_at "g")) C
      case l7=>exact hs
      case l3=>walk_at "e"
      case l4=>walk_at "p"
      case l5=>
       have:(s2 S).length=S.length:=Ke ..;rw[M7,Nw,Ke];show _+1<=_;walk_at "n"
      case l6=>exact a6 _ _ (a9 _ _ (hQ _ _ (w3 rfl c.low (.inr ⟨_,by rw[ec],R⟩))))
    case j3=>
     have nm:v∉(s2 S).map (·.1)++fin':=λm=>by rw[KR.mpr ((O.1 v).mpr m)] at e;exact nomatch e
     have ak:S.length+fin'.length<=n:=by
      have:=f.ds.len
      rwa [show (s2 S).length=S.length from Ke ..] at this
     have aq:=O.2;refine aC λu b=>?_;obtain ⟨n1,⟨am,n2⟩,n3⟩:=G.node v ac;have hl:=c.len;obtain ⟨w,E⟩:∃X,X=st1.set (st.length+2) (.set (xs++[(v:Int)])):=⟨_,rfl⟩
     have l4:w.length=st1.length:=by rw[E,KZ]
     have F:∀{p r},p≠st.length+2->st1[p]?=r->w[p]?=r:=λ{p r} ne h=>by rw[E];exact off' ne h
     have N:∀{p o},st[p]?=Vr o->w[p]?=Vr o:=λ{p o} h=>F (by have:=(Kh.mp h).1;walk_at "n") (up h);have m1:iW st1 .add (.loc (st.length+2)) [.d (.int (v:Int))]=Vr (.d .non,w):=by rw[E];exact G0 c.see (by walk_at "n") e
     have fx:bE (.loc (B+1)) (.d (.int (v:Int))) w=Vr (.loc (lc v)):=DX (N G.dict) n1;have fa:cG w (.loc (lc v)) (sn "successors")=Vr (.loc (lc v+1)):=gE (N n2) rfl;obtain ⟨oi,i4,i5,i6,i7⟩:=c.app (by walk_at "n");have i8:w[st.length+1]?=Vr oi:=F (by walk_at "n") i4;obtain ⟨X2,g⟩:∃X,X=w++[.iter (lc v+1) 0]:=⟨_,rfl⟩
     have ag:cG X2 (.loc w.length) (sn "__next__")=Vr (.nxt w.length):=by rw[g];exact Gi (bH rfl)
     have i9:X2[st.length+1]?=Vr oi:=by rw[g];exact aE i8
     obtain ⟨X3,L⟩:∃X,X=X2.set (st.length+1) (.nexts ((S.map (·.2.2)).reverse++[w.length])):=⟨_,rfl⟩
     have m2:iW X2 .append (.loc (st.length+1)) [.nxt w.length]=Vr (.d .non,X3):=by rw[L];exact i7 i9
     have k1:X3[st.length]?=Vr (yW S):=by rw[L,g];exact off' (by walk_at "n") (aE (F (by walk_at "n") c.stk))
     have k3:X3[st.length+3]?=Vr (.dict (qR S)):=by rw[L,g];exact off' (by walk_at "n") (aE (F (by walk_at "n") c.n2s))
     have aj:aF (v:Int) (qR S)=none:=jQ λm=>nm (L5 _ (by rw[jh];exact m));have m3:eD X3 (.loc (st.length+3)) (v:Int) (.d (.int ((S.map λt=>Mine.Internal.D.int (t.1:Int)).reverse.length:Int)))=Vr (X3.set (st.length+3) (.dict (qR S++[((v:Int),.int (S.length:Int))]))):=by
      rw[Nw,Ke,uD k3 (by rw[uW];walk_at "n"),lY aj]
     obtain ⟨X4,U⟩:∃X,X=X3.set (st.length+3) (.dict (qR S++[((v:Int),.int (S.length:Int))])):=⟨_,rfl⟩
     refine b ?_;rw[<- U] at m3;have k4:X4[st.length]?=Vr (yW S):=by rw[U];exact off' (by walk_at "n") k1
     have m4:=cv (d:=.int (v:Int)) k4 (by rw[Nw,Ke];walk_at "n");refine' cb rfl (aT (w3 rfl rfl rfl) ?m1 ?m2 (aS (bm:=.add) ?m3 ?m4 rfl (aI rfl ?m5 aL) ?m6)) (cb rfl (aT (w3 rfl rfl rfl) ?o1 ?o2 (aS (bm:=.append) ?o3 ?o4 rfl (aI rfl (eJ ?o5 (cE ?o6 (FU ?o7 ?o8 ?o9 ?ab ?ac)) ?ae) aL) ?aa)) (xE rfl (dH (d:=.bi .len) ?q1 ?q2 ?q3 (rC ?q4 ?q5 (aI rfl ?q6 aL) ?q7)) ?q8 ?q9 ?af (cb rfl (aT (w3 rfl rfl rfl) ?r1 ?r2 (aS (bm:=.append) ?r3 ?r4 rfl (aI rfl ?r5 aL) ?r6)) (aG (hn _ ?r7)))))
     case m1=>decide
     case m2=>walk_at "e"
     case m3=>exact eM c.see rfl
     case m4=>exact eN c.see rfl
     case m5=>walk_at "e"
     case m6=>exact m1
     case o1=>decide
     case o2=>walk_at "e"
     case o3=>exact eM i8 i5
     case o4=>exact eN i8 i6
     case o5=>rfl
     case o6=>rfl
     case o7=>rfl
     case o8=>kernel_rfl
     case o9=>rfl
     case ab=>exact cE rfl (eJ rfl (cE rfl (gz rfl (gy rfl (by walk_at "g")) (fY rfl (by walk_at "g")) fx)) fa)
     case ac=>exact N n3
     case ae=>
      rw[<- g];exact ag
     case aa=>
      rw[<- g];exact m2
     case q1=>rfl
     case q2=>rfl
     case q3=>kernel_rfl
     case q4=>kernel_rfl
     case q5=>kernel_rfl
     case q6=>walk_at "e"
     case q7=>exact CC k1
     case q8=>walk_at "e"
     case q9=>walk_at "e"
     case af=>exact m3
     case r1=>decide
     case r2=>walk_at "e"
     case r3=>exact eM k4 rfl
     case r4=>exact eN k4 rfl
     case r5=>walk_at "e"
     case r6=>exact m4
     case r7=>
      have H2:=c.push (v:=v) (st1:=X4.set st.length (.list ((S.map λt=>Mine.Internal.D.int (t.1:Int)).reverse++[.int (v:Int)]))) (by rw[U,L,g,l4,E]);refine aC λu b=>?_;obtain ⟨i,C,T2⟩:=f.push ac nm H2;refine b ?_;exact ⟨i,w3 (Ox C) (by walk_at "h") (y3 _ _ _ T2)⟩
    case j4=>
     refine aC λu b=>?_;obtain ⟨i,C,ai,S,xs,fin',T2⟩:=hI;refine b ?_;have ao:S.length<=n:=by
      have:=T2.ds.len;rw[show (s2 S).length=S.length from Ke ..] at this;walk_at "n"
     refine' gQ (λjj s=>jb s.fr (Hl B st.length)/\∃i,i<=j/\∃(S:List Fr3) (xs:List Int) (fin':List Nat),S.length=jj/\Turn st s.st n st.length lc su fin v0 S xs fin' Vs i) S.length rfl (by walk_at "n") ⟨ai,i,C,y3 S xs fin' ⟨rfl,T2⟩⟩ (λR4 P4 jj s aa ah hJ=>?z1)
     case z1=>
      refine aC λu b=>?_;obtain ⟨hf,i,C,S,xs,fin',rfl,f⟩:=hJ;obtain ⟨fr,st1⟩:=s;refine b ?_;have c:=f.df;have tb:=EG c.stk;refine' (y2 _ _ (w3 (jd ?y1 tb) (λe=>?y2) (λe=>?y3)))
      case y1=>walk_at "e"
      case y3=>
       cases S with
       | cons t r=>
        rw[KG,MG] at e;cases hq:(r.map λt=>Mine.Internal.D.int (t.1:Int)).reverse with
        | nil=>rw[hq] at e;exact nomatch e
        | cons a l=>rw[hq] at e;exact nomatch e
       | nil=>exact um (ah _ _ (a6 _ _ (Bm (aG (a9 _ _ ⟨hf,y3 xs fin' i (w5 c f.ds f.seen f.m (K2 f.old (f.v0.elim id λh=>nomatch h.2)))⟩)))))
      case y2=>
       cases S with
       | nil=>exact nomatch e
       | cons t r=>
        refine aC λu b=>?_;obtain ⟨v,q,m⟩:=t;refine b ?_;have hv:v<n:=f.ds.lt v (.head _);have n3:=c.low _ (Kh.mp (G.node v hv).2.2).1 |>.trans (G.node v hv).2.2
        have n4:=(c.it _ (.head _)).2;have e1:st1[st.length+1]?=Vr (.nexts ((r.map (·.2.2)).reverse++[m])):=by
         rcases c.its with h | h
         ·rw[h,KG,MG]
         ·exact nomatch h.1
        have ql:((aB (su v)).map Mine.Internal.D.int)[q]?=((su v)[q]?).map λx:Nat=>Mine.Internal.D.int (x:Int):=by
         unfold aB;rw[KH,Kv];rfl
        refine' qc ⟨rfl,rfl⟩ ?y4
        case y4=>
         cases hx:(su v)[q]? with
         | some x=>
          rw[hx] at ql;refine aC λu b=>?_;obtain ⟨i2,M,T3⟩:=f.next hx;refine b ?_;refine' bT ?x1 ?x2 (Aw rfl ?x3 Au (ml e1) (CN n4 n3 ql)) (um (aa _ _ (Bm (aG (a6 _ _ ⟨i2,w3 (L6 M C) ?x4 (y4 _ _ _ x (w3 aU ?x5 T3))⟩)))))
          case x1=>kernel_rfl
          case x2=>exact ⟨rfl,rfl⟩
          case x3=>walk_at "e"
          case x4=>walk_at "h"
          case x5=>exact (T v hv x).2 (Ko hx)
         | none=>
          rw[hx] at ql;refine aC λu b=>?_;obtain ⟨a8,Y,as,P⟩:=c.far (.head _);have a8:m≠st.length:=a8;have Y:m≠st.length+1:=Y;have P:m≠st.length+3:=P;have hl:=c.len;have hr:aF (v:Int) (qR r)=none:=jQ λh=>(LP.mp (Lx.mp f.ds.nod).1).1 (show v∈(s2 r).map (·.1) from by rw[jh];exact h);have an:r.length+1+fin'.length<=n:=by
           have:=f.ds.len
           rwa [show (s2 ((v,q,m)::r)).length=r.length+1 from Ke ..] at this
          obtain ⟨Y1,z⟩:∃X,X=st1.set m .gone:=⟨_,rfl⟩
          have g1:Y1[st.length]?=Vr (.list ((r.map λt=>Mine.Internal.D.int (t.1:Int)).reverse++[.int (v:Int)])):=by
           rw[z];refine (off' (LV a8) c.stk).trans ?_;unfold yW;rw[KG,MG]
          obtain ⟨Y2,J⟩:∃X,X=Y1.set st.length (.list (r.map λt=>Mine.Internal.D.int (t.1:Int)).reverse):=⟨_,rfl⟩
          have g2:iW Y1 .pop (.loc st.length) []=Vr (.d (.int (v:Int)),Y2):=by rw[J];exact Ff g1
          have g3:Y2[st.length+3]?=Vr (.dict (qR r++[((v:Int),.int (r.length:Int))])):=by rw[J,z];exact off' (by walk_at "n") (off' (LV P) c.n2s)
          obtain ⟨Y3,a7⟩:∃X,X=Y2.set (st.length+3) (.dict (qR r)):=⟨_,rfl⟩
          refine b ?_;have g4:kI Y2 (.loc (st.length+3)) (v:Int)=Vr Y3:=by
           rewrite [Dc g3 ?_ ?_,w0 hr,a7]
           ·rfl
           ·rw[Km,uW];show r.length+1<=_;walk_at "n"
           ·rw[dD,hr];exact congrArg Option.isSome (if_pos rfl)
          have g5:Y3[st.length+1]?=Vr (.nexts ((r.map (·.2.2)).reverse++[m])):=by rw[a7,J,z];exact off' (by walk_at "n") (off' (by walk_at "n") (off' (LV Y) e1))
          refine' lq ?x1 ?x2 (Aw rfl ?x3 Au (ml e1) (zu n4 n3 ql)) (BO (fQ (d:=.bi .stopIteration) ?w1) ?w2 (Gv ?w3 (aT (w3 rfl rfl rfl) ?w4 ?w5 (aS (bm:=.pop) ?w6 ?w7 rfl aL ?w8)) ?w9 (cb rfl (aT (w3 rfl rfl rfl) ?v1 ?v2 (aS (bm:=.pop) ?v3 ?v4 rfl aL ?v6)) (aG ?v5))))
          case x1=>kernel_rfl
          case x2=>exact ⟨rfl,rfl⟩
          case x3=>walk_at "e"
          all_goals try rw[<- z]
          case w1=>kernel_rfl
          case w2=>kernel_rfl
          case w3=>walk_at "e"
          case w4=>decide
          case w5=>walk_at "e"
          case w6=>exact eM g1 rfl
          case w7=>exact eN g1 rfl
          case w8=>exact g2
          case w9=>exact g4
          case v1=>decide
          case v2=>walk_at "e"
          case v3=>exact eM g5 rfl
          case v4=>exact eN g5 rfl
          case v6=>exact Fe g5
          case v5=>
           have H2:=c.pop (st1:=Y3.set (st.length+1) (.nexts (r.map (·.2.2)).reverse)) (by rw[a7,J,z]);refine aC λu b=>?_;obtain ⟨i2,M,T3⟩:=f.pop hx H2;refine b ?_;exact aa _ _ ⟨r.length,w3 (Mb _) (by walk_at "h") ⟨i2,Ox (L6 M C),y3 r _ _ ⟨rfl,T3⟩⟩⟩
end
end
section
set_option linter.all false
section
variable {α:Type}{k:Nat}{cx:Cx}{s s1:St}{t it elt:Kf}{ifs:List Kf}{scope:OL}{pos:Pos}{v:V}{oF:List (Str×V)}{st st':List SObj}{f:α->V}{h:α->Option D}{ps:List α}{l:Nat}{kvs:List (Int×Nat)}
theorem BP:∀{ps:List α}{acc:List D},(∀p∈ps,jx k cx t elt ifs oF st (f p) (h p))->ez (mk k) cx t elt ifs oF (ps.map f) acc st=.ok (acc++ps.filterMap h) ⟨[],st⟩:=@lr _ _ (@λacc _=>by rw[Sq,LG];rfl) (λp ps m=>(@λacc e=>by
  refine aC λj a=>?_;obtain ⟨s,n,q⟩:=e p (.head _);obtain ⟨b,s1,r,l⟩:=q.get;refine a ?_;show optE (dB cx t (f p)) _ _=_;rw[n];show iX (jC _ _ _ _) _=_;rw[r];show cond b _ _=_;rw[K0];cases b with
  | true=>
   refine aC λj a=>?_;obtain ⟨u,s2,o,i,d,rfl,c⟩:=(l.1 rfl).get;refine a ?_;show iX (((mk k).ev cx elt).f s1) _=_;rw[o,c];show ez (mk k) cx t elt ifs oF (ps.map f) (acc++[d]) s2.st=_;rw[i,m λv g=>e v (.tail _ g),KW];rfl
  | false=>
   refine aC λj a=>?_;obtain ⟨i,c⟩:=l.2 rfl;refine a ?_;rw[c];show ez (mk k) cx t elt ifs oF (ps.map f) acc s1.st=_;rw[i];exact m λv g=>e v (.tail _ g)))
theorem kH {F1:List (Str×V)}{T1:List SObj}(c:dM cx it ifs scope) (a:((mk k).ev cx it).f s=.ok v ⟨F1,T1⟩) (b:cS T1 v=Vr (ps.map f,st')) (hz:ps.length<=100000) (d:∀p∈ps,jx k (dW cx scope) t elt ifs (ef scope.names F1) st' (f p) (h p)):(fO (cx:=cx) (mk k) elt t it ifs scope pos).f s=.ok (ps.filterMap h) ⟨F1,st'⟩:=by
 have:(fO (cx:=cx) (mk k) elt t it ifs scope pos).f s=if dM cx it ifs scope then (((mk k).ev cx it).f s).bind λv s=>(li (cx:=cx) (mk k) elt t ifs scope v s).bind .ok else .bad:=rfl
 rw[this,if_pos c];refine aK a (aK (s1:=⟨F1,st'⟩) ?_ rfl);unfold li;rw[b];show (if (ps.map f).length<=100000 then _ else _)=_;rw[if_pos (by rw[Ke];exact hz),BP d];rfl
theorem Ay {F1:List (Str×V)}{T1:List SObj}(c:dM cx it ifs scope) (a:((mk k).ev cx it).f s=.ok v ⟨F1,T1⟩) (b:cS T1 v=Vr (ps.map f,st')) (hz:ps.length<=100000) (d:∀p∈ps,jx k (dW cx scope) t elt ifs (ef scope.names F1) st' (f p) (h p)):(wO (mk k) cx (.ListComp elt [⟨t,it,ifs,0⟩] scope pos)).f s=.ok (.loc st'.length) ⟨F1,st'++[.list (ps.filterMap h)]⟩:=aK (kH (pos:=pos) c a b hz d) rfl
theorem vM (e:st[l]?=Vr (eV kvs)):cS st (.vals l)=Vr (kvs.map λp=>V.loc p.2,st.set l (.fobjs kvs)):=by
 show Kj Vs (Kj Vs ((st[l]?).bind _))=_;rw[e];cases kvs<;>rfl
theorem Fd (e:st[l]?=Vr (eV kvs)):iW st .values (.loc l) []=Vr (.vals l,st):=by
 show KJ _ ((st[l]?).bind _)=_;rw[e];cases kvs<;>rfl
end
structure Rs (st:List SObj) (B n:Nat) (kvs:List (Int×Nat)) (lc:Nat->Nat) (nd su:Nat->List Nat) (k:Nat) (np:Nat->Int) (R:Nat) (rd:List Nat) (po nf:Int):Prop where
 hd:∃r,st=.ctab::r
 inst:st[B]?=Vr (.inst (gO B (.loc R) po nf))
 dict:st[B+1]?=Vr (.fobjs kvs)
 rdy:st[R]?=Vr (.list ((aB rd).map .int))
 node:∀i,i<n->aF (i:Int) kvs=Vr (lc i)/\st[lc i]?=Vr (.node (Vr (.loc (lc i+1))) (Vr (.d (.int (np i)))) (Vr (.d (.int (i:Int)))))
 suc:∀i,i<n->Wk nd k i->st[lc i+1]?=Vr (.list ((aB (su i)).map .int))
 cnt:∀i,i<n->Wk nd k i->np i=(cnt nd k i:Int)
 far:∀i,i<n->lc i+1<R
structure Told (kvs:List (Int×Nat)) (np:Int->Nat) (sI:Int->List Int) (n:Nat) (nd su:Nat->List Nat):Prop where
 all:∀i:Nat,i<n->∃l,aF (i:Int) kvs=Vr l
 np:∀i:Nat,i<n->np i=(nd i).length
 su:∀i:Nat,i<n->sI i=aB (su i)
section
variable {k B n:Nat}{st:List SObj}{kvs:List (Int×Nat)}{np:Int->Nat}{sI:Int->List Int}{nd su:Nat->List Nat}
noncomputable def yD (np:Int->Nat) (kvs:List (Int×Nat)):List Nat:=(kvs.filter λp=>(np p.1:Int)==0).map λp=>p.1.toNat
theorem EU (h:∀p∈kvs,0<=p.1):(kvs.filterMap λp=>cond ((np p.1:Int)==0) (Vr (D.int p.1)) Vs)=(aB (yD np kvs)).map .int:=by
 unfold yD aB;rw[KH,KH,pJ (p:=λp:Int×Nat=>(np p.1:Int)==0) (f:=λp=>D.int p.1)];refine LN λp a=>?_;have:=h p (LQ.mp a).1;show D.int p.1=D.int (p.1.toNat:Int);rw[NB this]
theorem Jb (i:Nat):cnt nd 0 i=(nd i).length:=by
 classical
 unfold cnt;exact List.countP_eq_length.mpr λx _=>@decide_eq_true (Wk nd 0 x) _ trivial
theorem I3 {i:Nat}:Hg nd 0 i<->nd i=[]:=⟨λh=>Ma.mpr λj a=>h.2 ⟨j,a,trivial⟩,λh=>⟨trivial,λ⟨j,a,_⟩=>by rw[h] at a;exact nomatch a⟩⟩
theorem I4 (S:Sa st B n kvs np sI) (T:Told kvs np sI n nd su):Grp nd n 0 (yD np kvs):=by
 have h:∀p∈kvs,∃i:Nat,p.1=(i:Int)/\i<n:=λp c=>⟨p.1.toNat,by have:=S.keys p c;lia,by have:=S.keys p c;lia⟩
 refine ⟨?_,λi=>?_⟩
 ·unfold yD;refine NM.mpr (((NM.mp S.once).sublist M6).imp_of_mem λ{a b} q t r e=>r ?_);have:=S.keys a (LQ.mp q).1;have:=S.keys b (LQ.mp t).1;lia
 ·unfold yD;rw[Ku,I3];refine ⟨λ⟨p,c,e⟩=>?_,λ⟨g,e⟩=>?_⟩
  ·obtain ⟨s,o⟩:=LQ.mp c;obtain ⟨j,k,f⟩:=h p s;have d:=eq_of_beq o;rw[k] at e d;rw[KT] at e;subst e;rw[T.np j f] at d;exact ⟨f,LW (LJ d)⟩
  ·obtain ⟨l,m⟩:=T.all i g;refine ⟨_,LQ.mpr ⟨kD m,?_⟩,KT i⟩;show (((np (i:Int):Nat):Int)==0)=Vt;rw[T.np i g,e];rfl
theorem qM {α:Type}:∀{l:List (Int×α)}{p:Int×α},(l.map (·.1)).Nodup->p∈l->aF p.1 l=Vr p.2
 | q::l,p,h,a=>by
  obtain ⟨b,c⟩:=LP.mp h;show (if q.1=p.1 then Vr q.2 else aF p.1 l)=_;rcases Kw.mp a with rfl | a
  ·exact if_pos rfl
  ·rw[if_neg λ(e:q.1=p.1)=>b (show q.1∈_ by rw[e];exact KU (f:=λp:Int×α=>p.1) a)];exact qM c a
theorem ve {st:List SObj}{x:SObj}(h:st[0]?=Vr x):∃r,st=x::r:=by
 cases st with
 | nil=>exact nomatch h
 | cons a r=>exact ⟨r,by rw[Kd h]⟩
noncomputable abbrev BD (kvs:List (Int×Nat)) (i:Nat):Nat:=(aF (i:Int) kvs).getD 0
noncomputable abbrev Ek (st:List SObj) (B n:Nat) (kvs:List (Int×Nat)) (nd su:Nat->List Nat) (R:Nat) (a:List Nat):Prop:=Rs st B n kvs (BD kvs) nd su 0 (λi=>((nd i).length:Int)) R a 0 0
theorem IO {B:Nat}{a b:V}{c nf:Int}:aY (sn "_ready_nodes") b (gO B a c nf)=gO B b c nf:=rfl
theorem pi (hn:n<=9) (S:Sa st B n kvs np sI) (T:Told kvs np sI n nd su) (Tu:gF nd su n) (z:top n su<1000000):W ((mk (k+36)).call 92 [.loc B] st) (λv s=>s.fr=[]/\v=.d .non/\Ek s.st B n kvs nd su st.length (yD np kvs)/\Ir nd su n (.d .non)) (λc as s=>s.fr=[]/\c=.gbl 55/\Ek s.st B n kvs nd su st.length (yD np kvs)/\∃r,as=[.str (sn "nodes are in a cycle"),.lst ((aB r).map .int)]/\Ring nd n r):=by
 refine bX (fd:=aW 92) (us:=[.loc B]) (fr:=aY (sn "self") (.loc B) []) rfl rfl rfl rfl rfl ?_;have f1:cG st (.loc B) (sn "_ready_nodes")=Vr (.d .non):=fS S.inst rfl rfl;have f2:=S.info;have f3:cZ st (.loc (B+1)) (sn "values")=none:=eM S.dict (by cases kvs<;>rfl);have f4:hS st (.loc (B+1)) (sn "values")=Vr .values:=eN S.dict (by cases kvs<;>kernel_rfl);have hk:kvs.length<=9:=Lr (uX S.keys S.once) hn;obtain ⟨j,g⟩:∃X,X=st.set (B+1) (.fobjs kvs):=⟨_,rfl⟩
 have t:∀{p o},st[p]?=Vr o->o≠eV kvs->j[p]?=Vr o:=λ{p o} h H=>by rw[g];exact aP h S.dict H
 have U:j.length=st.length:=by rw[g,KZ]
 have P:∀{a b c},SObj.node a b c≠eV kvs:=by cases kvs<;>exact nofun
 have nl:∀{ds},SObj.list ds≠eV kvs:=by cases kvs<;>exact nofun
 have O:∀{a},SObj.inst a≠eV kvs:=by cases kvs<;>exact nofun
 have nc:SObj.ctab≠eV kvs:=by cases kvs<;>exact nofun
 refine' dN (cU ?a1 ?a2 ?a3 eI vb) (aG (fM (Ay (f:=λp:Int×Nat=>V.loc p.2) (h:=λp=>cond ((np p.1:Int)==0) (Vr (D.int p.1)) Vs) (ps:=kvs) (st':=j) ?b1 (aT (w3 rfl rfl rfl) ?b2 ?b3 (aS (bm:=.values) ?b4 ?b5 rfl aL ?af)) ?b6 ?b7 (λp I=>?b8)) ?b9 ?ab ?aa))
 case a1=>rfl
 case a2=>rfl
 case a3=>walk_at "e"
 case b1=>exact w4 rfl rfl rfl (by decide)
 case b2=>decide
 case b3=>walk_at "e"
 case b4=>exact f3
 case b5=>exact f4
 case b6=>rw[g];exact vM S.dict
 case b7=>walk_at "n"
 case af=>exact Fd S.dict
 case b8=>
  have q:aF p.1 kvs=Vr p.2:=qM S.once I;have x:=t (S.node p.1 p.2 q).1 P;refine' rn ?c1 (cU ?c2 ?c3 (eJ ?c4 ?c5 ?c6) dY kK) (λ_=>eJ ?c7 ?c8 ?c9) ?ae ?ac
  case c1=>kernel_rfl
  case c2=>rfl
  case c3=>rfl
  case c4=>rfl
  case c5=>walk_at "e"
  case c6=>exact gE x rfl
  case c7=>rfl
  case c8=>walk_at "e"
  case c9=>exact gE x rfl
  case ae=>rfl
  case ac=>rfl
 case b9=>walk_at "e"
 case ab=>exact jg (aE (t S.inst O)) ⟨rfl,Ky rfl⟩ rfl
 rw[EU λp I=>(S.keys p I).1,IO,U];obtain ⟨X,A⟩:∃X,X=(j++[SObj.list ((aB (yD np kvs)).map .int)]).set B (.inst (gO B (.loc st.length) 0 0)):=⟨_,rfl⟩
 rw[<- A];have J:=aE (r:=[SObj.list ((aB (yD np kvs)).map .int)]) (t S.inst O);have E:∀{p o},j[p]?=Vr o->o≠SObj.inst (gO B (.d .non) 0 0)->X[p]?=Vr o:=λ{p o} h H=>by rw[A];exact aP (aE h) J H
 have L:X[B]?=Vr (.inst (gO B (.loc st.length) 0 0)):=by rw[A];exact bA J
 have N:X[B+1]?=Vr (.fobjs kvs):=E (by rw[g];exact bA S.dict) nofun;have gr:X[st.length]?=Vr (.list ((aB (yD np kvs)).map .int)):=by rw[A];exact aP (bH U.symm) J nofun
 have w:∀i,i<n->aF (i:Int) kvs=Vr (BD kvs i)/\X[BD kvs i]?=Vr (uQ (BD kvs i) (nd i).length i)/\X[BD kvs i+1]?=Vr (.list ((aB (su i)).map .int)):=λi e=>by
  obtain ⟨l,q⟩:=T.all i e;obtain ⟨x,M⟩:=S.node i l q;unfold BD;rw[q,<- T.np i e,<- T.su i e];exact w3 rfl (E (t x P) nofun) (E (t M nl) nofun)
 have gf:∀i,i<n->BD kvs i+1<st.length:=λi e=>by
  obtain ⟨l,q⟩:=T.all i e;unfold BD;rw[q];exact (Kh.mp (S.node i l q).2).1
 have y:∃r,X=.ctab::r:=by
  obtain ⟨r,y⟩:=S.hd;exact ve (E (t (by rw[y];rfl) nc) nofun)
 have G:Gs X B n kvs (BD kvs) su:=⟨⟨_,w3 L rfl rfl⟩,N,λi e=>w3 ((w i e).1) ⟨_,(w i e).2.1⟩ ((w i e).2.2),S.keys⟩
 obtain ⟨v,⟨_,m⟩,Q,F,K,C⟩:=(tM (k:=k+1) G Tu hn z).get;obtain rfl:=show _=[] from F
 have u:∀{p o},X[p]?=Vr o->m[p]?=Vr o:=λ{p o} h=>(K p (Kh.mp h).1).trans h;have Y:Ek m B n kvs nd su st.length (yD np kvs):=⟨by obtain ⟨r,y⟩:=y;exact ve (u (by rw[y];rfl)),u L,u N,u gr,λi e=>⟨(w i e).1,u (w i e).2.1⟩,λi e _=>u (w i e).2.2,λi e _=>by rw[Jb],gf⟩
 refine' bT ?d1 ?d2 (aT (w3 rfl rfl rfl) ?d3 ?d4 (cF ?d5 ?d6 aL (fA ?d7 ?d9))) ?d8
 case d1=>kernel_rfl
 case d2=>exact ⟨rfl,rfl⟩
 case d3=>decide
 case d4=>walk_at "e"
 case d5=>exact (cB L rfl).trans rfl
 case d6=>rfl
 case d7=>kernel_rfl
 case d9=>exact Q
 rcases C with ⟨rfl,C⟩ | ⟨c,rfl,R⟩
 ·refine' dN (jd ?h1 ?h3) (aG (aG ?h2))
  case h1=>walk_at "e"
  case h3=>rfl
  case h2=>exact w4 rfl rfl Y (.inl ⟨rfl,C⟩)
 ·have tr:cc m (.d (.lst ((aB c).map .int)))=Vr true:=by
   rw[EE];have:=R.len
   match c,this with
   | a::l,_=>rfl
  refine' lJ (jd ?e1 ?e0) (oD ?e2 ?e3 (aI rfl (FT ?e4) (aI rfl ?e5 aL)) ?e6 ?e7 ?e8)
  case e1=>walk_at "e"
  case e0=>exact tr
  case e2=>exact w3 rfl rfl nofun
  case e3=>kernel_rfl
  case e4=>exact Ky rfl
  case e5=>walk_at "e"
  case e6=>walk_at "d"
  case e7=>exact Ky rfl
  case e8=>exact w4 rfl rfl Y ⟨c,rfl,R⟩
end
end
section
set_option linter.all false
noncomputable def E9 (needs:List (List Int)):Nat->Int->Nat
 | 0=>λ_=>0
 | j+1=>xP (E9 needs j) (j:Int) (E9 needs j (j:Int)+((needs[j]?).getD []).length)
noncomputable def vT (needs:List (List Int)):Nat->Int->List Int
 | 0=>λ_=>[]
 | j+1=>xx (vT needs j) (j:Int) ((needs[j]?).getD [])
noncomputable def By (needs:List (List Int)) (i:Nat):List Nat:=(vT needs needs.length (i:Int)).map OW
section
variable {needs:List (List Int)}{n:Nat}
theorem E8:∀{j x:Nat},E9 needs j (x:Int)=if x<j then ((needs[x]?).getD []).length else 0:=@nr _ (@λx=>(if_neg (L8 _)).symm) (λj a=>(@λx=>by
  show (if (x:Int)=(j:Int) then E9 needs j (j:Int)+_ else E9 needs j (x:Int))=_;by_cases e:x=j
  ·refine rp e ?_;rw[if_pos rfl,a,if_neg (MC _),if_pos (Mb _),L2]
  ·rw[if_neg (λ(h:(x:Int)=(j:Int))=>e (LJ h)),a];by_cases h:x<j
   ·rw[if_pos h,if_pos (Ml h)]
   ·rw[if_neg h,if_neg (by (first | walk_at "m" | lia))]))
theorem pa:∀{j:Nat}{x y:Int},y∈vT needs j x->0<=y/\y<(j:Int):=@nr _ (@λ_ _ h=>nomatch h) (λj a=>(@λx y h=>by
  have h:y∈vT needs j x++(((needs[j]?).getD []).filter (·==x)).map λ_=>(j:Int):=h;rcases Kx.mp h with h | h
  ·have:=a h;walk_at "n"
  ·obtain ⟨_,_,rfl⟩:=Ku.mp h;walk_at "n"))
theorem uy (h:∀l∈needs,l.length<=9):∀{j:Nat}{x:Int},(vT needs j x).length<=9*j:=@nr _ (@λ_=>KL _) (λj a=>(@λx=>by
  have b:=a (x:=x);have:=ux (su:=vT needs j) (i:=(j:Int)) (ps:=(needs[j]?).getD []) b;have c:((needs[j]?).getD []).length<=9:=by
   cases e:needs[j]? with
   | none=>exact LE _
   | some l=>exact h l (Ko e)
  show (xx (vT needs j) (j:Int) ((needs[j]?).getD []) x).length<=_;walk_at "n"))
theorem rG {x y:Int}:∀{l:List Int},((l.filter (·==x)).map λ_=>y).count y=l.count x:=@lr _ _ (rfl) (λa l b=>by
  rw[Mt,Oe,<- b];cases h:a==x with
  | true=>rw[if_pos rfl,if_pos rfl,KG,List.count_cons_self]
  | false=>rw[if_neg (by decide),if_neg (by decide)];rfl)
theorem vS:∀{j s:Nat}{x:Int},(vT needs j x).count (s:Int)=if s<j then ((needs[s]?).getD []).count x else 0:=@nr _ (@λs x=>(if_neg (L8 _)).symm) (λj a=>(@λs x=>by
  show (vT needs j x++(((needs[j]?).getD []).filter (·==x)).map λ_=>(j:Int)).count (s:Int)=_;rw[P1,a];by_cases e:s=j
  ·subst e;rw[if_neg (MC _),if_pos (Mb _),rG,L2]
  ·rw[show ((((needs[j]?).getD []).filter (·==x)).map λ_=>(j:Int)).count (s:Int)=0 from Ss.mpr λm=>by
    obtain ⟨_,_,h⟩:=Ku.mp m;exact e (LJ h).symm]
   by_cases h:s<j
   ·rw[if_pos h,if_pos (Ml h)];rfl
   ·rw[if_neg h,if_neg (by (first | walk_at "m" | lia))]))
theorem lh {s:Nat}:∀{l:List Int},(∀x∈l,0<=x)->(l.map OW).count s=l.count (s:Int):=@lr _ _ (@λ_=>rfl) (λa l b=>(@λh=>by
  have d:=h a (.head _);rw[KG,Oe,Oe,b λx c=>h x (.tail _ c)]
  congr 1
  by_cases e:a=(s:Int)
  ·refine rp e ?_;rw[KT,beq_self_eq_true,beq_self_eq_true]
  ·rw[beq_eq_false_iff_ne.mpr e,beq_eq_false_iff_ne.mpr (by walk_at "n" : a.toNat≠s)]))
theorem sd (d:xw needs needs.length):gF (ndOf needs) (By needs) needs.length:=λi e s=>by
 refine ⟨λhs=>?_,λb=>?_⟩
 ·unfold By ndOf;rw[lh λx a=>(pa a).1,vS,if_pos hs,lh λx a=>(d.at_ s x a).1]
 ·obtain ⟨y,c,rfl⟩:=Ku.mp b;have:=pa c
  (first | walk_at "m" | lia)
theorem yb (i:Nat):vT needs needs.length (i:Int)=aB (By needs i):=by
 unfold aB By;rw[KH];exact ((LN λx a=>by
  show ((x.toNat:Nat):Int)=id x;rw[NB (pa a).1];rfl).trans (N6 _)).symm
theorem Fb (i:Nat):(ndOf needs i).length=((needs[i]?).getD []).length:=by
 unfold ndOf;rw[Ke]
theorem EH (h:∀l∈needs,l.length<=9) (hn:needs.length<=9):top needs.length (By needs)<1000000:=by
 have:∀l:List Nat,(l.map λx=>(By needs x).length+2).sum<=83*l.length:=λl=>by
  induction l with
  | nil=>exact KL _
  | cons a l b=>
   have:=uy h (j:=needs.length) (x:=(a:Int));rw[KG,L7,Lw];have e:(By needs a).length=(vT needs needs.length (a:Int)).length:=Ke ..;walk_at "n"
 have:=this (KC needs.length);rw[KI] at this;unfold top;walk_at "n"
end
end
section
set_option linter.all false
section
variable {k:Nat}{cx:Cx}{s s1 s2:St}{e:Kf}{es:List Kf}{p:Pos}{m:Nat}{g:∀e,Ev k cx e}{c:D}{as:List D}{v:V}
theorem Jn (a:bb e=Vs) (h:(g e).f s=.exn c as s1):bM g (e::es) s=.exn c as s1:=by
 show Mine.Internal.optE (bb e) _ _=_;rw[a];exact nq h
theorem Jm (a:bb e=Vs) (h:(g e).f s=.ok v s1) (b:bM g es s1=.exn c as s2):bM g (e::es) s=.exn c as s2:=by
 show Mine.Internal.optE (bb e) _ _=_;rw[a];exact aK h (nq b)
theorem C7 (a:aO es=Vt) (h:bM ((mk k).ev cx) es s=.exn c as s1):((mk (k+1)).ev cx (.Tuple es m p)).f s=.exn c as s1:=(if_pos a).trans (nq h)
theorem yt {ps:List Int}:v7 (.d (.lst (ps.map .int)))=Vr (ps.map λx=>V.d (.int x)):=by
 show Vr (((ps.map D.int)).map V.d)=_;rw[KH];rfl
end
theorem Sa.app {st r:List SObj}{B n:Nat}{kvs:List (Int×Nat)}{a:Int->Nat}{su:Int->List Int}(S:Sa st B n kvs a su):Sa (st++r) B n kvs a su:=by
 obtain ⟨q,b⟩:=S.hd;exact ⟨⟨q++r,by rw[b];rfl⟩,aE S.inst,aE S.dict,λk l h=>⟨aE (S.node k l h).1,aE (S.node k l h).2⟩,S.new,S.keys,S.once⟩
theorem Rs.app {st r:List SObj}{B n k R:Nat}{kvs:List (Int×Nat)}{b:Nat->Nat}{c su:Nat->List Nat}{e:Nat->Int}{f:List Nat}{d nf:Int}(S:Rs st B n kvs b c su k e R f d nf):Rs (st++r) B n kvs b c su k e R f d nf:=by
 obtain ⟨q,g⟩:=S.hd;exact ⟨⟨q++r,by rw[g];rfl⟩,aE S.inst,aE S.dict,aE S.rdy,λi a=>⟨(S.node i a).1,aE (S.node i a).2⟩,λi a w=>aE (S.suc i a w),S.cnt,S.far⟩
def Jo (st:List SObj) (n:Nat) (a su:Nat->List Nat) (v:V):Prop:=∃(B:Nat) (kvs:List (Int×Nat)) (R:Nat) (b:List Nat) (d:D),v=.pair B d/\Ek st B n kvs a su R b/\Grp a n 0 b/\((d=.non/\Ir a su n (.d .non))\/∃r,d=.tup [.str (sn "nodes are in a cycle"),.lst ((aB r).map .int)]/\Ring a n r)
theorem kQ {k:Nat}{st:List SObj}{needs:List (List Int)}(O:∃r,st=.ctab::r) (hn:needs.length<=9) (J:xw needs needs.length) (G:∀l∈needs,l.length<=9):W ((mk (k+44)).call 306 [.d (.lst (needs.map λl=>.lst (l.map .int)))] st) (λv s=>s.fr=[]/\Jo s.st needs.length (ndOf needs) (By needs) v) noE:=by
 refine aC λw a=>?_;obtain ⟨U,F⟩:=O;refine a ?_;refine bX (fd:=aW 306) (us:=[.d (.lst (needs.map λl=>.lst (l.map .int)))]) (fr:=aY (sn "needs") (.d (.lst (needs.map λl=>.lst (l.map .int)))) []) rfl rfl rfl rfl rfl ?_;have i0:=CQ (k:=k+29) (st:=st) (B:=st.length) rfl;refine' bT ?a1 ?a2 (fX 137 ?a3 ?a4 ?a5 ?a6 ?a7 aL ?a8 ?a9) (ed rfl (w3 rfl rfl rfl) ?b1 ?b2)
 case a1=>kernel_rfl
 case a2=>exact ⟨rfl,rfl⟩
 case a3=>rfl
 case a4=>rfl
 case a5=>kernel_rfl
 case a6=>exact ⟨rfl,rfl⟩
 case a7=>rfl
 case a8=>kernel_rfl
 case a9=>exact i0
 case b1=>walk_at "e"
 rw[Ke];refine eB (N:=needs.length) (λj fr m=>jb fr [(sn "sorter",.loc st.length),(sn "needs",.d (.lst (needs.map λl=>.lst (l.map .int))))]/\∃b,Sa m st.length needs.length b (E9 needs j) (vT needs j)/\∀x:Nat,x<j->(aF (x:Int) b).isSome=Vt) (by walk_at "n") rfl ⟨by walk_at "h",[],?_,λx h=>absurd h (L8 _)⟩ (λj fr m z A=>?_) λfr m A=>?_
 ·exact ⟨⟨U++[.inst (gO st.length (.d .non) 0 0),.dict []],by rw[F];rfl⟩,bH rfl,by rw[Qd];exact bH (by rw[Km];rfl),λk l h=>(nomatch h),λk _=>⟨rfl,rfl⟩,nofun,.nil⟩
 ·refine aC λw a=>?_;obtain ⟨hf,b,S,K⟩:=A;have M:(needs.map λl=>D.lst (l.map .int))[j]?=Vr (.lst (((needs[j]?).getD []).map .int)):=by
   rw[Kv,Kl z];rfl
  have Y:((needs[j]?).getD []).length<=9:=by
   rw[Kl z];exact G _ (Ms z)
  obtain ⟨v,⟨_,Q⟩,e,rfl,g,kvs2,n,K2⟩:=(Bn (k:=k+9) (i:=(j:Int)) (ps:=(needs[j]?).getD []) (Lr hn (by decide)) S ⟨LC _,MD.mpr z⟩ (J.at_ j) (Lr Y (by decide)) (C:=9*j) (by walk_at "n") (λx=>uy G)).get;refine a ?_;obtain rfl:=show _=[] from g
  have T:=S.frzI;refine' cb rfl (aT (w3 rfl rfl rfl) ?c1 ?c2 (cF ?c3 ?c4 (aI rfl ?c5 (ug rfl ?c6 yt)) (fA ?c7 ?c8))) (aG ⟨?c9,kvs2,?aa,λx M=>(K2 x).mpr ?ae⟩)
  case c1=>decide
  case c2=>walk_at "e"
  case c3=>exact (cB S.inst rfl).trans rfl
  case c4=>rfl
  case c5=>walk_at "e"
  case c6=>walk_at "e"
  case c7=>kernel_rfl
  case c8=>exact e
  case aa=>exact n
  case c9=>walk_at "h"
  case ae=>
   rcases MB.mp M with h | h
   ·exact .inl (K x h)
   ·exact .inr (.inl (by rw[h]))
 ·refine aC λw a=>?_;obtain ⟨hf,b,S,K⟩:=A;refine a ?_;have H:Told b (E9 needs needs.length) (vT needs needs.length) needs.length (ndOf needs) (By needs):=⟨λi y=>Option.isSome_iff_exists.mp (K i y),λi y=>by rw[E8,if_pos y,Fb],λi y=>yb i⟩
  have ey:=As (k:=k+15) S.inst;have n:=S.app (r:=[.exc (.bi .valueError) [.str gx]]);have T:=S.frzI;have aa:=n.frzI;have L:=I4 n H;have t:=pi (k:=k) hn n H (sd J) (EH G hn);have up:∀{r q:List SObj}{p:Nat} {o},(r)[p]?=Vr o->(r++q)[p]?=Vr o:=aE;refine' aG (dN (sh (je (fX 299 ?d1 ?d2 ?d3 ?d4 ?d5 ?d6 ?d7 ?d8) fG)) (aG (qc ⟨rfl,rfl⟩ ?d9)))
  case d1=>rfl
  case d2=>rfl
  case d3=>kernel_rfl
  case d4=>exact ⟨rfl,rfl⟩
  case d5=>rfl
  case d6=>walk_at "e"
  case d7=>kernel_rfl
  case d8=>exact ey
  have I:cZ (m++[.exc (.bi .valueError) [.str gx]]) (.loc st.length) (sn "prepare")=Vr 92:=(cB n.inst rfl).trans rfl;cases u:(mk (k+36)).call 92 [.loc st.length] (m++[.exc (.bi .valueError) [.str gx]]) with
  | bad=>rw[u] at t;exact t.elim
  | ok v s=>
   rw[u] at t;refine aC λw a=>?_;obtain ⟨g,rfl,RS,C⟩:=t;obtain ⟨_,f⟩:=s;refine a ?_;obtain rfl:=show _=[] from g
   refine' cg (oo ?e1 (aI rfl ?e2 (aI rfl (aT (w3 rfl rfl rfl) ?e3 ?e4 (cF ?e5 ?e6 aL (fA ?e7 ?e0))) aL)) ?e8) ?e9
   case e1=>rfl
   case e2=>walk_at "e"
   case e3=>decide
   case e4=>walk_at "e"
   case e5=>exact I
   case e6=>rfl
   case e7=>kernel_rfl
   case e0=>exact u
   case e8=>rfl
   case e9=>exact ⟨rfl,y5 st.length b _ _ .non (w4 rfl RS L (.inl ⟨rfl,C⟩))⟩
  | exn c as s=>
   rw[u] at t;refine aC λw a=>?_;obtain ⟨g,rfl,RS,r,rfl,R⟩:=t;obtain ⟨_,f⟩:=s;refine a ?_;obtain rfl:=show _=[] from g
   refine' BI (C7 ?f1 (Jm rfl ?f2 (Jn rfl (rB (w3 rfl rfl rfl) ?f3 ?f4 ?f5 ?f6 aL (uJ ?f7 ?f0))))) ?f9
   case f1=>rfl
   case f2=>walk_at "e"
   case f3=>decide
   case f4=>walk_at "e"
   case f5=>exact I
   case f6=>rfl
   case f7=>kernel_rfl
   case f0=>exact u
   have E:dQ (f++[.exc (.gbl 55) [.str (sn "nodes are in a cycle"),.lst ((aB r).map .int)]]) st.length=none:=by
    unfold dQ;rw[aE RS.inst];rfl
   have P:cG (f++[.exc (.gbl 55) [.str (sn "nodes are in a cycle"),.lst ((aB r).map .int)]]) (.loc f.length) (sn "args")=Vr (.d (.tup [.str (sn "nodes are in a cycle"),.lst ((aB r).map .int)])):=by
    show ((f++[SObj.exc _ _])[f.length]?).bind _=_;rw[bH rfl];kernel_rfl
   refine' oH (fQ (d:=.gbl 55) ?m1) ?m2 ?m3 (cg (oo ?m4 (aI rfl ?m5 (aI rfl (eJ ?ac (gy ?ag ?ab) ?ah) aL)) ?af) ?ai)
   case m1=>kernel_rfl
   case m2=>kernel_rfl
   case m3=>kernel_rfl
   case m4=>rfl
   case m5=>exact ka rfl (by walk_at "g") E
   case ac=>rfl
   case ag=>kernel_rfl
   case ab=>walk_at "g"
   case ah=>exact P
   case af=>rfl
   case ai=>exact ⟨rfl,y5 st.length b _ _ _ (w4 rfl RS.app L (.inr ⟨r,rfl,R⟩))⟩
end
section
set_option linter.all false
section
variable {st:List SObj}{l:Nat}{ds:List D}
theorem Cw (h:st[l]?=Vr (.list ds)):iW st .clear (.loc l) []=Vr (.d .non,st.set l (.list [])):=by
 show KJ _ ((st[l]?).bind _)=_;rw[h];rfl
theorem Dn (h:st[l]?=Vr (.list ds)):bI st .tuple [.loc l]=Vr (.tup ds):=by
 show KJ _ (Kj Vs ((st[l]?).bind _))=_;rw[h];rfl
theorem A8 (h:st[l]?=Vr (.list ds)):bI st .bool [.loc l]=Vr (.bool (!ds.isEmpty)):=by
 show KJ _ (Kj Vs ((st[l]?).bind _))=_;rw[h];rfl
theorem xI (h:st[l]?=Vr (.list ds)):cS st (.loc l)=Vr (ds.map .d,st.set l .gone):=by
 show Kj Vs (Kj ((st[l]?).bind _) _)=_;rw[h];rfl
end
noncomputable abbrev nod (a:Nat->Nat) (i:Nat) (v:Int):SObj:=.node (Vr (.loc (a i+1))) (Vr (.d (.int v))) (Vr (.d (.int (i:Int))))
structure Rb (st:List SObj) (B n N:Nat) (kvs:List (Int×Nat)) (lc:Nat->Nat) (su:Nat->List Nat) (P:Nat->Prop) (np:Nat->Int) (R:Nat) (rd:List Nat) (po nf:Int):Prop where
 hd:∃r,st=.ctab::r
 inst:st[B]?=Vr (.inst (gO B (.loc R) po nf))
 dict:st[B+1]?=Vr (.fobjs kvs)
 rdy:st[R]?=Vr (.list ((aB rd).map .int))
 node:∀i,i<n->aF (i:Int) kvs=Vr (lc i)/\st[lc i]?=Vr (nod lc i (np i))
 suc:∀i,i<n->P i->st[lc i+1]?=Vr (.list ((aB (su i)).map .int))
 far:∀i,i<n->lc i+1<R
 lt:B+1<N/\R<N
def nJ (N:Nat) (st st':List SObj):Prop:=st'.length=st.length/\∀p,N<=p->st'[p]?=st[p]?
section
variable {st st' st2:List SObj}{B n N R i m:Nat}{kvs:List (Int×Nat)}{lc:Nat->Nat}{su nd:Nat->List Nat}{P:Nat->Prop}{np:Nat->Int}{rd g:List Nat}{po nf v:Int}{k:Nat}
theorem nJ.refl:nJ N st st:=⟨rfl,λ_ _=>rfl⟩
theorem nJ.set {q:Nat}{o:SObj}(h:nJ N st st') (b:q<N):nJ N st (st'.set q o):=⟨by rw[KZ];exact h.1,λp a=>(LL (by lia)).trans (h.2 p a)⟩
theorem nJ.trans (h:nJ N st st') (b:nJ N st' st2):nJ N st st2:=⟨b.1.trans h.1,λp a=>(b.2 p a).trans (h.2 p a)⟩
theorem fb {q:Nat}{o x y:SObj}(h:∃r,st=.ctab::r) (c:st[q]?=Vr x) (b:SObj.ctab≠x):∃r,st.set q o=.ctab::r:=by
 obtain ⟨r,a⟩:=h;exact ve (aP (by rw[a];rfl) c b)
theorem Rb.setI (S:Rb st B n N kvs lc su P np R rd po nf) (a b:Int):Rb (st.set B (.inst (gO B (.loc R) a b))) B n N kvs lc su P np R rd a b:=⟨fb (y:=.gone) S.hd S.inst nofun,bA S.inst,aP S.dict S.inst nofun,aP S.rdy S.inst nofun,λi c=>⟨(S.node i c).1,aP (S.node i c).2 S.inst nofun⟩,λi c p=>aP (S.suc i c p) S.inst nofun,S.far,S.lt⟩
theorem Rb.setR (S:Rb st B n N kvs lc su P np R rd po nf) (b:List Nat):Rb (st.set R (.list ((aB b).map .int))) B n N kvs lc su P np R b po nf:=⟨fb (y:=.gone) S.hd S.rdy nofun,aP S.inst S.rdy nofun,aP S.dict S.rdy nofun,bA S.rdy,λi a=>⟨(S.node i a).1,aP (S.node i a).2 S.rdy nofun⟩,λi a p=>bG (by have:=S.far i a;walk_at "n") (S.suc i a p),S.far,S.lt⟩
noncomputable def oJ (f:Nat->Int) (i:Nat) (a:Int) (x:Nat):Int:=if x=i then a else f x
theorem Rb.inj (S:Rb st B n N kvs lc su P np R rd po nf){x:Nat}(b:x<n) (a:i<n) (c:x≠i):lc x≠lc i:=λe=>by
 have h:=(S.node x b).2;rw[e,(S.node i a).2] at h;injection h with h
 injection h with _ _ h
 injection h with h
 injection h with h
 injection h with h
 exact c (LJ h).symm
theorem Rb.setN (S:Rb st B n N kvs lc su P np R rd po nf) (b:i<n) (v:Int):Rb (st.set (lc i) (nod lc i v)) B n N kvs lc su P (oJ np i v) R rd po nf:=by
 have h:=(S.node i b).2;refine ⟨fb (y:=.gone) S.hd h nofun,aP S.inst h nofun,aP S.dict h nofun,aP S.rdy h nofun,λx a=>⟨(S.node x a).1,?_⟩,λx a p=>aP (S.suc x a p) h nofun,S.far,S.lt⟩;unfold oJ;by_cases e:x=i
 ·refine rp e ?_;rw[if_pos rfl];exact bA h
 ·rw[if_neg e];exact bG (S.inj a b e) (S.node x a).2
theorem Rb.gone (S:Rb st B n N kvs lc su P np R rd po nf) (b:i<n) (c:P i):Rb (st.set (lc i+1) .gone) B n N kvs lc su (λx=>P x/\x≠i) np R rd po nf:=by
 have h:=S.suc i b c;exact ⟨fb (y:=.gone) S.hd h nofun,aP S.inst h nofun,aP S.dict h nofun,bG (by have:=S.far i b;walk_at "n") S.rdy,λx a=>⟨(S.node x a).1,aP (S.node x a).2 h nofun⟩,λx a p=>bG (λe=>S.inj a b p.2 (by walk_at "n")) (S.suc x a p.1),S.far,S.lt⟩
theorem Rb.lcN (S:Rb st B n N kvs lc su P np R rd po nf) (a:i<n):lc i+1<N:=O6 (S.far i a) S.lt.2
theorem Rb.at_ (S:Rb st B n N kvs lc su P np R rd po nf):cG st (.loc B) (sn "_ready_nodes")=Vr (.loc R)/\cG st (.loc B) (sn "_node2info")=Vr (.loc (B+1))/\cG st (.loc B) (sn "_npassedout")=Vr (.d (.int po))/\cG st (.loc B) (sn "_nfinished")=Vr (.d (.int nf)):=(w4 (fS S.inst rfl rfl) (fS S.inst rfl rfl) (fS S.inst rfl rfl) (fS S.inst rfl rfl))
theorem Rb.ix (S:Rb st B n N kvs lc su P np R rd po nf) (a:i<n):bE (.loc (B+1)) (.d (.int (i:Int))) st=Vr (.loc (lc i)):=DX S.dict (S.node i a).1
theorem IM {B:Nat}{a:V}{x po nf:Int}:aY (sn "_npassedout") (.d (.int x)) (gO B a po nf)=gO B a x nf:=rfl
theorem IN {B:Nat}{a:V}{x po nf:Int}:aY (sn "_nfinished") (.d (.int x)) (gO B a po nf)=gO B a po x:=rfl
theorem xr (S:Rb st B n N kvs lc su P np R [] po po):(mk (k+14)).call 106 [.loc B] st=.ok (.d (.bool Vu)) ⟨[],st⟩:=by
 obtain ⟨g,b,h,f⟩:=S.at_;have a:bV st .Lt (.d (.int po)) (.d (.int po))=Vr false:=by
  show Vr (decide (po<po))=_;rw[decide_eq_false (Int.lt_irrefl _)]
 have e:bI st .bool [.loc R]=Vr (.bool Vu):=A8 S.rdy;refine W.eq (bX (fd:=aW 106) (us:=[.loc B]) (fr:=aY (sn "self") (.loc B) []) rfl rfl rfl rfl rfl ?_);refine' dN (cU ?a1 ?a2 ?a3 eI pB) (aG (cg (mY (A0 (c:=Vu) (mX ?b1 ?b2 ?b3 ?b4 a) ?b5 ?b6 (tX ?b7))) ?b8))
 case a1=>rfl
 case a2=>rfl
 case a3=>walk_at "e"
 case b1=>rfl
 case b2=>rfl
 case b3=>walk_at "e"
 case b4=>walk_at "e"
 case b5=>rfl
 case b6=>rfl
 case b7=>walk_at "e"
 case b8=>exact ⟨rfl,rfl⟩
theorem sK (S:Rb st B n N kvs lc su P np R rd po nf) (C:∀i∈rd,i<n) (hz:rd.length<=1000):W ((mk (k+24)).call 99 [.loc B] st) (λv s=>v=.d (.tup ((aB rd).map .int))/\s.fr=[]/\nJ N st s.st/\∃a,Rb s.st B n N kvs lc su P a R [] (po+rd.length) nf/\∀i,a i=if i∈rd then -1 else np i) noE:=by
 refine aC λu f=>?_;obtain ⟨L,f2,_,_⟩:=S.at_;refine f ?_;have z:bI st .tuple [.loc R]=Vr (.tup ((aB rd).map .int)):=Dn S.rdy;refine W.abs λQ y=>?_;refine bX (fd:=aW 99) (us:=[.loc B]) (fr:=aY (sn "self") (.loc B) []) rfl rfl rfl rfl rfl ?_;refine' dN (cU ?a1 ?a2 ?a3 eI pB) (aG (bT ?b1 ?b2 ?b3 (bT ?c1 ?c2 ?c3 (ed rfl (w3 rfl rfl rfl) ?d1 ?d2))))
 case a1=>rfl
 case a2=>rfl
 case a3=>walk_at "e"
 case b1=>kernel_rfl
 case b2=>exact ⟨rfl,rfl⟩
 case b3=>walk_at "e"
 case c1=>kernel_rfl
 case c2=>exact ⟨rfl,rfl⟩
 case c3=>walk_at "e"
 case d1=>walk_at "e"
 refine iq jz (λj fr b=>jb fr [(sn "self",.loc B),(sn "result",.d (.tup ((aB rd).map .int))),(sn "n2i",.loc (B+1))]/\nJ N st b/\∃a,Rb b B n N kvs lc su P a R rd po nf/\∀i,a i=if i∈rd.take j then -1 else np i) (w3 (by walk_at "h") nJ.refl ⟨np,S,λi=>(if_neg λh=>nomatch h).symm⟩) (λj d fr b o r=>?_) λfr b r=>?_
 ·refine aC λu f=>?_;obtain ⟨A,K,a,c,g⟩:=r;unfold aB at o;rw[KH,Kv] at o;obtain ⟨i,w,rfl⟩:=KY.mp o;refine f ?_;have l:=C i (Ko w);have E:=c.ix l;refine y2 _ (aY (sn "node") (.d (.int (i:Int))) fr) (w3 (eK rfl) rfl ?_);refine W.abs λR1 t=>?_;refine' fM (ig ?e0 (fQ (d:=.int (-1)) ?e1)) ?e2 ?e3 (aG (t _ _ (w3 ?e4 (K.set (q:=lc i) (by have:=c.lcN l;(first | walk_at "m" | lia))) ⟨_,c.setN l (-1),λx=>?e5⟩)))
  case e0=>rfl
  case e1=>kernel_rfl
  case e2=>exact cE rfl (gz rfl (gy rfl (by walk_at "g")) (fY rfl aU) E)
  case e3=>exact jf (c.node i l).2 rfl jJ
  case e4=>walk_at "h"
  case e5=>
   unfold oJ;rw[g,Le,w];by_cases e:x=i
   ·rw[if_pos e,if_pos (show x∈rd.take j++(Vr i).toList from Ll _ (show x∈[i] by rw[e];exact .head _))]
   ·rw[if_neg e];by_cases h:x∈rd.take j
    ·rw[if_pos h,if_pos (L5 _ h)]
    ·rw[if_neg h,if_neg (λ(m:x∈rd.take j++(Vr i).toList)=>(Kx.mp m).elim h λm=>e (Kk.mp m))]
 ·refine aC λu f=>?_;obtain ⟨A,K,a,c,g⟩:=r;rw[Ke,show (aB rd).length=rd.length from Ke ..,Mr] at g;have p:=c.setR [];have G:=p.setI (po+rd.length) nf;obtain ⟨U,J,g3,T⟩:=c.at_;obtain ⟨O,H,F,M⟩:=p.at_;refine f ?_;have I:dQ b B=none:=by unfold dQ;rw[c.inst];rfl
  have Y:bI (b.set R (.list [])) .len [.d (.tup ((aB rd).map .int))]=Vr (.int (rd.length:Int)):=by
   rw[vC,Ke,show (aB rd).length=rd.length from Ke ..]
  refine' aG (cb rfl (aT (w3 rfl rfl rfl) ?k1 ?k2 (aS (bm:=.clear) ?k3 ?k4 rfl aL (Cw ?k5))) (un ?l1 ?l2 ?l3 ?l4 ?l5 (cg ?l6 ?l7)))
  case k1=>decide
  case k2=>walk_at "e"
  case k3=>exact eM c.rdy rfl
  case k4=>exact eN c.rdy rfl
  case k5=>exact c.rdy
  case l1=>walk_at "e"
  case l2=>exact F
  case l3=>walk_at "e"
  case l4=>rfl
  case l5=>exact jg p.inst ⟨rfl,Ky rfl⟩ rfl
  case l6=>walk_at "e"
  case l7=>
   rw[IM];exact y _ _ (w4 rfl rfl ((K.set c.lt.2).set (by have:=c.lt.1;(first | walk_at "m" | lia))) ⟨a,G,g⟩)
end
end
section
set_option linter.all false
theorem Fh {st:List SObj}{l m:Nat}{kvs:List (Int×Nat)}{i:Int}(h:st[l]?=Vr (.fobjs kvs)) (a:aF i kvs=Vr m):iW st .get (.loc l) [.d (.int i)]=Vr (.loc m,st):=by
 show KJ _ (Kj (Kj (KJ _ (Kj Vs ((st[l]?).bind _))) (KJ _ ((st[l]?).bind _))) _)=_;rw[h];show Vr (optE (aF i kvs) (V.d .non) .loc,st)=_;rw[a];rfl
section
variable {st:List SObj}{B n N R i m:Nat}{kvs:List (Int×Nat)}{lc:Nat->Nat}{su nd:Nat->List Nat}{P:Nat->Prop}{np:Nat->Int}{rd g:List Nat}{po nf v:Int}{k:Nat}
theorem xm {ps:List Int}(hz:ps.length<=1000):iY 120 (aW 120) (.loc B::ps.map λx=>.d (.int x))=Vr [.loc B,.d (.tup (ps.map .int))]:=by
 have e:∀(a:V) (b:List V),iY 120 (aW 120) (a::b)=(ej b).bind λc=>if c.length<=1000 then Vr [a,.d (.tup c)] else none:=λa b=>rfl
 rw[e,oy];exact if_pos (by rw[Ke];exact hz)
theorem Rb.weak {P':Nat->Prop}(S:Rb st B n N kvs lc su P np R rd po nf) (h:∀x,P' x->P x):Rb st B n N kvs lc su P' np R rd po nf:=⟨S.hd,S.inst,S.dict,S.rdy,S.node,λi a p=>S.suc i a (h i p),S.far,S.lt⟩
theorem wQ {j:Nat}(h:g[j]?=Vr i):(g.take (j+1)).flatMap su=(g.take j).flatMap su++su i:=by
 rw[Le,h,M5];show _++(su i++[])=_;rw[LG]
theorem fg {l:List Nat}(h:l.Nodup) (a:∀x∈l,x<n):l.length<=n:=by
 have:=oZ (f:=λ_=>1) h a;rw[fw,fw,KI] at this;exact this
def Bw (nd:Nat->List Nat) (n k:Nat) (np:Nat->Int) (e:List Nat):Prop:=∀x,x<n->Wk nd (k+1) x->np x=(cnt nd k x:Int)-(e.count x:Int)
theorem wY (S:Rb st B n N kvs lc su P np R [] po nf) (T:gF nd su n) (hn:∀s,s<n->∀x∈nd s,x<n) (G:Grp nd n k g) (hP:∀i∈g,P i) (h1:∀i∈g,np i = -1) (h2:Bw nd n k np []) (hz:n<=9) (hg:g.length<=9){f:Nat}:W ((mk (f+24)).call 120 (.loc B::(aB g).map λx=>.d (.int x)) st) (λv s=>v=.d .non/\s.fr=[]/\nJ N st s.st/\∃b c,Rb s.st B n N kvs lc su (λx=>P x/\x∉g) b R c po (nf+g.length)/\Grp nd n (k+1) c/\∀i,i<n->Wk nd (k+1) i->b i=(cnt nd (k+1) i:Int)) noE:=by
 have lg:(aB g).length=g.length:=Ke ..;refine W.abs λQ hQ=>?_;refine bX (fd:=aW 120) (us:=[.loc B,.d (.tup ((aB g).map .int))]) (fr:=aY (sn "nodes") (.d (.tup ((aB g).map .int))) (aY (sn "self") (.loc B) [])) rfl rfl (xm (by lia)) rfl rfl ?_;refine aC λU o=>?_;obtain ⟨f1,f2,_,_⟩:=S.at_;refine o ?_;refine' dN (cU ?a1 ?a2 ?a3 eI pB) (aG (bT ?c1 ?c2 ?c3 (ed rfl (w3 rfl rfl rfl) ?d1 ?d2)))
 case a1=>rfl
 case a2=>rfl
 case a3=>walk_at "e"
 case c1=>kernel_rfl
 case c2=>exact ⟨rfl,rfl⟩
 case c3=>walk_at "e"
 case d1=>walk_at "e"
 refine iq jz (λj fr r=>jb fr [(sn "self",.loc B),(sn "n2i",.loc (B+1))]/\nJ N st r/\∃b c,Rb r B n N kvs lc su (λx=>P x/\x∉g.take j) b R c po (nf+j)/\xz (cnt nd k) ((g.take j).flatMap su) c/\Bw nd n k b ((g.take j).flatMap su)/\∀i∈g,i∉g.take j->b i = -1) (w3 (by walk_at "h") nJ.refl (y2 np [] (w4 ?_ xz.nil h2 (λi C _=>h1 i C)))) (λj d fr r hd hI=>?_) λfr r hI=>?_
 ·rw[show nf+((0:Nat):Int)=nf from RJ _];exact S.weak λ_ h=>h.1
 ·refine aC λU o=>?_;obtain ⟨hf,K,b,c,p,l,A,z⟩:=hI;unfold aB at hd;rw[KH,Kv] at hd;obtain ⟨i,Y,rfl⟩:=KY.mp hd;have L:=Ko Y;have C:=((G.mem i).mp L).1;have ni:i∉g.take j:=λm=>by
   refine aC λU o=>?_;obtain ⟨a,ha⟩:=Lc.mp m;refine o ?_;have hl:=(Kh.mp ha).1;rw[Lv] at hl;rw[Sp,if_pos (by lia)] at ha;have:=(PZ (by lia) G.nod).mp (ha.trans Y.symm);lia
  have n1:=z i L ni;obtain ⟨l1,F⟩:=p.node i C;refine o ?_;have c3:bV r .NotEq (.d (.int (-1))) (.d (.int (-1)))=Vr false:=rfl;have fa:cG r (.loc (lc i)) (sn "npredecessors")=Vr (.d (.int (-1))):=by rw[<- n1];exact gE F rfl
  have S2:=p.setN C (-2);have S3:=S2.gone C ⟨hP i L,ni⟩;have fs:cG (r.set (lc i) (nod lc i (-2))) (.loc (lc i)) (sn "successors")=Vr (.loc (lc i+1)):=gE (bA F) rfl;have lN:=p.lcN C;refine y2 _ (aY (sn "node") (.d (.int (i:Int))) fr) (w3 (eK rfl) rfl ?_);refine W.abs λR1 a5=>?_;refine' dN (cU ?e1 ?e2 (mL ?e3 (aT (w3 rfl rfl rfl) ?e4 ?e5 (aS (bm:=.get) ?e6 ?e7 rfl (aI rfl ?e8 aL) ?e9))) eI pB) (aG (bT ?g1 ?g2 (eJ ?g3 (gy ?g4 aU) ?g5) (dN (cU ?g6 ?g7 ?g8 (fQ (d:=.int (-1)) ?g9) ?af) (aG (fM (ig ?h1 (fQ (d:=.int (-2)) ?h2)) ?h3 ?h4 (ed rfl (w3 rfl rfl rfl) (cE rfl (eJ ?h5 ?h6 ?h7)) ?h8))))))
  case e1=>rfl
  case e2=>rfl
  case e3=>exact ⟨rfl,rfl⟩
  case e4=>decide
  case e5=>walk_at "e"
  case e6=>exact eM p.dict rfl
  case e7=>exact eN p.dict rfl
  case e8=>walk_at "e"
  case e9=>exact Fh p.dict l1
  case g1=>kernel_rfl
  case g2=>exact ⟨rfl,rfl⟩
  case g3=>rfl
  case g4=>kernel_rfl
  case g5=>exact fa
  case g6=>rfl
  case g7=>rfl
  case g8=>walk_at "e"
  case g9=>kernel_rfl
  case af=>exact c3
  case h1=>rfl
  case h2=>kernel_rfl
  case h3=>walk_at "e"
  case h4=>exact jf F rfl jJ
  case h5=>rfl
  case h6=>walk_at "e"
  case h7=>exact fs
  refine ⟨(_,_),xI (S2.suc i C ⟨hP i L,ni⟩),?_⟩;have ft:=wQ (su:=su) Y;have sub:∀t,((g.take j).flatMap su++(su i).take t).Sublist (g.flatMap su):=λt=>by
   refine T9.trans (l₂:=(g.take (j+1)).flatMap su) ?_ ?_
   ·rw[ft];exact (Q4 _).append (PY _ _)
   ·conv=>rhs;rw[<- NW (j+1) g,M5]
    exact List.sublist_append_left _ _
  refine lK (I:=λt fr y=>jb fr [(sn "self",.loc B),(sn "n2i",.loc (B+1))]/\nJ N st y/\∃b c,Rb y B n N kvs lc su (λx=>P x/\x∉g.take (j+1)) b R c po (nf+j)/\xz (cnt nd k) ((g.take j).flatMap su++(su i).take t) c/\Bw nd n k b ((g.take j).flatMap su++(su i).take t)/\∀x∈g,x∉g.take (j+1)->b x = -1) rfl (w3 ?_ ?_ (y2 _ c (w4 (S3.weak λx h=>⟨⟨h.1,λm=>h.2 ?_⟩,λe=>h.2 ?_⟩) ?_ ?_ ?_))) (λt v fr y hv hJ=>?_) λfr y hJ=>?_
  ·walk_at "h"
  ·exact (K.set (by lia)).set lN
  ·rw[Le];exact L5 _ m
  ·rw[e,Le,Y];exact Ll _ (.head _)
  ·rw[QN,LG];exact l
  ·rw[QN,LG];intro x E w;unfold oJ;rw[if_neg λ(e:x=i)=>((G.mem i).mp L).2.2 (e▸w)];exact A x E w
  ·intro x E m;unfold oJ;rw[if_neg λ(e:x=i)=>m (by rw[e,Le,Y];exact Ll _ (.head _))];exact z x E λm'=>m (by rw[Le];exact L5 _ m')
  ·refine W.abs λR2 a4=>?_;refine aC λU o=>?_;obtain ⟨hf,K,b,c,p,l,A,z⟩:=hJ;unfold aB at hv;rw[KH,KH,Kv] at hv;obtain ⟨s,es,ev⟩:=KY.mp hv;obtain rfl:V.d (.int (s:Int))=v:=ev;have sm:=Ko es;obtain ⟨hs,ws⟩:=tg T G hn (Qb.mpr ⟨i,L,sm⟩);obtain ⟨l1,F⟩:=p.node s hs;have ds:=A s hs ws;have O:(g.take j).flatMap su++(su i).take (t+1)=((g.take j).flatMap su++(su i).take t)++[s]:=by
    rw[Le,es,<- KW];rfl
   have ct:((g.take j).flatMap su++(su i).take t).count s+1<=cnt nd k s:=by
    have h:=(sub (t+1)).count_le s;rw[O,gA,if_pos rfl] at h;have:=lD T G hn hs;lia
   have M:Bw nd n k (oJ b s (b s-1)) (((g.take j).flatMap su++(su i).take t)++[s]):=λx E w=>by
    unfold oJ;rw[gA];by_cases e:x=s
    ·refine rp e ?_;rw[if_pos rfl,if_pos rfl,ds];lia
    ·rw[if_neg e,if_neg (λ(q:s=x)=>e q.symm),A x E w];rfl
   have H:∀x∈g,x∉g.take (j+1)->oJ b s (b s-1) x = -1:=λx E m=>by
    unfold oJ;rw[if_neg λ(e:x=s)=>((G.mem x).mp E).2.2 (e▸ws)];exact z x E m
   have J:=p.setN hs (b s-1);have lN:=p.lcN hs;have ix:=p.ix hs;have fz:dQ y (lc s)=none:=by unfold dQ;rw[F];rfl
   have fp:=gE (n:=sn "npredecessors") F (rfl:jn (Vr (V.loc (lc s+1)),Vr (V.d (.int (b s))),Vr (V.d (.int (s:Int)))) (sn "npredecessors")=Vr (.d (.int (b s))));obtain ⟨st3,u⟩:∃X,X=y.set (lc s) (nod lc s (b s-1)):=⟨_,rfl⟩
   rw[<- u] at J;have K3:nJ N st st3:=by rw[u];exact K.set (by lia)
   have fq:cG st3 (.loc (lc s)) (sn "npredecessors")=Vr (.d (.int (b s-1))):=by rw[u];exact gE (bA F) rfl
   obtain ⟨g1,g2,g3,g4⟩:=J.at_;refine o ?_;refine' bT ?j1 ?j2 (gz rfl ?j3 ?j4 ?j0) (un ?j5 ?j6 dY ?j7 ?j8 ?j9)
   case j1=>kernel_rfl
   case j2=>exact ⟨rfl,rfl⟩
   case j3=>walk_at "e"
   case j4=>walk_at "e"
   case j0=>exact ix
   case j5=>walk_at "e"
   case j6=>exact fp
   case j7=>rfl
   case j8=>exact jf F rfl jJ
   rw[<- u];by_cases q:cnt nd k s=((g.take j).flatMap su++(su i).take t).count s+1
   ·have v0:b s-1=0:=by rw[ds,q];lia
    have S6:=J.setR (c++[s]);have c4:bV st3 .Eq (.d (.int (b s-1))) (.d (.int 0))=Vr true:=by rw[kK,v0];rfl
    have ap:iW st3 .append (.loc R) [.d (.int (s:Int))]=Vr (.d .non,st3.set R (.list ((aB (c++[s])).map .int))):=by
     unfold aB;rw[KD,KD];refine cv J.rdy ?_;have:=(fg l.1 λx E=>(tg T G hn ((sub t).mem ((l.2 x).mp E).1)).1:c.length<=n)
     rw[Ke,Ke];lia
    refine' lJ (cU ?k1 ?k2 (eJ ?k3 ?k4 ?ab) dY ?ac) (cb rfl (aT (w3 rfl rfl rfl) ?k5 ?k6 (aS (bm:=.append) ?k7 ?k8 rfl (aI rfl ?k9 aL) ?ae)) (aG (aG ?aa)))
    case k1=>rfl
    case k2=>rfl
    case k3=>rfl
    case k4=>walk_at "e"
    case k5=>decide
    case k6=>walk_at "e"
    case k7=>exact eM J.rdy rfl
    case k8=>exact eN J.rdy rfl
    case k9=>walk_at "e"
    case ab=>exact fq
    case ac=>exact c4
    case ae=>exact ap
    case aa=>exact a4 _ _ (w3 (by walk_at "h") (K3.set p.lt.2) (y2 _ _ (w4 S6 (by rw[O];exact l.hit q) (by rw[O];exact M) H)))
   ·have c4:bV st3 .Eq (.d (.int (b s-1))) (.d (.int 0))=Vr false:=by
     rw[kK,ds,beq_eq_false_iff_ne.mpr (by lia)]
    refine' dN (cU ?o1 ?o2 (eJ ?o3 ?o4 ?o5) dY ?o6) (aG (aG ?o7))
    case o1=>rfl
    case o2=>rfl
    case o3=>rfl
    case o4=>walk_at "e"
    case o5=>exact fq
    case o6=>exact c4
    case o7=>exact a4 _ _ (w3 (by walk_at "h") K3 (y2 _ _ (w4 J (by rw[O];exact l.miss (by lia)) (by rw[O];exact M) H)))
  ·refine aC λU o=>?_;obtain ⟨hf,K,b,c,p,l,A,z⟩:=hJ;rw[Ke,Ke,show (aB (su i)).length=(su i).length from Ke ..,Mr,<- ft] at l A;obtain ⟨g1,g2,g3,g4⟩:=p.at_;refine o ?_;have S6:=p.setI po (nf+j+1);refine' aG (un ?l1 ?l2 dY ?l4 ?l5 (aG ?l6))
   case l1=>walk_at "e"
   case l2=>exact g4
   case l4=>rfl
   case l5=>exact jg p.inst ⟨rfl,Ky rfl⟩ rfl
   case l6=>
    rw[IN];rw[show nf+(j:Int)+1=nf+((j+1:Nat):Int) from Int.add_assoc ..] at S6 ⊢;exact a5 _ _ (w3 hf (K.set (by have:=p.lt.1;lia)) (y2 b c (w4 S6 l A z)))
 ·refine aC λU o=>?_;obtain ⟨hf,K,b,c,p,l,A,_⟩:=hI;refine o ?_;rw[Ke,lg,Mr] at p l A;refine aG (aG (hQ _ _ (w4 rfl rfl K (y2 b c (w3 p (zP T G hn l) (λi C w=>?_))))));rw[A i C w,lD T G hn C];lia
end
end
section
set_option linter.all false
theorem CS {g:Nat->List Nat}{n:Nat}(hn:∀s,s<n->∀x∈g s,x<n):∀{k i:Nat},i<n->Hg g k i->∃l:List Nat,l.Nodup/\(∀x∈l,x<n/\∃j,j<=k/\Hg g j x)/\l.length=k+1:=@nr _ (@λi f h=>⟨[i],w3 (Md _ _) (λx e=>by rw[Kk.mp e];exact ⟨f,0,KL _,h⟩) rfl⟩) (λk p=>(@λi f h=>by
  obtain ⟨j,t,q⟩:=mE h;obtain ⟨l,r,o,v⟩:=p (hn i f j t) q;refine ⟨i::l,w3 (LP.mpr ⟨λm=>?_,r⟩) (λx e=>?_) (congrArg Np v)⟩
  ·skip
   obtain ⟨_,a,w,u⟩:=o i m;have:=u.uniq h;lia
  ·rcases Kw.mp e with rfl | e
   ·exact ⟨f,k+1,KL _,h⟩
   ·skip
    obtain ⟨a,b,c,d⟩:=o x e;exact ⟨a,b,P9 c,d⟩))
theorem DZ {a:Nat->List Nat}{n k i:Nat}(hn:∀s,s<n->∀x∈a s,x<n) (d:i<n) (h:Hg a k i):k<n:=by
 obtain ⟨l,b,c,f⟩:=CS hn d h;have:=fg b λx e=>(c x e).1;lia
open Classical in
noncomputable def iE (a:Nat->List Nat) (n k:Nat):List Nat:=(KC n).filter λi=>decide (Hg a k i)
theorem eg {a:Nat->List Nat}{n k i:Nat}:i∈iE a n k<->i<n/\Hg a k i:=by
 classical
 unfold iE;rw[LQ,LA,decide_eq_true_iff]
theorem jT {l:List Nat}(h:l.Pairwise (· < ·)):(aB l).Pairwise (· < ·):=N7 _ (λ_ _ h=>MD.mpr h) h
theorem kW {l:List Nat}(h:l.Nodup):(aB l).Nodup:=N7 _ (λ_ _ h e=>h (LJ e)) h
theorem iB {l:List Nat}{x:Int}:x∈aB l<->∃i,i∈l/\(i:Int)=x:=Ku
theorem jp {a:Nat->List Nat}{n k:Nat}:(iE a n k).Pairwise (· < ·):=NN.sublist M6
theorem qW {a:Nat->List Nat}{n k:Nat}{g:List Nat}(G:Grp a n k g):fe (aB g)=aB (iE a n k):=pd (kW G.nod) (jT jp) λx=>by
 rw[iB,iB];exact exists_congr λi=>and_congr_left λ_=>(G.mem i).trans eg.symm
theorem lC {a:Nat->List Nat}{n k:Nat}{g:List Nat}(G:Grp a n k g):g=[]<->iE a n k=[]:=by
 rw[Ma,Ma];exact forall_congr' λi=>not_congr ((G.mem i).trans eg.symm)
structure Shp (n:Nat) (nd su:Nat->List Nat):Prop where
 le:n<=9
 lt:∀s,s<n->∀x∈nd s,x<n
 tu:gF nd su n
def gg (st:List SObj) (B n N:Nat) (kvs:List (Int×Nat)) (d:Nat->Nat) (a su:Nat->List Nat) (k:Nat) (g:List Nat) (c:Int):Prop:=∃P b R,Rb st B n N kvs d su P b R [] (c+g.length) c/\Grp a n k g/\(∀i∈g,b i = -1)/\Bw a n k b []/\∀x,Wk a k x->P x
def nx (st:List SObj) (B n N:Nat) (kvs:List (Int×Nat)) (d:Nat->Nat) (a su:Nat->List Nat) (k:Nat) (g:List Nat) (b:Int):Prop:=∃P c R,Rb st B n N kvs d su P c R g b b/\Grp a n k g/\(∀i,i<n->Wk a k i->c i=(cnt a k i:Int))/\∀x,Wk a k x->P x
section
variable {st:List SObj}{B n N k f:Nat}{kvs:List (Int×Nat)}{lc:Nat->Nat}{nd su:Nat->List Nat}{g:List Nat}{nf:Int}
theorem gg.grp (H:gg st B n N kvs lc nd su k g nf):Grp nd n k g:=by obtain ⟨_,_,_,_,G,_⟩:=H;exact G
theorem gg.len (H:gg st B n N kvs lc nd su k g nf):g.length<=n:=fg H.grp.nod λx a=>((H.grp.mem x).mp a).1
theorem Rs.redy {a:Nat->Int}{R:Nat}(S:Rs st B n kvs lc nd su k a R g nf nf) (G:Grp nd n k g):nx st B n st.length kvs lc nd su k g nf:=(y3 (Wk nd k) a R (w4 ⟨S.hd,S.inst,S.dict,S.rdy,S.node,S.suc,S.far,(Kh.mp S.dict).1,(Kh.mp S.rdy).1⟩ G S.cnt (λ_ h=>h)))
theorem iy (H:Shp n nd su) (S:nx st B n N kvs lc nd su k g nf):W ((mk (f+24)).call 99 [.loc B] st) (λv s=>v=.d (.tup ((aB g).map .int))/\s.fr=[]/\nJ N st s.st/\gg s.st B n N kvs lc nd su k g nf) noE:=by
 obtain ⟨P,r,R,S,G,C,l⟩:=S;have a:∀i∈g,i<n:=λi c=>((G.mem i).mp c).1;refine (sK (k:=f) S a (Lr (fg G.nod a) (Lr H.le (by decide)))).imp λv s ⟨o,j,p,b,h,e⟩=>w4 o j p (y3 P b R (w5 h G (λi c=>by rw[e,if_pos c]) (λx q w=>?_) l));rw[e,if_neg λm=>((G.mem x).mp m).2.2 w,C x q w.pred];exact (Int.sub_zero _).symm
theorem od (H:Shp n nd su) (S:gg st B n N kvs lc nd su k g nf):W ((mk (f+24)).call 120 (.loc B::(aB g).map λx=>.d (.int x)) st) (λv s=>v=.d .non/\s.fr=[]/\nJ N st s.st/\∃r,nx s.st B n N kvs lc nd su (k+1) r (nf+g.length)) noE:=by
 obtain ⟨P,u,R,S,G,c,l,h⟩:=S;have a:∀i∈g,i<n:=λi e=>((G.mem i).mp e).1;exact (wY (f:=f) S H.tu H.lt G (λi e=>h i ((G.mem i).mp e).2.1) c l H.le (Lr (fg G.nod a) H.le)).imp λv s ⟨q,o,t,b,r,j,p,C⟩=>w4 q o t (y4 r _ b R (w4 j p C (λx w=>⟨h x w.pred,λm=>((G.mem x).mp m).2.2 w⟩)))
theorem kY (S:gg st B n N kvs lc nd su k [] nf):(mk (f+14)).call 106 [.loc B] st=.ok (.d (.bool Vu)) ⟨[],st⟩:=by
 obtain ⟨P,a,R,S,_⟩:=S;rw[show nf+(([]:List Nat).length:Int)=nf from RJ _] at S;exact xr S
end
end
section
set_option linter.all false
section
variable {st:List SObj}{l:List D}{is:List Int}
theorem IB:cc st (.d (.tup l))=Vr (!l.isEmpty):=rfl
theorem rT (h:is.length<64):bI st .sorted [.d (.tup (is.map .int))]=Vr (.lst ((fe is).map .int)):=by
 show Kj ((cR (is.map .int)).bind _) _=_;rw[eh];show Kj (if is.length<64 then _ else _) _=_;rw[if_pos h];rfl
theorem uF:v7 (.d (.tup (is.map .int)))=Vr (is.map λx=>V.d (.int x)):=by
 show Vr ((is.map D.int).map V.d)=_;rw[KH];rfl
theorem A7:bI st .isinstance [.d (.tup l),.d (.bi .tuple)]=Vr (.bool Vt):=rfl
end
noncomputable def gN (a:Nat->List Nat) (n k:Nat):D:=.lst ((aB (iE a n k)).map .int)
noncomputable def dF (a:Nat->List Nat) (n K:Nat):List D:=(KC K).map (gN a n)
noncomputable abbrev ln:D:=.lst [.tup [],.bool Vt]
def nH (a:Nat->List Nat) (n K:Nat):Prop:=K<=n/\iE a n K=[]/\∀k,k<K->iE a n k≠[]
theorem nY {a:Nat->List Nat}{n K:Nat}:dF a n (K+1)=dF a n K++[gN a n K]:=by
 unfold dF;rw[Oc,KD];rfl
theorem gg.info {st:List SObj}{B n N k:Nat}{kvs:List (Int×Nat)}{a:Nat->Nat}{c su:Nat->List Nat}{g:List Nat}{b:Int}(H:gg st B n N kvs a c su k g b):dQ st B=Vs/\cZ st (.loc B) (sn "done")=Vr 120/\cZ st (.loc B) (sn "get_ready")=Vr 99/\cZ st (.loc B) (sn "is_active")=Vr 106/\∃r,st=.ctab::r:=by
 obtain ⟨P,d,R,S,_⟩:=H;exact w5 (by unfold dQ;rw[S.inst];rfl) ((cB S.inst rfl).trans rfl) ((cB S.inst rfl).trans rfl) ((cB S.inst rfl).trans rfl) S.hd
theorem nx.info {st:List SObj}{B n N k:Nat}{kvs:List (Int×Nat)}{a:Nat->Nat}{c su:Nat->List Nat}{g:List Nat}{b:Int}(H:nx st B n N kvs a c su k g b):dQ st B=Vs/\cZ st (.loc B) (sn "get_ready")=Vr 99:=by
 obtain ⟨P,d,R,S,_⟩:=H;exact ⟨by unfold dQ;rw[S.inst];rfl,(cB S.inst rfl).trans rfl⟩
theorem Rb.app {st q:List SObj}{B n N:Nat}{kvs:List (Int×Nat)}{b:Nat->Nat}{su:Nat->List Nat}{P:Nat->Prop}{d:Nat->Int}{R:Nat}{e:List Nat}{c nf:Int}(S:Rb st B n N kvs b su P d R e c nf):Rb (st++q) B n N kvs b su P d R e c nf:=by
 obtain ⟨r,f⟩:=S.hd;exact ⟨⟨r++q,by rw[f];rfl⟩,aE S.inst,aE S.dict,aE S.rdy,λi a=>⟨(S.node i a).1,aE (S.node i a).2⟩,λi a p=>aE (S.suc i a p),S.far,S.lt⟩
theorem nx.app {st q:List SObj}{B n N k:Nat}{kvs:List (Int×Nat)}{a:Nat->Nat}{b su:Nat->List Nat}{g:List Nat}{nf:Int}(H:nx st B n N kvs a b su k g nf):nx (st++q) B n N kvs a b su k g nf:=by
 obtain ⟨P,c,R,S,h⟩:=H;exact y3 P c R ⟨S.app,h⟩
theorem Rb.beyond {st:List SObj}{B n N q:Nat}{o:SObj}{kvs:List (Int×Nat)}{b:Nat->Nat}{su:Nat->List Nat}{P:Nat->Prop}{d:Nat->Int}{R:Nat}{e:List Nat}{c nf:Int}(S:Rb st B n N kvs b su P d R e c nf) (g:N<=q):Rb (st.set q o) B n N kvs b su P d R e c nf:=by
 have h:=S.lt;refine ⟨?_,bG (by lia) S.inst,bG (by lia) S.dict,bG (by lia) S.rdy,λi a=>⟨(S.node i a).1,bG (by have:=S.lcN a;lia) (S.node i a).2⟩,λi a p=>bG (by have:=S.lcN a;lia) (S.suc i a p),S.far,S.lt⟩;obtain ⟨r,f⟩:=S.hd;exact ve (bG (p:=0) (by lia) (by rw[f];rfl))
theorem gg.beyond {st:List SObj}{B n N k q:Nat}{o:SObj}{kvs:List (Int×Nat)}{a:Nat->Nat}{b su:Nat->List Nat}{g:List Nat}{nf:Int}(H:gg st B n N kvs a b su k g nf) (d:N<=q):gg (st.set q o) B n N kvs a b su k g nf:=by
 obtain ⟨P,c,R,S,h⟩:=H;exact y3 P c R ⟨S.beyond d,h⟩
theorem nJ.at_ {N q:Nat}{st st':List SObj}{o:SObj}(K:nJ N st st') (a:N<=q) (h:st[q]?=Vr o):st'[q]?=Vr o:=(K.2 q a).trans h
section
variable {st:List SObj}{B n N f:Nat}{kvs:List (Int×Nat)}{lc:Nat->Nat}{nd su:Nat->List Nat}{g:List Nat}
theorem qX (H:Shp n nd su) (S:nx st B n N kvs lc nd su 0 g 0) (p:N<=st.length):W ((mk (f+32)).call 323 [.loc B] st) (λv s=>s.fr=[]/\(∃r,s.st=.ctab::r)/\∃K,nH nd n K/\v=.d (.lst (dF nd n K++[ln]))) noE:=by
 refine W.abs λQ T=>?_;refine bX (fd:=aW 323) (us:=[.loc B]) (fr:=aY (sn "sorter") (.loc B) []) rfl rfl rfl rfl rfl ?_;have I:=S.app (q:=[.list []]);refine aC λG l=>?_;obtain ⟨U,l1⟩:=I.info;obtain ⟨v,⟨_,P⟩,e,rfl,hfr,K1,H1⟩:=(iy (f:=f+4) H I).get;refine l ?_;obtain rfl:=show _=[] from hfr
 refine' ee ?a1 ?a2 (dT rfl aL rfl) (bT ?b1 ?b2 (aT (w3 rfl rfl rfl) ?b3 ?b4 (cF ?b5 ?b6 aL (fA ?b7 ?b8))) ?b9)
 case a1=>kernel_rfl
 case a2=>exact ⟨rfl,rfl⟩
 case b1=>kernel_rfl
 case b2=>exact ⟨rfl,rfl⟩
 case b3=>decide
 case b4=>walk_at "e"
 case b5=>exact l1
 case b6=>rfl
 case b7=>kernel_rfl
 case b8=>exact e
 refine' gQ (λu s=>∃k g nf,k+u=n/\jb s.fr [(sn "sorter",.loc B),(sn "groups",.loc st.length),(sn "group",.d (.tup ((aB g).map .int)))]/\gg s.st B n N kvs lc nd su k g nf/\s.st[st.length]?=Vr (.list (dF nd n k))/\∀j,j<k->iE nd n j≠[]) n rfl (by have:=H.le;lia) (y3 0 g 0 (w5 (L2 _) ?c1 H1 (K1.at_ p (bH rfl)) nofun)) (λR Z u s hR hZ Y=>?c2)
 case c1=>walk_at "h"
 case c2=>
  refine aC λG l=>?_;obtain ⟨k,g,nf,hk,hf,HH,c,E⟩:=Y;obtain ⟨fr,i⟩:=s;obtain ⟨U,ld,lr,la,M⟩:=HH.info;refine l ?_;have F:=HH.len;have h9:=H.le;cases g with
  | nil=>
   refine' (y2 Vu _ (w3 (uw (Bj (jd ?d1 ?d3))) (λe=>(nomatch e)) (λ_=>?d2)))
   case d1=>walk_at "e"
   case d3=>rfl
   have x:=kY (f:=f+9) HH;have hl:(dF nd n k).length=k:=by unfold dF;rw[Ke,KI]
   have o:=cv (d:=ln) c (by lia);refine' aG (hZ _ _ (cb rfl (aT (w3 rfl rfl rfl) ?e1 ?e2 (aS (bm:=.append) ?e3 ?e4 rfl (aI rfl (mM rfl (aI rfl ?e5 (aI rfl (mX ?e6 ?e7 (aT (w3 rfl rfl rfl) ?e8 ?e9 (cF ?ah ?aa aL (fA ?am ?aj))) AB ?ag) aL)) ?ab) aL) ?ae)) (cg (dR ?af ?ak ?ac) ?ai)))
   case e1=>decide
   case e2=>walk_at "e"
   case e3=>exact cY c
   case e4=>exact db c rfl
   case e5=>walk_at "e"
   case e6=>rfl
   case e7=>rfl
   case e8=>decide
   case e9=>walk_at "e"
   case ah=>exact la
   case aa=>rfl
   case am=>kernel_rfl
   case aj=>exact x
   case ag=>rfl
   case ab=>walk_at "p"
   case ae=>exact o
   case af=>kernel_rfl
   case ak=>walk_at "g"
   case ac=>exact jY (bA c)
   case ai=>
    refine T _ _ (w3 rfl ?_ ⟨k,w3 (by lia) ((lC HH.grp).mp rfl) E,rfl⟩);refine aC λG l=>?_;obtain ⟨r,hr⟩:=M;refine l ?_;exact fb (fb ⟨r,hr⟩ c nofun (y:=.gone)) (bA c) nofun (y:=.gone)
  | cons a g=>
   have tt:cc i (.d (.tup ((aB (a::g)).map .int)))=Vr true:=rfl;have kn:k<n:=DZ H.lt (((HH.grp.mem a).mp (.head _)).1) ((HH.grp.mem a).mp (.head _)).2;have hl:(dF nd n k).length=k:=by unfold dF;rw[Ke,KI]
   have so:bI i .sorted [.d (.tup ((aB (a::g)).map .int))]=Vr (gN nd n k):=by
    have:=rT (st:=i) (is:=aB (a::g)) (by rw[show (aB (a::g)).length=(a::g).length from Ke ..];lia);rw[qW HH.grp] at this;exact this
   have o:=cv (d:=gN nd n k) c (by lia);refine aC λG l=>?_;obtain ⟨m,b⟩:∃X,X=i.set st.length (.list (dF nd n k++[gN nd n k])):=⟨_,rfl⟩
   rw[<- b] at o;have C:gg m B n N kvs lc nd su k (a::g) nf:=by rw[b];exact HH.beyond p
   have t:m[st.length]?=Vr (.list (dF nd n (k+1))):=by rw[b,nY];exact bA c
   obtain ⟨a4,w,_,_,_⟩:=C.info;obtain ⟨_,⟨_,O⟩,J,rfl,hfr,K4,r,R4⟩:=(od (f:=f+1) H C).get;obtain rfl:=show _=[] from hfr
   obtain ⟨a3,z⟩:=R4.info;obtain ⟨_,⟨_,L⟩,A,rfl,hfr,K5,H5⟩:=(iy (f:=f) H R4).get;refine l ?_;obtain rfl:=show _=[] from hfr
   refine' (y2 Vt _ (w3 (uw (vI (jd ?g1 ?g0) (vI (je (dH (d:=.bi .isinstance) ?g2 ?g3 ?g4 (rC ?g5 ?g6 ?g7 A7)) fG) Bk))) (λ_=>?g8) (λe=>nomatch e)))
   case g1=>walk_at "e"
   case g0=>exact tt
   case g2=>rfl
   case g3=>rfl
   case g4=>kernel_rfl
   case g5=>kernel_rfl
   case g6=>kernel_rfl
   case g7=>walk_at "e"
   refine' cb rfl (aT (w3 rfl rfl rfl) ?h1 ?h2 (aS (bm:=.append) ?h3 ?h4 rfl (aI rfl ?h5 aL) ?h6)) (cb rfl (aT (w3 rfl rfl rfl) ?i1 ?i2 (cF ?i3 ?i4 (ug rfl ?i5 uF) (fA ?i6 ?i7))) (bT ?j1 ?j2 (aT (w3 rfl rfl rfl) ?j3 ?j4 (cF ?j5 ?j6 aL (fA ?j7 ?j8))) (aG ?j9)))
   case h1=>decide
   case h2=>walk_at "e"
   case h3=>exact cY c
   case h4=>exact db c rfl
   case h5=>walk_at "e"
   case h6=>exact o
   case i1=>decide
   case i2=>walk_at "e"
   case i3=>exact w
   case i4=>rfl
   case i5=>walk_at "e"
   case i6=>kernel_rfl
   case i7=>exact J
   case j1=>kernel_rfl
   case j2=>exact ⟨rfl,rfl⟩
   case j3=>decide
   case j4=>walk_at "e"
   case j5=>exact z
   case j6=>rfl
   case j7=>kernel_rfl
   case j8=>exact A
   case j9=>
    refine hR _ _ ⟨u-1,by lia,y3 (k+1) r _ (w5 (by lia) (by walk_at "h") H5 (K5.at_ p (K4.at_ p t)) (λj hj=>?_))⟩;rcases MB.mp hj with h | h
    ·exact E j h
    ·rw[h];exact λq=>nomatch (lC HH.grp).mpr q
end
end
section
set_option linter.all false
theorem qU {t:Thing9}(h:t.Good):(nD t.mode==16384)=fP t:=by
 rw[ob h];unfold fP;rcases h.kind with e | e | e | e | e | e<;>rw[e]<;>rfl
noncomputable def nuK (kvs:List (Int×D)) (i:Nat):Nat:=(((aF (i:Int) kvs).bind D.int?).getD 0).toNat
structure Keep (ts:List Thing9) (P:List Nat) (rows:List Row) (kvs:List (Int×D)):Prop where
 keys:kvs.map (·.1)=aB P
 nod:P.Nodup
 at_:∀i∈P,∃t,ts[i]?=Vr t/\aF (i:Int) kvs=Vr (.int (nuK kvs i:Int))/\rows[nuK kvs i]?=Vr (bS (nuK kvs) t)/\(fP t=Vt->∀x∈t.inner,x.toNat∈P/\nuK kvs x.toNat<nuK kvs i)
 once:rows.Nodup
 all:∀r,r<rows.length->∃i,i∈P/\nuK kvs i=r
section
variable {ts:List Thing9}{P:List Nat}{rows:List Row}{kvs:List (Int×D)}{p r:Nat}{t:Thing9}
theorem Cq {d:D}(h:aF (p:Int) kvs=Vs){i:Nat}(b:i≠p):nuK (kvs++[((p:Int),d)]) i=nuK kvs i:=by
 unfold nuK;rw[dD];cases e:aF (i:Int) kvs with
 | some a=>rfl
 | none=>rw[show aF (i:Int) [((p:Int),d)]=Vs from if_neg λ(q:(p:Int)=i)=>b (LJ q).symm];rfl
theorem Cp (h:aF (p:Int) kvs=Vs):aF (p:Int) (kvs++[((p:Int),.int (r:Int))])=Vr (.int (r:Int))/\nuK (kvs++[((p:Int),.int (r:Int))]) p=r:=by
 have e:aF (p:Int) (kvs++[((p:Int),D.int (r:Int))])=Vr (.int (r:Int)):=by
  rw[dD,h];exact if_pos rfl
 refine ⟨e,?_⟩;unfold nuK;rw[e];rfl
theorem wH {f g:Nat->Nat}(h:fP t=Vt->∀x∈t.inner,f x.toNat=g x.toNat):inn f t=inn g t:=by
 unfold inn;cases q:fP t with
 | false=>rfl
 | true=>exact LN λx a=>by rw[h q x a]
theorem Keep.rows_le (K:Keep ts P rows kvs){n:Nat}(f:∀x∈P,x<n):rows.length<=n:=by
 have:∀n,n<=rows.length->∃l:List Nat,l.Nodup/\(∀x∈l,x∈P/\nuK kvs x<n)/\l.length=n:=λn=>by
  induction n with
  | zero=>exact λ_=>⟨[],w3 .nil (λ_ h=>(nomatch h)) rfl⟩
  | succ n j=>
   intro p;refine aC λg a=>?_;obtain ⟨l,d,c,e⟩:=j (by lia);obtain ⟨i,k,o⟩:=K.all n (by lia);refine a ?_;refine ⟨i::l,w3 (LP.mpr ⟨λm=>by have:=(c i m).2;lia,d⟩) (λx b=>?_) (congrArg Np e)⟩;rcases Kw.mp b with rfl | b
   ·exact ⟨k,by lia⟩
   ·exact ⟨(c x b).1,by have:=(c x b).2;lia⟩
 refine aC λg a=>?_;obtain ⟨l,d,c,e⟩:=this rows.length (KL _);refine a ?_;rw[<- e];exact fg d λx b=>f x (c x b).1
theorem Keep.lt (K:Keep ts P rows kvs){i:Nat}(h:i∈P):nuK kvs i<rows.length:=by
 obtain ⟨_,_,_,e,_⟩:=K.at_ i h;exact (Kh.mp e).1
theorem Keep.ok (K:Keep ts P rows kvs) (c:∀x∈P,x<9) (G:t.Good) (b:fP t=Vt->∀x∈t.inner,x.toNat∈P):∀x∈inn (nuK kvs) t,bK x:=λx a=>by
 have:=K.rows_le c;unfold inn at a;unfold bK;cases q:fP t with
 | false=>rw[q] at a;have:=G.inner.2 x a;lia
 | true=>
  rw[q] at a;obtain ⟨y,d,rfl⟩:=Ku.mp a;have:=K.lt (b q y d);lia
theorem Keep.step (H:∀t∈ts,t.Good) (K:Keep ts P rows kvs) (O:∀x∈P,x<9) (J:ts[p]?=Vr t) (w:p∉P) (f:fP t=Vt->∀x∈t.inner,x.toNat∈P){c:List Row}(o:c=rows\/bS (nuK kvs) t∉rows/\c=rows++[bS (nuK kvs) t]) (g:c[r]?=Vr (bS (nuK kvs) t)):Keep ts (P++[p]) c (kvs++[((p:Int),.int (r:Int))]):=by
 have G:=H t (Ko J);have F:aF (p:Int) kvs=none:=fC.mpr (by
  rw[K.keys];exact λm=>by obtain ⟨i,hi,e⟩:=Ku.mp m;exact w (LJ e▸hi))
 obtain ⟨n1,v⟩:=Cp (r:=r) F;have j:∀{i:Nat},i∈P->nuK (kvs++[((p:Int),.int (r:Int))]) i=nuK kvs i:=λ{i} hi=>Cq F λe=>w (e▸hi);have Y:∀{i:Nat}{x:Row},rows[i]?=Vr x->c[i]?=Vr x:=λ{i x} h=>by
  rcases o with e | ⟨_,e⟩
  ·rw[e];exact h
  ·rw[e];exact (KB (Kh.mp h).1).trans h
 have M:∀{u:Thing9},(fP u=Vt->∀x∈u.inner,x.toNat∈P)->bS (nuK (kvs++[((p:Int),.int (r:Int))])) u=bS (nuK kvs) u:=λ{u} h=>by
  unfold bS;rw[wH λq x d=>j (h q x d)]
 refine ⟨by rw[KD,K.keys];unfold aB;rw[KD];rfl,Lx.mpr (w3 K.nod (Md _ _) (λa E b z e=>w (by rw[<- Kk.mp z,<- e];exact E))),λi hi=>?_,?_,λs hs=>?_⟩
 ·rcases Kx.mp hi with hi | hi
  ·skip
   obtain ⟨u,C,N,n,k⟩:=K.at_ i hi;refine ⟨u,w4 C ?_ ?_ (λq x d=>?_)⟩
   ·rw[j hi,dD,N];rfl
   ·rw[j hi,M λq x d=>(k q x d).1];exact Y n
   ·rw[j hi,j (k q x d).1];exact ⟨L5 _ (k q x d).1,(k q x d).2⟩
  ·refine rp (Kk.mp hi) ?_;refine ⟨t,w4 J (by rw[v];exact n1) (by rw[v,M f];exact g) (λq x d=>⟨L5 _ (f q x d),?_⟩)⟩;rw[v,j (f q x d)];rcases o with e | ⟨nr,e⟩
   ·rw[e] at g;obtain ⟨i,hi,e4⟩:=K.all r (Kh.mp g).1;obtain ⟨u,C,N,n,k⟩:=K.at_ i hi;rw[e4] at n;have L:=Kd (g.symm.trans n);have R:=congrArg Prod.fst L;have S:aR (inn (nuK kvs) t)=aR (inn (nuK kvs) u):=congrArg Prod.snd L;have Q:=H u (Ko C);have I:fP u=true:=(jH G Q R).symm.trans q;have l:=nO (K.ok O G f) (K.ok O Q λq x d=>(k q x d).1) S;unfold inn at l;rw[q,I] at l;have l:(t.inner.map λx=>(nuK kvs x.toNat:Int))=u.inner.map λx=>(nuK kvs x.toNat:Int):=l;have m:((nuK kvs x.toNat:Nat):Int)∈t.inner.map λx=>(nuK kvs x.toNat:Int):=Ku.mpr ⟨x,d,rfl⟩;rw[l] at m;obtain ⟨y,U,e8⟩:=Ku.mp m;have:=(k I y U).2;lia
   ·have T:=K.lt (f q x d);have:¬r<rows.length:=λh=>nr (by
     rw[e,KB h] at g;exact Ko g)
    lia
 ·rcases o with e | ⟨nr,e⟩
  ·rw[e];exact K.once
  ·rw[e];exact Lx.mpr (w3 K.once (Md _ _) (λa E b z e=>nr (by rw[<- Kk.mp z,<- e];exact E)))
 ·by_cases h:s<rows.length
  ·skip
   obtain ⟨i,hi,e⟩:=K.all s h;exact ⟨i,L5 _ hi,by rw[j hi];exact e⟩
  ·rcases o with e | ⟨nr,e⟩
   ·rw[e] at hs;exact absurd hs h
   ·refine ⟨p,Ll _ (.head _),?_⟩;rw[v];have A:=(Kh.mp g).1;rw[e,Km] at A hs;have:¬r<rows.length:=λh=>nr (by
     rw[e,KB h] at g;exact Ko g)
    have T:[bS (nuK kvs) t].length=1:=rfl;lia
end
end
section
set_option linter.all false
section
variable {st:List SObj}{l:Nat}{i:Int}{d e:D}{kvs:List (Int×D)}{k:Nat}{cx:Cx}{s s1:St}{t it elt:Kf}{ifs:List Kf}{scope:OL}{pos:Pos}{v:V}{st':List SObj}{α:Type}{f:α->V}{h:α->Option D}{ps:List α}
theorem Fi (h:st[l]?=Vr (.dict kvs)):iW st .get (.loc l) [.d (.int i),.d e]=Vr (.d ((aF i kvs).getD e),st):=by
 show KJ _ (Kj Vs (KJ _ (Kj Vs ((st[l]?).bind _))))=_;rw[h];rfl
theorem iK {F1:List (Str×V)}{T1:List SObj}(c:dM cx it ifs scope) (a:((mk k).ev cx it).f s=.ok v ⟨F1,T1⟩) (b:cS T1 v=Vr (ps.map f,st')) (hz:ps.length<=100000) (e:∀p∈ps,jx k (dW cx scope) t elt ifs (ef scope.names F1) st' (f p) (h p)):((mk (k+1)).ev cx (.ListComp elt [⟨t,it,ifs,0⟩] scope pos)).f s=.ok (.d (.lst (ps.filterMap h))) ⟨F1,st'⟩:=aK (kH (pos:=pos) c a b hz e) rfl
end
theorem vq {a b:Row}:fE 3 (cA a) (cA b)=Vr (decide (a=b)):=by
 show Vr ((a.1==b.1)&&((a.2==b.2)&&Vt))=_;rw[PM]
 congr 1
 exact LR.mpr ⟨λe=>by
  obtain ⟨d,c⟩:=Kn.mp e;exact decide_eq_true (Tn (eq_of_beq d) (eq_of_beq c)),λe=>by
  rw[of_decide_eq_true e,beq_self_eq_true,beq_self_eq_true];rfl⟩
theorem vo {a:Row}:∀{L:List Row},vp (cA a) (L.map cA)=Vr (L.map λb=>decide (b=a)):=@lr _ _ (rfl) (λb L c=>by
  show Lm (fE 3 (cA b) (cA b)) (λ_=>Lm (fE 3 (cA b) (cA a)) λx=>(vp (cA a) (L.map cA)).map λy=>x::y)=_;rw[vq,vq,c];rfl)
section
variable {st:List SObj}{l:Nat}{a:Row}{L:List Row}
theorem wm (h:st[l]?=Vr (.list (L.map cA))):bV st .NotIn (.d (cA a)) (.loc l)=Vr (!decide (a∈L)):=by
 show KJ _ (Kj (Lm (Kj Vs ((st[l]?).bind _)) _) _)=_;rw[h];show KJ _ (Kj ((vp (cA a) (L.map cA)).map λf=>f.any id) _)=_;rw[vo];show Vr (!(L.map λb=>decide (b=a)).any id)=_
 congr 2
 rw[Rp,LR,List.any_eq_true,decide_eq_true_iff];exact ⟨λ⟨x,c,e⟩=>of_decide_eq_true (p:=x=a) e▸c,λh=>⟨a,h,decide_eq_true rfl⟩⟩
theorem wI (h:st[l]?=Vr (.list (L.map cA))) (e:a∈L):∃r:Nat,L[r]?=Vr a/\iW st .index (.loc l) [.d (cA a)]=Vr (.d (.int (r:Int)),st):=by
 cases q:L.findIdx? λb=>decide (b=a) with
 | none=>exact absurd (decide_eq_true (rfl:a=a)) (by have:=OG.mp q a e;rw[this];decide)
 | some r=>
  obtain ⟨c,f,_⟩:=Mg.mp q;refine ⟨r,by rw[Kl c,of_decide_eq_true f],?_⟩;show Lm (Kj Vs ((st[l]?).bind _)) _=_;rw[h];show KJ _ ((vp (cA a) (L.map cA)).bind λg=>g.findIdx? id)=_;rw[vo];show KJ _ ((L.map λb=>decide (b=a)).findIdx? id)=_;rw[SK];show KJ _ (L.findIdx? λb=>decide (b=a))=_;rw[q];rfl
end
theorem tV {is:List Int}(h:∀x∈is,bK x):il (aR is)=is.map .int:=by
 unfold il aR;rw[KH];exact LN λx a=>by
  show D.int _=_;rw[hG (h x a)]
theorem xL {st:List SObj}{is:List Int}(h:∀x∈is,bK x):cS st (.d (.bytes (aR is)))=Vr (is.map λx=>V.d (.int x),st):=by
 show Vr ((il (aR is)).map V.d,st)=_;rw[tV h,KH];rfl
theorem Eo {F1:List (Str×V)}{T1:List SObj}{k:Nat}{cx:Cx}{s:St}{Q:Fl->St->Prop}{E:D->List D->St->Prop}{n:List Stmt}{i g j:Str}{r u o p pos:Pos}{m:Nat}{e:Kf}{a b c:D}(w:hX e=Vu/\jq e=Vu/\cx.inH=Vu) (h0:(bC (cx.names.lookup i)&&(bC (cx.names.lookup g)&&bC (cx.names.lookup j)))=Vt) (h:((mk k).ev cx e).f s=.ok (.d (.lst [a,b,c])) ⟨F1,T1⟩) (q:W (((mk k).xs cx n).f ⟨aY j (.d c) (aY g (.d b) (aY i (.d a) F1)),T1⟩) Q E):W (((mk (k+1)).xs cx (.Assign [.Tuple [.Name i r,.Name g u,.Name j o] m p] e pos::n)).f s) Q E:=by
 obtain ⟨v,l⟩:=Kn.mp h0;obtain ⟨l,t⟩:=Kn.mp l;exact ul w h (dZ (aQ v (aQ l (aQ t eA)))) q
noncomputable def JC:Stmt->List Stmt
 | .For _ _ b _ _=>b
 | .While _ b _ _=>b
 | .Try b _ _ _ _=>b
 | .If _ b _ _=>b
 | _=>[]
noncomputable def DT:List Stmt:=JC ((JC ((dA (aW 316)).getD 4 (.Pass ⟨0,0,0,0⟩))).getD 1 (.Pass ⟨0,0,0,0⟩))
section
variable {st:List SObj}{B L n k p:Nat}{ts:List Thing9}{P:List Nat}{rows:List Row}{kvs:List (Int×D)}{fr:List (Str×V)}{g:V}{t:Thing9}{Φ:List SObj->Prop}
theorem sQ (h9:ts.length=9) (hg:∀t∈ts,t.Good) (K:Keep ts P rows kvs) (F:∀x∈P,x<9) (O:ts[p]?=Vr t) (np:p∉P) (z:fP t=Vt->∀x∈t.inner,x.toNat∈P) (hd:∃r,st=.ctab::r) (u:st[L+1]?=Vr (.dict kvs)) (l:st[L+2]?=Vr (.list (rows.map cA))) (hΦ:∀st q o,q=L+1\/q=L+2->Φ st->Φ (st.set q o)) (H:Φ st) (Q:jb fr [(sn "sorter",.loc B),(sn "groups",.loc L),(sn "group",g),(sn "given",.d (.lst (ts.map Thing9.gd))),(sn "number",.loc (L+1)),(sn "rows",.loc (L+2))]):W (((mk (k+38)).xs (gP (aW 316)) DT).f ⟨aY (sn "place") (.d (.int (p:Int))) fr,st⟩) (λf s=>f=.next/\jb s.fr [(sn "sorter",.loc B),(sn "groups",.loc L),(sn "group",g),(sn "given",.d (.lst (ts.map Thing9.gd))),(sn "number",.loc (L+1)),(sn "rows",.loc (L+2))]/\Φ s.st/\(∃r,s.st=.ctab::r)/\∃b w,Keep ts (P++[p]) b w/\s.st[L+1]?=Vr (.dict w)/\s.st[L+2]?=Vr (.list (b.map cA))) noE:=by
 have G:=hg t (Ko O);have m0:0<=t.mode:=by
  unfold Thing9.mode;have:=G.high;have:=G.rights;have:0<=t.kind:=by rcases G.kind with e | e | e | e | e | e<;>rw[e]<;>decide
  lia
 have h1:(ts.map Thing9.gd)[p]?=Vr t.gd:=by rw[Kv,O];rfl
 have d1:dI ((mk (k+18+16)).call 197 [.d (.int t.mode)] [.ctab])=Vr (.bool (fP t)):=by rw[<- qU G];exact mx m0
 refine aC λGz n=>?_;obtain ⟨dd,Y,M⟩:=cW (nE (k:=k+3) m0);rw[M,yY G] at Y;have I:=K.ok F G z;have K9:=K.rows_le F;obtain ⟨r0,v⟩:=hd;refine n ?_;refine' Eo ?a1 ?a2 (gz rfl ?a3 ?a4 (zK h1)) (xF (c:=fP t) (λfr A=>A=st/\jb fr [(sn "sorter",.loc B),(sn "groups",.loc L),(sn "group",g),(sn "given",.d (.lst (ts.map Thing9.gd))),(sn "number",.loc (L+1)),(sn "rows",.loc (L+2))]/\jb fr [(sn "mode",.d (.int t.mode)),(sn "inner",.d (.bytes (aR (inn (nuK kvs) t)))),(sn "place",.d (.int (p:Int)))]) (je (cQ 197 ?b1 ?b2 ?b3 ?b4 ?b5 ?b6 ?b7 ?b8 ?c4 ?c5) fG) (λq=>?b9) (λq=>?c1) λfr A R=>?c3)
 case a1=>exact w3 rfl rfl rfl
 case a2=>kernel_rfl
 case a3=>walk_at "e"
 case a4=>walk_at "e"
 case b1=>rfl
 case b2=>rfl
 case b3=>kernel_rfl
 case b4=>exact ⟨rfl,rfl⟩
 case b5=>rfl
 case b6=>walk_at "e"
 case b7=>kernel_rfl
 case b8=>walk_at "d"
 case c4=>exact d1
 case c5=>exact v
 case c1=>
  have e:inn (nuK kvs) t=t.inner:=by
   unfold inn;rw[q];rfl
  rw[e];exact aG (w4 rfl rfl (by walk_at "h") (by walk_at "h"))
 case b9=>
  have hb:bI st .bytes [.d (.lst (t.inner.filterMap λx=>Vr (D.int (nuK kvs x.toNat:Int))))]=Vr (.bytes (aR (inn (nuK kvs) t))):=by
   rw[dE];have e:(t.inner.map λx=>D.int (nuK kvs x.toNat:Int))=(inn (nuK kvs) t).map .int:=by
    unfold inn;rw[q];rw[KH];rfl
   rw[e];refine im (eh _) ⟨?_,I⟩;have:=G.inner.1;unfold inn;rw[q];rw[Ke];lia
  have hw:=xL (st:=st) (is:=t.inner) λx E=>by have:=G.inner.2 x E;unfold bK;lia
  refine' bT ?e1 ?e2 (dH (d:=.bi .bytes) ?e3 ?e4 ?e5 (rC ?e6 ?e7 (aI rfl (cE ?e8 (iK (f:=λx:Int=>V.d (.int x)) (h:=λx=>Vr (D.int (nuK kvs x.toNat:Int))) (ps:=t.inner) ?e9 ?ai ?aa ?aq (λx E=>?ah))) aL) ?ab)) (aG ?ag)
  case e1=>kernel_rfl
  case e2=>exact ⟨rfl,rfl⟩
  case e3=>rfl
  case e4=>rfl
  case e5=>kernel_rfl
  case e6=>kernel_rfl
  case e7=>kernel_rfl
  case e8=>rfl
  case e9=>exact w4 rfl rfl rfl (by decide)
  case ai=>walk_at "e"
  case aa=>exact hw
  case aq=>have:=G.inner.1;lia
  case ah=>
   have U:=(G.inner.2 x E).1;refine aC λGz n=>?_;obtain ⟨_,_,lk,_⟩:=K.at_ x.toNat (z q x E);refine n ?_;rw[NB U] at lk;have hm:iW st .get (.loc (L+1)) [.d (.int x),.d (.int 255)]=Vr (.d (.int (nuK kvs x.toNat:Int)),st):=by rw[Fi u,lk];rfl
   refine gw rfl ?_;refine' W.of (aT (w3 rfl rfl rfl) ?f1 ?f2 (aS (bm:=.get) ?f3 ?f4 rfl (aI rfl ?f5 (aI rfl dY aL)) ?f6)) ?f7
   case f1=>decide
   case f2=>walk_at "e"
   case f3=>exact eM u rfl
   case f4=>exact eN u rfl
   case f5=>walk_at "e"
   case f6=>exact hm
   case f7=>exact ⟨rfl,_,rfl,rfl⟩
  case ab=>exact hb
  case ag=>exact w4 rfl rfl (by walk_at "h") (by walk_at "h")
 case c3=>
  obtain ⟨rfl,Q,S⟩:=R;have C:=wm (a:=bS (nuK kvs) t) l;refine' bT ?g1 ?g2 (mM rfl (aI rfl (cQ 237 ?g3 ?g4 ?g5 ?g6 ?g7 ?g8 ?g9 ?am ?ae ?ak) (aI rfl ?aj aL)) ?ao) ?af
  case g1=>kernel_rfl
  case g2=>exact ⟨rfl,rfl⟩
  case g3=>rfl
  case g4=>rfl
  case g5=>kernel_rfl
  case g6=>exact ⟨rfl,rfl⟩
  case g7=>rfl
  case g8=>walk_at "e"
  case g9=>kernel_rfl
  case am=>walk_at "d"
  case ae=>exact Y
  case ak=>exact v
  case aj=>walk_at "e"
  case ao=>walk_at "p"
  case af=>
   have T:aF (p:Int) kvs=none:=fC.mpr (by
    rw[K.keys];exact λm=>by obtain ⟨i,hi,e⟩:=Ku.mp m;exact np (LJ e▸hi))
   have a5:kvs.length<=9:=by
    have e:=congrArg Qp K.keys;rw[Ke,show (aB P).length=P.length from Ke ..] at e;have:=fg K.nod F;lia
   refine' xF (c:=!decide (bS (nuK kvs) t∈rows)) (λfr j=>jb fr [(sn "sorter",.loc B),(sn "groups",.loc L),(sn "group",g),(sn "given",.d (.lst (ts.map Thing9.gd))),(sn "number",.loc (L+1)),(sn "rows",.loc (L+2))]/\jb fr [(sn "row",.d (cA (bS (nuK kvs) t))),(sn "place",.d (.int (p:Int)))]/\Φ j/\(∃r,j=.ctab::r)/\j[L+1]?=Vr (.dict kvs)/\∃b,(b=rows\/bS (nuK kvs) t∉rows/\b=rows++[bS (nuK kvs) t])/\bS (nuK kvs) t∈b/\j[L+2]?=Vr (.list (b.map cA))) ?h1 (λq=>?h2) (λq=>?h3) λfr j R=>?h4
   case h1=>exact BV (op:=.NotIn) rfl rfl (fY rfl aU) (gy rfl (by walk_at "g")) C
   case h3=>
    have m:bS (nuK kvs) t∈rows:=of_decide_eq_true ((Bool.not_eq_false' _).mp q);exact aG (w7 rfl (by walk_at "h") (tf aU (by walk_at "h")) H ⟨r0,v⟩ u ⟨rows,w3 (.inl rfl) m l⟩)
   case h2=>
    have m:bS (nuK kvs) t∉rows:=of_decide_eq_false ((KO _).mp q);have ap:=cv (d:=cA (bS (nuK kvs) t)) l (by rw[Ke];lia);refine' cb rfl (aT (w3 rfl rfl rfl) ?i1 ?i2 (aS (bm:=.append) ?i3 ?i4 rfl (aI rfl ?i5 aL) ?i6)) (aG ?i7)
    case i1=>decide
    case i2=>walk_at "e"
    case i3=>exact cY l
    case i4=>exact db l rfl
    case i5=>exact fY rfl aU
    case i6=>exact ap
    case i7=>exact w7 rfl (by walk_at "h") (tf aU (by walk_at "h")) (hΦ _ _ _ (.inr rfl) H) (fb (y:=.gone) ⟨r0,v⟩ l nofun) (aP u l nofun) ⟨_,w3 (.inr ⟨m,rfl⟩) (Ll _ (.head _)) (by rw[KD];exact bA l)⟩
   case h4=>
    refine aC λGz n=>?_;obtain ⟨Q,S,H,J,u,b,hr,mr,l⟩:=R;obtain ⟨r,er,ix⟩:=wI l mr;refine n ?_;have N:eD j (.loc (L+1)) (p:Int) (.d (.int (r:Int)))=Vr (j.set (L+1) (.dict (kvs++[((p:Int),.int (r:Int))]))):=by
     rw[uD u (by lia),lY T]
    refine' xE rfl (aT (w3 rfl rfl rfl) ?j1 ?j2 (aS (bm:=.index) ?j3 ?j4 rfl (aI rfl ?j5 aL) ?j6)) ?j7 ?j8 ?j9 (aG ?ac)
    case j1=>decide
    case j2=>walk_at "e"
    case j3=>exact cY l
    case j4=>exact db l rfl
    case j5=>walk_at "e"
    case j6=>exact ix
    case j7=>walk_at "e"
    case j8=>walk_at "e"
    case j9=>exact N
    case ac=>exact w5 rfl Q (hΦ _ _ _ (.inl rfl) H) (fb (y:=.gone) J u nofun) (y2 b _ (w3 (K.step hg F O np z hr er) (bA u) (aP l u nofun)))
end
end
section
set_option linter.all false
theorem zU {st:List SObj}{l:Nat}{ds:List (Int×D)}(e:st[l]?=Vr (.dict ds)):dQ st l=Vr (.dct ds,st.set l .gone):=by
 unfold dQ;rw[e];rfl
noncomputable abbrev Ig (B L:Nat) (g:V) (ts:List Thing9):List (Str×V):=[(sn "sorter",.loc B),(sn "groups",.loc L),(sn "group",g),(sn "given",.d (.lst (ts.map Thing9.gd))),(sn "number",.loc (L+1)),(sn "rows",.loc (L+2))]
section
variable {st:List SObj}{B N L f k:Nat}{ts:List Thing9}{kv:List (Int×Nat)}{lc:Nat->Nat}{su:Nat->List Nat}{g P:List Nat}{nf:Int}{rows:List Row}{kvs:List (Int×D)}{fr:List (Str×V)}
theorem wh (h9:ts.length=9) (O:∀t∈ts,t.Good) (HH:gg st B 9 N kv lc (ndOf (needsOf ts)) su k g nf) (hN:N<=L){r:List D}(S:st[L]?=Vr (.list r)) (l:st[L+1]?=Vr (.dict kvs)) (c:st[L+2]?=Vr (.list (rows.map cA))) (K:Keep ts P rows kvs) (J:∀i,i∈P<->i<9/\¬Wk (ndOf (needsOf ts)) k i) (e:jb fr (Ig B L (.d (.tup ((aB g).map .int))) ts)){t:Kf}{body:List Stmt}(U:body=DT) (bt:∀v,dB (gP (aW 316)) t v=Vr [(sn "place",v)]){Q:Fl->St->Prop}(q:∀s rows kvs,jb s.fr (Ig B L (.d (.tup ((aB g).map .int))) ts)->gg s.st B 9 N kv lc (ndOf (needsOf ts)) su k g nf->s.st[L]?=Vr (.list r)->s.st[L+1]?=Vr (.dict kvs)->s.st[L+2]?=Vr (.list (rows.map cA))->Keep ts (P++g) rows kvs->Q .next s):W (iS (mk (f+38)) (gP (aW 316)) t body [] (((aB g).map D.int).map .d) ⟨fr,st⟩) Q noE:=by
 refine rp U ?_;have G:=HH.grp;refine oI (I:=λj s=>jb s.fr (Ig B L (.d (.tup ((aB g).map .int))) ts)/\(gg s.st B 9 N kv lc (ndOf (needsOf ts)) su k g nf/\s.st[L]?=Vr (.list r))/\∃rows kvs,Keep ts (P++g.take j) rows kvs/\s.st[L+1]?=Vr (.dict kvs)/\s.st[L+2]?=Vr (.list (rows.map cA))) 0 (w3 e ⟨HH,S⟩ (y2 rows kvs (w3 (by rw[QN,LG];exact K) l c))) (λj v s H u=>?_) λs u=>?_
 ·rw[L2] at u ⊢;refine aC λz b=>?_;obtain ⟨e,n,rows,kvs,K,l,c⟩:=u;unfold aB at H;rw[KH,KH,Kv] at H;obtain ⟨p,F,Y⟩:=KY.mp H;obtain rfl:V.d (.int (p:Int))=v:=Y;have mp:=Ko F;obtain ⟨p9,R⟩:=(G.mem p).mp mp;obtain ⟨t,A⟩:∃t,ts[p]?=Vr t:=⟨_,Kl (by lia)⟩
  refine b ?_;have E:p∉g.take j:=λm=>by
   refine aC λz b=>?_;obtain ⟨a,M⟩:=Lc.mp m;refine b ?_;have hl:=(Kh.mp M).1;rw[Lv] at hl;rw[Sp,if_pos (by lia)] at M;have:=(PZ (by lia) G.nod).mp (M.trans F.symm);lia
  have T:p∉P++g.take j:=λm=>(Kx.mp m).elim (λm=>((J p).mp m).2 R.1) E;have y:∀x∈P++g.take j,x<9:=λx w=>(Kx.mp w).elim (λm=>((J x).mp m).1) λm=>((G.mem x).mp (ME m)).1;have C:fP t=Vt->∀x∈t.inner,x.toNat∈P++g.take j:=λq x w=>by
   have a1:=(O t (Ko A)).inner.2 x w;refine L5 _ ((J _).mpr ⟨by lia,CR R.2 ?_⟩);rw[mn A,show (t.kind==4)=Vt from q];exact Ku.mpr ⟨x,w,rfl⟩
  refine ⟨_,bt _,(sQ (k:=f) (Φ:=λst=>gg st B 9 N kv lc (ndOf (needsOf ts)) su k g nf/\st[L]?=Vr (.list r)) h9 O K y A T C n.1.info.2.2.2.2 l c (λst q o hq h=>⟨h.1.beyond (by lia),bG (by lia) h.2⟩) n e).imp λfl s h=>?_⟩;refine aC λz b=>?_;obtain ⟨rfl,e,n,_,rows',kvs',K',l,c⟩:=h;refine b ?_;refine w3 e n (y2 rows' kvs' (w3 ?_ l c));rw[Le,F,<- KW];exact K'
 ·refine aC λz b=>?_;obtain ⟨e,n,rows,kvs,K,l,c⟩:=u;refine b ?_;rw[L2,Ke,Ke,show (aB g).length=g.length from Ke ..,Mr] at K;exact aG (q s rows kvs e n.1 n.2 l c K)
end
theorem oq {k q:Nat}{cx:Cx}{s:St}{p:Pos}(h:s.st.length=q):(wO (mk k) cx (.List [] p)).f s=.ok (.loc q) ⟨s.fr,s.st++[.list []]⟩:=by
 rw[<- h];exact dT rfl aL rfl
theorem tI {k q:Nat}{cx:Cx}{s:St}{p:Pos}(h:s.st.length=q):(wO (mk k) cx (.Dict [] [] p)).f s=.ok (.loc q) ⟨s.fr,s.st++[.dict []]⟩:=by
 rw[<- h];exact mU
theorem zs {ts:List Thing9}:Keep ts [] [] []:=⟨rfl,.nil,λ_ h=>(nomatch h),.nil,λ_ h=>absurd h (L8 _)⟩
def H9 (ts:List Thing9) (v:V):Prop:=∃K P rows kvs,nH (ndOf (needsOf ts)) 9 K/\Keep ts P rows kvs/\(∀i,i∈P<->i<9/\¬Wk (ndOf (needsOf ts)) K i)/\v=.d (.tup [.lst (dF (ndOf (needsOf ts)) 9 K++[ln]),.dct kvs,.lst (rows.map cA)])
section
variable {st:List SObj}{B N f:Nat}{ts:List Thing9}{kv:List (Int×Nat)}{lc:Nat->Nat}{su:Nat->List Nat}{g:List Nat}
set_option maxHeartbeats 2000000 in
theorem wD (h9:ts.length=9) (hg:∀t∈ts,t.Good) (H:Shp 9 (ndOf (needsOf ts)) su) (S:nx st B 9 N kv lc (ndOf (needsOf ts)) su 0 g 0) (C:N<=st.length):W ((mk (f+50)).call 316 [.loc B,.d (.lst (ts.map Thing9.gd))] st) (λv s=>s.fr=[]/\(∃r,s.st=.ctab::r)/\H9 ts v) noE:=by
 refine W.abs λQ hQ=>?_;refine bX (fd:=aW 316) (us:=[.loc B,.d (.lst (ts.map Thing9.gd))]) (fr:=aY (sn "given") (.d (.lst (ts.map Thing9.gd))) (aY (sn "sorter") (.loc B) [])) rfl rfl rfl rfl rfl ?_;have S1:=((S.app (q:=[.list []])).app (q:=[.dict []])).app (q:=[.list []]);refine aC λK l=>?_;obtain ⟨p,b⟩:∃X,X=((st++[.list []])++[.dict []])++[.list []]:=⟨_,rfl⟩
 have L:(st++[SObj.list []]).length=st.length+1:=Km;have q2:((st++[SObj.list []])++[SObj.dict []]).length=st.length+2:=Km.trans (congrArg (· + 1) L);have a0:p[st.length]?=Vr (.list []):=by rw[b];exact aE (aE (bH rfl))
 have a1:p[st.length+1]?=Vr (.dict []):=by rw[b];exact aE (bH L.symm)
 have a2:p[st.length+2]?=Vr (.list []):=by rw[b];exact bH q2.symm
 rw[<- b] at S1;obtain ⟨fz,l1⟩:=S1.info;obtain ⟨v,⟨_,ab⟩,e,rfl,hfr,K1,H1⟩:=(iy (f:=f+20) H S1).get;refine l ?_;obtain rfl:=show _=[] from hfr
 refine' ee ?a1 ?a2 (oq rfl) (ee ?a3 ?a4 (tI L) (ee ?a5 ?a6 (oq q2) ?a7))
 ·kernel_rfl
 ·exact ⟨rfl,rfl⟩
 ·kernel_rfl
 ·exact ⟨rfl,rfl⟩
 ·kernel_rfl
 ·exact ⟨rfl,rfl⟩
 show W (((mk _).xs _ _).f ⟨_,((st++[.list []])++[.dict []])++[.list []]⟩) _ _;rw[<- b];refine' bT ?b1 ?b2 (aT (w3 rfl rfl rfl) ?b3 ?b4 (cF ?b5 ?b6 aL (fA ?b7 ?b8))) ?b9
 case b1=>kernel_rfl
 case b2=>exact ⟨rfl,rfl⟩
 case b3=>decide
 case b4=>walk_at "e"
 case b5=>exact l1
 case b6=>rfl
 case b7=>kernel_rfl
 case b8=>exact e
 refine' gQ (λM s=>∃k g nf,k+M=9/\jb s.fr (Ig B st.length (.d (.tup ((aB g).map .int))) ts)/\gg s.st B 9 N kv lc (ndOf (needsOf ts)) su k g nf/\s.st[st.length]?=Vr (.list (dF (ndOf (needsOf ts)) 9 k))/\(∀j,j<k->iE (ndOf (needsOf ts)) 9 j≠[])/\∃P rows kvs,Keep ts P rows kvs/\(∀i,i∈P<->i<9/\¬Wk (ndOf (needsOf ts)) k i)/\s.st[st.length+1]?=Vr (.dict kvs)/\s.st[st.length+2]?=Vr (.list (rows.map cA))) 9 rfl (by decide) (y3 0 g 0 (w6 rfl ?c1 H1 (K1.at_ C a0) nofun (y3 [] [] [] (w4 zs (λi=>⟨λh=>(nomatch h),λh=>absurd trivial h.2⟩) (K1.at_ (by lia) a1) (K1.at_ (by lia) a2))))) (λR Z M s hR hZ hI=>?c2)
 case c1=>walk_at "h"
 case c2=>
  refine aC λK l=>?_;obtain ⟨k,g,nf,hk,hf,HH,m,ne,P,rows,kvs,KK,Y,F,E⟩:=hI;obtain ⟨fr,o⟩:=s;obtain ⟨fz,ld,lr,la,hd⟩:=HH.info;refine l ?_;have a8:=HH.len;cases g with
  | nil=>
   refine' (y2 Vu _ (w3 (uw (Bj (jd ?d1 ?d3))) (λe=>(nomatch e)) (λ_=>?d2)))
   case d1=>walk_at "e"
   case d3=>rfl
   have T:=kY (f:=f+25) HH;have hl:(dF (ndOf (needsOf ts)) 9 k).length=k:=by unfold dF;rw[Ke,KI]
   have G:=cv (d:=ln) m (by lia);refine' aG (hZ _ _ (cb rfl (aT (w3 rfl rfl rfl) ?e1 ?e2 (aS (bm:=.append) ?e3 ?e4 rfl (aI rfl (mM rfl (aI rfl ?e5 (aI rfl (mX ?e6 ?e7 (aT (w3 rfl rfl rfl) ?e8 ?e9 (cF ?aq ?aw aL (fA ?av ?af))) AB ?ac) aL)) ?ao) aL) ?ab)) (cg (oo rfl (aI rfl (dR ?ah ?az ?aa) (aI rfl (dR ?ak ?ai ?aj) (aI rfl (dR ?am ?ba ?ax) aL))) ?ae) ?ar)))
   case e1=>decide
   case e2=>walk_at "e"
   case e3=>exact cY m
   case e4=>exact db m rfl
   case e5=>walk_at "e"
   case e6=>rfl
   case e7=>rfl
   case e8=>decide
   case e9=>walk_at "e"
   case aq=>exact la
   case aw=>rfl
   case av=>kernel_rfl
   case af=>exact T
   case ac=>rfl
   case ao=>walk_at "p"
   case ab=>exact G
   case ah=>kernel_rfl
   case az=>walk_at "g"
   case aa=>exact jY (bA m)
   case ak=>kernel_rfl
   case ai=>walk_at "g"
   case aj=>exact zU (bG (by lia) (bG (by lia) F))
   case am=>kernel_rfl
   case ba=>walk_at "g"
   case ax=>exact jY (bG (by lia) (bG (by lia) (bG (by lia) E)))
   case ae=>walk_at "p"
   case ar=>
    refine hQ _ _ (w3 rfl ?_ (y4 k P rows kvs (w4 (w3 (by lia) ((lC HH.grp).mp rfl) ne) KK Y rfl)));exact fb (fb (fb (fb hd m nofun (y:=.gone)) (bA m) nofun (y:=.gone)) (bG (by lia) (bG (by lia) F)) nofun (y:=.gone)) (bG (by lia) (bG (by lia) (bG (by lia) E))) nofun (y:=.gone)
  | cons a g=>
   have tt:cc o (.d (.tup ((aB (a::g)).map .int)))=Vr true:=rfl;have kn:k<9:=DZ H.lt (((HH.grp.mem a).mp (.head _)).1) ((HH.grp.mem a).mp (.head _)).2;have hl:(dF (ndOf (needsOf ts)) 9 k).length=k:=by unfold dF;rw[Ke,KI]
   have so:bI o .sorted [.d (.tup ((aB (a::g)).map .int))]=Vr (gN (ndOf (needsOf ts)) 9 k):=by
    have:=rT (st:=o) (is:=aB (a::g)) (by rw[show (aB (a::g)).length=(a::g).length from Ke ..];lia);rw[qW HH.grp] at this;exact this
   have G:=cv (d:=gN (ndOf (needsOf ts)) 9 k) m (by lia);refine aC λK l=>?_;obtain ⟨n,c⟩:∃X,X=o.set st.length (.list (dF (ndOf (needsOf ts)) 9 k++[gN (ndOf (needsOf ts)) 9 k])):=⟨_,rfl⟩
   refine l ?_;rw[<- c] at G;have H3:gg n B 9 N kv lc (ndOf (needsOf ts)) su k (a::g) nf:=by rw[c];exact HH.beyond C
   have I:n[st.length]?=Vr (.list (dF (ndOf (needsOf ts)) 9 (k+1))):=by rw[c,nY];exact bA m
   have z:n[st.length+1]?=Vr (.dict kvs):=by rw[c];exact bG (by lia) F
   have A:n[st.length+2]?=Vr (.list (rows.map cA)):=by rw[c];exact bG (by lia) E
   refine' (y2 Vt _ (w3 (uw (vI (jd ?g1 ?g0) (vI (je (dH (d:=.bi .isinstance) ?g2 ?g3 ?g4 (rC ?g5 ?g6 ?g7 A7)) fG) Bk))) (λ_=>?g8) (λe=>nomatch e)))
   case g1=>walk_at "e"
   case g0=>exact tt
   case g2=>rfl
   case g3=>rfl
   case g4=>kernel_rfl
   case g5=>kernel_rfl
   case g6=>kernel_rfl
   case g7=>walk_at "e"
   refine' cb rfl (aT (w3 rfl rfl rfl) ?h1 ?h2 (aS (bm:=.append) ?h3 ?h4 rfl (aI rfl ?h5 aL) ?h6)) (ed rfl (w3 rfl rfl rfl) ?h7 ?ag)
   case h1=>decide
   case h2=>walk_at "e"
   case h3=>exact cY m
   case h4=>exact db m rfl
   case h5=>walk_at "e"
   case h6=>exact G
   case h7=>walk_at "e"
   case ag=>
    refine ⟨_,jz,wh (f:=f+4) (P:=P) (rows:=rows) (kvs:=kvs) h9 hg H3 C I z A KK Y (by walk_at "h") rfl (λv=>eK rfl) (λs rows kvs hf H4 O x u K4=>?_)⟩;refine aC λK l=>?_;obtain ⟨fr,a9⟩:=s;obtain ⟨aa,J,_,_,_⟩:=H4.info;obtain ⟨_,⟨_,ac⟩,e6,rfl,hfr,K6,r,R6⟩:=(od (f:=f+16) H H4).get;obtain rfl:=show _=[] from hfr
    obtain ⟨af,U⟩:=R6.info;obtain ⟨_,⟨_,ae⟩,e7,rfl,hfr,K7,H7⟩:=(iy (f:=f+15) H R6).get;refine l ?_;obtain rfl:=show _=[] from hfr
    refine' cb rfl (aT (w3 rfl rfl rfl) ?i1 ?i2 (cF ?i3 ?i4 (ug rfl ?i5 uF) (fA ?i6 ?i7))) (bT ?j1 ?j2 (aT (w3 rfl rfl rfl) ?j3 ?j4 (cF ?j5 ?j6 aL (fA ?j7 ?j8))) (aG ?j9))
    case i1=>decide
    case i2=>walk_at "e"
    case i3=>exact J
    case i4=>rfl
    case i5=>walk_at "e"
    case i6=>kernel_rfl
    case i7=>exact e6
    case j1=>kernel_rfl
    case j2=>exact ⟨rfl,rfl⟩
    case j3=>decide
    case j4=>walk_at "e"
    case j5=>exact U
    case j6=>rfl
    case j7=>kernel_rfl
    case j8=>exact e7
    case j9=>
     refine hR _ _ ⟨M-1,by lia,y3 (k+1) r _ (w6 (by lia) (by walk_at "h") H7 (K7.at_ C (K6.at_ C O)) (λj hj=>?_) (y3 _ rows kvs (w4 K4 (λi=>?_) (K7.at_ (by lia) (K6.at_ (by lia) x)) (K7.at_ (by lia) (K6.at_ (by lia) u)))))⟩
     ·rcases MB.mp hj with h | h
      ·exact ne j h
      ·rw[h];exact λq=>nomatch (lC HH.grp).mpr q
     ·rw[Kx,Y,HH.grp.mem];exact ⟨λh=>h.elim (λh=>⟨h.1,λw=>h.2 w.pred⟩) λh=>⟨h.1,h.2.2⟩,λh=>(QH (Wk (ndOf (needsOf ts)) k i)).elim (λw=>.inr (w3 h.1 w h.2)) λw=>.inl ⟨h.1,w⟩⟩
end
end
section
set_option linter.all false
section
variable {nd:Nat->List Nat}{n K k t i:Nat}{α:Type}
theorem Fq (hn:∀s,s<n->∀x∈nd s,x<n) (h:iE nd n k=[]):iE nd n (k+1)=[]:=Ma.mpr λi e=>by
 obtain ⟨c,a⟩:=eg.mp e;obtain ⟨j,d,b⟩:=mE a;have m:j∈iE nd n k:=eg.mpr ⟨hn i c j d,b⟩;rw[h] at m;exact nomatch m
theorem qO (hn:∀s,s<n->∀x∈nd s,x<n) (h:iE nd n K=[]) (b:K<=k):iE nd n k=[]:=by
 induction b with
 | refl=>exact h
 | step _ a=>exact Fq hn a
theorem wA (hn:∀s,s<n->∀x∈nd s,x<n) (L:nH nd n K) (b:i<n) (c:K<=t):Wk nd t i<->Wk nd K i:=⟨λw=>w.le c,λw=>Qe λq=>by
  obtain ⟨k,d,a⟩:=Hh q;have m:i∈iE nd n k:=eg.mpr ⟨b,a⟩;by_cases h:K<=k
  ·rw[qO hn L.2.1 h] at m;exact nomatch m
  ·exact a.2 (w.le (by lia))⟩
theorem wz {a:Nat->List Nat}{d b:Nat}(L:nH nd n K) (c:nH a d b) (h:∀k,k<=K->(iE a d k=[]<->iE nd n k=[])):b=K:=Oo (ML λq=>c.2.2 K q ((h K (KL _)).mpr L.2.1)) (ML λq=>L.2.2 b q ((h b (Ox q)).mp c.2.1))
theorem yE {g:Nat->Option α}{f:Nat->α}(d:∀k,k<K->g k=Vr (f k)) (c:∀k,K<=k->g k=Vs){m:Nat}(a:K<=m):(KC m).filterMap g=(KC K).map f:=by
 induction a with
 | refl=>exact (mJ λx e=>d x (LA.mp e)).trans dE
 | step h b=>
  rw[Oc,List.filterMap_append,b,List.filterMap_cons_none (c _ h)];exact LG _
end
section
variable {ts:List Thing9}(h9:ts.length=9) (hg:∀t∈ts,t.Good)
theorem gn (hg:∀t∈ts,t.Good):∀s,s<9->∀x∈ndOf (needsOf ts) s,x<9:=λs _=>(eG hg).lt s
theorem te {x:Int}:(hs (needsOf ts) 9).contains x=Vt<->∃i,i<9/\(hs (needsOf ts) 9)[i]?=Vr x:=by
 rw[KR,Lc];exact exists_congr λi=>⟨λh=>⟨by have:=(Kh.mp h).1;rw[qV] at this;exact this,h⟩,And.right⟩
theorem Fz (hg:∀t∈ts,t.Good){t:Nat}(b:t<9):(hs (needsOf ts) 9).contains (t:Int)=!(iE (ndOf (needsOf ts)) 9 t).isEmpty:=by
 rw[LR,te,KO,PB];exact exists_congr λi=>(and_congr_right λa=>DY (eG hg) a b).trans eg.symm
theorem CU (hg:∀t∈ts,t.Good){t:Nat}(b:t<9):((KC 9).filterMap λi=>cond (r8 ts i==(t:Int)) (Vr (D.int (i:Int))) Vs)=(aB (iE (ndOf (needsOf ts)) 9 t)).map .int:=by
 rw[pJ (p:=λi=>r8 ts i==(t:Int)) (f:=λi:Nat=>D.int (i:Int))];unfold aB iE;rw[KH];refine congrArg (Nd _) (List.filter_congr λi a=>?_)
 ·have a:=LA.mp a
  classical
  rw[LR,decide_eq_true_iff,<- DY (eG hg) a b,beq_iff_eq];unfold r8;rw[Kl (by rw[qV];exact a),OS];rfl
theorem AD (hg:∀t∈ts,t.Good){K:Nat}(L:nH (ndOf (needsOf ts)) 9 K):((KC 9).filterMap λ(t:Nat)=>cond ((hs (needsOf ts) 9).contains (t:Int)) (Vr (gN (ndOf (needsOf ts)) 9 t)) Vs)=dF (ndOf (needsOf ts)) 9 K:=by
 have e:((KC 9).filterMap λ(t:Nat)=>cond ((hs (needsOf ts) 9).contains (t:Int)) (Vr (gN (ndOf (needsOf ts)) 9 t)) Vs)=(KC 9).filterMap λ(t:Nat)=>cond (!(iE (ndOf (needsOf ts)) 9 t).isEmpty) (Vr (gN (ndOf (needsOf ts)) 9 t)) none:=mJ λt b=>by rw[Fz hg (LA.mp b)]
 rw[e];refine yE (λk a=>?_) (λk a=>?_) L.1
 ·have:=L.2.2 k a;rw[List.isEmpty_eq_false_iff.mpr this];rfl
 ·rw[qO (gn hg) L.2.1 a];rfl
variable {K:Nat}{P:List Nat}{rows:List Row}{kvs:List (Int×D)}
theorem FE (hg:∀t∈ts,t.Good) (L:nH (ndOf (needsOf ts)) 9 K) (a:∀i,i∈P<->i<9/\¬Wk (ndOf (needsOf ts)) K i){i:Nat}:i∈P<->eo ts i:=by
 rw[a];exact and_congr_right λb=>not_congr (wA (gn hg) L b L.1).symm
theorem CH (hg:∀t∈ts,t.Good) (L:nH (ndOf (needsOf ts)) 9 K) (c:∀i,i∈P<->i<9/\¬Wk (ndOf (needsOf ts)) K i) (KK:Keep ts P rows kvs):Kept ts (nuK kvs) rows/\NumOk ts (nuK kvs) kvs:=by
 have F:=λ{i:Nat}=>FE hg L c (i:=i);refine ⟨⟨λi t f e=>?_,KK.once,λr d=>?_,KK.rows_le λx b=>((c x).mp b).1,λi t f e q x b=>?_⟩,⟨?_,λx=>?_,λi f=>?_⟩⟩
 ·obtain ⟨u,a,_,h,_⟩:=KK.at_ i (F.mpr f);rw[Kd (e.symm.trans a)];exact h
 ·obtain ⟨i,g,e⟩:=KK.all r d;exact ⟨i,F.mp g,e⟩
 ·obtain ⟨u,a,_,_,h⟩:=KK.at_ i (F.mpr f);obtain rfl:=Kd (e.symm.trans a);exact (h q x b).2
 ·rw[KK.keys];exact kW KK.nod
 ·rw[KK.keys,iB];exact exists_congr λi=>and_congr F ⟨Eq.symm,Eq.symm⟩
 ·obtain ⟨_,_,h,_⟩:=KK.at_ i (F.mpr f);exact h
end
theorem rQ {is:List Int}(h:∀x∈is,bK x):eX (aR is)=is:=by
 unfold eX aR;rw[KH];exact (LN λx a=>hG (h x a)).trans (N6 _)
noncomputable def qT (r:Row):Bool:=decide (r.1.cps[0]?=Vr 100)
noncomputable def needR (rows:List Row):List (List Int):=rows.map λr=>cond (qT r) (eX r.2) []
section
variable {ts:List Thing9}{nu:Nat->Nat}{rows:List Row}(h9:ts.length=9) (hg:∀t∈ts,t.Good) (K:Kept ts nu rows)
include h9 hg K
theorem qF {i:Nat}{t:Thing9}(f:eo ts i) (e:ts[i]?=Vr t):(needR rows)[nu i]?=Vr (cond (fP t) (t.inner.map λx=>(nu x.toNat:Int)) []):=by
 unfold needR;rw[Kv,K.at_ i t f e];show Vr (cond (decide (t.row.cps[0]?=Vr 100)) (eX (aR (inn nu t))) [])=_;have q:decide (t.row.cps[0]?=Vr 100)=fP t:=by
  unfold fP;rw[<- ta (hg t (Ko e)),LR,decide_eq_true_iff,beq_iff_eq,sA,OS]
 refine (congrArg (λb=>Vr (cond b (eX (aR (inn nu t))) [])) q).trans ?_;rw[rQ (pF h9 hg K f e)];unfold inn;cases fP t<;>rfl
theorem wq:xw (needR rows) rows.length/\∀l∈needR rows,l.length<=9:=by
 have b:∀l∈needR rows,l.length<=2/\∀x∈l,0<=x/\x<(rows.length:Int):=λl c=>by
  obtain ⟨r,d⟩:=Lc.mp c;have a:=(Kh.mp d).1;unfold needR at a;rw[Ke] at a;obtain ⟨i,f,rfl⟩:=K.all r a;obtain ⟨t,e⟩:∃t,ts[i]?=Vr t:=⟨_,Kl (by have:=f.1;lia)⟩
  rw[qF h9 hg K f e] at d;refine rq (Kd d) ?_;have G:=(hg t (Ko e)).inner;cases q:fP t with
  | false=>exact ⟨LE _,λ_ h=>nomatch h⟩
  | true=>
   refine ⟨Lr (O7 (Ke ..)) G.1,λx j=>?_⟩;obtain ⟨y,g,rfl⟩:=Ku.mp j;have:=uL h9 hg K (iI h9 hg f e q y g);lia
 exact ⟨λl c=>(b l c).2,λl c=>Lr (b l c).1 (by decide)⟩
theorem Fc {i:Nat}(f:eo ts i):ndOf (needR rows) (nu i)=(ndOf (needsOf ts) i).map nu:=by
 obtain ⟨t,a⟩:∃t,ts[i]?=Vr t:=⟨_,Kl (by have:=f.1;lia)⟩
 rw[mn a];unfold ndOf;rw[qF h9 hg K f a];unfold fP;cases t.kind==4
 ·rfl
 ·show (t.inner.map λx=>(nu x.toNat:Int)).map OW=(t.inner.map OW).map nu;rw[KH,KH];rfl
theorem Gx:∀{t i:Nat},eo ts i->(Wk (ndOf (needR rows)) t (nu i)<->Wk (ndOf (needsOf ts)) t i):=@nr _ (@λ_ _=>SW) (λt b=>(@λi f=>by
  obtain ⟨u,c⟩:∃t,ts[i]?=Vr t:=⟨_,Kl (by have:=f.1;lia)⟩
  have d:∀x∈ndOf (needsOf ts) i,eo ts x:=λx a=>by
   rw[mn c] at a;cases q:u.kind==4 with
   | false=>rw[q] at a;exact nomatch a
   | true=>
    rw[q] at a;obtain ⟨y,e,rfl⟩:=Ku.mp a;exact iI h9 hg f c q y e
  show (∃j∈ndOf (needR rows) (nu i),_)<->∃j∈ndOf (needsOf ts) i,_;rw[Fc h9 hg K f];exact ⟨λ⟨j,g,w⟩=>by
   obtain ⟨x,a,rfl⟩:=Ku.mp g;exact ⟨x,a,(b (d x a)).mp w⟩,λ⟨x,a,w⟩=>⟨nu x,KU a,(b (d x a)).mpr w⟩⟩))
theorem jM {k r:Nat}:r∈iE (ndOf (needR rows)) rows.length k<->∃i,i∈iE (ndOf (needsOf ts)) 9 k/\eo ts i/\nu i=r:=by
 rw[eg];constructor
 ·rintro ⟨b,a⟩
  obtain ⟨i,f,rfl⟩:=K.all r b;exact ⟨i,w3 (eg.mpr (w3 f.1 ((Gx h9 hg K f).mp a.1) (λw=>a.2 ((Gx h9 hg K f).mpr w)))) f rfl⟩
 ·rintro ⟨i,m,f,rfl⟩
  obtain ⟨_,a⟩:=eg.mp m;exact w3 (uL h9 hg K f) ((Gx h9 hg K f).mpr a.1) (λw=>a.2 ((Gx h9 hg K f).mp w))
omit h9 K hg in
theorem mq {k i:Nat}(b:k<9) (m:i∈iE (ndOf (needsOf ts)) 9 k):eo ts i:=by
 obtain ⟨a,c⟩:=eg.mp m;exact ⟨a,λw=>c.2 (w.le b)⟩
theorem zi {k M:Nat}(L:nH (ndOf (needsOf ts)) 9 M) (a:k<=M):iE (ndOf (needR rows)) rows.length k=[]<->iE (ndOf (needsOf ts)) 9 k=[]:=by
 rw[Ma,Ma];refine ⟨λh i m=>?_,λh r m=>?_⟩
 ·have:k<M:=Nat.lt_of_le_of_ne a λe=>by rw[e,L.2.1] at m;exact nomatch m
  exact h (nu i) ((jM h9 hg K).mpr ⟨i,w3 m (mq (L6 this L.1) m) rfl⟩)
 ·obtain ⟨i,m,_⟩:=(jM h9 hg K).mp m;exact h i m
omit h9 K hg in
theorem xa:∀{l acc:List Int},acc.Nodup->(l.foldl (λacc x=>if acc.contains x then acc else acc++[x]) acc).Nodup/\∀x,x∈l.foldl (λacc x=>if acc.contains x then acc else acc++[x]) acc<->x∈acc\/x∈l:=@lr _ _ (@λacc h=>⟨h,λx=>⟨.inl,λh=>h.elim id λh=>nomatch h⟩⟩) (λy l c=>(@λacc h=>by
  rw[O8];by_cases q:acc.contains y=Vt
  ·rw[if_pos q];have m:=KR.mp q;exact ⟨(c h).1,λx=>((c h).2 x).trans ⟨λh=>h.imp id (.tail _),λh=>h.elim .inl λh=>(Kw.mp h).elim (λe=>.inl (e▸m)) .inr⟩⟩
  ·rw[if_neg q];have f:y∉acc:=λm=>q (KR.mpr m);have d:(acc++[y]).Nodup:=Lx.mpr (w3 h (Md _ _) (λa g b i e=>f (by rw[<- Kk.mp i,<- e];exact g)));exact ⟨(c d).1,λx=>((c d).2 x).trans (by rw[Kx,Kk,Kw,or_assoc])⟩))
theorem wX {k M:Nat}(L:nH (ndOf (needsOf ts)) 9 M) (b:k<M):fe (ik ((iE (ndOf (needsOf ts)) 9 k).map λi=>(nu i:Int)))=aB (iE (ndOf (needR rows)) rows.length k):=by
 have D:=xa (l:=(iE (ndOf (needsOf ts)) 9 k).map λi=>(nu i:Int)) (acc:=[]) .nil;refine pd D.1 (jT jp) λx=>(D.2 x).trans ?_;rw[iB];constructor
 ·intro h;obtain ⟨i,a,rfl⟩:=Ku.mp (h.resolve_left λh=>nomatch h);exact ⟨nu i,(jM h9 hg K).mpr ⟨i,w3 a (mq (L6 b L.1) a) rfl⟩,rfl⟩
 ·rintro ⟨r,c,rfl⟩
  obtain ⟨i,a,_,rfl⟩:=(jM h9 hg K).mp c;exact .inr (Ku.mpr ⟨i,a,rfl⟩)
theorem yS {c:List Nat}(R:Ring (ndOf (needR rows)) rows.length c):False:=by
 obtain ⟨x,a⟩:∃x,x∈c:=⟨_,Ms (n:=0) (by have:=R.len;lia)⟩
 obtain ⟨i,f,e⟩:=K.all _ (R.lt _ a);have w:=uo R.len R.ends R.by_ 9 _ a;rw[<- e] at w;exact f.2 ((Gx h9 hg K f).mp w)
end
section
variable {ts:List Thing9}{rows:List Row}
theorem yy {a:Nat->List Nat}{n:Nat}{c:List Nat}(R:Ring a n c):c.length<=n+1:=by
 have:=fg R.once λx b=>R.lt x (List.dropLast_subset _ b);rw[RM] at this;lia
theorem wf (b:∀t∈ts,t.Good){c:List Nat}(R:Ring (ndOf (needsOf ts)) 9 c):(hs (needsOf ts) 9).contains 9=true:=by
 obtain ⟨x,a⟩:∃x,x∈c:=⟨_,Ms (n:=0) (by have:=R.len;lia)⟩
 exact te.mpr ⟨_,R.lt _ a,(vd (eG b) (R.lt _ a)).mpr (uo R.len R.ends R.by_ 9 _ a)⟩
theorem AK (a:∀t∈ts,t.Good){su:Nat->List Nat}(T:gF (ndOf (needsOf ts)) su 9) (C:Ir (ndOf (needsOf ts)) su 9 (.d .non)):(hs (needsOf ts) 9).contains 9=false:=by
 rcases C with ⟨_,k,j,f,l,g⟩ | ⟨c,e,_⟩
 ·rw[Bool.eq_false_iff];intro h;obtain ⟨i,b,e⟩:=te.mp h;have:=Ct T (gn a) j f g b ((vd (eG a) b).mp e);lia
 ·exact V.noConfusion e λh=>D.noConfusion h
end
end
section
set_option linter.all false
section
variable {k:Nat}{cx:Cx}{s s1:St}{t it elt:Kf}{ifs:List Kf}{scope:OL}{pos p spos:Pos}{v:V}{st st':List SObj}{α:Type}{f:α->V}{h:α->Option D}{ps:List α}{Q:Fl->St->Prop}{E:D->List D->St->Prop}{ss:List Stmt}{n:Str}
theorem oE {F1:List (Str×V)}{T1:List SObj}(hn:bC (cx.names.lookup n)=Vt) (c:dM cx it ifs scope) (a:((mk k).ev cx it).f s=.ok v ⟨F1,T1⟩) (b:cS T1 v=Vr (ps.map f,st')) (hz:ps.length<=100000) (e:∀p∈ps,jx k (dW cx scope) t elt ifs (ef scope.names F1) st' (f p) (h p)) (q:W (((mk k).xs cx ss).f ⟨aY n (.d (.lst (ps.filterMap h))) F1,st'⟩) Q E):W (((mk (k+1)).xs cx (.Assign [.Name n p] (.ListComp elt [⟨t,it,ifs,0⟩] scope pos) spos::ss)).f s) Q E:=ko ((if_pos hn).trans (aK (kH (pos:=pos) c a b hz e) rfl)) q
theorem tZ {ts:List Kf}{m l:Nat}{d:D}{bs:List (Str×V)}(h:nz cx ts [.loc l,.d d]=Vr bs):dB cx (.Tuple ts m p) (.pair l d)=Vr bs:=h
end
theorem fj {st:List SObj}{α:Type}{f:α->D}{ps:List α}:cS st (.d (.lst (ps.map f)))=Vr (ps.map λp=>V.d (f p),st):=by
 show Vr ((ps.map f).map V.d,st)=_;rw[KH];rfl
section
variable {k:Nat}{cx:Cx}{s s1:St}{Q:Fl->St->Prop}{E:D->List D->St->Prop}{ss:List Stmt}{n1 n2 n3:Str}{p1 p2 p3 p pos:Pos}{m l:Nat}{e:Kf}{a b c d:D}
theorem xD {F1:List (Str×V)}{T1:List SObj}(b:hX e=Vu/\jq e=Vu/\cx.inH=Vu) (a:bC (cx.names.lookup n1)=Vt) (c:bC (cx.names.lookup n2)=Vt) (h:((mk k).ev cx e).f s=.ok (.pair l d) ⟨F1,T1⟩) (q:W (((mk k).xs cx ss).f ⟨aY n2 (.d d) (aY n1 (.loc l) F1),T1⟩) Q E):W (((mk (k+1)).xs cx (.Assign [.Tuple [.Name n1 p1,.Name n2 p2] m p] e pos::ss)).f s) Q E:=ul b h (tZ (aQ a (aQ c eA))) q
theorem BH {F1:List (Str×V)}{T1:List SObj}(i:hX e=Vu/\jq e=Vu/\cx.inH=Vu) (g:bC (cx.names.lookup n1)=Vt) (j:bC (cx.names.lookup n2)=Vt) (l:bC (cx.names.lookup n3)=Vt) (h:((mk k).ev cx e).f s=.ok (.d (.tup [a,b,c])) ⟨F1,T1⟩) (q:W (((mk k).xs cx ss).f ⟨aY n3 (.d c) (aY n2 (.d b) (aY n1 (.d a) F1)),T1⟩) Q E):W (((mk (k+1)).xs cx (.Assign [.Tuple [.Name n1 p1,.Name n2 p2,.Name n3 p3] m p] e pos::ss)).f s) Q E:=ul i h (iO (aQ g (aQ j (aQ l eA)))) q
end
section
variable {n:Nat}{l m:List D}{d:D}{i:Int}{s:Str}{b:Array UInt8}{c:Bool}{st:List SObj}
theorem iR {f:D->D->Option Bool}:∀{l:List D},(∀d∈l,f d d=Vr Vt)->kN (My f l l)=Vr true:=@lr _ _ (@λ_=>rfl) (λd l e=>(@λh=>by
  show Lm (f d d) (λa=>(kN (My f l l)).map λb=>a&&b)=_;rw[h d (.head _),e λd c=>h d (.tail _ c)];rfl))
theorem Ak:fE (n+1) (.int i) (.int i)=Vr true:=by
 show Vr (i==i)=_;rw[beq_self_eq_true]
theorem Aj:fE (n+1) (.str s) (.str s)=Vr true:=by
 show Vr (s==s)=_;rw[beq_self_eq_true]
theorem Am:fE (n+1) (.bytes b) (.bytes b)=Vr true:=by
 show Vr (b==b)=_;rw[beq_self_eq_true]
theorem An:fE (n+1) (.bool c) (.bool c)=Vr true:=by
 show Vr (c==c)=_;rw[beq_self_eq_true]
theorem pO (h:∀d∈l,fE n d d=Vr Vt):fE (n+1) (.lst l) (.lst l)=Vr true:=by
 show Kj Vs (Kj Vs (Kj Vs (Kj Vs (Kj (if l.length=l.length then _ else _) _))))=_;rw[if_pos rfl,iR h];rfl
theorem FP (h:∀d∈l,fE n d d=Vr Vt):fE (n+1) (.tup l) (.tup l)=Vr true:=by
 show Kj Vs (Kj Vs (Kj Vs (Kj Vs (Kj Vs (if l.length=l.length then _ else _)))))=_;rw[if_pos rfl,iR h];rfl
theorem oM (h:∀d∈l,fE 5 d d=Vr Vt):gJ (.lst l) (.lst l)=Vr true:=by
 show Kj Vs (Kj Vs (Kj (if l.length=l.length then _ else _) _))=_;rw[if_pos rfl,iR h];rfl
theorem BS (h:∀d∈l,fE 5 d d=Vr Vt):gJ (.tup l) (.tup l)=Vr true:=by
 show Kj Vs (Kj Vs (Kj Vs (if l.length=l.length then _ else _)))=_;rw[if_pos rfl,iR h];rfl
theorem kO:∀d∈([]:List D),fE n d d=Vr true:=λ_ h=>nomatch h
theorem fh (h:fE n d d=Vr Vt) (q:∀d∈l,fE n d d=Vr Vt):∀x∈d::l,fE n x x=Vr true:=λx a=>(Kw.mp a).elim (λe=>e▸h) (q x)
theorem Ge (h:∀d∈l,fE n d d=Vr Vt) (q:∀d∈m,fE n d d=Vr Vt):∀x∈l++m,fE n x x=Vr true:=λx a=>(Kx.mp a).elim (h x) (q x)
theorem p7 {α:Type}{f:α->D}{ps:List α}(h:∀p∈ps,fE n (f p) (f p)=Vr Vt):∀x∈ps.map f,fE n x x=Vr true:=λx b=>by
 obtain ⟨p,a,rfl⟩:=Ku.mp b;exact h p a
theorem I8 (h:gJ d d=Vr Vt):bV st .Eq (.d d) (.d d)=Vr true:=h
theorem qf:bV st .NotEq (.d qg) (.d qg)=Vr false:=qG (BS (fh Aj kO))
theorem zR {ts:List Thing9}:bV st .NotEq (.d (.lst (ts.map Thing9.gd))) (.d (.lst (ts.map Thing9.gd)))=Vr false:=qG (oM (p7 λt _=>pO (fh Ak (fh Am (fh An kO)))))
theorem B8 {rs:List Row}:bV st .NotEq (.d (kR rs)) (.d (kR rs))=Vr false:=qG (oM (p7 λt _=>pO (fh Aj (fh Am kO))))
theorem uV {a:Nat->List Nat}{n K:Nat}:gJ (.lst (dF a n K++[ln])) (.lst (dF a n K++[ln]))=Vr true:=oM (Ge (p7 λk _=>pO (p7 λx _=>Ak)) (fh (pO (fh (FP kO) (fh An kO))) kO))
end
theorem kJ (a b:Str):(∀c∈a.cps.toList,c<256)->(∀c∈b.cps.toList,c<256)->∀c∈(a++b).cps.toList,c<256:=λf e c d=>by
 have:c∈a.cps.toList++b.cps.toList:=RP▸d;exact (Kx.mp this).elim (f c) (e c)
theorem vi {a:Array Nat}(h:(a.toList.all λc=>decide (c<256))=Vt) (i:Nat):(a[i]?).getD 0<256:=by
 cases q:a[i]? with
 | none=>exact M9 _
 | some c=>exact of_decide_eq_true (KS.mp h c (Array.mem_toList_iff.mpr (Array.mem_of_getElem? q)))
theorem pk {x:Nat}(h:x<256):∀c∈(⟨#[x]⟩:Str).cps.toList,c<256:=λc a=>by rw[Kk.mp a];exact h
theorem Ca {h:Str}{r:Int}(hh:∀c∈h.cps.toList,c<256):∀i,∀c∈(rowS h r i).cps.toList,c<256:=@nr _ (hh) (λi a=>by
  refine kJ _ _ (kJ _ _ (kJ _ _ (a) ?_) ?_) (pk (vi ?_ _))
  ·unfold gR;cases decide (3<vu r i)<;>exact pk (by decide)
  ·unfold gW;cases (Ln (Lo (vu r i) 2) 2==1)<;>exact pk (by decide)
  ·unfold xT;cases i==2<;>rfl)
theorem CG {ts:List Thing9}{b:Nat->Nat}{rows:List Row}(h:ts.length=9) (e:∀t∈ts,t.Good) (K:Kept ts b rows):∀r∈rows,RowOk r/\r.1.cps.size≠0:=λr d=>by
 obtain ⟨j,a⟩:=Lc.mp d;obtain ⟨i,f,rfl⟩:=K.all j (Kh.mp a).1;obtain ⟨t,c⟩:∃t,ts[i]?=Vr t:=⟨_,Kl (by have:=f.1;lia)⟩
 rw[K.at_ i t f c] at a;refine rq (Kd a) ?_;have g:t.row.cps.size=10:=lV rfl 3;refine ⟨⟨?_,Ca (pk (vi rfl _)) 3,?_⟩,?_⟩
 ·show t.row.cps.size<=20;lia
 ·show (aR (inn b t)).size<=20;rw[eC];have:=(e t (Ko c)).inner.1;unfold inn;cases fP t
  ·show t.inner.length<=_;lia
  ·show (t.inner.map _).length<=_;rw[Ke];lia
 ·show t.row.cps.size≠0;lia
theorem B9 {r:Row}(h:r.1.cps.size≠0):∃c,r.1.cps[0]?=Vr c/\qT r=(c==100):=by
 refine ⟨_,Li (PW h),?_⟩;unfold qT;rw[Li (PW h),LR,decide_eq_true_iff,beq_iff_eq,OS]
theorem BZ {a b:Nat}:((⟨#[a]⟩:Str)==⟨#[b]⟩)=(a==b):=by
 rw[LR,beq_iff_eq,beq_iff_eq];exact ⟨λe=>by injection e with e;injection e with e;injection e,λe=>by rw[e]⟩
end
section
set_option linter.all false
theorem Gy {k:Nat}{cx:Cx}{a:List Stmt}{Q:Fl->St->Prop}{E:D->List D->St->Prop}(l:List (Str×V)){fr:List (Str×V)}{st:List SObj}(h:jb fr l) (q:∀fr,jb fr l->W (((mk k).xs cx a).f ⟨fr,st⟩) Q E):W (((mk k).xs cx a).f ⟨fr,st⟩) Q E:=q fr h
theorem zN {st:List SObj}(h:∃r,st=.ctab::r):(dt st).isSome=true:=by obtain ⟨r,rfl⟩:=h;rfl
noncomputable abbrev J5 (n:List (List Int)):D:=.lst (n.map λl=>.lst (l.map .int))
theorem Ek.redy {st:List SObj}{B n R:Nat}{kvs:List (Int×Nat)}{b su:Nat->List Nat}{a:List Nat}(S:Ek st B n kvs b su R a) (G:Grp b n 0 a):nx st B n st.length kvs (BD kvs) b su 0 a 0:=Rs.redy S G
theorem Ek.frz {st:List SObj}{B n R:Nat}{kvs:List (Int×Nat)}{b su:Nat->List Nat}{a:List Nat}(S:Ek st B n kvs b su R a):dQ st B=none:=by unfold dQ;rw[S.inst];rfl
theorem xJ {st:List SObj}{a:Nat->List Nat}{n k:Nat}:cS st (.d (gN a n k))=Vr ((iE a n k).map λ(i:Nat)=>V.d (.int (i:Int)),st):=by
 unfold gN aB;rw[KH];exact fj
theorem GD {k:Nat}{cx:Cx}{s s1:St}{t a b:Kf}{p:Pos}{c r:Bool}(h:((mk k).ts cx t).f s=.ok c s1) (d:c=Vt->((mk k).ts cx a).f s1=.ok r s1) (e:c=Vu->((mk k).ts cx b).f s1=.ok r s1):((mk (k+1)).ts cx (.IfExp t a b p)).f s=.ok r s1:=by
 cases c with
 | true=>exact GE h (d rfl)
 | false=>exact GF h (e rfl)
set_option maxHeartbeats 400000 in
theorem zj {f:Nat}{ns:List Int}:W ((mk (f+100)).call 333 [.d (.lst (ns.map .int))] [.ctab]) (λv s=>∃d,v=.d d/\(dt s.st).isSome=Vt/\d=.bool Vt) noE:=by
 refine aC λL g=>?_;obtain ⟨_,D0,ts,u,j,rfl⟩:=cW (drawn (k:=f+67) (ns:=ns));have F9:=eG j;have N:(needsOf ts).length=9:=by unfold needsOf;rw[Ke,u]
 have nL:∀l∈needsOf ts,l.length<=2:=λl T=>by
  unfold needsOf at T;obtain ⟨t,p,rfl⟩:=Ku.mp T;have:=(j t p).inner.1;cases t.kind==4
  ·exact LE _
  ·exact this
 obtain ⟨_,D2,rfl⟩:=cW (pG (k:=f+65) N nL);obtain ⟨_,D3,rfl⟩:=cW (vP (k:=f+62) u j);obtain ⟨_,D4,rfl⟩:=cW (qm (k:=f+53) u j);refine g ?_;refine bX (fd:=aW 333) (us:=[.d (.lst (ns.map .int))]) (fr:=aY (sn "script") (.d (.lst (ns.map .int))) []) rfl rfl rfl rfl rfl ?_;refine' bT ?a1 ?a2 (cQ 249 ?a3 ?a4 ?a5 ?a6 ?a7 ?a8 ?a9 ?ac ?ax ?aq) (oE (f:=λt:Thing9=>.d t.d) (h:=λt=>Vr (.lst ((cond (t.kind==4) t.inner []).map .int))) (ps:=ts) ?b1 ?b2 ?b3 fj ?b4 (λt p=>?b5) ?b6)
 case a1=>kernel_rfl
 case a2=>exact ⟨rfl,rfl⟩
 case a3=>rfl
 case a4=>rfl
 case a5=>kernel_rfl
 case a6=>exact ⟨rfl,rfl⟩
 case a7=>rfl
 case a8=>walk_at "e"
 case a9=>kernel_rfl
 case ac=>walk_at "d"
 case ax=>exact D0
 case aq=>rfl
 case b1=>kernel_rfl
 case b2=>exact w4 rfl rfl rfl (by decide)
 case b3=>walk_at "e"
 case b4=>lia
 case b5=>
  refine rr (fr':=aY (sn "inner") (.d (.lst (t.inner.map .int))) (aY (sn "rights") (.d (.int t.rights)) (aY (sn "kind") (.d (.int t.kind)) (aY (sn "high") (.d (.int t.high)) _)))) (dZ (aQ rfl (aQ rfl (aQ rfl (aQ rfl eA))))) rfl (iH ⟨λ_=>?_,λe=>nomatch e⟩);have tq:bV [.ctab] .Eq (.d (.int t.kind)) (.d (.int 4))=Vr (t.kind==4):=kK;cases q:t.kind==4 with
  | true=>
   rw[q] at tq;refine' W.of (HA ?c1 ?c2) ?c5
   case c1=>walk_at "t"
   case c2=>walk_at "e"
   case c5=>exact ⟨rfl,_,rfl,rfl⟩
  | false=>
   rw[q] at tq;refine' W.of (HB ?c3 ?c4) ?c6
   case c3=>walk_at "t"
   case c4=>walk_at "e"
   case c6=>exact ⟨rfl,_,rfl,rfl⟩
 rw[show (ts.filterMap λt=>Vr (D.lst ((cond (t.kind==4) t.inner []).map .int)))=(needsOf ts).map λl=>D.lst (l.map .int) from dE.trans (by unfold needsOf;rw[KH];rfl)];refine' bT ?d1 ?d2 (cQ 287 ?d3 ?d4 ?d5 ?d6 ?d7 ?d8 ?d9 ?dy ?af ?dh) (bT ?e1 ?e2 ?e3 (sa ?f1 ?f2 ?f3 (cQ 263 ?f4 ?f5 ?f6 ?f7 ?f8 (aI rfl (cE rfl (cQ 256 ?g1 ?g2 ?g3 ?g4 ?g5 ?g6 ?g7 ?g8 ?g9 ?bh)) aL) ?f9 ?de ?aj ?ag) ?dz))
 case d1=>kernel_rfl
 case d2=>exact ⟨rfl,rfl⟩
 case d3=>rfl
 case d4=>rfl
 case d5=>kernel_rfl
 case d6=>exact ⟨rfl,rfl⟩
 case d7=>rfl
 case d8=>walk_at "e"
 case d9=>kernel_rfl
 case dy=>walk_at "d"
 case af=>exact D2
 case dh=>rfl
 case e1=>kernel_rfl
 case e2=>exact ⟨rfl,rfl⟩
 case e3=>walk_at "e"
 case f1=>exact w3 rfl rfl rfl
 case f2=>kernel_rfl
 case f3=>kernel_rfl
 case f4=>rfl
 case f5=>rfl
 case f6=>kernel_rfl
 case f7=>exact ⟨rfl,rfl⟩
 case f8=>rfl
 case g1=>rfl
 case g2=>rfl
 case g3=>kernel_rfl
 case g4=>exact ⟨rfl,rfl⟩
 case g5=>rfl
 case g6=>walk_at "e"
 case g7=>kernel_rfl
 case g8=>walk_at "d"
 case g9=>exact D3
 case bh=>rfl
 case f9=>kernel_rfl
 case de=>walk_at "d"
 case aj=>exact D4
 case ag=>rfl
 have ap:=qf (st:=[.ctab]);have ah:=zR (st:=[.ctab]) (ts:=ts);refine' dN (x6 (gH ?h1 (gH (cU rfl rfl ?h2 (iK (f:=λt:Thing9=>.d t.d) (h:=λt=>Vr t.gd) (ps:=ts) ?h3 ?h4 fj ?h5 (λt p=>?h6)) ?h7) ma))) (aG ?h8)
 case h1=>walk_at "t"
 case h2=>walk_at "e"
 case h3=>exact w4 rfl rfl rfl (by decide)
 case h4=>walk_at "e"
 case h5=>lia
 case h6=>
  refine rr (fr':=aY (sn "inner") (.d (.lst (t.inner.map .int))) (aY (sn "rights") (.d (.int t.rights)) (aY (sn "kind") (.d (.int t.kind)) (aY (sn "high") (.d (.int t.high)) _)))) (dZ (aQ rfl (aQ rfl (aQ rfl (aQ rfl eA))))) rfl (iH ⟨λ_=>?_,λe=>nomatch e⟩);have G:=j t p;have F:0<=t.kind/\t.kind<16:=by rcases G.kind with e | e | e | e | e | e<;>rw[e]<;>decide
  have m1:cM t.high/\cM 65536:=by have:=G.high;unfold cM;lia
  have m2:cM t.kind/\cM 4096:=by unfold cM;lia
  have m3:bI [.ctab] .bytes [.d (.lst (t.inner.map .int))]=Vr (.bytes (aR t.inner)):=im (eh _) ⟨by have:=G.inner.1;lia,λx Q=>by have:=G.inner.2 x Q;unfold bK;lia⟩;walk_at "l"
 case h7=>rw[dE];exact ah
 have ai:∀t∈ts,0<=t.mode/\dI ((mk (f+71+16)).call 197 [.d (.int t.mode)] [.ctab])=Vr (.bool (fP t)):=λt p=>by
  have G:=j t p;have m0:0<=t.mode:=by
   unfold Thing9.mode;have:=G.high;have:=G.rights;have:0<=t.kind:=by rcases G.kind with e | e | e | e | e | e<;>rw[e]<;>decide
   lia
  exact ⟨m0,by rw[<- qU G];exact mx m0⟩
 have nl:(ts.filterMap λt=>Vr (D.lst ((cond (fP t) t.inner []).map .int)))=(needsOf ts).map λl=>D.lst (l.map .int):=dE.trans (by unfold needsOf;rw[KH];rfl);refine aC λL g=>?_;obtain ⟨v1,⟨_,ae⟩,e6,o,M⟩:=(kQ (k:=f+47) (st:=[.ctab]) (needs:=needsOf ts) ⟨[],rfl⟩ (by lia) (by rw[N];exact F9) (λl T=>Lr (nL l T) (by decide))).get;obtain rfl:=show _=[] from o
 rw[N] at M;obtain ⟨B,kv,R,rd,d,rfl,RS,Gr,or⟩:=M;have RD:=RS.redy Gr;have fz:=RS.frz;obtain ⟨r1,S⟩:=RS.hd;have Sh:Shp 9 (ndOf (needsOf ts)) (By (needsOf ts)):=⟨KL _,gn j,by have:=sd (needs:=needsOf ts) (by rw[N];exact F9);rw[N] at this;exact this⟩
 obtain ⟨v2,⟨_,m⟩,e9,o,ac,K,P,a,E,y,KK,hP,rfl⟩:=(wD (f:=f+38) u j Sh RD (KL _)).get;obtain rfl:=show _=[] from o
 obtain ⟨Kp,No⟩:=CH j y hP KK;refine g ?_;refine' xD ?i1 ?j4 ?j5 (fX 306 ?i2 ?i3 ?i4 ?i5 ?i6 (aI rfl (cE rfl (iK (f:=λt:Thing9=>.d t.gd) (h:=λt=>Vr (.lst ((cond (fP t) t.inner []).map .int))) (ps:=ts) ?i7 ?i8 fj ?i9 (λt p=>?j1))) aL) ?j2 ?j3) ?j6
 case i1=>exact w3 rfl rfl rfl
 case i2=>rfl
 case i3=>rfl
 case i4=>kernel_rfl
 case i5=>exact ⟨rfl,rfl⟩
 case i6=>rfl
 case i7=>exact w4 rfl rfl rfl (by decide)
 case i8=>walk_at "e"
 case i9=>lia
 case j1=>
  refine aC λL g=>?_;obtain ⟨m0,td⟩:=ai t p;refine g ?_;have G:=(j t p).inner;have lb:bI [.ctab] .list [.d (.bytes (aR t.inner))]=Vr (.lst (t.inner.map .int)):=by
   have:=nh (st:=[.ctab]) (b:=aR t.inner) (by rw[eC];lia);rw[rQ λx Q=>by have:=G.2 x Q;unfold bK;lia] at this;exact this
  refine rr (fr':=aY (sn "plain") (.d (.bool Vt)) (aY (sn "inner") (.d (.bytes (aR t.inner))) (aY (sn "mode") (.d (.int t.mode)) _))) (dZ (aQ rfl (aQ rfl (aQ rfl eA)))) rfl (iH ⟨λ_=>?_,λe=>nomatch e⟩);refine' W.of (Ax (c:=fP t) (v:=.d (.lst ((cond (fP t) t.inner []).map .int))) (je (cQ 197 ?k1 ?k2 ?k3 ?k4 ?k5 ?k6 ?k7 ?k8 ?k9 ?l1) fG) (λq=>?l2) (λq=>?l3)) ?l4
  case k1=>rfl
  case k2=>rfl
  case k3=>kernel_rfl
  case k4=>exact ⟨rfl,rfl⟩
  case k5=>rfl
  case k6=>walk_at "e"
  case k7=>kernel_rfl
  case k8=>walk_at "d"
  case k9=>exact td
  case l1=>rfl
  case l2=>rw[q];show _=Res.ok (V.d (.lst (t.inner.map .int))) _;walk_at "e"
  case l3=>rw[q];show _=Res.ok (V.d (.lst [])) _;walk_at "e"
  case l4=>exact ⟨rfl,_,rfl,rfl⟩
 case j2=>kernel_rfl
 case j3=>rw[nl];exact e6
 case j4=>kernel_rfl
 case j5=>kernel_rfl
 have an:∃r,ae=.ctab::r:=⟨r1,S⟩
 refine' dN (sh (GD (c:=(hs (needsOf ts) 9).contains 9) (BV (op:=.In) rfl rfl dY ?n1 lA) (λq=>?n2) (λq=>?n3))) (aG (Gy [(sn "heights",.d (ew (hs (needsOf ts) 9))),(sn "sorter",.loc B),(sn "given",.d (.lst (ts.map Thing9.gd))),(sn "words",.d qg),(sn "things",.d (iu ts))] ?n4 λfr hf=>?n5))
 case n1=>walk_at "e"
 case n2=>
  rcases or with ⟨rfl,C⟩ | ⟨c,rfl,J⟩
  ·rw[AK j Sh.tu C] at q;exact nomatch q
  ·refine aC λL g=>?_;obtain ⟨_,D7,rfl⟩:=cW (we (k:=f+67) F9 N J (yy J));refine g ?_;refine' je (cQ 311 ?o1 ?o2 ?o3 ?o4 ?o5 ?o6 ?o7 ?o8 ?o9 ?p1) fG
   case o1=>rfl
   case o2=>rfl
   case o3=>kernel_rfl
   case o4=>exact ⟨rfl,rfl⟩
   case o5=>rfl
   case o6=>walk_at "e"
   case o7=>kernel_rfl
   case o8=>walk_at "d"
   case o9=>exact D7
   case p1=>exact S
 case n3=>
  rcases or with ⟨rfl,C⟩ | ⟨c,rfl,J⟩
  ·refine' cU rfl rfl ?p2 eI ?p3
   case p2=>walk_at "e"
   case p3=>rfl
  ·rw[wf j J] at q;exact nomatch q
 case n4=>walk_at "h"
 refine' oE (f:=λi:Nat=>.d (.int (i:Int))) (h:=λt=>cond ((hs (needsOf ts) 9).contains (t:Int)) (Vr (gN (ndOf (needsOf ts)) 9 t)) Vs) (ps:=KC 9) ?q1 ?q2 ?q3 ?q6 (by decide) (λt p=>?q4) ?q5
 case q1=>kernel_rfl
 case q2=>exact w4 rfl rfl rfl (by decide)
 case q3=>walk_at "e"
 case q6=>exact gh (n:=9) (by decide)
 case q4=>
  have p:=LA.mp p;refine' rn ?r1 (BV (op:=.In) rfl rfl ?r2 ?r3 lA) (λq=>?r4) ?r5 ?r6
  case r1=>kernel_rfl
  case r2=>walk_at "e"
  case r3=>walk_at "e"
  case r4=>
   refine' (iK (f:=λi:Nat=>.d (.int (i:Int))) (h:=λi=>cond (r8 ts i==(t:Int)) (Vr (.int (i:Int))) Vs) (ps:=KC 9) ?s1 ?s2 ?s4 (by decide) (λi O=>?s3)).trans (congrArg (λl=>Res.ok (V.d (.lst l)) ⟨_,_⟩) (CU j p))
   case s1=>exact w4 rfl rfl rfl (by decide)
   case s2=>walk_at "e"
   case s4=>exact gh (n:=9) (by decide)
   case s3=>
    have hh:((hs (needsOf ts) 9).map D.int)[i]?=Vr (.int (r8 ts i)):=by
     have O:=LA.mp O;rw[Kv,Kl (by rw[qV];exact O)];unfold r8;rw[Kl (by rw[qV];exact O)];rfl
    refine' rn (c:=r8 ts i==(t:Int)) (d:=.int (i:Int)) ?t1 ?t2 (λ_=>?t3) ?t4 ?t5
    case t1=>kernel_rfl
    case t2=>walk_at "t"
    case t3=>walk_at "e"
    case t4=>rfl
    case t5=>rfl
  case r5=>rfl
  case r6=>rfl
 rw[AD j y];have r9:a.length<=9:=Kp.le;have I:=CG u j Kp;refine aC λL g=>?_;obtain ⟨_,D8,rfl⟩:=cW (sg (k:=f+65) r9 λr hr=>(I r hr).1);obtain ⟨_,D9,rfl⟩:=cW (v9 (k:=f+46) r9 I);obtain ⟨_,DA,rfl⟩:=cW (AC (k:=f+37) u j Kp No);obtain ⟨r2,w⟩:=ac;refine g ?_;have al:(dF (ndOf (needsOf ts)) 9 K).length=K:=by unfold dF;rw[Ke,KI]
 have bl:(dF (ndOf (needsOf ts)) 9 K).length+[ln].length<=100000:=by rw[al];have:=y.1;show K+1<=_;lia
 have ge:bV m .NotEq (.d (.lst (dF (ndOf (needsOf ts)) 9 K++[ln]))) (.d (.lst (dF (ndOf (needsOf ts)) 9 K++[ln])))=Vr false:=qG uV;have am:=qf (st:=m);have ao:=B8 (st:=m) (rs:=a);refine' BH ?u1 ?u2 ?u3 ?u4 (fX 316 ?u5 ?u6 ?u7 ?u8 ?u9 ?v1 ?v2 ?v3) (dN ?v4 (aG (sa ?w1 ?w2 ?w3 (cQ 275 ?w4 ?w5 ?w6 ?w7 ?w8 (aI rfl (cE rfl (cQ 268 ?y1 ?y2 ?y3 ?y4 ?y5 ?y6 ?y7 ?y8 ?y9 ?z1)) aL) ?w9 ?x1 ?x2 ?x3) (dN (x6 (gH ?z2 (gH ?z3 (gH (sh (je (cQ 328 ?z4 ?z5 ?z6 ?z7 ?z8 ?z9 ?cu ?dp ?ba ?dq) fG)) ma)))) (aG ?cr)))))
 case u1=>exact w3 rfl rfl rfl
 case u2=>kernel_rfl
 case u3=>kernel_rfl
 case u4=>kernel_rfl
 case u5=>rfl
 case u6=>rfl
 case u7=>kernel_rfl
 case u8=>exact ⟨rfl,rfl⟩
 case u9=>rfl
 case v1=>walk_at "e"
 case v2=>kernel_rfl
 case v3=>exact e9
 case v4=>walk_at "t"
 case w1=>exact w3 rfl rfl rfl
 case w2=>kernel_rfl
 case w3=>kernel_rfl
 case w4=>rfl
 case w5=>rfl
 case w6=>kernel_rfl
 case w7=>exact ⟨rfl,rfl⟩
 case w8=>rfl
 case y1=>rfl
 case y2=>rfl
 case y3=>kernel_rfl
 case y4=>exact ⟨rfl,rfl⟩
 case y5=>rfl
 case y6=>walk_at "e"
 case y7=>kernel_rfl
 case y8=>walk_at "d"
 case y9=>exact D8
 case z1=>exact w
 case w9=>kernel_rfl
 case x1=>walk_at "d"
 case x2=>exact D9
 case x3=>exact w
 case z2=>walk_at "t"
 case z3=>walk_at "t"
 case z4=>rfl
 case z5=>rfl
 case z6=>kernel_rfl
 case z7=>exact ⟨rfl,rfl⟩
 case z8=>rfl
 case z9=>walk_at "e"
 case cu=>kernel_rfl
 case dp=>walk_at "d"
 case ba=>exact DA
 case dq=>exact w
 refine aC λL g=>?_;obtain ⟨FR,FL⟩:=wq u j Kp;have nR:(needR a).length=a.length:=by unfold needR;rw[Ke]
 obtain ⟨_,⟨_,z⟩,aa,o,M⟩:=(kQ (k:=f+40) (st:=m) (needs:=needR a) ⟨r2,w⟩ (by lia) (by rw[nR];exact FR) FL).get;obtain rfl:=show _=[] from o
 have Tu:=sd (needs:=needR a) (by rw[nR];exact FR);rw[nR] at M Tu;obtain ⟨B2,ar,R2,aq,d2,rfl,RS2,Gr2,or2⟩:=M;obtain rfl:d2=.non:=by
  rcases or2 with ⟨e,_⟩ | ⟨c,_,J⟩
  ·exact e
  ·exact (yS u j Kp J).elim
 have as:=RS2.frz;obtain ⟨_,⟨_,U⟩,Y,o,ag,A,aj,rfl⟩:=(qX (f:=f+48) ⟨r9,λs _=>FR.lt s,Tu⟩ (RS2.redy Gr2) (KL _)).get;refine g ?_;obtain rfl:=show _=[] from o
 obtain rfl:=wz y aj λk F=>zi u j Kp y F;have af:(a.filterMap λr=>Vr (D.lst ((cond (qT r) (eX r.2) []).map .int)))=(needR a).map λl=>D.lst (l.map .int):=dE.trans (by unfold needR;rw[KH];rfl);refine' xD ?dg ?dv ?ao (fX 306 ?bk ?eb ?ce ?am ?cy (aI rfl (cE rfl (iK (f:=λr:Row=>.d (cA r)) (h:=λr=>Vr (.lst ((cond (qT r) (eX r.2) []).map .int))) (ps:=a) ?cj ?ck fj ?ah (λr hr=>?cz))) aL) ?bc ?bq) ?dm
 case dg=>exact w3 rfl rfl rfl
 case dv=>kernel_rfl
 case ao=>kernel_rfl
 case bk=>rfl
 case eb=>rfl
 case ce=>kernel_rfl
 case am=>exact ⟨rfl,rfl⟩
 case cy=>rfl
 case cj=>exact w4 rfl rfl rfl (by decide)
 case ck=>walk_at "e"
 case ah=>lia
 case cz=>
  refine aC λL g=>?_;obtain ⟨ro,rz⟩:=I r hr;obtain ⟨c,hc,ab⟩:=B9 rz;refine g ?_;have ix:bE (.d (.str r.1)) (.d (.int 0)) m=Vr (.d (.str ⟨#[c]⟩)):=DW (Qw _) hc;have hq:bV m .Eq (.d (.str ⟨#[c]⟩)) (.d (.str (sn "d")))=Vr (qT r):=by
   show Vr ((⟨#[c]⟩:Str)==sn "d")=_;rw[show sn "d" = ⟨#[100]⟩ from rfl,BZ,ab]
  have lb:bI m .list [.d (.bytes r.2)]=Vr (.lst ((eX r.2).map .int)):=nh (Lr ro.inner (by decide));refine rr (fr':=aY (sn "inner") (.d (.bytes r.2)) (aY (sn "row") (.d (.str r.1)) _)) (dZ (aQ rfl (aQ rfl eA))) rfl (iH ⟨λ_=>?_,λe=>nomatch e⟩);refine' W.of (Ax (c:=qT r) (v:=.d (.lst ((cond (qT r) (eX r.2) []).map .int))) ?dw (λq=>?br) (λq=>?aa)) ?bz
  case dw=>walk_at "t"
  case br=>rw[q];show _=Res.ok (V.d (.lst ((eX r.2).map .int))) _;walk_at "e"
  case aa=>rw[q];show _=Res.ok (V.d (.lst [])) _;walk_at "e"
  case bz=>exact ⟨rfl,_,rfl,rfl⟩
 case bc=>kernel_rfl
 case bq=>rw[af];exact aa
 have H:cS z (.d (.lst (dF (ndOf (needsOf ts)) 9 A)))=Vr ((KC A).map λk=>V.d (gN (ndOf (needsOf ts)) 9 k),z):=fj;refine' oE (f:=λk:Nat=>.d (gN (ndOf (needsOf ts)) 9 k)) (h:=λk=>Vr (gN (ndOf (needR a)) a.length k)) (ps:=KC A) ?bj ?bf ?bp ?cf ?bn (λk F=>?ae) ?ai
 case bj=>kernel_rfl
 case bf=>exact w4 rfl rfl rfl (by decide)
 case bp=>walk_at "e"
 case cf=>exact H
 case bn=>rw[KI];have:=y.1;lia
 case ae=>
  have F:=LA.mp F;have l9:(iE (ndOf (needsOf ts)) 9 k).length<=9:=fg (TP.imp (λh=>L4 h) jp) λx Q=>(eg.mp Q).1;have sq:=sx (eh ((iE (ndOf (needsOf ts)) 9 k).map λi=>(nuK E i:Int))) (by rw[Ke];lia);rw[wX u j Kp y F] at sq;refine gw rfl ?_;refine' W.of (vt (b:=.sorted) ?dx ?du ?ak ((iK (f:=λi:Nat=>.d (.int (i:Int))) (h:=λi=>Vr (.int (nuK E i:Int))) (ps:=iE (ndOf (needsOf ts)) 9 k) ?ab ?bd ?ar ?bu (λi O=>?cq)).trans (congrArg (λl=>Res.ok (V.d (.lst l)) ⟨_,_⟩) ?av)) sq) ?di
  case dx=>rfl
  case du=>kernel_rfl
  case ak=>rfl
  case ab=>exact w4 rfl rfl rfl (by decide)
  case bd=>walk_at "e"
  case ar=>exact xJ
  case bu=>lia
  case cq=>
   have hn:bE (.d (.dct E)) (.d (.int (i:Int))) z=Vr (.d (.int (nuK E i:Int))):=vc (No.at_ i (mq (L6 F y.1) O));refine gw rfl ?_;walk_at "l"
  case av=>rw[dE,KH];rfl
  case di=>exact ⟨rfl,_,rfl,rfl⟩
 have gl:(dF (ndOf (needR a)) a.length A).length+[ln].length<=100000:=by unfold dF;rw[Ke,KI];have:=y.1;show A+1<=_;lia
 have tn:bV z .Is (.d .non) (.d .non)=Vr true:=rfl;have ak:bV U .Eq (.d (.lst (dF (ndOf (needR a)) a.length A++[ln]))) (.d (.lst (dF (ndOf (needR a)) a.length A++[ln])))=Vr true:=I8 uV;rw[show ((KC A).filterMap λk=>Vr (gN (ndOf (needR a)) a.length k))=dF (ndOf (needR a)) a.length A from dE];refine' cg (mY (A0 (mX rfl rfl ?dk eI tn) fG rfl (tX (mX rfl rfl (fX 323 ?cw ?dj ?cn ?bg ?bo ?dc ?cm ?az) ?aw ak)))) ?bw
 case dk=>walk_at "e"
 case cw=>rfl
 case dj=>rfl
 case cn=>kernel_rfl
 case bg=>exact ⟨rfl,rfl⟩
 case bo=>rfl
 case dc=>walk_at "e"
 case cm=>kernel_rfl
 case az=>exact Y
 case aw=>walk_at "e"
 case bw=>exact ⟨_,w3 rfl (zN ag) rfl⟩
end
theorem law_true (ns:List Int):dI ((mk 100).call 333 [.d (.lst (ns.map .int))] [.ctab])=Vr (.bool Vt):=by
 obtain ⟨_,h,rfl⟩:=cW (zj (f:=0) (ns:=ns));exact h
end
end Mine.Internal
theorem PySem.Challenge.cw_oc0260_01_holds : PySem.Challenge.rw_oc0260_01.Holds :=
 Mine.Internal.holds_of (N:=100) (by decide) λa _=>Mine.Internal.law_true a
