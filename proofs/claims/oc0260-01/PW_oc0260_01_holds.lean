import PyProof.Rows.All
import Wide.All
import OpenK.AllK
import Wide.FinOn
import KE.KNest
import KE.KBytesCut
import KE.KxDecode
import ObjForm.ListNI
import KE.KPairTest
import Lean
import PySem.Challenge.RW_oc0260_01
set_option Elab.async false
set_option linter.all false
set_option maxRecDepth 100000
set_option genSizeOf false
set_option genInjectivity false
set_option genCtorIdx false
set_option compiler.extract_closed false
set_option backward.match.sparseCases false
set_option bootstrap.genMatcherCode false
open Option.some renaming inj->J9
open List renaming length_map->Ka,getElem?_eq_some_iff->Kd,mem_singleton->Kg,getElem?_eq_getElem->Ki,length_append->Kj,mem_of_getElem?->Kl,mem_map->Kr,getElem?_map->Ks,mem_cons->Kt,mem_append->Ku,size_toArray->Kw,getElem?_append_left->Kx,range->Ky,map_append->Kz,map_cons->KB,map_map->KC,length_range->KD,length_singleton->KM,contains_iff_mem->KO,all_eq_true->KP,mem_map_of_mem->KR,append_assoc->KT,length_set->KW,filterMap_cons->KX,getElem?_eq_none_iff->KY,forall_mem_cons->KZ,mem_iff_getElem?->K0,take_add_one->La,mem_append_right->Li,getElem?_concat_length->Lp,length_take->Lr,length_cons->Ls,nodup_append->Lu,mem_range->Lw,getElem?_append_right->Lx,append_nil->LC,getElem?_set_ne->LG,map_congr_left->LK,nodup_cons->LM,mem_filter->LN,replicate->LP,eq_nil_of_length_eq_zero->LR,casesOn->LW,mem_append_left->L2,sum_cons->L4,eq_nil_iff_forall_not_mem->L7,pairwise_singleton->Ma,mem_flatten->Mb,findIdx?_eq_some_iff_getElem->Mc,take_of_length_le->Me,getElem?_set_self->Mf,drop_eq_getElem_cons->Ml,take_length->Mn,getElem_mem->Mo,filter_cons->Mp,filterMap_map->Mq,count_pos_iff->Mr,zipWith->Mv,mem_of_mem_take->MB,reverse_cons->MD,not_mem_nil->MG,lookup_cons->MH,find?_cons->MR,dropLast_concat->MT,getElem?_take_of_lt->MV,flatten_append->M1,flatMap_append->M2,filter_sublist->M3,length_drop->M4,map->Na,length_reverse->Nt,getElem?_drop->NE,pairwise_map->NJ,pairwise_lt_range->NK,flatten_cons->NL,flatMap_cons->NM,take_append_drop->NT,getElem?_toArray->NU,map_id->N3,range_succ->N9,dropLast_concat_getLast->Oa,count_cons->Ob,pairwise_cons->Ow,findIdx?_eq_none_iff->OD,mem_reverse->OK,isEmpty_iff->OL,getElem_map->OM,countP_cons->ON,range_succ_eq_map->OY,drop_of_length_le->OZ,foldl_cons->O4,getElem?_eq_none->O7,getElem_toArray->Pl,isEmpty_eq_false_iff_exists_mem->Px,getElem?_range->Py,take_nil->PC,getElem_range->PJ,take_sublist->PV,getElem?_inj->PW,foldl_append->PX,count_append->PY,cons_eq_cons->PZ,mem_flatMap->P8,flatten_nil->P9,append_cons->Qa,lookup->Qk,length->Ql,getElem?_replicate_of_lt->Qm,filter->Qn,forIn_cons->Qr,take_zero->QJ,perm_ext_iff_of_nodup->QK,length_eraseIdx_of_lt->QL,getD_eq_getElem?_getD->QM,drop_left->QN,pairwise_iff_getElem->QY,getLast?_eq_some_iff->QZ,map_drop->Q6,set_set->Rj,isEmpty->Rk,any_map->Rl,set_append_right->Rz,mem_of_mem_drop->RE,length_dropLast->RG,getLast?_concat->RH,replicate_succ->RZ,map_filterMap->Sg,lookup_append->Si,getElem?_take->Sj,filterMap_nil->Sk,count_eq_zero->Sl,push_toArray->SB,getElem?_set->SC,getElem?_nil->SD,findIdx?_map->SE,drop_sublist->SF,perm_middle->SM,nodup_range->SN,map_reverse->SO,isEmpty_map->SP,drop_length->SQ,sum_append->S7,idxOf_cons->S8,head?_drop->S9,take_left->Th,tail_drop->Ti,tail_cons->Tj,nodup_nil->Tk,forIn_nil->Tl,drop_drop->Tm,map_take->TD,findIdx?->TE,drop_nil->TF,any_cons->TG,all_cons->TH,Pairwise->TI,Sublist->TZ,foldl->Un,take->UN,set->UX
open PySem renaming Expr->Kb,wpAny_bind->Kc,Shared->Kh,wpAny->Km,model->Kn,wpAny_pure->Ko,wpAny_mono->KN,intKind->K8,Around->Lc,World->Ld,wpAny_holding->Lm,rawInt->Lq,Params->LB,starEach->LD,mainGlobals->LH,NameKind->LJ,wpAny_newObj_type->LV,builtinLookup_eq_fast->L9,Builtin->Md,wpAny_standAt->Mi,backTo->Ms,codeAny->Mu,SetTable->Mw,intKind_is->MC,sysModules->ME,wpAny_of_eq->MM,wpAny_call_entry->MO,isSubtype_type->MP,eval->MQ,typeLookup_type->MW,codeAny_builtin->MX,getMethod_builtin->MY,callWith->MZ,builtinsNs->M5,wpAny_setField->M7,setField->Nh,assign->Nk,wpAny_field->Nu,codeAny_call_builtin->Nv,Operator->Nw,valueAt->NB,cellsFrom->NC,bindArgs->NF,wpAny_ite_split->NH,setItem->NI,wpAny_callSpecial?_slot->NQ,keywordEach->NR,wpAny_setState_of->NV,newFunctionEnv->NW,getAttr->NY,firstArgMember->NZ,wpAny_execs_cons->Oc,wpAny_call->Od,typeLookup->Oe,truthy->Of,storeName->Og,assignEach->Oh,DictEntry->Oi,plainId_quiet->Om,behindInMarks->On,valueOrNone->Op,sizeLine_eq->Oq,wpAny_specialOf->Oy,letOwnedTupleGo->Oz,getItem->OE,Scope->OI,Result->OJ,wants->OU,setAttr->OV,Sem->OW,newTuple->O9,newFields->Pa,compareOp->Pb,backToKw->Pc,methodCall->Pn,codeAny_mono->Po,pushCells_keeps->Ps,codeAny_call_function->Pz,wpAny_seqItems->PK,methodCallForm->PM,argsOk->PN,Tok->PP,CmpOp->PQ,BoolOp->PS,wpAny_setEntries_of->P1,list_getitem_lookup->P3,wpAny_rule->Qe,wpAny_pyIter_tuple->Qf,wpAny_Constant_int->Qg,pyNext->Qh,call_meets->Qi,wpAny_typeOf->Qt,wpAny_pyIter_list->Qu,relayAll->Qv,holding->Qw,evalOpt->Qx,call_meetsIn->Qy,Flow->QA,wpAny_isInstance->QR,wpAny_askSetting->QS,inplaceOp->QT,wpAny_mkStr->Q1,Walks->Q2,wpAny_updateSeq->Q9,codeAny_of_tree->Ra,arm_assign_Name->Rd,without->Rf,delItem->Rg,ItemsOf->Rh,wpAny_bindName->Rm,pyIter->Rn,letTemporaryGo->Ro,entryFor->Rp,cameBackBy->Rq,binaryOp->Rr,wpAny_comprehension_free->RM,swapsWithSole->RN,attributeBase->RP,assignInOrder->RQ,swapsWith->R8,slicePick->R9,pickOrder->Sb,wpAny_getItem_list_neg->So,bootBuiltins->Sp,wpAny_tryStmt_except->SS,wpAny_letTemporaryGo->ST,subscripted->SU,sliceBounds->SV,keeperOf->SW,codeAny_extend_loopS->SX,Drawn->S4,wpAny_raiseNew_none->Tc,wpAny_load->Tq,wpAny_getItem_list->Tr,wpAny_List_spliced->Tt,stored->Tv,wpAny_truthy_list->TK,wpAny_truthy_bool->TL,wpAny_pyIter_slot->TM,wpAny_collect_seq->TN,wpAny_Assign_Name->TO,slot_list_setitem->TP,slot_dict_getitem->TQ,newList->TR,collect->TS,callerA->TT,wpAny_getItem_of->T0,isSubtype->T4,entryFor_of_fast->T5,drawOrder->T6,arm_assign_Tuple->T7,wpAny_operating->Uk,wpAny_execs_nil->Ul,wpAny_runValue->Up,wpAny_newTuple->Uq,wpAny_fieldsOf->Ur,table->Us,storeSet->Ut,setEpoch->Uu,setAddHashedIn->Uv,newExc->Uw,newEnv->Ux,layNew->Uy,entryFor_alias->Uz,checkBoundCall->UA,wpAny_newList->UP,wpAny_attempt->UQ,swappedStores->UR,standAt->UY,setNextDrawn->UZ,setNext->U0,relabel->U1,leaving->U2,entryPlaceOf->U3,wpAny_alloc->Va,wpAny_BinOp->Vb,unsupported->Vc,mkStr->Vd,interactive->Ve,field->Vf,execs->Vg
open PySem.PyData renaming keyHash->Ke
open Option renaming or->Kf,map->KG,map_eq_some_iff->KV,bind->Lj,casesOn->MF,some_inj->OP,getD->TA,some->Vl,none->Vm
open Bool renaming and_eq_true_iff->Kk,not_eq_true'->KL,eq_iff_iff->LO,false_ne_true->LX,or_eq_true_iff->Mh,or_eq_false_iff->N5,false_eq_true->Ox,or_false->OH,false_or->PF,and_true->PG,not_eq_true->Qc,and_eq_true->Qd,false_and->QP,and_false->QQ,xor->Tn,not_false->To,true_and->TJ,true->Vn,false->Vo
open PySem.Heap renaming get?_push_size->Kq,get?_push_of_some->KI,get?_none_of_le->KS,get?_update_self->Ln,lt_size->Lz,size_push->LF,dictOf_iff->LL,get?_update_other->L6,SameBut->MS,MadeExcOf->QE
open Nat renaming le_of_ble_eq_true->Kv,le_refl->KH,le_trans->Lo,zero_le->LA,zero_add->LY,ne_of_lt->L1,lt_of_lt_of_le->L3,not_lt_zero->L5,lt_succ_self->L8,lt_succ_of_lt->Mg,lt_succ_iff_lt_or_eq->My,lt_irrefl->Mz,le_of_not_lt->MI,lt_of_le_of_lt->ML,le_succ->MU,zero_lt_succ->M6,testBit_two_pow_mul_add->Nf,succ->Nl,succ_le_succ->Nq,beq->Nr,min_eq_left->ND,sub_self->NP,not_lt_of_le->N2,zero_lt_one->Oj,le_antisymm->Ol,le_of_lt->Ou,lt_or_eq_of_le->OC,succ_ne_self->OQ,succ_lt_succ->OR,le_add_right->OS,ne_of_gt->O1,lt_trans->O2,le_of_eq->O3,eq_of_beq_eq_true->Pi,add_le_add_left->PB,pos_of_ne_zero->PT,lt_or_ge->P5,le_succ_of_le->P6,mod_eq_of_lt->Qj,casesOn->Qq,testBit_and->QC,toUInt8_eq->QW,land->QX,add_sub_cancel_left->Ri,mul_comm->Rw,le_of_succ_le_succ->Rx,add_comm->Ry,eq_of_testBit_eq->RX,add_le_add_right->RY,mod_lt->Sz,add_sub_cancel->SA,mod->SL,min_eq_right->S5,add_le_add->TC,mul->Uc,min_self->Ud,le_total->Ue,div->Uf,ble->Ug,add->Uh
open Array renaming length_toList->KJ,getElem?_eq_getElem->Le,getElem?_toList->Lh,getElem?_eq_some_iff->MJ,size_append->NG,getElem?_append_left->Ov,getElem?_setIfInBounds_self_of_lt->O8,toArray_toList->Pj,getElem?_setIfInBounds_ne->P0,toList_append->RI,not_mem_empty->RJ,toList_push->Sm,size_map->Ta
open Int renaming toNat_natCast->KQ,eq_ofNat_of_zero_le->Lg,fmod->Lk,fdiv->Ll,natCast_nonneg->Ly,ofNat_lt->MA,fdiv_eq_ediv_of_nonneg->Nm,toNat_of_nonneg->Ny,toNat->OT,le_refl->Qs,add_zero->RA,le_of_lt_add_one->R7,natAbs->SG,zero_add->Ui,le_of_lt->Uj,mul_one->Uo,not_le->UO
open PySem.SetTable renaming below->KU,grown->N7,insertAt->Pu,has->Pv,laid->Sw,Met->SH,probe->Vj
open PyProof.Rows renaming subscriptTail->Lv,IntsAre->Np,seqObj->Ty,Subscript_->Tz,entry_list_sort->Um,sortedHeap_old->UJ,slot_list_sort->UK,list_sort_tree->UL,args_list_sort->UM,sortedHeap_at->UW,plain_sorted->U6,entry_sorted->U7,args_sorted1->U8,StrsAre->U9,kind_sorted->Vk
open Int.ofNat renaming inj->LE
open Ne renaming symm->LQ
open PySem.Heap.SameBut renaming update->LU
open PySem.Builtin.List renaming listExtendWith->LZ,listLengthHint->NS,listSameRef->N8,listItems->P7
open PySem.F renaming called_set->Mj,excAttr_ValueError->Nc,plainAttrs_list->Nz,typeOf_object_class->N6,plain_extend_loop->Ot,slot_dict_get->OO,slot_gs_get->Pf,slot_tuple_iterator_next->PA,slot_dict_delitem->Qo,slot_dict_values->QB,slot_list_index->QF,slot_list_clear->QG,plain_list_iadd->QH,plainAttrs_dict->QI,entry_dict_get->QV,slot_set_iter->Q4,plain_set_new->Q5
open PySem.Flow renaming next->Mm,ret->UV
open PySem.Str renaming ofString->Mt,length->UH
open PySem.Obj renaming mapFields->Mx,data_mapFields->MK,isFreed_of_fields->MN,mapSeq->N1,data->QU,cls_mapFields->SJ,putSet->UI
open PySem.SetTable.below renaming go->M0
open PySem.Value renaming ref->M8,type->Ni,none->Nj,isInt_shape->PO,isStr->TY
open PyProof.Rows.F renaming plain_set_update_loop->M9,entry_set_update_loop->OG
open PySem.W renaming plainGet_of->Nb,dictOf->NN,instObj->Oo,findIn->O0,methodObj->Pd,tabObj->Pp,handedIn->Qz,lookIn_dict->Q3,mem_of_lookupK->Rt,StarOf->Ru,putL->RT,plainOver->Sc,typeIs_bytes->Sq,looks_findIn->Ss,hideAll_none->Su,fnMade->Sv,nsIn->Tw,takerIn->TU,hideAll->TV,Looks->TX,nsMap_none_of_in->T9,make_core->Ua,hasDictIn->Ub,typeIn->UB,plainGet->UC,mg_of->UD,makes_of->UE,getL->UF,exmOne->UG,makesIn->U4,bind_fn->U5,findObj_own->Vh,callWith_of->Vi
open PySem.Around renaming under_plainId->Nd
open Nat.succ renaming inj->Ng
open PySem.SetTable.probe renaming go->Nn
open PySem.AutoSeq1 renaming wpAny_loadPart'->NA
open PySem.Builtin._codecs renaming runDecoder->NO,latin1Decoder->O6,decodeRoad->Pr
open List.Pairwise renaming map->N4
open PySem.Value.ref renaming inj->Os
open PySem.Keeper renaming boundFrame->OA,machine->O5,frame->PH
open PySem.Calls renaming call_function_entry->OB,evalArgs_plain->Rv,Constant_str->RW,spliced_nil->Sf
open PySem.Builtin.SmallTypes renaming stopIteration->OF,nextOf->Ph
open PySem.EntryCells renaming newEntry->OX
open PySem.NameKind renaming cell->Pe,free->Sx
open PySem.Challenge renaming rw_oc0260_01->Pg
open PySem.W.FB renaming slot_bytes_getitem->Pk
open PySem.pickOrder renaming go->Pm
open PySem.Txt renaming join->Pq
open PySem.Builtin.Range renaming rangeFitsLong->Pw,rangeSize->PU,small->Qp
open False renaming elim->PD
open Classical renaming choose->PE,byContradiction->Qb,em->QD,choose_spec->QO
open List.Sublist renaming refl->Q0,map->Q7
open List.Nodup renaming sublist->Q8
open Std.Legacy renaming Range->Re
open UInt8 renaming toNat_ofNat'->RL
open List.Perm renaming swap->R0,cons->R5
open PySem.Heap.Ns renaming of_isNs->Sd
open PySem.Code renaming quiet_builtin->Se
open PySem.Builtin renaming bitAnd->Sy
open Prod.mk renaming injEq->SK
open Iff renaming rfl->SR
open PySem.W.Looks renaming ld->SY
open PySem.W.KBw renaming pyIter_bytes->SZ,walks->US
open PySem.Moved renaming eq_with->Td
open PySem.ItemsOf renaming nil->Tf
open Prod renaming ext->Tg
open PySem.Walks renaming list->T8
open PySem.W.Hook renaming val->UT,obs->UU
section
set_option linter.all false
namespace Mine.Internal
theorem JI {a b c d:Nat}(h:a=b) (h2:b≤c) (h3:c≤d):a≤d:=h▸Lo h2 h3
theorem JG {a b c:Nat}(h:a<b) (h2:c=b):a<c:=h2▸h
theorem JF {a b c:Nat}(h:a<b) (h2:b=c):a<c:=h2▸h
theorem JJ {a b c:Nat}(h:a=b) (h2:b≤c):a≤c:=h▸h2
theorem JE {a b:Nat}(h:a<b):b≠a:=O1 h
theorem JH {x a b:Nat}(h:0≤(x:Int)∧(x:Int)<a) (h2:a≤b):x<b:=L3 (MA.mp h.2) h2
theorem JK {x a:Nat}(h:x<a):0≤(x:Int)∧(x:Int)<(a:Int):=⟨Ly _,MA.mpr h⟩
theorem x1.{a}{α:Sort a}{P:α→Prop}{G:Prop}(h:∃a,P a) (k:∀a,P a→G):G:=h.elim k
theorem x2.{a,b}{α:Sort a}{β:Sort b}{P:α→β→Prop}{G:Prop}(h:∃a b,P a b) (k:∀a b,P a b→G):G:=h.elim fun a h=>h.elim (k a)
theorem x3.{a,b,c}{α:Sort a}{β:Sort b}{γ:Sort c}{P:α→β→γ→Prop}{G:Prop}(h:∃a b c,P a b c) (k:∀a b c,P a b c→G):G:=h.elim fun a h=>x2 h (k a)
theorem x4.{a,b,c,d}{α:Sort a}{β:Sort b}{γ:Sort c}{δ:Sort d}{P:α→β→γ→δ→Prop}{G:Prop}(h:∃a b c d,P a b c d) (k:∀a b c d,P a b c d→G):G:=h.elim fun a h=>x3 h (k a)
theorem x5.{a,b,c,d,e}{α:Sort a}{β:Sort b}{γ:Sort c}{δ:Sort d}{ε:Sort e}{P:α→β→γ→δ→ε→Prop}{G:Prop}(h:∃a b c d e,P a b c d e) (k:∀a b c d e,P a b c d e→G):G:=h.elim fun a h=>x4 h (k a)
theorem z2 {A B G:Prop}(h:A∧B) (k:A→B→G):G:=k h.1 h.2
theorem z3 {A B C G:Prop}(h:A∧B∧C) (k:A→B→C→G):G:=k h.1 h.2.1 h.2.2
theorem z4 {A B C D G:Prop}(h:A∧B∧C∧D) (k:A→B→C→D→G):G:=z3 h.2 (k h.1)
theorem z5 {A B C D E G:Prop}(h:A∧B∧C∧D∧E) (k:A→B→C→D→E→G):G:=z4 h.2 (k h.1)
theorem z6 {A B C D E F G:Prop}(h:A∧B∧C∧D∧E∧F) (k:A→B→C→D→E→F→G):G:=z5 h.2 (k h.1)
theorem z7 {A B C D E F H G:Prop}(h:A∧B∧C∧D∧E∧F∧H) (k:A→B→C→D→E→F→H→G):G:=z6 h.2 (k h.1)
@[elab_as_elim] theorem rp.{u}{α:Sort u}{a b:α}{P:α→Prop}(e:a=b) (h:P b):P a:=e▸h
@[elab_as_elim] theorem rq.{u}{α:Sort u}{a b:α}{P:α→Prop}(e:a=b) (h:P a):P b:=e▸h
@[elab_as_elim] theorem oc.{u}{α:Type u}{P:Option α→Prop}(o:Option α) (n:o=none→P none) (s:∀a,o=some a→P (some a)):P o:=o.rec (fun n _=>n rfl) (fun a _ s=>s a rfl) n s
theorem y2.{a,b}{α:Sort a}{β:Sort b}{P:α→β→Prop}(x:α) (y:β) (h:P x y):∃a b,P a b:=⟨x,y,h⟩
theorem y3.{a,b,c}{α:Sort a}{β:Sort b}{γ:Sort c}{P:α→β→γ→Prop}(x:α) (y:β) (z:γ) (h:P x y z):∃a b c,P a b c:=⟨x,y,z,h⟩
theorem y4.{a,b,c,d}{α:Sort a}{β:Sort b}{γ:Sort c}{δ:Sort d}{P:α→β→γ→δ→Prop}(x:α) (y:β) (z:γ) (u:δ) (h:P x y z u):∃a b c d,P a b c d:=⟨x,y,z,u,h⟩
theorem y5.{a,b,c,d,e}{α:Sort a}{β:Sort b}{γ:Sort c}{δ:Sort d}{ε:Sort e}{P:α→β→γ→δ→ε→Prop}(x:α) (y:β) (z:γ) (u:δ) (v:ε) (h:P x y z u v):∃a b c d e,P a b c d e:=⟨x,y,z,u,v,h⟩
theorem w3 {A B C:Prop}(a:A) (b:B) (c:C):A∧B∧C:=⟨a,b,c⟩
theorem w4 {A B C D:Prop}(a:A) (b:B) (c:C) (d:D):A∧B∧C∧D:=⟨a,b,c,d⟩
theorem w5 {A B C D E:Prop}(a:A) (b:B) (c:C) (d:D) (e:E):A∧B∧C∧D∧E:=⟨a,b,c,d,e⟩
theorem w6 {A B C D E F:Prop}(a:A) (b:B) (c:C) (d:D) (e:E) (f:F):A∧B∧C∧D∧E∧F:=⟨a,b,c,d,e,f⟩
theorem w7 {A B C D E F G:Prop}(a:A) (b:B) (c:C) (d:D) (e:E) (f:F) (g:G):A∧B∧C∧D∧E∧F∧G:=⟨a,b,c,d,e,f,g⟩
theorem nr {P:Nat→Prop}(z:P 0) (s:∀n,P n→P (n+1)):∀n,P n:=fun n=>n.rec z s
theorem lr.{u}{α:Type u}{P:List α→Prop}(z:P []) (s:∀a l,P l→P (a::l)):∀l,P l:=fun l=>l.rec z s
section
open Lean
def sI (n:Name):Syntax:=.ident .none "".toRawSubstring n []
def sk (x:String):Name:=if x.startsWith "t." then `Lean.Parser.Tactic++(x.drop 2).toString.toName else if x.startsWith "m." then `Lean.Parser.Term++(x.drop 2).toString.toName else x.toName
def fo {α β:Type}(f:α→β→β)(b:β):List α→β|[]=>b|a::l=>f a (fo f b l)
def B (s:String)(a:List Syntax):Syntax:=
 let r:=fo (fun w (t:List (String×List Syntax))=>
 let x:=(w.drop 1).toString
 let c:=w.front
 if c='(' then (x,[])::t else
 match t with
 |[]=>t
 |(k,l)::r=>
  if c=')' then match r with|[]=>t|(j,m)::r=>(j,.node .none (sk k) l.reverse.toArray::m)::r
  else (k,(if c='$' then a.getD x.toNat! .missing else if c='!' then sI x.toName else .atom .none x)::l)::r) [("",[])] (s.splitOn " ").reverse
 (r.headD ("",[])).2.headD .missing
def mp (f:String→Syntax):List String→List Syntax|[]=>[]|a::l=>f a::mp f l
def ms (f:Syntax→Syntax):List Syntax→List Syntax|[]=>[]|a::l=>f a::ms f l
def sL (a:List Syntax):Syntax:=.node .none nullKind a.toArray
def sV (a:List Syntax):List Syntax:=fo (fun x l=>if x.isAtom then l else x::l) [] a
def sJ (a:List Syntax):List Syntax:=match a with|[]=>[]|x::l=>x::fo (fun y r=>.atom .none ","::y::r) [] l
def sF (a:List Syntax):Syntax:=B "(t.first 'first $0 )" [sL (ms (fun t=>B "(group '| (t.tacticSeq (t.tacticSeq1Indented (null $0 ) ) ) )" [t]) a)]
def sX (f:Syntax)(a:List Syntax):Syntax:=B "(m.app $0 $1 )" [f,sL a]
def sR (t:Syntax):Syntax:=B "(t.withReducible 'with_reducible (t.tacticSeq (t.tacticSeq1Indented (null $0 ) ) ) )" [t]
def sE (t:Syntax):Syntax:=B "(t.refine 'refine $0 )" [t]
def sH (n:Name):Syntax:=B "(m.syntheticHole '? $0 )" [sI n]
def sC (n:Name)(t:Syntax):Syntax:=B "(t.case 'case (null (t.caseArg (Lean.binderIdent $0 ) (null ) ) ) '=> (t.tacticSeq (t.tacticSeq1Indented (null $1 ) ) ) )" [sI n,t]
def sW (k:String):Syntax:=B "(PyProof.Rows.tacticWalk_at_ 'walk_at $0 )" [Syntax.mkStrLit k]
def sS (k:String):Syntax:=B s!"(t.{k} '{k} )" []
def sO (k:String):Syntax:=B s!"(t.{k} '{k} (t.optConfig (null ) ) )" []
def s_:Syntax:=B "(m.syntheticHole '? '_ )" []
def sU (b:List Syntax)(e:Syntax):Syntax:=B "(m.fun 'fun (m.basicFun $0 (null ) '=> $1 ) )" [sL b,e]
def sY (h t:Syntax):Syntax:=B "(m.typeAscription (m.hygienicLParen '( (hygieneInfo ! ) ) $0 ': (null $1 ) ') )" [h,t]
def tH (A:Syntax)(c:Char):Syntax:=match c with
 |'A'=>A
 |'r'=>B "(t.tacticRfl 'rfl )" []
 |'k'=>sF [B "(t.exact 'exact (m.app !Eq.refl (null (m.hole '_ ) ) ) )" [],B "(PyProof.Rows.tacticKernel_rfl! 'kernel_rfl! )" []]
 |'I'=>B "(null (t.refine' 'refine' (m.anonymousCtor '⟨ (null !rfl ', (m.hole '_ ) ) '⟩ ) ) (PyProof.Rows.tacticKernel_rfl! 'kernel_rfl! ) )" []
 |'J'=>B "(t.exact 'exact (m.anonymousCtor '⟨ (null !rfl ', (m.hole '_ ) ', !rfl ', !rfl ) '⟩ ) )" []
 |'c'=>sO "decide"
 |'B'=>sF [A,sO "decide"]
 |'K'=>sF [B "(t.tacticRfl 'rfl )" [],B "(PyProof.Rows.tacticKernel_rfl! 'kernel_rfl! )" []]
 |_=>sW c.toString
def tC (A:Syntax)(z:Nat):List Char→List Syntax
 |d::c::l=>if c='Z' then tC A z l else sC (.num (.mkSimple d.toString) z) (tH A c)::tC A z l
 |_=>[]
def tA (w:Bool)(A:Syntax)(z:Nat)(a:String):Syntax:=
 if a="A" then A else
 let s:=a.splitOn " "
 let v:=s.headD "" |>.splitOn "@"
 let m:=sI (v.headD "").toName
 let x:=v.getD 1 ""
 let h:=s.getD 1 ""
 let g:=if x="" then [] else if x.startsWith "N"||x.startsWith "I" then [B s!"(m.namedArgument '( !op ':= !PySem.CmpOp.{x} ') )" []] else if x="#" then [B "(m.namedArgument '( !d ':= (m.app !Mine.Internal.D.gbl (null $0 ) ) ') )" [Syntax.mkNatLit 55]] else [B s!"(m.namedArgument '( !d ':= (m.app !Mine.Internal.D.bi (null !Mine.Internal.Bi.{x} ) ) ') )" []]
 let q:=if h="_" then [B "(m.hole '_ )" []] else fo (fun i l=>sH (.num (.mkSimple (toString i)) z)::l) [] (Ky (h.length/2))
 let f:=if g.isEmpty&&q.isEmpty then m else sX m (g++q)
 let t:=B (if h.length≤1 then "(t.exact 'exact $0 )" else "(t.refine' 'refine' $0 )") [f]
 sL ((if w then sR t else t)::tC A z h.toList)
def tF (w:Bool)(A:Syntax)(z:Nat)(s:String):Syntax:=sF (mp (tA w A z) (s.splitOn ";"))
def tD (z:Nat)(e:String):Syntax:=
 let n:=fun s:String=>Name.num (.mkSimple s) z
 B "(null (t.refine' 'refine' (m.app $0 (null $1 ) ) ) $2 $3 )" [sY (sH (n "d")) (B "(m.arrow $0 '→ $0 )" [sH (n "a")]),sH (n "k"),sC (n "k") (sW e),sC (n "d") (sF [B "(null (t.intro 'intro (null (m.hole '_ ) ) ) (PyProof.Rows.tacticKernel_rfl! 'kernel_rfl! ) )" [],B "(null (t.intro 'intro (null !h ) ) (t.exact 'exact !h ) )" []])]
def tW (z:Nat)(k:String):Option Syntax:=
 let A:=sR (sS "assumption")
 match k with
 |"D"=>some (tF true A z "Jf;Ii 0D")
 |"d"=>some (tD z "D")
 |"L"=>some (tF false A z "Nat.le_of_ble_eq_true 0K")
 |"G"=>some (tF true A z "aU;A;J7 0A;J6 0A;J5 0A;J4 0A;J3 0A;J2 0A;wL 0k1G;Ie 0k1G")
 |"g"=>some (sF [tF true A z "aU;A",tD z "G"])
 |"p"=>some (tF true A z "A;HM;Jv;Jw 0c;Jx 0B;kK;JR;JS;I8;JT;zJ 0A;Fu 0A;DT 1A0A;Ba 0A;kX 1A0A;zI 1A0A;Ec 0A;rU 0A;H9 0c;H8 0A;HL;Gk;A4;vC;Jc;fG;EB;Jr 1d0L;Jq 1d0L")
 |"E"=>some (tF true A z "A;dY;AA;eI;aL;yM;As;fY 0k1g;ka 0k1g2A;Hu 0k1g;gy 0k1g;ry 0L;Ht@list 0k1k;Ht@bytes 0k1k;Ht@tuple 0k1k;Ht@# 0k1k;cE 0r1E;aI 0r1E2E;ij 0E1E2p;mM 0r1E2p;oo 0r1E2p;C5 0E1E2E3E4p;E2 0E;eJ 0r1E2p;gz 0r1E2E3p;dH@range 2k0r1r3E;dH@list 2k0r1r3E;dH@len 2k0r1r3E;dH@sum 2k0r1r3E;dH@bytes 2k0r1r3E;dH@isinstance 2k0r1r3E;dH@sorted 2k0r1r3E;dH@tuple 2k0r1r3E;dH@bool 2k0r1r3E;rC 0k1k2E3p")
 |"e"=>some (sF [A,tD z "E"])
 |"a"=>some (sL [tF false A z "bT 0k1I2e3Z"])
 |"l"=>some (tF false A z "W.of 0e1J")
 |"T"=>some (tF true A z "A;Bj;ma;si;BT@In 0r1r2e3e4p;BT@NotIn 0r1r2e3e4p;cU 0r1r2e3e4p;IA 0T;sh 0T;jd 0e1p;je 0e1p;IB 0e1p;Jl 0e1p;uw 0T;x6 0T;gH 0T1T;IL 0T;vI 0T1T;Bh 0T")
 |"t"=>some (sF [A,tD z "T"])
 |"h"=>some (tF true A z "A;Jt;Js 1k0h;tf 0g1h")
 |"N"=>some (tF false (sS "assumption") z "A;Nat.le_trans 0A1c;Nat.lt_of_le_of_lt 0A1c;Nat.lt_of_lt_of_le 0A1c;Nat.succ_ne_self _;Nat.le_succ _;Nat.lt_succ_self _;JG 0A1A;JF 0A1A;JI 0A1A2c;JJ 0A1c;Nat.ne_of_lt 0A;JE 0A;Nat.le_of_lt 0A;Nat.lt_of_lt_of_le 0A1A;Nat.lt_of_le_of_lt 0A1A;Nat.le_trans 0A1A;Nat.succ_lt_succ 0A;Nat.succ_le_succ 0A;Nat.le_of_not_lt 0A;Nat.lt_of_not_le 0A;Nat.lt_succ_of_le 0A;Nat.le_succ_of_le 0A")
 |"n"=>some (sF [sW "N",sO "lia"])
 |"m"=>some (sF [sW "N",sO "omega"])
 |_=>none
def oP (p:Syntax):Option Syntax:=let i:=p[0];if i.isIdent then (if i.getId.eraseMacroScopes∈[`rfl,`«-»] then none else some i) else if p.isOfKind ``Parser.Tactic.rcasesPat.ignore then some (B "(m.hole '_ )" []) else none
def oB (p:Syntax)(e:Syntax):Syntax:=B "(t.obtain 'obtain (null $0 ) (null ) (null ':= (null $1 ) ) )" [p,e]
def oT (ps:List Syntax):Syntax:=B "(t.rcasesPatMed (null (t.rcasesPat.tuple '⟨ $0 '⟩ ) ) )" [sL (sJ ps)]
def oK (e:Syntax):Syntax:=sF [B "(t.clear 'clear (null $0 ) )" [e],sS "skip"]
def oN (ps:List Syntax)(e:Syntax):List Syntax:=if e.isIdent&&((sL ps).find? fun x=>x.isIdent&&x.getId==e.getId).isNone then [oK e] else []
def oS (p:Syntax):Option Syntax:=if p[0][0].getNumArgs==1 then oP p[0][0][0] else none
def oY (e:Syntax):String:=let s:=e.getId.toString (escape:=false);if s.startsWith "-" then s++"-" else "-"
def oV (y:String):Nat→List Syntax→List Syntax×List Syntax
 |_,[]=>([],[])
 |i,p::l=>let r:=oV y (i+1) l;let f:=sI (.mkSimple s!"{y}{i}");match oS p with|some x=>(x::r.1,r.2)|none=>(f::r.1,oB p[0] f::r.2)
def oR (n:String)(k:Nat)(l:List Syntax)(e:Syntax):Syntax:=
 let ps:=l.take k
 let rest:=l.drop k
 let y:=oY e
 let b:=oV y 0 ps
 let t:=sI (.mkSimple y)
 sL (sE (sX (sI n.toName) [e,sU (if rest.isEmpty then b.1 else b.1++[t]) s_])::oN l e++b.2++(match rest with|[]=>[]|[p]=>[oB p[0] t]|r=>[oB (oT r) t]))
def sG (a:List Syntax):Syntax:=sF (a++[B "(t.fail 'fail (null ) )" []])
def oW:List Syntax→Nat|[]=>0|p::l=>if (oS p).isSome then oW l+1 else 0
def tO (ps:List Syntax)(e:Syntax):Syntax:=
 let k:=ps.length
 let c:=oW ps+1
 sG (fo (fun m l=>if m+1<k then oR s!"x{m+1}" (if m+2=k then k else m+1) ps e::l else l) (fo (fun n l=>if 2≤n&&n≤k&&(n=k&&c≥k-1||n≤c+1&&n<k) then oR s!"z{n}" (if n=k then k else n-1) ps e::l else l) [] [7,6,5,4,3,2,1,0]) [4,3,2,1,0])
def sD:Syntax:=
 let n:=fun i:Nat=>sI (.mkSimple s!".{i}")
 let c:=fun i:Nat=>B "(t.clear 'clear (null $0 ) )" [n i]
 let r:=(Ky 14).reverse
 sL (sF (fo (fun k l=>sL [B "(t.renameI 'rename_i $0 )" [sL (fo (fun i l=>B "(Lean.binderIdent $0 )" [n i]::l) [] (Ky (k+1)))],c 0]::l) [sS "skip"] r)::fo (fun i l=>sF [c i,sS "skip"]::l) [] r)
def BB (x:Option Syntax):MacroM Syntax:=fun _ m=>match x with|some t=>.ok t m|none=>.error .unsupportedSyntax m
def mW (s:Syntax):MacroM Syntax:=fun c=>BB (tW c.currMacroScope (s[1].isStrLit?.getD "")) c
def oQ (z:Nat)(p e:Syntax):Option Syntax:=
 let q:=p[0][0]
 if p[0].getNumArgs=1 then
 if q.isOfKind ``Parser.Tactic.rcasesPat.tuple then some (tO (sV q[1].getArgs.toList) e)
 else if q[0].isIdent&&q[0].getId.eraseMacroScopes= `rfl then some (B "(null $0 (t.rcases 'rcases (null (t.elimTarget (null ) $1 ) ) (null 'with (t.rcasesPatLo (t.rcasesPatMed (null (t.rcasesPat.paren '( (t.rcasesPatLo $2 (null ) ) ') ) ) ) (null ) ) ) ) )" [sD,e,p])
 else none
 else
 let ps:=sV p[0].getArgs.toList
 let f:=fun (i:String) (r:Syntax)=>let x:=sI (.mkSimple (oY e++i));match r[0].getNumArgs==1,oP r[0][0] with|true,some x=>(x,sL (oN ps e))|_,_=>(x,sL (oN ps e++[oB r x]))
 let a:=f "a" (B "(t.rcasesPatMed (null $0 ) )" [ps.headD .missing])
 let b:=f "b" (B "(t.rcasesPatMed $0 )" [sL (match ps.tail with|[]=>[]|x::l=>x::fo (fun y r=>.atom .none "|"::y::r) [] l)])
 let h:=fun s:String=>Name.num (.mkSimple s) z
 let c:="(t.case' 'case' (null (t.caseArg (Lean.binderIdent $0 ) (null ) ) ) '=> (t.tacticSeq (t.tacticSeq1Indented (null $1 ) ) ) )"
 some (sG [sL [sE (sX (sI `Or.elim) [e,sU [a.1] (sH (h "a")),sU [b.1] (sH (h "b"))]),B c [sI (h "b"),b.2],B c [sI (h "a"),a.2]]])
def mO (p e:Syntax):MacroM Syntax:=fun c=>BB (oQ c.currMacroScope p e) c
def mQ (s:Syntax):MacroM Syntax:=if s[1].getNumArgs=1&&s[2].getNumArgs=0&&s[3].getNumArgs=2&&s[3][1].getNumArgs=1 then mO s[1][0] s[3][1][0] else BB none
def mP (s:Syntax):MacroM Syntax:=if s[1].getNumArgs=1&&s[1][0][0].getNumArgs=0&&s[2].getNumArgs=2&&s[2][1][1].getNumArgs=0 then mO s[2][1][0] s[1][0][1] else BB none
def mR (s:Syntax):MacroM Syntax:=if s[1][0].getNumArgs>0||s[3].getNumArgs>0 then BB none else BB (some (sL (ms (fun x=>
 let e:=x[1]
 let l:=B "(m.ellipsis '.. )" []
 sF [sE (sX (sI (if x[0].getNumArgs=1 then `Mine.Internal.rq else `Mine.Internal.rp)) [if e.isOfKind ``Parser.Term.app then sX e[0] (e[1].getArgs.toList++[l]) else sX e [l],s_]),B "(t.rewriteSeq 'rewrite (t.optConfig (null ) ) (t.rwRuleSeq '[ (null $0 ) '] ) (null ) )" [x]]) (sV s[2][1].getArgs.toList)++[sF [sR (B "(t.tacticRfl 'rfl )" []),sS "skip"]])))
def mV (s:Syntax):MacroM Syntax:=BB (some (sF [sE (sY s_ s[1]),B "(t.change 'change $0 (null ) )" [s[1]]]))
def mK (_:Syntax):MacroM Syntax:=BB (some (sG [B "(t.exact 'exact (m.app !Eq.refl (null (m.hole '_ ) ) ) )" []]))
def mS (s:Syntax):MacroM Syntax:=if s[1].getNumArgs=1&&s[1][0].isIdent then mO (B "(t.rcasesPatMed (null (t.rcasesPat.one !rfl ) ) )" []) s[1][0] else BB none
def mC (s:Syntax):MacroM Syntax:=fun c=>
 let t:=s[1][0]
 let l:=s[3][0][2].getArgs.toList
 let h:=fun s:String=>Name.num (.mkSimple s) c.currMacroScope
 let g:=fun (k:Name)=>fo (fun x (r:Option Syntax)=>if x[0][0][1][1].getId.eraseMacroScopes==k&&x[1][1].isOfKind ``Parser.Tactic.tacticSeq then some x else r) none l
 BB (match s[1].getNumArgs==1&&t[0].getNumArgs==2&&l.length==2&&s[2].getNumArgs==0,g `none,g `some with
 |true,some x,some y=>let n:=t[0][0][0];some (sG [sL [sE (sX (sI `Mine.Internal.oc) [t[1],sU [n] (sH (h "a")),sU [y[0][0][2][0],n] (sH (h "b"))]),sC (h "a") x[1][1],sC (h "b") y[1][1]]])
 |_,_,_=>none) c
end
end Mine.Internal
end
local macro_rules (kind:=PyProof.Rows.tacticWalk_at_)|s=>Mine.Internal.mW s
local macro_rules (kind:=Lean.Parser.Tactic.obtain)|s=>Mine.Internal.mQ s
local macro_rules (kind:=Lean.Parser.Tactic.rcases)|s=>Mine.Internal.mP s
local macro_rules (kind:=Lean.Parser.Tactic.rwSeq)|s=>Mine.Internal.mR s
local macro_rules (kind:=Lean.Parser.Tactic.show)|s=>Mine.Internal.mV s
local macro_rules (kind:=Lean.Parser.Tactic.subst)|s=>Mine.Internal.mS s
local macro_rules (kind:=Lean.Parser.Tactic.cases)|s=>Mine.Internal.mC s
namespace Mine.Internal
open PySem PySem.W PyProof.Rows
section
local macro_rules (kind:=tacticKernel_rfl)|s=>Mine.Internal.mK s
theorem aC {P:Prop}(h:∀G:Prop,(P->G)->G):P:=h P id
mutual
inductive Bi where
 | len | range | sum | list | bytes | tuple | set | bool | sorted | ord | isinstance | enumerate | iter | valueError | stopIteration
inductive BM where | append | pop | clear | index | get | values | add | join | decode
end
noncomputable def Bi.val:Bi->Value
 | .len=>.builtin "len" | .range=>.type "range" | .sum=>.builtin "sum" | .list=>.type "list" | .bytes=>.type "bytes" | .tuple=>.type "tuple" | .set=>.type "set"
 | .bool=>.type "bool" | .sorted=>.builtin "sorted" | .ord=>.builtin "ord" | .isinstance=>.builtin "isinstance" | .enumerate=>.type "enumerate" | .iter=>.builtin "iter"
 | .valueError=>.type "ValueError" | .stopIteration=>.type "StopIteration"
inductive D where
 | non
 | bool (b:Bool)
 | int (i:Int)
 | str (s:Str)
 | bytes (b:Array UInt8)
 | tup (ds:List D)
 | lst (ds:List D)
 | dct (kvs:List (Int×D))
 | rng (lo hi:Int)
 | bi (b:Bi)
 | gbl (a:Addr)
inductive V where
 | d (d:D)
 | loc (l:Nat)
 | nxt (l:Nat)
 | vals (l:Nat)
 | pair (l:Nat) (d:D)
inductive SObj where
 | ctab
 | list (ds:List D)
 | nexts (ls:List Nat)
 | dict (kvs:List (Int×D))
 | objs (kvs:List (Int×Nat))
 | fobjs (kvs:List (Int×Nat))
 | set (xs:List Int)
 | inst (at_:List (Str×V))
 | node (a b c:Option V)
 | iter (l:Nat) (i:Nat)
 | exc (cls:D) (args:List D)
 | tape (b:Array UInt8) (l:Nat)
 | gone
 | einst (at_:List (Str×V))
structure St where
 fr:List (Str×V)
 st:List SObj
inductive Res (α:Type) where
 | ok (a:α) (s:St)
 | exn (c:D) (args:List D) (s:St)
 | bad
noncomputable def Res.bind {α β:Type}(x:Res α) (f:α->St->Res β):Res β:=Res.casesOn x f .exn .bad
noncomputable def cP {α:Type}(x:Option α) (s:St):Res α:=MF x .bad λa=>.ok a s
inductive Fl where
 | next | brk | cont
 | ret (v:V)
structure Cx where
 names:List (Str×LJ)
 comp:Bool
 inH:Bool
section
variable {α β:Type}{P:Prop}
theorem aA {a:Option α}{f:α->Option β}{o:β}(e:a.bind f=Vl o) (k:∀x,a=Vl x->f x=Vl o->P):P:=match a,e,k with
 | some x,e,k=>k x rfl e
theorem aV {a:Option α}{f:α->β}{o:β}(e:a.map f=Vl o) (k:∀x,a=Vl x->f x=o->P):P:=match a,e,k with
 | some x,e,k=>k x rfl (J9 e)
theorem cL {a b:Option α}{o:α}(e:a.or b=Vl o) (c:a=Vl o->P) (d:b=Vl o->P):P:=match a,e,c with
 | some _,e,c=>c e
 | none,e,_=>d e
theorem bD {c:Prop} [i:Decidable c] {a:Option α}{o:α}(e:(if c then a else Vm)=Vl o) (k:c->a=Vl o->P):P:=match i,e with
 | .isTrue h,e=>k h e
 | .isFalse _,e=>nomatch e
end
section
variable {α:Type}
noncomputable def D.int? (d:D):Option Int:=D.casesOn d Vm (λ_=>Vm) Vl (λ_=>Vm) (λ_=>Vm) (λ_=>Vm) (λ_=>Vm) (λ_=>Vm) (λ_ _=>Vm) (λ_=>Vm) (λ_=>Vm)
noncomputable def D.bool? (d:D):Option Bool:=D.casesOn d Vm Vl (λ_=>Vm) (λ_=>Vm) (λ_=>Vm) (λ_=>Vm) (λ_=>Vm) (λ_=>Vm) (λ_ _=>Vm) (λ_=>Vm) (λ_=>Vm)
noncomputable def D.str? (d:D):Option Str:=D.casesOn d Vm (λ_=>Vm) (λ_=>Vm) Vl (λ_=>Vm) (λ_=>Vm) (λ_=>Vm) (λ_=>Vm) (λ_ _=>Vm) (λ_=>Vm) (λ_=>Vm)
noncomputable def D.bytes? (d:D):Option (Array UInt8):=D.casesOn d Vm (λ_=>Vm) (λ_=>Vm) (λ_=>Vm) Vl (λ_=>Vm) (λ_=>Vm) (λ_=>Vm) (λ_ _=>Vm) (λ_=>Vm) (λ_=>Vm)
noncomputable def D.tup? (d:D):Option (List D):=D.casesOn d Vm (λ_=>Vm) (λ_=>Vm) (λ_=>Vm) (λ_=>Vm) Vl (λ_=>Vm) (λ_=>Vm) (λ_ _=>Vm) (λ_=>Vm) (λ_=>Vm)
noncomputable def D.lst? (d:D):Option (List D):=D.casesOn d Vm (λ_=>Vm) (λ_=>Vm) (λ_=>Vm) (λ_=>Vm) (λ_=>Vm) Vl (λ_=>Vm) (λ_ _=>Vm) (λ_=>Vm) (λ_=>Vm)
noncomputable def D.dct? (d:D):Option (List (Int×D)):=D.casesOn d Vm (λ_=>Vm) (λ_=>Vm) (λ_=>Vm) (λ_=>Vm) (λ_=>Vm) (λ_=>Vm) Vl (λ_ _=>Vm) (λ_=>Vm) (λ_=>Vm)
noncomputable def D.rng? (d:D):Option (Int×Int):=D.casesOn d Vm (λ_=>Vm) (λ_=>Vm) (λ_=>Vm) (λ_=>Vm) (λ_=>Vm) (λ_=>Vm) (λ_=>Vm) (λa b=>Vl (a,b)) (λ_=>Vm) (λ_=>Vm)
noncomputable def D.none? (d:D):Option Unit:=D.casesOn d (Vl ()) (λ_=>Vm) (λ_=>Vm) (λ_=>Vm) (λ_=>Vm) (λ_=>Vm) (λ_=>Vm) (λ_=>Vm) (λ_ _=>Vm) (λ_=>Vm) (λ_=>Vm)
noncomputable def D.bi? (d:D):Option Bi:=D.casesOn d Vm (λ_=>Vm) (λ_=>Vm) (λ_=>Vm) (λ_=>Vm) (λ_=>Vm) (λ_=>Vm) (λ_=>Vm) (λ_ _=>Vm) Vl (λ_=>Vm)
noncomputable def D.gbl? (d:D):Option Addr:=D.casesOn d Vm (λ_=>Vm) (λ_=>Vm) (λ_=>Vm) (λ_=>Vm) (λ_=>Vm) (λ_=>Vm) (λ_=>Vm) (λ_ _=>Vm) (λ_=>Vm) Vl
noncomputable def V.d? (v:V):Option D:=V.casesOn v Vl (λ_=>Vm) (λ_=>Vm) (λ_=>Vm) λ_ _=>Vm
noncomputable def V.loc? (v:V):Option Nat:=V.casesOn v (λ_=>Vm) Vl (λ_=>Vm) (λ_=>Vm) λ_ _=>Vm
noncomputable def V.nxt? (v:V):Option Nat:=V.casesOn v (λ_=>Vm) (λ_=>Vm) Vl (λ_=>Vm) λ_ _=>Vm
noncomputable def V.vals? (v:V):Option Nat:=V.casesOn v (λ_=>Vm) (λ_=>Vm) (λ_=>Vm) Vl λ_ _=>Vm
noncomputable def SObj.list? (o:SObj):Option (List D):=SObj.casesOn o Vm Vl (λ_=>Vm) (λ_=>Vm) (λ_=>Vm) (λ_=>Vm) (λ_=>Vm) (λ_=>Vm) (λ_ _ _=>Vm) (λ_ _=>Vm) (λ_ _=>Vm) (λ_ _=>Vm) Vm λ_=>Vm
noncomputable def SObj.nexts? (o:SObj):Option (List Nat):=SObj.casesOn o Vm (λ_=>Vm) Vl (λ_=>Vm) (λ_=>Vm) (λ_=>Vm) (λ_=>Vm) (λ_=>Vm) (λ_ _ _=>Vm) (λ_ _=>Vm) (λ_ _=>Vm) (λ_ _=>Vm) Vm λ_=>Vm
noncomputable def SObj.dict? (o:SObj):Option (List (Int×D)):=SObj.casesOn o Vm (λ_=>Vm) (λ_=>Vm) Vl (λ_=>Vm) (λ_=>Vm) (λ_=>Vm) (λ_=>Vm) (λ_ _ _=>Vm) (λ_ _=>Vm) (λ_ _=>Vm) (λ_ _=>Vm) Vm λ_=>Vm
noncomputable def SObj.objs? (o:SObj):Option (List (Int×Nat)):=SObj.casesOn o Vm (λ_=>Vm) (λ_=>Vm) (λ_=>Vm) Vl (λ_=>Vm) (λ_=>Vm) (λ_=>Vm) (λ_ _ _=>Vm) (λ_ _=>Vm) (λ_ _=>Vm) (λ_ _=>Vm) Vm λ_=>Vm
noncomputable def SObj.fobjs? (o:SObj):Option (List (Int×Nat)):=SObj.casesOn o Vm (λ_=>Vm) (λ_=>Vm) (λ_=>Vm) (λ_=>Vm) Vl (λ_=>Vm) (λ_=>Vm) (λ_ _ _=>Vm) (λ_ _=>Vm) (λ_ _=>Vm) (λ_ _=>Vm) Vm λ_=>Vm
noncomputable def SObj.set? (o:SObj):Option (List Int):=SObj.casesOn o Vm (λ_=>Vm) (λ_=>Vm) (λ_=>Vm) (λ_=>Vm) (λ_=>Vm) Vl (λ_=>Vm) (λ_ _ _=>Vm) (λ_ _=>Vm) (λ_ _=>Vm) (λ_ _=>Vm) Vm λ_=>Vm
noncomputable def SObj.inst? (o:SObj):Option (List (Str×V)):=SObj.casesOn o Vm (λ_=>Vm) (λ_=>Vm) (λ_=>Vm) (λ_=>Vm) (λ_=>Vm) (λ_=>Vm) Vl (λ_ _ _=>Vm) (λ_ _=>Vm) (λ_ _=>Vm) (λ_ _=>Vm) Vm λ_=>Vm
noncomputable def SObj.node? (o:SObj):Option (Option V×Option V×Option V):=SObj.casesOn o Vm (λ_=>Vm) (λ_=>Vm) (λ_=>Vm) (λ_=>Vm) (λ_=>Vm) (λ_=>Vm) (λ_=>Vm) (λa b c=>Vl (a,b,c)) (λ_ _=>Vm) (λ_ _=>Vm) (λ_ _=>Vm) Vm λ_=>Vm
noncomputable def SObj.iter? (o:SObj):Option (Nat×Nat):=SObj.casesOn o Vm (λ_=>Vm) (λ_=>Vm) (λ_=>Vm) (λ_=>Vm) (λ_=>Vm) (λ_=>Vm) (λ_=>Vm) (λ_ _ _=>Vm) (λa b=>Vl (a,b)) (λ_ _=>Vm) (λ_ _=>Vm) Vm λ_=>Vm
noncomputable def SObj.exc? (o:SObj):Option (D×List D):=SObj.casesOn o Vm (λ_=>Vm) (λ_=>Vm) (λ_=>Vm) (λ_=>Vm) (λ_=>Vm) (λ_=>Vm) (λ_=>Vm) (λ_ _ _=>Vm) (λ_ _=>Vm) (λa b=>Vl (a,b)) (λ_ _=>Vm) Vm λ_=>Vm
noncomputable def SObj.tape? (o:SObj):Option (Array UInt8×Nat):=SObj.casesOn o Vm (λ_=>Vm) (λ_=>Vm) (λ_=>Vm) (λ_=>Vm) (λ_=>Vm) (λ_=>Vm) (λ_=>Vm) (λ_ _ _=>Vm) (λ_ _=>Vm) (λ_ _=>Vm) (λa b=>Vl (a,b)) Vm λ_=>Vm
noncomputable def SObj.einst? (o:SObj):Option (List (Str×V)):=SObj.casesOn o Vm (λ_=>Vm) (λ_=>Vm) (λ_=>Vm) (λ_=>Vm) (λ_=>Vm) (λ_=>Vm) (λ_=>Vm) (λ_ _ _=>Vm) (λ_ _=>Vm) (λ_ _=>Vm) (λ_ _=>Vm) Vm Vl
noncomputable def SObj.ctab? (o:SObj):Bool:=SObj.casesOn o Vn (λ_=>Vo) (λ_=>Vo) (λ_=>Vo) (λ_=>Vo) (λ_=>Vo) (λ_=>Vo) (λ_=>Vo) (λ_ _ _=>Vo) (λ_ _=>Vo) (λ_ _=>Vo) (λ_ _=>Vo) Vo λ_=>Vo
end
noncomputable def aY (x:Str) (v:V):List (Str×V)->List (Str×V)
 | []=>[(x,v)]
 | p::r=>if p.1=x then (p.1,v)::r else p::aY x v r
noncomputable def Da (x:Str):List (Str×V)->List (Str×V)
 | []=>[]
 | p::r=>if p.1=x then Da x r else p::Da x r
noncomputable def get (x:Str):List (Str×V)->Option V
 | []=>Vm
 | p::r=>if p.1=x then Vl p.2 else get x r
theorem DJ {x:Str}{v:V}{p:Str×V}{r:List (Str×V)}:aY x v (p::r)=if p.1=x then (p.1,v)::r else p::aY x v r:=rfl
theorem Hx {x:Str}{p:Str×V}{r:List (Str×V)}:Da x (p::r)=if p.1=x then Da x r else p::Da x r:=rfl
theorem vh {x:Str}{p:Str×V}{r:List (Str×V)}:get x (p::r)=if p.1=x then Vl p.2 else get x r:=rfl
noncomputable def eF (a:List (Str×V)) (fr:List (Str×V)):List (Str×V):=a.foldl (λfr b=>aY b.1 b.2 fr) fr
noncomputable def aF {α:Type}(k:Int):List (Int×α)->Option α
 | []=>Vm
 | p::r=>if p.1=k then Vl p.2 else aF k r
noncomputable def lZ {α:Type}(k:Int) (v:α):List (Int×α)->List (Int×α)
 | []=>[(k,v)]
 | p::r=>if p.1=k then (p.1,v)::r else p::lZ k v r
noncomputable def pR {α:Type}(k:Int):List (Int×α)->List (Int×α)
 | []=>[]
 | p::r=>if p.1=k then r else p::pR k r
noncomputable def V.ls? (st:List SObj) (v:V):Option (List D):=(v.d?.bind D.lst?).or (v.loc?.bind λl=>(st[l]?).bind SObj.list?)
noncomputable def V.kvs? (st:List SObj) (v:V):Option (List (Int×D)):=(v.d?.bind D.dct?).or (v.loc?.bind λl=>(st[l]?).bind SObj.dict?)
noncomputable def SObj.objs0? (o:SObj):Option (List (Int×Nat)):=o.objs?.or (o.dict?.bind λkvs=>if kvs.isEmpty=Vn then Vl [] else Vm)
noncomputable def SObj.anyObjs? (o:SObj):Option (List (Int×Nat)):=o.objs?.or o.fobjs?
noncomputable def V.objs? (st:List SObj) (v:V):Option (List (Int×Nat)):=v.loc?.bind λl=>(st[l]?).bind SObj.anyObjs?
abbrev cM (i:Int):Prop:=i.natAbs<18446744073709551616
noncomputable def jr {α:Type}(a b:D) (f:Int->Int->Option α):Option α:=a.int?.bind λi=>b.int?.bind λj=>f i j
noncomputable def BZ {α:Type}(a b:D) (f:Str->Str->Option α):Option α:=a.str?.bind λi=>b.str?.bind λj=>f i j
noncomputable def Cw {α:Type}(a b:D) (f:List D->List D->Option α):Option α:=a.lst?.bind λi=>b.lst?.bind λj=>f i j
noncomputable def HK (op:Nw) (a b:D):Option D:=match op with
 | .Add=>(jr a b λi j=>Vl (.int (i+j))).or ((BZ a b λs t=>if s.cps.size+t.cps.size<=1000 then Vl (.str (s++t)) else Vm).or (Cw a b λs t=>if s.length+t.length<=100000 then Vl (.lst (s++t)) else Vm))
 | .Sub=>jr a b λi j=>Vl (.int (i-j))
 | .Mult=>(jr a b λi j=>if cM i/\cM j then Vl (.int (i*j)) else Vm).or (a.lst?.bind λl=>b.int?.bind λn=>if l.length=1/\0<=n/\n<=1000 then Vl (.lst ((LP n.toNat l).flatten)) else Vm)
 | .FloorDiv=>jr a b λi j=>if j≠0/\j.natAbs<1000000 then Vl (.int (Ll i j)) else Vm
 | .Mod=>jr a b λi j=>if j≠0 then Vl (.int (Lk i j)) else Vm
 | .BitAnd=>jr a b λi j=>if 0<=i/\0<=j then Vl (.int ((i.toNat&&& j.toNat:Nat):Int)) else Vm
 | _=>Vm
noncomputable def kN:List (Option Bool)->Option Bool
 | []=>Vl Vn
 | o::r=>o.bind λa=>(kN r).map λb=>a&&b
noncomputable def fE:Nat->D->D->Option Bool
 | 0,_,_=>Vm
 | n+1,a,b=>(jr a b λi j=>Vl (i==j)).or ((BZ a b λi j=>Vl (i==j)).or ((a.bytes?.bind λi=>b.bytes?.bind λj=>Vl (i==j)).or ((a.bool?.bind λi=>b.bool?.bind λj=>Vl (i==j)).or ((Cw a b λs t=>if s.length=t.length then kN (Mv (fE n) s t) else Vl Vo).or (a.tup?.bind λs=>b.tup?.bind λt=>if s.length=t.length then kN (Mv (fE n) s t) else Vm)))))
noncomputable def vp (d:D):List D->Option (List Bool)
 | []=>Vl []
 | x::r=>(fE 3 x x).bind λ_=>(fE 3 x d).bind λa=>(vp d r).map λb=>a::b
noncomputable def JL (d:D) (l:List D):Option Bool:=(vp d l).map λa=>a.any id
noncomputable def gs (d:D) (l:List D):Option Nat:=(vp d l).bind λa=>a.findIdx? id
noncomputable def zz (st:List SObj) (a:D) (v:V):Option Bool:=((v.ls? st).bind (JL a)).or (a.int?.bind λk=>((v.kvs? st).map λkvs=>(aF k kvs).isSome).or ((v.loc?.bind λl=>(st[l]?).bind SObj.set?).map λb=>b.contains k))
noncomputable def IW (v:V) (d:D):Option Bool:=(v.loc?.bind λ_=>d.none?.map λ_=>Vo).or (v.d?.bind λe=>(d.none?.bind λ_=>(e.none?.map λ_=>Vn).or ((e.tup?.map λ_=>Vo).or (e.lst?.map λ_=>Vo))).or (d.bool?.bind λb=>e.bool?.map λa=>a==b))
noncomputable def gJ (a b:D):Option Bool:=(jr a b λi j=>Vl (i==j)).or ((BZ a b λi j=>Vl (i==j)).or ((Cw a b λs t=>if s.length=t.length then kN (Mv (fE 5) s t) else Vl Vo).or (a.tup?.bind λs=>b.tup?.bind λt=>if s.length=t.length then kN (Mv (fE 5) s t) else Vm)))
noncomputable def Hz (op:PQ) (a b:D):Option Bool:=match op with
 | .Eq=>gJ a b
 | .NotEq=>(gJ a b).map (!·)
 | .Lt=>jr a b λi j=>Vl (decide (i<j))
 | .Gt=>jr a b λi j=>Vl (decide (j<i))
 | .GtE=>jr a b λi j=>Vl (decide (j<=i))
 | _=>Vm
noncomputable def bV (st:List SObj) (op:PQ) (a b:V):Option Bool:=match op with
 | .In=>a.d?.bind λd=>zz st d b
 | .NotIn=>(a.d?.bind λd=>zz st d b).map (!·)
 | .Is=>b.d?.bind (IW a)
 | .IsNot=>(b.d?.bind (IW a)).map (!·)
 | op=>a.d?.bind λd=>b.d?.bind λe=>Hz op d e
noncomputable def cc (st:List SObj) (v:V):Option Bool:=((v.ls? st).map λl=>!l.isEmpty).or (v.d?.bind λd=>(d.none?.map λ_=>Vo).or (d.bool?.or ((d.int?.map λi=>decide (i≠0)).or ((d.bytes?.map λb=>decide (b.size≠0)).or (d.tup?.map λl=>!l.isEmpty)))))
noncomputable def ki (n:Nat) (i:Int):Option Nat:=if 0<=i then (if i.toNat<n then Vl i.toNat else Vm) else (if 0<=i+n then Vl (i+n).toNat else Vm)
noncomputable def zE (st:List SObj) (v:V) (i:Int):Option D:=((v.ls? st).bind λl=>(ki l.length i).bind λk=>l[k]?).or (((v.kvs? st).bind (aF i)).or (v.d?.bind λd=>(d.tup?.bind λl=>(ki l.length i).bind λk=>l[k]?).or ((d.str?.bind λs=>if 0<=i then (s.cps[i.toNat]?).map λc=>.str ⟨#[c]⟩ else Vm).or (d.bytes?.bind λb=>if 0<=i then (b[i.toNat]?).map λc=>.int (c.toNat:Int) else Vm))))
noncomputable def zD (st:List SObj) (v:V) (i:Int):Option V:=((zE st v i).map V.d).or (((v.objs? st).bind (aF i)).map V.loc)
noncomputable def gi {α:Type}(k m:Int) (l:List α):List α:=(sliceRange (SV (Vl k) Vm (Vl m) l.length).1 (SV (Vl k) Vm (Vl m) l.length).2.1 (SV (Vl k) Vm (Vl m) l.length).2.2).filterMap (l[·]?)
noncomputable def yk (l:List D) (a b c:Option Int):Option (List D):=match a,b,c with
 | some k,Vm,Vl m=>if m≠0 then Vl (gi k m l) else Vm
 | none,Vl k,Vm=>if 0<=k then Vl (l.take k.toNat) else Vm
 | some k,Vm,Vm=>if 0<=k then Vl (l.drop k.toNat) else Vm
 | _,_,_=>Vm
noncomputable def cR:List D->Option (List Int)
 | []=>Vl []
 | d::r=>d.int?.bind λi=>(cR r).map (i::·)
noncomputable def gT:List D->Option (List Str)
 | []=>Vl []
 | d::r=>d.str?.bind λi=>(gT r).map (i::·)
noncomputable def eE (lo:Int):Nat->List D
 | 0=>[]
 | n+1=>.int lo::eE (lo+1) n
noncomputable def il (b:Array UInt8):List D:=b.toList.map λc=>.int (c.toNat:Int)
noncomputable def iF (k:Int):List Int->List Int
 | []=>[k]
 | x::r=>if k<=x then k::x::r else x::iF k r
theorem nZ {k x:Int}{r:List Int}:iF k (x::r)=if k<=x then k::x::r else x::iF k r:=rfl
noncomputable def fe:List Int->List Int
 | []=>[]
 | x::r=>iF x (fe r)
noncomputable def ik (l:List Int):List Int:=l.foldl (λacc x=>if acc.contains x then acc else acc++[x]) []
noncomputable def items (d:D):Option (List D):=d.lst?.or (d.tup?.or ((d.rng?.bind λp=>if 0<=p.1/\p.1<=p.2/\p.2<=1000 then Vl (eE p.1 (p.2-p.1).toNat) else Vm).or ((d.bytes?.map il).or (d.str?.map λs=>s.cps.toList.map λc=>.str ⟨#[c]⟩))))
noncomputable def cycleC:Addr:=55
noncomputable def eu:Addr:=40
noncomputable def bJ:Addr:=137
noncomputable def bL:Addr:=179
noncomputable def Bi.ix (a:Bi):Nat:=a.casesOn 0 1 2 3 4 5 6 7 8 9 10 11 12 13 14
noncomputable def Bi.eq (a b:Bi):Bool:=a.ix==b.ix
noncomputable def pD (st:List SObj) (v:V) (c:D):Option Bool:=(c.bi?.bind λb=>v.d?.bind λd=>Bi.casesOn b Vm Vm Vm (d.lst?.map λ_=>Vn) (d.bytes?.map λ_=>Vn) (d.tup?.map λ_=>Vn) Vm Vm Vm Vm Vm Vm Vm Vm Vm).or (c.gbl?.bind λa=>(v.loc?.bind λl=>(st[l]?).bind SObj.exc?).bind λp=>p.1.bi?.bind λb=>if a=cycleC/\b.eq .valueError=Vn then Vl Vo else Vm)
noncomputable def G1 (st:List SObj) (v:V):Option Nat:=((v.ls? st).map Ql).or (v.d?.bind λd=>(d.tup?.map Ql).or ((d.bytes?.map Array.size).or (d.str?.map λs=>s.cps.size)))
noncomputable def fc {α:Type}(vs:List V) (f:V->Option α):Option α:=LW vs Vm λv r=>LW r (f v) λ_ _=>Vm
noncomputable def Dt {α:Type}(vs:List V) (f:V->V->Option α):Option α:=LW vs Vm λv r=>fc r (f v)
noncomputable def GY (d:D):Option D:=(d.rng?.bind λp=>if 0<=p.1/\p.1<=p.2/\p.2<=1000 then Vl (.lst (eE p.1 (p.2-p.1).toNat)) else Vm).or (d.bytes?.bind λb=>if b.size<=1000 then Vl (.lst (il b)) else Vm)
abbrev bK (i:Int):Prop:=0<=i/\i<256
noncomputable def DG (d:D):Option D:=(d.tup?.bind λl=>(cR l).bind λis=>if is.length<64 then Vl (.lst ((fe is).map .int)) else Vm).or (d.dct?.bind λkvs=>if kvs.length<64 then Vl (.lst ((fe (kvs.map (·.1))).map .int)) else Vm)
noncomputable def ES (d:D):Option D:=d.int?.map λ(n:Int)=>.rng 0 n
noncomputable def IC (d:D):Option D:=d.lst?.bind λl=>(cR l).map λ(is:List Int)=>.int is.sum
noncomputable def F2 (d:D):Option D:=d.lst?.bind λl=>(cR l).bind λ(is:List Int)=>if is.length<=100000/\∀i∈is,bK i then Vl (.bytes (is.map λ(i:Int)=>i.toNat.toUInt8).toArray) else Vm
noncomputable def IK (d:D):Option D:=d.str?.bind λs=>if s.cps.size=1 then (s.cps[(0:Nat)]?).map λ(n:Nat)=>.int (n:Int) else Vm
noncomputable def bI (st:List SObj) (b:Bi) (vs:List V):Option D:=match b with
 | .len=>fc vs λv=>(G1 st v).map λ(n:Nat)=>.int (n:Int)
 | .range=>(fc vs λv=>v.d?.bind ES).or (Dt vs λv u=>v.d?.bind λd=>u.d?.bind λe=>jr d e λi j=>Vl (.rng i j))
 | .sum=>fc vs λv=>v.d?.bind IC
 | .list=>fc vs λv=>v.d?.bind GY
 | .bytes=>fc vs λv=>v.d?.bind F2
 | .tuple=>fc vs λv=>(v.ls? st).map .tup
 | .bool=>fc vs λv=>(v.ls? st).map λl=>.bool (!l.isEmpty)
 | .sorted=>fc vs λv=>v.d?.bind DG
 | .ord=>fc vs λv=>v.d?.bind IK
 | .isinstance=>Dt vs λv c=>c.d?.bind λc=>(pD st v c).map .bool
 | _=>Vm
noncomputable def nV (b:Bi) (d:D):Option D:=d.lst?.bind λl=>(cR l).bind λis=>if is.length<64 then Bi.casesOn b (Vl (.int (ik is).length)) Vm Vm Vm Vm Vm Vm Vm (Vl (.lst ((fe (ik is)).map .int))) Vm Vm Vm Vm Vm Vm else Vm
noncomputable abbrev PR:Program:=PySem.Challenge.pw_oc0260_01
abbrev Imm:=List (Addr×Obj)
noncomputable abbrev dU (vs:List Value) (n:Nat):Obj:={cls:=.type "tuple",data:=.seq vs.toArray n}
noncomputable abbrev lstO (vs:List Value) (n:Nat):Obj:={cls:=.type "list",data:=.seq vs.toArray n}
noncomputable abbrev EN (lo a:Int) (t u v:PP):Obj:={cls:=.type "range",dict:=Vm,data:=.fields #[.int lo t,.int a u,.int 1 v],slots:=#[]}
noncomputable abbrev sZ (b:Addr):Obj:={cls:=.type "method-wrapper",data:=.fields #[.builtin "list_iterator.__next__",.ref b]}
noncomputable abbrev Ir (d:Addr):Obj:={cls:=.type "dict_values",data:=.fields #[.ref d]}
noncomputable abbrev zy (l:Addr) (i:Nat):Obj:={cls:=.type "list_iterator",data:=.fields #[.ref l,.int i 0]}
noncomputable def bN (i:Nat):Stmt:=(PR.main.body[i]?).getD (.Pass ⟨0,0,0,0⟩)
noncomputable def gK:Stmt->List Stmt
 | .FunctionDef _ _ b _ _ _ _ _ _ _=>b
 | _=>[]
noncomputable def fZ:Stmt->Arguments
 | .FunctionDef _ a _ _ _ _ _ _ _ _=>a
 | _=>⟨[],[],Vm,[],[],Vm,[]⟩
noncomputable def bO:Stmt->OI
 | .FunctionDef _ _ _ _ _ _ a _ _ _=>a
 | _=>{kind:=.function,names:=[],isGenerator:=Vo,isCoroutine:=Vo}
mutual
inductive RD (w:Ld) (imm:Imm):Value->D->Prop
 | non:RD w imm .none .non
 | bool (b:Bool):RD w imm (.bool b) (.bool b)
 | int (i:Int) (t:PP):RD w imm (.int i t) (.int i)
 | str (s:Str) (t:PP):s.cps.size<=16777216->RD w imm (.str s t) (.str s)
 | bytes (b:Array UInt8) (t:PP):b.size<=16777216->RD w imm (.bytes b t) (.bytes b)
 | tup {a:Addr}{vs:List Value}{n:Nat}{ds:List D}:(a,dU vs n)∈imm->vs.length<=16777216->RDs w imm vs ds->RD w imm (.ref a) (.tup ds)
 | lst {a:Addr}{vs:List Value}{n:Nat}{ds:List D}:(a,lstO vs n)∈imm->vs.length<=16777216->RDs w imm vs ds->RD w imm (.ref a) (.lst ds)
 | dct {a:Addr}{o:Obj}{kvs:List (Int×Value)}{ds:List (Int×D)}:(a,o)∈imm->o.IsDictOf (K8 PR w) kvs->(a==ME)=Vo->RKs w imm kvs ds->RD w imm (.ref a) (.dct ds)
 | rng {a:Addr}{lo hi:Int}{t u v:PP}:(a,EN lo hi t u v)∈imm->RD w imm (.ref a) (.rng lo hi)
 | bi (b:Bi):RD w imm b.val (.bi b)
 | gbl (a:Addr):RD w imm (.ref a) (.gbl a)
inductive RDs (w:Ld) (imm:Imm):List Value->List D->Prop
 | nil:RDs w imm [] []
 | cons {v:Value}{vs:List Value}{d:D}{ds:List D}:RD w imm v d->RDs w imm vs ds->RDs w imm (v::vs) (d::ds)
inductive RKs (w:Ld) (imm:Imm):List (Int×Value)->List (Int×D)->Prop
 | nil:RKs w imm [] []
 | cons {k:Int}{v:Value}{d:D}{r:List (Int×Value)}{q:List (Int×D)}:RD w imm v d->RKs w imm r q->RKs w imm ((k,v)::r) ((k,d)::q)
end
section
variable {w:Ld}{imm imm':Imm}
theorem RD.mono (a:∀p∈imm,p∈imm'){v:Value}{d:D}(h:RD w imm v d):RD w imm' v d:=RD.rec (motive_1:=λv d _=>RD w imm' v d) (motive_2:=λv d _=>RDs w imm' v d) (motive_3:=λv d _=>RKs w imm' v d) .non .bool .int .str .bytes (λm z _ r=>.tup (a _ m) z r) (λm z _ r=>.lst (a _ m) z r) (λm h s _ r=>.dct (a _ m) h s r) (λm=>.rng (a _ m)) .bi .gbl .nil (λ_ _ h r=>.cons h r) .nil (λ_ _ h r=>.cons h r) h
theorem RDs.mono (a:∀p∈imm,p∈imm'){v:List Value}{d:List D}(h:RDs w imm v d):RDs w imm' v d:=RDs.rec (motive_1:=λ_ _ _=>True) (motive_2:=λv d _=>RDs w imm' v d) (motive_3:=λ_ _ _=>True) trivial (λ_=>trivial) (λ_ _=>trivial) (λ_ _ _=>trivial) (λ_ _ _=>trivial) (λ_ _ _ _=>trivial) (λ_ _ _ _=>trivial) (λ_ _ _ _ _=>trivial) (λ_=>trivial) (λ_=>trivial) (λ_=>trivial) .nil (λh _ _ r=>.cons (h.mono a) r) trivial (λ_ _ _ _=>trivial) h
theorem RKs.mono (a:∀p∈imm,p∈imm'){v:List (Int×Value)}{d:List (Int×D)}(h:RKs w imm v d):RKs w imm' v d:=RKs.rec (motive_1:=λ_ _ _=>True) (motive_3:=λv d _=>RKs w imm' v d) (motive_2:=λ_ _ _=>True) trivial (λ_=>trivial) (λ_ _=>trivial) (λ_ _ _=>trivial) (λ_ _ _=>trivial) (λ_ _ _ _=>trivial) (λ_ _ _ _=>trivial) (λ_ _ _ _ _=>trivial) (λ_=>trivial) (λ_=>trivial) (λ_=>trivial) trivial (λ_ _ _ _=>trivial) .nil (λh _ _ r=>.cons (h.mono a) r) h
noncomputable def Ei (w:Ld) (imm:Imm) (v:Value) (d:D):Prop:=D.casesOn d (v=.none) (λb=>v=.bool b) (λi=>∃t,v=.int i t) (λs=>∃t,v=.str s t/\s.cps.size<=16777216) (λb=>∃t,v=.bytes b t/\b.size<=16777216) (λds=>∃a us n,v=.ref a/\(a,dU us n)∈imm/\us.length<=16777216/\RDs w imm us ds) (λds=>∃a us n,v=.ref a/\(a,lstO us n)∈imm/\us.length<=16777216/\RDs w imm us ds) (λds=>∃a o kvs,v=.ref a/\(a,o)∈imm/\o.IsDictOf (K8 PR w) kvs/\(a==ME)=Vo/\RKs w imm kvs ds) (λlo c=>∃a t u x,v=.ref a/\(a,EN lo c t u x)∈imm) (λb=>v=b.val) (λa=>v=.ref a)
theorem RD.view {v:Value}{d:D}(h:RD w imm v d):Ei w imm v d:=RD.casesOn (motive_1:=λv d _=>Ei w imm v d) h rfl (λ_=>rfl) (λ_ t=>⟨t,rfl⟩) (λ_ t z=>⟨t,rfl,z⟩) (λ_ t z=>⟨t,rfl,z⟩) (λm z r=>⟨_,_,_,rfl,m,z,r⟩) (λm z r=>⟨_,_,_,rfl,m,z,r⟩) (λm h s r=>⟨_,_,_,rfl,m,h,s,r⟩) (λm=>⟨_,_,_,_,rfl,m⟩) (λ_=>rfl) (λ_=>rfl)
noncomputable def Bq (w:Ld) (imm:Imm) (vs:List Value) (ds:List D):Prop:=LW ds (vs=[]) λd ds=>∃u us,vs=u::us/\RD w imm u d/\RDs w imm us ds
theorem RDs.view {vs:List Value}{ds:List D}(h:RDs w imm vs ds):Bq w imm vs ds:=RDs.casesOn (motive_2:=λv d _=>Bq w imm v d) h rfl λh r=>⟨_,_,rfl,h,r⟩
theorem RDs.ind {M:List Value->List D->Prop}(h0:M [] []) (a:∀{v vs d ds},RD w imm v d->RDs w imm vs ds->M vs ds->M (v::vs) (d::ds)){vs:List Value}{ds:List D}(h:RDs w imm vs ds):M vs ds:=RDs.rec (motive_1:=λ_ _ _=>True) (motive_2:=λv d _=>M v d) (motive_3:=λ_ _ _=>True) trivial (λ_=>trivial) (λ_ _=>trivial) (λ_ _ _=>trivial) (λ_ _ _=>trivial) (λ_ _ _ _=>trivial) (λ_ _ _ _=>trivial) (λ_ _ _ _ _=>trivial) (λ_=>trivial) (λ_=>trivial) (λ_=>trivial) h0 (λh r _ m=>a h r m) trivial (λ_ _ _ _=>trivial) h
theorem RKs.ind {M:List (Int×Value)->List (Int×D)->Prop}(h0:M [] []) (a:∀{k v vs d ds},RD w imm v d->RKs w imm vs ds->M vs ds->M ((k,v)::vs) ((k,d)::ds)){vs:List (Int×Value)}{ds:List (Int×D)}(h:RKs w imm vs ds):M vs ds:=RKs.rec (motive_1:=λ_ _ _=>True) (motive_3:=λv d _=>M v d) (motive_2:=λ_ _ _=>True) trivial (λ_=>trivial) (λ_ _=>trivial) (λ_ _ _=>trivial) (λ_ _ _=>trivial) (λ_ _ _ _=>trivial) (λ_ _ _ _=>trivial) (λ_ _ _ _ _=>trivial) (λ_=>trivial) (λ_=>trivial) (λ_=>trivial) trivial (λ_ _ _ _=>trivial) h0 (λh r _ m=>a h r m) h
theorem RDs.length {vs:List Value}{ds:List D}(h:RDs w imm vs ds):vs.length=ds.length:=h.ind (M:=λvs ds=>vs.length=ds.length) rfl λ_ _ e=>congrArg Nl e
theorem RDs.append {vs a:List Value}{ds es:List D}(h:RDs w imm vs ds) (k:RDs w imm a es):RDs w imm (vs++a) (ds++es):=h.ind (M:=λvs ds=>RDs w imm (vs++a) (ds++es)) k λh _ r=>.cons h r
theorem RDs.one {vs:List Value}{d:D}(h:RDs w imm vs [d]):∃u,vs=[u]/\RD w imm u d:=by obtain ⟨u,a,rfl,k,r⟩:=h.view;exact ⟨u,congrArg _ (show a=[] from r.view),k⟩
theorem RDs.get {vs:List Value}{ds:List D}(h:RDs w imm vs ds):∀{k:Nat}{d:D},ds[k]?=Vl d->∃v,vs[k]?=Vl v/\RD w imm v d:=h.ind (M:=λvs ds=>∀{k:Nat}{d:D},ds[k]?=Vl d->∃v,vs[k]?=Vl v/\RD w imm v d) (λe=>nomatch e) λ{v _ _ _} h _ a k {_} e=>match k,e with
  | 0,e=>⟨v,rfl,J9 e▸h⟩
  | k+1,e=>a (k:=k) e
theorem au {α:Type}{i:α}{P:Prop}(e:(Vm:Option α)=Vl i):P:=nomatch e
theorem hY {d:D}{i:Int}(e:d.int?=Vl i):d=.int i:=by cases d<;>first | exact au e | exact congrArg _ (J9 e)
theorem iN {d:D}{i:Bool}(e:d.bool?=Vl i):d=.bool i:=by cases d<;>first | exact au e | exact congrArg _ (J9 e)
theorem gU {d:D}{i:Str}(e:d.str?=Vl i):d=.str i:=by cases d<;>first | exact au e | exact congrArg _ (J9 e)
theorem fF {d:D}{i:Array UInt8}(e:d.bytes?=Vl i):d=.bytes i:=by cases d<;>first | exact au e | exact congrArg _ (J9 e)
theorem gS {d:D}{i:List D}(e:d.tup?=Vl i):d=.tup i:=by cases d<;>first | exact au e | exact congrArg _ (J9 e)
theorem hO {d:D}{i:List D}(e:d.lst?=Vl i):d=.lst i:=by cases d<;>first | exact au e | exact congrArg _ (J9 e)
theorem FT {d:D}{i:List (Int×D)}(e:d.dct?=Vl i):d=.dct i:=by cases d<;>first | exact au e | exact congrArg _ (J9 e)
theorem EM {d:D}{p:Int×Int}(e:d.rng?=Vl p):d=.rng p.1 p.2:=by cases d<;>first | exact au e | exact J9 e▸rfl
theorem pq {d:D}{p:Unit}(e:d.none?=Vl p):d=.non:=by cases d<;>first | exact au e | rfl
theorem kh {d:D}{i:Bi}(e:d.bi?=Vl i):d=.bi i:=by cases d<;>first | exact au e | exact congrArg _ (J9 e)
theorem mG {d:D}{i:Addr}(e:d.gbl?=Vl i):d=.gbl i:=by cases d<;>first | exact au e | exact congrArg _ (J9 e)
theorem tL {v:V}{d:D}(e:v.d?=Vl d):v=.d d:=by cases v<;>first | exact au e | exact congrArg _ (J9 e)
theorem kE {v:V}{l:Nat}(e:v.loc?=Vl l):v=.loc l:=by cases v<;>first | exact au e | exact congrArg _ (J9 e)
theorem E3 {v:V}{l:Nat}(e:v.nxt?=Vl l):v=.nxt l:=by cases v<;>first | exact au e | exact congrArg _ (J9 e)
theorem BQ {v:V}{l:Nat}(e:v.vals?=Vl l):v=.vals l:=by cases v<;>first | exact au e | exact congrArg _ (J9 e)
variable {v:Value}{d:D}{P:Value->Prop}
theorem RD.onInt {i:Int}(r:RD w imm v d) (e:d.int?=Vl i) (k:∀t,P (.int i t)):P v:=by obtain ⟨t,rfl⟩:=(hY e▸r).view;exact k t
theorem RD.onStr {i:Str}(r:RD w imm v d) (e:d.str?=Vl i) (k:∀t,i.cps.size<=16777216->P (.str i t)):P v:=by obtain ⟨t,rfl,z⟩:=(gU e▸r).view;exact k t z
theorem RD.onBytes {i:Array UInt8}(r:RD w imm v d) (e:d.bytes?=Vl i) (k:∀t,i.size<=16777216->P (.bytes i t)):P v:=by obtain ⟨t,rfl,z⟩:=(fF e▸r).view;exact k t z
theorem RD.onBool {i:Bool}(r:RD w imm v d) (e:d.bool?=Vl i) (k:P (.bool i)):P v:=(show v=.bool i from (iN e▸r).view)▸k
theorem RD.onNone {u:Unit}(r:RD w imm v d) (e:d.none?=Vl u) (k:P .none):P v:=(show v=.none from (pq e▸r).view)▸k
theorem RD.onTup {l:List D}(r:RD w imm v d) (e:d.tup?=Vl l) (k:∀{a us n},(a,dU us n)∈imm->us.length<=16777216->RDs w imm us l->P (.ref a)):P v:=by obtain ⟨_,_,_,rfl,m,z,r⟩:=(gS e▸r).view;exact k m z r
theorem RD.onLst {l:List D}(r:RD w imm v d) (e:d.lst?=Vl l) (k:∀{a us n},(a,lstO us n)∈imm->us.length<=16777216->RDs w imm us l->P (.ref a)):P v:=by obtain ⟨_,_,_,rfl,m,z,r⟩:=(hO e▸r).view;exact k m z r
theorem RD.onDct {l:List (Int×D)}(r:RD w imm v d) (e:d.dct?=Vl l) (k:∀{a o kvs},(a,o)∈imm->o.IsDictOf (K8 PR w) kvs->(a==ME)=Vo->RKs w imm kvs l->P (.ref a)):P v:=by obtain ⟨_,_,_,rfl,m,h,s,r⟩:=(FT e▸r).view;exact k m h s r
theorem RD.onRng {p:Int×Int}(r:RD w imm v d) (e:d.rng?=Vl p) (k:∀{a t u x},(a,EN p.1 p.2 t u x)∈imm->P (.ref a)):P v:=by obtain ⟨_,_,_,_,rfl,m⟩:=(EM e▸r).view;exact k m
theorem RD.onBi {b:Bi}(r:RD w imm v d) (e:d.bi?=Vl b) (k:P b.val):P v:=(show v=b.val from (kh e▸r).view)▸k
theorem RD.onGbl {a:Addr}(r:RD w imm v d) (e:d.gbl?=Vl a) (k:P (.ref a)):P v:=(show v=.ref a from (mG e▸r).view)▸k
end
noncomputable def RV (w:Ld) (ρ:List Addr) (c:Imm) (v:Value) (u:V):Prop:=V.casesOn u (λd=>RD w c v d) (λl=>∃a,v=.ref a/\ρ[l]?=Vl a) (λl=>∃a b,v=.ref a/\(a,sZ b)∈c/\ρ[l]?=Vl b) (λl=>∃a b,v=.ref a/\(a,Ir b)∈c/\ρ[l]?=Vl b) λl d=>∃a b u n,v=.ref a/\(a,dU [.ref b,u] n)∈c/\ρ[l]?=Vl b/\RD w c u d
theorem RV.mono {w:Ld}{ρ i:List Addr}{e c:Imm}(g:∀(l:Nat) (a:Addr),ρ[l]?=Vl a->i[l]?=Vl a) (f:∀p∈e,p∈c){v:Value}{u:V}(h:RV w ρ e v u):RV w i c v u:=by
 cases u with
 | d=>exact RD.mono f h
 | loc=>exact h.imp λa h=>h.imp id (g _ _)
 | nxt=>exact h.imp λa h=>h.imp λb h=>⟨h.1,f _ h.2.1,g _ _ h.2.2⟩
 | vals=>exact h.imp λa h=>h.imp λb h=>⟨h.1,f _ h.2.1,g _ _ h.2.2⟩
 | pair=>exact h.imp λa h=>h.imp λb h=>h.imp λx h=>h.imp λn h=>⟨h.1,f _ h.2.1,g _ _ h.2.2.1,h.2.2.2.mono f⟩
inductive RK {α:Type}(R:Value->α->Prop):List (Int×Value)->List (Int×α)->Prop
 | nil:RK R [] []
 | cons {k:Int}{v:Value}{d:α}{r:List (Int×Value)}{q:List (Int×α)}:R v d->RK R r q->RK R ((k,v)::r) ((k,d)::q)
theorem RK.ind {α:Type}{R:Value->α->Prop}{M:List (Int×Value)->List (Int×α)->Prop}(h0:M [] []) (a:∀{k v d vs ds},R v d->RK R vs ds->M vs ds->M ((k,v)::vs) ((k,d)::ds)){vs:List (Int×Value)}{ds:List (Int×α)}(h:RK R vs ds):M vs ds:=RK.rec (motive:=λv d _=>M v d) h0 (λh r m=>a h r m) h
theorem RK.imp {α:Type}{R c:Value->α->Prop}(f:∀v d,R v d->c v d){a:List (Int×Value)}{b:List (Int×α)}(h:RK R a b):RK c a b:=h.ind .nil λh _ r=>.cons (f _ _ h) r
theorem RKs.rk {w:Ld}{c:Imm}{a:List (Int×Value)}{b:List (Int×D)}(h:RKs w c a b):RK (RD w c) a b:=h.ind .nil λh _ r=>.cons h r
theorem RK.rks {w:Ld}{c:Imm}{a:List (Int×Value)}{b:List (Int×D)}(h:RK (RD w c) a b):RKs w c a b:=h.ind .nil λh _ r=>.cons h r
abbrev uh (ρ:List Addr):List (Int×Value)->List (Int×Nat)->Prop:=RK λv l=>∃a,v=.ref a/\ρ[l]?=Vl a
noncomputable def Bt (w:Ld) (ρ:List Addr) (b:Imm) (es:List Oi) (a:List (Str×V)):Prop:=es.any (·.refKey)=Vo/\∀m,match get m a with
  | some v=>∃val,UF m es=Vl (Vl val)/\Qz val=Vn/\RV w ρ b val v
  | none=>UF m es=Vl Vm
noncomputable def xA (w:Ld) (ρ:List Addr) (a:Imm) (b:Array (Option Value)) (i:Nat) (o:Option V):Prop:=∀v,o=Vl v->∃val,(b[i]?).join=Vl val/\Qz val=Vn/\RV w ρ a val v
noncomputable def me (ρ:List Addr) (c:Imm) (vs:List Value) (ls:List Nat):Prop:=vs.length=ls.length/\∀(i:Nat) (v:Value),vs[i]?=Vl v->∃l a b,ls[i]?=Vl l/\v=.ref a/\(a,sZ b)∈c/\ρ[l]?=Vl b
noncomputable def xf (c:D):Value:=D.casesOn c .none (λ_=>.none) (λ_=>.none) (λ_=>.none) (λ_=>.none) (λ_=>.none) (λ_=>.none) (λ_=>.none) (λ_ _=>.none) (λb=>b.val) λa=>.ref a
noncomputable def jE (d:Addr):Obj:=⟨.ref bJ,Vl d,.plain,#[]⟩
noncomputable def I0 (d:Addr):Obj:=⟨.ref bL,Vl d,.plain,#[]⟩
noncomputable def qB (d:Addr) (a:Array (Option Value)):Obj:=⟨.ref eu,Vl d,.plain,a⟩
noncomputable abbrev JD:Addr:=243
noncomputable abbrev tabP:Addr:=239
noncomputable abbrev readPos:Pos:=⟨192,4,195,20⟩
noncomputable abbrev readQual:Str:=Mt "_law_stream.<locals>._law_read"
noncomputable def aX:Stmt:=((gK (bN 37))[1]?).getD (.Pass ⟨0,0,0,0⟩)
inductive FnIs (imm:Imm) (f:Addr) (b:Array UInt8) (al:Addr):Prop
 | mk {c' co ca:Addr}{clos:List (Str×Addr)}{doc pm ctv:Value}{oc o1 o2:Obj}{vs:Array Value}{tq tb:PP}:b.size<=16777216->
  (f,Sv (Mt "_law_read") readQual (fZ aX) (gK aX) (bO aX) clos doc pm c' ctv)∈imm->(c',oc)∈imm->oc.data=.fields vs->vs[1]?=Vl (.str readQual tq)->
  clos.lookup (Mt "octets")=Vl co->clos.lookup (Mt "at")=Vl ca->(co,o1)∈imm->o1.data=.cell (Vl (.bytes b tb))->(ca,o2)∈imm->o2.data=.cell (Vl (.ref al))->co≠ca->FnIs imm f b al
inductive TapeIs (imm:Imm) (a:Addr) (b:Array UInt8) (al:Addr):Prop
 | mk {d f:Addr}{es:List Oi}{n:Nat}:(a,I0 d)∈imm->(d,NN es n)∈imm->UF (Mt "read") es=Vl (Vl (.ref f))->FnIs imm f b al->TapeIs imm a b al
theorem FnIs.mono {c a:Imm}{f al:Addr}{b:Array UInt8}(d:∀p∈c,p∈a) (h:FnIs c f b al):FnIs a f b al:=h.rec λz k r m j l g q i e n o=>.mk z (d _ k) (d _ r) m j l g (d _ q) i (d _ e) n o
theorem TapeIs.mono {d c:Imm}{a al:Addr}{b:Array UInt8}(e:∀p∈d,p∈c) (h:TapeIs d a b al):TapeIs c a b al:=h.rec λj g f i=>.mk (e _ j) (e _ g) f (i.mono e)
noncomputable def eY (w:Ld) (ρ:List Addr) (c:Imm) (a:Addr) (o:SObj) (ft:List (Addr×Obj)):Prop:=SObj.casesOn o (a=tabP/\∃ps,ft=[(tabP,Pp ps)]/\(ps=#[]\/∃j oc vs s,ps=#[Lq readPos.line,Lq readPos.col,.ref j]/\(j,oc)∈c/\oc.data=.fields vs/\vs[1]?=Vl (.str readQual s))) (λds=>∃vs n,ft=[(a,lstO vs n)]/\vs.length<=16777216/\RDs w c vs ds) (λls=>∃vs n,ft=[(a,lstO vs n)]/\vs.length<=16777216/\me ρ c vs ls) (λds=>∃o kvs,ft=[(a,o)]/\o.IsDictOf (K8 PR w) kvs/\RKs w c kvs ds) (λls=>∃o kvs,ft=[(a,o)]/\o.IsDictOf (K8 PR w) kvs/\uh ρ kvs ls) (λls=>ft=[]/\∃o kvs,(a,o)∈c/\o.IsDictOf (K8 PR w) kvs/\(a==ME)=Vo/\uh ρ kvs ls) (λg=>∃o,ft=[(a,o)]/\o.SetObjOf (K8 PR w) (λk=>g.contains k) g.length/\g.length<=1001) (λe=>∃d es n,ft=[(a,jE d),(d,NN es n)]/\Bt w ρ c es e/\es.length<=e.length) (λp q r=>∃d f,ft=[(a,qB d f)]/\(d,emptyDict)∈c/\f.size<=3/\xA w ρ c f 2 p/\xA w ρ c f 1 q/\xA w ρ c f 0 r) (λl i=>∃b,ft=[(a,zy b i)]/\ρ[l]?=Vl b) (λk args=>∃o vs t h n,ft=[(a,o)]/\o.cls=xf k/\o.data=.fields vs/\vs[0]?=Vl (.ref t)/\(t,dU h n)∈c/\h.length<=16777216/\RDs w c h args) (λb l=>ft=[]/\∃m,ρ[l]?=Vl m/\TapeIs c a b m) (ft=[]\/∃o,ft=[(a,o)]) (λe=>∃d es n,ft=[(a,I0 d),(d,NN es n)]/\Bt w ρ c es e/\es.length<=e.length)
structure X where
 ρ:List Addr
 imm:Imm
 led:List (List (Addr×Obj))
 S:Kh
noncomputable abbrev X.h (x:X):Heap:=x.S.heap
noncomputable def X.la (x:X):List Addr:=x.led.flatten.map (·.1)
structure Cn where
 w:Ld
 hb:Heap
 imm0:Imm
 fs:List Env
noncomputable def mi:Heap:=⟨#[],{}⟩
noncomputable def Cn.fa (c:Cn):List Addr:=c.fs.filterMap (·.frame)
structure HI (c:Cn) (st:List SObj) (x:X):Prop where
 base:c.hb.StaysIn x.h
 immIn:∀p∈x.imm,x.h.get? p.1=Vl p.2
 ledIn:∀p∈x.led.flatten,x.h.get? p.1=Vl p.2
 nd:x.la.Nodup
 ledB:∀a∈x.la,c.hb.get? a=Vm
 dis:∀p∈x.imm,p.1∉x.la
 len:x.led.length=st.length/\x.ρ.length=st.length
 foot:∀(l:Nat) (o:SObj),st[l]?=Vl o->∃a ft,x.ρ[l]?=Vl a/\x.led[l]?=Vl ft/\eY c.w x.ρ x.imm a o ft
 frs:x.h.FunFrames mi c.fs
 fsI:∀a∈c.fa,(∀p∈x.imm,p.1≠a)/\a∉x.la/\c.hb.get? a=Vm
 imm0:∀p∈c.imm0,p∈x.imm
structure Adv (c:Cn) (own:List Addr) (x y:X):Prop where
 keep:∀b o,x.h.get? b=Vl o->b∉own->b∉x.la->y.h.get? b=Vl o\/(b∈c.fa/\∃sl,y.h.get? b=Vl {o with slots:=sl})
 alive:∀b o,x.h.get? b=Vl o->∃o',y.h.get? b=Vl o'
 imm:∀p∈x.imm,p∈y.imm
 immN:∀p∈y.imm,p∈x.imm\/x.h.get? p.1=Vm\/p.1∈x.la
 ledN:∀a∈y.la,a∈x.la\/x.h.get? a=Vm
 rho:∀(l:Nat) (a:Addr),x.ρ[l]?=Vl a->y.ρ[l]?=Vl a
 rest:∃h tk d,y.S={x.S with heap:=h,toks:=tk,drawn:=d}
noncomputable def cC:Option LJ->Bool
 | some .cell=>Vn
 | some .free=>Vn
 | _=>Vo
structure EI (c:Cn) (cx:Cx) (env:Env) (own:List Addr) (fr:List (Str×V)) (x:X):Prop where
 kind:env.scope.kind=.function
 glb:env.globals=LH
 blt:env.builtins=M5
 names:∀n,(cx.names.lookup n=Vl .local->env.kindOf n=Vl .local)/\(cC (cx.names.lookup n)=Vn->cC (env.kindOf n)=Vn)/\(cx.names.lookup n=Vl .globalImplicit->env.kindOf n=Vl .globalImplicit)/\(cx.names.lookup n=Vl .cell->env.kindOf n=Vl .cell)
 ns:∃m,x.h.Ns env.locals m/\∀n v,get n fr=Vl v->cx.names.lookup n=Vl .local->∃val,m n=Vl val/\RV c.w x.ρ x.imm val v
 cells:∀n,cC (cx.names.lookup n)=Vn->∃a o val,env.cells.lookup n=Vl a/\x.h.get? a=Vl o/\o.data=.cell val/\∀v,get n fr=Vl v->∃u,val=Vl u/\RV c.w x.ρ x.imm u v
 loc:env.locals∈own
 ownI:∀a∈own,a∉x.la/\(∀p∈x.imm,p.1≠a)/\c.hb.get? a=Vm/\∃o,x.h.get? a=Vl o
 cellI:∀n n' a,cC (cx.names.lookup n)=Vn->cC (cx.names.lookup n')=Vn->env.cells.lookup n=Vl a->env.cells.lookup n'=Vl a->n=n'
 cellO:∀n a,cx.names.lookup n=Vl .cell->env.cells.lookup n=Vl a->a∈own
 cellL:∀n a,cC (cx.names.lookup n)=Vn->env.cells.lookup n=Vl a->a∉x.la/\a≠env.locals
section
variable {c:Cn}{own own':List Addr}{x y z:X}
theorem Adv.refl (c:Cn) (own:List Addr) (x:X):Adv c own x x:=⟨λ_ _ e _ _=>.inl e,λ_ o e=>⟨o,e⟩,λ_ h=>h,λ_ h=>.inl h,λ_ h=>.inl h,λ_ _ e=>e,y3 x.S.heap x.S.toks x.S.drawn rfl⟩
theorem Adv.dead (p:Adv c own x y){a:Addr}(h:y.h.get? a=Vm):x.h.get? a=none:=by
 cases e:x.h.get? a with
 | none=>rfl
 | some o=>exact (p.alive a o e).elim λd b=>au (h.symm.trans b)
theorem Adv.off (p:Adv c own x y){b:Addr}{o:Obj}(e:x.h.get? b=Vl o) (n:b∉x.la):b∉y.la:=λm=>(p.ledN b m).elim n λm=>au (m.symm.trans e)
theorem Adv.trans (p:Adv c own x y) (q:Adv c own y z):Adv c own x z where
 keep:=λb o e i g=>(p.keep b o e i g).elim (λf=>q.keep b o f i (p.off e g)) λ⟨m,r,f⟩=>(q.keep b _ f i (p.off e g)).elim (λj=>.inr ⟨m,r,j⟩) λ⟨_,k,j⟩=>.inr ⟨m,k,j⟩
 alive:=λb o e=>(p.alive b o e).elim λv d=>q.alive b v d
 imm:=λa h=>q.imm a (p.imm a h)
 immN:=λa h=>(q.immN a h).elim (p.immN a) λh=>h.elim (λh=>.inr (.inl (p.dead h))) λh=>(p.ledN _ h).elim (λh=>.inr (.inr h)) λh=>.inr (.inl h)
 ledN:=λa h=>(q.ledN a h).elim (p.ledN a) λh=>.inr (p.dead h)
 rho:=λl a e=>q.rho l a (p.rho l a e)
 rest:=p.rest.elim λh e=>e.elim λt e=>e.elim λ_ e=>q.rest.elim λn d=>d.elim λu d=>d.elim λs d=>y3 n u s (by rw[d,e])
theorem Adv.weak (p:Adv c own x y) (hs:∀a∈own,a∈own'):Adv c own' x y:=⟨λb o e d f=>p.keep b o e (λm=>d (hs b m)) f,p.alive,p.imm,p.immN,p.ledN,p.rho,p.rest⟩
theorem RV.up {v:Value}{u:V}(r:RV c.w x.ρ x.imm v u) (p:Adv c own x y):RV c.w y.ρ y.imm v u:=r.mono p.rho p.imm
theorem RD.up {v:Value}{u:D}(r:RD c.w x.imm v u) (p:Adv c own x y):RD c.w y.imm v u:=r.mono p.imm
end
structure Z where
 c:Cn
 env:Env
 own:List Addr
 A:Lc
structure At (cx:Cx) (z:Z) (s:St) (x:X):Prop where
 H:HI z.c s.st x
 F:EI z.c cx z.env z.own s.fr x
structure Nx (cx:Cx) (z:Z) (x:X) (s:St) (y:X) (r:Prop):Prop where
 at_:At cx z s y
 adv:Adv z.c z.own x y
 r:r
structure Fresh (x₀ x:X) (b:Addr):Prop where
 la:b∉x.la
 imm:∀p∈x.imm,p.1≠b
 new:x₀.h.get? b=Vm
theorem Fresh.lift {c:Cn}{own:List Addr}{x y z:X}{b:Addr}(h:Fresh y z b) (p:Adv c own x y):Fresh x z b:=⟨h.la,h.imm,p.dead h.new⟩
structure EO (c:Cn) (x:X) (ea:Addr) (k:D) (args:List D) (oe:Obj) (vs:Array Value) (t:Addr) (ws:List Value) (n:Nat):Prop where
 get:x.h.get? ea=Vl oe
 cls:oe.cls=xf k
 data:oe.data=.fields vs
 arg:vs[0]?=Vl (.ref t)
 tup:(t,dU ws n)∈x.imm
 le:ws.length<=16777216
 rs:RDs c.w x.imm ws args
structure TB (x₀ x:X) (ea T:Addr) (oT:Obj) (ts:Array Value) (v:Option Value):Prop where
 at_:v=Vl (.ref T)
 ne:T≠ea
 get:x.h.get? T=Vl oT
 data:oT.data=.fields ts
 size:3<ts.size
 off:Fresh x₀ x T
def dX (e:Bool) (c:Cn) (x₀ x:X) (a:Addr) (k:D) (args:List D):Prop:=Fresh x₀ x a/\∃d vs t b n,EO c x a k args d vs t b n/\((e=Vo/\vs[1]?=Vl .none)\/∃T oT ts,TB x₀ x a T oT ts vs[1]?)
theorem TB.lift {c:Cn}{own:List Addr}{x y z:X}{a T:Addr}{oT:Obj}{ts:Array Value}{v:Option Value}(h:TB y z a T oT ts v) (p:Adv c own x y):TB x z a T oT ts v:=⟨h.at_,h.ne,h.get,h.data,h.size,h.off.lift p⟩
theorem dX.lift {b:Bool}{c:Cn}{own:List Addr}{x y z:X}{a:Addr}{k:D}{args:List D}(h:dX b c y z a k args) (p:Adv c own x y):dX b c x z a k args:=⟨h.1.lift p,h.2.imp λ_ h=>h.imp λ_ h=>h.imp λ_ h=>h.imp λ_ h=>h.imp λ_ h=>⟨h.1,h.2.imp id λh=>h.imp λ_ h=>h.imp λ_ h=>h.imp λ_ h=>h.lift p⟩⟩
section
variable {cx:Cx}{z:Z}{s:St}{x x₀ y:X}{α β γ δ:Type}{Q:β->Kh->Prop}{Q':δ->Kh->Prop}{E E':Value->Kh->Prop}
abbrev eZ (β:Type):=(β->Kh->Prop)->(Value->Kh->Prop)->Kh->Prop
def eL (cx:Cx) (z:Z) (RB:X->β->α->Prop) (x:X) (res:Res α) (Q:β->Kh->Prop) (E:Value->Kh->Prop):Prop:=Res.casesOn res (λa s=>∀b y,Nx cx z x s y (RB y b a)->Q b y.S) (λk as s=>∀d y,Nx cx z x s y (dX Vo z.c x y d k as)->E (.ref d) y.S) False
def aN (cx:Cx) (z:Z) (RB:X->β->α->Prop) (x:X) (res:Res α) (P:eZ β):Prop:=∀Q E,eL cx z RB x res Q E->P Q E x.S
abbrev tr (z:Z) (t:OW β):eZ β:=λQ E s=>Km (Kn PR z.c.w) z.A t Q E s
theorem At.go (a:At cx z s x){r:Prop}(h:r):Nx cx z x s x r:=⟨a,.refl _ _ _,h⟩
theorem Nx.trans {a:St}{r r':Prop}(m:Adv z.c z.own x y){w:X}(n:Nx cx z y a w r) (h:r->r'):Nx cx z x a w r':=⟨n.at_,m.trans n.adv,h n.r⟩
theorem eL.adv {RB:X->β->α->Prop}{res:Res α}(p:Adv z.c z.own x y) (h:eL cx z RB x res Q E):eL cx z RB y res Q E:=by
 cases res with
 | bad=>exact h
 | ok a s=>exact λb w n=>h b w (.trans p n id)
 | exn k e s=>exact λd w n=>h d w (.trans p n λq=>q.lift p)
theorem eL.bind {g:X->δ->γ->Prop}{RB:X->β->α->Prop}{res:Res γ}{f:γ->St->Res α}(p:Adv z.c z.own x₀ x) (h:eL cx z RB x₀ (res.bind f) Q E) (q:∀a (s:St) b y,Nx cx z x s y (g y b a)->eL cx z RB x₀ (f a s) Q E->Q' b y.S) (e:∀k as (s:St) d y,Nx cx z x s y (dX Vo z.c x y d k as)->(∀w,Nx cx z x s w (dX Vo z.c x w d k as)->E (.ref d) w.S)->E' (.ref d) y.S):eL cx z g x res Q' E':=by
 cases res with
 | bad=>exact h
 | ok a s=>exact λb y n=>q a s b y n h
 | exn k as s=>exact λd y n=>e k as s d y n λw m=>h d w (.trans p m λq=>q.lift p)
theorem aN.bind {RB:X->β->α->Prop}{RC:X->δ->γ->Prop}{res:Res α}{f:α->St->Res γ}{P:eZ β}{K:β->eZ δ}(r:aN cx z RB x res P) (h:∀a s b y,Nx cx z x s y (RB y b a)->aN cx z RC y (f a s) (K b)):aN cx z RC x (res.bind f) (λQ E s=>P (λb c=>K b Q E c) E s):=λQ E q=>
 r _ E (q.bind (.refl _ _ _) (λa s b y n e=>h a s b y n Q E (e.adv n.adv)) λ_ _ _ _ y n d=>d y n)
theorem aN.of {RB:X->β->α->Prop}{res:Res α}{P P':eZ β}(r:aN cx z RB x res P) (h:∀Q E,P Q E x.S->P' Q E x.S):aN cx z RB x res P':=λQ E q=>h Q E (r Q E q)
theorem aN.pure {RB:X->β->α->Prop}{a:α}{b:β}{P:eZ β}(c:At cx z s x) (r:RB x b a) (h:∀Q E,Q b x.S->P Q E x.S):aN cx z RB x (.ok a s) P:=λQ E q=>h Q E (q b x (c.go r))
theorem aN.bad {RB:X->β->α->Prop}{P:eZ β}:aN cx z RB x .bad P:=λ_ _ q=>q.elim
theorem aN.opt {RB:X->β->α->Prop}{o:Option α}{P:eZ β}(h:∀a,o=Vl a->aN cx z RB x (.ok a s) P):aN cx z RB x (cP o s) P:=by
 cases o with
 | none=>exact .bad
 | some a=>exact h a rfl
theorem aN.ite {RB:X->β->α->Prop}{p:Prop} [i:Decidable p] {res:Res α}{P:eZ β}(h:p->aN cx z RB x res P):aN cx z RB x (if p then res else .bad) P:=by
 cases i with
 | isTrue q=>exact h q
 | isFalse=>exact .bad
abbrev aZ (z:Z) (y:X) (b:Value) (v:V):Prop:=RV z.c.w y.ρ y.imm b v
abbrev Gm (z:Z) (y:X) (b:Value) (d:D):Prop:=RD z.c.w y.imm b d
abbrev HV (_:X) (b:Bool) (d:Bool):Prop:=b=d
abbrev RU (_:X) (_:Unit) (_:Unit):Prop:=True
end
noncomputable def X.gr (x:X) (h:Heap) (tk:Nat) (ex:Imm):X:={ρ:=x.ρ,imm:=ex++x.imm,led:=x.led,S:={x.S with heap:=h,toks:=tk}}
section
variable {c:Cn}{cx:Cx}{z:Z}{own:List Addr}{st:List SObj}{s s0:St}{x x₀ y:X}{r r':Prop}{w:Ld}{ρ ρ':List Addr}{imm imm':Imm}
theorem Bt.mono (c:∀(l:Nat) (a:Addr),ρ[l]?=Vl a->ρ'[l]?=Vl a) (b:∀p∈imm,p∈imm'){es:List Oi}{at_:List (Str×V)}(h:Bt w ρ imm es at_):Bt w ρ' imm' es at_:=⟨h.1,λm=>by
 have:=h.2 m
 revert this
 cases get m at_ with
 | none=>exact id
 | some v=>exact λq=>q.imp λ_ q=>w3 q.1 q.2.1 (q.2.2.mono c b)⟩
theorem xA.mono (d:∀(l:Nat) (a:Addr),ρ[l]?=Vl a->ρ'[l]?=Vl a) (c:∀p∈imm,p∈imm'){b:Array (Option Value)}{i:Nat}{o:Option V}(h:xA w ρ imm b i o):xA w ρ' imm' b i o:=λv e=>(h v e).imp λ_ q=>w3 q.1 q.2.1 (q.2.2.mono d c)
theorem uh.mono (b:∀(l:Nat) (a:Addr),ρ[l]?=Vl a->ρ'[l]?=Vl a){kvs:List (Int×Value)}{ls:List (Int×Nat)}(h:uh ρ kvs ls):uh ρ' kvs ls:=RK.imp (λ_ _ h=>h.imp λ_ h=>⟨h.1,b _ _ h.2⟩) h
theorem me.mono (c:∀(l:Nat) (a:Addr),ρ[l]?=Vl a->ρ'[l]?=Vl a) (b:∀p∈imm,p∈imm'){vs:List Value}{ls:List Nat}(h:me ρ imm vs ls):me ρ' imm' vs ls:=⟨h.1,λi v e=>(h.2 i v e).imp λ_ q=>q.imp λ_ q=>q.imp λ_ q=>w4 q.1 q.2.1 (b _ q.2.2.1) (c _ _ q.2.2.2)⟩
theorem eY.mono (c:∀(l:Nat) (a:Addr),ρ[l]?=Vl a->ρ'[l]?=Vl a) (b:∀p∈imm,p∈imm'){a:Addr}{o:SObj}{ft:List (Addr×Obj)}(h:eY w ρ imm a o ft):eY w ρ' imm' a o ft:=by
 cases o with
 | ctab=>exact ⟨h.1,h.2.imp λ_ h=>⟨h.1,h.2.imp id λh=>h.imp λ_ h=>h.imp λ_ h=>h.imp λ_ h=>h.imp λ_ h=>w3 h.1 (b _ h.2.1) h.2.2⟩⟩
 | list=>exact h.imp λ_ h=>h.imp λ_ h=>w3 h.1 h.2.1 (h.2.2.mono b)
 | nexts=>exact h.imp λ_ h=>h.imp λ_ h=>w3 h.1 h.2.1 (h.2.2.mono c b)
 | dict=>exact h.imp λ_ h=>h.imp λ_ h=>w3 h.1 h.2.1 (h.2.2.mono b)
 | objs=>exact h.imp λ_ h=>h.imp λ_ h=>w3 h.1 h.2.1 (uh.mono c h.2.2)
 | fobjs=>exact ⟨h.1,h.2.imp λ_ h=>h.imp λ_ h=>w4 (b _ h.1) h.2.1 h.2.2.1 (uh.mono c h.2.2.2)⟩
 | set=>exact h
 | inst=>exact h.imp λ_ h=>h.imp λ_ h=>h.imp λ_ h=>w3 h.1 (h.2.1.mono c b) h.2.2
 | node=>exact h.imp λ_ h=>h.imp λ_ h=>w6 h.1 (b _ h.2.1) h.2.2.1 (h.2.2.2.1.mono c b) (h.2.2.2.2.1.mono c b) (h.2.2.2.2.2.mono c b)
 | iter=>exact h.imp λ_ h=>⟨h.1,c _ _ h.2⟩
 | exc=>exact h.imp λ_ h=>h.imp λ_ h=>h.imp λ_ h=>h.imp λ_ h=>h.imp λ_ h=>w7 h.1 h.2.1 h.2.2.1 h.2.2.2.1 (b _ h.2.2.2.2.1) h.2.2.2.2.2.1 (h.2.2.2.2.2.2.mono b)
 | tape=>exact ⟨h.1,h.2.imp λ_ h=>⟨c _ _ h.1,h.2.mono b⟩⟩
 | gone=>exact h
 | einst=>exact h.imp λ_ h=>h.imp λ_ h=>h.imp λ_ h=>w3 h.1 (h.2.1.mono c b) h.2.2
theorem tj {h h':Heap}:∀{l:List Env},(∀a∈l.filterMap (·.frame),∀o,h.get? a=Vl o->∃b,h'.get? a=Vl b/\(b.data=o.data\/∀vs,b.data≠.fields vs))->h.FunFrames mi l->h'.FunFrames mi l:=@lr _ _ (@λ_ _=>trivial) (λk g p=>(@λi q=>by
  obtain ⟨m,⟨L,o,c,f,n,j⟩,s⟩:=q;obtain ⟨b,e,d⟩:=i L (by rw[KX,c];exact .head _) o n;exact w3 m (y2 L b (w4 c f e (d.elim (λd vs=>d▸j vs) id))) (p (λa r=>i a (by rw[KX,c];exact .tail _ r)) s)))
theorem HI.laIn (H:HI c st x){a:Addr}(h:a∈x.la):∃o,x.h.get? a=Vl o:=(Kr.mp h).elim λp h=>⟨p.2,h.2▸H.ledIn p h.1⟩
theorem Nx.heap (E:At cx z s0 x₀) (n:Nx cx z x₀ s y r){h':Heap}{tk:Nat}{ex:Imm}{W:Addr->Prop}(k:∀b o,y.h.get? b=Vl o->W b\/h'.get? b=Vl o\/(b∈z.c.fa/\∃A,h'.get? b=Vl {o with slots:=A})) (w:∀b,W b->Fresh x₀ y b) (e:∀p∈ex,h'.get? p.1=Vl p.2/\y.h.get? p.1=Vm) (hr:r'):Nx cx z x₀ s (y.gr h' tk ex) r':=by
 refine aC λM d=>?_;obtain ⟨⟨H,F⟩,p,-⟩:=n;refine d ?_;have hb:∀b o,z.c.hb.get? b=Vl o->¬W b:=λb o q m=>au ((w b m).new.symm.trans (E.H.base b o q));have i:∀b o,x₀.h.get? b=Vl o->¬W b:=λb o q m=>au ((w b m).new.symm.trans q);have fa:∀{b:Addr},b∈z.c.fa->∃o,x₀.h.get? b=Vl o:=λm=>(E.H.frs.mem m).2.imp λ_ h=>h.1;have I:∀{b:Addr},y.h.get? b=Vm->b∉y.la:=λq m=>(H.laIn m).elim λo e=>au (q.symm.trans e);have t:∀b o,y.h.get? b=Vl o->¬W b->b∉z.c.fa->h'.get? b=Vl o:=λb o q P O=>(k b o q).elim (absurd · P) λq=>q.elim id λq=>absurd q.1 O;have sub:∀p∈y.imm,p∈(y.gr h' tk ex).imm:=λ_ h=>Li _ h;refine ⟨⟨⟨λb o q=>t b o (H.base b o q) (hb b o q) λm=>au ((H.fsI b m).2.2.symm.trans q),λq f=>?_,λq f=>t _ _ (H.ledIn q f) (λm=>(w _ m).la (KR f)) λm=>(H.fsI _ m).2.1 (KR f),H.nd,H.ledB,λq f=>?_,H.len,λl o q=>(H.foot l o q).imp λ_ q=>q.imp λ_ q=>w3 q.1 q.2.1 (q.2.2.mono (λ_ _ e=>e) sub),tj (λa m o q=>?_) H.frs,λa m=>⟨λq f=>?_,(H.fsI a m).2⟩,λq f=>sub q (H.imm0 q f)⟩,⟨F.kind,F.glb,F.blt,F.names,?_,λn R=>?_,F.loc,λa U=>?_,F.cellI,F.cellO,F.cellL⟩⟩,⟨λb o q P O=>?_,λb o q=>?_,λq f=>sub q (p.imm q f),λq f=>?_,p.ledN,p.rho,?_⟩,hr⟩
 ·exact (Ku.mp f).elim (λm=>(e q m).1) λm=>t _ _ (H.immIn q m) (λx=>(w _ x).imm q m rfl) λx=>(H.fsI _ x).1 q m rfl
 ·exact (Ku.mp f).elim (λm=>I (e q m).2) λm=>H.dis q m
 ·exact (k a o q).elim (λx=>(fa m).elim λo q=>absurd x (i a o q)) λq=>q.elim (λq=>⟨o,q,.inl rfl⟩) λq=>q.2.elim λA q=>⟨_,q,.inl rfl⟩
 ·refine (Ku.mp f).elim (λx G=>?_) λx=>(H.fsI a m).1 q x;refine aC λM d=>?_;obtain ⟨o,q'⟩:=(H.frs.mem m).2;refine d ?_;exact au ((e q x).2.symm.trans (G▸q'.1))
 ·refine aC λM d=>?_;obtain ⟨m,⟨o,Q,T,j,C,K⟩,b⟩:=F.ns;obtain ⟨J,N⟩:=(E.F.ownI _ E.F.loc).2.2.2;refine d ?_;refine ⟨m,(k _ o j).elim (λq=>absurd q (i _ J N)) λq=>q.elim (λq=>y3 o Q T (w3 q C K)) λq=>q.2.elim λA q=>y3 _ Q T (w3 q C K),λn v g l=>(b n v g l).imp λ_ q=>⟨q.1,q.2.mono (λ_ _ e=>e) sub⟩⟩
 ·refine aC λM d=>?_;obtain ⟨a,o,val,j,C,K,e4⟩:=F.cells n R;obtain ⟨a',J,_,f1,f2,_⟩:=E.F.cells n R;refine d ?_;obtain rfl:a=a':=J9 (j.symm.trans f1);have L:∀v,get n s.fr=Vl v->∃u,val=Vl u/\RV z.c.w y.ρ (y.gr h' tk ex).imm u v:=λv g=>(e4 v g).imp λ_ q=>⟨q.1,q.2.mono (λ_ _ e=>e) sub⟩
  exact (k _ o C).elim (λq=>absurd q (i _ J f2)) λq=>q.elim (λq=>y3 a o val (w4 j q K L)) λq=>q.2.elim λA q=>y3 a _ val (w4 j q K L)
 ·refine aC λM d=>?_;obtain ⟨h1,Y,h3,o,j⟩:=F.ownI a U;obtain ⟨_,_,_,J,N⟩:=E.F.ownI a U;refine d ?_;refine w4 h1 (λq f=>(Ku.mp f).elim (λm G=>au ((e q m).2.symm.trans (G▸j))) λm=>Y q m) h3 ((k _ o j).elim (λq=>absurd q (i _ J N)) λq=>q.elim (λq=>⟨o,q⟩) λq=>q.2.elim λA q=>⟨_,q⟩)
 ·refine (p.keep b o q P O).elim (λj=>(k _ _ j).elim (λm=>absurd m (i b o q)) id) λj=>j.2.elim λA C=>(k _ _ C).elim (λm=>absurd m (i b o q)) λq=>q.elim (λq=>.inr ⟨j.1,A,q⟩) λq=>.inr ⟨j.1,q.2⟩
 ·exact (p.alive b o q).elim λo' G=>(k _ _ G).elim (λm=>absurd m (i b o q)) λq=>q.elim (λq=>⟨_,q⟩) λq=>q.2.elim λ_ q=>⟨_,q⟩
 ·exact (Ku.mp f).elim (λm=>.inr (.inl (p.dead (e q m).2))) λm=>p.immN q m
 ·exact p.rest.elim λh0 q=>q.elim λt0 q=>q.elim λd0 q=>y3 h' tk d0 (by show {y.S with heap:=h',toks:=tk}=_;rw[q])
end
theorem aD {α:Type}{g:List α}{p:α}{led:List (List α)}{m:Nat}(e:led[m]?=Vl g) (a:p∈g):p∈led.flatten:=Mb.mpr ⟨_,Kl e,a⟩
theorem gp {α:Type}{ft':List α}{p:α}{led:List (List α)}{l:Nat}(h:p∈(led.set l ft').flatten):p∈ft'\/∃m g,m≠l/\led[m]?=Vl g/\p∈g:=by
 obtain ⟨g,c,b⟩:=Mb.mp h;obtain ⟨m,a⟩:=K0.mp c;by_cases q:m=l
 ·subst q;rw[SC] at a;split at a
  ·split at a
   ·exact .inl (J9 a▸b)
   ·cases a
  ·exact absurd rfl ‹_›
 ·exact .inr (y2 m g (w3 q ((LG (LQ q)).symm.trans a) b))
theorem gt {α β:Type}(f:α->β){ft ft':List α}(h:ft'.map f=ft.map f):∀{led:List (List α)}{l:Nat},led[l]?=Vl ft->(led.set l ft').flatten.map f=led.flatten.map f
 | [],_,e=>au e
 | a::r,0,e=>by
  refine rp (J9 e) ?_;simp only[List.set_cons_zero,NL,Kz,h]
 | a::r,l+1,e=>by
  simp only[List.set_cons_succ,NL,Kz];rw[gt f h (led:=r) (l:=l) e]
theorem bR {α:Type}:∀{led:List (List α)}{l:Nat},((led.set l []).flatten).Sublist led.flatten
 | [],_=>.slnil
 | a::r,0=>List.sublist_append_right a r.flatten
 | a::r,l+1=>TZ.append (Q0 a) (bR (led:=r) (l:=l))
theorem sy {α:Type}{st:List α}{l i:Nat}{so o:α}(e:(st.set l so)[i]?=Vl o):(i=l/\o=so/\l<st.length)\/(i≠l/\st[i]?=Vl o):=by
 rw[SC] at e;split at e
 ·rename_i q;split at e
  ·exact .inl (w3 q.symm ((J9 e).symm) (‹_›))
  ·cases e
 ·exact .inr ⟨λq=>‹¬_› q.symm,e⟩
noncomputable def X.up (x:X) (l:Nat) (ft:List (Addr×Obj)) (h:Heap) (tk:Nat):X:={ρ:=x.ρ,imm:=x.imm,led:=x.led.set l ft,S:={x.S with heap:=h,toks:=tk}}
noncomputable def X.frz (x:X) (l:Nat) (p:Addr×Obj):X:={ρ:=x.ρ,imm:=p::x.imm,led:=x.led.set l [],S:=x.S}
noncomputable def X.ad (y:X) (a:Addr) (ft:List (Addr×Obj)):X:={ρ:=y.ρ++[a],imm:=y.imm,led:=y.led++[ft],S:=y.S}
section
variable {c:Cn}{cx:Cx}{z:Z}{own:List Addr}{st:List SObj}{s s0:St}{x x₀ y:X}{r r':Prop}{l:Nat}{a:Addr}{ft ft':List (Addr×Obj)}{so:SObj}
theorem HI.mem (b:x.led[l]?=Vl ft){p:Addr×Obj}(a:p∈ft):p.1∈x.la:=KR (aD b a)
theorem HI.off (H:HI c st x){m:Nat}{f g:List (Addr×Obj)}(s:x.led[l]?=Vl f) (t:x.led[m]?=Vl g) (k:m≠l){p q:Addr×Obj}(o:p∈f) (r:q∈g):q.1≠p.1:=by
 have d:=H.nd;unfold X.la at d;rw[List.map_flatten] at d;have j:=(List.pairwise_flatten.mp (List.nodup_iff_pairwise_ne.mp d)).2;rw[QY] at j;obtain ⟨b,rfl⟩:=Kd.mp s;obtain ⟨a,rfl⟩:=Kd.mp t;have e:∀{i:Nat}(h:i<x.led.length),(x.led.map (Na (·.1)))[i]'(by rw[Ka];exact h)=(x.led[i]).map (·.1):=λh=>OM ..;refine (Nat.lt_or_gt_of_ne k).elim (λn=>?_) λn=>LQ ?_
 ·exact j m l (by rw[Ka];exact a) (by rw[Ka];exact b) n _ (by rw[e a];exact KR r) _ (by rw[e b];exact KR o)
 ·exact j l m (by rw[Ka];exact b) (by rw[Ka];exact a) n _ (by rw[e b];exact KR o) _ (by rw[e a];exact KR r)
theorem px (h:x.led.length=st.length/\x.ρ.length=st.length):(x.led.set l ft').length=(st.set l so).length/\x.ρ.length=(st.set l so).length:=by rw[KW,KW];exact h
theorem pz (h:x.led.length=st.length) (a:l<st.length):(x.led.set l ft')[l]?=Vl ft':=Mf (h▸a)
theorem At.up (y:At cx z s x){h':Heap}{tk:Nat}(I:x.led[l]?=Vl ft) (S:x.ρ[l]?=Vl a) (K:ft'.map (·.1)=ft.map (·.1)) (j:∀p∈ft',h'.get? p.1=Vl p.2) (k:∀b o,x.h.get? b=Vl o->b∈ft.map (·.1)\/b=z.env.locals\/h'.get? b=Vl o) (ns:∀m,x.h.Ns z.env.locals m->h'.Ns z.env.locals m) (R:eY z.c.w x.ρ x.imm a so ft') (r:r'):Nx cx z x ⟨s.fr,s.st.set l so⟩ (x.up l ft' h' tk) r':=by
 obtain ⟨H,F⟩:=y;have la:(x.up l ft' h' tk).la=x.la:=gt (λp:Addr×Obj=>p.1) K I;have sub:∀b∈ft.map (·.1),b∈x.la:=λb d=>(Kr.mp d).elim λp h=>h.2▸HI.mem I h.1;have L:=F.ownI _ F.loc;have v:∀b o,x.h.get? b=Vl o->b∉x.la->b≠z.env.locals->h'.get? b=Vl o:=λb o e n nL=>(k b o e).elim (λm=>absurd (sub b m) n) λq=>q.elim (absurd · nL) id;have u:∃o T ep,h'.get? z.env.locals=Vl o/\o.data=.dict T ep:=F.ns.elim λm h=>(ns m h.1).imp λ_ h=>h.imp λ_ h=>h.imp λ_ h=>⟨h.1,h.2.1⟩
 have M:∀b,(∃o,x.h.get? b=Vl o)->∃o,h'.get? b=Vl o:=λb h=>h.elim λo e=>(k b o e).elim (λm=>by
  rw[<- K] at m;exact (Kr.mp m).elim λp h=>⟨_,h.2▸j p h.1⟩) λq=>q.elim (λq=>q▸u.elim λo h=>h.elim λ_ h=>h.elim λ_ h=>⟨o,h.1⟩) λq=>⟨o,q⟩
 refine ⟨⟨⟨λb p e=>v b p (H.base b p e) (λm=>au ((H.ledB b m).symm.trans e)) λq=>au ((q▸L.2.2.1).symm.trans e),λq f=>v _ _ (H.immIn q f) (H.dis q f) (L.2.1 q f),λq f=>?_,la▸H.nd,la▸H.ledB,λq f=>la▸H.dis q f,px H.len,λi Y e=>?_,tj (λb m o e=>?_) H.frs,λb d=>w3 ((H.fsI b d).1) (la▸(H.fsI b d).2.1) ((H.fsI b d).2.2),H.imm0⟩,⟨F.kind,F.glb,F.blt,F.names,F.ns.imp λm h=>⟨ns m h.1,h.2⟩,λn t=>?_,F.loc,λb d=>?_,F.cellI,F.cellO,λn b t e=>la▸F.cellL n b t e⟩⟩,⟨λb o e n1 n2=>.inl (v b o e n2 λq=>n1 (q▸F.loc)),λb o e=>M b ⟨o,e⟩,λ_ h=>h,λ_ h=>.inl h,λb d=>.inl (la▸d),λ_ _ e=>e,y3 _ _ _ rfl⟩,r⟩
 ·refine (gp f).elim (j q) λ⟨m,g,hm,A,C⟩=>(k _ _ (H.ledIn q (aD A C))).elim (λmm=>?_) λe=>e.elim (λe=>absurd (HI.mem A C) (e▸L.1)) id;exact (Kr.mp mm).elim λp h=>absurd h.2.symm (H.off I A hm h.1 C)
 ·refine (sy e).elim (λ⟨J,E,e3⟩=>?_) λ⟨J,E⟩=>(H.foot i Y E).imp λ_ h=>h.imp λ_ h=>w3 h.1 ((LG (LQ J)).trans h.2.1) h.2.2;subst J E;exact y2 a ft' (w3 S (pz H.len.1 e3) R)
 ·refine (k b o e).elim (λq=>absurd (sub b q) (H.fsI b m).2.1) λq=>q.elim (λq=>?_) λq=>⟨o,q,.inl rfl⟩
  refine rp q ?_;exact u.elim λo h=>h.elim λ_ h=>h.elim λ_ h=>⟨o,h.1,.inr λvs q=>by rw[h.2] at q;cases q⟩
 ·obtain ⟨b,o,w,G,O,g3⟩:=F.cells n t;exact y3 b o w (w3 G (v _ _ O (F.cellL n b t G).1 (F.cellL n b t G).2) g3)
 ·obtain ⟨Q,N,U,P⟩:=F.ownI b d;exact w4 (la▸Q) N U (M b P)
theorem At.frz (t:At cx z s x){p:Addr×Obj}(A:x.led[l]?=Vl [p]) (J:∀a,x.ρ[l]?=Vl a->eY z.c.w x.ρ (p::x.imm) a so []) (r:r'):Nx cx z x ⟨s.fr,s.st.set l so⟩ (x.frz l p) r':=by
 obtain ⟨H,F⟩:=t;have sub:∀{a:Addr},a∈(x.frz l p).la->a∈x.la:=λ{a} h=>(Kr.mp h).elim λq h=>h.2▸KR (bR.subset h.1);have mp:p.1∈x.la:=HI.mem A (.head _);have j:∀q∈x.imm,q∈p::x.imm:=λ_ h=>.tail _ h;have G:∀{v:Value}{u:V},RV z.c.w x.ρ x.imm v u->RV z.c.w x.ρ (p::x.imm) v u:=λh=>h.mono (λ_ _ e=>e) j;refine ⟨⟨⟨H.base,λq b=>?_,λq b=>H.ledIn q (bR.subset b),Q8 (Q7 _ bR) H.nd,λa d=>H.ledB a (sub d),λq b m=>?_,px H.len,λi o e=>?_,H.frs,λa d=>w3 (λq b=>?_) (λm=>(H.fsI a d).2.1 (sub m)) ((H.fsI a d).2.2),λq b=>j q (H.imm0 q b)⟩,⟨F.kind,F.glb,F.blt,F.names,F.ns.imp λm h=>⟨h.1,λn v g l=>(h.2 n v g l).imp λ_ h=>⟨h.1,G h.2⟩⟩,λn f=>(F.cells n f).imp λ_ h=>h.imp λ_ h=>h.imp λ_ h=>w4 h.1 h.2.1 h.2.2.1 (λv g=>(h.2.2.2 v g).imp λ_ h=>⟨h.1,G h.2⟩),F.loc,λa d=>w3 (λm=>(F.ownI a d).1 (sub m)) (λq b=>?_) ((F.ownI a d).2.2),F.cellI,F.cellO,λn a f e=>⟨λm=>(F.cellL n a f e).1 (sub m),(F.cellL n a f e).2⟩⟩⟩,⟨λ_ _ e _ _=>.inl e,λ_ o e=>⟨o,e⟩,j,λq b=>?_,λa h=>.inl (sub h),λ_ _ e=>e,y3 _ _ _ rfl⟩,r⟩
 ·exact (Kt.mp b).elim (λe=>e.symm▸H.ledIn _ (aD A (.head _))) (H.immIn q)
 ·refine (Kt.mp b).elim (λe=>?_) λb=>H.dis q b (sub m);subst e;obtain ⟨v,K,e⟩:=Kr.mp m;exact (gp K).elim (λh=>nomatch h) λ⟨k,g,I,L,M⟩=>H.off A L I (.head _) M e
 ·refine (sy e).elim (λ⟨y,C,E⟩=>?_) λ⟨y,C⟩=>(H.foot i o C).imp λ_ h=>h.imp λ_ h=>w3 h.1 ((LG (LQ y)).trans h.2.1) (h.2.2.mono (λ_ _ e=>e) j);subst y C;exact (H.foot i _ (Ki E)).imp λa h=>⟨[],h.elim λ_ h=>w3 h.1 (pz H.len.1 E) (J a h.1)⟩
 ·exact (Kt.mp b).elim (λe q=>(H.fsI a d).2.1 (q▸e▸mp)) λm=>(H.fsI a d).1 q m
 ·exact (Kt.mp b).elim (λe q=>(F.ownI a d).1 (q▸e▸mp)) λm=>(F.ownI a d).2.1 q m
 ·exact (Kt.mp b).elim (λe=>.inr (.inr (e▸mp))) .inl
theorem iw (ρ:List Addr) (a:Addr):∀(l:Nat) (b:Addr),ρ[l]?=Vl b->(ρ++[a])[l]?=Vl b:=λ_ _ e=>(Kx (Kd.mp e).1).trans e
theorem Nx.adopt (x:At cx z s0 x₀) (n:Nx cx z x₀ s y r) (j:∀p∈ft,y.h.get? p.1=Vl p.2/\Fresh x₀ y p.1) (K:(ft.map (·.1)).Nodup) (M:eY z.c.w (y.ρ++[a]) y.imm a so ft) (N:aZ z (y.ad a ft) (.ref a) (.loc s.st.length)->r'):Nx cx z x₀ ⟨s.fr,s.st++[so]⟩ (y.ad a ft) r':=by
 obtain ⟨⟨H,F⟩,p,-⟩:=n;have la:(y.ad a ft).la=y.la++ft.map (·.1):=by unfold X.la X.ad;rw[M1,Kz];simp only[NL,P9,LC]
 have fr:∀b∈ft.map (·.1),Fresh x₀ y b/\∃o,y.h.get? b=Vl o:=λb d=>(Kr.mp d).elim λp h=>h.2▸⟨(j p h.1).2,_,(j p h.1).1⟩;have f:∀{b:Addr},(∃o,x₀.h.get? b=Vl o)->b∉y.la->b∉(y.ad a ft).la:=λ{b} q n m=>(Ku.mp (la▸m)).elim n λm=>q.elim λo e=>au ((fr b m).1.new.symm.trans e);have G:∀{v:Value}{u:V},RV z.c.w y.ρ y.imm v u->RV z.c.w (y.ρ++[a]) y.imm v u:=λh=>h.mono (iw _ _) λ_ h=>h;have E:(y.ρ++[a])[s.st.length]?=Vl a:=by rw[<- H.len.2];exact Lp
 refine ⟨⟨⟨H.base,H.immIn,λq k=>?_,?_,λb d=>?_,λq k m=>?_,?_,λi O e=>?_,H.frs,λb d=>w3 ((H.fsI b d).1) (f ((x.H.frs.mem d).2.imp λ_ h=>h.1) (H.fsI b d).2.1) ((H.fsI b d).2.2),H.imm0⟩,⟨F.kind,F.glb,F.blt,F.names,F.ns.imp λm h=>⟨h.1,λn v g l=>(h.2 n v g l).imp λ_ h=>⟨h.1,G h.2⟩⟩,λn t=>(F.cells n t).imp λ_ h=>h.imp λ_ h=>h.imp λ_ h=>w4 h.1 h.2.1 h.2.2.1 (λv g=>(h.2.2.2 v g).imp λ_ h=>⟨h.1,G h.2⟩),F.loc,λb d=>⟨f (x.F.ownI b d).2.2.2 (F.ownI b d).1,(F.ownI b d).2⟩,F.cellI,F.cellO,λn b t e=>⟨f ?_ (F.cellL n b t e).1,(F.cellL n b t e).2⟩⟩⟩,⟨p.keep,p.alive,p.imm,p.immN,λb d=>(Ku.mp (la▸d)).elim (p.ledN b) λm=>.inr (fr b m).1.new,λl b e=>iw _ _ _ _ (p.rho l b e),p.rest⟩,N ⟨a,rfl,E⟩⟩
 ·have:q∈y.led.flatten++ft:=by
   have k:q∈(y.led++[ft]).flatten:=k
   rwa [M1,NL,P9,LC] at k
  exact (Ku.mp this).elim (H.ledIn q) λm=>(j q m).1
 ·rw[la];exact Lu.mpr (w3 H.nd K (λb d J C e=>(fr J C).1.la (e▸d)))
 ·refine (Ku.mp (la▸d)).elim (H.ledB b) λm=>?_;cases e:z.c.hb.get? b with
  | none=>rfl
  | some o=>exact au ((fr b m).1.new.symm.trans (x.H.base b o e))
 ·exact (Ku.mp (la▸m)).elim (H.dis q k) λm=>(fr _ m).1.imm q k rfl
 ·show (y.led++[ft]).length=(s.st++[so]).length/\(y.ρ++[a]).length=(s.st++[so]).length;rw[Kj,Kj,Kj,H.len.1,H.len.2];exact ⟨rfl,rfl⟩
 ·by_cases A:i<s.st.length
  ·rw[Kx A] at e;exact (H.foot i O e).imp λb h=>h.imp λg h=>w3 (iw _ _ _ _ h.1) ((Kx (H.len.1▸A)).trans h.2.1) (h.2.2.mono (iw _ _) λ_ h=>h)
  ·have I:=(Kd.mp e).1;rw[Kj] at I;obtain rfl:i=s.st.length:=Ol (Nat.le_of_lt_succ I) (MI A);rw[Lp] at e;refine rq (J9 e) ?_;exact y2 a ft (w3 E (H.len.1▸Lp) M)
 ·skip
  obtain ⟨Q,o,_,L,P,_⟩:=x.F.cells n t;obtain ⟨S,_,_,R,_⟩:=F.cells n t;exact ⟨o,J9 (e.symm.trans L)▸P⟩
end
theorem cV (x y:Str) (v:V):∀fr:List (Str×V),get y (aY x v fr)=if y=x then Vl v else get y fr:=@lr _ _ (by
  show (if x=y then Vl v else Vm)=if y=x then Vl v else Vm
  exact if h:x=y then (if_pos h).trans (if_pos h.symm).symm else (if_neg h).trans (if_neg (LQ h)).symm)
 (λp r b=>by
  rw[DJ];by_cases h:p.1=x
  ·rw[if_pos h];show (if p.1=y then Vl v else get y r)=if y=x then Vl v else if p.1=y then Vl p.2 else get y r
   rw[h];by_cases a:x=y
   ·rw[if_pos a,if_pos a.symm]
   ·rw[if_neg a,if_neg (LQ a),if_neg a]
  ·rw[if_neg h];show (if p.1=y then Vl p.2 else get y (aY x v r))=if y=x then Vl v else if p.1=y then Vl p.2 else get y r
   rw[b];by_cases a:p.1=y
   ·rw[if_pos a,if_pos a,if_neg λq=>h (a.trans q)]
   ·rw[if_neg a,if_neg a])
theorem vg (x y:Str){v:V}:∀{fr:List (Str×V)},get y (Da x fr)=Vl v->y≠x/\get y fr=Vl v:=@lr _ _ (@λe=>au e) (λp r b=>(@λe=>by
  rw[Hx] at e;by_cases h:p.1=x
  ·rw[if_pos h] at e;have a:=b e;exact ⟨a.1,(if_neg λq=>a.1 (q.symm.trans h)).trans a.2⟩
  ·rw[if_neg h] at e;by_cases c:p.1=y
   ·exact ⟨λq=>h (c.trans q),(if_pos c).trans ((if_pos c).symm.trans e)⟩
   ·have a:=b ((if_neg c).symm.trans e);exact ⟨a.1,(if_neg c).trans a.2⟩))
noncomputable def hW:Option LJ->Bool
 | some .local=>Vn
 | some .cell=>Vn
 | some .free=>Vn
 | _=>Vo
noncomputable def bC:Option LJ->Bool
 | some .local=>Vn
 | some .cell=>Vn
 | _=>Vo
theorem EZ {k:Option LJ}(h:bC k=Vn):k=Vl .local\/k=Vl .cell:=by
 cases k with
 | none=>cases h
 | some k=>cases k<;>first | exact .inl rfl | exact .inr rfl | cases h
theorem ze {k:Option LJ}(h:hW k=Vn):k=Vl .local\/cC k=true:=by
 cases k with
 | none=>cases h
 | some k=>cases k<;>first | exact .inl rfl | exact .inr rfl | cases h
section
variable {cx:Cx}{z:Z}{s:St}{x:X}{r:Prop}
theorem At.ownW (i:At cx z s x){h':Heap}{tk:Nat}{L:Addr}{g:Obj}{fr':List (Str×V)}(t:L∈z.own) (k:∀b o,x.h.get? b=Vl o->b≠L->h'.get? b=Vl o) (e:h'.get? L=Vl g) (y:∀vs,g.data≠.fields vs) (ns:∃m,h'.Ns z.env.locals m/\∀n v,get n fr'=Vl v->cx.names.lookup n=Vl .local->∃val,m n=Vl val/\aZ z x val v) (c:∀n,cC (cx.names.lookup n)=Vn->∃a o val,z.env.cells.lookup n=Vl a/\h'.get? a=Vl o/\o.data=.cell val/\∀v,get n fr'=Vl v->∃u,val=Vl u/\aZ z x u v) (E:r):Nx cx z x ⟨fr',s.st⟩ (x.gr h' tk []) r:=by
 refine aC λI j=>?_;obtain ⟨H,F⟩:=i;obtain ⟨C,A,G,_⟩:=F.ownI L t;refine j ?_;have l:∀b,(∃o,x.h.get? b=Vl o)->∃o,h'.get? b=Vl o:=λb h=>if q:b=L then ⟨g,q▸e⟩ else h.imp λo w=>k b o w q
 exact ⟨⟨⟨λb p w=>k b p (H.base b p w) λq=>au ((q▸G).symm.trans w),λq d=>k _ _ (H.immIn q d) (A q d),λq d=>k _ _ (H.ledIn q d) λe=>C (e▸KR d),H.nd,H.ledB,H.dis,H.len,H.foot,tj (λb _ o w=>if q:b=L then ⟨g,q▸e,.inr y⟩ else ⟨o,k b o w q,.inl rfl⟩) H.frs,H.fsI,H.imm0⟩,⟨F.kind,F.glb,F.blt,F.names,ns,c,F.loc,λb f=>w4 ((F.ownI b f).1) ((F.ownI b f).2.1) ((F.ownI b f).2.2.1) (l b (F.ownI b f).2.2.2),F.cellI,F.cellO,F.cellL⟩⟩,⟨λb o w n _=>.inl (k b o w λq=>n (q▸t)),λb o w=>l b ⟨o,w⟩,λ_ h=>h,λ_ h=>.inl h,λ_ h=>.inl h,λ_ _ e=>e,y3 _ _ _ rfl⟩,E⟩
theorem uM {h:Heap}{a:Addr}{m:Str->Option Value}(n:h.Ns a m):∃o,h.get? a=Vl o/\∀vs,o.data≠.fields vs:=n.imp λ_ h=>h.elim λ_ h=>h.elim λ_ h=>⟨h.1,λvs q=>by rw[h.2.1] at q;cases q⟩
abbrev Gg (x y:X):Prop:=y.ρ=x.ρ/\y.imm=x.imm
theorem gY {n:Str}{v:V}{val:Value}{Q:Unit->Kh->Prop}{E:Value->Kh->Prop}(a:At cx z s x) (hn:bC (cx.names.lookup n)=Vn) (N:aZ z x val v) (h:∀y,Nx cx z x ⟨aY n v s.fr,s.st⟩ y (Gg x y)->Q () y.S):Km (Kn PR z.c.w) z.A (Og z.env n val) Q E x.S:=by
 have F:=a.F;refine (EZ hn).elim (λp=>?_) λp=>?_
 ·skip
  obtain ⟨m,hm,J⟩:=F.ns;refine wpAny_storeName_local ((F.names n).1 p) hm (λG T hs=>?_) (by rw[F.kind];rfl);obtain ⟨O,e,U⟩:=uM T;have k:∀b o,x.h.get? b=Vl o->b≠z.env.locals->G.get? b=Vl o:=λb o e H=>(hs.2 b H).trans e;refine h _ (a.ownW (tk:=x.S.toks+1) F.loc k e U ⟨_,T,λf i g l=>?_⟩ (λf d=>?_) ⟨rfl,rfl⟩)
  ·rw[cV] at g;by_cases q:f=n
   ·rw[if_pos q] at g;exact ⟨val,if_pos q,J9 g▸N⟩
   ·rw[if_neg q] at g;exact (J f i g l).imp λu w=>⟨(if_neg q).trans w.1,w.2⟩
  ·skip
   obtain ⟨b,o,w,j,I,K,R⟩:=F.cells f d;exact y3 b o w (w4 j (k _ _ I (F.cellL f b d j).2) K (λi g=>R i (by rw[cV,if_neg λq=>by rw[q,p] at d;cases d] at g;exact g)))
 ·have L:cC (cx.names.lookup n)=true:=by rw[p];rfl
  obtain ⟨b,o,w,j,I,K,R⟩:=F.cells n L;refine wpAny_storeName_cell F.kind ((F.names n).2.2.2 p) j ⟨o,I,K⟩ λG Y hs=>?_;have k:∀r o,x.h.get? r=Vl o->r≠b->G.get? r=Vl o:=λb o e H=>(hs.2 b H).trans e;obtain ⟨O,M,P⟩:=id Y;refine h _ (a.ownW (tk:=x.S.toks) (F.cellO n b p j) k M (λvs q=>by rw[P] at q;cases q) ?_ (λf d=>?_) ⟨rfl,rfl⟩)
  ·skip
   obtain ⟨m,⟨o,es,ep,t,C⟩,J⟩:=F.ns;exact ⟨m,y3 o es ep ⟨k _ _ t λq=>(F.cellL n b L j).2 q.symm,C⟩,λf i g l=>J f i (by rw[cV,if_neg λq=>by rw[q,p] at l;cases l] at g;exact g) l⟩
  ·by_cases q:f=n
   ·refine rp q ?_;exact y3 b O _ (w4 j M P (λi g=>⟨val,rfl,by rw[cV,if_pos rfl] at g;exact J9 g▸N⟩))
   ·skip
    obtain ⟨r,o,w,t,C,g3,g4⟩:=F.cells f d;exact y3 r o w (w4 t (k _ _ C λe=>q (F.cellI f n b d L (e▸t) j)) g3 (λi g=>g4 i (by rw[cV,if_neg q] at g;exact g)))
theorem CS {n:Str}{pos:Pos}{Q:Unit->Kh->Prop}{E:Value->Kh->Prop}(a:At cx z s x) (hn:cx.names.lookup n=Vl .local) (h:∀y,Nx cx z x ⟨Da n s.fr,s.st⟩ y True->Q () y.S):Km (Kn PR z.c.w) z.A (do bindName z.env n .none;unbindBehindTheSuite z.env n pos) Q E x.S:=by
 have F:=a.F;obtain ⟨m,t,I⟩:=F.ns;refine wpAny_nameGoes_keeps ((F.names n).1 hn) t (by rw[F.kind];rfl) λC v q hs=>?_;obtain ⟨L,e,r⟩:=uM q;have k:∀b o,x.h.get? b=Vl o->b≠z.env.locals->C.get? b=Vl o:=λb o e H=>(hs.2 b H).trans e;refine h _ (a.ownW (tk:=x.S.toks+1) F.loc k e r ⟨_,q,λd i g l=>?_⟩ (λd f=>?_) trivial)
 ·have p:=vg n d g;exact (I d i p.2 l).imp λu w=>⟨(if_neg p.1).trans w.1,w.2⟩
 ·skip
  obtain ⟨b,o,w,j,K,G,J⟩:=F.cells d f;exact y3 b o w (w4 j (k _ _ K (F.cellL d b f j).2) G (λi g=>J i (vg n d g).2))
end
noncomputable abbrev sn (s:String):Str:=Mt s
noncomputable def HC:Stmt->List Stmt
 | .ClassDef _ _ _ b _ _ _ _ _ _ _=>b
 | _=>[]
noncomputable def nC (i j:Nat):Stmt:=((HC (bN i))[j]?).getD (.Pass ⟨0,0,0,0⟩)
noncomputable def iT (b a:String) (d:Stmt) (dflt c:Value) (e:Addr):FuncData:={name:=sn b,qualname:=sn a,params:=fZ d,body:=.stmts (gK d),scope:=bO d,globals:=3,closure:=[],defaults:=dflt,kwdefaults:=.none,doc:=.none,pyModule:=c,annotations:=Vm,code:=.ref e,closureTuple:=.none,builtins:=0}
noncomputable def gM:Value:=.str (sn "cpy313.graphlib") 194
noncomputable def pM:Value:=.str (sn "cpy313.pickletools") 376
noncomputable def BE:List (Nat×FuncData):=[(36,iT "__init__" "_NodeInfo.__init__" (nC 4 1) .none gM 35),(73,iT "__init__" "TopologicalSorter.__init__" (nC 6 0) (.ref 66) gM 72),(80,iT "_get_nodeinfo" "TopologicalSorter._get_nodeinfo" (nC 6 1) .none gM 79),(87,iT "add" "TopologicalSorter.add" (nC 6 2) .none gM 86),(92,iT "prepare" "TopologicalSorter.prepare" (nC 6 3) .none gM 91),(99,iT "get_ready" "TopologicalSorter.get_ready" (nC 6 4) .none gM 98),(106,iT "is_active" "TopologicalSorter.is_active" (nC 6 5) .none gM 105),(120,iT "done" "TopologicalSorter.done" (nC 6 7) .none gM 119),(127,iT "_find_cycle" "TopologicalSorter._find_cycle" (nC 6 8) .none gM 126),(148,iT "read_uint1" "read_uint1" (bN 8) .none pM 147),(155,iT "read_string1" "read_string1" (bN 9) .none pM 154),(162,iT "read_bytes1" "read_bytes1" (bN 10) .none pM 161),(176,iT "__init__" "_Example.__init__" (nC 11 0) .none pM 175),(190,iT "S_IFMT" "S_IFMT" (bN 13) .none (.str (sn "cpy313.stat") 433) 189),(197,iT "S_ISDIR" "S_ISDIR" (bN 21) .none (.str (sn "cpy313.stat") 433) 196),(237,iT "filemode" "filemode" (bN 35) .none (.str (sn "cpy313.stat") 433) 236),(249,iT "_law_drawn" "_law_drawn" (bN 38) .none (.str (sn "law_oc0260_01") 525) 248),(256,iT "_law_tape" "_law_tape" (bN 39) .none (.str (sn "law_oc0260_01") 525) 255),(263,iT "_law_things" "_law_things" (bN 40) .none (.str (sn "law_oc0260_01") 525) 262),(268,iT "_law_second_tape" "_law_second_tape" (bN 41) .none (.str (sn "law_oc0260_01") 525) 267),(275,iT "_law_rows" "_law_rows" (bN 42) .none (.str (sn "law_oc0260_01") 525) 274),(282,iT "_law_row" "_law_row" (bN 43) .none (.str (sn "law_oc0260_01") 525) 281),(287,iT "_law_heights" "_law_heights" (bN 44) .none (.str (sn "law_oc0260_01") 525) 286),(292,iT "_law_looks" "_law_looks" (bN 45) .none (.str (sn "law_oc0260_01") 525) 291),(299,iT "_law_early" "_law_early" (bN 46) .none (.str (sn "law_oc0260_01") 525) 298),(306,iT "_law_sorter" "_law_sorter" (bN 47) .none (.str (sn "law_oc0260_01") 525) 305),(311,iT "_law_ring" "_law_ring" (bN 48) .none (.str (sn "law_oc0260_01") 525) 310),(316,iT "_law_kept" "_law_kept" (bN 49) .none (.str (sn "law_oc0260_01") 525) 315),(323,iT "_law_groups" "_law_groups" (bN 50) .none (.str (sn "law_oc0260_01") 525) 322),(328,iT "_law_as_due" "_law_as_due" (bN 51) .none (.str (sn "law_oc0260_01") 525) 327),(333,iT "law" "law" (bN 52) .none (.str (sn "law_oc0260_01") 525) 332)]
noncomputable def zY (a:Nat):Option FuncData:=BE.lookup a
noncomputable def Ho:Nat->Option FuncData
 | 244=>Vl (iT "_law_stream" "_law_stream" (bN 37) .none (.str (sn "law_oc0260_01") 525) 243)
 | a=>zY a
noncomputable def bZ (n:Int) (s:String):D:=.tup [.int n,.str (sn s)]
noncomputable def fmTable:D:=.tup [.tup [bZ 40960 "l",bZ 49152 "s",bZ 32768 "-",bZ 24576 "b",bZ 16384 "d",bZ 8192 "c",bZ 4096 "p"],.tup [bZ 256 "r"],.tup [bZ 128 "w"],.tup [bZ 2112 "s",bZ 2048 "S",bZ 64 "x"],.tup [bZ 32 "r"],.tup [bZ 16 "w"],.tup [bZ 1032 "s",bZ 1024 "S",bZ 8 "x"],.tup [bZ 4 "r"],.tup [bZ 2 "w"],.tup [bZ 513 "t",bZ 512 "T",bZ 1 "x"]]
noncomputable def bY {α:Type}(n:Str):List (Str×α)->Option α
 | []=>Vm
 | p::r=>if p.1=n then Vl p.2 else bY n r
noncomputable def ib:List (Str×D):=[(sn "len",.bi .len),(sn "range",.bi .range),(sn "sum",.bi .sum),(sn "list",.bi .list),(sn "bytes",.bi .bytes),(sn "tuple",.bi .tuple),(sn "set",.bi .set),(sn "bool",.bi .bool),(sn "sorted",.bi .sorted),(sn "ord",.bi .ord),(sn "isinstance",.bi .isinstance),(sn "enumerate",.bi .enumerate),(sn "iter",.bi .iter),(sn "ValueError",.bi .valueError),(sn "StopIteration",.bi .stopIteration),(sn "CycleError",.gbl 55),(sn "_NodeInfo",.gbl 40),(sn "TopologicalSorter",.gbl 137),(sn "_Example",.gbl 179),(sn "_NODE_OUT",.int (-1)),(sn "_NODE_DONE",.int (-2)),(sn "S_IFDIR",.int 16384),(sn "_filemode_table",fmTable),(sn "read_uint1",.gbl 148),(sn "read_string1",.gbl 155),(sn "read_bytes1",.gbl 162),(sn "S_IFMT",.gbl 190),(sn "S_ISDIR",.gbl 197),(sn "filemode",.gbl 237),(sn "_law_stream",.gbl 244),(sn "_law_drawn",.gbl 249),(sn "_law_tape",.gbl 256),(sn "_law_things",.gbl 263),(sn "_law_second_tape",.gbl 268),(sn "_law_rows",.gbl 275),(sn "_law_row",.gbl 282),(sn "_law_heights",.gbl 287),(sn "_law_looks",.gbl 292),(sn "_law_early",.gbl 299),(sn "_law_sorter",.gbl 306),(sn "_law_ring",.gbl 311),(sn "_law_kept",.gbl 316),(sn "_law_groups",.gbl 323),(sn "_law_as_due",.gbl 328)]
noncomputable def methods:List (Str×Addr):=[(sn "_get_nodeinfo",80),(sn "add",87),(sn "prepare",92),(sn "get_ready",99),(sn "is_active",106),(sn "done",120),(sn "_find_cycle",127)]
noncomputable def IP:List Str:=[sn "things",sn "perm",sn "given",sn "rows",sn "heights",sn "looks",sn "groups",sn "stack",sn "itstack",sn "number",sn "seen",sn "node2stacki"]
noncomputable def aW (a:Nat):FuncData:=(Ho a).getD (iT "" "" (.Pass ⟨0,0,0,0⟩) .none .none 0)
noncomputable def KK (P:LB):Frag:=[(1,⟨.type "dict",Vm,.dict #[⟨Ke P (sn "builtins"),.str (sn "builtins") 162,.ref 4⟩,⟨Ke P (sn "__main__"),.str (sn "__main__") 163,.ref 5⟩] 2,#[]⟩),(4,⟨.type "module",Vl 0,.plain,#[]⟩),(3,⟨.type "dict",Vm,.dict #[⟨Ke P (sn "__name__"),.str (sn "__name__") 165,.str (sn "law_oc0260_01") 525⟩,⟨Ke P (sn "__doc__"),.str (sn "__doc__") 166,.none⟩,⟨Ke P (sn "__package__"),.str (sn "__package__") 167,.none⟩,⟨Ke P (sn "__loader__"),.str (sn "__loader__") 168,.builtin "__main__.__loader__#opaque"⟩,⟨Ke P (sn "__spec__"),.str (sn "__spec__") 169,.none⟩,⟨Ke P (sn "__annotations__"),.str (sn "__annotations__") 170,.ref 6⟩,⟨Ke P (sn "__builtins__"),.str (sn "__builtins__") 171,.ref 4⟩,⟨Ke P (sn "__file__"),.str (sn "__file__") 173,.str (sn "/claim/cut.py") 172⟩,⟨Ke P (sn "__cached__"),.str (sn "__cached__") 174,.none⟩,⟨Ke P (sn "_wall"),.str (sn "_wall") 193,.ref 21⟩,⟨Ke P (sn "_NODE_OUT"),.str (sn "_NODE_OUT") 198,.int (-1) 197⟩,⟨Ke P (sn "_NODE_DONE"),.str (sn "_NODE_DONE") 201,.int (-2) 200⟩,⟨Ke P (sn "_NodeInfo"),.str (sn "_NodeInfo") 238,.ref 40⟩,⟨Ke P (sn "CycleError"),.str (sn "CycleError") 256,.ref 55⟩,⟨Ke P (sn "TopologicalSorter"),.str (sn "TopologicalSorter") 375,.ref 137⟩,⟨Ke P (sn "read_uint1"),.str (sn "read_uint1") 385,.ref 148⟩,⟨Ke P (sn "read_string1"),.str (sn "read_string1") 394,.ref 155⟩,⟨Ke P (sn "read_bytes1"),.str (sn "read_bytes1") 403,.ref 162⟩,⟨Ke P (sn "_Example"),.str (sn "_Example") 432,.ref 179⟩,⟨Ke P (sn "S_IFMT"),.str (sn "S_IFMT") 441,.ref 190⟩,⟨Ke P (sn "S_IFDIR"),.str (sn "S_IFDIR") 443,.int (16384) 442⟩,⟨Ke P (sn "S_IFCHR"),.str (sn "S_IFCHR") 445,.int (8192) 444⟩,⟨Ke P (sn "S_IFBLK"),.str (sn "S_IFBLK") 447,.int (24576) 446⟩,⟨Ke P (sn "S_IFREG"),.str (sn "S_IFREG") 449,.int (32768) 448⟩,⟨Ke P (sn "S_IFIFO"),.str (sn "S_IFIFO") 451,.int (4096) 450⟩,⟨Ke P (sn "S_IFLNK"),.str (sn "S_IFLNK") 453,.int (40960) 452⟩,⟨Ke P (sn "S_IFSOCK"),.str (sn "S_IFSOCK") 455,.int (49152) 454⟩,⟨Ke P (sn "S_ISDIR"),.str (sn "S_ISDIR") 462,.ref 197⟩,⟨Ke P (sn "S_ISUID"),.str (sn "S_ISUID") 464,.int (2048) 463⟩,⟨Ke P (sn "S_ISGID"),.str (sn "S_ISGID") 466,.int (1024) 465⟩,⟨Ke P (sn "S_ISVTX"),.str (sn "S_ISVTX") 468,.int (512) 467⟩,⟨Ke P (sn "S_IRUSR"),.str (sn "S_IRUSR") 470,.int (256) 469⟩,⟨Ke P (sn "S_IWUSR"),.str (sn "S_IWUSR") 472,.int (128) 471⟩,⟨Ke P (sn "S_IXUSR"),.str (sn "S_IXUSR") 474,.int (64) 473⟩,⟨Ke P (sn "S_IRGRP"),.str (sn "S_IRGRP") 476,.int (32) 475⟩,⟨Ke P (sn "S_IWGRP"),.str (sn "S_IWGRP") 478,.int (16) 477⟩,⟨Ke P (sn "S_IXGRP"),.str (sn "S_IXGRP") 480,.int (8) 479⟩,⟨Ke P (sn "S_IROTH"),.str (sn "S_IROTH") 482,.int (4) 481⟩,⟨Ke P (sn "S_IWOTH"),.str (sn "S_IWOTH") 484,.int (2) 483⟩,⟨Ke P (sn "S_IXOTH"),.str (sn "S_IXOTH") 486,.int (1) 485⟩,⟨Ke P (sn "_filemode_table"),.str (sn "_filemode_table") 512,.ref 230⟩,⟨Ke P (sn "filemode"),.str (sn "filemode") 524,.ref 237⟩,⟨Ke P (sn "_law_stream"),.str (sn "_law_stream") 538,.ref 244⟩,⟨Ke P (sn "_law_drawn"),.str (sn "_law_drawn") 544,.ref 249⟩,⟨Ke P (sn "_law_tape"),.str (sn "_law_tape") 556,.ref 256⟩,⟨Ke P (sn "_law_things"),.str (sn "_law_things") 569,.ref 263⟩,⟨Ke P (sn "_law_second_tape"),.str (sn "_law_second_tape") 575,.ref 268⟩,⟨Ke P (sn "_law_rows"),.str (sn "_law_rows") 587,.ref 275⟩,⟨Ke P (sn "_law_row"),.str (sn "_law_row") 599,.ref 282⟩,⟨Ke P (sn "_law_heights"),.str (sn "_law_heights") 605,.ref 287⟩,⟨Ke P (sn "_law_looks"),.str (sn "_law_looks") 611,.ref 292⟩,⟨Ke P (sn "_law_early"),.str (sn "_law_early") 619,.ref 299⟩,⟨Ke P (sn "_law_sorter"),.str (sn "_law_sorter") 629,.ref 306⟩,⟨Ke P (sn "_law_ring"),.str (sn "_law_ring") 635,.ref 311⟩,⟨Ke P (sn "_law_kept"),.str (sn "_law_kept") 641,.ref 316⟩,⟨Ke P (sn "_law_groups"),.str (sn "_law_groups") 650,.ref 323⟩,⟨Ke P (sn "_law_as_due"),.str (sn "_law_as_due") 656,.ref 328⟩,⟨Ke P (sn "law"),.str (sn "law") 662,.ref 333⟩] 58,#[]⟩),(39,⟨.type "dict",Vm,.dict #[⟨Ke P (sn "__module__"),.str (sn "__module__") 209,.str (sn "cpy313.graphlib") 194⟩,⟨Ke P (sn "__firstlineno__"),.str (sn "__firstlineno__") 213,.int (7) 212⟩,⟨Ke P (sn "__slots__"),.str (sn "__slots__") 217,.ref 29⟩,⟨Ke P (sn "__init__"),.str (sn "__init__") 225,.ref 36⟩,⟨Ke P (sn "__static_attributes__"),.str (sn "__static_attributes__") 229,.ref 37⟩,⟨Ke P (sn "node"),.str (sn "node") 231,.ref 41⟩,⟨Ke P (sn "npredecessors"),.str (sn "npredecessors") 233,.ref 42⟩,⟨Ke P (sn "successors"),.str (sn "successors") 235,.ref 43⟩,⟨Ke P (sn "__doc__"),.str (sn "__doc__") 236,.none⟩] 5,#[]⟩),(40,⟨.type "type",Vm,.cls {name:=(sn "_NodeInfo"),bases:=[.type "object"],mro:=[.ref 40,.type "object"],ns:=39,qualname:=(sn "_NodeInfo"),hasDict:=Vo,slotNames:=[(sn "node"),(sn "npredecessors"),(sn "successors")]},#[Vm,Vm,Vl (.str (sn "_NodeInfo") 202),Vl (.str (sn "_NodeInfo") 210),Vl (.builtin "object.__new__"),Vl (.bool Vo)]⟩),(41,⟨.type "member_descriptor",Vm,.fields #[.str (sn "node") 230,.ref 40,.builtin "proto.slot",.builtin "proto.slot#set",.int (2) 0],#[]⟩),(42,⟨.type "member_descriptor",Vm,.fields #[.str (sn "npredecessors") 232,.ref 40,.builtin "proto.slot",.builtin "proto.slot#set",.int (1) 0],#[]⟩),(43,⟨.type "member_descriptor",Vm,.fields #[.str (sn "successors") 234,.ref 40,.builtin "proto.slot",.builtin "proto.slot#set",.int (0) 0],#[]⟩),(46,⟨.type "tuple",Vm,.seq #[.type "ValueError"] 0,#[]⟩),(54,⟨.type "dict",Vm,.dict #[⟨Ke P (sn "__module__"),.str (sn "__module__") 246,.str (sn "cpy313.graphlib") 194⟩,⟨Ke P (sn "__firstlineno__"),.str (sn "__firstlineno__") 250,.int (14) 249⟩,⟨Ke P (sn "__static_attributes__"),.str (sn "__static_attributes__") 251,.ref 53⟩,⟨Ke P (sn "__weakref__"),.str (sn "__weakref__") 253,.ref 56⟩,⟨Ke P (sn "__doc__"),.str (sn "__doc__") 254,.none⟩] 3,#[]⟩),(55,⟨.type "type",Vm,.cls {name:=(sn "CycleError"),bases:=[.type "ValueError"],mro:=[.ref 55,.type "ValueError",.type "Exception",.type "BaseException",.type "object"],ns:=54,qualname:=(sn "CycleError"),hasDict:=Vn,slotNames:=[]},#[Vl (.ref 46),Vm,Vl (.str (sn "CycleError") 239),Vl (.str (sn "CycleError") 247),Vl (.builtin "ValueError.__new__"),Vl (.bool Vn)]⟩),(56,⟨.type "getset_descriptor",Vm,.fields #[.str (sn "__weakref__") 252,.ref 55,.builtin "ExceptionGroup.__weakref__",.none],#[]⟩),(136,⟨.type "dict",Vm,.dict #[⟨Ke P (sn "__module__"),.str (sn "__module__") 264,.str (sn "cpy313.graphlib") 194⟩,⟨Ke P (sn "__firstlineno__"),.str (sn "__firstlineno__") 268,.int (16) 267⟩,⟨Ke P (sn "__init__"),.str (sn "__init__") 278,.ref 73⟩,⟨Ke P (sn "_get_nodeinfo"),.str (sn "_get_nodeinfo") 287,.ref 80⟩,⟨Ke P (sn "add"),.str (sn "add") 299,.ref 87⟩,⟨Ke P (sn "prepare"),.str (sn "prepare") 305,.ref 92⟩,⟨Ke P (sn "get_ready"),.str (sn "get_ready") 315,.ref 99⟩,⟨Ke P (sn "is_active"),.str (sn "is_active") 322,.ref 106⟩,⟨Ke P (sn "__bool__"),.str (sn "__bool__") 329,.ref 113⟩,⟨Ke P (sn "done"),.str (sn "done") 343,.ref 120⟩,⟨Ke P (sn "_find_cycle"),.str (sn "_find_cycle") 356,.ref 127⟩,⟨Ke P (sn "static_order"),.str (sn "static_order") 363,.ref 134⟩,⟨Ke P (sn "__static_attributes__"),.str (sn "__static_attributes__") 368,.ref 135⟩,⟨Ke P (sn "__dict__"),.str (sn "__dict__") 370,.ref 138⟩,⟨Ke P (sn "__weakref__"),.str (sn "__weakref__") 372,.ref 139⟩,⟨Ke P (sn "__doc__"),.str (sn "__doc__") 373,.none⟩] 4,#[]⟩),(137,⟨.type "type",Vm,.cls {name:=(sn "TopologicalSorter"),bases:=[.type "object"],mro:=[.ref 137,.type "object"],ns:=136,qualname:=(sn "TopologicalSorter"),hasDict:=Vn,slotNames:=[]},#[Vm,Vm,Vl (.str (sn "TopologicalSorter") 257),Vl (.str (sn "TopologicalSorter") 265),Vl (.builtin "object.__new__"),Vl (.bool Vn)]⟩),(138,⟨.type "getset_descriptor",Vm,.fields #[.str (sn "__dict__") 369,.ref 137,.builtin "function.__dict__",.builtin "function.__dict__#set"],#[]⟩),(139,⟨.type "getset_descriptor",Vm,.fields #[.str (sn "__weakref__") 371,.ref 137,.builtin "ExceptionGroup.__weakref__",.none],#[]⟩),(178,⟨.type "dict",Vm,.dict #[⟨Ke P (sn "__module__"),.str (sn "__module__") 411,.str (sn "cpy313.pickletools") 376⟩,⟨Ke P (sn "__firstlineno__"),.str (sn "__firstlineno__") 415,.int (142) 414⟩,⟨Ke P (sn "__init__"),.str (sn "__init__") 423,.ref 176⟩,⟨Ke P (sn "__static_attributes__"),.str (sn "__static_attributes__") 425,.ref 177⟩,⟨Ke P (sn "__dict__"),.str (sn "__dict__") 427,.ref 180⟩,⟨Ke P (sn "__weakref__"),.str (sn "__weakref__") 429,.ref 181⟩,⟨Ke P (sn "__doc__"),.str (sn "__doc__") 430,.none⟩] 4,#[]⟩),(179,⟨.type "type",Vm,.cls {name:=(sn "_Example"),bases:=[.type "object"],mro:=[.ref 179,.type "object"],ns:=178,qualname:=(sn "_Example"),hasDict:=Vn,slotNames:=[]},#[Vm,Vm,Vl (.str (sn "_Example") 404),Vl (.str (sn "_Example") 412),Vl (.builtin "object.__new__"),Vl (.bool Vn)]⟩),(180,⟨.type "getset_descriptor",Vm,.fields #[.str (sn "__dict__") 426,.ref 179,.builtin "function.__dict__",.builtin "function.__dict__#set"],#[]⟩),(181,⟨.type "getset_descriptor",Vm,.fields #[.str (sn "__weakref__") 428,.ref 179,.builtin "ExceptionGroup.__weakref__",.none],#[]⟩),(66,⟨.type "tuple",Vm,.seq #[.none] 0,#[]⟩),(36,⟨.type "function",Vm,.func (aW 36),#[]⟩),(73,⟨.type "function",Vm,.func (aW 73),#[]⟩),(80,⟨.type "function",Vm,.func (aW 80),#[]⟩),(87,⟨.type "function",Vm,.func (aW 87),#[]⟩),(92,⟨.type "function",Vm,.func (aW 92),#[]⟩),(99,⟨.type "function",Vm,.func (aW 99),#[]⟩),(106,⟨.type "function",Vm,.func (aW 106),#[]⟩),(120,⟨.type "function",Vm,.func (aW 120),#[]⟩),(127,⟨.type "function",Vm,.func (aW 127),#[]⟩),(148,⟨.type "function",Vm,.func (aW 148),#[]⟩),(155,⟨.type "function",Vm,.func (aW 155),#[]⟩),(162,⟨.type "function",Vm,.func (aW 162),#[]⟩),(176,⟨.type "function",Vm,.func (aW 176),#[]⟩),(190,⟨.type "function",Vm,.func (aW 190),#[]⟩),(197,⟨.type "function",Vm,.func (aW 197),#[]⟩),(237,⟨.type "function",Vm,.func (aW 237),#[]⟩),(244,⟨.type "function",Vm,.func (aW 244),#[]⟩),(249,⟨.type "function",Vm,.func (aW 249),#[]⟩),(256,⟨.type "function",Vm,.func (aW 256),#[]⟩),(263,⟨.type "function",Vm,.func (aW 263),#[]⟩),(268,⟨.type "function",Vm,.func (aW 268),#[]⟩),(275,⟨.type "function",Vm,.func (aW 275),#[]⟩),(282,⟨.type "function",Vm,.func (aW 282),#[]⟩),(287,⟨.type "function",Vm,.func (aW 287),#[]⟩),(292,⟨.type "function",Vm,.func (aW 292),#[]⟩),(299,⟨.type "function",Vm,.func (aW 299),#[]⟩),(306,⟨.type "function",Vm,.func (aW 306),#[]⟩),(311,⟨.type "function",Vm,.func (aW 311),#[]⟩),(316,⟨.type "function",Vm,.func (aW 316),#[]⟩),(323,⟨.type "function",Vm,.func (aW 323),#[]⟩),(328,⟨.type "function",Vm,.func (aW 328),#[]⟩),(333,⟨.type "function",Vm,.func (aW 333),#[]⟩),(35,⟨.type "code",Vm,.fields #[.str (sn "__init__") 218,.str (sn "_NodeInfo.__init__") 219,.str (sn "/claim/cut.py") 220,.int (10) 0,.int (2) 0,.int (0) 0,.int (0) 0,.int (3) 0,.ref 30,.bool Vn,.int (181) 0,.ref 31,.none,.ref 32,.ref 33,.ref 34,.int (223) 0,.int (10) 0,.str (sn "/claim/cut.py") 224],#[]⟩),(72,⟨.type "code",Vm,.fields #[.str (sn "__init__") 269,.str (sn "TopologicalSorter.__init__") 270,.str (sn "/claim/cut.py") 271,.int (18) 0,.int (2) 0,.int (0) 0,.int (0) 0,.int (3) 0,.ref 67,.bool Vn,.int (181) 0,.ref 68,.none,.ref 69,.ref 70,.ref 71,.int (276) 0,.int (18) 0,.str (sn "/claim/cut.py") 277],#[]⟩),(79,⟨.type "code",Vm,.fields #[.str (sn "_get_nodeinfo") 279,.str (sn "TopologicalSorter._get_nodeinfo") 280,.str (sn "/claim/cut.py") 281,.int (27) 0,.int (2) 0,.int (0) 0,.int (0) 0,.int (3) 0,.ref 74,.bool Vn,.int (181) 0,.ref 75,.none,.ref 76,.ref 77,.ref 78,.int (285) 0,.int (27) 0,.str (sn "/claim/cut.py") 286],#[]⟩),(86,⟨.type "code",Vm,.fields #[.str (sn "add") 288,.str (sn "TopologicalSorter.add") 289,.str (sn "/claim/cut.py") 290,.int (32) 0,.int (2) 0,.int (0) 0,.int (0) 0,.int (7) 0,.ref 81,.bool Vn,.int (181) 0,.ref 82,.none,.ref 83,.ref 84,.ref 85,.int (297) 0,.int (32) 0,.str (sn "/claim/cut.py") 298],#[]⟩),(91,⟨.type "code",Vm,.fields #[.str (sn "prepare") 300,.str (sn "TopologicalSorter.prepare") 301,.str (sn "/claim/cut.py") 302,.int (41) 0,.int (1) 0,.int (0) 0,.int (0) 0,.int (3) 0,.ref 88,.bool Vn,.int (181) 0,.ref 89,.none,.none,.none,.ref 90,.int (303) 0,.int (41) 0,.str (sn "/claim/cut.py") 304],#[]⟩),(98,⟨.type "code",Vm,.fields #[.str (sn "get_ready") 306,.str (sn "TopologicalSorter.get_ready") 307,.str (sn "/claim/cut.py") 308,.int (49) 0,.int (1) 0,.int (0) 0,.int (0) 0,.int (3) 0,.ref 93,.bool Vn,.int (181) 0,.ref 94,.none,.ref 95,.ref 96,.ref 97,.int (313) 0,.int (49) 0,.str (sn "/claim/cut.py") 314],#[]⟩),(105,⟨.type "code",Vm,.fields #[.str (sn "is_active") 316,.str (sn "TopologicalSorter.is_active") 317,.str (sn "/claim/cut.py") 318,.int (60) 0,.int (1) 0,.int (0) 0,.int (0) 0,.int (3) 0,.ref 100,.bool Vn,.int (181) 0,.ref 101,.none,.ref 102,.ref 103,.ref 104,.int (320) 0,.int (60) 0,.str (sn "/claim/cut.py") 321],#[]⟩),(119,⟨.type "code",Vm,.fields #[.str (sn "done") 330,.str (sn "TopologicalSorter.done") 331,.str (sn "/claim/cut.py") 332,.int (68) 0,.int (1) 0,.int (0) 0,.int (0) 0,.int (7) 0,.ref 114,.bool Vn,.int (181) 0,.ref 115,.none,.ref 116,.ref 117,.ref 118,.int (341) 0,.int (68) 0,.str (sn "/claim/cut.py") 342],#[]⟩),(126,⟨.type "code",Vm,.fields #[.str (sn "_find_cycle") 344,.str (sn "TopologicalSorter._find_cycle") 345,.str (sn "/claim/cut.py") 346,.int (91) 0,.int (1) 0,.int (0) 0,.int (0) 0,.int (3) 0,.ref 121,.bool Vn,.int (181) 0,.ref 122,.none,.ref 123,.ref 124,.ref 125,.int (354) 0,.int (91) 0,.str (sn "/claim/cut.py") 355],#[]⟩),(147,⟨.type "code",Vm,.fields #[.str (sn "read_uint1") 378,.str (sn "read_uint1") 379,.str (sn "/claim/cut.py") 380,.int (123) 0,.int (1) 0,.int (0) 0,.int (0) 0,.int (3) 0,.ref 142,.bool Vn,.int (181) 0,.ref 143,.none,.ref 144,.ref 145,.ref 146,.int (383) 0,.int (123) 0,.str (sn "/claim/cut.py") 384],#[]⟩),(154,⟨.type "code",Vm,.fields #[.str (sn "read_string1") 386,.str (sn "read_string1") 387,.str (sn "/claim/cut.py") 388,.int (128) 0,.int (1) 0,.int (0) 0,.int (0) 0,.int (3) 0,.ref 149,.bool Vn,.int (181) 0,.ref 150,.none,.ref 151,.ref 152,.ref 153,.int (392) 0,.int (128) 0,.str (sn "/claim/cut.py") 393],#[]⟩),(161,⟨.type "code",Vm,.fields #[.str (sn "read_bytes1") 395,.str (sn "read_bytes1") 396,.str (sn "/claim/cut.py") 397,.int (135) 0,.int (1) 0,.int (0) 0,.int (0) 0,.int (3) 0,.ref 156,.bool Vn,.int (181) 0,.ref 157,.none,.ref 158,.ref 159,.ref 160,.int (401) 0,.int (135) 0,.str (sn "/claim/cut.py") 402],#[]⟩),(175,⟨.type "code",Vm,.fields #[.str (sn "__init__") 416,.str (sn "_Example.__init__") 417,.str (sn "/claim/cut.py") 418,.int (144) 0,.int (2) 0,.int (0) 0,.int (0) 0,.int (3) 0,.ref 170,.bool Vn,.int (181) 0,.ref 171,.none,.ref 172,.ref 173,.ref 174,.int (421) 0,.int (144) 0,.str (sn "/claim/cut.py") 422],#[]⟩),(189,⟨.type "code",Vm,.fields #[.str (sn "S_IFMT") 435,.str (sn "S_IFMT") 436,.str (sn "/claim/cut.py") 437,.int (147) 0,.int (1) 0,.int (0) 0,.int (0) 0,.int (3) 0,.ref 184,.bool Vn,.int (181) 0,.ref 185,.none,.ref 186,.ref 187,.ref 188,.int (439) 0,.int (147) 0,.str (sn "/claim/cut.py") 440],#[]⟩),(196,⟨.type "code",Vm,.fields #[.str (sn "S_ISDIR") 456,.str (sn "S_ISDIR") 457,.str (sn "/claim/cut.py") 458,.int (156) 0,.int (1) 0,.int (0) 0,.int (0) 0,.int (3) 0,.ref 191,.bool Vn,.int (181) 0,.ref 192,.none,.ref 193,.ref 194,.ref 195,.int (460) 0,.int (156) 0,.str (sn "/claim/cut.py") 461],#[]⟩),(236,⟨.type "code",Vm,.fields #[.str (sn "filemode") 513,.str (sn "filemode") 514,.str (sn "/claim/cut.py") 515,.int (171) 0,.int (1) 0,.int (0) 0,.int (0) 0,.int (3) 0,.ref 231,.bool Vn,.int (181) 0,.ref 232,.none,.ref 233,.ref 234,.ref 235,.int (522) 0,.int (171) 0,.str (sn "/claim/cut.py") 523],#[]⟩),(243,⟨.type "code",Vm,.fields #[.str (sn "_law_stream") 527,.str (sn "_law_stream") 528,.str (sn "/claim/cut.py") 529,.int (189) 0,.int (2) 0,.int (0) 0,.int (0) 0,.int (3) 0,.ref 238,.bool Vn,.int (181) 0,.ref 239,.none,.ref 240,.ref 241,.ref 242,.int (536) 0,.int (189) 0,.str (sn "/claim/cut.py") 537],#[]⟩),(248,⟨.type "code",Vm,.fields #[.str (sn "_law_drawn") 539,.str (sn "_law_drawn") 540,.str (sn "/claim/cut.py") 541,.int (198) 0,.int (1) 0,.int (0) 0,.int (0) 0,.int (3) 0,.ref 245,.bool Vn,.int (181) 0,.ref 246,.none,.none,.none,.ref 247,.int (542) 0,.int (198) 0,.str (sn "/claim/cut.py") 543],#[]⟩),(255,⟨.type "code",Vm,.fields #[.str (sn "_law_tape") 545,.str (sn "_law_tape") 546,.str (sn "/claim/cut.py") 547,.int (210) 0,.int (1) 0,.int (0) 0,.int (0) 0,.int (3) 0,.ref 250,.bool Vn,.int (181) 0,.ref 251,.none,.ref 252,.ref 253,.ref 254,.int (554) 0,.int (210) 0,.str (sn "/claim/cut.py") 555],#[]⟩),(262,⟨.type "code",Vm,.fields #[.str (sn "_law_things") 557,.str (sn "_law_things") 558,.str (sn "/claim/cut.py") 559,.int (215) 0,.int (1) 0,.int (0) 0,.int (0) 0,.int (3) 0,.ref 257,.bool Vn,.int (181) 0,.ref 258,.none,.ref 259,.ref 260,.ref 261,.int (567) 0,.int (215) 0,.str (sn "/claim/cut.py") 568],#[]⟩),(267,⟨.type "code",Vm,.fields #[.str (sn "_law_second_tape") 570,.str (sn "_law_second_tape") 571,.str (sn "/claim/cut.py") 572,.int (227) 0,.int (1) 0,.int (0) 0,.int (0) 0,.int (3) 0,.ref 264,.bool Vn,.int (181) 0,.ref 265,.none,.none,.none,.ref 266,.int (573) 0,.int (227) 0,.str (sn "/claim/cut.py") 574],#[]⟩),(274,⟨.type "code",Vm,.fields #[.str (sn "_law_rows") 576,.str (sn "_law_rows") 577,.str (sn "/claim/cut.py") 578,.int (232) 0,.int (1) 0,.int (0) 0,.int (0) 0,.int (3) 0,.ref 269,.bool Vn,.int (181) 0,.ref 270,.none,.ref 271,.ref 272,.ref 273,.int (585) 0,.int (232) 0,.str (sn "/claim/cut.py") 586],#[]⟩),(281,⟨.type "code",Vm,.fields #[.str (sn "_law_row") 588,.str (sn "_law_row") 589,.str (sn "/claim/cut.py") 590,.int (242) 0,.int (2) 0,.int (0) 0,.int (0) 0,.int (3) 0,.ref 276,.bool Vn,.int (181) 0,.ref 277,.none,.ref 278,.ref 279,.ref 280,.int (597) 0,.int (242) 0,.str (sn "/claim/cut.py") 598],#[]⟩),(286,⟨.type "code",Vm,.fields #[.str (sn "_law_heights") 600,.str (sn "_law_heights") 601,.str (sn "/claim/cut.py") 602,.int (250) 0,.int (1) 0,.int (0) 0,.int (0) 0,.int (3) 0,.ref 283,.bool Vn,.int (181) 0,.ref 284,.none,.none,.none,.ref 285,.int (603) 0,.int (250) 0,.str (sn "/claim/cut.py") 604],#[]⟩),(291,⟨.type "code",Vm,.fields #[.str (sn "_law_looks") 606,.str (sn "_law_looks") 607,.str (sn "/claim/cut.py") 608,.int (258) 0,.int (1) 0,.int (0) 0,.int (0) 0,.int (3) 0,.ref 288,.bool Vn,.int (181) 0,.ref 289,.none,.none,.none,.ref 290,.int (609) 0,.int (258) 0,.str (sn "/claim/cut.py") 610],#[]⟩),(298,⟨.type "code",Vm,.fields #[.str (sn "_law_early") 612,.str (sn "_law_early") 613,.str (sn "/claim/cut.py") 614,.int (268) 0,.int (1) 0,.int (0) 0,.int (0) 0,.int (3) 0,.ref 293,.bool Vn,.int (181) 0,.ref 294,.none,.ref 295,.ref 296,.ref 297,.int (617) 0,.int (268) 0,.str (sn "/claim/cut.py") 618],#[]⟩),(305,⟨.type "code",Vm,.fields #[.str (sn "_law_sorter") 620,.str (sn "_law_sorter") 621,.str (sn "/claim/cut.py") 622,.int (274) 0,.int (1) 0,.int (0) 0,.int (0) 0,.int (3) 0,.ref 300,.bool Vn,.int (181) 0,.ref 301,.none,.ref 302,.ref 303,.ref 304,.int (627) 0,.int (274) 0,.str (sn "/claim/cut.py") 628],#[]⟩),(310,⟨.type "code",Vm,.fields #[.str (sn "_law_ring") 630,.str (sn "_law_ring") 631,.str (sn "/claim/cut.py") 632,.int (284) 0,.int (2) 0,.int (0) 0,.int (0) 0,.int (3) 0,.ref 307,.bool Vn,.int (181) 0,.ref 308,.none,.none,.none,.ref 309,.int (633) 0,.int (284) 0,.str (sn "/claim/cut.py") 634],#[]⟩),(315,⟨.type "code",Vm,.fields #[.str (sn "_law_kept") 636,.str (sn "_law_kept") 637,.str (sn "/claim/cut.py") 638,.int (291) 0,.int (2) 0,.int (0) 0,.int (0) 0,.int (3) 0,.ref 312,.bool Vn,.int (181) 0,.ref 313,.none,.none,.none,.ref 314,.int (639) 0,.int (291) 0,.str (sn "/claim/cut.py") 640],#[]⟩),(322,⟨.type "code",Vm,.fields #[.str (sn "_law_groups") 642,.str (sn "_law_groups") 643,.str (sn "/claim/cut.py") 644,.int (310) 0,.int (1) 0,.int (0) 0,.int (0) 0,.int (3) 0,.ref 317,.bool Vn,.int (181) 0,.ref 318,.none,.ref 319,.ref 320,.ref 321,.int (648) 0,.int (310) 0,.str (sn "/claim/cut.py") 649],#[]⟩),(327,⟨.type "code",Vm,.fields #[.str (sn "_law_as_due") 651,.str (sn "_law_as_due") 652,.str (sn "/claim/cut.py") 653,.int (319) 0,.int (4) 0,.int (0) 0,.int (0) 0,.int (3) 0,.ref 324,.bool Vn,.int (181) 0,.ref 325,.none,.none,.none,.ref 326,.int (654) 0,.int (319) 0,.str (sn "/claim/cut.py") 655],#[]⟩),(332,⟨.type "code",Vm,.fields #[.str (sn "law") 657,.str (sn "law") 658,.str (sn "/claim/cut.py") 659,.int (331) 0,.int (1) 0,.int (0) 0,.int (0) 0,.int (3) 0,.ref 329,.bool Vn,.int (181) 0,.ref 330,.none,.none,.none,.ref 331,.int (660) 0,.int (331) 0,.str (sn "/claim/cut.py") 661],#[]⟩),(198,⟨.type "tuple",Vm,.seq #[.int (40960) 452,.str (sn "l") 487] 0,#[]⟩),(199,⟨.type "tuple",Vm,.seq #[.int (49152) 454,.str (sn "s") 488] 0,#[]⟩),(200,⟨.type "tuple",Vm,.seq #[.int (32768) 448,.str (sn "-") 489] 0,#[]⟩),(201,⟨.type "tuple",Vm,.seq #[.int (24576) 446,.str (sn "b") 490] 0,#[]⟩),(202,⟨.type "tuple",Vm,.seq #[.int (16384) 442,.str (sn "d") 491] 0,#[]⟩),(203,⟨.type "tuple",Vm,.seq #[.int (8192) 444,.str (sn "c") 492] 0,#[]⟩),(204,⟨.type "tuple",Vm,.seq #[.int (4096) 450,.str (sn "p") 493] 0,#[]⟩),(205,⟨.type "tuple",Vm,.seq #[.ref 198,.ref 199,.ref 200,.ref 201,.ref 202,.ref 203,.ref 204] 0,#[]⟩),(206,⟨.type "tuple",Vm,.seq #[.int (256) 469,.str (sn "r") 494] 0,#[]⟩),(207,⟨.type "tuple",Vm,.seq #[.ref 206] 0,#[]⟩),(208,⟨.type "tuple",Vm,.seq #[.int (128) 471,.str (sn "w") 495] 0,#[]⟩),(209,⟨.type "tuple",Vm,.seq #[.ref 208] 0,#[]⟩),(210,⟨.type "tuple",Vm,.seq #[.int (2112) 496,.str (sn "s") 497] 0,#[]⟩),(211,⟨.type "tuple",Vm,.seq #[.int (2048) 463,.str (sn "S") 498] 0,#[]⟩),(212,⟨.type "tuple",Vm,.seq #[.int (64) 473,.str (sn "x") 499] 0,#[]⟩),(213,⟨.type "tuple",Vm,.seq #[.ref 210,.ref 211,.ref 212] 0,#[]⟩),(214,⟨.type "tuple",Vm,.seq #[.int (32) 475,.str (sn "r") 500] 0,#[]⟩),(215,⟨.type "tuple",Vm,.seq #[.ref 214] 0,#[]⟩),(216,⟨.type "tuple",Vm,.seq #[.int (16) 477,.str (sn "w") 501] 0,#[]⟩),(217,⟨.type "tuple",Vm,.seq #[.ref 216] 0,#[]⟩),(218,⟨.type "tuple",Vm,.seq #[.int (1032) 502,.str (sn "s") 503] 0,#[]⟩),(219,⟨.type "tuple",Vm,.seq #[.int (1024) 465,.str (sn "S") 504] 0,#[]⟩),(220,⟨.type "tuple",Vm,.seq #[.int (8) 479,.str (sn "x") 505] 0,#[]⟩),(221,⟨.type "tuple",Vm,.seq #[.ref 218,.ref 219,.ref 220] 0,#[]⟩),(222,⟨.type "tuple",Vm,.seq #[.int (4) 481,.str (sn "r") 506] 0,#[]⟩),(223,⟨.type "tuple",Vm,.seq #[.ref 222] 0,#[]⟩),(224,⟨.type "tuple",Vm,.seq #[.int (2) 483,.str (sn "w") 507] 0,#[]⟩),(225,⟨.type "tuple",Vm,.seq #[.ref 224] 0,#[]⟩),(226,⟨.type "tuple",Vm,.seq #[.int (513) 508,.str (sn "t") 509] 0,#[]⟩),(227,⟨.type "tuple",Vm,.seq #[.int (512) 467,.str (sn "T") 510] 0,#[]⟩),(228,⟨.type "tuple",Vm,.seq #[.int (1) 485,.str (sn "x") 511] 0,#[]⟩),(229,⟨.type "tuple",Vm,.seq #[.ref 226,.ref 227,.ref 228] 0,#[]⟩),(230,⟨.type "tuple",Vm,.seq #[.ref 205,.ref 207,.ref 209,.ref 213,.ref 215,.ref 217,.ref 221,.ref 223,.ref 225,.ref 229] 0,#[]⟩)]
noncomputable def KA:List Addr:=[1,4,3,39,40,41,42,43,46,54,55,56,136,137,138,139,178,179,180,181,66,36,73,80,87,92,99,106,120,127,148,155,162,176,190,197,237,244,249,256,263,268,275,282,287,292,299,306,311,316,323,328,333,35,72,79,86,91,98,105,119,126,147,154,161,175,189,196,236,243,248,255,262,267,274,281,286,291,298,305,310,315,322,327,332,198,199,200,201,202,203,204,205,206,207,208,209,210,211,212,213,214,215,216,217,218,219,220,221,222,223,224,225,226,227,228,229,230]
theorem JA (P:LB):KA=(KK P).map (·.1):=rfl
structure Bs (c:Cn):Prop where
 k:(KK c.w.params).In c.hb
 gl:∀n d,bY n ib=Vl d->∃val,(∃mg,c.hb.Ns LH mg/\(mg n=Vl val\/(mg n=Vm/\∃mb,c.hb.Ns M5 mb/\mb n=Vl val)))/\∀imm,(∀p∈c.imm0,p∈imm)->RD c.w imm val d
 lim:c.hb.NoLimit
theorem Bs.sys {c:Cn}(B:Bs c):∃o,c.hb.get? ME=Vl o:=⟨_,B.k ME _ rfl⟩
theorem Bs.kin {c:Cn}(B:Bs c){h:Heap}(k:c.hb.StaysIn h):(KK c.w.params).In h:=B.k.keeps k
structure Ok (n:Nat) (cx:Cx) (z:Z):Prop where
 B:Bs z.c
 top:cx.comp=Vo->∃L outer,z.c.fs=z.env::outer/\z.env.frame=Vl L
 frames:z.A.frames=Vl z.c.fs
 hd:cx.inH=Vo->z.A.handled=Vm
 depth:z.A.depth+n<recursionLimit
 units:z.A.units+8*n+200<cLine
abbrev Kp (h h':Heap):Prop:=∀b o,h.get? b=Vl o->h'.get? b=Vl o
theorem bF (h:Heap):h.get? h.objs.size=none:=KS (KH _)
theorem aM (h:Heap) (o:Obj):Kp h (h.push o):=λ_ _ e=>KI _ e
def Lf {β:Type}(w:Ld) (A:Lc) (x:X) (t:OW β) (R:Imm->β->Prop):Prop:=∀(Q:β->Kh->Prop) (E:Value->Kh->Prop),(∀b h' tk ex,Kp x.h h'->(∀p∈ex,h'.get? p.1=Vl p.2/\x.h.get? p.1=Vm)->R (ex++x.imm) b->Q b {x.S with heap:=h',toks:=tk})->Km (Kn PR w) A t Q E x.S
abbrev fT (w:Ld) (A:Lc) (x:X) (t:OW Value) (d:D):Prop:=Lf w A x t λa b=>RD w a b d
abbrev Ij (w:Ld) (A:Lc) (x:X) (t:OW Bool) (d:Bool):Prop:=Lf w A x t λ_ b=>b=d
section
variable {w:Ld}{A:Lc}{c:Cn}{cx:Cx}{z:Z}{s:St}{x:X}{st:List SObj}{t:OW Value}{d:D}{β:Type}{T:OW β}
theorem At.kp (a:At cx z s x){h':Heap}{tk:Nat}{ex:Imm}(k:Kp x.h h') (e:∀p∈ex,h'.get? p.1=Vl p.2/\x.h.get? p.1=Vm){r:Prop}(h:r):Nx cx z x s (x.gr h' tk ex) r:=Nx.heap (W:=λ_=>False) a (a.go trivial) (λb o q=>.inr (.inl (k b o q))) (λ_ f=>f.elim) e h
theorem Lf.ref {α:Type}{RB:X->β->α->Prop}{u:α}(l:Lf z.c.w z.A x T λd b=>∀y:X,y.ρ=x.ρ->y.imm=d->RB y b u) (a:At cx z s x):aN cx z RB x (.ok u s) (tr z T):=λQ E q=>
 l Q E λb g h f k e r=>q b (x.gr g h f) (a.kp k e (r _ rfl rfl))
theorem Lf.refD (l:fT z.c.w z.A x t d) (a:At cx z s x):aN cx z (aZ z) x (.ok (.d d) s) (tr z t):=λQ E q=>l Q E λb g h f k e r=>q b (x.gr g h f) (a.kp k e r)
theorem Lf.same {R:Imm->β->Prop}{b:β}(r:R x.imm b) (h:∀(Q:β->Kh->Prop) (E:Value->Kh->Prop),Q b x.S->Km (Kn PR w) A T Q E x.S):Lf w A x T R:=λQ E q=>h Q E (q b x.h x.S.toks [] (λ_ _ e=>e) (λ_ h=>nomatch h) r)
theorem Lf.stay {R:Imm->β->Prop}(h:∀(Q:β->Kh->Prop) (E:Value->Kh->Prop),(∀b h' tk,Kp x.h h'->R x.imm b->Q b {x.S with heap:=h',toks:=tk})->Km (Kn PR w) A T Q E x.S):Lf w A x T R:=λQ E q=>h Q E λb h' tk k r=>q b h' tk [] k (λ_ h=>nomatch h) r
theorem Lf.tok {R:Imm->β->Prop}{b:β}{tk:Nat}(r:R x.imm b) (h:∀(Q:β->Kh->Prop) (E:Value->Kh->Prop),Q b {x.S with toks:=tk}->Km (Kn PR w) A T Q E x.S):Lf w A x T R:=.stay λQ E q=>h Q E (q b x.h tk (λ_ _ e=>e) r)
theorem Lf.int {i:Int}(h:∀(Q:Value->Kh->Prop) (E:Value->Kh->Prop),Q (.int i x.S.toks) {x.S with toks:=x.S.toks+1}->Km (Kn PR w) A t Q E x.S):fT w A x t (.int i):=.tok (.int _ _) h
theorem Lf.push {R:Imm->Value->Prop}{o:Obj}{tk:Nat}(b:o.isFreed=Vo) (r:R ((x.h.objs.size,o)::x.imm) (.ref x.h.objs.size)) (h:∀(Q:Value->Kh->Prop) (E:Value->Kh->Prop),Q (.ref x.h.objs.size) {x.S with heap:=x.h.push o,toks:=tk}->Km (Kn PR w) A t Q E x.S):Lf w A x t R:=λQ E q=>h Q E (q _ _ tk [(x.h.objs.size,o)] (aM _ _) (λp a=>by rw[Kg.mp a];exact ⟨Kq _ b,bF _⟩) r)
theorem Lf.grown {R:Imm->Value->Prop}(h:∀(Q:Value->Kh->Prop) (E:Value->Kh->Prop),(∀h' tk a o,Kp x.h h'->x.h.get? a=Vm->h'.get? a=Vl o->R ((a,o)::x.imm) (.ref a)->Q (.ref a) {x.S with heap:=h',toks:=tk})->Km (Kn PR w) A t Q E x.S):Lf w A x t R:=λQ E q=>h Q E λh' tk a o k c d r=>q _ h' tk [(a,o)] k (λp b=>by rw[Kg.mp b];exact ⟨d,c⟩) r
theorem Lf.of {R:Imm->β->Prop}{a:Type}{d:OW a}{R':Imm->a->Prop}{c:Lc}(l:Lf w A x T R) (h:∀(Q:a->Kh->Prop) (E:Value->Kh->Prop),(∀b h' tk ex,Kp x.h h'->(∀p∈ex,h'.get? p.1=Vl p.2/\x.h.get? p.1=Vm)->R' (ex++x.imm) b->Q b {x.S with heap:=h',toks:=tk})->Km (Kn PR w) A T (λb f=>∃h' tk ex,f={x.S with heap:=h',toks:=tk}/\Kp x.h h'/\(∀p∈ex,h'.get? p.1=Vl p.2/\x.h.get? p.1=Vm)/\R (ex++x.imm) b) E x.S->Km (Kn PR w) c d Q E x.S):Lf w c x d R':=λQ E q=>h Q E q (l _ E λb h' tk ex k e r=>y3 h' tk ex (w4 rfl k e r))
theorem eO {o:SObj}{d:List D}(e:o.list?=Vl d):o=.list d:=by cases o<;>first | exact au e | exact congrArg _ (J9 e)
theorem mj {o:SObj}{d:List Nat}(e:o.nexts?=Vl d):o=.nexts d:=by cases o<;>first | exact au e | exact congrArg _ (J9 e)
theorem iL {o:SObj}{d:List (Int×D)}(e:o.dict?=Vl d):o=.dict d:=by cases o<;>first | exact au e | exact congrArg _ (J9 e)
theorem ly {o:SObj}{d:List (Int×Nat)}(e:o.objs?=Vl d):o=.objs d:=by cases o<;>first | exact au e | exact congrArg _ (J9 e)
theorem mI {o:SObj}{d:List (Int×Nat)}(e:o.fobjs?=Vl d):o=.fobjs d:=by cases o<;>first | exact au e | exact congrArg _ (J9 e)
theorem ym {o:SObj}{d:List Int}(e:o.set?=Vl d):o=.set d:=by cases o<;>first | exact au e | exact congrArg _ (J9 e)
theorem pE {o:SObj}{d:List (Str×V)}(e:o.inst?=Vl d):o=.inst d:=by cases o<;>first | exact au e | exact congrArg _ (J9 e)
theorem uN {o:SObj}{p:Option V×Option V×Option V}(e:o.node?=Vl p):o=.node p.1 p.2.1 p.2.2:=by cases o<;>first | exact au e | exact J9 e▸rfl
theorem BS {o:SObj}{p:Array UInt8×Nat}(e:o.tape?=Vl p):o=.tape p.1 p.2:=by cases o<;>first | exact au e | exact J9 e▸rfl
theorem rt {o:SObj}{d:List (Str×V)}(e:o.einst?=Vl d):o=.einst d:=by cases o<;>first | exact au e | exact congrArg _ (J9 e)
theorem uY {o:SObj}{p:Nat×Nat}(e:o.iter?=Vl p):o=.iter p.1 p.2:=by cases o<;>first | exact au e | exact J9 e▸rfl
theorem Ac {o:SObj}{p:D×List D}(e:o.exc?=Vl p):o=.exc p.1 p.2:=by cases o<;>first | exact au e | exact J9 e▸rfl
variable {v:Value}{u:V}{P:Value->Prop}
structure Thing (c:Cn) (st:List SObj) (x:X) (l:Nat) (a:Addr) (ft:List (Addr×Obj)) (o:SObj):Prop where
 st:st[l]?=Vl o
 rho:x.ρ[l]?=Vl a
 led:x.led[l]?=Vl ft
 foot:eY c.w x.ρ x.imm a o ft
theorem HI.on {α:Type}{f:SObj->Option α}{d:α}(H:HI c st x) (r:RV c.w x.ρ x.imm v u) (e:(u.loc?.bind λl=>(st[l]?).bind f)=Vl d) (k:∀{l a ft o},u=.loc l->Thing c st x l a ft o->f o=Vl d->P (.ref a)):P v:=aA e λl g m=>aA m λo b j=>by
  obtain rfl:=kE g;obtain ⟨a,rfl,h1⟩:=r;obtain ⟨p,ft,h,n,i⟩:=H.foot l o b;obtain rfl:=J9 (h1.symm.trans h);exact k rfl ⟨b,h1,n,i⟩ j
theorem HI.onL {α:Type}{f:Nat->SObj->Option α}{d:α}(H:HI c st x) (r:RV c.w x.ρ x.imm v u) (e:(u.loc?.bind λl=>(st[l]?).bind (f l))=Vl d) (k:∀{l a ft o},u=.loc l->Thing c st x l a ft o->f l o=Vl d->P (.ref a)):P v:=aA e λl b i=>H.on (f:=f l) r (by rw[b];exact i) λ{l' _ _ _} h t g=>by
  obtain rfl:l=l':=by rw[h] at b;exact (J9 b).symm
  exact k h t g
theorem RV.onD (r:RV c.w x.ρ x.imm v u) (e:u.d?=Vl d):RD c.w x.imm v d:=by cases tL e;exact r
theorem Thing.list {l:Nat}{a:Addr}{ft:List (Addr×Obj)}{ds:List D}(t:Thing c st x l a ft (.list ds)) (H:HI c st x):∃us n,ft=[(a,lstO us n)]/\x.h.get? a=Vl (lstO us n)/\us.length<=16777216/\RDs c.w x.imm us ds:=by
 obtain ⟨us,n,rfl,z,r⟩:=t.foot;exact y2 us n (w4 rfl (H.ledIn _ (aD t.led (.head _))) z r)
theorem HI.ls {ds:List D}(H:HI c st x) (r:RV c.w x.ρ x.imm v u) (e:u.ls? st=Vl ds) (k:∀{a us n},x.h.get? a=Vl (lstO us n)->us.length<=16777216->RDs c.w x.imm us ds->P (.ref a)):P v:=cL e (λe=>aA e λd f b=>(r.onD f).onLst b λm z r=>k (H.immIn _ m) z r) λe=>H.on r e λ_ t e=>by
  obtain rfl:=eO e;obtain ⟨us,n,_,h,z,r⟩:=t.list H;exact k h z r
theorem HI.kvs {ds:List (Int×D)}(H:HI c st x) (B:Bs c) (r:RV c.w x.ρ x.imm v u) (e:u.kvs? st=Vl ds) (k:∀{a o kvs},x.h.get? a=Vl o->o.IsDictOf (K8 PR c.w) kvs->(a==ME)=Vo->RKs c.w x.imm kvs ds->P (.ref a)):P v:=cL e (λe=>aA e λd g b=>(r.onD g).onDct b λm h s r=>k (H.immIn _ m) h s r) λe=>H.on r e λ_ t e=>by
  obtain rfl:=iL e;obtain ⟨o,kvs,rfl,h,r⟩:=t.foot;refine k (H.ledIn _ (aD t.led (.head _))) h ?_ r;obtain ⟨i,f⟩:=B.sys;exact beq_eq_false_iff_ne.mpr λq=>au ((H.ledB _ (HI.mem t.led (.head _))).symm.trans (q▸f))
theorem aJ {h:Heap}{a:Addr}{vs:List Value}{n:Nat}(e:h.get? a=Vl (lstO vs n)):h.IsList a vs.toArray:=⟨_,w3 e rfl ⟨n,rfl⟩⟩
theorem my {h:Heap}{a:Addr}{vs:List Value}{n:Nat}(e:h.get? a=Vl (dU vs n)):IsTup h a vs.toArray:=⟨_,w3 e rfl ⟨n,rfl⟩⟩
theorem dn {h:Heap}{a:Addr}{vs:List Value}{n:Nat}(e:h.get? a=Vl (dU vs n)):h.IsTuple a vs.toArray:=⟨_,w3 e rfl ⟨n,rfl⟩⟩
end
end
section
section
set_option maxHeartbeats 0
noncomputable def qv:Program:={PR with main:={PR.main with body:=PR.main.body.drop 52}}
noncomputable def Jp:List Str:=PR.boundNames.filter λn=>n != Mt "law"
noncomputable def Gh (P:LB):Frag:=(6,⟨.type "dict",Vm,.dict #[] 0,#[]⟩)::(239,Pp #[])::KK P
noncomputable def JZ:List Addr:=6::239::KA
noncomputable def HH:Hook:=kHook Gh JZ (λ_=>rfl)
theorem G3:LeftO PR qv Jp (λs=>xlAt qv [] s&&recOk [] s) (UU HH) (UT HH) 4684:=λw=>by kernel_rfl
end
end
section
local macro_rules (kind:=tacticKernel_rfl)|s=>Mine.Internal.mK s
section
variable {w:Ld}{A:Lc}{c:Cn}{x:X}{st:List SObj}{a b:Value}{d e o:D}{imm:Imm}
theorem et {t:OW Value}(h:Vl d=Vl o) (k:fT w A x t d):fT w A x t o:=J9 h▸k
theorem FN {t:OW Value}(h:d=o) (k:fT w A x t d):fT w A x t o:=h▸k
theorem Hr {t:OW Bool}{d o:Bool}(h:d=o) (k:Ij w A x t d):Ij w A x t o:=h▸k
theorem RD.intL {β:Type}{v:Value}{R:Imm->β->Prop}{T:Value->OW β}{i:Int}(r:RD w imm v d) (e:d.int?=Vl i) (k:∀t,Lf w A x (T (.int i t)) R):Lf w A x (T v) R:=RD.onInt (P:=λv=>Lf w A x (T v) R) r e k
theorem RD.strL {β:Type}{v:Value}{R:Imm->β->Prop}{T:Value->OW β}{i:Str}(r:RD w imm v d) (e:d.str?=Vl i) (k:∀t,i.cps.size<=16777216->Lf w A x (T (.str i t)) R):Lf w A x (T v) R:=RD.onStr (P:=λv=>Lf w A x (T v) R) r e k
theorem RD.bytesL {β:Type}{v:Value}{R:Imm->β->Prop}{T:Value->OW β}{i:Array UInt8}(r:RD w imm v d) (e:d.bytes?=Vl i) (k:∀t,i.size<=16777216->Lf w A x (T (.bytes i t)) R):Lf w A x (T v) R:=RD.onBytes (P:=λv=>Lf w A x (T v) R) r e k
theorem RD.boolL {β:Type}{v:Value}{R:Imm->β->Prop}{T:Value->OW β}{i:Bool}(r:RD w imm v d) (e:d.bool?=Vl i) (k:Lf w A x (T (.bool i)) R):Lf w A x (T v) R:=RD.onBool (P:=λv=>Lf w A x (T v) R) r e k
theorem RD.noneL {β:Type}{v:Value}{R:Imm->β->Prop}{T:Value->OW β}{i:Unit}(r:RD w imm v d) (e:d.none?=Vl i) (k:Lf w A x (T .none) R):Lf w A x (T v) R:=RD.onNone (P:=λv=>Lf w A x (T v) R) r e k
theorem RD.tupL {β:Type}{v:Value}{R:Imm->β->Prop}{T:Value->OW β}{l:List D}(r:RD w imm v d) (e:d.tup?=Vl l) (k:∀{a us n},(a,dU us n)∈imm->us.length<=16777216->RDs w imm us l->Lf w A x (T (.ref a)) R):Lf w A x (T v) R:=RD.onTup (P:=λv=>Lf w A x (T v) R) r e k
theorem RD.lstL {β:Type}{v:Value}{R:Imm->β->Prop}{T:Value->OW β}{l:List D}(r:RD w imm v d) (e:d.lst?=Vl l) (k:∀{a us n},(a,lstO us n)∈imm->us.length<=16777216->RDs w imm us l->Lf w A x (T (.ref a)) R):Lf w A x (T v) R:=RD.onLst (P:=λv=>Lf w A x (T v) R) r e k
theorem HI.lsL {β:Type}{v:Value}{u:V}{R:Imm->β->Prop}{T:Value->OW β}{ds:List D}(H:HI c st x) (r:RV c.w x.ρ x.imm v u) (e:u.ls? st=Vl ds) (k:∀{a us n},x.h.get? a=Vl (lstO us n)->us.length<=16777216->RDs c.w x.imm us ds->Lf w A x (T (.ref a)) R):Lf w A x (T v) R:=HI.ls (P:=λv=>Lf w A x (T v) R) H r e k
theorem HI.kvsL {β:Type}{v:Value}{u:V}{R:Imm->β->Prop}{T:Value->OW β}{ds:List (Int×D)}(H:HI c st x) (B:Bs c) (r:RV c.w x.ρ x.imm v u) (e:u.kvs? st=Vl ds) (k:∀{a o kvs},x.h.get? a=Vl o->o.IsDictOf (K8 PR c.w) kvs->(a==ME)=Vo->RKs c.w x.imm kvs ds->Lf w A x (T (.ref a)) R):Lf w A x (T v) R:=HI.kvs (P:=λv=>Lf w A x (T v) R) H B r e k
theorem dS {β α:Type}{o:α}{R:Imm->β->Prop}{T:Value->Value->OW β}{f:Int->Int->Option α}(n:RD w imm a d) (l:RD w imm b e) (h:jr d e f=Vl o) (k:∀i j t u,f i j=Vl o->Lf w A x (T (.int i t) (.int j u)) R):Lf w A x (T a b) R:=aA h λi c p=>aA p λj g m=>n.intL (T:=λa=>T a b) c λt=>l.intL g λu=>k i j t u m
theorem BY {β α:Type}{o:α}{R:Imm->β->Prop}{T:Value->Value->OW β}{f:Str->Str->Option α}(n:RD w imm a d) (l:RD w imm b e) (h:BZ d e f=Vl o) (k:∀i j t u,f i j=Vl o->Lf w A x (T (.str i t) (.str j u)) R):Lf w A x (T a b) R:=aA h λi c p=>aA p λj g m=>n.strL (T:=λa=>T a b) c λt _=>l.strL g λu _=>k i j t u m
theorem Cv {β α:Type}{o:α}{R:Imm->β->Prop}{T:Value->Value->OW β}{f:List D->List D->Option α}(t:RD w imm a d) (s:RD w imm b e) (h:Cw d e f=Vl o) (k:∀{p us n q vs m} i j,(p,lstO us n)∈imm->us.length<=16777216->RDs w imm us i->(q,lstO vs m)∈imm->vs.length<=16777216->RDs w imm vs j->f i j=Vl o->Lf w A x (T (.ref p) (.ref q)) R):Lf w A x (T a b) R:=aA h λi g y=>aA y λj l u=>t.lstL (T:=λa=>T a b) g λm z r=>s.lstL l λC v c=>k i j m z r C v c u
theorem yi {i:Int}(h:cM i):Md.Int.intBits i<=64:=intBits_le (by unfold cM at h;simpa using h)
theorem Dm {a b:Int}(c:0<=a) (d:0<=b):((a.toNat&&& b.toNat:Nat):Int)=Sy a b:=by unfold Sy;simp[c,d]
theorem Ca (vs:Array Value):∀(n:Nat) (b:Array Value),Un (λx1 x2:Array Value=>x1++x2) b (LP n vs)=b++(LP n vs.toList).flatten.toArray:=@nr _ (@λb=>by simp) (λn a=>(@λb=>by
  rw[RZ,O4,a];apply Array.ext';simp[RZ]))
theorem RDs.rep {vs:List Value}{ds:List D}(h:RDs w imm vs ds):∀n,RDs w imm (LP n vs).flatten (LP n ds).flatten
 | 0=>.nil
 | n+1=>h.append (RDs.rep h n)
theorem mD {x:X}{w:Ld}{vs:List Value}{ds:List D}(r:RDs w x.imm vs ds){p:Addr×Obj}:RDs w (p::x.imm) vs ds:=r.mono λ_ h=>.tail _ h
theorem bQ {n:Nat}(h:n<=16777216):n<=sizeLine:=by rw[Oq];exact h
def Gn (w:Ld) (A:Lc) (x:X) (t:OW Value) (ds:List D):Prop:=∃us tk,RDs w x.imm us ds/\us.length<=16777216/\∀(Q:Value->Kh->Prop) (E:Value->Kh->Prop),Q (.ref x.h.objs.size) {x.S with heap:=x.h.push (lstO us 0),toks:=tk}->Km (Kn PR w) A t Q E x.S
theorem Gn.data {A:Lc}{x:X}{t:OW Value}{ds:List D}(h:Gn w A x t ds):fT w A x t (.lst ds):=h.elim λb h=>h.elim λa h=>.push rfl (.lst (.head _) h.2.1 (mD h.1)) h.2.2
theorem yT {A:Lc}{x:X}{t:OW Value}{us:List Value}{ds:List D}{tk:Nat}(r:RDs w x.imm us ds) (hz:us.length<=16777216) (h:∀(Q:Value->Kh->Prop) (E:Value->Kh->Prop),Q (.ref x.h.objs.size) {x.S with heap:=x.h.push (lstO us 0),toks:=tk}->Km (Kn PR w) A t Q E x.S):fT w A x t (.lst ds):=Gn.data (y2 us tk (w3 r hz h))
theorem yW {p:Addr}{us:List Value}{n:Nat}{ds:List D}{i:Int}{t:PP}(a:x.h.get? p=Vl (lstO us n)) (r:RDs w x.imm us ds) (g:ds.length=1) (j:0<=i) (k:i<=1000):Gn w A x (Rr .Mult (.ref p) (.int i t)) (LP i.toNat ds).flatten:=by
 have b:us.length=1:=r.length.trans g;have d:=r.rep i.toNat;have e:Un (λx1 x2:Array Value=>x1++x2) #[] (LP (if us.toArray.isEmpty=Vn then 0 else i.toNat) us.toArray)=(LP i.toNat us).flatten.toArray:=by
  rw[Ca,if_neg (by simp;intro q;subst q;cases b)];simp
 have f:(LP i.toNat us).flatten.length<=16777216:=by
  rw[List.length_flatten,List.map_replicate,List.sum_replicate_nat,b];lia
 refine y2 _ x.S.toks (w3 d f (λQ E q=>?_));refine wpAny_binaryOp_repeat_ref (U:="int") (by decide) ⟨_,a,rfl⟩ (λc=>typeIs_int c i t) noFill_list_mul F.fills_int_mul F.slot_int_rmul repeat_list F.slot_int_index.lookup (Qi F.slot_int_rmul (typeIs_int x.S i t) F.entry_int_rmul (F.args_int_rmul_2 _ _) (int___rmul___int_list i t p us.toArray n) (w4 a rfl ⟨_,a,rfl⟩ (Qi F.slot_list_mul ⟨_,a,rfl⟩ F.entry_list_mul (F.args_list_mul_2 _ _) (AutoListH.list___mul___list_int_3 p us.toArray n i t ?_ ?_ ?_) ⟨a,?_⟩)))
 ·unfold Md.List.listFitsIndex;simp;lia
 ·simp[b];lia
 ·unfold Md.List.listTooLong;simp[b];rw[Oq];lia
 ·rw[e];exact q
theorem F3 {op:Nw}(H:HI c st x) (k:RD c.w x.imm a d) (g:RD c.w x.imm b e) (h:HK op d e=Vl o):fT c.w A x (Rr op a b) o:=by
 cases op with
 | Add=>
  exact cL h (λh=>dS k g h λi j t u h=>et h <| .int λQ E q=>add_int q) λh=>cL h (λh=>BY k g h λi j t u h=>bD h λf h=>et h <| .stay λQ E q=>add_str (λp tk=>q (.str _ p) x.h tk (λ_ _ e=>e) (RD.str (i++j) p (by rw[Str.cps_append,NG];walk_at "n"))) (bQ (by simp only[UH];walk_at "n"))) λh=>Cv k g h λi j m _ r y _ n h=>bD h λf h=>et h <| yT (tk:=x.S.toks) (r.append n) (by rw[Kj,r.length,n.length];walk_at "n") λQ E q=>
        P.add_list (H.immIn _ m) (H.immIn _ y) (by rw[List.append_toArray];exact q) (bQ (by rw[Kw,Kw,r.length,n.length];walk_at "n"))
 | Sub=>exact dS k g h λi j t u h=>et h <| .int λQ E q=>sub_int q
 | Mult=>exact cL h (λh=>dS k g h λi j t u h=>bD h λf h=>et h <| .int λQ E q=>mul_int q (.of_left (yi f.1))) λh=>aA h λl s h=>aA h λi v h=>bD h λf h=>et h <| k.lstL (T:=λa=>Rr .Mult a b) s λm _ r=>g.intL v λt=>(yW (H.immIn _ m) r f.1 f.2.1 f.2.2).data
 | FloorDiv=>exact dS k g h λi j t u h=>bD h λf h=>et h <| .int λQ E q=>floordiv_int f.1 q (.inl (PyProof.noPylong_small (O2 f.2 (by decide))))
 | Mod=>exact dS k g h λi j t u h=>bD h λf h=>et h <| .int λQ E q=>mod_int f q
 | BitAnd=>exact dS k g h λi j t u h=>bD h λf h=>et h <| .int λQ E q=>and_int (Dm f.1 f.2▸q)
 | _=>exact au h
theorem s8 {us:List Value}{ds:List D}(r:RDs w imm us ds):(!us.toArray.isEmpty)=!ds.isEmpty:=by
 have:=r.length;cases us<;>cases ds<;>first | rfl | cases this
theorem qP {us:List Value}(h:us.length<=16777216):(us.toArray.size:Int)<2 ^ 63:=by rw[Kw];lia
theorem xV {v:Value}{u:V}{r:Bool}(H:HI c st x) (f:RV c.w x.ρ x.imm v u) (h:cc st u=Vl r):Ij c.w A x (Of v) r:=cL h (λh=>aV h λl a h=>Hr h <| H.lsL f a λg z r=>.tok (s8 r) λQ E q=>TK (aJ g) (qP z) q) λh=>aA h λd a h=>have rd:=f.onD a
  cL h (λh=>aV h λ_ e h=>Hr h <| rd.noneL e (.same rfl λQ E q=>truthy_none q)) λh=>cL h (λh=>rd.boolL h (.same rfl λQ E q=>TL q)) λh=>cL h (λh=>aV h λi e h=>Hr h <| rd.intL e λt=>.same rfl λQ E q=>PyProof.Rows.truthy_int (by rw[show (i != 0)=decide (i≠0) by by_cases h:i=0<;>simp[h]];exact q)) λh=>cL h (λh=>aV h λi e h=>Hr h <| rd.bytesL e λt z=>.tok (by by_cases h:i.size=0<;>simp[h]) λQ E q=>PySem.W.truthy_bytes (b:=i) (by (first | walk_at "m" | lia)) q) λh=>aV h λl e h=>Hr h <| rd.tupL e λm z r=>.tok (s8 r) λQ E q=>PyProof.Rows.truthy_tuple (my (H.immIn _ m)) (qP z) q
end
section
open PySem.SeqAt
section
variable {w:Ld}{A:Lc}{c:Cn}{x:X}{st:List SObj}{a b:Value}{d e o:D}{imm:Imm}
theorem iQ {f:D->D->Option Bool}:∀{s t:List D}{b:Bool},s.length=t.length->kN (Mv f s t)=Vl b->∃e:Nat->Bool,(∀(j:Nat) (d c:D),s[j]?=Vl d->t[j]?=Vl c->f d c=Vl (e j))/\b=(Ky s.length).all e
 | [],t,b,_,h=>⟨λ_=>Vn,λ_ _ _ h=>au h,(J9 h).symm⟩
 | d::s,[],b,hl,_=>nomatch hl
 | d::s,c::t,b,hl,h=>aA h λp i h=>aV h λq k h=>by
  obtain ⟨e,m,l⟩:=iQ (Ng hl) k;refine ⟨λj=>Qq j p e,λj u n g a=>?_,?_⟩
  ·cases j with
   | zero=>exact J9 g▸J9 a▸i
   | succ j=>exact m j u n g a
  ·rw[Ls,OY,TH,List.all_map,<- h,l];rfl
theorem Bk {n:Nat}{e:Nat->Bool}(h:∀j,j<n->e j=Vn):(Ky n).all e=true:=KP.mpr λj a=>h j (Lw.mp a)
abbrev Im (x:X):Prop:=∀p∈x.imm,x.h.get? p.1=Vl p.2
theorem uG (I:Im x){p:Addr}{us vs:List Value}{n m:Nat}{T b:String}(h:(p,({cls:=.type T,data:=.seq us.toArray n}:Obj))∈x.imm) (h':(p,({cls:=.type b,data:=.seq vs.toArray m}:Obj))∈x.imm):us=vs:=by
 have c:=I _ h;have a:=I _ h';have:=congrArg QU (J9 (c.symm.trans a));injection this with q
 exact (Array.mk.injEq ..).mp q
theorem RDs.both {vs:List Value}{ds es:List D}(h:RDs w imm vs ds) (h':RDs w imm vs es){j:Nat}(f:j<ds.length):∃v d e,RD w imm v d/\RD w imm v e/\ds[j]?=Vl d/\es[j]?=Vl e:=by
 have c:=Ki f;have g:=Ki (l:=es) (i:=j) (by rw[<- h'.length,h.length];exact f);refine aC λo b=>?_;obtain ⟨v,m,r⟩:=h.get c;obtain ⟨n,a,k⟩:=h'.get g;refine b ?_;obtain rfl:=J9 (m.symm.trans a);exact y3 v _ _ (w4 r k c g)
theorem C3 (I:Im x):∀(n:Nat){v:Value}{d e:D}{r:Bool},RD w x.imm v d->RD w x.imm v e->fE n d e=Vl r->r=true:=@nr _ (@λ_ _ _ _ _ _ h=>au h) (λn A=>(@λv d e r l k h=>by
  have m:∀{o:List Value}{s t:List D}{r:Bool},RDs w x.imm o s->RDs w x.imm o t->kN (Mv (fE n) s t)=Vl r->r=true:=λg c F=>by
   obtain ⟨f,y,rfl⟩:=iQ (g.length.symm.trans c.length) F;exact Bk λj C=>(g.both c C).elim λv h=>h.elim λd h=>h.elim λe h=>A h.1 h.2.1 (y j d e h.2.2.1 h.2.2.2)
  refine cL h (λh=>aA h λi a h=>aA h λj b h=>?_) λh=>cL h (λh=>aA h λi a h=>aA h λj b h=>?_) λh=>cL h (λh=>aA h λi a h=>aA h λj b h=>?_) λh=>
   cL h (λh=>aA h λi a h=>aA h λj b h=>?_) λh=>cL h (λh=>aA h λs a h=>aA h λt b h=>?_) λh=>aA h λs a h=>aA h λt b h=>?_
  ·obtain ⟨t,rfl⟩:=(hY a▸l).view;obtain ⟨_,q⟩:=(hY b▸k).view;cases q;exact (J9 h).symm.trans (beq_self_eq_true i)
  ·obtain ⟨t,rfl,_⟩:=(gU a▸l).view;obtain ⟨_,q,_⟩:=(gU b▸k).view;cases q;exact (J9 h).symm.trans (beq_self_eq_true i)
  ·obtain ⟨t,rfl,_⟩:=(fF a▸l).view;obtain ⟨_,q,_⟩:=(fF b▸k).view;cases q;exact (J9 h).symm.trans (beq_self_eq_true i)
  ·obtain rfl:=show v=_ from (iN a▸l).view;obtain q:=show Value.bool i=_ from (iN b▸k).view;cases q;exact (J9 h).symm.trans (beq_self_eq_true i)
  ·obtain ⟨p,o,_,rfl,m1,_,g⟩:=(hO a▸l).view;obtain ⟨E,z,_,q,u,_,c⟩:=(hO b▸k).view;cases q;obtain rfl:=uG I m1 u;exact m g c ((if_pos (g.length.symm.trans c.length)).symm.trans h)
  ·obtain ⟨p,o,_,rfl,m1,_,g⟩:=(gS a▸l).view;obtain ⟨E,z,_,q,u,_,c⟩:=(gS b▸k).view;cases q;obtain rfl:=uG I m1 u;exact m g c ((if_pos (g.length.symm.trans c.length)).symm.trans h)))
theorem iG {A:Lc}:A.in1.units<=A.units+1:=KH _
theorem RDs.toArray {vs:List Value}{ds:List D}(r:RDs w imm vs ds){j:Nat}(h:j<vs.toArray.size):∃d,ds[j]?=Vl d/\RD w imm vs.toArray[j] d:=by
 have b:j<vs.length:=by rwa [Kw] at h
 have e:=Ki (l:=ds) (i:=j) (r.length▸b);obtain ⟨v,a,q⟩:=r.get e;exact ⟨_,e,by rw[Pl,(Kd.mp a).2];exact q⟩
theorem lx {n:Nat}{us vs:List Value}{s t:List D}{r:Bool}(c:RDs w x.imm us s) (g:RDs w x.imm vs t) (l:s.length=t.length) (k:∀{u v:Value}{d e:D}{b:Bool},RD w x.imm u d->RD w x.imm v e->fE n d e=Vl b->EqAt A x.S u v b) (h:kN (Mv (fE n) s t)=Vl r):∃e:Nat->Bool,(∀j (f:j<us.toArray.size) (a:j<vs.toArray.size),EqAt A x.S us.toArray[j] vs.toArray[j] (e j))/\r=(Ky us.toArray.size).all e:=by
 obtain ⟨e,m,q⟩:=iQ l h;refine ⟨e,λj f a=>?_,by rw[q,Kw,c.length]⟩;obtain ⟨d,i,p⟩:=c.toArray f;obtain ⟨o,z,y⟩:=g.toArray a;exact k p y (m j d o i z)
theorem lM {us vs:List Value}{s t:List D}(b:RDs w imm us s) (a:RDs w imm vs t) (h:s.length=t.length):us.toArray.size=vs.toArray.size:=by rw[Kw,Kw,b.length,a.length,h]
theorem x7 {us vs:List Value}{s t:List D}(b:RDs w imm us s) (a:RDs w imm vs t) (h:¬s.length=t.length):(us.toArray.size != vs.toArray.size)=true:=bne_iff_ne.mpr λq=>h (by rwa [Kw,Kw,b.length,a.length] at q)
theorem AV (a b:Array UInt8):decide (a.toList=b.toList)=(a==b):=by rw[LO];simp
theorem vr (I:Im x):∀(n:Nat){A:Lc}{u v:Value}{d e:D}{b:Bool},A.units+n<cLine->RD w x.imm u d->RD w x.imm v e->fE n d e=Vl b->EqAt A x.S u v b:=@nr _ (@λ_ _ _ _ _ _ _ _ _ h=>au h) (λn m=>(@λA u v d e r J k g h=>by
  by_cases same:u=v
  ·subst same;obtain rfl:=C3 I _ k g h;exact EqAt.same u
  have o:=λ{u v:Value}{d e:D}{b:Bool}(G:RD w x.imm u d) (H:RD w x.imm v e)=>m (A:=A.in1) (b:=b) (by have:=@iG A;lia) G H;refine cL h (λh=>aA h λi a h=>aA h λj c h=>?_) λh=>cL h (λh=>aA h λi a h=>aA h λj c h=>?_) λh=>cL h (λh=>aA h λi a h=>aA h λj c h=>?_) λh=>
   cL h (λh=>aA h λi a h=>aA h λj c h=>?_) λh=>cL h (λh=>aA h λs a h=>aA h λt c h=>?_) λh=>aA h λs a h=>aA h λt c h=>?_
  ·obtain ⟨t,rfl⟩:=(hY a▸k).view;obtain ⟨_,rfl⟩:=(hY c▸g).view;refine rq (J9 h) ?_;exact EqAt.int_int i t _ _
  ·obtain ⟨t,rfl,_⟩:=(gU a▸k).view;obtain ⟨_,rfl,_⟩:=(gU c▸g).view;refine rq (J9 h) ?_;exact EqAt.str_str i t _ _
  ·obtain ⟨t,rfl,_⟩:=(fF a▸k).view;obtain ⟨_,rfl,_⟩:=(fF c▸g).view;refine rq (J9 h) ?_;exact λy w E Q q=>eqBool_bytes (by rw[AV];exact q)
  ·refine rp (show u=_ from (iN a▸k).view) ?_;refine rp (show v=_ from (iN c▸g).view) ?_;obtain rfl:=J9 h;exact EqAt.bool_bool _ _
  ·obtain ⟨p,C,_,rfl,m1,_,r1⟩:=(hO a▸k).view;obtain ⟨p',F,_,rfl,m2,_,r2⟩:=(hO c▸g).view;have z:p≠p':=λq=>same (congrArg _ q);by_cases f:s.length=t.length
   ·obtain ⟨e,l,rfl⟩:=lx r1 r2 f o ((if_pos f).symm.trans h);exact EqAt.of_refs z (RcAt.lists (aJ (I _ m1)) (aJ (I _ m2)) (lM r1 r2 f) (by lia) l)
   ·refine rq (J9 ((if_neg f).symm.trans h)) ?_;exact EqAt.of_refs z (RcAt.lists_lengths (aJ (I _ m1)) (aJ (I _ m2)) (x7 r1 r2 f) (by lia))
  ·obtain ⟨p,C,_,rfl,m1,_,r1⟩:=(gS a▸k).view;obtain ⟨p',F,_,rfl,m2,_,r2⟩:=(gS c▸g).view;refine bD h λf h=>?_;obtain ⟨e,l,rfl⟩:=lx r1 r2 f o h;have:=RcAt.tuples (A:=A) (dn (I _ m1)) (dn (I _ m2)) (by lia) l;rw[lM r1 r2 f,Ud,beq_self_eq_true,PG] at this;rw[lM r1 r2 f];exact EqAt.of_refs (λq=>same (congrArg _ q)) this))
noncomputable def IF (o:Obj):List Value:=match o.data with
 | .seq vs _=>vs.toList
 | _=>[]
noncomputable def Bz (h:Heap):Nat->Value->Option D
 | 0,_=>Vm
 | n+1,v=>Value.casesOn v Vm Vm Vm (λb=>Vl (.bool b)) (λi _=>Vl (.int i)) (λ_ _=>Vm) (λs _=>Vl (.str s)) (λb _=>Vl (.bytes b)) (λ_=>Vm) (λ_=>Vm) λa=>(h.get? a).bind λo=>((IF o).mapM (Bz h n)).map λds=>if o.cls=.type "list" then .lst ds else .tup ds
theorem EQ (f:Value->Option D){us:List Value}{ds:List D}(r:RDs w imm us ds):(∀v d,RD w imm v d->d∈ds->f v=Vl d)->us.mapM f=Vl ds:=r.ind (M:=λus ds=>(∀v d,RD w imm v d->d∈ds->f v=Vl d)->us.mapM f=Vl ds) (λ_=>rfl) λh _ a k=>by
  rw[List.mapM_cons,k _ _ h (.head _),a λv d r m=>k v d r (.tail _ m)];rfl
theorem GK (I:Im x):∀(n:Nat){v:Value}{d:D}{r:Bool},RD w x.imm v d->fE n d d=Vl r->Bz x.h n v=Vl d:=@nr _ (@λ_ _ _ _ h=>au h) (λn u=>(@λv d r c h=>by
  have e:∀{b:List Value}{s:List D}{r:Bool},RDs w x.imm b s->kN (Mv (fE n) s s)=Vl r->b.mapM (Bz x.h n)=Vl s:=λg y=>EQ _ g λv d q m=>by
   obtain ⟨f,o,_⟩:=iQ rfl y;obtain ⟨j,l⟩:=K0.mp m;exact u q (o j d d l l)
  refine cL h (λh=>aA h λi a h=>?_) λh=>cL h (λh=>aA h λi a h=>?_) λh=>cL h (λh=>aA h λi a h=>?_) λh=>
   cL h (λh=>aA h λi a h=>?_) λh=>cL h (λh=>aA h λs a h=>aA h λt k h=>?_) λh=>aA h λs a h=>aA h λt k h=>?_
  ·obtain rfl:=hY a;obtain ⟨t,rfl⟩:=c.view;rfl
  ·obtain rfl:=gU a;obtain ⟨t,rfl,_⟩:=c.view;rfl
  ·obtain rfl:=fF a;obtain ⟨t,rfl,_⟩:=c.view;rfl
  ·obtain rfl:=iN a;obtain rfl:=show v=_ from c.view;rfl
  ·skip
   obtain rfl:=hO a;obtain rfl:=J9 k;obtain ⟨p,b,_,rfl,m1,_,g⟩:=c.view;replace h:=(if_pos rfl).symm.trans h;show ((x.h.get? p).bind _)=_;rw[I _ m1];show (b.mapM (Bz x.h n)).map _=_;rw[e g h];rfl
  ·skip
   obtain rfl:=gS a;obtain rfl:=J9 k;obtain ⟨p,b,_,rfl,m1,_,g⟩:=c.view;replace h:=(if_pos rfl).symm.trans h;show ((x.h.get? p).bind _)=_;rw[I _ m1];show (b.mapM (Bz x.h n)).map _=_;rw[e g h];rfl))
open Classical in
theorem Ah (I:Im x) (z:A.units+3<cLine){u:Value}{us:List Value}{ds:List D}(s:RD w x.imm u d) (rs:RDs w x.imm us ds):∀{a:List Bool},vp d ds=Vl a->
  (∀y∈us,EqAt A x.S y u (decide (∃k,Bz x.h 3 y=Vl k/\fE 3 k d=Vl Vn)))/\a=us.map λy=>decide (∃k,Bz x.h 3 y=Vl k/\fE 3 k d=Vl Vn):=
 rs.ind (M:=λus ds=>∀{a:List Bool},vp d ds=Vl a->(∀y∈us,EqAt A x.S y u (decide (∃k,Bz x.h 3 y=Vl k/\fE 3 k d=Vl Vn)))/\a=us.map λy=>decide (∃k,Bz x.h 3 y=Vl k/\fE 3 k d=Vl Vn)) (λ{_} h=>⟨λ_ h=>(nomatch h),(J9 h).symm⟩) λ{v C k E} i _ p {a} h=>aA h λq n h=>aA h λb c h=>aV h λt m h=>by
   have e:decide (∃k,Bz x.h 3 v=Vl k/\fE 3 k d=Vl Vn)=b:=by
    have f:=GK I 3 i n;cases b with
    | true=>exact decide_eq_true ⟨k,f,c⟩
    | false=>exact decide_eq_false λ⟨F,o,g⟩=>by rw[<- J9 (f.symm.trans o),c] at g;cases g
   obtain ⟨j,l⟩:=p m;subst h;refine ⟨λy r=>(Kt.mp r).elim (λq=>?_) (j y),by rw[KB,e,l]⟩;refine rp q ?_;rw[e];exact vr I 3 z i s c
end
end
section
open PySem.SeqAt
set_option linter.all false
section
variable {w:Ld}{A:Lc}{c:Cn}{x:X}{st:List SObj}{a b:Value}{d e o:D}{imm:Imm}{u v:V}{r:Bool}
def Rc (A:Lc) (S:Kh) (a b:Value) (r:Bool):Prop:=RcAt A S a b r/\RcNeAt A S a b (!r)
theorem DI (I:Im x) (G:A.units+7<cLine) (m:RD w x.imm a d) (l:RD w x.imm b e) (h:gJ d e=Vl r):Rc A x.S a b r:=by
 have q:=λ{u v:Value}{d e:D}{b:Bool}(E:RD w x.imm u d) (F:RD w x.imm v e)=>vr (A:=A.in1) (b:=b) I 5 (by have:=@iG A;walk_at "n") E F;refine cL h (λh=>aA h λi f h=>aA h λj g h=>?_) λh=>cL h (λh=>aA h λi f h=>aA h λj g h=>?_) λh=>cL h (λh=>aA h λs f h=>aA h λt g h=>?_) λh=>aA h λs f h=>aA h λt g h=>?_
 ·obtain ⟨t,rfl⟩:=(hY f▸m).view;obtain ⟨_,rfl⟩:=(hY g▸l).view;refine rq (J9 h) ?_;exact ⟨.int_int _ _ _ _,.int_int _ _ _ _⟩
 ·obtain ⟨t,rfl,_⟩:=(gU f▸m).view;obtain ⟨_,rfl,_⟩:=(gU g▸l).view;refine rq (J9 h) ?_;exact ⟨.str_str _ _ _ _,.str_str _ _ _ _⟩
 ·obtain ⟨p,y,_,rfl,m1,_,r1⟩:=(hO f▸m).view;obtain ⟨C,z,_,rfl,m2,_,r2⟩:=(hO g▸l).view;by_cases c:s.length=t.length
  ·obtain ⟨e,k,rfl⟩:=lx r1 r2 c q ((if_pos c).symm.trans h);exact ⟨.lists (aJ (I _ m1)) (aJ (I _ m2)) (lM r1 r2 c) (by walk_at "n") k,.lists (aJ (I _ m1)) (aJ (I _ m2)) (lM r1 r2 c) (by walk_at "n") k⟩
  ·refine rq (J9 ((if_neg c).symm.trans h)) ?_;exact ⟨.lists_lengths (aJ (I _ m1)) (aJ (I _ m2)) (x7 r1 r2 c) (by walk_at "n"),.lists_lengths (aJ (I _ m1)) (aJ (I _ m2)) (x7 r1 r2 c) (by walk_at "n")⟩
 ·obtain ⟨p,y,_,rfl,m1,_,r1⟩:=(gS f▸m).view;obtain ⟨C,z,_,rfl,m2,_,r2⟩:=(gS g▸l).view;refine bD h λc h=>?_;obtain ⟨e,k,rfl⟩:=lx r1 r2 c q h;have o:=RcAt.tuples (A:=A) (dn (I _ m1)) (dn (I _ m2)) (by walk_at "n") k;have n:=RcNeAt.tuples (A:=A) (dn (I _ m1)) (dn (I _ m2)) (by walk_at "n") k;rw[lM r1 r2 c,Ud,beq_self_eq_true,PG] at o n;rw[lM r1 r2 c];exact ⟨o,n⟩
theorem J8 {t:OW Value}{p q:Bool}(h:p=q) (k:fT w A x t (.bool p)):fT w A x t (.bool q):=h▸k
abbrev HY (w:Ld) (A:Lc) (x:X) (a b:Value) (r:Bool):Prop:=fT w A x (Pb .In a b) (.bool r)/\fT w A x (Pb .NotIn a b) (.bool (!r))
theorem RK.look {α:Type}{R:Value->α->Prop}{kvs:List (Int×Value)}{ds:List (Int×α)}(h:RK R kvs ds) (i:Int):(∀d,aF i ds=Vl d->∃v,NB kvs i=Vl v/\R v d)/\(aF i ds=Vm->NB kvs i=Vm):=h.ind (M:=λkvs ds=>(∀d,aF i ds=Vl d->∃v,NB kvs i=Vl v/\R v d)/\(aF i ds=Vm->NB kvs i=Vm)) ⟨λ_ h=>au h,λ_=>rfl⟩ λ{k v d b ds} h _ a=>by
  have f:NB ((k,v)::b) i=if k=i then Vl v else NB b i:=by unfold NB;rw[MR];by_cases q:k=i<;>simp[q]
  rw[f];by_cases q:k=i
  ·rw[if_pos q];exact ⟨λc e=>⟨v,rfl,J9 ((if_pos q).symm.trans e)▸h⟩,λe=>au (e.symm.trans (if_pos q))⟩
  ·rw[if_neg q];exact ⟨λc e=>a.1 c ((if_neg q).symm.trans e),λe=>a.2 ((if_neg q).symm.trans e)⟩
theorem RK.isSome {α:Type}{R:Value->α->Prop}{kvs:List (Int×Value)}{ds:List (Int×α)}(h:RK R kvs ds) (i:Int):(NB kvs i).isSome=(aF i ds).isSome:=by
 cases e:aF i ds with
 | none=>rw[(h.look i).2 e];rfl
 | some d=>exact ((h.look i).1 d e).elim λv h=>by rw[h.1];rfl
theorem RK.length {α:Type}{R:Value->α->Prop}{kvs:List (Int×Value)}{ds:List (Int×α)}(h:RK R kvs ds):kvs.length=ds.length:=h.ind (M:=λ(a:List (Int×Value)) (ds:List (Int×α))=>a.length=ds.length) rfl λ_ _ e=>congrArg Nl e
theorem RK.keys {α:Type}{R:Value->α->Prop}{kvs:List (Int×Value)}{ds:List (Int×α)}(h:RK R kvs ds):kvs.map (·.1)=ds.map (·.1):=h.ind (M:=λ(a:List (Int×Value)) (ds:List (Int×α))=>a.map (·.1)=ds.map (·.1)) rfl λ_ _ e=>congrArg (List.cons _) e
theorem uZ (H:HI c st x) (B:Bs c) (S:A.units+7<cLine) (s:RD c.w x.imm a d) (k:RV c.w x.ρ x.imm b v) (h:zz st d v=Vl r):HY c.w A x a b r:=cL h (λh=>aA h λl m h=>aV h λO g h=>H.ls (P:=λb=>HY c.w A x a b r) k m λf z L=>by
  obtain ⟨n,M⟩:=Ah (A:=A.in1) H.immIn (by have:=@iG A;walk_at "n") s L g;subst M;rw[Rl] at h;subst h;exact ⟨.same (.bool _) λQ E q=>in_listAt _ (aJ f) (λy j=>n y (by simpa using j)) (by simpa using q),.same (.bool _) λQ E q=>notIn_listAt _ (aJ f) (λy j=>n y (by simpa using j)) (by simpa using q)⟩)
 λh=>aA h λi m h=>RD.onInt (P:=λa=>HY c.w A x a b r) s m λt=>cL h (λh=>aV h λI g h=>H.kvs (P:=λb=>HY c.w A x (.int i t) b r) B k g λ{p o J} f G hs K=>by
   have C:x.h.MapOf (K8 PR c.w) p (NB J):=(LL.mpr ⟨o,f,G⟩).mapOf;rw[<- K.rk.isSome] at h;subst h;exact ⟨.tok (.bool _) λQ E q=>wpAny_in_of (MC _ _ _ _) hs C q,.tok (.bool _) λQ E q=>wpAny_notIn_of (MC _ _ _ _) hs C q⟩)
  λh=>aV h λR g h=>H.on (P:=λb=>HY c.w A x (.int i t) b r) k g λ{l p N o} _ u e=>by
   obtain rfl:=ym e;obtain ⟨o,rfl,f,hz⟩:=u.foot;subst h;have F:=f.setOf (H.ledIn _ (aD u.led (.head _))) (by walk_at "n");exact ⟨.tok (.bool _) λQ E q=>wpAny_inSet_of (MC _ _ _ _) rfl F q,.tok (.bool _) λQ E q=>wpAny_notInSet_of (MC _ _ _ _) rfl F q⟩
abbrev Ej (w:Ld) (A:Lc) (x:X) (a b:Value) (r:Bool):Prop:=fT w A x (Pb .Is a b) (.bool r)/\fT w A x (Pb .IsNot a b) (.bool (!r))
theorem hV (c:plainIs a b=Vn) (d:(a==b)=r):Ej w A x a b r:=⟨.same (.bool _) λQ E q=>wpAny_is_plain c (d.symm▸q),.same (.bool _) λQ E q=>wpAny_isNot_plain c (d.symm▸q)⟩
theorem DS (g:RV c.w x.ρ x.imm a v) (k:RD c.w x.imm b d) (h:IW v d=Vl r):Ej c.w A x a b r:=cL h (λh=>aA h λl j h=>aV h λ_ i m=>by
  obtain rfl:=kE j;obtain rfl:=pq i;subst m;obtain ⟨p,rfl,_⟩:=g;refine rp (show b=_ from k.view) ?_;exact hV rfl rfl)
 λh=>aA h λe j h=>have g:=g.onD j
  cL h (λh=>aA h λ_ i h=>RD.onNone (P:=λb=>Ej c.w A x a b r) k i <| cL h (λh=>aV h λ_ f h=>RD.onNone (P:=λa=>Ej c.w A x a .none r) g f (hV rfl h)) λh=>cL h (λh=>aV h λ_ f h=>RD.onTup (P:=λa=>Ej c.w A x a .none r) g f λ_ _ _=>hV rfl h) λh=>aV h λ_ f h=>RD.onLst (P:=λa=>Ej c.w A x a .none r) g f λ_ _ _=>hV rfl h) λh=>aA h λp i h=>aV h λq f h=>RD.onBool (P:=λb=>Ej c.w A x a b r) k i <| RD.onBool (P:=λa=>Ej c.w A x a (.bool p) r) g f (hV rfl (by rw[<- h];cases p<;>cases q<;>rfl))
theorem FW {op:PQ}(H:HI c st x) (B:Bs c) (m:A.units+7<cLine) (g:RV c.w x.ρ x.imm a v) (f:RV c.w x.ρ x.imm b u) (h:bV st op v u=Vl r):fT c.w A x (Pb op a b) (.bool r):=by
 have p:∀{op:PQ},(v.d?.bind λd=>u.d?.bind λe=>Hz op d e)=Vl r->fT c.w A x (Pb op a b) (.bool r):=λ{op} h=>aA h λd k h=>aA h λe o h=>by
  have g:=g.onD k;have f:=f.onD o;cases op with
  | Eq=>exact .same (.bool _) λQ E q=>(DI H.immIn m g f h).1 _ _ _ _ q
  | NotEq=>exact aV h λn h l=>.same (.bool _) λQ E q=>(DI H.immIn m g f h).2 _ _ _ _ (l▸q)
  | Lt=>exact dS g f h λi j t u h=>J9 h▸.same (.bool _) λQ E q=>lt_int q
  | Gt=>exact dS g f h λi j t u h=>J9 h▸.same (.bool _) λQ E q=>gt_int q
  | GtE=>exact dS g f h λi j t u h=>J9 h▸.same (.bool _) λQ E q=>PyProof.Rows.ge_int q
  | _=>exact au h
 cases op with
 | In=>exact aA h λd k h=>(uZ H B m (g.onD k) f h).1
 | NotIn=>exact aV h λn h l=>aA h λd k h=>l▸(uZ H B m (g.onD k) f h).2
 | Is=>exact aA h λd k h=>(DS g (f.onD k) h).1
 | IsNot=>exact aV h λn h l=>aA h λd k h=>l▸(DS g (f.onD k) h).2
 | _=>exact p h
end
end
section
set_option linter.all false
section
variable {w:Ld}{A:Lc}{c:Cn}{x:X}{st:List SObj}{a b:Value}{d e o:D}{imm:Imm}{u v:V}{r:Bool}
theorem lQ (a:Kb) (o i:Value):SU a Vo o i=operate [i,o] (OE o i)\/SU a Vo o i=operate [o,i] (OE o i):=by
 cases a with
 | Slice l u s p=>cases s with
  | none=>exact .inl (by with_unfolding_all rfl)
  | some s=>exact .inr (by with_unfolding_all rfl)
 | _=>exact .inr (by with_unfolding_all rfl)
theorem lu {b a:Kb}{o i:Value}{T id:String}{Q:Value->Kh->Prop}{E:Value->Kh->Prop}{S:Kh}(g:S.TypeIs o T) (j:Oe (.type T) "__getitem__" = pure (Vl (.builtin id))) (h:Km (Kn PR w) A (OE o i) Q E S):Km (Kn PR w) A (Lv b a o i) Q E S:=by
 unfold Lv;refine Kc ?_;rw[getitemInPython_of_ne g.not_modules];refine Kc (Oy g j ?_);have c:Km (Kn PR w) A (SU a Vo o i) (λr d=>Km (Kn PR w) A (Ro b o r >>= λ_=>pure r) Q E d) E S:=by
  have f:Km (Kn PR w) A (OE o i) (λr d=>Km (Kn PR w) A (Ro b o r >>= λ_=>pure r) Q E d) E S:=KN h (λr d k=>Kc (ST (Ko k))) λ_ _ x=>x;exact (lQ a o i).elim (λe=>e▸Uk f) λe=>e▸Uk f
 first
  | exact Ko (Kc c)
  | exact Kc (Ko (Kc c))
  | exact Kc c
theorem iP {n:Nat}{i:Int}{j:Nat}(h:ki n i=Vl j):j<n/\((0<=i/\j=i.toNat)\/(i<0/\-(n:Int)<=i/\j=(i+n).toNat)):=by
 unfold ki at h;by_cases q:0<=i
 ·rw[if_pos q] at h;exact bD h λa h=>⟨by refine rq (J9 h) ?_;exact a,.inl ⟨q,(J9 h).symm⟩⟩
 ·rw[if_neg q] at h;exact bD h λa h=>by refine rq (J9 h) ?_;exact ⟨(Int.toNat_lt a).mpr (by lia),.inr (w3 (UO.mp q) (by lia) rfl)⟩
theorem uH {n:Nat}{i:Int}{j:Nat}(h:ki n i=Vl j):seqIndex? i n=Vl j:=by
 obtain ⟨e,d⟩:=iP h;unfold seqIndex?;rcases d with ⟨b,rfl⟩ | ⟨b,h3,rfl⟩
 ·have c:¬i<0:=by lia
  have a:(decide (0<=i)&&decide (i<(n:Int)))=true:=by rw[Qd,decide_eq_true_eq,decide_eq_true_eq];lia
  simp only[c,if_false,a,if_true]
 ·have a:(decide (0<=i+(n:Int))&&decide (i+(n:Int)<(n:Int)))=true:=by rw[Qd,decide_eq_true_eq,decide_eq_true_eq];lia
  simp only[b,if_true,a]
theorem gC {us:List Value}{k:Nat}{v:Value}(h:us[k]?=Vl v):us.toArray[k]?=Vl v:=NU.trans h
theorem Ee {p:Addr}{us:List Value}{n k:Nat}{ds:List D}{i:Int}{t:PP}(b:x.h.get? p=Vl (lstO us n)) (hz:us.length<=16777216) (rs:RDs w x.imm us ds) (f:ki ds.length i=Vl k) (l:ds[k]?=Vl d):fT w A x (OE (.ref p) (.int i t)) d:=by
 obtain ⟨v,c,m⟩:=rs.get l;have g:=rs.length;obtain ⟨o,j⟩:=iP f;have e:us.toArray.size=us.length:=Kw;refine .same m λQ E q=>?_;rcases j with ⟨a,rfl⟩ | ⟨a,h3,rfl⟩
 ·exact Tr (aJ b) a (by lia) (gC c) q
 ·exact So (aJ b) a (by lia) (by lia) (by rw[e,g];exact gC c) q
abbrev xB (w:Ld) (A:Lc) (x:X) (t:OW Value) (v:V):Prop:=Lf w A x t λimm b=>RV w x.ρ imm b v
theorem Lf.sub {a b:Kb}{o i:Value}{T id:String}{R:Imm->Value->Prop}(l:Lf w A x (OE o i) R) (d:x.S.TypeIs o T) (c:Oe (.type T) "__getitem__" = pure (Vl (.builtin id))):Lf w A x (Lv a b o i) R:=λQ E q=>lu d c (l Q E q)
theorem wK {f b:Kb}{i:Int}{t:PP}(H:HI c st x) (B:Bs c) (u:RV c.w x.ρ x.imm a v) (h:zE st v i=Vl d):fT c.w A x (Lv f b a (.int i t)) d:=cL h (λh=>aA h λl r h=>aA h λk g h=>H.lsL (T:=λa=>Lv f b a (.int i t)) u r λG z y=>(Ee G z y g h).sub ⟨_,G,rfl⟩ P3) λh=>cL h (λh=>aA h λl r h=>H.kvsL (T:=λa=>Lv f b a (.int i t)) B u r λ{p o I} G P hs U=>by
   have O:x.h.MapOf (K8 PR c.w) p (NB I):=(LL.mpr ⟨o,G,P⟩).mapOf;obtain ⟨v,N,L⟩:=(U.rk.look i).1 _ h;exact .sub (.tok L λQ E q=>T0 (MC _ _ _ _) O N q) (O.typeIs (s:=x.S)) TQ.lookup)
 λh=>aA h λd R h=>have u:=u.onD R
  cL h (λh=>aA h λl r h=>aA h λk g h=>u.tupL (T:=λa=>Lv f b a (.int i t)) r λ{p Y n} m z y=>by
   obtain ⟨v,N,L⟩:=y.get h;exact .sub (.same L λQ E q=>PyProof.Rows.getItem_tuple (j:=k) (my (H.immIn _ m)) (by have:=iP g;have:=y.length;walk_at "n") (by have:=iP g;have:=y.length;walk_at "n") (by rw[Kw,y.length];exact uH g) (gC N) q) ⟨_,H.immIn _ m,rfl⟩ PySem.F.slot_tuple_getitem.lookup)
  λh=>cL h (λh=>aA h λs r h=>bD h λK h=>aV h λch g h=>u.strL (T:=λa=>Lv f b a (.int i t)) r λJ z=>by
   have C:i.toNat<s.cps.size:=(MJ.mp g).1;have M:ki s.cps.size i=Vl i.toNat:=by unfold ki;rw[if_pos K,if_pos C]
   subst h;exact .sub (.stay λQ E q=>getItem_str (c:=ch) (by rw[N5,decide_eq_false_iff_not,decide_eq_false_iff_not];walk_at "n") (by rw[show s.length=s.cps.size from rfl,uH M];exact g) (q _ x.h _ (λ_ _ e=>e) (RD.str _ _ (by simp)))) (typeIs_str _ _ _) PySem.F.slot_str_getitem.lookup)
  λh=>aA h λs r h=>bD h λK h=>aV h λch g h=>u.bytesL (T:=λa=>Lv f b a (.int i t)) r λJ z=>by
   have C:i.toNat<s.size:=(MJ.mp g).1;have M:s.toList.getD i.toNat 0=ch:=by rw[QM,Lh,g];rfl
   subst h;refine .sub (T:="bytes") (.stay λQ E q=>?_) rfl Pk.lookup;rw[show Value.bytes s J=.bytes s.toList.toArray J by rw[Pj]];exact getItem_bytes (by simp;walk_at "n") K (by simp;walk_at "n") (q _ x.h _ (λ_ _ e=>e) (by rw[M];exact .int _ _))
theorem zC {k j:Kb}{i:Int}{t:PP}(H:HI c st x) (B:Bs c) (G:RV c.w x.ρ x.imm a v) (h:zD st v i=Vl u):xB c.w A x (Lv k j a (.int i t)) u:=cL h (λh=>aV h λd h e=>e▸wK H B G h) λh=>aV h λl h e=>aA h λls K h=>HI.on (P:=λa=>xB c.w A x (Lv k j a (.int i t)) u) H G K λ{O p N o} _ y n=>by
  have:∃o f,x.h.get? p=Vl o/\o.IsDictOf (K8 PR c.w) f/\uh x.ρ f ls:=cL n (λn=>by
    refine aC λC g=>?_;obtain rfl:=ly n;obtain ⟨o,f,rfl,h,r⟩:=y.foot;refine g ?_;exact y2 o f (w3 (H.ledIn _ (aD y.led (.head _))) h r)) λn=>by
    refine aC λC g=>?_;obtain rfl:=mI n;obtain ⟨_,o,f,m,h,_,r⟩:=y.foot;refine g ?_;exact y2 o f (w3 (H.immIn _ m) h r)
  refine aC λC g=>?_;obtain ⟨o,f,J,I,L⟩:=this;have z:x.h.MapOf (K8 PR c.w) p (NB f):=(LL.mpr ⟨o,J,I⟩).mapOf;obtain ⟨_,M,F,rfl,ha⟩:=(RK.look L i).1 _ h;refine g ?_;refine rq e ?_;exact .sub (.tok (b:=.ref F) ⟨F,rfl,ha⟩ λQ E q=>T0 (MC _ _ _ _) z M q) (z.typeIs (s:=x.S)) TQ.lookup
end
end
section
set_option linter.all false
section
variable {w:Ld}{A:Lc}{c:Cn}{x:X}{st:List SObj}{a b:Value}{d e o:D}{imm:Imm}{u v:V}{r:Bool}
theorem RDs.sub {vs:List Value}{ds:List D}(r:RDs w imm vs ds):(∀k,RDs w imm (vs.take k) (ds.take k))/\∀k,RDs w imm (vs.drop k) (ds.drop k):=r.ind (M:=λvs ds=>(∀k,RDs w imm (vs.take k) (ds.take k))/\∀k,RDs w imm (vs.drop k) (ds.drop k)) ⟨λk=>by rw[PC,PC];exact .nil,λk=>by rw[TF,TF];exact .nil⟩ λh r a=>⟨λk=>Qq k .nil λk=>.cons h (a.1 k),λk=>Qq k (.cons h r) λk=>a.2 k⟩
theorem RDs.pick {vs:List Value}{ds:List D}(h:RDs w imm vs ds):∀l:List Nat,RDs w imm (l.filterMap (vs[·]?)) (l.filterMap (ds[·]?))
 | []=>.nil
 | i::l=>by
  rw[KX,KX];cases a:ds[i]? with
  | none=>rw[KY.mpr (h.length▸KY.mp a)];exact h.pick l
  | some d=>
   obtain ⟨v,b,c⟩:=h.get a;rw[b];exact .cons c (h.pick l)
noncomputable def pf (a b c:Value):Obj:={cls:=.type "slice",data:=.fields #[a,b,c]}
def HX (w:Ld) (A:Lc) (x:X) (c a:Kb) (k g f j:Value) (d:D):Prop:=∀(Q:Value->Kh->Prop) (E:Value->Kh->Prop),(∀b h' tk ex,Kp x.h h'->(∀p∈ex,h'.get? p.1=Vl p.2/\x.h.get? p.1=Vm)->RD w (ex++x.imm) b d->Q b {x.S with heap:=h',toks:=tk})->Km (Kn PR w) A (Pa "slice" [k,g,f]) (λi e=>Km (Kn PR w) A (Lv c a j i) Q E e) E x.S
theorem vV {c a:Kb}{p:Addr}{vs:List Value}{n:Nat}{es:List D}{g f d:Value}{lo i st:Option Int}(l:x.h.get? p=Vl (lstO vs n)) (hz:vs.length<=16777216) (m:IsPart g lo) (r:IsPart f i) (s:IsPart d st) (h0:st≠Vl 0) (rs:RDs w x.imm (R9 vs.toArray lo i st).toList es):HX w A x c a g f d (.ref p) (.lst es):=λQ E q=>by
 refine LV ?_ (by size_fits);have j:(x.h.push (pf g f d)).get? p=Vl (lstO vs n):=aM _ _ _ _ l;refine lu (S:={x.S with heap:=x.h.push (pf g f d)}) ⟨_,j,rfl⟩ P3 ?_;have t:=slicePick_size_le vs.toArray lo i st;have u:vs.toArray.size=vs.length:=Kw;refine wpAny_getItem_list_slice (aJ j) ⟨_,w3 (Kq _ rfl) rfl rfl⟩ m r s h0 ?_ (bQ (by (first | walk_at "m" | lia)));exact q _ _ x.S.toks [((x.h.push (pf g f d)).objs.size,lstO (R9 vs.toArray lo i st).toList 0)] (λb o e=>aM _ _ _ _ (aM _ _ _ _ e)) (λp k=>by rw[Kg.mp k];exact ⟨Kq _ rfl,KS (by rw[LF];exact MU _)⟩) (.lst (.head _) (by rw[KJ];(first | walk_at "m" | lia)) (mD rs))
def RO (w:Ld) (imm:Imm) (b:Value) (o:Option D):Prop:=MF o (b=.none) λd=>RD w imm b d
theorem RO.mono {a:Imm}{b:Value}{o:Option D}(h:RO w imm b o) (c:∀p∈imm,p∈a):RO w a b o:=by
 cases o with
 | none=>exact h
 | some d=>exact RD.mono c h
noncomputable def wj (o:Option D):Option (Option Int):=MF o (Vl Vm) λd=>d.int?.map Vl
theorem IsPart.of {b:Value}{o:Option D}{i:Option Int}(h:RO w imm b o) (e:wj o=Vl i):IsPart b i:=by
 cases o with
 | none=>obtain rfl:=J9 e;cases h;exact .none
 | some d=>exact aV e λj c a=>RD.onInt (P:=λb=>IsPart b i) h c λt=>a▸.int _ _
noncomputable def iU (b:Array UInt8) (i j:Nat):Array UInt8:=((b.toList.drop i).take (j-i)).toArray
noncomputable def I4 (b:Array UInt8) (i j:Option Int) (k:Option D):Option D:=i.bind λi=>j.bind λj=>if 0<=i/\0<=j/\k.isNone=Vn then Vl (.bytes (iU b i.toNat j.toNat)) else Vm
noncomputable def fN (st:List SObj) (v:V) (a b c:Option D):Option D:=((v.ls? st).bind λl=>(wj a).bind λi=>(wj b).bind λj=>(wj c).bind λk=>(yk l i j k).map .lst).or (v.d?.bind λd=>d.bytes?.bind λx=>(wj a).bind λi=>(wj b).bind λj=>I4 x i j c)
theorem FU (b:Array UInt8) (i j:Nat):KBy.picked b (Vl (i:Int)) (Vl (j:Int))=iU b i j:=by
 rw[KBc.picked_eq];unfold iU;show ((b.toList.drop (clipAt b.size (i:Int))).take (clipAt b.size (j:Int)-clipAt b.size (i:Int))).toArray=_;rw[clipAt_nat,clipAt_nat]
 congr 1
 have c:b.toList.length=b.size:=KJ;rcases Ue i b.size with q | q
 ·rw[ND q];rcases Ue j b.size with a | a
  ·rw[ND a]
  ·rw[S5 a,Me (by rw[M4];walk_at "n"),Me (by rw[M4];walk_at "n")]
 ·rw[S5 q,OZ (by walk_at "n"),OZ (by walk_at "n"),PC,PC]
theorem AM (b:Array UInt8) (i j:Nat):(iU b i j).size<=b.size:=by
 unfold iU;rw[Kw,Lr,M4,KJ];lia
theorem vW {c a:Kb}{b:Array UInt8}{t:PP}{f e:Value}{i j:Int}(l:IsPart f (Vl i)) (m:IsPart e (Vl j)) (n:0<=i) (g:0<=j) (hz:b.size<=16777216):HX w A x c a f e .none (.bytes b t) (.bytes (iU b i.toNat j.toNat)):=λQ E q=>by
 refine LV ?_ (by size_fits);refine aC λo d=>?_;obtain ⟨i,rfl⟩:=Lg n;obtain ⟨j,rfl⟩:=Lg g;refine d ?_;refine lu (S:={x.S with heap:=x.h.push (pf f e .none)}) (Sq _ b t) Pk.lookup ?_;refine getItem_meets (Sq _ _ _) (by decide) Pk FB.entry_bytes_getitem (FB.args_bytes_getitem_2 _ _) (KBc.meets_slice2 b t _ l m) (w3 ⟨_,w3 (Kq _ rfl) rfl rfl⟩ ?_ (λp k=>?_))
 ·exact Lo (KBc.size_picked_le b _ _) (bQ hz)
 ·rw[FU];exact q _ _ k [] (aM _ _) (λ_ h=>nomatch h) (RD.bytes _ _ (Lo (AM _ _ _) hz))
theorem vX {us:List Value}{l es:List D}{i j k:Option Int}(rs:RDs w imm us l) (h:yk l i j k=Vl es):k≠Vl 0/\RDs w imm (R9 us.toArray i j k).toList es:=by
 cases i with
 | none=>cases j with
  | none=>cases k<;>exact au h
  | some j=>cases k with
   | some k=>exact au h
   | none=>exact bD h λa h=>⟨nofun,by
    obtain ⟨n,rfl⟩:=Lg a;obtain rfl:=J9 h;rw[slicePick_upto'];exact rs.sub.1 n⟩
 | some i=>cases j with
  | some j=>cases k<;>exact au h
  | none=>cases k with
   | none=>exact bD h λa h=>⟨nofun,by
    obtain ⟨n,rfl⟩:=Lg a;obtain rfl:=J9 h;rw[slicePick_from'];exact rs.sub.2 n⟩
   | some k=>exact bD h λa h=>⟨λe=>a (J9 e),by
    obtain rfl:=J9 h;unfold R9 gi;rw[List.toList_toArray,<- rs.length,Kw]
    simpa using rs.pick _⟩
theorem yj {f a:Kb}{g o n m:Value}{p q r:Option D}(H:HI c st x) (F:RV c.w x.ρ x.imm g v) (G:RO c.w x.imm o p) (I:RO c.w x.imm n q) (E:RO c.w x.imm m r) (h:fN st v p q r=Vl d):HX c.w A x f a o n m g d:=cL h (λh=>aA h λl u h=>aA h λi s h=>aA h λj y h=>aA h λk T h=>aV h λR h e=>e▸H.ls (P:=λg=>HX c.w A x f a o n m g (.lst R)) F u λQ z O=>
  (vX O h).elim λM K=>vV Q z (IsPart.of G s) (IsPart.of I y) (IsPart.of E T) M K)
 λh=>aA h λY J h=>aA h λb u h=>aA h λi s h=>aA h λj y h=>aA h λi' L h=>aA h λU S h=>bD h λC h=>RD.onBytes (P:=λg=>HX c.w A x f a o n m g d) (F.onD J) u λt N=>by
  obtain rfl:=J9 h;cases r with
  | some r=>exact nomatch C.2.2
  | none=>
   obtain rfl:=show m=.none from E
   exact vW (L▸IsPart.of G s) (S▸IsPart.of I y) C.1 C.2.1 N
end
end
section
set_option linter.all false
section
variable {prog:Program}{w:Ld}{A:Lc}{E:Value->Kh->Prop}{s:Kh}
def qa (b:Array UInt8) (i:Nat) (v:Value):Prop:=∃c u,b[i]?=Vl c/\v=.int (c.toNat:Int) u
theorem pK {R:OJ->Kh->Prop}(hh:A.handled=Vm) (b:Array UInt8) (t:PP) (S:Addr) (res:Value) (r:Nat) (q:s.heap.get? S=Vl {cls:=.type "list",data:=.seq #[] r}) (G:∀h' tk a h,(∀b o,b≠S->s.heap.get? b=Vl o->h'.get? b=Vl o)->h'.get? S=Vl {cls:=.type "list",dict:=Vm,data:=.seq a h,slots:=#[]}->
   Rh (qa b) a b.size->R (.ok (.ret res)) {s with heap:=h',toks:=tk}) (hn:b.size<=sizeLine) :
  Km (Kn prog w) A.in1 (LZ (.ref S) (.bytes b t) res) (λl d=>match l with | .done f=>R (.ok f) d | .again h=>h.quiet=Vn/\Mu (Kn prog w) A h R d) (λe d=>R (.error e) d) s:=by
 have p:S≠s.heap.objs.size:=L1 (Lz q);have m:S∉[s.heap.objs.size]:=λk=>p (Kg.mp k);unfold LZ;refine Kc (Qt (T:="bytes") (v:=.bytes b t) rfl ?_);have y:N8 (.ref S) (.bytes b t)=false:=rfl;have u:(Ni "bytes"==Ni "list")=false:=by decide
 have E:(Ni "bytes"==Ni "tuple")=false:=by decide
 simp only[y,u,E,OH,Ox,if_false];refine Kc (SZ ?_);refine Kc (Lm ?_);unfold NS;refine Kc (Oy (T:="bytes") (v:=.bytes b t) rfl FB.slot_bytes_len.lookup ?_);generalize j:("bytes.__len__" : String)=id0
 wp_delta
 rw[show splitId id0=Vl ("bytes","__len__") from by refine rq j ?_;decide +kernel];refine rq j ?_;refine Kc (QR (T:="bytes") (v:=.bytes b t) (b:=Vn) rfl (by rw[MP];kernel_rfl) ?_);refine NH (λg=>absurd g (by decide)) (λ_=>?_);refine NH (λ_=>?_) (λg=>absurd (by decide +kernel) g);refine Kc (Qt (T:="bytes") (v:=.bytes b t) rfl ?_);refine Ko ?_;rw[if_neg (by decide +kernel)];refine Ko ⟨Om Ot _,SX (US (A:=A.in1) hh s.heap.objs.size b t).toS hn _ m _ b.size 0 _ _ _ rfl (LA _) ⟨_,w3 (Kq _ rfl) rfl rfl⟩ (KI _ q) (Tf _) λd a h k n i=>?_⟩;rw[Td k];refine G d.heap d.toks a h (λb z x e=>k.heap b z (λc=>?_) (KI _ e)) n i;rcases Kt.mp c with C | c
 ·exact x C
 ·exact absurd (Lz e) (by rw[Kg.mp c];exact Mz _)
theorem lm {R:OJ->Kh->Prop}(hh:A.handled=Vm) (x:Array UInt8) (t:PP) (S:Addr) (k:s.heap.get? S=Vl {cls:=.type "list",data:=.seq #[]}) (p:∀h' tk a c,(∀b o,b≠S->s.heap.get? b=Vl o->h'.get? b=Vl o)->h'.get? S=Vl {cls:=.type "list",dict:=Vm,data:=.seq a c,slots:=#[]}->
   Rh (qa x) a x.size->R (.ok (.ret .none)) {s with heap:=h',toks:=tk}) (hn:x.size<=sizeLine) :
  Km (Kn prog w) A.in1 (Md.«list.__init__» ⟨[.ref S,.bytes x t],[]⟩) (λl g=>match l with | .done f=>R (.ok f) g | .again c=>c.quiet=Vn/\Mu (Kn prog w) A c R g) (λe g=>R (.error e) g) s:=by
 show Km _ _ (do let old <- P7 (.ref S);Md.List.listUpdate (.ref S) (λ_=>#[]);letGo old.toList.reverse;LZ (.ref S) (.bytes x t) .none) _ _ s;refine Kc ?_;unfold P7;refine Kc (PK k rfl (Ko ?_));show Km _ _ (updateSeq S (λ_=>#[]) >>= λ_=>letGo (#[]:Array Value).toList.reverse >>= λ_=>LZ (.ref S) (.bytes x t) .none) _ _ s;refine Kc (Q9 k rfl ?_);have m:=Ln (N1 (λ_=>(#[]:Array Value))) k rfl;have i:∀b o,b≠S->s.heap.get? b=Vl o->(s.heap.update S (N1 (λ_=>(#[]:Array Value)))).get? b=Vl o:=λb o h e=>(L6 _ _ (LQ h)).trans e;refine Kc (wpAny_letGo ?_);refine pK (hn:=hn) hh x t S .none _ m λh' tk a c n j d=>?_;exact p h' tk a c (λb o h e=>n b o h (i b o h e)) j d
theorem lp {Q:Value->Kh->Prop}(hh:A.handled=Vm) (x:Array UInt8) (t:PP) (l:∀h' tk a g,(∀b o,s.heap.get? b=Vl o->h'.get? b=Vl o)->
   h'.get? s.heap.objs.size=Vl {cls:=.type "list",dict:=Vm,data:=.seq a g,slots:=#[]}->Rh (qa x) a x.size->Q (.ref s.heap.objs.size) {s with heap:=h',toks:=tk}) (hn:x.size<=sizeLine) :
  Km (Kn prog w) A (call (.type "list") [.bytes x t]) Q E s:=by
 refine callType_codes (Q₁:=λd i=>d=.ref s.heap.objs.size/\i={s with heap:=s.heap.push {cls:=.type "list",data:=.seq #[]}}) PySem.F.called_list (PySem.F.typeCall_list_1 _) PySem.F.entry_list_init (code_list_new _ ⟨rfl,rfl⟩) λd i k=>?_;obtain ⟨rfl,rfl⟩:=k;have h:(s.heap.push {cls:=.type "list",data:=.seq #[]}).get? s.heap.objs.size=Vl {cls:=.type "list",data:=.seq #[]}:=Kq _ rfl;refine w3 ⟨_,h,rfl⟩ (PySem.F.args_list_init_2 _ _) (lm (A:=A.in1) (hn:=hn) hh x t _ h λh' tk a g j f c=>?_);exact ⟨rfl,l h' tk a g (λb o e=>j b o (L1 (Lz e)) (KI _ e)) f c⟩
theorem nG (l:Addr) (items:Array Value) (a:(items.size:Int)<2 ^ 63):Meets (Md.«bool.__new__» ⟨[.type "bool",.ref l],[]⟩) (λ_ R s=>s.heap.IsList l items/\R (.ok (.ret (.bool (!items.isEmpty)))) {s with toks:=s.toks+1+1}):=Meets.of_wp λprog w A R s hs=>by
  obtain ⟨b,hs⟩:=hs;obtain ⟨c,g,d,e,h⟩:=s;have f:=PySem.F.conv_sub_bool
  repeat (any_goals (first | assumption | (with_reducible refine TK b a ?_) | wp_step))
  all_goals first | exact ⟨_,rfl,hs⟩ | exact hs | skip
end
section
variable {w:Ld}{A:Lc}{c:Cn}{x:X}{st:List SObj}{a b:Value}{d e o:D}{imm:Imm}{u v:V}
theorem gq {vs:List Value}{ds:List D}(r:RDs w imm vs ds):∀{ns:List Int},cR ds=Vl ns->Np vs ns:=r.ind (M:=λvs ds=>∀{ns:List Int},cR ds=Vl ns->Np vs ns) (λ{_} h=>J9 h▸.nil) λ{v vs d ds} h _ a {ns} e=>aA e λi c e=>aV e λm b e=>e▸RD.onInt (P:=λv=>Np (v::vs) (i::m)) h c λt=>.cons _ _ (a b)
theorem jS:∀{vs:List Value}{ns:List Int},Np vs ns->RDs w imm vs (ns.map .int)
 | _,_,.nil=>.nil
 | _,_,.cons n t h=>.cons (.int n t) (jS h)
theorem eU:∀{vs:List Value}{ns:List Int},Np vs ns->vs.length=ns.length
 | _,_,.nil=>rfl
 | _,_,.cons n t h=>congrArg Nl (eU h)
theorem jl (lo:Int):∀(n j:Nat),j<n->(eE lo n)[j]?=Vl (.int (lo+j))
 | 0,j,h=>absurd h (L5 _)
 | n+1,0,h=>by rw[show lo+((0:Nat):Int)=lo from RA _];rfl
 | n+1,j+1,h=>(jl (lo+1) n j (Nat.lt_of_succ_lt_succ h)).trans (by congr 2;lia)
theorem dP (lo:Int):∀n,(eE lo n).length=n
 | 0=>rfl
 | n+1=>congrArg Nl (dP (lo+1) n)
theorem RDs.of_get:∀{vs:List Value}{ds:List D},vs.length=ds.length->(∀(j:Nat) (v:Value) (d:D),vs[j]?=Vl v->ds[j]?=Vl d->RD w imm v d)->RDs w imm vs ds
 | [],[],_,_=>.nil
 | v::vs,d::ds,hl,h=>.cons (h 0 v d rfl rfl) (RDs.of_get (Ng hl) λj v d a b=>h (j+1) v d a b)
 | [],_::_,hl,_=>nomatch hl
 | _::_,[],hl,_=>nomatch hl
theorem Di {b:Array UInt8}{acc:Array Value}(h:Rh (qa b) acc b.size):RDs w imm acc.toList (il b):=.of_get (by have:=h.1;simp[il];walk_at "n") λj v d c a=>by
 obtain ⟨f,u,e,rfl⟩:=h.2 j v (by rw[<- Lh];exact c);unfold il at a;rw[Ks,Lh,e] at a;refine rq (J9 a) ?_;exact .int _ _
theorem ji {lo a:Int}(h:lo<=a):PU lo a 1=((a-lo).toNat:Int):=by
 unfold PU;rw[if_pos (by decide)];split<;>lia
theorem fits {i:Int}(a:0<=i) (b:i<=1000000):Pw i=true:=by
 unfold Pw;rw[Qd,decide_eq_true_eq,decide_eq_true_eq];lia
theorem kS {lo a:Int}(h0:0<=lo) (h:lo<=a) (b:a<=1000):Qp lo a 1=true:=by
 unfold Qp
 rewrite [ji h,fits h0 (by lia),fits (i:=a) (by lia) (by lia),fits (i:=1) (by decide) (by decide),fits (i:=((a-lo).toNat:Int)) (by lia) (by lia),if_pos (by decide),fits (by lia) (by lia)];simp
theorem yE {lo:Int}{n:Nat}{acc:Array Value}(h:Rh (λi v=>∃t,v=.int (lo+i*1) t) acc n):RDs w imm acc.toList (eE lo n):=.of_get (by rw[dP,KJ];exact h.1) λj v d c a=>by
 obtain ⟨t,rfl⟩:=h.2 j v (by rw[<- Lh];exact c);have b:=(Kd.mp a).1;rw[dP] at b;rw[jl _ _ _ b] at a;refine rq (J9 a) ?_;rw[Uo];exact .int _ _
theorem Cu (H:HI c st x) (hh:A.handled=Vm) (s:RD c.w x.imm a d) (h:GY d=Vl o):fT c.w A x (call (.type "list") [a]) o:=cL h (λh=>aA h λp j h=>bD h λf h=>et h <| RD.onRng (P:=λa=>fT c.w A x (call (.type "list") [a]) _) s j λm=>.grown λQ E q=>call_list_range (n:=(p.2-p.1).toNat) hh (H.immIn _ m) (kS f.1 f.2.1 f.2.2) (ji f.2.1) (by (first | walk_at "m" | lia)) λg i b l k r e=>
   q g i _ (lstO b.toList l) k (bF _) (by rw[r,Pj]) (.lst (.head _) (by have:=e.1;rw[KJ];(first | walk_at "m" | lia)) (yE e)))
 λh=>aA h λu j h=>bD h λf h=>et h <| s.bytesL (T:=λa=>call (.type "list") [a]) j λt z=>.grown λQ E q=>lp hh u t (λg i b l k r e=>
   q g i _ (lstO b.toList l) k (bF _) (by rw[r,Pj]) (.lst (.head _) (by have:=e.1;rw[KJ];(first | walk_at "m" | lia)) (Di e))) (bQ (by (first | walk_at "m" | lia)))
end
end
end
section
section
set_option linter.all false
theorem Gw:Oe (.type "ValueError") "__class__" = pure (Vl (.builtin "object.__class__")):=by rw[MW,L9];kernel_rfl
theorem Et:T4 (.type "ValueError") (.type (".".intercalate ("object.__class__".cutAt '.').dropLast))=pure true:=by rw[PySem.F.owner_object_class,MP];kernel_rfl
section
variable {prog:Program}{w:Ld}{A:Lc}{E:Value->Kh->Prop}{h:Heap}{g:Array GenState}{d:S4}{t:Nat}{os:OsState}{a:Addr}{o:Obj}
theorem Ey {R:OJ->Kh->Prop}(e:h.get? a=Vl o) (c:o.cls=.type "ValueError") (f:R (.ok (.ret (.type "ValueError"))) ⟨h,g,d,t,os⟩):Mu (Kn prog w) A (.call (.builtin "getset_descriptor.__get__") ⟨[.builtin "object.__class__",.ref a,.type "ValueError"],[]⟩) R ⟨h,g,d,t,os⟩:=by
 have j:(⟨h,g,d,t,os⟩:Kh).TypeIs (.ref a) "ValueError":=⟨_,e,c⟩
 have b:(⟨h,g,d,t,os⟩:Kh).TypeIs (.builtin "object.__class__") "getset_descriptor":=N6;have i:=Et;refine Nv Pf.plain PySem.F.entry_gs_get (Pf.check _ _ _ _ _ _ _ _ b (PySem.F.args_gs_get _ _ _) ?_)
 repeat (any_goals (first | assumption | wp_step))
 refine ⟨Se _ (by decide +kernel),MX PySem.F.entry_object_class ?_⟩
 repeat (any_goals (first | assumption | wp_step))
theorem xN {tk:PP}{Q:Fin->Kh->Prop}(c:h.get? a=Vl o) (b:o.cls=.type "ValueError") (j:Q (.done (.ret (.type "ValueError"))) ⟨h,g,d,t,os⟩):Km (Kn prog w) A (Md.«object.__getattribute__» ⟨[.ref a,.str "__class__" tk],[]⟩) Q E ⟨h,g,d,t,os⟩:=by
 have k:(⟨h,g,d,t,os⟩:Kh).TypeIs (.ref a) "ValueError":=⟨_,c,b⟩
 have e:(⟨h,g,d,t,os⟩:Kh).TypeIs (.builtin "object.__class__") "getset_descriptor":=N6;have i:=Gw;have l:=N6;have m:=Pf.lookup;have f:=PySem.F.slot_gs_set.lookup
 repeat (any_goals (first | assumption | wp_step))
 refine Ey c b ?_
 repeat (any_goals (first | assumption | wp_step))
theorem Gx {tk:PP}{Q:Value->Kh->Prop}(c:h.get? a=Vl o) (b:o.cls=.type "ValueError") (f:Q (.type "ValueError") ⟨h,g,d,t,os⟩):Km (Kn prog w) A (getAttrBy (.ref a) (.str "__class__" tk) Vo) Q E ⟨h,g,d,t,os⟩:=by
 have j:(⟨h,g,d,t,os⟩:Kh).TypeIs (.ref a) "ValueError":=⟨_,c,b⟩
 have e:=Nc.ga.lookup;have i:=Nc.ga.bind (.ref a)
 repeat (any_goals (first | assumption | wp_step))
 refine Nv Nc.ga.plain PySem.F.entry_bexc_ga (Nc.ga.check _ _ _ _ _ _ _ _ (show (⟨h,g,d,t,os⟩:Kh).TypeIs (.ref a) "ValueError" from ⟨_,c,b⟩) (PySem.F.args_bexc_ga _ _) (xN c b ?_))
 repeat (any_goals (first | assumption | wp_step))
theorem Ez {prog:Program}{w:Ld}{A:Lc}{E:Value->Kh->Prop}{Q:Option Value->Kh->Prop}{s:Kh}(p:∃o,s.heap.get? a=Vl o/\o.cls=.type "ValueError") (e:Q (Vl (.type "ValueError")) {s with toks:=s.toks+1}):Km (Kn prog w) A (getAttr? (.ref a) "__class__") Q E s:=by
 obtain ⟨o,c,b⟩:=p;obtain ⟨h,g,d,t,os⟩:=s;unfold getAttr? getAttrBy?
 repeat (any_goals (first | assumption | with_reducible apply Gx c b | wp_step))
end
theorem Eu (P:LB):isNotIn (KK P) "ValueError" cycleC=true:=rfl
theorem Ew {c:Cn}{A:Lc}{x:X}{st:List SObj}{a:Addr}{o:Obj}(B:Bs c) (H:HI c st x) (d:x.h.get? a=Vl o) (b:o.cls=.type "ValueError"):fT c.w A x (call (.builtin "isinstance") [.ref a,.ref cycleC]) (.bool Vo):=.tok (.bool _) λQ E q=>isn_call (P:=λh=>∃o,h.get? a=Vl o/\o.cls=.type "ValueError") (B.kin H.base) (λM=>b▸(SY d).andThen .now) (Eu _) (λe=>nomatch e) ⟨o,d,b⟩ (λp h=>Ez p h) q
end
end
section
local macro_rules (kind:=tacticKernel_rfl)|s=>Mine.Internal.mK s
section
set_option linter.all false
section
variable {w:Ld}{A:Lc}{c:Cn}{x:X}{st:List SObj}{a b:Value}{d e o:D}{imm:Imm}{u v:V}
theorem x9 {S:Kh}{l:Addr}{vs:List Value}{ns:List Int}{Q:Value->Kh->Prop}{E:Value->Kh->Prop}(hh:A.handled=Vm) (b:S.heap.IsList l vs.toArray) (f:Np vs ns) (h:∀h' tk a,Kp S.heap h'->Q (.int ns.sum a) {S with heap:=h',toks:=tk}):Km (Kn PR w) A (call (.builtin "sum") [.ref l]) Q E S:=by
 obtain ⟨d,e⟩:=f.allInts.items;rw[e] at b;refine sum_intListG hh b λh' tk a g=>?_;have i:preSum (numAt d) d.size=ns.sum:=by
  rw[preSum_eq,Me (by simp)];have c:numsOf vs.toArray.toList=ns:=f.numsOf;rw[e,nums_intItems] at c;rw[<- c]
 rw[i];exact h h' tk a g
theorem jU (k:Int):∀l,(iF k l).Perm (k::l):=@lr _ _ (.refl _) (λx r a=>by
  rw[nZ];exact if h:k<=x then (if_pos h)▸.refl _ else (if_neg h)▸(R5 x (a)).trans (R0 k x r))
theorem lR:∀l,(fe l).Perm l:=@lr _ _ (.refl _) (λx r a=>(jU x (fe r)).trans (R5 x (a)))
theorem mz {k:Int}:∀{l:List Int},l.Pairwise (·<=·)->(iF k l).Pairwise (·<=·):=@lr _ _ (@λ_=>Ma _ _) (λx r d=>(@λh=>by
  have c:=Ow.mp h;rw[nZ];by_cases a:k<=x
  ·rw[if_pos a];exact Ow.mpr ⟨λy b=>(Kt.mp b).elim (λe=>e▸a) λb=>Int.le_trans a (c.1 y b),h⟩
  ·rw[if_neg a];exact Ow.mpr ⟨λy b=>(Kt.mp ((jU k r).mem_iff.mp b)).elim (λe=>e▸Uj (UO.mp a)) (c.1 y),d c.2⟩))
theorem pe:∀l:List Int,(fe l).Pairwise (·<=·):=@lr _ _ (.nil) (λx r a=>mz (a))
theorem lS {l m:List Int}(b:m.Perm l) (hs:m.Pairwise (·<=·)):m=fe l:=List.Perm.eq_of_pairwise (le:=(·<=·)) (λ_ _ _ _ a c=>Int.le_antisymm a c) hs (pe l) (b.trans (lR l).symm)
theorem nQ {w:Ld}{p:Value}{ns:List Int}(u:ns.length<64) (y:∀(Q:List Value->Kh->Prop) (E:Value->Kh->Prop),(∀h' tk vs c,Kp x.h h'->Np vs c->c.Perm ns->Q vs {x.S with heap:=h',toks:=tk})->Km (Kn PR w) A.in1 (TS p) Q E x.S):fT w A x (call (.builtin "sorted") [p]) (.lst ((fe ns).map .int)):=.grown λQ E q=>by
 refine OB Vk U6 U7 (U8 _) ?_;unfold Md.«sorted»;refine Kc (m:=checkCount "sorted" 1 1 _) (Ko ?_);refine Kc (y _ _ λh' tk vs c k g f=>?_);have z:=eU g;have r:=f.length_eq;refine Kc (UP (items:=vs) ?_ (bQ (by lia)));have a:(h'.push (Ty "list" vs.toArray 0)).get? h'.objs.size=Vl (Ty "list" vs.toArray 0):=Kq _ rfl;refine Kc (Lm (MO UK ⟨_,a,rfl⟩ Um (UL a g (by lia) λout s i j v=>⟨_,rfl,?_⟩) (UM _)));obtain ⟨e,t⟩:=UW (out:=out) a;have d:∀b o,x.h.get? b=Vl o->b<h'.objs.size:=λb o e=>Lz (k b o e);refine Ko ⟨_,rfl,q _ tk h'.objs.size (lstO out.toList e) (λb o l=>?_) ?_ (by rw[t]) (.lst (.head _) ?_ ?_)⟩
 ·have n:=d b o l;rw[UJ (L1 n) (by rw[LF];exact Mg n)];exact aM _ _ _ _ (k b o l)
 ·cases e:x.h.get? h'.objs.size with
  | none=>rfl
  | some o=>exact absurd (d _ o e) (Mz _)
 ·have:=eU i;have:=j.length_eq;lia
 ·rw[<- lS (j.trans f) v];exact jS i
theorem wC {kvs:List (Int×Value)}{ds:List (Int×D)}(rs:RKs c.w imm kvs ds):∀(l:List Value),l.length=kvs.length->(∀(j:Nat) v,l[j]?=Vl v->∃k x,kvs[j]?=Vl (k,x)/\(K8 PR c.w).is k v=Vn)->Np l (ds.map (·.1)):=rs.ind (M:=λkvs ds=>∀(l:List Value),l.length=kvs.length->(∀(j:Nat) v,l[j]?=Vl v->∃k x,kvs[j]?=Vl (k,x)/\(K8 PR c.w).is k v=Vn)->Np l (ds.map (·.1))) (λl a _=>LR a▸.nil) λ{k v i d ds} _ _ g l a h=>by
   cases l with
   | nil=>cases a
   | cons u l=>
    refine aC λm b=>?_;obtain ⟨o,n,e,f⟩:=h 0 u rfl;cases J9 e;obtain ⟨t,rfl⟩:=PO f;refine b ?_;exact .cons _ _ (g l (Ng a) λj v e=>h (j+1) v e)
theorem yh (H:HI c st x) (hh:A.handled=Vm) (t:RD c.w x.imm a d) (h:DG d=Vl o):fT c.w A x (call (.builtin "sorted") [a]) o:=cL h (λh=>aA h λl f h=>aA h λJ K h=>bD h λr h=>et h <| t.tupL (T:=λa=>call (.builtin "sorted") [a]) f λ{p I n} m z F=>by
  exact nQ r λQ E q=>TN p (.inr rfl) (H.immIn _ m) rfl rfl (λb k=>q b x.S.toks I J k (gq F K) (.refl _)) (bQ (by rw[Kw];exact z)))
 λh=>aA h λkvs f h=>bD h λr h=>et h <| RD.onDct (P:=λa=>fT c.w A x (call (.builtin "sorted") [a]) _) t f λ{p o u} m C hs y=>by
  obtain ⟨ep,i⟩:=(LL.mpr ⟨o,H.immIn _ m,C⟩:x.h.DictOf (K8 PR c.w) p u).dictAt;have L:=y.rk.length;exact nQ (by rw[Ka];exact r) λQ E q=>kdu_collect (A:=A.in1) (kdl_dict (knd:=K8 PR c.w) (kvs:=u) (ep:=ep) hs) hh i (bQ (by lia)) λb G g k s=>q b G _ _ k (wC y g.toList (by rw[KJ];exact s.1) λj v e=>s.2 j v (by rw[<- Lh];exact e)) (.refl _)
theorem Fo {n:Nat}(H:HI c st x) (f:RV c.w x.ρ x.imm a v) (h:G1 st v=Vl n):fT c.w A x (call (.builtin "len") [a]) (.int n):=cL h (λh=>aV h λl b h=>h▸H.lsL (T:=λa=>call (.builtin "len") [a]) f b λi z r=>.tok (RD.int _ _) λQ E q=>len_list (aJ i) (qP z) (by rw[Kw,r.length];exact q)) λh=>aA h λd g h=>have e:=f.onD g
  cL h (λh=>aV h λl b h=>h▸e.tupL (T:=λa=>call (.builtin "len") [a]) b λm z r=>.tok (RD.int _ _) λQ E q=>PyProof.Rows.len_tuple (my (H.immIn _ m)) (qP z) (by rw[Kw,r.length];exact q))
  λh=>cL h (λh=>aV h λl b h=>h▸e.bytesL (T:=λa=>call (.builtin "len") [a]) b λt z=>.tok (RD.int _ _) λQ E q=>len_bytes (by walk_at "n") q)
  λh=>aV h λl b h=>h▸e.strL (T:=λa=>call (.builtin "len") [a]) b λt z=>.tok (RD.int _ _) λQ E q=>PyProof.Rows.len_str (by simp only[UH];walk_at "n") q
theorem wG {g:Value}{r:Bool}(B:Bs c) (H:HI c st x) (f:RV c.w x.ρ x.imm a v) (s:RD c.w x.imm g d) (h:pD st v d=Vl r):fT c.w A x (call (.builtin "isinstance") [a,g]) (.bool r):=cL h (λh=>aA h λb i h=>aA h λK j h=>have f:=f.onD j
  RD.onBi (P:=λg=>fT c.w A x (call (.builtin "isinstance") [a,g]) (.bool r)) s i <| by
   cases b<;>first
    | exact au h
    | exact aV h λl e h=>h▸f.lstL (T:=λa=>call (.builtin "isinstance") [a,.type "list"]) e λm z u=>.same (.bool _) λQ E q=>PySem.IsiPair.list_list (H.immIn _ m) rfl q
    | exact aV h λl e h=>h▸f.tupL (T:=λa=>call (.builtin "isinstance") [a,.type "tuple"]) e λm z u=>.same (.bool _) λQ E q=>PySem.IsiPair.tuple_tuple (H.immIn _ m) rfl q
    | exact aV h λl e h=>h▸f.bytesL (T:=λa=>call (.builtin "isinstance") [a,.type "bytes"]) e λt z=>.stay λQ E q=>call_isinstance (isinstance_true (Tx:="bytes") PySem.F.isi_meta_bytes PySem.F.isi_self_bytes) ⟨rfl,q _ x.h _ (λ_ _ e=>e) (RD.bool _)⟩)
 λh=>aA h λp i h=>aA h λL j h=>aA h λb y h=>bD h λG h=>RD.onGbl (P:=λg=>fT c.w A x (call (.builtin "isinstance") [a,g]) (.bool r)) s i <| by
   obtain ⟨rfl,hb⟩:=G;obtain rfl:b=.valueError:=by cases b<;>first | rfl | cases hb
   refine rq (J9 h) ?_;refine H.on (P:=λa=>fT c.w A x (call (.builtin "isinstance") [a,.ref cycleC]) (.bool Vo)) f j λ{l a I o} _ k C=>?_;obtain rfl:=Ac C;obtain ⟨o,J,t,M,n,rfl,hc,_⟩:=k.foot;exact Ew B H (H.ledIn _ (aD k.led (.head _))) (hc.trans (by rw[kh y];rfl))
end
end
section
set_option linter.all false
abbrev xu (l:List Nat):Prop:=l.Pairwise (· < ·)
section
variable {xs:Array Nat}{j:Nat}
theorem lW (h:xu xs.toList){m n:Nat}(a:m<n) (hn:n<xs.size):xs[m]'(O2 a hn)<xs[n]:=by
 have:=QY.mp h m n (by simpa using O2 a hn) (by simpa using hn) a
 simpa using this
structure Bel (xs:Array Nat) (j r:Nat):Prop where
 le:r<=xs.size
 lo:∀m (h:m<xs.size),m<r->xs[m]<j
 hi:∀m (h:m<xs.size),r<=m->j<=xs[m]
theorem F7 (h:xu xs.toList):∀(b lo hi:Nat),hi-lo<=b->lo<=hi->hi<=xs.size->(∀m (h:m<xs.size),m<lo->xs[m]<j)->(∀m (h:m<xs.size),hi<=m->j<=xs[m])->Bel xs j (M0 xs j b lo hi):=@nr _ (@λlo hi o p f g e=>by
  obtain rfl:lo=hi:=by (first | walk_at "m" | lia)
  exact ⟨f,g,e⟩)
 (λb k=>(@λlo hi o p f g e=>by
  rw[show M0 xs j (b+1) lo hi=if lo<hi then (if xs.getD ((lo+hi) / 2) j<j then M0 xs j b ((lo+hi) / 2+1) hi else M0 xs j b lo ((lo+hi) / 2)) else lo from rfl];by_cases q:lo<hi
  ·rw[if_pos q];have i:(lo+hi) / 2<xs.size:=by (first | walk_at "m" | lia)
   have r:xs.getD ((lo+hi) / 2) j=xs[(lo+hi) / 2]:=by simp[i]
   show Bel xs j (if xs.getD ((lo+hi) / 2) j<j then M0 xs j b ((lo+hi) / 2+1) hi else M0 xs j b lo ((lo+hi) / 2));rw[r];split
   ·rename_i c;refine k _ _ (by (first | walk_at "m" | lia)) (by (first | walk_at "m" | lia)) f (λm d l=>?_) e;rcases P5 m ((lo+hi) / 2) with a | a
    ·exact O2 (lW h a i) c
    ·obtain rfl:m=(lo+hi) / 2:=by (first | walk_at "m" | lia)
     exact c
   ·rename_i c;refine k _ _ (by (first | walk_at "m" | lia)) (by (first | walk_at "m" | lia)) (by (first | walk_at "m" | lia)) g λm d n=>?_;rcases P5 ((lo+hi) / 2) m with a | a
    ·have:=lW h a d;(first | walk_at "m" | lia)
    ·obtain rfl:m=(lo+hi) / 2:=by (first | walk_at "m" | lia)
     (first | walk_at "m" | lia)
  ·rw[if_neg q];obtain rfl:lo=hi:=by (first | walk_at "m" | lia)
   exact ⟨f,g,e⟩))
theorem no (h:xu xs.toList) (j:Nat):Bel xs j (KU xs j):=F7 h _ _ _ (by lia) (LA _) (KH _) (λm _ q=>absurd q (L5 _)) λm h q=>absurd h (by lia)
theorem nj {r r':Nat}(a:Bel xs j r) (b:Bel xs j r'):r=r':=by
 rcases Nat.lt_trichotomy r r' with q | q | q
 ·have h:r<xs.size:=L3 q b.le;have:=b.lo r h q;have:=a.hi r h (KH _);lia
 ·exact q
 ·have h:r'<xs.size:=L3 q a.le;have:=a.lo r' h q;have:=b.hi r' h (KH _);lia
theorem ua (h:xu xs.toList):KU xs 0=0:=nj (no h 0) ⟨LA _,λm _ q=>absurd q (L5 _),λm _ _=>LA _⟩
theorem ub (h:xu xs.toList){i:Nat}(c:i<xs.size):KU xs (xs[i]+1)=i+1:=nj (no h _) ⟨c,λm b q=>by
  rcases P5 m i with a | a
  ·have:=lW h a c;walk_at "n"
  ·obtain rfl:m=i:=by walk_at "n"
   walk_at "n",λm b q=>lW h q b⟩
theorem sB (h:xu xs.toList) (hn:xs[KU xs j]?≠Vl j):xu (Pu xs (KU xs j) j).toList:=by
 have b:=no h j;have e:(Pu xs (KU xs j) j).toList=xs.toList.take (KU xs j)++j::xs.toList.drop (KU xs j):=by
  unfold Pu;simp[Array.toList_extract,List.extract];exact Me (by simp)
 rw[e];refine List.pairwise_append.mpr (w3 (h.sublist (PV _ _)) (Ow.mpr ⟨λy g=>?_,h.sublist (SF _ _)⟩) (λx z y g=>?_))
 ·obtain ⟨m,d⟩:=K0.mp g;rw[NE] at d;obtain ⟨l,k⟩:=Kd.mp d;have c:KU xs j+m<xs.size:=by simpa using l
  have p:=b.hi _ c (by lia);have w:xs[KU xs j+m]=y:=by simpa using k
  rcases P5 j y with a | a
  ·exact a
  ·exfalso;cases m with
   | zero=>
    have o:KU xs j<xs.size:=c;exact hn ((Le o).trans (congrArg Vl ((show xs[KU xs j]=y from w).trans (by lia))))
   | succ m=>
    have o:KU xs j<xs.size:=by lia
    have:=lW h (m:=KU xs j) (n:=KU xs j+(m+1)) (by lia) c;have:=b.hi _ o (KH _);lia
 ·obtain ⟨m,d⟩:=K0.mp z;have v:=(Kd.mp d).1;rw[Lr] at v;rw[MV (by lia)] at d;obtain ⟨l,k⟩:=Kd.mp d;have c:m<xs.size:=by simpa using l
  have q:xs[m]=x:=by simpa using k
  have s:=b.lo m c (by lia);rcases Kt.mp g with rfl | g
  ·lia
  ·obtain ⟨n,f⟩:=K0.mp g;rw[NE] at f;obtain ⟨t,u⟩:=Kd.mp f;have i:KU xs j+n<xs.size:=by simpa using t
   have r:xs[KU xs j+n]=y:=by simpa using u
   have:=b.hi _ i (by lia);lia
end
structure Tb (t:Mw) (L:Bool):Prop where
 ris:xu t.place.toList
 dum:t.dummies=#[]
 led:t.led=L
section
variable {t:Mw}{L:Bool}
theorem Tb.slot (T:Tb t L) (j:Nat):t.slot j≠.dummy/\(t.slot j=.empty->t.place[KU t.place j]?≠Vl j):=by
 unfold Mw.slot;rw[T.dum];have a:Pv #[] j=false:=by
  unfold Pv;rw[show ((#[]:Array Nat)[KU #[] j]?)=Vm by simp];rfl
 rw[a];dsimp only;split
 ·exact ⟨nofun,nofun⟩
 ·rename_i h;exact ⟨nofun,λ_ e=>h (by rw[e];simp)⟩
theorem Tb.probe (T:Tb t L){f:Nat->Int}{h:Int}:∀(a:Nat){p:Mw.Probe}{j:Nat}{d:Option Nat},p.dummy=Vm->Nn t f h a p=Vl (.empty j d)->d=Vm/\t.slot j=.empty
 | 0,_,_,_,_,e=>nomatch e
 | a+1,p,j,d,c,e=>by
  have e:Mw.Slot.casesOn (motive:=λ_=>Option SH) (t.slot p.j) (Vl (.empty p.j p.dummy)) (Nn t f h a (t.advance {p with dummy:=Vl p.j})) (λi=>if f i==h then Vl (.candidate p.j i (t.advance p)) else Nn t f h a (t.advance p))=Vl (.empty j d):=(show _=Nn t f h (a+1) p from by kernel_rfl).trans e;have b:(t.advance p).dummy=none:=by
   unfold Mw.advance;split
   ·exact c
   ·exact c
  cases q:t.slot p.j with
  | empty=>
   rw[q] at e;obtain ⟨rfl,rfl⟩:=SH.empty.inj (J9 e);exact ⟨c,q⟩
  | dummy=>exact absurd q (T.slot _).1
  | live i=>
   rw[q] at e;have e:(if f i==h then Vl (.candidate p.j i (t.advance p)) else Nn t f h a (t.advance p))=Vl (.empty j d):=e;split at e
   ·cases e
   ·exact T.probe a b e
theorem Tb.free (T:Tb t L){h:Int}{j:Nat}{b:Bool}(e:t.freeSlot h=Vl (j,b)):t.place[KU t.place j]?≠Vl j:=by
 unfold Mw.freeSlot at e;split at e
 ·rename_i a d q;unfold Vj at q;obtain ⟨rfl,h2⟩:=T.probe _ rfl q;cases e;exact (T.slot _).2 h2
 ·cases e
theorem wc (n:Nat):xu (Array.range n).toList:=by rw[Array.toList_range];exact NK
theorem Tb.standIn (T:Tb t L) (n:Nat):Tb (t.standIn n) L:=⟨wc n,rfl,T.led⟩
theorem Tb.orStandIn (T:Tb t L) (n:Nat):Tb (t.orStandIn n) L:=by
 unfold Mw.orStandIn;split
 ·exact T
 ·exact T.standIn n
theorem Tb.put (T:Tb t L){j:Nat}(hn:t.place[KU t.place j]?≠Vl j):Tb (t.put j).1 L:=by
 have a:Pv t.dummies j=false:=by
  rw[T.dum];unfold Pv;rw[show ((#[]:Array Nat)[KU #[] j]?)=Vm by simp];rfl
 unfold Mw.put;rw[a];exact ⟨sB T.ris hn,T.dum,T.led⟩
theorem Tb.layNew (T:Tb t L) (es:Array (Int×Value)) (h:Int) (x:Value):Tb (Uy t es h x).2.1 L:=by
 unfold PySem.layNew;split
 ·rename_i a b q;exact (T.put (T.free q)).orStandIn _
 ·exact T.standIn _
theorem Tb.laid {c b d:Nat}{led plain:Bool}{hs:Array Int}{h:Mw}{o:Array Nat}(e:Sw c b d led plain hs=Vl (h,o)):Tb h led:=by
 unfold Sw at e;cases q:Mw.layClean c hs with
 | none=>rw[q] at e;cases e
 | some owner=>
  rw[q] at e;cases e;refine ⟨?_,rfl,rfl⟩;show xu (Na _ (List.filterMap _ _));rw[Sg];have f:∀(l:List Nat),xu l->xu (l.filterMap λj=>KG (·.1) ((owner.getD j Vm).map (j,·))):=λl i=>by
   have:∀(l:List Nat),(l.filterMap λj=>KG (·.1) ((owner.getD j Vm).map (j,·))).Sublist l:=λl=>by
    induction l with
    | nil=>exact .slnil
    | cons a l g=>
     rw[KX];cases owner.getD a Vm with
     | none=>exact .cons _ g
     | some v=>exact .cons_cons _ g
   exact i.sublist (this l)
  exact f _ NK
theorem Tb.relayAll (T:Tb t L) (es:Array (Int×Value)) (n:Nat):Tb (Qv t es n).2.1 L:=by
 unfold PySem.relayAll;split
 ·rename_i a o q;dsimp only;split
  ·exact T.led▸Tb.laid q
  ·exact T.standIn _
 ·exact T.standIn _
theorem Tb.fresh (L:Bool):Tb (.fresh 0 0 L) L:=⟨.nil,rfl,rfl⟩
theorem Tb.off (T:Tb t L):Tb {t with plain:=Vo} L:=⟨T.ris,T.dum,T.led⟩
end
end
section
set_option linter.all false
noncomputable def CL:Value->Int
 | .int i _=>i
 | _=>0
structure Es (w:Ld) (L:Bool) (es:Array (Int×Value)) (t:Mw) (σ:List Int):Prop where
 el:ElemsOf (K8 PR w) es.toList
 perm:(es.toList.map λe=>CL e.2).Perm σ
 fits:t.fits es.size=Vn
 tb:Tb t L
 len:σ.length<=1000
structure SetAt (w:Ld) (L:Bool) (h:Heap) (a:Addr) (σ:List Int):Prop where
 at_:∃o es ep t,h.get? a=Vl o/\o.ExactSet/\o.data=.set es ep t/\Es w L es t σ
section
variable {w:Ld}{A:Lc}{E:Value->Kh->Prop}{s:Kh}{L:Bool}{es es':Array (Int×Value)}{t t':Mw}{σ:List Int}{a:Addr}{k:Int}{u:PP}{o:Obj}{ep:Nat}
theorem Es.size (G:Es w L es t σ):es.size=σ.length:=by have:=G.perm.length_eq;simpa using this
theorem Es.int (G:Es w L es t σ){e:Int×Value}(b:e∈es.toList):∃i u,e.2=.int i u:=by
 refine aC λd a=>?_;obtain ⟨⟨k,c,_⟩,_⟩:=G.el e b;obtain ⟨u,q⟩:=PO c;refine a ?_;exact y2 k u q
theorem zB {v:Value}{i:Int}{u:PP}(h:v=.int i u) (k:Int):(K8 PR w).is k v=Vn<->k=i:=by
 refine rp h ?_;have:=KeyKind.is_eq_decide (knd:=K8 PR w) (MC PR w i u) k;rw[this,decide_eq_true_eq]
theorem Es.mem (G:Es w L es t σ) (k:Int):k∈σ<->∃e∈es.toList,(K8 PR w).is k e.2=true:=by
 rw[<- G.perm.mem_iff,Kr];constructor
 ·rintro ⟨e,a,rfl⟩
  obtain ⟨i,u,q⟩:=G.int a;exact ⟨e,a,(zB q _).mpr (by rw[q];rfl)⟩
 ·rintro ⟨e,a,b⟩
  obtain ⟨i,u,q⟩:=G.int a;exact ⟨e,a,by rw[q];exact ((zB q k).mp b).symm⟩
theorem Es.move (G:Es w L es t σ) (p:es'.toList.Perm es.toList) (f:t'.fits es'.size=Vn) (T:Tb t' L):Es w L es' t' σ:=⟨G.el.perm p,(p.map _).trans G.perm,f,T,G.len⟩
theorem Es.store {Q:Unit->Kh->Prop}(e:s.heap.get? a=Vl o) (g:o.ExactSet) (b:o.data=.set es ep t) (G:Es w L es' t' σ) (h:∀h' d c,MS a s.heap h'->h'.get? a=Vl d->d.ExactSet->d.data=.set es' c t'->Q () {s with heap:=h'}):Km (Kn PR w) A (Ut a es' t') Q E s:=by
 refine wpAny_storeSet_of e b ?_ (by have:=G.size;have:=G.len;rw[Oq];walk_at "n");have f:=Ln (UI es' t') e (by rw[putSet_of es' t' b];rfl);rw[putSet_of es' t' b] at f;exact h _ _ _ (LU s.heap a (UI es' t')) f g rfl
theorem DX {b:Bool}{Q:Unit->Kh->Prop}(h:Q () s):Km (Kn PR w) A (match b with | true=>rule "set.scan.the-table-gave-way" | false=>pure ()) Q E s:=by cases b<;>first | exact Ko h | exact Qe h
theorem vZ {Q:Bool->Kh->Prop}(S:SetAt w L s.heap a σ) (hz:σ.length<1000) (h:∀b h' tk,MS a s.heap h'->SetAt w L h' a (if σ.contains k=Vn then σ else σ++[k])->Q b {s with heap:=h',toks:=tk}):Km (Kn PR w) A (setAdd a (.int k u)) Q E s:=by
 obtain ⟨o,es,ep,t,y,P,x,G⟩:=S.at_;have Y:es.size<scanBound:=by have:=G.size;show _<4096;walk_at "n"
 unfold setAdd;refine Lm (Kc ((K8 PR w).pyHash (k:=k) (MC _ _ _ _) ?_));unfold setAddHashed Uv;refine Lm (Kc (NV (s:={s with toks:=s.toks+1}) y x G.fits ?_));dsimp only;rw[byScan_of rfl Y G.el];simp only[↓reduceIte];unfold setAddByScan;refine Kc (Kc (Qe (Kc (wpAny_setScan_of (MC _ _ _ _) y x G.fits G.el ?_))));cases O:TE (λe=>(K8 PR w).is k e.2) es.toList with
 | some j=>
  dsimp only;obtain ⟨hj,C,_⟩:=Mc.mp O;have z:σ.contains k=true:=KO.mpr ((G.mem k).mpr ⟨_,Mo hj,C⟩);refine Ko (Ko (h _ s.heap _ (MS.refl a s.heap) ?_));rw[if_pos z];exact ⟨o,es,ep,t,y,P,x,G⟩
 | none=>
  dsimp only;have z:¬σ.contains k=true:=λq=>by
   obtain ⟨e,he,p⟩:=(G.mem k).mp (KO.mp q);have:=OD.mp O e he;rw[p] at this;cases this
  rw[if_neg z] at h;have l:Es w L (Uy t es ((K8 PR w).hash k) (.int k u)).1 (Uy t es ((K8 PR w).hash k) (.int k u)).2.1 (σ++[k]):=by
   have p:=layNew_perm t es ((K8 PR w).hash k) (.int k u);rw[Sm] at p;refine ⟨(G.el.push (MC _ _ _ _) rfl).perm p,(p.map _).trans ?_,layNew_fits _ _ _ _,G.tb.layNew _ _ _,by rw[Kj,KM];walk_at "n"⟩;rw[Kz];exact G.perm.append (.refl _)
  generalize Uy t es ((K8 PR w).hash k) (.int k u)=R at l ⊢;obtain ⟨c,f,wd,K⟩:=R;dsimp only at l ⊢;refine Kc (DX ?_);have d:∀(tk:Nat),Km (Kn PR w) A (do
    Ut a c f
    if (!wd&&f.tooFull)=Vn then do
      (match (Qv f c (N7 c.size)).2.2 with | true=>rule "set.scan.the-table-gave-way" | false=>pure ())
      Ut a (Qv f c (N7 c.size)).1 (Qv f c (N7 c.size)).2.1
      pure (Vl Vn)
     else pure (Vl Vn)) (λr i=>r=Vl Vn/\Q Vn i) E {s with toks:=tk}:=λtk=>by
   refine Kc (l.store y P x λh1 o1 H v M J T=>?_);split
   ·have N:Es w L (Qv f c (N7 c.size)).1 (Qv f c (N7 c.size)).2.1 (σ++[k]):=l.move (relayAll_perm _ _ _) (relayAll_fits _ _ _) (l.tb.relayAll _ _);refine Kc (DX (Kc (N.store M J T λU o2 F I e1 e2 e3=>Ko ⟨rfl,h _ U _ (v.trans I) ⟨o2,_,F,_,e1,e2,e3,N⟩⟩)))
   ·exact Ko ⟨rfl,h _ h1 _ v ⟨o1,c,H,f,M,J,T,l⟩⟩
  have n:∀{m:OW (Option Bool)}{S:Kh},Km (Kn PR w) A m (λr i=>r=Vl Vn/\Q Vn i) E S->Km (Kn PR w) A m (λr i=>Km (Kn PR w) A (match r with | some g=>pure g | none=>Uv a (.int k u) ((K8 PR w).hash k) 99999) Q E i) E S:=λhm=>KN hm (λr i q=>by rw[q.1];exact Ko q.2) λ_ _ e=>e;split
  ·refine Kc ?_;rw[hashByValue_scannable 8 rfl];exact Ko (n (d _))
  ·refine Kc (Ko ?_);simp only[↓reduceIte];exact n (d _)
end
end
section
set_option linter.all false
noncomputable abbrev ff (w:Ld):Bool:=!w.params.followText "set-order"
noncomputable abbrev BD (L:Bool):Obj:={cls:=.type "set",dict:=Vm,data:=.set #[] 0 (.fresh 0 0 L)}
noncomputable def xc (acc:List Int) (l:List Int):List Int:=l.foldl (λacc x=>if acc.contains x then acc else acc++[x]) acc
theorem rF (acc:List Int):∀l,(xc acc l).length<=acc.length+l.length
 | []=>KH _
 | x::l=>by
  have:=rF (if acc.contains x then acc else acc++[x]) l;show (xc (if acc.contains x then acc else acc++[x]) l).length<=_;rw[Ls];split at this
  ·rename_i h;rw[if_pos h];walk_at "n"
  ·rename_i h;rw[if_neg h];rw[Kj,KM] at this;walk_at "n"
section
variable {w:Ld}{A:Lc}{E:Value->Kh->Prop}{s:Kh}{L:Bool}{σ:List Int}{a I l:Addr}{vs:List Value}{ns:List Int}{n:Nat}
theorem SetAt.frame {h h':Heap}(S:SetAt w L h a σ) (k:∀o,h.get? a=Vl o->h'.get? a=Vl o):SetAt w L h' a σ:=⟨S.at_.imp λo h=>h.imp λ_ h=>h.imp λ_ h=>h.imp λ_ h=>⟨k _ h.1,h.2⟩⟩
theorem yo {R:OJ->Kh->Prop}(hh:A.handled=Vm) (hl:s.heap.get? l=Vl (lstO vs n)) (G:Np vs ns) (H:l≠I) (x:a≠I) (q:a≠l) (hz:ns.length<=100):∀(k i:Nat) (s':Kh) (σ:List Int),ns.length-i=k->i<=ns.length->s'.heap.get? l=Vl (lstO vs n)->s'.heap.IsListIter I l i->SetAt w L s'.heap a σ->σ.length<=i->
  (∀h' tk,(∀b o,b≠a->b≠I->s'.heap.get? b=Vl o->h'.get? b=Vl o)->SetAt w L h' a (xc σ (ns.drop i))->R (.ok (.ret .none)) {s' with heap:=h',toks:=tk})->Mu (Kn PR w) A (.builtin "set.update.loop" ⟨[.ref a,.ref I],[]⟩) R s':=by
 have d:=eU G;have W:=T8 (prog:=PR) (w:=w) (A:=A.in1) hh I l H vs.toArray;have E:∀{h:Heap},h.get? l=Vl (lstO vs n)->h.IsList l vs.toArray:=λe=>aJ e;intro k;induction k with
 | zero=>
  intro i s' σ J O j r S T h;obtain rfl:i=ns.length:=by walk_at "n"
  refine MX OG ?_;rw[Nd M9 _];refine Kc (W.done s' _ _ ⟨by rw[Kw,d];exact r,E j⟩ λh' tk g=>?_);show Km _ A.in1 (ret Nj) _ _ _;refine Ko (h h' tk (λb o C p e=>g b o (λm=>p (Kg.mp m)) e) ?_);rw[SQ];exact S.frame λo e=>g a o (λm=>x (Kg.mp m)) e
 | succ k Y=>
  intro i s' σ J O j r S T h;have c:i<ns.length:=by walk_at "n"
  refine MX OG ?_;rw[Nd M9 _];refine Kc (W.item i s' _ _ (by rw[Kw,d];exact c) ⟨r,E j⟩ λv h' tk U y g=>?_);obtain ⟨u,rfl⟩:=Np.int_at G i v (by rw[<- NU];exact U);have f:∀b o,b≠I->s'.heap.get? b=Vl o->h'.get? b=Vl o:=λb o n e=>g b o (λm=>n (Kg.mp m)) e;show Km _ A.in1 (Qw [Value.int (ns.getD i 0) u] (setAdd a (.int (ns.getD i 0) u)) >>= _) _ _ _;refine Kc (Lm (vZ (s:={s' with heap:=h',toks:=tk}) (S.frame λo e=>f a o x e) (by walk_at "n") λb h2 K hs M=>?_));refine Ko ⟨Om M9 _,Y (i+1) _ _ (by walk_at "n") c ?_ ?_ M ?_ λN z t P=>?_⟩
  ·exact (hs.2 l (LQ q)).trans (f l _ H j)
  ·exact y.1.at λo e=>(hs.2 I (LQ x)).trans e
  ·split
   ·walk_at "n"
   ·rw[Kj,KM];walk_at "n"
  ·refine h N z (λb o C p e=>t b o C p ((hs.2 b C).trans (f b o p e))) ?_;have Q:ns.drop i=ns.getD i 0::ns.drop (i+1):=by
    rw[Ml c,QM,Ki c];rfl
   rw[Q];exact P
set_option maxHeartbeats 1000000 in
theorem B1 (v:Value){Q₁:Value->Kh->Prop}(h:Q₁ (.ref s.heap.objs.size) {s with heap:=s.heap.push (BD (ff w))}):Mu (Kn PR w) A (.call (.builtin "set.__new__") ⟨[.type "set",v],[]⟩) (OU Q₁ E) s:=by
 refine Ra ?_;show Km _ A.in1 (do checkBuiltinCall "set.__new__" ⟨[.type "set",v],[]⟩;again (.builtin "set.__new__" ⟨[.type "set",v],[]⟩)) _ _ s;refine Kc (MM (PySem.F.newCall_set_1 v) (Ko ⟨Om Q5 _,MX PySem.F.entry_set_new ?_⟩));rw[Nd Q5 _];unfold Md.«set.__new__» Md.Frozenset.newClass;have a:=sub_set_self;obtain ⟨b,g,d,e,c⟩:=s;dsimp only
 wp_walk
 refine QS (Ko ?_);dsimp only;simp only[newObj];refine Kc (Va (Ko ?_));exact Ko h
set_option maxHeartbeats 3200000 in
theorem xi {Q:Value->Kh->Prop}(hh:A.handled=Vm) (x:s.heap.get? l=Vl (lstO vs n)) (O:Np vs ns) (hz:ns.length<=100) (h:∀h' tk,Kp s.heap h'->SetAt w (ff w) h' s.heap.objs.size (xc [] ns)->Q (.ref s.heap.objs.size) {s with heap:=h',toks:=tk}):Km (Kn PR w) A (call (.type "set") [.ref l]) Q E s:=by
 obtain ⟨c,Y,G⟩:=Mj.mro;have m:=Mj.made;have y:=Mj.sub;refine Od (Ra ?_);refine Ko ⟨Se _ (by decide +kernel),MX PySem.F.entry_type_call ?_⟩;rw[Lc.under_plain (weight_type_call_type "set" [.ref l] []) rfl];have h1:=Mj.notType;have h2:=Mj.canCreate;have N:=PySem.F.typeCall_set_1 (.ref l)
 repeat (any_goals (first | assumption | wp_step))
 refine Po (B1 (.ref l) (E:=E) (Q₁:=λg C=>g=.ref s.heap.objs.size/\C={s with heap:=s.heap.push (BD (ff w))}) ⟨rfl,rfl⟩) λr C q=>?_;rcases r with e | (g | _ | _ | _)<;>first | exact q.elim | exact q | skip
 obtain ⟨rfl,rfl⟩:=q;have z:(s.heap.push (BD (ff w))).get? s.heap.objs.size=Vl (BD (ff w)):=Kq _ rfl;have L:Kh.TypeIs {s with heap:=s.heap.push (BD (ff w))} (.ref s.heap.objs.size) "set":=⟨_,z,rfl⟩
 have T:=Mj.init.lookup;have M:=Mj.init.bind (.ref s.heap.objs.size)
 repeat (any_goals (first | assumption | wp_step))
 refine Po (Nv (R:=OU (λr u=>r=.none/\∃h' tk,u={s with heap:=h',toks:=tk}/\SetAt w (ff w) h' s.heap.objs.size (xc [] ns)/\Kp s.heap h') E) Mj.init.plain PySem.F.entry_set_init (check_set_init_1 L ?_)) λU u f=>?_
 ·have a:(s.heap.push (BD (ff w))).get? l=Vl (lstO vs n):=KI _ x;have v:=PySem.F.sub_list_set;have t:=PySem.F.sub_list_frozenset;have H:(Ni "list"==Ni "dict")=false:=by decide
  unfold Md.«set.__init__» noKeywords Md.Frozenset.updateFrom;generalize p:Rn=PI
  wp_walk
  subst p;refine Qu (aJ a) ?_;refine Kc (Up ?_);have i:l<s.heap.objs.size:=Lz x;have d:(s.heap.push (BD (ff w))).objs.size=s.heap.objs.size+1:=LF ..;have j:A.in1.in1.handled=none:=by simp[hh]
  have J:SetAt w (ff w) ((s.heap.push (BD (ff w))).push (zy l 0)) s.heap.objs.size []:=⟨_,#[],0,_,KI _ z,w3 rfl rfl rfl,rfl,⟨λe P=>absurd P MG,.refl _,rfl,.fresh _,LA _⟩⟩
  refine yo (s:={s with heap:=(s.heap.push (BD (ff w))).push (zy l 0)}) (I:=(s.heap.push (BD (ff w))).objs.size) j (KI _ a) O (L1 (d▸Mg i)) (L1 (d▸L8 _)) (O1 i) hz ns.length 0 _ [] (by lia) (LA _) (KI _ a) ⟨_,w3 (Kq _ rfl) rfl rfl⟩ J (KH _) λh' tk K S=>?_;refine Ko ?_;refine Ko ⟨rfl,y2 h' tk (w3 rfl S (λb o e=>?_))⟩;have:=Lz e;exact K b o (L1 this) (L1 (d▸Mg this)) (aM _ _ _ _ (aM _ _ _ _ e))
 ·rcases U with e | (g | _ | _ | _)<;>first | exact f.elim | exact f | skip
  obtain ⟨rfl,h',tk,rfl,S,k⟩:=f
  repeat (any_goals (first | assumption | wp_step))
  exact h _ _ k S
end
end
end
section
section
set_option linter.all false
noncomputable abbrev By (f:Value) (i:Nat) (a:Addr) (n ep:Nat):Obj:={cls:=.type "set_iterator",data:=.fields #[f,.int i 0,.ref a,.int n 0,.int ep 0]}
namespace SI
theorem slot_next:Slot "set_iterator" "__next__" "set_iterator.__next__":=.of (owner:="set_iterator") (n:="__next__") (by rw[MW,L9];kernel_rfl) (by decide +kernel) (by decide +kernel) (by decide +kernel) (by first | exact .inl (by decide +kernel) | exact .inr (by decide +kernel)) (by rw[MP];kernel_rfl)
theorem slot_self:Slot "set_iterator" "__iter__" "set_iterator.__iter__":=.of (owner:="set_iterator") (n:="__iter__") (by rw[MW,L9];kernel_rfl) (by decide +kernel) (by decide +kernel) (by decide +kernel) (by first | exact .inl (by decide +kernel) | exact .inr (by decide +kernel)) (by rw[MP];kernel_rfl)
theorem entry_next:Rp Us "set_iterator.__next__" = Vl Md.«set_iterator.__next__»:=entryFor_of_tree rfl
theorem entry_self:Rp Us "set_iterator.__iter__" = Vl Md.«dict_keyiterator.__iter__»:=Uz (id':="dict_keyiterator.__iter__") rfl rfl (by decide +kernel) rfl
theorem args_next (a:Value):PN "set_iterator.__next__" ⟨[a],[]⟩:=by unfold PN;kernel_rfl
theorem args_self (a:Value):PN "set_iterator.__iter__" ⟨[a],[]⟩:=by unfold PN;kernel_rfl
theorem entry_iter:Rp Us "set.__iter__" = Vl Md.«frozenset.__iter__»:=Uz (id':="frozenset.__iter__") rfl rfl (by decide +kernel) rfl
end SI
theorem ju {α:Type}:∀{l:List α}{i:Nat}{x:α},l[i]?=Vl x->(x::l.eraseIdx i).Perm l
 | y::l,0,x,h=>by refine rq (J9 h) ?_;exact .refl _
 | y::l,i+1,x,h=>(R0 y x _).trans ((ju (l:=l) (i:=i) h).cons y)
 | [],_,_,h=>nomatch h
theorem wi {α:Type}(next:Nat->Nat):∀(a k:Nat) (l:List α) (out:Array α),l.length=a->(Pm next a k l out).toList.Perm (out.toList++l):=@nr _ (@λk l out h=>by
  show out.toList.Perm _;rw[LR h,LC])
 (λa c=>(@λk l out h=>by
  have b:next k % l.length<l.length:=Sz _ (by lia)
  have e:=Ki b;rw[show Pm next (a+1) k l out=(l[next k % l.length]?).elim out λx=>Pm next a (k+1) (l.eraseIdx (next k % l.length)) (out.push x) from by kernel_rfl,e];show (Pm next a (k+1) _ _).toList.Perm _;refine (c (k+1) _ _ (by rw[QL b];lia)).trans ?_;rw[Sm,KT];exact (ju e).append_left _))
theorem EY {α:Type}(next:Nat->Nat) (es:Array α):(Sb next es).toList.Perm es.toList:=by
 exact wi next es.size 0 es.toList #[] (KJ)
section
variable {w:Ld}{A:Lc}{E:Value->Kh->Prop}{s:Kh}{es:Array (Int×Value)}{t:Mw}{σ:List Int}{a I T:Addr}{o:Obj}{ep i m:Nat}{L:List (Int×Value)}{f:Value}
theorem xh {a:Source}{n:Nat}{Q:Nat->Kh->Prop}(hn:n≠0) (h:∀j d,j<n->Q j {s with drawn:=d}):Km (Kn PR w) A (PySem.choose a n) Q E s:=λΓ p b=>by
 rw[OW.wp_choose];refine ⟨hn,?_⟩;rw[OW.wp_pure];exact h _ _ (Sz _ (PT hn))
theorem C7 {α:Type}(n:Nat):∀(a:List α){s:Kh}{Q:List α->Kh->Prop},a.length=n->(∀c d,c.Perm a->Q c {s with drawn:=d})->Km (Kn PR w) A (T6 n a) Q E s:=by
 induction n with
 | zero=>
  intro a s Q h k;rw[LR h] at k ⊢;exact Ko (k [] s.drawn (.refl _))
 | succ n g=>
  intro a s Q h k;cases a with
  | nil=>cases h
  | cons x a=>
   refine Kc (xh (Nat.succ_ne_zero _) λj d b=>?_);have e:=Ki b;rw[e];refine Kc (g _ (by rw[QL b];simp at h ⊢;exact h) λc d f=>?_);exact Ko (k _ d ((f.cons _).trans (ju e)))
end
end
end
section
local macro_rules (kind:=tacticKernel_rfl)|s=>Mine.Internal.mK s
section
set_option linter.all false
section
variable {w:Ld}{A:Lc}{E:Value->Kh->Prop}{s:Kh}{es:Array (Int×Value)}{t:Mw}{σ:List Int}{a I T:Addr}{o:Obj}{ep i n m:Nat}{L:List (Int×Value)}{f:Value}{Lb:Bool}{slot:Nat}
def fL (h:Heap) (a:Addr) (es:Array (Int×Value)) (ep:Nat) (t:Mw):Prop:=∃o,h.get? a=Vl o/\o.ExactSet/\o.data=.set es ep t/\t.fits es.size=Vn
def xv (w:Ld) (a:Addr) (es:Array (Int×Value)) (ep:Nat) (t:Mw) (L:List (Int×Value)) (slot i:Nat):Prop:=(ff w=Vo/\L=(Sb (w.params.setOrder a ep) es).toList)\/(ff w=Vn/\t.led=Vn/\(!t.plain&&decide (es.size > 1))=Vo/\xu t.place.toList/\L=es.toList/\KU t.place slot=i)
theorem sb {Q:Bool->Kh->Prop}(h:Q (!ff w) s):Km (Kn PR w) A setsByText Q E s:=by
 unfold setsByText;refine Kc (QS (Ko ?_))
 rwa [show (!ff w)=w.params.followText "set-order" from Bool.not_not _] at h
theorem wR (h:t.fits n=Vn):t.place.size=n:=by
 unfold Mw.fits at h;exact beq_iff_eq.mp (Kk.mp h).1
theorem sz {Q:Option (Value×Nat)->Kh->Prop}(S:fL s.heap a es ep t) (M:xv w a es ep t L slot i) (o:i<=es.size) (h:∀r,(∀e,L[i]?=Vl e->∃c,xv w a es ep t L c (i+1)/\r=Vl (e.2,c))->(L[i]?=Vm->r=Vm)->Q r s):Km (Kn PR w) A (U0 a slot i ep) Q E s:=by
 obtain ⟨n,k,m,l,f⟩:=S;unfold U0;refine Kc (NV k l f ?_);dsimp only;refine Kc (sb ?_);rcases M with ⟨d,rfl⟩ | ⟨d,m1,m2,m3,rfl,m4⟩
 ·rw[d];simp only[To,↓reduceIte,bne_self_eq_false,Ox];refine Kc ?_;unfold setWalk;refine Kc (NV k l f ?_);dsimp only;refine Kc (sb ?_);rw[d];simp only[To,↓reduceIte];refine Kc (QS (Ko (Ko (h _ (λe b=>⟨slot,.inl ⟨d,rfl⟩,?_⟩) λb=>?_))))
  ·rw[Lh] at b;rw[show (Sb ((Kn PR w).w.params.setOrder a ep) es)[i]?=Vl e from b];rfl
  ·rw[Lh] at b;rw[show (Sb ((Kn PR w).w.params.setOrder a ep) es)[i]?=Vm from b];rfl
 ·rw[d];simp only[Bool.not_true,Ox,↓reduceIte];refine NH (λq=>absurd (m2.symm.trans q) LX) λ_=>?_;refine Kc (MM (a:=()) ?_ (Ko (h _ (λe b=>?_) λb=>?_)))
  ·show (if (!t.led&&!es.isEmpty)=Vn then Vc "set:maker-not-led" else pure PUnit.unit)=pure ();rw[m1];rfl
  ·rw[Lh] at b;have g:=(MJ.mp b).1;have j:i<t.place.size:=by rw[wR f];exact g
   refine ⟨t.place[i]+1,.inr (w6 d m1 m2 m3 rfl (ub m3 j)),?_⟩;rw[m4,b,Le j]
  ·rw[Lh] at b;rw[m4,b]
theorem yf:T4 (.type "StopIteration") (.type "StopIteration")=pure true:=by rw[MP];kernel_rfl
theorem uz {α:Type}{Q:α->Kh->Prop}{c:Option Value->Kh->Prop}{fr:α->Option Value}(hh:A.handled=Vm) (h:∀h',Kp s.heap h'->c Vm {s with heap:=h'}):Km (Kn PR w) A.in1 (Uw (.type "StopIteration") [] >>= λe=>(raiseNew e:OW α)) Q (λe d=>Km (Kn PR w) A (do if <- isInstance e (.type "StopIteration") then pure Vm else throw e) c E d) s:=by
 refine Kc ?_;simp only[Uw,O9];refine Kc (LV ?_ (by size_fits));refine Kc (m:=NZ _ _) (MM (a:=Nj) (by first | rfl | (simp only[NZ];rfl)) ?_);refine LV ?_ (by size_fits);refine Tc hh ?_;refine Kc (QR (T:="StopIteration") (b:=Vn) ⟨_,Kq _ rfl,rfl⟩ yf ?_);exact Ko (h _ λb o e=>aM _ _ _ _ (aM _ _ _ _ e))
theorem fk {k:Nat}{v:Value}{g:Value}{x1 x2 x3 x4:Value}{Q:Unit->Kh->Prop}(a:s.heap.get? I=Vl {cls:=.type "set_iterator",data:=.fields #[g,x1,x2,x3,x4]}) (b:k<5) (h:∀h',MS I s.heap h'->h'.get? I=Vl {cls:=.type "set_iterator",data:=.fields (#[g,x1,x2,x3,x4].setIfInBounds k v)}->Q () {s with heap:=h'}):Km (Kn PR w) A (Nh (.ref I) k v) Q E s:=M7 a rfl b (h _ (LU ..) ((Ln _ a (MN (MK rfl _))).trans (congrArg Vl rfl)))
abbrev J0 (E:Value->Kh->Prop) (w:Ld) (A:Lc) (Q:Option Value->Kh->Prop):Value->Kh->Prop:=λe a=>Km (Kn PR w) A (do if <- isInstance e (.type "StopIteration") then pure Vm else throw e) Q E a
theorem qD {Q:Option Value->Kh->Prop}(hh:A.handled=Vm) (f:s.heap.get? I=Vl (By (.int slot 0) i a es.size ep)) (S:fL s.heap a es ep t) (M:xv w a es ep t L slot i) (H:i<=es.size) (P:a≠I) (y:∀e h' (c:Nat),L[i]?=Vl e->MS I s.heap h'->h'.get? I=Vl (By (.int c 0) (i+1) a es.size ep)->xv w a es ep t L c (i+1)->Q (Vl e.2) {s with heap:=h'}) (p:∀h',L[i]?=Vm->(∀b o,b≠I->s.heap.get? b=Vl o->h'.get? b=Vl o)->Q Vm {s with heap:=h'}):Km (Kn PR w) A (Qh (.ref I)) Q E s:=by
 have l:s.TypeIs (.ref I) "set_iterator":=⟨_,f,rfl⟩
 obtain ⟨O,F,N,K,C⟩:=id S;unfold Qh;refine Kc (UQ (NQ (name:=Mt "__next__") l SI.slot_next (MO SI.slot_next l SI.entry_next ?_ (SI.args_next _))));show Km _ _ (slotArgs "__next__" 0 ⟨[.ref I],[]⟩ >>= _) _ _ s;refine Kc (MM (a:=(M8 I,[])) rfl ?_);show Km _ _ (fieldsOf (.ref I) >>= _) _ _ s;refine Kc (Ur f rfl ?_);show Km _ _ (setEntries a >>= _) _ _ s;refine Kc (P1 F K C ?_);show Km _ _ (if ((es.size:Int) != (es.size:Int))=Vn then _ else _) _ _ s;rw[if_neg (by simp)];show Km _ _ (U0 a (slot:Int).toNat (i:Int).toNat (ep:Int).toNat >>= _) _ _ s;rw[KQ,KQ,KQ];refine Kc (sz S M H λr u J=>?_);cases e:L[i]? with
 | some x=>
  obtain ⟨c,v,rfl⟩:=u x e;show Km _ _ (Nh (.ref I) 0 (Lq (c:Int)) >>= _) _ _ s;refine Kc (fk f (by decide) λh' d m=>?_);show Km _ _ (Nh (.ref I) 1 (Lq ((i:Int)+1)) >>= _) _ _ _;refine Kc (fk (g:=.int c 0) (x1:=.int i 0) (x2:=.ref a) (x3:=.int es.size 0) (x4:=.int ep 0) m (by decide) λh j z=>?_);refine Ko ⟨_,rfl,Ko (y x h c e (d.trans j) z v)⟩
 | none=>
  rw[J e];show Km _ _ (Nh (.ref I) 2 .none >>= _) _ _ s;refine Kc (fk f (by decide) λh' d m=>?_);exact uz (s:={s with heap:=h'}) (fr:=λ_=>Vm) hh λG k=>p G e λb o n q=>k b o ((d.2 b n).trans q)
theorem qC {Q:Option Value->Kh->Prop}{f:List Nat}{mT:Nat}(hh:A.handled=Vm) (h:s.heap.get? I=Vl (By (.ref T) i a es.size ep)) (S:fL s.heap a es ep t) (C:s.heap.get? T=Vl (dU (f.map λ(j:Nat)=>Lq j) mT)) (l:∀j∈f,j<es.size) (F:∀e h',(f[i]?).bind (es[·]?)=Vl e->MS I s.heap h'->h'.get? I=Vl (By (.ref T) (i+1) a es.size ep)->Q (Vl e.2) {s with heap:=h'}) (z:∀h',f[i]?=Vm->(∀b o,b≠I->s.heap.get? b=Vl o->h'.get? b=Vl o)->Q Vm {s with heap:=h'}):Km (Kn PR w) A (Qh (.ref I)) Q E s:=by
 have d:s.TypeIs (.ref I) "set_iterator":=⟨_,h,rfl⟩
 obtain ⟨J,v,H,y,u⟩:=id S;unfold Qh;refine Kc (UQ (NQ (name:=Mt "__next__") d SI.slot_next (MO SI.slot_next d SI.entry_next ?_ (SI.args_next _))));show Km _ _ (slotArgs "__next__" 0 ⟨[.ref I],[]⟩ >>= _) _ _ s;refine Kc (MM (a:=(M8 I,[])) rfl ?_);show Km _ _ (fieldsOf (.ref I) >>= _) _ _ s;refine Kc (Ur h rfl ?_);show Km _ _ (setEntries a >>= _) _ _ s;refine Kc (P1 v y u ?_);show Km _ _ (if ((es.size:Int) != (es.size:Int))=Vn then _ else _) _ _ s;rw[if_neg (by simp)];show Km _ _ (seqItems? (.ref T) >>= _) _ _ s;refine Kc (PK C rfl ?_);dsimp only;rw[KQ,NU,Ks];cases e:f[i]? with
 | some j=>
  have x:j<es.size:=l j (Kl e);show Km _ _ (UZ a (j:Int).toNat (ep:Int).toNat >>= _) _ _ s;rw[KQ,KQ];refine Kc ?_;unfold UZ;refine Kc (NV v y u ?_);dsimp only;rw[if_neg (by simp),Le x];refine Ko ?_;show Km _ _ (Nh (.ref I) 1 (Lq ((i:Int)+1)) >>= _) _ _ s;refine Kc (fk h (by decide) λh' c m=>?_);exact Ko ⟨_,rfl,Ko (F es[j] h' (by rw[e];exact Le x) c m)⟩
 | none=>
  show Km _ _ (Nh (.ref I) 0 (Lq 0) >>= _) _ _ s;refine Kc (fk h (by decide) λh' c m=>?_);show Km _ _ (Nh (.ref I) 2 .none >>= _) _ _ _;refine Kc (fk (g:=Lq 0) (x1:=.int i 0) (x2:=.ref a) (x3:=.int es.size 0) (x4:=.int ep 0) m (by decide) λp r K=>?_);exact uz (s:={s with heap:=p}) (fr:=λ_=>Vm) hh λG k=>z G e λb o n q=>k b o ((r.2 b n).trans ((c.2 b n).trans q))
end
end
section
set_option linter.all false
section
variable {w:Ld}{A:Lc}{E:Value->Kh->Prop}{s:Kh}{es:Array (Int×Value)}{t:Mw}{σ:List Int}{a I T S₀:Addr}{o:Obj}{ep i n m:Nat}{L:List (Int×Value)}{f:Value}{Lb:Bool}{slot:Nat}
theorem yr {Q:Bool->Kh->Prop}(e:s.TypeIs (.ref a) "set") (h:Q Vo s):Km (Kn PR w) A (NS (.ref a)) Q E s:=by
 unfold NS;refine Kc (Oy e PySem.F.slot_set_len.lookup ?_);generalize d:("set.__len__" : String)=id0
 wp_delta
 rw[show splitId id0=Vl ("set","__len__") from by refine rq d ?_;decide +kernel];refine rq d ?_;refine Kc (QR (T:="set") (b:=Vn) e (by rw[MP];kernel_rfl) ?_);refine NH (λc=>absurd c (by decide)) (λ_=>?_);refine NH (λ_=>?_) (λc=>absurd (by decide +kernel) c);refine Kc (Qt e ?_);exact Ko h
theorem fL.ty {S:Kh}(h:fL S.heap a es ep t):S.TypeIs (.ref a) "set":=h.imp λo h=>⟨h.1,h.2.1.1⟩
theorem fL.keep {h h':Heap}(S:fL h a es ep t) (k:∀o,h.get? a=Vl o->h'.get? a=Vl o):fL h' a es ep t:=S.imp λo h=>⟨k o h.1,h.2⟩
theorem nS {Q:Value->Kh->Prop}(c:s.heap.get? I=Vl (By f i a n ep)) (h:Q (.ref I) s):Km (Kn PR w) A (Rn (.ref I)) Q E s:=by
 have b:s.TypeIs (.ref I) "set_iterator":=⟨_,c,rfl⟩
 refine TM b SI.slot_self (MO SI.slot_self b SI.entry_self ?_ (SI.args_self _));exact Ko ⟨_,rfl,y2 "set_iterator" _ (w3 b SI.slot_next.lookup h)⟩
abbrev PL (L:List (Int×Value)) (i:Nat) (v:Value):Prop:=∃e,L[i]?=Vl e/\v=e.2
theorem xK (hh:A.handled=Vm) (l:a≠I) (v:L.length=es.size):Q2 PR w A I [I,a] [I] es.size (PL L) (λi h=>(∃slot:Nat,h.get? I=Vl (By (.int slot 0) i a es.size ep)/\xv w a es ep t L slot i)/\fL h a es ep t) where
 sub:=λb j=>by rw[Kg.mp j];exact .head _
 frame:=λi h f d k=>⟨d.1.imp λslot q=>⟨k I (.head _) _ q.1,q.2⟩,d.2.keep λo e=>k a (.tail _ (.head _)) o e⟩
 item:=λi s Q E r d n=>by
  obtain ⟨⟨slot,m,M⟩,S⟩:=d;refine qD hh m S M (Ou r) l (λe f c g hs u p=>?_) λf g _=>?_
  ·exact n e.2 f s.toks ⟨e,g,rfl⟩ ⟨⟨c,u,p⟩,S.keep λo q=>(hs.2 a l).trans q⟩ λb o j q=>(hs.2 b λe=>j (Kg.mpr e)).trans q
  ·exact absurd (KY.mp g) (by lia)
 done:=λs Q E d n=>by
  obtain ⟨⟨slot,m,M⟩,S⟩:=d;refine qD hh m S M (KH _) l (λe f c g _ _ _=>?_) λf g k=>?_
  ·have:=(Kd.mp g).1;lia
  ·exact n f s.toks λb o j q=>k b o (λe=>j (Kg.mpr e)) q
 self:=λi s Q E d h=>nS d.1.choose_spec.1 h
theorem xH {d:List Nat}{mT:Nat}(hh:A.handled=Vm) (x:a≠I) (y:T≠I) (u:d.Perm (Ky es.size)):Q2 PR w A I [I,a,T] [I] es.size (PL (d.filterMap (es[·]?))) (λi h=>h.get? I=Vl (By (.ref T) i a es.size ep)/\h.get? T=Vl (dU (d.map λ(j:Nat)=>Lq j) mT)/\fL h a es ep t):=by
 have v:d.length=es.size:=by have:=u.length_eq;rwa [KD] at this
 have g:∀j∈d,j<es.size:=λj n=>Lw.mp (u.mem_iff.mp n);have p:∀(d:List Nat),(∀j∈d,j<es.size)->∀i:Nat,(d.filterMap (es[·]?))[i]?=(d[i]?).bind (es[·]?):=λd h=>by
  induction d with
  | nil=>intro i;rfl
  | cons j d z=>
   intro i;rw[KX,Le (h j (.head _))];cases i with
   | zero=>exact (Le (h j (.head _))).symm
   | succ i=>exact z (λj n=>h j (.tail _ n)) i
 exact {
  sub:=λb m=>by rw[Kg.mp m];exact .head _
  frame:=λi h l c k=>w3 (k I (.head _) _ c.1) (k T (.tail _ (.tail _ (.head _))) _ c.2.1) (c.2.2.keep λo e=>k a (.tail _ (.head _)) o e)
  item:=λi s Q E F c r=>by
   refine qC hh c.1 c.2.2 c.2.1 g (λe l f hs C=>?_) λl f _=>?_
   ·exact r e.2 l s.toks ⟨e,(p d g i).trans f,rfl⟩ (w3 C ((hs.2 T y).trans c.2.1) (c.2.2.keep λo q=>(hs.2 a x).trans q)) λb o m q=>(hs.2 b λe=>m (Kg.mpr e)).trans q
   ·exact absurd (KY.mp f) (by lia)
  done:=λs Q E c r=>by
   refine qC hh c.1 c.2.2 c.2.1 g (λe l f _ _=>?_) λl f k=>?_
   ·rw[O7 (by lia)] at f;cases f
   ·exact r l s.toks λb o m q=>k b o (λe=>m (Kg.mpr e)) q
  self:=λi s Q E c h=>nS c.1 h}
theorem yp {Q:Value->Kh->Prop}(hh:A.handled=Vm) (S:fL s.heap a es ep t) (hz:es.size<=1000) (T:Tb t (ff w)) (h:∀h' d I K P St L,Kp s.heap h'->s.heap.get? I=Vm->(∀b∈K,s.heap.objs.size<=b\/b=a)->Q2 PR w A I K [I] es.size P St->(∀i v,P i v->PL L i v)->L.Perm es.toList->St 0 h'->Q (.ref I) {s with heap:=h',drawn:=d}):Km (Kn PR w) A (Rn (.ref a)) Q E s:=by
 have N:=S.ty;obtain ⟨os,H,g2,g3,Y⟩:=id S;have z:a<s.heap.objs.size:=Lz H;refine TM N Q4 (MO Q4 N SI.entry_iter ?_ (PySem.F.args_set_iter_1 _));refine Kc (MM (a:=a) rfl ?_);show Km _ _ (Md.Frozenset.sizeOf a >>= _) _ _ s;refine Kc (Kc (P1 H g3 Y (Ko ?_)));show Km _ _ (setDrawn a >>= _) _ _ s;refine Kc ?_;unfold setDrawn;refine Kc (NV H g3 Y ?_);dsimp only;refine Kc (sb (Ko ?_));have c:∀{f:Value}{h0:Heap}{d:S4},fL h0 a es ep t->Q (.ref h0.objs.size) {s with heap:=h0.push (By f 0 a es.size ep),drawn:=d}->Km (Kn PR w) A.in1 (do ret (<- Pa "set_iterator" [f,Lq 0,.ref a,Lq (es.size:Nat),Lq ((<- Uu a):Nat)])) (λm y=>∃q,m=.done (.ret q)/\∃U r,y.TypeIs q U/\Oe (.type U) "__next__" = pure (Vl r)/\Q q y) E {s with heap:=h0,drawn:=d}:=λ{f h0 d} S0 hq=>by
  obtain ⟨o0,e1,e2,e3,e4⟩:=S0;refine Kc (wpAny_setEpoch_of e1 e3 e4 ?_);exact Kc (LV (Ko ⟨_,rfl,y2 "set_iterator" _ (w3 ⟨_,Kq _ rfl,rfl⟩ SI.slot_next.lookup hq)⟩) (by size_fits))
 have plain:∀{b:Bool},b=Vo->(ff w=Vo\/ff w=Vn/\(!t.plain&&decide (es.size > 1))=Vo)->Km (Kn PR w) A.in1 (do
   let first <- if b then O9 ((<- T6 es.size (Ky es.size)).map λ(i:Nat)=>Lq i) else pure (Lq 0)
   ret (<- Pa "set_iterator" [first,Lq 0,.ref a,Lq (es.size:Nat),Lq ((<- Uu a):Nat)])) (λm y=>∃q,m=.done (.ret q)/\∃U r,y.TypeIs q U/\Oe (.type U) "__next__" = pure (Vl r)/\Q q y) E s:=λ{b} hb k=>by
  refine rp hb ?_;refine Kc (Ko ?_);have na:a≠s.heap.objs.size:=L1 z;have J:Kp s.heap (s.heap.push (By (Lq 0) 0 a es.size ep)):=aM _ _;have go:∀L,L.Perm es.toList->xv w a es ep t L 0 0->Q (.ref s.heap.objs.size) {s with heap:=s.heap.push (By (Lq 0) 0 a es.size ep),drawn:=s.drawn}:=λL R M=>
   h _ s.drawn _ _ _ _ L J (bF _) (λb hb=>(Kt.mp hb).imp (λe=>O3 e.symm) Kg.mp) (xK (I:=s.heap.objs.size) hh na (by rw[R.length_eq,KJ])) (λ_ _ p=>p) R ⟨⟨0,Kq _ rfl,M⟩,S.keep λo e=>J _ _ e⟩
  refine c (f:=Lq 0) (h0:=s.heap) (d:=s.drawn) S ?_;rcases k with k | ⟨k,u⟩
  ·exact go _ (EY _ _) (.inl ⟨k,rfl⟩)
  ·exact go _ (.refl _) (.inr (w6 k (T.led.trans k) u T.ris rfl (ua T.ris)))
 cases k:ff w with
 | false=>exact plain rfl (.inl k)
 | true=>
  cases u:(!t.plain&&decide (es.size > 1)) with
  | false=>exact plain (by show (!(!true)&&(!t.plain&&decide (es.size > 1)))=Vo;rw[u]) (.inr ⟨k,u⟩)
  | true=>
   show Km _ _ (do
    let first <- if (!(!true)&&(!t.plain&&decide (es.size > 1)))=Vn then O9 ((<- T6 es.size (Ky es.size)).map λ(i:Nat)=>Lq i) else pure (Lq 0)
    ret (<- Pa "set_iterator" [first,Lq 0,.ref a,Lq (es.size:Nat),Lq ((<- Uu a):Nat)])) _ _ s
   rw[u];refine Kc (C7 es.size _ KD λC d G=>Kc ?_);have O:C.length=es.size:=by have:=G.length_eq;rwa [KD] at this
   refine Uq ?_ (by rw[Ka,Oq];(first | walk_at "m" | lia));have n:Kp s.heap (s.heap.push (dU (C.map λ(j:Nat)=>Lq j) 0)):=aM _ _;have g:(s.heap.push (dU (C.map λ(j:Nat)=>Lq j) 0)).objs.size=s.heap.objs.size+1:=LF ..;refine c (f:=.ref s.heap.objs.size) (h0:=s.heap.push (dU (C.map λ(j:Nat)=>Lq j) 0)) (d:=d) (S.keep λo e=>n _ _ e) ?_;refine h _ d _ _ _ _ (C.filterMap (es[·]?)) (λb o e=>aM _ _ _ _ (n b o e)) (KS (by rw[g];exact MU _)) (λb hb=>?_) (xH (T:=s.heap.objs.size) (mT:=0) hh (L1 (g▸Mg z)) (L1 (g▸L8 _)) G) (λ_ _ p=>p) ?_ (w3 (Kq _ rfl) (aM _ _ _ _ (Kq _ rfl)) (S.keep λo e=>aM _ _ _ _ (n _ _ e)))
   ·rcases Kt.mp hb with e | hb
    ·exact .inl (by rw[e,g];exact MU _)
    ·exact (Kt.mp hb).symm.imp (λe=>O3 (Kg.mp e).symm) id
   ·refine (G.filterMap _).trans ?_;have:∀(l:List (Int×Value)),(Ky l.length).filterMap (l[·]?)=l:=λl=>by
     induction l with
     | nil=>rfl
     | cons x l ih=>rw[Ls,OY,KX,Mq];exact congrArg (x::·) ih
    have e:=this es.toList;rw[KJ] at e;rw[show (λx=>es[x]?)=λx=>es.toList[x]? from funext λx=>Lh.symm,e]
end
end
section
set_option linter.all false
section
variable {w:Ld}{A:Lc}{E:Value->Kh->Prop}{s:Kh}{es:Array (Int×Value)}{t:Mw}{σ:List Int}{a S₀:Addr}{o:Obj}{ep n:Nat}{L:List (Int×Value)}
theorem zx {P:Nat->Value->Prop}{acc:Array Value}(h:Rh P acc n) (d:∀i v,P i v->PL L i v) (k:L.length=n):acc.toList=L.map (·.2):=by
 refine List.ext_getElem? λi=>?_;rw[Ks];have g:=h.1;cases e:L[i]? with
 | none=>
  rw[KY] at e;exact O7 (by rw[KJ];lia)
 | some x=>
  have j:=(Kd.mp e).1;have a:i<acc.size:=by lia
  have b:=Le a;obtain ⟨y,f,c⟩:=d i _ (h.2 i _ b);refine rp (J9 (e.symm.trans f)) ?_;rw[Lh,b,c];rfl
theorem tw {R:OJ->Kh->Prop}{K:Nat}{res:Value}(hh:A.handled=Vm) (S:fL s.heap a es ep t) (hz:es.size<=1000) (T:Tb t (ff w)) (M:S₀≠a) (Y:s.heap.get? S₀=Vl {cls:=.type "list",data:=.seq #[] K}) (hR:∀h' tk d c l (L:List (Int×Value)),(∀b o,b≠S₀->s.heap.get? b=Vl o->h'.get? b=Vl o)->h'.get? S₀=Vl {cls:=.type "list",dict:=Vm,data:=.seq c l,slots:=#[]}->L.Perm es.toList->c.toList=L.map (·.2)->R (.ok (.ret res)) {s with heap:=h',toks:=tk,drawn:=d}):Km (Kn PR w) A.in1 (LZ (.ref S₀) (.ref a) res) (λz j=>match z with | .done f=>R (.ok f) j | .again l=>l.quiet=Vn/\Mu (Kn PR w) A l R j) (λe j=>R (.error e) j) s:=by
 have hT:=S.ty;unfold LZ;refine Kc (Qt hT ?_);have h1:N8 (.ref S₀) (.ref a)=false:=by simp[N8,M]
 have h2:(Ni "set"==Ni "list")=false:=by decide
 have h3:(Ni "set"==Ni "tuple")=false:=by decide
 simp only[h1,h2,h3,OH,Ox,if_false];refine Kc (yp (A:=A.in1) hh S hz T λO d I fp P St L x nI J W hP N Q=>?_);have y:S₀<s.heap.objs.size:=Lz Y;have p:S₀∉fp:=λm=>(J _ m).elim (λq=>absurd y (N2 q)) M;have r:∀(h:Heap) (H tk:Nat),St 0 h->(∀b o,b≠S₀->s.heap.get? b=Vl o->h.get? b=Vl o)->h.get? S₀=Vl {cls:=.type "list",data:=.seq #[] H}->Mu (Kn PR w) A (.builtin "list.extend.loop" ⟨[.ref S₀,.ref I,res],[]⟩) R {s with heap:=h,toks:=tk,drawn:=d}:=by
  intro h H tk C hk g;refine SX W.toS (by rw[Oq];(first | walk_at "m" | lia)) S₀ p res es.size 0 _ #[] H rfl (LA _) C g (Tf _) λj c l U E u=>?_;rw[Td U];refine hR j.heap j.toks d c l L (λb o k e=>U.heap b o (λi=>?_) (hk b o k e)) E N (zx u hP (by rw[N.length_eq,KJ]));rcases Kt.mp i with e' | i
  ·exact k e'
  ·rw[Kg.mp i,nI] at e;cases e
 have g:=x _ _ Y;refine Kc (Lm (yr (s:={s with heap:=O,drawn:=d}) ((S.keep λo e=>x _ _ e).ty (S:={s with heap:=O,drawn:=d})) ?_));refine NH (λ_=>?_) (λ_=>Ko ⟨Om Ot _,r _ K _ Q (λb o _ e=>x _ _ e) g⟩);refine Kc (Qe ?_);refine Kc ?_;refine Kc (Q9 g rfl ?_);have v:=Ln (N1 (·.push Nj)) g rfl;refine Q9 (hz:=by seq_fits) v rfl ?_;have G:=Ln (N1 (·.pop)) v rfl;refine Ko ⟨Om Ot _,r _ _ _ ?_ (λb o k e=>?_) G⟩
 ·refine W.frame 0 _ _ Q λb k o e=>?_;have n:b≠S₀:=λh=>p (h▸k);exact (L6 _ _ (LQ n)).trans ((L6 _ _ (LQ n)).trans e)
 ·exact (L6 _ _ (LQ k)).trans ((L6 _ _ (LQ k)).trans (x _ _ e))
set_option backward.match.sparseCases true in
theorem rJ {R:List Value->Kh->Prop}(hh:A.handled=Vm) (S:fL s.heap a es ep t) (hz:es.size<=1000) (T:Tb t (ff w)) (h:∀h' tk d (L:List (Int×Value)),Kp s.heap h'->L.Perm es.toList->R (L.map (·.2)) {s with heap:=h',toks:=tk,drawn:=d}):Km (Kn PR w) A (TS (.ref a)) R E s:=by
 have u:a<s.heap.objs.size:=S.elim λo h=>Lz h.1;unfold TS;refine Kc (Up (MX entry_proto_collect' ?_));rw[Nd PySem.F.plain_proto_collect _];show Km _ A.in1 (TR [] >>= λl=>again (.builtin "list.__iadd__" ⟨[l,.ref a],[]⟩)) _ _ s;refine Kc (LV ?_);refine Ko ⟨Om QH _,MX entry_list_iadd' ?_⟩;rw[Nd QH _];have v:(s.heap.push {cls:=.type "list",data:=.seq ([]:List Value).toArray}).get? s.heap.objs.size=Vl {cls:=.type "list",data:=.seq #[]}:=Kq _ rfl;show Km _ A.in1 (LZ (.ref s.heap.objs.size) (.ref a) (.ref s.heap.objs.size)) _ _ _;have n:=tw (A:=A) (s:={s with heap:=s.heap.push {cls:=.type "list",data:=.seq ([]:List Value).toArray}}) (res:=.ref s.heap.objs.size) (R:=λ(q:OJ) (s':Kh)=>∃(h':Heap) (tk:Nat) (d:S4) (c:Array Value) (j:Nat) (L:List (Int×Value)),q=.ok (.ret (.ref s.heap.objs.size))/\s'={s with heap:=h',toks:=tk,drawn:=d}/\Kp s.heap h'/\h'.get? s.heap.objs.size=Vl {cls:=.type "list",dict:=Vm,data:=.seq c j,slots:=#[]}/\L.Perm es.toList/\c.toList=L.map (·.2)) hh (S.keep λo e=>KI _ e) hz T (O1 u) v (λh' tk d c j L p i z g=>y5 h' tk d c j ⟨L,w6 rfl rfl (λb o e=>p b o (L1 (Lz e)) (KI _ e)) i z g⟩);have k:∀{q:OJ}{s':Kh},(∃(h':Heap) (tk:Nat) (d:S4) (c:Array Value) (j:Nat) (L:List (Int×Value)),q=.ok (.ret (.ref s.heap.objs.size))/\s'={s with heap:=h',toks:=tk,drawn:=d}/\Kp s.heap h'/\h'.get? s.heap.objs.size=Vl {cls:=.type "list",dict:=Vm,data:=.seq c j,slots:=#[]}/\L.Perm es.toList/\c.toList=L.map (·.2))->
   ∃r,q=.ok (.ret r)/\r=.ref s.heap.objs.size/\Km (Kn PR w) A (load s.heap.objs.size >>= λo=>match o.data with | .seq xs _=>pure xs.toList | _=>Vc "internal:collect") R E s':=λ{q s'} x=>by
  obtain ⟨h',tk,d,c,j,L,rfl,rfl,p,i,z,g⟩:=x;exact ⟨_,w3 rfl rfl (Kc (Tq i (Ko (by show R c.toList _;rw[g];exact h h' tk d L p z))))⟩
 refine KN n (λm s' x=>?_) λe s' x=>?_
 ·cases m with
  | done f=>
   obtain ⟨r,e,rfl,q⟩:=k x;cases e;exact q
  | again H=>
   refine ⟨x.1,Po x.2 λq G y=>?_⟩;obtain ⟨r,rfl,rfl,q⟩:=k y;exact q
 ·obtain ⟨_,_,_,_,_,_,C,_⟩:=x;cases C
theorem sw {Q:Value->Kh->Prop}(hh:A.handled=Vm) (S:SetAt w (ff w) s.heap a σ) (P:σ.length<64) (h:∀h' tk d l vs c,Kp s.heap h'->s.heap.get? l=Vm->h'.get? l=Vl (lstO vs c)->Np vs (fe σ)->vs.length<=16777216->Q (.ref l) {s with heap:=h',toks:=tk,drawn:=d}):Km (Kn PR w) A (call (.builtin "sorted") [.ref a]) Q E s:=by
 obtain ⟨I,es,ep,t,M,C,R,G⟩:=S.at_;have K:=G.size;refine OB Vk U6 U7 (U8 _) ?_;unfold Md.«sorted»;refine Kc (m:=checkCount "sorted" 1 1 _) (Ko ?_);refine Kc (rJ (A:=A.in1) hh ⟨I,w4 M C R G.fits⟩ (by lia) G.tb λh' tk d L k r=>?_);have x:Np (L.map (·.2)) (L.map λe=>CL e.2):=by
  have:∀l:List (Int×Value),(∀e∈l,∃i u,e.2=.int i u)->Np (l.map (·.2)) (l.map λe=>CL e.2):=λl=>by
   induction l with
   | nil=>exact λ_=>.nil
   | cons e l O=>
    intro q;obtain ⟨i,u,N⟩:=q e (.head _);rw[KB,KB,N];exact .cons i u (O λe j=>q e (.tail _ j))
  exact this L λe j=>G.int (r.mem_iff.mp j)
 have v:(L.map λe=>CL e.2).Perm σ:=(r.map _).trans G.perm;have T:=eU x;have F:=v.length_eq;refine Kc (UP (items:=L.map (·.2)) ?_ (bQ (by lia)));have f:(h'.push (Ty "list" (L.map (·.2)).toArray 0)).get? h'.objs.size=Vl (Ty "list" (L.map (·.2)).toArray 0):=Kq _ rfl;refine Kc (Lm (MO UK ⟨_,f,rfl⟩ Um (UL (s:={s with heap:=h'.push (Ty "list" (L.map (·.2)).toArray 0),toks:=tk,drawn:=d}) f x (by lia) λout H y z J=>⟨_,rfl,?_⟩) (UM _)));obtain ⟨e,j⟩:=UW (out:=out) f;have g:∀b o,s.heap.get? b=Vl o->b<h'.objs.size:=λb o e=>Lz (k b o e);refine Ko ⟨_,rfl,h _ tk d h'.objs.size out.toList e (λb o n=>?_) ?_ (by rw[j]) ?_ ?_⟩
 ·have p:=g b o n;rw[UJ (L1 p) (by rw[LF];exact Mg p)];exact aM _ _ _ _ (k b o n)
 ·cases e:s.heap.get? h'.objs.size with
  | none=>rfl
  | some o=>exact absurd (g _ o e) (Mz _)
 ·rw[<- lS (z.trans v) J];exact y
 ·have:=eU y;have:=z.length_eq;lia
end
end
section
set_option linter.all false
section
variable {w:Ld}{A:Lc}{c:Cn}{x:X}{st:List SObj}{a b:Value}{d e o:D}{imm:Imm}{u v:V}
inductive RVs (w:Ld) (ρ:List Addr) (imm:Imm):List Value->List V->Prop
 | nil:RVs w ρ imm [] []
 | cons {v:Value}{vs:List Value}{u:V}{us:List V}:RV w ρ imm v u->RVs w ρ imm vs us->RVs w ρ imm (v::vs) (u::us)
theorem RVs.ind {ρ:List Addr}{M:List Value->List V->Prop}(h0:M [] []) (a:∀{v vs u us},RV w ρ imm v u->RVs w ρ imm vs us->M vs us->M (v::vs) (u::us)){vs:List Value}{us:List V}(h:RVs w ρ imm vs us):M vs us:=RVs.rec (motive:=λv d _=>M v d) h0 (λh r m=>a h r m) h
theorem RVs.mono {ρ c:List Addr}{imm b:Imm}(e:∀(l:Nat) (a:Addr),ρ[l]?=Vl a->c[l]?=Vl a) (d:∀p∈imm,p∈b){vs:List Value}{us:List V}(h:RVs w ρ imm vs us):RVs w c b vs us:=h.ind .nil λh _ r=>.cons (h.mono e d) r
theorem RVs.up {own:List Addr}{x y:X}{vs:List Value}{us:List V}(h:RVs c.w x.ρ x.imm vs us) (p:Adv c own x y):RVs c.w y.ρ y.imm vs us:=h.mono p.rho p.imm
theorem RVs.view {ρ:List Addr}{vs:List Value}{us:List V}(h:RVs w ρ imm vs us):LW us (vs=[]) λu us=>∃v a,vs=v::a/\RV w ρ imm v u/\RVs w ρ imm a us:=h.ind (M:=λvs us=>LW us (vs=[]) λu us=>∃v a,vs=v::a/\RV w ρ imm v u/\RVs w ρ imm a us) rfl λh r _=>⟨_,_,rfl,h,r⟩
theorem gD {ρ:List Addr}{α:Type}{f:V->Option α}{o:α}{vs:List Value}{us:List V}(r:RVs w ρ imm vs us) (e:fc us f=Vl o){P:List Value->Prop}(k:∀{v u},us=[u]->RV w ρ imm v u->f u=Vl o->P [v]):P vs:=by
 cases us with
 | nil=>exact au e
 | cons u us=>cases us with
  | cons=>exact au e
  | nil=>
   obtain ⟨v,a,rfl,h,r'⟩:=r.view;refine rp (show a=[] from r'.view) ?_;exact k rfl h e
theorem p6 {ρ:List Addr}{α:Type}{f:V->V->Option α}{o:α}{vs:List Value}{us:List V}(r:RVs w ρ imm vs us) (e:Dt us f=Vl o){P:List Value->Prop}(k:∀{v u a b},RV w ρ imm v u->RV w ρ imm a b->f u b=Vl o->P [v,a]):P vs:=by
 cases us with
 | nil=>exact au e
 | cons u us=>
  obtain ⟨v,d,rfl,h,r'⟩:=r.view;exact gD (P:=λvs=>P (v::vs)) r' e λ_ c e=>k h c e
theorem Gj {is:List Int}:(is.map λn:Int=>n.toNat.toUInt8)=is.map λi=>UInt8.ofNat i.toNat:=rfl
theorem A8 {bi:Bi}{vals:List Value}{vs:List V}(B:Bs c) (H:HI c st x) (hh:bi.eq .isinstance=Vo->A.handled=Vm) (rs:RVs c.w x.ρ x.imm vals vs) (h:bI st bi vs=Vl o):fT c.w A x (call bi.val vals) o:=by
 have g:∀{T:Value}{f:V->Option D},fc vs f=Vl o->(∀{v u},RV c.w x.ρ x.imm v u->f u=Vl o->fT c.w A x (call T [v]) o)->fT c.w A x (call T vals) o:=λ{T f} h k=>gD (P:=λvs=>fT c.w A x (call T vs) o) rs h λ_ r e=>k r e;have G:∀{T:Value}{f:D->Option D},(fc vs λv=>v.d?.bind f)=Vl o->(∀{v d},RD c.w x.imm v d->f d=Vl o->fT c.w A x (call T [v]) o)->fT c.w A x (call T vals) o:=λ{T f} h k=>g h λr e=>aA e λd y e=>k (r.onD y) e;cases bi with
 | len=>exact g h λr e=>aV e λn y e=>FN e <| Fo H r y
 | range=>exact cL h (λh=>G h λr e=>aV e λn y e=>FN e <| r.intL (T:=λa=>call (.type "range") [a]) y λt=>.push rfl (RD.rng (.head _)) λQ E q=>call_range_1 q) λh=>p6 (P:=λvs=>fT c.w A x (call (.type "range") vs) o) rs h λr L e=>aA e λd y e=>aA e λd' C e=>dS (T:=λa b=>call (.type "range") [a,b]) (r.onD y) (L.onD C) e λi j t u e=>et e <| .push rfl (RD.rng (.head _)) λQ E q=>call_range_2 q
 | sum=>exact G h λr e=>aA e λl y e=>aV e λU C e=>FN e <| r.lstL (T:=λa=>call (.builtin "sum") [a]) y λm z rs=>.stay λQ E q=>x9 (hh rfl) (aJ (H.immIn _ m)) (gq rs C) λF K t' k=>q _ F K k (RD.int _ _)
 | list=>exact G h λr e=>Cu H (hh rfl) r e
 | bytes=>
  exact G h λr e=>aA e λl y e=>aA e λU C e=>bD e λN e=>et e <| r.lstL (T:=λa=>call (.type "bytes") [a]) y λm z rs=>by
       have O:=gq rs C;have Y:=eU O;exact .stay λQ E q=>call_bytes_ints (aJ (H.immIn _ m)) O N.2 (bQ (by walk_at "n")) (hh rfl) λF t K k=>q _ F K k (RD.bytes _ t (by rw[Kw,Ka];walk_at "n"))
 | tuple=>
  exact g h λr e=>aV e λl y e=>FN e <| H.lsL (T:=λa=>call (.type "tuple") [a]) r y λ{p J n} M z rs=>.grown λQ E q=>call_tuple_list (aJ M) (λF k=>q (F.push (dU J 0)) x.S.toks F.objs.size (dU J 0) (λb o e=>aM _ _ _ _ (k b o e)) (by
         cases e:x.h.get? F.objs.size with
         | none=>rfl
         | some o=>exact absurd (Lz (k _ _ e)) (Mz _)) (Kq _ rfl) (.tup (.head _) z (mD rs))) (bQ (by rw[Kw];exact z))
 | bool=>exact g h λr e=>aV e λl y e=>FN e <| H.lsL (T:=λa=>call (.type "bool") [a]) r y λ{p J n} M z rs=>.stay λQ E q=>call_bool_1 (nG p J.toArray (qP z)) ⟨aJ M,show OU (λI R=>R.TypeIs I "bool"/\Q I R) E _ _ from ⟨rfl,q _ x.h _ (λ_ _ e=>e) (by rw[s8 rs];exact .bool _)⟩⟩
 | sorted=>exact G h λr e=>yh H (hh rfl) r e
 | ord=>
  exact G h λr e=>aA e λs y e=>bD e λN e=>aV e λn C e=>FN e <| by
       have hs:s=⟨#[n]⟩:=by
        obtain ⟨⟨l⟩⟩:=s;rcases l with _ | ⟨m,_ | _⟩<;>first | (cases J9 C;rfl) | cases N
       subst hs;exact r.strL (T:=λa=>call (.builtin "ord") [a]) y λt z=>.int λQ E q=>PySem.P.ord_of_char q
 | isinstance=>exact p6 (P:=λvs=>fT c.w A x (call (.builtin "isinstance") vs) o) rs h λr L e=>aA e λd y e=>aV e λb C e=>FN e <| wG B H r (L.onD y) C
 | _=>exact au h
end
end
section
set_option linter.all false
section
variable {c:Cn}{cx:Cx}{env:Env}{own own':List Addr}{fr:List (Str×V)}{x y:X}{z:Z}{s:St}
theorem EI.advD (H:EI c cx env own fr x) (p:Adv c own' x y) (J:env.locals∉own') (C:∀n a,cC (cx.names.lookup n)=Vn->env.cells.lookup n=Vl a->a∉own'):EI c cx env own fr y where
 kind:=H.kind
 glb:=H.glb
 blt:=H.blt
 names:=H.names
 ns:=by
  obtain ⟨m,⟨o,A,s,d,i⟩,b⟩:=H.ns;refine ⟨m,?_,λn v g l=>(b n v g l).imp λ_ h=>⟨h.1,h.2.up p⟩⟩;exact (p.keep _ _ d J (H.ownI _ H.loc).1).elim (λe=>y3 o A s ⟨e,i⟩) λe=>e.2.elim λE e=>y3 _ A s ⟨e,i⟩
 cells:=λn f=>by
  obtain ⟨a,o,val,d,i,j,t⟩:=H.cells n f;have r:∀v,get n fr=Vl v->∃u,val=Vl u/\RV c.w y.ρ y.imm u v:=λv g=>(t v g).imp λ_ h=>⟨h.1,h.2.up p⟩
  exact (p.keep _ _ i (C n a f d) (H.cellL n a f d).1).elim (λe=>y3 a o val (w4 d e j r)) λe=>e.2.elim λE e=>y3 a _ val (w4 d e j r)
 loc:=H.loc
 ownI:=λa G=>by
  obtain ⟨z,I,K,o,e⟩:=H.ownI a G;exact w4 (p.off e z) (λq F k=>(p.immN q F).elim (λm=>I q m k) λm=>m.elim (λm=>au ((k▸m).symm.trans e)) λm=>z (k▸m)) K (p.alive a o e)
 cellI:=H.cellI
 cellO:=H.cellO
 cellL:=λn a f e=>by
  obtain ⟨a',o,val,d,i,j,t⟩:=H.cells n f;obtain rfl:a=a':=J9 (e.symm.trans d);exact ⟨p.off i (H.cellL n a f e).1,(H.cellL n a f e).2⟩
theorem EI.adv (H:EI c cx env own fr x) (p:Adv c [] x y):EI c cx env own fr y:=H.advD p MG λ_ _ _ _=>MG
noncomputable def uj (c:Cn) (x:X) (res:Res V) (Q:Value->Kh->Prop) (E:Value->Kh->Prop):Prop:=Res.casesOn res (λv s=>∀b y,HI c s.st y->Adv c [] x y->RV c.w y.ρ y.imm b v->Q b y.S) (λk as s=>∀a y,HI c s.st y->Adv c [] x y->dX Vo c x y a k as->E (.ref a) y.S) False
def ip (k:Nat) (a:Addr) (vs:List V) (st:List SObj) (res:Res V):Prop:=∀{cx:Cx}{z:Z}{fr:List (Str×V)}{x:X}{vals:List Value},Ok k cx z->z.A.handled=Vm->At cx z ⟨fr,st⟩ x->RVs z.c.w x.ρ x.imm vals vs->
 ∀(Q:Value->Kh->Prop) (E:Value->Kh->Prop),uj z.c x res Q E->Mu (Kn PR z.c.w) z.A (.call (.ref a) ⟨vals,[]⟩) (OU Q E) x.S
def Br (k:Nat) (b:Array UInt8) (l:Nat) (d:D) (st:List SObj) (res:Res V):Prop:=∀{cx:Cx}{z:Z}{fr:List (Str×V)}{x:X}{val:Value}{f a:Addr},Ok k cx z->z.A.handled=Vm->At cx z ⟨fr,st⟩ x->x.ρ[l]?=Vl a->FnIs x.imm f b a->Gm z x val d->
 ∀(Q:Value->Kh->Prop) (E:Value->Kh->Prop),uj z.c x res Q E->Mu (Kn PR z.c.w) z.A (.call (.ref f) ⟨[val],[]⟩) (OU Q E) x.S
noncomputable def RF (z:Z) (y:X) (f:QA) (g:Fl):Prop:=Fl.casesOn g (f=.next) (f=.brk) (f=.cont) λv=>∃b,f=.ret b/\aZ z y b v
structure Ev (k:Nat) (cx:Cx) (e:Kb) where
 f:St->Res V
 ok:∀{z:Z}{s:St}{x:X},Ok k cx z->At cx z s x->aN cx z (aZ z) x (f s) (tr z (MQ e z.env))
structure Ts (k:Nat) (cx:Cx) (e:Kb) where
 f:St->Res Bool
 ok:∀{z:Z}{s:St}{x:X},Ok k cx z->At cx z s x->aN cx z HV x (f s) (tr z (isTrue e z.env (MQ e z.env)))
structure Xs (k:Nat) (cx:Cx) (l:List Stmt) where
 f:St->Res Fl
 ok:∀{z:Z}{s:St}{x:X},Ok k cx z->At cx z s x->aN cx z (RF z) x (f s) (tr z (Vg l z.env))
structure Ex (k:Nat) (cx:Cx) (t:Stmt) where
 f:St->Res Fl
 ok:∀{z:Z}{s:St}{x:X},Ok k cx z->At cx z s x->aN cx z (RF z) x (f s) (tr z (exec t z.env))
structure Sr (k:Nat) where
 ev:∀cx e,Ev k cx e
 ts:∀cx e,Ts k cx e
 xs:∀cx l,Xs k cx l
 call:Addr->List V->List SObj->Res V
 callOk:∀a vs st,ip k a vs st (call a vs st)
 rd:Array UInt8->Nat->D->List SObj->Res V
 rdOk:∀b l d st,Br k b l d st (rd b l d st)
noncomputable def Ev.bad {k:Nat}{cx:Cx}{e:Kb}:Ev k cx e:=⟨λ_=>.bad,λ_ _=>.bad⟩
noncomputable def Ts.bad {k:Nat}{cx:Cx}{e:Kb}:Ts k cx e:=⟨λ_=>.bad,λ_ _=>.bad⟩
noncomputable def Ex.bad {k:Nat}{cx:Cx}{e:Stmt}:Ex k cx e:=⟨λ_=>.bad,λ_ _=>.bad⟩
noncomputable def BA (id:Str):Bool:=!(id==sn "__debug__")&&!(id==sn "__classdict__")
noncomputable def dQ (st:List SObj) (l:Nat):Option (D×List SObj):=(st[l]?).bind λo=>(o.list?.map λds=>(.lst ds,st.set l .gone)).or (o.dict?.map λds=>(.dct ds,st.set l .gone))
noncomputable def GJ (id:Str) (v:V) (s:St):Res V:=V.casesOn v (λ_=>.ok v s) (λl=>MF (dQ s.st l) (.ok v s) λp=>.ok (.d p.1) ⟨aY id (.d p.1) s.fr,p.2⟩) (λ_=>.ok v s) (λ_=>.ok v s) λ_ _=>.ok v s
noncomputable def dO (id:Str) (s:St):Res V:=MF (get id s.fr) .bad λv=>GJ id v s
noncomputable def cO (id:Str) (s:St):Res V:=cP (get id s.fr) s
theorem EI.sub {fr':List (Str×V)}(H:EI c cx env own fr x) (h:∀n a,get n fr'=Vl a->∃v,get n fr=Vl v/\∀val,RV c.w x.ρ x.imm val v->RV c.w x.ρ x.imm val a):EI c cx env own fr' x:=⟨H.kind,H.glb,H.blt,H.names,H.ns.imp λm k=>⟨k.1,λn a g l=>(h n a g).elim λv e=>(k.2 n v e.1 l).imp λ_ q=>⟨q.1,e.2 _ q.2⟩⟩,λn b=>(H.cells n b).imp λ_ q=>q.imp λ_ q=>q.imp λ_ q=>w4 q.1 q.2.1 q.2.2.1 (λa g=>(h n a g).elim λv e=>(q.2.2.2 v e.1).imp λ_ w=>⟨w.1,e.2 _ w.2⟩),H.loc,H.ownI,H.cellI,H.cellO,H.cellL⟩
theorem uR {n:Str}{pos:Pos}{v:V}(a:At cx z s x) (H:hW (cx.names.lookup n)=Vn) (g:BA n=Vn) (t:get n s.fr=Vl v):∃val,aZ z x val v/\∀Q E,Q val x.S->Km (Kn PR z.c.w) z.A (MQ (.Name n pos) z.env) Q E x.S:=by
 have F:=a.F;have g:=Kk.mp g;have j:(n==("__debug__" : Str))=false:=KL _▸g.1;have i:(n==("__classdict__" : Str))=false:=KL _▸g.2;refine (ze H).elim (λl=>?_) λy=>?_
 ·refine aC λJ f=>?_;obtain ⟨m,G,K⟩:=F.ns;obtain ⟨val,e,r⟩:=K n v t l;refine f ?_;exact ⟨val,r,λQ E q=>wpAny_Name (wpAny_loadName_local F.kind ((F.names n).1 l) G e q) j⟩
 ·refine aC λJ f=>?_;obtain ⟨b,o,w,k,C,p,L⟩:=F.cells n y;obtain ⟨u,rfl,r⟩:=L v t;refine f ?_;refine ⟨u,r,λQ E q=>wpAny_Name ?_ j⟩;have d:=(F.names n).2.1 y;cases h:z.env.kindOf n with
  | none=>rw[h] at d;cases d
  | some I=>
   rw[h] at d;cases I with
   | cell=>exact wpAny_loadName_cell F.kind h k ⟨o,C,p⟩ q
   | free=>exact wpAny_loadName_free F.kind h k ⟨o,C,p⟩ q i
   | _=>cases d
theorem Fz {l:Nat}{p:D×List SObj}{val:Value}(a:At cx z s x) (B:Bs z.c) (r:aZ z x val (.loc l)) (h:dQ s.st l=Vl p):∃y,y.S=x.S/\Nx cx z x ⟨s.fr,p.2⟩ y (y.ρ=x.ρ/\(∀q∈x.imm,q∈y.imm)/\Gm z y val p.1):=by
 refine aC λf d=>?_;obtain ⟨b,rfl,h1⟩:=r;refine d ?_;refine aA h λo u h=>?_;refine aC λf d=>?_;obtain ⟨C,A,v,i,j⟩:=a.H.foot l o u;refine d ?_;obtain rfl:=J9 (h1.symm.trans v);refine cL h (λh=>aV h λw g e=>?_) λh=>aV h λw g e=>?_
 ·refine aC λf d=>?_;obtain rfl:=eO g;subst e;obtain ⟨t,n,rfl,hz,rs⟩:=j;refine d ?_;exact ⟨x.frz l (b,lstO t n),rfl,a.frz (so:=.gone) i (λ_ _=>.inl rfl) (w3 rfl (λ_ h=>.tail _ h) (.lst (.head _) hz (mD rs)))⟩
 ·refine aC λf d=>?_;obtain rfl:=iL g;subst e;obtain ⟨o,k,rfl,hd,rk⟩:=j;obtain ⟨E,m⟩:=B.sys;refine d ?_;refine ⟨x.frz l (b,o),rfl,a.frz (so:=.gone) i (λ_ _=>.inl rfl) (w3 rfl (λ_ h=>.tail _ h) (.dct (.head _) hd (beq_eq_false_iff_ne.mpr λq=>?_) (rk.mono λ_ h=>.tail _ h)))⟩;exact au ((a.H.ledB _ (HI.mem i (.head _))).symm.trans (q▸m))
theorem At.toFr {fr':List (Str×V)}(a:At cx z s x) (h:∀n b,get n fr'=Vl b->∃v,get n s.fr=Vl v/\∀val,aZ z x val v->aZ z x val b):At cx z ⟨fr',s.st⟩ x:=⟨a.H,a.F.sub h⟩
theorem Cb {n:Str}{pos:Pos}(B:Bs z.c) (a:At cx z s x) (m:hW (cx.names.lookup n)=Vn) (o:BA n=Vn):aN cx z (aZ z) x (dO n s) (tr z (MQ (.Name n pos) z.env)):=by
 unfold dO;cases i:get n s.fr with
 | none=>exact .bad
 | some v=>
  obtain ⟨val,r,h⟩:=uR (pos:=pos) a m o i;have plain:aN cx z (aZ z) x (.ok v s) (tr z (MQ (.Name n pos) z.env)):=.pure a r h;cases v with
  | loc l=>
   show aN cx z (aZ z) x (MF (dQ s.st l) (.ok (.loc l) s) λp=>.ok (.d p.1) ⟨aY n (.d p.1) s.fr,p.2⟩) _;cases k:dQ s.st l with
   | none=>exact plain
   | some p=>
    obtain ⟨y,e,f⟩:=Fz a B r k;refine λQ E q=>h Q E (e▸q val y ⟨⟨f.at_.H,f.at_.F.sub λj t g=>?_⟩,f.adv,f.r.2.2⟩);rw[cV] at g;by_cases e:j=n
    ·rw[if_pos e] at g;refine ⟨_,e▸i,λu w=>J9 g▸?_⟩;obtain ⟨b,rfl,h1⟩:=w;obtain ⟨A,rfl,h2⟩:=r;rw[f.r.1,h2] at h1;exact J9 h1▸f.r.2.2
    ·rw[if_neg e] at g;exact ⟨t,g,λ_ h=>h⟩
  | _=>exact plain
theorem iD {α:Type}{n:Str}{d:α}:∀{l:List (Str×α)},bY n l=Vl d->(n,d)∈l:=@lr _ _ (@λh=>au h) (λp r a=>(@λh=>if e:p.1=n then by
   obtain rfl:=e;exact J9 ((if_pos rfl).symm.trans h)▸.head _
  else .tail _ (a ((if_neg e).symm.trans h))))
theorem zP:ib.all (λp=>!(p.1==sn "__debug__"))=true:=by decide +kernel
theorem jX {n:Str}{pos:Pos}{d:D}(B:Bs z.c) (a:At cx z s x) (k:cx.names.lookup n=Vl .globalImplicit) (g:bY n ib=Vl d):∃val,Gm z x val d/\∀Q E,Q val x.S->Km (Kn PR z.c.w) z.A (MQ (.Name n pos) z.env) Q E x.S:=by
 refine aC λm e=>?_;obtain ⟨val,⟨mg,l,b⟩,r⟩:=B.gl n d g;refine e ?_;have F:=a.F;have j:(n==("__debug__" : Str))=false:=(KL _).mp (KP.mp zP _ (iD g));refine ⟨val,r _ a.H.imm0,λQ E q=>Calls.Name_function_global F.kind ((F.names n).2.2.1 k) ?_ j⟩;have f:x.h.Ns z.env.globals mg:=F.glb▸l.keeps a.H.base;exact b.elim (λb=>Calls.loadGlobal_global f b q) λb=>b.2.elim λo i=>Calls.loadGlobal_builtin f b.1 (F.blt▸i.1.keeps a.H.base) i.2 q
noncomputable def cK (cx:Cx) (id:Str) (s:St):Res V:=if cx.names.lookup id=Vl .globalImplicit then cP ((bY id ib).map .d) s else if (hW (cx.names.lookup id)&&BA id)=Vn then (if cx.comp=Vn then cO id s else dO id s) else .bad
theorem uK {n:Str}{pos:Pos}(a:At cx z s x) (c:hW (cx.names.lookup n)=Vn) (d:BA n=Vn):aN cx z (aZ z) x (cO n s) (tr z (MQ (.Name n pos) z.env)):=.opt λv b=>(uR (pos:=pos) a c d b).elim λval h=>.pure a h.1 h.2
theorem kF {n:Str}{pos:Pos}(B:Bs z.c) (a:At cx z s x):aN cx z (aZ z) x (cK cx n s) (tr z (MQ (.Name n pos) z.env)):=by
 unfold cK;by_cases b:cx.names.lookup n=Vl .globalImplicit
 ·rw[if_pos b];exact .opt λv i=>aV i λd g e=>e▸(jX (pos:=pos) B a b g).elim λval h=>.pure a h.1 h.2
 ·rw[if_neg b];refine aN.ite λh=>?_;have h:=Kk.mp h;by_cases f:cx.comp=Vn
  ·rw[if_pos f];exact uK a h.1 h.2
  ·rw[if_neg f];exact Cb B a h.1 h.2
end
variable {k:Nat}{cx:Cx}
noncomputable def pN (n:Str) (pos:Pos):Ev k cx (.Name n pos):=⟨cK cx n,λo a=>kF o.B a⟩
noncomputable def l0 (n:Str) (pos:Pos):Ev k cx (.Name n pos):=⟨λs=>if (hW (cx.names.lookup n)&&BA n)=Vn then cO n s else cK cx n s,λ{z s x} o a=>by
 by_cases h:(hW (cx.names.lookup n)&&BA n)=Vn
 ·have h':=Kk.mp h;rw[if_pos h];exact uK a h'.1 h'.2
 ·rw[if_neg h];exact kF o.B a⟩
noncomputable def ek (r:Sr k) (cx:Cx) (e:Kb):Ev k cx e:=match e with
 | .Name id p=>l0 id p
 | e=>r.ev cx e
end
section
set_option linter.all false
section
variable {cx:Cx}{z:Z}{s:St}{x y:X}{k:Nat}{env:Env}
noncomputable def optE {α β:Type}(o:Option α) (b:β) (f:α->β):β:=MF o b f
noncomputable def bb (e:Kb):Option Kb:=match e with
 | .Starred a _=>Vl a
 | _=>Vm
theorem lv {e:Kb}{es:List Kb}(h:bb e=Vm):LD (e::es) env=(Vo,MQ e env)::LD es env:=by
 cases e<;>first | rfl | cases h
theorem pA {e a:Kb}(h:bb e=Vl a):∃p,e=.Starred a p:=by
 cases e<;>first | exact au h | exact ⟨_,by rw[J9 h]⟩
noncomputable def aO:List Kb->Bool
 | []=>Vn
 | e::es=>(Rk es||(bb e).isNone)&&aO es
noncomputable def kP (z:Z):List Kb->eZ (List Value)
 | []=>λQ _ s=>Q [] s
 | e::es=>optE (bb e) (λQ E s=>Km (Kn PR z.c.w) z.A (MQ e z.env) (λv b=>kP z es (λvs d=>Q (v::vs) d) E b) E s) λa Q E s=>Km (Kn PR z.c.w) z.A (MQ a z.env) (λv b=>Ru (Kn PR z.c.w) z.A E v Q b) E s
theorem fm {e:Kb}{es:List Kb}(h:bb e=Vm):kP z (e::es)=λQ E s=>Km (Kn PR z.c.w) z.A (MQ e z.env) (λv a=>kP z es (λvs b=>Q (v::vs) b) E a) E s:=by
 show optE (bb e) _ _=_;rw[h];rfl
theorem kL {e a:Kb}{es:List Kb}(h:bb e=Vl a):kP z (e::es)=λQ E s=>Km (Kn PR z.c.w) z.A (MQ a z.env) (λv b=>Ru (Kn PR z.c.w) z.A E v Q b) E s:=by
 show optE (bb e) _ _=_;rw[h];rfl
theorem Gl:∀{es:List Kb}{Q c:List Value->Kh->Prop}{E:Value->Kh->Prop}{S:Kh},kP z es Q E S->(∀vs s,Q vs s->c vs s)->kP z es c E S:=@lr _ _ (@λ_ _ _ _ h k=>k _ _ h) (λe es g=>(@λQ c E S h k=>by
  cases hs:bb e with
  | none=>
   rw[fm hs] at h ⊢;exact KN h (λv i d=>g d λvs s q=>k _ _ q) λ_ _ e=>e
  | some a=>
   rw[kL hs] at h ⊢;exact KN h (λv i d=>KN d (λb l f=>⟨f.1,KN f.2 (λvs m j=>k _ _ j) λ_ _ e=>e⟩) λ_ _ e=>e) λ_ _ e=>e))
theorem iV {e:Kb}{es:List Kb}(h:aO (e::es)=Vn):(bb e≠Vm->es=[])/\aO es=true:=by
 have h:=Kk.mp h;refine ⟨λn=>?_,h.2⟩;cases es with
 | nil=>rfl
 | cons=>cases hs:bb e with
  | none=>exact absurd hs n
  | some a=>rw[hs] at h;cases h.1
theorem ei {pos:Pos}:∀{es:List Kb}{Q:List Value->Kh->Prop}{E:Value->Kh->Prop}{S:Kh},aO es=Vn->kP z es Q E S->Km (Kn PR z.c.w) z.A (spliced (Ms pos (LD es z.env))) Q E S:=@lr _ _ (@λQ E S _ h=>Sf h) (λe es j=>(@λQ E S d h=>by
  have d:=iV d;cases hs:bb e with
  | none=>
   rw[fm hs] at h;rw[lv hs];exact Calls.spliced_cons (KN h (λv k f=>j d.2 f) λ_ _ e=>e)
  | some a=>
   rw[kL hs] at h;obtain ⟨p,rfl⟩:=pA hs;refine rp (d.1 (by rw[hs];exact nofun)) ?_;exact items_star (KN h (λv k f=>KN f (λb m g=>⟨g.1,KN g.2 (λi n l=>Sf (by rw[LC];exact l)) λ_ _ e=>e⟩) λ_ _ e=>e) λ_ _ e=>e)))
theorem fu {f:Value}{first:List Value}{pos:Pos}{P:Heap->Prop}{es:List Kb}{Q:Value->Kh->Prop}{E:Value->Kh->Prop}{S:Kh}(l:aO es=Vn) (i:∀h,P h->∃k,(k=PH\/k=O5\/k=OA)/\TX (Kn PR z.c.w) h (SW f) k) (h:kP z es (λvs g=>P g.heap/\Km (Kn PR z.c.w) z.A (call f (first++vs)) Q E g) E S):Km (Kn PR z.c.w) z.A (MZ pos f first (Ms pos (LD es z.env)) []) Q E S:=by
 cases es with
 | nil=>exact Vi rfl i (evalArgs_nil3 h)
 | cons e es=>
  cases hs:bb e with
  | none=>
   have j:=ei (pos:=pos) l h;rw[lv hs] at j ⊢;have d:Km (Kn PR z.c.w) z.A (evalArgs f Vn ((Vo,MQ e z.env)::Ms pos (LD es z.env)) []) (λa g=>P g.heap/\Km (Kn PR z.c.w) z.A (call f (first++a.pos) a.kw) Q E g) E S:=Rv (f:=f) j;cases b:(Ms pos (LD es z.env)).any (·.1) with
   | false=>exact Vi (by show ((Vo||(Ms pos (LD es z.env)).any (·.1))||false)=Vo;rw[b];rfl) i d
   | true=>exact ks_call (by show (Vo||(Ms pos (LD es z.env)).any (·.1))=Vn;rw[b];rfl) i d
  | some a=>
   obtain ⟨p,rfl⟩:=pA hs;refine rp ((iV l).1 (by rw[hs];exact nofun)) ?_;exact ks_call rfl i (ks_lone h)
abbrev dJ (z:Z) (y:X) (b:List Value) (v:List V):Prop:=RVs z.c.w y.ρ y.imm b v
noncomputable def v7 (v:V):Option (List V):=v.d?.bind λd=>(d.lst?.or d.tup?).map λl=>l.map .d
noncomputable def bM (g:∀e,Ev k cx e):List Kb->St->Res (List V)
 | [],s=>.ok [] s
 | e::es,s=>optE (bb e) ((g e).f s |>.bind λv s=>(bM g es s).bind λvs s=>.ok (v::vs) s) λa=>if Rk es=Vn then (g a).f s |>.bind λv s=>cP (v7 v) s else .bad
theorem ph {w:Ld}{ρ:List Addr}{a:Imm}{us:List Value}{ds:List D}(r:RDs w a us ds):RVs w ρ a us (ds.map .d):=r.ind (M:=λus ds=>RVs w ρ a us (ds.map .d)) .nil λh _ b=>.cons h b
theorem B0 {v:Value}{u:V}{us:List V}(a:At cx z s x) (r:aZ z x v u) (h:v7 u=Vl us):aN cx z (dJ z) x (.ok us s) (λQ E b=>Ru (Kn PR z.c.w) z.A E v Q b):=by
 have I:∀{p:Addr}{o:Obj}{T:String}{g:List Value}{n:Nat}{k:List D},x.h.get? p=Vl o->o.cls=.type T->o.data=.seq g.toArray n->(T = "list"\/T = "tuple")->g.length<=16777216->RDs z.c.w x.imm g k->k.map .d=us->aN cx z (dJ z) x (.ok us s) (λQ E b=>Ru (Kn PR z.c.w) z.A E (.ref p) Q b):=by
  intro p o T g n k y J K G j f e Q E q;have t:Km (Kn PR z.c.w) z.A (TS (.ref p)) Q E x.S:=TN p G y J K (λM L=>q g (x.gr M x.S.toks []) (a.kp (ex:=[]) L (λ_ h=>nomatch h) (e▸ph f))) (bQ (by rw[Kw];exact j));have i:x.S.TypeIs (.ref p) T:=⟨o,y,J⟩
  unfold Ru notIterableAtAll;rcases G with rfl | rfl
  ·exact Kc (Oy i PySem.F.slot_list_iter.lookup (Ko ⟨rfl,t⟩))
  ·exact Kc (Oy i PySem.F.slot_tuple_iter.lookup (Ko ⟨rfl,t⟩))
 exact aA h λd C h=>aV h λk h e=>cL h (λl=>RD.onLst (P:=λv=>aN cx z (dJ z) x (.ok us s) (λQ E b=>Ru (Kn PR z.c.w) z.A E v Q b)) (r.onD C) l λm j f=>I (a.H.immIn _ m) rfl rfl (.inl rfl) j f e) λl=>RD.onTup (P:=λv=>aN cx z (dJ z) x (.ok us s) (λQ E b=>Ru (Kn PR z.c.w) z.A E v Q b)) (r.onD C) l λm j f=>I (a.H.immIn _ m) rfl rfl (.inr rfl) j f e
theorem eP (g:∀e,Ev k cx e) (o:Ok k cx z):∀{es:List Kb}{s:St}{x:X},At cx z s x->aN cx z (dJ z) x (bM g es s) (kP z es):=@lr _ _ (@λs x a=>.pure a .nil λ_ _ q=>q) (λe es i=>(@λs x a=>by
  show aN cx z (dJ z) x (optE (bb e) _ _) _;cases hs:bb e with
  | none=>
   rw[fm hs];exact ((g e).ok o a).bind (K:=λv Q E l=>kP z es (λb f=>Q (v::b) f) E l) λv p c y n=>(i n.at_).bind (P:=kP z es) (K:=λb Q _ d=>Q (c::b) d) λb s2 t w m=>.pure m.at_ (.cons (n.r.up m.adv) m.r) λ_ _ q=>q
  | some j=>
   rw[kL hs];exact aN.ite λ_=>((g j).ok o a).bind λv p c y n=>.opt λu h=>B0 n.at_ n.r h))
noncomputable def ej:List V->Option (List D)
 | []=>Vl []
 | v::r=>v.d?.bind λd=>(ej r).map (d::·)
theorem kj {w:Ld}{ρ:List Addr}{a:Imm}{us:List Value}{vs:List V}(r:RVs w ρ a us vs):∀{ds:List D},ej vs=Vl ds->RDs w a us ds:=r.ind (M:=λus vs=>∀{ds:List D},ej vs=Vl ds->RDs w a us ds) (λ{_} h=>J9 h▸.nil) λ{_ _ _ _} h _ c {_} e=>aA e λd b e=>aV e λds g f=>by
  obtain rfl:=tL b;exact f▸.cons h (c g)
def ui (c:Cn) (f:Value):Prop:=∀h,c.hb.StaysIn h->∃k,(k=PH\/k=O5\/k=OA)/\TX (Kn PR c.w) h (SW f) k
theorem mu {c:Cn}{f:Value}(h:∀a,f≠.ref a):ui c f:=λb _=>⟨.machine,.inr (.inl rfl),TX.of_pure (by cases f<;>first | rfl | exact absurd rfl (h _))⟩
theorem iM {f:Value}{first:List Value}{pos:Pos}{es:List Kb}{res:Res (List V)}{g:List V->St->Res V}{P:Heap->Prop}(d:aO es=Vn) (e:aN cx z (dJ z) x res (kP z es)) (a:∀h,P h->∃k,(k=PH\/k=O5\/k=OA)/\TX (Kn PR z.c.w) h (SW f) k) (i:∀(s:St) (y:X),At cx z s y->Adv z.c z.own x y->P y.h) (j:∀vs s1 vals y,Nx cx z x s1 y (dJ z y vals vs)->aN cx z (aZ z) y (g vs s1) (tr z (call f (first++vals)))):aN cx z (aZ z) x (res.bind g) (tr z (MZ pos f first (Ms pos (LD es z.env)) [])):=λQ E q=>
 fu (P:=P) d a (e _ E (q.bind (.refl _ _ _) (λvs s1 vals y n b=>⟨i s1 y n.at_ n.adv,j vs s1 vals y n Q E (b.adv n.adv)⟩) λ_ _ _ _ y n l=>l y n))
end
end
section
set_option linter.all false
section
variable {cx:Cx}{z:Z}{s:St}{x y:X}{k:Nat}{b:Value}{v:V}
theorem Lf.refB {T:OW Bool}{r:Bool}(l:Ij z.c.w z.A x T r) (a:At cx z s x):aN cx z HV x (.ok r s) (tr z T):=Lf.ref (λQ E q=>l Q E λb f g d k e r=>q b f g d k e λ_ _ _=>r) a
theorem Lf.refV {T:OW Value}{v:V}(l:xB z.c.w z.A x T v) (a:At cx z s x):aN cx z (aZ z) x (.ok v s) (tr z T):=λQ E q=>l Q E λb f g d k e r=>q b (x.gr f g d) (a.kp k e r)
noncomputable def okD (o:Option D) (s:St):Res V:=cP (o.map V.d) s
theorem aN.optD {T:OW Value}{o:Option D}(a:At cx z s x) (h:∀d,o=Vl d->fT z.c.w z.A x T d):aN cx z (aZ z) x (okD o s) (tr z T):=.opt λv f=>aV f λd b e=>e▸(h d b).refD a
theorem kt (a:At cx z s x) (c:aZ z x b v):aN cx z HV x (cP (cc s.st v) s) (tr z (Of b)):=.opt λr d=>(xV a.H c d).refB a
theorem aN.done {α β:Type}{RB:X->β->α->Prop}{u:α}{b:β}(a:At cx z s x) (h:RB x b u):aN cx z RB x (.ok u s) (λQ _ c=>Q b c):=.pure a h λ_ _ q=>q
theorem pT {β γ:Type}{t:Kb}{RB:X->β->γ->Prop}{p q:OW β}{P:eZ β}(T:Ts k cx t){f g:St->Res γ}(o:Ok k cx z) (a:At cx z s x) (i:∀{s:St}{y:X},At cx z s y->aN cx z RB y (f s) (tr z p)) (e:∀{s:St}{y:X},At cx z s y->aN cx z RB y (g s) (tr z q)) (h:∀Q E,Km (Kn PR z.c.w) z.A (isTrue t z.env (MQ t z.env)) (λb d=>if b then Km (Kn PR z.c.w) z.A p Q E d else Km (Kn PR z.c.w) z.A q Q E d) E x.S->P Q E x.S):aN cx z RB x ((T.f s).bind λc s=>cond c (f s) (g s)) P:=(aN.bind (K:=λb Q E d=>if b then Km (Kn PR z.c.w) z.A p Q E d else Km (Kn PR z.c.w) z.A q Q E d) (T.ok o a) λc s b y n=>by
  refine rq (show b=c from n.r) ?_;cases b with
  | true=>exact i n.at_
  | false=>exact e n.at_).of h
end
variable {k:Nat}{cx:Cx}
noncomputable def AN (c:Const) (n:Nat) (p:Pos):Ev k cx (.Constant c n p):=match c with
 | .none=>⟨λs=>.ok (.d .non) s,λ_ a=>.pure a RD.non λ_ _ q=>wpAny_Constant_none q⟩
 | .bool b=>⟨λs=>.ok (.d (.bool b)) s,λ_ a=>.pure a (RD.bool b) λ_ _ q=>wpAny_Constant_bool q⟩
 | .int i=>⟨λs=>.ok (.d (.int i)) s,λ_ a=>Lf.refD (.int λ_ _ q=>Qg q) a⟩
 | .str t=>⟨λs=>if t.cps.size<=1000 then .ok (.d (.str t)) s else .bad,λ_ a=>aN.ite λh=>Lf.refD (.tok (RD.str _ _ (by (first | walk_at "m" | lia))) λ_ _ q=>RW q) a⟩
 | _=>.bad
noncomputable def jv (op:Nw) (v u:V):Option D:=v.d?.bind λd=>u.d?.bind λe=>HK op d e
section
variable {p q t:Kb}(a:Ev k cx p) (b:Ev k cx q) (T:Ts k cx t)
noncomputable def Jb (op:Nw) (pos:Pos):Ev k cx (.BinOp p op q pos):=⟨λs=>(a.f s).bind λv s=>(b.f s).bind λu s=>okD (jv op v u) s,λo c=>
 ((a.ok o c).bind λv s l y n=>(b.ok o n.at_).bind λu s j w m=>.optD m.at_ λd h=>aA h λt e h=>aA h λi g h=>F3 m.at_.H (RV.onD (n.r.up m.adv) e) (RV.onD m.r g) h).of λ_ _ h=>Vb h⟩
noncomputable def IO (pos:Pos):Ev k cx (.UnaryOp .Not p pos):=⟨λs=>(a.f s).bind λv s=>(cP (cc s.st v) s).bind λb s=>.ok (.d (.bool (!b))) s,λ{z s x} o c=>
 ((a.ok o c).bind λv s i y n=>(aN.bind (K:=λb Q _ e=>Q (.bool (!b)) e) (kt n.at_ n.r) λb s g w m=>.done m.at_ (show RD _ _ (.bool (!g)) (.bool (!b)) from m.r▸.bool _)).of (P':=tr z (unaryOp .Not i)) λ_ _ h=>not_of h).of λ_ _ h=>UnaryOp_ h⟩
noncomputable def Gy (i:Int) (n:Nat) (b pos:Pos):Ev k cx (.UnaryOp .USub (.Constant (.int i) n b) pos):=⟨λs=>.ok (.d (.int (-i))) s,λ_ a=>Lf.refD (.tok (RD.int _ _) λ_ _ q=>UnaryOp_ (Qg (PyProof.Rows.neg_int q))) a⟩
noncomputable def JO (pos:Pos):Ev k cx (.IfExp t p q pos):=⟨λs=>(T.f s).bind λc s=>cond c (a.f s) (b.f s),λo d=>pT T o d (a.ok o) (b.ok o) λ_ _ h=>wpAny_IfExp h⟩
noncomputable def tN (op:PQ) (a:Ev k cx p) (b:Ev k cx q) (s:St):Res D:=if On op q=Vo then (a.f s).bind λv s=>(b.f s).bind λu s=>cP ((bV s.st op v u).map D.bool) s else .bad
theorem vz {z:Z}{s:St}{x:X}(op:PQ) (a:Ev k cx p) (b:Ev k cx q) (o:Ok k cx z) (f:At cx z s x):aN cx z (λy b d=>Gm z y b d/\∃r,d=.bool r) x (tN op a b s) (λQ E s=>On op q=Vo/\Km (Kn PR z.c.w) z.A (MQ p z.env) (λi I=>Km (Kn PR z.c.w) z.A (MQ q z.env) (λg G=>Km (Kn PR z.c.w) z.A (Pb op i g) Q E G) E I) E s):=aN.ite λj=>((a.ok o f).bind λv s i y n=>(b.ok o n.at_).bind λu s g w m=>.opt λd h=>aV h λr h e=>e▸λQ E J=>
  FW m.at_.H o.B (by have:=o.units;lia) (n.r.up m.adv) m.r h Q E λb t C l k e F=>J b (w.gr t C l) (m.at_.kp k e ⟨F,_,rfl⟩)).of λ_ _ h=>⟨j,h⟩
noncomputable def I7 (op:PQ) (pos:Pos):Ev k cx (.Compare p [op] [q] pos):=⟨λs=>(tN op a b s).bind λd s=>.ok (.d d) s,λ{z s x} o c=>
 ((vz op a b o c).bind (K:=λb Q _ e=>Q b e) λd s b y n=>.done n.at_ (show aZ z y b (.d d) from n.r.1)).of λ_ _ h=>wpAny_Compare1 h.2 h.1⟩
noncomputable def I6 (op:PQ) (pos:Pos):Ts k cx (.Compare p [op] [q] pos):=⟨λs=>(tN op a b s).bind λd s=>cP d.bool? s,λ{z s x} o e=>
 ((vz op a b o e).bind (K:=λb Q E g=>Km (Kn PR z.c.w) z.A (Of b) Q E g) λd s b y n=>by
  obtain ⟨f,r,rfl⟩:=n.r;refine rp (show b=.bool r from f.view) ?_;exact .pure n.at_ rfl λ_ _ q=>TL q).of λ_ _ h=>wpAny_isTrue_Compare1 h.2 h.1⟩
noncomputable def kx (e:Kb) (a:Ev k cx e) (d:∀(env:Env) b,isTrue e env b=(do let v <- b;UY e.pos;Qw [v] (Of v))):Ts k cx e:=⟨λs=>(a.f s).bind λv s=>cP (cc s.st v) s,λo c=>
 ((a.ok o c).bind λv s g y n=>kt n.at_ n.r).of λ_ _ h=>isTrue_plain h (d _ _)⟩
noncomputable def IN (pos:Pos):Ts k cx (.UnaryOp .Not t pos):=⟨λs=>(T.f s).bind λb s=>.ok (!b) s,λo a=>
 ((T.ok o a).bind (K:=λb Q _ c=>Q (!b) c) λb s d y n=>.done n.at_ (congrArg _ n.r)).of λ_ _ h=>isTrue_not h⟩
noncomputable def JM {p q:Kb}(a:Ts k cx p) (b:Ts k cx q) (pos:Pos):Ts k cx (.IfExp t p q pos):=⟨λs=>(T.f s).bind λc s=>cond c (a.f s) (b.f s),λo d=>pT T o d (a.ok o) (b.ok o) λ_ _ h=>isTrue_IfExp h⟩
end
section
variable (g:∀e,Ts k cx e)
noncomputable def rV:List Kb->St->Res Bool
 | [],s=>.ok Vn s
 | e::es,s=>((g e).f s).bind λb s=>cond b (rV es s) (.ok Vo s)
noncomputable def DL:List Kb->St->Res Bool
 | [],s=>.ok Vo s
 | e::es,s=>((g e).f s).bind λb s=>cond b (.ok Vn s) (DL es s)
theorem Dw {pos:Pos}{z:Z}{d:OW Value}(o:Ok k cx z):∀{es:List Kb}{s:St}{x:X},At cx z s x->aN cx z HV x (rV g es s) (tr z (isTrue (.BoolOp .And es pos) z.env d)):=@lr _ _ (@λs x a=>.pure a rfl λ_ _ q=>isTrue_and_nil q) (λe es i=>(@λs x a=>(((g e).ok o a).bind (K:=λb Q E f=>if b then Km (Kn PR z.c.w) z.A (isTrue (.BoolOp .And es pos) z.env d) Q E f else Q Vo f) λc s b y n=>by
  refine rq (show b=c from n.r) ?_;cases b with
  | true=>exact i n.at_
  | false=>exact .done n.at_ rfl).of λ_ _ h=>isTrue_and h))
theorem E1 {pos:Pos}{z:Z}{d:OW Value}(o:Ok k cx z):∀{es:List Kb}{s:St}{x:X},At cx z s x->aN cx z HV x (DL g es s) (tr z (isTrue (.BoolOp .Or es pos) z.env d)):=@lr _ _ (@λs x a=>.pure a rfl λ_ _ q=>isTrue_or_nil q) (λe es i=>(@λs x a=>(((g e).ok o a).bind (K:=λb Q E f=>if b then Q Vn f else Km (Kn PR z.c.w) z.A (isTrue (.BoolOp .Or es pos) z.env d) Q E f) λc s b y n=>by
  refine rq (show b=c from n.r) ?_;cases b with
  | true=>exact .done n.at_ rfl
  | false=>exact i n.at_).of λ_ _ h=>isTrue_or h))
end
noncomputable def HD (r:Sr k) (op:PS) (es:List Kb) (pos:Pos):Ts k cx (.BoolOp op es pos):=match op with
 | .And=>⟨rV (r.ts cx) es,λo a=>Dw _ o a⟩
 | .Or=>⟨DL (r.ts cx) es,λo a=>E1 _ o a⟩
noncomputable def js (op:PS) (b:Bool):Bool:=PS.casesOn op b (!b)
noncomputable def lj (r:Sr k) (op:PS):List Kb->St->Res V
 | [],_=>.bad
 | e::es,s=>LW es ((r.ev cx e).f s) λ_ _=>((r.ev cx e).f s).bind λv s=>(cP (cc s.st v) s).bind λb s=>cond (js op b) (lj r op es s) (.ok v s)
theorem rR (r:Sr k){op:PS}{pos:Pos}{z:Z}(o:Ok k cx z):∀{es:List Kb}{s:St}{x:X},At cx z s x->aN cx z (aZ z) x (lj (cx:=cx) r op es s) (tr z (MQ (.BoolOp op es pos) z.env))
 | [],_,_,_=>.bad
 | [e],s,x,a=>((r.ev cx e).ok o a).of λ_ _ h=>BoolOp_one h
 | e::j::es,s,x,a=>by
  refine aN.of (P:=λQ E g=>Km (Kn PR z.c.w) z.A (MQ e z.env) (λd i=>Km (Kn PR z.c.w) z.A (Of d) (λb f=>if js op b=Vn then Km (Kn PR z.c.w) z.A (MQ (.BoolOp op (j::es) pos) z.env) Q E f else Q d f) E i) E g) (((r.ev cx e).ok o a).bind (K:=λd Q E i=>Km (Kn PR z.c.w) z.A (Of d) (λb f=>if js op b=Vn then Km (Kn PR z.c.w) z.A (MQ (.BoolOp op (j::es) pos) z.env) Q E f else Q d f) E i) λv s d y n=>
   (kt n.at_ n.r).bind (K:=λb Q E g=>if js op b=Vn then Km (Kn PR z.c.w) z.A (MQ (.BoolOp op (j::es) pos) z.env) Q E g else Q d g) λc s b w m=>?_) λQ E h=>?_
  ·refine rq (show b=c from m.r) ?_;cases q:js op b with
   | true=>exact rR r o m.at_
   | false=>exact .done m.at_ (n.r.up m.adv)
  ·cases op with
   | And=>exact BoolOp_and h
   | Or=>exact BoolOp_or (KN h (λd i l=>KN l (λb f p=>by cases b<;>exact p) λ_ _ e=>e) λ_ _ e=>e)
noncomputable def HE (r:Sr k) (op:PS) (es:List Kb) (pos:Pos):Ev k cx (.BoolOp op es pos):=⟨lj (cx:=cx) r op es,λo a=>rR r o a⟩
noncomputable def G0 (vs:List V) (s:St):Res V:=okD ((ej vs).bind λds=>if ds.length<=1000 then Vl (.lst ds) else Vm) s
noncomputable def DK (vs:List V):Option V:=LW vs Vm λv r=>LW r Vm λu r=>LW r (v.loc?.bind λl=>u.d?.map λd=>.pair l d) λ_ _=>Vm
noncomputable def xU (vs:List V):Option V:=((ej vs).bind λds=>if ds.length<=1000 then Vl (.d (.tup ds)) else Vm).or (DK vs)
abbrev oz (T:String) (us:List Value):eZ Value:=λQ _ a=>us.length<=sizeLine/\Q (.ref a.heap.objs.size) {a with heap:=a.heap.push {cls:=.type T,data:=.seq us.toArray}}
theorem pw {z:Z}{s:St}{x:X}{T:String}{us:List Value}{v:V}(a:At cx z s x) (hz:us.length<=16777216) (r:RV z.c.w x.ρ ((x.h.objs.size,({cls:=.type T,data:=.seq us.toArray}:Obj))::x.imm) (.ref x.h.objs.size) v):aN cx z (aZ z) x (.ok v s) (oz T us):=λQ E q=>
 ⟨bQ hz,q _ (x.gr (x.h.push {cls:=.type T,data:=.seq us.toArray}) x.S.toks [(x.h.objs.size,{cls:=.type T,data:=.seq us.toArray})]) (a.kp (aM _ _) (λp b=>by rw[Kg.mp b];exact ⟨Kq _ rfl,bF _⟩) r)⟩
noncomputable def IS (r:Sr k) (es:List Kb) (pos:Pos):Ev k cx (.List es pos):=⟨λs=>if aO es=Vn then (bM (r.ev cx) es s).bind G0 else .bad,λ{z s x} o a=>
 aN.ite λb=>((eP (r.ev cx) o a).bind (K:=λus=>oz "list" us) λvs s us y n=>.opt λv h=>aV h λd h e=>aA h λds c h=>bD h λhz h=>by
  have rs:=kj n.r c;have b:=rs.length;obtain rfl:=J9 h;exact e▸pw n.at_ (by walk_at "n") (RD.lst (.head _) (by walk_at "n") (mD rs))).of λ_ _ h=>Tt (ei b h)⟩
theorem Ce {z:Z}{s:St}{x:X}{us:List Value}{vs:List V}{v:V}(a:At cx z s x) (r:dJ z x us vs) (h:DK vs=Vl v):aN cx z (aZ z) x (.ok v s) (oz "tuple" us):=by
 cases vs with
 | nil=>exact au h
 | cons m vs=>cases vs with
  | nil=>exact au h
  | cons k vs=>cases vs with
   | cons=>exact au h
   | nil=>
    refine aA h λl c h=>aV h λd i e=>?_;obtain rfl:=kE c;obtain rfl:=tL i;subst e;obtain ⟨j,g,rfl,⟨p,rfl,hp⟩,r2⟩:=r.view;obtain ⟨f,b,rfl,rd,r3⟩:=r2.view;refine rp (show b=[] from r3.view) ?_;exact pw a (Kv rfl) (y4 _ p f 0 (w4 rfl (.head _) hp (RD.mono (λ_ h=>.tail _ h) rd)))
theorem EA {z:Z}{s:St}{x:X}{us:List Value}{vs:List V}{v:V}(a:At cx z s x) (r:dJ z x us vs) (h:xU vs=Vl v):aN cx z (aZ z) x (.ok v s) (oz "tuple" us):=cL h (λh=>aA h λe c h=>bD h λf h=>by
  have b:=kj r c;have d:=b.length;refine rq (J9 h) ?_;exact pw a (by lia) (RD.tup (.head _) (by lia) (mD b))) λh=>Ce a r h
noncomputable def Iu (r:Sr k) (es:List Kb) (n:Nat) (pos:Pos):Ev k cx (.Tuple es n pos):=⟨λs=>if aO es=Vn then (bM (r.ev cx) es s).bind λvs s=>cP (xU vs) s else .bad,λ{z s x} o a=>
 aN.ite λb=>((eP (r.ev cx) o a).bind (K:=λus=>oz "tuple" us) λvs s us y n=>.opt λv h=>EA n.at_ n.r h).of λ_ _ h=>wpAny_Tuple_spliced (ei b h)⟩
end
end
section
namespace NX
theorem ga_li:Slot "list_iterator" "__getattribute__" "object.__getattribute__":=.of (owner:="object") (n:="__getattribute__") (by rw[MW,L9];kernel_rfl) (by decide +kernel) (by decide +kernel) (by decide +kernel) (by first | exact .inl (by decide +kernel) | exact .inr (by decide +kernel)) (by rw[MP];kernel_rfl)
theorem lk_next:Oe (.type "list_iterator") "__next__" = pure (Vl (.builtin "list_iterator.__next__")):=by rw[MW,L9];kernel_rfl
theorem ty_next:typeOf (.builtin "list_iterator.__next__")=pure (.type "wrapper_descriptor"):=rfl
theorem sl_get:Slot "wrapper_descriptor" "__get__" "wrapper_descriptor.__get__":=.of (owner:="wrapper_descriptor") (n:="__get__") (by rw[MW,L9];kernel_rfl) (by decide +kernel) (by decide +kernel) (by decide +kernel) (by first | exact .inl (by decide +kernel) | exact .inr (by decide +kernel)) (by rw[MP];kernel_rfl)
theorem en_get:Rp Us "wrapper_descriptor.__get__" = Vl Md.«wrapper_descriptor.__get__»:=T5 rfl
theorem ar_get (a b c:Value):PN "wrapper_descriptor.__get__" ⟨[a,b,c],[]⟩:=by unfold PN;kernel_rfl
theorem owner:(".".intercalate ("list_iterator.__next__".cutAt '.').dropLast) = "list_iterator":=by
 have a : "list_iterator.__next__".cutAt '.'=["list_iterator","__next__"]:=by first | rfl | decide +kernel
 rw[a];decide +kernel
theorem sub:T4 (.type "list_iterator") (.type (".".intercalate ("list_iterator.__next__".cutAt '.').dropLast))=pure true:=by rw[owner,MP];kernel_rfl
theorem en_ga:Rp Us "object.__getattribute__" = Vl Md.«object.__getattribute__»:=T5 rfl
theorem ar_ga (a b:Value):PN "object.__getattribute__" ⟨[a,b],[]⟩:=by unfold PN;kernel_rfl
theorem no_set:Oe (.type "wrapper_descriptor") "__set__" = pure none:=by rw[MW,L9];kernel_rfl
theorem no_del:Oe (.type "wrapper_descriptor") "__delete__" = pure none:=by rw[MW,L9];kernel_rfl
end NX
section
variable {w:Ld}{A:Lc}{E:Value->Kh->Prop}{h:Heap}{g:Array GenState}{d:S4}{t:Nat}{os:OsState}{a l:Addr}{i:Nat}
theorem E4 {R:OJ->Kh->Prop}(c:h.get? a=Vl (zy l i)) (e:R (.ok (.ret (.ref h.objs.size))) ⟨h.push (sZ a),g,d,t,os⟩):Mu (Kn PR w) A (.call (.builtin "wrapper_descriptor.__get__") ⟨[.builtin "list_iterator.__next__",.ref a,.type "list_iterator"],[]⟩) R ⟨h,g,d,t,os⟩:=by
 have j:(⟨h,g,d,t,os⟩:Kh).TypeIs (.ref a) "list_iterator":=⟨_,c,rfl⟩
 have b:(⟨h,g,d,t,os⟩:Kh).TypeIs (.builtin "list_iterator.__next__") "wrapper_descriptor":=NX.ty_next;refine Nv NX.sl_get.plain NX.en_get (NX.sl_get.check _ _ _ _ _ _ _ _ b (NX.ar_get _ _ _) ?_);have f:=NX.sub
 repeat (any_goals (first | assumption | wp_step))
theorem yN {tk:PP}{Q:Fin->Kh->Prop}(b:h.get? a=Vl (zy l i)) (j:Q (.done (.ret (.ref h.objs.size))) ⟨h.push (sZ a),g,d,t,os⟩):Km (Kn PR w) A (Md.«object.__getattribute__» ⟨[.ref a,.str "__next__" tk],[]⟩) Q E ⟨h,g,d,t,os⟩:=by
 have k:(⟨h,g,d,t,os⟩:Kh).TypeIs (.ref a) "list_iterator":=⟨_,b,rfl⟩
 have c:(⟨h,g,d,t,os⟩:Kh).TypeIs (.builtin "list_iterator.__next__") "wrapper_descriptor":=NX.ty_next;have f:=NX.lk_next;have m:=NX.ty_next;have o:=NX.sl_get.lookup;have e:=NX.no_set;have n:=NX.no_del
 repeat (any_goals (first | assumption | wp_step))
 refine E4 b ?_
 repeat (any_goals (first | assumption | wp_step))
theorem wl {tk:PP}{R:OJ->Kh->Prop}(b:h.get? a=Vl (zy l i)) (c:R (.ok (.ret (.ref h.objs.size))) ⟨h.push (sZ a),g,d,t,os⟩):Mu (Kn PR w) A (.call (.builtin "object.__getattribute__") ⟨[.ref a,.str "__next__" tk],[]⟩) R ⟨h,g,d,t,os⟩:=Nv NX.ga_li.plain NX.en_ga (NX.ga_li.check _ _ _ _ _ _ _ _ (show (⟨h,g,d,t,os⟩:Kh).TypeIs (.ref a) "list_iterator" from ⟨_,b,rfl⟩) (NX.ar_ga _ _) (yN b c))
theorem GP {tk:PP}{fill expr:Bool}{Q:Value->Kh->Prop}(b:h.get? a=Vl (zy l i)) (f:Q (.ref h.objs.size) ⟨h.push (sZ a),g,d,t,os⟩):Km (Kn PR w) A (getAttrBy (.ref a) (.str "__next__" tk) fill expr) Q E ⟨h,g,d,t,os⟩:=by
 have k:(⟨h,g,d,t,os⟩:Kh).TypeIs (.ref a) "list_iterator":=⟨_,b,rfl⟩
 have e:=NX.ga_li.lookup;have j:=NX.ga_li.bind (.ref a);have c:(expr&&onTheHeap (Value.builtin "object.__getattribute__"))=false:=by cases expr<;>rfl
 repeat (any_goals (first | assumption | wp_step))
 refine wl b ?_
 repeat (any_goals (first | assumption | wp_step))
theorem Cj {expr:Bool}{Q:Value->Kh->Prop}{S:Kh}(b:S.heap.get? a=Vl (zy l i)) (c:Q (.ref S.heap.objs.size) {S with heap:=S.heap.push (sZ a),toks:=S.toks+1}):Km (Kn PR w) A (NY (.ref a) (sn "__next__") expr) Q E S:=by
 obtain ⟨h,g,d,t,os⟩:=S;unfold NY
 repeat (any_goals (first | assumption | with_reducible apply GP b | wp_step))
end
end
section
local macro_rules (kind:=tacticKernel_rfl)|s=>Mine.Internal.mK s
section
set_option linter.all false
section
variable {w:Ld}{A:Lc}{c:Cn}{cx:Cx}{z:Z}{s:St}{x y:X}{st:List SObj}{b:Value}{v u:V}{k:Nat}
noncomputable def jn (p:Option V×Option V×Option V) (m:Str):Option V:=if m=sn "successors" then p.1 else if m=sn "npredecessors" then p.2.1 else if m=sn "node" then p.2.2 else Vm
noncomputable def iZ:List Str:=[sn "_node2info",sn "_ready_nodes",sn "_npassedout",sn "_nfinished"]
noncomputable def Ae (d:D):Bool:=optE d.bi? (optE d.gbl? Vo λa=>a==cycleC) λb=>b.eq .valueError
noncomputable def cG (st:List SObj) (v:V) (m:Str):Option V:=v.loc?.bind λl=>(st[l]?).bind λo=>(o.inst?.bind λa=>if iZ.contains m=Vn then get m a else Vm).or ((o.node?.bind λp=>jn p m).or ((o.exc?.bind λp=>if m=sn "args"/\Ae p.1=Vn then Vl (.d (.tup p.2)) else Vm).or (o.iter?.bind λ_=>if m=sn "__next__" then Vl (.nxt l) else Vm)))
theorem fy (P:LB) (n:Str):UC (KK P) bJ n=true:=rfl
theorem gZ (P:LB):Ub (KK P) bJ=true:=rfl
theorem pc (P:LB):iZ.all (λn=>O0 (KK P) (.ref bJ) n==Vl Vm)=true:=rfl
theorem qq (P:LB){n:Str}(h:iZ.contains n=Vn):O0 (KK P) (.ref bJ) n=Vl none:=beq_iff_eq.mp (KP.mp (pc P) n (KO.mp h))
theorem qA (P:LB) (n:Str):UC (KK P) eu n=true:=rfl
noncomputable def slotsN:List (Str×Nat×Nat):=[(sn "successors",43,2),(sn "npredecessors",42,1),(sn "node",41,0)]
theorem mf (P:LB):∀p∈slotsN,findObj (KK P) eu (Vl emptyDict) p.1=Vl (.bind (.builtin "member_descriptor.__get__") (.ref p.2.1))/\slotIn (KK P) p.2.1 eu=Vl p.2.2/\TU (KK P) eu p.1=Vl (Vl (.ref p.2.1))/\UB (KK P) (.ref p.2.1)=Vl (.type "member_descriptor"):=KZ.mpr ⟨w4 rfl rfl rfl rfl,KZ.mpr ⟨w4 rfl rfl rfl rfl,KZ.mpr ⟨w4 rfl rfl rfl rfl,λ_ h=>nomatch h⟩⟩⟩
theorem wp {p:Option V×Option V×Option V}{m:Str}(h:jn p m=Vl v):∃d i o,(m,d,i)∈slotsN/\o=Vl v/\((i=2/\o=p.1)\/(i=1/\o=p.2.1)\/(i=0/\o=p.2.2)):=by
 unfold jn at h;by_cases b:m=sn "successors"
 ·subst b;exact y3 43 2 _ (w3 (.head _) ((if_pos rfl).symm.trans h) (.inl ⟨rfl,rfl⟩))
 ·replace h:=(if_neg b).symm.trans h;by_cases a:m=sn "npredecessors"
  ·subst a;exact y3 42 1 _ (w3 (.tail _ (.head _)) ((if_pos rfl).symm.trans h) (.inr (.inl ⟨rfl,rfl⟩)))
  ·exact bD ((if_neg a).symm.trans h) λc h=>y3 41 0 _ (w3 (c▸.tail _ (.tail _ (.head _))) h (.inr (.inr ⟨rfl,rfl⟩)))
theorem Thing.inst {l:Nat}{a:Addr}{ft:List (Addr×Obj)}{b:List (Str×V)}(t:Thing c st x l a ft (.inst b)) (H:HI c st x):∃d es n,ft=[(a,jE d),(d,NN es n)]/\Bt c.w x.ρ x.imm es b/\es.length<=b.length/\InstAt x.h a (jE d) bJ (Vl (NN es n)):=by
 obtain ⟨d,es,n,rfl,z1,z2⟩:=t.foot;exact y3 d es n (w4 rfl z1 z2 ⟨H.ledIn _ (aD t.led (.head _)),rfl,rfl,H.ledIn (d,NN es n) (aD t.led (.tail _ (.head _)))⟩)
theorem Thing.node {l:Nat}{a:Addr}{ft:List (Addr×Obj)}{p q r:Option V}(t:Thing c st x l a ft (.node p q r)) (H:HI c st x):∃d b,InstAt x.h a (qB d b) eu (Vl emptyDict)/\(ft=[(a,qB d b)]/\(d,emptyDict)∈x.imm/\b.size<=3)/\xA c.w x.ρ x.imm b 2 p/\xA c.w x.ρ x.imm b 1 q/\xA c.w x.ρ x.imm b 0 r:=by
 obtain ⟨d,b,rfl,m,z,z1,z2,z3⟩:=t.foot;exact y2 d b (w5 ⟨H.ledIn _ (aD t.led (.head _)),rfl,rfl,H.immIn _ m⟩ (w3 rfl m z) z1 z2 z3)
noncomputable abbrev cycO:Obj:=excClassObj (sn "CycleError") (sn "CycleError") 55 54 [.type "ValueError"] [.type "ValueError",.type "Exception",.type "BaseException",.type "object"] Vn [] [] Vo Vm Vm (Vl (.ref 46)) Vm (Vl (.str (sn "CycleError") 239)) (Vl (.str (sn "CycleError") 247)) (Vl (.bool Vn)) "ValueError.__new__"
theorem AK (P:LB):(KK P).lookup 55=Vl cycO:=rfl
theorem AI (P:LB):nsOkIn (KK P) 54=Vn/\Tw (KK P) 54 "__init__" = Vl none:=⟨by kernel_rfl,by kernel_rfl⟩
theorem Dr {l:Nat}{a:Addr}{ft:List (Addr×Obj)}{args:List D}{expr:Bool}(H:HI c st x) (t:Thing c st x l a ft (.exc (.bi .valueError) args)):xB c.w A x (NY (.ref a) (sn "args") expr) (.d (.tup args)):=by
 refine aC λg b=>?_;obtain ⟨o,f,p,h,n,rfl,hc,hd,h0,hm,hz,rs⟩:=t.foot;refine b ?_;have e:=H.ledIn _ (aD t.led (.head _));exact .tok (RD.tup hm hz rs) λQ E q=>args_attr F.excAttr_ValueError e hc hd h0 q
theorem xd (P:LB):quietNames.all (λn=>Tw (KK P) 54 n==Vl Vm)=true:=rfl
theorem Ds {l:Nat}{a:Addr}{ft:List (Addr×Obj)}{args:List D}{expr:Bool}(B:Bs c) (H:HI c st x) (t:Thing c st x l a ft (.exc (.gbl cycleC) args)):xB c.w A x (NY (.ref a) (sn "args") expr) (.d (.tup args)):=by
 refine aC λi b=>?_;obtain ⟨o,h,p,j,n,rfl,hc,hd,h0,hm,hz,rs⟩:=t.foot;have f:=H.ledIn _ (aD t.led (.head _));obtain ⟨e,_⟩:=AI c.w.params;refine b ?_;exact .tok (RD.tup hm hz rs) λQ E q=>args_attr_own (B:="ValueError") F.attrBase_ValueError (B.kin H.base _ _ (AK _)) ((Sd (isNs_of_in B.k e)).keeps H.base) (λn g=>T9 B.k e (beq_iff_eq.mp (KP.mp (xd c.w.params) n g))) .base f hc hd h0 q
theorem Ad {l:Nat}{a:Addr}{ft:List (Addr×Obj)}{kc:D}{args:List D}{expr:Bool}(B:Bs c) (H:HI c st x) (t:Thing c st x l a ft (.exc kc args)) (h:Ae kc=Vn):xB c.w A x (NY (.ref a) (sn "args") expr) (.d (.tup args)):=by
 unfold Ae at h;cases e:kc.bi? with
 | some b=>
  rw[e] at h;obtain rfl:b=.valueError:=by cases b<;>first | rfl | cases h
  exact Dr H (kh e▸t)
 | none=>cases f:kc.gbl? with
  | none=>rw[e,f] at h;cases h
  | some g=>
   rw[e,f] at h;obtain rfl:g=cycleC:=eq_of_beq h;exact Ds B H (mG f▸t)
theorem wE {l m i:Nat}{a:Addr}{ft:List (Addr×Obj)}{expr:Bool}(H:HI c st x) (t:Thing c st x l a ft (.iter m i)):xB c.w A x (NY (.ref a) (sn "__next__") expr) (.nxt l):=by
 refine aC λe d=>?_;obtain ⟨b,rfl,hb⟩:=t.foot;refine d ?_;exact .push (o:=sZ a) (tk:=x.S.toks+1) rfl (y2 _ a (w3 rfl (.head _) t.rho)) λQ E q=>Cj (H.ledIn _ (aD t.led (.head _))) q
theorem xo {l:Nat}{a:Addr}{ft:List (Addr×Obj)}{b:List (Str×V)}{m:Str}{expr:Bool}(B:Bs c) (H:HI c st x) (i:Thing c st x l a ft (.inst b)) (k:iZ.contains m=Vn) (j:get m b=Vl u):xB c.w A x (NY (.ref a) m expr) u:=by
 refine aC λp e=>?_;obtain ⟨d,r,n,_,h,_,I⟩:=i.inst H;have:=h.2 m;rw[j] at this;obtain ⟨val,g,f,o⟩:=this;refine e ?_;exact .tok o λQ E q=>get_value (B.kin H.base) I (Nb (fy c.w.params m)).1 (Vh (gZ _) (qq _ k) rfl g) f q
theorem xn {l:Nat}{a:Addr}{ft:List (Addr×Obj)}{p:Option V×Option V×Option V}{m:Str}{expr:Bool}(B:Bs c) (H:HI c st x) (t:Thing c st x l a ft (.node p.1 p.2.1 p.2.2)) (v:jn p m=Vl u):xB c.w A x (NY (.ref a) m expr) u:=by
 have X:=B.kin H.base;refine aC λz b=>?_;obtain ⟨d,j,I,J,r,z2,z3⟩:=t.node H;obtain ⟨G,i,o,f,rfl,ho⟩:=wp v;obtain ⟨n,e,F,C⟩:=mf c.w.params _ f;obtain ⟨val,k,g,y⟩:∃val,(j[i]?).join=Vl val/\Qz val=Vn/\RV c.w x.ρ x.imm val u:=ho.elim (λh=>h.1▸r u h.2.symm) λh=>h.elim (λh=>h.1▸z2 u h.2.symm) λh=>h.1▸z3 u h.2.symm;refine b ?_;exact .tok y λQ E q=>get_bind X I (Nb (qA c.w.params m)).1 n (Nb (qA c.w.params m)).2 (Od (slot_get (s:={x.S with toks:=x.S.toks+1}) X I e k (handed_on g q)))
theorem vF {m:Str}{expr:Bool}(B:Bs c) (H:HI c st x) (i:RV c.w x.ρ x.imm b v) (h0:cG st v m=Vl u):xB c.w A x (NY b m expr) u:=H.onL (P:=λb=>xB c.w A x (NY b m expr) u) i h0 λ_ t h=>cL h (λh=>aA h λf a h=>bD h λg d=>xo B H (pE a▸t) g d) λh=>cL h (λh=>aA h λp a d=>xn B H (uN a▸t) d) λh=>cL h (λh=>aA h λp a h=>bD h λe d=>J9 d▸e.1▸Ad B H (Ac a▸t) e.2) λh=>aA h λp a h=>bD h λe d=>J9 d▸e▸wE H (uY a▸t)
theorem aN.store {β α:Type}{RB:X->β->α->Prop}{r:β}{q:α}{n:Str}{v:V}{val:Value}(a:At cx z s x) (hn:bC (cx.names.lookup n)=Vn) (d:aZ z x val v) (h:∀y,Nx cx z x ⟨aY n v s.fr,s.st⟩ y (Gg x y)->RB y r q):aN cx z RB x (.ok q ⟨aY n v s.fr,s.st⟩) (λQ E b=>Km (Kn PR z.c.w) z.A (Og z.env n val) (λ_=>Q r) E b):=λQ E f=>gY a hn d λy m=>f r y ⟨m.at_,m.adv,h y m⟩
noncomputable def hF (e:Kb):Bool:=match e with
 | .Call (.Name _ _) [] [] _=>Vo
 | _=>Vn
theorem vE {env:Env}{o:Kb}{m:Str}{w:OW Value}(h:hF o=Vn):RP o m env w=w:=by
 cases o with
 | Call f b a p=>cases f with
  | Name n q=>cases b with
   | nil=>cases a with
    | nil=>cases h
    | cons=>rfl
   | cons=>rfl
  | _=>rfl
 | _=>rfl
end
variable {k:Nat}{cx:Cx}
noncomputable def HP (r:Sr k) (e:Kb) (m:Str) (pos:Pos):Ev k cx (.Attribute e m pos):=⟨λs=>if hF e=Vn then ((ek r cx e).f s).bind λv s=>cP (cG s.st v m) s else .bad,λ{z s x} o a=>aN.ite λg=>
 (((ek r cx e).ok o a).bind λv s l y n=>.opt λu h=>(vF (expr:=Vn) o.B n.at_.H n.r h).refV n.at_).of λQ E h=>by
  show Km (Kn PR z.c.w) z.A (do
   let o' <- RP e m z.env (MQ e z.env)
   UY pos.atName
   let r <- Qw [o'] (NY o' m Vn)
   Ro e o' r
   pure r) Q E x.S
  rw[vE g];exact Kc (KN h (λv j b=>Kc (Mi (Kc (Lm (KN b (λr i d=>Kc (ST (Ko d))) λ_ _ e=>e))))) λ_ _ e=>e)⟩
noncomputable def C2 (r:Sr k) (cx:Cx) (e:Option Kb) (s:St):Res (Option D):=optE e (.ok Vm s) λe=>((r.ev cx e).f s).bind λv s=>cP (v.d?.map Vl) s
theorem tz {z:Z}{s:St}{x:X}(r:Sr k) (e:Option Kb) (o:Ok k cx z) (a:At cx z s x):aN cx z (λy b d=>RO z.c.w y.imm b d) x (C2 r cx e s) (tr z (Op (Qx e z.env))):=by
 cases e with
 | none=>exact .pure a rfl λ_ _ q=>Ko q
 | some e=>exact (((r.ev cx e).ok o a).bind (K:=λb Q _ f=>Q b f) λv s b y n=>.opt λd h=>aV h λd h e=>e▸.done n.at_ (RV.onD n.r h)).of λ_ _ h=>h
theorem tx {env:Env}(a b t:Option Kb) (p:Pos):MQ (.Slice a b t p) env=(do
  let l <- Op (Qx a env);let u <- Qw [l] (Op (Qx b env));let s <- Qw [l,u] (Op (Qx t env))
  Pa "slice" [l,u,s]):=rfl
theorem RO.up {c:Cn}{own:List Addr}{x y:X}{b:Value}{o:Option D}(h:RO c.w x.imm b o) (p:Adv c own x y):RO c.w y.imm b o:=h.mono p.imm
noncomputable def EJ (r:Sr k) (e:Kb) (a b t:Option Kb) (p pos:Pos):Ev k cx (.Subscript e (.Slice a b t p) pos):=⟨λs=>((ek r cx e).f s).bind λv s=>(C2 r cx a s).bind λa s=>(C2 r cx b s).bind λb s=>(C2 r cx t s).bind λc s=>okD (fN s.st v a b c) s,λ{z s x} o m=>
 (((ek r cx e).ok o m).bind (K:=λo Q E I=>Km (Kn PR z.c.w) z.A (Op (Qx a z.env)) (λl G=>Km (Kn PR z.c.w) z.A (Op (Qx b z.env)) (λu F=>Km (Kn PR z.c.w) z.A (Op (Qx t z.env)) (λw J=>Km (Kn PR z.c.w) z.A (Pa "slice" [l,u,w]) (λi R=>Km (Kn PR z.c.w) z.A (Lv e (.Slice a b t p) o i) Q E R) E J) E F) E G) E I) λv s U y n=>(tz r a o n.at_).bind λl s Y y2 C=>(tz r b o C.at_).bind λu s T y3 j=>(tz r t o j.at_).bind λt s S y4 g=>
   .opt λv L=>aV L λd h e=>e▸λQ E q=>yj g.at_.H (((n.r.up C.adv).up j.adv).up g.adv) ((C.r.up j.adv).up g.adv) (j.r.up g.adv) g.r h Q E λb h' tk ex k e r=>q b (y4.gr h' tk ex) (g.at_.kp k e r)).of λQ E h=>Tz (KN h (λo I O=>by
 rw[tx];exact Kc (KN O (λl G M=>Kc (Lm (KN M (λu F P=>Kc (Lm (KN P (λw J N=>N) λ_ _ e=>e))) λ_ _ e=>e))) λ_ _ e=>e)) λ_ _ e=>e)⟩
noncomputable def bE (v u:V) (st:List SObj):Option V:=u.d?.bind λd=>d.int?.bind λi=>zD st v i
noncomputable def zF (r:Sr k) (e i:Kb) (pos:Pos):Ev k cx (.Subscript e i pos):=⟨λs=>((ek r cx e).f s).bind λv s=>((r.ev cx i).f s).bind λu s=>cP (bE v u s.st) s,λ{z s x} o a=>
 (((ek r cx e).ok o a).bind λv s p y n=>((r.ev cx i).ok o n.at_).bind λu s b w m=>.opt λq h=>aA h λd g h=>aA h λj l h=>
  (RD.onInt (P:=λb=>xB z.c.w z.A w (Lv e i p b) q) (RV.onD m.r g) l λt=>zC m.at_.H o.B (n.r.up m.adv) h).refV m.at_).of λ_ _ h=>Tz h⟩
noncomputable def BJ (r:Sr k) (n:Str) (p:Pos) (e:Kb) (pos:Pos):Ev k cx (.NamedExpr (.Name n p) e pos):=⟨λs=>if cx.comp=Vo/\bC (cx.names.lookup n)=Vn then ((r.ev cx e).f s).bind λv s=>.ok v ⟨aY n v s.fr,s.st⟩ else .bad,λ{z s x} o a=>aN.ite λg=>
 (((r.ev cx e).ok o a).bind (K:=λv Q E b=>Km (Kn PR z.c.w) z.A (Og z.env n v) (λ_=>Q v) E b) λv s j y m=>.store m.at_ g.2 m.r λw t=>m.r.up t.adv).of λ_ _ h=>wpAny_NamedExpr (KN h (λv i d=>by rw[Rd];exact Kc (Mi (Rm d))) λ_ _ e=>e)⟩
noncomputable def G7 (t:Str) (n:Nat) (p pos:Pos):Ev k cx (.JoinedStr [.Constant (.str t) n p] pos):=⟨λs=>if t.cps.size<=1000 then .ok (.d (.str t)) s else .bad,λ_ a=>aN.ite λh=>Lf.refD (.tok (RD.str _ _ (by walk_at "n")) λ_ _ q=>wpAny_JoinedStr_one (RW q)) a⟩
end
section
set_option linter.all false
section
variable {w:Ld}{A:Lc}{c:Cn}{cx:Cx}{z:Z}{s:St}{x y:X}{st:List SObj}{b val:Value}{v u:V}{k:Nat}{ρ:List Addr}{imm:Imm}
theorem GQ {h:Heap}{a:Addr}{m m':Str->Option Value}(p:h.Ns a m) (q:h.Ns a m'):m=m':=by
 obtain ⟨o,l,k,c,g,_,e⟩:=p;obtain ⟨r,j,i,d,b,_,f⟩:=q;obtain rfl:=J9 (c.symm.trans d);rw[g] at b;cases b;exact funext λn=>(e n).symm.trans (f n)
noncomputable def allBut (h:Heap) (L d:Addr):Imm:=(Ky h.objs.size).filterMap λa=>if a=L\/a=d then Vm else (h.get? a).map λo=>(a,o)
theorem jo {h:Heap}{L d a:Addr}{o:Obj}:(a,o)∈allBut h L d<->¬(a=L\/a=d)/\h.get? a=Vl o:=by
 unfold allBut;rw[List.mem_filterMap];constructor
 ·rintro ⟨b,_,e⟩
  by_cases q:b=L\/b=d
  ·rw[if_pos q] at e;cases e
  ·rw[if_neg q] at e;obtain ⟨g,f,c⟩:=KV.mp e;cases c;exact ⟨q,f⟩
 ·exact λ⟨n,e⟩=>⟨a,Lw.mpr (Lz e),by rw[if_neg n,e];rfl⟩
theorem lz (a:Addr):mi.get? a=none:=rfl
theorem At.frm (a:At cx z s x):∃m,Fr mi z.env.locals x.h m:=a.F.ns.imp λm h=>⟨h.1,(λb o e=>au ((lz b).symm.trans e)),LA _⟩
theorem vB {h:Heap}{L d:Addr}{o:Obj}(b:h.get? d=Vl o) (hn:d≠L):News mi L h ([]++(d,o)::allBut h L d):=λp a=>by
 rcases Kt.mp a with rfl | a
 ·exact w3 b hn (lz _)
 ·have:=jo.mp (show (p.1,p.2)∈allBut h L d from a);exact w3 this.2 (λe=>this.1 (.inl e)) (lz _)
theorem AX {h:Heap}{L d:Addr}:∀p∈allBut h L d,p.1≠d:=λp a e=>(jo.mp (show (p.1,p.2)∈allBut h L d from a)).1 (.inr e)
theorem At.upF (f:At cx z s x){m:Str->Option Value}{l:Nat}{a d:Addr}{g:Obj}{ft ft':List (Addr×Obj)}{so:SObj}{h':Heap}{tk:Nat}{r:Prop}(A:Fr mi z.env.locals x.h m) (t:x.led[l]?=Vl ft) (G:x.ρ[l]?=Vl a) (I:ft'.map (·.1)=ft.map (·.1)) (y:d∈ft.map (·.1)) (u:∀p∈ft',p=(d,g)\/(p∈ft/\p.1≠d)) (E:Fr mi z.env.locals h' m) (v:News mi z.env.locals h' ([]++(d,g)::allBut x.h z.env.locals d)) (C:eY z.c.w x.ρ x.imm a so ft') (K:r):Nx cx z x ⟨s.fr,s.st.set l so⟩ (x.up l ft' h' tk) r:=by
 have k:∀b o,x.h.get? b=Vl o->b=z.env.locals\/b=d\/h'.get? b=Vl o:=λb o e=>if n:b=z.env.locals\/b=d then n.imp id .inl else .inr (.inr (v (b,o) (.tail _ (jo.mpr ⟨n,e⟩))).1)
 have J:∀p∈ft,p.1≠z.env.locals:=λp i e=>(f.F.ownI _ f.F.loc).1 (e▸HI.mem t i);exact f.up t G I (λp i=>(u p i).elim (λe=>e▸(v (d,g) (.head _)).1) λq=>(k _ _ (f.H.ledIn p (aD t q.1))).elim (λe=>absurd e (J p q.1)) λe=>e.elim (λe=>absurd e q.2) id) (λb o e=>(k b o e).elim (λq=>.inr (.inl q)) λq=>q.elim (λq=>.inl (q▸y)) λq=>.inr (.inr q)) (λL j=>GQ A.ns j▸E.ns) C K
theorem aN.upd {α β:Type}{RB:X->β->α->Prop}{d:α}{l:Nat}{a:Addr}{o:Obj}{so:SObj}{P:eZ β}(f:At cx z s x) (i:x.led[l]?=Vl [(a,o)]) (v:x.ρ[l]?=Vl a) (h:∀(Q:β->Kh->Prop) (E:Value->Kh->Prop),(∀h' tk g b,MS a x.h h'->h'.get? a=Vl g->eY z.c.w x.ρ x.imm a so [(a,g)]->(∀y:X,y.ρ=x.ρ->y.imm=x.imm->RB y b d)->Q b {x.S with heap:=h',toks:=tk})->P Q E x.S):aN cx z RB x (.ok d ⟨s.fr,s.st.set l so⟩) P:=λQ E q=>h Q E λh' tk g b hs t r A=>by
 have u:a≠z.env.locals:=λe=>(f.F.ownI _ f.F.loc).1 (e▸HI.mem i (.head _));exact q b (x.up l [(a,g)] h' tk) (f.up i v rfl (λp j=>by rw[Kg.mp j];exact t) (λb o e=>if n:b=a then .inl (n▸.head _) else .inr (.inr ((hs.2 b n).trans e))) (λm k=>k.sameBut hs u.symm) r (A _ rfl rfl))
theorem qx {m:Str}{hh:Int}{t:PP}{v:Value}:∀{es:List Oi},es.any (·.refKey)=Vo->(RT m hh (.str m t) v es).any (·.refKey)=false:=@lr _ _ (@λ_=>rfl) (λe r a=>(@λh=>by
  have h:=N5.mp h;unfold RT;split
  ·exact N5.mpr ⟨h.1,h.2⟩
  ·exact N5.mpr ⟨h.1,a h.2⟩))
theorem oh {m a:Str}{hh:Int}{t:PP}{v:Value}:∀{es:List Oi},((RT m hh (.str m t) v es).find? (·.key.isStr a)).map (·.val)=if a=m then Vl v else (es.find? (·.key.isStr a)).map (·.val)
 | []=>by
  by_cases h:a=m
  ·subst h;simp[RT,TY]
  ·simp[RT,TY,h,LQ h]
 | e::r=>by
  unfold RT;by_cases b:e.key.isStr m=Vn
  ·rw[if_pos b];by_cases h:a=m
   ·subst h;simp[b]
   ·have:e.key.isStr a=false:=isStr_other h e b;simp[h,this]
  ·rw[if_neg b];rw[Qc] at b;have f:=@oh m a hh t v r;by_cases c:e.key.isStr a=Vn
   ·have d:a≠m:=λq=>by rw[q,b] at c;cases c
    simp[c,d]
   ·rw[Qc] at c;simp only[MR,c];exact f
theorem lE {m:Str}{es:List Oi}(h:es.any (·.refKey)=Vo):UF m es=Vl ((es.find? (·.key.isStr m)).map (·.val)):=by
 unfold UF;cases e:es.find? (·.key.isStr m) with
 | none=>simp[h]
 | some d=>rfl
theorem ht {m:Str}{hh:Int}{a v:Value}:∀{es:List Oi},(RT m hh a v es).length<=es.length+1/\((es.find? (·.key.isStr m)).isSome=Vn->(RT m hh a v es).length=es.length)
 | []=>⟨KH _,nofun⟩
 | e::r=>by
  unfold RT;by_cases q:e.key.isStr m=Vn
  ·rw[if_pos q];exact ⟨MU _,λ_=>rfl⟩
  ·rw[if_neg q];have b:=@ht m hh a v r;exact ⟨Nq b.1,λh=>congrArg Nl (b.2 (by rwa [List.find?_cons_of_neg (p:=λx:Oi=>x.key.isStr m) q] at h))⟩
theorem sP {m:Str}{v:V}:∀{a:List (Str×V)},(aY m v a).length=if (get m a).isSome=Vn then a.length else a.length+1:=@lr _ _ (rfl) (λp r b=>by
  rw[DJ,vh];by_cases e:p.1=m
  ·rw[if_pos e,if_pos e];rfl
  ·rw[if_neg e,if_neg e,Ls,Ls,b];split<;>rfl)
theorem Bt.put {es:List Oi}{a:List (Str×V)}(h:Bt w ρ imm es a) (c:es.length<=a.length){m:Str}{hh:Int}{t:PP}{val:Value}{v:V}(g:Qz val=Vn) (i:RV w ρ imm val v):Bt w ρ imm (RT m hh (.str m t) val es) (aY m v a)/\(RT m hh (.str m t) val es).length<=(aY m v a).length:=by
 refine ⟨⟨qx h.1,λf=>?_⟩,?_⟩
 ·rw[cV,lE (qx h.1),oh];by_cases e:f=m
  ·rw[if_pos e,if_pos e];exact ⟨val,w3 rfl g i⟩
  ·rw[if_neg e,if_neg e];have:=h.2 f
   rwa [lE h.1] at this
 ·rw[sP];have b:=@ht m hh (.str m t) val es;cases e:get m a with
  | none=>rw[if_neg (by exact nofun)];exact Lo b.1 (Nq c)
  | some u=>
   have:=h.2 m;rw[e,lE h.1] at this;obtain ⟨w,d,_⟩:=this;rw[if_pos (show (Vl u).isSome=Vn from rfl),b.2 (by cases q:es.find? (·.key.isStr m) with | none=>rw[q] at d;cases J9 d | some _=>rfl)];exact c
noncomputable def DM (v:V):Bool:=optE v.d? Vn λd=>(d.bi?).isNone
theorem mh {val:Value}{v:V}(h:DM v=Vn) (r:RV w ρ imm val v):Qz val=true:=by
 cases v with
 | d d=>
  cases d with
  | bi=>cases h
  | non=>refine rp (show val=_ from r.view) ?_;rfl
  | bool=>refine rp (show val=_ from r.view) ?_;rfl
  | gbl=>refine rp (show val=_ from r.view) ?_;rfl
  | int=>obtain ⟨_,rfl⟩:=r.view;rfl
  | str=>obtain ⟨_,rfl,_⟩:=r.view;rfl
  | bytes=>obtain ⟨_,rfl,_⟩:=r.view;rfl
  | tup=>obtain ⟨_,_,_,rfl,_⟩:=r.view;rfl
  | lst=>obtain ⟨_,_,_,rfl,_⟩:=r.view;rfl
  | dct=>obtain ⟨_,_,_,rfl,_⟩:=r.view;rfl
  | rng=>obtain ⟨_,_,_,_,rfl,_⟩:=r.view;rfl
 | loc=>obtain ⟨_,rfl,_⟩:=r;rfl
 | nxt=>obtain ⟨_,_,rfl,_⟩:=r;rfl
 | vals=>obtain ⟨_,_,rfl,_⟩:=r;rfl
 | pair=>obtain ⟨_,_,_,_,rfl,_⟩:=r;rfl
theorem qo (P:LB):Sc (KK P) bJ=true:=rfl
theorem sv (P:LB):O0 (KK P) (.ref bJ) "__setattr__" = Vl (Vl (.builtin "object.__setattr__")):=rfl
theorem vU (P:LB):iZ.all (λn=>TU (KK P) bJ n==Vl Vm)=true:=rfl
theorem wn (P:LB):Sc (KK P) eu=true:=rfl
theorem yP (P:LB):O0 (KK P) (.ref eu) "__setattr__" = Vl (Vl (.builtin "object.__setattr__")):=rfl
noncomputable abbrev lw (a:Array (Option Value)) (i:Nat) (val:Value):Array (Option Value):=(a++Array.replicate (i+1-a.size) Vm).setIfInBounds i (Vl val)
theorem qr {a:Array (Option Value)}{i:Nat}{val:Value}(b:i<3) (hz:a.size<=3):(lw a i val).size<=3/\∀j,((lw a i val)[j]?).join=if j=i then Vl val else (a[j]?).join:=by
 refine ⟨by simp;(first | walk_at "m" | lia),λj=>?_⟩;by_cases e:j=i
 ·subst e;rw[if_pos rfl,O8 (by simp;(first | walk_at "m" | lia))];rfl
 ·rw[if_neg e,P0 (LQ e),Array.getElem?_append];split
  ·rfl
  ·rename_i h;rw[show a[j]?=Vm by simp;(first | walk_at "m" | lia)];by_cases q:j-a.size<i+1-a.size
   ·simp[q]
   ·simp[q]
theorem xA.put {a:Array (Option Value)}{i j:Nat}{val:Value}{v:V}{o:Option V}(h:xA w ρ imm a j o) (c:i<3) (hz:a.size<=3) (b:Qz val=Vn) (d:RV w ρ imm val v):xA w ρ imm (lw a i val) j (if j=i then Vl v else o):=λu e=>by
 rw[(qr c hz).2];by_cases q:j=i
 ·rw[if_pos q] at e ⊢;exact ⟨val,w3 rfl b (J9 e▸d)⟩
 ·rw[if_neg q] at e ⊢;exact h u e
noncomputable def fJ (p:Option V×Option V×Option V) (m:Str) (v:V):Option SObj:=if m=sn "successors" then Vl (.node (Vl v) p.2.1 p.2.2) else if m=sn "npredecessors" then Vl (.node p.1 (Vl v) p.2.2) else if m=sn "node" then Vl (.node p.1 p.2.1 (Vl v)) else Vm
noncomputable def pL:List Str:=[sn "value",sn "read"]
noncomputable def cN (st:List SObj) (v:V) (m:Str) (u:V):Option (List SObj):=if DM u=Vn then v.loc?.bind λl=>(st[l]?).bind λo=>(o.inst?.bind λa=>if iZ.contains m=Vn/\a.length<=800 then Vl (st.set l (.inst (aY m u a))) else Vm).or ((o.node?.bind λp=>(fJ p m u).map λo=>st.set l o).or (o.einst?.bind λa=>if pL.contains m=Vn/\a.length<=800 then Vl (st.set l (.einst (aY m u a))) else Vm)) else Vm
noncomputable def jD (fr:List (Str×V)) (o:Option (List SObj)):Res Unit:=optE o .bad λst=>.ok () ⟨fr,st⟩
theorem aN.toSt {fr:List (Str×V)}{o:Option (List SObj)}{P:eZ Unit}(h:∀st,o=Vl st->aN cx z RU x (.ok () ⟨fr,st⟩) P):aN cx z RU x (jD fr o) P:=by
 cases o with
 | none=>exact .bad
 | some st=>exact h st rfl
theorem uB {l C:Nat}{a:Addr}{ft:List (Addr×Obj)}{f:List (Str×V)}{m:Str}{so i:SObj}(B:Bs z.c) (b:At cx z s x) (t:Thing z.c s.st x l a ft so) (r:∃d es n,ft=[(a,⟨.ref C,Vl d,.plain,#[]⟩),(d,NN es n)]/\Bt z.c.w x.ρ x.imm es f/\es.length<=f.length) (y:∀d es n,Bt z.c.w x.ρ x.imm es (aY m u f)->es.length<=(aY m u f).length->eY z.c.w x.ρ x.imm a i [(a,⟨.ref C,Vl d,.plain,#[]⟩),(d,NN es n)]) (J:aZ z x val u) (O:DM u=Vn) (hz:f.length<=800) (M:O0 (KK z.c.w.params) (.ref C) "__setattr__" = Vl (Vl (.builtin "object.__setattr__"))) (R:Sc (KK z.c.w.params) C=Vn) (Y:TU (KK z.c.w.params) C m=Vl Vm) (T:Ub (KK z.c.w.params) C=Vn):aN cx z RU x (.ok () ⟨s.fr,s.st.set l i⟩) (tr z (OV (.ref a) m val)):=by
 have X:=B.kin b.H.base;refine aC λGz k=>?_;obtain ⟨P,A⟩:=b.frm;obtain ⟨dd,es,n,rfl,z1,z2⟩:=r;refine k ?_;have G:=b.H.ledIn (a,⟨.ref C,Vl dd,.plain,#[]⟩) (aD t.led (.head _));have g:x.h.get? dd=Vl (NN es n):=b.H.ledIn (dd,NN es n) (aD t.led (.tail _ (.head _)));have I:InstAt x.h a ⟨.ref C,Vl dd,.plain,#[]⟩ C (Vl (NN es n)):=⟨G,rfl,rfl,g⟩
 have o:dd≠z.env.locals:=λq=>(b.F.ownI _ b.F.loc).1 (q▸HI.mem (p:=(dd,NN es n)) t.led (.tail _ (.head _)));have v:a≠dd:=λq=>by
  have U:=congrArg QU (J9 (G.symm.trans (q▸g)));cases U
 have j:=z1.put (m:=m) (hh:=Ke z.c.w.params m) (t:=x.S.toks+1) z2 (mh O J) J;intro Q E q;refine set_plain X I M ?_;refine osa_dict (s:={x.S with toks:=x.S.toks+1}) (L:=z.env.locals) (h₀:=mi) (m:=P) (pre:=[]) (post:=allBut x.h z.env.locals dd) A (vB g o) X I rfl R Y T (by rw[Q3,lE z1.1];rfl) (λ_ h=>by cases h) AX (putName_dict _ _ _ _ _ _) rfl (Lo ht.1 (by lia)) λh' K N=>?_;exact q () _ (b.upF (tk:=x.S.toks+1+1) (ft':=[(a,⟨.ref C,Vl dd,.plain,#[]⟩),(dd,NN (RT m (Ke z.c.w.params m) (.str m (x.S.toks+1)) val es) (putN m es n))]) A t.led t.rho rfl (.tail _ (.head _)) (λp j=>(Kt.mp j).elim (λe=>.inr (by refine rp e ?_;exact ⟨.head _,v⟩)) λh=>.inl (Kg.mp h)) K N (y _ _ _ j.1 j.2) trivial)
theorem yq {l:Nat}{a:Addr}{ft:List (Addr×Obj)}{b:List (Str×V)}{m:Str}(B:Bs z.c) (e:At cx z s x) (t:Thing z.c s.st x l a ft (.inst b)) (g:aZ z x val u) (j:DM u=Vn) (k:iZ.contains m=Vn) (hz:b.length<=800):aN cx z RU x (.ok () ⟨s.fr,s.st.set l (.inst (aY m u b))⟩) (tr z (OV (.ref a) m val)):=uB (C:=bJ) B e t t.foot (λd i n h f=>y3 d i n (w3 rfl h f)) g j hz (sv _) (qo _) (beq_iff_eq.mp (KP.mp (vU z.c.w.params) m (KO.mp k))) (gZ _)
theorem C1 (P:LB):Sc (KK P) bL=true:=rfl
theorem FJ (P:LB):O0 (KK P) (.ref bL) "__setattr__" = Vl (Vl (.builtin "object.__setattr__")):=rfl
theorem Hq (P:LB):pL.all (λn=>TU (KK P) bL n==Vl Vm)=true:=rfl
theorem vm (P:LB):Ub (KK P) bL=true:=rfl
theorem EL {l:Nat}{a:Addr}{ft:List (Addr×Obj)}{b:List (Str×V)}{m:Str}(B:Bs z.c) (e:At cx z s x) (t:Thing z.c s.st x l a ft (.einst b)) (g:aZ z x val u) (j:DM u=Vn) (k:pL.contains m=Vn) (hz:b.length<=800):aN cx z RU x (.ok () ⟨s.fr,s.st.set l (.einst (aY m u b))⟩) (tr z (OV (.ref a) m val)):=uB (C:=bL) B e t t.foot (λd i n h f=>y3 d i n (w3 rfl h f)) g j hz (FJ _) (C1 _) (beq_iff_eq.mp (KP.mp (Hq z.c.w.params) m (KO.mp k))) (vm _)
theorem yn {l:Nat}{a:Addr}{ft:List (Addr×Obj)}{p:Option V×Option V×Option V}{m:Str}{so:SObj}(B:Bs z.c) (b:At cx z s x) (t:Thing z.c s.st x l a ft (.node p.1 p.2.1 p.2.2)) (g:aZ z x val u) (N:DM u=Vn) (h:fJ p m u=Vl so):aN cx z RU x (.ok () ⟨s.fr,s.st.set l so⟩) (tr z (OV (.ref a) m val)):=by
 have X:=B.kin b.H.base;refine aC λK e=>?_;obtain ⟨O,G⟩:=b.frm;obtain ⟨o,C,I,⟨rfl,m1,hz⟩,z1,z2,z3⟩:=t.node b.H;refine e ?_;have n:=b.H.ledIn (a,qB o C) (aD t.led (.head _));have A:a≠z.env.locals:=λq=>(b.F.ownI _ b.F.loc).1 (q▸HI.mem t.led (.head _));have v:=mh N g;have y:∀{d i:Nat},(m,d,i)∈slotsN->i<3->so=.node (if 2=i then Vl u else p.1) (if 1=i then Vl u else p.2.1) (if 0=i then Vl u else p.2.2)->aN cx z RU x (.ok () ⟨s.fr,s.st.set l so⟩) (tr z (OV (.ref a) m val)):=λ{d i} k f T Q E q=>by
  refine aC λK e=>?_;obtain ⟨f1,P,U,R⟩:=mf z.c.w.params _ k;refine e ?_;refine set_plain X I (yP _) (osa_descr (s:={x.S with toks:=x.S.toks+1}) KF.slot_mset X I (wn _) U R (slot_set (s:={x.S with toks:=x.S.toks+1}) (L:=z.env.locals) (h₀:=mi) (m:=O) (pre:=[]) (post:=allBut x.h z.env.locals a) G (vB n A) X I P (show i<1000 by walk_at "n") (λ_ h=>by cases h) AX rfl rfl λh' J M=>?_));exact q () _ (b.upF (tk:=x.S.toks+1) (ft':=[(a,qB o (lw C i val))]) G t.led t.rho rfl (.head _) (λp k=>.inl (Kg.mp k)) J M (T▸(y2 o _ (w6 rfl m1 ((qr f hz).1) (z1.put f hz v g) (z2.put f hz v g) (z3.put f hz v g)))) trivial)
 unfold fJ at h;by_cases r:m=sn "successors"
 ·exact y (d:=43) (i:=2) (r▸.head _) (by walk_at "n") (J9 ((if_pos r).symm.trans h)).symm
 ·replace h:=(if_neg r).symm.trans h;by_cases j:m=sn "npredecessors"
  ·exact y (d:=42) (i:=1) (j▸.tail _ (.head _)) (by walk_at "n") (J9 ((if_pos j).symm.trans h)).symm
  ·exact bD ((if_neg j).symm.trans h) λY h=>y (d:=41) (i:=0) (Y▸.tail _ (.tail _ (.head _))) (by walk_at "n") (J9 h).symm
theorem lU {m:Str}(B:Bs z.c) (a:At cx z s x) (n:aZ z x b v) (i:aZ z x val u):aN cx z RU x (jD s.fr (cN s.st v m u)) (tr z (OV b m val)):=.toSt λj h=>bD h λk h=>a.H.onL (P:=λb=>aN cx z RU x (.ok () ⟨s.fr,j⟩) (tr z (OV b m val))) n h λ_ t h=>cL h (λh=>aA h λg d h=>bD h λf l=>J9 l▸yq B a (pE d▸t) i k f.1 f.2) λh=>cL h (λh=>aA h λp d h=>aV h λo h e=>e▸yn B a (uN d▸t) i k h) λh=>aA h λg d h=>bD h λf l=>J9 l▸EL B a (rt d▸t) i k f.1 f.2
end
end
section
set_option linter.all false
section
variable {w:Ld}{A:Lc}{c:Cn}{cx:Cx}{z:Z}{s:St}{x y:X}{st:List SObj}{b val iv:Value}{v u:V}{k:Nat}{ρ:List Addr}{imm:Imm}
theorem nB {S:Kh}{E:Value->Kh->Prop}{l:Addr}{vs:List Value}{n:Nat}{k:Int}{t:PP}{v:Value}{Q:Unit->Kh->Prop}(b:S.heap.get? l=Vl (lstO vs n)) (h0:0<=k) (a:k<2 ^ 63) (f:k<vs.length) (g:∀h' n',h'.get? l=Vl (lstO (vs.set k.toNat v) n')->MS l S.heap h'->Q () {S with heap:=h'}):Km (Kn PR w) A (NI (.ref l) (.int k t) v) Q E S:=by
 have d:=aJ b;unfold NI
 try with_reducible refine Lm ?_
 first | refine Kc (Ko ?_) | skip
 refine Kc (wpAny_sequenceKey d.typeIs (by decide) ?_);refine Kc (NQ (name:=Mt "__setitem__") d.typeIs TP (MO TP d.typeIs entry_list_setitem ?_ (args_list_setitem _ _ _)));show Km _ _ (Md.List.listSubscript? (.int k t) >>= _) _ _ S;refine Kc (wpAny_listSubscript_int (fitsIndex_of h0 a) ?_);clear a;obtain ⟨j,rfl⟩:=Lg h0;have f:j<vs.length:=by lia
 have c:vs.toArray[j]?=Vl vs[j]:=by simp[f]
 show Km _ _ ((seqItemAt l j >>= λr=>pure (r.map (j,·))) >>= _) _ _ S;refine Kc (Kc (wpAny_seqItemAt b rfl (Ko ?_)));rw[c];show Km _ _ (setSeqItemAt l j v >>= _) _ _ S;have e:=Ln (N1 (·.setIfInBounds j v)) b rfl;obtain ⟨n',h⟩:∃n',N1 (·.setIfInBounds j v) (lstO vs n)=lstO (vs.set j v) n':=⟨_,by
  have i:vs.toArray.setIfInBounds j v=(vs.set j v).toArray:=by simp
  unfold N1 lstO;simp only[i];rfl⟩
 rw[h] at e;refine Kc (wpAny_setSeqItemAt b rfl ?_)
 first
  | exact Kc (Ko (Ko ⟨.none,rfl,Ko (g _ _ e (LU ..))⟩))
  | exact Ko ⟨.none,rfl,Ko (g _ _ e (LU ..))⟩
theorem RDs.set {vs:List Value}{ds:List D}(r:RDs w imm vs ds){v:Value}{d:D}(h:RD w imm v d):∀j,RDs w imm (vs.set j v) (ds.set j d):=r.ind (M:=λvs ds=>∀j,RDs w imm (vs.set j v) (ds.set j d)) (λ_=>.nil) λb r a j=>Qq j (.cons h r) λj=>.cons b (a j)
theorem yG {α:Type}{k:Int}{d:α}:∀{ds:List (Int×α)},k∉ds.map (·.1)->lZ k d ds=ds++[(k,d)]/\pR k ds=ds:=@lr _ _ (@λ_=>⟨rfl,rfl⟩) (λp r a=>(@λh=>by
  rw[KB,Kt,not_or] at h;have b:=a h.2;exact ⟨(if_neg (LQ h.1)).trans (congrArg _ b.1),(if_neg (LQ h.1)).trans (congrArg _ b.2)⟩))
theorem qn {k j:Int}{u v:Value}{r:List (Int×Value)}:Tv ((j,u)::r) k v=if j=k then (j,v)::r.map (λa=>if a.1=k then (a.1,v) else a) else (j,u)::Tv r k v:=by
 unfold Tv;by_cases h:j=k
 ·rw[if_pos h,if_pos (by rw[TG];simp[h]),KB,if_pos h]
 ·rw[if_neg h,TG,show decide (j=k)=Vo from decide_eq_false h,PF,KB,if_neg h];split<;>rfl
theorem RK.put {α:Type}{R:Value->α->Prop}{k:Int}{v:Value}{d:α}(l:R v d){kvs:List (Int×Value)}{ds:List (Int×α)}(h:RK R kvs ds):(kvs.map (·.1)).Nodup->RK R (Tv kvs k v) (lZ k d ds)/\RK R (Rf kvs k) (pR k ds):=h.ind (M:=λkvs ds=>(kvs.map (·.1)).Nodup->RK R (Tv kvs k v) (lZ k d ds)/\RK R (Rf kvs k) (pR k ds)) (λ_=>⟨.cons l .nil,.nil⟩) λ{j u e r q} i rq g a=>by
  have a:=LM.mp a;have n:Rf ((j,u)::r) k=if j=k then Rf r k else (j,u)::Rf r k:=by unfold Rf;rw[Mp];by_cases h:j=k<;>simp[h]
  rw[qn,n];show RK R _ (if j=k then (j,d)::q else (j,e)::lZ k d q)/\RK R _ (if j=k then q else (j,e)::pR k q);by_cases b:j=k
  ·subst b;rw[if_pos rfl,if_pos rfl,if_pos rfl,if_pos rfl,without_of_not_mem _ _ a.1,show r.map (λc=>if c.1=j then (c.1,v) else c)=r from (LK λc m=>if_neg λ(e:c.1=j)=>a.1 (e▸KR (f:=(·.1)) m)).trans (N3 r)];exact ⟨.cons l rq,rq⟩
  ·rw[if_neg b,if_neg b,if_neg b,if_neg b];exact ⟨.cons i (g a.2).1,.cons i (g a.2).2⟩
noncomputable def eD (st:List SObj) (v:V) (i:Int) (u:V):Option (List SObj):=v.loc?.bind λl=>(st[l]?).bind λo=>
 (u.d?.bind λd=>(o.list?.bind λds=>if 0<=i/\i.toNat<ds.length then Vl (st.set l (.list (ds.set i.toNat d))) else Vm).or (o.dict?.bind λkvs=>if kvs.length<=1000 then Vl (st.set l (.dict (lZ i d kvs))) else Vm)).or
 (u.loc?.bind λm=>(o.objs?.bind λkvs=>if kvs.length<=1000 then Vl (st.set l (.objs (lZ i m kvs))) else Vm).or (o.dict?.bind λkvs=>if kvs.isEmpty=Vn then Vl (st.set l (.objs [(i,m)])) else Vm))
theorem lT {α:Type}{R:Value->α->Prop}{i:Int}{t:PP}{l:Nat}{a:Addr}{o:Obj}{kvs:List (Int×Value)}{ds:List (Int×α)}{d:α}{so:SObj}(e:At cx z s x) (k:x.led[l]?=Vl [(a,o)]) (C:x.ρ[l]?=Vl a) (j:o.IsDictOf (K8 PR z.c.w) kvs) (m:RK R kvs ds) (A:R val d) (hz:ds.length<=1000) (r:∀f b,f.IsDictOf (K8 PR z.c.w) b->RK R b (lZ i d ds)->eY z.c.w x.ρ x.imm a so [(a,f)]):aN cx z RU x (.ok () ⟨s.fr,s.st.set l so⟩) (tr z (NI (.ref a) (.int i t) val)):=by
 have v:=e.H.ledIn _ (aD k (.head _));have F:=m.length;refine aN.upd e k C λQ E q=>wpAny_setItem_pairs (MC _ _ _ _) (LL.mpr ⟨o,v,j⟩) (λu h hs=>?_) (bQ (by walk_at "n"));refine aC λG g=>?_;obtain ⟨f,y,p⟩:=LL.mp h;obtain ⟨_,_,_,_,_,_,n⟩:=j;refine g ?_;exact q u _ f () hs y (r f _ p (m.put A n).1) λ_ _ _=>trivial
theorem qs {i:Int}{t:PP}(f:At cx z s x) (R:aZ z x b v) (M:aZ z x val u):aN cx z RU x (jD s.fr (eD s.st v i u)) (tr z (NI b (.int i t) val)):=.toSt λI h=>f.H.onL (P:=λb=>aN cx z RU x (.ok () ⟨s.fr,I⟩) (tr z (NI b (.int i t) val))) R h λ{l a Y o} _ g h=>cL h (λh=>aA h λd J h=>have K:=RV.onD M J
  cL h (λh=>aA h λds w h=>bD h λk r=>by
   refine aC λF e=>?_;obtain rfl:=eO w;obtain ⟨U,n,rfl,G,hz,rs⟩:=g.list f.H;have T:=rs.length;obtain ⟨j,rfl⟩:=Lg k.1;refine e ?_;have hj:j<U.length:=T▸k.2;exact J9 r▸aN.upd f g.led g.rho λQ E q=>nB G k.1 (by walk_at "n") (by walk_at "n") λO N G hs=>q O x.S.toks _ () hs G (y2 _ N (w3 rfl (by rw[KW];exact hz) (rs.set K _))) λ_ _ _=>trivial)
  λh=>aA h λds w h=>bD h λk r=>by
   refine aC λF e=>?_;obtain rfl:=iL w;obtain ⟨o,p,rfl,hd,rk⟩:=g.foot;refine e ?_;exact J9 r▸lT f g.led g.rho hd rk.rk K k λC c A y=>y2 C c (w3 rfl A y.rks))
 λh=>aA h λm J h=>have L:∃a,val=.ref a/\x.ρ[m]?=Vl a:=by obtain rfl:=kE J;exact M
  cL h (λh=>aA h λds w h=>bD h λk r=>by
   refine aC λF e=>?_;obtain rfl:=ly w;obtain ⟨o,p,rfl,hd,rk⟩:=g.foot;refine e ?_;exact J9 r▸lT f g.led g.rho hd rk L k λC c A y=>y2 C c (w3 rfl A y))
  λh=>aA h λds w h=>bD h λk r=>by
   refine aC λF e=>?_;obtain rfl:=iL w;obtain rfl:=OL.mp k;obtain ⟨o,p,rfl,hd,rk⟩:=g.foot;refine e ?_;have:p=[]:=LR rk.rk.length;subst this;exact J9 r▸lT (ds:=[]) f g.led g.rho hd .nil L (LA _) λC c A y=>y2 C c (w3 rfl A y)
noncomputable def kI (st:List SObj) (v:V) (i:Int):Option (List SObj):=v.loc?.bind λl=>(st[l]?).bind λo=>o.dict?.bind λkvs=>if (aF i kvs).isSome=Vn/\kvs.length<=1000 then Vl (st.set l (.dict (pR i kvs))) else Vm
theorem AD {i:Int}{t:PP}(f:At cx z s x) (C:aZ z x b v):aN cx z RU x (jD s.fr (kI s.st v i)) (tr z (Rg b (.int i t))):=.toSt λk h=>f.H.onL (P:=λb=>aN cx z RU x (.ok () ⟨s.fr,k⟩) (tr z (Rg b (.int i t)))) C h λ{l a K o} _ g h=>aA h λL G h=>bD h λJ p=>by
  refine aC λA e=>?_;obtain rfl:=iL G;obtain ⟨o,kvs,rfl,hd,rk⟩:=g.foot;refine e ?_;have M:=rk.rk.length;have j:x.h.DictOf (K8 PR z.c.w) a kvs:=LL.mpr ⟨o,f.H.ledIn _ (aD g.led (.head _)),hd⟩;refine J9 p▸aN.upd f g.led g.rho λQ E q=>wpAny_delItem_slot (j.typeIs (s:=x.S)) (by decide) Qo (Qy Qo (j.typeIs (s:=x.S)) PySem.F.entry_dict_delitem (PySem.F.args_dict_delitem_2 _ _) (meets_dict_delitem_pairs (K8 PR z.c.w) a (MC _ _ _ t)) ⟨kvs,w4 j (bQ (by walk_at "n")) ((rk.rk.isSome i).trans J.1) (λy m hs=>?_)⟩);refine aC λA e=>?_;obtain ⟨n,I,u⟩:=LL.mp m;obtain ⟨_,_,_,_,_,_,r⟩:=hd;refine e ?_;exact q y _ n () hs I (y2 n _ (w3 rfl u (((rk.rk.put (v:=.none) (d:=D.non) .non r).2).rks))) λ_ _ _=>trivial
noncomputable def HO (op:Nw) (a b:D):Option D:=match op with
 | .Add=>jr a b λi j=>Vl (.int (i+j))
 | .Sub=>jr a b λi j=>Vl (.int (i-j))
 | _=>Vm
theorem Bb {op:Nw}{d e o:D}(c:RD w x.imm b d) (a:RD w x.imm val e) (h:HO op d e=Vl o):fT w A x (QT op b val) o:=by
 cases op with
 | Add=>exact dS c a h λi j t u h=>et h <| .int λQ E q=>PySem.AutoIntOps.iadd_0 q
 | Sub=>exact dS c a h λi j t u h=>et h <| .int λQ E q=>PySem.AutoIntOps.isub_0 q
 | _=>exact au h
end
end
section
set_option linter.all false
noncomputable def wy (b:Array UInt8):Str:=⟨b.map λc=>c.toNat⟩
section
variable {w:Ld}{A:Lc}{E:Value->Kh->Prop}{s:Kh}{b:Array UInt8}{c:UInt8}{cs:List UInt8}{t u:PP}{n:Nat}
theorem zk {id:String}:Pr id b (sn "latin-1") Vm []=(NO id O6 Vm Vn b 0 [] >>= λr=>Vd ⟨r.1⟩):=rfl
theorem wx:Md.«bytes.decode» ⟨[.bytes (c::cs).toArray t,.str (sn "latin-1") u],[]⟩=(Vd (sn "utf-8") >>= λ_=>Vd (sn "latin-1") >>= λe=>Vd (sn "bytes.decode") >>= λd=>
  call (.builtin "_codecs.decode.text") [.bytes (c::cs).toArray t,e,.none,d] >>= λv=>ret v):=by kernel_rfl
theorem zo (a b:Value):PN "bytes.decode" ⟨[a,b],[]⟩:=by
 unfold PN;rw[signature?_of (id:="bytes.decode") (n:=['e','d','o','c','e','d']) (o:=['s','e','t','y','b']) rfl FB.owner_bytes];kernel_rfl
theorem zl {σ:Type}{st:σ}{f:Nat->Nat×Array Nat×σ->OW (ForInStep (Nat×Array Nat×σ))}(e:∀x p out,p<b.size->out.size=p->f x (p,out,st)=pure (.yield (p+1,out++[(b.getD p 0).toNat].toArray,st))):∀(l:List Nat) (p:Nat) (out:Array Nat),p+l.length=b.size->out.toList=(b.toList.take p).map (·.toNat)->forIn l (p,out,st) f=pure (b.size,(wy b).cps,st):=@lr _ _ (@λp out c d=>by
  have c:p=b.size:=c;rw[Tl,c];have:out=(wy b).cps:=Array.toList_inj.mp (by
   rw[d,c,Me (by rw[KJ];exact KH _)];exact (Array.toList_map ..).symm)
  rw[this])
 (λx l g=>(@λp out c d=>by
  rw[Ls] at c;have a:p<b.size:=by lia
  have h:p<b.toList.length:=by rw[KJ];exact a
  rw[Qr,e x p out a (by rw[<- KJ,d,Ka,Lr];lia)];refine g (p+1) _ (by lia) ?_;rw[RI,d,List.take_succ,Kz,Ki h]
  congr 1
  simp[a]))
theorem CA {id:String}(hz:b.size<=1000):NO id O6 Vm Vn b 0 []=pure ((wy b).cps,b.size):=by
 unfold NO;simp only[Re.forIn_eq_forIn_range']
 rewrite [zl (b:=b) (st:=_) (λx p c d a=>?_) _ 0 #[] (by simp[Re.size]) rfl]
 ·rfl
 ·dsimp only;rw[if_neg (by rw[a,Oq];lia),if_neg (by lia)];rfl
theorem zm {Q:Value->Kh->Prop}(hz:b.size<=1000) (h0:b.size≠0) (h:∀a k,Q (.str (wy b) a) {s with toks:=k}):Km (Kn PR w) A (call (.builtin "bytes.decode") [.bytes b t,.str (sn "latin-1") u]) Q E s:=by
 obtain ⟨l⟩:=b;cases l with
 | nil=>exact absurd rfl h0
 | cons c cs=>
  have e:=λid=>CA (id:=id) hz;have f:(wy (c::cs).toArray).length<=sizeLine:=by rw[Oq];show (Array.map _ _).size<=_;rw[Ta];exact Lo hz (by decide)
  refine Qi (S:=λ_ R s=>∀a k,R (.ok (.ret (.str (wy (c::cs).toArray) a))) {s with toks:=k}) FB.slot_bytes_decode (Sq _ _ _) FB.entry_bytes_decode (zo _ _) (.of_wp λd w A R s h=>?_) λa k=>h a k;show Km _ _ (Md.«bytes.decode» ⟨[.bytes (c::cs).toArray t,.str (sn "latin-1") u],[]⟩) _ _ _;rw[wx];refine Kc (Q1 ?_ (by decide));refine Kc (Q1 ?_ (by decide));refine Kc (Q1 ?_ (by decide));refine Kc (call_function_meets (S:=λ_ R s=>R (.ok (.ret (.str (wy (c::cs).toArray) s.toks))) {s with toks:=s.toks+1}) KBd.kind_text KBd.plain_text KBd.entry_text (KBd.args_text _ _ _ _) (.of_wp λd w A R s h=>?_) (Ko ⟨_,rfl,h _ _⟩));show Km _ _ (Md.Bytes.bytesLike _ (.bytes (c::cs).toArray t) >>= λr=>_) _ _ s;refine Kc (MM KBd.like_eq ?_);refine Kc (MM KBd.held_eq ?_);show Km _ _ (Pr _ (c::cs).toArray (sn "latin-1") Vm [] >>= λv=>_) _ _ s;rw[zk,e];refine Kc (Kc (Ko ?_));exact Q1 (Ko ⟨_,rfl,h⟩) f
end
end
section
set_option linter.all false
noncomputable def BM.id:BM->String
 | .append=>"list.append" | .pop=>"list.pop" | .clear=>"list.clear" | .index=>"list.index" | .get=>"dict.get" | .values=>"dict.values" | .add=>"set.add" | .join=>"str.join" | .decode=>"bytes.decode"
noncomputable def qN:List (Str×BM):=[(sn "append",.append),(sn "pop",.pop),(sn "clear",.clear),(sn "index",.index)]
noncomputable def rD:List (Str×BM):=[(sn "get",.get),(sn "values",.values)]
noncomputable def IE:List (Str×BM):=[(sn "add",.add)]
noncomputable def ID:List (Str×BM):=[(sn "join",.join)]
noncomputable def FZ:List (Str×BM):=[(sn "decode",.decode)]
noncomputable def SObj.tab (o:SObj):List (Str×BM):=SObj.casesOn o [] (λ_=>qN) (λ_=>qN) (λ_=>rD) (λ_=>rD) (λ_=>rD) (λ_=>IE) (λ_=>[]) (λ_ _ _=>[]) (λ_ _=>[]) (λ_ _=>[]) (λ_ _=>[]) [] λ_=>[]
noncomputable def D.tab (d:D):List (Str×BM):=D.casesOn d [] (λ_=>[]) (λ_=>[]) (λ_=>ID) (λ_=>FZ) (λ_=>[]) (λ_=>qN) (λ_=>rD) (λ_ _=>[]) (λ_=>[]) λ_=>[]
noncomputable def hS (st:List SObj) (v:V) (m:Str):Option BM:=(v.d?.bind λd=>bY m d.tab).or (v.loc?.bind λl=>(st[l]?).bind λo=>bY m o.tab)
section
variable {w:Ld}{A:Lc}{c:Cn}{cx:Cx}{z:Z}{s:St}{x y:X}{st:List SObj}{b val iv:Value}{v u:V}{k:Nat}{ρ:List Addr}{imm:Imm}{m:Str}{pl:OW Bool}{Q:Value×List Value->Kh->Prop}{E:Value->Kh->Prop}{S:Kh}{a:Addr}{bm:BM}
def dK (w:Ld) (S:Kh) (a:Value) (m:Str) (b:BM):Prop:=∀(A:Lc) (pl:OW Bool) (Q:Value×List Value->Kh->Prop) (E:Value->Kh->Prop),Q (.builtin b.id,[a]) S->Km (Kn PR w) A (getMethod a m pl) Q E S
theorem jL {a:Value}{l:List (Str×BM)}(b:bY m l=Vl bm) (h:∀p∈l,dK w S a p.1 p.2):dK w S a m bm:=h _ (iD b)
theorem hH {a:Value}:∀p∈([]:List (Str×BM)),dK w S a p.1 p.2:=λ_ h=>nomatch h
theorem dC {a:Value}{p:Str×BM}{l:List (Str×BM)}(h:dK w S a p.1 p.2) (k:∀p∈l,dK w S a p.1 p.2):∀q∈p::l,dK w S a q.1 q.2:=λq b=>(Kt.mp b).elim (λe=>by rw[e];exact h) (k q)
theorem iA {o:Obj}(h:S.heap.get? a=Vl o) (c:o.dict=Vm):∀b,M8 a=.ref b->∃o,S.heap.get? b=Vl o/\o.dict=none:=λb e=>by cases e;exact ⟨o,h,c⟩
theorem kC {o:Obj}(h:S.heap.get? a=Vl o) (c:o.cls=.type "list") (b:o.dict=Vm) (d:bY m qN=Vl bm):dK w S (.ref a) m bm:=by
 refine jL d (dC ?_ (dC ?_ (dC ?_ (dC ?_ hH))))
 ·exact λA pl Q E q=>MY ⟨o,h,c⟩ Nz PySem.F.slot_list_append PySem.F.type_list_append (iA h b) q
 ·exact λA pl Q E q=>MY ⟨o,h,c⟩ Nz PySem.F.slot_list_pop PySem.F.type_list_pop (iA h b) q
 ·exact λA pl Q E q=>MY ⟨o,h,c⟩ Nz QG PySem.F.type_list_clear (iA h b) q
 ·exact λA pl Q E q=>MY ⟨o,h,c⟩ Nz QF PySem.F.type_list_index (iA h b) q
theorem iC {o:Obj}{kvs:List (Int×Value)}(h:S.heap.get? a=Vl o) (b:o.IsDictOf (K8 PR w) kvs) (c:bY m rD=Vl bm):dK w S (.ref a) m bm:=by
 obtain ⟨d,f,e,_⟩:=b;refine jL c (dC ?_ (dC ?_ hH))
 ·exact λA pl Q E q=>MY ⟨o,h,e.1⟩ QI OO PySem.F.type_dict_get (iA h e.2.1) q
 ·exact λA pl Q E q=>MY ⟨o,h,e.1⟩ QI QB PySem.F.type_dict_values (iA h e.2.1) q
theorem xb {t:Array UInt8}{k:PP}:dK w S (.bytes t k) (sn "decode") .decode:=λA pl Q E q=>by
 have q:Q (.builtin "bytes.decode",[.bytes t k]) S:=q
 with_reducible exact KBd.method q
theorem CJ {t:Str}{k:PP}:dK w S (.str t k) (sn "join") .join:=λA pl Q E q=>MY (typeIs_str _ _ _) PySem.F.plainAttrs_str PySem.F.slot_str_join PySem.F.type_str_join (λb e=>nomatch e) q
theorem Ge {o:Obj}{b:List Int}(h:S.heap.get? a=Vl o) (c:o.SetObjOf (K8 PR w) (λk=>b.contains k) b.length) (hz:b.length<=1001):dK w S (.ref a) (sn "add") .add:=λA pl Q E q=>getMethod_set_add (c.setOf h (by show _<4096;walk_at "n")) q
theorem uU {a:Value}(h:bY m []=Vl bm):dK w S a m bm:=nomatch h
theorem Fk {a:Value}{d:D}(I:Im x) (r:RD w x.imm a d) (h:bY m d.tab=Vl bm):dK w x.S a m bm:=by
 have r:=r.view;cases d with
 | lst=>obtain ⟨p,b,n,rfl,m,_⟩:=r;exact kC (I _ m) rfl rfl h
 | dct=>obtain ⟨p,o,n,rfl,m,hd,_⟩:=r;exact iC (I _ m) hd h
 | str=>obtain ⟨t,rfl,_⟩:=r;exact jL h (dC CJ hH)
 | bytes=>obtain ⟨t,rfl,_⟩:=r;exact jL h (dC xb hH)
 | _=>exact uU h
theorem Fj {l:Nat}{ft:List (Addr×Obj)}{o:SObj}(H:HI c st x) (g:Thing c st x l a ft o) (h:bY m o.tab=Vl bm):dK c.w x.S (.ref a) m bm:=by
 have b:=g.foot;have e:∀q∈ft,x.h.get? q.1=Vl q.2:=λq i=>H.ledIn _ (aD g.led i);clear g;cases o with
 | list=>obtain ⟨f,n,rfl,_⟩:=b;exact kC (e _ (.head _)) rfl rfl h
 | nexts=>obtain ⟨f,n,rfl,_⟩:=b;exact kC (e _ (.head _)) rfl rfl h
 | dict=>obtain ⟨f,n,rfl,d,_⟩:=b;exact iC (e _ (.head _)) d h
 | objs=>obtain ⟨f,n,rfl,d,_⟩:=b;exact iC (e _ (.head _)) d h
 | fobjs=>obtain ⟨_,f,n,m,d,_⟩:=b;exact iC (H.immIn _ m) d h
 | set=>obtain ⟨o,rfl,ho,hz⟩:=b;exact jL h (dC (Ge (e _ (.head _)) ho hz) hH)
 | _=>exact uU h
theorem Cy {a:Value}(H:HI c st x) (b:RV c.w x.ρ x.imm a v) (h:hS st v m=Vl bm):dK c.w x.S a m bm:=cL h (λh=>aA h λd e h=>Fk H.immIn (b.onD e) h) λh=>HI.on (P:=λa=>dK c.w x.S a m bm) H b h λ_ f h=>Fj H f h
noncomputable def vH (st:List SObj) (v u:V):Option (List SObj):=v.loc?.bind λl=>(st[l]?).bind λo=>(u.d?.bind λd=>o.list?.bind λds=>if ds.length<=1000 then Vl (st.set l (.list (ds++[d]))) else Vm).or (u.nxt?.bind λm=>(o.list?.bind λds=>if ds.isEmpty=Vn then Vl (st.set l (.nexts [m])) else Vm).or (o.nexts?.bind λls=>if ls.length<=1000 then Vl (st.set l (.nexts (ls++[m]))) else Vm))
noncomputable def GM (st:List SObj) (v:V):Option (V×List SObj):=v.loc?.bind λl=>(st[l]?).bind λo=>(o.list?.bind λds=>ds.getLast?.map λd=>(.d d,st.set l (.list ds.dropLast))).or (o.nexts?.bind λls=>ls.getLast?.map λm=>(.nxt m,st.set l (.nexts ls.dropLast)))
noncomputable def AP (st:List SObj) (v:V):Option (List SObj):=v.loc?.bind λl=>(st[l]?).bind λo=>o.list?.map λ_=>st.set l (.list [])
noncomputable def Hf (st:List SObj) (v:V) (us:List V):Option V:=(fc us λu=>u.d?.bind λd=>d.int?.bind λi=>((v.kvs? st).map λkvs=>.d ((aF i kvs).getD .non)).or ((v.objs? st).map λkvs=>optE (aF i kvs) (.d .non) .loc)).or (Dt us λu e=>u.d?.bind λd=>d.int?.bind λi=>e.d?.bind λe=>(v.kvs? st).map λkvs=>.d ((aF i kvs).getD e))
noncomputable def uv (st:List SObj) (v:V):Option V:=v.loc?.bind λl=>(st[l]?).bind λo=>o.objs0?.map λ_=>.vals l
noncomputable def HS (st:List SObj) (v:V) (i:Int):Option (List SObj):=v.loc?.bind λl=>(st[l]?).bind λo=>o.set?.bind λa=>if a.length<=1000 then Vl (st.set l (.set (if a.contains i=Vn then a else a++[i]))) else Vm
noncomputable def DR (d e:D):Option D:=d.str?.bind λx=>e.lst?.bind λl=>if x.length=0/\l.length<=1000 then (gT l).bind λa=>if (a.map (·.length)).sum<=1000 then Vl (.str (Pq x a)) else Vm else Vm
noncomputable def GO (fr:List (Str×V)) (o:Option (V×List SObj)):Res V:=optE o .bad λp=>.ok p.1 ⟨fr,p.2⟩
noncomputable def Bf {α:Type}(us:List V) (o:Option α):Option α:=LW us o λ_ _=>Vm
noncomputable def iW (st:List SObj) (b:BM) (v:V) (us:List V):Option (V×List SObj):=match b with
 | .append=>fc us λu=>(vH st v u).map λst=>(.d .non,st)
 | .pop=>Bf us (GM st v)
 | .clear=>Bf us ((AP st v).map λst=>(.d .non,st))
 | .index=>fc us λu=>u.d?.bind λd=>(v.ls? st).bind λl=>(gs d l).map λ(i:Nat)=>(.d (.int (i:Int)),st)
 | .get=>(Hf st v us).map λu=>(u,st)
 | .values=>Bf us ((uv st v).map λu=>(u,st))
 | .add=>fc us λu=>u.d?.bind λd=>d.int?.bind λi=>(HS st v i).map λst=>(.d .non,st)
 | .join=>fc us λu=>u.d?.bind λd=>v.d?.bind λe=>(DR e d).map λo=>(.d o,st)
 | .decode=>fc us λu=>u.d?.bind λd=>d.str?.bind λe=>v.d?.bind λf=>f.bytes?.bind λb=>if e=sn "latin-1"/\b.size<=1000/\b.size≠0 then Vl (.d (.str (wy b)),st) else Vm
theorem aN.ofB {fr:List (Str×V)}{o:Option (V×List SObj)}{P:eZ Value}(h:∀v st,o=Vl (v,st)->aN cx z (aZ z) x (.ok v ⟨fr,st⟩) P):aN cx z (aZ z) x (GO fr o) P:=by
 cases o with
 | none=>exact .bad
 | some p=>exact h p.1 p.2 rfl
theorem me.snoc {vs:List Value}{ls:List Nat}(h:me ρ imm vs ls){l:Nat}{a b:Addr}(f:(a,sZ b)∈imm) (g:ρ[l]?=Vl b):me ρ imm (vs++[.ref a]) (ls++[l]):=by
 refine ⟨by rw[Kj,Kj,h.1];rfl,λi v e=>?_⟩;by_cases d:i<vs.length
 ·rw[Kx d] at e;rw[Kx (h.1▸d)];exact h.2 i v e
 ·rw[Lx (by walk_at "n")] at e;rw[Lx (by have:=h.1;walk_at "n"),<- h.1];cases c:i-vs.length with
  | zero=>
   rw[c] at e;exact y3 l a b (w4 rfl ((J9 e).symm) f g)
  | succ j=>rw[c] at e;cases e
theorem me.init {vs:List Value}{ls:List Nat}(h:me ρ imm vs ls){m:Nat}(e:ls.getLast?=Vl m):∃us u a b,vs=us++[u]/\me ρ imm us ls.dropLast/\u=.ref a/\(a,sZ b)∈imm/\ρ[m]?=Vl b:=by
 obtain ⟨j,rfl⟩:=QZ.mp e;have c:=h.1;rw[Kj,KM] at c;obtain ⟨us,u,rfl⟩:∃us u,vs=us++[u]:=y2 vs.dropLast _ ((Oa (λe=>by rw[e] at c;cases c)).symm);rw[Kj,KM] at c;have c:us.length=j.length:=Ng c;rw[MT];obtain ⟨l,a,b,d,n,g,k⟩:=h.2 us.length u (by rw[Lx (KH _),NP];rfl);rw[c,Lx (KH _),NP] at d;refine rp (J9 d) ?_;refine y4 us u a b (w5 rfl ⟨c,λi v e=>?_⟩ n g k);have f:=(Kd.mp e).1;have:=h.2 i v (by rw[Kx f];exact e)
 rwa [Kx (c▸f)] at this
theorem RDs.init {vs:List Value}{ds:List D}(h:RDs w imm vs ds){d:D}(e:ds.getLast?=Vl d):∃us u,vs=us++[u]/\RDs w imm us ds.dropLast/\RD w imm u d:=by
 obtain ⟨c,rfl⟩:=QZ.mp e;have a:=h.length;rw[Kj,KM] at a;obtain ⟨us,u,rfl⟩:∃us u,vs=us++[u]:=y2 vs.dropLast _ ((Oa (λe=>by rw[e] at a;cases a)).symm);rw[Kj,KM] at a;have a:us.length=c.length:=Ng a;rw[MT];obtain ⟨n,f,r⟩:=h.get (k:=c.length) (d:=d) (by rw[Lx (KH _),NP];rfl);rw[<- a,Lx (KH _),NP] at f;obtain rfl:=J9 f;refine y2 us u (w3 rfl (.of_get a λj v l g b=>?_) r);obtain ⟨m,i,r⟩:=h.get (k:=j) (d:=l) (by rw[Kx (Kd.mp b).1];exact b);rw[Kx (Kd.mp g).1,g] at i;exact J9 i▸r
abbrev cX (z:Z) (b:BM) (a:Value) (vs:List Value):eZ Value:=tr z (call (.builtin b.id) (a::vs))
theorem nw {l n:Nat}{a:Addr}{us:List Value}{so:SObj}{u:Value}(b:At cx z s x) (f:x.led[l]?=Vl [(a,lstO us n)]) (i:x.ρ[l]?=Vl a) (hz:us.length<=1000) (g:eY z.c.w x.ρ x.imm a so [(a,lstO (us++[u]) (n+1))]):aN cx z (aZ z) x (.ok (.d .non) ⟨s.fr,s.st.set l so⟩) (cX z .append (.ref a) [u]):=by
 refine aN.upd b f i λQ E q=>append_at (b.H.ledIn _ (aD f (.head _))) (λh hs e=>?_) (bQ (by rw[Kw];walk_at "n"));have j:({cls:=.type "list",data:=.seq (us.toArray.push u) (n+1)}:Obj)=lstO (us++[u]) (n+1):=by rw[SB]
 rw[j] at e;exact q h x.S.toks _ .none hs e g λ_ _ _=>RD.non
theorem xq {w:Value}(c:At cx z s x) (C:aZ z x w v) (t:aZ z x val u){st':List SObj}(h:vH s.st v u=Vl st'):aN cx z (aZ z) x (.ok (.d .non) ⟨s.fr,st'⟩) (cX z .append w [val]):=c.H.onL (P:=λb=>aN cx z (aZ z) x (.ok (.d .non) ⟨s.fr,st'⟩) (cX z .append b [val])) C h λ{l a E o} _ f h=>cL h (λh=>aA h λd q h=>aA h λA j h=>bD h λr k=>by
   refine aC λG g=>?_;obtain rfl:=eO j;obtain ⟨p,n,rfl,ho,hz,rs⟩:=f.list c.H;refine g ?_;have y:=rs.length;exact J9 k▸nw c f.led f.rho (by walk_at "n") (y2 _ _ (w3 rfl (by rw[Kj,KM];walk_at "n") (rs.append (.cons (t.onD q) .nil)))))
  λh=>aA h λm q h=>by
   refine aC λG g=>?_;obtain rfl:=E3 q;obtain ⟨F,I,rfl,h1,h2⟩:=t;refine g ?_;exact cL h (λh=>aA h λA j h=>bD h λr k=>by
    refine aC λG g=>?_;obtain rfl:=eO j;obtain rfl:=OL.mp r;obtain ⟨p,n,rfl,ho,hz,rs⟩:=f.list c.H;refine g ?_;have:p=[]:=rs.view;subst this;exact J9 k▸nw c f.led f.rho (LA _) (y2 _ _ (w3 rfl (Kv rfl) (me.snoc (vs:=[]) (ls:=[]) ⟨rfl,λi v e=>au (SD.symm.trans e)⟩ h1 h2))))
    λh=>aA h λls j h=>bD h λr k=>by
     refine aC λG g=>?_;obtain rfl:=mj j;obtain ⟨p,n,rfl,hz,rs⟩:=f.foot;refine g ?_;have y:=rs.1;exact J9 k▸nw c f.led f.rho (by walk_at "n") (y2 _ _ (w3 rfl (by rw[Kj,KM];walk_at "n") (rs.snoc h1 h2)))
theorem qy {l n:Nat}{a:Addr}{us:List Value}{so:SObj}{u:Value}{d:V}(b:At cx z s x) (f:x.led[l]?=Vl [(a,lstO (us++[u]) n)]) (k:x.ρ[l]?=Vl a) (hz:us.length<=16777215) (g:∀n,eY z.c.w x.ρ x.imm a so [(a,lstO us n)]) (j:aZ z x u d):aN cx z (aZ z) x (.ok d ⟨s.fr,s.st.set l so⟩) (cX z .pop (.ref a) []):=by
 refine aN.upd b f k λQ E q=>PyProof.Rows.Copied.pop_at (b.H.ledIn _ (aD f (.head _))) (y:=u) (by simp) (λh hs e=>?_) (bQ (by rw[Kw,Kj,KM];(first | walk_at "m" | lia)));have o:({cls:=.type "list",data:=.seq ((us++[u]).toArray.pop) (n+1)}:Obj)=lstO us (n+1):=by rw[List.pop_toArray,MT]
 rw[o] at e;exact q h x.S.toks _ u hs e (g _) λy m i=>by show RV _ y.ρ y.imm _ _;rw[m,i];exact j
theorem EV {p:Value}(c:At cx z s x) (t:aZ z x p v){d:V}{st':List SObj}(h:GM s.st v=Vl (d,st')):aN cx z (aZ z) x (.ok d ⟨s.fr,st'⟩) (cX z .pop p []):=c.H.onL (P:=λb=>aN cx z (aZ z) x (.ok d ⟨s.fr,st'⟩) (cX z .pop b [])) t h λ{l a w o} _ e h=>cL h (λh=>aA h λy i h=>aV h λA g j=>by
   refine aC λG k=>?_;obtain rfl:=eO i;obtain ⟨f,n,rfl,ho,hz,rs⟩:=e.list c.H;obtain ⟨f,u,rfl,r1,r2⟩:=rs.init g;rw[Kj,KM] at hz;cases j;refine k ?_;exact qy c e.led e.rho (by walk_at "n") (λn=>y2 _ _ (w3 rfl (by walk_at "n") r1)) r2)
  λh=>aA h λC i h=>aV h λm g j=>by
   refine aC λG k=>?_;obtain rfl:=mj i;obtain ⟨f,n,rfl,hz,rs⟩:=e.foot;obtain ⟨f,u,r,q,rfl,r1,rfl,h1,h2⟩:=rs.init g;rw[Kj,KM] at hz;cases j;refine k ?_;exact qy c e.led e.rho (by walk_at "n") (λn=>y2 _ _ (w3 rfl (by walk_at "n") r1)) (y2 r q (w3 rfl h1 h2))
theorem AO {f:Value}(c:At cx z s x) (k:aZ z x f v){st':List SObj}(h:AP s.st v=Vl st'):aN cx z (aZ z) x (.ok (.d .non) ⟨s.fr,st'⟩) (cX z .clear f []):=c.H.onL (P:=λb=>aN cx z (aZ z) x (.ok (.d .non) ⟨s.fr,st'⟩) (cX z .clear b [])) k h λ{l a m o} _ e h=>aV h λp j i=>by
  obtain rfl:=eO j;obtain ⟨g,n,rfl,ho,hz,rs⟩:=e.list c.H;refine rq i ?_;refine aN.upd c e.led e.rho λQ E q=>Qi QG ⟨_,ho,rfl⟩ PySem.F.entry_list_clear (PySem.F.args_list_clear_1 _) (PySem.AutoSeq1.list_clear_list_0 a g.toArray n (bQ (by rw[Kw];exact hz))) ⟨ho,?_⟩;exact q _ x.S.toks (lstO [] _) .none (LU _ _ _) (Ln (N1 λ_=>(#[]:Array Value)) ho rfl) (y2 _ _ (w3 rfl (by decide) .nil)) λ_ _ _=>RD.non
theorem wJ {us:List Value}{n:Nat}{ds:List D}{d:D}{i:Nat}(I:Im x) (t:A.units+7<cLine) (f:x.h.get? a=Vl (lstO us n)) (hz:us.length<=16777216) (rs:RDs w x.imm us ds) (o:RD w x.imm val d) (h:gs d ds=Vl i):fT w A x (call (.builtin "list.index") [.ref a,val]) (.int i):=aA h λu k p=>by
  refine aC λG r=>?_;obtain ⟨g,j⟩:=Ah (A:=A.in1) I (by have:=@iG A;lia) o rs k;subst j;obtain ⟨b,hit,e⟩:=Mc.mp p;refine r ?_;rw[Ka] at b;rw[OM] at hit;refine .int λQ E q=>Qi QF ⟨_,f,rfl⟩ PySem.F.entry_list_index (PySem.F.args_list_index_2 _ _) (SeqAt.list_indexAt a us.toArray n Vm #[] val _ i (by rw[Kw];exact b) (by lia) ?_ ?_) (w3 f (λy l=>g y (by simpa using l)) q)
  ·rw[Pl];exact hit
  ·intro m s c;have:=e m c;rw[OM] at this;rw[Pl];exact Qc _▸this
end
end
section
set_option linter.all false
section
variable {w:Ld}{A:Lc}{c:Cn}{cx:Cx}{z:Z}{s:St}{x y:X}{st:List SObj}{b val iv ov:Value}{v u:V}{k:Nat}{ρ:List Addr}{imm:Imm}{a:Addr}
theorem HI.obj (H:HI c st x){l:Nat}{ft:List (Addr×Obj)}{o:SObj}{ls:List (Int×Nat)}(B:Bs c) (d:Thing c st x l a ft o) (e:o.anyObjs?=Vl ls):∃o kvs,x.h.get? a=Vl o/\o.IsDictOf (K8 PR c.w) kvs/\(a==ME)=Vo/\uh x.ρ kvs ls:=cL e (λe=>by
  refine aC λg b=>?_;obtain rfl:=ly e;obtain ⟨o,kvs,rfl,h,r⟩:=d.foot;obtain ⟨i,f⟩:=B.sys;refine b ?_;exact y2 o kvs (w4 (H.ledIn _ (aD d.led (.head _))) h (beq_eq_false_iff_ne.mpr λq=>au ((H.ledB _ (HI.mem d.led (.head _))).symm.trans (q▸f))) r)) λe=>by
  refine aC λg b=>?_;obtain rfl:=mI e;obtain ⟨_,o,kvs,m,h,n,r⟩:=d.foot;refine b ?_;exact y2 o kvs (w4 (H.immIn _ m) h n r)
theorem qY {R:Value->V->Prop}{o:Obj}{kvs:List (Int×Value)}{i:Int}{t:PP}(b:At cx z s x) (g:x.h.get? a=Vl o) (f:o.IsDictOf (K8 PR z.c.w) kvs) (hs:(a==ME)=Vo) (r:aZ z x ((NB kvs i).getD .none) u):aN cx z (aZ z) x (.ok u s) (cX z .get (.ref a) [.int i t]):=by
 have d:x.h.MapOf (K8 PR z.c.w) a (NB kvs):=(LL.mpr ⟨o,g,f⟩).mapOf;exact Lf.ref (RB:=aZ z) (.stay λQ E q=>Qy OO (d.typeIs (s:=x.S)) QV (PySem.F.args_dict_get_2 _ _) (meets_dict_get (K8 PR z.c.w) a (MC _ _ i t) hs) ⟨_,d,q _ x.S.heap _ (λ_ _ e=>e) λy k j=>by show RV _ y.ρ y.imm _ _;rw[k,j];exact r⟩) b
theorem Fy {vals:List Value}{us:List V}(B:Bs z.c) (b:At cx z s x) (C:aZ z x ov v) (rs:dJ z x vals us) (h:Hf s.st v us=Vl u):aN cx z (aZ z) x (.ok u s) (cX z .get ov vals):=cL h (λh=>gD (P:=λvals=>aN cx z (aZ z) x (.ok u s) (cX z .get ov vals)) rs h λ_ r h=>aA h λd j h=>aA h λi g h=>RD.onInt (P:=λa=>aN cx z (aZ z) x (.ok u s) (cX z .get ov [a])) (r.onD j) g λt=>cL h (λh=>aV h λf y m=>HI.kvs (P:=λov=>aN cx z (aZ z) x (.ok u s) (cX z .get ov [.int i t])) b.H B C y λ{a o A} p l hs n=>by
   refine rq m ?_;refine qY (R:=λ_ _=>True) b p l hs ?_;have:=n.rk.look i;cases k:aF i f with
   | none=>rw[this.2 k];exact RD.non
   | some d=>obtain ⟨w,j,g⟩:=this.1 d k;rw[j];exact g)
  λh=>aV h λf y m=>b.H.on (P:=λov=>aN cx z (aZ z) x (.ok u s) (cX z .get ov [.int i t])) C y λ_ K M=>by
   obtain ⟨o,A,p,l,hs,n⟩:=b.H.obj B K M;refine rq m ?_;refine qY (R:=λ_ _=>True) b p l hs ?_;have:=n.look i;cases k:aF i f with
   | none=>rw[this.2 k];exact RD.non
   | some d=>obtain ⟨w,j,g⟩:=this.1 d k;rw[j];exact g)
 λh=>p6 (P:=λvals=>aN cx z (aZ z) x (.ok u s) (cX z .get ov vals)) rs h λ{_ _ G N} r L h=>aA h λd j h=>aA h λi g h=>aA h λe J h=>aV h λf y m=>RD.onInt (P:=λa=>aN cx z (aZ z) x (.ok u s) (cX z .get ov [a,G])) (r.onD j) g λt=>
  HI.kvs (P:=λov=>aN cx z (aZ z) x (.ok u s) (cX z .get ov [.int i t,G])) b.H B C y λ{a o A} p l hs n=>by
   have I:x.h.MapOf (K8 PR z.c.w) a (NB A):=(LL.mpr ⟨o,p,l⟩).mapOf;refine rq m ?_;refine Lf.refD (.stay λQ E q=>Qy OO (I.typeIs (s:=x.S)) QV (PySem.F.args_dict_get_3 _ _ _) (meets_dict_get_default (K8 PR z.c.w) a (MC _ _ i t) hs G) ⟨_,I,q _ x.S.heap _ (λ_ _ e=>e) ?_⟩) b;have:=n.rk.look i;cases k:aF i f with
   | none=>rw[this.2 k];exact L.onD J
   | some d=>obtain ⟨w,j,g⟩:=this.1 d k;rw[j];exact g
theorem HI.obj0 (H:HI c st x){l:Nat}{ft:List (Addr×Obj)}{o:SObj}{ls:List (Int×Nat)}(B:Bs c) (d:Thing c st x l a ft o) (e:o.objs0?=Vl ls):∃o kvs,ft=[(a,o)]/\x.h.get? a=Vl o/\o.IsDictOf (K8 PR c.w) kvs/\(a==ME)=Vo/\uh x.ρ kvs ls:=by
 have b:∀{o:Obj}{kvs:List (Int×Value)},ft=[(a,o)]->o.IsDictOf (K8 PR c.w) kvs->uh x.ρ kvs ls->∃o kvs,ft=[(a,o)]/\x.h.get? a=Vl o/\o.IsDictOf (K8 PR c.w) kvs/\(a==ME)=Vo/\uh x.ρ kvs ls:=λe h r=>by
  subst e;obtain ⟨k,g⟩:=B.sys;exact y2 _ _ (w5 rfl (H.ledIn _ (aD d.led (.head _))) h (beq_eq_false_iff_ne.mpr λq=>au ((H.ledB _ (HI.mem d.led (.head _))).symm.trans (q▸g))) r)
 refine cL e (λe=>?_) λe=>aA e λj e f=>bD f λi f=>?_
 ·skip
  obtain rfl:=ly e;obtain ⟨o,kvs,e,h,r⟩:=d.foot;exact b e h r
 ·skip
  obtain rfl:=iL e;obtain rfl:=OL.mp i;obtain rfl:=J9 f;obtain ⟨o,kvs,e,h,r⟩:=d.foot;have:kvs=[]:=LR r.rk.length;subst this;exact b e h .nil
theorem vO (B:Bs z.c) (b:At cx z s x) (r:aZ z x ov v) (h:uv s.st v=Vl u):aN cx z (aZ z) x (.ok u s) (cX z .values ov []):=b.H.onL (P:=λov=>aN cx z (aZ z) x (.ok u s) (cX z .values ov [])) r h λ{l a t o} _ f h=>aV h λC j p=>by
  obtain ⟨o,g,_,e,d,hs,A⟩:=b.H.obj0 B f j;have i:x.h.MapOf (K8 PR z.c.w) a (NB g):=(LL.mpr ⟨o,e,d⟩).mapOf;have m:=f.rho;refine rq p ?_;exact Lf.ref (RB:=aZ z) (.push (o:=Ir a) rfl (λy n k=>y2 _ a (w3 rfl (k▸.head _) (n▸m))) λQ E q=>Qy QB (i.typeIs (s:=x.S)) PySem.F.entry_dict_values (PySem.F.args_dict_values_1 _) (meets_dict_values (K8 PR z.c.w) a hs) ⟨⟨g,LL.mpr ⟨o,e,d⟩⟩,q⟩) b
theorem Gd {i:Int}{t:PP}(f:At cx z s x) (I:aZ z x ov v){st':List SObj}(h:HS s.st v i=Vl st'):aN cx z (aZ z) x (.ok (.d .non) ⟨s.fr,st'⟩) (cX z .add ov [.int i t]):=f.H.onL (P:=λb=>aN cx z (aZ z) x (.ok (.d .non) ⟨s.fr,st'⟩) (cX z .add b [.int i t])) I h λ{l a J o} _ j h=>aA h λc n h=>bD h λu G=>by
  refine aC λC g=>?_;obtain rfl:=ym n;obtain ⟨o,rfl,ho,hz⟩:=j.foot;refine g ?_;have F:=ho.setOf (f.H.ledIn _ (aD j.led (.head _))) (by walk_at "n");refine J9 G▸aN.upd f j.led j.rho λQ E q=>call_set_add (MC _ _ _ _) rfl F (by show _<4096;walk_at "n") λw hs k=>?_;refine aC λC g=>?_;obtain ⟨r,y,p⟩:=k.objOf;refine g ?_;refine q w _ r .none hs y ⟨r,w3 rfl ?_ ?_⟩ λ_ _ _=>RD.non
  ·have A:(λk'=>c.contains k'||decide (k'=i))=λk'=>(if c.contains i then c else c++[i]).contains k':=by
    funext k';by_cases m:c.contains i=Vn
    ·rw[if_pos m];by_cases e:k'=i
     ·rw[e,m];rfl
     ·rw[decide_eq_false e,OH]
    ·rw[if_neg m,List.contains_append]
     congr 1
     rw[List.contains_cons,List.contains_nil,OH,Bool.beq_eq_decide_eq]
   have n:(if c.contains i=Vn then c.length else c.length+1)=(if c.contains i then c else c++[i]).length:=by split<;>simp
   rw[A,n] at p;exact p
  ·split
   ·walk_at "n"
   ·rw[Kj,KM];walk_at "n"
theorem sj {vs:List Value}{ds:List D}(r:RDs w imm vs ds):∀{ss:List Str},gT ds=Vl ss->U9 vs ss:=r.ind (M:=λvs ds=>∀{ss:List Str},gT ds=Vl ss->U9 vs ss) (λ{_} h=>J9 h▸.nil) λ{_ _ _ _} h _ a {_} e=>aA e λi d e=>aV e λr c b=>b▸RD.onStr (P:=λv=>U9 (v::_) _) h d λt _=>.cons _ _ (a c)
theorem yd:∀{ds:List D}{a:List Str},gT ds=Vl a->a.length=ds.length:=@lr _ _ (@λa h=>J9 h▸rfl) (λd r b=>(@λa h=>aA h λi g e=>aV e λr f c=>c▸congrArg Nl (b f)))
theorem CH {d e o:D}(I:Im x) (n:RD w x.imm ov d) (k:RD w x.imm val e) (h:DR d e=Vl o):fT w A x (call (.builtin "str.join") [ov,val]) o:=aA h λf j h=>aA h λl r h=>bD h λp h=>aA h λb g h=>bD h λhs h=>et h <| n.strL (T:=λa=>call (.builtin "str.join") [a,val]) j λt u=>k.lstL (T:=λa=>call (.builtin "str.join") [_,a]) r λm z i=>by
  have v:=yd g;have c:(b.map (·.length)).sum+b.length*f.length<=16777216:=by rw[p.1];walk_at "n"
  refine .stay λQ E q=>PyProof.Rows.join_list (aJ (I _ m)) (sj i g) c λy s=>q _ x.S.heap s (λ_ _ e=>e) (RD.str _ _ ?_);have C:=StrLaws.join_length_le f b;show (Pq f b).length<=_;unfold Pq;rw[StrLaws.glued_eq_join];walk_at "n"
theorem Du {α:Type}{o:Option α}{p:α}{vals:List Value}{us:List V}(r:RVs w ρ imm vals us) (e:Bf us o=Vl p){P:List Value->Prop}(k:o=Vl p->P []):P vals:=by
 cases us with
 | nil=>exact (show vals=[] from r.view)▸k e
 | cons=>exact au e
def Ek (cx:Cx) (z:Z) (s:St) (x:X) (bm:BM) (ov:Value) (vals:List Value) (q:V×List SObj):Prop:=aN cx z (aZ z) x (.ok q.1 ⟨s.fr,q.2⟩) (cX z bm ov vals)
theorem ng {bm:BM}{vals:List Value}{us:List V}{q:V×List SObj}{f:V->Option (V×List SObj)}(rs:dJ z x vals us) (h:fc us f=Vl q) (k:∀{a u},aZ z x a u->f u=Vl q->Ek cx z s x bm ov [a] q):Ek cx z s x bm ov vals q:=gD (P:=λvals=>Ek cx z s x bm ov vals q) rs h λ_ r h=>k r h
theorem p4 {bm:BM}{vals:List Value}{us:List V}{q:V×List SObj}{o:Option (V×List SObj)}(rs:dJ z x vals us) (h:Bf us o=Vl q) (k:o=Vl q->Ek cx z s x bm ov [] q):Ek cx z s x bm ov vals q:=Du (P:=λvals=>Ek cx z s x bm ov vals q) rs h k
theorem HJ {bm:BM}{vals:List Value}{us:List V}{q:V×List SObj}(B:Bs z.c) (G:z.A.units+7<cLine) (g:At cx z s x) (k:aZ z x ov v) (rs:dJ z x vals us) (h:iW s.st bm v us=Vl q):Ek cx z s x bm ov vals q:=by
 cases bm with
 | append=>exact ng rs h λr h=>aV h λ_ j e=>rq e (xq g k r j)
 | pop=>exact p4 rs h λh=>EV g k h
 | clear=>exact p4 rs h λh=>aV h λ_ j e=>rq e (AO g k j)
 | index=>exact ng rs h λr h=>aA h λd m h=>aA h λl n h=>aV h λi j e=>rq e (Lf.refD (HI.lsL (T:=λov=>call (.builtin "list.index") [ov,_]) g.H k n λw J rs=>wJ g.H.immIn G w J rs (r.onD m) j) g)
 | get=>exact aV h λ_ j e=>rq e (Fy B g k rs j)
 | values=>exact p4 rs h λh=>aV h λ_ j e=>rq e (vO B g k j)
 | add=>exact ng rs h λr h=>aA h λd m h=>aA h λi n h=>aV h λ_ j e=>rq e (RD.onInt (P:=λa=>Ek cx z s x .add ov [a] _) (r.onD m) n λt=>Gd g k j)
 | join=>exact ng rs h λr h=>aA h λd m h=>aA h λe n h=>aV h λo j F=>rq F (Lf.refD (CH g.H.immIn (k.onD n) (r.onD m) j) g)
 | decode=>exact ng rs h λ{a u} r h=>aA h λd m h=>aA h λe n h=>aA h λf y h=>aA h λb C h=>bD h λp h=>rq (J9 h) (Lf.refD ((r.onD m).strL (T:=λa=>call (.builtin "bytes.decode") [ov,a]) n λt _=>(k.onD y).bytesL (T:=λov=>call (.builtin "bytes.decode") [ov,.str e t]) C λu _=>p.1▸.stay λQ E q=>zm p.2.1 p.2.2 λK I=>q _ x.S.heap I (λ_ _ e=>e) (RD.str _ _ (by rw[Ta];exact Lo p.2.1 (by decide)))) g)
theorem HG {bm:BM}{vals:List Value}{us:List V}(B:Bs z.c) (b:z.A.units+7<cLine) (a:At cx z s x) (d:aZ z x ov v) (rs:dJ z x vals us):aN cx z (aZ z) x (GO s.fr (iW s.st bm v us)) (cX z bm ov vals):=.ofB λ_ _ h=>HJ B b a d rs h
end
end
section
set_option linter.all false
section
variable {w:Ld}{A:Lc}{c:Cn}{cx:Cx}{z:Z}{s:St}{x y:X}{st:List SObj}{own:List Addr}{env:Env}{fr:List (Str×V)}{g g':List (Addr×Obj)}{led:List (List (Addr×Obj))}{a:Addr}{ρ:List Addr}
noncomputable def X.cut (x:X):X:=⟨x.ρ.take 1,x.imm,x.led.take 1,x.S⟩
noncomputable def X.uncut (x y:X):X:=⟨x.ρ,y.imm,y.led.take 1++x.led.drop 1,y.S⟩
theorem eH {a:Addr}:a∈x.cut.la->a∈x.la:=λh=>(Kr.mp h).elim λp h=>h.2▸KR ((Mb.mp h.1).elim λg e=>Mb.mpr ⟨g,MB e.1,e.2⟩)
theorem jP:x.la=x.cut.la++(x.led.drop 1).flatten.map (·.1):=by
 unfold X.la X.cut;rw[<- Kz,<- M1,NT]
theorem HI.cut (H:HI c (.ctab::st) x):HI c [.ctab] x.cut where
 base:=H.base
 immIn:=H.immIn
 ledIn:=λp h=>H.ledIn p ((Mb.mp h).elim λg e=>Mb.mpr ⟨g,MB e.1,e.2⟩)
 nd:=(Lu.mp (jP (x:=x)▸H.nd)).1
 ledB:=λa h=>H.ledB a (eH h)
 dis:=λp h m=>H.dis p h (eH m)
 len:=⟨by rw[Lr,H.len.1];exact ND (Nq (LA _)),by rw[Lr,H.len.2];exact ND (Nq (LA _))⟩
 foot:=λl o e=>by
  cases l with
  | succ l=>exact au e
  | zero=>
   obtain ⟨a,f,b,d,i⟩:=H.foot 0 o e;refine y2 a f (w3 ((MV (Oj)).trans b) ((MV (Oj)).trans d) ?_);obtain rfl:=J9 e;exact i
 frs:=H.frs
 fsI:=λa h=>w3 ((H.fsI a h).1) (λm=>(H.fsI a h).2.1 (eH m)) ((H.fsI a h).2.2)
 imm0:=H.imm0
theorem EI.cut (F:EI c cx env own fr x):EI c cx env own [] x.cut where
 kind:=F.kind
 glb:=F.glb
 blt:=F.blt
 names:=F.names
 ns:=F.ns.imp λm h=>⟨h.1,λn v g _=>au g⟩
 cells:=λn h=>(F.cells n h).imp λa h=>h.imp λo h=>h.imp λv h=>w4 h.1 h.2.1 h.2.2.1 (λv g=>au g)
 loc:=F.loc
 ownI:=λa h=>⟨λm=>(F.ownI a h).1 (eH m),(F.ownI a h).2⟩
 cellI:=F.cellI
 cellO:=F.cellO
 cellL:=λn a h e=>⟨λm=>(F.cellL n a h e).1 (eH m),(F.cellL n a h e).2⟩
theorem qQ:(x.uncut y).la=y.cut.la++(x.led.drop 1).flatten.map (·.1):=by
 unfold X.la X.cut X.uncut;rw[M1,Kz]
theorem HI.uncut {st':List SObj}(H:HI c (.ctab::st) x) (p:Adv c [] x.cut y) (G:HI c (.ctab::st') y):HI c (.ctab::st) (x.uncut y)/\Adv c [] x (x.uncut y):=by
 have nd:=Lu.mp (jP (x:=x)▸H.nd);have inR:∀{a:Addr},a∈(x.led.drop 1).flatten.map (·.1)->a∈x.la/\a∉x.cut.la/\∃o,x.h.get? a=Vl o:=λ{a} h=>by
  have m:a∈x.la:=jP (x:=x)▸Li _ h;exact w3 m (λz=>nd.2.2 a z a h rfl) (H.laIn m)
 have j:∀{a:Addr},a∈y.cut.la->a∉(x.led.drop 1).flatten.map (·.1):=λ{a} h m=>(p.ledN a (eH h)).elim (inR m).2.1 λe=>(inR m).2.2.elim λo w=>au (e.symm.trans w);have s:∀{a:Addr},a∈(x.uncut y).la->a∈y.cut.la\/a∈(x.led.drop 1).flatten.map (·.1):=λh=>Ku.mp (qQ (x:=x) (y:=y)▸h);constructor
 ·exact {
   base:=G.base
   immIn:=G.immIn
   ledIn:=λq h=>by
    rw[show (x.uncut y).led=y.led.take 1++x.led.drop 1 from rfl,M1] at h;refine (Ku.mp h).elim (λh=>G.ledIn q ((Mb.mp h).elim λg e=>Mb.mpr ⟨g,MB e.1,e.2⟩)) λh=>?_;have A:=inR (KR (f:=(·.1)) h);have e:=H.ledIn q ((Mb.mp h).elim λg e=>Mb.mpr ⟨g,RE e.1,e.2⟩);exact (p.keep _ _ e MG A.2.1).elim id λk=>absurd A.1 (H.fsI _ k.1).2.1
   nd:=by rw[qQ];exact Lu.mpr (w3 ((Lu.mp (jP (x:=y)▸G.nd)).1) nd.2.1 (λa h b m e=>j h (e▸m)))
   ledB:=λa h=>(s h).elim (λh=>G.ledB a (eH h)) λh=>H.ledB a (inR h).1
   dis:=λq h m=>(s m).elim (λm=>G.dis q h (eH m)) λm=>(p.immN q h).elim (λh=>H.dis q h (inR m).1) λe=>e.elim (λe=>(inR m).2.2.elim λo w=>au (e.symm.trans w)) (inR m).2.1
   len:=⟨by
    have r:=H.len.1;have i:=G.len.1;show (y.led.take 1++x.led.drop 1).length=_;rw[Kj,Lr,M4,r,i,Ls,Ls];lia,H.len.2⟩
   foot:=λl o e=>by
    have J:(y.led.take 1).length=1:=by rw[Lr,G.len.1];exact ND (Nq (LA _))
    cases l with
    | zero=>
     refine aC λE d=>?_;obtain ⟨a,t,r,i,v⟩:=G.foot 0 .ctab rfl;obtain ⟨u,F,C,L,K⟩:=H.foot 0 .ctab rfl;obtain rfl:=J9 e;refine d ?_;have I:u=a:=J9 ((p.rho 0 u ((MV Oj).trans C)).symm.trans r);exact y2 u t (w3 C ((Kx (by lia)).trans ((MV Oj).trans i)) (I▸v))
    | succ l=>
     refine aC λE d=>?_;obtain ⟨a,t,r,i,v⟩:=H.foot (l+1) o e;refine d ?_;refine y2 a t (w3 r ?_ (v.mono (λ_ _ e=>e) p.imm));show (y.led.take 1++x.led.drop 1)[l+1]?=_;rw[Lx (by lia),J,SA,NE,Ry];exact i
   frs:=G.frs
   fsI:=λa h=>w3 ((G.fsI a h).1) (λm=>(s m).elim (λm=>(G.fsI a h).2.1 (eH m)) λm=>(H.fsI a h).2.1 (inR m).1) ((G.fsI a h).2.2)
   imm0:=G.imm0}
 ·exact {
   keep:=λb o e n m=>p.keep b o e n λz=>m (eH z)
   alive:=p.alive
   imm:=p.imm
   immN:=λq h=>(p.immN q h).imp id λh=>h.imp id eH
   ledN:=λa h=>(s h).elim (λh=>(p.ledN a (eH h)).imp eH id) λh=>.inl (inR h).1
   rho:=λ_ _ e=>e
   rest:=p.rest}
theorem RVs.data {a:Imm}{ρ b:List Addr}{us:List Value}{vs:List V}(r:RVs w ρ a us vs):∀{ds:List D},ej vs=Vl ds->RVs w b a us vs:=r.ind (M:=λus vs=>∀{ds:List D},ej vs=Vl ds->RVs w b a us vs) (λ{_} _=>.nil) λ{_ _ _ _} h _ f {_} e=>aA e λd c e=>aV e λds g _=>by
  obtain rfl:=tL c;exact .cons h (f g)
noncomputable def dt (st:List SObj):Option (List SObj):=LW st Vm λo r=>if o.ctab?=Vn then Vl r else Vm
noncomputable def dI (res:Res V):Option D:=Res.casesOn res (λv s=>(dt s.st).bind λ_=>v.d?) (λ_ _ _=>Vm) Vm
theorem mF {st r:List SObj}(h:dt st=Vl r):st=.ctab::r:=by
 cases st with
 | nil=>exact au h
 | cons o st=>exact bD h λa e=>by cases o<;>first | exact J9 e▸rfl | cases a
theorem ot {res:Res V}{d:D}(h:dI res=Vl d):∃s r,res=.ok (.d d) s/\s.st=.ctab::r:=by
 cases res with
 | ok v s=>exact aA h λr b a=>y2 s r ⟨tL a▸rfl,mF b⟩
 | exn=>exact au h
 | bad=>exact au h
theorem wN {k:Nat}{f:Addr}{vs:List V}{vals:List Value}{d:D}{ds:List D}{st':List SObj}{res:Res V}(o:Ok k cx z) (hh:z.A.handled=Vm) (a:At cx z s x) (rs:dJ z x vals vs) (l:dt s.st=Vl st') (j:ej vs=Vl ds) (n:ip k f vs [.ctab] res) (t:dI res=Vl d) (Q E:Value->Kh->Prop) (q:eL cx z (aZ z) x (.ok (.d d) s) Q E):Mu (Kn PR z.c.w) z.A (.call (.ref f) ⟨vals,[]⟩) (OU Q E) x.S:=by
 obtain ⟨G,r,e,u⟩:=ot t;have g:=mF l;subst e;have H:HI z.c (.ctab::st') x:=g▸a.H;refine n (x:=x.cut) (fr:=[]) o hh ⟨H.cut,a.F.cut⟩ (rs.data j) Q E λb y v p C=>?_;obtain ⟨m,i⟩:=H.uncut p (u▸v);exact q b (x.uncut y) ⟨⟨g▸m,a.F.adv i⟩,i.weak (λ_ h=>nomatch h),C⟩
end
end
section
set_option linter.all false
section
variable {w:Ld}{A:Lc}{c:Cn}{cx:Cx}{z:Z}{s s0:St}{x x₀ y:X}{k:Nat}{a:Addr}{b:Value}{ds:List D}{r r':Prop}
theorem EI.more {env:Env}{own:List Addr}{fr:List (Str×V)}{h:Heap}{tk:Nat}{ex:Imm}(F:EI c cx env own fr y) (h:∀p∈ex,p.1∉own):EI c cx env own fr (y.gr y.h y.S.toks ex) where
 kind:=F.kind
 glb:=F.glb
 blt:=F.blt
 names:=F.names
 ns:=F.ns.imp λm k=>⟨k.1,λn v g l=>(k.2 n v g l).imp λ_ k=>⟨k.1,k.2.mono (λ_ _ e=>e) λ_ h=>Li _ h⟩⟩
 cells:=λn d=>(F.cells n d).imp λ_ k=>k.imp λ_ k=>k.imp λ_ k=>w4 k.1 k.2.1 k.2.2.1 (λv g=>(k.2.2.2 v g).imp λ_ k=>⟨k.1,k.2.mono (λ_ _ e=>e) λ_ h=>Li _ h⟩)
 loc:=F.loc
 ownI:=λa b=>w3 ((F.ownI a b).1) (λq f=>(Ku.mp f).elim (λm e=>h q m (e▸b)) ((F.ownI a b).2.1 q)) ((F.ownI a b).2.2)
 cellI:=F.cellI
 cellO:=F.cellO
 cellL:=F.cellL
theorem Nx.take (i:At cx z s0 x₀) (n:Nx cx z x₀ s y r){o:Obj}(h:y.h.get? a=Vl o) (f:Fresh x₀ y a) (t:r'):Nx cx z x₀ s (y.gr y.h y.S.toks [(a,o)]) r':=by
 obtain ⟨⟨H,F⟩,p,-⟩:=n;have u:a∉z.c.fa:=λm=>(i.H.frs.mem m).2.elim λo e=>au (f.new.symm.trans e.1);have k:a∉z.own:=λm=>(i.F.ownI a m).2.2.2.elim λo e=>au (f.new.symm.trans e);have g:∀{P:Addr×Obj->Prop},P (a,o)->∀q∈[(a,o)],P q:=λh q m=>Kg.mp m▸h;refine ⟨⟨⟨H.base,λq d=>(Kt.mp d).elim (λe=>by rw[e];exact h) (H.immIn q),H.ledIn,H.nd,H.ledB,λq d=>(Kt.mp d).elim (λe=>by rw[e];exact f.la) (H.dis q),H.len,λl o q=>(H.foot l o q).imp λ_ q=>q.imp λ_ q=>w3 q.1 q.2.1 (q.2.2.mono (λ_ _ e=>e) λ_ h=>.tail _ h),H.frs,λb m=>⟨λq d=>(Kt.mp d).elim (λe j=>u (by rw[e] at j;rw[show a=b from j];exact m)) ((H.fsI b m).1 q),(H.fsI b m).2⟩,λq d=>.tail _ (H.imm0 q d)⟩,F.more (h:=y.h) (tk:=0) (g k)⟩,⟨p.keep,p.alive,λq d=>.tail _ (p.imm q d),λq d=>(Kt.mp d).elim (λe=>.inr (.inl (by rw[e];exact f.new))) (p.immN q),p.ledN,p.rho,p.rest⟩,t⟩
theorem nd1 {α:Type}{a:α}:[a].Nodup:=LM.mpr ⟨MG,Tk⟩
def ja (z:Z) (x₀ y:X) (b:Value) (ds:List D):Prop:=∃a us n,b=.ref a/\y.h.get? a=Vl (lstO us n)/\Fresh x₀ y a/\us.length<=16777216/\RDs z.c.w y.imm us ds
theorem wu (e:At cx z s0 x₀) (n:Nx cx z x₀ s y (ja z x₀ y b ds)):∃c,c.S=y.S/\Nx cx z x₀ s c (aZ z c b (.d (.lst ds))):=by
 obtain ⟨a,g,m,rfl,h,f,hz,rs⟩:=n.r;exact ⟨y.gr y.h y.S.toks [(a,lstO g m)],rfl,n.take e h f (RD.lst (.head _) hz (mD rs))⟩
theorem zd (e:At cx z s0 x₀) (n:Nx cx z x₀ s y (ja z x₀ y b ds)):∃c,c.S=y.S/\Nx cx z x₀ ⟨s.fr,s.st++[.list ds]⟩ c (aZ z c b (.loc s.st.length)):=by
 obtain ⟨a,d,m,rfl,h,f,hz,rs⟩:=n.r;exact ⟨y.ad a [(a,lstO d m)],rfl,Nx.adopt (so:=.list ds) (ft:=[(a,lstO d m)]) e n (λq g=>Kg.mp g▸⟨h,f⟩) nd1 (y2 d m (w3 rfl hz rs)) id⟩
theorem fV (H:HI c s.st y){own:List Addr}(p:Adv c own x y){h':Heap}{tk:Nat}{ex:Imm}(e:∀p∈ex,p.1≠y.h.objs.size):Fresh x (y.gr h' tk ex) y.h.objs.size:=⟨λm=>(H.laIn m).elim λo e=>au ((bF _).symm.trans e),λq b a=>(Ku.mp b).elim (λm=>e q m a) λm=>au ((bF _).symm.trans (a▸H.immIn q m)),p.dead (bF _)⟩
theorem Gn.ref {t:OW Value}(h:Gn z.c.w z.A y t ds) (a:At cx z s y) (p:Adv z.c z.own x y):aN cx z (ja z x) y (.ok ds s) (tr z t):=λQ E q=>by
 obtain ⟨b,e,d,f,h⟩:=h;exact h Q E (q _ (y.gr (y.h.push (lstO b 0)) e []) (a.kp (ex:=[]) (aM _ _) (λ_ h=>nomatch h) (y3 _ b 0 (w5 rfl (Kq _ rfl) (fV (ex:=[]) a.H p (λ_ h=>nomatch h)) f d))))
theorem aN.made {res:Res (List D)}{P:eZ Value}(a:At cx z s0 x) (h:aN cx z (ja z x) x res P):aN cx z (aZ z) x (res.bind λds s=>.ok (.d (.lst ds)) s) P:=λQ E q=>
 h Q E (q.bind (.refl _ _ _) (λds s b y n f=>(wu a n).elim λe h=>h.1▸f b e h.2) λ_ _ _ _ y n c=>c y n)
theorem aN.madeL {res:Res (List D)}{P:eZ Value}(a:At cx z s0 x) (h:aN cx z (ja z x) x res P):aN cx z (aZ z) x (res.bind λds s=>.ok (.loc s.st.length) ⟨s.fr,s.st++[.list ds]⟩) P:=λQ E q=>
 h Q E (q.bind (.refl _ _ _) (λds s b y n e=>(zd a n).elim λd h=>h.1▸e b d h.2) λ_ _ _ _ y n c=>c y n)
theorem aN.fresh {so:SObj}{P:eZ Value}{o:Obj}{tk:Nat}(a:At cx z s x) (d:o.isFreed=Vo) (b:eY z.c.w (x.ρ++[x.h.objs.size]) x.imm x.h.objs.size so [(x.h.objs.size,o)]) (h:∀(Q:Value->Kh->Prop) (E:Value->Kh->Prop),Q (.ref x.h.objs.size) {x.S with heap:=x.h.push o,toks:=tk}->P Q E x.S):aN cx z (aZ z) x (.ok (.loc s.st.length) ⟨s.fr,s.st++[so]⟩) P:=λQ E q=>
 h Q E (q _ ((x.gr (x.h.push o) tk []).ad x.h.objs.size [(x.h.objs.size,o)]) (Nx.adopt (y:=x.gr (x.h.push o) tk []) (so:=so) (s:=s) a (a.kp (ex:=[]) (aM _ _) (λ_ h=>nomatch h) trivial) (λq e=>Kg.mp e▸⟨Kq _ d,fV (ex:=[]) a.H (.refl _ z.own _) λ_ h=>nomatch h⟩) nd1 b id))
end
structure Mk (k:Nat) (cx:Cx) (e:Kb) where
 f:St->Res (List D)
 ok:∀{z:Z}{s:St}{x:X},Ok k cx z->At cx z s x->aN cx z (ja z x) x (f s) (tr z (MQ e z.env))
section
variable {k:Nat}{cx:Cx}{e:Kb}
noncomputable def Mk.ev (m:Mk k cx e):Ev k cx e:=⟨λs=>(m.f s).bind λds s=>.ok (.d (.lst ds)) s,λo a=>.made a (m.ok o a)⟩
noncomputable def Mk.fresh (m:Mk k cx e):Ev k cx e:=⟨λs=>(m.f s).bind λds s=>.ok (.loc s.st.length) ⟨s.fr,s.st++[.list ds]⟩,λo a=>.madeL a (m.ok o a)⟩
noncomputable def zg (vs:List V):Option (List D):=(ej vs).bind λds=>if ds.length<=1000 then Vl ds else Vm
noncomputable def yZ (r:Sr k) (es:List Kb) (pos:Pos):Mk k cx (.List es pos):=⟨λs=>if aO es=Vn then (bM (r.ev cx) es s).bind λvs s=>cP (zg vs) s else .bad,λ{z s x} o a=>
 aN.ite λb=>((eP (r.ev cx) o a).bind (K:=λus=>oz "list" us) λvs s us y n=>.opt λds h=>aA h λd e h=>bD h λhz c=>by
  have rs:=kj n.r e;have b:=rs.length;refine rq (J9 c) ?_;exact λQ E q=>⟨bQ (by walk_at "n"),q _ (y.gr (y.h.push (lstO us 0)) y.S.toks []) (n.at_.kp (ex:=[]) (aM _ _) (λ_ h=>nomatch h) (y3 _ us 0 (w5 rfl (Kq _ rfl) (fV (ex:=[]) n.at_.H n.adv (λ_ h=>nomatch h)) (by walk_at "n") rs)))⟩).of λ_ _ h=>Tt (ei b h)⟩
noncomputable def IQ (v u:V):Option (List D):=v.d?.bind λd=>d.lst?.bind λl=>u.d?.bind λe=>e.int?.bind λn=>if l.length=1/\0<=n/\n<=1000 then Vl (LP n.toNat l).flatten else Vm
noncomputable def GS {p q:Kb}(a:Ev k cx p) (b:Ev k cx q) (pos:Pos):Mk k cx (.BinOp p .Mult q pos):=⟨λs=>(a.f s).bind λv s=>(b.f s).bind λu s=>cP (IQ v u) s,λ{z s x} o c=>
 ((a.ok o c).bind λv s A y n=>(b.ok o n.at_).bind λu s g w m=>.opt λds h=>aA h λd E h=>aA h λl J h=>aA h λe F h=>aA h λi G h=>bD h λj I=>
  RD.onLst (P:=λA=>aN cx z (ja z x) w (.ok ds s) (tr z (Rr .Mult A g))) (RV.onD (n.r.up m.adv) E) J λ{a us K} C hz rs=>RD.onInt (P:=λg=>aN cx z (ja z x) w (.ok ds s) (tr z (Rr .Mult (.ref a) g))) (RV.onD m.r F) G λt=>
   J9 I▸(yW (m.at_.H.immIn _ C) rs j.1 j.2.1 j.2.2).ref m.at_ (n.adv.trans m.adv)).of λ_ _ h=>Vb h⟩
noncomputable def wM (pos:Pos):Ev k cx (.Dict [] [] pos):=⟨λs=>.ok (.loc s.st.length) ⟨s.fr,s.st++[.dict []]⟩,λ{z s x} o a=>
 aN.fresh (so:=.dict []) (o:={cls:=.type "dict",data:=.dict #[]}) (tk:=x.S.toks) a rfl (y2 _ [] (w3 rfl (y2 (#[]) 0 (w5 (w3 rfl rfl rfl) rfl (λe b=>absurd b (RJ _)) .nil .nil)) .nil)) λQ E q=>wpAny_Dict_empty q⟩
end
end
section
set_option linter.all false
noncomputable def ke:List Addr:=[36,40,73,80,87,92,99,106,120,127,137,148,155,162,176,179,190,197,237,244,249,256,263,268,275,282,287,292,299,306,311,316,323,328,333]
noncomputable def ie:List Addr:=[190,197,237,249,256,263,268,275,282,287,292,311,328]
theorem tU (P:LB):ke.all (λa=>keepIn (KK P) (.ref a))=true:=rfl
section
variable {w:Ld}{A:Lc}{c:Cn}{cx:Cx}{z:Z}{s:St}{x y:X}{st:List SObj}{b:Value}{v u:V}{k:Nat}{vals:List Value}{vs:List V}
theorem mw (B:Bs c){a:Nat}(h:ke.contains a=Vn):ui c (.ref a):=λb hs=>keeps_K (KP.mp (tU c.w.params) a (KO.mp h)) b (B.kin hs)
noncomputable def uc (fr:List (Str×V)) (x:Res V):Res V:=Res.casesOn x (λv s=>.ok v ⟨fr,s.st⟩) (λk as s=>.exn k as ⟨fr,s.st⟩) .bad
noncomputable def eW (r:Sr k) (a:Addr) (vs:List V) (s:St):Res V:=cond (ie.contains a) (optE (ej vs) .bad λ_=>optE (dt s.st) .bad λ_=>cP ((dI (r.call a vs [.ctab])).map V.d) s) (uc s.fr (r.call a vs s.st))
theorem rK {a:Addr}(r:Sr k) (o:Ok k cx z) (hh:z.A.handled=Vm) (f:At cx z s x) (rs:dJ z x vals vs) (Q E:Value->Kh->Prop):eL cx z (aZ z) x (eW r a vs s) Q E->Mu (Kn PR z.c.w) z.A (.call (.ref a) ⟨vals,[]⟩) (OU Q E) x.S:=by
 unfold eW;cases ie.contains a with
 | true=>
  cases n:ej vs with
  | none=>exact λq=>PD q
  | some ds=>cases u:dt s.st with
   | none=>exact λq=>PD q
   | some t=>cases p:dI (r.call a vs [.ctab]) with
    | none=>exact λq=>PD q
    | some d=>exact wN o hh f rs u n (r.callOk a vs _) p Q E
 | false=>
  have h:=λq=>r.callOk a vs s.st (fr:=s.fr) o hh f rs Q E q;cases l:r.call a vs s.st with
  | bad=>exact λq=>PD q
  | ok v m=>exact λq=>h (by rw[l];exact λb y i g j=>q b y ⟨⟨i,f.F.adv g⟩,g.weak (λ_ h=>nomatch h),j⟩)
  | exn e C m=>exact λq=>h (by rw[l];exact λb y i g j=>q b y ⟨⟨i,f.F.adv g⟩,g.weak (λ_ h=>nomatch h),j⟩)
theorem rO {a:Addr}(r:Sr k) (o:Ok k cx z) (hh:z.A.handled=Vm) (b:At cx z s x) (rs:dJ z x vals vs):aN cx z (aZ z) x (eW r a vs s) (tr z (call (.ref a) vals)):=λQ E q=>Od (rK r o hh b rs Q E q)
theorem gG {env:Env}{f:Str}{p pos:Pos}{args:List Kb}{Q:Value->Kh->Prop}{E:Value->Kh->Prop}{S:Kh}(h:Km (Kn PR w) A (MQ (.Name f p) env) (λa b=>Km (Kn PR w) A (MZ pos a [] (Ms pos (LD args env)) []) Q E b) E S):Km (Kn PR w) A (MQ (.Call (.Name f p) args [] pos) env) Q E S:=by
 show Km (Kn PR w) A (do MZ pos (<- MQ (.Name f p) env) [] (Ms pos (LD args env)) (Pc pos (NR [] env))) Q E S;exact Kc h
noncomputable def zw (vs:List V) (s:St):Res V:=optE (fc vs λv=>v.loc?.bind λl=>(s.st[l]?).bind λo=>o.list?.map λ_=>l) .bad λl=>.ok (.loc s.st.length) ⟨s.fr,s.st++[.iter l 0]⟩
theorem wF {l:Nat}{a:Addr}{us:List Value}{n:Nat}(b:At cx z s x) (c:x.h.get? a=Vl (lstO us n)) (d:x.ρ[l]?=Vl a):aN cx z (aZ z) x (.ok (.loc s.st.length) ⟨s.fr,s.st++[.iter l 0]⟩) (tr z (call (.builtin "iter") [.ref a])):=aN.fresh (o:=zy a 0) (tk:=x.S.toks) b rfl ⟨a,rfl,iw _ _ _ _ d⟩ λQ E q=>by
  refine OB (by decide +kernel) (by decide +kernel) kdk_entry_iter (kdk_args_iter _) ?_;unfold Md.«iter»;refine Kc (m:=someArgs "iter" 1 2 _) (MM (a:=[M8 a]) (by first | rfl | kernel_rfl!) ?_);exact Kc (Qu (aJ c) (Ko ⟨_,rfl,q⟩))
theorem zv (b:At cx z s x) (rs:dJ z x vals vs):aN cx z (aZ z) x (zw vs s) (tr z (call (.builtin "iter") vals)):=by
 unfold zw;cases h:(fc vs λv=>v.loc?.bind λl=>(s.st[l]?).bind λo=>o.list?.map λ_=>l) with
 | none=>exact .bad
 | some l=>
  exact gD (P:=λvals=>aN cx z (aZ z) x (.ok (.loc s.st.length) ⟨s.fr,s.st++[.iter l 0]⟩) (tr z (call (.builtin "iter") vals))) rs h λ_ i h=>
   b.H.onL (P:=λv=>aN cx z (aZ z) x (.ok (.loc s.st.length) ⟨s.fr,s.st++[.iter l 0]⟩) (tr z (call (.builtin "iter") [v]))) i h λ{q a j o} _ d h=>aV h λp e g=>by
    refine aC λm c=>?_;obtain rfl:=eO e;obtain ⟨k,n,_,f,_⟩:=d.list b.H;refine c ?_;exact g▸wF b f d.rho
noncomputable def p0 (cx:Cx) (b:Bi) (vs:List V) (s:St):Res V:=cond (b.eq .iter) (zw vs s) (if cx.inH=Vo\/b.eq .isinstance=Vn then okD (bI s.st b vs) s else .bad)
theorem Bi.iter_of {b:Bi}(h:b.eq .iter=Vn):b=.iter:=by cases b<;>first | rfl | cases h
theorem Bi.set_of {b:Bi}(h:b.eq .set=Vn):b=.set:=by cases b<;>first | rfl | cases h
theorem xk {bi:Bi}(o:Ok k cx z) (a:At cx z s x) (rs:dJ z x vals vs):aN cx z (aZ z) x (p0 cx bi vs s) (tr z (call bi.val vals)):=by
 unfold p0;cases h:bi.eq .iter with
 | true=>refine rp (Bi.iter_of h) ?_;exact zv a rs
 | false=>exact aN.ite λc=>.optD a λd b=>A8 o.B a.H (λe=>c.elim o.hd λf=>nomatch e.symm.trans f) rs b
theorem jR (b:Bi):ui c b.val:=mu λa e=>by cases b<;>cases e
noncomputable def xZ (r:Sr k) (cx:Cx) (e:Kb):Ev k cx e:=match e with
 | .List es p=>(yZ r es p).fresh
 | e=>r.ev cx e
noncomputable def ox (r:Sr k) (cx:Cx) (b:Bi) (args:List Kb) (s:St):Res V:=cond (b.eq .set) (if args=[] then .ok (.loc s.st.length) ⟨s.fr,s.st++[.set []]⟩ else .bad) ((bM (ek r cx) args s).bind λvs s=>p0 cx b vs s)
noncomputable def ow (r:Sr k) (cx:Cx) (args:List Kb) (g:V) (s:St):Res V:=optE (g.d?.bind D.gbl?) (optE (g.d?.bind D.bi?) .bad λb=>ox r cx b args s) λa=>if ke.contains a=Vn/\cx.inH=Vo then (bM (λe=>cond (a==244) (xZ r cx e) (r.ev cx e)) args s).bind λvs s=>eW r a vs s else .bad
theorem AU {b:Bi}{pos:Pos}{args:List Kb}(r:Sr k) (o:Ok k cx z) (d:At cx z s x) (f:aO args=Vn):aN cx z (aZ z) x (ox r cx b args s) (tr z (MZ pos b.val [] (Ms pos (LD args z.env)) [])):=by
 unfold ox;cases h:b.eq .set with
 | true=>
  refine aN.ite λg=>?_;refine rp (Bi.set_of h) ?_;refine rp g ?_;exact λQ E q=>fu (P:=λh=>z.c.hb.StaysIn h) rfl (jR .set) ⟨d.H.base,call_set_0 λe=>aN.fresh (so:=.set []) (P:=λQ E i=>Q (.ref x.h.objs.size) {x.S with heap:=x.h.push {cls:=.type "set",dict:=Vm,data:=.set #[] 0 (.fresh 0 0 e)}}) (tk:=x.S.toks) d rfl ⟨_,w3 rfl (setObjOf_fresh e) (LA _)⟩ (λQ E q=>q) Q E q⟩
 | false=>exact iM (first:=[]) (P:=λh=>z.c.hb.StaysIn h) f (eP (ek r cx) o d) (jR b) (λs y a _=>a.H.base) λvs j vals y n=>xk o n.at_ n.r
theorem AS {g:V}{f:Value}{pos:Pos}{args:List Kb}(r:Sr k) (o:Ok k cx z) (i:At cx z s x) (m:aZ z x f g) (p:aO args=Vn):aN cx z (aZ z) x (ow r cx args g s) (tr z (MZ pos f [] (Ms pos (LD args z.env)) [])):=by
 unfold ow;cases e:g.d?.bind D.gbl? with
 | some a=>exact aA e λd j l=>RD.onGbl (P:=λf=>aN cx z (aZ z) x _ (tr z (MZ pos f [] (Ms pos (LD args z.env)) []))) (m.onD j) l (aN.ite λq=>iM (first:=[]) (P:=λh=>z.c.hb.StaysIn h) p (eP _ o i) (mw o.B q.1) (λs y a _=>a.H.base) λvs t vals y n=>rO r o (o.hd q.2) n.at_ n.r)
 | none=>cases e:g.d?.bind D.bi? with
  | some b=>exact aA e λd j l=>RD.onBi (P:=λf=>aN cx z (aZ z) x (ox r cx b args s) (tr z (MZ pos f [] (Ms pos (LD args z.env)) []))) (m.onD j) l (AU r o i p)
  | none=>exact .bad
end
section
variable {k:Nat}{cx:Cx}
noncomputable def kg (r:Sr k) (f:Str) (p:Pos) (args:List Kb) (pos:Pos):Ev k cx (.Call (.Name f p) args [] pos):=⟨λs=>if aO args=Vn then (cK cx f s).bind λg s=>ow r cx args g s else .bad,λ{z s x} o a=>
 aN.ite λb=>((kF (pos:=p) o.B a).bind λg s c y n=>AS (pos:=pos) r o n.at_ n.r b).of λ_ _ h=>gG h⟩
noncomputable def X.dr (y:X) (d:S4):X:={ρ:=y.ρ,imm:=y.imm,led:=y.led,S:={y.S with drawn:=d}}
theorem Nx.dr {cx:Cx}{z:Z}{s:St}{x y:X}{r r':Prop}{d:S4}(n:Nx cx z x s y r) (h:r'):Nx cx z x s (y.dr d) r':=by
 obtain ⟨⟨H,F⟩,p,-⟩:=n;exact ⟨⟨⟨H.base,H.immIn,H.ledIn,H.nd,H.ledB,H.dis,H.len,H.foot,H.frs,H.fsI,H.imm0⟩,⟨F.kind,F.glb,F.blt,F.names,F.ns,F.cells,F.loc,F.ownI,F.cellI,F.cellO,F.cellL⟩⟩,⟨p.keep,p.alive,p.imm,p.immN,p.ledN,p.rho,p.rest.elim λh e=>e.elim λt e=>e.elim λa e=>y3 h t d (by show {y.S with drawn:=d}=_;rw[e])⟩,h⟩
theorem yK {z:Z}{s:St}{x:X}{b:Bi}{d o:D}{v:Value}(hh:z.A.handled=Vm) (a:At cx z s x) (rl:Gm z x v d) (h:nV b d=Vl o):aN cx z (aZ z) x (.ok (.d o) s) (λQ E y=>Km (Kn PR z.c.w) z.A (call (.type "set") [v]) (λI f=>z.c.hb.StaysIn f.heap/\Km (Kn PR z.c.w) z.A (call b.val [I]) Q E f) E y):=aA h λl e1 h=>aA h λj T h=>bD h λhz h=>RD.onLst (P:=λv=>aN cx z (aZ z) x (.ok (.d o) s) (λQ E y=>Km (Kn PR z.c.w) z.A (call (.type "set") [v]) (λI f=>z.c.hb.StaysIn f.heap/\Km (Kn PR z.c.w) z.A (call b.val [I]) Q E f) E y)) rl e1 λ{p us n} m _ U Q E q=>by
  refine xi hh (a.H.immIn _ m) (gq U T) (by walk_at "n") λu g k S=>?_;have n1:=a.kp (h':=u) (tk:=g) (ex:=[]) (r:=True) k (λ_ h=>nomatch h) trivial;have hl:(xc [] j).length<=j.length:=by have:=rF [] j;simpa using this
  refine ⟨n1.at_.H.base,?_⟩;cases b<;>first
   | exact au h
   | skip
  ·refine aC λR i=>?_;obtain rfl:=J9 h;obtain ⟨os,es,ep,t,g1,N,g3,G⟩:=S.at_;refine i ?_;have hs:=G.size;refine call_len_set (s:={x.S with heap:=u,toks:=g}) g1 N g3 G.fits (by walk_at "n") (q _ (x.gr u (g+1+1) []) (a.kp (ex:=[]) k (λ_ h=>nomatch h) ?_));show RD _ _ _ (.int ((ik j).length:Int));rw[show (ik j).length=es.size from hs.symm];exact .int _ _
  ·refine aC λR i=>?_;obtain rfl:=J9 h;refine i ?_;refine sw (s:={x.S with heap:=u,toks:=g}) hh S (by walk_at "n") λh2 C L K O c k2 nl M hI hv=>?_;have J:Kp x.h h2:=λb o e=>k2 b o (k b o e);have F:x.h.get? K=none:=by
    cases e:x.h.get? K with
    | none=>rfl
    | some o=>exact au (nl.symm.trans (k _ _ e))
   exact q _ ((x.gr h2 C [(K,lstO O c)]).dr L) (Nx.dr (a.kp (r:=True) J (λp Y=>by rw[Kg.mp Y];exact ⟨M,F⟩) trivial) (RD.lst (.head _) hv (jS hI)))
noncomputable def pg (cx:Cx) (f g:Str):Option Bi:=if cx.inH=Vo/\cx.names.lookup f=Vl .globalImplicit/\cx.names.lookup g=Vl .globalImplicit then (bY g ib).bind λd=>d.bi?.bind λb=>if b.eq .set=Vn then (bY f ib).bind D.bi? else Vm else Vm
noncomputable def ys (r:Sr k) (f:Str) (p:Pos) (g:Str) (m:Pos) (e:Kb) (i pos:Pos):Ev k cx (.Call (.Name f p) [.Call (.Name g m) [e] [] i] [] pos):=⟨λs=>optE (pg cx f g) .bad λb=>if bb e=Vm then ((r.ev cx e).f s).bind λv s=>okD (v.d?.bind (nV b)) s else .bad,λ{z s x} o a=>by
 cases h:pg cx f g with
 | none=>exact .bad
 | some b=>
  exact bD h λl h=>aA h λd e1 h=>aA h λb' S h=>bD h λN h=>aA h λd2 e3 e4=>by
   refine aC λGz j=>?_;obtain ⟨fv,t,T⟩:=jX (pos:=p) o.B a l.2.1 e3;obtain ⟨M,C,O⟩:=jX (pos:=m) o.B a l.2.2 e1;refine j ?_;rw[kh e4] at t;rw[kh S,Bi.set_of N] at C;obtain rfl:=show fv=b.val from t.view
   obtain rfl:=show M=.type "set" from C.view
   exact aN.ite λhs=>(((r.ev cx e).ok o a).bind (K:=λI Q E G=>z.c.hb.StaysIn G.heap/\Km (Kn PR z.c.w) z.A (call (.type "set") [I]) (λU F=>z.c.hb.StaysIn F.heap/\Km (Kn PR z.c.w) z.A (call b.val [U]) Q E F) E G) λv s1 I y n=>.opt λu Y=>aV Y λq J R=>aA J λd L e8=>R▸λQ E q=>⟨n.at_.H.base,yK (o.hd l.1) n.at_ (RV.onD n.r L) e8 Q E q⟩).of λQ E h=>gG (T _ _ (by
     refine fu (P:=λh=>z.c.hb.StaysIn h) rfl (jR b) ?_;rw[fm rfl];refine gG (O _ _ (fu (P:=λh=>z.c.hb.StaysIn h) rfl (jR .set) ?_));rw[fm hs];exact h))⟩
end
end
section
set_option linter.all false
noncomputable def cD (args:List Kb):Bool:=args.all λe=>(bb e).isNone
noncomputable def cZ (st:List SObj) (v:V) (m:Str):Option Addr:=v.loc?.bind λl=>(st[l]?).bind λo=>o.inst?.bind λa=>if get m a=Vm then bY m methods else Vm
section
variable {w:Ld}{A:Lc}{c:Cn}{cx:Cx}{z:Z}{s:St}{x y:X}{st:List SObj}{b:Value}{v u:V}{k:Nat}{vals:List Value}{vs:List V}{env:Env}{o:Kb}{m:Str}{ap p:Pos}{args:List Kb}
theorem ku:∀{args:List Kb},(Ms p (LD args env)).all (λx=>!x.1)=cD args:=@lr _ _ (rfl) (λe c b=>by
  show _=((bb e).isNone&&cD c);cases hs:bb e with
  | none=>
   rw[lv hs,<- b];rfl
  | some a=>
   obtain ⟨q,rfl⟩:=pA hs;rfl)
theorem oC {P:Value->eZ Value}{Q:Value->Kh->Prop}{E:Value->Kh->Prop}{S:Kh}(d:hF o=Vn) (f:(ap.endLine==p.line)=Vn) (hn:args.length<29) (h:Km (Kn PR w) A (MQ o env) (λa b=>P a Q E b) E S) (k:∀(a:Value) (b:Kh),P a Q E b->Km (Kn PR w) A (Pn o m ap p env a (args.length+0) (Ms p (LD args env)) (Pc p (NR [] env))) Q E b):Km (Kn PR w) A (MQ (.Call (.Attribute o m ap) args [] p) env) Q E S:=by
 show Km (Kn PR w) A (do
  let a <- RP o m env (MQ o env)
  UY ap.atName
  Pn o m ap p env a (args.length+0) (Ms p (LD args env)) (Pc p (NR [] env))) Q E S
 rw[vE d];exact Kc (KN h (λa b c=>Kc (Mi (k a b c))) λ_ _ e=>e)
abbrev rZ (w:Ld) (A:Lc) (env:Env) (m:Str) (p:Pos) (args:List Kb) (e:Value):eZ Value:=λQ E c=>∀d,Km (Kn PR w) A (getMethod e m d) (λa b=>Km (Kn PR w) A (MZ p a.1 a.2 (Ms p (LD args env)) []) Q E b) E c
abbrev rY (w:Ld) (A:Lc) (env:Env) (m:Str) (p:Pos) (args:List Kb) (c:Value):eZ Value:=λQ E a=>Km (Kn PR w) A (NY c m Vn) (λf b=>Km (Kn PR w) A (MZ p f [] (Ms p (LD args env)) []) Q E b) E a
theorem FG {b:Value}{Q:Value->Kh->Prop}{E:Value->Kh->Prop}{S:Kh}(d:(ap.endLine==p.line)=Vn) (hn:args.length<29) (hs:cD args=Vn) (h:rZ w A env m p args b Q E S):Km (Kn PR w) A (Pn o m ap p env b (args.length+0) (Ms p (LD args env)) (Pc p (NR [] env))) Q E S:=by
 unfold Pn;have a:PM (args.length+0) (Ms p (LD args env)) (Pc p (NR [] env))=true:=by
  unfold PM;rw[ku,hs];show (Vn&&Vn&&decide (args.length+0+0<30))=Vn;simp;walk_at "n"
 rw[a];refine Kc (Lm (KN (h _) (λg f c=>?_) λ_ _ e=>e));unfold methodCallPos;rw[d];exact Kc (Ko c)
theorem star_of' {b:Value}{Q:Value->Kh->Prop}{E:Value->Kh->Prop}{S:Kh}(hs:cD args=Vo) (h:rY w A env m p args b Q E S):Km (Kn PR w) A (Pn o m ap p env b (args.length+0) (Ms p (LD args env)) (Pc p (NR [] env))) Q E S:=by
 unfold Pn;have a:PM (args.length+0) (Ms p (LD args env)) (Pc p (NR [] env))=false:=by
  unfold PM;rw[ku,hs];rfl
 rw[a];refine Kc (Lm ?_);exact Kc (KN h (λf d c=>Ko (Kc (Ko c))) λ_ _ e=>e)
theorem pb (P:LB):methods.all (λp=>O0 (KK P) (.ref bJ) p.1==Vl (Vl (.ref p.2))&&(isFn (KK P) (.ref p.2)&&((specialIn (KK P) (.ref p.2) "__get__"==Vl (Vl (.builtin "function.__get__")))&&((takesIn (KK P) (.ref p.2)==Vl Vo)&&(!copiedNames.contains p.1&&(fnIn (KK P) p.2&&ke.contains p.2))))))=true:=rfl
theorem mo (P:LB){m:Str}{a:Addr}(h:bY m methods=Vl a):O0 (KK P) (.ref bJ) m=Vl (Vl (.ref a))/\isFn (KK P) (.ref a)=Vn/\specialIn (KK P) (.ref a) "__get__" = Vl (Vl (.builtin "function.__get__"))/\takesIn (KK P) (.ref a)=Vl Vo/\copiedNames.contains m=Vo/\fnIn (KK P) a=Vn/\ke.contains a=true:=by
 have h:=Kk.mp (KP.mp (pb P) _ (iD h));have b:=Kk.mp h.2;have e:=Kk.mp b.2;have c:=Kk.mp e.2;have d:=Kk.mp c.2;have f:=Kk.mp d.2;exact w6 (beq_iff_eq.mp h.1) b.1 (beq_iff_eq.mp e.1) (beq_iff_eq.mp c.1) ((KL _).mp d.1) f
noncomputable def E0 (r:Sr k) (cx:Cx) (args:List Kb) (a:Addr) (v:V) (s:St):Res V:=if cx.inH=Vo then (bM (r.ev cx) args s).bind λus s=>eW r a (v::us) s else .bad
theorem yI {e:Value}{a:Addr}(H:HI c st x) (l:RV c.w x.ρ x.imm e v) (h:cZ st v m=Vl a):bY m methods=Vl a/\∃b d es n,e=.ref b/\InstAt x.h b (jE d) bJ (Vl (NN es n))/\UF m es=Vl none:=H.on (P:=λe=>bY m methods=Vl a/\∃b d es n,e=.ref b/\InstAt x.h b (jE d) bJ (Vl (NN es n))/\UF m es=Vl Vm) l h λ_ j h=>aA h λf g h=>bD h λk h=>by
  obtain ⟨d,es,n,_,i,_,I⟩:=(pE g▸j:Thing c st x _ _ _ (.inst f)).inst H;have:=i.2 m;rw[k] at this;exact ⟨h,y4 _ d es n (w3 rfl I this)⟩
theorem Cf {i:Value}{a:Addr}(r:Sr k) (ok:Ok k cx z) (b:At cx z s x) (g:aZ z x i v) (h:cZ s.st v m=Vl a) (q:aO args=Vn):aN cx z (aZ z) x (E0 r cx args a v s) (rZ z.c.w z.A z.env m p args i):=aN.ite λt=>by
 refine aC λJ f=>?_;obtain ⟨F,j,d,u,n,rfl,I,hg⟩:=yI b.H g h;obtain ⟨o,C,R,O,K,N,l⟩:=mo z.c.w.params F;refine f ?_;have e:aN cx z (aZ z) x ((bM (r.ev cx) args s).bind λG s=>eW r a (v::G) s) (tr z (MZ p (.ref a) [.ref j] (Ms p (LD args z.env)) [])):=iM (first:=[.ref j]) (P:=λh=>z.c.hb.StaysIn h) q (eP _ ok b) (mw ok.B l) (λs y a _=>a.H.base) λvs M vals y n=>rO r ok (ok.hd t) n.at_ (.cons (g.up n.adv) n.r);exact e.of λQ E h L=>method_fn (ok.B.kin b.H.base) I (Nb (fy z.c.w.params m)).1 (Nb (fy z.c.w.params m)).2 o (beq_iff_eq.mp C) (by show (lookIn m (NN u n)).map _=_;rw[Q3,hg];rfl) h
theorem aN.back {β α:Type}{RB:X->β->α->Prop}{res:Res α}{P:eZ β}(p:Adv z.c z.own x y) (h:aN cx z RB y res P){Q:β->Kh->Prop}{E:Value->Kh->Prop}(q:eL cx z RB x res Q E):P Q E y.S:=h Q E (q.adv p)
theorem yH {l:Value}{a:Addr}(r:Sr k) (ok:Ok k cx z) (e:At cx z s x) (j:aZ z x l v) (h:cZ s.st v m=Vl a) (F:aO args=Vn):aN cx z (aZ z) x (E0 r cx args a v s) (rY z.c.w z.A z.env m p args l):=aN.ite λG=>by
 refine aC λGz g=>?_;obtain ⟨N,b,d,es,n,rfl,I,hg⟩:=yI e.H j h;obtain ⟨u,M,U,R,J,L,Y⟩:=mo z.c.w.params N;refine g ?_;have X:=ok.B.kin e.H.base;have i:Nx cx z x s (x.gr (x.h.push (Pd (.ref a) (.ref b))) (x.S.toks+1) [(x.h.objs.size,Pd (.ref a) (.ref b))]) True:=e.kp (aM _ _) (λp C=>by rw[Kg.mp C];exact ⟨Kq _ rfl,bF _⟩) trivial;have f:aN cx z (aZ z) (x.gr (x.h.push (Pd (.ref a) (.ref b))) (x.S.toks+1) [(x.h.objs.size,Pd (.ref a) (.ref b))]) ((bM (r.ev cx) args s).bind λO s=>eW r a (v::O) s) (tr z (MZ p (.ref x.h.objs.size) [] (Ms p (LD args z.env)) [])):=by
  refine iM (first:=[]) (P:=λh=>MethP (KK z.c.w.params) x.h.objs.size a (.ref b) h) F (eP _ ok i.at_) (λh T=>keeps_M L h T) (λs y t K=>⟨t.H.immIn (x.h.objs.size,Pd (.ref a) (.ref b)) (K.imm _ (.head _)),ok.B.kin t.H.base⟩) λvs s2 vals y n=>λQ E q=>?_;have o:y.h.get? x.h.objs.size=Vl (Pd (.ref a) (.ref b)):=n.at_.H.immIn (x.h.objs.size,Pd (.ref a) (.ref b)) (n.adv.imm _ (.head _));exact Od (method_call o (rK r ok (ok.hd G) n.at_ (.cons ((j.up i.adv).up n.adv) n.r) Q E q))
 exact λQ E q=>get_bind X I (Nb (fy z.c.w.params m)).1 (findObj_fn (gZ _) u U R J (by rw[Q3,hg])) (Nb (fy z.c.w.params m)).2 (Od (fn_get (s:={x.S with toks:=x.S.toks+1}) X (beq_iff_eq.mp M) (handed_on rfl (f.back i.adv q))))
theorem F6 {d:Value}{bm:BM}(r:Sr k) (ok:Ok k cx z) (b:At cx z s x) (g:aZ z x d v) (h:hS s.st v m=Vl bm) (j:aO args=Vn):aN cx z (aZ z) x ((bM (r.ev cx) args s).bind λus s=>GO s.fr (iW s.st bm v us)) (rZ z.c.w z.A z.env m p args d):=(iM (first:=[d]) (pos:=p) (P:=λh=>z.c.hb.StaysIn h) j (eP (r.ev cx) ok b) (mu (f:=.builtin bm.id) (λa e=>nomatch e)) (λs y a _=>a.H.base) λvs o vals y n=>HG ok.B (by have:=ok.units;lia) n.at_ (g.up n.adv) n.r).of λQ E i l=>Cy b.H g h _ _ _ _ i
noncomputable def qL (st:List SObj) (v:V) (m:Str):Option (Array UInt8×Nat):=if m=sn "read" then v.loc?.bind λl=>(st[l]?).bind SObj.tape? else Vm
noncomputable def nU (r:Sr k) (p:Array UInt8×Nat) (us:List V) (s:St):Res V:=optE (fc us V.d?) .bad λd=>uc s.fr (r.rd p.1 p.2 d s.st)
theorem FK (P:LB):UC (KK P) bL (sn "read")=Vn/\O0 (KK P) (.ref bL) (sn "read")=Vl none:=⟨rfl,rfl⟩
theorem yz {f j:Addr}{q:Array UInt8×Nat}(r:Sr k) (o:Ok k cx z) (hh:z.A.handled=Vm) (a:At cx z s x) (p:x.ρ[q.2]?=Vl j) (m:FnIs x.imm f q.1 j) (rs:dJ z x vals vs):aN cx z (aZ z) x (nU r q vs s) (tr z (call (.ref f) vals)):=by
 unfold nU;cases h:fc vs V.d? with
 | none=>exact .bad
 | some d=>
  refine gD (P:=λvals=>aN cx z (aZ z) x (uc s.fr (r.rd q.1 q.2 d s.st)) (tr z (call (.ref f) vals))) rs h λ{v u} _ w e Q E=>?_;have h:=λt=>r.rdOk q.1 q.2 d s.st (fr:=s.fr) o hh a p m (w.onD e) Q E t;cases l:r.rd q.1 q.2 d s.st with
  | bad=>exact λq=>PD q
  | ok v n=>exact λq=>Od (h (by rw[l];exact λb y g c i=>q b y ⟨⟨g,a.F.adv c⟩,c.weak (λ_ h=>nomatch h),i⟩))
  | exn e C n=>exact λq=>Od (h (by rw[l];exact λb y g c i=>q b y ⟨⟨g,a.F.adv c⟩,c.weak (λ_ h=>nomatch h),i⟩))
theorem Hj {a:Imm}{h:Heap}{f c:Addr}{b:Array UInt8}(d:∀p∈a,h.get? p.1=Vl p.2) (e:FnIs a f b c):FnAt f h:=by
 obtain ⟨z,m⟩:=e;exact y4 _ _ _ _ (d _ m)
theorem xY {j:Value}{q:Array UInt8×Nat}(r:Sr k) (ok:Ok k cx z) (b:At cx z s x) (O:aZ z x j v) (h:qL s.st v m=Vl q) (R:aO args=Vn):aN cx z (aZ z) x (if cx.inH=Vo then (bM (r.ev cx) args s).bind λus s=>nU r q us s else .bad) (rZ z.c.w z.A z.env m p args j):=aN.ite λT=>
 bD h λhm h=>b.H.on (P:=λj=>aN cx z (aZ z) x ((bM (r.ev cx) args s).bind λus s=>nU r q us s) (rZ z.c.w z.A z.env m p args j)) O h λ{l a ft o} _ N L=>by
  refine rp hm ?_;refine aC λM g=>?_;obtain rfl:=BS L;obtain ⟨rfl,al,hal,ti⟩:=N.foot;obtain ⟨Y,K,e1,J⟩:=ti;refine g ?_;rename_i d f U n;refine aC λM g=>?_;obtain ⟨C,F⟩:=FK z.c.w.params;refine g ?_;have I:InstAt x.h a (I0 d) bL (Vl (NN U n)):=⟨b.H.immIn _ Y,rfl,rfl,b.H.immIn _ K⟩
  have X:=ok.B.kin b.H.base;have G:Nx cx z x s (x.gr x.h (x.S.toks+1) []) True:=b.kp (ex:=[]) (λ_ _ e=>e) (λ_ h=>nomatch h) trivial;have i:aN cx z (aZ z) (x.gr x.h (x.S.toks+1) []) ((bM (r.ev cx) args s).bind λus s=>nU r q us s) (tr z (MZ p (.ref f) [] (Ms p (LD args z.env)) [])):=iM (first:=[]) (P:=λh=>FnAt f h) R (eP _ ok G.at_) keeps_F (λs y t h3=>Hj t.H.immIn (J.mono λp u=>h3.imm p u)) λvs s1 vals y n=>yz r ok (ok.hd T) n.at_ (n.adv.rho _ _ hal) (J.mono λp u=>n.adv.imm p u) n.r;exact λQ E q pl=>method_usual X I (Nb C).1 (Nb C).2 F rfl (get_value X I (Nb C).1 (Vh (vm _) F rfl (by rw[Q3];exact e1)) rfl (i.back G.adv q))
end
section
variable {k:Nat}{cx:Cx}
noncomputable def gI (r:Sr k) (cx:Cx) (m:Str) (args:List Kb) (v:V) (s:St):Res V:=optE (cZ s.st v m) (optE (hS s.st v m) (optE (qL s.st v m) .bad λq=>if cD args=Vn then (if cx.inH=Vo then (bM (r.ev cx) args s).bind λus s=>nU r q us s else .bad) else .bad) λbm=>if cD args=Vn then (bM (r.ev cx) args s).bind λus s=>GO s.fr (iW s.st bm v us) else .bad) λa=>E0 r cx args a v s
theorem za {z:Z}{s:St}{x:X}{f:Value}{v:V}{m:Str}{p:Pos}{args:List Kb}(r:Sr k) (ok:Ok k cx z) (b:At cx z s x) (e:aZ z x f v) (d:aO args=Vn):aN cx z (aZ z) x (gI r cx m args v s) (rZ z.c.w z.A z.env m p args f):=by
 unfold gI;cases h:cZ s.st v m with
 | some a=>exact Cf r ok b e h d
 | none=>cases h:hS s.st v m with
  | none=>cases h:qL s.st v m with
   | none=>exact .bad
   | some q=>exact aN.ite λ_=>xY r ok b e h d
  | some g=>exact aN.ite λ_=>F6 r ok b e h d
theorem wr {z:Z}{s:St}{x:X}{d:Value}{v:V}{m:Str}{p:Pos}{args:List Kb}(r:Sr k) (ok:Ok k cx z) (b:At cx z s x) (g:aZ z x d v) (f:aO args=Vn) (hs:cD args=Vo):aN cx z (aZ z) x (gI r cx m args v s) (rY z.c.w z.A z.env m p args d):=by
 unfold gI;cases h:cZ s.st v m with
 | some a=>exact yH r ok b g h f
 | none=>cases h:hS s.st v m with
  | none=>cases h:qL s.st v m with
   | none=>exact .bad
   | some q=>exact aN.ite λe=>nomatch hs.symm.trans e
  | some i=>exact aN.ite λe=>nomatch hs.symm.trans e
noncomputable def GU (r:Sr k) (o:Kb) (m:Str) (ap:Pos) (args:List Kb) (p:Pos):Ev k cx (.Call (.Attribute o m ap) args [] p):=⟨λs=>if hF o=Vn/\aO args=Vn/\(ap.endLine==p.line)=Vn/\args.length<29 then ((ek r cx o).f s).bind λv s=>gI r cx m args v s else .bad,λ{z s x} ok a=>aN.ite λb=>by
 cases hs:cD args with
 | true=>exact (((ek r cx o).ok ok a).bind (K:=λd=>rZ z.c.w z.A z.env m p args d) λv s d y n=>za r ok n.at_ n.r b.2.1).of λQ E h=>oC (P:=rZ z.c.w z.A z.env m p args) b.1 b.2.2.1 b.2.2.2 h λd e h=>FG b.2.2.1 b.2.2.2 hs h
 | false=>exact (((ek r cx o).ok ok a).bind (K:=λd=>rY z.c.w z.A z.env m p args d) λv s d y n=>wr r ok n.at_ n.r b.2.1 hs).of λQ E h=>oC (P:=rY z.c.w z.A z.env m p args) b.1 b.2.2.1 b.2.2.2 h λd e h=>star_of' hs h⟩
end
end
section
set_option linter.all false
noncomputable def hX (e:Kb):Bool:=match e with
 | .ListComp _ _ _ _=>Vn
 | .SetComp _ _ _ _=>Vn
 | .DictComp _ _ _ _ _=>Vn
 | _=>Vo
noncomputable def jq (e:Kb):Bool:=match e with
 | .Tuple _ _ _=>Vn
 | _=>Vo
noncomputable def s6 (e:Kb):Option Str:=match e with
 | .Name x _=>Vl x
 | _=>Vm
noncomputable def DD (e:Kb):Option (List Kb):=match e with
 | .Tuple es _ _=>Vl es
 | _=>Vm
noncomputable def nz (cx:Cx):List Kb->List V->Option (List (Str×V))
 | [],vs=>LW vs (Vl []) λ_ _=>Vm
 | e::es,vs=>LW vs Vm λv r=>(s6 e).bind λx=>if bC (cx.names.lookup x)=Vn then (nz cx es r).map ((x,v)::·) else Vm
noncomputable def GF (v:V):Option (List V):=(v7 v).or (V.casesOn v (λ_=>Vm) (λ_=>Vm) (λ_=>Vm) (λ_=>Vm) λl d=>Vl [.loc l,.d d])
noncomputable def dB (cx:Cx) (t:Kb) (v:V):Option (List (Str×V)):=((s6 t).bind λx=>if bC (cx.names.lookup x)=Vn then Vl [(x,v)] else Vm).or ((DD t).bind λes=>(GF v).bind λvs=>nz cx es vs)
section
variable {w:Ld}{A:Lc}{c:Cn}{cx:Cx}{z:Z}{s:St}{x y:X}{st:List SObj}{b val:Value}{v u:V}{k:Nat}{vals:List Value}{vs:List V}{env:Env}{e t:Kb}
theorem pv {n:Str}(h:s6 e=Vl n):∃p,e=.Name n p:=by cases e<;>first | exact au h | exact ⟨_,by rw[J9 h]⟩
theorem tup_of' {es:List Kb}(h:DD e=Vl es):∃n p,e=.Tuple es n p:=by cases e<;>first | exact au h | exact y2 _ _ (by rw[J9 h])
theorem lO {t:Option Kb}{n:Nat}(h:hX e=Vo):R8 e t n env=pure false:=by cases e<;>first | rfl | cases h
theorem x8 {ts:List Kb}{n:Nat}{p:Pos}(h:jq e=Vo):UR [.Tuple ts n p] e env=pure none:=by cases e<;>first | rfl | cases h
theorem EI.quiet {own:List Addr}{fr:List (Str×V)}(F:EI c cx env own fr x):Ve env=false:=by unfold Ve;rw[F.kind];rfl
theorem RVs.length {ρ:List Addr}{a:Imm}(h:RVs w ρ a vals vs):vals.length=vs.length:=h.ind (M:=λvs b=>vs.length=b.length) rfl λ_ _ e=>congrArg Nl e
theorem fR {n:Str}{p:Pos}{Q:Unit->Kh->Prop}{E:Value->Kh->Prop}(a:At cx z s x) (hn:bC (cx.names.lookup n)=Vn) (b:aZ z x val v) (h:∀y,Nx cx z x ⟨aY n v s.fr,s.st⟩ y (Gg x y)->Q () y.S):Km (Kn PR z.c.w) z.A (Nk (.Name n p) z.env val) Q E x.S:=by
 rw[Rd];exact Kc (Mi (Rm (gY a hn b h)))
theorem vL {env:Env}:∀{es:List Kb}{vs:List V}{a:List (Str×V)},nz cx es vs=Vl a->(Oh es env).findIdx? (·.1)=Vm/\(Oh es env).length=vs.length:=@lr _ _ (@λvs a h=>by
  cases vs with
  | cons=>exact au h
  | nil=>exact ⟨rfl,rfl⟩)
 (λe es d=>(@λvs a h=>by
  cases vs with
  | nil=>exact au h
  | cons v vs=>
   refine aA h λn c b=>bD b λj b=>aV b λf g k=>?_;obtain ⟨p,rfl⟩:=pv c;have i:=d g;refine ⟨?_,congrArg Nl i.2⟩;show TE _ ((Vo,Nk (.Name n p) env)::Oh es env)=Vm;rw[List.findIdx?_cons,i.1];rfl))
theorem ue {Q:Unit->Kh->Prop}{E:Value->Kh->Prop}:∀{es:List Kb}{vals:List Value}{vs:List V}{f:List (Str×V)}{fr:List (Str×V)}{x:X},nz cx es vs=Vl f->At cx z ⟨fr,st⟩ x->dJ z x vals vs->
  (∀y,Nx cx z x ⟨eF f fr,st⟩ y True->Q () y.S)->Km (Kn PR z.c.w) z.A (RQ ((Oh es z.env).map (·.2)) vals) Q E x.S:=
 @lr _ _
 (@λvals vs f fr x b a g h=>by
  cases vs with
  | cons=>exact au b
  | nil=>
   obtain rfl:vals=[]:=g.view;obtain rfl:=J9 b;exact Ko (h x (a.go trivial)))
 (λe es k=>(@λvals vs f fr x b a g h=>by
  cases vs with
  | nil=>exact au b
  | cons v vs=>
   refine aA b λn j b=>bD b λi b=>aV b λo t s=>?_;obtain ⟨p,rfl⟩:=pv j;obtain ⟨q,d,rfl,r1,r2⟩:=g.view;subst s;show Km _ _ (do Qw _ (Nk (.Name n p) z.env q);RQ ((Oh es z.env).map (·.2)) d) _ _ _;exact Kc (Lm (fR a i r1 λy m=>k t m.at_ (r2.mono (λ_ _ e=>m.r.1▸e) λ_ h=>m.r.2▸h) λw l=>h w ⟨l.at_,m.adv.trans l.adv,trivial⟩))))
theorem B5 {P:Value->Prop}(a:At cx z s x) (c:aZ z x val v) (h:GF v=Vl vs) (i:∀{p us n},x.h.get? p=Vl (lstO us n)->dJ z x us vs->P (.ref p)) (f:∀{p us n},x.h.get? p=Vl (dU us n)->dJ z x us vs->P (.ref p)):P val:=cL h (λh=>aA h λd g h=>aV h λl h e=>cL h (λh=>(c.onD g).onLst h λm _ r=>i (a.H.immIn _ m) (e▸ph r)) λh=>(c.onD g).onTup h λm _ r=>f (a.H.immIn _ m) (e▸ph r)) λh=>by
  cases v with
  | pair l d=>
   obtain ⟨p,b,u,n,rfl,m,h1,h2⟩:=c;obtain rfl:=J9 h;exact f (a.H.immIn _ m) (.cons ⟨b,rfl,h1⟩ (.cons h2 .nil))
  | _=>exact au h
theorem jw {r:List (Str×V)}(hh:z.A.handled=Vm) (a:At cx z s x) (H:aZ z x val v) (J:dB cx t v=Vl r):aN cx z RU x (.ok () ⟨eF r s.fr,s.st⟩) (tr z (Nk t z.env val)):=cL J (λh=>aA h λn C h=>bD h λj K=>by
  obtain ⟨p,rfl⟩:=pv C;refine rq (J9 K) ?_;exact λQ E q=>fR a j H λy m=>q () y ⟨m.at_,m.adv,trivial⟩)
 λh=>aA h λi C h=>aA h λvs L f=>by
  obtain ⟨n,p,rfl⟩:=tup_of' C;obtain ⟨G,F⟩:=vL (env:=z.env) f;have l:∀(Q:Unit->Kh->Prop) (E:Value->Kh->Prop) (d:List Value) (h':Heap),eL cx z RU x (.ok () ⟨eF r s.fr,s.st⟩) Q E->dJ z x d vs->Heap.ExtBut x.h.objs.size x.h h'->Km (Kn PR z.c.w) z.A (RQ ((Oh i z.env).map (·.2)) d) Q E {x.S with heap:=h'}:=λQ E d h' q g k=>
   have I:=a.kp (h':=h') (tk:=x.S.toks) (ex:=[]) (λb o e=>k b o (L1 (Lz e)) e) (λ_ h=>nomatch h) trivial
   ue (x:=x.gr h' x.S.toks []) f I.at_ g λy m=>q () y ⟨m.at_,I.adv.trans m.adv,trivial⟩
  refine B5 (P:=λval=>aN cx z RU x (.ok () ⟨eF r s.fr,s.st⟩) (tr z (Nk (.Tuple i n p) z.env val))) a H L (λ{q d m} j g Q E u=>?_) λ{q d m} j g Q E u=>?_
  ·rw[show tr z (Nk (.Tuple i n p) z.env (.ref q)) Q E x.S=Km (Kn PR z.c.w) z.A (Nk (.Tuple i n p) z.env (.ref q)) Q E x.S from rfl,T7];refine Kc (Mi ?_);unfold unpack;rw[G,show (Oh i z.env).length=d.toArray.size by rw[Kw,g.length];exact F];exact Kc (Lm (kun_itemsOf hh (aJ j) λh' k=>l Q E d h' u g k))
  ·rw[show tr z (Nk (.Tuple i n p) z.env (.ref q)) Q E x.S=Km (Kn PR z.c.w) z.A (Nk (.Tuple i n p) z.env (.ref q)) Q E x.S from rfl,T7];refine Kc (Mi ?_);exact wpAny_unpack_tuple hh (dn j) (by rw[Kw,g.length];exact F) G λh' k=>l Q E d h' u g k
end
end
section
set_option linter.all false
section
variable {w:Ld}{A:Lc}{env:Env}{E:Value->Kh->Prop}{S:Kh}
theorem lX {vs a:List Value}{Q:Unit->Kh->Prop}(h:Q () S):Km (Kn PR w) A (release vs a) Q E S:=λΓ p b=>by rw[OW.wp_release];exact h
theorem Dp {o:Kb}{m:Str}{p:Pos}{v:Value}{Q:Unit->Kh->Prop}(h:Km (Kn PR w) A (MQ o env) (λb a=>Km (Kn PR w) A (OV b m v) Q E a) E S):Km (Kn PR w) A (Nk (.Attribute o m p) env v) Q E S:=by
 rw[arm_assign_Attribute];exact Kc (Lm (KN h (λb a c=>Kc (Mi (Kc (Lm (KN c (λ_ f d=>lX d) λ_ _ e=>e))))) λ_ _ e=>e))
theorem vG {o i:Kb}{p:Pos}{v:Value}{Q:Unit->Kh->Prop}(h:Km (Kn PR w) A (MQ o env) (λd b=>Km (Kn PR w) A (MQ i env) (λc a=>Km (Kn PR w) A (NI d c v) Q E a) E b) E S):Km (Kn PR w) A (Nk (.Subscript o i p) env v) Q E S:=by
 rw[arm_assign_Subscript];exact Kc (Lm (KN h (λd b f=>Kc (Lm (KN f (λc a g=>Kc (Mi (Kc (Lm (KN g (λ_ k j=>lX j) λ_ _ e=>e))))) λ_ _ e=>e))) λ_ _ e=>e))
theorem lI {ts:List Kb}{e:Kb}{pos:Pos}{a:List (Value->OW Unit)}{Q:QA->Kh->Prop}(g:RN ts e pos.line env=pure Vo) (f:UR ts e env=pure Vm) (i:(Oh ts env).map (·.2)=a) (h:Km (Kn PR w) A (MQ e env) (λv b=>Km (Kn PR w) A (assignAll v a) (λ_=>Q Mm) E b) E S):Km (Kn PR w) A (exec (.Assign ts e pos) env) Q E S:=by
 rw[arm_exec_Assign];refine Kc (Mi (Kc ?_));rw[g];refine Ko (Kc (KN h (λv b c=>?_) λ_ _ e=>e));rw[f];refine Kc (Ko ?_);refine rp i ?_;exact Kc (KN c (λ_ _ d=>Ko d) λ_ _ e=>e)
end
section
variable {k:Nat}{cx:Cx}{e o i t:Kb}(a:Ev k cx e) (T:Ts k cx t) (r:Sr k)
theorem fH {z:Z}{y:X}:RF z y .next .next:=rfl
theorem aN.next {z:Z}{x:X}{P:eZ Unit}{res:Res Unit}(h:aN cx z RU x res P):aN cx z (RF z) x (res.bind λ_ s=>.ok .next s) (λQ E s=>P (λ_=>Q Mm) E s):=λQ E q=>h _ E (q.bind (.refl _ _ _) (λ_ s b y n c=>c _ y ⟨n.at_,n.adv,rfl⟩) λ_ _ _ _ y n a=>a y n)
noncomputable def Hp (pos:Pos):Ex k cx (.Expr e pos):=⟨λs=>if hX e=Vo then (a.f s).bind λ_ s=>.ok .next s else .bad,λ{z s x} ok b=>aN.ite λh=>
 ((a.ok ok b).bind (K:=λ_ Q _ c=>Q Mm c) λv s1 d y n=>.done n.at_ fH).of λQ E h'=>wpAny_Expr_any h' b.F.quiet (lO h)⟩
noncomputable def EP (pos:Pos):Ex k cx (.Return (Vl e) pos):=⟨λs=>(a.f s).bind λv s=>.ok (.ret v) s,λ{z s x} ok b=>
 ((a.ok ok b).bind (K:=λv Q _ c=>Q (UV v) c) λv s1 d y n=>.done n.at_ ⟨d,rfl,n.r⟩).of λQ E h'=>wpAny_Return_some h'⟩
noncomputable def JN (b d:List Stmt) (pos:Pos):Ex k cx (.If t b d pos):=⟨λs=>(T.f s).bind λc s=>cond c ((r.xs cx b).f s) ((r.xs cx d).f s),λok a=>pT T ok a ((r.xs cx b).ok ok) ((r.xs cx d).ok ok) λ_ _ h=>wpAny_If h⟩
noncomputable def Dq (m:Option Kb) (pos:Pos):Ex k cx (.Assert t m pos):=⟨λs=>(T.f s).bind λc s=>cond c (.ok .next s) .bad,λ{z s x} ok a=>
 ((T.ok ok a).bind (K:=λb Q _ e=>b=Vn/\Q Mm e) λb s1 d y n=>by
  refine rq (show d=b from n.r) ?_;cases d with
  | true=>exact .pure n.at_ rfl λQ E q=>⟨rfl,q⟩
  | false=>exact .bad).of λQ E h'=>wpAny_Assert_holds h'⟩
noncomputable def lH (n:Str) (p pos:Pos):Ex k cx (.Assign [.Name n p] e pos):=⟨λs=>if hX e=Vo/\bC (cx.names.lookup n)=Vn then (a.f s).bind λv s=>.ok .next ⟨aY n v s.fr,s.st⟩ else .bad,λ{z s x} ok b=>aN.ite λh=>
 ((a.ok ok b).bind (K:=λv Q E d=>Km (Kn PR z.c.w) z.A (Og z.env n v) (λ_=>Q Mm) E d) λv s1 g y m=>.store m.at_ h.2 m.r λ_ _=>fH).of λ_ _ h'=>TO h' (lO h.1)⟩
theorem uA {env:Env}{t e:Kb}{n:Nat}(h:hX e=Vo):RN [t] e n env=pure false:=lO h
theorem EH {env:Env}{o e:Kb}{m:Str}{p:Pos}{n:Nat}:RN [.Attribute o m p] e n env=pure false:=by
 show R8 e (Vl (.Attribute o m p)) n env=_;unfold R8;cases e<;>rfl
noncomputable def xp (ts:List Kb) (n:Nat) (p pos:Pos):Ex k cx (.Assign [.Tuple ts n p] e pos):=⟨λs=>if hX e=Vo/\jq e=Vo/\cx.inH=Vo then (a.f s).bind λv s=>(cP (dB cx (.Tuple ts n p) v) s).bind λd s=>.ok .next ⟨eF d s.fr,s.st⟩ else .bad,λ{z s x} ok b=>aN.ite λh=>
 ((a.ok ok b).bind (K:=λv Q E g=>Km (Kn PR z.c.w) z.A (Nk (.Tuple ts n p) z.env v) (λ_=>Q Mm) E g) λv s1 j y m=>by
  cases i:dB cx (.Tuple ts n p) v with
  | none=>exact .bad
  | some d=>exact aN.next (jw (ok.hd h.2.2) m.at_ m.r i)).of λ_ _ h'=>lI (uA h.1) (x8 h.2.1) rfl h'⟩
noncomputable def nv (m:Str) (p pos:Pos):Ex k cx (.Assign [.Attribute o m p] e pos):=⟨λs=>(a.f s).bind λv s=>((ek r cx o).f s).bind λd s=>(jD s.fr (cN s.st d m v)).bind λ_ s=>.ok .next s,λ{z s x} ok g=>
 ((a.ok ok g).bind (K:=λv Q E b=>Km (Kn PR z.c.w) z.A (MQ o z.env) (λd b=>Km (Kn PR z.c.w) z.A (OV d m v) (λ_=>Q Mm) E b) E b) λv s1 j y n=>((ek r cx o).ok ok n.at_).bind (K:=λd Q E b=>Km (Kn PR z.c.w) z.A (OV d m j) (λ_=>Q Mm) E b) λd s2 l y2 h=>.next (lU ok.B h.at_ h.r (n.r.up h.adv))).of λ_ _ h'=>lI EH rfl rfl (KN h' (λv b i=>Dp i) λ_ _ e=>e)⟩
noncomputable def uE (s:St) (b a v:V):Res Unit:=optE (a.d?.bind D.int?) .bad λi=>jD s.fr (eD s.st b i v)
theorem qt {z:Z}{s:St}{x:X}{b a val:Value}{v j u:V}(c:At cx z s x) (l:aZ z x b v) (e:aZ z x a j) (g:aZ z x val u):aN cx z RU x (uE s v j u) (tr z (NI b a val)):=by
 unfold uE;cases h:j.d?.bind D.int? with
 | none=>exact .bad
 | some i=>exact aA h λd f k=>RD.onInt (P:=λa=>aN cx z RU x (jD s.fr (eD s.st v i u)) (tr z (NI b a val))) (e.onD f) k λt=>qs c l g
noncomputable def Be (p pos:Pos):Ex k cx (.Assign [.Subscript o i p] e pos):=⟨λs=>if hX e=Vo then (a.f s).bind λv s=>((ek r cx o).f s).bind λg s=>((r.ev cx i).f s).bind λb s=>(uE s g b v).bind λ_ s=>.ok .next s else .bad,λ{z s x} ok m=>aN.ite λh=>
 ((a.ok ok m).bind (K:=λv Q E d=>Km (Kn PR z.c.w) z.A (MQ o z.env) (λg d=>Km (Kn PR z.c.w) z.A (MQ i z.env) (λb j=>Km (Kn PR z.c.w) z.A (NI g b v) (λ_=>Q Mm) E j) E d) E d) λv s1 t y n=>((ek r cx o).ok ok n.at_).bind (K:=λg Q E d=>Km (Kn PR z.c.w) z.A (MQ i z.env) (λb j=>Km (Kn PR z.c.w) z.A (NI g b t) (λ_=>Q Mm) E j) E d) λg s2 u y2 q=>
  ((r.ev cx i).ok ok q.at_).bind (K:=λb Q E j=>Km (Kn PR z.c.w) z.A (NI u b t) (λ_=>Q Mm) E j) λb F G y3 l=>.next (qt l.at_ (q.r.up l.adv) l.r ((n.r.up q.adv).up l.adv))).of
  λ_ _ h'=>lI (uA h) rfl rfl (KN h' (λv d C=>vG C) λ_ _ e=>e)⟩
noncomputable def Bd (n:Str) (p t pos:Pos):Ex k cx (.Assign [.Subscript o i p,.Name n t] e pos):=⟨λs=>if bC (cx.names.lookup n)=Vn then (a.f s).bind λv s=>((ek r cx o).f s).bind λd s=>((r.ev cx i).f s).bind λg s=>(uE s d g v).bind λ_ s=>.ok .next ⟨aY n v s.fr,s.st⟩ else .bad,λ{z s x} ok q=>aN.ite λh=>
 ((a.ok ok q).bind (K:=λv Q E j=>Km (Kn PR z.c.w) z.A (MQ o z.env) (λd j=>Km (Kn PR z.c.w) z.A (MQ i z.env) (λg F=>Km (Kn PR z.c.w) z.A (NI d g v) (λ_ C=>Km (Kn PR z.c.w) z.A (Og z.env n v) (λ_=>Q Mm) E C) E F) E j) E j) λv s1 N y m=>((ek r cx o).ok ok m.at_).bind λd s2 P y2 l=>
  ((r.ev cx i).ok ok l.at_).bind λg R O y3 b=>(qt b.at_ (l.r.up b.adv) b.r ((m.r.up l.adv).up b.adv)).bind λ_ L _ y4 u=>.store u.at_ h (((m.r.up l.adv).up b.adv).up u.adv) λ_ _=>fH).of
  λ_ _ h'=>lI rfl rfl rfl (KN h' (λv j G=>by
   show Km _ _ (do Qw [v] (Nk (.Subscript o i p) z.env v);Nk (.Name n t) z.env v) _ _ _;refine Kc (Lm (vG (KN G (λd F I=>KN I (λg C J=>KN J (λ_ M H=>?_) λ_ _ e=>e) λ_ _ e=>e) λ_ _ e=>e)));rw[Rd];exact Kc (Mi (Rm H))) λ_ _ e=>e)⟩
noncomputable def Dn (op:Nw) (v u:V):Option D:=v.d?.bind λd=>u.d?.bind λe=>HO op d e
noncomputable def Jd (op:Nw) (m:Str) (p pos:Pos):Ex k cx (.AugAssign (.Attribute o m p) op e pos):=⟨λs=>((ek r cx o).f s).bind λj s=>(cP (cG s.st j m) s).bind λold s=>(a.f s).bind λv s=>(okD (Dn op old v) s).bind λb s=>(jD s.fr (cN s.st j m b)).bind λ_ s=>.ok .next s,λ{z s x} ok g=>
 (((ek r cx o).ok ok g).bind λj s1 q y n=>(aN.opt (P:=tr z (NY q m Vn)) λu h=>(vF ok.B n.at_.H n.r h).refV n.at_).bind λold s2 A y2 i=>(a.ok ok i.at_).bind λv I t y3 c=>
  (aN.optD (T:=QT op A t) c.at_ λd h=>aA h λJ w h=>aA h λF C h=>Bb (RV.onD (i.r.up c.adv) w) (RV.onD c.r C) h).bind λb G E y4 l=>.next (lU ok.B l.at_ (((n.r.up i.adv).up c.adv).up l.adv) l.r)).of λ_ _ h'=>wpAny_AugAssign_AttributeAny h'⟩
noncomputable def qZ (st:List SObj) (v:V) (i:Int):Option D:=(v.ls? st).bind λl=>(ki l.length i).bind λk=>l[k]?
theorem zR {z:Z}{s:St}{x:X}{b:Value}{v:V}{i:Int}{t:PP}{d:D}(a:At cx z s x) (m:aZ z x b v) (h:qZ s.st v i=Vl d):fT z.c.w z.A x (OE b (.int i t)) d:=aA h λl g h=>aA h λk j h=>a.H.lsL (T:=λb=>OE b (.int i t)) m g λf z e=>Ee f z e j h
noncomputable def HN (op:Nw) (j:Int) (n:Nat) (I p pos:Pos):Ex k cx (.AugAssign (.Subscript o (.Constant (.int j) n I) p) op e pos):=⟨λs=>((ek r cx o).f s).bind λi s=>(okD (qZ s.st i j) s).bind λold s=>(a.f s).bind λv s=>(okD (Dn op old v) s).bind λb s=>(jD s.fr (eD s.st i j b)).bind λ_ s=>.ok .next s,λ{z s x} ok m=>
 (((ek r cx o).ok ok m).bind (K:=λi Q E R=>Km (Kn PR z.c.w) z.A (MQ (.Constant (.int j) n I) z.env) (λJ N=>Km (Kn PR z.c.w) z.A (OE i J) (λold C=>Km (Kn PR z.c.w) z.A (MQ e z.env) (λv t=>Km (Kn PR z.c.w) z.A (QT op old v) (λb F=>Km (Kn PR z.c.w) z.A (NI i J b) (λ_=>Q Mm) E F) E t) E C) E N) E R) λi s1 H y g=>λQ E q=>
  Qg (((aN.optD (x:=y.gr y.h (y.S.toks+1) []) (T:=OE H (.int j y.S.toks)) (g.at_.kp (ex:=[]) (r:=True) (λ_ _ e=>e) (λ_ h=>nomatch h) trivial).at_ λd h=>zR (g.at_.kp (ex:=[]) (r:=True) (λ_ _ e=>e) (λ_ h=>nomatch h) trivial).at_ g.r h).bind (K:=λold Q E C=>Km (Kn PR z.c.w) z.A (MQ e z.env) (λv t=>Km (Kn PR z.c.w) z.A (QT op old v) (λb F=>Km (Kn PR z.c.w) z.A (NI H (.int j y.S.toks) b) (λ_=>Q Mm) E F) E t) E C) λold s2 O y2 G=>(a.ok ok G.at_).bind λv s3 L y3 l=>
   (aN.optD (T:=QT op O L) l.at_ λd h=>aA h λd1 P h=>aA h λU M h=>Bb (RV.onD (G.r.up l.adv) P) (RV.onD l.r M) h).bind λb Y vn y4 u=>.next (qs u.at_ (((g.r.up (g.at_.kp (ex:=[]) (r:=True) (λ_ _ e=>e) (λ_ h=>nomatch h) trivial).adv).up G.adv).up l.adv |>.up u.adv) u.r)) Q E (q.adv (g.at_.kp (ex:=[]) (r:=True) (λ_ _ e=>e) (λ_ h=>nomatch h) trivial).adv))).of
  λ_ _ h'=>wpAny_AugAssign_SubscriptAny h'⟩
noncomputable def AG (s:St) (b a:V):Res Unit:=optE (a.d?.bind D.int?) .bad λi=>jD s.fr (kI s.st b i)
theorem AE {z:Z}{s:St}{x:X}{b a:Value}{v j:V}(c:At cx z s x) (k:aZ z x b v) (e:aZ z x a j):aN cx z RU x (AG s v j) (tr z (Rg b a)):=by
 unfold AG;cases h:j.d?.bind D.int? with
 | none=>exact .bad
 | some i=>exact aA h λd f g=>RD.onInt (P:=λa=>aN cx z RU x (jD s.fr (kI s.st v i)) (tr z (Rg b a))) (e.onD f) g λt=>AD c k
noncomputable def I3 (p pos:Pos):Ex k cx (.Delete [.Subscript o i p] pos):=⟨λs=>((ek r cx o).f s).bind λb s=>((r.ev cx i).f s).bind λa s=>(AG s b a).bind λ_ s=>.ok .next s,λ{z s x} ok g=>
 (((ek r cx o).ok ok g).bind (K:=λb Q E l=>Km (Kn PR z.c.w) z.A (MQ i z.env) (λa d=>Km (Kn PR z.c.w) z.A (Rg b a) (λ_=>Q Mm) E d) E l) λb s1 m y n=>((r.ev cx i).ok ok n.at_).bind (K:=λa Q E d=>Km (Kn PR z.c.w) z.A (Rg m a) (λ_=>Q Mm) E d) λa s2 C y2 j=>
  .next (AE j.at_ (n.r.up j.adv) j.r)).of λ_ _ h=>wpAny_Delete (by
  exact Kc (wpAny_delete_Subscript (KN h (λb l q=>KN q (λa d t=>KN t (λ_ v u=>Ko u) λ_ _ e=>e) λ_ _ e=>e) λ_ _ e=>e)))⟩
end
end
section
set_option linter.all false
section
variable {cx:Cx}{z:Z}{s s0:St}{x x₀ y:X}{k:Nat}{kc:D}{args:List D}{ea L T:Addr}{outer:List Env}{nt:Bool}
theorem dX.weak {c:Cn}(h:dX nt c x₀ y ea kc args):dX Vo c x₀ y ea kc args:=⟨h.1,h.2.imp λ_ h=>h.imp λ_ h=>h.imp λ_ h=>h.imp λ_ h=>h.imp λ_ h=>⟨h.1,h.2.imp (λh=>⟨rfl,h.2⟩) id⟩⟩
theorem E7 {c:Cn}{st:List SObj}{b:Addr}{o:Obj}{vs:Array Value}(H:HI c st y) (e:y.h.get? b=Vl o) (d:o.data=.fields vs):b∉c.fa:=λm=>(H.frs.mem m).2.elim λa h=>h.2 vs (by rw[<- d,J9 (e.symm.trans h.1)])
theorem yS (H:HI z.c s.st y) (p:Adv z.c z.own x₀ y){a:Addr}(h:a=y.h.objs.size):Fresh x₀ y a:=h▸⟨λm=>(H.laIn m).elim λo e=>au ((bF _).symm.trans e),λq d b=>au ((bF _).symm.trans (b▸H.immIn q d)),p.dead (bF _)⟩
theorem kT {i:Value}{hn:Bool}{Q:Unit->Kh->Prop}{E:Value->Kh->Prop}(k:z.c.fs=z.env::outer) (hf:z.env.frame=Vl L) (hA:z.A.frames=Vl z.c.fs) (a0:At cx z s0 x₀) (n:Nx cx z x₀ s y (dX nt z.c x₀ y ea kc args)) (h:∀w,Nx cx z x₀ s w (dX Vn z.c x₀ w ea kc args)->Q () w.S):Km (Kn PR z.c.w) z.A (do Nh (.ref ea) 1 (<- OX i (<- frameOf z.env) .none (Lq L) .none (<- U3 L hn))) Q E y.S:=by
 have H:=n.at_.H;refine aC λY d=>?_;obtain ⟨f,oe,vs,t,ws,m,X,e7⟩:=n.r;refine d ?_;have C:1<vs.size:=e7.elim (λe=>(MJ.mp e.2).1) λe=>e.elim λT e=>e.elim λoT e=>e.elim λI e=>(MJ.mp e.at_).1;have N:=E7 H X.get X.data;refine Kc (wpAny_frameOf_fun (k▸hA) (k▸H.frs) hf λa g=>?_);rw[show (z.env::outer).filterMap (·.frame)=z.c.fa by unfold Cn.fa;rw[k]] at g;refine Kc (wpAny_entryPlaceOf λpl J=>?_);unfold OX Pa;refine Kc (LV ?_ (J.sizeOk5 _ _ _ _ _));refine aC λY d=>?_;obtain ⟨oT,I,U,O,M,R⟩:∃oT I,({cls:=.type "traceback",dict:=Vm,data:=.fields ([i,.ref L,.none,Lq L,.none]++(if pl.isEmpty then LP 6 Nj else pl)).toArray}:Obj)=oT/\oT.data=.fields I/\3<I.size/\oT.isFreed=false:=(y2 _ _ (w4 rfl rfl (by rw[Kw,Kj];exact L3 (by decide:3<5) (OS 5 _)) rfl))
 refine d ?_;rw[U];have l:a.get? ea=Vl oe:=(g.2.1 ea N).trans X.get;have v:=KI (h:=a) oT l;refine M7 v X.data C ?_;have F:a.objs.size≠ea:=O1 (Lz l);have G:=MK X.data (·.setIfInBounds 1 (M8 a.objs.size));have x:=Ln (Mx (·.setIfInBounds 1 (M8 a.objs.size))) v (MN G);have p:=(L6 (a.push oT) (Mx (·.setIfInBounds 1 (M8 a.objs.size))) (LQ F)).trans (Kq a R);generalize K:(a.push oT).update ea (Mx (·.setIfInBounds 1 (M8 a.objs.size)))=h₃ at x p;have j:∀b o,b≠ea->a.get? b=Vl o->h₃.get? b=Vl o:=λb o u e=>by
  rw[<- K,L6 _ _ (LQ u)];exact KI _ e
 have P:=yS H n.adv g.1;refine h (y.gr h₃ y.S.toks []) (Nx.heap (W:=λb=>b=ea) a0 n (λb o e=>?_) (λb e=>e▸f) (λ_ h=>nomatch h) ⟨⟨f.la,f.imm,f.new⟩,y5 _ _ t ws m ⟨⟨x,(SJ ..).trans X.cls,G,?_,X.tup,X.le,X.rs⟩,.inr (y3 _ oT I ⟨?_,F,p,O,M,⟨P.la,P.imm,P.new⟩⟩)⟩⟩)
 ·by_cases u:b=ea
  ·exact .inl u
  ·by_cases m:b∈z.c.fa
   ·refine aC λY d=>?_;obtain ⟨sl,q⟩:=g.2.2 b o e;refine d ?_;exact .inr (.inr ⟨m,sl,j b _ u q⟩)
   ·exact .inr (.inl (j b o u ((g.2.1 b m).trans e)))
 ·rw[P0 (by decide)];exact X.arg
 ·exact O8 C
theorem rm {g oT:Obj}{vs ts:Array Value}{t:Addr}{i:List Value}{m:Nat}{v:Value}{r:Prop}(j:At cx z s0 x₀) (n:Nx cx z x₀ s y r) (f:Fresh x₀ y ea) (X:EO z.c y ea kc args g vs t i m) (B:TB x₀ y ea T oT ts vs[1]?):Nx cx z x₀ s (y.gr (y.h.update T (Mx (·.setIfInBounds 3 v))) y.S.toks []) (dX Vn z.c x₀ (y.gr (y.h.update T (Mx (·.setIfInBounds 3 v))) y.S.toks []) ea kc args):=by
 have a:∀b o,b≠T->y.h.get? b=Vl o->(y.h.update T (Mx (·.setIfInBounds 3 v))).get? b=Vl o:=λb o k e=>(L6 _ _ (LQ k)).trans e;have d:=MK B.data (·.setIfInBounds 3 v);exact Nx.heap (W:=λb=>b=T) j n (λb o e=>if q:b=T then .inl q else .inr (.inl (a b o q e))) (λb e=>e▸B.off) (λ_ h=>nomatch h) ⟨⟨f.la,f.imm,f.new⟩,y5 g vs t i m ⟨⟨a _ _ (LQ B.ne) X.get,X.cls,X.data,X.arg,X.tup,X.le,X.rs⟩,.inr (y3 T _ _ ⟨B.at_,B.ne,Ln (Mx (·.setIfInBounds 3 v)) B.get (MN d),d,by rw[Array.size_setIfInBounds];exact B.size,⟨B.off.la,B.off.imm,B.off.new⟩⟩)⟩⟩
theorem gm {Q:Unit->Kh->Prop}{E:Value->Kh->Prop}(a:z.c.fs=z.env::outer) (b:z.env.frame=Vl L) (i:z.A.frames=Vl z.c.fs) (d:At cx z s0 x₀) (n:Nx cx z x₀ s y (dX nt z.c x₀ y ea kc args)) (h:∀w,Nx cx z x₀ s w (dX Vn z.c x₀ w ea kc args)->Q () w.S):Km (Kn PR z.c.w) z.A (noteFrame (.ref ea) z.env) Q E y.S:=by
 refine aC λp e=>?_;obtain ⟨f,l,j,t,o,m,X,g⟩:=n.r;refine e ?_;unfold noteFrame;rw[b];refine g.elim (λg=>Kc (Nu X.get X.data g.2 (kT a b i d n h))) λ⟨T,oT,k,B⟩=>?_;refine Kc (Nu X.get X.data B.at_ ?_);show Km _ _ (do
  if (<- Vf (.ref T) 3)==Lq L then return
  Nh (.ref T) 3 .none
  Nh (.ref ea) 1 (<- OX (.ref T) (<- frameOf z.env) .none (Lq L) .none (<- U3 L _))) _ _ _
 refine Kc (Nu B.get B.data (Le B.size) ?_);split
 ·exact Ko (h y ⟨n.at_,n.adv,f,l,j,t,o,m,X,.inr (y3 T oT k B)⟩)
 ·exact Kc (M7 B.get B.data B.size (kT a b i d (rm (v:=.none) d n f X B) h))
theorem fW {f:Option Addr}{Q:Unit->Kh->Prop}{E:Value->Kh->Prop}(a:At cx z s0 x₀) (n:Nx cx z x₀ s y (dX Vn z.c x₀ y ea kc args)) (h:∀w,Nx cx z x₀ s w (dX Vn z.c x₀ w ea kc args)->Q () w.S):Km (Kn PR z.c.w) z.A (setFlight (.ref ea) f) Q E y.S:=by
 obtain ⟨b,j,g,t,k,m,X,d⟩:=n.r;refine d.elim (λe=>nomatch e.1) λ⟨T,oT,i,B⟩=>?_;unfold setFlight;refine Kc (Nu X.get X.data B.at_ ?_);exact M7 B.get B.data B.size (h _ (rm a n b X B))
theorem s9 {Q:Unit->Kh->Prop}{E:Value->Kh->Prop}(o:Ok k cx z) (d:cx.comp=Vo) (b:At cx z s0 x₀) (n:Nx cx z x₀ s y (dX nt z.c x₀ y ea kc args)) (h:∀w,Nx cx z x₀ s w (dX Vn z.c x₀ w ea kc args)->Q () w.S):Km (Kn PR z.c.w) z.A (U2 z.env (.ref ea)) Q E y.S:=by
 obtain ⟨L,outer,a,e⟩:=o.top d;unfold U2;exact Kc (gm a e o.frames b n λw m=>fW b m h)
abbrev Bw (c:Cn) (A:Lc) (env:Env) (E:Value->Kh->Prop):Value->Kh->Prop:=notedBy (Kn PR c.w) A env λe a=>Rq (Kn PR c.w) A env E e a
theorem vA {E:Value->Kh->Prop}(o:Ok k cx z) (i:cx.comp=Vo) (b:At cx z s0 x₀) (n:Nx cx z x₀ s y (dX nt z.c x₀ y ea kc args)) (h:∀w,Nx cx z x₀ s w (dX Vo z.c x₀ w ea kc args)->E (.ref ea) w.S):Bw z.c z.A z.env E (.ref ea) y.S:=by
 obtain ⟨L,outer,a,d⟩:=o.top i;refine gm a d o.frames b n λw m=>?_;obtain ⟨f,q,j,t,u,v,X,g⟩:=m.r;refine g.elim (λe=>nomatch e.1) λ⟨T,oT,p,B⟩=>?_;unfold Rq;refine Kc (Nu X.get X.data B.at_ ?_);rw[if_neg (show ¬((M8 T==Nj)=Vn) from LX)];exact fW b m λw l=>h w ⟨l.at_,l.adv,l.r.weak⟩
theorem eL.bindN {α β γ δ:Type}{e:X->δ->γ->Prop}{RB:X->β->α->Prop}{res:Res γ}{f:γ->St->Res α}{Q:β->Kh->Prop}{d:δ->Kh->Prop}{E:Value->Kh->Prop}(p:Adv z.c z.own x₀ x) (h:eL cx z RB x₀ (res.bind f) Q E) (o:Ok k cx z) (g:cx.comp=Vo) (a:At cx z s x) (q:∀a (s:St) b y,Nx cx z x s y (e y b a)->eL cx z RB x₀ (f a s) Q E->d b y.S):eL cx z e x res d (Bw z.c z.A z.env E):=h.bind p q λ_ _ _ _ _ n i=>vA o g a n i
theorem eL.noted {α β:Type}{RB:X->β->α->Prop}{res:Res α}{Q:β->Kh->Prop}{E:Value->Kh->Prop}(h:eL cx z RB x res Q E) (o:Ok k cx z) (b:cx.comp=Vo) (a:At cx z s x):eL cx z RB x res Q (Bw z.c z.A z.env E):=by
 cases res with
 | bad=>exact h
 | ok a s=>exact h
 | exn k d s=>exact λea y n=>vA o b a n λw=>h ea w
end
end
section
set_option linter.all false
noncomputable def p8 (f:Fl) (s:St) (k:St->Res Fl):Res Fl:=Fl.casesOn f (k s) (.ok .next s) (k s) λv=>.ok (.ret v) s
section
variable {k:Nat}{cx:Cx}{t:Kb}
noncomputable def oG (T:Ts k cx t) (r:Sr k) (body els:List Stmt):Nat->St->Res Fl
 | 0,_=>.bad
 | n+1,s=>(T.f s).bind λb s=>cond b (((r.xs cx body).f s).bind λf s=>p8 f s (oG T r body els n)) ((r.xs cx els).f s)
noncomputable def iS (r:Sr k) (cx:Cx) (t:Kb) (body els:List Stmt):List V->St->Res Fl
 | [],s=>(r.xs cx els).f s
 | v::vs,s=>(cP (dB cx t v) s).bind λa s=>((r.xs cx body).f ⟨eF a s.fr,s.st⟩).bind λf s=>p8 f s (iS r cx t body els vs)
end
section
variable {cx:Cx}{z:Z}{s s0:St}{x x₀ y w:X}{k:Nat}{t:Kb}{body els:List Stmt}{Q:QA->Kh->Prop}{E:Value->Kh->Prop}{vs:List V}{b:Addr}
theorem rW {f:Fl}{a:QA}{g:St->Res Fl}{P:Prop}(n:Nx cx z x₀ s y (RF z y a f)) (h:eL cx z (RF z) x₀ (p8 f s g) Q E) (c:eL cx z (RF z) x₀ (g s) Q E->P):match a with
  | .next=>P
  | .cont=>P
  | .brk=>Q .next y.S
  | .ret v=>Q (.ret v) y.S:=by
 have r:=n.r;cases f with
 | next=>obtain rfl:=r;exact c h
 | cont=>obtain rfl:=r;exact c h
 | brk=>obtain rfl:=r;exact h _ y ⟨n.at_,n.adv,fH⟩
 | ret v=>obtain ⟨b,rfl,rv⟩:=r;exact h _ y ⟨n.at_,n.adv,b,rfl,rv⟩
def HT (T:Ts k cx t) (r:Sr k) (body els:List Stmt) (z:Z) (Q:QA->Kh->Prop) (E:Value->Kh->Prop) (n:Nat) (S:Kh):Prop:=∃y s1,S=y.S/\At cx z s1 y/\eL cx z (RF z) y (oG T r body els n s1) Q E
noncomputable def Er (T:Ts k cx t) (r:Sr k) (body els:List Stmt) (pos:Pos):Ex k cx (.While t body els pos):=⟨λs=>if cx.comp=Vo then oG T r body els 1000000 s else .bad,λ{z s x} o a=>aN.ite λd Q E h=>by
 refine wpAny_While (codeAny_whileLoop (HT T r body els z Q E) ?_ 1000000 (y2 x s (w3 rfl a h)));intro n _ c;obtain ⟨y,s1,rfl,ay,h⟩:=c;cases n with
 | zero=>exact h.elim
 | succ n=>
  refine T.ok o ay _ _ (h.bindN (.refl _ _ _) o d ay λb s2 i w m hz=>?_);obtain rfl:=show i=b from m.r
  cases i with
  | true=>
   refine (r.xs cx body).ok o m.at_ _ _ (eL.bindN m.adv hz o d m.at_ λf e p u l j=>?_);have:=rW (P:=∃m,m<n+1/\HT T r body els z Q E m u.S) (⟨l.at_,m.adv.trans l.adv,l.r⟩:Nx cx z y e u _) j λg=>⟨n,L8 _,y2 u e (w3 rfl l.at_ (g.adv (m.adv.trans l.adv)))⟩
   cases p<;>exact this
  | false=>exact (r.xs cx els).ok o m.at_ _ _ (eL.noted (hz.adv m.adv) o d m.at_)⟩
structure Walk (cx:Cx) (z:Z) (x₀:X) (it:Value) (t:Kb) (vs:List V) (J:Nat->X->Prop):Prop where
 keep:∀i s s' y w,J i y->Nx cx z x₀ s y True->Nx cx z y s' w True->J i w
 step:∀i d s y (Q:Option Value->Kh->Prop) (E:Value->Kh->Prop),J i y->Nx cx z x₀ s y True->vs[i]?=Vl d->
  (∀v S,(∀(Q:Unit->Kh->Prop) (E:Value->Kh->Prop),(∀w,Nx cx z x₀ s w (aZ z w v d)->J (i+1) w->Q () w.S)->Km (Kn PR z.c.w) z.A (Oz t it v) Q E S)->Q (Vl v) S)->Km (Kn PR z.c.w) z.A (Qh it) Q E y.S
 stop:∀i s y (Q:Option Value->Kh->Prop) (E:Value->Kh->Prop),J i y->Nx cx z x₀ s y True->vs[i]?=Vm->(∀w,Nx cx z x₀ s w True->Q Vm w.S)->Km (Kn PR z.c.w) z.A (Qh it) Q E y.S
def H0 (r:Sr k) (cx:Cx) (t:Kb) (body els:List Stmt) (z:Z) (x₀:X) (vs:List V) (J:Nat->X->Prop) (Q:QA->Kh->Prop) (E:Value->Kh->Prop) (n:Nat) (S:Kh):Prop:=∃y s1 i,i+n=vs.length/\S=y.S/\Nx cx z x₀ s1 y True/\J i y/\eL cx z (RF z) x₀ (iS r cx t body els (vs.drop i) s1) Q E
theorem vj {it:Value}{J:Nat->X->Prop}(r:Sr k) (o:Ok k cx z) (H:cx.comp=Vo) (N:cx.inH=Vo) (W:Walk cx z x₀ it t vs J) (L:Nx cx z x₀ s x True) (j:J 0 x) (h:eL cx z (RF z) x₀ (iS r cx t body els vs s) Q E):Mu (Kn PR z.c.w) z.A (.forLoop t it body els z.env) (λr C=>match r with | .ok f=>Q f C | .error e=>Rq (Kn PR z.c.w) z.A z.env E e C) x.S:=by
 refine codeAny_forLoop_any (H0 r cx t body els z x₀ vs J Q E) ?_ vs.length (y3 x s 0 (w5 (LY _) rfl L j h));intro n _ b;obtain ⟨y,d,i,R,rfl,ny,jy,h⟩:=b;cases n with
 | zero=>
  rw[List.drop_eq_nil_of_le (by lia)] at h;exact W.stop i d y _ _ jy ny (O7 (by lia)) λw m=>(r.xs cx els).ok o m.at_ _ _ (eL.noted (h.adv m.adv) o H m.at_)
 | succ n=>
  have G:i<vs.length:=by lia
  rw[Ml G] at h;refine W.step i vs[i] d y _ _ jy ny (Ki G) λv S M=>M _ _ λw m O=>?_;change eL cx z (RF z) x₀ ((cP (dB cx t vs[i]) d).bind _) Q E at h;cases q:dB cx t vs[i] with
  | none=>rw[q] at h;exact h.elim
  | some U=>
   rw[q] at h;refine jw (o.hd N) m.at_ m.r q _ _ λ_ T a=>?_;refine (r.xs cx body).ok o a.at_ _ _ (eL.bindN (m.adv.trans a.adv) h o H a.at_ λf F I u l K=>?_);have p:=(m.adv.trans a.adv).trans l.adv;have:=rW (P:=∃m,m<n+1/\H0 r cx t body els z x₀ vs J Q E m u.S) (⟨l.at_,p,l.r⟩:Nx cx z x₀ F u _) K λg=>⟨n,L8 _,y3 u F (i+1) (w5 (by lia) rfl ⟨l.at_,p,trivial⟩ (W.keep _ _ _ _ _ O ⟨m.at_,m.adv,trivial⟩ ⟨l.at_,a.adv.trans l.adv,trivial⟩) g)⟩
   cases I<;>exact this
theorem Fresh.keep {c:Cn}{own:List Addr}{o:Obj}(f:Fresh x₀ y b) (e:y.h.get? b=Vl o) (p:Adv c own y w):Fresh x₀ w b:=⟨λm=>(p.ledN b m).elim f.la λa=>au (a.symm.trans e),λq d a=>(p.immN q d).elim (λm=>f.imm q m a) λh=>h.elim (λh=>au ((a▸h).symm.trans e)) λh=>f.la (a▸h),f.new⟩
theorem Fresh.same {o:Obj}(a:At cx z s0 x₀) (f:Fresh x₀ y b) (e:y.h.get? b=Vl o) (p:Adv z.c z.own y w):w.h.get? b=Vl o:=(p.keep b o e (λm=>(a.F.ownI b m).2.2.2.elim λo e=>au (f.new.symm.trans e)) f.la).elim id λm=>(a.H.frs.mem m.1).2.elim λo e=>au (f.new.symm.trans e.1)
noncomputable def sT:List String:=["enumerate","zip","dict_itemiterator","dict_reverseitemiterator","odict_iterator","itertools.zip_longest","itertools.pairwise"]
theorem hU {e:Ld}{A:Lc}{I:Addr}{v:Value}{S:Kh}{o:Obj}{us:Array Value}{T:String}{Q:Unit->Kh->Prop}{E:Value->Kh->Prop}(b:S.heap.get? I=Vl o) (d:o.cls=.type T) (a:o.data=.fields us) (c:sT.contains T=Vo) (h:Q () S):Km (Kn PR e) A (Oz t (.ref I) v) Q E S:=by
 unfold Oz;cases t<;>first
  | exact Ko h
  | skip
 all_goals
  cases v<;>first
   | exact Ko h
   | skip
  refine Kc (Tq b ?_);rw[d,a];show Km _ _ (if (sT.contains T&&_)=Vn then _ else _) _ _ _;rw[c,QP,if_neg LX];exact Ko h
structure It (wd:Ld) (A:Lc) (imm:Imm) (I:Addr) (vs:List V) (R:Value->V->Prop) (fp:List Addr) (n:Nat) (P:Nat->Value->Prop) (St:Nat->Heap->Prop) (T:String):Prop where
 W:Q2 PR wd A I fp [I] n P St
 len:vs.length=n
 rv:∀i v d,P i v->vs[i]?=Vl d->R v d
 fp:∀b∈fp,b=I\/∃o,(b,o)∈imm
 obj:∀i h,St i h->∃o us,h.get? I=Vl o/\o.cls=.type T/\o.data=.fields us
 own:sT.contains T=Vo
theorem It.walk {I:Addr}{G:List Addr}{n:Nat}{P:Nat->Value->Prop}{St:Nat->Heap->Prop}{T:String}{a:Imm}{R:Value->V->Prop}(u:At cx z s0 x₀) (i:It z.c.w z.A a I vs R G n P St T) (F:∀p∈a,p∈x₀.imm) (O:∀v d,R v d->aZ z x₀ v d):Walk cx z x₀ (.ref I) t vs (λi y=>St i y.h/\Fresh x₀ y I/\i<=n) where
 keep:=λj s Y y w h n m=>by
  obtain ⟨o,K,e,_⟩:=i.obj _ _ h.1;exact ⟨i.W.frame j _ _ h.1 λb J o' x=>(i.fp b J).elim (λq=>by subst q;exact h.2.1.same u x m.adv) λq=>q.elim λo2 q=>by
   have r:=n.at_.H.immIn _ (n.adv.imm _ (F _ q));refine rp (J9 (x.symm.trans r)) ?_;exact m.at_.H.immIn _ (m.adv.imm _ (n.adv.imm _ (F _ q))),h.2.1.keep e m.adv,h.2.2⟩
 step:=λj d s y Q E h m g q=>by
  have C:j<n:=i.len▸(Kd.mp g).1;refine i.W.item j y.S Q E C h.1 λv h' tk N f l=>q v _ λQ' E' U=>?_;obtain ⟨o,K,L,r,M⟩:=i.obj _ _ f;have k:=Nx.heap (h':=h') (tk:=tk) (ex:=[]) (W:=λb=>b=I) u m (λb o e=>if q:b=I then .inl q else .inr (.inl (l b o (λm=>q (Kg.mp m)) e))) (λb e=>e▸h.2.1) (λ_ h=>nomatch h) trivial;exact hU L r M i.own (U (y.gr h' tk []) ⟨k.at_,k.adv,(O v d (i.rv j v d N g)).up k.adv⟩ (w3 f ⟨h.2.1.la,h.2.1.imm,h.2.1.new⟩ C))
 stop:=λj s y Q E h m g q=>by
  have e:j=n:=Ol h.2.2 (i.len▸KY.mp g);subst e;exact i.W.done y.S Q E h.1 λh' tk l=>q (y.gr h' tk []) (Nx.heap (W:=λb=>b=I) u m (λb o e=>if q:b=I then .inl q else .inr (.inl (l b o (λm=>q (Kg.mp m)) e))) (λb e=>e▸h.2.1) (λ_ h=>nomatch h) trivial)
end
end
section
set_option linter.all false
section
variable {wd:Ld}{cx:Cx}{z:Z}{s s0:St}{x x₀ y w:X}{k:Nat}{t:Kb}{vs:List V}{a b:Addr}{val:Value}{v:V}{d:D}{ds:List D}{R:Value->V->Prop}
def Bu (z:Z) (x:X) (vs:List V) (P:eZ Value):Prop:=∀(Q:Value->Kh->Prop) (E:Value->Kh->Prop),(∀o a n b St T,It z.c.w z.A x.imm x.h.objs.size vs (aZ z x) a n b St T->St 0 (x.h.push o)->o.isFreed=Vo->Q (.ref x.h.objs.size) {x.S with heap:=x.h.push o})->P Q E x.S
theorem oL {imm:Imm}{I a:Addr}{o:Obj}(m:(a,o)∈imm):∀b∈[I,a],b=I\/∃o,(b,o)∈imm:=λb c=>(Kt.mp c).imp id λc=>⟨o,by rw[Kg.mp c];exact m⟩
theorem pp {imm:Imm}{I:Addr}:∀b∈[I],b=I\/∃o,(b,o)∈imm:=λb a=>.inl (Kg.mp a)
theorem pu (I:Im x){o:Obj}(m:(a,o)∈x.imm):a≠x.h.objs.size:=L1 (Lz (I _ m))
theorem eQ {o:Obj}(h:o.isFreed=Vo):(x.h.push o).get? x.h.objs.size=Vl o:=Kq _ h
theorem kA {α:Type}{f:α->V}{l:List α}{i:Nat}{d:V}(h:(l.map f)[i]?=Vl d):∃p,l[i]?=Vl p/\d=f p:=by
 rw[Ks] at h;exact (KV.mp h).imp λ_ h=>⟨h.1,h.2.symm⟩
theorem yB {us:List Value}(r:RDs z.c.w x.imm us ds) (i:Nat) (v:Value) (d:V) (b:us.toArray[i]?=Vl v) (e:(ds.map V.d)[i]?=Vl d):aZ z x v d:=by
 obtain ⟨g,a,rfl⟩:=kA e;obtain ⟨u,f,r⟩:=r.get a;rw[NU,f] at b;exact J9 b▸r
abbrev io (z:Z) (val:Value):eZ Value:=tr z (Rn val)
theorem qS (hh:z.A.handled=Vm) (I:Im x) (j:Gm z x val d) (N:items d=Vl ds):Bu z x (ds.map .d) (io z val):=cL N (λh=>j.onLst (P:=λval=>Bu z x (ds.map .d) (io z val)) h λ{a J n} m H r Q E q=>by
  have k:=aJ (I _ m);exact Qu k (q _ _ _ _ _ "list_iterator" ⟨T8 hh x.h.objs.size a (pu I m) J.toArray,by rw[Ka,Kw,r.length],yB r,oL m,λi h c=>c.1.imp λo e=>⟨_,e⟩,by decide⟩ ⟨⟨_,w3 (eQ rfl) rfl rfl⟩,k.push _⟩ rfl))
 λh=>cL h (λh=>j.onTup (P:=λval=>Bu z x (ds.map .d) (io z val)) h λ{a J n} m H r Q E q=>by
  have k:=dn (I _ m);exact Qf k (q _ _ _ _ _ "tuple_iterator" ⟨Q2.tuple hh x.h.objs.size a (pu I m) J.toArray,by rw[Ka,Kw,r.length],yB r,oL m,λi h c=>c.1.imp λo e=>⟨_,e⟩,by decide⟩ ⟨⟨_,w3 (eQ rfl) rfl rfl⟩,k.push _⟩ rfl))
 λh=>cL h (λh=>aA h λp s h=>bD h λC g=>j.onRng (P:=λval=>Bu z x (ds.map .d) (io z val)) s λ{a t u w} m Q E q=>by
  obtain rfl:=J9 g;refine wpAny_pyIter_range (I _ m) (kS C.1 C.2.1 C.2.2) (q _ _ _ _ _ "range_iterator" ⟨Q2.range hh x.h.objs.size p.1 1 (p.2-p.1).toNat,by rw[Ka,dP],λi v d y f=>?_,pp,λi h c=>y2 _ _ (w3 c rfl rfl),by decide⟩ ?_ rfl)
  ·obtain ⟨t,rfl⟩:=y;obtain ⟨d,b,rfl⟩:=kA f;have K:=(Kd.mp b).1;rw[dP] at K;refine rq (J9 ((jl _ _ _ K).symm.trans b)) ?_;rw[Uo];exact RD.int _ _
  ·rw[ji C.2.1];have e:IsRangeIter (x.h.push {cls:=.type "range_iterator",data:=.fields #[Lq p.1,Lq (p.2-p.1).toNat,Lq 1]}) x.h.objs.size p.1 (p.2-p.1).toNat 1:=eQ rfl;rw[show p.1+((0:Nat):Int)*1=p.1 by lia];exact e)
 λh=>cL h (λh=>aV h λO s g=>j.onBytes (P:=λval=>Bu z x (ds.map .d) (io z val)) s λt H Q E q=>by
  subst g;refine SZ (q _ _ _ _ _ "bytes_iterator" ⟨US hh x.h.objs.size _ t,by simp[il],λi v d y f=>?_,pp,λi h c=>c.imp λo e=>⟨_,e⟩,by decide⟩ ⟨_,w3 (eQ rfl) rfl rfl⟩ rfl);obtain ⟨F,u,G,rfl⟩:=y;obtain ⟨d,b,rfl⟩:=kA f;unfold il at b;rw[Ks,Lh,G] at b;refine rq (J9 b) ?_;exact RD.int _ _)
 λh=>aV h λl s g=>j.onStr (P:=λval=>Bu z x (ds.map .d) (io z val)) s λt H Q E q=>by
  subst g;have L:∀i v d,SignAt l i v->((l.cps.toList.map λF=>D.str ⟨#[F]⟩).map V.d)[i]?=Vl d->aZ z x v d:=λi v d y f=>by
   obtain ⟨F,u,G,rfl⟩:=y;obtain ⟨d,b,rfl⟩:=kA f;rw[Ks,Lh,G] at b;obtain rfl:=J9 b;exact RD.str _ _ (Kv rfl)
  cases M:l.cps.all (· < 128)
  ·exact wpAny_pyIter_wide M (q _ _ _ _ _ "str_iterator" ⟨Q2.strWide hh x.h.objs.size l t,by simp,L,pp,λi h c=>c.imp λo e=>⟨_,e⟩,by decide⟩ ⟨_,w3 (eQ rfl) rfl rfl⟩ rfl)
  ·exact wpAny_pyIter_ascii M (q _ _ _ _ _ "str_ascii_iterator" ⟨Q2.strAscii hh x.h.objs.size l t,by simp,L,pp,λi h c=>c.imp λo e=>⟨_,e⟩,by decide⟩ ⟨_,w3 (eQ rfl) rfl rfl⟩ rfl)
theorem DH {α:Type}{R:Value->α->Prop}{kvs:List (Int×Value)}{ds:List (Int×α)}(h:RK R kvs ds):∀{i:Nat}{k:Int}{v:Value}{p:Int×α},kvs[i]?=Vl (k,v)->ds[i]?=Vl p->p.1=k/\R v p.2:=h.ind (M:=λ(kvs:List (Int×Value)) (ds:List (Int×α))=>∀{i:Nat}{k:Int}{v:Value}{p:Int×α},kvs[i]?=Vl (k,v)->ds[i]?=Vl p->p.1=k/\R v p.2) (λ{_ _ _ _} e _=>nomatch e) λ{_ _ _ _ _} r _ b {i _ _ _} e a=>match i,e,a with
  | 0,e,a=>by cases e;cases a;exact ⟨rfl,r⟩
  | i+1,e,a=>b (i:=i) e a
theorem zq {o:Obj}{kvs:List (Int×Value)}{ls:List (Int×Nat)}(hh:z.A.handled=Vm) (I:Im x) (m:(a,o)∈x.imm) (f:o.IsDictOf (K8 PR z.c.w) kvs) (g:uh x.ρ kvs ls) (hs:(a==ME)=Vo):Bu z x (ls.map λp=>.d (.int p.1)) (io z (.ref a)):=λQ E q=>by
 have s:x.h.DictOf (K8 PR z.c.w) a kvs:=LL.mpr ⟨o,I _ m,f⟩;obtain ⟨n,b⟩:=s.dictAt;refine wpAny_pyIter_dict hs b (q _ _ _ _ _ "dict_keyiterator" ⟨Q2.dictKeys hh x.h.objs.size a (pu I m) kvs n,by rw[Ka,RK.length g],λi v d r f=>?_,oL m,λi h y=>y.1.imp λo e=>⟨_,e⟩,by decide⟩ ⟨⟨_,w3 (eQ rfl) rfl rfl⟩,b.push _⟩ rfl);obtain ⟨k,u,e,l⟩:=r;obtain ⟨p,j,rfl⟩:=kA f;obtain ⟨t,rfl⟩:=PO l;rw[(DH g e j).1];exact RD.int _ _
theorem xO {o:Obj}{kvs:List (Int×Value)}{ls:List (Int×Nat)}(hh:z.A.handled=Vm) (I:Im x) (n:(b,Ir a)∈x.imm) (m:(a,o)∈x.imm) (g:o.IsDictOf (K8 PR z.c.w) kvs) (j:uh x.ρ kvs ls):Bu z x (ls.map λp=>.loc p.2) (io z (.ref b)):=λQ E q=>by
 have t:x.h.DictOf (K8 PR z.c.w) a kvs:=LL.mpr ⟨o,I _ m,g⟩;obtain ⟨r,f⟩:=t.dictAt;refine wpAny_pyIter_values ⟨_,w3 (I _ n) rfl rfl⟩ f (q _ _ _ _ _ "dict_valueiterator" ⟨Q2.dictValues hh x.h.objs.size a (pu I m) kvs r,by rw[Ka,RK.length j],λi v d s g=>?_,oL m,λi h u=>u.1.imp λo e=>⟨_,e⟩,by decide⟩ ⟨⟨_,w3 (eQ rfl) rfl rfl⟩,f.push _⟩ rfl);obtain ⟨k,e⟩:=s;obtain ⟨p,l,rfl⟩:=kA g;exact (DH j e l).2
noncomputable def SObj.walk (l:Nat) (st:List SObj) (f:Int×Nat->V) (o:SObj):Option (List V×List SObj):=(o.objs0?.map λkvs=>(kvs.map f,st.set l (.fobjs kvs))).or (o.fobjs?.map λkvs=>(kvs.map f,st))
noncomputable def cS (st:List SObj) (v:V):Option (List V×List SObj):=(v.d?.bind λd=>(items d).map λl=>(l.map .d,st)).or ((v.loc?.bind λl=>(st[l]?).bind λo=>(o.list?.map λds=>(ds.map .d,st.set l .gone)).or (o.walk l st λp=>.d (.int p.1))).or (v.vals?.bind λl=>(st[l]?).bind (SObj.walk l st λp=>.loc p.2)))
theorem q0 {l:Nat}{ft:List (Addr×Obj)}{o:SObj}{f:Int×Nat->V}{p:List V×List SObj}(B:Bs z.c) (d:At cx z s x) (j:Thing z.c s.st x l a ft o) (h:o.walk l s.st f=Vl p):∃y ls o kvs,y.S=x.S/\Nx cx z x ⟨s.fr,p.2⟩ y True/\y.ρ=x.ρ/\p.1=ls.map f/\(a,o)∈y.imm/\o.IsDictOf (K8 PR z.c.w) kvs/\(a==ME)=Vo/\uh y.ρ kvs ls:=cL h (λh=>aV h λls e n=>by
  obtain ⟨q,b,k,_,g,hs,i⟩:=d.H.obj0 B j e;subst k n;exact ⟨x.frz l (a,q),ls,q,b,rfl,d.frz (so:=.fobjs ls) j.led (λv t=>by
   refine rp (J9 (t.symm.trans j.rho)) ?_;exact ⟨rfl,y2 q b (w4 (.head _) g hs i)⟩) trivial,rfl,rfl,.head _,g,hs,i⟩)
 λh=>aV h λls e n=>by
  obtain rfl:=mI e;obtain ⟨_,o,kvs,m,r,hs,u⟩:=j.foot;refine rq n ?_;exact y4 x ls o kvs (w7 rfl (d.go trivial) rfl rfl m r ⟨hs,u⟩)
def Bo (cx:Cx) (z:Z) (x:X) (fr:List (Str×V)) (p:List V×List SObj) (val:Value):Prop:=∃y,y.S=x.S/\Nx cx z x ⟨fr,p.2⟩ y True/\Bu z y p.1 (io z val)
theorem ur {p:List V×List SObj}(B:Bs z.c) (hh:z.A.handled=Vm) (f:At cx z s x) (u:aZ z x val v) (h:cS s.st v=Vl p):Bo cx z x s.fr p val:=cL h (λh=>aA h λd k h=>aV h λl g t=>t▸⟨x,w3 rfl (f.go trivial) (qS hh f.H.immIn (u.onD k) g)⟩) λh=>cL h (λh=>f.H.onL (P:=Bo cx z x s.fr p) u h λ{l a w o} _ q h=>cL h (λh=>aV h λds e t=>by
   obtain rfl:=eO e;obtain ⟨F,n,rfl,ho,hz,rs⟩:=q.list f.H;have n:=f.frz (so:=.gone) (r':=True) q.led (λ_ _=>.inl rfl) trivial;refine rq t ?_;exact ⟨x.frz l (a,lstO F _),w3 rfl n (qS (d:=.lst ds) hh n.at_.H.immIn (RD.lst (.head _) hz (mD rs)) rfl)⟩)
  λh=>by
   obtain ⟨y,J,o,j,e,n,_,g,m,i,hs,r⟩:=q0 B f q h;exact ⟨y,w3 e n (g▸zq hh n.at_.H.immIn m i r hs)⟩)
 λh=>aA h λl k h=>aA h λo g E=>by
  obtain rfl:=BQ k;obtain ⟨b,a,rfl,mv,hr⟩:=u;obtain ⟨K,w,C,G,I⟩:=f.H.foot l o g;obtain rfl:=J9 (hr.symm.trans C);obtain ⟨y,J,o,j,e,n,_,g,m,i,hs,r⟩:=q0 B f (⟨g,C,G,I⟩:Thing z.c s.st x l a w o) E;exact ⟨y,w3 e n (g▸xO hh n.at_.H.immIn (n.adv.imm _ mv) m i r)⟩
end
end
section
set_option linter.all false
section
variable {prog:Program}{w:Ld}{A:Lc}{E:Value->Kh->Prop}{s:Kh}
theorem qj {it t:Addr}{i:Nat}{items:Array Value}{o:Obj}(b:s.heap.get? it=Vl o) (j:o.cls=.type "tuple_iterator") (a:o.data=.fields #[.ref t,.int i 0]) (g:s.heap.IsTuple t items){Q:Value->Kh->Prop}(h:Km (Kn prog w) A.in1 (match items[i]? with
   | some x=>do Nh (.ref it) 1 (Lq ((i:Int)+1));ret x
   | none=>do rule (toString "tuple_iterator.__next__"++toString ".end");Nh (.ref it) 0 .none;OF) (λd f=>∃v,d=.done (.ret v)/\Km (Kn prog w) A (pure v) Q E f) E s):Km (Kn prog w) A (Ph (.ref it)) Q E s:=by
 have hit:s.heap.IsTupleIter it t i:=⟨o,w3 b j a⟩
 obtain ⟨l,c,_,k,e⟩:=g;unfold Ph;refine Kc (NQ (name:=Mt "__next__") hit.typeIs PA (MO PA hit.typeIs PySem.F.entry_tuple_iterator_next ?_ (PySem.F.args_tuple_iterator_next_1 _)));show Km _ _ (Vf (.ref it) 0 >>= _) _ _ s;refine Kc (Nu b a (x:=.ref t) rfl ?_);rw[if_neg (show ¬((M8 t==Nj)=Vn) from LX)];refine Kc (Nu b a (x:=.int i 0) rfl ?_);exact Kc (PK c e h)
theorem lf (hh:A.handled=Vm) (it t:Addr) (j:t≠it) (items:Array Value):Draws prog w A it [it,t] items.size (λi v=>items[i]?=Vl v) (λi h=>h.IsTupleIter it t i/\h.IsTuple t items) where
 live:=λ_ _ b=>let ⟨o,c,_⟩:=b.1;⟨o,c⟩
 frame:=λ_ _ _ b k=>⟨b.1.at λo e=>k it (by simp) o e,b.2.at λo e=>k t (by simp) o e⟩
 item:=λi s Q E p b n=>by
  obtain ⟨o,c,f,d⟩:=b.1;refine qj c f d b.2 ?_;have g:items[i]?=Vl items[i]:=by simp[p]
  rw[g];refine Kc (M7 c d (by simp) (Ko ⟨_,rfl,Ko (n _ _ s.toks g ⟨?_,b.2.extBut (LU ..).extBut j⟩ (LU ..))⟩));exact ⟨_,Ln _ c (MN (MK d _)),(SJ ..).trans f,by
   rw[MK d];simp[Lq]⟩
 done:=λs Q E b l=>by
  obtain ⟨o,c,f,d⟩:=b.1;refine qj c f d b.2 ?_;have g:items[items.size]?=none:=by simp
  rw[g];refine Kc (Qe (Kc (M7 c d (by simp) ?_)));refine Kc ?_;simp only[Uw,O9];refine Kc (LV ?_ (by size_fits));refine Kc (m:=NZ _ _) (MM (a:=Nj) (by first | rfl | (simp only[NZ];rfl)) ?_);refine LV ?_ (by size_fits);unfold raiseNew;refine Kc (wpAny_handled ?_);rw[show A.in1.handled=Vm from hh];refine Kc (Ko (wpAny_throw ?_));exact l _ _ (((LU ..).extBut.push _).push _) ⟨_,Kq _ rfl,rfl⟩
noncomputable abbrev xW (t:Addr):Obj:={cls:=.type "tuple_iterator",data:=.fields #[.ref t,.int 0 0]}
noncomputable abbrev D6 (it:Addr):Obj:={cls:=.type "enumerate",data:=.fields #[.none,.bool Vo,.ref it,Lq 0,.none,.none]}
theorem Ep {α:Type}{M:Model}{A:Lc}{a:α}{Q:α->Kh->Prop}{E:Value->Kh->Prop}{S:Kh}(h:∀b,Q b S):Km M A (pure a) Q E S:=Ko (h a)
theorem Ao (l:Addr) (items:List Value) (n:Nat):Meets (Md.«enumerate.__new__» ⟨[.type "enumerate",.ref l],[]⟩) (λ_ R s=>s.heap.get? l=Vl (dU items n)/\R (.ok (.ret (.ref (s.heap.push (xW l)).objs.size))) {s with heap:=(s.heap.push (xW l)).push (D6 s.heap.objs.size)}):=.of_wp λprog w A R s h=>by
  obtain ⟨f,g,d,i,j⟩:=s;obtain ⟨a,h⟩:=h;have c:=sub_enumerate;have e:Heap.IsTuple (Kh.heap ⟨f,g,d,i,j⟩) l items.toArray:=⟨_,w3 a rfl ⟨n,rfl⟩⟩
  wp_walk using NA a
  refine wpAny_stack_any λk=>Ep λb=>?_;cases b
  ·wp_walk using NA a,Qf e
   exact ⟨_,rfl,h⟩
  ·wp_walk using NA a,Qf e
   exact ⟨_,rfl,h⟩
theorem xj {l:Addr}{items:List Value}{n:Nat}{Q:Value->Kh->Prop}(b:s.heap.get? l=Vl (dU items n)) (h:Q (.ref (s.heap.objs.size+1)) {s with heap:=(s.heap.push (xW l)).push (D6 s.heap.objs.size)}):Km (Kn prog w) A (call (.type "enumerate") [.ref l]) Q E s:=by
 refine callType_new PySem.F.called_enumerate (by decide) (PySem.F.typeCall_enumerate_1 _) (PySem.F.newCall_enumerate_1 _) (λa=>PySem.F.args_object_init_2 a _) PySem.F.entry_enumerate_new (Ao l items n) ⟨b,?_⟩;have c:(s.heap.push (xW l)).objs.size=s.heap.objs.size+1:=LF ..;refine ⟨⟨_,Kq _ rfl,rfl⟩,?_⟩;rw[c];exact h
end
noncomputable def pC (e:Kb):Bool:=match e with
 | .Set _ _ _=>Vn
 | _=>Vo
noncomputable def k0 (i:Nat):List D->List V
 | []=>[]
 | d::ds=>.d (.tup [.int (i:Int),d])::k0 (i+1) ds
section
variable {wd:Ld}{cx:Cx}{z:Z}{s s0:St}{x x₀ y w:X}{k:Nat}{t:Kb}{vs:List V}{a b e it l:Addr}{val:Value}{v:V}{d:D}{ds:List D}{us:List Value}
theorem kG:∀{ds:List D}{j i:Nat}{d:V},(k0 j ds)[i]?=Vl d->∃u,ds[i]?=Vl u/\d=.d (.tup [.int ((j+i:Nat):Int),u])
 | [],_,_,_,h=>au (SD.symm.trans h)
 | v::vs,j,0,d,h=>⟨v,rfl,(J9 h).symm⟩
 | v::vs,j,i+1,d,h=>(kG (ds:=vs) (j:=j+1) (i:=i) h).imp λu h=>⟨h.1,h.2.trans (by rw[Nat.succ_add,Nat.add_succ])⟩
theorem wW:∀(ds:List D) (j:Nat),(k0 j ds).length=ds.length:=@lr _ _ (@λ_=>rfl) (λv vs a=>(@λj=>congrArg Nl (a (j+1))))
theorem IR {P:Addr->Prop}{a b:Addr}(g:P a) (f:P b):∀d∈[a,b],P d:=λd c=>(Kt.mp c).elim (λe=>e▸g) λc=>Kg.mp c▸f
structure EnJ (x₀:X) (e it l:Addr) (us:List Value) (i:Nat) (y:X):Prop where
 en:∃old,IsEnum y.h e it i old
 at_:y.h.IsTupleIter it l i/\y.h.IsTuple l us.toArray
 oe:Fresh x₀ y e
 oi:Fresh x₀ y it
 le:i<=us.length
theorem wV {n:Nat}{es:List Kb}{ct:Nat}{pos:Pos}(K:At cx z s0 x₀) (hh:z.A.handled=Vm) (m:(l,dU us n)∈x₀.imm) (rs:RDs z.c.w x₀.imm us ds) (x:e≠it) (G:e≠l) (t:l≠it):Walk cx z x₀ (.ref e) (.Tuple es ct pos) (k0 0 ds) (EnJ x₀ e it l us) where
 keep:=λi s s' y w j r k=>by
  refine aC λR a=>?_;obtain ⟨v,F⟩:=j.en;obtain ⟨oi,C,_⟩:=j.at_.1;refine a ?_;refine ⟨⟨v,j.oe.same K F k.adv⟩,⟨j.at_.1.at λo e=>j.oi.same K e k.adv,j.at_.2.at λo e=>?_⟩,j.oe.keep F k.adv,j.oi.keep C k.adv,j.le⟩;obtain rfl:=J9 (e.symm.trans (r.at_.H.immIn _ (r.adv.imm _ m)));exact k.at_.H.immIn _ (k.adv.imm _ (r.adv.imm _ m))
 step:=λi d s y Q E j r L q=>by
  refine aC λR a=>?_;obtain ⟨u,hu,rfl⟩:=kG L;rw[LY] at q;obtain ⟨v,F⟩:=j.en;refine a ?_;have hl:=rs.length;have C:i<us.toArray.size:=by have:=(Kd.mp hu).1;rw[Kw];walk_at "n"
  refine wpAny_pyNext_enum_itemD (lf (A:=z.A.in1) hh it l t us.toArray) F j.at_ C x (λm=>IR (P:=λb=>e≠b) x G e m rfl) λJ h' tk T ho hs hT hz kk=>q _ _ λQ' E' q'=>?_;refine wpAny_letOwnedTupleGo_enum ho λN Y g=>?_;have U:y.h.get? y.h.objs.size=none:=bF _;have Te:y.h.objs.size≠e:=λq=>au ((q▸U).symm.trans F);have O:N.get? y.h.objs.size=Vl (dU [.int i tk,J] 0):=g.extBut _ _ Te hT;refine aC λR a=>?_;obtain ⟨xv',M,rx⟩:=rs.get hu;obtain rfl:J=xv':=J9 (T.symm.trans (gC M));obtain ⟨o3,e3,_⟩:=j.at_.1;refine a ?_;have k:=Nx.heap (h':=N) (tk:=tk+1) (ex:=[(y.h.objs.size,dU [.int i tk,J] 0)]) (W:=λb=>b=e\/b=it) (r':=aZ z (y.gr N (tk+1) [(y.h.objs.size,dU [.int i tk,J] 0)]) (.ref y.h.objs.size) (.d (.tup [.int (i:Int),u]))) K r (λb o f=>if q:b=e\/b=it then .inl q else .inr (.inl (g.extBut b o (not_or.mp q).1 (kk b o (not_or.mp q).1 (λm=>q (.inr m)) f)))) (λb h=>h.elim (λe=>e▸j.oe) λe=>e▸j.oi) (λp hp=>by rw[Kg.mp hp];exact ⟨O,U⟩) (RD.tup (.head _) (Kv rfl) (.cons (.int _ _) (.cons (rx.mono λq I=>.tail _ (r.adv.imm q I)) .nil)));exact q' _ k ⟨⟨_,Y⟩,⟨hs.1.at λo f=>g.extBut _ _ (LQ x) f,hs.2.at λo f=>g.extBut _ _ (LQ G) f⟩,⟨j.oe.la,λq I=>(Kt.mp I).elim (λf=>by rw[f];exact Te) (j.oe.imm q),j.oe.new⟩,⟨j.oi.la,λq I=>(Kt.mp I).elim (λf=>by rw[f];exact λq2=>au ((show y.h.objs.size=it from q2)▸U |>.symm.trans e3)) (j.oi.imm q),j.oi.new⟩,by rw[Kw] at C;exact C⟩
 stop:=λi s y Q E j r L q=>by
  refine aC λR a=>?_;obtain ⟨v,F⟩:=j.en;refine a ?_;have hl:=rs.length;have C:i=us.toArray.size:=by
   have:=KY.mp L;rw[wW] at this;have:=j.le;rw[Kw];walk_at "n"
  subst C;refine wpAny_pyNext_enum_endD (lf (A:=z.A.in1) hh it l t us.toArray) F j.at_ λh' T=>?_;exact q _ (Nx.heap (h':=h') (tk:=y.S.toks) (ex:=[]) (W:=λb=>b=e\/b=it) K r (λb o f=>if q:b=e\/b=it then .inl q else .inr (.inl (T b o (λm=>q (.inr m)) f))) (λb h=>h.elim (λe=>e▸j.oe) λe=>e▸j.oi) (λ_ h=>nomatch h) trivial)
theorem pI {it:Kb}{env:Env}(h:pC it=Vo) (v:Value):foldedSetIterable it env v=pure v:=by cases it<;>first | rfl | cases h
end
section
variable {k:Nat}{cx:Cx}(r:Sr k) (t it:Kb) (body els:List Stmt) (pos:Pos)
abbrev HW (z:Z) (t:Kb) (body els:List Stmt) (it:Value) (Q:QA->Kh->Prop) (E:Value->Kh->Prop) (S:Kh):Prop:=Mu (Kn PR z.c.w) z.A (.forLoop t it body els z.env) (λr a=>match r with | .ok f=>Q f a | .error e=>Rq (Kn PR z.c.w) z.A z.env E e a) S
theorem CW {z:Z}{s:St}{x:X}{vs:List V}{val:Value}{Q:QA->Kh->Prop}{E:Value->Kh->Prop}(o:Ok k cx z) (f:cx.comp=Vo) (g:cx.inH=Vo) (a:At cx z s x) (i:Bu z x vs (io z val)) (h:eL cx z (RF z) x (iS r cx t body els vs s) Q E):Km (Kn PR z.c.w) z.A (Rn val) (HW z t body els · Q E) E x.S:=i _ _ λb j n l St T i d _=>by
  have e:=a.kp (h':=x.h.push b) (tk:=x.S.toks) (ex:=[]) (aM _ _) (λ_ h=>nomatch h) trivial;exact vj (x:=x.gr (x.h.push b) x.S.toks []) r o f g (i.walk a (λ_ h=>h) λ_ _ h=>h) e (w3 d (fV (ex:=[]) a.H (.refl _ z.own _) (λ_ h=>nomatch h)) (LA _)) h
noncomputable def FC:Ex k cx (.For t it body els pos):=⟨λs=>if cx.comp=Vo/\cx.inH=Vo/\pC it=Vo then ((ek r cx it).f s).bind λv s=>optE (cS s.st v) .bad λp=>iS r cx t body els p.1 ⟨s.fr,p.2⟩ else .bad,λ{z s x} o a=>aN.ite λc Q E h=>
 wpAny_For ((ek r cx it).ok o a _ _ (h.bind (.refl _ _ _) (λv s1 val y n b=>by
  cases d:cS s1.st v with
  | none=>rw[d] at b;exact b.elim
  | some p=>
   rw[d] at b;obtain ⟨g,e,m,i⟩:=ur o.B (o.hd c.2.1) n.at_ n.r d;exact e▸CW r t body els o c.1 c.2.1 m.at_ i (b.adv (n.adv.trans m.adv))) λ_ _ _ _ y n hz=>hz y n)) (pI c.2.2)⟩
noncomputable def DY (es:List Kb) (M:Nat) (p:Pos) (f:Str) (I:Pos) (e:Kb) (j:Pos):Ex k cx (.For (.Tuple es M p) (.Call (.Name f I) [e] [] j) body els pos):=⟨λs=>if cx.comp=Vo/\cx.inH=Vo/\cx.names.lookup f=Vl .globalImplicit/\bb e=Vm then optE ((bY f ib).bind D.bi?) .bad λb=>if b.eq .enumerate=Vn then ((r.ev cx e).f s).bind λv s=>optE (v.d?.bind D.tup?) .bad λds=>iS r cx (.Tuple es M p) body els (k0 0 ds) s else .bad else .bad,λ{z s x} o a=>aN.ite λt=>by
 cases N:(bY f ib).bind D.bi? with
 | none=>exact .bad
 | some b=>
  refine aN.ite λu Q E h=>aA N λd e1 U=>?_;obtain rfl:b=.enumerate:=by cases b<;>first | rfl | cases u
  refine aC λR g=>?_;obtain ⟨fv,K,Y⟩:=jX (pos:=I) o.B a t.2.2.1 e1;refine g ?_;rw[kh U] at K;obtain rfl:=show fv=.type "enumerate" from K.view
  refine wpAny_For (gG (Y _ _ (fu (P:=λh=>z.c.hb.StaysIn h) rfl (jR .enumerate) ?_))) (pI rfl);rw[fm t.2.2.2];refine (r.ev cx e).ok o a _ _ (h.bind (.refl _ _ _) (λv s1 val y n A=>⟨n.at_.H.base,?_⟩) λ_ _ _ _ y n hz=>hz y n);cases F:v.d?.bind D.tup? with
  | none=>rw[F] at A;exact A.elim
  | some ds=>
   rw[F] at A;refine aC λR g=>?_;obtain ⟨l,us,m,rfl,hm,hz,rs⟩:∃l us m,val=.ref l/\(l,dU us m)∈y.imm/\us.length<=16777216/\RDs z.c.w y.imm us ds:=aA F λd e3 e4=>RD.onTup (P:=λval=>∃l us m,val=.ref l/\(l,dU us m)∈y.imm/\us.length<=16777216/\RDs z.c.w y.imm us ds) (n.r.onD e3) e4 λm hz r=>y3 _ _ _ (w4 rfl m hz r);refine g ?_;have G:=n.at_.H.immIn _ hm;have hn:y.h.get? y.h.objs.size=none:=bF _;have C:(y.h.push (xW l)).objs.size=y.h.objs.size+1:=LF ..;have u:((y.h.push (xW l)).push (D6 y.h.objs.size)).get? (y.h.objs.size+1)=Vl (D6 y.h.objs.size):=C▸Kq _ rfl;have hit:((y.h.push (xW l)).push (D6 y.h.objs.size)).get? y.h.objs.size=Vl (xW l):=KI _ (Kq _ rfl);have J:Kp y.h ((y.h.push (xW l)).push (D6 y.h.objs.size)):=λb o e=>aM _ _ _ _ (aM _ _ _ _ e);have L:l<y.h.objs.size:=Lz G;have T:=n.at_.kp (h':=(y.h.push (xW l)).push (D6 y.h.objs.size)) (tk:=y.S.toks) (ex:=[]) J (λ_ h=>nomatch h) trivial;have H:=n.at_.H;refine xj G (wpAny_pyIter_enum (it:=y.h.objs.size) (i:=0) (old:=.none) u ?_);exact vj (x₀:=y) (x:=y.gr ((y.h.push (xW l)).push (D6 y.h.objs.size)) y.S.toks []) r o t.1 t.2.1 (wV n.at_ (o.hd t.2.1) hm rs (OQ _) (O1 (Mg L)) (L1 L)) T ⟨⟨.none,u⟩,⟨⟨_,w3 hit rfl rfl⟩,⟨_,w3 (J _ _ G) rfl ⟨m,rfl⟩⟩⟩,⟨λm=>(H.laIn m).elim λo e=>absurd (Lz e) (N2 (MU _)),λq O e=>absurd (Lz (e▸H.immIn q O)) (N2 (MU _)),KS (MU _)⟩,fV (ex:=[]) H (.refl _ z.own _) (λ_ h=>nomatch h),LA _⟩ (A.adv n.adv)⟩
end
end
section
set_option linter.all false
section
variable {c:Cn}{cx:Cx}{env:Env}{own:List Addr}{x x₀ y z:X}{A:Lc}{s:St}{st:List SObj}{fr outF:List (Str×V)}{names:List (Str×LJ)}{cl:List (Str×Addr)}
theorem tR:∀{names:List (Str×LJ)}{k:Nat}{a b:List (Str×Addr)},NC k names (a++b)=NC k names a++b
 | [],_,_,_=>rfl
 | (n,c)::r,k,a,b=>by
  unfold NC;split
  ·exact tR (a:=(n,k)::a)
  ·exact tR
theorem tT {p:Str×Addr}:∀{names:List (Str×LJ)}{k:Nat}{acc:List (Str×Addr)},p∈acc->p∈NC k names acc
 | [],_,_,h=>h
 | (n,a)::r,k,acc,h=>by
  unfold NC;split
  ·exact tT (.tail _ h)
  ·exact tT h
theorem pY {n:Str}:∀{names:List (Str×LJ)}{k:Nat}{acc:List (Str×Addr)},(n,.cell)∈names->∃a,(n,a)∈NC k names acc
 | (m,b)::r,k,acc,h=>by
  unfold NC;refine (Kt.mp h).elim (λe=>?_) λh=>?_
  ·cases e;exact ⟨k,tT (.head _)⟩
  ·split
   ·exact pY h
   ·exact pY h
theorem pZ {p:Str×Addr}:∀{names:List (Str×LJ)}{k:Nat}{acc:List (Str×Addr)},p∈NC k names acc->p∈acc\/(p.1,.cell)∈names
 | [],_,_,h=>.inl h
 | (n,b)::r,k,acc,h=>by
  unfold NC at h;split at h
  ·rename_i a;exact (pZ h).elim (λh=>(Kt.mp h).elim (λe=>.inr (by rw[e,eq_of_beq a];exact .head _)) .inl) λh=>.inr (.tail _ h)
  ·exact (pZ h).imp id (.tail _)
theorem kB {β:Type}{n:Str}{a:β}:∀{l:List (Str×β)},(n,a)∈l->∃d,l.lookup n=Vl d
 | (m,b)::r,h=>by
  rw[MH];cases c:n==m with
  | true=>exact ⟨b,rfl⟩
  | false=>exact kB ((Kt.mp h).elim (λe=>by cases e;rw[beq_self_eq_true] at c;cases c) id)
structure FrIn (c:Cn) (names:List (Str×LJ)) (cl:List (Str×Addr)) (outF:List (Str×V)) (x:X):Prop where
 fn:∀p∈names,names.lookup p.1=Vl p.2
 out:∀n v,get n outF=Vl v->names.lookup n=Vl .free
 fre:∀n,names.lookup n=Vl .free->∃a o val,cl.lookup n=Vl a/\x.h.get? a=Vl o/\o.data=.cell val/\a∉x.la/\∀v,get n outF=Vl v->∃u,val=Vl u/\RV c.w x.ρ x.imm u v
 inj:∀n n' a,names.lookup n=Vl .free->names.lookup n'=Vl .free->cl.lookup n=Vl a->cl.lookup n'=Vl a->n=n'
structure EnvIs (names:List (Str×LJ)) (L:Addr) (cells:List (Str×Addr)) (env:Env):Prop where
 kind:env.scope.kind=.function
 glb:env.globals=LH
 blt:env.builtins=M5
 names:∀n,(names.lookup n=Vl .local->env.kindOf n=Vl .local)/\(cC (names.lookup n)=Vn->cC (env.kindOf n)=Vn)/\(names.lookup n=Vl .globalImplicit->env.kindOf n=Vl .globalImplicit)/\(names.lookup n=Vl .cell->env.kindOf n=Vl .cell)
 loc:env.locals=L
 cells:env.cells=cells
noncomputable abbrev Db (T:String):Obj:={cls:=.type T,data:=.dict #[]}
noncomputable abbrev bU (names:List (Str×LJ)) (L:Addr):List (Str×Addr):=NC (L+1) names []
noncomputable abbrev frOwn (names:List (Str×LJ)) (L:Addr):List Addr:=L::(bU names L).map (·.2)
noncomputable abbrev dG (names:List (Str×LJ)) (T:String) (h:Heap):Heap:=pushCells (h.push (Db T)) names
theorem fB (H:HI c st x){b:Addr}(h:x.h.objs.size<=b):b∉x.la/\(∀p∈x.imm,p.1≠b)/\c.hb.get? b=Vm/\b∉c.fa:=by
 have e:x.h.get? b=none:=KS h;exact ⟨λm=>(H.laIn m).elim λo q=>au (e.symm.trans q),λp a q=>au (e.symm.trans (q▸H.immIn p a)),by
  cases q:c.hb.get? b with
  | none=>rfl
  | some o=>exact au (e.symm.trans (H.base b o q)),λm=>(H.frs.mem m).2.elim λo q=>au (e.symm.trans q.1)⟩
theorem mH {T:String}:Kp x.h (dG names T x.h):=λb o e=>Ps _ _ _ _ (aM _ _ _ _ e)
theorem rN {T:String}:CellsOk (dG names T x.h) (x.h.objs.size+1) (bU names x.h.objs.size):=by
 have ok:=cellsFrom_ok names (x.h.push (Db T)) (x.h.objs.size+1) [] ⟨λ_ _ a=>(nomatch a),TI.nil⟩ (by rw[LF];exact KH _);rw[LF] at ok;exact ok
theorem iz {b:Addr}(a:b∈frOwn names x.h.objs.size):x.h.objs.size<=b:=(Kt.mp a).elim (λe=>O3 e.symm) λa=>(Kr.mp a).elim λp c=>c.2▸Nat.le_of_succ_le ((rN (T:="dict") (x:=x)).empty p.1 p.2 c.1).2
theorem EI.new {T:String}{tk:Nat}{E Q:Bool}(H:HI c st x) (I:FrIn c names cl outF x) (N:EnvIs names x.h.objs.size (bU names x.h.objs.size++cl) env):EI c ⟨names,E,Q⟩ env (frOwn names x.h.objs.size) outF (x.gr (dG names T x.h) tk []):=by
 have ok:=rN (T:=T) (x:=x) (names:=names);have hL:(dG names T x.h).get? x.h.objs.size=Vl (Db T):=Ps _ _ _ _ (Kq _ rfl);have pn:∀n,names.lookup n≠Vl .cell->(bU names x.h.objs.size).lookup n=none:=λn i=>by
  cases q:(bU names x.h.objs.size).lookup n with
  | none=>rfl
  | some a=>exact (pZ (mem_of_lookup q)).elim (λh=>nomatch h) λh=>absurd (I.fn _ h) i
 have S:∀n,env.cells.lookup n=((bU names x.h.objs.size).lookup n).or (cl.lookup n):=λn=>by rw[N.cells,Si]
 have O:∀n,names.lookup n=Vl .cell->∃d,env.cells.lookup n=Vl d/\(n,d)∈bU names x.h.objs.size:=λn i=>by
  refine aC λw f=>?_;obtain ⟨d,r⟩:=pY (k:=x.h.objs.size+1) (acc:=[]) (mem_of_lookup i);obtain ⟨M,G⟩:=kB r;refine f ?_;exact ⟨M,by rw[S,G];rfl,mem_of_lookup G⟩
 have A:∀n,names.lookup n=Vl .free->env.cells.lookup n=cl.lookup n:=λn i=>by rw[S,pn n (by rw[i];exact nofun)];rfl
 have j:∀n,cC (names.lookup n)=Vn->names.lookup n=Vl .cell\/names.lookup n=Vl .free:=λn i=>by
  cases q:names.lookup n with
  | none=>rw[q] at i;cases i
  | some kd=>rw[q] at i;cases kd<;>first | exact .inl rfl | exact .inr rfl | cases i
 have y:∀{n d},(n,d)∈bU names x.h.objs.size->d∈frOwn names x.h.objs.size:=λh=>.tail _ (Kr.mpr ⟨_,h,rfl⟩);have t:∀{n a},names.lookup n=Vl .free->cl.lookup n=Vl a->a<x.h.objs.size/\a∉x.la:=λ{n a} i e=>by
  refine aC λw f=>?_;obtain ⟨a',o,val,R,P,_,Y,_⟩:=I.fre n i;cases e.symm.trans R;refine f ?_;exact ⟨Lz P,Y⟩
 refine ⟨N.kind,N.glb,N.blt,N.names,⟨_,N.loc▸(Heap.Ns.new x.h (.type T)).keeps (Ps _ _),λn v g l=>nomatch (I.out n v g).symm.trans l⟩,λn i=>?_,N.loc▸.head _,λb K=>?_,λn C d i F e L=>?_,λn d i e=>?_,λn d i e=>?_⟩
 ·refine (j n i).elim (λh=>?_) λh=>?_
  ·refine aC λw f=>?_;obtain ⟨d,r,m⟩:=O n h;obtain ⟨⟨o,ho,u⟩,_⟩:=ok.empty n d m;refine f ?_;exact y3 d o Vm (w4 r ho u (λv g=>nomatch (I.out n v g).symm.trans h))
  ·refine aC λw f=>?_;obtain ⟨a,o,val,R,P,e3,Y,e5⟩:=I.fre n h;refine f ?_;exact y3 a o val (w4 ((A n h).trans R) (mH _ _ P) e3 e5)
 ·have z:=fB H (iz K);refine w4 z.1 z.2.1 z.2.2.1 ((Kt.mp K).elim (λe=>e▸⟨_,hL⟩) λK=>?_);refine aC λw f=>?_;obtain ⟨p,hp,rfl⟩:=Kr.mp K;refine f ?_;exact (ok.empty p.1 p.2 hp).1.imp λo h=>h.1
 ·have J:∀{n d},names.lookup n=Vl .cell->env.cells.lookup n=Vl d->(n,d)∈bU names x.h.objs.size:=λ{n d} h e=>by
   refine aC λw f=>?_;obtain ⟨M,r,m⟩:=O n h;cases e.symm.trans r;refine f ?_;exact m
  have U:∀{n d},(n,d)∈bU names x.h.objs.size->x.h.objs.size<=d:=λm=>iz (y m);refine (j n i).elim (λh=>(j C F).elim (λs=>name_of_addr ok.apart (J h e) (J s L)) λs=>?_) λh=>(j C F).elim (λs=>?_) λs=>I.inj n C d h s ((A n h).symm.trans e) ((A C s).symm.trans L)
  ·exact absurd (t s ((A C s).symm.trans L)).1 (N2 (U (J h e)))
  ·exact absurd (t h ((A n h).symm.trans e)).1 (N2 (U (J s L)))
 ·refine aC λw f=>?_;obtain ⟨M,r,m⟩:=O n i;cases e.symm.trans r;refine f ?_;exact y m
 ·refine (j n i).elim (λh=>?_) λh=>?_
  ·refine aC λw f=>?_;obtain ⟨M,r,m⟩:=O n h;cases e.symm.trans r;refine f ?_;exact ⟨(fB H (iz (y m))).1,λq=>absurd (ok.empty n d m).2 (by rw[q,N.loc];exact Nat.not_succ_le_self _)⟩
  ·have:=t h ((A n h).symm.trans e);exact ⟨this.2,λq=>Mz _ (by rw[q,N.loc] at this;exact this.1)⟩
theorem nX {scope:OI}{f:Str}{e:Option Addr}{code:Value}{b:Option Env}{c d:Addr}{k:List (Str×Value)}{w:Ld}{Q:Env->Kh->Prop}{E:Value->Kh->Prop}{T:String}(l:(if b.isSome=Vn then "dict" else "frame")=T) (h:Km (Kn PR w) A (do
   for (name,v) in k do Og (Ux scope x.h.objs.size d (bU scope.names x.h.objs.size++cl) f e code b c) name v
   pure (Ux scope x.h.objs.size d (bU scope.names x.h.objs.size++cl) f e code b c)) Q E {x.S with heap:=dG scope.names T x.h}) :
  Km (Kn PR w) A (NW scope d cl k f e code b c) Q E x.S:=by
 subst l;unfold NW;refine Kc (Va ?_);refine Kc (wpAny_layCells _ (λname g j=>by cases i:g==Pe<;>simp[i]) _ _ _ _ ?_);rw[show ({x.S with heap:=x.h.push (Db (if b.isSome=Vn then "dict" else "frame"))}:Kh).heap.objs.size=x.h.objs.size+1 from LF ..];rw[show NC (x.h.objs.size+1) scope.names cl=bU scope.names x.h.objs.size++cl from tR (a:=[])];cases b<;>exact h
theorem A2 {z:Z}(f:Str×Value->PUnit->OW (ForInStep PUnit)) (o:∀n v u,f (n,v) u=(do Og z.env n v;pure (.yield ⟨⟩))):∀{ns:List Str}{vals:List Value}{vs:List V}{b:List (Str×V)}{s:St}{x:X}{Q:PUnit->Kh->Prop}{E:Value->Kh->Prop},dJ z x vals vs->b=ns.zip vs->ns.length=vs.length->(∀n∈ns,bC (cx.names.lookup n)=Vn)->At cx z s x->
  (∀y,Nx cx z x ⟨eF b s.fr,s.st⟩ y True->Q ⟨⟩ y.S)->Km (Kn PR z.c.w) z.A (forIn (ns.zip vals) ⟨⟩ f) Q E x.S:=
 @lr _ _
 (@λvals vs b s x Q E k i g d a h=>by
  subst i;rw[List.zip_nil_left,Tl];exact Ko (h x (a.go trivial)))
 (λn ns q=>(@λvals vs b s x Q E k i g d a h=>by
  cases vs with
  | nil=>cases g
  | cons v vs=>
   obtain ⟨u,t,rfl,rv,rs⟩:=k.view;subst i;rw[List.zip_cons_cons,Qr,o];refine Kc (Kc (gY a (d _ (.head _)) rv λy m=>Ko ?_));exact q (rs.mono (λ_ _ e=>m.r.1▸e) λ_ h=>m.r.2▸h) rfl (Ng g) (λp l=>d p (.tail _ l)) m.at_ λw j=>h w ⟨j.at_,m.adv.trans j.adv,trivial⟩))
end
end
section
set_option linter.all false
noncomputable def bx (fd:FuncData):List Str:=fd.params.args.map (·.arg)++fd.params.vararg.toList.map (·.arg)
noncomputable def dA (fd:FuncData):List Stmt:=match fd.body with
 | .stmts b=>b
 | _=>[]
noncomputable def u0 (fd:FuncData):Bool:=match fd.body with
 | .stmts _=>Vn
 | _=>Vo
noncomputable def zU (d:Data):Option (Array Value):=match d with
 | .fields vs=>Vl vs
 | _=>Vm
noncomputable def DF (v:Value):Option Str:=match v with
 | .str q _=>Vl q
 | _=>Vm
noncomputable def Eg (v:Value):Option Addr:=match v with
 | .ref c=>Vl c
 | _=>Vm
noncomputable def vy (K:Frag) (fd:FuncData):Bool:=((Eg fd.code).bind λc=>(K.lookup c).bind λo=>(zU o.data).bind λvs=>(vs[1]?).bind DF)==Vl fd.qualname
noncomputable def Ju (K:Frag) (fd:FuncData):Bool:=vy K fd&&((fd.scope.kind==.function)&&(!fd.scope.isGenerator&&(!fd.scope.isCoroutine&&((fd.globals==LH)&&((fd.builtins==M5)&&(fd.closure.isEmpty&&(u0 fd&&fd.scope.names.all λp=>!(p.2==.free)&&(fd.scope.names.lookup p.1==Vl p.2))))))))
theorem Hi (P:LB):BE.all (λp=>Ju (KK P) p.2)=true:=rfl
theorem D1 (P:LB):BE.map (λp=>(KK P).lookup p.1)=BE.map λp=>Vl ⟨.type "function",Vm,.func p.2,#[]⟩:=rfl
noncomputable def zZ (v:Bool) (n:Nat):List (Nat×FuncData):=BE.filter λp=>(p.1 != 73)&&((p.2.params.vararg.isSome==v)&&(p.2.params.args.length==n))
theorem DZ:BE.all (λp=>(p.1==73)||(((p.2.params.vararg.isSome==Vo)&&((p.2.params.args.length==1)||((p.2.params.args.length==2)||(p.2.params.args.length==4))))||((p.2.params.vararg.isSome==Vn)&&((p.2.params.args.length==1)||(p.2.params.args.length==2)))))=true:=rfl
theorem JY (a:Value):(zZ Vo 1).map (λp=>NF p.2 ⟨[a],[]⟩)=(zZ Vo 1).map λp=>pure ((bx p.2).zip [a]):=rfl
theorem JX (a b:Value):(zZ Vo 2).map (λp=>NF p.2 ⟨[a,b],[]⟩)=(zZ Vo 2).map λp=>pure ((bx p.2).zip [a,b]):=rfl
theorem JW (a b d e:Value):(zZ Vo 4).map (λp=>NF p.2 ⟨[a,b,d,e],[]⟩)=(zZ Vo 4).map λp=>pure ((bx p.2).zip [a,b,d,e]):=rfl
theorem JV (a:Value) (l:List Value):(zZ Vn 1).map (λp=>NF p.2 ⟨[a]++l,[]⟩)=(zZ Vn 1).map λp=>O9 l >>= λt=>pure ((bx p.2).zip ([a]++[t])):=by
 cases l<;>kernel_rfl
theorem JU (a b:Value) (l:List Value):(zZ Vn 2).map (λp=>NF p.2 ⟨[a,b]++l,[]⟩)=(zZ Vn 2).map λp=>O9 l >>= λt=>pure ((bx p.2).zip ([a,b]++[t])):=by
 cases l<;>kernel_rfl
noncomputable def iY (a:Addr) (fd:FuncData) (vs:List V):Option (List V):=if a=73 then fc vs λv=>Vl [v,.d .non] else
 optE fd.params.vararg (if vs.length=fd.params.args.length then Vl vs else Vm) λ_=>if fd.params.args.length<=vs.length then (ej (vs.drop fd.params.args.length)).bind λds=>if ds.length<=1000 then Vl (vs.take fd.params.args.length++[.d (.tup ds)]) else Vm else Vm
theorem IU (P:LB):(KK P).lookup 73=Vl ⟨.type "function",Vm,.func (aW 73),#[]⟩:=rfl
theorem IV (P:LB):(KK P).lookup 66=Vl ⟨.type "tuple",Vm,.seq #[.none] 0,#[]⟩:=rfl
theorem C8 (a:Value){s:Kh}(b:s.heap.get? 66=Vl ⟨.type "tuple",Vm,.seq #[.none] 0,#[]⟩):BindsTo s (aW 73) ⟨[a],[]⟩ ((bx (aW 73)).zip [a,.none]):=by
 refine BindsTo.of_defaults (T:=66) (k:=?_) rfl b rfl ?_ ?_
 rotate_left
 ·unfold NF;exact rfl
 ·kernel_rfl
theorem hM {α β:Type}{l:List α}{f g:α->β}(h:l.map f=l.map g){p:α}(a:p∈l):f p=g p:=List.map_inj_left.mp h p a
theorem zW {a:Nat}{fd:FuncData}:∀{l:List (Nat×FuncData)},l.lookup a=Vl fd->(a,fd)∈l
 | p::r,h=>by
  rw[MH] at h;cases b:a==p.1 with
  | true=>rw[b] at h;refine rq (J9 h) ?_;rw[eq_of_beq b];exact .head _
  | false=>rw[b] at h;exact .tail _ (zW h)
section
variable {cx:Cx}{z:Z}{s:St}{x y:X}{k:Nat}{vals:List Value}{args us:List V}{p:Nat×FuncData}{A:Lc}{E:Value->Kh->Prop}
theorem G2 {α:Type}{l:List α}(h:l.length=1):∃a,l=[a]:=List.length_eq_one_iff.mp h
theorem Fp {α:Type}{l:List α}(h:l.length=2):∃a b,l=[a,b]:=match l,h with
 | [a,b],_=>y2 a b rfl
theorem IT {α:Type}{l:List α}(h:l.length=4):∃a b c d,l=[a,b,c,d]:=match l,h with
 | [a,b,c,d],_=>y4 a b c d rfl
theorem zH {v:Bool}{n:Nat}(b:p∈BE) (h:(p.1==73)=Vo) (a:(p.2.params.vararg.isSome==v)=Vn) (c:(p.2.params.args.length==n)=Vn):p∈zZ v n:=LN.mpr ⟨b,by rw[a,c];show (!(p.1==73)&&_)=Vn;rw[h];rfl⟩
theorem tY (g:p∈BE) (h:(p.1==73)=Vo) (c:(p.2.params.vararg.isSome==Vo)=Vn) (i:vals.length=p.2.params.args.length):NF p.2 ⟨vals,[]⟩=pure ((bx p.2).zip vals):=by
 have e:=KP.mp DZ p g;rw[h,c,show (p.2.params.vararg.isSome==Vn)=Vo by rw[beq_iff_eq.mp c];rfl,QP,OH,PF,TJ] at e;refine (Mh.mp e).elim (λe=>?_) λe=>(Mh.mp e).elim (λe=>?_) λe=>?_
 ·obtain ⟨a,rfl⟩:=G2 (i.trans (beq_iff_eq.mp e));exact hM (JY a) (zH g h c e)
 ·obtain ⟨a,b,rfl⟩:=Fp (i.trans (beq_iff_eq.mp e));exact hM (JX a b) (zH g h c e)
 ·obtain ⟨a,b,d,f,rfl⟩:=IT (i.trans (beq_iff_eq.mp e));exact hM (JW a b d f) (zH g h c e)
theorem xl {l:List Value}(d:p∈BE) (h:(p.1==73)=Vo) (c:(p.2.params.vararg.isSome==Vn)=Vn) (f:vals.length=p.2.params.args.length):NF p.2 ⟨vals++l,[]⟩=(O9 l >>= λt=>pure ((bx p.2).zip (vals++[t]))):=by
 have e:=KP.mp DZ p d;rw[h,c,show (p.2.params.vararg.isSome==Vo)=Vo by rw[beq_iff_eq.mp c];rfl,QP,PF,PF,TJ] at e;refine (Mh.mp e).elim (λe=>?_) λe=>?_
 ·obtain ⟨a,rfl⟩:=G2 (f.trans (beq_iff_eq.mp e));exact hM (JV a l) (zH d h c e)
 ·obtain ⟨a,b,rfl⟩:=Fp (f.trans (beq_iff_eq.mp e));exact hM (JU a b l) (zH d h c e)
theorem RVs.split {w:Ld}{ρ:List Addr}{c:Imm}(n:Nat):∀{vals:List Value}{us:List V},RVs w ρ c vals us->n<=us.length->∃a b,vals=a++b/\RVs w ρ c a (us.take n)/\RVs w ρ c b (us.drop n):=by
 induction n with
 | zero=>exact λh _=>y2 [] _ (w3 rfl .nil h)
 | succ n e=>
  intro vals us h d;cases us with
  | nil=>cases d
  | cons u us=>
   obtain ⟨v,f,rfl,r,rs⟩:=h.view;obtain ⟨a,b,rfl,h1,h2⟩:=e rs (Rx d);exact y2 (v::a) b (w3 rfl (.cons r h1) h2)
theorem RVs.app {w:Ld}{ρ:List Addr}{c:Imm}{a b:List Value}{us vs:List V}(h:RVs w ρ c a us) (k:RVs w ρ c b vs):RVs w ρ c (a++b) (us++vs):=h.ind (M:=λa us=>RVs w ρ c (a++b) (us++vs)) k λh _ r=>.cons h r
theorem Adv.gr {c:Cn}{own:List Addr}{h':Heap}{tk:Nat}{ex:Imm}(k:Kp x.h h') (e:∀p∈ex,x.h.get? p.1=Vm):Adv c own x (x.gr h' tk ex):=⟨λb o e _ _=>.inl (k b o e),λb o e=>⟨o,k b o e⟩,λ_ h=>Li _ h,λp h=>(Ku.mp h).elim (λh=>.inr (.inl (e p h))) .inl,λ_ h=>.inl h,λ_ _ e=>e,y3 _ _ _ rfl⟩
theorem Dj {Q:List (Str×Value)->Kh->Prop}(j:p∈BE) (B:Bs z.c) (g:At cx z s x) (rs:dJ z x vals args) (i:iY p.1 p.2 args=Vl us) (h:∀f y,Nx cx z x s y (dJ z y f us)->Adv z.c [] x y->Q ((bx p.2).zip f) y.S):Km (Kn PR z.c.w) A (NF p.2 ⟨vals,[]⟩) Q E x.S:=by
 unfold iY at i;by_cases d:p.1=73
 ·rw[if_pos d] at i;have t:p.2=aW 73:=by
   have m:=hM (D1 z.c.w.params) j;rw[d] at m;exact Data.func.inj (congrArg QU (J9 (m.symm.trans (IU z.c.w.params))))
  refine gD (P:=λvals=>Km (Kn PR z.c.w) A (NF p.2 ⟨vals,[]⟩) Q E x.S) rs i λ{v u} _ r e=>?_;rw[t] at h ⊢;exact C8 v (B.kin g.H.base 66 _ (IV z.c.w.params)) _ _ _ _ (h _ x (g.go (J9 e▸.cons r (.cons RD.non .nil))) (.refl _ _ _))
 ·rw[if_neg d] at i;have d:(p.1==73)=false:=beq_eq_false_iff_ne.mpr d;cases l:p.2.params.vararg with
  | none=>
   rw[l] at i;refine bD i λk e=>?_;rw[tY j d (by rw[l];rfl) (rs.length.trans k)];exact Ko (h _ x (g.go (J9 e▸rs)) (.refl _ _ _))
  | some F=>
   rw[l] at i;refine bD i λk e=>aA e λG q e=>bD e λI e=>?_;obtain ⟨a,b,rfl,r1,r2⟩:=rs.split p.2.params.args.length k;have o:=kj r2 q;have C:=o.length;rw[xl j d (by rw[l];rfl) (by rw[r1.length,Lr];exact ND k)];refine Kc (Uq (Ko ?_) (bQ (by walk_at "n")));have n:=g.kp (h':=x.h.push (dU b 0)) (tk:=x.S.toks) (ex:=[(x.h.objs.size,dU b 0)]) (r:=True) (aM _ _) (λp j=>by rw[Kg.mp j];exact ⟨Kq _ rfl,bF _⟩) trivial;exact h _ _ ⟨n.at_,n.adv,J9 e▸(r1.up n.adv).app (.cons (RD.tup (.head _) (by walk_at "n") (mD o)) .nil)⟩ (.gr (aM _ _) λp j=>by rw[Kg.mp j];exact bF _)
end
end
section
set_option linter.all false
section
variable {c:Cn}{cx:Cx}{env:Env}{own own':List Addr}{x x₀ y z:X}{st:List SObj}{fr:List (Str×V)}
noncomputable def Cn.push (c:Cn) (env:Env):Cn:={c with fs:=env::c.fs}
theorem Bs.push (B:Bs c):Bs (c.push env):=⟨B.k,B.gl,B.lim⟩
theorem lF {L:Addr}(a:env.frame=Vl L):(c.push env).fa=L::c.fa:=by unfold Cn.fa Cn.push;rw[KX,a]
theorem HI.push {L:Addr}{o:Obj}(H:HI c st x) (f:env.scope.kind≠.module) (b:env.frame=Vl L) (g:x.h.get? L=Vl o) (d:∀vs,o.data≠.fields vs) (j:L∉x.la) (k:∀p∈x.imm,p.1≠L) (l:c.hb.get? L=Vm):HI (c.push env) st x where
 base:=H.base
 immIn:=H.immIn
 ledIn:=H.ledIn
 nd:=H.nd
 ledB:=H.ledB
 dis:=H.dis
 len:=H.len
 foot:=H.foot
 frs:=w3 f (y2 L o (w4 b (lz _) g d)) H.frs
 fsI:=λa i=>(Kt.mp (lF b▸i)).elim (λe=>by rw[e];exact w3 k j l) (H.fsI a)
 imm0:=H.imm0
theorem HI.pop {L:Addr}(d:env.frame=Vl L) (H:HI (c.push env) st x):HI c st x:=⟨H.base,H.immIn,H.ledIn,H.nd,H.ledB,H.dis,H.len,H.foot,H.frs.2.2,λa b=>H.fsI a (lF d▸.tail _ b),H.imm0⟩
theorem EI.push {e:Env}(F:EI c cx env own fr x):EI (c.push e) cx env own fr x:=⟨F.kind,F.glb,F.blt,F.names,F.ns,F.cells,F.loc,F.ownI,F.cellI,F.cellO,F.cellL⟩
theorem Adv.pop {L:Addr}(p:Adv (c.push env) own' x y) (f:env.frame=Vl L) (d:x.h.get? L=Vm) (hn:∀a∈own',x.h.get? a=Vm):Adv c [] x y where
 keep:=λb o e _ n=>(p.keep b o e (λm=>au ((hn b m).symm.trans e)) n).imp id λq=>⟨(Kt.mp (lF f▸q.1)).elim (λg=>au (d.symm.trans (g▸e))) id,q.2⟩
 alive:=p.alive
 imm:=p.imm
 immN:=p.immN
 ledN:=p.ledN
 rho:=p.rho
 rest:=p.rest
theorem Adv.push {L:Addr}(p:Adv c own x y) (d:env.frame=Vl L) (hs:∀a∈own,a∈own'):Adv (c.push env) own' x y where
 keep:=λb o e f g=>(p.keep b o e (λm=>f (hs b m)) g).imp id λq=>⟨lF d▸.tail _ q.1,q.2⟩
 alive:=p.alive
 imm:=p.imm
 immN:=p.immN
 ledN:=p.ledN
 rho:=p.rho
 rest:=p.rest
theorem dX.pop {b:Bool}{a:Addr}{k:D}{as:List D}(h:dX b (c.push env) x y a k as):dX b c x y a k as:=⟨h.1,h.2.imp λ_ h=>h.imp λ_ h=>h.imp λ_ h=>h.imp λ_ h=>h.imp λ_ h=>⟨⟨h.1.get,h.1.cls,h.1.data,h.1.arg,h.1.tup,h.1.le,h.1.rs⟩,h.2⟩⟩
end
noncomputable def Hs (x:Res Fl):Res V:=Res.casesOn x (λf s=>Fl.casesOn f (.ok (.d .non) ⟨[],s.st⟩) .bad .bad λv=>.ok v ⟨[],s.st⟩) (λk as s=>.exn k as ⟨[],s.st⟩) .bad
noncomputable def gP (fd:FuncData):Cx:=⟨fd.scope.names,Vo,Vo⟩
noncomputable def v8 {k:Nat}(r:Sr k) (fd:FuncData) (oF:List (Str×V)) (us:List V) (st:List SObj):Res V:=Hs ((r.xs (gP fd) (dA fd)).f ⟨eF ((bx fd).zip us) oF,st⟩)
noncomputable def nb {k:Nat}(r:Sr k) (a:Addr) (fd:FuncData) (vs:List V) (st:List SObj):Res V:=optE (iY a fd vs) .bad λus=>if (bx fd).length=us.length/\((bx fd).all λn=>bC (fd.scope.names.lookup n))=Vn then v8 r fd [] us st else .bad
structure FnA (fd:FuncData):Prop where
 kind:fd.scope.kind=.function
 glb:fd.globals=LH
 blt:fd.builtins=M5
structure FnB (fd:FuncData):Prop where
 kind:fd.scope.kind=.function
 gen:fd.scope.isGenerator=Vo
 co:fd.scope.isCoroutine=Vo
 glb:fd.globals=LH
 blt:fd.builtins=M5
 clo:fd.closure=[]
 body:fd.body=.stmts (dA fd)
 names:∀p∈fd.scope.names,p.2≠.free/\fd.scope.names.lookup p.1=Vl p.2
theorem FE {K:Frag}{fd:FuncData}(h:Ju K fd=Vn):vy K fd=Vn/\FnB fd:=by
 have f:=Kk.mp h;have c:=Kk.mp f.2;have j:=Kk.mp c.2;have d:=Kk.mp j.2;have i:=Kk.mp d.2;have a:=Kk.mp i.2;have g:=Kk.mp a.2;have b:=Kk.mp g.2;refine ⟨f.1,beq_iff_eq.mp c.1,(KL _).mp j.1,(KL _).mp d.1,beq_iff_eq.mp i.1,beq_iff_eq.mp a.1,OL.mp g.1,?_,λp k=>?_⟩
 ·have:=b.1;unfold u0 at this;unfold dA;cases q:fd.body with
  | stmts=>rfl
  | _=>rw[q] at this;cases this
 ·have:=Kk.mp (KP.mp b.2 p k);have l:p.2≠.free:=λe=>by rw[e] at this;cases this.1
  exact ⟨l,beq_iff_eq.mp this.2⟩
theorem FnB.fr {fd:FuncData}{c:Cn}{x:X}(N:FnB fd):FrIn c fd.scope.names fd.closure [] x:=by
 rw[N.clo];exact ⟨λp a=>(N.names p a).2,λn v g=>au g,λn q=>absurd rfl (N.names _ (mem_of_lookup q)).1,λn _ _ q=>absurd rfl (N.names _ (mem_of_lookup q)).1⟩
theorem Gc {v:Value}{c:Addr}(h:Eg v=Vl c):v=.ref c:=by cases v<;>first | exact au h | exact congrArg _ (J9 h)
theorem CY {d:Data}{vs:Array Value}(h:zU d=Vl vs):d=.fields vs:=by cases d<;>first | exact au h | exact congrArg _ (J9 h)
theorem ye {v:Value}{q:Str}(h:DF v=Vl q):∃t,v=.str q t:=by cases v<;>first | exact au h | exact ⟨_,by rw[J9 h]⟩
theorem vx {K:Frag}{fd:FuncData}{h:Heap}(X:K.In h) (q:vy K fd=Vn):h.CodeRec fd.code fd.qualname:=aA (beq_iff_eq.mp q) λc d e=>aA e λo i e=>aA e λa b e=>aA e λv f e=>(ye e).elim λt g=>y4 c o a t (w4 (Gc d) (X _ _ i) (CY b) (g▸f))
noncomputable abbrev gu (fd:FuncData) (L a:Addr):Env:=Ux fd.scope L fd.globals (bU fd.scope.names L++fd.closure) (fd.qualname++".<locals>.") (Vl a) fd.code Vm fd.builtins
section
variable {k:Nat}
noncomputable abbrev Gi (z:Z) (fd:FuncData) (L a:Addr):Z:=⟨z.c.push (gu fd L a),gu fd L a,frOwn fd.scope.names L,z.A.deeper (gu fd L a)⟩
set_option backward.match.sparseCases true in
theorem rf {cx:Cx}{z:Z}{s:St}{x:X}{fd:FuncData}{a:Addr}{vals:List Value}{us:List V}{oF:List (Str×V)}{Q:Value->Kh->Prop}{E:Value->Kh->Prop}(N:FnA fd) (I:FrIn z.c fd.scope.names fd.closure oF x) (o:Ok (k+1) cx z) (hh:z.A.handled=Vm) (d:At cx z s x) (rs:dJ z x vals us) (P:(bx fd).length=us.length) (M:((bx fd).all λn=>bC (fd.scope.names.lookup n))=Vn) (h:∀y,Ok k (gP fd) (Gi z fd x.h.objs.size a)->At (gP fd) (Gi z fd x.h.objs.size a) ⟨eF ((bx fd).zip us) oF,s.st⟩ y->Adv (z.c.push (gu fd x.h.objs.size a)) (frOwn fd.scope.names x.h.objs.size) x y->(∀w,Adv (z.c.push (gu fd x.h.objs.size a)) (frOwn fd.scope.names x.h.objs.size) y w->Adv z.c [] x w)->
   Km (Kn PR z.c.w) (Gi z fd x.h.objs.size a).A (Vg (dA fd) (Gi z fd x.h.objs.size a).env) (λf i=>OU Q E (.ok (.ret (match f with | .ret v=>v | _=>.none))) i) (λe i=>Km (Kn PR z.c.w) (Gi z fd x.h.objs.size a).A (U2 (Gi z fd x.h.objs.size a).env e) (λ_ g=>OU Q E (.error e) g) (λK g=>OU Q E (.error K) g) i) y.S) :
  Km (Kn PR z.c.w) z.A.in1 (NW fd.scope fd.globals fd.closure ((bx fd).zip vals) (fd.qualname++".<locals>.") (Vl a) fd.code Vm fd.builtins) (λenv u=>u.heap.NoLimit/\Mu (Kn PR z.c.w) z.A (.func (dA fd) env) (OU Q E) u) (λe i=>OU Q E (.error e) i) x.S:=by
 refine nX (T:="frame") rfl ?_;have j:Kp x.h (dG fd.scope.names "frame" x.h):=mH;have C:=d.kp (h':=dG fd.scope.names "frame" x.h) (tk:=x.S.toks) (ex:=[]) (r:=True) j (λ_ h=>nomatch h) trivial;obtain ⟨J,Y,f3,_⟩:=fB d.H (KH x.h.objs.size);have O:HI (z.c.push (gu fd x.h.objs.size a)) s.st (x.gr (dG fd.scope.names "frame" x.h) x.S.toks []):=C.at_.H.push (L:=x.h.objs.size) (by rw[N.kind];exact nofun) rfl (Ps _ _ _ _ (Kq _ rfl)) (λvs q=>nomatch q) J Y f3;have R:EI z.c (gP fd) (gu fd x.h.objs.size a) (frOwn fd.scope.names x.h.objs.size) oF (x.gr (dG fd.scope.names "frame" x.h) x.S.toks []):=.new d.H I ⟨N.kind,N.glb,N.blt,λn=>w4 id id id id,rfl,rfl⟩;refine Kc (A2 (z:=⟨z.c.push (gu fd x.h.objs.size a),gu fd x.h.objs.size a,frOwn fd.scope.names x.h.objs.size,z.A.in1⟩) (cx:=gP fd) (s:=⟨oF,s.st⟩) _ (λ_ _ _=>rfl) (rs.up C.adv) rfl P (λn U=>KP.mp M n U) ⟨O,R.push⟩ λy m=>Ko ⟨o.B.lim.keeps m.at_.H.base,codeAny_func ?_⟩);have ok:Ok k (gP fd) ⟨z.c.push (gu fd x.h.objs.size a),gu fd x.h.objs.size a,frOwn fd.scope.names x.h.objs.size,z.A.deeper (gu fd x.h.objs.size a)⟩:=⟨o.B.push,λ_=>y2 _ _ ⟨rfl,rfl⟩,by show z.A.frames.map _=_;rw[o.frames];rfl,λ_=>hh,by have:=o.depth;show z.A.depth+1+k<_;lia,by have:=o.units;show z.A.units+3+8*k+200<_;lia⟩
 have a1:At (gP fd) ⟨z.c.push (gu fd x.h.objs.size a),gu fd x.h.objs.size a,frOwn fd.scope.names x.h.objs.size,z.A.deeper (gu fd x.h.objs.size a)⟩ ⟨eF ((bx fd).zip us) oF,s.st⟩ y:=⟨m.at_.H,m.at_.F⟩
 have t:Adv (z.c.push (gu fd x.h.objs.size a)) (frOwn fd.scope.names x.h.objs.size) x y:=((Adv.push (own:=[]) (own':=frOwn fd.scope.names x.h.objs.size) (env:=gu fd x.h.objs.size a) (L:=x.h.objs.size) ⟨λb o e _ _=>.inl (j b o e),λb o e=>⟨o,j b o e⟩,λ_ h=>h,λ_ h=>.inl h,λ_ h=>.inl h,λ_ _ e=>e,y3 _ _ _ rfl⟩ rfl (λ_ h=>nomatch h):Adv _ _ x (x.gr (dG fd.scope.names "frame" x.h) x.S.toks []))).trans m.adv;have l:∀{w:X},Adv (z.c.push (gu fd x.h.objs.size a)) (frOwn fd.scope.names x.h.objs.size) y w->Adv z.c [] x w:=λp=>(t.trans p).pop (L:=x.h.objs.size) rfl (bF _) λb G=>KS (iz G);exact h y ok a1 t λw p=>l p
theorem yu {cx:Cx}{z:Z}{s:St}{x:X}{fd:FuncData}{a:Addr}{vals:List Value}{us:List V}{oF:List (Str×V)}{Q:Value->Kh->Prop}{E:Value->Kh->Prop}(r:Sr k) (N:FnA fd) (I:FrIn z.c fd.scope.names fd.closure oF x) (o:Ok (k+1) cx z) (hh:z.A.handled=Vm) (g:At cx z s x) (rs:dJ z x vals us) (F:(bx fd).length=us.length) (C:((bx fd).all λn=>bC (fd.scope.names.lookup n))=Vn) (h:uj z.c x (v8 r fd oF us s.st) Q E):Km (Kn PR z.c.w) z.A.in1 (NW fd.scope fd.globals fd.closure ((bx fd).zip vals) (fd.qualname++".<locals>.") (Vl a) fd.code Vm fd.builtins) (λenv j=>j.heap.NoLimit/\Mu (Kn PR z.c.w) z.A (.func (dA fd) env) (OU Q E) j) (λe q=>OU Q E (.error e) q) x.S:=by
 refine rf N I o hh g rs F C λy ok m t d=>?_;refine (r.xs (gP fd) (dA fd)).ok ok m _ _ ?_;unfold v8 at h;cases i:(r.xs (gP fd) (dA fd)).f ⟨eF ((bx fd).zip us) oF,s.st⟩ with
 | bad=>rw[i] at h;exact h.elim
 | ok f J=>
  rw[i] at h;intro M w n;have p:=n.r;cases f with
  | next=>refine rp p ?_;exact h _ w (n.at_.H.pop (L:=x.h.objs.size) rfl) (d _ n.adv) RD.non
  | ret v=>obtain ⟨b,rfl,rv⟩:=p;exact h _ w (n.at_.H.pop (L:=x.h.objs.size) rfl) (d _ n.adv) rv
  | brk=>exact h.elim
  | cont=>exact h.elim
 | exn kc K J=>
  rw[i] at h;exact λG w n=>s9 ok rfl m n λu l=>h G u (l.at_.H.pop (L:=x.h.objs.size) rfl) (d _ l.adv) (l.r.weak.lift t).pop
theorem CX {a:Nat}{fd:FuncData}{vs:List V}{st:List SObj}(r:Sr k) (I:zY a=Vl fd):ip (k+1) a vs st (nb r a fd vs st):=λ{L z M x t} o J d G Q E h=>by
 have s:=zW I;obtain ⟨F,N⟩:=FE (KP.mp (Hi z.c.w.params) _ s);have X:=o.B.kin d.H.base;have C:=hM (D1 z.c.w.params) s;unfold nb at h;cases i:iY a fd vs with
 | none=>rw[i] at h;exact h.elim
 | some u=>
  rw[i] at h;change uj z.c x (if _ then _ else _) Q E at h;by_cases f:(bx fd).length=u.length/\((bx fd).all λn=>bC (fd.scope.names.lookup n))=Vn
  ·rw[if_pos f] at h;refine Pz (by have:=o.depth;(first | omega | lia)) (X _ _ C) rfl N.co N.gen N.body (vx X F) (Dj s o.B d G i λl y n p=>yu r ⟨N.kind,N.glb,N.blt⟩ (FnB.fr (fd:=fd) N) o J n.at_ n.r f.1 f.2 ?_);cases m:v8 r fd [] u st with
   | bad=>rw[m] at h;exact h.elim
   | ok v A=>rw[m] at h;exact λb w j g q=>h b w j (p.trans g) q
   | exn e K A=>rw[m] at h;exact λb w j g q=>h b w j (p.trans g) (q.lift p)
  ·rw[if_neg f] at h;exact h.elim
end
end
section
set_option linter.all false
noncomputable abbrev oO (C:Addr) (vals:List Value):Code:=.builtin "type.__call__" ⟨.ref C::vals,[]⟩
theorem Iy {C:Addr}{vals:List Value}:(oO C vals).weight=1:=rfl
theorem Iz {C:Addr}{vals:List Value}:(oO C vals).cUnits=1:=rfl
noncomputable def Z.tc (z:Z) (C:Addr) (vals:List Value):Z:=⟨z.c,z.env,z.own,z.A.under (oO C vals)⟩
noncomputable def jV (res:Res V) (n:Nat):Res V:=Res.casesOn res (λv s=>optE (v.d?.bind D.none?) .bad λ_=>.ok (.loc n) s) (λ_ _ _=>.bad) .bad
section
variable {k:Nat}{cx:Cx}{z:Z}{s:St}{x:X}{C fI:Nat}{vals:List Value}{args:List V}{a:Addr}{so:SObj}{ft:List (Addr×Obj)}{h':Heap}{ex:Imm}{Q:Value->Kh->Prop}{E:Value->Kh->Prop}
theorem Ok.tc (o:Ok (k+1) cx z):Ok k cx (z.tc C vals):=⟨o.B,o.top,o.frames,o.hd,by have:=o.depth;show z.A.depth+Code.weight _+k<_;rw[Iy];lia,by have:=o.units;show z.A.units+Code.cUnits _+8*k+200<_;rw[Iz];lia⟩
theorem mZ (r:Sr k) (o:Ok (k+1) cx z) (hh:z.A.handled=Vm) (i:At cx z s x) (rs:dJ z x vals args) (n:Kp x.h h') (M:∀p∈ex,h'.get? p.1=Vl p.2/\x.h.get? p.1=Vm) (f:∀p∈ft,h'.get? p.1=Vl p.2/\x.h.get? p.1=Vm) (N:∀p∈ft,∀q∈ex,q.1≠p.1) (O:(ft.map (·.1)).Nodup) (hf:eY z.c.w (x.ρ++[a]) (ex++x.imm) a so ft) (mk:∀R,Mu (Kn PR z.c.w) (z.A.under (oO C vals)) (.call (.ref fI) ⟨.ref a::vals,[]⟩) (InitBack a R) {x.S with heap:=h'}->Mu (Kn PR z.c.w) z.A (.call (.ref C) ⟨vals,[]⟩) R x.S) (h:uj z.c x (jV (r.call fI (.loc s.st.length::args) (s.st++[so])) s.st.length) Q E):Mu (Kn PR z.c.w) z.A (.call (.ref C) ⟨vals,[]⟩) (OU Q E) x.S:=by
 refine mk _ ?_;have fresh:∀p∈ft,Fresh x (x.gr h' x.S.toks ex) p.1:=λp g=>⟨λm=>(i.H.laIn m).elim λo e=>au ((f p g).2.symm.trans e),λq T e=>(Ku.mp T).elim (λm=>N p g q m e) λm=>au ((f p g).2.symm.trans (e▸i.H.immIn q m)),(f p g).2⟩
 have U:=i.kp (h':=h') (tk:=x.S.toks) (ex:=ex) (r:=True) n M trivial;have l:Nx cx z x ⟨s.fr,s.st++[so]⟩ ((x.gr h' x.S.toks ex).ad a ft) (aZ z ((x.gr h' x.S.toks ex).ad a ft) (.ref a) (.loc s.st.length)):=Nx.adopt (y:=x.gr h' x.S.toks ex) (so:=so) i U (λp g=>⟨(f p g).1,fresh p g⟩) O hf id;have P:Adv z.c [] x ((x.gr h' x.S.toks ex).ad a ft):=⟨λb o e _ _=>.inl (n b o e),λb o e=>⟨o,n b o e⟩,λ_ h=>Li _ h,λp h=>(Ku.mp h).elim (λh=>.inr (.inl (M p h).2)) .inl,λb t=>by
  have:((x.gr h' x.S.toks ex).ad a ft).la=x.la++ft.map (·.1):=by unfold X.la X.ad X.gr;rw[M1,Kz];simp only[NL,P9,LC]
  exact (Ku.mp (this▸t)).imp id λt=>(Kr.mp t).elim λp g=>by rw[<- g.2];exact (f p g.1).2,iw _ _,y3 _ _ _ rfl⟩
 have L:=r.callOk fI (.loc s.st.length::args) (s.st++[so]) (z:=z.tc C vals) (fr:=s.fr) (vals:=.ref a::vals) o.tc hh ⟨l.at_.H,l.at_.F⟩ (.cons l.r (rs.up l.adv));cases G:r.call fI (.loc s.st.length::args) (s.st++[so]) with
 | bad=>rw[G] at h;exact h.elim
 | exn=>rw[G] at h;exact h.elim
 | ok v s1=>
  rw[G] at h L;change uj z.c x (optE (v.d?.bind D.none?) .bad λ_=>.ok (.loc s.st.length) s1) Q E at h;cases I:v.d?.bind D.none? with
  | none=>rw[I] at h;exact h.elim
  | some u=>
   rw[I] at h;obtain rfl:v=.d .non:=aA I λd e1 Y=>by rw[tL e1,pq Y]
   refine Po (L (λb S=>b=.none/\Q (.ref a) S) (λ_ _=>False) λb y Hy K rb=>⟨rb.view,h (.ref a) y Hy (P.trans K) ⟨a,rfl,K.rho _ _ (l.r.elim λa' e=>Os e.1▸e.2)⟩⟩) λJ s' j=>?_;rcases J with e | (v | _ | _ | _)<;>first | exact j.elim | exact j
theorem mA (P:LB):(U4 (KK P) bJ=Vn/\O0 (KK P) (.ref bJ) "__init__" = Vl (Vl (.ref 73))/\UB (KK P) (.ref 73)=Vl (.type "function"))/\U4 (KK P) eu=Vn/\O0 (KK P) (.ref eu) "__init__" = Vl (Vl (.ref 36))/\UB (KK P) (.ref 36)=Vl (.type "function"):=(w4 (w3 rfl rfl rfl) rfl rfl rfl)
theorem CM (P:LB):U4 (KK P) bL=Vn/\O0 (KK P) (.ref bL) "__init__" = Vl (Vl (.ref 176))/\UB (KK P) (.ref 176)=Vl (.type "function"):=w3 rfl rfl rfl
theorem qp {vs:List V}{st:List SObj}(r:Sr k):ip (k+1) bJ vs st (jV (r.call 73 (.loc st.length::vs) (st++[.inst []])) st.length):=λ{cx z t x vals} o n d g Q E h=>by
 obtain ⟨⟨p,l,q⟩,_⟩:=mA z.c.w.params;have s:(x.h.push emptyDict).objs.size=x.h.objs.size+1:=LF ..;have j:((x.h.push emptyDict).push (Oo bJ x.h.objs.size)).get? (x.h.objs.size+1)=Vl (Oo bJ x.h.objs.size):=s▸Kq _ rfl;have i:((x.h.push emptyDict).push (Oo bJ x.h.objs.size)).get? x.h.objs.size=Vl emptyDict:=KI _ (Kq _ rfl);have X:=o.B.kin d.H.base;exact mZ (so:=.inst []) (a:=x.h.objs.size+1) (ex:=[]) (ft:=[(x.h.objs.size+1,Oo bJ x.h.objs.size),(x.h.objs.size,emptyDict)]) r o n d g (λb o e=>aM _ _ _ _ (aM _ _ _ _ e)) (λ_ h=>nomatch h) (KZ.mpr ⟨⟨j,KS (MU _)⟩,KZ.mpr ⟨⟨i,bF _⟩,λ_ h=>nomatch h⟩⟩) (λ_ _ _ h=>nomatch h) (LM.mpr ⟨λm=>absurd (Kg.mp m) (OQ _),nd1⟩) (y3 _ [] 0 (w3 rfl ⟨rfl,λm=>rfl⟩ (KH _))) (λR h=>Ua (UE X p) (Ss X l) (λf=>U5 X f q) (.inl rfl) h) h
theorem wT {vs:List V}{st:List SObj}(r:Sr k):ip (k+1) bL vs st (jV (r.call 176 (.loc st.length::vs) (st++[.einst []])) st.length):=λ{cx z t x vals} o n d g Q E h=>by
 obtain ⟨q,l,s⟩:=CM z.c.w.params;have p:(x.h.push emptyDict).objs.size=x.h.objs.size+1:=LF ..;have j:((x.h.push emptyDict).push (Oo bL x.h.objs.size)).get? (x.h.objs.size+1)=Vl (Oo bL x.h.objs.size):=p▸Kq _ rfl;have i:((x.h.push emptyDict).push (Oo bL x.h.objs.size)).get? x.h.objs.size=Vl emptyDict:=KI _ (Kq _ rfl);have X:=o.B.kin d.H.base;exact mZ (so:=.einst []) (a:=x.h.objs.size+1) (ex:=[]) (ft:=[(x.h.objs.size+1,Oo bL x.h.objs.size),(x.h.objs.size,emptyDict)]) r o n d g (λb o e=>aM _ _ _ _ (aM _ _ _ _ e)) (λ_ h=>nomatch h) (KZ.mpr ⟨⟨j,KS (MU _)⟩,KZ.mpr ⟨⟨i,bF _⟩,λ_ h=>nomatch h⟩⟩) (λ_ _ _ h=>nomatch h) (LM.mpr ⟨λm=>absurd (Kg.mp m) (OQ _),nd1⟩) (y3 _ [] 0 (w3 rfl ⟨rfl,λm=>rfl⟩ (KH _))) (λR h=>Ua (UE X q) (Ss X l) (λf=>U5 X f s) (.inl rfl) h) h
theorem wo {vs:List V}{st:List SObj}(r:Sr k):ip (k+1) eu vs st (jV (r.call 36 (.loc st.length::vs) (st++[.node Vm Vm Vm])) st.length):=λ{cx z t x vals} o m d g Q E h=>by
 obtain ⟨_,n,l,p⟩:=mA z.c.w.params;have s:(x.h.push emptyDict).objs.size=x.h.objs.size+1:=LF ..;have j:((x.h.push emptyDict).push (Oo eu x.h.objs.size)).get? (x.h.objs.size+1)=Vl (Oo eu x.h.objs.size):=s▸Kq _ rfl;have i:((x.h.push emptyDict).push (Oo eu x.h.objs.size)).get? x.h.objs.size=Vl emptyDict:=KI _ (Kq _ rfl);have X:=o.B.kin d.H.base;exact mZ (so:=.node Vm Vm Vm) (a:=x.h.objs.size+1) (ex:=[(x.h.objs.size,emptyDict)]) (ft:=[(x.h.objs.size+1,Oo eu x.h.objs.size)]) r o m d g (λb o e=>aM _ _ _ _ (aM _ _ _ _ e)) (KZ.mpr ⟨⟨i,bF _⟩,λ_ h=>nomatch h⟩) (KZ.mpr ⟨⟨j,KS (MU _)⟩,λ_ h=>nomatch h⟩) (KZ.mpr ⟨KZ.mpr ⟨λq=>absurd q.symm (OQ _),λ_ h=>nomatch h⟩,λ_ h=>nomatch h⟩) nd1 (y2 _ (#[]) (w6 rfl (.head _) (by decide) (λ_ e=>au e) (λ_ e=>au e) (λ_ e=>au e))) (λR h=>Ua (UE X n) (Ss X l) (λf=>U5 X f p) (.inl rfl) h) h
end
end
section
set_option linter.all false
noncomputable def Cx.hand (cx:Cx):Cx:=⟨cx.names,cx.comp,Vn⟩
noncomputable def nA (kc c:D):Bool:=optE kc.bi? (optE kc.gbl? Vo λa=>(a==cycleC)&&optE c.gbl? Vo λb=>b==cycleC) λb=>optE c.bi? Vo λd=>(b.eq .valueError&&d.eq .valueError)||(b.eq .stopIteration&&d.eq .stopIteration)
noncomputable def uO (x:Res Fl) (g:St->St):Res Fl:=Res.casesOn x (λf s=>.ok f (g s)) (λ_ _ _=>.bad) .bad
section
variable {cx:Cx}{z:Z}{s s0 s1:St}{x x₀ y w:X}{k:Nat}{kc:D}{as:List D}{ea:Addr}
theorem Bi.ve_of {b:Bi}(h:b.eq .valueError=Vn):b=.valueError:=by cases b<;>first | rfl | cases h
theorem Bi.si_of {b:Bi}(h:b.eq .stopIteration=Vn):b=.stopIteration:=by cases b<;>first | rfl | cases h
theorem vR (P:LB):UG (KK P) (.ref cycleC) (.ref cycleC)=Vl Vn/\UG (KK P) (.type "ValueError") (.type "ValueError")=Vl Vn/\UG (KK P) (.type "StopIteration") (.type "StopIteration")=Vl true:=w3 rfl rfl rfl
theorem BW {c:Cn}{g:D}{val:Value}{j:Imm}(P:LB) (h:nA kc g=Vn) (e:RD c.w j val g):UG (KK P) (xf kc) val=Vl true:=by
 obtain ⟨l,k,m⟩:=vR P;unfold nA at h;cases f:kc.bi? with
 | none=>
  cases d:kc.gbl? with
  | none=>rw[f,d] at h;cases h
  | some a=>cases i:g.gbl? with
   | none=>rw[f,d,i] at h;exact nomatch (Kk.mp h).2
   | some b=>
    rw[f,d,i] at h;have h:=Kk.mp h;rw[mG d,eq_of_beq h.1];rw[mG i,eq_of_beq h.2] at e;refine rp (show val=.ref cycleC from e.view) ?_;exact l
 | some b=>cases d:g.bi? with
  | none=>rw[f,d] at h;cases h
  | some n=>
   rw[f,d] at h;rw[kh f];rw[kh d] at e;refine (Mh.mp h).elim (λh=>?_) λh=>?_
   ·have h:=Kk.mp h;rw[Bi.ve_of h.2] at e;refine rp (show val=.type "ValueError" from e.view) ?_;exact Bi.ve_of h.1▸k
   ·have h:=Kk.mp h;rw[Bi.si_of h.2] at e;refine rp (show val=.type "StopIteration" from e.view) ?_;exact Bi.si_of h.1▸m
theorem EI.re {a:Cx}{c:Cn}{env:Env}{own:List Addr}{fr:List (Str×V)}(F:EI c cx env own fr x) (h:a.names=cx.names):EI c a env own fr x:=by
 cases cx;cases a;cases h;exact ⟨F.kind,F.glb,F.blt,F.names,F.ns,F.cells,F.loc,F.ownI,F.cellI,F.cellO,F.cellL⟩
theorem At.hand (a:At cx z s x):At cx.hand z s x:=⟨a.H,a.F.re rfl⟩
noncomputable def Z.mark (z:Z) (e:Value):Z:=⟨z.c,z.env,z.own,z.A.mark (Vl e)⟩
theorem Ok.mark {e:Value}(o:Ok k cx z):Ok k cx.hand (z.mark e):=⟨o.B,o.top,o.frames,(λh=>nomatch h),o.depth,o.units⟩
theorem At.mark {e:Value}(a:At cx z s x):At cx.hand (z.mark e) s x:=⟨a.H,a.F.re rfl⟩
theorem At.unmark {e:Value}(a:At cx.hand (z.mark e) s x):At cx z s x:=⟨a.H,a.F.re rfl⟩
theorem dX.keep (a:At cx z s0 x₀) (X:dX Vn z.c x₀ y ea kc as) (p:Adv z.c z.own y w):dX Vn z.c x₀ w ea kc as:=by
 obtain ⟨f,g,b,t,i,n,E,e⟩:=X;refine e.elim (λh=>nomatch h.1) λ⟨T,oT,d,B⟩=>?_;exact ⟨f.keep E.get p,y5 g b t i n ⟨⟨f.same a E.get p,E.cls,E.data,E.arg,p.imm _ E.tup,E.le,E.rs.mono p.imm⟩,.inr (y3 T oT d ⟨B.at_,B.ne,B.off.same a B.get p,B.data,B.size,B.off.keep B.get p⟩)⟩⟩
theorem wS {r:Prop}(e:At cx z s0 x₀) (n:Nx cx z x₀ s y r) (X:dX Vn z.c x₀ y ea kc as):∃a,a.S=y.S/\Nx cx z x₀ ⟨s.fr,s.st++[.exc kc as]⟩ a (aZ z a (.ref ea) (.loc s.st.length)):=by
 refine aC λG i=>?_;obtain ⟨f,b,g,t,h,m,E,_⟩:=X;refine i ?_;exact ⟨y.ad ea [(ea,b)],rfl,Nx.adopt (so:=.exc kc as) e n (λp d=>Kg.mp d▸⟨E.get,f⟩) nd1 (y5 b g t h m (w7 rfl E.cls E.data E.arg E.tup E.le E.rs)) id⟩
theorem eL.noExn {f:St->St}{res:Res Fl}{Q e:QA->Kh->Prop}{E E':Value->Kh->Prop}{c:Cx}{d:Z}(h:eL cx z (RF z) x₀ (uO res f) Q E) (q:∀a (s:St) b y,Nx c d x s y (RF d y b a)->eL cx z (RF z) x₀ (.ok a (f s)) Q E->e b y.S):eL c d (RF d) x res e E':=by
 cases res with
 | bad=>exact h
 | ok a s=>exact λb y n=>q a s b y n h
 | exn k as s=>exact h.elim
end
section
variable {k:Nat}{cx:Cx}(r:Sr k) (ty:Kb) (nm:Option Str) (b:Stmt) (hb:List Stmt)
noncomputable def lP (kc:D) (as:List D) (s:St):Res Fl:=optE nm (uO ((r.xs cx.hand (b::hb)).f s) id) λn=>if cx.names.lookup n=Vl .local then uO ((r.xs cx.hand (b::hb)).f ⟨aY n (.loc s.st.length) s.fr,s.st++[.exc kc as]⟩) λs=>⟨Da n s.fr,s.st⟩ else .bad
noncomputable def kZ (kc:D) (as:List D) (s:St):Res Fl:=Res.casesOn ((r.ev cx.hand ty).f s) (λa s=>optE a.d? .bad λd=>if nA kc d=Vn then lP (cx:=cx) r nm b hb kc as s else .bad) (λ_ _ _=>.bad) .bad
theorem RF.up {z:Z}{y w:X}{f:QA}{g:Fl}{own:List Addr}(h:RF z y f g) (p:Adv z.c own y w):RF z w f g:=by
 cases g with
 | ret v=>exact h.imp λb h=>⟨h.1,h.2.up p⟩
 | _=>exact h
theorem CQ {z:Z}{P s1:St}{x y:X}{kc:D}{as:List D}{a:Addr}{pos:Pos}{Q:QA->Kh->Prop}{E:Value->Kh->Prop}(o:Ok k cx z) (L:At cx z P x) (n:Nx cx z x s1 y (dX Vn z.c x y a kc as)) (h:eL cx z (RF z) x (kZ (cx:=cx) r ty nm b hb kc as s1) Q E):Km (Kn PR z.c.w) z.A (handleBy (.ref a) z.env [.ExceptHandler (Vl ty) nm (b::hb) pos]) Q E y.S:=by
 unfold kZ at h;have O:=(r.ev cx.hand ty).ok (z:=z.mark (.ref a)) (s:=s1) o.mark n.at_.mark;cases i:(r.ev cx.hand ty).f s1 with
 | bad=>rw[i] at h;exact h.elim
 | exn k as s=>rw[i] at h;exact h.elim
 | ok N s2=>
  rw[i] at h O;refine wpAny_handleBy_cons (codeAny_handlers_test (O _ _ λT u m=>?_)) (λq=>nomatch q);change eL cx z (RF z) x (optE N.d? .bad λd=>if nA kc d=Vn then lP (cx:=cx) r nm b hb kc as s2 else .bad) Q E at h;cases C:N.d? with
  | none=>rw[C] at h;exact h.elim
  | some d=>
   rw[C] at h;change eL cx z (RF z) x (if nA kc d=Vn then lP (cx:=cx) r nm b hb kc as s2 else .bad) Q E at h;by_cases hs:nA kc d=Vn
   ·rw[if_pos hs] at h;have U:=n.r.keep L m.adv;obtain ⟨_,oe,vs,t,ws,n',X,_⟩:=id U;have LT:TX (Kn PR z.c.w) u.h (typeOf (.ref a)) (xf kc):=X.cls▸(SY X.get).andThen .now;refine (exm_one (o.B.kin m.at_.H.base) LT (BW z.c.w.params hs (RV.onD m.r C))).at ?_;have Y:At cx z s2 u:=m.at_.unmark;have g:At cx (z.mark (.ref a)) P x:=⟨L.H,L.F⟩
    have R:Nx cx (z.mark (.ref a)) x s2 u (dX Vn z.c x u a kc as):=⟨⟨Y.H,Y.F⟩,n.adv.trans m.adv,U⟩
    cases nm with
    | none=>
     refine codeAny_handlers_suite (fW g R λv l=>?_);exact (r.xs cx.hand (b::hb)).ok (z:=z.mark (.ref a)) o.mark ⟨l.at_.H,l.at_.F.re rfl⟩ _ _ (eL.noExn h λf s3 K w j J=>J K w ⟨j.at_.unmark,l.adv.trans j.adv,j.r⟩)
    | some n=>
     change eL cx z (RF z) x (if cx.names.lookup n=Vl .local then _ else .bad) Q E at h;by_cases p:cx.names.lookup n=Vl .local
     ·rw[if_pos p] at h;refine codeAny_handlers_suite_as (fW g R λv l=>?_);obtain ⟨y',e,M⟩:=wS g l l.r;refine e▸gY M.at_ (by rw[p];rfl) M.r λu2 G=>?_;refine (r.xs cx.hand (b::hb)).ok (z:=z.mark (.ref a)) o.mark ⟨G.at_.H,G.at_.F.re rfl⟩ _ _ (eL.noExn h λf s3 K w j J=>?_);exact CS (z:=z) j.at_.unmark p λv2 I=>J K v2 ⟨I.at_,((M.adv.trans G.adv).trans j.adv).trans I.adv,RF.up (z:=z) j.r I.adv⟩
     ·rw[if_neg p] at h;exact h.elim
   ·rw[if_neg hs] at h;exact h.elim
set_option backward.match.sparseCases true in
noncomputable def Iv (body:List Stmt) (g pos:Pos):Ex k cx (.Try body [.ExceptHandler (Vl ty) nm (b::hb) g] [] [] pos):=⟨λs=>if cx.comp=Vo/\cx.inH=Vo then Res.casesOn ((r.xs cx body).f s) (λf s=>.ok f s) (kZ (cx:=cx) r ty nm b hb) .bad else .bad,λ{z s x} o a=>aN.ite λF Q E h=>by
 rw[arm_exec_Try];refine Kc (Mi ?_);have p:∀{f:Fl}{e:QA}{y:X},RF z y e f->Q e y.S->match e with | .next=>Km (Kn PR z.c.w) z.A (Vg [] z.env) Q E y.S | f=>Q f y.S:=λ{f e y} i q=>by
  cases f with
  | next=>obtain rfl:=i;exact Ul q
  | brk=>obtain rfl:=i;exact q
  | cont=>obtain rfl:=i;exact q
  | ret v=>obtain ⟨b,rfl,_⟩:=i;exact q
 have run:=(r.xs cx body).ok o a;cases d:(r.xs cx body).f s with
 | bad=>rw[d] at h;exact h.elim
 | ok f s1=>
  rw[d] at h run;exact SS (run _ _ λe y n=>p n.r (h e y n))
 | exn kc as s1=>
  rw[d] at h run;obtain ⟨L,j,C,t⟩:=o.top F.1;exact SS (run _ _ λG y n=>gm C t o.frames a n λw m=>fW a m λu l=>CQ r ty nm b hb o a l h)⟩
theorem qJ {z:Z}{s:St}{x:X}{kc:D}{vals:List Value}{ds:List D}{h':Heap}{e:Addr}{tk:Nat}{E:Value->Kh->Prop}(a:At cx z s x) (M:QE x.h h' e (xf kc) vals) (rs:RDs z.c.w x.imm vals ds) (hz:vals.length<=16777216) (h:∀g y,Nx cx z x s y (dX Vo z.c x y g kc ds)->E (.ref g) y.S):E (.ref e) {x.S with heap:=h',toks:=tk}:=by
 obtain ⟨k,d,t,f,l,i⟩:=M;have j:t≠e:=λq=>by
  subst q;exact nomatch congrArg QU (J9 (f.symm.trans i))
 exact h e (x.gr h' tk [(t,dU vals 0)]) (a.kp k (λp b=>by rw[Kg.mp b];exact ⟨i,l⟩) ⟨⟨λm=>(a.H.laIn m).elim λo q=>au (d.symm.trans q),λp b q=>(Kt.mp b).elim (λn=>j (by rw[n] at q;exact q)) λm=>au (d.symm.trans (q▸a.H.immIn p m)),d⟩,y5 _ _ t vals 0 ⟨⟨f,rfl,rfl,rfl,.head _,hz,mD rs⟩,.inl ⟨rfl,rfl⟩⟩⟩)
noncomputable def sN (cx:Cx) (f:Str):Option D:=if cx.names.lookup f=Vl .globalImplicit then (bY f ib).bind λd=>if Ae d=Vn then Vl d else Vm else Vm
theorem yg {env:Env}{pos:Pos}{args:List Kb}(h:cD args=Vn):(Ms pos (LD args env)).any (·.1)=false:=by
 have:=(ku (env:=env) (p:=pos) (args:=args)).trans h;rw[List.all_eq_not_any_not] at this
 simpa using this
theorem pt:∀{args:List Kb},cD args=Vn->aO args=true:=@lr _ _ (@λ_=>rfl) (λe a b=>(@λh=>by
  have h:=Kk.mp h;show ((Rk a||(bb e).isNone)&&aO a)=Vn;rw[show (bb e).isNone=Vn from h.1,b h.2,Bool.or_true];rfl))
theorem ri {z:Z}{f:Value}{pos:Pos}{args:List Kb}{Q:List Value->Kh->Prop}{E:Value->Kh->Prop}{S:Kh}(hs:cD args=Vn) (hn:args≠[]) (h:kP z args Q E S):Km (Kn PR z.c.w) z.A (evalArgs f Vn (Ms pos (LD args z.env)) []) (λa d=>a.kw=[]/\Q a.pos d) E S:=by
 cases args with
 | nil=>exact absurd rfl hn
 | cons e g=>
  have b:=ei (pos:=pos) (pt hs) h;rw[lv (Option.isNone_iff_eq_none.mp (Kk.mp hs).1)] at b ⊢;exact Rv (f:=f) (KN b (λ_ _ q=>⟨rfl,q⟩) λ_ _ e=>e)
noncomputable def lL (kc:D) (vs:List V) (s:St):Res Fl:=optE (ej vs) .bad λds=>if ds.length<=1000 then .exn kc ds s else .bad
theorem qk {z:Z}{s:St}{x y:X}{kc:D}{vals:List Value}{vs:List V}{Q:QA->Kh->Prop}{E:Value->Kh->Prop}{P:Prop}(n:Nx cx z x s y (dJ z y vals vs)) (h:eL cx z (RF z) x (lL kc vs s) Q E) (k:vals.length<=sizeLine->(∀{h' e},QE y.h h' e (xf kc) vals->E (.ref e) {y.S with heap:=h'})->P):P:=by
 unfold lL at h;cases a:ej vs with
 | none=>rw[a] at h;exact h.elim
 | some ds=>
  rw[a] at h;have b:=kj n.r a;have f:=b.length;change eL cx z (RF z) x (if ds.length<=1000 then .exn kc ds s else .bad) Q E at h;by_cases c:ds.length<=1000
  ·rw[if_pos c] at h;exact k (bQ (by walk_at "n")) λM=>qJ (tk:=y.S.toks) n.at_ M b (by walk_at "n") λd w m=>h d w ⟨m.at_,n.adv.trans m.adv,m.r.lift n.adv⟩
  ·rw[if_neg c] at h;exact h.elim
noncomputable def ET (f:Str) (p:Pos) (args:List Kb) (i pos:Pos):Ex k cx (.Raise (Vl (.Call (.Name f p) args [] i)) Vm pos):=⟨λs=>if cx.inH=Vo/\cD args=Vn/\args≠[] then optE (sN cx f) .bad λkc=>(bM (r.ev cx) args s).bind λvs s=>lL kc vs s else .bad,λ{z s x} o a=>aN.ite λt=>by
 have hh:=o.hd t.1;have I:=yg (env:=z.env) (pos:=i) t.2.1;cases L:sN cx f with
 | none=>exact .bad
 | some kc=>
  refine λQ E h=>bD L λR e=>aA e λd N e=>bD e λl T=>?_;cases J9 T;obtain ⟨C,K,G⟩:=jX (pos:=p) o.B a R N;have run:=λ(P:List Value->Kh->Prop) (q:∀vs (s:St) vals y,Nx cx z x s y (dJ z y vals vs)->eL cx z (RF z) x (lL kc vs s) Q E->P vals y.S)=>ri (f:=C) (pos:=i) t.2.1 t.2.2 (eP (r.ev cx) o a P E (h.bind (.refl _ _ _) q λ_ _ _ _ y n hz=>hz y n));unfold Ae at l;cases m:kc.bi? with
  | some b=>
   rw[m] at l;obtain rfl:=kh m;cases Bi.ve_of l;obtain rfl:=show C=.type "ValueError" from K.view
   exact wpAny_Raise_call PySem.F.excCall_ValueError PySem.F.excRaise_ValueError hh I (G _ _ ⟨rfl,run (λvals j=>vals.length<=sizeLine/\∀h' e,Heap.MadeExc j.heap h' e "ValueError" vals->E (.ref e) {j with heap:=h'}) λvs s vals y n hz=>qk n hz λv u=>⟨v,λh' e M=>u ⟨M.keeps,M.new,M.there⟩⟩⟩)
  | none=>cases A:kc.gbl? with
   | none=>rw[m,A] at l;cases l
   | some g=>
    rw[m,A] at l;obtain rfl:=mG A;obtain rfl:g=cycleC:=eq_of_beq l;obtain rfl:=show C=.ref cycleC from K.view
    obtain ⟨J,O⟩:=AI z.c.w.params;exact wpAny_Raise_call_sub (mN:=z.c.hb.nsMap 54) PySem.F.excBase_ValueError hh I (T9 o.B.k J O) (G _ _ ⟨rfl,run (λvals j=>vals.length<=sizeLine/\j.heap.get? cycleC=Vl cycO/\j.heap.Ns 54 (z.c.hb.nsMap 54)/\∀h' e,QE j.heap h' e (.ref cycleC) vals->E (.ref e) {j with heap:=h'}) λvs s vals y n hz=>qk n hz λv u=>
     (w4 v (o.B.kin n.at_.H.base _ _ (AK _)) ((Sd (isNs_of_in o.B.k J)).keeps n.at_.H.base) (λh' e M=>u M))⟩)⟩
end
end
section
set_option linter.all false
noncomputable def iX {α β:Type}(x:Res α) (f:α->St->Res β):Res β:=Res.casesOn x f (λ_ _ _=>.bad) .bad
section
variable {k:Nat}(r:Sr k) (cx:Cx) (t elt:Kb) (ifs:List Kb) (oF:List (Str×V))
noncomputable def jC (s:St):Res Bool:=LW ifs (.ok Vn s) λc l=>LW l ((r.ts cx c).f s) λ_ _=>.bad
noncomputable def ez:List V->List D->List SObj->Res (List D)
 | [],acc,st=>.ok acc ⟨[],st⟩
 | v::vs,acc,st=>optE (dB cx t v) .bad λa=>iX (jC r cx ifs ⟨eF a oF,st⟩) λb s=>cond b (iX ((r.ev cx elt).f s) λu s=>optE u.d? .bad λd=>ez vs (acc++[d]) s.st) (ez vs acc s.st)
end
section
variable {c:Cn}{cx cx':Cx}{z:Z}{env:Env}{own own':List Addr}{fr oF:List (Str×V)}{s s0 s1:St}{x x₀ y w:X}{b:Addr}
theorem Adv.thru (p:Adv c own x y) (q:Adv c own' y w) (h:∀a∈own',x.h.get? a=Vm):Adv c own x w where
 keep:=λb o e u g=>have n:b∉own':=λm=>au ((h b m).symm.trans e)
  (p.keep b o e u g).elim (λf=>q.keep b o f n (p.off e g)) λ⟨k,s,f⟩=>(q.keep b _ f n (p.off e g)).elim (λi=>.inr ⟨k,s,i⟩) λ⟨_,j,i⟩=>.inr ⟨k,j,i⟩
 alive:=λb o e=>(p.alive b o e).elim λA d=>q.alive b A d
 imm:=λa h=>q.imm a (p.imm a h)
 immN:=λa h=>(q.immN a h).elim (p.immN a) λh=>h.elim (λh=>.inr (.inl (p.dead h))) λh=>(p.ledN _ h).elim (λh=>.inr (.inr h)) λh=>.inr (.inl h)
 ledN:=λa h=>(q.ledN a h).elim (p.ledN a) λh=>.inr (p.dead h)
 rho:=λl a e=>q.rho l a (p.rho l a e)
 rest:=p.rest.elim λh e=>e.elim λt e=>e.elim λ_ e=>q.rest.elim λr d=>d.elim λz d=>d.elim λv d=>y3 r z v (by rw[d,e])
theorem EI.but {h':Heap}{tk:Nat}(F:EI c cx env own fr y) (k:∀a o,a≠b->y.h.get? a=Vl o->h'.get? a=Vl o) (f:b∉own) (j:∀n,cC (cx.names.lookup n)=Vn->env.cells.lookup n≠Vl b):EI c cx env own fr (y.gr h' tk []) where
 kind:=F.kind
 glb:=F.glb
 blt:=F.blt
 names:=F.names
 ns:=F.ns.imp λm h=>⟨h.1.elim λo h=>h.elim λl h=>h.elim λi h=>y3 o l i ⟨k _ _ (λe=>f (e▸F.loc)) h.1,h.2⟩,h.2⟩
 cells:=λn g=>(F.cells n g).imp λa h=>h.imp λo h=>h.imp λval h=>w3 h.1 (k _ _ (λe=>j n g (e▸h.1)) h.2.1) h.2.2
 loc:=F.loc
 ownI:=λa d=>w4 ((F.ownI a d).1) ((F.ownI a d).2.1) ((F.ownI a d).2.2.1) ((F.ownI a d).2.2.2.imp λo e=>k a o (λp=>f (p▸d)) e)
 cellI:=F.cellI
 cellO:=F.cellO
 cellL:=F.cellL
structure CI (cx:Cx) (z:Z) (x₀:X) (cx':Cx) (env':Env) (own':List Addr) (oF:List (Str×V)) (s:St) (y:X):Prop where
 o:Nx cx z x₀ s y True
 i:EI z.c cx' env' own' oF y
 new:∀a∈own',x₀.h.get? a=Vm
 link:∀n,cx'.names.lookup n=Vl .free->cC (cx.names.lookup n)=Vn/\env'.cells.lookup n=z.env.cells.lookup n
 cellN:∀n a,cx'.names.lookup n=Vl .cell->env'.cells.lookup n=Vl a->a∈own'
 out:∀n v,get n oF=Vl v->cx'.names.lookup n=Vl .free/\get n s.fr=Vl v
theorem zA {k:Option LJ}(h:cC k=Vn):k=Vl .cell\/k=Vl .free:=by
 cases k with
 | none=>cases h
 | some k=>cases k<;>first | exact .inl rfl | exact .inr rfl | cases h
structure CFr (cx':Cx) (env':Env) (own':List Addr) (x₀ y:X) (b:Addr):Prop where
 f:Fresh x₀ y b
 a:∃o,y.h.get? b=Vl o
 own:b∉own'
theorem CI.notCell (h:CI cx z x₀ cx' env own' oF s y) (a:At cx z s0 x₀) (f:CFr cx' env own' x₀ y b):∀n,cC (cx'.names.lookup n)=Vn->env.cells.lookup n≠Vl b:=λn g e=>(zA g).elim (λq=>f.own (h.cellN n b q e)) λq=>by
 have l:=h.link n q;obtain ⟨i,o,_,c,d,_⟩:=a.F.cells n l.1;rw[l.2,c] at e;exact au (f.f.new.symm.trans (J9 e▸d))
theorem CI.but {h':Heap}{tk:Nat}(h:CI cx z x₀ cx' env own' oF s y) (c:At cx z s0 x₀) (f:CFr cx' env own' x₀ y b) (k:∀a o,a≠b->y.h.get? a=Vl o->h'.get? a=Vl o):CI cx z x₀ cx' env own' oF s (y.gr h' tk []):=⟨Nx.heap (W:=λa=>a=b) c h.o (λa o e=>if q:a=b then .inl q else .inr (.inl (k a o q e))) (λa e=>e▸f.f) (λ_ h=>nomatch h) trivial,h.i.but k f.own (h.notCell c f),h.new,h.link,h.cellN,h.out⟩
theorem CI.run {r:Prop}{A:Lc}(h:CI cx z x₀ cx' env own' oF s y) (i:At cx z s0 x₀) (n:Nx cx' ⟨z.c,env,own',A⟩ y s1 w r):CI cx z x₀ cx' env own' oF ⟨s.fr,s1.st⟩ w:=by
 have F:=n.at_.F;have b:∀{a o},x₀.h.get? a=Vl o->a∉own':=λ{a o} e m=>au ((h.new a m).symm.trans e);have t:EI z.c cx z.env z.own s.fr w:=h.o.at_.F.advD n.adv (λm=>(i.F.ownI _ i.F.loc).2.2.2.elim λo e=>b e m) λq a j e m=>by
  obtain ⟨G,o,_,d,f,_⟩:=i.F.cells q j;exact b (J9 (e.symm.trans d)▸f) m
 refine ⟨⟨⟨n.at_.H,t⟩,h.o.adv.thru n.adv h.new,trivial⟩,⟨F.kind,F.glb,F.blt,F.names,F.ns.imp λm k=>⟨k.1,λq v g l=>nomatch (h.out q v g).1.symm.trans l⟩,λq j=>?_,F.loc,F.ownI,F.cellI,F.cellO,F.cellL⟩,h.new,h.link,h.cellN,h.out⟩;obtain ⟨a,o,val,d,f,u,_⟩:=F.cells q j;refine y3 a o val (w4 d f u (λv g=>?_));have l:=h.link q (h.out q v g).1;obtain ⟨G,J,p,C,x,I,E⟩:=t.cells q l.1;rw[l.2,C] at d;obtain rfl:=J9 d;obtain rfl:=J9 (x.symm.trans f);obtain rfl:=Data.cell.inj (I.symm.trans u);exact E v (h.out q v g).2
theorem CFr.run {A:Lc}{r:Prop}(f:CFr cx' env own' x₀ y b) (d:At cx z s0 x₀) (n:Nx cx' ⟨z.c,env,own',A⟩ y s1 w r){o:Obj}(e:y.h.get? b=Vl o):CFr cx' env own' x₀ w b/\w.h.get? b=Vl o:=by
 have a:w.h.get? b=Vl o:=(n.adv.keep b o e f.own f.f.la).elim id λm=>(d.H.frs.mem m.1).2.elim λo e=>au (f.f.new.symm.trans e.1);exact ⟨⟨f.f.keep e n.adv,⟨o,a⟩,f.own⟩,a⟩
theorem CFr.but {h':Heap}{tk:Nat}{d:Addr}(f:CFr cx' env own' x₀ y b) (a:∃o,h'.get? b=Vl o):CFr cx' env own' x₀ (y.gr h' tk []) b:=⟨⟨f.f.la,f.f.imm,f.f.new⟩,a,f.own⟩
theorem eL.bindX {α γ δ:Type}{d:X->δ->γ->Prop}{res:Res γ}{f:γ->St->Res α}{K:Res α->Prop}(e:¬K .bad) (h:K (iX res f)){c:δ->Kh->Prop}{E':Value->Kh->Prop}(q:∀a (s:St) b w,Nx cx' z x s w (d w b a)->K (f a s)->c b w.S):eL cx' z d x res c E':=by
 cases res with
 | bad=>exact absurd h e
 | ok a s=>exact λb w n=>q a s b w n h
 | exn k g s=>exact absurd h e
end
end
section
set_option linter.all false
structure LS where
 cx:Cx
 z:Z
 x₀:X
 cx':Cx
 env:Env
 own:List Addr
 oF:List (Str×V)
 fr:List (Str×V)
 I:Addr
 D:Addr
 St:Nat->Heap->Prop
noncomputable abbrev LS.z' (l:LS):Z:=⟨l.z.c,l.env,l.own,l.z.A⟩
structure LI (l:LS) (i:Nat) (st:List SObj) (us:List Value) (m:Nat) (y:X):Prop where
 ci:CI l.cx l.z l.x₀ l.cx' l.env l.own l.oF ⟨l.fr,st⟩ y
 st:l.St i y.h
 fi:CFr l.cx' l.env l.own l.x₀ y l.I
 fd:CFr l.cx' l.env l.own l.x₀ y l.D
 dl:y.h.get? l.D=Vl (lstO us m)
section
variable {l:LS}{i m:Nat}{st:List SObj}{us:List Value}{y w:X}{s0 s1:St}{vs:List V}{fp:List Addr}{n:Nat}{P:Nat->Value->Prop}{T:String}{imm:Imm}{R:Value->V->Prop}{r:Prop}
theorem LI.at' (h:LI l i st us m y):At l.cx' l.z' ⟨l.oF,st⟩ y:=⟨h.ci.o.at_.H,h.ci.i⟩
theorem LI.run (h:LI l i st us m y) (j:At l.cx l.z s0 l.x₀) (it:It l.z.c.w l.z.A imm l.I vs R fp n P l.St T) (s:∀p∈imm,p∈l.x₀.imm) (g:Nx l.cx' l.z' y s1 w r):LI l i s1.st us m w:=by
 obtain ⟨o,k⟩:=h.fi.a;have f:=h.fi.run j g k;have d:=h.fd.run j g h.dl;exact ⟨h.ci.run j g,it.W.frame i _ _ h.st λb t v e=>(it.fp b t).elim (λq=>by
  subst q;exact (J9 (e.symm.trans k))▸f.2) λq=>q.elim λu q=>by
  have q:=h.ci.o.adv.imm _ (s _ q);refine rp (J9 (e.symm.trans (h.ci.o.at_.H.immIn _ q))) ?_;exact g.at_.H.immIn _ (g.adv.imm _ q),f.1,d.1,d.2⟩
theorem LI.item {h':Heap}{tk:Nat}(h:LI l i st us m y) (e:At l.cx l.z s0 l.x₀) (b:l.D≠l.I) (k:∀a o,a≠l.I->y.h.get? a=Vl o->h'.get? a=Vl o) (hs:l.St (i+1) h') (c:∃o,h'.get? l.I=Vl o):LI l (i+1) st us m (y.gr h' tk []):=⟨h.ci.but e h.fi k,hs,h.fi.but (d:=0) c,h.fd.but (d:=0) ⟨_,k _ _ b h.dl⟩,k _ _ b h.dl⟩
theorem LI.push {h':Heap}{tk:Nat}{u:Value}(h:LI l i st us m y) (t:At l.cx l.z s0 l.x₀) (it:It l.z.c.w l.z.A imm l.I vs R fp n P l.St T) (s:∀p∈imm,p∈l.x₀.imm) (g:l.D≠l.I) (k:∀a o,a≠l.D->y.h.get? a=Vl o->h'.get? a=Vl o) (r:h'.get? l.D=Vl (lstO (us++[u]) (m+1))):LI l i st (us++[u]) (m+1) (y.gr h' tk []):=⟨h.ci.but t h.fd k,it.W.frame i _ _ h.st λb v x e=>k b x (λq=>(it.fp b v).elim (λj=>g (q.symm.trans j)) λj=>j.elim λC j=>h.fd.f.imm _ (h.ci.o.adv.imm _ (s _ j)) q) e,h.fi.but (d:=0) (h.fi.a.imp λo e=>k _ _ (LQ g) e),h.fd.but (d:=0) ⟨_,r⟩,r⟩
theorem EU {t:Kb}{v:V}{x:List (Str×V)}{Q:Kh->Prop}{K:Unit->Kh->Prop}{E:Value->Kh->Prop}(hh:l.z.A.handled=Vm) (h:LI l i st us m y) (C:At l.cx l.z s0 l.x₀) (it:It l.z.c.w l.z.A imm l.I vs R fp n P l.St T) (Y:∀p∈imm,p∈l.x₀.imm) (hR:∀v d,R v d->aZ l.z l.x₀ v d) (f:l.D≠l.I) (G:vs[i]?=Vl v) (L:dB l.cx' t v=Vl x) (k:∀w,LI l (i+1) st us m w->Adv l.z.c l.z.own l.x₀ w->(∀p∈y.imm,p∈w.imm)->At l.cx' l.z' ⟨eF x l.oF,st⟩ w->K () w.S):Km (Kn PR l.z.c.w) l.z.A (Qh (.ref l.I)) (λr H=>match r with
   | none=>Q H
   | some v=>Km (Kn PR l.z.c.w) l.z.A (Oz t (.ref l.I) v) (λ_ M=>Km (Kn PR l.z.c.w) l.z.A (Nk t l.env v) K E M) E H) E y.S:=by
 have U:i<n:=it.len▸(Kd.mp G).1;refine it.W.item i y.S _ E U h.st λval h' tk s b N=>?_;obtain ⟨o,J,F,O,e3⟩:=it.obj _ _ b;refine hU F O e3 it.own ?_;have j:=h.item (tk:=tk) C f (λa o q e=>N a o (λm=>q (Kg.mp m)) e) b ⟨o,F⟩;exact jw (z:=l.z') hh j.at' ((hR val v (it.rv i val v s G)).up j.ci.o.adv) L K E λ_ w g=>by
  have u:=j.run C it Y g;exact k w u u.ci.o.adv (λp s=>g.adv.imm p s) g.at_
theorem CF {K:Value->Kh->Prop}{E:Value->Kh->Prop}{u:Value}(h:LI l i st us m y) (g:At l.cx l.z s0 l.x₀) (it:It l.z.c.w l.z.A imm l.I vs R fp n P l.St T) (f:∀p∈imm,p∈l.x₀.imm) (b:l.D≠l.I) (hz:us.length<=100000) (k:∀w,LI l i st (us++[u]) (m+1) w->w.imm=y.imm->K .none w.S):Km (Kn PR l.z.c.w) l.z.A (call (.builtin "list.append") [.ref l.D,u]) K E y.S:=by
 refine append_at h.dl (λj hs d=>?_) (bQ (by rw[Kw];(first | walk_at "m" | lia)));rw[SB] at d;exact k (y.gr j y.S.toks []) (h.push (tk:=y.S.toks) g it f b (λa o q e=>(hs.2 a q).trans e) d) rfl
end
section
variable {k:Nat}(r:Sr k) (t elt:Kb) (ifs:List Kb)
def DC (l:LS) (vs:List V) (K:Res (List D)->Prop) (n:Nat) (S:Kh):Prop:=∃y st i us ds m,S=y.S/\i+n=vs.length/\LI l i st us m y/\RDs l.z.c.w y.imm us ds/\us.length<=i/\K (ez r l.cx' t elt ifs l.oF (vs.drop i) ds st)
structure CLd (l:LS) (vs:List V) (imm:Imm) (R:Value->V->Prop) (s0:St) (fp:List Addr) (n:Nat) (P:Nat->Value->Prop) (T:String):Prop where
 a0:At l.cx l.z s0 l.x₀
 it:It l.z.c.w l.z.A imm l.I vs R fp n P l.St T
 hm:∀p∈imm,p∈l.x₀.imm
 hR:∀v d,R v d->aZ l.z l.x₀ v d
 nid:l.D≠l.I
 hh:l.z.A.handled=Vm
 ok:Ok k l.cx' l.z'
 hl:vs.length<=100000
variable {l:LS}{vs:List V}{K:Res (List D)->Prop}{imm:Imm}{R:Value->V->Prop}{s0:St}{fp:List Addr}{n:Nat}{P:Nat->Value->Prop}{T:String}{RR:OJ->Kh->Prop}
theorem Aq {i m:Nat}{us:List Value}{ds:List D}{y:X}{s1:St}{E:Value->Kh->Prop}{N:Nat}(j:¬K .bad) (L:CLd (k:=k) l vs imm R s0 fp n P T) (h:LI l i s1.st us m y) (p:At l.cx' l.z' s1 y) (F:i+N=vs.length) (rs:RDs l.z.c.w y.imm us ds) (hz:us.length+1<=i) (a:K (iX ((r.ev l.cx' elt).f s1) λu s=>optE u.d? .bad λd=>ez r l.cx' t elt ifs l.oF (vs.drop i) (ds++[d]) s.st)):Km (Kn PR l.z.c.w) l.z.A (MQ elt l.env) (λx q=>Km (Kn PR l.z.c.w) l.z.A (call (.builtin "list.append") [.ref l.D,x]) (λ_ C=>∃m,m<N+1/\DC r t elt ifs l vs K m C) E q) E y.S:=(r.ev l.cx' elt).ok (z:=l.z') L.ok p _ _ (eL.bindX j a λu s2 val w g a=>by
  cases b:u.d? with
  | none=>rw[b] at a;exact absurd a j
  | some d=>
   rw[b] at a;have G:=L.hl;exact CF (h.run L.a0 L.it L.hm g) L.a0 L.it L.hm L.nid (by lia) λv o e=>⟨N,L8 _,y5 v s2.st i _ _ ⟨_,w6 rfl F o (e▸(rs.mono g.adv.imm).append (.cons (RV.onD g.r b) .nil)) (by rw[Kj,KM];exact hz) a⟩⟩)
def H6 (l:LS) (K:Res (List D)->Prop) (RR:OJ->Kh->Prop):Prop:=∀y st us ds m,CI l.cx l.z l.x₀ l.cx' l.env l.own l.oF ⟨l.fr,st⟩ y->CFr l.cx' l.env l.own l.x₀ y l.D->y.h.get? l.D=Vl (lstO us m)->us.length<=16777216->RDs l.z.c.w y.imm us ds->K (.ok ds ⟨[],st⟩)->RR (.ok .next) y.S
theorem ou {y:X}{st:List SObj}{i m:Nat}{us:List Value}{ds:List D}{Q:Option Value->Kh->Prop}{E:Value->Kh->Prop}(L:CLd (k:=k) l vs imm R s0 fp n P T) (f:H6 l K RR) (s:i+0=vs.length) (h:LI l i st us m y) (rs:RDs l.z.c.w y.imm us ds) (hz:us.length<=i) (p:K (ez r l.cx' t elt ifs l.oF (vs.drop i) ds st)) (q:∀S,RR (.ok .next) S->Q Vm S):Km (Kn PR l.z.c.w) l.z.A (Qh (.ref l.I)) Q E y.S:=by
 have x:=L.hl;have v:=L.it.len;rw[OZ (show vs.length<=i from O3 s.symm)] at p;have j:∀{g:Heap},(∀b o,b∉[l.I]->y.h.get? b=Vl o->g.get? b=Vl o)->∀b o,b≠l.I->y.h.get? b=Vl o->g.get? b=Vl o:=λa b o q e=>a b o (λm=>q (Kg.mp m)) e;exact L.it.W.done y.S Q E (v▸s▸h.st) λg u a=>q _ (f (y.gr g u []) st us ds m (h.ci.but L.a0 h.fi (j a)) (h.fd.but (d:=0) ⟨_,j a _ _ L.nid h.dl⟩) (j a _ _ L.nid h.dl) (by walk_at "n") rs p)
theorem vw {y:X}{st:List SObj}{i m N:Nat}{us:List Value}{ds:List D}{H:Kh->Prop}{G:Unit->Kh->Prop}{E:Value->Kh->Prop}(M:¬K .bad) (L:CLd (k:=k) l vs imm R s0 fp n P T) (Q:i+(N+1)=vs.length) (h:LI l i st us m y) (rs:RDs l.z.c.w y.imm us ds) (j:K (ez r l.cx' t elt ifs l.oF (vs.drop i) ds st)) (q:∀g w,LI l (i+1) st us m w->At l.cx' l.z' ⟨eF g l.oF,st⟩ w->RDs l.z.c.w w.imm us ds->K (iX (jC r l.cx' ifs ⟨eF g l.oF,st⟩) λb s=>cond b (iX ((r.ev l.cx' elt).f s) λu s=>optE u.d? .bad λd=>ez r l.cx' t elt ifs l.oF (vs.drop (i+1)) (ds++[d]) s.st) (ez r l.cx' t elt ifs l.oF (vs.drop (i+1)) ds s.st))->G () w.S):Km (Kn PR l.z.c.w) l.z.A (Qh (.ref l.I)) (λr F=>match r with
   | none=>H F
   | some v=>Km (Kn PR l.z.c.w) l.z.A (Oz t (.ref l.I) v) (λ_ O=>Km (Kn PR l.z.c.w) l.z.A (Nk t l.env v) G E O) E F) E y.S:=by
 have C:i<vs.length:=by walk_at "n"
 rw[Ml C] at j;cases e:dB l.cx' t vs[i] with
 | none=>exact absurd (show K .bad from rp (P:=λx=>K (optE x .bad _)) e.symm j) M
 | some g=>exact EU L.hh h L.a0 L.it L.hm L.hR L.nid (Ki C) e λw J p o a=>q g w J a (rs.mono o) (rp (P:=λx=>K (optE x .bad _)) e.symm j)
set_option maxHeartbeats 1000000 in
theorem xe {iter:Kb}{scope:OI}{pos:Pos}{y:X}{st:List SObj}(o:¬K .bad) (L:CLd (k:=k) l vs imm R s0 fp n P T) (h:LI l 0 st [] 0 y) (s:ifs.length<=1) (f:H6 l K RR) (e:K (ez r l.cx' t elt ifs l.oF vs [] st)):Mu (Kn PR l.z.c.w) l.z.A (.compLoop (.ListComp elt [⟨t,iter,ifs,0⟩] scope pos) 0 (.ref l.I) (.ref l.D) l.env) RR y.S:=by
 have start:DC r t elt ifs l vs K vs.length y.S:=y5 y st 0 [] [] ⟨0,w6 rfl (LY _) h .nil (KH _) e⟩;clear e h;rcases ifs with _ | ⟨c,_ | ⟨_,_⟩⟩
 ·refine kcp_loop (DC r t elt [] l vs K) (λN S I=>?_) vs.length start;obtain ⟨y,st,i,v,E,m,rfl,hi,h,rs,hz,e⟩:=I;cases N with
  | zero=>exact ou r t elt [] L f hi h rs hz e λS q=>q
  | succ N=>exact vw r t elt [] o L hi h rs e λF w u a d g=>Aq r t elt [] o L u a (by walk_at "n") d (by walk_at "n") g
 ·refine kct_loop (DC r t elt [c] l vs K) (λN S I=>?_) vs.length start;obtain ⟨y,st,i,v,E,m,rfl,hi,h,rs,hz,e⟩:=I;cases N with
  | zero=>exact ou r t elt [c] L f hi h rs hz e λS q=>q
  | succ N=>
   exact vw r t elt [c] o L hi h rs e λF w u a d g=>(r.ts l.cx' c).ok (z:=l.z') L.ok a _ _ (eL.bindX o g λb s2 x G j p=>by
    obtain rfl:=show x=b from j.r
    have C:=u.run L.a0 L.it L.hm j;cases x with
    | true=>exact Aq r t elt [c] o L C j.at_ (by walk_at "n") (d.mono j.adv.imm) (by walk_at "n") p
    | false=>exact ⟨N,L8 _,y5 G s2.st (i+1) v E ⟨m,w6 rfl (by walk_at "n") C (d.mono j.adv.imm) (by walk_at "n") p⟩⟩)
 ·exact absurd s (by simp)
end
end
section
set_option linter.all false
section
variable {c:Cn}{cx:Cx}{z:Z}{env:Env}{own:List Addr}{fr:List (Str×V)}{s s0:St}{x y:X}{scope:OI}{names:List (Str×LJ)}
noncomputable def jG (cx:Cx) (scope:OI):Bool:=(scope.kind==.function)&&scope.names.all λp=>(scope.names.lookup p.1==Vl p.2)&&(!(p.2==.free)||cC (cx.names.lookup p.1))
theorem jF (h:jG cx scope=Vn):scope.kind=.function/\(∀p∈scope.names,scope.names.lookup p.1=Vl p.2)/\∀n,(n,.free)∈scope.names->cC (cx.names.lookup n)=true:=by
 have h:=Kk.mp h;have g:=λp a=>Kk.mp (KP.mp h.2 p a);exact w3 (beq_iff_eq.mp h.1) (λp a=>beq_iff_eq.mp (g p a).1) (λn b=>(Mh.mp (g _ b).2).elim (λe=>nomatch e) id)
noncomputable def bW (env:Env):List (Str×LJ)->List (Str×Addr)->List (Str×Addr)
 | [],acc=>acc
 | (n,a)::r,acc=>if a==.free then bW env r ((n,(env.cells.lookup n).getD 0)::acc) else bW env r acc
theorem kb {env:Env}{n:Str}{a:LJ}{r:List (Str×LJ)}{acc:List (Str×Addr)}:bW env ((n,a)::r) acc=if a==.free then bW env r ((n,(env.cells.lookup n).getD 0)::acc) else bW env r acc:=rfl
theorem pV (f:Str×LJ->List (Str×Addr)->OW (ForInStep (List (Str×Addr)))) (b:∀name kind c,f (name,kind) c=if kind==.free then (do let a <- cellOf env name;pure (.yield ((name,a)::c))) else pure (.yield c)):∀{names:List (Str×LJ)}{acc:List (Str×Addr)},(∀n,(n,.free)∈names->∃a,env.cells.lookup n=Vl a)->
  forIn names acc f=pure (bW env names acc)
 | [],acc,h=>rfl
 | (n,i)::r,acc,h=>by
  rw[Qr,b];rw[kb];cases g:i==.free with
  | true=>
   obtain ⟨a,e⟩:=h n (by rw[<- eq_of_beq g];exact .head _);rw[e,if_pos rfl,if_pos rfl];unfold cellOf;rw[e];exact pV f b λn d=>h n (.tail _ d)
  | false=>
   rw[if_neg LX,if_neg LX];exact pV f b λn d=>h n (.tail _ d)
theorem tP {p:Str×Addr}:∀{names:List (Str×LJ)}{acc:List (Str×Addr)},p∈bW env names acc->p∈acc\/p.2=(env.cells.lookup p.1).getD 0
 | [],_,h=>.inl h
 | (n,a)::r,acc,h=>by
  rw[kb] at h;split at h
  ·exact (tP h).elim (λh=>(Kt.mp h).elim (λe=>.inr (by rw[e])) .inl) .inr
  ·exact tP h
theorem tQ {p:Str×Addr}:∀{names:List (Str×LJ)}{acc:List (Str×Addr)},p∈acc->p∈bW env names acc
 | [],_,h=>h
 | (n,a)::r,acc,h=>by
  rw[kb];split
  ·exact tQ (.tail _ h)
  ·exact tQ h
theorem pW {n:Str}:∀{names:List (Str×LJ)}{acc:List (Str×Addr)},(n,.free)∈names->∃a,(n,a)∈bW env names acc
 | (m,b)::r,acc,h=>by
  rw[kb];refine (Kt.mp h).elim (λe=>?_) λh=>?_
  ·cases e;exact ⟨_,tQ (.head _)⟩
  ·split
   ·exact pW h
   ·exact pW h
theorem pX {n:Str}{a:Addr}(h:(n,.free)∈names) (e:env.cells.lookup n=Vl a):(bW env names []).lookup n=Vl a:=by
 obtain ⟨b,f⟩:=pW (env:=env) (acc:=[]) h;obtain ⟨d,c⟩:=kB f;rw[c,show d=_ from (tP (mem_of_lookup c)).elim (λh=>nomatch h) id,e];rfl
theorem qK (f:Str->LJ->Bool){n:Str}:∀{names:List (Str×LJ)},(names.map λp=>if f p.1 p.2=Vn then (p.1,Pe) else (p.1,p.2)).lookup n=(names.lookup n).map λk=>if f n k=Vn then .cell else k
 | []=>rfl
 | (m,k)::r=>by
  have a:=qK f (n:=n) (names:=r);show Qk n ((if f m k=Vn then (m,Pe) else (m,k))::_)=KG _ (Qk n ((m,k)::r));by_cases q:f m k=Vn
  ·rw[if_pos q,MH,MH];cases h:n==m with
   | true=>refine rp (eq_of_beq h) ?_;exact (congrArg Vl (if_pos q)).symm
   | false=>exact a
  ·rw[if_neg q,MH,MH];cases h:n==m with
   | true=>refine rp (eq_of_beq h) ?_;exact (congrArg Vl (if_neg q)).symm
   | false=>exact a
end
noncomputable def ef (names:List (Str×LJ)) (fr:List (Str×V)):List (Str×V):=fr.filter λq=>names.lookup q.1==Vl .free
theorem pj {names:List (Str×LJ)}{n:Str}{v:V}:∀{fr:List (Str×V)},get n (ef names fr)=Vl v->names.lookup n=Vl .free/\get n fr=Vl v:=@lr _ _ (@λh=>au h) (λp r b=>(@λh=>by
  unfold ef at h;rw[Mp] at h;cases a:names.lookup p.1==Vl .free with
  | true=>
   rw[a,if_pos rfl] at h;change (if p.1=n then Vl p.2 else get n (ef names r))=Vl v at h;show _/\(if p.1=n then Vl p.2 else get n r)=Vl v;by_cases q:p.1=n
   ·rw[if_pos q] at h ⊢;exact ⟨q▸beq_iff_eq.mp a,h⟩
   ·rw[if_neg q] at h ⊢;exact b h
  | false=>
   rw[a,if_neg LX] at h;have c:=b h;refine ⟨c.1,?_⟩;show (if p.1=n then Vl p.2 else get n r)=Vl v
   rewrite [if_neg λq=>?_]
   ·exact c.2
   ·rw[q,c.1] at a;cases a))
noncomputable abbrev Dh (scope:OI) (C:Addr) (a:List (Str×Addr)) (env:Env):Env:={Ux scope C env.globals (bU scope.names C++a) env.qual Vm .none (Vl env) M5 with scope:=U1 scope env}
noncomputable def dW (cx:Cx) (scope:OI):Cx:=⟨scope.names,Vn,cx.inH⟩
section
variable {k:Nat}{cx:Cx}{z:Z}{s:St}{x:X}(r:Sr k) (t elt:Kb) (ifs:List Kb) (scope:OI)
set_option maxHeartbeats 1000000 in
theorem A0 {vs:List V}{val:Value}{iter:Kb}{pos:Pos}{K:Res (List D)->Prop}{RR:Value->Addr->OJ->Kh->Prop}{E:Value->Kh->Prop}(o:Ok k cx z) (a:At cx z s x) (i:Bu z x vs (io z val)) (sc:jG cx scope=Vn) (hi:cx.inH=Vo) (U:ifs.length<=1) (hl:vs.length<=100000) (G:¬K .bad) (hk:K (ez r (dW cx scope) t elt ifs (ef scope.names s.fr) vs [] s.st)) (Q:∀D C y st ds,Nx cx z x ⟨s.fr,st⟩ y (ja z x y (.ref D) ds)->Fresh x y C->(∃m,y.h.Ns C m)->D≠C->K (.ok ds ⟨[],st⟩)->RR (.ref D) C (.ok .next) y.S):Km (Kn PR z.c.w) z.A (Rn val) (λit s₂=>Km (Kn PR z.c.w) z.A (TR []) (λacc s₃=>Km (Kn PR z.c.w) z.A (NW scope z.env.globals (bW z.env scope.names []) [] z.env.qual Vm .none (Vl z.env)) (λp s₄=>
   Mu (Kn PR z.c.w) z.A (.compStart (.ListComp elt [⟨t,iter,ifs,0⟩] scope pos) 0 it acc {p with scope:=U1 scope z.env}) (RR acc p.locals) s₄) E s₃) E s₂) E x.S:=by
 obtain ⟨sk,sf,sn⟩:=jF sc;refine i _ _ λd fp n Pt St T it h0 J=>LV ?_;have e1:(x.h.push d).objs.size=x.h.objs.size+1:=LF ..;have e2:((x.h.push d).push (lstO [] 0)).objs.size=x.h.objs.size+2:=by rw[LF,e1]
 have k2:Kp x.h ((x.h.push d).push (lstO [] 0)):=λb o e=>aM _ _ _ _ (aM _ _ _ _ e);have n2:=a.kp (h':=(x.h.push d).push (lstO [] 0)) (tk:=x.S.toks) (ex:=[]) (r:=True) k2 (λ_ h=>nomatch h) trivial;refine nX (x:=x.gr ((x.h.push d).push (lstO [] 0)) x.S.toks []) (T:="dict") rfl (Ko ?_);have Y:Kp ((x.h.push d).push (lstO [] 0)) (dG scope.names "dict" ((x.h.push d).push (lstO [] 0))):=mH (x:=x.gr ((x.h.push d).push (lstO [] 0)) x.S.toks []);have n3:=n2.at_.kp (h':=dG scope.names "dict" ((x.h.push d).push (lstO [] 0))) (tk:=x.S.toks) (ex:=[]) (r:=True) Y (λ_ h=>nomatch h) trivial;have j:∀n,scope.names.lookup n=Vl .free->cC (cx.names.lookup n)=true:=λn q=>sn n (mem_of_lookup q);have cl:∀n,scope.names.lookup n=Vl .free->∃b o val,z.env.cells.lookup n=Vl b/\(bW z.env scope.names []).lookup n=Vl b/\x.h.get? b=Vl o/\o.data=.cell val/\∀v,get n s.fr=Vl v->∃u,val=Vl u/\aZ z x u v:=λn q=>by
  obtain ⟨b,o,val,N,f2,f3,f4⟩:=a.F.cells n (j n q);exact y3 b o val (w5 N (pX (mem_of_lookup q) N) f2 f3 f4)
 have hC:(x.gr ((x.h.push d).push (lstO [] 0)) x.S.toks []).h.objs.size=x.h.objs.size+2:=e2;have a6:∀n,(Dh scope ((x.h.push d).push (lstO [] 0)).objs.size (bW z.env scope.names []) z.env).kindOf n=(scope.names.lookup n).map λkd=>if (kd==.free&&z.env.scope.kind==.function&&z.env.kindOf n==Vl .cell)=Vn then .cell else kd:=λn=>qK λm kd=>kd==.free&&z.env.scope.kind==.function&&z.env.kindOf m==Vl .cell
 have P:EI z.c (dW cx scope) (Dh scope ((x.h.push d).push (lstO [] 0)).objs.size (bW z.env scope.names []) z.env) (frOwn scope.names ((x.h.push d).push (lstO [] 0)).objs.size) (ef scope.names s.fr) ((x.gr ((x.h.push d).push (lstO [] 0)) x.S.toks []).gr (dG scope.names "dict" ((x.h.push d).push (lstO [] 0))) x.S.toks []):=.new (x:=x.gr ((x.h.push d).push (lstO [] 0)) x.S.toks []) n2.at_.H ⟨sf,λn v g=>(pj g).1,λn q=>(cl n q).imp λb h=>h.imp λo h=>h.imp λval h=>w5 h.2.1 (k2 _ _ h.2.2.1) h.2.2.2.1 ((n2.at_.F.cellL n b (j n q) h.1).1) (λv g=>h.2.2.2.2 v (pj g).2),λn n' b q q' e e'=>by
   obtain ⟨b1,_,_,N,g1,_⟩:=cl n q;obtain ⟨b2,_,_,f2,g2,_⟩:=cl n' q';obtain rfl:=J9 (e.symm.trans g1);obtain rfl:=J9 (e'.symm.trans g2);exact a.F.cellI n n' b (j n q) (j n' q') N f2⟩
   ⟨sk,a.F.glb,a.F.blt,λn=>by
    rw[a6 n];refine w4 (λh=>by rw[h];rfl) (λh=>?_) (λh=>by rw[h];rfl) (λh=>by rw[h];rfl);refine (zA h).elim (λh=>by rw[h];rfl) λh=>?_;rw[h];show cC (Vl (if _ then Pe else Sx))=Vn;split<;>rfl,rfl,rfl⟩
 have M:∀b∈frOwn scope.names ((x.h.push d).push (lstO [] 0)).objs.size,x.h.objs.size+2<=b:=λb G=>e2▸iz (x:=x.gr ((x.h.push d).push (lstO [] 0)) x.S.toks []) G;have I:∀{b:Addr},x.h.objs.size<=b->Fresh x ((x.gr ((x.h.push d).push (lstO [] 0)) x.S.toks []).gr (dG scope.names "dict" ((x.h.push d).push (lstO [] 0))) x.S.toks []) b:=λ{b} G=>have q:=fB a.H G;⟨q.1,q.2.1,KS G⟩;have R:St 0 (dG scope.names "dict" ((x.h.push d).push (lstO [] 0))):=it.W.frame 0 _ _ h0 λb _ o e=>Y _ _ (aM _ _ _ _ e);have a1:x.h.objs.size<=(x.h.push d).objs.size:=by lia
 have a2:¬x.h.objs.size+2<=x.h.objs.size:=by lia
 have a3:¬x.h.objs.size+2<=(x.h.push d).objs.size:=by lia
 have a4:(x.h.push d).objs.size≠((x.h.push d).push (lstO [] 0)).objs.size:=by lia
 have a5:(x.h.push d).objs.size≠x.h.objs.size:=by lia
 have L0:LI ⟨cx,z,x,dW cx scope,Dh scope ((x.h.push d).push (lstO [] 0)).objs.size (bW z.env scope.names []) z.env,frOwn scope.names ((x.h.push d).push (lstO [] 0)).objs.size,ef scope.names s.fr,s.fr,x.h.objs.size,(x.h.push d).objs.size,St⟩ 0 s.st [] 0 ((x.gr ((x.h.push d).push (lstO [] 0)) x.S.toks []).gr (dG scope.names "dict" ((x.h.push d).push (lstO [] 0))) x.S.toks []):=⟨⟨.trans n2.adv n3 id,P,λb G=>KS (Lo (OS _ 2) (M b G)),λn q=>⟨j n q,?_⟩,λn b q e=>P.cellO n b q e,λn v g=>pj g⟩,R,⟨I (KH _),⟨d,Y _ _ (aM _ _ _ _ (Kq _ J))⟩,λm=>a2 (M _ m)⟩,⟨I a1,⟨_,Y _ _ (Kq _ rfl)⟩,λm=>a3 (M _ m)⟩,Y _ _ (Kq _ rfl)⟩
 ·have L:CLd (k:=k) ⟨cx,z,x,dW cx scope,Dh scope ((x.h.push d).push (lstO [] 0)).objs.size (bW z.env scope.names []) z.env,frOwn scope.names ((x.h.push d).push (lstO [] 0)).objs.size,ef scope.names s.fr,s.fr,x.h.objs.size,(x.h.push d).objs.size,St⟩ vs x.imm (aZ z x) s fp n Pt T:=⟨a,it,λ_ h=>h,λ_ _ h=>h,a5,o.hd hi,⟨o.B,(λh=>nomatch h),o.frames,o.hd,o.depth,o.units⟩,hl⟩
  have l:=xe (RR:=RR (.ref (x.h.push d).objs.size) ((x.h.push d).push (lstO [] 0)).objs.size) (iter:=iter) (scope:=scope) (pos:=pos) r t elt ifs G L L0 U (λy st us ds m O cd dl hz rs hk=>Q _ _ y st ds ⟨O.o.at_,O.o.adv,_,us,m,rfl,dl,cd.f,hz,rs⟩ ⟨(O.i.ownI _ (.head _)).1,(O.i.ownI _ (.head _)).2.1,O.new _ (.head _)⟩ (O.i.ns.imp λm h=>h.1) a4 hk) hk;exact codeAny_compStart_list l (it.W.self 0 _ _ _ R l)
 ·skip
  obtain ⟨b,_,_,N,g1,_⟩:=cl n q;show Qk n (bU scope.names _++bW z.env scope.names [])=Qk n z.env.cells;rw[Si,N,g1];cases h:(bU scope.names ((x.h.push d).push (lstO [] 0)).objs.size).lookup n with
  | none=>rfl
  | some b'=>exact (pZ (mem_of_lookup h)).elim (λh=>nomatch h) λh=>nomatch (sf _ h).symm.trans q
end
end
section
set_option linter.all false
section
variable {k:Nat}{cx:Cx}(r:Sr k) (elt t it:Kb) (ifs:List Kb) (scope:OI) (pos:Pos)
noncomputable def A9 (fr:List (Str×V)) (x:Res (List D)):Res (List D):=Res.casesOn x (λds s=>.ok ds ⟨fr,s.st⟩) (λ_ _ _=>.bad) .bad
noncomputable def li (v:V) (s:St):Res (List D):=optE (cS s.st v) .bad λp=>if p.1.length<=100000 then A9 s.fr (ez r (dW cx scope) t elt ifs (ef scope.names s.fr) p.1 [] p.2) else .bad
abbrev dM (cx:Cx) (it:Kb) (ifs:List Kb) (scope:OI):Prop:=jG cx scope=Vn/\cx.inH=Vo/\pC it=Vo/\ifs.length<=1
theorem gB {z:Z}{s:St}{x:X}(a:At cx z s x) (h:jG cx scope=Vn):closureFor scope z.env=pure (bW z.env scope.names []):=by
 obtain ⟨_,_,sn⟩:=jF h;unfold closureFor;show (forIn scope.names [] _ >>= pure)=_;rw[pV (env:=z.env) _ (λc b f=>by cases d:b==Sx<;>simp[d]) λn e=>(a.F.cells n (sn n e)).imp λ_ h=>h.elim λ_ h=>h.elim λ_ h=>h.1];rfl
theorem nT {cx:Cx}{z:Z}{a s:St}{x₀ y:X}{C:Addr}{h':Heap}{r r':Prop}(c:At cx z a x₀) (n:Nx cx z x₀ s y r) (f:Fresh x₀ y C) (hs:MS C y.h h') (d:r'):Nx cx z x₀ s (y.gr h' y.S.toks []) r':=Nx.heap (W:=λb=>b=C) c n (λb o e=>if q:b=C then .inl q else .inr (.inl ((hs.2 b q).trans e))) (λb e=>e▸f) (λ_ h=>nomatch h) d
theorem Res.bind_assoc {α β γ:Type}(a:Res α) (f:α->St->Res β) (g:β->St->Res γ):(a.bind f).bind g=a.bind λv s=>(f v s).bind g:=by cases a<;>rfl
theorem vv {iter:Kb}{z:Z}{x:X}{v:V}{val:Value}{y:X}{s1:St}{α:Type}{β:Type}{RB:X->β->α->Prop}{f:List D->St->Res α}{Q:β->Kh->Prop}{E:Value->Kh->Prop}{RR:Value->Addr->OJ->Kh->Prop}(o:Ok k cx z) (j:dM cx it ifs scope) (n:Nx cx z x s1 y (aZ z y val v)) (a:eL cx z RB x ((li (cx:=cx) r elt t ifs scope v s1).bind f) Q E) (g:∀d D C w s2 ds,At cx z s2 d->Adv z.c z.own x d->(∀st,s2=st->True)->∀F,Nx cx z d F w (ja z d w (.ref D) ds)->Fresh d w C->(∃m,w.h.Ns C m)->D≠C->eL cx z RB x (f ds F) Q E->RR (.ref D) C (.ok .next) w.S):Km (Kn PR z.c.w) z.A (Rn val) (λit I=>Km (Kn PR z.c.w) z.A (TR []) (λacc H=>Km (Kn PR z.c.w) z.A (NW scope z.env.globals (bW z.env scope.names []) [] z.env.qual Vm .none (Vl z.env)) (λb M=>
   Mu (Kn PR z.c.w) z.A (.compStart (.ListComp elt [⟨t,iter,ifs,0⟩] scope pos) 0 it acc {b with scope:=U1 scope z.env}) (RR acc b.locals) M) E H) E I) E y.S:=by
 cases q:cS s1.st v with
 | none=>unfold li at a;rw[q] at a;exact a.elim
 | some p=>
  obtain ⟨d,e,m,i⟩:=ur o.B (o.hd j.2.1) n.at_ n.r q;unfold li at a;rw[q] at a;change eL cx z RB x ((if p.1.length<=100000 then A9 s1.fr (ez r (dW cx scope) t elt ifs (ef scope.names s1.fr) p.1 [] p.2) else .bad).bind f) Q E at a;by_cases s:p.1.length<=100000
  ·rw[if_pos s] at a;rw[<- e];exact A0 (K:=λl=>eL cx z RB x ((A9 s1.fr l).bind f) Q E) r t elt ifs scope o m.at_ i j.1 j.2.1 j.2.2.2 s (λh=>h) a λD C w st ds J L N u G=>g d D C w _ ds m.at_ (n.adv.trans m.adv) (λ_ _=>trivial) ⟨s1.fr,st⟩ J L N u G
  ·rw[if_neg s] at a;exact a.elim
noncomputable def fO:Mk k cx (.ListComp elt [⟨t,it,ifs,0⟩] scope pos):=⟨λs=>if dM cx it ifs scope then ((r.ev cx it).f s).bind λv s=>(li (cx:=cx) r elt t ifs scope v s).bind .ok else .bad,λ{z s x} o a=>aN.ite λb Q E h=>by
 obtain ⟨sk,K,_⟩:=jF b.1;rw[eval_ListComp];refine RM (use:=Vm) rfl (pI b.2.2.1) (gB scope a b.1) sk (λp u e=>by rw[K p u,e]) ((r.ev cx it).ok o a _ _ (h.bind (.refl _ _ _) (λv s1 val y n G=>?_) λ_ _ _ _ y n hz=>hz y n));exact vv (RR:=λacc C=>compPost (Kn PR z.c.w) z.A E Vm Q acc C) r elt t it ifs scope pos o b n G λN D C w s2 ds H j _ M i J L g F=>L.imp λm hn=>⟨hn,λh' hs=>by
  obtain ⟨O,us,I,e,q,d,hz,rs⟩:=i.r;obtain rfl:=Os e;have l:=nT H i J hs (r':=True) trivial;exact F (.ref D) (w.gr h' w.S.toks []) ⟨l.at_,j.trans l.adv,D,us,I,rfl,(hs.2 D g).trans q,⟨d.la,d.imm,j.dead d.new⟩,hz,rs⟩⟩⟩
noncomputable def uf (n:Str) (j g:Pos):Ex k cx (.Assign [.Name n j] (.ListComp elt [⟨t,it,ifs,0⟩] scope pos) g):=⟨λs=>if bC (cx.names.lookup n)=Vn then ((fO r elt t it ifs scope pos).f s).bind λds s=>.ok .next ⟨aY n (.d (.lst ds)) s.fr,s.st⟩ else .bad,λ{z s x} o a=>aN.ite λhn=>by
 have i:∃b,R8 (.ListComp elt [⟨t,it,ifs,0⟩] scope pos) (Vl (.Name n j)) g.line z.env=pure b:=⟨_,rfl⟩
 obtain ⟨b,i⟩:=i;cases b with
 | false=>
  have:=(((fO r elt t it ifs scope pos).ev.ok o a).bind (RC:=RF z) (K:=λv Q E l=>Km (Kn PR z.c.w) z.A (Og z.env n v) (λ_=>Q Mm) E l) λv s1 va y m=>aN.store m.at_ hn m.r λ_ _=>fH (z:=z))
  change aN cx z (RF z) x ((((fO r elt t it ifs scope pos).f s).bind λds s=>Res.ok (V.d (.lst ds)) s).bind _) _ at this;rw[Res.bind_assoc] at this;exact this.of λ_ _ h'=>TO h' i
 | true=>
  intro Q E h;unfold fO at h;by_cases u:dM cx it ifs scope
  ·change eL cx z (RF z) x (Res.bind (if dM cx it ifs scope then _ else _) _) Q E at h;rw[if_pos u,Res.bind_assoc] at h;obtain ⟨sk,sf,_⟩:=jF u.1;show Km _ _ (exec (.Assign [.Name n j] (.ListComp elt [⟨t,it,ifs,0⟩] scope pos) g) z.env) _ _ _;rw[exec_Assign_Name_used _ _ _ _ i];refine Kc (Mi (Kc ?_));show Km _ _ (do let _ <- comprehension (.ListComp elt [⟨t,it,ifs,0⟩] scope pos) scope z.env _ (TR []) Vo (MQ it z.env) (Vl (Nk (.Name n j) z.env))) _ _ _;refine Kc (KN (RM (use:=Vl (Nk (.Name n j) z.env)) (Q:=λ_ l=>Q .next l) rfl (pI u.2.2.1) (gB scope a u.1) sk (λp hp e=>by rw[sf p hp,e]) ((r.ev cx it).ok o a _ _ (h.bind (.refl _ _ _) (λv s1 val y nn hv=>?_) λ_ _ _ _ y n hz=>hz y n))) (λ_ l L=>Ko (Ko L)) λ_ _ e=>e);rw[Res.bind_assoc] at hv;exact vv (RR:=λacc C=>compPost (Kn PR z.c.w) z.A E (Vl (Nk (.Name n j) z.env)) (λ_ l=>Q .next l) acc C) r elt t it ifs scope pos o u nn hv λN D C w s2 ds M p' _ s3 Y T H O hk=>by
    obtain ⟨D',us,P,e,hd,fD,hz,rs⟩:=Y.r;obtain rfl:=Os e;obtain ⟨m,H⟩:=H;have R:=Nx.take (r':=aZ z (w.gr w.h w.S.toks [(D,lstO us P)]) (.ref D) (.d (.lst ds))) M Y hd fD (RD.lst (.head _) hz (mD rs));have F:Fresh N (w.gr w.h w.S.toks [(D,lstO us P)]) C:=⟨T.la,λq L=>(Kt.mp L).elim (λe'=>by rw[e'];exact O) (T.imm q),T.new⟩
    show Km _ _ (Nk (.Name n j) z.env (.ref D)) _ _ w.S;refine fR (x:=w.gr w.h w.S.toks [(D,lstO us P)]) R.at_ hn R.r λI G=>?_;have J:Fresh N I C:=H.elim λo h=>h.elim λ_ h=>h.elim λ_ h=>F.keep h.1 G.adv;have n2:Nx cx z N _ I True:=⟨G.at_,R.adv.trans G.adv,trivial⟩
    exact ⟨m,H.at' λo e=>F.same M e G.adv,λh' hs=>have U:=nT M n2 J hs (r':=True) trivial;hk .next (I.gr h' I.S.toks []) ⟨U.at_,p'.trans U.adv,fH⟩⟩
  ·change eL cx z (RF z) x (Res.bind (if dM cx it ifs scope then _ else _) _) Q E at h;rw[if_neg u] at h;exact h.elim⟩
end
end
section
set_option linter.all false
section
variable {w:Ld}{A:Lc}{a b l:Addr}{i:Nat}{us:List Value}{n:Nat}{s:Kh}{Q:Value->Kh->Prop}{E:Value->Kh->Prop}
noncomputable abbrev yO (b:Addr):Code:=.builtin "list_iterator.__next__" ⟨[.ref b],[]⟩
theorem FX:UA "list_iterator.__next__" ⟨[.ref b],[]⟩=pure ():=rfl
theorem yF:(yO b).quiet=true:=by kernel_rfl
theorem Ci (j:s.heap.get? a=Vl (sZ b)) (f:s.heap.get? b=Vl (zy l i)) (k:s.heap.get? l=Vl (lstO us n)) (h:Km (Kn PR w) (A.under (yO b)) (match us.toArray[i]? with
   | some x=>do Nh (.ref b) 1 (Lq ((i:Int)+1));ret x
   | none=>do rule (toString "list_iterator.__next__"++toString ".end");Nh (.ref b) 0 .none;OF) (λc d=>∃v,c=.done (.ret v)/\Q v d) E s):Km (Kn PR w) A (call (.ref a) []) Q E s:=by
 refine Od (Ra ?_);show Km _ _ (callAny (.ref a) ⟨[],[]⟩) _ _ _;unfold callAny;refine Kc (Tq j ?_);show Km _ _ (do UA "list_iterator.__next__" ⟨[.ref b],[]⟩;return <- again (.builtin "list_iterator.__next__" ⟨[.ref b],[]⟩)) _ _ _;refine Kc (MM (a:=()) FX ?_);refine Kc (Ko (Ko ⟨yF,MX entry_listiter_next ?_⟩));show Km _ _ (Vf (.ref b) 0 >>= _) _ _ s;refine Kc (Nu f rfl (x:=.ref l) rfl ?_);show Km _ _ (if (M8 l==Nj)=Vn then _ else _) _ _ s;rw[if_neg (show ¬((M8 l==Nj)=Vn) from LX)];show Km _ _ (Vf (.ref b) 1 >>= _) _ _ s;refine Kc (Nu f rfl (x:=.int i 0) rfl ?_);show Km _ _ (seqItems? (.ref l) >>= _) _ _ s;refine Kc (PK k rfl ?_);simp only[KQ];exact KN h (λc d g=>by obtain ⟨v,rfl,q⟩:=g;exact q) λ_ _ e=>e
theorem CG {h:Heap}(c:h.get? a=Vl (sZ b)):∃k,(k=PH\/k=O5\/k=OA)/\TX (Kn PR w) h (SW (.ref a)) k:=⟨.machine,.inr (.inl rfl),(SY c).andThen .now⟩
theorem HQ {x:X}{p:Addr}{k:Nat}{v:Value}{j:Int}{t:PP}(b:x.h.get? p=Vl (lstO us n)) (hz:us.length<=16777216) (e:ki us.length j=Vl k) (c:us[k]?=Vl v) (q:Q v x.S):Km (Kn PR w) A (OE (.ref p) (.int j t)) Q E x.S:=by
 obtain ⟨g,f⟩:=iP e;have d:us.toArray.size=us.length:=Kw;rcases f with ⟨a,rfl⟩ | ⟨a,h3,rfl⟩
 ·exact Tr (aJ b) a (by walk_at "n") (gC c) q
 ·exact So (aJ b) a (by walk_at "n") (by walk_at "n") (by rw[d];exact gC c) q
end
noncomputable def qE (st:List SObj) (v:V) (u:V):Option Nat:=u.d?.bind λd=>d.int?.bind λi=>v.loc?.bind λl=>(st[l]?).bind λo=>o.nexts?.bind λls=>(ki ls.length i).bind λk=>ls[k]?
noncomputable def kU (m:Nat) (s:St):Res V:=optE ((s.st[m]?).bind SObj.iter?) .bad λp=>optE ((s.st[p.1]?).bind SObj.list?) .bad λds=>optE (ds[p.2]?) (.exn (.bi .stopIteration) [] ⟨s.fr,s.st.set m .gone⟩) λd=>.ok (.d d) ⟨s.fr,s.st.set m (.iter p.1 (p.2+1))⟩
section
variable {cx:Cx}{z:Z}{s:St}{x:X}{k:Nat}
theorem zu {m:Nat}{a b:Addr}(hh:z.A.handled=Vm) (f:At cx z s x) (T:x.h.get? a=Vl (sZ b)) (Y:x.ρ[m]?=Vl b):aN cx z (aZ z) x (kU m s) (tr z (call (.ref a) [])):=λQ E q=>by
 unfold kU at q;cases v:(s.st[m]?).bind SObj.iter? with
 | none=>rw[v] at q;exact q.elim
 | some p=>
  rw[v] at q;change eL cx z (aZ z) x (optE ((s.st[p.1]?).bind SObj.list?) .bad _) Q E at q;cases l:(s.st[p.1]?).bind SObj.list? with
  | none=>rw[l] at q;exact q.elim
  | some ds=>
   rw[l] at q;change eL cx z (aZ z) x (optE (ds[p.2]?) _ _) Q E at q;refine aA v λo N f2=>aA l λo2 f3 f4=>?_;refine aC λI g=>?_;obtain rfl:=uY f2;obtain rfl:=eO f4;obtain ⟨b',ft,t,j,J,rfl,g3⟩:=f.H.foot m _ N;obtain rfl:=J9 (Y.symm.trans t);obtain ⟨b3,R,K,k2,us,n,rfl,hz,rs⟩:=f.H.foot p.1 _ f3;refine g ?_;obtain rfl:=J9 (g3.symm.trans K);have i:=f.H.ledIn _ (aD j (.head _));have U:=f.H.ledIn _ (aD k2 (.head _));refine Ci T i U ?_;cases k:ds[p.2]? with
   | some d=>
    refine aC λI g=>?_;obtain ⟨u,hu,ru⟩:=rs.get k;refine g ?_;rw[gC hu];rw[k] at q;refine Kc (M7 i rfl (L8 1) (Ko ⟨u,rfl,?_⟩));exact (aN.upd (RB:=aZ z) (so:=.iter p.1 (p.2+1)) (d:=V.d d) (P:=λQ E s'=>Q u {x.S with heap:=x.h.update b (Mx (·.setIfInBounds 1 (Lq ((p.2:Int)+1))))}) f j t λQ E q=>q _ x.S.toks (zy J (p.2+1)) u (LU ..) (by
     refine (Ln _ i (MN (MK rfl _))).trans (congrArg Vl ?_);rfl) ⟨J,rfl,g3⟩ λy h1 L=>by show RD _ y.imm _ _;rw[L];exact ru) Q E q
   | none=>
    rw[k] at q;have hn:us.toArray[p.2]?=none:=by
     have:=KY.mp k;have:=rs.length;rw[Array.getElem?_eq_none_iff,Kw];lia
    rw[hn];refine aC λI g=>?_;obtain ⟨o',e4⟩:∃o',(x.h.update b (Mx (·.setIfInBounds 0 .none))).get? b=Vl o':=⟨_,Ln _ i (MN (MK rfl _))⟩
    refine g ?_;have hs:MS b x.h (x.h.update b (Mx (·.setIfInBounds 0 .none))):=LU ..;have nL:b≠z.env.locals:=λe=>(f.F.ownI _ f.F.loc).1 (e▸HI.mem j (.head _));have C:=f.up (so:=.gone) (ft':=[(b,o')]) (tk:=x.S.toks) (r':=True) j t rfl (λp O=>by rw[Kg.mp O];exact e4) (λc o e=>if n:c=b then .inl (n▸.head _) else .inr (.inr ((hs.2 c n).trans e))) (λm hm=>hm.sameBut hs nL.symm) (.inr ⟨o',rfl⟩) trivial;refine Kc (Qe (Kc (M7 i rfl (M6 1) ?_)));refine Kc ?_;simp only[Uw,O9];refine Kc (LV ?_ (by size_fits));refine Kc (m:=NZ _ _) (MM (a:=Nj) (by first | rfl | (simp only[NZ];rfl)) ?_);refine LV ?_ (by size_fits);refine Tc hh ?_;exact qJ (x:=x.up m [(b,o')] (x.h.update b (Mx (·.setIfInBounds 0 .none))) x.S.toks) (tk:=x.S.toks) (s:=⟨s.fr,s.st.set m .gone⟩) C.at_ (kc:=.bi .stopIteration) (vals:=[]) (ds:=[]) ⟨λb o M=>KI _ (KI _ M),KS (by rw[LF];exact MU _),_,Kq _ rfl,bF _,KI _ (Kq _ rfl)⟩ .nil (LA _) λea w G=>q ea w ⟨G.at_,C.adv.trans G.adv,G.r.lift C.adv⟩
theorem Cr {v u:V}{m:Nat}{g r:Value}{e i:Kb}{Q:Value->Kh->Prop}{E:Value->Kh->Prop}(f:At cx z s x) (M:aZ z x g v) (T:aZ z x r u) (h:qE s.st v u=Vl m) (q:∀a b,x.h.get? a=Vl (sZ b)->x.ρ[m]?=Vl b->Q (.ref a) x.S):Km (Kn PR z.c.w) z.A (Lv e i g r) Q E x.S:=aA h λd O h=>aA h λj L h=>RD.onInt (P:=λr=>Km (Kn PR z.c.w) z.A (Lv e i g r) Q E x.S) (T.onD O) L λt=>f.H.onL (P:=λg=>Km (Kn PR z.c.w) z.A (Lv e i g (.int j t)) Q E x.S) M h λ{l a U o} _ F h=>aA h λY R h=>aA h λk C J=>by
  refine aC λGz y=>?_;obtain rfl:=mj R;obtain ⟨N,n,rfl,hz,rs⟩:=F.foot;have I:=f.H.ledIn _ (aD F.led (.head _));rw[<- rs.1] at C;obtain ⟨w,G⟩:∃w,N[k]?=Vl w:=⟨_,Ki (iP C).1⟩
  obtain ⟨l2,p,b,K,rfl,f3,f4⟩:=rs.2 k w G;obtain rfl:=J9 (J.symm.trans K);refine y ?_;exact lu ⟨_,I,rfl⟩ P3 (HQ I hz C G (q p b (f.H.immIn _ f3) f4))
noncomputable def GR (r:Sr k) (e i:Kb) (p pos:Pos):Ev k cx (.Call (.Subscript e i p) [] [] pos):=⟨λs=>if cx.inH=Vo then ((ek r cx e).f s).bind λv s=>((r.ev cx i).f s).bind λu s=>optE (qE s.st v u) .bad λm=>kU m s else .bad,λ{z s x} o a=>aN.ite λJ=>
 (((ek r cx e).ok o a).bind (K:=λt Q E H=>Km (Kn PR z.c.w) z.A (MQ i z.env) (λd g=>Km (Kn PR z.c.w) z.A (Lv e i t d) (λf l=>Km (Kn PR z.c.w) z.A (MZ pos f [] (Ms pos (LD [] z.env)) []) Q E l) E g) E H) λv s1 t y n=>((r.ev cx i).ok o n.at_).bind (K:=λd Q E g=>Km (Kn PR z.c.w) z.A (Lv e i t d) (λf l=>Km (Kn PR z.c.w) z.A (MZ pos f [] (Ms pos (LD [] z.env)) []) Q E l) E g) λu s2 d w m=>by
  cases G:qE s2.st v u with
  | none=>exact .bad
  | some j=>exact λQ E q=>Cr m.at_ (n.r.up m.adv) m.r G λa b C I=>fu (z:=z) (es:=[]) (first:=[]) (P:=λh=>h.get? a=Vl (sZ b)) rfl (λh F=>CG F) ⟨C,zu (o.hd J) m.at_ C I Q E q⟩).of λQ E h=>by
   show Km (Kn PR z.c.w) z.A (do MZ pos (<- MQ (.Subscript e i p) z.env) [] (Ms pos (LD [] z.env)) (Pc pos (NR [] z.env))) Q E _;exact Kc (Tz h)⟩
end
end
section
set_option linter.all false
theorem Ok.down {k:Nat}{cx:Cx}{z:Z}(o:Ok (k+1) cx z):Ok k cx z:=⟨o.B,o.top,o.frames,o.hd,by have:=o.depth;walk_at "n",by have:=o.units;walk_at "n"⟩
noncomputable def Ev.up {k:Nat}{cx:Cx}{e:Kb}(a:Ev k cx e):Ev (k+1) cx e:=⟨a.f,λo b=>a.ok o.down b⟩
noncomputable def Ts.up {k:Nat}{cx:Cx}{e:Kb}(a:Ts k cx e):Ts (k+1) cx e:=⟨a.f,λo b=>a.ok o.down b⟩
noncomputable def Xs.up {k:Nat}{cx:Cx}{e:List Stmt}(a:Xs k cx e):Xs (k+1) cx e:=⟨a.f,λo b=>a.ok o.down b⟩
section
variable {k:Nat}(r:Sr k) (cx:Cx)
noncomputable def wO (e:Kb):Ev k cx e:=match e with
 | .List es p=>(yZ r es p).fresh
 | .BinOp a .Mult b p=>(GS (r.ev cx a) (r.ev cx b) p).fresh
 | .Dict [] [] p=>wM p
 | .ListComp c [⟨t,it,d,0⟩] scope pos=>(fO r c t it d scope pos).fresh
 | e=>r.ev cx e
noncomputable def gL (f:Str) (p:Pos) (args:List Kb) (pos:Pos):Ev k cx (.Call (.Name f p) args [] pos):=match args with
 | [.Call (.Name g b) [e] [] a]=>if (g==sn "set")=Vn then ys r f p g b e a pos else kg r f p _ pos
 | args=>kg r f p args pos
noncomputable def BF (op:PQ) (e:Kb):Ev k cx e:=match op with
 | .In=>ek r cx e
 | .NotIn=>ek r cx e
 | _=>r.ev cx e
noncomputable def I1 (e:Kb):Ev k cx e:=match e with
 | .Constant c n p=>AN c n p
 | .Name n p=>pN n p
 | .BinOp a op b p=>Jb (r.ev cx a) (r.ev cx b) op p
 | .UnaryOp .Not e p=>IO (r.ev cx e) p
 | .UnaryOp .USub (.Constant (.int i) n h) pos=>Gy i n h pos
 | .BoolOp op es p=>HE r op es p
 | .Compare a [op] [b] p=>I7 (r.ev cx a) (BF r cx op b) op p
 | .IfExp t a b p=>JO (r.ev cx a) (r.ev cx b) (r.ts cx t) p
 | .List es p=>IS r es p
 | .Tuple es n p=>Iu r es n p
 | .ListComp d [⟨t,it,g,0⟩] scope pos=>(fO r d t it g scope pos).ev
 | .Call (.Attribute o m ap) args [] p=>GU r o m ap args p
 | .Call (.Name f p) args [] pos=>gL r cx f p args pos
 | .Call (.Subscript a i p) [] [] pos=>GR r a i p pos
 | .Attribute e m p=>HP r e m p
 | .Subscript e (.Slice a b t p) pos=>EJ r e a b t p pos
 | .Subscript e i pos=>zF r e i pos
 | .NamedExpr (.Name n p) e pos=>BJ r n p e pos
 | .JoinedStr [.Constant (.str t) n p] pos=>G7 t n p pos
 | _=>.bad
noncomputable def JC (e:Kb):Ts k cx e:=match e with
 | .UnaryOp .Not e p=>IN (r.ts cx e) p
 | .BoolOp op es p=>HD r op es p
 | .IfExp t a b p=>JM (r.ts cx t) (r.ts cx a) (r.ts cx b) p
 | .Compare a [op] [b] p=>I6 (r.ev cx a) (BF r cx op b) op p
 | .Constant (.bool b) n p=>kx _ (AN (.bool b) n p) λ_ _=>rfl
 | .Name n p=>kx _ (ek r cx (.Name n p)) λ_ _=>rfl
 | .Call f a g p=>kx _ (r.ev cx (.Call f a g p)) λ_ _=>rfl
 | .Attribute e m p=>kx _ (ek r cx (.Attribute e m p)) λ_ _=>rfl
 | .Subscript e i p=>kx _ (r.ev cx (.Subscript e i p)) λ_ _=>rfl
 | .ListComp a b c d=>kx _ (r.ev cx (.ListComp a b c d)) λ_ _=>rfl
 | _=>.bad
noncomputable def Do (n:Str) (p:Pos) (e:Kb) (pos:Pos):Ex k cx (.Assign [.Name n p] e pos):=match e with
 | .ListComp a [⟨t,it,b,0⟩] scope c=>uf r a t it b scope c n p pos
 | e=>lH (cond (IP.contains n) (wO r cx e) (r.ev cx e)) n p pos
noncomputable def GN (p:Pos):Ex k cx (.Pass p):=⟨λs=>.ok .next s,λ_ a=>.pure a fH λ_ _ q=>wpAny_Pass q⟩
noncomputable def I9 (p:Pos):Ex k cx (.Break p):=⟨λs=>.ok .brk s,λ{z s x} _ a=>.pure (b:=QA.brk) a (show RF z x .brk .brk from rfl) λ_ _ q=>wpAny_Break q⟩
noncomputable def HA (p:Pos):Ex k cx (.Continue p):=⟨λs=>.ok .cont s,λ{z s x} _ a=>.pure (b:=QA.cont) a (show RF z x .cont .cont from rfl) λ_ _ q=>wpAny_Continue q⟩
noncomputable def GI (p:Pos):Ex k cx (.Return Vm p):=⟨λs=>.ok (.ret (.d .non)) s,λ{z s x} _ a=>.pure (b:=UV .none) a (show RF z x (.ret .none) (.ret (.d .non)) from ⟨.none,rfl,RD.non⟩) λ_ _ q=>wpAny_Return_none q⟩
noncomputable def xy (t:Stmt):Ex k cx t:=match t with
 | .Expr e p=>Hp (r.ev cx e) p
 | .Pass p=>GN cx p
 | .Break p=>I9 cx p
 | .Continue p=>HA cx p
 | .Return Vm p=>GI cx p
 | .Return (Vl e) p=>EP (r.ev cx e) p
 | .Assign [.Name n p] e pos=>Do r cx n p e pos
 | .Assign [.Tuple ts n p] e pos=>xp (r.ev cx e) ts n p pos
 | .Assign [.Attribute o m p] e pos=>nv (wO r cx e) r m p pos
 | .Assign [.Subscript o i p] e pos=>Be (r.ev cx e) r p pos
 | .Assign [.Subscript o i p,.Name n d] e pos=>Bd (r.ev cx e) r n p d pos
 | .AugAssign (.Attribute o m p) op e pos=>Jd (r.ev cx e) r op m p pos
 | .AugAssign (.Subscript o (.Constant (.int j) n l) p) op e pos=>HN (r.ev cx e) r op j n l p pos
 | .Delete [.Subscript o i p] pos=>I3 r p pos
 | .If t a b p=>JN (r.ts cx t) r a b p
 | .While t a b p=>Er (r.ts cx t) r a b p
 | .For (.Tuple es s p) (.Call (.Name f d) [e] [] c) a b pos=>cond (f==sn "enumerate") (DY r a b pos es s p f d e c) (FC r _ _ a b pos)
 | .For t it a b p=>FC r t it a b p
 | .Try body [.ExceptHandler (Vl ty) h (b::hb) g] [] [] p=>Iv r ty h b hb body g p
 | .Assert t m p=>Dq (r.ts cx t) m p
 | .Raise (Vl (.Call (.Name f p) args [] q)) Vm pos=>ET r f p args q pos
 | _=>.bad
noncomputable def cH (f:Fl) (s:St) (g:St->Res Fl):Res Fl:=Fl.casesOn f (g s) (.ok .brk s) (.ok .cont s) λv=>.ok (.ret v) s
set_option backward.match.sparseCases true in
noncomputable def JB (l:List Stmt):Xs k cx l:=match l with
 | []=>⟨λs=>.ok .next s,λ_ a=>.pure a fH λ_ _ q=>Ul q⟩
 | t::l=>⟨λs=>((xy r cx t).f s).bind λf s=>cH f s (r.xs cx l).f,λ{z s x} o a=>
  (((xy r cx t).ok o a).bind (K:=λf Q E e=>match f with | .next=>Km (Kn PR z.c.w) z.A (Vg l z.env) Q E e | f=>Q f e) λf s1 g y n=>by
   have d:=n.r;cases f with
   | next=>refine rp d ?_;exact (r.xs cx l).ok o n.at_
   | brk=>refine rp d ?_;exact .done n.at_ (show RF z y .brk .brk from rfl)
   | cont=>refine rp d ?_;exact .done n.at_ (show RF z y .cont .cont from rfl)
   | ret v=>obtain ⟨b,rfl,rv⟩:=d;exact .done n.at_ (show RF z y (.ret b) (.ret v) from ⟨b,rfl,rv⟩)).of λ_ _ h=>Oc h⟩
end
end
section
set_option linter.all false
noncomputable def FH (a:List (Str×Addr)) (c d:Value) (e:Addr) (b:Value):FuncData:=fnX (sn "_law_read") readQual (fZ aX) (gK aX) (bO aX) a .none .none c d Vm (.ref e) b
noncomputable def ll (b:Array UInt8) (l:Nat):List (Str×V):=[(sn "octets",.d (.bytes b)),(sn "at",.loc l)]
noncomputable def uI {k:Nat}(r:Sr k) (b:Array UInt8) (l:Nat) (d:D) (st:List SObj):Res V:=v8 r (FH [] .none .none 0 .none) (ll b l) [.d d] st
theorem zX (a:List (Str×Addr)) (c d:Value) (e:Addr) (b val:Value):NF (FH a c d e b) ⟨[val],[]⟩=pure ((bx (FH a c d e b)).zip [val]):=rfl
theorem oj:(bO aX).names.all (λp=>((bO aX).names.lookup p.1==Vl p.2)&&(!(p.2==.free)||((p.1==sn "octets")||(p.1==sn "at"))))=true:=rfl
theorem ii:(bO aX).names.lookup (sn "octets")=Vl .free/\(bO aX).names.lookup (sn "at")=Vl .free/\(sn "octets"==sn "at")=false:=w3 rfl rfl rfl
theorem tv:(bO aX).kind=.function/\(bO aX).isCoroutine=Vo/\(bO aX).isGenerator=false:=w3 rfl rfl rfl
theorem C0:((bx (FH [] .none .none 0 .none)).all λn=>bC ((bO aX).names.lookup n))=true:=rfl
section
variable {k:Nat}{cx:Cx}{z:Z}{s:St}{x:X}{b:Array UInt8}{l:Nat}{st:List SObj}
theorem jB {n:Str}(q:(bO aX).names.lookup n=Vl .free):n=sn "octets"\/n=sn "at":=(Mh.mp (Kk.mp (KP.mp oj _ (mem_of_lookup q))).2).elim (λq=>nomatch q) λq=>(Mh.mp q).imp (λq=>eq_of_beq q) λq=>eq_of_beq q
theorem yU:sn "octets"≠sn "at":=beq_eq_false_iff_ne.mp ii.2.2
theorem Cc {c:Cn}{f:List (Str×Addr)}{r j i:Addr}{o m:Obj}{A:PP}(H:HI c st x) (hz:b.size<=16777216) (s:f.lookup (sn "octets")=Vl j) (k:f.lookup (sn "at")=Vl i) (C:(j,o)∈x.imm) (I:o.data=.cell (Vl (.bytes b A))) (t:(i,m)∈x.imm) (G:m.data=.cell (Vl (.ref r))) (w:j≠i) (K:x.ρ[l]?=Vl r):FrIn c (bO aX).names f (ll b l) x:=by
 have L:get (sn "octets") (ll b l)=Vl (.d (.bytes b)):=if_pos rfl;have F:get (sn "at") (ll b l)=Vl (.loc l):=(if_neg yU).trans (if_pos rfl);refine ⟨λp J=>beq_iff_eq.mp (Kk.mp (KP.mp oj _ J)).1,λn v g=>?_,λn q=>(jB q).elim (λe=>?_) λe=>?_,λn M a q E g z=>(jB q).elim (λe=>(jB E).elim (λh=>e.trans h.symm) λh=>?_) λe=>(jB E).elim (λh=>?_) λh=>e.trans h.symm⟩
 ·by_cases y:sn "octets" = n
  ·exact y▸ii.1
  ·by_cases u:sn "at" = n
   ·exact u▸ii.2.1
   ·exact au (((if_neg y).trans (if_neg u)).symm.trans g)
 ·refine rp e ?_;exact y3 j o _ (w5 s (H.immIn _ C) I (H.dis _ C) (λv g=>⟨_,rfl,J9 (L.symm.trans g)▸RD.bytes b A hz⟩))
 ·refine rp e ?_;exact y3 i m _ (w5 k (H.immIn _ t) G (H.dis _ t) (λv g=>⟨_,rfl,J9 (F.symm.trans g)▸⟨r,rfl,K⟩⟩))
 ·subst e h;exact absurd (J9 (s.symm.trans (g.trans (z.symm.trans k)))) w
 ·subst e h;exact absurd (J9 (s.symm.trans (z.trans (g.symm.trans k)))) w
theorem Cd {d:D}(r:Sr k):Br (k+1) b l d st (uI r b l d st):=λ{cx z O x val f S} o F a C A s Q E h=>by
 obtain ⟨y,p,L,v,J,K,n,I,u,m,q,G⟩:=A;rename_i i T M c e j g oc P N t w R;refine Pz (fd:=FH c e j i g) (body:=gK aX) (by have:=o.depth;lia) (a.H.immIn _ p) rfl tv.2.1 tv.2.2 rfl (y4 i oc t w (w4 rfl (a.H.immIn _ L) v J)) ?_;rw[zX];exact Ko (yu (fd:=FH c e j i g) (us:=[.d d]) (oF:=ll b l) r ⟨tv.1,rfl,rfl⟩ (Cc a.H y K n I u m q G C) o F a (.cons s .nil) rfl C0 h)
end
noncomputable def km:FuncData:=aW 244
noncomputable abbrev nF:Cx:=gP km
noncomputable def Ic:Stmt:=.Assign [.Name (sn "tape") ⟨190,4,190,8⟩] (.Call (.Name (sn "_Example") ⟨190,11,190,19⟩) [.Name (sn "octets") ⟨190,20,190,26⟩] [] ⟨190,11,190,27⟩) ⟨190,4,190,27⟩
noncomputable def tS:Stmt:=.Assign [.Attribute (.Name (sn "tape") ⟨196,4,196,8⟩) (sn "read") ⟨196,4,196,13⟩] (.Name (sn "_law_read") ⟨196,16,196,25⟩) ⟨196,4,196,25⟩
noncomputable def rS:Stmt:=.Return (Vl (.Name (sn "tape") ⟨197,11,197,15⟩)) ⟨197,4,197,15⟩
theorem HF:dA km=[Ic,aX,tS,rS]:=rfl
theorem yA:aX=.FunctionDef (sn "_law_read") (fZ aX) (gK aX) [] Vm [] (bO aX) Vm (sn "_law_read") readPos:=rfl
theorem FV (P:LB):(KK P).lookup 243=Vl ⟨.type "code",Vm,.fields #[.str (sn "_law_stream") 527,.str (sn "_law_stream") 528,.str (sn "/claim/cut.py") 529,.int (189) 0,.int (2) 0,.int (0) 0,.int (0) 0,.int (3) 0,.ref 238,.bool Vn,.int (181) 0,.ref 239,.none,.ref 240,.ref 241,.ref 242,.int (536) 0,.int (189) 0,.str (sn "/claim/cut.py") 537],#[]⟩:=rfl
theorem pU (P:LB){h:Heap}(X:(KK P).In h):CodeHd h 243 239:=(y5 _ _ _ _ _ (y4 _ _ _ _ (w7 (X 243 _ (FV P)) rfl rfl rfl rfl rfl (w4 rfl rfl rfl (by decide)))))
theorem AY (P:LB):Tw (KK P) LH (sn "__builtins__")=Vl (Vl (.ref 4))/\(KK P).lookup 4=Vl ⟨.type "module",Vl 0,.plain,#[]⟩/\bY (sn "len") ib=Vl (.bi .len):=w3 rfl rfl rfl
theorem GT {c:Cn}(B:Bs c):∃a,c.hb.Ns LH a/\a (sn "__builtins__")=Vl (.ref 4):=by
 obtain ⟨val,⟨a,b,d⟩,_⟩:=B.gl (sn "len") (.bi .len) (AY c.w.params).2.2;exact ⟨a,b,UD B.k b (AY c.w.params).1⟩
def oA (b:Imm) (f:Addr) (a:List (Str×Addr)):Prop:=∃d h e c oc vs g,(f,Sv (sn "_law_read") readQual (fZ aX) (gK aX) (bO aX) a d h e c)∈b/\(e,oc)∈b/\oc.data=.fields vs/\vs[1]?=Vl (.str readQual g)
theorem oA.mono {b a:Imm}{f:Addr}{clos:List (Str×Addr)}(c:∀p∈b,p∈a) (h:oA b f clos):oA a f clos:=h.imp λ_ h=>h.imp λ_ h=>h.imp λ_ h=>h.imp λ_ h=>h.imp λ_ h=>h.imp λ_ h=>h.imp λ_ h=>w3 (c _ h.1) (c _ h.2.1) h.2.2
theorem Jn:jG nF (bO aX)=true:=rfl
theorem IJ:bC (nF.names.lookup (sn "_law_read"))=true:=rfl
theorem Je (env:Env):(fZ aX).defaults=[]/\(fZ aX).kw_defaults=[]/\annTrees (fZ aX) Vm env=[]:=w3 rfl rfl rfl
theorem Ga (c:Value):codeAmong readPos [Lq readPos.line,Lq readPos.col,c]=Vl c:=rfl
theorem FS {z:Z}{s:St}{x:X}{r0:List SObj}{Q:QA->Kh->Prop}{E:Value->Kh->Prop}(B:Bs z.c) (a:At nF z s x) (hc:s.st=.ctab::r0) (t:z.env.code=.ref 243) (hq:qualnameIn z.env (sn "_law_read") (sn "_law_read")=readQual) (h:∀f y,Nx nF z x ⟨aY (sn "_law_read") (.d (.gbl f)) s.fr,s.st⟩ y (oA y.imm f (bW z.env (bO aX).names []))->Q .next y.S):Km (Kn PR z.c.w) z.A (exec aX z.env) Q E x.S:=by
 rw[yA];refine aC λGz g=>?_;obtain ⟨M,K,g3⟩:=Je z.env;refine g ?_;refine nestDef_K M K g3 ?_;rw[hq];have U:=B.kin a.H.base;refine aC λGz g=>?_;obtain ⟨O,IX,Y⟩:=GT B;have hg:=IX.keeps a.H.base;obtain ⟨a0,ft,e1,L,rfl,ps,rfl,hps⟩:=a.H.foot 0 .ctab (by rw[hc];rfl);refine g ?_;have hP:=a.H.ledIn _ (aD L (.head _));have hb:x.h.BuiltinsAt O tabP:=y2 4 _ (w7 Y (by decide) (by decide) (by decide) (U 4 _ (AY z.c.w.params).2.1) rfl ⟨rfl,rfl⟩);have C:z.env.locals≠tabP:=λq=>(a.F.ownI _ a.F.loc).1 (q▸HI.mem L (.head _));have J:∀{y:X}{f:Addr}{r:Prop},Nx nF z x s y r->oA y.imm f (bW z.env (bO aX).names [])->Km (Kn PR z.c.w) z.A (Og z.env (sn "_law_read") (.ref f)) (λ_ a1=>Q .next a1) E y.S:=λ{y f r} n m=>
  gY n.at_ IJ (show aZ z y (.ref f) (.d (.gbl f)) from RD.gbl f) λw k=>h f w ⟨k.at_,n.adv.trans k.adv,m.mono λp G=>k.r.2▸G⟩
 rcases hps with rfl | ⟨c0,oc,R,T,rfl,m1,m2,m3⟩
 ·refine makeFunction_K (gB _ a Jn) a.F.glb hg t (pU _ U) hP trivial rfl (by decide) hb λj i l h' tk hx u v N I=>?_;refine aC λGz g=>?_;obtain ⟨a2,oc,R,T,e4,g4,g5,g6⟩:=N;obtain rfl:=Os e4;have kf:∀(fn:Obj) b o,b≠tabP->x.h.get? b=Vl o->(h'.push fn).get? b=Vl o:=λfn b o n e=>aM _ _ _ _ (hx b o n e);have n1:=a.up (h':=h'.push (Sv (sn "_law_read") readQual (fZ aX) (gK aX) (bO aX) (bW z.env (bO aX).names []) l ((O "__name__").getD .none) j i)) (tk:=tk) (ft':=[(tabP,Pp (#[]++#[Lq readPos.line,Lq readPos.col,.ref j]))]) (so:=.gone) (r':=True) L e1 rfl (λp G=>by rw[Kg.mp G];exact aM _ _ _ _ I) (λb o e=>if q:b=tabP then .inl (by rw[q];exact .head _) else .inr (.inr (kf _ b o q e))) (λm hm=>hm.imp λ_ k=>k.imp λ_ k=>k.imp λ_ k=>⟨kf _ _ _ C k.1,k.2⟩) (.inr ⟨_,rfl⟩) trivial;obtain ⟨f1,f2,_⟩:=fB a.H u;obtain ⟨M,K,_⟩:=fB a.H (Ou (ML u v));refine g ?_;have la:(x.up 0 [(tabP,Pp (#[]++#[Lq readPos.line,Lq readPos.col,.ref j]))] (h'.push (Sv (sn "_law_read") readQual (fZ aX) (gK aX) (bO aX) (bW z.env (bO aX).names []) l ((O "__name__").getD .none) j i)) tk).la=x.la:=gt (ft:=[(tabP,Pp #[])]) (ft':=[(tabP,Pp (#[]++#[Lq readPos.line,Lq readPos.col,.ref j]))]) (λp:Addr×Obj=>p.1) rfl L;have n2:=n1.take (o:=oc) (a:=j) (r':=True) a (aM _ _ _ _ g4) ⟨la▸f1,f2,KS u⟩ trivial;have n3:=n2.take (a:=h'.objs.size) (r':=True) a (Kq _ rfl) ⟨la▸M,λp G=>(Kt.mp G).elim (λe q=>Mz _ (by rw[e] at q;exact q▸v)) (K p),KS (Ou (ML u v))⟩ trivial;have l3:(x.led.set 0 [(tabP,Pp (#[]++#[Lq readPos.line,Lq readPos.col,.ref j]))])[0]?=Vl [(tabP,Pp (#[]++#[Lq readPos.line,Lq readPos.col,.ref j]))]:=Mf (Kd.mp L).1;have n4:=n3.at_.up (h':=h'.push (Sv (sn "_law_read") readQual (fZ aX) (gK aX) (bO aX) (bW z.env (bO aX).names []) l ((O "__name__").getD .none) j i)) (tk:=tk) (so:=.ctab) (r':=True) l3 e1 rfl (λp G=>n3.at_.H.ledIn _ (aD l3 G)) (λb o e=>.inr (.inr e)) (λm hm=>hm) ⟨rfl,_,rfl,.inr (y4 j oc R T (w4 rfl (.tail _ (.head _)) g5 g6))⟩ trivial;have n5:=Nx.trans n3.adv n4 id;have es:(s.st.set 0 .gone).set 0 .ctab=s.st:=by rw[hc];rfl
  rw[es] at n5;exact J n5 (y5 _ _ j i oc (y2 R T (w4 (.head _) (.tail _ (.head _)) g5 g6)))
 ·refine makeFunction_hit (gB _ a Jn) a.F.glb hg t (pU _ U) hP trivial (Ga _) hb λi l h' tk k P=>?_;have n1:=a.kp (h':=h'.push (Sv (sn "_law_read") readQual (fZ aX) (gK aX) (bO aX) (bW z.env (bO aX).names []) l ((O "__name__").getD .none) c0 i)) (tk:=tk) (ex:=[]) (r:=True) (λb o e=>aM _ _ _ _ (k b o e)) (λ_ h=>nomatch h) trivial;refine aC λGz g=>?_;obtain ⟨M,K,_⟩:=fB a.H P;refine g ?_;have n2:=n1.take (a:=h'.objs.size) (r':=True) a (Kq _ rfl) ⟨M,K,KS P⟩ trivial;exact J n2 (y5 _ _ c0 i oc (y2 R T (w4 (.head _) (.tail _ m1) m2 m3)))
noncomputable def X.frzs (x:X) (l:Nat) (ft:List (Addr×Obj)):X:={ρ:=x.ρ,imm:=ft++x.imm,led:=x.led.set l [],S:=x.S}
section
variable {k:Nat}{cx:Cx}{z:Z}{s:St}{x:X}{l:Nat}{st:List SObj}{so:SObj}{r':Prop}{ft:List (Addr×Obj)}
theorem At.frzs (p:At cx z s x) (y:x.led[l]?=Vl ft) (J:∀a,x.ρ[l]?=Vl a->eY z.c.w x.ρ (ft++x.imm) a so []) (r:r'):Nx cx z x ⟨s.fr,s.st.set l so⟩ (x.frzs l ft) r':=by
 obtain ⟨H,F⟩:=p;have sub:∀{a:Addr},a∈(x.frzs l ft).la->a∈x.la:=λ{a} h=>(Kr.mp h).elim λq h=>h.2▸KR (bR.subset h.1);have mp:∀q∈ft,q.1∈x.la:=λq b=>HI.mem y b;have j:∀q∈x.imm,q∈ft++x.imm:=λ_ h=>Li _ h;have G:∀{v:Value}{u:V},RV z.c.w x.ρ x.imm v u->RV z.c.w x.ρ (ft++x.imm) v u:=λh=>h.mono (λ_ _ e=>e) j;refine ⟨⟨⟨H.base,λq b=>?_,λq b=>H.ledIn q (bR.subset b),Q8 (Q7 _ bR) H.nd,λa d=>H.ledB a (sub d),λq b m=>?_,px H.len,λi o e=>?_,H.frs,λa d=>w3 (λq b=>?_) (λm=>(H.fsI a d).2.1 (sub m)) ((H.fsI a d).2.2),λq b=>j q (H.imm0 q b)⟩,⟨F.kind,F.glb,F.blt,F.names,F.ns.imp λm h=>⟨h.1,λn v g l=>(h.2 n v g l).imp λ_ h=>⟨h.1,G h.2⟩⟩,λn f=>(F.cells n f).imp λ_ h=>h.imp λ_ h=>h.imp λ_ h=>w4 h.1 h.2.1 h.2.2.1 (λv g=>(h.2.2.2 v g).imp λ_ h=>⟨h.1,G h.2⟩),F.loc,λa d=>w3 (λm=>(F.ownI a d).1 (sub m)) (λq b=>?_) ((F.ownI a d).2.2),F.cellI,F.cellO,λn a f e=>⟨λm=>(F.cellL n a f e).1 (sub m),(F.cellL n a f e).2⟩⟩⟩,⟨λ_ _ e _ _=>.inl e,λ_ o e=>⟨o,e⟩,j,λq b=>?_,λa h=>.inl (sub h),λ_ _ e=>e,y3 _ _ _ rfl⟩,r⟩
 ·exact (Ku.mp b).elim (λe=>H.ledIn _ (aD y e)) (H.immIn q)
 ·refine (Ku.mp b).elim (λe=>?_) λb=>H.dis q b (sub m);obtain ⟨v,K,L⟩:=Kr.mp m;exact (gp K).elim (λh=>nomatch h) λ⟨k,g,I,M,N⟩=>H.off y M I e N L
 ·refine (sy e).elim (λ⟨t,A,E⟩=>?_) λ⟨t,A⟩=>(H.foot i o A).imp λ_ h=>h.imp λ_ h=>w3 h.1 ((LG (LQ t)).trans h.2.1) (h.2.2.mono (λ_ _ e=>e) j);subst t A;exact (H.foot i _ (Ki E)).imp λa h=>⟨[],h.elim λ_ h=>w3 h.1 (pz H.len.1 E) (J a h.1)⟩
 ·exact (Ku.mp b).elim (λe C=>(H.fsI a d).2.1 (C▸mp q e)) λm=>(H.fsI a d).1 q m
 ·exact (Ku.mp b).elim (λe C=>(F.ownI a d).1 (C▸mp q e)) λm=>(F.ownI a d).2.1 q m
 ·exact (Ku.mp b).elim (λe=>.inr (.inr (mp q e))) .inl
end
noncomputable def oU (s:St):Option (Nat×List (Str×V)×Array UInt8×Nat):=(dt s.st).bind λ_=>((get (sn "tape") s.fr).bind V.loc?).bind λn=>((s.st[n]?).bind SObj.einst?).bind λa=>(((get (sn "octets") s.fr).bind V.d?).bind D.bytes?).bind λb=>((get (sn "at") s.fr).bind V.loc?).bind λl=>if a.length<=800 then Vl (n,a,b,l) else Vm
structure TapeGot (s:St) (n:Nat) (at_:List (Str×V)) (b:Array UInt8) (l:Nat):Prop where
 hd:∃r0,s.st=.ctab::r0
 tape:get (sn "tape") s.fr=Vl (.loc n)
 st:s.st[n]?=Vl (.einst at_)
 oct:get (sn "octets") s.fr=Vl (.d (.bytes b))
 atl:get (sn "at") s.fr=Vl (.loc l)
 le:at_.length<=800
theorem se {s:St}{p:Nat×List (Str×V)×Array UInt8×Nat}(h:oU s=Vl p):TapeGot s p.1 p.2.1 p.2.2.1 p.2.2.2:=aA h λm i h=>aA h λn q h=>aA h λg j h=>aA h λb k h=>aA h λl f h=>bD h λt h=>by
  refine rq (J9 h) ?_;exact ⟨⟨m,mF i⟩,aA q λv c a=>kE a▸c,aA j λo c a=>rt a▸c,aA k λd c a=>aA c λv r e=>by rw[r,tL e,fF a],aA f λv c a=>kE a▸c,t⟩
noncomputable def oX (s:St):Res V:=optE (oU s) .bad λp=>.ok (.loc p.1) ⟨[],s.st.set p.1 (.tape p.2.2.1 p.2.2.2)⟩
noncomputable def yJ (res:Res Fl) (g:St->Res V):Res V:=Res.casesOn res (λf s=>Fl.casesOn f (g s) .bad .bad λ_=>.bad) (λ_ _ _=>.bad) .bad
noncomputable def x0 {k:Nat}(r:Sr k) (vs:List V) (st:List SObj):Res V:=if vs.length=2 then yJ ((xy r nF Ic).f ⟨eF ((bx km).zip vs) [],st⟩) oX else .bad
theorem Fm:(∀s,cK nF (sn "_law_read") s=dO (sn "_law_read") s)/\(∀s,(l0 (k:=0) (cx:=nF) (sn "tape") ⟨0,0,0,0⟩).f s=cO (sn "tape") s):=⟨λs=>rfl,λs=>rfl⟩
section
variable {k:Nat}{s:St}{n l:Nat}{at_:List (Str×V)}{b:Array UInt8}{f:Addr}
theorem GE (r:Sr k){p q e pos:Pos}(g:get (sn "_law_read") s.fr=Vl (.d (.gbl f))) (c:get (sn "tape") s.fr=Vl (.loc n)) (h:s.st[n]?=Vl (.einst at_)) (hz:at_.length<=800):(nv (o:=.Name (sn "tape") p) (pN (cx:=nF) (sn "_law_read") q) r (sn "read") e pos).f s=.ok .next ⟨s.fr,s.st.set n (.einst (aY (sn "read") (.d (.gbl f)) at_))⟩:=by
 show ((cK nF (sn "_law_read") s).bind λv s=>((l0 (k:=0) (cx:=nF) (sn "tape") ⟨0,0,0,0⟩).f s).bind λi s=>(jD s.fr (cN s.st i (sn "read") v)).bind λ_ s=>Res.ok Fl.next s)=_;rw[Fm.1];have a:dO (sn "_law_read") s=.ok (.d (.gbl f)) s:=by unfold dO;rw[g];rfl
 have j:cO (sn "tape") s=.ok (.loc n) s:=by unfold cO;rw[c];rfl
 have b:cN s.st (.loc n) (sn "read") (.d (.gbl f))=Vl (s.st.set n (.einst (aY (sn "read") (.d (.gbl f)) at_))):=by
  refine (if_pos rfl).trans ?_;show (s.st[n]?).bind _=_;rw[h];exact if_pos ⟨rfl,hz⟩
 rw[a];show ((l0 (k:=0) (cx:=nF) (sn "tape") ⟨0,0,0,0⟩).f s).bind _=_;rw[Fm.2,j];show (jD s.fr (cN s.st (.loc n) (sn "read") (.d (.gbl f)))).bind _=_;rw[b];rfl
theorem GH {p pos:Pos}(a:get (sn "tape") s.fr=Vl (.loc n)):(EP (k:=k) (l0 (cx:=nF) (sn "tape") p) pos).f s=.ok (.ret (.loc n)) s:=by
 show ((l0 (k:=0) (cx:=nF) (sn "tape") ⟨0,0,0,0⟩).f s).bind (λv s=>Res.ok (Fl.ret v) s)=_;rw[Fm.2];unfold cO;rw[a];rfl
end
theorem AR:nF.names.lookup (sn "octets")=Vl .cell/\nF.names.lookup (sn "at")=Vl .cell/\(sn "tape"==sn "_law_read")=Vo/\(sn "octets"==sn "_law_read")=Vo/\(sn "at"==sn "_law_read")=false:=w5 rfl rfl rfl rfl rfl
theorem xX {cx:Cx}{z s:Z}{fr k:List (Str×V)}{st g:List SObj}{x y:X}{n l:Nat}{o:List (Str×V)}{b:Array UInt8}{f:Addr}{L:Addr}{env:Env}(i:At cx z ⟨fr,st⟩ x) (hc:s.c=z.c.push env) (hf:env.frame=Vl L) (J:∀a∈s.own,x.h.get? a=Vm) (a4:At nF s ⟨k,g⟩ y) (j:Adv z.c [] x y) (q1:get (sn "octets") k=Vl (.d (.bytes b))) (q2:get (sn "at") k=Vl (.loc l)) (q3:g[n]?=Vl (.einst o)) (q4:get (sn "read") o=Vl (.d (.gbl f))) (P:oA y.imm f (bW s.env (bO aX).names [])):∃y6:X,y6.S=y.S/\y6.ρ=y.ρ/\HI z.c (g.set n (.tape b l)) y6/\Adv z.c [] x y6:=by
 refine aC λGz u=>?_;obtain ⟨H,F⟩:=a4;obtain ⟨C,v,_⟩:=AR;obtain ⟨t,o1,v1,E,c2,c3,c4⟩:=F.cells (sn "octets") (by rw[C];rfl);obtain ⟨u1,rfl,rv1⟩:=c4 _ q1;obtain ⟨ca,o2,v2,w,N,O,d4⟩:=F.cells (sn "at") (by rw[v];rfl);obtain ⟨u2,rfl,rv2⟩:=d4 _ q2;obtain ⟨tb,rfl,hz⟩:=RD.view rv1;obtain ⟨al,rfl,hal⟩:=rv2;have oc:=F.cellO _ _ C E;have G:=F.cellO _ _ v w;have K:t≠ca:=λq=>yU (F.cellI _ _ _ (by rw[C];rfl) (by rw[v];rfl) E (q▸w));rw[hc] at H;have N0:Nx cx z x ⟨fr,g⟩ y True:=⟨⟨H.pop hf,i.F.adv j⟩,j.weak (λ_ h=>nomatch h),trivial⟩
 have U:=N0.take (r':=True) i c2 ⟨(F.ownI t oc).1,(F.ownI t oc).2.1,J t oc⟩ trivial;have I:=U.take (r':=True) i N ⟨(F.ownI ca G).1,λp hp=>(Kt.mp hp).elim (λe q=>K (by rw[e] at q;exact q)) ((F.ownI ca G).2.1 p),J ca G⟩ trivial;obtain ⟨an,ft,e1,e2,d,es,m,rfl,ra,hle⟩:=H.foot n _ q3;have r:=ra.2 (sn "read");rw[q4] at r;obtain ⟨val,g1,g2,T⟩:=r;obtain rfl:=(show val=.ref f from RD.view T)
 obtain ⟨a1,pm,c',a2,Y,vs,tq,m1,Q,R,m4⟩:=P;refine u ?_;have M:=I.at_.frzs (l:=n) (so:=.tape b l) (r':=True) e2 (λa' ha=>by
  obtain rfl:=J9 (e1.symm.trans ha);exact ⟨rfl,al,hal,.mk (d:=d) (f:=f) (.head _) (.tail _ (.head _)) g1 (.mk hz (.tail _ (.tail _ (.tail _ (.tail _ m1)))) (.tail _ (.tail _ (.tail _ (.tail _ Q)))) R m4 (pX (mem_of_lookup ii.1) E) (pX (mem_of_lookup ii.2.1) w) (.tail _ (.tail _ (.tail _ (.head _)))) c3 (.tail _ (.tail _ (.head _))) O K)⟩) trivial
 have A:=I.adv.trans M.adv;refine ⟨_,?_,?_,M.at_.H,j.keep,A.alive,A.imm,A.immN,A.ledN,A.rho,A.rest⟩<;>rfl
theorem D5 (P:LB):(KK P).lookup 244=Vl ⟨.type "function",Vm,.func km,#[]⟩/\vy (KK P) km=true:=⟨rfl,rfl⟩
theorem Ab (a b:Value):NF km ⟨[a,b],[]⟩=pure ((bx km).zip [a,b]):=rfl
theorem Aa:km.scope.kind=.function/\km.scope.isCoroutine=Vo/\km.scope.isGenerator=Vo/\km.globals=LH/\km.builtins=M5/\km.closure=[]/\km.body=.stmts (dA km)/\(bx km).length=2/\((bx km).all λn=>bC (km.scope.names.lookup n))=Vn/\(km.scope.names.all λp=>(km.scope.names.lookup p.1==Vl p.2)&&!(p.2==.free))=true:=w7 rfl rfl rfl rfl rfl rfl (w4 rfl rfl rfl rfl)
theorem FI {c:Cn}{x:X}:FrIn c km.scope.names km.closure [] x:=by
 have k:=λp a=>Kk.mp (KP.mp Aa.2.2.2.2.2.2.2.2.2 p a);have b:∀{n},km.scope.names.lookup n≠Vl .free:=λ{n} q=>nomatch (k _ (mem_of_lookup q)).2;exact ⟨λp a=>beq_iff_eq.mp (k p a).1,λn v g=>au g,λn q=>absurd q b,λn _ _ q=>absurd q b⟩
theorem GL (L:Addr):qualnameIn (gu km L 244) (sn "_law_read") (sn "_law_read")=readQual:=rfl
theorem vQ {k:Nat}{vs:List V}{st:List SObj}(r:Sr k):ip (k+1) 244 vs st (x0 r vs st):=λ{cx z fr x K} o hh i O Q E h=>by
 unfold x0 at h;by_cases u:vs.length=2
 ·rw[if_pos u] at h;obtain ⟨u1,u2,rfl⟩:=Fp (O.length.trans u);have M:=o.B.kin i.H.base;obtain ⟨t1,T,U,Y,t5,t6,t7,t8,t9,_⟩:=Aa;refine Pz (fd:=km) (body:=dA km) (by have:=o.depth;lia) (M 244 _ (D5 _).1) rfl T U t7 (vx M (D5 _).2) ?_;rw[Ab];refine Ko (rf (fd:=km) (oF:=[]) ⟨t1,Y,t5⟩ FI o hh i O (t8.trans u.symm) t9 λy0 ok a0 A1 y=>?_);rw[HF];refine Oc ((xy r nF Ic).ok ok a0 _ _ ?_);cases F:(xy r nF Ic).f ⟨eF ((bx km).zip vs) [],st⟩ with
  | bad=>rw[F] at h;exact h.elim
  | exn=>rw[F] at h;exact h.elim
  | ok f1 g=>
   rw[F] at h;cases f1 with
   | brk=>exact h.elim
   | cont=>exact h.elim
   | ret=>exact h.elim
   | next=>
    change uj z.c x (oX g) Q E at h;unfold oX at h;cases A:oU g with
    | none=>rw[A] at h;exact h.elim
    | some p=>
     rw[A] at h;obtain ⟨⟨r0,S⟩,P,N,g3,g4,hz⟩:=se A;obtain ⟨_,_,j,w,C⟩:=AR;intro f' y1 G;refine rp ((show f'=.next from G.r)) ?_;refine Oc (FS ok.B G.at_ S rfl (GL _) λf y2 I=>?_);have b:∀{n:Str}{v:V},(n==sn "_law_read")=Vo->get n g.fr=Vl v->get n (aY (sn "_law_read") (.d (.gbl f)) g.fr)=Vl v:=λq e=>by rw[cV,if_neg (beq_eq_false_iff_ne.mp q)];exact e
     refine Oc ((nv (o:=.Name (sn "tape") _) (pN (cx:=nF) (sn "_law_read") _) r (sn "read") _ _).ok ok I.at_ _ _ ?_);rw[GE (s:=⟨aY (sn "_law_read") (.d (.gbl f)) g.fr,g.st⟩) (f:=f) r (by rw[cV,if_pos rfl]) (b j P) N hz];intro f3 y3 l;refine rp ((show f3=.next from l.r)) ?_;refine Oc ((EP (l0 (cx:=nF) (sn "tape") _) _).ok ok l.at_ _ _ ?_);rw[GH (s:=⟨aY (sn "_law_read") (.d (.gbl f)) g.fr,g.st.set p.1 (.einst (aY (sn "read") (.d (.gbl f)) p.2.1))⟩) (b j P)];intro f4 y4 m;obtain ⟨bv,rfl,rv⟩:=m.r;obtain ⟨y6,eS,e6,J,A6⟩:=xX (L:=x.h.objs.size) i rfl rfl (λa t=>KS (iz t)) m.at_ (y y4 (G.adv.trans (I.adv.trans (l.adv.trans m.adv)))) (b w g3) (b C g4) (Mf (Kd.mp N).1) (by rw[cV,if_pos rfl]) (I.r.mono λp hp=>(l.adv.trans m.adv).imm p hp);have R:=h bv y6 (by rw[Rj] at J;exact J) A6 (rv.imp λa t=>⟨t.1,e6▸t.2⟩);rw[eS] at R;exact R
 ·rw[if_neg u] at h;exact h.elim
noncomputable def rP {k:Nat}(r:Sr k) (a:Addr) (vs:List V) (st:List SObj):Res V:=cond (a==eu) (jV (r.call 36 (.loc st.length::vs) (st++[.node Vm Vm Vm])) st.length) (cond (a==bJ) (jV (r.call 73 (.loc st.length::vs) (st++[.inst []])) st.length) (cond (a==bL) (jV (r.call 176 (.loc st.length::vs) (st++[.einst []])) st.length) (cond (a==244) (x0 r vs st) (optE (zY a) .bad λfd=>nb r a fd vs st))))
theorem AT {k:Nat}(r:Sr k) (a:Addr) (vs:List V) (st:List SObj):ip (k+1) a vs st (rP r a vs st):=by
 unfold rP;cases c:a==eu with
 | true=>exact eq_of_beq c▸wo r
 | false=>cases d:a==bJ with
  | true=>exact eq_of_beq d▸qp r
  | false=>cases b:a==bL with
   | true=>exact eq_of_beq b▸wT r
   | false=>cases b:a==244 with
    | true=>exact eq_of_beq b▸vQ r
    | false=>cases e:zY a with
     | none=>exact λ_ _ _ _ _ _ h=>h.elim
     | some fd=>exact CX r e
noncomputable def mk:(n:Nat)->Sr n
 | 0=>⟨λ_ _=>.bad,λ_ _=>.bad,λ_ _=>⟨λ_=>.bad,λ_ _=>.bad⟩,λ_ _ _=>.bad,λ_ _ _=>λ_ _ _ _ _ _ h=>h.elim,λ_ _ _ _=>.bad,λ_ _ _ _=>λ_ _ _ _ _ _ _ _ h=>h.elim⟩
 | n+1=>⟨λcx e=>(I1 (mk n) cx e).up,λcx e=>(JC (mk n) cx e).up,λcx l=>(JB (mk n) cx l).up,λa vs st=>rP (mk n) a vs st,λa vs st=>AT (mk n) a vs st,λb l d st=>uI (mk n) b l d st,λb l d st=>Cd (mk n)⟩
end
end
section
section
set_option maxHeartbeats 0
set_option linter.all false
abbrev Jo:OpenLaw:=Pg
noncomputable def dL:DefRec:=⟨sn "law",fZ (bN 52),gK (bN 52),bO (bN 52),(bN 52).pos⟩
noncomputable def immT (P:LB):Imm:=(KK P).filter λp=>decide (198<=p.1)&&decide (p.1<=230)
section
variable {w:Ld}{imm:Imm}{h:Heap}{mg mb:Str->Option Value}{s₁:Kh}
theorem xS (b:∀p∈immT w.params,p∈imm){a:Addr}{us:List Value}{ds:List D}(e:(immT w.params).lookup a=Vl (dU us 0)) (hz:us.length<=16777216) (r:RDs w imm us ds):RD w imm (.ref a) (.tup ds):=.tup (b _ (Rt e)) hz r
theorem bP (b:∀p∈immT w.params,p∈imm){a:Addr}{i:Int}{t u:PP}{s:String}(e:(immT w.params).lookup a=Vl (dU [.int i t,.str (sn s) u] 0)) (hz:(sn s).cps.size<=16777216):RD w imm (.ref a) (bZ i s):=xS b e (Kv rfl) (.cons (.int _ _) (.cons (.str _ _ hz) .nil))
theorem Hl (c:∀p∈immT w.params,p∈imm):RD w imm (.ref 230) fmTable:=by
 have b:∀{a:Addr}{us:List Value}{o:List D},(immT w.params).lookup a=Vl (dU us 0)->us.length<=16777216->RDs w imm us o->RD w imm (.ref a) (.tup o):=λe z r=>xS c e z r;have g:RD w imm (.ref 205) (.tup [bZ 40960 "l",bZ 49152 "s",bZ 32768 "-",bZ 24576 "b",bZ 16384 "d",bZ 8192 "c",bZ 4096 "p"]):=b (us:=[.ref 198,.ref 199,.ref 200,.ref 201,.ref 202,.ref 203,.ref 204]) (by kernel_rfl) (Kv rfl) (.cons (bP c (t:=452) (u:=487) (by kernel_rfl) (by decide)) (.cons (bP c (t:=454) (u:=488) (by kernel_rfl) (by decide)) (.cons (bP c (t:=448) (u:=489) (by kernel_rfl) (by decide)) (.cons (bP c (t:=446) (u:=490) (by kernel_rfl) (by decide)) (.cons (bP c (t:=442) (u:=491) (by kernel_rfl) (by decide)) (.cons (bP c (t:=444) (u:=492) (by kernel_rfl) (by decide)) (.cons (bP c (t:=450) (u:=493) (by kernel_rfl) (by decide)) (.nil))))))));have i:RD w imm (.ref 207) (.tup [bZ 256 "r"]):=b (us:=[.ref 206]) (by kernel_rfl) (Kv rfl) (.cons (bP c (t:=469) (u:=494) (by kernel_rfl) (by decide)) (.nil));have l:RD w imm (.ref 209) (.tup [bZ 128 "w"]):=b (us:=[.ref 208]) (by kernel_rfl) (Kv rfl) (.cons (bP c (t:=471) (u:=495) (by kernel_rfl) (by decide)) (.nil));have m:RD w imm (.ref 213) (.tup [bZ 2112 "s",bZ 2048 "S",bZ 64 "x"]):=b (us:=[.ref 210,.ref 211,.ref 212]) (by kernel_rfl) (Kv rfl) (.cons (bP c (t:=496) (u:=497) (by kernel_rfl) (by decide)) (.cons (bP c (t:=463) (u:=498) (by kernel_rfl) (by decide)) (.cons (bP c (t:=473) (u:=499) (by kernel_rfl) (by decide)) (.nil))));have d:RD w imm (.ref 215) (.tup [bZ 32 "r"]):=b (us:=[.ref 214]) (by kernel_rfl) (Kv rfl) (.cons (bP c (t:=475) (u:=500) (by kernel_rfl) (by decide)) (.nil));have f:RD w imm (.ref 217) (.tup [bZ 16 "w"]):=b (us:=[.ref 216]) (by kernel_rfl) (Kv rfl) (.cons (bP c (t:=477) (u:=501) (by kernel_rfl) (by decide)) (.nil));have n:RD w imm (.ref 221) (.tup [bZ 1032 "s",bZ 1024 "S",bZ 8 "x"]):=b (us:=[.ref 218,.ref 219,.ref 220]) (by kernel_rfl) (Kv rfl) (.cons (bP c (t:=502) (u:=503) (by kernel_rfl) (by decide)) (.cons (bP c (t:=465) (u:=504) (by kernel_rfl) (by decide)) (.cons (bP c (t:=479) (u:=505) (by kernel_rfl) (by decide)) (.nil))));have h:RD w imm (.ref 223) (.tup [bZ 4 "r"]):=b (us:=[.ref 222]) (by kernel_rfl) (Kv rfl) (.cons (bP c (t:=481) (u:=506) (by kernel_rfl) (by decide)) (.nil));have j:RD w imm (.ref 225) (.tup [bZ 2 "w"]):=b (us:=[.ref 224]) (by kernel_rfl) (Kv rfl) (.cons (bP c (t:=483) (u:=507) (by kernel_rfl) (by decide)) (.nil));have k:RD w imm (.ref 229) (.tup [bZ 513 "t",bZ 512 "T",bZ 1 "x"]):=b (us:=[.ref 226,.ref 227,.ref 228]) (by kernel_rfl) (Kv rfl) (.cons (bP c (t:=508) (u:=509) (by kernel_rfl) (by decide)) (.cons (bP c (t:=467) (u:=510) (by kernel_rfl) (by decide)) (.cons (bP c (t:=485) (u:=511) (by kernel_rfl) (by decide)) (.nil))));exact b (us:=[.ref 205,.ref 207,.ref 209,.ref 213,.ref 215,.ref 217,.ref 221,.ref 223,.ref 225,.ref 229]) (by kernel_rfl) (Kv rfl) (.cons g (.cons i (.cons l (.cons m (.cons d (.cons f (.cons n (.cons h (.cons j (.cons k (.nil)))))))))))
noncomputable def IM (P:LB) (n:Str) (d:D):Bool:=match d with
 | .bi b=>Tw (KK P) LH n==Vl Vm&&(Sp n==Vl b.val&&n != sn "__name__")
 | .gbl a=>Tw (KK P) LH n==Vl (Vl (.ref a))
 | .int i=>match Tw (KK P) LH n with
  | some (Vl (.int j _))=>i==j
  | _=>Vo
 | _=>n==sn "_filemode_table"
theorem CT (P:LB):ib.all (λp=>IM P p.1 p.2)=true:=by kernel_rfl
theorem Hn (P:LB):Tw (KK P) LH (sn "_filemode_table")=Vl (Vl (.ref 230))/\bY (sn "_filemode_table") ib=Vl fmTable:=⟨by kernel_rfl,by kernel_rfl⟩
def Jj (w:Ld) (h:Heap) (n:Str) (d:D):Prop:=∃val,(∃mg,h.Ns LH mg/\(mg n=Vl val\/(mg n=Vm/\∃mb,h.Ns M5 mb/\mb n=Vl val)))/\∀imm,(∀p∈immT w.params,p∈imm)->RD w imm val d
theorem He (X:(KK w.params).In h) (g:h.Ns LH mg){n:Str}{d:D}(e:bY n ib=Vl d) (q:(n==sn "_filemode_table")=Vn):Jj w h n d:=by
 obtain rfl:=eq_of_beq q;obtain ⟨c,a⟩:=Hn w.params;exact rp (J9 (e.symm.trans a)) ⟨.ref 230,⟨mg,g,.inl (UD X g c)⟩,λimm b=>Hl b⟩
theorem Fx (X:(KK w.params).In h) (g:h.Ns LH mg){n:Str}{i:Int}(k:IM w.params n (.int i)=Vn):Jj w h n (.int i):=by
 unfold IM at k;cases q:Tw (KK w.params) LH n with
 | none=>rw[q] at k;exact (LX k).elim
 | some o=>
  rw[q] at k;rcases o with _ | v
  ·exact (LX k).elim
  ·cases v<;>first
    | exact (LX k).elim
    | exact ⟨.int _ _,⟨mg,g,.inl (UD X g q)⟩,λ_ _=>eq_of_beq k▸.int _ _⟩
theorem Hd (X:(KK w.params).In h) (g:h.Ns LH mg) (b:h.Ns M5 mb) (m:∀x:Str,x≠"__name__"->mb x=Sp x) (n:Str) (d:D) (e:bY n ib=Vl d):Jj w h n d:=by
 have k:=KP.mp (CT w.params) _ (iD e);by_cases q:(n==sn "_filemode_table")=Vn
 ·exact He X g e q
 ·clear e;cases d with
  | bi l=>
   obtain ⟨f,c⟩:=Kk.mp k;obtain ⟨c,j⟩:=Kk.mp c;exact ⟨l.val,⟨mg,g,.inr ⟨mg_none_of X g (beq_iff_eq.mp f),mb,b,(m n (bne_iff_ne.mp j)).trans (beq_iff_eq.mp c)⟩⟩,λ_ _=>.bi _⟩
  | gbl a=>exact ⟨.ref a,⟨mg,g,.inl (UD X g (beq_iff_eq.mp k))⟩,λ_ _=>.gbl _⟩
  | int i=>exact Fx X g k
  | _=>exact absurd k q
noncomputable def c0 (w:Ld) (h:Heap):Cn:=⟨w,TV h [239,6],immT w.params,[]⟩
noncomputable def z0 (w:Ld) (h:Heap) (env:Env):Z:=⟨c0 w h,env,[6],TT⟩
theorem G9 (P:LB):(immT P).map (λp=>(KK P).lookup p.1)=(immT P).map λp=>Vl p.2:=by kernel_rfl
theorem G8 (P:LB):(immT P).all (λp=>!(p.1==6)&&!(p.1==239))=true:=by kernel_rfl
theorem G4 (P:LB):(KK P).all (λp=>!(p.1==6)&&!(p.1==239))=true:=by kernel_rfl
theorem G5 (P:LB):(Gh P).lookup 6=Vl (⟨.type "dict",Vm,.dict #[] 0,#[]⟩)/\(Gh P).lookup 239=Vl (Pp #[]):=⟨by kernel_rfl,by kernel_rfl⟩
theorem DP {P:LB}(X:(Gh P).In h):(KK P).In h:=λa o e=>by
 have k:=Kk.mp (KP.mp (G4 P) _ (Rt e));refine X a o ?_;unfold Gh;rw[MH,(KL _).mp k.1,MH,(KL _).mp k.2];exact e
theorem zj {a:Addr}{vs:List Value}{m:Nat}{ns:List Int}(X:(Gh w.params).In s₁.heap) (g:s₁.heap.Ns LH mg) (b:s₁.heap.Ns M5 mb) (j:∀x:Str,x≠"__name__"->mb x=Sp x) (J:s₁.heap.NoLimit) (A:s₁.heap.get? a=Vl (lstO vs m)) (P:Np vs ns) (a1:ns.length<=63){N:Nat}(T:N<=300) (run:dI ((mk N).call 333 [.d (.lst (ns.map .int))] [.ctab])=Vl (.bool Vn)){Q E:Value->Kh->Prop}(h:∀h' tk d,(∀b o,b≠239->s₁.heap.get? b=Vl o->h'.get? b=Vl o)->GrownAt 239 h'->Q (.bool Vn) {s₁ with heap:=h',toks:=tk,drawn:=d}):Mu (Kn PR w) TT (.call (.ref 333) ⟨[.ref a],[]⟩) (OU Q E) s₁:=by
 obtain ⟨e6,C⟩:=G5 w.params;have I:=X 6 _ e6;have i:=X 239 _ C;have R:=DP X;have nk:∀{b o},(KK w.params).lookup b=Vl o->b∉[239,6]:=λ{b o} e m=>by
  have k:=Kk.mp (KP.mp (G4 w.params) _ (Rt e));refine (Kt.mp m).elim (λq=>?_) λm=>?_
  ·subst q;exact absurd (show (!true)=Vn from k.2) (by decide)
  ·cases Kg.mp m;exact absurd (show (!true)=Vn from k.1) (by decide)
 have G:∀{b o},s₁.heap.get? b=Vl o->b∉[239,6]->(TV s₁.heap [239,6]).get? b=Vl o:=λe n=>hideAll_get _ e n;have S:(KK w.params).In (TV s₁.heap [239,6]):=λb o e=>G (R b o e) (nk e);have t:∀{b:Addr}{mm:Str->Option Value},b∉[239,6]->s₁.heap.Ns b mm->(TV s₁.heap [239,6]).Ns b mm:=λn q=>q.imp λo q=>q.imp λes q=>q.imp λep q=>⟨G q.1 n,q.2⟩
 have B:Bs (c0 w s₁.heap):=⟨S,λn d e=>Hd S (t (by decide) g) (t (by decide) b) j n d e,J.imp λmc q=>⟨t (by decide) q.1,q.2⟩⟩
 have ne:a≠239:=λq=>by
  rw[q,i] at A;exact nomatch congrArg Obj.cls (J9 A)
 have L:a≠6:=λq=>by
  rw[q,I] at A;exact nomatch congrArg QU (J9 A)
 have M:∀p∈(a,lstO vs m)::immT w.params,s₁.heap.get? p.1=Vl p.2/\p.1≠6/\p.1≠239:=λp c=>(Kt.mp c).elim (λe=>by rw[e];exact w3 A L ne) λc=>by
  have k:=Kk.mp (KP.mp (G8 w.params) _ c);exact w3 (R _ _ (hM (f:=λp:Addr×Obj=>(KK w.params).lookup p.1) (g:=λp=>Vl p.2) (G9 w.params) c)) (beq_eq_false_iff_ne.mp ((KL _).mp k.1)) (beq_eq_false_iff_ne.mp ((KL _).mp k.2))
 have H:HI (c0 w s₁.heap) [.ctab] ⟨[239],(a,lstO vs m)::immT w.params,[[(239,Pp #[])]],s₁⟩:=⟨λb o e=>of_hideAll _ e,λp c=>(M p c).1,λp c=>by rw[Kg.mp c];exact i,nd1,λb j=>Su _ (by rw[Kg.mp j];exact .head _),λp c m=>(M p c).2.2 (Kg.mp m),⟨rfl,rfl⟩,λl o e=>by
   cases l with
   | zero=>cases J9 e;exact y2 239 _ (w4 rfl rfl rfl ⟨#[],rfl,.inl rfl⟩)
   | succ l=>exact au e,trivial,λb j=>(nomatch j),λp c=>.tail _ c⟩
 let u:Env:={(default:Env) with scope:={kind:=.function,names:=[],isGenerator:=Vo,isCoroutine:=Vo},globals:=LH,builtins:=M5,locals:=6,cells:=[]}
 have F:EI (c0 w s₁.heap) ⟨[],Vn,Vo⟩ u [6] [] ⟨[239],(a,lstO vs m)::immT w.params,[[(239,Pp #[])]],s₁⟩:=⟨rfl,rfl,rfl,λn=>w4 (λh=>au h) (λh=>nomatch h) (λh=>au h) (λh=>au h),⟨λ_=>Vm,y3 _ (#[]) 0 (w4 I rfl (λe he=>absurd he (RJ _)) (λn=>rfl)),λn v e=>au e⟩,λn h=>(nomatch h),.head _,λb j=>by
   rw[Kg.mp j];exact w4 (λm=>absurd (Kg.mp m) (by decide)) (λp c=>(M p c).2.1) (Su _ (.tail _ (.head _))) ⟨_,I⟩,λn n' b h=>(nomatch h),λn b h=>au h,λn b h=>(nomatch h)⟩
 have d1:TT.depth+300<recursionLimit:=by decide +kernel
 have Y:TT.units+8*300+200<cLine:=by decide +kernel
 have ok:Ok N ⟨[],Vn,Vo⟩ (z0 w s₁.heap u):=⟨B,(λh=>nomatch h),rfl,λ_=>rfl,ML (PB T _) d1,ML (RY (PB (Nat.mul_le_mul_left 8 T) _) _) Y⟩
 have O:=eU P;obtain ⟨s,r,e1,e2⟩:=ot run;refine (mk N).callOk 333 _ _ (z:=z0 w s₁.heap u) (fr:=[]) ok rfl ⟨H,F⟩ (RVs.cons (show RV w [239] ((a,lstO vs m)::immT w.params) (.ref a) (.d (.lst (ns.map .int))) from RD.lst (.head _) (by lia) (jS P)) .nil) Q E ?_;rw[e1];intro bv y U p rv;refine rp (show bv=.bool Vn from rv.view) ?_;obtain ⟨hh,tk,dd,K⟩:=p.rest;rw[K];refine h hh tk dd (λb o n e=>?_) ?_
 ·have:=(p.keep b o e MG λm=>n (Kg.mp m)).elim id λq=>nomatch q.1;rw[X.h,K] at this;exact this
 ·obtain ⟨b,ft,h1,h2,e3,ps,rfl,_⟩:=U.foot 0 .ctab (by rw[e2];rfl);have:=U.ledIn _ (aD h2 (.head _));rw[X.h,K] at this;exact ⟨ps,this⟩
end
theorem GG:Jo.wellSaid=true:=by kernel_rfl
theorem FD (P:LB):Tw (KK P) LH (sn "law")=Vl (Vl (.ref 333)):=by kernel_rfl
theorem holds_of {N:Nat}(hN:N<=300) (run:∀ns:List Int,ns.length<=63->dI ((mk N).call 333 [.d (.lst (ns.map .int))] [.ctab])=Vl (.bool Vn)):Jo.Holds:=by
 refine holds_law GG λi=>PySem.W.holds_open (d:=dL) (kwd:=[]) (q:=qv) (loose:=Jp) (Xt:=λs=>xlAt qv [] s&&recOk [] s) (XP:=XL qv []) (Yf:=UU HH) (Ya:=UT HH) (YP:=Hook.says HH) (N:=4684) G3 (Hook.of HH) (Hook.keeps HH) (λs e=>xl_of s (Kk.mp e).1) XL.keeps (by rfl) (by rfl) (by rfl) (λs e=>recFacts_of (Kk.mp e).2) (by rfl) i (by decide +kernel) (w6 rfl rfl rfl rfl rfl (by decide +kernel)) ?hw ?_
 ·w_witness2
 intro w s₀ p mg mb G Y P o pm cd a1 dV kV ho hd a2 hD x O F H as j l A u z;have t:(Gh w.params).In p.heap:=Y;refine Ground.open G ?_;intro T B D M TW;clear M TW D B;have K:=DP t;obtain rfl:P=333:=Os (J9 (x.symm.trans (UD K T.g (FD _))))
 wrow_args j l A u z
 refine enter_call (kn_post (tabs:=[(243,239)]) (λq S=>by rw[Kg.mp S];exact ⟨pU w.params K,t 239 _ (G5 w.params).2⟩) (λ_ _=>rfl) ?_);rename_i ns _ _ _ _ _ _ _ a R _ U _ L _ hI _ J _;have w2:Well w.params p.heap (.ref a) (.list (ofPys (ns.map PyData.int))):=L;refine aC λI c=>?_;cases w2;refine c ?_;rename_i us r _;refine aC λI c=>?_;obtain ⟨ol,e1,e2,n,e3⟩:=U;cases J9 (r.symm.trans e1);refine c ?_;have e4:us.toArray=R.toArray:=(Data.seq.inj e3).1;rw[e4] at r;refine Po (zj t T.g T.b T.builtins T.nolimit r hI (by lia) hN (run ns (by lia)) (Q:=λv C=>v=.bool Vn/\∃h m d,C={p with heap:=h,toks:=m,drawn:=d}/\(∀b o,b≠239->p.heap.get? b=Vl o->h.get? b=Vl o)/\GrownAt 239 h) (E:=λ_ _=>False) λh m d k g=>⟨rfl,y3 h m d (w3 rfl k g)⟩) λy C f=>?_;rcases y with e | (v | _ | _ | _)<;>first | exact f.elim | skip
 refine aC λI c=>?_;obtain ⟨rfl,h,m,d,rfl,k,g⟩:=f;refine c ?_;refine w3 (w4 (.inl (y3 (.bool Vn) (.bool Vn) [] (w5 rfl (λ_=>rfl) (.bool Vn) (by wrow_post) unshared_nil))) (λb o e=>k b o (λq=>?_) (of_hideAll _ e)) rfl O) g trivial
 ·subst q;exact au ((Su _ (.head _)).symm.trans e)
end
end
section
local macro_rules (kind:=tacticKernel_rfl)|s=>Mine.Internal.mK s
section
set_option linter.all false
def W {α:Type}(x:Res α) (Q:α->St->Prop) (E:D->List D->St->Prop):Prop:=Res.casesOn x Q E False
abbrev noE:D->List D->St->Prop:=λ_ _ _=>False
section
variable {α β:Type}{x:Res α}{f:α->St->Res β}{s:St}{E:D->List D->St->Prop}
theorem W.imp {Q b:α->St->Prop}(h:W x Q E) (k:∀a s,Q a s->b a s):W x b E:=by cases x<;>first | exact k _ _ h | exact h
theorem W.bind {Q:β->St->Prop}(h:W x (λa s=>W (f a s) Q E) E):W (x.bind f) Q E:=by cases x<;>exact h
theorem W.opt {o:Option α}{Q:α->St->Prop}(h:∃a,o=Vl a/\Q a s):W (cP o s) Q E:=by obtain ⟨a,rfl,h⟩:=h;exact h
theorem W.optE {o:Option α}{f:α->Res β}{Q:β->St->Prop}(h:∃a,o=Vl a/\W (f a) Q E):W (Mine.Internal.optE o .bad f) Q E:=by obtain ⟨a,rfl,h⟩:=h;exact h
theorem W.okD {o:Option D}{Q:V->St->Prop}(h:∃d,o=Vl d/\Q (.d d) s):W (Mine.Internal.okD o s) Q E:=by obtain ⟨a,rfl,h⟩:=h;exact h
theorem W.ite {c:Prop} [i:Decidable c] {Q:α->St->Prop}(a:c) (h:W x Q E):W (if c then x else .bad) Q E:=by rw[if_pos a];exact h
theorem W.cond {b:Bool}{y:Res α}{Q:α->St->Prop}(a:b=Vn->W x Q E) (c:b=Vo->W y Q E):W (cond b x y) Q E:=by
 cases b with
 | true=>exact a rfl
 | false=>exact c rfl
theorem W.get {Q:α->St->Prop}(h:W x Q noE):∃a s,x=.ok a s/\Q a s:=by cases x<;>first | exact (y2 _ _ ⟨rfl,h⟩) | exact h.elim
theorem W.of {Q:α->St->Prop}{a:α}(e:x=.ok a s) (h:Q a s):W x Q E:=e▸h
end
section
variable {n m:Str}{v w:V}{fr:List (Str×V)}
theorem aU:get n (aY n v fr)=Vl v:=by rw[cV,if_pos rfl]
theorem wL (h:(m==n)=Vo) (k:get m fr=Vl w):get m (aY n v fr)=Vl w:=by rw[cV,if_neg (beq_eq_false_iff_ne.mp h)];exact k
theorem Ie {names:List (Str×LJ)}(h:names.lookup n=Vl .free):∀{fr:List (Str×V)},get n fr=Vl v->get n (ef names fr)=Vl v:=λ{fr}=>by
 induction fr with
 | nil=>exact λk=>au k
 | cons p r a=>
  intro k;rw[vh] at k;by_cases q:p.1=n
  ·rw[if_pos q] at k;show get n (Qn _ (p::r))=_;rw[Mp,if_pos (by rw[q,h];rfl)];rw[vh];rw[if_pos q];exact k
  ·rw[if_neg q] at k;show get n (Qn _ (p::r))=_;rw[Mp];split
   ·rw[vh];rw[if_neg q];exact a k
   ·exact a k
end
noncomputable def zf (cx:Cx) (n:Str):Bool:=!(cx.names.lookup n==Vl .globalImplicit)&&((hW (cx.names.lookup n)&&BA n)&&!cx.comp)
noncomputable def GZ (cx:Cx) (n:Str):Bool:=!(cx.names.lookup n==Vl .globalImplicit)&&((hW (cx.names.lookup n)&&BA n)&&cx.comp)
noncomputable def ia (cx:Cx) (n:Str):Option D:=cond (cx.names.lookup n==Vl .globalImplicit) (bY n ib) Vm
section
variable {k:Nat}{cx:Cx}{s:St}{n:Str}{p pos:Pos}{Q:V->St->Prop}{E:D->List D->St->Prop}{v:V}{d:D}{l:Nat}{e a b t:Kb}{es:List Kb}
theorem jt (h:zf cx n=Vn):cK cx n s=dO n s:=by
 obtain ⟨b,a⟩:=Kk.mp h;obtain ⟨a,c⟩:=Kk.mp a;unfold cK;rw[if_neg (by have:=(KL _).mp b;exact beq_eq_false_iff_ne.mp this),if_pos a,if_neg (by rw[(KL _).mp c];decide)]
theorem tB (h:GZ cx n=Vn):cK cx n s=cO n s:=by
 obtain ⟨b,a⟩:=Kk.mp h;obtain ⟨a,c⟩:=Kk.mp a;unfold cK;rw[if_neg (by have:=(KL _).mp b;exact beq_eq_false_iff_ne.mp this),if_pos a,if_pos c]
theorem fK (h:ia cx n=Vl d):cK cx n s=.ok (.d d) s:=by
 unfold ia at h;unfold cK;cases q:cx.names.lookup n==Vl .globalImplicit with
 | false=>rw[q] at h;exact au h
 | true=>
  rw[q] at h;rw[if_pos (beq_iff_eq.mp q),show bY n ib=Vl d from h];rfl
variable {s1 s2 s3 s4 s5:St}{u w:V}
theorem fY {a:List (Str×V)}{b:List SObj}(h:zf cx n=Vn) (c:get n a=Vl (.d d)):((mk (k+1)).ev cx (.Name n p)).f ⟨a,b⟩=.ok (.d d) ⟨a,b⟩:=by
 show cK cx n ⟨a,b⟩=_;rw[jt h];unfold dO;rw[c];rfl
theorem ka {b:List (Str×V)}{a:List SObj}(h:zf cx n=Vn) (c:get n b=Vl (.loc l)) (d:dQ a l=Vm):((mk (k+1)).ev cx (.Name n p)).f ⟨b,a⟩=.ok (.loc l) ⟨b,a⟩:=by
 show cK cx n ⟨b,a⟩=_;rw[jt h];unfold dO;rw[c];show (MF (dQ a l) _ _:Res V)=_;rw[d]
theorem dR {a:List (Str×V)}{b:List SObj}{o:D}{st':List SObj}(h:zf cx n=Vn) (c:get n a=Vl (.loc l)) (e:dQ b l=Vl (o,st')):((mk (k+1)).ev cx (.Name n p)).f ⟨a,b⟩=.ok (.d o) ⟨aY n (.d o) a,st'⟩:=by
 show cK cx n ⟨a,b⟩=_;rw[jt h];unfold dO;rw[c];show (MF (dQ b l) _ _:Res V)=_;rw[e]
theorem Hu {a:List (Str×V)}{b:List SObj}(h:GZ cx n=Vn) (c:get n a=Vl v):((mk (k+1)).ev cx (.Name n p)).f ⟨a,b⟩=.ok v ⟨a,b⟩:=by
 show cK cx n ⟨a,b⟩=_;rw[tB h];unfold cO;rw[c];rfl
theorem fQ (h:ia cx n=Vl d):((mk (k+1)).ev cx (.Name n p)).f s=.ok (.d d) s:=fK h
theorem gy {a:List (Str×V)}{b:List SObj}(h:(hW (cx.names.lookup n)&&BA n)=Vn) (c:get n a=Vl v):(ek (mk k) cx (.Name n p)).f ⟨a,b⟩=.ok v ⟨a,b⟩:=by
 show (if _ then cO n ⟨a,b⟩ else cK cx n ⟨a,b⟩)=_;rw[if_pos h];unfold cO;rw[c];rfl
theorem Ht (h0:(hW (cx.names.lookup n)&&BA n)=Vo) (h:ia cx n=Vl d):(ek (mk k) cx (.Name n p)).f s=.ok (.d d) s:=by
 show (if _ then cO n s else cK cx n s)=_;rw[if_neg (by rw[h0];decide),fK h]
theorem cE (h:ek (mk k) cx e=(mk k).ev cx e) (q:((mk k).ev cx e).f s=.ok v s1):(ek (mk k) cx e).f s=.ok v s1:=h▸q
theorem dY {i:Int}{m:Nat}:((mk (k+1)).ev cx (.Constant (.int i) m p)).f s=.ok (.d (.int i)) s:=rfl
theorem AA {b:Bool}{m:Nat}:((mk (k+1)).ev cx (.Constant (.bool b) m p)).f s=.ok (.d (.bool b)) s:=rfl
theorem eI {m:Nat}:((mk (k+1)).ev cx (.Constant .none m p)).f s=.ok (.d .non) s:=rfl
theorem ry {t:Str}{m:Nat}(h:t.cps.size<=1000):((mk (k+1)).ev cx (.Constant (.str t) m p)).f s=.ok (.d (.str t)) s:=if_pos h
theorem aK {α β:Type}{x:Res α}{f:α->St->Res β}{a:α}{r:Res β}(e:x=.ok a s1) (h:f a s1=r):x.bind f=r:=by rw[e];exact h
theorem fU {α:Type}{o:Option α}{a:α}(e:o=Vl a):cP o s=.ok a s:=by rw[e];rfl
theorem hE {o:Option D}(e:o=Vl d):okD o s=.ok (.d d) s:=by rw[e];rfl
theorem ij {op:Nw}(c:((mk k).ev cx a).f s=.ok v s1) (e:((mk k).ev cx b).f s1=.ok u s2) (g:jv op v u=Vl d):((mk (k+1)).ev cx (.BinOp a op b p)).f s=.ok (.d d) s2:=aK c (aK e (hE g))
theorem Ea {F1:List (Str×V)}{T1:List SObj}{c:Bool}(a:((mk k).ev cx e).f s=.ok v ⟨F1,T1⟩) (b:cc T1 v=Vl c):((mk (k+1)).ev cx (.UnaryOp .Not e p)).f s=.ok (.d (.bool (!c))) ⟨F1,T1⟩:=aK a (aK (fU b) rfl)
theorem As {i:Int}{m:Nat}{a:Pos}:((mk (k+1)).ev cx (.UnaryOp .USub (.Constant (.int i) m a) p)).f s=.ok (.d (.int (-i))) s:=rfl
theorem Aw {c:Bool}(h:((mk k).ts cx t).f s=.ok c s1) (d:c=Vn->((mk k).ev cx a).f s1=.ok v s2) (e:c=Vo->((mk k).ev cx b).f s1=.ok v s2):((mk (k+1)).ev cx (.IfExp t a b p)).f s=.ok v s2:=aK h (by cases c with
 | true=>exact d rfl
 | false=>exact e rfl)
theorem Hv (h:((mk k).ts cx t).f s=.ok Vn s1) (c:((mk k).ev cx a).f s1=.ok v s2):((mk (k+1)).ev cx (.IfExp t a b p)).f s=.ok v s2:=aK h c
theorem Hw (h:((mk k).ts cx t).f s=.ok Vo s1) (c:((mk k).ev cx b).f s1=.ok v s2):((mk (k+1)).ev cx (.IfExp t a b p)).f s=.ok v s2:=aK h c
theorem aL {g:∀e,Ev k cx e}:bM g [] s=.ok [] s:=rfl
theorem aI {g:∀e,Ev k cx e}{vs:List V}(b:bb e=Vm) (a:(g e).f s=.ok v s1) (c:bM g es s1=.ok vs s2):bM g (e::es) s=.ok (v::vs) s2:=by
 show Mine.Internal.optE (bb e) _ _=_;rw[b];exact aK a (aK c rfl)
theorem ug {g:∀e,Ev k cx e}{vs:List V}(c:bb e=Vl a) (b:(g a).f s=.ok v s1) (d:v7 v=Vl vs):bM g [e] s=.ok vs s1:=by
 show Mine.Internal.optE (bb e) _ _=_;rw[c];exact aK b (fU d)
noncomputable def Fi (vs:List V):Option D:=(ej vs).bind λds=>if ds.length<=1000 then Vl (.lst ds) else Vm
theorem mM {vs:List V}(b:aO es=Vn) (a:bM ((mk k).ev cx) es s=.ok vs s1) (c:Fi vs=Vl d):((mk (k+1)).ev cx (.List es p)).f s=.ok (.d d) s1:=(if_pos b).trans (aK a (hE c))
theorem oo {m:Nat}{vs:List V}(b:aO es=Vn) (a:bM ((mk k).ev cx) es s=.ok vs s1) (c:xU vs=Vl v):((mk (k+1)).ev cx (.Tuple es m p)).f s=.ok v s1:=(if_pos b).trans (aK a (fU c))
theorem mX {g:List (Str×V)}{e:List SObj}{op:PQ}{c:Bool}(h:BF (mk k) cx op b=(mk k).ev cx b) (m:On op b=Vo) (j:((mk k).ev cx a).f s=.ok v s1) (i:((mk k).ev cx b).f s1=.ok u ⟨g,e⟩) (l:bV e op v u=Vl c):((mk (k+1)).ev cx (.Compare a [op] [b] p)).f s=.ok (.d (.bool c)) ⟨g,e⟩:=by
 show (tN op ((mk k).ev cx a) (BF (mk k) cx op b) s).bind _=_;rw[h];exact aK ((if_pos m).trans (aK j (aK i (fU (by rw[l];rfl))))) rfl
theorem JQ {g:List (Str×V)}{e:List SObj}{op:PQ}{c:Bool}(h:BF (mk k) cx op b=ek (mk k) cx b) (m:On op b=Vo) (j:((mk k).ev cx a).f s=.ok v s1) (i:(ek (mk k) cx b).f s1=.ok u ⟨g,e⟩) (l:bV e op v u=Vl c):((mk (k+1)).ev cx (.Compare a [op] [b] p)).f s=.ok (.d (.bool c)) ⟨g,e⟩:=by
 show (tN op ((mk k).ev cx a) (BF (mk k) cx op b) s).bind _=_;rw[h];exact aK ((if_pos m).trans (aK j (aK i (fU (by rw[l];rfl))))) rfl
theorem eJ {F1:List (Str×V)}{T1:List SObj}{m:Str}(c:hF e=Vn) (a:(ek (mk k) cx e).f s=.ok v ⟨F1,T1⟩) (b:cG T1 v m=Vl u):((mk (k+1)).ev cx (.Attribute e m p)).f s=.ok u ⟨F1,T1⟩:=(if_pos c).trans (aK a (fU b))
theorem yM:C2 (mk k) cx Vm s=.ok Vm s:=rfl
theorem E2 (h:((mk k).ev cx e).f s=.ok (.d d) s1):C2 (mk k) cx (Vl e) s=.ok (Vl d) s1:=aK h rfl
theorem C5 {a b t:Option Kb}{c g h:Option D}(l:(ek (mk k) cx e).f s=.ok v s1) (i:C2 (mk k) cx a s1=.ok c s2) (n:C2 (mk k) cx b s2=.ok g s3) (j:C2 (mk k) cx t s3=.ok h s4) (m:fN s4.st v c g h=Vl d):((mk (k+1)).ev cx (.Subscript e (.Slice a b t p) pos)).f s=.ok (.d d) s4:=aK l (aK i (aK n (aK j (hE m))))
theorem gz {b:List (Str×V)}{a:List SObj}{i:Kb}(h:I1 (mk k) cx (.Subscript e i pos)=zF (mk k) e i pos) (d:(ek (mk k) cx e).f s=.ok v s1) (c:((mk k).ev cx i).f s1=.ok u ⟨b,a⟩) (g:bE v u a=Vl w):((mk (k+1)).ev cx (.Subscript e i pos)).f s=.ok w ⟨b,a⟩:=by
 show (I1 (mk k) cx (.Subscript e i pos)).f s=_;rw[h];exact aK d (aK c (fU g))
theorem mL {F1:List (Str×V)}{T1:List SObj}(a:cx.comp=Vo/\bC (cx.names.lookup n)=Vn) (h:((mk k).ev cx e).f s=.ok v ⟨F1,T1⟩):((mk (k+1)).ev cx (.NamedExpr (.Name n p) e pos)).f s=.ok v ⟨aY n v F1,T1⟩:=(if_pos a).trans (aK h rfl)
theorem tX {op:PS}(h:((mk k).ev cx e).f s=.ok v s1):lj (cx:=cx) (mk k) op [e] s=.ok v s1:=h
theorem AZ {F1:List (Str×V)}{T1:List SObj}{op:PS}{a:Kb}{c:Bool}(d:((mk k).ev cx e).f s=.ok v ⟨F1,T1⟩) (b:cc T1 v=Vl c) (h:js op c=Vn) (g:lj (cx:=cx) (mk k) op (a::es) ⟨F1,T1⟩=.ok u s2):lj (cx:=cx) (mk k) op (e::a::es) s=.ok u s2:=aK d (aK (fU b) (by rw[h];exact g))
theorem Ja {F1:List (Str×V)}{T1:List SObj}{op:PS}{g:Kb}{c:Bool}(a:((mk k).ev cx e).f s=.ok v ⟨F1,T1⟩) (d:cc T1 v=Vl c) (b:js op c=Vo):lj (cx:=cx) (mk k) op (e::g::es) s=.ok v ⟨F1,T1⟩:=aK a (aK (fU d) (by rw[b];rfl))
theorem mY {op:PS}(h:lj (cx:=cx) (mk k) op es s=.ok v s1):((mk (k+1)).ev cx (.BoolOp op es p)).f s=.ok v s1:=h
theorem FP {t:Str}{m:Nat}{a:Pos}(hz:t.cps.size<=1000):((mk (k+1)).ev cx (.JoinedStr [.Constant (.str t) m a] p)).f s=.ok (.d (.str t)) s:=if_pos hz
section
variable {f:Str}{args:List Kb}{vs:List V}
theorem dH (hs:gL (mk k) cx f p args pos=kg (mk k) f p args pos) (a:aO args=Vn) (b:ia cx f=Vl d) (h:ow (mk k) cx args (.d d) s=.ok v s1):((mk (k+1)).ev cx (.Call (.Name f p) args [] pos)).f s=.ok v s1:=by
 show (gL (mk k) cx f p args pos).f s=_;rw[hs];exact (if_pos a).trans (aK (fK b) h)
theorem Ay {c:Addr}(e:ke.contains c=Vn/\cx.inH=Vo) (g:(c==244)=Vo) (b:bM ((mk k).ev cx) args s=.ok vs s1) (f:eW (mk k) c vs s1=.ok v s2):ow (mk k) cx args (.d (.gbl c)) s=.ok v s2:=by
 refine (if_pos e).trans (aK (s1:=s1) (a:=vs) ?_ f);rw[g];exact b
noncomputable def EW (b:Bi):Bool:=!(b.eq .set)&&!(b.eq .iter)
theorem rC {F1:List (Str×V)}{T1:List SObj}{c:Bi}(a:EW c=Vn) (hh:(!cx.inH||c.eq .isinstance)=Vn) (g:bM (ek (mk k) cx) args s=.ok vs ⟨F1,T1⟩) (f:bI T1 c vs=Vl d):ow (mk k) cx args (.d (.bi c)) s=.ok (.d d) ⟨F1,T1⟩:=by
 obtain ⟨e,b⟩:=Kk.mp a;show ox (mk k) cx c args s=_;unfold ox;rw[(KL _).mp e];refine aK g ?_;unfold p0;rw[(KL _).mp b];exact (if_pos ((Mh.mp hh).imp (λq=>(KL _).mp q) id)).trans (hE f)
theorem aT {o:Kb}{m:Str}{ap:Pos}(h0:hF o=Vn/\aO args=Vn/\(ap.endLine==p.line)=Vn) (a:args.length<29) (b:(ek (mk k) cx o).f s=.ok v s1) (c:gI (mk k) cx m args v s1=.ok u s2):((mk (k+1)).ev cx (.Call (.Attribute o m ap) args [] p)).f s=.ok u s2:=(if_pos (w4 h0.1 h0.2.1 h0.2.2 a)).trans (aK b c)
theorem aS {b F1:List (Str×V)}{a T1:List SObj}{m:Str}{bm:BM}{st':List SObj}(e:cZ a v m=Vm) (c:hS a v m=Vl bm) (g:cD args=Vn) (d:bM ((mk k).ev cx) args ⟨b,a⟩=.ok vs ⟨F1,T1⟩) (f:iW T1 bm v vs=Vl (u,st')):gI (mk k) cx m args v ⟨b,a⟩=.ok u ⟨F1,st'⟩:=by
 unfold gI;rw[e,c];refine (if_pos g).trans (aK d ?_);unfold GO;rw[f];rfl
theorem cF {b:List (Str×V)}{a:List SObj}{m:Str}{c:Addr}(e:cZ a v m=Vl c) (hh:cx.inH=Vo) (d:bM ((mk k).ev cx) args ⟨b,a⟩=.ok vs s1) (f:eW (mk k) c (v::vs) s1=.ok u s2):gI (mk k) cx m args v ⟨b,a⟩=.ok u s2:=by
 unfold gI;rw[e];exact (if_pos hh).trans (aK d f)
end
section
variable {c c':Bool}{α:Type}
theorem DE (h:((mk k).ts cx t).f s=.ok c s1):((mk (k+1)).ts cx (.UnaryOp .Not t p)).f s=.ok (!c) s1:=aK h rfl
theorem Bj:rV ((mk k).ts cx) [] s=.ok Vn s:=rfl
theorem vI (h:((mk k).ts cx e).f s=.ok Vn s1) (a:rV ((mk k).ts cx) es s1=.ok c s2):rV ((mk k).ts cx) (e::es) s=.ok c s2:=aK h a
theorem Bh (h:((mk k).ts cx e).f s=.ok Vo s1):rV ((mk k).ts cx) (e::es) s=.ok Vo s1:=aK h rfl
theorem ma:DL ((mk k).ts cx) [] s=.ok Vo s:=rfl
theorem gH (h:((mk k).ts cx e).f s=.ok Vo s1) (a:DL ((mk k).ts cx) es s1=.ok c s2):DL ((mk k).ts cx) (e::es) s=.ok c s2:=aK h a
theorem IL (h:((mk k).ts cx e).f s=.ok Vn s1):DL ((mk k).ts cx) (e::es) s=.ok Vn s1:=aK h rfl
theorem uw (h:rV ((mk k).ts cx) es s=.ok c s1):((mk (k+1)).ts cx (.BoolOp .And es p)).f s=.ok c s1:=h
theorem x6 (h:DL ((mk k).ts cx) es s=.ok c s1):((mk (k+1)).ts cx (.BoolOp .Or es p)).f s=.ok c s1:=h
theorem GB (h:((mk k).ts cx t).f s=.ok Vn s1) (d:((mk k).ts cx a).f s1=.ok c s2):((mk (k+1)).ts cx (.IfExp t a b p)).f s=.ok c s2:=aK h d
theorem GC (h:((mk k).ts cx t).f s=.ok Vo s1) (d:((mk k).ts cx b).f s1=.ok c s2):((mk (k+1)).ts cx (.IfExp t a b p)).f s=.ok c s2:=aK h d
theorem cU {e:List (Str×V)}{d:List SObj}{op:PQ}(g:BF (mk k) cx op b=(mk k).ev cx b) (l:On op b=Vo) (i:((mk k).ev cx a).f s=.ok v s1) (h:((mk k).ev cx b).f s1=.ok u ⟨e,d⟩) (j:bV d op v u=Vl c):((mk (k+1)).ts cx (.Compare a [op] [b] p)).f s=.ok c ⟨e,d⟩:=by
 show (tN op ((mk k).ev cx a) (BF (mk k) cx op b) s).bind _=_;rw[g];exact aK ((if_pos l).trans (aK i (aK h (fU (by rw[j];rfl))))) rfl
theorem BT {e:List (Str×V)}{d:List SObj}{op:PQ}(g:BF (mk k) cx op b=ek (mk k) cx b) (l:On op b=Vo) (i:((mk k).ev cx a).f s=.ok v s1) (h:(ek (mk k) cx b).f s1=.ok u ⟨e,d⟩) (j:bV d op v u=Vl c):((mk (k+1)).ts cx (.Compare a [op] [b] p)).f s=.ok c ⟨e,d⟩:=by
 show (tN op ((mk k).ev cx a) (BF (mk k) cx op b) s).bind _=_;rw[g];exact aK ((if_pos l).trans (aK i (aK h (fU (by rw[j];rfl))))) rfl
theorem si {b:Bool}{m:Nat}:((mk (k+1)).ts cx (.Constant (.bool b) m p)).f s=.ok b s:=rfl
theorem jd {F1:List (Str×V)}{T1:List SObj}(a:(ek (mk k) cx (.Name n p)).f s=.ok v ⟨F1,T1⟩) (b:cc T1 v=Vl c):((mk (k+1)).ts cx (.Name n p)).f s=.ok c ⟨F1,T1⟩:=aK a (fU b)
theorem je {F1:List (Str×V)}{T1:List SObj}{a:List Keyword}(b:((mk k).ev cx (.Call e es a p)).f s=.ok v ⟨F1,T1⟩) (d:cc T1 v=Vl c):((mk (k+1)).ts cx (.Call e es a p)).f s=.ok c ⟨F1,T1⟩:=aK b (fU d)
theorem IB {F1:List (Str×V)}{T1:List SObj}(a:(ek (mk k) cx (.Attribute e n p)).f s=.ok v ⟨F1,T1⟩) (b:cc T1 v=Vl c):((mk (k+1)).ts cx (.Attribute e n p)).f s=.ok c ⟨F1,T1⟩:=aK a (fU b)
theorem Jl {F1:List (Str×V)}{T1:List SObj}(b:((mk k).ev cx (.Subscript e a p)).f s=.ok v ⟨F1,T1⟩) (d:cc T1 v=Vl c):((mk (k+1)).ts cx (.Subscript e a p)).f s=.ok c ⟨F1,T1⟩:=aK b (fU d)
end
end
section
variable {k:Nat}{cx:Cx}{s s1 s2 s3:St}{n:Str}{p pos:Pos}{Q:Fl->St->Prop}{E:D->List D->St->Prop}{v u ov:V}{d:D}{l:Nat}{e a b t o i:Kb}{es:List Kb}{st:Stmt}{ss body els:List Stmt}
theorem aG (q:Q .next s):W (((mk (k+1)).xs cx []).f s) Q E:=q
theorem Io (h:W ((xy (mk k) cx st).f s) (λf s=>W (cH f s ((mk k).xs cx ss).f) Q E) E):W (((mk (k+1)).xs cx (st::ss)).f s) Q E:=W.bind h
theorem ko (h:(xy (mk k) cx st).f s=.ok .next s1) (q:W (((mk k).xs cx ss).f s1) Q E):W (((mk (k+1)).xs cx (st::ss)).f s) Q E:=W.bind (W.of h q)
theorem bT {F1:List (Str×V)}{T1:List SObj}(b:xy (mk k) cx (.Assign [.Name n p] e pos)=lH ((mk k).ev cx e) n p pos) (a:hX e=Vo/\bC (cx.names.lookup n)=Vn) (h:((mk k).ev cx e).f s=.ok v ⟨F1,T1⟩) (q:W (((mk k).xs cx ss).f ⟨aY n v F1,T1⟩) Q E):W (((mk (k+1)).xs cx (.Assign [.Name n p] e pos::ss)).f s) Q E:=ko (by rw[b];exact (if_pos a).trans (aK h rfl)) q
theorem ee {F1:List (Str×V)}{T1:List SObj}(b:xy (mk k) cx (.Assign [.Name n p] e pos)=lH (wO (mk k) cx e) n p pos) (a:hX e=Vo/\bC (cx.names.lookup n)=Vn) (h:(wO (mk k) cx e).f s=.ok v ⟨F1,T1⟩) (q:W (((mk k).xs cx ss).f ⟨aY n v F1,T1⟩) Q E):W (((mk (k+1)).xs cx (.Assign [.Name n p] e pos::ss)).f s) Q E:=ko (by rw[b];exact (if_pos a).trans (aK h rfl)) q
theorem cb (a:hX e=Vo) (h:((mk k).ev cx e).f s=.ok v s1) (q:W (((mk k).xs cx ss).f s1) Q E):W (((mk (k+1)).xs cx (.Expr e p::ss)).f s) Q E:=ko ((if_pos a).trans (aK h rfl)) q
theorem cg (h:((mk k).ev cx e).f s=.ok v s1) (q:Q (.ret v) s1):W (((mk (k+1)).xs cx (.Return (Vl e) p::ss)).f s) Q E:=W.bind (W.bind (W.of h q))
theorem ul {F1:List (Str×V)}{T1:List SObj}{ts:List Kb}{m:Nat}{a:List (Str×V)}(b:hX e=Vo/\jq e=Vo/\cx.inH=Vo) (h:((mk k).ev cx e).f s=.ok v ⟨F1,T1⟩) (c:dB cx (.Tuple ts m p) v=Vl a) (q:W (((mk k).xs cx ss).f ⟨eF a F1,T1⟩) Q E):W (((mk (k+1)).xs cx (.Assign [.Tuple ts m p] e pos::ss)).f s) Q E:=ko ((if_pos b).trans (aK h (aK (fU c) rfl))) q
theorem ir {fr:List (Str×V)}{x:Option (List SObj)}{st:List SObj}(h:x=Vl st):jD fr x=.ok () ⟨fr,st⟩:=by rw[h];rfl
theorem fM {a:List (Str×V)}{b:List SObj}{m:Str}{st':List SObj}(d:(wO (mk k) cx e).f s=.ok v s1) (c:(ek (mk k) cx o).f s1=.ok ov ⟨a,b⟩) (g:cN b ov m v=Vl st') (q:W (((mk k).xs cx ss).f ⟨a,st'⟩) Q E):W (((mk (k+1)).xs cx (.Assign [.Attribute o m p] e pos::ss)).f s) Q E:=ko (aK d (aK c (aK (ir g) rfl))) q
theorem xE {a:List (Str×V)}{b:List SObj}{j:Int}{st':List SObj}(c:hX e=Vo) (l:((mk k).ev cx e).f s=.ok v s1) (g:(ek (mk k) cx o).f s1=.ok ov s2) (m:((mk k).ev cx i).f s2=.ok (.d (.int j)) ⟨a,b⟩) (h:eD b ov j v=Vl st') (q:W (((mk k).xs cx ss).f ⟨a,st'⟩) Q E):W (((mk (k+1)).xs cx (.Assign [.Subscript o i p] e pos::ss)).f s) Q E:=ko ((if_pos c).trans (aK l (aK g (aK m (aK (ir h) rfl))))) q
theorem un {F1 b:List (Str×V)}{T1 c:List SObj}{m:Str}{op:Nw}{old:V}{a:D}{st':List SObj}(i:(ek (mk k) cx o).f s=.ok ov ⟨F1,T1⟩) (g:cG T1 ov m=Vl old) (l:((mk k).ev cx e).f ⟨F1,T1⟩=.ok v ⟨b,c⟩) (h:Dn op old v=Vl a) (j:cN c ov m (.d a)=Vl st') (q:W (((mk k).xs cx ss).f ⟨b,st'⟩) Q E):W (((mk (k+1)).xs cx (.AugAssign (.Attribute o m p) op e pos::ss)).f s) Q E:=ko (aK i (aK (fU g) (aK l (aK (hE h) (aK (ir j) rfl))))) q
theorem Eo {F1 b:List (Str×V)}{T1 c:List SObj}{j:Int}{m:Nat}{i:Pos}{op:Nw}{old a:D}{st':List SObj}(l:(ek (mk k) cx o).f s=.ok ov ⟨F1,T1⟩) (g:qZ T1 ov j=Vl old) (r:((mk k).ev cx e).f ⟨F1,T1⟩=.ok v ⟨b,c⟩) (h:Dn op (.d old) v=Vl a) (n:eD c ov j (.d a)=Vl st') (q:W (((mk k).xs cx ss).f ⟨b,st'⟩) Q E):W (((mk (k+1)).xs cx (.AugAssign (.Subscript o (.Constant (.int j) m i) p) op e pos::ss)).f s) Q E:=ko (aK l (aK (hE g) (aK r (aK (hE h) (aK (ir n) rfl))))) q
theorem qd {c:Bool}(h:((mk k).ts cx t).f s=.ok c s1) (a:c=Vn->W (((mk k).xs cx body).f s1) (λf s=>W (cH f s ((mk k).xs cx ss).f) Q E) E) (b:c=Vo->W (((mk k).xs cx els).f s1) (λf s=>W (cH f s ((mk k).xs cx ss).f) Q E) E):W (((mk (k+1)).xs cx (.If t body els p::ss)).f s) Q E:=W.bind (W.bind (W.of h (W.cond a b)))
theorem lJ (h:((mk k).ts cx t).f s=.ok Vn s1) (a:W (((mk k).xs cx body).f s1) (λf s=>W (cH f s ((mk k).xs cx ss).f) Q E) E):W (((mk (k+1)).xs cx (.If t body els p::ss)).f s) Q E:=W.bind (W.bind (W.of h a))
theorem dN (h:((mk k).ts cx t).f s=.ok Vo s1) (a:W (((mk k).xs cx els).f s1) (λf s=>W (cH f s ((mk k).xs cx ss).f) Q E) E):W (((mk (k+1)).xs cx (.If t body els p::ss)).f s) Q E:=W.bind (W.bind (W.of h a))
theorem qe {m:Option Kb}(h:((mk k).ts cx t).f s=.ok Vn s1) (q:W (((mk k).xs cx ss).f s1) Q E):W (((mk (k+1)).xs cx (.Assert t m p::ss)).f s) Q E:=ko (aK h rfl) q
end
end
section
set_option linter.all false
def AF (Q:Fl->St->Prop) (I:St->Prop) (f:Fl) (s:St):Prop:=Fl.casesOn f (I s) (Q .next s) (I s) λv=>Q (.ret v) s
def rX (st:List SObj) (v:V) (K:List V->List SObj->Prop):Prop:=∃q,cS st v=Vl q/\K q.1 q.2
section
variable {k:Nat}{cx:Cx}{s:St}{Q:Fl->St->Prop}{E:D->List D->St->Prop}{t it e:Kb}{body els:List Stmt}{p pos:Pos}
theorem W.after {I:St->Prop}{g:St->Res Fl}{f:Fl}(a:∀s,I s->W (g s) Q E) (h:AF Q I f s):W (p8 f s g) Q E:=by
 cases f with
 | next=>exact a s h
 | brk=>exact h
 | cont=>exact a s h
 | ret v=>exact h
theorem oI {I:Nat->St->Prop}:∀{vs:List V}{s:St}(a:Nat),I a s->(∀i v s,vs[i]?=Vl v->I (a+i) s->∃c,dB cx t v=Vl c/\W (((mk k).xs cx body).f ⟨eF c s.fr,s.st⟩) (AF Q (I (a+i+1))) E)->(∀s,I (a+vs.length) s->W (((mk k).xs cx els).f s) Q E)->W (iS (mk k) cx t body els vs s) Q E:=@lr _ _ (@λs a d _ b=>b s d) (λv vs j=>(@λs a d step b=>by
  obtain ⟨c,g,m⟩:=step 0 v s rfl d;refine W.bind (W.opt ⟨c,g,W.bind (m.imp λf n h=>W.after (I:=I (a+0+1)) (λs2 l=>?_) h)⟩);refine j (a+1) l (λi v s e h=>?_) λs h=>b s (by rw[Ls,show a+(vs.length+1)=a+1+vs.length by lia];exact h);have:=step (i+1) v s e (by rw[show a+(i+1)=a+1+i by lia];exact h);rw[show a+(i+1)=a+1+i by lia] at this;exact this))
theorem ed {F1:List (Str×V)}{T1:List SObj}{a:List Stmt}{v:V}(b:xy (mk k) cx (.For t it body els pos)=FC (mk k) t it body els pos) (c:cx.comp=Vo/\cx.inH=Vo/\pC it=Vo) (h:(ek (mk k) cx it).f s=.ok v ⟨F1,T1⟩) (q:rX T1 v λvs st=>W (iS (mk k) cx t body els vs ⟨F1,st⟩) (λf s=>W (cH f s ((mk k).xs cx a).f) Q E) E):W (((mk (k+1)).xs cx (.For t it body els pos::a)).f s) Q E:=by
 refine W.bind ?_;rw[b];exact W.ite c (W.bind (W.of h (W.optE (q.elim λq h=>⟨q,h⟩))))
theorem xM {T:Ts k cx t}{I:Nat->St->Prop}:∀{n j:Nat}{s:St},j<n->I j s->(∀j s,I j s->W (T.f s) (λb s=>(b=Vn->W (((mk k).xs cx body).f s) (AF Q (λs=>∃a,a<j/\I a s)) E)/\(b=Vo->W (((mk k).xs cx els).f s) Q E)) E)->W (oG T (mk k) body els n s) Q E:=@nr _ (@λ_ _ h _ _=>absurd h (L5 _)) (λn c=>(@λj s g e step=>W.bind ((step j s e).imp λb s h=>W.cond (λq=>W.bind ((h.1 q).imp λf s h=>W.after (λs ⟨a,i,d⟩=>c (by lia) d step) h)) h.2)))
theorem uk {a:List Stmt}(I:Nat->St->Prop) (j:Nat) (e:cx.comp=Vo) (d:j<1000000) (h0:I j s) (step:∀j s,I j s->∃b s1,((mk k).ts cx t).f s=.ok b s1/\(b=Vn->W (((mk k).xs cx body).f s1) (AF (λf s=>W (cH f s ((mk k).xs cx a).f) Q E) (λs=>∃c,c<j/\I c s)) E)/\(b=Vo->W (((mk k).xs cx els).f s1) (λf s=>W (cH f s ((mk k).xs cx a).f) Q E) E)):W (((mk (k+1)).xs cx (.While t body els pos::a)).f s) Q E:=W.bind (W.ite e (xM d h0 λj s h=>(step j s h).elim λb h=>h.elim λs1 h=>W.of h.1 h.2))
end
section
variable {k:Nat}{cx:Cx}{s:St}{Q:V->St->Prop}{E:D->List D->St->Prop}{t it elt:Kb}{ifs:List Kb}{scope:OI}{p pos:Pos}
def jx (k:Nat) (cx:Cx) (t elt:Kb) (ifs:List Kb) (oF:List (Str×V)) (st:List SObj) (v:V) (o:Option D):Prop:=∃a,dB cx t v=Vl a/\W (jC (mk k) cx ifs ⟨eF a oF,st⟩) (λb s=>(b=Vn->W (((mk k).ev cx elt).f s) (λu s=>s.st=st/\∃d,u=.d d/\o=Vl d) noE)/\(b=Vo->s.st=st/\o=Vm)) noE
def kl (k:Nat) (a:Cx) (t elt:Kb) (ifs:List Kb) (oF:List (Str×V)) (st:List SObj) (v:V) (K:List D->List SObj->Prop):Prop:=∃vs st',cS st v=Vl (vs,st')/\vs.length<=100000/\∃g,(∀v∈vs,jx k a t elt ifs oF st' v (g v))/\K (vs.filterMap g) st'
theorem BP {oF:List (Str×V)}{st:List SObj}{g:V->Option D}:∀{vs:List V}{acc:List D},(∀v∈vs,jx k cx t elt ifs oF st v (g v))->ez (mk k) cx t elt ifs oF vs acc st=.ok (acc++vs.filterMap g) ⟨[],st⟩:=@lr _ _ (@λacc _=>by rw[Sk,LC];rfl) (λv vs m=>(@λacc h=>by
  refine aC λj a=>?_;obtain ⟨s,o,q⟩:=h v (.head _);obtain ⟨b,n,r,l⟩:=q.get;refine a ?_;show optE (dB cx t v) _ _=_;rw[o];show iX (jC _ _ _ _) _=_;rw[r];show cond b _ _=_;rw[KX];cases b with
  | true=>
   refine aC λj a=>?_;obtain ⟨u,s2,p,i,d,rfl,c⟩:=(l.1 rfl).get;refine a ?_;show iX (((mk k).ev cx elt).f n) _=_;rw[p,c];show ez (mk k) cx t elt ifs oF vs (acc++[d]) s2.st=_;rw[i,m λv e=>h v (.tail _ e),KT];rfl
  | false=>
   refine aC λj a=>?_;obtain ⟨i,c⟩:=l.2 rfl;refine a ?_;rw[c];show ez (mk k) cx t elt ifs oF vs acc n.st=_;rw[i];exact m λv e=>h v (.tail _ e)))
theorem rA {F1:List (Str×V)}{T1:List SObj}{R:List D->List SObj->Prop}{v:V}(j:dM cx it ifs scope) (h:((mk k).ev cx it).f s=.ok v ⟨F1,T1⟩) (c:kl k (dW cx scope) t elt ifs (ef scope.names F1) T1 v R):∃ds st',(fO (cx:=cx) (mk k) elt t it ifs scope pos).f s=.ok ds ⟨F1,st'⟩/\R ds st':=by
 have:(fO (cx:=cx) (mk k) elt t it ifs scope pos).f s=if dM cx it ifs scope then (((mk k).ev cx it).f s).bind λv s=>(li (cx:=cx) (mk k) elt t ifs scope v s).bind .ok else .bad:=rfl
 refine aC λm a=>?_;obtain ⟨n,b,d,l,g,e,i⟩:=c;refine a ?_;refine y2 _ b ⟨?_,i⟩;rw[this,if_pos j];refine aK h (aK (s1:=⟨F1,b⟩) ?_ rfl);unfold li;rw[d];show (if _ then _ else _)=_;rw[if_pos l,BP e];rfl
theorem Az {F1:List (Str×V)}{T1:List SObj}{R:List D->List SObj->Prop}{v:V}(a:dM cx it ifs scope) (h:((mk k).ev cx it).f s=.ok v ⟨F1,T1⟩) (b:kl k (dW cx scope) t elt ifs (ef scope.names F1) T1 v R):∃ds st',((mk (k+1)).ev cx (.ListComp elt [⟨t,it,ifs,0⟩] scope pos)).f s=.ok (.d (.lst ds)) ⟨F1,st'⟩/\R ds st':=by
 obtain ⟨ds,st',e,c⟩:=rA (pos:=pos) a h b;exact y2 ds st' ⟨aK e rfl,c⟩
theorem jc {F1:List (Str×V)}{T1:List SObj}{n:Str}{Q:Fl->St->Prop}{a:Pos}{b:List Stmt}{v:V}(hn:bC (cx.names.lookup n)=Vn) (i:dM cx it ifs scope) (h:((mk k).ev cx it).f s=.ok v ⟨F1,T1⟩) (q:kl k (dW cx scope) t elt ifs (ef scope.names F1) T1 v λds st=>W (((mk k).xs cx b).f ⟨aY n (.d (.lst ds)) F1,st⟩) Q E):W (((mk (k+1)).xs cx (.Assign [.Name n p] (.ListComp elt [⟨t,it,ifs,0⟩] scope pos) a::b)).f s) Q E:=by
 obtain ⟨ds,g,e,c⟩:=rA (pos:=pos) i h q;exact ko ((if_pos hn).trans (aK e rfl)) c
theorem iH {st:St}{Q:Bool->St->Prop}(q:Q Vn st):W (jC (mk k) cx [] st) Q E:=q
theorem lB {e:Kb}{st:St}{Q:Bool->St->Prop}(h:W (((mk k).ts cx e).f st) Q E):W (jC (mk k) cx [e] st) Q E:=h
end
end
section
set_option linter.all false
section
variable {st:List SObj}{i j:Int}{l l':List D}{d e:D}{m:Nat}{s t:Str}{b c:Bool}{n:Nat}{kvs:List (Int×D)}
theorem Ig {α:Type}{o:Option α}{K:α->Prop}{a:α}(h:o=Vl a) (k:K a):∃a,o=Vl a/\K a:=⟨a,h,k⟩
theorem JP {v:V}{K:D->Prop}{a:D}(h:v=.d a) (k:K a):∃a,v=.d a/\K a:=⟨a,h,k⟩
theorem HM:jv .Add (.d (.int i)) (.d (.int j))=Vl (.int (i+j)):=rfl
theorem Jv:jv .Sub (.d (.int i)) (.d (.int j))=Vl (.int (i-j)):=rfl
theorem Ec (h:cM i/\cM j):jv .Mult (.d (.int i)) (.d (.int j))=Vl (.int (i*j)):=by
 show Kf (if _ then _ else _) _=_;rw[if_pos h];rfl
theorem Jx (h:j≠0/\j.natAbs<1000000):jv .FloorDiv (.d (.int i)) (.d (.int j))=Vl (.int (Ll i j)):=if_pos h
theorem Jw (h:j≠0):jv .Mod (.d (.int i)) (.d (.int j))=Vl (.int (Lk i j)):=if_pos h
theorem Ed (h:0<=i/\0<=j):jv .BitAnd (.d (.int i)) (.d (.int j))=Vl (.int ((i.toNat&&& j.toNat:Nat):Int)):=if_pos h
theorem rU (h:l.length+l'.length<=100000):jv .Add (.d (.lst l)) (.d (.lst l'))=Vl (.lst (l++l')):=by
 show Kf Vm (Kf Vm (if _ then _ else _))=_;rw[if_pos h];rfl
theorem Ba (h:s.cps.size+t.cps.size<=1000):jv .Add (.d (.str s)) (.d (.str t))=Vl (.str (s++t)):=by
 show Kf Vm (Kf (if _ then _ else _) _)=_;rw[if_pos h];rfl
theorem kK:bV st .Eq (.d (.int i)) (.d (.int j))=Vl (i==j):=rfl
theorem JR:bV st .NotEq (.d (.int i)) (.d (.int j))=Vl (!(i==j)):=rfl
theorem JS:bV st .Lt (.d (.int i)) (.d (.int j))=Vl (decide (i<j)):=rfl
theorem I8:bV st .Gt (.d (.int i)) (.d (.int j))=Vl (decide (j<i)):=rfl
theorem JT:bV st .GtE (.d (.int i)) (.d (.int j))=Vl (decide (j<=i)):=rfl
theorem p5 (h:n<m):ki m (n:Int)=Vl n:=by
 unfold ki;rw[if_pos (Ly n),if_pos (by simpa using h)];simp
theorem kX (h:ki l.length i=Vl m) (k:l[m]?=Vl d):bE (.d (.lst l)) (.d (.int i)) st=Vl (.d d):=by
 show (Kf ((Kf (Lj (Vl l) λl=>(ki l.length i).bind λk=>l[k]?) _).map V.d) _)=_;show (Kf ((Kf ((ki l.length i).bind λk=>l[k]?) _).map V.d) _)=_;rw[h];show (Kf ((Kf (l[m]?) _).map V.d) _)=_;rw[k];rfl
theorem zI (h:ki l.length i=Vl m) (k:l[m]?=Vl d):bE (.d (.tup l)) (.d (.int i)) st=Vl (.d d):=by
 show (Kf ((Kf Vm (Kf Vm (Kf ((ki l.length i).bind λk=>l[k]?) _))).map V.d) _)=_;rw[h];show (Kf ((Kf Vm (Kf Vm (Kf (l[m]?) _))).map V.d) _)=_;rw[k];rfl
theorem zJ (k:l[m]?=Vl d):bE (.d (.lst l)) (.d (.int (m:Int))) st=Vl (.d d):=kX (p5 (Kd.mp k).1) k
theorem Fu (k:l[m]?=Vl d):bE (.d (.tup l)) (.d (.int (m:Int))) st=Vl (.d d):=zI (p5 (Kd.mp k).1) k
theorem Ha {q:Nat}(e:st[q]?=Vl (.list l)) (h:ki l.length i=Vl m) (k:l[m]?=Vl d):bE (.loc q) (.d (.int i)) st=Vl (.d d):=by
 have a:(V.loc q).ls? st=Vl l:=by
  show Kf Vm ((st[q]?).bind SObj.list?)=_;rw[e];rfl
 show (Kf ((Kf (((V.loc q).ls? st).bind λl=>(ki l.length i).bind λk=>l[k]?) _).map V.d) _)=_;rw[a];show (Kf ((Kf ((ki l.length i).bind λk=>l[k]?) _).map V.d) _)=_;rw[h];show (Kf ((Kf (l[m]?) _).map V.d) _)=_;rw[k];rfl
theorem H8 (h:0<=i):fN st (.d (.lst l)) Vm (Vl (.int i)) Vm=Vl (.lst (l.take i.toNat)):=by
 show Kf ((if _ then _ else _:Option (List D)).map D.lst) _=_;rw[if_pos h];rfl
theorem H9 (h:j≠0):fN st (.d (.lst l)) (Vl (.int i)) Vm (Vl (.int j))=Vl (.lst (gi i j l)):=by
 show Kf ((if _ then _ else _:Option (List D)).map D.lst) _=_;rw[if_pos h];rfl
theorem Ia (h:0<=i):fN st (.d (.lst l)) (Vl (.int i)) Vm Vm=Vl (.lst (l.drop i.toNat)):=by
 show Kf ((if _ then _ else _:Option (List D)).map D.lst) _=_;rw[if_pos h];rfl
theorem sp {α β:Type}(f:α->β) (k m:Int) (l:List α):gi k m (l.map f)=(gi k m l).map f:=by
 unfold gi;rw[Ka,Sg]
 congr 1
 funext i;rw[Ks]
theorem eh (l:List Int):cR (l.map .int)=Vl l:=by
 induction l with
 | nil=>rfl
 | cons a l b=>show KG _ (cR (l.map .int))=_;rw[b];rfl
theorem F4 {is:List Int}(h:cR l=Vl is):bI st .sum [.d (.lst l)]=Vl (.int is.sum):=by
 show (cR l).map _=_;rw[h];rfl
theorem HL:bI st .range [.d (.int i)]=Vl (.rng 0 i):=rfl
theorem Gk:bI st .range [.d (.int i),.d (.int j)]=Vl (.rng i j):=rfl
theorem A4:bI st .len [.d (.lst l)]=Vl (.int (l.length:Int)):=rfl
theorem Jr (h:l.length<=1000):∀{vs:List V},ej vs=Vl l->Fi vs=Vl (.lst l):=λ{vs} e=>by
 unfold Fi;rw[e];exact if_pos h
theorem Jq (h:l.length<=1000):∀{vs:List V},ej vs=Vl l->xU vs=Vl (.d (.tup l)):=λ{vs} e=>by
 unfold xU;rw[e];show Kf (if _ then _ else _) _=_;rw[if_pos h];rfl
end
section
variable {k:Nat}{a:Addr}{fd:FuncData}{vs us:List V}{st:List SObj}{Q:V->St->Prop}{E:D->List D->St->Prop}{fr:List (Str×V)}
def EF (Q:V->St->Prop) (f:Fl) (s:St):Prop:=Fl.casesOn f (Q (.d .non) ⟨[],s.st⟩) False False λv=>Q v ⟨[],s.st⟩
noncomputable def EX (a:Addr):Bool:=!(a==eu)&&(!(a==bJ)&&(!(a==bL)&&!(a==244)))
theorem bX (j:EX a=Vn) (l:zY a=Vl fd) (q:iY a fd vs=Vl us) (hn:((bx fd).length==us.length&&(bx fd).all λn=>bC (fd.scope.names.lookup n))=Vn) (d:eF ((bx fd).zip us) []=fr) (h:W (((mk k).xs (gP fd) (dA fd)).f ⟨fr,st⟩) (EF Q) λc as s=>E c as ⟨[],s.st⟩):W ((mk (k+1)).call a vs st) Q E:=by
 show W (rP (mk k) a vs st) Q E;refine aC λt b=>?_;obtain ⟨p,e⟩:=Kk.mp j;obtain ⟨e,g⟩:=Kk.mp e;obtain ⟨g,m⟩:=Kk.mp g;obtain ⟨o,r⟩:=Kk.mp hn;refine b ?_;unfold rP;rw[(KL _).mp p,(KL _).mp e,(KL _).mp g,(KL _).mp m,l];show W (nb (mk k) a fd vs st) Q E;unfold nb;rw[q];show W (if _ then _ else _) Q E;rw[if_pos ⟨beq_iff_eq.mp o,r⟩];unfold v8;rw[d];cases i:((mk k).xs (gP fd) (dA fd)).f ⟨fr,st⟩ with
 | bad=>rw[i] at h;exact h
 | exn=>rw[i] at h;exact h
 | ok f s=>rw[i] at h;cases f<;>exact h
theorem cW {res:Res V}{P:D->Prop}(h:W res (λv s=>∃d,v=.d d/\(dt s.st).isSome=Vn/\P d) noE):∃d,dI res=Vl d/\P d:=by
 obtain ⟨v,s,rfl,d,rfl,h1,h2⟩:=h.get;refine ⟨d,?_,h2⟩;show (dt s.st).bind _=_;cases q:dt s.st with
 | none=>rw[q] at h1;cases h1
 | some r=>rfl
end
section
variable {k:Nat}{cx:Cx}{n:Str}{p:Pos}{v:V}{t elt:Kb}{ifs:List Kb}{oF:List (Str×V)}{st:List SObj}{o:Option D}
theorem eK (h:bC (cx.names.lookup n)=Vn):dB cx (.Name n p) v=Vl [(n,v)]:=by
 show Kf (if _ then _ else _) _=_;rw[if_pos h];rfl
theorem jZ (h:bC (cx.names.lookup n)=Vn) (q:W (jC (mk k) cx ifs ⟨aY n v oF,st⟩) (λb s=>(b=Vn->W (((mk k).ev cx elt).f s) (λu s=>s.st=st/\∃d,u=.d d/\o=Vl d) noE)/\(b=Vo->s.st=st/\o=Vm)) noE):jx k cx (.Name n p) elt ifs oF st v o:=⟨_,eK h,q⟩
theorem gw (h:bC (cx.names.lookup n)=Vn) (q:W (((mk k).ev cx elt).f ⟨aY n v oF,st⟩) (λu s=>s.st=st/\∃d,u=.d d/\o=Vl d) noE):jx k cx (.Name n p) elt [] oF st v o:=jZ h (iH ⟨λ_=>q,λe=>nomatch e⟩)
theorem jk:∀{n:Nat}{lo:Int},eE lo n=(Ky n).map λ(i:Nat)=>.int (lo+i):=@nr _ (@λ_=>rfl) (λn a=>(@λlo=>by
  rw[OY,KB,KC];show D.int lo::eE (lo+1) n=_;rw[a]
  congr 1
  ·simp
  ·refine LK λi _=>?_;show D.int _=D.int _
   congr 1
   show lo+1+(i:Int)=lo+((i+1:Nat):Int);lia))
theorem gh {n:Nat}(h:n<=1000):cS st (.d (.rng 0 (n:Int)))=Vl (((Ky n).map λ(i:Nat)=>V.d (.int (i:Int))),st):=by
 have e:items (.rng 0 (n:Int))=Vl (eE 0 n):=by
  show Kf Vm (Kf Vm (Kf (if _ then _ else _) _))=_;rw[if_pos (w3 (Qs _) (by lia) (by lia))];rfl
 show Kf ((items (.rng 0 (n:Int))).map _) _=_;rw[e,jk];show Vl ((Na V.d _,st))=_;rw[KC]
 congr 3
 funext i;show V.d (.int _)=_;rw[Ui]
theorem jA {l:List D}:cS st (.d (.lst l))=Vl (l.map .d,st):=rfl
theorem ut {k:Nat}{a:Cx}{n:Nat}{g:Nat->Option D}{K:List D->List SObj->Prop}(hn:n<=1000) (b:∀i,i<n->jx k a t elt ifs oF st (.d (.int (i:Int))) (g i)) (q:K ((Ky n).filterMap g) st):kl k a t elt ifs oF st (.d (.rng 0 (n:Int))) K:=by
 refine y2 _ _ (w3 (gh hn) (by rw[Ka,KD];walk_at "n") ⟨λv=>v.d?.bind λd=>d.int?.bind λi=>g i.toNat,λv c=>?_,?_⟩)
 ·obtain ⟨i,e,rfl⟩:=Kr.mp c;exact b i (Lw.mp e)
 ·rw[Mq];exact q
theorem nM {k:Nat}{a:Cx}{l:List D}{g:D->Option D}{K:List D->List SObj->Prop}(hn:l.length<=100000) (b:∀d∈l,jx k a t elt ifs oF st (.d d) (g d)) (q:K (l.filterMap g) st):kl k a t elt ifs oF st (.d (.lst l)) K:=by
 refine y2 _ _ (w3 jA (by rw[Ka];walk_at "n") ⟨λv=>v.d?.bind g,λv c=>?_,?_⟩)
 ·obtain ⟨i,e,rfl⟩:=Kr.mp c;exact b i e
 ·rw[Mq];exact q
theorem Hm {α β:Type}{P:Nat->β->Prop}{l:List α}{g:Nat->Option β}{f:Nat->α}(j:∀i,i<l.length->l[i]?=Vl (f i)) (h:∀i,i<l.length->∃d,g i=Vl d/\P i d){G:α->Option β}(k:∀i,i<l.length->G (f i)=g i):(l.filterMap G).length=l.length/\∀i d,(l.filterMap G)[i]?=Vl d->P i d:=by
 induction l generalizing P g f with
 | nil=>exact ⟨rfl,λi d e=>nomatch e⟩
 | cons a l o=>
  have t:=J9 (j 0 (M6 _));refine aC λu c=>?_;obtain ⟨d,n,p⟩:=h 0 (M6 _);have s:G a=Vl d:=t▸(k 0 (M6 _)).trans n;obtain ⟨m,r⟩:=o (P:=λi=>P (i+1)) (g:=λi=>g (i+1)) (f:=λi=>f (i+1)) (λi b=>j (i+1) (OR b)) (λi b=>h (i+1) (OR b)) (λi b=>k (i+1) (OR b));refine c ?_;rw[KX,s];refine ⟨congrArg Nl m,λi q e=>?_⟩;cases i with
  | zero=>exact J9 e▸p
  | succ i=>exact r i q e
theorem qi {k:Nat}{c:Cx}{n:Nat}{P:Nat->D->Prop}{K:List D->List SObj->Prop}(hn:n<=1000) (b:∀i,i<n->∃d,P i d/\jx k c t elt ifs oF st (.d (.int (i:Int))) (Vl d)) (q:∀ds,ds.length=n->(∀i d,ds[i]?=Vl d->P i d)->K ds st):kl k c t elt ifs oF st (.d (.rng 0 (n:Int))) K:=by
 classical
 refine ut (g:=λi=>if h:i<n then Vl (PE (b i h)) else Vm) hn (λi a=>by rw[dif_pos a];exact (QO (b i a)).2) ?_;obtain ⟨e,j⟩:=Hm (P:=P) (l:=Ky n) (f:=λi=>i) (g:=λi=>if h:i<n then Vl (PE (b i h)) else Vm) (G:=λi=>if h:i<n then Vl (PE (b i h)) else Vm) (λi a=>by rw[Py (by simpa using a)]) (λi a=>by
  have a:i<n:=by simpa using a
  exact ⟨_,dif_pos a,(QO (b i a)).1⟩) (λi a=>rfl)
 exact q _ (e.trans KD) j
end
section
variable {k:Nat}{cx:Cx}{s:St}{Q:V->St->Prop}{E:D->List D->St->Prop}{es:List Kb}{p:Pos}
theorem dT {F1:List (Str×V)}{T1:List SObj}{vs:List V}{ds:List D}(a:aO es=Vn) (h:bM ((mk k).ev cx) es s=.ok vs ⟨F1,T1⟩) (b:zg vs=Vl ds):(wO (mk k) cx (.List es p)).f s=.ok (.loc T1.length) ⟨F1,T1++[.list ds]⟩:=aK (((if_pos a).trans (aK h (fU b)))) rfl
end
section
variable {k:Nat}{cx:Cx}{n:Str}{p:Pos}{Q:Fl->St->Prop}{E:D->List D->St->Prop}{fr:List (Str×V)}{st:List SObj}{body els:List Stmt}{I:Nat->List (Str×V)->List SObj->Prop}
theorem lK {vs:List V}(h:bC (cx.names.lookup n)=Vn) (h0:I 0 fr st) (step:∀i v fr st,vs[i]?=Vl v->I i fr st->W (((mk k).xs cx body).f ⟨aY n v fr,st⟩) (AF Q λs=>I (i+1) s.fr s.st) E) (a:∀fr st,I vs.length fr st->W (((mk k).xs cx els).f ⟨fr,st⟩) Q E):W (iS (mk k) cx (.Name n p) body els vs ⟨fr,st⟩) Q E:=by
 refine oI (I:=λi s=>I i s.fr s.st) 0 h0 (λi v s e b=>⟨_,eK h,?_⟩) λs hs=>?_
 ·rw[LY] at b;rw[LY];exact step i v s.fr s.st e b
 ·rw[LY] at hs;exact a s.fr s.st hs
theorem eB {N:Nat}(I:Nat->List (Str×V)->List SObj->Prop) (g:N<=1000) (h:bC (cx.names.lookup n)=Vn) (h0:I 0 fr st) (step:∀i fr st,i<N->I i fr st->W (((mk k).xs cx body).f ⟨aY n (.d (.int (i:Int))) fr,st⟩) (AF Q λs=>I (i+1) s.fr s.st) E) (a:∀fr st,I N fr st->W (((mk k).xs cx els).f ⟨fr,st⟩) Q E):rX st (.d (.rng 0 (N:Int))) λvs st=>W (iS (mk k) cx (.Name n p) body els vs ⟨fr,st⟩) Q E:=by
 refine ⟨_,gh g,lK h h0 (λi v fr st e l=>?_) λfr st hs=>a fr st (by rw[Ka,KD] at hs;exact hs)⟩;rw[Ks] at e;cases q:(Ky N)[i]? with
 | none=>rw[q] at e;cases e
 | some j=>
  rw[q] at e;refine rq (J9 e) ?_;obtain ⟨c,b⟩:=Kd.mp q;rw[PJ] at b;refine rq b ?_;exact step _ fr st (by simpa using c) l
theorem nK {l:List D}(I:Nat->List (Str×V)->List SObj->Prop) (h:bC (cx.names.lookup n)=Vn) (h0:I 0 fr st) (step:∀i d fr st,l[i]?=Vl d->I i fr st->W (((mk k).xs cx body).f ⟨aY n (.d d) fr,st⟩) (AF Q λs=>I (i+1) s.fr s.st) E) (a:∀fr st,I l.length fr st->W (((mk k).xs cx els).f ⟨fr,st⟩) Q E):rX st (.d (.lst l)) λvs st=>W (iS (mk k) cx (.Name n p) body els vs ⟨fr,st⟩) Q E:=by
 refine ⟨_,jA,lK h h0 (λi v fr st e b=>?_) λfr st hs=>a fr st (by rw[Ka] at hs;exact hs)⟩;rw[Ks] at e;cases q:l[i]? with
 | none=>rw[q] at e;cases e
 | some j=>
  rw[q] at e;refine rq (J9 e) ?_;exact step _ _ fr st q b
end
section
variable {st:List SObj}{l:Nat}{ds:List D}{d:D}
theorem cv (e:st[l]?=Vl (.list ds)) (hz:ds.length<=1000):iW st .append (.loc l) [.d d]=Vl (.d .non,st.set l (.list (ds++[d]))):=by
 show KG _ ((st[l]?).bind _)=_;rw[e];show KG _ (Kf (if _ then _ else _) _)=_;rw[if_pos hz];rfl
end
section
variable {k:Nat}{cx:Cx}{n:Str}{p:Pos}{Q:Fl->St->Prop}{E:D->List D->St->Prop}{fr:List (Str×V)}{st:List SObj}{body els:List Stmt}{t:Kb}{ts:List Kb}{m:Nat}{v:V}{vs:List V}{bs:List (Str×V)}{l:List D}{d:D}{is:List Int}
theorem eA:nz cx [] []=Vl []:=rfl
theorem aQ (h:bC (cx.names.lookup n)=Vn) (q:nz cx ts vs=Vl bs):nz cx (.Name n p::ts) (v::vs)=Vl ((n,v)::bs):=by
 show (if _ then _ else _)=_;rw[if_pos h,q];rfl
theorem dZ (h:nz cx ts (l.map .d)=Vl bs):dB cx (.Tuple ts m p) (.d (.lst l))=Vl bs:=h
theorem iO (h:nz cx ts (l.map .d)=Vl bs):dB cx (.Tuple ts m p) (.d (.tup l))=Vl bs:=h
theorem kq (I:Nat->List (Str×V)->List SObj->Prop) (h0:I 0 fr st) (step:∀i d fr st,l[i]?=Vl d->I i fr st->∃bs fr',dB cx t (.d d)=Vl bs/\eF bs fr=fr'/\W (((mk k).xs cx body).f ⟨fr',st⟩) (AF Q λs=>I (i+1) s.fr s.st) E) (a:∀fr st,I l.length fr st->W (((mk k).xs cx els).f ⟨fr,st⟩) Q E):rX st (.d (.lst l)) λvs st=>W (iS (mk k) cx t body els vs ⟨fr,st⟩) Q E:=by
 refine ⟨_,jA,oI (I:=λi s=>I i s.fr s.st) 0 h0 (λi v s e b=>?_) λs hs=>a s.fr s.st (by rw[Ka,LY] at hs;exact hs)⟩;rw[Ks] at e;rw[LY] at b ⊢;cases q:l[i]? with
 | none=>rw[q] at e;cases e
 | some j=>
  rw[q] at e;refine rq (J9 e) ?_;obtain ⟨bs,fr',c,rfl,e2⟩:=step i j s.fr s.st q b;exact ⟨bs,c,e2⟩
theorem Jf:ej []=Vl []:=rfl
theorem Ii (h:ej vs=Vl l):ej (.d d::vs)=Vl (d::l):=by
 show (ej vs).map _=_;rw[h];rfl
theorem im (h:cR l=Vl is) (hz:is.length<=100000/\∀i∈is,bK i):bI st .bytes [.d (.lst l)]=Vl (.bytes (is.map λ(i:Int)=>i.toNat.toUInt8).toArray):=by
 show (cR l).bind _=_;rw[h];exact if_pos hz
end
section
variable {k:Nat}{a:Addr}{vs:List V}{ds:List D}{s:St}{r:List SObj}{d:D}{fr:List (Str×V)}
theorem jI {c:List (Str×V)}{b:List SObj}(e:ie.contains a=Vn) (g:ej vs=Vl ds) (h:dI ((mk k).call a vs [.ctab])=Vl d) (f:b=.ctab::r):eW (mk k) a vs ⟨c,b⟩=.ok (.d d) ⟨c,b⟩:=by
 unfold eW;rw[e];show optE (ej vs) _ _=_;rw[g];show optE (dt b) _ _=_;rw[f];show cP ((dI _).map V.d) ⟨c,_⟩=_;rw[h];rfl
end
section
variable {k:Nat}{cx:Cx}{s s1:St}{Q:Fl->St->Prop}{E:D->List D->St->Prop}{body els ss:List Stmt}{pos p p2 pos2:Pos}{es:List Kb}{ct:Nat}{f:Str}{e:Kb}{ds:List D}
theorem BI (a:xy (mk k) cx (.For (.Tuple es ct p) (.Call (.Name f p2) [e] [] pos2) body els pos)=DY (mk k) body els pos es ct p f p2 e pos2) (b:cx.comp=Vo/\cx.inH=Vo/\cx.names.lookup f=Vl .globalImplicit/\bb e=Vm) (g:(bY f ib).bind D.bi?=Vl .enumerate) (h:((mk k).ev cx e).f s=.ok (.d (.tup ds)) s1) (q:W (iS (mk k) cx (.Tuple es ct p) body els (k0 0 ds) s1) (λf s=>W (cH f s ((mk k).xs cx ss).f) Q E) E):W (((mk (k+1)).xs cx (.For (.Tuple es ct p) (.Call (.Name f p2) [e] [] pos2) body els pos::ss)).f s) Q E:=by
 refine W.bind ?_;rw[a];refine W.ite b ?_;rw[g];refine W.optE ⟨_,rfl,?_⟩;refine W.ite (c:=Bi.eq .enumerate .enumerate=Vn) rfl ?_;refine W.bind ?_;refine W.of h ?_;exact W.optE ⟨ds,rfl,q⟩
end
section
variable {k:Nat}{cx:Cx}{Q:Fl->St->Prop}{E:D->List D->St->Prop}{fr:List (Str×V)}{st:List SObj}{body els ss:List Stmt}{t:Kb}{v:V}{l:List D}{s:St}{p:Pos}
theorem um (q:Q .brk s):W (((mk (k+1)).xs cx (.Break p::ss)).f s) Q E:=q
theorem En (q:Q .cont s):W (((mk (k+1)).xs cx (.Continue p::ss)).f s) Q E:=q
theorem iq (c:cS st v=Vl (l.map .d,st)) (I:Nat->List (Str×V)->List SObj->Prop) (h0:I 0 fr st) (step:∀i d fr st,l[i]?=Vl d->I i fr st->∃b fr',dB cx t (.d d)=Vl b/\eF b fr=fr'/\W (((mk k).xs cx body).f ⟨fr',st⟩) (AF Q λs=>I (i+1) s.fr s.st) E) (a:∀fr st,I l.length fr st->W (((mk k).xs cx els).f ⟨fr,st⟩) Q E):rX st v λvs st=>W (iS (mk k) cx t body els vs ⟨fr,st⟩) Q E:=by
 obtain ⟨q,e,h⟩:=kq (k:=k) (cx:=cx) (t:=t) (body:=body) (els:=els) (Q:=Q) (E:=E) (fr:=fr) (st:=st) (l:=l) I h0 step a;obtain rfl:=J9 (jA.symm.trans e);exact ⟨_,c,h⟩
theorem wP {l:List D}(I:Nat->List (Str×V)->List SObj->Prop) (h0:I 0 fr st) (step:∀i d fr st,l[i]?=Vl d->I i fr st->∃b fr',dB cx t (.d (.tup [.int (i:Int),d]))=Vl b/\eF b fr=fr'/\W (((mk k).xs cx body).f ⟨fr',st⟩) (AF Q λs=>I (i+1) s.fr s.st) E) (g:∀fr st,I l.length fr st->W (((mk k).xs cx els).f ⟨fr,st⟩) Q E):W (iS (mk k) cx t body els (k0 0 l) ⟨fr,st⟩) Q E:=by
 have n:∀(j:Nat) (l:List D),(k0 j l).length=l.length:=λj l=>by
  induction l generalizing j with
  | nil=>rfl
  | cons a l o=>exact congrArg Nl (o _)
 refine oI (I:=λi s=>I i s.fr s.st) 0 h0 (λi v s e h=>?_) λs hs=>g s.fr s.st (by rw[n,LY] at hs;exact hs);rw[LY] at h ⊢;refine aC λq c=>?_;obtain ⟨u,p,rfl⟩:=kG e;obtain ⟨b,fr',m,rfl,e2⟩:=step i u s.fr s.st p h;refine c ?_;exact ⟨b,by rw[LY];exact m,e2⟩
end
end
section
set_option linter.all false
theorem DT {st:List SObj}{i:Int}{s:Str}{c:Nat}(h:0<=i) (k:s.cps[i.toNat]?=Vl c):bE (.d (.str s)) (.d (.int i)) st=Vl (.d (.str ⟨#[c]⟩)):=by
 show (Kf ((Kf Vm (Kf Vm (Kf Vm (Kf (if _ then _ else _) _)))).map V.d) _)=_;rw[if_pos h];show (Kf ((Kf Vm (Kf Vm (Kf Vm (Kf (KG _ (s.cps[i.toNat]?)) _)))).map V.d) _)=_;rw[k];rfl
section
variable {k:Nat}{cx:Cx}{s s1:St}{t:Kb}{p:Pos}{st:List SObj}{l:List D}
theorem IA (h:((mk k).ts cx t).f s=.ok Vo s1):((mk (k+1)).ts cx (.UnaryOp .Not t p)).f s=.ok Vn s1:=DE h
theorem sh (h:((mk k).ts cx t).f s=.ok Vn s1):((mk (k+1)).ts cx (.UnaryOp .Not t p)).f s=.ok Vo s1:=DE h
theorem fG {b:Bool}:cc st (.d (.bool b))=Vl b:=rfl
theorem EB:cc st (.d (.lst l))=Vl (!l.isEmpty):=rfl
theorem vC:bI st .len [.d (.tup l)]=Vl (.int (l.length:Int)):=rfl
end
theorem Jc {st:List SObj}{b:Array UInt8}:bI st .isinstance [.d (.bytes b),.d (.bi .bytes)]=Vl (.bool Vn):=rfl
def jb (fr l:List (Str×V)):Prop:=∀p∈l,get p.1 fr=Vl p.2
section
variable {fr l:List (Str×V)}{n:Str}{v w:V}{a b c d e f:Str×V}
theorem J7 (h:jb fr ((n,v)::l)):get n fr=Vl v:=h _ (.head _)
theorem J6 (h:jb fr (a::(n,v)::l)):get n fr=Vl v:=h _ (.tail _ (.head _))
theorem J5 (h:jb fr (a::b::(n,v)::l)):get n fr=Vl v:=h _ (.tail _ (.tail _ (.head _)))
theorem J4 (h:jb fr (a::b::c::(n,v)::l)):get n fr=Vl v:=h _ (.tail _ (.tail _ (.tail _ (.head _))))
theorem J3 (h:jb fr (a::b::c::d::(n,v)::l)):get n fr=Vl v:=h _ (.tail _ (.tail _ (.tail _ (.tail _ (.head _)))))
theorem J2 (h:jb fr (a::b::c::d::e::(n,v)::l)):get n fr=Vl v:=h _ (.tail _ (.tail _ (.tail _ (.tail _ (.tail _ (.head _))))))
theorem Jt:jb fr []:=λ_ h=>nomatch h
theorem tf (g:get n fr=Vl v) (h:jb fr l):jb fr ((n,v)::l):=λp a=>(Kt.mp a).elim (λe=>e▸g) (h p)
theorem Js (h:jb fr l) (q:(l.all λp=>!(p.1==n))=Vn):jb (aY n v fr) l:=λp a=>wL ((KL _).mp (KP.mp q p a)) (h p a)
end
section
variable {α:Type}{x:Res α}{k:Nat}{cx:Cx}{s:St}{Q:Fl->St->Prop}{E:D->List D->St->Prop}{t:Kb}{body els ss:List Stmt}{pos:Pos}
theorem W.abs {Q:α->St->Prop}(h:∀a:α->St->Prop,(∀v s,Q v s->a v s)->W x a E):W x Q E:=h Q λ_ _ h=>h
theorem gQ (I:Nat->St->Prop) (j:Nat) (d:cx.comp=Vo) (c:j<1000000) (h0:I j s) (step:∀(R P:Fl->St->Prop) j s,(∀f s,AF (λf s=>W (cH f s ((mk k).xs cx ss).f) Q E) (λs=>∃a,a<j/\I a s) f s->R f s)->(∀f s,W (cH f s ((mk k).xs cx ss).f) Q E->P f s)->I j s->∃b s1,((mk k).ts cx t).f s=.ok b s1/\(b=Vn->W (((mk k).xs cx body).f s1) R E)/\(b=Vo->W (((mk k).xs cx els).f s1) P E)):W (((mk (k+1)).xs cx (.While t body els pos::ss)).f s) Q E:=uk I j d c h0 λj s h=>step _ _ j s (λ_ _ h=>h) (λ_ _ h=>h) h
end
end
section
set_option linter.all false
structure Thing9 where
 high:Int
 kind:Int
 rights:Int
 inner:List Int
noncomputable def Thing9.d (t:Thing9):D:=.lst [.int t.high,.int t.kind,.int t.rights,.lst (t.inner.map .int)]
structure Thing9.Good (t:Thing9):Prop where
 high:0<=t.high/\t.high<256
 kind:t.kind=4\/t.kind=8\/t.kind=12\/t.kind=6\/t.kind=0\/t.kind=3
 rights:0<=t.rights/\t.rights<4096
 inner:t.inner.length<=2/\∀x∈t.inner,0<=x/\x<9
def Dy (d:D):Prop:=∃ts:List Thing9,ts.length=9/\(∀t∈ts,t.Good)/\d=.lst (ts.map Thing9.d)
theorem cJ {i m:Int}(h:0<m):0<=Lk i m/\Lk i m<m:=⟨Int.fmod_nonneg_of_pos _ h,Int.fmod_lt_of_pos _ h⟩
theorem rg {i:Int}{n:Nat}(h:0<n):∃q:Nat,Lk i (n:Int)=(q:Int)/\q<n:=by
 have:=cJ (i:=i) (m:=(n:Int)) (MA.mpr h);obtain ⟨q,e⟩:=Lg this.1;exact ⟨q,e,MA.mp (e▸this.2)⟩
theorem G6:∀k∈([4,4,4,8,12,6,0,3]:List Int),k=4\/k=8\/k=12\/k=6\/k=0\/k=3:=by decide
theorem CC {q:Nat}(h:q<8):∃a,[D.int 4,.int 4,.int 4,.int 8,.int 12,.int 6,.int 0,.int 3][q]?=Vl (.int a)/\(a=4\/a=8\/a=12\/a=6\/a=0\/a=3):=by
 refine ⟨([4,4,4,8,12,6,0,3]:List Int)[q]'h,?_,G6 _ (Mo _)⟩;show (([4,4,4,8,12,6,0,3]:List Int).map D.int)[q]?=_;rw[Ks,Ki h];rfl
theorem ud {l:List D}{i:Nat}{d:D}(h:l[i]?=Vl d):ki l.length (i:Int)=Vl i:=p5 (Kd.mp h).1
theorem drawn {k:Nat}{ns:List Int}:W ((mk (k+30)).call 249 [.d (.lst (ns.map .int))] [.ctab]) (λv s=>∃d,v=.d d/\(dt s.st).isSome=Vn/\Dy d) noE:=by
 refine bX (fd:=aW 249) (us:=[.d (.lst (ns.map .int))]) (fr:=aY (sn "script") (.d (.lst (ns.map .int))) []) rfl rfl rfl rfl rfl ?_;refine jc rfl (w4 rfl rfl rfl (by decide)) (by walk_at "e") ?_;refine qi (n:=12) (P:=λi d=>∃x,d=.int x) (by decide) (λi f=>⟨_,⟨(gi (i:Int) 12 ns).sum,rfl⟩,gw rfl ?_⟩) λT hL Y=>?_
 ·have hs:∀st,bI st .sum [.d (.lst (gi (i:Int) 12 (ns.map .int)))]=Vl (.int (gi (i:Int) 12 ns).sum):=λst=>by rw[sp];exact F4 (eh _)
  have hs:=hs [.ctab];walk_at "l"
 have L:∀i,i<12->∃x,T[i]?=Vl (.int x):=λi f=>by
  have f:i<T.length:=by walk_at "n"
  refine aC λu a=>?_;obtain ⟨x,g⟩:=Y i _ (Ki f);refine a ?_;exact ⟨x,by rw[Ki f,g]⟩
 walk_at "a";refine jc rfl (w4 rfl rfl rfl (by decide)) (by walk_at "e") ?_;refine qi (n:=3) (P:=λi d=>∃x,d=.int x/\0<=x/\x<4096) (by decide) (λi f=>?_) λP a3 hP=>?_
 ·refine aC λu a=>?_;obtain ⟨t,b⟩:=L (9+i) (by walk_at "n");refine a ?_;have ⟨p,hp⟩:∃p,[D.int 2025,.int 3488,.int 2373][i]?=Vl (.int p):=by
   obtain rfl | rfl | rfl:i=0\/i=1\/i=2:=by walk_at "n"
   all_goals exact ⟨_,rfl⟩
  have M:∀st,bE (.d (.lst T)) (.d (.int (9+(i:Int)))) st=Vl (.d (.int t)):=λst=>kX (m:=9+i) (by rw[show (9:Int)+(i:Int)=((9+i:Nat):Int) by walk_at "n"];exact ud b) b;have M:=M [.ctab];refine ⟨_,⟨Lk (p+t) 4096,rfl,cJ (by decide)⟩,gw rfl ?_⟩;walk_at "l"
 refine ee rfl ⟨rfl,rfl⟩ (dT rfl aL rfl) ?_;refine ed rfl (w3 rfl rfl rfl) (by walk_at "e") ?_;refine eB (N:=9) (λi fr st=>∃o:List Thing9,o.length=i/\(∀t∈o,t.Good)/\st=[.ctab,.list (o.map Thing9.d)]/\get (sn "told") fr=Vl (.d (.lst T))/\get (sn "pool") fr=Vl (.d (.lst P))/\get (sn "things") fr=Vl (.loc 1)/\∃C,get (sn "cells") fr=Vl (.d (.tup C))/\C.length=9/\∀d∈C,∃x,d=.int x) (by decide) rfl ?_ (λi fr st f F=>?_) λfr st F=>?_
 ·refine ⟨[],w7 rfl (λ_ h=>nomatch h) rfl (by walk_at "g") (by walk_at "g") (by exact aU) ⟨_,w3 (by walk_at "g") rfl ?_⟩⟩;intro d O;obtain ⟨x,_,e⟩:=Kr.mp (show d∈([2784,32665,322,4928,4030,1170431,4028,4512,553]:List Int).map D.int from O);exact ⟨x,e.symm⟩
 ·refine W.abs λR hR=>?_;refine aC λu a=>?_;obtain ⟨o,J,E,rfl,g1,g2,g3,C,g4,hC,hC2⟩:=F;obtain ⟨t,b⟩:=L i (by walk_at "n");obtain ⟨c,hc⟩:∃c,C[i]?=Vl (.int c):=by
   have f:i<C.length:=by walk_at "n"
   refine aC λu a=>?_;obtain ⟨x,g⟩:=hC2 _ (Mo f);refine a ?_;exact ⟨x,by rw[Ki f,g]⟩
  refine a ?_;walk_at "a";have l:=cJ (i:=c+t) (m:=1492992) (by decide);generalize Lk (c+t) 1492992=cell at l ⊢;walk_at "a";have r:0<=Ll cell 24/\Ll cell 24<62208:=by
   rw[Nm _ (by decide)];walk_at "n"
  generalize hr:Ll cell 24=rest at r ⊢;refine aC λu a=>?_;obtain ⟨q,U,G⟩:∃q:Nat,Lk cell 8=(q:Int)/\q<8:=rg (n:=8) (by decide);obtain ⟨K,S,A⟩:=CC G;refine a ?_;have Q:ki [D.int 4,.int 4,.int 4,.int 8,.int 12,.int 6,.int 0,.int 3].length (Lk cell 8)=Vl q:=by rw[U];exact ud S
  walk_at "a";have h3:=cJ (i:=rest) (m:=3) (by decide);have a1:=h3.1;walk_at "a";refine aC λu a=>?_;obtain ⟨j,hj,a4⟩:∃j:Nat,Lk (Ll cell 8) 3=(j:Int)/\j<3:=rg (n:=3) (by decide);have w:j<P.length:=by walk_at "n"
  obtain ⟨z,I,H⟩:=hP j _ (Ki w);refine a ?_;have y:P[j]?=Vl (.int z):=by rw[Ki w,I]
  have a2:ki P.length (Lk (Ll cell 8) 3)=Vl j:=by rw[hj];exact ud y
  refine' cb rfl (aT (w3 rfl rfl rfl) ?n1 ?n2 (aS (bm:=.append) ?n3 ?n4 rfl ?n5 ?n6)) (aG ?n7)
  case n1=>decide
  case n2=>walk_at "e"
  case n3=>kernel_rfl
  case n4=>kernel_rfl
  case n5=>walk_at "e"
  case n6=>exact cv rfl (by rw[Ka];walk_at "n")
  case n7=>
   refine hR _ _ ⟨o++[⟨Ll rest 243,K,z,([Lk (Ll rest 3) 9,Lk (Ll rest 27) 9]:List Int).take (Lk rest 3).toNat⟩],w7 (by rw[Kj,J];rfl) (λt b=>?_) ?_ (by walk_at "g") (by walk_at "g") (by walk_at "g") ⟨C,w3 (by walk_at "g") hC hC2⟩⟩
   ·rcases Ku.mp b with b | b
    ·exact E t b
    ·rw[Kg.mp b];refine ⟨?_,A,H,?_,λx g=>?_⟩
     ·show 0<=Ll rest 243/\Ll rest 243<256;rw[Nm _ (by decide)];walk_at "n"
     ·show (UN _ _).length<=2;rw[Lr];exact Lo (Nat.min_le_right _ _) (KH 2)
     ·have g:=MB g;simp only[Kt,MG,or_false] at g;rcases g with rfl | rfl<;>exact cJ (by decide)
   ·show [SObj.ctab,SObj.list _]=[SObj.ctab,SObj.list _];rw[Kz];show _=[SObj.ctab,SObj.list (_++[D.lst [.int (Ll rest 243),.int K,.int z,.lst (Na D.int (UN (Lk rest 3).toNat [Lk (Ll rest 3) 9,Lk (Ll rest 27) 9]))]])];rw[TD];rfl
 ·refine aC λu a=>?_;obtain ⟨o,J,E,rfl,g1,g2,g3,_⟩:=F;refine a ?_;refine aG ?_;refine cg (dR rfl g3 rfl) ⟨_,w3 rfl rfl ⟨o,w3 J E rfl⟩⟩
end
section
set_option linter.all false
noncomputable def Thing9.oct (t:Thing9):List Int:=[t.high,t.kind*16+Ll t.rights 256,Lk t.rights 256,(t.inner.length:Int)]++t.inner
noncomputable def octs (ts:List Thing9):List Int:=ts.flatMap Thing9.oct
noncomputable def aR (is:List Int):Array UInt8:=(is.map λ(i:Int)=>i.toNat.toUInt8).toArray
theorem wB {k d:Int}(b:0<=k/\k<=12) (a:0<=d/\d<16):bK (k*16+d):=by unfold bK;lia
theorem CZ {r:Int}(h:0<=r/\r<4096):0<=Ll r 256/\Ll r 256<16:=by
 rw[Nm _ (by decide)];lia
theorem Thing9.Good.oct {t:Thing9}(h:t.Good):t.oct.length<=6/\∀i∈t.oct,bK i:=by
 have a:=h.inner;have b:0<=t.kind/\t.kind<=12:=by rcases h.kind with e | e | e | e | e | e<;>rw[e]<;>decide
 refine ⟨?_,λi hi=>?_⟩
 ·skip
  rw[Kj];exact PB a.1 4
 ·rcases Ku.mp hi with hi | hi
  ·exact (KZ (p:=bK)).mpr ⟨h.high,(KZ (p:=bK)).mpr ⟨wB b (CZ h.rights),(KZ (p:=bK)).mpr ⟨cJ (by decide),(KZ (p:=bK)).mpr ⟨⟨Ly _,MA.mpr (ML a.1 (by decide:2<256))⟩,λ_ h=>absurd h MG⟩⟩⟩⟩ i hi
  ·exact ⟨(a.2 i hi).1,Int.lt_trans (a.2 i hi).2 (by decide)⟩
theorem ky {ts:List Thing9}(f:∀t∈ts,t.Good):(octs ts).length<=6*ts.length/\∀i∈octs ts,bK i:=by
 induction ts with
 | nil=>exact ⟨KH _,λi e=>nomatch e⟩
 | cons t ts g=>
  obtain ⟨a,b⟩:=g λt h=>f t (.tail _ h);obtain ⟨c,d⟩:=(f t (.head _)).oct;unfold octs at a b ⊢
  rewrite [NM,Kj,Ls]
  exact ⟨by lia,λi e=>(Ku.mp e).elim (d i) (b i)⟩
theorem nW {ts:List Thing9}{i:Nat}{t:Thing9}(h:ts[i]?=Vl t):octs (ts.take (i+1))=octs (ts.take i)++t.oct:=by
 unfold octs;rw[La,h,M2];simp
theorem vP {k:Nat}{ts:List Thing9}(r:ts.length=9) (j:∀t∈ts,t.Good):W ((mk (k+30)).call 256 [.d (.lst (ts.map Thing9.d))] [.ctab]) (λv s=>∃d,v=.d d/\(dt s.st).isSome=Vn/\d=.bytes (aR (octs ts))) noE:=by
 refine bX (fd:=aW 256) (us:=[.d (.lst (ts.map Thing9.d))]) (fr:=aY (sn "things") (.d (.lst (ts.map Thing9.d))) []) rfl rfl rfl rfl rfl ?_;walk_at "a";refine ed rfl (w3 rfl rfl rfl) (by walk_at "e") ?_;refine kq (λi fr st=>st=[.ctab]/\get (sn "octets") fr=Vl (.d (.lst ((octs (ts.take i)).map .int)))) ⟨rfl,by exact aU⟩ (λi d fr st l h=>?_) λfr st h=>?_
 ·obtain ⟨rfl,g⟩:=h;rw[Ks] at l;obtain ⟨t,c,rfl⟩:=KV.mp l;have m:=Kl c;have G:=j t m;have hs:cM t.kind/\cM 16:=by
   have p:0<=t.kind/\t.kind<=12:=by rcases G.kind with e | e | e | e | e | e<;>rw[e]<;>decide
   exact ⟨by unfold cM;lia,by decide⟩
  have u:=(ky (ts:=ts.take i) λt c=>j t (MB c)).1;have n:(ts.take i).length<=9:=by rw[Lr];lia
  have o:=G.inner.1;have x:((octs (ts.take i)).map D.int).length+[D.int t.high,.int (t.kind*16+Ll t.rights 256),.int (Lk t.rights 256),.int ((t.inner.map D.int).length:Int)].length<=100000:=by
   rw[Ka];show _+4<=_;lia
  have w:((octs (ts.take i)).map D.int++[D.int t.high,.int (t.kind*16+Ll t.rights 256),.int (Lk t.rights 256),.int ((t.inner.map D.int).length:Int)]).length+(t.inner.map D.int).length<=100000:=by
   rw[Kj,Ka,Ka];show _+4+_<=_;lia
  refine y2 _ (aY (sn "inner") (.d (.lst (t.inner.map .int))) (aY (sn "rights") (.d (.int t.rights)) (aY (sn "kind") (.d (.int t.kind)) (aY (sn "high") (.d (.int t.high)) fr)))) (w3 (dZ (aQ rfl (aQ rfl (aQ rfl (aQ rfl eA))))) rfl ?_);walk_at "a";refine aG ⟨rfl,?_⟩;rw[nW c,Kz];unfold Thing9.oct;rw[Kz,<- KT,<- Ka (as:=t.inner) (f:=D.int)];exact aU
 ·obtain ⟨rfl,g⟩:=h;rw[Ka,Mn] at g;obtain ⟨a,b⟩:=ky j;have y:=im (st:=[.ctab]) (eh (octs ts)) ⟨by lia,b⟩;refine aG ?_;refine' cg ?e ?q
  case e=>walk_at "e"
  case q=>exact ⟨_,w3 rfl rfl rfl⟩
end
section
set_option linter.all false
noncomputable def nD (m:Int):Int:=((m.toNat&&& 61440:Nat):Int)
theorem oa {k:Nat}{m:Int}(h:0<=m):dI ((mk (k+8)).call 190 [.d (.int m)] [.ctab])=Vl (.int (nD m)):=by
 obtain ⟨d,e,rfl⟩:=cW (res:=(mk (k+8)).call 190 [.d (.int m)] [.ctab]) (P:=λd=>d=.int (nD m)) (by
  refine bX (fd:=aW 190) (us:=[.d (.int m)]) (fr:=aY (sn "mode") (.d (.int m)) []) rfl rfl rfl rfl rfl ?_;have a:jv .BitAnd (.d (.int m)) (.d (.int 61440))=Vl (.int (nD m)):=Ed ⟨h,by decide⟩;refine' cg ?e ?q
  case e=>walk_at "e"
  case q=>exact ⟨_,w3 rfl rfl rfl⟩)
 exact e
theorem mx {k:Nat}{m:Int}(h:0<=m):dI ((mk (k+16)).call 197 [.d (.int m)] [.ctab])=Vl (.bool (nD m==16384)):=by
 obtain ⟨d,e,rfl⟩:=cW (res:=(mk (k+16)).call 197 [.d (.int m)] [.ctab]) (P:=λd=>d=.bool (nD m==16384)) (by
  refine bX (fd:=aW 197) (us:=[.d (.int m)]) (fr:=aY (sn "mode") (.d (.int m)) []) rfl rfl rfl rfl rfl ?_;refine' cg (mX rfl ?b (dH (d:=.gbl 190) ?h rfl ?f (Ay ⟨?c,rfl⟩ rfl ?a (jI ?fr ?ad (oa h) ?st))) (fQ (d:=.int 16384) ?g) kK) ?q
  case b=>rfl
  case h=>rfl
  case f=>kernel_rfl
  case c=>kernel_rfl
  case a=>walk_at "e"
  case fr=>kernel_rfl
  case ad=>walk_at "d"
  case st=>rfl
  case g=>kernel_rfl
  case q=>exact ⟨_,w3 rfl rfl rfl⟩)
 exact e
end
section
set_option linter.all false
noncomputable def fmT:List (List (Int×String)):=[[(40960,"l"),(49152,"s"),(32768,"-"),(24576,"b"),(16384,"d"),(8192,"c"),(4096,"p")],[(256,"r")],[(128,"w")],[(2112,"s"),(2048,"S"),(64,"x")],[(32,"r")],[(16,"w")],[(1032,"s"),(1024,"S"),(8,"x")],[(4,"r")],[(2,"w")],[(513,"t"),(512,"T"),(1,"x")]]
theorem IZ:fmTable=.tup (fmT.map λr=>.tup (r.map λp=>bZ p.1 p.2)):=rfl
noncomputable def hit (i:Nat) (m b:Int):Bool:=cond (i==0) (nD m==b) (((m.toNat&&& b.toNat:Nat):Int)==b)
noncomputable def qb (i:Nat) (m:Int) (r:List (Int×String)):String:=((r.find? λp=>hit i m p.1).map (·.2)).getD (cond (i==0) "?" "-")
noncomputable def gb (m:Int) (n:Nat):List D:=(Ky n).map λi=>.str (sn (qb i m (fmT[i]?.getD [])))
theorem FF:∀r∈fmT,∀p∈r,0<=p.1:=by decide
theorem vl {α:Type}{f:α->Bool}{p:α}:∀{r:List α}{j:Nat},(∀q∈r.take j,f q=Vo)->r[j]?=Vl p->f p=Vn->r.find? f=Vl p
 | a::r,0,_,e,h=>by refine rp (J9 e) ?_;rw[MR,h]
 | a::r,j+1,b,e,h=>by
  rw[MR,b a (.head _)];exact vl (λq c=>b q (.tail _ c)) e h
 | [],_,_,e,_=>nomatch e
theorem Fd {st:List SObj}{l:List D}{a:List Str}(e:gT l=Vl a) (hz:l.length<=1000) (hs:(a.map (·.length)).sum<=1000):iW st .join (.d (.str (sn ""))) [.d (.lst l)]=Vl (.d (.str (Pq (sn "") a)),st):=by
 show KG _ (if _ then _ else _)=_;rw[if_pos ⟨rfl,hz⟩,e];show KG _ (if _ then _ else _)=_;rw[if_pos hs];rfl
theorem yc {α:Type}(f:α->Str) (l:List α):gT (l.map λa=>.str (f a))=Vl (l.map f):=by
 induction l with
 | nil=>rfl
 | cons a l b=>show KG _ (gT (l.map _))=_;rw[b];rfl
theorem Dc:∀r∈fmT,∀p∈r,(sn p.2).length=1:=by decide
theorem Dd {m:Int}{i:Nat}(d:i<10):(sn (qb i m (fmT[i]?.getD []))).length=1:=by
 unfold qb;cases c:(fmT[i]?.getD []).find? λp=>hit i m p.1 with
 | none=>
  cases (i==0)<;>rfl
 | some p=>
  have a:=List.mem_of_find?_eq_some c;have b:i<fmT.length:=d;rw[Ki b] at a;exact Dc _ (Mo b) p a
theorem BU {l:List Nat}(h:∀x∈l,x=1):l.sum=l.length:=by
 induction l with
 | nil=>rfl
 | cons a l b=>rw[L4,Ls,h a (.head _),b λx c=>h x (.tail _ c)];lia
theorem nE {k:Nat}{m:Int}(h:0<=m):W ((mk (k+30)).call 237 [.d (.int m)] [.ctab]) (λv s=>∃d,v=.d d/\(dt s.st).isSome=Vn/\d=.str (Pq (sn "") ((Ky 10).map λi=>sn (qb i m (fmT[i]?.getD []))))) noE:=by
 refine bX (fd:=aW 237) (us:=[.d (.int m)]) (fr:=aY (sn "mode") (.d (.int m)) []) rfl rfl rfl rfl rfl ?_;refine ee rfl ⟨rfl,rfl⟩ (dT rfl aL rfl) ?_;refine BI (ds:=fmT.map λr=>.tup (r.map λp=>bZ p.1 p.2)) rfl (w4 rfl rfl rfl rfl) rfl (fQ (d:=fmTable) rfl) ?_;refine wP (λi fr st=>st=[.ctab,.list (gb m i)]/\get (sn "mode") fr=Vl (.d (.int m))/\get (sn "perm") fr=Vl (.loc 1)) (w3 rfl (by walk_at "g") (by exact aU)) (λi d fr st w o=>?_) λfr st o=>?_
 ·obtain ⟨rfl,g1,g2⟩:=o;rw[Ks] at w;obtain ⟨r,A,rfl⟩:=KV.mp w;have I:i<10:=(Kd.mp A).1;have F:gb m (i+1)=gb m i++[.str (sn (qb i m r))]:=by
   unfold gb;rw[N9,Kz,List.map_singleton,A];rfl
  have H:(gb m i).length<=1000:=by
   unfold gb;rw[Ka,KD];lia
  refine y2 _ (aY (sn "table") (.d (.tup (r.map λp=>bZ p.1 p.2))) (aY (sn "index") (.d (.int (i:Int))) fr)) (w3 (iO (aQ rfl (aQ rfl eA))) rfl ?_);refine ed rfl (w3 rfl rfl rfl) (by walk_at "e") ?_;refine iq (l:=r.map λp=>bZ p.1 p.2) rfl (λj fr st=>(∀p∈r.take j,hit i m p.1=Vo)/\st=[.ctab,.list (gb m i)]/\get (sn "mode") fr=Vl (.d (.int m))/\get (sn "perm") fr=Vl (.loc 1)/\get (sn "index") fr=Vl (.d (.int (i:Int)))) (w5 (λp n=>nomatch n) rfl (by walk_at "g") (by walk_at "g") (by walk_at "g")) (λj d fr st w o=>?_) λfr st o=>?_
  ·obtain ⟨y,rfl,g1,g2,g3⟩:=o;rw[Ks] at w;obtain ⟨p,n,rfl⟩:=KV.mp w;have K:=FF r (Kl A) p (Kl n);refine y2 _ (aY (sn "char") (.d (.str (sn p.2))) (aY (sn "bit") (.d (.int p.1)) fr)) (w3 (iO (aQ rfl (aQ rfl eA))) rfl ?_);have G:hit i m p.1=Vn->[SObj.ctab,.list (gb m i)].set 1 (.list (gb m i++[.str (sn p.2)]))=[SObj.ctab,.list (gb m (i+1))]:=λt=>by
    rw[F];unfold qb;rw[vl y n t];rfl
   have J:hit i m p.1=Vo->∀q∈r.take (j+1),hit i m q.1=false:=λt q z=>by
    rw[La,n] at z;exact (Ku.mp z).elim (y q) λz=>by rw[Kg.mp z];exact t
   have b:iW [SObj.ctab,.list (gb m i)] .append (.loc 1) [.d (.str (sn p.2))]=Vl (.d .non,[SObj.ctab,.list (gb m i)].set 1 (.list (gb m i++[.str (sn p.2)]))):=cv rfl H;have L:jv .BitAnd (.d (.int m)) (.d (.int p.1))=Vl (.int ((m.toNat&&& p.1.toNat:Nat):Int)):=Ed ⟨h,K⟩;refine' qd (c:=((i:Int)==0)) (cU rfl rfl ?e1 dY kK) (λq=>?b1) λq=>?b2
   case e1=>walk_at "e"
   case b1=>
    obtain rfl:i=0:=by have:=eq_of_beq q;lia
    refine' qd (c:=(nD m==p.1)) (cU rfl rfl (dH (d:=.gbl 190) ?h rfl ?f (Ay ⟨?c,rfl⟩ rfl ?a (jI ?fr ?ad ?hm ?st))) ?e2 kK) (λq=>?c1) λq=>?c2
    case h=>rfl
    case f=>kernel_rfl
    case c=>kernel_rfl
    case a=>walk_at "e"
    case fr=>kernel_rfl
    case ad=>walk_at "d"
    case hm=>exact oa h
    case st=>rfl
    case e2=>walk_at "e"
    case c1=>
     refine' cb rfl (aT (w3 rfl rfl rfl) ?n1 ?n2 (aS (bm:=.append) ?n3 ?n4 rfl ?n5 ?n6)) (um ?n7)
     case n1=>decide
     case n2=>walk_at "e"
     case n3=>kernel_rfl
     case n4=>kernel_rfl
     case n5=>walk_at "e"
     case n6=>exact b
     case n7=>exact w3 (G q) (by walk_at "g") (by walk_at "g")
    case c2=>exact w5 (J q) rfl (by walk_at "g") (by walk_at "g") (by walk_at "g")
   case b2=>
    have g:(i==0)=false:=beq_eq_false_iff_ne.mpr λe=>by rw[e] at q;exact nomatch q
    have t:hit i m p.1=(((m.toNat&&& p.1.toNat:Nat):Int)==p.1):=by unfold hit;rw[g];rfl
    refine' qd (c:=(((m.toNat&&& p.1.toNat:Nat):Int)==p.1)) (cU rfl rfl ?e3 ?e2 kK) (λq=>?c1) λq=>?c2
    case e3=>walk_at "e"
    case e2=>walk_at "e"
    case c1=>
     refine' cb rfl (aT (w3 rfl rfl rfl) ?n1 ?n2 (aS (bm:=.append) ?n3 ?n4 rfl ?n5 ?n6)) (um ?n7)
     case n1=>decide
     case n2=>walk_at "e"
     case n3=>kernel_rfl
     case n4=>kernel_rfl
     case n5=>walk_at "e"
     case n6=>exact b
     case n7=>exact w3 (G (t.trans q)) (by walk_at "g") (by walk_at "g")
    case c2=>exact w5 (J (t.trans q)) rfl (by walk_at "g") (by walk_at "g") (by walk_at "g")
  ·obtain ⟨y,rfl,g1,g2,g3⟩:=o;rw[Ka,Mn] at y;have N:r.find? (λp=>hit i m p.1)=none:=List.find?_eq_none.mpr λp n e=>by rw[y p n] at e;exact nomatch e
   have E:∀x,cond (i==0) "?" "-" = x->[SObj.ctab,.list (gb m i)].set 1 (.list (gb m i++[.str (sn x)]))=[SObj.ctab,.list (gb m (i+1))]:=λx C=>by
    rw[F];unfold qb;rw[N,<- C];rfl
   have b:∀x,iW [SObj.ctab,.list (gb m i)] .append (.loc 1) [.d (.str (sn x))]=Vl (.d .non,[SObj.ctab,.list (gb m i)].set 1 (.list (gb m i++[.str (sn x)]))):=λx=>cv rfl H;refine' qd (c:=((i:Int)==0)) (cU rfl rfl ?e1 dY kK) (λq=>?b1) λq=>?b2
   case e1=>walk_at "e"
   case b1=>
    have g:i=0:=by have:=eq_of_beq q;lia
    refine' cb rfl (aT (w3 rfl rfl rfl) ?n1 ?n2 (aS (bm:=.append) ?n3 ?n4 rfl ?n5 ?n6)) (aG ?n7)
    case n1=>decide
    case n2=>walk_at "e"
    case n3=>kernel_rfl
    case n4=>kernel_rfl
    case n5=>walk_at "e"
    case n6=>exact b "?"
    case n7=>exact w3 (E "?" (by rw[g];rfl)) (by walk_at "g") (by walk_at "g")
   case b2=>
    have g:(i==0)=false:=beq_eq_false_iff_ne.mpr λe=>by rw[e] at q;exact nomatch q
    refine' cb rfl (aT (w3 rfl rfl rfl) ?n1 ?n2 (aS (bm:=.append) ?n3 ?n4 rfl ?n5 ?n6)) (aG ?n7)
    case n1=>decide
    case n2=>walk_at "e"
    case n3=>kernel_rfl
    case n4=>kernel_rfl
    case n5=>walk_at "e"
    case n6=>exact b "-"
    case n7=>exact w3 (E "-" (by rw[g];rfl)) (by walk_at "g") (by walk_at "g")
 ·obtain ⟨rfl,g1,g2⟩:=o;refine aG ?_;refine' cg (aT (v:=.d (.str (sn ""))) (w3 rfl rfl rfl) ?n1 ?n2 (aS (bm:=.join) ?n3 ?n4 rfl ?n5 ?n6)) ?n7
  case n1=>decide
  case n2=>walk_at "e"
  case n3=>kernel_rfl
  case n4=>kernel_rfl
  case n5=>exact aI rfl (dR rfl g2 rfl) aL
  case n6=>exact Fd (yc (λi=>sn (qb i m (fmT[i]?.getD []))) (Ky 10)) (by unfold gb;rw[Ka,Ka,KD];decide) (by
   rewrite [BU λx C=>?_,Ka,Ka,KD]
   ·decide
   ·obtain ⟨u,M,rfl⟩:=Kr.mp C;obtain ⟨i,I,rfl⟩:=Kr.mp M;exact Dd (Lw.mp I))
  case n7=>exact ⟨_,w3 rfl rfl rfl⟩
end
section
set_option linter.all false
noncomputable def cT (i:Nat):Int:=cond (i==0) 64 (cond (i==1) 8 1)
noncomputable def eT (i:Nat):Int:=cond (i==0) 2048 (cond (i==1) 1024 512)
noncomputable def xT (i:Nat):Str:=cond (i==2) (sn "-xTt") (sn "-xSs")
noncomputable def vu (r:Int) (i:Nat):Int:=Lk (Ll r (cT i)) 8
noncomputable def lst (r:Int) (i:Nat):Int:=Lk (vu r i) 2+2*Lk (Ll r (eT i)) 2
noncomputable def gR (r:Int) (i:Nat):Str:=cond (decide (3<vu r i)) (sn "r") (sn "-")
noncomputable def gW (r:Int) (i:Nat):Str:=cond (Lk (Ll (vu r i) 2) 2==1) (sn "w") (sn "-")
noncomputable def gX (r:Int) (i:Nat):Str:=⟨#[((xT i).cps[(lst r i).toNat]?).getD 0]⟩
noncomputable def rowS (h:Str) (r:Int):Nat->Str
 | 0=>h
 | i+1=>rowS h r i++gR r i++gW r i++gX r i
theorem ww (r:Int) (i:Nat):0<=lst r i/\lst r i<4:=by
 have a:=cJ (i:=vu r i) (m:=2) (by decide);have b:=cJ (i:=Ll r (eT i)) (m:=2) (by decide);unfold lst;exact ⟨Int.add_nonneg a.1 (Int.mul_nonneg (by decide) b.1),Int.lt_of_le_of_lt (Int.add_le_add (R7 (show _<(1:Int)+1 from a.2)) (Int.mul_le_mul_of_nonneg_left (R7 (show _<(1:Int)+1 from b.2)) (by decide))) (by decide)⟩
theorem gc (a b:Str):(a++b).cps.size=a.cps.size+b.cps.size:=NG ..
theorem th (r:Int) (i:Nat):(gR r i).cps.size=1/\(gW r i).cps.size=1/\(gX r i).cps.size=1:=by
 refine w3 ?_ ?_ rfl
 ·unfold gR;cases decide (3<vu r i)<;>rfl
 ·unfold gW;cases (Lk (Ll (vu r i) 2) 2==1)<;>rfl
theorem lV {h:Str}{r:Int}(hh:h.cps.size=1):∀i,(rowS h r i).cps.size=1+3*i:=@nr _ (hh) (λi d=>by
  obtain ⟨a,b,c⟩:=th r i;rw[gc,gc,gc,d,a,b,c];lia)
theorem yv {k:Nat}{a r:Int}{c:Nat}(x:0<=a) (I:(sn "?pc?d?b?-?l?s???").cps[a.toNat]?=Vl c):W ((mk (k+15)).call 282 [.d (.int a),.d (.int r)] [.ctab]) (λv s=>∃d,v=.d d/\(dt s.st).isSome=Vn/\d=.str (rowS ⟨#[c]⟩ r 3)) noE:=by
 refine bX (fd:=aW 282) (us:=[.d (.int a),.d (.int r)]) (fr:=aY (sn "rights") (.d (.int r)) (aY (sn "kind") (.d (.int a)) [])) rfl rfl rfl rfl rfl ?_;walk_at "a";refine ed rfl (w3 rfl rfl rfl) (by walk_at "e") ?_;refine eB (N:=3) (λi fr st=>st=[.ctab]/\get (sn "rights") fr=Vl (.d (.int r))/\get (sn "row") fr=Vl (.d (.str (rowS ⟨#[c]⟩ r i)))) (by decide) rfl (w3 rfl (by walk_at "g") (by exact aU)) (λi fr st F b=>?_) λfr st b=>?_
 ·obtain ⟨rfl,g1,g2⟩:=b;have A:[D.int 64,.int 8,.int 1][i]?=Vl (.int (cT i)):=by
   obtain rfl | rfl | rfl:i=0\/i=1\/i=2:=by lia
   all_goals rfl
  have C:[D.int 2048,.int 1024,.int 512][i]?=Vl (.int (eT i)):=by
   obtain rfl | rfl | rfl:i=0\/i=1\/i=2:=by lia
   all_goals rfl
  have o:[D.str (sn "-xSs"),.str (sn "-xSs"),.str (sn "-xTt")][i]?=Vl (.str (xT i)):=by
   obtain rfl | rfl | rfl:i=0\/i=1\/i=2:=by lia
   all_goals rfl
  have y:cT i≠0/\(cT i).natAbs<1000000:=by
   obtain rfl | rfl | rfl:i=0\/i=1\/i=2:=by lia
   all_goals decide
  have w:eT i≠0/\(eT i).natAbs<1000000:=by
   obtain rfl | rfl | rfl:i=0\/i=1\/i=2:=by lia
   all_goals decide
  walk_at "a";have hs:cM 2/\cM (Lk (Ll r (eT i)) 2):=by
   have f:=cJ (i:=Ll r (eT i)) (m:=2) (by decide);exact ⟨by decide,by unfold cM;lia⟩
  walk_at "a";obtain ⟨E,s2,H⟩:=th r i;have z:=lV (h:=⟨#[c]⟩) (r:=r) rfl i;have g:(rowS ⟨#[c]⟩ r i).cps.size+(gR r i).cps.size<=1000:=by lia
  have p:(rowS ⟨#[c]⟩ r i++gR r i).cps.size+(gW r i).cps.size<=1000:=by rw[gc];lia
  have j:(rowS ⟨#[c]⟩ r i++gR r i++gW r i).cps.size+(gX r i).cps.size<=1000:=by rw[gc,gc];lia
  refine' bT ?h1 ?h2 (ij (ij ?e1 (Aw (v:=.d (.str (gR r i))) (c:=decide (3<Lk (Ll r (cT i)) 8)) (cU rfl rfl ?e2 dY I8) (λq=>?q1) λq=>?q2) (Ba g)) (Aw (v:=.d (.str (gW r i))) (c:=(Lk (Ll (Lk (Ll r (cT i)) 8) 2) 2==1)) (cU rfl rfl ?e3 dY kK) (λq=>?q3) λq=>?q4) (Ba p)) ?h4
  case h1=>kernel_rfl
  case h2=>exact ⟨rfl,rfl⟩
  case e1=>walk_at "e"
  case e2=>walk_at "e"
  case q1=>unfold gR vu;rw[q];exact ry (Kv rfl)
  case q2=>unfold gR vu;rw[q];exact ry (Kv rfl)
  case e3=>walk_at "e"
  case q3=>unfold gW vu;rw[q];exact ry (Kv rfl)
  case q4=>unfold gW vu;rw[q];exact ry (Kv rfl)
  have t:=ww r i;have u:0<=Lk (Lk (Ll r (cT i)) 8) 2+2*Lk (Ll r (eT i)) 2:=t.1;have l:(xT i).cps[(Lk (Lk (Ll r (cT i)) 8) 2+2*Lk (Ll r (eT i)) 2).toNat]?=Vl (((xT i).cps[(lst r i).toNat]?).getD 0):=by
   have G:(xT i).cps.size=4:=by unfold xT;cases (i==2)<;>rfl
   have n:(lst r i).toNat<(xT i).cps.size:=by lia
   show (xT i).cps[(lst r i).toNat]?=Vl (((xT i).cps[(lst r i).toNat]?).getD 0);rw[Le n];rfl
  refine' bT ?h1 ?h2 (ij ?e1 (gz rfl (cE rfl (gz rfl (cE rfl ?e4) ?e5 (Fu o))) ?e6 (DT u l)) (Ba j)) (aG ?n1)
  case h1=>kernel_rfl
  case h2=>exact ⟨rfl,rfl⟩
  case e1=>walk_at "e"
  case e4=>walk_at "e"
  case e5=>walk_at "e"
  case e6=>walk_at "e"
  case n1=>exact w3 rfl (by walk_at "g") (by exact aU)
 ·obtain ⟨rfl,g1,g2⟩:=b;refine aG ?_;refine' cg ?e ?q
  case e=>walk_at "e"
  case q=>exact ⟨_,w3 rfl rfl rfl⟩
end
section
set_option linter.all false
section
variable {k:Nat}{cx:Cx}{s s1 s2:St}{e a b:Kb}{p:Pos}{v u:V}{l ds:List D}{st:List SObj}{x:Int}{n:Nat}
theorem sM {n:Nat}:eE 0 n=(Ky n).map λ(i:Nat)=>.int (i:Int):=by
 rw[jk];refine LK λi _=>?_;rw[Ui]
theorem Dl (h:n<=1000):bI st .list [.d (.rng 0 (n:Int))]=Vl (.lst ((Ky n).map λ(i:Nat)=>.int (i:Int))):=by
 show Kf (if _ then _ else _) _=_;rw[if_pos (w3 (Qs _) (by lia) (by lia))];show Vl (D.lst (eE 0 n))=_;rw[sM]
theorem tG {e:List (Str×V)}{c:List SObj}{n:Int}(h:((mk k).ev cx a).f s=.ok (.d (.lst l)) s1) (g:((mk k).ev cx b).f s1=.ok (.d (.int n)) ⟨e,c⟩) (i:l.length=1/\0<=n/\n<=1000):(wO (mk k) cx (.BinOp a .Mult b p)).f s=.ok (.loc c.length) ⟨e,c++[.list (LP n.toNat l).flatten]⟩:=aK (aK h (aK g (fU (if_pos i)))) rfl
theorem qh {lo:Nat}{n:Nat}(h:lo+n<=1000):cS st (.d (.rng (lo:Int) ((lo+n:Nat):Int)))=Vl (((Ky n).map λ(i:Nat)=>V.d (.int ((lo+i:Nat):Int))),st):=by
 have e:items (.rng (lo:Int) ((lo+n:Nat):Int))=Vl (eE (lo:Int) n):=by
  show Kf Vm (Kf Vm (Kf (if _ then _ else _) _))=_;rw[if_pos (w3 (by lia) (by lia) (by lia))];show Vl (eE (lo:Int) (((lo+n:Nat):Int)-(lo:Int)).toNat)=_;rw[show (((lo+n:Nat):Int)-(lo:Int)).toNat=n by lia]
 show Kf ((items (.rng (lo:Int) ((lo+n:Nat):Int))).map _) _=_;rw[e,jk];show Vl ((Na V.d _,st))=_;rw[KC]
 congr 3
theorem Ag:∀{is:List Int},vp (.int x) (is.map .int)=Vl (is.map (·==x)):=@lr _ _ (rfl) (λi is c=>by
  show Lj (Vl (i==i)) (λ_=>Lj (Vl (i==x)) λa=>(vp (.int x) (is.map .int)).map λb=>a::b)=_;rw[c];rfl)
theorem lA {is:List Int}:bV st .In (.d (.int x)) (.d (.lst (is.map .int)))=Vl (is.contains x):=by
 show Kf ((vp (.int x) (is.map .int)).map λa=>a.any id) _=_;rw[Ag];show Vl ((is.map (·==x)).any id)=_
 congr 1
 rw[Rl,List.contains_eq_any_beq]
 congr 1
 funext i;show (i==x)=(x==i);exact LO.mpr ⟨λh=>by rw[eq_of_beq h];exact beq_self_eq_true _,λh=>by rw[eq_of_beq h];exact beq_self_eq_true _⟩
theorem EE {F1:List (Str×V)}{T1:List SObj}{a:Kb}{b:List Comprehension}{scope:OI}{c:Bool}(e:((mk k).ev cx (.ListComp a b scope p)).f s=.ok v ⟨F1,T1⟩) (d:cc T1 v=Vl c):((mk (k+1)).ts cx (.ListComp a b scope p)).f s=.ok c ⟨F1,T1⟩:=aK e (fU d)
theorem DO {l:Nat}{i:Int}{d:D}(e:st[l]?=Vl (.list ds)) (h:0<=i/\i.toNat<ds.length):eD st (.loc l) i (.d d)=Vl (st.set l (.list (ds.set i.toNat d))):=by
 show (st[l]?).bind _=_;rw[e];show Kf (Kf (if _ then _ else _) _) _=_;rw[if_pos h];rfl
end
theorem BL {F1:List (Str×V)}{T1:List SObj}{k:Nat}{cx:Cx}{s:St}{Q:Bool->St->Prop}{E:D->List D->St->Prop}{t it b:Kb}{a:List Kb}{scope:OI}{pos:Pos}{v:V}(i:dM cx it a scope) (h:((mk k).ev cx it).f s=.ok v ⟨F1,T1⟩) (c:kl k (dW cx scope) t b a (ef scope.names F1) T1 v λds st=>Q (!ds.isEmpty) ⟨F1,st⟩):W (((mk (k+2)).ts cx (.ListComp b [⟨t,it,a,0⟩] scope pos)).f s) Q E:=by
 obtain ⟨ds,g,e,d⟩:=Az (pos:=pos) i h c;exact W.of (EE e rfl) d
noncomputable def wk (needs:List (List Int)):Nat->List Int
 | 0=>(Ky 9).map λ(i:Nat)=>(i:Int)
 | t+1=>((Ky 9).map λ(i:Nat)=>(i:Int)).filter λi=>!((needs[i.toNat]?.getD []).filter λx=>(wk needs t).contains x).isEmpty
theorem Iq {needs:List (List Int)}:wk needs 0=(Ky 9).map λ(i:Nat)=>(i:Int):=rfl
theorem Ip {needs:List (List Int)}{t:Nat}:wk needs (t+1)=((Ky 9).map λ(i:Nat)=>(i:Int)).filter λi=>!((needs[i.toNat]?.getD []).filter λx=>(wk needs t).contains x).isEmpty:=rfl
noncomputable def hs (needs:List (List Int)):Nat->List Int
 | 0=>LP 9 0
 | t+1=>(wk needs (t+1)).foldl (λh i=>h.set i.toNat ((t+1:Nat):Int)) (hs needs t)
theorem og {p:Int->Bool}:∀{is:List Int},(is.map D.int).filterMap (λd=>d.int?.bind λx=>cond (p x) (Vl (D.int x)) Vm)=(is.filter p).map .int:=@lr _ _ (rfl) (λi is a=>by
  have b:=a;have e:((D.int i).int?.bind λx=>cond (p x) (Vl (D.int x)) Vm)=cond (p i) (Vl (D.int i)) none:=rfl;rw[KB,KX,Mp,e];cases p i with
  | true=>exact congrArg (D.int i::·) b
  | false=>exact b)
theorem Hk {p:Nat->Bool}:∀{l:List Nat},l.filterMap (λi=>cond (p i) (Vl (D.int (i:Int))) Vm)=((l.map λ(i:Nat)=>(i:Int)).filter λi=>p i.toNat).map .int:=@lr _ _ (rfl) (λi c a=>by
  have b:=a;rw[KX,KB,Mp,KQ];cases p i with
  | true=>exact congrArg (D.int (i:Int)::·) b
  | false=>exact b)
theorem zK (n:Int):∀(l h:List Int),h.length=9->(l.foldl (λh i=>h.set i.toNat n) h).length=9:=@lr _ _ (@λ_ e=>e) (λi l a=>(@λh e=>a _ (by rw[KW];exact e)))
theorem qV (needs:List (List Int)):∀t,(hs needs t).length=9:=@nr _ (rfl) (λt a=>zK _ _ _ (a))
theorem pG {k:Nat}{needs:List (List Int)}(M:needs.length=9) (H:∀l∈needs,l.length<=2):W ((mk (k+30)).call 287 [.d (.lst (needs.map λl=>.lst (l.map .int)))] [.ctab]) (λv s=>∃d,v=.d d/\(dt s.st).isSome=Vn/\d=.lst ((hs needs 9).map .int)) noE:=by
 refine bX (fd:=aW 287) (us:=[.d (.lst (needs.map λl=>.lst (l.map .int)))]) (fr:=aY (sn "needs") (.d (.lst (needs.map λl=>.lst (l.map .int)))) []) rfl rfl rfl rfl rfl ?_;have K:bI [.ctab] .list [.d (.rng 0 9)]=Vl (.lst ((Ky 9).map λ(i:Nat)=>.int (i:Int))):=Dl (n:=9) (by decide);walk_at "a";refine' ee ?h1 ?h2 (tG ?e1 dY ?hc) ?h4
 case h1=>kernel_rfl
 case h2=>exact ⟨rfl,rfl⟩
 case e1=>walk_at "e"
 case hc=>exact w3 rfl (by decide) (by decide)
 refine' ed rfl (w3 rfl rfl rfl) ?e2 ?q2
 case e2=>walk_at "e"
 have A:∀st,cS st (.d (.rng 1 10))=Vl (((Ky 9).map λ(i:Nat)=>V.d (.int ((1+i:Nat):Int))),st):=λst=>qh (lo:=1) (n:=9) (by decide);refine ⟨(_,_),A _,?_⟩;refine lK (I:=λt fr st=>st=[.ctab,.list ((hs needs t).map .int)]/\get (sn "needs") fr=Vl (.d (.lst (needs.map λl=>.lst (l.map .int))))/\get (sn "walking") fr=Vl (.d (.lst ((wk needs t).map .int)))/\get (sn "heights") fr=Vl (.loc 1)) rfl (w4 rfl (by walk_at "g") ?_ (by exact aU)) (λt v fr st y f=>?_) λfr st f=>?_
 ·show get (sn "walking") (aY _ _ (aY _ _ _))=_;rw[cV,if_neg (beq_eq_false_iff_ne.mp rfl),cV,if_pos rfl];rw[Iq];rw[KC];rfl
 ·obtain ⟨rfl,g1,g2,g3⟩:=f;obtain ⟨J,rfl⟩:t<9/\v=.d (.int ((1+t:Nat):Int)):=by
   rw[Ks] at y;obtain ⟨j,G,rfl⟩:=KV.mp y;obtain ⟨w,c⟩:=Kd.mp G;rw[PJ] at c;refine rq c ?_;exact ⟨by simpa using w,rfl⟩
  refine' jc ?ae ?ac ?aa ?ab
  case ae=>kernel_rfl
  case ac=>exact w4 rfl rfl rfl (by decide)
  case aa=>walk_at "e"
  refine ut (n:=9) (g:=λi=>cond (!((needs[i]?.getD []).filter λx=>(wk needs t).contains x).isEmpty) (Vl (.int (i:Int))) Vm) (by decide) (λi L=>jZ rfl (lB ?_)) ?_
  ·have r:i<needs.length:=by walk_at "n"
   have o:(needs.map λl=>D.lst (l.map .int))[i]?=Vl (.lst ((needs[i]?.getD []).map .int)):=by
    rw[Ks,Ki r];rfl
   refine' BL ?k2 ?k3 ?k4
   case k2=>exact w4 rfl rfl rfl (by decide)
   case k3=>walk_at "e"
   case k4=>
    refine nM (l:=(needs[i]?.getD []).map .int) (g:=λd=>d.int?.bind λx=>cond ((wk needs t).contains x) (Vl (D.int x)) Vm) ?_ (λd b=>?_) ?_
    ·have:=H _ (Mo r);rw[Ka,Ki r];show (needs[i]).length<=_;walk_at "n"
    ·obtain ⟨x,z,rfl⟩:=Kr.mp b;refine jZ rfl (lB ?_);refine' W.of (BT rfl rfl ?m1 ?m2 lA) ⟨λq=>?m3,λq=>?m4⟩
     case m1=>walk_at "e"
     case m2=>walk_at "e"
     case m3=>
      refine' W.of ?m5 ?m6
      case m5=>walk_at "e"
      case m6=>exact ⟨rfl,_,rfl,by show cond _ _ _=_;rw[q];rfl⟩
     case m4=>exact ⟨rfl,by show cond _ _ _=_;rw[q];rfl⟩
    ·rw[og];have N:((needs[i]?.getD []).filter λx=>(wk needs t).contains x).map D.int=[]<->((needs[i]?.getD []).filter λx=>(wk needs t).contains x)=[]:=List.map_eq_nil_iff;refine ⟨λq=>?_,λq=>⟨rfl,?_⟩⟩
     ·refine' W.of ?m7 ?m8
      case m7=>walk_at "e"
      case m8=>
       refine ⟨rfl,_,rfl,?_⟩;rw[SP] at q;rw[q];rfl
     ·rw[SP] at q;rw[q];rfl
  ·rw[Hk (p:=λi=>!((needs[i]?.getD []).filter λx=>(wk needs t).contains x).isEmpty)];have e:(((Ky 9).map λ(i:Nat)=>(i:Int)).filter λi=>!((needs[i.toNat]?.getD []).filter λx=>(wk needs t).contains x).isEmpty)=wk needs (t+1):=rfl;rw[e];refine' ed rfl (w3 rfl rfl rfl) ?r1 ?r2
   case r1=>walk_at "e"
   case r2=>
    refine nK (λj fr st=>st=[.ctab,.list ((((wk needs (t+1)).take j).foldl (λh i=>h.set i.toNat ((t+1:Nat):Int)) (hs needs t)).map .int)]/\get (sn "needs") fr=Vl (.d (.lst (needs.map λl=>.lst (l.map .int))))/\get (sn "walking") fr=Vl (.d (.lst ((wk needs (t+1)).map .int)))/\get (sn "heights") fr=Vl (.loc 1)/\get (sn "turn") fr=Vl (.d (.int ((1+t:Nat):Int)))) rfl (w5 rfl (by walk_at "g") (by walk_at "g") (by walk_at "g") (by walk_at "g")) (λj d fr st b m=>?_) λfr st m=>?_
    ·obtain ⟨rfl,g1,g2,g3,g4⟩:=m;rw[Ks] at b;obtain ⟨x,o,rfl⟩:=KV.mp b;have a:0<=x/\x.toNat<9:=by
      have F:=(LN.mp (show x∈Qn _ _ from Kl o)).1;obtain ⟨u,E,rfl⟩:=Kr.mp F;have:=Lw.mp E;exact ⟨by walk_at "n",by walk_at "n"⟩
     have C:(((wk needs (t+1)).take j).foldl (λh i=>h.set i.toNat ((t+1:Nat):Int)) (hs needs t)).length=9:=zK _ _ _ (qV _ _);refine' xE rfl ?u1 ?u2 ?u3 ?u4 (aG ?u5)
     case u1=>walk_at "e"
     case u2=>walk_at "e"
     case u3=>walk_at "e"
     case u4=>exact DO rfl ⟨a.1,by rw[Ka,C];exact a.2⟩
     case u5=>
      refine w5 ?_ (by walk_at "g") (by walk_at "g") (by walk_at "g") (by walk_at "g");rw[La,o,PX,Ry 1 t];show [SObj.ctab,SObj.list (UX (Na _ _) _ _)]=[SObj.ctab,SObj.list (Na D.int (UX _ _ _))];rw[List.map_set]
    ·obtain ⟨rfl,g1,g2,g3,g4⟩:=m;rw[Ka,Mn];exact aG (aG (w4 rfl g1 g2 g3))
 ·obtain ⟨rfl,g1,g2,g3⟩:=f;rw[Ka,KD] at *;refine aG ?_;exact cg (dR rfl g3 rfl) ⟨_,w3 rfl rfl rfl⟩
end
section
set_option linter.all false
abbrev Look:=Str×List Int
noncomputable def da (l:Look):D:=.lst [.str l.1,.lst (l.2.map .int)]
theorem kM {n:Nat}:∀{s t:List Int},s.length=t.length->kN (Mv (fE (n+1)) (s.map .int) (t.map .int))=Vl (decide (s=t))
 | [],[],_=>rfl
 | a::s,b::t,h=>by
  have f:=kM (n:=n) (Ng h);show Lj (Vl (a==b)) (λx=>(kN (Mv (fE (n+1)) (s.map .int) (t.map .int))).map λy=>x&&y)=_;rw[f];show Vl ((a==b)&&decide (s=t))=_
  congr 1
  exact LO.mpr ⟨λe=>by
   obtain ⟨d,c⟩:=Kk.mp e;rw[eq_of_beq d,of_decide_eq_true c];exact decide_eq_true rfl,λe=>by
   have e:=of_decide_eq_true e;injection e with d c
   rw[d,c,beq_self_eq_true];exact decide_eq_true rfl⟩
theorem An {n:Nat}{s t:List Int}:fE (n+2) (.lst (s.map .int)) (.lst (t.map .int))=Vl (decide (s=t)):=by
 show Kf Vm (Kf Vm (Kf Vm (Kf Vm (Kf (if (s.map D.int).length=(t.map D.int).length then _ else _) _))))=_;rw[Ka,Ka];by_cases h:s.length=t.length
 ·rw[if_pos h,kM h];rfl
 ·rw[if_neg h,decide_eq_false λe=>h (by rw[e])];rfl
theorem rj {a b:Look}:fE 3 (da a) (da b)=Vl (decide (a=b)):=by
 show Kf Vm (Kf Vm (Kf Vm (Kf Vm (Kf (Lj (Vl (a.1==b.1)) λx=>KG (λy=>x&&y) (Lj (fE 2 (.lst (a.2.map .int)) (.lst (b.2.map .int))) λx=>KG (λy=>x&&y) (Vl Vn))) _))))=_;rw[An];show Vl ((a.1==b.1)&&(decide (a.2=b.2)&&Vn))=_;rw[PG]
 congr 1
 exact LO.mpr ⟨λe=>by
  obtain ⟨d,c⟩:=Kk.mp e;exact decide_eq_true (Tg (eq_of_beq d) (of_decide_eq_true c)),λe=>by
  rw[of_decide_eq_true e,beq_self_eq_true];exact decide_eq_true rfl⟩
theorem Af {a:Look}:∀{L:List Look},vp (da a) (L.map da)=Vl (L.map λb=>decide (b=a)):=@lr _ _ (rfl) (λb L c=>by
  show Lj (fE 3 (da b) (da b)) (λ_=>Lj (fE 3 (da b) (da a)) λx=>(vp (da a) (L.map da)).map λy=>x::y)=_;rw[rj,rj,c];rfl)
theorem mB {a:Look}{L:List Look}{i:Nat}(h:L.findIdx? (λb=>decide (b=a))=Vl i):gs (da a) (L.map da)=Vl i:=by
 unfold gs;rw[Af];show (L.map λb=>decide (b=a)).findIdx? id=Vl i;rw[SE];exact h
theorem Cs {st:List SObj}{l:List D}{d:D}{i:Nat}(h:gs d l=Vl i):iW st .index (.d (.lst l)) [.d d]=Vl (.d (.int (i:Int)),st):=by
 show KG _ (gs d l)=_;rw[h];rfl
noncomputable def kc (k:Int):Nat:=((sn "?pc?d?b?-?l?s???").cps[k.toNat]?).getD 0
noncomputable def Thing9.row (t:Thing9):Str:=rowS ⟨#[kc t.kind]⟩ t.rights 3
theorem yw {k:Nat}{t:Thing9}(h:t.Good):dI ((mk (k+15)).call 282 [.d (.int t.kind),.d (.int t.rights)] [.ctab])=Vl (.str t.row):=by
 have c:0<=t.kind:=by rcases h.kind with e | e | e | e | e | e<;>rw[e]<;>decide
 have b:(sn "?pc?d?b?-?l?s???").cps[t.kind.toNat]?=Vl (kc t.kind):=by
  unfold kc;rcases h.kind with e | e | e | e | e | e<;>rw[e]<;>rfl
 obtain ⟨d,e,a⟩:=cW (yv (k:=k) (r:=t.rights) c b);rw[e,a];rfl
noncomputable def cI (ts:List Thing9) (mk:List Int) (p:Nat):Look:=((ts[p]?.map Thing9.row).getD (sn ""),(ts[p]?.map λt=>cond (t.kind==4) (t.inner.map λi=>(mk[i.toNat]?).getD 0) t.inner).getD [])
noncomputable def bB (ts:List Thing9) (mk:List Int):List Look:=(Ky 9).map (cI ts mk)
noncomputable def aH (ts:List Thing9):Nat->List Int
 | 0=>LP 9 0
 | n+1=>(bB ts (aH ts n)).map λa=>(((bB ts (aH ts n)).findIdx? λb=>decide (b=a)).getD 0:Nat)
theorem uS {ts:List Thing9}{n:Nat}:aH ts (n+1)=(bB ts (aH ts n)).map λa=>((((bB ts (aH ts n)).findIdx? λb=>decide (b=a)).getD 0:Nat):Int):=rfl
theorem rr {k:Nat}{cx:Cx}{v:V}{t a:Kb}{c:List Kb}{oF fr':List (Str×V)}{st:List SObj}{o:Option D}{e:List (Str×V)}(h:dB cx t v=Vl e) (g:eF e oF=fr') (q:W (jC (mk k) cx c ⟨fr',st⟩) (λb s=>(b=Vn->W (((mk k).ev cx a).f s) (λu s=>s.st=st/\∃d,u=.d d/\o=Vl d) noE)/\(b=Vo->s.st=st/\o=Vm)) noE):jx k cx t a c oF st v o:=⟨e,h,by rw[g];exact q⟩
theorem dE {α β:Type}{f:α->β}{l:List α}:l.filterMap (λa=>Vl (f a))=l.map f:=by rw[<- List.filterMap_eq_map];rfl
theorem vf {α:Type}{b:List α}{x:α}:(b++[x])[b.length]?=Vl x:=Lp
theorem uC {α:Type}{b:List α}{x y:α}:(b++[x]).set b.length y=b++[y]:=by rw[Rz _ _ (KH _),NP];rfl
theorem cY {st:List SObj}{l:Nat}{ds:List D}{m:Str}(e:st[l]?=Vl (.list ds)):cZ st (.loc l) m=none:=by
 show (st[l]?).bind _=_;rw[e];rfl
theorem db {st:List SObj}{l:Nat}{ds:List D}{m:Str}{b:BM}(e:st[l]?=Vl (.list ds)) (h:bY m qN=Vl b):hS st (.loc l) m=Vl b:=by
 show Kf Vm ((st[l]?).bind _)=_;rw[e];exact h
theorem lG {F1:List (Str×V)}{T1:List SObj}{k:Nat}{cx:Cx}{s:St}{t it b:Kb}{a:List Kb}{scope:OI}{pos:Pos}{v:V}{L:List D}(i:dM cx it a scope) (h:((mk k).ev cx it).f s=.ok v ⟨F1,T1⟩) (c:kl k (dW cx scope) t b a (ef scope.names F1) T1 v λds st=>ds=L/\st=T1):((mk (k+1)).ev cx (.ListComp b [⟨t,it,a,0⟩] scope pos)).f s=.ok (.d (.lst L)) ⟨F1,T1⟩:=by
 obtain ⟨ds,g,e,rfl,rfl⟩:=Az (pos:=pos) i h c;exact e
theorem wt (ts:List Thing9):∀n,(aH ts n).length=9:=@nr _ (rfl) (λn _=>by
  show (Na _ (bB ts (aH ts n))).length=9;unfold bB;rw[Ka,Ka,KD])
theorem jY {st:List SObj}{l:Nat}{ds:List D}(e:st[l]?=Vl (.list ds)):dQ st l=Vl (.lst ds,st.set l .gone):=by
 unfold dQ;rw[e];rfl
theorem iJ {a:Look}{L:List Look}(h:a∈L):∃i,L.findIdx? (λb=>decide (b=a))=Vl i:=by
 cases q:L.findIdx? (λb=>decide (b=a)) with
 | some i=>exact ⟨i,rfl⟩
 | none=>exact absurd (decide_eq_true rfl) (by have:=OD.mp q a h;rw[this];decide)
theorem mJ {α β:Type}{f g:α->Option β}:∀{l:List α},(∀x∈l,f x=g x)->l.filterMap f=l.filterMap g:=@lr _ _ (@λ_=>rfl) (λa l b=>(@λh=>by rw[KX,KX,h a (.head _),b λx c=>h x (.tail _ c)]))
theorem F8 {l:List D}{n:Int}(h:l.length=1/\0<=n/\n<=1000):jv .Mult (.d (.lst l)) (.d (.int n))=Vl (.lst (LP n.toNat l).flatten):=by
 show Kf Vm (if _ then _ else _)=_;rw[if_pos h];rfl
theorem s7 {k:Nat}{ts:List Thing9}(h9:ts.length=9) (M:∀t∈ts,t.Good):W ((mk (k+40)).call 292 [.d (.lst (ts.map Thing9.d))] [.ctab]) (λv s=>∃d,v=.d d/\(dt s.st).isSome=Vn/\d=.tup [.lst (ts.map λt=>.str t.row),.lst ((aH ts 9).map .int)]) noE:=by
 refine bX (fd:=aW 292) (us:=[.d (.lst (ts.map Thing9.d))]) (fr:=aY (sn "things") (.d (.lst (ts.map Thing9.d))) []) rfl rfl rfl rfl rfl ?_;refine' jc ?a1 ?a2 ?a3 ?a4
 case a1=>kernel_rfl
 case a2=>exact w4 rfl rfl rfl (by decide)
 case a3=>walk_at "e"
 refine nM (l:=ts.map Thing9.d) (g:=λd=>d.lst?.bind λl=>(l[1]?).bind λa=>a.int?.bind λA=>(l[2]?).bind λb=>b.int?.map λr=>.str (rowS ⟨#[kc A]⟩ r 3)) (by rw[Ka];walk_at "n") (λd o=>?_) ?_
 ·obtain ⟨t,j,rfl⟩:=Kr.mp o;refine rr (fr':=aY (sn "inner") (.d (.lst (t.inner.map .int))) (aY (sn "rights") (.d (.int t.rights)) (aY (sn "kind") (.d (.int t.kind)) (aY (sn "high") (.d (.int t.high)) _)))) (dZ (aQ rfl (aQ rfl (aQ rfl (aQ rfl eA))))) rfl (iH ⟨λ_=>?_,λe=>nomatch e⟩);refine' W.of (dH (d:=.gbl 282) ?b1 rfl ?b2 (Ay ⟨?b3,rfl⟩ rfl ?b4 (jI ?b5 ?b6 ?b7 ?b8))) ?b9
  case b1=>rfl
  case b2=>kernel_rfl
  case b3=>kernel_rfl
  case b4=>walk_at "e"
  case b5=>kernel_rfl
  case b6=>walk_at "d"
  case b7=>exact yw (M t j)
  case b8=>rfl
  case b9=>exact ⟨rfl,_,rfl,rfl⟩
 ·have Q:(ts.map Thing9.d).filterMap (λd=>d.lst?.bind λl=>(l[1]?).bind λa=>a.int?.bind λA=>(l[2]?).bind λb=>b.int?.map λr=>D.str (rowS ⟨#[kc A]⟩ r 3))=ts.map λt=>D.str t.row:=by
   rw[Mq];exact dE (f:=λt:Thing9=>D.str t.row)
  rw[Q];have T:jv .Mult (.d (.lst [.int 0])) (.d (.int 9))=Vl (.lst ((aH ts 0).map .int)):=F8 (w3 rfl (by decide) (by decide));walk_at "a";refine' ed rfl (w3 rfl rfl rfl) ?c1 ?c2
  case c1=>walk_at "e"
  case c2=>
   refine eB (N:=9) (λn fr st=>(∃r,st=.ctab::r)/\get (sn "things") fr=Vl (.d (.lst (ts.map Thing9.d)))/\get (sn "rows") fr=Vl (.d (.lst (ts.map λt=>.str t.row)))/\get (sn "marks") fr=Vl (.d (.lst ((aH ts n).map .int)))) (by decide) rfl (w4 ⟨_,rfl⟩ (by walk_at "g") (by walk_at "g") (by walk_at "g")) (λn fr st hn h=>?_) λfr st h=>?_
   ·obtain ⟨⟨r,rfl⟩,H,E,L⟩:=h;refine' ee ?d1 ?d2 (dT rfl aL rfl) ?d3
    case d1=>kernel_rfl
    case d2=>exact ⟨rfl,rfl⟩
    refine' ed rfl (w3 rfl rfl rfl) ?c3 ?c4
    case c3=>walk_at "e"
    case c4=>
     refine eB (N:=9) (λp fr st=>st=(.ctab::r)++[.list (((Ky p).map (cI ts (aH ts n))).map da)]/\get (sn "things") fr=Vl (.d (.lst (ts.map Thing9.d)))/\get (sn "rows") fr=Vl (.d (.lst (ts.map λt=>.str t.row)))/\get (sn "marks") fr=Vl (.d (.lst ((aH ts n).map .int)))/\get (sn "looks") fr=Vl (.loc (SObj.ctab::r).length)) (by decide) rfl (w5 rfl (by walk_at "g") (by walk_at "g") (by walk_at "g") (by exact aU)) (λp fr st hp h=>?_) λfr st h=>?_
     ·obtain ⟨w,H,E,L,O⟩:=h;have J:p<ts.length:=by walk_at "n"
      obtain ⟨t,j⟩:∃t,ts[p]?=Vl t:=⟨_,Ki J⟩
      have G:=M t (Kl j);have Y:(ts.map Thing9.d)[p]?=Vl (.lst [.int t.high,.int t.kind,.int t.rights,.lst (t.inner.map .int)]):=by rw[Ks,j];rfl
      have S:(ts.map λt=>D.str t.row)[p]?=Vl (.str t.row):=by rw[Ks,j];rfl
      have x1:bE (.d (.lst [.int t.high,.int t.kind,.int t.rights,.lst (t.inner.map .int)])) (.d (.int 1)) st=Vl (.d (.int t.kind)):=kX (m:=1) rfl rfl;have x3:bE (.d (.lst [.int t.high,.int t.kind,.int t.rights,.lst (t.inner.map .int)])) (.d (.int 3)) st=Vl (.d (.lst (t.inner.map .int))):=kX (m:=3) rfl rfl;have u:st[(SObj.ctab::r).length]?=Vl (.list (((Ky p).map (cI ts (aH ts n))).map da)):=by rw[w];exact vf
      have I:da (cI ts (aH ts n) p)=.lst [.str t.row,.lst ((cond (t.kind==4) (t.inner.map λi=>((aH ts n)[i.toNat]?).getD 0) t.inner).map .int)]:=by unfold cI;rw[j];rfl
      have F:iW st .append (.loc (SObj.ctab::r).length) [.d (.lst [.str t.row,.lst ((cond (t.kind==4) (t.inner.map λi=>((aH ts n)[i.toNat]?).getD 0) t.inner).map .int)])]=Vl (.d .non,st.set (SObj.ctab::r).length (.list (((Ky p).map (cI ts (aH ts n))).map da++[.lst [.str t.row,.lst ((cond (t.kind==4) (t.inner.map λi=>((aH ts n)[i.toNat]?).getD 0) t.inner).map .int)]]))):=cv u (by rw[Ka,Ka,KD];walk_at "n");walk_at "a";refine' cb rfl (aT (w3 rfl rfl rfl) ?n1 ?n2 (aS (bm:=.append) ?n3 ?n4 rfl (aI rfl (mM rfl (aI rfl ?n5 (aI rfl (Aw (c:=(t.kind==4)) (v:=.d (.lst ((cond (t.kind==4) (t.inner.map λi=>((aH ts n)[i.toNat]?).getD 0) t.inner).map .int))) (cU rfl rfl ?n6 dY kK) (λq=>?n7) λq=>?n8) aL)) ?n9) aL) ?aa)) (aG ?ab)
      case n1=>decide
      case n2=>walk_at "e"
      case n3=>exact cY u
      case n4=>exact db u rfl
      case n5=>walk_at "e"
      case n6=>walk_at "e"
      case n8=>
       rw[q];show _=Res.ok (V.d (.lst (t.inner.map .int))) _;walk_at "e"
      case n7=>
       rw[q];show _=Res.ok (V.d (.lst ((t.inner.map λi=>((aH ts n)[i.toNat]?).getD 0).map .int))) _;refine' lG ?w1 ?w2 (nM (l:=t.inner.map .int) (g:=λd=>d.int?.map λi=>D.int (((aH ts n)[i.toNat]?).getD 0)) ?w3 (λd o=>?w4) ?w5)
       case w1=>exact w4 rfl rfl rfl (by decide)
       case w2=>walk_at "e"
       case w3=>rw[Ka];have:=G.inner.1;walk_at "n"
       case w4=>
        obtain ⟨x,z,rfl⟩:=Kr.mp o;have C:=G.inner.2 x z;have P:=wt ts n;have y2:((aH ts n).map D.int)[x.toNat]?=Vl (.int (((aH ts n)[x.toNat]?).getD 0)):=by
         have:x.toNat<(aH ts n).length:=by walk_at "n"
         rw[Ks,Ki this];rfl
        have U:ki ((aH ts n).map D.int).length x=Vl x.toNat:=by
         rw[Ka,P];unfold ki;rw[if_pos C.1,if_pos (by walk_at "n")]
        refine gw rfl ?_;walk_at "l"
       case w5=>
        refine ⟨?_,rfl⟩;rw[Mq,KC];exact dE (f:=λi:Int=>D.int (((aH ts n)[i.toNat]?).getD 0))
      case n9=>walk_at "p"
      case aa=>exact F
      case ab=>
       refine w5 ?_ (by walk_at "g") (by walk_at "g") (by walk_at "g") (by walk_at "g");show st.set _ _=_;rw[w,uC,N9,Kz,Kz];show _=(SObj.ctab::r)++[SObj.list (_++[da (cI ts (aH ts n) p)])];rw[I]
     ·obtain ⟨w,H,E,L,O⟩:=h;have u:st[(SObj.ctab::r).length]?=Vl (.list ((bB ts (aH ts n)).map da)):=by rw[w];exact vf
      refine aG ?_;refine' jc ?v1 ?v2 (dR ?v3 O (jY u)) ?v4
      case v1=>kernel_rfl
      case v2=>exact w4 rfl rfl rfl (by decide)
      case v3=>kernel_rfl
      case v4=>
       refine nM (l:=(bB ts (aH ts n)).map da) (g:=λd=>(gs d ((bB ts (aH ts n)).map da)).map λ(i:Nat)=>D.int (i:Int)) ?_ (λd o=>?_) ?_
       ·unfold bB;rw[Ka,Ka,KD];decide
       ·obtain ⟨a,K,rfl⟩:=Kr.mp o;obtain ⟨i,y⟩:=iJ K;have z:=mB y;refine gw rfl ?_;refine' W.of (aT (w3 rfl rfl rfl) ?z1 ?z2 (aS (bm:=.index) ?z3 ?z4 rfl ?z5 (Cs z))) ?z6
        case z1=>decide
        case z2=>walk_at "e"
        case z3=>rfl
        case z4=>kernel_rfl
        case z5=>walk_at "e"
        case z6=>exact ⟨rfl,_,rfl,by rw[z];rfl⟩
       ·have R:((bB ts (aH ts n)).map da).filterMap (λd=>(gs d ((bB ts (aH ts n)).map da)).map λ(i:Nat)=>D.int (i:Int))=(aH ts (n+1)).map .int:=by
         rw[Mq];show _=Na D.int (Na _ (bB ts (aH ts n)));rw[KC];refine Eq.trans (mJ (g:=λa=>Vl (D.int ((((bB ts (aH ts n)).findIdx? λb=>decide (b=a)).getD 0:Nat):Int))) λa K=>?_) dE;obtain ⟨i,y⟩:=iJ K;show (gs (da a) _).map _=Vl (D.int ((((bB ts (aH ts n)).findIdx? λb=>decide (b=a)).getD 0:Nat):Int));rw[mB y,y];rfl
        rw[R];refine aG (w4 ⟨r++[.gone],?_⟩ (by walk_at "g") (by walk_at "g") (by exact aU));show st.set _ _=_;rw[w,uC];rfl
   ·obtain ⟨⟨r,rfl⟩,H,E,L⟩:=h;refine aG ?_;refine' cg ?f1 ?f2
    case f1=>walk_at "e"
    case f2=>exact ⟨_,w3 rfl rfl rfl⟩
end
section
set_option linter.all false
abbrev Row:=Str×Array UInt8
noncomputable def cA (r:Row):D:=.lst [.str r.1,.bytes r.2]
noncomputable def gV (s:Str):List Int:=s.cps.toList.map λ(c:Nat)=>(c:Int)
noncomputable def eX (b:Array UInt8):List Int:=b.toList.map λ(c:UInt8)=>(c.toNat:Int)
noncomputable def rowO (r:Row):List Int:=[(r.1.cps.size:Int)]++gV r.1++[(r.2.size:Int)]++eX r.2
noncomputable def octs2 (rs:List Row):List Int:=rs.flatMap rowO
structure RowOk (r:Row):Prop where
 len:r.1.cps.size<=20
 chars:∀c∈r.1.cps.toList,c<256
 inner:r.2.size<=20
theorem Ih {st:List SObj}{s:Str}:bI st .len [.d (.str s)]=Vl (.int (s.cps.size:Int)):=rfl
theorem vD {st:List SObj}{b:Array UInt8}:bI st .len [.d (.bytes b)]=Vl (.int (b.size:Int)):=rfl
theorem F5 {st:List SObj}{c:Nat}:bI st .ord [.d (.str ⟨#[c]⟩)]=Vl (.int (c:Int)):=rfl
theorem nh {st:List SObj}{b:Array UInt8}(h:b.size<=1000):bI st .list [.d (.bytes b)]=Vl (.lst ((eX b).map .int)):=by
 show (if _ then _ else _)=_;rw[if_pos h];unfold eX il;rw[KC];rfl
theorem BK {k:Nat}{b:Cx}{t a:Kb}{g:List Kb}{oF:List (Str×V)}{st:List SObj}{s:Str}{f:Nat->D}{K:List D->List SObj->Prop}(hn:s.cps.size<=100000) (i:∀c∈s.cps.toList,jx k b t a g oF st (.d (.str ⟨#[c]⟩)) (Vl (f c))) (q:K (s.cps.toList.map f) st):kl k b t a g oF st (.d (.str s)) K:=by
 refine y2 (s.cps.toList.map λc=>V.d (.str ⟨#[c]⟩)) st (w3 ?_ (by rw[Ka,KJ];exact hn) ⟨λv=>v.d?.bind λd=>d.str?.bind λs=>(s.cps[(0:Nat)]?).map f,λv h=>?_,?_⟩)
 ·show Vl (Na V.d (s.cps.toList.map λc=>D.str ⟨#[c]⟩),st)=_;rw[KC];rfl
 ·obtain ⟨c,j,rfl⟩:=Kr.mp h;exact i c j
 ·rw[Mq];have e:s.cps.toList.filterMap ((λv:V=>v.d?.bind λd=>d.str?.bind λs=>(s.cps[(0:Nat)]?).map f) ∘ λc=>V.d (.str ⟨#[c]⟩))=s.cps.toList.map f:=dE (f:=f);rw[e];exact q
theorem wb {r:Row}(h:RowOk r):(rowO r).length<=42/\∀i∈rowO r,bK i:=by
 have e:=h.len;have f:=h.inner;have b:(gV r.1).length=r.1.cps.size:=by unfold gV;rw[Ka,KJ]
 have d:(eX r.2).length=r.2.size:=by unfold eX;rw[Ka,KJ]
 unfold rowO;refine ⟨?_,λi hi=>?_⟩
 ·rw[Kj,Kj,Kj,b,d];show 1+_+1+_<=42;lia
 ·unfold bK;rcases Ku.mp hi with hi | hi
  ·rcases Ku.mp hi with hi | hi
   ·rcases Ku.mp hi with hi | hi
    ·rw[Kg.mp hi];lia
    ·obtain ⟨c,a,rfl⟩:=Kr.mp hi;have:=h.chars c a;lia
   ·rw[Kg.mp hi];lia
  ·obtain ⟨c,a,rfl⟩:=Kr.mp hi;have:=c.toNat_lt;lia
theorem jm {rs:List Row}(f:∀r∈rs,RowOk r):(octs2 rs).length<=42*rs.length/\∀i∈octs2 rs,bK i:=by
 induction rs with
 | nil=>exact ⟨KH _,λi e=>nomatch e⟩
 | cons t ts g=>
  obtain ⟨a,b⟩:=g λt h=>f t (.tail _ h);obtain ⟨c,d⟩:=wb (f t (.head _));unfold octs2 at a b ⊢
  rewrite [NM,Kj,Ls]
  exact ⟨by lia,λi e=>(Ku.mp e).elim (d i) (b i)⟩
theorem md {rs:List Row}{i:Nat}{r:Row}(h:rs[i]?=Vl r):octs2 (rs.take (i+1))=octs2 (rs.take i)++rowO r:=by
 unfold octs2;rw[La,h,M2];simp
theorem sg {k:Nat}{rs:List Row}(o:rs.length<=9) (j:∀r∈rs,RowOk r):W ((mk (k+20)).call 268 [.d (.lst (rs.map cA))] [.ctab]) (λv s=>∃d,v=.d d/\(dt s.st).isSome=Vn/\d=.bytes (aR (octs2 rs))) noE:=by
 refine bX (fd:=aW 268) (us:=[.d (.lst (rs.map cA))]) (fr:=aY (sn "rows") (.d (.lst (rs.map cA))) []) rfl rfl rfl rfl rfl ?_;walk_at "a";refine ed rfl (w3 rfl rfl rfl) (by walk_at "e") ?_;refine kq (λi fr st=>st=[.ctab]/\get (sn "octets") fr=Vl (.d (.lst ((octs2 (rs.take i)).map .int)))) ⟨rfl,by exact aU⟩ (λi d fr st l h=>?_) λfr st h=>?_
 ·obtain ⟨rfl,g⟩:=h;rw[Ks] at l;obtain ⟨r,m,rfl⟩:=KV.mp l;have G:=j r (Kl m);have z:=G.len;have C:=G.inner;have x:=(jm (rs:=rs.take i) λt p=>j t (MB p)).1;have n:(rs.take i).length<=9:=by rw[Lr];walk_at "n"
  have w:bI [.ctab] .len [.d (.str r.1)]=Vl (.int (r.1.cps.size:Int)):=rfl;have u:bI [.ctab] .len [.d (.bytes r.2)]=Vl (.int (r.2.size:Int)):=rfl;have y:bI [.ctab] .list [.d (.bytes r.2)]=Vl (.lst ((eX r.2).map .int)):=nh (by walk_at "n");have A:(gV r.1).length=r.1.cps.size:=by unfold gV;rw[Ka,KJ]
  have E:(eX r.2).length=r.2.size:=by unfold eX;rw[Ka,KJ]
  refine y2 _ (aY (sn "inner") (.d (.bytes r.2)) (aY (sn "row") (.d (.str r.1)) fr)) (w3 (dZ (aQ rfl (aQ rfl eA))) rfl ?_);refine' bT ?h1 ?h2 (ij (ij (ij (ij ?h3 ?h4 (rU ?h5)) (lG (L:=(gV r.1).map .int) ?h6 ?h7 ?h8) (rU ?h9)) ?ac (rU ?af)) ?ae (rU ?aa)) (aG ?ab)
  case h1=>kernel_rfl
  case h2=>exact ⟨rfl,rfl⟩
  case h3=>walk_at "e"
  case h4=>walk_at "e"
  case h6=>exact w4 rfl rfl rfl (by decide)
  case h7=>walk_at "e"
  case h8=>
   refine BK (f:=λc=>.int (c:Int)) (by walk_at "n") (λc H=>gw rfl ?_) ⟨?_,rfl⟩
   ·refine' W.of (dH (d:=.bi .ord) ?w1 rfl ?w2 (rC ?w3 ?w4 ?w5 ?w6)) ?w7
    case w1=>rfl
    case w2=>kernel_rfl
    case w3=>kernel_rfl
    case w4=>kernel_rfl
    case w5=>walk_at "e"
    case w6=>exact F5
    case w7=>exact ⟨rfl,_,rfl,rfl⟩
   ·unfold gV;rw[KC];rfl
  case ac=>walk_at "e"
  case ae=>walk_at "e"
  case h5=>rw[Ka];show _+1<=_;walk_at "n"
  case h9=>rw[Kj,Ka,Ka];show _+1+_<=_;walk_at "n"
  case af=>rw[Kj,Kj,Ka,Ka];show _+1+_+1<=_;walk_at "n"
  case aa=>rewrite [Kj,Kj,Kj,Ka,Ka,Ka];show _+1+_+1+_<=_;walk_at "n"
  case ab=>
   refine ⟨rfl,?_⟩;rw[md m,Kz];unfold rowO;rw[Kz,Kz,Kz,<- KT,<- KT,<- KT];exact aU
 ·obtain ⟨rfl,g⟩:=h;rw[Ka,Mn] at g;obtain ⟨a,b⟩:=jm j;have F:=im (st:=[.ctab]) (eh (octs2 rs)) ⟨by walk_at "n",b⟩;refine aG ?_;refine' cg ?e ?q
  case e=>walk_at "e"
  case q=>exact ⟨_,w3 rfl rfl rfl⟩
end
section
set_option linter.all false
section
variable {k:Nat}{cx:Cx}{s s1:St}{Q:Fl->St->Prop}{E:D->List D->St->Prop}{body hb ss:List Stmt}{b:Stmt}{ty:Kb}{nm:Option Str}{hp p pos cp:Pos}{kc d:D}{as:List D}{n f:Str}{args:List Kb}{vs:List V}{ds:List D}
theorem qc (c:cx.comp=Vo/\cx.inH=Vo) (h:W (((mk k).xs cx body).f s) (λf s=>W (cH f s ((mk k).xs cx ss).f) Q E) (λkc as s=>W (kZ (cx:=cx) (mk k) ty nm b hb kc as s) (λf s=>W (cH f s ((mk k).xs cx ss).f) Q E) E)):W (((mk (k+1)).xs cx (.Try body [.ExceptHandler (Vl ty) nm (b::hb) hp] [] [] p::ss)).f s) Q E:=by
 refine W.bind (W.ite c ?_);cases a:((mk k).xs cx body).f s with
 | bad=>rw[a] at h;exact h
 | ok f s1=>rw[a] at h;exact h
 | exn kc as s1=>rw[a] at h;exact h
theorem uu {x:Res Fl}{g:St->St}(h:W x (λf s=>Q f (g s)) noE):W (uO x g) Q E:=by
 cases x<;>first | exact h | exact h.elim
theorem oH {F1:List (Str×V)}{T1:List SObj}(a:((mk k).ev cx.hand ty).f s=.ok (.d d) ⟨F1,T1⟩) (hs:nA kc d=Vn) (hn:cx.names.lookup n=Vl .local) (h:W (((mk k).xs cx.hand (b::hb)).f ⟨aY n (.loc T1.length) F1,T1++[.exc kc as]⟩) (λf s=>Q f ⟨Da n s.fr,s.st⟩) noE):W (kZ (cx:=cx) (mk k) ty (Vl n) b hb kc as s) Q E:=by
 unfold kZ;rw[a];show W (if nA kc d=Vn then lP (cx:=cx) (mk k) (Vl n) b hb kc as ⟨F1,T1⟩ else .bad) Q E;rw[if_pos hs];show W (if cx.names.lookup n=Vl .local then _ else .bad) Q E;rw[if_pos hn];exact uu h
theorem BN (a:((mk k).ev cx.hand ty).f s=.ok (.d d) s1) (hs:nA kc d=Vn) (h:W (((mk k).xs cx.hand (b::hb)).f s1) Q noE):W (kZ (cx:=cx) (mk k) ty Vm b hb kc as s) Q E:=by
 unfold kZ;rw[a];show W (if nA kc d=Vn then lP (cx:=cx) (mk k) Vm b hb kc as s1 else .bad) Q E;rw[if_pos hs];exact uu (g:=id) h
theorem oD (b:cx.inH=Vo/\cD args=Vn/\args≠[]) (c:sN cx f=Vl kc) (h:bM ((mk k).ev cx) args s=.ok vs s1) (a:ej vs=Vl ds) (d:ds.length<=1000) (q:E kc ds s1):W (((mk (k+1)).xs cx (.Raise (Vl (.Call (.Name f p) args [] cp)) Vm pos::ss)).f s) Q E:=by
 refine W.bind (W.ite b ?_);rw[c];show W (Res.bind _ _) _ _;rw[aK h rfl];unfold lL;rw[a];show W (if _ then _ else _) _ _;rw[if_pos d];exact q
end
section
variable {k:Nat}{a:Addr}{vs:List V}{s:St}{v:V}{st:List SObj}{fr:List (Str×V)}
theorem fA {c:List (Str×V)}{b:List SObj}(d:ie.contains a=Vo) (h:(mk k).call a vs b=.ok v ⟨[],st⟩):eW (mk k) a vs ⟨c,b⟩=.ok v ⟨c,st⟩:=by
 unfold eW;rw[d];show uc c ((mk k).call a vs b)=_;rw[h];rfl
end
end
section
set_option linter.all false
theorem yl {st:List SObj}{b:Array UInt8}{i j:Int}(h:0<=i/\0<=j):fN st (.d (.bytes b)) (Vl (.int i)) (Vl (.int j)) Vm=Vl (.bytes (iU b i.toNat j.toNat)):=by
 show Kf Vm (if _ then _ else _)=_;rw[if_pos (w3 h.1 h.2 rfl)];rfl
noncomputable abbrev rh:FuncData:=FH [] .none .none 0 .none
theorem wg {k:Nat}{b:Array UInt8}{l:Nat}{st:List SObj}{pos c:Int}(e:st[l]?=Vl (.list [.int pos])) (h:0<=pos) (o:0<=c):W (uI (mk (k+12)) b l (.int c) st) (λv s=>v=.d (.bytes (iU b pos.toNat (pos+c).toNat))/\s=⟨[],st.set l (.list [.int (pos+(iU b pos.toNat (pos+c).toNat).size)])⟩) noE:=by
 have n:get (sn "octets") (ll b l)=Vl (.d (.bytes b)):=if_pos rfl;have j:get (sn "at") (ll b l)=Vl (.loc l):=(if_neg yU).trans (if_pos rfl);have a:W (((mk (k+12)).xs (gP rh) (dA rh)).f ⟨aY (sn "count") (.d (.int c)) (ll b l),st⟩) (EF λv s=>v=.d (.bytes (iU b pos.toNat (pos+c).toNat))/\s=⟨[],st.set l (.list [.int (pos+(iU b pos.toNat (pos+c).toNat).size)])⟩) noE:=by
  have x1:bE (.loc l) (.d (.int 0)) st=Vl (.d (.int pos)):=Ha (m:=0) e rfl rfl;have x2:fN st (.d (.bytes b)) (Vl (.int pos)) (Vl (.int (pos+c))) Vm=Vl (.bytes (iU b pos.toNat (pos+c).toNat)):=yl ⟨h,by lia⟩;walk_at "a";have i:qZ st (.loc l) 0=Vl (.int pos):=by
   unfold qZ;show Lj (Kf Vm ((st[l]?).bind SObj.list?)) _=_;rw[e];rfl
  have y2:bI st .len [.d (.bytes (iU b pos.toNat (pos+c).toNat))]=Vl (.int ((iU b pos.toNat (pos+c).toNat).size:Int)):=rfl;refine' Eo ?n1 ?n6 ?n2 ?n7 ?n3 (cg ?n4 ?n5)
  case n1=>walk_at "e"
  case n2=>walk_at "e"
  case n6=>exact i
  case n7=>rfl
  case n3=>exact DO e ⟨Qs _,Oj⟩
  case n4=>walk_at "e"
  case n5=>exact ⟨rfl,rfl⟩
 show W (Hs (((mk (k+12)).xs (gP rh) (dA rh)).f ⟨eF ((bx rh).zip [.d (.int c)]) (ll b l),st⟩)) _ _;rw[show eF ((bx rh).zip [.d (.int c)]) (ll b l)=aY (sn "count") (.d (.int c)) (ll b l) by kernel_rfl];cases g:((mk (k+12)).xs (gP rh) (dA rh)).f ⟨aY (sn "count") (.d (.int c)) (ll b l),st⟩ with
 | bad=>rw[g] at a;exact a
 | exn=>rw[g] at a;exact a
 | ok f s=>rw[g] at a;cases f<;>exact a
end
section
set_option linter.all false
def Wk (a:Nat->List Nat):Nat->Nat->Prop
 | 0,_=>True
 | t+1,i=>∃j∈a i,Wk a t j
section
variable {nd:Nat->List Nat}{i j k t n:Nat}
theorem Wk.pred:∀{t i},Wk nd (t+1) i->Wk nd t i
 | 0,_,_=>trivial
 | _+1,_,⟨j,a,b⟩=>⟨j,a,b.pred⟩
theorem Wk.le {s t:Nat}(h:s<=t):Wk nd t i->Wk nd s i:=by
 induction h with
 | refl=>exact id
 | step _ a=>exact λq=>a q.pred
def Hg (nd:Nat->List Nat) (k i:Nat):Prop:=Wk nd k i/\¬Wk nd (k+1) i
theorem Hg.uniq (h:Hg nd k i) (h':Hg nd t i):k=t:=Ol (MI λq=>h'.2 (h.1.le q)) (MI λq=>h.2 (h'.1.le q))
theorem Hc:∀{t},¬Wk nd t i->∃k,k<t/\Hg nd k i:=@nr _ (@λh=>absurd trivial h) (λt a=>(@λh=>(QD (Wk nd t i)).elim (λq=>⟨t,w3 (L8 _) q h⟩) λq=>(a q).imp λ_ h=>⟨Mg h.1,h.2⟩))
theorem CO (h:¬Wk nd (k+1) i) (a:j∈nd i):¬Wk nd k j:=λq=>h ⟨j,a,q⟩
theorem mE:∀{k i},Hg nd (k+1) i->∃j∈nd i,Hg nd k j:=λ{k i} ⟨⟨j,a,b⟩,c⟩=>⟨j,w3 a b (λq=>c ⟨j,a,q⟩)⟩
theorem uq {r:Nat->Nat}{P:Nat->Prop}(a:∀i,P i->∀j∈nd i,P j/\r j<r i):∀{t i},P i->Wk nd t i->t<=r i
 | 0,_,_,_=>LA _
 | _+1,i,p,⟨j,b,c⟩=>Nat.succ_le_of_lt (ML (uq a (a i p j b).1 c) (a i p j b).2)
theorem uo {c:List Nat}(l:2<=c.length) (h:c[0]?=c[c.length-1]?) (j:∀a x y,c[a]?=Vl x->c[a+1]?=Vl y->x∈nd y):∀t x,x∈c->Wk nd t x:=@nr _ (@λ_ _=>trivial) (λt e=>(@λx k=>by
  have g:=e;obtain ⟨a,d⟩:=K0.mp k;have f:=(Kd.mp d).1;have b:∀a,a<c.length->0<a->∀x,c[a]?=Vl x->Wk nd (t+1) x:=λa f i x d=>by
   cases a with
   | zero=>exact absurd i (Mz _)
   | succ a=>exact ⟨c[a],j a _ x (Ki (by (first | omega | lia))) d,g _ (Mo _)⟩
  cases a with
  | succ a=>exact b _ f (M6 _) x d
  | zero=>exact b (c.length-1) (by (first | omega | lia)) (by (first | omega | lia)) x (h▸d)))
end
end
section
set_option linter.all false
def xz (c:Nat->Nat) (e r:List Nat):Prop:=r.Nodup/\∀s,s∈r<->s∈e/\c s<=e.count s
section
variable {nd:Nat->List Nat}{i j k t n s:Nat}{c:Nat->Nat}{e r g l:List Nat}
theorem xz.nil:xz c [] []:=⟨Tk,λ_=>⟨λh=>(nomatch h),λh=>nomatch h.1⟩⟩
theorem gA {x:Nat}:(e++[s]).count x=e.count x+if s=x then 1 else 0:=by
 rw[PY,List.count_singleton];simp[beq_iff_eq]
theorem xz.hit (h:xz c e r) (q:c s=e.count s+1):xz c (e++[s]) (r++[s]):=by
 have hs:s∉r:=λm=>by have:=((h.2 s).mp m).2;(first | omega | lia)
 refine ⟨Lu.mpr (w3 h.1 (Ma _ _) (λa f b g=>?_)),λx=>?_⟩
 ·rw[Kg.mp g];exact λq=>hs (q▸f)
 ·rw[gA,Ku,Ku,Kg];by_cases d:s=x
  ·subst d;rw[if_pos rfl];exact ⟨λ_=>⟨.inr rfl,by (first | omega | lia)⟩,λ_=>.inr rfl⟩
  ·rw[if_neg d,h.2 x];exact ⟨λm=>m.elim (λm=>⟨.inl m.1,m.2⟩) λm=>absurd m.symm d,λm=>m.1.elim (λa=>.inl ⟨a,m.2⟩) λa=>.inr a⟩
theorem xz.miss (h:xz c e r) (q:e.count s+1<c s):xz c (e++[s]) r:=by
 refine ⟨h.1,λx=>?_⟩;rw[gA,Ku,Kg,h.2 x];by_cases b:s=x
 ·subst b;rw[if_pos rfl];exact ⟨λm=>by (first | omega | lia),λm=>by (first | omega | lia)⟩
 ·rw[if_neg b];exact ⟨λm=>⟨.inl m.1,m.2⟩,λm=>m.1.elim (λa=>⟨a,m.2⟩) λa=>absurd a.symm b⟩
theorem qz {g:List Nat}:∀{l:List Nat},(g.map λi=>l.count i).sum=(l.map λx=>g.count x).sum:=@lr _ _ (by induction g with
  | nil=>rfl
  | cons a g b=>simpa using b)
 (λx l c=>by
  have b:=c;have:∀g:List Nat,(g.map λi=>(x::l).count i).sum=g.count x+(g.map λi=>l.count i).sum:=λg=>by
   induction g with
   | nil=>rfl
   | cons a g d=>
    rw[KB,KB,L4,L4,d,Ob,Ob];by_cases q:x=a
    ·subst q;simp;lia
    ·have e:¬a=x:=λh=>q h.symm;simp[q,e];lia
  rw[this,b];rfl)
def gF (nd su:Nat->List Nat) (n:Nat):Prop:=∀i,i<n->∀s,(s<n->(su i).count s=(nd s).count i)/\(s∈su i->s<n)
open Classical in
noncomputable def cnt (nd:Nat->List Nat) (k s:Nat):Nat:=(nd s).countP λx=>decide (Wk nd k x)
theorem BV {p:Nat->Bool}{f:Nat->Nat}(b:∀x∈l,f x=cond (p x) 1 0):(l.map f).sum=l.countP p:=by
 induction l with
 | nil=>rfl
 | cons a l c=>
  rw[KB,L4,ON,c λx d=>b x (.tail _ d),b a (.head _)];cases p a<;>simp<;>lia
theorem tp {su:Nat->List Nat}:(g.flatMap su).count s=(g.map λi=>(su i).count s).sum:=by
 induction g with
 | nil=>rfl
 | cons a g b=>rw[NM,PY,b];rfl
theorem pS {p q w:Nat->Bool}(h:∀x∈l,(p x=Vn<->q x=Vn\/w x=Vn)/\¬(q x=Vn/\w x=Vn)):l.countP p=l.countP q+l.countP w:=by
 induction l with
 | nil=>rfl
 | cons a l e=>
  have f:=h a (.head _);rw[ON,ON,ON,e λx g=>h x (.tail _ g)];cases c:p a<;>cases d:q a<;>cases b:w a<;>simp[c,d,b] at f ⊢<;>lia
structure Grp (nd:Nat->List Nat) (n k:Nat) (g:List Nat):Prop where
 nod:g.Nodup
 mem:∀s,s∈g<->s<n/\Hg nd k s
theorem rL:cnt nd k s=0<->¬Wk nd (k+1) s:=by
 classical
 unfold cnt;rw[List.countP_eq_zero];exact ⟨λh ⟨j,a,b⟩=>h j a (decide_eq_true b),λh j a b=>h ⟨j,a,of_decide_eq_true b⟩⟩
section
variable {su:Nat->List Nat}(T:gF nd su n) (G:Grp nd n k g) (hn:∀s,s<n->∀x∈nd s,x<n)
include T G hn
theorem lD (hs:s<n):cnt nd k s=cnt nd (k+1) s+(g.flatMap su).count s:=by
 classical
 have d:(g.flatMap su).count s=(nd s).countP λx=>decide (x∈g):=by
  rw[tp,LK (g:=λi=>(nd s).count i) λi c=>(T i ((G.mem i).mp c).1 s).1 hs,qz];refine BV λx b=>?_;by_cases q:x∈g
  ·rw[G.nod.count,if_pos q,decide_eq_true q];rfl
  ·rw[Sl.mpr q,decide_eq_false q];rfl
 rw[d];unfold cnt;refine pS λx b=>?_;have a:=hn s hs x b;rw[decide_eq_true_iff,decide_eq_true_iff,decide_eq_true_iff,G.mem];refine ⟨⟨λq=>?_,λq=>q.elim (λq=>q.pred) λq=>q.2.1⟩,λq=>q.2.2.2 q.1⟩;exact (QD (Wk nd (k+1) x)).imp id λh=>w3 a q h
theorem tg (h:s∈g.flatMap su):s<n/\Wk nd (k+1) s:=by
 obtain ⟨i,a,hs⟩:=P8.mp h;have q:=(G.mem i).mp a;have hn:=(T i q.1 s).2 hs;refine ⟨hn,i,Mr.mp ?_,q.2.1⟩;rw[<- (T i q.1 s).1 hn];exact Mr.mpr hs
theorem zO (h:xz (cnt nd k) (g.flatMap su) r):Grp nd n (k+1) r:=by
 refine ⟨h.1,λs=>(h.2 s).trans ⟨λ⟨a,b⟩=>?_,λ⟨a,b⟩=>?_⟩⟩
 ·obtain ⟨e,f⟩:=tg T G hn a;have:=lD T G hn e;exact w3 e f (rL.mp (by lia))
 ·have:=lD T G hn a;have z:=rL.mpr b.2;obtain ⟨j,d,i⟩:=mE b;have c:=hn s a j d;refine ⟨P8.mpr ⟨j,(G.mem j).mpr ⟨c,i⟩,Mr.mp ?_⟩,by lia⟩;rw[(T j c s).1 a];exact Mr.mpr d
end
end
end
section
set_option linter.all false
def Bp (su:Nat->List Nat):List Nat->Prop
 | []=>True
 | f::r=>(∀x∈su f,x∈r)/\Bp su r
def Ch (su:Nat->List Nat) (a:List Nat):Option Nat->List (Nat×Nat)->Prop
 | _,[]=>True
 | o,p::r=>(p.2<=(su p.1).length/\(∀i x,i<p.2->(su p.1)[i]?=Vl x->x∈a\/o=Vl x)/\∀x,o=Vl x->x∈su p.1)/\Ch su a (Vl p.1) r
section
variable {nd su:Nat->List Nat}{n:Nat}{fin:List Nat}{o:Option Nat}{S:List (Nat×Nat)}{v q x:Nat}
theorem Ch.mono {a:List Nat}(c:∀x∈fin,x∈a):∀{S}{o b:Option Nat},(∀x,o=Vl x->x∈a\/b=Vl x)->(∀x,b=Vl x->o=Vl x)->Ch su fin o S->Ch su a b S
 | [],_,_,_,_,_=>trivial
 | p::r,_,_,d,hb,⟨⟨h,f,j⟩,g⟩=>⟨w3 h (λi x k e=>(f i x k e).elim (λm=>.inl (c x m)) (d x)) (λx e=>j x (hb x e)),Ch.mono c (λ_ e=>.inr e) (λ_ e=>e) g⟩
theorem Ch.push (h:Ch su fin (Vl v) S):Ch su fin Vm ((v,0)::S):=⟨w3 (LA _) (λi x a=>absurd a (L5 _)) (λ_ e=>nomatch e),h⟩
theorem Ch.next (h:Ch su fin Vm ((v,q)::S)) (e:(su v)[q]?=Vl x):Ch su fin (Vl x) ((v,q+1)::S):=by
 obtain ⟨⟨d,b,f⟩,c⟩:=h;refine ⟨w3 ((Kd.mp e).1) (λi y hi a=>?_) (λy a=>J9 a▸Kl e),c⟩;rcases My.mp hi with hi | hi
 ·exact .inl ((b i y hi a).elim id λe=>absurd e nofun)
 ·subst hi;exact .inr (e.symm.trans a)
theorem Ch.pop (h:Ch su fin Vm ((v,q)::S)) (e:(su v)[q]?=Vm):(∀x∈su v,x∈fin)/\Ch su (v::fin) Vm S:=by
 obtain ⟨⟨g,c,j⟩,d⟩:=h;have b:=KY.mp e;refine ⟨λx f=>?_,d.mono (λx h=>.tail _ h) (λx e=>.inl (J9 e▸.head _)) nofun⟩;obtain ⟨i,a⟩:=K0.mp f;have:=(Kd.mp a).1;exact (c i x (by have:q>=_:=b;show i<q;walk_at "n") a).elim id λe=>absurd e nofun
theorem Ch.old (h:Ch su fin (Vl x) S) (m:x∈fin):Ch su fin Vm S:=h.mono (λ_ h=>h) (λy e=>.inl (J9 e▸m)) nofun
structure Ring (nd:Nat->List Nat) (n:Nat) (c:List Nat):Prop where
 len:2<=c.length
 ends : c[0]? = c[c.length - 1]?
 once:c.dropLast.Nodup
 lt:∀x∈c,x<n
 by_:∀a x y,c[a]?=Vl x->c[a+1]?=Vl y->x∈nd y
theorem Ch.path:∀{S:List (Nat×Nat)}{x:Nat},Ch su fin (Vl x) S->∀a u w,((S.map (·.1)).reverse++[x])[a]?=Vl u->((S.map (·.1)).reverse++[x])[a+1]?=Vl w->w∈su u
 | [],x,_,a,u,w,_,b=>nomatch b
 | p::r,x,h,a,u,w,c,b=>by
  rw[KB,MD] at c b;by_cases q:a+1<((r.map (·.1)).reverse++[p.1]).length
  ·rw[Kx (by walk_at "n")] at c;rw[Kx q] at b;exact h.2.path a u w c b
  ·have e:=(Kd.mp b).1;rw[Kj,KM] at e;have d:a+1=((r.map (·.1)).reverse++[p.1]).length:=by walk_at "n"
   rw[d,Lp] at b;rw[Kj,KM] at d;rw[Kx (by rw[Kj,KM];walk_at "n"),show a=((r.map (·.1)).reverse).length by walk_at "n",Lp] at c;refine rq (J9 c) ?_;refine rq (J9 b) ?_;exact h.1.2.2 _ rfl
theorem B9 (T:gF nd su n) (h:Ch su fin (Vl x) S) (g:(S.map (·.1)).Nodup) (e:∀y∈S.map (·.1),y<n){i:Nat}(j:((S.map (·.1)).reverse)[i]?=Vl x):Ring nd n (((S.map (·.1)).reverse).drop i++[x]):=by
 have q:=(Kd.mp j).1;have p:((S.map (·.1)).reverse).drop i++[x]=((S.map (·.1)).reverse++[x]).drop i:=(List.drop_append_of_le_length (by walk_at "n")).symm;have m:x<n:=e x (OK.mp (Kl j));refine ⟨?_,?_,?_,λy b=>?_,λa u w d l=>?_⟩
 ·rw[Kj,M4,KM];walk_at "n"
 ·rw[Kj,KM,SA,Lp,Kx (by rw[M4];walk_at "n"),NE];exact j
 ·rw[MT];exact ((List.reverse_perm _).nodup_iff.mpr g).sublist (SF _ _)
 ·rcases Ku.mp b with b | b
  ·exact e y (OK.mp (RE b))
  ·rw[Kg.mp b];exact m
 ·rw[p,NE] at d l;have k:=h.path _ u w d l;have o:∀y,y∈(S.map (·.1)).reverse++[x]->y<n:=λy b=>(Ku.mp b).elim (λb=>e y (OK.mp b)) λb=>Kg.mp b▸m;have c:=o u (Kl d);have f:=(T u c w).2 k;refine Mr.mp ?_;rw[<- (T u c w).1 f];exact Mr.mpr k
theorem nN:∀{fin:List Nat},Bp su fin->fin.Nodup->∀j i,j∈fin->i∈su j->i∈fin/\fin.idxOf j<fin.idxOf i
 | [],_,_,j,_,c,_=>nomatch c
 | f::r,⟨k,h⟩,nd,j,i,c,hi=>by
  obtain ⟨d,l⟩:=LM.mp nd;rw[S8,S8];by_cases q:f=j
  ·subst q;have g:=k i hi;have:¬f=i:=λe=>d (e▸g);rw[beq_self_eq_true,beq_eq_false_iff_ne.mpr this];exact ⟨.tail _ g,M6 _⟩
  ·have c:j∈r:=(Kt.mp c).elim (λe=>absurd e.symm q) id;obtain ⟨a,b⟩:=nN h l j i c hi;have:¬f=i:=λe=>d (e▸a);rw[beq_eq_false_iff_ne.mpr q,beq_eq_false_iff_ne.mpr this];exact ⟨.tail _ a,OR b⟩
theorem Cq (T:gF nd su n) (hn:∀s,s<n->∀x∈nd s,x<n) (f:Bp su fin) (e:fin.Nodup) (c:∀i,i<n->i∈fin){t i:Nat}(b:i<n) (h:Wk nd t i):t<fin.length:=by
 refine ML (uq (r:=λi=>fin.idxOf i) (P:=λi=>i<n) (λi b j d=>?_) b h) (List.idxOf_lt_length_of_mem (c i b));have a:=hn i b j d;refine ⟨a,(nN f e j i (c j a) (Mr.mp ?_)).2⟩;rw[(T j a i).1 b];exact Mr.mpr d
theorem oZ {f:Nat->Nat}:∀{n:Nat}{l:List Nat},l.Nodup->(∀x∈l,x<n)->(l.map f).sum<=((Ky n).map f).sum:=@nr _ (@λl _ h=>by
  cases l with
  | nil=>exact KH _
  | cons a l=>exact absurd (h a (.head _)) (L5 _))
 (λn b=>(@λl d h=>by
  rw[N9,Kz,S7];by_cases q:n∈l
  ·have p:=List.perm_cons_erase q;have e:=(p.map f).sum_nat;have g:=b (l:=l.erase n) (d.erase n) λx c=>by
    have:=h x (List.mem_of_mem_erase c);have:x≠n:=λe=>(List.Nodup.not_mem_erase d) (e▸c)
    lia
   rw[KB,L4] at e;rw[e];show _<=_+(f n+0);lia
  ·exact Lo (b d λx c=>by have:=h x c;have:x≠n:=λe=>q (e▸c);lia) (OS _ _)))
end
end
section
set_option linter.all false
noncomputable def ndOf (needs:List (List Int)) (i:Nat):List Nat:=((needs[i]?).getD []).map OT
def xw (needs:List (List Int)) (n:Nat):Prop:=∀l∈needs,∀x∈l,0<=x/\x<(n:Int)
section
variable {needs:List (List Int)}{n:Nat}
theorem xw.at_ (h:xw needs n) (i:Nat):∀x∈(needs[i]?).getD [],0<=x/\x<(n:Int):=λx a=>by
 cases e:needs[i]? with
 | none=>rw[e] at a;exact nomatch a
 | some l=>rw[e] at a;exact h l (Kl e) x a
theorem xw.lt (h:xw needs n) (i:Nat):∀x∈ndOf needs i,x<n:=λx b=>by
 obtain ⟨y,a,rfl⟩:=Kr.mp b;have:=h.at_ i y a
 (first | omega | lia)
theorem zc {i:Nat}:((i:Int)∈(Ky 9).map λ(i:Nat)=>(i:Int))<->i<9:=⟨λh=>by obtain ⟨j,a,e⟩:=Kr.mp h;have:=Lw.mp a;lia,λh=>Kr.mpr ⟨i,Lw.mpr h,rfl⟩⟩
theorem zb (h:xw needs 9):∀{t i:Nat},i<9->((i:Int)∈wk needs t<->Wk (ndOf needs) t i):=@nr _ (@λi d=>⟨λ_=>trivial,λ_=>zc.mpr d⟩) (λt e=>(@λi d=>by
  rw[Ip];rw[LN,zc,KQ,KL,Px];refine ⟨λ⟨_,x,c⟩=>?_,λ⟨j,l,g⟩=>⟨d,?_⟩⟩
  ·refine aC λk a=>?_;obtain ⟨c,f⟩:=LN.mp c;have b:=h.at_ i x c;obtain ⟨y,rfl⟩:=Lg b.1;refine a ?_;exact ⟨y,Kr.mpr ⟨_,c,KQ _⟩,(e (by lia)).mp (KO.mp f)⟩
  ·refine aC λk a=>?_;obtain ⟨x,c,rfl⟩:=Kr.mp l;refine a ?_;have b:=h.at_ i x c;refine ⟨x,LN.mpr ⟨c,KO.mpr ?_⟩⟩;have:=(e (i:=x.toNat) (by lia)).mpr g;rw[Ny b.1] at this;exact this))
theorem B4 {v:Int}:∀{l h:List Int}{j:Nat},(∀x∈l,0<=x)->j<h.length->(l.foldl (λh i=>h.set i.toNat v) h)[j]?=if (j:Int)∈l then Vl v else h[j]?:=@lr _ _ (@λh j _ _=>(if_neg (λm=>nomatch m)).symm) (λa l d=>(@λh j p b=>by
  rw[O4,d (λx e=>p x (.tail _ e)) (by rw[KW];exact b)];have f:=p a (.head _);by_cases q:(j:Int)∈l
  ·rw[if_pos q,if_pos (.tail _ q)]
  ·rw[if_neg q];by_cases c:(j:Int)=a
   ·subst c;rw[if_pos (.head _),KQ,Mf b]
   ·rw[if_neg λm=>(Kt.mp m).elim c q,LG (by lia)]))
theorem Gq:∀{t:Nat}{x:Int},x∈wk needs t->0<=x:=λ{t x} h=>by
 have:x∈(Ky 9).map λ(i:Nat)=>(i:Int):=by
  cases t with
  | zero=>exact h
  | succ t=>exact (LN.mp h).1
 obtain ⟨j,_,rfl⟩:=Kr.mp this;exact Ly _
theorem zL (h:xw needs 9){i:Nat}(b:i<9):∀t:Nat,∃k:Nat,(hs needs t)[i]?=Vl (k:Int)/\k<=t/\Wk (ndOf needs) k i/\(k<t->¬Wk (ndOf needs) (k+1) i):=@nr _ (⟨0,w4 (Qm b) (KH _) trivial (λq=>absurd q (Mz _))⟩) (λt f=>by
  obtain ⟨k,e,d,g,j⟩:=f;have a:(hs needs (t+1))[i]?=_:=B4 (v:=((t+1:Nat):Int)) (l:=wk needs (t+1)) (h:=hs needs t) (λx n=>Gq n) (by rw[qV];exact b);by_cases q:Wk (ndOf needs) (t+1) i
  ·rw[if_pos ((zb h b).mpr q)] at a;exact ⟨t+1,w4 a (KH _) q (λq=>absurd q (Mz _))⟩
  ·rw[if_neg λm=>q ((zb h b).mp m)] at a;refine ⟨k,w4 (a.trans e) (P6 d) g (λ_=>?_)⟩;rcases OC d with c | c
   ·exact j c
   ·rw[c];exact q)
theorem DV (h:xw needs 9){i k:Nat}(g:i<9) (c:k<9):(hs needs 9)[i]?=Vl (k:Int)<->Hg (ndOf needs) k i:=by
 obtain ⟨m,e,f,a,d⟩:=zL h g 9;rw[e];refine ⟨λq=>?_,λq=>?_⟩
 ·have:m=k:=by have:=J9 q;lia
  subst this;exact ⟨a,d c⟩
 ·rcases OC f with b | b
  ·rw[Hg.uniq ⟨a,d b⟩ q]
  ·subst b;exact absurd (a.le c) q.2
theorem vd (h:xw needs 9){i:Nat}(f:i<9):(hs needs 9)[i]?=Vl 9<->Wk (ndOf needs) 9 i:=by
 obtain ⟨m,e,c,b,d⟩:=zL h f 9;rw[e];refine ⟨λq=>?_,λq=>?_⟩
 ·have:m=9:=by have:=J9 q;lia
  exact this▸b
 ·rcases OC c with a | a
  ·exact absurd (q.le a) (d a)
  ·rw[a];rfl
end
end
section
set_option linter.all false
theorem wa {h:Str}{r:Int}(hh:h.cps.size=1):∀i,(rowS h r i).cps[0]?=h.cps[0]?:=@nr _ (rfl) (λi b=>by
  have a:=lV (h:=h) (r:=r) hh i;show (((rowS h r i).cps++(gR r i).cps++(gW r i).cps++(gX r i).cps)[0]?)=_;rw[Ov (by rw[NG,NG];lia),Ov (by rw[NG];lia),Ov (by lia)];exact b)
theorem sA (t:Thing9):t.row.cps[0]?=Vl (kc t.kind):=wa rfl 3
theorem Fq:∀k∈([4,8,12,6,0,3]:List Int),(kc k==100)=(k==4):=by decide +kernel
theorem ta {t:Thing9}(h:t.Good):(kc t.kind==100)=(t.kind==4):=Fq _ (by rcases h.kind with e | e | e | e | e | e<;>rw[e]<;>decide)
theorem jH {t u:Thing9}(h:t.Good) (h':u.Good) (e:t.row=u.row):(t.kind==4)=(u.kind==4):=by
 have q:Vl (kc t.kind)=Vl (kc u.kind):=(sA t).symm.trans ((congrArg (λs:Str=>s.cps[0]?) e).trans (sA u));rw[<- ta h,<- ta h',J9 q]
noncomputable def needsOf (ts:List Thing9):List (List Int):=ts.map λt=>cond (t.kind==4) t.inner []
section
variable {ts:List Thing9}(h9:ts.length=9) (hg:∀t∈ts,t.Good)
theorem eG (hg:∀t∈ts,t.Good):xw (needsOf ts) 9:=λl b x a=>by
 obtain ⟨t,c,rfl⟩:=Kr.mp b;cases q:t.kind==4 with
 | true=>rw[q] at a;exact (hg t c).inner.2 x a
 | false=>rw[q] at a;exact nomatch a
theorem mn {i:Nat}{t:Thing9}(e:ts[i]?=Vl t):ndOf (needsOf ts) i=cond (t.kind==4) (t.inner.map OT) []:=by
 unfold ndOf needsOf;rw[Ks,e];show Na OT (cond (t.kind==4) t.inner [])=_;cases t.kind==4<;>rfl
theorem eR {n i:Nat}(c:i<9):∃p:Nat,(aH ts n)[i]?=Vl (p:Int)/\p<9:=by
 cases n with
 | zero=>exact ⟨0,Qm c,by decide⟩
 | succ n=>
  have e:(bB ts (aH ts n))[i]?=Vl (cI ts (aH ts n) i):=by unfold bB;rw[Ks,Py c];rfl
  obtain ⟨p,a⟩:=iJ (Kl e);refine ⟨p,?_,?_⟩
  ·rw[uS,Ks,e];show Vl ((((bB ts (aH ts n)).findIdx? λb=>decide (b=cI ts (aH ts n) i)).getD 0:Nat):Int)=_;rw[a];rfl
  ·have:=(Mc.mp a).1;unfold bB at this;rw[Ka,KD] at this;exact this
theorem kz {n i p:Nat}(l:i<9) (e:(aH ts (n+1))[i]?=Vl (p:Int)):p<9/\cI ts (aH ts n) p=cI ts (aH ts n) i/\∀j,j<p->cI ts (aH ts n) j≠cI ts (aH ts n) i:=by
 have g:(bB ts (aH ts n))[i]?=Vl (cI ts (aH ts n) i):=by unfold bB;rw[Ks,Py l];rfl
 obtain ⟨q,f⟩:=iJ (Kl g);have:p=q:=by
  rw[uS,Ks,g] at e;have e:((((bB ts (aH ts n)).findIdx? λb=>decide (b=cI ts (aH ts n) i)).getD 0:Nat):Int)=(p:Int):=J9 e;rw[f] at e;exact LE e.symm
 refine rp this ?_;obtain ⟨c,h,k⟩:=Mc.mp f;have d:∀j (a:j<(bB ts (aH ts n)).length),(bB ts (aH ts n))[j]=cI ts (aH ts n) j:=λj a=>by
  simp only[bB,OM,PJ]
 rw[d] at h;refine w3 (by unfold bB at c;rw[Ka,KD] at c;exact c) (of_decide_eq_true h) (λj a e=>?_);have:=k j a;rw[d] at this;exact this (decide_eq_true e)
theorem uT {n i j:Nat}(k:i<9) (f:j<9):(aH ts (n+1))[i]?=(aH ts (n+1))[j]?<->cI ts (aH ts n) i=cI ts (aH ts n) j:=by
 refine aC λr a=>?_;obtain ⟨p,e,_⟩:=eR (ts:=ts) (n:=n+1) k;obtain ⟨q,g,_⟩:=eR (ts:=ts) (n:=n+1) f;obtain ⟨s,d,l⟩:=kz k e;obtain ⟨o,c,m⟩:=kz f g;refine a ?_;rw[e,g];refine ⟨λh=>?_,λh=>?_⟩
 ·have:p=q:=LE (J9 h);subst this;exact d.symm.trans c
 ·congr 2
  exact Ol (MI λb=>l q b (c.trans h.symm)) (MI λb=>m p b (d.trans h))
def Al (ts:List Thing9) (n i j:Nat):Prop:=(aH ts n)[i]?=(aH ts n)[j]?
theorem jN {α β γ:Type}{f:α->β}{g:α->γ}:∀{l l':List α},(∀x∈l,∀y∈l',f x=f y<->g x=g y)->(l.map f=l'.map f<->l.map g=l'.map g)
 | [],[],_=>⟨λ_=>rfl,λ_=>rfl⟩
 | [],_::_,_=>⟨λh=>absurd h nofun,λh=>absurd h nofun⟩
 | _::_,[],_=>⟨λh=>absurd h nofun,λh=>absurd h nofun⟩
 | a::l,b::l',h=>by
  have c:=jN (l:=l) (l':=l') λx e y d=>h x (.tail _ e) y (.tail _ d);rw[KB,KB,KB,KB,PZ,PZ,c,h a (.head _) b (.head _)]
theorem qI {α β:Type}{f:α->β}{P:α->Prop}:∀{l l':List α},(∀x∈l,∀y∈l',f x=f y->P x->P y)->l.map f=l'.map f->(∃x∈l,P x)->∃y∈l',P y
 | [],_,_,_,⟨_,h,_⟩=>nomatch h
 | a::l,[],_,e,_=>absurd e nofun
 | a::l,b::l',h,e,⟨x,c,g⟩=>by
  rw[KB,KB,PZ] at e;rcases Kt.mp c with rfl | c
  ·exact ⟨b,.head _,h x (.head _) b (.head _) e.1 g⟩
  ·obtain ⟨y,d,i⟩:=qI (λx c y d=>h x (.tail _ c) y (.tail _ d)) e.2 ⟨x,c,g⟩;exact ⟨y,.tail _ d,i⟩
def DB {α:Type}(f:Nat->α) (t u:Thing9):Prop:=t.row=u.row/\cond (t.kind==4) ((t.inner.map λx=>f x.toNat)=u.inner.map λx=>f x.toNat) (t.inner=u.inner)
theorem vK {n i j:Nat}{t u:Thing9}(m:i<9) (d:j<9) (r:ts[i]?=Vl t) (h:ts[j]?=Vl u) (b:t.Good) (a:u.Good):Al ts (n+1) i j<->DB (λx=>(aH ts n)[x]?) t u:=by
 refine (uT m d).trans ?_;unfold cI;rw[r,h,SK];refine and_congr_right λe=>?_;rw[show (Vl u).map (λt=>cond (t.kind==4) (t.inner.map λi=>((aH ts n)[i.toNat]?).getD 0) t.inner)=Vl (cond (t.kind==4) (u.inner.map λi=>((aH ts n)[i.toNat]?).getD 0) u.inner) by rw[jH b a e];rfl];show cond (t.kind==4) _ _=cond (t.kind==4) _ _<->_;cases t.kind==4 with
 | false=>exact SR
 | true=>
  refine jN (f:=λi:Int=>((aH ts n)[i.toNat]?).getD 0) (g:=λi:Int=>(aH ts n)[i.toNat]?) λx o y k=>⟨λe=>?_,λe=>by show (_:Option Int).getD 0=_;rw[show (aH ts n)[x.toNat]?=_ from e]⟩
  obtain ⟨p,c,_⟩:=eR (ts:=ts) (n:=n) (i:=x.toNat) (by have:=b.inner.2 x o;lia);obtain ⟨q,l,_⟩:=eR (ts:=ts) (n:=n) (i:=y.toNat) (by have:=a.inner.2 y k;lia);have e:((aH ts n)[x.toNat]?).getD 0=((aH ts n)[y.toNat]?).getD 0:=e;rw[c,l] at e ⊢;exact congrArg Vl e
end
end
section
set_option linter.all false
def eo (ts:List Thing9) (i:Nat):Prop:=i<9/\¬Wk (ndOf (needsOf ts)) 9 i
noncomputable def fP (t:Thing9):Bool:=t.kind==4
noncomputable def inn (a:Nat->Nat) (t:Thing9):List Int:=cond (fP t) (t.inner.map λx=>(a x.toNat:Int)) t.inner
noncomputable def bS (a:Nat->Nat) (t:Thing9):Row:=(t.row,aR (inn a t))
structure Kept (ts:List Thing9) (nu:Nat->Nat) (rows:List Row):Prop where
 at_:∀i t,eo ts i->ts[i]?=Vl t->rows[nu i]?=Vl (bS nu t)
 once:rows.Nodup
 all:∀r,r<rows.length->∃i,eo ts i/\nu i=r
 le:rows.length<=9
 below:∀i t,eo ts i->ts[i]?=Vl t->fP t=Vn->∀x∈t.inner,nu x.toNat<nu i
theorem hG {i:Int}(h:bK i):(i.toNat.toUInt8.toNat:Int)=i:=by
 unfold bK at h;rw[QW,RL,Qj (by lia)];lia
theorem nO {a b:List Int}(c:∀x∈a,bK x) (k:∀x∈b,bK x) (e:aR a=aR b):a=b:=by
 have e:(a.map λ(i:Int)=>i.toNat.toUInt8)=b.map λ(i:Int)=>i.toNat.toUInt8:=congrArg Array.toList e;have h:=(jN (f:=λ(i:Int)=>i.toNat.toUInt8) (g:=id) (l:=a) (l':=b) λx j y d=>⟨λe=>?_,λe=>by rw[show x=y from e]⟩).mp e
 ·rw[N3,N3] at h;exact h
 ·exact (hG (c x j)).symm.trans ((congrArg (λu:UInt8=>(u.toNat:Int)) e).trans (hG (k y d)))
section
variable {ts:List Thing9}(h9:ts.length=9) (hg:∀t∈ts,t.Good)
include h9 hg
theorem Ef:∀{n i j s:Nat},i<9->j<9->s<=n->Al ts n i j->Wk (ndOf (needsOf ts)) s i->Wk (ndOf (needsOf ts)) s j
 | _,_,_,0,_,_,_,_,_=>trivial
 | 0,_,_,_+1,_,_,h,_,_=>absurd h (Nat.not_succ_le_zero _)
 | n+1,i,j,s+1,hi,r,hs,h,a=>by
  obtain ⟨t,l⟩:∃t,ts[i]?=Vl t:=⟨_,Ki (by (first | walk_at "m" | lia))⟩;obtain ⟨u,b⟩:∃t,ts[j]?=Vl t:=⟨_,Ki (by (first | walk_at "m" | lia))⟩;have g:=hg t (Kl l);have d:=hg u (Kl b);obtain ⟨v,m⟩:=(vK hi r l b g d).mp h;have o:=jH g d v;change ∃y∈ndOf (needsOf ts) i,Wk (ndOf (needsOf ts)) s y at a;show ∃y∈ndOf (needsOf ts) j,Wk (ndOf (needsOf ts)) s y;rw[mn l] at a;rw[mn b,<- o];cases q:t.kind==4 with
  | false=>rw[q] at a;exact a.elim λ_ h=>nomatch h.1
  | true=>
   rw[q] at a m;obtain ⟨x,k,A⟩:=a;obtain ⟨z,C,rfl⟩:=Kr.mp k;obtain ⟨y,c,p⟩:=qI (f:=λx:Int=>(aH ts n)[x.toNat]?) (P:=λx=>Wk (ndOf (needsOf ts)) s x.toNat) (λx k y c e w=>Ef (by have:=g.inner.2 x k;(first | walk_at "m" | lia)) (by have:=d.inner.2 y c;(first | walk_at "m" | lia)) (Rx hs) e w) m ⟨z,C,A⟩;exact ⟨_,Kr.mpr ⟨y,c,rfl⟩,p⟩
theorem iI {i:Nat}{t:Thing9}(f:eo ts i) (b:ts[i]?=Vl t) (c:fP t=Vn):∀x∈t.inner,eo ts x.toNat:=λx a=>by
 have d:=hg t (Kl b);refine ⟨by have:=d.inner.2 x a;lia,λw=>f.2 (Wk.pred ⟨x.toNat,?_,w⟩)⟩;rw[mn b,show (t.kind==4)=Vn from c];exact Kr.mpr ⟨x,a,rfl⟩
theorem CU {i:Nat}{n:Nat}{t:Thing9}(f:¬Wk (ndOf (needsOf ts)) (n+1) i) (c:ts[i]?=Vl t) (a:fP t=Vn):∀x∈t.inner,¬Wk (ndOf (needsOf ts)) n x.toNat:=λx b w=>f ⟨x.toNat,by
 rw[mn c,show (t.kind==4)=Vn from a];exact Kr.mpr ⟨x,b,rfl⟩,w⟩
section
variable {nu:Nat->Nat}{rows:List Row}(K:Kept ts nu rows)
include K
theorem uL {i:Nat}(f:eo ts i):nu i<rows.length:=(Kd.mp (K.at_ i _ f (Ki (by have:=f.1;(first | walk_at "m" | lia))))).1
theorem pF {i:Nat}{t:Thing9}(f:eo ts i) (b:ts[i]?=Vl t):∀x∈inn nu t,bK x:=λx a=>by
 have c:=hg t (Kl b);unfold inn at a;unfold bK;cases q:fP t with
 | false=>rw[q] at a;have:=c.inner.2 x a;lia
 | true=>
  rw[q] at a;obtain ⟨y,d,rfl⟩:=Kr.mp a;have:=uL h9 hg K (iI h9 hg f b q y d);have:=K.le;lia
theorem Ck {i j:Nat}{t u:Thing9}(g:eo ts i) (d:eo ts j) (c:ts[i]?=Vl t) (b:ts[j]?=Vl u):nu i=nu j<->DB nu t u:=by
 have l:=hg t (Kl c);have k:=hg u (Kl b);have a:=K.at_ i t g c;have f:=K.at_ j u d b;have:nu i=nu j<->bS nu t=bS nu u:=⟨λe=>J9 (a.symm.trans (e▸f)),λe=>by
  rw[e] at a;exact (PW (Kd.mp a).1 K.once).mp (a.trans f.symm)⟩
 rw[this];unfold bS DB;rw[SK];refine and_congr_right λe=>?_;have:aR (inn nu t)=aR (inn nu u)<->inn nu t=inn nu u:=⟨nO (pF h9 hg K g c) (pF h9 hg K d b),λe=>by rw[e]⟩
 rw[this];have h:fP t=fP u:=jH l k e;unfold inn;rw[<- h];show _<->cond (fP t) _ _;cases fP t with
 | false=>exact SR
 | true=>exact jN λx _ y _=>⟨λe=>LE e,λe=>congrArg _ e⟩
theorem HR:∀{n i j:Nat},eo ts i->eo ts j->¬Wk (ndOf (needsOf ts)) n i->(Al ts n i j<->nu i=nu j):=@nr _ (@λ_ _ _ _ h=>absurd trivial h) (λn o=>(@λi j d c m=>by
  obtain ⟨t,a⟩:∃t,ts[i]?=Vl t:=⟨_,Ki (by have:=d.1;lia)⟩
  obtain ⟨u,b⟩:∃t,ts[j]?=Vl t:=⟨_,Ki (by have:=c.1;lia)⟩
  have g:=hg t (Kl a);have f:=hg u (Kl b);rw[vK d.1 c.1 a b g f,Ck h9 hg K d c a b];unfold DB;refine and_congr_right λe=>?_;have l:fP t=fP u:=jH g f e;show cond (fP t) _ _<->cond (fP t) _ _;cases q:fP t with
  | false=>exact SR
  | true=>exact jN λx k y p=>o (iI h9 hg d a q x k) (iI h9 hg c b (l▸q) y p) (CU h9 hg m a q x k)))
theorem Jz {i j:Nat}(a:eo ts i) (b:eo ts j):Al ts 9 i j<->nu i=nu j:=HR h9 hg K a b a.2
theorem DN {i p:Nat}(b:eo ts i) (e:(aH ts 9)[i]?=Vl (p:Int)):eo ts p/\nu p=nu i/\(aH ts 9)[p]?=Vl (p:Int):=by
 obtain ⟨c,f,g⟩:=kz b.1 e;have a:Al ts 9 p i:=(uT c b.1).mpr f;have d:eo ts p:=⟨c,λw=>b.2 (Ef h9 hg c b.1 (KH _) a w)⟩
 exact w3 d ((Jz h9 hg K d b).mp a) ((show (aH ts 9)[p]?=(aH ts 9)[i]? from a).trans e)
end
end
end
section
set_option linter.all false
theorem pd {l m:List Int}(h:l.Nodup) (a:m.Pairwise (· < ·)) (e:∀x,x∈l<->x∈m):fe l=m:=(lS ((QK (a.imp λq=>Int.ne_of_lt q) h).mpr λx=>(e x).symm) (a.imp λq=>Uj q)).symm
noncomputable def r8 (ts:List Thing9) (i:Nat):Int:=((hs (needsOf ts) 9)[i]?).getD 0
noncomputable def ic (ts:List Thing9):List Nat:=(Ky 9).filter λi=>decide (r8 ts i<9)
noncomputable def qu (ts:List Thing9):List Nat:=(ic ts).filter λi=>((aH ts 9)[i]?).getD 0==(i:Int)
section
variable {ts:List Thing9}(h9:ts.length=9) (hg:∀t∈ts,t.Good)
theorem zN (hg:∀t∈ts,t.Good){i:Nat}(c:i<9):r8 ts i<9<->¬Wk (ndOf (needsOf ts)) 9 i:=by
 obtain ⟨k,e,b,a,d⟩:=zL (eG hg) c 9;unfold r8;rw[e];show (k:Int)<9<->_;refine ⟨λq w=>d (by lia) (w.le (by lia)),λq=>?_⟩;rcases OC b with h | h
 ·lia
 ·rw[h] at a;exact absurd a q
theorem hK (hg:∀t∈ts,t.Good){i:Nat}:i∈ic ts<->eo ts i:=by
 unfold ic;rw[LN,Lw,decide_eq_true_iff];exact and_congr_right λa=>zN hg a
theorem tm:(ic ts).Nodup:=SN.sublist M3
include h9 hg in
theorem yy {d:Nat->Nat}{rows:List Row}(K:Kept ts d rows):(qu ts).length=rows.length:=by
 have c:∀{i},i∈qu ts<->eo ts i/\(aH ts 9)[i]?=Vl (i:Int):=λ{i}=>by
  unfold qu;rw[LN,hK hg];refine and_congr_right λf=>?_;obtain ⟨p,e,_⟩:=eR (ts:=ts) (n:=9) f.1;rw[e];show ((p:Int)==(i:Int))=Vn<->_;rw[beq_iff_eq,OP]
 have p:((qu ts).map d).Perm (Ky rows.length):=by
  refine (QK ?_ SN).mpr λr=>?_
  ·refine (NJ).mpr ((tm.sublist M3).imp_of_mem λ{a b} o u q e=>q ?_);obtain ⟨j,v⟩:=c.mp o;obtain ⟨w,m⟩:=c.mp u;have:Al ts 9 a b:=(Jz h9 hg K j w).mpr e;exact LE (J9 (v.symm.trans ((show (aH ts 9)[a]?=(aH ts 9)[b]? from this).trans m)))
  ·rw[Kr,Lw];refine ⟨λ⟨i,x,e⟩=>e▸uL h9 hg K (c.mp x).1,λh=>?_⟩;obtain ⟨i,g,e⟩:=K.all r h;obtain ⟨p,k,_⟩:=eR (ts:=ts) (n:=9) g.1;obtain ⟨t,s,l⟩:=DN h9 hg K g k;exact ⟨p,c.mpr ⟨t,l⟩,s.trans e⟩
 have:=p.length_eq;rw[Ka,KD] at this;exact this
end
end
section
set_option linter.all false
section
variable {k:Nat}{cx:Cx}{s s1:St}{t e:Kb}{p p2 pos pos2:Pos}{st:List SObj}{l:List D}{f g:Str}{is:List Int}{c:Addr}{args:List Kb}{vs:List V}{ds:List D}{r:List SObj}{d:D}
theorem vt {b:Bi}(c:gL (mk k) cx f p [.Call (.Name g p2) [e] [] pos2] pos=ys (mk k) f p g p2 e pos2 pos) (hs:pg cx f g=Vl b) (i:bb e=Vm) (h:((mk k).ev cx e).f s=.ok (.d (.lst l)) s1) (a:nV b (.lst l)=Vl d):((mk (k+1)).ev cx (.Call (.Name f p) [.Call (.Name g p2) [e] [] pos2] [] pos)).f s=.ok (.d d) s1:=by
 show (gL (mk k) cx f p _ pos).f s=_;rw[c];show optE (pg cx f g) _ _=_;rw[hs];exact (if_pos i).trans (aK h (hE a))
theorem B3 (h:cR l=Vl is) (hz:is.length<64):nV .len (.lst l)=Vl (.int (ik is).length):=by
 show (cR l).bind _=_;rw[h];exact if_pos hz
theorem sx (h:cR l=Vl is) (hz:is.length<64):nV .sorted (.lst l)=Vl (.lst ((fe (ik is)).map .int)):=by
 show (cR l).bind _=_;rw[h];exact if_pos hz
theorem cQ {F1:List (Str×V)}{T1:List SObj}(c:Addr) (hs:gL (mk k) cx f p args pos=kg (mk k) f p args pos) (e:aO args=Vn) (b:ia cx f=Vl (.gbl c)) (m:ke.contains c=Vn/\cx.inH=Vo) (h:(c==244)=Vo) (l:bM ((mk k).ev cx) args s=.ok vs ⟨F1,T1⟩) (j:ie.contains c=Vn) (g:ej vs=Vl ds) (a:dI ((mk k).call c vs [.ctab])=Vl d) (i:T1=.ctab::r):((mk (k+1)).ev cx (.Call (.Name f p) args [] pos)).f s=.ok (.d d) ⟨F1,T1⟩:=dH hs e b (Ay m h l (jI j g a i))
end
theorem AH:∀{l acc:List Int},(acc++l).Nodup->l.foldl (λacc x=>if acc.contains x then acc else acc++[x]) acc=acc++l:=@lr _ _ (@λacc _=>(LC _).symm) (λx l a=>(@λacc h=>by
  rewrite [O4,if_neg λm=>?_,a (acc:=acc++[x]) (by rw[KT];exact h),KT]
  ·rfl
  ·exact (Lu.mp h).2.2 x (KO.mp m) x (.head _) rfl))
theorem rE {l:List Int}(h:l.Nodup):ik l=l:=AH (acc:=[]) h
theorem tK {l:List Int}{x:Int}(h:l.Nodup) (a:x∈l):ik (l++[x])=l:=by
 unfold ik;rw[PX,show l.foldl _ []=l from rE h];exact if_pos (KO.mpr a)
theorem Bc {n:Nat}(h:0<n):ki n (-1)=Vl (n-1):=by
 unfold ki;rw[if_neg (by walk_at "n"),if_pos (by walk_at "n")]
 congr 1;walk_at "n"
noncomputable def aB (c:List Nat):List Int:=c.map λ(x:Nat)=>(x:Int)
theorem we {k:Nat}{needs:List (List Int)}{c:List Nat}(J:xw needs 9) (h9:needs.length=9) (R:Ring (ndOf needs) 9 c) (T:c.length<=10):W ((mk (k+20)).call 311 [.d (.tup [.str (sn "nodes are in a cycle"),.lst ((aB c).map .int)]),.d (.lst (needs.map λl=>.lst (l.map .int)))] [.ctab]) (λv s=>∃d,v=.d d/\(dt s.st).isSome=Vn/\d=.bool Vn) noE:=by
 have p:2<=c.length:=R.len;refine bX (fd:=aW 311) (us:=[.d (.tup [.str (sn "nodes are in a cycle"),.lst ((aB c).map .int)]),.d (.lst (needs.map λl=>.lst (l.map .int)))]) (fr:=aY (sn "needs") (.d (.lst (needs.map λl=>.lst (l.map .int)))) (aY (sn "told") (.d (.tup [.str (sn "nodes are in a cycle"),.lst ((aB c).map .int)])) [])) rfl rfl rfl rfl rfl ?_;have P:bV [.ctab] .Is (.d (.tup [.str (sn "nodes are in a cycle"),.lst ((aB c).map .int)])) (.d .non)=Vl false:=rfl;have f2:bV [.ctab] .NotEq (.d (.int ([D.str (sn "nodes are in a cycle"),.lst ((aB c).map .int)].length:Int))) (.d (.int 2))=Vl false:=rfl;have f3:bE (.d (.tup [.str (sn "nodes are in a cycle"),.lst ((aB c).map .int)])) (.d (.int 0)) [.ctab]=Vl (.d (.str (sn "nodes are in a cycle"))):=zI (m:=0) rfl rfl;have f4:bV [.ctab] .NotEq (.d (.str (sn "nodes are in a cycle"))) (.d (.str (sn "nodes are in a cycle")))=Vl false:=by
  show Vl (!(sn "nodes are in a cycle"==sn "nodes are in a cycle"))=_;rw[beq_self_eq_true];rfl
 have f5:bE (.d (.tup [.str (sn "nodes are in a cycle"),.lst ((aB c).map .int)])) (.d (.int 1)) [.ctab]=Vl (.d (.lst ((aB c).map .int))):=zI (m:=1) rfl rfl;have f6:bI [.ctab] .isinstance [.d (.lst ((aB c).map .int)),.d (.bi .list)]=Vl (.bool Vn):=rfl;refine' dN ?a1 (aG ?a2)
 case a1=>
  walk_at "t"
 walk_at "a";have f:((aB c).map D.int).length=c.length:=by unfold aB;rw[Ka,Ka]
 have g1:bV [.ctab] .Lt (.d (.int (((aB c).map D.int).length:Int))) (.d (.int 2))=Vl false:=by
  show Vl (decide _)=_;rw[decide_eq_false (by walk_at "n")]
 have o:∀{i x:Nat},c[i]?=Vl x->((aB c).map D.int)[i]?=Vl (.int (x:Int)):=λ{i x} e=>by unfold aB;rw[Ks,Ks,e];rfl
 have c0:c[0]?=Vl (c[0]):=Ki (by walk_at "n");have O:bE (.d (.lst ((aB c).map .int))) (.d (.int 0)) [.ctab]=Vl (.d (.int (c[0]:Int))):=kX (m:=0) (p5 (n:=0) (by walk_at "n")) (o c0);have g3:bE (.d (.lst ((aB c).map .int))) (.d (.int (-1))) [.ctab]=Vl (.d (.int (c[0]:Int))):=kX (m:=c.length-1) (by rw[f];exact Bc (by walk_at "n")) (o (R.ends.symm.trans c0));have Y:bV [.ctab] .NotEq (.d (.int (c[0]:Int))) (.d (.int (c[0]:Int)))=Vl false:=by
  show Vl (!((c[0]:Int)==(c[0]:Int)))=_;rw[beq_self_eq_true];rfl
 have M:(aB c.dropLast).Nodup:=N4 _ (λa b h e=>h (LE e)) R.once;have j:(c[0]:Int)∈aB c.dropLast:=by
  refine Kr.mpr ⟨c[0],?_,rfl⟩;rw[K0];exact ⟨0,by rw[List.getElem?_dropLast,if_pos (by walk_at "n")];exact c0⟩
 have t:c.dropLast++[c[0]]=c:=by
  have:=Oa (l:=c) (λe=>by rw[e] at p;exact absurd p (by decide));have w:c.getLast (λe=>by rw[e] at p;exact absurd p (by decide))=c[0]:=by
   have:=R.ends.symm.trans c0;rw[List.getLast_eq_getElem];exact J9 ((Ki (by walk_at "n")).symm.trans this)
  rw[w] at this;exact this
 have q:(ik (aB c)).length=c.length-1:=by
  have:aB c=aB c.dropLast++[(c[0]:Int)]:=by
   conv=>lhs;rw[<- t]
   unfold aB;rw[Kz];rfl
  rw[this,tK M j];unfold aB;rw[Ka,RG]
 have N:nV .len (.lst ((aB c).map .int))=Vl (.int ((c.length-1:Nat):Int)):=by rw[<- q];exact B3 (eh _) (by unfold aB;rw[Ka];walk_at "n")
 have G:bV [.ctab] .NotEq (.d (.int ((c.length-1:Nat):Int))) (.d (.int ((((aB c).map D.int).length:Int)-1)))=Vl false:=by
  show Vl (!(((c.length-1:Nat):Int)==(((aB c).map D.int).length:Int)-1))=_;rw[show (((aB c).map D.int).length:Int)-1=((c.length-1:Nat):Int) by walk_at "n",beq_self_eq_true];rfl
 refine' dN (x6 (gH ?b1 (gH ?b2 (gH (cU rfl rfl (vt ?b3 ?b4 rfl ?b5 N) ?b6 G) ma)))) (aG ?b7)
 case b1=>walk_at "t"
 case b2=>walk_at "t"
 case b3=>rfl
 case b4=>kernel_rfl
 case b5=>walk_at "e"
 case b6=>walk_at "e"
 case b7=>
  have F:∀{l:List D},l=[]->jv .Sub (.d (.int (((aB c).map D.int).length:Int))) (.d (.int 1))=Vl (.int ((c.length-1:Nat):Int)):=λ_=>by
   show Vl (D.int (((aB c).map D.int).length-1))=_
   congr 2;walk_at "n"
  have E:=F (l:=[]) rfl;refine' cg (Ea (lG (L:=[]) ?d1 ?d2 ?d3) ?d4) ?d5
  case d1=>exact w4 rfl rfl rfl (by decide)
  case d2=>walk_at "e"
  case d3=>
   refine ut (n:=c.length-1) (g:=λ_=>Vm) (by walk_at "n") (λi hi=>jZ rfl (lB ?_)) ⟨?_,rfl⟩
   ·refine aC λQ r=>?_;obtain ⟨x,C⟩:∃x,c[i]?=Vl x:=⟨_,Ki (by walk_at "n")⟩;obtain ⟨y,u⟩:∃x,c[i+1]?=Vl x:=⟨_,Ki (by walk_at "n")⟩;have I:=R.by_ i x y C u;have y9:=R.lt y (Kl u);obtain ⟨z,A,K⟩:=Kr.mp I;refine r ?_;have H:=J.at_ y z A;have S:=o C;have q2:bE (.d (.lst ((aB c).map .int))) (.d (.int ((i:Int)+1))) [.ctab]=Vl (.d (.int (y:Int))):=zJ (m:=i+1) (o u);have U:(needs.map λl=>D.lst (l.map .int))[y]?=Vl (.lst (((needs[y]?).getD []).map .int)):=by
     rw[Ks,Ki (show y<needs.length by walk_at "n")];rfl
    have q4:bV [.ctab] .NotIn (.d (.int (x:Int))) (.d (.lst (((needs[y]?).getD []).map .int)))=Vl false:=by
     show (bV [.ctab] .In (.d (.int (x:Int))) (.d (.lst (((needs[y]?).getD []).map .int)))).map (!·)=_;rw[lA,show ((needs[y]?).getD []).contains (x:Int)=Vn from KO.mpr (by rw[show (x:Int)=z by walk_at "n"];exact A)];rfl
    refine' W.of (a:=Vo) ?e1 ?e2
    case e1=>walk_at "t"
    case e2=>exact ⟨λe=>(nomatch e),λ_=>⟨rfl,rfl⟩⟩
   ·exact List.filterMap_eq_nil_iff.mpr λ_ _=>rfl
  case d4=>rfl
  case d5=>exact ⟨_,w3 rfl rfl rfl⟩
end
section
set_option linter.all false
section
variable {k:Nat}{cx:Cx}{s s1:St}{Q:Fl->St->Prop}{E:D->List D->St->Prop}{t:Kb}{p:Pos}{body els ss:List Stmt}{c:Bool}{st:List SObj}{i:Int}{d:D}{kvs:List (Int×D)}
theorem xF (I:List (Str×V)->List SObj->Prop) (h:((mk k).ts cx t).f s=.ok c s1) (b:c=Vn->W (((mk k).xs cx body).f s1) (λf s=>f=.next/\I s.fr s.st) E) (d:c=Vo->W (((mk k).xs cx els).f s1) (λf s=>f=.next/\I s.fr s.st) E) (q:∀fr st,I fr st->W (((mk k).xs cx ss).f ⟨fr,st⟩) Q E):W (((mk (k+1)).xs cx (.If t body els p::ss)).f s) Q E:=qd h (λe=>(b e).imp λf s a=>a.1▸q s.fr s.st a.2) λe=>(d e).imp λf s a=>a.1▸q s.fr s.st a.2
theorem vc (h:aF i kvs=Vl d):bE (.d (.dct kvs)) (.d (.int i)) st=Vl (.d d):=by
 show Kf ((Kf Vm (Kf (aF i kvs) _)).map V.d) _=_;rw[h];rfl
theorem sa {F1:List (Str×V)}{T1:List SObj}{c g:Str}{i l pos:Pos}{m:Nat}{e:Kb}{a b:D}(o:hX e=Vo/\jq e=Vo/\cx.inH=Vo) (n:bC (cx.names.lookup c)=Vn) (j:bC (cx.names.lookup g)=Vn) (h:((mk k).ev cx e).f s=.ok (.d (.tup [a,b])) ⟨F1,T1⟩) (q:W (((mk k).xs cx ss).f ⟨aY g (.d b) (aY c (.d a) F1),T1⟩) Q E):W (((mk (k+1)).xs cx (.Assign [.Tuple [.Name c i,.Name g l] m p] e pos::ss)).f s) Q E:=ul o h (iO (aQ n (aQ j eA))) q
theorem rn {F1 i:List (Str×V)}{T1 b:List SObj}{n:Str}{v:V}{a:Kb}{oF:List (Str×V)}(hn:bC (cx.names.lookup n)=Vn) (h:((mk k).ts cx t).f ⟨aY n v oF,st⟩=.ok c ⟨F1,T1⟩) (g:c=Vn->((mk k).ev cx a).f ⟨F1,T1⟩=.ok (.d d) ⟨i,b⟩) (e:T1=st) (j:b=st):jx k cx (.Name n p) a [t] oF st v (cond c (Vl d) Vm):=jZ hn (lB (W.of h ⟨λq=>W.of (g q) ⟨j,d,rfl,by rw[q];rfl⟩,λq=>⟨e,by rw[q];rfl⟩⟩))
end
structure NumOk (ts:List Thing9) (nu:Nat->Nat) (kvs:List (Int×D)):Prop where
 once:(kvs.map (·.1)).Nodup
 keys:∀x,x∈kvs.map (·.1)<->∃i:Nat,eo ts i/\x=(i:Int)
 at_:∀i:Nat,eo ts i->aF (i:Int) kvs=Vl (.int (nu i:Int))
noncomputable abbrev iu (ts:List Thing9):D:=.lst (ts.map Thing9.d)
noncomputable abbrev kR (rs:List Row):D:=.lst (rs.map cA)
noncomputable abbrev ew (is:List Int):D:=.lst (is.map .int)
theorem tE {s:List Int}:gJ (ew s) (ew s)=Vl true:=by
 show Kf Vm (Kf Vm (Kf (if (s.map D.int).length=(s.map D.int).length then _ else _) _))=_;rw[if_pos rfl,kM rfl,decide_eq_true rfl];rfl
theorem wU {a:Str}{b:Array UInt8}:gJ (.lst [.str a,.bytes b]) (.lst [.str a,.bytes b])=Vl true:=by
 show Vl ((a==a)&&((b==b)&&Vn))=_;rw[beq_self_eq_true,beq_self_eq_true];rfl
theorem qG {st:List SObj}{a b:D}(h:gJ a b=Vl Vn):bV st .NotEq (.d a) (.d b)=Vl false:=by
 show (gJ a b).map (!·)=_;rw[h];rfl
theorem om {a b:Int}(h:a=b):gJ (.int a) (.int b)=Vl true:=by
 show Vl (a==b)=_;rw[h,beq_self_eq_true]
theorem rc {ts:List Thing9}:(ic ts).length<=9:=by
 have:=(M3 (p:=λi=>decide (r8 ts i<9)) (l:=Ky 9)).length_le;rw[KD] at this;exact this
theorem pJ {α β:Type}{p:α->Bool}{f:α->β}:∀{l:List α},l.filterMap (λa=>cond (p a) (Vl (f a)) Vm)=(l.filter p).map f:=@lr _ _ (rfl) (λa l b=>by
  rw[KX,Mp,b];cases p a<;>rfl)
section
variable {ts:List Thing9}{nu:Nat->Nat}{rows:List Row}{kvs:List (Int×D)}(h9:ts.length=9) (hg:∀t∈ts,t.Good) (K:Kept ts nu rows) (N:NumOk ts nu kvs)
include h9 hg K N
theorem tJ {st:List SObj}:bI st .sorted [.d (.dct kvs)]=Vl (ew (aB (ic ts))):=by
 have e:fe (kvs.map (·.1))=aB (ic ts):=pd N.once (N4 _ (λa b h=>MA.mpr h) ((NK).sublist M3)) λx=>by
  rw[N.keys];unfold aB;rw[Kr];exact ⟨λ⟨i,f,e⟩=>⟨i,(hK hg).mpr f,e.symm⟩,λ⟨i,f,e⟩=>⟨i,(hK hg).mp f,e.symm⟩⟩
 have l:kvs.length<64:=by
  have:=congrArg Ql e;rw[(lR _).length_eq] at this;unfold aB at this;rw[Ka,Ka] at this;have:=rc (ts:=ts);lia
 show (if kvs.length<64 then _ else _)=_;rw[if_pos l,e]
theorem AB {k:Nat}:W ((mk (k+45)).call 328 [.d (iu ts),.d (ew (hs (needsOf ts) 9)),.d (.dct kvs),.d (kR rows)] [.ctab]) (λv s=>∃d,v=.d d/\(dt s.st).isSome=Vn/\d=.bool Vn) noE:=by
 refine bX (fd:=aW 328) (us:=[.d (iu ts),.d (ew (hs (needsOf ts) 9)),.d (.dct kvs),.d (kR rows)]) (fr:=aY (sn "rows") (.d (kR rows)) (aY (sn "number") (.d (.dct kvs)) (aY (sn "heights") (.d (ew (hs (needsOf ts) 9))) (aY (sn "things") (.d (iu ts)) [])))) rfl rfl rfl rfl rfl ?_;obtain ⟨d,h,rfl⟩:=cW (s7 (k:=k+2) h9 hg);refine' sa ?a1 ?b1 ?b2 (cQ 292 ?a2 ?a3 ?a4 ?a5 ?a6 ?a7 ?a8 ?a9 h ?aj) ?b3
 case a1=>exact w3 rfl rfl rfl
 case b1=>kernel_rfl
 case b2=>kernel_rfl
 case a2=>rfl
 case a3=>rfl
 case a4=>kernel_rfl
 case a5=>exact ⟨rfl,rfl⟩
 case a6=>rfl
 case a7=>walk_at "e"
 case a8=>kernel_rfl
 case a9=>walk_at "d"
 case aj=>rfl
 have I:∀i:Nat,i<9->((hs (needsOf ts) 9).map D.int)[i]?=Vl (.int (r8 ts i)):=λi a=>by
  rw[Ks,Ki (by rw[qV];exact a)];unfold r8;rw[Ki (by rw[qV];exact a)];rfl
 have M:∀i:Nat,i<9->((aH ts 9).map D.int)[i]?=Vl (.int (((aH ts 9)[i]?).getD 0)):=λi a=>by
  rw[Ks];obtain ⟨p,e,_⟩:=eR (ts:=ts) (n:=9) a;rw[e];rfl
 refine' jc ?c1 ?c2 ?c3 ?c4
 case c1=>kernel_rfl
 case c2=>exact w4 rfl rfl rfl (by decide)
 case c3=>walk_at "e"
 refine ut (n:=9) (g:=λi=>cond (decide (r8 ts i<9)) (Vl (.int (i:Int))) Vm) (by decide) (λi a=>?_) ?_
 ·have u:=I i a;refine' rn ?c7 ?c8 (λ_=>?c9) ?am ?ai
  case c7=>kernel_rfl
  case c8=>walk_at "t"
  case c9=>walk_at "e"
  case am=>rfl
  case ai=>rfl
 rw[pJ (p:=λi=>decide (r8 ts i<9)) (f:=λi:Nat=>D.int (i:Int))];have A:(Na (λi:Nat=>D.int (i:Int)) ((Ky 9).filter λi=>decide (r8 ts i<9)))=(aB (ic ts)).map .int:=by unfold aB;rw[KC];rfl
 rw[A];have G:=tJ h9 hg K N (st:=[.ctab]);have L:bV [.ctab] .NotEq (.d (ew (aB (ic ts)))) (.d (ew (aB (ic ts))))=Vl false:=qG tE;have z:bV [.ctab] .NotEq (.d (.int ((rows.map cA).length:Int))) (.d (.int (((qu ts).map λi:Nat=>D.int (i:Int)).length:Int)))=Vl false:=qG (om (by rw[Ka,Ka,yy h9 hg K]));refine' dN (x6 (gH ?d1 (gH (cU rfl rfl (dH (d:=.bi .len) ?d2 ?d3 ?d4 (rC ?d5 ?d6 ?d7 A4)) (dH (d:=.bi .len) ?d8 ?d9 ?ar (rC ?ak ?ag (aI rfl (cE rfl (lG ?ae ?aa ?av)) aL) A4)) z) ma))) (aG ?ao)
 case d1=>walk_at "t"
 case d2=>rfl
 case d3=>rfl
 case d4=>kernel_rfl
 case d5=>kernel_rfl
 case d6=>kernel_rfl
 case d7=>walk_at "e"
 case d8=>rfl
 case d9=>rfl
 case ar=>kernel_rfl
 case ak=>kernel_rfl
 case ag=>kernel_rfl
 case ae=>exact w4 rfl rfl rfl (by decide)
 case aa=>walk_at "e"
 case av=>
  refine nM (l:=(aB (ic ts)).map .int) (g:=λd=>d.int?.bind λx=>cond (((aH ts 9)[x.toNat]?).getD 0==x) (Vl (.int x)) Vm) ?_ (λd h=>?_) ⟨?_,rfl⟩
  ·unfold aB;rw[Ka,Ka];have:=rc (ts:=ts);walk_at "n"
  ·skip
   obtain ⟨x,o,rfl⟩:=Kr.mp h;obtain ⟨i,a,rfl⟩:=Kr.mp o;have u:=M i ((hK hg).mp a).1;refine' rn (c:=((aH ts 9)[i]?).getD 0==(i:Int)) (d:=.int (i:Int)) ?aq ?af (λ_=>?ah) ?ab ?ac
   case aq=>kernel_rfl
   case af=>walk_at "t"
   case ah=>walk_at "e"
   case ab=>rfl
   case ac=>rfl
  ·rw[og (p:=λx=>((aH ts 9)[x.toNat]?).getD 0==x)];unfold aB;rw[List.filter_map,KC];rfl
 refine' ed rfl (w3 rfl rfl rfl) ?e1 ?e2
 case e1=>walk_at "e"
 refine nK (λi fr st=>st=[.ctab]/\get (sn "things") fr=Vl (.d (iu ts))/\get (sn "number") fr=Vl (.d (.dct kvs))/\get (sn "rows") fr=Vl (.d (kR rows))/\get (sn "texts") fr=Vl (.d (.lst (ts.map λt=>.str t.row)))/\get (sn "marks") fr=Vl (.d (ew (aH ts 9)))) rfl (w6 rfl (by walk_at "g") (by walk_at "g") (by walk_at "g") (by walk_at "g") (by walk_at "g")) (λj d fr st h r=>?_) λfr st r=>?_
 ·refine W.abs λR O=>?_;obtain ⟨rfl,g1,g2,g3,g4,g5⟩:=r;obtain ⟨i,a,rfl⟩:∃i,eo ts i/\d=.int (i:Int):=by
   obtain ⟨x,o,rfl⟩:=Kr.mp (Kl h);obtain ⟨i,a,rfl⟩:=Kr.mp o;exact ⟨i,(hK hg).mp a,rfl⟩
  obtain ⟨t,b⟩:∃t,ts[i]?=Vl t:=⟨_,Ki (by have:=a.1;walk_at "n")⟩;have H:(ts.map Thing9.d)[i]?=Vl (.lst [.int t.high,.int t.kind,.int t.rights,ew t.inner]):=by rw[Ks,b];rfl
  have x1:bE (.d (.lst [.int t.high,.int t.kind,.int t.rights,ew t.inner])) (.d (.int 1)) [.ctab]=Vl (.d (.int t.kind)):=kX (m:=1) rfl rfl;have x3:bE (.d (.lst [.int t.high,.int t.kind,.int t.rights,ew t.inner])) (.d (.int 3)) [.ctab]=Vl (.d (ew t.inner)):=kX (m:=3) rfl rfl;walk_at "a";refine' xF (c:=(t.kind==4)) (λfr st=>st=[.ctab]/\get (sn "place") fr=Vl (.d (.int (i:Int)))/\get (sn "inner") fr=Vl (.d (ew (inn nu t)))/\get (sn "things") fr=Vl (.d (iu ts))/\get (sn "number") fr=Vl (.d (.dct kvs))/\get (sn "rows") fr=Vl (.d (kR rows))/\get (sn "texts") fr=Vl (.d (.lst (ts.map λt=>.str t.row)))/\get (sn "marks") fr=Vl (.d (ew (aH ts 9)))) ?f1 (λq=>?f2) (λq=>?f3) λfr st r=>?f4
  case f1=>walk_at "t"
  case f2=>
   have q:fP t=true:=q;refine' jc ?g1 ?g2 ?g3 ?g4
   case g1=>kernel_rfl
   case g2=>exact w4 rfl rfl rfl (by decide)
   case g3=>walk_at "e"
   refine nM (l:=t.inner.map .int) (g:=λd=>d.int?.map λx=>D.int (nu x.toNat:Int)) ?_ (λd h=>?_) ?_
   ·rw[Ka];have:=(hg t (Kl b)).inner.1;walk_at "n"
   ·skip
    obtain ⟨x,o,rfl⟩:=Kr.mp h;have J:=iI h9 hg a b q x o;have w:=((hg t (Kl b)).inner.2 x o).1;have T:bE (.d (.dct kvs)) (.d (.int x)) [.ctab]=Vl (.d (.int (nu x.toNat:Int))):=vc (by have:=N.at_ _ J;rw[Ny w] at this;exact this);refine gw rfl ?_;walk_at "l"
   ·refine aG (w7 rfl rfl (by walk_at "g") ?_ (by walk_at "g") (by walk_at "g") (w3 (by walk_at "g") (by walk_at "g") (by walk_at "g")));unfold inn;rw[q,Mq];refine aU.trans ?_;rw[show (t.inner.filterMap ((λd:D=>d.int?.map λx=>D.int (nu x.toNat:Int)) ∘ D.int))=_ from dE (f:=λx:Int=>D.int (nu x.toNat:Int))];unfold ew;rw[show cond Vn (t.inner.map λx=>(nu x.toNat:Int)) t.inner=t.inner.map λx=>(nu x.toNat:Int) from rfl,KC];rfl
  case f3=>exact aG (w7 rfl rfl (by walk_at "g") (by unfold inn;rw[show fP t=Vo from q];exact aU) (by walk_at "g") (by walk_at "g") (w3 (by walk_at "g") (by walk_at "g") (by walk_at "g")))
  case f4=>
   obtain ⟨rfl,g0,g6,g1,g2,g3,g4,g5⟩:=r;obtain ⟨p,y,_⟩:=eR (ts:=ts) (n:=9) a.1;obtain ⟨E,C,_⟩:=DN h9 hg K a y;have F:bE (.d (.dct kvs)) (.d (.int (i:Int))) [.ctab]=Vl (.d (.int (nu i:Int))):=vc (N.at_ i a);have y2:((aH ts 9).map D.int)[i]?=Vl (.int (p:Int)):=by rw[Ks,y];rfl
   have y3:bE (.d (.dct kvs)) (.d (.int (p:Int))) [.ctab]=Vl (.d (.int (nu p:Int))):=vc (N.at_ p E);have y4:bV [.ctab] .NotEq (.d (.int (nu i:Int))) (.d (.int (nu p:Int)))=Vl false:=qG (om (by rw[C]));have y5:(rows.map cA)[nu i]?=Vl (.lst [.str t.row,.bytes (aR (inn nu t))]):=by rw[Ks,K.at_ i t a b];rfl
   have S:(ts.map λt=>D.str t.row)[i]?=Vl (.str t.row):=by rw[Ks,b];rfl
   have P:bI [.ctab] .bytes [.d (ew (inn nu t))]=Vl (.bytes (aR (inn nu t))):=im (eh _) ⟨?_,pF h9 hg K a b⟩;have Q:bV [.ctab] .NotEq (.d (.lst [.str t.row,.bytes (aR (inn nu t))])) (.d (.lst [.str t.row,.bytes (aR (inn nu t))]))=Vl false:=qG wU
   ·refine' dN (x6 (gH ?h1 (gH ?h2 ma))) ?h3
    case h1=>walk_at "t"
    case h2=>walk_at "t"
    case h3=>exact aG (aG (O _ _ (w6 rfl g1 g2 g3 g4 g5)))
   ·have:=(hg t (Kl b)).inner.1;unfold inn;cases fP t
    ·show t.inner.length<=_;walk_at "n"
    ·show (t.inner.map _).length<=_;rw[Ka];walk_at "n"
 ·skip
  obtain ⟨rfl,g1,g2,g3,g4,g5⟩:=r;refine aG ?_;refine' cg ?y1 ?y2
  case y1=>walk_at "e"
  case y2=>exact ⟨_,w3 rfl rfl rfl⟩
end
end
section
set_option linter.all false
theorem Hb {st:List SObj}{b:Array UInt8}{i:Nat}{c:UInt8}(h:b[i]?=Vl c):bE (.d (.bytes b)) (.d (.int (i:Int))) st=Vl (.d (.int (c.toNat:Int))):=by
 show Kf ((Kf Vm (Kf Vm (Kf Vm (Kf Vm (if (0:Int)<=(i:Int) then (b[(i:Int).toNat]?).map λc=>D.int (c.toNat:Int) else Vm))))).map V.d) _=_;rw[if_pos (Ly i),KQ,h];rfl
theorem Ix {st:List SObj}{b:Array UInt8}:cc st (.d (.bytes b))=Vl (decide (b.size≠0)):=rfl
section
variable {α:Type}{x:Res α}{s:St}
theorem W.exn {E:D->List D->St->Prop}(h:W x (λ_ _=>False) E):∃c as s,x=.exn c as s/\E c as s:=by cases x<;>first | exact (y3 _ _ _ ⟨rfl,h⟩) | exact h.elim
theorem W.ofx {Q:α->St->Prop}{E:D->List D->St->Prop}{c:D}{as:List D}(e:x=.exn c as s) (h:E c as s):W x Q E:=e▸h
end
section
variable {k:Nat}{cx:Cx}{s s1 s2:St}{Q:Fl->St->Prop}{E:D->List D->St->Prop}{e a b o:Kb}{p pos ap:Pos}{ss:List Stmt}{n f:Str}{c d:D}{as:List D}{v:V}{op:Nw}{args:List Kb}{vs:List V}
theorem nq {α β:Type}{x:Res α}{f:α->St->Res β}(e:x=.exn c as s1):x.bind f=.exn c as s1:=by rw[e];rfl
theorem C6 (d:((mk k).ev cx a).f s=.ok v s1) (e:((mk k).ev cx b).f s1=.exn c as s2):((mk (k+1)).ev cx (.BinOp a op b p)).f s=.exn c as s2:=aK d (nq e)
theorem lq (b:xy (mk k) cx (.Assign [.Name n p] e pos)=lH ((mk k).ev cx e) n p pos) (a:hX e=Vo/\bC (cx.names.lookup n)=Vn) (h:((mk k).ev cx e).f s=.exn c as s1) (q:E c as s1):W (((mk (k+1)).xs cx (.Assign [.Name n p] e pos::ss)).f s) Q E:=by
 refine W.bind (W.ofx (c:=c) (as:=as) (s:=s1) ?_ q);rw[b];exact (if_pos a).trans (nq h)
theorem fX {F1:List (Str×V)}{T1:List SObj}(c:Addr){st:List SObj}(hs:gL (mk k) cx f p args pos=kg (mk k) f p args pos) (b:aO args=Vn) (a:ia cx f=Vl (.gbl c)) (i:ke.contains c=Vn/\cx.inH=Vo) (d:(c==244)=Vo) (g:bM ((mk k).ev cx) args s=.ok vs ⟨F1,T1⟩) (e:ie.contains c=Vo) (h:(mk k).call c vs T1=.ok v ⟨[],st⟩):((mk (k+1)).ev cx (.Call (.Name f p) args [] pos)).f s=.ok v ⟨F1,st⟩:=dH hs b a (Ay i d g (fA e h))
theorem pQ {F1:List (Str×V)}{T1:List SObj}(g:Addr){st:List SObj}(hs:gL (mk k) cx f p args pos=kg (mk k) f p args pos) (d:aO args=Vn) (b:ia cx f=Vl (.gbl g)) (l:ke.contains g=Vn/\cx.inH=Vo) (e:(g==244)=Vo) (j:bM ((mk k).ev cx) args s=.ok vs ⟨F1,T1⟩) (i:ie.contains g=Vo) (h:(mk k).call g vs T1=.exn c as ⟨[],st⟩):((mk (k+1)).ev cx (.Call (.Name f p) args [] pos)).f s=.exn c as ⟨F1,st⟩:=by
 show (gL (mk k) cx f p args pos).f s=_;rw[hs];refine (if_pos d).trans (aK (fK b) ?_);refine (if_pos l).trans (aK (s1:=⟨F1,T1⟩) (a:=vs) ?_ ?_)
 ·rw[e];exact j
 ·unfold eW;rw[i];show uc F1 ((mk k).call g vs T1)=_;rw[h];rfl
end
structure Tp (st:List SObj) (tl l:Nat) (os:List Int) (pos:Nat):Prop where
 tape:st[tl]?=Vl (.tape (aR os) l)
 at_:st[l]?=Vl (.list [.int (pos:Int)])
 ok:∀x∈os,bK x
noncomputable abbrev jK (st:List SObj) (l pos:Nat):List SObj:=st.set l (.list [.int (pos:Int)])
theorem Tp.mv {st:List SObj}{tl l:Nat}{a:List Int}{pos p:Nat}(T:Tp st tl l a pos):Tp (jK st l p) tl l a p:=by
 have b:l≠tl:=λe=>by have:=T.at_;rw[e,T.tape] at this;exact SObj.noConfusion (J9 this)
 exact ⟨(LG b).trans T.tape,Mf (Kd.mp T.at_).1,T.ok⟩
theorem Tp.frz {st:List SObj}{a l:Nat}{b:List Int}{pos:Nat}(T:Tp st a l b pos):dQ st a=none:=by
 unfold dQ;rw[T.tape];rfl
theorem AL {a:List Int}{i n:Nat}:iU (aR a) i (i+n)=aR ((a.drop i).take n):=by
 unfold iU aR;rw[Ri,<- Q6,<- TD]
theorem eC {a:List Int}:(aR a).size=a.length:=by unfold aR;rw[Kw,Ka]
theorem GW {st:List SObj}{b:Array UInt8}(h:b.size<=1000) (h0:b.size≠0):iW st .decode (.d (.bytes b)) [.d (.str (sn "latin-1"))]=Vl (.d (.str (wy b)),st):=if_pos (w3 rfl h h0)
section
variable {k tl l pos:Nat}{cx:Cx}{s s1:St}{os xs rest:List Int}{o a:Kb}{ap p:Pos}{c:Nat}{st:List SObj}{i:Int}
theorem pP {F1:List (Str×V)}{T1:List SObj}(h0:hF o=Vn/\aO [a]=Vn/\(ap.endLine==p.line)=Vn) (r:cx.inH=Vo) (h:bb a=Vm) (n:(ek (mk (k+13)) cx o).f s=.ok (.loc tl) ⟨F1,T1⟩) (T:Tp T1 tl l os pos){ci:Int}(q:ci=(c:Int)) (i:((mk (k+13)).ev cx a).f ⟨F1,T1⟩=.ok (.d (.int ci)) ⟨F1,T1⟩):((mk (k+14)).ev cx (.Call (.Attribute o (sn "read") ap) [a] [] p)).f s=.ok (.d (.bytes (aR ((os.drop pos).take c)))) ⟨F1,jK T1 l (pos+((os.drop pos).take c).length)⟩:=by
 subst q;refine aC λw g=>?_;obtain ⟨v,u,e,rfl,rfl⟩:=(wg (k:=k) (b:=aR os) (c:=(c:Int)) T.at_ (Ly _) (Ly _)).get;refine g ?_;rw[KQ,show ((pos:Int)+(c:Int)).toNat=pos+c by lia,AL,eC] at e;refine aT h0 (by decide:(1:Nat)<29) n ?_;unfold gI;have j:cZ T1 (.loc tl) (sn "read")=none:=by show (T1[tl]?).bind _=_;rw[T.tape];rfl
 have m:hS T1 (.loc tl) (sn "read")=none:=by show Kf Vm ((T1[tl]?).bind _)=_;rw[T.tape];rfl
 have t:qL T1 (.loc tl) (sn "read")=Vl (aR os,l):=(if_pos rfl).trans (by show (T1[tl]?).bind _=_;rw[T.tape];rfl);rw[j,m,t];refine (if_pos (show cD [a]=Vn from ?_)).trans ((if_pos r).trans (aK (aI h i aL) ?_))
 ·unfold cD;rw[TH,h];rfl
 ·show uc F1 (uI (mk (k+12)) (aR os) l (.int (c:Int)) T1)=_;rw[e];rfl
end
noncomputable abbrev Ap:Str:=sn "not enough data in stream to read uint1"
noncomputable abbrev CV (a:Nat):List (Str×V):=aY (sn "f") (.loc a) []
section
variable {k tl l pos:Nat}{os xs rest:List Int}{st:List SObj}{i:Int}
theorem xQ (T:Tp st tl l os pos) (h:os[pos]?=Vl i):(mk (k+18)).call 148 [.loc tl] st=.ok (.d (.int i)) ⟨[],jK st l (pos+1)⟩:=by
 have g:(os.drop pos).take 1=[i]:=by
  obtain ⟨f,rfl⟩:=Kd.mp h;rw[Ml f];rfl
 have u:=T.ok i (Kl h);have b:W ((mk (k+18)).call 148 [.loc tl] st) (λv s=>v=.d (.int i)/\s=⟨[],jK st l (pos+1)⟩) noE:=by
  refine bX (fd:=aW 148) (us:=[.loc tl]) (fr:=CV tl) rfl rfl rfl rfl rfl ?_;have n:(aR [i])[0]?=Vl i.toNat.toUInt8:=rfl;have w:bE (.d (.bytes (aR [i]))) (.d (.int 0)) (jK st l (pos+[i].length))=Vl (.d (.int i)):=(Hb (i:=0) n).trans (by rw[hG u]);have x:cc (jK st l (pos+[i].length)) (.d (.bytes (aR [i])))=Vl true:=rfl;have r:=λcx o a ap p f j t m q=>pP (k:=k+2) (cx:=cx) (s:=⟨CV tl,st⟩) (F1:=CV tl) (T1:=st) (c:=1) (o:=o) (a:=a) (ap:=ap) (p:=p) f j t m T (ci:=1) rfl q;rw[g] at r;refine' bT ?a1 ?a2 (r _ _ _ _ _ ?a3 ?a4 ?a5 ?a6 ?a7) ?a8
  case a1=>kernel_rfl
  case a2=>exact ⟨rfl,rfl⟩
  case a3=>exact w3 rfl rfl rfl
  case a4=>rfl
  case a5=>rfl
  case a6=>walk_at "e"
  case a7=>walk_at "e"
  refine' lJ ?b1 (cg ?b2 ?b3)
  case b1=>walk_at "t"
  case b2=>walk_at "e"
  case b3=>exact ⟨rfl,rfl⟩
 obtain ⟨v,s,e,rfl,rfl⟩:=b.get;exact e
theorem xR (T:Tp st tl l os pos) (h:pos=os.length):(mk (k+18)).call 148 [.loc tl] st=.exn (.bi .valueError) [.str Ap] ⟨[],jK st l pos⟩:=by
 have i:(os.drop pos).take 1=[]:=by rw[h,SQ];rfl
 have b:W ((mk (k+18)).call 148 [.loc tl] st) (λ_ _=>False) (λc g s=>c=.bi .valueError/\g=[.str Ap]/\s=⟨[],jK st l pos⟩):=by
  refine bX (fd:=aW 148) (us:=[.loc tl]) (fr:=CV tl) rfl rfl rfl rfl rfl ?_;have v:cc (jK st l (pos+([]:List Int).length)) (.d (.bytes (aR [])))=Vl false:=rfl;have r:=λcx o a ap p n j t m q=>pP (k:=k+2) (cx:=cx) (s:=⟨CV tl,st⟩) (F1:=CV tl) (T1:=st) (c:=1) (o:=o) (a:=a) (ap:=ap) (p:=p) n j t m T (ci:=1) rfl q;rw[i] at r;refine' bT ?a1 ?a2 (r _ _ _ _ _ ?a3 ?a4 ?a5 ?a6 ?a7) ?a8
  case a1=>kernel_rfl
  case a2=>exact ⟨rfl,rfl⟩
  case a3=>exact w3 rfl rfl rfl
  case a4=>rfl
  case a5=>rfl
  case a6=>walk_at "e"
  case a7=>walk_at "e"
  refine' dN ?b1 (aG (oD ?b2 ?b3 ?b4 ?b5 ?b6 ?b7))
  case b1=>walk_at "t"
  case b2=>exact w3 rfl rfl nofun
  case b3=>kernel_rfl
  case b4=>walk_at "e"
  case b5=>walk_at "d"
  case b6=>decide
  case b7=>exact w3 rfl rfl rfl
 refine aC λu f=>?_;obtain ⟨c,g,s,e,rfl,rfl,rfl⟩:=b.exn;refine f ?_;exact e
theorem Eb (T:Tp st tl l os pos) (h:os.drop pos=(xs.length:Int)::(xs++rest)):(mk (k+24)).call 162 [.loc tl] st=.ok (.d (.bytes (aR xs))) ⟨[],jK st l (pos+1+xs.length)⟩:=by
 have q:os[pos]?=Vl (xs.length:Int):=by rw[<- S9,h];rfl
 have g:(os.drop (pos+1)).take xs.length=xs:=by rw[<- Ti,h,Tj,Th]
 have b:W ((mk (k+24)).call 162 [.loc tl] st) (λv s=>v=.d (.bytes (aR xs))/\s=⟨[],jK st l (pos+1+xs.length)⟩) noE:=by
  refine bX (fd:=aW 162) (us:=[.loc tl]) (fr:=CV tl) rfl rfl rfl rfl rfl ?_;have u:=xQ (k:=k+3) T q;have w:=T.frz;refine' bT ?a1 ?a2 (fX 148 ?a3 ?a4 ?a5 ?a6 ?a7 ?a8 ?a9 ?aa) ?ab
  case a1=>kernel_rfl
  case a2=>exact ⟨rfl,rfl⟩
  case a3=>rfl
  case a4=>rfl
  case a5=>kernel_rfl
  case a6=>exact ⟨rfl,rfl⟩
  case a7=>rfl
  case a8=>walk_at "e"
  case a9=>kernel_rfl
  case aa=>exact u
  have z:bV (jK st l (pos+1)) .GtE (.d (.int (xs.length:Int))) (.d (.int 0))=Vl true:=by
   show Vl (decide _)=_;rw[decide_eq_true (Ly _)]
  have r:=λcx fr o a ap p m i t j n=>pP (k:=k+6) (cx:=cx) (s:=⟨fr,jK st l (pos+1)⟩) (F1:=fr) (T1:=jK st l (pos+1)) (c:=xs.length) (o:=o) (a:=a) (ap:=ap) (p:=p) m i t j T.mv rfl n;rw[g] at r;refine' qe ?b1 (bT ?b2 ?b3 (r _ _ _ _ _ _ ?b4 ?b5 ?b6 ?b7 ?b8) ?b9)
  ·walk_at "t"
  ·kernel_rfl
  ·exact ⟨rfl,rfl⟩
  ·exact w3 rfl rfl rfl
  ·rfl
  ·rfl
  ·walk_at "e"
  ·walk_at "e"
  have y:bI (jK (jK st l (pos+1)) l (pos+1+xs.length)) .len [.d (.bytes (aR xs))]=Vl (.int (xs.length:Int)):=vD.trans (by rw[eC]);have x:bV (jK (jK st l (pos+1)) l (pos+1+xs.length)) .Eq (.d (.int (xs.length:Int))) (.d (.int (xs.length:Int)))=Vl true:=by
   rw[kK,beq_self_eq_true]
  refine' lJ ?c1 (cg ?c2 ?c3)
  case c1=>walk_at "t"
  case c2=>walk_at "e"
  case c3=>exact ⟨rfl,congrArg (St.mk []) (Rj ..)⟩
 refine aC λA f=>?_;obtain ⟨v,s,e,rfl,rfl⟩:=b.get;refine f ?_;exact e
theorem GD (T:Tp st tl l os pos) (h:os.drop pos=(xs.length:Int)::(xs++rest)) (hz:xs.length<=1000/\xs≠[]):(mk (k+24)).call 155 [.loc tl] st=.ok (.d (.str (wy (aR xs)))) ⟨[],jK st l (pos+1+xs.length)⟩:=by
 have q:os[pos]?=Vl (xs.length:Int):=by rw[<- S9,h];rfl
 have g:(os.drop (pos+1)).take xs.length=xs:=by rw[<- Ti,h,Tj,Th]
 have b:W ((mk (k+24)).call 155 [.loc tl] st) (λv s=>v=.d (.str (wy (aR xs)))/\s=⟨[],jK st l (pos+1+xs.length)⟩) noE:=by
  refine bX (fd:=aW 155) (us:=[.loc tl]) (fr:=CV tl) rfl rfl rfl rfl rfl ?_;have u:=xQ (k:=k+3) T q;have w:=T.frz;refine' bT ?a1 ?a2 (fX 148 ?a3 ?a4 ?a5 ?a6 ?a7 ?a8 ?a9 ?aa) ?ab
  case a1=>kernel_rfl
  case a2=>exact ⟨rfl,rfl⟩
  case a3=>rfl
  case a4=>rfl
  case a5=>kernel_rfl
  case a6=>exact ⟨rfl,rfl⟩
  case a7=>rfl
  case a8=>walk_at "e"
  case a9=>kernel_rfl
  case aa=>exact u
  have z:bV (jK st l (pos+1)) .GtE (.d (.int (xs.length:Int))) (.d (.int 0))=Vl true:=by
   show Vl (decide _)=_;rw[decide_eq_true (Ly _)]
  have r:=λcx fr o a ap p m i t j n=>pP (k:=k+6) (cx:=cx) (s:=⟨fr,jK st l (pos+1)⟩) (F1:=fr) (T1:=jK st l (pos+1)) (c:=xs.length) (o:=o) (a:=a) (ap:=ap) (p:=p) m i t j T.mv rfl n;rw[g] at r;refine' qe ?b1 (bT ?b2 ?b3 (r _ _ _ _ _ _ ?b4 ?b5 ?b6 ?b7 ?b8) ?b9)
  case b1=>walk_at "t"
  case b2=>kernel_rfl
  case b3=>exact ⟨rfl,rfl⟩
  case b4=>exact w3 rfl rfl rfl
  case b5=>rfl
  case b6=>rfl
  case b7=>walk_at "e"
  case b8=>walk_at "e"
  have y:bI (jK (jK st l (pos+1)) l (pos+1+xs.length)) .len [.d (.bytes (aR xs))]=Vl (.int (xs.length:Int)):=vD.trans (by rw[eC]);have x:bV (jK (jK st l (pos+1)) l (pos+1+xs.length)) .Eq (.d (.int (xs.length:Int))) (.d (.int (xs.length:Int)))=Vl true:=by
   rw[kK,beq_self_eq_true]
  refine' lJ ?c1 (cg ?c2 ?c3)
  case c1=>walk_at "t"
  case c2=>
   refine' aT (w3 rfl rfl rfl) ?d1 ?d2 (aS (bm:=.decode) ?d3 ?d4 rfl (aI rfl (ry ?d5) aL) (GW ?d6 ?d7))
   case d1=>decide
   case d2=>walk_at "e"
   case d3=>rfl
   case d4=>kernel_rfl
   case d5=>exact Kv rfl
   case d6=>rw[eC];exact hz.1
   case d7=>rw[eC];exact λe=>hz.2 (LR e)
  case c3=>exact ⟨rfl,congrArg (St.mk []) (Rj ..)⟩
 refine aC λA f=>?_;obtain ⟨v,s,e,rfl,rfl⟩:=b.get;refine f ?_;exact e
end
end
section
set_option linter.all false
section
variable {k:Nat}{cx:Cx}{s s1:St}{f:Str}{p pos:Pos}{args:List Kb}{vs:List V}{v:V}{st:List SObj}
theorem Au {F1:List (Str×V)}{T1:List SObj}(hs:gL (mk k) cx f p args pos=kg (mk k) f p args pos) (c:aO args=Vn) (d:ia cx f=Vl (.gbl 244)) (e:cx.inH=Vo) (b:bM (xZ (mk k) cx) args s=.ok vs ⟨F1,T1⟩) (h:(mk k).call 244 vs T1=.ok v ⟨[],st⟩):((mk (k+1)).ev cx (.Call (.Name f p) args [] pos)).f s=.ok v ⟨F1,st⟩:=dH hs c d ((if_pos ⟨rfl,e⟩).trans (aK (s1:=⟨F1,T1⟩) (a:=vs) b (fA rfl h)))
theorem zS {a:List (Str×V)}{b:List SObj}{n:Str}(h:zf cx n=Vn){d:D}(c:get n a=Vl (.d d)):(xZ (mk (k+1)) cx (.Name n p)).f ⟨a,b⟩=.ok (.d d) ⟨a,b⟩:=fY h c
end
theorem nP {k:Nat}{b:Array UInt8}:(mk (k+12)).call 244 [.d (.bytes b),.loc 1] [.ctab,.list [.int 0]]=.ok (.loc 2) ⟨[],[.ctab,.list [.int 0],.tape b 1]⟩:=rfl
noncomputable def Thing9.mode (t:Thing9):Int:=t.high*65536+t.kind*4096+t.rights
noncomputable def Thing9.gd (t:Thing9):D:=.lst [.int t.mode,.bytes (aR t.inner),.bool Vn]
noncomputable def wv (l:List Int):Int:=l.foldl (λm x=>256*m+x) 0
theorem yY {t:Thing9}(h:t.Good):wv (t.oct.take 3)=t.mode:=by
 show 256*(256*(256*0+t.high)+(t.kind*16+Ll t.rights 256))+Lk t.rights 256=t.high*65536+t.kind*4096+t.rights;have:=Int.fmod_add_mul_fdiv t.rights 256;lia
theorem xt {t:Thing9}(h:t.Good):∀j,j<3->cM 256/\cM (wv (t.oct.take j)):=λj c=>by
 have a:=h.oct.2;have d:=a t.high (.head _);have b:=a _ (.tail _ (.head _));unfold bK at d b;refine ⟨by unfold cM;decide,?_⟩;unfold cM
 match j,c with
 | 0,_=>show SG 0<_;decide
 | 1,_=>show SG (256*0+t.high)<_;lia
 | 2,_=>show SG (256*(256*0+t.high)+(t.kind*16+Ll t.rights 256))<_;lia
theorem Bn {l:List Int}{j:Nat}{x:Int}(h:l[j]?=Vl x):wv (l.take (j+1))=256*wv (l.take j)+x:=by
 unfold wv;rw[La,h,PX];rfl
theorem Cg {ts:List Thing9}{i:Nat}{t:Thing9}(h:ts[i]?=Vl t):octs ts=octs (ts.take i)++(t.oct++octs (ts.drop (i+1))):=by
 obtain ⟨a,rfl⟩:=Kd.mp h
 conv=>lhs;rw[<- NT i ts,Ml a]
 unfold octs;rw[M2,NM]
noncomputable abbrev sr (b:List Int) (pos:Nat) (a:List D):List SObj:=[.ctab,.list [.int (pos:Int)],.tape (aR b) 1,.list a]
noncomputable abbrev qg:D:=.tup [.str Ap]
theorem qm {k:Nat}{ts:List Thing9}(J:ts.length=9) (q:∀t∈ts,t.Good):W ((mk (k+40)).call 263 [.d (.bytes (aR (octs ts)))] [.ctab]) (λv s=>∃d,v=.d d/\(dt s.st).isSome=Vn/\d=.tup [.lst (ts.map Thing9.gd),qg]) noE:=by
 refine bX (fd:=aW 263) (us:=[.d (.bytes (aR (octs ts)))]) (fr:=aY (sn "octets") (.d (.bytes (aR (octs ts)))) []) rfl rfl rfl rfl rfl ?_;have ok:=(ky q).2;refine' bT ?a1 ?a2 (Au ?a3 ?a4 ?a5 ?a6 (aI ?a7 (zS ?a8 ?a9) (aI ?ac (dT rfl (aI rfl dY aL) rfl) aL)) nP) ?aj
 ·kernel_rfl
 ·exact ⟨rfl,rfl⟩
 ·rfl
 ·rfl
 ·kernel_rfl
 ·rfl
 ·rfl
 ·kernel_rfl
 ·walk_at "g"
 ·rfl
 refine' ee ?b1 ?b2 (dT rfl aL rfl) ?b3
 ·kernel_rfl
 ·exact ⟨rfl,rfl⟩
 refine' gQ (λj s=>∃i,i+j=9/\s.st=sr (octs ts) (octs (ts.take i)).length ((ts.take i).map Thing9.gd)/\get (sn "tape") s.fr=Vl (.loc 2)/\get (sn "given") s.fr=Vl (.loc 3)) 9 rfl (by decide) ⟨0,w4 rfl rfl ?c1 ?c2⟩ (λR Z j s z O F=>?c3)
 case c1=>walk_at "g"
 case c2=>exact aU
 case c3=>
  obtain ⟨i,C,n,H,E⟩:=F;obtain ⟨fr,st⟩:=s;have n:st=_:=n;subst n;refine y2 Vn _ (w3 si (λ_=>?_) (λe=>nomatch e));have T:Tp (sr (octs ts) (octs (ts.take i)).length ((ts.take i).map Thing9.gd)) 2 1 (octs ts) (octs (ts.take i)).length:=⟨rfl,rfl,ok⟩
  refine' qc ⟨rfl,rfl⟩ ?d1
  case d1=>
   walk_at "a";cases a:ts[i]? with
   | some t=>
    have G:=q t (Kl a);have p:=Cg a;have L:(sr (octs ts) 0 ((ts.take i).map Thing9.gd)).length=4:=rfl;have g:∀j x,t.oct[j]?=Vl x->(octs ts)[(octs (ts.take i)).length+j]?=Vl x:=λj x f=>by
     rw[p,Lx (OS _ _),Ri,Kx (Kd.mp f).1];exact f
    refine' ed rfl (w3 rfl rfl rfl) ?e1 ?e2
    case e1=>walk_at "e"
    refine eB (N:=3) (λj fr st=>st=sr (octs ts) ((octs (ts.take i)).length+j) ((ts.take i).map Thing9.gd)/\get (sn "mode") fr=Vl (.d (.int (wv (t.oct.take j))))/\get (sn "tape") fr=Vl (.loc 2)/\get (sn "given") fr=Vl (.loc 3)) (by decide) rfl (w4 rfl (by exact aU) (by walk_at "g") (by walk_at "g")) (λj fr st y b=>?_) λfr st b=>?_
    ·refine W.abs λM o=>?_;obtain ⟨rfl,q1,q2,q3⟩:=b;obtain ⟨x,f⟩:∃x,t.oct[j]?=Vl x:=⟨_,Ki (by show j<_+4;lia)⟩
     have A:Tp (sr (octs ts) ((octs (ts.take i)).length+j) ((ts.take i).map Thing9.gd)) 2 1 (octs ts) ((octs (ts.take i)).length+j):=⟨rfl,rfl,ok⟩
     have r:=A.frz;have u:=xQ (k:=k+12) A (g j x f);have h:=xt G j y;refine' bT ?f1 ?f2 (ij (ij dY ?f3 (Ec h)) (fX 148 ?f4 ?f5 ?f6 ?f7 ?f8 ?f9 ?ar ?af) HM) (aG ?ae)
     case f1=>kernel_rfl
     case f2=>exact ⟨rfl,rfl⟩
     case f3=>walk_at "e"
     case f4=>rfl
     case f5=>rfl
     case f6=>kernel_rfl
     case f7=>exact ⟨rfl,rfl⟩
     case f8=>rfl
     case f9=>walk_at "e"
     case ar=>kernel_rfl
     case af=>exact u
     case ae=>
      refine o _ _ (w4 rfl ?_ (by walk_at "g") (by walk_at "g"));rw[Bn f];exact aU
    ·obtain ⟨rfl,q1,q2,q3⟩:=b;rw[yY G] at q1;have w:Tp (sr (octs ts) ((octs (ts.take i)).length+3) ((ts.take i).map Thing9.gd)) 2 1 (octs ts) ((octs (ts.take i)).length+3):=⟨rfl,rfl,ok⟩
     have r:=w.frz;have l:(octs ts).drop ((octs (ts.take i)).length+3)=(t.inner.length:Int)::(t.inner++octs (ts.drop (i+1))):=by
      rw[p,<- Tm,QN];rfl
     have u:=Eb (k:=k+7) w l;have c:(octs (ts.take i)).length+3+1+t.inner.length=(octs (ts.take (i+1))).length:=by
      rw[nW a,Kj];show _=_+(t.inner.length+4);lia
     have m:(ts.take (i+1)).map Thing9.gd=(ts.take i).map Thing9.gd++[t.gd]:=by rw[La,a,Kz];rfl
     refine' aG (bT ?h1 ?h2 (fX 162 ?h3 ?h4 ?h5 ?h6 ?h7 ?h8 ?h9 ?h0) (aG ?ai))
     case h1=>kernel_rfl
     case h2=>exact ⟨rfl,rfl⟩
     case h3=>rfl
     case h4=>rfl
     case h5=>kernel_rfl
     case h6=>exact ⟨rfl,rfl⟩
     case h7=>rfl
     case h8=>walk_at "e"
     case h9=>kernel_rfl
     case h0=>exact u
     rw[c];have K:bI (sr (octs ts) (octs (ts.take (i+1))).length ((ts.take i).map Thing9.gd)) .isinstance [.d (.bytes (aR t.inner)),.d (.bi .bytes)]=Vl (.bool Vn):=rfl;have z2:iW (sr (octs ts) (octs (ts.take (i+1))).length ((ts.take i).map Thing9.gd)) .append (.loc 3) [.d t.gd]=Vl (.d .non,sr (octs ts) (octs (ts.take (i+1))).length ((ts.take (i+1)).map Thing9.gd)):=by
      rw[m];exact cv rfl (by rw[Ka,Lr];lia)
     refine' cb rfl (aT (w3 rfl rfl rfl) ?i1 ?i2 (aS (bm:=.append) ?i3 ?i4 rfl (aI rfl ?i5 aL) ?i7)) (aG ?i6)
     case i1=>decide
     case i2=>walk_at "e"
     case i3=>rfl
     case i4=>kernel_rfl
     case i5=>walk_at "e"
     case i7=>exact z2
     case i6=>exact z _ _ ⟨j-1,by have:=(Kd.mp a).1;lia,i+1,w4 (by have:=(Kd.mp a).1;lia) rfl (by walk_at "g") (by walk_at "g")⟩
   | none=>
    have I:=KY.mp a;rw[Me I] at T H E ⊢;refine' ed rfl (w3 rfl rfl rfl) ?k1 ?k2
    case k1=>walk_at "e"
    refine eB (N:=3) (λj fr st=>j=0/\st=sr (octs ts) (octs ts).length (ts.map Thing9.gd)/\get (sn "mode") fr=Vl (.d (.int 0))/\get (sn "tape") fr=Vl (.loc 2)/\get (sn "given") fr=Vl (.loc 3)) (by decide) rfl (w5 rfl rfl (by exact aU) (by walk_at "g") (by walk_at "g")) (λj fr st y b=>?_) λfr st b=>nomatch b.1;obtain ⟨rfl,rfl,q1,q2,q3⟩:=b;have r:=T.frz;have u:=xR (k:=k+12) T rfl;have h:cM 256/\cM 0:=by unfold cM;decide
    refine' lq ?l1 ?l2 (C6 (ij dY ?l3 (Ec h)) (pQ 148 ?l4 ?l5 ?l6 ?l7 ?l8 ?l9 ?aa ?ao)) ?aq
    case l1=>kernel_rfl
    case l2=>exact ⟨rfl,rfl⟩
    case l3=>walk_at "e"
    case l4=>rfl
    case l5=>rfl
    case l6=>kernel_rfl
    case l7=>exact ⟨rfl,rfl⟩
    case l8=>rfl
    case l9=>walk_at "e"
    case aa=>kernel_rfl
    case ao=>exact u
    refine' oH (fQ (d:=.bi .valueError) ?m1) ?m2 ?m3 (cg (oo ?m4 (aI ?m5 (dR ?m6 ?m7 ?m8) (aI ?m9 (eJ ?av (gy ?ag ?ab) ?am) aL)) ?ak) ?ah)
    case m1=>kernel_rfl
    case m2=>kernel_rfl
    case m3=>kernel_rfl
    case m4=>rfl
    case m5=>rfl
    case m6=>kernel_rfl
    case m7=>walk_at "g"
    case m8=>rfl
    case m9=>rfl
    case av=>rfl
    case ag=>kernel_rfl
    case ab=>walk_at "g"
    case am=>rfl
    case ak=>walk_at "p"
    case ah=>exact z _ _ ⟨_,w3 rfl rfl rfl⟩
end
section
set_option linter.all false
theorem EG {k a l pos:Nat}{f:List Int}{st:List SObj}(T:Tp st a l f pos) (h:pos=f.length):(mk (k+24)).call 155 [.loc a] st=.exn (.bi .valueError) [.str Ap] ⟨[],jK st l pos⟩:=by
 have b:W ((mk (k+24)).call 155 [.loc a] st) (λ_ _=>False) (λc g s=>c=.bi .valueError/\g=[.str Ap]/\s=⟨[],jK st l pos⟩):=by
  refine bX (fd:=aW 155) (us:=[.loc a]) (fr:=CV a) rfl rfl rfl rfl rfl ?_;have u:=xR (k:=k+3) T h;have i:=T.frz;refine' lq ?a1 ?a2 (pQ 148 ?a3 ?a4 ?a5 ?a6 ?a7 ?a8 ?a9 ?ab) ?aa
  case a1=>kernel_rfl
  case a2=>exact ⟨rfl,rfl⟩
  case a3=>rfl
  case a4=>rfl
  case a5=>kernel_rfl
  case a6=>exact ⟨rfl,rfl⟩
  case a7=>rfl
  case a8=>walk_at "e"
  case a9=>kernel_rfl
  case ab=>exact u
  case aa=>exact w3 rfl rfl rfl
 refine aC λj d=>?_;obtain ⟨c,g,s,e,rfl,rfl,rfl⟩:=b.exn;refine d ?_;exact e
theorem zn {s:Str}(h:∀c∈s.cps.toList,c<256):wy (aR (gV s))=s:=by
 unfold wy aR gV;rw[KC,List.map_toArray,KC];have:s.cps.toList.map ((λc:UInt8=>c.toNat) ∘ ((λi:Int=>i.toNat.toUInt8) ∘ λc:Nat=>(c:Int)))=s.cps.toList:=(LK λc a=>by
  show ((c:Int).toNat.toUInt8).toNat=id c;rw[KQ,QW,RL,Qj (h c a)];rfl).trans (N3 _)
 rw[this]
theorem AW {b:Array UInt8}:aR (eX b)=b:=by
 unfold aR eX;rw[KC];have:b.toList.map ((λi:Int=>i.toNat.toUInt8) ∘ λc:UInt8=>(c.toNat:Int))=b.toList:=(LK λc a=>by
  show ((c.toNat:Int).toNat.toUInt8)=id c;rw[KQ,QW];exact UInt8.ofNat_toNat).trans (N3 _)
 rw[this]
theorem yL {rs:List Row}{i:Nat}{r:Row}(h:rs[i]?=Vl r):octs2 rs=octs2 (rs.take i)++(rowO r++octs2 (rs.drop (i+1))):=by
 obtain ⟨a,rfl⟩:=Kd.mp h
 conv=>lhs;rw[<- NT i rs,Ml a]
 unfold octs2;rw[M2,NM]
theorem v9 {k:Nat}{rs:List Row}(H:rs.length<=9) (n:∀r∈rs,RowOk r/\r.1.cps.size≠0):W ((mk (k+40)).call 275 [.d (.bytes (aR (octs2 rs)))] [.ctab]) (λv s=>∃d,v=.d d/\(dt s.st).isSome=Vn/\d=.tup [kR rs,qg]) noE:=by
 refine bX (fd:=aW 275) (us:=[.d (.bytes (aR (octs2 rs)))]) (fr:=aY (sn "octets") (.d (.bytes (aR (octs2 rs)))) []) rfl rfl rfl rfl rfl ?_;have ok:=(jm λr F=>(n r F).1).2;refine' bT ?a1 ?a2 (Au ?a3 ?a4 ?a5 ?a6 (aI ?a7 (zS ?a8 ?a9) (aI ?ai (dT rfl (aI rfl dY aL) rfl) aL)) nP) ?aj
 ·kernel_rfl
 ·exact ⟨rfl,rfl⟩
 ·rfl
 ·rfl
 ·kernel_rfl
 ·rfl
 ·rfl
 ·kernel_rfl
 ·walk_at "g"
 ·rfl
 refine' ee ?b1 ?b2 (dT rfl aL rfl) ?b3
 ·kernel_rfl
 ·exact ⟨rfl,rfl⟩
 refine' uk (λj s=>∃i,i+j=rs.length/\s.st=sr (octs2 rs) (octs2 (rs.take i)).length ((rs.take i).map cA)/\get (sn "tape") s.fr=Vl (.loc 2)/\get (sn "rows") s.fr=Vl (.loc 3)) rs.length rfl (by walk_at "n") ⟨0,w4 (LY _) rfl ?c1 ?c2⟩ (λj s C=>?c3)
 ·walk_at "g"
 ·exact aU
 ·
  obtain ⟨i,x,l,E,z⟩:=C;obtain ⟨fr,st⟩:=s;have l:st=_:=l;subst l;refine y2 Vn _ (w3 si (λ_=>?_) (λe=>nomatch e));have T:Tp (sr (octs2 rs) (octs2 (rs.take i)).length ((rs.take i).map cA)) 2 1 (octs2 rs) (octs2 (rs.take i)).length:=⟨rfl,rfl,ok⟩
  have y:=T.frz;refine' qc ⟨rfl,rfl⟩ ?d1
  case d1=>
   cases a:rs[i]? with
   | some r=>
    have p:=(Kd.mp a).1;obtain ⟨G,A⟩:=n r (Kl a);have w:=yL a;have h:(gV r.1).length=r.1.cps.size:=by unfold gV;rw[Ka,KJ]
    have q:(eX r.2).length=r.2.size:=by unfold eX;rw[Ka,KJ]
    have c:(octs2 rs).drop (octs2 (rs.take i)).length=((gV r.1).length:Int)::(gV r.1++([(r.2.size:Int)]++(eX r.2++octs2 (rs.drop (i+1))))):=by
     rw[w,QN,h];unfold rowO;rw[KT,KT,KT];rfl
    have u:=GD (k:=k+9) T c ⟨by have:=G.len;walk_at "n",λe=>A (by rw[<- h,e];rfl)⟩;rw[zn G.chars] at u;have t:Tp (sr (octs2 rs) ((octs2 (rs.take i)).length+1+(gV r.1).length) ((rs.take i).map cA)) 2 1 (octs2 rs) ((octs2 (rs.take i)).length+1+(gV r.1).length):=⟨rfl,rfl,ok⟩
    have m:=t.frz;have f:(octs2 rs).drop ((octs2 (rs.take i)).length+1+(gV r.1).length)=((eX r.2).length:Int)::(eX r.2++octs2 (rs.drop (i+1))):=by
     rw[Nat.add_assoc,<- Tm,c,Ry 1,List.drop_succ_cons,QN,q];rfl
    have o:=Eb (k:=k+8) t f;rw[AW] at o;have b:(octs2 (rs.take i)).length+1+(gV r.1).length+1+(eX r.2).length=(octs2 (rs.take (i+1))).length:=by
     rw[md a,Kj];unfold rowO;rw[Kj,Kj,Kj];show _=_+(1+_+1+_);walk_at "n"
    have g:(rs.take (i+1)).map cA=(rs.take i).map cA++[.lst [.str r.1,.bytes r.2]]:=by rw[La,a,Kz];rfl
    refine' bT ?f1 ?f2 (fX 155 ?f4 ?f5 ?f6 ?f7 ?f8 ?f9 ?ae ?ao) (bT ?h1 ?h2 (fX 162 ?h3 ?h4 ?h5 ?h6 ?h7 ?h8 ?h9 ?h0) (aG ?ag))
    case f1=>kernel_rfl
    case f2=>exact ⟨rfl,rfl⟩
    case f4=>rfl
    case f5=>rfl
    case f6=>kernel_rfl
    case f7=>exact ⟨rfl,rfl⟩
    case f8=>rfl
    case f9=>walk_at "e"
    case ae=>kernel_rfl
    case ao=>exact u
    case h1=>kernel_rfl
    case h2=>exact ⟨rfl,rfl⟩
    case h3=>rfl
    case h4=>rfl
    case h5=>kernel_rfl
    case h6=>exact ⟨rfl,rfl⟩
    case h7=>rfl
    case h8=>exact aI rfl (ka rfl (by walk_at "g") m) aL
    case h9=>kernel_rfl
    case h0=>exact o
    rw[b];have z2:iW (sr (octs2 rs) (octs2 (rs.take (i+1))).length ((rs.take i).map cA)) .append (.loc 3) [.d (.lst [.str r.1,.bytes r.2])]=Vl (.d .non,sr (octs2 rs) (octs2 (rs.take (i+1))).length ((rs.take (i+1)).map cA)):=by
     rw[g];exact cv rfl (by rw[Ka,Lr];walk_at "n")
    refine' cb rfl (aT (w3 rfl rfl rfl) ?i1 ?i2 (aS (bm:=.append) ?i3 ?i4 rfl (aI rfl ?i5 aL) ?i7)) (aG ?i6)
    case i1=>decide
    case i2=>walk_at "e"
    case i3=>rfl
    case i4=>kernel_rfl
    case i5=>walk_at "e"
    case i7=>exact z2
    case i6=>exact ⟨j-1,by walk_at "n",i+1,w4 (by walk_at "n") rfl (by walk_at "g") (by walk_at "g")⟩
   | none=>
    have p:=KY.mp a;rw[Me p] at T E z y ⊢;have u:=EG (k:=k+9) T rfl;refine' lq ?l1 ?l2 (pQ 155 ?l4 ?l5 ?l6 ?l7 ?l8 ?l9 ?aa ?ab) ?ac
    case l1=>kernel_rfl
    case l2=>exact ⟨rfl,rfl⟩
    case l4=>rfl
    case l5=>rfl
    case l6=>kernel_rfl
    case l7=>exact ⟨rfl,rfl⟩
    case l8=>rfl
    case l9=>walk_at "e"
    case aa=>kernel_rfl
    case ab=>exact u
    refine' oH (fQ (d:=.bi .valueError) ?m1) ?m2 ?m3 (cg (oo ?m4 (aI ?m5 (dR ?m6 ?m7 ?m8) (aI ?m9 (eJ ?ak (gy ?aq ?ah) ?ar) aL)) ?am) ?af)
    case m1=>kernel_rfl
    case m2=>kernel_rfl
    case m3=>kernel_rfl
    case m4=>rfl
    case m5=>rfl
    case m6=>kernel_rfl
    case m7=>walk_at "g"
    case m8=>rfl
    case m9=>rfl
    case ak=>rfl
    case aq=>kernel_rfl
    case ah=>walk_at "g"
    case ar=>rfl
    case am=>walk_at "p"
    case af=>exact ⟨_,w3 rfl rfl rfl⟩
end
section
set_option linter.all false
theorem Dv {x r b:Nat}(c:r<4096) (a:b<4096):(4096*x+r)&&& b=r&&& b:=by
 refine RX λj=>?_;rw[QC,QC,Nf x (i:=12) c];by_cases h:j<12
 ·rw[if_pos h]
 ·rw[if_neg h,Nat.testBit_lt_two_pow (x:=b) (i:=j) (L3 a (Nat.pow_le_pow_right (n:=2) (by decide) (MI h))),QQ,QQ]
theorem Bg {x r:Nat}(a:r<4096):(4096*x+r)&&& 61440=4096*(x % 16):=by
 refine RX λj=>?_;rw[QC,Nf x (i:=12) a,show (61440:Nat)=2 ^ 12*15+0 from rfl,Nf 15 (i:=12) (by decide),show 4096*(x % 16)=2 ^ 12*(x % 16)+0 from rfl,Nf (x % 16) (i:=12) (by decide)];by_cases h:j<12
 ·rw[if_pos h,if_pos h,if_pos h,Nat.zero_testBit,QQ]
 ·rw[if_neg h,if_neg h,if_neg h,show x % 16=x % 2 ^ 4 from rfl,Nat.testBit_mod_two_pow,show (15:Nat)=2 ^ 4-1 from rfl,Nat.testBit_two_pow_sub_one,Bool.and_comm]
noncomputable def AQ (r c e a g h f b:Nat):Bool:=(λd y=>
 cond (Tn (Nr (QX r a) a) (Ug 4 d)) Vo (cond (Tn (Nr (QX r g) g) (Nr (SL (Uf d 2) 2) 1)) Vo (Nr (Uh (SL d 2) (Uc 2 (SL y 2))) (cond (Nr (QX r h) h) 3 (cond (Nr (QX r f) f) 2 (cond (Nr (QX r b) b) 1 0)))))) (SL (Uf r c) 8) (Uf r e)
noncomputable def HB (r:Nat):Bool:=cond (AQ r 64 2048 256 128 2112 2048 64) (cond (AQ r 8 1024 32 16 1032 1024 8) (AQ r 1 512 4 2 513 512 1) Vo) Vo
noncomputable def Dx (n:Nat) (f:Nat->Bool):Bool:=Nat.rec Vn (λk b=>cond (f k) b Vo) n
theorem vJ {f:Nat->Bool}:∀{n:Nat},Dx n f=Vn->∀k,k<n->f k=true:=@nr _ (@λ_ _ h=>absurd h (L5 _)) (λn a=>(@λh k b=>by
  change cond (f n) (Dx n f) Vo=Vn at h;cases q:f n with
  | false=>rw[q] at h;exact nomatch h
  | true=>
   rw[q] at h;rcases My.mp b with e | e
   ·exact a h k e
   ·exact e▸q))
theorem De:(Dx 64 λa=>Dx 64 λb=>HB (Uh (Uc 64 a) b))=true:=by decide +kernel
theorem FY {r:Nat}(h:r<4096):HB r=true:=by
 have:=vJ (vJ De (r / 64) (by lia)) (r % 64) (Sz _ (by decide));rw[show Uh (Uc 64 (r / 64)) (r % 64)=r from Nat.div_add_mod r 64] at this;exact this
theorem rI {a b:Bool}(h:cond a b Vo=Vn):a=Vn/\b=true:=by
 cases a
 ·exact nomatch h
 ·exact ⟨rfl,h⟩
theorem rH {a b:Bool}(h:cond a Vo b=Vn):a=Vo/\b=true:=by
 cases a
 ·exact ⟨rfl,h⟩
 ·exact nomatch h
theorem xC {a b:Bool}(h:Tn a b=Vo):a=b:=by cases a<;>cases b<;>first | rfl | exact nomatch h
theorem Dg {r c e a f i g b:Nat}(h:AQ r c e a f i g b=Vn):Nr (r&&& a) a=Ug 4 (r / c % 8)/\Nr (r&&& f) f=Nr (r / c % 8 / 2 % 2) 1/\r / c % 8 % 2+2*(r / e % 2)=cond (Nr (r&&& i) i) 3 (cond (Nr (r&&& g) g) 2 (cond (Nr (r&&& b) b) 1 0)):=by
 obtain ⟨j,d⟩:=rH h;obtain ⟨d,k⟩:=rH d;exact w3 (xC j) (xC d) (Pi k)
theorem jW {i:Nat}{m:Int}{r b:Nat}(a:(i==0)=Vo) (h:m.toNat&&& b=r&&& b):hit i m (b:Int)=Nr (r&&& b) b:=by
 unfold hit;rw[a,KQ,h];show (((r&&& b:Nat):Int)==(b:Int))=_;exact LO.mpr ⟨λe=>by rw[LE (eq_of_beq e)];exact Nat.beq_refl _,λe=>by rw[Pi e];exact beq_self_eq_true _⟩
theorem rM {i:Nat}{m b:Int}{c:String}(a:(i==0)=Vo):sn (qb i m [(b,c)])=cond (hit i m b) (sn c) (sn "-"):=by
 unfold qb;rw[a,MR];show sn (TA (KG _ (match hit i m b with | true=>_ | false=>_)) _)=_;cases hit i m b<;>rfl
theorem xg {i:Nat}{m b c a:Int}{c3 c4 c5:String}(d:(i==0)=Vo):qb i m [(b,c3),(c,c4),(a,c5)]=cond (hit i m b) c3 (cond (hit i m c) c4 (cond (hit i m a) c5 "-")):=by
 unfold qb;rw[d,MR,MR,MR];show TA (KG _ (match hit i m b with | true=>_ | false=>match hit i m c with | true=>_ | false=>match hit i m a with | true=>_ | false=>_)) _=_;cases hit i m b<;>cases hit i m c<;>cases hit i m a<;>rfl
theorem zV (a b:Nat):Ll (a:Int) (b:Int)=((a / b:Nat):Int):=Nm _ (Ly _)
theorem vk (a b:Nat):Lk (a:Int) (b:Int)=((a % b:Nat):Int):=Int.fmod_eq_emod_of_nonneg _ (Ly _)
theorem pH {g r:Nat}{m:Int}{c e i k n l j:Nat}{c3 c4 c5:String}(a:∀b,b<4096->m.toNat&&& b=r&&& b) (d:i<4096/\k<4096/\n<4096/\l<4096/\j<4096) (h:AQ r c e i k n l j=Vn) (t:cT g=(c:Int)) (o:eT g=(e:Int)) (u:∀x y z:Bool,(⟨#[((xT g).cps[cond x 3 (cond y 2 (cond z 1 0))]?).getD 0]⟩:Str)=sn (cond x c3 (cond y c4 (cond z c5 "-")))):sn (qb (3*g+1) m [((i:Int),"r")])=gR (r:Int) g/\sn (qb (3*g+2) m [((k:Int),"w")])=gW (r:Int) g/\sn (qb (3*g+3) m [((n:Int),c3),((l:Int),c4),((j:Int),c5)])=gX (r:Int) g:=by
 obtain ⟨q,v,s⟩:=Dg h;have f:vu (r:Int) g=((r / c % 8:Nat):Int):=by
  unfold vu;rw[t,zV,show (8:Int)=((8:Nat):Int) from rfl,vk]
 have p:(lst (r:Int) g).toNat=r / c % 8 % 2+2*(r / e % 2):=by
  unfold lst;rw[f,o,zV,show (2:Int)=((2:Nat):Int) from rfl,vk,vk];rfl
 refine w3 ?_ ?_ ?_
 ·rw[rM rfl,jW rfl (a _ d.1),q];unfold gR;rw[f]
  congr 1
  show Ug 4 _=decide _;rw[LO,decide_eq_true_iff];exact ⟨λh=>MA.mpr (Kv h),λh=>Nat.ble_eq_true_of_le (MA.mp h)⟩
 ·rw[rM rfl,jW rfl (a _ d.2.1),v];unfold gW;rw[f,show (2:Int)=((2:Nat):Int) from rfl,zV,vk]
  congr 1
  show Nr _ 1=(((_:Nat):Int)==((1:Nat):Int));exact LO.mpr ⟨λe=>by rw[Pi e];rfl,λe=>by rw[LE (eq_of_beq e)];rfl⟩
 ·rw[xg rfl,jW rfl (a _ d.2.2.1),jW rfl (a _ d.2.2.2.1),jW rfl (a _ d.2.2.2.2)];unfold gX;rw[p,s,u]
theorem CB:∀k∈([4,8,12,6,0,3]:List Int),(sn (((([(40960,"l"),(49152,"s"),(32768,"-"),(24576,"b"),(16384,"d"),(8192,"c"),(4096,"p")]:List (Int×String)).find? λp=>k*4096==p.1).map (·.2)).getD "?")).cps=#[kc k]:=by decide +kernel
theorem gk {s:Str}(h:s.cps.size=1):∃x,s=⟨#[x]⟩:=by
 obtain ⟨a⟩:=s;obtain ⟨l⟩:=a
 match l,h with
 | [x],_=>exact ⟨x,rfl⟩
theorem zs {c d e h a i j f b g:Nat}:Pq (sn "") [⟨#[c]⟩,⟨#[d]⟩,⟨#[e]⟩,⟨#[h]⟩,⟨#[a]⟩,⟨#[i]⟩,⟨#[j]⟩,⟨#[f]⟩,⟨#[b]⟩,⟨#[g]⟩]=(⟨#[c,d,e,h,a,i,j,f,b,g]⟩:Str):=rfl
theorem qH {t:Thing9}(h:t.Good):∃a k r:Nat,t.kind=(k:Int)/\t.rights=(r:Int)/\k<16/\r<4096/\t.mode.toNat=4096*(16*a+k)+r:=by
 have d:0<=t.kind/\t.kind<16:=by rcases h.kind with e | e | e | e | e | e<;>rw[e]<;>decide
 obtain ⟨a,f⟩:=Lg h.high.1;obtain ⟨k,b⟩:=Lg d.1;obtain ⟨r,c⟩:=Lg h.rights.1;refine y3 a k r (w5 b c (MA.mp (b▸d.2)) (MA.mp (c▸h.rights.2)) ?_);unfold Thing9.mode;rw[f,b,c];show a*65536+k*4096+r=_;rw[Nat.mul_add,<- Nat.mul_assoc,Rw a,Rw k]
theorem ob {t:Thing9}(h:t.Good):nD t.mode=t.kind*4096:=by
 obtain ⟨a,k,r,c,_,d,b,e⟩:=qH h;unfold nD;rw[e,Bg b,Nat.mul_add_mod,Qj d,Rw,c];rfl
theorem yX {t:Thing9}(h:t.Good):Pq (sn "") ((Ky 10).map λi=>sn (qb i t.mode (fmT[i]?.getD [])))=t.row:=by
 have y:=ob h;obtain ⟨_,_,r,_,A,_,c,F⟩:=qH h;have a:∀b,b<4096->t.mode.toNat&&& b=r&&& b:=λb s=>by rw[F,Dv c s]
 have o:sn (qb 0 t.mode (fmT[0]?.getD []))=⟨#[kc t.kind]⟩:=by
  have:=CB t.kind (by rcases h.kind with e | e | e | e | e | e<;>rw[e]<;>decide);rw[<- y] at this;exact congrArg Str.mk this
 obtain ⟨z,d⟩:=rI (FY c);obtain ⟨d,L⟩:=rI d;obtain ⟨G,x,H⟩:=pH (g:=0) (c3:="s") (c4:="S") (c5:="x") a (by decide) z rfl rfl (by decide +kernel);obtain ⟨I,p,w⟩:=pH (g:=1) (c3:="s") (c4:="S") (c5:="x") a (by decide) d rfl rfl (by decide +kernel);obtain ⟨q,C,v⟩:=pH (g:=2) (c3:="t") (c4:="T") (c5:="x") a (by decide) L rfl rfl (by decide +kernel);have hs:=th (r:Int);obtain ⟨x1,j⟩:=gk (hs 0).1;obtain ⟨x2,y2⟩:=gk (hs 0).2.1;obtain ⟨x3,y3⟩:=gk (hs 0).2.2;obtain ⟨x4,y4⟩:=gk (hs 1).1;obtain ⟨x5,y5⟩:=gk (hs 1).2.1;obtain ⟨K,m⟩:=gk (hs 1).2.2;obtain ⟨u,f⟩:=gk (hs 2).1;obtain ⟨J,k⟩:=gk (hs 2).2.1;obtain ⟨E,n⟩:=gk (hs 2).2.2;have l:((Ky 10).map λi=>sn (qb i t.mode (fmT[i]?.getD [])))=[⟨#[kc t.kind]⟩,⟨#[x1]⟩,⟨#[x2]⟩,⟨#[x3]⟩,⟨#[x4]⟩,⟨#[x5]⟩,⟨#[K]⟩,⟨#[u]⟩,⟨#[J]⟩,⟨#[E]⟩]:=by
  rw[<- o,<- G.trans j,<- x.trans y2,<- H.trans y3,<- I.trans y4,<- p.trans y5,<- w.trans m,<- q.trans f,<- C.trans k,<- v.trans n];rfl
 rw[l,zs];unfold Thing9.row;rw[show rowS ⟨#[kc t.kind]⟩ t.rights 3=⟨#[kc t.kind]⟩++gR t.rights 0++gW t.rights 0++gX t.rights 0++gR t.rights 1++gW t.rights 1++gX t.rights 1++gR t.rights 2++gW t.rights 2++gX t.rights 2 from rfl];rw[A,j,y2,y3,y4,y5,m,f,k,n];rfl
end
section
set_option linter.all false
noncomputable def D.ctorIdx (x:D):Nat:=x.casesOn 0 (λ_=>1) (λ_=>2) (λ_=>3) (λ_=>4) (λ_=>5) (λ_=>6) (λ_=>7) (λ_ _=>8) (λ_=>9) λ_=>10
noncomputable def SObj.ctorIdx (x:SObj):Nat:=x.casesOn 0 (λ_=>1) (λ_=>2) (λ_=>3) (λ_=>4) (λ_=>5) (λ_=>6) (λ_=>7) (λ_ _ _=>8) (λ_ _=>9) (λ_ _=>10) (λ_ _=>11) 12 λ_=>13
section
variable {st:List SObj}{B l q p m:Nat}{A:List (Str×V)}{n:Str}{u:V}{a b c:Option V}{so x y:SObj}{kvs:List (Int×Nat)}{i:Int}
theorem fS (h:st[B]?=Vl (.inst A)) (a:iZ.contains n=Vn) (g:get n A=Vl u):cG st (.loc B) n=Vl u:=by
 show (st[B]?).bind _=_;rw[h];show Kf (if iZ.contains n=Vn then get n A else Vm) _=_;rw[if_pos a,g];rfl
theorem gE (h:st[l]?=Vl (.node a b c)) (g:jn (a,b,c) n=Vl u):cG st (.loc l) n=Vl u:=by
 show (st[l]?).bind _=_;rw[h];show Kf Vm (Kf (jn (a,b,c) n) _)=_;rw[g];rfl
theorem jg (h:st[B]?=Vl (.inst A)) (a:iZ.contains n=Vn/\A.length<=800) (b:DM u=Vn):cN st (.loc B) n u=Vl (st.set B (.inst (aY n u A))):=by
 unfold cN;refine (if_pos b).trans ?_;show (st[B]?).bind _=_;rw[h];show Kf (if _ then _ else _) _=_;rw[if_pos a];rfl
theorem jf (h:st[l]?=Vl (.node a b c)) (d:DM u=Vn) (g:fJ (a,b,c) n u=Vl so):cN st (.loc l) n u=Vl (st.set l so):=by
 unfold cN;refine (if_pos d).trans ?_;show (st[l]?).bind _=_;rw[h];show Kf Vm (Kf ((fJ (a,b,c) n u).map _) _)=_;rw[g];rfl
theorem Co:fJ (a,b,c) (sn "successors") u=Vl (.node (Vl u) b c):=if_pos rfl
theorem jJ:fJ (a,b,c) (sn "npredecessors") u=Vl (.node a (Vl u) c):=(if_neg (by decide)).trans (if_pos rfl)
theorem Cp:fJ (a,b,c) (sn "node") u=Vl (.node a b (Vl u)):=(if_neg (by decide)).trans ((if_neg (by decide)).trans (if_pos rfl))
noncomputable def eV (kvs:List (Int×Nat)):SObj:=LW kvs (.dict []) λp r=>.objs (p::r)
theorem GV (h:st[l]?=Vl (eV kvs)):iW st .get (.loc l) [.d (.int i)]=Vl (optE (aF i kvs) (.d .non) .loc,st):=by
 show KG _ (Kf (Kf (KG _ ((st[l]?).bind _)) (KG _ ((st[l]?).bind _))) _)=_;rw[h];cases kvs with
 | nil=>rfl
 | cons p r=>rfl
theorem vY (h:st[l]?=Vl (eV kvs)) (hz:kvs.length<=1000):eD st (.loc l) i (.loc m)=Vl (st.set l (.objs (lZ i m kvs))):=by
 show (st[l]?).bind _=_;rw[h];cases kvs with
 | nil=>rfl
 | cons p r=>
  show Kf Vm (Kf (if _ then _ else _) _)=_;rw[if_pos hz];rfl
theorem aP (a:st[p]?=Vl x) (c:st[q]?=Vl y) (b:x≠y):(st.set q so)[p]?=Vl x:=(LG λ(e:q=p)=>b (J9 (a.symm.trans ((congrArg (λi=>st[i]?) e.symm).trans c)))).trans a
theorem bA (a:st[q]?=Vl y):(st.set q so)[q]?=Vl so:=Mf (Kd.mp a).1
theorem aE {r:List SObj}(a:st[p]?=Vl x):(st++r)[p]?=Vl x:=(Kx (Kd.mp a).1).trans a
theorem bH {r:List SObj}(a:m=st.length):(st++x::r)[m]?=Vl x:=by
 rw[a,Lx (KH _),NP];rfl
theorem gj {r:List SObj}(a:m=st.length):(st++x::r).set m y=st++y::r:=by
 rw[a,Rz _ _ (KH _),NP];rfl
theorem pB:bV st .Is (.loc l) (.d .non)=Vl false:=rfl
theorem Id:bV st .IsNot (.loc l) (.d .non)=Vl true:=rfl
theorem Fs:bV st .Is (.d .non) (.d .non)=Vl true:=rfl
theorem vb:bV st .IsNot (.d .non) (.d .non)=Vl false:=rfl
end
section
variable {k:Nat}{cx:Cx}{s s1 s2 s3:St}{Q:Fl->St->Prop}{E:D->List D->St->Prop}{e o i:Kb}{p p2 pos:Pos}{ss:List Stmt}{n:Str}{v ov:V}{j:Int}{st':List SObj}
theorem Il {a:List (Str×V)}{b:List SObj}(hn:bC (cx.names.lookup n)=Vn) (h:((mk k).ev cx e).f s=.ok v s1) (c:(ek (mk k) cx o).f s1=.ok ov s2) (l:((mk k).ev cx i).f s2=.ok (.d (.int j)) ⟨a,b⟩) (g:eD b ov j v=Vl st') (q:W (((mk k).xs cx ss).f ⟨aY n v a,st'⟩) Q E):W (((mk (k+1)).xs cx (.Assign [.Subscript o i p,.Name n p2] e pos::ss)).f s) Q E:=ko ((if_pos hn).trans (aK h (aK c (aK l (aK (ir g) rfl))))) q
end
theorem ig {k:Nat}{cx:Cx}{e:Kb}{s s1:St}{v:V}(a:wO (mk k) cx e=(mk k).ev cx e) (h:((mk k).ev cx e).f s=.ok v s1):(wO (mk k) cx e).f s=.ok v s1:=a▸h
theorem dD {α:Type}{k:Int}{r:List (Int×α)}:∀{l:List (Int×α)},aF k (l++r)=(aF k l).or (aF k r):=@lr _ _ (rfl) (λp l a=>by
  show (if p.1=k then Vl p.2 else aF k (l++r))=Kf (if p.1=k then Vl p.2 else aF k l) _;by_cases h:p.1=k
  ·rw[if_pos h,if_pos h];rfl
  ·rw[if_neg h,if_neg h];exact a)
theorem fC {α:Type}{k:Int}:∀{l:List (Int×α)},aF k l=Vm<->k∉l.map (·.1):=@lr _ _ (⟨λ_ m=>(nomatch m),λ_=>rfl⟩) (λp l a=>by
  show (if p.1=k then Vl p.2 else aF k l)=Vm<->_;by_cases h:p.1=k
  ·rw[if_pos h];exact ⟨λe=>absurd e nofun,λq=>absurd (by rw[<- h];exact KR (.head _)) q⟩
  ·rw[if_neg h,a,KB,Kt,not_or];exact ⟨λq=>⟨λe=>h e.symm,q⟩,λq=>q.2⟩)
noncomputable def gO (B:Nat) (b:V) (a c:Int):List (Str×V):=[(sn "_node2info",.loc (B+1)),(sn "_ready_nodes",b),(sn "_npassedout",.d (.int a)),(sn "_nfinished",.d (.int c))]
noncomputable abbrev uQ (l a:Nat) (k:Int):SObj:=.node (Vl (.loc (l+1))) (Vl (.d (.int (a:Int)))) (Vl (.d (.int k)))
structure Sa (st:List SObj) (B n:Nat) (kvs:List (Int×Nat)) (np:Int->Nat) (su:Int->List Int):Prop where
 hd:∃r,st=.ctab::r
 inst:st[B]?=Vl (.inst (gO B (.d .non) 0 0))
 dict:st[B+1]?=Vl (eV kvs)
 node:∀k l,aF k kvs=Vl l->st[l]?=Vl (uQ l (np k) k)/\st[l+1]?=Vl (.list ((su k).map .int))
 new:∀k,aF k kvs=Vm->np k=0/\su k=[]
 keys:∀p∈kvs,0<=p.1/\p.1<(n:Int)
 once:(kvs.map (·.1)).Nodup
theorem Sa.info {st:List SObj}{B n:Nat}{kvs:List (Int×Nat)}{a:Int->Nat}{su:Int->List Int}(S:Sa st B n kvs a su):cG st (.loc B) (sn "_node2info")=Vl (.loc (B+1)):=fS S.inst rfl rfl
theorem Sa.frz {st:List SObj}{B n:Nat}{kvs:List (Int×Nat)}{a:Int->Nat}{su:Int->List Int}(S:Sa st B n kvs a su):dQ st B=none:=by
 unfold dQ;rw[S.inst];rfl
theorem W.eq {α:Type}{x:Res α}{a:α}{s:St}(h:W x (λv t=>v=a/\t=s) noE):x=.ok a s:=by
 obtain ⟨v,t,e,rfl,rfl⟩:=h.get;exact e
theorem yQ {k m:Nat}{i:Int}{st:List SObj}(b:m=st.length):(mk (k+10)).call 40 [.d (.int i)] st=.ok (.loc m) ⟨[],st++[uQ m 0 i,.list []]⟩:=by
 refine rp b ?_;have a:(mk (k+9)).call 36 [.loc st.length,.d (.int i)] (st++[.node Vm Vm Vm])=.ok (.d .non) ⟨[],st++[uQ st.length 0 i,.list []]⟩:=by
  refine W.eq (bX (fd:=aW 36) (us:=[.loc st.length,.d (.int i)]) (fr:=aY (sn "node") (.d (.int i)) (aY (sn "self") (.loc st.length) [])) rfl rfl rfl rfl rfl ?_);refine' fM (ig ?a0 ?a1) ?a2 ?a3 (fM (ig ?b0 dY) ?b2 ?b3 (fM (dT ?c0 aL ?c1) ?c2 ?c3 (aG ?c4)))
  case a0=>rfl
  case a1=>walk_at "e"
  case a2=>walk_at "e"
  case a3=>exact jf (bH rfl) rfl Cp
  case b0=>rfl
  case b2=>walk_at "e"
  case b3=>exact jf (bA (bH rfl)) rfl jJ
  case c0=>rfl
  case c1=>rfl
  case c2=>walk_at "e"
  case c3=>exact jf (aE (bA (bA (bH rfl)))) rfl Co
  case c4=>
   refine ⟨rfl,congrArg (St.mk []) ?_⟩;show ((((st++[SObj.node Vm Vm Vm]).set st.length _).set st.length _++[SObj.list []]).set st.length (.node (Vl (.loc (((st++[SObj.node Vm Vm Vm]).set st.length _).set st.length _).length)) _ _))=_;rw[gj rfl,gj rfl,KT,Kj];exact gj rfl
 have e:(mk (k+10)).call 40 [.d (.int i)] st=jV ((mk (k+9)).call 36 [.loc st.length,.d (.int i)] (st++[.node Vm Vm Vm])) st.length:=rfl;rw[e,a];rfl
theorem fw:∀(l:List Nat),(l.map λ_=>1).sum=l.length
 | []=>rfl
 | a::l=>by rw[KB,L4,fw,Ls];lia
theorem uX {n:Nat}{kvs:List (Int×Nat)}(h:∀p∈kvs,0<=p.1/\p.1<(n:Int)) (c:(kvs.map (·.1)).Nodup):kvs.length<=n:=by
 have:=oZ (f:=λ_=>1) (n:=n) (l:=kvs.map λp=>p.1.toNat) ?_ λx k=>?_
 ·rw[fw,fw,Ka,KD] at this;exact this
 ·refine NJ.mpr ((NJ.mp c).imp_of_mem λ{a b} g j i e=>i ?_);have:=h a g;have:=h b j;lia
 ·obtain ⟨p,d,rfl⟩:=Kr.mp k;have:=h p d;lia
theorem lY {α:Type}{k:Int}{d:α}{l:List (Int×α)}(h:aF k l=Vm):lZ k d l=l++[(k,d)]:=(yG (fC.mp h)).1
theorem wZ {kvs:List (Int×Nat)}{p:Int×Nat}:eV (kvs++[p])=.objs (kvs++[p]):=by cases kvs<;>rfl
section
variable {k B n l:Nat}{st:List SObj}{kvs:List (Int×Nat)}{np:Int->Nat}{su:Int->List Int}{i:Int}
theorem Sa.frzN (S:Sa st B n kvs np su) (h:aF i kvs=Vl l):dQ st l=none:=by
 unfold dQ;rw[(S.node i l h).1];rfl
theorem Sa.more (S:Sa st B n kvs np su) (A:0<=i/\i<(n:Int)) (h:aF i kvs=Vm):Sa ((st++[uQ st.length 0 i,.list []]).set (B+1) (.objs (kvs++[(i,st.length)]))) B n (kvs++[(i,st.length)]) np su:=by
 obtain ⟨r,v⟩:=S.hd;have f:=aE (r:=[uQ st.length 0 i,.list []]) S.dict;have C:∀(p:Int×Nat),eV kvs≠.node Vm Vm none:=λ_=>by cases kvs<;>exact nofun
 have t:∀{a b c},SObj.node a b c≠eV kvs:=by cases kvs<;>exact nofun
 have s:∀{z},SObj.list z≠eV kvs:=by cases kvs<;>exact nofun
 have w:∀{a},SObj.inst a≠eV kvs:=by cases kvs<;>exact nofun
 refine ⟨⟨(r++[uQ st.length 0 i,.list []]).set B (.objs (kvs++[(i,st.length)])),by rw[v];rfl⟩,aP (aE S.inst) f w,by rw[wZ];exact bA f,λx m d=>?_,λx o=>?_,λp g=>?_,?_⟩
 ·rw[dD] at d;cases q:aF x kvs with
  | some k=>
   rw[q] at d;obtain rfl:k=m:=J9 d;obtain ⟨l,j⟩:=S.node x k q;exact ⟨aP (aE l) f t,aP (aE j) f s⟩
  | none=>
   rw[q] at d;change (if i=x then Vl st.length else Vm)=Vl m at d;by_cases e:i=x
   ·rw[if_pos e] at d;obtain rfl:st.length=m:=J9 d;refine rq e ?_;obtain ⟨l,j⟩:=S.new i h;rw[l,j];refine ⟨aP (bH rfl) f t,aP ?_ f s⟩;rw[Qa];exact bH (by rw[Kj];rfl)
   ·rw[if_neg e] at d;exact nomatch d
 ·rw[dD] at o;cases q:aF x kvs with
  | some k=>rw[q] at o;exact nomatch o
  | none=>exact S.new x q
 ·rcases Ku.mp g with g | g
  ·exact S.keys p g
  ·rw[Kg.mp g];exact A
 ·rw[Kz];refine Lu.mpr (w3 S.once (Ma _ _) (λa u b y e=>?_));rw[Kg.mp y] at e;exact fC.mp h ((show a=i from e)▸u)
theorem n0 (hn:n<=1000) (S:Sa st B n kvs np su) (p:0<=i/\i<(n:Int)):W ((mk (k+20)).call 80 [.loc B,.d (.int i)] st) (λv s=>∃l a,v=.loc l/\s.fr=[]/\Sa s.st B n a np su/\aF i a=Vl l/\∀x,(aF x a).isSome=Vn<->(aF x kvs).isSome=Vn\/x=i) noE:=by
 refine bX (fd:=aW 80) (us:=[.loc B,.d (.int i)]) (fr:=aY (sn "node") (.d (.int i)) (aY (sn "self") (.loc B) [])) rfl rfl rfl rfl rfl ?_;have t:=S.info;have b:iW st .get (.loc (B+1)) [.d (.int i)]=_:=GV S.dict;have g:cZ st (.loc (B+1)) (sn "get")=none:=by
  show (st[B+1]?).bind _=_;rw[S.dict];cases kvs<;>rfl
 have c:hS st (.loc (B+1)) (sn "get")=Vl .get:=by
  show Kf Vm ((st[B+1]?).bind _)=_;rw[S.dict];cases kvs<;>kernel_rfl
 cases q:aF i kvs with
 | some l=>
  rw[q] at b;refine' dN (cU rfl rfl (mL ?a1 (aT (w3 rfl rfl rfl) ?a2 ?a3 (aS (bm:=.get) ?a4 ?a5 rfl (aI rfl ?a6 aL) ?a7))) eI ?a8) (aG (cg ?a9 ?ac))
  case a1=>exact ⟨rfl,rfl⟩
  case a2=>decide
  case a3=>walk_at "e"
  case a4=>exact g
  case a5=>exact c
  case a6=>walk_at "e"
  case a7=>exact b
  case a8=>rfl
  case a9=>exact ka rfl aU (S.frzN q)
  case ac=>exact y2 l kvs (w5 rfl rfl S q (λx=>⟨.inl,λh=>h.elim id λe=>by rw[e,q];rfl⟩))
 | none=>
  rw[q] at b;have M:=S.more p q;have f:aF i (kvs++[(i,st.length)])=Vl st.length:=by
   rw[dD,q];exact if_pos rfl
  have r:cG (st++[uQ st.length 0 i,.list []]) (.loc B) (sn "_node2info")=Vl (.loc (B+1)):=fS (aE S.inst) rfl rfl;have j:eD (st++[uQ st.length 0 i,.list []]) (.loc (B+1)) i (.loc st.length)=Vl ((st++[uQ st.length 0 i,.list []]).set (B+1) (.objs (kvs++[(i,st.length)]))):=by
   rw[<- lY q];exact vY (aE S.dict) (Lo (uX S.keys S.once) hn)
  have o:=yQ (k:=k+6) (i:=i) (st:=st) rfl;refine' lJ (cU rfl rfl (mL ?a1 (aT (w3 rfl rfl rfl) ?a2 ?a3 (aS (bm:=.get) ?a4 ?a5 rfl (aI rfl ?a6 aL) ?a7))) eI ?a8) (Il ?b1 (fX 40 ?b2 ?b3 ?b4 ?b5 ?b6 ?b7 ?b8 ?b9) ?ab ?aa ?ae (aG (cg ?a9 ?ac)))
  case a1=>exact ⟨rfl,rfl⟩
  case a2=>decide
  case a3=>walk_at "e"
  case a4=>exact g
  case a5=>exact c
  case a6=>walk_at "e"
  case a7=>exact b
  case a8=>rfl
  case b1=>kernel_rfl
  case b2=>rfl
  case b3=>rfl
  case b4=>kernel_rfl
  case b5=>exact ⟨rfl,rfl⟩
  case b6=>rfl
  case b7=>walk_at "e"
  case b8=>kernel_rfl
  case b9=>exact o
  case ab=>walk_at "e"
  case aa=>walk_at "e"
  case ae=>exact j
  case a9=>exact ka rfl aU (M.frzN f)
  case ac=>
   refine y2 st.length _ (w5 rfl rfl M f (λx=>?_));rw[dD];cases h:aF x kvs with
   | some m=>exact ⟨λ_=>.inl rfl,λ_=>rfl⟩
   | none=>
    show (if i=x then Vl st.length else Vm).isSome=Vn<->_;by_cases e:i=x
    ·rw[if_pos e];exact ⟨λ_=>.inr e.symm,λ_=>rfl⟩
    ·rw[if_neg e];exact ⟨λh=>absurd h nofun,λh=>h.elim id λh=>absurd h.symm e⟩
end
end
section
set_option linter.all false
theorem cB {st:List SObj}{B:Nat}{A:List (Str×V)}{m:Str}(h:st[B]?=Vl (.inst A)) (g:get m A=Vm):cZ st (.loc B) m=bY m methods:=by
 show (st[B]?).bind _=_;rw[h];exact if_pos g
theorem jz {st:List SObj}{l:List D}:cS st (.d (.tup l))=Vl (l.map .d,st):=rfl
noncomputable def xP {α:Type}(f:Int->α) (i:Int) (a:α) (x:Int):α:=if x=i then a else f x
noncomputable def xx (su:Int->List Int) (i:Int) (ps:List Int) (x:Int):List Int:=su x++(ps.filter (·==x)).map λ_=>i
section
variable {k B n l:Nat}{st:List SObj}{kvs:List (Int×Nat)}{np:Int->Nat}{su:Int->List Int}{i p:Int}{ps:List Int}
theorem Sa.frzI (S:Sa st B n kvs np su):dQ st B=none:=by
 unfold dQ;rw[S.inst];rfl
theorem Sa.inj (S:Sa st B n kvs np su){x:Int}{m:Nat}(h:aF i kvs=Vl l) (h':aF x kvs=Vl m) (b:x≠i):m≠l:=λe=>by
 have a:=(S.node i l h).1;rw[<- e,(S.node x m h').1] at a;injection a with a
 injection a with _ _ a
 injection a with a
 injection a with a
 injection a with a
 exact b a
theorem bG {st:List SObj}{p q:Nat}{so x:SObj}(b:p≠q) (a:st[p]?=Vl x):(st.set q so)[p]?=Vl x:=(LG (LQ b)).trans a
theorem Sa.setN (S:Sa st B n kvs np su) (h:aF i kvs=Vl l) (m:Nat):Sa (st.set l (uQ l m i)) B n kvs (xP np i m) su:=by
 obtain ⟨a,j⟩:=S.node i l h;obtain ⟨r,d⟩:=S.hd;have f:eV kvs≠uQ l (np i) i:=by cases kvs<;>exact nofun
 refine ⟨?_,aP S.inst a nofun,aP S.dict a f,λx y b=>?_,λx b=>?_,S.keys,S.once⟩
 ·cases l with
  | zero=>rw[d] at a;exact nomatch a
  | succ l=>exact ⟨r.set l (uQ (l+1) m i),by rw[d];rfl⟩
 ·obtain ⟨g,c⟩:=S.node x y b;unfold xP;by_cases e:x=i
  ·subst e;obtain rfl:l=y:=J9 (h.symm.trans b);rw[if_pos rfl];exact ⟨bA a,aP c a nofun⟩
  ·rw[if_neg e];exact ⟨bG (S.inj h b e) g,aP c a nofun⟩
 ·have:x≠i:=λe=>by rw[e,h] at b;exact nomatch b
  unfold xP;rw[if_neg this];exact S.new x b
theorem Sa.setS (S:Sa st B n kvs np su) (h:aF i kvs=Vl l) (ds:List Int):Sa (st.set (l+1) (.list (ds.map .int))) B n kvs np (xP su i ds):=by
 obtain ⟨k,b⟩:=S.node i l h;obtain ⟨r,g⟩:=S.hd;have d:eV kvs≠.list ((su i).map .int):=by cases kvs<;>exact nofun
 refine ⟨⟨r.set l (.list (ds.map .int)),by rw[g];rfl⟩,aP S.inst b nofun,aP S.dict b d,λx y a=>?_,λx a=>?_,S.keys,S.once⟩
 ·obtain ⟨c,f⟩:=S.node x y a;unfold xP;by_cases e:x=i
  ·subst e;obtain rfl:l=y:=J9 (h.symm.trans a);rw[if_pos rfl];exact ⟨aP c b nofun,bA b⟩
  ·rw[if_neg e];exact ⟨aP c b nofun,bG (λj=>S.inj h a e (Ng j)) f⟩
 ·have:x≠i:=λe=>by rw[e,h] at a;exact nomatch a
  unfold xP;rw[if_neg this];exact S.new x a
theorem ya {j:Nat}(h:ps[j]?=Vl p):xP (xx su i (ps.take j)) p (xx su i (ps.take j) p++[i])=xx su i (ps.take (j+1)):=by
 funext x;unfold xP xx;rw[La,h,List.filter_append,Kz];show _=su x++(_++((Qn (·==x) [p]).map λ_=>i));rw[Mp];by_cases e:x=p
 ·refine rq e ?_;rw[if_pos rfl,if_pos (beq_self_eq_true _),KT];rfl
 ·rw[if_neg e,if_neg (by rw[beq_iff_eq];exact λq=>e q.symm)];exact congrArg _ (LC _).symm
theorem ux {x:Int}{C:Nat}(h:(su x).length<=C):(xx su i ps x).length<=C+ps.length:=by
 unfold xx;rw[Kj,Ka];exact TC h (List.length_filter_le ..)
theorem oy {ps:List Int}:ej (ps.map λx=>.d (.int x))=Vl (ps.map .int):=by
 induction ps with
 | nil=>rfl
 | cons a l b=>
  show (ej (l.map λx=>.d (.int x))).map _=_;rw[b];rfl
theorem A3 (hz:ps.length<=1000):iY 87 (aW 87) (.loc B::.d (.int i)::ps.map λx=>.d (.int x))=Vl [.loc B,.d (.int i),.d (.tup (ps.map .int))]:=by
 have e:∀(a b:V) (c:List V),iY 87 (aW 87) (a::b::c)=(ej c).bind λf=>if f.length<=1000 then Vl [a,b,.d (.tup f)] else none:=λa b c=>rfl
 rw[e,oy];exact if_pos (by rw[Ka];exact hz)
theorem Bm (hn:n<=1000) (S:Sa st B n kvs np su) (T:0<=i/\i<(n:Int)) (N:∀x∈ps,0<=x/\x<(n:Int)) (hz:ps.length<=100){C:Nat}(hC:C<=800) (hs:∀x,(su x).length<=C):W ((mk (k+30)).call 87 (.loc B::.d (.int i)::ps.map λx=>.d (.int x)) st) (λv s=>v=.d .non/\s.fr=[]/\∃e,Sa s.st B n e (xP np i (np i+ps.length)) (xx su i ps)/\∀x,(aF x e).isSome=Vn<->(aF x kvs).isSome=Vn\/x=i\/x∈ps) noE:=by
 have I:iY 87 (aW 87) (.loc B::.d (.int i)::ps.map λx=>.d (.int x))=Vl [.loc B,.d (.int i),.d (.tup (ps.map .int))]:=A3 (by walk_at "n");refine W.abs λQ J=>?_;refine bX (fd:=aW 87) (us:=[.loc B,.d (.int i),.d (.tup (ps.map .int))]) (fr:=aY (sn "predecessors") (.d (.tup (ps.map .int))) (aY (sn "node") (.d (.int i)) (aY (sn "self") (.loc B) []))) rfl rfl I rfl rfl ?_;have f1:cG st (.loc B) (sn "_ready_nodes")=Vl (.d .non):=fS S.inst rfl rfl;have U:cZ st (.loc B) (sn "_get_nodeinfo")=Vl 80:=(cB S.inst rfl).trans rfl;have f3:bV st .IsNot (.d .non) (.d .non)=Vl false:=rfl;refine aC λz b=>?_;obtain ⟨v,⟨_,o⟩,Y,l,c,rfl,hf,u,lk1,K1⟩:=(n0 (k:=k+6) hn S T).get;refine b ?_;obtain rfl:=show _=[] from hf
 have u:Sa o B n c np su:=u;refine' dN ?a1 (aG (bT ?a2 ?a3 (aT (w3 rfl rfl rfl) ?a4 ?a5 (cF ?a6 ?a7 (aI rfl ?a8 aL) (fA ?a9 ?ae))) ?ag))
 case a1=>walk_at "t"
 case a2=>kernel_rfl
 case a3=>exact ⟨rfl,rfl⟩
 case a4=>decide
 case a5=>walk_at "e"
 case a6=>exact U
 case a7=>rfl
 case a8=>walk_at "e"
 case a9=>kernel_rfl
 case ae=>exact Y
 have H:=(u.node i l lk1).1;have f4:cG o (.loc l) (sn "npredecessors")=Vl (.d (.int (np i:Int))):=gE H rfl;have f5:bI o .len [.d (.tup (ps.map .int))]=Vl (.int (ps.length:Int)):=by rw[<- Ka (f:=D.int)];exact vC
 have M:=u.setN lk1 (np i+ps.length);have K:=u.frzN lk1;refine' un ?b1 ?b2 ?b3 ?b4 ?b5 ?b6
 case b1=>walk_at "e"
 case b2=>exact f4
 case b3=>walk_at "e"
 case b4=>rfl
 case b5=>exact jf H rfl jJ
 refine' ed rfl (w3 rfl rfl rfl) ?c1 ?c2
 case c1=>walk_at "e"
 refine iq jz (λj fr st=>get (sn "self") fr=Vl (.loc B)/\get (sn "node") fr=Vl (.d (.int i))/\∃a,Sa st B n a (xP np i (np i+ps.length)) (xx su i (ps.take j))/\∀x,(aF x a).isSome=Vn<->(aF x kvs).isSome=Vn\/x=i\/x∈ps.take j) (w3 (by walk_at "g") (by walk_at "g") ⟨c,?_,λx=>?_⟩) (λj d fr st F A=>?_) λfr st A=>?_
 ·rw[show xx su i (ps.take 0)=su from funext λx=>LC _];exact M
 ·rw[K1];exact ⟨λh=>h.imp id .inl,λh=>h.imp id λh=>h.elim id λh=>nomatch h⟩
 ·refine aC λz b=>?_;obtain ⟨O,L,a,q,w⟩:=A;rw[Ks] at F;obtain ⟨p,E,rfl⟩:=KV.mp F;refine b ?_;refine y2 _ (aY (sn "pred") (.d (.int p)) fr) (w3 (eK rfl) rfl ?_);refine W.abs λR hR=>?_;refine aC λz b=>?_;obtain ⟨v,⟨_,r⟩,e3,m,g,rfl,hf,t,lk4,K4⟩:=(n0 (k:=k+3) hn q (N p (Kl E))).get;refine b ?_;obtain rfl:=show _=[] from hf
  have t:Sa r B n g _ _:=t;have P:cZ st (.loc B) (sn "_get_nodeinfo")=Vl 80:=(cB q.inst rfl).trans rfl;have f7:cG r (.loc m) (sn "successors")=Vl (.loc (m+1)):=gE (t.node p m lk4).1 rfl;have y:=(t.node p m lk4).2;have K:=q.frzI;refine' bT ?d1 ?d2 (aT (w3 rfl rfl rfl) ?d3 ?d4 (cF ?d5 ?d6 (aI rfl ?d7 aL) (fA ?d8 ?d9))) (cb rfl (aT (w3 rfl rfl rfl) ?ai ?af (aS (bm:=.append) ?ac ?ab rfl (aI rfl ?aa aL) ?aj)) (aG ?ah))
  case d1=>kernel_rfl
  case d2=>exact ⟨rfl,rfl⟩
  case d3=>decide
  case d4=>walk_at "e"
  case d5=>exact P
  case d6=>rfl
  case d7=>walk_at "e"
  case d8=>kernel_rfl
  case d9=>exact e3
  case ai=>decide
  case af=>walk_at "e"
  case ac=>exact cY y
  case ab=>exact db y rfl
  case aa=>walk_at "e"
  case aj=>exact cv y (by rw[Ka];have:=ux (i:=i) (ps:=ps.take j) (hs p);have:=(PV j ps).length_le;walk_at "n")
  case ah=>
   refine hR _ _ (w3 (by walk_at "g") (by walk_at "g") ⟨g,?_,λx=>?_⟩)
   ·have G:=t.setS lk4 (xx su i (ps.take j) p++[i]);rw[ya E,Kz] at G;exact G
   ·rw[K4,w,La,E,Ku];show _<->_\/_\/_\/x∈[p];rw[Kg];exact ⟨λh=>h.elim (λh=>h.imp id λh=>h.imp id .inl) λh=>.inr (.inr (.inr h)),λh=>h.elim (λh=>.inl (.inl h)) λh=>h.elim (λh=>.inl (.inr (.inl h))) λh=>h.elim (λh=>.inl (.inr (.inr h))) .inr⟩
 ·refine aC λz b=>?_;obtain ⟨O,L,a,q,w⟩:=A;refine b ?_;rw[Ka,Mn] at q w;exact aG (aG (J _ _ (w3 rfl rfl ⟨a,q,w⟩)))
end
end
section
set_option linter.all false
theorem mU {b:List (Str×V)}{a:List SObj}{k:Nat}{cx:Cx}{p:Pos}:(wO (mk k) cx (.Dict [] [] p)).f ⟨b,a⟩=.ok (.loc a.length) ⟨b,a++[.dict []]⟩:=rfl
section
variable {k:Nat}{cx:Cx}{s s1 s2 s3:St}{Q:Fl->St->Prop}{E:D->List D->St->Prop}{e o:Kb}{p ap:Pos}{ss:List Stmt}{m:Str}{c:D}{as:List D}{v:V}{args:List Kb}{vs:List V}{a:Addr}{st:List SObj}
theorem xG (a:hX e=Vo) (h:((mk k).ev cx e).f s=.exn c as s1) (q:E c as s1):W (((mk (k+1)).xs cx (.Expr e p::ss)).f s) Q E:=W.bind (W.ofx ((if_pos a).trans (nq h)) q)
theorem BH (h:((mk k).ev cx e).f s=.exn c as s1) (q:E c as s1):W (((mk (k+1)).xs cx (.Return (Vl e) p::ss)).f s) Q E:=W.bind (W.ofx (nq h) q)
theorem rB {F1:List (Str×V)}{T1:List SObj}(h0:hF o=Vn/\aO args=Vn/\(ap.endLine==p.line)=Vn) (b:args.length<29) (g:(ek (mk k) cx o).f s=.ok v ⟨F1,T1⟩) (d:cZ T1 v m=Vl a) (hh:cx.inH=Vo) (h:bM ((mk k).ev cx) args ⟨F1,T1⟩=.ok vs s2) (e:eW (mk k) a (v::vs) s2=.exn c as s3):((mk (k+1)).ev cx (.Call (.Attribute o m ap) args [] p)).f s=.exn c as s3:=by
 refine (if_pos (w4 h0.1 h0.2.1 h0.2.2 b)).trans (aK g ?_);unfold gI;rw[d];exact (if_pos hh).trans (aK h e)
theorem uJ {d:List (Str×V)}{b:List SObj}(e:ie.contains a=Vo) (h:(mk k).call a vs b=.exn c as ⟨[],st⟩):eW (mk k) a vs ⟨d,b⟩=.exn c as ⟨d,st⟩:=by
 unfold eW;rw[e];show uc d ((mk k).call a vs b)=_;rw[h];rfl
end
noncomputable abbrev Jm (B:Nat):List (Str×V):=[(sn "self",.loc B)]
theorem CN {k B:Nat}{st:List SObj}(b:B=st.length):(mk (k+12)).call 137 [] st=.ok (.loc B) ⟨[],st++[.inst (gO B (.d .non) 0 0),.dict []]⟩:=by
 refine rp b ?_;have a:(mk (k+11)).call 73 [.loc st.length] (st++[.inst []])=.ok (.d .non) ⟨[],st++[.inst (gO st.length (.d .non) 0 0),.dict []]⟩:=by
  refine W.eq (bX (fd:=aW 73) (us:=[.loc st.length,.d .non]) (fr:=aY (sn "graph") (.d .non) (aY (sn "self") (.loc st.length) [])) rfl rfl rfl rfl rfl ?_);refine' fM ?a0 ?a1 ?a2 (fM (ig ?b0 eI) ?b1 ?b2 (fM (ig ?c0 dY) ?c1 ?c2 (fM (ig ?d0 dY) ?d1 ?d2 (dN (cU ?e1 ?e2 ?e3 eI vb) (aG (aG ?e4))))))
  case a0=>exact mU
  case a1=>walk_at "e"
  case a2=>exact jg (aE (bH rfl)) ⟨rfl,Kv rfl⟩ rfl
  case b0=>rfl
  case b1=>walk_at "e"
  case b2=>exact jg (bA (aE (bH rfl))) ⟨rfl,Kv rfl⟩ rfl
  case c0=>rfl
  case c1=>walk_at "e"
  case c2=>exact jg (bA (bA (aE (bH rfl)))) ⟨rfl,Kv rfl⟩ rfl
  case d0=>rfl
  case d1=>walk_at "e"
  case d2=>exact jg (bA (bA (bA (aE (bH rfl))))) ⟨rfl,Kv rfl⟩ rfl
  case e1=>rfl
  case e2=>rfl
  case e3=>walk_at "e"
  case e4=>
   refine ⟨rfl,congrArg (St.mk []) ?_⟩;show ((((st++[SObj.inst []]++[SObj.dict []]).set st.length _).set st.length _).set st.length _).set st.length (.inst (aY (sn "_nfinished") (.d (.int 0)) (aY (sn "_npassedout") (.d (.int 0)) (aY (sn "_ready_nodes") (.d .non) (aY (sn "_node2info") (.loc (st++[SObj.inst []]).length) [])))))=_;rw[<- Qa,gj rfl,gj rfl,gj rfl,Kj];exact (gj rfl).trans rfl
 have e:(mk (k+12)).call 137 [] st=jV ((mk (k+11)).call 73 [.loc st.length] (st++[.inst []])) st.length:=rfl;rw[e,a];rfl
noncomputable abbrev gx:Str:=sn "prepare() must be called first"
theorem qw {k B:Nat}{st:List SObj}(h:st[B]?=Vl (.inst (gO B (.d .non) 0 0))):(mk (k+12)).call 99 [.loc B] st=.exn (.bi .valueError) [.str gx] ⟨[],st⟩:=by
 have a:W ((mk (k+12)).call 99 [.loc B] st) (λ_ _=>False) (λc f s=>c=.bi .valueError/\f=[.str gx]/\s=⟨[],st⟩):=by
  refine bX (fd:=aW 99) (us:=[.loc B]) (fr:=aY (sn "self") (.loc B) []) rfl rfl rfl rfl rfl ?_;have g:cG st (.loc B) (sn "_ready_nodes")=Vl (.d .non):=fS h rfl rfl;refine' lJ (cU ?a1 ?a2 ?a3 eI Fs) (oD ?b2 ?b3 ?b4 ?b5 ?b6 ?b7)
  case a1=>rfl
  case a2=>rfl
  case a3=>walk_at "e"
  case b2=>exact w3 rfl rfl nofun
  case b3=>kernel_rfl
  case b4=>walk_at "e"
  case b5=>walk_at "d"
  case b6=>decide
  case b7=>exact w3 rfl rfl rfl
 refine aC λi b=>?_;obtain ⟨c,f,s,e,rfl,rfl,rfl⟩:=a.exn;refine b ?_;exact e
theorem Ar {k B:Nat}{st:List SObj}(h:st[B]?=Vl (.inst (gO B (.d .non) 0 0))):(mk (k+22)).call 299 [.loc B] st=.ok (.d (.bool Vn)) ⟨[],st++[.exc (.bi .valueError) [.str gx]]⟩:=by
 refine W.eq (bX (fd:=aW 299) (us:=[.loc B]) (fr:=aY (sn "sorter") (.loc B) []) rfl rfl rfl rfl rfl ?_);have r:=qw (k:=k+6) h;have a:cZ st (.loc B) (sn "get_ready")=Vl 99:=(cB h rfl).trans rfl;refine' qc ⟨rfl,rfl⟩ (xG rfl (rB (w3 rfl rfl rfl) ?a1 ?a2 ?a3 rfl aL (uJ ?a4 ?a5)) ?a6)
 case a1=>decide
 case a2=>walk_at "e"
 case a3=>exact a
 case a4=>kernel_rfl
 case a5=>exact r
 have e:pD (st++[.exc (.bi .valueError) [.str gx]]) (.loc st.length) (.gbl 55)=Vl false:=by
  show Kf Vm (Lj (Lj ((st++[SObj.exc _ _])[st.length]?) SObj.exc?) _)=_;rw[bH rfl];rfl
 have b:cG (st++[.exc (.bi .valueError) [.str gx]]) (.loc st.length) (sn "args")=Vl (.d (.tup [.str gx])):=by
  show ((st++[SObj.exc _ _])[st.length]?).bind _=_;rw[bH rfl];rfl
 refine' oH (fQ (d:=.bi .valueError) ?m1) ?m2 ?m3 (cg (mY (AZ (c:=Vn) (Ea (c:=Vo) (dH (d:=.bi .isinstance) ?b1 ?b2 ?b3 (rC ?b4 ?b5 ?b6 ?b7)) ?b8) ?b9 ?c1 (tX (mX ?c2 ?c3 (eJ ?c4 (gy ?c5 ?c6) ?c7) (oo ?c8 ?c9 ?ab) ?aa)))) ?d1)
 case m1=>kernel_rfl
 case m2=>kernel_rfl
 case m3=>kernel_rfl
 case b1=>rfl
 case b2=>rfl
 case b3=>kernel_rfl
 case b4=>kernel_rfl
 case b5=>kernel_rfl
 case b6=>walk_at "e"
 case b7=>
  show ((pD _ _ _).map D.bool)=_;exact congrArg (KG D.bool) e
 case b8=>rfl
 case b9=>rfl
 case c1=>rfl
 case c2=>rfl
 case c3=>rfl
 case c4=>rfl
 case c5=>kernel_rfl
 case c6=>walk_at "g"
 case c7=>exact b
 case c8=>rfl
 case c9=>walk_at "e"
 case ab=>walk_at "p"
 case aa=>kernel_rfl
 case d1=>exact ⟨rfl,rfl⟩
end
section
set_option linter.all false
structure Dfs (n:Nat) (su:Nat->List Nat) (S:List (Nat×Nat)) (fin:List Nat) (o:Option Nat):Prop where
 nod:(S.map (·.1)++fin).Nodup
 lt:∀x∈S.map (·.1)++fin,x<n
 topo:Bp su fin
 ch:Ch su fin o S
noncomputable def val (su:Nat->List Nat) (S:List (Nat×Nat)) (a:List Nat):Nat:=(S.map λt=>t.2+1).sum+(a.map λx=>(su x).length+2).sum
noncomputable def top (n:Nat) (su:Nat->List Nat):Nat:=((Ky n).map λx=>(su x).length+2).sum
section
variable {n v q x:Nat}{su:Nat->List Nat}{S:List (Nat×Nat)}{fin:List Nat}{o:Option Nat}
theorem Ch.sum:∀{S:List (Nat×Nat)} {o},Ch su fin o S->(S.map λt=>t.2+1).sum<=((S.map (·.1)).map λx=>(su x).length+2).sum
 | [],_,_=>KH _
 | p::r,_,⟨⟨h,_⟩,a⟩=>by
  have:=a.sum;rw[KB,L4,KB,KB,L4];exact TC (P6 (Nq h)) this
theorem Dfs.le (D:Dfs n su S fin o):val su S fin<=top n su:=by
 refine Lo (RY D.ch.sum _) ?_;rw[<- S7,<- Kz];exact oZ D.nod D.lt
theorem Dfs.push (D:Dfs n su S fin (Vl v)) (a:v<n) (hn:v∉S.map (·.1)++fin):Dfs n su ((v,0)::S) fin Vm/\val su ((v,0)::S) fin=val su S fin+1:=by
 refine ⟨⟨LM.mpr ⟨hn,D.nod⟩,λx b=>(Kt.mp b).elim (λe=>e▸a) (D.lt x),D.topo,D.ch.push⟩,?_⟩;unfold val;rw[KB,L4];lia
theorem Dfs.old (D:Dfs n su S fin (Vl v)) (a:v∈fin):Dfs n su S fin none:=⟨D.nod,D.lt,D.topo,D.ch.old a⟩
theorem Dfs.next (D:Dfs n su ((v,q)::S) fin Vm) (e:(su v)[q]?=Vl x):Dfs n su ((v,q+1)::S) fin (Vl x)/\val su ((v,q+1)::S) fin=val su ((v,q)::S) fin+1:=by
 refine ⟨⟨D.nod,D.lt,D.topo,D.ch.next e⟩,?_⟩;unfold val;rw[KB,L4,KB,L4];lia
theorem Dfs.pop (D:Dfs n su ((v,q)::S) fin Vm) (e:(su v)[q]?=Vm):Dfs n su S (v::fin) Vm/\val su S (v::fin)=val su ((v,q)::S) fin+1:=by
 obtain ⟨b,a⟩:=D.ch.pop e;have p:(S.map (·.1)++v::fin).Perm ((((v,q)::S).map (·.1))++fin):=SM;refine ⟨⟨p.nodup_iff.mpr D.nod,λx d=>D.lt x (p.mem_iff.mp d),⟨b,D.topo⟩,a⟩,?_⟩;have f:(su v).length<=q:=KY.mp e;have c:q<=(su v).length:=D.ch.1.1;unfold val;rw[KB,L4,KB,L4];lia
end
end
section
set_option linter.all false
section
variable {k:Nat}{cx:Cx}{s s1 s2 s3:St}{Q:Fl->St->Prop}{E:D->List D->St->Prop}{e o i:Kb}{p p2 pos:Pos}{ss:List Stmt}{n f:Str}{v ov:V}{j:Int}{st st':List SObj}{l m q:Nat}{ls:List Nat}{ds:List D}{xs:List Int}{d:D}{kvs:List (Int×D)}{ks:List (Int×Nat)}
theorem Gp {a:List (Str×V)}{b:List SObj}(c:(ek (mk k) cx o).f s=.ok ov s2) (g:((mk k).ev cx i).f s2=.ok (.d (.int j)) ⟨a,b⟩) (e:kI b ov j=Vl st') (q:W (((mk k).xs cx ss).f ⟨a,st'⟩) Q E):W (((mk (k+1)).xs cx (.Delete [.Subscript o i p] pos::ss)).f s) Q E:=ko (aK c (aK g (aK (ir e) rfl))) q
theorem FO {b:List (Str×V)}{a:List SObj}(hs:gL (mk k) cx f p [] pos=kg (mk k) f p [] pos) (c:ia cx f=Vl (.bi .set)):((mk (k+1)).ev cx (.Call (.Name f p) [] [] pos)).f ⟨b,a⟩=.ok (.loc a.length) ⟨b,a++[.set []]⟩:=dH hs rfl c rfl
theorem FQ {F1:List (Str×V)}{T1:List SObj}(hs:gL (mk k) cx f p [e] pos=kg (mk k) f p [e] pos) (c:ia cx f=Vl (.bi .iter)) (b:bb e=Vm) (h:(ek (mk k) cx e).f s=.ok (.loc l) ⟨F1,T1⟩) (a:T1[l]?=Vl (.list ds)):((mk (k+1)).ev cx (.Call (.Name f p) [e] [] pos)).f s=.ok (.loc T1.length) ⟨F1,T1++[.iter l 0]⟩:=by
 refine dH hs rfl c (aK (aI b h aL) ?_);show optE (Lj (T1[l]?) λo=>o.list?.map λ_=>l) _ _=_;rw[a];rfl
theorem ml (h:st[l]?=Vl (.nexts (ls++[m]))):qE st (.loc l) (.d (.int (-1)))=Vl m:=by
 show (st[l]?).bind _=_;rw[h];show (ki (ls++[m]).length (-1)).bind _=_;rw[Bc (by rw[Kj];exact Nat.succ_pos _),Kj];exact Lp
theorem Av {b:List (Str×V)}{a:List SObj}{r:Res V}(j:cx.inH=Vo) (g:(ek (mk k) cx e).f s=.ok v s1) (c:((mk k).ev cx i).f s1=.ok ov ⟨b,a⟩) (h:qE a v ov=Vl m) (d:kU m ⟨b,a⟩=r):((mk (k+1)).ev cx (.Call (.Subscript e i p) [] [] pos)).f s=r:=(if_pos j).trans (aK g (aK c (by rw[h];exact d)))
theorem CK (h:st[m]?=Vl (.iter l q)) (a:st[l]?=Vl (.list ds)) (b:ds[q]?=Vl d){fr:List (Str×V)}:kU m ⟨fr,st⟩=.ok (.d d) ⟨fr,st.set m (.iter l (q+1))⟩:=by
 unfold kU;rw[h];show optE ((st[l]?).bind _) _ _=_;rw[a];show optE (ds[q]?) _ _=_;rw[b];rfl
theorem zt (h:st[m]?=Vl (.iter l q)) (a:st[l]?=Vl (.list ds)) (b:ds[q]?=Vm){fr:List (Str×V)}:kU m ⟨fr,st⟩=.exn (.bi .stopIteration) [] ⟨fr,st.set m .gone⟩:=by
 unfold kU;rw[h];show optE ((st[l]?).bind _) _ _=_;rw[a];show optE (ds[q]?) _ _=_;rw[b];rfl
theorem Fg (h:st[l]?=Vl (.nexts ls)) (hz:ls.length<=1000):iW st .append (.loc l) [.nxt m]=Vl (.d .non,st.set l (.nexts (ls++[m]))):=by
 show KG _ ((st[l]?).bind _)=_;rw[h];show KG _ (Kf Vm (if _ then _ else _))=_;rw[if_pos hz];rfl
theorem Fh (h:st[l]?=Vl (.list [])):iW st .append (.loc l) [.nxt m]=Vl (.d .non,st.set l (.nexts [m])):=by
 show KG _ ((st[l]?).bind _)=_;rw[h];rfl
theorem Fc (h:st[l]?=Vl (.list (ds++[d]))):iW st .pop (.loc l) []=Vl (.d d,st.set l (.list ds)):=by
 show (st[l]?).bind _=_;rw[h];show Kf (((ds++[d]).getLast?).map λe=>(V.d e,st.set l (.list (ds++[d]).dropLast))) Vm=_;rw[RH,MT];rfl
theorem Fb (h:st[l]?=Vl (.nexts (ls++[m]))):iW st .pop (.loc l) []=Vl (.nxt m,st.set l (.nexts ls)):=by
 show (st[l]?).bind _=_;rw[h];show (Kf Vm (((ls++[m]).getLast?).map λd=>(V.nxt d,st.set l (.nexts (ls++[m]).dropLast))))=_;rw[RH,MT];rfl
theorem GX (h:st[l]?=Vl (.set xs)) (hz:xs.length<=1000) (a:xs.contains j=Vo):iW st .add (.loc l) [.d (.int j)]=Vl (.d .non,st.set l (.set (xs++[j]))):=by
 show KG _ ((st[l]?).bind _)=_;rw[h];show KG _ (if _ then _ else _)=_;rw[if_pos hz,a];rfl
theorem uD (h:st[l]?=Vl (.dict kvs)) (hz:kvs.length<=1000):eD st (.loc l) j (.d d)=Vl (st.set l (.dict (lZ j d kvs))):=by
 show (st[l]?).bind _=_;rw[h];show Kf (Kf Vm (if _ then _ else _)) _=_;rw[if_pos hz];rfl
theorem C9 (h:st[l]?=Vl (.dict kvs)) (hz:kvs.length<=1000) (a:(aF j kvs).isSome=Vn):kI st (.loc l) j=Vl (st.set l (.dict (pR j kvs))):=by
 show (st[l]?).bind _=_;rw[h];exact if_pos ⟨a,hz⟩
theorem zG (h:st[l]?=Vl (.set xs)):bV st .In (.d (.int j)) (.loc l)=Vl (xs.contains j):=by
 show Kf (Lj (Kf Vm ((st[l]?).bind _)) _) (Kf (KG _ (Kf Vm ((st[l]?).bind _))) (KG _ ((st[l]?).bind _)))=_;rw[h];rfl
theorem Ft (h:st[l]?=Vl (.dict kvs)):bV st .In (.d (.int j)) (.loc l)=Vl (aF j kvs).isSome:=by
 show Kf (Lj (Kf Vm ((st[l]?).bind _)) _) (Kf (KG _ (Kf Vm ((st[l]?).bind _))) _)=_;rw[h];rfl
theorem Fv (h:st[l]?=Vl (.dict kvs)) (a:aF j kvs=Vl d):bE (.loc l) (.d (.int j)) st=Vl (.d d):=by
 show Kf (KG V.d (Kf (Lj (Kf Vm ((st[l]?).bind _)) _) (Kf (Lj (Kf Vm ((st[l]?).bind _)) _) _))) _=_;rw[h];show Kf (KG V.d (Kf Vm (Kf (aF j kvs) _))) _=_;rw[a];rfl
theorem DU (h:st[l]?=Vl (.fobjs ks)) (a:aF j ks=Vl m):bE (.loc l) (.d (.int j)) st=Vl (.loc m):=by
 show Kf (KG V.d (Kf (Lj (Kf Vm ((st[l]?).bind _)) _) (Kf (Lj (Kf Vm ((st[l]?).bind _)) _) Vm))) (KG V.loc (Lj (Lj (st[l]?) _) _))=_;rw[h];show KG V.loc (aF j ks)=_;rw[a];rfl
theorem EC (h:st[l]?=Vl (.list ds)):cc st (.loc l)=Vl (!ds.isEmpty):=by
 show Kf (KG _ (Kf Vm ((st[l]?).bind _))) _=_;rw[h];rfl
theorem Cz (h:st[l]?=Vl (.list ds)):bI st .len [.loc l]=Vl (.int (ds.length:Int)):=by
 show KG _ (Kf (KG _ (Kf Vm ((st[l]?).bind _))) _)=_;rw[h];rfl
theorem EK (h:st[l]?=Vl (.list ds)) (h0:0<=j):fN st (.loc l) (Vl (.int j)) Vm Vm=Vl (.lst (ds.drop j.toNat)):=by
 show Kf (Lj (Kf Vm ((st[l]?).bind _)) _) _=_;rw[h];show Kf ((if _ then _ else _:Option (List D)).map D.lst) _=_;rw[if_pos h0];rfl
theorem vN (h:st[l]?=Vl (.fobjs ks)):cS st (.loc l)=Vl (ks.map λp=>V.d (.int p.1),st):=by
 show Kf Vm (Kf ((st[l]?).bind _) _)=_;rw[h];rfl
end
end
section
set_option linter.all false
abbrev Fr3:=Nat×Nat×Nat
noncomputable def qR:List Fr3->List (Int×D)
 | []=>[]
 | t::r=>qR r++[((t.1:Int),.int (r.length:Int))]
noncomputable def yV (S:List Fr3):SObj:=.list ((S.map λt=>D.int (t.1:Int)).reverse)
structure Df (st0 st:List SObj) (L:Nat) (lc:Nat->Nat) (S:List Fr3) (xs:List Int):Prop where
 low:∀p,p<L->st[p]?=st0[p]?
 stk:st[L]?=Vl (yV S)
 its:st[L+1]?=Vl (.nexts ((S.map (·.2.2)).reverse))\/S=[]/\st[L+1]?=Vl (.list [])
 see:st[L+2]?=Vl (.set xs)
 n2s:st[L+3]?=Vl (.dict (qR S))
 it:∀t∈S,L<=t.2.2/\st[t.2.2]?=Vl (.iter (lc t.1+1) t.2.1)
 nd:(S.map (·.2.2)).Nodup
section
variable {st0 st:List SObj}{L m v q w:Nat}{lc:Nat->Nat}{S:List Fr3}{xs:List Int}{so:SObj}
theorem jO (h:∀p,p<L->st[p]?=st0[p]?) (b:L<=q):∀p,p<L->(st.set q so)[p]?=st0[p]?:=λp a=>(LG (by lia)).trans (h p a)
theorem uW:∀S:List Fr3,(qR S).length=S.length:=@lr _ _ (rfl) (λt r a=>by
  rw[Kj,a];rfl)
theorem zp:∀S:List Fr3,(qR S).map (·.1)=(S.map λt=>(t.1:Int)).reverse:=@lr _ _ (rfl) (λt r a=>by
  show (qR r++[((t.1:Int),D.int (r.length:Int))]).map (·.1)=_;rw[Kz,a,KB (l:=r) (f:=λt:Fr3=>(t.1:Int)),MD];rfl)
theorem jQ {S:List Fr3}(h:v∉S.map λt:Fr3=>t.1):aF (v:Int) (qR S)=none:=fC.mpr λm=>h (by
 rw[zp] at m;obtain ⟨t,a,e⟩:=Kr.mp (OK.mp m);exact Kr.mpr ⟨t,a,LE e⟩)
theorem mt:∀{S:List Fr3},(S.map λt:Fr3=>t.1).Nodup->(v∈S.map λt:Fr3=>t.1)->∃i:Nat,aF (v:Int) (qR S)=Vl (.int (i:Int))/\((S.map λt:Fr3=>t.1).reverse)[i]?=Vl v
 | t::r,hd,a=>by
  obtain ⟨f,d⟩:=LM.mp hd;rw[dD,KB,MD];rcases Kt.mp a with e | a
  ·refine rp e ?_;rw[jQ f];refine ⟨r.length,if_pos rfl,?_⟩;have:((r.map (·.1)).reverse).length=r.length:=by rw[Nt,Ka]
   rw[<- this];exact Lp
  ·obtain ⟨i,c,b⟩:=mt d a;exact ⟨i,by rw[c];rfl,(Kx (Kd.mp b).1).trans b⟩
theorem Df.len (H:Df st0 st L lc S xs):L+3<st.length:=(Kd.mp H.n2s).1
theorem hit' {X:List SObj}(h:q<X.length):(X.set q so)[q]?=Vl so:=Mf h
theorem off' {X:List SObj}{p:Nat}{r:Option SObj}(a:p≠q) (h:X[p]?=r):(X.set q so)[p]?=r:=(LG a.symm).trans h
theorem uP {p:Nat}{x y:SObj}(h:st[p]?=Vl x) (h':st[q]?=Vl y) (a:x≠y):p≠q:=λe=>a (J9 (h.symm.trans (by rw[e];exact h')))
theorem Df.far (H:Df st0 st L lc S xs){t:Fr3}(a:t∈S):t.2.2≠L/\t.2.2≠L+1/\t.2.2≠L+2/\t.2.2≠L+3:=by
 have h:=(H.it t a).2;refine w4 (uP h H.stk nofun) ?_ (uP h H.see nofun) (uP h H.n2s nofun);rcases H.its with e | ⟨rfl,e⟩
 ·exact uP h e nofun
 ·exact nomatch a
theorem Df.push (H:Df st0 st L lc S xs){st1:List SObj}(e:st1=(((st.set (L+2) (.set (xs++[(v:Int)]))++[SObj.iter (lc v+1) 0]).set (L+1) (.nexts ((S.map (·.2.2)).reverse++[st.length]))).set (L+3) (.dict (qR S++[((v:Int),.int (S.length:Int))]))).set L (.list ((S.map λt=>D.int (t.1:Int)).reverse++[.int (v:Int)]))):Df st0 st1 L lc ((v,0,st.length)::S) (xs++[(v:Int)]):=by
 have q:=H.len;have f:(st.set (L+2) (.set (xs++[(v:Int)]))++[SObj.iter (lc v+1) 0]).length=st.length+1:=by rw[Kj,KW];rfl
 have c:∀p,p<st.length->p≠L+2->(st.set (L+2) (.set (xs++[(v:Int)]))++[SObj.iter (lc v+1) 0])[p]?=st[p]?:=λp d l=>(Kx (by rw[KW];exact d)).trans (off' l rfl);refine rp e ?_;refine ⟨λp d=>?_,?_,.inl ?_,?_,?_,λt b=>?_,?_⟩
 ·exact off' (by walk_at "n") (off' (by walk_at "n") (off' (by walk_at "n") ((c p (by walk_at "n") (by walk_at "n")).trans (H.low p d))))
 ·rw[hit' (by rw[KW,KW,f];walk_at "n")];unfold yV;rw[KB,MD]
 ·rw[KB,MD];exact off' (by walk_at "n") (off' (by walk_at "n") (hit' (by rw[f];walk_at "n")))
 ·exact off' (by walk_at "n") (off' (by walk_at "n") (off' (by walk_at "n") ((Kx (by rw[KW];walk_at "n")).trans (hit' (by walk_at "n")))))
 ·exact off' (by walk_at "n") (hit' (by rw[KW,f];walk_at "n"))
 ·rcases Kt.mp b with rfl | b
  ·exact ⟨by show L<=st.length;walk_at "n",off' (by show st.length≠L;walk_at "n") (off' (by show st.length≠_;walk_at "n") (off' (by show st.length≠_;walk_at "n") (bH (by rw[KW]))))⟩
  ·refine aC λj a=>?_;obtain ⟨n,i,o,k⟩:=H.far b;obtain ⟨h,g⟩:=H.it t b;refine a ?_;exact ⟨h,off' n (off' k (off' i ((c _ (Kd.mp g).1 o).trans g)))⟩
 ·refine LM.mpr ⟨λm=>?_,H.nd⟩;refine aC λj a=>?_;obtain ⟨t,b,e⟩:=Kr.mp m;refine a ?_;have:=(Kd.mp (H.it t b).2).1;have e:t.2.2=st.length:=e;walk_at "n"
theorem Df.next (H:Df st0 st L lc ((v,q,m)::S) xs):Df st0 (st.set m (.iter (lc v+1) (q+1))) L lc ((v,q+1,m)::S) xs:=by
 obtain ⟨j,d,k,h⟩:=H.far (.head _);have g:=H.it _ (.head _);obtain ⟨i,l⟩:=LM.mp H.nd;refine ⟨jO H.low g.1,off' (LQ j) H.stk,H.its.elim (λe=>.inl (off' (LQ d) e)) λe=>(nomatch e.1),off' (LQ k) H.see,off' (LQ h) H.n2s,λt a=>?_,H.nd⟩;rcases Kt.mp a with rfl | a
 ·exact ⟨g.1,hit' (Kd.mp g.2).1⟩
 ·obtain ⟨c,b⟩:=H.it t (.tail _ a);exact ⟨c,off' (λ(e:t.2.2=m)=>i (show m∈_ from e▸KR (f:=λt:Fr3=>t.2.2) a)) b⟩
theorem w0 {α:Type}{k:Int}{d:α}:∀{l:List (Int×α)},aF k l=Vm->pR k (l++[(k,d)])=l:=@lr _ _ (@λ_=>if_pos rfl) (λp l a=>(@λh=>by
  have h:(if p.1=k then Vl p.2 else aF k l)=none:=h;show (if p.1=k then l++[(k,d)] else p::pR k (l++[(k,d)]))=_;by_cases e:p.1=k
  ·rw[if_pos e] at h;exact nomatch h
  ·rw[if_neg e] at h ⊢;rw[a h]))
theorem Df.pop (H:Df st0 st L lc ((v,q,m)::S) xs){st1:List SObj}(e:st1=(((st.set m .gone).set L (.list (S.map λt=>D.int (t.1:Int)).reverse)).set (L+3) (.dict (qR S))).set (L+1) (.nexts ((S.map (·.2.2)).reverse))):Df st0 st1 L lc S xs:=by
 have n:=H.len;obtain ⟨s,o,c,r⟩:=H.far (.head _);have g:=(H.it _ (.head _)).1;obtain ⟨a,l⟩:=LM.mp H.nd;have a:m∉S.map (·.2.2):=a;have c:m≠L+2:=c;have g:L<=m:=g;refine rp e ?_;refine ⟨jO (jO (jO (jO H.low g) (by walk_at "n")) (by walk_at "n")) (by walk_at "n"),?_,.inl ?_,?_,?_,λt b=>?_,l⟩
 ·exact off' (by walk_at "n") (off' (by walk_at "n") (hit' (by rw[KW];walk_at "n")))
 ·exact hit' (by rw[KW,KW,KW];walk_at "n")
 ·exact off' (by walk_at "n") (off' (by walk_at "n") (off' (by walk_at "n") (off' (LQ c) H.see)))
 ·exact off' (by walk_at "n") (hit' (by rw[KW,KW];walk_at "n"))
 ·skip
  obtain ⟨k,d,p,j⟩:=H.far (.tail _ b);obtain ⟨i,h⟩:=H.it t (.tail _ b);exact ⟨i,off' d (off' j (off' k (off' (λ(e:t.2.2=m)=>a (e▸KR (f:=λt:Fr3=>t.2.2) b)) h)))⟩
end
end
section
set_option linter.all false
section
variable {k:Nat}{cx:Cx}{s s1:St}{Q:Fl->St->Prop}{E:D->List D->St->Prop}{t:Kb}{p:Pos}{body els ss:List Stmt}{c:Bool}{st:List SObj}{l q:Nat}{o:SObj}{m:Str}{b:BM}{n:Nat}
theorem Go (I:St->Prop) (h:((mk k).ts cx t).f s=.ok c s1) (b:c=Vn->W (((mk k).xs cx body).f s1) (λf s=>(f=.next/\I s)\/W (cH f s ((mk k).xs cx ss).f) Q E) E) (d:c=Vo->W (((mk k).xs cx els).f s1) (λf s=>(f=.next/\I s)\/W (cH f s ((mk k).xs cx ss).f) Q E) E) (q:∀s,I s->W (((mk k).xs cx ss).f s) Q E):W (((mk (k+1)).xs cx (.If t body els p::ss)).f s) Q E:=qd h (λe=>(b e).imp λf s a=>a.elim (λa=>a.1▸q s a.2) id) λe=>(d e).imp λf s a=>a.elim (λa=>a.1▸q s a.2) id
theorem Em (I:St->Prop) (h:((mk k).ts cx t).f s=.ok c s1) (a:∀R:Fl->St->Prop,(∀s,I s->R .next s)->(∀f s,W (cH f s ((mk k).xs cx ss).f) Q E->R f s)->c=Vn->W (((mk k).xs cx body).f s1) R E) (b:∀R:Fl->St->Prop,(∀s,I s->R .next s)->(∀f s,W (cH f s ((mk k).xs cx ss).f) Q E->R f s)->c=Vo->W (((mk k).xs cx els).f s1) R E) (q:∀s,I s->W (((mk k).xs cx ss).f s) Q E):W (((mk (k+1)).xs cx (.If t body els p::ss)).f s) Q E:=Go I h (a _ (λ_ h=>.inl ⟨rfl,h⟩) λ_ _ h=>.inr h) (b _ (λ_ h=>.inl ⟨rfl,h⟩) λ_ _ h=>.inr h) q
theorem eM (h:st[l]?=Vl o) (a:o.inst?=Vm):cZ st (.loc l) m=none:=by
 show (st[l]?).bind _=_;rw[h];show (o.inst?).bind _=_;rw[a];rfl
theorem eN (h:st[l]?=Vl o) (a:bY m o.tab=Vl b):hS st (.loc l) m=Vl b:=by
 show Kf Vm ((st[l]?).bind _)=_;rw[h];exact a
theorem Jk {I:St->Prop}{g:St->Res Fl}(h:Q .next s):W (cH .brk s g) (AF Q I) E:=h
theorem Bl {I:St->Prop}(h:Q .next s):AF Q I .brk s:=h
theorem Gf (h:st[l]?=Vl (.iter q n)):cG st (.loc l) (sn "__next__")=Vl (.nxt l):=by
 show (st[l]?).bind _=_;rw[h];show (if sn "__next__" = sn "__next__" then Vl (V.nxt l) else Vm)=_;exact if_pos rfl
end
structure Gs (st:List SObj) (B n:Nat) (kvs:List (Int×Nat)) (lc:Nat->Nat) (su:Nat->List Nat):Prop where
 inst:∃A,st[B]?=Vl (.inst A)/\get (sn "_node2info") A=Vl (.loc (B+1))/\get (sn "_find_cycle") A=Vm
 dict:st[B+1]?=Vl (.fobjs kvs)
 node:∀i,i<n->aF (i:Int) kvs=Vl (lc i)/\(∃m,st[lc i]?=Vl (uQ (lc i) m i))/\st[lc i+1]?=Vl (.list ((aB (su i)).map .int))
 keys:∀p∈kvs,0<=p.1/\p.1<(n:Int)
noncomputable abbrev Hh (B L:Nat):List (Str×V):=[(sn "n2i",.loc (B+1)),(sn "stack",.loc L),(sn "itstack",.loc (L+1)),(sn "seen",.loc (L+2)),(sn "node2stacki",.loc (L+3))]
noncomputable def s2 (S:List Fr3):List (Nat×Nat):=S.map λt=>(t.1,t.2.1)
theorem jh (S:List Fr3):(s2 S).map (·.1)=S.map λt=>t.1:=by unfold s2;rw[KC];rfl
def HU (b:List Int) (S:List Fr3) (a:List Nat):Prop:=(∀x:Nat,(x:Int)∈b<->x∈(s2 S).map (·.1)++a)/\b.length=S.length+a.length
def Ik (b:Nat->List Nat) (su:Nat->List Nat) (n:Nat) (v:V):Prop:=(v=.d .non/\∃a:List Nat,Bp su a/\a.Nodup/\a.length<=n/\∀i,i<n->i∈a)\/∃c,v=.d (.lst ((aB c).map .int))/\Ring b n c
structure Turn (st0 st:List SObj) (n L:Nat) (lc:Nat->Nat) (su:Nat->List Nat) (F0:List Nat) (v0:Nat) (S:List Fr3) (xs:List Int) (fin:List Nat) (o:Option Nat) (j:Nat):Prop where
 df:Df st0 st L lc S xs
 ds:Dfs n su (s2 S) fin o
 seen:HU xs S fin
 m:j+val su (s2 S) fin=top n su
 old:∀x∈F0,x∈fin
 v0:v0∈(s2 S).map (·.1)++fin\/S=[]/\o=Vl v0
section
variable {st0 st:List SObj}{B n L v q m x v0:Nat}{kvs:List (Int×Nat)}{lc:Nat->Nat}{nd su:Nat->List Nat}{S:List Fr3}{xs:List Int}{fin F0:List Nat}{j k:Nat}
theorem Turn.push (T:Turn st0 st n L lc su F0 v0 S xs fin (Vl v) j) (a:v<n) (h:v∉(s2 S).map (·.1)++fin){st1:List SObj}(H:Df st0 st1 L lc ((v,0,m)::S) (xs++[(v:Int)])):∃i,i<j/\Turn st0 st1 n L lc su F0 v0 ((v,0,m)::S) (xs++[(v:Int)]) fin Vm i:=by
 obtain ⟨D,e⟩:=T.ds.push a h;have b:=D.le;have c:=T.m;refine ⟨j-1,by lia,H,D,⟨λx=>?_,?_⟩,?_,T.old,.inl ?_⟩
 ·rw[Ku,T.seen.1,Kg];show _<->x∈v::((s2 S).map (·.1)++fin);rw[Kt];exact ⟨λh=>h.elim .inr λh=>.inl (LE h),λh=>h.elim (λh=>.inr (by rw[h])) .inl⟩
 ·rw[Kj,T.seen.2];show S.length+fin.length+1=(S.length+1)+fin.length;lia
 ·show j-1+val su ((v,0)::s2 S) fin=_;lia
 ·show v0∈v::((s2 S).map (·.1)++fin);exact T.v0.elim (λh=>.tail _ h) λh=>J9 h.2▸.head _
theorem Turn.old' (T:Turn st0 st n L lc su F0 v0 S xs fin (Vl v) j) (h:v∈fin):Turn st0 st n L lc su F0 v0 S xs fin Vm j:=⟨T.df,T.ds.old h,T.seen,T.m,T.old,.inl (T.v0.elim id λe=>Li _ (J9 e.2▸h))⟩
theorem Turn.next (T:Turn st0 st n L lc su F0 v0 ((v,q,m)::S) xs fin Vm j) (e:(su v)[q]?=Vl x):∃i,i<j/\Turn st0 (st.set m (.iter (lc v+1) (q+1))) n L lc su F0 v0 ((v,q+1,m)::S) xs fin (Vl x) i:=by
 obtain ⟨D,e⟩:=T.ds.next (S:=s2 S) e;have a:=D.le;have b:j+val su ((v,q)::s2 S) fin=_:=T.m;exact ⟨j-1,by lia,T.df.next,D,T.seen,by show j-1+val su ((v,q+1)::s2 S) fin=_;lia,T.old,.inl (T.v0.elim id λh=>nomatch h.1)⟩
theorem Turn.pop (T:Turn st0 st n L lc su F0 v0 ((v,q,m)::S) xs fin Vm j) (e:(su v)[q]?=Vm){st1:List SObj}(H:Df st0 st1 L lc S xs):∃i,i<j/\Turn st0 st1 n L lc su F0 v0 S xs (v::fin) Vm i:=by
 obtain ⟨D,e⟩:=T.ds.pop (S:=s2 S) e;have b:=D.le;have c:j+val su ((v,q)::s2 S) fin=_:=T.m;have p:((s2 S).map (·.1)++v::fin).Perm ((s2 ((v,q,m)::S)).map (·.1)++fin):=SM;refine ⟨j-1,by lia,H,D,⟨λx=>(T.seen.1 x).trans p.mem_iff.symm,?_⟩,by lia,λx a=>.tail _ (T.old x a),.inl (p.mem_iff.mpr (T.v0.elim id λh=>nomatch h.1))⟩;have:=T.seen.2;rw[Ls] at this ⊢;lia
theorem Dfs.len {S:List (Nat×Nat)}{o:Option Nat}(D:Dfs n su S fin o):S.length+fin.length<=n:=by
 have:=oZ (f:=λ_=>1) D.nod D.lt;rw[fw,fw,KD,Kj,Ka] at this;exact this
theorem Df.app {st0 st:List SObj}{L:Nat}{lc:Nat->Nat}{S:List Fr3}{xs:List Int}(H:Df st0 st L lc S xs) (hz:S.length<=1000):∃o,st[L+1]?=Vl o/\o.inst?=Vm/\bY (sn "append") o.tab=Vl .append/\∀{X:List SObj}{m:Nat},X[L+1]?=Vl o->iW X .append (.loc (L+1)) [.nxt m]=Vl (.d .non,X.set (L+1) (.nexts ((S.map (·.2.2)).reverse++[m]))):=by
 rcases H.its with e | ⟨rfl,e⟩
 ·exact ⟨_,w4 e rfl rfl (λh=>Fg h (by rw[Nt,Ka];exact hz))⟩
 ·exact ⟨_,w4 e rfl rfl (λh=>Fh h)⟩
theorem kD {α:Type}{k:Int}{a:α}:∀{l:List (Int×α)},aF k l=Vl a->(k,a)∈l
 | p::l,h=>by
  have h:(if p.1=k then Vl p.2 else aF k l)=Vl a:=h;by_cases e:p.1=k
  ·rw[if_pos e] at h;exact (Tg e (J9 h):p=(k,a))▸.head _
  ·rw[if_neg e] at h;exact .tail _ (kD h)
theorem tM (G:Gs st B n kvs lc su) (T:gF nd su n) (hn:n<=9) (al:top n su<1000000):W ((mk (k+30)).call 127 [.loc B] st) (λv s=>s.fr=[]/\(∀p,p<st.length->s.st[p]?=st[p]?)/\Ik nd su n v) noE:=by
 refine aC λu b=>?_;obtain ⟨A,i1,i2,i3⟩:=G.inst;refine b ?_;refine W.abs λQ hQ=>?_;refine bX (fd:=aW 127) (us:=[.loc B]) (fr:=aY (sn "self") (.loc B) []) rfl rfl rfl rfl rfl ?_;have f1:cG st (.loc B) (sn "_node2info")=Vl (.loc (B+1)):=fS i1 rfl i2;refine' bT ?a1 ?a2 (eJ ?a3 ?a4 ?a5) (ee ?b1 ?b2 (dT rfl aL rfl) (ee ?c1 ?c2 (dT rfl aL rfl) (ee ?d1 ?d2 ?d3 (ee ?e1 ?e2 mU (ed rfl (w3 rfl rfl rfl) ?f1 ?f2)))))
 case a1=>kernel_rfl
 case a2=>exact ⟨rfl,rfl⟩
 case a3=>rfl
 case a4=>walk_at "e"
 case a5=>exact f1
 case b1=>kernel_rfl
 case b2=>exact ⟨rfl,rfl⟩
 case c1=>kernel_rfl
 case c2=>exact ⟨rfl,rfl⟩
 case d1=>kernel_rfl
 case d2=>exact ⟨rfl,rfl⟩
 case d3=>exact ig rfl (FO rfl rfl)
 case e1=>kernel_rfl
 case e2=>exact ⟨rfl,rfl⟩
 case f1=>walk_at "e"
 have gd:((((st++[SObj.list []])++[SObj.list []])++[SObj.set []])++[SObj.dict []])[B+1]?=Vl (.fobjs kvs):=aE (aE (aE (aE G.dict)));refine ⟨_,vN gd,?_⟩;have l1:(st++[SObj.list []]).length=st.length+1:=Kj;have l2:((st++[SObj.list []])++[SObj.list []]).length=st.length+2:=by rw[Kj,l1];rfl
 have l3:(((st++[SObj.list []])++[SObj.list []])++[SObj.set []]).length=st.length+3:=by rw[Kj,l2];rfl
 have hB:=(Kd.mp G.dict).1;refine' lK (I:=λi fr st1=>jb fr (Hh B st.length)/\∃xs fin j,Df st st1 st.length lc [] xs/\Dfs n su [] fin Vm/\HU xs [] fin/\j+val su [] fin=top n su/\∀m p,m<i->kvs[m]?=Vl p->p.1.toNat∈fin) ?g1 ⟨?g2,?g3⟩ (λi v fr st1 hv hI=>?g4) λfr st1 hI=>?g5
 case g1=>kernel_rfl
 case g2=>
  unfold Hh;rw[<- l1,<- l2,<- l3];walk_at "h"
 case g3=>
  refine y3 [] [] (top n su) (w5 ⟨λp hp=>?_,aE (aE (aE (bH rfl))),.inr ⟨rfl,aE (aE (bH l1.symm))⟩,aE (bH l2.symm),bH l3.symm,nofun,.nil⟩ ⟨.nil,nofun,trivial,trivial⟩ ⟨λx=>⟨λh=>(nomatch h),λh=>(nomatch h)⟩,rfl⟩ rfl (λm p h=>absurd h (L5 _)));show (st++_++_++_++_)[p]?=_;rw[KT,KT,KT,Kx hp]
 case g5=>
  refine aC λu b=>?_;obtain ⟨_,xs,fin,j,H,D,_,_,K⟩:=hI;refine b ?_;refine aG (cg eI (hQ _ _ (w3 rfl H.low (.inl ⟨rfl,fin,w4 D.topo D.nod ?_ (λi C=>?_)⟩))))
  ·have:=D.len;rw[List.length_nil] at this;walk_at "n"
  ·refine aC λu b=>?_;obtain ⟨m,hm⟩:=K0.mp (kD (G.node i C).1);refine b ?_;have:=K m _ (by rw[Ka];exact (Kd.mp hm).1) hm
   rwa [KQ] at this
 case g4=>
  refine W.abs λR1 a9=>?_;refine aC λu b=>?_;obtain ⟨hf,xs,fin,j,H,Dz,Sn,hj,K⟩:=hI;rw[Ks] at hv;obtain ⟨pr,hp,rfl⟩:=KV.mp hv;have kr:=G.keys pr (Kl hp);obtain ⟨v0,ae⟩:=Lg kr.1;refine b ?_;have af:v0<n:=by walk_at "n"
  have K2:∀{fin2:List Nat},(∀x∈fin,x∈fin2)->v0∈fin2->∀m p,m<i+1->kvs[m]?=Vl p->p.1.toNat∈fin2:=λh h0 m p hm e=>by
   rcases My.mp hm with hm | hm
   ·exact h _ (K m p hm e)
   ·subst hm;obtain rfl:=J9 (hp.symm.trans e);rw[ae];exact h0
  rw[ae];have q1:bV st1 .In (.d (.int (v0:Int))) (.loc (st.length+2))=Vl (xs.contains (v0:Int)):=zG H.see;refine' qd ?h1 (λe=>?h2) (λe=>aG ?h3)
  case h1=>walk_at "t"
  case h2=>
   have m0:=(Sn.1 v0).mp (KO.mp e);exact En (a9 _ _ ⟨by walk_at "h",y3 xs fin j (w5 H Dz Sn hj (K2 (λ_ h=>h) m0))⟩)
  case h3=>
   have m0:v0∉fin:=λm=>by rw[KO.mpr ((Sn.1 v0).mpr m)] at e;exact nomatch e
   refine' gQ (λj s=>jb s.fr (Hh B st.length)/\∃(S:List Fr3) (xs:List Int) (fin':List Nat) (v:Nat),get (sn "node") s.fr=Vl (.d (.int (v:Int)))/\v<n/\Turn st s.st n st.length lc su fin v0 S xs fin' (Vl v) j) j rfl (by walk_at "n") ⟨?i1,y4 [] xs fin v0 (w3 aU af ⟨H,⟨Dz.nod,Dz.lt,Dz.topo,trivial⟩,Sn,hj,λ_ h=>h,.inr ⟨rfl,rfl⟩⟩)⟩ (λR2 P2 j s a6 ar hJ=>?i2)
   case i1=>walk_at "h"
   case i2=>
    refine aC λu b=>?_;obtain ⟨hf,S,xs,fin',v,gv,ac,f⟩:=hJ;obtain ⟨fr,st1⟩:=s;refine b ?_;refine y2 Vn _ (w3 si (λ_=>?_) (λe=>nomatch e));have ap:=tf gv hf;have c:=f.df;have O:=f.seen;have up:∀{p o},st[p]?=Vl o->st1[p]?=Vl o:=λ{p o} h=>(c.low p (Kd.mp h).1).trans h;have q2:bV st1 .In (.d (.int (v:Int))) (.loc (st.length+2))=Vl (xs.contains (v:Int)):=zG c.see;have q3:bV st1 .In (.d (.int (v:Int))) (.loc (st.length+3))=Vl (aF (v:Int) (qR S)).isSome:=Ft c.n2s;refine' Em (λs=>∃i,i<=j/\jb s.fr (Hh B st.length)/\∃S xs fin',Turn st s.st n st.length lc su fin v0 S xs fin' Vm i) ?j1 (λR3 hn ho e=>?j2) (λR3 hn ho e=>?j3) λs hI=>?j4
    case j1=>walk_at "t"
    case j2=>
     refine' qd ?k1 (λe2=>?k2) (λe2=>aG (aG (hn _ ?k3)))
     case k1=>walk_at "t"
     case k3=>
      refine ⟨j,w3 (KH _) (by walk_at "h") (y3 S xs fin' (f.old' ?_))⟩;rcases Ku.mp ((O.1 v).mp (KO.mp e)) with m | m
      ·rw[jh] at m;have nd:=(Lu.mp f.ds.nod).1;rw[jh] at nd;refine aC λu b=>?_;obtain ⟨i,e3,_⟩:=mt nd m;refine b ?_;rw[e3] at e2;exact nomatch e2
      ·exact m
     case k2=>
      have nd1:=(Lu.mp f.ds.nod).1;have mS:v∈S.map λt:Fr3=>t.1:=Qb λm=>by rw[jQ m] at e2;exact nomatch e2
      have ab:=nd1;rw[jh] at ab;refine aC λu b=>?_;obtain ⟨i,e3,e4⟩:=mt ab mS;refine b ?_;rw[<- jh] at e4;have R:=B9 T f.ds.ch nd1 (λy hy=>f.ds.lt y (L2 _ hy)) e4;have C:bE (.loc (st.length+3)) (.d (.int (v:Int))) st1=Vl (.d (.int (i:Int))):=Fv c.n2s e3;have hs:fN st1 (.loc st.length) (Vl (.int (i:Int))) Vm Vm=Vl (.lst (((S.map λt=>D.int (t.1:Int)).reverse).drop i)):=(EK c.stk (Ly _)).trans (by rw[KQ]);have hl:=f.ds.len;have ec:((S.map λt=>D.int (t.1:Int)).reverse).drop i++[.int (v:Int)]=(aB ((((s2 S).map (·.1)).reverse).drop i++[v])).map .int:=by
       unfold aB;rw[jh,Kz,Kz,Q6,Q6,SO,SO,KC,KC];rfl
      refine' cg (ij (C5 ?l1 (E2 ?l2) yM yM ?l7) (mM rfl ?l3 ?l4) (rU ?l5)) (ho _ _ ?l6)
      case l1=>walk_at "e"
      case l2=>exact gz rfl (gy rfl (by walk_at "g")) (fY rfl (by walk_at "g")) C
      case l7=>exact hs
      case l3=>walk_at "e"
      case l4=>walk_at "p"
      case l5=>
       have:(s2 S).length=S.length:=Ka ..;rw[M4,Nt,Ka];show _+1<=_;walk_at "n"
      case l6=>exact a6 _ _ (a9 _ _ (hQ _ _ (w3 rfl c.low (.inr ⟨_,by rw[ec],R⟩))))
    case j3=>
     have nm:v∉(s2 S).map (·.1)++fin':=λm=>by rw[KO.mpr ((O.1 v).mpr m)] at e;exact nomatch e
     have ak:S.length+fin'.length<=n:=by
      have:=f.ds.len
      rwa [show (s2 S).length=S.length from Ka ..] at this
     have aq:=O.2;refine aC λu b=>?_;obtain ⟨n1,⟨am,n2⟩,n3⟩:=G.node v ac;have hl:=c.len;obtain ⟨w,E⟩:∃X,X=st1.set (st.length+2) (.set (xs++[(v:Int)])):=⟨_,rfl⟩
     have l4:w.length=st1.length:=by rw[E,KW]
     have F:∀{p r},p≠st.length+2->st1[p]?=r->w[p]?=r:=λ{p r} ne h=>by rw[E];exact off' ne h
     have N:∀{p o},st[p]?=Vl o->w[p]?=Vl o:=λ{p o} h=>F (by have:=(Kd.mp h).1;walk_at "n") (up h);have m1:iW st1 .add (.loc (st.length+2)) [.d (.int (v:Int))]=Vl (.d .non,w):=by rw[E];exact GX c.see (by walk_at "n") e
     have fx:bE (.loc (B+1)) (.d (.int (v:Int))) w=Vl (.loc (lc v)):=DU (N G.dict) n1;have fa:cG w (.loc (lc v)) (sn "successors")=Vl (.loc (lc v+1)):=gE (N n2) rfl;obtain ⟨oi,i4,i5,i6,i7⟩:=c.app (by walk_at "n");have i8:w[st.length+1]?=Vl oi:=F (by walk_at "n") i4;obtain ⟨X2,g⟩:∃X,X=w++[.iter (lc v+1) 0]:=⟨_,rfl⟩
     have ag:cG X2 (.loc w.length) (sn "__next__")=Vl (.nxt w.length):=by rw[g];exact Gf (bH rfl)
     have i9:X2[st.length+1]?=Vl oi:=by rw[g];exact aE i8
     obtain ⟨X3,L⟩:∃X,X=X2.set (st.length+1) (.nexts ((S.map (·.2.2)).reverse++[w.length])):=⟨_,rfl⟩
     have m2:iW X2 .append (.loc (st.length+1)) [.nxt w.length]=Vl (.d .non,X3):=by rw[L];exact i7 i9
     have k1:X3[st.length]?=Vl (yV S):=by rw[L,g];exact off' (by walk_at "n") (aE (F (by walk_at "n") c.stk))
     have k3:X3[st.length+3]?=Vl (.dict (qR S)):=by rw[L,g];exact off' (by walk_at "n") (aE (F (by walk_at "n") c.n2s))
     have aj:aF (v:Int) (qR S)=none:=jQ λm=>nm (L2 _ (by rw[jh];exact m));have m3:eD X3 (.loc (st.length+3)) (v:Int) (.d (.int ((S.map λt=>Mine.Internal.D.int (t.1:Int)).reverse.length:Int)))=Vl (X3.set (st.length+3) (.dict (qR S++[((v:Int),.int (S.length:Int))]))):=by
      rw[Nt,Ka,uD k3 (by rw[uW];walk_at "n"),lY aj]
     obtain ⟨X4,U⟩:∃X,X=X3.set (st.length+3) (.dict (qR S++[((v:Int),.int (S.length:Int))])):=⟨_,rfl⟩
     refine b ?_;rw[<- U] at m3;have k4:X4[st.length]?=Vl (yV S):=by rw[U];exact off' (by walk_at "n") k1
     have m4:=cv (d:=.int (v:Int)) k4 (by rw[Nt,Ka];walk_at "n");refine' cb rfl (aT (w3 rfl rfl rfl) ?m1 ?m2 (aS (bm:=.add) ?m3 ?m4 rfl (aI rfl ?m5 aL) ?m6)) (cb rfl (aT (w3 rfl rfl rfl) ?o1 ?o2 (aS (bm:=.append) ?o3 ?o4 rfl (aI rfl (eJ ?o5 (cE ?o6 (FQ ?o7 ?o8 ?o9 ?ab ?ac)) ?ae) aL) ?aa)) (xE rfl (dH (d:=.bi .len) ?q1 ?q2 ?q3 (rC ?q4 ?q5 (aI rfl ?q6 aL) ?q7)) ?q8 ?q9 ?af (cb rfl (aT (w3 rfl rfl rfl) ?r1 ?r2 (aS (bm:=.append) ?r3 ?r4 rfl (aI rfl ?r5 aL) ?r6)) (aG (hn _ ?r7)))))
     case m1=>decide
     case m2=>walk_at "e"
     case m3=>exact eM c.see rfl
     case m4=>exact eN c.see rfl
     case m5=>walk_at "e"
     case m6=>exact m1
     case o1=>decide
     case o2=>walk_at "e"
     case o3=>exact eM i8 i5
     case o4=>exact eN i8 i6
     case o5=>rfl
     case o6=>rfl
     case o7=>rfl
     case o8=>kernel_rfl
     case o9=>rfl
     case ab=>exact cE rfl (eJ rfl (cE rfl (gz rfl (gy rfl (by walk_at "g")) (fY rfl (by walk_at "g")) fx)) fa)
     case ac=>exact N n3
     case ae=>
      rw[<- g];exact ag
     case aa=>
      rw[<- g];exact m2
     case q1=>rfl
     case q2=>rfl
     case q3=>kernel_rfl
     case q4=>kernel_rfl
     case q5=>kernel_rfl
     case q6=>walk_at "e"
     case q7=>exact Cz k1
     case q8=>walk_at "e"
     case q9=>walk_at "e"
     case af=>exact m3
     case r1=>decide
     case r2=>walk_at "e"
     case r3=>exact eM k4 rfl
     case r4=>exact eN k4 rfl
     case r5=>walk_at "e"
     case r6=>exact m4
     case r7=>
      have H2:=c.push (v:=v) (st1:=X4.set st.length (.list ((S.map λt=>Mine.Internal.D.int (t.1:Int)).reverse++[.int (v:Int)]))) (by rw[U,L,g,l4,E]);refine aC λu b=>?_;obtain ⟨i,C,T2⟩:=f.push ac nm H2;refine b ?_;exact ⟨i,w3 (Ou C) (by walk_at "h") (y3 _ _ _ T2)⟩
    case j4=>
     refine aC λu b=>?_;obtain ⟨i,C,ai,S,xs,fin',T2⟩:=hI;refine b ?_;have ao:S.length<=n:=by
      have:=T2.ds.len;rw[show (s2 S).length=S.length from Ka ..] at this;walk_at "n"
     refine' gQ (λjj s=>jb s.fr (Hh B st.length)/\∃i,i<=j/\∃(S:List Fr3) (xs:List Int) (fin':List Nat),S.length=jj/\Turn st s.st n st.length lc su fin v0 S xs fin' Vm i) S.length rfl (by walk_at "n") ⟨ai,i,C,y3 S xs fin' ⟨rfl,T2⟩⟩ (λR4 P4 jj s aa ah hJ=>?z1)
     case z1=>
      refine aC λu b=>?_;obtain ⟨hf,i,C,S,xs,fin',rfl,f⟩:=hJ;obtain ⟨fr,st1⟩:=s;refine b ?_;have c:=f.df;have tb:=EC c.stk;refine' (y2 _ _ (w3 (jd ?y1 tb) (λe=>?y2) (λe=>?y3)))
      case y1=>walk_at "e"
      case y3=>
       cases S with
       | cons t r=>
        rw[KB,MD] at e;cases hq:(r.map λt=>Mine.Internal.D.int (t.1:Int)).reverse with
        | nil=>rw[hq] at e;exact nomatch e
        | cons a l=>rw[hq] at e;exact nomatch e
       | nil=>exact um (ah _ _ (a6 _ _ (Bl (aG (a9 _ _ ⟨hf,y3 xs fin' i (w5 c f.ds f.seen f.m (K2 f.old (f.v0.elim id λh=>nomatch h.2)))⟩)))))
      case y2=>
       cases S with
       | nil=>exact nomatch e
       | cons t r=>
        refine aC λu b=>?_;obtain ⟨v,q,m⟩:=t;refine b ?_;have hv:v<n:=f.ds.lt v (.head _);have n3:=c.low _ (Kd.mp (G.node v hv).2.2).1 |>.trans (G.node v hv).2.2
        have n4:=(c.it _ (.head _)).2;have e1:st1[st.length+1]?=Vl (.nexts ((r.map (·.2.2)).reverse++[m])):=by
         rcases c.its with h | h
         ·rw[h,KB,MD]
         ·exact nomatch h.1
        have ql:((aB (su v)).map Mine.Internal.D.int)[q]?=((su v)[q]?).map λx:Nat=>Mine.Internal.D.int (x:Int):=by
         unfold aB;rw[KC,Ks];rfl
        refine' qc ⟨rfl,rfl⟩ ?y4
        case y4=>
         cases hx:(su v)[q]? with
         | some x=>
          rw[hx] at ql;refine aC λu b=>?_;obtain ⟨i2,M,T3⟩:=f.next hx;refine b ?_;refine' bT ?x1 ?x2 (Av rfl ?x3 As (ml e1) (CK n4 n3 ql)) (um (aa _ _ (Bl (aG (a6 _ _ ⟨i2,w3 (L3 M C) ?x4 (y4 _ _ _ x (w3 aU ?x5 T3))⟩)))))
          case x1=>kernel_rfl
          case x2=>exact ⟨rfl,rfl⟩
          case x3=>walk_at "e"
          case x4=>walk_at "h"
          case x5=>exact (T v hv x).2 (Kl hx)
         | none=>
          rw[hx] at ql;refine aC λu b=>?_;obtain ⟨a8,Y,as,P⟩:=c.far (.head _);have a8:m≠st.length:=a8;have Y:m≠st.length+1:=Y;have P:m≠st.length+3:=P;have hl:=c.len;have hr:aF (v:Int) (qR r)=none:=jQ λh=>(LM.mp (Lu.mp f.ds.nod).1).1 (show v∈(s2 r).map (·.1) from by rw[jh];exact h);have an:r.length+1+fin'.length<=n:=by
           have:=f.ds.len
           rwa [show (s2 ((v,q,m)::r)).length=r.length+1 from Ka ..] at this
          obtain ⟨Y1,z⟩:∃X,X=st1.set m .gone:=⟨_,rfl⟩
          have g1:Y1[st.length]?=Vl (.list ((r.map λt=>Mine.Internal.D.int (t.1:Int)).reverse++[.int (v:Int)])):=by
           rw[z];refine (off' (LQ a8) c.stk).trans ?_;unfold yV;rw[KB,MD]
          obtain ⟨Y2,J⟩:∃X,X=Y1.set st.length (.list (r.map λt=>Mine.Internal.D.int (t.1:Int)).reverse):=⟨_,rfl⟩
          have g2:iW Y1 .pop (.loc st.length) []=Vl (.d (.int (v:Int)),Y2):=by rw[J];exact Fc g1
          have g3:Y2[st.length+3]?=Vl (.dict (qR r++[((v:Int),.int (r.length:Int))])):=by rw[J,z];exact off' (by walk_at "n") (off' (LQ P) c.n2s)
          obtain ⟨Y3,a7⟩:∃X,X=Y2.set (st.length+3) (.dict (qR r)):=⟨_,rfl⟩
          refine b ?_;have g4:kI Y2 (.loc (st.length+3)) (v:Int)=Vl Y3:=by
           rewrite [C9 g3 ?_ ?_,w0 hr,a7]
           ·rfl
           ·rw[Kj,uW];show r.length+1<=_;walk_at "n"
           ·rw[dD,hr];exact congrArg Option.isSome (if_pos rfl)
          have g5:Y3[st.length+1]?=Vl (.nexts ((r.map (·.2.2)).reverse++[m])):=by rw[a7,J,z];exact off' (by walk_at "n") (off' (by walk_at "n") (off' (LQ Y) e1))
          refine' lq ?x1 ?x2 (Av rfl ?x3 As (ml e1) (zt n4 n3 ql)) (BN (fQ (d:=.bi .stopIteration) ?w1) ?w2 (Gp ?w3 (aT (w3 rfl rfl rfl) ?w4 ?w5 (aS (bm:=.pop) ?w6 ?w7 rfl aL ?w8)) ?w9 (cb rfl (aT (w3 rfl rfl rfl) ?v1 ?v2 (aS (bm:=.pop) ?v3 ?v4 rfl aL ?v6)) (aG ?v5))))
          case x1=>kernel_rfl
          case x2=>exact ⟨rfl,rfl⟩
          case x3=>walk_at "e"
          all_goals try rw[<- z]
          case w1=>kernel_rfl
          case w2=>kernel_rfl
          case w3=>walk_at "e"
          case w4=>decide
          case w5=>walk_at "e"
          case w6=>exact eM g1 rfl
          case w7=>exact eN g1 rfl
          case w8=>exact g2
          case w9=>exact g4
          case v1=>decide
          case v2=>walk_at "e"
          case v3=>exact eM g5 rfl
          case v4=>exact eN g5 rfl
          case v6=>exact Fb g5
          case v5=>
           have H2:=c.pop (st1:=Y3.set (st.length+1) (.nexts (r.map (·.2.2)).reverse)) (by rw[a7,J,z]);refine aC λu b=>?_;obtain ⟨i2,M,T3⟩:=f.pop hx H2;refine b ?_;exact aa _ _ ⟨r.length,w3 (L8 _) (by walk_at "h") ⟨i2,Ou (L3 M C),y3 r _ _ ⟨rfl,T3⟩⟩⟩
end
end
section
set_option linter.all false
section
variable {α:Type}{k:Nat}{cx:Cx}{s s1:St}{t it elt:Kb}{ifs:List Kb}{scope:OI}{pos:Pos}{v:V}{oF:List (Str×V)}{st st':List SObj}{f:α->V}{h:α->Option D}{ps:List α}{l:Nat}{kvs:List (Int×Nat)}
theorem BO:∀{ps:List α}{acc:List D},(∀p∈ps,jx k cx t elt ifs oF st (f p) (h p))->ez (mk k) cx t elt ifs oF (ps.map f) acc st=.ok (acc++ps.filterMap h) ⟨[],st⟩:=@lr _ _ (@λacc _=>by rw[Sk,LC];rfl) (λp ps m=>(@λacc e=>by
  refine aC λj a=>?_;obtain ⟨s,n,q⟩:=e p (.head _);obtain ⟨b,s1,r,l⟩:=q.get;refine a ?_;show optE (dB cx t (f p)) _ _=_;rw[n];show iX (jC _ _ _ _) _=_;rw[r];show cond b _ _=_;rw[KX];cases b with
  | true=>
   refine aC λj a=>?_;obtain ⟨u,s2,o,i,d,rfl,c⟩:=(l.1 rfl).get;refine a ?_;show iX (((mk k).ev cx elt).f s1) _=_;rw[o,c];show ez (mk k) cx t elt ifs oF (ps.map f) (acc++[d]) s2.st=_;rw[i,m λv g=>e v (.tail _ g),KT];rfl
  | false=>
   refine aC λj a=>?_;obtain ⟨i,c⟩:=l.2 rfl;refine a ?_;rw[c];show ez (mk k) cx t elt ifs oF (ps.map f) acc s1.st=_;rw[i];exact m λv g=>e v (.tail _ g)))
theorem kH {F1:List (Str×V)}{T1:List SObj}(c:dM cx it ifs scope) (a:((mk k).ev cx it).f s=.ok v ⟨F1,T1⟩) (b:cS T1 v=Vl (ps.map f,st')) (hz:ps.length<=100000) (d:∀p∈ps,jx k (dW cx scope) t elt ifs (ef scope.names F1) st' (f p) (h p)):(fO (cx:=cx) (mk k) elt t it ifs scope pos).f s=.ok (ps.filterMap h) ⟨F1,st'⟩:=by
 have:(fO (cx:=cx) (mk k) elt t it ifs scope pos).f s=if dM cx it ifs scope then (((mk k).ev cx it).f s).bind λv s=>(li (cx:=cx) (mk k) elt t ifs scope v s).bind .ok else .bad:=rfl
 rw[this,if_pos c];refine aK a (aK (s1:=⟨F1,st'⟩) ?_ rfl);unfold li;rw[b];show (if (ps.map f).length<=100000 then _ else _)=_;rw[if_pos (by rw[Ka];exact hz),BO d];rfl
theorem Ax {F1:List (Str×V)}{T1:List SObj}(c:dM cx it ifs scope) (a:((mk k).ev cx it).f s=.ok v ⟨F1,T1⟩) (b:cS T1 v=Vl (ps.map f,st')) (hz:ps.length<=100000) (d:∀p∈ps,jx k (dW cx scope) t elt ifs (ef scope.names F1) st' (f p) (h p)):(wO (mk k) cx (.ListComp elt [⟨t,it,ifs,0⟩] scope pos)).f s=.ok (.loc st'.length) ⟨F1,st'++[.list (ps.filterMap h)]⟩:=aK (kH (pos:=pos) c a b hz d) rfl
theorem vM (e:st[l]?=Vl (eV kvs)):cS st (.vals l)=Vl (kvs.map λp=>V.loc p.2,st.set l (.fobjs kvs)):=by
 show Kf Vm (Kf Vm ((st[l]?).bind _))=_;rw[e];cases kvs<;>rfl
theorem Fa (e:st[l]?=Vl (eV kvs)):iW st .values (.loc l) []=Vl (.vals l,st):=by
 show KG _ ((st[l]?).bind _)=_;rw[e];cases kvs<;>rfl
end
structure Rs (st:List SObj) (B n:Nat) (kvs:List (Int×Nat)) (lc:Nat->Nat) (nd su:Nat->List Nat) (k:Nat) (np:Nat->Int) (R:Nat) (rd:List Nat) (po nf:Int):Prop where
 hd:∃r,st=.ctab::r
 inst:st[B]?=Vl (.inst (gO B (.loc R) po nf))
 dict:st[B+1]?=Vl (.fobjs kvs)
 rdy:st[R]?=Vl (.list ((aB rd).map .int))
 node:∀i,i<n->aF (i:Int) kvs=Vl (lc i)/\st[lc i]?=Vl (.node (Vl (.loc (lc i+1))) (Vl (.d (.int (np i)))) (Vl (.d (.int (i:Int)))))
 suc:∀i,i<n->Wk nd k i->st[lc i+1]?=Vl (.list ((aB (su i)).map .int))
 cnt:∀i,i<n->Wk nd k i->np i=(cnt nd k i:Int)
 far:∀i,i<n->lc i+1<R
structure Told (kvs:List (Int×Nat)) (np:Int->Nat) (sI:Int->List Int) (n:Nat) (nd su:Nat->List Nat):Prop where
 all:∀i:Nat,i<n->∃l,aF (i:Int) kvs=Vl l
 np:∀i:Nat,i<n->np i=(nd i).length
 su:∀i:Nat,i<n->sI i=aB (su i)
section
variable {k B n:Nat}{st:List SObj}{kvs:List (Int×Nat)}{np:Int->Nat}{sI:Int->List Int}{nd su:Nat->List Nat}
noncomputable def yC (np:Int->Nat) (kvs:List (Int×Nat)):List Nat:=(kvs.filter λp=>(np p.1:Int)==0).map λp=>p.1.toNat
theorem ER (h:∀p∈kvs,0<=p.1):(kvs.filterMap λp=>cond ((np p.1:Int)==0) (Vl (D.int p.1)) Vm)=(aB (yC np kvs)).map .int:=by
 unfold yC aB;rw[KC,KC,pJ (p:=λp:Int×Nat=>(np p.1:Int)==0) (f:=λp=>D.int p.1)];refine LK λp a=>?_;have:=h p (LN.mp a).1;show D.int p.1=D.int (p.1.toNat:Int);rw[Ny this]
theorem I5 (i:Nat):cnt nd 0 i=(nd i).length:=by
 classical
 unfold cnt;exact List.countP_eq_length.mpr λx _=>@decide_eq_true (Wk nd 0 x) _ trivial
theorem IX {i:Nat}:Hg nd 0 i<->nd i=[]:=⟨λh=>L7.mpr λj a=>h.2 ⟨j,a,trivial⟩,λh=>⟨trivial,λ⟨j,a,_⟩=>by rw[h] at a;exact nomatch a⟩⟩
theorem IY (S:Sa st B n kvs np sI) (T:Told kvs np sI n nd su):Grp nd n 0 (yC np kvs):=by
 have h:∀p∈kvs,∃i:Nat,p.1=(i:Int)/\i<n:=λp c=>⟨p.1.toNat,by have:=S.keys p c;lia,by have:=S.keys p c;lia⟩
 refine ⟨?_,λi=>?_⟩
 ·unfold yC;refine NJ.mpr (((NJ.mp S.once).sublist M3).imp_of_mem λ{a b} q t r e=>r ?_);have:=S.keys a (LN.mp q).1;have:=S.keys b (LN.mp t).1;lia
 ·unfold yC;rw[Kr,IX];refine ⟨λ⟨p,c,e⟩=>?_,λ⟨g,e⟩=>?_⟩
  ·obtain ⟨s,o⟩:=LN.mp c;obtain ⟨j,k,f⟩:=h p s;have d:=eq_of_beq o;rw[k] at e d;rw[KQ] at e;subst e;rw[T.np j f] at d;exact ⟨f,LR (LE d)⟩
  ·obtain ⟨l,m⟩:=T.all i g;refine ⟨_,LN.mpr ⟨kD m,?_⟩,KQ i⟩;show (((np (i:Int):Nat):Int)==0)=Vn;rw[T.np i g,e];rfl
theorem qM {α:Type}:∀{l:List (Int×α)}{p:Int×α},(l.map (·.1)).Nodup->p∈l->aF p.1 l=Vl p.2
 | q::l,p,h,a=>by
  obtain ⟨b,c⟩:=LM.mp h;show (if q.1=p.1 then Vl q.2 else aF p.1 l)=_;rcases Kt.mp a with rfl | a
  ·exact if_pos rfl
  ·rw[if_neg λ(e:q.1=p.1)=>b (show q.1∈_ by rw[e];exact KR (f:=λp:Int×α=>p.1) a)];exact qM c a
theorem ve {st:List SObj}{x:SObj}(h:st[0]?=Vl x):∃r,st=x::r:=by
 cases st with
 | nil=>exact nomatch h
 | cons a r=>exact ⟨r,by rw[J9 h]⟩
noncomputable abbrev BC (kvs:List (Int×Nat)) (i:Nat):Nat:=(aF (i:Int) kvs).getD 0
noncomputable abbrev Eh (st:List SObj) (B n:Nat) (kvs:List (Int×Nat)) (nd su:Nat->List Nat) (R:Nat) (a:List Nat):Prop:=Rs st B n kvs (BC kvs) nd su 0 (λi=>((nd i).length:Int)) R a 0 0
theorem II {B:Nat}{a b:V}{c nf:Int}:aY (sn "_ready_nodes") b (gO B a c nf)=gO B b c nf:=rfl
theorem pi (hn:n<=9) (S:Sa st B n kvs np sI) (T:Told kvs np sI n nd su) (Tu:gF nd su n) (z:top n su<1000000):W ((mk (k+36)).call 92 [.loc B] st) (λv s=>s.fr=[]/\v=.d .non/\Eh s.st B n kvs nd su st.length (yC np kvs)/\Ik nd su n (.d .non)) (λc as s=>s.fr=[]/\c=.gbl 55/\Eh s.st B n kvs nd su st.length (yC np kvs)/\∃r,as=[.str (sn "nodes are in a cycle"),.lst ((aB r).map .int)]/\Ring nd n r):=by
 refine bX (fd:=aW 92) (us:=[.loc B]) (fr:=aY (sn "self") (.loc B) []) rfl rfl rfl rfl rfl ?_;have f1:cG st (.loc B) (sn "_ready_nodes")=Vl (.d .non):=fS S.inst rfl rfl;have f2:=S.info;have f3:cZ st (.loc (B+1)) (sn "values")=none:=eM S.dict (by cases kvs<;>rfl);have f4:hS st (.loc (B+1)) (sn "values")=Vl .values:=eN S.dict (by cases kvs<;>kernel_rfl);have hk:kvs.length<=9:=Lo (uX S.keys S.once) hn;obtain ⟨j,g⟩:∃X,X=st.set (B+1) (.fobjs kvs):=⟨_,rfl⟩
 have t:∀{p o},st[p]?=Vl o->o≠eV kvs->j[p]?=Vl o:=λ{p o} h H=>by rw[g];exact aP h S.dict H
 have U:j.length=st.length:=by rw[g,KW]
 have P:∀{a b c},SObj.node a b c≠eV kvs:=by cases kvs<;>exact nofun
 have nl:∀{ds},SObj.list ds≠eV kvs:=by cases kvs<;>exact nofun
 have O:∀{a},SObj.inst a≠eV kvs:=by cases kvs<;>exact nofun
 have nc:SObj.ctab≠eV kvs:=by cases kvs<;>exact nofun
 refine' dN (cU ?a1 ?a2 ?a3 eI vb) (aG (fM (Ax (f:=λp:Int×Nat=>V.loc p.2) (h:=λp=>cond ((np p.1:Int)==0) (Vl (D.int p.1)) Vm) (ps:=kvs) (st':=j) ?b1 (aT (w3 rfl rfl rfl) ?b2 ?b3 (aS (bm:=.values) ?b4 ?b5 rfl aL ?af)) ?b6 ?b7 (λp I=>?b8)) ?b9 ?ab ?aa))
 case a1=>rfl
 case a2=>rfl
 case a3=>walk_at "e"
 case b1=>exact w4 rfl rfl rfl (by decide)
 case b2=>decide
 case b3=>walk_at "e"
 case b4=>exact f3
 case b5=>exact f4
 case b6=>rw[g];exact vM S.dict
 case b7=>walk_at "n"
 case af=>exact Fa S.dict
 case b8=>
  have q:aF p.1 kvs=Vl p.2:=qM S.once I;have x:=t (S.node p.1 p.2 q).1 P;refine' rn ?c1 (cU ?c2 ?c3 (eJ ?c4 ?c5 ?c6) dY kK) (λ_=>eJ ?c7 ?c8 ?c9) ?ae ?ac
  case c1=>kernel_rfl
  case c2=>rfl
  case c3=>rfl
  case c4=>rfl
  case c5=>walk_at "e"
  case c6=>exact gE x rfl
  case c7=>rfl
  case c8=>walk_at "e"
  case c9=>exact gE x rfl
  case ae=>rfl
  case ac=>rfl
 case b9=>walk_at "e"
 case ab=>exact jg (aE (t S.inst O)) ⟨rfl,Kv rfl⟩ rfl
 rw[ER λp I=>(S.keys p I).1,II,U];obtain ⟨X,A⟩:∃X,X=(j++[SObj.list ((aB (yC np kvs)).map .int)]).set B (.inst (gO B (.loc st.length) 0 0)):=⟨_,rfl⟩
 rw[<- A];have J:=aE (r:=[SObj.list ((aB (yC np kvs)).map .int)]) (t S.inst O);have E:∀{p o},j[p]?=Vl o->o≠SObj.inst (gO B (.d .non) 0 0)->X[p]?=Vl o:=λ{p o} h H=>by rw[A];exact aP (aE h) J H
 have L:X[B]?=Vl (.inst (gO B (.loc st.length) 0 0)):=by rw[A];exact bA J
 have N:X[B+1]?=Vl (.fobjs kvs):=E (by rw[g];exact bA S.dict) nofun;have gr:X[st.length]?=Vl (.list ((aB (yC np kvs)).map .int)):=by rw[A];exact aP (bH U.symm) J nofun
 have w:∀i,i<n->aF (i:Int) kvs=Vl (BC kvs i)/\X[BC kvs i]?=Vl (uQ (BC kvs i) (nd i).length i)/\X[BC kvs i+1]?=Vl (.list ((aB (su i)).map .int)):=λi e=>by
  obtain ⟨l,q⟩:=T.all i e;obtain ⟨x,M⟩:=S.node i l q;unfold BC;rw[q,<- T.np i e,<- T.su i e];exact w3 rfl (E (t x P) nofun) (E (t M nl) nofun)
 have gf:∀i,i<n->BC kvs i+1<st.length:=λi e=>by
  obtain ⟨l,q⟩:=T.all i e;unfold BC;rw[q];exact (Kd.mp (S.node i l q).2).1
 have y:∃r,X=.ctab::r:=by
  obtain ⟨r,y⟩:=S.hd;exact ve (E (t (by rw[y];rfl) nc) nofun)
 have G:Gs X B n kvs (BC kvs) su:=⟨⟨_,w3 L rfl rfl⟩,N,λi e=>w3 ((w i e).1) ⟨_,(w i e).2.1⟩ ((w i e).2.2),S.keys⟩
 obtain ⟨v,⟨_,m⟩,Q,F,K,C⟩:=(tM (k:=k+1) G Tu hn z).get;obtain rfl:=show _=[] from F
 have u:∀{p o},X[p]?=Vl o->m[p]?=Vl o:=λ{p o} h=>(K p (Kd.mp h).1).trans h;have Y:Eh m B n kvs nd su st.length (yC np kvs):=⟨by obtain ⟨r,y⟩:=y;exact ve (u (by rw[y];rfl)),u L,u N,u gr,λi e=>⟨(w i e).1,u (w i e).2.1⟩,λi e _=>u (w i e).2.2,λi e _=>by rw[I5],gf⟩
 refine' bT ?d1 ?d2 (aT (w3 rfl rfl rfl) ?d3 ?d4 (cF ?d5 ?d6 aL (fA ?d7 ?d9))) ?d8
 case d1=>kernel_rfl
 case d2=>exact ⟨rfl,rfl⟩
 case d3=>decide
 case d4=>walk_at "e"
 case d5=>exact (cB L rfl).trans rfl
 case d6=>rfl
 case d7=>kernel_rfl
 case d9=>exact Q
 rcases C with ⟨rfl,C⟩ | ⟨c,rfl,R⟩
 ·refine' dN (jd ?h1 ?h3) (aG (aG ?h2))
  case h1=>walk_at "e"
  case h3=>rfl
  case h2=>exact w4 rfl rfl Y (.inl ⟨rfl,C⟩)
 ·have tr:cc m (.d (.lst ((aB c).map .int)))=Vl true:=by
   rw[EB];have:=R.len
   match c,this with
   | a::l,_=>rfl
  refine' lJ (jd ?e1 ?e0) (oD ?e2 ?e3 (aI rfl (FP ?e4) (aI rfl ?e5 aL)) ?e6 ?e7 ?e8)
  case e1=>walk_at "e"
  case e0=>exact tr
  case e2=>exact w3 rfl rfl nofun
  case e3=>kernel_rfl
  case e4=>exact Kv rfl
  case e5=>walk_at "e"
  case e6=>walk_at "d"
  case e7=>exact Kv rfl
  case e8=>exact w4 rfl rfl Y ⟨c,rfl,R⟩
end
end
section
set_option linter.all false
noncomputable def E6 (needs:List (List Int)):Nat->Int->Nat
 | 0=>λ_=>0
 | j+1=>xP (E6 needs j) (j:Int) (E6 needs j (j:Int)+((needs[j]?).getD []).length)
noncomputable def vT (needs:List (List Int)):Nat->Int->List Int
 | 0=>λ_=>[]
 | j+1=>xx (vT needs j) (j:Int) ((needs[j]?).getD [])
noncomputable def Bx (needs:List (List Int)) (i:Nat):List Nat:=(vT needs needs.length (i:Int)).map OT
section
variable {needs:List (List Int)}{n:Nat}
theorem E5:∀{j x:Nat},E6 needs j (x:Int)=if x<j then ((needs[x]?).getD []).length else 0:=@nr _ (@λx=>(if_neg (L5 _)).symm) (λj a=>(@λx=>by
  show (if (x:Int)=(j:Int) then E6 needs j (j:Int)+_ else E6 needs j (x:Int))=_;by_cases e:x=j
  ·refine rp e ?_;rw[if_pos rfl,a,if_neg (Mz _),if_pos (L8 _),LY]
  ·rw[if_neg (λ(h:(x:Int)=(j:Int))=>e (LE h)),a];by_cases h:x<j
   ·rw[if_pos h,if_pos (Mg h)]
   ·rw[if_neg h,if_neg (by (first | walk_at "m" | lia))]))
theorem pa:∀{j:Nat}{x y:Int},y∈vT needs j x->0<=y/\y<(j:Int):=@nr _ (@λ_ _ h=>nomatch h) (λj a=>(@λx y h=>by
  have h:y∈vT needs j x++(((needs[j]?).getD []).filter (·==x)).map λ_=>(j:Int):=h;rcases Ku.mp h with h | h
  ·have:=a h;walk_at "n"
  ·obtain ⟨_,_,rfl⟩:=Kr.mp h;walk_at "n"))
theorem uy (h:∀l∈needs,l.length<=9):∀{j:Nat}{x:Int},(vT needs j x).length<=9*j:=@nr _ (@λ_=>KH _) (λj a=>(@λx=>by
  have b:=a (x:=x);have:=ux (su:=vT needs j) (i:=(j:Int)) (ps:=(needs[j]?).getD []) b;have c:((needs[j]?).getD []).length<=9:=by
   cases e:needs[j]? with
   | none=>exact LA _
   | some l=>exact h l (Kl e)
  show (xx (vT needs j) (j:Int) ((needs[j]?).getD []) x).length<=_;walk_at "n"))
theorem rG {x y:Int}:∀{l:List Int},((l.filter (·==x)).map λ_=>y).count y=l.count x:=@lr _ _ (rfl) (λa l b=>by
  rw[Mp,Ob,<- b];cases h:a==x with
  | true=>rw[if_pos rfl,if_pos rfl,KB,List.count_cons_self]
  | false=>rw[if_neg (by decide),if_neg (by decide)];rfl)
theorem vS:∀{j s:Nat}{x:Int},(vT needs j x).count (s:Int)=if s<j then ((needs[s]?).getD []).count x else 0:=@nr _ (@λs x=>(if_neg (L5 _)).symm) (λj a=>(@λs x=>by
  show (vT needs j x++(((needs[j]?).getD []).filter (·==x)).map λ_=>(j:Int)).count (s:Int)=_;rw[PY,a];by_cases e:s=j
  ·subst e;rw[if_neg (Mz _),if_pos (L8 _),rG,LY]
  ·rw[show ((((needs[j]?).getD []).filter (·==x)).map λ_=>(j:Int)).count (s:Int)=0 from Sl.mpr λm=>by
    obtain ⟨_,_,h⟩:=Kr.mp m;exact e (LE h).symm]
   by_cases h:s<j
   ·rw[if_pos h,if_pos (Mg h)];rfl
   ·rw[if_neg h,if_neg (by (first | walk_at "m" | lia))]))
theorem lh {s:Nat}:∀{l:List Int},(∀x∈l,0<=x)->(l.map OT).count s=l.count (s:Int):=@lr _ _ (@λ_=>rfl) (λa l b=>(@λh=>by
  have d:=h a (.head _);rw[KB,Ob,Ob,b λx c=>h x (.tail _ c)]
  congr 1
  by_cases e:a=(s:Int)
  ·refine rp e ?_;rw[KQ,beq_self_eq_true,beq_self_eq_true]
  ·rw[beq_eq_false_iff_ne.mpr e,beq_eq_false_iff_ne.mpr (by walk_at "n" : a.toNat≠s)]))
theorem sd (d:xw needs needs.length):gF (ndOf needs) (Bx needs) needs.length:=λi e s=>by
 refine ⟨λhs=>?_,λb=>?_⟩
 ·unfold Bx ndOf;rw[lh λx a=>(pa a).1,vS,if_pos hs,lh λx a=>(d.at_ s x a).1]
 ·obtain ⟨y,c,rfl⟩:=Kr.mp b;have:=pa c
  (first | walk_at "m" | lia)
theorem yb (i:Nat):vT needs needs.length (i:Int)=aB (Bx needs i):=by
 unfold aB Bx;rw[KC];exact ((LK λx a=>by
  show ((x.toNat:Nat):Int)=id x;rw[Ny (pa a).1];rfl).trans (N3 _)).symm
theorem E8 (i:Nat):(ndOf needs i).length=((needs[i]?).getD []).length:=by
 unfold ndOf;rw[Ka]
theorem ED (h:∀l∈needs,l.length<=9) (hn:needs.length<=9):top needs.length (Bx needs)<1000000:=by
 have:∀l:List Nat,(l.map λx=>(Bx needs x).length+2).sum<=83*l.length:=λl=>by
  induction l with
  | nil=>exact KH _
  | cons a l b=>
   have:=uy h (j:=needs.length) (x:=(a:Int));rw[KB,L4,Ls];have e:(Bx needs a).length=(vT needs needs.length (a:Int)).length:=Ka ..;walk_at "n"
 have:=this (Ky needs.length);rw[KD] at this;unfold top;walk_at "n"
end
end
section
set_option linter.all false
section
variable {k:Nat}{cx:Cx}{s s1 s2:St}{e:Kb}{es:List Kb}{p:Pos}{m:Nat}{g:∀e,Ev k cx e}{c:D}{as:List D}{v:V}
theorem Jh (a:bb e=Vm) (h:(g e).f s=.exn c as s1):bM g (e::es) s=.exn c as s1:=by
 show Mine.Internal.optE (bb e) _ _=_;rw[a];exact nq h
theorem Jg (a:bb e=Vm) (h:(g e).f s=.ok v s1) (b:bM g es s1=.exn c as s2):bM g (e::es) s=.exn c as s2:=by
 show Mine.Internal.optE (bb e) _ _=_;rw[a];exact aK h (nq b)
theorem C4 (a:aO es=Vn) (h:bM ((mk k).ev cx) es s=.exn c as s1):((mk (k+1)).ev cx (.Tuple es m p)).f s=.exn c as s1:=(if_pos a).trans (nq h)
theorem yt {ps:List Int}:v7 (.d (.lst (ps.map .int)))=Vl (ps.map λx=>V.d (.int x)):=by
 show Vl (((ps.map D.int)).map V.d)=_;rw[KC];rfl
end
theorem Sa.app {st r:List SObj}{B n:Nat}{kvs:List (Int×Nat)}{a:Int->Nat}{su:Int->List Int}(S:Sa st B n kvs a su):Sa (st++r) B n kvs a su:=by
 obtain ⟨q,b⟩:=S.hd;exact ⟨⟨q++r,by rw[b];rfl⟩,aE S.inst,aE S.dict,λk l h=>⟨aE (S.node k l h).1,aE (S.node k l h).2⟩,S.new,S.keys,S.once⟩
theorem Rs.app {st r:List SObj}{B n k R:Nat}{kvs:List (Int×Nat)}{b:Nat->Nat}{c su:Nat->List Nat}{e:Nat->Int}{f:List Nat}{d nf:Int}(S:Rs st B n kvs b c su k e R f d nf):Rs (st++r) B n kvs b c su k e R f d nf:=by
 obtain ⟨q,g⟩:=S.hd;exact ⟨⟨q++r,by rw[g];rfl⟩,aE S.inst,aE S.dict,aE S.rdy,λi a=>⟨(S.node i a).1,aE (S.node i a).2⟩,λi a w=>aE (S.suc i a w),S.cnt,S.far⟩
def Ji (st:List SObj) (n:Nat) (a su:Nat->List Nat) (v:V):Prop:=∃(B:Nat) (kvs:List (Int×Nat)) (R:Nat) (b:List Nat) (d:D),v=.pair B d/\Eh st B n kvs a su R b/\Grp a n 0 b/\((d=.non/\Ik a su n (.d .non))\/∃r,d=.tup [.str (sn "nodes are in a cycle"),.lst ((aB r).map .int)]/\Ring a n r)
theorem kQ {k:Nat}{st:List SObj}{needs:List (List Int)}(O:∃r,st=.ctab::r) (hn:needs.length<=9) (J:xw needs needs.length) (G:∀l∈needs,l.length<=9):W ((mk (k+44)).call 306 [.d (.lst (needs.map λl=>.lst (l.map .int)))] st) (λv s=>s.fr=[]/\Ji s.st needs.length (ndOf needs) (Bx needs) v) noE:=by
 refine aC λw a=>?_;obtain ⟨U,F⟩:=O;refine a ?_;refine bX (fd:=aW 306) (us:=[.d (.lst (needs.map λl=>.lst (l.map .int)))]) (fr:=aY (sn "needs") (.d (.lst (needs.map λl=>.lst (l.map .int)))) []) rfl rfl rfl rfl rfl ?_;have i0:=CN (k:=k+29) (st:=st) (B:=st.length) rfl;refine' bT ?a1 ?a2 (fX 137 ?a3 ?a4 ?a5 ?a6 ?a7 aL ?a8 ?a9) (ed rfl (w3 rfl rfl rfl) ?b1 ?b2)
 case a1=>kernel_rfl
 case a2=>exact ⟨rfl,rfl⟩
 case a3=>rfl
 case a4=>rfl
 case a5=>kernel_rfl
 case a6=>exact ⟨rfl,rfl⟩
 case a7=>rfl
 case a8=>kernel_rfl
 case a9=>exact i0
 case b1=>walk_at "e"
 rw[Ka];refine eB (N:=needs.length) (λj fr m=>jb fr [(sn "sorter",.loc st.length),(sn "needs",.d (.lst (needs.map λl=>.lst (l.map .int))))]/\∃b,Sa m st.length needs.length b (E6 needs j) (vT needs j)/\∀x:Nat,x<j->(aF (x:Int) b).isSome=Vn) (by walk_at "n") rfl ⟨by walk_at "h",[],?_,λx h=>absurd h (L5 _)⟩ (λj fr m z A=>?_) λfr m A=>?_
 ·exact ⟨⟨U++[.inst (gO st.length (.d .non) 0 0),.dict []],by rw[F];rfl⟩,bH rfl,by rw[Qa];exact bH (by rw[Kj];rfl),λk l h=>(nomatch h),λk _=>⟨rfl,rfl⟩,nofun,.nil⟩
 ·refine aC λw a=>?_;obtain ⟨hf,b,S,K⟩:=A;have M:(needs.map λl=>D.lst (l.map .int))[j]?=Vl (.lst (((needs[j]?).getD []).map .int)):=by
   rw[Ks,Ki z];rfl
  have Y:((needs[j]?).getD []).length<=9:=by
   rw[Ki z];exact G _ (Mo z)
  obtain ⟨v,⟨_,Q⟩,e,rfl,g,kvs2,n,K2⟩:=(Bm (k:=k+9) (i:=(j:Int)) (ps:=(needs[j]?).getD []) (Lo hn (by decide)) S ⟨Ly _,MA.mpr z⟩ (J.at_ j) (Lo Y (by decide)) (C:=9*j) (by walk_at "n") (λx=>uy G)).get;refine a ?_;obtain rfl:=show _=[] from g
  have T:=S.frzI;refine' cb rfl (aT (w3 rfl rfl rfl) ?c1 ?c2 (cF ?c3 ?c4 (aI rfl ?c5 (ug rfl ?c6 yt)) (fA ?c7 ?c8))) (aG ⟨?c9,kvs2,?aa,λx M=>(K2 x).mpr ?ae⟩)
  case c1=>decide
  case c2=>walk_at "e"
  case c3=>exact (cB S.inst rfl).trans rfl
  case c4=>rfl
  case c5=>walk_at "e"
  case c6=>walk_at "e"
  case c7=>kernel_rfl
  case c8=>exact e
  case aa=>exact n
  case c9=>walk_at "h"
  case ae=>
   rcases My.mp M with h | h
   ·exact .inl (K x h)
   ·exact .inr (.inl (by rw[h]))
 ·refine aC λw a=>?_;obtain ⟨hf,b,S,K⟩:=A;refine a ?_;have H:Told b (E6 needs needs.length) (vT needs needs.length) needs.length (ndOf needs) (Bx needs):=⟨λi y=>Option.isSome_iff_exists.mp (K i y),λi y=>by rw[E5,if_pos y,E8],λi y=>yb i⟩
  have ey:=Ar (k:=k+15) S.inst;have n:=S.app (r:=[.exc (.bi .valueError) [.str gx]]);have T:=S.frzI;have aa:=n.frzI;have L:=IY n H;have t:=pi (k:=k) hn n H (sd J) (ED G hn);have up:∀{r q:List SObj}{p:Nat} {o},(r)[p]?=Vl o->(r++q)[p]?=Vl o:=aE;refine' aG (dN (sh (je (fX 299 ?d1 ?d2 ?d3 ?d4 ?d5 ?d6 ?d7 ?d8) fG)) (aG (qc ⟨rfl,rfl⟩ ?d9)))
  case d1=>rfl
  case d2=>rfl
  case d3=>kernel_rfl
  case d4=>exact ⟨rfl,rfl⟩
  case d5=>rfl
  case d6=>walk_at "e"
  case d7=>kernel_rfl
  case d8=>exact ey
  have I:cZ (m++[.exc (.bi .valueError) [.str gx]]) (.loc st.length) (sn "prepare")=Vl 92:=(cB n.inst rfl).trans rfl;cases u:(mk (k+36)).call 92 [.loc st.length] (m++[.exc (.bi .valueError) [.str gx]]) with
  | bad=>rw[u] at t;exact t.elim
  | ok v s=>
   rw[u] at t;refine aC λw a=>?_;obtain ⟨g,rfl,RS,C⟩:=t;obtain ⟨_,f⟩:=s;refine a ?_;obtain rfl:=show _=[] from g
   refine' cg (oo ?e1 (aI rfl ?e2 (aI rfl (aT (w3 rfl rfl rfl) ?e3 ?e4 (cF ?e5 ?e6 aL (fA ?e7 ?e0))) aL)) ?e8) ?e9
   case e1=>rfl
   case e2=>walk_at "e"
   case e3=>decide
   case e4=>walk_at "e"
   case e5=>exact I
   case e6=>rfl
   case e7=>kernel_rfl
   case e0=>exact u
   case e8=>rfl
   case e9=>exact ⟨rfl,y5 st.length b _ _ .non (w4 rfl RS L (.inl ⟨rfl,C⟩))⟩
  | exn c as s=>
   rw[u] at t;refine aC λw a=>?_;obtain ⟨g,rfl,RS,r,rfl,R⟩:=t;obtain ⟨_,f⟩:=s;refine a ?_;obtain rfl:=show _=[] from g
   refine' BH (C4 ?f1 (Jg rfl ?f2 (Jh rfl (rB (w3 rfl rfl rfl) ?f3 ?f4 ?f5 ?f6 aL (uJ ?f7 ?f0))))) ?f9
   case f1=>rfl
   case f2=>walk_at "e"
   case f3=>decide
   case f4=>walk_at "e"
   case f5=>exact I
   case f6=>rfl
   case f7=>kernel_rfl
   case f0=>exact u
   have E:dQ (f++[.exc (.gbl 55) [.str (sn "nodes are in a cycle"),.lst ((aB r).map .int)]]) st.length=none:=by
    unfold dQ;rw[aE RS.inst];rfl
   have P:cG (f++[.exc (.gbl 55) [.str (sn "nodes are in a cycle"),.lst ((aB r).map .int)]]) (.loc f.length) (sn "args")=Vl (.d (.tup [.str (sn "nodes are in a cycle"),.lst ((aB r).map .int)])):=by
    show ((f++[SObj.exc _ _])[f.length]?).bind _=_;rw[bH rfl];kernel_rfl
   refine' oH (fQ (d:=.gbl 55) ?m1) ?m2 ?m3 (cg (oo ?m4 (aI rfl ?m5 (aI rfl (eJ ?ac (gy ?ag ?ab) ?ah) aL)) ?af) ?ai)
   case m1=>kernel_rfl
   case m2=>kernel_rfl
   case m3=>kernel_rfl
   case m4=>rfl
   case m5=>exact ka rfl (by walk_at "g") E
   case ac=>rfl
   case ag=>kernel_rfl
   case ab=>walk_at "g"
   case ah=>exact P
   case af=>rfl
   case ai=>exact ⟨rfl,y5 st.length b _ _ _ (w4 rfl RS.app L (.inr ⟨r,rfl,R⟩))⟩
end
section
set_option linter.all false
section
variable {st:List SObj}{l:Nat}{ds:List D}
theorem Ct (h:st[l]?=Vl (.list ds)):iW st .clear (.loc l) []=Vl (.d .non,st.set l (.list [])):=by
 show KG _ ((st[l]?).bind _)=_;rw[h];rfl
theorem Dk (h:st[l]?=Vl (.list ds)):bI st .tuple [.loc l]=Vl (.tup ds):=by
 show KG _ (Kf Vm ((st[l]?).bind _))=_;rw[h];rfl
theorem A7 (h:st[l]?=Vl (.list ds)):bI st .bool [.loc l]=Vl (.bool (!ds.isEmpty)):=by
 show KG _ (Kf Vm ((st[l]?).bind _))=_;rw[h];rfl
theorem xI (h:st[l]?=Vl (.list ds)):cS st (.loc l)=Vl (ds.map .d,st.set l .gone):=by
 show Kf Vm (Kf ((st[l]?).bind _) _)=_;rw[h];rfl
end
noncomputable abbrev nod (a:Nat->Nat) (i:Nat) (v:Int):SObj:=.node (Vl (.loc (a i+1))) (Vl (.d (.int v))) (Vl (.d (.int (i:Int))))
structure Rb (st:List SObj) (B n N:Nat) (kvs:List (Int×Nat)) (lc:Nat->Nat) (su:Nat->List Nat) (P:Nat->Prop) (np:Nat->Int) (R:Nat) (rd:List Nat) (po nf:Int):Prop where
 hd:∃r,st=.ctab::r
 inst:st[B]?=Vl (.inst (gO B (.loc R) po nf))
 dict:st[B+1]?=Vl (.fobjs kvs)
 rdy:st[R]?=Vl (.list ((aB rd).map .int))
 node:∀i,i<n->aF (i:Int) kvs=Vl (lc i)/\st[lc i]?=Vl (nod lc i (np i))
 suc:∀i,i<n->P i->st[lc i+1]?=Vl (.list ((aB (su i)).map .int))
 far:∀i,i<n->lc i+1<R
 lt:B+1<N/\R<N
def nJ (N:Nat) (st st':List SObj):Prop:=st'.length=st.length/\∀p,N<=p->st'[p]?=st[p]?
section
variable {st st' st2:List SObj}{B n N R i m:Nat}{kvs:List (Int×Nat)}{lc:Nat->Nat}{su nd:Nat->List Nat}{P:Nat->Prop}{np:Nat->Int}{rd g:List Nat}{po nf v:Int}{k:Nat}
theorem nJ.refl:nJ N st st:=⟨rfl,λ_ _=>rfl⟩
theorem nJ.set {q:Nat}{o:SObj}(h:nJ N st st') (b:q<N):nJ N st (st'.set q o):=⟨by rw[KW];exact h.1,λp a=>(LG (by lia)).trans (h.2 p a)⟩
theorem nJ.trans (h:nJ N st st') (b:nJ N st' st2):nJ N st st2:=⟨b.1.trans h.1,λp a=>(b.2 p a).trans (h.2 p a)⟩
theorem fb {q:Nat}{o x y:SObj}(h:∃r,st=.ctab::r) (c:st[q]?=Vl x) (b:SObj.ctab≠x):∃r,st.set q o=.ctab::r:=by
 obtain ⟨r,a⟩:=h;exact ve (aP (by rw[a];rfl) c b)
theorem Rb.setI (S:Rb st B n N kvs lc su P np R rd po nf) (a b:Int):Rb (st.set B (.inst (gO B (.loc R) a b))) B n N kvs lc su P np R rd a b:=⟨fb (y:=.gone) S.hd S.inst nofun,bA S.inst,aP S.dict S.inst nofun,aP S.rdy S.inst nofun,λi c=>⟨(S.node i c).1,aP (S.node i c).2 S.inst nofun⟩,λi c p=>aP (S.suc i c p) S.inst nofun,S.far,S.lt⟩
theorem Rb.setR (S:Rb st B n N kvs lc su P np R rd po nf) (b:List Nat):Rb (st.set R (.list ((aB b).map .int))) B n N kvs lc su P np R b po nf:=⟨fb (y:=.gone) S.hd S.rdy nofun,aP S.inst S.rdy nofun,aP S.dict S.rdy nofun,bA S.rdy,λi a=>⟨(S.node i a).1,aP (S.node i a).2 S.rdy nofun⟩,λi a p=>bG (by have:=S.far i a;walk_at "n") (S.suc i a p),S.far,S.lt⟩
noncomputable def oJ (f:Nat->Int) (i:Nat) (a:Int) (x:Nat):Int:=if x=i then a else f x
theorem Rb.inj (S:Rb st B n N kvs lc su P np R rd po nf){x:Nat}(b:x<n) (a:i<n) (c:x≠i):lc x≠lc i:=λe=>by
 have h:=(S.node x b).2;rw[e,(S.node i a).2] at h;injection h with h
 injection h with _ _ h
 injection h with h
 injection h with h
 injection h with h
 exact c (LE h).symm
theorem Rb.setN (S:Rb st B n N kvs lc su P np R rd po nf) (b:i<n) (v:Int):Rb (st.set (lc i) (nod lc i v)) B n N kvs lc su P (oJ np i v) R rd po nf:=by
 have h:=(S.node i b).2;refine ⟨fb (y:=.gone) S.hd h nofun,aP S.inst h nofun,aP S.dict h nofun,aP S.rdy h nofun,λx a=>⟨(S.node x a).1,?_⟩,λx a p=>aP (S.suc x a p) h nofun,S.far,S.lt⟩;unfold oJ;by_cases e:x=i
 ·refine rp e ?_;rw[if_pos rfl];exact bA h
 ·rw[if_neg e];exact bG (S.inj a b e) (S.node x a).2
theorem Rb.gone (S:Rb st B n N kvs lc su P np R rd po nf) (b:i<n) (c:P i):Rb (st.set (lc i+1) .gone) B n N kvs lc su (λx=>P x/\x≠i) np R rd po nf:=by
 have h:=S.suc i b c;exact ⟨fb (y:=.gone) S.hd h nofun,aP S.inst h nofun,aP S.dict h nofun,bG (by have:=S.far i b;walk_at "n") S.rdy,λx a=>⟨(S.node x a).1,aP (S.node x a).2 h nofun⟩,λx a p=>bG (λe=>S.inj a b p.2 (by walk_at "n")) (S.suc x a p.1),S.far,S.lt⟩
theorem Rb.lcN (S:Rb st B n N kvs lc su P np R rd po nf) (a:i<n):lc i+1<N:=O2 (S.far i a) S.lt.2
theorem Rb.at_ (S:Rb st B n N kvs lc su P np R rd po nf):cG st (.loc B) (sn "_ready_nodes")=Vl (.loc R)/\cG st (.loc B) (sn "_node2info")=Vl (.loc (B+1))/\cG st (.loc B) (sn "_npassedout")=Vl (.d (.int po))/\cG st (.loc B) (sn "_nfinished")=Vl (.d (.int nf)):=(w4 (fS S.inst rfl rfl) (fS S.inst rfl rfl) (fS S.inst rfl rfl) (fS S.inst rfl rfl))
theorem Rb.ix (S:Rb st B n N kvs lc su P np R rd po nf) (a:i<n):bE (.loc (B+1)) (.d (.int (i:Int))) st=Vl (.loc (lc i)):=DU S.dict (S.node i a).1
theorem IG {B:Nat}{a:V}{x po nf:Int}:aY (sn "_npassedout") (.d (.int x)) (gO B a po nf)=gO B a x nf:=rfl
theorem IH {B:Nat}{a:V}{x po nf:Int}:aY (sn "_nfinished") (.d (.int x)) (gO B a po nf)=gO B a po x:=rfl
theorem xr (S:Rb st B n N kvs lc su P np R [] po po):(mk (k+14)).call 106 [.loc B] st=.ok (.d (.bool Vo)) ⟨[],st⟩:=by
 obtain ⟨g,b,h,f⟩:=S.at_;have a:bV st .Lt (.d (.int po)) (.d (.int po))=Vl false:=by
  show Vl (decide (po<po))=_;rw[decide_eq_false (Int.lt_irrefl _)]
 have e:bI st .bool [.loc R]=Vl (.bool Vo):=A7 S.rdy;refine W.eq (bX (fd:=aW 106) (us:=[.loc B]) (fr:=aY (sn "self") (.loc B) []) rfl rfl rfl rfl rfl ?_);refine' dN (cU ?a1 ?a2 ?a3 eI pB) (aG (cg (mY (AZ (c:=Vo) (mX ?b1 ?b2 ?b3 ?b4 a) ?b5 ?b6 (tX ?b7))) ?b8))
 case a1=>rfl
 case a2=>rfl
 case a3=>walk_at "e"
 case b1=>rfl
 case b2=>rfl
 case b3=>walk_at "e"
 case b4=>walk_at "e"
 case b5=>rfl
 case b6=>rfl
 case b7=>walk_at "e"
 case b8=>exact ⟨rfl,rfl⟩
theorem sK (S:Rb st B n N kvs lc su P np R rd po nf) (C:∀i∈rd,i<n) (hz:rd.length<=1000):W ((mk (k+24)).call 99 [.loc B] st) (λv s=>v=.d (.tup ((aB rd).map .int))/\s.fr=[]/\nJ N st s.st/\∃a,Rb s.st B n N kvs lc su P a R [] (po+rd.length) nf/\∀i,a i=if i∈rd then -1 else np i) noE:=by
 refine aC λu f=>?_;obtain ⟨L,f2,_,_⟩:=S.at_;refine f ?_;have z:bI st .tuple [.loc R]=Vl (.tup ((aB rd).map .int)):=Dk S.rdy;refine W.abs λQ y=>?_;refine bX (fd:=aW 99) (us:=[.loc B]) (fr:=aY (sn "self") (.loc B) []) rfl rfl rfl rfl rfl ?_;refine' dN (cU ?a1 ?a2 ?a3 eI pB) (aG (bT ?b1 ?b2 ?b3 (bT ?c1 ?c2 ?c3 (ed rfl (w3 rfl rfl rfl) ?d1 ?d2))))
 case a1=>rfl
 case a2=>rfl
 case a3=>walk_at "e"
 case b1=>kernel_rfl
 case b2=>exact ⟨rfl,rfl⟩
 case b3=>walk_at "e"
 case c1=>kernel_rfl
 case c2=>exact ⟨rfl,rfl⟩
 case c3=>walk_at "e"
 case d1=>walk_at "e"
 refine iq jz (λj fr b=>jb fr [(sn "self",.loc B),(sn "result",.d (.tup ((aB rd).map .int))),(sn "n2i",.loc (B+1))]/\nJ N st b/\∃a,Rb b B n N kvs lc su P a R rd po nf/\∀i,a i=if i∈rd.take j then -1 else np i) (w3 (by walk_at "h") nJ.refl ⟨np,S,λi=>(if_neg λh=>nomatch h).symm⟩) (λj d fr b o r=>?_) λfr b r=>?_
 ·refine aC λu f=>?_;obtain ⟨A,K,a,c,g⟩:=r;unfold aB at o;rw[KC,Ks] at o;obtain ⟨i,w,rfl⟩:=KV.mp o;refine f ?_;have l:=C i (Kl w);have E:=c.ix l;refine y2 _ (aY (sn "node") (.d (.int (i:Int))) fr) (w3 (eK rfl) rfl ?_);refine W.abs λR1 t=>?_;refine' fM (ig ?e0 (fQ (d:=.int (-1)) ?e1)) ?e2 ?e3 (aG (t _ _ (w3 ?e4 (K.set (q:=lc i) (by have:=c.lcN l;(first | walk_at "m" | lia))) ⟨_,c.setN l (-1),λx=>?e5⟩)))
  case e0=>rfl
  case e1=>kernel_rfl
  case e2=>exact cE rfl (gz rfl (gy rfl (by walk_at "g")) (fY rfl aU) E)
  case e3=>exact jf (c.node i l).2 rfl jJ
  case e4=>walk_at "h"
  case e5=>
   unfold oJ;rw[g,La,w];by_cases e:x=i
   ·rw[if_pos e,if_pos (show x∈rd.take j++(Vl i).toList from Li _ (show x∈[i] by rw[e];exact .head _))]
   ·rw[if_neg e];by_cases h:x∈rd.take j
    ·rw[if_pos h,if_pos (L2 _ h)]
    ·rw[if_neg h,if_neg (λ(m:x∈rd.take j++(Vl i).toList)=>(Ku.mp m).elim h λm=>e (Kg.mp m))]
 ·refine aC λu f=>?_;obtain ⟨A,K,a,c,g⟩:=r;rw[Ka,show (aB rd).length=rd.length from Ka ..,Mn] at g;have p:=c.setR [];have G:=p.setI (po+rd.length) nf;obtain ⟨U,J,g3,T⟩:=c.at_;obtain ⟨O,H,F,M⟩:=p.at_;refine f ?_;have I:dQ b B=none:=by unfold dQ;rw[c.inst];rfl
  have Y:bI (b.set R (.list [])) .len [.d (.tup ((aB rd).map .int))]=Vl (.int (rd.length:Int)):=by
   rw[vC,Ka,show (aB rd).length=rd.length from Ka ..]
  refine' aG (cb rfl (aT (w3 rfl rfl rfl) ?k1 ?k2 (aS (bm:=.clear) ?k3 ?k4 rfl aL (Ct ?k5))) (un ?l1 ?l2 ?l3 ?l4 ?l5 (cg ?l6 ?l7)))
  case k1=>decide
  case k2=>walk_at "e"
  case k3=>exact eM c.rdy rfl
  case k4=>exact eN c.rdy rfl
  case k5=>exact c.rdy
  case l1=>walk_at "e"
  case l2=>exact F
  case l3=>walk_at "e"
  case l4=>rfl
  case l5=>exact jg p.inst ⟨rfl,Kv rfl⟩ rfl
  case l6=>walk_at "e"
  case l7=>
   rw[IG];exact y _ _ (w4 rfl rfl ((K.set c.lt.2).set (by have:=c.lt.1;(first | walk_at "m" | lia))) ⟨a,G,g⟩)
end
end
section
set_option linter.all false
theorem Fe {st:List SObj}{l m:Nat}{kvs:List (Int×Nat)}{i:Int}(h:st[l]?=Vl (.fobjs kvs)) (a:aF i kvs=Vl m):iW st .get (.loc l) [.d (.int i)]=Vl (.loc m,st):=by
 show KG _ (Kf (Kf (KG _ (Kf Vm ((st[l]?).bind _))) (KG _ ((st[l]?).bind _))) _)=_;rw[h];show Vl (optE (aF i kvs) (V.d .non) .loc,st)=_;rw[a];rfl
section
variable {st:List SObj}{B n N R i m:Nat}{kvs:List (Int×Nat)}{lc:Nat->Nat}{su nd:Nat->List Nat}{P:Nat->Prop}{np:Nat->Int}{rd g:List Nat}{po nf v:Int}{k:Nat}
theorem xm {ps:List Int}(hz:ps.length<=1000):iY 120 (aW 120) (.loc B::ps.map λx=>.d (.int x))=Vl [.loc B,.d (.tup (ps.map .int))]:=by
 have e:∀(a:V) (b:List V),iY 120 (aW 120) (a::b)=(ej b).bind λc=>if c.length<=1000 then Vl [a,.d (.tup c)] else none:=λa b=>rfl
 rw[e,oy];exact if_pos (by rw[Ka];exact hz)
theorem Rb.weak {P':Nat->Prop}(S:Rb st B n N kvs lc su P np R rd po nf) (h:∀x,P' x->P x):Rb st B n N kvs lc su P' np R rd po nf:=⟨S.hd,S.inst,S.dict,S.rdy,S.node,λi a p=>S.suc i a (h i p),S.far,S.lt⟩
theorem wQ {j:Nat}(h:g[j]?=Vl i):(g.take (j+1)).flatMap su=(g.take j).flatMap su++su i:=by
 rw[La,h,M2];show _++(su i++[])=_;rw[LC]
theorem fg {l:List Nat}(h:l.Nodup) (a:∀x∈l,x<n):l.length<=n:=by
 have:=oZ (f:=λ_=>1) h a;rw[fw,fw,KD] at this;exact this
def Bv (nd:Nat->List Nat) (n k:Nat) (np:Nat->Int) (e:List Nat):Prop:=∀x,x<n->Wk nd (k+1) x->np x=(cnt nd k x:Int)-(e.count x:Int)
theorem wY (S:Rb st B n N kvs lc su P np R [] po nf) (T:gF nd su n) (hn:∀s,s<n->∀x∈nd s,x<n) (G:Grp nd n k g) (hP:∀i∈g,P i) (h1:∀i∈g,np i = -1) (h2:Bv nd n k np []) (hz:n<=9) (hg:g.length<=9){f:Nat}:W ((mk (f+24)).call 120 (.loc B::(aB g).map λx=>.d (.int x)) st) (λv s=>v=.d .non/\s.fr=[]/\nJ N st s.st/\∃b c,Rb s.st B n N kvs lc su (λx=>P x/\x∉g) b R c po (nf+g.length)/\Grp nd n (k+1) c/\∀i,i<n->Wk nd (k+1) i->b i=(cnt nd (k+1) i:Int)) noE:=by
 have lg:(aB g).length=g.length:=Ka ..;refine W.abs λQ hQ=>?_;refine bX (fd:=aW 120) (us:=[.loc B,.d (.tup ((aB g).map .int))]) (fr:=aY (sn "nodes") (.d (.tup ((aB g).map .int))) (aY (sn "self") (.loc B) [])) rfl rfl (xm (by lia)) rfl rfl ?_;refine aC λU o=>?_;obtain ⟨f1,f2,_,_⟩:=S.at_;refine o ?_;refine' dN (cU ?a1 ?a2 ?a3 eI pB) (aG (bT ?c1 ?c2 ?c3 (ed rfl (w3 rfl rfl rfl) ?d1 ?d2)))
 case a1=>rfl
 case a2=>rfl
 case a3=>walk_at "e"
 case c1=>kernel_rfl
 case c2=>exact ⟨rfl,rfl⟩
 case c3=>walk_at "e"
 case d1=>walk_at "e"
 refine iq jz (λj fr r=>jb fr [(sn "self",.loc B),(sn "n2i",.loc (B+1))]/\nJ N st r/\∃b c,Rb r B n N kvs lc su (λx=>P x/\x∉g.take j) b R c po (nf+j)/\xz (cnt nd k) ((g.take j).flatMap su) c/\Bv nd n k b ((g.take j).flatMap su)/\∀i∈g,i∉g.take j->b i = -1) (w3 (by walk_at "h") nJ.refl (y2 np [] (w4 ?_ xz.nil h2 (λi C _=>h1 i C)))) (λj d fr r hd hI=>?_) λfr r hI=>?_
 ·rw[show nf+((0:Nat):Int)=nf from RA _];exact S.weak λ_ h=>h.1
 ·refine aC λU o=>?_;obtain ⟨hf,K,b,c,p,l,A,z⟩:=hI;unfold aB at hd;rw[KC,Ks] at hd;obtain ⟨i,Y,rfl⟩:=KV.mp hd;have L:=Kl Y;have C:=((G.mem i).mp L).1;have ni:i∉g.take j:=λm=>by
   refine aC λU o=>?_;obtain ⟨a,ha⟩:=K0.mp m;refine o ?_;have hl:=(Kd.mp ha).1;rw[Lr] at hl;rw[Sj,if_pos (by lia)] at ha;have:=(PW (by lia) G.nod).mp (ha.trans Y.symm);lia
  have n1:=z i L ni;obtain ⟨l1,F⟩:=p.node i C;refine o ?_;have c3:bV r .NotEq (.d (.int (-1))) (.d (.int (-1)))=Vl false:=rfl;have fa:cG r (.loc (lc i)) (sn "npredecessors")=Vl (.d (.int (-1))):=by rw[<- n1];exact gE F rfl
  have S2:=p.setN C (-2);have S3:=S2.gone C ⟨hP i L,ni⟩;have fs:cG (r.set (lc i) (nod lc i (-2))) (.loc (lc i)) (sn "successors")=Vl (.loc (lc i+1)):=gE (bA F) rfl;have lN:=p.lcN C;refine y2 _ (aY (sn "node") (.d (.int (i:Int))) fr) (w3 (eK rfl) rfl ?_);refine W.abs λR1 a5=>?_;refine' dN (cU ?e1 ?e2 (mL ?e3 (aT (w3 rfl rfl rfl) ?e4 ?e5 (aS (bm:=.get) ?e6 ?e7 rfl (aI rfl ?e8 aL) ?e9))) eI pB) (aG (bT ?g1 ?g2 (eJ ?g3 (gy ?g4 aU) ?g5) (dN (cU ?g6 ?g7 ?g8 (fQ (d:=.int (-1)) ?g9) ?af) (aG (fM (ig ?h1 (fQ (d:=.int (-2)) ?h2)) ?h3 ?h4 (ed rfl (w3 rfl rfl rfl) (cE rfl (eJ ?h5 ?h6 ?h7)) ?h8))))))
  case e1=>rfl
  case e2=>rfl
  case e3=>exact ⟨rfl,rfl⟩
  case e4=>decide
  case e5=>walk_at "e"
  case e6=>exact eM p.dict rfl
  case e7=>exact eN p.dict rfl
  case e8=>walk_at "e"
  case e9=>exact Fe p.dict l1
  case g1=>kernel_rfl
  case g2=>exact ⟨rfl,rfl⟩
  case g3=>rfl
  case g4=>kernel_rfl
  case g5=>exact fa
  case g6=>rfl
  case g7=>rfl
  case g8=>walk_at "e"
  case g9=>kernel_rfl
  case af=>exact c3
  case h1=>rfl
  case h2=>kernel_rfl
  case h3=>walk_at "e"
  case h4=>exact jf F rfl jJ
  case h5=>rfl
  case h6=>walk_at "e"
  case h7=>exact fs
  refine ⟨(_,_),xI (S2.suc i C ⟨hP i L,ni⟩),?_⟩;have ft:=wQ (su:=su) Y;have sub:∀t,((g.take j).flatMap su++(su i).take t).Sublist (g.flatMap su):=λt=>by
   refine TZ.trans (l₂:=(g.take (j+1)).flatMap su) ?_ ?_
   ·rw[ft];exact (Q0 _).append (PV _ _)
   ·conv=>rhs;rw[<- NT (j+1) g,M2]
    exact List.sublist_append_left _ _
  refine lK (I:=λt fr y=>jb fr [(sn "self",.loc B),(sn "n2i",.loc (B+1))]/\nJ N st y/\∃b c,Rb y B n N kvs lc su (λx=>P x/\x∉g.take (j+1)) b R c po (nf+j)/\xz (cnt nd k) ((g.take j).flatMap su++(su i).take t) c/\Bv nd n k b ((g.take j).flatMap su++(su i).take t)/\∀x∈g,x∉g.take (j+1)->b x = -1) rfl (w3 ?_ ?_ (y2 _ c (w4 (S3.weak λx h=>⟨⟨h.1,λm=>h.2 ?_⟩,λe=>h.2 ?_⟩) ?_ ?_ ?_))) (λt v fr y hv hJ=>?_) λfr y hJ=>?_
  ·walk_at "h"
  ·exact (K.set (by lia)).set lN
  ·rw[La];exact L2 _ m
  ·rw[e,La,Y];exact Li _ (.head _)
  ·rw[QJ,LC];exact l
  ·rw[QJ,LC];intro x E w;unfold oJ;rw[if_neg λ(e:x=i)=>((G.mem i).mp L).2.2 (e▸w)];exact A x E w
  ·intro x E m;unfold oJ;rw[if_neg λ(e:x=i)=>m (by rw[e,La,Y];exact Li _ (.head _))];exact z x E λm'=>m (by rw[La];exact L2 _ m')
  ·refine W.abs λR2 a4=>?_;refine aC λU o=>?_;obtain ⟨hf,K,b,c,p,l,A,z⟩:=hJ;unfold aB at hv;rw[KC,KC,Ks] at hv;obtain ⟨s,es,ev⟩:=KV.mp hv;obtain rfl:V.d (.int (s:Int))=v:=ev;have sm:=Kl es;obtain ⟨hs,ws⟩:=tg T G hn (P8.mpr ⟨i,L,sm⟩);obtain ⟨l1,F⟩:=p.node s hs;have ds:=A s hs ws;have O:(g.take j).flatMap su++(su i).take (t+1)=((g.take j).flatMap su++(su i).take t)++[s]:=by
    rw[La,es,<- KT];rfl
   have ct:((g.take j).flatMap su++(su i).take t).count s+1<=cnt nd k s:=by
    have h:=(sub (t+1)).count_le s;rw[O,gA,if_pos rfl] at h;have:=lD T G hn hs;lia
   have M:Bv nd n k (oJ b s (b s-1)) (((g.take j).flatMap su++(su i).take t)++[s]):=λx E w=>by
    unfold oJ;rw[gA];by_cases e:x=s
    ·refine rp e ?_;rw[if_pos rfl,if_pos rfl,ds];lia
    ·rw[if_neg e,if_neg (λ(q:s=x)=>e q.symm),A x E w];rfl
   have H:∀x∈g,x∉g.take (j+1)->oJ b s (b s-1) x = -1:=λx E m=>by
    unfold oJ;rw[if_neg λ(e:x=s)=>((G.mem x).mp E).2.2 (e▸ws)];exact z x E m
   have J:=p.setN hs (b s-1);have lN:=p.lcN hs;have ix:=p.ix hs;have fz:dQ y (lc s)=none:=by unfold dQ;rw[F];rfl
   have fp:=gE (n:=sn "npredecessors") F (rfl:jn (Vl (V.loc (lc s+1)),Vl (V.d (.int (b s))),Vl (V.d (.int (s:Int)))) (sn "npredecessors")=Vl (.d (.int (b s))));obtain ⟨st3,u⟩:∃X,X=y.set (lc s) (nod lc s (b s-1)):=⟨_,rfl⟩
   rw[<- u] at J;have K3:nJ N st st3:=by rw[u];exact K.set (by lia)
   have fq:cG st3 (.loc (lc s)) (sn "npredecessors")=Vl (.d (.int (b s-1))):=by rw[u];exact gE (bA F) rfl
   obtain ⟨g1,g2,g3,g4⟩:=J.at_;refine o ?_;refine' bT ?j1 ?j2 (gz rfl ?j3 ?j4 ?j0) (un ?j5 ?j6 dY ?j7 ?j8 ?j9)
   case j1=>kernel_rfl
   case j2=>exact ⟨rfl,rfl⟩
   case j3=>walk_at "e"
   case j4=>walk_at "e"
   case j0=>exact ix
   case j5=>walk_at "e"
   case j6=>exact fp
   case j7=>rfl
   case j8=>exact jf F rfl jJ
   rw[<- u];by_cases q:cnt nd k s=((g.take j).flatMap su++(su i).take t).count s+1
   ·have v0:b s-1=0:=by rw[ds,q];lia
    have S6:=J.setR (c++[s]);have c4:bV st3 .Eq (.d (.int (b s-1))) (.d (.int 0))=Vl true:=by rw[kK,v0];rfl
    have ap:iW st3 .append (.loc R) [.d (.int (s:Int))]=Vl (.d .non,st3.set R (.list ((aB (c++[s])).map .int))):=by
     unfold aB;rw[Kz,Kz];refine cv J.rdy ?_;have:=(fg l.1 λx E=>(tg T G hn ((sub t).mem ((l.2 x).mp E).1)).1:c.length<=n)
     rw[Ka,Ka];lia
    refine' lJ (cU ?k1 ?k2 (eJ ?k3 ?k4 ?ab) dY ?ac) (cb rfl (aT (w3 rfl rfl rfl) ?k5 ?k6 (aS (bm:=.append) ?k7 ?k8 rfl (aI rfl ?k9 aL) ?ae)) (aG (aG ?aa)))
    case k1=>rfl
    case k2=>rfl
    case k3=>rfl
    case k4=>walk_at "e"
    case k5=>decide
    case k6=>walk_at "e"
    case k7=>exact eM J.rdy rfl
    case k8=>exact eN J.rdy rfl
    case k9=>walk_at "e"
    case ab=>exact fq
    case ac=>exact c4
    case ae=>exact ap
    case aa=>exact a4 _ _ (w3 (by walk_at "h") (K3.set p.lt.2) (y2 _ _ (w4 S6 (by rw[O];exact l.hit q) (by rw[O];exact M) H)))
   ·have c4:bV st3 .Eq (.d (.int (b s-1))) (.d (.int 0))=Vl false:=by
     rw[kK,ds,beq_eq_false_iff_ne.mpr (by lia)]
    refine' dN (cU ?o1 ?o2 (eJ ?o3 ?o4 ?o5) dY ?o6) (aG (aG ?o7))
    case o1=>rfl
    case o2=>rfl
    case o3=>rfl
    case o4=>walk_at "e"
    case o5=>exact fq
    case o6=>exact c4
    case o7=>exact a4 _ _ (w3 (by walk_at "h") K3 (y2 _ _ (w4 J (by rw[O];exact l.miss (by lia)) (by rw[O];exact M) H)))
  ·refine aC λU o=>?_;obtain ⟨hf,K,b,c,p,l,A,z⟩:=hJ;rw[Ka,Ka,show (aB (su i)).length=(su i).length from Ka ..,Mn,<- ft] at l A;obtain ⟨g1,g2,g3,g4⟩:=p.at_;refine o ?_;have S6:=p.setI po (nf+j+1);refine' aG (un ?l1 ?l2 dY ?l4 ?l5 (aG ?l6))
   case l1=>walk_at "e"
   case l2=>exact g4
   case l4=>rfl
   case l5=>exact jg p.inst ⟨rfl,Kv rfl⟩ rfl
   case l6=>
    rw[IH];rw[show nf+(j:Int)+1=nf+((j+1:Nat):Int) from Int.add_assoc ..] at S6 ⊢;exact a5 _ _ (w3 hf (K.set (by have:=p.lt.1;lia)) (y2 b c (w4 S6 l A z)))
 ·refine aC λU o=>?_;obtain ⟨hf,K,b,c,p,l,A,_⟩:=hI;refine o ?_;rw[Ka,lg,Mn] at p l A;refine aG (aG (hQ _ _ (w4 rfl rfl K (y2 b c (w3 p (zO T G hn l) (λi C w=>?_))))));rw[A i C w,lD T G hn C];lia
end
end
section
set_option linter.all false
theorem CP {g:Nat->List Nat}{n:Nat}(hn:∀s,s<n->∀x∈g s,x<n):∀{k i:Nat},i<n->Hg g k i->∃l:List Nat,l.Nodup/\(∀x∈l,x<n/\∃j,j<=k/\Hg g j x)/\l.length=k+1:=@nr _ (@λi f h=>⟨[i],w3 (Ma _ _) (λx e=>by rw[Kg.mp e];exact ⟨f,0,KH _,h⟩) rfl⟩) (λk p=>(@λi f h=>by
  obtain ⟨j,t,q⟩:=mE h;obtain ⟨l,r,o,v⟩:=p (hn i f j t) q;refine ⟨i::l,w3 (LM.mpr ⟨λm=>?_,r⟩) (λx e=>?_) (congrArg Nl v)⟩
  ·skip
   obtain ⟨_,a,w,u⟩:=o i m;have:=u.uniq h;lia
  ·rcases Kt.mp e with rfl | e
   ·exact ⟨f,k+1,KH _,h⟩
   ·skip
    obtain ⟨a,b,c,d⟩:=o x e;exact ⟨a,b,P6 c,d⟩))
theorem DW {a:Nat->List Nat}{n k i:Nat}(hn:∀s,s<n->∀x∈a s,x<n) (d:i<n) (h:Hg a k i):k<n:=by
 obtain ⟨l,b,c,f⟩:=CP hn d h;have:=fg b λx e=>(c x e).1;lia
open Classical in
noncomputable def iE (a:Nat->List Nat) (n k:Nat):List Nat:=(Ky n).filter λi=>decide (Hg a k i)
theorem eg {a:Nat->List Nat}{n k i:Nat}:i∈iE a n k<->i<n/\Hg a k i:=by
 classical
 unfold iE;rw[LN,Lw,decide_eq_true_iff]
theorem jT {l:List Nat}(h:l.Pairwise (· < ·)):(aB l).Pairwise (· < ·):=N4 _ (λ_ _ h=>MA.mpr h) h
theorem kW {l:List Nat}(h:l.Nodup):(aB l).Nodup:=N4 _ (λ_ _ h e=>h (LE e)) h
theorem iB {l:List Nat}{x:Int}:x∈aB l<->∃i,i∈l/\(i:Int)=x:=Kr
theorem jp {a:Nat->List Nat}{n k:Nat}:(iE a n k).Pairwise (· < ·):=NK.sublist M3
theorem qW {a:Nat->List Nat}{n k:Nat}{g:List Nat}(G:Grp a n k g):fe (aB g)=aB (iE a n k):=pd (kW G.nod) (jT jp) λx=>by
 rw[iB,iB];exact exists_congr λi=>and_congr_left λ_=>(G.mem i).trans eg.symm
theorem lC {a:Nat->List Nat}{n k:Nat}{g:List Nat}(G:Grp a n k g):g=[]<->iE a n k=[]:=by
 rw[L7,L7];exact forall_congr' λi=>not_congr ((G.mem i).trans eg.symm)
structure Shp (n:Nat) (nd su:Nat->List Nat):Prop where
 le:n<=9
 lt:∀s,s<n->∀x∈nd s,x<n
 tu:gF nd su n
def gg (st:List SObj) (B n N:Nat) (kvs:List (Int×Nat)) (d:Nat->Nat) (a su:Nat->List Nat) (k:Nat) (g:List Nat) (c:Int):Prop:=∃P b R,Rb st B n N kvs d su P b R [] (c+g.length) c/\Grp a n k g/\(∀i∈g,b i = -1)/\Bv a n k b []/\∀x,Wk a k x->P x
def nx (st:List SObj) (B n N:Nat) (kvs:List (Int×Nat)) (d:Nat->Nat) (a su:Nat->List Nat) (k:Nat) (g:List Nat) (b:Int):Prop:=∃P c R,Rb st B n N kvs d su P c R g b b/\Grp a n k g/\(∀i,i<n->Wk a k i->c i=(cnt a k i:Int))/\∀x,Wk a k x->P x
section
variable {st:List SObj}{B n N k f:Nat}{kvs:List (Int×Nat)}{lc:Nat->Nat}{nd su:Nat->List Nat}{g:List Nat}{nf:Int}
theorem gg.grp (H:gg st B n N kvs lc nd su k g nf):Grp nd n k g:=by obtain ⟨_,_,_,_,G,_⟩:=H;exact G
theorem gg.len (H:gg st B n N kvs lc nd su k g nf):g.length<=n:=fg H.grp.nod λx a=>((H.grp.mem x).mp a).1
theorem Rs.redy {a:Nat->Int}{R:Nat}(S:Rs st B n kvs lc nd su k a R g nf nf) (G:Grp nd n k g):nx st B n st.length kvs lc nd su k g nf:=(y3 (Wk nd k) a R (w4 ⟨S.hd,S.inst,S.dict,S.rdy,S.node,S.suc,S.far,(Kd.mp S.dict).1,(Kd.mp S.rdy).1⟩ G S.cnt (λ_ h=>h)))
theorem iy (H:Shp n nd su) (S:nx st B n N kvs lc nd su k g nf):W ((mk (f+24)).call 99 [.loc B] st) (λv s=>v=.d (.tup ((aB g).map .int))/\s.fr=[]/\nJ N st s.st/\gg s.st B n N kvs lc nd su k g nf) noE:=by
 obtain ⟨P,r,R,S,G,C,l⟩:=S;have a:∀i∈g,i<n:=λi c=>((G.mem i).mp c).1;refine (sK (k:=f) S a (Lo (fg G.nod a) (Lo H.le (by decide)))).imp λv s ⟨o,j,p,b,h,e⟩=>w4 o j p (y3 P b R (w5 h G (λi c=>by rw[e,if_pos c]) (λx q w=>?_) l));rw[e,if_neg λm=>((G.mem x).mp m).2.2 w,C x q w.pred];exact (Int.sub_zero _).symm
theorem od (H:Shp n nd su) (S:gg st B n N kvs lc nd su k g nf):W ((mk (f+24)).call 120 (.loc B::(aB g).map λx=>.d (.int x)) st) (λv s=>v=.d .non/\s.fr=[]/\nJ N st s.st/\∃r,nx s.st B n N kvs lc nd su (k+1) r (nf+g.length)) noE:=by
 obtain ⟨P,u,R,S,G,c,l,h⟩:=S;have a:∀i∈g,i<n:=λi e=>((G.mem i).mp e).1;exact (wY (f:=f) S H.tu H.lt G (λi e=>h i ((G.mem i).mp e).2.1) c l H.le (Lo (fg G.nod a) H.le)).imp λv s ⟨q,o,t,b,r,j,p,C⟩=>w4 q o t (y4 r _ b R (w4 j p C (λx w=>⟨h x w.pred,λm=>((G.mem x).mp m).2.2 w⟩)))
theorem kY (S:gg st B n N kvs lc nd su k [] nf):(mk (f+14)).call 106 [.loc B] st=.ok (.d (.bool Vo)) ⟨[],st⟩:=by
 obtain ⟨P,a,R,S,_⟩:=S;rw[show nf+(([]:List Nat).length:Int)=nf from RA _] at S;exact xr S
end
end
section
set_option linter.all false
section
variable {st:List SObj}{l:List D}{is:List Int}
theorem Iw:cc st (.d (.tup l))=Vl (!l.isEmpty):=rfl
theorem rT (h:is.length<64):bI st .sorted [.d (.tup (is.map .int))]=Vl (.lst ((fe is).map .int)):=by
 show Kf ((cR (is.map .int)).bind _) _=_;rw[eh];show Kf (if is.length<64 then _ else _) _=_;rw[if_pos h];rfl
theorem uF:v7 (.d (.tup (is.map .int)))=Vl (is.map λx=>V.d (.int x)):=by
 show Vl ((is.map D.int).map V.d)=_;rw[KC];rfl
theorem A5:bI st .isinstance [.d (.tup l),.d (.bi .tuple)]=Vl (.bool Vn):=rfl
end
noncomputable def gN (a:Nat->List Nat) (n k:Nat):D:=.lst ((aB (iE a n k)).map .int)
noncomputable def dF (a:Nat->List Nat) (n K:Nat):List D:=(Ky K).map (gN a n)
noncomputable abbrev ln:D:=.lst [.tup [],.bool Vn]
def nH (a:Nat->List Nat) (n K:Nat):Prop:=K<=n/\iE a n K=[]/\∀k,k<K->iE a n k≠[]
theorem nY {a:Nat->List Nat}{n K:Nat}:dF a n (K+1)=dF a n K++[gN a n K]:=by
 unfold dF;rw[N9,Kz];rfl
theorem gg.info {st:List SObj}{B n N k:Nat}{kvs:List (Int×Nat)}{a:Nat->Nat}{c su:Nat->List Nat}{g:List Nat}{b:Int}(H:gg st B n N kvs a c su k g b):dQ st B=Vm/\cZ st (.loc B) (sn "done")=Vl 120/\cZ st (.loc B) (sn "get_ready")=Vl 99/\cZ st (.loc B) (sn "is_active")=Vl 106/\∃r,st=.ctab::r:=by
 obtain ⟨P,d,R,S,_⟩:=H;exact w5 (by unfold dQ;rw[S.inst];rfl) ((cB S.inst rfl).trans rfl) ((cB S.inst rfl).trans rfl) ((cB S.inst rfl).trans rfl) S.hd
theorem nx.info {st:List SObj}{B n N k:Nat}{kvs:List (Int×Nat)}{a:Nat->Nat}{c su:Nat->List Nat}{g:List Nat}{b:Int}(H:nx st B n N kvs a c su k g b):dQ st B=Vm/\cZ st (.loc B) (sn "get_ready")=Vl 99:=by
 obtain ⟨P,d,R,S,_⟩:=H;exact ⟨by unfold dQ;rw[S.inst];rfl,(cB S.inst rfl).trans rfl⟩
theorem Rb.app {st q:List SObj}{B n N:Nat}{kvs:List (Int×Nat)}{b:Nat->Nat}{su:Nat->List Nat}{P:Nat->Prop}{d:Nat->Int}{R:Nat}{e:List Nat}{c nf:Int}(S:Rb st B n N kvs b su P d R e c nf):Rb (st++q) B n N kvs b su P d R e c nf:=by
 obtain ⟨r,f⟩:=S.hd;exact ⟨⟨r++q,by rw[f];rfl⟩,aE S.inst,aE S.dict,aE S.rdy,λi a=>⟨(S.node i a).1,aE (S.node i a).2⟩,λi a p=>aE (S.suc i a p),S.far,S.lt⟩
theorem nx.app {st q:List SObj}{B n N k:Nat}{kvs:List (Int×Nat)}{a:Nat->Nat}{b su:Nat->List Nat}{g:List Nat}{nf:Int}(H:nx st B n N kvs a b su k g nf):nx (st++q) B n N kvs a b su k g nf:=by
 obtain ⟨P,c,R,S,h⟩:=H;exact y3 P c R ⟨S.app,h⟩
theorem Rb.beyond {st:List SObj}{B n N q:Nat}{o:SObj}{kvs:List (Int×Nat)}{b:Nat->Nat}{su:Nat->List Nat}{P:Nat->Prop}{d:Nat->Int}{R:Nat}{e:List Nat}{c nf:Int}(S:Rb st B n N kvs b su P d R e c nf) (g:N<=q):Rb (st.set q o) B n N kvs b su P d R e c nf:=by
 have h:=S.lt;refine ⟨?_,bG (by lia) S.inst,bG (by lia) S.dict,bG (by lia) S.rdy,λi a=>⟨(S.node i a).1,bG (by have:=S.lcN a;lia) (S.node i a).2⟩,λi a p=>bG (by have:=S.lcN a;lia) (S.suc i a p),S.far,S.lt⟩;obtain ⟨r,f⟩:=S.hd;exact ve (bG (p:=0) (by lia) (by rw[f];rfl))
theorem gg.beyond {st:List SObj}{B n N k q:Nat}{o:SObj}{kvs:List (Int×Nat)}{a:Nat->Nat}{b su:Nat->List Nat}{g:List Nat}{nf:Int}(H:gg st B n N kvs a b su k g nf) (d:N<=q):gg (st.set q o) B n N kvs a b su k g nf:=by
 obtain ⟨P,c,R,S,h⟩:=H;exact y3 P c R ⟨S.beyond d,h⟩
theorem nJ.at_ {N q:Nat}{st st':List SObj}{o:SObj}(K:nJ N st st') (a:N<=q) (h:st[q]?=Vl o):st'[q]?=Vl o:=(K.2 q a).trans h
section
variable {st:List SObj}{B n N f:Nat}{kvs:List (Int×Nat)}{lc:Nat->Nat}{nd su:Nat->List Nat}{g:List Nat}
theorem qX (H:Shp n nd su) (S:nx st B n N kvs lc nd su 0 g 0) (p:N<=st.length):W ((mk (f+32)).call 323 [.loc B] st) (λv s=>s.fr=[]/\(∃r,s.st=.ctab::r)/\∃K,nH nd n K/\v=.d (.lst (dF nd n K++[ln]))) noE:=by
 refine W.abs λQ T=>?_;refine bX (fd:=aW 323) (us:=[.loc B]) (fr:=aY (sn "sorter") (.loc B) []) rfl rfl rfl rfl rfl ?_;have I:=S.app (q:=[.list []]);refine aC λG l=>?_;obtain ⟨U,l1⟩:=I.info;obtain ⟨v,⟨_,P⟩,e,rfl,hfr,K1,H1⟩:=(iy (f:=f+4) H I).get;refine l ?_;obtain rfl:=show _=[] from hfr
 refine' ee ?a1 ?a2 (dT rfl aL rfl) (bT ?b1 ?b2 (aT (w3 rfl rfl rfl) ?b3 ?b4 (cF ?b5 ?b6 aL (fA ?b7 ?b8))) ?b9)
 case a1=>kernel_rfl
 case a2=>exact ⟨rfl,rfl⟩
 case b1=>kernel_rfl
 case b2=>exact ⟨rfl,rfl⟩
 case b3=>decide
 case b4=>walk_at "e"
 case b5=>exact l1
 case b6=>rfl
 case b7=>kernel_rfl
 case b8=>exact e
 refine' gQ (λu s=>∃k g nf,k+u=n/\jb s.fr [(sn "sorter",.loc B),(sn "groups",.loc st.length),(sn "group",.d (.tup ((aB g).map .int)))]/\gg s.st B n N kvs lc nd su k g nf/\s.st[st.length]?=Vl (.list (dF nd n k))/\∀j,j<k->iE nd n j≠[]) n rfl (by have:=H.le;lia) (y3 0 g 0 (w5 (LY _) ?c1 H1 (K1.at_ p (bH rfl)) nofun)) (λR Z u s hR hZ Y=>?c2)
 case c1=>walk_at "h"
 case c2=>
  refine aC λG l=>?_;obtain ⟨k,g,nf,hk,hf,HH,c,E⟩:=Y;obtain ⟨fr,i⟩:=s;obtain ⟨U,ld,lr,la,M⟩:=HH.info;refine l ?_;have F:=HH.len;have h9:=H.le;cases g with
  | nil=>
   refine' (y2 Vo _ (w3 (uw (Bh (jd ?d1 ?d3))) (λe=>(nomatch e)) (λ_=>?d2)))
   case d1=>walk_at "e"
   case d3=>rfl
   have x:=kY (f:=f+9) HH;have hl:(dF nd n k).length=k:=by unfold dF;rw[Ka,KD]
   have o:=cv (d:=ln) c (by lia);refine' aG (hZ _ _ (cb rfl (aT (w3 rfl rfl rfl) ?e1 ?e2 (aS (bm:=.append) ?e3 ?e4 rfl (aI rfl (mM rfl (aI rfl ?e5 (aI rfl (mX ?e6 ?e7 (aT (w3 rfl rfl rfl) ?e8 ?e9 (cF ?ah ?aa aL (fA ?am ?aj))) AA ?ag) aL)) ?ab) aL) ?ae)) (cg (dR ?af ?ak ?ac) ?ai)))
   case e1=>decide
   case e2=>walk_at "e"
   case e3=>exact cY c
   case e4=>exact db c rfl
   case e5=>walk_at "e"
   case e6=>rfl
   case e7=>rfl
   case e8=>decide
   case e9=>walk_at "e"
   case ah=>exact la
   case aa=>rfl
   case am=>kernel_rfl
   case aj=>exact x
   case ag=>rfl
   case ab=>walk_at "p"
   case ae=>exact o
   case af=>kernel_rfl
   case ak=>walk_at "g"
   case ac=>exact jY (bA c)
   case ai=>
    refine T _ _ (w3 rfl ?_ ⟨k,w3 (by lia) ((lC HH.grp).mp rfl) E,rfl⟩);refine aC λG l=>?_;obtain ⟨r,hr⟩:=M;refine l ?_;exact fb (fb ⟨r,hr⟩ c nofun (y:=.gone)) (bA c) nofun (y:=.gone)
  | cons a g=>
   have tt:cc i (.d (.tup ((aB (a::g)).map .int)))=Vl true:=rfl;have kn:k<n:=DW H.lt (((HH.grp.mem a).mp (.head _)).1) ((HH.grp.mem a).mp (.head _)).2;have hl:(dF nd n k).length=k:=by unfold dF;rw[Ka,KD]
   have so:bI i .sorted [.d (.tup ((aB (a::g)).map .int))]=Vl (gN nd n k):=by
    have:=rT (st:=i) (is:=aB (a::g)) (by rw[show (aB (a::g)).length=(a::g).length from Ka ..];lia);rw[qW HH.grp] at this;exact this
   have o:=cv (d:=gN nd n k) c (by lia);refine aC λG l=>?_;obtain ⟨m,b⟩:∃X,X=i.set st.length (.list (dF nd n k++[gN nd n k])):=⟨_,rfl⟩
   rw[<- b] at o;have C:gg m B n N kvs lc nd su k (a::g) nf:=by rw[b];exact HH.beyond p
   have t:m[st.length]?=Vl (.list (dF nd n (k+1))):=by rw[b,nY];exact bA c
   obtain ⟨a4,w,_,_,_⟩:=C.info;obtain ⟨_,⟨_,O⟩,J,rfl,hfr,K4,r,R4⟩:=(od (f:=f+1) H C).get;obtain rfl:=show _=[] from hfr
   obtain ⟨a3,z⟩:=R4.info;obtain ⟨_,⟨_,L⟩,A,rfl,hfr,K5,H5⟩:=(iy (f:=f) H R4).get;refine l ?_;obtain rfl:=show _=[] from hfr
   refine' (y2 Vn _ (w3 (uw (vI (jd ?g1 ?g0) (vI (je (dH (d:=.bi .isinstance) ?g2 ?g3 ?g4 (rC ?g5 ?g6 ?g7 A5)) fG) Bj))) (λ_=>?g8) (λe=>nomatch e)))
   case g1=>walk_at "e"
   case g0=>exact tt
   case g2=>rfl
   case g3=>rfl
   case g4=>kernel_rfl
   case g5=>kernel_rfl
   case g6=>kernel_rfl
   case g7=>walk_at "e"
   refine' cb rfl (aT (w3 rfl rfl rfl) ?h1 ?h2 (aS (bm:=.append) ?h3 ?h4 rfl (aI rfl ?h5 aL) ?h6)) (cb rfl (aT (w3 rfl rfl rfl) ?i1 ?i2 (cF ?i3 ?i4 (ug rfl ?i5 uF) (fA ?i6 ?i7))) (bT ?j1 ?j2 (aT (w3 rfl rfl rfl) ?j3 ?j4 (cF ?j5 ?j6 aL (fA ?j7 ?j8))) (aG ?j9)))
   case h1=>decide
   case h2=>walk_at "e"
   case h3=>exact cY c
   case h4=>exact db c rfl
   case h5=>walk_at "e"
   case h6=>exact o
   case i1=>decide
   case i2=>walk_at "e"
   case i3=>exact w
   case i4=>rfl
   case i5=>walk_at "e"
   case i6=>kernel_rfl
   case i7=>exact J
   case j1=>kernel_rfl
   case j2=>exact ⟨rfl,rfl⟩
   case j3=>decide
   case j4=>walk_at "e"
   case j5=>exact z
   case j6=>rfl
   case j7=>kernel_rfl
   case j8=>exact A
   case j9=>
    refine hR _ _ ⟨u-1,by lia,y3 (k+1) r _ (w5 (by lia) (by walk_at "h") H5 (K5.at_ p (K4.at_ p t)) (λj hj=>?_))⟩;rcases My.mp hj with h | h
    ·exact E j h
    ·rw[h];exact λq=>nomatch (lC HH.grp).mpr q
end
end
section
set_option linter.all false
theorem qU {t:Thing9}(h:t.Good):(nD t.mode==16384)=fP t:=by
 rw[ob h];unfold fP;rcases h.kind with e | e | e | e | e | e<;>rw[e]<;>rfl
noncomputable def nuK (kvs:List (Int×D)) (i:Nat):Nat:=(((aF (i:Int) kvs).bind D.int?).getD 0).toNat
structure Keep (ts:List Thing9) (P:List Nat) (rows:List Row) (kvs:List (Int×D)):Prop where
 keys:kvs.map (·.1)=aB P
 nod:P.Nodup
 at_:∀i∈P,∃t,ts[i]?=Vl t/\aF (i:Int) kvs=Vl (.int (nuK kvs i:Int))/\rows[nuK kvs i]?=Vl (bS (nuK kvs) t)/\(fP t=Vn->∀x∈t.inner,x.toNat∈P/\nuK kvs x.toNat<nuK kvs i)
 once:rows.Nodup
 all:∀r,r<rows.length->∃i,i∈P/\nuK kvs i=r
section
variable {ts:List Thing9}{P:List Nat}{rows:List Row}{kvs:List (Int×D)}{p r:Nat}{t:Thing9}
theorem Cm {d:D}(h:aF (p:Int) kvs=Vm){i:Nat}(b:i≠p):nuK (kvs++[((p:Int),d)]) i=nuK kvs i:=by
 unfold nuK;rw[dD];cases e:aF (i:Int) kvs with
 | some a=>rfl
 | none=>rw[show aF (i:Int) [((p:Int),d)]=Vm from if_neg λ(q:(p:Int)=i)=>b (LE q).symm];rfl
theorem Cl (h:aF (p:Int) kvs=Vm):aF (p:Int) (kvs++[((p:Int),.int (r:Int))])=Vl (.int (r:Int))/\nuK (kvs++[((p:Int),.int (r:Int))]) p=r:=by
 have e:aF (p:Int) (kvs++[((p:Int),D.int (r:Int))])=Vl (.int (r:Int)):=by
  rw[dD,h];exact if_pos rfl
 refine ⟨e,?_⟩;unfold nuK;rw[e];rfl
theorem wH {f g:Nat->Nat}(h:fP t=Vn->∀x∈t.inner,f x.toNat=g x.toNat):inn f t=inn g t:=by
 unfold inn;cases q:fP t with
 | false=>rfl
 | true=>exact LK λx a=>by rw[h q x a]
theorem Keep.rows_le (K:Keep ts P rows kvs){n:Nat}(f:∀x∈P,x<n):rows.length<=n:=by
 have:∀n,n<=rows.length->∃l:List Nat,l.Nodup/\(∀x∈l,x∈P/\nuK kvs x<n)/\l.length=n:=λn=>by
  induction n with
  | zero=>exact λ_=>⟨[],w3 .nil (λ_ h=>(nomatch h)) rfl⟩
  | succ n j=>
   intro p;refine aC λg a=>?_;obtain ⟨l,d,c,e⟩:=j (by lia);obtain ⟨i,k,o⟩:=K.all n (by lia);refine a ?_;refine ⟨i::l,w3 (LM.mpr ⟨λm=>by have:=(c i m).2;lia,d⟩) (λx b=>?_) (congrArg Nl e)⟩;rcases Kt.mp b with rfl | b
   ·exact ⟨k,by lia⟩
   ·exact ⟨(c x b).1,by have:=(c x b).2;lia⟩
 refine aC λg a=>?_;obtain ⟨l,d,c,e⟩:=this rows.length (KH _);refine a ?_;rw[<- e];exact fg d λx b=>f x (c x b).1
theorem Keep.lt (K:Keep ts P rows kvs){i:Nat}(h:i∈P):nuK kvs i<rows.length:=by
 obtain ⟨_,_,_,e,_⟩:=K.at_ i h;exact (Kd.mp e).1
theorem Keep.ok (K:Keep ts P rows kvs) (c:∀x∈P,x<9) (G:t.Good) (b:fP t=Vn->∀x∈t.inner,x.toNat∈P):∀x∈inn (nuK kvs) t,bK x:=λx a=>by
 have:=K.rows_le c;unfold inn at a;unfold bK;cases q:fP t with
 | false=>rw[q] at a;have:=G.inner.2 x a;lia
 | true=>
  rw[q] at a;obtain ⟨y,d,rfl⟩:=Kr.mp a;have:=K.lt (b q y d);lia
theorem Keep.step (H:∀t∈ts,t.Good) (K:Keep ts P rows kvs) (O:∀x∈P,x<9) (J:ts[p]?=Vl t) (w:p∉P) (f:fP t=Vn->∀x∈t.inner,x.toNat∈P){c:List Row}(o:c=rows\/bS (nuK kvs) t∉rows/\c=rows++[bS (nuK kvs) t]) (g:c[r]?=Vl (bS (nuK kvs) t)):Keep ts (P++[p]) c (kvs++[((p:Int),.int (r:Int))]):=by
 have G:=H t (Kl J);have F:aF (p:Int) kvs=none:=fC.mpr (by
  rw[K.keys];exact λm=>by obtain ⟨i,hi,e⟩:=Kr.mp m;exact w (LE e▸hi))
 obtain ⟨n1,v⟩:=Cl (r:=r) F;have j:∀{i:Nat},i∈P->nuK (kvs++[((p:Int),.int (r:Int))]) i=nuK kvs i:=λ{i} hi=>Cm F λe=>w (e▸hi);have Y:∀{i:Nat}{x:Row},rows[i]?=Vl x->c[i]?=Vl x:=λ{i x} h=>by
  rcases o with e | ⟨_,e⟩
  ·rw[e];exact h
  ·rw[e];exact (Kx (Kd.mp h).1).trans h
 have M:∀{u:Thing9},(fP u=Vn->∀x∈u.inner,x.toNat∈P)->bS (nuK (kvs++[((p:Int),.int (r:Int))])) u=bS (nuK kvs) u:=λ{u} h=>by
  unfold bS;rw[wH λq x d=>j (h q x d)]
 refine ⟨by rw[Kz,K.keys];unfold aB;rw[Kz];rfl,Lu.mpr (w3 K.nod (Ma _ _) (λa E b z e=>w (by rw[<- Kg.mp z,<- e];exact E))),λi hi=>?_,?_,λs hs=>?_⟩
 ·rcases Ku.mp hi with hi | hi
  ·skip
   obtain ⟨u,C,N,n,k⟩:=K.at_ i hi;refine ⟨u,w4 C ?_ ?_ (λq x d=>?_)⟩
   ·rw[j hi,dD,N];rfl
   ·rw[j hi,M λq x d=>(k q x d).1];exact Y n
   ·rw[j hi,j (k q x d).1];exact ⟨L2 _ (k q x d).1,(k q x d).2⟩
  ·refine rp (Kg.mp hi) ?_;refine ⟨t,w4 J (by rw[v];exact n1) (by rw[v,M f];exact g) (λq x d=>⟨L2 _ (f q x d),?_⟩)⟩;rw[v,j (f q x d)];rcases o with e | ⟨nr,e⟩
   ·rw[e] at g;obtain ⟨i,hi,e4⟩:=K.all r (Kd.mp g).1;obtain ⟨u,C,N,n,k⟩:=K.at_ i hi;rw[e4] at n;have L:=J9 (g.symm.trans n);have R:=congrArg Prod.fst L;have S:aR (inn (nuK kvs) t)=aR (inn (nuK kvs) u):=congrArg Prod.snd L;have Q:=H u (Kl C);have I:fP u=true:=(jH G Q R).symm.trans q;have l:=nO (K.ok O G f) (K.ok O Q λq x d=>(k q x d).1) S;unfold inn at l;rw[q,I] at l;have l:(t.inner.map λx=>(nuK kvs x.toNat:Int))=u.inner.map λx=>(nuK kvs x.toNat:Int):=l;have m:((nuK kvs x.toNat:Nat):Int)∈t.inner.map λx=>(nuK kvs x.toNat:Int):=Kr.mpr ⟨x,d,rfl⟩;rw[l] at m;obtain ⟨y,U,e8⟩:=Kr.mp m;have:=(k I y U).2;lia
   ·have T:=K.lt (f q x d);have:¬r<rows.length:=λh=>nr (by
     rw[e,Kx h] at g;exact Kl g)
    lia
 ·rcases o with e | ⟨nr,e⟩
  ·rw[e];exact K.once
  ·rw[e];exact Lu.mpr (w3 K.once (Ma _ _) (λa E b z e=>nr (by rw[<- Kg.mp z,<- e];exact E)))
 ·by_cases h:s<rows.length
  ·skip
   obtain ⟨i,hi,e⟩:=K.all s h;exact ⟨i,L2 _ hi,by rw[j hi];exact e⟩
  ·rcases o with e | ⟨nr,e⟩
   ·rw[e] at hs;exact absurd hs h
   ·refine ⟨p,Li _ (.head _),?_⟩;rw[v];have A:=(Kd.mp g).1;rw[e,Kj] at A hs;have:¬r<rows.length:=λh=>nr (by
     rw[e,Kx h] at g;exact Kl g)
    have T:[bS (nuK kvs) t].length=1:=rfl;lia
end
end
section
set_option linter.all false
section
variable {st:List SObj}{l:Nat}{i:Int}{d e:D}{kvs:List (Int×D)}{k:Nat}{cx:Cx}{s s1:St}{t it elt:Kb}{ifs:List Kb}{scope:OI}{pos:Pos}{v:V}{st':List SObj}{α:Type}{f:α->V}{h:α->Option D}{ps:List α}
theorem Ff (h:st[l]?=Vl (.dict kvs)):iW st .get (.loc l) [.d (.int i),.d e]=Vl (.d ((aF i kvs).getD e),st):=by
 show KG _ (Kf Vm (KG _ (Kf Vm ((st[l]?).bind _))))=_;rw[h];rfl
theorem iK {F1:List (Str×V)}{T1:List SObj}(c:dM cx it ifs scope) (a:((mk k).ev cx it).f s=.ok v ⟨F1,T1⟩) (b:cS T1 v=Vl (ps.map f,st')) (hz:ps.length<=100000) (e:∀p∈ps,jx k (dW cx scope) t elt ifs (ef scope.names F1) st' (f p) (h p)):((mk (k+1)).ev cx (.ListComp elt [⟨t,it,ifs,0⟩] scope pos)).f s=.ok (.d (.lst (ps.filterMap h))) ⟨F1,st'⟩:=aK (kH (pos:=pos) c a b hz e) rfl
end
theorem vq {a b:Row}:fE 3 (cA a) (cA b)=Vl (decide (a=b)):=by
 show Vl ((a.1==b.1)&&((a.2==b.2)&&Vn))=_;rw[PG]
 congr 1
 exact LO.mpr ⟨λe=>by
  obtain ⟨d,c⟩:=Kk.mp e;exact decide_eq_true (Tg (eq_of_beq d) (eq_of_beq c)),λe=>by
  rw[of_decide_eq_true e,beq_self_eq_true,beq_self_eq_true];rfl⟩
theorem vo {a:Row}:∀{L:List Row},vp (cA a) (L.map cA)=Vl (L.map λb=>decide (b=a)):=@lr _ _ (rfl) (λb L c=>by
  show Lj (fE 3 (cA b) (cA b)) (λ_=>Lj (fE 3 (cA b) (cA a)) λx=>(vp (cA a) (L.map cA)).map λy=>x::y)=_;rw[vq,vq,c];rfl)
section
variable {st:List SObj}{l:Nat}{a:Row}{L:List Row}
theorem wm (h:st[l]?=Vl (.list (L.map cA))):bV st .NotIn (.d (cA a)) (.loc l)=Vl (!decide (a∈L)):=by
 show KG _ (Kf (Lj (Kf Vm ((st[l]?).bind _)) _) _)=_;rw[h];show KG _ (Kf ((vp (cA a) (L.map cA)).map λf=>f.any id) _)=_;rw[vo];show Vl (!(L.map λb=>decide (b=a)).any id)=_
 congr 2
 rw[Rl,LO,List.any_eq_true,decide_eq_true_iff];exact ⟨λ⟨x,c,e⟩=>of_decide_eq_true (p:=x=a) e▸c,λh=>⟨a,h,decide_eq_true rfl⟩⟩
theorem wI (h:st[l]?=Vl (.list (L.map cA))) (e:a∈L):∃r:Nat,L[r]?=Vl a/\iW st .index (.loc l) [.d (cA a)]=Vl (.d (.int (r:Int)),st):=by
 cases q:L.findIdx? λb=>decide (b=a) with
 | none=>exact absurd (decide_eq_true (rfl:a=a)) (by have:=OD.mp q a e;rw[this];decide)
 | some r=>
  obtain ⟨c,f,_⟩:=Mc.mp q;refine ⟨r,by rw[Ki c,of_decide_eq_true f],?_⟩;show Lj (Kf Vm ((st[l]?).bind _)) _=_;rw[h];show KG _ ((vp (cA a) (L.map cA)).bind λg=>g.findIdx? id)=_;rw[vo];show KG _ ((L.map λb=>decide (b=a)).findIdx? id)=_;rw[SE];show KG _ (L.findIdx? λb=>decide (b=a))=_;rw[q];rfl
end
theorem tV {is:List Int}(h:∀x∈is,bK x):il (aR is)=is.map .int:=by
 unfold il aR;rw[KC];exact LK λx a=>by
  show D.int _=_;rw[hG (h x a)]
theorem xL {st:List SObj}{is:List Int}(h:∀x∈is,bK x):cS st (.d (.bytes (aR is)))=Vl (is.map λx=>V.d (.int x),st):=by
 show Vl ((il (aR is)).map V.d,st)=_;rw[tV h,KC];rfl
theorem El {F1:List (Str×V)}{T1:List SObj}{k:Nat}{cx:Cx}{s:St}{Q:Fl->St->Prop}{E:D->List D->St->Prop}{n:List Stmt}{i g j:Str}{r u o p pos:Pos}{m:Nat}{e:Kb}{a b c:D}(w:hX e=Vo/\jq e=Vo/\cx.inH=Vo) (h0:(bC (cx.names.lookup i)&&(bC (cx.names.lookup g)&&bC (cx.names.lookup j)))=Vn) (h:((mk k).ev cx e).f s=.ok (.d (.lst [a,b,c])) ⟨F1,T1⟩) (q:W (((mk k).xs cx n).f ⟨aY j (.d c) (aY g (.d b) (aY i (.d a) F1)),T1⟩) Q E):W (((mk (k+1)).xs cx (.Assign [.Tuple [.Name i r,.Name g u,.Name j o] m p] e pos::n)).f s) Q E:=by
 obtain ⟨v,l⟩:=Kk.mp h0;obtain ⟨l,t⟩:=Kk.mp l;exact ul w h (dZ (aQ v (aQ l (aQ t eA)))) q
noncomputable def Jy:Stmt->List Stmt
 | .For _ _ b _ _=>b
 | .While _ b _ _=>b
 | .Try b _ _ _ _=>b
 | .If _ b _ _=>b
 | _=>[]
noncomputable def DQ:List Stmt:=Jy ((Jy ((dA (aW 316)).getD 4 (.Pass ⟨0,0,0,0⟩))).getD 1 (.Pass ⟨0,0,0,0⟩))
section
variable {st:List SObj}{B L n k p:Nat}{ts:List Thing9}{P:List Nat}{rows:List Row}{kvs:List (Int×D)}{fr:List (Str×V)}{g:V}{t:Thing9}{Φ:List SObj->Prop}
theorem sQ (h9:ts.length=9) (hg:∀t∈ts,t.Good) (K:Keep ts P rows kvs) (F:∀x∈P,x<9) (O:ts[p]?=Vl t) (np:p∉P) (z:fP t=Vn->∀x∈t.inner,x.toNat∈P) (hd:∃r,st=.ctab::r) (u:st[L+1]?=Vl (.dict kvs)) (l:st[L+2]?=Vl (.list (rows.map cA))) (hΦ:∀st q o,q=L+1\/q=L+2->Φ st->Φ (st.set q o)) (H:Φ st) (Q:jb fr [(sn "sorter",.loc B),(sn "groups",.loc L),(sn "group",g),(sn "given",.d (.lst (ts.map Thing9.gd))),(sn "number",.loc (L+1)),(sn "rows",.loc (L+2))]):W (((mk (k+38)).xs (gP (aW 316)) DQ).f ⟨aY (sn "place") (.d (.int (p:Int))) fr,st⟩) (λf s=>f=.next/\jb s.fr [(sn "sorter",.loc B),(sn "groups",.loc L),(sn "group",g),(sn "given",.d (.lst (ts.map Thing9.gd))),(sn "number",.loc (L+1)),(sn "rows",.loc (L+2))]/\Φ s.st/\(∃r,s.st=.ctab::r)/\∃b w,Keep ts (P++[p]) b w/\s.st[L+1]?=Vl (.dict w)/\s.st[L+2]?=Vl (.list (b.map cA))) noE:=by
 have G:=hg t (Kl O);have m0:0<=t.mode:=by
  unfold Thing9.mode;have:=G.high;have:=G.rights;have:0<=t.kind:=by rcases G.kind with e | e | e | e | e | e<;>rw[e]<;>decide
  lia
 have h1:(ts.map Thing9.gd)[p]?=Vl t.gd:=by rw[Ks,O];rfl
 have d1:dI ((mk (k+18+16)).call 197 [.d (.int t.mode)] [.ctab])=Vl (.bool (fP t)):=by rw[<- qU G];exact mx m0
 refine aC λGz n=>?_;obtain ⟨dd,Y,M⟩:=cW (nE (k:=k+3) m0);rw[M,yX G] at Y;have I:=K.ok F G z;have K9:=K.rows_le F;obtain ⟨r0,v⟩:=hd;refine n ?_;refine' El ?a1 ?a2 (gz rfl ?a3 ?a4 (zJ h1)) (xF (c:=fP t) (λfr A=>A=st/\jb fr [(sn "sorter",.loc B),(sn "groups",.loc L),(sn "group",g),(sn "given",.d (.lst (ts.map Thing9.gd))),(sn "number",.loc (L+1)),(sn "rows",.loc (L+2))]/\jb fr [(sn "mode",.d (.int t.mode)),(sn "inner",.d (.bytes (aR (inn (nuK kvs) t)))),(sn "place",.d (.int (p:Int)))]) (je (cQ 197 ?b1 ?b2 ?b3 ?b4 ?b5 ?b6 ?b7 ?b8 ?c4 ?c5) fG) (λq=>?b9) (λq=>?c1) λfr A R=>?c3)
 case a1=>exact w3 rfl rfl rfl
 case a2=>kernel_rfl
 case a3=>walk_at "e"
 case a4=>walk_at "e"
 case b1=>rfl
 case b2=>rfl
 case b3=>kernel_rfl
 case b4=>exact ⟨rfl,rfl⟩
 case b5=>rfl
 case b6=>walk_at "e"
 case b7=>kernel_rfl
 case b8=>walk_at "d"
 case c4=>exact d1
 case c5=>exact v
 case c1=>
  have e:inn (nuK kvs) t=t.inner:=by
   unfold inn;rw[q];rfl
  rw[e];exact aG (w4 rfl rfl (by walk_at "h") (by walk_at "h"))
 case b9=>
  have hb:bI st .bytes [.d (.lst (t.inner.filterMap λx=>Vl (D.int (nuK kvs x.toNat:Int))))]=Vl (.bytes (aR (inn (nuK kvs) t))):=by
   rw[dE];have e:(t.inner.map λx=>D.int (nuK kvs x.toNat:Int))=(inn (nuK kvs) t).map .int:=by
    unfold inn;rw[q];rw[KC];rfl
   rw[e];refine im (eh _) ⟨?_,I⟩;have:=G.inner.1;unfold inn;rw[q];rw[Ka];lia
  have hw:=xL (st:=st) (is:=t.inner) λx E=>by have:=G.inner.2 x E;unfold bK;lia
  refine' bT ?e1 ?e2 (dH (d:=.bi .bytes) ?e3 ?e4 ?e5 (rC ?e6 ?e7 (aI rfl (cE ?e8 (iK (f:=λx:Int=>V.d (.int x)) (h:=λx=>Vl (D.int (nuK kvs x.toNat:Int))) (ps:=t.inner) ?e9 ?ai ?aa ?aq (λx E=>?ah))) aL) ?ab)) (aG ?ag)
  case e1=>kernel_rfl
  case e2=>exact ⟨rfl,rfl⟩
  case e3=>rfl
  case e4=>rfl
  case e5=>kernel_rfl
  case e6=>kernel_rfl
  case e7=>kernel_rfl
  case e8=>rfl
  case e9=>exact w4 rfl rfl rfl (by decide)
  case ai=>walk_at "e"
  case aa=>exact hw
  case aq=>have:=G.inner.1;lia
  case ah=>
   have U:=(G.inner.2 x E).1;refine aC λGz n=>?_;obtain ⟨_,_,lk,_⟩:=K.at_ x.toNat (z q x E);refine n ?_;rw[Ny U] at lk;have hm:iW st .get (.loc (L+1)) [.d (.int x),.d (.int 255)]=Vl (.d (.int (nuK kvs x.toNat:Int)),st):=by rw[Ff u,lk];rfl
   refine gw rfl ?_;refine' W.of (aT (w3 rfl rfl rfl) ?f1 ?f2 (aS (bm:=.get) ?f3 ?f4 rfl (aI rfl ?f5 (aI rfl dY aL)) ?f6)) ?f7
   case f1=>decide
   case f2=>walk_at "e"
   case f3=>exact eM u rfl
   case f4=>exact eN u rfl
   case f5=>walk_at "e"
   case f6=>exact hm
   case f7=>exact ⟨rfl,_,rfl,rfl⟩
  case ab=>exact hb
  case ag=>exact w4 rfl rfl (by walk_at "h") (by walk_at "h")
 case c3=>
  obtain ⟨rfl,Q,S⟩:=R;have C:=wm (a:=bS (nuK kvs) t) l;refine' bT ?g1 ?g2 (mM rfl (aI rfl (cQ 237 ?g3 ?g4 ?g5 ?g6 ?g7 ?g8 ?g9 ?am ?ae ?ak) (aI rfl ?aj aL)) ?ao) ?af
  case g1=>kernel_rfl
  case g2=>exact ⟨rfl,rfl⟩
  case g3=>rfl
  case g4=>rfl
  case g5=>kernel_rfl
  case g6=>exact ⟨rfl,rfl⟩
  case g7=>rfl
  case g8=>walk_at "e"
  case g9=>kernel_rfl
  case am=>walk_at "d"
  case ae=>exact Y
  case ak=>exact v
  case aj=>walk_at "e"
  case ao=>walk_at "p"
  case af=>
   have T:aF (p:Int) kvs=none:=fC.mpr (by
    rw[K.keys];exact λm=>by obtain ⟨i,hi,e⟩:=Kr.mp m;exact np (LE e▸hi))
   have a5:kvs.length<=9:=by
    have e:=congrArg Ql K.keys;rw[Ka,show (aB P).length=P.length from Ka ..] at e;have:=fg K.nod F;lia
   refine' xF (c:=!decide (bS (nuK kvs) t∈rows)) (λfr j=>jb fr [(sn "sorter",.loc B),(sn "groups",.loc L),(sn "group",g),(sn "given",.d (.lst (ts.map Thing9.gd))),(sn "number",.loc (L+1)),(sn "rows",.loc (L+2))]/\jb fr [(sn "row",.d (cA (bS (nuK kvs) t))),(sn "place",.d (.int (p:Int)))]/\Φ j/\(∃r,j=.ctab::r)/\j[L+1]?=Vl (.dict kvs)/\∃b,(b=rows\/bS (nuK kvs) t∉rows/\b=rows++[bS (nuK kvs) t])/\bS (nuK kvs) t∈b/\j[L+2]?=Vl (.list (b.map cA))) ?h1 (λq=>?h2) (λq=>?h3) λfr j R=>?h4
   case h1=>exact BT (op:=.NotIn) rfl rfl (fY rfl aU) (gy rfl (by walk_at "g")) C
   case h3=>
    have m:bS (nuK kvs) t∈rows:=of_decide_eq_true ((Bool.not_eq_false' _).mp q);exact aG (w7 rfl (by walk_at "h") (tf aU (by walk_at "h")) H ⟨r0,v⟩ u ⟨rows,w3 (.inl rfl) m l⟩)
   case h2=>
    have m:bS (nuK kvs) t∉rows:=of_decide_eq_false ((KL _).mp q);have ap:=cv (d:=cA (bS (nuK kvs) t)) l (by rw[Ka];lia);refine' cb rfl (aT (w3 rfl rfl rfl) ?i1 ?i2 (aS (bm:=.append) ?i3 ?i4 rfl (aI rfl ?i5 aL) ?i6)) (aG ?i7)
    case i1=>decide
    case i2=>walk_at "e"
    case i3=>exact cY l
    case i4=>exact db l rfl
    case i5=>exact fY rfl aU
    case i6=>exact ap
    case i7=>exact w7 rfl (by walk_at "h") (tf aU (by walk_at "h")) (hΦ _ _ _ (.inr rfl) H) (fb (y:=.gone) ⟨r0,v⟩ l nofun) (aP u l nofun) ⟨_,w3 (.inr ⟨m,rfl⟩) (Li _ (.head _)) (by rw[Kz];exact bA l)⟩
   case h4=>
    refine aC λGz n=>?_;obtain ⟨Q,S,H,J,u,b,hr,mr,l⟩:=R;obtain ⟨r,er,ix⟩:=wI l mr;refine n ?_;have N:eD j (.loc (L+1)) (p:Int) (.d (.int (r:Int)))=Vl (j.set (L+1) (.dict (kvs++[((p:Int),.int (r:Int))]))):=by
     rw[uD u (by lia),lY T]
    refine' xE rfl (aT (w3 rfl rfl rfl) ?j1 ?j2 (aS (bm:=.index) ?j3 ?j4 rfl (aI rfl ?j5 aL) ?j6)) ?j7 ?j8 ?j9 (aG ?ac)
    case j1=>decide
    case j2=>walk_at "e"
    case j3=>exact cY l
    case j4=>exact db l rfl
    case j5=>walk_at "e"
    case j6=>exact ix
    case j7=>walk_at "e"
    case j8=>walk_at "e"
    case j9=>exact N
    case ac=>exact w5 rfl Q (hΦ _ _ _ (.inl rfl) H) (fb (y:=.gone) J u nofun) (y2 b _ (w3 (K.step hg F O np z hr er) (bA u) (aP l u nofun)))
end
end
section
set_option linter.all false
theorem zT {st:List SObj}{l:Nat}{ds:List (Int×D)}(e:st[l]?=Vl (.dict ds)):dQ st l=Vl (.dct ds,st.set l .gone):=by
 unfold dQ;rw[e];rfl
noncomputable abbrev Ib (B L:Nat) (g:V) (ts:List Thing9):List (Str×V):=[(sn "sorter",.loc B),(sn "groups",.loc L),(sn "group",g),(sn "given",.d (.lst (ts.map Thing9.gd))),(sn "number",.loc (L+1)),(sn "rows",.loc (L+2))]
section
variable {st:List SObj}{B N L f k:Nat}{ts:List Thing9}{kv:List (Int×Nat)}{lc:Nat->Nat}{su:Nat->List Nat}{g P:List Nat}{nf:Int}{rows:List Row}{kvs:List (Int×D)}{fr:List (Str×V)}
theorem wh (h9:ts.length=9) (O:∀t∈ts,t.Good) (HH:gg st B 9 N kv lc (ndOf (needsOf ts)) su k g nf) (hN:N<=L){r:List D}(S:st[L]?=Vl (.list r)) (l:st[L+1]?=Vl (.dict kvs)) (c:st[L+2]?=Vl (.list (rows.map cA))) (K:Keep ts P rows kvs) (J:∀i,i∈P<->i<9/\¬Wk (ndOf (needsOf ts)) k i) (e:jb fr (Ib B L (.d (.tup ((aB g).map .int))) ts)){t:Kb}{body:List Stmt}(U:body=DQ) (bt:∀v,dB (gP (aW 316)) t v=Vl [(sn "place",v)]){Q:Fl->St->Prop}(q:∀s rows kvs,jb s.fr (Ib B L (.d (.tup ((aB g).map .int))) ts)->gg s.st B 9 N kv lc (ndOf (needsOf ts)) su k g nf->s.st[L]?=Vl (.list r)->s.st[L+1]?=Vl (.dict kvs)->s.st[L+2]?=Vl (.list (rows.map cA))->Keep ts (P++g) rows kvs->Q .next s):W (iS (mk (f+38)) (gP (aW 316)) t body [] (((aB g).map D.int).map .d) ⟨fr,st⟩) Q noE:=by
 refine rp U ?_;have G:=HH.grp;refine oI (I:=λj s=>jb s.fr (Ib B L (.d (.tup ((aB g).map .int))) ts)/\(gg s.st B 9 N kv lc (ndOf (needsOf ts)) su k g nf/\s.st[L]?=Vl (.list r))/\∃rows kvs,Keep ts (P++g.take j) rows kvs/\s.st[L+1]?=Vl (.dict kvs)/\s.st[L+2]?=Vl (.list (rows.map cA))) 0 (w3 e ⟨HH,S⟩ (y2 rows kvs (w3 (by rw[QJ,LC];exact K) l c))) (λj v s H u=>?_) λs u=>?_
 ·rw[LY] at u ⊢;refine aC λz b=>?_;obtain ⟨e,n,rows,kvs,K,l,c⟩:=u;unfold aB at H;rw[KC,KC,Ks] at H;obtain ⟨p,F,Y⟩:=KV.mp H;obtain rfl:V.d (.int (p:Int))=v:=Y;have mp:=Kl F;obtain ⟨p9,R⟩:=(G.mem p).mp mp;obtain ⟨t,A⟩:∃t,ts[p]?=Vl t:=⟨_,Ki (by lia)⟩
  refine b ?_;have E:p∉g.take j:=λm=>by
   refine aC λz b=>?_;obtain ⟨a,M⟩:=K0.mp m;refine b ?_;have hl:=(Kd.mp M).1;rw[Lr] at hl;rw[Sj,if_pos (by lia)] at M;have:=(PW (by lia) G.nod).mp (M.trans F.symm);lia
  have T:p∉P++g.take j:=λm=>(Ku.mp m).elim (λm=>((J p).mp m).2 R.1) E;have y:∀x∈P++g.take j,x<9:=λx w=>(Ku.mp w).elim (λm=>((J x).mp m).1) λm=>((G.mem x).mp (MB m)).1;have C:fP t=Vn->∀x∈t.inner,x.toNat∈P++g.take j:=λq x w=>by
   have a1:=(O t (Kl A)).inner.2 x w;refine L2 _ ((J _).mpr ⟨by lia,CO R.2 ?_⟩);rw[mn A,show (t.kind==4)=Vn from q];exact Kr.mpr ⟨x,w,rfl⟩
  refine ⟨_,bt _,(sQ (k:=f) (Φ:=λst=>gg st B 9 N kv lc (ndOf (needsOf ts)) su k g nf/\st[L]?=Vl (.list r)) h9 O K y A T C n.1.info.2.2.2.2 l c (λst q o hq h=>⟨h.1.beyond (by lia),bG (by lia) h.2⟩) n e).imp λfl s h=>?_⟩;refine aC λz b=>?_;obtain ⟨rfl,e,n,_,rows',kvs',K',l,c⟩:=h;refine b ?_;refine w3 e n (y2 rows' kvs' (w3 ?_ l c));rw[La,F,<- KT];exact K'
 ·refine aC λz b=>?_;obtain ⟨e,n,rows,kvs,K,l,c⟩:=u;refine b ?_;rw[LY,Ka,Ka,show (aB g).length=g.length from Ka ..,Mn] at K;exact aG (q s rows kvs e n.1 n.2 l c K)
end
theorem oq {k q:Nat}{cx:Cx}{s:St}{p:Pos}(h:s.st.length=q):(wO (mk k) cx (.List [] p)).f s=.ok (.loc q) ⟨s.fr,s.st++[.list []]⟩:=by
 rw[<- h];exact dT rfl aL rfl
theorem tI {k q:Nat}{cx:Cx}{s:St}{p:Pos}(h:s.st.length=q):(wO (mk k) cx (.Dict [] [] p)).f s=.ok (.loc q) ⟨s.fr,s.st++[.dict []]⟩:=by
 rw[<- h];exact mU
theorem zr {ts:List Thing9}:Keep ts [] [] []:=⟨rfl,.nil,λ_ h=>(nomatch h),.nil,λ_ h=>absurd h (L5 _)⟩
def HZ (ts:List Thing9) (v:V):Prop:=∃K P rows kvs,nH (ndOf (needsOf ts)) 9 K/\Keep ts P rows kvs/\(∀i,i∈P<->i<9/\¬Wk (ndOf (needsOf ts)) K i)/\v=.d (.tup [.lst (dF (ndOf (needsOf ts)) 9 K++[ln]),.dct kvs,.lst (rows.map cA)])
section
variable {st:List SObj}{B N f:Nat}{ts:List Thing9}{kv:List (Int×Nat)}{lc:Nat->Nat}{su:Nat->List Nat}{g:List Nat}
set_option maxHeartbeats 2000000 in
theorem wD (h9:ts.length=9) (hg:∀t∈ts,t.Good) (H:Shp 9 (ndOf (needsOf ts)) su) (S:nx st B 9 N kv lc (ndOf (needsOf ts)) su 0 g 0) (C:N<=st.length):W ((mk (f+50)).call 316 [.loc B,.d (.lst (ts.map Thing9.gd))] st) (λv s=>s.fr=[]/\(∃r,s.st=.ctab::r)/\HZ ts v) noE:=by
 refine W.abs λQ hQ=>?_;refine bX (fd:=aW 316) (us:=[.loc B,.d (.lst (ts.map Thing9.gd))]) (fr:=aY (sn "given") (.d (.lst (ts.map Thing9.gd))) (aY (sn "sorter") (.loc B) [])) rfl rfl rfl rfl rfl ?_;have S1:=((S.app (q:=[.list []])).app (q:=[.dict []])).app (q:=[.list []]);refine aC λK l=>?_;obtain ⟨p,b⟩:∃X,X=((st++[.list []])++[.dict []])++[.list []]:=⟨_,rfl⟩
 have L:(st++[SObj.list []]).length=st.length+1:=Kj;have q2:((st++[SObj.list []])++[SObj.dict []]).length=st.length+2:=Kj.trans (congrArg (· + 1) L);have a0:p[st.length]?=Vl (.list []):=by rw[b];exact aE (aE (bH rfl))
 have a1:p[st.length+1]?=Vl (.dict []):=by rw[b];exact aE (bH L.symm)
 have a2:p[st.length+2]?=Vl (.list []):=by rw[b];exact bH q2.symm
 rw[<- b] at S1;obtain ⟨fz,l1⟩:=S1.info;obtain ⟨v,⟨_,ab⟩,e,rfl,hfr,K1,H1⟩:=(iy (f:=f+20) H S1).get;refine l ?_;obtain rfl:=show _=[] from hfr
 refine' ee ?a1 ?a2 (oq rfl) (ee ?a3 ?a4 (tI L) (ee ?a5 ?a6 (oq q2) ?a7))
 ·kernel_rfl
 ·exact ⟨rfl,rfl⟩
 ·kernel_rfl
 ·exact ⟨rfl,rfl⟩
 ·kernel_rfl
 ·exact ⟨rfl,rfl⟩
 show W (((mk _).xs _ _).f ⟨_,((st++[.list []])++[.dict []])++[.list []]⟩) _ _;rw[<- b];refine' bT ?b1 ?b2 (aT (w3 rfl rfl rfl) ?b3 ?b4 (cF ?b5 ?b6 aL (fA ?b7 ?b8))) ?b9
 case b1=>kernel_rfl
 case b2=>exact ⟨rfl,rfl⟩
 case b3=>decide
 case b4=>walk_at "e"
 case b5=>exact l1
 case b6=>rfl
 case b7=>kernel_rfl
 case b8=>exact e
 refine' gQ (λM s=>∃k g nf,k+M=9/\jb s.fr (Ib B st.length (.d (.tup ((aB g).map .int))) ts)/\gg s.st B 9 N kv lc (ndOf (needsOf ts)) su k g nf/\s.st[st.length]?=Vl (.list (dF (ndOf (needsOf ts)) 9 k))/\(∀j,j<k->iE (ndOf (needsOf ts)) 9 j≠[])/\∃P rows kvs,Keep ts P rows kvs/\(∀i,i∈P<->i<9/\¬Wk (ndOf (needsOf ts)) k i)/\s.st[st.length+1]?=Vl (.dict kvs)/\s.st[st.length+2]?=Vl (.list (rows.map cA))) 9 rfl (by decide) (y3 0 g 0 (w6 rfl ?c1 H1 (K1.at_ C a0) nofun (y3 [] [] [] (w4 zr (λi=>⟨λh=>(nomatch h),λh=>absurd trivial h.2⟩) (K1.at_ (by lia) a1) (K1.at_ (by lia) a2))))) (λR Z M s hR hZ hI=>?c2)
 case c1=>walk_at "h"
 case c2=>
  refine aC λK l=>?_;obtain ⟨k,g,nf,hk,hf,HH,m,ne,P,rows,kvs,KK,Y,F,E⟩:=hI;obtain ⟨fr,o⟩:=s;obtain ⟨fz,ld,lr,la,hd⟩:=HH.info;refine l ?_;have a8:=HH.len;cases g with
  | nil=>
   refine' (y2 Vo _ (w3 (uw (Bh (jd ?d1 ?d3))) (λe=>(nomatch e)) (λ_=>?d2)))
   case d1=>walk_at "e"
   case d3=>rfl
   have T:=kY (f:=f+25) HH;have hl:(dF (ndOf (needsOf ts)) 9 k).length=k:=by unfold dF;rw[Ka,KD]
   have G:=cv (d:=ln) m (by lia);refine' aG (hZ _ _ (cb rfl (aT (w3 rfl rfl rfl) ?e1 ?e2 (aS (bm:=.append) ?e3 ?e4 rfl (aI rfl (mM rfl (aI rfl ?e5 (aI rfl (mX ?e6 ?e7 (aT (w3 rfl rfl rfl) ?e8 ?e9 (cF ?aq ?aw aL (fA ?av ?af))) AA ?ac) aL)) ?ao) aL) ?ab)) (cg (oo rfl (aI rfl (dR ?ah ?az ?aa) (aI rfl (dR ?ak ?ai ?aj) (aI rfl (dR ?am ?ba ?ax) aL))) ?ae) ?ar)))
   case e1=>decide
   case e2=>walk_at "e"
   case e3=>exact cY m
   case e4=>exact db m rfl
   case e5=>walk_at "e"
   case e6=>rfl
   case e7=>rfl
   case e8=>decide
   case e9=>walk_at "e"
   case aq=>exact la
   case aw=>rfl
   case av=>kernel_rfl
   case af=>exact T
   case ac=>rfl
   case ao=>walk_at "p"
   case ab=>exact G
   case ah=>kernel_rfl
   case az=>walk_at "g"
   case aa=>exact jY (bA m)
   case ak=>kernel_rfl
   case ai=>walk_at "g"
   case aj=>exact zT (bG (by lia) (bG (by lia) F))
   case am=>kernel_rfl
   case ba=>walk_at "g"
   case ax=>exact jY (bG (by lia) (bG (by lia) (bG (by lia) E)))
   case ae=>walk_at "p"
   case ar=>
    refine hQ _ _ (w3 rfl ?_ (y4 k P rows kvs (w4 (w3 (by lia) ((lC HH.grp).mp rfl) ne) KK Y rfl)));exact fb (fb (fb (fb hd m nofun (y:=.gone)) (bA m) nofun (y:=.gone)) (bG (by lia) (bG (by lia) F)) nofun (y:=.gone)) (bG (by lia) (bG (by lia) (bG (by lia) E))) nofun (y:=.gone)
  | cons a g=>
   have tt:cc o (.d (.tup ((aB (a::g)).map .int)))=Vl true:=rfl;have kn:k<9:=DW H.lt (((HH.grp.mem a).mp (.head _)).1) ((HH.grp.mem a).mp (.head _)).2;have hl:(dF (ndOf (needsOf ts)) 9 k).length=k:=by unfold dF;rw[Ka,KD]
   have so:bI o .sorted [.d (.tup ((aB (a::g)).map .int))]=Vl (gN (ndOf (needsOf ts)) 9 k):=by
    have:=rT (st:=o) (is:=aB (a::g)) (by rw[show (aB (a::g)).length=(a::g).length from Ka ..];lia);rw[qW HH.grp] at this;exact this
   have G:=cv (d:=gN (ndOf (needsOf ts)) 9 k) m (by lia);refine aC λK l=>?_;obtain ⟨n,c⟩:∃X,X=o.set st.length (.list (dF (ndOf (needsOf ts)) 9 k++[gN (ndOf (needsOf ts)) 9 k])):=⟨_,rfl⟩
   refine l ?_;rw[<- c] at G;have H3:gg n B 9 N kv lc (ndOf (needsOf ts)) su k (a::g) nf:=by rw[c];exact HH.beyond C
   have I:n[st.length]?=Vl (.list (dF (ndOf (needsOf ts)) 9 (k+1))):=by rw[c,nY];exact bA m
   have z:n[st.length+1]?=Vl (.dict kvs):=by rw[c];exact bG (by lia) F
   have A:n[st.length+2]?=Vl (.list (rows.map cA)):=by rw[c];exact bG (by lia) E
   refine' (y2 Vn _ (w3 (uw (vI (jd ?g1 ?g0) (vI (je (dH (d:=.bi .isinstance) ?g2 ?g3 ?g4 (rC ?g5 ?g6 ?g7 A5)) fG) Bj))) (λ_=>?g8) (λe=>nomatch e)))
   case g1=>walk_at "e"
   case g0=>exact tt
   case g2=>rfl
   case g3=>rfl
   case g4=>kernel_rfl
   case g5=>kernel_rfl
   case g6=>kernel_rfl
   case g7=>walk_at "e"
   refine' cb rfl (aT (w3 rfl rfl rfl) ?h1 ?h2 (aS (bm:=.append) ?h3 ?h4 rfl (aI rfl ?h5 aL) ?h6)) (ed rfl (w3 rfl rfl rfl) ?h7 ?ag)
   case h1=>decide
   case h2=>walk_at "e"
   case h3=>exact cY m
   case h4=>exact db m rfl
   case h5=>walk_at "e"
   case h6=>exact G
   case h7=>walk_at "e"
   case ag=>
    refine ⟨_,jz,wh (f:=f+4) (P:=P) (rows:=rows) (kvs:=kvs) h9 hg H3 C I z A KK Y (by walk_at "h") rfl (λv=>eK rfl) (λs rows kvs hf H4 O x u K4=>?_)⟩;refine aC λK l=>?_;obtain ⟨fr,a9⟩:=s;obtain ⟨aa,J,_,_,_⟩:=H4.info;obtain ⟨_,⟨_,ac⟩,e6,rfl,hfr,K6,r,R6⟩:=(od (f:=f+16) H H4).get;obtain rfl:=show _=[] from hfr
    obtain ⟨af,U⟩:=R6.info;obtain ⟨_,⟨_,ae⟩,e7,rfl,hfr,K7,H7⟩:=(iy (f:=f+15) H R6).get;refine l ?_;obtain rfl:=show _=[] from hfr
    refine' cb rfl (aT (w3 rfl rfl rfl) ?i1 ?i2 (cF ?i3 ?i4 (ug rfl ?i5 uF) (fA ?i6 ?i7))) (bT ?j1 ?j2 (aT (w3 rfl rfl rfl) ?j3 ?j4 (cF ?j5 ?j6 aL (fA ?j7 ?j8))) (aG ?j9))
    case i1=>decide
    case i2=>walk_at "e"
    case i3=>exact J
    case i4=>rfl
    case i5=>walk_at "e"
    case i6=>kernel_rfl
    case i7=>exact e6
    case j1=>kernel_rfl
    case j2=>exact ⟨rfl,rfl⟩
    case j3=>decide
    case j4=>walk_at "e"
    case j5=>exact U
    case j6=>rfl
    case j7=>kernel_rfl
    case j8=>exact e7
    case j9=>
     refine hR _ _ ⟨M-1,by lia,y3 (k+1) r _ (w6 (by lia) (by walk_at "h") H7 (K7.at_ C (K6.at_ C O)) (λj hj=>?_) (y3 _ rows kvs (w4 K4 (λi=>?_) (K7.at_ (by lia) (K6.at_ (by lia) x)) (K7.at_ (by lia) (K6.at_ (by lia) u)))))⟩
     ·rcases My.mp hj with h | h
      ·exact ne j h
      ·rw[h];exact λq=>nomatch (lC HH.grp).mpr q
     ·rw[Ku,Y,HH.grp.mem];exact ⟨λh=>h.elim (λh=>⟨h.1,λw=>h.2 w.pred⟩) λh=>⟨h.1,h.2.2⟩,λh=>(QD (Wk (ndOf (needsOf ts)) k i)).elim (λw=>.inr (w3 h.1 w h.2)) λw=>.inl ⟨h.1,w⟩⟩
end
end
section
set_option linter.all false
section
variable {nd:Nat->List Nat}{n K k t i:Nat}{α:Type}
theorem Fn (hn:∀s,s<n->∀x∈nd s,x<n) (h:iE nd n k=[]):iE nd n (k+1)=[]:=L7.mpr λi e=>by
 obtain ⟨c,a⟩:=eg.mp e;obtain ⟨j,d,b⟩:=mE a;have m:j∈iE nd n k:=eg.mpr ⟨hn i c j d,b⟩;rw[h] at m;exact nomatch m
theorem qO (hn:∀s,s<n->∀x∈nd s,x<n) (h:iE nd n K=[]) (b:K<=k):iE nd n k=[]:=by
 induction b with
 | refl=>exact h
 | step _ a=>exact Fn hn a
theorem wA (hn:∀s,s<n->∀x∈nd s,x<n) (L:nH nd n K) (b:i<n) (c:K<=t):Wk nd t i<->Wk nd K i:=⟨λw=>w.le c,λw=>Qb λq=>by
  obtain ⟨k,d,a⟩:=Hc q;have m:i∈iE nd n k:=eg.mpr ⟨b,a⟩;by_cases h:K<=k
  ·rw[qO hn L.2.1 h] at m;exact nomatch m
  ·exact a.2 (w.le (by lia))⟩
theorem wz {a:Nat->List Nat}{d b:Nat}(L:nH nd n K) (c:nH a d b) (h:∀k,k<=K->(iE a d k=[]<->iE nd n k=[])):b=K:=Ol (MI λq=>c.2.2 K q ((h K (KH _)).mpr L.2.1)) (MI λq=>L.2.2 b q ((h b (Ou q)).mp c.2.1))
theorem yD {g:Nat->Option α}{f:Nat->α}(d:∀k,k<K->g k=Vl (f k)) (c:∀k,K<=k->g k=Vm){m:Nat}(a:K<=m):(Ky m).filterMap g=(Ky K).map f:=by
 induction a with
 | refl=>exact (mJ λx e=>d x (Lw.mp e)).trans dE
 | step h b=>
  rw[N9,List.filterMap_append,b,List.filterMap_cons_none (c _ h)];exact LC _
end
section
variable {ts:List Thing9}(h9:ts.length=9) (hg:∀t∈ts,t.Good)
theorem gn (hg:∀t∈ts,t.Good):∀s,s<9->∀x∈ndOf (needsOf ts) s,x<9:=λs _=>(eG hg).lt s
theorem te {x:Int}:(hs (needsOf ts) 9).contains x=Vn<->∃i,i<9/\(hs (needsOf ts) 9)[i]?=Vl x:=by
 rw[KO,K0];exact exists_congr λi=>⟨λh=>⟨by have:=(Kd.mp h).1;rw[qV] at this;exact this,h⟩,And.right⟩
theorem Fw (hg:∀t∈ts,t.Good){t:Nat}(b:t<9):(hs (needsOf ts) 9).contains (t:Int)=!(iE (ndOf (needsOf ts)) 9 t).isEmpty:=by
 rw[LO,te,KL,Px];exact exists_congr λi=>(and_congr_right λa=>DV (eG hg) a b).trans eg.symm
theorem CR (hg:∀t∈ts,t.Good){t:Nat}(b:t<9):((Ky 9).filterMap λi=>cond (r8 ts i==(t:Int)) (Vl (D.int (i:Int))) Vm)=(aB (iE (ndOf (needsOf ts)) 9 t)).map .int:=by
 rw[pJ (p:=λi=>r8 ts i==(t:Int)) (f:=λi:Nat=>D.int (i:Int))];unfold aB iE;rw[KC];refine congrArg (Na _) (List.filter_congr λi a=>?_)
 ·have a:=Lw.mp a
  classical
  rw[LO,decide_eq_true_iff,<- DV (eG hg) a b,beq_iff_eq];unfold r8;rw[Ki (by rw[qV];exact a),OP];rfl
theorem AC (hg:∀t∈ts,t.Good){K:Nat}(L:nH (ndOf (needsOf ts)) 9 K):((Ky 9).filterMap λ(t:Nat)=>cond ((hs (needsOf ts) 9).contains (t:Int)) (Vl (gN (ndOf (needsOf ts)) 9 t)) Vm)=dF (ndOf (needsOf ts)) 9 K:=by
 have e:((Ky 9).filterMap λ(t:Nat)=>cond ((hs (needsOf ts) 9).contains (t:Int)) (Vl (gN (ndOf (needsOf ts)) 9 t)) Vm)=(Ky 9).filterMap λ(t:Nat)=>cond (!(iE (ndOf (needsOf ts)) 9 t).isEmpty) (Vl (gN (ndOf (needsOf ts)) 9 t)) none:=mJ λt b=>by rw[Fw hg (Lw.mp b)]
 rw[e];refine yD (λk a=>?_) (λk a=>?_) L.1
 ·have:=L.2.2 k a;rw[List.isEmpty_eq_false_iff.mpr this];rfl
 ·rw[qO (gn hg) L.2.1 a];rfl
variable {K:Nat}{P:List Nat}{rows:List Row}{kvs:List (Int×D)}
theorem FA (hg:∀t∈ts,t.Good) (L:nH (ndOf (needsOf ts)) 9 K) (a:∀i,i∈P<->i<9/\¬Wk (ndOf (needsOf ts)) K i){i:Nat}:i∈P<->eo ts i:=by
 rw[a];exact and_congr_right λb=>not_congr (wA (gn hg) L b L.1).symm
theorem CE (hg:∀t∈ts,t.Good) (L:nH (ndOf (needsOf ts)) 9 K) (c:∀i,i∈P<->i<9/\¬Wk (ndOf (needsOf ts)) K i) (KK:Keep ts P rows kvs):Kept ts (nuK kvs) rows/\NumOk ts (nuK kvs) kvs:=by
 have F:=λ{i:Nat}=>FA hg L c (i:=i);refine ⟨⟨λi t f e=>?_,KK.once,λr d=>?_,KK.rows_le λx b=>((c x).mp b).1,λi t f e q x b=>?_⟩,⟨?_,λx=>?_,λi f=>?_⟩⟩
 ·obtain ⟨u,a,_,h,_⟩:=KK.at_ i (F.mpr f);rw[J9 (e.symm.trans a)];exact h
 ·obtain ⟨i,g,e⟩:=KK.all r d;exact ⟨i,F.mp g,e⟩
 ·obtain ⟨u,a,_,_,h⟩:=KK.at_ i (F.mpr f);obtain rfl:=J9 (e.symm.trans a);exact (h q x b).2
 ·rw[KK.keys];exact kW KK.nod
 ·rw[KK.keys,iB];exact exists_congr λi=>and_congr F ⟨Eq.symm,Eq.symm⟩
 ·obtain ⟨_,_,h,_⟩:=KK.at_ i (F.mpr f);exact h
end
theorem rQ {is:List Int}(h:∀x∈is,bK x):eX (aR is)=is:=by
 unfold eX aR;rw[KC];exact (LK λx a=>hG (h x a)).trans (N3 _)
noncomputable def qT (r:Row):Bool:=decide (r.1.cps[0]?=Vl 100)
noncomputable def needR (rows:List Row):List (List Int):=rows.map λr=>cond (qT r) (eX r.2) []
section
variable {ts:List Thing9}{nu:Nat->Nat}{rows:List Row}(h9:ts.length=9) (hg:∀t∈ts,t.Good) (K:Kept ts nu rows)
include h9 hg K
theorem qF {i:Nat}{t:Thing9}(f:eo ts i) (e:ts[i]?=Vl t):(needR rows)[nu i]?=Vl (cond (fP t) (t.inner.map λx=>(nu x.toNat:Int)) []):=by
 unfold needR;rw[Ks,K.at_ i t f e];show Vl (cond (decide (t.row.cps[0]?=Vl 100)) (eX (aR (inn nu t))) [])=_;have q:decide (t.row.cps[0]?=Vl 100)=fP t:=by
  unfold fP;rw[<- ta (hg t (Kl e)),LO,decide_eq_true_iff,beq_iff_eq,sA,OP]
 refine (congrArg (λb=>Vl (cond b (eX (aR (inn nu t))) [])) q).trans ?_;rw[rQ (pF h9 hg K f e)];unfold inn;cases fP t<;>rfl
theorem wq:xw (needR rows) rows.length/\∀l∈needR rows,l.length<=9:=by
 have b:∀l∈needR rows,l.length<=2/\∀x∈l,0<=x/\x<(rows.length:Int):=λl c=>by
  obtain ⟨r,d⟩:=K0.mp c;have a:=(Kd.mp d).1;unfold needR at a;rw[Ka] at a;obtain ⟨i,f,rfl⟩:=K.all r a;obtain ⟨t,e⟩:∃t,ts[i]?=Vl t:=⟨_,Ki (by have:=f.1;lia)⟩
  rw[qF h9 hg K f e] at d;refine rq (J9 d) ?_;have G:=(hg t (Kl e)).inner;cases q:fP t with
  | false=>exact ⟨LA _,λ_ h=>nomatch h⟩
  | true=>
   refine ⟨Lo (O3 (Ka ..)) G.1,λx j=>?_⟩;obtain ⟨y,g,rfl⟩:=Kr.mp j;have:=uL h9 hg K (iI h9 hg f e q y g);lia
 exact ⟨λl c=>(b l c).2,λl c=>Lo (b l c).1 (by decide)⟩
theorem E9 {i:Nat}(f:eo ts i):ndOf (needR rows) (nu i)=(ndOf (needsOf ts) i).map nu:=by
 obtain ⟨t,a⟩:∃t,ts[i]?=Vl t:=⟨_,Ki (by have:=f.1;lia)⟩
 rw[mn a];unfold ndOf;rw[qF h9 hg K f a];unfold fP;cases t.kind==4
 ·rfl
 ·show (t.inner.map λx=>(nu x.toNat:Int)).map OT=(t.inner.map OT).map nu;rw[KC,KC];rfl
theorem Gu:∀{t i:Nat},eo ts i->(Wk (ndOf (needR rows)) t (nu i)<->Wk (ndOf (needsOf ts)) t i):=@nr _ (@λ_ _=>SR) (λt b=>(@λi f=>by
  obtain ⟨u,c⟩:∃t,ts[i]?=Vl t:=⟨_,Ki (by have:=f.1;lia)⟩
  have d:∀x∈ndOf (needsOf ts) i,eo ts x:=λx a=>by
   rw[mn c] at a;cases q:u.kind==4 with
   | false=>rw[q] at a;exact nomatch a
   | true=>
    rw[q] at a;obtain ⟨y,e,rfl⟩:=Kr.mp a;exact iI h9 hg f c q y e
  show (∃j∈ndOf (needR rows) (nu i),_)<->∃j∈ndOf (needsOf ts) i,_;rw[E9 h9 hg K f];exact ⟨λ⟨j,g,w⟩=>by
   obtain ⟨x,a,rfl⟩:=Kr.mp g;exact ⟨x,a,(b (d x a)).mp w⟩,λ⟨x,a,w⟩=>⟨nu x,KR a,(b (d x a)).mpr w⟩⟩))
theorem jM {k r:Nat}:r∈iE (ndOf (needR rows)) rows.length k<->∃i,i∈iE (ndOf (needsOf ts)) 9 k/\eo ts i/\nu i=r:=by
 rw[eg];constructor
 ·rintro ⟨b,a⟩
  obtain ⟨i,f,rfl⟩:=K.all r b;exact ⟨i,w3 (eg.mpr (w3 f.1 ((Gu h9 hg K f).mp a.1) (λw=>a.2 ((Gu h9 hg K f).mpr w)))) f rfl⟩
 ·rintro ⟨i,m,f,rfl⟩
  obtain ⟨_,a⟩:=eg.mp m;exact w3 (uL h9 hg K f) ((Gu h9 hg K f).mpr a.1) (λw=>a.2 ((Gu h9 hg K f).mp w))
omit h9 K hg in
theorem mq {k i:Nat}(b:k<9) (m:i∈iE (ndOf (needsOf ts)) 9 k):eo ts i:=by
 obtain ⟨a,c⟩:=eg.mp m;exact ⟨a,λw=>c.2 (w.le b)⟩
theorem zh {k M:Nat}(L:nH (ndOf (needsOf ts)) 9 M) (a:k<=M):iE (ndOf (needR rows)) rows.length k=[]<->iE (ndOf (needsOf ts)) 9 k=[]:=by
 rw[L7,L7];refine ⟨λh i m=>?_,λh r m=>?_⟩
 ·have:k<M:=Nat.lt_of_le_of_ne a λe=>by rw[e,L.2.1] at m;exact nomatch m
  exact h (nu i) ((jM h9 hg K).mpr ⟨i,w3 m (mq (L3 this L.1) m) rfl⟩)
 ·obtain ⟨i,m,_⟩:=(jM h9 hg K).mp m;exact h i m
omit h9 K hg in
theorem xa:∀{l acc:List Int},acc.Nodup->(l.foldl (λacc x=>if acc.contains x then acc else acc++[x]) acc).Nodup/\∀x,x∈l.foldl (λacc x=>if acc.contains x then acc else acc++[x]) acc<->x∈acc\/x∈l:=@lr _ _ (@λacc h=>⟨h,λx=>⟨.inl,λh=>h.elim id λh=>nomatch h⟩⟩) (λy l c=>(@λacc h=>by
  rw[O4];by_cases q:acc.contains y=Vn
  ·rw[if_pos q];have m:=KO.mp q;exact ⟨(c h).1,λx=>((c h).2 x).trans ⟨λh=>h.imp id (.tail _),λh=>h.elim .inl λh=>(Kt.mp h).elim (λe=>.inl (e▸m)) .inr⟩⟩
  ·rw[if_neg q];have f:y∉acc:=λm=>q (KO.mpr m);have d:(acc++[y]).Nodup:=Lu.mpr (w3 h (Ma _ _) (λa g b i e=>f (by rw[<- Kg.mp i,<- e];exact g)));exact ⟨(c d).1,λx=>((c d).2 x).trans (by rw[Ku,Kg,Kt,or_assoc])⟩))
theorem wX {k M:Nat}(L:nH (ndOf (needsOf ts)) 9 M) (b:k<M):fe (ik ((iE (ndOf (needsOf ts)) 9 k).map λi=>(nu i:Int)))=aB (iE (ndOf (needR rows)) rows.length k):=by
 have D:=xa (l:=(iE (ndOf (needsOf ts)) 9 k).map λi=>(nu i:Int)) (acc:=[]) .nil;refine pd D.1 (jT jp) λx=>(D.2 x).trans ?_;rw[iB];constructor
 ·intro h;obtain ⟨i,a,rfl⟩:=Kr.mp (h.resolve_left λh=>nomatch h);exact ⟨nu i,(jM h9 hg K).mpr ⟨i,w3 a (mq (L3 b L.1) a) rfl⟩,rfl⟩
 ·rintro ⟨r,c,rfl⟩
  obtain ⟨i,a,_,rfl⟩:=(jM h9 hg K).mp c;exact .inr (Kr.mpr ⟨i,a,rfl⟩)
theorem yR {c:List Nat}(R:Ring (ndOf (needR rows)) rows.length c):False:=by
 obtain ⟨x,a⟩:∃x,x∈c:=⟨_,Mo (n:=0) (by have:=R.len;lia)⟩
 obtain ⟨i,f,e⟩:=K.all _ (R.lt _ a);have w:=uo R.len R.ends R.by_ 9 _ a;rw[<- e] at w;exact f.2 ((Gu h9 hg K f).mp w)
end
section
variable {ts:List Thing9}{rows:List Row}
theorem yx {a:Nat->List Nat}{n:Nat}{c:List Nat}(R:Ring a n c):c.length<=n+1:=by
 have:=fg R.once λx b=>R.lt x (List.dropLast_subset _ b);rw[RG] at this;lia
theorem wf (b:∀t∈ts,t.Good){c:List Nat}(R:Ring (ndOf (needsOf ts)) 9 c):(hs (needsOf ts) 9).contains 9=true:=by
 obtain ⟨x,a⟩:∃x,x∈c:=⟨_,Mo (n:=0) (by have:=R.len;lia)⟩
 exact te.mpr ⟨_,R.lt _ a,(vd (eG b) (R.lt _ a)).mpr (uo R.len R.ends R.by_ 9 _ a)⟩
theorem AJ (a:∀t∈ts,t.Good){su:Nat->List Nat}(T:gF (ndOf (needsOf ts)) su 9) (C:Ik (ndOf (needsOf ts)) su 9 (.d .non)):(hs (needsOf ts) 9).contains 9=false:=by
 rcases C with ⟨_,k,j,f,l,g⟩ | ⟨c,e,_⟩
 ·rw[Bool.eq_false_iff];intro h;obtain ⟨i,b,e⟩:=te.mp h;have:=Cq T (gn a) j f g b ((vd (eG a) b).mp e);lia
 ·exact V.noConfusion e λh=>D.noConfusion h
end
end
section
set_option linter.all false
section
variable {k:Nat}{cx:Cx}{s s1:St}{t it elt:Kb}{ifs:List Kb}{scope:OI}{pos p spos:Pos}{v:V}{st st':List SObj}{α:Type}{f:α->V}{h:α->Option D}{ps:List α}{Q:Fl->St->Prop}{E:D->List D->St->Prop}{ss:List Stmt}{n:Str}
theorem oE {F1:List (Str×V)}{T1:List SObj}(hn:bC (cx.names.lookup n)=Vn) (c:dM cx it ifs scope) (a:((mk k).ev cx it).f s=.ok v ⟨F1,T1⟩) (b:cS T1 v=Vl (ps.map f,st')) (hz:ps.length<=100000) (e:∀p∈ps,jx k (dW cx scope) t elt ifs (ef scope.names F1) st' (f p) (h p)) (q:W (((mk k).xs cx ss).f ⟨aY n (.d (.lst (ps.filterMap h))) F1,st'⟩) Q E):W (((mk (k+1)).xs cx (.Assign [.Name n p] (.ListComp elt [⟨t,it,ifs,0⟩] scope pos) spos::ss)).f s) Q E:=ko ((if_pos hn).trans (aK (kH (pos:=pos) c a b hz e) rfl)) q
theorem tZ {ts:List Kb}{m l:Nat}{d:D}{bs:List (Str×V)}(h:nz cx ts [.loc l,.d d]=Vl bs):dB cx (.Tuple ts m p) (.pair l d)=Vl bs:=h
end
theorem fj {st:List SObj}{α:Type}{f:α->D}{ps:List α}:cS st (.d (.lst (ps.map f)))=Vl (ps.map λp=>V.d (f p),st):=by
 show Vl ((ps.map f).map V.d,st)=_;rw[KC];rfl
section
variable {k:Nat}{cx:Cx}{s s1:St}{Q:Fl->St->Prop}{E:D->List D->St->Prop}{ss:List Stmt}{n1 n2 n3:Str}{p1 p2 p3 p pos:Pos}{m l:Nat}{e:Kb}{a b c d:D}
theorem xD {F1:List (Str×V)}{T1:List SObj}(b:hX e=Vo/\jq e=Vo/\cx.inH=Vo) (a:bC (cx.names.lookup n1)=Vn) (c:bC (cx.names.lookup n2)=Vn) (h:((mk k).ev cx e).f s=.ok (.pair l d) ⟨F1,T1⟩) (q:W (((mk k).xs cx ss).f ⟨aY n2 (.d d) (aY n1 (.loc l) F1),T1⟩) Q E):W (((mk (k+1)).xs cx (.Assign [.Tuple [.Name n1 p1,.Name n2 p2] m p] e pos::ss)).f s) Q E:=ul b h (tZ (aQ a (aQ c eA))) q
theorem BG {F1:List (Str×V)}{T1:List SObj}(i:hX e=Vo/\jq e=Vo/\cx.inH=Vo) (g:bC (cx.names.lookup n1)=Vn) (j:bC (cx.names.lookup n2)=Vn) (l:bC (cx.names.lookup n3)=Vn) (h:((mk k).ev cx e).f s=.ok (.d (.tup [a,b,c])) ⟨F1,T1⟩) (q:W (((mk k).xs cx ss).f ⟨aY n3 (.d c) (aY n2 (.d b) (aY n1 (.d a) F1)),T1⟩) Q E):W (((mk (k+1)).xs cx (.Assign [.Tuple [.Name n1 p1,.Name n2 p2,.Name n3 p3] m p] e pos::ss)).f s) Q E:=ul i h (iO (aQ g (aQ j (aQ l eA)))) q
end
section
variable {n:Nat}{l m:List D}{d:D}{i:Int}{s:Str}{b:Array UInt8}{c:Bool}{st:List SObj}
theorem iR {f:D->D->Option Bool}:∀{l:List D},(∀d∈l,f d d=Vl Vn)->kN (Mv f l l)=Vl true:=@lr _ _ (@λ_=>rfl) (λd l e=>(@λh=>by
  show Lj (f d d) (λa=>(kN (Mv f l l)).map λb=>a&&b)=_;rw[h d (.head _),e λd c=>h d (.tail _ c)];rfl))
theorem Aj:fE (n+1) (.int i) (.int i)=Vl true:=by
 show Vl (i==i)=_;rw[beq_self_eq_true]
theorem Ai:fE (n+1) (.str s) (.str s)=Vl true:=by
 show Vl (s==s)=_;rw[beq_self_eq_true]
theorem Ak:fE (n+1) (.bytes b) (.bytes b)=Vl true:=by
 show Vl (b==b)=_;rw[beq_self_eq_true]
theorem Am:fE (n+1) (.bool c) (.bool c)=Vl true:=by
 show Vl (c==c)=_;rw[beq_self_eq_true]
theorem pO (h:∀d∈l,fE n d d=Vl Vn):fE (n+1) (.lst l) (.lst l)=Vl true:=by
 show Kf Vm (Kf Vm (Kf Vm (Kf Vm (Kf (if l.length=l.length then _ else _) _))))=_;rw[if_pos rfl,iR h];rfl
theorem FM (h:∀d∈l,fE n d d=Vl Vn):fE (n+1) (.tup l) (.tup l)=Vl true:=by
 show Kf Vm (Kf Vm (Kf Vm (Kf Vm (Kf Vm (if l.length=l.length then _ else _)))))=_;rw[if_pos rfl,iR h];rfl
theorem oM (h:∀d∈l,fE 5 d d=Vl Vn):gJ (.lst l) (.lst l)=Vl true:=by
 show Kf Vm (Kf Vm (Kf (if l.length=l.length then _ else _) _))=_;rw[if_pos rfl,iR h];rfl
theorem BR (h:∀d∈l,fE 5 d d=Vl Vn):gJ (.tup l) (.tup l)=Vl true:=by
 show Kf Vm (Kf Vm (Kf Vm (if l.length=l.length then _ else _)))=_;rw[if_pos rfl,iR h];rfl
theorem kO:∀d∈([]:List D),fE n d d=Vl true:=λ_ h=>nomatch h
theorem fh (h:fE n d d=Vl Vn) (q:∀d∈l,fE n d d=Vl Vn):∀x∈d::l,fE n x x=Vl true:=λx a=>(Kt.mp a).elim (λe=>e▸h) (q x)
theorem Gb (h:∀d∈l,fE n d d=Vl Vn) (q:∀d∈m,fE n d d=Vl Vn):∀x∈l++m,fE n x x=Vl true:=λx a=>(Ku.mp a).elim (h x) (q x)
theorem p7 {α:Type}{f:α->D}{ps:List α}(h:∀p∈ps,fE n (f p) (f p)=Vl Vn):∀x∈ps.map f,fE n x x=Vl true:=λx b=>by
 obtain ⟨p,a,rfl⟩:=Kr.mp b;exact h p a
theorem I2 (h:gJ d d=Vl Vn):bV st .Eq (.d d) (.d d)=Vl true:=h
theorem qf:bV st .NotEq (.d qg) (.d qg)=Vl false:=qG (BR (fh Ai kO))
theorem zQ {ts:List Thing9}:bV st .NotEq (.d (.lst (ts.map Thing9.gd))) (.d (.lst (ts.map Thing9.gd)))=Vl false:=qG (oM (p7 λt _=>pO (fh Aj (fh Ak (fh Am kO)))))
theorem B6 {rs:List Row}:bV st .NotEq (.d (kR rs)) (.d (kR rs))=Vl false:=qG (oM (p7 λt _=>pO (fh Ai (fh Ak kO))))
theorem uV {a:Nat->List Nat}{n K:Nat}:gJ (.lst (dF a n K++[ln])) (.lst (dF a n K++[ln]))=Vl true:=oM (Gb (p7 λk _=>pO (p7 λx _=>Aj)) (fh (pO (fh (FM kO) (fh Am kO))) kO))
end
theorem kJ (a b:Str):(∀c∈a.cps.toList,c<256)->(∀c∈b.cps.toList,c<256)->∀c∈(a++b).cps.toList,c<256:=λf e c d=>by
 have:c∈a.cps.toList++b.cps.toList:=RI▸d;exact (Ku.mp this).elim (f c) (e c)
theorem vi {a:Array Nat}(h:(a.toList.all λc=>decide (c<256))=Vn) (i:Nat):(a[i]?).getD 0<256:=by
 cases q:a[i]? with
 | none=>exact M6 _
 | some c=>exact of_decide_eq_true (KP.mp h c (Array.mem_toList_iff.mpr (Array.mem_of_getElem? q)))
theorem pk {x:Nat}(h:x<256):∀c∈(⟨#[x]⟩:Str).cps.toList,c<256:=λc a=>by rw[Kg.mp a];exact h
theorem B8 {h:Str}{r:Int}(hh:∀c∈h.cps.toList,c<256):∀i,∀c∈(rowS h r i).cps.toList,c<256:=@nr _ (hh) (λi a=>by
  refine kJ _ _ (kJ _ _ (kJ _ _ (a) ?_) ?_) (pk (vi ?_ _))
  ·unfold gR;cases decide (3<vu r i)<;>exact pk (by decide)
  ·unfold gW;cases (Lk (Ll (vu r i) 2) 2==1)<;>exact pk (by decide)
  ·unfold xT;cases i==2<;>rfl)
theorem CD {ts:List Thing9}{b:Nat->Nat}{rows:List Row}(h:ts.length=9) (e:∀t∈ts,t.Good) (K:Kept ts b rows):∀r∈rows,RowOk r/\r.1.cps.size≠0:=λr d=>by
 obtain ⟨j,a⟩:=K0.mp d;obtain ⟨i,f,rfl⟩:=K.all j (Kd.mp a).1;obtain ⟨t,c⟩:∃t,ts[i]?=Vl t:=⟨_,Ki (by have:=f.1;lia)⟩
 rw[K.at_ i t f c] at a;refine rq (J9 a) ?_;have g:t.row.cps.size=10:=lV rfl 3;refine ⟨⟨?_,B8 (pk (vi rfl _)) 3,?_⟩,?_⟩
 ·show t.row.cps.size<=20;lia
 ·show (aR (inn b t)).size<=20;rw[eC];have:=(e t (Kl c)).inner.1;unfold inn;cases fP t
  ·show t.inner.length<=_;lia
  ·show (t.inner.map _).length<=_;rw[Ka];lia
 ·show t.row.cps.size≠0;lia
theorem B7 {r:Row}(h:r.1.cps.size≠0):∃c,r.1.cps[0]?=Vl c/\qT r=(c==100):=by
 refine ⟨_,Le (PT h),?_⟩;unfold qT;rw[Le (PT h),LO,decide_eq_true_iff,beq_iff_eq,OP]
theorem BX {a b:Nat}:((⟨#[a]⟩:Str)==⟨#[b]⟩)=(a==b):=by
 rw[LO,beq_iff_eq,beq_iff_eq];exact ⟨λe=>by injection e with e;injection e with e;injection e,λe=>by rw[e]⟩
end
section
set_option linter.all false
theorem Gv {k:Nat}{cx:Cx}{a:List Stmt}{Q:Fl->St->Prop}{E:D->List D->St->Prop}(l:List (Str×V)){fr:List (Str×V)}{st:List SObj}(h:jb fr l) (q:∀fr,jb fr l->W (((mk k).xs cx a).f ⟨fr,st⟩) Q E):W (((mk k).xs cx a).f ⟨fr,st⟩) Q E:=q fr h
theorem zM {st:List SObj}(h:∃r,st=.ctab::r):(dt st).isSome=true:=by obtain ⟨r,rfl⟩:=h;rfl
noncomputable abbrev J1 (n:List (List Int)):D:=.lst (n.map λl=>.lst (l.map .int))
theorem Eh.redy {st:List SObj}{B n R:Nat}{kvs:List (Int×Nat)}{b su:Nat->List Nat}{a:List Nat}(S:Eh st B n kvs b su R a) (G:Grp b n 0 a):nx st B n st.length kvs (BC kvs) b su 0 a 0:=Rs.redy S G
theorem Eh.frz {st:List SObj}{B n R:Nat}{kvs:List (Int×Nat)}{b su:Nat->List Nat}{a:List Nat}(S:Eh st B n kvs b su R a):dQ st B=none:=by unfold dQ;rw[S.inst];rfl
theorem xJ {st:List SObj}{a:Nat->List Nat}{n k:Nat}:cS st (.d (gN a n k))=Vl ((iE a n k).map λ(i:Nat)=>V.d (.int (i:Int)),st):=by
 unfold gN aB;rw[KC];exact fj
theorem GA {k:Nat}{cx:Cx}{s s1:St}{t a b:Kb}{p:Pos}{c r:Bool}(h:((mk k).ts cx t).f s=.ok c s1) (d:c=Vn->((mk k).ts cx a).f s1=.ok r s1) (e:c=Vo->((mk k).ts cx b).f s1=.ok r s1):((mk (k+1)).ts cx (.IfExp t a b p)).f s=.ok r s1:=by
 cases c with
 | true=>exact GB h (d rfl)
 | false=>exact GC h (e rfl)
set_option maxHeartbeats 400000 in
theorem zi {f:Nat}{ns:List Int}:W ((mk (f+100)).call 333 [.d (.lst (ns.map .int))] [.ctab]) (λv s=>∃d,v=.d d/\(dt s.st).isSome=Vn/\d=.bool Vn) noE:=by
 refine aC λL g=>?_;obtain ⟨_,D0,ts,u,j,rfl⟩:=cW (drawn (k:=f+67) (ns:=ns));have F9:=eG j;have N:(needsOf ts).length=9:=by unfold needsOf;rw[Ka,u]
 have nL:∀l∈needsOf ts,l.length<=2:=λl T=>by
  unfold needsOf at T;obtain ⟨t,p,rfl⟩:=Kr.mp T;have:=(j t p).inner.1;cases t.kind==4
  ·exact LA _
  ·exact this
 obtain ⟨_,D2,rfl⟩:=cW (pG (k:=f+65) N nL);obtain ⟨_,D3,rfl⟩:=cW (vP (k:=f+62) u j);obtain ⟨_,D4,rfl⟩:=cW (qm (k:=f+53) u j);refine g ?_;refine bX (fd:=aW 333) (us:=[.d (.lst (ns.map .int))]) (fr:=aY (sn "script") (.d (.lst (ns.map .int))) []) rfl rfl rfl rfl rfl ?_;refine' bT ?a1 ?a2 (cQ 249 ?a3 ?a4 ?a5 ?a6 ?a7 ?a8 ?a9 ?ac ?ax ?aq) (oE (f:=λt:Thing9=>.d t.d) (h:=λt=>Vl (.lst ((cond (t.kind==4) t.inner []).map .int))) (ps:=ts) ?b1 ?b2 ?b3 fj ?b4 (λt p=>?b5) ?b6)
 case a1=>kernel_rfl
 case a2=>exact ⟨rfl,rfl⟩
 case a3=>rfl
 case a4=>rfl
 case a5=>kernel_rfl
 case a6=>exact ⟨rfl,rfl⟩
 case a7=>rfl
 case a8=>walk_at "e"
 case a9=>kernel_rfl
 case ac=>walk_at "d"
 case ax=>exact D0
 case aq=>rfl
 case b1=>kernel_rfl
 case b2=>exact w4 rfl rfl rfl (by decide)
 case b3=>walk_at "e"
 case b4=>lia
 case b5=>
  refine rr (fr':=aY (sn "inner") (.d (.lst (t.inner.map .int))) (aY (sn "rights") (.d (.int t.rights)) (aY (sn "kind") (.d (.int t.kind)) (aY (sn "high") (.d (.int t.high)) _)))) (dZ (aQ rfl (aQ rfl (aQ rfl (aQ rfl eA))))) rfl (iH ⟨λ_=>?_,λe=>nomatch e⟩);have tq:bV [.ctab] .Eq (.d (.int t.kind)) (.d (.int 4))=Vl (t.kind==4):=kK;cases q:t.kind==4 with
  | true=>
   rw[q] at tq;refine' W.of (Hv ?c1 ?c2) ?c5
   case c1=>walk_at "t"
   case c2=>walk_at "e"
   case c5=>exact ⟨rfl,_,rfl,rfl⟩
  | false=>
   rw[q] at tq;refine' W.of (Hw ?c3 ?c4) ?c6
   case c3=>walk_at "t"
   case c4=>walk_at "e"
   case c6=>exact ⟨rfl,_,rfl,rfl⟩
 rw[show (ts.filterMap λt=>Vl (D.lst ((cond (t.kind==4) t.inner []).map .int)))=(needsOf ts).map λl=>D.lst (l.map .int) from dE.trans (by unfold needsOf;rw[KC];rfl)];refine' bT ?d1 ?d2 (cQ 287 ?d3 ?d4 ?d5 ?d6 ?d7 ?d8 ?d9 ?dy ?af ?dh) (bT ?e1 ?e2 ?e3 (sa ?f1 ?f2 ?f3 (cQ 263 ?f4 ?f5 ?f6 ?f7 ?f8 (aI rfl (cE rfl (cQ 256 ?g1 ?g2 ?g3 ?g4 ?g5 ?g6 ?g7 ?g8 ?g9 ?bh)) aL) ?f9 ?de ?aj ?ag) ?dz))
 case d1=>kernel_rfl
 case d2=>exact ⟨rfl,rfl⟩
 case d3=>rfl
 case d4=>rfl
 case d5=>kernel_rfl
 case d6=>exact ⟨rfl,rfl⟩
 case d7=>rfl
 case d8=>walk_at "e"
 case d9=>kernel_rfl
 case dy=>walk_at "d"
 case af=>exact D2
 case dh=>rfl
 case e1=>kernel_rfl
 case e2=>exact ⟨rfl,rfl⟩
 case e3=>walk_at "e"
 case f1=>exact w3 rfl rfl rfl
 case f2=>kernel_rfl
 case f3=>kernel_rfl
 case f4=>rfl
 case f5=>rfl
 case f6=>kernel_rfl
 case f7=>exact ⟨rfl,rfl⟩
 case f8=>rfl
 case g1=>rfl
 case g2=>rfl
 case g3=>kernel_rfl
 case g4=>exact ⟨rfl,rfl⟩
 case g5=>rfl
 case g6=>walk_at "e"
 case g7=>kernel_rfl
 case g8=>walk_at "d"
 case g9=>exact D3
 case bh=>rfl
 case f9=>kernel_rfl
 case de=>walk_at "d"
 case aj=>exact D4
 case ag=>rfl
 have ap:=qf (st:=[.ctab]);have ah:=zQ (st:=[.ctab]) (ts:=ts);refine' dN (x6 (gH ?h1 (gH (cU rfl rfl ?h2 (iK (f:=λt:Thing9=>.d t.d) (h:=λt=>Vl t.gd) (ps:=ts) ?h3 ?h4 fj ?h5 (λt p=>?h6)) ?h7) ma))) (aG ?h8)
 case h1=>walk_at "t"
 case h2=>walk_at "e"
 case h3=>exact w4 rfl rfl rfl (by decide)
 case h4=>walk_at "e"
 case h5=>lia
 case h6=>
  refine rr (fr':=aY (sn "inner") (.d (.lst (t.inner.map .int))) (aY (sn "rights") (.d (.int t.rights)) (aY (sn "kind") (.d (.int t.kind)) (aY (sn "high") (.d (.int t.high)) _)))) (dZ (aQ rfl (aQ rfl (aQ rfl (aQ rfl eA))))) rfl (iH ⟨λ_=>?_,λe=>nomatch e⟩);have G:=j t p;have F:0<=t.kind/\t.kind<16:=by rcases G.kind with e | e | e | e | e | e<;>rw[e]<;>decide
  have m1:cM t.high/\cM 65536:=by have:=G.high;unfold cM;lia
  have m2:cM t.kind/\cM 4096:=by unfold cM;lia
  have m3:bI [.ctab] .bytes [.d (.lst (t.inner.map .int))]=Vl (.bytes (aR t.inner)):=im (eh _) ⟨by have:=G.inner.1;lia,λx Q=>by have:=G.inner.2 x Q;unfold bK;lia⟩;walk_at "l"
 case h7=>rw[dE];exact ah
 have ai:∀t∈ts,0<=t.mode/\dI ((mk (f+71+16)).call 197 [.d (.int t.mode)] [.ctab])=Vl (.bool (fP t)):=λt p=>by
  have G:=j t p;have m0:0<=t.mode:=by
   unfold Thing9.mode;have:=G.high;have:=G.rights;have:0<=t.kind:=by rcases G.kind with e | e | e | e | e | e<;>rw[e]<;>decide
   lia
  exact ⟨m0,by rw[<- qU G];exact mx m0⟩
 have nl:(ts.filterMap λt=>Vl (D.lst ((cond (fP t) t.inner []).map .int)))=(needsOf ts).map λl=>D.lst (l.map .int):=dE.trans (by unfold needsOf;rw[KC];rfl);refine aC λL g=>?_;obtain ⟨v1,⟨_,ae⟩,e6,o,M⟩:=(kQ (k:=f+47) (st:=[.ctab]) (needs:=needsOf ts) ⟨[],rfl⟩ (by lia) (by rw[N];exact F9) (λl T=>Lo (nL l T) (by decide))).get;obtain rfl:=show _=[] from o
 rw[N] at M;obtain ⟨B,kv,R,rd,d,rfl,RS,Gr,or⟩:=M;have RD:=RS.redy Gr;have fz:=RS.frz;obtain ⟨r1,S⟩:=RS.hd;have Sh:Shp 9 (ndOf (needsOf ts)) (Bx (needsOf ts)):=⟨KH _,gn j,by have:=sd (needs:=needsOf ts) (by rw[N];exact F9);rw[N] at this;exact this⟩
 obtain ⟨v2,⟨_,m⟩,e9,o,ac,K,P,a,E,y,KK,hP,rfl⟩:=(wD (f:=f+38) u j Sh RD (KH _)).get;obtain rfl:=show _=[] from o
 obtain ⟨Kp,No⟩:=CE j y hP KK;refine g ?_;refine' xD ?i1 ?j4 ?j5 (fX 306 ?i2 ?i3 ?i4 ?i5 ?i6 (aI rfl (cE rfl (iK (f:=λt:Thing9=>.d t.gd) (h:=λt=>Vl (.lst ((cond (fP t) t.inner []).map .int))) (ps:=ts) ?i7 ?i8 fj ?i9 (λt p=>?j1))) aL) ?j2 ?j3) ?j6
 case i1=>exact w3 rfl rfl rfl
 case i2=>rfl
 case i3=>rfl
 case i4=>kernel_rfl
 case i5=>exact ⟨rfl,rfl⟩
 case i6=>rfl
 case i7=>exact w4 rfl rfl rfl (by decide)
 case i8=>walk_at "e"
 case i9=>lia
 case j1=>
  refine aC λL g=>?_;obtain ⟨m0,td⟩:=ai t p;refine g ?_;have G:=(j t p).inner;have lb:bI [.ctab] .list [.d (.bytes (aR t.inner))]=Vl (.lst (t.inner.map .int)):=by
   have:=nh (st:=[.ctab]) (b:=aR t.inner) (by rw[eC];lia);rw[rQ λx Q=>by have:=G.2 x Q;unfold bK;lia] at this;exact this
  refine rr (fr':=aY (sn "plain") (.d (.bool Vn)) (aY (sn "inner") (.d (.bytes (aR t.inner))) (aY (sn "mode") (.d (.int t.mode)) _))) (dZ (aQ rfl (aQ rfl (aQ rfl eA)))) rfl (iH ⟨λ_=>?_,λe=>nomatch e⟩);refine' W.of (Aw (c:=fP t) (v:=.d (.lst ((cond (fP t) t.inner []).map .int))) (je (cQ 197 ?k1 ?k2 ?k3 ?k4 ?k5 ?k6 ?k7 ?k8 ?k9 ?l1) fG) (λq=>?l2) (λq=>?l3)) ?l4
  case k1=>rfl
  case k2=>rfl
  case k3=>kernel_rfl
  case k4=>exact ⟨rfl,rfl⟩
  case k5=>rfl
  case k6=>walk_at "e"
  case k7=>kernel_rfl
  case k8=>walk_at "d"
  case k9=>exact td
  case l1=>rfl
  case l2=>rw[q];show _=Res.ok (V.d (.lst (t.inner.map .int))) _;walk_at "e"
  case l3=>rw[q];show _=Res.ok (V.d (.lst [])) _;walk_at "e"
  case l4=>exact ⟨rfl,_,rfl,rfl⟩
 case j2=>kernel_rfl
 case j3=>rw[nl];exact e6
 case j4=>kernel_rfl
 case j5=>kernel_rfl
 have an:∃r,ae=.ctab::r:=⟨r1,S⟩
 refine' dN (sh (GA (c:=(hs (needsOf ts) 9).contains 9) (BT (op:=.In) rfl rfl dY ?n1 lA) (λq=>?n2) (λq=>?n3))) (aG (Gv [(sn "heights",.d (ew (hs (needsOf ts) 9))),(sn "sorter",.loc B),(sn "given",.d (.lst (ts.map Thing9.gd))),(sn "words",.d qg),(sn "things",.d (iu ts))] ?n4 λfr hf=>?n5))
 case n1=>walk_at "e"
 case n2=>
  rcases or with ⟨rfl,C⟩ | ⟨c,rfl,J⟩
  ·rw[AJ j Sh.tu C] at q;exact nomatch q
  ·refine aC λL g=>?_;obtain ⟨_,D7,rfl⟩:=cW (we (k:=f+67) F9 N J (yx J));refine g ?_;refine' je (cQ 311 ?o1 ?o2 ?o3 ?o4 ?o5 ?o6 ?o7 ?o8 ?o9 ?p1) fG
   case o1=>rfl
   case o2=>rfl
   case o3=>kernel_rfl
   case o4=>exact ⟨rfl,rfl⟩
   case o5=>rfl
   case o6=>walk_at "e"
   case o7=>kernel_rfl
   case o8=>walk_at "d"
   case o9=>exact D7
   case p1=>exact S
 case n3=>
  rcases or with ⟨rfl,C⟩ | ⟨c,rfl,J⟩
  ·refine' cU rfl rfl ?p2 eI ?p3
   case p2=>walk_at "e"
   case p3=>rfl
  ·rw[wf j J] at q;exact nomatch q
 case n4=>walk_at "h"
 refine' oE (f:=λi:Nat=>.d (.int (i:Int))) (h:=λt=>cond ((hs (needsOf ts) 9).contains (t:Int)) (Vl (gN (ndOf (needsOf ts)) 9 t)) Vm) (ps:=Ky 9) ?q1 ?q2 ?q3 ?q6 (by decide) (λt p=>?q4) ?q5
 case q1=>kernel_rfl
 case q2=>exact w4 rfl rfl rfl (by decide)
 case q3=>walk_at "e"
 case q6=>exact gh (n:=9) (by decide)
 case q4=>
  have p:=Lw.mp p;refine' rn ?r1 (BT (op:=.In) rfl rfl ?r2 ?r3 lA) (λq=>?r4) ?r5 ?r6
  case r1=>kernel_rfl
  case r2=>walk_at "e"
  case r3=>walk_at "e"
  case r4=>
   refine' (iK (f:=λi:Nat=>.d (.int (i:Int))) (h:=λi=>cond (r8 ts i==(t:Int)) (Vl (.int (i:Int))) Vm) (ps:=Ky 9) ?s1 ?s2 ?s4 (by decide) (λi O=>?s3)).trans (congrArg (λl=>Res.ok (V.d (.lst l)) ⟨_,_⟩) (CR j p))
   case s1=>exact w4 rfl rfl rfl (by decide)
   case s2=>walk_at "e"
   case s4=>exact gh (n:=9) (by decide)
   case s3=>
    have hh:((hs (needsOf ts) 9).map D.int)[i]?=Vl (.int (r8 ts i)):=by
     have O:=Lw.mp O;rw[Ks,Ki (by rw[qV];exact O)];unfold r8;rw[Ki (by rw[qV];exact O)];rfl
    refine' rn (c:=r8 ts i==(t:Int)) (d:=.int (i:Int)) ?t1 ?t2 (λ_=>?t3) ?t4 ?t5
    case t1=>kernel_rfl
    case t2=>walk_at "t"
    case t3=>walk_at "e"
    case t4=>rfl
    case t5=>rfl
  case r5=>rfl
  case r6=>rfl
 rw[AC j y];have r9:a.length<=9:=Kp.le;have I:=CD u j Kp;refine aC λL g=>?_;obtain ⟨_,D8,rfl⟩:=cW (sg (k:=f+65) r9 λr hr=>(I r hr).1);obtain ⟨_,D9,rfl⟩:=cW (v9 (k:=f+46) r9 I);obtain ⟨_,DA,rfl⟩:=cW (AB (k:=f+37) u j Kp No);obtain ⟨r2,w⟩:=ac;refine g ?_;have al:(dF (ndOf (needsOf ts)) 9 K).length=K:=by unfold dF;rw[Ka,KD]
 have bl:(dF (ndOf (needsOf ts)) 9 K).length+[ln].length<=100000:=by rw[al];have:=y.1;show K+1<=_;lia
 have ge:bV m .NotEq (.d (.lst (dF (ndOf (needsOf ts)) 9 K++[ln]))) (.d (.lst (dF (ndOf (needsOf ts)) 9 K++[ln])))=Vl false:=qG uV;have am:=qf (st:=m);have ao:=B6 (st:=m) (rs:=a);refine' BG ?u1 ?u2 ?u3 ?u4 (fX 316 ?u5 ?u6 ?u7 ?u8 ?u9 ?v1 ?v2 ?v3) (dN ?v4 (aG (sa ?w1 ?w2 ?w3 (cQ 275 ?w4 ?w5 ?w6 ?w7 ?w8 (aI rfl (cE rfl (cQ 268 ?y1 ?y2 ?y3 ?y4 ?y5 ?y6 ?y7 ?y8 ?y9 ?z1)) aL) ?w9 ?x1 ?x2 ?x3) (dN (x6 (gH ?z2 (gH ?z3 (gH (sh (je (cQ 328 ?z4 ?z5 ?z6 ?z7 ?z8 ?z9 ?cu ?dp ?ba ?dq) fG)) ma)))) (aG ?cr)))))
 case u1=>exact w3 rfl rfl rfl
 case u2=>kernel_rfl
 case u3=>kernel_rfl
 case u4=>kernel_rfl
 case u5=>rfl
 case u6=>rfl
 case u7=>kernel_rfl
 case u8=>exact ⟨rfl,rfl⟩
 case u9=>rfl
 case v1=>walk_at "e"
 case v2=>kernel_rfl
 case v3=>exact e9
 case v4=>walk_at "t"
 case w1=>exact w3 rfl rfl rfl
 case w2=>kernel_rfl
 case w3=>kernel_rfl
 case w4=>rfl
 case w5=>rfl
 case w6=>kernel_rfl
 case w7=>exact ⟨rfl,rfl⟩
 case w8=>rfl
 case y1=>rfl
 case y2=>rfl
 case y3=>kernel_rfl
 case y4=>exact ⟨rfl,rfl⟩
 case y5=>rfl
 case y6=>walk_at "e"
 case y7=>kernel_rfl
 case y8=>walk_at "d"
 case y9=>exact D8
 case z1=>exact w
 case w9=>kernel_rfl
 case x1=>walk_at "d"
 case x2=>exact D9
 case x3=>exact w
 case z2=>walk_at "t"
 case z3=>walk_at "t"
 case z4=>rfl
 case z5=>rfl
 case z6=>kernel_rfl
 case z7=>exact ⟨rfl,rfl⟩
 case z8=>rfl
 case z9=>walk_at "e"
 case cu=>kernel_rfl
 case dp=>walk_at "d"
 case ba=>exact DA
 case dq=>exact w
 refine aC λL g=>?_;obtain ⟨FR,FL⟩:=wq u j Kp;have nR:(needR a).length=a.length:=by unfold needR;rw[Ka]
 obtain ⟨_,⟨_,z⟩,aa,o,M⟩:=(kQ (k:=f+40) (st:=m) (needs:=needR a) ⟨r2,w⟩ (by lia) (by rw[nR];exact FR) FL).get;obtain rfl:=show _=[] from o
 have Tu:=sd (needs:=needR a) (by rw[nR];exact FR);rw[nR] at M Tu;obtain ⟨B2,ar,R2,aq,d2,rfl,RS2,Gr2,or2⟩:=M;obtain rfl:d2=.non:=by
  rcases or2 with ⟨e,_⟩ | ⟨c,_,J⟩
  ·exact e
  ·exact (yR u j Kp J).elim
 have as:=RS2.frz;obtain ⟨_,⟨_,U⟩,Y,o,ag,A,aj,rfl⟩:=(qX (f:=f+48) ⟨r9,λs _=>FR.lt s,Tu⟩ (RS2.redy Gr2) (KH _)).get;refine g ?_;obtain rfl:=show _=[] from o
 obtain rfl:=wz y aj λk F=>zh u j Kp y F;have af:(a.filterMap λr=>Vl (D.lst ((cond (qT r) (eX r.2) []).map .int)))=(needR a).map λl=>D.lst (l.map .int):=dE.trans (by unfold needR;rw[KC];rfl);refine' xD ?dg ?dv ?ao (fX 306 ?bk ?eb ?ce ?am ?cy (aI rfl (cE rfl (iK (f:=λr:Row=>.d (cA r)) (h:=λr=>Vl (.lst ((cond (qT r) (eX r.2) []).map .int))) (ps:=a) ?cj ?ck fj ?ah (λr hr=>?cz))) aL) ?bc ?bq) ?dm
 case dg=>exact w3 rfl rfl rfl
 case dv=>kernel_rfl
 case ao=>kernel_rfl
 case bk=>rfl
 case eb=>rfl
 case ce=>kernel_rfl
 case am=>exact ⟨rfl,rfl⟩
 case cy=>rfl
 case cj=>exact w4 rfl rfl rfl (by decide)
 case ck=>walk_at "e"
 case ah=>lia
 case cz=>
  refine aC λL g=>?_;obtain ⟨ro,rz⟩:=I r hr;obtain ⟨c,hc,ab⟩:=B7 rz;refine g ?_;have ix:bE (.d (.str r.1)) (.d (.int 0)) m=Vl (.d (.str ⟨#[c]⟩)):=DT (Qs _) hc;have hq:bV m .Eq (.d (.str ⟨#[c]⟩)) (.d (.str (sn "d")))=Vl (qT r):=by
   show Vl ((⟨#[c]⟩:Str)==sn "d")=_;rw[show sn "d" = ⟨#[100]⟩ from rfl,BX,ab]
  have lb:bI m .list [.d (.bytes r.2)]=Vl (.lst ((eX r.2).map .int)):=nh (Lo ro.inner (by decide));refine rr (fr':=aY (sn "inner") (.d (.bytes r.2)) (aY (sn "row") (.d (.str r.1)) _)) (dZ (aQ rfl (aQ rfl eA))) rfl (iH ⟨λ_=>?_,λe=>nomatch e⟩);refine' W.of (Aw (c:=qT r) (v:=.d (.lst ((cond (qT r) (eX r.2) []).map .int))) ?dw (λq=>?br) (λq=>?aa)) ?bz
  case dw=>walk_at "t"
  case br=>rw[q];show _=Res.ok (V.d (.lst ((eX r.2).map .int))) _;walk_at "e"
  case aa=>rw[q];show _=Res.ok (V.d (.lst [])) _;walk_at "e"
  case bz=>exact ⟨rfl,_,rfl,rfl⟩
 case bc=>kernel_rfl
 case bq=>rw[af];exact aa
 have H:cS z (.d (.lst (dF (ndOf (needsOf ts)) 9 A)))=Vl ((Ky A).map λk=>V.d (gN (ndOf (needsOf ts)) 9 k),z):=fj;refine' oE (f:=λk:Nat=>.d (gN (ndOf (needsOf ts)) 9 k)) (h:=λk=>Vl (gN (ndOf (needR a)) a.length k)) (ps:=Ky A) ?bj ?bf ?bp ?cf ?bn (λk F=>?ae) ?ai
 case bj=>kernel_rfl
 case bf=>exact w4 rfl rfl rfl (by decide)
 case bp=>walk_at "e"
 case cf=>exact H
 case bn=>rw[KD];have:=y.1;lia
 case ae=>
  have F:=Lw.mp F;have l9:(iE (ndOf (needsOf ts)) 9 k).length<=9:=fg (TI.imp (λh=>L1 h) jp) λx Q=>(eg.mp Q).1;have sq:=sx (eh ((iE (ndOf (needsOf ts)) 9 k).map λi=>(nuK E i:Int))) (by rw[Ka];lia);rw[wX u j Kp y F] at sq;refine gw rfl ?_;refine' W.of (vt (b:=.sorted) ?dx ?du ?ak ((iK (f:=λi:Nat=>.d (.int (i:Int))) (h:=λi=>Vl (.int (nuK E i:Int))) (ps:=iE (ndOf (needsOf ts)) 9 k) ?ab ?bd ?ar ?bu (λi O=>?cq)).trans (congrArg (λl=>Res.ok (V.d (.lst l)) ⟨_,_⟩) ?av)) sq) ?di
  case dx=>rfl
  case du=>kernel_rfl
  case ak=>rfl
  case ab=>exact w4 rfl rfl rfl (by decide)
  case bd=>walk_at "e"
  case ar=>exact xJ
  case bu=>lia
  case cq=>
   have hn:bE (.d (.dct E)) (.d (.int (i:Int))) z=Vl (.d (.int (nuK E i:Int))):=vc (No.at_ i (mq (L3 F y.1) O));refine gw rfl ?_;walk_at "l"
  case av=>rw[dE,KC];rfl
  case di=>exact ⟨rfl,_,rfl,rfl⟩
 have gl:(dF (ndOf (needR a)) a.length A).length+[ln].length<=100000:=by unfold dF;rw[Ka,KD];have:=y.1;show A+1<=_;lia
 have tn:bV z .Is (.d .non) (.d .non)=Vl true:=rfl;have ak:bV U .Eq (.d (.lst (dF (ndOf (needR a)) a.length A++[ln]))) (.d (.lst (dF (ndOf (needR a)) a.length A++[ln])))=Vl true:=I2 uV;rw[show ((Ky A).filterMap λk=>Vl (gN (ndOf (needR a)) a.length k))=dF (ndOf (needR a)) a.length A from dE];refine' cg (mY (AZ (mX rfl rfl ?dk eI tn) fG rfl (tX (mX rfl rfl (fX 323 ?cw ?dj ?cn ?bg ?bo ?dc ?cm ?az) ?aw ak)))) ?bw
 case dk=>walk_at "e"
 case cw=>rfl
 case dj=>rfl
 case cn=>kernel_rfl
 case bg=>exact ⟨rfl,rfl⟩
 case bo=>rfl
 case dc=>walk_at "e"
 case cm=>kernel_rfl
 case az=>exact Y
 case aw=>walk_at "e"
 case bw=>exact ⟨_,w3 rfl (zM ag) rfl⟩
end
theorem law_true (ns:List Int):dI ((mk 100).call 333 [.d (.lst (ns.map .int))] [.ctab])=Vl (.bool Vn):=by
 obtain ⟨_,h,rfl⟩:=cW (zi (f:=0) (ns:=ns));exact h
end
end Mine.Internal
theorem PySem.Challenge.cw_oc0260_01_holds : PySem.Challenge.rw_oc0260_01.Holds :=
 Mine.Internal.holds_of (N:=100) (by decide) λa _=>Mine.Internal.law_true a
