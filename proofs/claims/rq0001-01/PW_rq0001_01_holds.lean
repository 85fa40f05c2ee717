import PyProof.Rows.All
import Wide.All
import OpenK.AllK
import Open.Row
import Wide.FinOn
import PyProof.SumWalk
import KE.KDictList
import Lean
import PySem.Challenge.RW_rq0001_01
set_option Elab.async false
set_option tactic.hygienic false
set_option genSizeOf false
set_option bootstrap.genMatcherCode false
set_option genSizeOfSpec false
set_option genInjectivity false
set_option backward.match.sparseCases false
set_option autoImplicit false
set_option linter.unusedVariables false
set_option maxRecDepth 100000
noncomputable section
namespace Internal
open Array renaming length_toList->T4,getElem?_toList->Tj,getElem?_eq_getElem->U1,toList_append->U5,getElem?_eq_some_iff->Uu,toArray_toList->Vq,toList_push->VP
open Bool renaming false_ne_true->Tq,and_eq_true_iff->Ts,rec->Ue,eq_iff_iff->Uo,or_eq_false_iff->W5,and_eq_true->WJ,or_eq_true->WU
open Exists renaming imp->VB
open ForInStep renaming yield->VA
open Int renaming natCast_nonneg->UG,ofNat->V5,natCast_add->X4
open Int.NonNeg renaming mk->Vu
open List renaming mem_cons_self->SX,mem_cons_of_mem->T5,getElem?_eq_getElem->T7,mem_cons->T8,length_append->Td,eq_nil_of_length_eq_zero->Tf,getElem?_eq_some_iff->To,getElem?_map->Tr,not_mem_nil->Tz,length_map->TL,mem_of_getElem?->TM,all_eq_true->TP,mem_append_right->TU,lookup_cons->U2,nodup_cons->U3,mem_singleton->U9,take_of_length_le->Ub,getElem?_eq_none->Ud,mem_range->Uj,getElem?_append_left->Uk,append_nil->Ul,mem_flatMap->Us,getD_eq_getElem?_getD->Uy,mem_append->UC,range->UE,mem_append_left->UI,replicate->UN,mem_map->UO,append_assoc->UP,length_take->UR,map_cons->US,getElem?_eq_none_iff->UZ,rec->V2,length_drop->Vg,size_toArray->Vo,getElem?_append_right->Vp,nodup_nil->Vt,length_cons->Vx,isEmpty_iff->Vy,mem_map_of_mem->VE,length_reverse->VF,getElem?_range->VG,drop_of_length_le->VO,reverse_cons->VT,mem_iff_getElem->W4,getElem?_drop->Wo,getElem?_zip_eq_some->Wv,map_inj_left->Wy,of_mem_zip->WO,mem_iff_getElem?->WQ,mem_filter->WR,map_append->WS,length_filter_le->WT
open List.cons renaming inj->Uc
open Nat renaming le_of_ble_eq_true->SP,beq->SS,le_trans->SV,ble_eq_true_of_le->SY,ble->T3,eq_of_beq_eq_true->T6,succ->Te,le_refl->TA,le_add_left->TB,le_add_right->TC,zero_le->TQ,succ_le_succ->TY,lt_of_le_of_lt->U4,le_succ->U8,sub->Um,sub_add_cancel->Uq,add_sub_cancel_left->Ur,lt_succ_self->Ut,mod_lt->Uz,lt_succ_of_lt->UA,add_assoc->UM,ne_of_lt->UU,lt_of_lt_of_le->UW,beq_refl->UX,add_comm->UY,rec->V3,min_eq_left->V4,ne_of_gt->V8,le_of_lt->V9,min_eq_right->Vh,le_of_succ_le_succ->Vj,zero_add->Vm,div_lt_iff_lt_mul->Vn,add_le_add->Vw,succ_pos->VI,le_of_eq->VZ,mul_le_mul_left->Wj,add_le_add_left->Wk,mod_two_eq_zero_or_one->Wn,lt_or_ge->Wt,add_right_comm->Wu,sub_le->WA,lt_of_succ_lt->WB,le_of_succ_le->WC,not_le_of_lt->WL,lt_of_not_le->WM,noConfusion->X2,le_total->X3
open Option renaming bind_some->UD,rec->Vd,isSome_iff_exists->Ws
open Option.some renaming inj->Ti
open PyProof.Rows renaming isSubtype_of_subB->UQ,Subscript_->VN
open PySem renaming wpAny_bind->SO,Expr->SQ,wpAny_pure->SR,Value->SU,Shared->SW,wpAny->Tb,mem_of_lookup->Th,model->Tn,Env->Tt,mainGlobals->Tv,Addr->Tw,wpAny_holding->TH,wpAny_call_entry->TJ,DictEntry->TR,wpAny_callSpecial?_slot->TV,Around->U6,builtinsNs->Uh,wpAny_truthy_bool->Un,wpAny_standAt->Uv,wpAny_specialOf->Uw,Arguments->Ux,wpAny_dictEpoch->UH,wpAny_mono->UJ,wpAny_field->UK,Flow->UL,Heap->UT,NameKind->V0,wpAny_letTemporaryGo->V6,wpAny_rule->Va,wpAny_newObj_type->Vb,wpAny_dictEntries->Vc,wpAny_Assign_stores->Vi,Program->Vl,wpAny_isTrue_Compare1->Vr,Scope->Vv,wpAny_forIn_list->VL,sizeLine_eq->VM,wpAny_setField_rec->VU,World->VX,wpAny_sequenceKey->W0,wpAny_typeNameOfWhole_itemiter->W7,Stmt->W8,wpAny_isInstance->We,wpAny_execs_cons->Wg,evalPart_none->Wm,IsItemIter->Wr,wpAny_typeNameOf_itemiter->WE,wpAny_setField->WG,wpAny_seqItems->WH,wpAny_pyIter_list->WN,wpAny_list_append_plain->WV,wpAny_Slice->WW,evalPart_some->WX,arm_eval_Call->WY,Operator->WZ,GenState->X0,FuncData->X1,wpAny_isOneOf_itemiter->X5
open PySem.Builtin.Dict renaming showsAll->VH
open PySem.Builtin.Dict_items renaming ownedTupleFields->Vf,ownsTuple->VD,ownedTupleIsFree->Wl,pairFromOwner->Ww
open PySem.Builtin.List renaming listSubscript?->VQ,listFitsIndex->VW
open PySem.Builtin.SmallTypes renaming nextOf->V7
open PySem.Builtin.Str renaming reprChar->Wz
open PySem.Builtin.Tuple renaming tupleHashOf->Up
open PySem.Calls renaming Name_function_global->Wi
open PySem.Challenge renaming rw_rq0001_01->VK
open PySem.Data renaming noConfusion->Ta
open PySem.F renaming slot_tuple_iterator_next->Vs,slot_dict_getitem->VJ,plainAttrs_list->VY,slot_list_getitem->W2,slot_enumerate_next->W3,slot_dict_itemiterator_next->W9,slot_tuple_getitem->Wb,slot_NoneType_hash->Wc,slot_dict_keyiterator_next->Wh,slot_tuple_hash->WI,slot_list_pop->X6,slot_dict_get->X7
open PySem.Heap renaming get?_push_size->T9,get?_push_of_some->TX,SameBut->U7,get?_update_self->Ua,get?_none_of_le->Ug,lt_size->Ui,ExtBut->VC,size_push->VV
open PySem.Heap.IsSliceOf renaming new->WD
open PySem.Heap.SameBut renaming update->U0
open PySem.NameKind renaming free->TZ
open PySem.Obj renaming mapSeq->Wa,data_mapFields->Wq
open PySem.PyData renaming depthAll->WK
open PySem.Shared renaming TypeIs->Wx
open PySem.Str renaming ofString->Tu
open PySem.Value renaming noConfusion->Tp,none->Ve,ref->Vk,bool->W6
open PySem.W renaming boot_heap->UB
section
set_option compiler.extract_closed false
section
set_option autoImplicit true
theorem aD{G:Prop}(h:false=true):G:=Bool.noConfusion h
theorem qd{G:Prop}(h:true=false):G:=Bool.noConfusion h
@[elab_as_elim] theorem rwr {α:Sort u} {a b:α} {P:α->Prop} (h:a=b) (k:P b):P a:=h▸k
@[elab_as_elim] theorem rwl {α:Sort u} {a b:α} {P:α->Prop} (h:a=b) (k:P a):P b:=h▸k
theorem dh{α:Type u}{a:α}{G:Prop}(h:none=some a):G:=Option.noConfusion rfl (heq_of_eq h)
theorem Ff{α:Type u}{a:α}{G:Prop}(h:some a=none):G:=Option.noConfusion rfl (heq_of_eq h)
theorem ak{p q:Prop}{G:Prop}(h:p∧q)(k:p->q->G):G:=k h.1 h.2
theorem aw{A:Sort _}{p:A->Prop}{G:Prop}(h:∃a,p a)(k:∀a,p a->G):G:=h.elim λa h=>k a h
theorem bf{p q r:Prop}{G:Prop}(h:p∧q∧r)(k:p->q->r->G):G:=k h.1 h.2.1 h.2.2
theorem ag{A:Sort _}{p q:A->Prop}{G:Prop}(h:∃a,p a∧q a)(k:∀a,p a->q a->G):G:=h.elim λa h=>k a h.1 h.2
theorem fU{A:Sort _}{B:Sort _}{p:A->B->Prop}{G:Prop}(h:∃a b,p a b)(k:∀a b,p a b->G):G:=h.elim λa h=>h.elim λb h=>k a b h
theorem tT{p q r s:Prop}{G:Prop}(h:p∧q∧r∧s)(k:p->q->r->s->G):G:=k h.1 h.2.1 h.2.2.1 h.2.2.2
theorem aM{A:Sort _}{p q r:A->Prop}{G:Prop}(h:∃a,p a∧q a∧r a)(k:∀a,p a->q a->r a->G):G:=h.elim λa h=>k a h.1 h.2.1 h.2.2
theorem aL{A:Sort _}{B:Sort _}{p q:A->B->Prop}{G:Prop}(h:∃a b,p a b∧q a b)(k:∀a b,p a b->q a b->G):G:=h.elim λa h=>h.elim λb h=>k a b h.1 h.2
theorem j6{p q r s t:Prop}{G:Prop}(h:p∧q∧r∧s∧t)(k:p->q->r->s->t->G):G:=k h.1 h.2.1 h.2.2.1 h.2.2.2.1 h.2.2.2.2
theorem d9{A:Sort _}{p q r s:A->Prop}{G:Prop}(h:∃a,p a∧q a∧r a∧s a)(k:∀a,p a->q a->r a->s a->G):G:=h.elim λa h=>k a h.1 h.2.1 h.2.2.1 h.2.2.2
theorem aH{A:Sort _}{B:Sort _}{p q r:A->B->Prop}{G:Prop}(h:∃a b,p a b∧q a b∧r a b)(k:∀a b,p a b->q a b->r a b->G):G:=h.elim λa h=>h.elim λb h=>k a b h.1 h.2.1 h.2.2
theorem eS{A:Sort _}{B:Sort _}{C:Sort _}{p q:A->B->C->Prop}{G:Prop}(h:∃a b c,p a b c∧q a b c)(k:∀a b c,p a b c->q a b c->G):G:=h.elim λa h=>h.elim λb h=>h.elim λc h=>k a b c h.1 h.2
theorem FP{A:Sort _}{p q r s t:A->Prop}{G:Prop}(h:∃a,p a∧q a∧r a∧s a∧t a)(k:∀a,p a->q a->r a->s a->t a->G):G:=h.elim λa h=>k a h.1 h.2.1 h.2.2.1 h.2.2.2.1 h.2.2.2.2
theorem dG{A:Sort _}{B:Sort _}{p q r s:A->B->Prop}{G:Prop}(h:∃a b,p a b∧q a b∧r a b∧s a b)(k:∀a b,p a b->q a b->r a b->s a b->G):G:=h.elim λa h=>h.elim λb h=>k a b h.1 h.2.1 h.2.2.1 h.2.2.2
theorem fL{A:Sort _}{B:Sort _}{C:Sort _}{p q r:A->B->C->Prop}{G:Prop}(h:∃a b c,p a b c∧q a b c∧r a b c)(k:∀a b c,p a b c->q a b c->r a b c->G):G:=h.elim λa h=>h.elim λb h=>h.elim λc h=>k a b c h.1 h.2.1 h.2.2
theorem x6{A:Sort _}{B:Sort _}{C:Sort _}{D:Sort _}{p q:A->B->C->D->Prop}{G:Prop}(h:∃a b c d,p a b c d∧q a b c d)(k:∀a b c d,p a b c d->q a b c d->G):G:=h.elim λa h=>h.elim λb h=>h.elim λc h=>h.elim λd h=>k a b c d h.1 h.2
theorem iz{A:Sort _}{B:Sort _}{C:Sort _}{p q r s:A->B->C->Prop}{G:Prop}(h:∃a b c,p a b c∧q a b c∧r a b c∧s a b c)(k:∀a b c,p a b c->q a b c->r a b c->s a b c->G):G:=h.elim λa h=>h.elim λb h=>h.elim λc h=>k a b c h.1 h.2.1 h.2.2.1 h.2.2.2
theorem Bs{A:Sort _}{B:Sort _}{C:Sort _}{D:Sort _}{p q r:A->B->C->D->Prop}{G:Prop}(h:∃a b c d,p a b c d∧q a b c d∧r a b c d)(k:∀a b c d,p a b c d->q a b c d->r a b c d->G):G:=h.elim λa h=>h.elim λb h=>h.elim λc h=>h.elim λd h=>k a b c d h.1 h.2.1 h.2.2
theorem FM{A:Sort _}{B:Sort _}{C:Sort _}{D:Sort _}{E:Sort _}{F:Sort _}{p:A->B->C->D->E->F->Prop}{G:Prop}(h:∃a b c d e f,p a b c d e f)(k:∀a b c d e f,p a b c d e f->G):G:=h.elim λa h=>h.elim λb h=>h.elim λc h=>h.elim λd h=>h.elim λe h=>h.elim λf h=>k a b c d e f h
theorem x8{A:Sort _}{B:Sort _}{p q r s t:A->B->Prop}{G:Prop}(h:∃a b,p a b∧q a b∧r a b∧s a b∧t a b)(k:∀a b,p a b->q a b->r a b->s a b->t a b->G):G:=h.elim λa h=>h.elim λb h=>k a b h.1 h.2.1 h.2.2.1 h.2.2.2.1 h.2.2.2.2
theorem ew{A:Sort _}{B:Sort _}{C:Sort _}{p q r s t:A->B->C->Prop}{G:Prop}(h:∃a b c,p a b c∧q a b c∧r a b c∧s a b c∧t a b c)(k:∀a b c,p a b c->q a b c->r a b c->s a b c->t a b c->G):G:=h.elim λa h=>h.elim λb h=>h.elim λc h=>k a b c h.1 h.2.1 h.2.2.1 h.2.2.2.1 h.2.2.2.2
theorem lQ{A:Sort _}{B:Sort _}{C:Sort _}{D:Sort _}{p q r s:A->B->C->D->Prop}{G:Prop}(h:∃a b c d,p a b c d∧q a b c d∧r a b c d∧s a b c d)(k:∀a b c d,p a b c d->q a b c d->r a b c d->s a b c d->G):G:=h.elim λa h=>h.elim λb h=>h.elim λc h=>h.elim λd h=>k a b c d h.1 h.2.1 h.2.2.1 h.2.2.2
theorem ME{A:Sort _}{B:Sort _}{C:Sort _}{D:Sort _}{E:Sort _}{p q r:A->B->C->D->E->Prop}{G:Prop}(h:∃a b c d e,p a b c d e∧q a b c d e∧r a b c d e)(k:∀a b c d e,p a b c d e->q a b c d e->r a b c d e->G):G:=h.elim λa h=>h.elim λb h=>h.elim λc h=>h.elim λd h=>h.elim λe h=>k a b c d e h.1 h.2.1 h.2.2
theorem x7{A:Sort _}{B:Sort _}{C:Sort _}{p q r s t u:A->B->C->Prop}{G:Prop}(h:∃a b c,p a b c∧q a b c∧r a b c∧s a b c∧t a b c∧u a b c)(k:∀a b c,p a b c->q a b c->r a b c->s a b c->t a b c->u a b c->G):G:=h.elim λa h=>h.elim λb h=>h.elim λc h=>k a b c h.1 h.2.1 h.2.2.1 h.2.2.2.1 h.2.2.2.2.1 h.2.2.2.2.2
theorem x5{A:Sort _}{B:Sort _}{C:Sort _}{D:Sort _}{p q r s t:A->B->C->D->Prop}{G:Prop}(h:∃a b c d,p a b c d∧q a b c d∧r a b c d∧s a b c d∧t a b c d)(k:∀a b c d,p a b c d->q a b c d->r a b c d->s a b c d->t a b c d->G):G:=h.elim λa h=>h.elim λb h=>h.elim λc h=>h.elim λd h=>k a b c d h.1 h.2.1 h.2.2.1 h.2.2.2.1 h.2.2.2.2
theorem gE{A:Sort _}{B:Sort _}{C:Sort _}{D:Sort _}{p q r s t u:A->B->C->D->Prop}{G:Prop}(h:∃a b c d,p a b c d∧q a b c d∧r a b c d∧s a b c d∧t a b c d∧u a b c d)(k:∀a b c d,p a b c d->q a b c d->r a b c d->s a b c d->t a b c d->u a b c d->G):G:=h.elim λa h=>h.elim λb h=>h.elim λc h=>h.elim λd h=>k a b c d h.1 h.2.1 h.2.2.1 h.2.2.2.1 h.2.2.2.2.1 h.2.2.2.2.2
theorem MD{A:Sort _}{B:Sort _}{C:Sort _}{D:Sort _}{E:Sort _}{p q r s t u:A->B->C->D->E->Prop}{G:Prop}(h:∃a b c d e,p a b c d e∧q a b c d e∧r a b c d e∧s a b c d e∧t a b c d e∧u a b c d e)(k:∀a b c d e,p a b c d e->q a b c d e->r a b c d e->s a b c d e->t a b c d e->u a b c d e->G):G:=h.elim λa h=>h.elim λb h=>h.elim λc h=>h.elim λd h=>h.elim λe h=>k a b c d e h.1 h.2.1 h.2.2.1 h.2.2.2.1 h.2.2.2.2.1 h.2.2.2.2.2
theorem j5{A:Sort _}{B:Sort _}{C:Sort _}{p q r s t u v w:A->B->C->Prop}{G:Prop}(h:∃a b c,p a b c∧q a b c∧r a b c∧s a b c∧t a b c∧u a b c∧v a b c∧w a b c)(k:∀a b c,p a b c->q a b c->r a b c->s a b c->t a b c->u a b c->v a b c->w a b c->G):G:=h.elim λa h=>h.elim λb h=>h.elim λc h=>k a b c h.1 h.2.1 h.2.2.1 h.2.2.2.1 h.2.2.2.2.1 h.2.2.2.2.2.1 h.2.2.2.2.2.2.1 h.2.2.2.2.2.2.2
theorem FN{A:Sort _}{B:Sort _}{C:Sort _}{D:Sort _}{p q r s t u v w:A->B->C->D->Prop}{G:Prop}(h:∃a b c d,p a b c d∧q a b c d∧r a b c d∧s a b c d∧t a b c d∧u a b c d∧v a b c d∧w a b c d)(k:∀a b c d,p a b c d->q a b c d->r a b c d->s a b c d->t a b c d->u a b c d->v a b c d->w a b c d->G):G:=h.elim λa h=>h.elim λb h=>h.elim λc h=>h.elim λd h=>k a b c d h.1 h.2.1 h.2.2.1 h.2.2.2.1 h.2.2.2.2.1 h.2.2.2.2.2.1 h.2.2.2.2.2.2.1 h.2.2.2.2.2.2.2
theorem JP{A:Sort _}{B:Sort _}{C:Sort _}{p q r s t u v w x y:A->B->C->Prop}{G:Prop}(h:∃a b c,p a b c∧q a b c∧r a b c∧s a b c∧t a b c∧u a b c∧v a b c∧w a b c∧x a b c∧y a b c)(k:∀a b c,p a b c->q a b c->r a b c->s a b c->t a b c->u a b c->v a b c->w a b c->x a b c->y a b c->G):G:=h.elim λa h=>h.elim λb h=>h.elim λc h=>k a b c h.1 h.2.1 h.2.2.1 h.2.2.2.1 h.2.2.2.2.1 h.2.2.2.2.2.1 h.2.2.2.2.2.2.1 h.2.2.2.2.2.2.2.1 h.2.2.2.2.2.2.2.2.1 h.2.2.2.2.2.2.2.2.2
theorem Br{A:Sort _}{B:Sort _}{C:Sort _}{D:Sort _}{E:Sort _}{p q r s t u v w:A->B->C->D->E->Prop}{G:Prop}(h:∃a b c d e,p a b c d e∧q a b c d e∧r a b c d e∧s a b c d e∧t a b c d e∧u a b c d e∧v a b c d e∧w a b c d e)(k:∀a b c d e,p a b c d e->q a b c d e->r a b c d e->s a b c d e->t a b c d e->u a b c d e->v a b c d e->w a b c d e->G):G:=h.elim λa h=>h.elim λb h=>h.elim λc h=>h.elim λd h=>h.elim λe h=>k a b c d e h.1 h.2.1 h.2.2.1 h.2.2.2.1 h.2.2.2.2.1 h.2.2.2.2.2.1 h.2.2.2.2.2.2.1 h.2.2.2.2.2.2.2
theorem MG{A:Sort _}{B:Sort _}{C:Sort _}{p q r s t u v:A->B->C->Prop}{G:Prop}(h:∃a b c,p a b c∧q a b c∧r a b c∧s a b c∧t a b c∧u a b c∧v a b c)(k:∀a b c,p a b c->q a b c->r a b c->s a b c->t a b c->u a b c->v a b c->G):G:=h.elim λa h=>h.elim λb h=>h.elim λc h=>k a b c h.1 h.2.1 h.2.2.1 h.2.2.2.1 h.2.2.2.2.1 h.2.2.2.2.2.1 h.2.2.2.2.2.2
theorem MC{A:Sort _}{B:Sort _}{C:Sort _}{D:Sort _}{E:Sort _}{p q r s t u v w x:A->B->C->D->E->Prop}{G:Prop}(h:∃a b c d e,p a b c d e∧q a b c d e∧r a b c d e∧s a b c d e∧t a b c d e∧u a b c d e∧v a b c d e∧w a b c d e∧x a b c d e)(k:∀a b c d e,p a b c d e->q a b c d e->r a b c d e->s a b c d e->t a b c d e->u a b c d e->v a b c d e->w a b c d e->x a b c d e->G):G:=h.elim λa h=>h.elim λb h=>h.elim λc h=>h.elim λd h=>h.elim λe h=>k a b c d e h.1 h.2.1 h.2.2.1 h.2.2.2.1 h.2.2.2.2.1 h.2.2.2.2.2.1 h.2.2.2.2.2.2.1 h.2.2.2.2.2.2.2.1 h.2.2.2.2.2.2.2.2
theorem MF{A:Sort _}{B:Sort _}{C:Sort _}{p q r s t u v w x:A->B->C->Prop}{G:Prop}(h:∃a b c,p a b c∧q a b c∧r a b c∧s a b c∧t a b c∧u a b c∧v a b c∧w a b c∧x a b c)(k:∀a b c,p a b c->q a b c->r a b c->s a b c->t a b c->u a b c->v a b c->w a b c->x a b c->G):G:=h.elim λa h=>h.elim λb h=>h.elim λc h=>k a b c h.1 h.2.1 h.2.2.1 h.2.2.2.1 h.2.2.2.2.1 h.2.2.2.2.2.1 h.2.2.2.2.2.2.1 h.2.2.2.2.2.2.2.1 h.2.2.2.2.2.2.2.2
theorem iJ{a b:Bool}{G:Prop}(h:(a&&b)=true)(k:a=true->b=true->G):G:=k (Ts.mp h).1 (Ts.mp h).2
theorem rO{α β:Type _}{f:α->β}{l:List α}{b:β}{G:Prop}(h:b∈l.map f)(k:∀a,a∈l->f a=b->G):G:=ag (UO.mp h) k
theorem xT{α β:Type _}{f:α->β}{x:Option α}{b:β}{G:Prop}(h:x.map f=some b)(k:∀a,x=some a->f a=b->G):G:=ag (Option.map_eq_some_iff.mp h) k
theorem Fk{α β:Type _}{f:α->Option β}{x:Option α}{b:β}{G:Prop}(h:x.bind f=some b)(k:∀a,x=some a->f a=some b->G):G:=ag (Option.bind_eq_some_iff.mp h) k
theorem KE{α:Type _}{x:Option α}{G:Prop}(h:x.isSome=true)(k:∀a,x=some a->G):G:=aw (Ws.mp h) k
theorem PZ{α:Type _}{a:α}{l:List α}{G:Prop}(h:(a::l).Nodup)(k:a∉l->l.Nodup->G):G:=ak (U3.mp h) k
theorem Nm{α β:Type _}{f:α->Option β}{l:List α}{b:β}{G:Prop}(h:b∈l.filterMap f)(k:∀a,a∈l->f a=some b->G):G:=ag (List.mem_filterMap.mp h) k
end
end
section
set_option compiler.extract_closed false
section
open PySem (Str)
section
noncomputable def gW(l:List Nat):Nat:=l.foldl (λa c=>a*2097152+c) 1
noncomputable def iI(s:Str):Nat:=gW s.cps.toList
noncomputable def BA:Nat->Nat->List Nat->List Nat
 |0,_,acc=>acc
 |f+1,n,acc=>match T3 n 1 with
  |true=>acc
  |false=>BA f (n/2097152) ((n%2097152)::acc)
noncomputable def oE(n:Nat):List Nat:=BA 200 n []
noncomputable def Fj(s:Str):Bool:=s.cps.toList.all (λc=>Nat.blt c 1114112)&&T3 s.cps.size 190
set_option genCtorIdx false in
inductive Pa where
 |e|a (q:Pa)|b (q:Pa)|c (q:Pa)|d (q:Pa)|f (q:Pa)|g (q:Pa)|h (q:Pa)|i (q:Pa)
set_option genCtorIdx false in
inductive KV where
 |none|bool (b:Bool)|nat (n:Nat)|neg (n:Nat)|str (c:Nat)|nil|cons (x r:KV)|ref (q:Pa)|tok (n:Nat)|fl (xs:KV)
set_option genCtorIdx false in
inductive T(α:Type)where
 |nil|nd (v:Option α) (a b c d f g h i:T α)
set_option genCtorIdx false in
inductive KD where
 |nil|cons (k v:KV) (r:KD)
set_option genCtorIdx false in
inductive KO where
 |list (n:Nat) (xs:KV)|dict (n:Nat) (es:KD)|set (xs:KV)|inst (c:Nat) (fs:T KV)|clo (q:Pa) (cs:KV)|junk (n:Nat)|pd (a m:KD)
structure KS where
 h:T KO
 n:Pa
abbrev En:=T KV
abbrev K0:=KS->Bool
abbrev KT:=KS->KV->Bool
abbrev Cl:=Pa->KV->KT->KS->Bool
abbrev X:=Cl->En->KT->KS->Bool
abbrev Cn:=Cl->En->K0->K0->KS->Bool
structure Fr where
 brk:En->K0
 cont:En->K0
 ret:KT
abbrev Y:=Cl->Fr->(En->K0)->En->KS->Bool
def qs(q:Pa):Pa:=@Pa.rec (λZ=>Pa) (.a .e) (λq Z=>.b q) (λq Z=>.c q) (λq Z=>.d q) (λq Z=>.f q) (λq Z=>.g q) (λq Z=>.h q) (λq Z=>.i q) (λZ r=>.a r) q
def bD:Nat->Pa
 |0=>.e
 |n+1=>qs (bD n)
section
variable{α:Type}
def tv(t:T α):Option α:=@T.rec α (λZ=>Option α) .none (λv Z Z Z Z Z Z Z Z Z Z Z Z Z Z Z Z=>v) t
def QE(r:T α->Option α)(t:T α):Option α:=@T.rec α (λZ=>Option α) .none (λZ a b c d f g h i Z Z Z Z Z Z Z Z=>r a) t
def QD(r:T α->Option α)(t:T α):Option α:=@T.rec α (λZ=>Option α) .none (λZ a b c d f g h i Z Z Z Z Z Z Z Z=>r b) t
def QC(r:T α->Option α)(t:T α):Option α:=@T.rec α (λZ=>Option α) .none (λZ a b c d f g h i Z Z Z Z Z Z Z Z=>r c) t
def QB(r:T α->Option α)(t:T α):Option α:=@T.rec α (λZ=>Option α) .none (λZ a b c d f g h i Z Z Z Z Z Z Z Z=>r d) t
def QA(r:T α->Option α)(t:T α):Option α:=@T.rec α (λZ=>Option α) .none (λZ a b c d f g h i Z Z Z Z Z Z Z Z=>r f) t
def Qz(r:T α->Option α)(t:T α):Option α:=@T.rec α (λZ=>Option α) .none (λZ a b c d f g h i Z Z Z Z Z Z Z Z=>r g) t
def Qy(r:T α->Option α)(t:T α):Option α:=@T.rec α (λZ=>Option α) .none (λZ a b c d f g h i Z Z Z Z Z Z Z Z=>r h) t
def Qx(r:T α->Option α)(t:T α):Option α:=@T.rec α (λZ=>Option α) .none (λZ a b c d f g h i Z Z Z Z Z Z Z Z=>r i) t
def tg(q:Pa):T α->Option α:=@Pa.rec (λzz=>T α->Option α) tv (λzz=>QE) (λzz=>QD) (λzz=>QC) (λzz=>QB) (λzz=>QA) (λzz=>Qz) (λzz=>Qy) (λzz=>Qx) q
def pv(x:α)(t:T α):T α:=@T.rec α (λZ=>T α) (.nd (.some x) .nil .nil .nil .nil .nil .nil .nil .nil) (λZ a b c d f g h i Z Z Z Z Z Z Z Z=>.nd (.some x) a b c d f g h i) t
def Qw(r:α->T α->T α)(x:α)(t:T α):T α:=@T.rec α (λZ=>T α) (.nd .none (r x .nil) .nil .nil .nil .nil .nil .nil .nil) (λv a b c d f g h i Z Z Z Z Z Z Z Z=>.nd v (r x a) b c d f g h i) t
def Qv(r:α->T α->T α)(x:α)(t:T α):T α:=@T.rec α (λZ=>T α) (.nd .none .nil (r x .nil) .nil .nil .nil .nil .nil .nil) (λv a b c d f g h i Z Z Z Z Z Z Z Z=>.nd v a (r x b) c d f g h i) t
def Qu(r:α->T α->T α)(x:α)(t:T α):T α:=@T.rec α (λZ=>T α) (.nd .none .nil .nil (r x .nil) .nil .nil .nil .nil .nil) (λv a b c d f g h i Z Z Z Z Z Z Z Z=>.nd v a b (r x c) d f g h i) t
def Qt(r:α->T α->T α)(x:α)(t:T α):T α:=@T.rec α (λZ=>T α) (.nd .none .nil .nil .nil (r x .nil) .nil .nil .nil .nil) (λv a b c d f g h i Z Z Z Z Z Z Z Z=>.nd v a b c (r x d) f g h i) t
def Qr(r:α->T α->T α)(x:α)(t:T α):T α:=@T.rec α (λZ=>T α) (.nd .none .nil .nil .nil .nil (r x .nil) .nil .nil .nil) (λv a b c d f g h i Z Z Z Z Z Z Z Z=>.nd v a b c d (r x f) g h i) t
def Qq(r:α->T α->T α)(x:α)(t:T α):T α:=@T.rec α (λZ=>T α) (.nd .none .nil .nil .nil .nil .nil (r x .nil) .nil .nil) (λv a b c d f g h i Z Z Z Z Z Z Z Z=>.nd v a b c d f (r x g) h i) t
def Qp(r:α->T α->T α)(x:α)(t:T α):T α:=@T.rec α (λZ=>T α) (.nd .none .nil .nil .nil .nil .nil .nil (r x .nil) .nil) (λv a b c d f g h i Z Z Z Z Z Z Z Z=>.nd v a b c d f g (r x h) i) t
def Qo(r:α->T α->T α)(x:α)(t:T α):T α:=@T.rec α (λZ=>T α) (.nd .none .nil .nil .nil .nil .nil .nil .nil (r x .nil)) (λv a b c d f g h i Z Z Z Z Z Z Z Z=>.nd v a b c d f g h (r x i)) t
def tp(q:Pa):α->T α->T α:=@Pa.rec (λzz=>α->T α->T α) pv (λzz=>Qw) (λzz=>Qv) (λzz=>Qu) (λzz=>Qt) (λzz=>Qr) (λzz=>Qq) (λzz=>Qp) (λzz=>Qo) q
def ci(o:Option α)(z:Bool)(k:α->Bool):Bool:=@Vd α (λzz=>Bool) z k o
end
def az(b f t:Bool):Bool:=@Ue (λzz=>Bool) f t b
def aZ(q:Pa)(s:KS)(k:KO->Bool):Bool:=ci (tg q s.h) false k
def bV(s:KS)(q:Pa)(o:KO):KS:=⟨tp q o s.h,s.n⟩
def bz(s:KS)(o:KO):KS:=⟨tp s.n o s.h,qs s.n⟩
noncomputable def zB(Z:Bool):Bool:=false
noncomputable def zN(Z:Nat):Bool:=false
noncomputable def zP(Z:Pa):Bool:=false
noncomputable def zC(_ _:KV)(_ _:Bool):Bool:=false
noncomputable def zF(Z:KV)(Z:Bool):Bool:=false
def gp(f:Nat->Bool)(v:KV):Bool:=@KV.rec (λzz=>Bool) false zB f zN zN false zC zP zN zF v
def AF(f:Nat->Bool)(v:KV):Bool:=@KV.rec (λzz=>Bool) false zB zN zN f false zC zP zN zF v
def eY(f:Pa->Bool)(v:KV):Bool:=@KV.rec (λzz=>Bool) false zB zN zN zN false zC f zN zF v
def qQ(b:Bool)(v:KV):Bool:=@KV.rec (λzz=>Bool) b zB zN zN zN false zC zP zN zF v
def Dv(f:Bool->Bool)(v:KV):Bool:=@KV.rec (λzz=>Bool) false f zN zN zN false zC zP zN zF v
def yx(f g:Nat->Bool)(v:KV):Bool:=@KV.rec (λzz=>Bool) false zB f g zN false zC zP zN zF v
def jT(z:Bool)(f:KV->KV->Bool)(v:KV):Bool:=@KV.rec (λZ=>Bool) false zB zN zN zN z (λx r Z Z=>f x r) zP zN zF v
def qO(f:KV->Bool)(g:Pa->Bool)(v:KV):Bool:=@KV.rec (λZ=>Bool) false zB zN zN zN (f .nil) (λx r Z Z=>f (.cons x r)) g zN zF v
def M0(f:KV->Bool)(v:KV):Bool:=@KV.rec (λZ=>Bool) false zB zN zN zN false zC zP zN (λx Z=>f x) v
def Du(f g:Nat->Bool)(v:KV):Bool:=@KV.rec (λzz=>Bool) false zB f zN zN false zC zP g zF v
def pP(s:Nat->Bool)(f:KV->Bool)(g:Pa->Bool)(v:KV):Bool:=@KV.rec (λZ=>Bool) false zB zN zN s (f .nil) (λx r Z Z=>f (.cons x r)) g zN zF v
noncomputable def oL(Z:Nat)(Z:KV):Bool:=false
noncomputable def oD(Z:Nat)(Z:KD):Bool:=false
noncomputable def oS(Z:KV):Bool:=false
noncomputable def oI(Z:Nat)(Z:T KV):Bool:=false
noncomputable def oC(Z:Pa)(Z:KV):Bool:=false
noncomputable def oP(_ _:KD):Bool:=false
def iQ(f:Nat->KV->Bool)(o:KO):Bool:=@KO.rec (λzz=>Bool) f oD oS oI oC zN oP o
def AG(f:Nat->KD->Bool)(o:KO):Bool:=@KO.rec (λzz=>Bool) oL f oS oI oC zN oP o
def nN(f:KV->Bool)(o:KO):Bool:=@KO.rec (λzz=>Bool) oL oD f oI oC zN oP o
def kj(f:Nat->T KV->Bool)(o:KO):Bool:=@KO.rec (λzz=>Bool) oL oD oS f oC zN oP o
def Fi(f:Pa->KV->Bool)(o:KO):Bool:=@KO.rec (λzz=>Bool) oL oD oS oI f zN oP o
def Fh(f:Nat->Bool)(o:KO):Bool:=@KO.rec (λzz=>Bool) oL oD oS oI oC f oP o
def sU(f:Nat->KD->Bool)(g:KD->KD->Bool)(o:KO):Bool:=@KO.rec (λzz=>Bool) oL f oS oI oC zN g o
section
variable{α:Type}
def ma(z:α)(f:KV->KV->α->α)(xs:KV):α:=@KV.rec (λZ=>α) z (λZ=>z) (λZ=>z) (λZ=>z) (λZ=>z) z (λx r Z ih=>f x r ih) (λZ=>z) (λZ=>z) (λZ Z=>z) xs
def wG(z:α)(f:KV->KV->α)(xs:KV):α:=ma z (λx r Z=>f x r) xs
end
def len(xs:KV):Nat:=ma 0 (λZ Z n=>Te n) xs
def app(xs ys:KV):KV:=ma ys (λx Z r=>.cons x r) xs
def ng(n:Nat):KV->Option KV:=@V3 (λZ=>KV->Option KV) (wG .none (λx Z=>.some x)) (λZ r xs=>wG .none (λZ s=>r s) xs) n
def AH(n:Nat)(xs:KV)(z:Bool)(k:KV->Bool):Bool:=ci (ng n xs) z k
def drop(n:Nat):KV->KV:=@V3 (λzz=>KV->KV) (λxs=>xs) (λzz r xs=>wG .nil (λzz s=>r s) xs) n
def take(n:Nat):KV->KV:=@V3 (λzz=>KV->KV) (λzz=>.nil) (λzz r xs=>wG .nil (λx s=>.cons x (r s)) xs) n
def uR(xs:KV):KV->KV:=ma (λa=>a) (λx Z r a=>r (.cons x a)) xs
def cM(a:KV):KV->Bool:=@KV.rec (λZ=>KV->Bool) (qQ true) (λb=>Dv (λc=>az b (az c true false) c)) (λn=>gp (SS n)) (λn=>yx zN (SS n)) (λn=>AF (SS n))
 (jT true (λZ Z=>false)) (λZ Z ix ir=>jT false (λy s=>az (ix y) false (ir s))) (λZ Z=>false) (λZ Z=>false) (λZ ix=>M0 ix) a
def iP(a:KV):Nat->Bool:=@KV.rec (λZ=>Nat->Bool) (λZ=>true) (λZ Z=>false) (λZ Z=>true) (λZ Z=>true) (λZ Z=>true)
 (λn=>T3 1 n) (λZ Z ix ir n=>@V3 (λZ=>Bool) false (λm Z=>az (ix m) false (ir (Te m))) n) (λZ Z=>false) (λZ Z=>false) (λZ Z Z=>false) a
def fM(a:KV):Nat->Bool:=@KV.rec (λZ=>Nat->Bool) (λZ=>true) (λZ Z=>true) (λZ Z=>true) (λZ Z=>true) (λZ Z=>true)
 (λn=>T3 1 n) (λZ Z ix ir n=>@V3 (λZ=>Bool) false (λm Z=>az (ix m) false (ir (Te m))) n) (λZ Z=>false) (λZ Z=>false) (λZ ix n=>@V3 (λZ=>Bool) false (λm Z=>ix (Te m)) n) a
def pk(a:KV):Bool:=iP a 5
def dl(es:KD)(x:KV):Option KV:=@KD.rec (λZ=>Option KV) .none (λa v Z r=>@Ue (λZ=>Option KV) r (.some v) (cM a x)) es
def cC(es:KD)(x:KV)(z:Bool)(k:KV->Bool):Bool:=ci (dl es x) z k
def dset(es:KD)(x v:KV):KD:=@KD.rec (λzz=>KD) (.cons x v .nil) (λa w r ih=>@Ue (λzz=>KD) (.cons a w ih) (.cons a v r) (cM a x)) es
set_option genCtorIdx false in
inductive KP where
 |mk (k v:KV)
def KL(n:Nat):KD->Option KP:=@V3 (λZ=>KD->Option KP) (λes=>@KD.rec (λZ=>Option KP) .none (λa b Z Z=>.some (.mk a b)) es) (λZ r es=>@KD.rec (λZ=>Option KP) .none (λZ Z s Z=>r s) es) n
def Dx(n:Nat)(es:KD)(z:Bool)(k:KV->KV->Bool):Bool:=@Vd KP (λzz=>Bool) z (λp=>@KP.rec (λzz=>Bool) k p) (KL n es)
end
end
end
section
set_option compiler.extract_closed false
section
section
noncomputable def xq:X:=λZ Z Z Z=>false
noncomputable def af(v:KV):X:=λZ Z k s=>k s v
def ae(q:Pa):X:=λzz e k s=>ci (tg q e) false (k s)
noncomputable def aj:X:=λZ Z k s=>k s .nil
noncomputable def ad(x r:X):X:=λc e k s=>x c e (λs v=>r c e (λs vs=>k s (.cons v vs)) s) s
def lO(k:KT)(s:KS)(n:Nat)(xs:KV):Bool:=az (T3 n 100000) false (k (bz s (.list n xs)) (.ref s.n))
def aS(xs:X):X:=λc e k s=>xs c e (λs vs=>lO k s (len vs) vs) s
def p7(xs:X):X:=λc e k s=>xs c e (λs vs=>az (T3 (len vs) 100000) false (k s (.fl vs))) s
def NF:X:=λZ Z k s=>k (bz s (.junk 0)) (.ref s.n)
def bT:X:=λZ Z k s=>k (bz s (.dict 0 .nil)) (.ref s.n)
def KR(sl:Pa)(k:KT):KT:=λs v=>eY (λq=>aZ q s (kj λzz fs=>ci (tg sl fs) false (k s))) v
def ai(sl:Pa)(o:X):X:=λc e k s=>o c e (KR sl k) s
def DT(sl:Pa)(c0:Nat)(v0:KV)(k:KT):KT:=λs v=>eY (λq=>aZ q s (kj λc fs=>ci (tg sl fs) (az (SS c c0) false (k s v0)) (k s))) v
def ur(sl:Pa)(c0:Nat)(v0:KV)(o:X):X:=λc e k s=>o c e (DT sl c0 v0 k) s
def Fu(c:Nat):KV:=@V2 Nat (λZ=>KV) .nil (λc Z r=>.cons (.str (gW [c])) r) (oE c)
def Fv(k:KV->Bool)(l:Nat)(i xs:KV):Bool:=yx (λn=>AH n xs false k) (λn=>az (T3 (Te n) l) false (AH (Um l (Te n)) xs false k)) i
def OI(k:KV->Bool)(i:KV)(es:KD):Bool:=az (pk i) false (cC es i false k)
def qR(f:Nat->KV->Bool)(g:Nat->KD->Bool)(o:KO):Bool:=@KO.rec (λzz=>Bool) f g oS oI oC zN oP o
def qP(s:Nat->Bool)(f:KV->Bool)(g:Pa->Bool)(l:KV->Bool)(v:KV):Bool:=@KV.rec (λZ=>Bool) false zB zN zN s (f .nil) (λx r Z Z=>f (.cons x r)) g zN (λx Z=>l x) v
def Jm(k:KT)(v:KV):KT:=λs i=>qP (λc=>Fv (k s) (len (Fu c)) i (Fu c)) (λxs=>Fv (k s) (len xs) i xs) (λq=>aZ q s (qR (λn xs=>Fv (k s) n i xs) (λzz es=>OI (k s) i es))) (λxs=>Fv (k s) (len xs) i xs) v
def av(o i:X):X:=λc e k s=>o c e (λs v=>i c e (Jm k v) s) s
def Jb(s:KS)(f:Nat->KV->Bool)(v:KV):Bool:=@KV.rec (λZ=>Bool) false zB zN zN zN false zC (λq=>aZ q s (iQ f)) zN (λxs Z=>f (len xs) xs) v
def tL(v:KV):Bool:=M0 (λzz=>true) v
def Pv(k:KT)(s:KS)(u v:KV):Bool:=Jb s (λn xs=>Jb s (λm ys=>az (az (tL u) false (tL v)) (lO k s (Nat.add n m) (app xs ys)) (az (T3 (Nat.add n m) 100000) false (k s (.fl (app xs ys))))) v) u
def NP(k:KT)(s:KS)(v:KV)(n:Nat):Bool:=az (SS n 0) false (gp (λzz=>k s (.tok 0)) v)
def cI(k:KT)(u:KV):KT:=λs v=>@KV.rec (λZ=>Bool) false zB (λa=>gp (λb=>k s (.nat (Nat.add a b))) v) zN zN false zC (λZ=>Pv k s u v) (NP k s v) (λZ Z=>Pv k s u v) u
def lP(k:KT)(u:KV):KT:=λs v=>Du (λa=>gp (λb=>az (T3 b a) (k s (.neg (Um b (Te a)))) (k s (.nat (Um a b)))) v) (NP k s v) u
def Jn(k:KT)(u:KV):KT:=λs v=>gp (λa=>gp (λb=>az (T3 a 1000000) false (k s (.nat (Nat.mul a b)))) v) u
def gS(k:KT)(u:KV):KT:=λs v=>gp (λb=>az (SS b 0) (yx (λa=>k s (.nat (Nat.mod a b))) (λa=>k s (.nat (Um b (Te (Nat.mod a b))))) u) false) v
def Jq(k:KT)(u:KV):KT:=λs v=>gp (λb=>az (SS b 0) (az (T3 b 1000000) false (gp (λa=>k s (.nat (Nat.div a b))) u)) false) v
def OH(k:KT)(u:KV):KT:=λs v=>gp (λa=>gp (λb=>az (SS a 10) false (az (SS b 20) false (k s (.nat 100000000000000000000)))) v) u
noncomputable def bj(op:KT->KV->KT)(a b:X):X:=λc e k s=>a c e (λs u=>b c e (op k u) s) s
def Mm(k:KT):KT:=λs v=>yx (λn=>@V3 (λZ=>Bool) (k s (.nat 0)) (λm Z=>k s (.neg m)) n) (λn=>k s (.nat (Te n))) v
def eC(a:X):X:=λc e k s=>a c e (Mm k) s
def GQ(t f:K0)(s:KS)(b:Bool):Bool:=az b (f s) (t s)
def PL(t f:K0)(s:KS)(o:KO):Bool:=@KO.rec (λZ=>Bool) (λn Z=>az (SS n 0) (t s) (f s)) (λn Z=>az (SS n 0) (t s) (f s)) oS (λc Z=>az (SS c 2) false (t s)) oC zN oP o
def KQ(t f:K0):KT:=λs v=>@KV.rec (λZ=>Bool) (f s) (λb=>az b (f s) (t s)) (λn=>az (SS n 0) (t s) (f s)) (λZ=>t s) (λn=>az (SS n 1) (t s) (f s)) (f s) (λZ Z Z Z=>t s) (λq=>aZ q s (PL t f s)) zN zF v
noncomputable def MW:Cn:=λZ Z Z Z Z=>false
def cT(x:X):Cn:=λc e t f s=>x c e (KQ t f) s
noncomputable def fQ(a:Cn):Cn:=λc e t f s=>a c e f t s
noncomputable def iq(a b:Cn):Cn:=λc e t f s=>a c e (b c e t f) f s
noncomputable def rJ(a b:Cn):Cn:=λc e t f s=>a c e t (b c e t f) s
noncomputable def MV(d a b:Cn):Cn:=λc e t f s=>d c e (a c e t f) (b c e t f) s
noncomputable def fj(a:Cn):X:=λc e k s=>a c e (λs=>k s (.bool true)) (λs=>k s (.bool false)) s
def qx(a b:X):X:=λc e k s=>a c e (λs v=>KQ (b c e k) (λs=>k s v) s v) s
def PK(a b:X):X:=λc e k s=>a c e (λs v=>KQ (λs=>k s v) (b c e k) s v) s
noncomputable def iL(d:Cn)(a b:X):X:=λc e k s=>d c e (a c e k) (b c e k) s
def Jp(t f:K0):KT:=λs v=>@KV.rec (λZ=>Bool) (t s) (λZ=>f s) (λZ=>f s) (λZ=>f s) (λZ=>f s) (f s) (λZ Z Z Z=>f s) (λZ=>f s) zN (λZ Z=>f s) v
def iF(x:X):Cn:=λc e t f s=>x c e (Jp t f) s
def yj(x:X):Cn:=λc e t f s=>x c e (Jp f t) s
def RA(v w:KV)(t f:K0)(s:KS):Bool:=az (pk v) false (az (pk w) false (GQ t f s (cM v w)))
def Cd(v w:KV)(t f:K0)(s:KS):Bool:=az (az (pk v) false (pk w)) (az (fM v 60) false (az (cM v w) false (t s))) (GQ t f s (cM v w))
def Ry(w:KV)(t f:K0)(s:KS)(q:Pa):Bool:=eY (λr=>aZ q s (iQ λzz xs=>aZ r s (iQ λzz ys=>RA xs ys t f s))) w
def eI(v:KV)(t f:K0):KT:=λs w=>@KV.rec (λZ=>Bool) (Cd v w t f s) zB (λZ=>Cd v w t f s) (λZ=>Cd v w t f s) (λZ=>Cd v w t f s) (Cd v w t f s) (λZ Z Z Z=>Cd v w t f s) (Ry w t f s) zN zF v
def OB(v w:KV)(t f:K0)(s:KS):Bool:=@KV.rec (λzz=>Bool) false zB (λa=>yx (λb=>GQ t f s (T3 (Te a) b)) (λzz=>f s) w) (λa=>yx (λzz=>t s) (λb=>GQ t f s (T3 (Te b) a)) w) zN false zC zP zN zF v
def my(v:KV)(t f:K0):KT:=λs w=>OB v w t f s
def rP(v:KV)(t f:K0):KT:=λs w=>OB w v t f s
def Gd(xs:KV):Bool:=ma true (λy Z r=>az (pk y) false r) xs
def mem(v xs:KV):Bool:=ma false (λy Z r=>az (cM y v) r true) xs
def Rq(v:KV)(t f:K0)(s:KS)(o:KO):Bool:=@KO.rec (λZ=>Bool) (λZ xs=>az (Gd xs) false (az (pk v) false (GQ t f s (mem v xs)))) (λZ es=>az (pk v) false (cC es v (f s) (λZ=>t s))) (λxs=>jT (AF (λZ=>f s) v) (λZ Z=>false) xs) oI oC zN oP o
def jU(v:KV)(t f:K0):KT:=λs w=>eY (λq=>aZ q s (Rq v t f s)) w
def pj(v:KV)(t f:K0):KT:=eI v f t
def Q3(v:KV)(t f:K0):KT:=rP v f t
def Mn(v:KV)(t f:K0):KT:=my v f t
def kQ(v:KV)(t f:K0):KT:=jU v f t
noncomputable def aA(op:KV->K0->K0->KT)(a b:X):Cn:=λc e t f s=>a c e (λs v=>b c e (op v t f) s) s
def u9(cs:List Nat)(a:X):Cn:=λc e t f s=>a c e (λs v=>AF (λd=>az (SS (Nat.div d 2097152) 1) false (GQ t f s (@V2 Nat (λZ=>Bool) false (λx Z r=>az (SS x d) r true) cs))) v) s
noncomputable def b8(q:Pa)(args:X):X:=λc e k s=>args c e (λs vs=>c q vs k s) s
def qv(c0:Nat)(q:Pa)(args:X):X:=λc e k s=>args c e (λs vs=>c q (.cons (.ref s.n) vs) (λs' v=>qQ (k s' (.ref s.n)) v) (bz s (.inst c0 .nil))) s
def qw(f args:X):X:=λc e k s=>f c e (λs v=>args c e (λs vs=>eY (λq=>aZ q s (Fi λq cs=>c q (app vs cs) k s)) v) s) s
def bU(c0:Nat)(q:Pa)(o args:X):X:=λc e k s=>o c e (λs v=>eY (λp=>aZ p s (kj λc1 Z=>az (SS c1 c0) false (args c e (λs vs=>c q (.cons v vs) k s) s))) v) s
def Q2(k:KT):KT:=λs v=>gp (λn=>az (T3 n 100000) false (k s (.nat n))) v
def OC(c0:Nat)(p:Pa)(c:Cl)(k:KT)(s:KS)(q:Pa)(o:KO):Bool:=@KO.rec (λZ=>Bool) (λn Z=>k s (.nat n)) oD (λxs=>jT (k s (.nat 0)) (λZ Z=>false) xs) (λc1 Z=>az (SS c1 c0) false (c p (.cons (.ref q) .nil) (Q2 k) s)) oC zN oP o
def cW(c0:Nat)(p:Pa)(a:X):X:=λc e k s=>a c e (λs v=>pP (λd=>k s (.nat (len (Fu d)))) (λxs=>k s (.nat (len xs))) (λq=>aZ q s (OC c0 p c k s q)) v) s
def rU(a:X):X:=λc e k s=>a c e (λs v=>eY (λq=>aZ q s (iQ λzz xs=>k s xs)) v) s
def kF(es:KD):KV:=@KD.rec (λZ=>KV) .nil (λa Z Z r=>.cons a r) es
def gu(a:X):X:=λc e k s=>a c e (λs v=>qO (λxs=>lO k s (len xs) xs) (λq=>aZ q s (qR (lO k s) (λn es=>lO k s n (kF es)))) v) s
def Cq:X:=λZ Z k s=>k (bz s (.set .nil)) (.ref s.n)
def Jo(k:KT)(u:KV):KT:=λs v=>gp (λa=>gp (λb=>k s (.nat (@Ue (λzz=>Nat) a b (T3 (Te b) a)))) v) u
def MZ(xs:KV)(k:Bool->Bool):Bool:=ma (λb k=>k b) (λx Z r b k=>Dv (λd=>r (az d false b) k) x) xs true k
def Gi(a:X):X:=λc e k s=>a c e (λs v=>eY (λq=>aZ q s (iQ λzz xs=>MZ xs λb=>k s (.bool b))) v) s
def dy(o x:X):X:=λc e k s=>o c e (λs v=>eY (λq=>aZ q s (iQ λZ Z=>x c e (λs w=>aZ q s (iQ λn xs=>az (T3 (Te n) 100000) false (k (bV s q (.list (Te n) (app xs (.cons w .nil)))) .none))) s)) v) s
def Gh(o x:X):X:=λc e k s=>o c e (λs v=>eY (λq=>aZ q s (Fh λZ=>x c e (λs Z=>aZ q s (Fh λn=>az (T3 (Te n) 100000) false (k (bV s q (.junk (Te n))) .none))) s)) v) s
noncomputable def dflt:KV:=.cons (.str 40567024288966772448377926844532) (.cons (.nat 0) .nil)
def yG(k:KT)(s:KS)(q:Pa)(i d:KV):Bool:=aZ q s (sU (λzz es=>az (pk i) false (cC es i (k s d) (k s))) (λa m=>az (pk i) false (cC a i (cC m i (k s d) (λv=>az (cM d dflt) false (k s v))) (k s))))
def gK(o i:X):X:=λc e k s=>o c e (λs v=>eY (λq=>aZ q s (sU (λZ Z=>i c e (λs i=>yG k s q i .none) s) (λZ Z=>i c e (λs i=>yG k s q i .none) s))) v) s
def iu(o i d:X):X:=λc e k s=>o c e (λs v=>eY (λq=>aZ q s (sU (λZ Z=>i c e (λs i=>d c e (λs d=>yG k s q i d) s) s) (λZ Z=>i c e (λs i=>d c e (λs d=>yG k s q i d) s) s))) v) s
def Cr(o:X):X:=λc e k s=>o c e (λs v=>eY (λq=>aZ q s (iQ λn xs=>@V3 (λZ=>Bool) false (λm Z=>AH m xs false (k (bV s q (.list m (take m xs))))) n)) v) s
def rW(o:X):X:=λc e k s=>o c e (λs v=>eY (λq=>aZ q s (iQ λn xs=>jT false (λx r=>k (bV s q (.list (Nat.pred n) r)) x) xs)) v) s
def Jt(k:KT)(s:KS)(q:Pa)(i w:KV):Bool:=aZ q s (iQ λn xs=>az (T3 (Te n) 100000) false (gp (λi=>az (T3 i n) false (k (bV s q (.list (Te n) (app (take i xs) (.cons w (drop i xs))))) .none)) i))
def Gg(o i x:X):X:=λc e k s=>o c e (λs v=>eY (λq=>aZ q s (iQ λZ Z=>i c e (λs i=>x c e (λs w=>Jt k s q i w) s) s)) v) s
def rV(o x:X):X:=λc e k s=>o c e (λs v=>eY (λq=>aZ q s (nN λzz=>x c e (λs w=>aZ q s (nN λxs=>AF (λd=>az (T3 (len xs) 1000) false (k (bV s q (.set (.cons (.str d) xs))) .none)) w)) s)) v) s
noncomputable def ki(c:Nat):Bool:=T3 32 c&&Nat.blt c 127&&!SS c 39&&!SS c 92
noncomputable def qK(c:Nat):Option (List Nat):=match(oE c).all ki with
 |true=>some (39::(oE c++[39]))
 |false=>none
noncomputable def jy(sep:List Nat):List (List Nat)->List Nat
 |[]=>[]
 |[x]=>x
 |x::r=>x++sep++jy sep r
noncomputable def kX(g:Nat->Option (List Nat)):KV->Option (List (List Nat))
 |.nil=>some []
 |.cons (.str c) r=>match g c,kX g r with
  |some x,some xs=>some (x::xs)
  |_,_=>none
 |_=>none
noncomputable def QU(l:List Nat):Bool:=T3 l.length 190&&l.all (λc=>Nat.blt c 1114112)
def Ma(k:KV->Bool)(l:List Nat):Bool:=az (QU l) false (k (.str (gW l)))
def LY(o:Option (List (List Nat)))(k:List (List Nat)->Bool):Bool:=@Vd _ (λzz=>Bool) false k o
def vM(sep:Nat)(x:X):X:=λc e k s=>x c e (λs v=>az (T3 (len v) 1000) false (LY (kX (λc=>some (oE c)) v) λys=>Ma (k s) (jy (oE sep) ys))) s
def Ro(k:KT):KT:=λs v=>@KV.rec (λzz=>Bool) false zB zN zN (λc=>k s (.str c)) false zC (λq=>aZ q s (iQ λzz xs=>LY (kX qK xs) λys=>Ma (k s) (91::(jy [44,32] ys++[93])))) zN zF v
def rZ(x:X):X:=λc e k s=>x c e (Ro k) s
def iX(x r:X):X:=λc e k s=>x c e (λs v=>AF (λzz=>r c e (λs vs=>k s (.cons v vs)) s) v) s
def rX(xs:X):X:=λc e k s=>xs c e (λs vs=>LY (kX (λc=>some (oE c)) vs) λl=>Ma (k s) l.flatten) s
def yS(o:X):X:=λc e k s=>o c e (λs v=>Jb s (lO k s) v) s
def rY(o i:X):X:=λc e k s=>o c e (λs v=>i c e (λs i=>gp (λi=>qO (λxs=>az (T3 1 i) false (az (T3 i (len xs)) false (k s (drop i xs)))) (λq=>aZ q s (iQ λn xs=>lO k s (Um n i) (drop i xs))) v) i) s) s
def yw(o i:X):X:=λc e k s=>o c e (λs v=>i c e (λs i=>gp (λi=>Jb s (λn xs=>lO k s (@Ue (λzz=>Nat) n i (T3 i n)) (take i xs)) v) i) s) s
set_option genCtorIdx false in
inductive KI where
 |seq (xs:KV)|list (q:Pa) (i:Nat)|dict (q:Pa) (i n:Nat)|items (q:Pa) (i n:Nat)|enum (k:Nat) (it:KI)
abbrev NT:=KS->Bool->(KV->KI->Bool)->Bool
def j0(it:KI):NT:=@KI.rec (λZ=>NT)
 (λxs Z z k=>jT z (λx r=>k x (.seq r)) xs)
 (λq i s z k=>aZ q s (iQ λZ xs=>AH i xs z λx=>k x (.list q (Te i))))
 (λq i n s z k=>aZ q s (AG λm es=>az (SS m n) false (Dx i es z λx Z=>k x (.dict q (Te i) n))))
 (λq i n s z k=>aZ q s (AG λm es=>az (SS m n) false (Dx i es z λx y=>k (.cons x (.cons y .nil)) (.items q (Te i) n))))
 (λj Z ih s z k=>ih s z λx it=>k (.cons (.nat j) (.cons x .nil)) (.enum (Te j) it)) it
abbrev XI:=Cl->En->(KI->KS->Bool)->KS->Bool
noncomputable def OM:XI:=λZ Z Z Z=>false
def aG(x:X):XI:=λc e k s=>x c e (λs v=>pP (λd=>k (.seq (Fu d)) s) (λxs=>k (.seq xs) s) (λq=>aZ q s (qR (λZ Z=>k (.list q 0) s) (λn Z=>k (.dict q 0 n) s))) v) s
def tM(x:X):XI:=λc e k s=>x c e (λs v=>qO (λxs=>k (.enum 0 (.seq xs)) s) (λq=>aZ q s (iQ λZ Z=>k (.enum 0 (.list q 0)) s)) v) s
def vc(x:X):XI:=λc e k s=>x c e (λs v=>eY (λq=>aZ q s (AG λn Z=>k (.items q 0 n) s)) v) s
noncomputable def rg(n:Nat):Nat->KV:=@V3 (λzz=>Nat->KV) (λzz=>.nil) (λzz r a=>.cons (.nat a) (r (Te a))) n
def KH(k:KI->KS->Bool)(s:KS)(a b:Nat):Bool:=az (T3 b 5000) false (az (T3 a 5000) false (k (.seq (rg (Um b a) a)) s))
def mA(x:X):XI:=λc e k s=>x c e (λs v=>gp (λb=>KH k s 0 b) v) s
def wO(x y:X):XI:=λc e k s=>x c e (λs u=>y c e (λs v=>gp (λa=>gp (λb=>KH k s a b) v) u) s) s
abbrev Tg:=KV->En->(En->Bool)->Bool
def t1(q:Pa):Tg:=λv e k=>k (tp q v e)
def tN:Tg:=λv e k=>jT (k e) (λZ Z=>false) v
def tC(a r:Tg):Tg:=λv e k=>jT false (λx s=>a x e λe=>r s e k) v
def jC(vs:KV):Pa->En->(En->Bool)->Bool:=ma (λZ e k=>k e) (λx Z r q e k=>r (qs q) (tp q x e) k) vs
noncomputable def kR:Nat:=5000
abbrev CY:=KI->En->KV->KS->Bool
def MO{β:Type}(tg:Tg)(test:Cn)(put:Cl->En->(β->K0)->β->K0)(c:Cl)(k:β->K0)(n:Nat):KI->En->β->K0:=@V3 (λZ=>KI->En->β->K0) (λZ Z Z Z=>false)
 (λZ ih it e a s=>j0 it s (k a s) λv it=>tg v e λe=>test c e (put c e (ih it e) a) (ih it e a) s) n
noncomputable def pL(elt:X)(c:Cl)(e:En)(k:KV->K0)(acc:KV):K0:=elt c e λs w=>k (.cons w acc) s
def Ce(tg:Tg)(elt:X)(test:Cn)(c:Cl)(k:KS->KV->Bool)(n:Nat):CY:=MO tg test (pL elt) c (λacc s=>k s (uR acc .nil)) n
def fS(it:XI)(caps:X)(tg:Tg)(elt:X)(test:Cn):X:=λc e k s=>it c e (λit s=>caps c e (λs cs=>jC cs .e .nil λe=>Ce tg elt test c (λs xs=>lO k s (len xs) xs) kR it e .nil s) s) s
def Bw(vs:KV):Option KV->Nat->KD->(Nat->KD->Bool)->Bool:=@ma (Option KV->Nat->KD->(Nat->KD->Bool)->Bool) (λZ n d k=>k n d)
 (λx Z r p n d k=>@Vd KV (λZ=>Bool) (r (.some x) n d k) (λa=>az (pk a) false (cC d a (r .none (Te n) (dset d a x) k) (λZ=>r .none n (dset d a x) k))) p) vs
def s8(xs:X):X:=λc e k s=>xs c e (λs' vs=>aZ s.n s' (AG λn0 d0=>az (T3 n0 0) false (Bw vs .none n0 d0 λn d=>k (bV s' s.n (.dict n d)) (.ref s.n)))) (bz s (.dict 0 .nil))
noncomputable def iB:Cn:=λZ Z t Z s=>t s
def xp(q:Pa)(caps:X):X:=λc e k s=>caps c e (λs cs=>k (bz s (.clo q cs)) (.ref s.n)) s
noncomputable def fH:Y:=λZ Z Z Z Z=>false
noncomputable def aX(x:X):Y:=λc F k e s=>x c e (λs Z=>k e s) s
noncomputable def ao(tg:Tg)(x:X):Y:=λc F k e s=>x c e (λs v=>tg v e λe=>k e s) s
def uN(sl:Pa)(k:K0)(s:KS)(w v:KV):Bool:=eY (λq=>aZ q s (kj λc fs=>k (bV s q (.inst c (tp sl v fs))))) w
def cF(sl:Pa)(o x:X):Y:=λc F k e s=>x c e (λs v=>o c e (λs w=>uN sl (k e) s w v) s) s
def LP(k:K0)(s:KS)(q:Pa)(i v:KV)(n:Nat)(es:KD):Bool:=az (pk i) false (az (T3 (Te n) 100000) false (cC es i (k (bV s q (.dict (Te n) (dset es i v)))) (λzz=>k (bV s q (.dict n (dset es i v))))))
def O8(k:K0)(s:KS)(q:Pa)(i v:KV)(n:Nat)(xs:KV):Bool:=gp (λj=>az (T3 (Te j) n) false (k (bV s q (.list n (app (take j xs) (.cons v (drop (Te j) xs))))))) i
def LO(k:K0)(s:KS)(w i v:KV):Bool:=eY (λq=>aZ q s (qR (O8 k s q i v) (LP k s q i v))) w
def pD(kx vx:X)(c:Cl)(e:En)(k:Pa->K0)(q:Pa):K0:=kx c e λs a=>vx c e (λs w=>aZ q s (AG λn es=>LP (k q) s q a w n es)) s
def yR(it:XI)(caps:X)(tg:Tg)(kx vx:X)(test:Cn):X:=λc e k s=>it c e (λit s=>caps c e (λs cs=>jC cs .e .nil λe=>MO tg test (pD kx vx) c (λq s=>k s (.ref q)) kR it e s.n (bz s (.dict 0 .nil))) s) s
def bR(o i x:X):Y:=λc F k e s=>x c e (λs v=>o c e (λs w=>i c e (λs i=>LO (k e) s w i v) s) s) s
def uo(q:Pa)(op:KT->KV->KT)(x:X):Y:=λc F k e s=>ci (tg q e) false λu=>gp (λzz=>x c e (op (λs r=>k (tp q r e) s) u) s) u
def lZ(rd:KT->KT)(sl:Pa)(op:KT->KV->KT)(o x:X):Y:=λc F k e s=>o c e (λs w=>rd (λs u=>Du (λzz=>x c e (op (λs r=>uN sl (k e) s w r) u) s) (λzz=>x c e (op (λs r=>uN sl (k e) s w r) u) s) u) s w) s
def yO(o:X):Y:=λc F k e s=>o c e (λs v=>eY (λq=>aZ q s (iQ λn xs=>az (T3 2 n) false (k e (bV s q (.list (Um n 2) (take (Um n 2) xs)))))) v) s
def C8(f:Nat->Bool)(v:KV):Bool:=@KV.rec (λzz=>Bool) false zB zN zN zN false zC zP f zF v
def eV(q:Pa)(e:En)(f:KV->Bool):Bool:=ci (tg q e) false f
noncomputable def Bq(r a j n:Nat):Nat:=Nat.add 12 (Nat.add (Nat.mul (Nat.add (Nat.mul (Nat.add (Nat.mul r 8) a) 64) j) 64) n)
def OA(l:Nat)(k:Nat->Bool):Bool:=az (SS l (Nat.add 3 (Nat.mul 2 (Nat.div (Um l 3) 2)))) false (az (T3 l 11) false (k (Nat.div (Um l 3) 2)))
def Pi(la lr wr j n:Nat)(k:KV->Bool):Bool:=az (SS lr (Te wr)) false (OA la λa=>OA lr λr=>az (T3 j 63) false (az (T3 n 63) false (k (.tok (Bq r a j n)))))
def JY(e:En)(j n:Nat)(k:KV->Bool):Bool:=eV (.a (.b .e)) e (C8 λla=>eV (.c (.b .e)) e (C8 λlr=>eV (.b (.b .e)) e (C8 λwr=>Pi la lr wr j n k)))
def B0(sr rd:Pa)(e:En)(s:KS)(m:Nat)(k:Pa->Nat->Bool):Bool:=eV .e e (eY λq0=>aZ q0 s (kj λzz fs=>ci (tg sr fs) false (eY λq3=>aZ q3 s (Fh λjn=>az (T3 (Te jn) 100000) false (
 eV (.a .e) e (eY λq4=>aZ q4 s (iQ λzz ps=>AH m ps false (eY λq5=>aZ q5 s (kj λzz f5=>ci (tg rd f5) false (C8 λt=>az (SS t 0) false (k q3 jn)))))))))))
def JX(e:En)(s:KS)(k:Pa->Nat->KD->KV->KV->Pa->Nat->KD->Pa->Bool):Bool:=eV (.a (.a .e)) e (eY λq1=>aZ q1 s (AG λm1 es=>eV (.g (.a .e)) e λva=>az (pk va) false (cC es va false λcur=>eV (.b (.a .e)) e (eY λq2=>aZ q2 s (AG λm2 es2=>cC es2 va false (eY λqo=>eV (.h .e) e λzz=>az (T3 (Te m1) 100000) false (az (T3 (Te m2) 100000) false (k q1 m1 es va cur q2 m2 es2 qo))))))))
def vp(s:KS)(q1:Pa)(m1:Nat)(es:KD)(va t:KV)(q2:Pa)(m2:Nat)(es2:KD)(q3:Pa)(jn:Nat):KS:=bV (bV (bV s q1 (.dict m1 (dset es va t))) q2 (.dict m2 (dset es2 va (.tok 1)))) q3 (.junk (Te jn))
def yQ(num sr rd:Pa):Y:=λc F k e s=>JX e s λq1 m1 es va cur q2 m2 es2 qo=>gp (λj=>eV (.d (.a .e)) e (eY λqp=>aZ qp s (kj λzz fs=>ci (tg num fs) false (gp λn=>az (T3 1 n) false (B0 sr rd e s n λq3 jn=>JY e j n λt=>k e (vp s q1 m1 es va t q2 m2 es2 q3 jn)))))) cur
def yP(num sr rd jq:Pa):Y:=λc F k e s=>JX e s λq1 m1 es va cur q2 m2 es2 qo=>yx zN (λn=>eV jq e (gp λj=>eV (.d (.a .e)) e (eY λzz=>aZ qo s (kj λzz fs=>ci (tg num fs) false (gp λm=>B0 sr rd e s m λq3 jn=>JY e j (Te n) λt=>k e (vp s q1 m1 es va t q2 m2 es2 q3 jn)))))) cur
noncomputable def bE(d:Cn)(a b:Y):Y:=λc F k e s=>d c e (a c F k e) (b c F k e) s
noncomputable def bL(x:X):Y:=λc F Z e s=>x c e F.ret s
noncomputable def F0:Y:=λZ F Z Z s=>F.ret s .none
noncomputable def mR:Y:=λZ F Z e s=>F.brk e s
noncomputable def lJ:Y:=λZ F Z e s=>F.cont e s
noncomputable def ab:Y:=λZ Z k e s=>k e s
noncomputable def ac(a b:Y):Y:=λc F k e s=>a c F (b c F k) e s
noncomputable def Gf(d:Cn):Y:=λc F k e s=>d c e (k e) (λzz=>false) s
def KM(tg:Tg)(b o:Y)(c:Cl)(F:Fr)(k:En->K0)(n:Nat):KI->En->KS->Bool:=@V3 (λZ=>KI->En->KS->Bool) (λZ Z Z=>false)
 (λZ ih it e s=>j0 it s (o c F k e s) λv it=>tg v e λe=>b c ⟨k,ih it,F.ret⟩ (ih it) e s) n
def cj(it:XI)(tg:Tg)(b o:Y):Y:=λc F k e s=>it c e (λit s=>KM tg b o c F k kR it e s) s
noncomputable def NG(d:Cn)(b o:Y)(c:Cl)(F:Fr)(k:En->K0)(n:Nat):En->KS->Bool:=@V3 (λZ=>En->KS->Bool) (λZ Z=>false)
 (λZ ih e s=>d c e (b c ⟨k,ih,F.ret⟩ ih e) (o c F k e) s) n
noncomputable def ez(d:Cn)(b o:Y):Y:=λc F k e s=>NG d b o c F k kR e s
noncomputable def NB:Nat:=0
noncomputable def NC:Nat:=1
abbrev PX:=Cl->En->KS->(KV->Bool)->(Nat->Bool)->Bool
noncomputable def pX(x:X):PX:=λc e s k Z=>x c e (λZ v=>k v) s
def Dt(k:KV->Bool)(r:Nat->Bool)(l:Nat)(i xs:KV):Bool:=yx (λn=>az (T3 n 1000000000) false (AH n xs (r NC) k)) (λn=>az (T3 (Te n) 1000000000) false (az (T3 (Te n) l) (r NC) (AH (Um l (Te n)) xs false k))) i
def uW(o i:PX):PX:=λc e s k r=>o c e s (λv=>i c e s (λi=>qO (λxs=>Dt k r (len xs) i xs) (λq=>aZ q s (qR (λn xs=>Dt k r n i xs) (λzz es=>az (pk i) false (cC es i (r NB) k)))) v) r) r
def yN(p:PX)(ks:List Nat)(b h:Y):Y:=λc F k e s=>p c e s (λzz=>b c F k e s) (λx=>az (ks.any (SS x)) false (h c F k e s))
set_option genCtorIdx false in
inductive Code where
 |fn (np:Nat) (ds:KV) (y:Y)
 |lam (np:Nat) (x:X)
def Nt(c:Cl)(vs:KV)(k:KT)(s:KS)(np:Nat)(ds:KV)(y:Y):Bool:=az (T3 (len vs) np) false (az (T3 (Um np (len vs)) (len ds)) false (jC (app vs (drop (Um (len ds) (Um np (len vs))) ds)) .e .nil λe=>y c ⟨λZ Z=>false,λZ Z=>false,k⟩ (λZ s=>k s .none) e s))
def Qi(c:Cl)(vs:KV)(k:KT)(s:KS)(np:Nat)(x:X):Bool:=az (SS (len vs) np) false (jC vs .e .nil λe=>x c e k s)
def aT(tab:T Code)(d:Nat):Cl:=@V3 (λZ=>Cl) (λZ Z Z Z=>false) (λZ ih q vs k s=>ci (tg q tab) false λf=>@Code.rec (λZ=>Bool) (Nt ih vs k s) (Qi ih vs k s) f) d
end
end
end
section
set_option compiler.extract_closed false
section
open PySem PySem.W PyProof.Rows
section
def yy(s:Str):Prop:=(∀c∈s.cps.toList,c<1114112)∧s.cps.size≤190
theorem qS{s:Str}(h:Fj s=true):yy s:=by
 refine iJ h ?_;intro a b;exact⟨λc hc=>SP (TP.mp a c hc),SP b⟩
noncomputable def gJ:List Nat->Nat
 |[]=>1
 |c::r=>gJ r*2097152+c
theorem ox(l:List Nat):gW l=gJ l.reverse:=by
 unfold gW;refine rwl List.foldr_reverse ?_;generalize l.reverse=m;induction m with
 |nil=>rfl
 |cons c r ih=>simp only[List.foldr_cons,gJ,ih]
theorem ou(l:List Nat):1≤gJ l:=by
 induction l with
 |nil=>exact TA 1
 |cons c r ih=>simp only[gJ];lia
theorem yc(m:List Nat):∀(f:Nat)(acc:List Nat),(∀c∈m,c<2097152)->m.length≤f->BA f (gJ m) acc=m.reverse++acc:=by
 induction m with
 |nil=>intro f acc _ _;cases f<;>rfl
 |cons c r ih=>
  intro f acc hc h;cases f with
  |zero=>simp at h
  |succ f=>
   have h1:=ou r;have h0:=hc c SX;have e:T3 (gJ (c::r)) 1=false:=by rw[←Bool.not_eq_true];intro q;have:=SP q;rw[gJ]at this;lia
   have e1:gJ (c::r)/2097152=gJ r:=by rw[gJ];lia
   have e2:gJ (c::r)%2097152=c:=by rw[gJ];simp_all+arith
   rw[BA,e,e1,e2];show BA f (gJ r) (c::acc)=_;rw[ih f _ (λx hx=>hc x (T5 _ hx)) (by simpa using h)];simp
theorem Bz(l:List Nat)(hc:∀c∈l,c<2097152)(hl:l.length≤200):oE (gW l)=l:=by
 unfold oE;rw[ox,yc _ _ _ (λc h=>hc c (List.mem_reverse.mp h)) (by simpa using hl)];simp
theorem fF{s:Str}(ok:yy s):oE (iI s)=s.cps.toList:=
 Bz _ (λc h=>Nat.lt_trans (ok.1 c h) (by decide)) (by have:=ok.2;refine rwr T4 ?_;lia)
theorem wZ{s t:Str}(hs:yy s)(ht:yy t)(h:iI s=iI t):s=t:=by
 have e:=(fF hs).symm.trans ((congrArg oE h).trans (fF ht));obtain⟨⟨a⟩⟩:=s;obtain⟨⟨b⟩⟩:=t;simp only at e;exact rwr e rfl
noncomputable def GS(c:Nat):Str:=⟨(oE c).toArray⟩
theorem mq{s:Str}(hs:yy s):GS (iI s)=s:=by unfold GS;exact rwr (fF hs) rfl
structure iK where
 fst:Tw
 snd:Tw
 cs:List Tw
structure Cx where
 prog:Vl
 w:VX
 K:Frag
 h₀:UT
 fnAt:Pa->Option Tw
 clsAt:Nat->Option Tw
 sl:Str->Option Pa
 lam:Pa->Option (Ux×SQ×Vv)
 asg:Str->Bool
 vol:List Tw
 volQ:Tw->Str
 g:Array X0
 d:Drawn
 os:OsState
 tk:Nat->KV
structure Wd where
 ρ:Pa->Option iK
 h:UT
 fz:Tw->Prop
variable{C:Cx}{R R' R'':Wd}
def pb(v:SU):KV->Prop
 |.none=>v=.none
 |.nat n=>∃t,v=.int n t
 |.neg n=>∃t,v=.int (.negSucc n) t
 |.str c=>∃s t,v=.str s t∧iI s=c∧yy s
 |_=>False
def TK(C:Cx)(v:SU):Nat->Prop
 |0=>∃i t,v=.int i t
 |1=>handedIn v=true
 |n+2=>pb v (C.tk n)
noncomputable def gz(vs:Array SU)(k:Nat):Obj:={cls:=.type "list",data:=.seq vs k}
noncomputable def Cj(C:Cx)(R:Wd):KV->(SU->Prop)×(List SU->Prop)
 |.none=>(λv=>v=.none,λzz=>False)
 |.bool b=>(λv=>v=.bool b,λzz=>False)
 |.nat n=>(λv=>∃t,v=.int n t,λzz=>False)
 |.neg n=>(λv=>∃t,v=.int (.negSucc n) t,λzz=>False)
 |.str c=>(λv=>∃s t,v=.str s t∧iI s=c∧yy s,λzz=>False)
 |.nil=>(λv=>∃a,v=.ref a∧R.h.IsTuple a #[],λvs=>vs=[])
 |.cons x r=>(λv=>∃a u us,v=.ref a∧R.h.IsTuple a (u::us).toArray∧(Cj C R x).1 u∧(Cj C R r).2 us∧(u::us).length≤100000,λvs=>∃u us,vs=u::us∧(Cj C R x).1 u∧(Cj C R r).2 us)
 |.ref q=>(λv=>∃p,R.ρ q=some p∧v=.ref p.1,λzz=>False)
 |.tok n=>(λv=>TK C v n,λzz=>False)
 |.fl x=>(λv=>∃a vs k,v=.ref a∧R.fz a∧R.h.get? a=some (gz vs k)∧(Cj C R x).2 vs.toList∧vs.size≤100000,λzz=>False)
def VR(C:Cx)(R:Wd)(x:KV)(v:SU):Prop:=(Cj C R x).1 v
def bG(C:Cx)(R:Wd)(x:KV)(vs:List SU):Prop:=(Cj C R x).2 vs
theorem VR.none_:VR C R .none .none:=rfl
theorem VR.bool_{b:Bool}:VR C R (.bool b) (.bool b):=rfl
theorem VR.nat_{n:Nat}{t:Tok}:VR C R (.nat n) (.int n t):=⟨t,rfl⟩
theorem VR.neg_{n:Nat}{t:Tok}:VR C R (.neg n) (.int (.negSucc n) t):=⟨t,rfl⟩
theorem VR.str_{s:Str}{t:Tok}(ok:yy s):VR C R (.str (iI s)) (.str s t):=⟨s,t,rfl,rfl,ok⟩
theorem VR.tup{x:KV}{vs:List SU}{a:Tw}(h:bG C R x vs)(t:R.h.IsTuple a vs.toArray)(l:vs.length≤100000):VR C R x (.ref a):=by
 cases x with
 |nil=>exact⟨a,rfl,by cases h;exact t⟩
 |cons x r=>refine aH h ?_;clear h;rintro u us rfl h1 h2;exact⟨a,u,us,rfl,t,h1,h2,l⟩
 |_=>exact h.elim
theorem bG.nil_:bG C R .nil []:=rfl
theorem bG.cons_{x r:KV}{v:SU}{vs:List SU}(h:VR C R x v)(t:bG C R r vs):bG C R (.cons x r) (v::vs):=⟨v,vs,rfl,h,t⟩
theorem bG.ind{P:KV->List SU->Prop}(h0:P .nil [])(h1:∀x r u us,VR C R x u->bG C R r us->P r us->P (.cons x r) (u::us))(x:KV):∀vs,bG C R x vs->P x vs:=by
 induction x with
 |nil=>intro vs h;cases h;exact h0
 |cons x r _ ih=>intro vs h;refine aH h ?_;rintro u us rfl a b;exact h1 x r u us a b (ih us b)
 |_=>exact λzz h=>False.elim h
section
variable{x y:KV}{vs us:List SU}
theorem bG.len_eq:bG C R x vs->len x=vs.length:=bG.ind (P:=λx vs=>len x=vs.length) rfl (λZ Z Z Z Z Z i=>congrArg Te i) x vs
theorem bG.get(h:bG C R x vs){n:Nat}:∀{y:KV},ng n x=some y->∃v,vs[n]?=some v∧VR C R y v:=λ{y}=>bG.ind (P:=λx vs=>∀n,ng n x=some y->∃v,vs[n]?=some v∧VR C R y v) (λn e=>by cases n<;>exact dh e) (λZ Z u Z h1 Z i n e=>by
 cases n with
 |zero=>cases e;exact⟨u,rfl,h1⟩
 |succ n=>exact i n e) x vs h n
theorem bG.none(h:bG C R x vs){n:Nat}:ng n x=Option.none->vs.length≤n:=bG.ind (P:=λx vs=>∀n,ng n x=Option.none->vs.length≤n) (λn Z=>TQ n) (λZ Z Z Z Z Z i n e=>by
 cases n with
 |zero=>exact Ff e
 |succ n=>exact TY (i n e)) x vs h n
theorem bG.append(h:bG C R x vs)(k:bG C R y us):bG C R (app x y) (vs++us):=bG.ind (P:=λx vs=>bG C R (app x y) (vs++us)) k (λZ Z Z Z h1 Z i=>.cons_ h1 i) x vs h
theorem bG.take_(n:Nat)(h:bG C R x vs):bG C R (take n x) (vs.take n):=bG.ind (P:=λx vs=>∀n,bG C R (take n x) (vs.take n)) (λn=>by cases n<;>rfl) (λZ Z Z Z h1 Z i n=>by
 cases n with
 |zero=>rfl
 |succ n=>exact .cons_ h1 (i n)) x vs h n
theorem bG.drop_(n:Nat)(h:bG C R x vs):bG C R (drop n x) (vs.drop n):=bG.ind (P:=λx vs=>∀n,bG C R (drop n x) (vs.drop n)) (λn=>by cases n<;>rfl) (λZ Z Z Z h1 h2 i n=>by
 cases n with
 |zero=>exact .cons_ h1 h2
 |succ n=>exact i n) x vs h n
theorem bG.rev_(h:bG C R x vs)(k:bG C R y us):bG C R (uR x y) (vs.reverse++us):=bG.ind (P:=λx vs=>∀y us,bG C R y us->bG C R (uR x y) (vs.reverse++us)) (λZ Z k=>k) (λZ Z Z Z h1 Z i Z Z k=>by rw[VT,UP];exact i _ _ (.cons_ h1 k)) x vs h y us k
end
noncomputable def hp(w:VX):KV->Int×List Int
 |.none=>(0xFCA86420,[])
 |.nat n=>(hashInt n,[])
 |.neg n=>(hashInt (.negSucc n),[])
 |.str c=>(hashStr w (GS c),[])
 |.nil=>(reduceHash (Up []),[])
 |.cons x r=>(reduceHash (Up ((hp w x).1::(hp w r).2)),(hp w x).1::(hp w r).2)
 |_=>(0,[])
noncomputable def wP(w:VX)(x:KV):Int:=(hp w x).1
noncomputable def dp:KV->PyData×List PyData
 |.bool b=>(.bool b,[])
 |.fl x=>(.list (dp x).2,[])
 |.nat n=>(.int n,[])
 |.neg n=>(.int (.negSucc n),[])
 |.str c=>(.str (GS c),[])
 |.nil=>(.tuple [],[])
 |.cons x r=>(.tuple ((dp x).1::(dp r).2),(dp x).1::(dp r).2)
 |_=>(.none,[])
noncomputable def dK(x:KV):PyData:=(dp x).1
theorem aO{b c:Bool}:az b false c=true↔b=true∧c=true:=by cases b<;>simp[az]
theorem dI{b c:Bool}{G:Prop}(h:az b false c=true)(k:b=true->c=true->G):G:=k (aO.mp h).1 (aO.mp h).2
theorem yk{b c:Bool}:az b c true=true↔b=true∨c=true:=by cases b<;>simp[az]
theorem dX{x r:KV}{n:Nat}(h:iP (.cons x r) n=true){G:Prop}(k:∀m,iP x m=true->iP r (m+1)=true->n=m+1->G):G:=by
 cases n with
 |zero=>exact aD h
 |succ m=>exact k m (aO.mp h).1 (aO.mp h).2 rfl
theorem qa{x r:KV}{n:Nat}(h:fM (.cons x r) n=true):∃m,n=m+1∧fM x m=true∧fM r (m+1)=true:=by
 cases n with
 |zero=>exact aD h
 |succ m=>exact⟨m,rfl,aO.mp h⟩
theorem jO{x r:KV}{n:Nat}(h:fM (.cons x r) n=true){G:Prop}(k:∀m,n=m+1->fM x m=true->fM r (m+1)=true->G):G:=aM (qa h) k
theorem iA:∀(x:KV){n:Nat},iP x n=true->fM x n=true:=by
 intro x;induction x with
 |cons x r i1 i2=>intro n h;refine dX h ?_;rintro m p1 p2 rfl;exact aO.mpr ⟨i1 p1,i2 p2⟩
 |nil=>exact λh=>h
 |ref q=>exact λh=>aD h
 |tok q=>exact λh=>aD h
 |fl x _=>exact λh=>aD h
 |_=>exact λzz=>rfl
theorem IsTuple.typeIs{s:SW}{a:Tw}{items:Array SU}(x:s.heap.IsTuple a items):s.TypeIs (.ref a) "tuple":=let⟨o,ho,hc,_⟩:=x;⟨o,ho,hc⟩
section
variable{A:U6}{E:SU->SW->Prop}{s:SW}{Q:Int->SW->Prop}
theorem sO(h:∀t',Q 0xFCA86420 {s with toks:=t'}):Tb (Tn C.prog C.w) A (pyHash .none) Q E s:=by
 have hT:s.TypeIs .none "NoneType":=rfl;unfold pyHash pyHashByItsType;refine SO (wpAny_cRoomFor_byValue rfl (SO (Uw hT Wc.lookup ?_)));show Tb _ _ (if(some (Value.builtin "NoneType.__hash__")==some Ve)=true then _ else _) Q E s;rw[if_neg (by rw[beq_builtin_none];exact Tq)];refine SO (Uw hT Wc.lookup ?_);refine SO (wpAny_callSpecialIfBoundUnlessNone?_slot hT Wc (TJ Wc hT F.entry_NoneType_hash ?_ (F.args_NoneType_hash_1 _)));refine wpAny_ret_mkInt ?_;show Tb _ _ (if(decide (-(2:Int)^63≤0xFCA86420)&&decide ((0xFCA86420:Int)<2^63))=true then _ else _) Q E _;refine rwr (if_pos (by decide)) ?_;exact SR (h _)
theorem nD{a:Tw}{vs:List SU}{l:List Int}{n:Nat}(ht:s.heap.IsTuple a vs.toArray)(hu:A.units+n+1<cLine)(hl:l.length=vs.length)
  (hv:∀(i:Nat)(v:SU)(x:Int),vs[i]?=some v->l[i]?=some x->∀(A:U6)(t:Nat)(Q:Int->SW->Prop),A.units+n<cLine->(∀t',Q x {s with toks:=t'})->Tb (Tn C.prog C.w) A (pyHash v) Q E {s with toks:=t})
  (h:∀t',Q (reduceHash (Up l)) {s with toks:=t'}):Tb (Tn C.prog C.w) A (pyHash (.ref a)) Q E s:=by
 have hT:s.TypeIs (.ref a) "tuple":=IsTuple.typeIs ht;refine aM ht ?_;clear ht;rintro o ho-zq;refine aw zq ?_;clear zq;intro n' hd;unfold pyHash pyHashByItsType;refine SO (wpAny_cRoomFor_or (.inr (by lia)) (SO (Uw hT WI.lookup ?_)));show Tb _ _ (if(some (Value.builtin "tuple.__hash__")==some Ve)=true then _ else _) Q E s;rw[if_neg (by rw[beq_builtin_none];exact Tq)];refine SO (Uw hT WI.lookup ?_);refine SO (wpAny_callSpecialIfBoundUnlessNone?_slot hT WI (TJ WI hT F.entry_tuple_hash ?_ (F.args_tuple_hash_1 _)));show Tb _ _ (Builtin.Tuple.tupleItemsOf (.ref a)>>=_) _ _ s;refine SO (wpAny_tupleItemsOf ho hd (SO ?_));refine rwl Array.forIn_toList ?_;refine VL _ (λrest(b:Array Int) s'=>∃i t',i≤vs.length∧rest=vs.drop i∧b.toList=l.take i∧s'={s with toks:=t'}) _ ?_ ?_ _ _ ⟨0,s.toks,TQ _,rfl,rfl,rfl⟩
 ·intro v rest b s' zq;refine dG zq ?_;clear zq;rintro i t' hi hr hb rfl;have hlt:i<vs.length:=by
   rcases Wt i vs.length with q|q
   ·exact q
   ·rw[List.drop_eq_nil_of_le q]at hr;contradiction
  have hlt':i<l.length:=by simp_all+arith
  rw[List.drop_eq_getElem_cons hlt]at hr;refine ak (Uc hr) ?_;intro h1 h2;refine SO (hv i v l[i] (by refine rwr h1 ?_;exact T7 hlt) (T7 hlt') _ _ _ (by show A.units+1+n<_;simp_all+arith) λt''=>?_);exact SR ⟨i+1,t'',hlt,h2,by refine rwr VP (rwr hb (rwr List.take_add_one (rwr (T7 hlt') ?_)));rfl,rfl⟩
 ·intro b s' zq;refine dG zq ?_;clear zq;rintro i t' hi hr hb rfl;have:vs.length≤i:=List.drop_eq_nil_iff.mp hr.symm;rw[Ub (by simp_all+arith)]at hb;show Tb _ _ (retInt (Up b.toList)) _ _ _;refine rwr hb ?_;refine wpAny_ret_mkInt ?_;have h':=h (t'+1);show Tb _ _ (if(decide (-(2:Int)^63≤Up l)&&decide (Up l<2^63))=true then _ else _) Q E _;unfold reduceHash at h'
  split
  ·rename_i hr;rw[if_pos hr]at h';exact SR h'
  ·rename_i hr;rw[if_neg hr]at h';exact SO (Va (SR h'))
end
def C5(C:Cx)(E:SU->SW->Prop)(h:UT)(n:Nat)(v:SU)(y:Int):Prop:=∀(A:U6)(s:SW)(Q:Int->SW->Prop),s.heap=h->A.units+n<cLine->(∀t',Q y {s with toks:=t'})->Tb (Tn C.prog C.w) A (pyHash v) Q E s
theorem Av{E:SU->SW->Prop}:∀(x:KV),(∀(n:Nat)(v:SU),iP x n=true->VR C R x v->C5 C E R.h n v (wP C.w x))∧
  (∀(n:Nat)(vs:List SU),iP x (n+1)=true->bG C R x vs->(hp C.w x).2.length=vs.length∧∀(i:Nat)(v:SU)(y:Int),vs[i]?=some v->(hp C.w x).2[i]?=some y->C5 C E R.h n v y):=by
 intro x;induction x with
 |none=>exact⟨λn v Z hv A s Q hs Z hq=>by cases hv;exact sO hq,λZ Z Z h=>h.elim⟩
 |nat n=>exact⟨λn v Z hv A s Q hs Z hq=>by refine aw hv ?_;clear hv;rintro t rfl;exact wpAny_pyHash_int (hq _),λZ Z Z h=>h.elim⟩
 |neg n=>exact⟨λn v Z hv A s Q hs Z hq=>by refine aw hv ?_;clear hv;rintro t rfl;exact wpAny_pyHash_int (hq _),λZ Z Z h=>h.elim⟩
 |str c=>
  refine⟨λn v Z hv A s Q hs Z hq=>?_,λZ Z Z h=>h.elim⟩;refine aH hv ?_;clear hv;rintro s' t rfl rfl ok;refine wpAny_pyHash_str ?_;have:=hq (s.toks+1);change Q (hashStr C.w (GS (iI s'))) _ at this;rw[mq ok]at this;exact this
 |nil=>
  refine⟨λn v hp hv A s Q hs hu hq=>?_,λZ Z Z h=>by cases h;exact⟨rfl,λi v y e=>by trivial⟩⟩;refine ag hv ?_;clear hv;rintro a rfl ht;have:=SP hp;exact nD (n:=0) (vs:=[]) (l:=[]) (hs▸ht) (by lia) rfl (λi v x e=>by trivial) hq
 |cons x r ih1 ih2=>
  refine⟨λn v hp hv A s Q hs hu hq=>?_,λn vs hp hv=>?_⟩
  ·refine dX hp ?_;rintro m p1 p2 rfl;refine ew hv ?_;clear hv;rintro a u us rfl ht h1 h2 -;refine ak (ih2.2 m us p2 h2) ?_;intro l1 l2;refine nD (n:=m) (vs:=u::us) (l:=(Internal.hp C.w (.cons x r)).2) (hs▸ht) (by assumption) (congrArg Te l1) (λi v y e1 e2 A t Q hA hQ=>?_) hq;cases i with
   |zero=>cases e1;cases e2;exact ih1.1 m u p1 h1 A _ Q hs hA hQ
   |succ i=>exact l2 i v y e1 e2 A _ Q hs hA hQ
  ·refine dX hp ?_;intro m p1 p2 e;cases e;refine aH hv ?_;clear hv;rintro u us rfl h1 h2;refine ak (ih2.2 n us p2 h2) ?_;intro l1 l2;refine⟨congrArg Te l1,λi v y e1 e2=>?_⟩;cases i with
   |zero=>cases e1;cases e2;exact ih1.1 n u p1 h1
   |succ i=>exact l2 i v y e1 e2
 |_=>exact⟨λn v hp=>(by exact aD hp),λn vs hp=>(by exact aD hp)⟩
theorem sP{E:SU->SW->Prop}{x:KV}{v:SU}{A:U6}{s:SW}{Q:Int->SW->Prop}(hp:pk x=true)(hv:VR C R x v)(hs:s.heap=R.h)(hu:A.units+5<cLine)(hq:∀t',Q (wP C.w x) {s with toks:=t'}):Tb (Tn C.prog C.w) A (pyHash v) Q E s:=
 (Av x).1 5 v hp hv A s Q hs hu hq
end
end
end
section
set_option compiler.extract_closed false
section
open PySem PySem.W PyProof.Rows
variable{C:Cx}{R R':Wd}
theorem f7:∀(x:KV),(∀(n:Nat)(v:SU),fM x n=true->VR C R x v->(∃as,Reads R.h v (dK x) as)∧(dK x).canLay0=true∧(dK x).depth≤n+1)∧
  (∀(n:Nat)(vs:List SU),fM x (n+1)=true->bG C R x vs->(∃as,ReadsAll R.h vs (dp x).2 as)∧PyData.canLayAll0 (dp x).2=true∧WK (dp x).2≤n+1):=by
 intro x;induction x with
 |none=>exact⟨λn v Z hv=>by cases hv;exact⟨⟨_,.none⟩,rfl,TB _ _⟩,λZ Z Z h=>h.elim⟩
 |bool b=>exact⟨λn v Z hv=>by cases hv;exact⟨⟨_,.bool b⟩,rfl,TB _ _⟩,λZ Z Z h=>h.elim⟩
 |fl x ih=>
  refine⟨λn v hp hv=>?_,λZ Z Z h=>h.elim⟩;cases n with
  |zero=>exact aD hp
  |succ n=>
   refine ew hv ?_;rintro a vs k rfl-g rs -;refine bf (ih.2 n vs.toList hp rs) ?_;intro zq a2 a3;refine aw zq ?_;intro as a1;exact⟨⟨_,.list g rfl rfl a1⟩,a2,TY a3⟩
 |nat i=>exact⟨λn v Z hv=>by refine aw hv ?_;clear hv;rintro t rfl;exact⟨⟨_,.int _ t⟩,rfl,TB _ _⟩,λZ Z Z h=>h.elim⟩
 |neg i=>exact⟨λn v Z hv=>by refine aw hv ?_;clear hv;rintro t rfl;exact⟨⟨_,.int _ t⟩,rfl,TB _ _⟩,λZ Z Z h=>h.elim⟩
 |str c=>
  refine⟨λn v Z hv=>?_,λZ Z Z h=>h.elim⟩;refine aH hv ?_;clear hv;rintro s t rfl rfl ok;refine rwr (show dK (.str (iI s))=.str s from congrArg PyData.str (mq ok)) ?_;refine⟨⟨_,.str s t⟩,?_,TB _ _⟩;simp only[PyData.canLay0,PyData.strOk,Array.all_eq_true_iff_forall_mem,decide_eq_true_eq];exact λc hc=>ok.1 c (by simpa using hc)
 |nil=>
  refine⟨λn v hp hv=>?_,λZ Z Z h=>by cases h;exact⟨⟨_,.nil⟩,rfl,TQ _⟩⟩;refine ag hv ?_;clear hv;rintro a rfl zq;refine aM zq ?_;clear zq;intro o ho hc zq;refine aw zq ?_;clear zq;intro _ hd;have:=SP hp;exact⟨⟨_,.tuple ho hc hd .nil⟩,rfl,by show 0+1≤_;exact VI _⟩
 |cons x r ih1 ih2=>
  have sp:∀(n:Nat)(vs:List SU),fM (.cons x r) (n+1)=true->bG C R (.cons x r) vs->(∃as,ReadsAll R.h vs (dp (.cons x r)).2 as)∧PyData.canLayAll0 (dp (.cons x r)).2=true∧WK (dp (.cons x r)).2≤n+1:=by
   intro n vs hp hv;refine jO hp ?_;intro m e p1 p2;cases e;refine aH hv ?_;clear hv;rintro u us rfl h1 h2;refine bf (ih1.1 n u p1 h1) ?_;intro zq0 a2 a3;refine aw zq0 ?_;clear zq0;intro as a1;refine bf (ih2.2 n us p2 h2) ?_;intro zq0 b2 b3;refine aw zq0 ?_;clear zq0;intro bs b1;exact⟨⟨_,.cons a1 b1⟩,Ts.mpr ⟨a2,b2⟩,Nat.max_le.mpr ⟨a3,b3⟩⟩
  refine⟨λn v hp hv=>?_,sp⟩;refine ag (qa hp) ?_;rintro m rfl -;refine ew hv ?_;clear hv;rintro a u us rfl zq4 h1 h2 -;refine aM zq4 ?_;clear zq4;intro o ho hc zq;refine aw zq ?_;clear zq;intro _ hd;refine bf (sp m (u::us) hp ⟨u,us,rfl,h1,h2⟩) ?_;intro zq0 a2 a3;refine aw zq0 ?_;clear zq0;intro as a1;exact⟨⟨_,.tuple ho hc hd a1⟩,a2,TY a3⟩
 |_=>exact⟨λn v hp=>(by exact aD hp),λn vs hp=>(by exact aD hp)⟩
theorem lc(a b:Nat):SS a b=decide (a=b):=by
 by_cases h:a=b
 ·subst h;simp
 ·refine rwr (decide_eq_false h) ?_;cases e:SS a b with
  |false=>rfl
  |true=>exact absurd (T6 e) h
theorem cg{a b:Nat}:SS a b=true↔a=b:=by rw[lc,decide_eq_true_eq]
theorem kA:∀(x:KV){n:Nat},fM x n=true->cM x x=true:=by
 intro x;induction x with
 |nat i=>exact λzz=>UX i
 |neg i=>exact λzz=>UX i
 |str i=>exact λzz=>UX i
 |bool b=>exact λzz=>by cases b<;>rfl
 |fl x ih=>intro n h;cases n with
  |zero=>exact aD h
  |succ n=>exact ih h
 |none=>exact λzz=>rfl
 |nil=>exact λzz=>rfl
 |cons x r ih1 ih2=>intro n h;refine jO h ?_;rintro m-p1 p2;exact aO.mpr ⟨ih1 p1,ih2 p2⟩
 |_=>intro n h;exact aD h
theorem fx:∀{x y:KV},cM x y=true->x=y:=by
 intro x;induction x with
 |nat i=>intro y h;cases y with
  |nat j=>exact congrArg KV.nat (cg.mp h)
  |_=>exact aD h
 |neg i=>intro y h;cases y with
  |neg j=>exact congrArg KV.neg (cg.mp h)
  |_=>exact aD h
 |str i=>intro y h;cases y with
  |str j=>exact congrArg KV.str (cg.mp h)
  |_=>exact aD h
 |none=>intro y h;cases y with
  |none=>rfl
  |_=>exact aD h
 |nil=>intro y h;cases y with
  |nil=>rfl
  |_=>exact aD h
 |cons x r ih1 ih2=>intro y h;cases y with
  |cons y s=>refine dI h ?_;intro a b;exact rwr (ih1 a) (rwr (ih2 b) rfl)
  |_=>exact aD h
 |bool b=>intro y h;cases y with
  |bool c=>cases b<;>cases c<;>first|rfl|exact aD h
  |_=>exact aD h
 |fl x ih=>intro y h;cases y with
  |fl y=>exact congrArg KV.fl (ih h)
  |_=>exact aD h
 |_=>intro y h;exact aD h
theorem wI{x y:KV}{n:Nat}(h:iP x n=true):cM x y=true↔x=y:=⟨fx,λe=>e▸kA x (iA x h)⟩
theorem q7:∀(x:KV),(∀(y:KV)(n m:Nat)(v u:SU),iP x n=true->iP y m=true->VR C R x v->VR C R' y u->PyData.eqv (dK x) (dK y)=cM x y)∧
  (∀(y:KV)(n m:Nat)(vs us:List SU),iP x n=true->iP y m=true->bG C R x vs->bG C R' y us->PyData.eqvAll (dp x).2 (dp y).2=cM x y):=by
 intro x;induction x with
 |none=>exact⟨λy n m v u Z hq Z Z=>(by cases y<;>first|rfl|exact aD hq),λZ Z Z Z Z Z Z h=>h.elim⟩
 |nat i=>exact⟨λy n m v u Z hq Z Z=>(by cases y with|nat j=>(show((i:Int)==(j:Int))=SS i j;rw[Uo,beq_iff_eq,cg];lia)|_=>first|rfl|exact aD hq),λZ Z Z Z Z Z Z h=>h.elim⟩
 |neg i=>exact⟨λy n m v u Z hq Z Z=>(by cases y with|neg j=>(show(Int.negSucc i==Int.negSucc j)=SS i j;rw[Uo,beq_iff_eq,cg];exact⟨Int.negSucc.inj,λe=>e▸rfl⟩)|_=>first|rfl|exact aD hq),λZ Z Z Z Z Z Z h=>h.elim⟩
 |str c=>exact⟨λy n m v u Z hq h k=>by
   cases y with
   |str d=>
    refine aH h ?_;clear h;rintro s _-rfl ok;refine aH k ?_;clear k;rintro s' _-rfl ok';show(GS (iI s)==GS (iI s'))=SS (iI s) (iI s');rw[mq ok,mq ok',Uo,beq_iff_eq,cg];exact⟨λe=>e▸rfl,wZ ok ok'⟩
   |bool=>exact aD hq
   |ref=>exact aD hq
   |tok=>exact aD hq
   |fl=>exact aD hq
   |_=>rfl,λZ Z Z Z Z Z Z h=>h.elim⟩
 |nil=>exact⟨λy n m v u Z hq Z Z=>(by cases y<;>first|rfl|cases hq),λy n m vs us Z hq Z k=>(by cases y<;>first|rfl|exact k.elim)⟩
 |cons x r ih1 ih2=>
  have sp:∀(y:KV)(n m:Nat)(vs us:List SU),iP (.cons x r) n=true->iP y m=true->bG C R (.cons x r) vs->bG C R' y us->PyData.eqvAll (dp (.cons x r)).2 (dp y).2=cM (.cons x r) y:=λy n m vs us hp hq h k=>by
   cases y with
   |nil=>rfl
   |cons y s=>
    refine dX hp ?_;rintro _ p1 p2 -;refine dX hq ?_;rintro _ q1 q2 -;refine aH h ?_;clear h;rintro _ _-h1 h2;refine aH k ?_;clear k;rintro _ _-k1 k2;show(PyData.eqv (dK x) (dK y)&&PyData.eqvAll (dp r).2 (dp s).2)=az (cM x y) false (cM r s);refine rwr (ih1.1 y _ _ _ _ p1 q1 h1 k1) (rwr (ih2.2 s _ _ _ _ p2 q2 h2 k2) ?_);cases cM x y<;>rfl
   |_=>exact k.elim
  refine⟨λy n m v u hp hq h k=>?_,sp⟩;cases y with
  |cons y s=>
   refine ew h ?_;clear h;rintro _ _ _- -h1 h2 -;refine ew k ?_;clear k;rintro _ _ _- -k1 k2 -;exact sp _ n m _ _ hp hq ⟨_,_,rfl,h1,h2⟩ ⟨_,_,rfl,k1,k2⟩
  |bool=>exact aD hq
  |ref=>exact aD hq
  |tok=>exact aD hq
  |fl=>exact aD hq
  |_=>rfl
 |_=>exact⟨λZ Z Z Z Z hp=>(by exact aD hp),λZ Z Z Z Z hp=>(by exact aD hp)⟩
theorem VR.inj{x y:KV}{v:SU}(hp:pk x=true)(hq:pk y=true)(h:VR C R x v)(k:VR C R y v):x=y:=by
 refine bf ((f7 x).1 5 v (iA x hp) h) ?_;rintro zq0 c -;refine aw zq0 ?_;clear zq0;intro as a;refine bf ((f7 y).1 5 v (iA y hq) k) ?_;rintro zq0- -;refine aw zq0 ?_;clear zq0;intro bs b;have e:=SeqAt.Reads.unique _ _ _ _ _ c a b;have:=(q7 x).1 y 5 5 v v hp hq h k;rw[←e,(q7 x).1 x 5 5 v v hp hp h h,kA x (iA x hp)]at this;exact fx this.symm
section
variable{A:U6}{E:SU->SW->Prop}{s:SW}{Q:Bool->SW->Prop}
theorem Bp{x y:KV}{v u:SU}(hp:pk x=true)(hq:pk y=true)(hs:s.heap=R.h)(hv:VR C R x v)(hu:VR C R y u)(hr:A.units+6<cLine)(h:Q (cM x y) s):Tb (Tn C.prog C.w) A (eqBool v u) Q E s:=by
 refine bf ((f7 x).1 5 v (iA x hp) hv) ?_;intro zq0 c1 d1;refine aw zq0 ?_;clear zq0;intro as r1;refine bf ((f7 y).1 5 u (iA y hq) hu) ?_;intro zq0 c2 d2;refine aw zq0 ?_;clear zq0;intro bs r2;rw[←hs]at r1 r2;have e:=PySem.SeqAt.eqAt_reads _ _ A s v u as bs r1 r2 c1 c2 (by lia);rw[(q7 x).1 y 5 5 v u hp hq hv hu]at e;exact e _ _ _ _ h
theorem wp:∀(x:KV),(∀(n g:Nat)(v:SU)(A:U6)(Q:Bool->SW->Prop),n<g->iP x n=true->VR C R x v->s.heap=R.h->Q true s->Tb (Tn C.prog C.w) A (eqIsQuiet g v) Q E s)∧
  (∀(n g:Nat)(vs:List SU),n<g->iP x (n+1)=true->bG C R x vs->s.heap=R.h->∀v∈vs,∀(A:U6)(Q:Bool->SW->Prop),Q true s->Tb (Tn C.prog C.w) A (eqIsQuiet g v) Q E s):=by
 have val:∀{v:SU}{g:Nat}{A:U6}{Q:Bool->SW->Prop},carriedByValue v=true->Q true s->0<g->Tb (Tn C.prog C.w) A (eqIsQuiet g v) Q E s:=by
  intro v g A Q h q hg;cases g with
  |zero=>contradiction
  |succ g=>refine rwr (eqIsQuiet_byValue _ h) ?_;exact SR q
 have tup:∀{a:Tw}{vs:List SU}{g:Nat}{A:U6}{Q:Bool->SW->Prop},s.heap.IsTuple a vs.toArray->(∀v∈vs,∀(A:U6)(Q:Bool->SW->Prop),Q true s->Tb (Tn C.prog C.w) A (eqIsQuiet g v) Q E s)->Q true s->Tb (Tn C.prog C.w) A (eqIsQuiet (g+1) (.ref a)) Q E s:=by
  intro a vs g A Q ht hv h;have hT:s.TypeIs (.ref a) "tuple":=IsTuple.typeIs ht;refine aM ht ?_;clear ht;rintro o ho-zq;refine aw zq ?_;clear zq;intro n hd;unfold eqIsQuiet;refine SO (Uw hT F.slot_tuple_eq.lookup ?_);show Tb _ _ (isInstance (.ref a) (.type "tuple")>>=_) _ _ s;refine SO (We hT isSubtype_tuple_tuple ?_);simp only[Bool.not_true,Bool.false_eq_true,if_false];refine SO (WH ho hd (SO ?_));show Tb _ _ (forIn vs.toArray _ _) _ _ s;refine rwl Array.forIn_toList ?_;refine VL _ (λrest r s'=>r.1=none∧s'=s∧∀v∈rest,v∈vs) _ ?_ ?_ _ _ ⟨rfl,rfl,λv q=>q⟩
  ·intro v rest r s' zq;refine bf zq ?_;clear zq;rintro hr rfl hm;refine SO (hv v (hm v SX) _ _ ?_);refine rwr (if_neg (by decide)) ?_;exact SR ⟨rfl,rfl,λu q=>hm u (T5 _ q)⟩
  ·rintro⟨r1,r2⟩ s' ⟨hz,rfl,_⟩;cases hz;exact SR h
 intro x;induction x with
 |none=>exact⟨λn g v A Q hg Z hv Z q=>by cases hv;exact val rfl q (by exact U4 (TQ n) hg),λZ Z Z Z Z h=>h.elim⟩
 |nat i=>exact⟨λn g v A Q hg Z hv Z q=>by refine aw hv ?_;clear hv;rintro t rfl;exact val rfl q (by exact U4 (TQ n) hg),λZ Z Z Z Z h=>h.elim⟩
 |neg i=>exact⟨λn g v A Q hg Z hv Z q=>by refine aw hv ?_;clear hv;rintro t rfl;exact val rfl q (by exact U4 (TQ n) hg),λZ Z Z Z Z h=>h.elim⟩
 |str i=>exact⟨λn g v A Q hg Z hv Z q=>by refine aL hv ?_;clear hv;rintro s' t rfl -;exact val rfl q (by exact U4 (TQ n) hg),λZ Z Z Z Z h=>h.elim⟩
 |nil=>
  refine⟨λn g v A Q hg Z hv hs q=>?_,λn g vs Z Z h Z v hv=>by cases h;cases hv⟩;refine ag hv ?_;clear hv;rintro a rfl ht;cases g with
  |zero=>cases hg
  |succ g=>exact tup (vs:=[]) (hs▸ht) (λv hv=>by cases hv) q
 |cons x r ih1 ih2=>
  refine⟨λn g v A Q hg hp hv hs q=>?_,λn g vs hg hp hv hs v hm=>?_⟩
  ·refine dX hp ?_;rintro m p1 p2 rfl;refine ew hv ?_;clear hv;rintro a u us rfl ht h1 h2 -;cases g with
   |zero=>cases hg
   |succ g=>
    refine tup (hs▸ht) (λv hv A Q q=>?_) q;rcases T8.mp hv with rfl|hv
    ·exact ih1.1 m g v A Q (by simp_all+arith) p1 h1 hs q
    ·exact ih2.2 m g us (by simp_all+arith) p2 h2 hs v hv A Q q
  ·refine dX hp ?_;intro m p1 p2 e;cases e;refine aH hv ?_;clear hv;rintro u us rfl h1 h2;rcases T8.mp hm with rfl|hm
   ·exact λA Q q=>ih1.1 n g v A Q hg p1 h1 hs q
   ·exact ih2.2 n g us hg p2 h2 hs v hm
 |_=>exact⟨λn g v A Q Z hp=>(by exact aD hp),λn g vs Z hp=>(by exact aD hp)⟩
end
end
end
section
set_option compiler.extract_closed false
section
set_option backward.match.sparseCases true
open PySem PySem.W PyProof.Rows
variable{C:Cx}{R R':Wd}
theorem Cu{α:Type}{M:Model}{A:U6}{Q:α->SW->Prop}{E:SU->SW->Prop}{s:SW}{c:Prop}[Decidable c]{x y:Sem α}(h1:c->Tb M A x Q E s)(h2:¬c->Tb M A y Q E s):Tb M A (if c then x else y) Q E s:=by
 by_cases h:c
 ·refine rwr (if_pos h) ?_;exact h1 h
 ·refine rwr (if_neg h) ?_;exact h2 h
noncomputable def pairs:KD->List (KV×KV)
 |.nil=>[]
 |.cons k v r=>(k,v)::pairs r
structure KA(C:Cx)(R:Wd)(e:TR)(kv:KV×KV):Prop where
 plain:pk kv.1=true
 hash:e.hash=wP C.w kv.1
 key:VR C R kv.1 e.key
 val:VR C R kv.2 e.val
def px(C:Cx)(R:Wd)(es:List TR)(iH:List (KV×KV)):Prop:=es.length=iH.length∧∀(i:Nat)(e:TR)(kv:KV×KV),es[i]?=some e->iH[i]?=some kv->KA C R e kv
def Kz(iH:List (KV×KV))(k:KV)(J:Option Nat):Prop:=∀(i:Nat)(kv:KV×KV),iH[i]?=some kv->(kv.1=k↔J=some i)
theorem MK{es:KD}{x:KV}(v:KV)(hp:∀kv∈pairs es,pk kv.1=true)(hn:((pairs es).map (·.1)).Nodup):∃J,Kz (pairs es) x J∧(dl es x=J.bind λj=>(pairs es)[j]?.map (·.2))∧(∀j,J=some j->j<(pairs es).length)∧
  pairs (dset es x v)=match J with|none=>pairs es++[(x,v)]|some j=>(pairs es).set j (x,v):=by
 induction es with
 |nil=>exact⟨none,λi kv h=>by trivial,rfl,λzz h=>(by exact dh h),rfl⟩
 |cons k u r ih=>
  have hp':=hp (k,u) SX;refine PZ (show(k::(pairs r).map (·.1)).Nodup from hn) ?_;intro h1 h2;refine d9 (ih (λkv h=>hp kv (T5 _ h)) h2) ?_;intro J a b l c;have e0:dset (.cons k u r) x v=@Ue (λzz=>KD) (.cons k u (dset r x v)) (.cons k v r) (cM k x):=rfl;have e1:dl (.cons k u r) x=@Ue (λzz=>Option KV) (dl r x) (some u) (cM k x):=rfl;cases e:cM k x with
  |true=>
   have e':=fx e;rw[e]at e0 e1;refine⟨some 0,λi kv h=>?_,e1,λzz h=>(by cases h;exact VI _),by refine rwr e0 (rwl e' ?_);rfl⟩;cases i with
   |zero=>cases h;exact⟨λzz=>rfl,λzz=>e'⟩
   |succ i=>exact⟨λq=>absurd (VE (f:=(·.1)) (TM (show(pairs r)[i]?=some kv from h))) (by refine rwr q (rwl e' ?_);exact h1),λq=>by cases q⟩
  |false=>
   have e':k≠x:=λq=>by rw[(wI hp').mpr q]at e;exact qd e
   rw[e]at e0 e1;refine⟨J.map (·+1),λi kv h=>?_,?_,?_,?_⟩
   ·cases i with
    |zero=>cases h;exact⟨λq=>absurd q e',λq=>by cases J<;>cases q⟩
    |succ i=>rw[a i kv h];cases J<;>simp
   ·refine rwr e1 ?_;show dl r x=_;refine rwr b ?_;cases J<;>rfl
   ·intro j h;cases J with
    |none=>exact dh h
    |some i=>cases h;exact Nat.succ_lt_succ (l i rfl)
   ·refine rwr e0 ?_;show(k,u)::pairs (dset r x v)=_;refine rwr c ?_;cases J<;>rfl
theorem vo{es:KD}{x:KV}(v:KV)(hp:∀kv∈pairs es,pk kv.1=true)(hn:((pairs es).map (·.1)).Nodup){G:Prop}(k:∀J,Kz (pairs es) x J->(dl es x=J.bind λj=>(pairs es)[j]?.map (·.2))->(∀j,J=some j->j<(pairs es).length)->(pairs (dset es x v)=match J with|none=>pairs es++[(x,v)]|some j=>(pairs es).set j (x,v))->G):G:=d9 (MK v hp hn) k
section
variable{A:U6}{E:SU->SW->Prop}{s:SW}{d:Tw}{o:Obj}{es:Array TR}{ep:Nat}{key:SU}{hs:Int}{J:Option Nat}
structure gZ(C:Cx)(A:U6)(E:SU->SW->Prop)(s:SW)(d:Tw)(es:Array TR)(key:SU)(hs:Int)(J:Option Nat):Prop where
 obj:∃o ep,s.heap.get? d=some o∧o.data=.dict es ep
 same:∀(i:Nat)(e:TR),es[i]?=some e->∀Q:Bool->SW->Prop,Q (decide (J=some i)) s->Tb (Tn C.prog C.w) A (eqBool e.key key) Q E s
 hash:∀j,J=some j->∃e,es[j]?=some e∧e.hash=hs
 quiet:∀Q:Bool->SW->Prop,Q true s->Tb (Tn C.prog C.w) A (eqIsQuiet 8 key) Q E s
 quiets:∀(i:Nat)(e:TR),es[i]?=some e->∀Q:Bool->SW->Prop,Q true s->Tb (Tn C.prog C.w) A (eqIsQuiet 8 e.key) Q E s
 byStr:∀x t,key=.str x t->(∀i e,es[i]?=some e->(e.key.isStr x=true↔J=some i))
 byRef:∀a,key=.ref a->∀e∈es,e.key=.ref a->e.hash=hs
variable(S:gZ C A E s d es key hs J)
include S
theorem gZ.found{x:Str}{t:Tok}{Q:Option Nat->SW->Prop}(e:key=.str x t)(q:Q J s):Tb (Tn C.prog C.w) A (foundByValue d key es x) Q E s:=by
 refine aL S.obj ?_;intro o ep ho hd;have B:=S.byStr x t e;unfold foundByValue;cases hi:es.findIdx? (·.key.isStr x)with
 |none=>
  have:J=none:=by
   cases J with
   |none=>rfl
   |some j=>
    refine ag (S.hash j rfl) ?_;rintro e he -;have h1:=(B j e he).mpr rfl;rw[Array.findIdx?_eq_none_iff.mp hi e (Array.mem_of_getElem? he)]at h1;exact aD h1
  subst this;exact SR q
 |some i=>
  refine ag (Array.findIdx?_eq_some_iff_getElem.mp hi) ?_;rintro hl hx -;have he:es[i]?=some es[i]:=U1 hl;have hJ:=(B i _ he).mp hx;dsimp only;refine rwr he ?_;dsimp only;refine SO (UH ho hd (SO (S.same i _ he _ (SO (UH ho hd ?_)))));refine rwr (if_neg (by simp)) (rwr (decide_eq_true hJ) (rwr (if_pos rfl) ?_));exact SO (Va (SR (hJ▸q)))
noncomputable def gZ.places(es:Array TR)(hs:Int):List Nat:=placesWithHash es.size (λi=>es[i]?.map (·.hash)) hs
omit S in
theorem gZ.place{x:Nat}(h:x∈gZ.places es hs):∃e,es[x]?=some e∧(e.hash==hs)=true:=by
 refine ak (WR.mp h) ?_;intro h1 h2;have hl:=Uj.mp h1;refine⟨es[x],U1 hl,?_⟩;dsimp only at h2;rw[U1 hl]at h2
 simpa using h2
theorem gZ.mem{j:Nat}(h:J=some j):j∈gZ.places es hs:=by
 refine ag (S.hash j h) ?_;intro e he hh;exact WR.mpr ⟨Uj.mpr (Uu.mp he).1,by dsimp only;refine rwr he (rwl hh ?_);exact if_pos rfl⟩
theorem gZ.plain{Q:Option Nat->SW->Prop}(q:Q J s):Tb (Tn C.prog C.w) A (dictWalkPlain d key hs es (gZ.places es hs)) Q E s:=by
 refine aL S.obj ?_;intro o ep ho hd;unfold dictWalkPlain;refine SO (VL _ (λrest b s'=>s'=s∧b=(none,())∧(∀x∈rest,x∈gZ.places es hs)∧∀j,J=some j->j∈rest) _ ?_ ?_ _ _ ⟨rfl,rfl,λx h=>h,λj h=>S.mem h⟩)
 ·intro x rest b s' zq;refine tT zq ?_;clear zq;rintro rfl rfl hm hJ;refine ag (gZ.place (hm x SX)) ?_;intro e he hh;refine rwr he ?_;dsimp only;refine rwr (if_pos hh) ?_;refine SO (UH ho hd (SO (S.same x e he _ (SO (UH ho hd ?_)))));refine rwr (if_neg (by simp)) ?_;by_cases hx:J=some x
  ·refine rwr (decide_eq_true hx) (rwr (if_pos rfl) ?_);exact SO (Va (SR (SR (hx▸q))))
  ·refine rwr (decide_eq_false hx) (rwr (if_neg (by decide)) ?_);exact SO (Va (SR ⟨rfl,rfl,λy h=>hm y (T5 _ h),λj h=>(T8.mp (hJ j h)).resolve_left λz=>hx (z▸h)⟩))
 ·intro b s' zq;refine tT zq ?_;clear zq;rintro rfl rfl _ hJ;have:J=none:=by
   cases J with
   |none=>rfl
   |some j=>cases hJ j rfl
  exact SR (this▸q)
theorem gZ.tells{stored:List SU}(hst:∀v∈stored,∃(i:Nat)(e:TR),es[i]?=some e∧e.key=v){P:Bool->SW->Prop}(h:P false s):Tb (Tn C.prog C.w) A (tableMayTell key stored) P E s:=by
 unfold tableMayTell
 split
 ·exact SR h
 ·refine SO (S.quiet _ ?_);refine rwr (if_neg (by decide)) ?_;refine SO (VL _ (λrest r s'=>s'=s∧r=(none,())∧∀v∈rest,v∈stored) _ ?_ ?_ _ _ ⟨rfl,rfl,λv h=>h⟩)
  ·intro x rest r s' zq;refine bf zq ?_;clear zq;rintro rfl rfl hm;refine aL (hst x (hm x SX)) ?_;rintro i e he rfl;refine SO (S.quiets i e he _ ?_);refine rwr (if_neg (by decide)) ?_;exact SR ⟨rfl,rfl,λv q=>hm v (T5 _ q)⟩
  ·intro r s' zq;refine bf zq ?_;clear zq;rintro rfl rfl _;exact SR h
theorem gZ.tail{stored:List SU}(hst:∀v∈stored,∃(i:Nat)(e:TR),es[i]?=some e∧e.key=v){Q:Option Nat->SW->Prop}(q:Q J s):Tb (Tn C.prog C.w) A (do
   let tells ←if stored==[key]then pure false else tableMayTell key stored
   if tells&&stored.length≥2 then unsupported "dict.find:order-among-keys-of-one-hash"
   let mut hit:Option Nat:=none
   for i in gZ.places es hs do
    if let some e:=es[i]? then
     if e.hash==hs then
      let before ←dictEpoch d (keyPart key)
      let same ←eqBool e.key key
      if(←dictEpoch d (keyPart key)) != before then unsupported "dict.changed-during-lookup"
      if same then
       if hit.isSome then unsupported "dict.find:order-among-keys-of-one-hash"
       rule "dict.find.hit"
       if stored.length<2 then return some i
       hit:=some i
      else
       rule "dict.find.same-hash-other-key"
       if tells&&!(0≤hs&&hs<32)then unsupported "dict.find:asked-again-or-not-hangs-on-the-table"
   return hit) Q E s:=by
 refine aL S.obj ?_;intro o ep ho hd;have go:∀{tells:Bool},tells=false->Tb (Tn C.prog C.w) A (do
   if tells&&stored.length≥2 then unsupported "dict.find:order-among-keys-of-one-hash"
   let mut hit:Option Nat:=none
   for i in gZ.places es hs do
    if let some e:=es[i]? then
     if e.hash==hs then
      let before ←dictEpoch d (keyPart key)
      let same ←eqBool e.key key
      if(←dictEpoch d (keyPart key)) != before then unsupported "dict.changed-during-lookup"
      if same then
       if hit.isSome then unsupported "dict.find:order-among-keys-of-one-hash"
       rule "dict.find.hit"
       if stored.length<2 then return some i
       hit:=some i
      else
       rule "dict.find.same-hash-other-key"
       if tells&&!(0≤hs&&hs<32)then unsupported "dict.find:asked-again-or-not-hangs-on-the-table"
   return hit) Q E s:=by
  rintro _ rfl;refine SO (VL _ (λrest b s'=>s'=s∧∃hit,b=(none,hit)∧rest.Sublist (gZ.places es hs)∧((hit=none∧∀j,J=some j->j∈rest)∨hit=J∧∀j,J=some j->j∉rest)) _ ?_ ?_ _ _ ⟨rfl,none,rfl,.refl _,.inl ⟨rfl,λj h=>S.mem h⟩⟩)
  ·rintro x rest b s' ⟨rfl,hit,rfl,hm,hJ⟩;refine ag (gZ.place (hm.subset SX)) ?_;intro e he hh;have hm':=(List.sublist_cons_self x rest).trans hm;refine rwr he ?_;refine Cu (λzz=>?_) λz=>absurd hh z;refine SO (UH ho hd (SO (S.same x e he _ (SO (UH ho hd ?_)))));refine rwr (if_neg (by simp)) ?_;by_cases hx:J=some x
   ·refine rwr (decide_eq_true hx) (rwr (if_pos rfl) ?_);rcases hJ with zq|zq
    ·refine ak zq ?_;clear zq;rintro rfl _;have nx:x∉rest:=(U3.mp ((List.nodup_range.sublist (List.filter_sublist ..)).sublist hm)).1;refine SO (Va (Cu (λzz=>SR (SR (hx▸q))) λzz=>SR ⟨rfl,some x,rfl,hm',.inr ⟨hx.symm,λj h=>?_⟩⟩));cases hx.symm.trans h;exact nx
    ·refine ak zq ?_;clear zq;intro _ hn;exact absurd SX (hn x hx)
   ·refine rwr (decide_eq_false hx) (rwr (if_neg (by decide)) ?_);refine SO (Va (SR ⟨rfl,hit,rfl,hm',hJ.imp (λh=>⟨h.1,λj e=>(T8.mp (h.2 j e)).resolve_left λz=>hx (by exact rwr e (rwr z rfl))⟩) λh=>⟨h.1,λj e z=>h.2 j e (T5 _ z)⟩⟩))
  ·rintro b s' ⟨rfl,hit,rfl,_,hJ⟩;refine SR ?_;rcases hJ with zq|zq
   ·refine ak zq ?_;clear zq;rintro rfl h;have:J=none:=by
     cases J with
     |none=>rfl
     |some j=>cases h j rfl
    exact this▸q
   ·refine ak zq ?_;clear zq;rintro rfl _;exact q
 exact Cu (λzz=>SO (SR (go rfl))) λzz=>SO (S.tells hst (go rfl))
theorem gZ.find{Q:Option Nat->SW->Prop}(q:Q J s):Tb (Tn C.prog C.w) A (dictFind d key hs) Q E s:=by
 refine aL S.obj ?_;intro o ep ho hd;unfold dictFind;refine TH (SO (Vc ho hd ?_));have hst:∀v∈(gZ.places es hs).filterMap (λi=>es[i]?.map (·.key)),∃(i:Nat)(e:TR),es[i]?=some e∧e.key=v:=λv hv=>by
  refine Nm hv ?_;rintro i-hi;refine xT hi ?_;intro e he hk;exact⟨i,e,he,hk⟩
 cases key with
 |ref a=>
  refine Cu (λzz=>S.plain q) λzz=>Cu (λh=>?_) λzz=>S.tail hst q;refine ag (Array.any_eq_true'.mp h) ?_;clear h;intro e he h;rw[WJ,beq_iff_eq,bne_iff_ne]at h;exact absurd (S.byRef a rfl e he h.1) h.2
 |str x t=>exact Cu (λzz=>S.found rfl q) λzz=>Cu (λzz=>S.plain q) λzz=>S.tail hst q
 |_=>exact Cu (λzz=>S.plain q) λzz=>S.tail hst q
end
section
variable{A:U6}{E:SU->SW->Prop}{s:SW}{d:Tw}{o:Obj}{es:Array TR}{ep:Nat}{kd:KD}{k:KV}{key:SU}{J:Option Nat}
theorem px.at_{es:List TR}{iH:List (KV×KV)}(h:px C R es iH){i:Nat}{e:TR}(he:es[i]?=some e):∃kv,iH[i]?=some kv∧KA C R e kv:=by
 have hl:i<iH.length:=h.1▸(To.mp he).1;exact⟨_,T7 hl,h.2 i e _ he (T7 hl)⟩
theorem px.plain{es:List TR}{iH:List (KV×KV)}(h:px C R es iH):∀kv∈iH,pk kv.1=true:=by
 intro kv hm;refine aw (W4.mp hm) ?_;intro i zq;refine aw zq ?_;clear zq;rintro hi rfl;have hl:i<es.length:=h.1▸hi;exact(h.2 i _ _ (T7 hl) (T7 hi)).plain
variable(hp:pk k=true)(hk:VR C R k key)(hs:s.heap=R.h)(ho:s.heap.get? d=some o)(hd:o.data=.dict es ep)(hE:px C R es.toList (pairs kd))(hu:A.units+6<cLine)
include hp hk hs ho hd hE hu
theorem w6(hJ:Kz (pairs kd) k J)(hl:∀j,J=some j->j<(pairs kd).length):gZ C A E s d es key (wP C.w k) J:=by
 have at_:∀{i:Nat}{e:TR},es[i]?=some e->∃kv,KA C R e kv∧(kv.1=k↔J=some i):=λ{i e} he=>by
  refine ag (hE.at_ (i:=i) (e:=e) (by rw[Tj];exact he)) ?_;intro kv a b;exact⟨kv,b,hJ i kv a⟩
 refine⟨⟨o,ep,ho,hd⟩,λi e he Q q=>?_,λj hj=>?_,λQ q=>(wp k).1 5 8 key A Q (by decide) hp hk hs q,λi e he Q q=>?_,λx t e i en he=>?_,λa e en hm h=>?_⟩
 ·refine ag (at_ he) ?_;intro kv r h;refine Bp r.plain hp hs r.key hk hu ?_;have:cM kv.1 k=decide (J=some i):=by rw[Uo,wI r.plain,h,decide_eq_true_eq]
  rw[this];exact q
 ·have hl:=hl j hj;rw[←hE.1,T4]at hl;refine ag (at_ (U1 hl)) ?_;intro kv r h;exact⟨_,U1 hl,by rw[r.hash,h.mpr hj]⟩
 ·refine ag (at_ he) ?_;rintro kv r -;exact(wp kv.1).1 5 8 _ A Q (by decide) r.plain r.key hs q
 ·refine ag (at_ he) ?_;intro kv r h;rw[←h];have hkey:=r.key;generalize hek:en.key=ek at*;subst e
  constructor
  ·intro hx;cases ek with
   |str x' t'=>
    have:x'=x:=by simpa[Value.isStr]using hx
    subst this;have gen:∀{y:KV}{t:Tok},pk y=true->VR C R y (.str x' t)->y=.str (iI x'):=λ{y t} hy h=>by
     cases y with
     |none=>exact Tp h
     |nat=>refine aw h ?_;clear h;intro _ e;exact Tp e
     |neg=>refine aw h ?_;clear h;intro _ e;exact Tp e
     |str=>refine aH h ?_;clear h;rintro _ _ e e2 -;cases e;exact rwr e2 rfl
     |nil=>refine ag h ?_;clear h;rintro _ e -;exact Tp e
     |cons=>refine eS h ?_;clear h;rintro _ _ _ e -;exact Tp e
     |_=>exact aD hy
    exact rwr (gen r.plain hkey) (rwr (gen hp hk) rfl)
   |_=>simp[Value.isStr]at hx
  ·intro hx;rw[hx]at hkey;cases k with
   |none=>exact Tp hk
   |nat=>refine aw hk ?_;clear hk;intro _ e;exact Tp e
   |neg=>refine aw hk ?_;clear hk;intro _ e;exact Tp e
   |str=>
    refine aH hk ?_;clear hk;intro s1 _ e e2 ok;cases e;refine aH hkey ?_;clear hkey;intro s2 _ e e3 ok';refine rwr e (rwr (wZ ok' ok (e3.trans e2.symm)) ?_);exact if_pos rfl
   |nil=>refine ag hk ?_;clear hk;rintro _ e -;exact Tp e
   |cons=>refine eS hk ?_;clear hk;rintro _ _ _ e -;exact Tp e
   |_=>exact aD hp
 ·refine aw (Array.mem_iff_getElem.mp hm) ?_;intro i zq;refine aw zq ?_;clear zq;rintro hi rfl;refine ag (at_ (U1 hi)) ?_;rintro kv r -;exact rwr r.hash (rwr (VR.inj r.plain hp (h▸r.key) (e▸hk)) rfl)
theorem jl{Q:Option SU->SW->Prop}(hn:((pairs kd).map (·.1)).Nodup)(hnone:dl kd k=none->∀t',Q none {s with toks:=t'})(hsome:∀v val,dl kd k=some v->VR C R v val->∀t',Q (some val) {s with toks:=t'}):
  Tb (Tn C.prog C.w) A (dictGet d key) Q E s:=by
 refine vo (x:=k) .none hE.plain hn ?_;rintro J h1 h2 h3 -;unfold dictGet;refine TH (SO (sP hp hk hs (by exact SV (U8 (A.units+5).succ) hu) λt'=>SO ((w6 (s:={s with toks:=t'}) hp hk hs ho hd hE hu h1 h3).find ?_)));cases J with
 |none=>exact SR (hnone h2 t')
 |some j=>
  refine SO (Vc (s:={s with toks:=t'}) ho hd ?_);have hl:=h3 j rfl;have hl':=hl;rw[←hE.1,T4]at hl';have he:=U1 hl';refine ag (hE.at_ (i:=j) (by refine rwr (Tj) ?_;exact he)) ?_;intro kv a r;refine rwr he ?_;exact SR (hsome kv.2 _ (by rw[h2,UD,a];rfl) r.val t')
theorem ya{v:KV}{val:SU}{Q:Unit->SW->Prop}(hn:((pairs kd).map (·.1)).Nodup)(hv:VR C R v val)(hx:o.ExactDict)(hsz:(pairs kd).length≤sizeLine)
  (hQ:∀h' t' o' es' ep',h'.get? d=some o'->o'.ExactDict->o'.data=.dict es' ep'->U7 d s.heap h'->px C R es'.toList (pairs (dset kd k v))->((pairs (dset kd k v)).map (·.1)).Nodup->(ep=(pairs kd).length->ep'=(pairs (dset kd k v)).length)->
   (pairs (dset kd k v)).length=(if(dl kd k).isSome then(pairs kd).length else(pairs kd).length+1)->Q () {s with heap:=h',toks:=t'}):
  Tb (Tn C.prog C.w) A (dictSet d key val) Q E s:=by
 refine vo (x:=k) v hE.plain hn ?_;intro J h1 h2 h3 h4;have hes:es.size=(pairs kd).length:=by exact rwl hE.1 (rwr T4 rfl)
 unfold dictSet;refine TH (SO (sP hp hk hs (by exact SV (U8 (A.units+5).succ) hu) λt'=>?_));unfold dictSetHashed;refine TH (SO ((w6 (s:={s with toks:=t'}) hp hk hs ho hd hE hu h1 h3).find ?_));cases J with
 |none=>
  dsimp only at h4;refine SO (Va (wpAny_updateDictKeys (hz:=by simp_all+arith) (s:={s with toks:=t'}) ho hd
   (hQ _ t' _ _ (ep+1) (Ua _ ho (Obj.isFreed_of_dict (Obj.data_mapDictKeys hd _))) (hx.mapDictKeys _) (Obj.data_mapDictKeys hd _) (U0 ..) ?_ ?_ (λe=>by refine rwr h4 ?_;simp[e]) (by refine rwr h4 (rwr h2 ?_);exact Td))))
  ·refine rwr h4 (rwr VP ?_);refine⟨by simp[hE.1],λi e kv a b=>?_⟩;rw[List.getElem?_append]at a b;rw[hE.1]at a
   split at a
   ·rename_i hi;rw[if_pos hi]at b;exact hE.2 i e kv a b
   ·rename_i hi;rw[if_neg hi]at b;have hz:i-(pairs kd).length=0:=by have:=(To.mp a).1;simpa using this
    rw[hz]at a b;cases a;cases b;exact⟨hp,rfl,hk,hv⟩
  ·rw[h4,WS,List.nodup_append];refine⟨hn,by simp,λx hx y hy=>?_⟩;cases U9.mp hy;refine rO hx ?_;rintro kv hm rfl;refine aw (W4.mp hm) ?_;intro i zq;refine aw zq ?_;clear zq;rintro hi rfl;intro z;exact dh ((h1 i _ (T7 hi)).mp z)
 |some j=>
  dsimp only at h4;have hl:=h3 j rfl;have hkj:=(h1 j _ (T7 hl)).mpr rfl;refine SO (Va (SO (wpAny_updateDict (s:={s with toks:=t'}) ho hd (wpAny_point
   (hQ _ t' _ _ ep (Ua _ ho (Obj.isFreed_of_dict (Obj.data_mapDict hd _))) (hx.mapDict _) (Obj.data_mapDict hd _) (U0 ..) ?_ ?_ (λe=>by refine rwr h4 ?_;simp[e]) (by refine rwr h4 (rwr h2 ?_);simp[T7 hl]))))))
  ·refine rwr h4 ?_;refine⟨by simpa using hE.1,λi e kv a b=>?_⟩;rw[Array.toList_modify,List.getElem?_modify]at a;rw[List.getElem?_set]at b;refine xT a ?_;clear a;rintro e0 a0 rfl;by_cases hij:j=i
   ·subst hij;rw[if_pos rfl,if_pos hl]at b;cases b;have r:=hE.2 j e0 _ a0 (T7 hl);refine rwr (if_pos rfl) ?_;exact⟨hp,r.hash.trans (by exact rwr hkj rfl),hkj▸r.key,hv⟩
   ·rw[if_neg hij]at b ⊢;exact hE.2 i e0 kv a0 b
  ·have:((pairs kd).set j (k,v)).map (·.1)=(pairs kd).map (·.1):=by
    refine rwr List.map_set ?_;refine List.ext_getElem? λi=>?_;refine rwr (List.getElem?_set) ?_;by_cases e:j=i
    ·subst e;refine rwr (if_pos rfl) (rwr (if_pos (by simpa using hl)) (rwr (Tr) (rwr (T7 hl) (rwl hkj ?_))));rfl
    ·exact rwr (if_neg e) rfl
   refine rwr h4 (rwr this ?_);exact hn
end
end
end
section
set_option compiler.extract_closed false
section
open PySem PySem.W PyProof.Rows
variable{C:Cx}{R R' R'':Wd}{X Y:List Tw}
theorem dU{α:Type}(q:Pa):tg q (T.nil:T α)=none:=by cases q<;>rfl
theorem aW{α:Type}(x:α):∀(q:Pa)(t:T α),tg q (tp q x t)=some x:=by
 intro q;induction q with
 |e=>intro t;cases t<;>rfl
 |_ q ih=>intro t;cases t<;>exact ih _
theorem am{α:Type}(x:α):∀{q p:Pa}{t:T α},p≠q->tg p (tp q x t)=tg p t:=by
 intro q;induction q with
 |e=>intro p t n;cases p<;>cases t<;>first|rfl|exact absurd rfl n|exact dU _
 |_ q ih=>intro p t n;cases p<;>cases t<;>first|rfl|exact ih (λe=>n (e▸rfl))|exact dU _|exact(ih (t:=.nil) (λe=>n (e▸rfl))).trans (dU _)
noncomputable def aY:Pa->Nat
 |.e=>0
 |.a q=>8*aY q+1
 |.b q=>8*aY q+2
 |.c q=>8*aY q+3
 |.d q=>8*aY q+4
 |.f q=>8*aY q+5
 |.g q=>8*aY q+6
 |.h q=>8*aY q+7
 |.i q=>8*aY q+8
theorem jg:∀q,aY (qs q)=aY q+1
 |.e=>rfl
 |.a _=>rfl
 |.b _=>rfl
 |.c _=>rfl
 |.d _=>rfl
 |.f _=>rfl
 |.g _=>rfl
 |.h _=>rfl
 |.i q=>by show 8*aY (qs q)+1=8*aY q+8+1;refine rwr (jg q) ?_;rfl
theorem eF:∀n,aY (bD n)=n
 |0=>rfl
 |n+1=>by show aY (qs (bD n))=_;rw[jg,eF n]
theorem Au{n m:Nat}(h:n≠m):bD n≠bD m:=λe=>h (by rw[←eF n,e,eF])
theorem nn{α:Type}{o:α}{x:Option α}(h:x=none)(k:x=some o):False:=by rw[h]at k;exact dh k
def yM(b:Tw)(p:iK):Prop:=b=p.fst∨b=p.snd
def dN(R:Wd)(b:Tw):Prop:=∃q p,R.ρ q=some p∧yM b p
def fh(R:Wd)(c:Tw):Prop:=∃q p,R.ρ q=some p∧c∈p.cs
def lX(o o':Obj):Prop:=o'=o∨((∃es ep,o.data=.dict es ep)∧∃sl,o'={o with slots:=sl})
theorem lX.trans{a b c:Obj}(x:lX a b)(y:lX b c):lX a c:=by
 rcases x with rfl|⟨h,sl,rfl⟩
 ·exact y
 ·rcases y with rfl|⟨_,sl',rfl⟩
  ·exact .inr ⟨h,sl,rfl⟩
  ·exact .inr ⟨h,sl',rfl⟩
theorem lX.data{a b:Obj}(x:lX a b):b.data=a.data∧b.cls=a.cls∧b.dict=a.dict:=by
 rcases x with rfl|⟨_,sl,rfl⟩<;>exact⟨rfl,rfl,rfl⟩
def kM(X:List Tw)(h:UT)(b:Tw):Prop:=h.get? b=none∨b∈X
structure au(X:List Tw)(R R':Wd):Prop where
 ref:∀q p,R.ρ q=some p->R'.ρ q=some p
 new:∀q p,R'.ρ q=some p->R.ρ q=some p∨kM X R.h p.fst∧kM X R.h p.snd∧∀c∈p.cs,kM X R.h c
 tup:∀a items,R.h.IsTuple a items->R'.h.IsTuple a items
 ext:∀b o,R.h.get? b=some o->¬dN R b->b∉X->∃o',R'.h.get? b=some o'∧lX o o'
 live:∀b o,b∉X->R.h.get? b=some o->∃o',R'.h.get? b=some o'
 code:∀cd q,R.h.CodeRec cd q->R'.h.CodeRec cd q
 fl:∀a o,R.fz a->R.h.get? a=some o->R'.fz a∧R'.h.get? a=some o
 fn:∀a,R'.fz a->R.fz a∨kM X R.h a
theorem Cj.later(L:au X R R'):∀(x:KV),(∀v,VR C R x v->VR C R' x v)∧(∀vs,bG C R x vs->bG C R' x vs):=by
 intro x;induction x with
 |ref q=>exact⟨λv=>VB λp h=>⟨L.ref q p h.1,h.2⟩,λzz h=>h⟩
 |nil=>exact⟨λv=>VB λa h=>⟨h.1,L.tup _ _ h.2⟩,λzz h=>h⟩
 |cons x r i1 i2=>exact⟨λv=>VB λa=>VB λu=>VB λus h=>⟨h.1,L.tup _ _ h.2.1,i1.1 u h.2.2.1,i2.2 us h.2.2.2.1,h.2.2.2.2⟩,λvs=>VB λu=>VB λus h=>⟨h.1,i1.1 u h.2.1,i2.2 us h.2.2⟩⟩
 |fl x i=>exact⟨λv=>VB λa=>VB λvs=>VB λk h=>⟨h.1,(L.fl a _ h.2.1 h.2.2.1).1,(L.fl a _ h.2.1 h.2.2.1).2,i.2 _ h.2.2.2.1,h.2.2.2.2⟩,λzz h=>h⟩
 |_=>exact⟨λzz h=>h,λzz h=>h⟩
theorem VR.later{x:KV}{v:SU}(h:VR C R x v)(L:au X R R'):VR C R' x v:=(Cj.later L x).1 v h
theorem bG.later{x:KV}{vs:List SU}(h:bG C R x vs)(L:au X R R'):bG C R' x vs:=(Cj.later L x).2 vs h
theorem px.later{es:List TR}{iH:List (KV×KV)}(h:px C R es iH)(L:au X R R'):px C R' es iH:=
 ⟨h.1,λi e kv a b=>let r:=h.2 i e kv a b;⟨r.plain,r.hash,r.key.later L,r.val.later L⟩⟩
theorem au.refl(X:List Tw)(R:Wd):au X R R:=⟨λZ Z h=>h,λZ Z h=>.inl h,λZ Z h=>h,λZ o e Z Z=>⟨o,e,.inl rfl⟩,λZ o Z e=>⟨o,e⟩,λZ Z h=>h,λZ Z a b=>⟨a,b⟩,λZ=>.inl⟩
theorem au.dead(L:au X R R'){b:Tw}(h:kM X R'.h b):kM X R.h b:=by
 by_cases hx:b∈X
 ·exact .inr hx
 ·cases e:R.h.get? b with
  |none=>exact .inl e
  |some o=>refine aw (L.live b o hx e) ?_;intro o' e';exact(nn (h.resolve_right hx) e').elim
theorem au.owned(L:au X R R'){b:Tw}(h:¬kM X R.h b)(ho:dN R' b):dN R b:=by
 refine aL ho ?_;clear ho;intro q p hp hb;rcases L.new q p hp with e|zq
 ·exact⟨q,p,e,hb⟩
 ·refine bf zq ?_;clear zq;intro e1 e2 _;rcases hb with rfl|rfl
  ·exact absurd e1 h
  ·exact absurd e2 h
theorem au.frozen(L:au X R R'){b:Tw}(h:¬kM X R.h b)(ho:fh R' b):fh R b:=by
 refine aL ho ?_;clear ho;intro q p hp hb;rcases L.new q p hp with e|zq
 ·exact⟨q,p,e,hb⟩
 ·refine bf zq ?_;clear zq;intro _ _ e;exact absurd (e b hb) h
theorem dQ{h:UT}{b:Tw}{o:Obj}(e:h.get? b=some o)(hx:b∉X):¬kM X h b:=λq=>nn (q.resolve_right hx) e
theorem au.trans(L:au X R R')(M:au X R' R''):au X R R'':=by
 refine⟨λq p h=>M.ref q p (L.ref q p h),λq p h=>?_,λa i t=>M.tup _ _ (L.tup _ _ t),λb o e no nx=>?_,λb o nx e=>?_,λZ Z r=>M.code _ _ (L.code _ _ r),λa o f e=>let z:=L.fl a o f e;M.fl a o z.1 z.2,λa f=>?_⟩
 ·rcases M.new q p h with e|zq
  ·exact L.new q p e
  ·refine bf zq ?_;clear zq;intro e1 e2 e3;exact .inr ⟨L.dead e1,L.dead e2,λc hc=>L.dead (e3 c hc)⟩
 ·refine ag (L.ext b o e no nx) ?_;intro o' e' a;refine ag (M.ext b o' e' (λh=>no (L.owned (dQ e nx) h)) nx) ?_;intro o'' e'' a';exact⟨o'',e'',a.trans a'⟩
 ·refine aw (L.live b o nx e) ?_;intro o' e';exact M.live b o' nx e'
 ·exact(M.fn a f).elim (L.fn a) λg=>.inr (L.dead g)
theorem au.strike(L:au X R R')(s:∀b∈X,b∈Y∨R.h.get? b=none):au Y R R':=by
 have go:∀{b},kM X R.h b->kM Y R.h b:=λh=>h.elim .inl λq=>(s _ q).symm;have nx:∀{b o},R.h.get? b=some o->b∉Y->b∉X:=λe n q=>(s _ q).elim n λz=>nn z e;exact⟨L.ref,λq p h=>(L.new q p h).imp id λ⟨a,b,c⟩=>⟨go a,go b,λx hx=>go (c x hx)⟩,L.tup,λb o e no n=>L.ext b o e no (nx e n),λb o n e=>L.live b o (nx e n) e,L.code,L.fl,λa f=>(L.fn a f).imp id go⟩
theorem au.mono(L:au X R R')(s:∀b∈X,b∈Y):au Y R R':=L.strike λb h=>.inl (s b h)
def oU{α β:Type}(r:α->β->Prop):Option α->Option β->Prop
 |.some x,.some y=>r x y
 |.none,.none=>True
 |_,_=>False
noncomputable def iE(es:List TR)(nm:Str):Option SU:=(es.find? (·.key.isStr nm)).map (·.val)
def vH(C:Cx)(R:Wd)(fs:T KV)(es:List TR):Prop:=es.any (·.refKey)=false∧(∀nm,oU (VR C R) ((C.sl nm).bind λq=>tg q fs) (iE es nm))∧∃ns:List Str,ns.Nodup∧ns.length=es.length∧∀nm∈ns,(iE es nm).isSome=true
noncomputable def frees(sc:Vv):List Str:=(sc.names.filter λx=>x.2==.free).map (·.1)
structure N9(C:Cx)(R:Wd)(q:Pa)(cs:KV)(p:iK)(fd:X1):Prop where
 lam:∃e,C.lam q=some (fd.params,e,fd.scope)∧fd.body=.expr e
 glob:fd.globals=Tv
 bi:fd.builtins=Uh
 dflt:fd.defaults=.none
 code:R.h.CodeRec fd.code fd.qualname
 keep:∀x∈fd.closure,x.2∈p.cs∧C.asg x.1=false
 inj:∀nm nm' ca,fd.closure.lookup nm=some ca->fd.closure.lookup nm'=some ca->nm=nm'
 caps:∃vs,bG C R cs vs∧vs.length=(frees fd.scope).length∧∀(i:Nat)(nm:Str)(v:SU),(frees fd.scope)[i]?=some nm->vs[i]?=some v->∃ca ob,fd.closure.lookup nm=some ca∧R.h.get? ca=some ob∧ob.data=.cell (some v)
def Pd(C:Cx)(a m es:KD):Prop:=∀x,pk x=true->match dl a x with
 |some v=>∃u,dl es x=some u∧∀(R:Wd) w,VR C R u w->VR C R v w
 |none=>match dl m x with
  |some v=>(∃u,dl es x=some u∧∀(R:Wd) w,VR C R u w->VR C R v w)∨dl es x=none∧∀(R:Wd) w,VR C R dflt w->VR C R v w
  |none=>dl es x=none
def oW(C:Cx)(R:Wd)(n:Nat)(es:KD)(p:iK):Prop:=p.snd=p.fst∧∃ob es' ep,R.h.get? p.fst=some ob∧ob.ExactDict∧ob.data=.dict es' ep∧px C R es'.toList (pairs es)∧((pairs es).map (·.1)).Nodup∧n=(pairs es).length∧n≤100000∧ep=n
def eX(C:Cx)(R:Wd)(o:KO)(p:iK):Prop:=match o with
 |.list n xs=>p.snd=p.fst∧∃vs k,R.h.get? p.fst=some {cls:=.type "list",data:=.seq vs k}∧bG C R xs vs.toList∧n=vs.size∧n≤100000
 |.dict n es=>oW C R n es p
 |.junk n=>p.snd=p.fst∧∃vs k,R.h.get? p.fst=some (gz vs k)∧vs.size≤n∧n≤100000
 |.pd a m=>∃n es,oW C R n es p∧Pd C a m es
 |.set xs=>p.snd=p.fst∧∃S n,R.h.SetOf (strKind C.prog C.w) p.fst S n∧n≤len xs∧len xs≤1001
 |.inst c fs=>∃a,C.clsAt c=some a∧R.h.get? p.fst=some (instObj a p.snd)∧∃es n,R.h.get? p.snd=some (dictOf es n)∧vH C R fs es
 |.clo q cs=>p.snd=p.fst∧∃fd ob,R.h.get? p.fst=some ob∧ob.cls=.type "function"∧ob.data=.func fd∧N9 C R q cs p fd
theorem oU.imp{α β:Type}{r r':α->β->Prop}(f:∀x y,r x y->r' x y):∀{a:Option α}{b:Option β},oU r a b->oU r' a b
 |.some x,.some y,h=>f x y h
 |.none,.none,h=>h
 |.none,.some _,h=>h
 |.some _,.none,h=>h
theorem eX.move(L:au X R R'){o:KO}{p:iK}(k1:R'.h.get? p.fst=R.h.get? p.fst)(k2:R'.h.get? p.snd=R.h.get? p.snd)(k3:∀c∈p.cs,R'.h.get? c=R.h.get? c)(r:eX C R o p):eX C R' o p:=by
 have dc:∀{n iH},oW C R n iH p->oW C R' n iH p:=λr=>by refine ak r ?_;clear r;intro e zq;refine ew zq ?_;clear zq;intro ob es ep a b c d f;exact⟨e,ob,es,ep,k1.trans a,b,c,d.later L,f⟩
 cases o with
 |list n xs=>refine ak r ?_;clear r;intro e zq;refine aH zq ?_;clear zq;intro vs k a b c;exact⟨e,vs,k,k1.trans a,b.later L,c⟩
 |dict n iH=>exact dc r
 |junk n=>refine ak r ?_;intro e zq;refine aL zq ?_;intro vs k a b;exact⟨e,vs,k,k1.trans a,b⟩
 |pd a m=>refine aL r ?_;intro n es a b;exact⟨n,es,dc a,b⟩
 |set xs=>refine ak r ?_;clear r;intro e zq;refine aL zq ?_;clear zq;intro S n zq2 c;refine x6 zq2 ?_;clear zq2;intro ob es ep tb a b;exact⟨e,S,n,⟨ob,es,ep,tb,k1.trans a,b⟩,c⟩
 |inst c fs=>refine aM r ?_;clear r;intro a b c zq;refine aH zq ?_;clear zq;intro es n d e f;exact⟨a,b,k1.trans c,es,n,k2.trans d,e,λnm=>(f.1 nm).imp λZ Z h=>h.later L,f.2⟩
 |clo q cs=>
  refine ak r ?_;clear r;intro e zq;refine dG zq ?_;clear zq;intro fd ob a b c K;refine⟨e,fd,ob,k1.trans a,b,c,K.lam,K.glob,K.bi,K.dflt,L.code _ _ K.code,K.keep,K.inj,?_⟩;refine aM K.caps ?_;intro vs h1 h2 h3;refine⟨vs,h1.later L,h2,λi nm v q1 q2=>?_⟩;refine aH (h3 i nm v q1 q2) ?_;intro ca ob z1 z2 z3;exact⟨ca,ob,z1,(k3 _ (K.keep _ (Th z1)).1).trans z2,z3⟩
def qi(ob:Obj):Prop:=ob.cls≠.type "tuple"∧(∀v,ob.data≠.cell v)∧∀vs,ob.data≠.fields vs
theorem eX.solid{o:KO}{p:iK}(r:eX C R o p){b:Tw}(hb:yM b p):∃ob,R.h.get? b=some ob∧qi ob:=by
 have both:∀{ob:Obj},p.snd=p.fst->R.h.get? p.fst=some ob->qi ob->∃ob,R.h.get? b=some ob∧qi ob:=λe a s=>by
  rcases hb with rfl|rfl
  ·exact⟨_,a,s⟩
  ·exact⟨_,e▸a,s⟩
 have dc:∀{n iH},oW C R n iH p->∃ob,R.h.get? b=some ob∧qi ob:=λr=>by refine ak r ?_;clear r;intro e zq;refine iz zq ?_;clear zq;rintro ob es ep a b d -;exact both e a ⟨by refine rwr b.1 ?_;decide,λv=>by refine rwr d ?_;((repeat intro);contradiction),λv=>by refine rwr d ?_;((repeat intro);contradiction)⟩
 cases o with
 |list n xs=>refine ak r ?_;clear r;intro e zq;refine aL zq ?_;clear zq;rintro vs n a -;exact both e a ⟨by exact ne_of_beq_false rfl,λv=>(by(repeat intro);contradiction),λv=>(by(repeat intro);contradiction)⟩
 |dict n iH=>exact dc r
 |junk n=>refine ak r ?_;intro e zq;refine aL zq ?_;rintro vs k a -;exact both e a ⟨by unfold gz;exact ne_of_beq_false rfl,λv=>(by(repeat intro);contradiction),λv=>(by(repeat intro);contradiction)⟩
 |pd a m=>refine aL r ?_;rintro n es a -;exact dc a
 |set xs=>refine ak r ?_;clear r;intro e zq;refine aL zq ?_;clear zq;intro S n zq2 c;refine lQ zq2 ?_;clear zq2;rintro ob es ep tb a b d -;exact both e a ⟨by refine rwr b.1 ?_;decide,λv=>by refine rwr d ?_;((repeat intro);contradiction),λv=>by refine rwr d ?_;((repeat intro);contradiction)⟩
 |inst c fs=>
  refine aM r ?_;clear r;rintro a-c zq;refine aL zq ?_;clear zq;rintro es n d -;rcases hb with rfl|rfl
  ·exact⟨_,c,by simp,λv=>(by(repeat intro);contradiction),λv=>(by(repeat intro);contradiction)⟩
  ·exact⟨_,d,by exact ne_of_beq_false rfl,λv=>(by(repeat intro);contradiction),λv=>(by(repeat intro);contradiction)⟩
 |clo q cs=>refine ak r ?_;clear r;intro e zq;refine dG zq ?_;clear zq;rintro fd ob a b c -;exact both e a ⟨by refine rwr b ?_;decide,λv=>by refine rwr c ?_;((repeat intro);contradiction),λv=>by refine rwr c ?_;((repeat intro);contradiction)⟩
end
end
section
set_option compiler.extract_closed false
section
open PySem PySem.W PyProof.Rows
variable{C:Cx}{R R':Wd}{X Y:List Tw}{μ μ':KS}{h':UT}
structure bP(C:Cx)(R:Wd)(μ:KS):Prop where
 next:∃m,μ.n=bD m∧∀i,m≤i->tg (bD i) μ.h=none
 dom:∀q p,R.ρ q=some p->∃o,tg q μ.h=some o∧eX C R o p
 cod:∀q o,tg q μ.h=some o->∃p,R.ρ q=some p
 keep:∀b o,C.h₀.get? b=some o->R.h.get? b=some o
 old:∀q p b,R.ρ q=some p->yM b p->C.h₀.get? b=none
 apart:∀q q' p p' b,R.ρ q=some p->R.ρ q'=some p'->yM b p->yM b p'->q=q'
 frz:∀c,fh R c->∃ob v,R.h.get? c=some ob∧ob.data=.cell v∧C.h₀.get? c=none
 vol:∀P∈C.vol,∃ps,R.h.get? P=some (tabObj ps)∧TriplesOk ps.toList∧∀pos cv,codeAmong pos ps.toList=some cv->R.h.CodeRec cv (C.volQ P)
 fz:∀a,R.fz a->(∃vs k,R.h.get? a=some (gz vs k))∧¬dN R a
theorem bP.at(G:bP C R μ){q:Pa}{o:KO}(e:tg q μ.h=some o):∃p,R.ρ q=some p∧eX C R o p:=by
 refine aw (G.cod q o e) ?_;intro p hp;refine ag (G.dom q p hp) ?_;intro o' e' r;cases e.symm.trans e';exact⟨p,hp,r⟩
theorem bP.solid(G:bP C R μ){b:Tw}(h:dN R b):∃ob,R.h.get? b=some ob∧qi ob:=by
 refine aL h ?_;clear h;intro q p hp hb;refine ag (G.dom q p hp) ?_;rintro o-r;exact r.solid hb
theorem bP.notFrozen(G:bP C R μ){b:Tw}(ho:dN R b):¬fh R b:=λhf=>by
 refine d9 (G.solid ho) ?_;rintro ob e-s -;refine aH (G.frz b hf) ?_;rintro oc v e' d -;cases e.symm.trans e';exact s v d
theorem bP.notVol(G:bP C R μ){b:Tw}(ho:dN R b):b∉C.vol:=λhv=>by
 refine d9 (G.solid ho) ?_;rintro ob e- -s;refine ag (G.vol b hv) ?_;rintro ps e' -;cases e.symm.trans e';exact s _ rfl
theorem bP.dead(G:bP C R μ){b:Tw}(hb:R.h.get? b=none):C.h₀.get? b=none∧¬dN R b∧¬fh R b∧b∉C.vol:=by
 refine⟨?_,λh=>?_,λh=>?_,λh=>?_⟩
 ·cases e:C.h₀.get? b with
  |none=>rfl
  |some o=>exact(nn hb (G.keep b o e)).elim
 ·refine ag (G.solid h) ?_;rintro ob e -;exact nn hb e
 ·refine aL (G.frz b h) ?_;rintro ob v e -;exact nn hb e
 ·refine ag (G.vol b h) ?_;rintro ps e -;exact nn hb e
theorem bP.unfz(G:bP C R μ){b:Tw}(hb:R.h.get? b=none):¬R.fz b:=λh=>by refine fU (G.fz b h).1 ?_;intro vs k e;exact nn hb e
abbrev bB(h h':UT):Prop:=∀b o,h.get? b=some o->h'.get? b=some o
theorem au.keeps(X:List Tw)(k:bB R.h h'):au X R ⟨R.ρ,h',R.fz⟩:=
 ⟨λZ Z h=>h,λZ Z h=>.inl h,λ_ _ ⟨o,e,r⟩=>⟨o,k _ _ e,r⟩,λb o e Z Z=>⟨o,k b o e,.inl rfl⟩,λb o Z e=>⟨o,k b o e⟩,λZ Z r=>r.keeps k,λa o f e=>⟨f,k a o e⟩,λZ=>.inl⟩
theorem bP.step(G:bP C R μ)(L:au [] R R')(hρ:R'.ρ=R.ρ)(hf:R'.fz=R.fz)(hμ:μ'.n=μ.n)(ht:∀q,(tg q μ'.h).isSome=(tg q μ.h).isSome)(hd:∀q p,R.ρ q=some p->∃o,tg q μ'.h=some o∧eX C R' o p)
  (k0:∀b o,C.h₀.get? b=some o->R'.h.get? b=some o) (kf:∀c,fh R c->R'.h.get? c=R.h.get? c) (kv:∀P∈C.vol,R'.h.get? P=R.h.get? P):bP C R' μ':=by
 refine⟨?_,λq p h=>hd q p (hρ▸h),λq o e=>?_,k0,λq p b h=>G.old q p b (hρ▸h),λq q' p p' b h h'=>G.apart q q' p p' b (hρ▸h) (hρ▸h'),λc hc=>?_,λP hP=>?_,λa ha=>?_⟩
 ·refine ag G.next ?_;intro m e f;refine⟨m,hμ.trans e,λi hi=>?_⟩;have:=ht (bD i);rw[f i hi]at this;cases e:tg (bD i) μ'.h with
  |none=>rfl
  |some o=>rw[e]at this;exact qd this
 ·have:=ht q;rw[e]at this;refine KE this.symm ?_;intro o' e';refine rwr hρ ?_;exact G.cod q o' e'
 ·refine aL hc ?_;clear hc;intro q p hp hm;have hf:fh R c:=⟨q,p,hρ▸hp,hm⟩
  refine aL (G.frz c hf) ?_;intro ob v e d;exact⟨ob,v,(kf c hf).trans e,d⟩
 ·refine aM (G.vol P hP) ?_;intro ps e1 e2 e3;exact⟨ps,(kv P hP).trans e1,e2,λpos cv z=>L.code _ _ (e3 pos cv z)⟩
 ·have ha:R.fz a:=hf▸ha;refine ak (G.fz a ha) ?_;intro z n;refine fU z ?_;intro vs k e;exact⟨⟨vs,k,(L.fl a _ ha e).2⟩,λ⟨q,p,e,w⟩=>n ⟨q,p,hρ▸e,w⟩⟩
theorem gA{h h':UT}{b:Tw}(k:bB h h')(e:∃o,h.get? b=some o):h'.get? b=h.get? b:=by refine aw e ?_;clear e;intro o e;refine rwr e ?_;exact k b o e
theorem bP.more(G:bP C R μ)(k:bB R.h h'):bP C ⟨R.ρ,h',R.fz⟩ μ:=by
 have L:=au.keeps [] k;refine G.step L rfl rfl rfl (λzz=>rfl) (λq p h=>?_) (λb o e=>k b o (G.keep b o e)) (λc hc=>gA k ?_) (λP hP=>gA k ?_)
 ·refine ag (G.dom q p h) ?_;intro o e r;refine⟨o,e,r.move L (gA k ?_) (gA k ?_) λc hc=>gA k ?_⟩
  ·refine ag (r.solid (.inl rfl)) ?_;rintro ob e -;exact⟨ob,e⟩
  ·refine ag (r.solid (.inr rfl)) ?_;rintro ob e -;exact⟨ob,e⟩
  ·refine aL (G.frz c ⟨q,p,h,hc⟩) ?_;rintro ob v e -;exact⟨ob,e⟩
 ·refine aL (G.frz c hc) ?_;rintro ob v e -;exact⟨ob,e⟩
 ·refine ag (G.vol P hP) ?_;rintro ps e -;exact⟨_,e⟩
theorem u4{h h':UT}{b:Tw}{ob:Obj}(hs:U7 b h h')(hb:h.get? b=some ob)(hd:∀vs,ob.data≠.fields vs){cd:SU}{q:Str}(r:h.CodeRec cd q):h'.CodeRec cd q:=by
 refine lQ r ?_;clear r;intro c o vs t e g d v;refine⟨c,o,vs,t,e,(hs.2 c ?_).trans g,d,v⟩;rintro rfl;cases hb.symm.trans g;exact hd _ d
theorem au.but(X:List Tw){b:Tw}{ob:Obj}(hs:U7 b R.h h')(hb:R.h.get? b=some ob)(hS:qi ob)(hlv:∃o,h'.get? b=some o)(ho:dN R b)(hz:¬R.fz b):au X R ⟨R.ρ,h',R.fz⟩:=by
 refine⟨λZ Z h=>h,λZ Z h=>.inl h,λa i=>?_,λc o e n Z=>⟨o,(hs.2 c λz=>n (z▸ho)).trans e,.inl rfl⟩,λc o Z e=>?_,λcd q r=>u4 hs hb hS.2.2 r,λa o f e=>⟨f,(hs.2 a λz=>hz (z▸f)).trans e⟩,λZ=>.inl⟩
 ·intro zq;refine aM zq ?_;clear zq;intro o e' hc r;refine⟨o,(hs.2 a ?_).trans e',hc,r⟩;rintro rfl;cases hb.symm.trans e';exact hS.1 hc
 ·by_cases z:c=b
  ·subst z;exact hlv
  ·exact⟨o,(hs.2 c z).trans e⟩
theorem bP.set(G:bP C R μ){q:Pa}{p:iK}{o':KO}{b:Tw}(hp:R.ρ q=some p)(hb:yM b p)(hs:U7 b R.h h')(hlv:∃o',h'.get? b=some o')(hO:au [] R ⟨R.ρ,h',R.fz⟩->eX C ⟨R.ρ,h',R.fz⟩ o' p):
  bP C ⟨R.ρ,h',R.fz⟩ (bV μ q o')∧∀X,au X R ⟨R.ρ,h',R.fz⟩:=by
 have ow:dN R b:=⟨q,p,hp,hb⟩
 refine ag (G.solid ow) ?_;intro ob e hS;have nf:=G.notFrozen ow;have L:∀X,au X R ⟨R.ρ,h',R.fz⟩:=λX=>.but X hs e hS hlv ow λf=>(G.fz b f).2 ow;refine ag (G.dom q p hp) ?_;rintro o0 e0 -;refine⟨G.step (L []) rfl rfl rfl (λq'=>?_) (λq' p' h=>?_) (λc o e'=>(hs.2 c ?_).trans (G.keep c o e')) (λc hc=>hs.2 c λz=>nf (z▸hc)) λP hP=>hs.2 P λz=>G.notVol ow (z▸hP),L⟩
 ·show(tg q' (tp q o' μ.h)).isSome=_;by_cases z:q'=q
  ·subst z;rw[aW,e0];rfl
  ·exact rwr (am _ z) rfl
 ·show∃o,tg q' (tp q o' μ.h)=some o∧_;by_cases z:q'=q
  ·subst z;cases hp.symm.trans h;exact⟨o',aW ..,hO (L [])⟩
  ·refine rwr (am _ z) ?_;refine ag (G.dom q' p' h) ?_;intro o e r;exact⟨o,e,r.move (L []) (hs.2 _ λw=>z (G.apart q' q p' p b h hp (.inl w.symm) hb)) (hs.2 _ λw=>z (G.apart q' q p' p b h hp (.inr w.symm) hb)) λc hc=>hs.2 c λw=>nf ⟨q',p',h,w▸hc⟩⟩
 ·rintro rfl;exact nn (G.old q p c hp hb) e'
open Classical in
def Wd.add(R:Wd)(q:Pa)(p:iK)(h:UT):Wd:=⟨λx=>if x=q then some p else R.ρ x,h,R.fz⟩
theorem Wd.add_self{q:Pa}{p:iK}:(R.add q p h').ρ q=some p:=if_pos rfl
theorem Wd.add_other{q q':Pa}{p:iK}(n:q'≠q):(R.add q p h').ρ q'=R.ρ q':=if_neg n
theorem bP.newX(G:bP C R μ){o:KO}{p:iK}(k:bB R.h h'){X:List Tw}(hd:∀b,yM b p->kM X R.h b)(ho:∀b,yM b p->C.h₀.get? b=none∧¬dN R b∧¬R.fz b)(h3:∀c∈p.cs,kM X R.h c∧∃ob v,h'.get? c=some ob∧ob.data=.cell v∧C.h₀.get? c=none)
  (hO:au X R (R.add μ.n p h')->eX C (R.add μ.n p h') o p):bP C (R.add μ.n p h') (bz μ o)∧au X R (R.add μ.n p h')∧VR C (R.add μ.n p h') (.ref μ.n) (.ref p.fst):=by
 refine ag G.next ?_;intro m em fm;have free:R.ρ μ.n=none:=by
  cases e:R.ρ μ.n with
  |none=>rfl
  |some p=>refine ag (G.dom _ _ e) ?_;rintro o e' -;rw[em,fm m (TA _)]at e';exact dh e'
 have old:∀{q p'},R.ρ q=some p'->q≠μ.n:=λe z=>nn free (z▸e);have cs:∀{q p'},(R.add μ.n p h').ρ q=some p'->(q=μ.n∧p'=p)∨q≠μ.n∧R.ρ q=some p':=λ{q p'} e=>by
  by_cases z:q=μ.n
  ·subst z;rw[Wd.add_self]at e;cases e;exact .inl ⟨rfl,rfl⟩
  ·rw[Wd.add_other z]at e;exact .inr ⟨z,e⟩
 have L:au X R (R.add μ.n p h'):=by
  refine⟨λq p' e=>(Wd.add_other (old e)).trans e,λq p' e=>?_,λ_ _ ⟨o,e,r⟩=>⟨o,k _ _ e,r⟩,λb o e Z Z=>⟨o,k b o e,.inl rfl⟩,λb o Z e=>⟨o,k b o e⟩,λZ Z r=>r.keeps k,λa o f e=>⟨f,k a o e⟩,λZ=>.inl⟩;rcases cs e with zq|zq
  ·refine ak zq ?_;clear zq;rintro _ rfl;exact .inr ⟨hd _ (.inl rfl),hd _ (.inr rfl),λc hc=>(h3 c hc).1⟩
  ·refine ak zq ?_;clear zq;intro _ e;exact .inl e
 have no:∀{q p' b},R.ρ q=some p'->yM b p'->yM b p->False:=λe w1 w2=>(ho _ w2).2.1 ⟨_,_,e,w1⟩;have tgn:∀{q},q≠μ.n->tg q (bz μ o).h=tg q μ.h:=λn=>am _ n;refine⟨⟨⟨m+1,congrArg qs em,λi hi=>?_⟩,λq p' e=>?_,λq o' e=>?_,λb o e=>k b o (G.keep b o e),λq p' b e w=>?_,λq q' p1 p2 b e e' w w'=>?_,λc=>?_,λP hP=>?_,λa ha=>?_⟩,L,p,Wd.add_self,rfl⟩
 ·rw[tgn (by rw[em];exact Au (by lia))];exact fm i (by exact SV (U8 m) hi)
 ·rcases cs e with zq|zq
  ·refine ak zq ?_;clear zq;rintro rfl rfl;exact⟨o,aW ..,hO L⟩
  ·refine ak zq ?_;clear zq;intro z e;refine rwr (tgn z) ?_;refine ag (G.dom q p' e) ?_;intro o' e' r;refine⟨o',e',r.move L (gA k ?_) (gA k ?_) λc hc=>gA k ?_⟩
   ·refine ag (r.solid (.inl rfl)) ?_;rintro ob e -;exact⟨ob,e⟩
   ·refine ag (r.solid (.inr rfl)) ?_;rintro ob e -;exact⟨ob,e⟩
   ·refine aL (G.frz c ⟨q,p',e,hc⟩) ?_;clear e;rintro ob v e -;exact⟨ob,e⟩
 ·by_cases z:q=μ.n
  ·exact⟨p,z▸Wd.add_self⟩
  ·rw[tgn z]at e;refine rwr (Wd.add_other z) ?_;exact G.cod q o' e
 ·rcases cs e with zq|zq
  ·refine ak zq ?_;clear zq;rintro rfl rfl;exact(ho b w).1
  ·refine ak zq ?_;clear zq;intro z e;exact G.old q p' b e w
 ·rcases cs e with⟨rfl,rfl⟩|⟨z,e⟩<;>rcases cs e' with⟨rfl,rfl⟩|⟨z',e'⟩
  ·rfl
  ·exact(no (by assumption) w' w).elim
  ·exact(no (by assumption) w w').elim
  ·exact G.apart q q' p1 p2 b e e' w w'
 ·intro zq;refine aL zq ?_;clear zq;intro q p' e hc;rcases cs e with zq|zq
  ·refine ak zq ?_;clear zq;rintro rfl rfl;exact(h3 c hc).2
  ·refine ak zq ?_;clear zq;intro z e;refine aL (G.frz c ⟨q,p',e,hc⟩) ?_;intro ob v e3 d;exact⟨ob,v,k _ _ e3,d⟩
 ·refine aM (G.vol P hP) ?_;intro ps e1 e2 e3;exact⟨ps,k _ _ e1,e2,λpos cv z=>(e3 pos cv z).keeps k⟩
 ·refine ak (G.fz a ha) ?_;intro z n;refine fU z ?_;intro vs c e;refine⟨⟨vs,c,k _ _ e⟩,λ⟨q,p',e,w⟩=>?_⟩;rcases cs e with zq|zq
  ·refine ak zq ?_;clear zq;rintro rfl rfl;exact(ho a w).2.2 ha
  ·refine ak zq ?_;clear zq;intro z e;exact n ⟨q,p',e,w⟩
theorem bP.new(G:bP C R μ){o:KO}{p:iK}(k:bB R.h h')(hd:∀b,yM b p->R.h.get? b=none){X:List Tw}(h3:∀c∈p.cs,kM X R.h c∧∃ob v,h'.get? c=some ob∧ob.data=.cell v∧C.h₀.get? c=none)
  (hO:au X R (R.add μ.n p h')->eX C (R.add μ.n p h') o p):bP C (R.add μ.n p h') (bz μ o)∧au X R (R.add μ.n p h')∧VR C (R.add μ.n p h') (.ref μ.n) (.ref p.fst):=
 G.newX k (λb w=>.inl (hd b w)) (λb w=>let z:=G.dead (hd b w);⟨z.1,z.2.1,G.unfz (hd b w)⟩) h3 hO
theorem bP.new0(G:bP C R μ){o:KO}{a b:Tw}(k:bB R.h h')(ha:R.h.get? a=none)(hb:R.h.get? b=none)(hO:au [] R (R.add μ.n ⟨a,b,[]⟩ h')->eX C (R.add μ.n ⟨a,b,[]⟩ h') o ⟨a,b,[]⟩):
  bP C (R.add μ.n ⟨a,b,[]⟩ h') (bz μ o)∧(∀X,au X R (R.add μ.n ⟨a,b,[]⟩ h'))∧VR C (R.add μ.n ⟨a,b,[]⟩ h') (.ref μ.n) (.ref a):=by
 have x:=G.new (p:=⟨a,b,[]⟩) (X:=[]) k (λc hc=>hc.elim (λe=>e▸ha) λe=>e▸hb) (λc hc=>by cases hc) hO;exact⟨x.1,λX=>x.2.1.mono (λzz h=>by cases h),x.2.2⟩
noncomputable def Wd.frz(R:Wd)(a:Tw):Wd:=⟨R.ρ,R.h,λb=>b=a∨R.fz b⟩
theorem bP.fz_add(G:bP C R μ){a:Tw}{vs:Array SU}{c:Nat}(hg:R.h.get? a=some (gz vs c))(ho:¬dN R a):bP C (R.frz a) μ:=
 have L:au [a] R (R.frz a):=⟨λZ Z h=>h,λZ Z h=>.inl h,λZ Z h=>h,λZ o e Z Z=>⟨o,e,.inl rfl⟩,λZ o Z e=>⟨o,e⟩,λZ Z h=>h,λZ Z f e=>⟨.inr f,e⟩,λZ f=>f.elim (λz=>.inr (.inr (z▸SX))) .inl⟩
 ⟨G.next,λq p h=>by refine ag (G.dom q p h) ?_;intro o e r;exact⟨o,e,r.move L rfl rfl λZ Z=>rfl⟩,G.cod,G.keep,G.old,G.apart,G.frz,G.vol,λb f=>f.elim (λz=>by refine rwr z ?_;exact⟨⟨vs,c,hg⟩,ho⟩) (G.fz b)⟩
structure Pt(C:Cx)where
 R:Wd
 m:KS
 t:Nat
 good:bP C R m
noncomputable def Pt.s(P:Pt C):SW:=⟨P.R.h,C.g,C.d,P.t,C.os⟩
noncomputable def Pt.tick(P:Pt C)(t:Nat):Pt C:=⟨P.R,P.m,t,P.good⟩
noncomputable def Pt.more(P:Pt C){h:UT}(k:bB P.R.h h)(t:Nat):Pt C:=⟨⟨P.R.ρ,h,P.R.fz⟩,P.m,t,P.good.more k⟩
def Kp(C:Cx)(X:List Tw)(R:Wd)(k:KT)(Q:SU->SW->Prop):Prop:=∀(P:Pt C)(u:KV)(v:SU),au X R P.R->VR C P.R u v->k P.m u=true->Q v P.s
theorem Kp.later{k:KT}{Q:SU->SW->Prop}(h:Kp C X R k Q)(L:au X R R'):Kp C X R' k Q:=λP u v M=>h P u v (L.trans M)
end
end
section
set_option compiler.extract_closed false
section
open PySem PySem.W PyProof.Rows
set_option genCtorIdx false in
inductive Gm where
 |fn (q:Pa)|cls (k:Nat) (q:Pa)|bi (n:String)|con (v:KV)
structure Pg where
 gl:Str->Option Gm
 mt:Str->Option (Nat×Pa)
 df:Str->Option (Nat×KV)
 ln:Nat×Pa
def jb(C:Cx)(nm:Str)(v:SU):Prop:=∀(A:U6)(Q:SU->SW->Prop)(E:SU->SW->Prop)(s:SW)(menv:Tt),menv.globals=Tv->menv.builtins=Uh->bB C.h₀ s.heap->Q v s->Tb (Tn C.prog C.w) A (loadGlobal menv nm) Q E s
noncomputable def qf:String->SU
 |"len"=>.builtin "len"
 |"all"=>.builtin "all"
 |"min"=>.builtin "min"
 |"sum"=>.builtin "sum"
 |n=>.type n
def EY(C:Cx)(a:Tw)(nm:Str)(q:Pa):Prop:=∃f,findIn C.K (.ref a) nm=some (some (.ref f))∧typeIn C.K (.ref f)=some (.type "function")∧C.fnAt q=some f
noncomputable def ML(b:Bool)(n:Nat):Option Nat:=bif b then some n else none
noncomputable def KW(n a b:Nat):Option Nat:=bif SS a 600&&SS b 2 then ML (T3 480 n) (n-480)else bif T3 480 n then none else bif SS a 1&&SS b 2 then some (n%2)else bif SS a 6&&SS b 4 then some (n/6%4)else bif SS a 2&&SS b 3 then ML (SS (n%2) 1) (n/2%3)else bif SS a 24&&SS b 5 then some (n/24%5)else bif SS a 120&&SS b 3 then ML (SS (n%2) 0&&SS (n/24%5) 0) (n/120%4)else bif SS a 120&&SS b 4 then ML (SS (n%2) 1||!SS (n/24%5) 0) (n/120%4)else none
def EN(C:Cx):Prop:=∀n:Nat,C.tk (200000+n)=.nil∨∃h:Nat,C.tk (200000+n)=.nat h∧∀a b r,KW n a b=some r->h/a%b=r
structure Cx.Ok(C:Cx)(P:Pg):Prop where
 hd:EN C
 K:C.K.In C.h₀
 nolimit:C.h₀.NoLimit
 con:∀nm v,P.gl nm=some (.con v)->∃val,(∀R,VR C R v val)∧jb C nm val
 fn:∀nm q,P.gl nm=some (.fn q)->∃a,C.fnAt q=some a∧jb C nm (.ref a)
 cls:∀nm k q,P.gl nm=some (.cls k q)->∃a,C.clsAt k=some a∧jb C nm (.ref a)∧makesIn C.K a=true∧EY C a "__init__" q
 bi:∀nm n,P.gl nm=some (.bi n)->jb C nm (qf n)
 exc:∀T:String,(T="KeyError"∨T="IndexError")->jb C (Tu T) (.type T)
 ga:∀c a,C.clsAt c=some a->findIn C.K (.ref a) "__getattribute__"=some (some (.builtin "object.__getattribute__"))∧findIn C.K (.ref a) "__getattr__"=some none∧findIn C.K (.ref a) "__setattr__"=some (some (.builtin "object.__setattr__"))∧plainOver C.K a=true∧hasDictIn C.K a=true
 attr:∀c a nm q,C.clsAt c=some a->C.sl nm=some q->findIn C.K (.ref a) nm=some none∨∃i t,findIn C.K (.ref a) nm=some (some (.int i t))∧copiedNames.contains nm=false
 df:∀nm c v a,P.df nm=some (c,v)->C.clsAt c=some a->∃i t,findIn C.K (.ref a) nm=some (some (.int i t))∧copiedNames.contains nm=false∧∀R,VR C R v (.int i t)
 mt:∀nm c q a,P.mt nm=some (c,q)->C.clsAt c=some a->EY C a nm q∧C.sl nm=none
 ln:∀a,C.clsAt P.ln.1=some a->EY C a "__len__" P.ln.2
 lri:∀a,C.clsAt 2=some a->findIn C.K (.ref a) "__bool__"=some none∧findIn C.K (.ref a) "__len__"=some none
 slI:∀nm nm' q,C.sl nm=some q->C.sl nm'=some q->nm=nm'
 sysm:∃o,C.h₀.get? sysModules=some o
 top:∃mg bm ob,C.h₀.Ns Tv mg∧mg "__builtins__"=some (.ref bm)∧bm≠Uh∧bm≠Tv∧C.h₀.get? bm=some ob∧ob.cls=.type "module"∧ob.dict=some Uh∧ob.data=.plain
 vol0:∀P∈C.vol,C.h₀.get? P=none
 kpf:∀q a,C.fnAt q=some a->keepIn C.K (.ref a)=true
 kpc:∀c a,C.clsAt c=some a->keepIn C.K (.ref a)=true
 slots:∃l:List Str,l.length≤500∧∀nm q,C.sl nm=some q->nm∈l
structure d6 where
 kd:Str->Option V0
 m:List Str
 loud:Bool
 st:Bool
def wc:List Str->Str->Pa->Option Pa
 |[],_,_=>none
 |x::r,s,q=>if x=s then some q else wc r s (qs q)
def d6.slot(Γ:d6)(s:Str):Option Pa:=wc Γ.m s .e
theorem iO:∀{m:List Str}{s:Str}{q p:Pa},wc m s q=some p->∃i,m[i]?=some s∧aY p=aY q+i
 |[],_,_,_,h=>by exact dh h
 |x::r,s,q,p,h=>by
  unfold wc at h;by_cases e:x=s
  ·rw[if_pos e]at h;cases h;exact⟨0,e▸rfl,rfl⟩
  ·rw[if_neg e]at h;refine ag (iO h) ?_;intro i a b;exact⟨i+1,a,by rw[b,jg];simp+arith⟩
theorem d6.slot_inj{Γ:d6}{s t:Str}{q:Pa}(h:Γ.slot s=some q)(k:Γ.slot t=some q):s=t:=by
 refine ag (iO h) ?_;intro i a b;refine ag (iO k) ?_;intro j c d;have:i=j:=by simp_all+arith
 subst this;exact Ti (a.symm.trans c)
set_option backward.match.sparseCases true in
def jD(Q:SU->SW->Prop)(Ex:SU->SW->Prop)(r:Result)(s:SW):Prop:=match r with|.ok (.ret v)=>Q v s|.ok _=>False|.error e=>Ex e s
def Le(C:Cx)(cl:Cl)(d:Nat):Prop:=∀(q:Pa)(a:Tw)(xs:KV)(vs:List SU)(A:U6)(fr:List Tt)(P:Pt C)(k:KT)(Q:SU->SW->Prop)(E:SU->SW->Prop),
 (C.fnAt q=some a∧bG C P.R xs vs∧cl q xs k P.m=true∨∃p cs,tg p P.m.h=some (KO.clo q cs)∧VR C P.R (KV.ref p) (Vk a)∧∃ys,bG C P.R ys vs∧xs=app ys cs∧cl q xs k P.m=true)->
 (A.depth+8*d<recursionLimit∧A.units+16*d+200<cLine∧A.handled=none∧A.frames=some fr∧A.guards=some [])->
 (∀f∈fr,f.scope.kind≠.module∧∃L o es ep,f.frame=some L∧C.h₀.get? L=none∧L∉C.vol∧¬dN P.R L∧P.R.h.get? L=some o∧o.data=.dict es ep)->
 Kp C C.vol P.R k Q->codeAny (Tn C.prog C.w) A (.call (.ref a) ⟨vs,[]⟩) (jD Q E) P.s
def kL(C:Cx)(R:Wd)(fr:List Tt):Prop:=∀f∈fr,f.scope.kind≠.module∧∃L o es ep,f.frame=some L∧C.h₀.get? L=none∧L∉C.vol∧¬dN R L∧R.h.get? L=some o∧o.data=.dict es ep
structure ES(C:Cx)(A:U6)(fr:List Tt)(d:Nat):Prop where
 depth:A.depth+8*d+4<recursionLimit
 units:A.units+16*d+212<cLine
 frames:A.frames=some fr
 guards:A.guards=some []
def EU(C:Cx)(menv:Tt):Prop:=∃c P,menv.code=.ref c∧P∈C.vol∧CodeHd C.h₀ c P∧C.volQ P=menv.qual++"<lambda>"
structure dP(C:Cx)(Γ:d6)where
 menv:Tt
 A:U6
 cl:Cl
 d:Nat
 fr:List Tt
 kind:menv.scope.kind=.function
 kof:∀s,menv.kindOf s=Γ.kd s
 glob:menv.globals=Tv
 bi:menv.builtins=Uh
 lold:C.h₀.get? menv.locals=none
 lvol:menv.locals∉C.vol
 cell:∀nm ca,menv.cells.lookup nm=some ca->C.h₀.get? ca=none∧ca∉C.vol∧ca≠menv.locals
 inj:∀nm nm' ca,menv.cells.lookup nm=some ca->menv.cells.lookup nm'=some ca->nm=nm'
 cdom:∀nm,Γ.kd nm=some .cell∨Γ.kd nm=some .free->(menv.cells.lookup nm).isSome=true
 room:ES C A fr d
 handled:Γ.loud=true->A.handled=none
 top:Γ.st=true->∃outer,fr=menv::outer
 lam:Γ.kd "FP"=some .local->EU C menv
 call:Le C cl d
variable{C:Cx}{Γ:d6}{R R':Wd}
def Holds(C:Cx)(Γ:d6)(R:Wd)(menv:Tt)(m:Str->Option SU)(nm:Str)(x:KV):Prop:=
 (Γ.kd nm=some .local∧∃v,m nm=some v∧VR C R x v)∨
 ((Γ.kd nm=some .cell∨Γ.kd nm=some .free)∧∃ca ob v,menv.cells.lookup nm=some ca∧R.h.get? ca=some ob∧ob.data=.cell (some v)∧VR C R x v)
theorem Holds.el{C:Cx}{Γ:d6}{R:Wd}{menv:Tt}{m:Str->Option SU}{nm:Str}{x:KV}(h:Holds C Γ R menv m nm x){G:Prop}(k1:Γ.kd nm=some .local->∀v,m nm=some v->VR C R x v->G)(k2:(Γ.kd nm=some .cell∨Γ.kd nm=some .free)->∀ca ob v,menv.cells.lookup nm=some ca->R.h.get? ca=some ob->ob.data=.cell (some v)->VR C R x v->G):G:=h.elim (λh=>ag h.2 (k1 h.1)) λh=>iz h.2 (k2 h.1)
structure ER(F:dP C Γ)(R:Wd)(e:En):Prop where
 ns:∃m,R.h.Ns F.menv.locals m∧∀nm q x,Γ.slot nm=some q->tg q e=some x->Holds C Γ R F.menv m nm x
 lown:¬dN R F.menv.locals
 cells:∀nm ca,F.menv.cells.lookup nm=some ca->¬dN R ca∧(∃ob v,R.h.get? ca=some ob∧ob.data=.cell v)∧(C.asg nm=true->¬fh R ca)
 fr:kL C R F.fr
theorem kL.later{fr:List Tt}(h:kL C R fr)(L:au C.vol R R'):kL C R' fr:=λf hf=>by
 refine ak (h f hf) ?_;intro k zq;refine gE zq ?_;clear zq;intro b o es ep a1 a2 a3 a4 a5 a6;refine ag (L.ext b o a5 a4 a3) ?_;intro o' e' al;exact⟨k,b,o',es,ep,a1,a2,a3,λq=>a4 (L.owned (dQ a5 a3) q),e',al.data.1.trans a6⟩
theorem oV{h h':UT}{a:Tw}{m:Str->Option SU}(n:h.Ns a m)(k:∀o,h.get? a=some o->∃o',h'.get? a=some o'∧lX o o'):h'.Ns a m:=by
 refine fL n ?_;clear n;intro o es ep ho hd r;refine ag (k o ho) ?_;intro o' ho' al;exact⟨o',es,ep,ho',al.data.1.trans hd,r⟩
theorem ER.later{F:dP C Γ}{e:En}(r:ER F R e)(L:au C.vol R R'):ER F R' e:=by
 refine ag r.ns ?_;intro m ns hold;refine eS (id ns) ?_;rintro ob _ _ lo -;refine⟨⟨m,oV ns λo ho=>L.ext _ _ ho r.lown F.lvol,λnm q x h1 h2=>?_⟩,λq=>r.lown (L.owned (dQ lo F.lvol) q),λnm ca hc=>?_,r.fr.later L⟩
 ·refine(hold nm q x h1 h2).el ?_ ?_
  ·intro k v hv rv;exact .inl ⟨k,v,hv,rv.later L⟩
  ·intro k ca oc v hc hoc hd rv;refine ag (L.ext _ _ hoc (r.cells nm ca hc).1 (F.cell nm ca hc).2.1) ?_;intro oc' hoc' al;exact .inr ⟨k,ca,oc',v,hc,hoc',al.data.1.trans hd,rv.later L⟩
 ·refine bf (r.cells nm ca hc) ?_;intro a zq1 b;refine aL zq1 ?_;clear zq1;intro ob v e d;have nx:=(F.cell nm ca hc).2.1;refine ag (L.ext _ _ e a nx) ?_;intro o' e' al;exact⟨λq=>a (L.owned (dQ e nx) q),⟨o',v,e',al.data.1.trans d⟩,λh q=>b h (L.frozen (dQ e nx) q)⟩
def bv(C:Cx)(Γ:d6)(e:SQ)(x:X):Prop:=∀(F:dP C Γ)(P:Pt C)(en:En)(k:KT)(Q:SU->SW->Prop)(E:SU->SW->Prop),
 ER F P.R en->x F.cl en k P.m=true->Kp C C.vol P.R k Q->Tb (Tn C.prog C.w) F.A (eval e F.menv) Q E P.s
def kK(C:Cx)(Γ:d6)(es:List SQ)(x:X):Prop:=∀(F:dP C Γ)(P:Pt C)(en:En)(k:KT)(pos:Pos)(Q:List SU->SW->Prop)(E:SU->SW->Prop),
 ER F P.R en->x F.cl en k P.m=true->(∀(P':Pt C)(u:KV)(vs:List SU),au C.vol P.R P'.R->bG C P'.R u vs->vs.length=es.length->k P'.m u=true->Q vs P'.s)->Tb (Tn C.prog C.w) F.A (spliced (backTo pos (starEach es F.menv))) Q E P.s
def fW(C:Cx)(Γ:d6)(e:SQ)(c:Cn):Prop:=∀(F:dP C Γ)(P:Pt C)(en:En)(t f:K0)(Q:Bool->SW->Prop)(E:SU->SW->Prop),
 ER F P.R en->c F.cl en t f P.m=true->(∀(P':Pt C)(b:Bool),au C.vol P.R P'.R->az b (f P'.m) (t P'.m)=true->Q b P'.s)->Tb (Tn C.prog C.w) F.A (isTrue e F.menv (eval e F.menv)) Q E P.s
end
end
section
set_option compiler.extract_closed false
section
open PySem PySem.W PyProof.Rows
variable{C:Cx}{Γ:d6}{R R':Wd}
theorem cQ:100000≤sizeLine:=by refine rwr VM ?_;decide
theorem nM{α:Type}{o:Option α}{k:α->Bool}(h:ci o false k=true):∃x,o=some x∧k x=true:=by
 cases o with
 |none=>exact aD h
 |some x=>exact⟨x,rfl,h⟩
theorem aB{α:Type}{o:Option α}{k:α->Bool}(h:ci o false k=true){G:Prop}(k0:∀x,k x=true->o=some x->G):G:=by
 cases o with
 |none=>exact aD h
 |some x=>exact k0 x h rfl
theorem Kp.at{X:List Tw}{k:KT}{Q:SU->SW->Prop}{P:Pt C}(K:Kp C X P.R k Q){u:KV}{v:SU}(r:VR C P.R u v)(h:k P.m u=true)(t:Nat):Q v ⟨P.R.h,C.g,C.d,t,C.os⟩:=K (P.tick t) u v (.refl _ _) r h
theorem Kp.more{X:List Tw}{k:KT}{Q:SU->SW->Prop}{P:Pt C}(K:Kp C X P.R k Q){h':UT}(kp:bB P.R.h h'){u:KV}{v:SU}(r:VR C ⟨P.R.ρ,h',P.R.fz⟩ u v)(h:k P.m u=true)(t:Nat):Q v ⟨h',C.g,C.d,t,C.os⟩:=K (P.more kp t) u v (.keeps X kp) r h
theorem Kp.new{X:List Tw}{k:KT}{Q:SU->SW->Prop}{P:Pt C}(K:Kp C X P.R k Q){h':UT}{o:KO}{a b:Tw}(kp:bB P.R.h h')(ha:P.R.h.get? a=none)(hb:P.R.h.get? b=none)(hO:au [] P.R (P.R.add P.m.n ⟨a,b,[]⟩ h')->eX C (P.R.add P.m.n ⟨a,b,[]⟩ h') o ⟨a,b,[]⟩)
  (h:k (bz P.m o) (.ref P.m.n)=true) (t:Nat):Q (.ref a) ⟨h',C.g,C.d,t,C.os⟩:=by
 refine bf (P.good.new0 (o:=o) kp ha hb hO) ?_;intro G L r;exact K ⟨_,_,t,G⟩ _ _ (L X) r h
theorem Pt.set_(P:Pt C){q:Pa}{p:iK}{o':KO}{b:Tw}{h':UT}(hp:P.R.ρ q=some p)(hb:yM b p)(hs:U7 b P.R.h h')(hlv:∃o',h'.get? b=some o')(hO:au [] P.R ⟨P.R.ρ,h',P.R.fz⟩->eX C ⟨P.R.ρ,h',P.R.fz⟩ o' p)(t:Nat):
  ∃P':Pt C,P'.R=⟨P.R.ρ,h',P.R.fz⟩∧P'.m=bV P.m q o'∧P'.s=⟨h',C.g,C.d,t,C.os⟩∧∀X,au X P.R P'.R:=by
 refine ak (P.good.set hp hb hs hlv hO) ?_;intro G L;exact⟨⟨_,_,t,G⟩,rfl,rfl,rfl,L⟩
theorem aV(h:UT):h.get? h.objs.size=none:=Ug (TA _)
theorem aE(h:UT)(o:Obj):bB h (h.push o):=λZ Z e=>TX _ e
theorem mx{X:List Tw}{k:KT}{Q:SU->SW->Prop}{P:Pt C}(K:Kp C X P.R k Q){n:Nat}{xs:KV}{vs:List SU}{h':UT}{a:Tw}{c:Nat}(r:bG C P.R xs vs)(hn:n=vs.length)(kp:bB P.R.h h')(ha:P.R.h.get? a=none)(hg:h'.get? a=some {cls:=.type "list",data:=.seq vs.toArray c})
  (h:lO k P.m n xs=true) (t:Nat):n≤100000∧Q (.ref a) ⟨h',C.g,C.d,t,C.os⟩:=by
 refine dI h ?_;clear h;intro hl h;have hl:=SP hl;exact⟨hl,K.new (o:=.list n xs) kp ha ha (λL=>⟨rfl,vs.toArray,c,hg,r.later L,by simpa using hn,hl⟩) h t⟩
theorem ti{X:List Tw}{k:KT}{Q:SU->SW->Prop}{P:Pt C}(K:Kp C X P.R k Q){n:Nat}{xs:KV}{vs:List SU}{h':UT}{a:Tw}{c:Nat}(r:bG C P.R xs vs)(hn:n=vs.length)(kp:bB P.R.h h')(ha:P.R.h.get? a=none)(hg:h'.get? a=some {cls:=.type "list",data:=.seq vs.toArray c})
 (h:lO k P.m n xs=true) (t:Nat) {G:Prop} (k0:n≤100000->Q (.ref a) ⟨h',C.g,C.d,t,C.os⟩->G):G:=ak (mx K r hn kp ha hg h t) k0
theorem qA{X:List Tw}{k:KT}{Q:SU->SW->Prop}{P:Pt C}(K:Kp C X P.R k Q){xs:KV}{vs:List SU}{h':UT}{a:Tw}{c:Nat}(r:bG C P.R xs vs)(hl:vs.length≤100000)(kp:bB P.R.h h')(hg:h'.get? a=some {cls:=.type "tuple",data:=.seq vs.toArray c})(h:k P.m xs=true)(t:Nat):Q (.ref a) ⟨h',C.g,C.d,t,C.os⟩:=
 K.more kp (.tup (r.later (au.keeps [] kp)) ⟨_,hg,rfl,c,rfl⟩ hl) h t
theorem D2{e:SQ}:bv C Γ e xq:=λZ Z Z Z Z Z Z h=>by exact aD h
theorem A7{e:SQ}:fW C Γ e MW:=λZ Z Z Z Z Z Z Z h=>by exact aD h
theorem zA{n:Nat}{p:Pos}:bv C Γ (.Constant .none n p) (af .none):=λZ Z Z Z Z Z Z h K=>SR (K.at .none_ h _)
theorem zU{b:Bool}{n:Nat}{p:Pos}:bv C Γ (.Constant (.bool b) n p) (af (.bool b)):=λZ Z Z Z Z Z Z h K=>SR (K.at .bool_ h _)
theorem i4{i n:Nat}{p:Pos}:bv C Γ (.Constant (.int (.ofNat i)) n p) (af (.nat i)):=λZ Z Z Z Z Z Z h K=>wpAny_mkInt (K.at .nat_ h _)
theorem CP{i n:Nat}{p:Pos}:bv C Γ (.Constant (.int (.negSucc i)) n p) (af (.neg i)):=λZ Z Z Z Z Z Z h K=>wpAny_mkInt (K.at .neg_ h _)
theorem CI{s:Str}{n:Nat}{p:Pos}(ok:Fj s=true):bv C Γ (.Constant (.str s) n p) (af (.str (iI s))):=λZ Z Z Z Z Z Z h K=>wpAny_mkText (K.at (.str_ (qS ok)) h _)
theorem w8{P₀:Pg}(O:C.Ok P₀){nm:Str}{v:KV}{p:Pos}(hg:P₀.gl nm=some (.con v))(hk:Γ.kd nm=some .globalImplicit)(hd:(nm==("__debug__":Str))=false):bv C Γ (.Name nm p) (af v):=λF P Z Z Z Z Z h K=>by
 refine ag (O.con nm v hg) ?_;intro val r ld;exact Wi F.kind ((F.kof nm).trans hk) (ld F.A _ _ P.s F.menv F.glob F.bi P.good.keep (K.at (r _) h _)) hd
theorem sd{F:dP C Γ}{P:Pt C}{en:En}(r:ER F P.R en){nm:Str}{q:Pa}{x:KV}(hs:Γ.slot nm=some q)(hx:tg q en=some x)(hc:(nm==("__classdict__":Str))=false){G:Prop}(kk:∀v,VR C P.R x v->(∀{Q:SU->SW->Prop}{E:SU->SW->Prop}{t:Nat},Q v ⟨P.R.h,C.g,C.d,t,C.os⟩->Tb (Tn C.prog C.w) F.A (loadName F.menv nm) Q E ⟨P.R.h,C.g,C.d,t,C.os⟩)->G):G:=by
 refine ag r.ns ?_;intro m ns hold;have kf:=F.kof nm;refine(hold nm q x hs hx).el ?_ ?_
 ·intro k v hv rv;exact kk v rv (λq=>wpAny_loadName_local F.kind (kf.trans k) ns hv q)
 ·intro k ca oc v hca hoc hd rv;refine kk v rv (λq=>?_);rcases k with k|k
  ·exact wpAny_loadName_cell F.kind (kf.trans k) hca ⟨oc,hoc,hd⟩ q
  ·exact wpAny_loadName_free F.kind (kf.trans k) hca ⟨oc,hoc,hd⟩ q hc
theorem mn{nm:Str}{q:Pa}{p:Pos}(hs:Γ.slot nm=some q)(hd:(nm==("__debug__":Str))=false)(hc:(nm==("__classdict__":Str))=false):bv C Γ (.Name nm p) (ae q):=λF P en k Q E r h K=>by
 refine aB h ?_;clear h;intro x h hx;refine sd r hs hx hc ?_;intro v rv ld;exact wpAny_Name (ld (K.at rv h _)) hd
noncomputable def bx:SQ->Bool
 |.Starred _ _=>true
 |_=>false
theorem c9:kK C Γ [] aj:=λZ P Z Z Z Z Z Z h K=>wpAny_items_nil (K (P.tick P.t) .nil [] (.refl _ _) rfl rfl h)
theorem iN{e:SQ}(h:bx e=false)(r:List SQ)(menv:Tt):starEach (e::r) menv=(false,eval e menv)::starEach r menv:=by cases e<;>first|rfl|exact qd h
theorem c8{e:SQ}{es:List SQ}{x r:X}(hs:bx e=false)(hx:bv C Γ e x)(hr:kK C Γ es r):kK C Γ (e::es) (ad x r):=λF P en k pos Q E R h K=>by
 refine wpAny_items_cons (hx F P en _ _ E R h λP1 u v L1 r1 h1=>?_) (iN hs _ _);exact hr F P1 en _ pos _ E (R.later L1) h1 λP2 us vs L2 r2 l2 h2=>K P2 _ _ (L1.trans L2) (.cons_ (r1.later L2) r2) (congrArg Te l2) h2
theorem CE{es:List SQ}{x:X}{n:Nat}{p:Pos}(hx:kK C Γ es x)(hl:T3 es.length 1000=true):bv C Γ (.Tuple es n p) x:=λF P en k Q E R h K=>by
 refine wpAny_Tuple (hx F P en k _ _ E R h λP1 u vs L1 r1 l1 h1=>?_);have hl:vs.length≤100000:=by have:=SP hl;lia
 exact⟨SV hl cQ,qA (c:=0) (K.later L1) r1 hl (aE _ _) (T9 _ rfl) h1 P1.t⟩
theorem jY{es:List SQ}{x:X}{p:Pos}(hx:kK C Γ es x):bv C Γ (.List es p) (aS x):=λF P en k Q E R h K=>by
 refine wpAny_List (hx F P en _ _ _ E R h λP1 u vs L1 r1 Z h1=>?_);refine ti (c:=0) (K.later L1) r1 r1.len_eq (aE _ _) (aV _) (T9 _ rfl) h1 P1.t ?_;intro hl q;exact⟨by refine rwl r1.len_eq ?_;exact SV hl cQ,q⟩
theorem Pt.frz(P:Pt C){h':UT}{a:Tw}{vs:Array SU}{c:Nat}(kp:bB P.R.h h')(ha:P.R.h.get? a=none)(hg:h'.get? a=some (gz vs c))(t:Nat):∃P':Pt C,P'.m=P.m∧P'.s=⟨h',C.g,C.d,t,C.os⟩∧(∀X,au X P.R P'.R)∧P'.R.fz a∧P'.R.h=h':=
 ⟨⟨Wd.frz ⟨P.R.ρ,h',P.R.fz⟩ a,P.m,t,(P.good.more kp).fz_add hg (P.good.dead ha).2.1⟩,rfl,rfl,λX=>let z:=au.keeps X kp;⟨z.ref,z.new,z.tup,z.ext,z.live,z.code,λb o f e=>⟨.inr f,kp b o e⟩,λb f=>f.elim (λz=>.inr (.inl (z▸ha))) .inl⟩,.inl rfl,rfl⟩
theorem oj{X:List Tw}{k:KT}{Q:SU->SW->Prop}{P:Pt C}(K:Kp C X P.R k Q){xs:KV}{vs:List SU}{h':UT}{a:Tw}{c:Nat}(r:bG C P.R xs vs)(hl:vs.length≤100000)(kp:bB P.R.h h')(ha:P.R.h.get? a=none)(hg:h'.get? a=some (gz vs.toArray c))(h:k P.m (.fl xs)=true)(t:Nat):Q (.ref a) ⟨h',C.g,C.d,t,C.os⟩:=by
 refine FP (P.frz kp ha hg t) ?_;intro P' e1 e2 L f e3;refine rwl e2 ?_;exact K P' (.fl xs) (.ref a) (L X) ⟨a,vs.toArray,c,rfl,f,by refine rwr e3 ?_;exact hg,r.later (L []),hl⟩ (by refine rwr e1 ?_;exact h)
theorem GM{es:List SQ}{x:X}{p:Pos}(hx:kK C Γ es x):bv C Γ (.List es p) (p7 x):=λF P en k Q E R h K=>by
 refine wpAny_List (hx F P en _ _ _ E R h λP1 u vs L1 r1 Z h1=>?_);refine dI h1 ?_;intro hl h2;have hl:=SP hl;rw[r1.len_eq]at hl;exact⟨SV hl cQ,oj (c:=0) (K.later L1) r1 hl (aE _ _) (aV _) (T9 _ rfl) h2 P1.t⟩
theorem GK{p:Pos}:bv C Γ (.List [] p) NF:=λF P en k Q E R h K=>
 wpAny_List ((c9 (C:=C) (Γ:=Γ)) F P en (λs Z=>k (bz s (.junk 0)) (.ref s.n)) _ _ E R h λP1 u vs L1 r1 l1 h1=>by
  cases Tf l1;exact⟨TQ _,(K.later L1).new (o:=.junk 0) (aE _ _) (aV _) (aV _) (λL=>⟨rfl,#[],0,T9 _ rfl,TA _,TQ _⟩) h1 P1.t⟩)
theorem xA{p:Pos}:bv C Γ (.Dict [] [] p) bT:=λF P en k Q E R h K=>
 wpAny_Dict_empty (K.new (o:=.dict 0 .nil) (aE _ _) (aV _) (aV _) (λL=>⟨rfl,_,#[],0,T9 _ rfl,⟨rfl,rfl,rfl⟩,rfl,⟨rfl,λi e kv h=>by trivial⟩,Vt,rfl,TQ _,rfl⟩) h P.t)
theorem bw{f:Pa->Bool}{u:KV}{v:SU}(h:eY f u=true)(r:VR C R u v){G:Prop}(k:∀q p,R.ρ q=some p->f q=true->u=.ref q->v=.ref p.fst->G):G:=by
 cases u with
 |ref q=>refine ag r ?_;clear r;rintro p e rfl;exact k q p e h rfl rfl
 |_=>exact aD h
theorem aF{P:Pt C}{q:Pa}{p:iK}{f:KO->Bool}(h:aZ q P.m f=true)(hp:P.R.ρ q=some p){G:Prop}(k:∀o,tg q P.m.h=some o->eX C P.R o p->f o=true->G):G:=by
 refine aB h ?_;clear h;intro o h e;refine ag (P.good.dom q p hp) ?_;intro o' e' r;cases e.symm.trans e';exact k o e r h
theorem l7{f:Nat->T KV->Bool}{o:KO}{p:iK}(h:kj f o=true)(r:eX C R o p){G:Prop}(k:∀c fs a es n,C.clsAt c=some a->InstAt R.h p.fst (instObj a p.snd) a (some (dictOf es n))->vH C R fs es->f c fs=true->o=.inst c fs->G):G:=by
 cases o with
 |inst c fs=>refine aM r ?_;clear r;intro a h1 h2 zq;refine aL zq ?_;clear zq;intro es n h3 h4;exact k c fs a es n h1 ⟨h2,rfl,rfl,h3⟩ h4 h rfl
 |_=>exact aD h
theorem wQ{es:List TR}{nm:Str}(h:es.any (·.refKey)=false):getL nm es=some (iE es nm):=by
 unfold getL iE;cases es.find? (·.key.isStr nm)with
 |none=>rw[h];rfl
 |some e=>rfl
theorem y6(K:Frag)(i:Int)(t:Tok):specialIn K (.int i t) "__get__"=some none:=by
 show fastLookup "int" "__get__"=some none;decide+kernel
theorem VR.handed{x:KV}{v:SU}(r:VR C R x v):handedIn v=true:=by
 cases x with
 |none=>cases r;rfl
 |bool=>cases r;rfl
 |str=>refine aL r ?_;clear r;rintro _ _ rfl -;rfl
 |nil=>refine ag r ?_;clear r;rintro _ rfl -;rfl
 |cons=>refine eS r ?_;clear r;rintro _ _ _ rfl -;rfl
 |ref=>refine ag r ?_;clear r;rintro _-rfl;rfl
 |fl=>refine eS r ?_;rintro _ _ _ rfl -;rfl
 |tok n=>
  have pl:∀x,pb v x->handedIn v=true:=λx h=>by
   cases x with
   |none=>cases h;rfl
   |nat=>refine aw h ?_;rintro _ rfl;rfl
   |neg=>refine aw h ?_;rintro _ rfl;rfl
   |str=>refine aL h ?_;rintro _ _ rfl -;rfl
   |_=>exact h.elim
  exact match n,r with
  |0,r=>by refine fU r ?_;rintro _ _ rfl;rfl
  |1,r=>r
  |n+2,r=>pl _ r
 |_=>refine aw r ?_;clear r;rintro _ rfl;rfl
set_option tactic.hygienic true in
theorem ud{P₀:Pg}(O:C.Ok P₀){P:Pt C}{nm:Str}{sl:Pa}{expr:Bool}(hs:C.sl nm=some sl){u:KV}{v:SU}{g:Nat->T KV->Bool}{A:U6}{Q:SU->SW->Prop}{E:SU->SW->Prop}(r:VR C P.R u v)(h:eY (λq=>aZ q P.m (kj g)) u=true)
  (kq:∀c fs,g c fs=true->(∃x,tg sl fs=some x∧∀w t,VR C P.R x w->Q w (P.tick t).s)∨tg sl fs=none∧∃x,P₀.df nm=some (c,x)∧∀w t,VR C P.R x w->Q w (P.tick t).s):
  Tb (Tn C.prog C.w) A (getAttr v nm expr) Q E P.s:=by
 refine bw h r ?_;clear h r;rintro q p hp h-rfl;refine aF h hp ?_;clear h;rintro o-ro h;refine l7 h ro ?_;clear h ro;rintro c fs a es n hc I hf h rfl;have X:C.K.In P.R.h:=O.K.keeps P.good.keep;refine j6 (O.ga c a hc) ?_;intro ga gat sa over hd;have hg:=wQ (nm:=nm) hf.1;have hr:=hf.2.1 nm;rw[hs,UD]at hr;rcases kq c fs h with⟨x,hx,k⟩|⟨hx,x,hdf,k⟩
 ·rw[hx]at hr;cases hw:iE es nm with
  |none=>rw[hw]at hr;exact hr.elim
  |some w=>
   rw[hw]at hr hg;have:∃at_,findIn C.K (.ref a) nm=some at_∧noGet C.K at_=true:=by
    rcases O.attr c a nm sl hc hs with h1|zq
    ·exact⟨none,h1,rfl⟩
    ·refine aL zq ?_;clear zq;intro i t h1 _;exact⟨_,h1,by unfold noGet;rfl⟩
   refine ag this ?_;clear this;intro at_ h1 h2;exact get_value (s:=P.s) X I ga (findObj_own hd h1 h2 hg) hr.handed (k w (P.t+1) hr)
 ·rw[hx]at hr;cases hw:iE es nm with
  |some w=>rw[hw]at hr;exact hr.elim
  |none=>
   rw[hw]at hg;refine aH (O.df nm c x a hdf hc) ?_;intro i t h1 h2 h3;exact get_value (s:=P.s) X I ga (findObj_cls hd h1 (y6 _ _ _) rfl h2 hg) rfl (k _ (P.t+1) (h3 _))
noncomputable def aN:SQ->Bool
 |.Call (.Name _ _) [] [] _=>true
 |_=>false
theorem d5{o:SQ}{nm:Str}{menv:Tt}{whole:Sem SU}(h:aN o=false):attributeBase o nm menv whole=whole:=by
 cases o with
 |Call g as ks p=>
  cases g<;>first|rfl|skip
  cases as<;>first|rfl|skip
  cases ks<;>first|rfl|skip
  exact qd h
 |_=>rfl
theorem pG{P₀:Pg}(O:C.Ok P₀){o:SQ}{nm:Str}{p:Pos}{x:X}{sl:Pa}{g:KT->KS->Nat->T KV->Bool}(hs:C.sl nm=some sl)(ho:aN o=false)(hx:bv C Γ o x)
  (kg:∀k s c fs,g k s c fs=true->(∃x,tg sl fs=some x∧k s x=true)∨tg sl fs=none∧∃x,P₀.df nm=some (c,x)∧k s x=true):bv C Γ (.Attribute o nm p) (λc e k s=>x c e (λs v=>eY (λq=>aZ q s (kj (g k s))) v) s):=λF P en k Q E R h K=>by
 rw[arm_eval_Attribute,d5 ho];refine SO (hx F P en _ _ E R h λP1 u v L1 r1 h1=>SO (Uv (SO (TH (ud O hs r1 h1 λc fs hg=>?_)))));rcases kg k P1.m c fs hg with⟨x,a,b⟩|⟨a,x,b,d⟩
 ·exact .inl ⟨x,a,λw t rw_=>SO (V6 (SR (K (P1.tick t) _ _ L1 rw_ b)))⟩
 ·exact .inr ⟨a,x,b,λw t rw_=>SO (V6 (SR (K (P1.tick t) _ _ L1 rw_ d)))⟩
theorem sE{P₀:Pg}(O:C.Ok P₀){o:SQ}{nm:Str}{p:Pos}{x:X}{sl:Pa}(hs:C.sl nm=some sl)(ho:aN o=false)(hx:bv C Γ o x):bv C Γ (.Attribute o nm p) (ai sl x):=
 pG (g:=λk s Z fs=>ci (tg sl fs) false (k s)) O hs ho hx λk s c fs h=>.inl (nM h)
theorem DQ{sl:Pa}{c0 c:Nat}{v0:KV}{fs:T KV}{k:KV->Bool}(h:ci (tg sl fs) (az (SS c c0) false (k v0)) k=true):(∃x,tg sl fs=some x∧k x=true)∨tg sl fs=none∧c=c0∧k v0=true:=by
 cases e:tg sl fs with
 |none=>rw[e]at h;refine dI h ?_;intro a b;exact .inr ⟨rfl,cg.mp a,b⟩
 |some x=>rw[e]at h;exact .inl ⟨x,rfl,h⟩
theorem xG{P₀:Pg}(O:C.Ok P₀){o:SQ}{nm:Str}{p:Pos}{x:X}{sl:Pa}{c0:Nat}{v0:KV}(hs:C.sl nm=some sl)(hd:P₀.df nm=some (c0,v0))(ho:aN o=false)(hx:bv C Γ o x):bv C Γ (.Attribute o nm p) (ur sl c0 v0 x):=
 pG (g:=λk s c fs=>ci (tg sl fs) (az (SS c c0) false (k s v0)) (k s)) O hs ho hx λk s c fs h=>(DQ h).imp id λ⟨a,b,d⟩=>⟨a,v0,b▸hd,d⟩
end
end
section
set_option compiler.extract_closed false
section
set_option backward.match.sparseCases true
open PySem PySem.W PyProof.Rows
variable{C:Cx}{Γ:d6}{R R':Wd}
abbrev Kb(C:Cx)(R:Wd)(t f:K0)(Q:Bool->SW->Prop):Prop:=∀(P:Pt C)(b:Bool),au C.vol R P.R->az b (f P.m) (t P.m)=true->Q b P.s
section
variable{P₀:Pg}(O:C.Ok P₀){P:Pt C}{A:U6}{E:SU->SW->Prop}
include O
theorem gx{R:Wd}{μ:KS}(G:bP C R μ){q:Pa}{p:iK}(hp:R.ρ q=some p):(p.fst==sysModules)=false:=by
 refine aw O.sysm ?_;intro o ho;cases e:p.fst==sysModules with
 |false=>rfl
 |true=>
  have e':p.fst=sysModules:=by simpa using e
  exact(nn (G.old q p p.fst hp (.inl rfl)) (e'▸ho)).elim
omit O in
theorem ph{s:SW}{d:Tw}{o:Obj}{es:Array TR}{ep:Nat}{Q:SU->SW->Prop}(hd:(d==sysModules)=false)(ho:s.heap.get? d=some o)(hx:o.ExactDict)(hdat:o.data=.dict es ep)(hfit:(es.size:Int)<2^63)
  (hq:Q (.int es.size (s.toks+1)) {s with toks:=s.toks+1+1}):Tb (Tn C.prog C.w) A (Builtin.«len» ⟨[.ref d],[]⟩) (λfin s'=>∃r,fin=.done (.ret r)∧Q r s') E s:=by
 have hT:s.TypeIs (.ref d) "dict":=⟨o,ho,hx.1⟩
 unfold Builtin.«len»;refine SO (m:=oneArg "len" _) (SR ?_);refine SO (m:=callSpecial? (.ref d) (Tu "__len__")) (TV (name:=Tu "__len__") hT F.slot_dict_len
  (TJ F.slot_dict_len hT F.entry_dict_len (show Tb _ _ (dictSize d>>=_) _ _ s from ?_) (F.args_dict_len_1 _)))
 unfold dictSize;refine SO (SO (Vc ho hdat (SR ?_)));show Tb _ _ (Builtin.Dict.pendingCount d>>=_) _ _ s;refine SO (wpAny_pendingCount_other hd ?_);refine rwr (show((es.size:Int)+((0:Nat):Int))=(es.size:Int)from Int.add_zero _) ?_;refine wpAny_ret_mkInt ?_;show Tb _ _ _ _ _ {s with toks:=s.toks+1};refine SO (TH (SR (SO (wpAny_letGo ?_))));show Tb _ _ (if((es.size:Nat):Int)<0 then _ else _) _ _ _;refine rwr (if_neg (by simp+arith)) ?_;show Tb _ _ (if((es.size:Nat):Int)≥2^63 then _ else _) _ _ _;refine rwr (if_neg (by simp_all+arith)) ?_;exact SO (wpAny_mkInt (SR ⟨_,rfl,hq⟩))
omit O in
theorem mU{s:SW}{d:Tw}{o:Obj}{es:Array TR}{ep:Nat}{Q:Bool->SW->Prop}(hd:(d==sysModules)=false)(ho:s.heap.get? d=some o)(hx:o.ExactDict)(hdat:o.data=.dict es ep)(hfit:(es.size:Int)<2^63)
  (hq:Q ((es.size:Int) != 0) {s with toks:=s.toks+1+1}):Tb (Tn C.prog C.w) A (truthy (.ref d)) Q E s:=by
 have hT:s.TypeIs (.ref d) "dict":=⟨o,ho,hx.1⟩
 have key:Tb (Tn C.prog C.w) A (runValue (.builtin "len" ⟨[.ref d],[]⟩)) (λr s'=>r=.int es.size (s.toks+1)∧Q ((es.size:Int) != 0) s') E s:=by
  refine wpAny_runValue (codeAny_builtin entry_len ?_);rw[Around.under_plainId plain_len _];exact UJ (ph (Q:=λr s'=>r=.int es.size (s.toks+1)∧Q ((es.size:Int) != 0) s') hd ho hx hdat hfit ⟨rfl,hq⟩)
   (λfin s' h'=>by refine ag h' ?_;clear h';rintro r rfl hq;exact hq) λZ Z e=>e
 unfold truthy;refine SO (wpAny_callSpecial?_none (name:=Tu "__bool__") hT noBool_dict ?_);refine SO (Uw (name:=Tu "__len__") hT F.slot_dict_len.lookup ?_);exact SO (UJ key (λr s' h'=>by refine ak h' ?_;clear h';rintro rfl hq;exact SR hq) λZ Z e=>e)
omit O in
theorem Eg(s:Str):SS (iI s) 1=s.cps.isEmpty:=by
 unfold iI;rw[ox,Uo,cg,Array.isEmpty_iff_size_eq_zero,←T4,←VF];cases s.cps.toList.reverse with
 |nil=>exact⟨λzz=>rfl,λzz=>rfl⟩
 |cons c r=>have:=ou r;exact⟨λh=>by rw[gJ]at h;lia,λh=>by exact X2 h⟩
set_option tactic.hygienic true in
theorem gL{t f:K0}{Q:Bool->SW->Prop}{u:KV}{v:SU}(r:VR C P.R u v)(h:KQ t f P.m u=true)(K:Kb C P.R t f Q):Tb (Tn C.prog C.w) A (truthy v) Q E P.s:=by
 have fin:∀{b:Bool}{t':Nat},az b (f P.m) (t P.m)=true->Q b ⟨P.R.h,C.g,C.d,t',C.os⟩:=λ{b t'} q=>K (P.tick t') b (.refl _ _) q;have emp:∀{b:Bool}{t':Nat},az b (t P.m) (f P.m)=true->Q (!b) ⟨P.R.h,C.g,C.d,t',C.os⟩:=λ{b t'} q=>fin (by cases b<;>exact q);have nz:∀n:Nat,(!SS n 0)=((n:Int) != 0):=λn=>by rw[lc,Uo];simp
 cases u with
 |none=>cases r;exact truthy_none (fin (b:=false) h)
 |bool b=>cases r;exact Un (fin h)
 |nat n=>refine aw r ?_;clear r;rintro _ rfl;exact PyProof.Rows.truthy_int (by have:=emp (t':=P.t) h;rw[nz]at this;exact this)
 |neg n=>refine aw r ?_;clear r;rintro _ rfl;exact PyProof.Rows.truthy_int (fin (b:=true) h)
 |tok n=>exact aD h
 |fl n=>exact aD h
 |str c=>
  refine aH r ?_;clear r;rintro s _ rfl rfl ok;refine PySem.P.truthy_str (by have:=ok.2;show¬((s.cps.size:Int)≥2^63);lia) ?_;have:=emp (t':=P.t+1+1) (b:=SS (iI s) 1) h;rw[Eg,show(!s.cps.isEmpty)=((s.length:Int) != 0)from by have:=nz s.cps.size;rw[lc]at this;exact this]at this;exact this
 |nil=>refine ag r ?_;clear r;rintro _ rfl ht;exact truthy_tuple ht (by decide) (fin (b:=false) h)
 |cons x y=>
  refine ew r ?_;clear r;rintro _ v vs rfl ht- -hl;refine truthy_tuple ht (by simp at hl ⊢;lia) ?_;exact fin (b:=true) h
 |ref q=>
  refine ag r ?_;clear r;rintro p hp rfl;refine aF h hp ?_;clear h;rintro o-ro h;cases o with
  |list n xs=>
   refine ak ro ?_;clear ro;rintro -zq;refine dG zq ?_;clear zq;rintro vs k hob-rfl hl;refine wpAny_truthy_list ⟨_,hob,rfl,k,rfl⟩ (by lia) ?_;have:=emp (t':=P.t+1+1) h;rw[show(!SS vs.size 0)=!vs.isEmpty from by rw[lc];rfl]at this;exact this
  |dict n es=>
   refine ak ro ?_;clear ro;rintro -zq;refine j5 zq ?_;clear zq;rintro ob es' ep hob hx hdat hE-rfl hl -;rw[←hE.1,T4]at hl h;refine mU (gx O P.good hp) hob hx hdat (by lia) ?_;have:=emp (t':=P.t+1+1) h;rw[nz]at this;exact this
  |inst c fs=>
   refine aM ro ?_;clear ro;intro a hc hob zq;refine aL zq ?_;clear zq;rintro es n hdict -;refine dI h ?_;clear h;intro h2 h;cases cg.mp h2;refine ak (O.lri a hc) ?_;intro l1 l2;have X:C.K.In P.R.h:=O.K.keeps P.good.keep;have I:InstAt P.R.h p.fst (instObj a p.snd) a (some (dictOf es n)):=⟨hob,rfl,rfl,hdict⟩
   unfold truthy;refine SO (m:=callSpecial? (.ref p.fst) (Tu "__bool__")) (SO (SO (I.type.here ((looks_findIn X l1).here (SR ?_)))));exact SO (SO (I.type.here ((looks_findIn X l2).here (SR (fin (b:=true) h)))))
  |_=>exact aD h
end
noncomputable def Bx:SQ->Bool
 |.UnaryOp .Not _ _=>false
 |.BoolOp _ _ _=>false
 |.IfExp _ _ _ _=>false
 |.Compare _ _ _ _=>false
 |.NamedExpr _ _ _=>false
 |_=>true
theorem tG{e:SQ}(h:Bx e=true)(menv:Tt)(w:Sem SU):isTrue e menv w=(do let v ←w;standAt e.pos;holding [v] (truthy v)):=by
 cases e with
 |UnaryOp op _ _=>cases op<;>first|rfl|exact aD h
 |_=>first|rfl|exact aD h
section
variable{P₀:Pg}(O:C.Ok P₀){e a b d:SQ}{x y z:X}{c c' c'':Cn}{p:Pos}
include O
theorem GO(hx:bv C Γ e x)(he:Bx e=true):fW C Γ e (cT x):=λF P en t f Q E R h K=>
 wpAny_isTrue_value (hx F P en _ _ E R h λP1 u v L r h1=>gL O r h1 λP2 b L2=>K P2 b (L.trans L2)) (tG he _ _)
omit O in
theorem A2(hc:fW C Γ e c):fW C Γ (.UnaryOp .Not e p) (fQ c):=λF P en t f Q E R h K=>wpAny_isTrue_Not (hc F P en f t _ E R h λP1 b L q=>K P1 (!b) L (by cases b<;>exact q))
def rM(C:Cx)(Γ:d6)(op:BoolOp)(es:List SQ)(c:Cn):Prop:=∀(F:dP C Γ)(P:Pt C)(en:En)(t f:K0)(Q:Bool->SW->Prop)(E:SU->SW->Prop),ER F P.R en->c F.cl en t f P.m=true->Kb C P.R t f Q->Tb (Tn C.prog C.w) F.A (allTrue op es F.menv) Q E P.s
omit O in
theorem Dc{op:BoolOp}{es:List SQ}(h:rM C Γ op es c):fW C Γ (.BoolOp op es p) c:=λF P en t f Q E R q K=>wpAny_isTrue_BoolOp (h F P en t f Q E R q K)
omit O in
theorem xN(h:fW C Γ e c):rM C Γ .And [e] c:=λF P en t f Q E R q K=>wpAny_allTrue_And_cons (h F P en t f _ E R q λP1 b L h1=>by
 cases b with
 |true=>exact wpAny_allTrue_And_nil (K P1 true L h1)
 |false=>exact K P1 false L h1)
omit O in
theorem A9(h:fW C Γ e c):rM C Γ .Or [e] c:=λF P en t f Q E R q K=>wpAny_allTrue_Or_cons (h F P en t f _ E R q λP1 b L h1=>by
 cases b with
 |true=>exact K P1 true L h1
 |false=>exact wpAny_allTrue_Or_nil (K P1 false L h1))
omit O in
theorem Aa{es:List SQ}(h:fW C Γ e c)(k:rM C Γ .And es c'):rM C Γ .And (e::es) (iq c c'):=λF P en t f Q E R q K=>wpAny_allTrue_And_cons (h F P en _ f _ E R q λP1 b L h1=>by
 cases b with
 |true=>exact k F P1 en t f Q E (R.later L) h1 λP2 b L2=>K P2 b (L.trans L2)
 |false=>exact K P1 false L h1)
omit O in
theorem Db{es:List SQ}(h:fW C Γ e c)(k:rM C Γ .Or es c'):rM C Γ .Or (e::es) (rJ c c'):=λF P en t f Q E R q K=>wpAny_allTrue_Or_cons (h F P en t _ _ E R q λP1 b L h1=>by
 cases b with
 |true=>exact K P1 true L h1
 |false=>exact k F P1 en t f Q E (R.later L) h1 λP2 b L2=>K P2 b (L.trans L2))
omit O in
theorem A5(h:fW C Γ e c)(h1:fW C Γ a c')(h2:fW C Γ b c''):fW C Γ (.IfExp e a b p) (MV c c' c''):=λF P en t f Q E R q K=>by
 rw[arm_isTrue_IfExp];refine SO (h F P en _ _ _ E R q λP1 v L q1=>?_);cases v with
 |true=>exact h1 F P1 en t f Q E (R.later L) q1 λP2 b L2=>K P2 b (L.trans L2)
 |false=>exact h2 F P1 en t f Q E (R.later L) q1 λP2 b L2=>K P2 b (L.trans L2)
omit O in
theorem CV(h:fW C Γ e c)(h1:bv C Γ a x)(h2:bv C Γ b y):bv C Γ (.IfExp e a b p) (iL c x y):=λF P en k Q E R q K=>by
 refine wpAny_IfExp (h F P en _ _ _ E R q λP1 v L q1=>?_);cases v with
 |true=>exact h1 F P1 en k Q E (R.later L) q1 (K.later L)
 |false=>exact h2 F P1 en k Q E (R.later L) q1 (K.later L)
theorem CN(hx:bv C Γ e x):bv C Γ (.UnaryOp .Not e p) (fj (fQ (cT x))):=λF P en k Q E R h K=>
 wpAny_UnaryOp (hx F P en _ _ E R h λP1 u v L r h1=>not_of (gL O r h1 λP2 b L2 q=>K P2 (.bool !b) _ (L.trans L2) .bool_ (by cases b<;>exact q)))
theorem GJ(hx:bv C Γ a x)(hy:bv C Γ b y):bv C Γ (.BoolOp .Or [a,b] p) (PK x y):=λF P en k Q E R h K=>by
 show Tb _ _ (do
  let v ←eval a F.menv
  standAt p
  let t ←holding [v] (truthy v)
  match BoolOp.Or,t with
  |.And,false|.Or,true=>pure v
  |_,_=>boolOp p .Or (evalEach [b] F.menv)) _ _ _
 refine SO (hx F P en _ _ E R h λP1 u v L r h1=>SO (Uv (SO (TH (gL O r h1 λP2 c L2 h2=>?_)))));cases c with
 |true=>exact SR (K P2 u v (L.trans L2) (r.later L2) h2)
 |false=>exact hy F P2 en k Q E (R.later (L.trans L2)) h2 (K.later (L.trans L2))
theorem D9(hx:bv C Γ a x)(hy:bv C Γ b y):bv C Γ (.BoolOp .And [a,b] p) (qx x y):=λF P en k Q E R h K=>by
 show Tb _ _ (do
  let v ←eval a F.menv
  standAt p
  let t ←holding [v] (truthy v)
  match BoolOp.And,t with
  |.And,false|.Or,true=>pure v
  |_,_=>boolOp p .And (evalEach [b] F.menv)) _ _ _
 refine SO (hx F P en _ _ E R h λP1 u v L r h1=>SO (Uv (SO (TH (gL O r h1 λP2 c L2 h2=>?_)))));cases c with
 |false=>exact SR (K P2 u v (L.trans L2) (r.later L2) h2)
 |true=>exact hy F P2 en k Q E (R.later (L.trans L2)) h2 (K.later (L.trans L2))
end
end
end
section
set_option compiler.extract_closed false
section
open PySem PySem.W PyProof.Rows
variable{C:Cx}{Γ:d6}{R R':Wd}
def jc(C:Cx)(op:CmpOp)(k:KV->K0->K0->KT):Prop:=∀(P:Pt C)(A:U6)(t f:K0)(Q:SU->SW->Prop)(E:SU->SW->Prop)(u w:KV)(v x:SU),
 VR C P.R u v->VR C P.R w x->k u t f P.m w=true->A.units+100<cLine->Kb C P.R t f (λb s=>Q (.bool b) s)->Tb (Tn C.prog C.w) A (compareOp op v x) Q E P.s
theorem dP.units{F:dP C Γ}:F.A.units+100<cLine:=by have:=F.room.units;lia
section
variable{P:Pt C}{t f:K0}{Q:SU->SW->Prop}
def fR(C:Cx)(P:Pt C)(v x:SU)(b:Bool):Prop:=∃da db as bs,Reads P.R.h v da as∧Reads P.R.h x db bs∧SeqAt.shaped da=true∧SeqAt.shaped db=true∧PyData.eqv da db=b
theorem fZ{d:PyData}(c:d.canLay0=true)(h:d.depth≤64):SeqAt.shaped d=true:=by unfold SeqAt.shaped;refine rwr c (rwr (decide_eq_true h) ?_);rfl
theorem Ee{u w:KV}{v x:SU}(r:VR C P.R u v)(s:VR C P.R w x)(h:Cd u w t f P.m=true):∃b,fR C P v x b∧az b (f P.m) (t P.m)=true:=by
 have key:∀(n:Nat),n≤60->fM u n=true->fM w n=true->(∃b,PyData.eqv (dK u) (dK w)=b∧az b (f P.m) (t P.m)=true)->∃b,fR C P v x b∧az b (f P.m) (t P.m)=true:=λn hn h1 h2 h=>by
  refine ag h ?_;intro b e h;refine bf ((f7 u).1 n v h1 r) ?_;intro zq0 a2 a3;refine aw zq0 ?_;intro as a1;refine bf ((f7 w).1 n x h2 s) ?_;intro zq0 b2 b3;refine aw zq0 ?_;intro bs b1;exact⟨b,⟨_,_,as,bs,a1,b1,fZ a2 (by lia),fZ b2 (by lia),e⟩,h⟩
 unfold Cd at h;cases e1:az (pk u) false (pk w)with
 |true=>
  rw[e1]at h;refine dI e1 ?_;intro h1 h2;exact key 5 (by decide) (iA u h1) (iA w h2) ⟨_,(q7 u).1 w 5 5 v x h1 h2 r s,h⟩
 |false=>
  rw[e1]at h;refine dI h ?_;intro h1 h3;refine dI h3 ?_;intro h2 h4;have:=fx h2;subst this;refine key 60 (TA _) h1 h1 ⟨true,SeqAt.eqv_refl _ ((f7 u).1 60 v h1 r).2.1,h4⟩
theorem cy{g:Nat->KV->Bool}{o:KO}{p:iK}(h:iQ g o=true)(r:eX C R o p){G:Prop}(k0:∀xs vs k,R.h.get? p.fst=some {cls:=.type "list",data:=.seq vs k}->bG C R xs vs.toList->vs.size≤100000->p.snd=p.fst->g vs.size xs=true->o=.list vs.size xs->G):G:=by
 cases o with
 |list n xs=>refine ak r ?_;clear r;intro e zq;refine dG zq ?_;clear zq;intro vs k a b c d;subst c;exact k0 xs vs k a b d e h rfl
 |_=>exact aD h
theorem tw{P₀:Pg}(O:C.Ok P₀){u w:KV}{v x:SU}(r:VR C P.R u v)(s:VR C P.R w x)(h:eI u t f P.m w=true){G:Prop}(kk:∀b,fR C P v x b->az b (f P.m) (t P.m)=true->G):G:=by
 cases u with
 |bool=>exact aD h
 |ref q=>
  refine ag r ?_;clear r;rintro p hp rfl;refine bw h s ?_;clear h;rintro q' p' hp' h-rfl;refine aF h hp ?_;clear h;rintro o-ro h;refine cy h ro ?_;clear h ro;rintro xs vs k g1 r1- -h -;refine aF h hp' ?_;clear h;rintro o'-ro' h;refine cy h ro' ?_;clear h ro';rintro ys us k' g2 r2- -h -;refine dI h ?_;clear h;intro h1 h;refine dI h ?_;clear h;intro h2 h;refine bf ((f7 xs).2 4 vs.toList (iA xs h1) r1) ?_;intro zq0 a2 a3;refine aw zq0 ?_;clear zq0;intro as a1;refine bf ((f7 ys).2 4 us.toList (iA ys h2) r2) ?_;intro zq0 b2 b3;refine aw zq0 ?_;clear zq0;intro bs b1;refine kk _ ⟨.list _,.list _,_,_,.list g1 rfl rfl a1,.list g2 rfl rfl b1,fZ a2 ?_,fZ b2 ?_,(q7 xs).2 ys 5 5 _ _ h1 h2 r1 r2⟩ h
  ·show _+1≤_;exact U4 a3 (TB (4+1).succ 58)
  ·show _+1≤_;exact U4 b3 (TB (4+1).succ 58)
 |tok=>exact aD h
 |fl=>exact aD h
 |_=>exact ag (Ee r s h) kk
theorem Ke{P₀:Pg}(O:C.Ok P₀):jc C .Eq eI:=λP A t f Q E u w v x r s h hA K=>by
 refine tw O r s h ?_;clear h;intro b zq1 h;refine x5 zq1 ?_;clear zq1;intro da db as bs a1 b1 a2 b2 e;exact SeqAt.compareEq_shaped (s:=P.s) a1 b1 a2 b2 (by lia) (e▸K (P.tick _) b (.refl _ _) h)
theorem K5{P₀:Pg}(O:C.Ok P₀):jc C .NotEq pj:=λP A t f Q E u w v x r s h hA K=>by
 refine tw (t:=f) (f:=t) O r s h ?_;clear h;intro b zq1 h;refine x5 zq1 ?_;clear zq1;intro da db as bs a1 b1 a2 b2 e;exact SeqAt.compareNe_shaped (s:=P.s) a1 b1 a2 b2 (by lia) (e▸K (P.tick _) (!b) (.refl _ _) (by cases(b)<;>exact h))
theorem kt{P₀:Pg}(O:C.Ok P₀){u w:KV}{v x:SU}(r:VR C P.R u v)(s:VR C P.R w x)(h:OB u w t f P.m=true){G:Prop}(k:∀i j t1 t2,az (decide (i<j)) (f P.m) (t P.m)=true->v=.int i t1->x=.int j t2->G):G:=by
 have ble:∀a b:Nat,T3 (Te a) b=decide (a<b):=λa b=>by rw[Uo,decide_eq_true_eq,Nat.ble_eq];exact Iff.rfl
 have key:∀{b:Bool}{i j:Int}{c:Bool},az b (f P.m) (t P.m)=true->(b=true↔i<j)->az (decide (i<j)) (f P.m) (t P.m)=true:=λ{b i j c} h e=>by
  have:decide (i<j)=b:=by rw[Uo,decide_eq_true_eq,e]
  rw[this];exact h
 cases u with
 |nat a=>
  refine aw r ?_;clear r;rintro t1 rfl;cases w with
  |nat b=>refine aw s ?_;clear s;rintro t2 rfl;exact k _ _ t1 t2 (key (c:=true) h (by rw[ble,decide_eq_true_eq];simp+arith)) rfl rfl
  |neg b=>refine aw s ?_;clear s;rintro t2 rfl;exact k _ _ t1 t2 (key (b:=false) (c:=true) h (by simp;exact Vu (a+b.succ))) rfl rfl
  |_=>exact aD h
 |neg a=>
  refine aw r ?_;clear r;rintro t1 rfl;cases w with
  |nat b=>refine aw s ?_;clear s;rintro t2 rfl;exact k _ _ t1 t2 (key (b:=true) (c:=true) h (by simp;lia)) rfl rfl
  |neg b=>refine aw s ?_;clear s;rintro t2 rfl;exact k _ _ t1 t2 (key (c:=true) h (by rw[ble,decide_eq_true_eq];lia)) rfl rfl
  |_=>exact aD h
 |_=>exact aD h
theorem K6{P₀:Pg}(O:C.Ok P₀):jc C .Lt my:=λP A t f Q E u w v x r s h hA K=>by
 refine kt O r s h ?_;clear h r s;rintro i j t1 t2 h rfl rfl;exact PyProof.Rows.lt_int (K (P.tick P.t) _ (.refl _ _) h)
theorem Ka{P₀:Pg}(O:C.Ok P₀):jc C .Gt rP:=λP A t f Q E u w v x r s h hA K=>by
 refine kt O s r h ?_;clear h s r;rintro i j t1 t2 h rfl rfl;exact PyProof.Rows.gt_int (K (P.tick P.t) _ (.refl _ _) h)
theorem K7{P₀:Pg}(O:C.Ok P₀):jc C .LtE Q3:=λP A t f Q E u w v x r s h hA K=>by
 refine kt (t:=f) (f:=t) O s r h ?_;clear h;rintro i j t1 t2 h rfl rfl;refine PyProof.Rows.le_int (K (P.tick P.t) _ (.refl _ _) ?_);rw[show decide (j≤i)=!decide (i<j) by rw[←decide_not];congr 1;simp];cases hd:decide (i<j)<;>rw[hd]at h<;>exact h
theorem Kc{P₀:Pg}(O:C.Ok P₀):jc C .GtE Mn:=λP A t f Q E u w v x r s h hA K=>by
 refine kt (t:=f) (f:=t) O r s h ?_;clear h;rintro i j t1 t2 h rfl rfl;refine PyProof.Rows.ge_int (K (P.tick P.t) _ (.refl _ _) ?_);rw[show decide (i≥j)=!decide (i<j) by rw[←decide_not];congr 1;simp];cases hd:decide (i<j)<;>rw[hd]at h<;>exact h
end
section
variable{P:Pt C}{A:U6}{E:SU->SW->Prop}
theorem Fy{c x:SU}{s:SW}{P:Bool->SW->Prop}(hh:Tb (Tn C.prog C.w) A (compareOp .In x c) (λr s=>∀b,r=.bool b->P b s) E s):Tb (Tn C.prog C.w) A (contains c x) P E s:=λΓ p hΓ=>by
 have h1:Tb (Tn C.prog C.w) A (contains c x>>=λb=>pure (W6 b)) (λr s=>∀b,r=.bool b->P b s) E s:=hh;have h2:=h1 Γ p hΓ;simp only[Sem.wp_bind',Sem.wp_pure']at h2;exact Sem.wp_mono _ Γ _ (λb p' s' h'=>h' b rfl) (λZ Z Z h'=>h') _ _ h2
open Classical in
theorem DF{u:KV}{v:SU}(hu:pk u=true)(r:VR C P.R u v):∀{xs:KV}{vs:List SU},Gd xs=true->bG C P.R xs vs->∃e:SU->Bool,(∀x∈vs,fR C P x v (e x))∧vs.any e=mem u xs:=by
 have hd:∀{y:KV}{x:SU},pk y=true->VR C P.R y x->fR C P x v (cM y u):=λ{y x} hy ry=>by
  refine bf ((f7 y).1 5 x (iA y hy) ry) ?_;intro zq0 a2 a3;refine aw zq0 ?_;clear zq0;intro as a1;refine bf ((f7 u).1 5 v (iA u hu) r) ?_;intro zq0 b2 b3;refine aw zq0 ?_;clear zq0;intro bs b1;exact⟨_,_,as,bs,a1,b1,fZ a2 (by exact SV a3 (TB (5+1) 58)),fZ b2 (by exact SV b3 (TB (5+1) 58)),(q7 y).1 u 5 5 x v hy hu ry r⟩
 have uq:∀{x:SU}{b c:Bool},fR C P x v b->fR C P x v c->b=c:=by
  rintro x b c ⟨da,db,as,bs,ra,rb,sa,sb,rfl⟩ ⟨da',db',as',bs',ra',rb',_,_,rfl⟩;exact rwr (SeqAt.Reads.unique _ _ _ _ _ (SeqAt.canLay_of_shaped sa) ra ra') (rwr (SeqAt.Reads.unique _ _ _ _ _ (SeqAt.canLay_of_shaped sb) rb rb') rfl)
 intro xs vs h1 h2;refine⟨λx=>decide (fR C P x v true),?_⟩;have oE:∀{x b},fR C P x v b->decide (fR C P x v true)=b:=λ{x b} h=>by
  cases b with
  |true=>exact decide_eq_true h
  |false=>exact decide_eq_false λk=>Bool.noConfusion (uq h k)
 induction xs generalizing vs with
 |nil=>cases h2;exact⟨λx h=>(by cases h),rfl⟩
 |cons y r _ ih=>
  refine aH h2 ?_;clear h2;rintro x us rfl r1 r2;refine dI h1 ?_;intro k1 k2;refine ak (ih k2 r2) ?_;intro i1 i2;have hx:=hd k1 r1;refine⟨λz hz=>?_,?_⟩
  ·rcases T8.mp hz with rfl|hz
   ·show fR C P z v (decide (fR C P z v true));refine rwr (oE hx) ?_;exact hx
   ·exact i1 z hz
  ·refine rwr List.any_cons (rwr (oE hx) (rwr i2 ?_));show _=az (cM y u) (mem u r) true;cases cM y u<;>rfl
 |_=>exact h2.elim
theorem B6{P₀:Pg}(O:C.Ok P₀){t f:K0}{Q:Bool->SW->Prop}{u w:KV}{v x:SU}(r:VR C P.R u v)(s:VR C P.R w x)(h:jU u t f P.m w=true)(hA:A.units+100<cLine)(K:Kb C P.R t f Q):Tb (Tn C.prog C.w) A (contains x v) Q E P.s:=by
 have fin:∀{b:Bool}{t':Nat},az b (f P.m) (t P.m)=true->Q b ⟨P.R.h,C.g,C.d,t',C.os⟩:=λ{b t'} q=>K (P.tick t') b (.refl _ _) q;refine bw h s ?_;clear h;rintro q p hp h-rfl;refine aF h hp ?_;clear h;rintro o-ro h;cases o with
 |list n xs=>
  refine ak ro ?_;clear ro;rintro -zq;refine aH zq ?_;clear zq;rintro vs k hob hvs -;refine dI h ?_;clear h;intro h1 h;refine dI h ?_;clear h;intro h2 h;refine ag (DF h2 r h1 hvs) ?_;intro e he hany;have hT:P.s.TypeIs (.ref p.fst) "list":=⟨_,hob,rfl⟩
  refine wpAny_contains_slot hT F.slot_list_contains (call_meets F.slot_list_contains hT F.entry_list_contains (F.args_list_contains_2 _ _) (SeqAt.list_containsAt p.fst vs k none #[] v e) ?_);refine⟨hob,λy hy=>?_,Un ?_⟩
  ·refine x5 (he y (by simpa using hy)) ?_;intro da db as bs ra rb sa sb q;refine rwl q ?_;exact SeqAt.eqAt_reads _ _ _ _ _ _ _ _ ra rb (SeqAt.canLay_of_shaped sa) (SeqAt.canLay_of_shaped sb) (SeqAt.room_of_shaped sa (by show A.units+1+_<_;lia))
  ·refine rwr (show vs.any e=mem u xs by rw[←hany,Array.any_toList]) ?_;exact fin h
 |dict n es=>
  refine dI h ?_;clear h;intro h1 h;refine ak ro ?_;clear ro;rintro -zq;refine x7 zq ?_;clear zq;rintro ob es' ep hob hx hdat hE hnd -;have hT:P.s.TypeIs (.ref p.fst) "dict":=⟨_,hob,hx.1⟩
  refine wpAny_contains_slot hT F.slot_dict_contains (TJ F.slot_dict_contains hT F.entry_dict_contains ?_ (F.args_dict_contains_2 _ _));show Tb _ _ (dictGet p.fst v>>=_) _ _ _;refine SO (jl (s:=P.s) h1 r rfl hob hdat hE (by show A.units+1+_<_;lia) hnd (λe t'=>?_) λy val e Z t'=>?_)
  ·rw[show cC es u (f P.m) (λZ=>t P.m)=f P.m by unfold cC;refine rwr e ?_;rfl]at h;show Tb _ _ (Builtin.Dict.pendingKey? p.fst v>>=_) _ _ _;exact SO (wpAny_pendingKey_other (gx O P.good hp) (SR ⟨_,rfl,Un (fin (b:=false) h)⟩))
  ·rw[show cC es u (f P.m) (λZ=>t P.m)=t P.m by unfold cC;refine rwr e ?_;rfl]at h;exact SR ⟨_,rfl,Un (fin (b:=true) h)⟩
 |set xs=>
  refine ak ro ?_;clear ro;rintro -zq;refine aH zq ?_;clear zq;rintro S n hS hn -;cases xs with
  |nil=>
   cases u with
   |str c=>
    refine aH r ?_;clear r;rintro s2 _ rfl rfl ok;have hz:S s2=false:=by
     refine FN hS ?_;clear hS;rintro o es ep tb- - - -hiff- -hsz;cases hSs:S s2 with
     |false=>rfl
     |true=>
      refine ag ((hiff s2).mp hSs) ?_;rintro e he -;have:es=#[]:=Array.eq_empty_of_size_eq_zero (by have:len .nil=0:=rfl;lia);rw[this]at he;cases he
    refine Fy (wpAny_inSet_of (knd:=PySem.strKind C.prog C.w) (k:=s2) (s:=P.s) (by exact if_pos rfl) rfl hS ?_);refine rwr hz ?_;intro b hb;cases hb;exact fin (b:=false) h
   |_=>exact aD h
  |_=>exact aD h
 |_=>exact aD h
theorem K9{P₀:Pg}(O:C.Ok P₀):jc C .In jU:=λP A t f Q E u w v x r s h hA K=>by
 show Tb _ _ (do return W6 (←contains x v)) _ _ _;exact SO (B6 O r s h hA λP1 b L q=>SR (K P1 b L q))
theorem K4{P₀:Pg}(O:C.Ok P₀):jc C .NotIn kQ:=λP A t f Q E u w v x r s h hA K=>by
 show Tb _ _ (do return W6 (!(←contains x v))) _ _ _;exact SO (B6 (t:=f) (f:=t) O r s h hA λP1 b L q=>SR (K P1 (!b) L (by cases b<;>exact q)))
end
section
variable{a b:SQ}{x y:X}{p:Pos}{op:CmpOp}{k:KV->K0->K0->KT}
theorem A6(hk:jc C op k)(hx:bv C Γ a x)(hy:bv C Γ b y)(hm:behindInMarks op b=false):fW C Γ (.Compare a [op] [b] p) (aA k x y):=λF P en t f Q E R h K=>by
 refine Vr (hx F P en _ _ E R h λP1 u v L r h1=>?_) hm;refine hy F P1 en _ _ E (R.later L) h1 λP2 w z L2 s h2=>?_;exact hk P2 F.A t f _ E u w v z (r.later L2) s h2 F.units λP3 c L3 h3=>Un (K P3 c ((L.trans L2).trans L3) h3)
theorem CZ(hk:jc C op k)(hx:bv C Γ a x)(hy:bv C Γ b y)(hm:behindInMarks op b=false):bv C Γ (.Compare a [op] [b] p) (fj (aA k x y)):=λF P en kk Q E R h K=>by
 refine wpAny_Compare1 (hx F P en _ _ E R h λP1 u v L r h1=>?_) hm;refine hy F P1 en _ _ E (R.later L) h1 λP2 w z L2 s h2=>?_;exact hk P2 F.A _ _ Q E u w v z (r.later L2) s h2 F.units λP3 c L3 h3=>K P3 (.bool c) _ ((L.trans L2).trans L3) .bool_ (by cases c<;>exact h3)
theorem o7{R:Wd}{t f:K0}{s:KS}{u:KV}{v:SU}(r:VR C R u v)(h:Jp t f s u=true):az (v==.none) (f s) (t s)=true:=by
 cases u with
 |none=>cases r;exact h
 |bool=>cases r;exact h
 |str=>refine aL r ?_;clear r;rintro _ _ rfl -;exact h
 |nil=>refine ag r ?_;clear r;rintro _ rfl -;exact h
 |cons=>refine eS r ?_;clear r;rintro _ _ _ rfl -;exact h
 |ref=>refine ag r ?_;clear r;rintro _-rfl;exact h
 |fl=>refine eS r ?_;rintro _ _ _ rfl -;exact h
 |tok=>exact aD h
 |_=>refine aw r ?_;clear r;rintro _ rfl;exact h
theorem K8{n:Nat}{p':Pos}(hx:bv C Γ a x):fW C Γ (.Compare a [.Is] [.Constant .none n p'] p) (iF x):=λF P en t f Q E R h K=>by
 refine Vr (hx F P en _ _ E R h λP1 u v L r h1=>SR ?_) rfl;exact is_none (Un (K P1 _ L (o7 r h1)))
theorem yf{n:Nat}{p':Pos}(hx:bv C Γ a x):fW C Γ (.Compare a [.IsNot] [.Constant .none n p'] p) (yj x):=λF P en t f Q E R h K=>by
 refine Vr (hx F P en _ _ E R h λP1 u v L r h1=>SR ?_) rfl;refine isNot_none (Un (K P1 _ L ?_));have:=o7 (t:=f) (f:=t) r h1;cases hv:v==.none<;>rw[hv]at this<;>exact this
theorem Ep{n:Nat}{p':Pos}(hx:bv C Γ a x):bv C Γ (.Compare a [.Is] [.Constant .none n p'] p) (fj (iF x)):=λF P en k Q E R h K=>by
 refine wpAny_Compare1 (hx F P en _ _ E R h λP1 u v L r h1=>SR ?_) rfl;refine is_none (K P1 (.bool (v==.none)) _ L .bool_ ?_);have:=o7 r h1;cases hv:v==.none<;>rw[hv]at this<;>exact this
theorem rB{F:dP C Γ}{P:Pt C}{s:Str}{tk:Tok}{t f:K0}{Q:Bool->SW->Prop}{E:SU->SW->Prop}{u:KV}{v:SU}(ok:yy s)(r:VR C P.R u v)(h:AF (λd=>az (SS (Nat.div d 2097152) 1) false (GQ t f P.m (@V2 Nat (λZ=>Bool) false (λx Z r=>az (SS x d) r true) (s.cps.toList.map λx=>gW [x])))) u=true)(K:Kb C P.R t f Q):
  Tb (Tn C.prog C.w) F.A (contains (.str s tk) v) Q E P.s:=by
 cases u with
 |str d=>
  refine aH r ?_;clear r;rintro s2 _ rfl rfl ok2;refine dI h ?_;clear h;intro h1 h;have h1:=cg.mp h1;obtain⟨ch,hs2⟩:∃ch,s2=⟨#[ch]⟩:=by
   obtain⟨⟨l⟩⟩:=s2;have hl:=ok2.1;unfold iI at h1;rw[ox]at h1;simp only at h1 hl;cases e:l.reverse with
   |nil=>rw[e]at h1;exact absurd h1 (by decide)
   |cons c r=>
    rw[e]at h1;have hc:c<1114112:=hl c (by rw[←List.mem_reverse,e];exact SX);have:gJ (c::r)/2097152=gJ r:=by rw[gJ];lia
    rw[show Nat.div (gJ (c::r)) 2097152=gJ r from this]at h1;cases r with
    |nil=>exact⟨c,by rw[show l=[c] by rw[←List.reverse_reverse l,e];rfl]⟩
    |cons c' r'=>have:=ou r';rw[gJ]at h1;lia
  refine Fy (PySem.P.in_str ?_);intro b hb;cases hb;refine K (P.tick _) _ (.refl _ _) ?_;have:(!(Builtin.Str.occurrences s s2 0 s.length 1).isEmpty)=@V2 Nat (λZ=>Bool) false (λx Z r=>az (SS x (iI s2)) r true) (s.cps.toList.map λx=>gW [x]):=by
   rw[hs2,PySem.StrLaws.found_one,Uo,decide_eq_true_eq];induction s.cps.toList with
   |nil=>simp
   |cons y ys ih=>
    rw[T8,ih];show _↔az (SS (gW [y]) (gW [ch])) _ true=true;rw[yk,cg];refine or_congr ?_ Iff.rfl;simp only[gW,List.foldl_cons,List.foldl_nil];lia
  refine rwr this ?_;exact h
 |_=>exact aD h
theorem A3{s:Str}{n:Nat}{p':Pos}(ok:Fj s=true)(hx:bv C Γ a x):fW C Γ (.Compare a [.In] [.Constant (.str s) n p'] p) (u9 (s.cps.toList.map λx=>gW [x]) x):=λF P en t f Q E R h K=>by
 refine Vr (hx F P en _ _ E R h λP1 u v L r h1=>wpAny_mkText ?_) rfl;show Tb _ _ (do return W6 (←contains _ v)) _ _ _;exact SO (rB (F:=F) (P:=P1.tick (P1.t+1)) (qS ok) r h1 λP2 b L2 q=>SR (Un (K P2 b (L.trans L2) q)))
end
end
end
section
set_option compiler.extract_closed false
section
open PySem PySem.W PyProof.Rows
variable{C:Cx}{Γ:d6}{R R':Wd}
theorem km{f g:Nat->Bool}{i:KV}{w:SU}(h:yx f g i=true)(r:VR C R i w):∃z t,w=.int z t∧((∃n:Nat,z=n∧i=.nat n∧f n=true)∨∃n,z=.negSucc n∧i=.neg n∧g n=true):=by
 cases i with
 |nat n=>refine aw r ?_;clear r;rintro t rfl;exact⟨_,t,rfl,.inl ⟨n,rfl,rfl,h⟩⟩
 |neg n=>refine aw r ?_;clear r;rintro t rfl;exact⟨_,t,rfl,.inr ⟨n,rfl,rfl,h⟩⟩
 |_=>exact aD h
theorem cw{f:Nat->Bool}{i:KV}{w:SU}(h:gp f i=true)(r:VR C R i w){G:Prop}(k:∀(n:Nat)(t:Tok),f n=true->w=.int n t->i=.nat n->G):G:=by
 cases i with
 |nat n=>refine aw r ?_;clear r;rintro t rfl;exact k n t h rfl rfl
 |_=>exact aD h
theorem Fb{i:Int}{k L:Nat}(e:(if i<0 then i+L else i)=(k:Int))(h:k<L):seqIndex? i L=some k:=by
 show(if(decide (0≤(if i<0 then i+(L:Int)else i))&&decide ((if i<0 then i+(L:Int)else i)<L))=true then some (if i<0 then i+(L:Int)else i).toNat else none)=_;refine rwr e (rwr (if_pos (Ts.mpr ⟨decide_eq_true (UG k),decide_eq_true (Int.ofNat_lt.mpr h)⟩)) ?_);rfl
theorem o9{k:KV->Bool}{i xs:KV}{vs:List SU}{w:SU}(h:Fv k vs.length i xs=true)(r:VR C R i w)(rs:bG C R xs vs){G:Prop}(k0:∀z t y v j,seqIndex? z vs.length=some j->vs[j]?=some v->VR C R y v->k y=true->j<vs.length->(z=j∨z<0∧z+vs.length=j)->w=.int z t->G):G:=by
 obtain⟨z,t,rfl,⟨n,rfl,_,h⟩|⟨n,rfl,_,h⟩⟩:=km h r
 ·refine aB h ?_;clear h;intro y h hy;refine ag (rs.get hy) ?_;intro v hv ry;have hl:=(To.mp hv).1;exact k0 _ t y v n (Fb (if_neg (Int.not_lt.mpr (UG n))) hl) hv ry h hl (.inl rfl) rfl
 ·refine dI h ?_;clear h;intro h1 h;have h1:=SP h1;refine aB h ?_;clear h;intro y h hy;refine ag (rs.get hy) ?_;intro v hv ry;have hn:=Nat.sub_lt (UW (VI n) h1) (VI n);have e:Int.negSucc n+(vs.length:Int)=((vs.length-(n+1):Nat):Int):=Int.subNatNat_of_le h1;exact k0 _ t y v _ (Fb ((if_pos (Int.negSucc_lt_zero n)).trans e) hn) hv ry h hn (.inr ⟨Int.negSucc_lt_zero n,e⟩) rfl
theorem v6{P:Pt C}{s:Str}(ok:yy s)(t:Tok):bG C P.R (Fu (iI s)) (s.cps.toList.map λc=>.str ⟨#[c]⟩ t):=by
 unfold Fu;refine rwr (fF ok) ?_;have:∀l:List Nat,(∀c∈l,c<1114112)->bG C P.R (@V2 Nat (λZ=>KV) .nil (λc Z r=>.cons (.str (gW [c])) r) l) (l.map λc=>.str ⟨#[c]⟩ t):=by
  intro l;induction l with
  |nil=>intro _;rfl
  |cons c r ih=>exact λh=>.cons_ (.str_ ⟨λx hx=>by simp at hx;subst hx;exact h _ SX,by simp⟩) (ih λx hx=>h x (T5 _ hx))
 exact this _ ok.1
theorem jh{P:Pt C}{f:Nat->Bool}{g:KV->Bool}{e:Pa->Bool}{u:KV}{v:SU}(h:pP f g e u=true)(r:VR C P.R u v):
  (∃s t,v=.str s t∧yy s∧f (iI s)=true)∨(∃a vs,v=.ref a∧P.R.h.IsTuple a vs.toArray∧bG C P.R u vs∧vs.length≤100000∧g u=true)∨∃q p o,v=.ref p.fst∧P.R.ρ q=some p∧tg q P.m.h=some o∧eX C P.R o p∧e q=true:=by
 cases u with
 |str c=>refine aH r ?_;clear r;rintro s t rfl rfl ok;exact .inl ⟨s,t,rfl,ok,h⟩
 |nil=>refine ag r ?_;clear r;rintro a rfl ht;exact .inr (.inl ⟨a,[],rfl,ht,rfl,TQ _,h⟩)
 |cons x y=>refine ew r ?_;clear r;rintro a w ws rfl ht h1 h2 hl;exact .inr (.inl ⟨a,w::ws,rfl,ht,⟨w,ws,rfl,h1,h2⟩,hl,h⟩)
 |ref q=>refine ag r ?_;clear r;rintro p hp rfl;refine ag (P.good.dom q p hp) ?_;intro o e1 e2;exact .inr (.inr ⟨q,p,o,rfl,hp,e1,e2,h⟩)
 |_=>exact aD h
theorem nO{P:Pt C}{f:Nat->Bool}{g:KV->Bool}{e:Pa->Bool}{l:KV->Bool}{u:KV}{v:SU}(h:qP f g e l u=true)(r:VR C P.R u v):
  (∃xs a vs c,u=.fl xs∧v=.ref a∧P.R.h.get? a=some (gz vs c)∧bG C P.R xs vs.toList∧vs.size≤100000∧l xs=true)∨pP f g e u=true:=by
 cases u with
 |fl xs=>refine ew r ?_;clear r;rintro a vs c rfl-hg rs hl;exact .inl ⟨xs,a,vs,c,rfl,rfl,hg,rs,hl,h⟩
 |none=>exact aD h
 |bool=>exact aD h
 |nat=>exact aD h
 |neg=>exact aD h
 |tok=>exact aD h
 |_=>exact .inr h
theorem gR{P:Pt C}{f:Nat->KV->Bool}{u:KV}{v:SU}(h:Jb P.m f u=true)(r:VR C P.R u v){G:Prop}(k:∀n xs a vs c,P.R.h.get? a=some (gz vs c)->bG C P.R xs vs.toList->n=vs.size->n≤100000->f n xs=true->v=.ref a->G):G:=by
 cases u with
 |ref q=>
  refine ag r ?_;rintro p hp rfl;refine aF h hp ?_;rintro o-ro h;refine cy h ro ?_;clear ro;rintro xs vs c hob rs hl-h -;exact k vs.size xs _ vs c hob rs rfl hl h rfl
 |fl xs=>refine ew r ?_;clear r;rintro a vs c rfl-hg rs hl;have rs:bG C P.R xs vs.toList:=rs;exact k (len xs) xs a vs c hg rs (rs.len_eq.trans T4) (by refine rwr rs.len_eq (rwr T4 ?_);exact hl) h rfl
 |_=>exact aD h
theorem mB{P:Pt C}{q:Pa}{o:KO}{f:KO->Bool}(h:aZ q P.m f=true)(e:tg q P.m.h=some o):f o=true:=by
 unfold aZ at h;rw[e]at h;exact h
theorem iY{z:Int}{L j:Nat}(hl:L≤100000)(hj:j<L)(hz:z=j∨z<0∧z+L=j):-(2^63:Int)≤z∧z<2^63∧-(L:Int)≤z:=by omega
section
variable{P₀:Pg}(O:C.Ok P₀){P:Pt C}{A:U6}{Q:SU->SW->Prop}{E:SU->SW->Prop}
include O
theorem tD{k:KT}{u i:KV}{v w:SU}(r:VR C P.R u v)(ri:VR C P.R i w)(h:Jm k u P.m i=true)(hA:A.units+100<cLine)(K:Kp C C.vol P.R k Q):Tb (Tn C.prog C.w) A (getItem v w) Q E P.s:=by
 have lis:∀{a:Tw}{vs:Array SU}{k':Nat}{xs:KV},P.R.h.get? a=some (gz vs k')->bG C P.R xs vs.toList->vs.size≤100000->Fv (k P.m) vs.size i xs=true->Tb (Tn C.prog C.w) A (getItem (.ref a) w) Q E P.s:=λ{a vs k' xs} hob rs hl h=>by
  rw[←T4]at h;refine o9 h ri rs ?_;clear h;rintro z t' y v j h1 h2 ry h hj hz rfl;rw[T4]at hj hz;rw[Tj]at h2;have hL:P.R.h.IsList a vs:=⟨_,hob,rfl,k',rfl⟩
  rcases hz with rfl|zq
  ·exact wpAny_getItem_list (s:=P.s) hL (by exact Vu (j+0)) (iY hl hj (.inl rfl)).2.1 h2 (K.at ry h _)
  ·refine ak zq ?_;clear zq;intro z0 z1;exact wpAny_getItem_list_neg (s:=P.s) hL z0 (iY hl hj (.inr ⟨z0,z1⟩)).2.2 (iY hl hj (.inr ⟨z0,z1⟩)).1 (by refine rwr z1 ?_;exact h2) (K.at ry h _)
 refine(nO h r).elim (λz=>?_) λh=>?_
 ·refine gE z ?_;rintro xs a vs c rfl rfl hg rs hl h;exact lis hg rs hl (by rw[rs.len_eq,T4]at h;exact h)
 rcases jh h r with zq|zq|zq
 ·refine aH zq ?_;clear zq;rintro s t rfl ok h;have rs:=v6 (P:=P) ok P.t;have hs:s.cps.toList.length=s.length:=T4;rw[rs.len_eq]at h;refine o9 h ri rs ?_;clear h;rintro z t' y v j h1 h2 ry h hj hz rfl;rw[TL,hs]at h1 hj hz;rw[Tr]at h2;refine xT h2 ?_;rintro c hc rfl;rw[Tj]at hc;have:=ok.2;have hr:(decide (z< -(2^63:Int))||decide (z≥2^63))=false:=by
   have q:=iY (SV ok.2 (by decide)) hj hz;refine rwr (decide_eq_false (Int.not_lt.mpr q.1)) (rwr (decide_eq_false (Int.not_le.mpr q.2.1)) ?_);rfl
  refine PySem.P.getItem_str (s:=P.s) hr (by refine rwr h1 ?_;exact hc) ?_;exact K.at ry h _
 ·refine x8 zq ?_;clear zq;rintro a vs rfl ht rs hl h;rw[rs.len_eq]at h;refine o9 h ri rs ?_;clear h;rintro z t' y v j h1 h2 ry h hj hz rfl;exact getItem_tuple (s:=P.s) ht (by first|exact(iY hl hj hz).1|exact(iY hl hj hz).2.1) (by first|exact(iY hl hj hz).1|exact(iY hl hj hz).2.1) (by simpa using h1) (by simpa using h2) (K.at ry h _)
 ·refine ew zq ?_;clear zq;rintro q p o rfl hp e ro h;have h:=mB h e;cases o with
  |list n xs=>
   refine ak ro ?_;clear ro;rintro -zq;refine dG zq ?_;clear zq;rintro vs k' hob rs rfl hl;exact lis hob rs hl h
  |dict n es=>
   refine dI h ?_;clear h;intro h1 h;refine ak ro ?_;clear ro;rintro -zq;refine x7 zq ?_;clear zq;rintro ob es' ep hob hx hdat hE hnd -;have hT:P.s.TypeIs (.ref p.fst) "dict":=⟨_,hob,hx.1⟩
   unfold getItem;refine TH (SO (W0 hT (by decide) ?_));refine SO (TV (name:=Tu "__getitem__") hT VJ (TJ VJ hT F.entry_dict_getitem ?_ (F.args_dict_getitem_2 _ _)));show Tb _ _ (dictGet p.fst w>>=_) _ _ _;refine SO (jl (s:=P.s) h1 ri rfl hob hdat hE (by show A.units+1+_<_;lia) hnd (λe t'=>?_) λy val e rv t'=>?_)
   ·unfold cC at h;rw[e]at h;exact aD h
   ·unfold cC at h;rw[e]at h;exact SR ⟨_,rfl,SR (K.at rv h _)⟩
  |_=>exact aD h
omit O in
theorem kB{P':Pt C}{f:Nat->Bool}{g:KV->Bool}{fl:Nat->KV->Bool}{fd:Nat->KD->Bool}{u:KV}{v:SU}(r:VR C P.R u v){l:KV->Bool}(h:qP f g (λq=>aZ q P'.m (qR fl fd)) l u=true)(hm:P'.m=P.m){Q:Bool->SW->Prop}{t:Nat}(q:Q false ⟨P.R.h,C.g,C.d,t,C.os⟩):
  Tb (Tn C.prog C.w) A (getitemInPython v) Q E ⟨P.R.h,C.g,C.d,t,C.os⟩:=by
 have fin:∀{T id:String},(P.tick t).s.TypeIs v T->typeLookup (.type T) "__getitem__"=pure (some (.builtin id))->Tb (Tn C.prog C.w) A (getitemInPython v) Q E (P.tick t).s:=by
  intro T id hT hl;refine rwr (getitemInPython_of_ne hT.not_modules) ?_;exact SO (Uw hT hl (SR q))
 refine(nO h r).elim (λz=>?_) λh=>?_
 ·refine gE z ?_;clear z;rintro xs a vs c rfl rfl hg- - -;exact fin (T:="list") ⟨_,hg,rfl⟩ W2.lookup
 rcases jh h r with zq|zq|zq
 ·refine aH zq ?_;clear zq;rintro s t rfl ok h;exact fin (typeIs_str _ s t) F.slot_str_getitem.lookup
 ·refine x8 zq ?_;clear zq;rintro a vs rfl ht rs hl h;exact fin (IsTuple.typeIs (s:=(P.tick _).s) ht) Wb.lookup
 ·refine ew zq ?_;clear zq;rintro q p o rfl hp e ro h;rw[hm]at h;have h:=mB h e;cases o with
  |list n xs=>refine ak ro ?_;clear ro;rintro -zq;refine aL zq ?_;clear zq;rintro vs k' hob -;exact fin (T:="list") ⟨_,hob,rfl⟩ W2.lookup
  |dict n es=>refine ak ro ?_;clear ro;rintro -zq;refine fL zq ?_;clear zq;rintro ob es' ep hob hx -;exact fin (T:="dict") ⟨_,hob,hx.1⟩ VJ.lookup
  |_=>exact aD h
end
noncomputable def gB:SQ->Bool
 |.Slice _ _ _ _=>true
 |_=>false
theorem iM{e:SQ}(h:gB e=false)(o i:SU):subscripted e false o i=operate [o,i] (getItem o i):=by cases e<;>first|rfl|exact qd h
section
variable{P₀:Pg}(O:C.Ok P₀){o i a b:SQ}{p p':Pos}{x y:X}
include O
theorem CH(hx:bv C Γ o x)(hy:bv C Γ i y)(hi:gB i=false):bv C Γ (.Subscript o i p) (av x y):=λF P en k Q E R h K=>by
 refine VN (hx F P en _ _ E R h λP1 u v L1 r h1=>?_);refine hy F P1 en _ _ E (R.later L1) h1 λP2 j w L2 rj h2=>?_;unfold PyProof.Rows.subscriptTail;refine SO (kB (P':=P2) (r.later L2) h2 rfl ?_);rw[iM hi];refine SO (wpAny_operating (tD O (r.later L2) rj h2 F.units λP3 z v' L3 r3 h3=>?_));exact SO (V6 (SR (K P3 z v' ((L1.trans L2).trans L3) r3 h3)))
end
noncomputable def Cg(d n:Nat):Option Nat->Nat
 |none=>d
 |some i=>min i n
theorem RD(i n:Nat):max (0:Int) (min (i:Int) (n:Int))=((min i n:Nat):Int):=by
 rcases X3 i n with h|h
 ·exact rwr (V4 h) (rwr (Int.min_eq_left (Int.ofNat_le.mpr h)) (rwr (Int.max_eq_right (UG i)) rfl))
 ·exact rwr (Vh h) (rwr (Int.min_eq_right (Int.ofNat_le.mpr h)) (rwr (Int.max_eq_right (UG n)) rfl))
theorem wu{items:Array SU}(lo hi:Option Nat):slicePick items (lo.map V5) (hi.map V5) none=((items.toList.take (Cg items.size items.size hi)).drop (Cg 0 items.size lo)).toArray:=by
 have eb:sliceBounds (lo.map V5) (hi.map V5) none items.size=(((Cg 0 items.size lo:Nat):Int),((Cg items.size items.size hi:Nat):Int),1):=by
  unfold sliceBounds;simp only[Option.getD_none,show(1:Int)>0 by decide,if_true];have cl:∀i:Nat,max (0:Int) (min (if V5 i<0 then V5 i+items.size else V5 i) items.size)=((min i items.size:Nat):Int):=λi=>(congrArg (λz:Int=>max 0 (min z _)) (if_neg (Int.not_lt.mpr (UG i)))).trans (RD i _)
  congr 1
  ·cases lo with
   |none=>rfl
   |some i=>exact cl i
  ·congr 1
   cases hi with
   |none=>rfl
   |some i=>exact cl i
 unfold slicePick;refine rwr eb ?_;dsimp only;rw[sliceRange_one,pick_run,List.drop_take]
def Ld(w:SU):Option Nat->Prop
 |none=>w=.none
 |some i=>∃t,w=.int i t
theorem Ld.part{w:SU}:∀{o:Option Nat},Ld w o->IsPart w (o.map V5)
 |none,h=>by cases h;exact .none
 |some i,⟨t,e⟩=>by subst e;exact .int _ _
section
variable{P:Pt C}{A:U6}{Q:SU->SW->Prop}{E:SU->SW->Prop}
theorem fY{e:SQ}{se sl:Option SQ}{p:Pos}{k:KT}{u:KV}{v wl wh:SU}{lo hi:Option Nat}(hl:Ld wl lo)(hh:Ld wh hi)(r:VR C P.R u v)(K:Kp C C.vol P.R k Q)
  (hv:(∃a vs c m xs',v=.ref a∧P.R.h.get? a=some (gz vs c)∧vs.size≤100000∧(lO k P.m m xs'=true∨k P.m (.fl xs')=true)∧bG C P.R xs' ((vs.toList.take (Cg vs.size vs.size hi)).drop (Cg 0 vs.size lo))∧m=((vs.toList.take (Cg vs.size vs.size hi)).drop (Cg 0 vs.size lo)).length)∨
   (∃a vs j,v=.ref a∧P.R.h.IsTuple a vs.toArray∧bG C P.R u vs∧vs.length≤100000∧lo=some j∧hi=none∧1≤j∧j≤vs.length∧k P.m (drop j u)=true)):
  Tb (Tn C.prog C.w) A (PyProof.Rows.subscriptTail e (.Slice se sl none p) v (.ref P.R.h.objs.size)) Q E ⟨P.R.h.push {cls:=.type "slice",data:=.fields #[wl,wh,.none]},C.g,C.d,P.t,C.os⟩:=by
 have kp:=aE P.R.h {cls:=.type "slice",data:=.fields #[wl,wh,.none]};have hsl:(P.R.h.push {cls:=.type "slice",data:=.fields #[wl,wh,.none]}).IsSliceOf P.R.h.objs.size wl wh .none:=WD ..;have hle:P.R.h.objs.size≤(P.R.h.push {cls:=.type "slice",data:=.fields #[wl,wh,.none]}).objs.size:=by rw[VV];exact U8 _
 generalize P.R.h.push {cls:=.type "slice",data:=.fields #[wl,wh,.none]}=h1 at*;have fin:∀{T id:String},Wx ⟨h1,C.g,C.d,P.t,C.os⟩ v T->typeLookup (.type T) "__getitem__"=pure (some (.builtin id))->Tb (Tn C.prog C.w) A (getItem v (.ref P.R.h.objs.size)) Q E ⟨h1,C.g,C.d,P.t,C.os⟩->
   Tb (Tn C.prog C.w) A (PyProof.Rows.subscriptTail e (.Slice se sl none p) v (.ref P.R.h.objs.size)) Q E ⟨h1,C.g,C.d,P.t,C.os⟩:=by
  intro T id hT hl q;unfold PyProof.Rows.subscriptTail;rw[getitemInPython_of_ne hT.not_modules];refine SO (SO (Uw hT hl (SR (SO ?_))));show Tb _ _ (operate [.ref P.R.h.objs.size,v] (getItem v (.ref P.R.h.objs.size))) _ _ _;exact wpAny_operating (UJ q (λr s q=>SO (V6 (SR q))) λZ Z e=>e)
 rcases hv with zq|zq
 ·refine MD zq ?_;clear zq;rintro a vs c m xs' rfl hob hsz hk rx hm;have hL:h1.IsList a vs:=⟨_,kp _ _ hob,rfl,c,rfl⟩
  refine fin (T:="list") ⟨_,kp _ _ hob,rfl⟩ W2.lookup (wpAny_getItem_list_slice (s:=⟨h1,C.g,C.d,P.t,C.os⟩) hL hsl hl.part hh.part .none (by decide) ?_ ?_)
  ·rw[wu];rcases hk with hk|hk
   ·exact(mx (c:=0) K rx hm (λb o e=>aE _ _ b o (kp b o e)) (Ug hle) (T9 _ rfl) hk P.t).2
   ·exact oj (c:=0) K rx (SV (by rw[Vg,UR,T4];exact SV (WA _ _) (Nat.min_le_right _ _)) hsz) (λb o e=>aE _ _ b o (kp b o e)) (Ug hle) (T9 _ rfl) hk P.t
  ·exact SV hsz cQ
 ·refine MF zq ?_;clear zq;rintro a vs j rfl ht rs hln rfl rfl j1 j2 hk;rcases hl with⟨t,rfl⟩
  cases hh;have ht':h1.IsTuple a vs.toArray:=by rcases ht with⟨o,ho,h⟩;exact⟨o,kp _ _ ho,h⟩
  refine fin (IsTuple.typeIs (s:=⟨h1,C.g,C.d,_,C.os⟩) ht') Wb.lookup (getItem_tuple_from (s:=⟨h1,C.g,C.d,P.t,C.os⟩) ht' hsl j1 (by simpa using j2) ?_ (by simpa using SV hln cQ));exact qA (c:=0) K (vs:=vs.drop j) (rs.drop_ j) (by refine rwr Vg ?_;lia) (λb o e=>aE _ _ b o (kp b o e)) (by simpa using T9 _ rfl) hk P.t
end
section
variable{o i:SQ}{p p':Pos}{x y:X}
theorem zR(hx:bv C Γ o x):bv C Γ (.Subscript o (.Slice none none none p') p) (yS x):=λF P en k Q E R h K=>by
 refine VN (hx F P en _ _ E R h λP1 u v L r h=>?_);refine WW ?_;simp only[Wm];refine SR (SR (SR ?_));refine gR h r ?_;intro n xs a vs c hg rs hn hl h zv;refine fY (P:=P1) (lo:=none) (hi:=none) rfl rfl r (K.later L) (.inl ⟨a,vs,c,n,xs,zv,hg,hn▸hl,.inl h,?_⟩);show bG C P1.R xs (vs.toList.take vs.size)∧_=(vs.toList.take vs.size).length;refine rwr (Ub (VZ T4)) (rwr T4 ?_);exact⟨rs,hn⟩
theorem zJ(hx:bv C Γ o x)(hy:bv C Γ i y):bv C Γ (.Subscript o (.Slice (some i) none none p') p) (rY x y):=λF P en k Q E R h K=>by
 refine VN (hx F P en _ _ E R h λP1 u v L r h=>WW ?_);simp only[Wm,WX];refine hy F P1 en _ _ E (R.later L) h λP2 j w L2 rj h=>SR (SR ?_);refine cw h rj ?_;clear h rj;rintro n t h rfl -;have r2:=r.later L2;have K2:=K.later (L.trans L2);cases u with
 |nil=>
  refine ag (id r2) ?_;rintro a rfl ht;refine dI h ?_;clear h;intro h1 h;refine dI h ?_;clear h;intro h2 h;exact fY (P:=P2) (lo:=some n) (hi:=none) ⟨t,rfl⟩ rfl r2 K2 (.inr ⟨a,[],n,rfl,ht,(bG.nil_:bG C P2.R .nil []),TQ _,rfl,rfl,SP h1,SP h2,h⟩)
 |cons z zs=>
  refine ew (id r2) ?_;rintro a u us rfl ht a1 a2 hl;have rs:bG C P2.R (.cons z zs) (u::us):=⟨u,us,rfl,a1,a2⟩
  refine dI h ?_;clear h;intro h1 h;refine dI h ?_;clear h;intro h2 h;rw[rs.len_eq]at h2;exact fY (P:=P2) (lo:=some n) (hi:=none) ⟨t,rfl⟩ rfl r2 K2 (.inr ⟨a,_,n,rfl,ht,rs,hl,rfl,rfl,SP h1,SP h2,h⟩)
 |ref q=>
  refine ag (id r2) ?_;rintro p hp rfl;refine aF h hp ?_;clear h;intro o e ro h;refine cy h ro ?_;clear h ro;rintro xs vs c hob rs hl-h -;refine fY (P:=P2) (lo:=some n) (hi:=none) ⟨t,rfl⟩ rfl r2 K2 (.inl ⟨_,vs,c,_,_,rfl,hob,hl,.inl h,?_⟩);show bG C P2.R _ ((vs.toList.take vs.size).drop (min n vs.size))∧vs.size-n=((vs.toList.take vs.size).drop (min n vs.size)).length;have:vs.toList.drop (min n vs.size)=vs.toList.drop n:=by
   rcases X3 n vs.size with z|z
   ·exact rwr (V4 z) rfl
   ·exact rwr (Vh z) (rwr (VO (by simp_all+arith)) (rwr (VO (by simp_all+arith)) rfl))
  refine rwr (Ub (VZ T4)) (rwr this (rwr Vg (rwr T4 ?_)));exact⟨rs.drop_ n,rfl⟩
 |_=>exact aD h
theorem GI(hx:bv C Γ o x)(hy:bv C Γ i y):bv C Γ (.Subscript o (.Slice none (some i) none p') p) (yw x y):=λF P en k Q E R h K=>by
 refine VN (hx F P en _ _ E R h λP1 u v L r h=>WW ?_);simp only[Wm,WX];refine SR (hy F P1 en _ _ E (R.later L) h λP2 j w L2 rj h=>SR ?_);refine cw h rj ?_;clear h rj;rintro n t h rfl -;have r2:=r.later L2;refine gR h r2 ?_;intro m xs a vs c hg rs hn hl h zv;subst hn;refine fY (P:=P2) (lo:=none) (hi:=some n) rfl ⟨t,rfl⟩ r2 (K.later (L.trans L2)) (.inl ⟨a,vs,c,_,_,zv,hg,hl,.inl h,?_⟩);show bG C P2.R _ (vs.toList.take (min n vs.size))∧_=(vs.toList.take (min n vs.size)).length;have:vs.toList.take (min n vs.size)=vs.toList.take n:=by
  rcases X3 n vs.size with z|z
  ·exact rwr (V4 z) rfl
  ·exact rwr (Vh z) (rwr (Ub (by simp)) (rwr (Ub (by simpa using z)) rfl))
 refine rwr this ?_;refine⟨rs.take_ n,?_⟩;refine rwr UR (rwr T4 ?_);cases hb:T3 n vs.size with
 |true=>exact(V4 (SP hb)).symm
 |false=>exact(Vh (Nat.le_of_not_le λz=>by rw[SY z]at hb;exact qd hb)).symm
end
end
end
section
set_option compiler.extract_closed false
section
open PySem PySem.W PyProof.Rows
variable{C:Cx}{Γ:d6}{R R':Wd}
def oY(C:Cx)(op:WZ)(k:KT->KV->KT):Prop:=∀(P:Pt C)(A:U6)(kk:KT)(Q:SU->SW->Prop)(E:SU->SW->Prop)(u w:KV)(v x:SU),
 VR C P.R u v->VR C P.R w x->k kk u P.m w=true->Kp C C.vol P.R kk Q->Tb (Tn C.prog C.w) A (binaryOp op v x) Q E P.s
theorem qY{f:Nat->Nat->Bool}{u w:KV}{v x:SU}(r:VR C R u v)(s:VR C R w x)(h:gp (λa=>gp (λb=>f a b) w) u=true){G:Prop}(k:∀(a b:Nat)(t t':Tok),v=.int a t->x=.int b t'->f a b=true->G):G:=by
 refine cw h r ?_;clear h r;rintro a t h rfl -;refine cw (f:=f a) (i:=w) h s ?_;clear h;rintro b t' h rfl rfl;exact k a b t t' rfl rfl h
theorem VR.int_{z:Int}{t:Tok}{n:Nat}(e:z=n):VR C R (.nat n) (.int z t):=e▸.nat_
theorem mi{k:KT}{m:KS}{n:Nat}{w:KV}{v x:SU}(h:NP k m w n=true)(r:VR C R (.tok n) v)(s:VR C R w x){G:Prop}(g:∀(z:Int)(t:Tok)(b:Nat)(t':Tok),v=.int z t->x=.int b t'->k m (.tok 0)=true->G):G:=by
 refine dI h ?_;intro h1 h;have:=cg.mp h1;subst this;refine fU r ?_;intro z t e;refine cw h s ?_;rintro b t' h e2 -;exact g z t b t' e e2 h
theorem rL:oY C .Add cI:=λP A kk Q E u w v x r s h K=>by
 have lis:Pv kk P.m u w=true->Tb (Tn C.prog C.w) A (binaryOp .Add v x) Q E P.s:=λh=>by
  refine gR h r ?_;rintro n xs a vs c g1 r1 hn-h rfl;refine gR h s ?_;rintro m ys b us c' g2 r2 hm-h rfl;subst hn hm;have rr:bG C P.R (app xs ys) (vs++us).toList:=by refine rwr U5 ?_;exact r1.append r2
  cases hb:az (tL u) false (tL w)with
  |false=>
   rw[hb]at h;refine ti (c:=0) K rr (by simp) (aE _ _) (aV _) (T9 _ rfl) h P.t ?_;intro hl q;rw[Vq]at q;exact PySem.P.add_list (s:=P.s) g1 g2 q (SV hl cQ)
  |true=>
   rw[hb]at h;refine dI h ?_;intro hl h;have hl:=SP hl;have q:=oj (c:=0) K rr (by simpa using hl) (aE _ _) (aV _) (T9 _ rfl) h P.t;rw[Vq]at q;exact PySem.P.add_list (s:=P.s) g1 g2 q (SV hl cQ)
 cases u with
 |nat a=>
  refine aw r ?_;clear r;rintro t rfl;refine cw h s ?_;clear h;rintro b t' h rfl -;exact PyProof.Rows.add_int (K.at (.int_ (X4 a b).symm) h _)
 |tok n=>
  refine mi (v:=v) h r s ?_;rintro z t b t' rfl rfl h;exact PyProof.Rows.add_int (K.at (u:=.tok 0) ⟨_,_,rfl⟩ h _)
 |ref q=>exact lis h
 |fl q=>exact lis h
 |_=>exact aD h
theorem vF{a:Int}(h:a.natAbs≤1000000):Builtin.Int.intBits a≤64:=by
 unfold Builtin.Int.intBits
 split
 ·exact TQ _
 ·rename_i h0;have h0:a.natAbs≠0:=by simp at h0;simp_all+arith
  have:a.natAbs.log2<63:=(Nat.log2_lt h0).mpr (U4 h (by decide));lia
theorem EG:oY C .Mult Jn:=λP A kk Q E u w v x r s h K=>qY r s h λa b t t' e1 e2 h=>by
 subst e1 e2;refine dI h ?_;clear h;intro h1 h;exact PyProof.Rows.mul_int (K.at (.int_ (Int.natCast_mul a b).symm) h _) (IntMulOk.of_left (vF (SP h1)))
theorem wB{b:Nat}{c:Bool}(h:az (SS b 0) c false=true){G:Prop}(k:b≠0->c=true->G):G:=by
 cases b with
 |zero=>exact aD h
 |succ b=>exact k (Nat.succ_ne_zero b) h
theorem qW{b:Nat}(h:b≠0):(b:Int)≠0:=λz=>h (Int.ofNat.inj z)
theorem zo{b r:Nat}(h:r<b):(b:Int)-1-(r:Int)=((b-(r+1):Nat):Int):=by
 rw[Int.ofNat_sub h,Int.sub_sub,Int.add_comm];rfl
theorem xl:oY C .Mod gS:=λP A kk Q E u w v x r s h K=>by
 refine cw h s ?_;clear h s;rintro b t' h rfl -;refine wB h ?_;clear h;intro h0 h;obtain⟨z,t,rfl,⟨a,rfl,_,h⟩|⟨a,rfl,_,h⟩⟩:=km h r
 ·exact PyProof.Rows.mod_int (qW h0) (K.at (.int_ (Int.ofNat_fmod a b).symm) h _)
 ·refine PyProof.Rows.mod_int (qW h0) (K.at (.int_ ?_) h _);have hm:a%b<b:=Uz _ (Nat.pos_of_ne_zero h0);show Int.fmod (Int.negSucc a) b=((b-(a%b+1):Nat):Int);refine rwr (Int.fmod_eq_emod_of_nonneg _ (by exact Vu (b+0))) (rwr (Int.negSucc_emod _ (Int.ofNat_lt.mpr (Nat.pos_of_ne_zero h0))) ?_);exact zo hm
theorem BP:oY C .FloorDiv Jq:=λP A kk Q E u w v x r s h K=>by
 refine cw h s ?_;clear h s;rintro b t' h rfl -;refine wB h ?_;clear h;intro h0 h;refine dI h ?_;clear h;intro h1 h;have h1:=SP h1;refine cw h r ?_;clear h r;rintro a t h rfl -;exact PyProof.Rows.floordiv_int (qW h0) (K.at (.int_ (Int.ofNat_fdiv a b).symm) h _) (.inl (PyProof.noPylong_small (by exact U4 h1 (TB (Te 1000000) 1072741823))))
theorem EF:oY C .Pow OH:=λP A kk Q E u w v x r s h K=>qY r s h λa b t t' e1 e2 h=>by
 refine dI h ?_;clear h;intro h1 h;refine dI h ?_;clear h;intro h2 h;cases cg.mp h1;cases cg.mp h2;subst e1 e2;exact PyProof.Rows.pow_int_small (by decide) (by decide) (by decide) (K.at (.int_ rfl) h _)
theorem fD{op:WZ}{k:KT->KV->KT}{a b:SQ}{x y:X}{p:Pos}(hk:oY C op k)(hx:bv C Γ a x)(hy:bv C Γ b y):bv C Γ (.BinOp a op b p) (bj k x y):=λF P en kk Q E R h K=>
 wpAny_BinOp (hx F P en _ _ E R h λP1 u v L r h1=>hy F P1 en _ _ E (R.later L) h1 λP2 w z L2 s h2=>hk P2 F.A kk Q E u w v z (r.later L2) s h2 (K.later (L.trans L2)))
theorem sD{a:SQ}{x:X}{p:Pos}(hx:bv C Γ a x):bv C Γ (.UnaryOp .USub a p) (eC x):=λF P en kk Q E R h K=>
 wpAny_UnaryOp (hx F P en _ _ E R h λP1 u v L r h1=>by
  obtain⟨z,t,rfl,⟨a,rfl,_,h⟩|⟨a,rfl,_,h⟩⟩:=km h1 r
  ·refine PyProof.Rows.neg_int ?_;cases a with
   |zero=>exact(K.later L).at (.int_ rfl) h _
   |succ m=>exact(K.later L).at .neg_ h _
  ·exact PyProof.Rows.neg_int ((K.later L).at (.int_ rfl) h _))
def oZ(C:Cx)(op:WZ)(k:KT->KV->KT):Prop:=∀(P:Pt C)(A:U6)(kk:KT)(Q:SU->SW->Prop)(E:SU->SW->Prop)(u:KV)(v:SU)(w:KV)(x:SU),
 (∃a,u=.nat a)∨(∃a,u=.tok a)->VR C P.R u v->VR C P.R w x->k kk u P.m w=true->Kp C C.vol P.R kk Q->Tb (Tn C.prog C.w) A (inplaceOp op v x) Q E P.s
theorem EK:oZ C .Add cI:=λP A kk Q E u v w x hu r s h K=>by
 rcases hu with zq|zq
 ·refine aw zq ?_;clear zq;rintro a rfl;refine aw r ?_;rintro t rfl;refine cw h s ?_;clear h;rintro b t' h rfl -;exact PyProof.Rows.iadd_int (K.at (.int_ (X4 a b).symm) h _)
 ·refine aw zq ?_;clear zq;rintro a rfl;refine mi (v:=v) h r s ?_;rintro z t b t' rfl rfl h;exact PyProof.Rows.iadd_int (K.at (u:=.tok 0) ⟨_,_,rfl⟩ h _)
theorem sL{P:Pt C}{kk:KT}{Q:SU->SW->Prop}{a b:Nat}(K:Kp C C.vol P.R kk Q)(h:az (T3 b a) (kk P.m (.neg (Um b (Te a)))) (kk P.m (.nat (Um a b)))=true)(t t':Nat):Q (.int ((a:Int)-b) t') ⟨P.R.h,C.g,C.d,t,C.os⟩:=by
 cases hb:T3 b a with
 |true=>rw[hb]at h;exact K.at (.int_ (by have:=SP hb;show(a:Int)-b=((a-b:Nat):Int);omega)) h _
 |false=>
  rw[hb]at h;have:a<b:=WM λz=>by rw[SY z]at hb;exact qd hb
  have e:(a:Int)-b=.negSucc (b-(a+1)):=by omega
  refine rwr e ?_;exact K.at .neg_ h _
theorem xk:oY C .Sub lP:=λP A kk Q E u w v x r s h K=>by
 cases u with
 |nat a=>
  refine aw r ?_;rintro t rfl;refine cw (i:=w) (f:=λb=>az (T3 b a) (kk P.m (.neg (Um b (Te a)))) (kk P.m (.nat (Um a b)))) h s ?_;rintro b t' h rfl rfl;exact PyProof.Rows.sub_int (sL K h _ _)
 |tok n=>
  refine mi (v:=v) h r s ?_;rintro z t b t' rfl rfl h;exact PyProof.Rows.sub_int (K.at (u:=.tok 0) ⟨_,_,rfl⟩ h _)
 |_=>exact aD h
theorem EJ:oZ C .Sub lP:=λP A kk Q E u v w x hu r s h K=>by
 rcases hu with zq|zq
 ·refine aw zq ?_;clear zq;rintro a rfl;refine aw r ?_;rintro t rfl;refine cw (i:=w) (f:=λb=>az (T3 b a) (kk P.m (.neg (Um b (Te a)))) (kk P.m (.nat (Um a b)))) h s ?_;rintro b t' h rfl rfl;exact PySem.P.isub_int (sL K h _ _)
 ·refine aw zq ?_;clear zq;rintro a rfl;refine mi (v:=v) h r s ?_;rintro z t b t' rfl rfl h;exact PySem.P.isub_int (K.at (u:=.tok 0) ⟨_,_,rfl⟩ h _)
end
end
section
set_option compiler.extract_closed false
section
open PySem PySem.W PyProof.Rows
variable{C:Cx}{Γ:d6}{R R':Wd}
theorem ie{α:Type}{a b:List (Str×α)}{n:Str}:(a++b).lookup n=(a.lookup n).or (b.lookup n):=List.lookup_append
theorem i9{α:Type}:∀{ns:List Str}{vs:List α}{i:Nat}{n:Str},ns.Nodup->ns[i]?=some n->(ns.zip vs).lookup n=vs[i]?
 |[],_,_,_,_,h=>by trivial
 |a::ns,[],_,_,_,_=>by rfl
 |a::ns,v::vs,0,n,_,h=>by cases h;simp
 |a::ns,v::vs,i+1,n,hd,h=>by
  have hn:n≠a:=λe=>(U3.mp hd).1 (e▸TM h);refine rwr List.zip_cons_cons (rwr U2 (rwr (beq_false_of_ne hn) ?_));exact i9 (U3.mp hd).2 h
theorem gU{α:Type}{S:List (Str×α)}:∀{ns:List Str}{ws:List α},ns.length=ws.length->(∀(i:Nat)(n:Str),ns[i]?=some n->S.lookup n=ws[i]?)->ns.filterMap (λn=>(S.lookup n).map (n,·))=ns.zip ws
 |[],_,_,_=>by simp
 |a::ns,[],h,_=>by exact X2 h
 |a::ns,w::ws,h,k=>by
  refine rwr List.filterMap_cons (rwr (k 0 a rfl) ?_);exact congrArg ((a,w)::·) (gU (Nat.succ.inj h) λi n e=>k (i+1) n e)
def qk(h:UT)(fd:X1)(ds:List SU):Prop:=(fd.defaults=.none∧ds=[])∨∃a items,fd.defaults=.ref a∧h.IsTuple a items∧items.toList=ds
structure js(ns:List Str)(par:Ux):Prop where
 pos:par.posonlyargs=[]
 vararg:par.vararg=none
 kwonly:par.kwonlyargs=[]
 kwarg:par.kwarg=none
 names:par.args.map (·.arg)=ns
 nodup:ns.Nodup
section
variable{α:Type}{M:Model}{A:U6}{Q:α->SW->Prop}{E:SU->SW->Prop}{s:SW}{c:Prop}[Decidable c]{x y:Sem α}
theorem Ct(h:¬c)(k:Tb M A y Q E s):Tb M A (if c then x else y) Q E s:=by refine rwr (if_neg h) ?_;exact k
end
theorem Py{i N D V:Nat}(hi:i<min (N-D) N)(h3:N≤V+D):i<N∧i<V:=⟨UW hi (Nat.min_le_right ..),UW (UW hi (Nat.min_le_left ..)) (Nat.sub_le_iff_le_add.mpr h3)⟩
theorem Gc{N V D:Nat}(h1:V≤N)(h2:D≤N)(h3:N≤V+D){G:Prop}(k:∀a b e,V=a+b->N=a+b+e->D=b+e->G):G:=by
 refine aw (Nat.exists_eq_add_of_le h1) ?_;clear h1;rintro e rfl;refine aw (Nat.exists_eq_add_of_le' (Nat.le_of_add_le_add_left h3)) ?_;clear h3;rintro b rfl;refine aw (Nat.exists_eq_add_of_le' (Nat.le_of_add_le_add_right h2)) ?_;clear h2;rintro a rfl;exact k a b e rfl rfl rfl
theorem BR(a b e:Nat):a+b+e-(b+e)=a∧a+b+e-(a+b)=e∧b+e-e=b:=⟨by rw[UM,Nat.add_sub_cancel],Ur ..,Nat.add_sub_cancel ..⟩
theorem MY{N V D:Nat}(h1:V≤N)(h2:D≤N)(h3:N≤V+D):N=V+(D-(D-(N-V))):=by
 refine Gc h1 h2 h3 ?_;clear h1 h2 h3;rintro a b e rfl rfl rfl;rw[(BR a b e).2.1,(BR a b e).2.2,Ur]
theorem Px{N V D i:Nat}(z:V≤i)(h1:V≤N)(h2:D≤N)(h3:N≤V+D):N-D+(i-(N-D))=i∧i-(N-D)=D-(N-V)+(i-V):=by
 refine Gc h1 h2 h3 ?_;clear h1 h2 h3;rintro a b e rfl rfl rfl;refine aw (Nat.exists_eq_add_of_le z) ?_;clear z;rintro c rfl;rw[(BR a b e).1,(BR a b e).2.1,(BR a b e).2.2,UM a b c,Ur,←UM a b c,Ur];exact⟨UM ..▸rfl,rfl⟩
section
variable{ns:List Str}{vals ds:List SU}(nd:ns.Nodup)(h3:ns.length≤vals.length+ds.length)
include nd h3
theorem AL:((ns.take (ns.length-ds.length)).filter λn=>((ns.zip vals).lookup n).isNone)=[]:=by
 rw[List.filter_eq_nil_iff];intro n hn;refine aw (W4.mp hn) ?_;intro i zq;refine aw zq ?_;clear zq;rintro hi rfl;rw[UR]at hi;have a:=Py hi h3;rw[List.getElem_take,i9 nd (T7 a.1),T7 a.2];exact Tq
theorem E8(h1:vals.length≤ns.length)(h2:ds.length≤ns.length){S:List (Str×SU)}(hS:∀n,S.lookup n=(ns.zip vals++(ns.drop (ns.length-ds.length)).zip ds).lookup n):ns.filterMap (λn=>(S.lookup n).map (n,·))=ns.zip (vals++ds.drop (ds.length-(ns.length-vals.length))):=by
 refine gU (by refine rwr Td (rwr Vg ?_);exact MY h1 h2 h3) λi n hi=>?_;rw[hS,ie,i9 nd hi];rcases Wt i vals.length with z|z
 ·refine rwr (Uk z) (rwr (T7 z) ?_);rfl
 ·have a:=Px z h1 h2 h3;rw[Ud z,Vp z,Wo,Option.none_or,i9 (i:=i-(ns.length-ds.length)) (nd.sublist (List.drop_sublist ..)) (by rw[Wo,a.1];exact hi),a.2]
end
theorem rK{M:Model}{A:U6}{E:SU->SW->Prop}{s:SW}{fd:X1}{ns:List Str}{vals ds:List SU}{Q:List (Str×SU)->SW->Prop}(P:js ns fd.params)(hd:qk s.heap fd ds)(h1:vals.length≤ns.length)(h2:ds.length≤ns.length)(h3:ns.length≤vals.length+ds.length)
  (q:Q (ns.zip (vals++ds.drop (ds.length-(ns.length-vals.length)))) s):Tb M A (bindArgs fd ⟨vals,[]⟩) Q E s:=by
 obtain⟨name,qual,⟨po,as,va,ko,kd,kw,dl⟩,body,scope,globals,closure,dfl,kwdefaults,doc,module,annotations,code,ct,builtins⟩:=fd;obtain⟨p1,p2,p3,p4,p5,nd⟩:=P;cases p1;cases p2;cases p3;cases p4;have p5:List.map (λx:Arg=>x.arg) []++as.map (λx:Arg=>x.arg)=ns:=p5;unfold bindArgs;have hseq:∀{R:Option (Array SU)->SW->Prop},(∀x,(x.getD #[]).toList=ds->R x s)->Tb M A (seqItems? dfl) R E s:=by
  intro R k;rcases hd with zq|zq
  ·refine ak zq ?_;clear zq;intro e e2;cases e;exact SR (k none (by rw[e2];rfl))
  ·refine aH zq ?_;clear zq;rintro a items e ⟨o,ho,_,n,hdat⟩ e2;cases e;exact WH ho hdat (k (some items) e2)
 refine SO (SR (SO (hseq λx hx=>?_)));dsimp only;rw[hx,p5,show ds.length-ns.length=0 by simp_all+arith,List.drop_zero];refine Ct (by simp;assumption) ?_;rw[AL nd h3,if_neg (by decide)];refine SO (VL _ (λrest(S:List (Str×SU)) s'=>s'=s∧∃d,(ns.drop (ns.length-ds.length)).zip ds=d++rest∧∀n,S.lookup n=(ns.zip vals++d).lookup n) _ ?_ ?_ _ _ ⟨rfl,[],rfl,λn=>by rw[Ul]⟩)
 ·rintro⟨nm,v⟩ rest S s' ⟨rfl,d,hz,hS⟩;refine Cu (λh=>SR ⟨rfl,d++[(nm,v)],by rw[hz];simp,λn=>?_⟩) λh=>SR ⟨rfl,d++[(nm,v)],by rw[hz];simp,λn=>?_⟩
  ·rw[←UP,ie,ie,hS]
  ·rw[←UP,ie,←hS];cases e:n==nm with
   |true=>
    cases eq_of_beq e;cases hl:S.lookup nm with
    |none=>rw[hl]at h;exact absurd rfl h
    |some x=>rfl
   |false=>rw[show[(nm,v)].lookup n=none by rw[U2,e];rfl,Option.or_none]
 ·rintro S s' ⟨rfl,d,hz,hS⟩;rw[Ul]at hz;refine SO (SR ?_);refine Ct (by simp) (SR ?_);rw[List.map_nil,Ul,E8 nd h3 h1 h2 (by rw[hz];exact hS)];exact q
end
end
section
set_option compiler.extract_closed false
section
open PySem PySem.W PyProof.Rows
variable{C:Cx}{Γ:d6}{R R':Wd}
noncomputable def cJ(C:Cx)(menv:Tt):List Tw:=menv.locals::(menv.cells.filterMap (λp=>menv.cells.lookup p.1)++C.vol)
def ND(F:dP C Γ)(fr:Fr)(k:En->K0)(P:Pt C):UL->Prop
 |.next=>∃en,ER F P.R en∧k en P.m=true
 |.brk=>∃en,ER F P.R en∧fr.brk en P.m=true
 |.cont=>∃en,ER F P.R en∧fr.cont en P.m=true
 |.ret v=>∃u,VR C P.R u v∧fr.ret P.m u=true
def KF(F:dP C Γ)(R:Wd)(fr:Fr)(k:En->K0)(Q:UL->SW->Prop):Prop:=∀(P:Pt C) fl,au (cJ C F.menv) R P.R->ND F fr k P fl->Q fl P.s
def C1(C:Cx)(Γ:d6)(y:Y)(w:Tt->Sem UL):Prop:=∀(F:dP C Γ)(P:Pt C)(fr:Fr)(k:En->K0)(en:En)(Q:UL->SW->Prop)(E:SU->SW->Prop),
 ER F P.R en->y F.cl fr k en P.m=true->KF F P.R fr k Q->Tb (Tn C.prog C.w) F.A (w F.menv) Q E P.s
abbrev du(C:Cx)(Γ:d6)(s:W8)(y:Y):Prop:=C1 C Γ y (exec s)
abbrev lI(C:Cx)(Γ:d6)(ss:List W8)(y:Y):Prop:=C1 C Γ y (execs ss)
theorem lF{k:En->Bool}:∀{xs:KV}{q:Pa}{e:En},jC xs q e k=true->∃e',k e'=true∧∀p x,tg p e'=some x->tg p e=some x∨∃i,aY p=aY q+i∧ng i xs=some x:=by
 intro xs;induction xs with
 |cons x r _ ih=>
  intro q e h;refine ag (ih (q:=qs q) (e:=tp q x e) h) ?_;intro e' h1 h2;refine⟨e',h1,λp y hy=>?_⟩;rcases h2 p y hy with z|zq
  ·by_cases w:p=q
   ·subst w;rw[aW]at z;exact .inr ⟨0,rfl,z⟩
   ·rw[am _ w]at z;exact .inl z
  ·refine ag zq ?_;clear zq;intro i z1 z2;exact .inr ⟨i+1,by rw[z1,jg];simp+arith,z2⟩
 |_=>exact λ{q e} h=>⟨e,h,λp x e=>.inl e⟩
theorem Kq{ns rest:List Str}{xs:KV}{vs:List SU}{en:En}{nm:Str}{q:Pa}{x:KV}(hm:Γ.m=ns++rest)(rs:bG C R xs vs)(he:∀p x,tg p en=some x->tg p .nil=some x∨∃i,aY p=aY .e+i∧ng i xs=some x)
  (h1:Γ.slot nm=some q) (h2:tg q en=some x):∃(i:Nat)(v:SU),(ns++rest)[i]?=some nm∧vs[i]?=some v∧VR C R x v:=by
 rcases he q x h2 with z|zq
 ·rw[dU]at z;exact dh z
 ·refine ag zq ?_;clear zq;intro i z1 z2;refine ag (iO h1) ?_;intro j a b;have:i=j:=by simp_all+arith
  subst this;refine ag (rs.get z2) ?_;intro v v1 v2;exact⟨i,v,hm▸a,v1,v2⟩
theorem xm{ns rest:List Str}{xs:KV}{vs:List SU}{en:En}{nm:Str}{q:Pa}{x:KV}(hm:Γ.m=ns++rest)(rs:bG C R xs vs)(he:∀p x,tg p en=some x->tg p .nil=some x∨∃i,aY p=aY .e+i∧ng i xs=some x)
 (h1:Γ.slot nm=some q) (h2:tg q en=some x) {G:Prop} (k:∀(i:Nat)(v:SU),(ns++rest)[i]?=some nm->vs[i]?=some v->VR C R x v->G):G:=aH (Kq hm rs he h1 h2) k
theorem vL{α:Type}{ns:List Str}{ws:List α}{i:Nat}{n:Str}{v:α}(h:ns[i]?=some n)(k:ws[i]?=some v):(n,v)∈ns.zip ws:=TM (Wv.mpr ⟨h,k⟩)
theorem kS{α:Type}{ns:List Str}{ws:List α}(h:ns.Nodup):((ns.zip ws).map (·.1)).Nodup:=by
 have:∀(ns:List Str)(ws:List α),((ns.zip ws).map (·.1)).Sublist ns:=by
  intro ns;induction ns with
  |nil=>intro ws;constructor
  |cons n ns ih=>
   intro ws;cases ws with
   |nil=>simp
   |cons w ws=>refine rwr List.zip_cons_cons (rwr US ?_);exact(ih ws).cons_cons n
 exact h.sublist (this ns ws)
theorem dH{x:Str}:∀{names:List (Str×V0)}{n:Nat}{acc:List (Str×Tw)},((x,NameKind.cell)∈names∨(acc.lookup x).isSome=true)->((cellsFrom n names acc).lookup x).isSome=true
 |[],n,acc,h=>h.elim nofun id
 |(nm,k)::r,n,acc,h=>by
  unfold cellsFrom
  split
  ·refine dH ?_;refine rwr U2 ?_;cases e:x==nm with
   |true=>exact .inr rfl
   |false=>exact h.imp (λh=>(T8.mp h).resolve_left λz=>by cases z;simp at e) id
  ·rename_i hk;exact dH (h.imp (λh=>(T8.mp h).resolve_left λz=>by cases z;exact hk rfl) id)
theorem oO{kd:Str->Option V0}{nm:Str}{v:SU}:∀{bs:List (Str×SU)}{m m':Str->Option SU},(nm∉bs.map (·.1)->PySem.bindL kd bs m nm=m nm∧PySem.bindC kd bs m' nm=m' nm)∧
  ((bs.map (·.1)).Nodup->(nm,v)∈bs->(kd nm=some .local->PySem.bindL kd bs m nm=some v)∧(kd nm=some .cell->PySem.bindC kd bs m' nm=some v))
 |[],_,_=>⟨λzz=>⟨rfl,rfl⟩,λzz h=>by cases h⟩
 |(n,u)::r,m,m'=>by
  have ih:=λm m'=>oO (kd:=kd) (nm:=nm) (v:=v) (bs:=r) (m:=m) (m':=m');unfold PySem.bindL PySem.bindC;refine⟨λh=>?_,λhd h=>?_⟩
  ·simp only[US,T8,not_or]at h;refine rwr (((ih _ m).1 h.2).1) (rwr (((ih m _).1 h.2).2) ?_)
   constructor<;>split<;>first|rfl|exact if_neg h.1
  ·rw[US,U3]at hd;rcases T8.mp h with e|e
   ·cases e;refine rwr (((ih _ m).1 hd.1).1) (rwr (((ih m _).1 hd.1).2) ?_);exact⟨λk=>by rw[if_pos k];exact if_pos rfl,λk=>by rw[if_neg (by rw[k];decide)];exact if_pos rfl⟩
   ·exact(ih _ _).2 hd.2 e
theorem au.leave{menv:Tt}{h1:UT}(k:bB R.h h1)(L:au (cJ C menv) ⟨R.ρ,h1,R.fz⟩ R')(hl:R.h.get? menv.locals=none)(hc:∀nm ca,(nm,ca)∈menv.cells->R.h.get? ca=none):au C.vol R R':=by
 refine((au.keeps _ k).trans L).strike λb hb=>?_;rcases T8.mp hb with rfl|hb
 ·exact .inr hl
 ·rcases UC.mp hb with hb|hb
  ·refine Nm hb ?_;rintro q-hq;exact .inr (hc _ _ (Th hq))
  ·exact .inl hb
structure yt(C:Cx)(a:Tw)(np:Nat)(ds:KV)(y:Y)(ob:Obj)(fd:X1)(bd:List W8)(dv:List SU)(ns rest:List Str):Prop where
 obj:C.h₀.get? a=some ob
 data:ob.data=.func fd
 body:fd.body=.stmts bd
 co:fd.scope.isCoroutine=false
 gen:fd.scope.isGenerator=false
 kind:fd.scope.kind=.function
 clo:fd.closure=[]
 glob:fd.globals=Tv
 bi:fd.builtins=Uh
 code:C.h₀.CodeRec fd.code fd.qualname
 pars:js ns fd.params
 np:ns.length=np
 defs:qk C.h₀ fd dv
 drel:∀R,bB C.h₀ R.h->bG C R ds dv
 dlen:dv.length≤ns.length
 kinds:∀n∈ns,fd.scope.names.lookup n=some .local∨fd.scope.names.lookup n=some .cell
 lam:fd.scope.names.lookup ("FP":Str)=some NameKind.local->∃c P,fd.code=.ref c∧P∈C.vol∧CodeHd C.h₀ c P∧C.volQ P=fd.qualname++".<locals>."++"<lambda>"
 nofree:∀x∈fd.scope.names,x.2≠.free
 snd:lI C ⟨λs=>fd.scope.names.lookup s,ns++rest,true,true⟩ bd y
theorem kL.push{fr:List Tt}{menv:Tt}{L:Tw}(G:∃μ,bP C R μ){h1:UT}(k:bB R.h h1)(h:kL C R fr)(h2:menv.scope.kind=.function)(h3:menv.frame=some L)(h4:R.h.get? L=none){m:Str->Option SU}(ns:h1.Ns L m):kL C ⟨R.ρ,h1,R.fz⟩ (menv::fr):=λf hf=>by
 refine aw G ?_;clear G;rintro μ G;rcases T8.mp hf with rfl|hf
 ·refine fL ns ?_;clear ns;rintro o es ep ho hd -;refine tT (G.dead h4) ?_;rintro a b-c;exact⟨by refine rwr h2 ?_;decide,L,o,es,ep,h3,a,c,b,ho,hd⟩
 ·exact h.later (au.keeps _ k) f hf
section
variable{P:Pt C}{Q:SU->SW->Prop}{E:SU->SW->Prop}{A:U6}{fr:List Tt}{k:KT}{xs:KV}{vs:List SU}{cl:Cl}{d:Nat}
def Rm(C:Cx)(R:Wd)(A:U6)(fr:List Tt)(d:Nat):Prop:=(A.depth+8*d<recursionLimit∧A.units+16*d+200<cLine∧A.handled=none∧A.frames=some fr∧A.guards=some [])∧kL C R fr
theorem B9{P₀:Pg}(O:C.Ok P₀){a:Tw}{np:Nat}{ds:KV}{y:Y}{ob:Obj}{fd:X1}{bd:List W8}{dv:List SU}{ns rest:List Str}(H:yt C a np ds y ob fd bd dv ns rest)(hc:Le C cl d)(rs:bG C P.R xs vs)(rm:Rm C P.R A fr (d+1))
  (h:Nt cl xs k P.m np ds y=true) (K:Kp C C.vol P.R k Q):codeAny (Tn C.prog C.w) A (.call (.ref a) ⟨vs,[]⟩) (jD Q E) P.s:=by
 refine ak rm ?_;clear rm;intro zq0 rf;refine j6 zq0 ?_;clear zq0;intro r1 r2 r3 r4 r5;refine dI h ?_;clear h;intro b1 h;refine dI h ?_;clear h;intro b2 h;have b1:=SP b1;have b2:=SP b2;refine ag (lF h) ?_;clear h;intro en h hen;have rd:=H.drel P.R P.good.keep;have e1:=rs.len_eq;have e2:=rd.len_eq;have e3:=H.np;have e4:=H.dlen;have b2:np-len xs≤len ds:=b2;rw[e1]at b1 b2;rw[e2]at b2;refine codeAny_call_function (by lia) (P.good.keep _ _ H.obj) H.data H.co H.gen H.body (H.code.keeps P.good.keep) ?_;have hdef:qk P.R.h fd dv:=H.defs.imp id λ⟨b,items,d1,⟨o,d2,d3⟩,d4⟩=>⟨b,items,d1,⟨o,P.good.keep _ _ d2,d3⟩,d4⟩
 have v1:vs.length≤ns.length:=H.np▸b1;have v3:ns.length≤vs.length+dv.length:=Nat.sub_le_iff_le_add'.mp (H.np▸b2);refine rK (s:=P.s) H.pars hdef v1 e4 v3 ?_;refine rwr H.clo ?_;have Aq:bG C P.R (app xs (drop (Um (len ds) (Um np (len xs))) ds)) (vs++dv.drop (dv.length-(ns.length-vs.length))):=by
  refine rwr e1 (rwr e2 (rwr e3 ?_));exact rs.append (rd.drop_ _)
 have lus:(vs++dv.drop (dv.length-(ns.length-vs.length))).length=ns.length:=by refine rwr Td (rwr Vg ?_);exact(MY v1 e4 v3).symm
 generalize vs++dv.drop (dv.length-(ns.length-vs.length))=us at Aq lus;have hnd:=kS (ws:=us) H.pars.nodup;refine wpAny_newFunctionEnv_cells H.kind (λx hx=>?_) λmenv hm s' X=>?_
 ·rcases H.kinds x.1 (WO (a:=x.1) (b:=x.2) hx).1 with q|q
  ·exact .inl q
  ·exact .inr ⟨q,dH (.inl (Th q))⟩
 refine fU X.toInCall.same ?_;rintro h1 t1 rfl;have keep:bB P.R.h h1:=X.toInCall.keep;have hloc:menv.locals=P.R.h.objs.size:=by refine rwr hm ?_;rfl
 have hscope:menv.scope=fd.scope:=by refine rwr hm ?_;rfl
 have hmc:menv.cells=cellsFrom (P.R.h.objs.size+1) fd.scope.names []:=by refine rwr hm ?_;rfl
 have deadL:P.R.h.get? menv.locals=none:=by refine rwr hloc ?_;exact aV _
 have deadC:∀nm ca,(nm,ca)∈menv.cells->P.R.h.get? ca=none:=λnm ca hc=>by
  have:=X.above nm ca hc;rw[hloc]at this;exact Ug (V9 this)
 have hkind:∀nm,menv.kindOf nm=fd.scope.names.lookup nm:=λnm=>by unfold Env.kindOf;exact rwr hscope rfl
 have room:ES C (A.deeper menv) (menv::fr) d:=⟨by show A.depth+1+_+_<_;lia,by show A.units+3+_+_<_;lia,by show A.frames.map _=_;refine rwr r4 ?_;rfl,r5⟩
 have cdom:∀nm,fd.scope.names.lookup nm=some .cell->(menv.cells.lookup nm).isSome=true:=λnm hk=>by refine rwr hmc ?_;exact dH (.inl (Th hk))
 have G:=P.good.dead deadL
 let F:dP C ⟨λs=>fd.scope.names.lookup s,ns++rest,true,true⟩:={
  menv:=menv,A:=A.deeper menv,cl:=cl,d:=d,fr:=menv::fr,kind:=by refine rwr hscope ?_;exact H.kind,kof:=hkind,glob:=by refine rwr hm ?_;exact H.glob,bi:=by refine rwr hm ?_;exact H.bi
  lold:=G.1,lvol:=G.2.2.2
  cell:=λnm ca hc=>let m:=Th hc;let z:=P.good.dead (deadC nm ca m);⟨z.1,z.2.2.2,V8 (X.above nm ca m)⟩
  inj:=λnm nm' ca hc hc'=>name_of_addr X.apart (Th hc) (Th hc')
  cdom:=λnm h=>h.elim (cdom nm) λz=>absurd rfl (H.nofree _ (Th z)),room:=room,handled:=λzz=>r3,top:=λzz=>⟨fr,rfl⟩,call:=hc
  lam:=λhl=>by
   refine dG (H.lam hl) ?_;intro c P c1 c2 c3 c4;exact⟨c,P,by refine rwr hm ?_;exact c1,c2,c3,by refine rwr hm ?_;exact c4⟩}
 have L0:∀X,au X P.R ⟨P.R.ρ,h1,P.R.fz⟩:=λX=>.keeps X keep;have er:ER F ⟨P.R.ρ,h1,P.R.fz⟩ en:=by
  refine⟨⟨_,X.toInCall.ns,λnm q x hs hx=>?_⟩,G.2.1,λnm ca hc=>?_,kL.push ⟨_,P.good⟩ keep rf (by refine rwr hscope ?_;exact H.kind) (by refine rwr hm ?_;rfl) deadL X.toInCall.ns⟩
  ·refine xm (Γ:=⟨λs=>fd.scope.names.lookup s,ns++rest,true,true⟩) rfl Aq hen hs hx ?_;intro i v i1 i2 rv;have hi:=(To.mp i2).1;rw[Uk (by simp_all+arith)]at i1;have z:=(oO (kd:=menv.kindOf) (m:=λzz=>none) (m':=λzz=>none)).2 hnd (vL i1 i2);rcases H.kinds nm (TM i1)with q|q
   ·exact .inl ⟨q,v,z.1 ((hkind nm).trans q),rv.later (L0 [])⟩
   ·refine KE (cdom nm q) ?_;intro ca hca;refine ag (X.cell nm ca hca) ?_;intro oc hoc hdc;rw[z.2 ((hkind nm).trans q)]at hdc;exact .inr ⟨.inl q,ca,oc,v,hca,hoc,hdc,rv.later (L0 [])⟩
  ·have dead:=deadC nm ca (Th hc);refine ag (X.cell nm ca hc) ?_;intro oc hoc hdc;have z:=P.good.dead dead;exact⟨z.2.1,⟨oc,_,hoc,hdc⟩,λzz=>z.2.2.1⟩
 refine⟨O.nolimit.keeps (λb o e=>keep b o (P.good.keep b o e)),codeAny_func ?_⟩;refine H.snd F (P.more keep t1) _ _ en _ _ er h λP1 fl L1 hf=>?_;have L2:au C.vol P.R P1.R:=au.leave keep L1 deadL deadC;cases fl with
 |ret v=>refine ag hf ?_;clear hf;intro u ru hu;exact K P1 u v L2 ru hu
 |next=>refine ag hf ?_;clear hf;rintro _-hu;exact K P1 .none .none L2 .none_ hu
 |brk=>refine ag hf ?_;clear hf;rintro _-hu;exact aD hu
 |cont=>refine ag hf ?_;clear hf;rintro _-hu;exact aD hu
end
end
end
section
set_option compiler.extract_closed false
section
open PySem PySem.W PyProof.Rows
variable{C:Cx}{Γ:d6}{R R':Wd}
theorem li{sc:Vv}{nm:Str}:nm∈frees sc↔(nm,TZ)∈sc.names:=by
 unfold frees
 constructor
 ·intro h;refine rO h ?_;rintro zq0 h1 rfl;rcases zq0 with⟨n,k⟩
  refine ak (WR.mp h1) ?_;intro h2 h3;have:k=.free:=by simpa using h3
  exact this▸h2
 ·exact λh=>UO.mpr ⟨_,WR.mpr ⟨h,rfl⟩,rfl⟩
theorem jx{α:Type}:∀{l:List (Str×α)}{x:Str}{a:α},(l.map (·.1)).Nodup->(x,a)∈l->l.lookup x=some a
 |[],_,_,_,h=>by cases h
 |p::r,x,a,hd,h=>by
  rw[US,U3]at hd;refine rwr U2 ?_;rcases T8.mp h with e|e
  ·subst e;simp
  ·refine rwr (beq_false_of_ne (λz:x=p.1=>hd.1 (z▸VE (f:=(·.1)) e))) ?_;exact jx hd.2 e
theorem bG.of_app:∀{x y:KV}{vs us:List SU},bG C R x vs->bG C R y us->len (app x y)=vs.length+us.length:=λa b=>by exact rwr ((a.append b).len_eq) (rwr Td rfl)
theorem vz{P:Pt C}{p q:Pa}{cs:KV}{pe:iK}(hp:tg p P.m.h=some (KO.clo q cs))(hpe:P.R.ρ p=some pe):eX C P.R (KO.clo q cs) pe:=by
 refine ag (P.good.dom p pe hpe) ?_;intro o' ho' r;cases hp.symm.trans ho';exact r
structure C4(C:Cx)(par:Ux)(e:SQ)(sc:Vv)(np:Nat)(x:X)(ns:List Str):Prop where
 pars:js ns par
 np:ns.length+(frees sc).length=np
 co:sc.isCoroutine=false
 gen:sc.isGenerator=false
 kind:sc.kind=.function
 kinds:∀n∈ns,sc.names.lookup n=some .local
 frk:∀n∈frees sc,sc.names.lookup n=some .free
 nocell:∀x∈sc.names,x.2≠.cell
 nofp:sc.names.lookup ("FP":Str)≠some .local
 snd:bv C ⟨λs=>sc.names.lookup s,ns++frees sc,true,false⟩ e x
section
variable{P:Pt C}{Q:SU->SW->Prop}{E:SU->SW->Prop}{A:U6}{fr:List Tt}{k:KT}{ys cs:KV}{vs:List SU}{cl:Cl}{d:Nat}
theorem xX{P₀:Pg}(O:C.Ok P₀){par:Ux}{e:SQ}{sc:Vv}{np:Nat}{x:X}{ns:List Str}(H:C4 C par e sc np x ns){p q:Pa}{a:Tw}(hl:C.lam q=some (par,e,sc))(hp:tg p P.m.h=some (KO.clo q cs))(ra:VR C P.R (KV.ref p) (Vk a))(hc:Le C cl d)(rs:bG C P.R ys vs)(rm:Rm C P.R A fr (d+1))
  (h:Qi cl (app ys cs) k P.m np x=true) (K:Kp C C.vol P.R k Q):codeAny (Tn C.prog C.w) A (.call (.ref a) ⟨vs,[]⟩) (jD Q E) P.s:=by
 refine ak rm ?_;clear rm;intro zq0 rf;refine j6 zq0 ?_;clear zq0;intro r1 r2 r3 r4 r5;refine dI h ?_;clear h;intro b1 h;have b1:=cg.mp b1;refine ag (lF h) ?_;clear h;intro en h hen;refine ag ra ?_;clear ra;intro pe hpe e';cases e';refine ak (vz hp hpe) ?_;rintro -zq;refine dG zq ?_;clear zq;intro fd ob hob hcls hdat T;refine ag T.lam ?_;intro e2 t1 t2;cases hl.symm.trans t1;refine aM T.caps ?_;intro cvs c1 c2 c3;have e3:=H.np;rw[rs.of_app c1]at b1;have hvl:vs.length=ns.length:=by lia
 refine kla_callFunE (by lia) hob hdat H.co H.gen t2 T.code ?_;refine rK (s:=P.s) (ds:=[]) H.pars (.inl ⟨T.dflt,rfl⟩) (by simp_all+arith) (TQ _) (by simp_all+arith) ?_;rw[List.drop_nil,Ul];have hnd:=kS (ws:=vs) H.pars.nodup;refine wpAny_newFunctionEnv H.nocell (λx hx=>H.kinds _ (WO (a:=x.1) (b:=x.2) hx).1) (λh1 hns1 hsb=>?_) H.kind;have hloc:∀{b c d f},(newEnv fd.scope P.s.heap.objs.size fd.globals fd.closure b c d none f).locals=P.R.h.objs.size:=rfl;generalize hm:newEnv fd.scope P.s.heap.objs.size fd.globals fd.closure (fd.qualname++".<locals>.") (some pe.fst) fd.code none fd.builtins=menv;have hloc:menv.locals=P.R.h.objs.size:=by refine rwl hm ?_;rfl
 have hscope:menv.scope=fd.scope:=by refine rwl hm ?_;rfl
 have hcells:menv.cells=fd.closure:=by refine rwl hm ?_;rfl
 have keep:bB P.R.h h1:=λb o e=>hsb.extBut b o (UU (Ui e)) (TX _ e);have deadL:P.R.h.get? menv.locals=none:=by refine rwr hloc ?_;exact aV _
 have hkind:∀nm,menv.kindOf nm=fd.scope.names.lookup nm:=λnm=>by unfold Env.kindOf;exact rwr hscope rfl
 have room:ES C (A.deeper menv) (menv::fr) d:=⟨by show A.depth+1+_+_<_;lia,by show A.units+3+_+_<_;lia,by show A.frames.map _=_;refine rwr r4 ?_;rfl,r5⟩
 have G:=P.good.dead deadL;have frz:∀nm ca,(nm,ca)∈fd.closure->fh P.R ca∧C.asg nm=false:=λnm ca hc=>let z:=T.keep _ hc;⟨⟨p,pe,hpe,z.1⟩,z.2⟩;have fz:∀nm ca,(nm,ca)∈fd.closure->C.h₀.get? ca=none∧ca∉C.vol∧ca≠menv.locals∧¬dN P.R ca:=λnm ca hc=>by
  have z:=(frz nm ca hc).1;refine aH (P.good.frz ca z) ?_;intro oc v f1 f2 f3;refine⟨f3,λhv=>?_,λw=>nn deadL (w▸f1),λw=>P.good.notFrozen w z⟩;refine ag (P.good.vol ca hv) ?_;rintro ps e4 -;rw[f1]at e4;cases e4;exact Ta f2
 let F:dP C ⟨λs=>fd.scope.names.lookup s,ns++frees fd.scope,true,false⟩:={
  menv:=menv,A:=A.deeper menv,cl:=cl,d:=d,fr:=menv::fr,kind:=by refine rwr hscope ?_;exact H.kind,kof:=hkind,glob:=by refine rwl hm ?_;exact T.glob,bi:=by refine rwl hm ?_;exact T.bi
  lold:=G.1,lvol:=G.2.2.2
  cell:=λnm ca hc=>let z:=fz nm ca (Th (hcells▸hc));⟨z.1,z.2.1,z.2.2.1⟩
  inj:=λnm nm' ca hc hc'=>T.inj nm nm' ca (hcells▸hc) (hcells▸hc')
  cdom:=λnm hk=>hk.elim (λhk=>absurd rfl (H.nocell _ (Th hk))) λhk=>by
   refine aw (WQ.mp (li.mpr (Th hk))) ?_;intro i hi;have hl:=(To.mp hi).1;refine aL (c3 i nm (cvs[i]'(by simp_all+arith)) hi (T7 _)) ?_;rintro ca oc z1 -;show(menv.cells.lookup nm).isSome=true;refine rwr hcells (rwr z1 ?_);rfl
  room:=room,handled:=λzz=>r3,top:=λh=>(by exact aD h),call:=hc
  lam:=λhl=>absurd hl H.nofp}
 have L0:∀X,au X P.R ⟨P.R.ρ,h1,P.R.fz⟩:=λX=>.keeps X keep;have er:ER F ⟨P.R.ρ,h1,P.R.fz⟩ en:=by
  refine⟨⟨_,by show h1.Ns menv.locals _;refine rwr hloc ?_;exact hns1,λnm q x hs hx=>?_⟩,G.2.1,λnm ca hc=>?_,kL.push ⟨_,P.good⟩ keep rf (by refine rwr hscope ?_;exact H.kind) (by refine rwl hm ?_;rfl) deadL (by refine rwr hloc ?_;exact hns1)⟩
  ·refine xm (Γ:=⟨λs=>fd.scope.names.lookup s,ns++frees fd.scope,true,false⟩) rfl (rs.append c1) hen hs hx ?_;intro i v i1 i2 rv;rcases Wt i ns.length with hi|hi
   ·rw[Uk hi]at i1;rw[Uk (by simp_all+arith)]at i2;exact .inl ⟨H.kinds nm (TM i1),v,jx (by refine rwr List.map_reverse ?_;exact(List.reverse_perm _).nodup_iff.mpr hnd) (List.mem_reverse.mpr (vL i1 i2)),rv.later (L0 [])⟩
   ·rw[Vp hi]at i1;rw[Vp (by simp_all+arith),hvl]at i2;refine aH (c3 _ nm v i1 i2) ?_;intro ca oc z1 z2 z3;exact .inr ⟨.inr (H.frk nm (TM i1)),ca,oc,v,hcells▸z1,keep _ _ z2,z3,rv.later (L0 [])⟩
  ·have hc':=Th (hcells▸hc:fd.closure.lookup nm=some ca);refine ak (frz nm ca hc') ?_;intro z za;refine aH (P.good.frz ca z) ?_;rintro oc v f1 f2 -;exact⟨(fz nm ca hc').2.2.2,⟨oc,v,keep _ _ f1,f2⟩,λw=>by rw[za]at w;exact aD w⟩
 refine⟨O.nolimit.keeps (λb o e=>keep b o (P.good.keep b o e)),kla_codeExpr ?_⟩;exact H.snd F (P.more keep _) en _ _ _ er h λP1 u v L1=>K P1 u v ((L0 _).trans L1)
end
def ug(C:Cx)(tab:T Code):Prop:=∀q f,tg q tab=some f->match f with
 |.fn np ds y=>C.lam q=none∧∀a,C.fnAt q=some a->∃ob fd bd dv ns rest,yt C a np ds y ob fd bd dv ns rest
 |.lam np x=>C.fnAt q=none∧∀par e sc,C.lam q=some (par,e,sc)->∃ns,C4 C par e sc np x ns
theorem BO{P₀:Pg}(O:C.Ok P₀){tab:T Code}(H:ug C tab):∀d,Le C (aT tab d) d:=by
 intro d;induction d with
 |zero=>intro q a xs vs A fr P k Q E h;exact h.elim (λz=>aD z.2.2) λz=>aH z λp cs a b z=>aM z λys a b z=>aD z
 |succ d ih=>
  intro q a xs vs A fr P k Q E h r1 rf K;rcases h with zq|zq
  ·refine bf zq ?_;clear zq;intro ha rs h;refine aB h ?_;clear h;intro f h hf;have T:=H q f hf;cases f with
   |fn np ds y=>
    refine FM (T.2 a ha) ?_;intro ob fd bd dv ns rest T;exact B9 O T ih rs ⟨r1,rf⟩ h K
   |lam np x=>exact(nn T.1 ha).elim
  ·refine aH zq ?_;clear zq;intro p cs hp ra zq;refine aM zq ?_;clear zq;rintro ys rs rfl h;refine aB h ?_;clear h;intro f h hf;have T:=H q f hf;refine ag (id ra) ?_;rintro pe hpe -;refine ak (vz hp hpe) ?_;rintro -zq;refine dG zq ?_;clear zq;intro fd ob hob hcls hdat Z;refine ag Z.lam ?_;rintro e z -;cases f with
   |fn np ds y=>exact(nn T.1 z).elim
   |lam np x=>
    refine aw (T.2 _ _ _ z) ?_;intro ns T;exact xX O T z hp ra ih rs ⟨r1,rf⟩ h K
end
end
section
set_option compiler.extract_closed false
section
open PySem PySem.W PyProof.Rows
variable{C:Cx}{Γ:d6}{R R':Wd}
noncomputable def d8(es:List SQ):Bool:=es.all λe=>!bx e
theorem nH{pos:Pos}{menv:Tt}:∀{es:List SQ},d8 es=true->(backTo pos (starEach es menv)).any (·.1)=false
 |[],_=>rfl
 |e::r,h=>by
  refine iJ h ?_;intro a b;rw[iN (by simpa using a)];exact nH (pos:=pos) b
def lW(M:Model)(g:SU)(P:UT->Prop):Prop:=∀h,P h->∃k,(k=Keeper.frame∨k=Keeper.machine∨k=Keeper.boundFrame)∧Looks M h (keeperOf g) k
theorem AY{a:Tw}:lW (Tn C.prog C.w) (.ref a) (λh=>∃o fd,h.get? a=some o∧o.data=.func fd):=by
 intro h zq;refine aL zq ?_;clear zq;rintro⟨c,d,dt,sl⟩ fd ho hd;dsimp only at hd;subst hd;exact⟨.frame,.inl rfl,(Looks.ld (part:=none) ho).andThen .now⟩
section
variable{F:dP C Γ}{P:Pt C}{en:En}{Q:SU->SW->Prop}{E:SU->SW->Prop}{args:List SQ}{x:X}
theorem jB{Pp:UT->Prop}{g:SU}{first:List SU}(hk:lW (Tn C.prog C.w) g Pp){pos:Pos}{k:KT}(hs:d8 args=true)(hx:kK C Γ args x)(er:ER F P.R en)(h:x F.cl en k P.m=true)
  (q:∀(P':Pt C)(u:KV)(vs:List SU),au C.vol P.R P'.R->bG C P'.R u vs->vs.length=args.length->k P'.m u=true->Pp P'.R.h∧Tb (Tn C.prog C.w) F.A (call g (first++vs)) Q E P'.s):
  Tb (Tn C.prog C.w) F.A (callWith pos g first (backTo pos (starEach args F.menv)) []) Q E P.s:=by
 refine callWith_of (P:=Pp) (by refine rwr (nH hs) ?_;rfl) hk ?_;have key:=hx F P en k pos (λvs s=>Pp s.heap∧Tb (Tn C.prog C.w) F.A (call g (first++vs)) Q E s) E er h q;cases args with
 |nil=>
  unfold evalArgs;show Tb _ _ (spliced []>>=_) _ _ _;exact SO (UJ key (λvs s q=>SO (SR (TH (SO (SR (SO (SR (SR q)))))))) λZ Z e=>e)
 |cons e rest=>
  rw[iN (by simpa using(Ts.mp hs).1)]at key ⊢;exact Calls.evalArgs_plain key
noncomputable def B5:SQ->Bool
 |.Attribute _ _ _=>true
 |_=>false
theorem fV{g:SQ}{pos:Pos}{menv:Tt}(h:B5 g=false):eval (.Call g args [] pos) menv=(do callWith pos (←eval g menv) [] (backTo pos (starEach args menv)) (backToKw pos (keywordEach [] menv))):=by
 cases g<;>first|rfl|exact qd h
theorem dP.rm(F:dP C Γ)(lo:Γ.loud=true):F.A.depth+8*F.d+4<recursionLimit∧F.A.units+16*F.d+212<cLine∧F.A.handled=none∧F.A.frames=some F.fr∧F.A.guards=some []:=⟨F.room.depth,F.room.units,(F.handled lo),F.room.frames,F.room.guards⟩
theorem dP.go(F:dP C Γ)(lo:Γ.loud=true){A:U6}(hA:A.depth≤F.A.depth+4∧A.units≤F.A.units+12∧A.handled=F.A.handled∧A.frames=F.A.frames∧A.guards=F.A.guards)(er:ER F P.R en){q:Pa}{a:Tw}{xs:KV}{vs:List SU}{k:KT}(ha:C.fnAt q=some a)(rs:bG C P.R xs vs)(h:F.cl q xs k P.m=true)(K:Kp C C.vol P.R k Q):
  codeAny (Tn C.prog C.w) A (.call (.ref a) ⟨vs,[]⟩) (jD Q E) P.s:=by
 refine j6 (F.rm lo) ?_;intro a1 a2 a3 a4 a5;refine j6 hA ?_;clear hA;intro b1 b2 b3 b4 b5;exact F.call q a xs vs A F.fr P k Q E (.inl ⟨ha,rs,h⟩) ⟨by lia,by lia,b3.trans a3,b4.trans a4,b5.trans a5⟩ er.fr K
theorem dP.here(F:dP C Γ):F.A.depth≤F.A.depth+4∧F.A.units≤F.A.units+12∧F.A.handled=F.A.handled∧F.A.frames=F.A.frames∧F.A.guards=F.A.guards:=⟨TC _ _,TC _ _,rfl,rfl,rfl⟩
end
section
variable{P₀:Pg}(O:C.Ok P₀){args:List SQ}{x:X}{nm:Str}{p pos:Pos}
omit O in
theorem eE{F:dP C Γ}{P:Pt C}{v:SU}{Q:SU->SW->Prop}{E:SU->SW->Prop}(ld:jb C nm v)(hk:Γ.kd nm=some .globalImplicit)(hd:(nm==("__debug__":Str))=false)(q:Q v P.s):Tb (Tn C.prog C.w) F.A (eval (.Name nm p) F.menv) Q E P.s:=
 Wi F.kind ((F.kof nm).trans hk) (ld F.A _ _ P.s F.menv F.glob F.bi P.good.keep q) hd
include O
theorem xF(lo:Γ.loud=true){q:Pa}(hg:P₀.gl nm=some (.fn q))(hk:Γ.kd nm=some .globalImplicit)(hd:(nm==("__debug__":Str))=false)(hs:d8 args=true)(hx:kK C Γ args x):bv C Γ (.Call (.Name nm p) args [] pos) (b8 q x):=λF P en k Q E R h K=>by
 refine ag (O.fn nm q hg) ?_;intro a ha ld;refine rwr (fV rfl) ?_;refine SO (eE ld hk hd (jB (Pp:=λh=>C.K.In h) (keeps_K (O.kpf q a ha)) hs hx R h λP1 u vs L1 r1 Z h1=>⟨O.K.keeps P1.good.keep,?_⟩));exact wpAny_call (F.go lo F.here (R.later L1) ha r1 h1 (K.later L1))
omit O in
theorem qE(a:Tw)(rest:List SU):(Code.builtin "type.__call__" ⟨.ref a::rest,[]⟩).weight≤2∧(Code.builtin "type.__call__" ⟨.ref a::rest,[]⟩).cUnits≤4∧(Code.builtin "type.__call__" ⟨.ref a::rest,[]⟩).guards=[]:=by
 have hg:(Code.builtin "type.__call__" ⟨.ref a::rest,[]⟩).isGuard=false:=by
  show guardIds.contains "type.__call__"=false;decide+kernel
 have hf:(Code.builtin "type.__call__" ⟨.ref a::rest,[]⟩).frames=0:=rfl
 constructor
 ·unfold Code.weight;refine rwr hf (rwr hg ?_);first|exact TA _|exact U8 _|exact TQ _|decide
 ·refine⟨?_,by unfold Code.guards;refine rwr hg ?_;rfl⟩;show 1+3*(Code.builtin "type.__call__" ⟨.ref a::rest,[]⟩).frames≤4;refine rwr hf ?_;exact VI _
theorem CO(lo:Γ.loud=true){c0:Nat}{q:Pa}(hg:P₀.gl nm=some (.cls c0 q))(hk:Γ.kd nm=some .globalImplicit)(hd:(nm==("__debug__":Str))=false)(hs:d8 args=true)(hx:kK C Γ args x):bv C Γ (.Call (.Name nm p) args [] pos) (qv c0 q x):=λF P en k Q E R h K=>by
 refine d9 (O.cls nm c0 q hg) ?_;intro a ha ld hmk zq;refine aM zq ?_;clear zq;intro f hf1 hf2 hf3;rw[fV rfl];refine SO (eE ld hk hd (jB (Pp:=λh=>C.K.In h) (keeps_K (O.kpc c0 a ha)) hs hx R h λP1 u vs L1 r1 Z h1=>⟨O.K.keeps P1.good.keep,?_⟩));rw[List.nil_append];have X:C.K.In P1.R.h:=O.K.keeps P1.good.keep;refine wpAny_call (make_core (makes_of X hmk) (looks_findIn X hf1) (λself=>bind_fn X self hf2) (.inl rfl) ?_);have kp:bB P1.R.h ((P1.R.h.push emptyDict).push (instObj a P1.R.h.objs.size)):=λb o e=>aE _ _ b o (aE _ _ b o e);have g1:((P1.R.h.push emptyDict).push (instObj a P1.R.h.objs.size)).get? (P1.R.h.objs.size+1)=some (instObj a P1.R.h.objs.size):=by
  rw[←VV P1.R.h emptyDict];exact T9 _ rfl
 have g2:((P1.R.h.push emptyDict).push (instObj a P1.R.h.objs.size)).get? P1.R.h.objs.size=some emptyDict:=aE _ _ _ _ (T9 _ rfl);refine bf (P1.good.new0 (o:=.inst c0 .nil) (a:=P1.R.h.objs.size+1) (b:=P1.R.h.objs.size) kp (Ug (U8 _)) (aV _)
  λL=>⟨a,ha,g1,[],0,g2,rfl,λnm=>by
   cases e:C.sl nm with
   |none=>trivial
   |some q=>show oU _ (tg q .nil) none;rw[dU];trivial,[],Vt,rfl,λZ h=>by cases h⟩) ?_;intro G' L' r'
 refine bf (qE a vs) ?_;intro w1 w2 w3;have L2:=L1.trans (L' C.vol);refine codeAny_mono (F.go lo (A:=F.A.under (.builtin "type.__call__" ⟨.ref a::vs,[]⟩)) (P:=⟨_,_,P1.t,G'⟩) ⟨by show F.A.depth+_≤_;lia,by show F.A.units+_≤_;lia,rfl,rfl,?_⟩ (R.later L2) hf3 (.cons_ r' (r1.later (L' []))) h1 (Q:=λv s=>InitBack (P1.R.h.objs.size+1) (jD Q E) (.ok (.ret v)) s) (E:=λe s=>InitBack (P1.R.h.objs.size+1) (jD Q E) (.error e) s) λP2 u2 v2 L3 r3 h3=>?_) λr s z=>?_
 ·show pushGuards (Code.builtin "type.__call__" ⟨.ref a::vs,[]⟩).guards F.A.guards=_;refine rwr w3 ?_;rfl
 ·cases u2<;>try exact aD h3
  cases r3;exact⟨rfl,K P2 _ _ (L2.trans L3) (r'.later L3) h3⟩
 ·rcases r with e|(v|_|_|_)<;>exact z
omit O in
theorem xS{f:Pa->KV->Bool}{o:KO}(h:Fi f o=true):∃q cs,o=.clo q cs∧f q cs=true:=by
 cases o with
 |clo q cs=>exact⟨q,cs,rfl,h⟩
 |_=>exact aD h
omit O in
theorem xZ{v:SU}:lW (Tn C.prog C.w) v (λh=>∃a,v=.ref a∧∃o fd,h.get? a=some o∧o.data=.func fd):=by
 intro h zq;refine ag zq ?_;clear zq;rintro a rfl z;exact AY h z
omit O in
theorem xD(lo:Γ.loud=true){g:SQ}{y:X}(hy:bv C Γ g y)(hg:B5 g=false)(hs:d8 args=true)(hx:kK C Γ args x):bv C Γ (.Call g args [] pos) (qw y x):=λF P en k Q E R h K=>by
 refine rwr (fV hg) ?_;refine SO (hy F P en _ _ E R h λP1 u v L1 r1 h1=>jB xZ hs hx (R.later L1) h1 λP2 w vs L2 r2 Z h2=>?_);have r1:=r1.later L2;refine bw h2 r1 ?_;clear h2;rintro q p hp h2 rfl rfl;refine aB h2 ?_;clear h2;intro o h2 ho;refine aL (xS h2) ?_;clear h2;rintro q' cs rfl h2;refine ak (vz ho hp) ?_;rintro -zq;refine dG zq ?_;clear zq;rintro fd ob hob-hdat -;refine⟨⟨_,rfl,ob,fd,hob,hdat⟩,wpAny_call ?_⟩;refine bf (F.rm lo) ?_;intro a1 a2 a3;exact F.call _ _ _ _ F.A F.fr P2 k Q E (.inr ⟨q,cs,ho,r1,w,r2,rfl,h2⟩) ⟨by lia,by lia,a3⟩ (R.later (L1.trans L2)).fr (K.later (L1.trans L2))
omit O in
theorem JC{menv:Tt}(h:d8 args=true)(hl:T3 args.length 19=true):methodCallForm (args.length+([]:List Keyword).length) (backTo pos (starEach args menv)) (backToKw pos (keywordEach [] menv))=true:=by
 have hl:=SP hl;have hp:=nH (pos:=pos) (menv:=menv) h;have:∀l:List (Bool×Sem SU),l.any (·.1)=false->l.all (λx=>!x.1)=true:=λl h=>by
  rw[List.any_eq_false]at h;exact TP.mpr λx hx=>by simpa using h x hx
 show((backTo pos (starEach args menv)).all (λx=>!x.1)&&true&&decide (args.length+0+0<30))=true;refine rwr (this _ hp) (rwr (decide_eq_true (by exact U4 hl (TB (Te 19) 10))) ?_);rfl
noncomputable def cP(ap pos:Pos):Bool:=ap.endLine==pos.line
omit O in
theorem mw{F:dP C Γ}{P:Pt C}{en:En}{Q:SU->SW->Prop}{E:SU->SW->Prop}{o:SQ}{v g:SU}{first:List SU}{Pp:UT->Prop}{ap:Pos}{k:KT}(hg:∀{pl:Sem Bool}{Q:SU×List SU->SW->Prop}{t:Nat},Q (g,first) (P.tick t).s->Tb (Tn C.prog C.w) F.A (getMethod v nm pl) Q E (P.tick t).s)(hk:lW (Tn C.prog C.w) g Pp)
  (hs:d8 args=true) (hl:T3 args.length 19=true) (hp:cP ap pos=true) (hx:kK C Γ args x) (er:ER F P.R en) (h:x F.cl en k P.m=true)
  (q:∀(P':Pt C)(u:KV)(vs:List SU),au C.vol P.R P'.R->bG C P'.R u vs->vs.length=args.length->k P'.m u=true->Pp P'.R.h∧Tb (Tn C.prog C.w) F.A (call g (first++vs)) Q E P'.s):
  Tb (Tn C.prog C.w) F.A (methodCall o nm ap pos F.menv v (args.length+([]:List Keyword).length) (backTo pos (starEach args F.menv)) (backToKw pos (keywordEach [] F.menv))) Q E P.s:=by
 unfold methodCall;refine rwr (JC hs hl) ?_;refine SO (TH (hg (t:=P.t) ?_));have hp':methodCallPos true o F.menv ap pos=pure pos:=by
  unfold methodCallPos;rw[show(ap.endLine==pos.line)=true from hp];rfl
 exact SO (wpAny_of_eq hp' (jB hk hs hx er h q))
theorem xE(lo:Γ.loud=true){c0:Nat}{q:Pa}{o:SQ}{y:X}{ap:Pos}(hm:P₀.mt nm=some (c0,q))(ho:aN o=false)(hy:bv C Γ o y)(hs:d8 args=true)(hl:T3 args.length 19=true)(hp:cP ap pos=true)(hx:kK C Γ args x):
  bv C Γ (.Call (.Attribute o nm ap) args [] pos) (bU c0 q y x):=λF P en k Q E R h K=>by
 rw[WY,d5 ho];refine SO (hy F P en _ _ E R h λP1 u v L1 r1 h1=>SO (Uv ?_));refine bw h1 r1 ?_;clear h1;rintro q' p hp' h1-rfl;refine aF h1 hp' ?_;clear h1;intro o ho ro h1;refine l7 h1 ro ?_;clear h1 ro;rintro c fs a es n hc I hf h1 rfl;refine dI h1 ?_;intro e h3;cases cg.mp e;refine ak (O.mt nm c0 q a hm hc) ?_;intro zq0 hsl;refine aM zq0 ?_;clear zq0;intro f f1 f2 f3;refine bf (O.ga c0 a hc) ?_;rintro ga gat -;have X:C.K.In P1.R.h:=O.K.keeps P1.good.keep;have hu:getL nm es=some none:=by
  rw[wQ hf.1];have:=hf.2.1 nm;rw[hsl]at this;cases e:iE es nm with
  |none=>rfl
  |some w=>rw[e]at this;exact this.elim
 refine mw (Pp:=λh=>C.K.In h) (g:=.ref f) (first:=[.ref p.fst]) (λ{pl Q t} q=>method_fn (s:=(P1.tick t).s) X I ga gat f1 f2 (by show(lookIn nm (dictOf es n)).map _=_;rw[lookIn_dict,hu];rfl) q) (keeps_K (O.kpf _ _ f3)) hs hl hp hx (R.later L1) h3 λP2 w vs L2 r2 Z h2=>⟨O.K.keeps P2.good.keep,?_⟩
 exact wpAny_call (F.go lo F.here (R.later (L1.trans L2)) f3 (.cons_ (r1.later L2) r2) h2 (K.later (L1.trans L2)))
end
end
end
section
set_option compiler.extract_closed false
section
open PySem PySem.W PyProof.Rows
variable{C:Cx}{Γ:d6}{R R':Wd}
theorem ii{id:String}:lW (Tn C.prog C.w) (.builtin id) (λZ=>True):=λZ Z=>⟨.machine,.inr (.inl rfl),.now⟩
theorem gb{id:String}:lW (Tn C.prog C.w) (.type id) (λZ=>True):=λZ Z=>⟨.machine,.inr (.inl rfl),.now⟩
theorem cN{f:KV->KV->Bool}{u:KV}{vs:List SU}{n:Nat}(h:jT false f u=true)(r:bG C R u vs)(hl:vs.length=n+1){G:Prop}(k:∀x y v us,VR C R x v->bG C R y us->us.length=n->f x y=true->u=.cons x y->vs=v::us->G):G:=by
 cases u with
 |cons x y=>refine aH r ?_;clear r;rintro v us rfl r1 r2;exact k x y v us r1 r2 (Nat.succ.inj hl) h rfl rfl
 |_=>exact aD h
section
variable{P₀:Pg}(O:C.Ok P₀){nm:Str}{p pos:Pos}{n:String}{e e':SQ}{a b:X}
include O
theorem jZ(hg:P₀.gl nm=some (.bi n))(hk:Γ.kd nm=some .globalImplicit)(hd:(nm==("__debug__":Str))=false)(hkp:lW (Tn C.prog C.w) (qf n) λZ=>True)(hs:bx e=false)(ha:bv C Γ e a){f:Cl->KT->KT}
  (q:∀(F:dP C Γ)(P:Pt C)(en:En)(k:KT)(Q:SU->SW->Prop)(E:SU->SW->Prop)(u:KV)(v:SU),ER F P.R en->VR C P.R u v->f F.cl k P.m u=true->Kp C C.vol P.R k Q->Tb (Tn C.prog C.w) F.A (call (qf n) [v]) Q E P.s):
  bv C Γ (.Call (.Name nm p) [e] [] pos) (λc en k s=>a c en (f c k) s):=λF P en k Q E R h K=>by
 refine rwr (fV rfl) ?_;refine SO (eE (O.bi nm n hg) hk hd (jB hkp (k:=λs vs=>jT false (λv Z=>f F.cl k s v) vs) (by simp[d8,hs]) (c8 hs ha c9) R h λP1 u vs L1 r1 hl h1=>⟨trivial,?_⟩));refine cN h1 r1 hl ?_;clear h1 r1 hl;rintro x y v us r3-l h1-rfl;cases Tf l;exact q F P1 en k Q E _ v (R.later L1) r3 h1 (K.later L1)
theorem D1(hg:P₀.gl nm=some (.bi n))(hk:Γ.kd nm=some .globalImplicit)(hd:(nm==("__debug__":Str))=false)(hkp:lW (Tn C.prog C.w) (qf n) λZ=>True)(hs:bx e=false)(hs':bx e'=false)(ha:bv C Γ e a)(hb:bv C Γ e' b){f:KT->KV->KT}
  (q:∀(F:dP C Γ)(P:Pt C)(k:KT)(Q:SU->SW->Prop)(E:SU->SW->Prop)(u u':KV)(v v':SU),VR C P.R u v->VR C P.R u' v'->f k u P.m u'=true->Kp C C.vol P.R k Q->Tb (Tn C.prog C.w) F.A (call (qf n) [v,v']) Q E P.s):
  bv C Γ (.Call (.Name nm p) [e,e'] [] pos) (bj f a b):=λF P en k Q E R h K=>by
 refine rwr (fV rfl) ?_;refine SO (eE (O.bi nm n hg) hk hd (jB hkp (k:=λs vs=>jT false (λv r=>jT false (λw Z=>f k v s w) r) vs) (by simp[d8,hs,hs']) (c8 hs ha (c8 hs' hb c9)) R h λP1 u vs L1 r1 hl h1=>⟨trivial,?_⟩));refine cN h1 r1 hl ?_;clear h1 r1 hl;rintro x y v us r3 r4 l h1-rfl;refine cN h1 r4 l ?_;clear h1 l r4;rintro x' y' v' us' r5-l h1-rfl;cases Tf l;exact q F P1 k Q E _ _ v v' r3 r5 h1 (K.later L1)
theorem Km(lo:Γ.loud=true){F:dP C Γ}{P:Pt C}{en:En}{k:KT}{Q:SU->SW->Prop}{E:SU->SW->Prop}{u:KV}{v:SU}(R:ER F P.R en)(r:VR C P.R u v)
  (h:pP (λd=>k P.m (.nat (len (Fu d)))) (λxs=>k P.m (.nat (len xs))) (λq=>aZ q P.m (OC P₀.ln.1 P₀.ln.2 F.cl k P.m q)) u=true) (K:Kp C C.vol P.R k Q):Tb (Tn C.prog C.w) F.A (call (.builtin "len") [v]) Q E P.s:=by
 rcases jh h r with zq|zq|zq
 ·refine aH zq ?_;clear zq;rintro s t rfl ok h;have e:=(v6 (P:=P) ok P.t).len_eq;rw[TL,show s.cps.toList.length=s.length from T4]at e;rw[e]at h;have:s.length≤190:=ok.2;exact PySem.P.len_str (s:=P.s) (by lia) (K.at .nat_ h _)
 ·refine x8 zq ?_;clear zq;rintro a vs rfl ht rs hl h;rw[rs.len_eq]at h;exact PyProof.Rows.len_tuple (s:=P.s) ht (by simp;lia) (by refine rwr Vo ?_;exact K.at .nat_ h _)
 ·refine ew zq ?_;clear zq;rintro q p o rfl hp e ro h;have h:=mB h e;cases o with
  |list n xs=>
   refine ak ro ?_;clear ro;rintro -zq;refine dG zq ?_;clear zq;rintro vs k' hob rs rfl hl;exact Calls.call_len_list (s:=P.s) ⟨_,hob,rfl,k',rfl⟩ (by lia) (K.at .nat_ h _)
  |set xs=>
   refine ak ro ?_;clear ro;rintro -zq;refine aH zq ?_;clear zq;rintro S m zq2 hn -;refine FN zq2 ?_;clear zq2;rintro o es ep tb ho hx hd- - -hf hm;cases xs<;>try exact aD h
   have hz:es.size=0:=by have:m≤0:=hn;simp_all+arith
   refine call_len_set (s:=P.s) ho hx hd hf (by refine rwr hz ?_;decide) ?_;refine rwr hz ?_;exact K.at .nat_ h _
  |inst c fs=>
   refine aM ro ?_;clear ro;intro ca hc hob zq;refine aL zq ?_;clear zq;intro es n hdict hfl;refine dI h ?_;intro e h3;cases cg.mp e;refine aM (O.ln ca hc) ?_;intro f f1 f2 f3;have X:C.K.In P.R.h:=O.K.keeps P.good.keep;have I:InstAt P.R.h p.fst (instObj ca p.snd) ca (some (dictOf es n)):=⟨hob,rfl,rfl,hdict⟩
   refine Calls.call_function_entry kind_len plain_len entry_len (args_len1 _) ?_;unfold Builtin.«len»;refine SO (m:=oneArg "len" _) (SR ?_);refine SO (m:=callSpecial? (.ref p.fst) (Tu "__len__")) (special_fn (s:=P.s) X I f1 f2 (wpAny_call (F.go lo (A:=F.A.in1) (xs:=.cons (.ref q) .nil) (k:=Q2 k) ⟨TC _ _,by show F.A.units+1≤_;simp+arith,rfl,rfl,rfl⟩ R f3 (.cons_ ⟨p,hp,rfl⟩ .nil_) h3 λP2 w x L r2 h2=>?_)));refine cw h2 r2 ?_;clear h2 r2;rintro m t h2 rfl -;refine dI h2 ?_;clear h2;intro hm h2;have hm:=SP hm;refine SO (TH (SR (SO (wpAny_letGo ?_))));show Tb _ _ (if((m:Int)<0)then _ else _) _ _ _;refine Ct (by simp+arith) ?_;show Tb _ _ (if((m:Int)≥2^63)then _ else _) _ _ _;refine Ct (by lia) ?_;exact SO (wpAny_mkInt (SR ⟨_,rfl,(K.later L).at .nat_ h2 _⟩))
  |_=>exact aD h
theorem CR(lo:Γ.loud=true)(hg:P₀.gl nm=some (.bi "len"))(hk:Γ.kd nm=some .globalImplicit)(hd:(nm==("__debug__":Str))=false)(hs:bx e=false)(ha:bv C Γ e a):bv C Γ (.Call (.Name nm p) [e] [] pos) (cW P₀.ln.1 P₀.ln.2 a):=
 jZ O hg hk hd ii hs ha (f:=λc k s v=>pP (λd=>k s (.nat (len (Fu d)))) (λxs=>k s (.nat (len xs))) (λq=>aZ q s (OC P₀.ln.1 P₀.ln.2 c k s q)) v) λF P en k Q E u v R r h K=>Km O lo R r h K
theorem xy(hg:P₀.gl nm=some (.bi "tuple"))(hk:Γ.kd nm=some .globalImplicit)(hd:(nm==("__debug__":Str))=false)(hs:bx e=false)(ha:bv C Γ e a):bv C Γ (.Call (.Name nm p) [e] [] pos) (rU a):=
 jZ O hg hk hd gb hs ha (f:=λc k s v=>eY (λq=>aZ q s (iQ λzz xs=>k s xs)) v) λF P en k Q E u v R r h K=>by
  refine bw h r ?_;clear h r;rintro q p hp h-rfl;refine aF h hp ?_;clear h;rintro o-ro h;refine cy h ro ?_;clear h ro;rintro xs vs c hob rs hl0-h -;refine call_tuple_list (s:=P.s) (l:=p.fst) (items:=vs) ⟨_,hob,rfl,c,rfl⟩ (λh' hk=>?_) (SV hl0 cQ);exact qA (P:=P.more hk P.t) (c:=0) (K.later (.keeps _ hk)) (rs.later (au.keeps [] hk)) (by simpa using hl0) (aE _ _) (by refine rwr Vq ?_;exact T9 h' rfl) h P.t
theorem CJ(hg:P₀.gl nm=some (.bi "set"))(hk:Γ.kd nm=some .globalImplicit)(hd:(nm==("__debug__":Str))=false):bv C Γ (.Call (.Name nm p) [] [] pos) Cq:=λF P en k Q E R h K=>by
 refine rwr (fV rfl) ?_;refine SO (eE (O.bi nm "set" hg) hk hd (jB gb (k:=λs vs=>k (bz s (.set .nil)) (.ref s.n)) rfl c9 R h λP1 u vs L1 r1 hl h1=>⟨trivial,?_⟩));cases vs<;>try exact X2 hl
 refine call_set_0 λled=>(K.later L1).new (o:=.set .nil) (aE _ _) (aV _) (aV _) (λL=>⟨rfl,λzz=>false,0,⟨_,#[],0,.fresh 0 0 led,T9 _ rfl,⟨rfl,rfl,rfl⟩,rfl,(λe he=>by cases he),(λk=>by simp),(by show 0<scanBound;decide),(by cases led<;>decide),rfl⟩,TQ _,TQ _⟩) h1 P1.t
theorem CQ(lo:Γ.loud=true)(hg:P₀.gl nm=some (.bi "min"))(hk:Γ.kd nm=some .globalImplicit)(hd:(nm==("__debug__":Str))=false)(hs:bx e=false)(hs':bx e'=false)(ha:bv C Γ e a)(hb:bv C Γ e' b):bv C Γ (.Call (.Name nm p) [e,e'] [] pos) (bj Jo a b):=
 D1 O hg hk hd ii hs hs' ha hb λF P k Q E u u' v v' r r' h K=>qY (f:=λa b=>k P.m (.nat (@Ue (λzz=>Nat) a b (T3 (Te b) a)))) r r' h λi j t t' e1 e2 h=>by
  subst e1 e2;refine min_two_ints (s:=P.s) (F.handled lo) λh' tk' hk=>?_;cases hb:T3 (Te j) i with
  |true=>rw[hb]at h;have:=SP hb;refine rwr (if_pos (by lia)) ?_;exact K.more hk .nat_ h _
  |false=>
   rw[hb]at h;have:¬j<i:=λz=>by rw[SY z]at hb;exact qd hb
   refine rwr (if_neg (by simp_all+arith)) ?_;exact K.more hk .nat_ h _
omit O in
theorem BV:∀{xs:KV}{vs:List SU}{b:Bool}{k:Bool->Bool},bG C R xs vs->ma (λ(b:Bool)(k:Bool->Bool)=>k b) (λx Z r b k=>Dv (λd=>r (az d false b) k) x) xs b k=true->∃bs:List Bool,vs=bs.map W6∧k (b&&bs.all id)=true:=by
 intro xs;induction xs with
 |nil=>intro vs b k r h;cases r;exact⟨[],rfl,by refine rwr (show(b&&([]:List Bool).all id)=b by simp) ?_;exact h⟩
 |cons x y _ ih=>
  intro vs b k r h;refine aH r ?_;clear r;rintro v us rfl r1 r2;cases x with
  |bool d=>
   cases r1;refine ag (ih r2 h) ?_;clear h ih r2;rintro bs rfl h;refine⟨d::bs,rfl,?_⟩;cases d<;>cases b<;>simpa[az]using h
  |_=>exact aD h
 |_=>exact λr=>r.elim
omit O in
theorem xP(bs:List Bool):(UE bs.length).all (λi=>bs.getD i true)=bs.all id:=by
 rw[Uo];simp only[TP,Uj,id];refine⟨λh b hb=>?_,λh i hi=>?_⟩
 ·refine aw (W4.mp hb) ?_;intro i zq;refine aw zq ?_;clear zq;rintro hi rfl;have:=h i hi;rw[Uy,T7 hi]at this;exact this
 ·refine rwr (Uy) (rwr (T7 hi) ?_);exact h _ (List.getElem_mem _)
theorem Da(lo:Γ.loud=true)(hg:P₀.gl nm=some (.bi "all"))(hk:Γ.kd nm=some .globalImplicit)(hd:(nm==("__debug__":Str))=false)(hs:bx e=false)(ha:bv C Γ e a):bv C Γ (.Call (.Name nm p) [e] [] pos) (Gi a):=
 jZ O hg hk hd ii hs ha (f:=λc k s v=>eY (λq=>aZ q s (iQ λzz xs=>MZ xs λb=>k s (.bool b))) v) λF P en k Q E u v R r h K=>by
  refine bw h r ?_;clear h r;rintro q p hp h-rfl;refine aF h hp ?_;clear h;rintro o-ro h;refine cy h ro ?_;clear h ro;rintro xs vs c hob rs-hl h -;refine ag (BV (k:=λb=>k P.m (.bool b)) rs h) ?_;intro bs hv h;have w2:(P.R.h.push {cls:=.type "list_iterator",data:=.fields #[.ref p.fst,.int 0 0]}).IsListIter P.R.h.objs.size p.fst 0:=⟨_,T9 _ rfl,rfl,rfl⟩
  have w3:(P.R.h.push {cls:=.type "list_iterator",data:=.fields #[.ref p.fst,.int 0 0]}).IsList p.fst vs:=⟨_,aE _ _ _ _ hob,rfl,c,rfl⟩
  refine call_all_walk (WN (s:=P.s) (l:=p.fst) (items:=vs) ⟨_,hob,rfl,c,rfl⟩ ?_);refine⟨_,[P.R.h.objs.size,p.fst],[P.R.h.objs.size],vs.size,_,_,λi=>bs.getD i true,rfl,Walks.list (A:=F.A.in1) (F.handled lo) _ p.fst (UU (Ui hob)) vs,⟨w2,w3⟩,?_,λh' tk hk=>?_⟩
  ·intro i v s Q E hi q;have:vs.toList[i]?=some v:=by rw[Tj];exact hi
   rw[hv,Tr]at this;refine xT this ?_;clear this;rintro b hb rfl;refine Un ?_;dsimp only at q;rw[Uy,hb]at q;exact q
  ·have hsz:vs.size=bs.length:=by rw[←T4,hv,TL]
   rw[hsz,xP];exact K.more (λb ob e=>hk b ob (by simp;exact UU (Ui e)) (aE _ _ b ob e)) .bool_ h _
end
end
end
section
set_option compiler.extract_closed false
section
open PySem PySem.W PyProof.Rows
variable{C:Cx}{Γ:d6}{R R':Wd}
def EZ(P:Pt C)(v:SU)(T:String):Prop:=∃a ob,v=.ref a∧P.R.h.get? a=some ob∧ob.cls=.type T∧ob.dict=none
section
variable{F:dP C Γ}{P:Pt C}{en:En}{Q:SU->SW->Prop}{E:SU->SW->Prop}
theorem jo{q:Pa}{p:iK}{f:Nat->KV->Bool}(hp:P.R.ρ q=some p)(h:aZ q P.m (iQ f)=true):EZ P (.ref p.fst) "list":=by
 refine aF h hp ?_;clear h;rintro o-ro h;refine cy h ro ?_;rintro xs vs c hob- - - -rfl;exact⟨_,_,rfl,hob,rfl,rfl⟩
theorem gj{f:Nat->KD->Bool}{o:KO}(h:AG f o=true){G:Prop}(k:∀n es,f n es=true->o=.dict n es->G):G:=by
 cases o with
 |dict n es=>exact k n es h rfl
 |_=>exact aD h
theorem jK{f:KV->Bool}{o:KO}(h:nN f o=true){G:Prop}(k:∀xs,f xs=true->o=.set xs->G):G:=by
 cases o with
 |set xs=>exact k xs h rfl
 |_=>exact aD h
theorem rG{f:Nat->KD->Bool}{g:KD->KD->Bool}{o:KO}{p:iK}(h:sU f g o=true)(r:eX C R o p){G:Prop}(k:∀n es,oW C R n es p->((o=.dict n es∧f n es=true)∨∃a m,o=.pd a m∧Pd C a m es∧g a m=true)->G):G:=by
 cases o with
 |dict n es=>exact k n es r (.inl ⟨rfl,h⟩)
 |pd a m=>refine aL r ?_;intro n es d z;exact k n es d (.inr ⟨a,m,rfl,z,h⟩)
 |_=>exact aD h
theorem xa{P:Pt C}{q:Pa}{p:iK}{b:Bool}(hp:P.R.ρ q=some p)(h:aZ q P.m (sU (λZ Z=>b) λZ Z=>b)=true):b=true:=by
 refine aF h hp ?_;rintro o-ro h;refine rG h ro ?_;rintro n es-z;exact z.elim (λa=>a.2) λa=>by refine aH a ?_;rintro _ _- -z;exact z
theorem jp{q:Pa}{p:iK}{f:Nat->KD->Bool}{g:KD->KD->Bool}(hp:P.R.ρ q=some p)(h:aZ q P.m (sU f g)=true):EZ P (.ref p.fst) "dict":=by
 refine aF h hp ?_;clear h;rintro o-ro h;refine rG h ro ?_;rintro n es ro -;refine ak ro ?_;clear ro;rintro -zq;refine fL zq ?_;clear zq;rintro ob es' ep hob hx -;exact⟨_,_,rfl,hob,hx.1,hx.2.1⟩
theorem ja{q:Pa}{p:iK}{k:KT}{i d:KV}(hp:P.R.ρ q=some p)(h:yG k P.m q i d=true):P.s.TypeIs (.ref p.fst) "dict":=by
 refine dG (jp hp h) ?_;rintro a ob e h1 h2 -;cases e;exact⟨ob,h1,h2⟩
theorem BQ{q:Pa}{p:iK}{f:KV->Bool}(hp:P.R.ρ q=some p)(h:aZ q P.m (nN f)=true):EZ P (.ref p.fst) "set":=by
 refine aF h hp ?_;clear h;rintro o-ro h;refine jK h ?_;clear h;rintro xs-rfl;refine ak ro ?_;clear ro;rintro -zq;refine aL zq ?_;clear zq;rintro S m zq2 -;refine Bs zq2 ?_;clear zq2;rintro ob es' ep tb hob hx -;exact⟨_,_,rfl,hob,hx.1,hx.2.1⟩
end
section
variable{o:SQ}{args:List SQ}{y x:X}{ap pos:Pos}{T id:String}{nm:Str}
theorem fJ{g:Cl->En->KT->KT}{kk:KT->KV->KT}(pa:PlainAttrs T)(slot:Slot T nm id)(hty:typeOf (.builtin id)=pure (.type "method_descriptor"))(ho:aN o=false)(hy:bv C Γ o y)(hs:d8 args=true)(hl:T3 args.length 19=true)(hp:cP ap pos=true)(hx:kK C Γ args x)
  (hg:∀(F:dP C Γ)(P:Pt C)(en:En)(k:KT)(u:KV)(v:SU),VR C P.R u v->g F.cl en k P.m u=true->EZ P v T∧x F.cl en (kk k u) P.m=true)
  (q:∀(F:dP C Γ)(P:Pt C)(k:KT)(Q:SU->SW->Prop)(E:SU->SW->Prop)(u w:KV)(v:SU)(vs:List SU),VR C P.R u v->bG C P.R w vs->vs.length=args.length->kk k u P.m w=true->Kp C C.vol P.R k Q->Tb (Tn C.prog C.w) F.A (call (.builtin id) (v::vs)) Q E P.s):
  bv C Γ (.Call (.Attribute o nm ap) args [] pos) (λc e k s=>y c e (g c e k) s):=λF P en k Q E R h K=>by
 rw[WY,d5 ho];refine SO (hy F P en _ _ E R h λP1 u v L1 r1 h1=>SO (Uv ?_));refine ak (hg F P1 en k u v r1 h1) ?_;clear h1;intro zq0 h1;refine dG zq0 ?_;clear zq0;rintro a ob rfl hob hc hd;refine mw (g:=.builtin id) (first:=[.ref a]) (λ{pl Q t} q=>getMethod_builtin (s:=(P1.tick t).s) ⟨ob,hob,hc⟩ pa slot hty (λb e=>by cases e;exact⟨ob,hob,hd⟩) q) ii hs hl hp hx (R.later L1) h1 λP2 w vs L2 r2 l2 h2=>⟨trivial,?_⟩
 exact q F P2 k Q E u w _ vs (r1.later L2) r2 l2 h2 (K.later (L1.trans L2))
theorem ky{P:Pt C}{k:KT}{Q:SU->SW->Prop}(K:Kp C C.vol P.R k Q){q:Pa}{p:iK}(hp:P.R.ρ q=some p)(he:p.snd=p.fst){ys:KV}{vs:Array SU}{n m:Nat}{h':UT}(hs:U7 p.fst P.R.h h')(hg:h'.get? p.fst=some {cls:=.type "list",data:=.seq vs m})(r:bG C P.R ys vs.toList)(hn:n=vs.size)(hl:n≤100000)
  {u:KV} {v:SU} (rv:VR C P.R u v) (h:k (bV P.m q (.list n ys)) u=true) (t:Nat):Q v ⟨h',C.g,C.d,t,C.os⟩:=by
 refine d9 (P.set_ (o':=.list n ys) hp (.inl rfl) hs ⟨_,hg⟩ (λL=>⟨he,vs,m,hg,r.later L,hn,hl⟩) t) ?_;intro P' e1 e2 e3 L;refine rwl e3 ?_;exact K P' u v (L _) (rv.later (L [])) (by refine rwr e2 ?_;exact h)
theorem D7{e:SQ}{x:X}(ho:aN o=false)(hy:bv C Γ o y)(hs:bx e=false)(hp:cP ap pos=true)(hx:bv C Γ e x):bv C Γ (.Call (.Attribute o "append" ap) [e] [] pos) (dy y x):=
 fJ (g:=λc e k s v=>eY (λq=>aZ q s (iQ λZ Z=>x c e (λs w=>aZ q s (iQ λn xs=>az (T3 (Te n) 100000) false (k (bV s q (.list (Te n) (app xs (.cons w .nil)))) .none))) s)) v)
  (kk:=λk u s w=>jT false (λw Z=>eY (λq=>aZ q s (iQ λn xs=>az (T3 (Te n) 100000) false (k (bV s q (.list (Te n) (app xs (.cons w .nil)))) .none))) u) w)
  VY F.slot_list_append F.type_list_append ho hy (by simp[d8,hs]) rfl hp (c8 hs hx c9)
  (λF P en k u v r h=>by
   refine bw h r ?_;clear h;rintro q p hp h rfl rfl;refine⟨jo hp h,?_⟩;refine aF h hp ?_;clear h;rintro o-ro h;refine cy h ro ?_;clear h;rintro xs vs c- - - -h rfl;exact h)
  λF P k Q E u w v vs r rs l h K=>by
   refine cN h rs l ?_;clear h l rs;rintro w _ z us r3-l h-rfl;cases Tf l;refine bw h r ?_;clear h r;rintro q p hp h-rfl;refine aF h hp ?_;clear h;rintro o-ro h;refine cy h ro ?_;clear h ro;rintro xs vs c hob rx hl he h -;refine dI h ?_;clear h;intro h1 h;have h1:=SP h1;refine WV (s:=P.s) (items:=vs) ⟨c,hob⟩ (λh' hpl hs=>?_) (SV hl cQ);refine aw hpl ?_;clear hpl;intro m' hg;exact ky K hp he hs hg (by refine rwr VP ?_;exact rx.append (.cons_ r3 .nil_)) (by simp) h1 .none_ h P.t
theorem nQ{f:Nat->Bool}{o:KO}(h:Fh f o=true){G:Prop}(k:∀n,f n=true->o=.junk n->G):G:=by
 cases o with
 |junk n=>exact k n h rfl
 |_=>exact aD h
theorem D8{e:SQ}{x:X}(ho:aN o=false)(hy:bv C Γ o y)(hs:bx e=false)(hp:cP ap pos=true)(hx:bv C Γ e x):bv C Γ (.Call (.Attribute o "append" ap) [e] [] pos) (Gh y x):=
 fJ (g:=λc e k s v=>eY (λq=>aZ q s (Fh λZ=>x c e (λs Z=>aZ q s (Fh λn=>az (T3 (Te n) 100000) false (k (bV s q (.junk (Te n))) .none))) s)) v)
  (kk:=λk u s w=>jT false (λZ Z=>eY (λq=>aZ q s (Fh λn=>az (T3 (Te n) 100000) false (k (bV s q (.junk (Te n))) .none))) u) w)
  VY F.slot_list_append F.type_list_append ho hy (by simp[d8,hs]) rfl hp (c8 hs hx c9)
  (λF P en k u v r h=>by
   refine bw h r ?_;clear h;rintro q p hp h rfl rfl;refine aF h hp ?_;rintro o-ro h;refine nQ h ?_;rintro n h rfl;refine ak ro ?_;rintro -zq;refine aL zq ?_;rintro vs c hob -;exact⟨⟨_,_,rfl,hob,rfl,rfl⟩,h⟩)
  λF P k Q E u w v vs r rs l h K=>by
   refine cN h rs l ?_;clear h l rs;rintro w _ z us r3-l h-rfl;cases Tf l;refine bw h r ?_;clear h r;rintro q p hp h-rfl;refine aF h hp ?_;clear h;rintro o-ro h;refine nQ h ?_;rintro n h rfl;refine ak ro ?_;intro he zq;refine aH zq ?_;intro vs c hob hv hl;refine dI h ?_;clear h;intro h1 h;have h1:=SP h1;refine WV (s:=P.s) (items:=vs) ⟨c,hob⟩ (λh' hpl hs=>?_) (SV (SV hv hl) cQ);refine aw hpl ?_;clear hpl;intro m' hg;refine d9 (P.set_ (o':=.junk (n+1)) hp (.inl rfl) hs ⟨_,hg⟩ (λL=>⟨he,_,m',hg,by rw[Array.size_push];exact TY hv,h1⟩) P.t) ?_;intro P' e1 e2 e3 L;exact e3▸K P' .none .none (L _) .none_ (by rw[e2];exact h)
theorem vm{α:Type}(xs:Array α)(h:0<xs.size):(xs.eraseIdxIfInBounds (xs.size-1)).toList=xs.toList.take (xs.size-1):=by
 rw[Array.eraseIdxIfInBounds,dif_pos (by omega),Array.toList_eraseIdx,List.eraseIdx_eq_take_drop_succ];simp;simp_all+arith
theorem CM(ho:aN o=false)(hy:bv C Γ o y)(hp:cP ap pos=true):bv C Γ (.Call (.Attribute o "pop" ap) [] [] pos) (Cr y):=
 fJ (g:=λc e k s v=>eY (λq=>aZ q s (iQ λn xs=>@V3 (λZ=>Bool) false (λm Z=>AH m xs false (k (bV s q (.list m (take m xs))))) n)) v)
  (kk:=λk u s w=>eY (λq=>aZ q s (iQ λn xs=>@V3 (λZ=>Bool) false (λm Z=>AH m xs false (k (bV s q (.list m (take m xs))))) n)) u)
  VY X6 F.type_list_pop ho hy rfl rfl hp c9
  (λF P en k u v r h=>by
   refine bw h r ?_;rintro q p hp h2-rfl;exact⟨jo hp h2,h⟩)
  λG P k Q E u w v vs r rs l h K=>by
   cases Tf l;refine bw h r ?_;clear h r;rintro q p hp h-rfl;refine aF h hp ?_;clear h;rintro o-ro h;refine cy h ro ?_;clear h ro;rintro xs vs c hob rx hl he h -;cases hz:vs.size with
   |zero=>rw[hz]at h;exact aD h
   |succ m=>
    rw[hz]at h;refine aB h ?_;clear h;intro x h hx;refine ag (rx.get hx) ?_;intro v hv rv;refine call_meets X6 (s:=P.s) ⟨_,hob,rfl⟩ F.entry_list_pop (F.args_list_pop_1 _) (MeetsSeq.list_pop_last p.fst vs c v (by refine rwr hz ?_;simpa using hv) (SV hl cQ)) ⟨hob,?_⟩;have e:=vm vs (by simp_all+arith);exact ky K hp he (U0 ..) (Ua (Wa λxs=>xs.eraseIdxIfInBounds (vs.size-1)) hob rfl) (n:=m) (by
     show bG C P.R _ (vs.eraseIdxIfInBounds (vs.size-1)).toList;refine rwr e (rwr hz ?_);exact rx.take_ m) (by refine rwl T4 ?_;show _=(vs.eraseIdxIfInBounds (vs.size-1)).toList.length;refine rwr e (rwr UR (rwr T4 ?_));simp_all+arith) (by lia) rv h _
theorem zx{n:Nat}{p':Pos}(ho:aN o=false)(hy:bv C Γ o y)(hp:cP ap pos=true):bv C Γ (.Call (.Attribute o "pop" ap) [.Constant (.int (.ofNat 0)) n p'] [] pos) (rW y):=
 fJ (g:=λc e k s v=>eY (λq=>aZ q s (iQ λn xs=>jT false (λx r=>k (bV s q (.list (Nat.pred n) r)) x) xs)) v)
  (kk:=λk u s w=>jT false (λz Z=>gp (λz=>az (SS z 0) false (eY (λq=>aZ q s (iQ λn xs=>jT false (λx r=>k (bV s q (.list (Nat.pred n) r)) x) xs)) u)) z) w)
  VY X6 F.type_list_pop ho hy rfl rfl hp (c8 rfl i4 c9)
  (λF P en k u v r h=>by
   refine bw h r ?_;rintro q p hp h2-rfl;exact⟨jo hp h2,h⟩)
  λG P k Q E u w v vs r rs l h K=>by
   refine cN h rs l ?_;clear h l rs;rintro w _ z us r3-l h-rfl;cases Tf l;refine cw h r3 ?_;clear h r3;rintro z t h rfl -;refine dI h ?_;clear h;intro hz h;cases cg.mp hz;refine bw h r ?_;clear h;rintro q p hp h-rfl;refine aF h hp ?_;clear h;rintro o-ro h;refine cy h ro ?_;clear h ro;rintro xs vs c hob rx hl he h -;cases xs with
   |cons x r=>
    refine aH rx ?_;clear rx;intro v us e1 rv ru;have h0:vs[0]?=some v:=by refine rwl (Tj) (rwr e1 ?_);rfl
    have hpos:=(Uu.mp h0).1;refine call_meets X6 (s:=P.s) ⟨_,hob,rfl⟩ F.entry_list_pop (F.args_list_pop_2 _ _) (MeetsSeq.list_pop_at p.fst vs c 0 t 0 v (by decide) (by refine rwr (seqIndex_of (by decide) (by simp_all+arith)) ?_;rfl) h0 (SV hl cQ)) ⟨hob,?_⟩;have e2:(vs.eraseIdxIfInBounds 0).toList=us:=by rw[Array.eraseIdxIfInBounds,dif_pos hpos,Array.toList_eraseIdx,e1];rfl
    have e3:vs.size=us.length+1:=by refine rwl T4 (rwr e1 ?_);rfl
    exact ky K hp he (U0 ..) (Ua (Wa λxs=>xs.eraseIdxIfInBounds 0) hob rfl) (n:=Nat.pred vs.size) (by show bG C P.R _ (vs.eraseIdxIfInBounds 0).toList;refine rwr e2 ?_;exact ru)
     (by show _=(vs.eraseIdxIfInBounds 0).size;refine rwl (T4 (xs:=vs.eraseIdxIfInBounds 0)) (rwr e2 (rwr e3 ?_));rfl) (by rw[e3]at hl ⊢;show us.length≤_;exact SV (U8 us.length) hl) rv h _
   |_=>exact aD h
theorem o4(l:Tw)(items:Array SU)(n k:Nat)(z:Int)(hz:z=k)(u:Tok)(y:SU)(hf:¬(!VW z)=true)(hs:items.size≤sizeLine):
  Meets (Builtin.«list.insert» ⟨[.ref l,.int z u,y],[]⟩) (λzz R s=>s.heap.get? l=some {cls:=.type "list",dict:=none,data:=.seq items n,slots:=#[]}∧R (.ok (.ret Ve)) {s with heap:=s.heap.update l (Wa λxs=>(xs.extract 0 (min k xs.size)).push y++xs.extract (min k xs.size)),toks:=s.toks}):=by
 have e:=AutoSeq1.list_insert_list_int_val_1 l items n z u y hf hs;have e2:(λxs:Array SU=>have k:=if z<0 then(z+(xs.size:Int)).toNat else min z.toNat xs.size;(xs.extract 0 k).push y++xs.extract k)=λxs=>(xs.extract 0 (min k xs.size)).push y++xs.extract (min k xs.size):=by
  funext xs
  refine rwr (if_neg (by simp_all+arith)) (rwr hz ?_);rfl
 rw[e2]at e;exact e
theorem CT{e1 e2:SQ}{x1 x2:X}(ho:aN o=false)(hy:bv C Γ o y)(hs:bx e1=false)(hs2:bx e2=false)(hp:cP ap pos=true)(hx1:bv C Γ e1 x1)(hx2:bv C Γ e2 x2):bv C Γ (.Call (.Attribute o "insert" ap) [e1,e2] [] pos) (Gg y x1 x2):=
 fJ (g:=λc e k s v=>eY (λq=>aZ q s (iQ λZ Z=>x1 c e (λs i=>x2 c e (λs w=>Jt k s q i w) s) s)) v)
  (kk:=λk u s w=>jT false (λi r=>jT false (λw Z=>eY (λq=>Jt k s q i w) u) r) w)
  VY F.slot_list_insert F.type_list_insert ho hy (by simp[d8,hs,hs2]) rfl hp (c8 hs hx1 (c8 hs2 hx2 c9))
  (λF P en k u v r h=>by
   refine bw h r ?_;clear h;rintro q p hp h rfl rfl;refine⟨jo hp h,?_⟩;refine aF h hp ?_;clear h;rintro o-ro h;refine cy h ro ?_;clear h;rintro xs vs c- - - -h rfl;exact h)
  λG P k Q E u w v vs r rs l h K=>by
   refine cN h rs l ?_;clear h l rs;rintro i _ z us r3 r4 l h-rfl;refine cN h r4 l ?_;clear h l r4;rintro w _ y us r5-l h-rfl;cases Tf l;refine bw h r ?_;clear h r;rintro q p hp h-rfl;refine aF h hp ?_;clear h;rintro o-ro h;refine cy h ro ?_;clear h ro;rintro xs vs c hob rx hl he h -;refine dI h ?_;clear h;intro h1 h;have h1:=SP h1;refine cw h r3 ?_;clear h r3;rintro j t h rfl -;refine dI h ?_;clear h;intro h2 h;have h2:=SP h2;generalize hz:((j:Nat):Int)=z;have hfi:¬(!VW z)=true:=by refine rwl hz (rwr (fitsIndex_of (by exact Vu (j+0)) (by lia)) ?_);decide
   refine call_meets F.slot_list_insert (s:=P.s) ⟨_,hob,rfl⟩ F.entry_list_insert (F.args_list_insert_3 _ _ _) (o4 p.fst vs c j z hz.symm t y hfi (SV hl cQ)) ⟨hob,?_⟩;have e1:((vs.extract 0 (min j vs.size)).push y++vs.extract (min j vs.size)).toList=vs.toList.take j++y::vs.toList.drop j:=by
    refine rwr (V4 h2) ?_;simp only[U5,VP,Array.toList_extract,List.extract_eq_take_drop,List.drop_zero,Nat.sub_zero,UP,List.cons_append,List.nil_append];exact rwr (Ub (l:=vs.toList.drop j) (by simp)) rfl
   exact ky K hp he (U0 ..) (Ua (Wa λxs=>(xs.extract 0 (min j xs.size)).push y++xs.extract (min j xs.size)) hob rfl) (n:=Te vs.size)
    (by show bG C P.R _ ((vs.extract 0 (min j vs.size)).push y++vs.extract (min j vs.size)).toList;refine rwr e1 ?_;exact(rx.take_ j).append (.cons_ r5 (rx.drop_ j)))
    (by show _=((vs.extract 0 (min j vs.size)).push y++vs.extract (min j vs.size)).size;refine rwl (T4 (xs:=(vs.extract 0 (min j vs.size)).push y++vs.extract (min j vs.size))) (rwr e1 ?_);simp;simp_all+arith) h1 .none_ h _
section
variable{P₀:Pg}(O:C.Ok P₀)
include O
theorem tO{P:Pt C}{k:KT}{Q:SU->SW->Prop}{E:SU->SW->Prop}{q:Pa}{p:iK}{i d:KV}{iv dv:SU}{A:U6}(hA:A.units+60<cLine)(hp:P.R.ρ q=some p)(ri:VR C P.R i iv)(rd:VR C P.R d dv)(h:yG k P.m q i d=true)(K:Kp C C.vol P.R k Q):
  Tb (Tn C.prog C.w) A (dictGet p.fst iv) (λr s=>(∃v,r=some v∧Q v s)∨r=none∧Q dv s) E P.s:=by
 refine aF h hp ?_;clear h;rintro o-ro h;refine rG h ro ?_;intro n es di z;have key:pk i=true∧match dl es i with|some u=>∃v,(∀(R:Wd) w,VR C R u w->VR C R v w)∧k P.m v=true|none=>∃v,(∀(R:Wd) w,VR C R d w->VR C R v w)∧k P.m v=true:=by
  rcases z with zq|zq
  ·refine ak zq ?_;clear zq;rintro -h;refine dI h ?_;intro h1 h;refine⟨h1,?_⟩;unfold cC at h;cases e:dl es i with
   |none=>rw[e]at h;exact⟨d,λZ Z z=>z,h⟩
   |some u=>rw[e]at h;exact⟨u,λZ Z z=>z,h⟩
  ·refine aH zq ?_;clear zq;rintro a m-hpd h;refine dI h ?_;intro h1 h;refine⟨h1,?_⟩;have z:=hpd i h1;unfold cC at h;cases e:dl a i with
   |some v=>rw[e]at h z;refine ag z ?_;intro u e2 z;refine rwr e2 ?_;exact⟨v,z,h⟩
   |none=>
    rw[e]at h z;have h:ci (dl m i) (k P.m d) (λv=>az (cM d dflt) false (k P.m v))=true:=h;cases e3:dl m i with
    |none=>rw[e3]at h z;have z:dl es i=none:=z;refine rwr z ?_;exact⟨d,λZ Z z=>z,h⟩
    |some v=>
     rw[e3]at h z;refine dI h ?_;intro h2 h;refine rwr (fx h2) ?_;rcases z with zq|zq
     ·refine ag zq ?_;clear zq;intro u e2 z;refine rwr e2 ?_;exact⟨v,z,h⟩
     ·refine ak zq ?_;clear zq;intro e2 z;refine rwr e2 ?_;exact⟨v,z,h⟩
 refine ak di ?_;rintro -zq;refine x7 zq ?_;clear zq;rintro ob es' ep hob hx hdat hE hnd -;refine jl (s:=P.s) key.1 ri rfl hob hdat hE (by lia) hnd (λe t'=>?_) λy val e rv t'=>?_
 ·have z:=key.2;rw[e]at z;refine ag z ?_;intro v f h;exact .inr ⟨rfl,K.at (f _ _ rd) h _⟩
 ·have z:=key.2;rw[e]at z;refine ag z ?_;intro v f h;exact .inl ⟨_,rfl,K.at (f _ _ rv) h _⟩
theorem zH{e:SQ}{x:X}(ho:aN o=false)(hy:bv C Γ o y)(hs:bx e=false)(hp:cP ap pos=true)(hx:bv C Γ e x):bv C Γ (.Call (.Attribute o "get" ap) [e] [] pos) (gK y x):=
 fJ (g:=λc e k s v=>eY (λq=>aZ q s (sU (λZ Z=>x c e (λs i=>yG k s q i .none) s) (λZ Z=>x c e (λs i=>yG k s q i .none) s))) v)
  (kk:=λk u s w=>jT false (λi Z=>eY (λq=>yG k s q i .none) u) w)
  F.plainAttrs_dict X7 F.type_dict_get ho hy (by simp[d8,hs]) rfl hp (c8 hs hx c9)
  (λF P en k u v r h=>by
   refine bw h r ?_;clear h;rintro q p hp h rfl rfl;exact⟨jp hp h,xa hp h⟩)
  λG P k Q E u w v vs r rs l h K=>by
   refine cN h rs l ?_;clear h l rs;rintro i _ z us r3-l h-rfl;cases Tf l;refine bw h r ?_;clear h;rintro q p hp h-rfl;refine TJ X7 (s:=P.s) (ja hp h) F.entry_dict_get ?_ (F.args_dict_get_2 _ _);show Tb _ _ (dictGet p.fst z>>=_) _ _ _;refine SO (UJ (tO O (by have:=G.units;show G.A.units+1+_<_;lia) hp r3 .none_ h K) (λr s z=>?_) λZ Z e=>e);rcases z with zq|zq
   ·refine ag zq ?_;clear zq;rintro v rfl q;exact SR ⟨_,rfl,q⟩
   ·refine ak zq ?_;clear zq;rintro rfl q;exact SO (wpAny_missed_other (gx O P.good hp) (SR ⟨_,rfl,q⟩))
theorem zG{e1 e2:SQ}{x1 x2:X}(ho:aN o=false)(hy:bv C Γ o y)(hs:bx e1=false)(hs2:bx e2=false)(hp:cP ap pos=true)(hx1:bv C Γ e1 x1)(hx2:bv C Γ e2 x2):bv C Γ (.Call (.Attribute o "get" ap) [e1,e2] [] pos) (iu y x1 x2):=
 fJ (g:=λc e k s v=>eY (λq=>aZ q s (sU (λZ Z=>x1 c e (λs i=>x2 c e (λs d=>yG k s q i d) s) s) (λZ Z=>x1 c e (λs i=>x2 c e (λs d=>yG k s q i d) s) s))) v)
  (kk:=λk u s w=>jT false (λi r=>jT false (λd Z=>eY (λq=>yG k s q i d) u) r) w)
  F.plainAttrs_dict X7 F.type_dict_get ho hy (by simp[d8,hs,hs2]) rfl hp (c8 hs hx1 (c8 hs2 hx2 c9))
  (λF P en k u v r h=>by
   refine bw h r ?_;clear h;rintro q p hp h rfl rfl;exact⟨jp hp h,xa hp h⟩)
  λG P k Q E u w v vs r rs l h K=>by
   refine cN h rs l ?_;clear h l rs;rintro i _ z us r3 r4 l h-rfl;refine cN h r4 l ?_;clear h l r4;rintro d _ z' us r5-l h-rfl;cases Tf l;refine bw h r ?_;clear h;rintro q p hp h-rfl;refine TJ X7 (s:=P.s) (ja hp h) F.entry_dict_get ?_ (F.args_dict_get_3 _ _ _);show Tb _ _ (dictGet p.fst z>>=_) _ _ _;refine SO (UJ (tO O (by have:=G.units;show G.A.units+1+_<_;lia) hp r3 r5 h K) (λr s z=>?_) λZ Z e=>e);rcases z with zq|zq
   ·refine ag zq ?_;clear zq;rintro v rfl q;exact SR ⟨_,rfl,q⟩
   ·refine ak zq ?_;clear zq;rintro rfl q;exact SO (wpAny_missed_other (gx O P.good hp) (SR ⟨_,rfl,q⟩))
end
theorem zu{e:SQ}{x:X}(ho:aN o=false)(hy:bv C Γ o y)(hs:bx e=false)(hp:cP ap pos=true)(hx:bv C Γ e x):bv C Γ (.Call (.Attribute o "add" ap) [e] [] pos) (rV y x):=
 fJ (g:=λc e k s v=>eY (λq=>aZ q s (nN λZ=>x c e (λs w=>aZ q s (nN λxs=>AF (λd=>az (T3 (len xs) 1000) false (k (bV s q (.set (.cons (.str d) xs))) .none)) w)) s)) v)
  (kk:=λk u s w=>jT false (λw Z=>eY (λq=>aZ q s (nN λxs=>AF (λd=>az (T3 (len xs) 1000) false (k (bV s q (.set (.cons (.str d) xs))) .none)) w)) u) w)
  F.plainAttrs_set F.slot_set_add F.type_set_add ho hy (by simp[d8,hs]) rfl hp (c8 hs hx c9)
  (λF P en k u v r h=>by
   refine bw h r ?_;clear h;rintro q p hp h rfl rfl;refine⟨BQ hp h,?_⟩;refine aF h hp ?_;clear h;rintro o-ro h;refine jK h ?_;clear h;rintro xs h rfl;exact h)
  λG P k Q E u w v vs r rs l h K=>by
   refine cN h rs l ?_;clear h l rs;rintro i _ z us r3-l h-rfl;cases Tf l;refine bw h r ?_;clear h r;rintro q p hp h-rfl;refine aF h hp ?_;clear h;rintro o-ro h;refine jK h ?_;clear h;rintro xs h rfl;refine ak ro ?_;clear ro;intro he zq;refine aH zq ?_;clear zq;intro S n hS hn hl;cases i with
   |str d=>
    refine aH r3 ?_;clear r3;rintro s t rfl rfl ok;refine dI h ?_;clear h;intro h1 h;have h1:=SP h1;refine call_set_add (s:=P.s) (knd:=PySem.strKind C.prog C.w) (k:=s) (by exact if_pos rfl) rfl hS (by show n+1<4096;lia) λh' hsb hS'=>?_;refine x6 (id hS') ?_;rintro o es ep tb ho -;have hll:len (.cons (.str (iI s)) xs)=len xs+1:=rfl;refine d9 (P.set_ (o':=.set (.cons (.str (iI s)) xs)) hp (.inl rfl) hsb ⟨_,ho⟩ (λL=>⟨he,_,_,hS',by refine rwr hll ?_;split<;>lia,by refine rwr hll ?_;simp_all+arith⟩) (P.t+1)) ?_;intro P' e1 e2 e3 L;exact e3▸K P' .none .none (L _) .none_ (by refine rwr e2 ?_;exact h)
   |_=>exact aD h
end
end
end
section
set_option compiler.extract_closed false
section
open PySem PySem.W PyProof.Rows
variable{C:Cx}{Γ:d6}{R R':Wd}
structure cO(C:Cx)(R:Wd)(b:Tw):Prop where
 own:¬dN R b
 frz:¬fh R b
 vol:b∉C.vol
 old:C.h₀.get? b=none
 fz:¬R.fz b
 obj:∃ob,R.h.get? b=some ob∧(∀xs n,ob.data=.seq xs n->ob.cls≠.type "tuple")∧∀vs q t,ob.data=.fields vs->vs[1]?≠some (.str q t)
section
variable{μ:KS}{h':UT}
theorem cO.fresh(G:bP C R μ){b:Tw}(hb:R.h.get? b=none){ob:Obj}(e:h'.get? b=some ob)(h1:∀xs n,ob.data=.seq xs n->ob.cls≠.type "tuple")(h2:∀vs q t,ob.data=.fields vs->vs[1]?≠some (.str q t)):cO C ⟨R.ρ,h',R.fz⟩ b:=
 let z:=G.dead hb;⟨z.2.1,z.2.2.1,z.2.2.2,z.1,G.unfz hb,ob,e,h1,h2⟩
theorem bP.asides(G:bP C R μ){as:List Tw}(k:∀b o,b∉as->R.h.get? b=some o->h'.get? b=some o)(fr:∀b∈as,cO C R b):bP C ⟨R.ρ,h',R.fz⟩ μ∧au as R ⟨R.ρ,h',R.fz⟩:=by
 have code:∀cd q,R.h.CodeRec cd q->h'.CodeRec cd q:=by
  intro cd q zq;refine lQ zq ?_;clear zq;intro c o vs t e g d v;refine⟨c,o,vs,t,e,k c o (λhc=>?_) g,d,v⟩;refine aM ((fr c hc).obj) ?_;rintro ob e1-e3;cases g.symm.trans e1;exact e3 _ _ _ d v
 have L:au as R ⟨R.ρ,h',R.fz⟩:=by
  refine⟨λZ Z h=>h,λZ Z h=>.inl h,?_,λc o e Z hc=>⟨o,k c o hc e,.inl rfl⟩,λc o hc e=>⟨o,k c o hc e⟩,code,λa o f e=>⟨f,k a o (λz=>(fr a z).fz f) e⟩,λZ=>.inl⟩;rintro a i ⟨o,e,hc,m,r⟩;refine⟨o,k a o (λha=>?_) e,hc,m,r⟩;refine aM ((fr a ha).obj) ?_;rintro ob e1 e2 -;cases e.symm.trans e1;exact e2 _ _ r hc
 have keep:∀{b:Tw},b∉as->(∃o,R.h.get? b=some o)->h'.get? b=R.h.get? b:=λhb ⟨o,e⟩=>by refine rwr e ?_;exact k _ _ hb e
 have old:∀{b:Tw}{o:Obj},C.h₀.get? b=some o->h'.get? b=some o:=λ{b o} e=>k b o (λhc=>nn (fr b hc).old e) (G.keep b o e);have fz:∀c,fh R c->h'.get? c=R.h.get? c:=λc hc=>keep (λz=>(fr _ z).frz hc) (let⟨ob,v,e,_⟩:=G.frz c hc;⟨ob,e⟩);refine⟨⟨G.next,λq p hp=>?_,G.cod,λb o=>old,G.old,G.apart,λc hc=>?_,λP hP=>?_,λa ha=>?_⟩,L⟩
 ·refine ag (G.dom q p hp) ?_;intro o e r;refine ag (r.solid (.inl rfl)) ?_;rintro o1 e1 -;refine ag (r.solid (.inr rfl)) ?_;rintro o2 e2 -;exact⟨o,e,r.move L (keep (λz=>(fr _ z).own ⟨q,p,hp,.inl rfl⟩) ⟨o1,e1⟩) (keep (λz=>(fr _ z).own ⟨q,p,hp,.inr rfl⟩) ⟨o2,e2⟩) λc hc=>fz c ⟨q,p,hp,hc⟩⟩
 ·refine aL (G.frz c hc) ?_;intro ob v e d;exact⟨ob,v,(fz c hc).trans e,d⟩
 ·refine aM (G.vol P hP) ?_;intro ps e1 e2 e3;exact⟨ps,(keep (λz=>(fr _ z).vol hP) ⟨_,e1⟩).trans e1,e2,λpos cv z=>code _ _ (e3 pos cv z)⟩
 ·refine ak (G.fz a ha) ?_;intro z n;refine fU z ?_;intro vs c e;exact⟨⟨vs,c,k a _ (λz=>(fr a z).fz ha) e⟩,n⟩
theorem bP.fzNot(G:bP C R μ){b:Tw}{o:Obj}(e:R.h.get? b=some o)(h:∀vs k,o.data≠.seq vs k):¬R.fz b:=λf=>by refine fU (G.fz b f).1 ?_;intro vs k e';cases e.symm.trans e';exact h _ _ rfl
end
theorem kL.same{fr:List Tt}{h':UT}(F:kL C R fr)(k:∀L o es ep,R.h.get? L=some o->o.data=.dict es ep->∃o' es' ep',h'.get? L=some o'∧o'.data=.dict es' ep'):kL C ⟨R.ρ,h',R.fz⟩ fr:=λf hf=>by
 refine ak (F f hf) ?_;intro a zq;refine gE zq ?_;clear zq;intro L o es ep a1 a2 a3 a4 a5 a6;refine eS (k L o es ep a5 a6) ?_;intro o' es' ep' b1 b2;exact⟨a,L,o',es',ep',a1,a2,a3,a4,b1,b2⟩
section
variable{F:dP C Γ}{P:Pt C}{en:En}{E:SU->SW->Prop}
theorem ER.locFree(er:ER F P.R en):cO C P.R F.menv.locals:=by
 refine ag er.ns ?_;rintro m zq1 -;refine fL zq1 ?_;clear zq1;rintro o es ep ho hd -;refine⟨er.lown,λhf=>?_,F.lvol,F.lold,P.good.fzNot ho (λvs k z=>Ta (hd.symm.trans z)),o,ho,λxs n z=>(Ta (hd.symm.trans z)),λvs q t z=>(Ta (hd.symm.trans z))⟩;refine aH (P.good.frz _ hf) ?_;rintro oc v e d -;cases ho.symm.trans e;exact Ta (hd.symm.trans d)
theorem jI(er:ER F P.R en){X:List Tw}(hl:F.menv.locals∈X){nm:Str}{q:Pa}{x:KV}{v:SU}(hs:Γ.slot nm=some q)(hk:Γ.kd nm=some .local∨Γ.kd nm=some .cell∧C.asg nm=true)(hcx:Γ.kd nm=some .cell->∀ca,F.menv.cells.lookup nm=some ca->ca∈X)(rv:VR C P.R x v){Q:Unit->SW->Prop}
  (k:∀P':Pt C,P'.m=P.m->au X P.R P'.R->ER F P'.R (tp q x en)->Q () P'.s):Tb (Tn C.prog C.w) F.A (storeName F.menv nm v) Q E P.s:=by
 refine ag er.ns ?_;intro m ns hold;have other:∀{nm' q' y},Γ.slot nm'=some q'->tg q' (tp q x en)=some y->nm'=nm∧y=x∨nm'≠nm∧tg q' en=some y:=λ{nm' q' y} h1 h2=>by
  by_cases e:q'=q
  ·subst e;rw[aW]at h2;cases h2;exact .inl ⟨Γ.slot_inj h1 hs,rfl⟩
  ·rw[am _ e]at h2;exact .inr ⟨λz=>e (Ti (h1.symm.trans (z▸hs))),h2⟩
 rcases hk with hk|zq
 ·refine wpAny_storeName_local (s:=P.s) ((F.kof nm).trans hk) ns (λh' ns' hs'=>?_) (by refine rwr F.kind ?_;rfl);refine ak (P.good.asides (as:=[F.menv.locals]) (h':=h') (λb o hb e=>(hs'.2 b (by simpa using hb)).trans e) (λb hb=>by simp at hb;subst hb;exact er.locFree)) ?_;intro G' L';refine k ⟨⟨P.R.ρ,h',P.R.fz⟩,P.m,_,G'⟩ rfl (L'.mono λb hb=>by simp at hb;subst hb;exact hl) ⟨⟨_,ns',λnm' q' y h1 h2=>?_⟩,er.lown,λnm' ca hca=>?_,er.fr.same λL o es ep e d=>?_⟩
  ·rcases other h1 h2 with zq|zq
   ·refine ak zq ?_;clear zq;rintro rfl rfl;exact .inl ⟨hk,v,by exact if_pos rfl,rv.later L'⟩
   ·refine ak zq ?_;clear zq;intro hne h2;refine(hold nm' q' y h1 h2).el ?_ ?_
    ·intro k u hu ru;exact .inl ⟨k,u,by simp[hne,hu],ru.later L'⟩
    ·intro k ca oc u hca hoc hd ru;exact .inr ⟨k,ca,oc,u,hca,(hs'.2 ca (F.cell nm' ca hca).2.2).trans hoc,hd,ru.later L'⟩
  ·refine bf (er.cells nm' ca hca) ?_;intro a zq1 b;refine aL zq1 ?_;clear zq1;intro ob v e d;exact⟨a,⟨ob,v,(hs'.2 ca (F.cell nm' ca hca).2.2).trans e,d⟩,b⟩
  ·by_cases z:L=F.menv.locals
   ·subst z;refine fL ns' ?_;clear ns';rintro o2 es2 ep2 q1 q2 -;exact⟨o2,es2,ep2,q1,q2⟩
   ·exact⟨o,es,ep,(hs'.2 L z).trans e,d⟩
 ·refine ak zq ?_;clear zq;intro hk ha;refine KE (F.cdom nm (.inl hk)) ?_;intro ca hca;refine bf (er.cells nm ca hca) ?_;intro c1 zq1 c3;refine aL zq1 ?_;clear zq1;intro ob v0 ho hd;refine bf (F.cell nm ca hca) ?_;intro c4 c5 c6;refine wpAny_storeName_cell (s:=P.s) F.kind ((F.kof nm).trans hk) hca ⟨ob,ho,hd⟩ λh' hcell hs'=>?_;have Fr:cO C P.R ca:=⟨c1,c3 ha,c5,c4,P.good.fzNot ho (λvs k z=>Ta (hd.symm.trans z)),ob,ho,λxs n z=>(Ta (hd.symm.trans z)),λvs q t z=>(Ta (hd.symm.trans z))⟩
  refine ak (P.good.asides (as:=[ca]) (h':=h') (λb o hb e=>(hs'.2 b (by simpa using hb)).trans e) (λb hb=>by simp at hb;subst hb;exact Fr)) ?_;intro G' L';refine k ⟨⟨P.R.ρ,h',P.R.fz⟩,P.m,_,G'⟩ rfl (L'.mono λb hb=>by simp at hb;subst hb;exact hcx hk _ hca) ⟨⟨m,ns.sameBut hs' c6.symm,λnm' q' y h1 h2=>?_⟩,er.lown,λnm' cb hcb=>?_,er.fr.same λL o es ep e d=>?_⟩
  ·rcases other h1 h2 with zq|zq
   ·refine ak zq ?_;clear zq;rintro rfl rfl;refine ag hcell ?_;clear hcell;intro oc e1 e2;exact .inr ⟨.inl hk,ca,oc,v,hca,e1,e2,rv.later L'⟩
   ·refine ak zq ?_;clear zq;intro hne h2;refine(hold nm' q' y h1 h2).el ?_ ?_
    ·intro k u hu ru;exact .inl ⟨k,u,hu,ru.later L'⟩
    ·intro k cb oc u hcb hoc hdc ru;exact .inr ⟨k,cb,oc,u,hcb,(hs'.2 cb λz=>hne (F.inj _ _ ca (z▸hcb) hca)).trans hoc,hdc,ru.later L'⟩
  ·refine bf (er.cells nm' cb hcb) ?_;intro a zq1 b;refine aL zq1 ?_;clear zq1;intro ob' v' e d;refine⟨a,?_,b⟩;by_cases z:cb=ca
   ·subst z;refine ag hcell ?_;clear hcell;intro oc e1 e2;exact⟨oc,_,e1,e2⟩
   ·exact⟨ob',v',(hs'.2 cb z).trans e,d⟩
  ·exact⟨o,es,ep,(hs'.2 L λz=>by rw[z,ho]at e;cases e;exact Ta (hd.symm.trans d)).trans e,d⟩
end
def pw(C:Cx)(Γ:d6)(cc:Bool)(e:SQ)(t:Tg):Prop:=bx e=false∧(∀x en k,t x en k=true->∃en',k en'=true)∧∀(F:dP C Γ)(P:Pt C)(en:En)(X:List Tw)(x:KV)(v:SU)(k:En->Bool)(Q:Unit->SW->Prop)(E:SU->SW->Prop),F.menv.locals∈X->(cc=true->∀nm ca,F.menv.cells.lookup nm=some ca->ca∈X)->
 ER F P.R en->t x en k=true->VR C P.R x v->(∀(P':Pt C)(en':En),P'.m=P.m->au X P.R P'.R->ER F P'.R en'->k en'=true->Q () P'.s)->Tb (Tn C.prog C.w) F.A (assign e F.menv v) Q E P.s
def qj(C:Cx)(Γ:d6)(cc:Bool)(es:List SQ)(t:Tg):Prop:=(∀menv,(assignEach es menv).length=es.length∧(assignEach es menv).findIdx? (·.1)=none)∧(∀x en k,t x en k=true->(∃en',k en'=true)∧len x=es.length∧((∃y z,x=.cons y z)∨x=.nil))∧
 ∀(F:dP C Γ)(P:Pt C)(en:En)(X:List Tw)(x:KV)(vs:List SU)(k:En->Bool)(Q:Unit->SW->Prop)(E:SU->SW->Prop),F.menv.locals∈X->(cc=true->∀nm ca,F.menv.cells.lookup nm=some ca->ca∈X)->
 ER F P.R en->t x en k=true->bG C P.R x vs->(∀(P':Pt C)(en':En),P'.m=P.m->au X P.R P'.R->ER F P'.R en'->k en'=true->Q () P'.s)->Tb (Tn C.prog C.w) F.A (assignInOrder ((assignEach es F.menv).map (·.2)) vs) Q E P.s
variable{cc:Bool}
theorem dR{e:SQ}(h:bx e=false)(r:List SQ)(menv:Tt):assignEach (e::r) menv=(false,assign e menv)::assignEach r menv:=by cases e<;>first|rfl|exact qd h
theorem kZ{nm:Str}{q:Pa}{p:Pos}(hs:Γ.slot nm=some q)(hk:Γ.kd nm=some .local∨Γ.kd nm=some .cell∧C.asg nm=true∧cc=true):pw C Γ cc (.Name nm p) (t1 q):=
 ⟨rfl,λx en k h=>⟨_,h⟩,λF P en X x v k Q E hl hcx er h rv K=>wpAny_assign_Name (jI er hl hs (hk.imp id λz=>⟨z.1,z.2.1⟩) (λz ca=>hk.elim (λw=>by rw[w]at z;contradiction) λw=>hcx w.2.2 nm ca) rv λP' e L r=>K P' _ e L r h)⟩
theorem w4{a r:Tg}{x:KV}{en:En}{k:En->Bool}(h:tC a r x en k=true){G:Prop}(k0:∀y z,(a y en (λe=>r z e k)=true)->x=.cons y z->G):G:=by
 cases x with
 |cons y z=>exact k0 y z h rfl
 |_=>exact aD h
theorem xI:qj C Γ cc [] tN:=⟨λzz=>⟨rfl,rfl⟩,(λx en k h=>by cases x<;>first|exact⟨⟨en,h⟩,rfl,.inr rfl⟩|exact aD h),λF P en X x vs k Q E hl hcx er h rv K=>by
 cases x with
 |nil=>cases rv;exact SR (K P en rfl (.refl _ _) er h)
 |_=>exact aD h⟩
theorem uH{e:SQ}{es:List SQ}{t r:Tg}(ht:pw C Γ cc e t)(hr:qj C Γ cc es r):qj C Γ cc (e::es) (tC t r):=
 ⟨λmenv=>by rw[dR ht.1];refine ak (hr.1 menv) ?_;intro a b;exact⟨congrArg Te a,by simp[List.findIdx?_cons,b]⟩,
 λx en k h=>by
  refine w4 h ?_;clear h;rintro y z h rfl;refine aw (ht.2.1 _ _ _ h) ?_;clear h;intro en' h;refine bf (hr.2.1 _ _ _ h) ?_;rintro a b -;exact⟨a,congrArg Te b,.inl ⟨y,z,rfl⟩⟩,
 λF P en X x vs k Q E hl hcx er h rv K=>by
  refine w4 h ?_;clear h;rintro y z h rfl;refine aH rv ?_;clear rv;rintro v us rfl r1 r2;have r2:bG C P.R z us:=r2;rw[dR ht.1];show Tb _ _ (do holding us (assign e F.menv v);assignInOrder ((assignEach es F.menv).map (·.2)) us) _ _ _;exact SO (TH (ht.2.2 F P en X y v _ _ E hl hcx er h r1 λP1 yI e1 L1 er1 h1=>hr.2.2 F P1 yI X z us k Q E hl hcx er1 h1 (r2.later L1) λP2 en2 e2 L2=>K P2 en2 (e2.trans e1) (L1.trans L2)))⟩
theorem zW(lo:Γ.loud=true){es:List SQ}{t:Tg}{n:Nat}{p:Pos}(ht:qj C Γ cc es t):pw C Γ cc (.Tuple es n p) t:=
 ⟨rfl,λx en k h=>(ht.2.1 x en k h).1,λF P en X x v k Q E hl hcx er h rv K=>by
  refine bf (ht.2.1 x en k h) ?_;rintro -hlen hx;have:∃a vs,v=.ref a∧P.R.h.IsTuple a vs.toArray∧bG C P.R x vs:=by
   rcases hx with zq|rfl
   ·refine fU zq ?_;clear zq;rintro y z rfl;refine ew rv ?_;clear rv;rintro a u us rfl ht h1 h2 -;exact⟨a,u::us,rfl,ht,u,us,rfl,h1,h2⟩
   ·refine ag rv ?_;clear rv;rintro a rfl ht;exact⟨a,[],rfl,ht,rfl⟩
  refine aH this ?_;clear this;rintro a vs rfl hT rs;refine ak (ht.1 F.menv) ?_;intro s1 s2;refine wpAny_assign_Tuple (s:=P.s) (F.handled lo) hT (by refine rwr s1 (rwl hlen (rwr rs.len_eq ?_));rfl) s2 λh' hx=>?_;have kp:bB P.R.h h':=λb o e=>hx b o (UU (Ui e)) e;exact ht.2.2 F (P.more kp P.t) en X x vs k Q E hl hcx (er.later (.keeps _ kp)) h (rs.later (.keeps [] kp)) λP' en' e L=>K P' en' e ((au.keeps X kp).trans L)⟩
end
end
section
set_option compiler.extract_closed false
section
open PySem PySem.W PyProof.Rows
variable{C:Cx}{Γ:d6}{R R':Wd}
noncomputable def qM(nm:Str)(v:SU)(hs:Int)(tk:Tok)(es:List TR):List TR:=match es.findIdx? (·.key.isStr nm)with
 |some i=>es.modify i λe=>{e with val:=v}
 |none=>es++[⟨hs,.str nm tk,v⟩]
theorem l6{nm:Str}{v:SU}{hs:Int}{tk:Tok}{e:TR}{r:List TR}:qM nm v hs tk (e::r)=if e.key.isStr nm then{e with val:=v}::r else e::qM nm v hs tk r:=by
 unfold qM;refine rwr (List.findIdx?_cons) ?_;cases e.key.isStr nm with
 |true=>rfl
 |false=>
  show(match(r.findIdx? _).map (·+1)with|some i=>_|none=>_)=_;cases r.findIdx? (·.key.isStr nm)<;>rfl
theorem tH{k:SU}{nm nm':Str}(h:k.isStr nm=true)(n:nm'≠nm):k.isStr nm'=false:=by
 cases k with
 |str s t=>
  have h:(s==nm)=true:=h;show(s==nm')=false;refine rwr (beq_iff_eq.mp h) ?_;exact beq_false_of_ne n.symm
 |_=>rfl
theorem gT{nm:Str}{e:TR}{r:List TR}:iE (e::r) nm=if e.key.isStr nm then some e.val else iE r nm:=by
 unfold iE;refine rwr (List.find?_cons) ?_;cases e.key.isStr nm<;>rfl
theorem ka{nm nm':Str}{v:SU}{hs:Int}{tk:Tok}:∀es:List TR,iE (qM nm v hs tk es) nm'=if nm'=nm then some v else iE es nm'
 |[]=>by
  show iE [⟨hs,.str nm tk,v⟩] nm'=_;refine rwr gT ?_;by_cases n:nm'=nm
  ·subst n;exact rwr (if_pos rfl) (rwr (if_pos (show(Value.str nm' tk).isStr nm'=true from beq_self_eq_true nm')) rfl)
  ·rw[if_neg n,if_neg (by rw[show(Value.str nm tk).isStr nm'=false from beq_false_of_ne (Ne.symm n)];exact Tq)]
 |e::r=>by
  refine rwr l6 (rwr gT ?_);have ih:=ka (nm:=nm) (nm':=nm') (v:=v) (hs:=hs) (tk:=tk) r;cases h:e.key.isStr nm with
  |true=>
   refine rwr (if_pos rfl) (rwr gT ?_);by_cases n:nm'=nm
   ·subst n;exact rwr (if_pos h) (rwr (if_pos rfl) rfl)
   ·rw[if_neg (by rw[tH h n];exact Tq),if_neg n,if_neg (by rw[tH h n];exact Tq)]
  |false=>
   refine rwr (if_neg Tq) (rwr gT (rwr ih ?_));by_cases n:nm'=nm
   ·subst n;rw[if_neg (by rw[h];exact Tq),if_pos rfl,if_pos rfl]
   ·exact rwr (if_neg n) (rwr (if_neg n) rfl)
theorem pN{nm:Str}{v:SU}{hs:Int}{tk:Tok}:∀es:List TR,(qM nm v hs tk es).length=if(iE es nm).isSome then es.length else es.length+1
 |[]=>rfl
 |e::r=>by
  refine rwr l6 (rwr gT ?_);have ih:=pN (nm:=nm) (v:=v) (hs:=hs) (tk:=tk) r;cases h:e.key.isStr nm with
  |true=>rfl
  |false=>
   rw[if_neg Tq,if_neg Tq,Vx,ih]
   split<;>rfl
theorem nE{nm:Str}{v:SU}{hs:Int}{tk:Tok}:∀es:List TR,es.any (·.refKey)=false->(qM nm v hs tk es).any (·.refKey)=false
 |[],_=>rfl
 |e::r,h=>by
  refine rwr l6 ?_;rw[List.any_cons,W5]at h
  split
  ·refine rwr List.any_cons (rwr h.2 ?_);show(e.refKey||false)=false;refine rwr h.1 ?_;rfl
  ·refine rwr List.any_cons (rwr h.1 (rwr (nE r h.2) ?_));rfl
theorem vH.put{P₀:Pg}(O:C.Ok P₀){nm:Str}{sl:Pa}{x:KV}{v:SU}{hs:Int}{tk:Tok}{fs:T KV}{es:List TR}(hn:C.sl nm=some sl)(rv:VR C R x v)(f:vH C R fs es):vH C R (tp sl x fs) (qM nm v hs tk es):=by
 refine bf f ?_;clear f;intro f1 f2 zq;refine aM zq ?_;clear zq;intro ns n1 n2 n3;refine⟨nE es f1,λnm'=>?_,?_⟩
 ·rw[ka];by_cases n:nm'=nm
  ·subst n;rw[if_pos rfl,hn,UD,aW];exact rv
  ·rw[if_neg n];have h:=f2 nm';cases e:C.sl nm' with
   |none=>rw[e]at h;exact h
   |some q=>rw[e,UD]at h;rw[UD,am _ λz:q=sl=>n (O.slI _ _ _ e (z▸hn))];exact h
 ·rw[pN];cases e:iE es nm with
  |some w=>exact⟨ns,n1,n2,λnm' h'=>by rw[ka];split;rfl;exact n3 nm' h'⟩
  |none=>
   refine⟨nm::ns,U3.mpr ⟨λh=>(by have:=n3 nm h;rw[e]at this;exact aD this),n1⟩,congrArg Te n2,λnm' h'=>?_⟩;rw[ka]
   split
   ·rfl
   ·rename_i z;exact n3 nm' ((T8.mp h').resolve_left z)
theorem sV:∀{ns l:List Str},ns.Nodup->(∀x∈ns,x∈l)->ns.length≤l.length
 |[],_,_,_=>TQ _
 |a::r,l,h,k=>by
  refine PZ h ?_;intro h1 h2;have ha:=k a SX;have:=sV (l:=l.erase a) h2 λx hx=>(List.mem_erase_of_ne λz:x=a=>h1 (z▸hx)).mpr (k x (T5 _ hx));rw[List.length_erase_of_mem ha]at this;have:=List.length_pos_of_mem ha;refine rwr Vx ?_;lia
theorem vH.size{P₀:Pg}(O:C.Ok P₀){fs:T KV}{es:List TR}(f:vH C R fs es):es.length≤500:=by
 refine bf f ?_;clear f;intro f1 f2 zq;refine aM zq ?_;clear zq;intro ns n1 n2 n3;refine ag O.slots ?_;intro l hl hm;refine rwl n2 ?_;refine SV (sV n1 λx hx=>?_) hl;have h:=f2 x;refine KE (n3 x hx) ?_;intro w hw;rw[hw]at h;cases e:C.sl x with
 |none=>rw[e]at h;exact h.elim
 |some q=>exact hm x q e
section
variable{P₀:Pg}(O:C.Ok P₀){P:Pt C}{A:U6}{E:SU->SW->Prop}
include O
set_option tactic.hygienic true in
theorem sK{nm:Str}{sl:Pa}{w x:KV}{ov v:SU}{k:K0}{Q:Unit->SW->Prop}(hn:C.sl nm=some sl)(ro:VR C P.R w ov)(rv:VR C P.R x v)(h:uN sl k P.m w x=true)
  (q:∀P':Pt C,(∀X,au X P.R P'.R)->k P'.m=true->Q () P'.s):Tb (Tn C.prog C.w) A (setAttr ov nm v) Q E P.s:=by
 refine bw h ro ?_;clear h ro;rintro q' p hp h-rfl;refine aF h hp ?_;clear h;rintro o-r h;refine l7 h r ?_;clear h r;rintro c fs a es n' hc I hf h rfl;refine j6 (O.ga c a hc) ?_;intro ga gat sa over hd;have X:C.K.In P.R.h:=O.K.keeps P.good.keep;have htk:takerIn C.K a nm=some none:=by
  rcases O.attr c a nm sl hc hn with h1|zq
  ·unfold takerIn;rw[h1];rfl
  ·refine aL zq ?_;clear zq;intro j tk h1 _;unfold takerIn;rw[h1];have:takesIn C.K (.int j tk)=some false:=by
    unfold takesIn;rw[show specialIn C.K (.int j tk) "__set__"=some none from by show fastLookup "int" "__set__"=some none;decide+kernel,
     show specialIn C.K (.int j tk) "__delete__"=some none from by show fastLookup "int" "__delete__"=some none;decide+kernel];rfl
   simp only[UD,this,Option.map_some];rfl
 obtain⟨hob,_,_,hdict⟩:=id I;refine set_plain (s:=P.s) X I sa (osa_open (s:={P.s with toks:=_}) X I over htk λb=>?_);refine ag (any_some hd) ?_;intro cd hcd hd';refine SO (SR (SO (SO (wpAny_loadPart hob (SO ((looks_clsIn X hcd).here ?_))))));rw[hd'];refine SR (a:=some p.snd) (SO (SR (SO ?_)));unfold nsSet;refine SO (SO (wpAny_askSetting (SR (SO (wpAny_mkText (SO (wpAny_loadPart hdict ?_)))))));dsimp only;rw[aRefKeyMayBeTheName_at];have hnr:es.toArray.any (·.refKey)=false:=by rw[List.any_toArray];exact hf.1
 rw[hnr,Bool.and_false,if_neg Tq];refine wpAny_updatePart hdict ?_;generalize(if nm.cps.isEmpty=true then 0 else reduceHash ((Tn C.prog C.w).w.params.strHash nm.cps))=kh;have hput:∃n2,Obj.putName nm kh (.str nm (P.t+1)) v (dictOf es n')=dictOf (qM nm v kh (P.t+1) es) n2:=by
  refine rwr Obj.putName_eq ?_;unfold Obj.putNameByArray dictOf qM;dsimp only;refine rwr (show es.toArray.findIdx? (λx=>x.key.isStr nm)=es.findIdx? (λx=>x.key.isStr nm) by simp) ?_;cases es.findIdx? (λx=>x.key.isStr nm)with
  |some i=>exact⟨n',by simp⟩
  |none=>exact⟨n'+1,by simp⟩
 refine aw hput ?_;clear hput;intro n2 he2;have hg:=Ua (Obj.putName nm kh (.str nm (P.t+1)) v) hdict (by refine rwr he2 ?_;rfl);rw[he2]at hg;have hf2:=hf.put O (hs:=kh) (tk:=P.t+1) hn rv;have hl2:=hf2.size O;have hne:p.fst≠p.snd:=λz=>by rw[z,hdict]at hob;cases hob
 have hsb:U7 p.snd P.R.h (P.R.h.update p.snd (Obj.putName nm kh (.str nm (P.t+1)) v)):=U0 ..;refine SO (wpAny_lookBehind hg (pastItsLine_dict (by refine rwr Vo (rwr VM ?_);exact SV hl2 (TB 500 16776717))) ?_);refine d9 (P.set_ (o':=.inst c (tp sl x fs)) hp (.inr rfl) hsb ⟨_,hg⟩ (λL=>⟨a,hc,(hsb.2 _ hne).trans hob,_,n2,hg,hf2.1,λnm=>(hf2.2.1 nm).imp λZ Z h=>h.later L,hf2.2.2⟩) (P.t+1+1)) ?_;intro P' e1 e2 e3 L;exact SR (e3▸q P' L (by refine rwr e2 ?_;exact h))
end
end
end
section
set_option compiler.extract_closed false
section
open PySem PySem.W PyProof.Rows
variable{C:Cx}{Γ:d6}{R R':Wd}
theorem l0{prog:Vl}{w:VX}{A:U6}{E:SU->SW->Prop}{s:SW}{l:Tw}{o:Obj}{items:Array SU}{ne:Nat}{k:Int}{j:Nat}{tk:Tok}{v:SU}{Q:Unit->SW->Prop}(ho:s.heap.get? l=some o)(hc:o.cls=.type "list")(hd:o.data=.seq items ne)
  (hk:k=j) (hfit:k<2^63) (hj:j<items.size) (hQ:Q () {s with heap:=s.heap.update l (Wa (·.setIfInBounds j v))}):Tb (Tn prog w) A (setItem (.ref l) (.int k tk) v) Q E s:=by
 have hl:s.heap.IsList l items:=⟨o,ho,hc,ne,hd⟩
 unfold setItem;refine TH (SO (W0 hl.typeIs (by decide) ?_));refine SO (TV (name:=Tu "__setitem__") hl.typeIs F.slot_list_setitem
  (TJ F.slot_list_setitem hl.typeIs F.entry_list_setitem ?_ (F.args_list_setitem_3 _ _ _)))
 show Tb _ _ (VQ (.int k tk)>>=_) _ _ s;refine SO (wpAny_listSubscript_int (fitsIndex_of (by simp_all+arith) hfit) ?_);clear hfit;subst hk;show Tb _ _ ((seqItemAt l j>>=λr=>pure (r.map (j,·)))>>=_) _ _ s;refine SO (SO (wpAny_seqItemAt ho hd (SR ?_)));refine rwr (U1 hj) ?_;show Tb _ _ (setSeqItemAt l j v>>=_) _ _ s;refine SO (wpAny_setSeqItemAt ho hd ?_);first
  |exact SO (SR (SR ⟨.none,rfl,SR hQ⟩))
  |exact SR ⟨.none,rfl,SR hQ⟩
section
variable{P:Pt C}{A:U6}{E:SU->SW->Prop}
theorem oy{q':Pa}{p:iK}{n m:Nat}{es:KD}{i x:KV}{iv v:SU}{Q:Unit->SW->Prop}(hA:A.units+6<cLine)(hp:P.R.ρ q'=some p)(r:oW C P.R n es p)(ri:VR C P.R i iv)(rv:VR C P.R x v)(h1:pk i=true)(hm:m=if(dl es i).isSome then n else n+1)(hl:m≤100000)
  (K:∀P':Pt C,(∀X,au X P.R P'.R)->P'.m=bV P.m q' (.dict m (dset es i x))->Q () P'.s):Tb (Tn C.prog C.w) A (dictSet p.fst iv v) Q E P.s:=by
 refine ak r ?_;intro he zq;refine j5 zq ?_;intro ob es' ep hob hx hdat hE hnd hn hl0 hep;refine ya (s:=P.s) h1 ri rfl hob hdat hE hA hnd rv hx (by refine rwl hn ?_;exact SV hl0 cQ) λh' t' o' es2 ep2 g1 g2 g3 hsb hE2 hnd2 hep2 hln=>?_;have hm:m=(pairs (dset es i x)).length:=by refine rwr hln (rwl hn ?_);exact hm
 refine d9 (P.set_ (o':=.dict m (dset es i x)) hp (.inl rfl) hsb ⟨_,g1⟩ (λL=>⟨he,o',es2,ep2,g1,g2,g3,hE2.later L,hnd2,hm,hl,(hep2 (hep.trans hn)).trans hm.symm⟩) t') ?_;intro P' e1 e2 e3 L;exact e3▸K P' L e2
theorem Ae{w i x:KV}{ov iv v:SU}{k:K0}{Q:Unit->SW->Prop}(hA:A.units+100<cLine)(ro:VR C P.R w ov)(ri:VR C P.R i iv)(rv:VR C P.R x v)(h:LO k P.m w i x=true)
  (q:∀P':Pt C,(∀X,au X P.R P'.R)->k P'.m=true->Q () P'.s):Tb (Tn C.prog C.w) A (setItem ov iv v) Q E P.s:=by
 refine bw h ro ?_;clear h ro;rintro q' p hp h-rfl;refine aF h hp ?_;clear h;rintro o-r h;cases o with
 |list n xs=>
  refine ak r ?_;clear r;intro he zq;refine dG zq ?_;clear zq;rintro vs c hob rs rfl hl;refine cw h ri ?_;clear h;rintro j t h rfl -;refine dI h ?_;clear h;intro h1 h;have h1:=SP h1;refine l0 (s:=P.s) hob rfl rfl rfl (by lia) h1 ?_;have hg:=Ua (Wa (·.setIfInBounds j v)) hob rfl;refine d9 (P.set_ (o':=.list vs.size (app (take j xs) (.cons x (drop (Te j) xs)))) hp (.inl rfl) (U0 ..) ⟨_,hg⟩ (λL=>⟨he,_,_,hg,by
   rw[Array.toList_setIfInBounds,List.set_eq_take_append_cons_drop,if_pos (by rw[T4];exact h1)];exact((rs.take_ j).append (.cons_ rv (rs.drop_ _))).later L,by simp,hl⟩) P.t) ?_;intro P' e1 e2 e3 L
  exact e3▸q P' L (by refine rwr e2 ?_;exact h)
 |dict n es=>
  have hT:P.s.TypeIs (.ref p.fst) "dict":=by refine ak r ?_;rintro -zq;refine fL zq ?_;rintro ob es' ep hob hx -;exact⟨_,hob,hx.1⟩
  refine dI h ?_;clear h;intro h1 h;refine dI h ?_;clear h;intro h2 h;have h2:=SP h2;unfold setItem;refine TH (SO (W0 hT (by decide) ?_));refine SO (TV (name:=Tu "__setitem__") hT F.slot_dict_setitem
   (TJ F.slot_dict_setitem hT F.entry_dict_setitem ?_ (F.args_dict_setitem_3 _ _ _)))
  show Tb _ _ (Builtin.Dict.notOrdered "__setitem__" ⟨[.ref p.fst,iv,v],[]⟩>>=_) _ _ _;refine SO (wpAny_notOrdered_dict hT ?_);show Tb _ _ (dictSet p.fst iv v>>=_) _ _ _;refine SO (oy (m:=if(dl es i).isSome then n else n+1) (by show A.units+1+_<_;lia) hp r ri rv h1 rfl (by split<;>lia) λP' L e=>?_);refine SR ⟨_,rfl,SR (q P' L ?_)⟩;refine rwr e ?_;unfold cC at h;cases hd:dl es i with
  |none=>rw[hd]at h;exact h
  |some y=>rw[hd]at h;exact h
 |_=>exact aD h
end
theorem pZ{menv:Tt}{b:Tw}(h:b∈C.vol):b∈cJ C menv:=T5 _ (TU _ h)
theorem au.frame{menv:Tt}(L:au C.vol R R'):au (cJ C menv) R R':=L.mono λzz h=>pZ h
theorem eR{menv:Tt}:menv.locals∈cJ C menv:=SX
theorem dO{menv:Tt}{nm:Str}{ca:Tw}(h:menv.cells.lookup nm=some ca):ca∈cJ C menv:=T5 _ (UI _ (List.mem_filterMap.mpr ⟨_,Th h,h⟩))
section
variable{F:dP C Γ}{fr:Fr}{k k':En->K0}{Q:UL->SW->Prop}
theorem KF.later{X:List Tw}(K:KF F R fr k Q)(L:au C.vol R R'):KF F R' fr k Q:=λP fl M=>K P fl (L.frame.trans M)
theorem KF.next{P:Pt C}{en:En}(K:KF F R fr k Q)(L:au (cJ C F.menv) R P.R)(er:ER F P.R en)(h:k en P.m=true):Q .next P.s:=K P .next L ⟨en,er,h⟩
end
noncomputable def gG:SQ->Bool
 |.ListComp _ _ _ _=>true
 |.SetComp _ _ _ _=>true
 |.DictComp _ _ _ _ _=>true
 |_=>false
noncomputable def iZ:SQ->Bool
 |.Tuple _ _ _=>true
 |.List _ _=>true
 |_=>false
theorem jf{e:SQ}(hn:gG e=false)(tg:Option SQ)(l:Nat)(env:Tt):swapsWith e tg l env=pure false:=by
 cases e<;>first|rfl|exact qd hn
theorem jX{t e:SQ}(hn:gG e=false)(l:Nat)(env:Tt):swapsWithSole [t] e l env=pure false:=by
 unfold swapsWithSole;first|exact jf hn _ _ _|(split<;>first|exact jf hn _ _ _|rfl)
theorem fI{t e:SQ}(hn:(iZ t&&iZ e)=false)(env:Tt):swappedStores [t] e env=pure none:=by
 cases t<;>first|rfl|(cases e<;>first|rfl|exact qd hn)
theorem dP.noInter(F:dP C Γ):interactive F.menv=false:=by unfold interactive;refine rwr F.kind ?_;rfl
section
variable{e te:SQ}{x y z:X}{pos p:Pos}{a b o:Y}{d:Cn}
theorem zK(hx:bv C Γ e x)(hn:gG e=false):du C Γ (.Expr e pos) (aX x):=λF P fr k en Q E R h K=>
 wpAny_Expr_any (hx F P en _ _ E R h λP1 u v L r h1=>K.next L.frame (R.later L) h1) F.noInter (jf hn _ _ _)
theorem wa{t:Tg}(hx:bv C Γ e x)(ht:pw C Γ true te t)(hn:gG e=false)(hn2:(iZ te&&iZ e)=false):du C Γ (.Assign [te] e pos) (ao t x):=λF P fr k en Q E R h K=>by
 refine Vi (hx F P en _ _ E R h λP1 u v L r h1=>?_) (jX hn _ _) (fI hn2 _);rw[dR ht.1];refine ht.2.2 F P1 en (cJ C F.menv) u v _ _ E eR (λZ Z Z=>dO) (R.later L) h1 r λP2 en2 e2 L2 R2 h2=>?_;exact K.next (L.frame.trans L2) R2 (by refine rwr e2 ?_;exact h2)
theorem CK(hx:bv C Γ e x):du C Γ (.Return (some e) pos) (bL x):=λF P fr k en Q E R h K=>
 wpAny_Return_some (hx F P en _ _ E R h λP1 u v L r h1=>K P1 (.ret v) L.frame ⟨u,r,h1⟩)
theorem zw:du C Γ (.Return none pos) F0:=λF P fr k en Q E R h K=>wpAny_Return_none (K P (.ret .none) (.refl _ _) ⟨.none,.none_,h⟩)
theorem D0:du C Γ (.Break pos) mR:=λF P fr k en Q E R h K=>wpAny_Break (K P .brk (.refl _ _) ⟨en,R,h⟩)
theorem zS:du C Γ (.Continue pos) lJ:=λF P fr k en Q E R h K=>wpAny_Continue (K P .cont (.refl _ _) ⟨en,R,h⟩)
theorem zy:du C Γ (.Pass pos) ab:=λF P fr k en Q E R h K=>wpAny_Pass (K.next (.refl _ _) R h)
theorem A8:lI C Γ [] ab:=λF P fr k en Q E R h K=>wpAny_execs_nil (K.next (.refl _ _) R h)
theorem pH{s:W8}{ss:List W8}(ha:du C Γ s a)(hb:lI C Γ ss b):lI C Γ (s::ss) (ac a b):=λF P fr k en Q E R h K=>by
 refine Wg (ha F P fr _ en _ E R h λP1 fl L f=>?_);cases fl with
 |next=>refine ag f ?_;clear f;intro yI R1 h1;exact hb F P1 fr k yI Q E R1 h1 λP2 fl2 L2=>K P2 fl2 (L.trans L2)
 |_=>exact K P1 _ L f
theorem zE{body orelse:List W8}(hd:fW C Γ e d)(ha:lI C Γ body a)(hb:lI C Γ orelse b):du C Γ (.If e body orelse pos) (bE d a b):=λF P fr k en Q E R h K=>by
 refine wpAny_If (hd F P en _ _ _ E R h λP1 c L h1=>?_);cases c with
 |true=>exact ha F P1 fr k en Q E (R.later L) h1 (KF.later (X:=[]) K L)
 |false=>exact hb F P1 fr k en Q E (R.later L) h1 (KF.later (X:=[]) K L)
theorem D6{m:Option SQ}(hd:fW C Γ e d):du C Γ (.Assert e m pos) (Gf d):=λF P fr k en Q E R h K=>by
 refine wpAny_Assert_holds (hd F P en _ _ _ E R h λP1 c L h1=>?_);cases c with
 |true=>exact⟨rfl,K.next L.frame (R.later L) h1⟩
 |false=>exact aD h1
theorem D3{nm:Str}{q:Pa}{op:WZ}{g:KT->KV->KT}(hs:Γ.slot nm=some q)(hk:Γ.kd nm=some .local∨Γ.kd nm=some .cell∧C.asg nm=true)(hc:(nm==("__classdict__":Str))=false)(hg:oZ C op g)(hx:bv C Γ e x):du C Γ (.AugAssign (.Name nm p) op e pos) (uo q g x):=λF P fr k en Q E R h K=>by
 refine aB h ?_;clear h;intro u h hu;refine sd R hs hu hc ?_;intro v rv ld;refine cw h rv ?_;clear h;rintro n t h rfl rfl;refine wpAny_AugAssign_Name (ld (t:=P.t) (hx F P en _ _ E R h λP1 w z L r h1=>?_));refine hg P1 F.A _ _ E (.nat n) _ w z (.inl ⟨n,rfl⟩) .nat_ r h1 λP2 y v2 L2 r2 h2=>?_;exact jI (R.later (L.trans L2)) eR hs hk (λZ Z=>dO) r2 λP3 e3 L3 R3=>K.next ((L.trans L2).frame.trans L3) R3 (by refine rwr e3 ?_;exact h2)
section
variable{P₀:Pg}(O:C.Ok P₀)
include O
theorem qH{nm:Str}{sl:Pa}{o:SQ}(hn:C.sl nm=some sl)(hc:gG e=false)(hx:bv C Γ e x)(ho:bv C Γ o y):du C Γ (.Assign [.Attribute o nm p] e pos) (cF sl y x):=λF P fr k en Q E R h K=>by
 refine Vi (hx F P en _ _ E R h λP1 u v L r h1=>?_) (jX hc _ _) (fI rfl _);rw[dR rfl];show Tb _ _ (assign (.Attribute o nm p) F.menv v) _ _ _;rw[arm_assign_Attribute];refine SO (TH (ho F P1 en _ _ E (R.later L) h1 λP2 w ov L2 ro h2=>?_));refine SO (Uv (SO (TH (sK O hn ro (r.later L2) h2 λP3 L3 h3=>wpAny_release ?_))));exact K.next ((L.trans L2).trans (L3 _)).frame (R.later ((L.trans L2).trans (L3 _))) h3
omit O in
theorem wb{o i:SQ}{z:X}(hc:gG e=false)(hi:gB i=false)(hx:bv C Γ e x)(ho:bv C Γ o y)(hz:bv C Γ i z):du C Γ (.Assign [.Subscript o i p] e pos) (bR y z x):=λF P fr k en Q E R h K=>by
 refine Vi (hx F P en _ _ E R h λP1 u v L r h1=>?_) (jX hc _ _) (fI rfl _);rw[dR rfl];show Tb _ _ (assign (.Subscript o i p) F.menv v) _ _ _;rw[arm_assign_Subscript];refine SO (TH (ho F P1 en _ _ E (R.later L) h1 λP2 w ov L2 ro h2=>SO (TH (hz F P2 en _ _ E (R.later (L.trans L2)) h2 λP3 j iv L3 ri h3=>?_))));refine SO (Uv (SO (TH (Ae F.units (ro.later L3) ri ((r.later L2).later L3) h3 λP4 L4 h4=>wpAny_release ?_))));have M:=((L.trans L2).trans L3).trans (L4 _);exact K.next M.frame (R.later M) h4
theorem w9{nm:Str}{sl:Pa}{o:SQ}{op:WZ}{rd:KT->KT}{g:KT->KV->KT}{gg:KT->KS->Nat->T KV->Bool}(hn:C.sl nm=some sl)(hrd:∀k s v,rd k s v=eY (λq=>aZ q s (kj (gg k s))) v)(hgg:∀k s c fs,gg k s c fs=true->(∃x,tg sl fs=some x∧k s x=true)∨tg sl fs=none∧∃x,P₀.df nm=some (c,x)∧k s x=true)
  (hg:oZ C op g) (hx:bv C Γ e x) (ho:bv C Γ o y):du C Γ (.AugAssign (.Attribute o nm p) op e pos) (lZ rd sl g y x):=λF P fr k en Q E R h K=>by
 refine wpAny_AugAssign_AttributeAny (ho F P en _ _ E R h λP1 w ov L ro h1=>?_);rw[hrd]at h1;have go:∀(u:KV)(v:SU)(t:Nat),VR C P1.R u v->Du (λzz=>x F.cl en (g (λs r=>uN sl (k en) s w r) u) P1.m) (λzz=>x F.cl en (g (λs r=>uN sl (k en) s w r) u) P1.m) u=true->Tb (Tn C.prog C.w) F.A (eval e F.menv) (λv₃ s₃=>Tb (Tn C.prog C.w) F.A (inplaceOp op v v₃) (λnew s₄=>Tb (Tn C.prog C.w) F.A (setAttr ov nm new) (λzz=>Q .next) E s₄) E s₃) E (P1.tick t).s:=λu v t rv h=>by
  have hu:((∃a,u=.nat a)∨∃a,u=.tok a)∧x F.cl en (g (λs r=>uN sl (k en) s w r) u) P1.m=true:=by
   cases u with
   |nat a=>exact⟨.inl ⟨a,rfl⟩,h⟩
   |tok a=>exact⟨.inr ⟨a,rfl⟩,h⟩
   |_=>exact aD h
  refine ak hu ?_;intro hu h;refine hx F (P1.tick t) en _ _ E (R.later L) h λP2 w2 z L2 r2 h2=>hg P2 F.A _ _ E u v w2 z hu (rv.later L2) r2 h2 λP3 y v3 L3 r3 h3=>?_;exact sK O hn ((ro.later L2).later L3) r3 h3 λP4 L4 h4=>K.next (((L.trans L2).trans L3).trans (L4 _)).frame (R.later (((L.trans L2).trans L3).trans (L4 _))) h4
 exact ud O hn ro h1 λc fs hc=>(hgg _ _ _ _ hc).imp (λ⟨y,a,b⟩=>⟨y,a,λv t rv=>go y v t rv b⟩) λ⟨a,y,b,d⟩=>⟨a,y,b,λv t rv=>go y v t rv d⟩
end
end
end
end
section
set_option compiler.extract_closed false
section
open PySem PySem.W PyProof.Rows
section
variable{prog:Vl}{w:VX}{A:U6}{E:SU->SW->Prop}{s:SW}
theorem q9{d:Tw}{o:Obj}{es:Array TR}{ep:Nat}{Q:SU->SW->Prop}(hs:(d==sysModules)=false)(ho:s.heap.get? d=some o)(hx:o.ExactDict)(hd:o.data=.dict es ep)
  (q:Q (.ref s.heap.objs.size) {s with heap:=s.heap.push {cls:=.type "dict_keyiterator",data:=.fields #[.ref d,.int 0 0,.int es.size 0,.int ep 0]}}):Tb (Tn prog w) A (pyIter (.ref d)) Q E s:=by
 have hT:s.TypeIs (.ref d) "dict":=⟨o,ho,hx.1⟩
 refine wpAny_pyIter_slot hT F.slot_dict_iter (TJ F.slot_dict_iter hT F.entry_dict_iter ?_ (F.args_dict_iter_1 _));unfold Builtin.«dict.__iter__»;refine SO ?_;unfold Builtin.Dict.dictSlotNone;refine SO (wpAny_notOrdered_dict hT ?_);show Tb _ _ (pure (Vk d)) _ _ s;refine SR ?_;show Tb _ _ (VH d>>=_) _ _ s;unfold VH;rw[if_neg (by rw[hs];exact Tq)];refine SO (SR (SO (Vc ho hd (SO (UH ho hd ?_)))));exact SO (Vb (SR ⟨_,rfl,"dict_keyiterator",_,⟨_,T9 _ rfl,rfl⟩,Wh.lookup,q⟩))
theorem uE{α:Type}{M:Model}{A:U6}{Q:α->SW->Prop}{E:SU->SW->Prop}{s:SW}{h0:UT}{it:Tw}(hh:A.handled=none)(x:VC it h0 s.heap)
  (k:∀h' e,VC it h0 h'->(∃o,h'.get? e=some o∧o.cls=.type "StopIteration")->E (.ref e) {s with heap:=h'}):Tb M A (newExc (.type "StopIteration") []>>=raiseNew) Q E s:=by
 refine SO ?_;unfold newExc newTuple;refine SO (Vb ?_ (by size_fits));refine SO (m:=firstArgMember _ _) (wpAny_of_eq (a:=Ve) rfl ?_);refine Vb ?_ (by size_fits);unfold raiseNew;refine SO (wpAny_handled ?_);refine rwr hh ?_;refine SO (SR (wpAny_throw ?_));exact k _ _ ((x.push _).push _) ⟨_,T9 _ rfl,rfl⟩
theorem Aw{α:Type}{M:Model}{A:U6}{Q:α->SW->Prop}{E:SU->SW->Prop}{s:SW}{x:α}(h:∀b,Q b s):Tb M A (pure x) Q E s:=SR (h x)
theorem i8{it:Tw}{Q:String->SW->Prop}(hT:s.TypeIs (.ref it) "dict_keyiterator")(h:Q "dict_keyiterator" s):Tb (Tn prog w) A (typeNameOfWhole (.ref it)) Q E s:=by
 first|exact wpAny_typeNameOfWhole_keyiter hT h|exact wpAny_typeNameOf_keyiter hT h
theorem jN{it d:Tw}{i ep:Nat}{o:Obj}{es:Array TR}{Q:Option SU->SW->Prop}(hit:s.heap.IsKeyIter it d i es.size ep)(ho:s.heap.get? d=some o)(hd:o.data=.dict es ep)(hh:A.handled=none)
  (hsome:∀e,es[i]?=some e->∀h',h'.IsKeyIter it d (i+1) es.size ep->U7 it s.heap h'->Q (some e.key) {s with heap:=h'})
  (hnone:es[i]?=none->∀h',VC it s.heap h'->Q none {s with heap:=h'}):Tb (Tn prog w) A (pyNext (.ref it)) Q E s:=by
 refine aM (id hit) ?_;intro oi hoi hc hf;have hT:=hit.typeIs;unfold pyNext;refine SO (wpAny_attempt (TV (name:=Tu "__next__") hT Wh
  (TJ Wh hT F.entry_dict_keyiterator_next ?_ (F.args_dict_keyiterator_next_1 _))))
 refine SO (SR (SO (SO (SO (i8 hT (SR (SO (wpAny_fieldsOf hoi hf ?_))))))));have hown:VD "dict_keyiterator"=false:=by decide
 refine rwr hown (rwr (if_neg Tq) ?_);show Tb _ _ (if(Vk d==Ve)=true then _ else _) _ _ s;refine rwr (if_neg (show¬((Vk d==Ve)=true)from Tq)) ?_;refine SO (SR (SO (Vc ho hd ?_)));refine rwr (if_neg (by simp)) ?_;refine SO (SR (SO (UH ho hd ?_)));refine rwr (if_neg (by simp)) ?_;refine SR ?_;cases he:es[i]? with
 |some e=>
  dsimp only;refine rwr (show(if(i:Int)<0 then none else es[Int.toNat i]?)=_ from he) ?_;refine SO (SO (i8 hT (SR (SO (wpAny_isOneOf_keyiter hT ?_)))));show Tb _ _ (setField (.ref it) 1 (rawInt ((i:Int)+1))>>=_) _ _ s;refine SO (WG hoi hf (by simp) ?_);have hit':(s.heap.update it (Obj.mapFields (·.setIfInBounds 1 (rawInt ((i:Int)+1))))).IsKeyIter it d (i+1) es.size ep:=
   ⟨_,Ua _ hoi (Obj.isFreed_of_fields (Wq hf _)),(Obj.cls_mapFields ..).trans hc,by rw[Wq hf];rfl⟩
  refine SO (TH (SO (wpAny_isOneOf_keyiter (s:={s with heap:=s.heap.update it (Obj.mapFields (·.setIfInBounds 1 (rawInt ((i:Int)+1))))}) hit'.typeIs ?_)));show Tb _ _ (pure e.key) _ _ _;exact SR (SR ⟨_,rfl,SR (hsome e he _ hit' (U0 ..))⟩)
 |none=>
  dsimp only;refine rwr (show(if(i:Int)<0 then none else es[Int.toNat i]?)=_ from he) ?_;refine SO (SO (i8 hT (SR ?_)));show Tb _ _ (setField (.ref it) 0 .none>>=_) _ _ s;refine SO (WG hoi hf (by simp) ?_);show Tb _ _ (newExc (.type "StopIteration") []>>=_) _ _ _;refine uE hh (U0 ..).extBut λh' e x t=>?_;refine SO (We (T:="StopIteration") (b:=true) t isSubtype_stop ?_);exact SR (hnone he _ x)
end
section
variable{prog:Vl}{w:VX}{A:U6}{E:SU->SW->Prop}{s:SW}
theorem kr{it t:Tw}{i:Nat}{items:Array SU}{x:SU}{Q:SU->SW->Prop}(hit:s.heap.IsTupleIter it t i)(ht:s.heap.IsTuple t items)(hx:items[i]?=some x)
  (hQ:∀h',h'.IsTupleIter it t (i+1)->U7 it s.heap h'->Q x {s with heap:=h'}):Tb (Tn prog w) A (V7 (.ref it)) Q E s:=by
 refine aM (id hit) ?_;intro o ho hc hd;refine aM ht ?_;clear ht;rintro ol y7-zq;refine aw zq ?_;clear zq;intro nl hdl;unfold V7;refine SO (TV (name:=Tu "__next__") hit.typeIs Vs
  (TJ Vs hit.typeIs F.entry_tuple_iterator_next ?_ (F.args_tuple_iterator_next_1 _)))
 show Tb _ _ (field (.ref it) 0>>=_) _ _ s;refine SO (UK ho hd (x:=.ref t) rfl ?_);show Tb _ _ (if(Vk t==Ve)=true then _ else _) _ _ s;refine rwr (if_neg (show¬((Vk t==Ve)=true)from Tq)) ?_;show Tb _ _ (field (.ref it) 1>>=_) _ _ s;refine SO (UK ho hd (x:=.int i 0) rfl ?_);show Tb _ _ (seqItems? (.ref t)>>=_) _ _ s;refine SO (WH y7 hdl ?_);dsimp only;refine rwr (show items[Int.toNat i]?=_ from hx) ?_;refine SO (WG ho hd (by constructor) (SR ⟨x,rfl,SR (hQ _ ?_ (U0 ..))⟩));exact⟨_,Ua _ ho (Obj.isFreed_of_fields (Wq hd _)),(Obj.cls_mapFields ..).trans hc,by
  rw[Wq hd];rfl⟩
theorem gQ{it t:Tw}{i:Nat}{items:Array SU}{Q:SU->SW->Prop}(hh:A.handled=none)(hit:s.heap.IsTupleIter it t i)(ht:s.heap.IsTuple t items)(hx:items[i]?=none)
  (hE:∀h' e,VC it s.heap h'->(∃o,h'.get? e=some o∧o.cls=.type "StopIteration")->E (.ref e) {s with heap:=h'}):Tb (Tn prog w) A (V7 (.ref it)) Q E s:=by
 refine aM (id hit) ?_;intro o ho hc hd;refine aM ht ?_;clear ht;rintro ol y7-zq;refine aw zq ?_;clear zq;intro nl hdl;unfold V7;refine SO (TV (name:=Tu "__next__") hit.typeIs Vs
  (TJ Vs hit.typeIs F.entry_tuple_iterator_next ?_ (F.args_tuple_iterator_next_1 _)))
 show Tb _ _ (field (.ref it) 0>>=_) _ _ s;refine SO (UK ho hd (x:=.ref t) rfl ?_);show Tb _ _ (if(Vk t==Ve)=true then _ else _) _ _ s;refine rwr (if_neg (show¬((Vk t==Ve)=true)from Tq)) ?_;show Tb _ _ (field (.ref it) 1>>=_) _ _ s;refine SO (UK ho hd (x:=.int i 0) rfl ?_);show Tb _ _ (seqItems? (.ref t)>>=_) _ _ s;refine SO (WH y7 hdl ?_);dsimp only;refine rwr (show items[Int.toNat i]?=_ from hx) ?_;refine SO (Va (SO (WG ho hd (by exact TC _ _) ?_)));show Tb _ _ (newExc (.type "StopIteration") []>>=_) _ _ _;exact uE hh (U0 ..).extBut hE
theorem tW(it t:Tw)(hne:t≠it)(items:Array SU)(hh:A.handled=none):
  Draws prog w A it [it,t] items.size (λi v=>items[i]?=some v) (λi h=>h.IsTupleIter it t i∧h.IsTuple t items)where
 live:=λZ Z st=>let⟨o,ho,_⟩:=st.1;⟨o,ho⟩
 frame:=λZ Z Z st hk=>⟨let⟨o,ho,r⟩:=st.1;⟨o,hk it (by constructor) o ho,r⟩,let⟨o,ho,r⟩:=st.2;⟨o,hk t (by exact .tail _ (.head _)) o ho,r⟩⟩
 item:=λi s Q E hi st hQ=>by
  refine kr st.1 st.2 (x:=items[i]) (by simp[hi]) λh' hit' hs'=>?_;exact hQ _ h' s.toks (by simp[hi]) ⟨hit',let⟨o,ho,r⟩:=st.2;⟨o,(hs'.2 t hne).trans ho,r⟩⟩ hs'
 done:=λs Q E st hE=>gQ hh st.1 st.2 (by simp) hE
theorem oq{e it t:Tw}{i:Nat}{k:Int}{items:Array SU}{old:SU}{Q:Option SU->SW->Prop}(hh:A.handled=none)
  (he:IsEnum s.heap e it k old) (hit:s.heap.IsTupleIter it t i) (ht:s.heap.IsTuple t items) (hx:items[i]?=none)
  (hQ:∀h',VC it s.heap h'->Q none {s with heap:=h'}):Tb (Tn prog w) A (pyNext (.ref e)) Q E s:=by
 have hT:s.TypeIs (.ref e) "enumerate":=⟨_,he,rfl⟩
 unfold pyNext;refine SO (wpAny_attempt (TV (name:=Tu "__next__") hT W3
  (TJ W3 hT F.entry_enumerate_next ?_ (F.args_enumerate_next_1 _))))
 show Tb _ _ (field (.ref e) 2>>=_) _ _ _;refine SO (UK he rfl (x:=.ref it) rfl ?_);refine SO (gQ hh hit ht hx λh' x he' hx'=>?_);refine ag hx' ?_;clear hx';intro o ho hc;refine SO (We (T:="StopIteration") (b:=true) ⟨o,ho,hc⟩ isSubtype_stop ?_);exact SR (hQ _ he')
theorem pp{e it l:Tw}{i:Nat}{k:Int}{items:Array SU}{old:SU}{Q:Option SU->SW->Prop}(hh:A.handled=none)
  (he:IsEnum s.heap e it k old) (hit:s.heap.IsListIter it l i) (hl:s.heap.IsList l items) (hx:items[i]?=none)
  (hQ:∀h',VC it s.heap h'->Q none {s with heap:=h'}):Tb (Tn prog w) A (pyNext (.ref e)) Q E s:=by
 have hT:s.TypeIs (.ref e) "enumerate":=⟨_,he,rfl⟩
 unfold pyNext;refine SO (wpAny_attempt (TV (name:=Tu "__next__") hT W3
  (TJ W3 hT F.entry_enumerate_next ?_ (F.args_enumerate_next_1 _))))
 show Tb _ _ (field (.ref e) 2>>=_) _ _ _;refine SO (UK he rfl (x:=.ref it) rfl ?_);refine SO (wpAny_nextOf_list_end hh hit hl hx λh' x he' hx'=>?_);refine ag hx' ?_;clear hx';intro o ho hc;refine SO (We (T:="StopIteration") (b:=true) ⟨o,ho,hc⟩ isSubtype_stop ?_);exact SR (hQ _ he')
end
section
variable{prog:Vl}{w:VX}{A:U6}{E:SU->SW->Prop}{s:SW}
theorem tz{it d:Tw}{i ep:Nat}{od:Obj}{es:Array TR}{ok ov:SU}{Q:Option SU->SW->Prop}(hit:Wr s.heap it d i es.size ep ok ov)(hod:s.heap.get? d=some od)(hdd:od.data=.dict es ep)(hh:A.handled=none)
  (hsome:∀e,es[i]?=some e->∀h',IsItemIterOut h' it d (i+1) es.size ep e.key e.val s.heap.objs.size->h'.get? s.heap.objs.size=some {cls:=.type "tuple",data:=.seq #[e.key,e.val]}->
   (∀b o,b≠it->s.heap.get? b=some o->h'.get? b=some o)->Q (some (.ref s.heap.objs.size)) {s with heap:=h'})
  (hnone:es[i]?=none->∀h',VC it s.heap h'->Q none {s with heap:=h'}):Tb (Tn prog w) A (pyNext (.ref it)) Q E s:=by
 obtain⟨hp,g,dr,tk,os⟩:=s;have hT:Wx ⟨hp,g,dr,tk,os⟩ (.ref it) "dict_itemiterator":=⟨_,hit,rfl⟩
 unfold pyNext;refine SO (wpAny_attempt (TV (name:=Tu "__next__") hT W9
  (TJ W9 hT F.entry_dict_itemiterator_next ?_ (F.args_dict_itemiterator_next_1 _))))
 refine SO (SR ?_);refine SO ?_;refine SO ?_;first|refine SO (W7 hT (SR ?_))|refine SO (WE hT (SR ?_))
 refine SO (wpAny_fieldsOf hit rfl ?_);have hown:VD "dict_itemiterator"=true:=by decide
 refine rwr hown (rwr (if_pos rfl) ?_);show Tb _ _ (if(Vk d==Ve)=true then _ else _) _ _ _;refine rwr (if_neg (show¬((Vk d==Ve)=true)from Tq)) ?_;refine SO (SR ?_);refine SO (Vc hod hdd ?_);refine rwr (if_neg (by simp)) ?_;refine SO (SR ?_);refine SO (UH hod hdd ?_);refine rwr (if_neg (by simp)) ?_;refine SR ?_;cases he:es[i]? with
 |none=>
  dsimp only;refine rwr (show(if(i:Int)<0 then none else es[Int.toNat i]?)=_ from he) ?_;refine SO ?_;first|refine SO (W7 hT (SR ?_))|refine SO (WE hT (SR ?_))
  show Tb _ _ (setField (.ref it) 2 .none>>=_) _ _ _;refine SO (WG hit rfl (by simp) ?_);show Tb _ _ (newExc (.type "StopIteration") []>>=_) _ _ _;refine uE hh (U0 ..).extBut λh' e x t=>?_;refine SO (We (T:="StopIteration") (b:=true) t isSubtype_stop ?_);exact SR (hnone he _ x)
 |some e=>
  dsimp only;refine rwr (show(if(i:Int)<0 then none else es[Int.toNat i]?)=_ from he) ?_;refine SO ?_;first|refine SO (W7 hT (SR ?_))|refine SO (WE hT (SR ?_))
  refine SO (X5 hT ?_);show Tb _ _ (setField (.ref it) 3 (rawInt ((i:Int)+1))>>=_) _ _ ⟨hp,g,dr,tk,os⟩;refine SO (VU hit (by simp) λh₁ he₁ hs₁=>?_);replace hs₁:U7 it hp h₁:=hs₁;replace he₁:Wr h₁ it d (i+1) es.size ep ok ov:=by
   have e:((i+1:Nat):Int)=(i:Int)+1:=by rfl
   unfold Wr;refine rwr e ?_;simpa[rawInt]using he₁
  have hT₁:Wx ⟨h₁,g,dr,tk,os⟩ (.ref it) "dict_itemiterator":=⟨_,he₁,rfl⟩
  refine SO (TH ?_);refine SO (X5 hT₁ ?_);refine SO (X5 hT₁ ?_);show Tb _ _ (Ww (.ref it) 6 e.key e.val) _ _ ⟨h₁,g,dr,tk,os⟩;unfold Ww;refine SO (wpAny_newTuple ?_);have he₂:Wr (h₁.push {cls:=.type "tuple",data:=.seq #[e.key,e.val]}) it d (i+1) es.size ep ok ov:=TX _ he₁;generalize hh₂:h₁.push {cls:=.type "tuple",data:=.seq #[e.key,e.val]}=h₂ at he₂;have hz₁:h₁.objs.size=hp.objs.size:=hs₁.1;have hil:it<hp.objs.size:=Ui hit;have ht₂:h₂.get? hp.objs.size=some {cls:=.type "tuple",data:=.seq #[e.key,e.val]}:=by refine rwl hh₂ (rwl hz₁ ?_);exact T9 _ rfl
  have hk₂:∀b o,b≠it->hp.get? b=some o->h₂.get? b=some o:=λb o hb e=>by refine rwl hh₂ ?_;exact TX _ (hs₁.extBut b o hb e)
  show Tb _ _ (Wl (.ref it)>>=_) _ _ ⟨h₂,g,dr,tk,os⟩;refine rwr hz₁ ?_;clear hh₂ he₁ hs₁ hT₁ hz₁ h₁;refine SO ?_;unfold Wl;refine SO (UK he₂ rfl (x:=.none) rfl (SR ?_));simp only[if_true];refine SO (UK he₂ rfl (x:=ok) rfl ?_);refine SO (UK he₂ rfl (x:=ov) rfl ?_);refine SO (VU he₂ (by exact TC _ _) λh₃ he₃ hs₃=>?_);replace hs₃:U7 it h₂ h₃:=hs₃;replace he₃:Wr h₃ it d (i+1) es.size ep e.key ov:=he₃;refine SO (VU he₃ (by constructor) λh₄ he₄ hs₄=>?_);replace hs₄:U7 it h₃ h₄:=hs₄;replace he₄:Wr h₄ it d (i+1) es.size ep e.key e.val:=he₄;refine SO (VU he₄ (by simp) λh₅ he₅ hs₅=>?_);replace hs₅:U7 it h₄ h₅:=hs₅;replace he₅:IsItemIterOut h₅ it d (i+1) es.size ep e.key e.val hp.objs.size:=he₅;refine SO (VU he₅ (by simp) λh₆ he₆ hs₆=>?_);replace hs₆:U7 it h₅ h₆:=hs₆;replace he₆:IsItemIterOut h₆ it d (i+1) es.size ep e.key e.val hp.objs.size:=he₆;refine SO (wpAny_letGo (SR (SR ⟨_,rfl,SR (hsome e he h₆ he₆ ?_ ?_)⟩)))
  ·exact hs₆.extBut _ _ (V8 hil) (hs₅.extBut _ _ (V8 hil) (hs₄.extBut _ _ (V8 hil) (hs₃.extBut _ _ (V8 hil) ht₂)))
  ·exact λb o hb e=>hs₆.extBut b o hb (hs₅.extBut b o hb (hs₄.extBut b o hb (hs₃.extBut b o hb (hk₂ b o hb e))))
theorem v8{d:Tw}{o:Obj}{es:Array TR}{ep:Nat}{Q:SU->SW->Prop}(hs:(d==sysModules)=false)(ho:s.heap.get? d=some o)(hx:o.ExactDict)(hd:o.data=.dict es ep)
  (q:Q (.ref s.heap.objs.size) {s with heap:=s.heap.push {cls:=.type "dict_items",data:=.fields #[.ref d]}}):Tb (Tn prog w) A (call (.builtin "dict.items") [.ref d]) Q E s:=by
 have hT:s.TypeIs (.ref d) "dict":=⟨o,ho,hx.1⟩
 refine UJ (TJ F.slot_dict_items hT F.entry_dict_items (Q:=Q) ?_ (F.args_dict_items_1 _)) (λZ Z h=>h) λZ Z h=>h;unfold Builtin.«dict.items»;refine SO ?_;unfold Builtin.Dict.noArgs;refine SO (wpAny_notOrdered_dict hT ?_);show Tb _ _ (pure d) _ _ s;refine SR ?_;show Tb _ _ (VH d>>=_) _ _ s;unfold VH;rw[if_neg (by rw[hs];exact Tq)];refine SO (SR ?_);exact SO (Vb (SR ⟨_,rfl,q⟩))
theorem v7{v d:Tw}{o:Obj}{es:Array TR}{ep:Nat}{Q:SU->SW->Prop}(hv:s.heap.IsItemsView v d)(ho:s.heap.get? d=some o)(hd:o.data=.dict es ep)
  (hQ:Q (.ref s.heap.objs.size) {s with heap:=s.heap.push {cls:=.type "dict_itemiterator",data:=.fields #[.none,.bool false,.ref d,.int 0 0,.int es.size 0,.int ep 0,.none,.none]}}):Tb (Tn prog w) A (pyIter (.ref v)) Q E s:=by
 refine aM (id hv) ?_;intro ov hov hcv hdv;refine wpAny_pyIter_slot hv.typeIs F.slot_dict_items_iter (TJ F.slot_dict_items_iter hv.typeIs F.entry_dict_items_iter ?_ (F.args_dict_items_iter_1 _));unfold Builtin.«dict_items.__iter__»;refine SO (SR ?_);refine SO ?_;unfold Builtin.Dict_items.dictOf;refine SO (UK hov hdv (x:=.ref d) rfl (SR ?_));refine SO ?_;unfold Builtin.Dict_items.newIterator;refine SO (Vc ho hd ?_);refine SO (UH ho hd ?_);have hown:VD "dict_itemiterator"=true:=by decide
 refine rwr hown ?_;show Tb _ _ (newFields "dict_itemiterator" (Vf++[.ref d,rawInt 0,rawInt es.size,rawInt ep]++[.none,.none])) _ _ _;refine Vb (SR ⟨_,rfl,"dict_itemiterator",_,⟨_,T9 _ rfl,rfl⟩,W9.lookup,?_⟩)
  (by simp only[sizeOk,Vf,Vo,Td,Vx,List.length_nil,VM];exact TB _ _)
 simpa[rawInt,Vf]using hQ
end
open AutoSeq1 (wpAny_loadPart')
set_option tactic.hygienic true in
theorem iT(l:Tw)(items:Array SU)(n:Nat)(dd:Option Tw)(sl:Array (Option SU)):
  Meets (Builtin.«enumerate.__new__» ⟨[.type "enumerate",.ref l],[]⟩) (λzz R s=>s.heap.get? l=some {cls:=.type "tuple",dict:=dd,data:=.seq items n,slots:=sl}∧
   R (.ok (.ret (.ref (s.heap.push {cls:=.type "tuple_iterator",data:=.fields #[.ref l,.int 0 0]}).objs.size)))
    {s with heap:=(s.heap.push {cls:=.type "tuple_iterator",data:=.fields #[.ref l,.int 0 0]}).push {cls:=.type "enumerate",data:=.fields #[.none,.bool false,.ref s.heap.objs.size,rawInt 0,.none,.none]}}):=
 .of_wp λprog w A R s h=>by
  obtain⟨hp,g,d,tk,os⟩:=s;refine ak h ?_;clear h;intro hl h;have hsub:=sub_enumerate;have hL:Heap.IsTuple (Shared.heap ⟨hp,g,d,tk,os⟩) l items:=⟨_,hl,rfl,n,rfl⟩
  wp_walk using wpAny_loadPart' hl
  refine wpAny_stack_any λst=>Aw λb=>?_;cases b
  ·wp_walk using wpAny_loadPart' hl,wpAny_pyIter_tuple hL
   exact⟨_,rfl,h⟩
  ·wp_walk using wpAny_loadPart' hl,wpAny_pyIter_tuple hL
   exact⟨_,rfl,h⟩
section
variable{prog:Vl}{w:VX}{A:U6}{E:SU->SW->Prop}{s:SW}
theorem lB{l:Tw}{items:Array SU}{Q:SU->SW->Prop}(hT:s.heap.IsTuple l items)
  (h:∀h',IsEnum h' (s.heap.objs.size+1) s.heap.objs.size 0 .none->h'.IsTupleIter s.heap.objs.size l 0->
   (∀b o,s.heap.get? b=some o->h'.get? b=some o)->Q (.ref (s.heap.objs.size+1)) {s with heap:=h'}):
  Tb (Tn prog w) A (call (.type "enumerate") [.ref l]) Q E s:=by
 refine aM hT ?_;clear hT;intro zq0 hl hc zq;rcases zq0 with⟨c,dd,dt,sl⟩;refine aw zq ?_;clear zq;intro n hd;dsimp only at hc hd;subst hc;subst hd;refine callType_new F.called_enumerate (by decide) (F.typeCall_enumerate_1 _) (F.newCall_enumerate_1 _) (λobj=>F.args_object_init_2 obj _) F.entry_enumerate_new
  (iT l items n dd sl) ⟨hl,?_⟩
 have hz:(s.heap.push {cls:=.type "tuple_iterator",data:=.fields #[.ref l,.int 0 0]}).objs.size=s.heap.objs.size+1:=VV ..;show _∧_;refine rwr hz ?_;have he:IsEnum ((s.heap.push {cls:=.type "tuple_iterator",data:=.fields #[.ref l,.int 0 0]}).push
   {cls:=.type "enumerate",data:=.fields #[.none,.bool false,.ref s.heap.objs.size,rawInt 0,.none,.none]}) (s.heap.objs.size+1) s.heap.objs.size 0 .none:=by
  have:=T9 (s.heap.push {cls:=.type "tuple_iterator",data:=.fields #[.ref l,.int 0 0]})
   (o:={cls:=.type "enumerate",data:=.fields #[.none,.bool false,.ref s.heap.objs.size,rawInt 0,.none,.none]}) rfl
  rw[hz]at this;exact this
 exact⟨⟨_,he,rfl⟩,h _ he ⟨_,TX _ (T9 _ rfl),rfl,rfl⟩ λb o x=>TX _ (TX _ x)⟩
end
end
end
section
set_option compiler.extract_closed false
section
set_option backward.match.sparseCases true
open PySem PySem.W PyProof.Rows
variable{C:Cx}{Γ:d6}{R R':Wd}
noncomputable def qL:Nat->Int->List SU
 |0,_=>[]
 |n+1,a=>.int a 0::qL n (a+1)
inductive SeqAt(h:UT):Tw->List SU->Prop
 |tup {I tt:Tw} {i:Nat} {items:Array SU}:h.IsTupleIter I tt i->h.IsTuple tt items->SeqAt h I (items.toList.drop i)
 |str {I:Tw} {x:Str} {tk:Tok} {i:Nat}:h.IsStrIter I (strIterType x) x tk i->SeqAt h I ((x.cps.toList.drop i).map λc=>.str ⟨#[c]⟩ 0)
 |range {I:Tw} {a:Int} {n:Nat}:IsRangeIter h I a n 1->SeqAt h I (qL n a)
inductive dY(C:Cx)(R:Wd):KI->Tw->List Tw->Prop
 |seq {xs:KV} {vs:List SU} {I:Tw}:SeqAt R.h I vs->bG C R xs vs->dY C R (.seq xs) I [I]
 |list {q:Pa} {i:Nat} {p:iK} {I:Tw}:R.ρ q=some p->R.h.IsListIter I p.fst i->dY C R (.list q i) I [I]
 |dict {q:Pa} {i n:Nat} {p:iK} {I:Tw}:R.ρ q=some p->R.h.IsKeyIter I p.fst i n n->dY C R (.dict q i n) I [I]
 |items {q:Pa} {i n:Nat} {p:iK} {I:Tw} {ok ov:SU}:R.ρ q=some p->Wr R.h I p.fst i n n ok ov->dY C R (.items q i n) I [I]
 |enumL {q:Pa} {i:Nat} {p:iK} {I J:Tw} {old:SU}:IsEnum R.h I J i old->R.ρ q=some p->R.h.IsListIter J p.fst i->I≠J->dY C R (.enum i (.list q i)) I [I,J]
 |enumT {i:Nat} {xs:KV} {I J tt:Tw} {items:Array SU} {old:SU}:IsEnum R.h I J i old->R.h.IsTupleIter J tt i->R.h.IsTuple tt items->bG C R xs (items.toList.drop i)->I≠J->dY C R (.enum i (.seq xs)) I [I,J]
def Ql(h:UT)(I:Tw):Prop:=∃ty vs,(["enumerate","zip","dict_itemiterator","dict_reverseitemiterator","odict_iterator","itertools.zip_longest","itertools.pairwise"].contains ty)=false∧∃o,h.get? I=some o∧o.cls=.type ty∧o.data=.fields vs
theorem gP{X:List Tw}(L:au X R R'){I:Tw}(f:cO C R I)(hx:I∉X){o:Obj}(e:R.h.get? I=some o)(hc:∀es ep,o.data≠.dict es ep):R'.h.get? I=some o:=by
 refine ag (L.ext _ _ e f.own hx) ?_;intro o' e' al;rcases al with rfl|zq
 ·exact e'
 ·refine ak zq ?_;clear zq;rintro⟨es,ep,d⟩ _;exact absurd d (hc es ep)
theorem gd{X:List Tw}(L:au X R R'){I:Tw}(f:cO C R I)(hx:I∉X){ty:String}{vs:Array SU}(h:∃o,R.h.get? I=some o∧o.cls=.type ty∧o.data=.fields vs):∃o,R'.h.get? I=some o∧o.cls=.type ty∧o.data=.fields vs:=by
 refine aM h ?_;clear h;intro o e c d;exact⟨o,gP L f hx e (by refine rwr d ?_;((repeat intro);contradiction)),c,d⟩
theorem SeqAt.later{X:List Tw}{I:Tw}{vs:List SU}(r:SeqAt R.h I vs)(L:au X R R')(f:cO C R I)(hx:I∉X):SeqAt R'.h I vs:=by
 cases r with
 |tup hi ht=>exact .tup (gd L f hx hi) (L.tup _ _ ht)
 |str hi=>exact .str (gd L f hx hi)
 |range hi=>exact .range (gP L f hx hi (by(repeat intro);contradiction))
theorem dY.later{X:List Tw}{it:KI}{I:Tw}{as:List Tw}(r:dY C R it I as)(L:au X R R')(f:∀b∈as,cO C R b)(hx:∀b∈as,b∉X):dY C R' it I as:=by
 have f1:=f I;have x1:=hx I;cases r with
 |seq r rs=>exact .seq (r.later L (f1 (by constructor)) (x1 (by constructor))) (rs.later L)
 |list hp hi=>exact .list (L.ref _ _ hp) (gd L (f1 (by constructor)) (x1 (by constructor)) hi)
 |dict hp hi=>exact .dict (L.ref _ _ hp) (gd L (f1 (by constructor)) (x1 (by constructor)) hi)
 |items hp hi=>exact .items (L.ref _ _ hp) (gP L (f1 (by constructor)) (x1 (by constructor)) hi (by(repeat intro);contradiction))
 |enumL he hp hi hne=>exact .enumL (gP L (f1 (by constructor)) (x1 (by constructor)) he (by(repeat intro);contradiction)) (L.ref _ _ hp) (gd L (f _ (by exact .tail _ (.head _))) (hx _ (by exact .tail _ (.head _))) hi) hne
 |enumT he hi ht hr hne=>exact .enumT (gP L (f1 (by constructor)) (x1 (by constructor)) he (by(repeat intro);contradiction)) (gd L (f _ (by exact .tail _ (.head _))) (hx _ (by exact .tail _ (.head _))) hi) (L.tup _ _ ht) (hr.later L) hne
theorem SeqAt.pln{h:UT}{I:Tw}{vs:List SU}(r:SeqAt h I vs):Ql h I:=by
 cases r with
 |tup hi ht=>exact⟨_,_,by decide,hi⟩
 |@str x tk i hi=>exact⟨_,_,by unfold strIterType;split<;>decide,hi⟩
 |range hi=>exact⟨"range_iterator",_,by decide,_,hi,rfl,rfl⟩
theorem jM{α:Type}{l:List α}{i:Nat}{x:α}{xs:List α}(h:l.drop i=x::xs){G:Prop}(k:l[i]?=some x->l.drop (i+1)=xs->G):G:=k (by refine rwl (List.head?_drop) (rwr h ?_);rfl) (by refine rwl List.drop_drop (rwr h ?_);rfl)
theorem drop_nil{α:Type}{l:List α}{i:Nat}(h:l.drop i=[]):l[i]?=none:=by refine rwl (List.head?_drop) (rwr h ?_);rfl
def C2(v v':SU):Prop:=∀C R x,VR C R x v->VR C R x v'
theorem wg{v v':SU}(h1:∀a,v≠.ref a)(h2:v≠.none)(h3:∀b,v≠.bool b)(hi:∀z t,v=.int z t->∃t',v'=.int z t')(hs:∀s t,v=.str s t->∃t',v'=.str s t')(hh:handedIn v'=true):C2 v v':=λC R x h=>by
 have pl:∀x,pb v x->pb v' x:=λx h=>by
  cases x with
  |nat n=>exact h.elim λt e=>hi _ t e
  |neg n=>exact h.elim λt e=>hi _ t e
  |str c=>refine aL h ?_;intro s t e r;exact(hs s t e).elim λt' e=>⟨s,t',e,r⟩
  |none=>exact absurd h h2
  |_=>exact h.elim
 cases x with
 |nat n=>exact pl (.nat n) h
 |neg n=>exact pl (.neg n) h
 |str n=>exact pl (.str n) h
 |tok n=>exact match n,h with
  |0,h=>by refine fU h ?_;intro z t e;exact(hi z t e).elim λt' e=>⟨z,t',e⟩
  |1,_=>hh
  |n+2,h=>pl _ h
 |none=>exact absurd h h2
 |bool b=>exact absurd h (h3 b)
 |nil=>refine ag h ?_;rintro _ e -;exact absurd e (h1 _)
 |cons=>refine eS h ?_;rintro _ _ _ e -;exact absurd e (h1 _)
 |ref=>refine ag h ?_;rintro _-e;exact absurd e (h1 _)
 |fl=>refine eS h ?_;rintro _ _ _ e -;exact absurd e (h1 _)
theorem Ah{s:Str}{t t':Tok}:C2 (.str s t) (.str s t'):=wg (λZ e=>Tp e) (λe=>Tp e) (λZ e=>Tp e) (λZ Z e=>Tp e) (λs' Z e=>by cases e;exact⟨t',rfl⟩) rfl
theorem Ai{z:Int}{t t':Tok}:C2 (.int z t) (.int z t'):=wg (λZ e=>Tp e) (λe=>Tp e) (λZ e=>Tp e) (λz' Z e=>by cases e;exact⟨t',rfl⟩) (λZ Z e=>Tp e) rfl
section
variable{P:Pt C}{A:U6}{E:SU->SW->Prop}{I:Tw}
theorem eu{as:List Tw}{h':UT}(f:∀b∈as,cO C P.R b)(hs:∀b o,b∉as->P.R.h.get? b=some o->h'.get? b=some o)(t:Nat):∃P':Pt C,P'.m=P.m∧P'.R=⟨P.R.ρ,h',P.R.fz⟩∧P'.s=⟨h',C.g,C.d,t,C.os⟩∧au as P.R P'.R:=by
 refine ak (P.good.asides hs f) ?_;intro G' L';exact⟨⟨⟨P.R.ρ,h',P.R.fz⟩,P.m,t,G'⟩,rfl,rfl,rfl,L'⟩
theorem gn{as:List Tw}{h':UT}(f:∀b∈as,cO C P.R b)(hs:∀b o,b∉as->P.R.h.get? b=some o->h'.get? b=some o)(t:Nat){G:Prop}(k:∀P':Pt C,P'.m=P.m->P'.R=⟨P.R.ρ,h',P.R.fz⟩->P'.s=⟨h',C.g,C.d,t,C.os⟩->au as P.R P'.R->G):G:=d9 (eu f hs t) k
theorem cO.of{h':UT}(f:cO C P.R I){o:Obj}{vs:Array SU}(e:h'.get? I=some o)(d:o.data=.fields vs)(hv:∀q t,vs[1]?≠some (.str q t)):cO C ⟨P.R.ρ,h',P.R.fz⟩ I:=
 ⟨f.own,f.frz,f.vol,f.old,f.fz,o,e,(λxs n z=>Ta (d.symm.trans z)),(λvs' q t z=>by rw[d]at z;cases z;exact hv q t)⟩
theorem Af{vs:List SU}(r:SeqAt P.R.h I vs)(f:cO C P.R I)(hh:A.handled=none){Q:Option SU->SW->Prop}(hnone:vs=[]->∀P':Pt C,P'.m=P.m->au [I] P.R P'.R->Q none P'.s)
  (hsome:∀v ws,vs=v::ws->∀(P':Pt C) v',P'.m=P.m->au [I] P.R P'.R->C2 v v'->SeqAt P'.R.h I ws->cO C P'.R I->Q (some v') P'.s):Tb (Tn C.prog C.w) A (pyNext (.ref I)) Q E P.s:=by
 have fin:∀{h':UT}{t:Nat},vs=[]->VC I P.R.h h'->Q none ⟨h',C.g,C.d,t,C.os⟩:=λ{h' t} e hs=>by
  refine d9 (eu (P:=P) (as:=[I]) (λb hb=>by simp at hb;subst hb;exact f) (λb o hb e=>hs b o (by simpa using hb) e) t) ?_;intro P' e1 e2 e3 L;exact e3▸hnone e P' e1 L
 have go:∀{h':UT}{t:Nat}{v v':SU}{ws:List SU},vs=v::ws->U7 I P.R.h h'->C2 v v'->SeqAt h' I ws->(∃o vs,h'.get? I=some o∧o.data=.fields vs∧∀q t,vs[1]?≠some (.str q t))->Q (some v') ⟨h',C.g,C.d,t,C.os⟩:=λ{h' t v v' ws} e hs sm r ho=>by
  refine d9 (eu (P:=P) (as:=[I]) (h':=h') (λb hb=>by simp at hb;subst hb;exact f) (λb o hb e=>(hs.2 b (by simpa using hb)).trans e) t) ?_;intro P' e1 e2 e3 L;refine aH ho ?_;clear ho;intro o us a b c;exact e3▸hsome v ws e P' v' e1 L sm (by refine rwr e2 ?_;exact r) (by refine rwr e2 ?_;exact f.of a b c)
 cases r with
 |@tup tt i items hi ht=>
  cases hd:items.toList.drop i with
  |nil=>exact wpAny_pyNext_tuple_end (s:=P.s) hh hi ht (by have:=drop_nil hd;rwa[Tj]at this) λh' hs=>fin hd hs
  |cons v ws=>
   refine jM hd ?_;intro d1 d2;rw[Tj]at d1;refine wpAny_pyNext_tuple_item (s:=P.s) hi ht d1 λh' hi' hs=>go hd hs (λZ Z Z h=>h) (d2▸.tup hi' ?_) (let⟨o,a,b,c⟩:=hi';⟨o,_,a,c,by simp⟩);refine aM ht ?_;clear ht;intro o e c r;refine⟨o,(hs.2 tt λz=>?_).trans e,c,r⟩;refine aw r ?_;clear r;intro n r;refine aM hi ?_;clear hi;rintro o2 e2-d2;cases(z▸e:P.R.h.get? I=some o).symm.trans e2;rw[d2]at r;exact Ta r
 |@str x tk i hi=>
  cases hd:x.cps.toList.drop i with
  |nil=>
   have hx:=drop_nil hd;rw[Tj]at hx;have e:(x.cps.toList.drop i).map (λc=>Value.str ⟨#[c]⟩ 0)=[]:=by refine rwr hd ?_;rfl
   unfold strIterType at hi
   split at hi
   ·exact wpAny_pyNext_ascii_end (s:=P.s) hh hi hx λh' hs=>fin e hs
   ·exact wpAny_pyNext_wide_end (s:=P.s) hh hi hx λh' hs=>fin e hs
  |cons c cs=>
   refine jM hd ?_;intro d1 d2;rw[Tj]at d1;have e:(x.cps.toList.drop i).map (λc=>Value.str ⟨#[c]⟩ 0)=.str ⟨#[c]⟩ 0::(x.cps.toList.drop (i+1)).map (λc=>Value.str ⟨#[c]⟩ 0):=by refine rwr hd (rwr d2 ?_);rfl
   have gg:∀{h':UT}{t:Nat}{tk':Tok},h'.IsStrIter I (strIterType x) x tk (i+1)->U7 I P.R.h h'->Q (some (.str ⟨#[c]⟩ tk')) ⟨h',C.g,C.d,t,C.os⟩:=λhi' hs=>go e hs Ah (.str hi') (let⟨o,a,b,c⟩:=hi';⟨o,_,a,c,by simp⟩);unfold strIterType at hi
   split at hi
   ·rename_i ha;exact wpAny_pyNext_ascii_item (s:=P.s) hi d1 λh' hi' hs=>gg (by unfold strIterType;refine rwr (if_pos ha) ?_;exact hi') hs
   ·rename_i ha;exact wpAny_pyNext_wide_item (s:=P.s) hi d1 λh' hi' hs=>gg (by unfold strIterType;refine rwr (if_neg ha) ?_;exact hi') hs
 |@range a n hi=>
  cases n with
  |zero=>exact wpAny_pyNext_range_end (s:=P.s) hh hi (by simp) λh' hs=>fin rfl hs
  |succ n=>
   refine wpAny_pyNext_range_item (s:=P.s) hi (by simp+arith) λh' hi' hs=>?_;have e1:((n+1:Nat):Int)-1=(n:Int):=by simp+arith
   rw[e1]at hi';exact go rfl hs Ai (.range hi') ⟨_,_,hi',rfl,by simp[rawInt]⟩
theorem nZ(h:Ql P.R.h I){target:SQ}{v:SU}{Q:Unit->SW->Prop}(q:Q () P.s):Tb (Tn C.prog C.w) A (letOwnedTupleGo target (.ref I) v) Q E P.s:=by
 refine aL h ?_;clear h;intro ty vs hty zq;refine aM zq ?_;clear zq;intro zq0 ho hc hd;rcases zq0 with⟨cl,dc,dt,sl⟩
 dsimp only at hc hd;subst hc;subst hd;have core:∀a:Tw,Tb (Tn C.prog C.w) A (do
   let o ←load I
   match o.cls,o.data with
   |.type n,.fields vs=>
    if["enumerate","zip","dict_itemiterator","dict_reverseitemiterator","odict_iterator","itertools.zip_longest","itertools.pairwise"].contains n&&vs[0]?==some (rawInt a)then
     rule "for.unpacks-the-owned-tuple"
     updateField I 0 .none
   |_,_=>pure ()) Q E P.s:=by
  intro a;refine SO (wpAny_load ho ?_);dsimp only;rw[if_neg (by rw[hty];simp)];exact SR q
 cases target with
 |Tuple|List=>cases v<;>first|exact SR q|exact core _
 |_=>exact SR q
end
end
end
section
set_option compiler.extract_closed false
section
open PySem PySem.W PyProof.Rows
variable{C:Cx}{Γ:d6}{R R':Wd}
noncomputable def ij:SQ->Bool
 |.Tuple _ _ _=>true
 |_=>false
noncomputable def jJ:KI->Bool
 |.seq _=>true
 |.list _ _=>true
 |.dict _ _ _=>true
 |_=>false
theorem z7{t:SQ}{G:Prop}(h:ij t=true)(k:∀ts kk pos,t=.Tuple ts kk pos->G):G:=by
 cases t with
 |Tuple a b c=>exact k a b c rfl
 |_=>exact aD h
def qh(t:SQ)(it:KI):Prop:=jJ it=true∨ij t=true
theorem nS:∀{i:Nat}{es:KD},KL i es=none->(pairs es).length≤i
 |0,.nil,_=>TQ _
 |0,.cons _ _ _,h=>by exact Ff h
 |i+1,.nil,_=>TQ _
 |i+1,.cons _ _ r,h=>TY (nS (es:=r) h)
theorem iS:∀{i:Nat}{es:KD}{a b:KV},KL i es=some (.mk a b)->(pairs es)[i]?=some (a,b)
 |0,.nil,_,_,h=>by exact dh h
 |0,.cons _ _ _,_,_,h=>by cases h;rfl
 |i+1,.nil,_,_,h=>by exact dh h
 |i+1,.cons _ _ r,_,_,h=>iS (es:=r) h
theorem mv{n:Nat}{xs:KV}{z:Bool}{k:KV->Bool}(h:AH n xs z k=true):ng n xs=none∧z=true∨∃x,ng n xs=some x∧k x=true:=by
 unfold AH at h;cases e:ng n xs with
 |none=>rw[e]at h;exact .inl ⟨rfl,h⟩
 |some x=>rw[e]at h;exact .inr ⟨x,rfl,h⟩
theorem kn{n:Nat}{es:KD}{z:Bool}{k:KV->KV->Bool}(h:Dx n es z k=true):KL n es=none∧z=true∨∃a b,KL n es=some (.mk a b)∧k a b=true:=by
 unfold Dx at h;cases e:KL n es with
 |none=>rw[e]at h;exact .inl ⟨rfl,h⟩
 |some p=>rw[e]at h;obtain⟨a,b⟩:=p;exact .inr ⟨a,b,rfl,h⟩
section
variable{P:Pt C}{A:U6}{E E2:SU->SW->Prop}{I:Tw}{as:List Tw}{target:SQ}
theorem q8{J a:Tw}{i:Nat}{tk:Tok}{w:SU}{x:KV}{h':UT}(f:∀b∈[I,J],cO C P.R b)(hlI:I<P.R.h.objs.size)(hne:I≠J){Qs:SU->SW->Prop}(htgt:ij target=true)
  (ho:IsEnumOut h' I J ((i:Int)+1) w a) (ha:a=P.R.h.objs.size) (ht:h'.get? a=some {cls:=.type "tuple",data:=.seq #[.int i tk,w]}) (k:∀b o,b≠I->b≠J->P.R.h.get? b=some o->h'.get? b=some o) {ty:String} {us:Array SU} (hJ:∃o,h'.get? J=some o∧o.cls=.type ty∧o.data=.fields us) (hus:∀q t,us[1]?≠some (.str q t)) (rw_:VR C P.R x w) {t:Nat}
  (q:∀(P':Pt C),P'.m=P.m->au [I,J] P.R P'.R->VR C P'.R (.cons (.nat i) (.cons x .nil)) (.ref a)->(∃old,IsEnum P'.R.h I J (i+1:Nat) old)->(∃o,P'.R.h.get? J=some o∧o.cls=.type ty∧o.data=.fields us)->(∀b∈[I,J],cO C P'.R b)->Qs (.ref a) P'.s):
  Tb (Tn C.prog C.w) A (letOwnedTupleGo target (.ref I) (.ref a)) (λzz s₂=>Qs (.ref a) s₂) E2 ⟨h',C.g,C.d,t,C.os⟩:=by
 refine z7 htgt ?_;rintro es kk pos rfl;refine wpAny_letOwnedTupleGo_enum (s:=⟨h',C.g,C.d,t,C.os⟩) ho λh2 he2 hs2=>?_;replace hs2:U7 I h' h2:=hs2;refine d9 (eu (P:=P) (as:=[I,J]) (h':=h2) f (λb o hb e=>by
  simp only[T8,Tz,or_false,not_or]at hb;exact(hs2.2 b hb.1).trans (k b o hb.1 hb.2 e)) t) ?_;intro P' e1 e2 e3 L
 have haI:a≠I:=by refine rwr ha ?_;exact V8 hlI
 have hJ2:∃o,h2.get? J=some o∧o.cls=.type ty∧o.data=.fields us:=let⟨o,e,r⟩:=hJ;⟨o,(hs2.2 _ (Ne.symm hne)).trans e,r⟩;refine e3▸q P' e1 L ?_ ⟨w,by refine rwr e2 ?_;have:=he2;simpa using this⟩ (by refine rwr e2 ?_;exact hJ2) λb hb=>?_
 ·exact .tup (.cons_ .nat_ (.cons_ (rw_.later L) .nil_)) ⟨_,by refine rwr e2 ?_;exact(hs2.2 a haI).trans ht,rfl,_,rfl⟩ (by simp)
 ·refine rwr e2 ?_;have F:=f b hb;simp only[T8,Tz,or_false]at hb;rcases hb with rfl|rfl
  ·exact F.of he2 rfl (by simp)
  ·refine aM hJ2 ?_;clear hJ2;rintro o e-d;exact F.of e d hus
def TN(P:Pt C)(as:List Tw)(z:Bool)(Qn:SW->Prop):Prop:=z=true->∀P':Pt C,P'.m=P.m->au as P.R P'.R->Qn P'.s
def TS(P:Pt C)(as:List Tw)(I:Tw)(target:SQ)(k:KV->KI->Bool)(Qs:SU->SW->Prop):Prop:=∀x it',k x it'=true->∀(P':Pt C) v,P'.m=P.m->au as P.R P'.R->VR C P'.R x v->dY C P'.R it' I as->(∀b∈as,cO C P'.R b)->qh target it'->Qs v P'.s
def TG(P:Pt C)(A:U6)(I:Tw)(target:SQ)(Qn:SW->Prop)(Qs:SU->SW->Prop)(E1 E2:SU->SW->Prop):Prop:=Tb (Tn C.prog C.w) A (pyNext (.ref I)) (λr s₁=>match r with|none=>Qn s₁|some v=>Tb (Tn C.prog C.w) A (letOwnedTupleGo target (.ref I) v) (λzz s₂=>Qs v s₂) E2 s₁) E1 P.s
theorem vU{xs:KV}(h:bG C R xs []):xs=.nil:=by
 cases xs with
 |nil=>rfl
 |cons=>refine aL h ?_;rintro _ _ e -;cases e
 |_=>exact h.elim
theorem s9{xs:KV}{v:SU}{ws:List SU}{G:Prop}(h:bG C R xs (v::ws))(k:∀x y,xs=.cons x y->VR C R x v->bG C R y ws->G):G:=by
 cases xs with
 |nil=>cases h
 |cons x y=>refine aH h ?_;intro _ _ e r1 r2;cases e;exact k x y rfl r1 r2
 |_=>exact h.elim
section
variable{z:Bool}{k:KV->KI->Bool}{Qn:SW->Prop}{Qs:SU->SW->Prop}{E1:SU->SW->Prop}{q:Pa}{p:iK}{i n:Nat}{xs:KV}
theorem uw(f:∀b∈[I],cO C P.R b)(hnone:TN P [I] z Qn){h':UT}(hs:VC I P.R.h h')(hz:z=true)(t:Nat):Qn ⟨h',C.g,C.d,t,C.os⟩:=by
 refine gn (P:=P) (as:=[I]) f (λb o hb e'=>hs b o (by simpa using hb) e') t ?_;intro P' e1 e2 e3 L;exact e3▸hnone hz P' e1 L
theorem yX{vs:List SU}(r:SeqAt P.R.h I vs)(rs:bG C P.R xs vs)(hn:j0 (.seq xs) P.m z k=true)(hh:A.handled=none)(hnone:TN P [I] z Qn)(hsome:TS P [I] I target k Qs)(f:∀b∈[I],cO C P.R b):TG P A I target Qn Qs E1 E2:=by
 refine Af r (f I (by constructor)) hh (λe P' e1 L=>?_) λv ws e P' v' e1 L sm r' f'=>?_
 ·subst e;cases vU rs;exact hnone hn P' e1 L
 ·subst e;refine s9 rs ?_;rintro x y rfl r1 r2;exact nZ r'.pln (hsome x _ hn P' v' e1 L (sm _ _ _ (VR.later r1 L)) (.seq r' (bG.later r2 L)) (λb hb=>by cases U9.mp hb;exact f') (.inl rfl))
theorem xr(hp:P.R.ρ q=some p)(hi:P.R.h.IsListIter I p.fst i)(hn:j0 (.list q i) P.m z k=true)(hh:A.handled=none)(hnone:TN P [I] z Qn)(hsome:TS P [I] I target k Qs)(f:∀b∈[I],cO C P.R b):TG P A I target Qn Qs E1 E2:=by
 refine aF hn hp ?_;clear hn;rintro o-ro hn;refine cy hn ro ?_;clear hn;rintro xs vs c hob rs hl he hn rfl;have hL:P.R.h.IsList p.fst vs:=⟨_,hob,rfl,c,rfl⟩
 rcases mv hn with zq|zq
 ·refine ak zq ?_;clear zq;intro e hz;exact wpAny_pyNext_list_end (s:=P.s) hh hi hL (by refine rwl (Tj) ?_;exact Ud (rs.none e)) λh' hs=>uw f hnone hs hz _
 ·refine ag zq ?_;clear zq;intro x e hx;refine ag (rs.get e) ?_;intro v hv rv;rw[Tj]at hv;refine wpAny_pyNext_list_item (s:=P.s) hi hL hv λh' hi' hs=>?_;refine gn (P:=P) (as:=[I]) (h':=h') f (λb o hb e=>(hs.2 b (by simpa using hb)).trans e) P.t ?_;intro P' e1 e2 e3 L;refine e3▸nZ (P:=P') ?_ (hsome x _ hx P' v e1 L (rv.later L) (.list (L.ref _ _ hp) (by refine rwr e2 ?_;exact hi')) (λb hb=>?_) (.inl rfl))
  ·refine rwr e2 ?_;exact⟨_,_,by decide,hi'⟩
  ·simp at hb;subst hb;refine rwr e2 ?_;refine aM hi' ?_;clear hi';intro o a b c;exact(f _ (by simp)).of a c (by simp)
theorem xu(hp:P.R.ρ q=some p)(hi:P.R.h.IsKeyIter I p.fst i n n)(hn:j0 (.dict q i n) P.m z k=true)(hh:A.handled=none)(hnone:TN P [I] z Qn)(hsome:TS P [I] I target k Qs)(f:∀b∈[I],cO C P.R b):TG P A I target Qn Qs E1 E2:=by
 refine aF hn hp ?_;clear hn;rintro o-ro hn;refine gj hn ?_;clear hn;rintro m es hn rfl;refine ak ro ?_;clear ro;rintro -zq;refine j5 zq ?_;clear zq;intro ob es' ep hob hx hdat hE hnd hm hlen hep;refine dI hn ?_;intro hb hn2;cases cg.mp hb;have hsz:es'.size=n:=by exact rwr hm (rwl hE.1 (rwr T4 rfl))
 refine jN (s:=P.s) (by refine rwr hsz (rwr hep ?_);exact hi) hob hdat hh (λe he h' hi' hs=>?_) (λhe h' hs=>?_)
 ·rcases kn hn2 with zq|zq
  ·refine ak zq ?_;clear zq;intro e2 hz;have:=nS e2;rw[←hm,←hsz]at this;rw[Array.getElem?_eq_none this]at he;exact dh he
  ·refine aL zq ?_;clear zq;intro a b e2 hab;have r:=hE.2 i e (a,b) (by refine rwr (Tj) ?_;exact he) (iS e2);refine gn (P:=P) (as:=[I]) (h':=h') f (λb o hb e=>(hs.2 b (by simpa using hb)).trans e) P.t ?_;intro P' e1 e2 e3 L;rw[hsz,hep]at hi';refine e3▸nZ (P:=P') ?_ (hsome a _ hab P' _ e1 L (r.key.later L) (.dict (L.ref _ _ hp) (by refine rwr e2 ?_;exact hi')) (λb hb=>?_) (.inl rfl))
   ·refine rwr e2 ?_;exact⟨_,_,by decide,hi'⟩
   ·simp at hb;subst hb;refine rwr e2 ?_;refine aM hi' ?_;clear hi';intro o a b c;exact(f _ (by simp)).of a c (by simp)
 ·rcases kn hn2 with zq|zq
  ·refine ak zq ?_;clear zq;intro e2 hz;exact uw f hnone hs hz _
  ·refine aL zq ?_;clear zq;intro a b e2 hab;have:=(To.mp (iS e2)).1;rw[←hm,←hsz]at this;rw[U1 this]at he;exact Ff he
theorem uv{ok ov:SU}(hp:P.R.ρ q=some p)(hi:Wr P.R.h I p.fst i n n ok ov)(hn:j0 (.items q i n) P.m z k=true)(hh:A.handled=none)(hnone:TN P [I] z Qn)(hsome:TS P [I] I target k Qs)(f:∀b∈[I],cO C P.R b)(tgt':ij target=true):TG P A I target Qn Qs E1 E2:=by
 refine aF hn hp ?_;clear hn;rintro o-ro hn;refine gj hn ?_;clear hn;rintro m es hn rfl;refine ak ro ?_;clear ro;rintro -zq;refine j5 zq ?_;clear zq;intro ob es' ep hob hx hdat hE hnd hm hlen hep;refine dI hn ?_;intro hb hn2;cases cg.mp hb;have hsz:es'.size=n:=by exact rwr hm (rwl hE.1 (rwr T4 rfl))
 refine tz (s:=P.s) (by refine rwr hsz (rwr hep ?_);exact hi) hob hdat hh (λe he h1 ho hT hk=>?_) (λhe h' hs=>?_)
 ·rcases kn hn2 with zq|zq
  ·refine ak zq ?_;clear zq;intro e2 hz;have:=nS e2;rw[←hm,←hsz]at this;rw[Array.getElem?_eq_none this]at he;exact dh he
  ·refine aL zq ?_;clear zq;intro a b e2 hab;have r:=hE.2 i e (a,b) (by refine rwr (Tj) ?_;exact he) (iS e2);refine z7 tgt' ?_;rintro ts kk pos rfl;refine wpAny_letOwnedTupleGo_items (s:=⟨h1,C.g,C.d,P.t,C.os⟩) ho λh2 he2 hs2=>?_;replace hs2:U7 I h1 h2:=hs2;refine d9 (eu (P:=P) (as:=[I]) (h':=h2) f (λb o hb e=>by
    simp only[T8,Tz,or_false]at hb;exact(hs2.2 b hb).trans (hk b o hb e)) P.t) ?_;intro P' e1 e2 e3 L
   have haI:P.R.h.objs.size≠I:=V8 (Ui hi);rw[hsz,hep]at he2;refine e3▸hsome _ _ hab P' _ e1 L (.tup (.cons_ (r.key.later L) (.cons_ (r.val.later L) .nil_)) ⟨_,by refine rwr e2 ?_;exact(hs2.2 _ haI).trans hT,rfl,_,rfl⟩ (by simp)) (.items (ok:=e.key) (ov:=e.val) (L.ref _ _ hp) (by refine rwr e2 ?_;exact he2)) (λb hb=>?_) (.inr tgt');simp at hb;subst hb;refine rwr e2 ?_;exact(f _ (by simp)).of he2 rfl (by simp)
 ·rcases kn hn2 with zq|zq
  ·refine ak zq ?_;clear zq;intro e2 hz;exact uw f hnone hs hz _
  ·refine aL zq ?_;clear zq;intro a b e2 hab;have:=(To.mp (iS e2)).1;rw[←hm,←hsz]at this;rw[U1 this]at he;exact Ff he
theorem yZ{J:Tw}{old:SU}(he:IsEnum P.R.h I J i old)(hp:P.R.ρ q=some p)(hi:P.R.h.IsListIter J p.fst i)(hne:I≠J)(hn:j0 (.enum i (.list q i)) P.m z k=true)(hh:A.handled=none)(hnone:TN P [I,J] z Qn)(hsome:TS P [I,J] I target k Qs)(f:∀b∈[I,J],cO C P.R b)(tgt':ij target=true):TG P A I target Qn Qs E1 E2:=by
 refine aF hn hp ?_;clear hn;rintro o-ro hn;refine cy hn ro ?_;clear hn ro;rintro xs vs c hob rs hl he' hn -;have hL:P.R.h.IsList p.fst vs:=⟨_,hob,rfl,c,rfl⟩
 rcases mv hn with zq|zq
 ·refine ak zq ?_;clear zq;intro e hz;refine pp (s:=P.s) hh he hi hL (by refine rwl (Tj) ?_;exact Ud (rs.none e)) λh' hs=>?_;refine gn (P:=P) (as:=[I,J]) f (λb o hb e=>hs b o (λw=>hb (by simp[w])) e) P.t ?_;intro P' e1 e2 e3 L;exact e3▸hnone hz P' e1 L
 ·refine ag zq ?_;clear zq;intro x e hx;refine ag (rs.get e) ?_;intro w hw rw_;rw[Tj]at hw;have hpJ:p.fst≠J:=λw=>by refine aM hi ?_;clear hi;rintro o a-d;rw[w]at hob;cases hob.symm.trans a;exact Ta d
  have hpI:p.fst≠I:=λw=>by rw[w]at hob;have:=congrArg (λo=>o.map Obj.cls) (he.symm.trans hob);simp at this
  refine wpAny_pyNext_enum_itemD (s:=P.s) (Draws.list (by exact hh) J p.fst hpJ vs) he ⟨hi,hL⟩ (Uu.mp hw).1 hne (by simp[hne,Ne.symm hpI]) λx' h' tk hPx ho hst hT hsz hk=>?_;cases hw.symm.trans hPx;refine q8 (P:=P) (x:=x) f (Ui he) hne tgt' ho rfl hT hk hst.1 (by simp) rw_ λP' e1 L rv he2 hJ2 f2=>?_;refine aw he2 ?_;clear he2;intro old2 he2;exact hsome _ _ hx P' _ e1 L rv (.enumL he2 (L.ref _ _ hp) hJ2 hne) f2 (.inr tgt')
theorem yY{J tt:Tw}{items:Array SU}{old:SU}(he:IsEnum P.R.h I J i old)(hi:P.R.h.IsTupleIter J tt i)(ht:P.R.h.IsTuple tt items)(hr:bG C P.R xs (items.toList.drop i))(hne:I≠J)(hn:j0 (.enum i (.seq xs)) P.m z k=true)(hh:A.handled=none)(hnone:TN P [I,J] z Qn)(hsome:TS P [I,J] I target k Qs)(f:∀b∈[I,J],cO C P.R b)(tgt':ij target=true):TG P A I target Qn Qs E1 E2:=by
 cases hd:items.toList.drop i with
 |nil=>
  rw[hd]at hr;have hx:=drop_nil hd;rw[Tj]at hx;refine oq (s:=P.s) hh he hi ht hx λh' hs=>?_;refine gn (P:=P) (as:=[I,J]) f (λb o hb e=>hs b o (λw=>hb (by simp[w])) e) P.t ?_;intro P' e1 e2 e3 L;cases vU hr;exact e3▸hnone hn P' e1 L
 |cons w ws=>
  rw[hd]at hr;refine s9 hr ?_;rintro x y rfl r1 r2;refine jM hd ?_;intro d1 d2;rw[Tj]at d1;refine aM (id ht) ?_;intro ot et ct zq;refine aw zq ?_;clear zq;intro nt dt;have htJ:tt≠J:=λw=>by refine aM hi ?_;clear hi;rintro o a-d;rw[w]at et;cases et.symm.trans a;rw[d]at dt;exact Ta dt
  have htI:tt≠I:=λw=>by rw[w]at et;have:=congrArg (λo=>o.map Obj.cls) (he.symm.trans et);simp[ct]at this
  refine wpAny_pyNext_enum_itemD (s:=P.s) (tW J tt htJ items (by exact hh)) he ⟨hi,ht⟩ (Uu.mp d1).1 hne (by simp[hne,Ne.symm htI]) λx' h' tk hPx ho hst hT hsz hk=>?_;cases d1.symm.trans hPx;refine q8 (P:=P) (x:=x) f (Ui he) hne tgt' ho rfl hT hk hst.1 (by simp) r1 λP' e1 L rv he2 hJ2 f2=>?_;refine aw he2 ?_;clear he2;intro old2 he2;exact hsome _ _ hn P' _ e1 L rv (.enumT he2 hJ2 (L.tup _ _ ht) (by refine rwr d2 ?_;exact r2.later L) hne) f2 (.inr tgt')
theorem sf{it:KI}(r:dY C P.R it I as)(f:∀b∈as,cO C P.R b)(hh:A.handled=none)(hok:qh target it)(hn:j0 it P.m z k=true)(hnone:TN P as z Qn)(hsome:TS P as I target k Qs):TG P A I target Qn Qs E1 E2:=by
 cases r with
 |seq r rs=>exact yX r rs hn hh hnone hsome f
 |list hp hi=>exact xr hp hi hn hh hnone hsome f
 |dict hp hi=>exact xu hp hi hn hh hnone hsome f
 |items hp hi=>exact uv hp hi hn hh hnone hsome f (hok.resolve_left Tq)
 |enumL he hp hi hne=>exact yZ he hp hi hne hn hh hnone hsome f (hok.resolve_left Tq)
 |enumT he hi ht hr hne=>exact yY he hi ht hr hne hn hh hnone hsome f (hok.resolve_left Tq)
end
end
end
end
section
set_option compiler.extract_closed false
section
open PySem PySem.W PyProof.Rows
variable{C:Cx}{Γ:d6}{R R':Wd}
def h9(C:Cx)(Γ:d6)(e:SQ)(x:XI)(own:Bool):Prop:=∀(F:dP C Γ)(P:Pt C)(en:En)(k:KI->KS->Bool)(Q:SU->SW->Prop)(E:SU->SW->Prop),ER F P.R en->x F.cl en k P.m=true->
 (∀(P':Pt C)(it:KI)(I:Tw)(as:List Tw),au C.vol P.R P'.R->dY C P'.R it I as->(∀b∈as,cO C P'.R b)->(∀b∈as,P.R.h.get? b=none)->(own=true∨jJ it=true)->k it P'.m=true->Q (.ref I) P'.s)->
 Tb (Tn C.prog C.w) F.A (eval e F.menv) (λv s=>Tb (Tn C.prog C.w) F.A (pyIter v) Q E s) E P.s
theorem lR{X:List Tw}{b:Tw}(L:au X R R')(hx:b∉X)(d:R'.h.get? b=none):R.h.get? b=none:=by
 cases e:R.h.get? b with
 |none=>rfl
 |some o=>refine aw (L.live b o hx e) ?_;intro o' e';rw[d]at e';exact dh e'
section
variable{P P1:Pt C}{E:SU->SW->Prop}
theorem Pt.dead(L:au C.vol P.R P1.R){b:Tw}(d:P1.R.h.get? b=none):P.R.h.get? b=none:=lR L (P1.good.dead d).2.2.2 d
abbrev yr(C:Cx)(R:Wd)(k:KI->KS->Bool)(own:Bool)(Q:SU->SW->Prop):Prop:=∀(P':Pt C)(it:KI)(I:Tw)(as:List Tw),au C.vol R P'.R->dY C P'.R it I as->(∀b∈as,cO C P'.R b)->(∀b∈as,R.h.get? b=none)->(own=true∨jJ it=true)->k it P'.m=true->Q (.ref I) P'.s
theorem yr.later{k:KI->KS->Bool}{own:Bool}{Q:SU->SW->Prop}(K:yr C P.R k own Q)(L:au C.vol P.R P1.R):yr C P1.R k own Q:=λP' it I as L' r f d=>K P' it I as (L.trans L') r f λb hb=>Pt.dead L (d b hb)
theorem fy{k:KI->KS->Bool}{own:Bool}{Q:SU->SW->Prop}(K:yr C P.R k own Q){h0:UT}(kp:bB P.R.h h0){ty:String}{vs:Array SU}{it:KI}(hs:P.R.h.objs.size≤h0.objs.size)(hv:∀q t,vs[1]?≠some (.str q t))(hp:own=true∨jJ it=true)
  (r:au [] P.R ⟨P.R.ρ,h0.push {cls:=.type ty,data:=.fields vs},P.R.fz⟩->(h0.push {cls:=.type ty,data:=.fields vs}).get? h0.objs.size=some {cls:=.type ty,data:=.fields vs}->dY C ⟨P.R.ρ,h0.push {cls:=.type ty,data:=.fields vs},P.R.fz⟩ it h0.objs.size [h0.objs.size]) (h:k it P.m=true) (t:Nat):Q (.ref h0.objs.size) ⟨h0.push {cls:=.type ty,data:=.fields vs},C.g,C.d,t,C.os⟩:=by
 have kp2:bB P.R.h (h0.push {cls:=.type ty,data:=.fields vs}):=λb o e=>aE _ _ b o (kp b o e);have hg:(h0.push {cls:=.type ty,data:=.fields vs}).get? h0.objs.size=some {cls:=.type ty,data:=.fields vs}:=T9 _ rfl;have hd:P.R.h.get? h0.objs.size=none:=Ug hs;refine K (P.more kp2 t) it _ [h0.objs.size] (.keeps _ kp2) (r (.keeps _ kp2) hg) (λb hb=>?_) (λb hb=>?_) hp h
 ·simp at hb;subst hb;exact cO.fresh P.good hd hg (λxs n z=>by exact Ta z) (λvs' q t z=>by cases z;exact hv q t)
 ·simp at hb;subst hb;exact hd
end
noncomputable def l9:SQ->Bool
 |.Set _ _ _=>false
 |_=>true
theorem og{e:SQ}(h:l9 e=true)(env:Tt)(x:SU):foldedSetIterable e env x=pure x:=by cases e<;>first|rfl|exact aD h
section
variable{P₀:Pg}(O:C.Ok P₀){e e':SQ}{x y:X}{nm:Str}{p pos:Pos}
include O
theorem uK(hx:bv C Γ e x):h9 C Γ e (aG x) false:=λF P en k Q E R h K=>by
 refine hx F P en _ _ E R h λP1 u v L r h=>?_;have K:=yr.later K L;rcases jh h r with zq|zq|zq
 ·refine aH zq ?_;clear zq;rintro s t rfl ok h;exact wpAny_pyIter_strU (s:=P1.s) (fy K (λZ Z e=>e) (TA _) (by simp) (.inr rfl) (λL hg=>.seq (.str (i:=0) ⟨_,hg,rfl,rfl⟩) ((v6 (P:=P1) ok 0).later L)) h _)
 ·refine x8 zq ?_;clear zq;rintro a vs rfl ht rs hl h;exact wpAny_pyIter_tuple (s:=P1.s) ht (fy K (λZ Z e=>e) (TA _) (by simp) (.inr rfl) (λL hg=>.seq (.tup (i:=0) ⟨_,hg,rfl,rfl⟩ (L.tup _ _ ht)) (rs.later L)) h _)
 ·refine ew zq ?_;clear zq;rintro q p o rfl hp e ro h;have h:=mB h e;cases o with
  |list n xs=>
   refine ak ro ?_;clear ro;rintro -zq;refine dG zq ?_;clear zq;rintro vs k' hob rs rfl hl;exact WN (s:=P1.s) ⟨_,hob,rfl,k',rfl⟩ (fy K (λZ Z e=>e) (TA _) (by simp) (.inr rfl) (λL hg=>.list (L.ref _ _ hp) ⟨_,hg,rfl,rfl⟩) h _)
  |dict n es=>
   refine ak ro ?_;clear ro;rintro -zq;refine j5 zq ?_;clear zq;intro ob es' ep hob hx hdat hE hnd hm hlen hep;have hsz:es'.size=n:=by exact rwr hm (rwl hE.1 (rwr T4 rfl))
   exact q9 (s:=P1.s) (gx O P1.good hp) hob hx hdat (fy K (λZ Z e=>e) (TA _) (by simp) (.inr rfl) (λL hg=>.dict (L.ref _ _ hp) ⟨_,hg,rfl,by refine rwr hsz (rwr hep ?_);rfl⟩) h _)
  |_=>exact aD h
theorem xK(hg:P₀.gl nm=some (.bi "enumerate"))(hk:Γ.kd nm=some .globalImplicit)(hd:(nm==("__debug__":Str))=false)(hs:bx e=false)(hx:bv C Γ e x):h9 C Γ (.Call (.Name nm p) [e] [] pos) (tM x) true:=λF P en k Q E R h K=>by
 refine rwr (fV rfl) ?_;refine SO (eE (O.bi nm _ hg) hk hd (jB gb (k:=λs vs=>jT false (λv Z=>qO (λxs=>k (.enum 0 (.seq xs)) s) (λq=>aZ q s (iQ λZ Z=>k (.enum 0 (.list q 0)) s)) v) vs) (by simp[d8,hs]) (c8 hs hx c9) R h λP1 u vs L r hl h=>⟨trivial,?_⟩));refine cN h r hl ?_;clear h r;rintro u _ v us r3-l h-rfl;cases Tf l;have K:=yr.later (P:=P) (P1:=P1) K L;have two:∀{h':UT}{it:KI}{ty:String}{us:Array SU},bB P1.R.h h'->IsEnum h' (P1.R.h.objs.size+1) P1.R.h.objs.size 0 .none->(∃o,h'.get? P1.R.h.objs.size=some o∧o.cls=.type ty∧o.data=.fields us)->(∀q t,us[1]?≠some (.str q t))->
   (au [] P1.R ⟨P1.R.ρ,h',P1.R.fz⟩->dY C ⟨P1.R.ρ,h',P1.R.fz⟩ it (P1.R.h.objs.size+1) [P1.R.h.objs.size+1,P1.R.h.objs.size])->k it P1.m=true->∀t,Q (.ref (P1.R.h.objs.size+1)) ⟨h',C.g,C.d,t,C.os⟩:=by
  intro h' it ty us kp he hJ hus hr h t;have d1:P1.R.h.get? (P1.R.h.objs.size+1)=none:=Ug (U8 _);refine K (P1.more kp t) it _ _ (.keeps _ kp) (hr (.keeps _ kp)) (λb hb=>?_) (λb hb=>?_) (.inl rfl) h
  ·simp only[T8,Tz,or_false]at hb;rcases hb with rfl|rfl
   ·exact cO.fresh P1.good d1 he (λxs n z=>(by exact Ta z)) (λvs q t z=>by cases z;exact ne_of_beq_false rfl)
   ·refine aM hJ ?_;clear hJ;rintro o e-d;exact cO.fresh P1.good (aV _) e (λxs n z=>(Ta (d.symm.trans z))) (λvs' q t z=>by rw[d]at z;cases z;exact hus q t)
  ·simp only[T8,Tz,or_false]at hb;rcases hb with rfl|rfl
   ·exact d1
   ·exact aV _
 have tup:∀{a:Tw}{vs:List SU}{xs:KV},P1.R.h.IsTuple a vs.toArray->bG C P1.R xs vs->k (.enum 0 (.seq xs)) P1.m=true->Tb (Tn C.prog C.w) F.A (call (.type "enumerate") [.ref a]) (λv s=>Tb (Tn C.prog C.w) F.A (pyIter v) Q E s) E P1.s:=λht rs h=>
  lB (s:=P1.s) ht λh' he hJ k=>wpAny_pyIter_enum he (two k he hJ (by simp) (λL=>.enumT he hJ (L.tup _ _ ht) (rs.later L) (Nat.succ_ne_self _)) h _)
 cases u with
 |nil=>refine ag r3 ?_;clear r3;rintro a rfl ht;exact tup ht .nil_ h
 |cons=>refine ew r3 ?_;clear r3;rintro a w ws rfl ht h1 h2 -;exact tup ht (.cons_ h1 h2) h
 |ref q=>
  refine ag r3 ?_;clear r3;rintro p hp rfl;refine aF h hp ?_;clear h;rintro o-ro h;refine cy h ro ?_;clear h ro;rintro xs vs c hob rs hl-h -;exact call_enumerate_1 (s:=P1.s) hob λh' he hJ hz k=>wpAny_pyIter_enum he (two k he hJ (by simp) (λL=>.enumL he (L.ref _ _ hp) hJ (Nat.succ_ne_self _)) h _)
 |_=>exact aD h
omit O in
theorem Fc:∀(n a:Nat),bG C R (rg n a) (qL n (a:Int))
 |0,_=>rfl
 |n+1,a=>.cons_ .nat_ (by have:=Fc n (a+1);rwa[X4]at this)
omit O in
theorem pM{P:Pt C}{A:U6}{k:KI->KS->Bool}{Q:SU->SW->Prop}{E:SU->SW->Prop}{a b:Nat}(K:yr C P.R k false Q)(h:KH k P.m a b=true)(tt u v2:Tok)(t2:Nat):
  Tb (Tn C.prog C.w) A (pyIter (.ref P.R.h.objs.size)) Q E ⟨P.R.h.push {cls:=.type "range",data:=.fields #[.int a tt,.int b u,.int 1 v2]},C.g,C.d,t2,C.os⟩:=by
 refine dI h ?_;clear h;intro h1 h;refine dI h ?_;clear h;intro h2 h;have h1:=SP h1;have h2:=SP h2;have hR:=IsRange.new P.R.h a b 1 tt u v2;have hsz:Builtin.Range.rangeSize a b 1=((b-a:Nat):Int):=by rw[rangeSize_one];split<;>lia
 refine wpAny_pyIter_range (s:=⟨P.R.h.push {cls:=.type "range",data:=.fields #[.int a tt,.int b u,.int 1 v2]},C.g,C.d,t2,C.os⟩) hR (small_one (by exact Vu (a+Te 4611686018427387903)) (by lia) (by exact Vu (b+Te 4611686018427387903)) (by lia)) ?_;rw[hsz];exact fy K (aE _ _) (by rw[VV];exact U8 _) (by simp[rawInt]) (.inr rfl) (λL hg=>.seq (.range hg) (Fc _ _)) h _
theorem sI(hg:P₀.gl nm=some (.bi "range"))(hk:Γ.kd nm=some .globalImplicit)(hd:(nm==("__debug__":Str))=false)(hs:bx e=false)(hx:bv C Γ e x):h9 C Γ (.Call (.Name nm p) [e] [] pos) (mA x) false:=λF P en k Q E R h K=>by
 refine rwr (fV rfl) ?_;refine SO (eE (O.bi nm _ hg) hk hd (jB gb (k:=λs vs=>jT false (λv Z=>gp (λb=>KH k s 0 b) v) vs) (by simp[d8,hs]) (c8 hs hx c9) R h λP1 u vs L r hl h=>⟨trivial,?_⟩));refine cN h r hl ?_;clear h r hl;rintro u _ v us r3-l h-rfl;cases Tf l;refine cw h r3 ?_;clear h r3;rintro n t h rfl -;exact call_range_1 (s:=P1.s) (pM (yr.later (P:=P) (P1:=P1) K L) h _ _ _ _)
theorem sG(hg:P₀.gl nm=some (.bi "range"))(hk:Γ.kd nm=some .globalImplicit)(hd:(nm==("__debug__":Str))=false)(hs:bx e=false)(hs':bx e'=false)(hx:bv C Γ e x)(hy:bv C Γ e' y):h9 C Γ (.Call (.Name nm p) [e,e'] [] pos) (wO x y) false:=λF P en k Q E R h K=>by
 rw[fV rfl];refine SO (eE (O.bi nm _ hg) hk hd (jB gb (k:=λs vs=>jT false (λv r=>jT false (λw Z=>gp (λa=>gp (λb=>KH k s a b) w) v) r) vs) (by simp[d8,hs,hs']) (c8 hs hx (c8 hs' hy c9)) R h λP1 u vs L r hl h=>⟨trivial,?_⟩));refine cN h r hl ?_;clear h r hl;rintro u _ v us r4 r2 l h-rfl;refine cN h r2 l ?_;clear h l;rintro u' _ v' us' r3-l h rfl rfl;cases Tf l;exact qY (f:=λa b=>KH k P1.m a b) r4 r3 h λa b t t' e1 e2 h=>by
  subst e1 e2;exact call_range_2 (s:=P1.s) (pM (yr.later (P:=P) (P1:=P1) K L) h _ _ _ _)
theorem uL{o:SQ}{ap:Pos}(ho:aN o=false)(hp:cP ap pos=true)(hx:bv C Γ o x):h9 C Γ (.Call (.Attribute o "items" ap) [] [] pos) (vc x) true:=λG P en k Q E R h K=>by
 rw[WY,d5 ho];refine SO (hx G P en _ _ E R h λP1 u v L r h=>SO (Uv ?_));refine bw h r ?_;clear h r;rintro q p hp' h-rfl;refine dG (jp hp' h) ?_;intro a ob e hob hc hd;cases e;have K:=yr.later (P:=P) (P1:=P1) K L;refine mw (g:=.builtin "dict.items") (first:=[.ref p.fst]) (λ{pl Q t} q=>getMethod_builtin (s:=(P1.tick t).s) ⟨ob,hob,hc⟩ F.plainAttrs_dict F.slot_dict_items F.type_dict_items (λb e=>by cases e;exact⟨ob,hob,hd⟩) q) ii rfl rfl hp (c9) (R.later L) (k:=λs vs=>aZ q s (AG λn Z=>k (.items q 0 n) s)) h λP2 w vs L2 r2 l2 h2=>⟨trivial,?_⟩
 cases Tf l2;refine aF h2 (L2.ref _ _ hp') ?_;clear h2;rintro o-ro h2;refine gj h2 ?_;clear h2;rintro n es h2 rfl;refine ak ro ?_;clear ro;rintro -zq;refine j5 zq ?_;clear zq;intro ob es' ep hob hx hdat hE hnd hm hlen hep;have hsz:es'.size=n:=by rw[hm,←hE.1,T4]
 refine v8 (s:=P2.s) (gx O P2.good (L2.ref _ _ hp')) hob hx hdat ?_;refine v7 (s:=⟨P2.R.h.push {cls:=.type "dict_items",data:=.fields #[.ref p.fst]},C.g,C.d,P2.t,C.os⟩) ⟨_,T9 _ rfl,rfl,rfl⟩ (aE _ _ _ _ hob) hdat ?_;exact fy (yr.later (P:=P1) (P1:=P2) K L2) (aE _ _) (by rw[VV];exact U8 _) (by simp) (.inl rfl) (λL hg=>.items (ok:=.none) (ov:=.none) (L.ref _ _ (L2.ref _ _ hp')) (by rw[hsz,hep]at hg ⊢;exact hg)) h2 _
end
end
end
section
set_option compiler.extract_closed false
section
open PySem PySem.W PyProof.Rows
variable{C:Cx}{Γ:d6}{R R':Wd}
theorem SeqAt.flds{h:UT}{I:Tw}{vs:List SU}(r:SeqAt h I vs):∃o us,h.get? I=some o∧o.data=.fields us:=by
 refine aL r.pln ?_;rintro _ us-zq;refine aM zq ?_;clear zq;rintro o e-d;exact⟨o,us,e,d⟩
theorem dY.flds{it:KI}{I:Tw}{as:List Tw}(r:dY C R it I as):∀b∈as,∃o us,R.h.get? b=some o∧o.data=.fields us:=by
 cases r with
 |seq r _=>intro b hb;simp at hb;subst hb;exact r.flds
 |list _ hi=>intro b hb;simp at hb;subst hb;refine aM hi ?_;clear hi;rintro o e-d;exact⟨o,_,e,d⟩
 |dict _ hi=>intro b hb;simp at hb;subst hb;refine aM hi ?_;clear hi;rintro o e-d;exact⟨o,_,e,d⟩
 |items _ hi=>intro b hb;simp at hb;subst hb;exact⟨_,_,hi,rfl⟩
 |enumL he _ hi _=>intro b hb;simp at hb;rcases hb with rfl|rfl;exact⟨_,_,he,rfl⟩;refine aM hi ?_;clear hi;rintro o e-d;exact⟨o,_,e,d⟩
 |enumT he hi _ _ _=>intro b hb;simp at hb;rcases hb with rfl|rfl;exact⟨_,_,he,rfl⟩;refine aM hi ?_;clear hi;rintro o e-d;exact⟨o,_,e,d⟩
theorem ER.laterX{F:dP C Γ}{en:En}{X:List Tw}(r:ER F R en)(L:au X R R')(hl:F.menv.locals∉X)(hc:∀nm ca,F.menv.cells.lookup nm=some ca->ca∉X)(hf:∀L o es ep,R.h.get? L=some o->o.data=.dict es ep->(∃f∈F.fr,f.frame=some L)->L∉X):ER F R' en:=by
 refine ag r.ns ?_;intro m ns hold;refine eS (id ns) ?_;rintro ob _ _ lo -;refine⟨⟨m,oV ns λo ho=>L.ext _ _ ho r.lown hl,λnm q x h1 h2=>?_⟩,λq=>r.lown (L.owned (dQ lo hl) q),λnm ca hca=>?_,λf hff=>?_⟩
 ·refine(hold nm q x h1 h2).el ?_ ?_
  ·intro k v hv rv;exact .inl ⟨k,v,hv,rv.later L⟩
  ·intro k ca oc v hca hoc hd rv;refine ag (L.ext _ _ hoc (r.cells nm ca hca).1 (hc nm ca hca)) ?_;intro oc' hoc' al;exact .inr ⟨k,ca,oc',v,hca,hoc',al.data.1.trans hd,rv.later L⟩
 ·refine bf (r.cells nm ca hca) ?_;intro a zq1 b;refine aL zq1 ?_;clear zq1;intro ob v e d;refine ag (L.ext _ _ e a (hc nm ca hca)) ?_;intro o' e' al;exact⟨λq=>a (L.owned (dQ e (hc nm ca hca)) q),⟨o',v,e',al.data.1.trans d⟩,λh q=>b h (L.frozen (dQ e (hc nm ca hca)) q)⟩
 ·refine ak (r.fr f hff) ?_;intro k zq;refine gE zq ?_;clear zq;intro b o es ep a1 a2 a3 a4 a5 a6;have hx:=hf b o es ep a5 a6 ⟨f,hff,a1⟩;refine ag (L.ext b o a5 a4 hx) ?_;intro o' e' al;exact⟨k,b,o',es,ep,a1,a2,a3,λq=>a4 (L.owned (dQ a5 hx) q),e',al.data.1.trans a6⟩
theorem ER.aside{F:dP C Γ}{en:En}{as:List Tw}(r:ER F R en)(L:au as R R')(hn:∀b∈as,b∉cJ C F.menv)(hd:∀b∈as,∃o us,R.h.get? b=some o∧o.data=.fields us):ER F R' en:=
 r.laterX L (λz=>hn _ z eR) (λZ Z hc z=>hn _ z (dO hc)) λb o es ep e d Z hb=>by
  refine aL (hd b hb) ?_;intro o' us e' d';cases e.symm.trans e';rw[d]at d';exact Ta d'
theorem cO.later{X:List Tw}{b:Tw}(f:cO C R b)(L:au X R R')(hx:b∉X):cO C R' b:=by
 refine aM f.obj ?_;intro ob e h1 h2;refine ag (L.ext _ _ e f.own hx) ?_;intro o' e' al;refine⟨λq=>f.own (L.owned (dQ e hx) q),λq=>f.frz (L.frozen (dQ e hx) q),f.vol,f.old,λq=>(L.fn b q).elim f.fz (dQ e hx),o',e',?_,?_⟩
 ·refine rwr al.data.1 (rwr al.data.2.1 ?_);exact h1
 ·refine rwr al.data.1 ?_;exact h2
theorem pQ{F:dP C Γ}{P:Pt C}{en:En}(er:ER F P.R en){b:Tw}(d:P.R.h.get? b=none):b∉cJ C F.menv:=λhb=>by
 rcases T8.mp hb with rfl|hb
 ·refine ag er.ns ?_;rintro m zq1 -;refine eS zq1 ?_;clear zq1;rintro o _ _ e -;exact nn d e
 ·rcases UC.mp hb with hb|hb
  ·refine Nm hb ?_;rintro q-hq;refine bf (er.cells _ _ hq) ?_;rintro -zq1 -;refine aL zq1 ?_;clear zq1;rintro ob _ e -;exact nn d e
  ·exact(P.good.dead d).2.2.2 hb
section
variable{F:dP C Γ}{fr:Fr}{k:En->K0}{Q:UL->SW->Prop}{tg:Tg}{b o:Y}{target iter:SQ}{body orelse:List W8}{it:XI}{own:Bool}{pos:Pos}
theorem w7(lo:Γ.loud=true)(hi:h9 C Γ iter it own)(hs:l9 iter=true)(ht:pw C Γ true target tg)(hb:lI C Γ body b)(ho:lI C Γ orelse o)(hown:own=true->ij target=true):du C Γ (.For target iter body orelse pos) (cj it tg b o):=λF P fr k en Q E R h K=>by
 refine wpAny_For ?_ (og hs F.menv);refine hi F P en _ _ E R h λP1 it I as L1 r f dead hp h1=>?_;have hnf:∀b∈as,b∉cJ C F.menv:=λb hb=>pQ R (dead b hb);refine codeAny_forLoop_any (λm s=>∃(P':Pt C)(en:En)(it:KI),ER F P'.R en∧dY C P'.R it I as∧(∀b∈as,cO C P'.R b)∧qh target it∧au (as++cJ C F.menv) P.R P'.R∧KM tg b o F.cl fr k m it en P'.m=true∧s=P'.s) ?_ kR
  ⟨P1,en,it,R.later L1,r,f,hp.elim (λz=>.inr (hown z)) .inl,L1.mono λb hb=>TU _ (pZ hb),h1,rfl⟩
 intro m s zq;refine MG zq ?_;clear zq;rintro P2 en it R2 r f hok L2 h2 rfl;have strike:∀{R'},au (as++cJ C F.menv) P.R R'->au (cJ C F.menv) P.R R':=λL=>L.strike λb hb=>(UC.mp hb).elim (λq=>.inr (dead b q)) .inl;have inA:∀{R'' R'},au as R'' R'->au (as++cJ C F.menv) R'' R':=λL=>L.mono λb hb=>UI _ hb;have inF:∀{R'' R'},au (cJ C F.menv) R'' R'->au (as++cJ C F.menv) R'' R':=λL=>L.mono λb hb=>TU _ hb;cases m with
 |zero=>exact aD h2
 |succ m=>
  refine sf (Qn:=λs₁=>Tb (Tn C.prog C.w) F.A (execs orelse F.menv) (λf s₃=>Q f s₃) _ s₁) (Qs:=λv s₁'=>Tb (Tn C.prog C.w) F.A (assign target F.menv v) (λZ s₂=>Tb (Tn C.prog C.w) F.A (execs body F.menv) _ _ s₂) _ s₁') r f (F.handled lo) hok h2 (λhz P3 e3 L3=>?_) λx it' hx P3 v e3 L3 rv r' f' hok'=>?_
  ·exact ho F P3 fr k en Q _ (R2.aside L3 hnf r.flds) (e3▸hz) λP4 fl L4=>K P4 fl (strike ((L2.trans (inA L3)).trans (inF L4)))
  ·refine ht.2.2 F P3 en (cJ C F.menv) x v _ _ _ eR (λZ Z Z=>dO) (R2.aside L3 hnf r.flds) hx rv λP4 en4 e4 L4 R4 h4=>?_;have L5:=(L2.trans (inA L3)).trans (inF L4);have f4:∀b∈as,cO C P4.R b:=λb hb=>(f' b hb).later L4 (hnf b hb);have r4:=r'.later L4 f' hnf;refine hb F P4 _ _ en4 _ _ R4 (by refine rwr e4 (rwr e3 ?_);exact h4) λP5 fl L6 hf=>?_;have L7:=L5.trans (inF L6);have again:∀en5,ER F P5.R en5->KM tg b o F.cl fr k m it' en5 P5.m=true->∃m',m'<m+1∧∃(P':Pt C)(en:En)(it:KI),ER F P'.R en∧dY C P'.R it I as∧(∀b∈as,cO C P'.R b)∧qh target it∧au (as++cJ C F.menv) P.R P'.R∧KM tg b o F.cl fr k m' it en P'.m=true∧P5.s=P'.s:=
    λen5 R5 h5=>⟨m,Ut m,P5,en5,it',R5,r4.later L6 f4 hnf,λb hb=>(f4 b hb).later L6 (hnf b hb),hok',L7,h5,rfl⟩
   cases fl with
   |next=>refine ag hf ?_;clear hf;intro en5 R5 h5;exact again en5 R5 h5
   |cont=>refine ag hf ?_;clear hf;intro en5 R5 h5;exact again en5 R5 h5
   |brk=>refine ag hf ?_;clear hf;intro en5 R5 h5;exact K.next (strike L7) R5 h5
   |ret v=>exact K P5 (.ret v) (strike L7) hf
theorem xx{e:SQ}{d:Cn}(hd:fW C Γ e d)(hb:lI C Γ body b)(ho:lI C Γ orelse o):du C Γ (.While e body orelse pos) (ez d b o):=λF P fr k en Q E R h K=>by
 refine wpAny_While ?_;refine codeAny_whileLoop (λm s=>∃(P':Pt C)(en:En),ER F P'.R en∧au (cJ C F.menv) P.R P'.R∧NG d b o F.cl fr k m en P'.m=true∧s=P'.s) ?_ kR ⟨P,en,R,.refl _ _,h,rfl⟩;intro m s zq;refine dG zq ?_;clear zq;rintro P1 en R1 L1 h1 rfl;cases m with
 |zero=>exact aD h1
 |succ m=>
  refine hd F P1 en _ _ _ _ R1 h1 λP2 c L2 h2=>?_;have L3:=L1.trans L2.frame;cases c with
  |false=>exact ho F P2 fr k en Q _ (R1.later L2) h2 λP4 fl L4=>K P4 fl (L3.trans L4)
  |true=>
   refine hb F P2 _ _ en _ _ (R1.later L2) h2 λP3 fl L4 hf=>?_;have L5:=L3.trans L4;cases fl with
   |next=>refine ag hf ?_;clear hf;intro en3 R3 h3;exact⟨m,Ut m,P3,en3,R3,L5,h3,rfl⟩
   |cont=>refine ag hf ?_;clear hf;intro en3 R3 h3;exact⟨m,Ut m,P3,en3,R3,L5,h3,rfl⟩
   |brk=>refine ag hf ?_;clear hf;intro en3 R3 h3;exact K.next L5 R3 h3
   |ret v=>exact K P3 (.ret v) L5 hf
end
end
end
section
set_option compiler.extract_closed false
section
open PySem PySem.W PyProof.Rows
theorem m7{c:Nat}(h1:32≤c)(h2:c≤126):Unicode.isPrintable c=true:=by
 have:∀c:Nat,c<127->32≤c->Unicode.isPrintable c=true:=by decide+kernel
 exact this c (by exact U4 h2 (Ut 126)) h1
theorem ny{c:Nat}(h:ki c=true):Wz 39 c=[c]:=by
 unfold ki at h;simp only[WJ,Bool.not_eq_true',lc,decide_eq_false_iff_not]at h;refine ak h ?_;clear h;intro zq0 h4;refine ak zq0 ?_;clear zq0;intro zq0 h3;refine ak zq0 ?_;clear zq0;intro h1 h2;have h1:=SP h1;have h2:c+1≤127:=SP h2;unfold Wz;dsimp only;rw[if_neg (by simp[h3,h4]),if_neg (by simp;lia),if_neg (by simp;lia),if_neg (by simp;lia),if_pos (m7 h1 (by exact Vj h2))]
theorem nv{s:Str}(h:s.cps.toList.all ki=true):(reprText s).cps.toList=39::(s.cps.toList++[39]):=by
 have hq:reprQuote s=39:=by
  unfold reprQuote;have:s.cps.contains 39=false:=by
   rw[Bool.eq_false_iff];intro z;rw[Array.contains_iff_mem]at z;have:=TP.mp h 39 (Array.mem_toList_iff.mpr z);revert this;decide
  rw[this];rfl
 unfold reprText;rw[hq];have go:∀(l:List Nat)(acc:Array Nat),(∀c∈l,ki c=true)->l.foldl (λout c=>out++(Wz 39 c).toArray) acc=acc++l.toArray:=by
  intro l;induction l with
  |nil=>intro acc _;rfl
  |cons c r ih=>
   intro acc ha;rw[List.foldl_cons,ny (ha c SX),ih _ λx hx=>ha x (T5 _ hx)];simp
 rw[←Array.foldl_toList,go _ _ (TP.mp h)];simp
theorem lL:∀(ts:List Str)(k:Nat)(acc:Str),0<k->(textFrom k acc ts).cps.toList=acc.cps.toList++(ts.map λt=>44::32::t.cps.toList).flatten
 |[],k,acc,_=>by exact(Ul _).symm
 |t::ts,k,acc,hk=>by
  rw[textFrom,lL ts (k+1) _ (VI k),if_pos hk];show((acc.cps++(", ":Str).cps++t.cps).toList)++_=_;refine rwr U5 (rwr U5 ?_);have:(", ":Str).cps.toList=[44,32]:=by decide+kernel
  refine rwr this ?_;simp
theorem o8:∀(x:List Nat)(r:List (List Nat)),jy [44,32] (x::r)=x++(r.map λt=>44::32::t).flatten
 |x,[]=>by exact(Ul _).symm
 |x,y::r=>by
  have e:jy [44,32] (x::y::r)=x++[44,32]++jy [44,32] (y::r):=rfl;refine rwr e (rwr (o8 y r) ?_);simp
theorem sZ(ts:List Str):(listText ts).cps.toList=91::(jy [44,32] (ts.map λt=>t.cps.toList)++[93]):=by
 unfold listText;show((textFrom 0 "[" ts).cps++("]":Str).cps).toList=_;have e1:("[":Str).cps.toList=[91]:=by decide+kernel
 have e2:("]":Str).cps.toList=[93]:=by decide+kernel
 refine rwr U5 (rwr e2 ?_);cases ts with
 |nil=>
  show("[":Str).cps.toList++[93]=_;refine rwr e1 ?_;rfl
 |cons t r=>
  rw[textFrom,lL r 1 _ (by exact VI _),if_neg (by decide)];show(("[":Str).cps++("":Str).cps++t.cps).toList++_++_=_;have e3:("":Str).cps.toList=[]:=by decide+kernel
  rw[U5,U5,e1,e3,US,o8];simp[List.map_map,Function.comp_def]
theorem jv:∀ss:List Str,PyData.shownAll (ss.map .str)=ss.map reprText
 |[]=>by rfl
 |s::r=>by simp[PyData.shownAll,PyData.shown,jv r]
theorem gN:∀ss:List Str,PyData.showableAll (ss.map .str)=true
 |[]=>by rfl
 |s::r=>by simp[PyData.showableAll,PyData.showable,gN r]
theorem iy:∀ss:List Str,PyData.hasDictAll (ss.map .str)=false
 |[]=>by rfl
 |s::r=>by simp[PyData.hasDictAll,PyData.hasDict,iy r]
theorem jz:∀ss:List Str,WK (ss.map .str)=0
 |[]=>by rfl
 |s::r=>by simp[WK,PyData.depth,jz r]
variable{C:Cx}{Γ:d6}{R R':Wd}
theorem nT{k:KV->Bool}{l:List Nat}(h:Ma k l=true){G:Prop}(k0:l.length≤190->(∀c∈l,c<1114112)->k (.str (gW l))=true->G):G:=by
 refine dI h ?_;intro a b;refine iJ a ?_;intro a1 a2;exact k0 (SP a1) (λc hc=>SP (TP.mp a2 c hc)) b
theorem qZ{l:List Nat}(h1:l.length≤190)(h2:∀c∈l,c<1114112){s:Str}(hs:s.cps.toList=l){t:Tok}:VR C R (.str (gW l)) (.str s t):=by
 have ok:yy s:=⟨by refine rwr hs ?_;exact h2,by refine rwl T4 (rwr hs ?_);exact h1⟩
 have:=VR.str_ (C:=C) (R:=R) (t:=t) ok;unfold iI at this;rw[hs]at this;exact this
theorem sT{o:Option (List (List Nat))}{k:List (List Nat)->Bool}(h:LY o k=true){G:Prop}(k0:∀l,k l=true->o=some l->G):G:=by
 cases o with
 |none=>exact aD h
 |some l=>exact k0 l h rfl
set_option tactic.hygienic true in
theorem mY{g:Nat->Option (List Nat)}{x r:KV}{l:List (List Nat)}(h:kX g (.cons x r)=some l){G:Prop}(k:∀c a b,g c=some a->kX g r=some b->x=.str c->l=a::b->G):G:=by
 cases x with
 |str c=>
  revert h;show(match g c,kX g r with|some x,some xs=>some (x::xs)|_,_=>none)=some l->_;cases h1:g c with
  |none=>exact λh=>dh h
  |some a=>
   cases h2:kX g r with
   |none=>exact λh=>dh h
   |some b=>intro h;cases h;exact k c a b h1 h2 rfl rfl
 |_=>exact dh h
theorem tx(sep:Str):∀ys:List Str,(Str.join sep ys).cps.toList=jy sep.cps.toList (ys.map λy=>y.cps.toList)
 |[]=>rfl
 |[x]=>rfl
 |x::y::r=>by
  show(x.cps++sep.cps++(Str.join sep (y::r)).cps).toList=_;refine rwr U5 (rwr U5 (rwr (tx sep (y::r)) ?_));rfl
theorem sz:∀{xs:KV}{vs:List SU}{ys:List (List Nat)},bG C R xs vs->kX (λc=>some (oE c)) xs=some ys->∃ss,StrsAre vs ss∧ys=ss.map (λy=>y.cps.toList)∧∀s∈ss,s.length≤190
 |.nil,_,ys,r,e=>by cases r;cases e;exact⟨[],.nil,rfl,(by(repeat intro);contradiction)⟩
 |.cons x y,_,ys,r,e=>by
  refine aH r ?_;clear r;rintro v vs rfl r1 r2;refine mY e ?_;rintro c a b h1 h2 rfl rfl;refine aH r1 ?_;clear r1;rintro s t rfl rfl ok;cases h1;refine aM (sz (xs:=y) r2 h2) ?_;intro ss e1 e2 e3;exact⟨s::ss,.cons s t e1,by refine rwr e2 (rwr (fF ok) ?_);rfl,λz hz=>(T8.mp hz).elim (λe=>e▸ok.2) (e3 z)⟩
theorem StrsAre.length{vs:List SU}{ss:List Str}(h:StrsAre vs ss):ss.length=vs.length:=by
 induction h with
 |nil=>rfl
 |cons _ _ _ ih=>simp[ih]
theorem zj:∀{ss:List Str},(∀s∈ss,s.length≤190)->(ss.map (·.length)).sum≤ss.length*190
 |[],_=>TQ _
 |s::r,h=>by
  have:=zj (ss:=r) λx hx=>h x (T5 _ hx);have:=h s SX;simp only[US,List.sum_cons,Vx];lia
section
variable{e:SQ}{x y:X}{ap p pos:Pos}
theorem B2{A:U6}{E:SU->SW->Prop}{s0:Str}{t0:Tok}{s:SW}{pl:Sem Bool}{Q:SU×List SU->SW->Prop}(q:Q (.builtin "str.join",[.str s0 t0]) s):Tb (Tn C.prog C.w) A (getMethod (.str s0 t0) "join" pl) Q E s:=by
 refine getMethod_builtin (T:="str") (id:="str.join") ?_ ?_ ?_ ?_ ?_ ?_
 ·exact typeIs_str _ s0 t0
 ·exact F.plainAttrs_str
 ·exact F.slot_str_join
 ·exact F.type_str_join
 ·exact λa=>(by(repeat intro);contradiction)
 ·exact q
set_option maxRecDepth 8000 in
theorem zD{s:Str}{n:Nat}(ok:Fj s=true)(hs:bx e=false)(hp:cP ap pos=true)(hx:bv C Γ e x):bv C Γ (.Call (.Attribute (.Constant (.str s) n p) "join" ap) [e] [] pos) (vM (iI s) x):=λG P en k Q E R h K=>by
 have ok:=qS ok;rw[WY,d5 rfl];refine SO (wpAny_mkText (SO (Uv ?_)));have hg:∀{pl:Sem Bool}{Q:SU×List SU->SW->Prop}{t:Nat},Q (.builtin "str.join",[.str s P.t]) ((P.tick (P.t+1)).tick t).s->Tb (Tn C.prog C.w) G.A (getMethod (.str s P.t) "join" pl) Q E ((P.tick (P.t+1)).tick t).s:=by
  intro pl Q t q;have z:=B2 (C:=C) (A:=G.A) (E:=E) (pl:=pl) q;exact z
 refine mw (P:=P.tick (P.t+1)) (g:=.builtin "str.join") (first:=[.str s P.t]) hg ii (by simp[d8,hs]) rfl hp (c8 hs hx c9) R
  (k:=λs' vs=>jT false (λv Z=>az (T3 (len v) 1000) false (LY (kX (λc=>some (oE c)) v) λys=>Ma (k s') (jy (oE (iI s)) ys))) vs) h λP2 w vs L2 r2 l2 h2=>⟨trivial,?_⟩
 refine cN h2 r2 l2 ?_;clear h2 r2 l2;rintro u _ v us r3-l h2-rfl;cases Tf l;refine dI h2 ?_;clear h2;intro hb h2;have hb:=SP hb;refine sT h2 ?_;clear h2;intro ys h2 hy;refine nT h2 ?_;clear h2;intro m1 m2 h2;have:∃a vs,v=.ref a∧P2.R.h.IsTuple a vs.toArray∧bG C P2.R u vs:=by
  cases u with
  |nil=>refine ag r3 ?_;clear r3;rintro a rfl ht;exact⟨a,[],rfl,ht,rfl⟩
  |cons=>refine ew r3 ?_;clear r3;rintro a u us rfl ht h1 h2 -;exact⟨a,u::us,rfl,ht,u,us,rfl,h1,h2⟩
  |_=>exact dh hy
 refine aH this ?_;clear this;rintro a vs rfl hT rs;refine aM (sz rs hy) ?_;intro ss e1 e2 e3;have hl:ss.length≤1000:=by rw[StrsAre.length e1,←rs.len_eq];exact hb
 refine join_tuple (s:=P2.s) hT (by simpa using e1) ?_ λt' k=>?_
 ·have h1:=zj e3;have h2:s.length≤190:=ok.2;have h3:ss.length*s.length≤1000*190:=Nat.mul_le_mul hl h2;lia
 ·refine(K.later (au.trans (R':=P.R) (.refl _ _) L2)).at (qZ m1 m2 ?_) h2 _;unfold Txt.join;rw[StrLaws.glued_eq_join,tx,e2,fF ok]
theorem nB:∀{xs:KV}{vs:List SU}{ys:List (List Nat)},bG C R xs vs->kX qK xs=some ys->∃ss:List Str,ReadsAll R.h vs (ss.map .str) []∧ys=ss.map (λs=>(reprText s).cps.toList)
 |.nil,_,ys,r,e=>by cases r;cases e;exact⟨[],.nil,rfl⟩
 |.cons x y,_,ys,r,e=>by
  refine aH r ?_;clear r;rintro v vs rfl r1 r2;refine mY e ?_;clear e;rintro c a b h1 h2 rfl rfl;refine aH r1 ?_;clear r1;rintro s t rfl rfl ok;refine ag (nB (xs:=y) r2 h2) ?_;intro ss e1 e2;unfold qK at h1;rw[fF ok]at h1
  split at h1
  ·rename_i hp;cases h1;exact⟨s::ss,.cons (as:=[]) (bs:=[]) (.str s t) e1,by exact rwr e2 (rwr US (rwr (nv hp) rfl))⟩
  ·exact dh h1
theorem CX{v:SQ}(hx:bv C Γ v x):bv C Γ (.FormattedValue v 115 none pos) (rZ x):=λG P en k Q E R h K=>by
 refine wpAny_FormattedValue_s (hx G P en _ _ E R h λP1 u v L r h1=>?_);have K:=K.later L;have fin:∀(s:Str)(c:Nat)(h2:UT)(tk:Tok)(t2:Nat),s.length≤190->(∀(R:Wd)(tk:Tok),VR C R (.str c) (.str s tk))->k P1.m (.str c)=true->bB P1.R.h h2->Tb (Tn C.prog C.w) G.A (formatField (.str s tk) Str.empty) Q E ⟨h2,C.g,C.d,t2,C.os⟩:=by
  intro s c h2 tk t2 hs rv hk kp;refine wpAny_formatField_str ?_ ?_ (SV hs (by refine rwr VM ?_;decide))
  ·exact K.more kp (rv _ _) hk _
  ·exact K.more kp (rv _ _) hk _
 cases u with
 |str c=>
  refine aH r ?_;clear r;rintro s t rfl rfl ok;exact habitSame_str (λt' tk'=>fin s _ P1.R.h t' tk' ok.2 (λZ Z=>.str_ ok) h1 λZ Z e=>e) (SV ok.2 (by refine rwr VM ?_;decide))
 |ref q=>
  refine ag r ?_;clear r;rintro p hp rfl;refine aF h1 hp ?_;clear h1;rintro o-ro h1;refine cy h1 ro ?_;clear h1 ro;rintro xs vs c hob rs hl he h1 -;refine sT h1 ?_;clear h1;intro ys h1 hy;refine nT h1 ?_;clear h1;intro m1 m2 h1;refine ag (nB rs hy) ?_;intro ss e1 e2;have rd:Reads P1.R.h (.ref p.fst) (.list (ss.map .str)) [p.fst]:=.list hob rfl rfl e1;have hsh:(PyData.list (ss.map .str)).shown=listText (ss.map reprText):=by simp only[PyData.shown,jv]
  have hlt:(listText (ss.map reprText)).cps.toList=91::(jy [44,32] ys++[93]):=by rw[sZ,e2,List.map_map];rfl
  have hz:(listText (ss.map reprText)).length≤190:=by show Array.size _≤_;refine rwl T4 (rwr hlt ?_);exact m1
  refine convS_of_reads (s:=P1.s) rd (by simp only[PyData.showable,gN]) (PyData.noDict_hsm (by simp only[PyData.hasDict,iy])) G.room.guards (by simp only[PyData.depth,jz];have:=G.units;lia) (λZ Z e=>e) (λh2 u tk hk=>?_) ?_
  ·refine rwr hsh ?_;exact fin _ _ h2 u tk hz (λZ Z=>qZ m1 m2 hlt) h1 hk
  ·refine rwr hsh ?_;exact SV hz (by refine rwr VM ?_;decide)
 |_=>exact aD h1
def ym(C:Cx)(Γ:d6)(es:List SQ)(x:X):Prop:=∀(F:dP C Γ)(P:Pt C)(en:En)(k:KT)(acc:Str)(Q:SU->SW->Prop)(E:SU->SW->Prop),ER F P.R en->x F.cl en k P.m=true->acc.length+190*es.length≤20000->
 (∀(P':Pt C)(u:KV)(l:List (List Nat))(s:Str)(t:Tok),au C.vol P.R P'.R->kX (λc=>some (oE c)) u=some l->k P'.m u=true->s.cps.toList=acc.cps.toList++l.flatten->Q (.str s t) P'.s)->Tb (Tn C.prog C.w) F.A (joinParts acc (evalEach es F.menv)) Q E P.s
theorem zY:ym C Γ [] aj:=λF P en k acc Q E R h hl K=>
 joinParts_nil (K (P.tick (P.t+1)) .nil [] acc _ (.refl _ _) rfl h (by exact(Ul _).symm)) (by simp at hl;exact SV hl (by refine rwr VM ?_;decide))
theorem xJ{es:List SQ}(hx:bv C Γ e x)(hy:ym C Γ es y):ym C Γ (e::es) (iX x y):=λF P en k acc Q E R h hl K=>by
 rw[Vx]at hl;show Tb _ _ (joinParts acc (eval e F.menv::evalEach es F.menv)) Q E _;refine joinParts_cons (hx F P en _ _ E R h λP1 u v L r h1=>?_);cases u with
 |str c=>
  refine aH r ?_;clear r;rintro s t rfl rfl ok;have hs:(acc++s).length=acc.length+s.length:=by show(acc.cps++s.cps).size=_;refine rwr Array.size_append ?_;rfl
  have:=ok.2;have:s.length≤190:=ok.2;refine⟨by refine rwr hs ?_;exact SV (by lia:_≤20000) (by refine rwr VM ?_;decide),hy F P1 en _ _ Q E (R.later L) h1 (by refine rwr hs ?_;lia) λP2 u l s2 t2 L2 hu h2 hs2=>?_⟩;refine K P2 (.cons (.str (iI s)) u) (s.cps.toList::l) s2 t2 (L.trans L2) (by show(match some (oE (iI s)),kX _ u with|some x,some xs=>some (x::xs)|_,_=>none)=_;exact rwr hu (rwr (fF ok) rfl)) h2 ?_;refine rwr hs2 (rwr List.flatten_cons ?_);show(acc.cps++s.cps).toList++_=_;rw[U5,UP]
 |_=>exact aD h1
theorem zI{es:List SQ}{e':SQ}(hx:ym C Γ (e::e'::es) x)(hl:T3 es.length 90=true):bv C Γ (.JoinedStr (e::e'::es) pos) (rX x):=λF P en k Q E R h K=>by
 have hl:=SP hl;refine JoinedStr_many (hx F P en _ Str.empty Q E R h (by show 0+_≤_;simp only[Vx];lia) λP1 u l s t L hu h1 hs=>?_);rw[hu]at h1;refine nT h1 ?_;clear h1;intro m1 m2 h1;exact(K.later L).at (qZ m1 m2 hs) h1 _
end
end
end
section
set_option compiler.extract_closed false
section
open PySem PySem.W PyProof.Rows
theorem iW{menv:Tt}(hk:menv.scope.kind=.function):∀(names:List (Str×V0))(x:Str),
  (names.map λ(n,k)=>if(k==TZ&&menv.scope.kind==.function&&menv.kindOf n==some .cell)then(n,NameKind.cell)else(n,k)).lookup x=
   (match names.lookup x with|some .free=>if menv.kindOf x==some .cell then some .cell else some .free|k=>k)
 |[],x=>rfl
 |(n,k)::r,x=>by
  have ih:=iW hk r x;show List.lookup x ((if(k==TZ&&menv.scope.kind==.function&&menv.kindOf n==some .cell)=true then(n,NameKind.cell)else(n,k))::_)=_;have hkb:(menv.scope.kind==ScopeKind.function)=true:=by refine rwr hk ?_;rfl
  cases hx:x==n with
  |true=>
   have hxn:x=n:=by simpa using hx
   subst hxn;by_cases hc:(k==TZ&&menv.scope.kind==.function&&menv.kindOf x==some .cell)=true
   ·refine rwr (if_pos hc) (rwr U2 (rwr U2 (rwr hx ?_)));simp only[WJ]at hc;have h1:k=.free:=by simpa using hc.1.1
    subst h1;simp only[hc.2,if_true]
   ·refine rwr (if_neg hc) (rwr U2 (rwr U2 (rwr hx ?_)));cases k with
    |free=>
     simp only[hkb,Bool.and_true,beq_self_eq_true,Bool.true_and]at hc;simp only[hc];rfl
    |_=>rfl
  |false=>
   by_cases hc:(k==TZ&&menv.scope.kind==.function&&menv.kindOf n==some .cell)=true
   ·refine rwr (if_pos hc) (rwr U2 (rwr U2 (rwr hx ?_)));exact ih
   ·refine rwr (if_neg hc) (rwr U2 (rwr U2 (rwr hx ?_)));exact ih
theorem j8{menv:Tt}{sc:Vv}(H:∀x∈sc.names,x.2=.free->(menv.cells.lookup x.1).isSome=true):
  ∃cl,closureFor sc menv=pure cl∧(∀p∈cl,menv.cells.lookup p.1=some p.2∧(p.1,TZ)∈sc.names)∧∀x,(x,TZ)∈sc.names->∃c,(x,c)∈cl:=by
 unfold closureFor;have key:∀(names:List (Str×V0))(cs:List (Str×Tw)),(∀x∈names,x.2=.free->(menv.cells.lookup x.1).isSome=true)->
   ∃cl,(forIn names cs λ(x:Str×V0)(r:List (Str×Tw))=>(do
    if x.2==.free then do
     let a ←cellOf menv x.1
     pure (VA ((x.1,a)::r))
    else pure (VA r):Sem (ForInStep (List (Str×Tw)))))=pure cl∧(∀p∈cl,p∈cs∨(menv.cells.lookup p.1=some p.2∧(p.1,TZ)∈names))∧(∀p∈cs,p∈cl)∧∀x,(x,TZ)∈names->∃c,(x,c)∈cl:=by
  intro names;induction names with
  |nil=>intro cs _;exact⟨cs,by rw[List.forIn_nil],λp hp=>.inl hp,λp hp=>hp,λx hx=>by cases hx⟩
  |cons y r ih=>
   intro cs hH;obtain⟨n,k⟩:=y;rw[List.forIn_cons];by_cases hk:k=.free
   ·subst hk;refine KE (hH _ SX rfl) ?_;intro a ha;refine d9 (ih ((n,a)::cs) λx hx=>hH x (T5 _ hx)) ?_;intro cl e h1 h2 h3;refine⟨cl,?_,λp hp=>?_,λp hp=>h2 p (T5 _ hp),λx hx=>?_⟩
    ·refine rwl e ?_;have:cellOf menv n=pure a:=by unfold cellOf;rw[ha]
     simp only[this,beq_self_eq_true,if_true,pure_bind]
    ·rcases h1 p hp with q|q
     ·rcases T8.mp q with rfl|q
      ·exact .inr ⟨ha,SX⟩
      ·exact .inl q
     ·exact .inr ⟨q.1,T5 _ q.2⟩
    ·rcases T8.mp hx with e2|e2
     ·cases e2;exact⟨a,h2 _ SX⟩
     ·exact h3 x e2
   ·refine d9 (ih cs λx hx=>hH x (T5 _ hx)) ?_;intro cl e h1 h2 h3;refine⟨cl,?_,λp hp=>?_,h2,λx hx=>?_⟩
    ·refine rwl e ?_;have:(k==TZ)=false:=by simpa using hk
     simp only[this,Bool.false_eq_true,if_false,pure_bind]
    ·rcases h1 p hp with q|q
     ·exact .inl q
     ·exact .inr ⟨q.1,T5 _ q.2⟩
    ·rcases T8.mp hx with e2|e2
     ·cases e2;exact absurd rfl hk
     ·exact h3 x e2
 refine d9 (key sc.names [] H) ?_;rintro cl e h1-h3;refine⟨cl,?_,λp hp=>(h1 p hp).resolve_left (by exact Tz),h3⟩;exact(bind_pure _).trans e
theorem eN{α:Type}:∀{l:List (Str×α)}{x:Str}{a:α},(x,a)∈l->(l.lookup x).isSome=true
 |[],_,_,h=>by cases h
 |p::r,x,a,h=>by
  refine rwr U2 ?_;cases e:x==p.1 with
  |true=>rfl
  |false=>
   rcases T8.mp h with rfl|h
   ·simp at e
   ·exact eN h
section
variable{C:Cx}{A:U6}{R:Result->SW->Prop}
structure EO(C:Cx)(e target iter:SQ)(ifs:List SQ)(stp:Tt->SU->Sem Unit):Prop where
 cl:clausesOf e=[⟨target,iter,ifs,0⟩]
 under:∀(A:U6) it D env,A.under (.compLoop e 0 it (.ref D) env)=A
 turn:∀it D env,(Tn C.prog C.w).den (.compLoop e 0 it (.ref D) env)=(do
  standAt iter.pos
  match←pyNext it with
  |none=>pure (.done .next)
  |some v=>
   letOwnedTupleGo target it v
   assign target env v
   let mut ok:=true
   for c in ifs do
    if ok then ok ←isTrue c env (eval c env)
   if ok then
    stp env (.ref D)
   again (.compLoop e 0 it (.ref D) env):Sem Fin).onRaise λx=>do noteFrame x env;theTreesLotGoes x
 start:∀{A:U6}{R:Result->SW->Prop}{s it acc env},codeAny (Tn C.prog C.w) A (.compLoop e 0 it acc env) R s->
  Tb (Tn C.prog C.w) A (pyIter it) (λit' s'=>codeAny (Tn C.prog C.w) A (.compLoop e 0 it' acc env) R s') (notedBy (Tn C.prog C.w) A env λx s'=>R (.error x) s') s->codeAny (Tn C.prog C.w) A (.compStart e 0 it acc env) R s
theorem EO.loop{e target iter:SQ}{ifs:List SQ}{stp:Tt->SU->Sem Unit}(H:EO C e target iter ifs stp){it:SU}{D:Tw}{env:Tt}(I:Nat->SW->Prop)
  (turn:∀n s,I n s->Tb (Tn C.prog C.w) A (pyNext it) (λr s₁=>match r with
   |none=>R (.ok .next) s₁
   |some v=>Tb (Tn C.prog C.w) A (letOwnedTupleGo target it v) (λZ s₁'=>Tb (Tn C.prog C.w) A (assign target env v) (λZ s₂=>
     Tb (Tn C.prog C.w) A (forIn ifs true λc r=>if r=true then do let ok ←isTrue c env (eval c env);pure (VA ok)else pure (VA r)) (λok s₃=>
      if ok=true then Tb (Tn C.prog C.w) A (stp env (.ref D)) (λZ s₅=>∃m,m<n∧I m s₅) (notedBy (Tn C.prog C.w) A env λe s'=>R (.error e) s') s₃
      else∃m,m<n∧I m s₃) (notedBy (Tn C.prog C.w) A env λe s'=>R (.error e) s') s₂) (notedBy (Tn C.prog C.w) A env λe s'=>R (.error e) s') s₁') (notedBy (Tn C.prog C.w) A env λe s'=>R (.error e) s') s₁) (notedBy (Tn C.prog C.w) A env λe s'=>R (.error e) s') s)
  (n:Nat) {s:SW} (h:I n s):codeAny (Tn C.prog C.w) A (.compLoop e 0 it (.ref D) env) R s:=by
 refine codeAny_loop rfl I (λn s hI=>?_) n h;rw[H.turn,H.under];refine wpAny_noted ?_;refine SO (Uv (SO (UJ (turn n s hI) (λr s₁ h₁=>?_) λZ Z h'=>h')));cases r with
 |none=>exact SR h₁
 |some v=>
  refine SO (UJ h₁ (λZ s₁' h₁'=>SO (UJ h₁' (λZ s₂ h₂=>SO (UJ h₂ (λok s₃ h₃=>?_) λZ Z h'=>h')) λZ Z h'=>h')) λZ Z h'=>h');cases ok with
  |false=>exact SR ⟨rfl,h₃⟩
  |true=>exact SO (UJ h₃ (λZ s₅ h₅=>SR ⟨rfl,h₅⟩) λZ Z h'=>h')
end
variable{C:Cx}{Γ:d6}{R R':Wd}
noncomputable def fK(kd:Str->Option V0)(sc:Vv):Str->Option V0:=λs=>match sc.names.lookup s with
 |some .free=>if kd s==some .cell then some .cell else some .free
 |k=>k
structure vK(kd:Str->Option V0)(sc:Vv):Prop where
 kind:sc.kind=.function
 cell:∀x∈sc.names,x.2≠.cell
 loc:∀x∈sc.names,x.2=.local->sc.names.lookup x.1=some .local
 free:∀x∈sc.names,x.2=.free->sc.names.lookup x.1=some .free∧(kd x.1=some .cell∨kd x.1=some .free)
 fp:sc.names.lookup ("FP":Str)≠some .local
def jS(Γ:d6)(e:En):List Str->KV->Prop
 |[],.nil=>True
 |nm::r,.cons y s=>(∃q,Γ.slot nm=some q∧tg q e=some y)∧jS Γ e r s
 |_,_=>False
theorem jS.ind{e:En}{P:List Str->KV->Prop}(h0:P [] .nil)(h1:∀nm ns y s q,Γ.slot nm=some q->tg q e=some y->jS Γ e ns s->P ns s->P (nm::ns) (.cons y s))(ns:List Str):∀cs,jS Γ e ns cs->P ns cs:=by
 induction ns with
 |nil=>intro cs h;cases cs with
  |nil=>exact h0
  |_=>exact False.elim h
 |cons nm ns ih=>intro cs h;cases cs with
  |cons y s=>refine ak h ?_;intro a b;refine ag a ?_;intro q h2 h3;exact h1 nm ns y s q h2 h3 b (ih s b)
  |_=>exact False.elim h
theorem jS.len{e:En}{ns:List Str}{cs:KV}:jS Γ e ns cs->Internal.len cs=ns.length:=jS.ind (P:=λns cs=>Internal.len cs=ns.length) rfl (λZ Z Z Z Z Z Z Z i=>congrArg Te i) ns cs
theorem jS.at{e:En}{ns:List Str}{cs:KV}:jS Γ e ns cs->∀i nm y,ns[i]?=some nm->ng i cs=some y->∃q,Γ.slot nm=some q∧tg q e=some y:=jS.ind (P:=λns cs=>∀i nm y,ns[i]?=some nm->ng i cs=some y->∃q,Γ.slot nm=some q∧tg q e=some y) (λi Z Z h Z=>dh h) (λZ Z Z Z q h1 h2 Z k i Z Z e1 e2=>by
 cases i with
 |zero=>cases e1;cases e2;exact⟨q,h1,h2⟩
 |succ i=>exact k i _ _ e1 e2) ns cs
theorem jS.vals{e:En}{S:Str->SU->Prop}{ns:List Str}{cs:KV}:jS Γ e ns cs->(∀nm∈ns,∀q y,Γ.slot nm=some q->tg q e=some y->∃v,VR C R y v∧S nm v)->∃vs,bG C R cs vs∧vs.length=ns.length∧∀(i:Nat)(nm:Str)(v:SU),ns[i]?=some nm->vs[i]?=some v->S nm v:=
 jS.ind (P:=λns cs=>(∀nm∈ns,∀q y,Γ.slot nm=some q->tg q e=some y->∃v,VR C R y v∧S nm v)->∃vs,bG C R cs vs∧vs.length=ns.length∧∀(i:Nat)(nm:Str)(v:SU),ns[i]?=some nm->vs[i]?=some v->S nm v) (λZ=>⟨[],rfl,rfl,λi Z Z h Z=>dh h⟩) (λnm Z Z Z q h1 h2 Z ih k=>by
  refine ag (k nm SX q _ h1 h2) ?_;intro v rv sv;refine aM (ih λnm hm=>k nm (T5 _ hm)) ?_;intro vs r l z;refine⟨v::vs,.cons_ rv r,congrArg Te l,λi nm' w e1 e2=>?_⟩;cases i with
  |zero=>cases e1;cases e2;exact sv
  |succ i=>exact z i nm' w e1 e2) ns cs
def oX(Γ:d6)(ns:List Str)(x:X):Prop:=∀(c:Cl)(e:En)(k:KT)(s:KS),x c e k s=true->∃cs,k s cs=true∧jS Γ e ns cs
theorem yi:oX Γ [] aj:=λc e k s h=>⟨.nil,h,trivial⟩
theorem vC{nm:Str}{ns:List Str}{q:Pa}{x:X}(hs:Γ.slot nm=some q)(hx:oX Γ ns x):oX Γ (nm::ns) (ad (ae q) x):=λc e k s h=>by
 refine aB h ?_;clear h;intro y h hy;refine ag (hx c e _ s h) ?_;intro cs h1 h2;exact⟨.cons y cs,h1,⟨q,hs,hy⟩,h2⟩
theorem DC:∀{xs:KV}{n:Nat},len xs≤n->ng n xs=none:=by
 intro xs;induction xs with
 |cons x r _ ih=>intro n hn;cases n with|zero=>cases hn|succ n=>exact ih (Vj hn)
 |_=>intro n _;cases n<;>rfl
theorem M6{xs:KV}{n:Nat}{y:KV}(h:ng n xs=some y):n<len xs:=by
 rcases Wt n (len xs)with w|w
 ·exact w
 ·rw[DC w]at h;exact dh h
section
variable{F:dP C Γ}{P:Pt C}{en:En}
theorem y8(er:ER F P.R en){nm:Str}(hk:Γ.kd nm=some .cell∨Γ.kd nm=some .free){q:Pa}{x:KV}(hs:Γ.slot nm=some q)(hx:tg q en=some x):
  ∃ca ob v,F.menv.cells.lookup nm=some ca∧P.R.h.get? ca=some ob∧ob.data=.cell (some v)∧VR C P.R x v:=by
 refine ag er.ns ?_;intro m ns hold;rcases hold nm q x hs hx with zq|zq
 ·refine ak zq ?_;clear zq;intro k _;rw[k]at hk;rcases hk with z|z<;>contradiction
 ·refine ak zq ?_;clear zq;intro _ r;exact r
theorem oa(er:ER F P.R en){nm:Str}(hk:Γ.kd nm=some .cell∨Γ.kd nm=some .free){q:Pa}{x:KV}(hs:Γ.slot nm=some q)(hx:tg q en=some x){G:Prop}(k:∀ca ob v,F.menv.cells.lookup nm=some ca->P.R.h.get? ca=some ob->ob.data=.cell (some v)->VR C P.R x v->G):G:=iz (y8 er hk hs hx) k
set_option tactic.hygienic true in
theorem vu{sc:Vv}(ok:vK Γ.kd sc){cl:List (Str×Tw)}(h1:∀p∈cl,F.menv.cells.lookup p.1=some p.2∧(p.1,TZ)∈sc.names)(h2:∀x,(x,TZ)∈sc.names->∃c,(x,c)∈cl){ts:List Str}{L0:Tw}(er:ER F P.R en)
  (dead:P.R.h.get? L0=none) {h':UT} {m:Str->Option SU} (ns:h'.Ns L0 m) (keep:bB P.R.h h') {cs:KV} {en':En} (hl:len cs=(frees sc).length) (hcs:∀i nm y,(frees sc)[i]?=some nm->ng i cs=some y->∃q,Γ.slot nm=some q∧tg q en=some y) (hen:∀p x,tg p en'=some x->tg p .nil=some x∨∃i,aY p=aY .e+i∧ng i cs=some x):
  ∃G:dP C ⟨fK Γ.kd sc,frees sc++ts,Γ.loud,false⟩,G.menv=compEnvC sc cl L0 F.menv∧G.A=F.A∧G.cl=F.cl∧ER G ⟨P.R.ρ,h',P.R.fz⟩ en':=by
 have look:∀{nm:Str}{ca:Tw},cl.lookup nm=some ca->F.menv.cells.lookup nm=some ca∧(nm,TZ)∈sc.names:=λhc=>h1 _ (Th hc);have has:∀{nm:Str},(nm,TZ)∈sc.names->∃ca,cl.lookup nm=some ca:=λhm=>let⟨_,hc⟩:=h2 _ hm;Ws.mp (eN hc);have D:=P.good.dead dead;have hkd:∀x,(compEnvC sc cl L0 F.menv).kindOf x=fK Γ.kd sc x:=λx=>by
  have:=iW (menv:=F.menv) F.kind sc.names x;refine this.trans ?_;unfold fK;rw[F.kof]
 have L:au C.vol P.R ⟨P.R.ρ,h',P.R.fz⟩:=.keeps _ keep;have mk:∃G:dP C ⟨fK Γ.kd sc,frees sc++ts,Γ.loud,false⟩,G.menv=compEnvC sc cl L0 F.menv∧G.A=F.A∧G.cl=F.cl∧G.fr=F.fr:=by
  refine⟨⟨compEnvC sc cl L0 F.menv,F.A,F.cl,F.d,F.fr,ok.kind,hkd,F.glob,F.bi,D.1,D.2.2.2,λnm ca hc=>?_,λnm nm' ca hc hc'=>F.inj _ _ _ (look hc).1 (look hc').1,λnm hk=>?_,F.room,F.handled,λh=>(by exact aD h),λhl=>?_,F.call⟩,rfl,rfl,rfl,rfl⟩
  ·refine ak (look hc) ?_;rintro e1 -;refine bf (F.cell nm ca e1) ?_;rintro a b -;refine bf (er.cells nm ca e1) ?_;rintro -zq1 -;refine aL zq1 ?_;clear zq1;rintro ob _ e -;exact⟨a,b,λz=>nn (z▸dead) e⟩
  ·have hk:fK Γ.kd sc nm=some .cell∨fK Γ.kd sc nm=some .free:=hk;unfold fK at hk
   split at hk
   ·rename_i e;refine aw (has (Th e)) ?_;intro ca hca;show(cl.lookup nm).isSome=true;refine rwr hca ?_;rfl
   ·rename_i hn;rcases hk with hk|hk
    ·exact absurd rfl (ok.cell _ (Th hk))
    ·exact absurd hk hn
  ·have hl:fK Γ.kd sc "FP"=some .local:=hl;unfold fK at hl
   split at hl
   ·split at hl<;>contradiction
   ·exact absurd hl ok.fp
 refine d9 mk ?_;clear mk;intro G g1 g2 g3 g4;have hcells:G.menv.cells=cl:=by refine rwr g1 ?_;rfl
 refine⟨G,g1,g2,g3,⟨m,by refine rwr g1 ?_;exact ns,λnm q x hs hx=>?_⟩,by refine rwr g1 ?_;exact D.2.1,λnm ca hc=>?_,by refine rwr g4 ?_;exact er.fr.later L⟩
 ·refine ag (iO hs) ?_;intro j a b;rcases hen q x hx with z|zq
  ·rw[dU]at z;exact dh z
  ·refine ag zq ?_;clear zq;intro i z1 z2;have:i=j:=by have:aY q=aY .e+j:=b;simp_all+arith
   subst this;have hi:i<(frees sc).length:=by refine rwl hl ?_;exact M6 z2
   have a:(frees sc++ts)[i]?=some nm:=a;rw[Uk hi]at a;refine ag (hcs i nm x a z2) ?_;intro q' s1 s2;have hm:=li.mp (TM a);refine ak (ok.free _ hm rfl) ?_;intro o2 o3;refine oa er o3 s1 s2 ?_;intro ca ob v e1 e2 e3 e4;refine .inr ⟨?_,ca,ob,v,?_,keep _ _ e2,e3,e4.later L⟩
   ·show fK Γ.kd sc nm=_∨fK Γ.kd sc nm=_;unfold fK;refine rwr o2 ?_;dsimp only
    split
    ·exact .inl rfl
    ·exact .inr rfl
   ·refine aw (has hm) ?_;intro ca' hca';have:=(look hca').1;rw[e1]at this;cases this;refine rwr hcells ?_;exact hca'
 ·refine ak (look (hcells▸hc)) ?_;rintro e1 -;refine bf (er.cells nm ca e1) ?_;intro a zq1 b;refine aL zq1 ?_;clear zq1;intro ob v e d;exact⟨a,⟨ob,v,keep _ _ e,d⟩,b⟩
theorem ER.one{b:Tw}(r:ER F R en)(L:au [b] R R')(hb:∃o,R.h.get? b=some o∧(∀es ep,o.data≠.dict es ep)∧∀v,o.data≠.cell v):ER F R' en:=by
 refine aM hb ?_;clear hb;intro o e h1 h2;refine r.laterX L (λz=>?_) (λnm ca hc z=>?_) λL' o' es ep e' d Z z=>?_
 ·simp at z;refine ag r.ns ?_;rintro m zq1 -;refine fL zq1 ?_;clear zq1;rintro o' es ep e' d -;rw[z,e]at e';cases e';exact h1 _ _ d
 ·simp at z;refine bf (r.cells nm ca hc) ?_;rintro -zq1 -;refine aL zq1 ?_;clear zq1;intro o' v e' d;rw[z,e]at e';cases e';exact h2 _ d
 ·simp at z;rw[z,e]at e';cases e';exact h1 _ _ d
end
theorem bP.adopt{μ:KS}(G:bP C R μ){D:Tw}{o:KO}(own:¬dN R D)(old:C.h₀.get? D=none)(fz:¬R.fz D)(hO:au [D] R (R.add μ.n ⟨D,D,[]⟩ R.h)->eX C (R.add μ.n ⟨D,D,[]⟩ R.h) o ⟨D,D,[]⟩):
  bP C (R.add μ.n ⟨D,D,[]⟩ R.h) (bz μ o)∧au [D] R (R.add μ.n ⟨D,D,[]⟩ R.h)∧VR C (R.add μ.n ⟨D,D,[]⟩ R.h) (.ref μ.n) (.ref D):=
 G.newX (p:=⟨D,D,[]⟩) (λZ Z e=>e) (λb w=>.inr (w.elim (λz=>z▸SX) λz=>z▸SX)) (λb w=>by rcases w with rfl|rfl<;>exact⟨old,own,fz⟩) (λc hc=>by cases hc) hO
end
end
section
set_option compiler.extract_closed false
section
open PySem PySem.W PyProof.Rows
variable{C:Cx}{Γ:d6}{R R':Wd}
def oR(C:Cx)(Γ:d6)(ifs:List SQ)(c:Cn):Prop:=∀(F:dP C Γ)(P:Pt C)(en:En)(t f:K0)(Q:Bool->SW->Prop)(E:SU->SW->Prop),ER F P.R en->c F.cl en t f P.m=true->Kb C P.R t f Q->
 Tb (Tn C.prog C.w) F.A (forIn ifs true λc r=>if r=true then do let ok ←isTrue c F.menv (eval c F.menv);pure (VA ok)else pure (VA r)) Q E P.s
theorem uJ:oR C Γ [] iB:=λF P en t f Q E er h K=>wpAny_tests_nil (K P true (.refl _ _) h)
theorem uI{e:SQ}{c:Cn}(h:fW C Γ e c):oR C Γ [e] c:=λF P en t f Q E er q K=>wpAny_tests_one (h F P en t f Q E er q K)
theorem pT{X:List Tw}(L:au X R R'){D:Tw}(f:cO C R D)(hx:D∉X){items:Array SU}{k:Nat}(e:R.h.get? D=some {cls:=.type "list",data:=.seq items k}):R'.h.get? D=some {cls:=.type "list",data:=.seq items k}:=gP L f hx e (by(repeat intro);contradiction)
section
variable{F:dP C Γ}{ce target iter:SQ}{ifs:List SQ}{stp:Tt->SU->Sem Unit}{tg:Tg}{test:Cn}{I D:Tw}{as:List Tw}{β:Type}{put:Cl->En->(β->K0)->β->K0}{DR:Wd->Nat->β->Prop}
theorem yd(lo:Γ.loud=true)(S:EO C ce target iter ifs stp)(ht:pw C Γ false target tg)(hif:oR C Γ ifs test)(hDR:∀{X:List Tw}{R R':Wd}{i:Nat}{a:β},D∉X->au X R R'->DR R i a->DR R' i a)
  (hput:∀(P:Pt C)(en:En)(k:β->K0)(a:β)(i:Nat)(Q:Unit->SW->Prop)(E:SU->SW->Prop),ER F P.R en->i<kR->DR P.R i a->put F.cl en k a P.m=true->(∀(P':Pt C)(a':β),au (D::C.vol) P.R P'.R->ER F P'.R en->DR P'.R (i+1) a'->k a' P'.m=true->Q () P'.s)->Tb (Tn C.prog C.w) F.A (stp F.menv (.ref D)) Q E P.s)
  (hD:D∉as) (hDL:D≠F.menv.locals) (hDV:D∉C.vol) (hIL:F.menv.locals∉as) {P:Pt C} {en:En} {it:KI} {a:β} (er:ER F P.R en) (r:dY C P.R it I as) (f:∀b∈as,cO C P.R b) (hok:qh target it) (hg:DR P.R 0 a)
  {kk:β->K0} (h:MO tg test put F.cl kk kR it en a P.m=true) {Rr:Result->SW->Prop}
  (hR:∀(P':Pt C)(en':En)(i:Nat)(a':β),ER F P'.R en'->au (as++(D::F.menv.locals::C.vol)) P.R P'.R->DR P'.R i a'->i≤kR->kk a' P'.m=true->Rr (.ok .next) P'.s):
  codeAny (Tn C.prog C.w) F.A (.compLoop ce 0 (.ref I) (.ref D) F.menv) Rr P.s:=by
 refine S.loop (λm s=>∃(P':Pt C)(en:En)(it:KI)(i:Nat)(a:β),ER F P'.R en∧dY C P'.R it I as∧(∀b∈as,cO C P'.R b)∧qh target it∧DR P'.R i a∧i+m≤kR∧
  au (as++(D::F.menv.locals::C.vol)) P.R P'.R∧MO tg test put F.cl kk m it en a P'.m=true∧s=P'.s) ?_ kR ⟨P,en,it,0,a,er,r,f,hok,hg,by rw[Vm];exact TA _,.refl _ _,h,rfl⟩
 intro m s zq;refine MC zq ?_;clear zq;rintro P0 en it i a er r f hok hg hm L h rfl;cases m with
 |zero=>exact aD h
 |succ m=>
  have sub:∀{R'' R':Wd}{X:List Tw},(∀b∈X,b∈as++(D::F.menv.locals::C.vol))->au X R'' R'->au (as++(D::F.menv.locals::C.vol)) R'' R':=λh L=>L.mono h;have mL:∀b∈[F.menv.locals],b∈as++(D::F.menv.locals::C.vol):=λb hb=>TU _ (by simp at hb;simp[hb]);have mV:∀b∈C.vol,b∈as++(D::F.menv.locals::C.vol):=λb hb=>TU _ (by simp[hb]);have mD:∀b∈D::C.vol,b∈as++(D::F.menv.locals::C.vol):=λb hb=>TU _ (by rcases T8.mp hb with h|h<;>simp[h]);have side:∀{R0 R1:Wd}{en0:En},ER F R0 en0->au as R0 R1->(∀b∈as,∃o us,R0.h.get? b=some o∧o.data=.fields us)->ER F R1 en0:=λer L hf=>er.laterX L hIL (λnm ca hc z=>by
   refine aL (hf ca z) ?_;intro o us e d;refine bf (er.cells nm ca hc) ?_;rintro -zq1 -;refine aL zq1 ?_;clear zq1;intro o' v e' d';cases e.symm.trans e';rw[d]at d';exact Ta d') λL' o' es ep e' d Z z=>by
   refine aL (hf L' z) ?_;intro o us e d2;cases e.symm.trans e';rw[d]at d2;exact Ta d2
  refine sf (Qn:=λs₁=>Rr (.ok .next) s₁) (Qs:=λv s₁'=>Tb (Tn C.prog C.w) F.A (assign target F.menv v) _ _ s₁') r f (F.handled lo) hok h (λhz P1 e1 L1=>?_) λy it' hy P1 v e1 L1 rv r1 f1 hok1=>?_
  ·exact hR P1 en i a (side er L1 r.flds) (L.trans (sub (λb hb=>UI _ hb) L1)) (hDR hD L1 hg) (SV (TC _ _) hm) (by refine rwr e1 ?_;exact hz)
  ·refine ht.2.2 F P1 en [F.menv.locals] y v _ _ _ SX (by(repeat intro);contradiction) (side er L1 r.flds) hy rv λP2 en2 e2 L2 er2 h2=>?_;rw[←e1,←e2]at h2;have nI:∀b∈as,b∉[F.menv.locals]:=λb hb z=>by simp at z;exact hIL (z▸hb)
   have g2:=hDR (λz=>by simp at z;exact hDL z) L2 (hDR hD L1 hg);have f2:∀b∈as,cO C P2.R b:=λb hb=>(f1 b hb).later L2 (nI b hb);have r2:=r1.later L2 f1 nI;have M2:=(L.trans (sub (λb hb=>UI _ hb) L1)).trans (sub mL L2);refine hif F P2 en2 _ _ _ _ er2 h2 λP3 b L3 h3=>?_;have nV:∀b∈as,b∉C.vol:=λb hb=>(f2 b hb).vol;have f3:∀b∈as,cO C P3.R b:=λb hb=>(f2 b hb).later L3 (nV b hb);have r3:=r2.later L3 f2 nV;have g3:=hDR hDV L3 g2;cases b with
   |false=>exact⟨m,Ut m,P3,en2,it',i,a,er2.later L3,r3,f3,hok1,g3,SV (U8 (i+m)) hm,M2.trans (sub mV L3),h3,rfl⟩
   |true=>
    refine hput P3 en2 _ a i _ _ (er2.later L3) (by have:i+(m+1)≤kR:=hm;lia) g3 h3 λP4 a' L4 er4 g4 h4=>?_;have nA:∀b∈as,b∉D::C.vol:=λb hb z=>(T8.mp z).elim (λz=>hD (z▸hb)) (nV b hb);exact⟨m,Ut m,P4,en2,it',i+1,a',er4,r3.later L4 f3 nA,λb hb=>(f3 b hb).later L4 (nA b hb),hok1,g4,by have:i+(m+1)≤kR:=hm;simp_all+arith,(M2.trans (sub mV L3)).trans (sub mD L4),h4,rfl⟩
end
end
end
section
set_option compiler.extract_closed false
section
open PySem PySem.W PyProof.Rows
variable{C:Cx}{Γ:d6}{R R':Wd}
theorem pW{it:KI}{I:Tw}{as:List Tw}{P:Pt C}(r:dY C P.R it I as)(hp:jJ it=true){A:U6}{E:SU->SW->Prop}{Q:SU->SW->Prop}(q:Q (.ref I) P.s):as=[I]∧Tb (Tn C.prog C.w) A (pyIter (.ref I)) Q E P.s:=by
 cases r with
 |list hp hi=>exact⟨rfl,wpAny_pyIter_listiter (s:=P.s) hi q⟩
 |seq r _=>
  refine⟨rfl,?_⟩;cases r with
  |tup hi _=>exact wpAny_pyIter_tupleiter (s:=P.s) hi q
  |@str x tk i hi=>
   unfold strIterType at hi
   split at hi
   ·exact wpAny_pyIter_striter_ascii (s:=P.s) (x:=x) (t:=tk) (i:=i) hi q
   ·exact wpAny_pyIter_striter_wide (s:=P.s) (x:=x) (t:=tk) (i:=i) hi q
  |range hi=>exact wpAny_pyIter_rangeiter (s:=P.s) hi q
 |dict _ hi=>exact⟨rfl,wpAny_pyIter_keyiter (s:=P.s) hi q⟩
 |_=>exact aD hp
structure La(C:Cx)(Δ:d6){β:Type}(nw:Sem SU)(stp:Tt->SU->Sem Unit)(new:(β->K0)->K0)(put:Cl->En->(β->K0)->β->K0)(fin:KT->β->K0)(DR:Tw->Wd->Nat->β->Prop):Prop where
 nw:∀{A:U6}(P:Pt C)(k:β->K0)(Q:SU->SW->Prop)(E:SU->SW->Prop),new k P.m=true->(∀(P':Pt C)(a:β)(D:Tw),(∀X,au X P.R P'.R)->P.R.h.get? D=none->(∃o,P'.R.h.get? D=some o)->DR D P'.R 0 a->k a P'.m=true->Q (.ref D) P'.s)->Tb (Tn C.prog C.w) A nw Q E P.s
 st:∀{X:List Tw}{R R':Wd}{D:Tw}{i:Nat}{a:β},D∉X->au X R R'->DR D R i a->DR D R' i a
 put:∀{D:Tw}(F:dP C Δ)(P:Pt C)(en:En)(k:β->K0)(a:β)(i:Nat)(Q:Unit->SW->Prop)(E:SU->SW->Prop),D∉C.vol->ER F P.R en->i<kR->DR D P.R i a->put F.cl en k a P.m=true->(∀(P':Pt C)(a':β),au (D::C.vol) P.R P'.R->ER F P'.R en->DR D P'.R (i+1) a'->k a' P'.m=true->Q () P'.s)->Tb (Tn C.prog C.w) F.A (stp F.menv (.ref D)) Q E P.s
 fin:∀{D:Tw}(P:Pt C)(k:KT)(a:β)(i:Nat),i≤kR->DR D P.R i a->fin k a P.m=true->∃(P':Pt C)(u:KV),P'.s=P.s∧au [D] P.R P'.R∧VR C P'.R u (.ref D)∧k P'.m u=true
def Nc{β:Type}(it:XI)(caps:X)(tg:Tg)(test:Cn)(new:(β->K0)->K0)(put:Cl->En->(β->K0)->β->K0)(fin:KT->β->K0):X:=λc e k s=>it c e (λit s=>caps c e (λs cs=>jC cs .e .nil λe=>new (MO tg test put c (fin k) kR it e) s) s) s
def PI{C:Cx}{Γ:d6}(F:dP C Γ)(P:Pt C)(en:En)(e:SQ)(x:XI):Prop:=∀(k:KI->KS->Bool)(Q:SU->SW->Prop)(E:SU->SW->Prop),x F.cl en k P.m=true->
 (∀(P':Pt C)(it:KI)(I:Tw)(as:List Tw),au C.vol P.R P'.R->dY C P'.R it I as->(∀b∈as,cO C P'.R b)->(∀b∈as,P.R.h.get? b=none)->(false=true∨jJ it=true)->k it P'.m=true->Q (.ref I) P'.s)->
 Tb (Tn C.prog C.w) F.A (eval e F.menv) (λv s=>Tb (Tn C.prog C.w) F.A (pyIter v) Q E s) E P.s
structure kO(C:Cx)(Γ:d6)(target iter:SQ)(ifs:List SQ)(sc:Vv)(caps:X)(tg:Tg)(test:Cn)(ts:List Str):Prop where
 lo:Γ.loud=true
 ok:vK Γ.kd sc
 ns:l9 iter=true
 caps:oX Γ (frees sc) caps
 tg:pw C ⟨fK Γ.kd sc,frees sc++ts,Γ.loud,false⟩ false target tg
 ifs:oR C ⟨fK Γ.kd sc,frees sc++ts,Γ.loud,false⟩ ifs test
section
variable{F:dP C Γ}{P:Pt C}{en:En}{ce target iter:SQ}{ifs:List SQ}{sc:Vv}{pos pos2:Pos}{caps:X}{xi:XI}{tg:Tg}{test:Cn}{ts:List Str}{stp:Tt->SU->Sem Unit}{nw:Sem SU}{β:Type}{new:(β->K0)->K0}{put:Cl->En->(β->K0)->β->K0}{fin:KT->β->K0}{DR:Tw->Wd->Nat->β->Prop}
theorem lA(H:kO C Γ target iter ifs sc caps tg test ts)(hit:PI F P en iter xi)(S:EO C ce target iter ifs stp)(Z:La C ⟨fK Γ.kd sc,frees sc++ts,Γ.loud,false⟩ nw stp new put fin DR)(er:ER F P.R en){kk:KT}(h:Nc xi caps tg test new put fin F.cl en kk P.m=true){use:Option (SU->Sem Unit)}{Q:SU->SW->Prop}{E:SU->SW->Prop}
  (post:∀(P9:Pt C)(u:KV)(v:SU)(Cc:Tw),au C.vol P.R P9.R->VR C P9.R u v->kk P9.m u=true->P.R.h.get? Cc=none->cO C P9.R Cc->(∃m,P9.R.h.Ns Cc m)->
   match use with
   |none=>∀h'',U7 Cc P9.R.h h''->Q v ⟨h'',C.g,C.d,P9.t,C.os⟩
   |some u=>Tb (Tn C.prog C.w) F.A (u v) (λY s''=>∃m,s''.heap.Ns Cc m∧∀h'',U7 Cc s''.heap h''->Q .none {s'' with heap:=h''}) E P9.s):
  Tb (Tn C.prog C.w) F.A (comprehension ce sc F.menv pos2 nw false (eval iter F.menv) use) Q E P.s:=by
 have hclos:∃cl,closureFor sc F.menv=pure cl∧(∀p∈cl,F.menv.cells.lookup p.1=some p.2∧(p.1,TZ)∈sc.names)∧∀x,(x,TZ)∈sc.names->∃c,(x,c)∈cl:=
  j8 λx hx e=>F.cdom x.1 (H.ok.free x hx e).2
 refine aM hclos ?_;clear hclos;intro cl hclos hcl1 hcl2;refine wpAny_comprehension_free (cl:=cl) (use:=use) S.cl (og H.ns F.menv) hclos H.ok.kind H.ok.loc ?_;refine hit _ _ E h λP1 it I as L1 r f dead hp h1=>?_;have hp:jJ it=true:=hp.resolve_left Tq;refine ag (H.caps _ _ _ _ h1) ?_;clear h1;intro cs h1 hcr;refine ag (lF h1) ?_;clear h1;intro en' h1 hen;refine Z.nw P1 _ _ _ h1 λP2 a D L2 dD hD g h2=>?_;refine aw hD ?_;intro oD hD;refine wpAny_newFunctionEnv H.ok.cell (λx hx=>(by cases hx)) (λh3 hns3 hsb3=>?_) H.ok.kind;have kp:bB P2.R.h h3:=λb o e=>hsb3.extBut b o (UU (Ui e)) (TX _ e);have dC:P2.R.h.get? P2.R.h.objs.size=none:=aV _;have dC1:P1.R.h.get? P2.R.h.objs.size=none:=lR (L2 []) (by exact Tz) dC;have hDV:D∉C.vol:=(P1.good.dead dD).2.2.2;refine d9 (vu (P:=P2) H.ok hcl1 hcl2 (ts:=ts) ((er.later L1).later (L2 _)) dC hns3 kp hcr.len hcr.at hen) ?_;intro G g1 g2 g3 erG;have L3:∀X,au X P1.R ⟨P2.R.ρ,h3,P2.R.fz⟩:=λX=>(L2 X).trans (.keeps X kp);have f3:∀b∈as,cO C ⟨P2.R.ρ,h3,P2.R.fz⟩ b:=λb hb=>(f b hb).later (L3 []) (by exact Tz);have r3:=r.later (L3 []) f (by simp);have nas:∀{b},P1.R.h.get? b=none->b∉as:=λd hb=>by refine ag ((f _ hb).obj) ?_;rintro ob e -;exact nn d e
 have hDC:D≠P2.R.h.objs.size:=λz=>by rw[z]at hD;exact nn dC hD
 have gl:G.menv.locals=P2.R.h.objs.size:=by refine rwr g1 ?_;rfl
 have dD0:=Pt.dead L1 dD;have dC0:=Pt.dead L1 dC1;have key:codeAny (Tn C.prog C.w) G.A (.compLoop ce 0 (.ref I) (.ref D) G.menv) (compPost (Tn C.prog C.w) F.A E use Q (.ref D) P2.R.h.objs.size) (P2.more kp P2.t).s:=by
  refine yd (DR:=DR D) (F:=G) H.lo S H.tg H.ifs (λz L g=>Z.st z L g) (λP en k a i Q E=>Z.put G P en k a i Q E hDV) (nas dD) (by refine rwr gl ?_;exact hDC) hDV (by refine rwr gl ?_;exact nas dC1) (P:=P2.more kp P2.t) erG r3 f3 (.inl hp) (Z.st (X:=[]) (by exact Tz) (.keeps _ kp) g) (g3▸h2) λP5 en5 i5 a5 er5 L5 g5 hi5 hk=>?_;have M:au C.vol P.R P5.R:=by
   refine(((L1.trans (L3 C.vol)).mono λb hb=>?_).trans L5).strike λb hb=>?_
   ·exact TU _ (by simp[hb])
   ·rw[gl]at hb;rcases UC.mp hb with hb|hb
    ·exact .inr (dead b hb)
    ·rcases T8.mp hb with rfl|hb
     ·exact .inr dD0
     ·rcases T8.mp hb with rfl|hb
      ·exact .inr dC0
      ·exact .inl hb
  refine dG (Z.fin P5 kk a5 i5 hi5 g5 hk) ?_;intro P9 u e9 L9 rv9 hk9;have M9:au C.vol P.R P9.R:=((M.mono λb hb=>T5 _ hb).trans (L9.mono λb hb=>by simp at hb;subst hb;exact SX)).strike λb hb=>(T8.mp hb).elim (λz=>.inr (z▸dD0)) .inl;have FC:=er5.locFree;rw[gl]at FC;have F9:=FC.later L9 (by simpa using hDC.symm);refine ag er5.ns ?_;rintro m' ns' -;rw[gl]at ns';have eh:P5.R.h=P9.R.h:=congrArg Shared.heap e9.symm;rw[eh]at ns';have Pp:=post P9 _ _ P2.R.h.objs.size M9 rv9 hk9 dC0 F9 ⟨m',ns'⟩;refine rwl e9 ?_;cases use with
  |none=>exact⟨m',ns',λh'' hs=>Pp h'' hs⟩
  |some u=>exact Pp
 rw[g2,g1]at key;refine ak (pW (P:=P2.more kp P2.t) (A:=F.A) (E:=E) (Q:=λY Y=>True) r3 hp trivial) ?_;rintro rfl q;exact S.start key (pW (P:=P2.more kp P2.t) r3 hp key).2
structure C7(ce iter:SQ)(sc:Vv)(pos2:Pos)(nw:Sem SU):Prop where
 ev:∀menv,eval ce menv=comprehension ce sc menv pos2 nw false (eval iter menv) none
 us:∀menv use,evalThenUse ce menv use=(do let _ ←comprehension ce sc menv pos2 nw false (eval iter menv) (some use))
 sw:∀(y:Str)(py:Pos)(l:Nat) menv,∃b,swapsWith ce (some (.Name y py)) l menv=pure b
theorem pF(H:kO C Γ target iter ifs sc caps tg test ts)(hi:h9 C Γ iter xi false)(S:EO C ce target iter ifs stp)(Z:La C ⟨fK Γ.kd sc,frees sc++ts,Γ.loud,false⟩ nw stp new put fin DR)(he:C7 ce iter sc pos2 nw):bv C Γ ce (Nc xi caps tg test new put fin):=λF P en k Q E er h K=>by
 rw[he.ev];refine lA H (λk Q E=>hi F P en k Q E er) S Z er h (use:=none) λP9 u v Cc L r hk dC fC Y h'' hs=>?_;refine d9 (eu (P:=P9) (as:=[Cc]) (h':=h'') (λb hb=>by simp at hb;subst hb;exact fC) (λb o hb e=>(hs.2 b (by simpa using hb)).trans e) P9.t) ?_;intro P' e1 e2 e3 L';exact e3▸K P' u v (((L.mono λb hb=>T5 _ hb).trans (L'.mono λb hb=>by simp at hb;subst hb;exact SX)).strike λb hb=>(T8.mp hb).elim (λz=>.inr (z▸dC)) .inl) (r.later L') (by refine rwr e1 ?_;exact hk)
theorem ue{y:Str}{q:Pa}{py pos':Pos}{F:dP C Γ}{fr:Fr}{k:En->K0}{P:Pt C}{en:En}{Q:UL->SW->Prop}{E:SU->SW->Prop}(H:kO C Γ target iter ifs sc caps tg test ts)(hit:PI F P en iter xi)(S:EO C ce target iter ifs stp)(Z:La C ⟨fK Γ.kd sc,frees sc++ts,Γ.loud,false⟩ nw stp new put fin DR)(he:C7 ce iter sc pos2 nw)(hs:Γ.slot y=some q)(hk:Γ.kd y=some .local)(er:ER F P.R en)(h:ao (t1 q) (Nc xi caps tg test new put fin) F.cl fr k en P.m=true)(K:KF F P.R fr k Q):Tb (Tn C.prog C.w) F.A (exec (.Assign [.Name y py] ce pos') F.menv) Q E P.s:=by
 have ht:=kZ (C:=C) (p:=py) (cc:=true) hs (.inl hk);refine aw (he.sw y py pos'.line F.menv) ?_;intro b hw;cases b with
 |false=>
  refine Vi ?_ hw (fI rfl _);rw[he.ev];refine lA H hit S Z er h (use:=none) λP9 u v Cc L9 r9 hk dC fC Y h'' hs=>?_;refine d9 (eu (P:=P9) (as:=[Cc]) (h':=h'') (λb hb=>by simp at hb;subst hb;exact fC) (λb o hb e=>(hs.2 b (by simpa using hb)).trans e) P9.t) ?_;intro P1 e1 e2 e3 L';have L:=((L9.mono λb hb=>T5 _ hb).trans (L'.mono λb hb=>by simp at hb;subst hb;exact SX)).strike λb hb=>(T8.mp hb).elim (λz=>.inr (z▸dC)) .inl;have r:=r9.later L';rw[←e1]at hk;have h1:=hk;refine e3▸?_;rw[dR ht.1];refine ht.2.2 F P1 en (cJ C F.menv) u v _ _ E eR (λY Y Y=>dO) (er.later L) h1 r λP2 en2 e2 L2 R2 h2=>?_;exact K.next (L.frame.trans L2) R2 (by rw[e2];exact h2)
 |true=>
  rw[exec_Assign_Name_used _ _ _ _ hw,he.us];refine SO (Uv (SO ?_));refine SO (UJ (lA H hit S Z er h (use:=some (assign (.Name y py) F.menv)) (Q:=λY s'=>Q .next s') (E:=E) λP9 u v Cc L r hk9 dC fC ns=>?_) (λY s' hq=>SR (SR hq)) λY Y e=>e);refine aw ns ?_;clear ns;intro m ns;have nf:=pQ er dC;refine ht.2.2 F P9 en (cJ C F.menv) u v _ _ E eR (λY Y Y=>dO) (er.later L) hk9 r λP2 en2 e2 L2 R2 h2=>?_;refine⟨m,oV ns λo ho=>L2.ext _ _ ho fC.own nf,λh'' hs'=>?_⟩;refine d9 (eu (P:=P2) (as:=[Cc]) (h':=h'') (λb hb=>by simp at hb;subst hb;exact fC.later L2 nf) (λb o hb e=>(hs'.2 b (by simpa using hb)).trans e) P2.t) ?_;intro P' e1 e2' e3 L';refine e3▸K.next (P:=P') (en:=en2) ((((L.frame.trans L2).mono λb hb=>T5 Cc hb).trans (L'.mono λb hb=>by simp at hb;subst hb;exact SX)).strike λb hb=>(T8.mp hb).elim (λz=>.inr (z▸dC)) .inl) ?_ (by refine rwr e1 (rwr e2 ?_);exact h2);refine R2.laterX L' (λz=>?_) (λnm ca hc z=>?_) λL0 o es ep e d ⟨f,hf,hL⟩ z=>?_
  ·simp at z;exact nf (z▸eR)
  ·simp at z;exact nf (z▸dO hc)
  ·simp at z;subst z;refine ak (er.fr f hf) ?_;rintro -zq;refine gE zq ?_;clear zq;rintro L1 o1 _ _ a1- - -a5 -;rw[hL]at a1;cases a1;exact nn dC a5
theorem k7{y:Str}{q:Pa}{py pos':Pos}(H:kO C Γ target iter ifs sc caps tg test ts)(hi:h9 C Γ iter xi false)(S:EO C ce target iter ifs stp)(Z:La C ⟨fK Γ.kd sc,frees sc++ts,Γ.loud,false⟩ nw stp new put fin DR)(he:C7 ce iter sc pos2 nw)(hs:Γ.slot y=some q)(hk:Γ.kd y=some .local):du C Γ (.Assign [.Name y py] ce pos') (ao (t1 q) (Nc xi caps tg test new put fin)):=λF P fr k en Q E er h K=>
 ue H (λk Q E=>hi F P en k Q E er) S Z he hs hk er h K
end
section
variable{elt kx vx target iter:SQ}{ifs:List SQ}{sc:Vv}{pos:Pos}{x y:X}{Δ:d6}
theorem sy{c:Bool}{m:Sem Bool}(h:m=pure c):∃b,m=pure b:=⟨c,h⟩
noncomputable def PN(elt:SQ)(env:Tt)(acc:SU):Sem Unit:=do let _ ←call (.builtin "list.append") [acc,←eval elt env]
noncomputable def PO(kx vx:SQ)(env:Tt)(acc:SU):Sem Unit:=match acc with
 |.ref D=>do
  let kv ←eval kx env
  let vv ←holding [kv] (eval vx env)
  standAt {kx.pos with endLine:=vx.pos.endLine,endCol:=vx.pos.endCol}
  holding [kv,vv] (dictSet D kv vv)
 |_=>pure ()
theorem n8:EO C (.ListComp elt [⟨target,iter,ifs,0⟩] sc pos) target iter ifs (PN elt):=⟨rfl,λZ Z Z Z=>rfl,λZ Z Z=>rfl,λa b=>codeAny_compStart_list a b⟩
theorem sC:EO C (.DictComp kx vx [⟨target,iter,ifs,0⟩] sc pos) target iter ifs (PO kx vx):=⟨rfl,λZ Z Z Z=>rfl,λZ Z Z=>rfl,λa b=>codeAny_compStart_dict a b⟩
theorem oH:C7 (.ListComp elt [⟨target,iter,ifs,0⟩] sc pos) iter sc (firstIterPos [⟨target,iter,ifs,0⟩] pos) (newList []):=⟨λZ=>rfl,λZ Z=>rfl,λZ Z Z Z=>sy rfl⟩
theorem u5:C7 (.DictComp kx vx [⟨target,iter,ifs,0⟩] sc pos) iter sc (firstIterPos [⟨target,iter,ifs,0⟩] pos) newDict:=⟨λZ=>rfl,λZ Z=>rfl,λZ Z Z Z=>sy rfl⟩
def P7(k:KT)(acc:KV)(s:KS):Bool:=lO k s (len (uR acc .nil)) (uR acc .nil)
def OD(C:Cx)(D:Tw)(R:Wd)(i:Nat)(acc:KV):Prop:=cO C R D∧∃(vs:List SU)(items:Array SU)(k:Nat),R.h.get? D=some {cls:=.type "list",data:=.seq items k}∧bG C R acc vs∧items.toList=vs.reverse∧vs.length≤i
theorem n6(hx:bv C Δ elt x):La C Δ (newList []) (PN elt) (λk=>k .nil) (pL x) P7 (OD C)where
 nw:=λP k Q E h K=>by
  refine Vb ?_;have e:=T9 P.R.h (o:={cls:=.type "list",dict:=none,data:=.seq ([]:List SU).toArray}) rfl;exact K (P.more (aE _ _) P.t) .nil P.R.h.objs.size (λX=>.keeps X (aE _ _)) (aV _) ⟨_,e⟩ ⟨cO.fresh P.good (aV _) e (λxs n z=>by decide) (λvs q t z=>by exact Ta z),[],#[],_,e,.nil_,rfl,TA _⟩ h
 st:=λhX L g=>by
  refine ak g ?_;intro f zq;refine iz zq ?_;intro vs items k e ra hit hl;exact⟨f.later L hX,vs,items,k,pT L f hX e,ra.later L,hit,hl⟩
 put:=λ{D} F P en k a i Q E hV er hi g h K=>by
  refine SO (hx F P en _ _ E er h λP4 u w L4 rw_ h4=>?_);refine ak g ?_;intro f zq;refine iz zq ?_;intro vs items k0 e ra hit hl;have g4:=pT L4 f hV e;have fD4:=f.later L4 hV;have hsz:items.size=vs.length:=by exact rwl T4 (rwr hit (rwr VF rfl))
  have hlim:kR≤100000:=by decide
  refine SO (WV (s:=P4.s) (items:=items) ⟨k0,g4⟩ (λh5 hpl hs5=>?_) (by have:=cQ;lia));refine aw hpl ?_;clear hpl;intro k5 g5;refine d9 (eu (P:=P4) (as:=[D]) (h':=h5) (λb hb=>by simp at hb;subst hb;exact fD4) (λb o hb e=>(hs5.2 b (by simpa using hb)).trans e) P4.t) ?_;intro P5 e5 e6 e7 L5;have fD5:cO C P5.R D:=by refine rwr e6 ?_;exact⟨fD4.own,fD4.frz,fD4.vol,fD4.old,fD4.fz,_,g5,(λxs n z=>by exact ne_of_beq_false rfl),(λvs q t z=>by contradiction)⟩
  refine SR (e7▸K P5 (.cons u a) ((L4.mono λb hb=>T5 _ hb).trans (L5.mono λb hb=>by simp at hb;subst hb;exact SX)) ((er.later L4).one L5 ⟨_,g4,(by(repeat intro);contradiction),(by(repeat intro);contradiction)⟩) ⟨fD5,w::vs,items.push w,k5,by refine rwr e6 ?_;exact g5,.cons_ (rw_.later L5) ((ra.later L4).later L5),by exact rwr VP (rwr hit (rwr VT rfl)),TY hl⟩ (by refine rwr e5 ?_;exact h4))
 fin:=λ{D} P k a i hi g h=>by
  refine ak g ?_;intro f zq;refine iz zq ?_;intro vs items k0 e ra hit hl;have rx:bG C P.R (uR a .nil) items.toList:=by
   refine rwr hit ?_;have:=bG.rev_ (y:=.nil) (us:=[]) ra .nil_
   rwa[Ul]at this
  refine dI h ?_;clear h;intro hl5 hk;have hl5:=SP hl5;refine bf (P.good.adopt (o:=.list (len (uR a .nil)) (uR a .nil)) f.own f.old f.fz (λL=>⟨rfl,items,k0,e,rx.later L,by refine rwr rx.len_eq ?_;simp,hl5⟩)) ?_;intro G9 L9 rv9;exact⟨⟨_,_,P.t,G9⟩,_,rfl,L9,rv9,hk⟩
def Ph(D:Tw)(R:Wd)(Z:Nat)(q:Pa):Prop:=R.ρ q=some ⟨D,D,[]⟩
theorem sA(hx:bv C Δ kx x)(hy:bv C Δ vx y):La C Δ newDict (PO kx vx) (λk s=>k s.n (bz s (.dict 0 .nil))) (pD x y) (λk q s=>k s (.ref q)) Ph where
 nw:=λP k Q E h K=>by
  refine Vb ?_;have e:=T9 P.R.h (o:={cls:=.type "dict",dict:=none,data:=.dict #[]}) rfl;have G:=P.good.new0 (h':=P.R.h.push {cls:=.type "dict",dict:=none,data:=.dict #[]}) (o:=.dict 0 .nil) (aE _ _) (aV _) (aV _) (λL=>⟨rfl,_,#[],0,e,⟨rfl,rfl,rfl⟩,rfl,⟨rfl,λi e kv h=>by trivial⟩,Vt,rfl,TQ _,rfl⟩);refine bf G ?_;intro G L r;refine ag r ?_;intro pe hp e2;exact K ⟨_,_,P.t,G⟩ P.m.n P.R.h.objs.size L (aV _) ⟨_,e⟩ Wd.add_self h
 st:=λzz L g=>L.ref _ _ g
 put:=λ{D} F P en k a i Q E hV er hi g h K=>by
  refine SO (hx F P en _ _ E er h λP4 u w L4 rw_ h4=>?_);refine SO (TH (hy F P4 en _ _ E (er.later L4) h4 λP5 u2 w2 L5 r5 h5=>?_));refine SO (Uv (TH ?_));have L45:=L4.trans L5;have hp:=L45.ref _ _ g;refine aF h5 hp ?_;intro o eo ro h5;refine gj h5 ?_;rintro n es h5 rfl;refine dI h5 ?_;intro h1 h5;refine dI h5 ?_;intro h2 h5;have h2:=SP h2;refine oy (p:=⟨D,D,[]⟩) (m:=if(dl es u).isSome then n else n+1) (by have:=F.units;lia) hp ro (rw_.later L5) r5 h1 rfl (by split<;>omega) λP6 L6 e6=>?_;have L:=(L45.mono λb hb=>T5 D hb).trans (L6 _);refine K P6 a L ((er.later L45).later (L6 _)) ((L6 []).ref _ _ hp) ?_;refine rwr e6 ?_;unfold cC at h5;cases hd:dl es u with
  |none=>rw[hd]at h5;exact h5
  |some z=>rw[hd]at h5;exact h5
 fin:=λP k a i hi g h=>⟨P,.ref a,rfl,.refl _ _,⟨_,g,rfl⟩,h⟩
end
section
variable{elt kx vx target iter:SQ}{ifs:List SQ}{sc:Vv}{pos py pos':Pos}{x y caps:X}{xi:XI}{tg:Tg}{test:Cn}{ts:List Str}{nm:Str}{q:Pa}(H:kO C Γ target iter ifs sc caps tg test ts)(hi:h9 C Γ iter xi false)
include H hi
theorem zT(hx:bv C ⟨fK Γ.kd sc,frees sc++ts,Γ.loud,false⟩ elt x):bv C Γ (.ListComp elt [⟨target,iter,ifs,0⟩] sc pos) (fS xi caps tg x test):=pF H hi n8 (n6 hx) oH
theorem sF(hx:bv C ⟨fK Γ.kd sc,frees sc++ts,Γ.loud,false⟩ elt x)(hs:Γ.slot nm=some q)(hk:Γ.kd nm=some .local):du C Γ (.Assign [.Name nm py] (.ListComp elt [⟨target,iter,ifs,0⟩] sc pos) pos') (ao (t1 q) (fS xi caps tg x test)):=k7 H hi n8 (n6 hx) oH hs hk
theorem xB(hx:bv C ⟨fK Γ.kd sc,frees sc++ts,Γ.loud,false⟩ kx x)(hy:bv C ⟨fK Γ.kd sc,frees sc++ts,Γ.loud,false⟩ vx y):bv C Γ (.DictComp kx vx [⟨target,iter,ifs,0⟩] sc pos) (yR xi caps tg x y test):=pF H hi sC (sA hx hy) u5
theorem qG(hx:bv C ⟨fK Γ.kd sc,frees sc++ts,Γ.loud,false⟩ kx x)(hy:bv C ⟨fK Γ.kd sc,frees sc++ts,Γ.loud,false⟩ vx y)(hs:Γ.slot nm=some q)(hk:Γ.kd nm=some .local):du C Γ (.Assign [.Name nm py] (.DictComp kx vx [⟨target,iter,ifs,0⟩] sc pos) pos') (ao (t1 q) (yR xi caps tg x y test)):=k7 H hi sC (sA hx hy) u5 hs hk
end
end
end
section
set_option compiler.extract_closed false
section
open PySem PySem.W PyProof.Rows
theorem oG(pos:Pos)(a b:Int)(v:SU)(l:List SU)(c:SU)(h:TriplesOk l):codeAmong pos (l++[rawInt a,rawInt b,v])=some c->codeAmong pos l=some c∨c=v:=by
 fun_induction TriplesOk l with
 |case1=>
  intro e;have e:(if(a==pos.line&&b==pos.col)=true then some v else none)=some c:=e;by_cases q:(a==pos.line&&b==pos.col)=true
  ·rw[if_pos q]at e;exact .inr (Ti e).symm
  ·rw[if_neg q]at e;exact dh e
 |case2 a' t b' u x rest ih=>
  intro e;have e:(if(a'==pos.line&&b'==pos.col)=true then some x else codeAmong pos (rest++[rawInt a,rawInt b,v]))=some c:=e;show(if(a'==pos.line&&b'==pos.col)=true then some x else codeAmong pos rest)=some c∨_;by_cases q:(a'==pos.line&&b'==pos.col)=true
  ·rw[if_pos q]at e ⊢;exact .inl e
  ·rw[if_neg q]at e ⊢;exact ih h e
 |case3=>exact h.elim
theorem lK{ps:Array SU}(h:TriplesOk ps.toList)(q:Str)(t:Tok):ps[1]?≠some (.str q t):=by
 refine rwl (Tj) ?_;generalize ps.toList=l at h;intro z;cases l with
 |nil=>exact dh z
 |cons x r=>
  cases r with
  |nil=>exact dh z
  |cons y s=>
   simp only[List.getElem?_cons_succ,List.getElem?_cons_zero,Option.some.injEq]at z;subst z;cases x<;>exact h.elim
variable{C:Cx}{Γ:d6}{R R':Wd}
theorem bP.tab{P₀:Pg}(O:C.Ok P₀){μ:KS}{h':UT}(G:bP C R μ){P:Tw}(hP:P∈C.vol)(k:∀b o,b≠P->R.h.get? b=some o->h'.get? b=some o)(tb:∃ps,h'.get? P=some (tabObj ps)∧TriplesOk ps.toList∧∀pos cv,codeAmong pos ps.toList=some cv->h'.CodeRec cv (C.volQ P)):
  bP C ⟨R.ρ,h',R.fz⟩ μ∧au C.vol R ⟨R.ρ,h',R.fz⟩:=by
 refine aM (G.vol P hP) ?_;intro ps0 e0 t0 c0;have nP:∀{b:Tw}{o:Obj},R.h.get? b=some o->(∀vs,o.data≠.fields vs)->b≠P:=by
  rintro b o e d rfl;cases e0.symm.trans e;exact d _ rfl
 have code:∀cd q,R.h.CodeRec cd q->h'.CodeRec cd q:=by
  intro cd q zq;refine lQ zq ?_;clear zq;intro c o vs t e g d v;refine⟨c,o,vs,t,e,k c o ?_ g,d,v⟩;rintro rfl;cases e0.symm.trans g;cases d;exact lK t0 _ _ v
 have fk:∀{a:Tw}{o:Obj},R.fz a->R.h.get? a=some o->h'.get? a=some o:=λ{a o} f e=>by
  refine fU (G.fz a f).1 ?_;intro vs c e';exact k a o (nP e' λus z=>Ta z) e
 have L:au C.vol R ⟨R.ρ,h',R.fz⟩:=by
  refine⟨λZ Z h=>h,λZ Z h=>.inl h,?_,λb o e Z nx=>⟨o,k b o (λz=>nx (z▸hP)) e,.inl rfl⟩,λb o nx e=>⟨o,k b o (λz=>nx (z▸hP)) e⟩,code,λa o f e=>⟨f,fk f e⟩,λZ=>.inl⟩;rintro a i ⟨o,e,hc,m,r⟩;exact⟨o,k a o (nP e (λvs z=>Ta (r.symm.trans z))) e,hc,m,r⟩
 have keep:∀{b:Tw},b≠P->(∃o,R.h.get? b=some o)->h'.get? b=R.h.get? b:=λhb ⟨o,e⟩=>by refine rwr e ?_;exact k _ _ hb e
 have up:∀{b:Tw},dN R b->h'.get? b=R.h.get? b:=λho=>keep (λz=>G.notVol ho (z▸hP)) (let⟨ob,e,_⟩:=G.solid ho;⟨ob,e⟩);have fz:∀c,fh R c->h'.get? c=R.h.get? c:=λc hc=>by
  refine aH (G.frz c hc) ?_;rintro ob v e3 d -;exact keep (nP e3 (λvs z=>Ta (d.symm.trans z))) ⟨ob,e3⟩
 refine⟨⟨G.next,λq p hp=>?_,G.cod,λb o e=>?_,G.old,G.apart,λc hc=>?_,λP' hP'=>?_,λa f=>let z:=G.fz a f;⟨by refine fU z.1 ?_;intro vs c e;exact⟨vs,c,fk f e⟩,z.2⟩⟩,L⟩
 ·refine ag (G.dom q p hp) ?_;intro o e r;exact⟨o,e,r.move L (up ⟨q,p,hp,.inl rfl⟩) (up ⟨q,p,hp,.inr rfl⟩) λc hc=>fz c ⟨q,p,hp,hc⟩⟩
 ·exact k b o (λz=>nn (O.vol0 _ hP) (z▸e)) (G.keep b o e)
 ·refine aH (G.frz c hc) ?_;intro ob v e3 d z;exact⟨ob,v,(fz c hc).trans e3,d,z⟩
 ·by_cases z:P'=P
  ·subst z;exact tb
  ·refine aM (G.vol P' hP') ?_;intro ps e1 e2 e3;exact⟨ps,k _ _ z e1,e2,λpos cv z=>code _ _ (e3 pos cv z)⟩
structure N5(C:Cx)(Γ:d6)(args:Ux)(b:SQ)(sc:Vv)(q:Pa)(caps:X):Prop where
 fp:Γ.kd "FP"=some .local
 dflt:args.defaults=[]∧args.kw_defaults=[]
 lam:C.lam q=some (args,b,sc)
 free:∀x∈sc.names,x.2=.free->C.asg x.1=false∧(Γ.kd x.1=some .cell∨Γ.kd x.1=some .free)
 caps:oX Γ (frees sc) caps
section
variable{F:dP C Γ}{P:Pt C}{en:En}{args:Ux}{b:SQ}{sc:Vv}{q:Pa}{caps:X}
theorem Es(H:N5 C Γ args b sc q caps)(er:ER F P.R en){cs:KV}(hcr:jS Γ en (frees sc) cs)
  {cl:List (Str×Tw)} (h1:∀p∈cl,F.menv.cells.lookup p.1=some p.2∧(p.1,TZ)∈sc.names) (h2:∀x,(x,TZ)∈sc.names->∃c,(x,c)∈cl) {name qual:Str} {pm cv ctv:SU} (hcode:P.R.h.CodeRec cv qual) (t:Nat):
  ∃P':Pt C,P'.m=bz P.m (.clo q cs)∧P'.s=⟨P.R.h.push {cls:=.type "function",data:=.func (kla_fn name qual args b sc cl pm cv ctv)},C.g,C.d,t,C.os⟩∧au (cJ C F.menv) P.R P'.R∧VR C P'.R (.ref P.m.n) (.ref P.R.h.objs.size)∧ER F P'.R en:=by
 have k:=aE P.R.h {cls:=.type "function",data:=.func (kla_fn name qual args b sc cl pm cv ctv)};have hg:(P.R.h.push {cls:=.type "function",data:=.func (kla_fn name qual args b sc cl pm cv ctv)}).get? P.R.h.objs.size=_:=T9 _ rfl;generalize P.R.h.push {cls:=.type "function",data:=.func (kla_fn name qual args b sc cl pm cv ctv)}=h' at k hg;have dead:=aV P.R.h;have look:∀{nm:Str}{ca:Tw},cl.lookup nm=some ca->F.menv.cells.lookup nm=some ca∧(nm,TZ)∈sc.names:=λhc=>h1 _ (Th hc);have has:∀{nm:Str},(nm,TZ)∈sc.names->∃ca,cl.lookup nm=some ca:=λhm=>let⟨_,hc⟩:=h2 _ hm;Ws.mp (eN hc);have hp3:∀c∈cl.map (·.2),∃nm,F.menv.cells.lookup nm=some c∧(nm,TZ)∈sc.names:=λc hc=>by
  refine rO hc ?_;rintro q hq rfl;exact⟨q.1,h1 q hq⟩
 refine bf (P.good.new (o:=.clo q cs) (p:=⟨P.R.h.objs.size,P.R.h.objs.size,cl.map (·.2)⟩) (h':=h') (X:=cJ C F.menv) k (λc hc=>hc.elim (λe=>e▸dead) λe=>e▸dead) (λc hc=>by
  refine ag (hp3 c hc) ?_;rintro nm hn -;refine bf (er.cells nm c hn) ?_;rintro -zq1 -;refine aL zq1 ?_;clear zq1;intro ob v e d;exact⟨.inr (dO hn),ob,v,k _ _ e,d,(F.cell nm c hn).1⟩) λL=>by
   refine⟨rfl,_,_,hg,rfl,rfl,⟨b,H.lam,rfl⟩,rfl,rfl,rfl,hcode.keeps k,λx hx=>⟨UO.mpr ⟨x,hx,rfl⟩,(H.free _ (h1 x hx).2 rfl).1⟩,λnm nm' ca hc hc'=>F.inj _ _ _ (look hc).1 (look hc').1,?_⟩;refine aM (hcr.vals (C:=C) (R:=P.R) (S:=λnm v=>∃ca ob,cl.lookup nm=some ca∧h'.get? ca=some ob∧ob.data=.cell (some v)) λnm hm q' y s1 s2=>by
    have hm:=li.mp hm;refine oa er (H.free _ hm rfl).2 s1 s2 ?_;intro ca ob v e1 e2 e3 e4;refine aw (has hm) ?_;intro ca' hca';have:=(look hca').1;rw[e1]at this;cases this;exact⟨v,e4,ca,ob,hca',k _ _ e2,e3⟩) ?_;intro vs r l z
   exact⟨vs,r.later L,l,z⟩) ?_;intro G' L' r'
 refine⟨⟨_,_,t,G'⟩,rfl,rfl,L',r',?_⟩;have nown:∀{b:Tw}{o:Obj},P.R.h.get? b=some o->¬dN P.R b->¬dN (P.R.add P.m.n ⟨P.R.h.objs.size,P.R.h.objs.size,cl.map (·.2)⟩ h') b:=by
  intro b o e no zq;refine aL zq ?_;clear zq;intro q p hp hb;by_cases z:q=P.m.n
  ·subst z;rw[Wd.add_self]at hp;cases hp;rcases hb with rfl|rfl<;>exact nn dead e
  ·rw[Wd.add_other z]at hp;exact no ⟨q,p,hp,hb⟩
 refine ag er.ns ?_;intro m ns hold;refine eS (id ns) ?_;rintro ol _ _ el -;refine⟨⟨m,ns.at' λo e=>k _ _ e,λnm q x h1 h2=>?_⟩,nown el er.lown,λnm ca hc=>?_,λf hf=>?_⟩
 ·refine(hold nm q x h1 h2).el ?_ ?_
  ·intro k1 v hv rv;exact .inl ⟨k1,v,hv,rv.later L'⟩
  ·intro k1 ca oc v hca hoc hd rv;exact .inr ⟨k1,ca,oc,v,hca,k _ _ hoc,hd,rv.later L'⟩
 ·refine bf (er.cells nm ca hc) ?_;intro a zq1 b;refine aL zq1 ?_;clear zq1;intro ob v e d;refine⟨nown e a,⟨ob,v,k _ _ e,d⟩,λha hf=>?_⟩;refine aL hf ?_;clear hf;intro q p hp hqc;by_cases z:q=P.m.n
  ·subst z;rw[Wd.add_self]at hp;cases hp;refine ag (hp3 ca hqc) ?_;intro nm' hn hfree;have:=F.inj _ _ _ hc hn;subst this;rw[(H.free _ hfree rfl).1]at ha;exact aD ha
  ·rw[Wd.add_other z]at hp;exact b ha ⟨q,p,hp,hqc⟩
 ·refine ak (er.fr f hf) ?_;intro a zq;refine gE zq ?_;clear zq;intro L1 o es ep a1 a2 a3 a4 a5 a6;exact⟨a,L1,o,es,ep,a1,a2,a3,nown a5 a4,k _ _ a5,a6⟩
theorem CS{P₀:Pg}(O:C.Ok P₀){id:Str}{p1 pos lp:Pos}{sl:Pa}(H:N5 C Γ args b sc q caps)(hs:Γ.slot id=some sl)(hk:Γ.kd id=some .local):du C Γ (.Assign [.Name id p1] (.Lambda args b sc lp) pos) (ao (t1 sl) (xp q caps)):=λF P fr kk en Q E er h K=>by
 refine ag (H.caps _ _ _ _ h) ?_;clear h;intro cs h hcr;refine aM (j8 (menv:=F.menv) (sc:=sc) λx hx e=>F.cdom x.1 (H.free x hx e).2) ?_;intro cl hclos h1 h2;refine dG (F.lam H.fp) ?_;intro cc T hmc hT hd hq;refine aM (P.good.vol T hT) ?_;intro ps e0 t0 c0;refine j5 O.top ?_;intro mg bm ob g1 g2 g3 g4 g5 g6 g7 g8;have hgh:P.R.h.Ns Tv mg:=g1.at' λo e=>P.good.keep _ _ e;have hgP:Tv≠T:=by
  rintro rfl;refine fL hgh ?_;clear hgh;rintro o es ep e d -;cases e0.symm.trans e;exact Ta d
 have hbP:bm≠T:=by
  rintro rfl;cases e0.symm.trans (P.good.keep _ _ g5);exact Ta g8
 have hB:P.R.h.BuiltinsAt mg T:=⟨bm,ob,g2,g3,g4,hbP,P.good.keep _ _ g5,g6,g7,g8⟩
 have hC:CodeHd P.R.h cc T:=hd.keeps P.good.keep;have fin:∀{P1:Pt C}{t':Nat}{name:Str}{pm cv ctv:SU},P1.m=P.m->au (cJ C F.menv) P.R P1.R->ER F P1.R en->P1.R.h.CodeRec cv (F.menv.qual++"<lambda>")->
   Tb (Tn C.prog C.w) F.A (assignAll (.ref P1.R.h.objs.size) ((assignEach [.Name id p1] F.menv).map (·.2))) (λZ=>Q .next) E ⟨P1.R.h.push {cls:=.type "function",data:=.func (kla_fn name (F.menv.qual++"<lambda>") args b sc cl pm cv ctv)},C.g,C.d,t',C.os⟩:=by
  intro P1 t' name pm cv ctv e1 L1 er1 hcr1;refine FP (Es H er1 hcr h1 h2 (name:=name) (pm:=pm) (ctv:=ctv) hcr1 t') ?_;intro P2 e2 e3 L2 r2 er2;refine rwl e3 ?_;show Tb _ _ (assign (.Name id p1) F.menv (.ref P1.R.h.objs.size)) _ _ _;refine wpAny_assign_Name (jI (X:=cJ C F.menv) er2 eR hs (.inl hk) (λZ Z=>dO) r2 λP3 e4 L3 er3=>?_);exact K.next ((L1.trans L2).trans L3) er3 (by refine rwr e4 (rwr e2 (rwr e1 ?_));exact h)
 refine Vi (kla_eval ?_ ?_) rfl rfl
 ·obtain⟨a1,a2,a3,a4,a5,a6,a7⟩:=args;have e1:a7=[]:=H.dflt.1;have e2:a5=[]:=H.dflt.2;subst e1;subst e2;rfl
 ·cases hf:codeAmong lp ps.toList with
  |some cv=>
   refine kla_makeFunctionHit (mg:=mg) (s:=P.s) hclos F.glob hgh hmc hC e0 t0 hf hB λctv h' tk hk' hsz=>?_;exact fin (P1:=P.more hk' tk) rfl (.keeps _ hk') (er.later (.keeps _ hk')) (by refine rwl hq ?_;exact(c0 lp cv hf).keeps hk')
  |none=>
   refine kla_makeFunction (mg:=mg) (s:=P.s) hclos F.glob hgh hmc hC e0 t0 hf hgP hB λc' ctv h' tk hx hge hlt hrec htb=>?_;refine ak (P.good.tab O hT (h':=h') (λb o hb e=>hx b o hb e) ⟨_,htb,by
    refine rwr U5 ?_;exact TriplesOk_snoc _ _ _ _ t0,λpos cv e=>by
    rw[U5]at e;rcases oG pos _ _ _ _ _ t0 e with z|rfl
    ·refine lQ (c0 pos cv z) ?_;intro c2 o2 vs2 t2 y1 y2 y3 y4;refine⟨c2,o2,vs2,t2,y1,hx c2 o2 ?_ y2,y3,y4⟩;rintro rfl;cases e0.symm.trans y2;cases y3;exact lK t0 _ _ y4
    ·refine rwr hq ?_;exact hrec⟩) ?_;intro G' L'
   exact fin (P1:=⟨_,P.m,tk,G'⟩) rfl L'.frame (er.later L') hrec
end
end
end
section
set_option compiler.extract_closed false
section
open PySem PySem.W PyProof.Rows
theorem EH(h:UT)(S:List Tw):∃base:UT,∀b,base.get? b=if b∈S then none else h.get? b:=by
 refine⟨⟨h.objs.mapIdx λi o=>if i∈S then{o with data:=.freed}else o,h.life⟩,λb=>?_⟩;unfold Heap.get?;refine rwr (Array.getElem?_mapIdx) ?_;cases e:h.objs[b]? with
 |none=>simp
 |some o=>
  simp only[Option.map_some];by_cases hb:b∈S
  ·simp[hb]
  ·simp[hb]
theorem kC{h base:UT}:∀(l:List Tt),(∀e∈l,e.scope.kind≠.module∧∃L o es ep,e.frame=some L∧base.get? L=none∧h.get? L=some o∧o.data=.dict es ep)->h.FunFrames base l
 |[],_=>trivial
 |e::r,H=>by
  refine ak (H e SX) ?_;intro k zq;refine lQ zq ?_;clear zq;intro L o es ep a b c d;exact⟨k,⟨L,o,a,b,c,λvs z=>Ta (d.symm.trans z)⟩,kC r λx hx=>H x (T5 _ hx)⟩
def lV(h1 h:UT)(e:Tw)(cls:String):Prop:=∃oe vs T oT ts,h.get? e=some oe∧oe.cls=.type cls∧oe.data=.fields vs∧vs[1]?=some (.ref T)∧h1.get? T=none∧T≠e∧h.get? T=some oT∧oT.data=.fields ts∧3<ts.size
theorem om{X T:String}(hX:X="KeyError"∨X="IndexError")(hT:T="KeyError"∨T="IndexError"){G:Prop}(k:∀b,isSubtype (.type X) (.type T)=pure b->(X=T->b=true)->G):G:=by
 rcases hX with rfl|rfl<;>rcases hT with rfl|rfl
 ·exact k true (UQ (by decide+kernel)) (λzz=>rfl)
 ·exact k false (UQ (by decide+kernel)) (λz=>absurd z (by decide))
 ·exact k false (UQ (by decide+kernel)) (λz=>absurd z (by decide))
 ·exact k true (UQ (by decide+kernel)) (λzz=>rfl)
theorem gV{T:String}(hT:T="KeyError"∨T="IndexError"):isSubtype (.type T) (.type "BaseException")=pure true∧isSubtype (.type ((Manifest.find? T).elim "type" λx=>x.metatype)) (.type "tuple")=pure false:=by
 rcases hT with rfl|rfl
 ·exact⟨UQ (by decide+kernel),UQ (by decide+kernel)⟩
 ·exact⟨UQ (by decide+kernel),UQ (by decide+kernel)⟩
theorem lV.push{h1 h:UT}{e:Tw}{cls:String}(T:lV h1 h e cls)(o:Obj):lV h1 (h.push o) e cls:=by
 refine Br T ?_;intro oe vs T oT ts t1 t2 t3 t4 t5 t6 t7 zq;refine ak zq ?_;clear zq;intro t8 t9;exact⟨oe,vs,T,oT,ts,TX _ t1,t2,t3,t4,t5,t6,TX _ t7,t8,t9⟩
theorem lV.typeIs{h1 h:UT}{e:Tw}{cls:String}(T:lV h1 h e cls){g:Array X0}{d:Drawn}{t:Nat}{os:OsState}:Wx ⟨h,g,d,t,os⟩ (.ref e) cls:=by
 refine ME T ?_;rintro oe vs T oT ts t1 t2 -;exact⟨oe,t1,t2⟩
variable{C:Cx}{Γ:d6}{R R':Wd}
def jQ(k:Nat)(cls:String):Prop:=(k=NB∧cls="KeyError")∨(k=NC∧cls="IndexError")
theorem jQ.cls{k:Nat}{cls:String}(h:jQ k cls):cls="KeyError"∨cls="IndexError":=h.imp (·.2) (·.2)
theorem jQ.uniq{k:Nat}{a b:String}(h:jQ k a)(g:jQ k b):a=b:=by
 rcases h with⟨rfl,rfl⟩|⟨rfl,rfl⟩<;>rcases g with⟨e,rfl⟩|⟨e,rfl⟩<;>first|rfl|exact X2 e
def Vz(F:dP C Γ)(P:Pt C)(w:Sem SU)(u:KV):Prop:=∀(Q:SU->SW->Prop)(E:SU->SW->Prop),(∀(P1:Pt C)(v:SU),P1.m=P.m->au C.vol P.R P1.R->VR C P1.R u v->Q v P1.s)->Tb (Tn C.prog C.w) F.A w Q E P.s
def Rz{α:Type}(F:dP C Γ)(P:Pt C)(w:Sem α)(x:Nat):Prop:=∀(Q:α->SW->Prop)(E:SU->SW->Prop),(∀(P1:Pt C)(h':UT)(t:Nat)(e:Tw)(cls:String),P1.m=P.m->au C.vol P.R P1.R->jQ x cls->Heap.NewExc P1.R.h h' e cls->E (.ref e) ⟨h',C.g,C.d,t,C.os⟩)->Tb (Tn C.prog C.w) F.A w Q E P.s
def N4(f:(KV->Bool)->(Nat->Bool)->Bool):Prop:=∀kv rx,f kv rx=true->(∃u,kv u=true∧∀(kv':KV->Bool)(rx':Nat->Bool),kv' u=true->f kv' rx'=true)∨∃x,rx x=true∧∀(kv':KV->Bool)(rx':Nat->Bool),rx' x=true->f kv' rx'=true
def oQ(C:Cx)(Γ:d6)(e:SQ)(p:PX):Prop:=(∀c en m,N4 (p c en m))∧∀(F:dP C Γ)(P:Pt C)(en:En)(kv:KV->Bool)(rx:Nat->Bool),ER F P.R en->p F.cl en P.m kv rx=true->(∃u,kv u=true∧Vz F P (eval e F.menv) u)∨∃x,rx x=true∧Rz F P (eval e F.menv) x
def QX(x:X):Prop:=∀(c:Cl)(e:En)(k:KT)(s:KS),x c e k s=true->∃u,k s u=true∧∀k':KT,k' s u=true->x c e k' s=true
theorem Ar{v:KV}:QX (af v):=λc e k s h=>⟨v,h,λzz h=>h⟩
theorem IL{q:Pa}:QX (ae q):=λc e k s h=>by
 refine aB h ?_;clear h;intro u h hu;exact⟨u,h,λk' h'=>by show ci _ _ _=true;refine rwr hu ?_;exact h'⟩
theorem Dm{x:X}{sl:Pa}(hx:QX x):QX (ai sl x):=λc e k s h=>by
 refine ag (hx c e _ s h) ?_;intro u h1 h2;have:∃y,k s y=true∧∀k':KT,k' s y=true->KR sl k' s u=true:=by
  unfold KR at h1 ⊢;cases u with
  |ref q=>
   refine aB h1 ?_;clear h1;intro o h1 ho;cases o with
   |inst c fs=>
    refine aB h1 ?_;clear h1;intro y h1 hy;refine⟨y,h1,λk' h'=>?_⟩;show ci _ _ _=true;refine rwr ho ?_;show ci (tg sl fs) false (k' s)=true;refine rwr hy ?_;exact h'
   |_=>exact aD h1
  |_=>exact aD h1
 refine ag this ?_;clear this;intro y h3 h4;exact⟨y,h3,λk' h'=>h2 _ (h4 k' h')⟩
theorem IN{x:X}{n:Nat}(hx:QX x):QX (bj cI x (af (.nat n))):=λc e k s h=>by
 refine ag (hx c e _ s h) ?_;intro u h1 h2;cases u with
 |nat m=>exact⟨_,h1,λZ h=>h2 _ h⟩
 |tok m=>let z:=aO.mp h1;exact⟨.tok 0,z.2,λZ h=>h2 _ (aO.mpr ⟨z.1,h⟩)⟩
 |ref q=>
  have h1:ci (tg q s.h) false (iQ λZ Z=>false)=true:=h1;refine aB h1 ?_;rintro o h -;cases o<;>exact aD h
 |_=>exact aD h1
theorem IM{x:X}{n:Nat}(hx:QX x):QX (bj lP x (af (.nat n))):=λc e k s h=>by
 refine ag (hx c e _ s h) ?_;intro u h1 h2;cases u with
 |nat m=>
  have h1:az (T3 n m) (k s (.neg (Um n (Te m)))) (k s (.nat (Um m n)))=true:=h1;cases hb:T3 n m with
  |true=>rw[hb]at h1;exact⟨_,h1,λk' h'=>h2 _ (by show az (T3 n m) _ _=true;refine rwr hb ?_;exact h')⟩
  |false=>rw[hb]at h1;exact⟨_,h1,λk' h'=>h2 _ (by show az (T3 n m) _ _=true;refine rwr hb ?_;exact h')⟩
 |tok m=>let z:=aO.mp h1;exact⟨.tok 0,z.2,λzz h=>h2 _ (aO.mpr ⟨z.1,h⟩)⟩
 |_=>exact aD h1
section
variable{F:dP C Γ}{P:Pt C}{en:En}{e i o:SQ}{x:X}{p p1 p2:PX}{pos:Pos}
open Classical in
theorem GN(hx:bv C Γ e x)(hq:QX x):oQ C Γ e (pX x):=⟨λc en m kv rx h=>by
 refine ag (hq _ _ _ _ h) ?_;intro u h1 h2;exact .inl ⟨u,h1,λkv' Z hk=>h2 _ hk⟩,λF P en kv rx er h=>by
 refine ag (hq _ _ _ _ h) ?_;intro u h1 h2;refine .inl ⟨u,h1,λQ E K=>?_⟩;refine hx F P en (λs v=>decide (s=P.m∧v=u)) Q E er (h2 _ (by simp)) λP1 w v L r hk=>?_;refine ak (of_decide_eq_true hk) ?_;clear hk;rintro a rfl;exact K P1 v a L r⟩
theorem oN{n l:Nat}{a b:Bool}(h:az (T3 (Te n) l) a b=true):n+1≤l∧b=true∨l<n+1∧a=true:=by
 cases hb:T3 (Te n) l with
 |true=>rw[hb]at h;exact .inl ⟨SP hb,h⟩
 |false=>rw[hb]at h;exact .inr ⟨WM λz=>(by rw[SY z]at hb;exact qd hb),h⟩
theorem wv{kv:KV->Bool}{rx:Nat->Bool}{i xs:KV}{l:Nat}{w:SU}(h:Dt kv rx l i xs=true)(r:VR C R i w)(hl:len xs=l):
  ∃z t,w=.int z t∧-(2^63)≤z∧z<2^63∧((∃y,kv y=true∧∀k:KV->Bool,k y=true->Fv k l i xs=true)∨rx NC=true∧seqIndex? z l=none∧(z< -(l:Int)∨(l:Int)≤z)):=by
 obtain⟨z,t,rfl,⟨n,rfl,rfl,h⟩|⟨n,rfl,rfl,h⟩⟩:=km h r
 ·refine dI h ?_;clear h;intro h1 h;have h1:=SP h1;refine⟨_,t,rfl,by exact Vu (n+Te 9223372036854775807),by lia,?_⟩;rcases mv h with zq|zq
  ·refine ak zq ?_;clear zq;intro e hr;have:l≤n:=by
    rcases Wt n l with w|w
    ·have:∀{xs:KV}{n:Nat},n<len xs->ng n xs≠none:=by
      intro xs;induction xs with
      |cons x r _ ih=>intro n hn;cases n with|zero=>((repeat intro);contradiction)|succ n=>exact ih (Nat.lt_of_succ_lt_succ hn)
      |_=>intro n hn;cases hn
     exact absurd e (this (hl▸w))
    ·exact w
   refine .inr ⟨hr,?_,.inr (by simp_all+arith)⟩;unfold seqIndex?;have h0:¬((n:Nat):Int)<0:=by simp+arith
   simp only[h0,if_false];exact rwr (if_neg (by simp;assumption)) rfl
  ·refine ag zq ?_;clear zq;intro y e hy;exact .inl ⟨y,hy,λk hk=>by show ci _ _ _=true;refine rwr e ?_;exact hk⟩
 ·refine dI h ?_;clear h;intro h1 h;have h1:=SP h1;refine⟨_,t,rfl,by lia,by lia,?_⟩;rcases oN h with zq|zq
  ·refine ak zq ?_;clear zq;intro hb h;refine aB h ?_;clear h;intro y h hy;exact .inl ⟨y,h,λk hk=>by show az _ _ _=true;refine rwr (SY hb) ?_;show ci _ _ _=true;refine rwr hy ?_;exact hk⟩
  ·refine ak zq ?_;clear zq;intro hb h;refine .inr ⟨h,?_,.inl (by omega)⟩;unfold seqIndex?;simp only[Int.negSucc_lt_zero n,if_true];exact rwr (if_neg (by simp;omega)) rfl
theorem rc{l:Nat}{i xs:KV}:N4 (λkv rx=>Dt kv rx l i xs):=λkv rx h=>by
 cases i with
 |nat n=>
  refine dI h ?_;clear h;intro h1 h;rcases mv h with zq|zq
  ·refine ak zq ?_;clear zq;intro e hr;exact .inr ⟨_,hr,λkv' rx' hx=>aO.mpr ⟨h1,by show ci _ _ _=true;refine rwr e ?_;exact hx⟩⟩
  ·refine ag zq ?_;clear zq;intro y e hy;exact .inl ⟨y,hy,λkv' rx' hx=>aO.mpr ⟨h1,by show ci _ _ _=true;refine rwr e ?_;exact hx⟩⟩
 |neg n=>
  refine dI h ?_;clear h;intro h1 h;rcases oN h with zq|zq
  ·refine ak zq ?_;clear zq;intro hb h;refine aB h ?_;intro y hy e;exact .inl ⟨y,hy,λkv' rx' hx=>aO.mpr ⟨h1,by refine rwr (SY hb) ?_;show ci _ _ _=true;refine rwr e ?_;exact hx⟩⟩
  ·refine ak zq ?_;clear zq;intro hb h;refine .inr ⟨_,h,λkv' rx' hx=>aO.mpr ⟨h1,?_⟩⟩;have:T3 (Te n) l=false:=by cases hb':T3 (Te n) l with|false=>rfl|true=>exact absurd (SP hb') (by lia)
   refine rwr this ?_;exact hx
 |_=>exact aD h
theorem wF{u i:KV}{m:KS}:N4 (λkv rx=>qO (λxs=>Dt kv rx (len xs) i xs) (λq=>aZ q m (qR (λn xs=>Dt kv rx n i xs) (λzz es=>az (pk i) false (cC es i (rx NB) kv)))) u):=by
 cases u with
 |nil=>exact rc
 |cons=>exact rc
 |ref q=>
  show N4 (λkv rx=>aZ q m _);unfold aZ;cases tg q m.h with
  |none=>exact λkv rx h=>by exact aD h
  |some o=>
   cases o with
   |list n xs=>exact rc
   |dict n es=>
    intro kv rx h;refine dI h ?_;clear h;intro h1 h;unfold cC at h;cases hd:dl es i with
    |none=>rw[hd]at h;exact .inr ⟨_,h,λkv' rx' hx=>aO.mpr ⟨h1,by unfold cC;refine rwr hd ?_;exact hx⟩⟩
    |some y=>rw[hd]at h;exact .inl ⟨y,h,λkv' rx' hx=>aO.mpr ⟨h1,by unfold cC;refine rwr hd ?_;exact hx⟩⟩
   |_=>exact λkv rx h=>by exact aD h
 |_=>exact λkv rx h=>by exact aD h
variable{P₀:Pg}(O:C.Ok P₀)
include O
theorem pC{G:dP C Γ}(lo:Γ.loud=true){kv:KV->Bool}{rx:Nat->Bool}{u i:KV}{v w:SU}(r:VR C P.R u v)(ri:VR C P.R i w)(h:qO (λxs=>Dt kv rx (len xs) i xs) (λq=>aZ q P.m (qR (λn xs=>Dt kv rx n i xs) (λZ es=>az (pk i) false (cC es i (rx NB) kv)))) u=true):
  (∃y,kv y=true∧∀k:KT,k P.m y=true->Jm k u P.m i=true)∨∃x,rx x=true∧Rz G P (getItem v w) x:=by
 have tup:∀{a:Tw}{vs:List SU},v=.ref a->P.R.h.IsTuple a vs.toArray->bG C P.R u vs->Dt kv rx (len u) i u=true->(∃y,kv y=true∧∀k:KV->Bool,k y=true->Fv k (len u) i u=true)∨∃x,rx x=true∧Rz G P (getItem v w) x:=by
  rintro a vs rfl ht rs h;obtain⟨z,t,rfl,b1,b2,hy|⟨hr,hz,_⟩⟩:=wv h ri rfl
  ·exact .inl hy
  ·refine .inr ⟨_,hr,λQ E K=>?_⟩;rw[rs.len_eq]at hz;refine aM (id ht) ?_;intro o ho hc zq;refine aw zq ?_;clear zq;intro n hd;have hT:P.s.TypeIs (.ref a) "tuple":=⟨o,ho,hc⟩
   unfold getItem;refine TH (SO (W0 hT (by decide) ?_));refine SO (TV (name:=Tu "__getitem__") hT Wb
    (TJ Wb hT F.entry_tuple_getitem ?_ (F.args_tuple_getitem_2 _ _)))
   show Tb _ _ (Builtin.Tuple.tupleItemsOf (.ref a)>>=_) _ _ _;refine SO (wpAny_tupleItemsOf ho hd ?_);refine SO (wpAny_typeOf (typeIs_int P.s z t) ?_);refine rwr (if_neg (by decide)) ?_;refine SO (Uw (T:="int") (typeIs_int P.s z t) int_index ?_);refine rwr (if_neg (by simp)) ?_;refine SO (wpAny_of_eq (a:=z) rfl ?_);refine rwr (if_neg (by simp only[WU,decide_eq_true_eq];lia)) ?_;refine rwr Vo (rwr hz ?_);simp only[Option.bind_none];have hE:∀h' tk e,Heap.NewExc P.R.h h' e "IndexError"->E (.ref e) ⟨h',C.g,C.d,tk,C.os⟩:=λh' tk e N=>K P h' tk e "IndexError" rfl (.refl _ _) (.inr ⟨rfl,rfl⟩) N;have hh':G.A.in1.handled=none:=G.handled lo;first
    |exact SO (Va (by exact_raiseError plainExc_IndexError hh' hE))
    |exact SO (Va (SO (by exact_raiseError plainExc_IndexError hh' hE)))
 cases u with
 |nil=>refine ag (id r) ?_;intro a e ht;exact(tup e ht .nil_ h).imp (λ⟨y,a,b⟩=>⟨y,a,λk hk=>b (k P.m) hk⟩) id
 |cons x y=>refine ew (id r) ?_;rintro a w ws e ht h1 h2 -;exact(tup e ht (.cons_ h1 h2) h).imp (λ⟨y,a,b⟩=>⟨y,a,λk hk=>b (k P.m) hk⟩) id
 |ref q=>
  refine ag (id r) ?_;clear r;rintro p hp rfl;refine aF h hp ?_;clear h;intro o e ro h;cases o with
  |list n xs=>
   refine ak ro ?_;clear ro;rintro -zq;refine dG zq ?_;clear zq;rintro vs c hob rs rfl hl;obtain⟨z,t,rfl,b1,b2,⟨y,hy,hk⟩|⟨hr,hz,ho⟩⟩:=wv h ri (by refine rwr rs.len_eq ?_;simp)
   ·exact .inl ⟨y,hy,λk h'=>by show aZ _ _ _=true;unfold aZ;refine rwr e ?_;exact hk (k P.m) h'⟩
   ·exact .inr ⟨_,hr,λQ E K=>wpAny_getItem_list_out (s:=P.s) (G.handled lo) ⟨_,hob,rfl,c,rfl⟩ ho b1 b2 λh' tk e N=>K P h' tk e "IndexError" rfl (.refl _ _) (.inr ⟨rfl,rfl⟩) N⟩
  |dict n es=>
   refine dI h ?_;clear h;intro h1 h;refine ak ro ?_;clear ro;rintro -zq;refine x7 zq ?_;clear zq;rintro ob es' ep hob hx hdat hE hnd -;cases hd:dl es i with
   |some y=>unfold cC at h;rw[hd]at h;exact .inl ⟨y,h,λk h'=>by show aZ _ _ _=true;unfold aZ;refine rwr e ?_;exact aO.mpr ⟨h1,by unfold cC;refine rwr hd ?_;exact h'⟩⟩
   |none=>
    unfold cC at h;rw[hd]at h;refine .inr ⟨_,h,λQ E K=>?_⟩;have hT:P.s.TypeIs (.ref p.fst) "dict":=⟨_,hob,hx.1⟩
    unfold getItem;refine TH (SO (W0 hT (by decide) ?_));refine SO (TV (name:=Tu "__getitem__") hT VJ
     (TJ VJ hT F.entry_dict_getitem ?_ (F.args_dict_getitem_2 _ _)))
    show Tb _ _ (dictGet p.fst w>>=_) _ _ _;refine SO (jl (s:=P.s) h1 ri rfl hob hdat hE (by have:=G.units;show G.A.units+1+_<_;lia) hnd (λZ t'=>?_) λy val e' Z t'=>by rw[hd]at e';exact dh e');show Tb _ _ (Builtin.Dict.missed p.fst w>>=_) _ _ _;refine SO (wpAny_missed_other (gx O P.good hp) ?_);refine SO (wpAny_typeOf (s:=(P.tick t').s) hT ?_);show Tb _ _ (if(Value.type "dict" != Value.type "dict")=true then _ else _) _ _ _;refine rwr (if_neg (by decide)) ?_;exact SO (Va (wpAny_raise_newExc (A:=G.A.in1) plainExc_KeyError (G.handled lo) (λh' e N=>K P h' t' e "KeyError" rfl (.refl _ _) (.inl ⟨rfl,rfl⟩) N)))
  |_=>exact aD h
 |_=>exact aD h
end
end
end
section
set_option compiler.extract_closed false
section
open PySem PySem.W PyProof.Rows
variable{C:Cx}{Γ:d6}{R R':Wd}
section
variable{P₀:Pg}(O:C.Ok P₀){e i o:SQ}{p1 p2 p:PX}{pos ap:Pos}
open Classical in
theorem oQ.val(h:oQ C Γ e p){F:dP C Γ}{P:Pt C}{en:En}{u:KV}(er:ER F P.R en)(hu:∀(kv':KV->Bool)(rx':Nat->Bool),kv' u=true->p F.cl en P.m kv' rx'=true):Vz F P (eval e F.menv) u:=by
 rcases h.2 F P en (λv=>decide (v=u)) (λzz=>false) er (hu _ _ (by exact if_pos rfl))with zq|zq
 ·refine ag zq ?_;clear zq;intro w hw V;cases of_decide_eq_true hw;exact V
 ·refine ag zq ?_;clear zq;intro x hx _;exact aD hx
open Classical in
theorem oQ.rz(h:oQ C Γ e p){F:dP C Γ}{P:Pt C}{en:En}{x:Nat}(er:ER F P.R en)(hu:∀(kv':KV->Bool)(rx':Nat->Bool),rx' x=true->p F.cl en P.m kv' rx'=true):Rz F P (eval e F.menv) x:=by
 rcases h.2 F P en (λv=>false) (λy=>decide (y=x)) er (hu _ _ (by exact if_pos rfl))with zq|zq
 ·refine ag zq ?_;clear zq;intro w hw _;exact aD hw
 ·refine ag zq ?_;clear zq;intro y hy Z;cases of_decide_eq_true hy;exact Z
theorem AE{f:KV->Bool}{g:Pa->Bool}{u:KV}(h:qO f g u=true):qP (λzz=>false) f g (λzz=>false) u=true:=by cases u<;>exact h
include O
open Classical in
theorem zX(lo:Γ.loud=true)(h1:oQ C Γ o p1)(h2:oQ C Γ i p2)(hi:gB i=false):oQ C Γ (.Subscript o i pos) (uW p1 p2):=by
 have lin:∀c en m,N4 (uW p1 p2 c en m):=λc en m kv rx h=>by
  rcases h1.1 c en m _ _ h with zq|zq
  ·refine ag zq ?_;clear zq;intro u h a1;rcases h2.1 c en m _ _ h with zq|zq
   ·refine ag zq ?_;clear zq;intro j h a2;rcases wF kv rx h with zq|zq
    ·refine ag zq ?_;clear zq;intro y hy a3;exact .inl ⟨y,hy,λkv' rx' hk=>a1 _ _ (a2 _ _ (a3 _ _ hk))⟩
    ·refine ag zq ?_;clear zq;intro x hx a3;exact .inr ⟨x,hx,λkv' rx' hk=>a1 _ _ (a2 _ _ (a3 _ _ hk))⟩
   ·refine ag zq ?_;clear zq;intro x hx a2;exact .inr ⟨x,hx,λkv' rx' hk=>a1 _ _ (a2 _ _ hk)⟩
  ·refine ag zq ?_;clear zq;intro x hx a1;exact .inr ⟨x,hx,λkv' rx' hk=>a1 _ _ hk⟩
 refine⟨lin,λF P en kv rx er h=>?_⟩;rcases h1.1 _ _ _ _ _ h with zq|zq
 ·refine ag zq ?_;clear zq;intro u h a1;have V1:=h1.val er a1;rcases h2.1 _ _ _ _ _ h with zq|zq
  ·refine ag zq ?_;clear zq;intro j h a2;have tail:∀(P2:Pt C){v w:SU}{Q:SU->SW->Prop}{E:SU->SW->Prop},P2.m=P.m->VR C P2.R u v->Tb (Tn C.prog C.w) F.A (getItem v w) (λr=>Q r) E P2.s->Tb (Tn C.prog C.w) F.A (PyProof.Rows.subscriptTail o i v w) Q E P2.s:=λP2 v w Q E e2 r q=>by
    unfold PyProof.Rows.subscriptTail;refine SO (kB (P':=P2) (t:=P2.t) r (AE (by rw[e2];exact h)) rfl ?_);rw[iM hi];exact SO (wpAny_operating (UJ q (λr s q=>SO (V6 (SR q))) λY Y e=>e))
   rcases wF kv rx h with zq|zq
   ·refine ag zq ?_;clear zq;intro y hy a3;refine .inl ⟨y,hy,λQ E K=>VN (V1 _ E λP1 v e1 L1 r1=>h2.val (er.later L1) (e1▸a2) _ E λP2 w e2 L2 r2=>tail P2 (e2.trans e1) (r1.later L2) ?_)⟩;rcases pC O lo (P:=P2) (G:=F) (kv:=λz=>decide (z=y)) (rx:=λY=>false) (r1.later L2) r2 (by refine rwr e2 (rwr e1 ?_);exact a3 _ _ (by exact if_pos rfl))with⟨z,hz,hk⟩|⟨x,hx,_⟩
    ·cases of_decide_eq_true hz;refine tD O (k:=λs z=>decide (s=P2.m∧z=y)) (r1.later L2) r2 (hk _ (by simp)) F.units λP3 z v' L3 r3 h3=>?_;refine ak (of_decide_eq_true h3) ?_;clear h3;rintro a rfl;exact K P3 v' (a.trans (e2.trans e1)) ((L1.trans L2).trans L3) r3
    ·exact aD hx
   ·refine ag zq ?_;clear zq;intro x hx a3;refine .inr ⟨x,hx,λQ E K=>VN (V1 _ E λP1 v e1 L1 r1=>h2.val (er.later L1) (e1▸a2) _ E λP2 w e2 L2 r2=>tail P2 (e2.trans e1) (r1.later L2) ?_)⟩;rcases pC O lo (P:=P2) (G:=F) (kv:=λY=>false) (rx:=λz=>decide (z=x)) (r1.later L2) r2 (by refine rwr e2 (rwr e1 ?_);exact a3 _ _ (by exact if_pos rfl))with⟨z,hz,hk⟩|⟨y,hy,Z⟩
    ·exact aD hz
    ·cases of_decide_eq_true hy;exact Z _ E λP3 h' t e cls e3 L3=>K P3 h' t e cls (e3.trans (e2.trans e1)) ((L1.trans L2).trans L3)
  ·refine ag zq ?_;clear zq;intro x hx a2;exact .inr ⟨x,hx,λQ E K=>VN (V1 _ E λP1 v e1 L1 r1=>h2.rz (er.later L1) (e1▸a2) _ E λP3 h' t e cls e3 L3=>K P3 h' t e cls (e3.trans e1) (L1.trans L3))⟩
 ·refine ag zq ?_;clear zq;intro x hx a1;exact .inr ⟨x,hx,λQ E K=>VN (h1.rz er a1 _ E K)⟩
end
end
end
section
set_option compiler.extract_closed false
section
set_option backward.match.sparseCases true
open PySem PySem.W PyProof.Rows
variable{C:Cx}{Γ:d6}{R R':Wd}
def EP(C:Cx)(Γ:d6)(s:W8)(p:PX):Prop:=∀(F:dP C Γ)(P:Pt C)(en:En)(B:Bool)(rx:Nat->Bool),ER F P.R en->p F.cl en P.m (λzz=>B) rx=true->B=true∨∃x,rx x=true∧Rz F P (exec s F.menv) x
section
variable{e te o:SQ}{p:PX}{pos ap pos2:Pos}{nm:Str}{args:List SQ}
theorem zV(h:oQ C Γ e p)(hn:gG e=false)(hn2:(iZ te&&iZ e)=false):EP C Γ (.Assign [te] e pos) p:=λF P en B rx er hp=>by
 rcases h.2 F P en _ rx er hp with zq|zq
 ·refine ag zq ?_;clear zq;intro u hb _;exact .inl hb
 ·refine ag zq ?_;clear zq;intro x hx Z;exact .inr ⟨x,hx,λQ E K=>Vi (Z _ E K) (jX hn _ _) (fI hn2 _)⟩
theorem xH(h:oQ C Γ o p)(ho:aN o=false):EP C Γ (.Expr (.Call (.Attribute o nm ap) args [] pos) pos2) p:=λF P en B rx er hp=>by
 rcases h.2 F P en _ rx er hp with zq|zq
 ·refine ag zq ?_;clear zq;intro u hb _;exact .inl hb
 ·refine ag zq ?_;clear zq;intro x hx Z;refine .inr ⟨x,hx,λQ E K=>wpAny_Expr_any ?_ F.noInter (jf rfl _ _ _)⟩;rw[WY,d5 ho];exact SO (Z _ E K)
end
structure hM(C:Cx)(R:Wd)(fr:List Tt)(h':UT)(e:Tw):Prop where
 same:∀b o,b∉e::fr.filterMap (·.frame)->R.h.get? b=some o->h'.get? b=some o
 fram:∀b∈fr.filterMap (·.frame),∃o es ep sl,R.h.get? b=some o∧o.data=.dict es ep∧¬dN R b∧C.h₀.get? b=none∧b∉C.vol∧h'.get? b=some {o with slots:=sl}
section
variable{fr:List Tt}{h':UT}{e:Tw}
theorem hM.but{T:Tw}{h'':UT}(N:hM C R fr h' e)(d:R.h.get? T=none)(k:∀b o,b≠T->h'.get? b=some o->h''.get? b=some o):hM C R fr h'' e:=by
 refine⟨λb o hb z=>k b o (λw=>nn d (w▸z)) (N.same b o hb z),λb hb=>?_⟩;refine gE (N.fram b hb) ?_;intro o es ep sl z1 z2 z3 z4 z5 z6;exact⟨o,es,ep,sl,z1,z2,z3,z4,z5,k b _ (λw=>nn d (w▸z1)) z6⟩
theorem hM.keep{h'':UT}(N:hM C R fr h' e)(k:∀b o,h'.get? b=some o->h''.get? b=some o):hM C R fr h'' e:=N.but (T:=R.h.objs.size) (aV _) λb o Z z=>k b o z
theorem hM.good{μ:KS}(G:bP C R μ)(fe:cO C R e)(hd:∀o,R.h.get? e=some o->∀es ep,o.data≠.dict es ep)(N:hM C R fr h' e):bP C ⟨R.ρ,h',R.fz⟩ μ∧au [e] R ⟨R.ρ,h',R.fz⟩:=by
 have fr':∀b∈e::fr.filterMap (·.frame),cO C R b:=λb hm=>by
  rcases T8.mp hm with rfl|hm
  ·exact fe
  ·refine gE (N.fram b hm) ?_;intro o es ep sl z1 z2 z3 z4 z5 z6;refine⟨z3,λz=>?_,z5,z4,G.fzNot z1 (λvs k z=>Ta (z2.symm.trans z)),o,z1,λxs n z=>(Ta (z2.symm.trans z)),λvs q t z=>(Ta (z2.symm.trans z))⟩;refine aH (G.frz _ z) ?_;rintro oc v e1 e2 -;cases z1.symm.trans e1;rw[z2]at e2;exact Ta e2
 refine ak (G.asides N.same fr') ?_;intro G' L';refine⟨G',λZ Z h=>h,λZ Z h=>.inl h,L'.tup,λb o z no nx=>?_,λb o nx z=>?_,L'.code,L'.fl,λZ=>.inl⟩
 ·by_cases hm:b∈fr.filterMap (·.frame)
  ·refine gE (N.fram b hm) ?_;rintro o' es ep sl y1 y2- - -y5;cases z.symm.trans y1;exact⟨_,y5,.inr ⟨⟨es,ep,y2⟩,sl,rfl⟩⟩
  ·exact⟨o,N.same b o (by simp only[T8,not_or];exact⟨λq=>nx (by simp[q]),hm⟩) z,.inl rfl⟩
 ·by_cases hm:b∈fr.filterMap (·.frame)
  ·refine gE (N.fram b hm) ?_;rintro o' es ep sl y1 y2- - -y5;exact⟨_,y5⟩
  ·exact⟨o,N.same b o (by simp only[T8,not_or];exact⟨λq=>nx (by simp[q]),hm⟩) z⟩
end
section
variable{F:dP C Γ}{P:Pt C}{en:En}{E:SU->SW->Prop}
theorem AI(st:Γ.st=true)(er:ER F P.R en){e:Tw}{ob:Obj}{cls:String}{tv:SU}(he:P.R.h.get? e=some ob)(hcls:ob.cls=.type cls)(hd:ob.data=.fields #[tv,.none,.none,.none,.bool false,.none])
  {Q:Unit->SW->Prop} (q:∀h',hM C P.R F.fr h' e->lV P.R.h h' e cls->Q () ⟨h',C.g,C.d,P.t,C.os⟩):
  Tb (Tn C.prog C.w) F.A (noteFrame (.ref e) F.menv) (λzz s'=>Tb (Tn C.prog C.w) F.A (setFlight (.ref e) none) Q E s') E P.s:=by
 refine aw (F.top st) ?_;intro outer hfr;refine ak (er.fr F.menv (by rw[hfr];exact SX)) ?_;rintro -zq;refine x6 zq ?_;clear zq;rintro L oL esL epL hf -;refine aw (EH P.R.h (e::F.fr.filterMap (·.frame))) ?_;intro base hb;have fmem:∀x∈F.fr,∀b,x.frame=some b->b∈e::F.fr.filterMap (·.frame):=λx hx b hb=>T5 _ (List.mem_filterMap.mpr ⟨x,hx,hb⟩);have FF:P.R.h.FunFrames base F.fr:=kC _ λx hx=>by
  refine ak (er.fr x hx) ?_;intro k zq;refine gE zq ?_;clear zq;rintro L o es ep a- - -c d;exact⟨k,L,o,es,ep,a,by rw[hb,if_pos (fmem x hx L a)],c,d⟩
 have hkb:base.StaysIn P.R.h:=λb o z=>by
  rw[hb]at z
  split at z
  ·exact dh z
  ·exact z
 have hbe:base.get? e=none:=by rw[hb,if_pos SX]
 unfold noteFrame;simp only[hf];refine SO (UK he hd (x:=.none) rfl ?_);rw[if_neg (by decide)];rw[hfr]at FF;refine wpAny_newEntry (s:=P.s) (base:=base) (by rw[F.room.frames,hfr]) FF hf he hkb hbe hd (by simp) λh' Lf=>?_;refine tT Lf ?_;clear Lf;intro k1 k2 k3 k4;have isF:∀b,b∈F.fr.filterMap (·.frame)->∃o es ep sl,P.R.h.get? b=some o∧o.data=.dict es ep∧¬dN P.R b∧C.h₀.get? b=none∧b∉C.vol∧h'.get? b=some {o with slots:=sl}:=λb hm=>by
  refine Nm hm ?_;intro x hx hxf;refine ak (er.fr x hx) ?_;intro k zq;refine gE zq ?_;clear zq;intro L o es ep a c0 cv no c d;cases hxf.symm.trans a;refine aw (k4 b o c λvs z=>Ta (d.symm.trans z)) ?_;intro sl hsl;exact⟨o,es,ep,sl,c,d,no,c0,cv,hsl⟩
 refine Br k3 ?_;clear k3;intro oe vs T oT ts t1 t2 t3 t4 t5 t6 t7 zq;refine ak zq ?_;clear zq;intro t8 t9;have hTd:P.R.h.get? T=none:=by
  rw[hb]at t5
  split at t5
  ·rename_i hm;rcases T8.mp hm with z|z
   ·exact absurd z t6
   ·refine gE (isF T z) ?_;rintro o es ep sl-d- - -z2;rw[t7]at z2;cases z2;dsimp only at t8;rw[d]at t8;exact Ta t8
  ·exact t5
 exact q h' ⟨λb o nb z=>k1 b o (by rw[hb,if_neg nb];exact z),isF⟩ ⟨oe,vs,T,oT,ts,t1,t2.trans hcls,t3,t4,hTd,t6,t7,t8,(Uu.mp t9).1⟩
theorem oh{A:U6}{fr:List Tt}{h:UT}{e:Tw}{cls:String}{t:Nat}(N:hM C R fr h e)(T:lV R.h h e cls){Q:Unit->SW->Prop}{E:SU->SW->Prop}
  (q:∀h',hM C R fr h' e->Q () ⟨h',C.g,C.d,t,C.os⟩):Tb (Tn C.prog C.w) A (setFlight (.ref e) none) Q E ⟨h,C.g,C.d,t,C.os⟩:=by
 refine Br T ?_;intro oe vs T oT ts t1 t2 t3 t4 t5 t6 t7 zq;refine ak zq ?_;clear zq;intro t8 t9;exact wpAny_setFlight_none t1 t3 t4 t7 t8 t9 (q _ (N.but t5 λb o hb z=>(Heap.get?_update_ne _ _ _ _ hb).trans z))
end
inductive jR(Γ:d6):SQ->List Nat->Prop
 |one {T:String} {k:Nat} {pos:Pos}:jQ k T->Γ.kd (Tu T)=some .globalImplicit->jR Γ (.Name (Tu T) pos) [k]
 |two {T U:String} {k l n:Nat} {p1 p2 pos:Pos}:jQ k T->jQ l U->Γ.kd (Tu T)=some .globalImplicit->Γ.kd (Tu U)=some .globalImplicit->jR Γ (.Tuple [.Name (Tu T) p1,.Name (Tu U) p2] n pos) [k,l]
section
variable{P₀:Pg}(O:C.Ok P₀){F:dP C Γ}{P:Pt C}{en:En}{E:SU->SW->Prop}
include O
theorem ik{A:U6}{h':UT}{t:Nat}(keep:bB C.h₀ h'){pos:Pos}{T:String}{k:Nat}(hT:jQ k T)(hk:Γ.kd (Tu T)=some .globalImplicit){Q:SU->SW->Prop}{E:SU->SW->Prop}
  (q:Q (.type T) ⟨h',C.g,C.d,t,C.os⟩):Tb (Tn C.prog C.w) A (eval (.Name (Tu T) pos) F.menv) Q E ⟨h',C.g,C.d,t,C.os⟩:=by
 refine Wi F.kind ((F.kof _).trans hk) (O.exc T hT.cls A Q E ⟨h',C.g,C.d,t,C.os⟩ F.menv F.glob F.bi keep q) ?_;rcases hT.cls with rfl|rfl<;>decide+kernel
theorem rC{e:Tw}{cls:String}{k:Nat}{ks:List Nat}{tt:SQ}{hd:W8}{hpos:Pos}(hx:jR Γ tt ks)(hk:jQ k cls)(hit:ks.any (SS k)=true){h':UT}{t:Nat}(N:hM C P.R F.fr h' e)(T:lV P.R.h h' e cls)(keep:bB C.h₀ h'){Q:UL->SW->Prop}
  (q:∀h'' t'' E,hM C P.R F.fr h'' e->Tb (Tn C.prog C.w) (F.A.mark (some (.ref e))) (execs [hd] F.menv) Q E ⟨h'',C.g,C.d,t'',C.os⟩):
  Tb (Tn C.prog C.w) F.A (handleBy (.ref e) F.menv [.ExceptHandler (some tt) none [hd] hpos]) Q E ⟨h',C.g,C.d,t,C.os⟩:=by
 have hX:=hk.cls;have eq:∀{l:Nat}{U:String},jQ l U->SS k l=true->cls=U:=λhl hb=>by cases cg.mp hb;exact hk.uniq hl
 cases hx with
 |@one T1 k1 pos h1 hkd=>
  have hc:=eq h1 (by simpa using hit);refine om hX h1.cls ?_;intro b hb hbt;have:b=true:=hbt hc;subst this;refine wpAny_handleBy_builtin (gV h1.cls).1 (gV h1.cls).2 hb (ik (F:=F) O keep h1 hkd ⟨rfl,T.typeIs,?_⟩);rw[if_pos rfl];exact oh N T λh'' N'=>q h'' _ _ N'
 |@two T1 T2 k1 k2 n p1 p2 pos h1 h2 hk1 hk2=>
  refine om hX h1.cls ?_;intro b1 hb1 hbt1;refine om hX h2.cls ?_;intro b2 hb2 hbt2;have hor:(b1||b2)=true:=by
   have hit:(SS k k1||(SS k k2||false))=true:=hit;rcases WU _ _|>.mp hit with z|z
   ·rw[hbt1 (eq h1 z)];rfl
   ·rw[Bool.or_false]at z;rw[hbt2 (eq h2 z),Bool.or_true]
  refine wpAny_handleBy_tup2 (gV h1.cls).1 (gV h1.cls).2 (gV h2.cls).1 (gV h2.cls).2 hb1 hb2 ?_;refine wpAny_Tuple (wpAny_items_cons (ik (F:=F) O keep h1 hk1 (wpAny_items_cons (ik (F:=F) O keep h2 hk2 (wpAny_items_nil ⟨by show 2≤_;refine rwr VM ?_;decide,?_⟩)) rfl)) rfl);refine⟨_,rfl,IsTup.new _ _,(T.push _).typeIs,?_⟩;refine rwr (if_pos hor) ?_;exact oh (N.keep λb o z=>TX _ z) (T.push _) λh'' N'=>q h'' _ _ N'
theorem CF{b hd:W8}{tt:SQ}{ks:List Nat}{hpos pos:Pos}{p:PX}{yb yh:Y}(lo:Γ.loud=true)(st:Γ.st=true)(hz:EP C Γ b p)(hb:du C Γ b yb)(hc:jR Γ tt ks)(hh:du C {Γ with loud:=false} hd yh):
  du C Γ (.Try [b] [.ExceptHandler (some tt) none [hd] hpos] [] [] pos) (yN p ks yb yh):=λF P fr k en Q E er h K=>by
 refine wpAny_Try_except (Wg ?_);rcases hz F P en _ _ er h with h|zq
 ·refine hb F P fr k en _ _ er h λP1 fl L f=>?_;cases fl with
  |next=>exact wpAny_execs_nil (wpAny_execs_nil (K P1 .next L f))
  |_=>exact K P1 _ L f
 ·refine ag zq ?_;clear zq;intro x h Z;refine dI h ?_;clear h;intro hit h;refine Z _ _ λP1 h1 t1 e cls e1 L1 hk N=>?_;refine aH N.there ?_;intro ob tv he hcls hd';have de:=N.new;have er2:ER F (P1.more N.keeps t1).R en:=(er.later L1).later (.keeps _ N.keeps);have fe:cO C (P1.more N.keeps t1).R e:=cO.fresh P1.good de he (λxs n z=>by rw[hd']at z;exact Ta z) (λvs q t z=>by rw[hd']at z;cases z;exact ne_of_beq_false rfl);have nd:∀o,(P1.more N.keeps t1).R.h.get? e=some o->∀es ep,o.data≠.dict es ep:=λo ho es ep z=>by cases he.symm.trans ho;rw[hd']at z;exact Ta z
  refine AI (P:=P1.more N.keeps t1) st er2 he hcls hd' λh2 N2 T2=>?_;refine rC O (P:=P1.more N.keeps t1) hc hk hit N2 T2 (N2.good (P1.more N.keeps t1).good fe nd).1.keep λh3 t3 E3 N3=>?_;refine ak (N3.good (P1.more N.keeps t1).good fe nd) ?_;intro G3 L3;have er3:ER F ⟨P1.R.ρ,h3,P1.R.fz⟩ en:=er2.one L3 ⟨ob,he,λes ep=>nd ob he es ep,λv z=>by rw[hd']at z;exact Ta z⟩;have L13:au (cJ C F.menv) P.R ⟨P1.R.ρ,h3,P1.R.fz⟩:=((((L1.trans (.keeps C.vol N.keeps)).frame (menv:=F.menv)).mono (Y:=e::cJ C F.menv) λb hb=>T5 _ hb).trans (L3.mono λb hb=>by simp at hb;subst hb;exact SX)).strike λb hb=>(T8.mp hb).elim (λz=>.inr (z▸Pt.dead L1 de)) .inl;have mk:∃F':dP C {Γ with loud:=false},F'.menv=F.menv∧F'.A=F.A.mark (some (.ref e))∧F'.cl=F.cl∧F'.fr=F.fr:=
   ⟨⟨F.menv,F.A.mark (some (.ref e)),F.cl,F.d,F.fr,F.kind,F.kof,F.glob,F.bi,F.lold,F.lvol,F.cell,F.inj,F.cdom,⟨F.room.depth,F.room.units,F.room.frames,F.room.guards⟩,λz=>(by exact aD z),F.top,F.lam,F.call⟩,rfl,rfl,rfl,rfl⟩
  refine d9 mk ?_;clear mk;intro F' f1 f2 f3 f4;have back:∀{R en},ER F' R en->ER F R en:=λ{R en} r=>⟨by refine rwl f1 ?_;exact r.ns,by refine rwl f1 ?_;exact r.lown,by refine rwl f1 ?_;exact r.cells,by refine rwl f4 ?_;exact r.fr⟩
  have er4:ER F' ⟨P1.R.ρ,h3,P1.R.fz⟩ en:=⟨by refine rwr f1 ?_;exact er3.ns,by refine rwr f1 ?_;exact er3.lown,by refine rwr f1 ?_;exact er3.cells,by refine rwr f4 ?_;exact er3.fr⟩
  refine Wg ?_;have key:=hh F' ⟨_,P1.m,t3,G3⟩ fr k en (λfl s=>match fl with|.next=>Tb (Tn C.prog C.w) (F.A.mark (some (.ref e))) (execs [] F.menv) Q E3 s|f=>Q f s) E3 er4 (by refine rwr f3 (rwr e1 ?_);exact h) λP5 fl L5 hf=>?_
  ·rw[f1,f2]at key;exact key
  ·rw[f1]at L5;have hf:ND F fr k P5 fl:=by
    cases fl with
    |ret v=>exact hf
    |_=>refine ag hf ?_;clear hf;intro en5 a b;exact⟨en5,back a,b⟩
   have:=K P5 fl (L13.trans L5) hf;cases fl with
   |next=>exact wpAny_execs_nil this
   |_=>exact this
end
end
end
section
set_option compiler.extract_closed false
section
open PySem PySem.W PyProof.Rows
section
variable{C:Cx}{Γ:d6}
section
variable{α β:Type}
def cu(b:Bool)(t:b=true->α)(z:α):α:=@Ue (λb=>(b=true->α)->α) (λzz=>z) (λt=>t rfl) b t
def eH(o:Option β)(t:∀x,o=some x->α)(z:α):α:=@Vd β (λo=>(∀x,o=some x->α)->α) (λzz=>z) (λx t=>t x rfl) o t
end
abbrev RX(C:Cx)(Γ:d6)(e:SQ):={x:X // bv C Γ e x}
abbrev RC(C:Cx)(Γ:d6)(e:SQ):={c:Cn // fW C Γ e c}
abbrev RL(C:Cx)(Γ:d6)(es:List SQ):=Option {x:X // kK C Γ es x∧d8 es=true}
abbrev FX(C:Cx):=∀Γ e,RX C Γ e
abbrev FC(C:Cx):=∀Γ e,RC C Γ e
noncomputable def bX{e:SQ}:RX C Γ e:=⟨xq,D2⟩
noncomputable def bC{e:SQ}:RC C Γ e:=⟨MW,A7⟩
noncomputable def lg:Option V0->Bool
 |some .globalImplicit=>true
 |_=>false
theorem fg{k:Option V0}(h:lg k=true):k=some .globalImplicit:=by
 cases k with
 |none=>exact aD h
 |some k=>cases k<;>first|rfl|exact aD h
noncomputable def gk:Option V0->Bool
 |some .local=>true
 |_=>false
theorem ff{k:Option V0}(h:gk k=true):k=some .local:=by
 cases k with
 |none=>exact aD h
 |some k=>cases k<;>first|rfl|exact aD h
theorem bc{b:Bool}(h:(!b)=true):b=false:=by cases b<;>first|rfl|exact aD h
noncomputable def gC(s:Str):Bool:=s==("__debug__":Str)
section
variable{P₀:Pg}(O:C.Ok P₀)
include O
theorem A4{a:SQ}{x:X}{nm:Str}{c:Nat}{p p':Pos}(hg:P₀.gl nm=some (.con (.str c)))(hk:Γ.kd nm=some .globalImplicit)(hd:gC nm=false)(hx:bv C Γ a x):fW C Γ (.Compare a [.In] [.Name nm p'] p) (u9 ((oE c).map λx=>gW [x]) x):=λF P en t f Q E R h K=>by
 refine ag (O.con nm _ hg) ?_;intro val r ld;refine aH (r ⟨λzz=>none,C.h₀,λzz=>False⟩) ?_;rintro s t' rfl rfl ok;rw[fF ok]at h;refine Vr (hx F P en _ _ E R h λP1 u v L r h1=>eE ld hk hd ?_) rfl;show Tb _ _ (do return W6 (←contains _ v)) _ _ _;exact SO (rB (F:=F) (P:=P1) ok r h1 λP2 b L2 q=>SR (Un (K P2 b (L.trans L2) q)))
theorem CU{a:SQ}{x:X}{nm:Str}{c:Nat}{p p':Pos}(hg:P₀.gl nm=some (.con (.str c)))(hk:Γ.kd nm=some .globalImplicit)(hd:gC nm=false)(hx:bv C Γ a x):bv C Γ (.Compare a [.In] [.Name nm p'] p) (fj (u9 ((oE c).map λx=>gW [x]) x)):=λF P en k Q E R h K=>by
 refine ag (O.con nm _ hg) ?_;intro val r ld;refine aH (r ⟨λzz=>none,C.h₀,λzz=>False⟩) ?_;rintro s t' rfl rfl ok;rw[fF ok]at h;refine wpAny_Compare1 (hx F P en _ _ E R h λP1 u v L r h1=>eE ld hk hd ?_) rfl;show Tb _ _ (do return W6 (←contains _ v)) _ _ _;exact SO (rB (F:=F) (P:=P1) (Q:=λb s=>Tb (Tn C.prog C.w) F.A (pure (W6 b)) Q E s) ok r h1 λP2 b L2 q=>SR (K P2 (.bool b) (.bool b) (L.trans L2) .bool_ (by cases b<;>exact q)))
def J6(c:PySem.Const)(n:Nat)(p:Pos):RX C Γ (.Constant c n p):=match c with
 |.none=>⟨af .none,zA⟩
 |.bool b=>⟨af (.bool b),zU⟩
 |.int (.ofNat i)=>⟨af (.nat i),i4⟩
 |.int (.negSucc i)=>⟨af (.neg i),CP⟩
 |.str s=>cu (Fj s) (λh=>⟨af (.str (iI s)),CI h⟩) bX
 |_=>bX
def J0(s:Str)(p:Pos):RX C Γ (.Name s p):=eH (Γ.slot s) (λq hs=>cu (!gC s) (λh1=>cu (!(s==("__classdict__":Str))) (λh2=>⟨ae q,mn hs (bc h1) (bc h2)⟩) bX) bX) bX
def Md(s:Str)(p:Pos):RX C Γ (.Name s p):=cu (lg (Γ.kd s)) (λhk=>cu (!gC s) (λhd=>eH (P₀.gl s) (λg hg=>(match(motive:=∀g,P₀.gl s=some g->RX C Γ (.Name s p)) g,hg with
 |.con v,hg=>⟨af v,w8 O hg (fg hk) (bc hd)⟩
 |_,_=>bX)) bX) bX) (J0 s p)
def Mi{o:SQ}(a:Str)(p:Pos)(r:RX C Γ o):RX C Γ (.Attribute o a p):=eH (C.sl a) (λq hs=>cu (!aN o) (λho=>eH (P₀.df a) (λcv hd=>⟨ur q cv.1 cv.2 r.1,xG O hs hd (bc ho) r.2⟩) ⟨ai q r.1,sE O hs (bc ho) r.2⟩) bX) bX
def On{o:SQ}(L:FX C)(r rf:RX C Γ o)(i:SQ)(p:Pos):RX C Γ (.Subscript o i p):=match i with
 |.Slice none none none _=>⟨yS r.1,zR r.2⟩
 |.Slice (some a) none none _=>⟨rY r.1 (L Γ a).1,zJ r.2 (L Γ a).2⟩
 |.Slice none (some a) none _=>⟨yw r.1 (L Γ a).1,GI r.2 (L Γ a).2⟩
 |i=>cu (!gB i) (λh=>⟨av rf.1 (L Γ i).1,CH O rf.2 (L Γ i).2 (bc h)⟩) bX
omit O in
def nW(L:∀e,RX C Γ e):∀es,RL C Γ es:=@V2 _ (λes=>RL C Γ es) (some ⟨aj,c9,rfl⟩) (λe es ih=>eH ih (λr Z=>cu (!bx e) (λh=>some ⟨ad (L e).1 r.1,c8 (bc h) (L e).2 r.2.1,by unfold d8 at*;refine rwr List.all_cons (rwr h ?_);exact r.2.2⟩) none) none)
def J8{a b:SQ}(op:WZ)(p:Pos)(x:RX C Γ a)(y:RX C Γ b):RX C Γ (.BinOp a op b p):=match op with
 |.Add=>⟨_,fD rL x.2 y.2⟩
 |.Sub=>⟨_,fD xk x.2 y.2⟩
 |.Mult=>⟨_,fD EG x.2 y.2⟩
 |.Mod=>⟨_,fD xl x.2 y.2⟩
 |.FloorDiv=>⟨_,fD BP x.2 y.2⟩
 |.Pow=>⟨_,fD EF x.2 y.2⟩
 |_=>bX
def MP(op:CmpOp):{k:KV->K0->K0->KT // jc C op k} ⊕' Unit:=match op with
 |.Eq=>.inl ⟨eI,Ke O⟩
 |.NotEq=>.inl ⟨pj,K5 O⟩
 |.Lt=>.inl ⟨my,K6 O⟩
 |.Gt=>.inl ⟨rP,Ka O⟩
 |.LtE=>.inl ⟨Q3,K7 O⟩
 |.GtE=>.inl ⟨Mn,Kc O⟩
 |.In=>.inl ⟨jU,K9 O⟩
 |.NotIn=>.inl ⟨kQ,K4 O⟩
 |_=>.inr ()
def AO{a b:SQ}(op:CmpOp)(p:Pos)(x:RX C Γ a)(y:RX C Γ b):RC C Γ (.Compare a [op] [b] p):=match MP O op with
 |.inl k=>cu (!behindInMarks op b) (λh=>⟨aA k.1 x.1 y.1,A6 k.2 x.2 y.2 (bc h)⟩) bC
 |.inr _=>bC
def AN{a b:SQ}(op:CmpOp)(p:Pos)(x:RX C Γ a)(y:RX C Γ b):RX C Γ (.Compare a [op] [b] p):=match MP O op with
 |.inl k=>cu (!behindInMarks op b) (λh=>⟨fj (aA k.1 x.1 y.1),CZ k.2 x.2 y.2 (bc h)⟩) bX
 |.inr _=>bX
def Os{a b:SQ}(p:Pos)(x:RX C Γ a)(y:RX C Γ b):RX C Γ (.Compare a [.In] [b] p):=match(motive:=∀b,RX C Γ b->RX C Γ (.Compare a [.In] [b] p)) b,y with
 |.Name nm p',y=>cu (lg (Γ.kd nm)) (λhk=>cu (!gC nm) (λhd=>eH (P₀.gl nm) (λg hg=>(match(motive:=∀g,P₀.gl nm=some g->RX C Γ (.Compare a [.In] [.Name nm p'] p)) g,hg with
  |.con (.str c),hg=>⟨fj (u9 ((oE c).map λx=>gW [x]) x.1),CU O hg (fg hk) (bc hd) x.2⟩
  |_,_=>bX)) bX) bX) (AN O .In p x y)
 |_,y=>AN O .In p x y
def Rd{a b:SQ}(p:Pos)(x:RX C Γ a)(y:RX C Γ b):RC C Γ (.Compare a [.In] [b] p):=match(motive:=∀b,RX C Γ b->RC C Γ (.Compare a [.In] [b] p)) b,y with
 |.Constant (.str s) n p',_=>cu (Fj s) (λh=>⟨u9 (s.cps.toList.map λx=>gW [x]) x.1,A3 h x.2⟩) bC
 |.Name nm p',y=>cu (lg (Γ.kd nm)) (λhk=>cu (!gC nm) (λhd=>eH (P₀.gl nm) (λg hg=>(match(motive:=∀g,P₀.gl nm=some g->RC C Γ (.Compare a [.In] [.Name nm p'] p)) g,hg with
  |.con (.str c),hg=>⟨u9 ((oE c).map λx=>gW [x]) x.1,A4 O hg (fg hk) (bc hd) x.2⟩
  |_,_=>bC)) bC) bC) (AO O .In p x y)
 |_,y=>AO O .In p x y
def Rc{a b:SQ}(p:Pos)(x:RX C Γ a):RC C Γ (.Compare a [.Is] [b] p):=match b with
 |.Constant .none n p'=>⟨iF x.1,K8 x.2⟩
 |_=>bC
def Oq{a b:SQ}(p:Pos)(x:RX C Γ a):RC C Γ (.Compare a [.IsNot] [b] p):=match b with
 |.Constant .none n p'=>⟨yj x.1,yf x.2⟩
 |_=>bC
def Ox{a b:SQ}(op:CmpOp)(p:Pos)(x:RX C Γ a)(y:RX C Γ b):RC C Γ (.Compare a [op] [b] p):=match op with
 |.Is=>Rc p x
 |.IsNot=>Oq p x
 |.In=>Rd O p x y
 |op=>AO O op p x y
omit O in
def Oz(op:BoolOp)(M:∀e,RC C Γ e):∀es,Option {c:Cn // rM C Γ op es c}:=@V2 _ (λes=>Option {c:Cn // rM C Γ op es c}) none λe es ih=>match op,es,ih with
 |.And,[],_=>some ⟨(M e).1,xN (M e).2⟩
 |.Or,[],_=>some ⟨(M e).1,A9 (M e).2⟩
 |.And,_,some r=>some ⟨iq (M e).1 r.1,Aa (M e).2 r.2⟩
 |.Or,_,some r=>some ⟨rJ (M e).1 r.1,Db (M e).2 r.2⟩
 |_,_,none=>none
def mC(L:FX C)(M:FC C):FC C:=λΓ e=>match e with
 |.UnaryOp .Not a _=>⟨fQ (M Γ a).1,A2 (M Γ a).2⟩
 |.BoolOp op es _=>eH (Oz op (M Γ) es) (λr Z=>⟨r.1,Dc r.2⟩) bC
 |.IfExp d a b _=>⟨MV (M Γ d).1 (M Γ a).1 (M Γ b).1,A5 (M Γ d).2 (M Γ a).2 (M Γ b).2⟩
 |.Compare a [op] [b] p=>Ox O op p (L Γ a) (L Γ b)
 |e=>cu (Bx e) (λh=>⟨cT (L Γ e).1,GO O (L Γ e).2 h⟩) bC
end
end
end
end
section
set_option compiler.extract_closed false
section
open PySem PySem.W PyProof.Rows
variable{C:Cx}{Γ:d6}{R R':Wd}
theorem bP.weak{μ μ':KS}(G:bP C R μ)(hn:μ'.n=μ.n)(h:∀q,tg q μ'.h=tg q μ.h∨∃o o',tg q μ.h=some o∧tg q μ'.h=some o'∧∀p,eX C R o p->eX C R o' p):bP C R μ':=
 G.step (.refl _ _) rfl rfl hn (λq=>by
  rcases h q with e|zq
  ·exact rwr e rfl
  ·refine aH zq ?_;clear zq;intro o o' e1 e2 _;refine rwr e1 (rwr e2 ?_);rfl) (λq p hp=>by
  refine ag (G.dom q p hp) ?_;intro o e r;rcases h q with e'|zq
  ·exact⟨o,e'.trans e,r⟩
  ·refine aH zq ?_;clear zq;intro o1 o' e1 e2 f;cases Ti (e.symm.trans e1);exact⟨o',e2,f p r⟩) G.keep (λZ Z=>rfl) λZ Z=>rfl
noncomputable def Bc:List (SU×SU)->List SU
 |[]=>[]
 |(k,v)::r=>k::v::Bc r
def yn(C:Cx)(Γ:d6)(ks:List (Option SQ))(vs:List SQ)(x:X):Prop:=∀(F:dP C Γ)(P:Pt C)(en:En)(k:KT)(pos:Pos)(Q:List (SU×SU)->SW->Prop)(E:SU->SW->Prop),
 ER F P.R en->x F.cl en k P.m=true->(∀(P':Pt C)(u:KV)(ps:List (SU×SU)),au C.vol P.R P'.R->bG C P'.R u (Bc ps)->k P'.m u=true->Q ps P'.s)->Tb (Tn C.prog C.w) F.A (evalPairs (pairTrees ks vs F.menv pos)) Q E P.s
theorem A0:yn C Γ [] [] aj:=λF P en k pos Q E R h K=>pairTrees_nil_walk (K P .nil [] (.refl _ _) rfl h)
theorem xL{a b:SQ}{ks:List (Option SQ)}{vs:List SQ}{x y r:X}(hx:bv C Γ a x)(hy:bv C Γ b y)(hr:yn C Γ ks vs r):yn C Γ (some a::ks) (b::vs) (ad x (ad y r)):=λF P en k pos Q E R h K=>
 pairTrees_cons_walk (hx F P en _ _ E R h λP1 u v L1 r1 h1=>hy F P1 en _ _ E (R.later L1) h1 λP2 w z L2 r2 h2=>hr F P2 en _ pos _ E (R.later (L1.trans L2)) h2 λP3 us ps L3 r3 h3=>
  K P3 _ _ ((L1.trans L2).trans L3) (.cons_ (r1.later (L2.trans L3)) (.cons_ (r2.later L3) r3)) h3)
theorem pE{A:U6}{E:SU->SW->Prop}(hA:A.units+6<cLine){q:Pa}{p:iK}{K:Nat->KD->Bool}{s0:KS}:∀(ps:List (SU×SU))(u:KV)(n:Nat)(d:KD)(P:Pt C)(Q:PUnit->SW->Prop),n+ps.length≤100000->P.R.ρ q=some p->oW C P.R n d p->P.m.n=s0.n->(∀x,x≠q->tg x P.m.h=tg x s0.h)->tg q P.m.h=some (.dict n d)->bG C P.R u (Bc ps)->Bw u none n d K=true->
  (∀(P':Pt C)(n:Nat)(d:KD),(∀X,au X P.R P'.R)->P'.m=bV s0 q (.dict n d)->K n d=true->Q PUnit.unit P'.s)->Tb (Tn C.prog C.w) A (storeAll p.fst ps) Q E P.s
 |[],u,n,d,P,Q,hl,hp,hr,hn,ho,hm,ru,h,hq=>by
  cases u with
  |nil=>exact SR (hq ⟨P.R,bV s0 q (.dict n d),P.t,P.good.weak hn.symm λx=>.inl (by
    by_cases z:x=q
    ·subst z;exact(aW _ _ _).trans hm.symm
    ·exact(am _ z).trans (ho x z).symm)⟩ n d (λzz=>.refl _ _) rfl h)
  |cons x r=>refine aH ru ?_;rintro _ _ e- -;contradiction
  |_=>exact ru.elim
 |(k,v)::ps,u,n,d,P,Q,hl,hp,hr,hn,ho,hm,ru,h,hq=>by
  cases u with
  |cons x r=>
   refine aH ru ?_;intro _ _ e r1 r2;injection e with e1 e2;subst e1 e2;cases r with
   |cons y r=>
    refine aH r2 ?_;intro _ _ e r3 r4;injection e with e1 e2;subst e1 e2;have h:az (pk x) false (cC d x (Bw r none (n+1) (dset d x y) K) λzz=>Bw r none n (dset d x y) K)=true:=h;refine dI h ?_;intro h1 h;unfold storeAll;rw[List.forIn_cons];have hl2:n+(ps.length+1)≤100000:=hl;refine SO (SO (oy hA hp hr r1 r3 h1 rfl (by split<;>lia) λP' L e=>SR ?_));have key:Bw r none (if(dl d x).isSome then n else n+1) (dset d x y) K=true:=by
     unfold cC at h;cases hd:dl d x with
     |none=>rw[hd]at h;exact h
     |some z=>rw[hd]at h;exact h
    have hp':=(L []).ref q p hp;refine ag (P'.good.dom q p hp') ?_;intro o e' ro;rw[e]at e';cases Ti (e'.symm.trans (aW _ _ _));exact pE hA ps r _ _ P' Q (by split<;>lia) hp' ro (by refine rwr e ?_;exact hn) (λx z=>by refine rwr e ?_;exact(am _ z).trans (ho x z)) (by refine rwr e ?_;exact aW _ _ _) (bG.later r4 (L [])) key λP2 n2 d2 L2=>hq P2 n2 d2 λX=>(L X).trans (L2 X)
   |nil=>contradiction
   |_=>exact r2.elim
  |nil=>contradiction
  |_=>exact ru.elim
theorem zL{ks:List (Option SQ)}{vs:List SQ}{x:X}{p:Pos}(hx:yn C Γ ks vs x)(h1:ks.all (·.isSome)=true)(h2:ks.length=vs.length)(h0:ks≠[])(h3:ks.length≤15):bv C Γ (.Dict ks vs p) (s8 x):=λF P en k Q E R h K=>by
 refine wpAny_Dict_any h1 h2 h0 h3 ?_;have G:=P.good.new0 (h':=P.R.h.push {cls:=.type "dict",data:=.dict #[]}) (o:=.dict 0 .nil) (aE _ _) (aV _) (aV _) (λL=>⟨rfl,_,#[],0,T9 _ rfl,⟨rfl,rfl,rfl⟩,rfl,⟨rfl,λi e kv h=>by trivial⟩,Vt,rfl,TQ _,rfl⟩);refine bf G ?_;intro G L r;have hn:=pairTrees_length ks vs F.menv p h1 h2;refine UJ (wpAny_evalPairs_len (hx F ⟨_,_,P.t,G⟩ en _ p (λps s=>ps.length≤15->Tb (Tn C.prog C.w) F.A (storeAll P.R.h.objs.size ps) (λZ s₂=>Q (.ref P.R.h.objs.size) s₂) E s) E (R.later (L _)) h λP1 u ps L1 ru h1 hl=>?_)) (λps s₁ q=>q.2 (by refine rwr q.1 (rwr hn ?_);exact h3)) λZ Z e=>e;refine ag (VR.later r L1) ?_;intro pe hp e;injection e with e;have hp0:pe.fst=P.R.h.objs.size:=e.symm;refine aF h1 hp ?_;intro o eo ro h1;refine gj h1 ?_;rintro n0 d0 h1 rfl;refine dI h1 ?_;intro hn0 h1;have hn0:=SP hn0;refine rwl hp0 ?_;exact pE (by have:=F.units;lia) ps u n0 d0 P1 _ (by lia) hp ro rfl (λZ Z=>rfl) eo ru h1 λP' n d L' e q=>by
  refine rwr hp0 ?_;exact K P' _ _ ((L _).trans (L1.trans (L' _))) (VR.later (VR.later r L1) (L' [])) (by refine rwr e ?_;exact q)
theorem BD{f:Nat->Bool}{m n:Nat}(hf:∀k,k<n->f k=decide (m≤k))(l:List SU):∀i:Nat,i+l.length≤n->(l.zipIdx i).filterMap (λp:SU×Nat=>if f p.2=true then none else some p.1)=l.take (m-i):=by
 induction l with
 |nil=>exact λi Z=>List.take_nil.symm
 |cons x r ih=>
  intro i h;have h:i+(r.length+1)≤n:=h;rw[List.zipIdx_cons,List.filterMap_cons,ih (i+1) (by rw[UM,UY 1];exact h)];have hi:=hf i (UW (Nat.lt_add_of_pos_right (VI _)) h);by_cases z:m≤i
  ·refine rwr (if_pos (hi.trans (decide_eq_true z))) ?_;show r.take (m-(i+1))=(x::r).take (m-i);refine rwr (Nat.sub_eq_zero_of_le z) (rwr (Nat.sub_eq_zero_of_le (Nat.le_succ_of_le z)) ?_);rfl
  ·rw[if_neg (by rw[hi];exact λq=>z (of_decide_eq_true q))];show x::r.take (m-(i+1))=(x::r).take (m-i);refine rwr (show m-i=(m-(i+1))+1 from(Nat.succ_pred (Nat.sub_ne_zero_of_lt (WM z))).symm) ?_;rfl
theorem R7:∀n:Nat,max (0:Int) (min ((-2:Int)+n) n)=((n-2:Nat):Int)
 |0=>rfl
 |1=>rfl
 |n+2=>by
  have e:(-2:Int)+((n+2:Nat):Int)=(n:Int):=Int.subNatNat_of_le (TB 2 n);refine rwr e (rwr (Int.min_eq_left (Int.ofNat_le.mpr (TC n 2))) (rwr (Int.max_eq_right (UG n)) ?_));rfl
theorem By{A:U6}{E:SU->SW->Prop}{s:SW}{l sl:Tw}{vs:Array SU}{c:Nat}{t:Tok}{Q:Unit->SW->Prop}(hl:s.heap.get? l=some (gz vs c))(hs:s.heap.IsSliceOf sl (.int (-2) t) .none .none)(h2:2≤vs.size)(hz:vs.size≤100000)
  (h:∀f:Array SU->Array SU,f vs=(vs.toList.take (vs.size-2)).toArray->Q () {s with heap:=s.heap.update l (Wa f)}):Tb (Tn C.prog C.w) A (delItem (.ref l) (.ref sl)) Q E s:=by
 refine aM (id hs) ?_;intro os hos hcs hds;have hTs:s.TypeIs (.ref sl) "slice":=⟨os,hos,hcs⟩
 have hT:s.TypeIs (.ref l) "list":=⟨_,hl,rfl⟩
 refine wpAny_delItem_slot hT (by decide) F.slot_list_delitem (TJ F.slot_list_delitem hT F.entry_list_delitem ?_ (F.args_list_delitem_2 _ _));show Tb _ _ (VQ (.ref sl)>>=_) _ _ s;refine SO ?_;unfold VQ;refine SO (Uw hTs slice_no_index ?_);simp only[Option.isNone_none,if_true];refine SR ?_;show Tb _ _ (typeOf (.ref sl)>>=_) _ _ s;refine SO (wpAny_typeOf hTs ?_);rw[if_neg (by decide)];rw[listSliceParts_eq];refine SO (SO (UK hos hds (x:=.none) rfl (SO (wpAny_listPart (k:=none) .none ?_))));rw[if_neg (show¬((rawPart none==rawInt 0)=true)from Tq)];refine SO (UK hos hds (x:=.int (-2) t) rfl (SO (wpAny_listPart (k:=some (-2)) (.int ..) ?_)));refine SO (UK hos hds (x:=.none) rfl (SO (wpAny_listPart (k:=none) .none (SR ?_))));refine SO (m:=Builtin.List.listItems (.ref l)) ?_;unfold Builtin.List.listItems;refine SO (WH hl rfl (SR ?_));refine SO (wpAny_of_eq (sliceIndices_raw (some (-2)) none none vs.size (by simp)) ?_);have eb:sliceBounds (some (-2)) none none vs.size=(((vs.size-2:Nat):Int),((vs.size:Nat):Int),1):=by
  show(max 0 (min ((-2:Int)+vs.size) vs.size),((vs.size:Nat):Int),(1:Int))=_;rw[R7]
 rw[eb];refine SO (Va (SO (wpAny_updateSeq hl rfl (SO (wpAny_letGo (SR ⟨_,rfl,h _ ?_⟩))) (SV hz cQ) ?_)))
 ·refine congrArg List.toArray ((BD (n:=vs.size) (λk hk=>?_) vs.toList 0 (by simp)).trans (by rw[Nat.sub_zero]));show(if(1:Int)>0 then decide (((vs.size-2:Nat):Int)≤k)&&decide ((k:Int)<(vs.size:Nat))&&(((k:Int)-((vs.size-2:Nat):Int))%1==0)else _)=_;rw[if_pos (by decide),decide_eq_true (show(k:Int)<(vs.size:Nat) by simp_all+arith),Int.emod_one];simp
 ·refine SV (VZ Vo) (SV (List.length_filterMap_le _ _) ?_);rw[List.length_zipIdx,T4];exact Nat.le_succ_of_le (SV hz cQ)
theorem zM{o:SQ}{y:X}{n:Nat}{p1 p2 p p' pos:Pos}(ho:bv C Γ o y):du C Γ (.Delete [.Subscript o (.Slice (some (.UnaryOp .USub (.Constant (.int (.ofNat 2)) n p1) p2)) none none p') p] pos) (yO y):=λF P fr k en Q E R h K=>by
 classical
 refine wpAny_Delete (wpAny_deleteEach_cons (wpAny_delete_Subscript (ho F P en _ _ E R h λP1 u v L r h1=>WW ?_)));simp only[Wm,WX];refine sD (Γ:=Γ) i4 F P1 en (λs w=>decide (s=P1.m∧w=.neg 1)) _ E (R.later L) (decide_eq_true ⟨rfl,rfl⟩) λP2 w z L2 rw h2=>SR (SR ?_);refine ak (of_decide_eq_true h2) ?_;clear h2;rintro em rfl;refine aw rw ?_;rintro t rfl;refine bw h1 r ?_;clear r;rintro q p hp h1-rfl;rw[←em]at h1;have hp2:=L2.ref q p hp;refine aF h1 hp2 ?_;rintro o'-ro h1;refine cy h1 ro ?_;clear ro;rintro xs vs c hob rs hl he h1 -;refine dI h1 ?_;intro hn h1;have hn:=SP hn;have kp:=aE P2.R.h {cls:=.type "slice",data:=.fields #[.int (-2) t,.none,.none]};refine By (s:=⟨P2.R.h.push {cls:=.type "slice",data:=.fields #[.int (-2) t,.none,.none]},C.g,C.d,P2.t,C.os⟩) (kp _ _ hob) (WD ..) hn hl λf hf=>wpAny_deleteEach_nil ?_;have L3:au C.vol P.R P2.R:=L.trans L2;have hg:=Ua (Wa f) (kp _ _ hob) (by rfl);refine d9 ((P2.more kp P2.t).set_ (o':=.list (Um vs.size 2) (take (Um vs.size 2) xs)) hp2 (.inl rfl) (U0 ..) ⟨_,hg⟩ (λL=>⟨he,(vs.toList.take (vs.size-2)).toArray,_,hg.trans (by refine rwl hf ?_;rfl),by
  refine rwr List.toList_toArray ?_;exact bG.later (bG.later (rs.take_ _) (.keeps [] kp)) L,by simp,SV (WA ..) hl⟩) P2.t) ?_;intro P' e1 e2 e3 L4
 exact e3▸K.next ((L3.trans (.keeps C.vol kp)).trans (L4 _)).frame (R.later ((L3.trans (.keeps C.vol kp)).trans (L4 _))) (by refine rwr e2 ?_;exact h1)
end
end
section
set_option compiler.extract_closed false
section
noncomputable def QW:KV->Bool|.tok _=>false|_=>true
noncomputable def Rp:KV->Bool|.none=>false|_=>true
section
variable{c:Cl}{e e' e'':En}{s s' s'' s3 s4:KS}{x y z:X}{v u w:KV}
def Ev(c:Cl)(x:X)(e:En)(s:KS)(v:KV)(s':KS):Prop:=∀k:KT,k s' v=true->x c e k s=true
def Tc(c:Cl)(d:Cn)(e:En)(s:KS)(b:Bool)(s':KS):Prop:=∀t f:K0,az b (f s') (t s')=true->d c e t f s=true
def St(c:Cl)(y:Y)(e:En)(s:KS)(e':En)(s':KS):Prop:=∀(F:Fr)(k:En->K0),k e' s'=true->y c F k e s=true
def Rt(c:Cl)(y:Y)(e:En)(s:KS)(v:KV)(s':KS):Prop:=∀(F:Fr)(k:En->K0),F.ret s' v=true->y c F k e s=true
def Ca(c:Cl)(q:Pa)(vs:KV)(s:KS)(v:KV)(s':KS):Prop:=∀k:KT,k s' v=true->c q vs k s=true
def Qj(t:Tg)(v:KV)(e e':En):Prop:=∀k:En->Bool,k e'=true->t v e k=true
theorem ay:Ev c (af v) e s v s:=λk h=>h
theorem ah{q:Pa}(h:tg q e=some v):Ev c (ae q) e s v s:=λk hk=>by show ci _ _ _=true;refine rwr h ?_;exact hk
theorem bu:Ev c aj e s .nil s:=λk h=>h
theorem ar{r:X}{vs:KV}(hx:Ev c x e s v s')(hr:Ev c r e s' vs s''):Ev c (ad x r) e s (.cons v vs) s'':=λk h=>hx _ (hr _ h)
theorem kz{n:Nat}{xs:KV}{k:KT}(hn:n≤100000)(h:k (bz s (.list n xs)) (.ref s.n)=true):lO k s n xs=true:=by
 unfold lO;refine rwr (SY hn) ?_;exact h
theorem mG{vs:KV}(hx:Ev c x e s vs s')(hn:len vs≤100000):Ev c (aS x) e s (.ref s'.n) (bz s' (.list (len vs) vs)):=λk h=>hx _ (kz hn h)
theorem bH{q:Pa}{o:KO}{k:KO->Bool}(h:tg q s.h=some o)(hk:k o=true):aZ q s k=true:=by unfold aZ;refine rwr h ?_;exact hk
theorem jk{sl q:Pa}{n:Nat}{fs:T KV}(hx:Ev c x e s (.ref q) s')(hq:tg q s'.h=some (.inst n fs))(hf:tg sl fs=some v):Ev c (ai sl x) e s v s':=λk h=>hx _ (bH hq (by show ci _ _ _=true;refine rwr hf ?_;exact h))
theorem il{i:X}{q:Pa}{n m:Nat}{xs:KV}(hx:Ev c x e s (.ref q) s')(hi:Ev c i e s' (.nat m) s'')(hq:tg q s''.h=some (.list n xs))(hm:ng m xs=some v):Ev c (av x i) e s v s'':=λk h=>
 hx _ (hi _ (bH hq (by show ci (ng m xs) _ _=true;refine rwr hm ?_;exact h)))
theorem Bg{i:X}{q:Pa}{n m:Nat}{xs:KV}(hx:Ev c x e s (.ref q) s')(hi:Ev c i e s' (.neg m) s'')(hq:tg q s''.h=some (.list n xs))(hl:m+1≤n)(hm:ng (n-(m+1)) xs=some v):Ev c (av x i) e s v s'':=λk h=>
 hx _ (hi _ (bH hq (by show az (T3 (m+1) n) _ (ci (ng (n-(m+1)) xs) _ _)=true;refine rwr (SY hl) (rwr hm ?_);exact h)))
theorem mE{i:X}{m:Nat}{a r:KV}(hx:Ev c x e s (.cons a r) s')(hi:Ev c i e s' (.nat m) s'')(hm:ng m (.cons a r)=some v):Ev c (av x i) e s v s'':=λk h=>
 hx _ (hi _ (by show ci (ng m (.cons a r)) _ _=true;refine rwr hm ?_;exact h))
theorem dA{i:X}{q:Pa}{n:Nat}{es:KD}{a:KV}(hx:Ev c x e s (.ref q) s')(hi:Ev c i e s' a s'')(hq:tg q s''.h=some (.dict n es))(hp:pk a=true)(hm:dl es a=some v):Ev c (av x i) e s v s'':=λk h=>
 hx _ (hi _ (bH hq (by show OI _ a es=true;unfold OI cC;refine rwr hp (rwr hm ?_);exact h)))
theorem gI{a b:Nat}(hx:Ev c x e s (.nat a) s')(hy:Ev c y e s' (.nat b) s''):Ev c (bj cI x y) e s (.nat (a+b)) s'':=λk h=>hx _ (hy _ h)
theorem JG{a b:Nat}(hx:Ev c x e s (.nat a) s')(hy:Ev c y e s' (.nat b) s'')(hl:a≤1000000):Ev c (bj Jn x y) e s (.nat (a*b)) s'':=λk h=>hx _ (hy _ (by show az (T3 a 1000000) _ _=true;refine rwr (SY hl) ?_;exact h))
theorem vh{a b:Nat}(hx:Ev c x e s (.nat a) s')(hy:Ev c y e s' (.nat b) s'')(hl:b≤a):Ev c (bj lP x y) e s (.nat (a-b)) s'':=λk h=>hx _ (hy _ (by show az (T3 b a) _ _=true;refine rwr (SY hl) ?_;exact h))
theorem lu{a b:Nat}(hx:Ev c x e s (.nat a) s')(hy:Ev c y e s' (.nat (b+1)) s''):Ev c (bj gS x y) e s (.nat (a%(b+1))) s'':=λk h=>hx _ (hy _ h)
theorem tQ{a b:Nat}(hx:Ev c x e s (.nat a) s')(hy:Ev c y e s' (.nat (b+1)) s'')(hl:b+1≤1000000):Ev c (bj Jq x y) e s (.nat (a/(b+1))) s'':=λk h=>hx _ (hy _ (by show az (T3 (b+1) 1000000) _ _=true;refine rwr (SY hl) ?_;exact h))
theorem JJ{p q:Pa}{n m:Nat}{xs ys:KV}(hx:Ev c x e s (.ref p) s')(hy:Ev c y e s' (.ref q) s'')(hp:tg p s''.h=some (.list n xs))(hq:tg q s''.h=some (.list m ys))(hn:n+m≤100000):Ev c (bj cI x y) e s (.ref s''.n) (bz s'' (.list (n+m) (app xs ys))):=λk h=>
 hx _ (hy _ (bH hp (bH hq (kz hn h))))
theorem kD{d:Cn}{b:Bool}(hd:Tc c d e s b s'):Ev c (fj d) e s (.bool b) s':=λk h=>hd _ _ (by cases b<;>exact h)
theorem rE{d:Cn}(hd:Tc c d e s true s')(hx:Ev c x e s' v s''):Ev c (iL d x y) e s v s'':=λk h=>hd _ _ (hx _ h)
theorem vk{d:Cn}(hd:Tc c d e s false s')(hy:Ev c y e s' v s''):Ev c (iL d x y) e s v s'':=λk h=>hd _ _ (hy _ h)
theorem gD{q:Pa}{vs:KV}(hx:Ev c x e s vs s')(hc:Ca c q vs s' v s''):Ev c (b8 q x) e s v s'':=λk h=>hx _ (hc _ h)
theorem fE{q:Pa}{n c0:Nat}{p:Pa}{xs:KV}(hx:Ev c x e s (.ref q) s')(hq:tg q s'.h=some (.list n xs)):Ev c (cW c0 p x) e s (.nat n) s':=λk h=>hx _ (bH hq h)
theorem JD{i:X}{q:Pa}{n m:Nat}{xs:KV}(hx:Ev c x e s (.ref q) s')(hi:Ev c i e s' (.nat m) s'')(hq:tg q s''.h=some (.list n xs))(hn:n≤100000):Ev c (yw x i) e s (.ref s''.n) (bz s'' (.list (min m n) (take m xs))):=λk h=>hx _ (hi _ (bH hq (by
 have:(@Ue (λzz=>Nat) n m (T3 m n))=min m n:=by
  cases hb:T3 m n with
  |true=>exact(V4 (SP hb)).symm
  |false=>exact(Vh (Nat.le_of_not_le λz=>by rw[SY z]at hb;exact qd hb)).symm
 show lO k s'' (@Ue (λzz=>Nat) n m (T3 m n)) (take m xs)=true;refine rwr this ?_;exact kz (by lia) h)))
theorem JK{q:Pa}{n n':Nat}{xs xs':KV}(ho:Ev c x e s (.ref q) s')(h0:tg q s'.h=some (.list n' xs'))(hx:Ev c y e s' w s'')(hq:tg q s''.h=some (.list n xs))(hn:n+1≤100000):Ev c (dy x y) e s .none (bV s'' q (.list (n+1) (app xs (.cons w .nil)))):=λk h=>
 ho _ (bH h0 (hx _ (bH hq (by show az (T3 (n+1) 100000) _ _=true;refine rwr (SY hn) ?_;exact h))))
theorem Ec{q:Pa}{n:Nat}{r:KV}(ho:Ev c x e s (.ref q) s')(hq:tg q s'.h=some (.list n (.cons v r))):Ev c (rW x) e s v (bV s' q (.list (n-1) r)):=λk h=>ho _ (bH hq h)
theorem Gz{b:Bool}(hx:Ev c x e s v s')(ht:∀t f:K0,az b (f s') (t s')=true->KQ t f s' v=true):Tc c (cT x) e s b s':=λt f q=>hx _ (ht t f q)
theorem Cy{q:Pa}{n:Nat}{xs:KV}(hq:tg q s.h=some (.list n xs))(t f:K0)(h:az (!SS n 0) (f s) (t s)=true):KQ t f s (.ref q)=true:=by
 show aZ q s (PL t f s)=true;refine bH hq ?_;show az (SS n 0) _ _=true;cases hb:SS n 0<;>rw[hb]at h<;>exact h
theorem je{a d:Cn}{b:Bool}(h:Tc c a e s true s')(k:Tc c d e s' b s''):Tc c (iq a d) e s b s'':=λt f q=>h _ _ (k _ _ q)
theorem i0{a d:Cn}(h:Tc c a e s false s'):Tc c (iq a d) e s false s':=λt f q=>h _ _ q
theorem uy{a d:Cn}{b:Bool}(h:Tc c a e s false s')(k:Tc c d e s' b s''):Tc c (rJ a d) e s b s'':=λt f q=>h _ _ (k _ _ q)
theorem kU(hx:Ev c x e s v s')(hv:QW v=true):Tc c (iF x) e s (!Rp v) s':=λt f q=>hx _ (by cases v<;>first|exact q|exact aD hv)
theorem hU{a b:Nat}(hx:Ev c x e s (.nat a) s')(hy:Ev c y e s' (.nat b) s''):Tc c (aA eI x y) e s (SS a b) s'':=λt f q=>hx _ (hy _ q)
theorem zd{a b:Nat}(hx:Ev c x e s (.nat a) s')(hy:Ev c y e s' (.nat b) s''):Tc c (aA rP x y) e s (T3 (b+1) a) s'':=λt f q=>hx _ (hy _ q)
theorem jG(hx:Ev c x e s v s')(hy:Ev c y e s' w s'')(hv:pk v=true)(hw:pk w=true):Tc c (aA eI x y) e s (cM v w) s'':=λt f q=>hx _ (hy _ (by
 have:Cd v w t f s''=true:=by unfold Cd;refine rwr hv (rwr hw ?_);exact q
 cases v<;>first|exact this|(exact aD hv)))
theorem zc(hx:Ev c x e s v s')(hy:Ev c y e s' w s'')(hv:pk v=true)(hw:pk w=true):Tc c (aA pj x y) e s (!cM v w) s'':=λt f q=>jG hx hy hv hw f t (by cases h:cM v w<;>rw[h]at q<;>exact q)
theorem bY:St c ab e s e s:=λF k h=>h
theorem bl{a b:Y}(ha:St c a e s e' s')(hb:St c b e' s' e'' s''):St c (ac a b) e s e'' s'':=λF k h=>ha _ _ (hb _ _ h)
theorem bp{a b:Y}(ha:St c a e s e' s')(hb:Rt c b e' s' v s''):Rt c (ac a b) e s v s'':=λF k h=>ha _ _ (hb _ _ h)
theorem bW{a b:Y}(ha:Rt c a e s v s'):Rt c (ac a b) e s v s':=λF k h=>ha F _ h
theorem CC(hx:Ev c x e s v s'):St c (aX x) e s e s':=λF k h=>hx _ h
theorem bg{q:Pa}(hx:Ev c x e s v s'):St c (ao (t1 q) x) e s (tp q v e) s':=λF k h=>hx _ h
theorem gv{t:Tg}(hx:Ev c x e s v s')(ht:Qj t v e e'):St c (ao t x) e s e' s':=λF k h=>hx _ (ht (λe=>k e s') h)
theorem eA(hx:Ev c x e s v s'):Rt c (bL x) e s v s':=λF k h=>hx _ h
theorem eL{d:Cn}{a b:Y}(hd:Tc c d e s true s')(ha:St c a e s' e' s''):St c (bE d a b) e s e' s'':=λF k h=>hd _ _ (ha _ _ h)
theorem bN{d:Cn}{a b:Y}(hd:Tc c d e s false s')(hb:St c b e s' e' s''):St c (bE d a b) e s e' s'':=λF k h=>hd _ _ (hb _ _ h)
theorem fO{d:Cn}{a b:Y}(hd:Tc c d e s true s')(ha:Rt c a e s' v s''):Rt c (bE d a b) e s v s'':=λF k h=>hd _ _ (ha _ _ h)
theorem qc{tab:T Code}{d np:Nat}{q:Pa}{ds:KV}{y:Y}{vs:KV}{e0:En}(hq:tg q tab=some (.fn np ds y))(h1:len vs=np)(hb:∀k:En->Bool,k e0=true->jC (app vs (drop (len ds) ds)) .e .nil k=true)(h:Rt (aT tab d) y e0 s v s'):Ca (aT tab (d+1)) q vs s v s':=λk hk=>by
 show ci (tg q tab) false _=true;refine rwr hq ?_;show Nt _ _ _ _ _ _ _=true;unfold Nt;have a1:Um np (len vs)=0:=by refine rwr h1 ?_;exact Nat.sub_self np
 refine rwr a1 (rwr h1 (rwr (SY (TA np)) (rwr (SY (TQ _)) ?_)));exact hb _ (h ⟨λZ Z=>false,λZ Z=>false,k⟩ (λZ s=>k s .none) hk)
end
end
end
section
set_option compiler.extract_closed false
section
open PySem PySem.W PyProof.Rows
variable{C:Cx}{Γ:d6}{R R':Wd}
theorem ER.swap{F:dP C Γ}{e e2:En}(r:ER F R e)(h:∀q x,tg q e2=some x->∃y,tg q e=some y∧∀v,VR C R y v->VR C R x v):ER F R e2 where
 ns:=by
  refine ag r.ns ?_;intro m ns hold;refine⟨m,ns,λnm q x h1 h2=>?_⟩;refine ag (h q x h2) ?_;intro y h3 h4;refine(hold nm q y h1 h3).el ?_ ?_
  ·intro a v b c;exact .inl ⟨a,v,b,h4 v c⟩
  ·intro a ca ob v b c d e;exact .inr ⟨a,ca,ob,v,b,c,d,h4 v e⟩
 lown:=r.lown
 cells:=r.cells
 fr:=r.fr
theorem ly{v:KV}{x:KV}:∀{es:KD},dl es x=some v->dset es x v=es:=by
 intro es;induction es with
 |nil=>exact λh=>dh h
 |cons a w r ih=>
  intro h;have h:@Ue (λzz=>Option KV) (dl r x) (some w) (cM a x)=some v:=h;show@Ue (λzz=>KD) (.cons a w (dset r x v)) (.cons a v r) (cM a x)=_;cases e:cM a x with
  |true=>rw[e]at h;cases Ti h;rfl
  |false=>rw[e]at h;exact congrArg (KD.cons a w) (ih h)
def PW(C:Cx)(R:Wd)(a b:KD):Prop:=(pairs a).map (·.1)=(pairs b).map (·.1)∧(pairs a).length=(pairs b).length∧∀(i:Nat)(kv:KV×KV),(pairs b)[i]?=some kv->∃u,(pairs a)[i]?=some (kv.1,u)∧∀z,VR C R u z->VR C R kv.2 z
theorem PW.cons{R:Wd}{k a b:KV}{x y:KD}(h:∀z,VR C R a z->VR C R b z)(t:PW C R x y):PW C R (.cons k a x) (.cons k b y):=⟨congrArg (List.cons k) t.1,congrArg Te t.2.1,λi kv e=>by
 cases i with
 |zero=>cases Ti e;exact⟨a,rfl,h⟩
 |succ i=>exact t.2.2 i kv e⟩
theorem PW.refl{R:Wd}(a:KD):PW C R a a:=⟨rfl,rfl,λi kv e=>⟨kv.2,e,λzz z=>z⟩⟩
theorem PW.dset{R:Wd}{x v w:KV}(hw:∀u,VR C R v u->VR C R w u):∀es:KD,PW C R (dset es x v) (dset es x w):=by
 intro es;induction es with
 |nil=>exact .cons hw (.refl _)
 |cons a b r ih=>
  show PW C R (@Ue (λzz=>KD) _ _ (cM a x)) (@Ue (λzz=>KD) _ _ (cM a x));cases cM a x with
  |true=>exact .cons hw (.refl _)
  |false=>exact .cons (λzz z=>z) ih
theorem eX.dset_w{n:Nat}{es:KD}{x v w:KV}{p:iK}(hw:∀u,VR C R v u->VR C R w u)(r:eX C R (.dict n (dset es x v)) p):eX C R (.dict n (dset es x w)) p:=by
 refine ak r ?_;intro a zq;refine j5 zq ?_;intro ob es' ep h1 h2 h3 h4 h5 h6 h7 h8;have z:=PW.dset (C:=C) (R:=R) (x:=x) hw es;exact⟨a,ob,es',ep,h1,h2,h3,⟨h4.1.trans z.2.1,λi e kv e1 e2=>by
  refine ag (z.2.2 i kv e2) ?_;intro u e3 f;have q:=h4.2 i e _ e1 e3;exact⟨q.plain,q.hash,q.key,f _ q.val⟩⟩,z.1▸h5,h6.trans z.2.1,h7,h8⟩
end
end
section
set_option compiler.extract_closed false
section
open PySem PySem.W PyProof.Rows
section
noncomputable def mN:KV:=.str 19343809238458250022617204
noncomputable def lD:KV:=.str 374164043821928694152695900025857252409163869323363
noncomputable def lC:KV:=.str 40567024288966772448377926844532
def oB(la lr:Nat)(w:KV)(j n:Nat):KV:=bif Nat.blt la lr||(SS la lr&&cM w mN)then .neg (n-1)else bif SS la lr&&cM w lD then .none else .nat j
structure lH(C:Cx):Prop where
 lv:∀x,x<5->∃n,C.tk (2*x+1)=.nat n
 wy:∀x,x<5->C.tk (2*x)=mN∨C.tk (2*x)=lD∨C.tk (2*x)=lC
 en:∀a r j n la lr,a<5->r<5->j<64->n<64->C.tk (2*a+1)=.nat la->C.tk (2*r+1)=.nat lr->C.tk (10+(((r*8+a)*64+j)*64+n))=oB la lr (C.tk (2*r)) j n
def uf(sr:Pa)(m:Nat):Y:=ac (aX (Gh (ai sr (ae .e)) (ad (ae (.h .e)) (ad (ae (.g (.a .e))) (ad (af (.str m)) aj))))) ab
def GW(num sr rd:Pa):Y:=ac (bR (ae (.a (.a .e))) (ae (.g (.a .e))) (eC (ai num (ae (.d (.a .e)))))) (ac (bR (ae (.b (.a .e))) (ae (.g (.a .e))) (ae (.d (.a .e)))) (ac (bE (iq (fQ (cT (ae (.a (.b .e))))) (fQ (cT (ae (.c (.b .e)))))) (uf sr 85075216121577873493535270834687443045) ab) (ac (lZ (DT rd 1 (.tok 0)) rd cI (av (ae (.a .e)) (ai num (ae (.d (.a .e))))) (af (.nat 1))) ab)))
def Dy:Y:=ac (bR (ae (.a (.a .e))) (ae (.g (.a .e))) (af .none)) ab
def rI(m:Nat):Cn:=iq (aA eI (ae (.a (.b .e))) (ae (.c (.b .e)))) (aA eI (ae (.b (.b .e))) (af (.str m)))
def Y1(num sr rd:Pa):Y:=bE (rJ (aA my (ae (.a (.b .e))) (ae (.c (.b .e)))) (rI 19343809238458250022617204)) (GW num sr rd) (ac (bE (rI 374164043821928694152695900025857252409163869323363) Dy (ac (bE (fQ (cT (ae (.c (.b .e))))) (uf sr 40567043631770662919203956195444) ab) ab)) ab)
end
section
variable{G:Prop}{en:En}{s:KS}
theorem ej{q:Pa}{f:KV->Bool}(h:eV q en f=true){G:Prop}(k:∀v,f v=true->tg q en=some v->G):G:=aB h k
theorem cL{f:Pa->Bool}{v:KV}(h:eY f v=true){G:Prop}(k:∀q,f q=true->v=.ref q->G):G:=by
 cases v with
 |ref q=>exact k q h rfl
 |_=>exact aD h
theorem gh{f:Nat->Bool}{v:KV}(h:C8 f v=true){G:Prop}(k:∀n,f n=true->v=.tok n->G):G:=by
 cases v with
 |tok n=>exact k n h rfl
 |_=>exact aD h
theorem xR{f:Nat->Bool}{v:KV}(h:yx zN f v=true){G:Prop}(k:∀n,f n=true->v=.neg n->G):G:=by
 cases v with
 |neg n=>exact k n h rfl
 |nat n=>exact aD h
 |_=>exact aD h
theorem fw{f:Nat->Bool}{v:KV}(h:gp f v=true){G:Prop}(k:∀n,f n=true->v=.nat n->G):G:=by
 cases v with
 |nat n=>exact k n h rfl
 |_=>exact aD h
theorem gi{f:Nat->T KV->Bool}{o:KO}(h:kj f o=true){G:Prop}(k:∀c fs,f c fs=true->o=.inst c fs->G):G:=by
 cases o with
 |inst c fs=>exact k c fs h rfl
 |_=>exact aD h
theorem xQ{f:Nat->KV->Bool}{o:KO}(h:iQ f o=true){G:Prop}(k:∀c fs,f c fs=true->o=.list c fs->G):G:=by
 cases o with
 |list c fs=>exact k c fs h rfl
 |_=>exact aD h
theorem tY{k:Pa->Nat->KD->KV->KV->Pa->Nat->KD->Pa->Bool}(h:JX en s k=true)(g:∀q1 m1 es va cur q2 m2 es2 qo v,tg (.a (.a .e)) en=some (.ref q1)->tg q1 s.h=some (.dict m1 es)->tg (.g (.a .e)) en=some va->pk va=true->dl es va=some cur->tg (.b (.a .e)) en=some (.ref q2)->tg q2 s.h=some (.dict m2 es2)->dl es2 va=some (.ref qo)->
  tg (.h .e) en=some v->m1+1≤100000->m2+1≤100000->k q1 m1 es va cur q2 m2 es2 qo=true->G):G:=by
 refine ej h ?_;intro _ h a1;refine cL h ?_;rintro q1 h rfl;refine aB h ?_;intro o h b1;refine gj h ?_;rintro m1 es h rfl;refine ej h ?_;intro va h a;refine dI h ?_;intro pk h;refine aB h ?_;intro cur h c1;refine ej h ?_;intro _ h a2;refine cL h ?_;rintro q2 h rfl;refine aB h ?_;intro o h b2;refine gj h ?_;rintro m2 es2 h rfl;refine aB h ?_;intro _ h c2;refine cL h ?_;rintro qo h rfl;refine ej h ?_;intro v h st;refine dI h ?_;intro l1 h;refine dI h ?_;intro l2 h;exact g q1 m1 es va cur q2 m2 es2 qo v a1 b1 a pk c1 a2 b2 c2 st (SP l1) (SP l2) h
theorem pV{sr rd:Pa}{m:Nat}{k:Pa->Nat->Bool}(h:B0 sr rd en s m k=true)(g:∀q0 c0 f0 q3 jn q4 n4 ps q5 c5 f5,tg .e en=some (.ref q0)->tg q0 s.h=some (.inst c0 f0)->tg sr f0=some (.ref q3)->tg q3 s.h=some (.junk jn)->jn+1≤100000->
  tg (.a .e) en=some (.ref q4)->tg q4 s.h=some (.list n4 ps)->ng m ps=some (.ref q5)->tg q5 s.h=some (.inst c5 f5)->tg rd f5=some (.tok 0)->k q3 jn=true->G):G:=by
 refine ej h ?_;intro _ h s0;refine cL h ?_;rintro q0 h rfl;refine aB h ?_;intro o h s1;refine gi h ?_;rintro c fs h rfl;refine aB h ?_;intro _ h s2;refine cL h ?_;rintro q3 h rfl;refine aB h ?_;intro o h s3;refine nQ h ?_;rintro jn h rfl;refine dI h ?_;intro l3 h;refine ej h ?_;intro _ h p0;refine cL h ?_;rintro q4 h rfl;refine aB h ?_;intro o h p1;refine xQ h ?_;rintro n ps h rfl;refine aB h ?_;intro _ h p2;refine cL h ?_;rintro q5 h rfl;refine aB h ?_;intro o h p5;refine gi h ?_;rintro c5 f5 h rfl;refine aB h ?_;intro _ h r5;refine gh h ?_;rintro t h rfl;refine dI h ?_;intro ht h;exact g q0 c fs q3 jn q4 n ps q5 c5 f5 s0 s1 s2 s3 (SP l3) p0 p1 p2 p5 (cg.mp ht▸r5) h
theorem sY{l:Nat}{k:Nat->Bool}(h:OA l k=true){G:Prop}(k0:∀x,l=2*x+1+2->x<5->k x=true->G):G:=by
 refine dI h ?_;intro h1 h;refine dI h ?_;intro h2 h;have h1:l=3+2*((l-3)/2):=cg.mp h1;have h2:=SP h2;exact k0 ((l-3)/2) (by lia) (by lia) h
theorem tZ{j n:Nat}{k:KV->Bool}(h:JY en j n k=true)(g:∀a r,tg (.a (.b .e)) en=some (.tok (2*a+1+2))->tg (.c (.b .e)) en=some (.tok (2*r+1+2))->tg (.b (.b .e)) en=some (.tok (2*r+2))->a<5->r<5->j<64->n<64->k (.tok (Bq r a j n))=true->G):G:=by
 refine ej h ?_;intro _ h la;refine gh h ?_;rintro la' h rfl;refine ej h ?_;intro _ h lr;refine gh h ?_;rintro lr' h rfl;refine ej h ?_;intro _ h wr;refine gh h ?_;rintro wr' h rfl;refine dI h ?_;intro h1 h;refine sY h ?_;rintro a rfl a5 h;refine sY h ?_;rintro r rfl r5 h;refine dI h ?_;intro h2 h;refine dI h ?_;intro h3 h;have h1:2*r+1+2=wr'+1:=cg.mp h1;exact g a r la lr ((show wr'=2*r+2 by simp_all+arith)▸wr) a5 r5 (Nat.lt_succ_of_le (SP h2)) (Nat.lt_succ_of_le (SP h3)) h
end
section
variable{c:Cl}{e:En}{s s' s1:KS}{q q1 q2 q3:Pa}{va v:KV}
theorem n7{x o i:X}{n:Nat}{es:KD}{w:KV}(hx:Ev c x e s v s)(ho:Ev c o e s (.ref q) s)(hi:Ev c i e s va s)(hq:tg q s.h=some (.dict n es))(hp:pk va=true)(hn:n+1≤100000)(hd:dl es va=some w):St c (bR o i x) e s e (bV s q (.dict n (dset es va v))):=λF k h=>
 hx _ (ho _ (hi _ (bH hq (aO.mpr ⟨hp,aO.mpr ⟨SY hn,by unfold cC;refine rwr hd ?_;exact h⟩⟩))))
theorem CD{sr:Pa}{m c0 jn:Nat}{f0:T KV}{w:KV}(h0:tg .e e=some (.ref q))(h1:tg q s.h=some (.inst c0 f0))(h2:tg sr f0=some (.ref q3))(h3:tg q3 s.h=some (.junk jn))(hj:jn+1≤100000)(ht:tg (.h .e) e=some v)(ha:tg (.g (.a .e)) e=some w):St c (uf sr m) e s e (bV s q3 (.junk (jn+1))):=λF k h=>
 jk (c:=c) (ah h0) h1 h2 _ (bH h3 ((ar (ah ht) (ar (ah ha) (ar ay bu)):Ev c (ad (ae (.h .e)) (ad (ae (.g (.a .e))) (ad (af (.str m)) aj))) e s _ s) (λs Z=>aZ q3 s (Fh λn=>az (T3 (Te n) 100000) false (k e (bV s q3 (.junk (Te n)))))) (bH h3 (aO.mpr ⟨SY hj,h⟩))))
theorem zr{o x:X}{rd:Pa}{op:KT->KV->KT}{c5 m:Nat}{f5:T KV}(hop:∀k s,k s (.tok 0)=true->op k (.tok 0) s (.nat m)=true)(ho:Ev c o e s (.ref q) s)(hx:Ev c x e s (.nat m) s)(hq:tg q s.h=some (.inst c5 f5))(hr:tg rd f5=some (.tok 0)):St c (lZ (DT rd 1 (.tok 0)) rd op o x) e s e (bV s q (.inst c5 (tp rd (.tok 0) f5))):=λF k h=>
 ho _ (bH hq (by
  show ci (tg rd f5) _ _=true;refine rwr hr ?_;exact hx _ (hop _ _ (bH hq h))))
def DY(o:KO):Bool:=@KO.rec (λZ=>Bool) (λZ Z=>false) (λZ Z=>true) (λZ=>false) (λZ Z=>false) (λZ Z=>false) (λZ=>true) (λZ Z=>false) o
def Kd(s s1:KS):Prop:=∀x o,tg x s.h=some o->DY o=false->tg x s1.h=some o
theorem Kd.put{o o':KO}(K:Kd s s1)(h:tg q s.h=some o')(hd:DY o'=true):Kd s (bV s1 q o):=λx u hx hu=>(am _ λz=>by
 rw[z,h]at hx;rw[Ti hx,hu]at hd;exact aD hd).trans (K x u hx hu)
theorem uC{d d':Cn}{b b':Bool}(h:Tc c d e s b s)(h':Tc c d' e s b' s):Tc c (iq d d') e s (b&&b') s:=λt f q=>by
 cases b with
 |true=>exact h _ _ (h' _ _ q)
 |false=>exact h _ _ q
theorem F6{d d':Cn}{b b':Bool}(h:Tc c d e s b s)(h':Tc c d' e s b' s):Tc c (rJ d d') e s (b||b') s:=λt f q=>by
 cases b with
 |true=>exact h _ _ q
 |false=>exact h _ _ (h' _ _ q)
theorem qF{la lr:Nat}{w:KV}{m:Nat}(hl:tg (.a (.b .e)) e=some (.nat la))(hr:tg (.c (.b .e)) e=some (.nat lr))(hw:tg (.b (.b .e)) e=some w)(hp:pk w=true):Tc c (rI m) e s (SS la lr&&cM w (.str m)) s:=uC (hU (ah hl) (ah hr)) (jG (ah hw) ay hp rfl)
theorem mW{x y:X}{a b:Nat}(hx:Ev c x e s (.nat a) s)(hy:Ev c y e s (.nat b) s):Tc c (aA my x y) e s (T3 (a+1) b) s:=λt f q=>hx _ (hy _ q)
theorem jd{x:X}{a:Nat}(hx:Ev c x e s (.nat a) s):Tc c (fQ (cT x)) e s (SS a 0) s:=λt f q=>hx _ (by
 show az (SS a 0) _ _=true;cases h:SS a 0<;>rw[h]at q<;>exact q)
end
section
variable{C:Cx}{Γ:d6}
theorem tX{S:W8}{Y:Y}(h:du C Γ S Y){F:dP C Γ}{P:Pt C}{fr:Fr}{k:En->K0}{en e':En}{Q:UL->SW->Prop}{E:SU->SW->Prop}{sM sX:KS}(er:ER F P.R en)(K:KF F P.R fr k Q)(hk:k en sM=true)
  (to:∀q x,tg q e'=some x->∃y,tg q en=some y∧∀R v,VR C R y v->VR C R x v) (fro:∀q x,tg q en=some x->∃y,tg q e'=some y∧∀R v,VR C R y v->VR C R x v) (run:St F.cl Y e' P.m e' sX) (wk:∀R,bP C R sX->bP C R sM):Tb (Tn C.prog C.w) F.A (exec S F.menv) Q E P.s:=by
 classical
 refine h F P ⟨λZ Z=>false,λZ Z=>false,λZ Z=>false⟩ (λe s=>decide (e=e'∧s=sX)) e' Q E (er.swap λq x hx=>by refine ag (to q x hx) ?_;intro y a b;exact⟨y,a,b _⟩) (run _ _ (decide_eq_true ⟨rfl,rfl⟩)) λP1 fl L f=>?_;cases fl with
 |next=>
  refine ag f ?_;intro e1 er1 h1;refine ak (of_decide_eq_true h1) ?_;clear h1;rintro rfl h2;exact K ⟨P1.R,sM,P1.t,wk _ (h2▸P1.good)⟩ .next L ⟨en,er1.swap λq x hx=>by refine ag (fro q x hx) ?_;intro y a b;exact⟨y,a,b _⟩,hk⟩
 |ret v=>refine ag f ?_;intro _ _ z;exact aD z
 |brk=>refine ag f ?_;intro _ _ z;exact aD z
 |cont=>refine ag f ?_;intro _ _ z;exact aD z
end
section
variable{c:Cl}{e:En}{s:KS}{q q3:Pa}
theorem xw{a:Y}{e':En}{s':KS}(h:St c a e s e' s'):St c (ac a ab) e s e' s':=λF k z=>h F _ z
theorem nU{d:Cn}{t:Bool}{sr:Pa}{m c0 jn:Nat}{f0:T KV}{v w:KV}(hd:Tc c d e s t s)(h0:tg .e e=some (.ref q))(h1:tg q s.h=some (.inst c0 f0))(h2:tg sr f0=some (.ref q3))(h3:tg q3 s.h=some (.junk jn))(hj:jn+1≤100000)(ht:tg (.h .e) e=some v)(ha:tg (.g (.a .e)) e=some w){G:Prop}(k:∀s3 j',St c (bE d (uf sr m) ab) e s e s3->s3.n=s.n->tg q3 s3.h=some (.junk j')->j'≤jn+1->(∀x,x≠q3->tg x s3.h=tg x s.h)->G):G:=by
 cases t with
 |true=>exact k _ _ (eL hd (CD h0 h1 h2 h3 hj ht ha)) rfl (aW _ _ _) (TA _) (λx z=>am _ z)
 |false=>exact k s jn (bN hd bY) rfl h3 (U8 _) (λx z=>rfl)
end
def e3(en:En)(la lr:Nat)(w:KV):En:=tp (.a (.b .e)) (.nat la) (tp (.c (.b .e)) (.nat lr) (tp (.b (.b .e)) w en))
section
variable{C:Cx}{en:En}{la lr a r j n:Nat}{w:KV}{q:Pa}{x:KV}
theorem cK(h:(SS (aY q) 17||(SS (aY q) 18||SS (aY q) 19))=false):tg q (e3 en la lr w)=tg q en:=by
 have z:∀{p:Pa}{n:Nat},aY p=n->SS (aY q) n=false->q≠p:=λ{p n} e1 e2 e=>by rw[e,e1,UX]at e2;exact qd e2
 have h:=W5.mp h;have h':=W5.mp h.2;exact(am _ (z (p:=.a (.b .e)) rfl h.1)).trans ((am _ (z (p:=.c (.b .e)) rfl h'.2)).trans (am _ (z (p:=.b (.b .e)) rfl h'.1)))
theorem kE:tg (.a (.b .e)) (e3 en la lr w)=some (.nat la):=aW _ _ _
theorem j7:tg (.c (.b .e)) (e3 en la lr w)=some (.nat lr):=(am _ λe=>by exact Pa.noConfusion e).trans (aW _ _ _)
theorem tV:tg (.b (.b .e)) (e3 en la lr w)=some w:=(am _ λe=>by exact Pa.noConfusion e).trans ((am _ λe=>by exact Pa.noConfusion e).trans (aW _ _ _))
theorem Bt{M:KV->KV->Prop}(h1:∀x,M x x)(a1:tg (.a (.b .e)) en=some (.tok (2*a+1+2)))(a2:tg (.c (.b .e)) en=some (.tok (2*r+1+2)))(a3:tg (.b (.b .e)) en=some (.tok (2*r+2)))
  (m1:M (.tok (2*a+1+2)) (.nat la)) (m2:M (.tok (2*r+1+2)) (.nat lr)) (m3:M (.tok (2*r+2)) w) (q:Pa):tg q en=tg q (e3 en la lr w)∨∃x y,tg q en=some x∧tg q (e3 en la lr w)=some y∧M x y:=by
 by_cases z1:q=.a (.b .e)
 ·exact .inr ⟨_,_,z1▸a1,z1▸kE,m1⟩
 ·by_cases z2:q=.c (.b .e)
  ·exact .inr ⟨_,_,z2▸a2,z2▸j7,m2⟩
  ·by_cases z3:q=.b (.b .e)
   ·exact .inr ⟨_,_,z3▸a3,z3▸tV,m3⟩
   ·exact .inl ((am _ z1).trans ((am _ z2).trans (am _ z3))).symm
theorem Ef:Bq r a j n=10+(((r*8+a)*64+j)*64+n)+2:=by show 12+(((r*8+a)*64+j)*64+n)=_;simp+arith
end
section
variable{C:Cx}{Γ:d6}
theorem xd(T:lH C){en:En}{a r j n:Nat}{G:Prop}(la':tg (.a (.b .e)) en=some (.tok (2*a+1+2)))(lr':tg (.c (.b .e)) en=some (.tok (2*r+1+2)))(wr':tg (.b (.b .e)) en=some (.tok (2*r+2)))(a5:a<5)(r5:r<5)(j64:j<64)(n64:n<64)
  (k:∀la lr w,(w=mN∨w=lD∨w=lC)->pk w=true->(∀q x,tg q (e3 en la lr w)=some x->∃y,tg q en=some y∧∀R v,VR C R y v->VR C R x v)->(∀q x,tg q en=some x->∃y,tg q (e3 en la lr w)=some y∧∀R v,VR C R y v->VR C R x v)->
   (∀u,oB la lr w j n=u->(∀R v,VR C R u v->pb v u)->∀R v,VR C R u v->VR C R (.tok (Bq r a j n)) v)->G):G:=by
 refine aw (T.lv a a5) ?_;intro la hla;refine aw (T.lv r r5) ?_;intro lr hlr;have hw:=T.wy r r5;have hen:=T.en a r j n la lr a5 r5 j64 n64 hla hlr;generalize hw0:C.tk (2*r)=w at hw hen;have cs:=Bt (M:=λx y=>∀R v,VR C R x v↔VR C R y v) (la:=la) (lr:=lr) (w:=w) (λx R v=>Iff.rfl) la' lr' wr' (λR v=>by show pb v (C.tk (2*a+1))↔_;refine rwr hla ?_;exact Iff.rfl) (λR v=>by show pb v (C.tk (2*r+1))↔_;refine rwr hlr ?_;exact Iff.rfl) (λR v=>by show pb v (C.tk (2*r))↔_;refine rwr hw0 ?_;rcases hw with e|e|e<;>(refine rwr e ?_;exact Iff.rfl));exact k la lr w hw (by rcases hw with e|e|e<;>(refine rwr e ?_;rfl)) (λq x hx=>by
  rcases cs q with e|zq
  ·exact⟨x,e.trans hx,λZ Z z=>z⟩
  ·refine aH zq ?_;clear zq;intro x' y h1 h2 h3;cases Ti (h2.symm.trans hx);exact⟨x',h1,λR v=>(h3 R v).1⟩) (λq x hx=>by
  rcases cs q with e|zq
  ·exact⟨x,e.symm.trans hx,λZ Z z=>z⟩
  ·refine aH zq ?_;clear zq;intro x' y h1 h2 h3;cases Ti (h1.symm.trans hx);exact⟨y,h2,λR v=>(h3 R v).2⟩) λu e f R v z=>by
  refine rwr Ef ?_;show pb v (C.tk _);refine rwr hen (rwr e ?_);exact f R v z
end
structure DD where
 (en:En) (s:KS) (q1 q2 q3 q0 q4 q5 qo:Pa) (m1 m2 jn n4 ni c0 c5:Nat) (es es2:KD) (va vt cur ps:KV) (f0 f5:T KV)
structure DD.Ok(D:DD)(sr rd:Pa):Prop where
 a1:tg (.a (.a .e)) D.en=some (.ref D.q1)
 b1:tg D.q1 D.s.h=some (.dict D.m1 D.es)
 a0:tg (.g (.a .e)) D.en=some D.va
 pv:pk D.va=true
 c1:dl D.es D.va=some D.cur
 a2:tg (.b (.a .e)) D.en=some (.ref D.q2)
 b2:tg D.q2 D.s.h=some (.dict D.m2 D.es2)
 c2:dl D.es2 D.va=some (.ref D.qo)
 st:tg (.h .e) D.en=some D.vt
 l1:D.m1+1≤100000
 l2:D.m2+1≤100000
 s0:tg .e D.en=some (.ref D.q0)
 s1:tg D.q0 D.s.h=some (.inst D.c0 D.f0)
 s2:tg sr D.f0=some (.ref D.q3)
 s3:tg D.q3 D.s.h=some (.junk D.jn)
 l3:D.jn+1≤100000
 p0:tg (.a .e) D.en=some (.ref D.q4)
 p4:tg D.q4 D.s.h=some (.list D.n4 D.ps)
 p5:ng D.ni D.ps=some (.ref D.q5)
 p6:tg D.q5 D.s.h=some (.inst D.c5 D.f5)
 r5:tg rd D.f5=some (.tok 0)
 nr:D.cur≠.ref D.qo
def DD.put(D:DD)(t:KV):KS:=vp D.s D.q1 D.m1 D.es D.va t D.q2 D.m2 D.es2 D.q3 D.jn
structure jP(D:DD)(rd:Pa)(u1 u2:KV)(s1:KS):Prop where
 hn:s1.n=D.s.n
 h1:tg D.q1 s1.h=some (.dict D.m1 (dset D.es D.va u1))
 h2:tg D.q2 s1.h=some (.dict D.m2 (dset D.es2 D.va u2))
 h3:∃j,tg D.q3 s1.h=some (.junk j)∧j≤D.jn+1
 ho:∀x,x≠D.q1->x≠D.q2->x≠D.q3->tg x s1.h=tg x D.s.h∨∃c f,tg x D.s.h=some (.inst c f)∧tg rd f=some (.tok 0)∧tg x s1.h=some (.inst c (tp rd (.tok 0) f))
section
variable{C:Cx}{R:Wd}{D:DD}{s1:KS}{t u1 u2:KV}{sr rd:Pa}
theorem jP.weak(r:jP D rd u1 u2 s1)(hl:D.jn+1≤100000)(w:∀v,VR C R u1 v->VR C R t v)(G:bP C R s1):bP C R (D.put t):=G.weak r.hn.symm λx=>by
 by_cases z3:x=D.q3
 ·subst z3;refine ag r.h3 ?_;intro j h3 hj;exact .inr ⟨_,_,h3,aW _ _ _,λp r=>by refine ak r ?_;intro a zq;refine aH zq ?_;intro vs k b c d;exact⟨a,vs,k,b,SV c hj,hl⟩⟩
 ·have e3:tg x (D.put t).h=tg x (tp D.q2 (.dict D.m2 (dset D.es2 D.va (.tok 1))) (tp D.q1 (.dict D.m1 (dset D.es D.va t)) D.s.h)):=am _ z3;by_cases z2:x=D.q2
  ·subst z2;exact .inr ⟨_,_,r.h2,e3.trans (aW _ _ _),λp r=>eX.dset_w (λv q=>VR.handed q) r⟩
  ·have e2:=e3.trans (am _ z2);by_cases z1:x=D.q1
   ·subst z1;exact .inr ⟨_,_,r.h1,e2.trans (aW _ _ _),λp r=>eX.dset_w w r⟩
   ·have e1:=e2.trans (am _ z1);rcases r.ho x z1 z2 z3 with e|zq
    ·exact .inl (e1.trans e.symm)
    ·refine aH zq ?_;clear zq;intro c f f1 f2 f3;refine .inr ⟨_,_,f3,e1.trans f1,λp r=>?_⟩;refine aM r ?_;intro a b d zq;refine aL zq ?_;intro es n g h;have tgs:∀q,tg q (tp rd (KV.tok 0) f)=tg q f:=λq=>by
      by_cases z:q=rd
      ·subst z;rw[aW,f2]
      ·exact am _ z
     exact⟨a,b,d,es,n,g,h.1,λnm=>by
      have:=h.2.1 nm;cases e:C.sl nm with
      |none=>rw[e]at this;exact this
      |some q=>rw[e,UD,tgs]at this;exact this,h.2.2⟩
end
def yes2(num sr rd jq:Pa):Y:=ac (lZ (DT rd 1 (.tok 0)) rd lP (av (ae (.a .e)) (ai num (av (ae (.b (.a .e))) (ae (.g (.a .e)))))) (af (.nat 1))) (ac (bR (ae (.a (.a .e))) (ae (.g (.a .e))) (ae jq)) (ac (bR (ae (.b (.a .e))) (ae (.g (.a .e))) (ae (.d (.a .e)))) (ac (bE (fQ (cT (ae (.c (.b .e))))) (uf sr 40567043631770662919203956195444) ab) ab)))
def Y2(num sr rd jq:Pa):Y:=bE (rJ (aA rP (ae (.a (.b .e))) (ae (.c (.b .e)))) (rI 40567024288966772448377926844532)) (yes2 num sr rd jq)
 (ac (bE (rI 374164043821928694152695900025857252409163869323363) Dy (ac (bE (iq (fQ (cT (ae (.a (.b .e))))) (fQ (cT (ae (.c (.b .e)))))) (uf sr 85075216121577873493535270834687443045) ab) ab)) ab)
theorem CA{c:Cl}{e:En}{s:KS}{x y:X}{a b:Nat}(hx:Ev c x e s (.nat a) s)(hy:Ev c y e s (.nat b) s):Tc c (aA rP x y) e s (T3 (b+1) a) s:=λt f q=>hx _ (hy _ q)
section
variable{C:Cx}{c:Cl}{D:DD}{sr rd num jq qp:Pa}{la lr cp j:Nat}{w t:KV}{fp:T KV}
theorem DD.Ok.d12(O:D.Ok sr rd):D.q1≠D.q2:=λz=>by
 have h:=O.b2;rw[←z,O.b1]at h;injection h with h;injection h with h1 h2;have h:=O.c2;rw[←h2,O.c1]at h;exact O.nr (Ti h)
theorem DD.Ok.d13(O:D.Ok sr rd):D.q1≠D.q3:=λz=>by
 have h:=O.s3;rw[←z,O.b1]at h;exact KO.noConfusion (Ti h)
theorem DD.Ok.d23(O:D.Ok sr rd):D.q2≠D.q3:=λz=>by
 have h:=O.s3;rw[←z,O.b2]at h;exact KO.noConfusion (Ti h)
theorem DD.Ok.n5(O:D.Ok sr rd){x:Pa}{o:KO}(hx:tg x D.s.h=some o)(ho:DY o=true):x≠D.q5:=λz=>by
 rw[z,O.p6]at hx;rw[←Ti hx]at ho;exact aD ho
theorem DD.Ok.n0(O:D.Ok sr rd){x:Pa}{o:KO}(hx:tg x D.s.h=some o)(ho:DY o=true):D.q0≠x:=λz=>by
 rw[←z,O.s1]at hx;rw[←Ti hx]at ho;exact aD ho
theorem jP.no(O:D.Ok sr rd){d1 d2 d:Cn}{A:Y}{t2 u:Bool}{m:Nat}(h1:Tc c d1 (e3 D.en la lr w) D.s false D.s)(h2:Tc c d2 (e3 D.en la lr w) D.s t2 D.s)(hd:Tc c d (e3 D.en la lr w) D.s u D.s):
  ∃s1,St c (bE d1 A (ac (bE d2 Dy (ac (bE d (uf sr m) ab) ab)) ab)) (e3 D.en la lr w) D.s (e3 D.en la lr w) s1∧jP D rd (bif t2 then .none else D.cur) (.ref D.qo) s1:=by
 cases t2 with
 |true=>exact⟨_,bN h1 (xw (eL h2 (xw (n7 ay (ah ((cK rfl).trans O.a1)) (ah ((cK rfl).trans O.a0)) O.b1 O.pv O.l1 O.c1)))),rfl,aW _ _ _,(am _ O.d12.symm).trans (O.b2.trans (by exact rwr (ly O.c2) rfl)),⟨_,(am _ O.d13.symm).trans O.s3,U8 _⟩,λx z1 Z Z=>.inl (am _ z1)⟩
 |false=>
  refine nU (m:=m) hd ((cK rfl).trans O.s0) O.s1 O.s2 O.s3 O.l3 ((cK rfl).trans O.st) ((cK rfl).trans O.a0) ?_;intro s5 j' t3 n3 x3 lj o3;exact⟨s5,bN h1 (xw (bN h2 (xw t3))),n3,(o3 _ O.d13).trans (O.b1.trans (by show _=some (KO.dict _ (dset _ _ D.cur));exact rwr (ly O.c1) rfl)),(o3 _ O.d23).trans (O.b2.trans (by exact rwr (ly O.c2) rfl)),⟨j',x3,lj⟩,λx Z Z z3=>.inl (o3 _ z3)⟩
theorem jP.no_(O:D.Ok sr rd){d1 d2 d:Cn}{A:Y}{t2 u:Bool}{m:Nat}(h1:Tc c d1 (e3 D.en la lr w) D.s false D.s)(h2:Tc c d2 (e3 D.en la lr w) D.s t2 D.s)(hd:Tc c d (e3 D.en la lr w) D.s u D.s){G:Prop}(k:∀s1,St c (bE d1 A (ac (bE d2 Dy (ac (bE d (uf sr m) ab) ab)) ab)) (e3 D.en la lr w) D.s (e3 D.en la lr w) s1->jP D rd (bif t2 then .none else D.cur) (.ref D.qo) s1->G):G:=ag (jP.no O h1 h2 hd) k
theorem jP.yes1(O:D.Ok sr rd){m:Nat}(p1:tg (.d (.a .e)) D.en=some (.ref qp))(p2:tg qp D.s.h=some (.inst cp fp))(p3:tg num fp=some (.nat D.ni))(hm:D.ni=m+1):
  ∃s1,St c (GW num sr rd) (e3 D.en la lr w) D.s (e3 D.en la lr w) s1∧jP D rd (.neg m) (.ref qp) s1:=by
 have p3':tg num fp=some (.nat (m+1)):=hm▸p3;have k2:Kd D.s (bV (bV D.s D.q1 (.dict D.m1 (dset D.es D.va (.neg m)))) D.q2 (.dict D.m2 (dset D.es2 D.va (.ref qp)))):=(Kd.put (λZ Z z Z=>z) O.b1 rfl).put O.b2 rfl;have t1:St c (bR (ae (.a (.a .e))) (ae (.g (.a .e))) (eC (ai num (ae (.d (.a .e)))))) (e3 D.en la lr w) D.s (e3 D.en la lr w) _:=n7 (v:=.neg m) (λk h=>jk (ah ((cK rfl).trans p1)) p2 p3' (Mm k) h) (ah ((cK rfl).trans O.a1)) (ah ((cK rfl).trans O.a0)) O.b1 O.pv O.l1 O.c1;have t2:St c (bR (ae (.b (.a .e))) (ae (.g (.a .e))) (ae (.d (.a .e)))) (e3 D.en la lr w) _ (e3 D.en la lr w) _:=n7 (ah ((cK rfl).trans p1)) (ah ((cK rfl).trans O.a2)) (ah ((cK rfl).trans O.a0)) (s:=bV D.s D.q1 (.dict D.m1 (dset D.es D.va (.neg m)))) ((am _ O.d12.symm).trans O.b2) O.pv O.l2 O.c2;refine nU (c:=c) (e:=e3 D.en la lr w) (m:=85075216121577873493535270834687443045) (uC (jd (ah kE)) (jd (ah j7))) ((cK rfl).trans O.s0) (k2 _ _ O.s1 rfl) O.s2 ((am _ O.d23.symm).trans ((am _ O.d13.symm).trans O.s3)) O.l3 ((cK rfl).trans O.st) ((cK rfl).trans O.a0) ?_;intro s5 j' t3 n3 x3 lj o3;have k3:Kd D.s s5:=λx o hx ho=>(o3 x λz=>by rw[z,O.s3]at hx;rw[←Ti hx]at ho;exact qd ho).trans (k2 x o hx ho);have t4:=zr (c:=c) (e:=e3 D.en la lr w) (rd:=rd) (op:=cI) (m:=1) (λk s h=>h) (il (ah ((cK rfl).trans O.p0)) (jk (ah ((cK rfl).trans p1)) (k3 _ _ p2 rfl) p3) (k3 _ _ O.p4 rfl) O.p5) ay (k3 _ _ O.p6 rfl) O.r5;refine⟨_,bl t1 (bl t2 (bl t3 (xw t4))),n3,(am _ (O.n5 O.b1 rfl)).trans ((o3 _ O.d13).trans ((am _ O.d12).trans (aW _ _ _))),(am _ (O.n5 O.b2 rfl)).trans ((o3 _ O.d23).trans (aW _ _ _)),⟨j',(am _ (O.n5 O.s3 rfl)).trans x3,lj⟩,λx z1 z2 z3=>?_⟩;by_cases z:x=D.q5
 ·subst z;exact .inr ⟨_,_,O.p6,O.r5,aW _ _ _⟩
 ·exact .inl ((am _ z).trans ((o3 _ z3).trans ((am _ z2).trans (am _ z1))))
theorem BC(O:D.Ok sr rd){m:Nat}(wpk:pk w=true)(hc:D.cur=.nat j)(hm:D.ni=m+1)(p1:tg (.d (.a .e)) D.en=some (.ref qp))(p2:tg qp D.s.h=some (.inst cp fp))(p3:tg num fp=some (.nat D.ni))
  (hk:∀u,oB la lr w j (m+1)=u->(∀R v,VR C R u v->pb v u)->∀R v,VR C R u v->VR C R t v):∃s1,St c (Y1 num sr rd) (e3 D.en la lr w) D.s (e3 D.en la lr w) s1∧∀R,bP C R s1->bP C R (D.put t):=by
 have c1':Tc c (rJ (aA my (ae (.a (.b .e))) (ae (.c (.b .e)))) (rI 19343809238458250022617204)) (e3 D.en la lr w) D.s (T3 (la+1) lr||(SS la lr&&cM w mN)) D.s:=F6 (mW (ah kE) (ah j7)) (qF kE j7 tV wpk);unfold oB Nat.blt at hk;cases e1:(T3 (la+1) lr||(SS la lr&&cM w mN))with
 |true=>
  rw[e1]at c1' hk;refine ag (jP.yes1 (c:=c) (la:=la) (lr:=lr) (w:=w) O p1 p2 p3 hm) ?_;intro s1 t1 r;exact⟨s1,eL c1' t1,λR=>r.weak O.l3 (hk (.neg m) rfl (λZ Z z=>z) R)⟩
 |false=>
  rw[e1]at c1' hk;refine jP.no_ (A:=GW num sr rd) (d2:=rI 374164043821928694152695900025857252409163869323363) (m:=40567043631770662919203956195444) O c1' (qF kE j7 tV wpk) (jd (ah j7)) ?_;intro s1 t1 r;refine⟨s1,t1,λR=>r.weak O.l3 (hk _ ?_ ?_ R)⟩
  ·refine rwr hc ?_;rfl
  ·refine rwr hc ?_;intro R v z;change VR C R (bif SS la lr&&cM w lD then _ else _) v at z;revert z;show _->pb v (bif SS la lr&&cM w lD then _ else _);cases(SS la lr&&cM w lD)<;>exact λz=>z
theorem jP.yes2(O:D.Ok sr rd)(hjq:(SS (aY jq) 17||(SS (aY jq) 18||SS (aY jq) 19))=false)(j1:tg jq D.en=some (.nat j))(p1:tg (.d (.a .e)) D.en=some (.ref qp))(p2:tg D.qo D.s.h=some (.inst cp fp))(p3:tg num fp=some (.nat D.ni)):
  ∃s1,St c (yes2 num sr rd jq) (e3 D.en la lr w) D.s (e3 D.en la lr w) s1∧jP D rd (.nat j) (.ref qp) s1:=by
 have t0:=zr (c:=c) (e:=e3 D.en la lr w) (rd:=rd) (op:=lP) (m:=1) (λk s h=>h) (il (ah ((cK rfl).trans O.p0)) (jk (dA (ah ((cK rfl).trans O.a2)) (ah ((cK rfl).trans O.a0)) O.b2 O.pv O.c2) p2 p3) O.p4 O.p5) ay O.p6 O.r5;have t1:=n7 (c:=c) (ah ((cK (la:=la) (lr:=lr) (w:=w) hjq).trans j1)) (ah ((cK rfl).trans O.a1)) (ah ((cK rfl).trans O.a0)) (s:=bV D.s D.q5 (.inst D.c5 (tp rd (.tok 0) D.f5))) ((am _ (O.n5 O.b1 rfl)).trans O.b1) O.pv O.l1 O.c1;have t2:=n7 (c:=c) (ah ((cK (la:=la) (lr:=lr) (w:=w) rfl).trans p1)) (ah ((cK rfl).trans O.a2)) (ah ((cK rfl).trans O.a0)) (s:=bV (bV D.s D.q5 (.inst D.c5 (tp rd (.tok 0) D.f5))) D.q1 (.dict D.m1 (dset D.es D.va (.nat j)))) ((am _ O.d12.symm).trans ((am _ (O.n5 O.b2 rfl)).trans O.b2)) O.pv O.l2 O.c2;have q0s:∃f,tg D.q0 (bV (bV (bV D.s D.q5 (.inst D.c5 (tp rd (.tok 0) D.f5))) D.q1 (.dict D.m1 (dset D.es D.va (.nat j)))) D.q2 (.dict D.m2 (dset D.es2 D.va (.ref qp)))).h=some (.inst D.c0 f)∧tg sr f=some (.ref D.q3):=by
  have e0:∀{f},tg D.q0 (bV D.s D.q5 (.inst D.c5 (tp rd (.tok 0) D.f5))).h=some (.inst D.c0 f)->tg D.q0 (bV (bV (bV D.s D.q5 (.inst D.c5 (tp rd (.tok 0) D.f5))) D.q1 (.dict D.m1 (dset D.es D.va (.nat j)))) D.q2 (.dict D.m2 (dset D.es2 D.va (.ref qp)))).h=some (.inst D.c0 f):=λz=>(am _ (O.n0 O.b2 rfl)).trans ((am _ (O.n0 O.b1 rfl)).trans z);by_cases z:D.q0=D.q5
  ·have h:=O.s1;rw[z,O.p6]at h;injection h with h;injection h with h1 h2;refine⟨_,e0 (by refine rwr z (rwl h1 ?_);exact aW _ _ _),(am _ λe=>?_).trans ?_⟩
   ·have h:=O.r5;rw[←e,h2,O.s2]at h;exact KV.noConfusion (Ti h)
   ·refine rwr h2 ?_;exact O.s2
  ·exact⟨D.f0,e0 ((am _ z).trans O.s1),O.s2⟩
 refine ag q0s ?_;intro f0' s1' s2';refine nU (c:=c) (e:=e3 D.en la lr w) (m:=40567043631770662919203956195444) (jd (ah j7)) ((cK rfl).trans O.s0) s1' s2' ((am _ O.d23.symm).trans ((am _ O.d13.symm).trans ((am _ (O.n5 O.s3 rfl)).trans O.s3))) O.l3 ((cK rfl).trans O.st) ((cK rfl).trans O.a0) ?_;intro s5 j' t3 n3 x3 lj o3;refine⟨s5,bl t0 (bl t1 (bl t2 (xw t3))),n3,(o3 _ O.d13).trans ((am _ O.d12).trans (aW _ _ _)),(o3 _ O.d23).trans (aW _ _ _),⟨j',x3,lj⟩,λx z1 z2 z3=>?_⟩;have e:=(o3 _ z3).trans ((am _ z2).trans (am _ z1));by_cases z:x=D.q5
 ·subst z;exact .inr ⟨_,_,O.p6,O.r5,e.trans (aW _ _ _)⟩
 ·exact .inl (e.trans (am _ z))
theorem MM{n:Nat}(hw:w=mN∨w=lD∨w=lC):oB la lr w j (n+1)=bif (T3 (lr+1) la||(SS la lr&&cM w lC))then .nat j else bif (SS la lr&&cM w lD)then .none else .neg n:=by
 unfold oB Nat.blt;have z:∀x y:Nat,T3 (x+1) y=decide (x<y):=λx y=>by rw[Uo,decide_eq_true_eq,Nat.ble_eq];exact Iff.rfl
 rw[z,z,lc];rcases Nat.lt_trichotomy la lr with q|q|q
 ·refine rwr (decide_eq_true q) (rwr (decide_eq_false (Nat.not_lt_of_gt q)) (rwr (decide_eq_false (UU q)) ?_));rfl
 ·refine rwr (decide_eq_true q) (rwr q (rwr (decide_eq_false (Nat.lt_irrefl lr)) ?_));rcases hw with e|e|e<;>(refine rwr e ?_;rfl)
 ·refine rwr (decide_eq_true q) (rwr (decide_eq_false (Nat.not_lt_of_gt q)) (rwr (decide_eq_false (V8 q)) ?_));rfl
theorem BB(O:D.Ok sr rd){n:Nat}(hw:w=mN∨w=lD∨w=lC)(wpk:pk w=true)(hjq:(SS (aY jq) 17||(SS (aY jq) 18||SS (aY jq) 19))=false)(hc:D.cur=.neg n)(j1:tg jq D.en=some (.nat j))(p1:tg (.d (.a .e)) D.en=some (.ref qp))(p2:tg D.qo D.s.h=some (.inst cp fp))(p3:tg num fp=some (.nat D.ni))
  (hk:∀u,oB la lr w j (n+1)=u->(∀R v,VR C R u v->pb v u)->∀R v,VR C R u v->VR C R t v):∃s1,St c (Y2 num sr rd jq) (e3 D.en la lr w) D.s (e3 D.en la lr w) s1∧∀R,bP C R s1->bP C R (D.put t):=by
 have c1':Tc c (rJ (aA rP (ae (.a (.b .e))) (ae (.c (.b .e)))) (rI 40567024288966772448377926844532)) (e3 D.en la lr w) D.s (T3 (lr+1) la||(SS la lr&&cM w lC)) D.s:=F6 (CA (ah kE) (ah j7)) (qF kE j7 tV wpk);rw[MM hw]at hk;cases e1:(T3 (lr+1) la||(SS la lr&&cM w lC))with
 |true=>
  rw[e1]at c1' hk;refine ag (jP.yes2 (c:=c) (la:=la) (lr:=lr) (w:=w) O hjq j1 p1 p2 p3) ?_;intro s1 t1 r;exact⟨s1,eL c1' t1,λR=>r.weak O.l3 (hk (.nat j) rfl (λZ Z z=>z) R)⟩
 |false=>
  rw[e1]at c1' hk;refine jP.no_ (A:=yes2 num sr rd jq) (d2:=rI 374164043821928694152695900025857252409163869323363) (m:=85075216121577873493535270834687443045) O c1' (qF kE j7 tV wpk) (uC (jd (ah kE)) (jd (ah j7))) ?_;intro s1 t1 r;refine⟨s1,t1,λR=>r.weak O.l3 (hk _ ?_ ?_ R)⟩
  ·refine rwr hc ?_;rfl
  ·refine rwr hc ?_;intro R v z;change VR C R (bif SS la lr&&cM w lD then _ else _) v at z;revert z;show _->pb v (bif SS la lr&&cM w lD then _ else _);cases(SS la lr&&cM w lD)<;>exact λz=>z
end
section
variable{C:Cx}{Γ:d6}
theorem zQ(T:lH C){S:W8}{num sr rd:Pa}(h:du C Γ S (Y1 num sr rd)):du C Γ S (yQ num sr rd):=λF P fr k en Q E er hy K=>
 tY hy λq1 m1 es va cur q2 m2 es2 qo vst a1 b1 a0 hpk c1 a2 b2 c2 st l1 l2 hy=>by
 refine fw hy ?_;rintro j hy rfl;refine ej hy ?_;intro _ hy p1;refine cL hy ?_;rintro qp hy rfl;refine aB hy ?_;intro o hy p2;refine gi hy ?_;rintro cp fp hy rfl;refine aB hy ?_;intro _ hy p3;refine fw hy ?_;rintro n hy rfl;refine dI hy ?_;intro hn1 hy;refine pV hy λq0 c0 f0 q3 jn q4 n4 ps q5 c5 f5 s0 s1 s2 s3 l3 p0 p4 p5 p6 r5 hy=>tZ hy λa r la' lr' wr' a5 hr5 j64 n64 hk=>?_;cases n with
 |zero=>exact aD hn1
 |succ m=>
 exact xd T la' lr' wr' a5 hr5 j64 n64 λla lr w hw wpk to fro hk'=>ag (BC (C:=C) (D:=⟨en,P.m,q1,q2,q3,q0,q4,q5,qo,m1,m2,jn,n4,m+1,c0,c5,es,es2,va,vst,.nat j,ps,f0,f5⟩) ⟨a1,b1,a0,hpk,c1,a2,b2,c2,st,l1,l2,s0,s1,s2,s3,l3,p0,p4,p5,p6,r5,λz=>KV.noConfusion z⟩ wpk rfl rfl p1 p2 p3 hk') λzz=>tX h er K hk to fro
theorem zO(T:lH C){S:W8}{num sr rd jq:Pa}(hjq:(SS (aY jq) 17||(SS (aY jq) 18||SS (aY jq) 19))=false)(h:du C Γ S (Y2 num sr rd jq)):du C Γ S (yP num sr rd jq):=λF P fr k en Q E er hy K=>
 tY hy λq1 m1 es va cur q2 m2 es2 qo vst a1 b1 a0 hpk c1 a2 b2 c2 st l1 l2 hy=>by
 refine xR hy ?_;rintro n hy rfl;refine ej hy ?_;intro _ hy j1;refine fw hy ?_;rintro j hy rfl;refine ej hy ?_;intro _ hy p1;refine cL hy ?_;rintro qp hy rfl;refine aB hy ?_;intro o hy p2;refine gi hy ?_;rintro cp fp hy rfl;refine aB hy ?_;intro _ hy p3;refine fw hy ?_;rintro m hy rfl;refine pV hy λq0 c0 f0 q3 jn q4 n4 ps q5 c5 f5 s0 s1 s2 s3 l3 p0 p4 p5 p6 r5 hy=>tZ hy λa r la' lr' wr' a5 hr5 j64 n64 hk=>?_;exact xd T la' lr' wr' a5 hr5 j64 n64 λla lr w hw wpk to fro hk'=>ag (BB (C:=C) (D:=⟨en,P.m,q1,q2,q3,q0,q4,q5,qo,m1,m2,jn,n4,m,c0,c5,es,es2,va,vst,.neg n,ps,f0,f5⟩) ⟨a1,b1,a0,hpk,c1,a2,b2,c2,st,l1,l2,s0,s1,s2,s3,l3,p0,p4,p5,p6,r5,λz=>KV.noConfusion z⟩ hw wpk hjq rfl j1 p1 p2 p3 hk') λzz=>tX h er K hk to fro
end
end
end
section
set_option compiler.extract_closed false
section
open PySem PySem.W PyProof.Rows
variable{C:Cx}{Γ:d6}
def xn(C:Cx)(Γ:d6)(p:Pos)(es:List SQ)(x:X):Prop:=∀(F:dP C Γ)(P:Pt C)(en:En)(k:KT)(Q:SU->SW->Prop)(E:SU->SW->Prop),
 ER F P.R en->x F.cl en k P.m=true->Kp C C.vol P.R k Q->Tb (Tn C.prog C.w) F.A (boolOp p .And (evalEach es F.menv)) Q E P.s
section
variable{P₀:Pg}(O:C.Ok P₀){p:Pos}{a:SQ}{es:List SQ}{x y:X}
theorem xM(hx:bv C Γ a x):xn C Γ p [a] x:=λF P en k Q E R h K=>hx F P en k Q E R h K
include O in
set_option backward.match.sparseCases true in
theorem n9{b:SQ}(hx:bv C Γ a x)(hy:xn C Γ p (b::es) y):xn C Γ p (a::b::es) (qx x y):=λF P en k Q E R h K=>by
 show Tb _ _ (do
  let v ←eval a F.menv
  standAt p
  let t ←holding [v] (truthy v)
  match BoolOp.And,t with
  |.And,false|.Or,true=>pure v
  |_,_=>boolOp p .And (evalEach (b::es) F.menv)) _ _ _
 refine SO (hx F P en _ _ E R h λP1 u v L r h1=>SO (Uv (SO (TH (gL O r h1 λP2 c L2 h2=>?_)))));cases c with
 |false=>exact SR (K P2 u v (L.trans L2) (r.later L2) h2)
 |true=>exact hy F P2 en k Q E (R.later (L.trans L2)) h2 (K.later (L.trans L2))
theorem xC(h:xn C Γ p es x):bv C Γ (.BoolOp .And es p) x:=λF P en k Q E R q K=>h F P en k Q E R q K
end
section
def LK(xs:KV)(k:Nat->Bool):Bool:=ma (λn k=>k n) (λx _ r n k=>gp (λd=>az (T3 d 1000) false (r (n+d) k)) x) xs 0 k
def Cp(a:X):X:=λc e k s=>a c e (λs v=>eY (λq=>aZ q s (iQ λ_ xs=>LK xs λn=>k s (.nat n))) v) s
variable{R R':Wd}
theorem zk:∀{xs:KV}{vs:List SU}{n:Nat}{k:Nat->Bool},bG C R xs vs->ma (λ(n:Nat)(k:Nat->Bool)=>k n) (λx _ r n k=>gp (λd=>az (T3 d 1000) false (r (n+d) k)) x) xs n k=true->∃ds:List (Nat×Tok),vs=ds.map (λd=>Value.int (d.1:Int) d.2)∧(∀d∈ds,d.1≤1000)∧k (n+(ds.map (·.1)).sum)=true:=by
 intro xs;induction xs with
 |nil=>intro vs n k r h;cases r;exact⟨[],rfl,(by intro d hd;cases hd),h⟩
 |cons x y _ ih=>
  intro vs n k r h;refine aH r ?_;clear r;rintro v us rfl r1 r2;cases x with
  |nat d=>
   refine aw r1 ?_;rintro t rfl;refine ak (aO.mp h) ?_;clear h;intro h1 h;refine aM (ih r2 h) ?_;clear h;rintro ds rfl hs h;refine⟨(d,t)::ds,rfl,?_,?_⟩
   ·intro e he;rcases T8.mp he with rfl|he
    ·exact SP h1
    ·exact hs e he
   ·rw[US,List.sum_cons,←UM];exact h
  |_=>exact aD h
 |_=>exact λr=>r.elim
theorem pO(val:Nat->Int)(h:∀i,0≤val i∧val i≤1000):∀n,0≤preSum val n∧preSum val n≤1000*n
 |0=>by constructor<;>simp[preSum]
 |n+1=>by have:=pO val h n;have:=h n;show 0≤preSum val n+val n∧preSum val n+val n≤_;omega
theorem nF(ds:List (Nat×Tok))(val:Nat->Int)(h:∀i d,ds[i]?=some d->val i=(d.1:Int)):∀n,n≤ds.length->preSum val n=(((ds.take n).map (·.1)).sum:Nat)
 |0,_=>rfl
 |n+1,hn=>by
  show preSum val n+val n=_;rw[nF ds val h n (WC hn),h n _ (T7 hn),List.take_add_one,T7 hn];simp only[WS,List.sum_append,Option.toList_some,US,List.map_nil,List.sum_cons,List.sum_nil,Nat.add_zero,X4]
theorem Q4{x:Int}(h0:0≤x)(h1:x≤100000000):InLong x:=⟨by omega,by omega⟩
section
variable{P₀:Pg}(O:C.Ok P₀){nm:Str}{p pos:Pos}{e:SQ}{a:X}
include O
theorem CG(lo:Γ.loud=true)(hg:P₀.gl nm=some (.bi "sum"))(hk:Γ.kd nm=some .globalImplicit)(hd:(nm==("__debug__":Str))=false)(hs:bx e=false)(ha:bv C Γ e a):bv C Γ (.Call (.Name nm p) [e] [] pos) (Cp a):=
 jZ O hg hk hd ii hs ha (f:=λc k s v=>eY (λq=>aZ q s (iQ λ_ xs=>LK xs λn=>k s (.nat n))) v) λF P en k Q E u v R r h K=>by
  refine bw h r ?_;clear h r;rintro q p hp h-rfl;refine aF h hp ?_;clear h;rintro o-ro h;refine cy h ro ?_;clear h ro;rintro xs vs c hob rs hl0-h -;refine aM (zk (k:=λn=>k P.m (.nat n)) rs h) ?_;intro ds hv hb h;have w2:(P.R.h.push {cls:=.type "list_iterator",data:=.fields #[.ref p.fst,.int 0 0]}).IsListIter P.R.h.objs.size p.fst 0:=⟨_,T9 _ rfl,rfl,rfl⟩
  have w3:(P.R.h.push {cls:=.type "list_iterator",data:=.fields #[.ref p.fst,.int 0 0]}).IsList p.fst vs:=⟨_,aE _ _ _ _ hob,rfl,c,rfl⟩
  have hsz:vs.size=ds.length:=by rw[←T4,hv,TL]
  refine call_sum_walk (WN (s:=P.s) (l:=p.fst) (items:=vs) ⟨_,hob,rfl,c,rfl⟩ ?_);have hval:∀i d,ds[i]?=some d->(((ds.map (·.1)).getD i 0:Nat):Int)=(d.1:Int):=λi d e=>by rw[Uy,Tr,e];rfl
  have hbd:∀i,(0:Int)≤(((ds.map (·.1)).getD i 0:Nat):Int)∧(((ds.map (·.1)).getD i 0:Nat):Int)≤1000:=λi=>by
   refine⟨UG _,?_⟩;rw[Uy,Tr];cases e:ds[i]? with
   |none=>decide
   |some d=>exact Int.ofNat_le.mpr (hb d (TM e))
  refine⟨_,[P.R.h.objs.size,p.fst],[P.R.h.objs.size],vs.size,_,_,λi=>(((ds.map (·.1)).getD i 0:Nat):Int),rfl,Walks.list (A:=F.A.in1) (F.handled lo) _ p.fst (UU (Ui hob)) vs,⟨w2,w3⟩,?_,?_,?_,λh' tk t' hk=>?_⟩
  ·intro b hb';rcases T8.mp hb' with rfl|hb'
   ·exact Ui (T9 _ rfl)
   ·cases U9.mp hb';exact Ui (aE _ _ _ _ hob)
  ·intro i v hi;have:vs.toList[i]?=some v:=by rw[Tj];exact hi
   rw[hv,Tr]at this;refine ag (Option.map_eq_some_iff.mp this) ?_;rintro d hd rfl;exact⟨d.2,by show Value.int _ _=Value.int (((ds.map (·.1)).getD i 0:Nat):Int) _;rw[hval i d hd]⟩
  ·intro j hj;have a1:=hbd j;have a2:=pO (λi=>(((ds.map (·.1)).getD i 0:Nat):Int)) hbd (j+1);have:vs.size≤100000:=hl0;exact⟨Q4 a1.1 (Int.le_trans a1.2 (by decide)),Q4 a2.1 (Int.le_trans a2.2 (by omega))⟩
  ·have e:preSum (λi=>(((ds.map (·.1)).getD i 0:Nat):Int)) vs.size=((0+(ds.map (·.1)).sum:Nat):Int):=by
    rw[hsz,nF ds _ hval ds.length (TA _),List.take_length,Vm]
   rw[e];exact K.more (λb ob e=>hk b ob (by simp;exact UU (Ui e)) (aE _ _ b ob e)) .nat_ h _
end
end
section
variable{o i e:SQ}{p p':Pos}{x y a b:X}
def kT(o i:X):X:=λc e k s=>o c e (λs v=>i c e (λs i=>gp (λi=>Jb s (λzz xs=>k s (.fl (drop i xs))) v) i) s) s
theorem xz(hx:bv C Γ o x)(hy:bv C Γ i y):bv C Γ (.Subscript o (.Slice (some i) none none p') p) (kT x y):=λF P en k Q E R h K=>by
 refine VN (hx F P en _ _ E R h λP1 u v L r h=>WW ?_);simp only[Wm,WX];refine hy F P1 en _ _ E (R.later L) h λP2 j w L2 rj h=>SR (SR ?_);refine cw h rj ?_;clear h rj;rintro n t h rfl -;have r2:=r.later L2;have K2:=K.later (L.trans L2);refine gR h r2 ?_;intro m xs a vs c hob rs hn hl h zv;refine fY (P:=P2) (lo:=some n) (hi:=none) ⟨t,rfl⟩ rfl r2 K2 (.inl ⟨a,vs,c,vs.size-n,_,zv,hob,hn▸hl,.inr h,?_⟩);show bG C P2.R _ ((vs.toList.take vs.size).drop (min n vs.size))∧vs.size-n=((vs.toList.take vs.size).drop (min n vs.size)).length;have:vs.toList.drop (min n vs.size)=vs.toList.drop n:=by
  rcases X3 n vs.size with z|z
  ·exact rwr (V4 z) rfl
  ·exact rwr (Vh z) (rwr (VO (by simp_all+arith)) (rwr (VO (by simp_all+arith)) rfl))
 refine rwr (Ub (VZ T4)) (rwr this (rwr Vg (rwr T4 ?_)));exact⟨rs.drop_ n,rfl⟩
theorem tu{R:Wd}:∀{es:KD}{l:List SU},l.length=(pairs es).length->(∀(j:Nat)(v:SU)(kv:KV×KV),l[j]?=some v->(pairs es)[j]?=some kv->VR C R kv.1 v)->bG C R (kF es) l
 |.nil,[],_,_=>rfl
 |.cons a b r,v::l,h,k=>.cons_ (k 0 v (a,b) rfl rfl) (tu (Nat.succ.inj h) λj v kv h1 h2=>k (j+1) v kv h1 h2)
 |.nil,_::_,h,_=>by cases h
 |.cons _ _ _,[],h,_=>by cases h
section
variable{prog:Vl}{w:VX}{A:U6}{d I:Tw}{o:Obj}{es:Array TR}{ep:Nat}
theorem uu(hh:A.handled=none)(hne:d≠I)(hx:o.ExactDict)(hd:o.data=.dict es ep):Walks prog w A I [I,d] [I] es.size (λi v=>∃e,es[i]?=some e∧e.key=v) (λi h=>h.IsKeyIter I d i es.size ep∧h.get? d=some o)where
 sub:=λb hb=>by cases U9.mp hb;exact SX
 frame:=λZ Z Z st hk=>⟨st.1.at λo e=>hk I SX o e,hk d (.tail _ (.head _)) _ st.2⟩
 item:=λi s Q E hi st hQ=>jN st.1 st.2 hd hh (λe he h' hit hs=>hQ e.key h' s.toks ⟨e,he,rfl⟩ ⟨hit,(hs.2 d hne).trans st.2⟩ λb o hb e=>hs.extBut b o (λz=>hb (z▸U9.mpr rfl)) e) λhe=>absurd (Array.getElem?_eq_none_iff.mp he) (WL hi)
 done:=λs Q E st hQ=>jN st.1 st.2 hd hh (λe he=>absurd (Uu.mp he).1 (Nat.lt_irrefl _)) λZ h' x=>hQ h' s.toks λb o hb e=>x b o (λz=>hb (z▸U9.mpr rfl)) e
 self:=λZ Z Z Z st hQ=>wpAny_pyIter_keyiter st.1 hQ
theorem zt(hs:(d==sysModules)=false)(hx:o.ExactDict)(hd:o.data=.dict es ep):KdlSrc prog w "dict" d d es.size (λi v=>∃e,es[i]?=some e∧e.key=v) (λh=>h.get? d=some o)where
 type:=λZ h=>⟨o,h,hx.1⟩
 there:=λZ h=>⟨Ui h,Ui h⟩
 keep:=λZ Z h k=>k d (.inl rfl) _ h
 notList:=by decide
 notTuple:=by decide
 hint:=λZ Z Z Z h q=>kdl_hint_dict ⟨o,h,hx.1⟩ q
 iter:=λA s hh h=>⟨_,_,λZ Z q=>q9 hs h hx hd q,uu hh (UU (Ui h)) hx hd,⟨_,T9 _ rfl,rfl,rfl⟩,TX _ h⟩
end
section
variable{P₀:Pg}(O:C.Ok P₀){nm:Str}{pos:Pos}
include O
theorem uG(lo:Γ.loud=true)(hg:P₀.gl nm=some (.bi "list"))(hk:Γ.kd nm=some .globalImplicit)(hd:(nm==("__debug__":Str))=false)(hs:bx e=false)(ha:bv C Γ e a):bv C Γ (.Call (.Name nm p) [e] [] pos) (gu a):=
 jZ O hg hk hd gb hs ha (f:=λc k s v=>qO (λxs=>lO k s (len xs) xs) (λq=>aZ q s (qR (lO k s) (λn es=>lO k s n (kF es)))) v) λF P en k Q E u v R r h K=>by
  have fin:∀{it:Tw}{o:Obj}{T:String}{items:Array SU}{m n:Nat}{ys:KV},(T="list"∨T="tuple")->P.R.h.get? it=some o->o.cls=.type T->o.data=.seq items m->bG C P.R ys items.toList->n=items.size->lO k P.m n ys=true->Tb (Tn C.prog C.w) F.A (call (.type "list") [.ref it]) Q E P.s:=by
   intro it o T items m n ys hT ho hc hd rs hn h;have hl:=SP (aO.mp h).1;refine call_list_seq (s:=P.s) it hT ho hc hd (λh' c' hk hg=>?_) (by refine rwl hn ?_;exact SV hl cQ);exact(mx K rs (by simpa using hn) hk (aV _) (by refine rwr Vq ?_;exact hg) h P.t).2
  cases u with
  |nil=>refine ag r ?_;clear r;rintro a rfl zq;refine aM zq ?_;clear zq;intro o ho hc zq;refine aw zq ?_;clear zq;intro m hd;exact fin (.inr rfl) ho hc hd .nil_ rfl h
  |cons x y=>refine ew r ?_;clear r;rintro a w ws rfl zq4 h1 h2 -;refine aM zq4 ?_;clear zq4;intro o ho hc zq;refine aw zq ?_;clear zq;intro m hd;exact fin (.inr rfl) ho hc hd (.cons_ h1 h2) (bG.len_eq (.cons_ h1 h2)) h
  |ref q=>
   refine ag r ?_;clear r;rintro p hp rfl;refine aF h hp ?_;clear h;rintro o-ro h;cases o with
   |list n xs=>
    refine ak ro ?_;clear ro;rintro -zq;refine dG zq ?_;clear zq;rintro vs k' hob rs rfl hl;exact fin (.inl rfl) hob rfl rfl rs rfl h
   |dict n es=>
    refine ak ro ?_;clear ro;rintro -zq;refine j5 zq ?_;clear zq;intro ob es' ep hob hx hdat hE hnd hm hlen hep;have hsz:es'.size=n:=by exact rwr hm (rwl hE.1 (rwr T4 rfl))
    refine kdl_call (s:=P.s) (zt (gx O P.good hp) hx hdat) (F.handled lo) hob (by rw[hsz];exact SV hlen cQ) λh' tk acc' c' hk' hD hacc=>?_;have la:acc'.toList.length=n:=by rw[T4,hacc.1,hsz]
    refine(mx (c:=c') K (vs:=acc'.toList) (tu (R:=P.R) (la.trans hm) λj v kv h1 h2=>?_) la.symm hk' (aV _) (by rw[Vq];exact hD) h tk).2;refine ag (hacc.2 j v (by rw[←Tj];exact h1)) ?_;rintro en he rfl;exact(hE.2 j en kv (by rw[Tj];exact he) h2).key
   |_=>exact aD h
  |_=>exact aD h
end
def Dj(xs:KV)(n:Nat):KV:=@V3 (λzz=>KV) .nil (λzz r=>app xs r) n
def xo(a b:X):X:=λc e k s=>a c e (λs u=>b c e (λs v=>Jb s (λm xs=>yx (λn=>az (T3 (Nat.mul m n) 100000) false (az (T3 n 100000) false (k s (.fl (Dj xs n))))) (λn=>az (T3 n 100000) false (k s (.fl .nil))) v) u) s) s
theorem wn{R:Wd}{xs:KV}{vs:List SU}(h:bG C R xs vs):∀n,bG C R (Dj xs n) (UN n vs).flatten
 |0=>rfl
 |n+1=>by rw[List.replicate_succ,List.flatten_cons];exact h.append (wn h n)
theorem lM{P:Pt C}{A:U6}{Q:SU->SW->Prop}{E:SU->SW->Prop}{l:Tw}{vs:Array SU}{k:Nat}{x:Int}{u:Tok}(hl:P.R.h.get? l=some (gz vs k))(hlo:-(2^63:Int)≤x)(hhi:x<2^63)(hsz:vs.size*x.toNat≤2^24)
  (h:Q (.ref P.R.h.objs.size) ⟨P.R.h.push (gz (UN x.toNat vs.toList).flatten.toArray 0),C.g,C.d,P.t,C.os⟩):Tb (Tn C.prog C.w) A (binaryOp .Mult (.ref l) (.int x u)) Q E P.s:=by
 refine wpAny_binaryOp_repeat_ref (s:=P.s) (T:="list") (U:="int") (by decide) ⟨_,hl,rfl⟩ (λs'=>typeIs_int s' x u) noFill_list_mul F.fills_int_mul F.slot_int_rmul repeat_list F.slot_int_index.lookup
  (call_meets F.slot_int_rmul (typeIs_int P.s x u) F.entry_int_rmul (F.args_int_rmul_2 _ _) (lm_int_rmul_list_any x u l vs k none #[])
   ⟨hl,rfl,⟨_,hl,rfl⟩,call_meets F.slot_list_mul ⟨_,hl,rfl⟩ F.entry_list_mul (F.args_list_mul_2 _ _)
    (lm_list_mul_any l vs k none #[] x u (by simp[VW];omega) (by omega) (by simp[Builtin.List.listTooLong,sizeLine];omega))
    ⟨hl,?_⟩⟩)
 rw[listMul_foldl_if];exact h
theorem GV{m n:Nat}{x:Int}(h:m*n≤100000)(e:x.toNat=n):m*x.toNat≤2^24:=by rw[e];exact SV h (by decide)
theorem wo(vs:List SU):∀n,(UN n vs).flatten.length=vs.length*n
 |0=>rfl
 |n+1=>by rw[List.replicate_succ,List.flatten_cons,Td,wo vs n,Nat.mul_succ,UY]
theorem CL{ea eb:SQ}(ha:bv C Γ ea a)(hb:bv C Γ eb b):bv C Γ (.BinOp ea .Mult eb p) (xo a b):=λF P en kk Q E R h K=>
 wpAny_BinOp (ha F P en _ _ E R h λP1 u v L r h1=>hb F P1 en _ _ E (R.later L) h1 λP2 w z L2 s h2=>by
  have K2:=K.later (L.trans L2);refine gR h2 (r.later L2) ?_;rintro m xs l vs k hob rs hm hl h3 rfl;obtain⟨i,t,rfl,⟨n,rfl,_,h4⟩|⟨n,rfl,_,h4⟩⟩:=km h3 s<;>clear h3<;>rename _=>h3
  ·refine dI h3 ?_;clear h3;intro q1 h3;refine dI h3 ?_;clear h3;intro q2 h3;have q1:=SP q1;have q2:=SP q2;rw[hm]at q1;refine lM (P:=P2) hob (Int.le_trans (by decide) (UG n)) (by omega) (GV (n:=n) q1 rfl) ?_;exact oj (c:=0) K2 (wn rs n) (by rw[wo,T4];exact q1) (aE _ _) (aV _) (T9 _ rfl) h3 P2.t
  ·refine dI h3 ?_;intro q2 h3;have q2:=SP q2;refine lM (P:=P2) hob (by omega) (by omega) (TQ _) ?_;exact oj (c:=0) K2 (xs:=.nil) (vs:=[]) rfl (TQ _) (aE _ _) (aV _) (T9 _ rfl) h3 P2.t)
def Nl(b:X)(c:Cl)(e:En)(s:KS)(f:Nat->K0):Bool:=b c e (λs v=>gp (λm=>az (T3 1 m) false (f m s)) v) s
def uj(q:Pa)(a:Nat)(b:X):X:=λc e k s=>eV q e (λu=>az (T3 1 a) false (az (T3 a 1000000) false (Du (λh=>Nl b c e s λm s=>k s (.nat (Nat.mod (Nat.div h a) m))) (λn=>az (T3 200002 n) false (Nl b c e s λm s=>ci (KW (Um n 200002) a m) false λr=>k s (.nat r))) u)))
theorem Jw{P₀:Pg}(O:C.Ok P₀){F:dP C Γ}{P:Pt C}{en:En}(er:ER F P.R en){s:Str}{q:Pa}{n:Nat}(hq:Γ.slot s=some q)(ht:tg q en=some (.tok n))(hn:T3 200002 n=true){G:Prop}(k:∀h:Nat,ER F P.R (tp q (.nat h) en)->(∀a b r,KW (Um n 200002) a b=some r->h/a%b=r)->G):G:=by
 obtain⟨m,rfl⟩:∃m,n=200000+m+2:=⟨n-200002,by have:=SP hn;omega⟩
 have e0:Um (200000+m+2) 200002=m:=by show 200000+m+2-200002=m;omega
 rw[e0]at k;rcases O.hd m with e|⟨h,e1,e2⟩
 ·refine ag er.ns ?_;intro mm ns hold;have z:∀v,¬VR C P.R (.tok (200000+m+2)) v:=λv z=>by have z:pb v (C.tk (200000+m)):=z;rw[e]at z;exact z
  refine(hold s q _ hq ht).el ?_ ?_
  ·intro a v b c;exact(z v c).elim
  ·intro a ca ob v b c d e;exact(z v e).elim
 ·refine k h (er.swap λq' x hx=>?_) e2;by_cases z:q'=q
  ·subst z;rw[aW]at hx;cases Ti hx;refine⟨_,ht,λv hv=>?_⟩;have hv:pb v (C.tk (200000+m)):=hv;rw[e1]at hv;exact hv
  ·exact⟨x,(am _ z).symm.trans hx,λzz z=>z⟩
theorem B7{P:Pt C}{A:U6}{k:KT}{Q:SU->SW->Prop}{E:SU->SW->Prop}{h a:Nat}{w:KV}{v z:SU}{f:Nat->K0}(r:VR C P.R (.nat (h/a)) v)(s:VR C P.R w z)(hk:gp (λm=>az (T3 1 m) false (f m P.m)) w=true)(e:∀m s,f m s=true->k s (.nat (h/a%m))=true)(K:Kp C C.vol P.R k Q):Tb (Tn C.prog C.w) A (binaryOp .Mod v z) Q E P.s:=by
 cases w with
 |nat m=>
  refine dI hk ?_;intro h1 hk;refine xl P A k Q E _ _ v z r s ?_ K;cases m with
  |zero=>exact aD h1
  |succ m=>exact e _ _ hk
 |_=>exact aD hk
theorem Fz{F:dP C Γ}{P:Pt C}{en:En}(R:ER F P.R en){q:Pa}{a:Nat}{k:KT}(h:uj q a b F.cl en k P.m=true){P₀:Pg}(O:C.Ok P₀){s:Str}(hq:Γ.slot s=some q){G:Prop}(g:∀(en2:En)(z:Nat)(f:Nat->K0),ER F P.R en2->tg q en2=some (.nat z)->T3 1 a=true->T3 a 1000000=true->Nl b F.cl en P.m f=true->(∀m s,f m s=true->k s (.nat (z/a%m))=true)->G):G:=by
 refine ej h ?_;clear h;intro u h ht;refine dI h ?_;clear h;intro h2 h;refine dI h ?_;clear h;intro h3 h;cases u with
 |nat z=>exact g en z _ R ht h2 h3 h λm s k=>k
 |tok n=>
  have h:az (T3 200002 n) false (Nl b F.cl en P.m λm s=>ci (KW (Um n 200002) a m) false λr=>k s (.nat r))=true:=h;refine dI h ?_;clear h;intro h1 h;refine Jw O R hq ht h1 ?_;intro z R2 hz;exact g _ z _ R2 (aW _ _ _) h2 h3 h λm s k=>aB k λr k e=>by rw[hz _ _ _ e];exact k
 |_=>exact aD h
variable{P₀:Pg}(O:C.Ok P₀)
include O
theorem GL{s:Str}{p1 p2 p3:Pos}{q:Pa}{c n:Nat}{eb:SQ}(hq:Γ.slot s=some q)(hv:bv C Γ (.Name s p1) (ae q))(hb:bv C Γ eb b):bv C Γ (.BinOp (.BinOp (.Name s p1) .FloorDiv (.Constant (.int (.ofNat c)) n p2) p3) .Mod eb p) (uj q c b):=λF P en k Q E R h K=>by
 refine Fz R h O hq ?_;clear h;intro en2 z f R2 ht h2 h3 h hf
 classical
 refine wpAny_BinOp (fD BP hv i4 F P en2 (λs u=>decide (s=P.m∧u=.nat (z/c))) _ E R2 ?_ λP1 u v L r h4=>?_)
 ·refine tQ (b:=c-1) (ah ht) (by rw[Uq (SP h2)];exact ay) (by rw[Uq (SP h2)];exact SP h3) _ ?_;rw[Uq (SP h2)];exact decide_eq_true ⟨rfl,rfl⟩
 ·refine ak (of_decide_eq_true h4) ?_;rintro e rfl;exact hb F P1 en _ _ E (R.later L) (e▸h) λP2 w x L2 s h5=>B7 (r.later L2) s h5 hf (K.later (L.trans L2))
theorem CW{s:Str}{p1:Pos}{q:Pa}{eb:SQ}(hq:Γ.slot s=some q)(hv:bv C Γ (.Name s p1) (ae q))(hb:bv C Γ eb b):bv C Γ (.BinOp (.Name s p1) .Mod eb p) (uj q 1 b):=λF P en k Q E R h K=>by
 refine Fz R h O hq ?_;clear h;intro en2 z f R2 ht h2 h3 h hf
 classical
 refine wpAny_BinOp (hv F P en2 (λs u=>decide (s=P.m∧u=.nat (z/1))) _ E R2 ?_ λP1 u v L r h4=>?_)
 ·exact ah ht _ (decide_eq_true ⟨rfl,by rw[Nat.div_one]⟩)
 ·refine ak (of_decide_eq_true h4) ?_;rintro e rfl;exact hb F P1 en _ _ E (R.later L) (e▸h) λP2 w x L2 s h5=>B7 (r.later L2) s h5 hf (K.later (L.trans L2))
end
end
end
section
set_option compiler.extract_closed false
section
open PySem PySem.W PyProof.Rows
section
variable{C:Cx}{Γ:d6}
abbrev FI(C:Cx):=∀Γ e,{i:XI×Bool // h9 C Γ e i.1 i.2}
abbrev FT(C:Cx):=∀Γ cc e,Option {t:Tg // pw C Γ cc e t}
structure Lv(C:Cx)where
 x:FX C
 c:FC C
 i:FI C
 t:FT C
noncomputable def bI{e:SQ}:{i:XI×Bool // h9 C Γ e i.1 i.2}:=⟨(OM,true),λZ Z Z Z Z Z Z h=>by exact aD h⟩
noncomputable def xf(kd:Str->Option V0)(sc:Vv):Bool:=
 (match sc.kind with|.function=>true|_=>false)&&sc.names.all (λx=>match x.2 with
  |.cell=>false
  |.local=>gk (sc.names.lookup x.1)
  |.free=>(match sc.names.lookup x.1 with|some .free=>true|_=>false)&&(match kd x.1 with|some .cell=>true|some .free=>true|_=>false)
  |_=>true)&&!gk (sc.names.lookup ("FP":Str))
theorem pY{k:Option V0}(h:(match k with|some .free=>true|_=>false)=true):k=some .free:=by
 cases k with
 |none=>exact aD h
 |some k=>cases k<;>first|rfl|exact aD h
theorem wM{k:Option V0}(h:(match k with|some .cell=>true|some .free=>true|_=>false)=true):k=some .cell∨k=some .free:=by
 cases k with
 |none=>exact aD h
 |some k=>cases k<;>first|exact .inl rfl|exact .inr rfl|exact aD h
theorem ye{kd:Str->Option V0}{sc:Vv}(h:xf kd sc=true):vK kd sc:=by
 refine iJ h ?_;clear h;intro h h3;refine iJ h ?_;intro h1 h2;have h2:=TP.mp h2;refine⟨?_,λx hx e=>?_,λx hx e=>?_,λx hx e=>?_,λe=>?_⟩
 ·cases hk:sc.kind<;>rw[hk]at h1<;>first|rfl|exact aD h1
 ·have:=h2 x hx;rw[e]at this;exact aD this
 ·have:=h2 x hx;rw[e]at this;exact ff this
 ·have:=h2 x hx;rw[e]at this;refine iJ this ?_;intro a b;exact⟨pY a,wM b⟩
 ·rw[e]at h3;exact aD h3
def Fn(Γ:d6):∀ns:List Str,Option {x:X // oX Γ ns x}:=@V2 _ (λns=>Option {x:X // oX Γ ns x}) (some ⟨aj,yi⟩) λn ns ih=>eH ih (λr Z=>eH (Γ.slot n) (λq hs=>some ⟨ad (ae q) r.1,vC hs r.2⟩) none) none
noncomputable def kW:SQ->List Str
 |.Name s _=>[s]
 |.Tuple es _ _=>es.filterMap λ|.Name s _=>some s|_=>none
 |_=>[]
section
variable{P₀:Pg}(O:C.Ok P₀)
include O
variable{nm:Str}{p pos ap:Pos}
def Ri(lo:Γ.loud=true)(L:FX C)(n:String)(hg:P₀.gl nm=some (.bi n))(hk:Γ.kd nm=some .globalImplicit)(hd:gC nm=false)(args:List SQ):RX C Γ (.Call (.Name nm p) args [] pos):=match args with
 |[]=>cu (n=="set") (λh=>⟨Cq,CJ O (eq_of_beq h▸hg) hk hd⟩) bX
 |[e]=>cu (!bx e) (λhs=>
  cu (n=="len") (λh=>⟨cW P₀.ln.1 P₀.ln.2 (L Γ e).1,CR O lo (eq_of_beq h▸hg) hk hd (bc hs) (L Γ e).2⟩)<|
  cu (n=="tuple") (λh=>⟨rU (L Γ e).1,xy O (eq_of_beq h▸hg) hk hd (bc hs) (L Γ e).2⟩)<|
  cu (n=="list") (λh=>⟨gu (L Γ e).1,uG O lo (eq_of_beq h▸hg) hk hd (bc hs) (L Γ e).2⟩)<|
  cu (n=="all") (λh=>⟨Gi (L Γ e).1,Da O lo (eq_of_beq h▸hg) hk hd (bc hs) (L Γ e).2⟩)<|
  cu (n=="sum") (λh=>⟨Cp (L Γ e).1,CG O lo (eq_of_beq h▸hg) hk hd (bc hs) (L Γ e).2⟩) bX) bX
 |[e,e']=>cu (!bx e) (λhs=>cu (!bx e') (λhs'=>cu (n=="min") (λh=>⟨bj Jo (L Γ e).1 (L Γ e').1,CQ O lo (eq_of_beq h▸hg) hk hd (bc hs) (bc hs') (L Γ e).2 (L Γ e').2⟩) bX) bX) bX
 |_=>bX
def J7(lo:Γ.loud=true)(L:FX C)(args:List SQ):RX C Γ (.Call (.Name nm p) args [] pos):=
 cu (lg (Γ.kd nm)) (λhk=>cu (!gC nm) (λhd=>eH (P₀.gl nm) (λg hg=>(match(motive:=∀g,P₀.gl nm=some g->RX C Γ (.Call (.Name nm p) args [] pos)) g,hg with
  |.fn q,hg=>eH (nW (L Γ) args) (λr Z=>⟨b8 q r.1,xF O lo hg (fg hk) (bc hd) r.2.2 r.2.1⟩) bX
  |.cls c q,hg=>eH (nW (L Γ) args) (λr Z=>⟨qv c q r.1,CO O lo hg (fg hk) (bc hd) r.2.2 r.2.1⟩) bX
  |.bi n,hg=>Ri O lo L n hg (fg hk) (bc hd) args
  |_,_=>bX)) bX) bX) (eH (nW (L Γ) args) (λr Z=>⟨qw (J0 (Γ:=Γ) nm p).1 r.1,xD lo (J0 (Γ:=Γ) nm p).2 rfl r.2.2 r.2.1⟩) bX)
omit O in
noncomputable def OJ:SQ->Bool
 |.Attribute _ a _=>a==("sr_conflicts":Str)
 |_=>false
def J5{o e:SQ}(y:RX C Γ o)(x:RX C Γ e)(ho:aN o=false)(hp:cP ap pos=true)(hs:bx e=false)(z:RX C Γ (.Call (.Attribute o nm ap) [e] [] pos)):RX C Γ (.Call (.Attribute o nm ap) [e] [] pos):=
 cu (nm==("append":Str)) (λh=>cu (OJ o) (λzz=>⟨Gh y.1 x.1,by cases eq_of_beq h;exact D8 ho y.2 hs hp x.2⟩) ⟨dy y.1 x.1,by cases eq_of_beq h;exact D7 ho y.2 hs hp x.2⟩)<|
 cu (nm==("get":Str)) (λh=>⟨gK y.1 x.1,by cases eq_of_beq h;exact zH O ho y.2 hs hp x.2⟩)<|
 cu (nm==("add":Str)) (λh=>⟨rV y.1 x.1,by cases eq_of_beq h;exact zu ho y.2 hs hp x.2⟩) z
def J4{o e e':SQ}(y:RX C Γ o)(x:RX C Γ e)(x':RX C Γ e')(ho:aN o=false)(hp:cP ap pos=true)(hs:bx e=false)(hs':bx e'=false)(z:RX C Γ (.Call (.Attribute o nm ap) [e,e'] [] pos)):RX C Γ (.Call (.Attribute o nm ap) [e,e'] [] pos):=
 cu (nm==("get":Str)) (λh=>⟨iu y.1 x.1 x'.1,by cases eq_of_beq h;exact zG O ho y.2 hs hs' hp x.2 x'.2⟩)<|
 cu (nm==("insert":Str)) (λh=>⟨Gg y.1 x.1 x'.1,by cases eq_of_beq h;exact CT ho y.2 hs hs' hp x.2 x'.2⟩) z
def Oo{o:SQ}(y:RX C Γ o)(ho:aN o=false)(hp:cP ap pos=true)(args:List SQ)(z:RX C Γ (.Call (.Attribute o nm ap) args [] pos)):RX C Γ (.Call (.Attribute o nm ap) args [] pos):=match(motive:=∀args,RX C Γ (.Call (.Attribute o nm ap) args [] pos)->RX C Γ (.Call (.Attribute o nm ap) args [] pos)) args,z with
 |[],z=>cu (nm==("pop":Str)) (λh=>⟨Cr y.1,by cases eq_of_beq h;exact CM ho y.2 hp⟩) z
 |[.Constant (.int (.ofNat 0)) n p'],z=>cu (nm==("pop":Str)) (λh=>⟨rW y.1,by cases eq_of_beq h;exact zx ho y.2 hp⟩) z
 |_,z=>z
def J1{o:SQ}(lo:Γ.loud=true)(L:FX C)(y:RX C Γ o)(ho:aN o=false)(hp:cP ap pos=true)(args:List SQ):RX C Γ (.Call (.Attribute o nm ap) args [] pos):=
 eH (P₀.mt nm) (λcq hm=>eH (nW (L Γ) args) (λr Z=>cu (T3 args.length 19) (λhl=>⟨bU cq.1 cq.2 y.1 r.1,xE O lo hm ho y.2 r.2.2 hl hp r.2.1⟩) bX) bX) bX
def Mf{o e:SQ}(x:RX C Γ e)(hp:cP ap pos=true)(hs:bx e=false)(z:RX C Γ (.Call (.Attribute o nm ap) [e] [] pos)):RX C Γ (.Call (.Attribute o nm ap) [e] [] pos):=match(motive:=∀o,RX C Γ (.Call (.Attribute o nm ap) [e] [] pos)->RX C Γ (.Call (.Attribute o nm ap) [e] [] pos)) o,z with
 |.Constant (.str s) n p,z=>cu (Fj s) (λok=>cu (nm==("join":Str)) (λh=>⟨vM (iI s) x.1,by cases eq_of_beq h;exact zD ok hs hp x.2⟩) z) z
 |_,z=>z
def Me{o:SQ}(lo:Γ.loud=true)(L:FX C)(args:List SQ):RX C Γ (.Call (.Attribute o nm ap) args [] pos):=
 cu (!aN o) (λho=>cu (cP ap pos) (λhp=>Oo (L Γ o) (bc ho) hp args (match args with
  |[e]=>cu (!bx e) (λhs=>J5 O (L Γ o) (L Γ e) (bc ho) hp (bc hs) (Mf (L Γ e) hp (bc hs) (J1 O lo L (L Γ o) (bc ho) hp [e]))) bX
  |[e,e']=>cu (!bx e) (λhs=>cu (!bx e') (λhs'=>J4 O (L Γ o) (L Γ e) (L Γ e') (bc ho) hp (bc hs) (bc hs') (J1 O lo L (L Γ o) (bc ho) hp [e,e'])) bX) bX
  |args=>J1 O lo L (L Γ o) (bc ho) hp args)) bX) bX
omit O in
def AM(L:∀e,RX C Γ e):∀es,{x:X // ym C Γ es x}:=@V2 _ (λes=>{x:X // ym C Γ es x}) ⟨aj,zY⟩ λe es ih=>⟨iX (L e).1 ih.1,xJ (L e).2 ih.2⟩
omit O in
noncomputable def Ot(M:FC C)(ifs:List SQ):Option {c:Cn // oR C Γ ifs c}:=match ifs with
 |[]=>some ⟨iB,uJ⟩
 |[e]=>some ⟨(M Γ e).1,uI (M Γ e).2⟩
 |_=>none
omit O in
def sW{α:Type}(L:Lv C)(target iter:SQ)(ifs:List SQ)(sc:Vv)(z:α)(k:∀caps xi tg test,kO C Γ target iter ifs sc caps tg test (kW target)->h9 C Γ iter xi false->α):α:=
 cu Γ.loud (λlo=>cu (xf Γ.kd sc) (λok=>cu (!(L.i Γ iter).1.2) (λhi=>cu (l9 iter) (λns=>eH (Fn Γ (frees sc)) (λcp Z=>
  let Δ:d6:=⟨fK Γ.kd sc,frees sc++kW target,Γ.loud,false⟩
  eH (L.t Δ false target) (λt Z=>eH (Ot (Γ:=Δ) L.c ifs) (λf Z=>k cp.1 (L.i Γ iter).1.1 t.1 f.1 ⟨lo,ye ok,ns,cp.2,t.2,f.2⟩ (by have:=(L.i Γ iter).2;rw[bc hi]at this;exact this)) z) z) z) z) z) z) z
omit O in
noncomputable abbrev E0(Γ:d6)(sc:Vv)(target:SQ):d6:=⟨fK Γ.kd sc,frees sc++kW target,Γ.loud,false⟩
omit O in
noncomputable def fz(Γ:d6):Bool:=gk (Γ.kd ("inner":Str))||gk (Γ.kd ("trees":Str))
omit O in
def mF(L:FX C)(Γ:d6)(e:SQ):RX C Γ e:=match e with
 |.List es p=>eH (nW (L Γ) es) (λr Z=>⟨p7 r.1,GM r.2.1⟩) bX
 |.Subscript o (.Slice (some i) none none p1) p2=>⟨kT (L Γ o).1 (L Γ i).1,xz (L Γ o).2 (L Γ i).2⟩
 |e=>L Γ e
omit O in
def Rg(L:∀e,RX C Γ e):∀ks vs,Option {x:X // yn C Γ ks vs x}:=@V2 _ (λks=>∀vs,Option {x:X // yn C Γ ks vs x}) (λvs=>match vs with
 |[]=>some ⟨aj,A0⟩
 |_=>none) λk ks ih vs=>match k,vs with
 |some k,v::vs=>eH (ih vs) (λr Z=>some ⟨ad (L k).1 (ad (L v).1 r.1),xL (L k).2 (L v).2 r.2⟩) none
 |_,_=>none
omit O in
def Mg(L:∀e,RX C Γ e)(ks:List (Option SQ))(vs:List SQ)(p:Pos):RX C Γ (.Dict ks vs p):=
 cu (ks.all (·.isSome)) (λh1=>cu (SS ks.length vs.length) (λh2=>cu (T3 1 ks.length) (λh0=>cu (T3 ks.length 15) (λh3=>eH (Rg L ks vs) (λr Z=>⟨s8 r.1,zL r.2 h1 (T6 h2) (λz=>by rw[z]at h0;exact aD h0) (SP h3)⟩) bX) bX) bX) bX) bX
def Rf(L:Lv C)(Γ:d6){s:Str}{p1 p2 p3 p:Pos}{a n:Nat}{b:SQ}(z:RX C Γ (.BinOp (.BinOp (.Name s p1) .FloorDiv (.Constant (.int (.ofNat a)) n p2) p3) .Mod b p)):RX C Γ (.BinOp (.BinOp (.Name s p1) .FloorDiv (.Constant (.int (.ofNat a)) n p2) p3) .Mod b p):=
 cu (s==("head":Str)) (λhs=>eH (Γ.slot s) (λq hq=>cu (!gC s) (λh1=>cu (!(s==("__classdict__":Str))) (λh2=>⟨uj q a (L.x Γ b).1,GL O hq (mn hq (bc h1) (bc h2)) (L.x Γ b).2⟩) z) z) z) z
def Ou(L:Lv C)(Γ:d6){s:Str}{p1 p:Pos}{b:SQ}(z:RX C Γ (.BinOp (.Name s p1) .Mod b p)):RX C Γ (.BinOp (.Name s p1) .Mod b p):=
 cu (s==("head":Str)) (λhs=>eH (Γ.slot s) (λq hq=>cu (!gC s) (λh1=>cu (!(s==("__classdict__":Str))) (λh2=>⟨uj q 1 (L.x Γ b).1,CW O hq (mn hq (bc h1) (bc h2)) (L.x Γ b).2⟩) z) z) z) z
def mX(L:Lv C):FX C:=λΓ e=>match e with
 |.Constant c n p=>J6 c n p
 |.Name s p=>Md O s p
 |.Attribute o a p=>Mi O a p (L.x Γ o)
 |.Subscript o i p=>On O L.x (L.x Γ o) (mF L.x Γ o) i p
 |.Tuple es n p=>eH (nW (bif fz Γ then mF L.x Γ else L.x Γ) es) (λr Z=>cu (T3 es.length 1000) (λhl=>⟨r.1,CE r.2.1 hl⟩) bX) bX
 |.List es p=>eH (nW (L.x Γ) es) (λr Z=>⟨aS r.1,jY r.2.1⟩) bX
 |.Dict [] [] p=>⟨bT,xA⟩
 |.Dict ks vs p=>Mg (L.x Γ) ks vs p
 |.BinOp a .Add b p=>⟨_,fD rL (mF L.x Γ a).2 (mF L.x Γ b).2⟩
 |.BinOp (.List es p1) .Mult b p=>⟨xo (mF L.x Γ (.List es p1)).1 (L.x Γ b).1,CL (mF L.x Γ (.List es p1)).2 (L.x Γ b).2⟩
 |.BinOp (.BinOp (.Name s p1) .FloorDiv (.Constant (.int (.ofNat a)) n p2) p3) .Mod b p=>Rf O L Γ (J8 .Mod p (L.x Γ (.BinOp (.Name s p1) .FloorDiv (.Constant (.int (.ofNat a)) n p2) p3)) (L.x Γ b))
 |.BinOp (.Name s p1) .Mod b p=>Ou O L Γ (J8 .Mod p (L.x Γ (.Name s p1)) (L.x Γ b))
 |.BinOp a op b p=>J8 op p (L.x Γ a) (L.x Γ b)
 |.UnaryOp .USub a p=>⟨eC (L.x Γ a).1,sD (L.x Γ a).2⟩
 |.UnaryOp .Not a p=>⟨fj (fQ (cT (L.x Γ a).1)),CN O (L.x Γ a).2⟩
 |.Compare a [.Is] [.Constant .none n p'] p=>⟨fj (iF (L.x Γ a).1),Ep (L.x Γ a).2⟩
 |.Compare a [.In] [b] p=>Os O p (L.x Γ a) (L.x Γ b)
 |.Compare a [op] [b] p=>AN O op p (L.x Γ a) (L.x Γ b)
 |.BoolOp .And [a,b,c] p=>⟨qx (L.x Γ a).1 (qx (L.x Γ b).1 (L.x Γ c).1),xC (n9 O (L.x Γ a).2 (n9 O (L.x Γ b).2 (xM (L.x Γ c).2)))⟩
 |.BoolOp .And [a,b] p=>⟨qx (L.x Γ a).1 (L.x Γ b).1,D9 O (L.x Γ a).2 (L.x Γ b).2⟩
 |.BoolOp .Or [a,b] p=>⟨PK (L.x Γ a).1 (L.x Γ b).1,GJ O (L.x Γ a).2 (L.x Γ b).2⟩
 |.IfExp d a b p=>⟨iL (L.c Γ d).1 (L.x Γ a).1 (L.x Γ b).1,CV (L.c Γ d).2 (L.x Γ a).2 (L.x Γ b).2⟩
 |.Call (.Name nm p) args [] pos=>cu Γ.loud (λlo=>J7 O lo L.x args) bX
 |.Call (.Attribute o nm ap) args [] pos=>cu Γ.loud (λlo=>Me O lo L.x args) bX
 |.ListComp elt [⟨target,iter,ifs,0⟩] sc pos=>sW L target iter ifs sc bX λZ Z Z Z H hi=>⟨_,zT H hi (L.x (E0 Γ sc target) elt).2⟩
 |.DictComp kx vx [⟨target,iter,ifs,0⟩] sc pos=>sW L target iter ifs sc bX λZ Z Z Z H hi=>⟨_,xB H hi (L.x (E0 Γ sc target) kx).2 (L.x (E0 Γ sc target) vx).2⟩
 |.JoinedStr (a::b::es) p=>cu (T3 es.length 90) (λhl=>⟨rX (AM (L.x Γ) (a::b::es)).1,zI (AM (L.x Γ) (a::b::es)).2 hl⟩) bX
 |.FormattedValue v 115 none p=>⟨rZ (L.x Γ v).1,CX (L.x Γ v).2⟩
 |_=>bX
end
end
end
end
section
set_option compiler.extract_closed false
section
open PySem PySem.W PyProof.Rows
section
variable{C:Cx}{Γ:d6}
section
variable{P₀:Pg}(O:C.Ok P₀)
include O
def DH{e:SQ}(x:RX C Γ e):{i:XI×Bool // h9 C Γ e i.1 i.2}:=⟨(aG x.1,false),uK O x.2⟩
def Re(L:FX C){nm:Str}{p pos:Pos}(hk:Γ.kd nm=some .globalImplicit)(hd:gC nm=false)(n:String)(hg:P₀.gl nm=some (.bi n))(args:List SQ)(z:{i:XI×Bool // h9 C Γ (.Call (.Name nm p) args [] pos) i.1 i.2}):{i:XI×Bool // h9 C Γ (.Call (.Name nm p) args [] pos) i.1 i.2}:=
 match(motive:=∀args,{i:XI×Bool // h9 C Γ (.Call (.Name nm p) args [] pos) i.1 i.2}->{i:XI×Bool // h9 C Γ (.Call (.Name nm p) args [] pos) i.1 i.2}) args,z with
 |[e],z=>cu (!bx e) (λhs=>
  cu (n=="enumerate") (λh=>⟨(tM (L Γ e).1,true),xK O (eq_of_beq h▸hg) hk hd (bc hs) (L Γ e).2⟩)<|
  cu (n=="range") (λh=>⟨(mA (L Γ e).1,false),sI O (eq_of_beq h▸hg) hk hd (bc hs) (L Γ e).2⟩) z) z
 |[e,e'],z=>cu (!bx e) (λhs=>cu (!bx e') (λhs'=>cu (n=="range") (λh=>⟨(wO (L Γ e).1 (L Γ e').1,false),sG O (eq_of_beq h▸hg) hk hd (bc hs) (bc hs') (L Γ e).2 (L Γ e').2⟩) z) z) z
 |_,z=>z
def mI(L:FX C)(Γ:d6)(e:SQ)(x:RX C Γ e):{i:XI×Bool // h9 C Γ e i.1 i.2}:=match(motive:=∀e,RX C Γ e->{i:XI×Bool // h9 C Γ e i.1 i.2}) e,x with
 |.Call (.Name nm p) args [] pos,x=>cu (lg (Γ.kd nm)) (λhk=>cu (!gC nm) (λhd=>eH (P₀.gl nm) (λg hg=>(match(motive:=∀g,P₀.gl nm=some g->{i:XI×Bool // h9 C Γ (.Call (.Name nm p) args [] pos) i.1 i.2}) g,hg with
  |.bi n,hg=>Re O L (fg hk) (bc hd) n hg args (DH O x)
  |_,_=>DH O x)) (DH O x)) (DH O x)) (DH O x)
 |.Call (.Attribute o a ap) [] [] pos,x=>cu (a==("items":Str)) (λh=>cu (!aN o) (λho=>cu (cP ap pos) (λhp=>⟨(vc (L Γ o).1,true),by cases eq_of_beq h;exact uL O (bc ho) hp (L Γ o).2⟩) (DH O x)) (DH O x)) (DH O x)
 |_,x=>DH O x
end
noncomputable def DZ:Option V0->Bool
 |some .cell=>true
 |_=>false
theorem rA{k:Option V0}(h:DZ k=true):k=some .cell:=by
 cases k with
 |none=>exact aD h
 |some k=>cases k<;>first|rfl|exact aD h
def Ra{cc:Bool}(T:∀e,Option {t:Tg // pw C Γ cc e t}):∀es,Option {t:Tg // qj C Γ cc es t}:=@V2 _ (λes=>Option {t:Tg // qj C Γ cc es t}) (some ⟨tN,xI⟩) λe es ih=>eH (T e) (λt Z=>eH ih (λr Z=>some ⟨tC t.1 r.1,uH t.2 r.2⟩) none) none
def mT(T:FT C)(Γ:d6)(cc:Bool)(e:SQ):Option {t:Tg // pw C Γ cc e t}:=match e with
 |.Name s p=>eH (Γ.slot s) (λq hs=>cu (gk (Γ.kd s)) (λh=>some ⟨t1 q,kZ hs (.inl (ff h))⟩) (cu (DZ (Γ.kd s)) (λh=>cu (C.asg s) (λh2=>cu cc (λh3=>some ⟨t1 q,kZ hs (.inr ⟨rA h,h2,h3⟩)⟩) none) none) none)) none
 |.Tuple es n p=>cu Γ.loud (λlo=>eH (Ra (T Γ cc) es) (λt Z=>some ⟨t.1,zW lo t.2⟩) none) none
 |_=>none
def lv{P₀:Pg}(O:C.Ok P₀)(n:Nat):Lv C:=@V3 (λZ=>Lv C) ⟨λZ Z=>bX,λZ Z=>bC,λZ Z=>bI,λZ Z Z=>none⟩ (λZ L=>⟨mX O L,mC O L.x L.c,λΓ e=>mI O L.x Γ e (mX O L Γ e),mT L.t⟩) n
abbrev RQ(C:Cx)(Γ:d6)(e:SQ):=Option {x:X // bv C Γ e x∧QX x}
abbrev RP(C:Cx)(Γ:d6)(e:SQ):=Option {p:PX // oQ C Γ e p}
section
variable{P₀:Pg}(O:C.Ok P₀)
include O
def Rb(s:Str)(p:Pos):RQ C Γ (.Name s p):=eH (Γ.slot s) (λq hs=>cu (!gC s) (λh1=>cu (!(s==("__classdict__":Str))) (λh2=>some ⟨ae q,mn hs (bc h1) (bc h2),IL⟩) none) none) none
def mQ(Q:∀e,RQ C Γ e)(e:SQ):RQ C Γ e:=match e with
 |.Name s p=>cu (lg (Γ.kd s)) (λhk=>cu (!gC s) (λhd=>eH (P₀.gl s) (λg hg=>(match(motive:=∀g,P₀.gl s=some g->RQ C Γ (.Name s p)) g,hg with
  |.con v,hg=>some ⟨af v,w8 O hg (fg hk) (bc hd),Ar⟩
  |_,_=>none)) none) none) (Rb s p)
 |.Constant (.int (.ofNat i)) n p=>some ⟨af (.nat i),i4,Ar⟩
 |.UnaryOp .USub (.Constant (.int (.ofNat i)) n p) p'=>none
 |.Attribute o a p=>eH (C.sl a) (λq hs=>cu (!aN o) (λho=>eH (Q o) (λr Z=>some ⟨ai q r.1,sE O hs (bc ho) r.2.1,Dm r.2.2⟩) none) none) none
 |.BinOp a .Add (.Constant (.int (.ofNat i)) n p) p'=>eH (Q a) (λr Z=>some ⟨bj cI r.1 (af (.nat i)),fD rL r.2.1 i4,IN r.2.2⟩) none
 |.BinOp a .Sub (.Constant (.int (.ofNat i)) n p) p'=>eH (Q a) (λr Z=>some ⟨bj lP r.1 (af (.nat i)),fD xk r.2.1 i4,IM r.2.2⟩) none
 |_=>none
def Rj(n:Nat):∀e,RQ C Γ e:=@V3 (λzz=>∀e,RQ C Γ e) (λzz=>none) (λzz Q=>mQ O Q) n
def mP(lo:Γ.loud=true)(Q:∀e,RQ C Γ e)(P:∀e,RP C Γ e)(e:SQ):RP C Γ e:=match(motive:=∀e,RQ C Γ e->RP C Γ e) e,Q e with
 |.Subscript o i p,_=>eH (P o) (λx Z=>eH (P i) (λy Z=>cu (!gB i) (λh=>some ⟨uW x.1 y.1,zX O lo x.2 y.2 (bc h)⟩) none) none) none
 |_,q=>eH q (λr Z=>some ⟨pX r.1,GN r.2.1 r.2.2⟩) none
def Q0(lo:Γ.loud=true)(n:Nat):∀e,RP C Γ e:=@V3 (λzz=>∀e,RP C Γ e) (λzz=>none) (λzz P=>mP O lo (Rj O 9) P) n
def mZ(lo:Γ.loud=true)(s:W8):Option {p:PX // EP C Γ s p}:=match s with
 |.Assign [te] e pos=>eH (Q0 O lo 9 e) (λr Z=>cu (!gG e) (λh=>cu (!(iZ te&&iZ e)) (λh2=>some ⟨r.1,zV r.2 (bc h) (bc h2)⟩) none) none) none
 |.Expr (.Call (.Attribute o nm ap) args [] pos) pos2=>eH (Q0 O lo 9 o) (λr Z=>cu (!aN o) (λh=>some ⟨r.1,xH r.2 (bc h)⟩) none) none
 |_=>none
end
theorem Bd:jQ 0 "KeyError":=.inl ⟨rfl,rfl⟩
theorem Be:jQ 1 "IndexError":=.inr ⟨rfl,rfl⟩
end
end
end
section
set_option compiler.extract_closed false
section
open PySem PySem.W PyProof.Rows
section
variable{C:Cx}{Γ:d6}
abbrev LQ:=Pa×Ux×SQ×Vv
def me(C:Cx)(l:List LQ):Prop:=∀r∈l,C.lam r.1=some r.2
theorem me.l{a b:List LQ}(h:me C (a++b)):me C a:=λr k=>h r (UI _ k)
theorem me.r{a b:List LQ}(h:me C (a++b)):me C b:=λr k=>h r (TU _ k)
abbrev RS(C:Cx)(Γ:d6)(s:W8):={p:Y×List LQ // me C p.2->du C Γ s p.1}
abbrev Qk(C:Cx)(Γ:d6)(ss:List W8):={p:Y×List LQ // me C p.2->lI C Γ ss p.1}
theorem zZ{w:Tt->Sem UL}:C1 C Γ fH w:=λZ Z Z Z Z Z Z Z h Z=>by exact aD h
noncomputable def pS{w:Tt->Sem UL}(y:Y)(l:List LQ)(h:me C l->C1 C Γ y w):{p:Y×List LQ // me C p.2->C1 C Γ p.1 w}:=⟨(y,l),h⟩
noncomputable def bS{s:W8}:RS C Γ s:=pS fH [] λzz=>zZ
def kP(S:∀s,RS C Γ s):∀ss,Qk C Γ ss:=@V2 _ (λss=>Qk C Γ ss) (pS ab [] λzz=>A8) λs ss ih=>pS (ac (S s).1.1 ih.1.1) ((S s).1.2++ih.1.2) λh=>pH ((S s).2 h.l) (ih.2 h.r)
def NE(s:Str)(k:Nat):Prop:=∃T:String,jQ k T∧s=Tu T
def Ow(s:Str):Option {k:Nat // NE s k}:=
 cu (s==("KeyError":Str)) (λh=>some ⟨0,"KeyError",Bd,eq_of_beq h⟩) (cu (s==("IndexError":Str)) (λh=>some ⟨1,"IndexError",Be,eq_of_beq h⟩) none)
theorem EC{s:Str}{k:Nat}{p:Pos}(h:NE s k)(g:lg (Γ.kd s)=true):jR Γ (.Name s p) [k]:=by
 refine ag h ?_;clear h;rintro T h rfl;exact .one h (fg g)
theorem EB{s s':Str}{k k' n:Nat}{p p1 p2:Pos}(h:NE s k)(g:lg (Γ.kd s)=true)(h':NE s' k')(g':lg (Γ.kd s')=true):jR Γ (.Tuple [.Name s p1,.Name s' p2] n p) [k,k']:=by
 refine ag h ?_;clear h;rintro T h rfl;refine ag h' ?_;clear h';rintro T' h' rfl;exact .two h h' (fg g) (fg g')
def Rh(Γ:d6)(t:SQ):Option {ks:List Nat // jR Γ t ks}:=match t with
 |.Name s p=>eH (Ow s) (λk Z=>cu (lg (Γ.kd s)) (λh=>some ⟨[k.1],EC k.2 h⟩) none) none
 |.Tuple [.Name s p1,.Name s' p2] n p=>eH (Ow s) (λk Z=>cu (lg (Γ.kd s)) (λh=>eH (Ow s') (λk' Z=>cu (lg (Γ.kd s')) (λh'=>some ⟨[k.1,k'.1],EB k.2 h k'.2 h'⟩) none) none) none) none
 |_=>none
def Mh(op:WZ):Option {g:KT->KV->KT // oZ C op g}:=match op with
 |.Add=>some ⟨cI,EK⟩
 |.Sub=>some ⟨lP,EJ⟩
 |_=>none
def R9(s:Str):Option {u:Unit // Γ.kd s=some .local∨Γ.kd s=some .cell∧C.asg s=true}:=
 cu (gk (Γ.kd s)) (λh=>some ⟨(),.inl (ff h)⟩) (cu (DZ (Γ.kd s)) (λh=>cu (C.asg s) (λh2=>some ⟨(),.inr ⟨rA h,h2⟩⟩) none) none)
section
variable{P₀:Pg}(O:C.Ok P₀)
include O
omit O in
theorem LT{sl:Pa}{nm:Str}{c0:Nat}{v0:KV}(h:P₀.df nm=some (c0,v0))(k:KT)(s:KS)(c:Nat)(fs:T KV)(q:ci (tg sl fs) (az (SS c c0) false (k s v0)) (k s)=true):(∃x,tg sl fs=some x∧k s x=true)∨tg sl fs=none∧∃x,P₀.df nm=some (c,x)∧k s x=true:=by
 cases e:tg sl fs with
 |some x=>rw[e]at q;exact .inl ⟨x,rfl,q⟩
 |none=>
  rw[e]at q;refine dI q ?_;intro h1 h2;cases cg.mp h1;exact .inr ⟨rfl,v0,h,h2⟩
def Oy(L:Lv C)(lm:Int->Option Pa)(t e:SQ)(pos:Pos):RS C Γ (.Assign [t] e pos):=match e with
 |.Lambda a b sc p=>(match t with
  |.Name n p'=>eH (lm p.line) (λq Z=>eH (Γ.slot n) (λsl hs=>cu (gk (Γ.kd n)) (λhl=>cu (gk (Γ.kd "FP")) (λhf=>cu (a.defaults.isEmpty&&a.kw_defaults.isEmpty) (λhd=>cu (sc.names.all λx=>(match x.2 with|.free=>true|_=>false)|>λy=>!y||(!C.asg x.1&&(match Γ.kd x.1 with|some .cell=>true|some .free=>true|_=>false))) (λhv=>eH (Fn Γ (frees sc)) (λcp Z=>
    (pS (ao (t1 sl) (xp q cp.1)) ([(q,a,b,sc)]) λH=>CS O ⟨ff hf,(by refine ak (Ts.mp hd) ?_;intro h1 h2;exact⟨Vy.mp h1,Vy.mp h2⟩),H _ SX,(λx hx e=>by
     have:=TP.mp hv x hx;rw[e]at this;refine iJ this ?_;intro h1 h2;exact⟨bc h1,wM h2⟩),cp.2⟩ hs (ff hl))) bS) bS) bS) bS) bS) bS) bS
  |_=>bS)
 |.ListComp elt [⟨target,iter,ifs,0⟩] sc p2=>(match t with
  |.Name n p'=>eH (Γ.slot n) (λsl hs=>cu (gk (Γ.kd n)) (λhl=>sW L target iter ifs sc bS λZ Z Z Z H hi=>(pS (_) ([]) λZ=>sF H hi (L.x (E0 Γ sc target) elt).2 hs (ff hl))) bS) bS
  |_=>bS)
 |.DictComp kx vx [⟨target,iter,ifs,0⟩] sc p2=>(match t with
  |.Name n p'=>eH (Γ.slot n) (λsl hs=>cu (gk (Γ.kd n)) (λhl=>sW L target iter ifs sc bS λZ Z Z Z H hi=>(pS (_) ([]) λZ=>qG H hi (L.x (E0 Γ sc target) kx).2 (L.x (E0 Γ sc target) vx).2 hs (ff hl))) bS) bS
  |_=>bS)
 |.List [] lp=>(match t with
  |.Attribute o a p=>eH (C.sl a) (λq hn=>cu (a==("sr_conflicts":Str)) (λZ=>(pS (cF q (L.x Γ o).1 NF) ([]) λZ=>qH O hn rfl GK (L.x Γ o).2)) (pS (cF q (L.x Γ o).1 (aS aj)) ([]) λZ=>qH O hn rfl (jY c9) (L.x Γ o).2)) bS
  |.Subscript o i p=>cu (!gB i) (λhi=>(pS (bR (L.x Γ o).1 (L.x Γ i).1 (aS aj)) ([]) λZ=>wb rfl (bc hi) (jY c9) (L.x Γ o).2 (L.x Γ i).2)) bS
  |t=>cu (!(iZ t)) (λh2=>eH (L.t Γ true t) (λtg Z=>(pS (ao tg.1 (aS aj)) ([]) λZ=>wa (jY c9) tg.2 rfl (by rw[bc h2];rfl))) bS) bS)
 |e=>cu (!gG e) (λhc=>(match t with
  |.Attribute o a p=>eH (C.sl a) (λq hn=>(pS (cF q (L.x Γ o).1 (L.x Γ e).1) ([]) λZ=>qH O hn (bc hc) (L.x Γ e).2 (L.x Γ o).2)) bS
  |.Subscript o i p=>cu (!gB i) (λhi=>(pS (bR (L.x Γ o).1 (L.x Γ i).1 (L.x Γ e).1) ([]) λZ=>wb (bc hc) (bc hi) (L.x Γ e).2 (L.x Γ o).2 (L.x Γ i).2)) bS
  |t=>cu (!(iZ t&&iZ e)) (λh2=>eH (L.t Γ true t) (λtg Z=>(pS (ao tg.1 (L.x Γ e).1) ([]) λZ=>wa (L.x Γ e).2 tg.2 (bc hc) (bc h2))) bS) bS)) bS
theorem D5{sl c:_}{nm:Str}{v:KV}{o e:SQ}{p pos:Pos}{op:WZ}{g:KT->KV->KT}{x y:X}(hn:C.sl nm=some sl)(hd:P₀.df nm=some (c,v))(hg:oZ C op g)(hx:bv C Γ e x)(ho:bv C Γ o y):du C Γ (.AugAssign (.Attribute o nm p) op e pos) (lZ (DT sl c v) sl g y x):=
 w9 O (gg:=λk s c1 fs=>ci (tg sl fs) (az (SS c1 c) false (k s v)) (k s)) hn (λZ Z Z=>rfl) (LT hd) hg hx ho
theorem D4{sl:_}{nm:Str}{o e:SQ}{p pos:Pos}{op:WZ}{g:KT->KV->KT}{x y:X}(hn:C.sl nm=some sl)(hg:oZ C op g)(hx:bv C Γ e x)(ho:bv C Γ o y):du C Γ (.AugAssign (.Attribute o nm p) op e pos) (lZ (KR sl) sl g y x):=
 w9 O (gg:=λk s c1 fs=>ci (tg sl fs) false (k s)) hn (λZ Z Z=>rfl) (λk s c fs h=>.inl (nM h)) hg hx ho
def mS(L:Lv C)(lm:Int->Option Pa)(S:∀Γ s,RS C Γ s)(Γ:d6)(s:W8):RS C Γ s:=match s with
 |.Expr e p=>cu (!gG e) (λh=>(pS (aX (L.x Γ e).1) ([]) λZ=>zK (L.x Γ e).2 (bc h))) bS
 |.Assign [t] e p=>Oy O L lm t e p
 |.AugAssign (.Name n p) op e pos=>eH (Γ.slot n) (λq hs=>eH (R9 (C:=C) (Γ:=Γ) n) (λk Z=>cu (!(n==("__classdict__":Str))) (λhc=>eH (Mh (C:=C) op) (λg Z=>(pS (uo q g.1 (L.x Γ e).1) ([]) λZ=>D3 hs k.2 (bc hc) g.2 (L.x Γ e).2)) bS) bS) bS) bS
 |.AugAssign (.Attribute o a p) op e pos=>eH (C.sl a) (λq hn=>eH (Mh (C:=C) op) (λg Z=>eH (P₀.df a) (λcv hd=>(pS (lZ (DT q cv.1 cv.2) q g.1 (L.x Γ o).1 (L.x Γ e).1) ([]) λZ=>D5 O hn hd g.2 (L.x Γ e).2 (L.x Γ o).2))
   (pS (lZ (KR q) q g.1 (L.x Γ o).1 (L.x Γ e).1) ([]) λZ=>D4 O hn g.2 (L.x Γ e).2 (L.x Γ o).2)) bS) bS
 |.If e a b p=>(pS (bE (L.c Γ e).1 (kP (S Γ) a).1.1 (kP (S Γ) b).1.1) ((kP (S Γ) a).1.2++(kP (S Γ) b).1.2) λh=>zE (L.c Γ e).2 ((kP (S Γ) a).2 h.l) ((kP (S Γ) b).2 h.r))
 |.While e a b p=>(pS (ez (L.c Γ e).1 (kP (S Γ) a).1.1 (kP (S Γ) b).1.1) ((kP (S Γ) a).1.2++(kP (S Γ) b).1.2) λh=>xx (L.c Γ e).2 ((kP (S Γ) a).2 h.l) ((kP (S Γ) b).2 h.r))
 |.For t i a b p=>cu Γ.loud (λlo=>cu (l9 i) (λhs=>cu (!(L.i Γ i).1.2||ij t) (λho=>eH (L.t Γ true t) (λtg Z=>(pS (cj (L.i Γ i).1.1 tg.1 (kP (S Γ) a).1.1 (kP (S Γ) b).1.1) ((kP (S Γ) a).1.2++(kP (S Γ) b).1.2) λh=>w7 lo (L.i Γ i).2 hs tg.2 ((kP (S Γ) a).2 h.l) ((kP (S Γ) b).2 h.r) (λz=>by rw[z]at ho;exact ho))) bS) bS) bS) bS
 |.Delete [.Subscript o (.Slice (some (.UnaryOp .USub (.Constant (.int (.ofNat 2)) n p1) p2)) none none p') p] pos=>(pS (yO (L.x Γ o).1) ([]) λZ=>zM (L.x Γ o).2)
 |.Return (some e) p=>(pS (bL (L.x Γ e).1) ([]) λZ=>CK (L.x Γ e).2)
 |.Return none p=>(pS (F0) ([]) λZ=>zw)
 |.Break p=>(pS (mR) ([]) λZ=>D0)
 |.Continue p=>(pS (lJ) ([]) λZ=>zS)
 |.Pass p=>(pS (ab) ([]) λZ=>zy)
 |.Assert e m p=>(pS (Gf (L.c Γ e).1) ([]) λZ=>D6 (L.c Γ e).2)
 |.Try [b] [.ExceptHandler (some tt) none [hd] hp] [] [] p=>cu Γ.loud (λlo=>cu Γ.st (λst=>eH (mZ O lo b) (λz Z=>eH (Rh Γ tt) (λks Z=>(pS (yN z.1 ks.1 (S Γ b).1.1 (S {Γ with loud:=false} hd).1.1) ((S Γ b).1.2++(S {Γ with loud:=false} hd).1.2) λh=>CF O lo st z.2 ((S Γ b).2 h.l) ks.2 ((S {Γ with loud:=false} hd).2 h.r))) bS) bS) bS) bS
 |_=>bS
def Fo(L:Lv C)(lm:Int->Option Pa)(n:Nat):∀Γ s,RS C Γ s:=@V3 (λZ=>∀Γ s,RS C Γ s) (λZ Z=>bS) (λZ S=>mS O L lm S) n
set_option genCtorIdx false in
inductive Ov where
 |k|d1|d2
 |n (o c:Ov)
 |s (a b:Ov)
omit O in
def y7(o:Ov):(List W8->List (Bool×W8))×(W8->List (Bool×W8)):=@Ov.rec (λZ=>(List W8->List (Bool×W8))×(W8->List (Bool×W8))) (λZ=>[],λZ=>[]) (λZ=>[],λs=>[(true,s)]) (λZ=>[],λs=>[(false,s)])
 (λZ Z io ic=>(λss=>match ss with
  |[]=>[]
  |s::r=>io.2 s++ic.1 r,λZ=>[]))
 (λZ Z ia ib=>(λZ=>[],λs=>match s with
  |.If _ x y _=>ia.1 x++ib.1 y
  |.For _ _ x y _=>ia.1 x++ib.1 y
  |_=>[])) o
omit O in
def fu(C:Cx)(Γ:d6)(y1 y2:Y)(l:List (Bool×W8)):Prop:=∀x∈l,du C Γ x.2 (bif x.1 then y1 else y2)
omit O in
theorem fu.l{y1 y2:Y}{a b:List (Bool×W8)}(h:fu C Γ y1 y2 (a++b)):fu C Γ y1 y2 a:=λx k=>h x (UI _ k)
omit O in
theorem fu.r{y1 y2:Y}{a b:List (Bool×W8)}(h:fu C Γ y1 y2 (a++b)):fu C Γ y1 y2 b:=λx k=>h x (TU _ k)
omit O in
def DG(L:Lv C)(S:∀Γ s,RS C Γ s)(Γ:d6)(y1 y2:Y)(o:Ov):(List W8->Y×List LQ)×(W8->Y×List LQ):=@Ov.rec (λZ=>(List W8->Y×List LQ)×(W8->Y×List LQ))
 (λss=>(kP (S Γ) ss).1,λs=>(S Γ s).1) (λss=>(kP (S Γ) ss).1,λZ=>(y1,[])) (λss=>(kP (S Γ) ss).1,λZ=>(y2,[]))
 (λZ Z io ic=>(λss=>match ss with
  |[]=>(kP (S Γ) []).1
  |s::r=>(ac (io.2 s).1 (ic.1 r).1,(io.2 s).2++(ic.1 r).2),λs=>(S Γ s).1))
 (λZ Z ia ib=>(λss=>(kP (S Γ) ss).1,λs=>match s with
  |.If e x y p=>(bE (L.c Γ e).1 (ia.1 x).1 (ib.1 y).1,(ia.1 x).2++(ib.1 y).2)
  |.For t i x y p=>cu Γ.loud (λlo=>cu (l9 i) (λhs=>cu (!(L.i Γ i).1.2||ij t) (λho=>eH (L.t Γ true t) (λtg Z=>(cj (L.i Γ i).1.1 tg.1 (ia.1 x).1 (ib.1 y).1,(ia.1 x).2++(ib.1 y).2)) (fH,[])) (fH,[])) (fH,[])) (fH,[])
  |s=>(S Γ s).1)) o
omit O in
theorem k8{s:W8}:du C Γ s fH:=λZ Z Z Z Z Z Z Z h Z=>by exact aD h
omit O in
theorem vE{α:Type}{p:α->Prop}{b:Bool}{t:b=true->α}{z:α}(h1:∀h,p (t h))(h2:p z):p (cu b t z):=by cases b<;>first|exact h2|exact h1 rfl
omit O in
theorem IS{α β:Type}{p:α->Prop}{o:Option β}{t:∀x,o=some x->α}{z:α}(h1:∀x h,p (t x h))(h2:p z):p (eH o t z):=by cases o<;>first|exact h2|exact h1 _ rfl
omit O in
theorem J3{L:Lv C}{S:∀Γ s,RS C Γ s}{Γ:d6}{y1 y2:Y}:∀o:Ov,(∀ss,fu C Γ y1 y2 ((y7 o).1 ss)->me C ((DG L S Γ y1 y2 o).1 ss).2->lI C Γ ss ((DG L S Γ y1 y2 o).1 ss).1)∧(∀s,fu C Γ y1 y2 ((y7 o).2 s)->me C ((DG L S Γ y1 y2 o).2 s).2->du C Γ s ((DG L S Γ y1 y2 o).2 s).1):=by
 intro o;induction o with
 |k=>exact⟨λss Z h=>(kP (S Γ) ss).2 h,λs Z h=>(S Γ s).2 h⟩
 |d1=>exact⟨λss Z h=>(kP (S Γ) ss).2 h,λs h Z=>h (true,s) SX⟩
 |d2=>exact⟨λss Z h=>(kP (S Γ) ss).2 h,λs h Z=>h (false,s) SX⟩
 |n o c io ic=>
  refine⟨λss=>?_,λs Z h=>(S Γ s).2 h⟩;cases ss with
  |nil=>exact λZ h=>(kP (S Γ) []).2 h
  |cons s r=>
   intro h l;show lI C Γ (s::r) (ac ((DG L S Γ y1 y2 o).2 s).1 ((DG L S Γ y1 y2 c).1 r).1);exact pH (io.2 s (fu.l h) (me.l l)) (ic.1 r (fu.r h) (me.r l))
 |s a b ia ib=>
  refine⟨λss Z h=>(kP (S Γ) ss).2 h,λs=>?_⟩;cases s with
  |If e x y p=>
   intro h l;show du C Γ (.If e x y p) (bE (L.c Γ e).1 ((DG L S Γ y1 y2 a).1 x).1 ((DG L S Γ y1 y2 b).1 y).1);exact zE (L.c Γ e).2 (ia.1 x (fu.l h) (me.l l)) (ib.1 y (fu.r h) (me.r l))
  |For t i x y p=>
   intro h;refine vE (p:=λv:Y×List LQ=>me C v.2->du C Γ (.For t i x y p) v.1) (λlo=>?_) λZ=>k8;refine vE (p:=λv:Y×List LQ=>me C v.2->du C Γ (.For t i x y p) v.1) (λhs=>?_) λZ=>k8;refine vE (p:=λv:Y×List LQ=>me C v.2->du C Γ (.For t i x y p) v.1) (λho=>?_) λZ=>k8;exact IS (p:=λv:Y×List LQ=>me C v.2->du C Γ (.For t i x y p) v.1) (λtg Z l=>w7 lo (L.i Γ i).2 hs tg.2 (ia.1 x (fu.l h) (me.l l)) (ib.1 y (fu.r h) (me.r l)) (λz=>by rw[z]at ho;exact ho)) λZ=>k8
  |_=>exact λZ h=>(S Γ _).2 h
def lE(lm:Int->Option Pa)(Γ:d6)(y1 y2:Y)(o:Ov)(ss:List W8):Y×List LQ:=(DG (lv O 20) (Fo O (lv O 20) lm 20) Γ y1 y2 o).1 ss
end
end
end
end
section
set_option compiler.extract_closed false
section
open PySem PySem.W PyProof.Rows
section
variable{C:Cx}
structure Df where
 args:Ux
 body:List W8
 sc:Vv
 ds:KV
inductive Ey where
 |fn (a:Tw) (d:Df) (o:Ov)
 |lam (r:Ux×SQ×Vv)
section
variable{α β:Type}
def d7(l:List α):T α:=(@V2 α (λZ=>Pa->T α->T α) (λZ t=>t) (λx Z r q t=>r (qs q) (tp q x t)) l) .e .nil
theorem Lw(q:Pa)(x:α)(t:T α):tg q (tp q x t)=some x:=aW x q t
open Classical in
theorem vZ:∀(l:List α)(n:Nat)(t:T α)(q:Pa),tg q ((@V2 α (λZ=>Pa->T α->T α) (λZ t=>t) (λx Z r q t=>r (qs q) (tp q x t)) l) (bD n) t)=(if n≤aY q∧q=bD (aY q)then(l[aY q-n]?).or (tg q t)else tg q t)
 |[],n,t,q=>by simp
 |x::r,n,t,q=>by
  show tg q ((@V2 α (λZ=>Pa->T α->T α) (λZ t=>t) (λx Z r q t=>r (qs q) (tp q x t)) r) (bD (n+1)) (tp (bD n) x t))=_;rw[vZ r (n+1)];by_cases h:q=bD n
  ·subst h;rw[eF,Lw];have:¬(n+1≤n∧bD n=bD n):=λz=>by simp_all+arith
   rw[if_neg this,if_pos ⟨TA _,rfl⟩,Nat.sub_self];rfl
  ·rw[am _ h];by_cases h2:n≤aY q∧q=bD (aY q)
   ·have:aY q≠n:=λz=>h (z▸h2.2);have h3:n+1≤aY q:=by lia
    refine rwr (if_pos ⟨h3,h2.2⟩) (rwr (if_pos h2) (rwr (show aY q-n=(aY q-(n+1))+1 by lia) ?_));rfl
   ·have:¬(n+1≤aY q∧q=bD (aY q)):=λz=>h2 ⟨by lia,z.2⟩;exact rwr (if_neg this) (rwr (if_neg h2) rfl)
open Classical in
theorem dW(l:List α)(q:Pa):tg q (d7 l)=if q=bD (aY q)then l[aY q]? else none:=by
 have:=vZ l 0 .nil q;have z:tg q (T.nil:T α)=none:=dU q;rw[z]at this;refine this.trans ?_;by_cases h:q=bD (aY q)
 ·rw[if_pos ⟨TQ _,h⟩,if_pos h,Option.or_none];rfl
 ·rw[if_neg (λz=>h z.2),if_neg h]
open Classical in
theorem zi(f:α->β)(l:List α)(q:Pa):tg q (d7 (l.map f))=(tg q (d7 l)).map f:=by
 rw[dW,dW]
 split<;>simp
end
noncomputable def pn(d:Df):List Str:=d.args.args.map (·.arg)
noncomputable def nk(d:Df):List Str:=d.sc.names.filterMap λx=>match x.2 with
 |.local=>if(pn d).contains x.1 then none else some x.1
 |.cell=>if(pn d).contains x.1 then none else some x.1
 |_=>none
noncomputable def dF(d:Df):d6:=⟨λs=>d.sc.names.lookup s,pn d++nk d,true,true⟩
noncomputable def ln(r:Ux×SQ×Vv):List Str:=r.1.args.map (·.arg)
noncomputable def JA(r:Ux×SQ×Vv):d6:=⟨λs=>r.2.2.names.lookup s,ln r++frees r.2.2,true,false⟩
structure vG(C:Cx)(a:Tw)(d:Df):Prop where
 ex:∃ob fd dv,C.h₀.get? a=some ob∧ob.data=.func fd∧fd.body=.stmts d.body∧fd.scope=d.sc∧fd.params=d.args∧fd.closure=[]∧fd.globals=Tv∧fd.builtins=Uh∧C.h₀.CodeRec fd.code fd.qualname∧qk C.h₀ fd dv∧(∀R,bB C.h₀ R.h->bG C R d.ds dv)∧(d.sc.names.lookup ("FP":Str)=some NameKind.local->∃c P,fd.code=.ref c∧P∈C.vol∧CodeHd C.h₀ c P∧C.volQ P=fd.qualname++".<locals>."++"<lambda>")
noncomputable def isNone{α:Type}(o:Option α):Bool:=match o with|none=>true|_=>false
theorem gc{α:Type}{o:Option α}(h:isNone o=true):o=none:=by cases o<;>first|rfl|exact aD h
noncomputable def AA(p:Ux):Bool:=p.posonlyargs.isEmpty&&isNone p.vararg&&p.kwonlyargs.isEmpty&&isNone p.kwarg&&decide (p.args.map (·.arg)).Nodup
theorem ww{p:Ux}(h:AA p=true):js (p.args.map (·.arg)) p:=by
 refine iJ h ?_;clear h;intro h h5;refine iJ h ?_;clear h;intro h h4;refine iJ h ?_;clear h;intro h h3;refine iJ h ?_;intro h1 h2;exact⟨Vy.mp h1,gc h2,Vy.mp h3,gc h4,rfl,of_decide_eq_true h5⟩
noncomputable def Oa(s:Vv):Bool:=!s.isCoroutine&&!s.isGenerator&&(match s.kind with|.function=>true|_=>false)
theorem Ag{s:Vv}(h:Oa s=true){G:Prop}(k:s.isCoroutine=false->s.isGenerator=false->s.kind=.function->G):G:=by
 refine iJ h ?_;clear h;intro h h3;refine iJ h ?_;intro h1 h2;refine k (bc h1) (bc h2) ?_;cases hk:s.kind<;>rw[hk]at h3<;>first|rfl|exact aD h3
def dfB(d:Df):Bool:=AA d.args&&Oa d.sc&&T3 (len d.ds) (pn d).length&&(pn d).all (λn=>gk (d.sc.names.lookup n)||DZ (d.sc.names.lookup n))&&d.sc.names.all (λx=>match x.2 with|.free=>false|_=>true)
noncomputable def Ni(r:Ux×SQ×Vv):Bool:=AA r.1&&Oa r.2.2&&(ln r).all (λn=>gk (r.2.2.names.lookup n))&&(frees r.2.2).all (λn=>match r.2.2.names.lookup n with|some .free=>true|_=>false)&&r.2.2.names.all (λx=>match x.2 with|.cell=>false|_=>true)&&!gk (r.2.2.names.lookup ("FP":Str))
section
variable{P₀:Pg}(O:C.Ok P₀)(lm:Int->Option Pa)(y1 y2:Y)
include O
theorem wR{a:Tw}{d:Df}{o:Ov}(H:vG C a d)(h:dfB d=true)(hh:fu C (dF d) y1 y2 ((y7 o).1 d.body))(hl:me C (lE O lm (dF d) y1 y2 o d.body).2):∃ob fd dv,fd.scope=d.sc∧yt C a (pn d).length d.ds (lE O lm (dF d) y1 y2 o d.body).1 ob fd d.body dv (pn d) (nk d):=by
 refine iJ h ?_;clear h;intro h h5;refine iJ h ?_;clear h;intro h h4;refine iJ h ?_;clear h;intro h h3;refine iJ h ?_;intro h1 h2;refine JP H.ex ?_;intro ob zq1 dv e1 e2 e3 e4 e5 e6 e7 e8 e9 zq;rcases zq1 with⟨nm,ql,pr,bo,sc,gl,cl,de,kw,dc,mo,an,co,ct,bi⟩;refine bf zq ?_;clear zq;intro e10 e11 e12;subst e4;subst e5;refine Ag h2 ?_;intro s1 s2 s3;have h5:=TP.mp h5;refine⟨ob,_,dv,rfl,⟨e1,e2,e3,s1,s2,s3,e6,e7,e8,e9,ww h1,rfl,e10,e11,?_,λn hn=>?_,e12,λx hx e=>?_,(J3 o).1 _ hh hl⟩⟩
 ·refine rwl ((e11 ⟨λZ=>none,C.h₀,λZ=>False⟩ (λZ Z z=>z)).len_eq) ?_;exact SP h3
 ·rcases WU _ _|>.mp (TP.mp h4 n hn)with z|z
  ·exact .inl (ff z)
  ·exact .inr (rA z)
 ·have:=h5 x hx;rw[e]at this;exact aD this
theorem AX{r:Ux×SQ×Vv}(h:Ni r=true):C4 C r.1 r.2.1 r.2.2 (ln r++frees r.2.2).length ((lv O 20).x (JA r) r.2.1).1 (ln r):=by
 refine iJ h ?_;clear h;intro h h6;refine iJ h ?_;clear h;intro h h5;refine iJ h ?_;clear h;intro h h4;refine iJ h ?_;clear h;intro h h3;refine iJ h ?_;intro h1 h2;refine Ag h2 ?_;intro s1 s2 s3;refine⟨ww h1,by exact rwr Td rfl,s1,s2,s3,λn hn=>ff (TP.mp h3 n hn),λn hn=>pY (TP.mp h4 n hn),λx hx e=>?_,λe=>?_,((lv O 20).x (JA r) r.2.1).2⟩
 ·have:=TP.mp h5 x hx;rw[e]at this;exact aD this
 ·rw[e]at h6;exact aD h6
def vy:Ey->Code
 |.fn a d o=>.fn (pn d).length d.ds (lE O lm (dF d) y1 y2 o d.body).1
 |.lam r=>.lam (ln r++frees r.2.2).length ((lv O 20).x (JA r) r.2.1).1
def wD:Ey->List LQ
 |.fn a d o=>(lE O lm (dF d) y1 y2 o d.body).2
 |.lam r=>[]
omit O in
def Rx:Ey->Bool
 |.fn a d _=>dfB d
 |.lam r=>Ni r
open Classical in
omit O in
theorem su{α:Type}{l:List α}{q:Pa}{x:α}(h:tg q (d7 l)=some x):x∈l:=by
 rw[dW]at h
 split at h
 ·exact TM h
 ·exact dh h
theorem zh{es:List Ey}(hf:∀q,C.fnAt q=match tg q (d7 es)with|some (.fn a _ _)=>some a|_=>none)(hl:∀q,C.lam q=match tg q (d7 es)with|some (.lam r)=>some r|_=>none)
  (H:∀a d o,Ey.fn a d o∈es->vG C a d) (hh:∀a d o,Ey.fn a d o∈es->fu C (dF d) y1 y2 ((y7 o).1 d.body)) (hb:es.all Rx=true) (hn:me C (es.flatMap (wD O lm y1 y2))):ug C (d7 (es.map (vy O lm y1 y2))):=λq f e=>by
 rw[zi]at e;cases e1:tg q (d7 es)with
 |none=>rw[e1]at e;exact dh e
 |some y=>
  rw[e1]at e;cases e;have hm:=su e1;have hb:=TP.mp hb y hm;have hf:=hf q;have hl:=hl q;rw[e1]at hf hl;cases y with
  |fn a d o=>
   refine⟨hl,λa' ha=>?_⟩;rw[hf]at ha;cases ha;refine eS (wR O lm y1 y2 (H a d o hm) hb (hh a d o hm) λr hr=>hn r (Us.mpr ⟨_,hm,hr⟩)) ?_;rintro ob fd dv-z;exact⟨ob,fd,d.body,dv,pn d,nk d,z⟩
  |lam r=>
   refine⟨hf,λpar ee sc h=>?_⟩;rw[hl]at h;cases h;exact⟨_,AX O hb⟩
end
end
end
end
section
set_option compiler.extract_closed false
section
open PySem PySem.W PyProof.Rows
section
def iV{α:Type}(s:Str):List (Nat×Str×α)->Option α:=@V2 (Nat×Str×α) (λZ=>Option α) .none (λp Z r=>cu (SS p.1 (iI s)) (λZ=>cu (s==p.2.1) (λZ=>some p.2.2) r) r)
theorem dE{α:Type}{s:Str}:∀{l:List (Nat×Str×α)}{x:α},iV s l=some x->∃n,(n,s,x)∈l
 |[],x,h=>by exact dh h
 |p::r,x,h=>by
  have h:cu (SS p.1 (iI s)) (λzz=>cu (s==p.2.1) (λzz=>some p.2.2) (iV s r)) (iV s r)=some x:=h;have ih:iV s r=some x->∃n,(n,s,x)∈p::r:=λh=>by refine aw (dE h) ?_;clear h;intro n h;exact⟨n,T5 _ h⟩
  cases e1:SS p.1 (iI s)with
  |false=>rw[e1]at h;exact ih h
  |true=>
   rw[e1]at h;have h:cu (s==p.2.1) (λzz=>some p.2.2) (iV s r)=some x:=h;cases e2:(s==p.2.1)with
   |false=>rw[e2]at h;exact ih h
   |true=>
    rw[e2]at h;cases h;obtain⟨n,s',y⟩:=p;cases eq_of_beq e2;exact⟨n,SX⟩
noncomputable def eG(n:Nat)(s:String)(x:Gm):Nat×Str×Gm:=(n,Tu s,x)
noncomputable def eM(n:Nat)(s:String)(k:Nat)(q:Pa):Nat×Str×(Nat×Pa):=(n,Tu s,k,q)
noncomputable def eD(n:Nat)(s:String)(k:Nat)(q:KV):Nat×Str×(Nat×KV):=(n,Tu s,k,q)
noncomputable def eP(n:Nat)(s:String)(q:Pa):Nat×Str×Pa:=(n,Tu s,q)
noncomputable def eU(n:Nat)(s:String):Nat×Str×Unit:=(n,Tu s,())
def QT(gl:List (Nat×Str×Gm))(mt:List (Nat×Str×(Nat×Pa)))(df:List (Nat×Str×(Nat×KV)))(ln:Nat×Pa):Pg:=⟨λs=>iV s gl,λs=>iV s mt,λs=>iV s df,ln⟩
noncomputable def K1:PySem.Const->KV
 |.none=>.none
 |.bool b=>.bool b
 |.int (.ofNat n)=>.nat n
 |.int (.negSucc n)=>.neg n
 |.str s=>.str (iI s)
 |_=>.none
noncomputable def JZ:SQ->KV
 |.Constant c _ _=>K1 c
 |.Tuple [.Constant a _ _,.Constant b _ _] _ _=>.cons (K1 a) (.cons (K1 b) .nil)
 |_=>.none
noncomputable def aC:List KV->KV
 |[]=>.nil
 |x::r=>.cons x (aC r)
noncomputable def Qb:W8->Option Df
 |.FunctionDef n a b _ _ _ sc _ _ _=>some ⟨a,b,sc,aC (a.defaults.map JZ)⟩
 |_=>none
noncomputable def xc(body:List W8):List Df:=
 body.flatMap λ
  |.ClassDef c _ _ b _ _ _ _ _ _ _=>b.filterMap Qb
  |s=>(Qb s).toList
noncomputable def Rk:W8->Option (Ux×SQ×Vv)
 |.Assign [.Name _ _] (.Lambda a b sc p) _=>some (a,b,sc)
 |_=>none
noncomputable def Jk(body:List W8):List (Ux×SQ×Vv):=(xc body).flatMap λd=>d.body.filterMap Rk
def O9(C:Cx)(sl:List (Nat×Str×Pa))(no:List (Nat×Str×Unit)):Cx:={C with sl:=λs=>iV s sl,asg:=λs=>isNone (iV s no)}
def v5(l:List (Int×Pa))(n:Int):Option Pa:=@V2 _ (λZ=>Option Pa) .none (λp Z r=>cu (decide (p.1=n)) (λZ=>some p.2) r) l
end
end
end
section
set_option compiler.extract_closed false
section
open PySem PySem.W PyProof.Rows
noncomputable def uQ(tb:String->Option Builtin)(p:Vl)(w:VX)(n₀:Nat)(ann:Option SU):Nat->SharedT->Thread->Option SharedT
 |0,_,_=>none
 |n+1,s,t=>match through t with
  |true=>some s
  |false=>match stepOk n₀ ann t with
   |false=>none
   |true=>match stepT (denote tb) p w s t with
    |some (s',t')=>uQ tb p w n₀ ann n s' t'
    |none=>none
theorem pK{tb:String->Option Builtin}{p:Vl}{w:VX}{n₀:Nat}{ann:Option SU}:∀{n:Nat}{s s':SharedT}{t:Thread},uQ tb p w n₀ ann n s t=some s'->topRun tb p w n₀ ann n s.abs t=some s'.abs
 |0,_,_,_,h=>by exact dh h
 |n+1,s,s',t,h=>by
  unfold uQ at h;unfold topRun
  split at h
  ·cases h;rename_i e;exact rwr e rfl
  ·rename_i e;refine rwr e ?_
   split at h
   ·exact dh h
   ·rename_i e2;refine rwr e2 ?_
    split at h
    ·rename_i e3;dsimp only;refine rwr (stepT_spec e3) ?_;exact pK h
    ·exact dh h
noncomputable def grow:List Obj->Nat->BT->BT
 |[],_,t=>t
 |o::r,n,t=>grow r (n+1) (t.ins n o)
def j9(w:VX)(os:OsState):SharedT:=⟨grow (UB w.params).objs.toList 0 .nil,(UB w.params).objs.size,(UB w.params).life,#[],boot_drawn,boot_toks,os⟩
end
end
section
set_option compiler.extract_closed false
section
open PySem PySem.W PyProof.Rows
noncomputable def wY(p:Vl)(h₀:UT)(s:SW):Bool:=staticsOk (importedModules p.main.body) h₀ s.heap&&namesBound p s.heap&&gensDone s&&laidKept h₀ s.heap
theorem DI{p q:Vl}{loose:List Str}{α:Type}{Yf:SW->α}{Ya:VX->α}{N:Nat}(e:opening p=plainProg p.main.scope.names)(hN:T3 600 N=true)(f:∀s,fenceModules? p s=some s)
  (b:∀w:VX,absHeap (j9 w default).tree (j9 w default).n (j9 w default).life=UB w.params) (b2:∀w:VX,(UB w.params).isNs Tv=true)
  (K:∀w:VX,(λos=>(uQ treeTable p w (UB w.params).objs.size ((UB w.params).nsMap Tv "__annotations__") N (j9 w os) (topStub p)).map λs=>(wY p (UB w.params) s.abs,openSeen q loose (importedModules p.main.body) (λzz=>true) true s.abs,Yf s.abs))=λos=>some (true,openGood q loose,Ya w)):
  LeftO p q loose (λzz=>true) Yf Ya N:=λw=>by
 refine xT (boot_open e hN f w) ?_;intro zq0 hs hv;rcases zq0 with⟨h0,g0,d0,k0,os⟩
 have e1:h0=UB w.params:=congrArg Prod.fst hv;have e2:g0=Array.mk []:=congrArg (λx=>x.2.1) hv;have e3:d0=boot_drawn:=congrArg (λx=>x.2.2.1) hv;have e4:k0=boot_toks:=congrArg (λx=>x.2.2.2) hv;clear hv;subst e1 e2 e3 e4;have K:=congrFun (K w) os;refine xT K ?_;intro s' hr hv;have hr:=pK hr;have ha:(j9 w os).abs=⟨UB w.params,#[],boot_drawn,boot_toks,os⟩:=by rw[←b w];rfl
 rw[ha]at hr;refine ak (Prod.mk.inj hv) ?_;clear hv;intro h1 hv;unfold openEnds;rw[hs,UD];unfold topFrom;have b2:=b2 w;dsimp only;rw[b2];show(Option.bind (topRun _ _ _ _ _ _ _ _) _).map _=_;rw[hr,UD];unfold wY at h1;rw[h1];exact congrArg some hv
end
end
section
set_option compiler.extract_closed false
section
open PySem PySem.W PyProof.Rows
section
noncomputable def Ap(v:Option SU):Tw:=match v with|some (.ref a)=>a|_=>0
noncomputable def gH(h:UT)(n:Str):Tw:=Ap (h.nsMap Tv n)
noncomputable def PU(h:UT)(a:Tw):Tw:=match h.get? a with|some ⟨_,_,.cls cd,_⟩=>cd.ns|_=>0
noncomputable def lG(h:UT):Option Str×Str->Tw
 |(none,n)=>gH h n
 |(some c,n)=>Ap (h.nsMap (PU h (gH h c)) n)
noncomputable def vf(h:UT)(a:Tw):X1:=match h.get? a with|some ⟨_,_,.func fd,_⟩=>fd|_=>default
noncomputable def Js(h:UT)(a:Tw):Bool:=match h.get? a with|some ⟨_,_,.func fd,_⟩=>true|_=>false
set_option tactic.hygienic true in
theorem E9{h:UT}{a:Tw}(e:Js h a=true):∃ob,h.get? a=some ob∧ob.data=.func (vf h a):=by
 unfold Js at e;unfold vf;cases he:h.get? a with
 |none=>rw[he]at e;exact aD e
 |some o=>rw[he]at e;rcases o with⟨c,d,dt,sl⟩;cases dt<;>first|exact⟨_,rfl,rfl⟩|exact aD e
structure Tx where
 gl:List (Nat×Str×Gm)
 mt:List (Nat×Str×(Nat×Pa))
 df:List (Nat×Str×(Nat×KV))
 ln:Nat×Pa
 sl:List (Nat×Str×Pa)
 no:List (Nat×Str×Unit)
 lm:List (Int×Pa)
 names:List (Option Str×Str)
 dfs:List Df
 lams:List (Ux×SQ×Vv)
 ov:Option Str×Str->Ov
namespace Tx
variable(X:Tx)(h:UT)
def pg:Pg:=QT X.gl X.mt X.df X.ln
noncomputable def cls:List (Nat×Str):=X.gl.filterMap λe=>match e.2.2 with|.cls k _=>some (k,e.2.1)|_=>none
noncomputable def es:List Ey:=(X.names.zip X.dfs).map (λnd=>.fn (lG h nd.1) nd.2 (X.ov nd.1))++X.lams.map .lam
noncomputable def Nj(d:Df):Bool:=gk (d.sc.names.lookup ("FP":Str))
noncomputable def Ds(h:UT)(c:Tw):Tw:=match h.get? c with|some ⟨_,_,.fields vs,_⟩=>Ap (vs[11]?:Option SU)|_=>0
noncomputable def tabsQ:List (Tw×Tw×Str):=(X.names.zip X.dfs).filterMap λnd=>bif Nj nd.2 then let fd:=vf h (lG h nd.1);let c:=Ap (some fd.code);some (c,Ds h c,fd.qualname)else none
noncomputable def tabs:List (Tw×Tw):=(X.tabsQ h).map λx=>(x.1,x.2.1)
noncomputable def vol:List Tw:=(X.tabs h).map (·.2)
noncomputable def volQ(P:Tw):Str:=match(X.tabsQ h).find? (λx=>x.2.1==P)with|some x=>x.2.2++".<locals>."++"<lambda>"|none=>""
noncomputable def ads:List Tw:=X.cls.map (λc=>gH h c.2)++X.cls.map (λc=>PU h (gH h c.2))++X.names.map (lG h)
noncomputable def K:Frag:=(X.ads h).filterMap λa=>(h.get? a).map (a,·)
def cx(h':UT)(prog:Vl)(w:VX)(g:Array X0)(d:Drawn)(os:OsState)(tk:Nat->KV):Cx:=O9
 {prog:=prog,w:=w,K:=X.K h,h₀:=ghostOf h' (X.tabs h),fnAt:=λq=>(match tg q (d7 (X.es h))with|some (.fn a _ _)=>some a|_=>none),clsAt:=λk=>(X.cls.lookup k).map (gH h),sl:=λzz=>none,
  lam:=λq=>(match tg q (d7 (X.es h))with|some (.lam r)=>some r|_=>none),asg:=λzz=>true,vol:=X.vol h,volQ:=X.volQ h,g:=g,d:=d,os:=os,tk:=tk} X.sl X.no
end Tx
theorem ll{h:UT}:∀{as:List Tw},Frag.In (as.filterMap λa=>(h.get? a).map (a,·)) h
 |[],a,o,e=>by exact dh e
 |b::r,a,o,e=>by
  rw[List.filterMap_cons]at e;cases hb:h.get? b with
  |none=>rw[hb]at e;exact ll a o e
  |some x=>
   rw[hb]at e;have e:(List.lookup a ((b,x)::_))=some o:=e;rw[U2]at e
   split at e
   ·rename_i q;cases e;refine rwr (beq_iff_eq.mp q) ?_;exact hb
   ·exact ll a o e
noncomputable def BG:KV->SU->Bool
 |.none,.none=>true
 |.bool a,.bool b=>a==b
 |.nat n,.int (.ofNat m) _=>SS n m
 |.neg n,.int (.negSucc m) _=>SS n m
 |.str c,.str s _=>Fj s&&SS (iI s) c
 |.tok 0,.int _ _=>true
 |_,_=>false
theorem mK{C:Cx}{x:KV}{v:SU}(e:BG x v=true)(R:Wd):VR C R x v:=by
 cases x with
 |none=>cases v<;>first|exact .none_|exact aD e
 |bool=>cases v<;>first|(cases eq_of_beq e;exact .bool_)|exact aD e
 |nat=>cases v with
  |int i=>cases i with
   |ofNat=>cases T6 e;exact .nat_
   |_=>exact aD e
  |_=>exact aD e
 |neg=>cases v with
  |int i=>cases i with
   |negSucc=>cases T6 e;exact .neg_
   |_=>exact aD e
  |_=>exact aD e
 |str=>cases v with
  |str=>refine iJ e ?_;intro a b;cases T6 b;exact .str_ (qS a)
  |_=>exact aD e
 |tok n=>cases n with
  |zero=>cases v<;>first|exact⟨_,_,rfl⟩|exact aD e
  |_=>exact aD e
 |_=>exact aD e
noncomputable def BF:KV->List SU->Bool
 |.nil,[]=>true
 |.cons x r,v::vs=>BG x v&&BF r vs
 |_,_=>false
theorem u0{C:Cx}:∀{x:KV}{vs:List SU},BF x vs=true->∀R,bG C R x vs
 |.nil,[],_,R=>rfl
 |.cons x r,v::vs,e,R=>by refine iJ e ?_;intro a b;exact .cons_ (mK a R) (u0 b R)
 |.none,_,e,_=>by exact aD e
 |.bool _,_,e,_=>by exact aD e
 |.nat _,_,e,_=>by exact aD e
 |.neg _,_,e,_=>by exact aD e
 |.str _,_,e,_=>by exact aD e
 |.ref _,_,e,_=>by exact aD e
 |.tok _,_,e,_=>by exact aD e
 |.nil,_::_,e,_=>by exact aD e
 |.cons _ _,[],e,_=>by exact aD e
noncomputable def Fw(o:Obj):Bool:=match o.cls with|.type n=>decide (n="tuple")|_=>false
noncomputable def LR(o:Obj):Option (List SU):=match o.data with|.seq items _=>some items.toList|_=>none
noncomputable def vX(h:UT)(v:SU):Option (List SU):=match v with
 |.ref a=>(h.get? a).bind λo=>bif Fw o then LR o else none
 |_=>none
theorem z8{h:UT}{v:SU}{l:List SU}(e:vX h v=some l):∃a,v=.ref a∧h.IsTuple a l.toArray:=by
 cases v with
 |ref a=>
  refine Fk e ?_;intro o he e;cases z:Fw o with
  |false=>rw[z]at e;exact dh e
  |true=>
   rw[z]at e;obtain⟨c,d,data,x⟩:=o;refine⟨a,rfl,_,he,?_⟩;cases c with
   |type n=>
    refine⟨congrArg _ (of_decide_eq_true z),?_⟩;cases data with
    |seq items k=>exact⟨k,congrArg (λl:List SU=>Data.seq l.toArray k) (Ti e)⟩
    |_=>exact dh e
   |_=>exact aD z
 |_=>exact dh e
theorem pA{h:UT}{v:SU}{l:List SU}(e:vX h v=some l){G:Prop}(k:∀a,v=.ref a->h.IsTuple a l.toArray->G):G:=ag (z8 e) k
noncomputable def K3(h:UT)(x:KV)(v:SU):Bool:=match vX h v with
 |some l=>BF x l&&T3 l.length 1000
 |none=>BG x v
noncomputable def BE(h:UT):KV->List SU->Bool
 |.nil,[]=>true
 |.cons x r,v::vs=>K3 h x v&&BE h r vs
 |_,_=>false
end
end
end
section
set_option compiler.extract_closed false
section
open PySem PySem.W PyProof.Rows
section
namespace Tx
variable(X:Tx)(h:UT)
noncomputable def vR(v:SU)(a:Tw):Bool:=match v with|.ref b=>SS b a|_=>false
noncomputable def vT(v:SU)(t:String):Bool:=match v with|.type u=>u==t|_=>false
noncomputable def vW(v:SU)(t:String):Bool:=match v with|.builtin u=>u==t|_=>false
noncomputable def vN:SU->Bool|.none=>true|_=>false
noncomputable def o1(p:SU->Bool):Option SU->Bool|some v=>p v|_=>false
noncomputable def o2(p:SU->Bool):Option (Option SU)->Bool|some v=>o1 p v|_=>false
def fnB(a:Tw)(cn nm:Str)(q:Pa):Bool:=
 tg q (d7 X.names)==some (some cn,nm)&&o2 (vR · (lG h (some cn,nm))) (findIn (X.K h) (.ref a) nm)&&o1 (vT · "function") (typeIn (X.K h) (.ref (lG h (some cn,nm))))
noncomputable def clsNm(k:Nat):Str:=((X.cls.lookup k).getD "")
def glB(nm:Str):Gm->Bool
 |.fn q=>tg q (d7 X.names)==some (none,nm)&&o1 (vR · (gH h nm)) (h.nsMap Tv nm)
 |.cls k q=>X.cls.lookup k==some nm&&o1 (vR · (gH h nm)) (h.nsMap Tv nm)&&makesIn (X.K h) (gH h nm)&&X.fnB h (gH h nm) nm "__init__" q
 |.bi n=>isNone (h.nsMap Tv nm)&&o1 (·==qf n) (h.nsMap Uh nm)
 |.con v=>(h.nsMap Tv nm).any (BG v)
noncomputable def Bf(T:String):Bool:=isNone (h.nsMap Tv (Tu T))&&o1 (vT · T) (h.nsMap Uh (Tu T))
noncomputable def B4(v:Option (Option SU))(n:String):Bool:=o2 (vW · n) v
noncomputable def rn(v:Option (Option SU)):Bool:=match v with|some none=>true|_=>false
noncomputable def DX(v:Option (Option SU)):Option SU:=match v with|some (some (.int i t))=>some (.int i t)|_=>none
noncomputable def clB(nm:Str):Bool:=
 let a:=Vk (gH h nm)
 B4 (findIn (X.K h) a "__getattribute__") "object.__getattribute__"&&rn (findIn (X.K h) a "__getattr__")&&B4 (findIn (X.K h) a "__setattr__") "object.__setattr__"&&plainOver (X.K h) (gH h nm)&&hasDictIn (X.K h) (gH h nm)&&
 keepIn (X.K h) a&&X.sl.all (λs=>rn (findIn (X.K h) a s.2.1)||((DX (findIn (X.K h) a s.2.1)).isSome&&!copiedNames.contains s.2.1))
noncomputable def dfB(s:Str)(c:Nat)(v:KV):Bool:=(DX (findIn (X.K h) (.ref (gH h (X.clsNm c))) s)).any λu=>BG v u&&!copiedNames.contains s
noncomputable def tL:Data->Bool|.fields _=>true|_=>false
noncomputable def flds:Data->Array SU|.fields vs=>vs|_=>#[]
noncomputable def Mp:Data->Bool|.plain=>true|_=>false
noncomputable def vS:SU->Bool|.str _ _=>true|_=>false
noncomputable def vI:SU->Bool|.int _ _=>true|_=>false
noncomputable def vB:SU->Bool|.bool _=>true|_=>false
noncomputable def kN:KV->Bool|.nil=>true|_=>false
noncomputable def QG(x:Tw×Tw×Str)(o:Obj)(vs:Array SU):Bool:=vT o.cls "code"&&tL o.data&&o1 (vR · x.2.1) vs[11]?&&vR (vs.getD 11 .none) x.2.1&&vS (vs.getD 18 .none)&&vI (vs.getD 7 .none)&&vB (vs.getD 9 .none)&&vI (vs.getD 10 .none)&&!(x.1==x.2.1)
noncomputable def QF(o:Obj):Bool:=vN o.cls&&o.dict==none&&tL o.data&&(flds o.data).toList.isEmpty&&o.slots.toList.isEmpty
noncomputable def NU(x:Tw×Tw×Str):Bool:=(h.get? x.1).any (λo=>QG x o (flds o.data))&&(h.get? x.2.1).any QF
noncomputable def fnVB(nd:(Option Str×Str)×Df):Bool:=
 let a:=lG h nd.1
 let fd:=vf h a
 Js h a&&keepIn (X.K h) (.ref a)&&h.codeRecOk fd.code fd.qualname&&(bif vN fd.defaults then kN nd.2.ds else(vX h fd.defaults).any (BE h nd.2.ds))&&
 (!Nj nd.2||(X.tabsQ h).any (λx=>vR fd.code x.1&&x.2.2==fd.qualname&&X.volQ h x.2.1==fd.qualname++".<locals>."++"<lambda>"))
noncomputable def EE:Tw:=Ap (h.nsMap Tv "__builtins__")
noncomputable def NN(o:Obj):Bool:=vT o.cls "module"&&o.dict==some Uh&&Mp o.data
noncomputable def Lx:Bool:=h.isNs Tv&&h.isNs Uh&&h.isNs sysModules&&h.isNs cStatics&&isNone (h.nsMap cStatics "sys.recursionlimit")&&(o1 (vR · (EE h)) (h.nsMap Tv "__builtins__")&&!(EE h==Uh)&&!(EE h==Tv)&&(h.get? (EE h)).any NN)
def statB:Bool:=X.names.length==X.dfs.length&&X.mt.all (λe=>isNone (iV e.2.1 X.sl))&&decide (X.cls.map (·.1)).Nodup&&decide ((X.sl.map λe=>aY e.2.2)).Nodup&&T3 X.sl.length 500
def chkA:Bool:=X.statB&&Lx h&&noTabs (X.K h)&&(X.tabsQ h).all (NU h)&&X.gl.all (λe=>X.glB h e.2.1 e.2.2)&&Bf h "KeyError"&&Bf h "IndexError"&&X.cls.all (λc=>X.clB h c.2)&&X.df.all (λe=>X.dfB h e.2.1 e.2.2.1 e.2.2.2)&&
 X.mt.all (λe=>!(X.cls.lookup e.2.2.1).isSome||X.fnB h (gH h (X.clsNm e.2.2.1)) (X.clsNm e.2.2.1) e.2.1 e.2.2.2)&&(!(X.cls.lookup X.ln.1).isSome||X.fnB h (gH h (X.clsNm X.ln.1)) (X.clsNm X.ln.1) "__len__" X.ln.2)&&
 (!(X.cls.lookup 2).isSome||(rn (findIn (X.K h) (.ref (gH h (X.clsNm 2))) "__bool__")&&rn (findIn (X.K h) (.ref (gH h (X.clsNm 2))) "__len__")))
noncomputable def chkB:Bool:=(X.names.zip X.dfs).all (X.fnVB h)
def chk:Bool:=X.chkA h&&X.chkB h
end Tx
end
end
end
section
set_option compiler.extract_closed false
section
open PySem PySem.W PyProof.Rows
section
namespace Tx
variable{X:Tx}{h h':UT}
structure Ck(X:Tx)(h:UT):Prop where
 stat:X.statB=true
 top:Lx h=true
 noT:noTabs (X.K h)=true
 tb:∀x∈X.tabsQ h,NU h x=true
 gl:∀e∈X.gl,X.glB h e.2.1 e.2.2=true
 k1:Bf h "KeyError"=true
 k2:Bf h "IndexError"=true
 cl:∀c∈X.cls,X.clB h c.2=true
 df:∀e∈X.df,X.dfB h e.2.1 e.2.2.1 e.2.2.2=true
 mt:∀e∈X.mt,(X.cls.lookup e.2.2.1).isSome=true->X.fnB h (gH h (X.clsNm e.2.2.1)) (X.clsNm e.2.2.1) e.2.1 e.2.2.2=true
 ln:(X.cls.lookup X.ln.1).isSome=true->X.fnB h (gH h (X.clsNm X.ln.1)) (X.clsNm X.ln.1) "__len__" X.ln.2=true
 lri:(X.cls.lookup 2).isSome=true->rn (findIn (X.K h) (.ref (gH h (X.clsNm 2))) "__bool__")=true∧rn (findIn (X.K h) (.ref (gH h (X.clsNm 2))) "__len__")=true
 fn:∀nd∈X.names.zip X.dfs,X.fnVB h nd=true
theorem v9{a b:Bool}(h:(!a||b)=true):a=true->b=true:=by rintro rfl;exact h
theorem aJ{a b:Bool}{G:Prop}(e:(a&&b)=true)(k:a=true->b=true->G):G:=k (Ts.mp e).1 (Ts.mp e).2
theorem lU{α:Type}{l:List α}{p:α->Bool}(e:l.all p=true):∀x∈l,p x=true:=TP.mp e
theorem Ck.of(e:X.chk h=true):Ck X h:=
 aJ e λe a13=>aJ e λe a12=>aJ e λe a11=>aJ e λe a10=>aJ e λe a9=>aJ e λe a8=>aJ e λe a7=>aJ e λe a6=>aJ e λe a5=>aJ e λe a4=>aJ e λe a3=>aJ e λa1 a2=>
 ⟨a1,a2,a3,lU a4,lU a5,a6,a7,lU a8,lU a9,λe he=>v9 (lU a10 e he),v9 a11,λz=>Ts.mp (v9 a12 z),lU a13⟩
theorem vR_ok{v:SU}{a:Tw}(e:vR v a=true):v=.ref a:=by cases v<;>first|(cases T6 e;rfl)|exact aD e
theorem vV{v:SU}{t:String}(e:vT v t=true):v=.type t:=by cases v<;>first|(cases eq_of_beq e;rfl)|exact aD e
theorem Lq{v:SU}{t:String}(e:vW v t=true):v=.builtin t:=by cases v<;>first|(cases eq_of_beq e;rfl)|exact aD e
theorem F4{v:SU}(e:vN v=true):v=.none:=by cases v<;>first|rfl|exact aD e
theorem o1_ok{p:SU->Bool}{u:SU}(f:∀{v},p v=true->v=u){o:Option SU}(e:o1 p o=true):o=some u:=by cases o with|none=>exact aD e|some v=>exact rwr (f e) rfl
theorem Fl{p:SU->Bool}{u:SU}(f:∀{v},p v=true->v=u){o:Option (Option SU)}(e:o2 p o=true):o=some (some u):=by cases o with|none=>exact aD e|some v=>exact rwr (o1_ok f e) rfl
theorem Lr{v:SU}(e:vS v=true):∃x t,v=.str x t:=by cases v<;>first|exact⟨_,_,rfl⟩|exact aD e
theorem yW{v:SU}(e:vI v=true){G:Prop}(k:∀x t,v=.int x t->G):G:=by cases v<;>first|exact k _ _ rfl|exact aD e
theorem Ls{v:SU}(e:vB v=true):∃x,v=.bool x:=by cases v<;>first|exact⟨_,rfl⟩|exact aD e
theorem wL{d:Data}(e:tL d=true):d=.fields (flds d):=by cases d<;>first|rfl|exact aD e
theorem DW{d:Data}(e:Mp d=true):d=.plain:=by cases d<;>first|rfl|exact aD e
theorem jr{α:Type}{o:Option α}{p:α->Bool}(e:o.any p=true){G:Prop}(k:∀x,p x=true->o=some x->G):G:=match o,e with|some x,e=>k x e rfl
theorem GA{x:Tw×Tw×Str}(e:NU h x=true):CodeHd h x.1 x.2.1∧h.get? x.2.1=some (tabObj #[]):=aJ e λe1 e2=>by
 refine⟨jr e1 λo e ho=>?_,jr e2 λo e ho=>?_⟩
 ·refine aJ e λe b7=>aJ e λe b6=>aJ e λe b5=>aJ e λe b4=>aJ e λe b3=>aJ e λe b2=>aJ e λe b1=>aJ e λc1 c2=>?_;refine fU (Lr b3) λf ft hf=>yW b4 λi it hi=>aw (Ls b5) λbb hbb=>yW b6 λj jt hj=>?_;exact⟨o,_,f,ft,i,it,bb,j,jt,ho,vV c1,wL c2,o1_ok vR_ok b1,vR_ok b2,hf,hi,hbb,hj,λz=>by rw[z]at b7;simp at b7⟩
 ·refine rwr ho ?_;refine aJ e λe c5=>aJ e λe c4=>aJ e λe c3=>aJ e λc1 c2=>?_;rcases o with⟨a,b,c,d⟩
  dsimp only at c1 c2 c3 c4 c5;exact rwr (show a=_ from F4 c1) (rwr (show b=_ from eq_of_beq c2) (rwr (wL c3) (rwr (Array.toList_eq_nil_iff.mp (Vy.mp c4)) (rwr (Array.toList_eq_nil_iff.mp (Vy.mp c5)) rfl))))
theorem zg(k:Ck X h):TabsAt (X.tabs h) h:=λq hq=>by
 refine rO hq ?_;clear hq;rintro x hx rfl;exact GA (k.tb x hx)
theorem nsUp{a:Tw}{m:Str->Option SU}(kp:bB h h')(x:h.Ns a m):h'.Ns a m:=let⟨o,es,ep,z,r⟩:=x;⟨o,es,ep,kp _ _ z,r⟩
theorem tabsUp(k:Ck X h)(kp:bB h h'):TabsAt (X.tabs h) h':=λq hq=>let z:=zg k q hq;⟨z.1.keeps kp,kp _ _ z.2⟩
theorem jU(k:Ck X h)(kp:bB h h'):(X.K h).In (ghostOf h' (X.tabs h)):=ghost_K (tabsUp k kp) (ll.keeps kp) k.noT
theorem Mz(k:Ck X h){q:Pa}{n:Option Str×Str}(e:tg q (d7 X.names)=some n):∃d o,tg q (d7 (X.es h))=some (.fn (lG h n) d o):=by
 have hl:X.names.length=X.dfs.length:=by
  have:=k.stat;unfold statB at this;simp only[WJ]at this;exact eq_of_beq this.1.1.1.1
 rw[dW]at e ⊢
 split at e
 ·rename_i hq;refine rwr (if_pos hq) ?_;have l1:=(To.mp e).1;unfold es;rw[Uk (by rw[TL,List.length_zip,←hl,Nat.min_self];exact l1),Tr,Wv (z:=(n,X.dfs[aY q]'(by lia)))|>.mpr ⟨e,T7 _⟩];exact⟨_,_,rfl⟩
 ·exact dh e
theorem Bm(k:Ck X h){q:Pa}{n:Option Str×Str}(e:tg q (d7 X.names)=some n){G:Prop}(k0:∀d o,tg q (d7 (X.es h))=some (.fn (lG h n) d o)->G):G:=fU (Mz k e) k0
section
variable{prog:Vl}{w:VX}{g:Array X0}{d:Drawn}{os:OsState}{tk:Nat->KV}
set_option tactic.hygienic true in
theorem qX(k:Ck X h)(kp:bB h h'):(ghostOf h' (X.tabs h)).Ns Tv (h.nsMap Tv)∧(ghostOf h' (X.tabs h)).Ns Uh (h.nsMap Uh)∧(ghostOf h' (X.tabs h)).Ns sysModules (h.nsMap sysModules)∧(ghostOf h' (X.tabs h)).NoLimit∧
  ∃bm ob,h.nsMap Tv "__builtins__"=some (.ref bm)∧bm≠Uh∧bm≠Tv∧(ghostOf h' (X.tabs h)).get? bm=some ob∧ob.cls=.type "module"∧ob.dict=some Uh∧ob.data=.plain:=by
 refine aJ k.top λe a6=>aJ e λe a5=>aJ e λe a4=>aJ e λe a3=>aJ e λa1 a2=>?_;refine⟨ghost_ns (tabsUp k kp) (nsUp kp (.of_isNs a1)),ghost_ns (tabsUp k kp) (nsUp kp (.of_isNs a2)),ghost_ns (tabsUp k kp) (nsUp kp (.of_isNs a3)),⟨_,ghost_ns (tabsUp k kp) (nsUp kp (.of_isNs a4)),gc a5⟩,?_⟩;refine aJ a6 λe b4=>aJ e λe b3=>aJ e λb1 b2=>jr b4 λo e ho=>aJ e λe c3=>aJ e λc1 c2=>?_;exact⟨_,o,o1_ok vR_ok b1,λz=>by rw[z]at b2;trivial,λz=>by rw[z]at b3;trivial,ghost_get (tabsUp k kp) (kp _ _ ho) (λz=>by rw[z]at c1;exact aD c1),vV c1,eq_of_beq c2,DW c3⟩
theorem AR(k:Ck X h)(kp:bB h h'){nm:Str}{v:SU}(e:h.nsMap Tv nm=some v):jb (X.cx h h' prog w g d os tk) nm v:=λA Q E s menv h1 h2 kq q=>
 Calls.loadGlobal_global (mg:=h.nsMap Tv) (by refine rwr h1 ?_;refine eS ((qX k kp).1) ?_;intro o es ep z r;exact⟨o,es,ep,kq _ _ z,r⟩) e q
theorem Fq(k:Ck X h)(kp:bB h h'){nm:Str}{v:SU}(e:h.nsMap Tv nm=none)(e2:h.nsMap Uh nm=some v):jb (X.cx h h' prog w g d os tk) nm v:=λA Q E s menv h1 h2 kq q=>
 Calls.loadGlobal_builtin (mg:=h.nsMap Tv) (mb:=h.nsMap Uh) (by refine rwr h1 ?_;refine eS ((qX k kp).1) ?_;intro o es ep z r;exact⟨o,es,ep,kq _ _ z,r⟩) e (by refine rwr h2 ?_;refine eS ((qX k kp).2.1) ?_;intro o es ep z r;exact⟨o,es,ep,kq _ _ z,r⟩) e2 q
set_option tactic.hygienic true in
theorem ve(k:Ck X h)(kp:bB h h'){a:Tw}{cn nm:Str}{q:Pa}(e:X.fnB h a cn nm q=true):EY (X.cx h h' prog w g d os tk) a nm q:=by
 refine aJ e λe e3=>aJ e λe1 e2=>⟨lG h (some cn,nm),Fl vR_ok e2,o1_ok vV e3,?_⟩
 refine Bm k (eq_of_beq e1) ?_;intro dd od hd;show(match tg q (d7 (X.es h))with|some (.fn a _ _)=>some a|_=>none)=_;exact rwr hd rfl
theorem lN{α:Type}:∀{l:List (Nat×α)}{k:Nat}{x:α},l.lookup k=some x->(k,x)∈l
 |[],_,_,e=>by exact dh e
 |(j,y)::r,k,x,e=>by
  rw[U2]at e
  split at e
  ·rename_i q;cases e;cases beq_iff_eq.mp q;exact SX
  ·exact T5 _ (lN e)
theorem BI{c:Nat}{a:Tw}(e:(X.cls.lookup c).map (gH h)=some a):(X.cls.lookup c).isSome=true∧a=gH h (X.clsNm c)∧(c,X.clsNm c)∈X.cls:=by
 refine xT e ?_;intro n h1 h2;unfold clsNm;refine rwr h1 ?_;exact⟨rfl,h2.symm,lN h1⟩
theorem jm{c:Nat}{a:Tw}(e:(X.cls.lookup c).map (gH h)=some a){G:Prop}(k:(X.cls.lookup c).isSome=true->a=gH h (X.clsNm c)->(c,X.clsNm c)∈X.cls->G):G:=bf (BI e) k
theorem wN{v:Option (Option SU)}{n:String}(e:B4 v n=true):v=some (some (.builtin n)):=Fl Lq e
theorem mz{v:Option (Option SU)}(e:rn v=true):v=some none:=by rcases v with _|_|v<;>first|rfl|exact aD e
theorem tJ{v:Option (Option SU)}{u:SU}(e:DX v=some u){G:Prop}(k:∀i t,u=.int i t->v=some (some (.int i t))->G):G:=by
 rcases v with _|_|v
 ·exact dh e
 ·exact dh e
 ·cases v<;>first|exact dh e|(cases e;exact k _ _ rfl rfl)
end
end Tx
end
end
end
section
set_option compiler.extract_closed false
section
open PySem PySem.W PyProof.Rows
section
namespace Tx
variable{X:Tx}{h h':UT}{prog:Vl}{w:VX}{g:Array X0}{d:Drawn}{os:OsState}{tk:Nat->KV}
theorem jw{α β:Type}{f:α->β}:∀{l:List α},(l.map f).Nodup->∀x∈l,∀y∈l,f x=f y->x=y
 |[],_,x,hx,_,_,_=>by cases hx
 |a::r,hd,x,hx,y,hy,e=>by
  rw[US,U3]at hd;by_cases h1:x=a
  ·by_cases h2:y=a
   ·exact rwr h1 (rwr h2 rfl)
   ·have:f y∈r.map f:=VE ((T8.mp hy).resolve_left h2);rw[←e,h1]at this;exact absurd this hd.1
  ·have hx:=(T8.mp hx).resolve_left h1;by_cases h2:y=a
   ·have:f x∈r.map f:=VE hx;rw[e,h2]at this;exact absurd this hd.1
   ·exact jw hd.2 x hx y ((T8.mp hy).resolve_left h2) e
abbrev Qm(X:Tx)(h:UT)(nm:Str):Prop:=(B4 (findIn (X.K h) (.ref (gH h nm)) "__getattribute__") "object.__getattribute__"=true∧rn (findIn (X.K h) (.ref (gH h nm)) "__getattr__")=true∧B4 (findIn (X.K h) (.ref (gH h nm)) "__setattr__") "object.__setattr__"=true∧plainOver (X.K h) (gH h nm)=true∧hasDictIn (X.K h) (gH h nm)=true)∧
 keepIn (X.K h) (.ref (gH h nm))=true∧∀s∈X.sl,(rn (findIn (X.K h) (.ref (gH h nm)) s.2.1)||((DX (findIn (X.K h) (.ref (gH h nm)) s.2.1)).isSome&&!copiedNames.contains s.2.1))=true
theorem MT{nm:Str}(e:X.clB h nm=true):Qm X h nm:=by
 exact aJ e λe c7=>aJ e λe c6=>aJ e λe c5=>aJ e λe c4=>aJ e λe c3=>aJ e λc1 c2=>⟨⟨c1,c2,c3,c4,c5⟩,c6,lU c7⟩
theorem Ew(k:Ck X h){c:Nat}{a:Tw}(e:(X.cls.lookup c).map (gH h)=some a){G:Prop}(k0:Qm X h (X.clsNm c)->a=gH h (X.clsNm c)->G):G:=by
 refine jm e ?_;rintro -e2 e3;exact k0 (MT (nm:=X.clsNm c) (k.cl (c,X.clsNm c) e3)) e2
set_option tactic.hygienic true in
theorem okX(k:Ck X h)(kp:bB h h')(hd:EN (X.cx h h' prog w g d os tk)):(X.cx h h' prog w g d os tk).Ok X.pg:=by
 refine aJ k.stat λst s5=>aJ st λst s4=>aJ st λst s3=>aJ st λs1 s2=>?_;refine j6 (qX k kp) ?_;intro n1 n2 n3 n4 n5;exact
 {hd:=hd
  K:=jU k kp
  nolimit:=n4
  con:=λnm v e=>aw (dE (s:=nm) (l:=X.gl) e) λn hm=>jr (k.gl _ hm) λu c hu=>⟨u,mK c,AR k kp hu⟩
  fn:=λnm q e=>by
   refine aw (dE (s:=nm) (l:=X.gl) e) λn hm=>aJ (k.gl _ hm) λb1 b2=>Bm k (eq_of_beq b1) λdd od hd=>⟨gH h nm,?_,AR k kp (o1_ok vR_ok b2)⟩
   show(match tg q (d7 (X.es h))with|some (.fn a _ _)=>some a|_=>none)=_;rw[hd];rfl
  cls:=λnm c q e=>by
   refine aw (dE (s:=nm) (l:=X.gl) e) λn hm=>aJ (k.gl _ hm) λe b4=>aJ e λe b3=>aJ e λb1 b2=>⟨gH h nm,?_,AR k kp (o1_ok vR_ok b2),b3,ve k kp b4⟩
   show(X.cls.lookup c).map (gH h)=_;rw[eq_of_beq b1];rfl
  bi:=λnm b e=>aw (dE (s:=nm) (l:=X.gl) e) λn hm=>aJ (k.gl _ hm) λb1 b2=>Fq k kp (gc b1) (o1_ok eq_of_beq b2)
  exc:=λT hT=>by
   have:Bf h T=true:=by rcases hT with rfl|rfl;exact k.k1;exact k.k2
   exact aJ this λb1 b2=>Fq k kp (gc b1) (o1_ok vV b2)
  ga:=λc a e=>by
   refine Ew k e ?_;rintro zq0 rfl;refine bf zq0 ?_;clear zq0;intro zq0 c6 c7;refine j6 zq0 ?_;clear zq0;intro c1 c2 c3 c4 c5;exact⟨wN c1,mz c2,wN c3,c4,c5⟩
  attr:=λc a nm q e hs=>by
   refine Ew k e ?_;rintro zq0 rfl;refine bf zq0 ?_;clear zq0;intro zq0 c6 c7;refine j6 zq0 ?_;clear zq0;intro c1 c2 c3 c4 c5;refine aw (dE (s:=nm) (l:=X.sl) hs) ?_;intro n hm;rcases WU _ _|>.mp (c7 _ hm)with z|z
   ·exact .inl (mz z)
   ·refine iJ z ?_;intro z1 z2;refine KE z1 ?_;intro u hu;refine tJ hu ?_;rintro i t-e2;exact .inr ⟨i,t,e2,bc z2⟩
  df:=λnm c v a e hc=>by
   refine Ew k hc ?_;rintro -rfl;refine aw (dE (s:=nm) (l:=X.df) e) λn hm=>jr (k.df _ hm) λu z hu=>aJ z λz1 z2=>tJ hu ?_;rintro i t rfl e2;exact⟨i,t,e2,bc z2,mK z1⟩
  mt:=λnm c q a e hc=>by
   refine jm hc ?_;rintro i rfl -;refine aw (dE (s:=nm) (l:=X.mt) e) ?_;intro n hm;refine⟨ve k kp (k.mt _ hm i),gc (lU s2 _ hm)⟩
  ln:=λa hc=>by
   refine jm hc ?_;rintro i rfl -;exact ve k kp (k.ln i)
  lri:=λa hc=>by
   refine jm hc ?_;clear hc;rintro i rfl -;refine ak (k.lri i) ?_;intro z1 z2;exact⟨mz z1,mz z2⟩
  slI:=λnm nm' q e1 e2=>by
   refine aw (dE (s:=nm) (l:=X.sl) e1) ?_;intro n hm;refine aw (dE (s:=nm') (l:=X.sl) e2) ?_;intro n' hm';have:=jw (of_decide_eq_true s4) _ hm _ hm' rfl;cases this;rfl
  sysm:=by refine eS n3 ?_;clear n3;rintro o es ep z -;exact⟨o,z⟩
  top:=by refine fU n5 ?_;clear n5;intro bm ob z;exact⟨_,bm,ob,n1,z⟩
  vol0:=λP hP=>hideAll_none _ hP
  kpf:=λq a e=>by
   have e:(match tg q (d7 (X.es h))with|some (.fn a _ _)=>some a|_=>none)=some a:=e
   split at e
   ·rename_i a' dd od he;cases e;have hm:=su he;unfold es at hm;rcases UC.mp hm with hm|hm
    ·refine rO hm ?_;intro nd hn z;cases z;exact aJ (k.fn _ hn) λe Z=>aJ e λe Z=>aJ e λe Z=>aJ e λZ e=>e
    ·refine rO hm ?_;rintro _-z;exact Ey.noConfusion z
   ·exact dh e
  kpc:=λc a e=>by
   refine Ew k e ?_;clear k;rintro zq0 rfl;refine bf zq0 ?_;clear zq0;intro zq0 c6 c7;refine j6 zq0 ?_;clear zq0;intro c1 c2 c3 c4 c5;exact c6
  slots:=⟨X.sl.map (·.2.1),by rw[TL];exact SP s5,λnm q e=>by refine aw (dE (s:=nm) (l:=X.sl) e) ?_;intro n hm;exact UO.mpr ⟨_,hm,rfl⟩⟩}
end Tx
end
end
end
section
set_option compiler.extract_closed false
section
open PySem PySem.W PyProof.Rows
section
namespace Tx
variable{X:Tx}{h h':UT}{prog:Vl}{w:VX}{g:Array X0}{d:Drawn}{os:OsState}{tk:Nat->KV}
noncomputable def vw(fd:X1):FuncBody×Vv×Ux×List (Str×Tw)×Tw×Tw:=(fd.body,fd.scope,fd.params,fd.closure,fd.globals,fd.builtins)
noncomputable def views(X:Tx)(h:UT):List (FuncBody×Vv×Ux×List (Str×Tw)×Tw×Tw):=X.names.map λn=>vw (vf h (lG h n))
noncomputable def due(X:Tx):List (FuncBody×Vv×Ux×List (Str×Tw)×Tw×Tw):=X.dfs.map λd=>(.stmts d.body,d.sc,d.args,[],Tv,Uh)
set_option tactic.hygienic true in
theorem vr{C:Cx}{tabs:List (Tw×Tw)}(hT:TabsAt tabs h')(kp:bB h h'){x:KV}{v:SU}(e:K3 h x v=true)(R:Wd)(k:bB (ghostOf h' tabs) R.h):VR C R x v:=by
 unfold K3 at e
 split at e
 ·rename_i l hl;refine pA hl ?_;clear hl;rintro a rfl zq;refine aM zq ?_;clear zq;intro o ho hc zq;refine aw zq ?_;clear zq;intro n hd;refine iJ e ?_;intro e1 e2;exact .tup (u0 e1 R) ⟨o,k _ _ (ghost_get hT (kp _ _ ho) λz=>by rw[z]at hc;exact Tp hc),hc,n,hd⟩ (SV (SP e2) (by decide))
 ·exact mK e R
theorem lS{C:Cx}{tabs:List (Tw×Tw)}(hT:TabsAt tabs h')(kp:bB h h'):∀{x:KV}{vs:List SU},BE h x vs=true->∀R:Wd,bB (ghostOf h' tabs) R.h->bG C R x vs
 |.nil,[],_,R,k=>rfl
 |.cons x r,v::vs,e,R,k=>by refine iJ e ?_;intro a b;exact .cons_ (vr hT kp a R k) (lS hT kp b R k)
 |.none,_,e,_,_=>by exact aD e
 |.bool _,_,e,_,_=>by exact aD e
 |.nat _,_,e,_,_=>by exact aD e
 |.neg _,_,e,_,_=>by exact aD e
 |.str _,_,e,_,_=>by exact aD e
 |.ref _,_,e,_,_=>by exact aD e
 |.tok _,_,e,_,_=>by exact aD e
 |.nil,_::_,e,_,_=>by exact aD e
 |.cons _ _,[],e,_,_=>by exact aD e
theorem headX(k:Ck X h)(kp:bB h h')(hv:X.views h=X.due){n:Option Str×Str}{d':Df}(hm:(n,d')∈X.names.zip X.dfs):vG (X.cx h h' prog w g d os tk) (lG h n) d':=by
 refine aw (WQ.mp hm) ?_;intro i hi;refine ak (Wv.mp hi) ?_;intro h1 h2;have e:=congrArg (λl=>l[i]?) hv;unfold views due at e;rw[Tr,Tr,h1,h2]at e;have e:vw (vf h (lG h n))=(.stmts d'.body,d'.sc,d'.args,[],Tv,Uh):=Ti e;have f:=k.fn _ hm;refine aJ f λf f5=>aJ f λf f4=>aJ f λf f3=>aJ f λf1 f2=>?_;refine ag (E9 f1) ?_;intro ob e1 e2;generalize hfd:vf h (lG h n)=fd at*;have q1:fd.body=.stmts d'.body:=congrArg (λx=>x.1) e;have q2:fd.scope=d'.sc:=congrArg (λx=>x.2.1) e;have q3:fd.params=d'.args:=congrArg (λx=>x.2.2.1) e;have q4:fd.closure=[]:=congrArg (λx=>x.2.2.2.1) e;have q5:fd.globals=Tv:=congrArg (λx=>x.2.2.2.2.1) e;have q6:fd.builtins=Uh:=congrArg (λx=>x.2.2.2.2.2) e;have keepT:∀{b:Tw}{o:Obj},h.get? b=some o->o≠tabObj #[]->(ghostOf h' (X.tabs h)).get? b=some o:=λe z=>ghost_get (tabsUp k kp) (kp _ _ e) z;have cr:(ghostOf h' (X.tabs h)).CodeRec fd.code fd.qualname:=by
  refine lQ (Heap.CodeRec.of_ok f3) ?_;intro c o vs t g1 g2 g3 g4;exact⟨c,o,vs,t,g1,keepT g2 (λz=>by rw[z]at g3;cases g3;trivial),g3,g4⟩
 have df:∃dv,qk (ghostOf h' (X.tabs h)) fd dv∧∀R:Wd,bB (ghostOf h' (X.tabs h)) R.h->bG (X.cx h h' prog w g d os tk) R d'.ds dv:=by
  by_cases z:vN fd.defaults=true
  ·rw[z]at f4;refine⟨[],.inl ⟨F4 z,rfl⟩,λR Z=>?_⟩;have f4:kN d'.ds=true:=f4;revert f4;cases d'.ds<;>intro f4<;>first|rfl|exact aD f4
  ·rw[Bool.not_eq_true _|>.mp z]at f4;refine jr f4 λl f4 hl=>pA hl ?_;intro a ha zq;refine aM zq ?_;clear zq;intro o ho hc zq;refine aw zq ?_;clear zq;intro m hd;have tk':=keepT ho (λz=>by rw[z]at hc;exact Tp hc);exact⟨l,.inr ⟨a,l.toArray,ha,⟨o,tk',hc,m,hd⟩,by simp⟩,λR kq=>lS (tabsUp k kp) kp f4 R kq⟩
 refine ag df ?_;clear df;intro dv d1 d2;refine⟨⟨ob,fd,dv,keepT e1 (λz=>by rw[z]at e2;exact Ta e2),e2,q1,q2,q3,q4,q5,q6,cr,d1,d2,λhl=>?_⟩⟩;have hL:Nj d'=true:=by unfold Nj;refine rwr hl ?_;rfl
 rw[hL]at f5;refine ag (List.any_eq_true.mp f5) λx hx z=>aJ z λz z3=>aJ z λhc z1=>?_;have hm2:(x.1,x.2.1)∈X.tabs h:=UO.mpr ⟨x,hx,rfl⟩;refine⟨x.1,x.2.1,vR_ok hc,UO.mpr ⟨_,hm2,rfl⟩,?_,eq_of_beq z3⟩;refine FM ((zg k _ hm2).1) ?_;intro o vs file tf flags tg zq;refine fL zq ?_;clear zq;intro inF text tt g1 g2 r;exact⟨o,vs,file,tf,flags,tg,inF,text,tt,keepT g1 (λz=>by rw[z]at g2;exact Tp g2),g2,r⟩
theorem tabX{y1 y2:Y}(k:Ck X h)(kp:bB h h')(hv:X.views h=X.due)(O:(X.cx h h' prog w g d os tk).Ok X.pg)(hh:∀nd∈X.names.zip X.dfs,fu (X.cx h h' prog w g d os tk) (dF nd.2) y1 y2 ((y7 (X.ov nd.1)).1 nd.2.body))(hb:(X.dfs.all Internal.dfB&&X.lams.all Ni)=true)(hn:me (X.cx h h' prog w g d os tk) ((X.es h).flatMap (wD O (v5 X.lm) y1 y2))):ug (X.cx h h' prog w g d os tk) (d7 ((X.es h).map (vy O (v5 X.lm) y1 y2))):=by
 refine iJ hb ?_;intro b1 b2;refine zh O _ y1 y2 (λzz=>rfl) (λzz=>rfl) (λa dd oo hm=>?_) (λa dd oo hm=>?_) (TP.mpr λy hy=>?_) hn
 ·rcases UC.mp hm with hm|hm
  ·refine rO hm ?_;intro nd h1 z;cases z;exact headX k kp hv h1
  ·refine rO hm ?_;rintro _-z;exact Ey.noConfusion z
 ·rcases UC.mp hm with hm|hm
  ·refine rO hm ?_;intro nd h1 z;cases z;exact hh nd h1
  ·refine rO hm ?_;rintro _-z;exact Ey.noConfusion z
 ·rcases UC.mp hy with hm|hm
  ·refine rO hm ?_;intro nd h1 z;cases z;exact TP.mp b1 _ (WO h1).2
  ·refine rO hm ?_;intro _ h1 z;cases z;exact TP.mp b2 _ h1
end Tx
end
end
end
section
set_option compiler.extract_closed false
section
section
def bA:Pa:=(.a .e)
def b9:X:=(ae .e)
def bM:Pa:=(.b .e)
def cY:Pa:=(.c .e)
def fX:X:=(af (.nat 1))
def fN:X:=(ae (.f .e))
def dJ:X:=(ae bA)
def eT:Pa:=(.d .e)
def iG:X:=(af (.nat 0))
def eB:X:=(ae bM)
def dT:Pa:=(.g .e)
def eW:X:=(ae (.a bA))
def qm:X:=(af (.str 19343145155671596495536228))
def fv:X:=(ae (.d bA))
def cZ:X:=(ae cY)
def eZ:X:=(ae (.h .e))
def fG:X:=(ae (.i .e))
def gf:X:=(ae (.g bA))
def dS:X:=(ae eT)
def eJ:X:=(ae dT)
def jV:X:=(ai (.f cY) b9)
def iC:Tg:=(t1 (.f .e))
def lY:X:=(af (.bool true))
def ju:X:=(ae (.h bA))
def H0:Code:=(.fn 1 .nil (ac (ez (cT lY) (ac ab ab) ab) ab))
def H1:Code:=(.fn 1 .nil (ac (bL (qx (fj (aA rP (cW 1 dT b9) iG)) (Gi (fS (aG b9) aj (t1 .e) (fj (u9 [2097249,2097250,2097251,2097252,2097253,2097254,2097255,2097256,2097257,2097258,2097259,2097260,2097261,2097262,2097263,2097264,2097265,2097266,2097267,2097268,2097269,2097270,2097271,2097272,2097273,2097274,2097217,2097218,2097219,2097220,2097221,2097222,2097223,2097224,2097225,2097226,2097227,2097228,2097229,2097230,2097231,2097232,2097233,2097234,2097235,2097236,2097237,2097238,2097239,2097240,2097241,2097242,2097200,2097201,2097202,2097203,2097204,2097205,2097206,2097207,2097208,2097209,2097247,2097197] b9)) iB)))) ab))
def H2:Code:=(.fn 1 .nil (ac (bE (rJ (aA my (cW 1 dT b9) (af (.nat 3))) (rJ (aA pj (av b9 iG) (av b9 (eC fX))) (rJ (aA jU (av b9 iG) xq) (rJ (aA jU (af (.str 2097244)) b9) (aA jU (af (.str 2097162)) b9))))) (ac fH ab) ab) (ac (bL xq) ab)))
def H3:Code:=(.fn 8 (.cons (.cons (.str 40567024288966772448377926844532) (.cons (.nat 0) .nil)) (.cons .none (.cons (.str 1) (.cons (.nat 0) .nil)))) (ac (cF .e b9 eB) (ac (cF bA b9 (rU cZ)) (ac (cF bM b9 dJ) (ac (cF cY b9 fN) (ac (cF eT b9 (af .none)) (ac (cF (.f .e) b9 eJ) (ac (cF dT b9 eZ) (ac (cF (.h .e) b9 dS) (ac (cF (.i .e) b9 (cW 1 dT (ai bA b9))) (ac (cF (.a bA) b9 (aS aj)) (ac (cj (aG (ai bA b9)) (t1 (.i .e)) (ac (bE (aA kQ fG (ai (.a bA) b9)) (ac (aX (dy (ai (.a bA) b9) fG)) ab) ab) ab) ab) (ac (cF (.b bA) b9 (aS aj)) (ac (cF (.c bA) b9 (af .none)) (ac (bE (cT (ai bA b9)) (ac (cF (.d bA) b9 (rX (iX (rZ (ai .e b9)) (iX (af (.str 19343108261937158371147808)) (iX (rZ (vM 2097184 (ai bA b9))) aj))))) ab) (ac (cF (.d bA) b9 (bj gS (af (.str 15177368490116720127856851715738124369746665464782209044878335172050783817703620670)) (ai .e b9))) ab)) ab)))))))))))))))
def H4:Code:=(.fn 1 .nil (ac (bL (ai (.d bA) b9)) ab))
def H5:Code:=(.fn 1 .nil (ac (bL (bj cI (bj cI (af (.str 3451004813849316331460058896558826724969440581771043044798862792327208)) xq) (af (.str 2097193)))) ab))
def H6:Code:=(.fn 1 .nil (ac (bL (cW 1 dT (ai bA b9))) ab))
def H7:Code:=(.fn 2 .nil (ac (bL (av (ai bA b9) dJ)) ab))
noncomputable def H8:Code:=(.fn 2 .nil (ac (aX (b8 .e (ad iG aj))) ab))
def H9:Code:=(.fn 3 .nil (ac (cF .e b9 (ai .e dJ)) (ac (cF bA b9 (gu (ai bA dJ))) (ac (cF bM b9 (ai bM dJ)) (ac (cF (.f bA) b9 eB) (ac (cF (.g bA) b9 bT) (ac (aX (Gg (ai bA b9) eB (af (.str 2097198)))) (ac (cF bA b9 (rU (ai bA b9))) (ac (cF (.i .e) b9 (cW 1 dT (ai bA b9))) (ac (cF (.a bA) b9 (ai (.a bA) dJ)) ab))))))))))
def SM:Code:=(.fn 1 .nil (ac (bE (cT (ai bA b9)) (ac (ao (t1 bA) (rX (iX (rZ (ai .e b9)) (iX (af (.str 19343108261937158371147808)) (iX (rZ (vM 2097184 (ai bA b9))) aj))))) ab) (ac (ao (t1 bA) (bj gS (af (.str 15177368490116720127856851715738124369746665464782209044878335172050783817703620670)) (ai .e b9))) ab)) (ac (bL dJ) ab)))
def SL:Code:=(.fn 1 .nil (ac (bL (bj cI (bj cI (af (.str 178412426956542799550116851469742798991786024)) xq) (af (.str 2097193)))) ab))
def SK:Code:=(.fn 2 .nil (ac (ao (t1 bM) (bj lP (cW 1 dT b9) fX)) (ac (ez (aA Mn eB iG) (ac (bE (aA jU (av b9 eB) dJ) (ac (bL (av b9 eB)) ab) ab) (ac (uo bM lP fX) ab)) ab) (ac (bL (af .none)) ab))))
def SJ:Code:=(.fn 2 .nil (ac (cF (.c bM) b9 (aS (ad (af .none) aj))) (ac (cF (.d bM) b9 bT) (ac (cF (.f bM) b9 bT) (ac (cF (.g bM) b9 bT) (ac (cj (aG dJ) (t1 bM) (ac (bR (ai (.g bM) b9) eB (aS aj)) ab) ab) (ac (bR (ai (.g bM) b9) (af (.str 40566772832479303002219807244402)) (aS aj)) (ac (cF (.h bM) b9 bT) (ac (cF (.i bM) b9 bT) (ac (cF (.a cY) b9 bT) (ac (cF (.b cY) b9 bT) (ac (cF (.c cY) b9 Cq) (ac (cF (.d cY) b9 (af .none)) ab)))))))))))))
def SI:Code:=(.fn 1 .nil (ac (bL (cW 1 dT (ai (.c bM) b9))) ab))
def SH:Code:=(.fn 2 .nil (ac (bL (av (ai (.c bM) b9) dJ)) ab))
def SG:Code:=(.fn 4 .nil (ac (Gf (aA eI (ai (.c (.b .e)) (ae .e)) (aS (ad (af .none) aj)))) (ac (bE (aA jU (ae (.a .e)) (ai (.b (.c .e)) (ae .e))) (ac fH ab) ab) (ac (bE (aA kQ (ae (.b .e)) (aS (ad (af (.str 19343809238458250022617204)) (ad (af (.str 40567024288966772448377926844532)) (ad (af (.str 374164043821928694152695900025857252409163869323363)) aj))))) (ac fH ab) ab) (ac (bR (ai (.b (.c .e)) (ae .e)) (ae (.a .e)) (ad (ae (.b .e)) (ad (ae (.c .e)) aj))) ab)))))
def SF:Code:=(.fn 6 (.cons .none (.cons (.str 1) (.cons (.nat 0) .nil))) (ac (bE (aA jU dJ (ai (.g bM) b9)) (ac fH ab) ab) (ac (bE (aA eI dJ (af (.str 40566772832479303002219807244402))) (ac fH ab) ab) (ac (bE (fQ (cT (b8 bA (ad dJ aj)))) (ac fH ab) ab) (ac (cj (tM eB) (tC (t1 dT) (tC (t1 (.h .e)) tN)) (ac (bE (u9 [2097191,2097186] (av eZ iG)) (ac fH ab) ab) (ac (bE (iq (fQ (cT (b8 bA (ad eZ aj)))) (aA pj eZ (af (.str 40565534892421570877871177597027)))) (ac fH ab) ab) ab)) ab) (ac (bE (aA jU (af (.str 40565534892421570877871177597027)) eB) (ac (bE (aA eI (av eB (eC fX)) (af (.str 40565534892421570877871177597027))) (ac fH ab) ab) (ac (bE (aA pj (av eB (eC (af (.nat 2)))) (af (.str 40565534892421570877871177597027))) (ac fH ab) ab) (ac (ao (t1 (.a bA)) (av eB (eC fX))) (ac (ao (t1 (.b bA)) (gK (ai (.b cY) b9) eW)) (ac (bE (fQ (cT (ae (.b bA)))) (ac fH ab) (ac (aX (rV (ai (.c cY) b9) eW)) ab)) (ac (yO eB) ab)))))) (ac (ao (t1 (.a bA)) (b8 (.d bA) (ad eB (ad (ai (.g bM) b9) aj)))) (ac (ao (t1 (.b bA)) (iu (ai (.b cY) b9) eW (ad (af (.str 40567024288966772448377926844532)) (ad iG aj)))) ab))) (ac (ao (t1 (.c bA)) (rX (iX (rZ dJ) (iX (af (.str 19343108261937158371147808)) (iX (rZ eB) aj))))) (ac (bE (aA jU (ae (.c bA)) (ai (.f bM) b9)) (ac (ao (t1 (.d bA)) (av (ai (.f bM) b9) (ae (.c bA)))) (ac fH ab)) ab) (ac (ao (t1 (.f bA)) (cW 1 dT (ai (.c bM) b9))) (ac (bE (aA kQ dJ (ai (.h bM) b9)) (ac (bR (ai (.h bM) b9) dJ (aS aj)) ab) ab) (ac (cj (aG eB) (t1 (.g bA)) (ac (bE (aA jU gf (ai (.g bM) b9)) (ac (aX (dy (av (ai (.g bM) b9) gf) (ae (.f bA)))) ab) (ac (bE (aA kQ gf (ai (.h bM) b9)) (ac (bR (ai (.h bM) b9) gf (aS aj)) ab) ab) (ac (aX (dy (av (ai (.h bM) b9) gf) (ae (.f bA)))) ab))) ab) ab) (ac (ao (t1 (.h bA)) (qv 1 cY (ad (ae (.f bA)) (ad dJ (ad eB (ad (ae (.b bA)) (ad cZ (ad dS (ad fN aj))))))))) (ac (aX (dy (ai (.c bM) b9) ju)) (ac (bR (ai (.f bM) b9) (ae (.c bA)) ju) (ac (yN (uW (pX (ai (.d bM) b9)) (pX dJ)) [0] (aX (dy (av (ai (.d bM) b9) dJ) ju)) (bR (ai (.d bM) b9) dJ (aS (ad ju aj)))) ab)))))))))))))))
def SE:Code:=(.fn 2 (.cons .none .nil) (ac (bE (fQ (cT dJ)) (ac (ao (t1 bA) (ai .e (av (ai (.c bM) b9) fX))) ab) ab) (ac (bE (aA kQ dJ (ai (.h bM) b9)) (ac fH ab) ab) (ac (bR (ai (.c bM) b9) iG (qv 1 cY (ad iG (ad (af (.str 4398220574759)) (ad (aS (ad dJ aj)) aj))))) (ac (aX (dy (av (ai (.h bM) b9) dJ) iG)) (ac (cF (.d cY) b9 dJ) ab))))))
noncomputable def SD:Code:=(.fn 1 .nil (ac (aX (b8 .e (ad fX aj))) ab))
noncomputable def SC:Code:=(.fn 1 .nil (ac (aX (b8 .e (ad (af (.nat 2)) aj))) ab))
noncomputable def SB:Code:=(.fn 1 .nil (ac (aX (b8 .e (ad (af (.nat 3)) aj))) ab))
noncomputable def SA:Code:=(.fn 1 .nil (ac (aX (b8 .e (ad (af (.nat 4)) aj))) ab))
noncomputable def Sz:Code:=(.fn 1 .nil (ac (aX (b8 .e (ad (af (.nat 5)) aj))) ab))
noncomputable def Sy:Code:=(.fn 1 .nil (ac (aX (b8 .e (ad (af (.nat 6)) aj))) ab))
def Sx:Code:=(.fn 2 .nil (ac (ao (t1 bM) (aS aj)) (ac (cj (aG dJ) (t1 cY) (ac (ao (t1 eT) (af (.bool false))) (ac (cj (aG (av (ai (.i bM) b9) cZ)) iC (ac (bE (aA eI fN (af (.str 178411065827845848057542996652027295402295358))) (ac (ao (t1 eT) lY) ab) (ac (bE (aA kQ fN eB) (ac (aX (dy eB fN)) ab) ab) ab)) ab) ab) (ac (bE (cT dS) (ac ab ab) (ac mR ab)) ab))) (ac (aX (dy eB (af (.str 178411065827845848057542996652027295402295358)))) ab)) (ac (bL eB) ab))))
def Sw:Code:=(.fn 1 .nil (ac (bE (cT (ai (.i bM) b9)) (ac (bL (ai (.i bM) b9)) ab) ab) (ac (cj (aG (ai (.g bM) b9)) (t1 bA) (ac (bR (ai (.i bM) b9) dJ (aS (ad dJ aj))) ab) ab) (ac (bR (ai (.i bM) b9) qm (aS (ad qm aj))) (ac (cj (aG (ai (.h bM) b9)) (t1 bM) (ac (bR (ai (.i bM) b9) eB (aS aj)) ab) ab) (ac (ez (cT lY) (ac (ao (t1 cY) (af (.bool false))) (ac (cj (aG (ai (.h bM) b9)) (t1 bM) (ac (cj (aG (av (ai (.d bM) b9) eB)) (t1 eT) (ac (cj (aG (bU 4 (.a cY) b9 (ad (ai bA dS) aj))) iC (ac (bE (aA kQ fN (av (ai (.i bM) b9) eB)) (ac (aX (dy (av (ai (.i bM) b9) eB) fN)) (ac (ao (t1 cY) lY) ab)) ab) ab) ab) ab) ab) ab) ab) (ac (bE (fQ (cT cZ)) (ac mR ab) ab) ab))) ab) (ac (bL (ai (.i bM) b9)) ab)))))))
def Sv:Code:=(.fn 2 (.cons .none .nil) (ac (bE (cT (ai (.a cY) b9)) (ac (bL (ai (.a cY) b9)) ab) ab) (ac (bE (fQ (cT (ai (.i bM) b9))) (ac (aX (bU 4 (.b cY) b9 aj)) ab) ab) (ac (cj (aG (ai (.h bM) b9)) (t1 bM) (ac (bR (ai (.a cY) b9) eB (aS aj)) ab) ab) (ac (bE (fQ (cT dJ)) (ac (ao (t1 bA) (ai .e (av (ai (.c bM) b9) fX))) ab) ab) (ac (bR (ai (.a cY) b9) dJ (aS (ad qm aj))) (ac (ez (cT lY) (ac (ao (t1 cY) (af (.bool false))) (ac (cj (aG (rY (ai (.c bM) b9) fX)) (t1 eT) (ac (cj (tM (ai bA dS)) (tC iC (tC (t1 dT) tN)) (ac (bE (aA jU eJ (ai (.h bM) b9)) (ac (ao (t1 (.h .e)) (bU 4 (.a cY) b9 (ad (rY (ai bA dS) (bj cI fN fX)) aj))) (ac (ao (t1 (.i .e)) (af (.bool false))) (ac (cj (aG eZ) (t1 (.a bA)) (ac (bE (iq (aA pj eW (af (.str 178411065827845848057542996652027295402295358))) (aA kQ eW (av (ai (.a cY) b9) eJ))) (ac (aX (dy (av (ai (.a cY) b9) eJ) eW)) (ac (ao (t1 cY) lY) ab)) ab) (ac (bE (aA eI eW (af (.str 178411065827845848057542996652027295402295358))) (ac (ao (t1 (.i .e)) lY) ab) ab) ab)) ab) (ac (bE (rJ (cT fG) (aA eI fN (bj lP (cW 1 dT (ai bA dS)) fX))) (ac (cj (aG (av (ai (.a cY) b9) (ai .e dS))) (t1 (.a bA)) (ac (bE (aA kQ eW (av (ai (.a cY) b9) eJ)) (ac (aX (dy (av (ai (.a cY) b9) eJ) eW)) (ac (ao (t1 cY) lY) ab)) ab) ab) ab) ab) ab) ab)))) ab) ab) ab) ab) ab) (ac (bE (fQ (cT cZ)) (ac mR ab) ab) ab))) ab) (ac (bL (ai (.a cY) b9)) ab))))))))
def Su:Code:=(.fn 1 .nil (ac (cj (aG (ai (.c bM) b9)) (t1 bA) (ac (ao (t1 bM) dJ) (ac (ao (t1 cY) iG) (ac (ao (t1 eT) (aS aj)) (ac (ez (cT lY) (ac (bE (aA rP cZ (cW 1 dT dJ)) (ac (ao iC (af .none)) ab) (ac (ao iC (qv 2 (.a bA) (ad dJ (ad cZ aj)))) (ac (yN (uW (pX (ai (.d bM) b9)) (uW (pX (ai bA fN)) (pX (bj cI cZ fX)))) [0,1] (cF (.h bA) fN (av (ai (.d bM) b9) (av (ai bA fN) (bj cI cZ fX)))) (cF (.h bA) fN (aS aj))) (ac (yN (uW (pX (ai bA fN)) (pX (bj lP cZ fX))) [1] (cF (.i bA) fN (av (ai bA fN) (bj lP cZ fX))) (cF (.i bA) fN (af .none))) ab)))) (ac (cF (.c bA) eB fN) (ac (bE (fQ (cT fN)) (ac mR ab) ab) (ac (aX (dy dS fN)) (ac (ao (t1 bM) fN) (ac (uo cY cI fX) ab)))))) ab) (ac (cF (.b bA) dJ dS) ab))))) ab) ab))
def Ss:Code:=(.fn 3 .nil (ac (ao (t1 cY) bT) (ac (cj (aG b9) (t1 eT) (ac (bR cZ dS iG) ab) ab) (ac (ao iC (aS aj)) (ac (ao (t1 dT) bT) (ac (cj (aG b9) (t1 eT) (ac (bE (aA eI (av cZ dS) iG) (ac (aX (b8 (.g cY) (ad dS (ad cZ (ad fN (ad eJ (ad b9 (ad dJ (ad eB aj))))))))) ab) ab) ab) ab) (ac (bL eJ) ab)))))))
def Sr:Code:=(.fn 7 .nil (ac (aX (dy eB b9)) (ac (ao (t1 (.h .e)) (cW 1 dT eB)) (ac (bR dJ b9 eZ) (ac (bR cZ b9 (qw eJ (ad b9 aj))) (ac (ao (t1 (.i .e)) (qw fN (ad b9 aj))) (ac (cj (aG fG) (t1 (.a bA)) (ac (bE (aA eI (av dJ eW) iG) (ac (aX (b8 (.g cY) (ad eW (ad dJ (ad eB (ad cZ (ad dS (ad fN (ad eJ aj))))))))) ab) ab) (ac (bR dJ b9 (bj Jo (av dJ b9) (av dJ eW))) (ac (cj (aG (iu cZ eW (aS aj))) (t1 (.b bA)) (ac (bE (aA kQ (ae (.b bA)) (av cZ b9)) (ac (aX (dy (av cZ b9) (ae (.b bA)))) ab) ab) ab) ab) ab))) ab) (ac (bE (aA eI (av dJ b9) eZ) (ac (bR dJ (av eB (eC fX)) (af (.nat 9223372036854775807))) (ac (bR cZ (av eB (eC fX)) (av cZ b9)) (ac (ao (t1 (.c bA)) (Cr eB)) (ac (ez (aA pj (ae (.c bA)) b9) (ac (bR dJ (av eB (eC fX)) (af (.nat 9223372036854775807))) (ac (bR cZ (av eB (eC fX)) (av cZ b9)) (ac (ao (t1 (.c bA)) (Cr eB)) ab))) ab) ab)))) ab) ab))))))))
def Sq:Code:=(.fn 1 .nil (ac (bE (fQ (cT b9)) (ac (bL aj) ab) ab) (ac (bL (rU (fS (aG b9) aj (t1 .e) (ad (ai bM b9) (ad (ai (.f bA) b9) aj)) iB))) ab)))
def Sp:Code:=(.fn 4 (.cons (.str 19343514090394740940865618) (.cons .none .nil)) (ac (bE (aA kQ eB (aS (ad (af (.str 9223737074874581074)) (ad (af (.str 19343514090394740940865618)) aj)))) (ac fH ab) ab) (ac (cF (.f cY) b9 dJ) (ac (cF (.g cY) b9 eB) (ac (cF (.h cY) b9 bT) (ac (cF (.i cY) b9 bT) (ac (cF (.a eT) b9 (ai (.c bM) dJ)) (ac (cF (.b eT) b9 bT) (ac (cF (.c eT) b9 bT) (ac (cF (.d eT) b9 iG) (ac (cF (.f eT) b9 iG) (ac (cF (.g eT) b9 iG) (ac (cF (.h eT) b9 (aS aj)) (ac (cF (.i eT) b9 NF) (ac (cF (.a (.f .e)) b9 (aS aj)) (ac (aX (bU 4 (.d cY) jV aj)) (ac (aX (bU 4 (.b cY) jV aj)) (ac (aX (bU 4 (.c cY) jV aj)) (ac (aX (bU 6 (.f (.f .e)) b9 aj)) ab)))))))))))))))))))
def So:Code:=(.fn 2 .nil (ac (lZ (KR (.d eT)) (.d eT) cI b9 fX) (ac (ao (t1 bM) (yS dJ)) (ac (ao (t1 cY) lY) (ac (ez (cT cZ) (ac (ao (t1 cY) (af (.bool false))) (ac (cj (aG eB) (t1 eT) (ac (cj (aG (ai (.h bA) dS)) iC (ac (bE (aA eI (ur (.a bM) 1 (.nat 0) fN) (ai (.d eT) b9)) (ac lJ ab) ab) (ac (aX (dy eB (ai (.c bA) fN))) (ac (cF (.a bM) fN (ai (.d eT) b9)) (ac (ao (t1 cY) lY) ab)))) ab) ab) ab) ab)) ab) (ac (bL eB) ab))))))
def Sn:Code:=(.fn 3 .nil (ac (ao (t1 cY) (gK (ai (.b eT) b9) (ad (b8 (.h cY) (ad dJ aj)) (ad eB aj)))) (ac (bE (cT cZ) (ac (bL cZ) ab) ab) (ac (ao (t1 eT) (gK (ai (.b eT) b9) eB)) (ac (bE (fQ (cT dS)) (ac (ao (t1 eT) bT) (ac (bR (ai (.b eT) b9) eB dS) ab)) ab) (ac (ao iC (aS aj)) (ac (cj (aG dJ) (t1 dT) (ac (ao (t1 (.h .e)) (ai (.c bA) eJ)) (ac (bE (iq (cT eZ) (aA eI (ai (.i bA) eZ) eB)) (ac (ao (t1 (.i .e)) (gK dS (ad (ai bM eZ) (ad (ai (.f bA) eZ) aj)))) (ac (bE (fQ (cT fG)) (ac (ao (t1 (.i .e)) bT) (ac (bR dS (ad (ai bM eZ) (ad (ai (.f bA) eZ) aj)) fG) ab)) ab) (ac (aX (dy fN eZ)) (ac (ao (t1 eT) fG) ab)))) ab) ab)) ab) (ac (ao (t1 cY) (gK dS qm)) (ac (bE (fQ (cT cZ)) (ac (bE (cT fN) (ac (ao (t1 cY) (bU 6 (.a eT) b9 (ad fN aj))) (ac (bR dS qm cZ) ab)) (ac (bR dS qm fN) ab)) ab) ab) (ac (bR (ai (.b eT) b9) (ad (b8 (.h cY) (ad dJ aj)) (ad eB aj)) cZ) (ac (bL cZ) ab)))))))))))
def Sl:Code:=(.fn 1 .nil (ac (ao (t1 bA) (aS (ad (bU 6 (.a eT) b9 (ad (aS (ad (ai (.c bA) (av (ai (.c bM) jV) iG)) aj)) aj)) aj))) (ac (ao (t1 bM) iG) (ac (cj (aG dJ) (t1 cY) (ac (bR (ai (.c eT) b9) (b8 (.h cY) (ad cZ aj)) eB) (ac (uo bM cI fX) ab)) ab) (ac (ao (t1 bM) iG) (ac (ez (aA my eB (cW 1 dT dJ)) (ac (ao (t1 cY) (av dJ eB)) (ac (uo bM cI fX) (ac (ao (t1 eT) bT) (ac (cj (aG cZ) iC (ac (cj (aG (ai (.a bA) fN)) (t1 dT) (ac (bR dS eJ (af .none)) ab) ab) ab) ab) (ac (cj (aG dS) (t1 (.h .e)) (ac (ao (t1 (.i .e)) (bU 6 (.b eT) b9 (ad cZ (ad eZ aj)))) (ac (bE (rJ (fQ (cT fG)) (aA jU (b8 (.h cY) (ad fG aj)) (ai (.c eT) b9))) (ac lJ ab) ab) (ac (bR (ai (.c eT) b9) (b8 (.h cY) (ad fG aj)) (cW 1 dT dJ)) (ac (aX (dy dJ fG)) ab)))) ab) ab))))) ab) (ac (bL dJ) ab)))))))
def Sj:Code:=(.fn 1 .nil (ac (ao (t1 bA) Cq) (ac (ao (t1 bM) iG) (ac (ez (cT lY) (ac (cj (aG (rY (ai (.c bM) jV) fX)) (t1 cY) (ac (bE (aA eI (ai (.i .e) cZ) iG) (ac (aX (rV dJ (ai .e cZ))) (ac lJ ab)) ab) (ac (cj (aG (ai bA cZ)) (t1 eT) (ac (bE (aA kQ dS dJ) (ac mR ab) ab) ab) (ac (aX (rV dJ (ai .e cZ))) ab)) ab)) ab) (ac (bE (aA eI (cW 1 dT dJ) eB) (ac mR ab) ab) (ac (ao (t1 bM) (cW 1 dT dJ)) ab))) ab) (ac (bL dJ) ab)))))
def Sf:Code:=(.fn 2 .nil (ac (ao (t1 bM) (aS aj)) (ac (cj (tM dJ) (tC (t1 cY) (tC (t1 eT) tN)) (ac (cj (aG dS) iC (ac (bE (aA my (ai (.f bA) fN) (bj lP (ai (.i .e) fN) fX)) (ac (ao (t1 dT) (ad cZ (ad (av (ai bA fN) (bj cI (ai (.f bA) fN) fX)) aj))) (ac (bE (aA jU (av eJ fX) (ai (.h bM) jV)) (ac (bE (aA kQ eJ eB) (ac (aX (dy eB eJ)) ab) ab) ab) ab) ab)) ab) ab) ab) ab) ab) (ac (bL eB) ab))))
def Se:Code:=(.fn 4 .nil (ac (ao (tC (t1 eT) (tC iC tN)) eB) (ac (ao (t1 dT) (aS aj)) (ac (ao (t1 (.h .e)) (bU 6 (.b eT) b9 (ad (av dJ dS) (ad fN aj)))) (ac (cj (aG eZ) (t1 (.i .e)) (ac (bE (aA my (ai (.f bA) fG) (bj lP (ai (.i .e) fG) fX)) (ac (ao (t1 (.a bA)) (av (ai bA fG) (bj cI (ai (.f bA) fG) fX))) (ac (bE (aA jU eW (ai (.g bM) jV)) (ac (bE (aA kQ eW eJ) (ac (aX (dy eJ eW)) ab) ab) ab) ab) ab)) ab) ab) ab) (ac (bE (iq (aA eI dS iG) (aA eI fN (av (ai bA (av (ai (.c bM) jV) iG)) iG))) (ac (aX (dy eJ qm)) ab) ab) (ac (bL eJ) ab)))))))
def Sd:Code:=(.fn 4 .nil (ac (ao (t1 eT) (aS aj)) (ac (ao (tC iC (tC (t1 dT) tN)) eB) (ac (ao (t1 (.h .e)) (bU 6 (.b eT) b9 (ad (av dJ fN) (ad eJ aj)))) (ac (ao (t1 (.i .e)) (iu (ai (.c eT) b9) (b8 (.h cY) (ad eZ aj)) (eC fX))) (ac (cj (aG eZ) (t1 (.a bA)) (ac (bE (aA my (ai (.f bA) eW) (bj lP (ai (.i .e) eW) fX)) (ac (ao (t1 (.b bA)) (av (ai bA eW) (bj cI (ai (.f bA) eW) fX))) (ac (bE (aA jU (ae (.b bA)) cZ) (ac (aX (dy dS (ad fG (ad (ae (.b bA)) aj)))) ab) ab) ab)) ab) ab) ab) (ac (bL dS) ab)))))))
def Sc:Code:=(.fn 4 .nil (ac (ao (t1 eT) bT) (ac (ao iC bT) (ac (ao (t1 dT) bT) (ac (cj (aG eB) (t1 (.h .e)) (ac (bR eJ eZ fX) ab) ab) (ac (cj (aG eB) (tC (t1 (.i .e)) (tC (t1 (.a bA)) tN)) (ac (ao (t1 (.b bA)) (aS aj)) (ac (ao (t1 (.c bA)) (aS aj)) (ac (cj (aG (av dJ fG)) (t1 (.d bA)) (ac (bE (aA pj (ai .e fv) eW) (ac lJ ab) ab) (ac (ao (t1 (.f bA)) (ai (.f bA) fv)) (ac (ao (t1 (.g bA)) fG) (ac (ez (aA my (ae (.f bA)) (bj lP (ai (.i .e) fv) fX)) (ac (ao (t1 (.f bA)) (bj cI (ae (.f bA)) fX)) (ac (ao (t1 (.h .e)) (av (ai bA fv) (ae (.f bA)))) (ac (bE (aA jU (ad gf (ad eZ aj)) eJ) (ac (ao (t1 (.h bA)) (bj cI (ae (.f bA)) fX)) (ac (ez (aA my ju (ai (.i .e) fv)) (ac (bE (aA jU (av (ai bA fv) ju) (ai (.g bM) jV)) (ac mR ab) ab) (ac (bE (aA kQ (av (ai bA fv) ju) cZ) (ac mR ab) ab) (ac (ao (t1 (.h bA)) (bj cI ju fX)) ab))) (ac (aX (dy (ae (.c bA)) (ad gf (ad eZ aj)))) ab)) ab)) ab) (ac (ao (t1 (.i bA)) (bU 6 (.b eT) b9 (ad (av dJ gf) (ad eZ aj)))) (ac (ao (t1 (.g bA)) (iu (ai (.c eT) b9) (b8 (.h cY) (ad (ae (.i bA)) aj)) (eC fX))) ab))))) ab) (ac (cj (aG (av dJ gf)) (t1 (.a bM)) (ac (bE (aA pj (ai .e (ae (.a bM))) (ai .e fv)) (ac lJ ab) ab) (ac (bE (aA pj (ai (.i .e) (ae (.a bM))) (ai (.i .e) fv)) (ac lJ ab) ab) (ac (ao (t1 (.b bM)) iG) (ac (ez (aA my (ae (.b bM)) (ai (.f bA) (ae (.a bM)))) (ac (bE (aA pj (av (ai bA (ae (.a bM))) (ae (.b bM))) (av (ai bA fv) (bj cI (ae (.b bM)) fX))) (ac mR ab) ab) (ac (ao (t1 (.b bM)) (bj cI (ae (.b bM)) fX)) ab)) (ac (aX (dy (ae (.b bA)) (ad gf (ad (ae (.a bM)) aj)))) ab)) ab)))) ab) ab))))) ab) (ac (cj (aG (ae (.c bA))) (t1 (.b bM)) (ac (bE (aA kQ (ae (.b bM)) fN) (ac (bR fN (ae (.b bM)) (aS aj)) ab) ab) (ac (aX (dy (av fN (ae (.b bM))) (ad fG (ad eW aj)))) ab)) ab) (ac (bR dS (ad fG (ad eW aj)) (ae (.b bA))) ab))))) ab) (ac (bL (ad dS (ad fN aj))) ab)))))))
def Sb:Code:=(.fn 4 .nil (ac (ao (t1 eT) (xp (.h dT) (ad dJ (ad cZ (ad b9 aj))))) (ac (ao iC (xp (.i dT) (ad dJ (ad cZ (ad b9 aj))))) (ac (ao (t1 dT) (b8 (.f cY) (ad eB (ad fN (ad dS aj))))) (ac (bL eJ) ab)))))
def Sa:Code:=(.fn 4 .nil (ac (ao (t1 eT) (xp (.a (.h .e)) (ad eB aj))) (ac (ao iC (xp (.b (.h .e)) (ad cZ aj))) (ac (ao (t1 dT) (b8 (.f cY) (ad dJ (ad fN (ad dS aj))))) (ac (bL eJ) ab)))))
def S9:Code:=(.fn 3 .nil (ac (cj (vc dJ) (tC (t1 cY) (tC (t1 eT) tN)) (ac (cj (aG dS) (tC iC (tC (t1 dT) tN)) (ac (bE (aA kQ fN (ai (.g bA) eJ)) (ac (bR (ai (.g bA) eJ) fN (aS aj)) ab) ab) (ac (ao (t1 (.h .e)) (iu eB cZ (aS aj))) (ac (cj (aG eZ) (t1 (.i .e)) (ac (bE (aA kQ fG (av (ai (.g bA) eJ) fN)) (ac (aX (dy (av (ai (.g bA) eJ) fN) fG)) ab) ab) ab) ab) ab))) ab) ab) ab) ab))
def S8:Code:=(.fn 2 .nil (ac (ao (t1 bM) (bU 6 (.d eT) b9 aj)) (ac (ao (t1 cY) (bU 6 (.f eT) b9 (ad dJ aj))) (ac (ao (t1 eT) (bU 6 (.a (.f .e)) b9 (ad dJ (ad cZ (ad eB aj))))) (ac (ao (tC iC (tC (t1 dT) tN)) (bU 6 (.i eT) b9 (ad dJ (ad cZ (ad eB aj))))) (ac (ao (t1 (.h .e)) (bU 6 (.b (.f .e)) b9 (ad cZ (ad dS (ad eJ aj))))) (ac (aX (bU 6 (.c (.f .e)) b9 (ad fN (ad eZ aj)))) ab)))))))
def S7:Code:=(.fn 1 .nil (ac (ao (t1 bA) (ai (.c bM) jV)) (ac (ao (t1 bM) (ai (.b cY) jV)) (ac (ao (t1 cY) (ai (.i cY) b9)) (ac (ao (t1 eT) (ai (.h cY) b9)) (ac (ao iC bT) (ac (ao (t1 dT) (bU 6 (.c eT) b9 aj)) (ac (bE (aA eI (ai (.g cY) b9) (af (.str 19343514090394740940865618))) (ac (aX (bU 6 (.d (.f .e)) b9 (ad eJ aj))) ab) ab) (ac (ao (t1 (.h .e)) iG) (ac (cj (aG eJ) (t1 (.i .e)) (ac (ao (t1 (.a bA)) bT) (ac (ao (t1 (.b bA)) bT) (ac (ao (t1 (.c bA)) bT) (ac (cj (aG fG) (t1 (.d bA)) (ac (bE (aA eI (ai (.i .e) fv) (bj cI (ai (.f bA) fv) fX)) (ac (bE (aA eI (ai .e fv) (af (.str 4398220574759))) (ac (bR eW qm iG) (ac (bR (ae (.b bA)) qm fv) ab)) (ac (bE (aA eI (ai (.g cY) b9) (af (.str 19343514090394740940865618))) (ac (ao (t1 (.f bA)) (av (ai (.g bA) fv) eZ)) ab) (ac (ao (t1 (.f bA)) (av (ai (.a cY) jV) (ai .e fv))) ab)) (ac (cj (aG (ae (.f bA))) (t1 (.g bA)) (ac (ao (t1 (.h bA)) (gK eW gf)) (ac (bE (yj ju) (ac (bE (aA rP ju iG) (ac (ao (tC (t1 (.i bA)) (tC (t1 (.a bM)) tN)) (iu eB gf (ad (af (.str 40567024288966772448377926844532)) (ad iG aj)))) (ac (ao (tC (t1 (.b bM)) (tC (t1 (.c bM)) tN)) (ai (.h .e) (av dJ (ai bM fv)))) (ac (yQ bM (.i eT) (.b bM)) ab))) (ac (bE (aA my ju iG) (ac (ao (t1 (.d bM)) (av dJ (eC ju))) (ac (ao (t1 (.f bM)) (av dJ (ai bM fv))) (ac (bE (aA rP (ai dT (ae (.d bM))) (ai dT (ae (.f bM)))) (ac (bR eW gf (eC (ai bM fv))) (ac (bR (ae (.b bA)) gf fv) (ac fH (ac (lZ (DT (.b bM) 1 (.tok 0)) (.b bM) cI (av dJ (ai bM fv)) fX) (ac (lZ (DT (.b bM) 1 (.tok 0)) (.b bM) lP (av dJ (ai bM (ae (.d bM)))) fX) ab))))) (ac fH ab)) (ac (aX (dy (ai (.a (.f .e)) b9) (ad eZ (ad (ae (.g bM)) (ad (ae (.h bM)) aj))))) ab)))) (ac fH ab)) ab)) ab) (ac (bR eW gf (eC (ai bM fv))) (ac (bR (ae (.b bA)) gf fv) (ac (lZ (DT (.b bM) 1 (.tok 0)) (.b bM) cI (av dJ (ai bM fv)) fX) ab)))) ab)) ab) ab))) ab) (ac (ao (t1 (.i bM)) (ai (.f bA) fv)) (ac (ao (t1 (.g bA)) (av (ai bA fv) (bj cI (ae (.i bM)) fX))) (ac (bE (aA jU gf (ai (.g bM) jV)) (ac (ao (t1 (.a cY)) (bU 6 (.b eT) b9 (ad fG (ad gf aj)))) (ac (ao (t1 (.b cY)) (iu (ai (.c eT) b9) (b8 (.h cY) (ad (ae (.a cY)) aj)) (eC fX))) (ac (bE (aA Mn (ae (.b cY)) iG) (ac (ao (t1 (.h bA)) (gK eW gf)) (ac (bE (yj ju) (ac (bE (aA rP ju iG) (ac (bE (aA pj ju (ae (.b cY))) (ac fH ab) ab) ab) (ac (bE (aA my ju iG) (ac (ao (tC (t1 (.i bA)) (tC (t1 (.a bM)) tN)) (iu eB gf (ad (af (.str 40567024288966772448377926844532)) (ad iG aj)))) (ac (ao (tC (t1 (.b bM)) (tC (t1 (.c bM)) tN)) (ai (.h .e) (av dJ (ai bM (av (ae (.b bA)) gf))))) (ac (yP bM (.i eT) (.b bM) (.b cY)) ab))) (ac fH ab)) ab)) ab) (ac (bR eW gf (ae (.b cY))) (ac (bR (ae (.b bA)) gf fv) ab))) ab)) ab) ab))) ab) ab)))) ab) ab) (ac (ao (t1 (.c cY)) bT) (ac (cj (aG fG) (t1 (.d cY)) (ac (cj (aG (ai (.a bA) (ae (.d cY)))) (t1 (.f cY)) (ac (bE (aA jU (ae (.f cY)) (ai (.h bM) jV)) (ac (bR (ae (.c cY)) (ae (.f cY)) (af .none)) ab) ab) ab) ab) ab) ab) (ac (cj (aG (ae (.c cY))) (t1 (.g cY)) (ac (ao (t1 (.a cY)) (bU 6 (.b eT) b9 (ad fG (ad (ae (.g cY)) aj)))) (ac (ao (t1 (.b cY)) (iu (ai (.c eT) b9) (b8 (.h cY) (ad (ae (.a cY)) aj)) (eC fX))) (ac (bE (aA Mn (ae (.b cY)) iG) (ac (bR (ae (.c bA)) (ae (.g cY)) (ae (.b cY))) ab) ab) ab))) ab) (ac (bR dS eZ eW) (ac (bR fN eZ (ae (.b bA))) (ac (bR cZ eZ (ae (.c bA))) (ac (uo (.h .e) cI fX) ab))))))))))) ab) ab))))))))))
def PT:Y:=(ac (bL (iL (cT (ae .e)) (rW (ae .e)) (af (.nat 0)))) ab)
def S6:Code:=(.fn 1 .nil PT)
def PQ:Y:=(ac (bE (aA eI (bj gS (ae .e) (af (.nat 4))) (af (.nat 0))) (ac (bL (af .none)) ab) ab) (ac (bL (ad (av (p7 (ad (af (.str 19343809238458250022617204)) (ad (af (.str 40567024288966772448377926844532)) (ad (af (.str 374164043821928694152695900025857252409163869323363)) aj)))) (bj gS (bj Jq (ae .e) (af (.nat 4))) (af (.nat 3)))) (ad (bj cI (af (.nat 1)) (bj gS (bj Jq (ae .e) (af (.nat 12))) (af (.nat 3)))) aj))) ab))
def S5:Code:=(.fn 1 .nil PQ)
def S4:Code:=(.fn 2 .nil (ac (ao (t1 (.b .e)) (aS (ad (ad (aS (ad (af (.str 2097249)) aj)) (ad (af (.str 1)) aj)) (ad (ad (aS (ad (af (.str 2097221)) (ad (af (.str 2097264)) (ad (af (.str 2097221)) aj)))) (ad (af (.str 1)) aj)) aj)))) (ac (bE (cT (uj .e 1 (af (.nat 2)))) (ac (ao (t1 (.c .e)) (av (p7 (ad (af (.str 2097269)) (ad (af (.str 2097265)) (ad (af (.str 1)) aj)))) (uj .e 2 (af (.nat 3))))) (ac (bE (iq (cT (ae (.c .e))) (iF (av (ae (.a .e)) (ae (.c .e))))) (ac (ao (t1 (.c .e)) (af (.str 1))) ab) ab) (ac (aX (dy (ae (.b .e)) (ad (aS (ad (af (.str 2097264)) (ad (af (.str 2097221)) aj))) (ad (ae (.c .e)) aj)))) ab))) ab) (ac (aX (dy (ae (.b .e)) (ad (av (p7 (ad (aS (ad (af (.str 2097221)) (ad (af (.str 2097265)) (ad (af (.str 2097221)) aj)))) (ad (aS (ad (af (.str 2097265)) (ad (af (.str 2097221)) aj))) (ad (aS (ad (af (.str 2097221)) (ad (af (.str 2097265)) aj))) (ad (aS (ad (af (.str 2097221)) (ad (af (.str 2097265)) (ad (af (.str 2097221)) aj)))) aj))))) (uj .e 6 (af (.nat 4)))) (ad (af (.str 1)) aj)))) (ac (ao (t1 (.d .e)) (uj .e 24 (af (.nat 5)))) (ac (bE (iq (cT (ae (.d .e))) (aA eI (uj .e 1 (af (.nat 2))) (af (.nat 0)))) (ac (aX (dy (ae (.b .e)) (ad (av (p7 (ad (aS (ad (af (.str 2097221)) (ad (af (.str 2097266)) (ad (af (.str 2097221)) aj)))) (ad (aS (ad (af (.str 2097266)) (ad (af (.str 2097221)) aj))) (ad (aS (ad (af (.str 2097221)) (ad (af (.str 2097266)) aj))) (ad (aS (ad (af (.str 2097266)) (ad (af (.str 2097221)) (ad (af (.str 2097267)) aj)))) aj))))) (bj lP (ae (.d .e)) (af (.nat 1)))) (ad (af (.str 1)) aj)))) ab) ab) (ac (ao (t1 (.f .e)) (uj .e 120 (cW 1 (.g .e) (ae (.b .e))))) (ac (bL (bj cI (kT (ae (.b .e)) (ae (.f .e))) (yw (ae (.b .e)) (ae (.f .e))))) ab))))))))
def S3:Code:=(.fn 2 .nil (ac (ao (t1 (.b .e)) (s8 (ad (af (.str 2097249)) (ad (af (.nat 0)) (ad (af (.str 178414298510858939390526964871935662617526388)) (ad (af (.nat 0)) (ad (af (.str 40566792175292416823092460912756)) (ad bT (ad (af (.str 178414298510331597108345655071174652011217006)) (ad bT (ad (af (.str 85074567084470556676975139893530329188)) (ad bT (ad (af (.str 19343864578672878982004843)) (ad bT aj)))))))))))))) (ac (cj (aG (aS (ad (af (.str 2097264)) (ad (af (.str 2097265)) (ad (af (.str 2097266)) aj))))) (t1 (.c .e)) (ac (bR (av (ae (.b .e)) (af (.str 19343864578672878982004843))) (ae (.c .e)) (iL (iF (av (ae (.a .e)) (ae (.c .e)))) (ad (af (.str 40567024288966772448377926844532)) (ad (af (.nat 0)) aj)) (av (ae (.a .e)) (ae (.c .e))))) ab) ab) (ac (ao (t1 (.d .e)) (af (.nat 0))) (ac (cj (aG (ae .e)) (tC (t1 (.f .e)) (tC (t1 (.g .e)) tN)) (ac (ao (t1 (.d .e)) (bj cI (ae (.d .e)) (af (.nat 1)))) (ac (bE (aA eI (ae (.f .e)) (aS (ad (af (.str 2097249)) aj))) (ac (bR (ae (.b .e)) (af (.str 2097249)) (ae (.d .e))) ab) (ac (bE (aA eI (av (ae (.f .e)) (eC (af (.nat 1)))) (af (.str 2097267))) (ac (bR (ae (.b .e)) (af (.str 178414298510858939390526964871935662617526388)) (ae (.d .e))) ab) (ac (bE (aA pj (av (ae (.f .e)) (af (.nat 0))) (af (.str 2097221))) (ac (bR (av (ae (.b .e)) (af (.str 40566792175292416823092460912756))) (av (ae (.f .e)) (af (.nat 0))) (ad (ae (.d .e)) (ad (iL (cT (ae (.g .e))) (av (ae (.a .e)) (ae (.g .e))) (av (av (ae (.b .e)) (af (.str 19343864578672878982004843))) (av (ae (.f .e)) (af (.nat 0))))) aj))) ab) (ac (bE (aA eI (cW 1 (.g .e) (ae (.f .e))) (af (.nat 3))) (ac (bR (av (ae (.b .e)) (af (.str 178414298510331597108345655071174652011217006))) (av (ae (.f .e)) (af (.nat 1))) (ae (.d .e))) ab) (ac (bR (av (ae (.b .e)) (af (.str 85074567084470556676975139893530329188))) (av (ae (.f .e)) (af (.nat 1))) (ae (.d .e))) ab)) ab)) ab)) ab)) ab)) ab) (ac (bL (ae (.b .e))) ab))))))
def yV:Y:=(bE (aA eI (bj gS (bj Jq (ae (.h .e)) (af (.nat 60))) (af (.nat 6))) (af (.nat 5))) (ac (ao (t1 (.i .e)) (av (p7 (ad (af (.str 2097249)) (ad (af (.str 2097264)) (ad (af (.str 2097265)) (ad (af (.str 2097266)) (ad (af (.str 2097267)) aj)))))) (bj gS (bj Jq (ae (.h .e)) (af (.nat 360))) (af (.nat 5))))) ab) (ac (bE (cT (ae (.g .e))) (ac (ao (t1 (.i .e)) (av (ae (.c .e)) (bj gS (ae (.h .e)) (cW 1 (.g .e) (ae (.c .e)))))) ab) (ac (ao (t1 (.i .e)) (av (ae (.d .e)) (bj gS (ae (.h .e)) (cW 1 (.g .e) (ae (.d .e)))))) ab)) ab))
def yU:X:=(qx (fj (aA pj (ae (.i .e)) (af (.str 2097249)))) (qx (fj (aA pj (ae (.i .e)) (af (.str 2097267)))) (fj (aA kQ (ae (.i .e)) (av (ae (.a .e)) (af (.str 85074567084470556676975139893530329188)))))))
def ut:Y:=(ac yV (ac (aX (dy (ae (.f .e)) (ae (.i .e)))) (ac (ao (t1 (.g .e)) yU) ab)))
def Li:Y:=(bE (cT (av (ae (.a .e)) (af (.str 178414298510858939390526964871935662617526388)))) (ac (aX (dy (ae (.c .e)) (af (.str 2097266)))) (ac (aX (dy (ae (.d .e)) (af (.str 2097267)))) ab)) ab)
def F2:Y:=(bE (cT (av (ae (.a .e)) (af (.str 178414298510858939390526964871935662617526388)))) (ac (ao (t1 (.a (.a .e))) (bj lP (cW 1 (.g .e) (fS (aG (ae (.f .e))) aj (t1 .e) (ae .e) (aA eI (ae .e) (af (.str 2097266))))) (cW 1 (.g .e) (fS (aG (ae (.f .e))) aj (t1 .e) (ae .e) (aA eI (ae .e) (af (.str 2097267))))))) (ac (ao (t1 (.f .e)) (bj cI (ae (.f .e)) (xo (p7 (ad (af (.str 2097267)) aj)) (ae (.a (.a .e)))))) ab)) ab)
def F1:Y:=(bE (cT (ae (.b .e))) (ac (bE (cT (ae (.g .e))) (ac (aX (dy (ae (.f .e)) (af (.str 2097249)))) ab) ab) (ac F2 ab)) ab)
def NJ:Y:=(ac (ao (t1 (.c .e)) (bj cI (p7 (ad (af (.str 2097249)) (ad (af (.str 2097249)) aj))) (gu (av (ae (.a .e)) (af (.str 40566792175292416823092460912756)))))) (ac (ao (t1 (.d .e)) (bj cI (gu (av (ae (.a .e)) (af (.str 178414298510331597108345655071174652011217006)))) (gu (av (ae (.a .e)) (af (.str 85074567084470556676975139893530329188)))))) (ac Li (ac (ao (t1 (.f .e)) (aS aj)) (ac (ao (t1 (.g .e)) (af (.bool true))) (ac (cj (aG (yw (ae .e) (af (.nat 8)))) (t1 (.h .e)) ut ab) (ac F1 (ac (bL (ae (.f .e))) ab))))))))
def S2:Code:=(.fn 3 .nil NJ)
def Nh:Y:=(ac (bE (aA rP (av (ae (.a .e)) (af (.nat 1))) (av (ae .e) (af (.nat 1)))) (ac (bL (af (.str 40567043631770662919203956195444))) ab) ab) (ac (bE (aA my (av (ae (.a .e)) (af (.nat 1))) (av (ae .e) (af (.nat 1)))) (ac (bL (af (.str 85075216121577873493535270834687443045))) ab) ab) (ac (bL (av (s8 (ad (af (.str 19343809238458250022617204)) (ad (af (.str 85075216121577873493535270834687443045)) (ad (af (.str 40567024288966772448377926844532)) (ad (af (.str 40567043631770662919203956195444)) (ad (af (.str 374164043821928694152695900025857252409163869323363)) (ad (af (.str 85075216121577873511982014908430549093)) aj))))))) (av (ae .e) (af (.nat 0))))) ab)))
def S1:Code:=(.fn 2 .nil Nh)
def Qf:Y:=(ac (ao (t1 (.f .e)) (ad (av (ae (.c .e)) (af (.str 2097249))) (ad (p7 (ad (ae (.a .e)) aj)) aj))) (ac (ao (t1 (.g .e)) (bj cI (ae (.a .e)) (af (.nat 1)))) ab))
def Qd:Y:=(ac (ao (tC (t1 (.h .e)) (tC (t1 (.g .e)) tN)) (b8 (.d (.g .e)) (ad (ae .e) (ad (bj cI (ae (.a .e)) (af (.nat 1))) (ad (af .none) (ad (ae (.c .e)) aj)))))) (ac (bE (rJ (iF (ae (.h .e))) (aA eI (ae (.g .e)) (cW 1 (.g .e) (ae .e)))) (ac (bL (ad (af .none) (ad (ae (.g .e)) aj))) ab) ab) (ac (ao (t1 (.f .e)) (ad (av (ae (.c .e)) (af (.str 178414298510858939390526964871935662617526388))) (ad (p7 (ad (ae (.a .e)) (ad (ae (.h .e)) (ad (ae (.g .e)) aj)))) aj))) (ac (ao (t1 (.g .e)) (bj cI (ae (.g .e)) (af (.nat 1)))) ab))))
def MT:Y:=(ac (ao (tC (t1 (.i .e)) (tC (t1 (.a (.a .e))) tN)) (av (av (ae (.c .e)) (af (.str 40566792175292416823092460912756))) (ae (.d .e)))) (ac (ao (tC (t1 (.h .e)) (tC (t1 (.g .e)) tN)) (b8 (.d (.g .e)) (ad (ae .e) (ad (bj cI (ae (.a .e)) (af (.nat 1))) (ad (ae (.a (.a .e))) (ad (ae (.c .e)) aj)))))) (ac (bE (iF (ae (.h .e))) (ac (bL (ad (af .none) (ad (ae (.g .e)) aj))) ab) ab) (ac (ao (t1 (.f .e)) (ad (ae (.i .e)) (ad (p7 (ad (ae (.a .e)) (ad (ae (.h .e)) aj))) aj))) ab))))
def KX:Y:=(ac (bL (ad (af .none) (ad (ae (.a .e)) aj))) ab)
def Qe:Y:=(bE (aA eI (ae (.d .e)) (af (.str 2097249))) Qf (ac (bE (iq (aA eI (ae (.d .e)) (af (.str 2097266))) (cT (av (ae (.c .e)) (af (.str 178414298510858939390526964871935662617526388))))) Qd (ac (bE (aA jU (ae (.d .e)) (av (ae (.c .e)) (af (.str 40566792175292416823092460912756)))) MT KX) ab)) ab))
def Pr:X:=(iL (iF (ae (.b .e))) (af (.str 40567043631770662919203956195444)) (b8 (.c (.g .e)) (ad (ae (.b .e)) (ad (av (av (ae (.c .e)) (af (.str 19343864578672878982004843))) (ae (.d .e))) aj))))
def MR:Y:=(ac (ao (t1 (.f .e)) (ad (av (av (ae (.c .e)) (af (.str 85074567084470556676975139893530329188))) (ae (.d .e))) (ad (p7 (ad (ae (.f .e)) (ad (ae (.g .e)) aj))) aj))) (ac (ao (t1 (.g .e)) (bj cI (ae (.g .e)) (af (.nat 1)))) ab))
def MS:Y:=(ac (ao (tC (t1 (.h .e)) (tC (t1 (.c (.a .e))) tN)) (b8 (.d (.g .e)) (ad (ae .e) (ad (bj cI (ae (.g .e)) (af (.nat 1))) (ad (av (av (ae (.c .e)) (af (.str 19343864578672878982004843))) (ae (.d .e))) (ad (ae (.c .e)) aj)))))) (ac (bE (iF (ae (.h .e))) (ac (bL (ad (af .none) (ad (ae (.c (.a .e))) aj))) ab) ab) (ac (ao (t1 (.f .e)) (ad (av (av (ae (.c .e)) (af (.str 178414298510331597108345655071174652011217006))) (ae (.d .e))) (ad (p7 (ad (ae (.f .e)) (ad (ae (.g .e)) (ad (ae (.h .e)) aj)))) aj))) (ac (ao (t1 (.g .e)) (ae (.c (.a .e)))) ab))))
def BK:Y:=(ac (ao (t1 (.d .e)) (av (ae .e) (ae (.g .e)))) (ac (bE (iq (aA eI (ae (.d .e)) (af (.str 2097267))) (cT (av (ae (.c .e)) (af (.str 178414298510858939390526964871935662617526388))))) (ac (bL (ad (ae (.f .e)) (ad (ae (.g .e)) aj))) ab) ab) (ac (bE (iq (aA kQ (ae (.d .e)) (av (ae (.c .e)) (af (.str 178414298510331597108345655071174652011217006)))) (aA kQ (ae (.d .e)) (av (ae (.c .e)) (af (.str 85074567084470556676975139893530329188))))) (ac (bL (ad (af .none) (ad (ae (.g .e)) aj))) ab) ab) (ac (ao (t1 (.b (.a .e))) Pr) (ac (bE (aA eI (ae (.b (.a .e))) (af (.str 85075216121577873511982014908430549093))) (ac (bL (ad (af .none) (ad (ae (.g .e)) aj))) ab) ab) (ac (bE (aA eI (ae (.b (.a .e))) (af (.str 85075216121577873493535270834687443045))) (ac (bL (ad (ae (.f .e)) (ad (ae (.g .e)) aj))) ab) ab) (ac (bE (aA jU (ae (.d .e)) (av (ae (.c .e)) (af (.str 85074567084470556676975139893530329188)))) MR MS) ab)))))))
def vA:Cn:=(aA my (ae (.g .e)) (cW 1 (.g .e) (ae .e)))
def Nr:Y:=(ac (bL (ad (ae (.f .e)) (ad (ae (.g .e)) aj))) ab)
def Pq:Y:=(ac (bE (aA eI (ae (.a .e)) (cW 1 (.g .e) (ae .e))) KX ab) (ac (ao (t1 (.d .e)) (av (ae .e) (ae (.a .e)))) (ac Qe (ac (ez vA BK ab) Nr))))
def S0:Code:=(.fn 4 .nil Pq)
def MI:Y:=(ac (aX (dy (ae (.c .e)) (ae (.i .e)))) (ac (aX (dy (ae (.d .e)) (ae (.f .e)))) (ac (ao (t1 (.f .e)) (bj cI (ae (.f .e)) (af (.nat 1)))) ab)))
def MJ:Y:=(ac (ao (t1 (.a (.a .e))) (cW 1 (.g .e) (av (av (ae (.a .e)) (bj lP (eC (ae (.i .e))) (af (.nat 1)))) (af (.nat 0))))) (ac (ao (t1 (.b (.a .e))) (bj lP (cW 1 (.g .e) (ae (.d .e))) (ae (.a (.a .e))))) (ac (ao (t1 (.d .e)) (bj cI (yw (ae (.d .e)) (ae (.b (.a .e)))) (p7 (ad (ad (eC (ae (.i .e))) (ad (kT (ae (.d .e)) (ae (.b (.a .e)))) aj)) aj)))) (ac (ao (t1 (.c .e)) (yw (ae (.c .e)) (bj cI (ae (.b (.a .e))) (af (.nat 1))))) (ac (aX (dy (ae (.c .e)) (av (av (ai (.i (.c .e)) (ae .e)) (av (ae (.c .e)) (eC (af (.nat 1))))) (af (.str 2097221))))) ab)))))
def JU:X:=(iL (aA eI (cW 1 (.g .e) (ae (.d .e))) (af (.nat 1))) (ad (av (ae (.d .e)) (af (.nat 0))) (ad (af .none) aj)) (ad (af .none) (ad (af .none) aj)))
def FU:Y:=(ac (ao (t1 (.h .e)) (iL (aA my (ae (.f .e)) (cW 1 (.g .e) (ae (.b .e)))) (av (ae (.b .e)) (ae (.f .e))) (af (.str 19343145155671596495536228)))) (ac (ao (t1 (.i .e)) (gK (av (ai (.h (.c .e)) (ae .e)) (av (ae (.c .e)) (eC (af (.nat 1))))) (ae (.h .e)))) (ac (bE (iF (ae (.i .e))) (ac (bL (ad (af .none) (ad (ae (.f .e)) aj))) ab) ab) (ac (bE (aA eI (ae (.i .e)) (af (.nat 0))) (ac (bL JU) ab) ab) (ac (bE (aA rP (ae (.i .e)) (af (.nat 0))) MI MJ) ab)))))
def Q9:Y:=(ac (ao (t1 (.c .e)) (aS (ad (af (.nat 0)) aj))) (ac (ao (t1 (.d .e)) (aS aj)) (ac (ao (t1 (.f .e)) (af (.nat 0))) (ac (cj (mA (bj cI (bj Jn (af (.nat 3)) (cW 1 (.g .e) (ae (.b .e)))) (af (.nat 3)))) (t1 (.g .e)) FU ab) (ac (bL (ad (af .none) (ad (af .none) aj))) ab)))))
def RZ:Code:=(.fn 3 .nil Q9)
def RY:Code:=(.fn 1 .nil (ac (ao (t1 (.a .e)) (fS (aG (yw (ae .e) (af (.nat 24)))) aj (t1 .e) (bj gS (ae .e) (af (.nat 720720))) iB)) (ac (ao (t1 (.b .e)) (b8 (.g (.f .e)) (ad (ae (.a .e)) aj))) (ac (ao (t1 (.c .e)) bT) (ac (cj (aG (aS (ad (af (.str 2097264)) (ad (af (.str 2097265)) (ad (af (.str 2097266)) (ad (af (.str 2097269)) aj)))))) (t1 (.d .e)) (ac (bR (ae (.c .e)) (ae (.d .e)) (b8 (.h (.f .e)) (ad (b8 (.g (.f .e)) (ad (ae (.a .e)) aj)) aj))) ab) ab) (ac (ao (t1 (.f .e)) (b8 (.i (.f .e)) (ad (ae (.b .e)) (ad (ae (.c .e)) aj)))) (ac (ao (t1 (.g .e)) (b8 (.a (.g .e)) (ad (ae (.f .e)) (ad (ae (.c .e)) aj)))) (ac (ao (t1 (.h .e)) (b8 (.b (.g .e)) (ad (ae (.a .e)) (ad (ae (.g .e)) (ad (fj (aA pj (uj (.b .e) 1200 (af (.nat 4))) (af (.nat 3)))) aj))))) (ac (ao (t1 (.i .e)) (qv 4 (.f (.a .e)) (ad (aS (ad (af (.str 2097249)) (ad (af (.str 2097264)) (ad (af (.str 2097265)) (ad (af (.str 2097266)) (ad (af (.str 2097267)) aj)))))) aj))) (ac (cj (aG (aS (ad (af (.str 2097264)) (ad (af (.str 2097265)) (ad (af (.str 2097266)) (ad (af (.str 2097269)) aj)))))) (t1 (.d .e)) (ac (bE (yj (av (ae (.c .e)) (ae (.d .e)))) (ac (aX (bU 4 (.i (.a .e)) (ae (.i .e)) (ad (ae (.d .e)) (ad (av (av (ae (.c .e)) (ae (.d .e))) (af (.nat 0))) (ad (av (av (ae (.c .e)) (ae (.d .e))) (af (.nat 1))) aj))))) ab) ab) ab) ab) (ac (cj (aG (ae (.f .e))) (tC (t1 (.a (.a .e))) (tC (t1 (.b (.a .e))) tN)) (ac (aX (bU 4 (.a (.b .e)) (ae (.i .e)) (ad (af (.str 2097221)) (ad (bj cI (ae (.a (.a .e))) (iL (cT (ae (.b (.a .e)))) (aS (ad (af (.str 40565534892421570877871177597027)) (ad (ae (.b (.a .e))) aj))) (aS aj))) aj)))) ab) ab) (ac (aX (bU 4 (.b (.b .e)) (ae (.i .e)) (ad (af (.str 2097221)) aj))) (ac (ao (t1 (.c (.a .e))) (Cp (fS (aG (ae (.f .e))) aj (tC (t1 .e) (tC (t1 (.a .e)) tN)) (cW 1 (.g .e) (ae .e)) iB))) (ac (ao (t1 (.d (.a .e))) (qv 6 (.i (.c .e)) (ad (ae (.i .e)) (ad (iL (aA rP (ae (.c (.a .e))) (af (.nat 8))) (af (.str 9223737074874581074)) (av (p7 (ad (af (.str 19343514090394740940865618)) (ad (af (.str 9223737074874581074)) aj))) (uj (.b .e) 600 (af (.nat 2))))) aj)))) (ac (bE (aA pj (ai (.a (.f .e)) (ae (.d (.a .e)))) (aS aj)) (ac (bL (af (.bool false))) ab) ab) (ac (ao (tC (t1 (.f (.a .e))) (tC (t1 (.g (.a .e))) tN)) (b8 (.d (.g .e)) (ad (ae (.h .e)) (ad (af (.nat 0)) (ad (af .none) (ad (ae (.g .e)) aj)))))) (ac (bE (rJ (iF (ae (.f (.a .e)))) (aA my (ae (.g (.a .e))) (cW 1 (.g .e) (ae (.h .e))))) (ac (ao (t1 (.h (.a .e))) (ad (af .none) (ad (ae (.g (.a .e))) aj))) ab) (ac (ao (t1 (.h (.a .e))) (ad (ae (.f (.a .e))) (ad (af .none) aj))) ab)) (ac (bL (fj (aA eI (b8 (.f (.g .e)) (ad (ae (.d (.a .e))) (ad (ae (.f .e)) (ad (ae (.h .e)) aj)))) (ae (.h (.a .e)))))) ab))))))))))))))))))
def RW:Code:=(.lam 4 (bU 6 (.g (.d .e)) (ae (.c .e)) (ad (ae (.a .e)) (ad (ae .e) (ad (ae (.b .e)) aj)))))
def RV:Code:=(.lam 4 (bU 6 (.h (.d .e)) (ae (.c .e)) (ad (ae (.a .e)) (ad (ae .e) (ad (ae (.b .e)) aj)))))
def RU:Code:=(.lam 2 (av (ae (.a .e)) (ae .e)))
def RT:Code:=(.lam 2 (iu (ae (.a .e)) (ae .e) (aS aj)))
def w0:List Code:=[H0,H1,H2,H3,H4,H5,H6,H7,H8,H9,SM,SL,SK,SJ,SI,SH,SG,SF,SE,SD,SC,SB,SA,Sz,Sy,Sx,Sw,Sv,Su,Ss,Sr,Sq,Sp,So,Sn,Sl,Sj,Sf,Se,Sd,Sc,Sb,Sa,S9,S8,S7,S6,S5,S4,S3,S2,S1,S0,RZ,RY,RW,RV,RU,RT]
noncomputable def Rs:List (Nat×PySem.Str×Gm):=[eG 40566656775646736783236512350316 "_wall" (Gm.fn .e),eG 31830128955554679863709745715470439225751108630352441289328906628795764504133666772877426 "_is_identifier" (Gm.fn (.a .e)),eG 374161367732249658499904483368870335045091880599660 "_literal" (Gm.fn (.b .e)),eG 615689813565166596561110848850682844444521306056856204104955242293557342889287908512265619012220168081575075905644 "rightmost_terminal" (Gm.fn (.d (.a .e))),eG 178414468651677316602949983525149301129871464 "digraph" (Gm.fn (.f (.c .e))),eG 374165114257953434870455154091934702765950145396837 "traverse" (Gm.fn (.g (.c .e))),eG 85074445390225705748098223907794845797 "_place" (Gm.fn (.h (.c .e))),eG 784673260662422835141827074958457798966628195889758339180 "_law_pull" (Gm.fn (.g (.f .e))),eG 784673260662422835141827074958457798985074852002541863019 "_law_rank" (Gm.fn (.h (.f .e))),eG 784673260662422835141827074958457798985074913575211892851 "_law_rows" (Gm.fn (.i (.f .e))),eG 784673260662422835141827074958457798837500960985518702699 "_law_book" (Gm.fn (.a (.g .e))),eG 784673260662422835141827074958457799031191773759475286116 "_law_word" (Gm.fn (.b (.g .e))),eG 784673260662422835141827074958457798938958009410435154036 "_law_meet" (Gm.fn (.c (.g .e))),eG 1645579097944721373563352933903279689767005600776394086358712418 "_law_climb" (Gm.fn (.d (.g .e))),eG 3451029496412968318011132732041130807994820264943598434887224164089966 "_law_driven" (Gm.fn (.f (.g .e))),eG 9223847026081398903 "law" (Gm.fn (.g (.g .e))),eG 1645567328381212392549542854575551378712387362370988390349799534 "Production" (Gm.cls 1 (.c .e)),eG 85073674658080482268389154181357764717 "LRItem" (Gm.cls 2 (.a (.a .e))),eG 178412001604882223055898679327064662814490738 "Grammar" (Gm.cls 4 (.f (.a .e))),eG 139989119357933028743539273104513366906541709248753640851222100774506533342094294676556015204999102565 "LRGeneratedTable" (Gm.cls 6 (.i (.c .e))),eG 85073715222570861887145214377113682004 "MAXINT" (Gm.con (.nat 9223372036854775807)),eG 3451029496385505987068618927855200351566422023157923151483610681311314 "_IDENTIFIER" (Gm.con (.str 384002683604660998209429878071872669071118906336646075594323478937197703518557516696053166144102721374065724704937151738252756636986632014132103882055281591897831961756611252321923336455858100383356214036161399574172234494812376140505080554187723875691178890864322111744267545038504000858552122069234823083284441289171844262683661740448714549670454788344485584735573025406845679150889318939236690043076653)),eG 9223847026089787502 "len" (Gm.bi "len"),eG 40567062974703680620536201740389 "tuple" (Gm.bi "tuple"),eG 19343809238475842235924596 "list" (Gm.bi "list"),eG 9223877812415365236 "set" (Gm.bi "set"),eG 9223798647592845420 "all" (Gm.bi "all"),eG 9223877812448919661 "sum" (Gm.bi "sum"),eG 9223851424144687214 "min" (Gm.bi "min"),eG 40567024288892985502869412118629 "range" (Gm.bi "range"),eG 784675505529294589033297354745241723850302979913623273573 "enumerate" (Gm.bi "enumerate")]
noncomputable def R8:List (Nat×PySem.Str×(Nat×Pa)):=[eM 374161367731143740807411317305772578063481370050655 "__init__" 1 (.c .e),eM 178414043298313017469911396711238708402061407 "__str__" 1 (.d .e),eM 374161367731143741172494516086249184783392625918047 "__repr__" 1 (.f .e),eM 178414043298313017334511566563802095827288159 "__len__" 1 (.g .e),eM 3451029496402768029935992679434642426762394390581500319186318669119583 "__getitem__" 1 (.h .e),eM 19343717004755473677680740 "bind" 1 (.i .e),eM 374161367731143740807411317305772578063481370050655 "__init__" 2 (.a (.a .e)),eM 178414043298313017469911396711238708402061407 "__str__" 2 (.b (.a .e)),eM 374161367731143741172494516086249184783392625918047 "__repr__" 2 (.c (.a .e)),eM 374161367731143740807411317305772578063481370050655 "__init__" 4 (.f (.a .e)),eM 178414043298313017334511566563802095827288159 "__len__" 4 (.g (.a .e)),eM 3451029496402768029935992679434642426762394390581500319186318669119583 "__getitem__" 4 (.h (.a .e)),eM 31830432497540142115018621005938262017301962674457615013658054752531213807559046676349029 "set_precedence" 4 (.i (.a .e)),eM 31830159309719935811076719920069131473914627977598541266578023049243042079654837613494382 "add_production" 4 (.a (.b .e)),eM 784680743549557129249990832248058888582439643375288189044 "set_start" 4 (.b (.b .e)),eM 139990854848131774878883345859871838229145420535099309674807093167733423981120731819169558791597326437 "find_unreachable" 4 (.c (.b .e)),eM 66752936886346595658511129636582420707112659046800630547370315175688105820174296034576091316339 "infinite_cycles" 4 (.d (.b .e)),eM 293584200987498787298323150214122128875723084025659956233786380073300901860278846563800655092566603197317235 "undefined_symbols" 4 (.f (.b .e)),eM 139991856092214006347375413850485251287014188296222742165732631213614354802379988357205190292008861811 "unused_terminals" 4 (.g (.b .e)),eM 7237409329674555055062740067554412260407458988100956890708474537855269470323 "unused_rules" 4 (.h (.b .e)),eM 293584200987498787839411043907372845707064379013796977632346700804270747066326688097230651542776201523232869 "unused_precedence" 4 (.i (.b .e)),eM 85074445390032277589289841896101773428 "_first" 4 (.a (.c .e)),eM 15177817184448711362124440410210640591088790391115198616121798675411628045941866612 "compute_first" 4 (.b (.c .e)),eM 31830189664000983930501994455154065336883038946308021008197062451793669922544470756163703 "compute_follow" 4 (.c (.c .e)),eM 15177809947463839262320576760544329494848933302616142435834202286939816519513669747 "build_lritems" 4 (.d (.c .e)),eM 374161367731143740807411317305772578063481370050655 "__init__" 6 (.i (.c .e)),eM 3451050887976921301658139936791796854483564507964508884563726685962341 "lr0_closure" 6 (.a (.d .e)),eM 374163687010260726922897509763418380271326416863343 "lr0_goto" 6 (.b (.d .e)),eM 784678124540942303987808358395411068695117200124956115059 "lr0_items" 6 (.c (.d .e)),eM 2124652264787807827778747362067011185175829787508557236669706815013029817363001890753350061131395406164003088856109239066388730755709114012276919254766327882934367618941222976097353843 "compute_nullable_nonterminals" 6 (.d (.d .e)),eM 1013114597311440814197226534844291990643173690078186578537001169886298740355893798211630833706507467750193365243964998200696826895228897745777006456905012504447896733915696595059 "find_nonterminal_transitions" 6 (.f (.d .e)),eM 3451037723940462749594593787117200625344438265181435867921990203474030 "dr_relation" 6 (.g (.d .e)),eM 31830417320439421535943672380656899490002562974454953322828235364750710829634809503940718 "reads_relation" 6 (.h (.d .e)),eM 109841947615584776939143047579104821842112700087703241742517260003744192478998712626626928479770304468307303707547880005993311116646129951574041602041692815475 "compute_lookback_includes" 6 (.i (.d .e)),eM 293581681274730587149917152651884920455939776782895298230820951115201933991307669835477282198113005919535219 "compute_read_sets" 6 (.a (.f .e)),eM 1291185889054375386132246548223268255860554496233549207628041620892447616084433300263058627004314984758467546037534851187 "compute_follow_sets" 6 (.b (.f .e)),eM 31830159309719935811076719920065992921924501379747085424016804619387806849996561705861235 "add_lookaheads" 6 (.c (.f .e)),eM 1291184657738452501493599591596502930657458293767490581825169111119900493369505646959676428722945489532216472679548452979 "add_lalr_lookaheads" 6 (.d (.f .e)),eM 31830326257929179520497065838911669158115247144783162707742109091985911630067163750989925 "lr_parse_table" 6 (.f (.f .e))]
noncomputable def RB:List (Nat×PySem.Str×(Nat×KV)):=[eD 178415659639799280552714480301506440556707940 "reduced" 1 (.tok 0),eD 784678124540942303987808358395256326042632570602854023268 "lr0_added" 1 (.nat 0)]
noncomputable def QL:List (Nat×PySem.Str×Pa):=[eP 19343827685184731560804453 "name" .e,eP 19343846132003572065239140 "prod" (.a .e),eP 85075053862610529373003489094215401586 "number" (.b .e),eP 19343753898296397654917219 "func" (.c .e),eP 374162081355160235092506734616698997934855714504805 "callable" (.d .e),eP 19343753898243621092589669 "file" (.f .e),eP 19343809238475842225438821 "line" (.g .e),eP 19343846132003572044267619 "prec" (.h .e),eP 9223847026089787502 "len" (.i .e),eP 40567082317498347750111708184691 "usyms" (.a (.a .e)),eP 374163687010260728829444205934926442255534623031411 "lr_items" (.b (.a .e)),eP 178415149216776241698000098537852125610770548 "lr_next" (.c (.a .e)),eP 9223877812446822514 "str" (.d (.a .e)),eP 374163687010260728829444205934871102018915431088248 "lr_index" (.f (.a .e)),eP 1645589298236163812674746741890682990948196536563107970580217971 "lookaheads" (.g (.a .e)),eP 374163687010260728829444051192292404440454974668914 "lr_after" (.h (.a .e)),eP 784678124540942307986126291410818264918208880329067855973 "lr_before" (.i (.a .e)),eP 784678124540942303987808358395256326042632570602854023268 "lr0_added" (.a (.b .e)),eP 178415659639799280552714480301506440556707940 "reduced" (.b (.b .e)),eP 3451004813849316331460058896558826724969440581771043044798862792327283 "Productions" (.c (.b .e)),eP 784667648497205921435138156211503708333611749741441319027 "Prodnames" (.d (.b .e)),eP 178412767240207795438240772503259987734167664 "Prodmap" (.f (.b .e)),eP 784669145072563271034291352252032694489001647812684808307 "Terminals" (.g (.b .e)),eP 7237274745622438138133742651538326317139513708948170804301169303805541482611 "Nonterminals" (.h (.b .e)),eP 40566173205189763797817468387444 "First" (.i (.b .e)),eP 85073431269726180351463240856972034167 "Follow" (.a (.c .e)),eP 1645567328381212390765483153621860760066939856025176804069212261 "Precedence" (.b (.c .e)),eP 31829977184619844736087186554617924660268815364439202140716573809269226220276654620541029 "UsedPrecedence" (.c (.c .e)),eP 40566424661861700658324417020020 "Start" (.d (.c .e)),eP 178414723863817590563606386323924116960182386 "grammar" (.f (.c .e)),eP 784678124540942307986126737623829545384085384898231140452 "lr_method" (.g (.c .e)),eP 784678124540942307986126250845960372117767546428656189550 "lr_action" (.h (.c .e)),eP 178415149216776241698000033974291848084062319 "lr_goto" (.i (.c .e)),eP 31830326257929179520497065838925007998180507907848117625041161477990971707342287443853427 "lr_productions" (.a (.d .e)),eP 15177882317509259948967481150332278345130006106417797966399384150705165775583314021 "lr_goto_cache" (.b (.d .e)),eP 3451050887976921301658139936791796854361869837571553152664942099300456 "lr0_cidhash" (.c (.d .e)),eP 1645579097940605785487845379709110194217232362977387242686775412 "_add_count" (.d (.d .e)),eP 3451062406508822567685223435566365867925668103220484554224967253753972 "sr_conflict" (.f (.d .e)),eP 3451060761004265246479181280597183310575163120484618920645103905144948 "rr_conflict" (.g (.d .e)),eP 784674757240634680977097053378498296284073103633063870579 "conflicts" (.h (.d .e)),eP 7237402427934790265466201698344875312652050714005045623861998526144649887859 "sr_conflicts" (.i (.d .e)),eP 7237398977061616870184307980966944174139324488450559538668720944882537988211 "rr_conflicts" (.a (.f .e))]
noncomputable def QY:List (Nat×PySem.Str×Unit):=[eU 2097219 "C",eU 374164043822439117621947882077223864027827081838693 "nullable",eU 19343873802062508018630758 "self",eU 2097219 "C",eU 374164043822439117621947882077223864027827081838693 "nullable",eU 19343873802062508018630758 "self",eU 374164757444924340687991491343679451056151851958387 "readsets",eU 374163151792035681889827205471868005609168267378803 "inclsets"]
noncomputable def Rl:List (Int×Pa):=[(524,(.h (.g .e))),(525,(.i (.g .e))),(530,(.a (.h .e))),(531,(.b (.h .e)))]
def NA:Y:=(ao (t1 (.b .e)) (b8 (.g (.f .e)) (ad (ae (.a .e)) aj)))
def N6:Y:=(ao (t1 (.c .e)) bT)
def Ny:Y:=(cj (aG (aS (ad (af (.str 2097264)) (ad (af (.str 2097265)) (ad (af (.str 2097266)) (ad (af (.str 2097269)) aj)))))) (t1 (.d .e)) (ac (bR (ae (.c .e)) (ae (.d .e)) (b8 (.h (.f .e)) (ad (b8 (.g (.f .e)) (ad (ae (.a .e)) aj)) aj))) ab) ab)
def PG:Y:=(ao (t1 (.f .e)) (b8 (.i (.f .e)) (ad (ae (.b .e)) (ad (ae (.c .e)) aj))))
def PF:Y:=(ao (t1 (.g .e)) (b8 (.a (.g .e)) (ad (ae (.f .e)) (ad (ae (.c .e)) aj))))
def PE:Y:=(ao (t1 (.h .e)) (b8 (.b (.g .e)) (ad (ae (.a .e)) (ad (ae (.g .e)) (ad (fj (aA pj (uj (.b .e) 1200 (af (.nat 4))) (af (.nat 3)))) aj)))))
def PD:Y:=(ao (t1 (.i .e)) (qv 4 (.f (.a .e)) (ad (aS (ad (af (.str 2097249)) (ad (af (.str 2097264)) (ad (af (.str 2097265)) (ad (af (.str 2097266)) (ad (af (.str 2097267)) aj)))))) aj)))
def PC:Y:=(cj (aG (aS (ad (af (.str 2097264)) (ad (af (.str 2097265)) (ad (af (.str 2097266)) (ad (af (.str 2097269)) aj)))))) (t1 (.d .e)) (ac (bE (yj (av (ae (.c .e)) (ae (.d .e)))) (ac (aX (bU 4 (.i (.a .e)) (ae (.i .e)) (ad (ae (.d .e)) (ad (av (av (ae (.c .e)) (ae (.d .e))) (af (.nat 0))) (ad (av (av (ae (.c .e)) (ae (.d .e))) (af (.nat 1))) aj))))) ab) ab) ab) ab)
def PB:Y:=(cj (aG (ae (.f .e))) (tC (t1 (.a (.a .e))) (tC (t1 (.b (.a .e))) tN)) (ac (aX (bU 4 (.a (.b .e)) (ae (.i .e)) (ad (af (.str 2097221)) (ad (bj cI (ae (.a (.a .e))) (iL (cT (ae (.b (.a .e)))) (aS (ad (af (.str 40565534892421570877871177597027)) (ad (ae (.b (.a .e))) aj))) (aS aj))) aj)))) ab) ab)
def Ky:Y:=(aX (bU 4 (.b (.b .e)) (ae (.i .e)) (ad (af (.str 2097221)) aj)))
def Kx:Y:=(ao (t1 (.c (.a .e))) (Cp (fS (aG (ae (.f .e))) aj (tC (t1 .e) (tC (t1 (.a .e)) tN)) (cW 1 (.g .e) (ae .e)) iB)))
def Kw:Y:=(ao (t1 (.d (.a .e))) (qv 6 (.i (.c .e)) (ad (ae (.i .e)) (ad (iL (aA rP (ae (.c (.a .e))) (af (.nat 8))) (af (.str 9223737074874581074)) (av (p7 (ad (af (.str 19343514090394740940865618)) (ad (af (.str 9223737074874581074)) aj))) (uj (.b .e) 600 (af (.nat 2))))) aj))))
def Kv:Y:=(bE (aA pj (ai (.a (.f .e)) (ae (.d (.a .e)))) (aS aj)) (ac (bL (af (.bool false))) ab) ab)
def EX:Y:=(ao (tC (t1 (.f (.a .e))) (tC (t1 (.g (.a .e))) tN)) (b8 (.d (.g .e)) (ad (ae (.h .e)) (ad (af (.nat 0)) (ad (af .none) (ad (ae (.g .e)) aj))))))
def EW:Y:=(bE (rJ (iF (ae (.f (.a .e)))) (aA my (ae (.g (.a .e))) (cW 1 (.g .e) (ae (.h .e))))) (ac (ao (t1 (.h (.a .e))) (ad (af .none) (ad (ae (.g (.a .e))) aj))) ab) (ac (ao (t1 (.h (.a .e))) (ad (ae (.f (.a .e))) (ad (af .none) aj))) ab))
def EV:Y:=(bL (fj (aA eI (b8 (.f (.g .e)) (ad (ae (.d (.a .e))) (ad (ae (.f .e)) (ad (ae (.h .e)) aj)))) (ae (.h (.a .e))))))
noncomputable def N7:SQ:=.Subscript (.Name "script" ⟨788,32,788,38⟩) (.Slice none (some (.Constant (.int (.ofNat 24)) 0 ⟨788,40,788,42⟩)) none ⟨788,39,788,42⟩) ⟨788,32,788,43⟩
noncomputable def PH:PySem.Pos×PySem.Pos×PySem.Pos:=(⟨788,4,788,8⟩,⟨788,11,788,44⟩,⟨788,4,788,44⟩)
end
end
end
section
set_option compiler.extract_closed false
section
open PySem PySem.W PyProof.Rows
section
noncomputable def pc:=PySem.Challenge.pw_rq0001_01
noncomputable def Mq:W8->Bool
 |.FunctionDef n _ _ _ _ _ _ _ _ _=>n==("law":Str)
 |_=>false
noncomputable def q2:Vl:=view pc [(pc.main.body.findIdx Mq)]
noncomputable def nX:List Str:=pc.boundNames.filter λn=>!(n==("law":Str))
noncomputable def PY(c:Option Str):W8->Option (Option Str×Str)
 |.FunctionDef n _ _ _ _ _ _ _ _ _=>some (c,n)
 |_=>none
noncomputable def M5(body:List W8):List (Option Str×Str):=body.flatMap λ
 |.ClassDef c _ _ b _ _ _ _ _ _ _=>b.filterMap (PY (some c))
 |s=>(PY none s).toList
noncomputable def ua:List W8:=pc.main.body
noncomputable def wx(k:Nat)(o:Ov):Ov:=@V3 (λzz=>Ov) (.n o .k) (λzz r=>.n .k r) k
noncomputable def IR:Ov:=wx 8 (.s (wx 3 (.s (wx 0 (.s (wx 0 (.s .k (wx 1 (.s (wx 1 (.s (wx 0 (.s (wx 2 .d1) .k)) .k)) .k)))) (wx 2 (.s (wx 2 (.s (wx 1 (.s (wx 0 (.s .k (wx 0 (.s (wx 2 .d2) .k)))) .k)) .k)) .k)))) .k)) .k)
noncomputable def Ol(n:Option Str×Str):Ov:=bif n.2==("lr_parse_table":Str)then IR else .k
noncomputable def dw:Tx:=⟨Rs,R8,RB,(1,(.g .e)),QL,QY,Rl,M5 ua,xc ua,Jk ua,Ol⟩
end
end
end
section
set_option compiler.extract_closed false
section
open PySem PySem.W PyProof.Rows
theorem b1:∀w:VX,absHeap (j9 w default).tree (j9 w default).n (j9 w default).life=UB w.params:=by intro w;kernel_rfl
theorem b2:∀w:VX,(UB w.params).isNs Tv=true:=by intro w;kernel_rfl
theorem b3:opening pc=plainProg pc.main.scope.names:=by kernel_rfl
theorem b4:∀s,fenceModules? pc s=some s:=by intro s;kernel_rfl
theorem RI:∀w:VX,(λos=>(uQ treeTable pc w (UB w.params).objs.size ((UB w.params).nsMap Tv "__annotations__") 7020 (j9 w os) (topStub pc)).map λs=>(wY pc (UB w.params) s.abs,openSeen q2 nX (importedModules pc.main.body) (λzz=>true) true s.abs,dw.chkA s.abs.heap))=λos=>some (true,openGood q2 nX,true):=by intro w;kernel_rfl
theorem RH:∀w:VX,(λos=>(uQ treeTable pc w (UB w.params).objs.size ((UB w.params).nsMap Tv "__annotations__") 7020 (j9 w os) (topStub pc)).map λs=>(dw.chkB s.abs.heap,dw.views s.abs.heap))=λos=>some (true,dw.due):=by intro w;kernel_rfl
theorem IZ{α β γ δ:Type}{o:Option α}{f:α->β}{g:α->γ}{k:α->δ}{b:β}{c:γ}{d:δ}(h1:o.map f=some b)(h2:o.map g=some c)(e:∀s,f s=b->g s=c->k s=d):o.map k=some d:=by
 cases o with
 |none=>exact dh h1
 |some s=>exact congrArg some (e s (Ti h1) (Ti h2))
theorem bK(w:VX):(λos=>(uQ treeTable pc w (UB w.params).objs.size ((UB w.params).nsMap Tv "__annotations__") 7020 (j9 w os) (topStub pc)).map λs=>(wY pc (UB w.params) s.abs,openSeen q2 nX (importedModules pc.main.body) (λzz=>true) true s.abs,(dw.chk s.abs.heap,dw.views s.abs.heap)))=λos=>some (true,openGood q2 nX,(true,dw.due)):=
 funext λos=>IZ (congrFun (RI w) os) (congrFun (RH w) os) λs h1 h2=>Prod.ext (congrArg (·.1) h1) (Prod.ext (congrArg (·.2.1) h1) (Prod.ext (Ts.mpr ⟨congrArg (·.2.2) h1,congrArg (·.1) h2⟩) (congrArg (·.2) h2)))
theorem Mj:LeftO pc q2 nX (λzz=>true) (λs=>(dw.chk s.heap,dw.views s.heap)) (λzz=>(true,dw.due)) 7020:=DI b3 rfl b4 b1 b2 bK
end
end
section
set_option compiler.extract_closed false
section
open PySem PySem.W PyProof.Rows
variable{C:Cx}{P:Pt C}{Q:SU->SW->Prop}{E:SU->SW->Prop}{A:U6}{fr:List Tt}{vs:List SU}{cl:Cl}{d:Nat}
theorem Bb{P₀:Pg}(O:C.Ok P₀){a:Tw}{np:Nat}{ds:KV}{y:Y}{ob:Obj}{fd:X1}{bd:List W8}{dv:List SU}{ns rest:List Str}(H:yt C a np ds y ob fd bd dv ns rest)(hc:Le C cl d)(hl:vs.length=ns.length)(rm:Rm C P.R A fr (d+1))
  (body:∀(F:dP C ⟨λs=>fd.scope.names.lookup s,ns++rest,true,true⟩)(P1:Pt C)(E:SU->SW->Prop),F.cl=cl->P1.m=P.m->bB P.R.h P1.R.h->ER F P1.R .nil->(∃m,P1.R.h.Ns F.menv.locals m∧∀n v,(n,v)∈ns.zip vs->fd.scope.names.lookup n=some .local->m n=some v)->
   Tb (Tn C.prog C.w) F.A (execs bd F.menv) (λfl s=>match fl with|.ret v=>Q v s|.next=>Q .none s|_=>False) E P1.s):codeAny (Tn C.prog C.w) A (.call (.ref a) ⟨vs,[]⟩) (jD Q E) P.s:=by
 refine ak rm ?_;clear rm;intro zq0 rf;refine j6 zq0 ?_;clear zq0;intro r1 r2 r3 r4 r5;have e4:=H.dlen;refine codeAny_call_function (by lia) (P.good.keep _ _ H.obj) H.data H.co H.gen H.body (H.code.keeps P.good.keep) ?_;have hdef:qk P.R.h fd dv:=H.defs.imp id λ⟨b,items,d1,⟨o,d2,d3⟩,d4⟩=>⟨b,items,d1,⟨o,P.good.keep _ _ d2,d3⟩,d4⟩
 refine rK (s:=P.s) H.pars hdef (by simp_all+arith) (by assumption) (by simp_all+arith) ?_;rw[H.clo,show dv.length-(ns.length-vs.length)=dv.length by simp_all+arith,List.drop_length,Ul];have hnd:=kS (ws:=vs) H.pars.nodup;refine wpAny_newFunctionEnv_cells H.kind (λx hx=>?_) λmenv hm s' X=>?_
 ·rcases H.kinds x.1 (WO (a:=x.1) (b:=x.2) hx).1 with q|q
  ·exact .inl q
  ·exact .inr ⟨q,dH (.inl (Th q))⟩
 refine fU X.toInCall.same ?_;rintro h1 t1 rfl;have keep:bB P.R.h h1:=X.toInCall.keep;have hloc:menv.locals=P.R.h.objs.size:=by refine rwr hm ?_;rfl
 have hscope:menv.scope=fd.scope:=by refine rwr hm ?_;rfl
 have hmc:menv.cells=cellsFrom (P.R.h.objs.size+1) fd.scope.names []:=by refine rwr hm ?_;rfl
 have deadL:P.R.h.get? menv.locals=none:=by refine rwr hloc ?_;exact aV _
 have deadC:∀nm ca,(nm,ca)∈menv.cells->P.R.h.get? ca=none:=λnm ca hc=>by
  have:=X.above nm ca hc;rw[hloc]at this;exact Ug (V9 this)
 have hkind:∀nm,menv.kindOf nm=fd.scope.names.lookup nm:=λnm=>by unfold Env.kindOf;exact rwr hscope rfl
 have room:ES C (A.deeper menv) (menv::fr) d:=⟨by show A.depth+1+_+_<_;lia,by show A.units+3+_+_<_;lia,by show A.frames.map _=_;refine rwr r4 ?_;rfl,r5⟩
 have cdom:∀nm,fd.scope.names.lookup nm=some .cell->(menv.cells.lookup nm).isSome=true:=λnm hk=>by refine rwr hmc ?_;exact dH (.inl (Th hk))
 have G:=P.good.dead deadL;have mk:∃F:dP C ⟨λs=>fd.scope.names.lookup s,ns++rest,true,true⟩,F.menv=menv∧F.A=A.deeper menv∧F.cl=cl∧F.fr=menv::fr:=⟨{
  menv:=menv,A:=A.deeper menv,cl:=cl,d:=d,fr:=menv::fr,kind:=by refine rwr hscope ?_;exact H.kind,kof:=hkind,glob:=by refine rwr hm ?_;exact H.glob,bi:=by refine rwr hm ?_;exact H.bi
  lold:=G.1,lvol:=G.2.2.2
  cell:=λnm ca hc=>let m:=Th hc;let z:=P.good.dead (deadC nm ca m);⟨z.1,z.2.2.2,V8 (X.above nm ca m)⟩
  inj:=λnm nm' ca hc hc'=>name_of_addr X.apart (Th hc) (Th hc')
  cdom:=λnm h=>h.elim (cdom nm) λz=>absurd rfl (H.nofree _ (Th z)),room:=room,handled:=λZ=>r3,top:=λZ=>⟨fr,rfl⟩,call:=hc
  lam:=λhl=>by
   refine dG (H.lam hl) ?_;intro c P c1 c2 c3 c4;exact⟨c,P,by refine rwr hm ?_;exact c1,c2,c3,by refine rwr hm ?_;exact c4⟩},rfl,rfl,rfl,rfl⟩
 refine d9 mk ?_;clear mk;intro F f1 f2 f3 f4;subst f1;have er:ER F ⟨P.R.ρ,h1,P.R.fz⟩ .nil:=by
  refine⟨⟨_,X.toInCall.ns,λnm q x hs hx=>by rw[dU]at hx;exact dh hx⟩,G.2.1,λnm ca hc=>?_,?_⟩
  ·have dead:=deadC nm ca (Th hc);refine ag (X.cell nm ca hc) ?_;intro oc hoc hdc;have z:=P.good.dead dead;exact⟨z.2.1,⟨oc,_,hoc,hdc⟩,λZ=>z.2.2.1⟩
  ·refine rwr f4 ?_;exact kL.push ⟨_,P.good⟩ keep rf F.kind (by refine rwr hm ?_;rfl) deadL X.toInCall.ns
 refine⟨O.nolimit.keeps (λb o e=>keep b o (P.good.keep b o e)),codeAny_func ?_⟩;refine rwl f2 ?_;refine UJ (body F (P.more keep t1) _ f3 rfl keep er ⟨_,X.toInCall.ns,λn v hz hk=>?_⟩) (λfl s q=>?_) λZ Z e=>e
 ·have hn:=(oO (kd:=F.menv.kindOf) (m:=λZ=>none) (m':=λZ=>none)).2 hnd hz;exact hn.1 ((hkind n).trans hk)
 ·cases fl with
  |ret v=>exact q
  |next=>exact q
  |brk=>exact q.elim
  |cont=>exact q.elim
end
end
section
set_option compiler.extract_closed false
section
open PySem PySem.W PyProof.Rows
variable{C:Cx}{Γ:d6}{P:Pt C}{E:SU->SW->Prop}
def Ju(xs:KV):XI:=λc e k s=>k (.list s.n 0) (bz s (.list (len xs) xs))
theorem GR{P₀:Pg}(O:C.Ok P₀)(F:dP C Γ){en:En}{sm:Str}{k n0:Nat}{p3 p4 p5 p8:Pos}{sa:Tw}{items:Array SU}{xs:KV}(ks:Γ.kd sm=some .local)(hds:(sm==("__debug__":Str))=false)(hm:∃m,P.R.h.Ns F.menv.locals m∧m sm=some (.ref sa))(hL:P.R.h.IsList sa items)(hsz:items.size≤100000)(rs:bG C P.R xs (items.toList.take k)):
  PI F P en (.Subscript (.Name sm p3) (.Slice none (some (.Constant (.int (.ofNat k)) n0 p8)) none p4) p5) (Ju xs):=λkk Q E h K=>by
 have hlen:=rs.len_eq;have hlen2:(items.toList.take k).length≤100000:=by rw[UR,T4];lia
 refine ag hm ?_;clear hm;intro m ns hv;refine VN (wpAny_Name (wpAny_loadName_local (s:=P.s) F.kind ((F.kof sm).trans ks) ns hv (WW ?_)) hds);simp only[Wm,WX];refine SR (wpAny_mkInt (SR ?_));have kp:=aE P.R.h {cls:=.type "slice",data:=.fields #[.none,.int (V5 k) P.t,.none]};have hsl:(P.R.h.push {cls:=.type "slice",data:=.fields #[.none,.int (V5 k) P.t,.none]}).IsSliceOf P.R.h.objs.size .none (.int (V5 k) P.t) .none:=WD ..;show Tb _ _ (PyProof.Rows.subscriptTail _ _ (.ref sa) (.ref P.R.h.objs.size)) _ _ ⟨P.R.h.push {cls:=.type "slice",data:=.fields #[.none,.int (V5 k) P.t,.none]},C.g,C.d,P.t+1,C.os⟩;have hle:P.R.h.objs.size≤(P.R.h.push {cls:=.type "slice",data:=.fields #[.none,.int (V5 k) P.t,.none]}).objs.size:=by rw[VV];exact U8 _
 generalize P.R.h.push {cls:=.type "slice",data:=.fields #[.none,.int (V5 k) P.t,.none]}=h1 at*;have hL1:h1.IsList sa items:=by refine ag hL ?_;clear hL;intro o e r;exact⟨o,kp _ _ e,r⟩
 have hT:Wx ⟨h1,C.g,C.d,P.t+1,C.os⟩ (.ref sa) "list":=by refine aM hL1 ?_;clear hL1;intro o e hc r;exact⟨o,e,hc⟩
 unfold PyProof.Rows.subscriptTail;refine rwr (getitemInPython_of_ne hT.not_modules) ?_;refine SO (SO (Uw hT W2.lookup (SR (SO ?_))));show Tb _ _ (operate [.ref P.R.h.objs.size,.ref sa] (getItem (.ref sa) (.ref P.R.h.objs.size))) _ _ _;refine wpAny_operating (wpAny_getItem_list_slice (s:=⟨h1,C.g,C.d,P.t+1,C.os⟩) (lo:=none) (hi:=some (V5 k)) (st:=none) hL1 hsl (Ld.part (o:=none) rfl) (Ld.part (o:=some k) ⟨_,rfl⟩) .none (by decide) ?_ (SV hsz cQ));have hp:=wu (items:=items) none (some k);simp only[Option.map_none,Option.map_some]at hp;refine rwr hp ?_;have hcut:(items.toList.take (Cg items.size items.size (some k))).drop (Cg 0 items.size none)=items.toList.take k:=by
  show(items.toList.take (min k items.size)).drop 0=_;refine rwr List.drop_zero ?_;rcases X3 k items.size with z|z
  ·exact rwr (V4 z) rfl
  ·exact rwr (Vh z) (rwr (Ub (by simp)) (rwr (Ub (by simpa using z)) rfl))
 refine rwr hcut ?_;generalize hh2:h1.push {cls:=.type "list",data:=.seq (items.toList.take k).toArray}=h2;have k2:bB P.R.h h2:=λb o e=>by refine rwl hh2 ?_;exact aE _ _ b o (kp b o e)
 have g2:h2.get? h1.objs.size=some {cls:=.type "list",data:=.seq (items.toList.take k).toArray}:=by refine rwl hh2 ?_;exact T9 _ rfl
 have d3:P.R.h.get? h1.objs.size=none:=Ug hle;refine bf (P.good.new0 (h':=h2) (o:=.list (len xs) xs) (a:=h1.objs.size) (b:=h1.objs.size) k2 d3 d3 (λL=>⟨rfl,_,_,g2,by refine rwr List.toList_toArray ?_;exact rs.later L,by refine rwr Vo ?_;exact hlen,by refine rwr hlen ?_;exact hlen2⟩)) ?_;intro G L rr;have K:yr C _ kk false Q:=yr.later (P:=P) (P1:=⟨_,_,P.t+1,G⟩) K (L C.vol);refine SO (V6 (SR ?_));refine WN (s:=⟨h2,C.g,C.d,P.t+1,C.os⟩) ⟨_,g2,rfl,_,rfl⟩ (fy (P:=⟨_,_,P.t+1,G⟩) K (λZ Z e=>e) (TA _) (by simp) (.inr rfl) (λL hg=>.list (L.ref _ _ Wd.add_self) ⟨_,hg,rfl,rfl⟩) h _)
end
end
section
set_option compiler.extract_closed false
section
open PySem PySem.W PyProof.Rows
inductive mf:List SU->List Int->Prop
 |nil:mf [] []
 |cons {i:Int} {t:Tok} {vs:List SU} {xs:List Int}:mf vs xs->mf (.int i t::vs) (i::xs)
theorem y0{R:WRecords}{cl:Str->Option Tw}{h:UT}{xs:List WData}:∀{vs:List SU}{as:List Tw},WShape.hasItems R xs .int=true->ReadsAllW R cl h vs xs as->∃ns,mf vs ns∧xs.length=ns.length∧as=[]:=by
 induction xs with
 |nil=>intro vs as _ h;cases h;exact⟨[],.nil,rfl,rfl⟩
 |cons x r ih=>
  intro vs as e h;refine iJ e ?_;intro e1 e2;refine aw (hasW_int e1) ?_;clear e1;rintro i rfl;cases h with
  |cons h1 h2=>
   refine aM (ih e2 h2) ?_;clear ih e2 h2;rintro ns g1 g2 rfl;cases h1;exact⟨i::ns,.cons g1,congrArg Te g2,rfl⟩
theorem mf.length{vs:List SU}{ns:List Int}(h:mf vs ns):vs.length=ns.length:=by
 induction h with
 |nil=>rfl
 |cons _ ih=>simp[ih]
@[elab_as_elim] theorem reads_lst {R:WRecords} {cl:Str->Option Tw} {h:UT} {xs:List WData} {P:List SU->List Tw->Prop} {vals:List SU} {as:List Tw} (H:ReadsAllW R cl h vals [.list xs] as) (p:WShape.hasItems R xs .int=true) (k:∀a ob its n ns,h.get? a=some ob->ob.cls=.type "list"->ob.data=.seq its n->mf its.toList ns->xs.length=ns.length->P [.ref a] [a]):P vals as:=by
 cases H with
 |cons hv hr=>
  cases hr;cases hv with
  |list e1 e2 e3 e4=>exact aM (y0 p e4) (λns i1 i2 z=>by subst z;exact k _ _ _ _ ns e1 e2 e3 i1 i2)
@[elab_as_elim] theorem args_lst {R:WRecords} {P:List WData->Prop} {args:List WData} (h:WShape.hasAll R args [.list .int]=true) (k:∀xs,WShape.hasItems R xs .int=true->P [.list xs]):P args:=by
 refine aH (hasAllW_cons h) ?_;clear h;rintro da r rfl p3 p4;cases hasAllW_nil p4;refine ag (hasW_list p3) ?_;clear p3 p4;rintro xs rfl p5;exact k xs p5
theorem Oi{l:OpenLaw}{q:Vl}{loose:List Str}{N:Nat}{X:Tx}{d:DefRec}{kwd:List (Str×SQ)}(said:l.wellSaid=true)(most:l.most=some 63)(bound:l.bound=none)
  (left:LeftO l.prog q loose (λZ=>true) (λs=>(X.chk s.heap,X.views s.heap)) (λZ=>(true,X.due)) N)
  (hdef:defOf q l.name=some (d,kwd)) (hp:l.prog.theDef l.name=some (d.params,d.body,d.scope)) (hk:kwWritten? d.params.kwonlyargs d.params.kw_defaults=some kwd) (hwr:(!l.writes||true)=true)
  (ok:(chainsOk q&&opensWell l.prog&&(PySem.W.frees l.row.toRowW&&l.row.within.isEmpty))=true) (hb:l.prog.bare) (hw:l.row.toRowW.promised) {qn:Pa} {n0:Nat} (hgl:(n0,l.name,Gm.fn qn)∈X.gl)
  (run:∀(w:VX)(h:UT)(s:SW)(sa:Tw)(items:Array SU)(ns:List Int),Tx.Ck X h->X.views h=X.due->bB h s.heap->s.heap.IsList sa items->mf items.toList ns->ns.length≤63->s.gens=#[]->
   codeAny (Tn l.prog w) callerA (.call (.ref (gH h l.name)) ⟨[.ref sa],[]⟩) (jD (λv s'=>v=.bool true∧OldK s.heap s'.heap∧s'.os=s.os∧s'.gens=#[]) λZ Z=>False) s):l.Holds:=by
 refine holds_law said λsaid'=>holds_open (r:=l.row) (XP:=λZ Z=>True) (YP:=λw h=>∃h1,X.chk h1=true∧X.views h1=X.due∧bB h1 h) left (λw s e=>⟨s.heap,congrArg Prod.fst e,congrArg Prod.snd e,λZ Z z=>z⟩) (λw h h' ⟨h1,a,b,c⟩ k=>⟨h1,a,b,λx o e=>k _ _ (c x o e)⟩)
  (λZ Z=>trivial) (λZ Z Z Z Z=>trivial) hdef hp hk (λs Z=>⟨(by(repeat intro);contradiction),(by(repeat intro);contradiction),(by(repeat intro);contradiction),(by(repeat intro);contradiction)⟩) hwr said' ok hb hw ?_
 intro w s₀ s₁ mg mb G Y a o pm cd doc dV kV ho hd hcr hdf hmg hgens args vals as hpre hlay hreads hwell hlo;refine aM Y ?_;intro h1 c1 c2 c3;have ck:=Tx.Ck.of c1;refine ak (pre_splitW hpre) ?_;intro p1 p2;clear hpre hlay hwell;revert p2 hreads;refine args_lst p1 ?_;clear p1;intro xs p5 hreads p2;refine reads_lst hreads p5 ?_;clear hreads p5;intro sa ob its n ns e1 e2 e3 i1 i2;have hlen:ns.length≤63:=by
  refine rwl i2 ?_;have p2:(OpenLaw.pre l).holds [] {args:=[.list xs]}=true:=p2;unfold OpenLaw.pre at p2;rw[most,bound]at p2;by_cases z:xs.length≤63
  ·exact z
  ·have hz:(63:Int)<(xs.length:Int):=by lia
   have:WTm.holds [] (.and (.not (.lt (.lit (.int 63)) (.len (.arg 0)))) (.lit (.bool true))) {args:=[.list xs]}=false:=by
    simp[WTm.holds,WTm.value,less?,Num.less?,hz]
   exact absurd (p2.symm.trans this) (by decide)
 have ha:gH h1 l.name=a:=by
  have z:=ck.gl _ hgl;have z:h1.nsMap Tv l.name=some (.ref (gH h1 l.name)):=Tx.o1_ok Tx.vR_ok (Ts.mp z).2;have tp:=(Ts.mp (Ts.mp (Ts.mp (Ts.mp (Ts.mp ck.top).1).1).1).1).1;refine iz (Tx.nsUp c3 (Heap.Ns.of_isNs tp)) ?_;rintro ob1 es1 ep1 u1 u2-u3;refine iz G.T.g ?_;rintro ob2 es2 ep2 v1 v2-v3;cases u1.symm.trans v1;cases u2.symm.trans v2;have hn:d.name=l.name:=defOf_name hdef;have e:=(v3 l.name).symm.trans (u3 l.name);rw[z,←hn,hmg]at e;refine rwl hn ?_;exact(Value.ref.inj (Ti e)).symm
 have key:=run w h1 s₁ sa its ns ck c2 c3 ⟨ob,e1,e2,n,e3⟩ i1 hlen hgens;rw[ha]at key;refine wpAny_call (codeAny_mono key λr s' h=>?_);cases r with
 |error e=>exact h.elim
 |ok f=>
  cases f with
  |ret v=>
   refine tT h ?_;clear h;rintro rfl h2 h3 h4;exact⟨.inl ⟨.bool true,.bool true,[],rfl,λZ=>rfl,.bool true,(by show WTm.holds [] (.eq .res (.lit (.bool true))) {args:=[.list xs],after:=[.list xs],res:=some (.bool true)}=true;simp[WTm.holds,WTm.value,same]),λZ=>⟨Vt,(by(repeat intro);contradiction)⟩⟩,h2,h3,.of_eq h4⟩
  |_=>exact h.elim
end
end
section
set_option compiler.extract_closed false
section
open PySem PySem.W PyProof.Rows
variable{C:Cx}{Γ:d6}
inductive hK(C:Cx)(Γ:d6):List W8->Y->Prop
 |nil:hK C Γ [] ab
 |cons {s:W8} {ss:List W8} {a b:Y}:du C Γ s a->hK C Γ ss b->hK C Γ (s::ss) (ac a b)
theorem hK.go{ss tail:List W8}{y:Y}(H:hK C Γ ss y){F:dP C Γ}{fr:Fr}{k:En->K0}{Q:UL->SW->Prop}{E:SU->SW->Prop}(T:∀(P:Pt C)(en:En),ER F P.R en->k en P.m=true->Tb (Tn C.prog C.w) F.A (execs tail F.menv) Q E P.s)
  (K:∀(P:Pt C)(fl:UL),fl≠.next->ND F fr k P fl->Q fl P.s) {P:Pt C} {en:En} (er:ER F P.R en) (h:y F.cl fr k en P.m=true):Tb (Tn C.prog C.w) F.A (execs (ss++tail) F.menv) Q E P.s:=by
 induction H generalizing P en with
 |nil=>exact T P en er h
 |@cons s ss a b ha hb ih=>
  refine Wg (ha F P fr _ en _ E er h λP1 fl L f=>?_);cases fl with
  |next=>refine ag f ?_;clear f;intro yI R1 h1;exact ih R1 h1
  |ret v=>exact K P1 _ (by(repeat intro);contradiction) f
  |brk=>exact K P1 _ (by(repeat intro);contradiction) f
  |cont=>exact K P1 _ (by(repeat intro);contradiction) f
theorem Mt{h:UT}(k:∀b o,C.h₀.get? b=some o->h.get? b=some o)(v:∀P∈C.vol,h.get? P=some (tabObj #[])):bP C ⟨λZ=>none,h,λZ=>False⟩ ⟨.nil,.e⟩where
 next:=⟨0,rfl,λi Z=>dU _⟩
 dom:=λq p e=>by exact dh e
 cod:=λq o e=>by rw[dU]at e;exact dh e
 keep:=k
 old:=λq p b e=>by exact dh e
 apart:=λq q' p p' b e=>by exact dh e
 frz:=λc ⟨q,p,e,_⟩=>by exact dh e
 vol:=λP hP=>⟨#[],v P hP,trivial,λpos cv e=>by exact dh e⟩
 fz:=λZ f=>f.elim
theorem Dw{h:UT}{tabs:List (Tw×Tw)}(hT:TabsAt tabs h)(hc:C.h₀=ghostOf h tabs)(hv:C.vol=tabs.map (·.2)){R:Wd}{μ:KS}(G:bP C R μ):OldK h R.h:=by
 have live:∀b o,h.get? b=some o->b∈tabs.map (·.2)∨R.h.get? b=some o:=λb o e=>by
  by_cases z:b∈tabs.map (·.2)
  ·exact .inl z
  ·exact .inr (G.keep b o (by refine rwr hc ?_;exact ghost_ne e z))
 refine⟨λb o e=>?_,λb o e=>?_⟩
 ·rcases live b o e with z|z
  ·refine ag (G.vol b (hv▸z)) ?_;rintro ps e1 -;refine rO z ?_;rintro x hx rfl;refine ak (hT x hx) ?_;intro hd e2;cases e.symm.trans e2;exact .inr (.inl ⟨(hd.tab e2).isCodeTable,rfl,#[],ps,rfl,by refine rwr Array.empty_append ?_;exact e1⟩)
  ·exact .inl z
 ·rcases live b o e with z|z
  ·refine ag (G.vol b (hv▸z)) ?_;rintro ps e1 -;exact⟨_,e1⟩
  ·exact⟨o,z⟩
end
end
section
set_option compiler.extract_closed false
section
open PySem PySem.W PyProof.Rows
section
def bF:T Code:=d7 w0
noncomputable def Qc:Df:=⟨⟨[],[],none,[],[],none,[]⟩,[],⟨.function,[],false,false,[]⟩,.nil⟩
noncomputable def cX:Df:=((xc ua)[54]?).getD Qc
noncomputable def FY:Df:=((xc ua)[45]?).getD Qc
def FW:Y:=yQ (.b .e) (.i (.d .e)) (.b (.b .e))
def FV:Y:=yP (.b .e) (.i (.d .e)) (.b (.b .e)) (.b (.c .e))
def sH(i:Nat):W8:=((((y7 IR).1 FY.body)[i]?).getD (true,.Pass ⟨0,0,0,0⟩)).2
theorem Je:((none,("law":Str)),cX)∈dw.names.zip dw.dfs:=TM (i:=54) (by kernel_rfl)
theorem DO:(dw.dfs.all Internal.dfB&&dw.lams.all Ni)=true:=by kernel_rfl
theorem AU:Internal.dfB cX=true:=by kernel_rfl
theorem AT:pn cX=[("script":Str)]:=by kernel_rfl
theorem DN:(y7 IR).1 FY.body=[(true,sH 0),(false,sH 1)]:=by kernel_rfl
theorem Jd:dw.names.zip dw.dfs=(dw.names.zip dw.dfs).take 45++((some ("LRGeneratedTable":Str),("lr_parse_table":Str)),FY)::(dw.names.zip dw.dfs).drop 46:=by kernel_rfl
theorem DM:((dw.names.zip dw.dfs).take 45++(dw.names.zip dw.dfs).drop 46).all (λnd=>!(nd.1.2==("lr_parse_table":Str)))=true:=by kernel_rfl
section
variable{h h':UT}{prog:Vl}{w:VX}{g:Array X0}{d:Drawn}{os:OsState}{tk:Nat->KV}
theorem DK(O:(dw.cx h h' prog w g d os tk).Ok dw.pg):(dw.es h).map (vy O (v5 dw.lm) FW FV)=w0:=by kernel_rfl
theorem xW(O:(dw.cx h h' prog w g d os tk).Ok dw.pg):((dw.es h).flatMap (wD O (v5 dw.lm) FW FV)).map (λr=>(dw.cx h h' prog w g d os tk).lam r.1)=((dw.es h).flatMap (wD O (v5 dw.lm) FW FV)).map λr=>some r.2:=by kernel_rfl
theorem Jh(O:(dw.cx h h' prog w g d os tk).Ok dw.pg):(Fo O (lv O 20) (v5 dw.lm) 20 (dF FY) (sH 0)).1=(Y1 (.b .e) (.i (.d .e)) (.b (.b .e)),[]):=by kernel_rfl
theorem Jg(O:(dw.cx h h' prog w g d os tk).Ok dw.pg):(Fo O (lv O 20) (v5 dw.lm) 20 (dF FY) (sH 1)).1=(Y2 (.b .e) (.i (.d .e)) (.b (.b .e)) (.b (.c .e)),[]):=by kernel_rfl
theorem Jc(O:(dw.cx h h' prog w g d os tk).Ok dw.pg):(lE O (v5 dw.lm) (dF cX) FW FV .k cX.body).2=[]:=by kernel_rfl
end
end
end
end
section
set_option compiler.extract_closed false
section
def Wf(s:KS):Prop:=∃m,s.n=bD m∧∀i,m≤i->tg (bD i) s.h=none
structure Xt(s s':KS):Prop where
 wf:Wf s'
 keep:∀q o,tg q s.h=some o->tg q s'.h=some o
section
variable{s s' s'':KS}{o o':KO}{q p:Pa}
theorem Xt.refl(w:Wf s):Xt s s:=⟨w,λZ Z h=>h⟩
theorem Xt.trans(a:Xt s s')(b:Xt s' s''):Xt s s'':=⟨b.wf,λq o h=>b.keep q o (a.keep q o h)⟩
theorem Wf.fresh(w:Wf s):tg s.n s.h=none:=by refine ag w ?_;clear w;intro m e f;refine rwr e ?_;exact f m (TA m)
theorem Wf.ne(w:Wf s)(h:tg q s.h=some o):q≠s.n:=λe=>by rw[e,w.fresh]at h;exact dh h
theorem dB:tg s.n (bz s o).h=some o:=aW _ _ _
theorem Xt.new(w:Wf s):Xt s (bz s o):=by
 refine⟨?_,λq o' h=>(am _ (w.ne h)).trans h⟩;refine ag w ?_;clear w;intro m e f;refine⟨m+1,by show qs s.n=qs (bD m);exact rwr e rfl,λi hi=>?_⟩;show tg (bD i) (tp s.n o s.h)=none;refine rwr e (rwr (am _ (Au (by lia))) ?_);exact f i (by exact SV (U8 m) hi)
theorem i6:tg q (bV s q o).h=some o:=aW _ _ _
theorem bO(h:p≠q):tg p (bV s q o).h=tg p s.h:=am _ h
theorem Wf.put(w:Wf s)(h:tg q s.h=some o'):Wf (bV s q o):=by
 refine ag w ?_;clear w;intro m e f;refine⟨m,e,λi hi=>?_⟩;show tg (bD i) (tp q o s.h)=none;by_cases z:bD i=q
 ·subst z;rw[f i hi]at h;exact dh h
 ·refine rwr (am _ z) ?_;exact f i hi
end
theorem g9:∀l:List KV,len (aC l)=l.length
 |[]=>rfl
 |x::r=>congrArg Te (g9 r)
theorem f9:∀(l:List KV)(n:Nat),ng n (aC l)=l[n]?
 |[],0=>rfl
 |[],n+1=>rfl
 |x::r,0=>rfl
 |x::r,n+1=>f9 r n
theorem gY:∀l m:List KV,app (aC l) (aC m)=aC (l++m)
 |[],m=>rfl
 |x::r,m=>congrArg (KV.cons x) (gY r m)
theorem jH:∀(n:Nat)(l:List KV),take n (aC l)=aC (l.take n)
 |0,_=>rfl
 |n+1,[]=>rfl
 |n+1,x::r=>congrArg (KV.cons x) (jH n r)
theorem oA:∀(n:Nat)(l:List KV),drop n (aC l)=aC (l.drop n)
 |0,_=>rfl
 |n+1,[]=>rfl
 |n+1,x::r=>oA n r
theorem l5:∀l m:List KV,uR (aC l) (aC m)=aC (l.reverse++m)
 |[],m=>rfl
 |x::r,m=>by
  show uR (aC r) (aC (x::m))=_;rw[l5 r (x::m),VT,UP];rfl
theorem bJ{c:Cl}{e e':En}{s s':KS}{a:Y}(ha:St c a e s e' s'):St c (ac a ab) e s e' s':=λF k h=>ha _ _ h
section
variable{c:Cl}{e e' e1 e2:En}{s s' s2:KS}{v u:KV}{t:Tg}{b o:Y}{n:Nat}{it it':KI}
def Nx(s:KS)(it:KI)(v:KV)(it':KI):Prop:=∀(z:Bool)(k:KV->KI->Bool),j0 it s z k=k v it'
def Nz(s:KS)(it:KI):Prop:=∀(z:Bool)(k:KV->KI->Bool),j0 it s z k=z
theorem i7{q:Pa}{m i:Nat}{l:List KV}(hq:tg q s.h=some (.list m (aC l)))(hv:l[i]?=some v):Nx s (.list q i) v (.list q (i+1)):=λz k=>by
 show aZ q s _=_;unfold aZ;rw[hq];show ci (ng i (aC l)) _ _=_;rw[f9,hv];rfl
theorem mu{q:Pa}{m i:Nat}{l:List KV}(hq:tg q s.h=some (.list m (aC l)))(hv:l[i]?=none):Nz s (.list q i):=λz k=>by
 show aZ q s _=_;unfold aZ;rw[hq];show ci (ng i (aC l)) _ _=_;rw[f9,hv];rfl
def N1(c:Cl)(t:Tg)(b o:Y)(n:Nat)(it:KI)(e:En)(s:KS)(e':En)(s':KS):Prop:=∀(F:Fr)(k:En->K0),k e' s'=true->KM t b o c F k n it e s=true
theorem AQ(h:Nz s it)(ho:St c o e s e' s'):N1 c t b o (n+1) it e s e' s':=λF k hk=>(h _ _).trans (ho F k hk)
theorem ku(h:Nx s it v it')(ht:Qj t v e e1)(hb:St c b e1 s e2 s2)(hl:N1 c t b o n it' e2 s2 e' s'):N1 c t b o (n+1) it e s e' s':=λF k hk=>(h _ _).trans (ht _ (hb _ _ (hl F k hk)))
def Iv(c:Cl)(x:XI)(e:En)(s:KS)(it:KI)(s':KS):Prop:=∀k:KI->KS->Bool,k it s'=true->x c e k s=true
theorem wJ{x:X}{q:Pa}{m:Nat}{xs:KV}(hx:Ev c x e s (.ref q) s')(hq:tg q s'.h=some (.list m xs)):Iv c (aG x) e s (.list q 0) s':=λk h=>hx _ (bH hq h)
theorem zp{x:XI}(hi:Iv c x e s it s2)(hl:N1 c t b o kR it e s2 e' s'):St c (cj x t b o) e s e' s':=λF k h=>hi _ (hl F k h)
end
end
end
section
set_option compiler.extract_closed false
section
open PySem PySem.W PyProof.Rows
variable{C:Cx}{Γ:d6}{R:Wd}{μ μ₂:KS}
theorem ji{P:Nat->Prop}{n:Nat}(h:∀{m},m<n->P m)(e:P n){m:Nat}(z:m<n+1):P m:=(Nat.lt_or_eq_of_le (Nat.le_of_lt_succ z)).elim h λq=>q▸e
theorem iR{P:Nat->Prop}(a:P 0)(b:P 1)(c:P 2){m:Nat}(h:m<3):P m:=ji (ji (ji (λ{m} h=>absurd h (Nat.not_lt_zero m)) a) b) c h
theorem m9{P:Nat->Prop}(a:P 0)(b:P 1)(c:P 2)(d:P 3)(e:P 4){m:Nat}(h:m<5):P m:=ji (ji (iR a b c) d) e h
theorem jF{R':Wd}{x x' r r':KV}(eh:R'.h=R.h)(f:∀u,VR C R x u->VR C R' x' u)(g:∀us,bG C R r us->bG C R' r' us):(∀v,VR C R (.cons x r) v->VR C R' (.cons x' r') v)∧∀vs,bG C R (.cons x r) vs->bG C R' (.cons x' r') vs:=
 ⟨λv z=>ew z λb u us e t g1 g2 l=>⟨b,u,us,e,eh▸t,f u g1,g us g2,l⟩,λvs z=>aH z λu us e g1 g2=>⟨u,us,e,f u g1,g us g2⟩⟩
noncomputable def pl:KV->Bool
 |.none=>true
 |.nat _=>true
 |.neg _=>true
 |.str _=>true
 |_=>false
theorem nK{x:KV}{v:SU}(h:pl x=true):VR C R x v↔pb v x:=by cases x<;>first|exact Iff.rfl|exact aD h
theorem LU{x:KV}{v:SU}(h:pb v x):pl x=true:=by cases x<;>first|rfl|exact h.elim
def VS(tk:Nat->KV)(φ:Pa->Option Pa)(Z:Pa->KV->Prop):KV->KV->Prop
 |.none,y=>y=.none∨∃m,y=.tok (m+2)∧tk m=.none
 |.bool b,y=>y=.bool b
 |.nat n,y=>y=.nat n∨∃m,y=.tok (m+2)∧tk m=.nat n
 |.neg n,y=>y=.neg n∨∃m,y=.tok (m+2)∧tk m=.neg n
 |.str c,y=>y=.str c∨∃m,y=.tok (m+2)∧tk m=.str c
 |.nil,y=>y=.nil
 |.cons x r,y=>∃a s,y=.cons a s∧VS tk φ Z x a∧VS tk φ Z r s
 |.ref q,y=>∃q',φ q=some q'∧y=.ref q'
 |.tok n,y=>y=.tok n∨∃m,n=m+2∧y=tk m∧pl y=true
 |.fl x,y=>∃z,VS tk φ Z x z∧(y=.fl z∨∃q,y=.ref q∧Z q z)
noncomputable def Wd.cut(R:Wd)(φ:Pa->Option Pa)(Z:Pa->KV->Prop):Wd:=⟨λq=>(φ q).bind R.ρ,R.h,λb=>R.fz b∨∃q z p,Z q z∧R.ρ q=some p∧b=p.fst⟩
def Sm(C:Cx)(R R':Wd)(x y:KV):Prop:=(∀v,VR C R y v->VR C R' x v)∧∀vs,bG C R y vs->bG C R' x vs
theorem VS.rel{φ:Pa->Option Pa}{Z:Pa->KV->Prop}(G:bP C R μ)(hZ:∀q z,Z q z->∃n,tg q μ.h=some (.list n z)):∀{x y:KV},VS C.tk φ Z x y->Sm C R (R.cut φ Z) x y:=by
 have tkc:∀{m:Nat}{x:KV}{R':Wd},C.tk m=x->Sm C R R' x (.tok (m+2)):=λ{m x R'} e=>⟨λv h=>by
  have h:pb v (C.tk m):=h;rw[e]at h;exact(nK (LU h)).mpr h,λzz h=>h.elim⟩
 intro x;induction x with
 |none=>rintro _ (rfl|⟨m,rfl,e⟩)<;>first|exact⟨λzz h=>h,λzz h=>h⟩|exact tkc e
 |nat n=>rintro _ (rfl|⟨m,rfl,e⟩)<;>first|exact⟨λzz h=>h,λzz h=>h⟩|exact tkc e
 |neg n=>rintro _ (rfl|⟨m,rfl,e⟩)<;>first|exact⟨λzz h=>h,λzz h=>h⟩|exact tkc e
 |str n=>rintro _ (rfl|⟨m,rfl,e⟩)<;>first|exact⟨λzz h=>h,λzz h=>h⟩|exact tkc e
 |bool b=>rintro _ rfl;exact⟨λzz h=>h,λzz h=>h⟩
 |nil=>rintro _ rfl;exact⟨λzz h=>h,λzz h=>h⟩
 |cons x r i1 i2=>
  intro _ zq;refine aH zq ?_;clear zq;rintro a s rfl h1 h2;exact jF rfl (i1 h1).1 (i2 h2).2
 |ref q=>intro _ zq;refine ag zq ?_;clear zq;rintro q' h rfl;exact⟨λv ⟨p,hp,e⟩=>⟨p,by show(φ q).bind R.ρ=_;refine rwr h ?_;exact hp,e⟩,λzz h=>h.elim⟩
 |tok n=>
  rintro y (rfl|⟨m,rfl,e,h⟩)
  ·exact⟨λzz h=>h,λzz h=>h⟩
  ·refine⟨λv hv=>?_,λvs hv=>?_⟩
   ·show pb v (C.tk m);refine rwl e ?_;exact(nK h).mp hv
   ·exfalso;revert hv h;cases y<;>intro h hv<;>first|exact hv|exact aD h
 |fl x ih=>
  rintro y ⟨z,h1,rfl|⟨q,rfl,h2⟩⟩
  ·exact⟨λv ⟨a,vs,k,e,f,g,r,l⟩=>⟨a,vs,k,e,.inl f,g,(ih h1).2 _ r,l⟩,λzz h=>h.elim⟩
  ·refine⟨λv hv=>?_,λzz h=>h.elim⟩;refine ag hv ?_;clear hv;rintro p hp rfl;refine aw (hZ q z h2) ?_;intro n hl;refine ag (G.at hl) ?_;intro p' hp' r;cases hp.symm.trans hp';refine ak r ?_;intro a zq;refine dG zq ?_;intro vs k b c d e;exact⟨_,vs,k,rfl,.inr ⟨q,z,p,h2,hp,rfl⟩,b,(ih h1).2 _ c,by refine rwl d ?_;exact e⟩
def DS(V:KV->KV->Prop):KD->KD->Prop
 |.nil,e=>e=.nil
 |.cons a w r,e=>∃w' r',e=.cons a w' r'∧V w w'∧DS V r r'
noncomputable def mc:KV->Bool
 |.cons x r=>mc x&&mc r
 |.ref _=>false
 |.fl _=>false
 |_=>true
def DA:KD->Prop
 |.nil=>True
 |.cons _ w r=>mc w=true∧DA r
theorem DA.dl{x v:KV}:∀{es:KD},DA es->Internal.dl es x=some v->mc v=true
 |.nil,_,e=>by exact dh e
 |.cons a w r,h,e=>by
  have e:@Ue (λzz=>Option KV) (Internal.dl r x) (.some w) (cM a x)=some v:=e;cases k:cM a x with
  |true=>rw[k]at e;cases e;exact h.1
  |false=>rw[k]at e;exact DA.dl h.2 e
def FS(V:KV->KV->Prop)(a b:Option KV):Prop:=match a,b with
 |some x,some y=>V x y
 |none,none=>True
 |_,_=>False
def OS(C:Cx)(V W:KV->KV->Prop)(o o':KO):Prop:=match o with
 |.list n xs=>∃ys,o'=.list n ys∧V xs ys
 |.dict n es=>∃fs,o'=.dict n fs∧DS V es fs
 |.junk n=>o'=.junk n
 |.pd a m=>DA a∧DA m∧((∃b k,o'=.pd b k∧DS W a b∧DS W m k)∨∃n es,o'=.dict n es∧Pd C a m es)
 |.set xs=>o'=.set xs
 |.inst c fs=>∃gs,o'=.inst c gs∧∀q,FS V (tg q fs) (tg q gs)
 |.clo q cs=>∃ds,o'=.clo q ds∧V cs ds
theorem DS.dl{V:KV->KV->Prop}:∀{es fs:KD},DS V es fs->∀x,FS V (dl es x) (dl fs x)
 |.nil,_,h,x=>by cases h;exact trivial
 |.cons a w r,_,h,x=>by
  refine aH h ?_;clear h;rintro w' r' rfl h1 h2;have ih:=DS.dl (es:=r) h2 x;show FS V (@Ue (λzz=>Option KV) (Internal.dl r x) (.some w) (cM a x)) (@Ue (λzz=>Option KV) (Internal.dl r' x) (.some w') (cM a x));cases cM a x with
  |true=>exact h1
  |false=>exact ih
theorem DS.pairs{V:KV->KV->Prop}:∀{es fs:KD},DS V es fs->(pairs es).length=(pairs fs).length∧(pairs es).map (·.1)=(pairs fs).map (·.1)∧∀(i:Nat)(kv:KV×KV),(pairs es)[i]?=some kv->∃w,(pairs fs)[i]?=some (kv.1,w)∧V kv.2 w
 |.nil,_,h=>by cases h;exact⟨rfl,rfl,λi kv e=>by trivial⟩
 |.cons a w r,_,h=>by
  refine aH h ?_;clear h;rintro w' r' rfl h1 h2;refine bf (DS.pairs (es:=r) h2) ?_;intro l k i;refine⟨congrArg Te l,congrArg (List.cons a) k,λj kv e=>?_⟩;cases j with
  |zero=>cases e;exact⟨w',rfl,h1⟩
  |succ j=>exact i j kv e
theorem Lm{tk:Nat->KV}{φ:Pa->Option Pa}{Z:Pa->KV->Prop}:∀{x:KV}{n:Nat},iP x n=true->VS tk φ Z x x:=by
 intro x;induction x with
 |cons x r i1 i2=>intro n h;refine dX h ?_;rintro m h1 h2 -;exact⟨x,r,rfl,i1 h1,i2 h2⟩
 |none=>exact λzz=>.inl rfl
 |nat=>exact λzz=>.inl rfl
 |neg=>exact λzz=>.inl rfl
 |str=>exact λzz=>.inl rfl
 |nil=>exact λzz=>rfl
 |bool=>exact λzz=>rfl
 |_=>exact λh=>aD h
theorem wS{R':Wd}(eh:R'.h=R.h):∀{x:KV},mc x=true->Sm C R R' x x:=by
 intro x;induction x with
 |cons x r i1 i2=>
  intro h;refine iJ h ?_;intro h1 h2;exact jF eh (i1 h1).1 (i2 h2).2
 |nil=>exact λzz=>⟨λv ⟨a,e,t⟩=>⟨a,e,eh▸t⟩,λzz h=>h⟩
 |ref=>exact λh=>aD h
 |fl=>exact λh=>aD h
 |_=>exact λzz=>⟨λzz h=>h,λzz h=>h⟩
def IP(a m:KD)(x u:KV):KV:=match dl a x with
 |some v=>v
 |none=>match dl m x with
  |some v=>v
  |none=>u
def IQ(a m:KD):KD->KD
 |.nil=>.nil
 |.cons x u r=>.cons x (IP a m x u) (IQ a m r)
theorem gO{a m:KD}:∀es:KD,(pairs (IQ a m es)).length=(pairs es).length∧(pairs (IQ a m es)).map (·.1)=(pairs es).map (·.1)∧∀(i:Nat)(kv:KV×KV),(pairs (IQ a m es))[i]?=some kv->∃w,(pairs es)[i]?=some (kv.1,w)∧kv.2=IP a m kv.1 w
 |.nil=>⟨rfl,rfl,λi kv e=>by trivial⟩
 |.cons x u r=>by
  refine bf (gO (a:=a) (m:=m) r) ?_;intro l k i;refine⟨congrArg Te l,congrArg (List.cons x) k,λj kv e=>?_⟩;cases j with
  |zero=>cases e;exact⟨u,rfl,rfl⟩
  |succ j=>exact i j kv e
theorem Az{a m:KD}{x:KV}:∀es:KD,dl (IQ a m es) x=(dl es x).map (IP a m x)
 |.nil=>rfl
 |.cons y u r=>by
  show@Ue (λzz=>Option KV) (dl (IQ a m r) x) (.some (IP a m y u)) (cM y x)=Option.map _ (@Ue (λzz=>Option KV) (dl r x) (.some u) (cM y x));cases e:cM y x with
  |true=>refine rwr (fx e) ?_;rfl
  |false=>exact Az r
theorem oU.fs{V:KV->KV->Prop}{r:KV->SU->Prop}{r':KV->SU->Prop}(f:∀x y v,V x y->r y v->r' x v){a b:Option KV}{c:Option SU}(h:FS V a b)(k:oU r b c):oU r' a c:=by
 cases a with
 |none=>cases b with
  |none=>cases c<;>first|exact trivial|exact k.elim
  |some y=>exact h.elim
 |some x=>cases b with
  |none=>exact h.elim
  |some y=>cases c<;>first|exact k.elim|exact f x y _ h k
theorem OS.rel{V W:KV->KV->Prop}{R':Wd}(eh:R'.h=R.h)(hV:∀{x y},V x y->Sm C R R' x y)(hk:∀{x:KV},pk x=true->Sm C R R' x x)(hW:∀{x y},W x y->∀(R:Wd) w,VR C R y w->VR C R x w){o o':KO}{p:iK}(h:OS C V W o o')(r:eX C R o' p):eX C R' o p:=by
 have dc:∀{n:Nat}{es fs:KD},DS V es fs->oW C R n fs p->oW C R' n es p:=λ{n es fs} d r=>by
  refine ak r ?_;intro he zq;refine j5 zq ?_;intro ob es' ep hob hx hdat hE hnd hn hl hep;refine bf d.pairs ?_;intro l k i;refine⟨he,ob,es',ep,eh▸hob,hx,hdat,⟨hE.1.trans l.symm,λj e kv h1 h2=>?_⟩,k▸hnd,hn.trans l.symm,hl,hep⟩;refine ag (i j kv h2) ?_;intro w e3 v3;have z:=hE.2 j e _ h1 e3;exact⟨z.plain,z.hash,(hk z.plain).1 _ z.key,(hV v3).1 _ z.val⟩
 cases o with
 |list n xs=>
  refine ag h ?_;rintro ys rfl hv;refine ak r ?_;intro e zq;refine aH zq ?_;intro vs k a b c;exact⟨e,vs,k,eh▸a,(hV hv).2 _ b,c⟩
 |dict n es=>refine ag h ?_;rintro fs rfl d;exact dc d r
 |junk n=>
  cases h;refine ak r ?_;intro e zq;refine aL zq ?_;intro vs k a b;exact⟨e,vs,k,eh▸a,b⟩
 |set xs=>
  cases h;refine ak r ?_;intro e zq;refine aL zq ?_;intro S n zq2 c;refine x6 zq2 ?_;intro ob es ep tb a b;exact⟨e,S,n,⟨ob,es,ep,tb,eh▸a,b⟩,c⟩
 |inst c fs=>
  refine ag h ?_;rintro gs rfl hf;refine aM r ?_;intro a b c zq;refine aH zq ?_;intro es n d e f;refine⟨a,b,eh▸c,es,n,eh▸d,e,λnm=>?_,f.2⟩;have z:=f.1 nm;cases hs:C.sl nm with
  |none=>
   rw[hs]at z;have z:oU (VR C R) none (iE es nm):=z;show oU (VR C R') none (iE es nm);cases hg:iE es nm with
   |none=>exact trivial
   |some v=>rw[hg]at z;exact z.elim
  |some q=>
   rw[hs]at z;exact oU.fs (r:=VR C R) (r':=VR C R') (λx y v k r=>(hV k).1 v r) (hf q) z
 |clo q cs=>
  refine ag h ?_;rintro ds rfl hv;refine ak r ?_;intro e zq;refine dG zq ?_;intro fd ob a b c K;refine⟨e,fd,ob,eh▸a,b,c,K.lam,K.glob,K.bi,K.dflt,eh▸K.code,K.keep,K.inj,?_⟩;refine aM K.caps ?_;intro vs h1 h2 h3;refine⟨vs,(hV hv).2 _ h1,h2,λi nm v q1 q2=>?_⟩;refine aH (h3 i nm v q1 q2) ?_;intro ca ob z1 z2 z3;exact⟨ca,ob,z1,eh▸z2,z3⟩
 |pd a m=>
  refine bf h ?_;intro fa fm h;have key:∃n es,oW C R n es p∧Pd C a m es:=by
   rcases h with zq|zq
   ·refine aH zq ?_;clear zq;rintro b k rfl ha hm;refine aL r ?_;intro n es d z;refine⟨n,es,d,λx hx=>?_⟩;have z:=z x hx;have za:=ha.dl x;have zm:=hm.dl x;cases e1:dl a x with
    |some v=>
     rw[e1]at za;cases e2:dl b x with
     |none=>rw[e2]at za;exact za.elim
     |some v'=>rw[e2]at za z;refine ag z ?_;intro u g1 g2;exact⟨u,g1,λR w h=>hW za R w (g2 R w h)⟩
    |none=>
     rw[e1]at za;cases e2:dl b x with
     |some v'=>rw[e2]at za;exact za.elim
     |none=>
      rw[e2]at z;cases e3:dl m x with
      |some v=>
       rw[e3]at zm;cases e4:dl k x with
       |none=>rw[e4]at zm;exact zm.elim
       |some v'=>
        rw[e4]at zm z;rcases z with zq|zq
        ·refine ag zq ?_;clear zq;intro u g1 g2;exact .inl ⟨u,g1,λR w h=>hW zm R w (g2 R w h)⟩
        ·refine ak zq ?_;clear zq;intro g1 g2;exact .inr ⟨g1,λR w h=>hW zm R w (g2 R w h)⟩
      |none=>
       rw[e3]at zm;cases e4:dl k x with
       |some v'=>rw[e4]at zm;exact zm.elim
       |none=>rw[e4]at z;exact z
   ·refine aL zq ?_;clear zq;rintro n es rfl hp;exact⟨n,es,r,hp⟩
  refine aL key ?_;intro n es d z;refine ak d ?_;intro he zq;refine j5 zq ?_;intro ob es' ep hob hx hdat hE hnd hn hl hep;refine⟨n,IQ a m es,⟨he,ob,es',ep,eh▸hob,hx,hdat,⟨hE.1.trans (gO es).1.symm,λj e kv h1 h2=>?_⟩,(gO es).2.1▸hnd,hn.trans (gO es).1.symm,hl,hep⟩,λx hx=>?_⟩
  ·refine ag ((gO es).2.2 j kv h2) ?_;intro w e3 e4;have y:=hE.2 j e _ h1 e3;refine⟨y.plain,y.hash,(hk y.plain).1 _ y.key,?_⟩;rw[e4];have z:=z kv.1 y.plain;have dk:dl es kv.1=some w:=by
    refine vo .none hE.plain hnd (x:=kv.1) ?_;rintro J q1 q2- -;have q3:=(q1 j _ e3).mp rfl;rw[q2,q3];show(Internal.pairs es)[j]?.map _=_;rw[e3];rfl
   unfold IP;cases e1:dl a kv.1 with
   |some v=>rw[e1]at z;refine ag z ?_;intro u g1 g2;cases Ti (g1.symm.trans dk);exact(wS eh (fa.dl e1)).1 _ (g2 R _ y.val)
   |none=>
    rw[e1]at z;cases e3:dl m kv.1 with
    |some v=>
     rw[e3]at z;rcases z with zq|zq
     ·refine ag zq ?_;clear zq;intro u g1 g2;cases Ti (g1.symm.trans dk);exact(wS eh (fm.dl e3)).1 _ (g2 R _ y.val)
     ·refine ak zq ?_;clear zq;rintro g1 -;exact dh (g1.symm.trans dk)
    |none=>rw[e3]at z;have z:dl es kv.1=none:=z;exact dh (z.symm.trans dk)
  ·have z:=z x hx;rw[Az];cases e1:dl a x with
   |some v=>rw[e1]at z;refine ag z ?_;intro u g1 g2;rw[g1];exact⟨_,rfl,λR w h=>by unfold IP at h;rw[e1]at h;exact h⟩
   |none=>
    rw[e1]at z;cases e3:dl m x with
    |some v=>
     rw[e3]at z;rcases z with zq|zq
     ·refine ag zq ?_;clear zq;intro u g1 g2;rw[g1];exact .inl ⟨_,rfl,λR w h=>by unfold IP at h;rw[e1,e3]at h;exact h⟩
     ·refine ak zq ?_;clear zq;intro g1 g2;rw[g1];exact .inr ⟨rfl,g2⟩
    |none=>rw[e3]at z;have z:dl es x=none:=z;rw[z];rfl
structure N8(C:Cx)(φ:Pa->Option Pa)(Z:Pa->KV->Prop)(μ₂ μ:KS):Prop where
 next:∃m,μ₂.n=bD m∧∀i,m≤i->tg (bD i) μ₂.h=none
 fwd:∀q o,tg q μ₂.h=some o->∃q' o',φ q=some q'∧tg q' μ.h=some o'∧OS C (VS C.tk φ Z) (λx y=>∀(R:Wd) w,VR C R y w->VR C R x w) o o'
 dom:∀q q' o,φ q=some q'->tg q' μ.h=some o->∃o,tg q μ₂.h=some o
 inj:∀q p q',φ q=some q'->φ p=some q'->q=p
 zl:∀q z,Z q z->∃n,tg q μ.h=some (.list n z)
 zf:∀q z p,Z q z->φ p≠some q
section
variable{φ:Pa->Option Pa}{Z:Pa->KV->Prop}
theorem mJ{b:Tw}(h:dN (R.cut φ Z) b):dN R b:=by
 refine aL h ?_;clear h;intro q p hp o;refine Fk hp ?_;rintro q'-hp;exact⟨q',p,hp,o⟩
theorem xe{b:Tw}(h:fh (R.cut φ Z) b):fh R b:=by
 refine aL h ?_;clear h;intro q p hp o;refine Fk hp ?_;rintro q'-hp;exact⟨q',p,hp,o⟩
theorem bP.cut(G:bP C R μ)(K:N8 C φ Z μ₂ μ):bP C (R.cut φ Z) μ₂ where
 next:=K.next
 dom:=λq p h=>by
  refine Fk h ?_;intro q' h1 h2;refine ag (G.dom q' p h2) ?_;intro o' ho' r;refine aw (K.dom q q' o' h1 ho') ?_;intro o ho;refine aH (K.fwd q o ho) ?_;intro q2 o2 e1 e2 e3;cases h1.symm.trans e1;cases ho'.symm.trans e2;exact⟨o,ho,e3.rel (R:=R) (R':=R.cut φ Z) rfl (λv=>VS.rel G K.zl v) (λh=>VS.rel G K.zl (Lm h)) (λh=>h) r⟩
 cod:=λq o ho=>by
  refine aH (K.fwd q o ho) ?_;rintro q' o' e1 e2 -;refine aw (G.cod q' _ e2) ?_;intro p hp;exact⟨p,by show(φ q).bind R.ρ=_;refine rwr e1 ?_;exact hp⟩
 keep:=G.keep
 old:=λq p b h ho=>by refine Fk h ?_;clear h;rintro q'-h;exact G.old q' p b h ho
 apart:=λq q' p p' b h h' ho ho'=>by
  refine Fk h ?_;clear h;intro q1 a1 h;refine Fk h' ?_;clear h';intro q2 a2 h';cases G.apart q1 q2 p p' b h h' ho ho';exact K.inj q q' q1 a1 a2
 frz:=λc hc=>G.frz c (xe hc)
 vol:=G.vol
 fz:=λa f=>by
  rcases f with f|zq
  ·exact⟨(G.fz a f).1,λo=>(G.fz a f).2 (mJ o)⟩
  ·refine fL zq ?_;clear zq;rintro q z p hz hp rfl;refine aw (K.zl q z hz) ?_;intro n hl;refine ag (G.at hl) ?_;intro p' hp' r;cases hp.symm.trans hp';refine ak r ?_;intro a zq;refine aL zq ?_;intro vs k b c;refine⟨⟨vs,k,b⟩,λo=>?_⟩;refine aL o ?_;intro q1 p1 h1 o1;refine Fk h1 ?_;intro q2 h2 h3;cases G.apart q2 q p1 p _ h3 hp o1 (.inl rfl);exact K.zf _ z q1 hz h2
theorem ER.cut(G:bP C R μ)(K:N8 C φ Z μ₂ μ){F:dP C Γ}{en en₂:En}(r:ER F R en)(k:∀q x,tg q en₂=some x->∃y,tg q en=some y∧VS C.tk φ Z x y):ER F (R.cut φ Z) en₂ where
 ns:=by
  refine ag r.ns ?_;intro m ns hold;refine⟨m,ns,λnm q x h1 h2=>?_⟩;refine ag (k q x h2) ?_;intro y h3 h4;refine(hold nm q y h1 h3).el ?_ ?_
  ·intro a v b c;exact .inl ⟨a,v,b,(VS.rel G K.zl h4).1 v c⟩
  ·intro a ca ob v b c d e;exact .inr ⟨a,ca,ob,v,b,c,d,(VS.rel G K.zl h4).1 v e⟩
 lown:=λh=>r.lown (mJ h)
 cells:=λnm ca hc=>let z:=r.cells nm ca hc;⟨λh=>z.1 (mJ h),z.2.1,λh g=>z.2.2 h (xe g)⟩
 fr:=λf hf=>by
  refine ak (r.fr f hf) ?_;intro a zq;refine x5 zq ?_;clear zq;intro L o es ep b c d e g;exact⟨a,L,o,es,ep,b,c,d,λh=>e (mJ h),g⟩
end
end
end
section
set_option compiler.extract_closed false
section
open PySem PySem.W PyProof.Rows
section
noncomputable def Pf:SQ:=.Constant .none 0 ⟨0,0,0,0⟩
noncomputable def cS(i:Nat):W8:=(cX.body[i]?).getD (.Pass ⟨0,0,0,0⟩)
noncomputable def cR:W8->SQ
 |.Assign _ e _=>e
 |_=>Pf
noncomputable def ED:SQ->SQ
 |.ListComp e _ _ _=>e
 |_=>Pf
noncomputable def oM:SQ->SQ
 |.ListComp _ [⟨t,_,_,_⟩] _ _=>t
 |_=>Pf
noncomputable def Ga:SQ->Vv
 |.ListComp _ _ s _=>s
 |_=>⟨.function,[],false,false,[]⟩
def yq(xs:KV):Y:=ao (t1 (.a .e)) (fS (Ju xs) aj (t1 .e) (bj gS (ae .e) (af (.nat 720720))) iB)
theorem GH:cS 0=.Assign [.Name "tape" PH.1] (.ListComp (ED (cR (cS 0))) [⟨oM (cR (cS 0)),N7,[],0⟩] (Ga (cR (cS 0))) PH.2.1) PH.2.2:=by kernel_rfl
section
variable{h h':UT}{prog:Vl}{w:VX}{g:Array X0}{d:Drawn}{os:OsState}{tk:Nat->KV}(O:(dw.cx h h' prog w g d os tk).Ok dw.pg)
def Po:Option {p:X×Tg×Cn // kO (dw.cx h h' prog w g d os tk) (dF cX) (oM (cR (cS 0))) N7 [] (Ga (cR (cS 0))) p.1 p.2.1 p.2.2 (kW (oM (cR (cS 0))))}:=sW (lv O 20) (oM (cR (cS 0))) N7 [] (Ga (cR (cS 0))) none λcaps Z tg test H Z=>some ⟨(caps,tg,test),H⟩
theorem Er:(Po O).map (·.1)=some (aj,t1 .e,iB):=by kernel_rfl
theorem Eh:((lv O 20).x (E0 (dF cX) (Ga (cR (cS 0))) (oM (cR (cS 0)))) (ED (cR (cS 0)))).1=bj gS (ae .e) (af (.nat 720720)):=by kernel_rfl
end
end
section
noncomputable def C9:Int->KV
 |.ofNat n=>.nat n
 |.negSucc n=>.neg n
noncomputable def iH(ns:List Int):KV:=aC (ns.map C9)
def oK:Cl:=aT bF 60
def FA:Fr:=⟨λZ Z=>false,λZ Z=>false,λZ v=>Dv (λb=>b) v⟩
def yu(C:Cx)(en:En)(s:KS)(en₂:En)(μ₂:KS):Prop:=∃φ Z,N8 C φ Z μ₂ s∧∀q x,tg q en₂=some x->∃y,tg q en=some y∧VS C.tk φ Z x y
def C0(y:Y)(T:En->KS->Prop)(en:En)(s:KS):Prop:=∃K:En->K0,(∀en s,(∃m,s.n=bD m∧∀i,m≤i->tg (bD i) s.h=none)->K en s=true->T en s)∧y oK FA K en s=true
def yp(C:Cx)(y:Y)(T:En->KS->Prop)(en:En)(s:KS):Prop:=∃en₂ μ₂,yu C en s en₂ μ₂∧C0 y T en₂ μ₂
def yA:Y:=ac NA (ac N6 (ac Ny ab))
def yB:Y:=ac PG (ac PF ab)
def yC:Y:=ac PE ab
def yD:Y:=ac PD (ac PC ab)
def yE:Y:=ac PB (ac Ky (ac Kx (ac Kw (ac Kv ab))))
def yF:Y:=ac EX (ac EW (ac EV ab))
def EQ(C:Cx):En->KS->Prop:=C0 yA (yp C yB (yp C yC (yp C yD (yp C yE (yp C yF λZ Z=>False)))))
def Ku:Prop:=∀ns:List Int,ns.length≤63->∃tk:Nat->KV,∀C:Cx,C.tk=tk->lH C∧EN C∧C0 (yq (iH (ns.take 24))) (EQ C) .nil ⟨.nil,.e⟩
end
theorem wH{C:Cx}{R:Wd}:∀{vs:List SU}{ns:List Int}(k:Nat),mf vs ns->bG C R (iH (ns.take k)) (vs.take k)
 |_,_,0,_=>by simp[iH,aC];rfl
 |_,_,k+1,.nil=>rfl
 |_,_,k+1,.cons (i:=i) h=>by
  show bG C R (.cons (C9 i) (iH _)) (_::_);refine .cons_ ?_ (wH k h);cases i with
  |ofNat n=>exact .nat_
  |negSucc n=>exact .neg_
def C6(s:SW)(v:SU)(s':SW):Prop:=v=.bool true∧OldK s.heap s'.heap∧s'.os=s.os∧s'.gens=#[]
def vJ(s:SW)(fl:UL)(s':SW):Prop:=match fl with|.ret v=>C6 s v s'|.next=>C6 s .none s'|_=>False
structure Fx(C:Cx)(s:SW)(tabs:List (Tw×Tw)):Prop where
 O:C.Ok dw.pg
 TO:ug C (d7 w0)
 H0:kO C (dF cX) (oM (cR (cS 0))) N7 [] (Ga (cR (cS 0))) aj (t1 .e) iB (kW (oM (cR (cS 0))))
 H1:bv C (E0 (dF cX) (Ga (cR (cS 0))) (oM (cR (cS 0)))) (ED (cR (cS 0))) (bj gS (ae .e) (af (.nat 720720)))
 HA:hK C (dF cX) [cS 1,cS 2,cS 3] yA
 HB:hK C (dF cX) [cS 4,cS 5] yB
 HC:hK C (dF cX) [cS 6] yC
 HD:hK C (dF cX) [cS 7,cS 8] yD
 HE:hK C (dF cX) [cS 9,cS 10,cS 11,cS 12,cS 13] yE
 HF:hK C (dF cX) [cS 14,cS 15,cS 16] yF
 hT:TabsAt tabs s.heap
 e1:C.h₀=ghostOf s.heap tabs
 e2:C.vol=tabs.map (·.2)
 p3:C.g=s.gens
 p5:C.os=s.os
 hg:s.gens=#[]
theorem AW:cX.body=cS 0::([cS 1,cS 2,cS 3]++([cS 4,cS 5]++([cS 6]++([cS 7,cS 8]++([cS 9,cS 10,cS 11,cS 12,cS 13]++([cS 14,cS 15,cS 16]++[])))))):=by kernel_rfl
section
variable{C:Cx}{s:SW}{tabs:List (Tw×Tw)}
theorem rD(X:Fx C s tabs){F:dP C (dF cX)}(P:Pt C)(fl:UL)(f:ND F FA (λZ Z=>false) P fl):vJ s fl P.s:=by
 cases fl with
 |ret v=>
  refine ag f ?_;clear f;intro u ru hu;cases u with
  |bool b=>
   cases b with
   |true=>cases ru;exact⟨rfl,Dw X.hT X.e1 X.e2 P.good,X.p5,X.p3.trans X.hg⟩
   |false=>exact aD hu
  |_=>exact aD hu
 |next=>refine ag f ?_;clear f;rintro _-hu;exact aD hu
 |brk=>refine ag f ?_;clear f;rintro _-hu;exact aD hu
 |cont=>refine ag f ?_;clear f;rintro _-hu;exact aD hu
theorem Fa{y:Y}{ss tail:List W8}(X:Fx C s tabs)(H:hK C (dF cX) ss y){F:dP C (dF cX)}(hcl:F.cl=oK){E:SU->SW->Prop}{T:En->KS->Prop}(K:∀(P:Pt C)(en:En),ER F P.R en->T en P.m->Tb (Tn C.prog C.w) F.A (execs tail F.menv) (vJ s) E P.s){P:Pt C}{en:En}(er:ER F P.R en)(hT:C0 y T en P.m):
  Tb (Tn C.prog C.w) F.A (execs (ss++tail) F.menv) (vJ s) E P.s:=by
 refine ag hT ?_;clear hT;intro k h1 h2;exact H.go (F:=F) (fr:=FA) (k:=k) (λP en er hk=>K P en er (h1 en P.m P.good.next hk)) (λP fl hn f=>rD X P fl (by cases fl<;>first|exact(hn rfl).elim|exact f)) er (by refine rwr hcl ?_;exact h2)
theorem nR{y:Y}{ss tail:List W8}(X:Fx C s tabs)(H:hK C (dF cX) ss y){F:dP C (dF cX)}(hcl:F.cl=oK){E:SU->SW->Prop}{T:En->KS->Prop}(K:∀(P:Pt C)(en:En),ER F P.R en->T en P.m->Tb (Tn C.prog C.w) F.A (execs tail F.menv) (vJ s) E P.s){P:Pt C}{en:En}(er:ER F P.R en)(hT:yp C y T en P.m):
  Tb (Tn C.prog C.w) F.A (execs (ss++tail) F.menv) (vJ s) E P.s:=by
 refine aL hT ?_;clear hT;rintro en₂ μ₂ zq2 c3;refine aL zq2 ?_;clear zq2;rintro φ Z c1 c2;exact Fa X H hcl K (P:=⟨P.R.cut φ Z,μ₂,P.t,P.good.cut c1⟩) (er.cut P.good c1 c2) c3
theorem AS(X:Fx C s tabs){F:dP C (dF cX)}(hcl:F.cl=oK){E:SU->SW->Prop}{P:Pt C}{en:En}(er:ER F P.R en)(hJ:EQ C en P.m):
  Tb (Tn C.prog C.w) F.A (execs ([cS 1,cS 2,cS 3]++([cS 4,cS 5]++([cS 6]++([cS 7,cS 8]++([cS 9,cS 10,cS 11,cS 12,cS 13]++([cS 14,cS 15,cS 16]++[])))))) F.menv) (vJ s) E P.s:=
 Fa X X.HA hcl (λP en er h=>nR X X.HB hcl (λP en er h=>nR X X.HC hcl (λP en er h=>nR X X.HD hcl (λP en er h=>nR X X.HE hcl (λP en er h=>nR X X.HF hcl (λP en er h=>h.elim) er h) er h) er h) er h) er h) er hJ
theorem DJ(sa:Tw):(("script":Str),Vk sa)∈(pn cX).zip [.ref sa]:=by refine rwr AT ?_;exact SX
theorem Rn:(dF cX).kd "tape"=some .local:=by kernel_rfl
theorem Q1:(dF cX).kd "script"=some .local:=by kernel_rfl
theorem QM:(dF cX).slot "tape"=some (.a .e):=by kernel_rfl
theorem tj(X:Fx C s tabs){F:dP C (dF cX)}(hcl:F.cl=oK){E:SU->SW->Prop}{P:Pt C}(er:ER F P.R .nil)(hm:P.m=⟨.nil,.e⟩){sa:Tw}{items:Array SU}{ns:List Int}(hns:∃m,P.R.h.Ns F.menv.locals m∧m "script"=some (.ref sa))(hL:P.R.h.IsList sa items)(hi:mf items.toList ns)(hlen:ns.length≤63)
  (hJ:C0 (yq (iH (ns.take 24))) (EQ C) .nil ⟨.nil,.e⟩):
  Tb (Tn C.prog C.w) F.A (execs cX.body F.menv) (vJ s) E P.s:=by
 refine rwr AW ?_;refine ag hJ ?_;intro k k1 k2;refine Wg ?_;refine rwr GH ?_;refine ue (fr:=FA) (k:=k) X.H0 (GR X.O F Q1 (by decide) hns hL ?_ (wH 24 hi)) n8 (n6 X.H1) oH QM Rn er ?_ λP1 fl L f=>?_
 ·have:=hi.length;rw[T4]at this;lia
 ·refine rwr hm (rwr hcl ?_);exact k2
 ·cases fl with
  |next=>refine ag f ?_;intro yI R1 h1;exact AS X hcl R1 (k1 yI P1.m P1.good.next h1)
  |ret v=>exact rD (F:=F) X P1 (.ret v) f
  |brk=>exact rD (F:=F) X P1 .brk f
  |cont=>exact rD (F:=F) X P1 .cont f
theorem AV(X:Fx C s tabs){a:Tw}{y:Y}{ob:Obj}{fd:X1}{dv:List SU}(hsc:fd.scope=cX.sc)(FO:yt C a (pn cX).length cX.ds y ob fd cX.body dv (pn cX) (nk cX))(p4:C.d=s.drawn){sa:Tw}{items:Array SU}{ns:List Int}(hL:s.heap.IsList sa items)(hi:mf items.toList ns)(hlen:ns.length≤63)
  (hJ:C0 (yq (iH (ns.take 24))) (EQ C) .nil ⟨.nil,.e⟩):
  codeAny (Tn C.prog C.w) callerA (.call (.ref a) ⟨[.ref sa],[]⟩) (jD (C6 s) λZ Z=>False) s:=by
 have calls:Le C oK 60:=BO X.O X.TO 60;have G0:bP C ⟨λZ=>none,s.heap,λZ=>False⟩ ⟨.nil,.e⟩:=Mt (λb o e=>by rw[X.e1]at e;exact of_hideAll _ e) (λP hP=>by rw[X.e2]at hP;refine rO hP ?_;clear hP;rintro x hx rfl;exact(X.hT x hx).2);have es:(⟨⟨λZ=>none,s.heap,λZ=>False⟩,⟨.nil,.e⟩,s.toks,G0⟩:Pt C).s=s:=by
  show(⟨s.heap,C.g,C.d,s.toks,C.os⟩:SW)=s;exact rwr X.p3 (rwr p4 (rwr X.p5 rfl))
 have key:=Bb (E:=λZ Z=>False) (Q:=C6 s) (A:=callerA) (fr:=[]) (vs:=[.ref sa]) (d:=60) (P:=⟨⟨λZ=>none,s.heap,λZ=>False⟩,⟨.nil,.e⟩,s.toks,G0⟩) X.O FO calls (by refine rwr AT ?_;rfl)
  ⟨⟨by decide+kernel,by decide+kernel,rfl,rfl,rfl⟩,λf hf=>absurd hf Tz⟩ ?_
 ·rw[es]at key;exact key
 refine rwr hsc ?_;exact λF P1 E hcl hm kp1 er hns=>tj X hcl er hm (by refine ag (hns) ?_;intro m a b;exact⟨m,a,b _ _ (DJ sa) Q1⟩) (by refine ag (hL) ?_;intro o a b;exact⟨o,kp1 _ _ a,b⟩) hi hlen hJ
end
section
variable{h h':UT}{prog:Vl}{w:VX}{g:Array X0}{d:Drawn}{os:OsState}{tk:Nat->KV}(O:(dw.cx h h' prog w g d os tk).Ok dw.pg)
include O
theorem LZ{i:Nat}{y:Y}(e:(Fo O (lv O 20) (v5 dw.lm) 20 (dF cX) (cS i)).1=(y,[])):du (dw.cx h h' prog w g d os tk) (dF cX) (cS i) y:=by
 have z:=(Fo O (lv O 20) (v5 dw.lm) 20 (dF cX) (cS i)).2;rw[e]at z;exact z λr hr=>absurd hr Tz
theorem Jf:kO (dw.cx h h' prog w g d os tk) (dF cX) (oM (cR (cS 0))) N7 [] (Ga (cR (cS 0))) aj (t1 .e) iB (kW (oM (cR (cS 0)))):=by
 refine xT (Er O) ?_;rintro p-e;have z:=p.2;rw[e]at z;exact z
theorem Ji(T:lH (dw.cx h h' prog w g d os tk))(ck:Tx.Ck dw h)(hv:dw.views h=dw.due)(kp:bB h h'):ug (dw.cx h h' prog w g d os tk) (d7 w0):=by
 have TO:=Tx.tabX (y1:=FW) (y2:=FV) ck kp hv O (λnd hm=>?_) DO (λr hr=>Wy.mp (xW O) r hr)
 ·rw[DK]at TO;exact TO
 ·rw[Jd]at hm;have other:nd∈(dw.names.zip dw.dfs).take 45++(dw.names.zip dw.dfs).drop 46->fu (dw.cx h h' prog w g d os tk) (dF nd.2) FW FV ((y7 (dw.ov nd.1)).1 nd.2.body):=λhm=>by
   have z:=bc (TP.mp DM nd hm);have e:dw.ov nd.1=.k:=by show Ol nd.1=_;unfold Ol;refine rwr z ?_;rfl
   refine rwr e ?_;exact λx hx=>absurd hx Tz
  rcases UC.mp hm with hm|hm
  ·exact other (UI _ hm)
  ·rcases T8.mp hm with rfl|hm
   ·have e:(y7 (dw.ov (some ("LRGeneratedTable":Str),("lr_parse_table":Str)))).1 FY.body=[(true,sH 0),(false,sH 1)]:=DN;refine rwr e ?_;intro x hx;rcases T8.mp hx with rfl|hx
    ·have z:=(Fo O (lv O 20) (v5 dw.lm) 20 (dF FY) (sH 0)).2;rw[Jh]at z;exact zQ T (z λr hr=>absurd hr Tz)
    ·rcases T8.mp hx with rfl|hx
     ·have z:=(Fo O (lv O 20) (v5 dw.lm) 20 (dF FY) (sH 1)).2;rw[Jg]at z;exact zO T (by decide) (z λr hr=>absurd hr Tz)
     ·exact absurd hx Tz
   ·exact other (TU _ hm)
theorem J9:(UE 16).map (λi=>(Fo O (lv O 20) (v5 dw.lm) 20 (dF cX) (cS (i+1))).1)=[(NA,[]),(N6,[]),(Ny,[]),(PG,[]),(PF,[]),(PE,[]),(PD,[]),(PC,[]),(PB,[]),(Ky,[]),(Kx,[]),(Kw,[]),(Kv,[]),(EX,[]),(EW,[]),(EV,[])]:=by kernel_rfl
theorem fT{i:Nat}{y:Y}(e:[(NA,([]:List LQ)),(N6,[]),(Ny,[]),(PG,[]),(PF,[]),(PE,[]),(PD,[]),(PC,[]),(PB,[]),(Ky,[]),(Kx,[]),(Kw,[]),(Kv,[]),(EX,[]),(EW,[]),(EV,[])][i]?=some (y,[])):du (dw.cx h h' prog w g d os tk) (dF cX) (cS (i+1)) y:=LZ O (by
 rw[←J9 O,Tr]at e;refine xT e ?_;intro j hj hy;refine aw (To.mp hj) ?_;intro hl hk;rw[List.getElem_range]at hk;exact hk▸hy)
theorem Jj(ck:Tx.Ck dw h)(hv:dw.views h=dw.due)(kp:bB h h'):∃ob fd dv,fd.scope=cX.sc∧yt (dw.cx h h' prog w g d os tk) (gH h "law") (pn cX).length cX.ds (lE O (v5 dw.lm) (dF cX) FW FV .k cX.body).1 ob fd cX.body dv (pn cX) (nk cX):=
 wR O (v5 dw.lm) FW FV (Tx.headX ck kp hv Je) AU (λx hx=>absurd hx Tz) (by refine rwr (Jc O) ?_;exact λr hr=>absurd hr Tz)
end
theorem DL(J:Ku)(w:VX)(h:UT)(s:SW)(sa:Tw)(items:Array SU)(ns:List Int)(ck:Tx.Ck dw h)(hv:dw.views h=dw.due)(kp:bB h s.heap)(hL:s.heap.IsList sa items)(hi:mf items.toList ns)(hlen:ns.length≤63)(hg:s.gens=#[]):
  codeAny (Tn pc w) callerA (.call (.ref (gH h "law")) ⟨[.ref sa],[]⟩) (jD (C6 s) λZ Z=>False) s:=by
 refine aw (J ns hlen) ?_;intro tk hJ;refine bf (hJ (dw.cx h s.heap pc w s.gens s.drawn s.os tk) rfl) ?_;intro T0 T1 hJ;have O:(dw.cx h s.heap pc w s.gens s.drawn s.os tk).Ok dw.pg:=Tx.okX ck kp T1;refine eS (Jj O ck hv kp) ?_;intro ob fd dv hsc FO;refine AV (C:=dw.cx h s.heap pc w s.gens s.drawn s.os tk) (tabs:=dw.tabs h) ⟨O,Ji O T0 ck hv kp,Jf O,Eh O▸((lv O 20).x (E0 (dF cX) (Ga (cR (cS 0))) (oM (cR (cS 0)))) (ED (cR (cS 0)))).2,?_,?_,?_,?_,?_,?_,Tx.tabsUp ck kp,rfl,rfl,rfl,rfl,hg⟩ hsc FO rfl hL hi hlen hJ
 ·exact .cons (fT O (i:=0) rfl) (.cons (fT O (i:=1) rfl) (.cons (fT O (i:=2) rfl) .nil))
 ·exact .cons (fT O (i:=3) rfl) (.cons (fT O (i:=4) rfl) .nil)
 ·exact .cons (fT O (i:=5) rfl) .nil
 ·exact .cons (fT O (i:=6) rfl) (.cons (fT O (i:=7) rfl) .nil)
 ·exact .cons (fT O (i:=8) rfl) (.cons (fT O (i:=9) rfl) (.cons (fT O (i:=10) rfl) (.cons (fT O (i:=11) rfl) (.cons (fT O (i:=12) rfl) .nil))))
 ·exact .cons (fT O (i:=13) rfl) (.cons (fT O (i:=14) rfl) (.cons (fT O (i:=15) rfl) .nil))
end
end
section
set_option compiler.extract_closed false
section
open PySem PySem.W PyProof.Rows
section
noncomputable def fc(l:List Nat):List KV:=l.map KV.nat
noncomputable def xb:Int->Nat
 |.ofNat n=>n%720720
 |.negSucc n=>720720-(n%720720).succ
noncomputable def jE:List KV:=[mN,lC,lD]
noncomputable def two(a b:KV):KV:=.cons a (.cons b .nil)
noncomputable def Nv:KD->KD->KD
 |.nil,d=>d
 |.cons a b r,d=>.cons a b (Nv r d)
noncomputable def aK(l:List KV):KO:=.list l.length (aC l)
end
section
variable{c:Cl}{e e':En}{s s' s'' s0:KS}{x y:X}{v w:KV}{q q' p:Pa}{l:List KV}{b:Bool}
theorem uV{p q:Pa}(h:SS (aY p) (aY q)=false):p≠q:=λz=>by subst z;rw[UX]at h;exact aD h.symm
theorem j3{vs:KV}(hx:Ev c x e s vs s')(hn:len vs≤100000):Ev c (p7 x) e s (.fl vs) s':=λk h=>hx _ (by show az (T3 (len vs) 100000) _ _=true;refine rwr (SY hn) ?_;exact h)
theorem wT{i:X}{m:Nat}{xs:KV}(hx:Ev c x e s (.fl xs) s')(hi:Ev c i e s' (.nat m) s'')(hm:ng m xs=some v):Ev c (av x i) e s v s'':=λk h=>hx _ (hi _ (by show ci (ng m xs) _ _=true;refine rwr hm ?_;exact h))
theorem uA{n:Nat}(hx:Ev c x e s (.nat n) s'):Tc c (cT x) e s (!SS n 0) s':=Gz hx λt f h=>by
 show az (SS n 0) _ _=true;cases z:SS n 0<;>rw[z]at h<;>exact h
theorem NK{m:Nat}(h:m<3):ng m (aC jE)=some (jE.getD m .none):=by
 rw[f9];exact iR (P:=λm=>(jE[m]?:Option KV)=some (jE.getD m .none)) rfl rfl rfl h
theorem ze(h:Ev c x e s (.bool b) s'):Tc c (cT x) e s b s':=Gz h λt f k=>k
theorem Gx{a m:Nat}(hx:Ev c x e s (.nat a) s')(hy:Ev c y e s' (.nat m) s''):Tc c (aA pj x y) e s (!SS a m) s'':=λt f k=>hU hx hy f t (by cases h:SS a m<;>rw[h]at k<;>exact k)
theorem gy(kp:∀q o,tg q s0.h=some o->tg q s.h=some o)(wf:Wf s):tg s.n s0.h=none:=by
 cases h:tg s.n s0.h with
 |none=>rfl
 |some o=>have:=kp _ _ h;rw[wf.fresh]at this;exact dh this
theorem uB{n:Nat}{es:KD}(hx:Ev c x e s v s')(hy:Ev c y e s' (.ref q) s'')(hq:tg q s''.h=some (.dict n es))(hv:pk v=true):Tc c (aA jU x y) e s (dl es v).isSome s'':=λt f k=>hx _ (hy _ (bH hq (by
 show az (pk v) false (cC es v (f s'') (λzz=>t s''))=true;rw[hv];show cC es v _ _=true;unfold cC;cases h:dl es v<;>rw[h]at k<;>exact k)))
theorem G1{t:Tg}{elt:X}{test:Cn}{k:KS->KV->Bool}{n:Nat}{it:KI}{acc:KV}(h:Nz s it)(hk:k s (uR acc .nil)=true):Ce t elt test c k (n+1) it e acc s=true:=(h (k s (uR acc .nil)) _).trans hk
theorem G2{t:Tg}{elt:X}{test:Cn}{k:KS->KV->Bool}{n:Nat}{it it':KI}{acc:KV}(h:Nx s it v it')(hh:t v e (λe=>test c e (λs=>elt c e (λs w=>Ce t elt test c k n it' e (.cons w acc) s) s) (λs=>Ce t elt test c k n it' e acc s) s)=true):Ce t elt test c k (n+1) it e acc s=true:=(h (k s (uR acc .nil)) _).trans hh
theorem Al{d:Cn}{a b:Y}(hd:Tc c d e s false s')(hb:Rt c b e s' v s''):Rt c (bE d a b) e s v s'':=λF k h=>hd _ _ (hb _ _ h)
theorem ta(l:List KV)(a:KV):aK (l++[a])=.list (l.length+1) (aC (l++[a])):=by unfold aK;refine rwr Td ?_;rfl
theorem kY(ho:Ev c x e s (.ref q) s)(hx:Ev c y e s w s)(hq:tg q s.h=some (aK l))(hl:l.length≤5000):St c (aX (dy x y)) e s e (bV s q (aK (l++[w]))):=by
 have:=JK ho hq hx hq (SV (TY hl) (by decide));rw[ta,←gY];exact CC this
theorem tP{a:KV}(ho:Ev c x e s (.ref q) s)(hq:tg q s.h=some (aK (l++[a]))):Ev c (av x (eC (af (.nat 1)))) e s a s:=by
 rw[ta]at hq;exact Bg (m:=0) ho (λk h=>h) hq (TB 1 _) (by rw[f9];simp)
theorem JF{e:En}{x:X}{m:Nat}(h:Ev c x e s (.neg m) s):Ev c (eC x) e s (.nat (m+1)) s:=λk q=>h _ q
theorem zb{c:Cl}{e:En}{a d:Cn}(h:Tc c a e s true s'):Tc c (rJ a d) e s true s':=λt f q=>h _ _ q
theorem qe{a b:Nat}(h:b≤a):T3 (a+1) b=false:=by cases e:T3 (a+1) b with|false=>rfl|true=>exact absurd (SP e) (WL (Nat.lt_succ_of_le h))
theorem cm(v:KV)(t:T KV):tv (pv v t)=some v:=by cases t<;>rfl
end
end
end
section
set_option compiler.extract_closed false
section
inductive Op where|p|q|r
inductive Si where|a|s|o (x:Op)
inductive Ru where|a|k|b (x:Op)|f (x:Op)|h (x:Op)
inductive Xo where|o|k|b (x:Op)|f (x:Op)
inductive Qs where|A|S|H (x:Op)|c (x:Xo)|g (x:Xo)
inductive Ch where|sh|rd|no
inductive Ac where|no|sh (q:Qs)|rd (r:Ru)|ok
inductive As where|no|sh (q:Qs)|rd (r:Ru)|ok|cf (r:Ru) (x:Op) (q:Qs)
structure Sh where
 bt:Op->Bool
 fr:Op->Bool
 bh:Op->Bool
 br:Bool
structure Pm where
 S:Sh
 nu:Ru->Nat
 ch:Ru->Op->Ch
section
noncomputable def Ac.of(c:Ch)(q:Qs)(r:Ru):Ac:=match c with|.sh=>.sh q|.rd=>.rd r|.no=>.no
noncomputable def As.to(ch:Ru->Op->Ch)(a:As):Ac:=match a with|.no=>.no|.sh q=>.sh q|.rd r=>.rd r|.ok=>.ok|.cf r x q=>.of (ch r x) q r
noncomputable def Op.isR(x:Op):Bool:=match x with|.r=>true|_=>false
noncomputable def Xo.ru(x:Xo):Option Ru:=match x with|.b y=>some (.b y)|.f y=>some (.f y)|_=>none
noncomputable def Sh.us(P:Sh)(x:Op):Bool:=P.bt x||P.bh x
noncomputable def Sh.fo(P:Sh)(m:Option Si):Bool:=match m with|none=>true|some .a=>false|some .s=>P.br|some (.o x)=>P.us x
noncomputable def Sh.tg(P:Sh)(x:Op):Qs:=bif P.bh x then .H x else .c (.b x)
noncomputable def Sh.op(P:Sh)(m:Option Si):Bool:=match m with|some .a=>true|some (.o x)=>bif x.isR&&P.br then true else P.fr x|_=>false
noncomputable def Sh.as(P:Sh)(q:Qs)(m:Option Si):As:=match q with
 |.A=>bif P.fo m then .rd .a else .no
 |.S=>bif P.fo m then .rd .k else .no
 |.H x=>bif P.fo m then .rd (.h x)else .no
 |.c _=>match m with
  |some .a=>.sh .A
  |some (.o x)=>bif x.isR&&P.br then .sh (.c .k)else bif P.fr x then .sh (.c (.f x))else .no
  |_=>.no
 |.g x=>match m with
  |none=>match x with|.o=>.ok|.k=>.no|.b y=>.rd (.b y)|.f y=>.rd (.f y)
  |some .a=>.no
  |some .s=>bif P.br then(match x with|.o=>.no|.k=>.sh .S|.b y=>.rd (.b y)|.f y=>.rd (.f y))else .no
  |some (.o z)=>bif P.us z then(match x with|.b y=>.cf (.b y) z (P.tg z)|.f y=>.cf (.f y) z (P.tg z)|_=>.sh (P.tg z))else .no
noncomputable def Pm.act(P:Pm)(q:Qs)(m:Option Si):Ac:=(P.S.as q m).to P.ch
noncomputable def Pm.cho(P:Pm)(r:Option Ru)(x:Op):Ch:=match r with|none=>.sh|some r=>P.ch r x
noncomputable def Ru.len(r:Ru):Nat:=match r with|.a=>1|.k=>3|.b _=>3|_=>2
noncomputable def Pm.tr(P:Pm)(r:Ru)(ks:List KV):KV:=two (.nat (P.nu r)) (.fl (aC ks))
noncomputable def KU(q:Qs):Bool:=match q with|.g _=>false|_=>true
noncomputable def tc(st:List (Qs×KV)):Nat:=st.countP λx=>KU x.1
inductive yL(P:Pm)(w:List Si):Nat->List (Qs×KV)->Nat->KV->Prop
 |dead {q v st pl}:P.act q w[pl]?=.no->yL P w 0 ((q,v)::st) pl (two .none (.nat pl))
 |ok {t pl}:P.act (.g .o) w[pl]?=.ok->yL P w 0 [(.g .o,t),(.c .o,.none)] pl (two t .none)
 |sh {n q q' v st pl r}:P.act q w[pl]?=.sh q'->yL P w n ((q',.nat pl)::(q,v)::st) (pl+1) r->yL P w (n+1) ((q,v)::st) pl r
 |rd {n q v k x u ks st pl r}:P.act q w[pl]?=.rd k->((q,v)::ks).length=k.len->1≤tc ((q,v)::ks)->yL P w n ((.g x,P.tr k (((q,v)::ks).reverse.map (·.2)))::(.c x,u)::st) pl r->yL P w (n+1) ((q,v)::(ks++(.c x,u)::st)) pl r
inductive ET where|bad (z:Nat)|ok (t:KV) (z:Nat)
inductive RR where|d (pl:Nat) (r:Option Ru)|l (t:KV) (pl:Nat) (r:Option Ru)
def uh(P:Pm)(w:List Si)(r:Option Ru)(z:Nat):Prop:=w[z]?=none∨(w[z]?=some .s∧P.S.br=true)∨∃x,w[z]?=some (.o x)∧P.S.us x=true∧P.cho r x=.rd
def gr(P:Pm)(w:List Si)(τ:List (Qs×KV))(pl:Nat)(r:KV):Prop:=∃n,yL P w n τ pl r
def Lb(P:Pm)(w:List Si)(τ:List (Qs×KV))(pl:Nat)(x:Xo)(v:KV)(σ:List (Qs×KV))(o:ET):Prop:=match o with
 |.bad z=>gr P w τ pl (two .none (.nat z))
 |.ok t z=>∀r,gr P w ((.g x,t)::(.c x,v)::σ) z r->gr P w τ pl r
def Dp(a z:Nat)(t:KV):Prop:=∀k,z≤k+a->fM t (2*k+2)=true
def Cm(a z:Nat)(t:KV):Prop:=(∀m,fM t m=true)∨∃b c,Dp b c t∧c+(a+1)≤z+b
end
theorem iU{w:List Si}{n:Nat}{x:Si}(h:w[n]?=some x):n<w.length:=(To.mp h).1
theorem yg:∀{x:KV}{n m:Nat},n≤m->fM x n=true->fM x m=true:=by
 intro x;induction x with
 |nil=>intro n m l h;exact SY (SV (SP h) l)
 |cons x r i1 i2=>
  intro n m l h;refine jO h ?_;rintro k rfl h1 h2;cases m with
  |zero=>cases l
  |succ m=>exact aO.mpr ⟨i1 (Vj l) h1,i2 l h2⟩
 |fl x ih=>
  intro n m l h;cases n with
  |zero=>exact aD h
  |succ n=>
   cases m with
   |zero=>cases l
   |succ m=>exact ih l h
 |ref=>intro n m l h;exact aD h
 |tok=>intro n m l h;exact aD h
 |_=>intro n m l h;rfl
theorem G7{k:Nat}:∀{ks:List KV},(∀x∈ks,fM x k=true)->fM (aC ks) (k+1)=true
 |[],_=>rfl
 |x::r,h=>aO.mpr ⟨h x SX,G7 λy hy=>h y (T5 _ hy)⟩
theorem Fg{a b:Bool}{G:Prop}(h:(a||b)=true)(k1:a=true->G)(k2:b=true->G):G:=by cases a with|true=>exact k1 rfl|false=>exact k2 h
section
variable{P:Pm}{w:List Si}
noncomputable def OK(a:Ac):Bool:=match a with|.sh _=>true|_=>false
theorem EM{q q':Qs}(a:P.act q none=.sh q'):False:=by
 have h:OK (P.act q none)=false:=by
  cases q with
  |g x=>cases x<;>rfl
  |_=>rfl
 rw[a]at h;exact qd h
theorem RO{n p T T' l:Nat}(h1:n+2*(p+1)≤2*l+T')(h2:T'≤T+1):n+1+2*p≤2*l+T:=by omega
theorem RN{n p A B l:Nat}(h1:n+p≤l+B)(h2:1≤A):n+1+p≤l+(A+B):=by omega
theorem NR(y:Qs×KV)(st:List (Qs×KV)):tc (y::st)≤tc st+1:=by
 unfold tc;refine rwr List.countP_cons ?_;cases KU y.1 with
 |true=>exact TA _
 |false=>exact U8 _
theorem yL.bound{n:Nat}{st:List (Qs×KV)}{pl:Nat}{r:KV}(h:yL P w n st pl r)(hp:pl≤w.length):n+2*pl≤2*w.length+tc st:=by
 induction h with
 |dead=>rw[Vm];exact SV (Wj 2 hp) (TC _ _)
 |ok=>rw[Vm];exact SV (Wj 2 hp) (TC _ _)
 |@sh n q q' v st pl r a _ ih=>
  have lt:pl<w.length:=WM λz=>by rw[Ud z]at a;exact EM a
  have h1:=ih lt;exact RO h1 (NR (q',.nat pl) ((q,v)::st))
 |@rd n q v k x u ks st pl r a l t _ ih=>
  have h1:=ih hp;have e:tc ((.g x,P.tr k (((q,v)::ks).reverse.map (·.2)))::(.c x,u)::st)=tc ((.c x,u)::st):=rfl;have e2:tc ((q,v)::(ks++(.c x,u)::st))=tc ((q,v)::ks)+tc ((.c x,u)::st):=by unfold tc;rw[←List.cons_append,List.countP_append]
  rw[e]at h1;rw[e2];exact RN h1 t
theorem gr.sh{q q':Qs}{v:KV}{st:List (Qs×KV)}{pl:Nat}{r:KV}(a:P.act q w[pl]?=.sh q')(h:gr P w ((q',.nat pl)::(q,v)::st) (pl+1) r):gr P w ((q,v)::st) pl r:=h.elim λn h=>⟨n+1,.sh a h⟩
theorem gr.rd{q:Qs}{v:KV}{ks:List (Qs×KV)}{k:Ru}{x:Xo}{u:KV}{st:List (Qs×KV)}{pl:Nat}{r:KV}(a:P.act q w[pl]?=.rd k)(l:((q,v)::ks).length=k.len)(t:1≤tc ((q,v)::ks))(h:gr P w ((.g x,P.tr k (((q,v)::ks).reverse.map (·.2)))::(.c x,u)::st) pl r):gr P w ((q,v)::(ks++(.c x,u)::st)) pl r:=h.elim λn h=>⟨n+1,.rd a l t h⟩
theorem gr.dead{q:Qs}{v:KV}{st:List (Qs×KV)}{pl:Nat}(a:P.act q w[pl]?=.no):gr P w ((q,v)::st) pl (two .none (.nat pl)):=⟨0,.dead a⟩
structure Lc(P:Pm)(w:List Si)(τ:List (Qs×KV))(x:Xo)(t v:KV)(σ:List (Qs×KV))(pl:Nat):Prop where
 go:P.S.fo w[pl]?=true->∀r,gr P w ((.g x,t)::(.c x,v)::σ) pl r->gr P w τ pl r
 no:P.S.fo w[pl]?=false->gr P w τ pl (two .none (.nat pl))
theorem Lb.back{τ τ':List (Qs×KV)}{pl pl':Nat}{x:Xo}{v:KV}{σ:List (Qs×KV)}{o:ET}(f:∀r,gr P w τ' pl' r->gr P w τ pl r)(h:Lb P w τ' pl' x v σ o):Lb P w τ pl x v σ o:=by
 cases o with
 |bad z=>exact f _ h
 |ok t z=>exact λr k=>f _ (h r k)
theorem uh.fo{r:Option Ru}{z:Nat}(h:uh P w r z):P.S.fo w[z]?=true:=by
 rcases h with h|⟨h,k⟩|⟨x,h,k,_⟩<;>refine rwr h ?_
 ·rfl
 ·exact k
 ·exact k
theorem BY{x:Xo}{y:Op}{z:Nat}(h:w[z]?=some (.o y))(k:P.S.us y=true):P.act (.g x) w[z]?=.of (P.cho x.ru y) (P.S.tg y) ((x.ru).getD .a):=by
 refine rwr h ?_;show As.to P.ch (bif P.S.us y then _ else _)=_;refine rwr k ?_;cases x<;>rfl
theorem uh.rd{x:Xo}{r:Ru}{z:Nat}(hx:x.ru=some r)(h:uh P w (some r) z):P.act (.g x) w[z]?=.rd r:=by
 rcases h with h|⟨h,k⟩|⟨y,h,k,l⟩
 ·refine rwr h ?_;cases x<;>cases hx<;>rfl
 ·refine rwr h ?_;show As.to P.ch (bif P.S.br then _ else _)=_;refine rwr k ?_;cases x<;>cases hx<;>rfl
 ·rw[BY h k,hx,l];rfl
theorem NS{q:Qs}{v:KV}{ks:List (Qs×KV)}(h:KU q=true):1≤tc ((q,v)::ks):=by
 have:tc ((q,v)::ks)=tc ks+1:=List.countP_cons_of_pos (p:=λx:Qs×KV=>KU x.1) h;simp_all+arith
theorem PM{q p:Qs}{v u:KV}{ks:List (Qs×KV)}(h:KU p=true):1≤tc ((q,v)::(p,u)::ks):=by
 have e:tc ((p,u)::ks)=tc ks+1:=List.countP_cons_of_pos (p:=λx:Qs×KV=>KU x.1) h;have:tc ((q,v)::(p,u)::ks)=tc ((p,u)::ks)+_:=List.countP_cons;simp_all+arith
theorem FB{q:Qs}{k:Ru}(a:∀m,P.S.as q m=bif P.S.fo m then .rd k else .no)(m:Option Si):P.act q m=bif P.S.fo m then .rd k else .no:=by
 unfold Pm.act;rw[a];cases P.S.fo m<;>rfl
theorem uT{q:Qs}{k:Ru}{v u:KV}{ks:List (Qs×KV)}{x:Xo}{σ:List (Qs×KV)}{pl:Nat}(a:∀m,P.S.as q m=bif P.S.fo m then .rd k else .no)(l:((q,v)::ks).length=k.len)(t:1≤tc ((q,v)::ks)):Lc P w ((q,v)::(ks++(.c x,u)::σ)) x (P.tr k (((q,v)::ks).reverse.map (·.2))) u σ pl where
 go:=λh r e=>.rd (by rw[FB a,h];rfl) l t e
 no:=λh=>.dead (by rw[FB a,h];rfl)
theorem Ay{k:Ru}{y:Xo}{v u:KV}{ks:List (Qs×KV)}{x:Xo}{σ:List (Qs×KV)}{pl:Nat}(hx:y.ru=some k)(h:uh P w (some k) pl)(l:((Qs.g y,v)::ks).length=k.len)(t:1≤tc ((Qs.g y,v)::ks)):Lc P w ((.g y,v)::(ks++(.c x,u)::σ)) x (P.tr k (((Qs.g y,v)::ks).reverse.map (·.2))) u σ pl where
 go:=λzz r e=>.rd (h.rd hx) l t e
 no:=λz=>by rw[h.fo]at z;exact qd z
theorem G6{r:Ru}{k:Nat}{ks:List KV}(h:∀x∈ks,fM x k=true):fM (P.tr r ks) (k+2)=true:=by
 show az true false (az (fM (aC ks) (k+1)) false true)=true;refine rwr (G7 h) ?_;rfl
theorem RM{A B C Z J:Nat}(h:C+(A+1)≤Z+B)(k:Z≤J+1+A):C≤J+B:=by omega
theorem RK{A Z:Nat}:∀{k:Nat},A+1≤Z->Z≤k+A->∃j,k=j+1
 |0,h1,h=>absurd (SV h1 h) (by rw[Vm];exact Nat.not_succ_le_self A)
 |k+1,_,_=>⟨k,rfl⟩
theorem RJ{P Z A:Nat}(h:P+1≤Z):P+(A+1)≤Z+A:=by omega
theorem Dp.node{a z:Nat}{r:Ru}{ks:List KV}(h1:a+1≤z)(h:∀x∈ks,Cm a z x):Dp a z (P.tr r ks):=λk hk=>by
 refine aw (RK h1 hk) ?_;clear h1;rintro j rfl;exact G6 (k:=2*j+2) λx hx=>(h x hx).elim (λh=>h _) λ⟨b,c,h3,h4⟩=>h3 j (RM h4 hk)
theorem Mk{a z n:Nat}:Cm a z (.nat n):=.inl λzz=>rfl
theorem o5{a z n:Nat}{ks:List KV}(h:∀x∈ks,Cm a z x):∀x∈KV.nat n::ks,Cm a z x:=λx hx=>(T8.mp hx).elim (λe=>e▸Mk) (h x)
theorem o6{a z:Nat}{y:KV}{ks:List KV}(k:Cm a z y)(h:∀x∈ks,Cm a z x):∀x∈y::ks,Cm a z x:=λx hx=>(T8.mp hx).elim (λe=>e▸k) (h x)
theorem re{a z:Nat}:∀x∈([]:List KV),Cm a z x:=λx hx=>absurd hx Tz
def Dr(P:Pm)(w:List Si)(s:RR)(o:ET):Prop:=match s with
 |.d pl r=>(∀x v σ,x.ru=r->Lb P w ((.c x,v)::σ) pl x v σ o)∧∀t z,o=.ok t z->uh P w r z∧pl<z∧z≤w.length∧Dp pl z t
 |.l t0 pl r=>(∀x v σ τ,x.ru=r->Lc P w τ x t0 v σ pl->Lb P w τ pl x v σ o)∧∀t z,o=.ok t z->pl≤w.length->uh P w r z∧pl≤z∧z≤w.length∧∀a,a≤pl->Dp a pl t0->Dp a z t
section
variable{pl q z:Nat}{r:Option Ru}{o:ET}{t b c:KV}{y:Op}
theorem Dr.stop(h:Dr P w (.d pl r) (.ok t z)):uh P w r z:=(h.2 t z rfl).1
theorem Dr.mo(h:Dr P w (.d pl r) (.ok t z)):pl<z∧z≤w.length∧Dp pl z t:=(h.2 t z rfl).2
theorem Dr.nd(h:∀x v σ,x.ru=r->gr P w ((.c x,v)::σ) pl (two .none (.nat z))):Dr P w (.d pl r) (.bad z):=⟨h,λt z e=>ET.noConfusion e⟩
theorem Dr.vd{pl':Nat}(h:Dr P w (.l t pl' r) o)(h1:pl<pl')(h2:pl'≤w.length)(d:Dp pl pl' t)(f:∀x v σ,∃τ,Lc P w τ x t v σ pl'∧∀rr,gr P w τ pl' rr->gr P w ((.c x,v)::σ) pl rr):Dr P w (.d pl r) o:=
 ⟨λx v σ hx=>(f x v σ).elim λτ ⟨p,g⟩=>.back g (h.1 x v σ τ hx p),λt z e=>let⟨s,a,b,c⟩:=h.2 t z e h2;⟨s,UW h1 a,b,c pl (V9 h1) d⟩⟩
theorem Dr.nl(h:∀x v σ τ,x.ru=r->Lc P w τ x t v σ pl->gr P w τ pl (two .none (.nat z))):Dr P w (.l t pl r) (.bad z):=⟨h,λt z e=>ET.noConfusion e⟩
theorem Dr.vl{pl':Nat}{t':KV}(h:Dr P w (.l t' pl' r) o)(h1:pl≤pl')(h2:pl'≤w.length)(d:∀a,a≤pl->Dp a pl t->Dp a pl' t')(hf:P.S.fo w[pl]?=true)(f:∀x v σ,x.ru=r->∃τ,Lc P w τ x t' v σ pl'∧∀rr,gr P w τ pl' rr->gr P w ((.g x,t)::(.c x,v)::σ) pl rr):Dr P w (.l t pl r) o:=
 ⟨λx v σ τ hx p=>(f x v σ hx).elim λτ' ⟨p',g⟩=>.back (λr e=>p.go hf _ (g r e)) (h.1 x v σ τ' hx p'),λt z e Z=>let⟨s,a,b,c⟩:=h.2 t z e h2;⟨s,SV h1 a,b,λa' l k=>c a' (SV l h1) (d a' l k)⟩⟩
theorem Dr.dx(h:P.S.op w[pl]?=false):Dr P w (.d pl r) (.bad pl):=.nd λx v σ Z=>.dead (by
 cases e:w[pl]? with
 |none=>rfl
 |some m=>
  rw[e]at h;cases m with
  |a=>exact qd h
  |s=>rfl
  |o y=>
   have h:(bif y.isR&&P.S.br then true else P.S.fr y)=false:=h;show As.to P.ch (bif y.isR&&P.S.br then .sh (.c .k)else bif P.S.fr y then .sh (.c (.f y))else .no)=_;cases l:(y.isR&&P.S.br)with
   |true=>rw[l]at h;exact qd h
   |false=>rw[l]at h;rw[show P.S.fr y=false from h];rfl)
theorem Ek:Dp pl (pl+1) (P.tr .a [.nat pl]):=λk Z=>G6 (k:=2*k) λx hx=>by cases U9.mp hx;rfl
theorem Dr.da(h:w[pl]?=some .a)(k:Dr P w (.l (P.tr .a [.nat pl]) (pl+1) r) o):Dr P w (.d pl r) o:=k.vd (Ut _) (iU h) Ek λx v σ=>⟨_,uT (q:=.A) (k:=.a) (ks:=[]) (λm=>rfl) rfl (NS rfl),λr=>.sh (by refine rwr h ?_;rfl)⟩
theorem BZ{x:Xo}(h:w[pl]?=some (.o .r))(k:P.S.br=true):P.act (.c x) w[pl]?=.sh (.c .k):=by
 refine rwr h ?_;show As.to P.ch (bif P.S.br then .sh (.c .k)else _)=_;refine rwr k ?_;rfl
theorem Dr.kb(h:w[pl]?=some (.o .r))(k:P.S.br=true)(d:Dr P w (.d (pl+1) none) (.bad z)):Dr P w (.d pl r) (.bad z):=.nd λx v σ Z=>.sh (BZ h k) (d.1 .k _ _ rfl)
theorem Dr.ke(h:w[pl]?=some (.o .r))(k:P.S.br=true)(d:Dr P w (.d (pl+1) none) (.ok b z))(l:w[z]?=none):Dr P w (.d pl r) (.bad z):=.nd λx v σ Z=>.sh (BZ h k) (d.1 .k _ _ rfl _ (.dead (by refine rwr l ?_;rfl)))
theorem Jl{a z c d:Nat}{t:KV}(h1:a+1≤c)(h2:d≤z)(dp:Dp c d t):Cm a z t:=.inr ⟨c,d,dp,Vw h2 h1⟩
theorem Dr.k(h:w[pl]?=some (.o .r))(k:P.S.br=true)(d:Dr P w (.d (pl+1) none) (.ok b q))(l:w[q]?=some .s)(n:Dr P w (.l (P.tr .k [.nat pl,b,.nat q]) (q+1) r) o):Dr P w (.d pl r) o:=by
 refine bf d.mo ?_;intro m1 m2 m3;have m0:pl+1≤q:=V9 m1;exact n.vd (UA m0) (iU l) (.node (Nat.le_succ_of_le m0) (o5 (o6 (Jl (TA _) (U8 q) m3) (o5 re)))) λx v σ=>⟨(.S,.nat q)::([(.g .k,b),(.c .k,.nat pl)]++(.c x,v)::σ),uT (q:=.S) (k:=.k) (ks:=[(.g .k,b),(.c .k,.nat pl)]) (λm=>rfl) rfl (NS rfl),λr e=>.sh (BZ h k) (d.1 .k _ _ rfl _ (.sh (by refine rwr l ?_;show As.to P.ch (bif P.S.br then _ else _)=_;refine rwr k ?_;rfl) e))⟩
theorem Ge{x:Xo}(h:w[pl]?=some (.o y))(k:(y.isR&&P.S.br)=false)(l:P.S.fr y=true):P.act (.c x) w[pl]?=.sh (.c (.f y)):=by
 refine rwr h ?_;show As.to P.ch (bif y.isR&&P.S.br then _ else bif P.S.fr y then _ else _)=_;refine rwr k (rwr l ?_);rfl
theorem Dr.fb(h:w[pl]?=some (.o y))(k:(y.isR&&P.S.br)=false)(l:P.S.fr y=true)(d:Dr P w (.d (pl+1) (some (.f y))) (.bad z)):Dr P w (.d pl r) (.bad z):=.nd λx v σ Z=>.sh (Ge h k l) (d.1 (.f y) _ _ rfl)
theorem Dr.f(h:w[pl]?=some (.o y))(k:(y.isR&&P.S.br)=false)(l:P.S.fr y=true)(d:Dr P w (.d (pl+1) (some (.f y))) (.ok b q))(n:Dr P w (.l (P.tr (.f y) [.nat pl,b]) q r) o):Dr P w (.d pl r) o:=by
 refine bf d.mo ?_;intro m1 m2 m3;have m0:pl+1≤q:=V9 m1;exact n.vd m0 m2 (.node m0 (o5 (o6 (Jl (TA _) (TA q) m3) re))) λx v σ=>⟨(.g (.f y),b)::([(.c (.f y),.nat pl)]++(.c x,v)::σ),Ay (ks:=[(.c (.f y),.nat pl)]) rfl d.stop rfl (PM rfl),λr e=>.sh (Ge h k l) (d.1 (.f y) _ _ rfl _ e)⟩
theorem Dr.le(h:w[pl]?=none∨(w[pl]?=some .s∧P.S.br=true)):Dr P w (.l t pl r) (.ok t pl):=⟨λx v σ τ Z p r e=>p.go (by rcases h with h|⟨h,k⟩<;>rw[h];rfl;exact k) r e,λt' z e hl=>by cases e;exact⟨h.elim .inl λh=>.inr (.inl h),TA _,hl,λZ Z h=>h⟩⟩
theorem Dr.lx(h:P.S.fo w[pl]?=false):Dr P w (.l t pl r) (.bad pl):=.nl λx v σ τ Z p=>p.no h
theorem B8(h:w[pl]?=some (.o y))(k:P.S.us y=true):P.S.fo w[pl]?=true:=by refine rwr h ?_;exact k
theorem Dr.ln(h:w[pl]?=some (.o y))(k:P.S.us y=true)(l:P.cho r y=.no):Dr P w (.l t pl r) (.bad pl):=.nl λx v σ τ hx p=>p.go (B8 h k) _ (.dead (by rw[BY h k,hx,l];rfl))
theorem Dr.lr(h:w[pl]?=some (.o y))(k:P.S.us y=true)(l:P.cho r y=.rd):Dr P w (.l t pl r) (.ok t pl):=⟨λx v σ τ Z p r e=>p.go (B8 h k) r e,λt' z e hl=>by cases e;exact⟨.inr (.inr ⟨y,h,k,l⟩),TA _,hl,λZ Z h=>h⟩⟩
theorem BX{x:Xo}{q':Qs}(h:w[pl]?=some (.o y))(k:P.S.us y=true)(l:P.cho r y=.sh)(e:P.S.tg y=q')(hx:x.ru=r):P.act (.g x) w[pl]?=.sh q':=by rw[BY h k,hx,l,e];rfl
theorem Gr(hb:P.S.bh y=true):P.S.us y=true:=by show(P.S.bt y||P.S.bh y)=true;rw[hb];exact Bool.or_true _
theorem NQ(hb:P.S.bh y=true):P.S.tg y=.H y:=by unfold Sh.tg;rw[hb];rfl
theorem LD(hb:P.S.bh y=false):P.S.tg y=.c (.b y):=by unfold Sh.tg;rw[hb];rfl
theorem Ml{a z:Nat}(c1:pl+1≤z)(da:Dp a pl t):Cm a z t:=.inr ⟨a,pl,da,RJ c1⟩
theorem Dr.lh(h:w[pl]?=some (.o y))(hb:P.S.bh y=true)(l:P.cho r y=.sh)(n:Dr P w (.l (P.tr (.h y) [t,.nat pl]) (pl+1) r) o):Dr P w (.l t pl r) o:=
 n.vl (U8 pl) (iU h) (λa ha da=>.node (TY ha) (o6 (Ml (TA _) da) (o5 re))) (B8 h (Gr hb)) λx v σ hx=>⟨(.H y,.nat pl)::([(.g x,t)]++(.c x,v)::σ),uT (q:=.H y) (k:=.h y) (ks:=[(.g x,t)]) (λm=>rfl) rfl (NS rfl),λr e=>.sh (BX h (Gr hb) l (NQ hb) hx) e⟩
theorem Dr.lbb(h:w[pl]?=some (.o y))(k:P.S.us y=true)(hb:P.S.bh y=false)(l:P.cho r y=.sh)(d:Dr P w (.d (pl+1) (some (.b y))) (.bad z)):Dr P w (.l t pl r) (.bad z):=.nl λx v σ τ hx p=>p.go (B8 h k) _ (.sh (BX h k l (LD hb) hx) (d.1 (.b y) _ _ rfl))
theorem Dr.lb(h:w[pl]?=some (.o y))(k:P.S.us y=true)(hb:P.S.bh y=false)(l:P.cho r y=.sh)(d:Dr P w (.d (pl+1) (some (.b y))) (.ok c z))(n:Dr P w (.l (P.tr (.b y) [t,.nat pl,c]) z r) o):Dr P w (.l t pl r) o:=by
 refine bf d.mo ?_;intro m1 m2 m3;have m0:pl+1≤z:=V9 m1;exact n.vl (WC m0) m2 (λa ha da=>.node (SV (TY ha) m0) (o6 (Ml m0 da) (o5 (o6 (Jl (TY ha) (TA z) m3) re)))) (B8 h k) λx v σ hx=>⟨(.g (.b y),c)::([(.c (.b y),.nat pl),(.g x,t)]++(.c x,v)::σ),Ay (ks:=[(.c (.b y),.nat pl),(.g x,t)]) rfl d.stop rfl (PM rfl),λr e=>.sh (BX h k l (LD hb) hx) (d.1 (.b y) _ _ rfl _ e)⟩
noncomputable def nL(w:List Si)(o:ET):KV:=match o with|.bad z=>two .none (.nat z)|.ok t z=>match w[z]? with|none=>two t .none|some _=>two .none (.nat z)
theorem Dd(h:Dr P w (.d 0 none) o):∃n,yL P w n [(.c .o,.none)] 0 (nL w o):=by
 have s:Lb P w [(.c .o,.none)] 0 .o .none [] o:=h.1 .o .none [] rfl;cases o with
 |bad z=>exact s
 |ok t z=>
  refine s _ ?_;have st:=h.stop;unfold nL;rcases st with e|⟨e,k⟩|⟨x,e,k,e2⟩
  ·dsimp only;rw[e];exact⟨0,.ok (by refine rwr e ?_;rfl)⟩
  ·dsimp only;rw[e];exact⟨0,.dead (by refine rwr e ?_;show As.to P.ch (bif P.S.br then _ else _)=_;rw[k];rfl)⟩
  ·exact Ch.noConfusion e2
end
noncomputable def Sh.ex(P:Sh)(q:Qs):Bool:=match q with
 |.A=>true
 |.S=>P.br
 |.H x=>P.bh x
 |.c x=>match x with|.o=>true|.k=>P.br|.b y=>P.bt y|.f y=>P.fr y
 |.g x=>match x with|.o=>true|.k=>P.br|.b y=>P.bt y|.f y=>P.fr y
noncomputable def Sh.has(P:Sh)(r:Ru):Bool:=match r with|.a=>true|.k=>P.br|.b x=>P.bt x|.f x=>P.fr x|.h x=>P.bh x
def Sh.okA(P:Sh)(a:As):Prop:=match a with|.sh q=>P.ex q=true|.rd r=>P.has r=true|.cf r x q=>P.ex q=true∧P.has r=true|_=>True
theorem uY{S:Sh}{b:Bool}{k:Ru}(h:S.has k=true):S.okA (bif b then .rd k else .no):=by cases b<;>first|exact h|trivial
theorem FG{S:Sh}{y:Op}(h:S.us y=true):S.ex (S.tg y)=true:=by
 unfold Sh.tg;cases e:S.bh y with
 |true=>exact e
 |false=>exact Fg h id λz=>by rw[e]at z;exact aD z
theorem Gb{S:Sh}{q:Qs}(h:S.ex q=true)(m:Option Si):S.okA (S.as q m):=by
 cases q with
 |A=>exact uY rfl
 |S=>exact uY h
 |H x=>exact uY h
 |c x=>
  cases m with
  |none=>trivial
  |some m=>
   cases m with
   |a=>exact rfl
   |s=>trivial
   |o y=>
    show S.okA (bif y.isR&&S.br then _ else bif S.fr y then _ else _);cases e:(y.isR&&S.br)with
    |true=>exact(Ts.mp e).2
    |false=>
     cases e2:S.fr y with
     |true=>exact e2
     |false=>trivial
 |g x=>
  cases m with
  |none=>cases x<;>first|trivial|exact h
  |some m=>
   cases m with
   |a=>trivial
   |s=>
    show S.okA (bif S.br then _ else _);cases e:S.br with
    |true=>cases x<;>first|trivial|exact e|exact h
    |false=>trivial
   |o y=>
    show S.okA (bif S.us y then _ else _);cases e:S.us y with
    |true=>cases x<;>first|exact⟨FG e,h⟩|exact FG e
    |false=>trivial
theorem M1{c:Ch}{q q':Qs}{r:Ru}(h:Ac.of c q r=.sh q'):q=q':=by cases c<;>first|(cases h;rfl)|exact Ac.noConfusion h
theorem M3{c:Ch}{q:Qs}{r r':Ru}(h:Ac.of c q r=.rd r'):r=r':=by cases c<;>first|(cases h;rfl)|exact Ac.noConfusion h
theorem Ks{q q':Qs}{m:Option Si}(h:P.S.ex q=true)(a:P.act q m=.sh q'):P.S.ex q'=true:=by
 have k:=Gb h m;unfold Pm.act at a;cases e:P.S.as q m with
 |sh y=>rw[e]at a k;cases a;exact k
 |cf r b y=>rw[e]at a k;cases M1 a;exact k.1
 |_=>rw[e]at a;exact Ac.noConfusion a
theorem EL{q:Qs}{r:Ru}{m:Option Si}(h:P.S.ex q=true)(a:P.act q m=.rd r):P.S.has r=true:=by
 have k:=Gb h m;unfold Pm.act at a;cases e:P.S.as q m with
 |rd y=>rw[e]at a k;cases a;exact k
 |cf r b y=>rw[e]at a k;cases M3 a;exact k.2
 |_=>rw[e]at a;exact Ac.noConfusion a
end
end
end
section
set_option compiler.extract_closed false
section
section
def dj(a b:Bool):Bool:=@Ue (λzz=>Bool) false b a
def Nk(a b:Bool):Bool:=@Ue (λzz=>Bool) true b a
noncomputable def lT:KV:=.str 2097249
noncomputable def cE:KV:=.str 2097221
noncomputable def kI:KV:=.str 2097267
noncomputable def cU:KV:=.str 2097269
noncomputable def c0:KV:=.str 1
noncomputable def dM(x:Op):KV:=match x with|.p=>.str 2097264|.q=>.str 2097265|.r=>.str 2097266
noncomputable def iw(x:Si):KV:=match x with|.a=>lT|.s=>kI|.o x=>dM x
noncomputable def Kk:KV:=.str 19343145155671596495536228
noncomputable def um(m:Option Si):KV:=match m with|some x=>iw x|none=>Kk
def qV(f:Op->Bool):Bool:=dj (f .p) (dj (f .q) (f .r))
def Lg(f:Xo->Bool):Bool:=dj (f .o) (dj (f .k) (dj (qV λx=>f (.b x)) (qV λx=>f (.f x))))
def LS(f:Option Si->Bool):Bool:=dj (f none) (dj (f (some .a)) (dj (f (some .s)) (qV λx=>f (some (.o x)))))
def Aq(f:Ru->Bool):Bool:=dj (f .a) (dj (f .k) (dj (qV λx=>f (.b x)) (dj (qV λx=>f (.f x)) (qV λx=>f (.h x)))))
def eO{α:Type}(f:α->Bool)(l:List α):Bool:=@V2 α (λZ=>Bool) true (λx Z r=>dj (f x) r) l
abbrev R2:=List KV×KV
structure Sk where
 o:Bool
 n:Nat
 x:Nat
 e:Nat
 t:Nat
 m:Nat
noncomputable def rS(x:Op):Nat:=match x with|.p=>0|.q=>1|.r=>2
noncomputable def QZ(n:Nat):KV:=match n with|1=>cU|2=>dM .q|_=>c0
noncomputable def r3(x:Op)(n:Nat):R2:=(match n with|0=>[cE,dM x,cE]|1=>[dM x,cE]|2=>[cE,dM x]|_=>[dM x,cE,kI],c0)
noncomputable def r0(o:Bool)(n x e:Nat):List R2:=([lT],c0)::r3 .p 0::((bif o then[([dM .p,cE],QZ n)]else[])++(r3 .q x::(match e with|0=>[]|e+1=>[r3 .r e])))
noncomputable def Sk.rs(k:Sk):List R2:=(r0 k.o k.n k.x k.e).drop k.t++(r0 k.o k.n k.x k.e).take k.t
noncomputable def Sk.S(k:Sk):Sh where
 bt:=λx=>match x with|.p=>true|.q=>SS k.x 0|.r=>SS k.e 1
 fr:=λx=>match x with|.p=>k.o|.q=>SS k.x 1|.r=>SS k.e 2
 bh:=λx=>match x with|.p=>false|.q=>SS k.x 2|.r=>SS k.e 3
 br:=SS k.e 4
noncomputable def QN(r:Ru):Nat:=match r with|.a=>0|.k=>1|.b x=>2+rS x|.f x=>5+rS x|.h x=>8+rS x
def Nb(v:KV):Nat:=bif cM v (dM .p)then 0 else bif cM v (dM .q)then 1 else 2
def Ft(r:R2):Nat:=bif SS r.1.length 1 then 0 else bif cM (r.1.getLastD .none) kI then 1 else bif cM (r.1.headD .none) cE then(bif SS r.1.length 3 then 2+Nb (r.1.getD 1 .none)else 8+Nb (r.1.getD 1 .none))else 5+Nb (r.1.headD .none)
noncomputable def FD(n:Nat):List Nat->Nat->Nat
 |[],_=>0
 |x::r,i=>bif SS x n then i else FD n r (i+1)
def Sk.nu(k:Sk)(r:Ru):Nat:=FD (QN r) (k.rs.map Ft) 1
noncomputable def PV(n:Nat):Nat:=match n with|1=>3|2=>1|_=>0
noncomputable def Sk.rx(k:Sk)(r:Ru):Nat:=match r with|.b x=>rS x|.f .p=>PV k.n|.f x=>rS x|_=>4
noncomputable def qD(x:Nat):KV:=two (.tok (2*x+2)) (.tok (2*x+3))
noncomputable def KN(b:Bool)(x:KV)(n:Nat)(d:KD):KD:=bif b then .cons x (qD n) d else d
noncomputable def LX(n:Nat):KD:=KN (SS n 1) cU 3 (KN (SS n 2) (dM .q) 1 .nil)
noncomputable def LW(n:Nat):KD:=KN (!SS n 1) cU 3 (KN (!SS n 2) (dM .q) 1 (.cons (dM .p) (qD 0) (.cons (dM .r) (qD 2) .nil)))
noncomputable def Sk.pd(k:Sk):KO:=.pd (LX k.n) (LW k.n)
def qC:Nat->List R2->List KV
 |_,[]=>[]
 |k,r::rs=>two (.ref (bD k)) r.2::qC (k+1) rs
noncomputable def R6:List KV:=[lT,dM .p,dM .q,dM .r,kI]
noncomputable def Pw:KV:=.str 40566772832479303002219807244402
def LE(o:Nat):KD:=.cons lT (.ref (bD (o+6))) (.cons (dM .p) (.ref (bD (o+7))) (.cons (dM .q) (.ref (bD (o+8))) (.cons (dM .r) (.ref (bD (o+9))) (.cons kI (.ref (bD (o+10))) (.cons Pw (.ref (bD (o+11))) .nil)))))
def OL(o:Nat):T KV:=tp (.d (.c .e)) .none (tp (.c (.c .e)) (.ref (bD (o+16))) (tp (.b (.c .e)) (.ref (bD (o+15))) (tp (.a (.c .e)) (.ref (bD (o+14))) (tp (.i (.b .e)) (.ref (bD (o+13))) (tp (.h (.b .e)) (.ref (bD (o+12))) (tp (.g (.b .e)) (.ref (bD (o+5))) (tp (.f (.b .e)) (.ref (bD (o+4))) (tp (.d (.b .e)) (.ref (bD (o+3))) (tp (.c (.b .e)) (.ref (bD (o+2))) .nil)))))))))
def v4(o:Nat)(pr:KO):List KO:=[aK R6,.inst 4 (OL o),aK [.none],.dict 0 .nil,.dict 0 .nil,.dict 6 (LE o),aK [],aK [],aK [],aK [],aK [],aK [],.dict 0 .nil,.dict 0 .nil,.dict 0 .nil,pr,.set .nil]
structure Bk where
 rk:KO
 bo:KO
 fr:KO
 bt:KO
 bh:KO
 ra:KO
def fP(B:Bk)(w:KO)(rs:List R2):List KO:=B.rk::w::aK (qC 8 rs)::B.bo::B.fr::B.bt::B.bh::B.ra::rs.map λr=>aK r.1
noncomputable def Sk.ob(k:Sk):Nat:=k.rs.length+8
def pf(B:Bk)(w:KO)(rs:List R2)(pd:KO):List KO:=fP B w rs++v4 (rs.length+8) pd
def pU(l:List KO):KS:=⟨d7 l,bD l.length⟩
def Pb(o m:Nat):En:=tp (.i .e) (.ref (bD (o+1))) (tp (.h .e) (.ref (bD 1)) (tp (.g .e) (.ref (bD 3)) (tp (.f .e) (.ref (bD 2)) (bif SS m 2 then .nil else tp (.b .e) (.tok (200482+m)) .nil))))
def xU(o:Option KO):KD:=@Vd KO (λZ=>KD) .nil (λo=>@KO.rec (λZ=>KD) (λZ Z=>.nil) (λZ es=>es) (λZ=>.nil) (λZ Z=>.nil) (λZ Z=>.nil) (λZ=>.nil) (λZ Z=>.nil) o) o
def GX(v:Option KV):Pa:=@Vd KV (λZ=>Pa) .e (λv=>@KV.rec (λZ=>Pa) .e (λZ=>.e) (λZ=>.e) (λZ=>.e) (λZ=>.e) .e (λZ Z Z Z=>.e) (λq=>q) (λZ=>.e) (λZ Z=>.e) v) v
def lk(s:KS)(q:Pa)(n:Nat)(x:KV):Option KV:=dl (xU (tg (GX (dl (xU (tg q s.h)) (.nat n))) s.h)) x
def DU(v:Option KV):Nat:=@Vd KV (λZ=>Nat) 0 (λv=>@KV.rec (λZ=>Nat) 0 (λZ=>0) (λn=>n) (λZ=>0) (λZ=>0) 0 (λZ Z Z Z=>0) (λZ=>0) (λt=>Nat.mod (Nat.div (Um t 12) 64) 64) (λZ Z=>0) v) v
def nC(s:KS)(aq gq:Pa)(x:Xo):Nat:=match x with
 |.o=>0
 |.k=>DU (lk s aq 0 (dM .r))
 |.f x=>DU (lk s aq 0 (dM x))
 |.b x=>DU (lk s aq (DU (lk s gq 0 cE)) (dM x))
def nG(s:KS)(aq gq:Pa)(x:Xo):Nat:=DU (lk s gq (nC s aq gq x) cE)
def M7(s:KS)(aq gq:Pa)(q:Qs):Nat:=match q with
 |.A=>DU (lk s aq 0 lT)
 |.S=>DU (lk s aq (nG s aq gq .k) kI)
 |.H x=>DU (lk s aq (DU (lk s gq 0 cE)) (dM x))
 |.c x=>nC s aq gq x
 |.g x=>nG s aq gq x
def wK(v:Option KV):Bool:=ci v false (eY λzz=>true)
def rp(o:Option KO):Bool:=ci o false (AG λZ Z=>true)
def row(s:KS)(q:Pa)(n:Nat):Bool:=dj (wK (dl (xU (tg q s.h)) (.nat n))) (rp (tg (GX (dl (xU (tg q s.h)) (.nat n))) s.h))
def Qg(k:Sk)(N:Qs->Nat)(a:As)(v:Option KV):Bool:=match a with
 |.no=>ci v true (qQ true)
 |.sh q=>ci v false (gp λn=>dj (SS n (N q)) (T3 1 n))
 |.rd r=>ci v false (yx zN λn=>SS (n+1) (k.nu r))
 |.ok=>ci v false (gp λn=>SS n 0)
 |.cf r x q=>ci v false (C8 λt=>dj (SS t (Bq (k.rx r) (rS x) (N q) (k.nu r))) (dj (Nat.blt (N q) 64) (dj (Nat.blt (k.nu r) 64) (dj (T3 1 (N q)) (T3 1 (k.nu r))))))
def KY(k:Sk)(s:KS)(aq:Pa)(N:Qs->Nat)(q:Qs):Bool:=Nk (k.S.ex q) (dj (row s aq (N q)) (LS λm=>Qg k N (k.S.as q m) (lk s aq (N q) (um m))))
def RF(k:Sk)(s:KS)(gq:Pa)(N:Qs->Nat)(x:Xo):Bool:=Nk (k.S.ex (.c x)) (dj (row s gq (N (.c x))) (ci (lk s gq (N (.c x)) cE) false (gp λn=>SS n (N (.g x)))))
def RE(k:Sk)(s:KS)(aq gq:Pa)(N:Qs->Nat):Bool:=dj (Lg λx=>dj (KY k s aq N (.c x)) (dj (KY k s aq N (.g x)) (RF k s gq N x))) (dj (KY k s aq N .A) (dj (KY k s aq N .S) (qV λx=>KY k s aq N (.H x))))
def G8(k:Sk)(s:KS)(tq:Pa):Bool:=aZ tq s (kj λzz fs=>ci (tg (.h (.c .e)) fs) false (eY λaq=>ci (tg (.i (.c .e)) fs) false (eY λgq=>dj (rp (tg aq s.h)) (dj (rp (tg gq s.h)) (RE k s aq gq (M7 s aq gq))))))
def here(s:KS)(q:Pa):Bool:=ci (tg q s.h) false λzz=>true
def pt(p:Pa->Bool)(x:KV):Bool:=@KV.rec (λZ=>Bool) true (λZ=>true) (λZ=>true) (λZ=>true) (λZ=>true) true (λZ Z a b=>dj a b) p (λZ=>true) (λZ a=>a) x
def G5(p:Pa->Bool)(d:KD):Bool:=@KD.rec (λZ=>Bool) true (λZ v Z r=>dj (pt p v) r) d
def CB{α:Type}(p:α->Bool)(t:T α):Bool:=@T.rec α (λZ=>Bool) true (λv Z Z Z Z Z Z Z Z a b c d f g h i=>dj (ci v true p) (dj a (dj b (dj c (dj d (dj f (dj g (dj h i)))))))) t
def JB(x:KV):Bool:=@KV.rec (λZ=>Bool) true (λZ=>true) (λZ=>true) (λZ=>true) (λZ=>true) true (λZ Z a b=>dj a b) (λZ=>false) (λZ=>true) (λZ Z=>false) x
def yH(d:KD):Bool:=@KD.rec (λZ=>Bool) true (λZ v Z r=>dj (JB v) r) d
def Kh(p:Pa->Bool)(o:KO):Bool:=@KO.rec (λzz=>Bool) (λzz xs=>pt p xs) (λzz es=>G5 p es) (λzz=>true) (λzz fs=>CB (pt p) fs) (λzz cs=>pt p cs) (λzz=>true) (λa m=>dj (yH a) (yH m)) o
abbrev Kf:=List (Option KV)->List (Option KO)->Bool
def OG(qs:List Pa)(N:Nat)(k':Kf)(en:En)(s:KS):Bool:=k' (qs.map λq=>tg q en) ((UE N).map λi=>tg (bD i) s.h)
noncomputable def QS:List Pa:=[.h .e,.g .e,.f .e]
def Mc(h:T KO):T KO:=tp (bD 0) (.set .nil) (tp (bD 1) (.set .nil) (tp (bD 3) (.set .nil) (tp (bD 4) (.set .nil) (tp (bD 5) (.set .nil) (tp (bD 6) (.set .nil) (tp (bD 7) (.set .nil) h))))))
def SN(k:Sk)(en:En)(s:KS):Bool:=dj (ci (tg (.d (.a .e)) en) false (eY (G8 k s))) (CB (Kh (here s)) (Mc s.h))
def MB(k:Sk)(k':Kf)(en:En)(s:KS):Bool:=dj (SN k en s) (OG QS k.ob k' en s)
def Aj(k:Sk)(B:Bk)(w:KO)(k':Kf):Bool:=yE oK FA (MB k k') (Pb k.ob k.m) (pU (pf B w k.rs k.pd))
def An(k:Sk)(B:Bk)(w:KO)(k':Kf):Bool:=k' [some (.ref (bD 1)),some (.ref (bD 3)),some (.ref (bD 2))] ((fP B w k.rs).map some)
noncomputable def O3(big:Bool):List Nat:=bif big then[2]else[0,1]
noncomputable def k9(n x:Nat):List Sk:=(O3 (SS x 0)).flatMap λm=>(UE 4).map λt=>⟨true,n,x,0,t,m⟩
noncomputable def gM(x e:Nat):List Sk:=(O3 (bif SS x 0 then T3 1 e else SS e 1||SS e 4)).flatMap λm=>(UE (bif SS e 0 then 3 else 4)).map λt=>⟨false,0,x,e,t,m⟩
def dZ(l:List Sk):Prop:=∀(B:Bk)(w:KO)(k':Kf),l.map (λk=>Aj k B w k')=l.map (λk=>An k B w k')
end
end
end
section
set_option compiler.extract_closed false
section
section
noncomputable def ip:KV:=.str 40566792175292416823092460912756
noncomputable def kJ:KV:=.str 178414298510331597108345655071174652011217006
noncomputable def md:KV:=.str 85074567084470556676975139893530329188
noncomputable def xh:KV:=.str 19343864578672878982004843
noncomputable def vD:KV:=.str 178414298510858939390526964871935662617526388
noncomputable def xY:KD->Nat
 |.nil=>0
 |.cons _ _ r=>xY r+1
def QO(r:R2):Nat:=bif cM r.2 cU then 3 else bif cM r.2 c0 then Nb (r.1.headD .none)else 1
def Am(f:Nat->Bool)(v:Nat->R2->KV)(key:R2->KV):Nat->List R2->KD
 |_,[]=>.nil
 |i,r::rs=>bif f (Ft r)then .cons (key r) (v i r) (Am f v key (i+1) rs)else Am f v key (i+1) rs
def Cb(rs:List R2):KD:=Am (λn=>T3 5 n&&T3 n 7) (λi r=>two (.nat i) (qD (QO r))) (λr=>r.1.headD .none) 1 rs
def yJ(rs:List R2):KD:=Am (λn=>T3 2 n&&T3 n 4) (λi r=>.nat i) (λr=>r.1.getD 1 .none) 1 rs
def Ci(rs:List R2):KD:=Am (λn=>T3 8 n) (λi r=>.nat i) (λr=>r.1.getD 1 .none) 1 rs
noncomputable def Oe:KD:=.cons (dM .p) (qD 0) (.cons (dM .q) (qD 1) (.cons (dM .r) (qD 2) .nil))
def Cf(rs:List R2):KD:=.cons lT (.nat (FD 0 (rs.map Ft) 1)) (.cons vD (.nat (FD 1 (rs.map Ft) 1)) (.cons ip (.ref (bD 4)) (.cons kJ (.ref (bD 5)) (.cons md (.ref (bD 6)) (.cons xh (.ref (bD 7)) .nil)))))
noncomputable def rH(d:KD):KO:=.dict (xY d) d
def ub(rk:KO)(rs:List R2):Bk:=⟨rk,rH (Cf rs),rH (Cb rs),rH (yJ rs),rH (Ci rs),rH Oe⟩
noncomputable def uk(v:Nat->KV):KD:=.cons (dM .p) (v 0) (.cons (dM .q) (v 1) (.cons (dM .r) (v 2) (.cons cU (v 3) .nil)))
noncomputable def uU(p:Nat->Bool)(i:Nat):KV:=bif p i then qD i else .none
noncomputable def Oj(b0 b1 b2 b3:Bool)(i:Nat):Bool:=match i with|0=>b0|1=>b1|2=>b2|_=>b3
structure pz where
 o:Bool
 n:Nat
 x:Nat
 e:Nat
 t:Nat
noncomputable def pz.num(c:pz):Nat:=(bif c.o then 1 else 0)+2*(c.n+3*(c.x+4*(c.e+5*c.t)))
noncomputable def pz.sn(c:pz)(p:Nat->Bool):Nat:=bif c.o then(match c.n with|0=>bif p 3 then 1 else 0|1=>bif p 1 then 2 else 0|_=>0)else 0
noncomputable def pz.sx(c:pz):Nat:=bif SS c.x 3 then 0 else c.x
noncomputable def pz.rs(c:pz)(p:Nat->Bool):List R2:=(r0 c.o (c.sn p) c.sx (bif c.o then 0 else c.e)).drop c.t++(r0 c.o (c.sn p) c.sx (bif c.o then 0 else c.e)).take c.t
def Pe(h:Nat):En:=tp (.c .e) (.ref (bD 0)) (tp (.b .e) (.tok (200002+h)) (tp (.a .e) (.ref (bD 1)) .nil))
def Dz:List Nat->Bool
 |[]=>true
 |x::r=>dj (!r.any (SS x)) (Dz r)
def MU(as:List Pa)(tv:Nat->KV->Bool)(x:KV):KV->Bool:=@KV.rec (λZ=>KV->Bool) (qQ true) (λZ Z=>false) (λn=>gp (SS n)) (λZ Z=>false) (λn=>AF (SS n))
 (jT true (λZ Z=>false)) (λZ Z ix ir=>jT false (λy s=>dj (ix y) (ir s))) (λq=>eY λq'=>@Vd Pa (λZ=>Bool) false (λp=>SS (aY q') (aY p)) (tg q (d7 as))) tv (λZ Z Z=>false) x
def Pu(as:List Pa)(tv:Nat->KV->Bool)(d:KD):KD->Bool:=@KD.rec (λZ=>KD->Bool) (λe=>@KD.rec (λZ=>Bool) true (λZ Z Z Z=>false) e) (λa w Z ih e=>@KD.rec (λZ=>Bool) false (λb v r Z=>dj (cM a b) (dj (pk a) (dj (MU as tv w v) (ih r)))) e) d
def Ps(as:List Pa)(tv:Nat->KV->Bool)(o o':KO):Bool:=@KO.rec (λZ=>Bool) (λn xs=>iQ (λm ys=>dj (SS n m) (MU as tv xs ys)) o') (λn es=>AG (λm fs=>dj (SS n m) (Pu as tv es fs)) o') (λZ=>false) (λZ Z=>false) (λZ Z=>false) (λZ=>true) (λZ Z=>false) o
def EA(as:List Pa)(tv:Nat->KV->Bool)(s:KS):List KO->List Pa->Bool
 |[],[]=>true
 |o::os,a::r=>dj (ci (tg a s.h) false (Ps as tv o)) (EA as tv s os r)
 |_,_=>false
def RG(as:List Pa)(tv:Nat->KV->Bool)(os:List KO)(s:KS):Bool:=dj (Dz (as.map aY)) (EA as tv s os as)
def Od(v:KV):List Pa:=@KV.rec (λZ=>List Pa) [] (λZ=>[]) (λZ=>[]) (λZ=>[]) (λZ=>[]) [] (λx Z Z r=>GX (some (@KV.rec (λZ=>KV) .nil (λZ=>.nil) (λZ=>.nil) (λZ=>.nil) (λZ=>.nil) .nil (λa Z Z Z=>a) (λZ=>.nil) (λZ=>.nil) (λZ Z=>.nil) x))::r) (λZ=>[]) (λZ=>[]) (λZ Z=>[]) v
def QV(o:Option KO):KV:=@Vd KO (λZ=>KV) .nil (λo=>@KO.rec (λZ=>KV) (λZ xs=>xs) (λZ Z=>.nil) (λZ=>.nil) (λZ Z=>.nil) (λZ Z=>.nil) (λZ=>.nil) (λZ Z=>.nil) o) o
def L8(en:En)(s:KS):List Pa:=let b:=GX (tg (.g .e) en);let f:=GX (tg (.f .e) en);let g:=λk=>GX (dl (xU (tg b s.h)) k)
 bD 0::bD 1::f::b::g ip::g kJ::g md::g xh::Od (QV (tg f s.h))
def NM(p:Nat->Bool)(n:Nat)(y:KV):Bool:=bif C8 (SS n) y then true else bif T3 2 n&&T3 n 9&&!p ((n-2)/2)then(bif SS (n%2) 0 then AF (SS 40567024288966772448377926844532) y else gp (SS 0) y)else false
def P8(v:Option KV)(q:Pa):Bool:=ci v false (eY λp=>SS (aY p) (aY q))
def Q8(v:Option KV)(n:Nat):Bool:=ci v false (C8 λm=>SS m n)
def JO(h:Nat)(rs:List R2)(p:Nat->Bool)(k':Option KO->Bool)(en:En)(s:KS):Bool:=dj (P8 (tg (.a .e) en) (bD 1)) (dj (P8 (tg (.c .e) en) (bD 0)) (dj (Q8 (tg (.b .e) en) (200002+h)) (dj (wK (tg (.f .e) en)) (dj (wK (tg (.g .e) en)) (dj (RG (L8 en s) (NM p) (fP (ub (.dict 4 (uk (uU p))) rs) (.junk 0) rs) s) (k' (tg (bD 1) s.h)))))))
def Dh(c:pz)(p:Nat->Bool)(h:Nat)(n:Nat)(xs:KV)(k':Option KO->Bool):Bool:=yB oK FA (JO h (c.rs p) p k') (Pe h) (pU [.dict 4 (uk (uU p)),.list n xs])
noncomputable def Gk(c:Nat):KV:=match c with|1=>mN|2=>lC|_=>lD
noncomputable def xO(c:Nat->Nat)(i:Nat):KV:=bif SS (c i) 0 then .none else two (Gk (c i)) (.tok (2*i+3))
noncomputable def KJ(c:Nat->Nat)(i:Nat)(k:KV)(d:KD):KD:=bif SS (c i) 0 then d else .cons k (xO c i) d
noncomputable def Bn(c:Nat->Nat):KD:=KJ c 0 (dM .p) (KJ c 1 (dM .q) (KJ c 2 (dM .r) (KJ c 3 cU .nil)))
noncomputable def Qh(a b d e:Nat)(i:Nat):Nat:=match i with|0=>a|1=>b|2=>d|_=>e
def Pc(h:Nat):En:=tp (.h .e) (.ref (bD 1)) (tp (.g .e) (.ref (bD 3)) (tp (.f .e) (.ref (bD 2)) (tp (.c .e) (.ref (bD 0)) (tp (.b .e) (.tok h) .nil))))
noncomputable def Of:List Pa:=[.i .e,.h .e,.g .e,.f .e,.b .e]
noncomputable def Bk.at(B:Bk)(rk:KO):Bk:=⟨rk,B.bo,B.fr,B.bt,B.bh,B.ra⟩
def Ob(c:Nat->Nat)(B:Bk)(w:KO)(rs:List R2)(h:Nat)(k':Kf):Bool:=yD oK FA (OG Of (rs.length+25) k') (Pc h) (pU (fP (B.at (.dict 4 (uk (xO c)))) w rs))
def Oc(c:Nat->Nat)(B:Bk)(w:KO)(rs:List R2)(h:Nat)(k':Kf):Bool:=k' [some (.ref (bD (rs.length+9))),some (.ref (bD 1)),some (.ref (bD 3)),some (.ref (bD 2)),some (.tok h)] ((pf (B.at (.dict 4 (uk (xO c)))) w rs (rH (Bn c))).map some)
noncomputable def GU:List (Nat->Nat):=(UE 4).flatMap λa=>(UE 4).flatMap λb=>(UE 4).flatMap λd=>(UE 4).map λe=>Qh a b d e
def nh(rs:List R2):Prop:=∀(B:Bk)(w:KO)(h:Nat)(k':Kf),GU.map (λc=>Ob c B w rs h k')=GU.map λc=>Oc c B w rs h k'
end
end
end
section
set_option compiler.extract_closed false
section
open PySem PySem.W PyProof.Rows
theorem ax{a b:Bool}(h:dj a b=true):a=true∧b=true:=by cases a with|true=>exact⟨rfl,h⟩|false=>exact aD h
theorem aI{a b:Bool}(h:dj a b=true){G:Prop}(k:a=true->b=true->G):G:=ak (ax h) k
theorem gm{a b:Bool}(h:a=true)(k:b=true):dj a b=true:=by subst h;exact k
theorem vb{a b:Bool}(h:Nk a b=true)(k:a=true):b=true:=by subst k;exact h
section
variable{C:Cx}{s:KS}
open Classical in
theorem kG{objs:List KO}{as:List Pa}(nd:as.Nodup)(hl:as.length=objs.length)(h:∀(i:Nat)(o:KO)(a:Pa),objs[i]?=some o->as[i]?=some a->∃o',tg a s.h=some o'∧OS C (VS C.tk (λq=>tg q (d7 as)) λZ Z=>False) (λx y=>∀(R:Wd) w,VR C R y w->VR C R x w) o o'):
  N8 C (λq=>tg q (d7 as)) (λZ Z=>False) ⟨d7 objs,bD objs.length⟩ s where
 next:=⟨objs.length,rfl,λi hi=>by
  show tg (bD i) (d7 objs)=none;rw[dW]
  split
  ·rw[eF];exact Ud hi
  ·rfl⟩
 fwd:=λq o ho=>by
  have ho:tg q (d7 objs)=some o:=ho;rw[dW]at ho
  split at ho
  ·rename_i hq;have hi:aY q<as.length:=by rw[hl];exact(To.mp ho).1
   refine ag (h (aY q) o as[aY q] ho (T7 hi)) ?_;intro o' h1 h2;refine⟨as[aY q],o',?_,h1,h2⟩;rw[dW,if_pos hq];exact T7 hi
  ·exact dh ho
 dom:=λq q' o hq Z=>by
  show∃o,tg q (d7 objs)=some o;rw[dW]at hq ⊢
  split at hq
  ·rename_i hp;rw[if_pos hp];have hi:aY q<objs.length:=by rw[←hl];exact(To.mp hq).1
   exact⟨_,T7 hi⟩
  ·exact dh hq
 inj:=λq p q' h1 h2=>by
  rw[dW]at h1 h2
  split at h1
  ·rename_i hq
   split at h2
   ·rename_i hp;refine aw (To.mp h1) ?_;intro i1 e1;refine aw (To.mp h2) ?_;intro i2 e2;have:=(List.getElem_inj nd).mp (e1.trans e2.symm);rw[hq,hp,this]
   ·exact dh h2
  ·exact dh h1
 zl:=λZ Z h=>h.elim
 zf:=λZ Z Z h=>h.elim
end
section
variable{tk:Nat->KV}{φ:Pa->Option Pa}{Z:Pa->KV->Prop}
theorem qz:∀{x:KV},mc x=true->VS tk φ Z x x:=by
 intro x;induction x with
 |cons x r i1 i2=>intro h;refine iJ h ?_;intro h1 h2;exact⟨x,r,rfl,i1 h1,i2 h2⟩
 |none=>exact λzz=>.inl rfl
 |nat=>exact λzz=>.inl rfl
 |neg=>exact λzz=>.inl rfl
 |str=>exact λzz=>.inl rfl
 |tok=>exact λzz=>.inl rfl
 |nil=>exact λzz=>rfl
 |bool=>exact λzz=>rfl
 |_=>exact λh=>aD h
theorem jL:∀{l:List KV},(∀x∈l,mc x=true)->mc (aC l)=true
 |[],_=>rfl
 |x::r,h=>Ts.mpr ⟨h x SX,jL λy hy=>h y (T5 _ hy)⟩
end
theorem bQ{α:Type}{p q:Pa}{v x:α}{t:T α}(h:tg q (tp p v t)=some x):(q=p∧x=v)∨tg q t=some x:=by
 by_cases z:q=p
 ·subst z;rw[aW]at h;exact .inl ⟨rfl,(Ti h).symm⟩
 ·rw[am _ z]at h;exact .inr h
theorem vY{α:Type}{p:α->Bool}{x:α}:∀{q:Pa}{t:T α},CB p t=true->tg q t=some x->p x=true:=by
 intro q;induction q with
 |e=>intro t h k;cases t with|nil=>exact dh k|nd v _ _ _ _ _ _ _ _=>have k:v=some x:=k;subst k;exact(ax h).1
 |a q ih=>intro t h k;cases t with|nil=>exact dh k|nd _ _ _ _ _ _ _ _ _=>exact ih (ax (ax h).2).1 k
 |b q ih=>intro t h k;cases t with|nil=>exact dh k|nd _ _ _ _ _ _ _ _ _=>exact ih (ax (ax (ax h).2).2).1 k
 |c q ih=>intro t h k;cases t with|nil=>exact dh k|nd _ _ _ _ _ _ _ _ _=>exact ih (ax (ax (ax (ax h).2).2).2).1 k
 |d q ih=>intro t h k;cases t with|nil=>exact dh k|nd _ _ _ _ _ _ _ _ _=>exact ih (ax (ax (ax (ax (ax h).2).2).2).2).1 k
 |f q ih=>intro t h k;cases t with|nil=>exact dh k|nd _ _ _ _ _ _ _ _ _=>exact ih (ax (ax (ax (ax (ax (ax h).2).2).2).2).2).1 k
 |g q ih=>intro t h k;cases t with|nil=>exact dh k|nd _ _ _ _ _ _ _ _ _=>exact ih (ax (ax (ax (ax (ax (ax (ax h).2).2).2).2).2).2).1 k
 |h q ih=>intro t h k;cases t with|nil=>exact dh k|nd _ _ _ _ _ _ _ _ _=>exact ih (ax (ax (ax (ax (ax (ax (ax (ax h).2).2).2).2).2).2).2).1 k
 |i q ih=>intro t h k;cases t with|nil=>exact dh k|nd _ _ _ _ _ _ _ _ _=>exact ih (ax (ax (ax (ax (ax (ax (ax (ax h).2).2).2).2).2).2).2).2 k
section
variable{tk:Nat->KV}{φ:Pa->Option Pa}{Z:Pa->KV->Prop}{p:Pa->Bool}{C:Cx}
theorem vQ(hp:∀q,p q=true->φ q=some q):∀{x:KV},pt p x=true->VS tk φ Z x x:=by
 intro x;induction x with
 |cons x r i1 i2=>intro h;exact⟨x,r,rfl,i1 (ax h).1,i2 (ax h).2⟩
 |none=>exact λzz=>.inl rfl
 |nat=>exact λzz=>.inl rfl
 |neg=>exact λzz=>.inl rfl
 |str=>exact λzz=>.inl rfl
 |tok=>exact λzz=>.inl rfl
 |nil=>exact λzz=>rfl
 |bool=>exact λzz=>rfl
 |ref q=>exact λh=>⟨q,hp q h,rfl⟩
 |fl x ih=>exact λh=>⟨x,ih h,.inl rfl⟩
theorem FR(hp:∀q,p q=true->φ q=some q):∀{es:KD},G5 p es=true->DS (VS tk φ Z) es es
 |.nil,_=>rfl
 |.cons a w r,h=>⟨w,r,rfl,vQ hp (ax h).1,FR hp (ax h).2⟩
theorem E7:∀{x:KV},JB x=true->mc x=true:=by
 intro x;induction x with
 |cons x r i1 i2=>exact λh=>Ts.mpr ⟨i1 (ax h).1,i2 (ax h).2⟩
 |ref=>exact λh=>aD h
 |fl=>exact λh=>aD h
 |_=>exact λzz=>rfl
theorem oF:∀{es:KD},yH es=true->DA es
 |.nil,_=>trivial
 |.cons a w r,h=>⟨E7 (ax h).1,oF (ax h).2⟩
theorem Bv{W:KV->KV->Prop}(hW:∀x,W x x):∀es:KD,DS W es es
 |.nil=>rfl
 |.cons a w r=>⟨w,r,rfl,hW w,Bv hW r⟩
theorem Eu:∀{x:KV},mc x=true->pt p x=true:=by
 intro x;induction x with
 |cons x r i1 i2=>intro h;refine iJ h ?_;intro h1 h2;show dj (pt p x) (pt p r)=true;refine rwr (i1 h1) (rwr (i2 h2) ?_);rfl
 |ref=>exact λh=>aD h
 |fl=>exact λh=>aD h
 |_=>exact λzz=>rfl
end
def qg(L:Nat):List Pa:=(UE L).map bD
theorem gF{α:Type}(l:List α)(i:Nat):tg (bD i) (d7 l)=l[i]?:=by classical rw[dW,eF,if_pos rfl]
theorem Dn{i j:Nat}(h:bD i=bD j):i=j:=by have:=congrArg aY h;rw[eF,eF]at this;exact this
theorem Kr{L i:Nat}{a:Pa}(h:(qg L)[i]?=some a):a=bD i∧i<L:=by
 unfold qg at h;rw[Tr]at h;refine xT h ?_;clear h;rintro j h1 rfl;refine aw (To.mp h1) ?_;intro h2 h3;rw[List.getElem_range]at h3;rw[List.length_range]at h2;exact⟨by exact rwr h3 rfl,h2⟩
theorem BW(L:Nat):(qg L).Nodup:=by
 unfold qg;exact List.Pairwise.map bD (λa b h z=>h (Dn z)) List.nodup_range
section
noncomputable def LB(tk:Nat->KV)(n:Nat):KV:=match n with|n+2=>bif pl (tk n)then tk n else .tok (n+2)|n=>.tok n
def eK(tk:Nat->KV)(x:KV):KV:=@KV.rec (λZ=>KV) .none .bool .nat .neg .str .nil (λZ Z a b=>.cons a b) .ref (LB tk) (λZ a=>.fl a) x
def gX(tk:Nat->KV)(d:KD):KD:=@KD.rec (λZ=>KD) .nil (λk v Z r=>.cons k (eK tk v) r) d
def Cz{α β:Type}(f:α->β)(t:T α):T β:=@T.rec α (λZ=>T β) .nil (λv Z Z Z Z Z Z Z Z a b c d e g h i=>.nd (v.map f) a b c d e g h i) t
def sS(tk:Nat->KV)(o:KO):KO:=@KO.rec (λzz=>KO) (λn xs=>.list n (eK tk xs)) (λn es=>.dict n (gX tk es)) .set (λc fs=>.inst c (Cz (eK tk) fs)) (λq cs=>.clo q (eK tk cs)) .junk (λa m=>.pd (gX tk a) (gX tk m)) o
def sB(tk:Nat->KV)(s:KS):KS:=⟨Cz (sS tk) s.h,s.n⟩
end
theorem mj{α β:Type}(f:α->β):∀(q:Pa)(t:T α),tg q (Cz f t)=(tg q t).map f:=by
 intro q;induction q with
 |e=>intro t;cases t<;>rfl
 |a q ih=>intro t;cases t with|nil=>rfl|nd v a b c d e g h i=>exact ih a
 |b q ih=>intro t;cases t with|nil=>rfl|nd v a b c d e g h i=>exact ih b
 |c q ih=>intro t;cases t with|nil=>rfl|nd v a b c d e g h i=>exact ih c
 |d q ih=>intro t;cases t with|nil=>rfl|nd v a b c d e g h i=>exact ih d
 |f q ih=>intro t;cases t with|nil=>rfl|nd v a b c d e g h i=>exact ih e
 |g q ih=>intro t;cases t with|nil=>rfl|nd v a b c d e g h i=>exact ih g
 |h q ih=>intro t;cases t with|nil=>rfl|nd v a b c d e g h i=>exact ih h
 |i q ih=>intro t;cases t with|nil=>rfl|nd v a b c d e g h i=>exact ih i
section
variable{C:Cx}{tk:Nat->KV}{s:KS}{p:Pa->Bool}{Z:Pa->KV->Prop}
theorem Gp{m:Nat}:∀{x:KV},tk m=x->pl x=true->VS tk some Z x (.tok (m+2)):=by
 intro x e h;cases x with
 |none=>exact .inr ⟨m,rfl,e⟩
 |nat=>exact .inr ⟨m,rfl,e⟩
 |neg=>exact .inr ⟨m,rfl,e⟩
 |str=>exact .inr ⟨m,rfl,e⟩
 |_=>exact aD h
theorem qy:∀x:KV,VS tk some Z (eK tk x) x:=by
 intro x;induction x with
 |cons x r i1 i2=>exact⟨x,r,rfl,i1,i2⟩
 |none=>exact .inl rfl
 |nat=>exact .inl rfl
 |neg=>exact .inl rfl
 |str=>exact .inl rfl
 |nil=>exact rfl
 |bool=>exact rfl
 |ref q=>exact⟨q,rfl,rfl⟩
 |fl x ih=>exact⟨x,ih,.inl rfl⟩
 |tok n=>
  match n with
  |0=>exact .inl rfl
  |1=>exact .inl rfl
  |n+2=>
   show VS tk some Z (bif pl (tk n)then tk n else .tok (n+2)) _;cases e:pl (tk n)with
   |true=>exact Gp rfl e
   |false=>exact .inl rfl
theorem Bu:∀es:KD,DS (VS tk some Z) (gX tk es) es
 |.nil=>rfl
 |.cons a w r=>⟨w,r,rfl,qy w,Bu r⟩
theorem im{x:KV}:∀es:KD,dl (gX tk es) x=(dl es x).map (eK tk)
 |.nil=>rfl
 |.cons a w r=>by
  show@Ue (λzz=>Option KV) (dl (gX tk r) x) (.some (eK tk w)) (cM a x)=Option.map _ (@Ue (λzz=>Option KV) (dl r x) (.some w) (cM a x));cases cM a x with
  |true=>rfl
  |false=>exact im r
theorem Fd{x:KV}(h:pl x=true):pt p x=true∧JB x=true:=by cases x<;>first|exact⟨rfl,rfl⟩|exact aD h
theorem BJ:∀{x:KV},(pt p x=true->pt p (eK tk x)=true)∧(JB x=true->JB (eK tk x)=true):=by
 intro x;induction x with
 |cons x r i1 i2=>exact⟨λh=>gm (i1.1 (ax h).1) (i2.1 (ax h).2),λh=>gm (i1.2 (ax h).1) (i2.2 (ax h).2)⟩
 |fl x ih=>exact⟨ih.1,λh=>h⟩
 |tok n=>
  match n with
  |0=>exact⟨λh=>h,λh=>h⟩
  |1=>exact⟨λh=>h,λh=>h⟩
  |n+2=>
   show(_->pt p (bif pl (tk n)then tk n else .tok (n+2))=true)∧(_->JB (bif pl (tk n)then tk n else .tok (n+2))=true);cases e:pl (tk n)with
   |true=>exact⟨λzz=>(Fd e).1,λzz=>(Fd (p:=p) e).2⟩
   |false=>exact⟨λh=>h,λh=>h⟩
 |_=>exact⟨λh=>h,λh=>h⟩
theorem mM:∀{es:KD},(G5 p es=true->G5 p (gX tk es)=true)∧(yH es=true->yH (gX tk es)=true)
 |.nil=>⟨λh=>h,λh=>h⟩
 |.cons a w r=>⟨λh=>gm (BJ.1 (ax h).1) (mM.1 (ax h).2),λh=>gm ((BJ (p:=p)).2 (ax h).1) (mM.2 (ax h).2)⟩
def Pz(p:KV->Bool)(fs:T KV):Prop:=∀q x,tg q fs=some x->p x=true
def Co(p:Pa->Bool)(o:KO):Prop:=match o with
 |.list _ xs=>pt p xs=true
 |.dict _ es=>G5 p es=true
 |.set _=>True
 |.inst _ fs=>Pz (pt p) fs
 |.clo _ cs=>pt p cs=true
 |.junk _=>True
 |.pd a m=>yH a=true∧yH m=true
theorem Co.of{o:KO}(h:Kh p o=true):Co p o:=by
 cases o with
 |list=>exact h
 |dict=>exact h
 |set=>exact trivial
 |inst c fs=>exact λq x k=>vY (p:=pt p) h k
 |clo=>exact h
 |junk=>exact trivial
 |pd a m=>exact ax h
theorem AD{φ:Pa->Option Pa}{o:KO}(hp:∀q,p q=true->φ q=some q)(h:Co p o):OS C (VS C.tk φ Z) (λx y=>∀(R:Wd) w,VR C R y w->VR C R x w) o o:=by
 cases o with
 |list n xs=>exact⟨xs,rfl,vQ hp h⟩
 |dict n es=>exact⟨es,rfl,FR hp h⟩
 |set xs=>exact rfl
 |junk n=>exact rfl
 |clo q cs=>exact⟨cs,rfl,vQ hp h⟩
 |inst c fs=>
  refine⟨fs,rfl,λq=>?_⟩;cases e:tg q fs with
  |none=>exact trivial
  |some x=>exact vQ hp (h q x e)
 |pd a m=>exact⟨oF h.1,oF h.2,.inl ⟨a,m,rfl,Bv (λY Y Y h=>h) a,Bv (λY Y Y h=>h) m⟩⟩
theorem Gq{x:KV}(h:JB x=true)(R:Wd):(∀v,VR C R x v->VR C R (eK C.tk x) v)∧∀vs,bG C R x vs->bG C R (eK C.tk x) vs:=by
 induction x with
 |cons x r i1 i2=>
  exact jF rfl (i1 (ax h).1).1 (i2 (ax h).2).2
 |ref=>exact aD h
 |fl=>exact aD h
 |tok n=>
  match n with
  |0=>exact⟨λzz h=>h,λzz h=>h⟩
  |1=>exact⟨λzz h=>h,λzz h=>h⟩
  |n+2=>
   refine⟨λv hv=>?_,λvs hv=>hv.elim⟩;show VR C R (bif pl (C.tk n)then C.tk n else .tok (n+2)) v;cases e:pl (C.tk n)with
   |true=>exact(nK e).mpr hv
   |false=>exact hv
 |_=>exact⟨λzz h=>h,λzz h=>h⟩
theorem rF:∀{es:KD},yH es=true->DS (λx y=>∀(R:Wd) w,VR C R y w->VR C R x w) (gX C.tk es) es
 |.nil,_=>rfl
 |.cons a w r,h=>⟨w,r,rfl,λR v k=>(Gq (ax h).1 R).1 v k,rF (ax h).2⟩
theorem IT{o:KO}(h:Co p o):OS C (VS C.tk some Z) (λx y=>∀(R:Wd) w,VR C R y w->VR C R x w) (sS C.tk o) o:=by
 cases o with
 |list n xs=>exact⟨xs,rfl,qy xs⟩
 |dict n es=>exact⟨es,rfl,Bu es⟩
 |set xs=>exact rfl
 |junk n=>exact rfl
 |clo q cs=>exact⟨cs,rfl,qy cs⟩
 |inst c fs=>
  refine⟨fs,rfl,λq=>?_⟩;refine rwr (show tg q (Cz (eK C.tk) fs)=_ from mj _ q fs) ?_;cases e:tg q fs with
  |none=>exact trivial
  |some x=>exact qy x
 |pd a m=>exact⟨oF ((mM (p:=λzz=>true)).2 h.1),oF ((mM (p:=λzz=>true)).2 h.2),.inl ⟨a,m,rfl,rF h.1,rF h.2⟩⟩
theorem ml(q:Pa):tg q (sB tk s).h=(tg q s.h).map (sS tk):=mj _ q s.h
theorem Em(wf:Wf s)(h:∀q o,tg q s.h=some o->Co p o):N8 C some (λZ Z=>False) (sB C.tk s) s where
 next:=ag wf λm e f=>⟨m,e,λi hi=>by rw[ml,f i hi];rfl⟩
 fwd:=λq o ho=>by
  rw[ml]at ho;refine xT ho ?_;rintro o' h1 rfl;exact⟨q,o',rfl,h1,IT (h q o' h1)⟩
 dom:=λq q' o e ho=>by
  cases e;exact⟨_,by rw[ml,ho];rfl⟩
 inj:=λq p q' h1 h2=>by cases h1;cases h2;rfl
 zl:=λZ Z h=>h.elim
 zf:=λZ Z Z h=>h.elim
end
theorem At:∀q:Pa,q=.e∨∃p,q=qs p:=by
 intro q;induction q with
 |e=>exact .inl rfl
 |a q ih=>rcases ih with rfl|⟨p,rfl⟩;exact .inr ⟨.e,rfl⟩;exact .inr ⟨.i p,rfl⟩
 |b q=>exact .inr ⟨.a q,rfl⟩
 |c q=>exact .inr ⟨.b q,rfl⟩
 |d q=>exact .inr ⟨.c q,rfl⟩
 |f q=>exact .inr ⟨.d q,rfl⟩
 |g q=>exact .inr ⟨.f q,rfl⟩
 |h q=>exact .inr ⟨.g q,rfl⟩
 |i q=>exact .inr ⟨.h q,rfl⟩
theorem uS:∀(n:Nat)(q:Pa),aY q=n->q=bD n
 |0,q,h=>by
  rcases At q with rfl|⟨p,rfl⟩
  ·rfl
  ·rw[jg]at h;cases h
 |n+1,q,h=>by
  rcases At q with rfl|⟨p,rfl⟩
  ·cases h
  ·rw[jg]at h;exact congrArg qs (uS n p (Nat.succ.inj h))
theorem sQ{p q:Pa}(h:aY p=aY q):p=q:=(uS _ p rfl).trans ((congrArg bD h).trans (uS _ q rfl).symm)
section
variable{tk:Nat->KV}{Z:Pa->KV->Prop}{as:List Pa}{tv:Nat->KV->Bool}{C:Cx}{s:KS}
theorem BL(ht:∀n y,tv n y=true->y=.tok n∨∃m,n=m+2∧y=tk m∧pl y=true):∀{x y:KV},MU as tv x y=true->VS tk (λq=>tg q (d7 as)) Z x y:=by
 intro x;induction x with
 |none=>intro y h;cases y<;>first|exact .inl rfl|exact aD h
 |bool=>exact λh=>aD h
 |nat n=>intro y h;cases y<;>first|exact .inl (congrArg KV.nat (T6 h).symm)|exact aD h
 |neg=>exact λh=>aD h
 |str n=>intro y h;cases y<;>first|exact .inl (congrArg KV.str (T6 h).symm)|exact aD h
 |nil=>intro y h;cases y<;>first|rfl|exact aD h
 |cons x r i1 i2=>intro y h;cases y<;>first|exact⟨_,_,rfl,i1 (ax h).1,i2 (ax h).2⟩|exact aD h
 |ref q=>
  intro y h;cases y with
  |ref q'=>
   have h:@Vd Pa (λzz=>Bool) false (λp=>SS (aY q') (aY p)) (tg q (d7 as))=true:=h;show∃p,tg q (d7 as)=some p∧_;cases e:tg q (d7 as)with
   |none=>rw[e]at h;exact aD h
   |some p=>rw[e]at h;exact⟨p,rfl,congrArg KV.ref (sQ (T6 h))⟩
  |_=>exact aD h
 |tok n=>exact λ{y} h=>ht n y h
 |fl=>exact λh=>aD h
theorem BM(ht:∀n y,tv n y=true->y=.tok n∨∃m,n=m+2∧y=tk m∧pl y=true):∀{d e:KD},Pu as tv d e=true->DS (VS tk (λq=>tg q (d7 as)) Z) d e
 |.nil,.nil,_=>rfl
 |.nil,.cons _ _ _,h=>aD h
 |.cons _ _ _,.nil,h=>aD h
 |.cons a w r,.cons b v r',h=>by
  have h:dj (cM a b) (dj (pk a) (dj (MU as tv w v) (Pu as tv r r')))=true:=h;refine aI h ?_;clear h;intro h1 h;refine aI h ?_;clear h;intro h2 h;refine aI h ?_;clear h;intro h3 h4;cases fx h1;exact⟨v,r',rfl,BL ht h3,BM ht h4⟩
theorem Ki{W:KV->KV->Prop}(ht:∀n y,tv n y=true->y=.tok n∨∃m,n=m+2∧y=C.tk m∧pl y=true){o o':KO}(hj:o≠.junk 0)(h:Ps as tv o o'=true)(hd:∀n,o≠.junk n):OS C (VS C.tk (λq=>tg q (d7 as)) Z) W o o':=by
 cases o with
 |list n xs=>
  cases o' with
  |list m ys=>cases T6 (ax h).1;exact⟨ys,rfl,BL ht (ax h).2⟩
  |_=>exact aD h
 |dict n es=>
  cases o' with
  |dict m fs=>cases T6 (ax h).1;exact⟨fs,rfl,BM ht (ax h).2⟩
  |_=>exact aD h
 |junk n=>exact absurd rfl (hd n)
 |_=>exact aD h
theorem AJ:∀{as:List Pa},Dz (as.map aY)=true->as.Nodup
 |[],_=>Vt
 |a::r,h=>by
  refine aI (show dj (!(r.map aY).any (SS (aY a))) (Dz (r.map aY))=true from h) ?_;intro h1 h2;refine U3.mpr ⟨λz=>?_,AJ h2⟩;have:(r.map aY).any (SS (aY a))=true:=List.any_eq_true.mpr ⟨aY a,VE z,UX _⟩;rw[this]at h1;exact aD h1
theorem u7:∀{os:List KO}{r:List Pa},EA as tv s os r=true->r.length=os.length
 |[],[],_=>rfl
 |o::os,a::r,h=>congrArg Te (u7 (ax h).2)
 |[],_::_,h=>aD h
 |_::_,[],h=>aD h
theorem xg:∀{os:List KO}{r:List Pa},EA as tv s os r=true->∀(i:Nat)(o:KO)(a:Pa),os[i]?=some o->r[i]?=some a->∃o',tg a s.h=some o'∧Ps as tv o o'=true
 |o::os,a::r,h,0,_,_,h1,h2=>by cases h1;cases h2;exact nM (ax h).1
 |o::os,a::r,h,i+1,o1,a1,h1,h2=>xg (ax h).2 i o1 a1 h1 h2
 |[],_,_,_,_,_,h1,_=>by cases h1
 |_::_,[],h,_,_,_,_,_=>aD h
end
section
variable{C:Cx}{s:KS}{en en2:En}{objs:List KO}
theorem Eo(h:∀i o,objs[i]?=some o->∃o',tg (bD i) s.h=some o'∧OS C (VS C.tk (λq=>tg q (d7 (qg objs.length))) λZ Z=>False) (λx y=>∀(R:Wd) w,VR C R y w->VR C R x w) o o')(he:∀q x,tg q en2=some x->∃y,tg q en=some y∧VS C.tk (λq=>tg q (d7 (qg objs.length))) (λZ Z=>False) x y):yu C en s en2 (pU objs):=
 ⟨_,_,kG (BW _) (by unfold qg;rw[TL,List.length_range]) λi o a ho ha=>(Kr ha).1▸h i o ho,he⟩
end
end
end
section
set_option compiler.extract_closed false
section
open PySem PySem.W PyProof.Rows
section
variable{c:Cl}{e e':En}{s s' s'':KS}{x y:X}{v w:KV}{q:Pa}
theorem DE(i:Int){k:KT}(h:k s (.nat (xb i))=true):gS k (C9 i) s (.nat 720720)=true:=by cases i<;>exact h
theorem BH{l:List Int}(hq:tg q s.h=some (.list l.length (aC (l.map C9)))):∀(r pre:List Int)(acc:List KV)(n:Nat)(e:En),l=pre++r->r.length<n->
  ∀k:KS->KV->Bool,k s (aC (acc.reverse++fc (r.map xb)))=true->Ce (t1 .e) (bj gS (ae .e) (af (.nat 720720))) iB c k n (.list q pre.length) e (aC acc) s=true
 |r,pre,acc,0,e,hl,hn,k,h=>by cases hn
 |[],pre,acc,n+1,e,hl,hn,k,h=>by
  have hz:(l.map C9)[pre.length]?=none:=by rw[hl,Ul,Tr,Ud (TA _)];rfl
  refine G1 (mu hq hz) ?_;show k s (uR (aC acc) (aC []))=true;rw[l5];exact h
 |v::r,pre,acc,n+1,e,hl,hn,k,h=>by
  have hz:(l.map C9)[pre.length]?=some (C9 v):=by rw[hl];simp
  refine G2 (i7 hq hz) ?_;have ev:Ev c (bj gS (ae .e) (af (.nat 720720))) (tp .e (C9 v) e) s (.nat (xb v)) s:=λk hk=>ah (aW _ _ _) _ (DE v hk);refine ev _ ?_;have h3:=BH hq r (pre++[v]) (.nat (xb v)::acc) n (tp .e (C9 v) e) (by rw[hl];simp) (by simpa using hn) k (by rw[VT,UP];exact h);rw[Td]at h3;exact h3
theorem uc{k:En->Bool}(h:k .nil=true):jC .nil .e .nil k=true:=h
theorem GG{l:List Int}(hl:l.length≤100):∃s q,St c (yq (iH l)) .nil ⟨.nil,.e⟩ (tp (.a .e) (.ref q) .nil) s∧Wf s∧tg q s.h=some (.list (l.map xb).length (aC (fc (l.map xb)))):=by
 have wf:Wf ⟨.nil,.e⟩:=⟨0,rfl,λi Z=>dU _⟩
 have x1:Xt ⟨.nil,.e⟩ (bz ⟨.nil,.e⟩ (.list (len (iH l)) (iH l))):=.new wf;have e1:len (iH l)=l.length:=by unfold iH;rw[g9,TL]
 have n1:tg .e (bz ⟨.nil,.e⟩ (.list (len (iH l)) (iH l))).h=some (.list l.length (aC (l.map C9))):=by rw[e1];exact dB (s:=⟨.nil,.e⟩)
 refine⟨_,_,λF k hk=>?_,(Xt.new (o:=.list (l.map xb).length (aC (fc (l.map xb)))) x1.wf).wf,dB⟩;have nl:(fc (l.map xb)).length=(l.map xb).length:=TL _;have z:=BH (c:=c) n1 l [] [] kR .nil rfl (by show l.length<5000;exact U4 hl (TB (Te 100) 4899)) (λs' xs=>lO (λs v=>k (tp (.a .e) v .nil) s) s' (len xs) xs) (by
  show lO _ _ (len (aC (fc (l.map xb)))) (aC (fc (l.map xb)))=true;rw[g9,nl];exact kz (by rw[TL];exact SV hl (TB 100 99900)) hk)
 unfold yq ao fS Ju;exact bu (c:=c) _ (uc z)
end
section
variable{v w:KV}
theorem x9:∀{es:KD},dl es w=none->dset es w v=Nv es (.cons w v .nil)
 |.nil,_=>rfl
 |.cons a b r,h=>by
  have h:@Ue (λzz=>Option KV) (dl r w) (.some b) (cM a w)=none:=h;show@Ue (λzz=>KD) (.cons a b (dset r w v)) (.cons a v r) (cM a w)=.cons a b (Nv r (.cons w v .nil));cases z:cM a w with
  |true=>rw[z]at h;exact Ff h
  |false=>rw[z]at h;exact congrArg (KD.cons a b) (x9 h)
end
noncomputable def Nf:Pa:=.g (.f .e)
noncomputable def Oh:Pa:=.h (.f .e)
theorem NX:tg Nf bF=some (.fn 1 .nil PT):=by kernel_rfl
theorem NW:tg Oh bF=some (.fn 1 .nil PQ):=by kernel_rfl
noncomputable def KG(d:Nat):KV:=bif SS (d%4) 0 then .none else two (jE.getD (d/4%3) .none) (.nat (1+d/12%3))
section
variable{e e':En}{s s':KS}{q qt qr:Pa}{d n:Nat}{ds:List Nat}{es:KD}{nm:KV}
theorem wt(wf:Wf s)(hq:tg q s.h=some (.list ds.length (aC (fc ds)))):∃s',Ca (aT bF (d+1)) Nf (.cons (.ref q) .nil) s (.nat (ds.headD 0)) s'∧Wf s'∧tg q s'.h=some (.list ds.tail.length (aC (fc ds.tail)))∧∀p o,p≠q->tg p s.h=some o->tg p s'.h=some o:=by
 have t:Tc (aT bF d) (cT (ae .e)) (tp .e (.ref q) .nil) s (!SS ds.length 0) s:=Gz (ah rfl) λt f=>Cy hq t f;have fin:∀{v:KV}{s':KS},Ev (aT bF d) (iL (cT (ae .e)) (rW (ae .e)) (af (.nat 0))) (tp .e (.ref q) .nil) s v s'->Ca (aT bF (d+1)) Nf (.cons (.ref q) .nil) s v s':=λh=>qc (e0:=tp .e (.ref q) .nil) NX rfl (λk h=>h) (bW (eA h));cases ds with
 |nil=>exact⟨s,fin (vk t ay),wf,hq,λZ Z Z h=>h⟩
 |cons a r=>exact⟨_,fin (rE t (Ec (r:=aC (fc r)) (ah rfl) hq)),wf.put hq,i6,λp o h k=>(bO h).trans k⟩
theorem Dk:Ca (aT bF (d+1)) Oh (.cons (.nat n) .nil) s (KG n) s:=by
 have hc:tg .e (tp .e (KV.nat n) (T.nil:T KV))=some (.nat n):=rfl;refine qc (e0:=tp .e (.nat n) .nil) NW rfl (λk h=>h) ?_;generalize tp .e (KV.nat n) (T.nil:T KV)=e at*;have t:=hU (c:=aT bF d) (lu (b:=3) (ah (s:=s) hc) ay) (ay (v:=.nat 0));unfold KG;cases z:SS (n%4) 0 with
 |true=>rw[z]at t;exact bW (fO t (bW (eA ay)))
 |false=>
  rw[z]at t;refine bp (bN t bY) (bW (eA (ar (s':=s) ?_ (ar (s':=s) ?_ bu))))
  ·exact wT (j3 (vs:=aC jE) (ar ay (ar ay (ar ay bu))) (show 3≤100000 by decide)) (lu (b:=2) (tQ (b:=3) (ah hc) ay (by decide)) ay) (NK (Uz _ (by decide)))
  ·exact gI ay (lu (b:=2) (tQ (b:=11) (ah hc) ay (by decide)) ay)
structure PA(qt qr:Pa)(ds:List Nat)(n:Nat)(es:KD)(e:En)(s:KS):Prop where
 wf:Wf s
 ea:tg (.a .e) e=some (.ref qt)
 ec:tg (.c .e) e=some (.ref qr)
 t:tg qt s.h=some (.list ds.length (aC (fc ds)))
 r:tg qr s.h=some (.dict n es)
 ne:qt≠qr
def QP:Y:=ac (bR (ae (.c .e)) (ae (.d .e)) (b8 Oh (ad (b8 Nf (ad (ae (.a .e)) aj)) aj))) ab
theorem GD{c:Cl}{x o i:X}{v w:KV}{s':KS}(hx:Ev c x e s v s')(ho:Ev c o e s' (.ref q) s')(hi:Ev c i e s' w s')(hq:tg q s'.h=some (.dict n es))(hp:pk w=true)(hn:n+1≤100000)(hd:dl es w=none):St c (bR o i x) e s e (bV s' q (.dict (n+1) (dset es w v))):=λF k h=>
 hx _ (ho _ (hi _ (bH hq (aO.mpr ⟨hp,aO.mpr ⟨SY hn,by unfold cC;refine rwr hd ?_;exact h⟩⟩))))
theorem mr(I:PA qt qr ds n es e s)(hn:n<100)(hp:pk nm=true)(hd:dl es nm=none):∃s',St oK QP (tp (.d .e) nm e) s (tp (.d .e) nm e) s'∧PA qt qr ds.tail (n+1) (Nv es (.cons nm (KG (ds.headD 0)) .nil)) (tp (.d .e) nm e) s'∧∀p o,p≠qt->p≠qr->tg p s.h=some o->tg p s'.h=some o:=by
 have ea:tg (.a .e) (tp (.d .e) nm e)=some (.ref qt):=(am _ (uV rfl)).trans I.ea;have ec:tg (.c .e) (tp (.d .e) nm e)=some (.ref qr):=(am _ (uV rfl)).trans I.ec;refine d9 (wt (d:=59) I.wf I.t) ?_;intro s1 c1 wf1 t1 k1;have r1:=k1 _ _ I.ne.symm I.r;have st:=GD (c:=oK) (gD (ar (gD (ar (ah ea) bu) c1) bu) Dk) (ah ec) (ah (aW _ _ _)) r1 hp (SV hn (TB 100 99900)) hd;refine⟨_,bJ st,⟨wf1.put r1,ea,ec,(bO I.ne).trans t1,by rw[←x9 hd];exact i6,I.ne⟩,λp o h1 h2 h=>(bO h2).trans (k1 _ _ h1 h)⟩
structure KB(h:Nat)(v:Nat->Nat)(ds:List Nat)(qt qr:Pa)(e:En)(s:KS):Prop where
 wf:Wf s
 ea:tg (.a .e) e=some (.ref qt)
 eb:tg (.b .e) e=some (.nat h)
 ec:tg (.c .e) e=some (.ref qr)
 t:tg qt s.h=some (.list ds.length (aC (fc ds)))
 r:tg qr s.h=some (.dict 4 (uk λi=>KG (v i)))
 ne:qt≠qr
noncomputable def IX:List KV:=[dM .p,dM .q,dM .r,cU]
theorem GF{ds:List Nat}(wf:Wf s)(ea:tg (.a .e) e=some (.ref qt))(ht:tg qt s.h=some (.list ds.length (aC (fc ds)))){h:Nat}(eb:tg (.b .e) e=some (.nat h)):∃e' s' qr v ds',St oK (ac N6 (ac Ny ab)) e s e' s'∧KB h v ds' qt qr e' s'∧ds'.length≤ds.length:=by
 have x1:Xt s (bz s (.dict 0 .nil)):=.new wf;have n1:tg s.n (bz s (.dict 0 .nil)).h=some (.dict 0 .nil):=dB;have a1:St oK N6 e s (tp (.c .e) (.ref s.n) e) (bz s (.dict 0 .nil)):=bg λk h=>h;have d1:=wf.ne ht;generalize bz s (.dict 0 .nil)=s1 at*;have x2:Xt s1 (bz s1 (aK IX)):=.new x1.wf;have n2:tg s1.n (bz s1 (aK IX)).h=some (aK IX):=dB;have e2:Ev oK (aS (ad (af (dM .p)) (ad (af (dM .q)) (ad (af (dM .r)) (ad (af cU) aj))))) (tp (.c .e) (.ref s.n) e) s1 (.ref s1.n) (bz s1 (aK IX)):=mG (vs:=aC IX) (ar ay (ar ay (ar ay (ar ay bu)))) (show 4≤100000 by decide);have d2:s1.n≠s.n:=(x1.wf.ne n1).symm;have d3:s1.n≠qt:=(x1.wf.ne (x1.keep _ _ ht)).symm;have I0:PA qt s.n ds 0 .nil (tp (.c .e) (.ref s.n) e) (bz s1 (aK IX)):=⟨x2.wf,(am _ (uV rfl)).trans ea,aW _ _ _,x2.keep _ _ (x1.keep _ _ ht),x2.keep _ _ n1,d1⟩
 have eb:tg (.b .e) (tp (.c .e) (.ref s.n) e)=some (.nat h):=(am _ (uV rfl)).trans eb;generalize bz s1 (aK IX)=s2 at*;generalize tp (.c .e) (.ref s.n) e=e1 at*;refine aM (mr (nm:=dM .p) I0 (by decide) rfl rfl) ?_;intro s3 st3 I3 k3;refine aM (mr (nm:=dM .q) I3 (by decide) rfl rfl) ?_;intro s4 st4 I4 k4;refine aM (mr (nm:=dM .r) I4 (by decide) rfl rfl) ?_;intro s5 st5 I5 k5;refine aM (mr (nm:=cU) I5 (by decide) rfl rfl) ?_;intro s6 st6 I6 k6;have m3:=k3 _ _ d3 d2 n2;have m4:=k4 _ _ d3 d2 m3;have m5:=k5 _ _ d3 d2 m4;have m6:=k6 _ _ d3 d2 m5;refine⟨_,s6,s.n,λi=>match i with|0=>ds.headD 0|1=>ds.tail.headD 0|2=>ds.tail.tail.headD 0|_=>ds.tail.tail.tail.headD 0,_,bl a1 (bJ (zp (wJ e2 n2) (ku (i7 n2 rfl) (λk h=>h) st3 (ku (i7 m3 rfl) (λk h=>h) st4 (ku (i7 m4 rfl) (λk h=>h) st5 (ku (i7 m5 rfl) (λk h=>h) st6 (AQ (n:=4995) (mu m6 rfl) bY))))))),⟨I6.wf,I6.ea,?_,I6.ec,I6.t,I6.r,I6.ne⟩,?_⟩
 ·exact(am _ (uV rfl)).trans ((am _ (uV rfl)).trans ((am _ (uV rfl)).trans ((am _ (uV rfl)).trans eb)))
 ·have:∀l:List Nat,l.tail.length≤l.length:=λl=>by rw[List.length_tail];exact WA _ _
  exact SV (this _) (SV (this _) (SV (this _) (this _)))
theorem GE{l:List Int}(hl:l.length≤100):∃e0 s0,St oK (yq (iH l)) .nil ⟨.nil,.e⟩ e0 s0∧∃e s qt qr h v ds,St oK yA e0 s0 e s∧KB h v ds qt qr e s∧ds.length≤l.length:=by
 refine aH (GG (c:=oK) hl) ?_;intro s0 q st0 wf0 h0;refine⟨_,s0,st0,?_⟩;have ea:tg (.a .e) (tp (.a .e) (KV.ref q) (T.nil:T KV))=some (KV.ref q):=rfl;generalize tp (.a .e) (KV.ref q) (T.nil:T KV)=e0 at*;have ld:(l.map xb).length=l.length:=TL _;generalize l.map xb=ds at*;refine d9 (wt (d:=59) wf0 h0) ?_;rintro s1 c1 wf1 t1 -;have st1:St oK NA e0 s0 (tp (.b .e) (.nat (ds.headD 0)) e0) s1:=bg (gD (ar (ah ea) bu) c1);obtain⟨e',s',qr,v,ds',st,A,lt⟩:=GF (e:=tp (.b .e) (.nat (ds.headD 0)) e0) wf1 ((am _ (uV rfl)).trans ea) t1 (aW _ _ _);exact⟨e',s',q,qr,_,v,ds',bl st1 st,A,SV lt (by rw[List.length_tail,ld];exact WA _ _)⟩
end
end
end
section
set_option compiler.extract_closed false
section
open PySem PySem.W PyProof.Rows
section
variable{c:Cl}{e e':En}{s s' s'':KS}{x y:X}{v w:KV}{q:Pa}{l:List KV}
theorem wW{p:Pa}{n:Nat}{xs ys:KV}(hx:Ev c x e s (.ref p) s')(hy:Ev c y e s' (.fl ys) s'')(hp:tg p s''.h=some (.list n xs))(hn:n+len ys≤100000):Ev c (bj cI x y) e s (.ref s''.n) (bz s'' (.list (n+len ys) (Internal.app xs ys))):=λk h=>hx _ (hy _ (bH hp (kz hn h)))
end
noncomputable def Og:Pa:=.b (.g .e)
theorem NV:tg Og bF=some (.fn 3 .nil NJ):=by kernel_rfl
def Sg(x:KV):Prop:=∃y:Si,x=iw y
def eQ(l:List KV):Prop:=∀x∈l,Sg x
theorem Sg.pk{x:KV}(h:Sg x):pk x=true:=by obtain⟨y,rfl⟩:=h;cases y with|o z=>cases z<;>rfl|_=>rfl
theorem eQ.app{l m:List KV}(h:eQ l)(k:eQ m):eQ (l++m):=λx hx=>(UC.mp hx).elim (h x) (k x)
theorem eQ.snoc{l:List KV}{z:KV}(h:eQ l)(k:Sg z):eQ (l++[z]):=h.app λx hx=>U9.mp hx▸k
theorem BS:∀{ws:List KV},eQ ws->∃w:List Si,ws=w.map iw
 |[],_=>⟨[],rfl⟩
 |x::ws,h=>by
  refine aw (BS (ws:=ws) λy hy=>h y (T5 _ hy)) ?_;rintro w rfl;refine aw (h x SX) ?_;rintro y rfl;exact⟨y::w,rfl⟩
section
variable{c:Cl}{e e':En}{s s' s'':KS}{x y:X}{v w z:KV}{q p:Pa}{l:List KV}{n:Nat}{es:KD}
theorem JH(hx:Ev c x e s (.ref q) s')(hq:tg q s'.h=some (.dict n es))(hn:n≤100000):Ev c (gu x) e s (.ref s'.n) (bz s' (.list n (kF es))):=λk h=>hx _ (bH hq (kz hn h))
theorem Bl{m:Nat}{xs ys:KV}(hx:Ev c x e s (.fl xs) s')(hy:Ev c y e s' (.ref q) s'')(hq:tg q s''.h=some (.list m ys))(hn:len xs+m≤100000):Ev c (bj cI x y) e s (.ref s''.n) (bz s'' (.list (len xs+m) (Internal.app xs ys))):=λk h=>hx _ (hy _ (bH hq (kz hn h)))
theorem BN(hq:tg q s.h=some (aK l))(hp:∀x∈l,pk x=true)(hz:pk z=true):∀(r pre acc:List KV)(n:Nat)(e:En),l=pre++r->r.length<n->∀k:KS->KV->Bool,k s (aC (acc.reverse++r.filter λx=>cM x z))=true->Ce (t1 .e) (ae .e) (aA eI (ae .e) (af z)) c k n (.list q pre.length) e (aC acc) s=true
 |r,pre,acc,0,e,hl,hn,k,h=>by cases hn
 |[],pre,acc,n+1,e,hl,hn,k,h=>by
  refine G1 (mu hq (by rw[hl,Ul];exact Ud (TA _))) ?_;show k s (uR (aC acc) (aC []))=true;rw[l5];exact h
 |v::r,pre,acc,n+1,e,hl,hn,k,h=>by
  refine G2 (i7 hq (v:=v) (by rw[hl];simp)) ?_;have tc:=jG (c:=c) (e:=tp .e v e) (s:=s) (ah (q:=.e) (aW _ _ _)) (ay (v:=z)) (hp v (hl▸TU _ SX)) hz;have ih:=λacc'=>BN hq hp hz r (pre++[v]) acc' n (tp .e v e) (by rw[hl];simp) (by simpa using hn) k;rw[Td]at ih;refine tc _ _ ?_;rw[List.filter_cons]at h;cases b:cM v z with
  |true=>
   rw[b]at h;exact(ah (c:=c) (s:=s) (q:=.e) (aW _ _ _):Ev c (ae .e) (tp .e v e) s v s) (λs w=>Ce (t1 .e) (ae .e) (aA eI (ae .e) (af z)) c k n (.list q (pre.length+[v].length)) (tp .e v e) (.cons w (aC acc)) s) (ih (v::acc) (by rw[VT,UP];exact h))
  |false=>rw[b]at h;exact ih acc h
theorem wU(hx:Ev c x e s (.ref q) s)(hq:tg q s.h=some (aK l))(hl:l.length≤1000)(hp:∀x∈l,pk x=true)(hz:pk z=true):Ev c (fS (aG x) aj (t1 .e) (ae .e) (aA eI (ae .e) (af z))) e s (.ref s.n) (bz s (aK (l.filter λx=>cM x z))):=λk h=>by
 refine hx _ (bH hq ?_);show aj c e (λs cs=>jC cs .e .nil λe=>Ce (t1 .e) (ae .e) (aA eI (ae .e) (af z)) c (λs xs=>lO k s (len xs) xs) kR (.list q 0) e .nil s) s=true;refine bu (c:=c) (e:=e) (s:=s) (λs cs=>jC cs .e .nil λe=>Ce (t1 .e) (ae .e) (aA eI (ae .e) (af z)) c (λs xs=>lO k s (len xs) xs) kR (.list q 0) e .nil s) (uc ?_);refine BN hq hp hz l [] [] kR .nil rfl (U4 hl (by decide)) _ ?_;show lO k s (len (aC (l.filter _))) (aC (l.filter _))=true;rw[g9];exact kz (SV (WT _ _) (SV hl (by decide))) h
theorem Ao{z:KV}:∀n,Dj (.cons z .nil) n=aC (UN n z)
 |0=>rfl
 |n+1=>congrArg (KV.cons z) (Ao n)
theorem Ea{m:Nat}(hx:Ev c x e s (.fl (.cons z .nil)) s')(hy:Ev c y e s' (.nat m) s'')(hm:m≤1000):Ev c (xo x y) e s (.fl (aC (UN m z))) s'':=λk h=>hx _ (hy _ (by
 show az (T3 (Nat.mul 1 m) 100000) false (az (T3 m 100000) false (k s'' (.fl (Dj (.cons z .nil) m))))=true;rw[Ao,Nat.mul_eq,Nat.one_mul,SY (SV hm (by decide:1000≤100000))];exact h))
theorem Eb{m:Nat}(hx:Ev c x e s (.fl (.cons z .nil)) s')(hy:Ev c y e s' (.neg m) s'')(hm:m≤1000):Ev c (xo x y) e s (.fl .nil) s'':=λk h=>hx _ (hy _ (by
 show az (T3 m 100000) false (k s'' (.fl .nil))=true;rw[SY (SV hm (by decide:1000≤100000))];exact h))
theorem JE{a b:Nat}(hx:Ev c x e s (.nat a) s')(hy:Ev c y e s' (.nat b) s'')(hl:a<b):Ev c (bj lP x y) e s (.neg (b-(a+1))) s'':=λk h=>hx _ (hy _ (by
 show az (T3 b a) _ _=true;cases e:T3 b a with
 |true=>exact absurd (SP e) (WL hl)
 |false=>exact h))
theorem wX{b1 b2:Bool}(h:Ev c x e s (.bool b1) s)(k:Ev c y e s (.bool b2) s):Ev c (qx x y) e s (.bool (b1&&b2)) s:=λkk q=>h _ (by cases b1 with|true=>exact k _ q|false=>exact q)
theorem uz(hx:Ev c x e s v s')(hy:Ev c y e s' (.ref q) s'')(hq:tg q s''.h=some (.dict n es))(hv:pk v=true):Tc c (aA kQ x y) e s (!(dl es v).isSome) s'':=λt f k=>uB hx hy hq hv f t (by cases h:(dl es v).isSome<;>rw[h]at k<;>exact k)
end
structure N0 where
 s0:KS
 bq:Pa
 hq:Pa
 cq:Pa
 dq:Pa
 fq:Pa
 cl:List KV
 dl:List KV
 wh:Bool
 bn:Nat
 be:KD
 hn:Nat
 he:KD
 br:Nat
structure N0.Ok(X:N0):Prop where
 b:tg X.bq X.s0.h=some (.dict X.bn X.be)
 h:tg X.hq X.s0.h=some (.dict X.hn X.he)
 bh:Internal.dl X.be md=some (.ref X.hq)
 bb:Internal.dl X.be vD=some (.nat X.br)
 cs:eQ X.cl
 ds:eQ X.dl
 c1:1≤X.cl.length
 d1:1≤X.dl.length
 f0:tg X.fq X.s0.h=none
 nc:X.fq≠X.cq
 nd:X.fq≠X.dq
structure mO(X:N0)(acc:List KV)(b:Bool)(e:En)(s:KS):Prop where
 wf:Wf s
 kp:∀q o,tg q X.s0.h=some o->tg q s.h=some o
 ea:tg (.a .e) e=some (.ref X.bq)
 eb:tg (.b .e) e=some (.bool X.wh)
 ec:tg (.c .e) e=some (.ref X.cq)
 ed:tg (.d .e) e=some (.ref X.dq)
 ef:tg (.f .e) e=some (.ref X.fq)
 eg:tg (.g .e) e=some (.bool b)
 c:tg X.cq s.h=some (aK X.cl)
 d:tg X.dq s.h=some (aK X.dl)
 f:tg X.fq s.h=some (aK acc)
 al:eQ acc
theorem MH{p q r s t u:Prop}{G:Prop}(h:p∧q∧r∧s∧t∧u)(k:p->q->r->s->t->u->G):G:=k h.1 h.2.1 h.2.2.1 h.2.2.2.1 h.2.2.2.2.1 h.2.2.2.2.2
section
variable{c:Cl}{X:N0}{acc:List KV}{b:Bool}{e e':En}{s s':KS}{d:Nat}{z:KV}
theorem mO.set{p:Pa}(I:mO X acc b e s)(v:KV)(h:(SS (aY p) (aY (.a .e))||(SS (aY p) (aY (.b .e))||(SS (aY p) (aY (.c .e))||(SS (aY p) (aY (.d .e))||(SS (aY p) (aY (.f .e))||SS (aY p) (aY (.g .e)))))))=false):mO X acc b (tp p v e) s:=by
 simp only[W5]at h;refine MH h ?_;intro h1 h2 h3 h4 h5 h6;have n:∀{q:Pa},SS (aY p) (aY q)=false->q≠p:=λh z=>uV h z.symm;exact⟨I.wf,I.kp,(am _ (n h1)).trans I.ea,(am _ (n h2)).trans I.eb,(am _ (n h3)).trans I.ec,(am _ (n h4)).trans I.ed,(am _ (n h5)).trans I.ef,(am _ (n h6)).trans I.eg,I.c,I.d,I.f,I.al⟩
theorem mO.want(I:mO X acc b e s)(b':Bool):mO X acc b' (tp (.g .e) (.bool b') e) s:=⟨I.wf,I.kp,(am _ (uV rfl)).trans I.ea,(am _ (uV rfl)).trans I.eb,(am _ (uV rfl)).trans I.ec,(am _ (uV rfl)).trans I.ed,(am _ (uV rfl)).trans I.ef,aW _ _ _,I.c,I.d,I.f,I.al⟩
theorem mO.grow(I:mO X acc b e s)(x:Xt s s'):mO X acc b e s':=⟨x.wf,λq o h=>x.keep _ _ (I.kp q o h),I.ea,I.eb,I.ec,I.ed,I.ef,I.eg,x.keep _ _ I.c,x.keep _ _ I.d,x.keep _ _ I.f,I.al⟩
theorem mO.put(O:X.Ok)(I:mO X acc b e s){a:List KV}(h:eQ a):mO X a b e (bV s X.fq (aK a)):=⟨I.wf.put I.f,λq o h=>(bO λz=>by rw[z,O.f0]at h;exact dh h).trans (I.kp q o h),I.ea,I.eb,I.ec,I.ed,I.ef,I.eg,(bO O.nc.symm).trans I.c,(bO O.nd.symm).trans I.d,i6,h⟩
theorem mO.app(O:X.Ok)(I:mO X acc b e s){y:Internal.X}(hz:Sg z)(ev:Ev c y e s z s)(hl:acc.length≤1000):∃s',St c (aX (dy (ae (.f .e)) y)) e s e s'∧mO X (acc++[z]) b e s'∧∀q o,q≠X.fq->tg q s.h=some o->tg q s'.h=some o:=⟨_,kY (ah I.ef) ev I.f (SV hl (by decide)),I.put O (I.al.snoc hz),λq o h k=>(bO h).trans k⟩
theorem Ad{l:List KV}(h:eQ l){k:Nat}(hk:k<l.length){G:Prop}(k0:∀x,Sg x->ng k (aC l)=some x->G):G:=k0 (l[k]) (h _ (List.getElem_mem _)) (by rw[f9];exact T7 hk)
noncomputable def O7:List KV:=[lT,dM .p,dM .q,dM .r,kI]
theorem LN:eQ O7:=by
 unfold eQ O7;simp only[T8,Tz,or_false,forall_eq_or_imp,forall_eq];exact⟨⟨.a,rfl⟩,⟨.o .p,rfl⟩,⟨.o .q,rfl⟩,⟨.o .r,rfl⟩,⟨.s,rfl⟩⟩
theorem yT{q:Pa}{l:List KV}{y:Internal.X}(hl:eQ l)(h1:1≤l.length)(hy:Ev c y e s (.ref q) s)(hq:tg q s.h=some (aK l))(hd:tg (.h .e) e=some (.nat d)):∃x,Sg x∧Ev c (av y (bj gS (ae (.h .e)) (cW 1 (.g .e) y))) e s x s:=by
 refine Ad hl (Uz d h1) ?_;intro x sx hx;refine⟨x,sx,il (m:=d%l.length) hy ?_ hq hx⟩;have:=lu (c:=c) (b:=l.length-1) (ah (s:=s) hd) (by rw[Uq h1];exact fE (c0:=1) (p:=.g .e) hy hq);rw[Uq h1]at this;exact this
theorem Cw(O:X.Ok)(I:mO X acc b e s)(hd:tg (.h .e) e=some (.nat d)):∃x,Sg x∧St c yV e s (tp (.i .e) x e) s:=by
 have t:Tc c (aA eI (bj gS (bj Jq (ae (.h .e)) (af (.nat 60))) (af (.nat 6))) (af (.nat 5))) e s (SS (d/60%6) 5) s:=hU (lu (b:=5) (tQ (b:=59) (ah hd) ay (by decide)) ay) ay;cases hb:SS (d/60%6) 5 with
 |true=>
  rw[hb]at t;refine Ad LN (show d/360%5<5 from Uz _ (by decide)) ?_;intro x sx hx;exact⟨x,sx,eL t (bJ (bg (wT (j3 (vs:=aC O7) (ar ay (ar ay (ar ay (ar ay (ar ay bu))))) (show 5≤100000 by decide)) (lu (b:=4) (tQ (b:=359) (ah hd) ay (by decide)) ay) hx)))⟩
 |false=>
  rw[hb]at t;have t2:=ze (c:=c) (s:=s) (ah I.eg);cases b with
  |true=>
   refine ag (yT (c:=c) O.cs O.c1 (ah I.ec) I.c hd) ?_;intro x sx ev;exact⟨x,sx,bN t (bJ (eL t2 (bJ (bg ev))))⟩
  |false=>
   refine ag (yT (c:=c) O.ds O.d1 (ah I.ed) I.d hd) ?_;intro x sx ev;exact⟨x,sx,bN t (bJ (bN t2 (bJ (bg ev))))⟩
theorem Cv(O:X.Ok)(I:mO X acc b e s)(hd:tg (.h .e) e=some (.nat d))(hl:acc.length≤1000):∃e' s' acc' b',St c ut e s e' s'∧mO X acc' b' e' s'∧acc'.length=acc.length+1∧∀q o,q≠X.fq->tg q s.h=some o->tg q s'.h=some o:=by
 refine ag (Cw (c:=c) O I hd) ?_;intro x sx st1;have J:=I.set (p:=.i .e) x rfl;have hi:tg (.i .e) (tp (.i .e) x e)=some x:=aW _ _ _;generalize tp (.i .e) x e=e1 at*;refine aM (J.app (c:=c) O sx (ah hi) hl) ?_;intro s2 st2 J2 k2;have eb:Ev c (av (ae (.a .e)) (af md)) e1 s2 (.ref X.hq) s2:=dA (ah J2.ea) ay (J2.kp _ _ O.b) rfl O.bh;have st3:St c (ao (t1 (.g .e)) yU) e1 s2 (tp (.g .e) (.bool (!cM x lT&&(!cM x kI&&!(Internal.dl X.he x).isSome))) e1) s2:=bg (wX (kD (zc (ah hi) ay sx.pk rfl)) (wX (kD (zc (ah hi) ay sx.pk rfl)) (kD (uz (ah hi) eb (J2.kp _ _ O.h) sx.pk))));exact⟨_,s2,_,_,bl st1 (bl st2 (bJ st3)),J2.want _,Td,k2⟩
theorem vO(O:X.Ok){ql:Pa}{nms:List Nat}(hql:ql≠X.fq):∀(r pre:List Nat)(acc:List KV)(b:Bool)(m:Nat)(e:En)(s:KS),nms=pre++r->r.length<m->acc.length+r.length≤100->tg ql s.h=some (.list nms.length (aC (fc nms)))->mO X acc b e s->
  ∃e' s' acc' b',N1 c (t1 (.h .e)) ut ab m (.list ql pre.length) e s e' s'∧mO X acc' b' e' s'∧acc'.length=acc.length+r.length
 |r,pre,acc,b,0,e,s,_,hm,_,_,_=>by cases hm
 |[],pre,acc,b,m+1,e,s,hl,_,_,hq,I=>by
  have hv:(fc nms)[pre.length]?=none:=by rw[hl,Ul];unfold fc;rw[Tr,Ud (TA _)];rfl
  exact⟨e,s,acc,b,AQ (mu hq hv) bY,I,rfl⟩
 |d::r,pre,acc,b,m+1,e,s,hl,hm,h1,hq,I=>by
  have hv:(fc nms)[pre.length]?=some (.nat d):=by rw[hl];unfold fc;rw[Tr];simp
  have h1:acc.length+(r.length+1)≤100:=h1;refine lQ (Cv (c:=c) O (I.set (p:=.h .e) (.nat d) rfl) (aW _ _ _) (SV (TC _ _) (SV h1 (by decide)))) ?_;intro e1 s1 acc1 b1 st J l1 k1;refine Bs (vO O hql r (pre++[d]) acc1 b1 m e1 s1 (by rw[hl];simp) (by simpa using hm) (by rw[l1,UM,UY 1];exact h1) (k1 _ _ hql hq) J) ?_;intro e2 s2 acc2 b2 lp J2 l2;rw[Td]at lp;exact⟨e2,s2,acc2,b2,ku (i7 hq hv) (λzz h=>h) st lp,J2,by rw[l2,l1,UM,UY 1];rfl⟩
theorem Go(O:X.Ok)(I:mO X acc b e s)(hl:acc.length≤100):∃e' s' wq ws,St c F2 e s e' s'∧Wf s'∧(∀q o,tg q X.s0.h=some o->tg q s'.h=some o)∧tg (.f .e) e'=some (.ref wq)∧tg wq s'.h=some (aK ws)∧tg wq X.s0.h=none∧eQ ws∧ws.length≤acc.length+acc.length:=by
 have t:=uA (c:=c) (dA (ah (s:=s) I.ea) ay (I.kp _ _ O.b) rfl O.bb);cases hb:(!SS X.br 0)with
 |false=>rw[hb]at t;exact⟨e,s,X.fq,acc,bN t bY,I.wf,I.kp,I.ef,I.f,O.f0,I.al,TC _ _⟩
 |true=>
  rw[hb]at t;have hp:∀x∈acc,pk x=true:=λx hx=>(I.al x hx).pk;have l1:acc.length≤1000:=SV hl (by decide);have e1:Ev c (cW 1 (.g .e) (fS (aG (ae (.f .e))) aj (t1 .e) (ae .e) (aA eI (ae .e) (af (dM .r))))) e s (.nat (acc.filter λx=>cM x (dM .r)).length) (bz s (aK (acc.filter λx=>cM x (dM .r)))):=fE (wU (ah I.ef) I.f l1 hp rfl) dB;have J:=I.grow (.new (o:=aK (acc.filter λx=>cM x (dM .r))) I.wf);have b1:(acc.filter λx=>cM x (dM .r)).length≤acc.length:=WT _ _;generalize bz s (aK (acc.filter λx=>cM x (dM .r)))=s1 at*;generalize(acc.filter λx=>cM x (dM .r)).length=A at*;have e2:Ev c (cW 1 (.g .e) (fS (aG (ae (.f .e))) aj (t1 .e) (ae .e) (aA eI (ae .e) (af kI)))) e s1 (.nat (acc.filter λx=>cM x kI).length) (bz s1 (aK (acc.filter λx=>cM x kI))):=fE (wU (ah J.ef) J.f l1 hp rfl) dB;have K:=J.grow (.new (o:=aK (acc.filter λx=>cM x kI)) J.wf);have b2:(acc.filter λx=>cM x kI).length≤acc.length:=WT _ _;generalize bz s1 (aK (acc.filter λx=>cM x kI))=s2 at*;generalize(acc.filter λx=>cM x kI).length=B at*;have key:∃v n,Ev c (bj lP (cW 1 (.g .e) (fS (aG (ae (.f .e))) aj (t1 .e) (ae .e) (aA eI (ae .e) (af (dM .r))))) (cW 1 (.g .e) (fS (aG (ae (.f .e))) aj (t1 .e) (ae .e) (aA eI (ae .e) (af kI))))) e s v s2∧n≤acc.length∧∀e,tg (.a (.a .e)) e=some v->Ev c (xo (p7 (ad (af kI) aj)) (ae (.a (.a .e)))) e s2 (.fl (aC (UN n kI))) s2:=by
   rcases Wt A B with h|h
   ·exact⟨_,0,JE e1 e2 h,TQ _,λe' he=>Eb (j3 (vs:=aC [kI]) (ar ay bu) (by decide)) (ah he) (SV (WA _ _) (SV b2 l1))⟩
   ·exact⟨_,A-B,vh e1 e2 h,SV (WA _ _) b1,λe' he=>Ea (j3 (vs:=aC [kI]) (ar ay bu) (by decide)) (ah he) (SV (WA _ _) (SV b1 l1))⟩
  obtain⟨v,n,ev,hn,er⟩:=key;have K2:=K.set (p:=.a (.a .e)) v rfl;have er:=er (tp (.a (.a .e)) v e) (aW _ _ _);have st1:=bg (q:=.a (.a .e)) ev;generalize tp (.a (.a .e)) v e=e3 at*;have ec:=wW (c:=c) (ah K2.ef) er K2.f (by rw[g9,List.length_replicate];omega);rw[gY,g9]at ec;have e4:KO.list (acc.length+(UN n kI).length) (aC (acc++UN n kI))=aK (acc++UN n kI):=by unfold aK;rw[Td]
  rw[e4]at ec;have x3:Xt s2 (bz s2 (aK (acc++UN n kI))):=.new K2.wf;refine⟨_,_,s2.n,_,eL t (bl st1 (bJ (bg ec))),x3.wf,λq o h=>x3.keep _ _ (K2.kp q o h),aW _ _ _,dB,gy K2.kp K2.wf,K2.al.app λx hx=>(List.mem_replicate.mp hx).2▸⟨.s,rfl⟩,by rw[Td,List.length_replicate];omega⟩
theorem Gn(O:X.Ok)(I:mO X acc b e s)(hl:acc.length≤50):∃e' s' wq ws,St c F1 e s e' s'∧Wf s'∧(∀q o,tg q X.s0.h=some o->tg q s'.h=some o)∧tg (.f .e) e'=some (.ref wq)∧tg wq s'.h=some (aK ws)∧tg wq X.s0.h=none∧eQ ws∧ws.length≤acc.length+1+(acc.length+1):=by
 have t:=ze (c:=c) (s:=s) (ah I.eb);cases hb:X.wh with
 |false=>rw[hb]at t;exact⟨e,s,X.fq,acc,bN t bY,I.wf,I.kp,I.ef,I.f,O.f0,I.al,by omega⟩
 |true=>
  rw[hb]at t;have t2:=ze (c:=c) (s:=s) (ah I.eg);have key:∃s1 acc1,St c (bE (cT (ae (.g .e))) (ac (aX (dy (ae (.f .e)) (af lT))) ab) ab) e s e s1∧mO X acc1 b e s1∧acc1.length≤acc.length+1:=by
   cases b with
   |true=>
    refine aM (I.app (c:=c) O (z:=lT) ⟨.a,rfl⟩ ay (SV hl (by decide))) ?_;rintro s2 st2 J2 -;exact⟨s2,_,eL t2 (bJ st2),J2,VZ Td⟩
   |false=>exact⟨s,acc,bN t2 bY,I,U8 _⟩
  refine aH key ?_;intro s1 acc1 st1 J l1;obtain⟨e',s',wq,ws,st2,a1,a2,a3,a4,a5,a6,a7⟩:=Go (c:=c) O J (SV l1 (SV (TY hl) (by decide)));exact⟨e',s',wq,ws,eL t (bl st1 (bJ st2)),a1,a2,a3,a4,a5,a6,by omega⟩
end
end
end
section
set_option compiler.extract_closed false
section
open PySem PySem.W PyProof.Rows
structure PJ where
 qb:Pa
 q1:Pa
 q2:Pa
 q3:Pa
 bn:Nat
 be:KD
 d1:KD
 d2:KD
 d3:KD
 br:Nat
 k1:List KV
 k2:List KV
 k3:List KV
structure Na(x:PJ)(s:KS):Prop where
 b:tg x.qb s.h=some (.dict x.bn x.be)
 b2:dl x.be vD=some (.nat x.br)
 b3:dl x.be ip=some (.ref x.q1)
 b4:dl x.be kJ=some (.ref x.q2)
 b5:dl x.be md=some (.ref x.q3)
 f1:tg x.q1 s.h=some (.dict x.k1.length x.d1)
 f2:tg x.q2 s.h=some (.dict x.k2.length x.d2)
 f3:tg x.q3 s.h=some (.dict x.k3.length x.d3)
 g1:kF x.d1=aC x.k1
 g2:kF x.d2=aC x.k2
 g3:kF x.d3=aC x.k3
 a1:eQ x.k1
 a2:eQ x.k2
 a3:eQ x.k3
 l1:x.k1.length≤10
 l2:x.k2.length≤10
 l3:x.k3.length≤10
 p2:1≤x.k2.length
section
variable{z:PJ}{c:Cl}{e:En}{s s' s0:KS}{q qt:Pa}{wh:Bool}{x y:X}
theorem vi{es:KD}{l:List KV}(hx:Ev c x e s (.ref q) s)(hq:tg q s.h=some (.dict l.length es))(hd:kF es=aC l)(hl:l.length≤10):Ev c (gu x) e s (.ref s.n) (bz s (aK l)):=by
 have:=JH hx hq (SV hl (by decide));rw[hd]at this;exact this
theorem td(l m:List KV):KO.list (l.length+m.length) (Internal.app (aC l) (aC m))=aK (l++m):=by unfold aK;rw[gY,Td]
theorem NI(wf:Wf s)(B:Na z s)(ea:tg (.a .e) e=some (.ref z.qb)):∃cq s',St c (ao (t1 (.c .e)) (bj cI (p7 (ad (af lT) (ad (af lT) aj))) (gu (av (ae (.a .e)) (af ip))))) e s (tp (.c .e) (.ref cq) e) s'∧Xt s s'∧tg cq s'.h=some (aK ([lT,lT]++z.k1))∧tg cq s.h=none:=by
 have e1:Ev c (gu (av (ae (.a .e)) (af ip))) e s (.ref s.n) (bz s (aK z.k1)):=vi (dA (ah ea) ay B.b rfl B.b3) B.f1 B.g1 B.l1;have x1:Xt s (bz s (aK z.k1)):=.new wf;have n1:tg s.n (bz s (aK z.k1)).h=some (aK z.k1):=dB;generalize bz s (aK z.k1)=s1 at*;have e2:=Bl (c:=c) (e:=e) (x:=p7 (ad (af lT) (ad (af lT) aj))) (xs:=aC [lT,lT]) (j3 (ar ay (ar ay bu)) (show 2≤100000 by decide)) e1 n1 (SV (Wk B.l1 2) (by decide));exact⟨s1.n,_,bg (td [lT,lT] z.k1▸e2),x1.trans (.new x1.wf),dB,gy x1.keep x1.wf⟩
theorem NH(x0:Xt s0 s)(B:Na z s0)(ea:tg (.a .e) e=some (.ref z.qb)):∃dq s',St c (ao (t1 (.d .e)) (bj cI (gu (av (ae (.a .e)) (af kJ))) (gu (av (ae (.a .e)) (af md))))) e s (tp (.d .e) (.ref dq) e) s'∧Xt s s'∧tg dq s'.h=some (aK (z.k2++z.k3))∧tg dq s.h=none:=by
 have e1:Ev c (gu (av (ae (.a .e)) (af kJ))) e s (.ref s.n) (bz s (aK z.k2)):=vi (dA (ah ea) ay (x0.keep _ _ B.b) rfl B.b4) (x0.keep _ _ B.f2) B.g2 B.l2;have x1:Xt s (bz s (aK z.k2)):=.new x0.wf;have n1:tg s.n (bz s (aK z.k2)).h=some (aK z.k2):=dB;generalize bz s (aK z.k2)=s1 at*;have x01:=x0.trans x1;have e2:Ev c (gu (av (ae (.a .e)) (af md))) e s1 (.ref s1.n) (bz s1 (aK z.k3)):=vi (dA (ah ea) ay (x01.keep _ _ B.b) rfl B.b5) (x01.keep _ _ B.f3) B.g3 B.l3;have x2:Xt s1 (bz s1 (aK z.k3)):=.new x1.wf;have n2:tg s1.n (bz s1 (aK z.k3)).h=some (aK z.k3):=dB;generalize bz s1 (aK z.k3)=s2 at*;have e3:=JJ (c:=c) (e:=e) e1 e2 (x2.keep _ _ n1) n2 (SV (Vw B.l2 B.l3) (by decide));exact⟨s2.n,_,bg (td z.k2 z.k3▸e3),x1.trans (x2.trans (.new x2.wf)),dB,gy (x1.trans x2).keep x2.wf⟩
theorem Lh{cq dq:Pa}{cl dl':List KV}(kp:Xt s0 s)(B:Na z s0)(ea:tg (.a .e) e=some (.ref z.qb))(ec:tg (.c .e) e=some (.ref cq))(ed:tg (.d .e) e=some (.ref dq))(hc:tg cq s.h=some (aK cl))(hd:tg dq s.h=some (aK dl'))(c0:tg cq s0.h=none)(d0:tg dq s0.h=none)(ne:cq≠dq)(h1:eQ cl)(h2:eQ dl')(l1:cl.length≤20)(l2:dl'.length≤20){G:Prop}
  (k:∀s' cl' dl'',St c Li e s e s'->Wf s'->(∀q o,tg q s0.h=some o->tg q s'.h=some o)->tg cq s'.h=some (aK cl')->tg dq s'.h=some (aK dl'')->eQ cl'->eQ dl''->cl.length≤cl'.length->dl'.length≤dl''.length->G):G:=by
 have t:=uA (c:=c) (dA (ah (s:=s) ea) ay (kp.keep _ _ B.b) rfl B.b2);cases y:(!SS z.br 0)with
 |false=>rw[y]at t;exact k s cl dl' (bN t bY) kp.wf kp.keep hc hd h1 h2 (TA _) (TA _)
 |true=>
  rw[y]at t;have s1:=kY (c:=c) (ah (s:=s) ec) (ay (v:=dM .r)) hc (SV l1 (by decide));have w1:Wf (bV s cq (aK (cl++[dM .r]))):=kp.wf.put hc;have hd1:tg dq (bV s cq (aK (cl++[dM .r]))).h=some (aK dl'):=(bO ne.symm).trans hd;have hc1:tg cq (bV s cq (aK (cl++[dM .r]))).h=some (aK (cl++[dM .r])):=i6;have k1:∀q o,tg q s0.h=some o->tg q (bV s cq (aK (cl++[dM .r]))).h=some o:=λq o h=>(bO λz=>by rw[z,c0]at h;exact dh h).trans (kp.keep q o h);generalize bV s cq (aK (cl++[dM .r]))=s1' at*;have s2:=kY (c:=c) (ah (s:=s1') ed) (ay (v:=kI)) hd1 (SV l2 (by decide));have la:∀(l:List KV)(x:KV),l.length≤(l++[x]).length:=λl x=>by rw[Td];exact TC _ _
  exact k _ _ _ (eL t (bl s1 (bJ s2))) (w1.put hd1) (λq o h=>(bO λz=>by rw[z,d0]at h;exact dh h).trans (k1 q o h)) ((bO ne).trans hc1) i6 (h1.snoc ⟨.o .r,rfl⟩) (h2.snoc ⟨.s,rfl⟩) (la _ _) (la _ _)
def wE(qt qb:Pa)(wh:Bool):En:=tp (.b .e) (.bool wh) (tp (.a .e) (.ref qb) (tp .e (.ref qt) .nil))
def KC(e:En)(cq dq:Pa):En:=tp (.d .e) (.ref dq) (tp (.c .e) (.ref cq) e)
def NL(e:En)(fq:Pa):En:=tp (.g .e) (.bool true) (tp (.f .e) (.ref fq) e)
theorem Cs{d:Nat}{ds:List Nat}(wf:Wf s)(B:Na z s)(ht:tg qt s.h=some (.list ds.length (aC (fc ds))))(hn:ds.length≤100):
  ∃s' wq ws,Ca (aT bF (d+1)) Og (.cons (.ref qt) (.cons (.ref z.qb) (.cons (.bool wh) .nil))) s (.ref wq) s'∧Wf s'∧(∀q o,tg q s.h=some o->tg q s'.h=some o)∧tg wq s'.h=some (aK ws)∧tg wq s.h=none∧eQ ws∧ws.length≤18:=by
 have fin:∀{v:KV}{s':KS},Rt (aT bF d) NJ (wE qt z.qb wh) s v s'->Ca (aT bF (d+1)) Og (.cons (.ref qt) (.cons (.ref z.qb) (.cons (.bool wh) .nil))) s v s':=λh=>qc (e0:=wE qt z.qb wh) NV rfl (λk h=>h) h;refine dG (NI (c:=aT bF d) (e:=wE qt z.qb wh) wf B rfl) ?_;intro cq s1 st1 x1 c1 cz;refine dG (NH (c:=aT bF d) (e:=tp (.c .e) (.ref cq) (wE qt z.qb wh)) x1 B rfl) ?_;intro dq s2 st2 x2 d1 dz;have ne:cq≠dq:=λz=>by rw[←z,c1]at dz;exact Ff dz
 have dz0:tg dq s.h=none:=by cases h:tg dq s.h with|none=>rfl|some o=>exact Ff ((x1.keep _ _ h).symm.trans dz)
 have aa:eQ [lT,lT]:=λx hx=>by rcases T8.mp hx with rfl|hx;exact⟨.a,rfl⟩;cases U9.mp hx;exact⟨.a,rfl⟩
 refine Lh (c:=aT bF d) (e:=KC (wE qt z.qb wh) cq dq) (x1.trans x2) B rfl rfl rfl (x2.keep _ _ c1) d1 cz dz0 ne (aa.app B.a1) (B.a2.app B.a3) (by rw[Td];exact SV (Wk B.l1 2) (by decide)) (by rw[Td];exact Vw B.l2 B.l3) ?_;clear c1 d1;intro s3 cl dl' st3 wf3 k3 c3 d3' h1 h2 l1 l2;have l1:1≤cl.length:=SV (TB 1 _) l1;have l2:1≤dl'.length:=SV (SV B.p2 (by rw[Td];exact TC _ _)) l2;have x4:Xt s3 (bz s3 (aK [])):=.new wf3;have n4:tg s3.n (bz s3 (aK [])).h=some (aK []):=dB;have a4:St (aT bF d) (ao (t1 (.f .e)) (aS aj)) (KC (wE qt z.qb wh) cq dq) s3 (tp (.f .e) (.ref s3.n) (KC (wE qt z.qb wh) cq dq)) (bz s3 (aK [])):=bg (mG (vs:=.nil) bu (by decide));have O:N0.Ok ⟨s,z.qb,z.q3,cq,dq,s3.n,cl,dl',wh,z.bn,z.be,z.k3.length,z.d3,z.br⟩:=⟨B.b,B.f3,B.b5,B.b2,h1,h2,l1,l2,gy k3 wf3,(wf3.ne c3).symm,(wf3.ne d3').symm⟩
 generalize bz s3 (aK [])=s4 at*;have k4:∀q o,tg q s.h=some o->tg q s4.h=some o:=λq o h=>x4.keep _ _ (k3 q o h);have I4:mO ⟨s,z.qb,z.q3,cq,dq,s3.n,cl,dl',wh,z.bn,z.be,z.k3.length,z.d3,z.br⟩ [] true (NL (KC (wE qt z.qb wh) cq dq) s3.n) s4:=⟨x4.wf,k4,rfl,rfl,rfl,rfl,rfl,rfl,x4.keep _ _ c3,x4.keep _ _ d3',n4,λx hx=>absurd hx Tz⟩
 have l8:(ds.take 8).length≤8:=List.length_take_le 8 ds;have et:Ev (aT bF d) (yw (ae .e) (af (.nat 8))) (NL (KC (wE qt z.qb wh) cq dq) s3.n) s4 (.ref s4.n) (bz s4 (.list (ds.take 8).length (aC (fc (ds.take 8))))):=by
  have:=JD (c:=aT bF d) (e:=NL (KC (wE qt z.qb wh) cq dq) s3.n) (x:=ae .e) (i:=af (.nat 8)) (m:=8) (ah rfl) ay (k4 _ _ ht) (SV hn (by decide));rw[jH,show(fc ds).take 8=fc (ds.take 8)from List.map_take.symm,show min 8 ds.length=(ds.take 8).length from UR.symm]at this;exact this
 have n5:tg s4.n (bz s4 (.list (ds.take 8).length (aC (fc (ds.take 8))))).h=some (.list (ds.take 8).length (aC (fc (ds.take 8)))):=dB;have I5:=I4.grow (.new (o:=.list (ds.take 8).length (aC (fc (ds.take 8)))) x4.wf);have nq:s4.n≠s3.n:=(x4.wf.ne n4).symm;generalize bz s4 (.list (ds.take 8).length (aC (fc (ds.take 8))))=s5 at*;refine Bs (vO (c:=aT bF d) O (nms:=ds.take 8) nq (ds.take 8) [] [] true kR _ s5 rfl (U4 l8 (by decide)) (by rw[List.length_nil,Vm];exact SV l8 (by decide)) n5 I5) ?_;intro e6 s6 acc b lp I6 la;have la:acc.length≤8:=by rw[la,List.length_nil,Vm];exact l8
 obtain⟨e7,s7,wq,ws,st7,r1,r2,r3,r4,r5,r6,r7⟩:=Gn (c:=aT bF d) O I6 (SV la (by decide));exact⟨s7,wq,ws,fin (bp st1 (bp st2 (bp st3 (bp a4 (bp (bg ay) (bp (zp (wJ et n5) lp) (bp st7 (bW (eA (ah r3)))))))))),r1,r2,r4,r5,r6,SV r7 (Vw (Vw la (TA 1)) (Vw la (TA 1)))⟩
end
end
end
section
set_option compiler.extract_closed false
section
section
noncomputable def PR:Pa:=.c (.g .e)
noncomputable def Ng:Pa:=.d (.g .e)
theorem NY:tg PR bF=some (.fn 2 .nil Nh):=by kernel_rfl
theorem O0:tg Ng bF=some (.fn 4 .nil Pq):=by kernel_rfl
def Ez(m l:Nat)(w:KV):Ch:=bif T3 (l+1) m then .sh else bif T3 (m+1) l||cM w mN then .rd else bif cM w lC then .sh else .no
noncomputable def rR(c:Ch):KV:=match c with|.sh=>.str 40567043631770662919203956195444|.rd=>.str 85075216121577873493535270834687443045|.no=>.str 85075216121577873511982014908430549093
structure un where
 wq:Pa
 bq:Pa
 q1:Pa
 q2:Pa
 q3:Pa
 q4:Pa
 be:KD
 d1:KD
 d2:KD
 d3:KD
 d4:KD
 w:List Si
 P:Pm
 wy:Ru->KV
 lv:Ru->Nat
 wm:Op->KV
 lm:Op->Nat
noncomputable def un.rv(x:un)(r:Option Ru):KV:=match r with|none=>.none|some r=>two (x.wy r) (.nat (x.lv r))
noncomputable def KK(f:Op->Bool)(g:Op->KV)(y:Si):Option KV:=match y with|.o z=>bif f z then some (g z)else none|_=>none
noncomputable def yz(f:Op->Bool)(y:Si):Bool:=match y with|.o z=>f z|_=>false
structure un.Ok(x:un):Prop where
 wy:∀r,x.wy r=mN∨x.wy r=lD∨x.wy r=lC
 ch:∀r y,x.P.ch r y=Ez (x.lm y) (x.lv r) (x.wy r)
 hb:∀y,two (x.wm y) (.nat (x.lm y))=x.rv (some (.b y))
 k1:x.P.S.br=true->1≤x.P.nu .k
 ea:dl x.be lT=some (.nat (x.P.nu .a))
 eb:dl x.be vD=some (.nat (bif x.P.S.br then x.P.nu .k else 0))
 e1:dl x.be ip=some (.ref x.q1)
 e2:dl x.be kJ=some (.ref x.q2)
 e3:dl x.be md=some (.ref x.q3)
 e4:dl x.be xh=some (.ref x.q4)
 g1:∀y,dl x.d1 (iw y)=KK x.P.S.fr (λz=>two (.nat (x.P.nu (.f z))) (x.rv (some (.f z)))) y
 g2:∀y,dl x.d2 (iw y)=KK x.P.S.bt (λz=>.nat (x.P.nu (.b z))) y
 g3:∀y,dl x.d3 (iw y)=KK x.P.S.bh (λz=>.nat (x.P.nu (.h z))) y
 g4:∀z,dl x.d4 (dM z)=some (two (x.wm z) (.nat (x.lm z)))
structure Ba(x:un)(s:KS):Prop where
 O:x.Ok
 w:tg x.wq s.h=some (aK (x.w.map iw))
 b:tg x.bq s.h=some (rH x.be)
 f1:tg x.q1 s.h=some (rH x.d1)
 f2:tg x.q2 s.h=some (rH x.d2)
 f3:tg x.q3 s.h=some (rH x.d3)
 f4:tg x.q4 s.h=some (rH x.d4)
noncomputable def Fm(x:KV)(A:T KV):T KV:=.nd (some x) A .nil .nil .nil .nil .nil .nil .nil
structure Zs where
 A:T KV
 B:T KV
 C:T KV
 D:T KV
 F:T KV
 G:T KV
 H:T KV
 I:T KV
def Zs.a(Z:Zs)(v:KV):Zs:={Z with A:=pv v Z.A}
def Zs.b(Z:Zs)(v:KV):Zs:={Z with B:=pv v Z.B}
def Zs.c(Z:Zs)(v:KV):Zs:={Z with C:=pv v Z.C}
def Zs.d(Z:Zs)(v:KV):Zs:={Z with D:=pv v Z.D}
def Zs.f(Z:Zs)(v:KV):Zs:={Z with F:=pv v Z.F}
def Zs.g(Z:Zs)(v:KV):Zs:={Z with G:=pv v Z.G}
def Zs.h(Z:Zs)(v:KV):Zs:={Z with H:=pv v Z.H}
def Zs.i(Z:Zs)(v:KV):Zs:={Z with I:=pv v Z.I}
noncomputable def Z0:Zs:=⟨.nil,.nil,.nil,.nil,.nil,.nil,.nil,.nil⟩
noncomputable def cV(x:un)(rv pl:KV)(Z:Zs):En:=.nd (some (.ref x.wq)) (Fm pl Z.A) (Fm rv Z.B) (Fm (.ref x.bq) Z.C) Z.D Z.F Z.G Z.H Z.I
def B3(t:KV):Prop:=∃a b,t=.cons a b
def Rv(o:ET)(v:KV):Prop:=match o with|.bad z=>v=two .none (.nat z)|.ok t z=>B3 t∧v=two t (.nat z)
def yv(x:un)(n:Nat):Prop:=∀(pl:Nat)(r:Option Ru)(s:KS),Wf s->Ba x s->pl≤x.w.length->2*x.w.length+3≤n+2*pl->∃o s' v,Dr x.P x.w (.d pl r) o∧Ca (aT bF n) Ng (.cons (.ref x.wq) (.cons (.nat pl) (.cons (x.rv r) (.cons (.ref x.bq) .nil)))) s v s'∧Xt s s'∧Rv o v
inductive HR(x:un)(c:Cl)(s0:KS)(pl:Nat)(r:Option Ru)(y:Y)(e:En)(s:KS):Prop
 |bad (z:Nat) (s':KS):Dr x.P x.w (.d pl r) (.bad z)->Rt c y e s (two .none (.nat z)) s'->Xt s0 s'->HR x c s0 pl r y e s
 |ok (t:KV) (pl':Nat) (Z:Zs) (s':KS):(∀o,Dr x.P x.w (.l t pl' r) o->Dr x.P x.w (.d pl r) o)->St c y e s (cV x (x.rv r) (.nat pl) Z) s'->tv Z.F=some t->tv Z.G=some (.nat pl')->B3 t->pl<pl'->pl'≤x.w.length->Xt s0 s'->HR x c s0 pl r y e s
end
section
variable{c:Cl}{e:En}{s:KS}{w:KV}{m l:Nat}
theorem Bi{b1 b2 b3:KV}(wf:Wf s):∃s',Ev c (s8 (ad (af mN) (ad (af b1) (ad (af lC) (ad (af b2) (ad (af lD) (ad (af b3) aj))))))) e s (.ref s.n) s'∧Xt s s'∧tg s.n s'.h=some (.dict 3 (.cons mN b1 (.cons lC b2 (.cons lD b3 .nil)))):=by
 have x1:Xt s (bz s (.dict 0 .nil)):=.new wf;have n1:tg s.n (bz s (.dict 0 .nil)).h=some (.dict 0 .nil):=dB;refine⟨bV (bz s (.dict 0 .nil)) s.n (.dict 3 (.cons mN b1 (.cons lC b2 (.cons lD b3 .nil)))),λk h=>?_,⟨x1.wf.put n1,λq o h=>(bO (wf.ne h)).trans (x1.keep _ _ h)⟩,i6⟩;exact bH n1 h
theorem IY(wf:Wf s){w':KV}(hw:w=mN∨w=lD∨w=lC):∃s',Rt c Nh (tp (.a .e) (two w' (.nat m)) (tp .e (two w (.nat l)) .nil)) s (rR (Ez m l w)) s'∧Xt s s':=by
 have he:tg .e (tp (.a .e) (two w' (.nat m)) (tp .e (two w (.nat l)) .nil))=some (two w (.nat l)):=rfl;have ha:tg (.a .e) (tp (.a .e) (two w' (.nat m)) (tp .e (two w (.nat l)) .nil))=some (two w' (.nat m)):=rfl;generalize tp (.a .e) (two w' (.nat m)) (tp .e (two w (.nat l)) .nil)=e at*;have e1:Ev c (av (ae (.a .e)) (af (.nat 1))) e s (.nat m) s:=mE (m:=1) (ah ha) ay rfl;have e2:Ev c (av (ae .e) (af (.nat 1))) e s (.nat l) s:=mE (m:=1) (ah he) ay rfl;have t1:=zd e1 e2;have t2:=mW e1 e2;unfold Ez;cases b1:T3 (l+1) m with
 |true=>rw[b1]at t1;exact⟨s,bW (fO t1 (bW (eA ay))),.refl wf⟩
 |false=>
  rw[b1]at t1;cases b2:T3 (m+1) l with
  |true=>rw[b2]at t2;exact⟨s,bp (bN t1 bY) (bW (fO t2 (bW (eA ay)))),.refl wf⟩
  |false=>
   rw[b2]at t2;obtain⟨s',ed,x1,n1⟩:=Bi (c:=c) (e:=e) (b1:=rR .rd) (b2:=rR .sh) (b3:=rR .no) wf;have e3:Ev c (av (ae .e) (af (.nat 0))) e s' w s':=mE (m:=0) (ah he) ay rfl;have fin:∀v,dl (.cons mN (rR .rd) (.cons lC (rR .sh) (.cons lD (rR .no) .nil))) w=some v->pk w=true->∃s',Rt c Nh e s v s'∧Xt s s':=λv hv hp=>⟨s',bp (bN t1 bY) (bp (bN t2 bY) (bW (eA (dA ed e3 n1 hp hv)))),x1⟩
   rcases hw with rfl|rfl|rfl
   ·exact fin _ rfl rfl
   ·exact fin _ rfl rfl
   ·exact fin _ rfl rfl
theorem Mb{x:un}(O:x.Ok)(wf:Wf s){d:Nat}{r:Ru}{y:Op}:∃s',Ca (aT bF (d+1)) PR (.cons (x.rv (some r)) (.cons (two (x.wm y) (.nat (x.lm y))) .nil)) s (rR (x.P.ch r y)) s'∧Xt s s':=by
 rw[O.ch];obtain⟨s',h,k⟩:=IY (c:=aT bF d) (m:=x.lm y) (l:=x.lv r) (w':=x.wm y) wf (O.wy r);exact⟨s',qc NY rfl (λk h=>h) h,k⟩
end
section
variable{x:un}{c:Cl}{s s0 s' s'':KS}{pl:Nat}{r:Option Ru}{y z:Y}{e e':En}{d:Cn}
theorem HR.seq(a:St c y e s e' s')(h:HR x c s0 pl r z e' s'):HR x c s0 pl r (ac y z) e s:=by
 cases h with
 |bad z s' a1 a2 a3=>exact .bad _ _ a1 (bp a a2) a3
 |ok t pl' Z s' a2 a3 a4 a5 a6 a7 a8 a9=>exact .ok _ _ _ _ a2 (bl a a3) a4 a5 a6 a7 a8 a9
theorem HR.ifT(a:Tc c d e s true s)(h:HR x c s0 pl r y e s):HR x c s0 pl r (bE d y z) e s:=by
 cases h with
 |bad z s' a1 a2 a3=>exact .bad _ _ a1 (fO a a2) a3
 |ok t pl' Z s' a2 a3 a4 a5 a6 a7 a8 a9=>exact .ok _ _ _ _ a2 (eL a a3) a4 a5 a6 a7 a8 a9
theorem HR.ifF(a:Tc c d e s false s)(h:HR x c s0 pl r z e s):HR x c s0 pl r (bE d y z) e s:=by
 cases h with
 |bad z s' a1 a2 a3=>exact .bad _ _ a1 (Al a a2) a3
 |ok t pl' Z s' a2 a3 a4 a5 a6 a7 a8 a9=>exact .ok _ _ _ _ a2 (bN a a3) a4 a5 a6 a7 a8 a9
theorem HR.pas(h:HR x c s0 pl r y e s):HR x c s0 pl r (ac y ab) e s:=by
 cases h with
 |bad z s' a1 a2 a3=>exact .bad _ _ a1 (bW a2) a3
 |ok t pl' Z s' a2 a3 a4 a5 a6 a7 a8 a9=>exact .ok _ _ _ _ a2 (bJ a3) a4 a5 a6 a7 a8 a9
theorem HR.fst(z':Nat)(h1:Dr x.P x.w (.d pl r) (.bad z'))(h2:Rt c y e s (two .none (.nat z')) s)(k:Xt s0 s):HR x c s0 pl r (ac y z) e s:=.bad _ _ h1 (bW h2) k
theorem Ba.grow(h:Ba x s)(k:Xt s s'):Ba x s':=⟨h.O,k.keep _ _ h.w,k.keep _ _ h.b,k.keep _ _ h.f1,k.keep _ _ h.f2,k.keep _ _ h.f3,k.keep _ _ h.f4⟩
end
section
variable{x:un}{c:Cl}{s s':KS}{rv pl:KV}{Z:Zs}{d:Si}{o:Op}
theorem sJ:pk (iw d)=true:=by cases d with|o z=>cases z<;>rfl|_=>rfl
theorem vj(b:Ba x s):Ev c (cW 1 (.g .e) (ae .e)) (cV x rv pl Z) s (.nat x.w.length) s:=by
 have:=fE (c:=c) (e:=cV x rv pl Z) (c0:=1) (p:=.g .e) (ah (q:=.e) rfl) b.w;rw[TL]at this;exact this
theorem FJ{i:X}{k:Nat}{z:Si}(b:Ba x s)(hi:Ev c i (cV x rv pl Z) s (.nat k) s)(h:x.w[k]?=some z):Ev c (av (ae .e) i) (cV x rv pl Z) s (iw z) s:=
 il (ah (q:=.e) rfl) hi b.w (by rw[f9,Tr,h];rfl)
theorem j4(b:Ba x s){k v:KV}(hk:pk k=true)(h:dl x.be k=some v):Ev c (av (ae (.c .e)) (af k)) (cV x rv pl Z) s v s:=dA (ah (q:=.c .e) rfl) ay b.b hk h
theorem F7(b:Ba x s):Tc c (cT (av (ae (.c .e)) (af vD))) (cV x rv pl Z) s x.P.S.br s:=by
 have t:=uA (c:=c) (j4 (c:=c) (rv:=rv) (pl:=pl) (Z:=Z) b rfl b.O.eb);cases e:x.P.S.br with
 |false=>rw[e]at t;exact t
 |true=>
  rw[e]at t;have:=b.O.k1 e;rw[show(!SS (bif true then x.P.nu .k else 0) 0)=true by
   show(!SS (x.P.nu .k) 0)=true;cases h:x.P.nu .k with
   |zero=>rw[h]at this;cases this
   |succ n=>rfl]at t
  exact t
theorem ms{f:Op->Bool}{g:Op->KV}:(KK f g d).isSome=yz f d:=by
 cases d with
 |o z=>show(bif f z then some (g z)else none).isSome=f z;cases f z<;>rfl
 |_=>rfl
variable(hd:tv Z.D=some (iw d))
include hd
theorem Bj:Ev c (ae (.d .e)) (cV x rv pl Z) s (iw d) s:=ah (q:=.d .e) hd
theorem Gy{k:KV}(hk:pk k=true):Tc c (aA eI (ae (.d .e)) (af k)) (cV x rv pl Z) s (cM (iw d) k) s:=jG (Bj hd) ay sJ hk
theorem LH(b:Ba x s):Tc c (aA jU (ae (.d .e)) (av (ae (.c .e)) (af ip))) (cV x rv pl Z) s (yz x.P.S.fr d) s:=by
 have:=uB (c:=c) (e:=cV x rv pl Z) (Bj (c:=c) hd) (j4 b rfl b.O.e1) b.f1 sJ;rw[b.O.g1,ms]at this;exact this
theorem LI(b:Ba x s):Tc c (aA kQ (ae (.d .e)) (av (ae (.c .e)) (af kJ))) (cV x rv pl Z) s (!yz x.P.S.bt d) s:=by
 have:=uz (c:=c) (e:=cV x rv pl Z) (Bj (c:=c) hd) (j4 b rfl b.O.e2) b.f2 sJ;rw[b.O.g2,ms]at this;exact this
theorem LJ(b:Ba x s):Tc c (aA jU (ae (.d .e)) (av (ae (.c .e)) (af md))) (cV x rv pl Z) s (yz x.P.S.bh d) s:=by
 have:=uB (c:=c) (e:=cV x rv pl Z) (Bj (c:=c) hd) (j4 b rfl b.O.e3) b.f3 sJ;rw[b.O.g3,ms]at this;exact this
theorem LF(b:Ba x s):Tc c (aA kQ (ae (.d .e)) (av (ae (.c .e)) (af md))) (cV x rv pl Z) s (!yz x.P.S.bh d) s:=by
 have:=uz (c:=c) (e:=cV x rv pl Z) (Bj (c:=c) hd) (j4 b rfl b.O.e3) b.f3 sJ;rw[b.O.g3,ms]at this;exact this
end
section
variable{x:un}{c:Cl}{s s':KS}{rv pl:KV}{Z:Zs}{o:Op}(hd:tv Z.D=some (dM o))
include hd
theorem wV:Ev c (ae (.d .e)) (cV x rv pl Z) s (dM o) s:=ah (q:=.d .e) hd
omit hd in
theorem wz:pk (dM o)=true:=by cases o<;>rfl
omit hd in
theorem IU{f:Op->Bool}{g:Op->KV}(h:f o=true):KK f g (.o o)=some (g o):=by show(bif f o then some (g o)else none)=_;rw[h];rfl
theorem Mv(b:Ba x s)(h:x.P.S.fr o=true):Ev c (av (av (ae (.c .e)) (af ip)) (ae (.d .e))) (cV x rv pl Z) s (two (.nat (x.P.nu (.f o))) (x.rv (some (.f o)))) s:=dA (j4 b rfl b.O.e1) (wV hd) b.f1 wz ((b.O.g1 (.o o)).trans (IU h))
theorem Mw(b:Ba x s)(h:x.P.S.bt o=true):Ev c (av (av (ae (.c .e)) (af kJ)) (ae (.d .e))) (cV x rv pl Z) s (.nat (x.P.nu (.b o))) s:=dA (j4 b rfl b.O.e2) (wV hd) b.f2 wz ((b.O.g2 (.o o)).trans (IU h))
theorem Mx(b:Ba x s)(h:x.P.S.bh o=true):Ev c (av (av (ae (.c .e)) (af md)) (ae (.d .e))) (cV x rv pl Z) s (.nat (x.P.nu (.h o))) s:=dA (j4 b rfl b.O.e3) (wV hd) b.f3 wz ((b.O.g3 (.o o)).trans (IU h))
theorem FK(b:Ba x s):Ev c (av (av (ae (.c .e)) (af xh)) (ae (.d .e))) (cV x rv pl Z) s (two (x.wm o) (.nat (x.lm o))) s:=dA (j4 b rfl b.O.e4) (wV hd) b.f4 wz (b.O.g4 o)
end
section
variable{x:un}{m:Nat}{s s' s0:KS}{pl:Nat}{r:Option Ru}{Z:Zs}
theorem oJ(ih:yv x m){e:En}(wf:Wf s)(ba:Ba x s)(hp:pl≤x.w.length)(hn:2*x.w.length+3≤m+2*pl){a b d f:X}(ha:Ev (aT bF m) a e s (.ref x.wq) s)(hb:Ev (aT bF m) b e s (.nat pl) s)(hd:Ev (aT bF m) d e s (x.rv r) s)(hf:Ev (aT bF m) f e s (.ref x.bq) s){G:Prop}(k:∀o s' v,Dr x.P x.w (.d pl r) o->Ev (aT bF m) (b8 Ng (ad a (ad b (ad d (ad f aj))))) e s v s'->Xt s s'->Rv o v->G):G:=
 iz (ih pl r s wf ba hp hn) λo s' v h1 h2 h3 h4=>k o s' v h1 (gD (ar ha (ar hb (ar hd (ar hf bu)))) h2) h3 h4
theorem sj{c:Cl}{e:En}{q:Pa}(h:tg q e=some .none):Tc c (iF (ae q)) e s true s:=kU (ah h) rfl
theorem si{c:Cl}{e:En}{q:Pa}{t:KV}(h:tg q e=some t)(k:B3 t):Tc c (iF (ae q)) e s false s:=by obtain⟨a,b,rfl⟩:=k;exact kU (v:=.cons a b) (ah h) rfl
theorem wi{c:Cl}{e:En}{d:Cn}{x:X}{v:KV}(h:Tc c d e s true s)(k:Ev c x e s v s):Rt c (bE d (ac (bL (ad (af .none) (ad x aj))) ab) ab) e s (two .none v) s:=fO h (bW (eA (ar ay (ar k bu))))
theorem sg{P:Pm}{r:Ru}{ks:List KV}:B3 (P.tr r ks):=⟨_,_,rfl⟩
theorem Q6{L k p:Nat}(h:2*L+3≤k+2+2*p):2*L+3≤k+1+2*(p+1):=by omega
theorem OZ{L k p q:Nat}(h:2*L+3≤k+1+2*p)(l:p≤q):2*L+3≤k+1+2*q:=SV h (Wk (Wj 2 l) _)
theorem OV(ba:Ba x s)(wf:Wf s)(hp:x.w[pl]?=some .a):HR x (aT bF m) s pl r Qf (cV x (x.rv r) (.nat pl) Z) s:=
 .ok _ _ ((Z.f (x.P.tr .a [.nat pl])).g (.nat (pl+1))) s (λo h=>.da hp h) (bl (bg (ar (j4 ba rfl ba.O.ea) (ar (j3 (vs:=aC [.nat pl]) (ar (ah (q:=.a .e) rfl) bu) (show 1≤100000 by decide)) bu))) (bJ (bg (gI (ah (q:=.a .e) rfl) ay)))) (cm _ _) (cm _ _) sg (Ut _) (iU hp) (.refl wf)
variable{k:Nat}
theorem OR(ih:yv x (k+1))(wf:Wf s)(ba:Ba x s)(hn:2*x.w.length+3≤k+2+2*pl)(hp:x.w[pl]?=some (.o .r))(hb:x.P.S.br=true):HR x (aT bF (k+1)) s pl r Qd (cV x (x.rv r) (.nat pl) Z) s:=by
 refine oJ (r:=none) (pl:=pl+1) ih wf ba (iU hp) (Q6 hn) (ah (q:=.e) rfl) (gI (ah (q:=.a .e) (e:=cV x (x.rv r) (.nat pl) Z) rfl) ay) ay (ah (q:=.c .e) rfl) ?_;intro o s1 v h1 h2 h3 h4;cases o with
 |bad z=>cases h4;exact .seq (e':=cV x (x.rv r) (.nat pl) ((Z.h .none).g (.nat z))) (gv h2 λk h=>h) (.fst z (.kb hp hb h1) (wi (zb (sj (cm _ _))) (ah (cm _ _))) h3)
 |ok t q=>
  refine ak h4 ?_;clear h4;rintro ht rfl;have ba1:=ba.grow h3;refine bf h1.mo ?_;rintro l1 l2 -;have tq:Tc (aT bF (k+1)) (rJ (iF (ae (.h .e))) (aA eI (ae (.g .e)) (cW 1 (.g .e) (ae .e)))) (cV x (x.rv r) (.nat pl) ((Z.h t).g (.nat q))) s1 (SS q x.w.length) s1:=uy (si (cm _ _) ht) (hU (ah (cm _ _)) (vj ba1));refine .seq (e':=cV x (x.rv r) (.nat pl) ((Z.h t).g (.nat q))) (gv h2 λk h=>h) ?_;cases e:x.w[q]? with
  |none=>
   have e2:=UZ.mp e;rw[show SS q x.w.length=true from by rw[show q=x.w.length from Nat.le_antisymm l2 e2];exact UX _]at tq;exact .fst q (.ke hp hb h1 e) (wi tq (ah (cm _ _))) h3
  |some y=>
   have hs:x.w[q]?=some .s:=by
    rcases h1.stop with h|⟨h,_⟩|⟨z,_,_,h⟩
    ·rw[h]at e;exact dh e
    ·exact h
    ·exact Ch.noConfusion h
   have lq:=iU e;rw[show SS q x.w.length=false from by cases e:SS q x.w.length with|false=>rfl|true=>exact absurd (T6 e) (UU lq)]at tq;have eb:=j4 (c:=aT bF (k+1)) (rv:=x.rv r) (pl:=.nat pl) (Z:=(Z.h t).g (.nat q)) ba1 rfl ba1.O.eb;rw[hb]at eb;exact .seq (bN tq bY) (.ok _ _ ((((Z.h t).g (.nat q)).f (x.P.tr .k [.nat pl,t,.nat q])).g (.nat (q+1))) s1 (λo y=>.k hp hb h1 hs y) (bl (bg (ar eb (ar (j3 (vs:=aC [.nat pl,t,.nat q]) (ar (ah (q:=.a .e) rfl) (ar (ah (q:=.h .e) (cm _ _)) (ar (ah (q:=.g .e) (cm _ _)) bu))) (show 3≤100000 by decide)) bu))) (bJ (bg (gI (ah (q:=.g .e) (cm _ _)) ay)))) (cm _ _) (cm _ _) sg (UA (WB l1)) lq h3)
theorem OT(ih:yv x (k+1))(wf:Wf s)(ba:Ba x s)(hn:2*x.w.length+3≤k+2+2*pl){y:Op}(hd:tv Z.D=some (dM y))(hp:x.w[pl]?=some (.o y))(hb:(y.isR&&x.P.S.br)=false)(hf:x.P.S.fr y=true):HR x (aT bF (k+1)) s pl r MT (cV x (x.rv r) (.nat pl) Z) s:=by
 refine .seq (e':=cV x (x.rv r) (.nat pl) ((Z.i (.nat (x.P.nu (.f y)))).a (x.rv (some (.f y))))) (gv (Mv hd ba hf) λk h=>h) ?_;refine oJ (r:=some (.f y)) (pl:=pl+1) ih wf ba (iU hp) (Q6 hn) (ah (q:=.e) rfl) (gI (ah (q:=.a .e) (e:=cV x (x.rv r) (.nat pl) ((Z.i (.nat (x.P.nu (.f y)))).a (x.rv (some (.f y))))) rfl) ay) (ah (q:=.a (.a .e)) (cm _ _)) (ah (q:=.c .e) rfl) ?_;intro o s1 v h1 h2 h3 h4;cases o with
 |bad z=>cases h4;exact .seq (e':=cV x (x.rv r) (.nat pl) ((((Z.i (.nat (x.P.nu (.f y)))).a (x.rv (some (.f y)))).h .none).g (.nat z))) (gv h2 λk h=>h) (.fst z (.fb hp hb hf h1) (wi (sj (cm _ _)) (ah (cm _ _))) h3)
 |ok t q=>
  refine ak h4 ?_;clear h4;rintro ht rfl;refine bf h1.mo ?_;rintro l1 l2 -;exact .seq (e':=cV x (x.rv r) (.nat pl) ((((Z.i (.nat (x.P.nu (.f y)))).a (x.rv (some (.f y)))).h t).g (.nat q))) (gv h2 λk h=>h) (.seq (bN (si (cm _ _) ht) bY) (.ok _ _ (((((Z.i (.nat (x.P.nu (.f y)))).a (x.rv (some (.f y)))).h t).g (.nat q)).f (x.P.tr (.f y) [.nat pl,t])) s1 (λo z=>.f hp hb hf h1 z) (bJ (bg (ar (ah (q:=.i .e) (cm _ _)) (ar (j3 (vs:=aC [.nat pl,t]) (ar (ah (q:=.a .e) rfl) (ar (ah (q:=.h .e) (cm _ _)) bu)) (show 2≤100000 by decide)) bu)))) (cm _ _) (cm _ _) sg (WB l1) l2 h3))
theorem OQ{c:Cl}(h:x.P.S.op x.w[pl]?=false)(wf:Wf s):HR x c s pl r KX (cV x (x.rv r) (.nat pl) Z) s:=.bad pl s (.dx h) (bW (eA (ar ay (ar (ah (q:=.a .e) rfl) bu)))) (.refl wf)
theorem OU(ih:yv x (k+1))(wf:Wf s)(ba:Ba x s)(hn:2*x.w.length+3≤k+2+2*pl){d:Si}(hd:tv Z.D=some (iw d))(hp:x.w[pl]?=some d):HR x (aT bF (k+1)) s pl r Qe (cV x (x.rv r) (.nat pl) Z) s:=by
 have tA:=Gy (c:=aT bF (k+1)) (x:=x) (s:=s) (rv:=x.rv r) (pl:=.nat pl) hd (k:=lT) rfl;have tR:=Gy (c:=aT bF (k+1)) (x:=x) (s:=s) (rv:=x.rv r) (pl:=.nat pl) hd (k:=dM .r) rfl;have tB:=F7 (c:=aT bF (k+1)) (rv:=x.rv r) (pl:=.nat pl) (Z:=Z) ba;have tF:=LH (c:=aT bF (k+1)) (rv:=x.rv r) (pl:=.nat pl) (Z:=Z) hd ba;have hx:x.P.S.op (some d)=false->HR x (aT bF (k+1)) s pl r KX (cV x (x.rv r) (.nat pl) Z) s:=λh=>OQ (by rw[hp];exact h) wf;cases d with
 |a=>exact .ifT tA (OV ba wf hp)
 |s=>exact .ifF tA (.pas (.ifF (i0 tR) (.pas (.ifF tF (hx rfl)))))
 |o y=>
  have tA:Tc (aT bF (k+1)) (aA eI (ae (.d .e)) (af lT)) (cV x (x.rv r) (.nat pl) Z) s false s:=by cases y<;>exact tA
  have rest:(y.isR&&x.P.S.br)=false->HR x (aT bF (k+1)) s pl r (bE (aA jU (ae (.d .e)) (av (ae (.c .e)) (af ip))) MT KX) (cV x (x.rv r) (.nat pl) Z) s:=λh=>by
   have tF:Tc (aT bF (k+1)) _ _ s (x.P.S.fr y) s:=tF;cases hf:x.P.S.fr y with
   |true=>rw[hf]at tF;exact .ifT tF (OT ih wf ba hn hd hp h hf)
   |false=>rw[hf]at tF;exact .ifF tF (hx (by show(bif y.isR&&x.P.S.br then true else x.P.S.fr y)=false;rw[h,hf];rfl))
  cases y with
  |r=>
   cases hb:x.P.S.br with
   |true=>rw[hb]at tB;exact .ifF tA (.pas (.ifT (je tR tB) (OR ih wf ba hn hp hb)))
   |false=>rw[hb]at tB;exact .ifF tA (.pas (.ifF (je tR tB) (.pas (rest (by rw[hb];rfl)))))
  |p=>exact .ifF tA (.pas (.ifF (i0 tR) (.pas (rest rfl))))
  |q=>exact .ifF tA (.pas (.ifF (i0 tR) (.pas (rest rfl))))
end
end
end
section
set_option compiler.extract_closed false
section
section
variable{c:Cl}{n:Nat}{e e':En}{s s' s'':KS}{v:KV}
def Kt(c:Cl)(n:Nat)(e:En)(s:KS)(v:KV)(s':KS):Prop:=∀(F:Fr)(k:En->K0),F.ret s' v=true->NG vA BK ab c F (Nr c F k) n e s=true
theorem Ja(h:Tc c vA e s false s)(k:Rt c Nr e s v s'):Kt c (n+1) e s v s':=λF kk h1=>h _ _ (k F kk h1)
theorem nY(h:Tc c vA e s true s)(k:Rt c BK e s v s'):Kt c (n+1) e s v s':=λF kk h1=>h _ _ (k _ _ h1)
theorem Fs(h:Tc c vA e s true s)(k:St c BK e s e' s'')(l:Kt c n e' s'' v s'):Kt c (n+1) e s v s':=λF kk h1=>h _ _ (k _ _ (l F kk h1))
end
section
variable{x:un}{c:Cl}{k:Nat}{s s0:KS}{r:Option Ru}{fi:KV}{Z:Zs}
theorem Q5{L j p q:Nat}(h:L<j+1+p)(l:p<q):L<j+q:=by omega
theorem Rw{L k p q:Nat}(h:2*L+3≤k+2+2*p)(l:p<q):2*L+3≤k+1+2*q:=by omega
theorem Q7{L n p:Nat}(hn:n≤1)(h:2*L+3≤n+2*p)(l:p≤L):False:=by omega
theorem Mu(O:x.Ok)(wf:Wf s)(ba:Ba x s){y:Op}(hd:tv Z.D=some (dM y)):∃s',Ev (aT bF (k+1)) Pr (cV x (x.rv r) fi Z) s (rR (x.P.cho r y)) s'∧Xt s s':=by
 cases r with
 |none=>exact⟨s,rE (sj (q:=.b .e) rfl) ay,.refl wf⟩
 |some r=>
  obtain⟨s',h,k⟩:=Mb (r:=r) (y:=y) (d:=k) O wf;exact⟨s',vk (si (q:=.b .e) (t:=x.rv (some r)) rfl ⟨_,_,rfl⟩) (gD (ar (ah (q:=.b .e) rfl) (ar (FK hd ba) bu)) h),k⟩
theorem Et(O:x.Ok)(ih:yv x (k+1)):∀(j n pl:Nat)(t:KV)(Z:Zs)(s:KS),x.w.length<j+pl->j≤n->2*x.w.length+3≤k+1+2*pl->pl≤x.w.length->Wf s->Ba x s->Xt s0 s->tv Z.F=some t->tv Z.G=some (.nat pl)->B3 t->
  ∃o s' v,Dr x.P x.w (.l t pl r) o∧Kt (aT bF (k+1)) n (cV x (x.rv r) fi Z) s v s'∧Xt s0 s'∧Rv o v:=by
 intro j;induction j with
 |zero=>exact λn pl t Z s h _ _ hp _ _ _ _ _ _=>absurd h (by rw[Vm];exact Nat.not_lt_of_le hp)
 |succ j ihj=>
  intro n pl t Z s hj hjn hn hp wf ba xt hF hG T;cases n with
  |zero=>cases hjn
  |succ n=>
   have tl:Tc (aT bF (k+1)) vA (cV x (x.rv r) fi Z) s (T3 (pl+1) x.w.length) s:=mW (ah (q:=.g .e) hG) (vj ba);cases e:x.w[pl]? with
   |none=>rw[show T3 (pl+1) x.w.length=false from qe (UZ.mp e)]at tl;exact⟨_,_,_,.le (.inl e),Ja tl (bW (eA (ar (ah (q:=.f .e) hF) (ar (ah (q:=.g .e) hG) bu)))),xt,T,rfl⟩
   |some z=>
    have lp:=iU e;rw[SY lp]at tl;have p1:St (aT bF (k+1)) (ao (t1 (.d .e)) (av (ae .e) (ae (.g .e)))) (cV x (x.rv r) fi Z) s (cV x (x.rv r) fi (Z.d (iw z))) s:=bg (FJ ba (ah (q:=.g .e) hG) e);have hd:tv (Z.d (iw z)).D=some (iw z):=cm _ _;have hF':tv (Z.d (iw z)).F=some t:=hF;have hG':tv (Z.d (iw z)).G=some (.nat pl):=hG;generalize Z.d (iw z)=Y at p1 hd hF' hG';have rT:∀{s1:KS}{Y':Zs},tv Y'.F=some t->tv Y'.G=some (.nat pl)->Rt (aT bF (k+1)) (bL (ad (ae (.f .e)) (ad (ae (.g .e)) aj))) (cV x (x.rv r) fi Y') s1 (two t (.nat pl)) s1:=λh1 h2=>eA (ar (ah (q:=.f .e) h1) (ar (ah (q:=.g .e) h2) bu));have rN:∀{s1:KS}{Y':Zs},tv Y'.G=some (.nat pl)->Rt (aT bF (k+1)) (bL (ad (af .none) (ad (ae (.g .e)) aj))) (cV x (x.rv r) fi Y') s1 (two .none (.nat pl)) s1:=λh2=>eA (ar ay (ar (ah (q:=.g .e) h2) bu));have tS:=Gy (c:=aT bF (k+1)) (x:=x) (s:=s) (rv:=x.rv r) (pl:=fi) hd (k:=kI) rfl;have tK:=F7 (c:=aT bF (k+1)) (rv:=x.rv r) (pl:=fi) (Z:=Y) ba;have tB:=LI (c:=aT bF (k+1)) (rv:=x.rv r) (pl:=fi) (Z:=Y) hd ba;have tN:=LF (c:=aT bF (k+1)) (rv:=x.rv r) (pl:=fi) (Z:=Y) hd ba;have bad:x.P.S.fo (some z)=false->Tc (aT bF (k+1)) (iq (aA eI (ae (.d .e)) (af kI)) (cT (av (ae (.c .e)) (af vD)))) (cV x (x.rv r) fi Y) s false s->yz x.P.S.bt z=false->yz x.P.S.bh z=false->∃o s' v,Dr x.P x.w (.l t pl r) o∧Kt (aT bF (k+1)) (n+1) (cV x (x.rv r) fi Z) s v s'∧Xt s0 s'∧Rv o v:=λh1 h2 h3 h4=>by
     rw[h3]at tB;rw[h4]at tN;exact⟨.bad pl,s,_,.lx (by rw[e];exact h1),nY tl (bp p1 (bp (bN h2 bY) (bW (fO (je tB tN) (bW (rN hG')))))),xt,rfl⟩
    cases z with
    |a=>exact bad rfl (i0 tS) rfl rfl
    |s=>
     cases hb:x.P.S.br with
     |true=>rw[hb]at tK;exact⟨_,_,_,.le (.inr ⟨e,hb⟩),nY tl (bp p1 (bW (fO (je tS tK) (bW (rT hF' hG'))))),xt,T,rfl⟩
     |false=>rw[hb]at tK;exact bad hb (je tS tK) rfl rfl
    |o y=>
     have tS:Tc (aT bF (k+1)) (aA eI (ae (.d .e)) (af kI)) (cV x (x.rv r) fi Y) s false s:=by cases y<;>exact tS
     have p2:=bN (a:=ac (bL (ad (ae (.f .e)) (ad (ae (.g .e)) aj))) ab) (i0 (d:=cT (av (ae (.c .e)) (af vD))) tS) bY;cases hu:x.P.S.us y with
     |false=>exact bad hu (i0 tS) (by cases hh:x.P.S.bt y with|false=>exact hh|true=>exact absurd (show(x.P.S.bt y||x.P.S.bh y)=true by rw[hh];rfl) (by rw[show(x.P.S.bt y||x.P.S.bh y)=false from hu];decide)) (by cases hh:x.P.S.bh y with|false=>exact hh|true=>rw[Gr hh]at hu;cases hu)
     |true=>
      have tU:Tc (aT bF (k+1)) (iq (aA kQ (ae (.d .e)) (av (ae (.c .e)) (af kJ))) (aA kQ (ae (.d .e)) (av (ae (.c .e)) (af md)))) (cV x (x.rv r) fi Y) s false s:=by
       cases hh:x.P.S.bt y with
       |true=>rw[show yz x.P.S.bt (.o y)=true from hh]at tB;exact i0 tB
       |false=>
        rw[show yz x.P.S.bt (.o y)=false from hh]at tB;rw[show yz x.P.S.bh (.o y)=true from Fg hu (λz=>by rw[hh]at z;exact aD z) id]at tN;exact je tB tN
      have p3:=bN (a:=ac (bL (ad (af .none) (ad (ae (.g .e)) aj))) ab) tU bY;obtain⟨s1,em,x1⟩:=Mu (k:=k) (r:=r) (fi:=fi) O wf ba hd;have ba1:=ba.grow x1;have xt1:=xt.trans x1;have p4:St (aT bF (k+1)) (ao (t1 (.b (.a .e))) Pr) (cV x (x.rv r) fi Y) s (cV x (x.rv r) fi (Y.b (rR (x.P.cho r y)))) s1:=bg em;have tch:∀(v:KV),pk v=true->Tc (aT bF (k+1)) (aA eI (ae (.b (.a .e))) (af v)) (cV x (x.rv r) fi (Y.b (rR (x.P.cho r y)))) s1 (cM (rR (x.P.cho r y)) v) s1:=λv h1=>jG (ah (q:=.b (.a .e)) (cm _ _)) ay (by cases x.P.cho r y<;>rfl) h1;have hd1:tv (Y.b (rR (x.P.cho r y))).D=some (dM y):=hd;have hF1:tv (Y.b (rR (x.P.cho r y))).F=some t:=hF';have hG1:tv (Y.b (rR (x.P.cho r y))).G=some (.nat pl):=hG';generalize Y.b (rR (x.P.cho r y))=W at p4 hd1 hF1 hG1 tch;have t0:=tch (rR .no) rfl;have tm:=tch (rR .rd) rfl;have th:=LJ (c:=aT bF (k+1)) (d:=.o y) (rv:=x.rv r) (pl:=fi) (Z:=W) hd1 ba1;cases hc:x.P.cho r y with
      |no=>
       rw[hc]at t0;exact⟨.bad pl,s1,_,.ln e hu hc,nY tl (bp p1 (bp p2 (bp p3 (bp p4 (bW (fO t0 (bW (rN hG1)))))))),xt1,rfl⟩
      |rd=>
       rw[hc]at t0 tm;exact⟨_,s1,_,.lr e hu hc,nY tl (bp p1 (bp p2 (bp p3 (bp p4 (bp (bN t0 bY) (bW (fO tm (bW (rT hF1 hG1))))))))),xt1,T,rfl⟩
      |sh=>
       rw[hc]at t0 tm;have p5:=bN (a:=ac (bL (ad (af .none) (ad (ae (.g .e)) aj))) ab) t0 bY;have p6:=bN (a:=ac (bL (ad (ae (.f .e)) (ad (ae (.g .e)) aj))) ab) tm bY;cases hh:x.P.S.bh y with
       |true=>
        rw[show yz x.P.S.bh (.o y)=true from hh]at th;have q1:St (aT bF (k+1)) MR (cV x (x.rv r) fi W) s1 (cV x (x.rv r) fi ((W.f (x.P.tr (.h y) [t,.nat pl])).g (.nat (pl+1)))) s1:=bl (bg (ar (Mx hd1 ba1 hh) (ar (j3 (vs:=aC [t,.nat pl]) (ar (ah (q:=.f .e) hF1) (ar (ah (q:=.g .e) hG1) bu)) (show 2≤100000 by decide)) bu))) (bJ (bg (gI (ah (q:=.g .e) hG1) ay)));refine iz (ihj n (pl+1) (x.P.tr (.h y) [t,.nat pl]) ((W.f (x.P.tr (.h y) [t,.nat pl])).g (.nat (pl+1))) s1 (Q5 hj (Ut _)) (Vj hjn) (OZ hn (U8 _)) lp x1.wf ba1 xt1 (cm _ _) (cm _ _) sg) ?_;intro o s' v a1 a2 a3 a4;exact⟨o,s',v,.lh e hh hc a1,Fs tl (bl p1 (bl p2 (bl p3 (bl p4 (bl p5 (bl p6 (bJ (eL th q1)))))))) a2,a3,a4⟩
       |false=>
        rw[show yz x.P.S.bh (.o y)=false from hh]at th;have hbt:x.P.S.bt y=true:=Fg hu id λz=>by rw[hh]at z;exact aD z
        refine oJ (r:=some (.b y)) (pl:=pl+1) ih x1.wf ba1 lp (OZ hn (U8 _)) (ah (q:=.e) rfl) (gI (ah (q:=.g .e) (e:=cV x (x.rv r) fi W) hG1) ay) (by rw[←O.hb];exact FK hd1 ba1) (ah (q:=.c .e) rfl) ?_;intro o s2 v g1 g2 g3 g4;cases o with
        |bad z=>
         cases g4;exact⟨.bad z,s2,_,.lbb e hu hh hc g1,nY tl (bp p1 (bp p2 (bp p3 (bp p4 (bp p5 (bp p6 (bW (Al th (bp (e':=cV x (x.rv r) fi ((W.h .none).c (.nat z))) (gv g2 λk h=>h) (bW (wi (sj (q:=.h .e) (cm _ _)) (ah (q:=.c (.a .e)) (cm _ _))))))))))))),xt1.trans g3,rfl⟩
        |ok t2 z=>
         refine ak g4 ?_;clear g4;rintro ht rfl;refine bf g1.mo ?_;rintro l3 l4 -;have ba2:=ba1.grow g3;have q1:St (aT bF (k+1)) MS (cV x (x.rv r) fi W) s1 (cV x (x.rv r) fi ((((W.h t2).c (.nat z)).f (x.P.tr (.b y) [t,.nat pl,t2])).g (.nat z))) s2:=bl (e':=cV x (x.rv r) fi ((W.h t2).c (.nat z))) (gv g2 λk h=>h) (bl (bN (si (q:=.h .e) (cm _ _) ht) bY) (bl (bg (ar (Mw hd1 ba2 hbt) (ar (j3 (vs:=aC [t,.nat pl,t2]) (ar (ah (q:=.f .e) hF1) (ar (ah (q:=.g .e) hG1) (ar (ah (q:=.h .e) (cm _ _)) bu))) (show 3≤100000 by decide)) bu))) (bJ (bg (ah (q:=.c (.a .e)) (cm _ _))))));refine iz (ihj n z (x.P.tr (.b y) [t,.nat pl,t2]) ((((W.h t2).c (.nat z)).f (x.P.tr (.b y) [t,.nat pl,t2])).g (.nat z)) s2 (Q5 hj (WB l3)) (Vj hjn) (OZ hn (V9 (WB l3))) l4 g3.wf ba2 (xt1.trans g3) (cm _ _) (cm _ _) sg) ?_;intro o s' v a1 a3 a4 a5;exact⟨o,s',v,.lb e hu hh hc g1 a1,Fs tl (bl p1 (bl p2 (bl p3 (bl p4 (bl p5 (bl p6 (bJ (bN th q1)))))))) a3,a4,a5⟩
theorem Ak{c:Cl}{e:En}{s s':KS}{v:KV}(h:Kt c kR e s v s'):Rt c (ac (ez vA BK ab) Nr) e s v s':=λF k hk=>h F k hk
theorem G4(O:x.Ok)(hw:x.w.length≤100):∀n:Nat,yv x n
 |0=>λpl r s Y Y l h=>(Q7 (by decide) h l).elim
 |1=>λpl r s Y Y l h=>(Q7 (by decide) h l).elim
 |k+2=>λpl r s wf ba hp hn=>by
  have ih:=G4 O hw (k+1);have tl:Tc (aT bF (k+1)) (aA eI (ae (.a .e)) (cW 1 (.g .e) (ae .e))) (cV x (x.rv r) (.nat pl) Z0) s (SS pl x.w.length) s:=hU (ah (q:=.a .e) rfl) (vj ba);have fin:∀{s':KS}{v:KV},Rt (aT bF (k+1)) Pq (cV x (x.rv r) (.nat pl) Z0) s v s'->Ca (aT bF (k+2)) Ng (.cons (.ref x.wq) (.cons (.nat pl) (.cons (x.rv r) (.cons (.ref x.bq) .nil)))) s v s':=λh=>qc O0 rfl (λk h=>h) h;cases e:x.w[pl]? with
  |none=>
   rw[show SS pl x.w.length=true from by rw[show pl=x.w.length from Nat.le_antisymm hp (UZ.mp e)];exact UX _]at tl;exact⟨.bad pl,s,_,.dx (by rw[e];rfl),fin (bW (fO tl (bW (eA (ar ay (ar (ah (q:=.a .e) rfl) bu)))))),.refl wf,rfl⟩
  |some d=>
   have lp:=iU e;rw[show SS pl x.w.length=false from by cases e:SS pl x.w.length with|false=>rfl|true=>exact absurd (T6 e) (UU lp)]at tl;have p1:St (aT bF (k+1)) (ao (t1 (.d .e)) (av (ae .e) (ae (.a .e)))) (cV x (x.rv r) (.nat pl) Z0) s (cV x (x.rv r) (.nat pl) (Z0.d (iw d))) s:=bg (FJ ba (ah (q:=.a .e) rfl) e);have p0:=bN (a:=KX) tl bY;cases OU (r:=r) (Z:=Z0.d (iw d)) (d:=d) ih wf ba hn (show tv (pv (iw d) Z0.D)=some (iw d)from cm _ _) e with
   |bad z s' a1 a2 a3=>exact⟨_,s',_,a1,fin (bp p0 (bp p1 (bW a2))),a3,rfl⟩
   |ok t pl' Z s' a2 a3 a4 a5 a6 a7 a8 a9=>
    refine iz (Et (r:=r) (fi:=.nat pl) O ih (x.w.length+1) kR pl' t Z s' (UW (Ut _) (TC _ _)) (SV (TY hw) (by decide)) (Rw hn a7) a8 a9.wf (ba.grow a9) a9 a4 a5 a6) ?_;intro o s2 v b1 b2 b3 b4;exact⟨o,s2,v,a2 o b1,fin (bp p0 (bp p1 (bp a3 (Ak b2)))),b3,b4⟩
end
end
end
section
set_option compiler.extract_closed false
section
section
noncomputable def PS:Pa:=.f (.g .e)
theorem NZ:tg PS bF=some (.fn 3 .nil Q9):=by kernel_rfl
structure yK where
 tq:Pa
 aq:Pa
 gq:Pa
 sq:Pa
 wq:Pa
 w:List Si
 P:Pm
 N:Qs->Nat
 sp:List KV
def ui(x:yK)(a:Ac)(v:Option KV):Prop:=match a with
 |.no=>v=none∨v=some .none
 |.sh q=>v=some (.nat (x.N q))∧1≤x.N q
 |.rd r=>v=some (.neg (x.P.nu r-1))∧1≤x.P.nu r
 |.ok=>v=some (.nat 0)
structure TF(x:yK)(s:KS):Prop where
 i:∃n fs,tg x.tq s.h=some (.inst n fs)∧tg (.h (.c .e)) fs=some (.ref x.aq)∧tg (.i (.c .e)) fs=some (.ref x.gq)
 a:∃n es,tg x.aq s.h=some (.dict n es)∧∀q,x.P.S.ex q=true->∃rq n' rs,dl es (.nat (x.N q))=some (.ref rq)∧tg rq s.h=some (.dict n' rs)∧∀m,ui x (x.P.act q m) (dl rs (um m))
 g:∃n es,tg x.gq s.h=some (.dict n es)∧∀z,x.P.S.ex (.c z)=true->∃rq n' rs,dl es (.nat (x.N (.c z)))=some (.ref rq)∧tg rq s.h=some (.dict n' rs)∧dl rs cE=some (.nat (x.N (.g z)))
 l:tg x.sq s.h=some (aK x.sp)∧∀r,x.P.S.has r=true->∃q nm l,x.sp[x.P.nu r-1]?=some (two (.ref q) nm)∧tg q s.h=some (aK l)∧l.length=r.len
 w:tg x.wq s.h=some (aK (x.w.map iw))
noncomputable def kc(x:yK)(st:List (Qs×KV)):List KV:=(st.map λy=>.nat (x.N y.1)).reverse
noncomputable def jW(st:List (Qs×KV)):List KV:=(st.map (·.2)).reverse
noncomputable def pB(st:List (Qs×KV)):List KV:=jW st.dropLast
structure TI(x:yK)(s0 s:KS)(st:List (Qs×KV))(pq vq:Pa):Prop where
 wf:Wf s
 kp:∀q o,tg q s0.h=some o->tg q s.h=some o
 p:tg pq s.h=some (aK (kc x st))
 v:tg vq s.h=some (aK (pB st))
 ne:pq≠vq
 p0:tg pq s0.h=none
 v0:tg vq s0.h=none
noncomputable def tE(x:yK)(G Hm Ir A B:T KV)(pq vq:Pa)(pl:KV):En:=.nd (some (.ref x.tq)) (Fm (.ref x.sq) A) (Fm (.ref x.wq) B) (Fm (.ref pq) .nil) (Fm (.ref vq) .nil) (Fm pl .nil) G Hm Ir
def Nw(c:Cl)(n:Nat)(it:KI)(e:En)(s:KS)(v:KV)(s':KS):Prop:=∀(F:Fr)(k:En->K0),F.ret s' v=true->KM (t1 (.g .e)) FU ab c F k n it e s=true
end
section
variable{c:Cl}{e e':En}{s s' s'' s0:KS}{x y:X}{v w:KV}{q p:Pa}{l m:List KV}{it it':KI}
theorem Ed{n:Nat}{es:KD}(hx:Ev c x e s (.ref q) s)(hi:Ev c y e s v s)(hq:tg q s.h=some (.dict n es))(hp:pk v=true):Ev c (gK x y) e s ((dl es v).getD .none) s:=λk h=>hx _ (bH hq (hi _ (bH hq (by
 show az (pk v) false (cC es v (k s .none) (k s))=true;rw[hp];show cC es v _ _=true;unfold cC;cases h':dl es v<;>rw[h']at h<;>exact h))))
theorem FH{i:Nat}(hx:Ev c x e s (.ref q) s)(hi:Ev c y e s (.nat i) s)(hq:tg q s.h=some (aK (l++m)))(hl:l.length=i)(hn:i≤100000):Ev c (yw x y) e s (.ref s.n) (bz s (aK l)):=λk h=>hx _ (hi _ (bH hq (by
 subst hl;show lO k s (@Ue (λzz=>Nat) (l++m).length l.length (T3 l.length (l++m).length)) (take l.length (aC (l++m)))=true;rw[SY (by rw[Td];exact TC _ _),jH,List.take_left' rfl];exact kz hn h)))
theorem Bh{i:Nat}(hx:Ev c x e s (.ref q) s)(hi:Ev c y e s (.nat i) s)(hq:tg q s.h=some (aK (l++m)))(hl:l.length=i):Ev c (kT x y) e s (.fl (aC m)) s:=λk h=>hx _ (hi _ (bH hq (by
 subst hl;show k s (.fl (drop l.length (aC (l++m))))=true;rw[oA,List.drop_left' rfl];exact h)))
theorem AP(hn:Nx s it v it')(k:Rt c FU (tp (.g .e) v e) s w s'){n:Nat}:Nw c (n+1) it e s w s':=λF kk h1=>(hn _ _).trans (k _ _ h1)
theorem Fp(hn:Nx s it v it')(k:St c FU (tp (.g .e) v e) s e' s''){n:Nat}(l:Nw c n it' e' s'' w s'):Nw c (n+1) it e s w s':=λF kk h1=>(hn _ _).trans (k _ _ (l F kk h1))
theorem wC{m a:Nat}:Nx s (.seq (rg (m+1) a)) (.nat a) (.seq (rg m (a+1))):=λZ Z=>rfl
theorem LG{e:En}{x:X}{m:Nat}(h:Ev c x e s (.neg m) s):Tc c (aA rP x (af (.nat 0))) e s false s:=λt f q=>h _ q
variable{z:yK}{st:List (Qs×KV)}{pq vq:Pa}
theorem sR(a b:List (Qs×KV)):kc z (a++b)=kc z b++kc z a:=by unfold kc;rw[WS,List.reverse_append]
theorem Lp(a b:List (Qs×KV)):jW (a++b)=jW b++jW a:=by unfold jW;rw[WS,List.reverse_append]
theorem Gu(a b:List (Qs×KV))(y:Qs×KV):pB (a++y::b)=pB (y::b)++jW a:=by
 unfold pB;rw[List.dropLast_append_of_ne_nil (List.cons_ne_nil _ _),Lp]
theorem Ax:(kc z st).length=st.length:=by unfold kc;rw[VF,TL]
theorem Lu{y:Qs×KV}:(pB (y::st)).length=st.length:=by unfold pB jW;rw[VF,TL,List.length_dropLast];rfl
theorem TI.put2(I:TI z s0 s st pq vq)(l:List (Qs×KV)):TI z s0 (bV (bV s pq (aK (kc z l))) vq (aK (pB l))) l pq vq:=by
 have v1:tg vq (bV s pq (aK (kc z l))).h=some (aK (pB st)):=(bO I.ne.symm).trans I.v;exact⟨(I.wf.put I.p).put v1,λq o h=>(bO λe=>by rw[e,I.v0]at h;exact dh h).trans ((bO λe=>by rw[e,I.p0]at h;exact dh h).trans (I.kp q o h)),(bO I.ne).trans i6,i6,I.ne,I.p0,I.v0⟩
end
section
variable{c:Cl}{s s0:KS}{z:yK}{q:Qs}{v:KV}{st:List (Qs×KV)}{G Hm Ir A B:T KV}{pq vq:Pa}{pl:Nat}{cn:KV}
theorem M8(m:Option Si):pk (um m)=true:=by cases m with|none=>rfl|some x=>cases x with|o y=>cases y<;>rfl|_=>rfl
def Nq:Y:=(ac (bE (iF (ae (.i .e))) (ac (bL (ad (af .none) (ad (ae (.f .e)) aj))) ab) ab) (ac (bE (aA eI (ae (.i .e)) (af (.nat 0))) (ac (bL JU) ab) ab) (ac (bE (aA rP (ae (.i .e)) (af (.nat 0))) MI MJ) ab)))
def Qa(y:Y):Y:=(ac (ao (t1 (.h .e)) (iL (aA my (ae (.f .e)) (cW 1 (.g .e) (ae (.b .e)))) (av (ae (.b .e)) (ae (.f .e))) (af Kk))) (ac (ao (t1 (.i .e)) (gK (av (ai (.h (.c .e)) (ae .e)) (av (ae (.c .e)) (eC (af (.nat 1))))) (ae (.h .e)))) y))
theorem mH(T:TF z s0)(I:TI z s0 s ((q,v)::st) pq vq)(hq:z.P.S.ex q=true){R:Prop}(k:∀u,ui z (z.P.act q z.w[pl]?) u->(∀{y:Y},(∀{e':En}{s':KS},St c y (tE z G (pv (um z.w[pl]?) Hm) (pv (u.getD .none) Ir) A B pq vq (.nat pl)) s e' s'->St c (Qa y) (tE z G Hm Ir A B pq vq (.nat pl)) s e' s')∧(∀{v':KV}{s':KS},Rt c y (tE z G (pv (um z.w[pl]?) Hm) (pv (u.getD .none) Ir) A B pq vq (.nat pl)) s v' s'->Rt c (Qa y) (tE z G Hm Ir A B pq vq (.nat pl)) s v' s'))->R):R:=by
 refine aH T.i ?_;intro n1 fs i1 i2 i3;refine aL T.a ?_;intro n2 es a1 a2;refine fL (a2 q hq) ?_;intro rq n rs b1 b2 b3;have hw:=I.kp _ _ T.w;have hp:=I.p;rw[show(q,v)::st=[(q,v)]++st from rfl,sR]at hp;have le:Ev c (cW 1 (.g .e) (ae (.b .e))) (tE z G Hm Ir A B pq vq (.nat pl)) s (.nat z.w.length) s:=by
  have:=fE (c:=c) (e:=tE z G Hm Ir A B pq vq (.nat pl)) (c0:=1) (p:=.g .e) (ah (q:=.b .e) rfl) hw;rw[TL]at this;exact this
 have tl:=mW (c:=c) (x:=ae (.f .e)) (ah (v:=.nat pl) rfl) le;have p1:St c (ao (t1 (.h .e)) (iL (aA my (ae (.f .e)) (cW 1 (.g .e) (ae (.b .e)))) (av (ae (.b .e)) (ae (.f .e))) (af Kk))) (tE z G Hm Ir A B pq vq (.nat pl)) s (tE z G (pv (um z.w[pl]?) Hm) Ir A B pq vq (.nat pl)) s:=bg (by
  cases e:z.w[pl]? with
  |none=>rw[show T3 (pl+1) z.w.length=false from qe (UZ.mp e)]at tl;exact vk tl ay
  |some y=>rw[SY (iU e)]at tl;exact rE tl (il (ah (q:=.b .e) rfl) (ah (v:=.nat pl) rfl) hw (by rw[f9,Tr,e];rfl)))
 have p2:St c (ao (t1 (.i .e)) (gK (av (ai (.h (.c .e)) (ae .e)) (av (ae (.c .e)) (eC (af (.nat 1))))) (ae (.h .e)))) (tE z G (pv (um z.w[pl]?) Hm) Ir A B pq vq (.nat pl)) s (tE z G (pv (um z.w[pl]?) Hm) (pv ((dl rs (um z.w[pl]?)).getD .none) Ir) A B pq vq (.nat pl)) s:=bg (Ed (dA (jk (ah (q:=.e) rfl) (I.kp _ _ i1) i2) (tP (ah (q:=.c .e) rfl) hp) (I.kp _ _ a1) rfl b1) (ah (q:=.h .e) (cm _ _)) (I.kp _ _ b2) (M8 _));exact k _ (b3 _) λ{y}=>⟨λh=>bl p1 (bl p2 h),λh=>bp p1 (bp p2 h)⟩
theorem Ej(T:TF z s0)(I:TI z s0 s ((q,v)::st) pq vq)(hq:z.P.S.ex q=true)(a:z.P.act q z.w[pl]?=.no):Rt c FU (tE z G Hm Ir A B pq vq (.nat pl)) s (two .none (.nat pl)) s:=by
 refine mH (c:=c) (G:=G) (Hm:=Hm) (Ir:=Ir) (A:=A) (B:=B) (pl:=pl) T I hq ?_;intro u h pr;rw[a]at h;have hu:u.getD .none=.none:=by rcases h with h|h<;>rw[h]<;>rfl
 rw[hu]at pr;have ei:Ev c (ae (.i .e)) (tE z G (pv (um z.w[pl]?) Hm) (pv .none Ir) A B pq vq (.nat pl)) s .none s:=ah (q:=.i .e) (cm _ _);exact(pr (y:=Nq)).2 (bW (fO (kU ei rfl) (bW (eA (ar ay (ar (ah (q:=.f .e) rfl) bu))))))
theorem JT(T:TF z s0){t:KV}(I:TI z s0 s [(.g .o,t),(.c .o,.none)] pq vq)(a:z.P.act (.g .o) z.w[pl]?=.ok):Rt c FU (tE z G Hm Ir A B pq vq (.nat pl)) s (two t .none) s:=by
 refine mH (c:=c) (G:=G) (Hm:=Hm) (Ir:=Ir) (A:=A) (B:=B) (pl:=pl) T I rfl ?_;intro u h pr;rw[a]at h;have hu:u.getD .none=.nat 0:=by rw[show u=some (.nat 0)from h];rfl
 rw[hu]at pr;have ei:Ev c (ae (.i .e)) (tE z G (pv (um z.w[pl]?) Hm) (pv (.nat 0) Ir) A B pq vq (.nat pl)) s (.nat 0) s:=ah (q:=.i .e) (cm _ _);have hv:tg vq s.h=some (.list 1 (aC [t])):=I.v;exact(pr (y:=Nq)).2 (bp (bN (kU ei rfl) bY) (bW (fO (hU (b:=0) ei ay) (bW (eA (rE (hU (a:=1) (b:=1) (fE (ah (q:=.d .e) rfl) hv) ay) (ar (il (m:=0) (ah (q:=.d .e) rfl) ay hv rfl) (ar ay bu))))))))
theorem JR(T:TF z s0)(I:TI z s0 s ((q,v)::st) pq vq)(hq:z.P.S.ex q=true){q':Qs}(a:z.P.act q z.w[pl]?=.sh q')(hl:st.length≤2000):∃s' Hm' Ir',St c FU (tE z G Hm Ir A B pq vq (.nat pl)) s (tE z G Hm' Ir' A B pq vq (.nat (pl+1))) s'∧TI z s0 s' ((q',.nat pl)::(q,v)::st) pq vq:=by
 refine mH (c:=c) (G:=G) (Hm:=Hm) (Ir:=Ir) (A:=A) (B:=B) (pl:=pl) T I hq ?_;intro u h pr;rw[a]at h;refine ak h ?_;clear h;intro hu n1;rw[show u.getD .none=.nat (z.N q') by rw[hu];rfl]at pr;have ei:∀s,Ev c (ae (.i .e)) (tE z G (pv (um z.w[pl]?) Hm) (pv (.nat (z.N q')) Ir) A B pq vq (.nat pl)) s (.nat (z.N q')) s:=λs=>ah (q:=.i .e) (cm _ _);have t0:=hU (b:=0) (ei s) (ay (v:=.nat 0));rw[show SS (z.N q') 0=false from by cases e:SS (z.N q') 0 with|false=>rfl|true=>rw[T6 e]at n1;cases n1]at t0;have tg:=zd (b:=0) (ei s) (ay (v:=.nat 0));rw[SY n1]at tg;have p1:=kY (c:=c) (ah (q:=.c .e) (s:=s) (e:=tE z G (pv (um z.w[pl]?) Hm) (pv (.nat (z.N q')) Ir) A B pq vq (.nat pl)) rfl) (ei s) I.p (by rw[Ax];show st.length+1≤_;omega);have p2:=kY (c:=c) (ah (q:=.d .e) (s:=bV s pq (aK (kc z ((q,v)::st)++[.nat (z.N q')]))) (e:=tE z G (pv (um z.w[pl]?) Hm) (pv (.nat (z.N q')) Ir) A B pq vq (.nat pl)) rfl) (ah (q:=.f .e) (v:=.nat pl) rfl) ((bO I.ne.symm).trans I.v) (by rw[Lu];omega);have J:=I.put2 ((q',.nat pl)::(q,v)::st);rw[show(q',KV.nat pl)::(q,v)::st=[(q',KV.nat pl)]++(q,v)::st from rfl,sR,Gu]at J;exact⟨_,_,_,(pr (y:=Nq)).1 (bl (bN (kU (ei s) rfl) bY) (bl (bN t0 bY) (bJ (eL tg (bl p1 (bl p2 (bJ (bg (gI (ah (q:=.f .e) (v:=.nat pl) rfl) ay))))))))),J⟩
theorem JS(T:TF z s0){ks rest:List (Qs×KV)}{x:Xo}{u:KV}(I:TI z s0 s ((q,v)::(ks++(.c x,u)::rest)) pq vq)(hq:z.P.S.ex q=true)(hx:z.P.S.ex (.c x)=true){k:Ru}(a:z.P.act q z.w[pl]?=.rd k)(hk:((q,v)::ks).length=k.len)(hl:(ks++(.c x,u)::rest).length≤900)
  {R:Prop} (kk:∀s' Hm' Ir' A' B' pq' vq',St c FU (tE z G Hm Ir A B pq vq (.nat pl)) s (tE z G Hm' Ir' A' B' pq' vq' (.nat pl)) s'->TI z s0 s' ((.g x,z.P.tr k (((q,v)::ks).reverse.map (·.2)))::(.c x,u)::rest) pq' vq'->R):R:=by
 have kl:ks.length≤900:=by rw[Td]at hl;exact SV (TC _ _) hl
 have rl:rest.length+1≤900:=by rw[Td]at hl;exact SV (TB _ _) hl
 refine mH (c:=c) (G:=G) (Hm:=Hm) (Ir:=Ir) (A:=A) (B:=B) (pl:=pl) T I hq ?_;intro u2 h pr;rw[a]at h;refine ak h ?_;clear h;intro hu n1;rw[show u2.getD .none=.neg (z.P.nu k-1) by rw[hu];rfl]at pr;refine ak T.l ?_;intro l1 l2;refine fL (l2 k (EL hq a)) ?_;intro sq nm ls m1 m2 m3;generalize pv (um z.w[pl]?) Hm=Hm1 at*;have hv:=I.v;have hp:=I.p;rw[show(q,v)::(ks++(Qs.c x,u)::rest)=((q,v)::ks)++(Qs.c x,u)::rest from rfl,Gu]at hv;rw[show(q,v)::(ks++(Qs.c x,u)::rest)=((q,v)::ks)++(Qs.c x,u)::rest from rfl,sR]at hp;have vl:(jW ((q,v)::ks)).length=k.len:=by unfold jW;rw[VF,TL];exact hk
 have tl:(pB ((Qs.c x,u)::rest)).length=rest.length:=Lu;have em:∀s A B pq vq,Ev c (ae (.i .e)) (tE z G Hm1 (pv (.neg (z.P.nu k-1)) Ir) A B pq vq (.nat pl)) s (.neg (z.P.nu k-1)) s:=λs A B pq vq=>ah (q:=.i .e) (cm _ _);have ea:∀s A B pq vq,Ev c (eC (ae (.i .e))) (tE z G Hm1 (pv (.neg (z.P.nu k-1)) Ir) A B pq vq (.nat pl)) s (.nat (z.P.nu k)) s:=λs A B pq vq=>by
  have h:=JF (em s A B pq vq);rw[Uq n1]at h;exact h
 have b0:=bN (a:=ac (bL (ad (af .none) (ad (ae (.f .e)) aj))) ab) (kU (em s A B pq vq) rfl) bY;have b1:=bN (a:=ac (bL JU) ab) (jG (em s A B pq vq) (ay (v:=.nat 0)) rfl rfl) bY;have b2:=LG (em s A B pq vq);have p1:St c (ao (t1 (.a (.a .e))) (cW 1 (.g .e) (av (av (ae (.a .e)) (bj lP (eC (ae (.i .e))) (af (.nat 1)))) (af (.nat 0))))) (tE z G Hm1 (pv (.neg (z.P.nu k-1)) Ir) A B pq vq (.nat pl)) s (tE z G Hm1 (pv (.neg (z.P.nu k-1)) Ir) (pv (.nat k.len) A) B pq vq (.nat pl)) s:=bg (m3▸fE (mE (m:=0) (il (ah (q:=.a .e) rfl) (vh (ea s _ _ _ _) ay n1) (I.kp _ _ l1) (by rw[f9];exact m1)) ay rfl) (I.kp _ _ m2));have p2:St c (ao (t1 (.b (.a .e))) (bj lP (cW 1 (.g .e) (ae (.d .e))) (ae (.a (.a .e))))) (tE z G Hm1 (pv (.neg (z.P.nu k-1)) Ir) (pv (.nat k.len) A) B pq vq (.nat pl)) s (tE z G Hm1 (pv (.neg (z.P.nu k-1)) Ir) (pv (.nat k.len) A) (pv (.nat rest.length) B) pq vq (.nat pl)) s:=bg (by
  have:=vh (c:=c) (s:=s) (fE (e:=tE z G Hm1 (pv (.neg (z.P.nu k-1)) Ir) (pv (.nat k.len) A) B pq vq (.nat pl)) (c0:=1) (p:=.g .e) (ah (q:=.d .e) rfl) hv) (ah (q:=.a (.a .e)) (v:=.nat k.len) (cm _ _)) (by rw[Td,vl];exact TB _ _);rw[Td,vl,tl,Nat.add_sub_cancel]at this;exact this)
 have x1:Xt s (bz s (aK (pB ((Qs.c x,u)::rest)))):=.new I.wf;have q1:=FH (c:=c) (ah (q:=.d .e) (e:=tE z G Hm1 (pv (.neg (z.P.nu k-1)) Ir) (pv (.nat k.len) A) (pv (.nat rest.length) B) pq vq (.nat pl)) rfl) (ah (q:=.b (.a .e)) (cm _ _)) hv tl (by omega);have n1':tg s.n (bz s (aK (pB ((Qs.c x,u)::rest)))).h=some (aK (pB ((Qs.c x,u)::rest))):=dB;have z1:=gy I.kp I.wf;generalize bz s (aK (pB ((Qs.c x,u)::rest)))=s1 at*;have q2:=Bh (c:=c) (ah (q:=.d .e) (e:=tE z G Hm1 (pv (.neg (z.P.nu k-1)) Ir) (pv (.nat k.len) A) (pv (.nat rest.length) B) pq vq (.nat pl)) rfl) (ah (q:=.b (.a .e)) (cm _ _)) (x1.keep _ _ hv) tl;have q3:=wW q1 (j3 (ar (ar (ea s1 _ _ _ _) (ar q2 bu)) bu) (show 1≤100000 by decide)) n1' (show(pB ((Qs.c x,u)::rest)).length+1≤100000 by rw[tl];omega);rw[show KO.list ((pB ((Qs.c x,u)::rest)).length+len (.cons (.cons (.nat (z.P.nu k)) (.cons (.fl (aC (jW ((q,v)::ks)))) .nil)) .nil)) (Internal.app (aC (pB ((Qs.c x,u)::rest))) (.cons (.cons (.nat (z.P.nu k)) (.cons (.fl (aC (jW ((q,v)::ks)))) .nil)) .nil))=aK (pB ((Qs.c x,u)::rest)++jW [(Qs.g x,z.P.tr k (((q,v)::ks).reverse.map (·.2)))]) by
  refine(congrArg (KO.list _) (gY _ [two (.nat (z.P.nu k)) (.fl (aC (jW ((q,v)::ks))))])).trans ?_;unfold aK jW Pm.tr;rw[List.map_reverse,Td];rfl]at q3
 rw[←Gu]at q3;have x2:=Xt.new (o:=aK (pB ([(Qs.g x,z.P.tr k (((q,v)::ks).reverse.map (·.2)))]++(Qs.c x,u)::rest))) x1.wf;have n2:tg s1.n (bz s1 (aK (pB ([(Qs.g x,z.P.tr k (((q,v)::ks).reverse.map (·.2)))]++(Qs.c x,u)::rest)))).h=some _:=dB;have z2:=gy (λq o h=>x1.keep q o (I.kp q o h)) x1.wf;generalize bz s1 (aK (pB ([(Qs.g x,z.P.tr k (((q,v)::ks).reverse.map (·.2)))]++(Qs.c x,u)::rest)))=s2 at*;have p3:St c (ao (t1 (.d .e)) (bj cI (yw (ae (.d .e)) (ae (.b (.a .e)))) (p7 (ad (ad (eC (ae (.i .e))) (ad (kT (ae (.d .e)) (ae (.b (.a .e)))) aj)) aj)))) (tE z G Hm1 (pv (.neg (z.P.nu k-1)) Ir) (pv (.nat k.len) A) (pv (.nat rest.length) B) pq vq (.nat pl)) s (tE z G Hm1 (pv (.neg (z.P.nu k-1)) Ir) (pv (.nat k.len) A) (pv (.nat rest.length) B) pq s1.n (.nat pl)) s2:=bg q3;have q4:=FH (c:=c) (l:=kc z ((Qs.c x,u)::rest)) (ah (q:=.c .e) (e:=tE z G Hm1 (pv (.neg (z.P.nu k-1)) Ir) (pv (.nat k.len) A) (pv (.nat rest.length) B) pq s1.n (.nat pl)) rfl) (gI (ah (q:=.b (.a .e)) (cm _ _)) (ay (v:=.nat 1))) (x2.keep _ _ (x1.keep _ _ hp)) Ax (by omega);have x3:=Xt.new (o:=aK (kc z ((Qs.c x,u)::rest))) x2.wf;have n3:tg s2.n (bz s2 (aK (kc z ((Qs.c x,u)::rest)))).h=some _:=dB;have z3:=gy (λq o h=>x2.keep q o (x1.keep q o (I.kp q o h))) x2.wf;have ne:=x2.wf.ne n2;generalize bz s2 (aK (kc z ((Qs.c x,u)::rest)))=s3 at*;have p4:St c (ao (t1 (.c .e)) (yw (ae (.c .e)) (bj cI (ae (.b (.a .e))) (af (.nat 1))))) (tE z G Hm1 (pv (.neg (z.P.nu k-1)) Ir) (pv (.nat k.len) A) (pv (.nat rest.length) B) pq s1.n (.nat pl)) s2 (tE z G Hm1 (pv (.neg (z.P.nu k-1)) Ir) (pv (.nat k.len) A) (pv (.nat rest.length) B) s2.n s1.n (.nat pl)) s3:=bg q4;have kp3:∀q o,tg q s0.h=some o->tg q s3.h=some o:=λq o h=>x3.keep q o (x2.keep q o (x1.keep q o (I.kp q o h)));refine aH T.i ?_;intro n2' fs i1 i2 i3;refine aL T.g ?_;intro n3' es g1 g2;refine fL (g2 x hx) ?_;intro rq2 n4 rs2 c1 c2 c3;have hp3:=n3;rw[show(Qs.c x,u)::rest=[(Qs.c x,u)]++rest from rfl,sR]at hp3;have p5:=kY (c:=c) (y:=av (av (ai (.i (.c .e)) (ae .e)) (av (ae (.c .e)) (eC (af (.nat 1))))) (af cE)) (ah (q:=.c .e) (s:=s3) (e:=tE z G Hm1 (pv (.neg (z.P.nu k-1)) Ir) (pv (.nat k.len) A) (pv (.nat rest.length) B) s2.n s1.n (.nat pl)) rfl)
  (dA (dA (jk (ah (q:=.e) rfl) (kp3 _ _ i1) i3) (tP (ah (q:=.c .e) rfl) hp3) (kp3 _ _ g1) rfl c1) ay (kp3 _ _ c2) rfl c3) n3 (by rw[Ax];show rest.length+1≤_;omega)
 refine kk _ _ _ _ _ _ _ ((pr (y:=Nq)).1 (bl b0 (bl b1 (bJ (bN b2 (bl p1 (bl p2 (bl p3 (bl p4 (bJ p5)))))))))) ⟨x3.wf.put n3,λq o h=>(bO λe=>by rw[e,z3]at h;exact dh h).trans (kp3 q o h),i6.trans ?_,(bO ne).trans (x3.keep _ _ n2),ne.symm,z3,z2⟩;rw[show(Qs.g x,z.P.tr k (((q,v)::ks).reverse.map (·.2)))::(Qs.c x,u)::rest=[(Qs.g x,z.P.tr k (((q,v)::ks).reverse.map (·.2)))]++(Qs.c x,u)::rest from rfl,sR];rfl
end
section
variable{c:Cl}{s s0:KS}{z:yK}
theorem Ei(T:TF z s0){n:Nat}{st:List (Qs×KV)}{pl:Nat}{r:KV}(h:yL z.P z.w n st pl r):
  ∀(i j a:Nat)(G Hm Ir A B:Internal.T KV)(pq vq:Pa)(s:KS),(∀y∈st,z.P.S.ex y.1=true)->st.length+n≤900->TI z s0 s st pq vq->∃s',Nw c (i+n+1) (.seq (rg (j+n+1) a)) (tE z G Hm Ir A B pq vq (.nat pl)) s r s':=by
 induction h with
 |dead a=>exact λi j b G Hm Ir A B pq vq s he hl I=>⟨s,AP wC (Ej (G:=pv (.nat b) G) T I (he _ SX) a)⟩
 |ok a=>exact λi j b G Hm Ir A B pq vq s he hl I=>⟨s,AP wC (JT (G:=pv (.nat b) G) T I a)⟩
 |@sh n q q' v st pl r a _ ih=>
  intro i j b G Hm Ir A B pq vq s he hl I;have hl:st.length+1+n+1≤900:=hl;refine eS (JR (c:=c) (G:=pv (.nat b) G) (Hm:=Hm) (Ir:=Ir) (A:=A) (B:=B) T I (he _ SX) a (SV (TC _ (1+n+1)) (by rw[←UM,←UM];exact SV hl (by decide)))) ?_;intro s1 H1 I1 st1 J;refine aw (ih i j (b+1) (pv (.nat b) G) H1 I1 A B pq vq s1 (λy hy=>?_) (SV (VZ (Wu _ 1 n)) hl) J) ?_
  ·rcases T8.mp hy with rfl|hy
   ·exact Ks (he _ SX) a
   ·exact he y hy
  intro s2 lo;exact⟨s2,Fp wC st1 lo⟩
 |@rd n q v k x u ks st pl r a l t _ ih=>
  intro i j b G Hm Ir A B pq vq s he hl I;have hx:z.P.S.ex (.c x)=true:=he (.c x,u) (T5 _ (TU _ SX));have hl:(ks++(.c x,u)::st).length+1+n+1≤900:=hl;have l1:(ks++(.c x,u)::st).length≤900:=SV (SV (U8 _) (TC _ n)) (WC hl);have l2:st.length+1≤(ks++(.c x,u)::st).length:=by rw[Td];exact TB _ _
  refine JS (c:=c) (G:=pv (.nat b) G) (Hm:=Hm) (Ir:=Ir) (A:=A) (B:=B) T I (he _ SX) hx a l l1 ?_;intro s1 H1 I1 A1 B1 pq1 vq1 st1 J;refine aw (ih i j (b+1) (pv (.nat b) G) H1 I1 A1 B1 pq1 vq1 s1 (λy hy=>?_) (SV (Nat.add_le_add_right (TY l2) n) (WC hl)) J) ?_
  ·rcases T8.mp hy with rfl|hy
   ·show z.P.S.ex (.g x)=true;cases x<;>exact hx
   ·exact he y (T5 _ (TU _ hy))
  intro s2 lo;exact⟨s2,Fp wC st1 lo⟩
theorem Mo{e:En}{x:X}{n:Nat}(hx:Ev c x e s (.nat n) s)(hn:n≤5000):Iv c (mA x) e s (.seq (rg n 0)) s:=λk h=>hx _ (by
 show az (T3 n 5000) false (az (T3 0 5000) false (k (.seq (rg n 0)) s))=true;rw[SY hn];exact h)
theorem y9{d n:Nat}{r:KV}(T:TF z s)(wf:Wf s)(h0:z.N (.c .o)=0)(hl:z.w.length≤100)(h:yL z.P z.w n [(.c .o,.none)] 0 r):
  ∃s',Ca (aT bF (d+1)) PS (.cons (.ref z.tq) (.cons (.ref z.sq) (.cons (.ref z.wq) .nil))) s r s':=by
 have hb:=h.bound (TQ _);have hb:n≤2*z.w.length+1:=hb;have x1:Xt s (bz s (aK [.nat 0])):=.new wf;have n1:tg s.n (bz s (aK [.nat 0])).h=some (aK [.nat 0]):=dB;have a1:St (aT bF d) (ao (t1 (.c .e)) (aS (ad (af (.nat 0)) aj))) (tp (.b .e) (.ref z.wq) (tp (.a .e) (.ref z.sq) (tp .e (.ref z.tq) .nil))) s (tp (.c .e) (.ref s.n) (tp (.b .e) (.ref z.wq) (tp (.a .e) (.ref z.sq) (tp .e (.ref z.tq) .nil)))) (bz s (aK [.nat 0])):=bg (mG (vs:=aC [.nat 0]) (ar ay bu) (show 1≤100000 by decide));have f1:=wf.fresh;generalize bz s (aK [.nat 0])=s1 at*;have x2:Xt s1 (bz s1 (aK [])):=.new x1.wf;have n2:tg s1.n (bz s1 (aK [])).h=some (aK []):=dB;have a2:St (aT bF d) (ao (t1 (.d .e)) (aS aj)) (tp (.c .e) (.ref s.n) (tp (.b .e) (.ref z.wq) (tp (.a .e) (.ref z.sq) (tp .e (.ref z.tq) .nil)))) s1 (tp (.d .e) (.ref s1.n) (tp (.c .e) (.ref s.n) (tp (.b .e) (.ref z.wq) (tp (.a .e) (.ref z.sq) (tp .e (.ref z.tq) .nil))))) (bz s1 (aK [])):=bg (mG (vs:=aC []) bu (show 0≤100000 by decide));have f20:=gy x1.keep x1.wf;have ne:=x1.wf.ne n1;generalize bz s1 (aK [])=s2 at*;have I:TI z s s2 [(.c .o,.none)] s.n s1.n:=⟨x2.wf,(x1.trans x2).keep,by show tg s.n s2.h=some (aK [.nat (z.N (.c .o))]);refine rwr h0 ?_;exact x2.keep _ _ n1,n2,ne,f1,f20⟩
 have le:Ev (aT bF d) (cW 1 (.g .e) (ae (.b .e))) (tE z .nil .nil .nil .nil .nil s.n s1.n (.nat 0)) s2 (.nat z.w.length) s2:=by
  have:=fE (c:=aT bF d) (e:=tE z .nil .nil .nil .nil .nil s.n s1.n (.nat 0)) (c0:=1) (p:=.g .e) (ah (q:=.b .e) rfl) (I.kp _ _ T.w);rw[TL]at this;exact this
 have hn:n+1≤2*100+2:=TY (SV hb (TY (Wj 2 hl)));have hn3:n+1≤3*z.w.length+3:=SV (TY hb) (Vw (Nat.mul_le_mul_right _ (show 2≤3 by decide)) (show 2≤3 by decide));have e1:kR-(n+1)+n+1=kR:=Uq (SV hn (by decide));have e2:3*z.w.length+3-(n+1)+n+1=3*z.w.length+3:=Uq hn3;have lo:=Ei (c:=aT bF d) T h (kR-(n+1)) (3*z.w.length+3-(n+1)) 0 .nil .nil .nil .nil .nil s.n s1.n s2 (λy hy=>by cases U9.mp hy;rfl) (SV (VZ (UY 1 n)) (SV hn (by decide))) I;rw[e1,e2]at lo;refine aw lo ?_;intro s3 lo;exact⟨s3,qc (e0:=tp (.b .e) (.ref z.wq) (tp (.a .e) (.ref z.sq) (tp .e (.ref z.tq) .nil))) NZ rfl (λk h=>h) (bp a1 (bp a2 (bp (bg ay) λF k hk=>Mo (gI (JG (a:=3) ay le (by decide)) ay) (by omega) _ (lo F _ hk))))⟩
end
end
end
section
set_option compiler.extract_closed false
section
open PySem PySem.W PyProof.Rows
section
noncomputable def Dg(d:Nat):KV×Nat:=bif SS (d%4) 0 then(lC,0)else(jE.getD (d/4%3) .none,1+d/12%3)
noncomputable def uP(v:Nat->Nat)(i:Nat):KV×Nat:=Dg (bif T3 i 3 then v i else 0)
def Nd(v:Nat->Nat)(z:Nat):KV:=oB (uP v (z/64/64%8)).2 (uP v (z/64/64/8)).2 (uP v (z/64/64/8)).1 (z/64%64) (z%64)
noncomputable def dL(h:Nat):pz:=⟨SS (h%2) 1,bif SS (h%2) 1 then h/2%3 else 0,h/6%4,h/24%5,bif !SS (h%2) 1&&SS (h/24%5) 0 then h/120%3 else h/120%4⟩
noncomputable def LA(h f:Nat):KV:=bif SS f (dL h).num||SS f (480+h/600%2)then .nat h else .nil
def mh(h:Nat)(v:Nat->Nat)(n:Nat):KV:=bif T3 200000 n then LA h (n-200000)else bif T3 10 n then Nd v (n-10)else bif SS (n%2) 0 then(uP v (n/2)).1 else .nat (uP v (n/2)).2
end
theorem dm{q r b:Nat}(h:r<b):(q*b+r)/b=q∧(q*b+r)%b=r:=by
 rw[UY];exact⟨by rw[Nat.add_mul_div_right _ _ (Nat.zero_lt_of_lt h),Nat.div_eq_of_lt h,Vm],by rw[Nat.add_mul_mod_self_right,Nat.mod_eq_of_lt h]⟩
theorem dn{q r b:Nat}(h:r<b):(r+b*q)/b=q∧(r+b*q)%b=r:=by rw[UY,Nat.mul_comm];exact dm h
theorem dv{N a b c m:Nat}(e:a*b=c)(h:N/a=m):N/c=m/b:=by rw[←e,←Nat.div_div_eq_div_mul,h]
theorem M4{o n x e t N:Nat}(ho:o<2)(hn:n<3)(hx:x<4)(he:e<5)(ht:t<4)(hN:N=o+2*(n+3*(x+4*(e+5*t)))){G:Prop}(k:T3 480 N=false->N%2=o->N/2%3=n->N/6%4=x->N/24%5=e->N/120%4=t->G):G:=by
 have a1:N/2=_:=(congrArg (·/2) hN).trans (dn ho).1;have a2:=(dv (show 2*3=6 from rfl) a1).trans (dn hn).1;have a3:=(dv (show 6*4=24 from rfl) a2).trans (dn hx).1;have a4:=(dv (show 24*5=120 from rfl) a3).trans (dn he).1;refine k ?_ ((congrArg (·%2) hN).trans (dn ho).2) ((congrArg (·%3) a1).trans (dn hn).2) ((congrArg (·%4) a2).trans (dn hx).2) ((congrArg (·%5) a3).trans (dn he).2) ((congrArg (·%4) a4).trans (Nat.mod_eq_of_lt ht));have l:N<4*120:=(Vn (show 0<120 by decide)).mp (a4▸ht);cases z:T3 480 N with
 |false=>rfl
 |true=>exact absurd (SP z) (WL l)
theorem EI{b:Bool}{x y:Option Nat}{r:Nat}{G:Prop}(h:(bif b then x else y)=some r)(k1:b=true->x=some r->G)(k2:y=some r->G):G:=by cases b with|true=>exact k1 rfl h|false=>exact k2 h
theorem MN{b:Bool}{n r:Nat}{G:Prop}(h:ML b n=some r)(k:b=true->n=r->G):G:=by cases b with|true=>exact k rfl (Ti h)|false=>exact dh h
theorem IO{h a b c d r:Nat}(q:(SS a c&&SS b d)=true)(k:h/c%d=r):h/a%b=r:=iJ q λh1 h2=>by rw[T6 h1,T6 h2];exact k
theorem JV{n h a b r:Nat}(f0:T3 480 n=false)(f1:h%2=n%2)(f2:SS (n%2) 1=true->h/2%3=n/2%3)(f3:h/6%4=n/6%4)(f4:h/24%5=n/24%5)(f5:(SS (n%2) 0&&SS (n/24%5) 0)=true->h/120%3=n/120%4)(f6:(SS (n%2) 1||!SS (n/24%5) 0)=true->h/120%4=n/120%4)(hd:KW n a b=some r):h/a%b=r:=
 EI hd (λ_ hd=>MN hd λz _=>aD (f0.symm.trans z)) λhd=>EI hd (λz _=>aD (f0.symm.trans z)) λhd=>
 EI hd (λq hd=>IO q ((congrArg (·%2) (Nat.div_one h)).trans (f1.trans (Ti hd)))) λhd=>
 EI hd (λq hd=>IO q (f3.trans (Ti hd))) λhd=>
 EI hd (λq hd=>IO q (MN hd λz e=>(f2 z).trans e)) λhd=>
 EI hd (λq hd=>IO q (f4.trans (Ti hd))) λhd=>
 EI hd (λq hd=>IO q (MN hd λz e=>(f5 z).trans e)) λhd=>
 EI hd (λq hd=>IO q (MN hd λz e=>(f6 z).trans e)) λhd=>dh hd
theorem El{h a b r:Nat}(hd:KW (dL h).num a b=some r):h/a%b=r:=by
 have m3:∀x:Nat,x%3<3:=λx=>Uz _ (by decide);have m4:∀x:Nat,x%4<4:=λx=>Uz _ (by decide);have hn:(dL h).n<3:=by show(bif SS (h%2) 1 then h/2%3 else 0)<3;cases SS (h%2) 1 with|true=>exact m3 _|false=>exact(by decide:0<3)
 have ht:(dL h).t<4:=by show(bif !SS (h%2) 1&&SS (h/24%5) 0 then h/120%3 else h/120%4)<4;cases(!SS (h%2) 1&&SS (h/24%5) 0)with|true=>exact UA (m3 _)|false=>exact m4 _
 have ho:∀b:Bool,(bif b then 1 else 0)<2:=λb=>by cases b with|true=>exact Nat.one_lt_two|false=>exact Nat.zero_lt_two
 refine M4 (ho (dL h).o) hn (m4 (h/6)) (Uz (h/24) (by decide)) ht (N:=(dL h).num) rfl λf0 f1 f2 f3 f4 f5=>?_;have e1:(dL h).num%2=h%2:=by
  rw[f1];show(bif SS (h%2) 1 then 1 else 0)=h%2;rcases Wn h with e|e<;>rw[e]<;>rfl
 refine JV f0 e1.symm (λz=>?_) f3.symm f4.symm (λz=>?_) (λz=>?_) hd
 ·rw[e1]at z;refine Eq.trans ?_ f2.symm;show h/2%3=bif SS (h%2) 1 then h/2%3 else 0;rw[z];rfl
 ·rw[e1,f4]at z;refine Eq.trans ?_ f5.symm;show h/120%3=bif !SS (h%2) 1&&SS (h/24%5) 0 then h/120%3 else h/120%4;refine iJ z λz1 z2=>?_;rw[T6 z1,z2];rfl
 ·rw[e1,f4]at z;refine Eq.trans ?_ f5.symm;show h/120%4=bif !SS (h%2) 1&&SS (h/24%5) 0 then h/120%3 else h/120%4;have z:(SS (h%2) 1||!SS (h/24%5) 0)=true:=z;cases e:SS (h%2) 1 with
  |true=>rfl
  |false=>rw[e]at z;cases e2:SS (h/24%5) 0 with|false=>rfl|true=>rw[e2]at z;exact aD z
section
variable{h:Nat}{v:Nat->Nat}{C:Cx}
theorem qI(d:Nat):(Dg d).1=mN∨(Dg d).1=lD∨(Dg d).1=lC:=by
 unfold Dg;cases SS (d%4) 0 with
 |true=>exact .inr (.inr rfl)
 |false=>
  have m1:d/4%3<3:=Uz _ (by decide);show jE.getD (d/4%3) .none=_∨jE.getD (d/4%3) .none=_∨jE.getD (d/4%3) .none=_;generalize d/4%3=m at*;exact iR (P:=λm=>jE.getD m .none=mN∨jE.getD m .none=lD∨jE.getD m .none=lC) (.inl rfl) (.inr (.inr rfl)) (.inr (.inl rfl)) m1
theorem z9(hC:C.tk=mh h v){i:Nat}(hi:i<5):C.tk (2*i)=(uP v i).1:=by
 refine rwr hC ?_;exact m9 (P:=λi=>mh h v (2*i)=(uP v i).1) rfl rfl rfl rfl rfl hi
theorem xv(hC:C.tk=mh h v){i:Nat}(hi:i<5):C.tk (2*i+1)=.nat (uP v i).2:=by
 refine rwr hC ?_;exact m9 (P:=λi=>mh h v (2*i+1)=.nat (uP v i).2) rfl rfl rfl rfl rfl hi
theorem Gw(hC:C.tk=mh h v)(f:Nat):C.tk (200000+f)=LA h f:=by
 rw[hC];unfold mh;rw[SY (TC 200000 f),Ur];rfl
theorem Ly(hC:C.tk=mh h v):C.tk (200000+(dL h).num)=.nat h:=(Gw hC _).trans (by unfold LA;rw[UX];rfl)
theorem NO(hC:C.tk=mh h v):C.tk (200480+h/600%2)=.nat h:=by
 refine(congrArg C.tk (UM 200000 480 (h/600%2))).trans ((Gw hC _).trans ?_);unfold LA;rw[UX,Bool.or_true];rfl
theorem Lz(hC:C.tk=mh h v):EN C:=λf=>by
 rw[Gw hC];unfold LA;cases q:(SS f (dL h).num||SS f (480+h/600%2))with
 |false=>exact .inl rfl
 |true=>
  refine .inr ⟨h,rfl,λa b r hd=>Fg q (λq=>?_) λq=>?_⟩
  ·rw[T6 q]at hd;exact El hd
  ·rw[T6 q]at hd;have e:T3 480 (480+h/600%2)=true:=SY (TC _ _);refine EI hd (λq hd=>IO q (MN hd λ_ e=>(Ur 480 _).symm.trans e)) λhd=>?_;rw[e]at hd;exact dh hd
theorem LC{z:Nat}(hz:z/64/64/8<5):mh h v (10+z)=Nd v z:=by
 have l:z<5*8*64*64:=(Vn (by decide)).mp ((Vn (by decide)).mp ((Vn (by decide)).mp hz));have e:T3 200000 (10+z)=false:=by
  cases y:T3 200000 (10+z)with
  |false=>rfl
  |true=>exact absurd (SV (SP y) (Wk (V9 l) 10)) (by decide)
 unfold mh;rw[e,SY (TC 10 z),Ur];rfl
theorem F5(hC:C.tk=mh h v):lH C where
 lv:=λx hx=>⟨_,xv hC hx⟩
 wy:=λx hx=>by refine rwr (z9 hC hx) ?_;exact qI _
 en:=λa r j n la lr ha hr hj hn h1 h2=>by
  rw[xv hC ha]at h1;rw[xv hC hr]at h2;cases h1;cases h2;have a1:=dm (q:=(r*8+a)*64+j) hn;have a2:=dm (q:=r*8+a) hj;have a3:=dm (q:=r) (Nat.lt_trans ha (by decide:5<8));have e:Nd v (((r*8+a)*64+j)*64+n)=oB (uP v a).2 (uP v r).2 (uP v r).1 j n:=by
   unfold Nd;exact rwr a1.1 (rwr a1.2 (rwr a2.1 (rwr a2.2 (rwr a3.1 (rwr a3.2 rfl)))))
  refine rwr (z9 hC hr) (rwr hC (rwl e ?_));exact LC (by rw[a1.1,a2.1,a3.1];exact hr)
end
end
end
section
set_option compiler.extract_closed false
section
open PySem PySem.W PyProof.Rows
section
noncomputable def Dq:List (Nat->Bool):=[false,true].flatMap λa=>[false,true].flatMap λb=>[false,true].flatMap λd=>[false,true].map λe=>Oj a b d e
noncomputable def rQ(n x:Nat):List pz:=(UE 5).flatMap λe=>(UE 4).map λt=>⟨true,n,x,e,t⟩
noncomputable def lz(x e:Nat):List pz:=(UE (bif SS e 0 then 3 else 4)).map λt=>⟨false,0,x,e,t⟩
def bZ(l:List pz):Prop:=∀(n:Nat)(xs:KV)(k':Option KO->Bool),l.map (λc=>Dq.map λp=>Dh c p c.num n xs k')=l.map λzz=>Dq.map λzz=>k' (some (.list n xs))
noncomputable def ul(v:Nat->Nat)(i:Nat):Bool:=!SS (v i%4) 0
noncomputable def m8(v:Nat->Nat):Nat->Bool:=Oj (ul v 0) (ul v 1) (ul v 2) (ul v 3)
noncomputable def Gv(ds:List Nat):KO:=.list ds.length (aC (fc ds))
def E6(p:Nat->Bool)(rs:List R2)(ds:List Nat):List KO:=fP (ub (.dict 4 (uk (uU p))) rs) (Gv ds) rs
def Np(h:Nat):En:=tp (.g .e) (.ref (bD 3)) (tp (.f .e) (.ref (bD 2)) (tp (.c .e) (.ref (bD 0)) (tp (.b .e) (.nat h) (tp (.a .e) (.ref (bD 1)) .nil))))
def nJ(o:KO):Prop:=∀n,o≠.junk n
end
theorem qJ{α:Type}{l:List α}{f g:α->Bool}(h:l.map f=l.map g){x:α}(hx:x∈l):f x=g x:=Wy.mp h x hx
theorem Nu(b:Bool):b∈[false,true]:=by cases b with|false=>exact SX|true=>exact T5 _ SX
theorem Do(a b d e:Bool):Oj a b d e∈Dq:=Us.mpr ⟨a,Nu a,Us.mpr ⟨b,Nu b,Us.mpr ⟨d,Nu d,UO.mpr ⟨e,Nu e,rfl⟩⟩⟩⟩
theorem pR(ds:List Nat):mc (aC (fc ds))=true:=jL λx hx=>by unfold fc at hx;refine rO hx ?_;rintro y-rfl;rfl
section
variable{h:Nat}{v:Nat->Nat}{C:Cx}{ds:List Nat}{qt qr:Pa}{e en:En}{s:KS}{φ:Pa->Option Pa}{Z:Pa->KV->Prop}
theorem uX{i:Nat}(hi:i<4):m8 v i=ul v i:=by
 match i,hi with
 |0,_=>rfl
 |1,_=>rfl
 |2,_=>rfl
 |3,_=>rfl
theorem uO{i:Nat}(hi:i<4):uP v i=Dg (v i):=by unfold uP;rw[SY (Nat.le_of_lt_succ hi)];rfl
theorem vP{n:Nat}{x:KV}(e:C.tk n=x)(h:pl x=true):VS C.tk φ Z (.tok (n+2)) x:=.inr ⟨n,rfl,e.symm,h⟩
theorem Ln{n l:Nat}(e:C.tk n=.nat l):VS C.tk φ Z (.nat l) (.tok (n+2)):=.inr ⟨n,rfl,e⟩
theorem qN{v:KV}(h:v=mN∨v=lD∨v=lC):pl v=true:=by rcases h with rfl|rfl|rfl<;>rfl
theorem Ll(hC:C.tk=mh h v){i:Nat}(hi:i<4):VS C.tk φ Z (uU (m8 v) i) (KG (v i)):=by
 have h1:=z9 hC (UA hi);have h2:=xv hC (UA hi);have hw:=qI (v i);rw[uO hi]at h1 h2;unfold uU KG;rw[uX hi];unfold ul;unfold Dg at h1 h2 hw;cases e:SS (v i%4) 0 with
 |true=>exact .inl rfl
 |false=>
  rw[e]at h1 h2 hw;exact⟨_,_,rfl,vP h1 (qN hw),_,_,rfl,vP h2 rfl,rfl⟩
theorem FQ{V:KV->KV->Prop}{f g:Nat->KV}(h:∀i,i<4->V (f i) (g i)):DS V (uk f) (uk g):=⟨_,_,rfl,h 0 (by decide),_,_,rfl,h 1 (by decide),_,_,rfl,h 2 (by decide),_,_,rfl,h 3 (by decide),rfl⟩
theorem Pn(hC:C.tk=mh h v)(A:KB h v ds qt qr e s):yu C e s (Pe (dL h).num) (pU [.dict 4 (uk (uU (m8 v))),Gv ds]):=by
 refine⟨_,_,kG (as:=[qr,qt]) (U3.mpr ⟨λz=>A.ne.symm (U9.mp z),U3.mpr ⟨Tz,Vt⟩⟩) rfl λi o a ho ha=>?_,λq x hx=>?_⟩
 ·match i with
  |0=>cases ho;cases ha;exact⟨_,A.r,_,rfl,FQ λi hi=>Ll hC hi⟩
  |1=>cases ho;cases ha;exact⟨_,A.t,_,rfl,qz (pR ds)⟩
  |i+2=>cases ho
 ·rcases bQ hx with⟨rfl,rfl⟩|hx
  ·exact⟨_,A.ec,qr,rfl,rfl⟩
  ·rcases bQ hx with⟨rfl,rfl⟩|hx
   ·exact⟨_,A.eb,by rw[show 200002+(dL h).num=200000+(dL h).num+2 from Wu _ 2 _];exact vP (Ly hC) rfl⟩
   ·rcases bQ hx with⟨rfl,rfl⟩|hx
    ·exact⟨_,A.ea,qt,rfl,rfl⟩
    ·rw[dU]at hx;exact dh hx
theorem Bo{o:Option KV}{q:Pa}(h:P8 o q=true):o=some (.ref q):=by
 refine aB h ?_;rintro u h rfl;refine cL h ?_;rintro p h rfl;rw[sQ (T6 h)]
theorem JM{o:Option KV}{n:Nat}(h:Q8 o n=true):o=some (.tok n):=by
 refine aB h ?_;rintro u h rfl;refine gh h ?_;rintro m h rfl;rw[T6 h]
theorem tI{o:Option KV}(h:wK o=true):o=some (.ref (GX o)):=by
 refine aB h ?_;rintro u h rfl;refine cL h ?_;rintro p h rfl;rfl
theorem Gs(hC:C.tk=mh h v)(n:Nat)(y:KV)(h':NM (m8 v) n y=true):y=.tok n∨∃m,n=m+2∧y=C.tk m∧pl y=true:=by
 unfold NM at h';cases b:C8 (SS n) y with
 |true=>refine gh b ?_;rintro m h1 rfl;rw[T6 h1];exact .inl rfl
 |false=>
  rw[b]at h';cases b2:(T3 2 n&&T3 n 9&&!m8 v ((n-2)/2))with
  |false=>rw[b2]at h';exact aD h'
  |true=>
   rw[b2]at h';refine iJ b2 λb2 b3=>iJ b2 λl1 l2=>?_;have en:n-2+2=n:=Uq (SP l1);have hi:(n-2)/2<4:=(Vn (by decide)).mpr (TY (Nat.sub_le_sub_right (SP l2) 2));have dm:=Nat.div_add_mod (n-2) 2;have em:(n-2)%2=n%2:=(Nat.add_mod_right (n-2) 2).symm.trans (congrArg (·%2) en);generalize n-2=m at*;subst en;rw[uX hi]at b3;have h1:=z9 hC (UA hi);have h2:=xv hC (UA hi);generalize m/2=i at*;have z:SS (v i%4) 0=true:=by unfold ul at b3;cases w:SS (v i%4) 0 with|true=>rfl|false=>rw[w]at b3;exact aD b3
   have e0:uP v i=(lC,0):=by rw[uO hi];unfold Dg;rw[z];rfl
   rw[e0]at h1 h2;refine .inr ⟨m,rfl,?_⟩;have h':(bif SS ((m+2)%2) 0 then AF (SS 40567024288966772448377926844532) y else gp (SS 0) y)=true:=h';rcases Wn (m+2)with b4|b4
   ·rw[b4]at h';rw[em,b4,Nat.add_zero]at dm;have hy:y=lC:=by cases y<;>first|exact congrArg KV.str (T6 h').symm|exact aD h'
    exact⟨hy.trans (dm▸h1.symm),by rw[hy];rfl⟩
   ·rw[b4]at h';rw[em,b4]at dm;have hy:y=.nat 0:=by cases y<;>first|exact congrArg KV.nat (T6 h').symm|exact aD h'
    exact⟨hy.trans (dm▸h2.symm),by rw[hy];rfl⟩
theorem Om{B:Bk}{w:KO}{rs:List R2}(h:nJ B.rk∧nJ B.bo∧nJ B.fr∧nJ B.bt∧nJ B.bh∧nJ B.ra){i:Nat}(hi:i≠1){o:KO}(ho:(fP B w rs)[i]?=some o):nJ o:=by
 obtain⟨h0,h3,h4,h5,h6,h7⟩:=h
 match i,hi,ho with
 |0,_,ho=>cases ho;exact h0
 |1,hi,_=>exact absurd rfl hi
 |2,_,ho=>cases ho;exact λn z=>KO.noConfusion z
 |3,_,ho=>cases ho;exact h3
 |4,_,ho=>cases ho;exact h4
 |5,_,ho=>cases ho;exact h5
 |6,_,ho=>cases ho;exact h6
 |7,_,ho=>cases ho;exact h7
 |i+8,_,ho=>
  have ho:(rs.map λr=>aK r.1)[i]?=some o:=ho;rw[Tr]at ho;refine xT ho ?_;rintro r-rfl;exact λn z=>KO.noConfusion z
theorem IV{B:Bk}{w w':KO}{rs:List R2}{i:Nat}(hi:i≠1):(fP B w rs)[i]?=(fP B w' rs)[i]?:=by
 match i,hi with
 |0,_=>rfl
 |1,h=>exact absurd rfl h
 |i+2,_=>rfl
theorem Pl(hC:C.tk=mh h v){rs:List R2}{g:Option KO->Bool}(hg:∀o,g o=true->o=some (Gv ds))(hk:JO (dL h).num rs (m8 v) g en s=true):yu C en s (Np h) (pU (E6 (m8 v) rs ds)):=by
 refine aI hk ?_;clear hk;intro ea hk;refine aI hk ?_;clear hk;intro ec hk;refine aI hk ?_;clear hk;intro eb hk;refine aI hk ?_;clear hk;intro ef hk;refine aI hk ?_;clear hk;intro eg hk;refine aI hk ?_;clear hk;intro hc ht;have ht:=hg _ ht;refine aI hc ?_;clear hc;intro nd hc;have hl:=u7 hc;refine⟨_,_,kG (as:=L8 en s) (AJ nd) (hl.trans rfl) λi o a ho ha=>?_,λq x hx=>?_⟩
 ·by_cases h1:i=1
  ·subst h1;cases ho;cases ha;exact⟨_,ht,_,rfl,qz (pR ds)⟩
  ·have ho:(fP (ub (.dict 4 (uk (uU (m8 v)))) rs) (Gv ds) rs)[i]?=some o:=ho;rw[IV (w':=.junk 0) h1]at ho;obtain⟨o',g1,g2⟩:=xg hc i o a ho ha;have nj:nJ o:=Om ⟨λn z=>KO.noConfusion z,λn z=>KO.noConfusion z,λn z=>KO.noConfusion z,λn z=>KO.noConfusion z,λn z=>KO.noConfusion z,λn z=>KO.noConfusion z⟩ h1 ho;exact⟨o',g1,Ki (Gs hC) (nj 0) g2 nj⟩
 ·rcases bQ hx with⟨rfl,rfl⟩|hx
  ·exact⟨_,tI eg,_,(gF (L8 en s) 3).trans rfl,rfl⟩
  ·rcases bQ hx with⟨rfl,rfl⟩|hx
   ·exact⟨_,tI ef,_,(gF (L8 en s) 2).trans rfl,rfl⟩
   ·rcases bQ hx with⟨rfl,rfl⟩|hx
    ·exact⟨_,Bo ec,_,(gF (L8 en s) 0).trans rfl,rfl⟩
    ·rcases bQ hx with⟨rfl,rfl⟩|hx
     ·exact⟨_,JM eb,by rw[show 200002+(dL h).num=200000+(dL h).num+2 from Wu _ 2 _];exact Ln (Ly hC)⟩
     ·rcases bQ hx with⟨rfl,rfl⟩|hx
      ·exact⟨_,Bo ea,_,(gF (L8 en s) 1).trans rfl,rfl⟩
      ·rw[dU]at hx;exact dh hx
end
end
end
section
set_option compiler.extract_closed false
section
open PySem PySem.W PyProof.Rows
section
def LL(x:KV):Bool:=@KV.rec (λZ=>Bool) false (λZ=>false) (λZ=>false) (λZ=>false) (λZ=>true) true (λZ Z a b=>dj a b) (λZ=>false) (λZ=>false) (λZ Z=>false) x
noncomputable def yl(o:Bool)(x e:Nat):Bool:=bif o then SS x 0 else bif SS x 0 then T3 1 e else SS e 1||SS e 4
noncomputable def pz.sk(c:pz)(p:Nat->Bool)(m:Nat):Sk:=⟨c.o,c.sn p,c.sx,bif c.o then 0 else c.e,c.t,bif yl c.o c.sx c.e then 2 else m⟩
def eqv(x y:KV):Bool:=MU [] (λn=>C8 (SS n)) x y
def Nn(v w:Option KV):Bool:=ci v (ci w true λzz=>false) λx=>ci w false (eqv x)
def PP(f:Si->Bool):Bool:=dj (f .a) (dj (f .s) (qV λx=>f (.o x)))
def Jr(v:KV):Bool:=cM v lT||(cM v kI||(cM v (dM .p)||(cM v (dM .q)||cM v (dM .r))))
noncomputable def iD:KD->List KV
 |.nil=>[]
 |.cons a _ r=>a::iD r
noncomputable def IW(f:Op->Bool)(g:Op->KV)(y:Si):Option KV:=match y with|.o z=>bif f z then some (g z)else none|_=>none
noncomputable def pJ(N:Nat)(q:Pa):Bool:=Nat.blt (aY q) N
def pI(N:Nat)(q:Pa):Bool:=dj (pJ N q) (!SS (aY q) 1)
def DP(l:List KV):Bool:=dj (eO Jr l) (T3 l.length 10)
def fA(k:Sk):Bool:=dj (eO (λr=>dj (LL (aC r.1)) (LL r.2)) k.rs) (dj (Aq λr=>Nk (k.S.has r) (dj (T3 (k.nu r) k.rs.length) (dj (T3 1 (k.nu r)) (SS ((k.rs.map λx=>x.1.length).getD (k.nu r-1) 0) r.len))))
 (dj (PP λy=>dj (Nn (dl (Cb k.rs) (iw y)) (IW k.S.fr (λz=>two (.nat (k.nu (.f z))) (qD (k.rx (.f z)))) y)) (dj (Nn (dl (yJ k.rs) (iw y)) (IW k.S.bt (λz=>.nat (k.nu (.b z))) y)) (Nn (dl (Ci k.rs) (iw y)) (IW k.S.bh (λz=>.nat (k.nu (.h z))) y))))
 (dj (SS (FD 1 (k.rs.map Ft) 1) (bif k.S.br then k.nu .k else 0)) (dj (DP (iD (Cb k.rs))) (dj (DP (iD (yJ k.rs))) (dj (DP (iD (Ci k.rs))) (dj (T3 1 (iD (yJ k.rs)).length)
 (dj (eO (Kh (pI (k.rs.length+8))) (fP (ub (.junk 0) k.rs) (.junk 0) k.rs)) (eO (Kh (pJ (k.rs.length+25))) (v4 (k.rs.length+8) (.junk 0)))))))))))
def jA(l:List Sk):Prop:=eO fA l=true
end
theorem ig{α:Type}{f:α->Bool}:∀{l:List α},eO f l=true->∀x∈l,f x=true
 |[],_,_,h=>absurd h Tz
 |y::l,h,x,hx=>by
  refine aI (show dj (f y) (eO f l)=true from h) ?_;intro h1 h2;rcases T8.mp hx with rfl|hx
  ·exact h1
  ·exact ig h2 x hx
theorem JL:∀{x y:KV},eqv x y=true->x=y:=by
 intro x;induction x with
 |none=>intro y h;cases y<;>first|rfl|exact aD h
 |bool=>exact λh=>aD h
 |nat n=>intro y h;cases y<;>first|exact congrArg KV.nat (T6 h)|exact aD h
 |neg=>exact λh=>aD h
 |str n=>intro y h;cases y<;>first|exact congrArg KV.str (T6 h)|exact aD h
 |nil=>intro y h;cases y<;>first|rfl|exact aD h
 |cons x r i1 i2=>
  intro y h;cases y with
  |cons a b=>rw[i1 (ax (a:=eqv x a) (b:=eqv r b) h).1,i2 (ax (a:=eqv x a) (b:=eqv r b) h).2]
  |_=>exact aD h
 |ref q=>
  intro y h;cases y with
  |ref q'=>
   have h:@Vd Pa (λzz=>Bool) false (λp=>SS (aY q') (aY p)) (tg q (d7 ([]:List Pa)))=true:=h;have e:tg q (d7 ([]:List Pa))=none:=by classical rw[dW];split<;>rfl
   rw[e]at h;exact aD h
  |_=>exact aD h
 |tok n=>intro y h;cases y<;>first|exact congrArg KV.tok (T6 h)|exact aD h
 |fl=>exact λh=>aD h
theorem vn{v w:Option KV}(h:Nn v w=true):v=w:=by
 cases v with
 |none=>cases w with|none=>rfl|some y=>exact aD h
 |some x=>cases w with|none=>exact aD h|some y=>exact congrArg some (JL h)
theorem DV{v:KV}(h:Jr v=true):Sg v:=by
 unfold Jr at h;refine Fg h (λh=>⟨.a,fx h⟩) λh=>?_;refine Fg h (λh=>⟨.s,fx h⟩) λh=>?_;refine Fg h (λh=>⟨.o .p,fx h⟩) λh=>?_;refine Fg h (λh=>⟨.o .q,fx h⟩) λh=>⟨.o .r,fx h⟩
theorem jj:∀d:KD,kF d=aC (iD d)∧xY d=(iD d).length
 |.nil=>⟨rfl,rfl⟩
 |.cons a b r=>⟨congrArg (KV.cons a) (jj r).1,congrArg Te (jj r).2⟩
theorem Fe{N:Nat}{q:Pa}(h:pJ N q=true):aY q<N:=SP h
theorem AC{N:Nat}{q:Pa}(h:pI N q=true):aY q<N∧aY q≠1:=⟨Fe (ax h).1,λz=>by have:=(ax h).2;rw[z]at this;exact aD this⟩
theorem AB{N:Nat}{q:Pa}(h:pJ N q=true):tg q (d7 (qg N))=some q:=by
 have l:=Fe h;rw[uS _ q rfl,gF];unfold qg;rw[Tr,VG l];rfl
structure yo(k:Sk):Prop where
 st:∀r∈k.rs,LL (aC r.1)=true∧LL r.2=true
 nu:∀r,k.S.has r=true->k.nu r≤k.rs.length∧1≤k.nu r∧(k.rs.map λx=>x.1.length).getD (k.nu r-1) 0=r.len
 fr:∀y,dl (Cb k.rs) (iw y)=IW k.S.fr (λz=>two (.nat (k.nu (.f z))) (qD (k.rx (.f z)))) y
 bt:∀y,dl (yJ k.rs) (iw y)=IW k.S.bt (λz=>.nat (k.nu (.b z))) y
 bh:∀y,dl (Ci k.rs) (iw y)=IW k.S.bh (λz=>.nat (k.nu (.h z))) y
 br:FD 1 (k.rs.map Ft) 1=bif k.S.br then k.nu .k else 0
 k1:eQ (iD (Cb k.rs))∧(iD (Cb k.rs)).length≤10
 k2:eQ (iD (yJ k.rs))∧(iD (yJ k.rs)).length≤10
 k3:eQ (iD (Ci k.rs))∧(iD (Ci k.rs)).length≤10
 p2:1≤(iD (yJ k.rs)).length
 cB:∀o∈fP (ub (.junk 0) k.rs) (.junk 0) k.rs,Kh (pI (k.rs.length+8)) o=true
 cG:∀o∈v4 (k.rs.length+8) (.junk 0),Kh (pJ (k.rs.length+25)) o=true
theorem gw{f:Op->Bool}(h:qV f=true):∀x,f x=true:=λx=>by
 refine aI h ?_;intro h1 h;refine aI h ?_;intro h2 h3;cases x<;>assumption
theorem Dl{f:Ru->Bool}(h:Aq f=true):∀r,f r=true:=λr=>by
 refine aI h ?_;intro h1 h;refine aI h ?_;intro h2 h;refine aI h ?_;intro h3 h;refine aI h ?_;intro h4 h5;cases r with
 |a=>exact h1
 |k=>exact h2
 |b x=>exact gw h3 x
 |f x=>exact gw h4 x
 |h x=>exact gw h5 x
theorem uM{f:Si->Bool}(h:PP f=true):∀y,f y=true:=λy=>by
 refine aI h ?_;intro h1 h;refine aI h ?_;intro h2 h3;cases y with
 |a=>exact h1
 |s=>exact h2
 |o x=>exact gw h3 x
theorem rh{l:List KV}(h:DP l=true):eQ l∧l.length≤10:=⟨λx hx=>DV (ig (ax h).1 x hx),SP (ax h).2⟩
theorem GP{k:Sk}(h:fA k=true):yo k:=by
 refine aI h ?_;clear h;intro a1 h;refine aI h ?_;clear h;intro a2 h;refine aI h ?_;clear h;intro a3 h;refine aI h ?_;clear h;intro a4 h;refine aI h ?_;clear h;intro a5 h;refine aI h ?_;clear h;intro a6 h;refine aI h ?_;clear h;intro a7 h;refine aI h ?_;clear h;intro a8 h;refine aI h ?_;clear h;intro a9 a0;exact⟨λr hr=>ax (ig a1 r hr),λr hr=>by
  refine aI (vb (Dl a2 r) hr) ?_;intro h1 h;refine aI h ?_;intro h2 h3;exact⟨SP h1,SP h2,T6 h3⟩,
  λy=>vn (ax (uM a3 y)).1,λy=>vn (ax (ax (uM a3 y)).2).1,λy=>vn (ax (ax (uM a3 y)).2).2,T6 a4,rh a5,rh a6,rh a7,SP a8,ig a9,ig a0⟩
theorem lf(l:List KO){i:Nat}{o:KO}(h:l[i]?=some o):tg (bD i) (pU l).h=some o:=(gF l i).trans h
theorem Gl(l:List KO):Wf (pU l):=⟨l.length,rfl,λi hi=>(gF l i).trans (Ud hi)⟩
section
variable{k:Sk}{p:Nat->Bool}{ds:List Nat}{c:Cl}{e:En}{s:KS}{x:X}{rk w:KO}
theorem AZ{l:List KO}{i:Nat}{d:KD}(h:l[i]?=some (rH d)):tg (bD i) (pU l).h=some (.dict (iD d).length d):=(jj d).2▸lf l h
def Sk.bk(k:Sk):PJ:=⟨bD 3,bD 4,bD 5,bD 6,xY (Cf k.rs),Cf k.rs,Cb k.rs,yJ k.rs,Ci k.rs,FD 1 (k.rs.map Ft) 1,iD (Cb k.rs),iD (yJ k.rs),iD (Ci k.rs)⟩
theorem Kl(F:yo k):Na k.bk (pU (fP (ub rk k.rs) w k.rs)):=⟨lf _ (i:=3) rfl,rfl,rfl,rfl,rfl,AZ (i:=4) rfl,AZ (i:=5) rfl,AZ (i:=6) rfl,(jj _).1,(jj _).1,(jj _).1,F.k1.1,F.k2.1,F.k3.1,F.k1.2,F.k2.2,F.k3.2,F.p2⟩
theorem JI{q:Pa}{h a m:Nat}(hq:tg q e=some (.nat h))(ha:1≤a∧a≤1000000)(hm:1≤m):Ev c (uj q a (af (.nat m))) e s (.nat (h/a%m)) s:=λk hk=>by
 show ci (tg q e) false _=true;rw[hq];show az (T3 1 a) false (az (T3 a 1000000) false (az (T3 1 m) false _))=true;rw[SY ha.1,SY ha.2,SY hm];exact hk
theorem QJ{h:Nat}(F:yo k)(hn:ds.length≤100):∃wq,∃w:List Si,∃s',St oK yC (Np h) (pU (E6 p k.rs ds)) (tp (.h .e) (.ref wq) (Np h)) s'∧Wf s'∧(∀q o,tg q (pU (E6 p k.rs ds)).h=some o->tg q s'.h=some o)∧tg wq s'.h=some (aK (w.map iw))∧tg wq (pU (E6 p k.rs ds)).h=none∧w.length≤18:=by
 obtain⟨s',wq,ws,ca,wf,kp,h1,h2,al,le⟩:=Cs (d:=59) (wh:=!SS (h/1200%4) 3) (qt:=bD 1) (ds:=ds) (Gl (E6 p k.rs ds)) (Kl (rk:=.dict 4 (uk (uU p))) (w:=Gv ds) F) (lf _ (i:=1) rfl) hn;obtain⟨w,rfl⟩:=BS al;rw[TL]at le;exact⟨wq,w,s',bJ (bg (gD (ar (ah rfl) (ar (ah rfl) (ar (kD (Gx (JI (q:=.b .e) (h:=h) rfl (by decide) (by decide)) ay)) bu))) ca)),wf,kp,h1,h2,le⟩
end
end
end
section
set_option compiler.extract_closed false
section
open PySem PySem.W PyProof.Rows
section
noncomputable def cD(d:Nat):Nat:=bif SS (d%4) 0 then 0 else 1+d/4%3
noncomputable def u8(v:Nat->Nat):Nat->Nat:=Qh (cD (v 0)) (cD (v 1)) (cD (v 2)) (cD (v 3))
def pu(v:Nat->Nat)(rs:List R2):Bk:=(ub (.dict 4 (uk (uU (m8 v)))) rs).at (.dict 4 (uk (xO (u8 v))))
noncomputable def p9(w:List Si):KO:=aK (w.map iw)
def KZ(wq:Pa)(n:Nat):List Pa:=bD 0::wq::(qg n).drop 2
end
section
variable{h:Nat}{v:Nat->Nat}{C:Cx}{ds:List Nat}{e en:En}{s:KS}{φ:Pa->Option Pa}{Z:Pa->KV->Prop}{k:Sk}{w:List Si}{wq:Pa}{rs:List R2}
theorem Kj{i:Nat}(hi:i<4):u8 v i=cD (v i):=by
 match i,hi with
 |0,_=>rfl
 |1,_=>rfl
 |2,_=>rfl
 |3,_=>rfl
theorem xj(d:Nat):cD d<4:=by
 unfold cD;have m:d/4%3<3:=Uz _ (by decide);cases SS (d%4) 0 with
 |true=>exact(by decide:0<4)
 |false=>show 1+d/4%3<4;omega
theorem Di:u8 v∈GU:=Us.mpr ⟨_,Uj.mpr (xj (v 0)),Us.mpr ⟨_,Uj.mpr (xj (v 1)),Us.mpr ⟨_,Uj.mpr (xj (v 2)),UO.mpr ⟨_,Uj.mpr (xj (v 3)),rfl⟩⟩⟩⟩
theorem Gj{m:Nat}(h:m<3):Gk (1+m)=jE.getD m .none:=iR (P:=λm=>Gk (1+m)=jE.getD m .none) rfl rfl rfl h
theorem GY(hC:C.tk=mh h v){i:Nat}(hi:i<4):(SS (v i%4) 0=true∧xO (u8 v) i=.none∧uU (m8 v) i=.none∧C.tk (2*i)=lC∧C.tk (2*i+1)=.nat 0∧SS (u8 v i) 0=true)∨(SS (v i%4) 0=false∧∃w,(w=mN∨w=lD∨w=lC)∧C.tk (2*i)=w∧xO (u8 v) i=two w (.tok (2*i+3))∧uU (m8 v) i=qD i∧SS (u8 v i) 0=false):=by
 have h1:=z9 hC (UA hi);have h2:=xv hC (UA hi);have hw:=qI (v i);rw[uO hi]at h1 h2;unfold uU xO;rw[uX hi,Kj hi];unfold ul cD;unfold Dg at h1 h2 hw;cases e:SS (v i%4) 0 with
 |true=>rw[e]at h1 h2;exact .inl ⟨rfl,rfl,rfl,h1,h2,rfl⟩
 |false=>
  rw[e]at h1 h2 hw;have m3:v i/4%3<3:=Uz _ (by decide);have e1:SS (1+v i/4%3) 0=false:=by rw[UY];rfl
  refine .inr ⟨rfl,_,hw,h1,?_,rfl,e1⟩;show(bif SS (1+v i/4%3) 0 then KV.none else two (Gk (1+v i/4%3)) (.tok (2*i+3)))=_;rw[e1,Gj m3];rfl
theorem Lj{n:Nat}{w:KV}(hw:w=mN∨w=lD∨w=lC)(e:C.tk n=w):VS C.tk φ Z w (.tok (n+2)):=by
 rcases hw with rfl|rfl|rfl<;>exact .inr ⟨n,rfl,e⟩
theorem Lk(hC:C.tk=mh h v){i:Nat}(hi:i<4):VS C.tk φ Z (xO (u8 v) i) (uU (m8 v) i):=by
 rcases GY hC hi with⟨-,h1,h2,-⟩|⟨-,w,hw,e,h1,h2,-⟩
 ·rw[h1,h2];exact .inl rfl
 ·rw[h1,h2];exact⟨_,_,rfl,Lj hw e,_,_,rfl,.inl rfl,rfl⟩
theorem wd(w:List Si):mc (aC (w.map iw))=true:=jL λx hx=>by refine rO hx ?_;rintro y-rfl;cases y with|o z=>cases z<;>rfl|_=>rfl
theorem f8{B:Bk}{w:KO}:(fP B w rs).length=rs.length+8:=by unfold fP;simp
theorem Ko{n j:Nat}(hj:j<n)(h1:j≠1):tg (bD j) (d7 (KZ wq n))=some (bD j):=by
 rw[gF]
 match j,h1 with
 |0,_=>rfl
 |1,h1=>exact absurd rfl h1
 |j+2,_=>
  show((qg n).drop 2)[j]?=_;rw[Wo];unfold qg;rw[Tr,VG (by omega)];show some (bD (2+j))=_;rw[UY]
theorem Kn{n:Nat}(hn:2≤n)(h:∀j,j<n->bD j≠wq):(KZ wq n).Nodup:=by
 have e:qg n=bD 0::bD 1::(qg n).drop 2:=by
  refine List.ext_getElem? λi=>?_;unfold qg
  match i with
  |0=>rw[Tr,VG (by omega)];rfl
  |1=>rw[Tr,VG (by omega)];rfl
  |i+2=>show _=(((UE n).map bD).drop 2)[i]?;rw[Wo,UY 2 i]
 have nd:=BW n;rw[e]at nd;have mem:∀q∈(qg n).drop 2,∃j,j<n∧q=bD j:=λq hq=>by
  have:=List.mem_of_mem_drop hq;unfold qg at this;refine rO this ?_;rintro j hj rfl;exact⟨j,Uj.mp hj,rfl⟩
 refine U3.mpr ⟨λz=>?_,U3.mpr ⟨λz=>?_,(U3.mp (U3.mp nd).2).2⟩⟩
 ·rcases T8.mp z with z|z
  ·exact h 0 (by omega) z
  ·exact(U3.mp nd).1 (T5 _ z)
 ·obtain⟨j,hj,e⟩:=mem _ z;exact h j hj e.symm
theorem kH{p p':Pa->Bool}(h:∀q,p q=true->p' q=true):∀{x:KV},pt p x=true->pt p' x=true:=by
 intro x;induction x with
 |cons x r i1 i2=>exact λz=>gm (i1 (ax z).1) (i2 (ax z).2)
 |ref q=>exact h q
 |fl x ih=>exact ih
 |_=>exact λz=>rfl
theorem u6{p p':Pa->Bool}(h:∀q,p q=true->p' q=true):∀{d:KD},G5 p d=true->G5 p' d=true
 |.nil,_=>rfl
 |.cons a w r,z=>gm (kH h (ax z).1) (u6 h (ax z).2)
theorem Co.mono{p p':Pa->Bool}(h:∀q,p q=true->p' q=true){o:KO}(z:Co p o):Co p' o:=by
 cases o with
 |list=>exact kH h z
 |dict=>exact u6 h z
 |set=>exact trivial
 |inst c fs=>exact λq x k=>kH h (z q x k)
 |clo=>exact kH h z
 |junk=>exact trivial
 |pd a m=>exact z
theorem qU(F:yo k){v:Nat->Nat}{i:Nat}{o:KO}(ho:(fP (pu v k.rs) (p9 w) k.rs)[i]?=some o):Co (pI (k.rs.length+8)) o:=by
 match i,ho with
 |0,ho=>
  cases ho;have c1:∀(p:Pa->Bool)(c:Nat->Nat) i,pt p (xO c i)=true:=λp c i=>by
   unfold xO;cases SS (c i) 0 with
   |true=>rfl
   |false=>show dj (pt p (Gk (c i))) _=true;rw[show pt p (Gk (c i))=true by unfold Gk;split<;>rfl];rfl
  show G5 _ (uk (xO (u8 v)))=true;exact gm (c1 _ _ _) (gm (c1 _ _ _) (gm (c1 _ _ _) (gm (c1 _ _ _) rfl)))
 |1,ho=>cases ho;exact Eu (wd w)
 |i+2,ho=>exact .of (F.cB o (TM (i:=i+2) ho))
theorem Pk(hC:C.tk=mh h v)(F:yo k)(kp:∀q o,tg q (pU (E6 (m8 v) k.rs ds)).h=some o->tg q s.h=some o)(hw:tg wq s.h=some (aK (w.map iw)))(hz:tg wq (pU (E6 (m8 v) k.rs ds)).h=none):yu C (tp (.h .e) (.ref wq) (Np h)) s (Pc (200482+h/600%2)) (pU (fP (pu v k.rs) (p9 w) k.rs)):=by
 have nw:∀j,j<k.rs.length+8->bD j≠wq:=λj hj e=>by
  have l:j<(E6 (m8 v) k.rs ds).length:=by unfold E6;rw[f8];exact hj
  have:=lf _ (T7 l);rw[e,hz]at this;exact Ff this.symm
 have fi:∀j,j<k.rs.length+8->j≠1->tg (bD j) (d7 (KZ wq (k.rs.length+8)))=some (bD j):=λj hj h1=>Ko hj h1;refine⟨_,_,kG (as:=KZ wq (k.rs.length+8)) (Kn (by omega) nw) (by rw[f8];unfold KZ qg;simp) λi o a ho ha=>?_,λq x hx=>?_⟩
 ·match i,ho,ha with
  |0,ho,ha=>cases ho;cases ha;exact⟨_,kp _ _ (lf _ (i:=0) rfl),_,rfl,FQ λi hi=>Lk hC hi⟩
  |1,ho,ha=>cases ho;cases ha;exact⟨_,hw,_,rfl,qz (wd w)⟩
  |i+2,ho,ha=>
   have hl:i+2<k.rs.length+8:=by rw[←f8 (B:=pu v k.rs) (w:=p9 w)];exact(To.mp ho).1
   have e:a=bD (i+2):=by
    have:=(gF (KZ wq (k.rs.length+8)) (i+2)).trans ha;rw[fi _ hl (by omega)]at this;exact(Ti this).symm
   subst e;refine⟨o,kp _ _ (lf _ (i:=i+2) ho),AD (p:=pI (k.rs.length+8)) (λq hq=>?_) (qU F ho)⟩;obtain⟨l1,l2⟩:=AC hq;rw[uS _ q rfl];exact fi _ l1 l2
 ·rcases bQ hx with⟨rfl,rfl⟩|hx
  ·exact⟨_,rfl,_,gF _ 1,rfl⟩
  ·rcases bQ hx with⟨rfl,rfl⟩|hx
   ·exact⟨_,rfl,_,fi 3 (by omega) (by decide),rfl⟩
   ·rcases bQ hx with⟨rfl,rfl⟩|hx
    ·exact⟨_,rfl,_,fi 2 (by omega) (by decide),rfl⟩
    ·rcases bQ hx with⟨rfl,rfl⟩|hx
     ·exact⟨_,rfl,_,fi 0 (by omega) (by decide),rfl⟩
     ·rcases bQ hx with⟨rfl,rfl⟩|hx
      ·exact⟨_,rfl,by rw[show 200482+h/600%2=200480+h/600%2+2 from Wu _ 2 _];exact vP (NO hC) rfl⟩
      ·rw[dU]at hx;exact dh hx
end
end
end
section
set_option compiler.extract_closed false
section
open PySem PySem.W PyProof.Rows
section
noncomputable def AK:List KV:=[dM .p,dM .q,dM .r,cU]
def No(tq:Pa):En:=tp (.d (.a .e)) (.ref tq) (tp (.h .e) (.ref (bD 1)) (tp (.g .e) (.ref (bD 3)) (tp (.f .e) (.ref (bD 2)) .nil)))
end
section
variable{h:Nat}{v:Nat->Nat}{C:Cx}{e en:En}{s:KS}{k:Sk}{w:List Si}
theorem Lo{i l:Nat}{w:KV}(h1:C.tk (2*i)=w)(h2:C.tk (2*i+1)=.nat l)(hw:pl w=true)(R:Wd)(v:SU)(h:VR C R (two w (.nat l)) v):VR C R (qD i) v:=by
 have t1:∀u,VR C R w u->VR C R (.tok (2*i+2)) u:=λu h=>by show pb u (C.tk (2*i));refine rwr h1 ?_;exact(nK hw).mp h
 have t2:∀u,VR C R (.nat l) u->VR C R (.tok (2*i+3)) u:=λu h=>by show pb u (C.tk (2*i+1));refine rwr h2 ?_;exact h
 exact(jF rfl t1 (jF rfl t2 λzz h=>h).2).1 v h
theorem F3{i:Nat}{w:KV}(h1:C.tk (2*i)=w)(hw:pl w=true)(R:Wd)(v:SU)(h:VR C R (two w (.tok (2*i+3))) v):VR C R (qD i) v:=by
 have t1:∀u,VR C R w u->VR C R (.tok (2*i+2)) u:=λu h=>by show pb u (C.tk (2*i));refine rwr h1 ?_;exact(nK hw).mp h
 exact(jF rfl t1 (jF rfl (λzz h=>h) λzz h=>h).2).1 v h
theorem FL(c:Nat->Nat){i:Nat}(hi:i<4):dl (Bn c) (AK.getD i .none)=bif SS (c i) 0 then none else some (xO c i):=by
 have key:∀(b0 b1 b2 b3:Bool)(r:Nat->KV),(λP:Nat->Prop=>P 0∧P 1∧P 2∧P 3) λi=>dl (bif b0 then(bif b1 then(bif b2 then(bif b3 then .nil else .cons cU (r 3) .nil)else .cons (dM .r) (r 2) (bif b3 then .nil else .cons cU (r 3) .nil))else .cons (dM .q) (r 1) (bif b2 then(bif b3 then .nil else .cons cU (r 3) .nil)else .cons (dM .r) (r 2) (bif b3 then .nil else .cons cU (r 3) .nil)))else .cons (dM .p) (r 0) (bif b1 then(bif b2 then(bif b3 then .nil else .cons cU (r 3) .nil)else .cons (dM .r) (r 2) (bif b3 then .nil else .cons cU (r 3) .nil))else .cons (dM .q) (r 1) (bif b2 then(bif b3 then .nil else .cons cU (r 3) .nil)else .cons (dM .r) (r 2) (bif b3 then .nil else .cons cU (r 3) .nil)))) (AK.getD i .none)=bif (match i with|0=>b0|1=>b1|2=>b2|_=>b3)then none else some (r i):=λb0 b1 b2 b3 r=>by
  cases b0<;>cases b1<;>cases b2<;>cases b3<;>exact⟨rfl,rfl,rfl,rfl⟩
 have:=key (SS (c 0) 0) (SS (c 1) 0) (SS (c 2) 0) (SS (c 3) 0) (xO c)
 match i,hi with
 |0,_=>exact this.1
 |1,_=>exact this.2.1
 |2,_=>exact this.2.2.1
 |3,_=>exact this.2.2.2
theorem My(c:Nat->Nat){x:KV}(h:∀i,i<4->cM (AK.getD i .none) x=false):dl (Bn c) x=none:=by
 have st:∀{i:Nat}{d:KD},i<4->dl d x=none->dl (KJ c i (AK.getD i .none) d) x=none:=λ{i d} hi hd=>by
  unfold KJ;cases SS (c i) 0 with
  |true=>exact hd
  |false=>
   show@Ue (λzz=>Option KV) (dl d x) (.some _) (cM (AK.getD i .none) x)=none;rw[h i hi];exact hd
 exact st (i:=0) (by decide) (st (i:=1) (by decide) (st (i:=2) (by decide) (st (i:=3) (by decide) rfl)))
theorem LV(hC:C.tk=mh h v){n:Nat}(hn:n<3)(h1:n=1->ul v 3=true)(h2:n=2->ul v 1=true):Pd C (LX n) (LW n) (Bn (u8 v)):=λx hx=>by
 have key:∀i,i<4->((∃u,dl (Bn (u8 v)) (AK.getD i .none)=some u∧∀(R:Wd) w,VR C R u w->VR C R (qD i) w)∨dl (Bn (u8 v)) (AK.getD i .none)=none∧∀(R:Wd) w,VR C R dflt w->VR C R (qD i) w):=λi hi=>by
  rw[FL _ hi];rcases GY hC hi with⟨-,-,-,t1,t2,z⟩|⟨-,w,hw,e,r,-,z⟩
  ·rw[z];exact .inr ⟨rfl,λR w k=>Lo t1 t2 rfl R w k⟩
  ·rw[z,r];exact .inl ⟨_,rfl,λR u k=>F3 e (qN hw) R u k⟩
 have must:∀i,i<4->ul v i=true->∃u,dl (Bn (u8 v)) (AK.getD i .none)=some u∧∀(R:Wd) w,VR C R u w->VR C R (qD i) w:=λi hi k=>by
  rw[FL _ hi];rcases GY hC hi with⟨z,-⟩|⟨-,w,hw,e,r,-,z⟩
  ·unfold ul at k;rw[z]at k;exact aD k
  ·rw[z,r];exact⟨_,rfl,λR u k=>F3 e (qN hw) R u k⟩
 by_cases hm:∃i,i<4∧x=AK.getD i .none
 ·obtain⟨i,hi,rfl⟩:=hm;have n3:n=0∨n=1∨n=2:=by omega
  match i,hi with
  |0,hi=>have z:=key 0 hi;rcases n3 with rfl|rfl|rfl<;>exact z
  |1,hi=>have z:=key 1 hi;rcases n3 with rfl|rfl|rfl;exact z;exact z;exact must 1 hi (h2 rfl)
  |2,hi=>have z:=key 2 hi;rcases n3 with rfl|rfl|rfl<;>exact z
  |3,hi=>have z:=key 3 hi;rcases n3 with rfl|rfl|rfl;exact z;exact must 3 hi (h1 rfl);exact z
 ·have a0:∀i,i<4->cM (AK.getD i .none) x=false:=λi hi=>by cases e:cM (AK.getD i .none) x with|true=>exact absurd ⟨i,hi,(fx e).symm⟩ hm|false=>rfl
  have c0:∀{y:KV}{v:KV}{d:KD},cM y x=false->dl d x=none->dl (.cons y v d) x=none:=λ{y v d} hy h=>by
   show@Ue (λzz=>Option KV) (dl d x) (.some _) (cM y x)=none;refine rwr hy ?_;exact h
  have c:∀{b:Bool}{y:KV}{n:Nat}{d:KD},cM y x=false->dl d x=none->dl (KN b y n d) x=none:=λ{b y n d} hy h=>by
   cases b with
   |false=>exact h
   |true=>exact c0 hy h
  have aP:=a0 0 (by decide);have aQ:=a0 1 (by decide);have aR:=a0 2 (by decide);have aU:=a0 3 (by decide);refine rwr (show dl (LX n) x=none from c aU (c aQ rfl)) (rwr (show dl (LW n) x=none from c aU (c aQ (c0 aP (c0 aR rfl)))) ?_);exact My _ a0
theorem wA{o:Nat}{a b:KO}{j:Nat}(hj:j≠15):(v4 o a)[j]?=(v4 o b)[j]?:=by
 match j,hj with
 |0,_=>rfl
 |1,_=>rfl
 |2,_=>rfl
 |3,_=>rfl
 |4,_=>rfl
 |5,_=>rfl
 |6,_=>rfl
 |7,_=>rfl
 |8,_=>rfl
 |9,_=>rfl
 |10,_=>rfl
 |11,_=>rfl
 |12,_=>rfl
 |13,_=>rfl
 |14,_=>rfl
 |15,h=>exact absurd rfl h
 |j+16,_=>rfl
theorem qT{l:List KO}{N:Nat}(h:(UE N).map (λi=>tg (bD i) s.h)=l.map some){i:Nat}{o:KO}(e:l[i]?=some o):tg (bD i) s.h=some o:=by
 have hl:=congrArg List.length h;rw[TL,List.length_range,TL]at hl;have hi:i<N:=by rw[hl];exact(To.mp e).1
 have:=congrArg (λl=>l[i]?) h;simp only[Tr,VG hi,e]at this;exact Ti this
theorem FE(n:Nat):yH (LX n)=true∧yH (LW n)=true:=by
 have c:∀{b:Bool}{y:KV}{n:Nat}{d:KD},yH d=true->yH (KN b y n d)=true:=λ{b y n d} h=>by
  cases b with
  |false=>exact h
  |true=>exact gm rfl h
 exact⟨c (c rfl),c (c rfl)⟩
theorem Pj(hC:C.tk=mh h v)(F:yo k)(hP:Pd C (LX k.n) (LW k.n) (Bn (u8 v)))(hm:k.m=2∨k.m=h/600%2)
  (h1:Of.map (λq=>tg q en)=[some (.ref (bD (k.rs.length+9))),some (.ref (bD 1)),some (.ref (bD 3)),some (.ref (bD 2)),some (.tok (200482+h/600%2))])
  (h2:(UE (k.rs.length+25)).map (λi=>tg (bD i) s.h)=(pf (pu v k.rs) (p9 w) k.rs (rH (Bn (u8 v)))).map some):yu C en s (Pb k.ob k.m) (pU (pf (pu v k.rs) (p9 w) k.rs k.pd)):=by
 have len:∀pd,(pf (pu v k.rs) (p9 w) k.rs pd).length=k.rs.length+25:=λpd=>by unfold pf;rw[Td,f8];rfl
 have fi:∀j,j<k.rs.length+25->tg (bD j) (d7 (qg (k.rs.length+25)))=some (bD j):=λj hj=>AB (by unfold pJ;rw[eF];exact SY hj);refine Eo (λi o ho=>?_) λq x hx=>?_
 ·rw[len];have hp:∀q,pJ (k.rs.length+25) q=true->(λq=>tg q (d7 (qg (k.rs.length+25)))) q=some q:=λq hq=>AB hq;by_cases hi:i<k.rs.length+8
  ·have e:∀pd,(pf (pu v k.rs) (p9 w) k.rs pd)[i]?=(fP (pu v k.rs) (p9 w) k.rs)[i]?:=λpd=>Uk (by rw[f8];exact hi);rw[e]at ho;refine⟨o,qT h2 ((e _).trans ho),AD hp ((qU F ho).mono λq hq=>?_)⟩;exact SY (by have:=(AC hq).1;omega)
  ·have e:∀pd,(pf (pu v k.rs) (p9 w) k.rs pd)[i]?=(v4 (k.rs.length+8) pd)[i-(k.rs.length+8)]?:=λpd=>by
    have:=Vp (l₁:=fP (pu v k.rs) (p9 w) k.rs) (l₂:=v4 (k.rs.length+8) pd) (i:=i) (by rw[f8];omega);rw[f8]at this;exact this
   rw[e]at ho;by_cases h15:i-(k.rs.length+8)=15
   ·rw[h15]at ho;cases ho;exact⟨rH (Bn (u8 v)),qT h2 ((e _).trans (by rw[h15];rfl)),oF (FE _).1,oF (FE _).2,.inr ⟨_,_,rfl,hP⟩⟩
   ·rw[wA (b:=.junk 0) h15]at ho;exact⟨o,qT h2 ((e _).trans ((wA h15).trans ho)),AD hp (.of (F.cG o (TM ho)))⟩
 ·rw[len];have e1:tg (.i .e) en=_:=(Uc h1).1;have h1:=(Uc h1).2;have e2:tg (.h .e) en=_:=(Uc h1).1;have h1:=(Uc h1).2;have e3:tg (.g .e) en=_:=(Uc h1).1;have h1:=(Uc h1).2;have e4:tg (.f .e) en=_:=(Uc h1).1;have h1:=(Uc h1).2;have e5:tg (.b .e) en=_:=(Uc h1).1;rcases bQ hx with⟨rfl,rfl⟩|hx
  ·exact⟨_,e1,_,fi _ (by show k.rs.length+8+1<_;omega),rfl⟩
  ·rcases bQ hx with⟨rfl,rfl⟩|hx
   ·exact⟨_,e2,_,fi _ (by omega),rfl⟩
   ·rcases bQ hx with⟨rfl,rfl⟩|hx
    ·exact⟨_,e3,_,fi _ (by omega),rfl⟩
    ·rcases bQ hx with⟨rfl,rfl⟩|hx
     ·exact⟨_,e4,_,fi _ (by omega),rfl⟩
     ·rcases hm with hm|hm
      ·rw[hm]at hx;rw[show(bif SS 2 2 then(T.nil:En)else _)=T.nil from rfl,dU]at hx;exact dh hx
      ·have b:SS k.m 2=false:=by rw[hm];rcases Wn (h/600)with z|z<;>rw[z]<;>rfl
       rw[b]at hx;have hx:tg q (tp (.b .e) (.tok (200482+k.m)) .nil)=some x:=hx;rcases bQ hx with⟨rfl,rfl⟩|hx
       ·refine⟨_,e5,?_⟩;rw[hm];exact .inl rfl
       ·rw[dU]at hx;exact dh hx
end
end
end
section
set_option compiler.extract_closed false
section
open PySem PySem.W PyProof.Rows
section
noncomputable def xV(C:Cx)(i:Nat):Nat:=match C.tk (2*i+1)with|.nat n=>n|_=>0
def Sk.P(k:Sk)(C:Cx):Pm:=⟨k.S,k.nu,λr y=>Ez (xV C (rS y)) (xV C (k.rx r)) (C.tk (2*k.rx r))⟩
def Sk.cx(k:Sk)(C:Cx)(w:List Si):un:=⟨bD 1,bD 3,bD 4,bD 5,bD 6,bD 7,gX C.tk (Cf k.rs),gX C.tk (Cb k.rs),gX C.tk (yJ k.rs),gX C.tk (Ci k.rs),gX C.tk Oe,w,k.P C,λr=>C.tk (2*k.rx r),λr=>xV C (k.rx r),λy=>C.tk (2*rS y),λy=>xV C (rS y)⟩
def Sk.z(k:Sk)(C:Cx)(w:List Si)(s:KS)(tq aq gq:Pa):yK:=⟨tq,aq,gq,bD 2,bD 1,w,k.P C,M7 s aq gq,qC 8 k.rs⟩
end
section
variable{C:Cx}{k:Sk}{s:KS}{w:List Si}{tk:Nat->KV}
theorem qq(y:Op):rS y<5:=by cases y<;>decide
theorem sN(hn:k.n<3)(r:Ru):k.rx r<5:=by
 cases r with
 |b x=>exact qq x
 |f x=>cases x with|p=>exact iR (P:=λn=>PV n<5) (by decide) (by decide) (by decide) hn|q=>exact(by decide:1<5)|r=>exact(by decide:2<5)
 |_=>exact(by decide:4<5)
theorem r8(T:lH C){i:Nat}(h:i<5):C.tk (2*i+1)=.nat (xV C i):=by
 refine aw (T.lv i h) ?_;intro n e;unfold xV;exact rwr e rfl
theorem ux{tk:Nat->KV}{n:Nat}(h:pl (tk n)=true):LB tk (n+2)=tk n:=by
 show(bif pl (tk n)then tk n else .tok (n+2))=_;refine rwr h ?_;rfl
theorem w5(T:lH C){i:Nat}(h:i<5):eK C.tk (qD i)=two (C.tk (2*i)) (.nat (xV C i)):=by
 show KV.cons (LB C.tk (2*i+2)) (.cons (LB C.tk (2*i+1+2)) .nil)=_;rw[ux (qN (T.wy i h)),ux (by rw[r8 T h];rfl),r8 T h];rfl
theorem JW{la lr j n:Nat}{w:KV}(h:w=mN∨w=lD∨w=lC):oB la lr w j n=match Ez la lr w with|.sh=>.nat j|.rd=>.neg (n-1)|.no=>.none:=by
 have e1:oB la lr w j n=bif T3 (la+1) lr||(SS la lr&&cM w mN)then .neg (n-1)else bif SS la lr&&cM w lD then .none else .nat j:=rfl;have e2:Ez la lr w=bif T3 (lr+1) la then .sh else bif T3 (la+1) lr||cM w mN then .rd else bif cM w lC then .sh else .no:=rfl;refine rwr e1 (rwr e2 ?_);rcases Nat.lt_trichotomy la lr with l|l|l
 ·refine rwr (qe (V9 l)) (rwr (SY l) ?_);rfl
 ·subst l;rw[qe (TA la),UX];rcases h with rfl|rfl|rfl<;>rfl
 ·refine rwr (SY l) (rwr (qe (V9 l)) (rwr (show SS la lr=false from by cases e:SS la lr with|false=>rfl|true=>exact absurd (T6 e) (V8 l)) ?_));rfl
theorem JN(T:lH C)(hn:k.n<3){z:yK}(hP:z.P=k.P C){a:As}{v:Option KV}(h:Qg k z.N a v=true):ui z (a.to z.P.ch) (v.map (eK C.tk)):=by
 cases a with
 |no=>
  cases v with
  |none=>exact .inl rfl
  |some u=>cases u<;>first|exact .inr rfl|exact aD h
 |sh q=>
  refine aB h ?_;rintro u h rfl;refine fw h ?_;rintro n h rfl;refine aI h ?_;intro h1 h2;have e:=T6 h1;subst e;exact⟨rfl,SP h2⟩
 |rd r=>
  refine aB h ?_;rintro u h rfl;cases u with
  |neg n=>
   have e:n+1=k.nu r:=T6 h;have hn:z.P.nu r=n+1:=by refine rwr hP ?_;exact e.symm
   show some (KV.neg n)=some (.neg (z.P.nu r-1))∧1≤z.P.nu r;refine rwr hn ?_;exact⟨rfl,TB 1 n⟩
  |_=>exact aD h
 |ok=>
  refine aB h ?_;rintro u h rfl;refine fw h ?_;rintro n h rfl;refine rwr (T6 h) ?_;rfl
 |cf r y q=>
  refine aB h ?_;rintro u h rfl;refine gh h ?_;rintro t h rfl;refine aI h ?_;intro h1 h;refine aI h ?_;intro h2 h;refine aI h ?_;intro h3 h;refine aI h ?_;intro h4 h5;have h2:z.N q<64:=SP h2;have h3:k.nu r<64:=SP h3;have h4:=SP h4;have h5:=SP h5;have et:=T6 h1;have en:=T.en (rS y) (k.rx r) (z.N q) (k.nu r) _ _ (qq y) (sN hn r) h2 h3 (r8 T (qq y)) (r8 T (sN hn r));have et:t=10+(((k.rx r*8+rS y)*64+z.N q)*64+k.nu r)+2:=by
   refine rwr et ?_;show 12+(((k.rx r*8+rS y)*64+z.N q)*64+k.nu r)=_;simp+arith
  have hw:=T.wy (k.rx r) (sN hn r);rw[JW hw]at en;subst et;have hc:z.P.ch r y=Ez (xV C (rS y)) (xV C (k.rx r)) (C.tk (2*k.rx r)):=by refine rwr hP ?_;rfl
  have hn:z.P.nu r=k.nu r:=by refine rwr hP ?_;rfl
  show ui z (.of (z.P.ch r y) q r) (some (LB C.tk (_+2)));rw[hc,ux (by rw[en];cases Ez (xV C (rS y)) (xV C (k.rx r)) (C.tk (2*k.rx r))<;>rfl),en];cases Ez (xV C (rS y)) (xV C (k.rx r)) (C.tk (2*k.rx r))with
  |sh=>exact⟨rfl,h4⟩
  |rd=>exact⟨by exact rwr hn rfl,by refine rwr hn ?_;exact h5⟩
  |no=>exact .inr rfl
theorem zn:∀{x:KV},LL x=true->eK tk x=x:=by
 intro x;induction x with
 |cons x r i1 i2=>intro h;show KV.cons (eK tk x) (eK tk r)=_;exact rwr (show eK tk x=x from i1 (ax h).1) (rwr (show eK tk r=r from i2 (ax h).2) rfl)
 |str=>exact λzz=>rfl
 |nil=>exact λzz=>rfl
 |_=>exact λh=>aD h
theorem uD:∀{l:List KV},(∀x∈l,eK tk x=x)->eK tk (aC l)=aC l
 |[],_=>rfl
 |x::l,h=>by show KV.cons (eK tk x) (eK tk (aC l))=_;refine rwr (h x SX) (rwr (uD λy hy=>h y (T5 _ hy)) ?_);rfl
theorem F8(w:List Si):sS tk (aK (w.map iw))=aK (w.map iw):=by
 show KO.list _ (eK tk (aC (w.map iw)))=_;refine rwr (uD λx hx=>by refine rO hx ?_;clear hx;rintro y-rfl;cases y with|o z=>cases z<;>rfl|_=>rfl) ?_;rfl
theorem qB:∀(rs:List R2)(n i:Nat),(qC n rs)[i]?=rs[i]?.map λy=>two (.ref (bD (n+i))) y.2
 |[],_,_=>rfl
 |r::rs,n,0=>rfl
 |r::rs,n,i+1=>by
  show(qC (n+1) rs)[i]?=rs[i]?.map _;exact rwr (qB rs (n+1) i) (rwr (show n+1+i=n+(i+1) by simp+arith) rfl)
theorem fB{q:Pa}{o:KO}(h:tg q s.h=some o):tg q (sB tk s).h=some (sS tk o):=by rw[ml,h];rfl
variable{v:Nat->Nat}
theorem GC:∀d:KD,sS tk (rH d)=rH (gX tk d):=λd=>by
 have e:∀d:KD,xY d=xY (gX tk d):=λd=>by
  induction d with
  |nil=>rfl
  |cons a b r ih=>exact congrArg Te ih
 exact congrArg (λn=>KO.dict n (gX tk d)) (e d)
theorem uZ{f:Op->Bool}{g g':Op->KV}(hz:∀z,eK tk (g z)=g' z)(y:Si):(IW f g y).map (eK tk)=KK f g' y:=by
 cases y with
 |o z=>show(bif f z then some (g z)else none).map _=bif f z then some (g' z)else none;cases f z with|true=>exact congrArg some (hz z)|false=>rfl
 |_=>rfl
theorem oz{d:KD}{x v:KV}(h:dl d x=some v):dl (gX tk d) x=some (eK tk v):=(im d).trans (congrArg (Option.map (eK tk)) h)
theorem FZ(T:lH C)(F:yo k)(hn:k.n<3):(k.cx C w).Ok where
 wy:=λr=>T.wy (k.rx r) (sN hn r)
 ch:=λr y=>rfl
 hb:=λy=>rfl
 k1:=λh=>(F.nu .k h).2.1
 ea:=oz (d:=Cf k.rs) (v:=.nat (k.nu .a)) rfl
 eb:=(oz (d:=Cf k.rs) (v:=.nat (FD 1 (k.rs.map Ft) 1)) rfl).trans (congrArg (λn=>some (KV.nat n)) F.br)
 e1:=oz (d:=Cf k.rs) (v:=.ref (bD 4)) rfl
 e2:=oz (d:=Cf k.rs) (v:=.ref (bD 5)) rfl
 e3:=oz (d:=Cf k.rs) (v:=.ref (bD 6)) rfl
 e4:=oz (d:=Cf k.rs) (v:=.ref (bD 7)) rfl
 g1:=λy=>(im (Cb k.rs)).trans ((congrArg _ (F.fr y)).trans (uZ (g:=λz=>two (.nat (k.nu (.f z))) (qD (k.rx (.f z)))) (λz=>congrArg (λx=>KV.cons (.nat (k.nu (.f z))) (.cons x .nil)) (w5 T (sN hn (.f z)))) y))
 g2:=λy=>(im (yJ k.rs)).trans ((congrArg _ (F.bt y)).trans (uZ (λz=>rfl) y))
 g3:=λy=>(im (Ci k.rs)).trans ((congrArg _ (F.bh y)).trans (uZ (λz=>rfl) y))
 g4:=λz=>(oz (show dl Oe (dM z)=some (qD (rS z)) by cases z<;>rfl)).trans (congrArg some (w5 T (qq z)))
theorem MX(T:lH C)(F:yo k)(hn:k.n<3)(ho:∀(i:Nat) o,(fP (pu v k.rs) (p9 w) k.rs)[i]?=some o->tg (bD i) s.h=some o):Ba (k.cx C w) (sB C.tk s):=
 have d:∀{i:Nat}{d:KD},(fP (pu v k.rs) (p9 w) k.rs)[i]?=some (rH d)->tg (bD i) (sB C.tk s).h=some (rH (gX C.tk d)):=λh=>GC _▸fB (ho _ _ h)
 ⟨FZ T F hn,F8 w▸fB (ho 1 _ rfl),d (i:=3) rfl,d (i:=4) rfl,d (i:=5) rfl,d (i:=6) rfl,d (i:=7) rfl⟩
theorem rt{o:Option KO}(h:rp o=true){G:Prop}(k:∀n,o=some (.dict n (xU o))->G):G:=by
 refine aB h ?_;rintro o h rfl;cases o with
 |dict n es=>exact k n rfl
 |_=>exact aD h
theorem GT{q:Pa}{n:Nat}(h:row s q n=true):∃p m,dl (xU (tg q s.h)) (.nat n)=some (.ref p)∧tg p s.h=some (.dict m (xU (tg p s.h)))∧∀x,lk s q n x=dl (xU (tg p s.h)) x:=by
 refine aI h ?_;clear h;intro h1 h2;refine aB h1 ?_;clear h1;intro v h1 e;refine cL h1 ?_;clear h1;rintro p-rfl;unfold lk;rw[e]at h2 ⊢;exact rt h2 λm d=>⟨p,m,rfl,d,λx=>rfl⟩
theorem wj{q:Pa}{n:Nat}(h:row s q n=true){G:Prop}(k:∀p m,dl (xU (tg q s.h)) (.nat n)=some (.ref p)->tg p s.h=some (.dict m (xU (tg p s.h)))->(∀x,lk s q n x=dl (xU (tg p s.h)) x)->G):G:=aH (GT h) k
theorem qu{f:Xo->Bool}(h:Lg f=true):∀x,f x=true:=λx=>by
 refine aI h ?_;intro h1 h;refine aI h ?_;intro h2 h;refine aI h ?_;intro h3 h4;cases x with
 |o=>exact h1
 |k=>exact h2
 |b y=>exact gw h3 y
 |f y=>exact gw h4 y
theorem De{f:Option Si->Bool}(h:LS f=true):∀m,f m=true:=λm=>by
 refine aI h ?_;intro h1 h;refine aI h ?_;intro h2 h;refine aI h ?_;intro h3 h4
 match m with
 |none=>exact h1
 |some .a=>exact h2
 |some .s=>exact h3
 |some (.o y)=>exact gw h4 y
theorem GB(T:lH C)(F:yo k)(hn:k.n<3){tq:Pa}(h:G8 k s tq=true)(ho:∀(i:Nat) o,(fP (pu v k.rs) (p9 w) k.rs)[i]?=some o->tg (bD i) s.h=some o):
  ∀{G:Prop},(∀aq gq,TF (k.z C w s tq aq gq) (sB C.tk s)->G)->G:=by
 intro G K;refine aB h ?_;clear h;intro o h hi;refine gi h ?_;clear h;rintro n fs h rfl;refine aB h ?_;clear h;intro va h f1;refine cL h ?_;clear h;rintro aq h rfl;refine aB h ?_;clear h;intro vg h f2;refine cL h ?_;clear h;rintro gq h rfl;refine aI h ?_;clear h;intro da h;refine aI h ?_;clear h;intro dg ht;refine rt da ?_;intro na da;refine rt dg ?_;intro ng dg;refine aI ht ?_;clear ht;intro c1 ht;refine aI ht ?_;clear ht;intro cA ht;refine aI ht ?_;clear ht;intro cS cH;have rowQ:∀q,KY k s aq (M7 s aq gq) q=true->k.S.ex q=true->∃rq n' rs,dl (gX C.tk (xU (tg aq s.h))) (.nat (M7 s aq gq q))=some (.ref rq)∧tg rq (sB C.tk s).h=some (.dict n' rs)∧∀m,ui (k.z C w s tq aq gq) ((k.P C).act q m) (dl rs (um m)):=λq h he=>by
  refine aI (vb h he) ?_;clear h;intro h1 h2;refine wj h1 ?_;clear h1;intro p m e1 e2 e3;refine⟨p,m,_,by rw[im,e1];rfl,fB e2,λm=>?_⟩;rw[im,←e3];exact JN T hn (z:=k.z C w s tq aq gq) rfl (De h2 m)
 refine K aq gq ⟨⟨n,_,fB hi,by rw[mj,f1];rfl,by rw[mj,f2];rfl⟩,⟨na,_,fB da,λq hq=>?_⟩,⟨ng,_,fB dg,λx hx=>?_⟩,⟨?_,λr hr=>?_⟩,?_⟩
 ·cases q with
  |A=>exact rowQ _ cA hq
  |S=>exact rowQ _ cS hq
  |H x=>exact rowQ _ (gw cH x) hq
  |c x=>exact rowQ _ (ax (qu c1 x)).1 hq
  |g x=>exact rowQ _ (ax (ax (qu c1 x)).2).1 hq
 ·refine aI (vb (ax (ax (qu c1 x)).2).2 hx) ?_;intro h1 h2;refine wj h1 ?_;clear h1;intro p m e1 e2 e3;rw[e3]at h2;refine aB h2 ?_;clear h2;intro u h2 e4;refine fw h2 ?_;clear h2;rintro j h2 rfl;exact⟨p,m,_,by rw[im];show Option.map _ (dl _ (.nat (M7 s aq gq (.c x))))=_;rw[e1];rfl,fB e2,by rw[im,e4,T6 h2];rfl⟩
 ·have e:sS C.tk (aK (qC 8 k.rs))=aK (qC 8 k.rs):=by
   show KO.list _ (eK C.tk (aC (qC 8 k.rs)))=_;rewrite [uD λx hx=>?_];rfl;refine aw (WQ.mp hx) ?_;intro i hi;rw[qB]at hi;refine xT hi ?_;clear hi;rintro y hy rfl;have:=(F.st y (TM hy)).2;show KV.cons _ (.cons (eK C.tk y.2) .nil)=_;rw[zn this];rfl
  exact e▸fB (ho 2 _ rfl)
 ·obtain⟨z1,z2,z3⟩:=F.nu r hr;have lt:k.nu r-1<k.rs.length:=by omega
  have ey:=T7 lt;generalize hY:k.rs[k.nu r-1]=y at ey;have st:=(F.st y (TM ey)).1;have o3:tg (bD (8+(k.nu r-1))) s.h=some (aK y.1):=ho _ _ (by
   rw[UY];show(k.rs.map λr=>aK r.1)[k.nu r-1]?=_;rw[Tr,ey];rfl)
  refine⟨bD (8+(k.nu r-1)),y.2,y.1,?_,?_,?_⟩
  ·show(qC 8 k.rs)[k.nu r-1]?=_;rw[qB,ey];rfl
  ·have e:sS C.tk (aK y.1)=aK y.1:=by
    show KO.list _ (eK C.tk (aC y.1))=_;refine rwr (zn st) ?_;rfl
   exact e▸fB o3
  ·have:(k.rs.map λx=>x.1.length).getD (k.nu r-1) 0=y.1.length:=by refine rwr (Uy) (rwr (Tr) (rwr ey ?_));rfl
   exact rwl this z3
 ·exact F8 w▸fB (ho 1 _ rfl)
end
end
end
section
set_option compiler.extract_closed false
section
open PySem PySem.W PyProof.Rows
section
variable{c:Cl}{s s' s'':KS}{e:En}{x y:X}
theorem MA{a b r:KV}(hr:r=two a b)(hx:Ev c x e s r s')(hy:Ev c y e s' r s')(h:fM r 60=true):Tc c (aA eI x y) e s true s':=by
 cases p0:pk r with
 |true=>have:=jG hx hy p0 p0;rw[kA _ h]at this;exact this
 |false=>
  exact λt f q=>hx _ (hy _ (by
   subst hr;show az (az (pk (two a b)) false (pk (two a b))) (az (fM (two a b) 60) false (az (cM (two a b) (two a b)) false (t s'))) _=true;refine rwr p0 (rwr h (rwr (kA _ h) ?_));exact q))
theorem TF.grow{z:yK}(T:TF z s)(x1:Xt s s'):TF z s':=⟨aH T.i λn fs a b c=>⟨n,fs,x1.keep _ _ a,b,c⟩,aL T.a λn es a b=>⟨n,es,x1.keep _ _ a,λq hq=>fL (b q hq) λrq n' rs c d e=>⟨rq,n',rs,c,x1.keep _ _ d,e⟩⟩,aL T.g λn es a b=>⟨n,es,x1.keep _ _ a,λq hq=>fL (b q hq) λrq n' rs c d e=>⟨rq,n',rs,c,x1.keep _ _ d,e⟩⟩,⟨x1.keep _ _ T.l.1,λr hr=>fL (T.l.2 r hr) λq nm l a b c=>⟨q,nm,l,a,x1.keep _ _ b,c⟩⟩,x1.keep _ _ T.w⟩
def yI(tq:Pa)(t:KV)(z:Nat):En:=tp (.g (.a .e)) (.nat z) (tp (.f (.a .e)) t (No tq))
theorem JQ{w:List Si}{tq:Pa}{o:ET}{v:KV}(hw:tg (bD 1) s.h=some (aK (w.map iw)))(hv:Rv o v):∃t z e,v=two t (.nat z)∧St c EW (yI tq t z) s e s∧tg (.h (.a .e)) e=some (nL w o)∧tg (.d (.a .e)) e=some (.ref tq)∧tg (.f .e) e=some (.ref (bD 2))∧tg (.h .e) e=some (.ref (bD 1)):=by
 cases o with
 |bad z=>exact⟨.none,z,_,hv,eL (zb (sj (q:=.f (.a .e)) rfl)) (bJ (bg (ar ay (ar (ah (v:=.nat z) rfl) bu)))),rfl,rfl,rfl,rfl⟩
 |ok t z=>
  refine ak hv ?_;clear hv;rintro ht rfl;have tl:Tc c (aA my (ae (.g (.a .e))) (cW 1 (.g .e) (ae (.h .e)))) (yI tq t z) s (T3 (z+1) w.length) s:=by
   have:=fE (c:=c) (e:=yI tq t z) (c0:=1) (p:=.g .e) (ah (q:=.h .e) rfl) hw;rw[TL]at this;exact mW (ah (q:=.g (.a .e)) rfl) this
  have tn:=si (c:=c) (e:=yI tq t z) (s:=s) (q:=.f (.a .e)) rfl ht;cases e:w[z]? with
  |none=>
   rw[show T3 (z+1) w.length=false from qe (UZ.mp e)]at tl;exact⟨t,z,_,rfl,bN (uy tn tl) (bJ (bg (ar (ah (v:=t) rfl) (ar ay bu)))),by show some (two t .none)=some (nL w (.ok t z));unfold nL;dsimp only;rw[e],rfl,rfl,rfl⟩
  |some y=>
   rw[SY (iU e)]at tl;exact⟨t,z,_,rfl,eL (uy tn tl) (bJ (bg (ar ay (ar (ah (v:=.nat z) rfl) bu)))),by show some (two .none (.nat z))=some (nL w (.ok t z));unfold nL;dsimp only;rw[e],rfl,rfl,rfl⟩
theorem QH{x:un}{z:yK}(O:x.Ok)(ba:Ba x s)(T:TF z s)(wf:Wf s)(hl:x.w.length≤18)(h0:z.N (.c .o)=0)(hx:x.wq=bD 1∧x.bq=bD 3)(hz:z.sq=bD 2∧z.wq=bD 1∧z.w=x.w∧z.P=x.P):C0 yF (λZ Z=>False) (No z.tq) s:=by
 refine⟨λZ Z=>false,λZ Z Z h=>aD h,?_⟩;obtain⟨x1,x2⟩:=hx;obtain⟨z1,z2,z3,z4⟩:=hz;obtain⟨o,s1,v,d1,d2,d3,d4⟩:=G4 O (SV hl (by decide)) 60 0 none s wf ba (TQ _) (by omega);have hw:=ba.w;rw[x1]at hw;obtain⟨t,y,e,rfl,st15,e1,e2,e3,e4⟩:=JQ (c:=oK) (tq:=z.tq) (d3.keep _ _ hw) d4;rw[x1,x2]at d2;have st14:St oK EX (No z.tq) s (yI z.tq t y) s1:=gv (gD (ar (ah (q:=.h .e) rfl) (ar ay (ar ay (ar (ah (q:=.g .e) rfl) bu)))) d2) λk h=>h;obtain⟨n,run⟩:=Dd d1;rw[←z3,←z4]at run;obtain⟨s2,ca⟩:=y9 (d:=59) (T.grow d3) d3.wf h0 (by rw[z3];omega) run;rw[z1,z2,z3]at ca;have hc:fM (nL x.w o) 60=true:=by
  cases o with
  |bad y=>rfl
  |ok t y=>
   obtain⟨m1,m2,m3⟩:=d1.mo;unfold nL;dsimp only;cases x.w[y]? with
   |none=>exact aO.mpr ⟨yg (by decide) (m3 18 (SV m2 hl)),rfl⟩
   |some u=>rfl
 have h2:∃a b,nL x.w o=two a b:=by cases o with|bad y=>exact⟨_,_,rfl⟩|ok t y=>(unfold nL;dsimp only;cases x.w[y]? with|none=>exact⟨_,_,rfl⟩|some u=>exact⟨_,_,rfl⟩)
 obtain⟨a2,b2,h2⟩:=h2;have r16:Rt oK EV e s1 (.bool true) s2:=eA (kD (MA h2 (gD (ar (ah e2) (ar (ah e3) (ar (ah e4) bu))) ca) (ah e1) hc));exact bp st14 (bp st15 (bW r16)) FA _ rfl
end
section
variable{C:Cx}{k:Sk}{h:Nat}{v:Nat->Nat}{w:List Si}{s:KS}{en:En}{ds:List Nat}
theorem E5{q:Pa}{o:KO}(h:tg q s.h=some o):here s q=true:=by unfold here;refine rwr h ?_;rfl
theorem Kg(F:yo k)(h:CB (Kh (here s)) (Mc s.h)=true)(ho:∀(i:Nat) o,(fP (pu v k.rs) (p9 w) k.rs)[i]?=some o->tg (bD i) s.h=some o):∀q o,tg q s.h=some o->Co (here s) o:=λq o hq=>by
 have hh:∀q,pI (k.rs.length+8) q=true->here s q=true:=λq hq=>by
  have l:=(AC hq).1;rw[←f8 (B:=pu v k.rs) (w:=p9 w)]at l;rw[uS _ q rfl];exact E5 (ho _ _ (T7 l))
 by_cases l:aY q<k.rs.length+8
 ·rw[←f8 (B:=pu v k.rs) (w:=p9 w)]at l;have e:=T7 l;have h1:=ho _ _ e;rw[←uS _ q rfl,hq]at h1;cases h1;exact(qU F e).mono hh
 ·have ne:∀i,i<8->q≠bD i:=λi hi z=>l (by rw[z,eF];omega);refine .of (vY h (q:=q) ?_);exact(am _ (ne 0 (by decide))).trans ((am _ (ne 1 (by decide))).trans ((am _ (ne 3 (by decide))).trans ((am _ (ne 4 (by decide))).trans ((am _ (ne 5 (by decide))).trans ((am _ (ne 6 (by decide))).trans ((am _ (ne 7 (by decide))).trans hq))))))
open Classical in
theorem QI(T:lH C)(F:yo k)(hn:k.n<3)(hl:w.length≤18)(hr:∀B w k',Aj k B w k'=An k B w k'):C0 yE (yp C yF λZ Z=>False) (Pb k.ob k.m) (pU (pf (pu v k.rs) (p9 w) k.rs k.pd)):=by
 refine⟨MB k λes os=>decide (es=[some (.ref (bD 1)),some (.ref (bD 3)),some (.ref (bD 2))]∧os=(fP (pu v k.rs) (p9 w) k.rs).map some),λen s wf hk=>?_,(hr _ _ _).trans (decide_eq_true ⟨rfl,rfl⟩)⟩;refine aI hk ?_;clear hk;intro hc hk;obtain⟨he,hk⟩:=of_decide_eq_true hk;have ho:∀(i:Nat) o,(fP (pu v k.rs) (p9 w) k.rs)[i]?=some o->tg (bD i) s.h=some o:=λi o e=>qT hk e;refine aI hc ?_;clear hc;intro ht hm;refine aB ht ?_;clear ht;intro u ht et;refine cL ht ?_;clear ht;rintro tq ht rfl;have cl:=Kg F hm ho;refine GB T F hn ht ho ?_;intro aq gq tf;have cs:=Em (C:=C) wf cl;have e2:tg (.h .e) en=_:=(Uc he).1;have he:=(Uc he).2;have e3:tg (.g .e) en=_:=(Uc he).1;have he:=(Uc he).2;have e4:tg (.f .e) en=_:=(Uc he).1;refine⟨No tq,sB C.tk s,⟨_,_,cs,λq x hx=>?_⟩,QH (z:=k.z C w s tq aq gq) (FZ T F hn) (MX T F hn ho) tf cs.next hl rfl ⟨rfl,rfl⟩ ⟨rfl,rfl,rfl,rfl⟩⟩;rcases bQ hx with⟨rfl,rfl⟩|hx
 ·exact⟨_,et,_,rfl,rfl⟩
 ·rcases bQ hx with⟨rfl,rfl⟩|hx
  ·exact⟨_,e2,_,rfl,rfl⟩
  ·rcases bQ hx with⟨rfl,rfl⟩|hx
   ·exact⟨_,e3,_,rfl,rfl⟩
   ·rcases bQ hx with⟨rfl,rfl⟩|hx
    ·exact⟨_,e4,_,rfl,rfl⟩
    ·rw[dU]at hx;exact dh hx
open Classical in
theorem O2(hC:C.tk=mh h v)(F:yo k)(hn:k.n<3)(h1:k.n=1->ul v 3=true)(h2:k.n=2->ul v 1=true)(hm:k.m=2∨k.m=h/600%2)(hl:w.length≤18)(hr:∀B w k',Aj k B w k'=An k B w k')(hd:nh k.rs):C0 yD (yp C yE (yp C yF λZ Z=>False)) (Pc (200482+h/600%2)) (pU (fP (pu v k.rs) (p9 w) k.rs)):=by
 refine⟨OG Of (k.rs.length+25) λes os=>decide (es=[some (.ref (bD (k.rs.length+9))),some (.ref (bD 1)),some (.ref (bD 3)),some (.ref (bD 2)),some (.tok (200482+h/600%2))]∧os=(pf (pu v k.rs) (p9 w) k.rs (rH (Bn (u8 v)))).map some),λen s wf hk=>?_,(qJ (hd (ub (.dict 4 (uk (uU (m8 v)))) k.rs) (p9 w) (200482+h/600%2) _) Di).trans (decide_eq_true ⟨rfl,rfl⟩)⟩;obtain⟨he,hk⟩:=of_decide_eq_true hk;exact⟨_,_,Pj hC F (LV hC hn h1 h2) hm he hk,QI (F5 hC) F hn hl hr⟩
theorem uF{y:Y}{T:En->KS->Prop}{en en':En}{s s':KS}(st:St oK y en s en' s')(h:T en' s'):C0 y T en s:=by
 classical
 exact⟨λen s=>decide (T en s),λen s Z h=>of_decide_eq_true h,st _ _ (decide_eq_true h)⟩
open Classical in
theorem QK{k:Sk}(hC:C.tk=mh h v)(F:yo k)(hn:k.n<3)(h1:k.n=1->ul v 3=true)(h2:k.n=2->ul v 1=true)(hm:k.m=2∨k.m=h/600%2)(hr:∀B w k',Aj k B w k'=An k B w k')(hd:nh k.rs)(hrs:k.rs=(dL h).rs (m8 v))(hl:ds.length≤100)(hb:∀n xs k',Dh (dL h) (m8 v) (dL h).num n xs k'=k' (some (.list n xs))):
  C0 yB (yp C yC (yp C yD (yp C yE (yp C yF λZ Z=>False)))) (Pe (dL h).num) (pU [.dict 4 (uk (uU (m8 v))),Gv ds]):=by
 refine⟨JO (dL h).num ((dL h).rs (m8 v)) (m8 v) λo=>decide (o=some (Gv ds)),λen s wf hk=>?_,(hb ds.length (aC (fc ds)) _).trans (decide_eq_true rfl)⟩;rw[←hrs]at hk;obtain⟨wq,w,s',st,wf',kp,g1,g2,lw⟩:=QJ (p:=m8 v) (ds:=ds) (h:=h) F hl;exact⟨_,_,Pl (ds:=ds) hC (λo ho=>of_decide_eq_true ho) hk,uF st ⟨_,_,Pk hC F kp g1 g2,O2 hC F hn h1 h2 hm lw hr hd⟩⟩
end
end
end
section
set_option compiler.extract_closed false
section
open PySem PySem.W PyProof.Rows
structure C3:Prop where
 b1:∀n x,n<3->x<4->bZ (rQ n x)
 b2:∀x e,x<4->e<5->bZ (lz x e)
 d1:∀a b d,nh [a,b,d]
 d2:∀a b d e,nh [a,b,d,e]
 e1:∀n x,n<3->x<3->dZ (k9 n x)
 e2:∀x e,x<3->e<5->dZ (gM x e)
 s1:∀n x,n<3->x<3->jA (k9 n x)
 s2:∀x e,x<3->e<5->jA (gM x e)
section
variable{h:Nat}{p:Nat->Bool}{m:Nat}
theorem Ab{b:Bool}(hm:m<2):(bif b then 2 else m)∈O3 b:=by
 cases b with
 |true=>exact U9.mpr rfl
 |false=>
  show m∈[0,1]
  match m,hm with
  |0,_=>exact SX
  |1,_=>exact T5 _ SX
theorem LM(c:pz)(p:Nat->Bool):c.sn p<3∧(c.sn p=1->p 3=true)∧(c.sn p=2->p 1=true):=by
 have a01:∀{G:Prop},(0:Nat)=1->G:=λz=>absurd z (by decide);have a02:∀{G:Prop},(0:Nat)=2->G:=λz=>absurd z (by decide);have a12:∀{G:Prop},(1:Nat)=2->G:=λz=>absurd z (by decide);have a21:∀{G:Prop},(2:Nat)=1->G:=λz=>absurd z (by decide);obtain⟨o,n,x,e,t⟩:=c
 match o,n with
 |false,_=>exact⟨(by decide:0<3),a01,a02⟩
 |true,0=>
  show(bif p 3 then 1 else 0)<3∧((bif p 3 then 1 else 0)=1->p 3=true)∧((bif p 3 then 1 else 0)=2->p 1=true);cases p 3 with
  |true=>exact⟨by decide,λ_=>rfl,a12⟩
  |false=>exact⟨by decide,a01,a02⟩
 |true,1=>
  show(bif p 1 then 2 else 0)<3∧((bif p 1 then 2 else 0)=1->p 3=true)∧((bif p 1 then 2 else 0)=2->p 1=true);cases p 1 with
  |true=>exact⟨by decide,a21,λ_=>rfl⟩
  |false=>exact⟨by decide,a01,a02⟩
 |true,_+2=>exact⟨(by decide:0<3),a01,a02⟩
theorem O1(c:pz)(h:c.x<4):c.sx<3:=by
 unfold pz.sx;cases e:SS c.x 3 with
 |true=>exact(by decide:0<3)
 |false=>
  have:c.x≠3:=λz=>by rw[z]at e;cases e
  show c.x<3;omega
theorem MQ(h:Nat):(dL h).x<4∧(dL h).e<5∧(((dL h).o=true∧(dL h).n<3∧(dL h).t<4)∨((dL h).o=false∧(dL h).n=0∧(dL h).t<(bif SS (dL h).e 0 then 3 else 4))):=by
 refine⟨Uz _ (by decide),Uz _ (by decide),?_⟩;unfold dL;dsimp only;cases SS (h%2) 1 with
 |true=>exact .inl ⟨rfl,Uz _ (by decide),Uz _ (by decide)⟩
 |false=>
  refine .inr ⟨rfl,rfl,?_⟩;cases SS (h/24%5) 0 with
  |true=>exact Uz _ (by decide)
  |false=>exact Uz _ (by decide)
theorem IK(o:Bool)(n x e:Nat)(t:Nat):((r0 o n x e).drop t++(r0 o n x e).take t).length=(bif o then 3 else 2)+(match e with|0=>1|_=>2):=by
 have e1:∀(l:List R2)(m:Nat),(l.drop m++l.take m).length=l.length:=λl m=>by rw[Td,Vg,UR,Nat.min_comm];exact Nat.sub_add_min_cancel _ _
 rw[e1];cases o<;>cases e<;>rfl
theorem O5(R:C3):nh ((dL h).sk p m).rs:=by
 have l:((dL h).sk p m).rs.length=3∨((dL h).sk p m).rs.length=4:=by
  have e:((dL h).sk p m).rs.length=(bif (dL h).o then 3 else 2)+(match(bif (dL h).o then 0 else(dL h).e)with|0=>1|_=>2):=IK _ _ _ _ _;rw[e];cases(dL h).o with
  |true=>exact .inr rfl
  |false=>cases(dL h).e with|zero=>exact .inl rfl|succ e=>exact .inr rfl
 generalize((dL h).sk p m).rs=rs at*
 match rs,l with
 |[a,b,d],_=>exact R.d1 a b d
 |[a,b,d,e],_=>exact R.d2 a b d e
 |[],l=>exact absurd l (by simp)
 |[_],l=>exact absurd l (by simp)
 |[_,_],l=>exact absurd l (by simp)
 |_::_::_::_::_::_,l=>exact absurd l (by simp)
theorem O4(R:C3)(hm:m<2):(∀B w k',Aj ((dL h).sk p m) B w k'=An ((dL h).sk p m) B w k')∧fA ((dL h).sk p m)=true:=by
 obtain⟨f1,f2,f3⟩:=MQ h;have f4:=(LM (dL h) p).1;have f5:=O1 _ f1;rcases f3 with⟨o1,o2,o3⟩|⟨o1,o2,o3⟩
 ·have mem:(dL h).sk p m∈k9 ((dL h).sn p) (dL h).sx:=by
   refine Us.mpr ⟨bif SS (dL h).sx 0 then 2 else m,Ab hm,UO.mpr ⟨(dL h).t,Uj.mpr o3,?_⟩⟩;unfold pz.sk yl;rw[o1];rfl
  exact⟨λB w k'=>qJ (R.e1 _ _ f4 f5 B w k') mem,ig (R.s1 _ _ f4 f5) _ mem⟩
 ·have e0:(dL h).sn p=0:=by unfold pz.sn;rw[o1];rfl
  have mem:(dL h).sk p m∈gM (dL h).sx (dL h).e:=by
   refine Us.mpr ⟨bif (bif SS (dL h).sx 0 then T3 1 (dL h).e else SS (dL h).e 1||SS (dL h).e 4)then 2 else m,Ab hm,UO.mpr ⟨(dL h).t,Uj.mpr o3,?_⟩⟩;unfold pz.sk yl;rw[o1,e0];rfl
  exact⟨λB w k'=>qJ (R.e2 _ _ f5 f2 B w k') mem,ig (R.s2 _ _ f5 f2) _ mem⟩
theorem O6(R:C3)(hp:p∈Dq):∀n xs k',Dh (dL h) p (dL h).num n xs k'=k' (some (.list n xs)):=λn xs k'=>by
 obtain⟨f1,f2,f3⟩:=MQ h;have key:∀l,dL h∈l->bZ l->Dh (dL h) p (dL h).num n xs k'=k' (some (.list n xs)):=λl hl hr=>Wy.mp (Wy.mp (hr n xs k') _ hl) p hp;rcases f3 with⟨o1,o2,o3⟩|⟨o1,o2,o3⟩
 ·refine key (rQ (dL h).n (dL h).x) (Us.mpr ⟨(dL h).e,Uj.mpr f2,UO.mpr ⟨(dL h).t,Uj.mpr o3,?_⟩⟩) (R.b1 _ _ o2 f1);rw[←o1]
 ·refine key (lz (dL h).x (dL h).e) (UO.mpr ⟨(dL h).t,Uj.mpr o3,?_⟩) (R.b2 _ _ f1 f2);rw[←o1,←o2]
end
theorem OE(R:C3):Ku:=λns hns=>by
 have hl:(ns.take 24).length≤24:=by rw[UR];exact Nat.min_le_left _ _
 obtain⟨e0,s0,st0,e,s,qt,qr,h,v,ds,st1,A,ld⟩:=GE (SV hl (by decide));have hm:h/600%2<2:=Uz _ (by decide);refine⟨mh h v,λC hC=>⟨F5 hC,Lz hC,uF st0 (uF st1 ⟨_,_,Pn hC A,?_⟩)⟩⟩;obtain⟨r1,r2⟩:=O4 (h:=h) (p:=m8 v) R hm;obtain⟨n1,n2,n3⟩:=LM (dL h) (m8 v);refine QK (k:=(dL h).sk (m8 v) (h/600%2)) hC (GP r2) n1 n2 n3 ?_ r1 (O5 R) rfl (SV ld (SV hl (by decide))) (O6 R (Do _ _ _ _));show(bif yl (dL h).o (dL h).sx (dL h).e then 2 else h/600%2)=2∨(bif yl (dL h).o (dL h).sx (dL h).e then 2 else h/600%2)=h/600%2;cases yl (dL h).o (dL h).sx (dL h).e with
 |true=>exact .inl rfl
 |false=>exact .inr rfl
end
end
section
set_option compiler.extract_closed false
section
open PySem PySem.W PyProof.Rows
noncomputable abbrev l2:=VK
theorem OO:namesResolve l2.row.prog=true:=by kernel_rfl
theorem ON:noRoadLSs {strict:=!(importedModules l2.row.prog.main.body).all cThrough.contains,foot:=none,bare:=(["vars","dir","locals"]:List Str).filter (readsOut l2.row.prog l2.row.prog.main.body)} l2.row.prog.main.body=true:=by kernel_rfl
theorem OP:(namesMeet l2.row.prog l2.row.prog.main.body λ_ n=>attrL n)=true:=by kernel_rfl
theorem E4:looksOpen l2.row.prog=true:=by
 unfold looksOpen;rw[OO,ON,OP]
 kernel_rfl
theorem Jv:l2.row.wellSaid=true:=by
 unfold OpenRow.wellSaid OpenRow.partSaid;rw[E4]
 kernel_rfl
theorem Jx:l2.wellSaid=true:=by
 unfold OpenLaw.wellSaid;rw[Jv]
 kernel_rfl
theorem Jz:l2.prog.bare:=⟨rfl,rfl,rfl,rfl,by kernel_rfl,by kernel_rfl⟩
theorem Jy:l2.row.toRowW.promised:=⟨[.list []],by decide+kernel,by decide+kernel⟩
theorem OW:(chainsOk q2&&opensWell l2.prog&&(PySem.W.frees l2.row.toRowW&&l2.row.within.isEmpty))=true:=by kernel_rfl
noncomputable def d2:DefRec:=((defOf q2 l2.name).map (·.1)).getD ⟨"",⟨[],[],none,[],[],none,[]⟩,[],⟨.function,[],false,false,[]⟩,⟨0,0,0,0⟩⟩
theorem Ms:defOf q2 l2.name=some (d2,[]):=by kernel_rfl
theorem Mr:l2.prog.theDef l2.name=some (d2.params,d2.body,d2.scope):=by kernel_rfl
theorem OX:kwWritten? d2.params.kwonlyargs d2.params.kw_defaults=some []:=by kernel_rfl
theorem OY:((9223847026081398903:Nat),l2.name,Gm.fn (.g (.g .e)))∈dw.gl:=TM (i:=15) (by kernel_rfl)
theorem OF(J:Ku):VK.Holds:=Oi Jx rfl rfl Mj Ms Mr OX rfl OW Jz Jy OY (λw h s sa items ns ck hv kp hL hi hlen hg=>DL J w h s sa items ns ck hv kp hL hi hlen hg)
end
end
section
set_option compiler.extract_closed false
section
theorem IJ:bZ (rQ 0 0):=λn xs k=>by kernel_rfl
theorem II:bZ (rQ 0 1):=λn xs k=>by kernel_rfl
theorem IH:bZ (rQ 0 2):=λn xs k=>by kernel_rfl
theorem IG:bZ (rQ 0 3):=λn xs k=>by kernel_rfl
end
end
section
set_option compiler.extract_closed false
section
theorem IF:bZ (rQ 1 0):=λn xs k=>by kernel_rfl
theorem IE:bZ (rQ 1 1):=λn xs k=>by kernel_rfl
theorem ID:bZ (rQ 1 2):=λn xs k=>by kernel_rfl
theorem IC:bZ (rQ 1 3):=λn xs k=>by kernel_rfl
end
end
section
set_option compiler.extract_closed false
section
theorem IB:bZ (rQ 2 0):=λn xs k=>by kernel_rfl
theorem IA:bZ (rQ 2 1):=λn xs k=>by kernel_rfl
theorem Iz:bZ (rQ 2 2):=λn xs k=>by kernel_rfl
theorem Iy:bZ (rQ 2 3):=λn xs k=>by kernel_rfl
end
end
section
set_option compiler.extract_closed false
section
theorem Ix:bZ (lz 0 0):=λn xs k=>by kernel_rfl
theorem Iw:bZ (lz 0 1):=λn xs k=>by kernel_rfl
theorem Iu:bZ (lz 0 2):=λn xs k=>by kernel_rfl
theorem It:bZ (lz 0 3):=λn xs k=>by kernel_rfl
theorem Iq:bZ (lz 0 4):=λn xs k=>by kernel_rfl
theorem Ip:bZ (lz 1 0):=λn xs k=>by kernel_rfl
theorem Io:bZ (lz 1 1):=λn xs k=>by kernel_rfl
theorem Im:bZ (lz 1 2):=λn xs k=>by kernel_rfl
theorem Il:bZ (lz 1 3):=λn xs k=>by kernel_rfl
theorem Ik:bZ (lz 1 4):=λn xs k=>by kernel_rfl
theorem Ij:bZ (lz 2 0):=λn xs k=>by kernel_rfl
theorem Ii:bZ (lz 2 1):=λn xs k=>by kernel_rfl
theorem Ih:bZ (lz 2 2):=λn xs k=>by kernel_rfl
theorem Ig:bZ (lz 2 3):=λn xs k=>by kernel_rfl
theorem Ie:bZ (lz 2 4):=λn xs k=>by kernel_rfl
theorem Id:bZ (lz 3 0):=λn xs k=>by kernel_rfl
theorem Ic:bZ (lz 3 1):=λn xs k=>by kernel_rfl
theorem Ib:bZ (lz 3 2):=λn xs k=>by kernel_rfl
theorem Ia:bZ (lz 3 3):=λn xs k=>by kernel_rfl
theorem I9:bZ (lz 3 4):=λn xs k=>by kernel_rfl
end
end
section
set_option compiler.extract_closed false
section
theorem I8:dZ (k9 0 0):=λB w k=>by kernel_rfl
theorem I7:dZ (k9 0 1):=λB w k=>by kernel_rfl
theorem I2:dZ (k9 0 2):=λB w k=>by kernel_rfl
end
end
section
set_option compiler.extract_closed false
section
theorem HZ:dZ (k9 1 0):=λB w k=>by kernel_rfl
theorem HY:dZ (k9 1 1):=λB w k=>by kernel_rfl
theorem HX:dZ (k9 1 2):=λB w k=>by kernel_rfl
end
end
section
set_option compiler.extract_closed false
section
theorem HW:dZ (k9 2 0):=λB w k=>by kernel_rfl
theorem HV:dZ (k9 2 1):=λB w k=>by kernel_rfl
theorem HU:dZ (k9 2 2):=λB w k=>by kernel_rfl
end
end
section
set_option compiler.extract_closed false
section
theorem HT:dZ (gM 0 0):=λB w k=>by kernel_rfl
theorem HS:dZ (gM 0 1):=λB w k=>by kernel_rfl
theorem HQ:dZ (gM 0 2):=λB w k=>by kernel_rfl
theorem HP:dZ (gM 0 3):=λB w k=>by kernel_rfl
theorem HO:dZ (gM 0 4):=λB w k=>by kernel_rfl
end
end
section
set_option compiler.extract_closed false
section
theorem HN:dZ (gM 1 0):=λB w k=>by kernel_rfl
theorem HM:dZ (gM 1 1):=λB w k=>by kernel_rfl
theorem HL:dZ (gM 1 2):=λB w k=>by kernel_rfl
theorem HK:dZ (gM 1 3):=λB w k=>by kernel_rfl
theorem HJ:dZ (gM 1 4):=λB w k=>by kernel_rfl
end
end
section
set_option compiler.extract_closed false
section
theorem HI:dZ (gM 2 0):=λB w k=>by kernel_rfl
theorem HH:dZ (gM 2 1):=λB w k=>by kernel_rfl
theorem HG:dZ (gM 2 2):=λB w k=>by kernel_rfl
theorem Hz:dZ (gM 2 3):=λB w k=>by kernel_rfl
theorem Hy:dZ (gM 2 4):=λB w k=>by kernel_rfl
end
end
section
set_option compiler.extract_closed false
section
theorem QR(a b d:R2):nh [a,b,d]:=λB w h k=>by kernel_rfl
theorem QQ(a b d e:R2):nh [a,b,d,e]:=λB w h k=>by kernel_rfl
theorem Hx:eO fA (k9 0 0)=true:=by kernel_rfl
theorem Hw:eO fA (k9 0 1)=true:=by kernel_rfl
theorem Hv:eO fA (k9 0 2)=true:=by kernel_rfl
theorem Hu:eO fA (k9 1 0)=true:=by kernel_rfl
theorem Ht:eO fA (k9 1 1)=true:=by kernel_rfl
theorem Hs:eO fA (k9 1 2)=true:=by kernel_rfl
theorem Hr:eO fA (k9 2 0)=true:=by kernel_rfl
theorem Hq:eO fA (k9 2 1)=true:=by kernel_rfl
theorem Hp:eO fA (k9 2 2)=true:=by kernel_rfl
theorem Ho:eO fA (gM 0 0)=true:=by kernel_rfl
theorem Hn:eO fA (gM 0 1)=true:=by kernel_rfl
theorem Hl:eO fA (gM 0 2)=true:=by kernel_rfl
theorem Hk:eO fA (gM 0 3)=true:=by kernel_rfl
theorem Hj:eO fA (gM 0 4)=true:=by kernel_rfl
theorem Hi:eO fA (gM 1 0)=true:=by kernel_rfl
theorem Hh:eO fA (gM 1 1)=true:=by kernel_rfl
theorem Hg:eO fA (gM 1 2)=true:=by kernel_rfl
theorem Hf:eO fA (gM 1 3)=true:=by kernel_rfl
theorem He:eO fA (gM 1 4)=true:=by kernel_rfl
theorem Hd:eO fA (gM 2 0)=true:=by kernel_rfl
theorem Hc:eO fA (gM 2 1)=true:=by kernel_rfl
theorem Hb:eO fA (gM 2 2)=true:=by kernel_rfl
theorem Ha:eO fA (gM 2 3)=true:=by kernel_rfl
theorem GZ:eO fA (gM 2 4)=true:=by kernel_rfl
end
end
section
set_option compiler.extract_closed false
section
theorem DB{P:Nat->Prop}(a:P 0)(b:P 1)(c:P 2)(d:P 3){m:Nat}(h:m<4):P m:=ji (iR a b c) d h
theorem BU:C3 where
 b1:=λx y hx hy=>iR (P:=λx=>bZ (rQ x y)) (DB (P:=λy=>bZ (rQ 0 y)) IJ II IH IG hy) (DB (P:=λy=>bZ (rQ 1 y)) IF IE ID IC hy) (DB (P:=λy=>bZ (rQ 2 y)) IB IA Iz Iy hy) hx
 b2:=λx y hx hy=>DB (P:=λx=>bZ (lz x y)) (m9 (P:=λy=>bZ (lz 0 y)) Ix Iw Iu It Iq hy) (m9 (P:=λy=>bZ (lz 1 y)) Ip Io Im Il Ik hy) (m9 (P:=λy=>bZ (lz 2 y)) Ij Ii Ih Ig Ie hy) (m9 (P:=λy=>bZ (lz 3 y)) Id Ic Ib Ia I9 hy) hx
 d1:=QR
 d2:=QQ
 e1:=λx y hx hy=>iR (P:=λx=>dZ (k9 x y)) (iR (P:=λy=>dZ (k9 0 y)) I8 I7 I2 hy) (iR (P:=λy=>dZ (k9 1 y)) HZ HY HX hy) (iR (P:=λy=>dZ (k9 2 y)) HW HV HU hy) hx
 e2:=λx y hx hy=>iR (P:=λx=>dZ (gM x y)) (m9 (P:=λy=>dZ (gM 0 y)) HT HS HQ HP HO hy) (m9 (P:=λy=>dZ (gM 1 y)) HN HM HL HK HJ hy) (m9 (P:=λy=>dZ (gM 2 y)) HI HH HG Hz Hy hy) hx
 s1:=λx y hx hy=>iR (P:=λx=>jA (k9 x y)) (iR (P:=λy=>jA (k9 0 y)) Hx Hw Hv hy) (iR (P:=λy=>jA (k9 1 y)) Hu Ht Hs hy) (iR (P:=λy=>jA (k9 2 y)) Hr Hq Hp hy) hx
 s2:=λx y hx hy=>iR (P:=λx=>jA (gM x y)) (m9 (P:=λy=>jA (gM 0 y)) Ho Hn Hl Hk Hj hy) (m9 (P:=λy=>jA (gM 1 y)) Hi Hh Hg Hf He hy) (m9 (P:=λy=>jA (gM 2 y)) Hd Hc Hb Ha GZ hy) hx
theorem law_holds:VK.Holds:=OF (OE BU)
end
end
end Internal
end
theorem PySem.Challenge.cw_rq0001_01_holds : PySem.Challenge.rw_rq0001_01.Holds :=
 Internal.law_holds
