import PyProof.Rows.All
import Wide.All
import OpenK.AllK
import Open.Row
import Wide.FinOn
import Lean
import PySem.Challenge.RW_rq0001_03
set_option Elab.async false
set_option compiler.extract_closed false
set_option tactic.hygienic false
set_option genSizeOf false
set_option bootstrap.genMatcherCode false
set_option genSizeOfSpec false
set_option genInjectivity false
set_option backward.match.sparseCases false
set_option autoImplicit false
set_option linter.unusedVariables false
set_option maxRecDepth 100000
noncomputable section
namespace Internal
open Array renaming length_toList->QL,getElem?_toList->R9,getElem?_eq_getElem->RF,toList_append->RK,getElem?_eq_some_iff->SD,toList_push->TU,toArray_toList->U3
open Bool renaming false_ne_true->R8,and_eq_true_iff->Rb,rec->RJ,eq_iff_iff->S6,noConfusion->So,or_eq_false_iff->SM,and_eq_true->UE,or_eq_true->UL
open Exists renaming imp->Ts
open ForInStep renaming yield->Tr
open Int renaming ofNat->SO,natCast_nonneg->T9
open Int.NonNeg renaming mk->To
open List renaming mem_cons_self->QF,mem_cons->QH,mem_cons_of_mem->QI,getElem?_eq_getElem->QM,eq_nil_of_length_eq_zero->QP,length_append->QT,not_mem_nil->QW,length_map->Ra,getElem?_eq_some_iff->Rc,getElem?_map->Rj,all_eq_true->Rl,mem_append_right->Ro,mem_of_getElem?->Rq,mem_append->RG,lookup_cons->RI,nodup_cons->RN,append_nil->RO,getElem?_eq_none->RU,mem_append_left->RW,mem_singleton->RZ,take_of_length_le->S0,map_append->S1,getElem?_append_left->S2,length_take->S3,length_cons->S4,mem_flatMap->Sn,map_cons->Sr,mem_map->Sw,append_assoc->Sx,getD_eq_getElem?_getD->SE,length_drop->SF,getElem?_eq_none_iff->SI,rec->SK,reverse_cons->SN,length_reverse->SS,mem_range->T5,take_append_drop->Td,size_toArray->Te,getElem?_append_right->Th,isEmpty_iff->Tq,mem_map_of_mem->Tv,range->Tw,countP_append->TM,all_cons->TP,nodup_nil->U0,mem_of_mem_take->Ub,mem_iff_getElem->Uc,getElem?_zip_eq_some->Uu,countP_cons_of_pos->Uz,of_mem_zip->UI,mem_iff_getElem?->UJ,mem_filter->UK
open Nat renaming le_of_ble_eq_true->QA,beq->QB,le_trans->QG,ble->QJ,ble_eq_true_of_le->QK,succ->QR,le_add_left->QU,eq_of_beq_eq_true->QY,le_refl->QZ,lt_of_le_of_lt->Rp,zero_le->Ry,le_succ->RA,le_add_right->RB,succ_le_succ->RV,sub->S9,lt_of_lt_of_le->Sa,lt_succ_self->Sb,le_of_lt->Sh,add_sub_cancel_left->Sv,min_eq_left->Sy,lt_of_succ_lt_succ->Sz,beq_refl->SH,ne_of_gt->SR,rec->SX,min_eq_right->T4,mod_lt->T6,le_of_succ_le_succ->T8,le_succ_of_le->Tf,zero_add->TA,succ_pos->TB,le_of_eq->TC,add_assoc->TR,ne_of_lt->U2,noConfusion->Uo,mul_le_mul_left->Up,lt_of_not_le->UH,sub_eq_zero_of_le->US,lt_or_ge->UT,le_total->UU
open Option renaming bind_some->Sj,rec->Ua,isSome_iff_exists->Ut
open Option.some renaming inj->QN
open PyProof.Rows renaming isSubtype_of_subB->SA,Subscript_->U9
open PySem renaming wpAny_bind->Qy,Expr->Qz,wpAny_pure->QC,Value->QD,Shared->QE,wpAny->QQ,mem_of_lookup->QV,model->R6,Env->Rd,mainGlobals->Rh,Addr->Ri,wpAny_call_entry->Rk,wpAny_holding->Rn,DictEntry->Rw,wpAny_callSpecial?_slot->Rx,Around->RR,builtinsNs->RY,wpAny_truthy_bool->S5,wpAny_specialOf->Sd,Arguments->Se,wpAny_standAt->Sl,wpAny_dictEpoch->Sp,wpAny_mono->Sq,wpAny_field->Ss,Flow->Su,Heap->SG,NameKind->SJ,wpAny_letTemporaryGo->SP,wpAny_rule->SU,wpAny_newObj_type->SV,wpAny_dictEntries->SW,wpAny_Assign_stores->T7,wpAny_isTrue_Compare1->Ti,Program->Tj,Scope->Tp,wpAny_forIn_list->TL,sizeLine_eq->TQ,wpAny_setField_rec->TY,wpAny_sequenceKey->U4,World->U5,Stmt->U6,wpAny_typeNameOfWhole_itemiter->Ue,wpAny_isInstance->Uk,wpAny_execs_cons->Ul,IsItemIter->Us,wpAny_typeNameOf_itemiter->UA,wpAny_setField->UB,wpAny_seqItems->UC,wpAny_list_append_plain->UM,evalPart_none->UN,arm_eval_Call->UO,Operator->UP,GenState->UQ,FuncData->UR,wpAny_isOneOf_itemiter->UW
open PySem.Builtin.Dict renaming showsAll->Tz
open PySem.Builtin.Dict_items renaming ownedTupleFields->T3,ownsTuple->Tu,ownedTupleIsFree->Uq,pairFromOwner->Uv
open PySem.Builtin.List renaming listSubscript?->TX
open PySem.Builtin.SmallTypes renaming nextOf->SQ
open PySem.Builtin.Str renaming reprChar->Ux
open PySem.Builtin.Tuple renaming tupleHashOf->S8
open PySem.Calls renaming Name_function_global->Un
open PySem.Challenge renaming rw_rq0001_03->TJ
open PySem.Data renaming noConfusion->QO
open PySem.F renaming slot_tuple_iterator_next->Tn,slot_dict_getitem->TH,plainAttrs_list->U1,slot_list_getitem->U7,slot_enumerate_next->U8,slot_dict_itemiterator_next->Ug,slot_tuple_getitem->Ui,slot_NoneType_hash->Uj,slot_dict_keyiterator_next->Um,slot_tuple_hash->UD,slot_list_pop->UX,slot_dict_get->UY
open PySem.Heap renaming get?_push_size->QS,get?_push_of_some->RH,SameBut->RM,get?_update_self->RT,get?_none_of_le->S7,lt_size->Tb,ExtBut->Tt,size_push->TZ
open PySem.Heap.IsSliceOf renaming new->Uy
open PySem.Heap.SameBut renaming update->RE
open PySem.NameKind renaming free->RD
open PySem.Obj renaming mapSeq->Uh,data_mapFields->Ur
open PySem.PyData renaming depthAll->UG
open PySem.Shared renaming TypeIs->Uw
open PySem.Str renaming ofString->Rg
open PySem.Value renaming noConfusion->R7,none->SY,ref->Ta,bool->Ud
open PySem.W renaming boot_heap->Sf
section
set_option autoImplicit true
theorem aO{G:Prop}(h:false=true):G:=So h
theorem p7{G:Prop}(h:true=false):G:=So h
@[elab_as_elim] theorem rwr {α:Sort u} {a b:α} {P:α->Prop} (h:a=b) (k:P b):P a:=h▸k
@[elab_as_elim] theorem rwl {α:Sort u} {a b:α} {P:α->Prop} (h:a=b) (k:P a):P b:=h▸k
theorem cO{α:Type u}{a:α}{G:Prop}(h:none=some a):G:=Option.noConfusion rfl (heq_of_eq h)
theorem uD{α:Type u}{a:α}{G:Prop}(h:some a=none):G:=Option.noConfusion rfl (heq_of_eq h)
theorem ar{p q:Prop}{G:Prop}(h:p∧q)(k:p->q->G):G:=k h.1 h.2
theorem az{A:Sort _}{p:A->Prop}{G:Prop}(h:∃a,p a)(k:∀a,p a->G):G:=h.elim λa h=>k a h
theorem b0{p q r:Prop}{G:Prop}(h:p∧q∧r)(k:p->q->r->G):G:=k h.1 h.2.1 h.2.2
theorem ah{A:Sort _}{p q:A->Prop}{G:Prop}(h:∃a,p a∧q a)(k:∀a,p a->q a->G):G:=h.elim λa h=>k a h.1 h.2
theorem fI{A:Sort _}{B:Sort _}{p:A->B->Prop}{G:Prop}(h:∃a b,p a b)(k:∀a b,p a b->G):G:=h.elim λa h=>h.elim λb h=>k a b h
theorem lW{p q r s:Prop}{G:Prop}(h:p∧q∧r∧s)(k:p->q->r->s->G):G:=k h.1 h.2.1 h.2.2.1 h.2.2.2
theorem b8{A:Sort _}{p q r:A->Prop}{G:Prop}(h:∃a,p a∧q a∧r a)(k:∀a,p a->q a->r a->G):G:=h.elim λa h=>k a h.1 h.2.1 h.2.2
theorem aE{A:Sort _}{B:Sort _}{p q:A->B->Prop}{G:Prop}(h:∃a b,p a b∧q a b)(k:∀a b,p a b->q a b->G):G:=h.elim λa h=>h.elim λb h=>k a b h.1 h.2
theorem iU{p q r s t:Prop}{G:Prop}(h:p∧q∧r∧s∧t)(k:p->q->r->s->t->G):G:=k h.1 h.2.1 h.2.2.1 h.2.2.2.1 h.2.2.2.2
theorem cZ{A:Sort _}{p q r s:A->Prop}{G:Prop}(h:∃a,p a∧q a∧r a∧s a)(k:∀a,p a->q a->r a->s a->G):G:=h.elim λa h=>k a h.1 h.2.1 h.2.2.1 h.2.2.2
theorem aH{A:Sort _}{B:Sort _}{p q r:A->B->Prop}{G:Prop}(h:∃a b,p a b∧q a b∧r a b)(k:∀a b,p a b->q a b->r a b->G):G:=h.elim λa h=>h.elim λb h=>k a b h.1 h.2.1 h.2.2
theorem f9{A:Sort _}{B:Sort _}{C:Sort _}{p q:A->B->C->Prop}{G:Prop}(h:∃a b c,p a b c∧q a b c)(k:∀a b c,p a b c->q a b c->G):G:=h.elim λa h=>h.elim λb h=>h.elim λc h=>k a b c h.1 h.2
theorem Bn{A:Sort _}{p q r s t:A->Prop}{G:Prop}(h:∃a,p a∧q a∧r a∧s a∧t a)(k:∀a,p a->q a->r a->s a->t a->G):G:=h.elim λa h=>k a h.1 h.2.1 h.2.2.1 h.2.2.2.1 h.2.2.2.2
theorem d9{A:Sort _}{B:Sort _}{p q r s:A->B->Prop}{G:Prop}(h:∃a b,p a b∧q a b∧r a b∧s a b)(k:∀a b,p a b->q a b->r a b->s a b->G):G:=h.elim λa h=>h.elim λb h=>k a b h.1 h.2.1 h.2.2.1 h.2.2.2
theorem ei{A:Sort _}{B:Sort _}{C:Sort _}{p q r:A->B->C->Prop}{G:Prop}(h:∃a b c,p a b c∧q a b c∧r a b c)(k:∀a b c,p a b c->q a b c->r a b c->G):G:=h.elim λa h=>h.elim λb h=>h.elim λc h=>k a b c h.1 h.2.1 h.2.2
theorem uc{A:Sort _}{B:Sort _}{C:Sort _}{D:Sort _}{p q:A->B->C->D->Prop}{G:Prop}(h:∃a b c d,p a b c d∧q a b c d)(k:∀a b c d,p a b c d->q a b c d->G):G:=h.elim λa h=>h.elim λb h=>h.elim λc h=>h.elim λd h=>k a b c d h.1 h.2
theorem fN{A:Sort _}{B:Sort _}{C:Sort _}{p q r s:A->B->C->Prop}{G:Prop}(h:∃a b c,p a b c∧q a b c∧r a b c∧s a b c)(k:∀a b c,p a b c->q a b c->r a b c->s a b c->G):G:=h.elim λa h=>h.elim λb h=>h.elim λc h=>k a b c h.1 h.2.1 h.2.2.1 h.2.2.2
theorem FG{A:Sort _}{B:Sort _}{C:Sort _}{D:Sort _}{p q r:A->B->C->D->Prop}{G:Prop}(h:∃a b c d,p a b c d∧q a b c d∧r a b c d)(k:∀a b c d,p a b c d->q a b c d->r a b c d->G):G:=h.elim λa h=>h.elim λb h=>h.elim λc h=>h.elim λd h=>k a b c d h.1 h.2.1 h.2.2
theorem FD{A:Sort _}{B:Sort _}{C:Sort _}{D:Sort _}{E:Sort _}{F:Sort _}{p:A->B->C->D->E->F->Prop}{G:Prop}(h:∃a b c d e f,p a b c d e f)(k:∀a b c d e f,p a b c d e f->G):G:=h.elim λa h=>h.elim λb h=>h.elim λc h=>h.elim λd h=>h.elim λe h=>h.elim λf h=>k a b c d e f h
theorem qj{A:Sort _}{B:Sort _}{p q r s t:A->B->Prop}{G:Prop}(h:∃a b,p a b∧q a b∧r a b∧s a b∧t a b)(k:∀a b,p a b->q a b->r a b->s a b->t a b->G):G:=h.elim λa h=>h.elim λb h=>k a b h.1 h.2.1 h.2.2.1 h.2.2.2.1 h.2.2.2.2
theorem dM{A:Sort _}{B:Sort _}{C:Sort _}{p q r s t:A->B->C->Prop}{G:Prop}(h:∃a b c,p a b c∧q a b c∧r a b c∧s a b c∧t a b c)(k:∀a b c,p a b c->q a b c->r a b c->s a b c->t a b c->G):G:=h.elim λa h=>h.elim λb h=>h.elim λc h=>k a b c h.1 h.2.1 h.2.2.1 h.2.2.2.1 h.2.2.2.2
theorem jJ{A:Sort _}{B:Sort _}{C:Sort _}{D:Sort _}{p q r s:A->B->C->D->Prop}{G:Prop}(h:∃a b c d,p a b c d∧q a b c d∧r a b c d∧s a b c d)(k:∀a b c d,p a b c d->q a b c d->r a b c d->s a b c d->G):G:=h.elim λa h=>h.elim λb h=>h.elim λc h=>h.elim λd h=>k a b c d h.1 h.2.1 h.2.2.1 h.2.2.2
theorem Kl{A:Sort _}{B:Sort _}{C:Sort _}{D:Sort _}{E:Sort _}{p q r:A->B->C->D->E->Prop}{G:Prop}(h:∃a b c d e,p a b c d e∧q a b c d e∧r a b c d e)(k:∀a b c d e,p a b c d e->q a b c d e->r a b c d e->G):G:=h.elim λa h=>h.elim λb h=>h.elim λc h=>h.elim λd h=>h.elim λe h=>k a b c d e h.1 h.2.1 h.2.2
theorem xm{A:Sort _}{B:Sort _}{C:Sort _}{p q r s t u:A->B->C->Prop}{G:Prop}(h:∃a b c,p a b c∧q a b c∧r a b c∧s a b c∧t a b c∧u a b c)(k:∀a b c,p a b c->q a b c->r a b c->s a b c->t a b c->u a b c->G):G:=h.elim λa h=>h.elim λb h=>h.elim λc h=>k a b c h.1 h.2.1 h.2.2.1 h.2.2.2.1 h.2.2.2.2.1 h.2.2.2.2.2
theorem ub{A:Sort _}{B:Sort _}{C:Sort _}{D:Sort _}{p q r s t:A->B->C->D->Prop}{G:Prop}(h:∃a b c d,p a b c d∧q a b c d∧r a b c d∧s a b c d∧t a b c d)(k:∀a b c d,p a b c d->q a b c d->r a b c d->s a b c d->t a b c d->G):G:=h.elim λa h=>h.elim λb h=>h.elim λc h=>h.elim λd h=>k a b c d h.1 h.2.1 h.2.2.1 h.2.2.2.1 h.2.2.2.2
theorem gu{A:Sort _}{B:Sort _}{C:Sort _}{D:Sort _}{p q r s t u:A->B->C->D->Prop}{G:Prop}(h:∃a b c d,p a b c d∧q a b c d∧r a b c d∧s a b c d∧t a b c d∧u a b c d)(k:∀a b c d,p a b c d->q a b c d->r a b c d->s a b c d->t a b c d->u a b c d->G):G:=h.elim λa h=>h.elim λb h=>h.elim λc h=>h.elim λd h=>k a b c d h.1 h.2.1 h.2.2.1 h.2.2.2.1 h.2.2.2.2.1 h.2.2.2.2.2
theorem Kk{A:Sort _}{B:Sort _}{C:Sort _}{D:Sort _}{E:Sort _}{p q r s t u:A->B->C->D->E->Prop}{G:Prop}(h:∃a b c d e,p a b c d e∧q a b c d e∧r a b c d e∧s a b c d e∧t a b c d e∧u a b c d e)(k:∀a b c d e,p a b c d e->q a b c d e->r a b c d e->s a b c d e->t a b c d e->u a b c d e->G):G:=h.elim λa h=>h.elim λb h=>h.elim λc h=>h.elim λd h=>h.elim λe h=>k a b c d e h.1 h.2.1 h.2.2.1 h.2.2.2.1 h.2.2.2.2.1 h.2.2.2.2.2
theorem iT{A:Sort _}{B:Sort _}{C:Sort _}{p q r s t u v w:A->B->C->Prop}{G:Prop}(h:∃a b c,p a b c∧q a b c∧r a b c∧s a b c∧t a b c∧u a b c∧v a b c∧w a b c)(k:∀a b c,p a b c->q a b c->r a b c->s a b c->t a b c->u a b c->v a b c->w a b c->G):G:=h.elim λa h=>h.elim λb h=>h.elim λc h=>k a b c h.1 h.2.1 h.2.2.1 h.2.2.2.1 h.2.2.2.2.1 h.2.2.2.2.2.1 h.2.2.2.2.2.2.1 h.2.2.2.2.2.2.2
theorem FE{A:Sort _}{B:Sort _}{C:Sort _}{D:Sort _}{p q r s t u v w:A->B->C->D->Prop}{G:Prop}(h:∃a b c d,p a b c d∧q a b c d∧r a b c d∧s a b c d∧t a b c d∧u a b c d∧v a b c d∧w a b c d)(k:∀a b c d,p a b c d->q a b c d->r a b c d->s a b c d->t a b c d->u a b c d->v a b c d->w a b c d->G):G:=h.elim λa h=>h.elim λb h=>h.elim λc h=>h.elim λd h=>k a b c d h.1 h.2.1 h.2.2.1 h.2.2.2.1 h.2.2.2.2.1 h.2.2.2.2.2.1 h.2.2.2.2.2.2.1 h.2.2.2.2.2.2.2
theorem HW{A:Sort _}{B:Sort _}{C:Sort _}{p q r s t u v w x y:A->B->C->Prop}{G:Prop}(h:∃a b c,p a b c∧q a b c∧r a b c∧s a b c∧t a b c∧u a b c∧v a b c∧w a b c∧x a b c∧y a b c)(k:∀a b c,p a b c->q a b c->r a b c->s a b c->t a b c->u a b c->v a b c->w a b c->x a b c->y a b c->G):G:=h.elim λa h=>h.elim λb h=>h.elim λc h=>k a b c h.1 h.2.1 h.2.2.1 h.2.2.2.1 h.2.2.2.2.1 h.2.2.2.2.2.1 h.2.2.2.2.2.2.1 h.2.2.2.2.2.2.2.1 h.2.2.2.2.2.2.2.2.1 h.2.2.2.2.2.2.2.2.2
theorem Bm{A:Sort _}{B:Sort _}{C:Sort _}{D:Sort _}{E:Sort _}{p q r s t u v w:A->B->C->D->E->Prop}{G:Prop}(h:∃a b c d e,p a b c d e∧q a b c d e∧r a b c d e∧s a b c d e∧t a b c d e∧u a b c d e∧v a b c d e∧w a b c d e)(k:∀a b c d e,p a b c d e->q a b c d e->r a b c d e->s a b c d e->t a b c d e->u a b c d e->v a b c d e->w a b c d e->G):G:=h.elim λa h=>h.elim λb h=>h.elim λc h=>h.elim λd h=>h.elim λe h=>k a b c d e h.1 h.2.1 h.2.2.1 h.2.2.2.1 h.2.2.2.2.1 h.2.2.2.2.2.1 h.2.2.2.2.2.2.1 h.2.2.2.2.2.2.2
theorem FH{A:Sort _}{B:Sort _}{C:Sort _}{p q r s t u v:A->B->C->Prop}{G:Prop}(h:∃a b c,p a b c∧q a b c∧r a b c∧s a b c∧t a b c∧u a b c∧v a b c)(k:∀a b c,p a b c->q a b c->r a b c->s a b c->t a b c->u a b c->v a b c->G):G:=h.elim λa h=>h.elim λb h=>h.elim λc h=>k a b c h.1 h.2.1 h.2.2.1 h.2.2.2.1 h.2.2.2.2.1 h.2.2.2.2.2.1 h.2.2.2.2.2.2
theorem Kj{A:Sort _}{B:Sort _}{C:Sort _}{D:Sort _}{E:Sort _}{p q r s t u v w x:A->B->C->D->E->Prop}{G:Prop}(h:∃a b c d e,p a b c d e∧q a b c d e∧r a b c d e∧s a b c d e∧t a b c d e∧u a b c d e∧v a b c d e∧w a b c d e∧x a b c d e)(k:∀a b c d e,p a b c d e->q a b c d e->r a b c d e->s a b c d e->t a b c d e->u a b c d e->v a b c d e->w a b c d e->x a b c d e->G):G:=h.elim λa h=>h.elim λb h=>h.elim λc h=>h.elim λd h=>h.elim λe h=>k a b c d e h.1 h.2.1 h.2.2.1 h.2.2.2.1 h.2.2.2.2.1 h.2.2.2.2.2.1 h.2.2.2.2.2.2.1 h.2.2.2.2.2.2.2.1 h.2.2.2.2.2.2.2.2
theorem Ki{A:Sort _}{B:Sort _}{C:Sort _}{D:Sort _}{E:Sort _}{F:Sort _}{p q:A->B->C->D->E->F->Prop}{G:Prop}(h:∃a b c d e f,p a b c d e f∧q a b c d e f)(k:∀a b c d e f,p a b c d e f->q a b c d e f->G):G:=h.elim λa h=>h.elim λb h=>h.elim λc h=>h.elim λd h=>h.elim λe h=>h.elim λf h=>k a b c d e f h.1 h.2
theorem Km{A:Sort _}{B:Sort _}{C:Sort _}{p q r s t u v w x:A->B->C->Prop}{G:Prop}(h:∃a b c,p a b c∧q a b c∧r a b c∧s a b c∧t a b c∧u a b c∧v a b c∧w a b c∧x a b c)(k:∀a b c,p a b c->q a b c->r a b c->s a b c->t a b c->u a b c->v a b c->w a b c->x a b c->G):G:=h.elim λa h=>h.elim λb h=>h.elim λc h=>k a b c h.1 h.2.1 h.2.2.1 h.2.2.2.1 h.2.2.2.2.1 h.2.2.2.2.2.1 h.2.2.2.2.2.2.1 h.2.2.2.2.2.2.2.1 h.2.2.2.2.2.2.2.2
theorem jB{a b:Bool}{G:Prop}(h:(a&&b)=true)(k:a=true->b=true->G):G:=k (Rb.mp h).1 (Rb.mp h).2
theorem nR{α β:Type _}{f:α->β}{l:List α}{b:β}{G:Prop}(h:b∈l.map f)(k:∀a,a∈l->f a=b->G):G:=ah (Sw.mp h) k
theorem wM{α β:Type _}{f:α->β}{x:Option α}{b:β}{G:Prop}(h:x.map f=some b)(k:∀a,x=some a->f a=b->G):G:=ah (Option.map_eq_some_iff.mp h) k
theorem Fn{α β:Type _}{f:α->Option β}{x:Option α}{b:β}{G:Prop}(h:x.bind f=some b)(k:∀a,x=some a->f a=some b->G):G:=ah (Option.bind_eq_some_iff.mp h) k
theorem IJ{α:Type _}{x:Option α}{G:Prop}(h:x.isSome=true)(k:∀a,x=some a->G):G:=az (Ut.mp h) k
theorem JF{α:Type _}{a:α}{l:List α}{G:Prop}(h:(a::l).Nodup)(k:a∉l->l.Nodup->G):G:=ar (RN.mp h) k
theorem Lk{α β:Type _}{f:α->Option β}{l:List α}{b:β}{G:Prop}(h:b∈l.filterMap f)(k:∀a,a∈l->f a=some b->G):G:=ah (List.mem_filterMap.mp h) k
end
section
open PySem (Str)
section
noncomputable def gN(l:List Nat):Nat:=l.foldl (λa c=>a*2097152+c) 1
noncomputable def iz(s:Str):Nat:=gN s.cps.toList
noncomputable def By:Nat->Nat->List Nat->List Nat
 |0,_,acc=>acc
 |f+1,n,acc=>match QJ n 1 with
  |true=>acc
  |false=>By f (n/2097152) ((n%2097152)::acc)
noncomputable def oz(n:Nat):List Nat:=By 200 n []
noncomputable def Fm(s:Str):Bool:=s.cps.toList.all (λc=>Nat.blt c 1114112)&&QJ s.cps.size 190
set_option genCtorIdx false in
inductive Pa where
 |e|a (q:Pa)|b (q:Pa)|c (q:Pa)|d (q:Pa)|f (q:Pa)|g (q:Pa)|h (q:Pa)|i (q:Pa)
set_option genCtorIdx false in
inductive KV where
 |none|bool (b:Bool)|nat (n:Nat)|neg (n:Nat)|str (c:Nat)|nil|cons (x r:KV)|ref (q:Pa)|tok (n:Nat)|fl (xs:KV)
set_option genCtorIdx false in
inductive T(α:Type)where
 |nil|nd (v:Option α) (a b c d f g h i:T α)
set_option genCtorIdx false in
inductive KD where
 |nil|cons (k v:KV) (r:KD)
set_option genCtorIdx false in
inductive KO where
 |list (n:Nat) (xs:KV)|dict (n:Nat) (es:KD)|set (xs:KV)|inst (c:Nat) (fs:T KV)|clo (q:Pa) (cs:KV)|junk (n:Nat)|pd (a m:KD)
structure KS where
 h:T KO
 n:Pa
abbrev En:=T KV
abbrev K0:=KS->Bool
abbrev KT:=KS->KV->Bool
abbrev Cl:=Pa->KV->KT->KS->Bool
abbrev X:=Cl->En->KT->KS->Bool
abbrev Cn:=Cl->En->K0->K0->KS->Bool
structure Fr where
 brk:En->K0
 cont:En->K0
 ret:KT
abbrev Y:=Cl->Fr->(En->K0)->En->KS->Bool
def qs(q:Pa):Pa:=@Pa.rec (λZ=>Pa) (.a .e) (λq Z=>.b q) (λq Z=>.c q) (λq Z=>.d q) (λq Z=>.f q) (λq Z=>.g q) (λq Z=>.h q) (λq Z=>.i q) (λZ r=>.a r) q
def cy:Nat->Pa
 |0=>.e
 |n+1=>qs (cy n)
section
variable{α:Type}
def tv(t:T α):Option α:=@T.rec α (λZ=>Option α) .none (λv Z Z Z Z Z Z Z Z Z Z Z Z Z Z Z Z=>v) t
def OB(r:T α->Option α)(t:T α):Option α:=@T.rec α (λZ=>Option α) .none (λZ a b c d f g h i Z Z Z Z Z Z Z Z=>r a) t
def OA(r:T α->Option α)(t:T α):Option α:=@T.rec α (λZ=>Option α) .none (λZ a b c d f g h i Z Z Z Z Z Z Z Z=>r b) t
def Oz(r:T α->Option α)(t:T α):Option α:=@T.rec α (λZ=>Option α) .none (λZ a b c d f g h i Z Z Z Z Z Z Z Z=>r c) t
def Oy(r:T α->Option α)(t:T α):Option α:=@T.rec α (λZ=>Option α) .none (λZ a b c d f g h i Z Z Z Z Z Z Z Z=>r d) t
def Ox(r:T α->Option α)(t:T α):Option α:=@T.rec α (λZ=>Option α) .none (λZ a b c d f g h i Z Z Z Z Z Z Z Z=>r f) t
def Ow(r:T α->Option α)(t:T α):Option α:=@T.rec α (λZ=>Option α) .none (λZ a b c d f g h i Z Z Z Z Z Z Z Z=>r g) t
def Ou(r:T α->Option α)(t:T α):Option α:=@T.rec α (λZ=>Option α) .none (λZ a b c d f g h i Z Z Z Z Z Z Z Z=>r h) t
def Ot(r:T α->Option α)(t:T α):Option α:=@T.rec α (λZ=>Option α) .none (λZ a b c d f g h i Z Z Z Z Z Z Z Z=>r i) t
def tg(q:Pa):T α->Option α:=@Pa.rec (λzz=>T α->Option α) tv (λzz=>OB) (λzz=>OA) (λzz=>Oz) (λzz=>Oy) (λzz=>Ox) (λzz=>Ow) (λzz=>Ou) (λzz=>Ot) q
def pv(x:α)(t:T α):T α:=@T.rec α (λZ=>T α) (.nd (.some x) .nil .nil .nil .nil .nil .nil .nil .nil) (λZ a b c d f g h i Z Z Z Z Z Z Z Z=>.nd (.some x) a b c d f g h i) t
def Os(r:α->T α->T α)(x:α)(t:T α):T α:=@T.rec α (λZ=>T α) (.nd .none (r x .nil) .nil .nil .nil .nil .nil .nil .nil) (λv a b c d f g h i Z Z Z Z Z Z Z Z=>.nd v (r x a) b c d f g h i) t
def Oq(r:α->T α->T α)(x:α)(t:T α):T α:=@T.rec α (λZ=>T α) (.nd .none .nil (r x .nil) .nil .nil .nil .nil .nil .nil) (λv a b c d f g h i Z Z Z Z Z Z Z Z=>.nd v a (r x b) c d f g h i) t
def Op(r:α->T α->T α)(x:α)(t:T α):T α:=@T.rec α (λZ=>T α) (.nd .none .nil .nil (r x .nil) .nil .nil .nil .nil .nil) (λv a b c d f g h i Z Z Z Z Z Z Z Z=>.nd v a b (r x c) d f g h i) t
def Oo(r:α->T α->T α)(x:α)(t:T α):T α:=@T.rec α (λZ=>T α) (.nd .none .nil .nil .nil (r x .nil) .nil .nil .nil .nil) (λv a b c d f g h i Z Z Z Z Z Z Z Z=>.nd v a b c (r x d) f g h i) t
def On(r:α->T α->T α)(x:α)(t:T α):T α:=@T.rec α (λZ=>T α) (.nd .none .nil .nil .nil .nil (r x .nil) .nil .nil .nil) (λv a b c d f g h i Z Z Z Z Z Z Z Z=>.nd v a b c d (r x f) g h i) t
def Om(r:α->T α->T α)(x:α)(t:T α):T α:=@T.rec α (λZ=>T α) (.nd .none .nil .nil .nil .nil .nil (r x .nil) .nil .nil) (λv a b c d f g h i Z Z Z Z Z Z Z Z=>.nd v a b c d f (r x g) h i) t
def Ol(r:α->T α->T α)(x:α)(t:T α):T α:=@T.rec α (λZ=>T α) (.nd .none .nil .nil .nil .nil .nil .nil (r x .nil) .nil) (λv a b c d f g h i Z Z Z Z Z Z Z Z=>.nd v a b c d f g (r x h) i) t
def Oj(r:α->T α->T α)(x:α)(t:T α):T α:=@T.rec α (λZ=>T α) (.nd .none .nil .nil .nil .nil .nil .nil .nil (r x .nil)) (λv a b c d f g h i Z Z Z Z Z Z Z Z=>.nd v a b c d f g h (r x i)) t
def tp(q:Pa):α->T α->T α:=@Pa.rec (λzz=>α->T α->T α) pv (λzz=>Os) (λzz=>Oq) (λzz=>Op) (λzz=>Oo) (λzz=>On) (λzz=>Om) (λzz=>Ol) (λzz=>Oj) q
def bQ(o:Option α)(z:Bool)(k:α->Bool):Bool:=@Ua α (λzz=>Bool) z k o
end
def aB(b f t:Bool):Bool:=@RJ (λzz=>Bool) f t b
def b9(q:Pa)(s:KS)(k:KO->Bool):Bool:=bQ (tg q s.h) false k
def bD(s:KS)(q:Pa)(o:KO):KS:=⟨tp q o s.h,s.n⟩
def aR(s:KS)(o:KO):KS:=⟨tp s.n o s.h,qs s.n⟩
noncomputable def zB(Z:Bool):Bool:=false
noncomputable def zN(Z:Nat):Bool:=false
noncomputable def zP(Z:Pa):Bool:=false
noncomputable def zC(_ _:KV)(_ _:Bool):Bool:=false
noncomputable def zF(Z:KV)(Z:Bool):Bool:=false
def ig(f:Nat->Bool)(v:KV):Bool:=@KV.rec (λzz=>Bool) false zB f zN zN false zC zP zN zF v
def Fj(f:Nat->Bool)(v:KV):Bool:=@KV.rec (λzz=>Bool) false zB zN zN f false zC zP zN zF v
def eF(f:Pa->Bool)(v:KV):Bool:=@KV.rec (λzz=>Bool) false zB zN zN zN false zC f zN zF v
def ve(b:Bool)(v:KV):Bool:=@KV.rec (λzz=>Bool) b zB zN zN zN false zC zP zN zF v
def DC(f:Bool->Bool)(v:KV):Bool:=@KV.rec (λzz=>Bool) false f zN zN zN false zC zP zN zF v
def Av(f g:Nat->Bool)(v:KV):Bool:=@KV.rec (λzz=>Bool) false zB f g zN false zC zP zN zF v
def gS(z:Bool)(f:KV->KV->Bool)(v:KV):Bool:=@KV.rec (λZ=>Bool) false zB zN zN zN z (λx r Z Z=>f x r) zP zN zF v
def qZ(f:KV->Bool)(g:Pa->Bool)(v:KV):Bool:=@KV.rec (λZ=>Bool) false zB zN zN zN (f .nil) (λx r Z Z=>f (.cons x r)) g zN zF v
def Jz(f:KV->Bool)(v:KV):Bool:=@KV.rec (λZ=>Bool) false zB zN zN zN false zC zP zN (λx Z=>f x) v
def GT(f g:Nat->Bool)(v:KV):Bool:=@KV.rec (λzz=>Bool) false zB f zN zN false zC zP g zF v
def pQ(s:Nat->Bool)(f:KV->Bool)(g:Pa->Bool)(v:KV):Bool:=@KV.rec (λZ=>Bool) false zB zN zN s (f .nil) (λx r Z Z=>f (.cons x r)) g zN zF v
noncomputable def oL(Z:Nat)(Z:KV):Bool:=false
noncomputable def oD(Z:Nat)(Z:KD):Bool:=false
noncomputable def oS(Z:KV):Bool:=false
noncomputable def oI(Z:Nat)(Z:T KV):Bool:=false
noncomputable def oC(Z:Pa)(Z:KV):Bool:=false
noncomputable def oP(_ _:KD):Bool:=false
def iI(f:Nat->KV->Bool)(o:KO):Bool:=@KO.rec (λzz=>Bool) f oD oS oI oC zN oP o
def Cd(f:Nat->KD->Bool)(o:KO):Bool:=@KO.rec (λzz=>Bool) oL f oS oI oC zN oP o
def nM(f:KV->Bool)(o:KO):Bool:=@KO.rec (λzz=>Bool) oL oD f oI oC zN oP o
def kC(f:Nat->T KV->Bool)(o:KO):Bool:=@KO.rec (λzz=>Bool) oL oD oS f oC zN oP o
def Fl(f:Pa->KV->Bool)(o:KO):Bool:=@KO.rec (λzz=>Bool) oL oD oS oI f zN oP o
def Fk(f:Nat->Bool)(o:KO):Bool:=@KO.rec (λzz=>Bool) oL oD oS oI oC f oP o
def tO(f:Nat->KD->Bool)(g:KD->KD->Bool)(o:KO):Bool:=@KO.rec (λzz=>Bool) oL f oS oI oC zN g o
section
variable{α:Type}
def pj(z:α)(f:KV->KV->α->α)(xs:KV):α:=@KV.rec (λZ=>α) z (λZ=>z) (λZ=>z) (λZ=>z) (λZ=>z) z (λx r Z ih=>f x r ih) (λZ=>z) (λZ=>z) (λZ Z=>z) xs
def wR(z:α)(f:KV->KV->α)(xs:KV):α:=pj z (λx r Z=>f x r) xs
end
def len(xs:KV):Nat:=pj 0 (λZ Z n=>QR n) xs
def app(xs ys:KV):KV:=pj ys (λx Z r=>.cons x r) xs
def ng(n:Nat):KV->Option KV:=@SX (λZ=>KV->Option KV) (wR .none (λx Z=>.some x)) (λZ r xs=>wR .none (λZ s=>r s) xs) n
def Ax(n:Nat)(xs:KV)(z:Bool)(k:KV->Bool):Bool:=bQ (ng n xs) z k
def drop(n:Nat):KV->KV:=@SX (λzz=>KV->KV) (λxs=>xs) (λzz r xs=>wR .nil (λzz s=>r s) xs) n
def take(n:Nat):KV->KV:=@SX (λzz=>KV->KV) (λzz=>.nil) (λzz r xs=>wR .nil (λx s=>.cons x (r s)) xs) n
def wF(xs:KV):KV->KV:=pj (λa=>a) (λx Z r a=>r (.cons x a)) xs
def bU(a:KV):KV->Bool:=@KV.rec (λZ=>KV->Bool) (ve true) (λb=>DC (λc=>aB b (aB c true false) c)) (λn=>ig (QB n)) (λn=>Av zN (QB n)) (λn=>Fj (QB n))
 (gS true (λZ Z=>false)) (λZ Z ix ir=>gS false (λy s=>aB (ix y) false (ir s))) (λZ Z=>false) (λZ Z=>false) (λZ ix=>Jz ix) a
def gV(a:KV):Nat->Bool:=@KV.rec (λZ=>Nat->Bool) (λZ=>true) (λZ Z=>false) (λZ Z=>true) (λZ Z=>true) (λZ Z=>true)
 (λn=>QJ 1 n) (λZ Z ix ir n=>@SX (λZ=>Bool) false (λm Z=>aB (ix m) false (ir (QR m))) n) (λZ Z=>false) (λZ Z=>false) (λZ Z Z=>false) a
def eI(a:KV):Nat->Bool:=@KV.rec (λZ=>Nat->Bool) (λZ=>true) (λZ Z=>true) (λZ Z=>true) (λZ Z=>true) (λZ Z=>true)
 (λn=>QJ 1 n) (λZ Z ix ir n=>@SX (λZ=>Bool) false (λm Z=>aB (ix m) false (ir (QR m))) n) (λZ Z=>false) (λZ Z=>false) (λZ ix n=>@SX (λZ=>Bool) false (λm Z=>ix (QR m)) n) a
def pk(a:KV):Bool:=gV a 5
def dl(es:KD)(x:KV):Option KV:=@KD.rec (λZ=>Option KV) .none (λa v Z r=>@RJ (λZ=>Option KV) r (.some v) (bU a x)) es
def cz(es:KD)(x:KV)(z:Bool)(k:KV->Bool):Bool:=bQ (dl es x) z k
def dset(es:KD)(x v:KV):KD:=@KD.rec (λzz=>KD) (.cons x v .nil) (λa w r ih=>@RJ (λzz=>KD) (.cons a w ih) (.cons a v r) (bU a x)) es
set_option genCtorIdx false in
inductive KP where
 |mk (k v:KV)
def Ce(n:Nat):KD->Option KP:=@SX (λZ=>KD->Option KP) (λes=>@KD.rec (λZ=>Option KP) .none (λa b Z Z=>.some (.mk a b)) es) (λZ r es=>@KD.rec (λZ=>Option KP) .none (λZ Z s Z=>r s) es) n
def ph(n:Nat)(es:KD)(z:Bool)(k:KV->KV->Bool):Bool:=@Ua KP (λzz=>Bool) z (λp=>@KP.rec (λzz=>Bool) k p) (Ce n es)
end
end
section
section
noncomputable def xC:X:=λZ Z Z Z=>false
noncomputable def af(v:KV):X:=λZ Z k s=>k s v
def ae(q:Pa):X:=λzz e k s=>bQ (tg q e) false (k s)
noncomputable def ao:X:=λZ Z k s=>k s .nil
noncomputable def ab(x r:X):X:=λc e k s=>x c e (λs v=>r c e (λs vs=>k s (.cons v vs)) s) s
def q7(k:KT)(s:KS)(n:Nat)(xs:KV):Bool:=aB (QJ n 100000) false (k (aR s (.list n xs)) (.ref s.n))
def aK(xs:X):X:=λc e k s=>xs c e (λs vs=>q7 k s (len vs) vs) s
def sg(xs:X):X:=λc e k s=>xs c e (λs vs=>aB (QJ (len vs) 100000) false (k s (.fl vs))) s
def LA:X:=λZ Z k s=>k (aR s (.junk 0)) (.ref s.n)
def bP:X:=λZ Z k s=>k (aR s (.dict 0 .nil)) (.ref s.n)
def IL(sl:Pa)(k:KT):KT:=λs v=>eF (λq=>b9 q s (kC λzz fs=>bQ (tg sl fs) false (k s))) v
def ak(sl:Pa)(o:X):X:=λc e k s=>o c e (IL sl k) s
def E0(sl:Pa)(c0:Nat)(v0:KV)(k:KT):KT:=λs v=>eF (λq=>b9 q s (kC λc fs=>bQ (tg sl fs) (aB (QB c c0) false (k s v0)) (k s))) v
def uH(sl:Pa)(c0:Nat)(v0:KV)(o:X):X:=λc e k s=>o c e (E0 sl c0 v0 k) s
def Fv(c:Nat):KV:=@SK Nat (λZ=>KV) .nil (λc Z r=>.cons (.str (gN [c])) r) (oz c)
def Fw(k:KV->Bool)(l:Nat)(i xs:KV):Bool:=Av (λn=>Ax n xs false k) (λn=>aB (QJ (QR n) l) false (Ax (S9 l (QR n)) xs false k)) i
def Mx(k:KV->Bool)(i:KV)(es:KD):Bool:=aB (pk i) false (cz es i false k)
def vf(f:Nat->KV->Bool)(g:Nat->KD->Bool)(o:KO):Bool:=@KO.rec (λzz=>Bool) f g oS oI oC zN oP o
def r0(s:Nat->Bool)(f:KV->Bool)(g:Pa->Bool)(l:KV->Bool)(v:KV):Bool:=@KV.rec (λZ=>Bool) false zB zN zN s (f .nil) (λx r Z Z=>f (.cons x r)) g zN (λx Z=>l x) v
def Hs(k:KT)(v:KV):KT:=λs i=>r0 (λc=>Fw (k s) (len (Fv c)) i (Fv c)) (λxs=>Fw (k s) (len xs) i xs) (λq=>b9 q s (vf (λn xs=>Fw (k s) n i xs) (λzz es=>Mx (k s) i es))) (λxs=>Fw (k s) (len xs) i xs) v
def aD(o i:X):X:=λc e k s=>o c e (λs v=>i c e (Hs k v) s) s
def JP(s:KS)(f:Nat->KV->Bool)(v:KV):Bool:=@KV.rec (λZ=>Bool) false zB zN zN zN false zC (λq=>b9 q s (iI f)) zN (λxs Z=>f (len xs) xs) v
def u7(v:KV):Bool:=Jz (λzz=>true) v
def N4(k:KT)(s:KS)(u v:KV):Bool:=JP s (λn xs=>JP s (λm ys=>aB (aB (u7 u) false (u7 v)) (q7 k s (Nat.add n m) (app xs ys)) (aB (QJ (Nat.add n m) 100000) false (k s (.fl (app xs ys))))) v) u
def LE(k:KT)(s:KS)(v:KV)(n:Nat):Bool:=aB (QB n 0) false (ig (λzz=>k s (.tok 0)) v)
def c9(k:KT)(u:KV):KT:=λs v=>@KV.rec (λZ=>Bool) false zB (λa=>ig (λb=>k s (.nat (Nat.add a b))) v) zN zN false zC (λZ=>N4 k s u v) (LE k s v) (λZ Z=>N4 k s u v) u
def q9(k:KT)(u:KV):KT:=λs v=>GT (λa=>ig (λb=>aB (QJ b a) (k s (.neg (S9 b (QR a)))) (k s (.nat (S9 a b)))) v) (LE k s v) u
def Ht(k:KT)(u:KV):KT:=λs v=>ig (λa=>ig (λb=>aB (QJ a 1000000) false (k s (.nat (Nat.mul a b)))) v) u
def dG(k:KT)(u:KV):KT:=λs v=>ig (λb=>aB (QB b 0) (Av (λa=>k s (.nat (Nat.mod a b))) (λa=>k s (.nat (S9 b (QR (Nat.mod a b))))) u) false) v
def sA(k:KT)(u:KV):KT:=λs v=>ig (λb=>aB (QB b 0) (aB (QJ b 1000000) false (ig (λa=>k s (.nat (Nat.div a b))) u)) false) v
def Mw(k:KT)(u:KV):KT:=λs v=>ig (λa=>ig (λb=>aB (QB a 10) false (aB (QB b 20) false (k s (.nat 100000000000000000000)))) v) u
noncomputable def aW(op:KT->KV->KT)(a b:X):X:=λc e k s=>a c e (λs u=>b c e (op k u) s) s
def JU(k:KT):KT:=λs v=>Av (λn=>@SX (λZ=>Bool) (k s (.nat 0)) (λm Z=>k s (.neg m)) n) (λn=>k s (.nat (QR n))) v
def dS(a:X):X:=λc e k s=>a c e (JU k) s
def Fd(t f:K0)(s:KS)(b:Bool):Bool:=aB b (f s) (t s)
def Nt(t f:K0)(s:KS)(o:KO):Bool:=@KO.rec (λZ=>Bool) (λn Z=>aB (QB n 0) (t s) (f s)) (λn Z=>aB (QB n 0) (t s) (f s)) oS (λc Z=>aB (QB c 2) false (t s)) oC zN oP o
def Hr(t f:K0):KT:=λs v=>@KV.rec (λZ=>Bool) (f s) (λb=>aB b (f s) (t s)) (λn=>aB (QB n 0) (t s) (f s)) (λZ=>t s) (λn=>aB (QB n 1) (t s) (f s)) (f s) (λZ Z Z Z=>t s) (λq=>b9 q s (Nt t f s)) zN zF v
noncomputable def KB:Cn:=λZ Z Z Z Z=>false
def cT(x:X):Cn:=λc e t f s=>x c e (Hr t f) s
noncomputable def fL(a:Cn):Cn:=λc e t f s=>a c e f t s
noncomputable def gh(a b:Cn):Cn:=λc e t f s=>a c e (b c e t f) f s
noncomputable def k8(a b:Cn):Cn:=λc e t f s=>a c e t (b c e t f) s
noncomputable def KA(d a b:Cn):Cn:=λc e t f s=>d c e (a c e t f) (b c e t f) s
noncomputable def dz(a:Cn):X:=λc e k s=>a c e (λs=>k s (.bool true)) (λs=>k s (.bool false)) s
def xD(a b:X):X:=λc e k s=>a c e (λs v=>Hr (b c e k) (λs=>k s v) s v) s
def IY(a b:X):X:=λc e k s=>a c e (λs v=>Hr (λs=>k s v) (b c e k) s v) s
noncomputable def dQ(d:Cn)(a b:X):X:=λc e k s=>d c e (a c e k) (b c e k) s
def Hv(t f:K0):KT:=λs v=>@KV.rec (λZ=>Bool) (t s) (λZ=>f s) (λZ=>f s) (λZ=>f s) (λZ=>f s) (f s) (λZ Z Z Z=>f s) (λZ=>f s) zN (λZ Z=>f s) v
def iq(x:X):Cn:=λc e t f s=>x c e (Hv t f) s
def EE(x:X):Cn:=λc e t f s=>x c e (Hv f t) s
def Pv(v w:KV)(t f:K0)(s:KS):Bool:=aB (pk v) false (aB (pk w) false (Fd t f s (bU v w)))
def Cm(v w:KV)(t f:K0)(s:KS):Bool:=aB (aB (pk v) false (pk w)) (aB (eI v 60) false (aB (bU v w) false (t s))) (Fd t f s (bU v w))
def Pu(w:KV)(t f:K0)(s:KS)(q:Pa):Bool:=eF (λr=>b9 q s (iI λzz xs=>b9 r s (iI λzz ys=>Pv xs ys t f s))) w
def d7(v:KV)(t f:K0):KT:=λs w=>@KV.rec (λZ=>Bool) (Cm v w t f s) zB (λZ=>Cm v w t f s) (λZ=>Cm v w t f s) (λZ=>Cm v w t f s) (Cm v w t f s) (λZ Z Z Z=>Cm v w t f s) (Pu w t f s) zN zF v
def Mo(v w:KV)(t f:K0)(s:KS):Bool:=@KV.rec (λzz=>Bool) false zB (λa=>Av (λb=>Fd t f s (QJ (QR a) b)) (λzz=>f s) w) (λa=>Av (λzz=>t s) (λb=>Fd t f s (QJ (QR b) a)) w) zN false zC zP zN zF v
def jm(v:KV)(t f:K0):KT:=λs w=>Mo v w t f s
def su(v:KV)(t f:K0):KT:=λs w=>Mo w v t f s
def uz(xs:KV):Bool:=pj true (λy Z r=>aB (pk y) false r) xs
def mem(v xs:KV):Bool:=pj false (λy Z r=>aB (bU y v) r true) xs
def Po(v:KV)(t f:K0)(s:KS)(o:KO):Bool:=@KO.rec (λZ=>Bool) (λZ xs=>aB (uz xs) false (aB (pk v) false (Fd t f s (mem v xs)))) (λZ es=>aB (pk v) false (cz es v (f s) (λZ=>t s))) (λxs=>gS (Fj (λZ=>f s) v) (λZ Z=>false) xs) oI oC zN oP o
def gT(v:KV)(t f:K0):KT:=λs w=>eF (λq=>b9 q s (Po v t f s)) w
def jG(v:KV)(t f:K0):KT:=d7 v f t
def Li(v:KV)(t f:K0):KT:=su v f t
def JV(v:KV)(t f:K0):KT:=jm v f t
def k7(v:KV)(t f:K0):KT:=gT v f t
noncomputable def aw(op:KV->K0->K0->KT)(a b:X):Cn:=λc e t f s=>a c e (λs v=>b c e (op v t f) s) s
def uu(cs:List Nat)(a:X):Cn:=λc e t f s=>a c e (λs v=>Fj (λd=>aB (QB (Nat.div d 2097152) 1) false (Fd t f s (@SK Nat (λZ=>Bool) false (λx Z r=>aB (QB x d) r true) cs))) v) s
noncomputable def bf(q:Pa)(args:X):X:=λc e k s=>args c e (λs vs=>c q vs k s) s
def qA(c0:Nat)(q:Pa)(args:X):X:=λc e k s=>args c e (λs vs=>c q (.cons (.ref s.n) vs) (λs' v=>ve (k s' (.ref s.n)) v) (aR s (.inst c0 .nil))) s
def qB(f args:X):X:=λc e k s=>f c e (λs v=>args c e (λs vs=>eF (λq=>b9 q s (Fl λq cs=>c q (app vs cs) k s)) v) s) s
def bH(c0:Nat)(q:Pa)(o args:X):X:=λc e k s=>o c e (λs v=>eF (λp=>b9 p s (kC λc1 Z=>aB (QB c1 c0) false (args c e (λs vs=>c q (.cons v vs) k s) s))) v) s
def NX(k:KT):KT:=λs v=>ig (λn=>aB (QJ n 100000) false (k s (.nat n))) v
def Ms(c0:Nat)(p:Pa)(c:Cl)(k:KT)(s:KS)(q:Pa)(o:KO):Bool:=@KO.rec (λZ=>Bool) (λn Z=>k s (.nat n)) oD (λxs=>gS (k s (.nat 0)) (λZ Z=>false) xs) (λc1 Z=>aB (QB c1 c0) false (c p (.cons (.ref q) .nil) (NX k) s)) oC zN oP o
def dw(c0:Nat)(p:Pa)(a:X):X:=λc e k s=>a c e (λs v=>pQ (λd=>k s (.nat (len (Fv d)))) (λxs=>k s (.nat (len xs))) (λq=>b9 q s (Ms c0 p c k s q)) v) s
def sB(a:X):X:=λc e k s=>a c e (λs v=>eF (λq=>b9 q s (iI λzz xs=>k s xs)) v) s
def yL(a:X):X:=λc e k s=>a c e (λs v=>qZ (λxs=>q7 k s (len xs) xs) (λq=>b9 q s (iI (q7 k s))) v) s
def Cw:X:=λZ Z k s=>k (aR s (.set .nil)) (.ref s.n)
def Hu(k:KT)(u:KV):KT:=λs v=>ig (λa=>ig (λb=>k s (.nat (@RJ (λzz=>Nat) a b (QJ (QR b) a)))) v) u
def KE(xs:KV)(k:Bool->Bool):Bool:=pj (λb k=>k b) (λx Z r b k=>DC (λd=>r (aB d false b) k) x) xs true k
def G7(a:X):X:=λc e k s=>a c e (λs v=>eF (λq=>b9 q s (iI λzz xs=>KE xs λb=>k s (.bool b))) v) s
def cX(o x:X):X:=λc e k s=>o c e (λs v=>eF (λq=>b9 q s (iI λZ Z=>x c e (λs w=>b9 q s (iI λn xs=>aB (QJ (QR n) 100000) false (k (bD s q (.list (QR n) (app xs (.cons w .nil)))) .none))) s)) v) s
def G6(o x:X):X:=λc e k s=>o c e (λs v=>eF (λq=>b9 q s (Fk λZ=>x c e (λs Z=>b9 q s (Fk λn=>aB (QJ (QR n) 100000) false (k (bD s q (.junk (QR n))) .none))) s)) v) s
noncomputable def dflt:KV:=.cons (.str 40567024288966772448377926844532) (.cons (.nat 0) .nil)
def yz(k:KT)(s:KS)(q:Pa)(i d:KV):Bool:=b9 q s (tO (λzz es=>aB (pk i) false (cz es i (k s d) (k s))) (λa m=>aB (pk i) false (cz a i (cz m i (k s d) (λv=>aB (bU d dflt) false (k s v))) (k s))))
def ka(o i:X):X:=λc e k s=>o c e (λs v=>eF (λq=>b9 q s (tO (λZ Z=>i c e (λs i=>yz k s q i .none) s) (λZ Z=>i c e (λs i=>yz k s q i .none) s))) v) s
def gj(o i d:X):X:=λc e k s=>o c e (λs v=>eF (λq=>b9 q s (tO (λZ Z=>i c e (λs i=>d c e (λs d=>yz k s q i d) s) s) (λZ Z=>i c e (λs i=>d c e (λs d=>yz k s q i d) s) s))) v) s
def kX(o:X):X:=λc e k s=>o c e (λs v=>eF (λq=>b9 q s (iI λn xs=>@SX (λZ=>Bool) false (λm Z=>Ax m xs false (k (bD s q (.list m (take m xs))))) n)) v) s
def mW(o:X):X:=λc e k s=>o c e (λs v=>eF (λq=>b9 q s (iI λn xs=>gS false (λx r=>k (bD s q (.list (Nat.pred n) r)) x) xs)) v) s
def Hz(k:KT)(s:KS)(q:Pa)(i w:KV):Bool:=b9 q s (iI λn xs=>aB (QJ (QR n) 100000) false (ig (λi=>aB (QJ i n) false (k (bD s q (.list (QR n) (app (take i xs) (.cons w (drop i xs))))) .none)) i))
def xB(o i x:X):X:=λc e k s=>o c e (λs v=>eF (λq=>b9 q s (iI λZ Z=>i c e (λs i=>x c e (λs w=>Hz k s q i w) s) s)) v) s
def sC(o x:X):X:=λc e k s=>o c e (λs v=>eF (λq=>b9 q s (nM λzz=>x c e (λs w=>b9 q s (nM λxs=>Fj (λd=>aB (QJ (len xs) 1000) false (k (bD s q (.set (.cons (.str d) xs))) .none)) w)) s)) v) s
noncomputable def kB(c:Nat):Bool:=QJ 32 c&&Nat.blt c 127&&!QB c 39&&!QB c 92
noncomputable def qT(c:Nat):Option (List Nat):=match(oz c).all kB with
 |true=>some (39::(oz c++[39]))
 |false=>none
noncomputable def jH(sep:List Nat):List (List Nat)->List Nat
 |[]=>[]
 |[x]=>x
 |x::r=>x++sep++jH sep r
noncomputable def l7(g:Nat->Option (List Nat)):KV->Option (List (List Nat))
 |.nil=>some []
 |.cons (.str c) r=>match g c,l7 g r with
  |some x,some xs=>some (x::xs)
  |_,_=>none
 |_=>none
noncomputable def OJ(l:List Nat):Bool:=QJ l.length 190&&l.all (λc=>Nat.blt c 1114112)
def JH(k:KV->Bool)(l:List Nat):Bool:=aB (OJ l) false (k (.str (gN l)))
def Jy(o:Option (List (List Nat)))(k:List (List Nat)->Bool):Bool:=@Ua _ (λzz=>Bool) false k o
def w4(sep:Nat)(x:X):X:=λc e k s=>x c e (λs v=>aB (QJ (len v) 1000) false (Jy (l7 (λc=>some (oz c)) v) λys=>JH (k s) (jH (oz sep) ys))) s
def Pn(k:KT):KT:=λs v=>@KV.rec (λzz=>Bool) false zB zN zN (λc=>k s (.str c)) false zC (λq=>b9 q s (iI λzz xs=>Jy (l7 qT xs) λys=>JH (k s) (91::(jH [44,32] ys++[93])))) zN zF v
def sE(x:X):X:=λc e k s=>x c e (Pn k) s
def iO(x r:X):X:=λc e k s=>x c e (λs v=>Fj (λzz=>r c e (λs vs=>k s (.cons v vs)) s) v) s
def sD(xs:X):X:=λc e k s=>xs c e (λs vs=>Jy (l7 (λc=>some (oz c)) vs) λl=>JH (k s) l.flatten) s
def yM(o:X):X:=λc e k s=>o c e (λs v=>JP s (q7 k s) v) s
def kb(o i:X):X:=λc e k s=>o c e (λs v=>i c e (λs i=>ig (λi=>qZ (λxs=>aB (QJ 1 i) false (aB (QJ i (len xs)) false (k s (drop i xs)))) (λq=>b9 q s (iI λn xs=>q7 k s (S9 n i) (drop i xs))) v) i) s) s
def Cv(o i:X):X:=λc e k s=>o c e (λs v=>i c e (λs i=>ig (λi=>JP s (λn xs=>q7 k s (@RJ (λzz=>Nat) n i (QJ i n)) (take i xs)) v) i) s) s
set_option genCtorIdx false in
inductive KI where
 |seq (xs:KV)|list (q:Pa) (i:Nat)|dict (q:Pa) (i n:Nat)|items (q:Pa) (i n:Nat)|enum (k:Nat) (it:KI)
abbrev NT:=KS->Bool->(KV->KI->Bool)->Bool
def iR(it:KI):NT:=@KI.rec (λZ=>NT)
 (λxs Z z k=>gS z (λx r=>k x (.seq r)) xs)
 (λq i s z k=>b9 q s (iI λZ xs=>Ax i xs z λx=>k x (.list q (QR i))))
 (λq i n s z k=>b9 q s (Cd λm es=>aB (QB m n) false (ph i es z λx Z=>k x (.dict q (QR i) n))))
 (λq i n s z k=>b9 q s (Cd λm es=>aB (QB m n) false (ph i es z λx y=>k (.cons x (.cons y .nil)) (.items q (QR i) n))))
 (λj Z ih s z k=>ih s z λx it=>k (.cons (.nat j) (.cons x .nil)) (.enum (QR j) it)) it
abbrev XI:=Cl->En->(KI->KS->Bool)->KS->Bool
noncomputable def MA:XI:=λZ Z Z Z=>false
def aV(x:X):XI:=λc e k s=>x c e (λs v=>pQ (λd=>k (.seq (Fv d)) s) (λxs=>k (.seq xs) s) (λq=>b9 q s (vf (λZ Z=>k (.list q 0) s) (λn Z=>k (.dict q 0 n) s))) v) s
def qf(x:X):XI:=λc e k s=>x c e (λs v=>qZ (λxs=>k (.enum 0 (.seq xs)) s) (λq=>b9 q s (iI λZ Z=>k (.enum 0 (.list q 0)) s)) v) s
def vo(x:X):XI:=λc e k s=>x c e (λs v=>eF (λq=>b9 q s (Cd λn Z=>k (.items q 0 n) s)) v) s
noncomputable def rg(n:Nat):Nat->KV:=@SX (λzz=>Nat->KV) (λzz=>.nil) (λzz r a=>.cons (.nat a) (r (QR a))) n
def IK(k:KI->KS->Bool)(s:KS)(a b:Nat):Bool:=aB (QJ b 5000) false (aB (QJ a 5000) false (k (.seq (rg (S9 b a) a)) s))
def wZ(x:X):XI:=λc e k s=>x c e (λs v=>ig (λb=>IK k s 0 b) v) s
def wY(x y:X):XI:=λc e k s=>x c e (λs u=>y c e (λs v=>ig (λa=>ig (λb=>IK k s a b) v) u) s) s
abbrev Tg:=KV->En->(En->Bool)->Bool
def t1(q:Pa):Tg:=λv e k=>k (tp q v e)
def tN:Tg:=λv e k=>gS (k e) (λZ Z=>false) v
def tC(a r:Tg):Tg:=λv e k=>gS false (λx s=>a x e λe=>r s e k) v
def kP(vs:KV):Pa->En->(En->Bool)->Bool:=pj (λZ e k=>k e) (λx Z r q e k=>r (qs q) (tp q x e) k) vs
noncomputable def lN:Nat:=5000
abbrev CY:=KI->En->KV->KS->Bool
def Ku{β:Type}(tg:Tg)(test:Cn)(put:Cl->En->(β->K0)->β->K0)(c:Cl)(k:β->K0)(n:Nat):KI->En->β->K0:=@SX (λZ=>KI->En->β->K0) (λZ Z Z Z=>false)
 (λZ ih it e a s=>iR it s (k a s) λv it=>tg v e λe=>test c e (put c e (ih it e) a) (ih it e a) s) n
noncomputable def pL(elt:X)(c:Cl)(e:En)(k:KV->K0)(acc:KV):K0:=elt c e λs w=>k (.cons w acc) s
def IO(tg:Tg)(elt:X)(test:Cn)(c:Cl)(k:KS->KV->Bool)(n:Nat):CY:=Ku tg test (pL elt) c (λacc s=>k s (wF acc .nil)) n
def mY(it:XI)(caps:X)(tg:Tg)(elt:X)(test:Cn):X:=λc e k s=>it c e (λit s=>caps c e (λs cs=>kP cs .e .nil λe=>IO tg elt test c (λs xs=>q7 k s (len xs) xs) lN it e .nil s) s) s
def Br(vs:KV):Option KV->Nat->KD->(Nat->KD->Bool)->Bool:=@pj (Option KV->Nat->KD->(Nat->KD->Bool)->Bool) (λZ n d k=>k n d)
 (λx Z r p n d k=>@Ua KV (λZ=>Bool) (r (.some x) n d k) (λa=>aB (pk a) false (cz d a (r .none (QR n) (dset d a x) k) (λZ=>r .none n (dset d a x) k))) p) vs
def w5(xs:X):X:=λc e k s=>xs c e (λs' vs=>b9 s.n s' (Cd λn0 d0=>aB (QJ n0 0) false (Br vs .none n0 d0 λn d=>k (bD s' s.n (.dict n d)) (.ref s.n)))) (aR s (.dict 0 .nil))
noncomputable def iZ:Cn:=λZ Z t Z s=>t s
def xA(q:Pa)(caps:X):X:=λc e k s=>caps c e (λs cs=>k (aR s (.clo q cs)) (.ref s.n)) s
noncomputable def fc:Y:=λZ Z Z Z Z=>false
noncomputable def aY(x:X):Y:=λc F k e s=>x c e (λs Z=>k e s) s
noncomputable def av(tg:Tg)(x:X):Y:=λc F k e s=>x c e (λs v=>tg v e λe=>k e s) s
def uZ(sl:Pa)(k:K0)(s:KS)(w v:KV):Bool:=eF (λq=>b9 q s (kC λc fs=>k (bD s q (.inst c (tp sl v fs))))) w
def cg(sl:Pa)(o x:X):Y:=λc F k e s=>x c e (λs v=>o c e (λs w=>uZ sl (k e) s w v) s) s
def Jl(k:K0)(s:KS)(q:Pa)(i v:KV)(n:Nat)(es:KD):Bool:=aB (pk i) false (aB (QJ (QR n) 100000) false (cz es i (k (bD s q (.dict (QR n) (dset es i v)))) (λzz=>k (bD s q (.dict n (dset es i v))))))
def LR(k:K0)(s:KS)(q:Pa)(i v:KV)(n:Nat)(xs:KV):Bool:=ig (λj=>aB (QJ (QR j) n) false (k (bD s q (.list n (app (take j xs) (.cons v (drop (QR j) xs))))))) i
def Jk(k:K0)(s:KS)(w i v:KV):Bool:=eF (λq=>b9 q s (vf (LR k s q i v) (Jl k s q i v))) w
def pD(kx vx:X)(c:Cl)(e:En)(k:Pa->K0)(q:Pa):K0:=kx c e λs a=>vx c e (λs w=>b9 q s (Cd λn es=>Jl (k q) s q a w n es)) s
def uG(it:XI)(caps:X)(tg:Tg)(kx vx:X)(test:Cn):X:=λc e k s=>it c e (λit s=>caps c e (λs cs=>kP cs .e .nil λe=>Ku tg test (pD kx vx) c (λq s=>k s (.ref q)) lN it e s.n (aR s (.dict 0 .nil))) s) s
def bV(o i x:X):Y:=λc F k e s=>x c e (λs v=>o c e (λs w=>i c e (λs i=>Jk (k e) s w i v) s) s) s
def uF(q:Pa)(op:KT->KV->KT)(x:X):Y:=λc F k e s=>bQ (tg q e) false λu=>ig (λzz=>x c e (op (λs r=>k (tp q r e) s) u) s) u
def md(rd:KT->KT)(sl:Pa)(op:KT->KV->KT)(o x:X):Y:=λc F k e s=>o c e (λs w=>rd (λs u=>GT (λzz=>x c e (op (λs r=>uZ sl (k e) s w r) u) s) (λzz=>x c e (op (λs r=>uZ sl (k e) s w r) u) s) u) s w) s
def yH(o:X):Y:=λc F k e s=>o c e (λs v=>eF (λq=>b9 q s (iI λn xs=>aB (QJ 2 n) false (k e (bD s q (.list (S9 n 2) (take (S9 n 2) xs)))))) v) s
def CJ(f:Nat->Bool)(v:KV):Bool:=@KV.rec (λzz=>Bool) false zB zN zN zN false zC zP f zF v
def eV(q:Pa)(e:En)(f:KV->Bool):Bool:=bQ (tg q e) false f
noncomputable def Bl(r a j n:Nat):Nat:=Nat.add 12 (Nat.add (Nat.mul (Nat.add (Nat.mul (Nat.add (Nat.mul r 8) a) 64) j) 64) n)
def Mn(l:Nat)(k:Nat->Bool):Bool:=aB (QB l (Nat.add 3 (Nat.mul 2 (Nat.div (S9 l 3) 2)))) false (aB (QJ l 11) false (k (Nat.div (S9 l 3) 2)))
def MR(la lr wr j n:Nat)(k:KV->Bool):Bool:=aB (QB lr (QR wr)) false (Mn la λa=>Mn lr λr=>aB (QJ j 63) false (aB (QJ n 63) false (k (.tok (Bl r a j n)))))
def I5(e:En)(j n:Nat)(k:KV->Bool):Bool:=eV (.a (.b .e)) e (CJ λla=>eV (.c (.b .e)) e (CJ λlr=>eV (.b (.b .e)) e (CJ λwr=>MR la lr wr j n k)))
def AQ(sr rd:Pa)(e:En)(s:KS)(m:Nat)(k:Pa->Nat->Bool):Bool:=eV .e e (eF λq0=>b9 q0 s (kC λzz fs=>bQ (tg sr fs) false (eF λq3=>b9 q3 s (Fk λjn=>aB (QJ (QR jn) 100000) false (
 eV (.a .e) e (eF λq4=>b9 q4 s (iI λzz ps=>Ax m ps false (eF λq5=>b9 q5 s (kC λzz f5=>bQ (tg rd f5) false (CJ λt=>aB (QB t 0) false (k q3 jn)))))))))))
def I0(e:En)(s:KS)(k:Pa->Nat->KD->KV->KV->Pa->Nat->KD->Pa->Bool):Bool:=eV (.a (.a .e)) e (eF λq1=>b9 q1 s (Cd λm1 es=>eV (.g (.a .e)) e λva=>aB (pk va) false (cz es va false λcur=>eV (.b (.a .e)) e (eF λq2=>b9 q2 s (Cd λm2 es2=>cz es2 va false (eF λqo=>eV (.h .e) e λzz=>aB (QJ (QR m1) 100000) false (aB (QJ (QR m2) 100000) false (k q1 m1 es va cur q2 m2 es2 qo))))))))
def vE(s:KS)(q1:Pa)(m1:Nat)(es:KD)(va t:KV)(q2:Pa)(m2:Nat)(es2:KD)(q3:Pa)(jn:Nat):KS:=bD (bD (bD s q1 (.dict m1 (dset es va t))) q2 (.dict m2 (dset es2 va (.tok 1)))) q3 (.junk (QR jn))
def yJ(num sr rd:Pa):Y:=λc F k e s=>I0 e s λq1 m1 es va cur q2 m2 es2 qo=>ig (λj=>eV (.d (.a .e)) e (eF λqp=>b9 qp s (kC λzz fs=>bQ (tg num fs) false (ig λn=>aB (QJ 1 n) false (AQ sr rd e s n λq3 jn=>I5 e j n λt=>k e (vE s q1 m1 es va t q2 m2 es2 q3 jn)))))) cur
def yI(num sr rd jq:Pa):Y:=λc F k e s=>I0 e s λq1 m1 es va cur q2 m2 es2 qo=>Av zN (λn=>eV jq e (ig λj=>eV (.d (.a .e)) e (eF λzz=>b9 qo s (kC λzz fs=>bQ (tg num fs) false (ig λm=>AQ sr rd e s m λq3 jn=>I5 e j (QR n) λt=>k e (vE s q1 m1 es va t q2 m2 es2 q3 jn)))))) cur
noncomputable def bw(d:Cn)(a b:Y):Y:=λc F k e s=>d c e (a c F k e) (b c F k e) s
noncomputable def bT(x:X):Y:=λc F Z e s=>x c e F.ret s
noncomputable def F1:Y:=λZ F Z Z s=>F.ret s .none
noncomputable def mU:Y:=λZ F Z e s=>F.brk e s
noncomputable def iB:Y:=λZ F Z e s=>F.cont e s
noncomputable def aa:Y:=λZ Z k e s=>k e s
noncomputable def ad(a b:Y):Y:=λc F k e s=>a c F (b c F k) e s
noncomputable def yK(d:Cn):Y:=λc F k e s=>d c e (k e) (λzz=>false) s
def JO(tg:Tg)(b o:Y)(c:Cl)(F:Fr)(k:En->K0)(n:Nat):KI->En->KS->Bool:=@SX (λZ=>KI->En->KS->Bool) (λZ Z Z=>false)
 (λZ ih it e s=>iR it s (o c F k e s) λv it=>tg v e λe=>b c ⟨k,ih it,F.ret⟩ (ih it) e s) n
def bW(it:XI)(tg:Tg)(b o:Y):Y:=λc F k e s=>it c e (λit s=>JO tg b o c F k lN it e s) s
noncomputable def J0(d:Cn)(b o:Y)(c:Cl)(F:Fr)(k:En->K0)(n:Nat):En->KS->Bool:=@SX (λZ=>En->KS->Bool) (λZ Z=>false)
 (λZ ih e s=>d c e (b c ⟨k,ih,F.ret⟩ ih e) (o c F k e) s) n
noncomputable def dB(d:Cn)(b o:Y):Y:=λc F k e s=>J0 d b o c F k lN e s
noncomputable def Lq:Nat:=0
noncomputable def Lr:Nat:=1
abbrev PX:=Cl->En->KS->(KV->Bool)->(Nat->Bool)->Bool
noncomputable def pX(x:X):PX:=λc e s k Z=>x c e (λZ v=>k v) s
def Dz(k:KV->Bool)(r:Nat->Bool)(l:Nat)(i xs:KV):Bool:=Av (λn=>aB (QJ n 1000000000) false (Ax n xs (r Lr) k)) (λn=>aB (QJ (QR n) 1000000000) false (aB (QJ (QR n) l) (r Lr) (Ax (S9 l (QR n)) xs false k))) i
def vb(o i:PX):PX:=λc e s k r=>o c e s (λv=>i c e s (λi=>qZ (λxs=>Dz k r (len xs) i xs) (λq=>b9 q s (vf (λn xs=>Dz k r n i xs) (λzz es=>aB (pk i) false (cz es i (r Lq) k)))) v) r) r
def yG(p:PX)(ks:List Nat)(b h:Y):Y:=λc F k e s=>p c e s (λzz=>b c F k e s) (λx=>aB (ks.any (QB x)) false (h c F k e s))
set_option genCtorIdx false in
inductive Code where
 |fn (np:Nat) (ds:KV) (y:Y)
 |lam (np:Nat) (x:X)
def IR(c:Cl)(vs:KV)(k:KT)(s:KS)(np:Nat)(ds:KV)(y:Y):Bool:=aB (QJ (len vs) np) false (aB (QJ (S9 np (len vs)) (len ds)) false (kP (app vs (drop (S9 (len ds) (S9 np (len vs))) ds)) .e .nil λe=>y c ⟨λZ Z=>false,λZ Z=>false,k⟩ (λZ s=>k s .none) e s))
def Oc(c:Cl)(vs:KV)(k:KT)(s:KS)(np:Nat)(x:X):Bool:=aB (QB (len vs) np) false (kP vs .e .nil λe=>x c e k s)
def aL(tab:T Code)(d:Nat):Cl:=@SX (λZ=>Cl) (λZ Z Z Z=>false) (λZ ih q vs k s=>bQ (tg q tab) false λf=>@Code.rec (λZ=>Bool) (IR ih vs k s) (Oc ih vs k s) f) d
end
end
section
open PySem PySem.W PyProof.Rows
section
section
def yy(s:Str):Prop:=(∀c∈s.cps.toList,c<1114112)∧s.cps.size≤190
theorem r6{s:Str}(h:Fm s=true):yy s:=by
 refine jB h ?_;intro a b;exact⟨λc hc=>QA (Rl.mp a c hc),QA b⟩
noncomputable def gz:List Nat->Nat
 |[]=>1
 |c::r=>gz r*2097152+c
theorem ou(l:List Nat):gN l=gz l.reverse:=by
 unfold gN;refine rwl List.foldr_reverse ?_;generalize l.reverse=m;induction m with
 |nil=>rfl
 |cons c r ih=>simp only[List.foldr_cons,gz,ih]
theorem oq(l:List Nat):1≤gz l:=by
 induction l with
 |nil=>exact QZ 1
 |cons c r ih=>simp only[gz];lia
theorem yk(m:List Nat):∀(f:Nat)(acc:List Nat),(∀c∈m,c<2097152)->m.length≤f->By f (gz m) acc=m.reverse++acc:=by
 induction m with
 |nil=>intro f acc _ _;cases f<;>rfl
 |cons c r ih=>
  intro f acc hc h;cases f with
  |zero=>simp at h
  |succ f=>
   have h1:=oq r;have h0:=hc c QF;have e:QJ (gz (c::r)) 1=false:=by rw[←Bool.not_eq_true];intro q;have:=QA q;rw[gz]at this;lia
   have e1:gz (c::r)/2097152=gz r:=by rw[gz];lia
   have e2:gz (c::r)%2097152=c:=by rw[gz];simp_all+arith
   rw[By,e,e1,e2];show By f (gz r) (c::acc)=_;rw[ih f _ (λx hx=>hc x (QI _ hx)) (by simpa using h)];simp
theorem Bx(l:List Nat)(hc:∀c∈l,c<2097152)(hl:l.length≤200):oz (gN l)=l:=by
 unfold oz;rw[ou,yk _ _ _ (λc h=>hc c (List.mem_reverse.mp h)) (by simpa using hl)];simp
theorem fA{s:Str}(ok:yy s):oz (iz s)=s.cps.toList:=
 Bx _ (λc h=>Nat.lt_trans (ok.1 c h) (by decide)) (by have:=ok.2;refine rwr QL ?_;lia)
theorem xk{s t:Str}(hs:yy s)(ht:yy t)(h:iz s=iz t):s=t:=by
 have e:=(fA hs).symm.trans ((congrArg oz h).trans (fA ht));obtain⟨⟨a⟩⟩:=s;obtain⟨⟨b⟩⟩:=t;simp only at e;exact rwr e rfl
noncomputable def GH(c:Nat):Str:=⟨(oz c).toArray⟩
theorem mu{s:Str}(hs:yy s):GH (iz s)=s:=by unfold GH;exact rwr (fA hs) rfl
structure iu where
 fst:Ri
 snd:Ri
 cs:List Ri
structure Cx where
 prog:Tj
 w:U5
 K:Frag
 h₀:SG
 fnAt:Pa->Option Ri
 clsAt:Nat->Option Ri
 sl:Str->Option Pa
 lam:Pa->Option (Se×Qz×Tp)
 asg:Str->Bool
 vol:List Ri
 volQ:Ri->Str
 g:Array UQ
 d:Drawn
 os:OsState
 tk:Nat->KV
structure Wd where
 ρ:Pa->Option iu
 h:SG
 fz:Ri->Prop
variable{C:Cx}{R R' R'':Wd}
def pP(v:QD):KV->Prop
 |.none=>v=.none
 |.nat n=>∃t,v=.int n t
 |.neg n=>∃t,v=.int (.negSucc n) t
 |.str c=>∃s t,v=.str s t∧iz s=c∧yy s
 |_=>False
def TK(C:Cx)(v:QD):Nat->Prop
 |0=>∃i t,v=.int i t
 |1=>handedIn v=true
 |n+2=>pP v (C.tk n)
noncomputable def ii(vs:Array QD)(k:Nat):Obj:={cls:=.type "list",data:=.seq vs k}
noncomputable def Cr(C:Cx)(R:Wd):KV->(QD->Prop)×(List QD->Prop)
 |.none=>(λv=>v=.none,λzz=>False)
 |.bool b=>(λv=>v=.bool b,λzz=>False)
 |.nat n=>(λv=>∃t,v=.int n t,λzz=>False)
 |.neg n=>(λv=>∃t,v=.int (.negSucc n) t,λzz=>False)
 |.str c=>(λv=>∃s t,v=.str s t∧iz s=c∧yy s,λzz=>False)
 |.nil=>(λv=>∃a,v=.ref a∧R.h.IsTuple a #[],λvs=>vs=[])
 |.cons x r=>(λv=>∃a u us,v=.ref a∧R.h.IsTuple a (u::us).toArray∧(Cr C R x).1 u∧(Cr C R r).2 us∧(u::us).length≤100000,λvs=>∃u us,vs=u::us∧(Cr C R x).1 u∧(Cr C R r).2 us)
 |.ref q=>(λv=>∃p,R.ρ q=some p∧v=.ref p.1,λzz=>False)
 |.tok n=>(λv=>TK C v n,λzz=>False)
 |.fl x=>(λv=>∃a vs k,v=.ref a∧R.fz a∧R.h.get? a=some (ii vs k)∧(Cr C R x).2 vs.toList∧vs.size≤100000,λzz=>False)
def VR(C:Cx)(R:Wd)(x:KV)(v:QD):Prop:=(Cr C R x).1 v
def bG(C:Cx)(R:Wd)(x:KV)(vs:List QD):Prop:=(Cr C R x).2 vs
theorem VR.none_:VR C R .none .none:=rfl
theorem VR.bool_{b:Bool}:VR C R (.bool b) (.bool b):=rfl
theorem VR.nat_{n:Nat}{t:Tok}:VR C R (.nat n) (.int n t):=⟨t,rfl⟩
theorem VR.neg_{n:Nat}{t:Tok}:VR C R (.neg n) (.int (.negSucc n) t):=⟨t,rfl⟩
theorem VR.str_{s:Str}{t:Tok}(ok:yy s):VR C R (.str (iz s)) (.str s t):=⟨s,t,rfl,rfl,ok⟩
theorem VR.tup{x:KV}{vs:List QD}{a:Ri}(h:bG C R x vs)(t:R.h.IsTuple a vs.toArray)(l:vs.length≤100000):VR C R x (.ref a):=by
 cases x with
 |nil=>exact⟨a,rfl,by cases h;exact t⟩
 |cons x r=>refine aH h ?_;clear h;rintro u us rfl h1 h2;exact⟨a,u,us,rfl,t,h1,h2,l⟩
 |_=>exact h.elim
theorem bG.nil_:bG C R .nil []:=rfl
theorem bG.cons_{x r:KV}{v:QD}{vs:List QD}(h:VR C R x v)(t:bG C R r vs):bG C R (.cons x r) (v::vs):=⟨v,vs,rfl,h,t⟩
theorem bG.ind{P:KV->List QD->Prop}(h0:P .nil [])(h1:∀x r u us,VR C R x u->bG C R r us->P r us->P (.cons x r) (u::us))(x:KV):∀vs,bG C R x vs->P x vs:=by
 induction x with
 |nil=>intro vs h;cases h;exact h0
 |cons x r _ ih=>intro vs h;refine aH h ?_;rintro u us rfl a b;exact h1 x r u us a b (ih us b)
 |_=>exact λzz h=>False.elim h
section
variable{x y:KV}{vs us:List QD}
theorem bG.len_eq:bG C R x vs->len x=vs.length:=bG.ind (P:=λx vs=>len x=vs.length) rfl (λZ Z Z Z Z Z i=>congrArg QR i) x vs
theorem bG.get(h:bG C R x vs){n:Nat}:∀{y:KV},ng n x=some y->∃v,vs[n]?=some v∧VR C R y v:=λ{y}=>bG.ind (P:=λx vs=>∀n,ng n x=some y->∃v,vs[n]?=some v∧VR C R y v) (λn e=>by cases n<;>exact cO e) (λZ Z u Z h1 Z i n e=>by
 cases n with
 |zero=>cases e;exact⟨u,rfl,h1⟩
 |succ n=>exact i n e) x vs h n
theorem bG.none(h:bG C R x vs){n:Nat}:ng n x=Option.none->vs.length≤n:=bG.ind (P:=λx vs=>∀n,ng n x=Option.none->vs.length≤n) (λn Z=>Ry n) (λZ Z Z Z Z Z i n e=>by
 cases n with
 |zero=>exact uD e
 |succ n=>exact RV (i n e)) x vs h n
theorem bG.append(h:bG C R x vs)(k:bG C R y us):bG C R (app x y) (vs++us):=bG.ind (P:=λx vs=>bG C R (app x y) (vs++us)) k (λZ Z Z Z h1 Z i=>.cons_ h1 i) x vs h
theorem bG.take_(n:Nat)(h:bG C R x vs):bG C R (take n x) (vs.take n):=bG.ind (P:=λx vs=>∀n,bG C R (take n x) (vs.take n)) (λn=>by cases n<;>rfl) (λZ Z Z Z h1 Z i n=>by
 cases n with
 |zero=>rfl
 |succ n=>exact .cons_ h1 (i n)) x vs h n
theorem bG.drop_(n:Nat)(h:bG C R x vs):bG C R (drop n x) (vs.drop n):=bG.ind (P:=λx vs=>∀n,bG C R (drop n x) (vs.drop n)) (λn=>by cases n<;>rfl) (λZ Z Z Z h1 h2 i n=>by
 cases n with
 |zero=>exact .cons_ h1 h2
 |succ n=>exact i n) x vs h n
theorem bG.rev_(h:bG C R x vs)(k:bG C R y us):bG C R (wF x y) (vs.reverse++us):=bG.ind (P:=λx vs=>∀y us,bG C R y us->bG C R (wF x y) (vs.reverse++us)) (λZ Z k=>k) (λZ Z Z Z h1 Z i Z Z k=>by rw[SN,Sx];exact i _ _ (.cons_ h1 k)) x vs h y us k
end
noncomputable def hp(w:U5):KV->Int×List Int
 |.none=>(0xFCA86420,[])
 |.nat n=>(hashInt n,[])
 |.neg n=>(hashInt (.negSucc n),[])
 |.str c=>(hashStr w (GH c),[])
 |.nil=>(reduceHash (S8 []),[])
 |.cons x r=>(reduceHash (S8 ((hp w x).1::(hp w r).2)),(hp w x).1::(hp w r).2)
 |_=>(0,[])
noncomputable def x8(w:U5)(x:KV):Int:=(hp w x).1
noncomputable def dp:KV->PyData×List PyData
 |.bool b=>(.bool b,[])
 |.fl x=>(.list (dp x).2,[])
 |.nat n=>(.int n,[])
 |.neg n=>(.int (.negSucc n),[])
 |.str c=>(.str (GH c),[])
 |.nil=>(.tuple [],[])
 |.cons x r=>(.tuple ((dp x).1::(dp r).2),(dp x).1::(dp r).2)
 |_=>(.none,[])
noncomputable def dK(x:KV):PyData:=(dp x).1
theorem aP{b c:Bool}:aB b false c=true↔b=true∧c=true:=by cases b<;>simp[aB]
theorem dI{b c:Bool}{G:Prop}(h:aB b false c=true)(k:b=true->c=true->G):G:=k (aP.mp h).1 (aP.mp h).2
theorem yq{b c:Bool}:aB b c true=true↔b=true∨c=true:=by cases b<;>simp[aB]
theorem dT{x r:KV}{n:Nat}(h:gV (.cons x r) n=true){G:Prop}(k:∀m,gV x m=true->gV r (m+1)=true->n=m+1->G):G:=by
 cases n with
 |zero=>exact aO h
 |succ m=>exact k m (aP.mp h).1 (aP.mp h).2 rfl
theorem qk{x r:KV}{n:Nat}(h:eI (.cons x r) n=true):∃m,n=m+1∧eI x m=true∧eI r (m+1)=true:=by
 cases n with
 |zero=>exact aO h
 |succ m=>exact⟨m,rfl,aP.mp h⟩
theorem jW{x r:KV}{n:Nat}(h:eI (.cons x r) n=true){G:Prop}(k:∀m,n=m+1->eI x m=true->eI r (m+1)=true->G):G:=b8 (qk h) k
theorem gO:∀(x:KV){n:Nat},gV x n=true->eI x n=true:=by
 intro x;induction x with
 |cons x r i1 i2=>intro n h;refine dT h ?_;rintro m p1 p2 rfl;exact aP.mpr ⟨i1 p1,i2 p2⟩
 |nil=>exact λh=>h
 |ref q=>exact λh=>aO h
 |tok q=>exact λh=>aO h
 |fl x _=>exact λh=>aO h
 |_=>exact λzz=>rfl
theorem IsTuple.typeIs{s:QE}{a:Ri}{items:Array QD}(x:s.heap.IsTuple a items):s.TypeIs (.ref a) "tuple":=let⟨o,ho,hc,_⟩:=x;⟨o,ho,hc⟩
section
variable{A:RR}{E:QD->QE->Prop}{s:QE}{Q:Int->QE->Prop}
theorem tD(h:∀t',Q 0xFCA86420 {s with toks:=t'}):QQ (R6 C.prog C.w) A (pyHash .none) Q E s:=by
 have hT:s.TypeIs .none "NoneType":=rfl;unfold pyHash pyHashByItsType;refine Qy (wpAny_cRoomFor_byValue rfl (Qy (Sd hT Uj.lookup ?_)));show QQ _ _ (if(some (Value.builtin "NoneType.__hash__")==some SY)=true then _ else _) Q E s;rw[if_neg (by rw[beq_builtin_none];exact R8)];refine Qy (Sd hT Uj.lookup ?_);refine Qy (wpAny_callSpecialIfBoundUnlessNone?_slot hT Uj (Rk Uj hT F.entry_NoneType_hash ?_ (F.args_NoneType_hash_1 _)));refine wpAny_ret_mkInt ?_;show QQ _ _ (if(decide (-(2:Int)^63≤0xFCA86420)&&decide ((0xFCA86420:Int)<2^63))=true then _ else _) Q E _;refine rwr (if_pos (by decide)) ?_;exact QC (h _)
theorem nJ{a:Ri}{vs:List QD}{l:List Int}{n:Nat}(ht:s.heap.IsTuple a vs.toArray)(hu:A.units+n+1<cLine)(hl:l.length=vs.length)
  (hv:∀(i:Nat)(v:QD)(x:Int),vs[i]?=some v->l[i]?=some x->∀(A:RR)(t:Nat)(Q:Int->QE->Prop),A.units+n<cLine->(∀t',Q x {s with toks:=t'})->QQ (R6 C.prog C.w) A (pyHash v) Q E {s with toks:=t})
  (h:∀t',Q (reduceHash (S8 l)) {s with toks:=t'}):QQ (R6 C.prog C.w) A (pyHash (.ref a)) Q E s:=by
 have hT:s.TypeIs (.ref a) "tuple":=IsTuple.typeIs ht;refine b8 ht ?_;clear ht;rintro o ho-zq;refine az zq ?_;clear zq;intro n' hd;unfold pyHash pyHashByItsType;refine Qy (wpAny_cRoomFor_or (.inr (by lia)) (Qy (Sd hT UD.lookup ?_)));show QQ _ _ (if(some (Value.builtin "tuple.__hash__")==some SY)=true then _ else _) Q E s;rw[if_neg (by rw[beq_builtin_none];exact R8)];refine Qy (Sd hT UD.lookup ?_);refine Qy (wpAny_callSpecialIfBoundUnlessNone?_slot hT UD (Rk UD hT F.entry_tuple_hash ?_ (F.args_tuple_hash_1 _)));show QQ _ _ (Builtin.Tuple.tupleItemsOf (.ref a)>>=_) _ _ s;refine Qy (wpAny_tupleItemsOf ho hd (Qy ?_));refine rwl Array.forIn_toList ?_;refine TL _ (λrest(b:Array Int) s'=>∃i t',i≤vs.length∧rest=vs.drop i∧b.toList=l.take i∧s'={s with toks:=t'}) _ ?_ ?_ _ _ ⟨0,s.toks,Ry _,rfl,rfl,rfl⟩
 ·intro v rest b s' zq;refine d9 zq ?_;clear zq;rintro i t' hi hr hb rfl;have hlt:i<vs.length:=by
   rcases UT i vs.length with q|q
   ·exact q
   ·rw[List.drop_eq_nil_of_le q]at hr;contradiction
  have hlt':i<l.length:=by simp_all+arith
  rw[List.drop_eq_getElem_cons hlt]at hr;refine ar (List.cons.inj hr) ?_;intro h1 h2;refine Qy (hv i v l[i] (by refine rwr h1 ?_;exact QM hlt) (QM hlt') _ _ _ (by show A.units+1+n<_;simp_all+arith) λt''=>?_);exact QC ⟨i+1,t'',hlt,h2,by refine rwr TU (rwr hb (rwr List.take_add_one (rwr (QM hlt') ?_)));rfl,rfl⟩
 ·intro b s' zq;refine d9 zq ?_;clear zq;rintro i t' hi hr hb rfl;have:vs.length≤i:=List.drop_eq_nil_iff.mp hr.symm;rw[S0 (by simp_all+arith)]at hb;show QQ _ _ (retInt (S8 b.toList)) _ _ _;refine rwr hb ?_;refine wpAny_ret_mkInt ?_;have h':=h (t'+1);show QQ _ _ (if(decide (-(2:Int)^63≤S8 l)&&decide (S8 l<2^63))=true then _ else _) Q E _;unfold reduceHash at h'
  split
  ·rename_i hr;rw[if_pos hr]at h';exact QC h'
  ·rename_i hr;rw[if_neg hr]at h';exact Qy (SU (QC h'))
end
def C7(C:Cx)(E:QD->QE->Prop)(h:SG)(n:Nat)(v:QD)(y:Int):Prop:=∀(A:RR)(s:QE)(Q:Int->QE->Prop),s.heap=h->A.units+n<cLine->(∀t',Q y {s with toks:=t'})->QQ (R6 C.prog C.w) A (pyHash v) Q E s
theorem Ao{E:QD->QE->Prop}:∀(x:KV),(∀(n:Nat)(v:QD),gV x n=true->VR C R x v->C7 C E R.h n v (x8 C.w x))∧
  (∀(n:Nat)(vs:List QD),gV x (n+1)=true->bG C R x vs->(hp C.w x).2.length=vs.length∧∀(i:Nat)(v:QD)(y:Int),vs[i]?=some v->(hp C.w x).2[i]?=some y->C7 C E R.h n v y):=by
 intro x;induction x with
 |none=>exact⟨λn v Z hv A s Q hs Z hq=>by cases hv;exact tD hq,λZ Z Z h=>h.elim⟩
 |nat n=>exact⟨λn v Z hv A s Q hs Z hq=>by refine az hv ?_;clear hv;rintro t rfl;exact wpAny_pyHash_int (hq _),λZ Z Z h=>h.elim⟩
 |neg n=>exact⟨λn v Z hv A s Q hs Z hq=>by refine az hv ?_;clear hv;rintro t rfl;exact wpAny_pyHash_int (hq _),λZ Z Z h=>h.elim⟩
 |str c=>
  refine⟨λn v Z hv A s Q hs Z hq=>?_,λZ Z Z h=>h.elim⟩;refine aH hv ?_;clear hv;rintro s' t rfl rfl ok;refine wpAny_pyHash_str ?_;have:=hq (s.toks+1);change Q (hashStr C.w (GH (iz s'))) _ at this;rw[mu ok]at this;exact this
 |nil=>
  refine⟨λn v hp hv A s Q hs hu hq=>?_,λZ Z Z h=>by cases h;exact⟨rfl,λi v y e=>by trivial⟩⟩;refine ah hv ?_;clear hv;rintro a rfl ht;have:=QA hp;exact nJ (n:=0) (vs:=[]) (l:=[]) (hs▸ht) (by lia) rfl (λi v x e=>by trivial) hq
 |cons x r ih1 ih2=>
  refine⟨λn v hp hv A s Q hs hu hq=>?_,λn vs hp hv=>?_⟩
  ·refine dT hp ?_;rintro m p1 p2 rfl;refine dM hv ?_;clear hv;rintro a u us rfl ht h1 h2 -;refine ar (ih2.2 m us p2 h2) ?_;intro l1 l2;refine nJ (n:=m) (vs:=u::us) (l:=(Internal.hp C.w (.cons x r)).2) (hs▸ht) (by assumption) (congrArg QR l1) (λi v y e1 e2 A t Q hA hQ=>?_) hq;cases i with
   |zero=>cases e1;cases e2;exact ih1.1 m u p1 h1 A _ Q hs hA hQ
   |succ i=>exact l2 i v y e1 e2 A _ Q hs hA hQ
  ·refine dT hp ?_;intro m p1 p2 e;cases e;refine aH hv ?_;clear hv;rintro u us rfl h1 h2;refine ar (ih2.2 n us p2 h2) ?_;intro l1 l2;refine⟨congrArg QR l1,λi v y e1 e2=>?_⟩;cases i with
   |zero=>cases e1;cases e2;exact ih1.1 n u p1 h1
   |succ i=>exact l2 i v y e1 e2
 |_=>exact⟨λn v hp=>(by exact aO hp),λn vs hp=>(by exact aO hp)⟩
theorem tF{E:QD->QE->Prop}{x:KV}{v:QD}{A:RR}{s:QE}{Q:Int->QE->Prop}(hp:pk x=true)(hv:VR C R x v)(hs:s.heap=R.h)(hu:A.units+5<cLine)(hq:∀t',Q (x8 C.w x) {s with toks:=t'}):QQ (R6 C.prog C.w) A (pyHash v) Q E s:=
 (Ao x).1 5 v hp hv A s Q hs hu hq
end
end
section
variable{C:Cx}{R R':Wd}
theorem eX:∀(x:KV),(∀(n:Nat)(v:QD),eI x n=true->VR C R x v->(∃as,Reads R.h v (dK x) as)∧(dK x).canLay0=true∧(dK x).depth≤n+1)∧
  (∀(n:Nat)(vs:List QD),eI x (n+1)=true->bG C R x vs->(∃as,ReadsAll R.h vs (dp x).2 as)∧PyData.canLayAll0 (dp x).2=true∧UG (dp x).2≤n+1):=by
 intro x;induction x with
 |none=>exact⟨λn v Z hv=>by cases hv;exact⟨⟨_,.none⟩,rfl,QU _ _⟩,λZ Z Z h=>h.elim⟩
 |bool b=>exact⟨λn v Z hv=>by cases hv;exact⟨⟨_,.bool b⟩,rfl,QU _ _⟩,λZ Z Z h=>h.elim⟩
 |fl x ih=>
  refine⟨λn v hp hv=>?_,λZ Z Z h=>h.elim⟩;cases n with
  |zero=>exact aO hp
  |succ n=>
   refine dM hv ?_;rintro a vs k rfl-g rs -;refine b0 (ih.2 n vs.toList hp rs) ?_;intro zq a2 a3;refine az zq ?_;intro as a1;exact⟨⟨_,.list g rfl rfl a1⟩,a2,RV a3⟩
 |nat i=>exact⟨λn v Z hv=>by refine az hv ?_;clear hv;rintro t rfl;exact⟨⟨_,.int _ t⟩,rfl,QU _ _⟩,λZ Z Z h=>h.elim⟩
 |neg i=>exact⟨λn v Z hv=>by refine az hv ?_;clear hv;rintro t rfl;exact⟨⟨_,.int _ t⟩,rfl,QU _ _⟩,λZ Z Z h=>h.elim⟩
 |str c=>
  refine⟨λn v Z hv=>?_,λZ Z Z h=>h.elim⟩;refine aH hv ?_;clear hv;rintro s t rfl rfl ok;refine rwr (show dK (.str (iz s))=.str s from congrArg PyData.str (mu ok)) ?_;refine⟨⟨_,.str s t⟩,?_,QU _ _⟩;simp only[PyData.canLay0,PyData.strOk,Array.all_eq_true_iff_forall_mem,decide_eq_true_eq];exact λc hc=>ok.1 c (by simpa using hc)
 |nil=>
  refine⟨λn v hp hv=>?_,λZ Z Z h=>by cases h;exact⟨⟨_,.nil⟩,rfl,Ry _⟩⟩;refine ah hv ?_;clear hv;rintro a rfl zq;refine b8 zq ?_;clear zq;intro o ho hc zq;refine az zq ?_;clear zq;intro _ hd;have:=QA hp;exact⟨⟨_,.tuple ho hc hd .nil⟩,rfl,by show 0+1≤_;exact TB _⟩
 |cons x r ih1 ih2=>
  have sp:∀(n:Nat)(vs:List QD),eI (.cons x r) (n+1)=true->bG C R (.cons x r) vs->(∃as,ReadsAll R.h vs (dp (.cons x r)).2 as)∧PyData.canLayAll0 (dp (.cons x r)).2=true∧UG (dp (.cons x r)).2≤n+1:=by
   intro n vs hp hv;refine jW hp ?_;intro m e p1 p2;cases e;refine aH hv ?_;clear hv;rintro u us rfl h1 h2;refine b0 (ih1.1 n u p1 h1) ?_;intro zq0 a2 a3;refine az zq0 ?_;clear zq0;intro as a1;refine b0 (ih2.2 n us p2 h2) ?_;intro zq0 b2 b3;refine az zq0 ?_;clear zq0;intro bs b1;exact⟨⟨_,.cons a1 b1⟩,Rb.mpr ⟨a2,b2⟩,Nat.max_le.mpr ⟨a3,b3⟩⟩
  refine⟨λn v hp hv=>?_,sp⟩;refine ah (qk hp) ?_;rintro m rfl -;refine dM hv ?_;clear hv;rintro a u us rfl zq4 h1 h2 -;refine b8 zq4 ?_;clear zq4;intro o ho hc zq;refine az zq ?_;clear zq;intro _ hd;refine b0 (sp m (u::us) hp ⟨u,us,rfl,h1,h2⟩) ?_;intro zq0 a2 a3;refine az zq0 ?_;clear zq0;intro as a1;exact⟨⟨_,.tuple ho hc hd a1⟩,a2,RV a3⟩
 |_=>exact⟨λn v hp=>(by exact aO hp),λn vs hp=>(by exact aO hp)⟩
theorem li(a b:Nat):QB a b=decide (a=b):=by
 by_cases h:a=b
 ·subst h;simp
 ·refine rwr (decide_eq_false h) ?_;cases e:QB a b with
  |false=>rfl
  |true=>exact absurd (QY e) h
theorem bR{a b:Nat}:QB a b=true↔a=b:=by rw[li,decide_eq_true_eq]
theorem kJ:∀(x:KV){n:Nat},eI x n=true->bU x x=true:=by
 intro x;induction x with
 |nat i=>exact λzz=>SH i
 |neg i=>exact λzz=>SH i
 |str i=>exact λzz=>SH i
 |bool b=>exact λzz=>by cases b<;>rfl
 |fl x ih=>intro n h;cases n with
  |zero=>exact aO h
  |succ n=>exact ih h
 |none=>exact λzz=>rfl
 |nil=>exact λzz=>rfl
 |cons x r ih1 ih2=>intro n h;refine jW h ?_;rintro m-p1 p2;exact aP.mpr ⟨ih1 p1,ih2 p2⟩
 |_=>intro n h;exact aO h
theorem gw:∀{x y:KV},bU x y=true->x=y:=by
 intro x;induction x with
 |nat i=>intro y h;cases y with
  |nat j=>exact congrArg KV.nat (bR.mp h)
  |_=>exact aO h
 |neg i=>intro y h;cases y with
  |neg j=>exact congrArg KV.neg (bR.mp h)
  |_=>exact aO h
 |str i=>intro y h;cases y with
  |str j=>exact congrArg KV.str (bR.mp h)
  |_=>exact aO h
 |none=>intro y h;cases y with
  |none=>rfl
  |_=>exact aO h
 |nil=>intro y h;cases y with
  |nil=>rfl
  |_=>exact aO h
 |cons x r ih1 ih2=>intro y h;cases y with
  |cons y s=>refine dI h ?_;intro a b;exact rwr (ih1 a) (rwr (ih2 b) rfl)
  |_=>exact aO h
 |bool b=>intro y h;cases y with
  |bool c=>cases b<;>cases c<;>first|rfl|exact aO h
  |_=>exact aO h
 |fl x ih=>intro y h;cases y with
  |fl y=>exact congrArg KV.fl (ih h)
  |_=>exact aO h
 |_=>intro y h;exact aO h
theorem wU{x y:KV}{n:Nat}(h:gV x n=true):bU x y=true↔x=y:=⟨gw,λe=>e▸kJ x (gO x h)⟩
theorem qh:∀(x:KV),(∀(y:KV)(n m:Nat)(v u:QD),gV x n=true->gV y m=true->VR C R x v->VR C R' y u->PyData.eqv (dK x) (dK y)=bU x y)∧
  (∀(y:KV)(n m:Nat)(vs us:List QD),gV x n=true->gV y m=true->bG C R x vs->bG C R' y us->PyData.eqvAll (dp x).2 (dp y).2=bU x y):=by
 intro x;induction x with
 |none=>exact⟨λy n m v u Z hq Z Z=>(by cases y<;>first|rfl|exact aO hq),λZ Z Z Z Z Z Z h=>h.elim⟩
 |nat i=>exact⟨λy n m v u Z hq Z Z=>(by cases y with|nat j=>(show((i:Int)==(j:Int))=QB i j;rw[S6,beq_iff_eq,bR];lia)|_=>first|rfl|exact aO hq),λZ Z Z Z Z Z Z h=>h.elim⟩
 |neg i=>exact⟨λy n m v u Z hq Z Z=>(by cases y with|neg j=>(show(Int.negSucc i==Int.negSucc j)=QB i j;rw[S6,beq_iff_eq,bR];exact⟨Int.negSucc.inj,λe=>e▸rfl⟩)|_=>first|rfl|exact aO hq),λZ Z Z Z Z Z Z h=>h.elim⟩
 |str c=>exact⟨λy n m v u Z hq h k=>by
   cases y with
   |str d=>
    refine aH h ?_;clear h;rintro s _-rfl ok;refine aH k ?_;clear k;rintro s' _-rfl ok';show(GH (iz s)==GH (iz s'))=QB (iz s) (iz s');rw[mu ok,mu ok',S6,beq_iff_eq,bR];exact⟨λe=>e▸rfl,xk ok ok'⟩
   |bool=>exact aO hq
   |ref=>exact aO hq
   |tok=>exact aO hq
   |fl=>exact aO hq
   |_=>rfl,λZ Z Z Z Z Z Z h=>h.elim⟩
 |nil=>exact⟨λy n m v u Z hq Z Z=>(by cases y<;>first|rfl|cases hq),λy n m vs us Z hq Z k=>(by cases y<;>first|rfl|exact k.elim)⟩
 |cons x r ih1 ih2=>
  have sp:∀(y:KV)(n m:Nat)(vs us:List QD),gV (.cons x r) n=true->gV y m=true->bG C R (.cons x r) vs->bG C R' y us->PyData.eqvAll (dp (.cons x r)).2 (dp y).2=bU (.cons x r) y:=λy n m vs us hp hq h k=>by
   cases y with
   |nil=>rfl
   |cons y s=>
    refine dT hp ?_;rintro _ p1 p2 -;refine dT hq ?_;rintro _ q1 q2 -;refine aH h ?_;clear h;rintro _ _-h1 h2;refine aH k ?_;clear k;rintro _ _-k1 k2;show(PyData.eqv (dK x) (dK y)&&PyData.eqvAll (dp r).2 (dp s).2)=aB (bU x y) false (bU r s);refine rwr (ih1.1 y _ _ _ _ p1 q1 h1 k1) (rwr (ih2.2 s _ _ _ _ p2 q2 h2 k2) ?_);cases bU x y<;>rfl
   |_=>exact k.elim
  refine⟨λy n m v u hp hq h k=>?_,sp⟩;cases y with
  |cons y s=>
   refine dM h ?_;clear h;rintro _ _ _- -h1 h2 -;refine dM k ?_;clear k;rintro _ _ _- -k1 k2 -;exact sp _ n m _ _ hp hq ⟨_,_,rfl,h1,h2⟩ ⟨_,_,rfl,k1,k2⟩
  |bool=>exact aO hq
  |ref=>exact aO hq
  |tok=>exact aO hq
  |fl=>exact aO hq
  |_=>rfl
 |_=>exact⟨λZ Z Z Z Z hp=>(by exact aO hp),λZ Z Z Z Z hp=>(by exact aO hp)⟩
theorem VR.inj{x y:KV}{v:QD}(hp:pk x=true)(hq:pk y=true)(h:VR C R x v)(k:VR C R y v):x=y:=by
 refine b0 ((eX x).1 5 v (gO x hp) h) ?_;rintro zq0 c -;refine az zq0 ?_;clear zq0;intro as a;refine b0 ((eX y).1 5 v (gO y hq) k) ?_;rintro zq0- -;refine az zq0 ?_;clear zq0;intro bs b;have e:=SeqAt.Reads.unique _ _ _ _ _ c a b;have:=(qh x).1 y 5 5 v v hp hq h k;rw[←e,(qh x).1 x 5 5 v v hp hp h h,kJ x (gO x hp)]at this;exact gw this.symm
section
variable{A:RR}{E:QD->QE->Prop}{s:QE}{Q:Bool->QE->Prop}
theorem Bk{x y:KV}{v u:QD}(hp:pk x=true)(hq:pk y=true)(hs:s.heap=R.h)(hv:VR C R x v)(hu:VR C R y u)(hr:A.units+6<cLine)(h:Q (bU x y) s):QQ (R6 C.prog C.w) A (eqBool v u) Q E s:=by
 refine b0 ((eX x).1 5 v (gO x hp) hv) ?_;intro zq0 c1 d1;refine az zq0 ?_;clear zq0;intro as r1;refine b0 ((eX y).1 5 u (gO y hq) hu) ?_;intro zq0 c2 d2;refine az zq0 ?_;clear zq0;intro bs r2;rw[←hs]at r1 r2;have e:=PySem.SeqAt.eqAt_reads _ _ A s v u as bs r1 r2 c1 c2 (by lia);rw[(qh x).1 y 5 5 v u hp hq hv hu]at e;exact e _ _ _ _ h
theorem wH:∀(x:KV),(∀(n g:Nat)(v:QD)(A:RR)(Q:Bool->QE->Prop),n<g->gV x n=true->VR C R x v->s.heap=R.h->Q true s->QQ (R6 C.prog C.w) A (eqIsQuiet g v) Q E s)∧
  (∀(n g:Nat)(vs:List QD),n<g->gV x (n+1)=true->bG C R x vs->s.heap=R.h->∀v∈vs,∀(A:RR)(Q:Bool->QE->Prop),Q true s->QQ (R6 C.prog C.w) A (eqIsQuiet g v) Q E s):=by
 have val:∀{v:QD}{g:Nat}{A:RR}{Q:Bool->QE->Prop},carriedByValue v=true->Q true s->0<g->QQ (R6 C.prog C.w) A (eqIsQuiet g v) Q E s:=by
  intro v g A Q h q hg;cases g with
  |zero=>contradiction
  |succ g=>refine rwr (eqIsQuiet_byValue _ h) ?_;exact QC q
 have tup:∀{a:Ri}{vs:List QD}{g:Nat}{A:RR}{Q:Bool->QE->Prop},s.heap.IsTuple a vs.toArray->(∀v∈vs,∀(A:RR)(Q:Bool->QE->Prop),Q true s->QQ (R6 C.prog C.w) A (eqIsQuiet g v) Q E s)->Q true s->QQ (R6 C.prog C.w) A (eqIsQuiet (g+1) (.ref a)) Q E s:=by
  intro a vs g A Q ht hv h;have hT:s.TypeIs (.ref a) "tuple":=IsTuple.typeIs ht;refine b8 ht ?_;clear ht;rintro o ho-zq;refine az zq ?_;clear zq;intro n hd;unfold eqIsQuiet;refine Qy (Sd hT F.slot_tuple_eq.lookup ?_);show QQ _ _ (isInstance (.ref a) (.type "tuple")>>=_) _ _ s;refine Qy (Uk hT isSubtype_tuple_tuple ?_);simp only[Bool.not_true,Bool.false_eq_true,if_false];refine Qy (UC ho hd (Qy ?_));show QQ _ _ (forIn vs.toArray _ _) _ _ s;refine rwl Array.forIn_toList ?_;refine TL _ (λrest r s'=>r.1=none∧s'=s∧∀v∈rest,v∈vs) _ ?_ ?_ _ _ ⟨rfl,rfl,λv q=>q⟩
  ·intro v rest r s' zq;refine b0 zq ?_;clear zq;rintro hr rfl hm;refine Qy (hv v (hm v QF) _ _ ?_);refine rwr (if_neg (by decide)) ?_;exact QC ⟨rfl,rfl,λu q=>hm u (QI _ q)⟩
  ·rintro⟨r1,r2⟩ s' ⟨hz,rfl,_⟩;cases hz;exact QC h
 intro x;induction x with
 |none=>exact⟨λn g v A Q hg Z hv Z q=>by cases hv;exact val rfl q (by exact Rp (Ry n) hg),λZ Z Z Z Z h=>h.elim⟩
 |nat i=>exact⟨λn g v A Q hg Z hv Z q=>by refine az hv ?_;clear hv;rintro t rfl;exact val rfl q (by exact Rp (Ry n) hg),λZ Z Z Z Z h=>h.elim⟩
 |neg i=>exact⟨λn g v A Q hg Z hv Z q=>by refine az hv ?_;clear hv;rintro t rfl;exact val rfl q (by exact Rp (Ry n) hg),λZ Z Z Z Z h=>h.elim⟩
 |str i=>exact⟨λn g v A Q hg Z hv Z q=>by refine aE hv ?_;clear hv;rintro s' t rfl -;exact val rfl q (by exact Rp (Ry n) hg),λZ Z Z Z Z h=>h.elim⟩
 |nil=>
  refine⟨λn g v A Q hg Z hv hs q=>?_,λn g vs Z Z h Z v hv=>by cases h;cases hv⟩;refine ah hv ?_;clear hv;rintro a rfl ht;cases g with
  |zero=>cases hg
  |succ g=>exact tup (vs:=[]) (hs▸ht) (λv hv=>by cases hv) q
 |cons x r ih1 ih2=>
  refine⟨λn g v A Q hg hp hv hs q=>?_,λn g vs hg hp hv hs v hm=>?_⟩
  ·refine dT hp ?_;rintro m p1 p2 rfl;refine dM hv ?_;clear hv;rintro a u us rfl ht h1 h2 -;cases g with
   |zero=>cases hg
   |succ g=>
    refine tup (hs▸ht) (λv hv A Q q=>?_) q;rcases QH.mp hv with rfl|hv
    ·exact ih1.1 m g v A Q (by simp_all+arith) p1 h1 hs q
    ·exact ih2.2 m g us (by simp_all+arith) p2 h2 hs v hv A Q q
  ·refine dT hp ?_;intro m p1 p2 e;cases e;refine aH hv ?_;clear hv;rintro u us rfl h1 h2;rcases QH.mp hm with rfl|hm
   ·exact λA Q q=>ih1.1 n g v A Q hg p1 h1 hs q
   ·exact ih2.2 n g us hg p2 h2 hs v hm
 |_=>exact⟨λn g v A Q Z hp=>(by exact aO hp),λn g vs Z hp=>(by exact aO hp)⟩
end
end
end
section
set_option backward.match.sparseCases true
open PySem PySem.W PyProof.Rows
variable{C:Cx}{R R':Wd}
theorem CA{α:Type}{M:Model}{A:RR}{Q:α->QE->Prop}{E:QD->QE->Prop}{s:QE}{c:Prop}[Decidable c]{x y:Sem α}(h1:c->QQ M A x Q E s)(h2:¬c->QQ M A y Q E s):QQ M A (if c then x else y) Q E s:=by
 by_cases h:c
 ·refine rwr (if_pos h) ?_;exact h1 h
 ·refine rwr (if_neg h) ?_;exact h2 h
noncomputable def pairs:KD->List (KV×KV)
 |.nil=>[]
 |.cons k v r=>(k,v)::pairs r
structure IH(C:Cx)(R:Wd)(e:Rw)(kv:KV×KV):Prop where
 plain:pk kv.1=true
 hash:e.hash=x8 C.w kv.1
 key:VR C R kv.1 e.key
 val:VR C R kv.2 e.val
def pA(C:Cx)(R:Wd)(es:List Rw)(iy:List (KV×KV)):Prop:=es.length=iy.length∧∀(i:Nat)(e:Rw)(kv:KV×KV),es[i]?=some e->iy[i]?=some kv->IH C R e kv
def IG(iy:List (KV×KV))(k:KV)(J:Option Nat):Prop:=∀(i:Nat)(kv:KV×KV),iy[i]?=some kv->(kv.1=k↔J=some i)
theorem Ko{es:KD}{x:KV}(v:KV)(hp:∀kv∈pairs es,pk kv.1=true)(hn:((pairs es).map (·.1)).Nodup):∃J,IG (pairs es) x J∧(dl es x=J.bind λj=>(pairs es)[j]?.map (·.2))∧(∀j,J=some j->j<(pairs es).length)∧
  pairs (dset es x v)=match J with|none=>pairs es++[(x,v)]|some j=>(pairs es).set j (x,v):=by
 induction es with
 |nil=>exact⟨none,λi kv h=>by trivial,rfl,λzz h=>(by exact cO h),rfl⟩
 |cons k u r ih=>
  have hp':=hp (k,u) QF;refine JF (show(k::(pairs r).map (·.1)).Nodup from hn) ?_;intro h1 h2;refine cZ (ih (λkv h=>hp kv (QI _ h)) h2) ?_;intro J a b l c;have e0:dset (.cons k u r) x v=@RJ (λzz=>KD) (.cons k u (dset r x v)) (.cons k v r) (bU k x):=rfl;have e1:dl (.cons k u r) x=@RJ (λzz=>Option KV) (dl r x) (some u) (bU k x):=rfl;cases e:bU k x with
  |true=>
   have e':=gw e;rw[e]at e0 e1;refine⟨some 0,λi kv h=>?_,e1,λzz h=>(by cases h;exact TB _),by refine rwr e0 (rwl e' ?_);rfl⟩;cases i with
   |zero=>cases h;exact⟨λzz=>rfl,λzz=>e'⟩
   |succ i=>exact⟨λq=>absurd (Tv (f:=(·.1)) (Rq (show(pairs r)[i]?=some kv from h))) (by refine rwr q (rwl e' ?_);exact h1),λq=>by cases q⟩
  |false=>
   have e':k≠x:=λq=>by rw[(wU hp').mpr q]at e;exact p7 e
   rw[e]at e0 e1;refine⟨J.map (·+1),λi kv h=>?_,?_,?_,?_⟩
   ·cases i with
    |zero=>cases h;exact⟨λq=>absurd q e',λq=>by cases J<;>cases q⟩
    |succ i=>rw[a i kv h];cases J<;>simp
   ·refine rwr e1 ?_;show dl r x=_;refine rwr b ?_;cases J<;>rfl
   ·intro j h;cases J with
    |none=>exact cO h
    |some i=>cases h;exact Nat.succ_lt_succ (l i rfl)
   ·refine rwr e0 ?_;show(k,u)::pairs (dset r x v)=_;refine rwr c ?_;cases J<;>rfl
theorem vC{es:KD}{x:KV}(v:KV)(hp:∀kv∈pairs es,pk kv.1=true)(hn:((pairs es).map (·.1)).Nodup){G:Prop}(k:∀J,IG (pairs es) x J->(dl es x=J.bind λj=>(pairs es)[j]?.map (·.2))->(∀j,J=some j->j<(pairs es).length)->(pairs (dset es x v)=match J with|none=>pairs es++[(x,v)]|some j=>(pairs es).set j (x,v))->G):G:=cZ (Ko v hp hn) k
section
variable{A:RR}{E:QD->QE->Prop}{s:QE}{d:Ri}{o:Obj}{es:Array Rw}{ep:Nat}{key:QD}{hs:Int}{J:Option Nat}
structure gP(C:Cx)(A:RR)(E:QD->QE->Prop)(s:QE)(d:Ri)(es:Array Rw)(key:QD)(hs:Int)(J:Option Nat):Prop where
 obj:∃o ep,s.heap.get? d=some o∧o.data=.dict es ep
 same:∀(i:Nat)(e:Rw),es[i]?=some e->∀Q:Bool->QE->Prop,Q (decide (J=some i)) s->QQ (R6 C.prog C.w) A (eqBool e.key key) Q E s
 hash:∀j,J=some j->∃e,es[j]?=some e∧e.hash=hs
 quiet:∀Q:Bool->QE->Prop,Q true s->QQ (R6 C.prog C.w) A (eqIsQuiet 8 key) Q E s
 quiets:∀(i:Nat)(e:Rw),es[i]?=some e->∀Q:Bool->QE->Prop,Q true s->QQ (R6 C.prog C.w) A (eqIsQuiet 8 e.key) Q E s
 byStr:∀x t,key=.str x t->(∀i e,es[i]?=some e->(e.key.isStr x=true↔J=some i))
 byRef:∀a,key=.ref a->∀e∈es,e.key=.ref a->e.hash=hs
variable(S:gP C A E s d es key hs J)
include S
theorem gP.found{x:Str}{t:Tok}{Q:Option Nat->QE->Prop}(e:key=.str x t)(q:Q J s):QQ (R6 C.prog C.w) A (foundByValue d key es x) Q E s:=by
 refine aE S.obj ?_;intro o ep ho hd;have B:=S.byStr x t e;unfold foundByValue;cases hi:es.findIdx? (·.key.isStr x)with
 |none=>
  have:J=none:=by
   cases J with
   |none=>rfl
   |some j=>
    refine ah (S.hash j rfl) ?_;rintro e he -;have h1:=(B j e he).mpr rfl;rw[Array.findIdx?_eq_none_iff.mp hi e (Array.mem_of_getElem? he)]at h1;exact aO h1
  subst this;exact QC q
 |some i=>
  refine ah (Array.findIdx?_eq_some_iff_getElem.mp hi) ?_;rintro hl hx -;have he:es[i]?=some es[i]:=RF hl;have hJ:=(B i _ he).mp hx;dsimp only;refine rwr he ?_;dsimp only;refine Qy (Sp ho hd (Qy (S.same i _ he _ (Qy (Sp ho hd ?_)))));refine rwr (if_neg (by simp)) (rwr (decide_eq_true hJ) (rwr (if_pos rfl) ?_));exact Qy (SU (QC (hJ▸q)))
noncomputable def gP.places(es:Array Rw)(hs:Int):List Nat:=placesWithHash es.size (λi=>es[i]?.map (·.hash)) hs
omit S in
theorem gP.place{x:Nat}(h:x∈gP.places es hs):∃e,es[x]?=some e∧(e.hash==hs)=true:=by
 refine ar (UK.mp h) ?_;intro h1 h2;have hl:=T5.mp h1;refine⟨es[x],RF hl,?_⟩;dsimp only at h2;rw[RF hl]at h2
 simpa using h2
theorem gP.mem{j:Nat}(h:J=some j):j∈gP.places es hs:=by
 refine ah (S.hash j h) ?_;intro e he hh;exact UK.mpr ⟨T5.mpr (SD.mp he).1,by dsimp only;refine rwr he (rwl hh ?_);exact if_pos rfl⟩
theorem gP.plain{Q:Option Nat->QE->Prop}(q:Q J s):QQ (R6 C.prog C.w) A (dictWalkPlain d key hs es (gP.places es hs)) Q E s:=by
 refine aE S.obj ?_;intro o ep ho hd;unfold dictWalkPlain;refine Qy (TL _ (λrest b s'=>s'=s∧b=(none,())∧(∀x∈rest,x∈gP.places es hs)∧∀j,J=some j->j∈rest) _ ?_ ?_ _ _ ⟨rfl,rfl,λx h=>h,λj h=>S.mem h⟩)
 ·intro x rest b s' zq;refine lW zq ?_;clear zq;rintro rfl rfl hm hJ;refine ah (gP.place (hm x QF)) ?_;intro e he hh;refine rwr he ?_;dsimp only;refine rwr (if_pos hh) ?_;refine Qy (Sp ho hd (Qy (S.same x e he _ (Qy (Sp ho hd ?_)))));refine rwr (if_neg (by simp)) ?_;by_cases hx:J=some x
  ·refine rwr (decide_eq_true hx) (rwr (if_pos rfl) ?_);exact Qy (SU (QC (QC (hx▸q))))
  ·refine rwr (decide_eq_false hx) (rwr (if_neg (by decide)) ?_);exact Qy (SU (QC ⟨rfl,rfl,λy h=>hm y (QI _ h),λj h=>(QH.mp (hJ j h)).resolve_left λz=>hx (z▸h)⟩))
 ·intro b s' zq;refine lW zq ?_;clear zq;rintro rfl rfl _ hJ;have:J=none:=by
   cases J with
   |none=>rfl
   |some j=>cases hJ j rfl
  exact QC (this▸q)
theorem gP.tells{stored:List QD}(hst:∀v∈stored,∃(i:Nat)(e:Rw),es[i]?=some e∧e.key=v){P:Bool->QE->Prop}(h:P false s):QQ (R6 C.prog C.w) A (tableMayTell key stored) P E s:=by
 unfold tableMayTell
 split
 ·exact QC h
 ·refine Qy (S.quiet _ ?_);refine rwr (if_neg (by decide)) ?_;refine Qy (TL _ (λrest r s'=>s'=s∧r=(none,())∧∀v∈rest,v∈stored) _ ?_ ?_ _ _ ⟨rfl,rfl,λv h=>h⟩)
  ·intro x rest r s' zq;refine b0 zq ?_;clear zq;rintro rfl rfl hm;refine aE (hst x (hm x QF)) ?_;rintro i e he rfl;refine Qy (S.quiets i e he _ ?_);refine rwr (if_neg (by decide)) ?_;exact QC ⟨rfl,rfl,λv q=>hm v (QI _ q)⟩
  ·intro r s' zq;refine b0 zq ?_;clear zq;rintro rfl rfl _;exact QC h
theorem gP.tail{stored:List QD}(hst:∀v∈stored,∃(i:Nat)(e:Rw),es[i]?=some e∧e.key=v){Q:Option Nat->QE->Prop}(q:Q J s):QQ (R6 C.prog C.w) A (do
   let tells ←if stored==[key]then pure false else tableMayTell key stored
   if tells&&stored.length≥2 then unsupported "dict.find:order-among-keys-of-one-hash"
   let mut hit:Option Nat:=none
   for i in gP.places es hs do
    if let some e:=es[i]? then
     if e.hash==hs then
      let before ←dictEpoch d (keyPart key)
      let same ←eqBool e.key key
      if(←dictEpoch d (keyPart key)) != before then unsupported "dict.changed-during-lookup"
      if same then
       if hit.isSome then unsupported "dict.find:order-among-keys-of-one-hash"
       rule "dict.find.hit"
       if stored.length<2 then return some i
       hit:=some i
      else
       rule "dict.find.same-hash-other-key"
       if tells&&!(0≤hs&&hs<32)then unsupported "dict.find:asked-again-or-not-hangs-on-the-table"
   return hit) Q E s:=by
 refine aE S.obj ?_;intro o ep ho hd;have go:∀{tells:Bool},tells=false->QQ (R6 C.prog C.w) A (do
   if tells&&stored.length≥2 then unsupported "dict.find:order-among-keys-of-one-hash"
   let mut hit:Option Nat:=none
   for i in gP.places es hs do
    if let some e:=es[i]? then
     if e.hash==hs then
      let before ←dictEpoch d (keyPart key)
      let same ←eqBool e.key key
      if(←dictEpoch d (keyPart key)) != before then unsupported "dict.changed-during-lookup"
      if same then
       if hit.isSome then unsupported "dict.find:order-among-keys-of-one-hash"
       rule "dict.find.hit"
       if stored.length<2 then return some i
       hit:=some i
      else
       rule "dict.find.same-hash-other-key"
       if tells&&!(0≤hs&&hs<32)then unsupported "dict.find:asked-again-or-not-hangs-on-the-table"
   return hit) Q E s:=by
  rintro _ rfl;refine Qy (TL _ (λrest b s'=>s'=s∧∃hit,b=(none,hit)∧rest.Sublist (gP.places es hs)∧((hit=none∧∀j,J=some j->j∈rest)∨hit=J∧∀j,J=some j->j∉rest)) _ ?_ ?_ _ _ ⟨rfl,none,rfl,.refl _,.inl ⟨rfl,λj h=>S.mem h⟩⟩)
  ·rintro x rest b s' ⟨rfl,hit,rfl,hm,hJ⟩;refine ah (gP.place (hm.subset QF)) ?_;intro e he hh;have hm':=(List.sublist_cons_self x rest).trans hm;refine rwr he ?_;refine CA (λzz=>?_) λz=>absurd hh z;refine Qy (Sp ho hd (Qy (S.same x e he _ (Qy (Sp ho hd ?_)))));refine rwr (if_neg (by simp)) ?_;by_cases hx:J=some x
   ·refine rwr (decide_eq_true hx) (rwr (if_pos rfl) ?_);rcases hJ with zq|zq
    ·refine ar zq ?_;clear zq;rintro rfl _;have nx:x∉rest:=(RN.mp ((List.nodup_range.sublist (List.filter_sublist ..)).sublist hm)).1;refine Qy (SU (CA (λzz=>QC (QC (hx▸q))) λzz=>QC ⟨rfl,some x,rfl,hm',.inr ⟨hx.symm,λj h=>?_⟩⟩));cases hx.symm.trans h;exact nx
    ·refine ar zq ?_;clear zq;intro _ hn;exact absurd QF (hn x hx)
   ·refine rwr (decide_eq_false hx) (rwr (if_neg (by decide)) ?_);refine Qy (SU (QC ⟨rfl,hit,rfl,hm',hJ.imp (λh=>⟨h.1,λj e=>(QH.mp (h.2 j e)).resolve_left λz=>hx (by exact rwr e (rwr z rfl))⟩) λh=>⟨h.1,λj e z=>h.2 j e (QI _ z)⟩⟩))
  ·rintro b s' ⟨rfl,hit,rfl,_,hJ⟩;refine QC ?_;rcases hJ with zq|zq
   ·refine ar zq ?_;clear zq;rintro rfl h;have:J=none:=by
     cases J with
     |none=>rfl
     |some j=>cases h j rfl
    exact this▸q
   ·refine ar zq ?_;clear zq;rintro rfl _;exact q
 exact CA (λzz=>Qy (QC (go rfl))) λzz=>Qy (S.tells hst (go rfl))
theorem gP.find{Q:Option Nat->QE->Prop}(q:Q J s):QQ (R6 C.prog C.w) A (dictFind d key hs) Q E s:=by
 refine aE S.obj ?_;intro o ep ho hd;unfold dictFind;refine Rn (Qy (SW ho hd ?_));have hst:∀v∈(gP.places es hs).filterMap (λi=>es[i]?.map (·.key)),∃(i:Nat)(e:Rw),es[i]?=some e∧e.key=v:=λv hv=>by
  refine Lk hv ?_;rintro i-hi;refine wM hi ?_;intro e he hk;exact⟨i,e,he,hk⟩
 cases key with
 |ref a=>
  refine CA (λzz=>S.plain q) λzz=>CA (λh=>?_) λzz=>S.tail hst q;refine ah (Array.any_eq_true'.mp h) ?_;clear h;intro e he h;rw[UE,beq_iff_eq,bne_iff_ne]at h;exact absurd (S.byRef a rfl e he h.1) h.2
 |str x t=>exact CA (λzz=>S.found rfl q) λzz=>CA (λzz=>S.plain q) λzz=>S.tail hst q
 |_=>exact CA (λzz=>S.plain q) λzz=>S.tail hst q
end
section
variable{A:RR}{E:QD->QE->Prop}{s:QE}{d:Ri}{o:Obj}{es:Array Rw}{ep:Nat}{kd:KD}{k:KV}{key:QD}{J:Option Nat}
theorem pA.at_{es:List Rw}{iy:List (KV×KV)}(h:pA C R es iy){i:Nat}{e:Rw}(he:es[i]?=some e):∃kv,iy[i]?=some kv∧IH C R e kv:=by
 have hl:i<iy.length:=h.1▸(Rc.mp he).1;exact⟨_,QM hl,h.2 i e _ he (QM hl)⟩
theorem pA.plain{es:List Rw}{iy:List (KV×KV)}(h:pA C R es iy):∀kv∈iy,pk kv.1=true:=by
 intro kv hm;refine az (Uc.mp hm) ?_;intro i zq;refine az zq ?_;clear zq;rintro hi rfl;have hl:i<es.length:=h.1▸hi;exact(h.2 i _ _ (QM hl) (QM hi)).plain
variable(hp:pk k=true)(hk:VR C R k key)(hs:s.heap=R.h)(ho:s.heap.get? d=some o)(hd:o.data=.dict es ep)(hE:pA C R es.toList (pairs kd))(hu:A.units+6<cLine)
include hp hk hs ho hd hE hu
theorem wi(hJ:IG (pairs kd) k J)(hl:∀j,J=some j->j<(pairs kd).length):gP C A E s d es key (x8 C.w k) J:=by
 have at_:∀{i:Nat}{e:Rw},es[i]?=some e->∃kv,IH C R e kv∧(kv.1=k↔J=some i):=λ{i e} he=>by
  refine ah (hE.at_ (i:=i) (e:=e) (by rw[R9];exact he)) ?_;intro kv a b;exact⟨kv,b,hJ i kv a⟩
 refine⟨⟨o,ep,ho,hd⟩,λi e he Q q=>?_,λj hj=>?_,λQ q=>(wH k).1 5 8 key A Q (by decide) hp hk hs q,λi e he Q q=>?_,λx t e i en he=>?_,λa e en hm h=>?_⟩
 ·refine ah (at_ he) ?_;intro kv r h;refine Bk r.plain hp hs r.key hk hu ?_;have:bU kv.1 k=decide (J=some i):=by rw[S6,wU r.plain,h,decide_eq_true_eq]
  rw[this];exact q
 ·have hl:=hl j hj;rw[←hE.1,QL]at hl;refine ah (at_ (RF hl)) ?_;intro kv r h;exact⟨_,RF hl,by rw[r.hash,h.mpr hj]⟩
 ·refine ah (at_ he) ?_;rintro kv r -;exact(wH kv.1).1 5 8 _ A Q (by decide) r.plain r.key hs q
 ·refine ah (at_ he) ?_;intro kv r h;rw[←h];have hkey:=r.key;generalize hek:en.key=ek at*;subst e
  constructor
  ·intro hx;cases ek with
   |str x' t'=>
    have:x'=x:=by simpa[Value.isStr]using hx
    subst this;have gen:∀{y:KV}{t:Tok},pk y=true->VR C R y (.str x' t)->y=.str (iz x'):=λ{y t} hy h=>by
     cases y with
     |none=>exact R7 h
     |nat=>refine az h ?_;clear h;intro _ e;exact R7 e
     |neg=>refine az h ?_;clear h;intro _ e;exact R7 e
     |str=>refine aH h ?_;clear h;rintro _ _ e e2 -;cases e;exact rwr e2 rfl
     |nil=>refine ah h ?_;clear h;rintro _ e -;exact R7 e
     |cons=>refine f9 h ?_;clear h;rintro _ _ _ e -;exact R7 e
     |_=>exact aO hy
    exact rwr (gen r.plain hkey) (rwr (gen hp hk) rfl)
   |_=>simp[Value.isStr]at hx
  ·intro hx;rw[hx]at hkey;cases k with
   |none=>exact R7 hk
   |nat=>refine az hk ?_;clear hk;intro _ e;exact R7 e
   |neg=>refine az hk ?_;clear hk;intro _ e;exact R7 e
   |str=>
    refine aH hk ?_;clear hk;intro s1 _ e e2 ok;cases e;refine aH hkey ?_;clear hkey;intro s2 _ e e3 ok';refine rwr e (rwr (xk ok' ok (e3.trans e2.symm)) ?_);exact if_pos rfl
   |nil=>refine ah hk ?_;clear hk;rintro _ e -;exact R7 e
   |cons=>refine f9 hk ?_;clear hk;rintro _ _ _ e -;exact R7 e
   |_=>exact aO hp
 ·refine az (Array.mem_iff_getElem.mp hm) ?_;intro i zq;refine az zq ?_;clear zq;rintro hi rfl;refine ah (at_ (RF hi)) ?_;rintro kv r -;exact rwr r.hash (rwr (VR.inj r.plain hp (h▸r.key) (e▸hk)) rfl)
theorem jr{Q:Option QD->QE->Prop}(hn:((pairs kd).map (·.1)).Nodup)(hnone:dl kd k=none->∀t',Q none {s with toks:=t'})(hsome:∀v val,dl kd k=some v->VR C R v val->∀t',Q (some val) {s with toks:=t'}):
  QQ (R6 C.prog C.w) A (dictGet d key) Q E s:=by
 refine vC (x:=k) .none hE.plain hn ?_;rintro J h1 h2 h3 -;unfold dictGet;refine Rn (Qy (tF hp hk hs (by exact QG (RA (A.units+5).succ) hu) λt'=>Qy ((wi (s:={s with toks:=t'}) hp hk hs ho hd hE hu h1 h3).find ?_)));cases J with
 |none=>exact QC (hnone h2 t')
 |some j=>
  refine Qy (SW (s:={s with toks:=t'}) ho hd ?_);have hl:=h3 j rfl;have hl':=hl;rw[←hE.1,QL]at hl';have he:=RF hl';refine ah (hE.at_ (i:=j) (by refine rwr (R9) ?_;exact he)) ?_;intro kv a r;refine rwr he ?_;exact QC (hsome kv.2 _ (by rw[h2,Sj,a];rfl) r.val t')
theorem yj{v:KV}{val:QD}{Q:Unit->QE->Prop}(hn:((pairs kd).map (·.1)).Nodup)(hv:VR C R v val)(hx:o.ExactDict)(hsz:(pairs kd).length≤sizeLine)
  (hQ:∀h' t' o' es' ep',h'.get? d=some o'->o'.ExactDict->o'.data=.dict es' ep'->RM d s.heap h'->pA C R es'.toList (pairs (dset kd k v))->((pairs (dset kd k v)).map (·.1)).Nodup->(ep=(pairs kd).length->ep'=(pairs (dset kd k v)).length)->
   (pairs (dset kd k v)).length=(if(dl kd k).isSome then(pairs kd).length else(pairs kd).length+1)->Q () {s with heap:=h',toks:=t'}):
  QQ (R6 C.prog C.w) A (dictSet d key val) Q E s:=by
 refine vC (x:=k) v hE.plain hn ?_;intro J h1 h2 h3 h4;have hes:es.size=(pairs kd).length:=by exact rwl hE.1 (rwr QL rfl)
 unfold dictSet;refine Rn (Qy (tF hp hk hs (by exact QG (RA (A.units+5).succ) hu) λt'=>?_));unfold dictSetHashed;refine Rn (Qy ((wi (s:={s with toks:=t'}) hp hk hs ho hd hE hu h1 h3).find ?_));cases J with
 |none=>
  dsimp only at h4;refine Qy (SU (wpAny_updateDictKeys (hz:=by simp_all+arith) (s:={s with toks:=t'}) ho hd
   (hQ _ t' _ _ (ep+1) (RT _ ho (Obj.isFreed_of_dict (Obj.data_mapDictKeys hd _))) (hx.mapDictKeys _) (Obj.data_mapDictKeys hd _) (RE ..) ?_ ?_ (λe=>by refine rwr h4 ?_;simp[e]) (by refine rwr h4 (rwr h2 ?_);exact QT))))
  ·refine rwr h4 (rwr TU ?_);refine⟨by simp[hE.1],λi e kv a b=>?_⟩;rw[List.getElem?_append]at a b;rw[hE.1]at a
   split at a
   ·rename_i hi;rw[if_pos hi]at b;exact hE.2 i e kv a b
   ·rename_i hi;rw[if_neg hi]at b;have hz:i-(pairs kd).length=0:=by have:=(Rc.mp a).1;simpa using this
    rw[hz]at a b;cases a;cases b;exact⟨hp,rfl,hk,hv⟩
  ·rw[h4,S1,List.nodup_append];refine⟨hn,by simp,λx hx y hy=>?_⟩;cases RZ.mp hy;refine nR hx ?_;rintro kv hm rfl;refine az (Uc.mp hm) ?_;intro i zq;refine az zq ?_;clear zq;rintro hi rfl;intro z;exact cO ((h1 i _ (QM hi)).mp z)
 |some j=>
  dsimp only at h4;have hl:=h3 j rfl;have hkj:=(h1 j _ (QM hl)).mpr rfl;refine Qy (SU (Qy (wpAny_updateDict (s:={s with toks:=t'}) ho hd (wpAny_point
   (hQ _ t' _ _ ep (RT _ ho (Obj.isFreed_of_dict (Obj.data_mapDict hd _))) (hx.mapDict _) (Obj.data_mapDict hd _) (RE ..) ?_ ?_ (λe=>by refine rwr h4 ?_;simp[e]) (by refine rwr h4 (rwr h2 ?_);simp[QM hl]))))))
  ·refine rwr h4 ?_;refine⟨by simpa using hE.1,λi e kv a b=>?_⟩;rw[Array.toList_modify,List.getElem?_modify]at a;rw[List.getElem?_set]at b;refine wM a ?_;clear a;rintro e0 a0 rfl;by_cases hij:j=i
   ·subst hij;rw[if_pos rfl,if_pos hl]at b;cases b;have r:=hE.2 j e0 _ a0 (QM hl);refine rwr (if_pos rfl) ?_;exact⟨hp,r.hash.trans (by exact rwr hkj rfl),hkj▸r.key,hv⟩
   ·rw[if_neg hij]at b ⊢;exact hE.2 i e0 kv a0 b
  ·have:((pairs kd).set j (k,v)).map (·.1)=(pairs kd).map (·.1):=by
    refine rwr List.map_set ?_;refine List.ext_getElem? λi=>?_;refine rwr (List.getElem?_set) ?_;by_cases e:j=i
    ·subst e;refine rwr (if_pos rfl) (rwr (if_pos (by simpa using hl)) (rwr (Rj) (rwr (QM hl) (rwl hkj ?_))));rfl
    ·exact rwr (if_neg e) rfl
   refine rwr h4 (rwr this ?_);exact hn
end
end
section
open PySem PySem.W PyProof.Rows
section
variable{C:Cx}{R R' R'':Wd}{X Y:List Ri}
theorem fj{α:Type}(q:Pa):tg q (T.nil:T α)=none:=by cases q<;>rfl
theorem aS{α:Type}(x:α):∀(q:Pa)(t:T α),tg q (tp q x t)=some x:=by
 intro q;induction q with
 |e=>intro t;cases t<;>rfl
 |_ q ih=>intro t;cases t<;>exact ih _
theorem am{α:Type}(x:α):∀{q p:Pa}{t:T α},p≠q->tg p (tp q x t)=tg p t:=by
 intro q;induction q with
 |e=>intro p t n;cases p<;>cases t<;>first|rfl|exact absurd rfl n|exact fj _
 |_ q ih=>intro p t n;cases p<;>cases t<;>first|rfl|exact ih (λe=>n (e▸rfl))|exact fj _|exact(ih (t:=.nil) (λe=>n (e▸rfl))).trans (fj _)
noncomputable def bB:Pa->Nat
 |.e=>0
 |.a q=>8*bB q+1
 |.b q=>8*bB q+2
 |.c q=>8*bB q+3
 |.d q=>8*bB q+4
 |.f q=>8*bB q+5
 |.g q=>8*bB q+6
 |.h q=>8*bB q+7
 |.i q=>8*bB q+8
theorem mw:∀q,bB (qs q)=bB q+1
 |.e=>rfl
 |.a _=>rfl
 |.b _=>rfl
 |.c _=>rfl
 |.d _=>rfl
 |.f _=>rfl
 |.g _=>rfl
 |.h _=>rfl
 |.i q=>by show 8*bB (qs q)+1=8*bB q+8+1;refine rwr (mw q) ?_;rfl
theorem eY:∀n,bB (cy n)=n
 |0=>rfl
 |n+1=>by show bB (qs (cy n))=_;rw[mw,eY n]
theorem An{n m:Nat}(h:n≠m):cy n≠cy m:=λe=>h (by rw[←eY n,e,eY])
theorem nn{α:Type}{o:α}{x:Option α}(h:x=none)(k:x=some o):False:=by rw[h]at k;exact cO k
def yD(b:Ri)(p:iu):Prop:=b=p.fst∨b=p.snd
def dA(R:Wd)(b:Ri):Prop:=∃q p,R.ρ q=some p∧yD b p
def fb(R:Wd)(c:Ri):Prop:=∃q p,R.ρ q=some p∧c∈p.cs
def ma(o o':Obj):Prop:=o'=o∨((∃es ep,o.data=.dict es ep)∧∃sl,o'={o with slots:=sl})
theorem ma.trans{a b c:Obj}(x:ma a b)(y:ma b c):ma a c:=by
 rcases x with rfl|⟨h,sl,rfl⟩
 ·exact y
 ·rcases y with rfl|⟨_,sl',rfl⟩
  ·exact .inr ⟨h,sl,rfl⟩
  ·exact .inr ⟨h,sl',rfl⟩
theorem ma.data{a b:Obj}(x:ma a b):b.data=a.data∧b.cls=a.cls∧b.dict=a.dict:=by
 rcases x with rfl|⟨_,sl,rfl⟩<;>exact⟨rfl,rfl,rfl⟩
def kS(X:List Ri)(h:SG)(b:Ri):Prop:=h.get? b=none∨b∈X
structure ay(X:List Ri)(R R':Wd):Prop where
 ref:∀q p,R.ρ q=some p->R'.ρ q=some p
 new:∀q p,R'.ρ q=some p->R.ρ q=some p∨kS X R.h p.fst∧kS X R.h p.snd∧∀c∈p.cs,kS X R.h c
 tup:∀a items,R.h.IsTuple a items->R'.h.IsTuple a items
 ext:∀b o,R.h.get? b=some o->¬dA R b->b∉X->∃o',R'.h.get? b=some o'∧ma o o'
 live:∀b o,b∉X->R.h.get? b=some o->∃o',R'.h.get? b=some o'
 code:∀cd q,R.h.CodeRec cd q->R'.h.CodeRec cd q
 fl:∀a o,R.fz a->R.h.get? a=some o->R'.fz a∧R'.h.get? a=some o
 fn:∀a,R'.fz a->R.fz a∨kS X R.h a
theorem Cr.later(L:ay X R R'):∀(x:KV),(∀v,VR C R x v->VR C R' x v)∧(∀vs,bG C R x vs->bG C R' x vs):=by
 intro x;induction x with
 |ref q=>exact⟨λv=>Ts λp h=>⟨L.ref q p h.1,h.2⟩,λzz h=>h⟩
 |nil=>exact⟨λv=>Ts λa h=>⟨h.1,L.tup _ _ h.2⟩,λzz h=>h⟩
 |cons x r i1 i2=>exact⟨λv=>Ts λa=>Ts λu=>Ts λus h=>⟨h.1,L.tup _ _ h.2.1,i1.1 u h.2.2.1,i2.2 us h.2.2.2.1,h.2.2.2.2⟩,λvs=>Ts λu=>Ts λus h=>⟨h.1,i1.1 u h.2.1,i2.2 us h.2.2⟩⟩
 |fl x i=>exact⟨λv=>Ts λa=>Ts λvs=>Ts λk h=>⟨h.1,(L.fl a _ h.2.1 h.2.2.1).1,(L.fl a _ h.2.1 h.2.2.1).2,i.2 _ h.2.2.2.1,h.2.2.2.2⟩,λzz h=>h⟩
 |_=>exact⟨λzz h=>h,λzz h=>h⟩
theorem VR.later{x:KV}{v:QD}(h:VR C R x v)(L:ay X R R'):VR C R' x v:=(Cr.later L x).1 v h
theorem bG.later{x:KV}{vs:List QD}(h:bG C R x vs)(L:ay X R R'):bG C R' x vs:=(Cr.later L x).2 vs h
theorem pA.later{es:List Rw}{iy:List (KV×KV)}(h:pA C R es iy)(L:ay X R R'):pA C R' es iy:=
 ⟨h.1,λi e kv a b=>let r:=h.2 i e kv a b;⟨r.plain,r.hash,r.key.later L,r.val.later L⟩⟩
theorem ay.refl(X:List Ri)(R:Wd):ay X R R:=⟨λZ Z h=>h,λZ Z h=>.inl h,λZ Z h=>h,λZ o e Z Z=>⟨o,e,.inl rfl⟩,λZ o Z e=>⟨o,e⟩,λZ Z h=>h,λZ Z a b=>⟨a,b⟩,λZ=>.inl⟩
theorem ay.dead(L:ay X R R'){b:Ri}(h:kS X R'.h b):kS X R.h b:=by
 by_cases hx:b∈X
 ·exact .inr hx
 ·cases e:R.h.get? b with
  |none=>exact .inl e
  |some o=>refine az (L.live b o hx e) ?_;intro o' e';exact(nn (h.resolve_right hx) e').elim
theorem ay.owned(L:ay X R R'){b:Ri}(h:¬kS X R.h b)(ho:dA R' b):dA R b:=by
 refine aE ho ?_;clear ho;intro q p hp hb;rcases L.new q p hp with e|zq
 ·exact⟨q,p,e,hb⟩
 ·refine b0 zq ?_;clear zq;intro e1 e2 _;rcases hb with rfl|rfl
  ·exact absurd e1 h
  ·exact absurd e2 h
theorem ay.frozen(L:ay X R R'){b:Ri}(h:¬kS X R.h b)(ho:fb R' b):fb R b:=by
 refine aE ho ?_;clear ho;intro q p hp hb;rcases L.new q p hp with e|zq
 ·exact⟨q,p,e,hb⟩
 ·refine b0 zq ?_;clear zq;intro _ _ e;exact absurd (e b hb) h
theorem dL{h:SG}{b:Ri}{o:Obj}(e:h.get? b=some o)(hx:b∉X):¬kS X h b:=λq=>nn (q.resolve_right hx) e
theorem ay.trans(L:ay X R R')(M:ay X R' R''):ay X R R'':=by
 refine⟨λq p h=>M.ref q p (L.ref q p h),λq p h=>?_,λa i t=>M.tup _ _ (L.tup _ _ t),λb o e no nx=>?_,λb o nx e=>?_,λZ Z r=>M.code _ _ (L.code _ _ r),λa o f e=>let z:=L.fl a o f e;M.fl a o z.1 z.2,λa f=>?_⟩
 ·rcases M.new q p h with e|zq
  ·exact L.new q p e
  ·refine b0 zq ?_;clear zq;intro e1 e2 e3;exact .inr ⟨L.dead e1,L.dead e2,λc hc=>L.dead (e3 c hc)⟩
 ·refine ah (L.ext b o e no nx) ?_;intro o' e' a;refine ah (M.ext b o' e' (λh=>no (L.owned (dL e nx) h)) nx) ?_;intro o'' e'' a';exact⟨o'',e'',a.trans a'⟩
 ·refine az (L.live b o nx e) ?_;intro o' e';exact M.live b o' nx e'
 ·exact(M.fn a f).elim (L.fn a) λg=>.inr (L.dead g)
theorem ay.strike(L:ay X R R')(s:∀b∈X,b∈Y∨R.h.get? b=none):ay Y R R':=by
 have go:∀{b},kS X R.h b->kS Y R.h b:=λh=>h.elim .inl λq=>(s _ q).symm;have nx:∀{b o},R.h.get? b=some o->b∉Y->b∉X:=λe n q=>(s _ q).elim n λz=>nn z e;exact⟨L.ref,λq p h=>(L.new q p h).imp id λ⟨a,b,c⟩=>⟨go a,go b,λx hx=>go (c x hx)⟩,L.tup,λb o e no n=>L.ext b o e no (nx e n),λb o n e=>L.live b o (nx e n) e,L.code,L.fl,λa f=>(L.fn a f).imp id go⟩
theorem ay.mono(L:ay X R R')(s:∀b∈X,b∈Y):ay Y R R':=L.strike λb h=>.inl (s b h)
def oQ{α β:Type}(r:α->β->Prop):Option α->Option β->Prop
 |.some x,.some y=>r x y
 |.none,.none=>True
 |_,_=>False
noncomputable def ip(es:List Rw)(nm:Str):Option QD:=(es.find? (·.key.isStr nm)).map (·.val)
def vU(C:Cx)(R:Wd)(fs:T KV)(es:List Rw):Prop:=es.any (·.refKey)=false∧(∀nm,oQ (VR C R) ((C.sl nm).bind λq=>tg q fs) (ip es nm))∧∃ns:List Str,ns.Nodup∧ns.length=es.length∧∀nm∈ns,(ip es nm).isSome=true
noncomputable def frees(sc:Tp):List Str:=(sc.names.filter λx=>x.2==.free).map (·.1)
structure KZ(C:Cx)(R:Wd)(q:Pa)(cs:KV)(p:iu)(fd:UR):Prop where
 lam:∃e,C.lam q=some (fd.params,e,fd.scope)∧fd.body=.expr e
 glob:fd.globals=Rh
 bi:fd.builtins=RY
 dflt:fd.defaults=.none
 code:R.h.CodeRec fd.code fd.qualname
 keep:∀x∈fd.closure,x.2∈p.cs∧C.asg x.1=false
 inj:∀nm nm' ca,fd.closure.lookup nm=some ca->fd.closure.lookup nm'=some ca->nm=nm'
 caps:∃vs,bG C R cs vs∧vs.length=(frees fd.scope).length∧∀(i:Nat)(nm:Str)(v:QD),(frees fd.scope)[i]?=some nm->vs[i]?=some v->∃ca ob,fd.closure.lookup nm=some ca∧R.h.get? ca=some ob∧ob.data=.cell (some v)
def Pd(C:Cx)(a m es:KD):Prop:=∀x,pk x=true->match dl a x with
 |some v=>∃u,dl es x=some u∧∀(R:Wd) w,VR C R u w->VR C R v w
 |none=>match dl m x with
  |some v=>(∃u,dl es x=some u∧∀(R:Wd) w,VR C R u w->VR C R v w)∨dl es x=none∧∀(R:Wd) w,VR C R dflt w->VR C R v w
  |none=>dl es x=none
def oV(C:Cx)(R:Wd)(n:Nat)(es:KD)(p:iu):Prop:=p.snd=p.fst∧∃ob es' ep,R.h.get? p.fst=some ob∧ob.ExactDict∧ob.data=.dict es' ep∧pA C R es'.toList (pairs es)∧((pairs es).map (·.1)).Nodup∧n=(pairs es).length∧n≤100000∧ep=n
def eR(C:Cx)(R:Wd)(o:KO)(p:iu):Prop:=match o with
 |.list n xs=>p.snd=p.fst∧∃vs k,R.h.get? p.fst=some {cls:=.type "list",data:=.seq vs k}∧bG C R xs vs.toList∧n=vs.size∧n≤100000
 |.dict n es=>oV C R n es p
 |.junk n=>p.snd=p.fst∧∃vs k,R.h.get? p.fst=some (ii vs k)∧vs.size≤n∧n≤100000
 |.pd a m=>∃n es,oV C R n es p∧Pd C a m es
 |.set xs=>p.snd=p.fst∧∃S n,R.h.SetOf (strKind C.prog C.w) p.fst S n∧n≤len xs∧len xs≤1001
 |.inst c fs=>∃a,C.clsAt c=some a∧R.h.get? p.fst=some (instObj a p.snd)∧∃es n,R.h.get? p.snd=some (dictOf es n)∧vU C R fs es
 |.clo q cs=>p.snd=p.fst∧∃fd ob,R.h.get? p.fst=some ob∧ob.cls=.type "function"∧ob.data=.func fd∧KZ C R q cs p fd
theorem oQ.imp{α β:Type}{r r':α->β->Prop}(f:∀x y,r x y->r' x y):∀{a:Option α}{b:Option β},oQ r a b->oQ r' a b
 |.some x,.some y,h=>f x y h
 |.none,.none,h=>h
 |.none,.some _,h=>h
 |.some _,.none,h=>h
theorem eR.move(L:ay X R R'){o:KO}{p:iu}(k1:R'.h.get? p.fst=R.h.get? p.fst)(k2:R'.h.get? p.snd=R.h.get? p.snd)(k3:∀c∈p.cs,R'.h.get? c=R.h.get? c)(r:eR C R o p):eR C R' o p:=by
 have dc:∀{n iy},oV C R n iy p->oV C R' n iy p:=λr=>by refine ar r ?_;clear r;intro e zq;refine dM zq ?_;clear zq;intro ob es ep a b c d f;exact⟨e,ob,es,ep,k1.trans a,b,c,d.later L,f⟩
 cases o with
 |list n xs=>refine ar r ?_;clear r;intro e zq;refine aH zq ?_;clear zq;intro vs k a b c;exact⟨e,vs,k,k1.trans a,b.later L,c⟩
 |dict n iy=>exact dc r
 |junk n=>refine ar r ?_;intro e zq;refine aE zq ?_;intro vs k a b;exact⟨e,vs,k,k1.trans a,b⟩
 |pd a m=>refine aE r ?_;intro n es a b;exact⟨n,es,dc a,b⟩
 |set xs=>refine ar r ?_;clear r;intro e zq;refine aE zq ?_;clear zq;intro S n zq2 c;refine uc zq2 ?_;clear zq2;intro ob es ep tb a b;exact⟨e,S,n,⟨ob,es,ep,tb,k1.trans a,b⟩,c⟩
 |inst c fs=>refine b8 r ?_;clear r;intro a b c zq;refine aH zq ?_;clear zq;intro es n d e f;exact⟨a,b,k1.trans c,es,n,k2.trans d,e,λnm=>(f.1 nm).imp λZ Z h=>h.later L,f.2⟩
 |clo q cs=>
  refine ar r ?_;clear r;intro e zq;refine d9 zq ?_;clear zq;intro fd ob a b c K;refine⟨e,fd,ob,k1.trans a,b,c,K.lam,K.glob,K.bi,K.dflt,L.code _ _ K.code,K.keep,K.inj,?_⟩;refine b8 K.caps ?_;intro vs h1 h2 h3;refine⟨vs,h1.later L,h2,λi nm v q1 q2=>?_⟩;refine aH (h3 i nm v q1 q2) ?_;intro ca ob z1 z2 z3;exact⟨ca,ob,z1,(k3 _ (K.keep _ (QV z1)).1).trans z2,z3⟩
def qt(ob:Obj):Prop:=ob.cls≠.type "tuple"∧(∀v,ob.data≠.cell v)∧∀vs,ob.data≠.fields vs
theorem eR.solid{o:KO}{p:iu}(r:eR C R o p){b:Ri}(hb:yD b p):∃ob,R.h.get? b=some ob∧qt ob:=by
 have both:∀{ob:Obj},p.snd=p.fst->R.h.get? p.fst=some ob->qt ob->∃ob,R.h.get? b=some ob∧qt ob:=λe a s=>by
  rcases hb with rfl|rfl
  ·exact⟨_,a,s⟩
  ·exact⟨_,e▸a,s⟩
 have dc:∀{n iy},oV C R n iy p->∃ob,R.h.get? b=some ob∧qt ob:=λr=>by refine ar r ?_;clear r;intro e zq;refine fN zq ?_;clear zq;rintro ob es ep a b d -;exact both e a ⟨by refine rwr b.1 ?_;decide,λv=>by refine rwr d ?_;((repeat intro);contradiction),λv=>by refine rwr d ?_;((repeat intro);contradiction)⟩
 cases o with
 |list n xs=>refine ar r ?_;clear r;intro e zq;refine aE zq ?_;clear zq;rintro vs n a -;exact both e a ⟨by exact ne_of_beq_false rfl,λv=>(by(repeat intro);contradiction),λv=>(by(repeat intro);contradiction)⟩
 |dict n iy=>exact dc r
 |junk n=>refine ar r ?_;intro e zq;refine aE zq ?_;rintro vs k a -;exact both e a ⟨by unfold ii;exact ne_of_beq_false rfl,λv=>(by(repeat intro);contradiction),λv=>(by(repeat intro);contradiction)⟩
 |pd a m=>refine aE r ?_;rintro n es a -;exact dc a
 |set xs=>refine ar r ?_;clear r;intro e zq;refine aE zq ?_;clear zq;intro S n zq2 c;refine jJ zq2 ?_;clear zq2;rintro ob es ep tb a b d -;exact both e a ⟨by refine rwr b.1 ?_;decide,λv=>by refine rwr d ?_;((repeat intro);contradiction),λv=>by refine rwr d ?_;((repeat intro);contradiction)⟩
 |inst c fs=>
  refine b8 r ?_;clear r;rintro a-c zq;refine aE zq ?_;clear zq;rintro es n d -;rcases hb with rfl|rfl
  ·exact⟨_,c,by simp,λv=>(by(repeat intro);contradiction),λv=>(by(repeat intro);contradiction)⟩
  ·exact⟨_,d,by exact ne_of_beq_false rfl,λv=>(by(repeat intro);contradiction),λv=>(by(repeat intro);contradiction)⟩
 |clo q cs=>refine ar r ?_;clear r;intro e zq;refine d9 zq ?_;clear zq;rintro fd ob a b c -;exact both e a ⟨by refine rwr b ?_;decide,λv=>by refine rwr c ?_;((repeat intro);contradiction),λv=>by refine rwr c ?_;((repeat intro);contradiction)⟩
end
section
variable{C:Cx}{R R':Wd}{X Y:List Ri}{μ μ':KS}{h':SG}
structure bM(C:Cx)(R:Wd)(μ:KS):Prop where
 next:∃m,μ.n=cy m∧∀i,m≤i->tg (cy i) μ.h=none
 dom:∀q p,R.ρ q=some p->∃o,tg q μ.h=some o∧eR C R o p
 cod:∀q o,tg q μ.h=some o->∃p,R.ρ q=some p
 keep:∀b o,C.h₀.get? b=some o->R.h.get? b=some o
 old:∀q p b,R.ρ q=some p->yD b p->C.h₀.get? b=none
 apart:∀q q' p p' b,R.ρ q=some p->R.ρ q'=some p'->yD b p->yD b p'->q=q'
 frz:∀c,fb R c->∃ob v,R.h.get? c=some ob∧ob.data=.cell v∧C.h₀.get? c=none
 vol:∀P∈C.vol,∃ps,R.h.get? P=some (tabObj ps)∧TriplesOk ps.toList∧∀pos cv,codeAmong pos ps.toList=some cv->R.h.CodeRec cv (C.volQ P)
 fz:∀a,R.fz a->(∃vs k,R.h.get? a=some (ii vs k))∧¬dA R a
theorem bM.at(G:bM C R μ){q:Pa}{o:KO}(e:tg q μ.h=some o):∃p,R.ρ q=some p∧eR C R o p:=by
 refine az (G.cod q o e) ?_;intro p hp;refine ah (G.dom q p hp) ?_;intro o' e' r;cases e.symm.trans e';exact⟨p,hp,r⟩
theorem bM.solid(G:bM C R μ){b:Ri}(h:dA R b):∃ob,R.h.get? b=some ob∧qt ob:=by
 refine aE h ?_;clear h;intro q p hp hb;refine ah (G.dom q p hp) ?_;rintro o-r;exact r.solid hb
theorem bM.notFrozen(G:bM C R μ){b:Ri}(ho:dA R b):¬fb R b:=λhf=>by
 refine cZ (G.solid ho) ?_;rintro ob e-s -;refine aH (G.frz b hf) ?_;rintro oc v e' d -;cases e.symm.trans e';exact s v d
theorem bM.notVol(G:bM C R μ){b:Ri}(ho:dA R b):b∉C.vol:=λhv=>by
 refine cZ (G.solid ho) ?_;rintro ob e- -s;refine ah (G.vol b hv) ?_;rintro ps e' -;cases e.symm.trans e';exact s _ rfl
theorem bM.dead(G:bM C R μ){b:Ri}(hb:R.h.get? b=none):C.h₀.get? b=none∧¬dA R b∧¬fb R b∧b∉C.vol:=by
 refine⟨?_,λh=>?_,λh=>?_,λh=>?_⟩
 ·cases e:C.h₀.get? b with
  |none=>rfl
  |some o=>exact(nn hb (G.keep b o e)).elim
 ·refine ah (G.solid h) ?_;rintro ob e -;exact nn hb e
 ·refine aE (G.frz b h) ?_;rintro ob v e -;exact nn hb e
 ·refine ah (G.vol b h) ?_;rintro ps e -;exact nn hb e
theorem bM.unfz(G:bM C R μ){b:Ri}(hb:R.h.get? b=none):¬R.fz b:=λh=>by refine fI (G.fz b h).1 ?_;intro vs k e;exact nn hb e
abbrev bv(h h':SG):Prop:=∀b o,h.get? b=some o->h'.get? b=some o
theorem ay.keeps(X:List Ri)(k:bv R.h h'):ay X R ⟨R.ρ,h',R.fz⟩:=
 ⟨λZ Z h=>h,λZ Z h=>.inl h,λ_ _ ⟨o,e,r⟩=>⟨o,k _ _ e,r⟩,λb o e Z Z=>⟨o,k b o e,.inl rfl⟩,λb o Z e=>⟨o,k b o e⟩,λZ Z r=>r.keeps k,λa o f e=>⟨f,k a o e⟩,λZ=>.inl⟩
theorem bM.step(G:bM C R μ)(L:ay [] R R')(hρ:R'.ρ=R.ρ)(hf:R'.fz=R.fz)(hμ:μ'.n=μ.n)(ht:∀q,(tg q μ'.h).isSome=(tg q μ.h).isSome)(hd:∀q p,R.ρ q=some p->∃o,tg q μ'.h=some o∧eR C R' o p)
  (k0:∀b o,C.h₀.get? b=some o->R'.h.get? b=some o) (kf:∀c,fb R c->R'.h.get? c=R.h.get? c) (kv:∀P∈C.vol,R'.h.get? P=R.h.get? P):bM C R' μ':=by
 refine⟨?_,λq p h=>hd q p (hρ▸h),λq o e=>?_,k0,λq p b h=>G.old q p b (hρ▸h),λq q' p p' b h h'=>G.apart q q' p p' b (hρ▸h) (hρ▸h'),λc hc=>?_,λP hP=>?_,λa ha=>?_⟩
 ·refine ah G.next ?_;intro m e f;refine⟨m,hμ.trans e,λi hi=>?_⟩;have:=ht (cy i);rw[f i hi]at this;cases e:tg (cy i) μ'.h with
  |none=>rfl
  |some o=>rw[e]at this;exact p7 this
 ·have:=ht q;rw[e]at this;refine IJ this.symm ?_;intro o' e';refine rwr hρ ?_;exact G.cod q o' e'
 ·refine aE hc ?_;clear hc;intro q p hp hm;have hf:fb R c:=⟨q,p,hρ▸hp,hm⟩
  refine aE (G.frz c hf) ?_;intro ob v e d;exact⟨ob,v,(kf c hf).trans e,d⟩
 ·refine b8 (G.vol P hP) ?_;intro ps e1 e2 e3;exact⟨ps,(kv P hP).trans e1,e2,λpos cv z=>L.code _ _ (e3 pos cv z)⟩
 ·have ha:R.fz a:=hf▸ha;refine ar (G.fz a ha) ?_;intro z n;refine fI z ?_;intro vs k e;exact⟨⟨vs,k,(L.fl a _ ha e).2⟩,λ⟨q,p,e,w⟩=>n ⟨q,p,hρ▸e,w⟩⟩
theorem gk{h h':SG}{b:Ri}(k:bv h h')(e:∃o,h.get? b=some o):h'.get? b=h.get? b:=by refine az e ?_;clear e;intro o e;refine rwr e ?_;exact k b o e
theorem bM.more(G:bM C R μ)(k:bv R.h h'):bM C ⟨R.ρ,h',R.fz⟩ μ:=by
 have L:=ay.keeps [] k;refine G.step L rfl rfl rfl (λzz=>rfl) (λq p h=>?_) (λb o e=>k b o (G.keep b o e)) (λc hc=>gk k ?_) (λP hP=>gk k ?_)
 ·refine ah (G.dom q p h) ?_;intro o e r;refine⟨o,e,r.move L (gk k ?_) (gk k ?_) λc hc=>gk k ?_⟩
  ·refine ah (r.solid (.inl rfl)) ?_;rintro ob e -;exact⟨ob,e⟩
  ·refine ah (r.solid (.inr rfl)) ?_;rintro ob e -;exact⟨ob,e⟩
  ·refine aE (G.frz c ⟨q,p,h,hc⟩) ?_;rintro ob v e -;exact⟨ob,e⟩
 ·refine aE (G.frz c hc) ?_;rintro ob v e -;exact⟨ob,e⟩
 ·refine ah (G.vol P hP) ?_;rintro ps e -;exact⟨_,e⟩
theorem ur{h h':SG}{b:Ri}{ob:Obj}(hs:RM b h h')(hb:h.get? b=some ob)(hd:∀vs,ob.data≠.fields vs){cd:QD}{q:Str}(r:h.CodeRec cd q):h'.CodeRec cd q:=by
 refine jJ r ?_;clear r;intro c o vs t e g d v;refine⟨c,o,vs,t,e,(hs.2 c ?_).trans g,d,v⟩;rintro rfl;cases hb.symm.trans g;exact hd _ d
theorem ay.but(X:List Ri){b:Ri}{ob:Obj}(hs:RM b R.h h')(hb:R.h.get? b=some ob)(hS:qt ob)(hlv:∃o,h'.get? b=some o)(ho:dA R b)(hz:¬R.fz b):ay X R ⟨R.ρ,h',R.fz⟩:=by
 refine⟨λZ Z h=>h,λZ Z h=>.inl h,λa i=>?_,λc o e n Z=>⟨o,(hs.2 c λz=>n (z▸ho)).trans e,.inl rfl⟩,λc o Z e=>?_,λcd q r=>ur hs hb hS.2.2 r,λa o f e=>⟨f,(hs.2 a λz=>hz (z▸f)).trans e⟩,λZ=>.inl⟩
 ·intro zq;refine b8 zq ?_;clear zq;intro o e' hc r;refine⟨o,(hs.2 a ?_).trans e',hc,r⟩;rintro rfl;cases hb.symm.trans e';exact hS.1 hc
 ·by_cases z:c=b
  ·subst z;exact hlv
  ·exact⟨o,(hs.2 c z).trans e⟩
theorem bM.set(G:bM C R μ){q:Pa}{p:iu}{o':KO}{b:Ri}(hp:R.ρ q=some p)(hb:yD b p)(hs:RM b R.h h')(hlv:∃o',h'.get? b=some o')(hO:ay [] R ⟨R.ρ,h',R.fz⟩->eR C ⟨R.ρ,h',R.fz⟩ o' p):
  bM C ⟨R.ρ,h',R.fz⟩ (bD μ q o')∧∀X,ay X R ⟨R.ρ,h',R.fz⟩:=by
 have ow:dA R b:=⟨q,p,hp,hb⟩
 refine ah (G.solid ow) ?_;intro ob e hS;have nf:=G.notFrozen ow;have L:∀X,ay X R ⟨R.ρ,h',R.fz⟩:=λX=>.but X hs e hS hlv ow λf=>(G.fz b f).2 ow;refine ah (G.dom q p hp) ?_;rintro o0 e0 -;refine⟨G.step (L []) rfl rfl rfl (λq'=>?_) (λq' p' h=>?_) (λc o e'=>(hs.2 c ?_).trans (G.keep c o e')) (λc hc=>hs.2 c λz=>nf (z▸hc)) λP hP=>hs.2 P λz=>G.notVol ow (z▸hP),L⟩
 ·show(tg q' (tp q o' μ.h)).isSome=_;by_cases z:q'=q
  ·subst z;rw[aS,e0];rfl
  ·exact rwr (am _ z) rfl
 ·show∃o,tg q' (tp q o' μ.h)=some o∧_;by_cases z:q'=q
  ·subst z;cases hp.symm.trans h;exact⟨o',aS ..,hO (L [])⟩
  ·refine rwr (am _ z) ?_;refine ah (G.dom q' p' h) ?_;intro o e r;exact⟨o,e,r.move (L []) (hs.2 _ λw=>z (G.apart q' q p' p b h hp (.inl w.symm) hb)) (hs.2 _ λw=>z (G.apart q' q p' p b h hp (.inr w.symm) hb)) λc hc=>hs.2 c λw=>nf ⟨q',p',h,w▸hc⟩⟩
 ·rintro rfl;exact nn (G.old q p c hp hb) e'
open Classical in
def Wd.add(R:Wd)(q:Pa)(p:iu)(h:SG):Wd:=⟨λx=>if x=q then some p else R.ρ x,h,R.fz⟩
theorem Wd.add_self{q:Pa}{p:iu}:(R.add q p h').ρ q=some p:=if_pos rfl
theorem Wd.add_other{q q':Pa}{p:iu}(n:q'≠q):(R.add q p h').ρ q'=R.ρ q':=if_neg n
theorem bM.newX(G:bM C R μ){o:KO}{p:iu}(k:bv R.h h'){X:List Ri}(hd:∀b,yD b p->kS X R.h b)(ho:∀b,yD b p->C.h₀.get? b=none∧¬dA R b∧¬R.fz b)(h3:∀c∈p.cs,kS X R.h c∧∃ob v,h'.get? c=some ob∧ob.data=.cell v∧C.h₀.get? c=none)
  (hO:ay X R (R.add μ.n p h')->eR C (R.add μ.n p h') o p):bM C (R.add μ.n p h') (aR μ o)∧ay X R (R.add μ.n p h')∧VR C (R.add μ.n p h') (.ref μ.n) (.ref p.fst):=by
 refine ah G.next ?_;intro m em fm;have free:R.ρ μ.n=none:=by
  cases e:R.ρ μ.n with
  |none=>rfl
  |some p=>refine ah (G.dom _ _ e) ?_;rintro o e' -;rw[em,fm m (QZ _)]at e';exact cO e'
 have old:∀{q p'},R.ρ q=some p'->q≠μ.n:=λe z=>nn free (z▸e);have cs:∀{q p'},(R.add μ.n p h').ρ q=some p'->(q=μ.n∧p'=p)∨q≠μ.n∧R.ρ q=some p':=λ{q p'} e=>by
  by_cases z:q=μ.n
  ·subst z;rw[Wd.add_self]at e;cases e;exact .inl ⟨rfl,rfl⟩
  ·rw[Wd.add_other z]at e;exact .inr ⟨z,e⟩
 have L:ay X R (R.add μ.n p h'):=by
  refine⟨λq p' e=>(Wd.add_other (old e)).trans e,λq p' e=>?_,λ_ _ ⟨o,e,r⟩=>⟨o,k _ _ e,r⟩,λb o e Z Z=>⟨o,k b o e,.inl rfl⟩,λb o Z e=>⟨o,k b o e⟩,λZ Z r=>r.keeps k,λa o f e=>⟨f,k a o e⟩,λZ=>.inl⟩;rcases cs e with zq|zq
  ·refine ar zq ?_;clear zq;rintro _ rfl;exact .inr ⟨hd _ (.inl rfl),hd _ (.inr rfl),λc hc=>(h3 c hc).1⟩
  ·refine ar zq ?_;clear zq;intro _ e;exact .inl e
 have no:∀{q p' b},R.ρ q=some p'->yD b p'->yD b p->False:=λe w1 w2=>(ho _ w2).2.1 ⟨_,_,e,w1⟩;have tgn:∀{q},q≠μ.n->tg q (aR μ o).h=tg q μ.h:=λn=>am _ n;refine⟨⟨⟨m+1,congrArg qs em,λi hi=>?_⟩,λq p' e=>?_,λq o' e=>?_,λb o e=>k b o (G.keep b o e),λq p' b e w=>?_,λq q' p1 p2 b e e' w w'=>?_,λc=>?_,λP hP=>?_,λa ha=>?_⟩,L,p,Wd.add_self,rfl⟩
 ·rw[tgn (by rw[em];exact An (by lia))];exact fm i (by exact QG (RA m) hi)
 ·rcases cs e with zq|zq
  ·refine ar zq ?_;clear zq;rintro rfl rfl;exact⟨o,aS ..,hO L⟩
  ·refine ar zq ?_;clear zq;intro z e;refine rwr (tgn z) ?_;refine ah (G.dom q p' e) ?_;intro o' e' r;refine⟨o',e',r.move L (gk k ?_) (gk k ?_) λc hc=>gk k ?_⟩
   ·refine ah (r.solid (.inl rfl)) ?_;rintro ob e -;exact⟨ob,e⟩
   ·refine ah (r.solid (.inr rfl)) ?_;rintro ob e -;exact⟨ob,e⟩
   ·refine aE (G.frz c ⟨q,p',e,hc⟩) ?_;clear e;rintro ob v e -;exact⟨ob,e⟩
 ·by_cases z:q=μ.n
  ·exact⟨p,z▸Wd.add_self⟩
  ·rw[tgn z]at e;refine rwr (Wd.add_other z) ?_;exact G.cod q o' e
 ·rcases cs e with zq|zq
  ·refine ar zq ?_;clear zq;rintro rfl rfl;exact(ho b w).1
  ·refine ar zq ?_;clear zq;intro z e;exact G.old q p' b e w
 ·rcases cs e with⟨rfl,rfl⟩|⟨z,e⟩<;>rcases cs e' with⟨rfl,rfl⟩|⟨z',e'⟩
  ·rfl
  ·exact(no (by assumption) w' w).elim
  ·exact(no (by assumption) w w').elim
  ·exact G.apart q q' p1 p2 b e e' w w'
 ·intro zq;refine aE zq ?_;clear zq;intro q p' e hc;rcases cs e with zq|zq
  ·refine ar zq ?_;clear zq;rintro rfl rfl;exact(h3 c hc).2
  ·refine ar zq ?_;clear zq;intro z e;refine aE (G.frz c ⟨q,p',e,hc⟩) ?_;intro ob v e3 d;exact⟨ob,v,k _ _ e3,d⟩
 ·refine b8 (G.vol P hP) ?_;intro ps e1 e2 e3;exact⟨ps,k _ _ e1,e2,λpos cv z=>(e3 pos cv z).keeps k⟩
 ·refine ar (G.fz a ha) ?_;intro z n;refine fI z ?_;intro vs c e;refine⟨⟨vs,c,k _ _ e⟩,λ⟨q,p',e,w⟩=>?_⟩;rcases cs e with zq|zq
  ·refine ar zq ?_;clear zq;rintro rfl rfl;exact(ho a w).2.2 ha
  ·refine ar zq ?_;clear zq;intro z e;exact n ⟨q,p',e,w⟩
theorem bM.new(G:bM C R μ){o:KO}{p:iu}(k:bv R.h h')(hd:∀b,yD b p->R.h.get? b=none){X:List Ri}(h3:∀c∈p.cs,kS X R.h c∧∃ob v,h'.get? c=some ob∧ob.data=.cell v∧C.h₀.get? c=none)
  (hO:ay X R (R.add μ.n p h')->eR C (R.add μ.n p h') o p):bM C (R.add μ.n p h') (aR μ o)∧ay X R (R.add μ.n p h')∧VR C (R.add μ.n p h') (.ref μ.n) (.ref p.fst):=
 G.newX k (λb w=>.inl (hd b w)) (λb w=>let z:=G.dead (hd b w);⟨z.1,z.2.1,G.unfz (hd b w)⟩) h3 hO
theorem bM.new0(G:bM C R μ){o:KO}{a b:Ri}(k:bv R.h h')(ha:R.h.get? a=none)(hb:R.h.get? b=none)(hO:ay [] R (R.add μ.n ⟨a,b,[]⟩ h')->eR C (R.add μ.n ⟨a,b,[]⟩ h') o ⟨a,b,[]⟩):
  bM C (R.add μ.n ⟨a,b,[]⟩ h') (aR μ o)∧(∀X,ay X R (R.add μ.n ⟨a,b,[]⟩ h'))∧VR C (R.add μ.n ⟨a,b,[]⟩ h') (.ref μ.n) (.ref a):=by
 have x:=G.new (p:=⟨a,b,[]⟩) (X:=[]) k (λc hc=>hc.elim (λe=>e▸ha) λe=>e▸hb) (λc hc=>by cases hc) hO;exact⟨x.1,λX=>x.2.1.mono (λzz h=>by cases h),x.2.2⟩
noncomputable def Wd.frz(R:Wd)(a:Ri):Wd:=⟨R.ρ,R.h,λb=>b=a∨R.fz b⟩
theorem bM.fz_add(G:bM C R μ){a:Ri}{vs:Array QD}{c:Nat}(hg:R.h.get? a=some (ii vs c))(ho:¬dA R a):bM C (R.frz a) μ:=
 have L:ay [a] R (R.frz a):=⟨λZ Z h=>h,λZ Z h=>.inl h,λZ Z h=>h,λZ o e Z Z=>⟨o,e,.inl rfl⟩,λZ o Z e=>⟨o,e⟩,λZ Z h=>h,λZ Z f e=>⟨.inr f,e⟩,λZ f=>f.elim (λz=>.inr (.inr (z▸QF))) .inl⟩
 ⟨G.next,λq p h=>by refine ah (G.dom q p h) ?_;intro o e r;exact⟨o,e,r.move L rfl rfl λZ Z=>rfl⟩,G.cod,G.keep,G.old,G.apart,G.frz,G.vol,λb f=>f.elim (λz=>by refine rwr z ?_;exact⟨⟨vs,c,hg⟩,ho⟩) (G.fz b)⟩
structure Pt(C:Cx)where
 R:Wd
 m:KS
 t:Nat
 good:bM C R m
noncomputable def Pt.s(P:Pt C):QE:=⟨P.R.h,C.g,C.d,P.t,C.os⟩
noncomputable def Pt.tick(P:Pt C)(t:Nat):Pt C:=⟨P.R,P.m,t,P.good⟩
noncomputable def Pt.more(P:Pt C){h:SG}(k:bv P.R.h h)(t:Nat):Pt C:=⟨⟨P.R.ρ,h,P.R.fz⟩,P.m,t,P.good.more k⟩
def Kp(C:Cx)(X:List Ri)(R:Wd)(k:KT)(Q:QD->QE->Prop):Prop:=∀(P:Pt C)(u:KV)(v:QD),ay X R P.R->VR C P.R u v->k P.m u=true->Q v P.s
theorem Kp.later{k:KT}{Q:QD->QE->Prop}(h:Kp C X R k Q)(L:ay X R R'):Kp C X R' k Q:=λP u v M=>h P u v (L.trans M)
end
section
set_option genCtorIdx false in
inductive Gm where
 |fn (q:Pa)|cls (k:Nat) (q:Pa)|bi (n:String)|con (v:KV)
structure Pg where
 gl:Str->Option Gm
 mt:Str->Option (Nat×Pa)
 df:Str->Option (Nat×KV)
 ln:Nat×Pa
def j7(C:Cx)(nm:Str)(v:QD):Prop:=∀(A:RR)(Q:QD->QE->Prop)(E:QD->QE->Prop)(s:QE)(menv:Rd),menv.globals=Rh->menv.builtins=RY->bv C.h₀ s.heap->Q v s->QQ (R6 C.prog C.w) A (loadGlobal menv nm) Q E s
noncomputable def qm:String->QD
 |"len"=>.builtin "len"
 |"all"=>.builtin "all"
 |"min"=>.builtin "min"
 |"sum"=>.builtin "sum"
 |n=>.type n
def EZ(C:Cx)(a:Ri)(nm:Str)(q:Pa):Prop:=∃f,findIn C.K (.ref a) nm=some (some (.ref f))∧typeIn C.K (.ref f)=some (.type "function")∧C.fnAt q=some f
structure Cx.Ok(C:Cx)(P:Pg):Prop where
 K:C.K.In C.h₀
 nolimit:C.h₀.NoLimit
 con:∀nm v,P.gl nm=some (.con v)->∃val,(∀R,VR C R v val)∧j7 C nm val
 fn:∀nm q,P.gl nm=some (.fn q)->∃a,C.fnAt q=some a∧j7 C nm (.ref a)
 cls:∀nm k q,P.gl nm=some (.cls k q)->∃a,C.clsAt k=some a∧j7 C nm (.ref a)∧makesIn C.K a=true∧EZ C a "__init__" q
 bi:∀nm n,P.gl nm=some (.bi n)->j7 C nm (qm n)
 exc:∀T:String,(T="KeyError"∨T="IndexError")->j7 C (Rg T) (.type T)
 ga:∀c a,C.clsAt c=some a->findIn C.K (.ref a) "__getattribute__"=some (some (.builtin "object.__getattribute__"))∧findIn C.K (.ref a) "__getattr__"=some none∧findIn C.K (.ref a) "__setattr__"=some (some (.builtin "object.__setattr__"))∧plainOver C.K a=true∧hasDictIn C.K a=true
 attr:∀c a nm q,C.clsAt c=some a->C.sl nm=some q->findIn C.K (.ref a) nm=some none∨∃i t,findIn C.K (.ref a) nm=some (some (.int i t))∧copiedNames.contains nm=false
 df:∀nm c v a,P.df nm=some (c,v)->C.clsAt c=some a->∃i t,findIn C.K (.ref a) nm=some (some (.int i t))∧copiedNames.contains nm=false∧∀R,VR C R v (.int i t)
 mt:∀nm c q a,P.mt nm=some (c,q)->C.clsAt c=some a->EZ C a nm q∧C.sl nm=none
 ln:∀a,C.clsAt P.ln.1=some a->EZ C a "__len__" P.ln.2
 lri:∀a,C.clsAt 2=some a->findIn C.K (.ref a) "__bool__"=some none∧findIn C.K (.ref a) "__len__"=some none
 slI:∀nm nm' q,C.sl nm=some q->C.sl nm'=some q->nm=nm'
 sysm:∃o,C.h₀.get? sysModules=some o
 top:∃mg bm ob,C.h₀.Ns Rh mg∧mg "__builtins__"=some (.ref bm)∧bm≠RY∧bm≠Rh∧C.h₀.get? bm=some ob∧ob.cls=.type "module"∧ob.dict=some RY∧ob.data=.plain
 vol0:∀P∈C.vol,C.h₀.get? P=none
 kpf:∀q a,C.fnAt q=some a->keepIn C.K (.ref a)=true
 kpc:∀c a,C.clsAt c=some a->keepIn C.K (.ref a)=true
 slots:∃l:List Str,l.length≤500∧∀nm q,C.sl nm=some q->nm∈l
structure cW where
 kd:Str->Option SJ
 m:List Str
 loud:Bool
 st:Bool
def wz:List Str->Str->Pa->Option Pa
 |[],_,_=>none
 |x::r,s,q=>if x=s then some q else wz r s (qs q)
def cW.slot(Γ:cW)(s:Str):Option Pa:=wz Γ.m s .e
theorem iG:∀{m:List Str}{s:Str}{q p:Pa},wz m s q=some p->∃i,m[i]?=some s∧bB p=bB q+i
 |[],_,_,_,h=>by exact cO h
 |x::r,s,q,p,h=>by
  unfold wz at h;by_cases e:x=s
  ·rw[if_pos e]at h;cases h;exact⟨0,e▸rfl,rfl⟩
  ·rw[if_neg e]at h;refine ah (iG h) ?_;intro i a b;exact⟨i+1,a,by rw[b,mw];simp+arith⟩
theorem cW.slot_inj{Γ:cW}{s t:Str}{q:Pa}(h:Γ.slot s=some q)(k:Γ.slot t=some q):s=t:=by
 refine ah (iG h) ?_;intro i a b;refine ah (iG k) ?_;intro j c d;have:i=j:=by simp_all+arith
 subst this;exact QN (a.symm.trans c)
set_option backward.match.sparseCases true in
def jM(Q:QD->QE->Prop)(Ex:QD->QE->Prop)(r:Result)(s:QE):Prop:=match r with|.ok (.ret v)=>Q v s|.ok _=>False|.error e=>Ex e s
def IX(C:Cx)(cl:Cl)(d:Nat):Prop:=∀(q:Pa)(a:Ri)(xs:KV)(vs:List QD)(A:RR)(fr:List Rd)(P:Pt C)(k:KT)(Q:QD->QE->Prop)(E:QD->QE->Prop),
 (C.fnAt q=some a∧bG C P.R xs vs∧cl q xs k P.m=true∨∃p cs,tg p P.m.h=some (KO.clo q cs)∧VR C P.R (KV.ref p) (Ta a)∧∃ys,bG C P.R ys vs∧xs=app ys cs∧cl q xs k P.m=true)->
 (A.depth+8*d<recursionLimit∧A.units+16*d+200<cLine∧A.handled=none∧A.frames=some fr∧A.guards=some [])->
 (∀f∈fr,f.scope.kind≠.module∧∃L o es ep,f.frame=some L∧C.h₀.get? L=none∧L∉C.vol∧¬dA P.R L∧P.R.h.get? L=some o∧o.data=.dict es ep)->
 Kp C C.vol P.R k Q->codeAny (R6 C.prog C.w) A (.call (.ref a) ⟨vs,[]⟩) (jM Q E) P.s
def kR(C:Cx)(R:Wd)(fr:List Rd):Prop:=∀f∈fr,f.scope.kind≠.module∧∃L o es ep,f.frame=some L∧C.h₀.get? L=none∧L∉C.vol∧¬dA R L∧R.h.get? L=some o∧o.data=.dict es ep
structure EV(C:Cx)(A:RR)(fr:List Rd)(d:Nat):Prop where
 depth:A.depth+8*d+4<recursionLimit
 units:A.units+16*d+212<cLine
 frames:A.frames=some fr
 guards:A.guards=some []
def EX(C:Cx)(menv:Rd):Prop:=∃c P,menv.code=.ref c∧P∈C.vol∧CodeHd C.h₀ c P∧C.volQ P=menv.qual++"<lambda>"
structure dO(C:Cx)(Γ:cW)where
 menv:Rd
 A:RR
 cl:Cl
 d:Nat
 fr:List Rd
 kind:menv.scope.kind=.function
 kof:∀s,menv.kindOf s=Γ.kd s
 glob:menv.globals=Rh
 bi:menv.builtins=RY
 lold:C.h₀.get? menv.locals=none
 lvol:menv.locals∉C.vol
 cell:∀nm ca,menv.cells.lookup nm=some ca->C.h₀.get? ca=none∧ca∉C.vol∧ca≠menv.locals
 inj:∀nm nm' ca,menv.cells.lookup nm=some ca->menv.cells.lookup nm'=some ca->nm=nm'
 cdom:∀nm,Γ.kd nm=some .cell∨Γ.kd nm=some .free->(menv.cells.lookup nm).isSome=true
 room:EV C A fr d
 handled:Γ.loud=true->A.handled=none
 top:Γ.st=true->∃outer,fr=menv::outer
 lam:Γ.kd "FP"=some .local->EX C menv
 call:IX C cl d
variable{C:Cx}{Γ:cW}{R R':Wd}
def Holds(C:Cx)(Γ:cW)(R:Wd)(menv:Rd)(m:Str->Option QD)(nm:Str)(x:KV):Prop:=
 (Γ.kd nm=some .local∧∃v,m nm=some v∧VR C R x v)∨
 ((Γ.kd nm=some .cell∨Γ.kd nm=some .free)∧∃ca ob v,menv.cells.lookup nm=some ca∧R.h.get? ca=some ob∧ob.data=.cell (some v)∧VR C R x v)
theorem Holds.el{C:Cx}{Γ:cW}{R:Wd}{menv:Rd}{m:Str->Option QD}{nm:Str}{x:KV}(h:Holds C Γ R menv m nm x){G:Prop}(k1:Γ.kd nm=some .local->∀v,m nm=some v->VR C R x v->G)(k2:(Γ.kd nm=some .cell∨Γ.kd nm=some .free)->∀ca ob v,menv.cells.lookup nm=some ca->R.h.get? ca=some ob->ob.data=.cell (some v)->VR C R x v->G):G:=h.elim (λh=>ah h.2 (k1 h.1)) λh=>fN h.2 (k2 h.1)
structure ER(F:dO C Γ)(R:Wd)(e:En):Prop where
 ns:∃m,R.h.Ns F.menv.locals m∧∀nm q x,Γ.slot nm=some q->tg q e=some x->Holds C Γ R F.menv m nm x
 lown:¬dA R F.menv.locals
 cells:∀nm ca,F.menv.cells.lookup nm=some ca->¬dA R ca∧(∃ob v,R.h.get? ca=some ob∧ob.data=.cell v)∧(C.asg nm=true->¬fb R ca)
 fr:kR C R F.fr
theorem kR.later{fr:List Rd}(h:kR C R fr)(L:ay C.vol R R'):kR C R' fr:=λf hf=>by
 refine ar (h f hf) ?_;intro k zq;refine gu zq ?_;clear zq;intro b o es ep a1 a2 a3 a4 a5 a6;refine ah (L.ext b o a5 a4 a3) ?_;intro o' e' al;exact⟨k,b,o',es,ep,a1,a2,a3,λq=>a4 (L.owned (dL a5 a3) q),e',al.data.1.trans a6⟩
theorem oR{h h':SG}{a:Ri}{m:Str->Option QD}(n:h.Ns a m)(k:∀o,h.get? a=some o->∃o',h'.get? a=some o'∧ma o o'):h'.Ns a m:=by
 refine ei n ?_;clear n;intro o es ep ho hd r;refine ah (k o ho) ?_;intro o' ho' al;exact⟨o',es,ep,ho',al.data.1.trans hd,r⟩
theorem ER.later{F:dO C Γ}{e:En}(r:ER F R e)(L:ay C.vol R R'):ER F R' e:=by
 refine ah r.ns ?_;intro m ns hold;refine f9 (id ns) ?_;rintro ob _ _ lo -;refine⟨⟨m,oR ns λo ho=>L.ext _ _ ho r.lown F.lvol,λnm q x h1 h2=>?_⟩,λq=>r.lown (L.owned (dL lo F.lvol) q),λnm ca hc=>?_,r.fr.later L⟩
 ·refine(hold nm q x h1 h2).el ?_ ?_
  ·intro k v hv rv;exact .inl ⟨k,v,hv,rv.later L⟩
  ·intro k ca oc v hc hoc hd rv;refine ah (L.ext _ _ hoc (r.cells nm ca hc).1 (F.cell nm ca hc).2.1) ?_;intro oc' hoc' al;exact .inr ⟨k,ca,oc',v,hc,hoc',al.data.1.trans hd,rv.later L⟩
 ·refine b0 (r.cells nm ca hc) ?_;intro a zq1 b;refine aE zq1 ?_;clear zq1;intro ob v e d;have nx:=(F.cell nm ca hc).2.1;refine ah (L.ext _ _ e a nx) ?_;intro o' e' al;exact⟨λq=>a (L.owned (dL e nx) q),⟨o',v,e',al.data.1.trans d⟩,λh q=>b h (L.frozen (dL e nx) q)⟩
def bx(C:Cx)(Γ:cW)(e:Qz)(x:X):Prop:=∀(F:dO C Γ)(P:Pt C)(en:En)(k:KT)(Q:QD->QE->Prop)(E:QD->QE->Prop),
 ER F P.R en->x F.cl en k P.m=true->Kp C C.vol P.R k Q->QQ (R6 C.prog C.w) F.A (eval e F.menv) Q E P.s
def kQ(C:Cx)(Γ:cW)(es:List Qz)(x:X):Prop:=∀(F:dO C Γ)(P:Pt C)(en:En)(k:KT)(pos:Pos)(Q:List QD->QE->Prop)(E:QD->QE->Prop),
 ER F P.R en->x F.cl en k P.m=true->(∀(P':Pt C)(u:KV)(vs:List QD),ay C.vol P.R P'.R->bG C P'.R u vs->vs.length=es.length->k P'.m u=true->Q vs P'.s)->QQ (R6 C.prog C.w) F.A (spliced (backTo pos (starEach es F.menv))) Q E P.s
def fx(C:Cx)(Γ:cW)(e:Qz)(c:Cn):Prop:=∀(F:dO C Γ)(P:Pt C)(en:En)(t f:K0)(Q:Bool->QE->Prop)(E:QD->QE->Prop),
 ER F P.R en->c F.cl en t f P.m=true->(∀(P':Pt C)(b:Bool),ay C.vol P.R P'.R->aB b (f P'.m) (t P'.m)=true->Q b P'.s)->QQ (R6 C.prog C.w) F.A (isTrue e F.menv (eval e F.menv)) Q E P.s
end
section
variable{C:Cx}{Γ:cW}{R R':Wd}
theorem cL:100000≤sizeLine:=by refine rwr TQ ?_;decide
theorem tL{α:Type}{o:Option α}{k:α->Bool}(h:bQ o false k=true):∃x,o=some x∧k x=true:=by
 cases o with
 |none=>exact aO h
 |some x=>exact⟨x,rfl,h⟩
theorem aC{α:Type}{o:Option α}{k:α->Bool}(h:bQ o false k=true){G:Prop}(k0:∀x,k x=true->o=some x->G):G:=by
 cases o with
 |none=>exact aO h
 |some x=>exact k0 x h rfl
theorem Kp.at{X:List Ri}{k:KT}{Q:QD->QE->Prop}{P:Pt C}(K:Kp C X P.R k Q){u:KV}{v:QD}(r:VR C P.R u v)(h:k P.m u=true)(t:Nat):Q v ⟨P.R.h,C.g,C.d,t,C.os⟩:=K (P.tick t) u v (.refl _ _) r h
theorem Kp.more{X:List Ri}{k:KT}{Q:QD->QE->Prop}{P:Pt C}(K:Kp C X P.R k Q){h':SG}(kp:bv P.R.h h'){u:KV}{v:QD}(r:VR C ⟨P.R.ρ,h',P.R.fz⟩ u v)(h:k P.m u=true)(t:Nat):Q v ⟨h',C.g,C.d,t,C.os⟩:=K (P.more kp t) u v (.keeps X kp) r h
theorem Kp.new{X:List Ri}{k:KT}{Q:QD->QE->Prop}{P:Pt C}(K:Kp C X P.R k Q){h':SG}{o:KO}{a b:Ri}(kp:bv P.R.h h')(ha:P.R.h.get? a=none)(hb:P.R.h.get? b=none)(hO:ay [] P.R (P.R.add P.m.n ⟨a,b,[]⟩ h')->eR C (P.R.add P.m.n ⟨a,b,[]⟩ h') o ⟨a,b,[]⟩)
  (h:k (aR P.m o) (.ref P.m.n)=true) (t:Nat):Q (.ref a) ⟨h',C.g,C.d,t,C.os⟩:=by
 refine b0 (P.good.new0 (o:=o) kp ha hb hO) ?_;intro G L r;exact K ⟨_,_,t,G⟩ _ _ (L X) r h
theorem Pt.set_(P:Pt C){q:Pa}{p:iu}{o':KO}{b:Ri}{h':SG}(hp:P.R.ρ q=some p)(hb:yD b p)(hs:RM b P.R.h h')(hlv:∃o',h'.get? b=some o')(hO:ay [] P.R ⟨P.R.ρ,h',P.R.fz⟩->eR C ⟨P.R.ρ,h',P.R.fz⟩ o' p)(t:Nat):
  ∃P':Pt C,P'.R=⟨P.R.ρ,h',P.R.fz⟩∧P'.m=bD P.m q o'∧P'.s=⟨h',C.g,C.d,t,C.os⟩∧∀X,ay X P.R P'.R:=by
 refine ar (P.good.set hp hb hs hlv hO) ?_;intro G L;exact⟨⟨_,_,t,G⟩,rfl,rfl,rfl,L⟩
theorem bg(h:SG):h.get? h.objs.size=none:=S7 (QZ _)
theorem aX(h:SG)(o:Obj):bv h (h.push o):=λZ Z e=>RH _ e
theorem rE{X:List Ri}{k:KT}{Q:QD->QE->Prop}{P:Pt C}(K:Kp C X P.R k Q){n:Nat}{xs:KV}{vs:List QD}{h':SG}{a:Ri}{c:Nat}(r:bG C P.R xs vs)(hn:n=vs.length)(kp:bv P.R.h h')(ha:P.R.h.get? a=none)(hg:h'.get? a=some {cls:=.type "list",data:=.seq vs.toArray c})
  (h:q7 k P.m n xs=true) (t:Nat):n≤100000∧Q (.ref a) ⟨h',C.g,C.d,t,C.os⟩:=by
 refine dI h ?_;clear h;intro hl h;have hl:=QA hl;exact⟨hl,K.new (o:=.list n xs) kp ha ha (λL=>⟨rfl,vs.toArray,c,hg,r.later L,by simpa using hn,hl⟩) h t⟩
theorem tV{X:List Ri}{k:KT}{Q:QD->QE->Prop}{P:Pt C}(K:Kp C X P.R k Q){n:Nat}{xs:KV}{vs:List QD}{h':SG}{a:Ri}{c:Nat}(r:bG C P.R xs vs)(hn:n=vs.length)(kp:bv P.R.h h')(ha:P.R.h.get? a=none)(hg:h'.get? a=some {cls:=.type "list",data:=.seq vs.toArray c})
 (h:q7 k P.m n xs=true) (t:Nat) {G:Prop} (k0:n≤100000->Q (.ref a) ⟨h',C.g,C.d,t,C.os⟩->G):G:=ar (rE K r hn kp ha hg h t) k0
theorem qC{X:List Ri}{k:KT}{Q:QD->QE->Prop}{P:Pt C}(K:Kp C X P.R k Q){xs:KV}{vs:List QD}{h':SG}{a:Ri}{c:Nat}(r:bG C P.R xs vs)(hl:vs.length≤100000)(kp:bv P.R.h h')(hg:h'.get? a=some {cls:=.type "tuple",data:=.seq vs.toArray c})(h:k P.m xs=true)(t:Nat):Q (.ref a) ⟨h',C.g,C.d,t,C.os⟩:=
 K.more kp (.tup (r.later (ay.keeps [] kp)) ⟨_,hg,rfl,c,rfl⟩ hl) h t
theorem D8{e:Qz}:bx C Γ e xC:=λZ Z Z Z Z Z Z h=>by exact aO h
theorem A4{e:Qz}:fx C Γ e KB:=λZ Z Z Z Z Z Z Z h=>by exact aO h
theorem zu{n:Nat}{p:Pos}:bx C Γ (.Constant .none n p) (af .none):=λZ Z Z Z Z Z Z h K=>QC (K.at .none_ h _)
theorem zR{b:Bool}{n:Nat}{p:Pos}:bx C Γ (.Constant (.bool b) n p) (af (.bool b)):=λZ Z Z Z Z Z Z h K=>QC (K.at .bool_ h _)
theorem ji{i n:Nat}{p:Pos}:bx C Γ (.Constant (.int (.ofNat i)) n p) (af (.nat i)):=λZ Z Z Z Z Z Z h K=>wpAny_mkInt (K.at .nat_ h _)
theorem CX{i n:Nat}{p:Pos}:bx C Γ (.Constant (.int (.negSucc i)) n p) (af (.neg i)):=λZ Z Z Z Z Z Z h K=>wpAny_mkInt (K.at .neg_ h _)
theorem CS{s:Str}{n:Nat}{p:Pos}(ok:Fm s=true):bx C Γ (.Constant (.str s) n p) (af (.str (iz s))):=λZ Z Z Z Z Z Z h K=>wpAny_mkText (K.at (.str_ (r6 ok)) h _)
theorem wv{P₀:Pg}(O:C.Ok P₀){nm:Str}{v:KV}{p:Pos}(hg:P₀.gl nm=some (.con v))(hk:Γ.kd nm=some .globalImplicit)(hd:(nm==("__debug__":Str))=false):bx C Γ (.Name nm p) (af v):=λF P Z Z Z Z Z h K=>by
 refine ah (O.con nm v hg) ?_;intro val r ld;exact Un F.kind ((F.kof nm).trans hk) (ld F.A _ _ P.s F.menv F.glob F.bi P.good.keep (K.at (r _) h _)) hd
theorem sG{F:dO C Γ}{P:Pt C}{en:En}(r:ER F P.R en){nm:Str}{q:Pa}{x:KV}(hs:Γ.slot nm=some q)(hx:tg q en=some x)(hc:(nm==("__classdict__":Str))=false){G:Prop}(kk:∀v,VR C P.R x v->(∀{Q:QD->QE->Prop}{E:QD->QE->Prop}{t:Nat},Q v ⟨P.R.h,C.g,C.d,t,C.os⟩->QQ (R6 C.prog C.w) F.A (loadName F.menv nm) Q E ⟨P.R.h,C.g,C.d,t,C.os⟩)->G):G:=by
 refine ah r.ns ?_;intro m ns hold;have kf:=F.kof nm;refine(hold nm q x hs hx).el ?_ ?_
 ·intro k v hv rv;exact kk v rv (λq=>wpAny_loadName_local F.kind (kf.trans k) ns hv q)
 ·intro k ca oc v hca hoc hd rv;refine kk v rv (λq=>?_);rcases k with k|k
  ·exact wpAny_loadName_cell F.kind (kf.trans k) hca ⟨oc,hoc,hd⟩ q
  ·exact wpAny_loadName_free F.kind (kf.trans k) hca ⟨oc,hoc,hd⟩ q hc
theorem wn{nm:Str}{q:Pa}{p:Pos}(hs:Γ.slot nm=some q)(hd:(nm==("__debug__":Str))=false)(hc:(nm==("__classdict__":Str))=false):bx C Γ (.Name nm p) (ae q):=λF P en k Q E r h K=>by
 refine aC h ?_;clear h;intro x h hx;refine sG r hs hx hc ?_;intro v rv ld;exact wpAny_Name (ld (K.at rv h _)) hd
noncomputable def bh:Qz->Bool
 |.Starred _ _=>true
 |_=>false
theorem bE:kQ C Γ [] ao:=λZ P Z Z Z Z Z Z h K=>wpAny_items_nil (K (P.tick P.t) .nil [] (.refl _ _) rfl rfl h)
theorem iF{e:Qz}(h:bh e=false)(r:List Qz)(menv:Rd):starEach (e::r) menv=(false,eval e menv)::starEach r menv:=by cases e<;>first|rfl|exact p7 h
theorem bp{e:Qz}{es:List Qz}{x r:X}(hs:bh e=false)(hx:bx C Γ e x)(hr:kQ C Γ es r):kQ C Γ (e::es) (ab x r):=λF P en k pos Q E R h K=>by
 refine wpAny_items_cons (hx F P en _ _ E R h λP1 u v L1 r1 h1=>?_) (iF hs _ _);exact hr F P1 en _ pos _ E (R.later L1) h1 λP2 us vs L2 r2 l2 h2=>K P2 _ _ (L1.trans L2) (.cons_ (r1.later L2) r2) (congrArg QR l2) h2
theorem CP{es:List Qz}{x:X}{n:Nat}{p:Pos}(hx:kQ C Γ es x)(hl:QJ es.length 1000=true):bx C Γ (.Tuple es n p) x:=λF P en k Q E R h K=>by
 refine wpAny_Tuple (hx F P en k _ _ E R h λP1 u vs L1 r1 l1 h1=>?_);have hl:vs.length≤100000:=by have:=QA hl;lia
 exact⟨QG hl cL,qC (c:=0) (K.later L1) r1 hl (aX _ _) (QS _ rfl) h1 P1.t⟩
theorem km{es:List Qz}{x:X}{p:Pos}(hx:kQ C Γ es x):bx C Γ (.List es p) (aK x):=λF P en k Q E R h K=>by
 refine wpAny_List (hx F P en _ _ _ E R h λP1 u vs L1 r1 Z h1=>?_);refine tV (c:=0) (K.later L1) r1 r1.len_eq (aX _ _) (bg _) (QS _ rfl) h1 P1.t ?_;intro hl q;exact⟨by refine rwl r1.len_eq ?_;exact QG hl cL,q⟩
theorem Pt.frz(P:Pt C){h':SG}{a:Ri}{vs:Array QD}{c:Nat}(kp:bv P.R.h h')(ha:P.R.h.get? a=none)(hg:h'.get? a=some (ii vs c))(t:Nat):∃P':Pt C,P'.m=P.m∧P'.s=⟨h',C.g,C.d,t,C.os⟩∧(∀X,ay X P.R P'.R)∧P'.R.fz a∧P'.R.h=h':=
 ⟨⟨Wd.frz ⟨P.R.ρ,h',P.R.fz⟩ a,P.m,t,(P.good.more kp).fz_add hg (P.good.dead ha).2.1⟩,rfl,rfl,λX=>let z:=ay.keeps X kp;⟨z.ref,z.new,z.tup,z.ext,z.live,z.code,λb o f e=>⟨.inr f,kp b o e⟩,λb f=>f.elim (λz=>.inr (.inl (z▸ha))) .inl⟩,.inl rfl,rfl⟩
theorem B5{X:List Ri}{k:KT}{Q:QD->QE->Prop}{P:Pt C}(K:Kp C X P.R k Q){xs:KV}{vs:List QD}{h':SG}{a:Ri}{c:Nat}(r:bG C P.R xs vs)(hl:vs.length≤100000)(kp:bv P.R.h h')(ha:P.R.h.get? a=none)(hg:h'.get? a=some (ii vs.toArray c))(h:k P.m (.fl xs)=true)(t:Nat):Q (.ref a) ⟨h',C.g,C.d,t,C.os⟩:=by
 refine Bn (P.frz kp ha hg t) ?_;intro P' e1 e2 L f e3;refine rwl e2 ?_;exact K P' (.fl xs) (.ref a) (L X) ⟨a,vs.toArray,c,rfl,f,by refine rwr e3 ?_;exact hg,r.later (L []),hl⟩ (by refine rwr e1 ?_;exact h)
theorem zG{es:List Qz}{x:X}{p:Pos}(hx:kQ C Γ es x):bx C Γ (.List es p) (sg x):=λF P en k Q E R h K=>by
 refine wpAny_List (hx F P en _ _ _ E R h λP1 u vs L1 r1 Z h1=>?_);refine dI h1 ?_;intro hl h2;have hl:=QA hl;rw[r1.len_eq]at hl;exact⟨QG hl cL,B5 (c:=0) (K.later L1) r1 hl (aX _ _) (bg _) (QS _ rfl) h2 P1.t⟩
theorem GA{p:Pos}:bx C Γ (.List [] p) LA:=λF P en k Q E R h K=>
 wpAny_List ((bE (C:=C) (Γ:=Γ)) F P en (λs Z=>k (aR s (.junk 0)) (.ref s.n)) _ _ E R h λP1 u vs L1 r1 l1 h1=>by
  cases QP l1;exact⟨Ry _,(K.later L1).new (o:=.junk 0) (aX _ _) (bg _) (bg _) (λL=>⟨rfl,#[],0,QS _ rfl,QZ _,Ry _⟩) h1 P1.t⟩)
theorem xL{p:Pos}:bx C Γ (.Dict [] [] p) bP:=λF P en k Q E R h K=>
 wpAny_Dict_empty (K.new (o:=.dict 0 .nil) (aX _ _) (bg _) (bg _) (λL=>⟨rfl,_,#[],0,QS _ rfl,⟨rfl,rfl,rfl⟩,rfl,⟨rfl,λi e kv h=>by trivial⟩,U0,rfl,Ry _,rfl⟩) h P.t)
theorem bu{f:Pa->Bool}{u:KV}{v:QD}(h:eF f u=true)(r:VR C R u v){G:Prop}(k:∀q p,R.ρ q=some p->f q=true->u=.ref q->v=.ref p.fst->G):G:=by
 cases u with
 |ref q=>refine ah r ?_;clear r;rintro p e rfl;exact k q p e h rfl rfl
 |_=>exact aO h
theorem aI{P:Pt C}{q:Pa}{p:iu}{f:KO->Bool}(h:b9 q P.m f=true)(hp:P.R.ρ q=some p){G:Prop}(k:∀o,tg q P.m.h=some o->eR C P.R o p->f o=true->G):G:=by
 refine aC h ?_;clear h;intro o h e;refine ah (P.good.dom q p hp) ?_;intro o' e' r;cases e.symm.trans e';exact k o e r h
theorem lg{f:Nat->T KV->Bool}{o:KO}{p:iu}(h:kC f o=true)(r:eR C R o p){G:Prop}(k:∀c fs a es n,C.clsAt c=some a->InstAt R.h p.fst (instObj a p.snd) a (some (dictOf es n))->vU C R fs es->f c fs=true->o=.inst c fs->G):G:=by
 cases o with
 |inst c fs=>refine b8 r ?_;clear r;intro a h1 h2 zq;refine aE zq ?_;clear zq;intro es n h3 h4;exact k c fs a es n h1 ⟨h2,rfl,rfl,h3⟩ h4 h rfl
 |_=>exact aO h
theorem x9{es:List Rw}{nm:Str}(h:es.any (·.refKey)=false):getL nm es=some (ip es nm):=by
 unfold getL ip;cases es.find? (·.key.isStr nm)with
 |none=>rw[h];rfl
 |some e=>rfl
theorem ye(K:Frag)(i:Int)(t:Tok):specialIn K (.int i t) "__get__"=some none:=by
 show fastLookup "int" "__get__"=some none;decide+kernel
theorem VR.handed{x:KV}{v:QD}(r:VR C R x v):handedIn v=true:=by
 cases x with
 |none=>cases r;rfl
 |bool=>cases r;rfl
 |str=>refine aE r ?_;clear r;rintro _ _ rfl -;rfl
 |nil=>refine ah r ?_;clear r;rintro _ rfl -;rfl
 |cons=>refine f9 r ?_;clear r;rintro _ _ _ rfl -;rfl
 |ref=>refine ah r ?_;clear r;rintro _-rfl;rfl
 |fl=>refine f9 r ?_;rintro _ _ _ rfl -;rfl
 |tok n=>
  have pl:∀x,pP v x->handedIn v=true:=λx h=>by
   cases x with
   |none=>cases h;rfl
   |nat=>refine az h ?_;rintro _ rfl;rfl
   |neg=>refine az h ?_;rintro _ rfl;rfl
   |str=>refine aE h ?_;rintro _ _ rfl -;rfl
   |_=>exact h.elim
  exact match n,r with
  |0,r=>by refine fI r ?_;rintro _ _ rfl;rfl
  |1,r=>r
  |n+2,r=>pl _ r
 |_=>refine az r ?_;clear r;rintro _ rfl;rfl
set_option tactic.hygienic true in
theorem uw{P₀:Pg}(O:C.Ok P₀){P:Pt C}{nm:Str}{sl:Pa}{expr:Bool}(hs:C.sl nm=some sl){u:KV}{v:QD}{g:Nat->T KV->Bool}{A:RR}{Q:QD->QE->Prop}{E:QD->QE->Prop}(r:VR C P.R u v)(h:eF (λq=>b9 q P.m (kC g)) u=true)
  (kq:∀c fs,g c fs=true->(∃x,tg sl fs=some x∧∀w t,VR C P.R x w->Q w (P.tick t).s)∨tg sl fs=none∧∃x,P₀.df nm=some (c,x)∧∀w t,VR C P.R x w->Q w (P.tick t).s):
  QQ (R6 C.prog C.w) A (getAttr v nm expr) Q E P.s:=by
 refine bu h r ?_;clear h r;rintro q p hp h-rfl;refine aI h hp ?_;clear h;rintro o-ro h;refine lg h ro ?_;clear h ro;rintro c fs a es n hc I hf h rfl;have X:C.K.In P.R.h:=O.K.keeps P.good.keep;refine iU (O.ga c a hc) ?_;intro ga gat sa over hd;have hg:=x9 (nm:=nm) hf.1;have hr:=hf.2.1 nm;rw[hs,Sj]at hr;rcases kq c fs h with⟨x,hx,k⟩|⟨hx,x,hdf,k⟩
 ·rw[hx]at hr;cases hw:ip es nm with
  |none=>rw[hw]at hr;exact hr.elim
  |some w=>
   rw[hw]at hr hg;have:∃at_,findIn C.K (.ref a) nm=some at_∧noGet C.K at_=true:=by
    rcases O.attr c a nm sl hc hs with h1|zq
    ·exact⟨none,h1,rfl⟩
    ·refine aE zq ?_;clear zq;intro i t h1 _;exact⟨_,h1,by unfold noGet;rfl⟩
   refine ah this ?_;clear this;intro at_ h1 h2;exact get_value (s:=P.s) X I ga (findObj_own hd h1 h2 hg) hr.handed (k w (P.t+1) hr)
 ·rw[hx]at hr;cases hw:ip es nm with
  |some w=>rw[hw]at hr;exact hr.elim
  |none=>
   rw[hw]at hg;refine aH (O.df nm c x a hdf hc) ?_;intro i t h1 h2 h3;exact get_value (s:=P.s) X I ga (findObj_cls hd h1 (ye _ _ _) rfl h2 hg) rfl (k _ (P.t+1) (h3 _))
noncomputable def aZ:Qz->Bool
 |.Call (.Name _ _) [] [] _=>true
 |_=>false
theorem cQ{o:Qz}{nm:Str}{menv:Rd}{whole:Sem QD}(h:aZ o=false):attributeBase o nm menv whole=whole:=by
 cases o with
 |Call g as ks p=>
  cases g<;>first|rfl|skip
  cases as<;>first|rfl|skip
  cases ks<;>first|rfl|skip
  exact p7 h
 |_=>rfl
theorem pI{P₀:Pg}(O:C.Ok P₀){o:Qz}{nm:Str}{p:Pos}{x:X}{sl:Pa}{g:KT->KS->Nat->T KV->Bool}(hs:C.sl nm=some sl)(ho:aZ o=false)(hx:bx C Γ o x)
  (kg:∀k s c fs,g k s c fs=true->(∃x,tg sl fs=some x∧k s x=true)∨tg sl fs=none∧∃x,P₀.df nm=some (c,x)∧k s x=true):bx C Γ (.Attribute o nm p) (λc e k s=>x c e (λs v=>eF (λq=>b9 q s (kC (g k s))) v) s):=λF P en k Q E R h K=>by
 rw[arm_eval_Attribute,cQ ho];refine Qy (hx F P en _ _ E R h λP1 u v L1 r1 h1=>Qy (Sl (Qy (Rn (uw O hs r1 h1 λc fs hg=>?_)))));rcases kg k P1.m c fs hg with⟨x,a,b⟩|⟨a,x,b,d⟩
 ·exact .inl ⟨x,a,λw t rw_=>Qy (SP (QC (K (P1.tick t) _ _ L1 rw_ b)))⟩
 ·exact .inr ⟨a,x,b,λw t rw_=>Qy (SP (QC (K (P1.tick t) _ _ L1 rw_ d)))⟩
theorem sW{P₀:Pg}(O:C.Ok P₀){o:Qz}{nm:Str}{p:Pos}{x:X}{sl:Pa}(hs:C.sl nm=some sl)(ho:aZ o=false)(hx:bx C Γ o x):bx C Γ (.Attribute o nm p) (ak sl x):=
 pI (g:=λk s Z fs=>bQ (tg sl fs) false (k s)) O hs ho hx λk s c fs h=>.inl (tL h)
theorem DZ{sl:Pa}{c0 c:Nat}{v0:KV}{fs:T KV}{k:KV->Bool}(h:bQ (tg sl fs) (aB (QB c c0) false (k v0)) k=true):(∃x,tg sl fs=some x∧k x=true)∨tg sl fs=none∧c=c0∧k v0=true:=by
 cases e:tg sl fs with
 |none=>rw[e]at h;refine dI h ?_;intro a b;exact .inr ⟨rfl,bR.mp a,b⟩
 |some x=>rw[e]at h;exact .inl ⟨x,rfl,h⟩
theorem xP{P₀:Pg}(O:C.Ok P₀){o:Qz}{nm:Str}{p:Pos}{x:X}{sl:Pa}{c0:Nat}{v0:KV}(hs:C.sl nm=some sl)(hd:P₀.df nm=some (c0,v0))(ho:aZ o=false)(hx:bx C Γ o x):bx C Γ (.Attribute o nm p) (uH sl c0 v0 x):=
 pI (g:=λk s c fs=>bQ (tg sl fs) (aB (QB c c0) false (k s v0)) (k s)) O hs ho hx λk s c fs h=>(DZ h).imp id λ⟨a,b,d⟩=>⟨a,v0,b▸hd,d⟩
end
end
section
set_option backward.match.sparseCases true
open PySem PySem.W PyProof.Rows
variable{C:Cx}{Γ:cW}{R R':Wd}
abbrev Kb(C:Cx)(R:Wd)(t f:K0)(Q:Bool->QE->Prop):Prop:=∀(P:Pt C)(b:Bool),ay C.vol R P.R->aB b (f P.m) (t P.m)=true->Q b P.s
section
variable{P₀:Pg}(O:C.Ok P₀){P:Pt C}{A:RR}{E:QD->QE->Prop}
include O
theorem gW{R:Wd}{μ:KS}(G:bM C R μ){q:Pa}{p:iu}(hp:R.ρ q=some p):(p.fst==sysModules)=false:=by
 refine az O.sysm ?_;intro o ho;cases e:p.fst==sysModules with
 |false=>rfl
 |true=>
  have e':p.fst=sysModules:=by simpa using e
  exact(nn (G.old q p p.fst hp (.inl rfl)) (e'▸ho)).elim
omit O in
theorem pp{s:QE}{d:Ri}{o:Obj}{es:Array Rw}{ep:Nat}{Q:QD->QE->Prop}(hd:(d==sysModules)=false)(ho:s.heap.get? d=some o)(hx:o.ExactDict)(hdat:o.data=.dict es ep)(hfit:(es.size:Int)<2^63)
  (hq:Q (.int es.size (s.toks+1)) {s with toks:=s.toks+1+1}):QQ (R6 C.prog C.w) A (Builtin.«len» ⟨[.ref d],[]⟩) (λfin s'=>∃r,fin=.done (.ret r)∧Q r s') E s:=by
 have hT:s.TypeIs (.ref d) "dict":=⟨o,ho,hx.1⟩
 unfold Builtin.«len»;refine Qy (m:=oneArg "len" _) (QC ?_);refine Qy (m:=callSpecial? (.ref d) (Rg "__len__")) (Rx (name:=Rg "__len__") hT F.slot_dict_len
  (Rk F.slot_dict_len hT F.entry_dict_len (show QQ _ _ (dictSize d>>=_) _ _ s from ?_) (F.args_dict_len_1 _)))
 unfold dictSize;refine Qy (Qy (SW ho hdat (QC ?_)));show QQ _ _ (Builtin.Dict.pendingCount d>>=_) _ _ s;refine Qy (wpAny_pendingCount_other hd ?_);refine rwr (show((es.size:Int)+((0:Nat):Int))=(es.size:Int)from Int.add_zero _) ?_;refine wpAny_ret_mkInt ?_;show QQ _ _ _ _ _ {s with toks:=s.toks+1};refine Qy (Rn (QC (Qy (wpAny_letGo ?_))));show QQ _ _ (if((es.size:Nat):Int)<0 then _ else _) _ _ _;refine rwr (if_neg (by simp+arith)) ?_;show QQ _ _ (if((es.size:Nat):Int)≥2^63 then _ else _) _ _ _;refine rwr (if_neg (by simp_all+arith)) ?_;exact Qy (wpAny_mkInt (QC ⟨_,rfl,hq⟩))
omit O in
theorem nc{s:QE}{d:Ri}{o:Obj}{es:Array Rw}{ep:Nat}{Q:Bool->QE->Prop}(hd:(d==sysModules)=false)(ho:s.heap.get? d=some o)(hx:o.ExactDict)(hdat:o.data=.dict es ep)(hfit:(es.size:Int)<2^63)
  (hq:Q ((es.size:Int) != 0) {s with toks:=s.toks+1+1}):QQ (R6 C.prog C.w) A (truthy (.ref d)) Q E s:=by
 have hT:s.TypeIs (.ref d) "dict":=⟨o,ho,hx.1⟩
 have key:QQ (R6 C.prog C.w) A (runValue (.builtin "len" ⟨[.ref d],[]⟩)) (λr s'=>r=.int es.size (s.toks+1)∧Q ((es.size:Int) != 0) s') E s:=by
  refine wpAny_runValue (codeAny_builtin entry_len ?_);rw[Around.under_plainId plain_len _];exact Sq (pp (Q:=λr s'=>r=.int es.size (s.toks+1)∧Q ((es.size:Int) != 0) s') hd ho hx hdat hfit ⟨rfl,hq⟩)
   (λfin s' h'=>by refine ah h' ?_;clear h';rintro r rfl hq;exact hq) λZ Z e=>e
 unfold truthy;refine Qy (wpAny_callSpecial?_none (name:=Rg "__bool__") hT noBool_dict ?_);refine Qy (Sd (name:=Rg "__len__") hT F.slot_dict_len.lookup ?_);exact Qy (Sq key (λr s' h'=>by refine ar h' ?_;clear h';rintro rfl hq;exact QC hq) λZ Z e=>e)
omit O in
theorem Ek(s:Str):QB (iz s) 1=s.cps.isEmpty:=by
 unfold iz;rw[ou,S6,bR,Array.isEmpty_iff_size_eq_zero,←QL,←SS];cases s.cps.toList.reverse with
 |nil=>exact⟨λzz=>rfl,λzz=>rfl⟩
 |cons c r=>have:=oq r;exact⟨λh=>by rw[gz]at h;lia,λh=>by exact Uo h⟩
set_option tactic.hygienic true in
theorem ja{t f:K0}{Q:Bool->QE->Prop}{u:KV}{v:QD}(r:VR C P.R u v)(h:Hr t f P.m u=true)(K:Kb C P.R t f Q):QQ (R6 C.prog C.w) A (truthy v) Q E P.s:=by
 have fin:∀{b:Bool}{t':Nat},aB b (f P.m) (t P.m)=true->Q b ⟨P.R.h,C.g,C.d,t',C.os⟩:=λ{b t'} q=>K (P.tick t') b (.refl _ _) q;have emp:∀{b:Bool}{t':Nat},aB b (t P.m) (f P.m)=true->Q (!b) ⟨P.R.h,C.g,C.d,t',C.os⟩:=λ{b t'} q=>fin (by cases b<;>exact q);have nz:∀n:Nat,(!QB n 0)=((n:Int) != 0):=λn=>by rw[li,S6];simp
 cases u with
 |none=>cases r;exact truthy_none (fin (b:=false) h)
 |bool b=>cases r;exact S5 (fin h)
 |nat n=>refine az r ?_;clear r;rintro _ rfl;exact PyProof.Rows.truthy_int (by have:=emp (t':=P.t) h;rw[nz]at this;exact this)
 |neg n=>refine az r ?_;clear r;rintro _ rfl;exact PyProof.Rows.truthy_int (fin (b:=true) h)
 |tok n=>exact aO h
 |fl n=>exact aO h
 |str c=>
  refine aH r ?_;clear r;rintro s _ rfl rfl ok;refine PySem.P.truthy_str (by have:=ok.2;show¬((s.cps.size:Int)≥2^63);lia) ?_;have:=emp (t':=P.t+1+1) (b:=QB (iz s) 1) h;rw[Ek,show(!s.cps.isEmpty)=((s.length:Int) != 0)from by have:=nz s.cps.size;rw[li]at this;exact this]at this;exact this
 |nil=>refine ah r ?_;clear r;rintro _ rfl ht;exact truthy_tuple ht (by decide) (fin (b:=false) h)
 |cons x y=>
  refine dM r ?_;clear r;rintro _ v vs rfl ht- -hl;refine truthy_tuple ht (by simp at hl ⊢;lia) ?_;exact fin (b:=true) h
 |ref q=>
  refine ah r ?_;clear r;rintro p hp rfl;refine aI h hp ?_;clear h;rintro o-ro h;cases o with
  |list n xs=>
   refine ar ro ?_;clear ro;rintro -zq;refine d9 zq ?_;clear zq;rintro vs k hob-rfl hl;refine wpAny_truthy_list ⟨_,hob,rfl,k,rfl⟩ (by lia) ?_;have:=emp (t':=P.t+1+1) h;rw[show(!QB vs.size 0)=!vs.isEmpty from by rw[li];rfl]at this;exact this
  |dict n es=>
   refine ar ro ?_;clear ro;rintro -zq;refine iT zq ?_;clear zq;rintro ob es' ep hob hx hdat hE-rfl hl -;rw[←hE.1,QL]at hl h;refine nc (gW O P.good hp) hob hx hdat (by lia) ?_;have:=emp (t':=P.t+1+1) h;rw[nz]at this;exact this
  |inst c fs=>
   refine b8 ro ?_;clear ro;intro a hc hob zq;refine aE zq ?_;clear zq;rintro es n hdict -;refine dI h ?_;clear h;intro h2 h;cases bR.mp h2;refine ar (O.lri a hc) ?_;intro l1 l2;have X:C.K.In P.R.h:=O.K.keeps P.good.keep;have I:InstAt P.R.h p.fst (instObj a p.snd) a (some (dictOf es n)):=⟨hob,rfl,rfl,hdict⟩
   unfold truthy;refine Qy (m:=callSpecial? (.ref p.fst) (Rg "__bool__")) (Qy (Qy (I.type.here ((looks_findIn X l1).here (QC ?_)))));exact Qy (Qy (I.type.here ((looks_findIn X l2).here (QC (fin (b:=true) h)))))
  |_=>exact aO h
end
noncomputable def Bv:Qz->Bool
 |.UnaryOp .Not _ _=>false
 |.BoolOp _ _ _=>false
 |.IfExp _ _ _ _=>false
 |.Compare _ _ _ _=>false
 |.NamedExpr _ _ _=>false
 |_=>true
theorem u4{e:Qz}(h:Bv e=true)(menv:Rd)(w:Sem QD):isTrue e menv w=(do let v ←w;standAt e.pos;holding [v] (truthy v)):=by
 cases e with
 |UnaryOp op _ _=>cases op<;>first|rfl|exact aO h
 |_=>first|rfl|exact aO h
section
variable{P₀:Pg}(O:C.Ok P₀){e a b d:Qz}{x y z:X}{c c' c'':Cn}{p:Pos}
include O
theorem GC(hx:bx C Γ e x)(he:Bv e=true):fx C Γ e (cT x):=λF P en t f Q E R h K=>
 wpAny_isTrue_value (hx F P en _ _ E R h λP1 u v L r h1=>ja O r h1 λP2 b L2=>K P2 b (L.trans L2)) (u4 he _ _)
omit O in
theorem zY(hc:fx C Γ e c):fx C Γ (.UnaryOp .Not e p) (fL c):=λF P en t f Q E R h K=>wpAny_isTrue_Not (hc F P en f t _ E R h λP1 b L q=>K P1 (!b) L (by cases b<;>exact q))
def sf(C:Cx)(Γ:cW)(op:BoolOp)(es:List Qz)(c:Cn):Prop:=∀(F:dO C Γ)(P:Pt C)(en:En)(t f:K0)(Q:Bool->QE->Prop)(E:QD->QE->Prop),ER F P.R en->c F.cl en t f P.m=true->Kb C P.R t f Q->QQ (R6 C.prog C.w) F.A (allTrue op es F.menv) Q E P.s
omit O in
theorem Dk{op:BoolOp}{es:List Qz}(h:sf C Γ op es c):fx C Γ (.BoolOp op es p) c:=λF P en t f Q E R q K=>wpAny_isTrue_BoolOp (h F P en t f Q E R q K)
omit O in
theorem xW(h:fx C Γ e c):sf C Γ .And [e] c:=λF P en t f Q E R q K=>wpAny_allTrue_And_cons (h F P en t f _ E R q λP1 b L h1=>by
 cases b with
 |true=>exact wpAny_allTrue_And_nil (K P1 true L h1)
 |false=>exact K P1 false L h1)
omit O in
theorem A6(h:fx C Γ e c):sf C Γ .Or [e] c:=λF P en t f Q E R q K=>wpAny_allTrue_Or_cons (h F P en t f _ E R q λP1 b L h1=>by
 cases b with
 |true=>exact K P1 true L h1
 |false=>exact wpAny_allTrue_Or_nil (K P1 false L h1))
omit O in
theorem A7{es:List Qz}(h:fx C Γ e c)(k:sf C Γ .And es c'):sf C Γ .And (e::es) (gh c c'):=λF P en t f Q E R q K=>wpAny_allTrue_And_cons (h F P en _ f _ E R q λP1 b L h1=>by
 cases b with
 |true=>exact k F P1 en t f Q E (R.later L) h1 λP2 b L2=>K P2 b (L.trans L2)
 |false=>exact K P1 false L h1)
omit O in
theorem Di{es:List Qz}(h:fx C Γ e c)(k:sf C Γ .Or es c'):sf C Γ .Or (e::es) (k8 c c'):=λF P en t f Q E R q K=>wpAny_allTrue_Or_cons (h F P en t _ _ E R q λP1 b L h1=>by
 cases b with
 |true=>exact K P1 true L h1
 |false=>exact k F P1 en t f Q E (R.later L) h1 λP2 b L2=>K P2 b (L.trans L2))
omit O in
theorem A2(h:fx C Γ e c)(h1:fx C Γ a c')(h2:fx C Γ b c''):fx C Γ (.IfExp e a b p) (KA c c' c''):=λF P en t f Q E R q K=>by
 rw[arm_isTrue_IfExp];refine Qy (h F P en _ _ _ E R q λP1 v L q1=>?_);cases v with
 |true=>exact h1 F P1 en t f Q E (R.later L) q1 λP2 b L2=>K P2 b (L.trans L2)
 |false=>exact h2 F P1 en t f Q E (R.later L) q1 λP2 b L2=>K P2 b (L.trans L2)
omit O in
theorem wp(h:fx C Γ e c)(h1:bx C Γ a x)(h2:bx C Γ b y):bx C Γ (.IfExp e a b p) (dQ c x y):=λF P en k Q E R q K=>by
 refine wpAny_IfExp (h F P en _ _ _ E R q λP1 v L q1=>?_);cases v with
 |true=>exact h1 F P1 en k Q E (R.later L) q1 (K.later L)
 |false=>exact h2 F P1 en k Q E (R.later L) q1 (K.later L)
theorem CW(hx:bx C Γ e x):bx C Γ (.UnaryOp .Not e p) (dz (fL (cT x))):=λF P en k Q E R h K=>
 wpAny_UnaryOp (hx F P en _ _ E R h λP1 u v L r h1=>not_of (ja O r h1 λP2 b L2 q=>K P2 (.bool !b) _ (L.trans L2) .bool_ (by cases b<;>exact q)))
theorem Gy(hx:bx C Γ a x)(hy:bx C Γ b y):bx C Γ (.BoolOp .Or [a,b] p) (IY x y):=λF P en k Q E R h K=>by
 show QQ _ _ (do
  let v ←eval a F.menv
  standAt p
  let t ←holding [v] (truthy v)
  match BoolOp.Or,t with
  |.And,false|.Or,true=>pure v
  |_,_=>boolOp p .Or (evalEach [b] F.menv)) _ _ _
 refine Qy (hx F P en _ _ E R h λP1 u v L r h1=>Qy (Sl (Qy (Rn (ja O r h1 λP2 c L2 h2=>?_)))));cases c with
 |true=>exact QC (K P2 u v (L.trans L2) (r.later L2) h2)
 |false=>exact hy F P2 en k Q E (R.later (L.trans L2)) h2 (K.later (L.trans L2))
theorem Dg(hx:bx C Γ a x)(hy:bx C Γ b y):bx C Γ (.BoolOp .And [a,b] p) (xD x y):=λF P en k Q E R h K=>by
 show QQ _ _ (do
  let v ←eval a F.menv
  standAt p
  let t ←holding [v] (truthy v)
  match BoolOp.And,t with
  |.And,false|.Or,true=>pure v
  |_,_=>boolOp p .And (evalEach [b] F.menv)) _ _ _
 refine Qy (hx F P en _ _ E R h λP1 u v L r h1=>Qy (Sl (Qy (Rn (ja O r h1 λP2 c L2 h2=>?_)))));cases c with
 |false=>exact QC (K P2 u v (L.trans L2) (r.later L2) h2)
 |true=>exact hy F P2 en k Q E (R.later (L.trans L2)) h2 (K.later (L.trans L2))
end
end
section
open PySem PySem.W PyProof.Rows
section
variable{C:Cx}{Γ:cW}{R R':Wd}
def j8(C:Cx)(op:CmpOp)(k:KV->K0->K0->KT):Prop:=∀(P:Pt C)(A:RR)(t f:K0)(Q:QD->QE->Prop)(E:QD->QE->Prop)(u w:KV)(v x:QD),
 VR C P.R u v->VR C P.R w x->k u t f P.m w=true->A.units+100<cLine->Kb C P.R t f (λb s=>Q (.bool b) s)->QQ (R6 C.prog C.w) A (compareOp op v x) Q E P.s
theorem dO.units{F:dO C Γ}:F.A.units+100<cLine:=by have:=F.room.units;lia
section
variable{P:Pt C}{t f:K0}{Q:QD->QE->Prop}
def fM(C:Cx)(P:Pt C)(v x:QD)(b:Bool):Prop:=∃da db as bs,Reads P.R.h v da as∧Reads P.R.h x db bs∧SeqAt.shaped da=true∧SeqAt.shaped db=true∧PyData.eqv da db=b
theorem fU{d:PyData}(c:d.canLay0=true)(h:d.depth≤64):SeqAt.shaped d=true:=by unfold SeqAt.shaped;refine rwr c (rwr (decide_eq_true h) ?_);rfl
theorem Ei{u w:KV}{v x:QD}(r:VR C P.R u v)(s:VR C P.R w x)(h:Cm u w t f P.m=true):∃b,fM C P v x b∧aB b (f P.m) (t P.m)=true:=by
 have key:∀(n:Nat),n≤60->eI u n=true->eI w n=true->(∃b,PyData.eqv (dK u) (dK w)=b∧aB b (f P.m) (t P.m)=true)->∃b,fM C P v x b∧aB b (f P.m) (t P.m)=true:=λn hn h1 h2 h=>by
  refine ah h ?_;intro b e h;refine b0 ((eX u).1 n v h1 r) ?_;intro zq0 a2 a3;refine az zq0 ?_;intro as a1;refine b0 ((eX w).1 n x h2 s) ?_;intro zq0 b2 b3;refine az zq0 ?_;intro bs b1;exact⟨b,⟨_,_,as,bs,a1,b1,fU a2 (by lia),fU b2 (by lia),e⟩,h⟩
 unfold Cm at h;cases e1:aB (pk u) false (pk w)with
 |true=>
  rw[e1]at h;refine dI e1 ?_;intro h1 h2;exact key 5 (by decide) (gO u h1) (gO w h2) ⟨_,(qh u).1 w 5 5 v x h1 h2 r s,h⟩
 |false=>
  rw[e1]at h;refine dI h ?_;intro h1 h3;refine dI h3 ?_;intro h2 h4;have:=gw h2;subst this;refine key 60 (QZ _) h1 h1 ⟨true,SeqAt.eqv_refl _ ((eX u).1 60 v h1 r).2.1,h4⟩
theorem bZ{g:Nat->KV->Bool}{o:KO}{p:iu}(h:iI g o=true)(r:eR C R o p){G:Prop}(k0:∀xs vs k,R.h.get? p.fst=some {cls:=.type "list",data:=.seq vs k}->bG C R xs vs.toList->vs.size≤100000->p.snd=p.fst->g vs.size xs=true->o=.list vs.size xs->G):G:=by
 cases o with
 |list n xs=>refine ar r ?_;clear r;intro e zq;refine d9 zq ?_;clear zq;intro vs k a b c d;subst c;exact k0 xs vs k a b d e h rfl
 |_=>exact aO h
theorem tX{P₀:Pg}(O:C.Ok P₀){u w:KV}{v x:QD}(r:VR C P.R u v)(s:VR C P.R w x)(h:d7 u t f P.m w=true){G:Prop}(kk:∀b,fM C P v x b->aB b (f P.m) (t P.m)=true->G):G:=by
 cases u with
 |bool=>exact aO h
 |ref q=>
  refine ah r ?_;clear r;rintro p hp rfl;refine bu h s ?_;clear h;rintro q' p' hp' h-rfl;refine aI h hp ?_;clear h;rintro o-ro h;refine bZ h ro ?_;clear h ro;rintro xs vs k g1 r1- -h -;refine aI h hp' ?_;clear h;rintro o'-ro' h;refine bZ h ro' ?_;clear h ro';rintro ys us k' g2 r2- -h -;refine dI h ?_;clear h;intro h1 h;refine dI h ?_;clear h;intro h2 h;refine b0 ((eX xs).2 4 vs.toList (gO xs h1) r1) ?_;intro zq0 a2 a3;refine az zq0 ?_;clear zq0;intro as a1;refine b0 ((eX ys).2 4 us.toList (gO ys h2) r2) ?_;intro zq0 b2 b3;refine az zq0 ?_;clear zq0;intro bs b1;refine kk _ ⟨.list _,.list _,_,_,.list g1 rfl rfl a1,.list g2 rfl rfl b1,fU a2 ?_,fU b2 ?_,(qh xs).2 ys 5 5 _ _ h1 h2 r1 r2⟩ h
  ·show _+1≤_;exact Rp a3 (QU (4+1).succ 58)
  ·show _+1≤_;exact Rp b3 (QU (4+1).succ 58)
 |tok=>exact aO h
 |fl=>exact aO h
 |_=>exact ah (Ei r s h) kk
theorem Io{P₀:Pg}(O:C.Ok P₀):j8 C .Eq d7:=λP A t f Q E u w v x r s h hA K=>by
 refine tX O r s h ?_;clear h;intro b zq1 h;refine ub zq1 ?_;clear zq1;intro da db as bs a1 b1 a2 b2 e;exact SeqAt.compareEq_shaped (s:=P.s) a1 b1 a2 b2 (by lia) (e▸K (P.tick _) b (.refl _ _) h)
theorem Ig{P₀:Pg}(O:C.Ok P₀):j8 C .NotEq jG:=λP A t f Q E u w v x r s h hA K=>by
 refine tX (t:=f) (f:=t) O r s h ?_;clear h;intro b zq1 h;refine ub zq1 ?_;clear zq1;intro da db as bs a1 b1 a2 b2 e;exact SeqAt.compareNe_shaped (s:=P.s) a1 b1 a2 b2 (by lia) (e▸K (P.tick _) (!b) (.refl _ _) (by cases(b)<;>exact h))
theorem kG{P₀:Pg}(O:C.Ok P₀){u w:KV}{v x:QD}(r:VR C P.R u v)(s:VR C P.R w x)(h:Mo u w t f P.m=true){G:Prop}(k:∀i j t1 t2,aB (decide (i<j)) (f P.m) (t P.m)=true->v=.int i t1->x=.int j t2->G):G:=by
 have ble:∀a b:Nat,QJ (QR a) b=decide (a<b):=λa b=>by rw[S6,decide_eq_true_eq,Nat.ble_eq];exact Iff.rfl
 have key:∀{b:Bool}{i j:Int}{c:Bool},aB b (f P.m) (t P.m)=true->(b=true↔i<j)->aB (decide (i<j)) (f P.m) (t P.m)=true:=λ{b i j c} h e=>by
  have:decide (i<j)=b:=by rw[S6,decide_eq_true_eq,e]
  rw[this];exact h
 cases u with
 |nat a=>
  refine az r ?_;clear r;rintro t1 rfl;cases w with
  |nat b=>refine az s ?_;clear s;rintro t2 rfl;exact k _ _ t1 t2 (key (c:=true) h (by rw[ble,decide_eq_true_eq];simp+arith)) rfl rfl
  |neg b=>refine az s ?_;clear s;rintro t2 rfl;exact k _ _ t1 t2 (key (b:=false) (c:=true) h (by simp;exact To (a+b.succ))) rfl rfl
  |_=>exact aO h
 |neg a=>
  refine az r ?_;clear r;rintro t1 rfl;cases w with
  |nat b=>refine az s ?_;clear s;rintro t2 rfl;exact k _ _ t1 t2 (key (b:=true) (c:=true) h (by simp;lia)) rfl rfl
  |neg b=>refine az s ?_;clear s;rintro t2 rfl;exact k _ _ t1 t2 (key (c:=true) h (by rw[ble,decide_eq_true_eq];lia)) rfl rfl
  |_=>exact aO h
 |_=>exact aO h
theorem Ih{P₀:Pg}(O:C.Ok P₀):j8 C .Lt jm:=λP A t f Q E u w v x r s h hA K=>by
 refine kG O r s h ?_;clear h r s;rintro i j t1 t2 h rfl rfl;exact PyProof.Rows.lt_int (K (P.tick P.t) _ (.refl _ _) h)
theorem Il{P₀:Pg}(O:C.Ok P₀):j8 C .Gt su:=λP A t f Q E u w v x r s h hA K=>by
 refine kG O s r h ?_;clear h s r;rintro i j t1 t2 h rfl rfl;exact PyProof.Rows.gt_int (K (P.tick P.t) _ (.refl _ _) h)
theorem Ii{P₀:Pg}(O:C.Ok P₀):j8 C .LtE Li:=λP A t f Q E u w v x r s h hA K=>by
 refine kG (t:=f) (f:=t) O s r h ?_;clear h;rintro i j t1 t2 h rfl rfl;refine PyProof.Rows.le_int (K (P.tick P.t) _ (.refl _ _) ?_);rw[show decide (j≤i)=!decide (i<j) by rw[←decide_not];congr 1;simp];cases hd:decide (i<j)<;>rw[hd]at h<;>exact h
theorem Im{P₀:Pg}(O:C.Ok P₀):j8 C .GtE JV:=λP A t f Q E u w v x r s h hA K=>by
 refine kG (t:=f) (f:=t) O r s h ?_;clear h;rintro i j t1 t2 h rfl rfl;refine PyProof.Rows.ge_int (K (P.tick P.t) _ (.refl _ _) ?_);rw[show decide (i≥j)=!decide (i<j) by rw[←decide_not];congr 1;simp];cases hd:decide (i<j)<;>rw[hd]at h<;>exact h
end
section
variable{P:Pt C}{A:RR}{E:QD->QE->Prop}
theorem Fz{c x:QD}{s:QE}{P:Bool->QE->Prop}(hh:QQ (R6 C.prog C.w) A (compareOp .In x c) (λr s=>∀b,r=.bool b->P b s) E s):QQ (R6 C.prog C.w) A (contains c x) P E s:=λΓ p hΓ=>by
 have h1:QQ (R6 C.prog C.w) A (contains c x>>=λb=>pure (Ud b)) (λr s=>∀b,r=.bool b->P b s) E s:=hh;have h2:=h1 Γ p hΓ;simp only[Sem.wp_bind',Sem.wp_pure']at h2;exact Sem.wp_mono _ Γ _ (λb p' s' h'=>h' b rfl) (λZ Z Z h'=>h') _ _ h2
open Classical in
theorem DL{u:KV}{v:QD}(hu:pk u=true)(r:VR C P.R u v):∀{xs:KV}{vs:List QD},uz xs=true->bG C P.R xs vs->∃e:QD->Bool,(∀x∈vs,fM C P x v (e x))∧vs.any e=mem u xs:=by
 have hd:∀{y:KV}{x:QD},pk y=true->VR C P.R y x->fM C P x v (bU y u):=λ{y x} hy ry=>by
  refine b0 ((eX y).1 5 x (gO y hy) ry) ?_;intro zq0 a2 a3;refine az zq0 ?_;clear zq0;intro as a1;refine b0 ((eX u).1 5 v (gO u hu) r) ?_;intro zq0 b2 b3;refine az zq0 ?_;clear zq0;intro bs b1;exact⟨_,_,as,bs,a1,b1,fU a2 (by exact QG a3 (QU (5+1) 58)),fU b2 (by exact QG b3 (QU (5+1) 58)),(qh y).1 u 5 5 x v hy hu ry r⟩
 have uq:∀{x:QD}{b c:Bool},fM C P x v b->fM C P x v c->b=c:=by
  rintro x b c ⟨da,db,as,bs,ra,rb,sa,sb,rfl⟩ ⟨da',db',as',bs',ra',rb',_,_,rfl⟩;exact rwr (SeqAt.Reads.unique _ _ _ _ _ (SeqAt.canLay_of_shaped sa) ra ra') (rwr (SeqAt.Reads.unique _ _ _ _ _ (SeqAt.canLay_of_shaped sb) rb rb') rfl)
 intro xs vs h1 h2;refine⟨λx=>decide (fM C P x v true),?_⟩;have oz:∀{x b},fM C P x v b->decide (fM C P x v true)=b:=λ{x b} h=>by
  cases b with
  |true=>exact decide_eq_true h
  |false=>exact decide_eq_false λk=>So (uq h k)
 induction xs generalizing vs with
 |nil=>cases h2;exact⟨λx h=>(by cases h),rfl⟩
 |cons y r _ ih=>
  refine aH h2 ?_;clear h2;rintro x us rfl r1 r2;refine dI h1 ?_;intro k1 k2;refine ar (ih k2 r2) ?_;intro i1 i2;have hx:=hd k1 r1;refine⟨λz hz=>?_,?_⟩
  ·rcases QH.mp hz with rfl|hz
   ·show fM C P z v (decide (fM C P z v true));refine rwr (oz hx) ?_;exact hx
   ·exact i1 z hz
  ·refine rwr List.any_cons (rwr (oz hx) (rwr i2 ?_));show _=aB (bU y u) (mem u r) true;cases bU y u<;>rfl
 |_=>exact h2.elim
theorem AW{P₀:Pg}(O:C.Ok P₀){t f:K0}{Q:Bool->QE->Prop}{u w:KV}{v x:QD}(r:VR C P.R u v)(s:VR C P.R w x)(h:gT u t f P.m w=true)(hA:A.units+100<cLine)(K:Kb C P.R t f Q):QQ (R6 C.prog C.w) A (contains x v) Q E P.s:=by
 have fin:∀{b:Bool}{t':Nat},aB b (f P.m) (t P.m)=true->Q b ⟨P.R.h,C.g,C.d,t',C.os⟩:=λ{b t'} q=>K (P.tick t') b (.refl _ _) q;refine bu h s ?_;clear h;rintro q p hp h-rfl;refine aI h hp ?_;clear h;rintro o-ro h;cases o with
 |list n xs=>
  refine ar ro ?_;clear ro;rintro -zq;refine aH zq ?_;clear zq;rintro vs k hob hvs -;refine dI h ?_;clear h;intro h1 h;refine dI h ?_;clear h;intro h2 h;refine ah (DL h2 r h1 hvs) ?_;intro e he hany;have hT:P.s.TypeIs (.ref p.fst) "list":=⟨_,hob,rfl⟩
  refine wpAny_contains_slot hT F.slot_list_contains (call_meets F.slot_list_contains hT F.entry_list_contains (F.args_list_contains_2 _ _) (SeqAt.list_containsAt p.fst vs k none #[] v e) ?_);refine⟨hob,λy hy=>?_,S5 ?_⟩
  ·refine ub (he y (by simpa using hy)) ?_;intro da db as bs ra rb sa sb q;refine rwl q ?_;exact SeqAt.eqAt_reads _ _ _ _ _ _ _ _ ra rb (SeqAt.canLay_of_shaped sa) (SeqAt.canLay_of_shaped sb) (SeqAt.room_of_shaped sa (by show A.units+1+_<_;lia))
  ·refine rwr (show vs.any e=mem u xs by rw[←hany,Array.any_toList]) ?_;exact fin h
 |dict n es=>
  refine dI h ?_;clear h;intro h1 h;refine ar ro ?_;clear ro;rintro -zq;refine xm zq ?_;clear zq;rintro ob es' ep hob hx hdat hE hnd -;have hT:P.s.TypeIs (.ref p.fst) "dict":=⟨_,hob,hx.1⟩
  refine wpAny_contains_slot hT F.slot_dict_contains (Rk F.slot_dict_contains hT F.entry_dict_contains ?_ (F.args_dict_contains_2 _ _));show QQ _ _ (dictGet p.fst v>>=_) _ _ _;refine Qy (jr (s:=P.s) h1 r rfl hob hdat hE (by show A.units+1+_<_;lia) hnd (λe t'=>?_) λy val e Z t'=>?_)
  ·rw[show cz es u (f P.m) (λZ=>t P.m)=f P.m by unfold cz;refine rwr e ?_;rfl]at h;show QQ _ _ (Builtin.Dict.pendingKey? p.fst v>>=_) _ _ _;exact Qy (wpAny_pendingKey_other (gW O P.good hp) (QC ⟨_,rfl,S5 (fin (b:=false) h)⟩))
  ·rw[show cz es u (f P.m) (λZ=>t P.m)=t P.m by unfold cz;refine rwr e ?_;rfl]at h;exact QC ⟨_,rfl,S5 (fin (b:=true) h)⟩
 |set xs=>
  refine ar ro ?_;clear ro;rintro -zq;refine aH zq ?_;clear zq;rintro S n hS hn -;cases xs with
  |nil=>
   cases u with
   |str c=>
    refine aH r ?_;clear r;rintro s2 _ rfl rfl ok;have hz:S s2=false:=by
     refine FE hS ?_;clear hS;rintro o es ep tb- - - -hiff- -hsz;cases hSs:S s2 with
     |false=>rfl
     |true=>
      refine ah ((hiff s2).mp hSs) ?_;rintro e he -;have:es=#[]:=Array.eq_empty_of_size_eq_zero (by have:len .nil=0:=rfl;lia);rw[this]at he;cases he
    refine Fz (wpAny_inSet_of (knd:=PySem.strKind C.prog C.w) (k:=s2) (s:=P.s) (by exact if_pos rfl) rfl hS ?_);refine rwr hz ?_;intro b hb;cases hb;exact fin (b:=false) h
   |_=>exact aO h
  |_=>exact aO h
 |_=>exact aO h
theorem Ik{P₀:Pg}(O:C.Ok P₀):j8 C .In gT:=λP A t f Q E u w v x r s h hA K=>by
 show QQ _ _ (do return Ud (←contains x v)) _ _ _;exact Qy (AW O r s h hA λP1 b L q=>QC (K P1 b L q))
theorem Ie{P₀:Pg}(O:C.Ok P₀):j8 C .NotIn k7:=λP A t f Q E u w v x r s h hA K=>by
 show QQ _ _ (do return Ud (!(←contains x v))) _ _ _;exact Qy (AW (t:=f) (f:=t) O r s h hA λP1 b L q=>QC (K P1 (!b) L (by cases b<;>exact q)))
end
section
variable{a b:Qz}{x y:X}{p:Pos}{op:CmpOp}{k:KV->K0->K0->KT}
theorem A3(hk:j8 C op k)(hx:bx C Γ a x)(hy:bx C Γ b y)(hm:behindInMarks op b=false):fx C Γ (.Compare a [op] [b] p) (aw k x y):=λF P en t f Q E R h K=>by
 refine Ti (hx F P en _ _ E R h λP1 u v L r h1=>?_) hm;refine hy F P1 en _ _ E (R.later L) h1 λP2 w z L2 s h2=>?_;exact hk P2 F.A t f _ E u w v z (r.later L2) s h2 F.units λP3 c L3 h3=>S5 (K P3 c ((L.trans L2).trans L3) h3)
theorem D5(hk:j8 C op k)(hx:bx C Γ a x)(hy:bx C Γ b y)(hm:behindInMarks op b=false):bx C Γ (.Compare a [op] [b] p) (dz (aw k x y)):=λF P en kk Q E R h K=>by
 refine wpAny_Compare1 (hx F P en _ _ E R h λP1 u v L r h1=>?_) hm;refine hy F P1 en _ _ E (R.later L) h1 λP2 w z L2 s h2=>?_;exact hk P2 F.A _ _ Q E u w v z (r.later L2) s h2 F.units λP3 c L3 h3=>K P3 (.bool c) _ ((L.trans L2).trans L3) .bool_ (by cases c<;>exact h3)
theorem o5{R:Wd}{t f:K0}{s:KS}{u:KV}{v:QD}(r:VR C R u v)(h:Hv t f s u=true):aB (v==.none) (f s) (t s)=true:=by
 cases u with
 |none=>cases r;exact h
 |bool=>cases r;exact h
 |str=>refine aE r ?_;clear r;rintro _ _ rfl -;exact h
 |nil=>refine ah r ?_;clear r;rintro _ rfl -;exact h
 |cons=>refine f9 r ?_;clear r;rintro _ _ _ rfl -;exact h
 |ref=>refine ah r ?_;clear r;rintro _-rfl;exact h
 |fl=>refine f9 r ?_;rintro _ _ _ rfl -;exact h
 |tok=>exact aO h
 |_=>refine az r ?_;clear r;rintro _ rfl;exact h
theorem Ij{n:Nat}{p':Pos}(hx:bx C Γ a x):fx C Γ (.Compare a [.Is] [.Constant .none n p'] p) (iq x):=λF P en t f Q E R h K=>by
 refine Ti (hx F P en _ _ E R h λP1 u v L r h1=>QC ?_) rfl;exact is_none (S5 (K P1 _ L (o5 r h1)))
theorem yn{n:Nat}{p':Pos}(hx:bx C Γ a x):fx C Γ (.Compare a [.IsNot] [.Constant .none n p'] p) (EE x):=λF P en t f Q E R h K=>by
 refine Ti (hx F P en _ _ E R h λP1 u v L r h1=>QC ?_) rfl;refine isNot_none (S5 (K P1 _ L ?_));have:=o5 (t:=f) (f:=t) r h1;cases hv:v==.none<;>rw[hv]at this<;>exact this
theorem Et{n:Nat}{p':Pos}(hx:bx C Γ a x):bx C Γ (.Compare a [.Is] [.Constant .none n p'] p) (dz (iq x)):=λF P en k Q E R h K=>by
 refine wpAny_Compare1 (hx F P en _ _ E R h λP1 u v L r h1=>QC ?_) rfl;refine is_none (K P1 (.bool (v==.none)) _ L .bool_ ?_);have:=o5 r h1;cases hv:v==.none<;>rw[hv]at this<;>exact this
theorem rM{F:dO C Γ}{P:Pt C}{s:Str}{tk:Tok}{t f:K0}{Q:Bool->QE->Prop}{E:QD->QE->Prop}{u:KV}{v:QD}(ok:yy s)(r:VR C P.R u v)(h:Fj (λd=>aB (QB (Nat.div d 2097152) 1) false (Fd t f P.m (@SK Nat (λZ=>Bool) false (λx Z r=>aB (QB x d) r true) (s.cps.toList.map λx=>gN [x])))) u=true)(K:Kb C P.R t f Q):
  QQ (R6 C.prog C.w) F.A (contains (.str s tk) v) Q E P.s:=by
 cases u with
 |str d=>
  refine aH r ?_;clear r;rintro s2 _ rfl rfl ok2;refine dI h ?_;clear h;intro h1 h;have h1:=bR.mp h1;obtain⟨ch,hs2⟩:∃ch,s2=⟨#[ch]⟩:=by
   obtain⟨⟨l⟩⟩:=s2;have hl:=ok2.1;unfold iz at h1;rw[ou]at h1;simp only at h1 hl;cases e:l.reverse with
   |nil=>rw[e]at h1;exact absurd h1 (by decide)
   |cons c r=>
    rw[e]at h1;have hc:c<1114112:=hl c (by rw[←List.mem_reverse,e];exact QF);have:gz (c::r)/2097152=gz r:=by rw[gz];lia
    rw[show Nat.div (gz (c::r)) 2097152=gz r from this]at h1;cases r with
    |nil=>exact⟨c,by rw[show l=[c] by rw[←List.reverse_reverse l,e];rfl]⟩
    |cons c' r'=>have:=oq r';rw[gz]at h1;lia
  refine Fz (PySem.P.in_str ?_);intro b hb;cases hb;refine K (P.tick _) _ (.refl _ _) ?_;have:(!(Builtin.Str.occurrences s s2 0 s.length 1).isEmpty)=@SK Nat (λZ=>Bool) false (λx Z r=>aB (QB x (iz s2)) r true) (s.cps.toList.map λx=>gN [x]):=by
   rw[hs2,PySem.StrLaws.found_one,S6,decide_eq_true_eq];induction s.cps.toList with
   |nil=>simp
   |cons y ys ih=>
    rw[QH,ih];show _↔aB (QB (gN [y]) (gN [ch])) _ true=true;rw[yq,bR];refine or_congr ?_ Iff.rfl;simp only[gN,List.foldl_cons,List.foldl_nil];lia
  refine rwr this ?_;exact h
 |_=>exact aO h
theorem zZ{s:Str}{n:Nat}{p':Pos}(ok:Fm s=true)(hx:bx C Γ a x):fx C Γ (.Compare a [.In] [.Constant (.str s) n p'] p) (uu (s.cps.toList.map λx=>gN [x]) x):=λF P en t f Q E R h K=>by
 refine Ti (hx F P en _ _ E R h λP1 u v L r h1=>wpAny_mkText ?_) rfl;show QQ _ _ (do return Ud (←contains _ v)) _ _ _;exact Qy (rM (F:=F) (P:=P1.tick (P1.t+1)) (r6 ok) r h1 λP2 b L2 q=>QC (S5 (K P2 b (L.trans L2) q)))
end
end
section
variable{C:Cx}{Γ:cW}{R R':Wd}
theorem my{f g:Nat->Bool}{i:KV}{w:QD}(h:Av f g i=true)(r:VR C R i w):∃z t,w=.int z t∧((∃n:Nat,z=n∧i=.nat n∧f n=true)∨∃n,z=.negSucc n∧i=.neg n∧g n=true):=by
 cases i with
 |nat n=>refine az r ?_;clear r;rintro t rfl;exact⟨_,t,rfl,.inl ⟨n,rfl,rfl,h⟩⟩
 |neg n=>refine az r ?_;clear r;rintro t rfl;exact⟨_,t,rfl,.inr ⟨n,rfl,rfl,h⟩⟩
 |_=>exact aO h
theorem cu{f:Nat->Bool}{i:KV}{w:QD}(h:ig f i=true)(r:VR C R i w){G:Prop}(k:∀(n:Nat)(t:Tok),f n=true->w=.int n t->i=.nat n->G):G:=by
 cases i with
 |nat n=>refine az r ?_;clear r;rintro t rfl;exact k n t h rfl rfl
 |_=>exact aO h
theorem Fc{i:Int}{k L:Nat}(e:(if i<0 then i+L else i)=(k:Int))(h:k<L):seqIndex? i L=some k:=by
 show(if(decide (0≤(if i<0 then i+(L:Int)else i))&&decide ((if i<0 then i+(L:Int)else i)<L))=true then some (if i<0 then i+(L:Int)else i).toNat else none)=_;refine rwr e (rwr (if_pos (Rb.mpr ⟨decide_eq_true (T9 k),decide_eq_true (Int.ofNat_lt.mpr h)⟩)) ?_);rfl
theorem o7{k:KV->Bool}{i xs:KV}{vs:List QD}{w:QD}(h:Fw k vs.length i xs=true)(r:VR C R i w)(rs:bG C R xs vs){G:Prop}(k0:∀z t y v j,seqIndex? z vs.length=some j->vs[j]?=some v->VR C R y v->k y=true->j<vs.length->(z=j∨z<0∧z+vs.length=j)->w=.int z t->G):G:=by
 obtain⟨z,t,rfl,⟨n,rfl,_,h⟩|⟨n,rfl,_,h⟩⟩:=my h r
 ·refine aC h ?_;clear h;intro y h hy;refine ah (rs.get hy) ?_;intro v hv ry;have hl:=(Rc.mp hv).1;exact k0 _ t y v n (Fc (if_neg (Int.not_lt.mpr (T9 n))) hl) hv ry h hl (.inl rfl) rfl
 ·refine dI h ?_;clear h;intro h1 h;have h1:=QA h1;refine aC h ?_;clear h;intro y h hy;refine ah (rs.get hy) ?_;intro v hv ry;have hn:=Nat.sub_lt (Sa (TB n) h1) (TB n);have e:Int.negSucc n+(vs.length:Int)=((vs.length-(n+1):Nat):Int):=Int.subNatNat_of_le h1;exact k0 _ t y v _ (Fc ((if_pos (Int.negSucc_lt_zero n)).trans e) hn) hv ry h hn (.inr ⟨Int.negSucc_lt_zero n,e⟩) rfl
theorem vi{P:Pt C}{s:Str}(ok:yy s)(t:Tok):bG C P.R (Fv (iz s)) (s.cps.toList.map λc=>.str ⟨#[c]⟩ t):=by
 unfold Fv;refine rwr (fA ok) ?_;have:∀l:List Nat,(∀c∈l,c<1114112)->bG C P.R (@SK Nat (λZ=>KV) .nil (λc Z r=>.cons (.str (gN [c])) r) l) (l.map λc=>.str ⟨#[c]⟩ t):=by
  intro l;induction l with
  |nil=>intro _;rfl
  |cons c r ih=>exact λh=>.cons_ (.str_ ⟨λx hx=>by simp at hx;subst hx;exact h _ QF,by simp⟩) (ih λx hx=>h x (QI _ hx))
 exact this _ ok.1
theorem jj{P:Pt C}{f:Nat->Bool}{g:KV->Bool}{e:Pa->Bool}{u:KV}{v:QD}(h:pQ f g e u=true)(r:VR C P.R u v):
  (∃s t,v=.str s t∧yy s∧f (iz s)=true)∨(∃a vs,v=.ref a∧P.R.h.IsTuple a vs.toArray∧bG C P.R u vs∧vs.length≤100000∧g u=true)∨∃q p o,v=.ref p.fst∧P.R.ρ q=some p∧tg q P.m.h=some o∧eR C P.R o p∧e q=true:=by
 cases u with
 |str c=>refine aH r ?_;clear r;rintro s t rfl rfl ok;exact .inl ⟨s,t,rfl,ok,h⟩
 |nil=>refine ah r ?_;clear r;rintro a rfl ht;exact .inr (.inl ⟨a,[],rfl,ht,rfl,Ry _,h⟩)
 |cons x y=>refine dM r ?_;clear r;rintro a w ws rfl ht h1 h2 hl;exact .inr (.inl ⟨a,w::ws,rfl,ht,⟨w,ws,rfl,h1,h2⟩,hl,h⟩)
 |ref q=>refine ah r ?_;clear r;rintro p hp rfl;refine ah (P.good.dom q p hp) ?_;intro o e1 e2;exact .inr (.inr ⟨q,p,o,rfl,hp,e1,e2,h⟩)
 |_=>exact aO h
theorem nN{P:Pt C}{f:Nat->Bool}{g:KV->Bool}{e:Pa->Bool}{l:KV->Bool}{u:KV}{v:QD}(h:r0 f g e l u=true)(r:VR C P.R u v):
  (∃xs a vs c,u=.fl xs∧v=.ref a∧P.R.h.get? a=some (ii vs c)∧bG C P.R xs vs.toList∧vs.size≤100000∧l xs=true)∨pQ f g e u=true:=by
 cases u with
 |fl xs=>refine dM r ?_;clear r;rintro a vs c rfl-hg rs hl;exact .inl ⟨xs,a,vs,c,rfl,rfl,hg,rs,hl,h⟩
 |none=>exact aO h
 |bool=>exact aO h
 |nat=>exact aO h
 |neg=>exact aO h
 |tok=>exact aO h
 |_=>exact .inr h
theorem kI{P:Pt C}{f:Nat->KV->Bool}{u:KV}{v:QD}(h:JP P.m f u=true)(r:VR C P.R u v){G:Prop}(k:∀n xs a vs c,P.R.h.get? a=some (ii vs c)->bG C P.R xs vs.toList->n=vs.size->n≤100000->f n xs=true->v=.ref a->G):G:=by
 cases u with
 |ref q=>
  refine ah r ?_;rintro p hp rfl;refine aI h hp ?_;rintro o-ro h;refine bZ h ro ?_;clear ro;rintro xs vs c hob rs hl-h -;exact k vs.size xs _ vs c hob rs rfl hl h rfl
 |fl xs=>refine dM r ?_;clear r;rintro a vs c rfl-hg rs hl;have rs:bG C P.R xs vs.toList:=rs;exact k (len xs) xs a vs c hg rs (rs.len_eq.trans QL) (by refine rwr rs.len_eq (rwr QL ?_);exact hl) h rfl
 |_=>exact aO h
theorem mK{P:Pt C}{q:Pa}{o:KO}{f:KO->Bool}(h:b9 q P.m f=true)(e:tg q P.m.h=some o):f o=true:=by
 unfold b9 at h;rw[e]at h;exact h
theorem iP{z:Int}{L j:Nat}(hl:L≤100000)(hj:j<L)(hz:z=j∨z<0∧z+L=j):-(2^63:Int)≤z∧z<2^63∧-(L:Int)≤z:=by omega
section
variable{P₀:Pg}(O:C.Ok P₀){P:Pt C}{A:RR}{Q:QD->QE->Prop}{E:QD->QE->Prop}
include O
theorem u0{k:KT}{u i:KV}{v w:QD}(r:VR C P.R u v)(ri:VR C P.R i w)(h:Hs k u P.m i=true)(hA:A.units+100<cLine)(K:Kp C C.vol P.R k Q):QQ (R6 C.prog C.w) A (getItem v w) Q E P.s:=by
 have lis:∀{a:Ri}{vs:Array QD}{k':Nat}{xs:KV},P.R.h.get? a=some (ii vs k')->bG C P.R xs vs.toList->vs.size≤100000->Fw (k P.m) vs.size i xs=true->QQ (R6 C.prog C.w) A (getItem (.ref a) w) Q E P.s:=λ{a vs k' xs} hob rs hl h=>by
  rw[←QL]at h;refine o7 h ri rs ?_;clear h;rintro z t' y v j h1 h2 ry h hj hz rfl;rw[QL]at hj hz;rw[R9]at h2;have hL:P.R.h.IsList a vs:=⟨_,hob,rfl,k',rfl⟩
  rcases hz with rfl|zq
  ·exact wpAny_getItem_list (s:=P.s) hL (by exact To (j+0)) (iP hl hj (.inl rfl)).2.1 h2 (K.at ry h _)
  ·refine ar zq ?_;clear zq;intro z0 z1;exact wpAny_getItem_list_neg (s:=P.s) hL z0 (iP hl hj (.inr ⟨z0,z1⟩)).2.2 (iP hl hj (.inr ⟨z0,z1⟩)).1 (by refine rwr z1 ?_;exact h2) (K.at ry h _)
 refine(nN h r).elim (λz=>?_) λh=>?_
 ·refine gu z ?_;rintro xs a vs c rfl rfl hg rs hl h;exact lis hg rs hl (by rw[rs.len_eq,QL]at h;exact h)
 rcases jj h r with zq|zq|zq
 ·refine aH zq ?_;clear zq;rintro s t rfl ok h;have rs:=vi (P:=P) ok P.t;have hs:s.cps.toList.length=s.length:=QL;rw[rs.len_eq]at h;refine o7 h ri rs ?_;clear h;rintro z t' y v j h1 h2 ry h hj hz rfl;rw[Ra,hs]at h1 hj hz;rw[Rj]at h2;refine wM h2 ?_;rintro c hc rfl;rw[R9]at hc;have:=ok.2;have hr:(decide (z< -(2^63:Int))||decide (z≥2^63))=false:=by
   have q:=iP (QG ok.2 (by decide)) hj hz;refine rwr (decide_eq_false (Int.not_lt.mpr q.1)) (rwr (decide_eq_false (Int.not_le.mpr q.2.1)) ?_);rfl
  refine PySem.P.getItem_str (s:=P.s) hr (by refine rwr h1 ?_;exact hc) ?_;exact K.at ry h _
 ·refine qj zq ?_;clear zq;rintro a vs rfl ht rs hl h;rw[rs.len_eq]at h;refine o7 h ri rs ?_;clear h;rintro z t' y v j h1 h2 ry h hj hz rfl;exact getItem_tuple (s:=P.s) ht (by first|exact(iP hl hj hz).1|exact(iP hl hj hz).2.1) (by first|exact(iP hl hj hz).1|exact(iP hl hj hz).2.1) (by simpa using h1) (by simpa using h2) (K.at ry h _)
 ·refine dM zq ?_;clear zq;rintro q p o rfl hp e ro h;have h:=mK h e;cases o with
  |list n xs=>
   refine ar ro ?_;clear ro;rintro -zq;refine d9 zq ?_;clear zq;rintro vs k' hob rs rfl hl;exact lis hob rs hl h
  |dict n es=>
   refine dI h ?_;clear h;intro h1 h;refine ar ro ?_;clear ro;rintro -zq;refine xm zq ?_;clear zq;rintro ob es' ep hob hx hdat hE hnd -;have hT:P.s.TypeIs (.ref p.fst) "dict":=⟨_,hob,hx.1⟩
   unfold getItem;refine Rn (Qy (U4 hT (by decide) ?_));refine Qy (Rx (name:=Rg "__getitem__") hT TH (Rk TH hT F.entry_dict_getitem ?_ (F.args_dict_getitem_2 _ _)));show QQ _ _ (dictGet p.fst w>>=_) _ _ _;refine Qy (jr (s:=P.s) h1 ri rfl hob hdat hE (by show A.units+1+_<_;lia) hnd (λe t'=>?_) λy val e rv t'=>?_)
   ·unfold cz at h;rw[e]at h;exact aO h
   ·unfold cz at h;rw[e]at h;exact QC ⟨_,rfl,QC (K.at rv h _)⟩
  |_=>exact aO h
omit O in
theorem kK{P':Pt C}{f:Nat->Bool}{g:KV->Bool}{fl:Nat->KV->Bool}{fd:Nat->KD->Bool}{u:KV}{v:QD}(r:VR C P.R u v){l:KV->Bool}(h:r0 f g (λq=>b9 q P'.m (vf fl fd)) l u=true)(hm:P'.m=P.m){Q:Bool->QE->Prop}{t:Nat}(q:Q false ⟨P.R.h,C.g,C.d,t,C.os⟩):
  QQ (R6 C.prog C.w) A (getitemInPython v) Q E ⟨P.R.h,C.g,C.d,t,C.os⟩:=by
 have fin:∀{T id:String},(P.tick t).s.TypeIs v T->typeLookup (.type T) "__getitem__"=pure (some (.builtin id))->QQ (R6 C.prog C.w) A (getitemInPython v) Q E (P.tick t).s:=by
  intro T id hT hl;refine rwr (getitemInPython_of_ne hT.not_modules) ?_;exact Qy (Sd hT hl (QC q))
 refine(nN h r).elim (λz=>?_) λh=>?_
 ·refine gu z ?_;clear z;rintro xs a vs c rfl rfl hg- - -;exact fin (T:="list") ⟨_,hg,rfl⟩ U7.lookup
 rcases jj h r with zq|zq|zq
 ·refine aH zq ?_;clear zq;rintro s t rfl ok h;exact fin (typeIs_str _ s t) F.slot_str_getitem.lookup
 ·refine qj zq ?_;clear zq;rintro a vs rfl ht rs hl h;exact fin (IsTuple.typeIs (s:=(P.tick _).s) ht) Ui.lookup
 ·refine dM zq ?_;clear zq;rintro q p o rfl hp e ro h;rw[hm]at h;have h:=mK h e;cases o with
  |list n xs=>refine ar ro ?_;clear ro;rintro -zq;refine aE zq ?_;clear zq;rintro vs k' hob -;exact fin (T:="list") ⟨_,hob,rfl⟩ U7.lookup
  |dict n es=>refine ar ro ?_;clear ro;rintro -zq;refine ei zq ?_;clear zq;rintro ob es' ep hob hx -;exact fin (T:="dict") ⟨_,hob,hx.1⟩ TH.lookup
  |_=>exact aO h
end
noncomputable def gm:Qz->Bool
 |.Slice _ _ _ _=>true
 |_=>false
theorem iE{e:Qz}(h:gm e=false)(o i:QD):subscripted e false o i=operate [o,i] (getItem o i):=by cases e<;>first|rfl|exact p7 h
section
variable{P₀:Pg}(O:C.Ok P₀){o i a b:Qz}{p p':Pos}{x y:X}
include O
theorem CR(hx:bx C Γ o x)(hy:bx C Γ i y)(hi:gm i=false):bx C Γ (.Subscript o i p) (aD x y):=λF P en k Q E R h K=>by
 refine U9 (hx F P en _ _ E R h λP1 u v L1 r h1=>?_);refine hy F P1 en _ _ E (R.later L1) h1 λP2 j w L2 rj h2=>?_;unfold PyProof.Rows.subscriptTail;refine Qy (kK (P':=P2) (r.later L2) h2 rfl ?_);rw[iE hi];refine Qy (wpAny_operating (u0 O (r.later L2) rj h2 F.units λP3 z v' L3 r3 h3=>?_));exact Qy (SP (QC (K P3 z v' ((L1.trans L2).trans L3) r3 h3)))
end
noncomputable def Cq(d n:Nat):Option Nat->Nat
 |none=>d
 |some i=>min i n
theorem Py(i n:Nat):max (0:Int) (min (i:Int) (n:Int))=((min i n:Nat):Int):=by
 rcases UU i n with h|h
 ·exact rwr (Sy h) (rwr (Int.min_eq_left (Int.ofNat_le.mpr h)) (rwr (Int.max_eq_right (T9 i)) rfl))
 ·exact rwr (T4 h) (rwr (Int.min_eq_right (Int.ofNat_le.mpr h)) (rwr (Int.max_eq_right (T9 n)) rfl))
theorem wI{items:Array QD}(lo hi:Option Nat):slicePick items (lo.map SO) (hi.map SO) none=((items.toList.take (Cq items.size items.size hi)).drop (Cq 0 items.size lo)).toArray:=by
 have eb:sliceBounds (lo.map SO) (hi.map SO) none items.size=(((Cq 0 items.size lo:Nat):Int),((Cq items.size items.size hi:Nat):Int),1):=by
  unfold sliceBounds;simp only[Option.getD_none,show(1:Int)>0 by decide,if_true];have cl:∀i:Nat,max (0:Int) (min (if SO i<0 then SO i+items.size else SO i) items.size)=((min i items.size:Nat):Int):=λi=>(congrArg (λz:Int=>max 0 (min z _)) (if_neg (Int.not_lt.mpr (T9 i)))).trans (Py i _)
  congr 1
  ·cases lo with
   |none=>rfl
   |some i=>exact cl i
  ·congr 1
   cases hi with
   |none=>rfl
   |some i=>exact cl i
 unfold slicePick;refine rwr eb ?_;dsimp only;rw[sliceRange_one,pick_run,List.drop_take]
def IW(w:QD):Option Nat->Prop
 |none=>w=.none
 |some i=>∃t,w=.int i t
theorem IW.part{w:QD}:∀{o:Option Nat},IW w o->IsPart w (o.map SO)
 |none,h=>by cases h;exact .none
 |some i,⟨t,e⟩=>by subst e;exact .int _ _
section
variable{P:Pt C}{A:RR}{Q:QD->QE->Prop}{E:QD->QE->Prop}
theorem gB{e:Qz}{se sl:Option Qz}{p:Pos}{k:KT}{u:KV}{v wl wh:QD}{lo hi:Option Nat}(hl:IW wl lo)(hh:IW wh hi)(r:VR C P.R u v)(K:Kp C C.vol P.R k Q)
  (hv:(∃a vs c m xs',v=.ref a∧P.R.h.get? a=some (ii vs c)∧vs.size≤100000∧q7 k P.m m xs'=true∧bG C P.R xs' ((vs.toList.take (Cq vs.size vs.size hi)).drop (Cq 0 vs.size lo))∧m=((vs.toList.take (Cq vs.size vs.size hi)).drop (Cq 0 vs.size lo)).length)∨
   (∃a vs j,v=.ref a∧P.R.h.IsTuple a vs.toArray∧bG C P.R u vs∧vs.length≤100000∧lo=some j∧hi=none∧1≤j∧j≤vs.length∧k P.m (drop j u)=true)):
  QQ (R6 C.prog C.w) A (PyProof.Rows.subscriptTail e (.Slice se sl none p) v (.ref P.R.h.objs.size)) Q E ⟨P.R.h.push {cls:=.type "slice",data:=.fields #[wl,wh,.none]},C.g,C.d,P.t,C.os⟩:=by
 have kp:=aX P.R.h {cls:=.type "slice",data:=.fields #[wl,wh,.none]};have hsl:(P.R.h.push {cls:=.type "slice",data:=.fields #[wl,wh,.none]}).IsSliceOf P.R.h.objs.size wl wh .none:=Uy ..;have hle:P.R.h.objs.size≤(P.R.h.push {cls:=.type "slice",data:=.fields #[wl,wh,.none]}).objs.size:=by rw[TZ];exact RA _
 generalize P.R.h.push {cls:=.type "slice",data:=.fields #[wl,wh,.none]}=h1 at*;have fin:∀{T id:String},Uw ⟨h1,C.g,C.d,P.t,C.os⟩ v T->typeLookup (.type T) "__getitem__"=pure (some (.builtin id))->QQ (R6 C.prog C.w) A (getItem v (.ref P.R.h.objs.size)) Q E ⟨h1,C.g,C.d,P.t,C.os⟩->
   QQ (R6 C.prog C.w) A (PyProof.Rows.subscriptTail e (.Slice se sl none p) v (.ref P.R.h.objs.size)) Q E ⟨h1,C.g,C.d,P.t,C.os⟩:=by
  intro T id hT hl q;unfold PyProof.Rows.subscriptTail;rw[getitemInPython_of_ne hT.not_modules];refine Qy (Qy (Sd hT hl (QC (Qy ?_))));show QQ _ _ (operate [.ref P.R.h.objs.size,v] (getItem v (.ref P.R.h.objs.size))) _ _ _;exact wpAny_operating (Sq q (λr s q=>Qy (SP (QC q))) λZ Z e=>e)
 rcases hv with zq|zq
 ·refine Kk zq ?_;clear zq;rintro a vs c m xs' rfl hob hsz hk rx hm;have hL:h1.IsList a vs:=⟨_,kp _ _ hob,rfl,c,rfl⟩
  refine fin (T:="list") ⟨_,kp _ _ hob,rfl⟩ U7.lookup (wpAny_getItem_list_slice (s:=⟨h1,C.g,C.d,P.t,C.os⟩) hL hsl hl.part hh.part .none (by decide) ?_ ?_)
  ·rw[wI];exact(rE (c:=0) K rx hm (λb o e=>aX _ _ b o (kp b o e)) (S7 hle) (QS _ rfl) hk P.t).2
  ·exact QG hsz cL
 ·refine Km zq ?_;clear zq;rintro a vs j rfl ht rs hln rfl rfl j1 j2 hk;rcases hl with⟨t,rfl⟩
  cases hh;have ht':h1.IsTuple a vs.toArray:=by rcases ht with⟨o,ho,h⟩;exact⟨o,kp _ _ ho,h⟩
  refine fin (IsTuple.typeIs (s:=⟨h1,C.g,C.d,_,C.os⟩) ht') Ui.lookup (getItem_tuple_from (s:=⟨h1,C.g,C.d,P.t,C.os⟩) ht' hsl j1 (by simpa using j2) ?_ (by simpa using QG hln cL));exact qC (c:=0) K (vs:=vs.drop j) (rs.drop_ j) (by refine rwr SF ?_;lia) (λb o e=>aX _ _ b o (kp b o e)) (by simpa using QS _ rfl) hk P.t
end
section
variable{o i:Qz}{p p':Pos}{x y:X}
theorem zM(hx:bx C Γ o x):bx C Γ (.Subscript o (.Slice none none none p') p) (yM x):=λF P en k Q E R h K=>by
 refine U9 (hx F P en _ _ E R h λP1 u v L r h=>?_);refine wpAny_Slice ?_;simp only[UN];refine QC (QC (QC ?_));refine kI h r ?_;intro n xs a vs c hg rs hn hl h zv;refine gB (P:=P1) (lo:=none) (hi:=none) rfl rfl r (K.later L) (.inl ⟨a,vs,c,n,xs,zv,hg,hn▸hl,h,?_⟩);show bG C P1.R xs (vs.toList.take vs.size)∧_=(vs.toList.take vs.size).length;refine rwr (S0 (TC QL)) (rwr QL ?_);exact⟨rs,hn⟩
theorem zE(hx:bx C Γ o x)(hy:bx C Γ i y):bx C Γ (.Subscript o (.Slice (some i) none none p') p) (kb x y):=λF P en k Q E R h K=>by
 refine U9 (hx F P en _ _ E R h λP1 u v L r h=>wpAny_Slice ?_);simp only[UN,evalPart_some];refine hy F P1 en _ _ E (R.later L) h λP2 j w L2 rj h=>QC (QC ?_);refine cu h rj ?_;clear h rj;rintro n t h rfl -;have r2:=r.later L2;have K2:=K.later (L.trans L2);cases u with
 |nil=>
  refine ah (id r2) ?_;rintro a rfl ht;refine dI h ?_;clear h;intro h1 h;refine dI h ?_;clear h;intro h2 h;exact gB (P:=P2) (lo:=some n) (hi:=none) ⟨t,rfl⟩ rfl r2 K2 (.inr ⟨a,[],n,rfl,ht,(bG.nil_:bG C P2.R .nil []),Ry _,rfl,rfl,QA h1,QA h2,h⟩)
 |cons z zs=>
  refine dM (id r2) ?_;rintro a u us rfl ht a1 a2 hl;have rs:bG C P2.R (.cons z zs) (u::us):=⟨u,us,rfl,a1,a2⟩
  refine dI h ?_;clear h;intro h1 h;refine dI h ?_;clear h;intro h2 h;rw[rs.len_eq]at h2;exact gB (P:=P2) (lo:=some n) (hi:=none) ⟨t,rfl⟩ rfl r2 K2 (.inr ⟨a,_,n,rfl,ht,rs,hl,rfl,rfl,QA h1,QA h2,h⟩)
 |ref q=>
  refine ah (id r2) ?_;rintro p hp rfl;refine aI h hp ?_;clear h;intro o e ro h;refine bZ h ro ?_;clear h ro;rintro xs vs c hob rs hl-h -;refine gB (P:=P2) (lo:=some n) (hi:=none) ⟨t,rfl⟩ rfl r2 K2 (.inl ⟨_,vs,c,_,_,rfl,hob,hl,h,?_⟩);show bG C P2.R _ ((vs.toList.take vs.size).drop (min n vs.size))∧vs.size-n=((vs.toList.take vs.size).drop (min n vs.size)).length;have:vs.toList.drop (min n vs.size)=vs.toList.drop n:=by
   rcases UU n vs.size with z|z
   ·exact rwr (Sy z) rfl
   ·exact rwr (T4 z) (rwr (List.drop_of_length_le (by simp_all+arith)) (rwr (List.drop_of_length_le (by simp_all+arith)) rfl))
  refine rwr (S0 (TC QL)) (rwr this (rwr SF (rwr QL ?_)));exact⟨rs.drop_ n,rfl⟩
 |_=>exact aO h
theorem Gx(hx:bx C Γ o x)(hy:bx C Γ i y):bx C Γ (.Subscript o (.Slice none (some i) none p') p) (Cv x y):=λF P en k Q E R h K=>by
 refine U9 (hx F P en _ _ E R h λP1 u v L r h=>wpAny_Slice ?_);simp only[UN,evalPart_some];refine QC (hy F P1 en _ _ E (R.later L) h λP2 j w L2 rj h=>QC ?_);refine cu h rj ?_;clear h rj;rintro n t h rfl -;have r2:=r.later L2;refine kI h r2 ?_;intro m xs a vs c hg rs hn hl h zv;subst hn;refine gB (P:=P2) (lo:=none) (hi:=some n) rfl ⟨t,rfl⟩ r2 (K.later (L.trans L2)) (.inl ⟨a,vs,c,_,_,zv,hg,hl,h,?_⟩);show bG C P2.R _ (vs.toList.take (min n vs.size))∧_=(vs.toList.take (min n vs.size)).length;have:vs.toList.take (min n vs.size)=vs.toList.take n:=by
  rcases UU n vs.size with z|z
  ·exact rwr (Sy z) rfl
  ·exact rwr (T4 z) (rwr (S0 (by simp)) (rwr (S0 (by simpa using z)) rfl))
 refine rwr this ?_;refine⟨rs.take_ n,?_⟩;refine rwr S3 (rwr QL ?_);cases hb:QJ n vs.size with
 |true=>exact(Sy (QA hb)).symm
 |false=>exact(T4 (Nat.le_of_not_le λz=>by rw[QK z]at hb;exact p7 hb)).symm
end
end
section
variable{C:Cx}{Γ:cW}{R R':Wd}
def oX(C:Cx)(op:UP)(k:KT->KV->KT):Prop:=∀(P:Pt C)(A:RR)(kk:KT)(Q:QD->QE->Prop)(E:QD->QE->Prop)(u w:KV)(v x:QD),
 VR C P.R u v->VR C P.R w x->k kk u P.m w=true->Kp C C.vol P.R kk Q->QQ (R6 C.prog C.w) A (binaryOp op v x) Q E P.s
theorem rh{f:Nat->Nat->Bool}{u w:KV}{v x:QD}(r:VR C R u v)(s:VR C R w x)(h:ig (λa=>ig (λb=>f a b) w) u=true){G:Prop}(k:∀(a b:Nat)(t t':Tok),v=.int a t->x=.int b t'->f a b=true->G):G:=by
 refine cu h r ?_;clear h r;rintro a t h rfl -;refine cu (f:=f a) (i:=w) h s ?_;clear h;rintro b t' h rfl rfl;exact k a b t t' rfl rfl h
theorem VR.int_{z:Int}{t:Tok}{n:Nat}(e:z=n):VR C R (.nat n) (.int z t):=e▸.nat_
theorem mq{k:KT}{m:KS}{n:Nat}{w:KV}{v x:QD}(h:LE k m w n=true)(r:VR C R (.tok n) v)(s:VR C R w x){G:Prop}(g:∀(z:Int)(t:Tok)(b:Nat)(t':Tok),v=.int z t->x=.int b t'->k m (.tok 0)=true->G):G:=by
 refine dI h ?_;intro h1 h;have:=bR.mp h1;subst this;refine fI r ?_;intro z t e;refine cu h s ?_;rintro b t' h e2 -;exact g z t b t' e e2 h
theorem s7:oX C .Add c9:=λP A kk Q E u w v x r s h K=>by
 have lis:N4 kk P.m u w=true->QQ (R6 C.prog C.w) A (binaryOp .Add v x) Q E P.s:=λh=>by
  refine kI h r ?_;rintro n xs a vs c g1 r1 hn-h rfl;refine kI h s ?_;rintro m ys b us c' g2 r2 hm-h rfl;subst hn hm;have rr:bG C P.R (app xs ys) (vs++us).toList:=by refine rwr RK ?_;exact r1.append r2
  cases hb:aB (u7 u) false (u7 w)with
  |false=>
   rw[hb]at h;refine tV (c:=0) K rr (by simp) (aX _ _) (bg _) (QS _ rfl) h P.t ?_;intro hl q;rw[U3]at q;exact PySem.P.add_list (s:=P.s) g1 g2 q (QG hl cL)
  |true=>
   rw[hb]at h;refine dI h ?_;intro hl h;have hl:=QA hl;have q:=B5 (c:=0) K rr (by simpa using hl) (aX _ _) (bg _) (QS _ rfl) h P.t;rw[U3]at q;exact PySem.P.add_list (s:=P.s) g1 g2 q (QG hl cL)
 cases u with
 |nat a=>
  refine az r ?_;clear r;rintro t rfl;refine cu h s ?_;clear h;rintro b t' h rfl -;exact PyProof.Rows.add_int (K.at (.int_ (Int.natCast_add a b).symm) h _)
 |tok n=>
  refine mq (v:=v) h r s ?_;rintro z t b t' rfl rfl h;exact PyProof.Rows.add_int (K.at (u:=.tok 0) ⟨_,_,rfl⟩ h _)
 |ref q=>exact lis h
 |fl q=>exact lis h
 |_=>exact aO h
theorem vP{a:Int}(h:a.natAbs≤1000000):Builtin.Int.intBits a≤64:=by
 unfold Builtin.Int.intBits
 split
 ·exact Ry _
 ·rename_i h0;have h0:a.natAbs≠0:=by simp at h0;simp_all+arith
  have:a.natAbs.log2<63:=(Nat.log2_lt h0).mpr (Rp h (by decide));lia
theorem EI:oX C .Mult Ht:=λP A kk Q E u w v x r s h K=>rh r s h λa b t t' e1 e2 h=>by
 subst e1 e2;refine dI h ?_;clear h;intro h1 h;exact PyProof.Rows.mul_int (K.at (.int_ (Int.natCast_mul a b).symm) h _) (IntMulOk.of_left (vP (QA h1)))
theorem wN{b:Nat}{c:Bool}(h:aB (QB b 0) c false=true){G:Prop}(k:b≠0->c=true->G):G:=by
 cases b with
 |zero=>exact aO h
 |succ b=>exact k (Nat.succ_ne_zero b) h
theorem r8{b:Nat}(h:b≠0):(b:Int)≠0:=λz=>h (Int.ofNat.inj z)
theorem zh{b r:Nat}(h:r<b):(b:Int)-1-(r:Int)=((b-(r+1):Nat):Int):=by
 rw[Int.ofNat_sub h,Int.sub_sub,Int.add_comm];rfl
theorem EJ:oX C .Mod dG:=λP A kk Q E u w v x r s h K=>by
 refine cu h s ?_;clear h s;rintro b t' h rfl -;refine wN h ?_;clear h;intro h0 h;obtain⟨z,t,rfl,⟨a,rfl,_,h⟩|⟨a,rfl,_,h⟩⟩:=my h r
 ·exact PyProof.Rows.mod_int (r8 h0) (K.at (.int_ (Int.ofNat_fmod a b).symm) h _)
 ·refine PyProof.Rows.mod_int (r8 h0) (K.at (.int_ ?_) h _);have hm:a%b<b:=T6 _ (Nat.pos_of_ne_zero h0);show Int.fmod (Int.negSucc a) b=((b-(a%b+1):Nat):Int);refine rwr (Int.fmod_eq_emod_of_nonneg _ (by exact To (b+0))) (rwr (Int.negSucc_emod _ (Int.ofNat_lt.mpr (Nat.pos_of_ne_zero h0))) ?_);exact zh hm
theorem Iw:oX C .FloorDiv sA:=λP A kk Q E u w v x r s h K=>by
 refine cu h s ?_;clear h s;rintro b t' h rfl -;refine wN h ?_;clear h;intro h0 h;refine dI h ?_;clear h;intro h1 h;have h1:=QA h1;refine cu h r ?_;clear h r;rintro a t h rfl -;exact PyProof.Rows.floordiv_int (r8 h0) (K.at (.int_ (Int.ofNat_fdiv a b).symm) h _) (.inl (PyProof.noPylong_small (by exact Rp h1 (QU (QR 1000000) 1072741823))))
theorem EH:oX C .Pow Mw:=λP A kk Q E u w v x r s h K=>rh r s h λa b t t' e1 e2 h=>by
 refine dI h ?_;clear h;intro h1 h;refine dI h ?_;clear h;intro h2 h;cases bR.mp h1;cases bR.mp h2;subst e1 e2;exact PyProof.Rows.pow_int_small (by decide) (by decide) (by decide) (K.at (.int_ rfl) h _)
theorem fP{op:UP}{k:KT->KV->KT}{a b:Qz}{x y:X}{p:Pos}(hk:oX C op k)(hx:bx C Γ a x)(hy:bx C Γ b y):bx C Γ (.BinOp a op b p) (aW k x y):=λF P en kk Q E R h K=>
 wpAny_BinOp (hx F P en _ _ E R h λP1 u v L r h1=>hy F P1 en _ _ E (R.later L) h1 λP2 w z L2 s h2=>hk P2 F.A kk Q E u w v z (r.later L2) s h2 (K.later (L.trans L2)))
theorem sV{a:Qz}{x:X}{p:Pos}(hx:bx C Γ a x):bx C Γ (.UnaryOp .USub a p) (dS x):=λF P en kk Q E R h K=>
 wpAny_UnaryOp (hx F P en _ _ E R h λP1 u v L r h1=>by
  obtain⟨z,t,rfl,⟨a,rfl,_,h⟩|⟨a,rfl,_,h⟩⟩:=my h1 r
  ·refine PyProof.Rows.neg_int ?_;cases a with
   |zero=>exact(K.later L).at (.int_ rfl) h _
   |succ m=>exact(K.later L).at .neg_ h _
  ·exact PyProof.Rows.neg_int ((K.later L).at (.int_ rfl) h _))
def oY(C:Cx)(op:UP)(k:KT->KV->KT):Prop:=∀(P:Pt C)(A:RR)(kk:KT)(Q:QD->QE->Prop)(E:QD->QE->Prop)(u:KV)(v:QD)(w:KV)(x:QD),
 (∃a,u=.nat a)∨(∃a,u=.tok a)->VR C P.R u v->VR C P.R w x->k kk u P.m w=true->Kp C C.vol P.R kk Q->QQ (R6 C.prog C.w) A (inplaceOp op v x) Q E P.s
theorem EN:oY C .Add c9:=λP A kk Q E u v w x hu r s h K=>by
 rcases hu with zq|zq
 ·refine az zq ?_;clear zq;rintro a rfl;refine az r ?_;rintro t rfl;refine cu h s ?_;clear h;rintro b t' h rfl -;exact PyProof.Rows.iadd_int (K.at (.int_ (Int.natCast_add a b).symm) h _)
 ·refine az zq ?_;clear zq;rintro a rfl;refine mq (v:=v) h r s ?_;rintro z t b t' rfl rfl h;exact PyProof.Rows.iadd_int (K.at (u:=.tok 0) ⟨_,_,rfl⟩ h _)
theorem tu{P:Pt C}{kk:KT}{Q:QD->QE->Prop}{a b:Nat}(K:Kp C C.vol P.R kk Q)(h:aB (QJ b a) (kk P.m (.neg (S9 b (QR a)))) (kk P.m (.nat (S9 a b)))=true)(t t':Nat):Q (.int ((a:Int)-b) t') ⟨P.R.h,C.g,C.d,t,C.os⟩:=by
 cases hb:QJ b a with
 |true=>rw[hb]at h;exact K.at (.int_ (by have:=QA hb;show(a:Int)-b=((a-b:Nat):Int);omega)) h _
 |false=>
  rw[hb]at h;have:a<b:=UH λz=>by rw[QK z]at hb;exact p7 hb
  have e:(a:Int)-b=.negSucc (b-(a+1)):=by omega
  refine rwr e ?_;exact K.at .neg_ h _
theorem xw:oX C .Sub q9:=λP A kk Q E u w v x r s h K=>by
 cases u with
 |nat a=>
  refine az r ?_;rintro t rfl;refine cu (i:=w) (f:=λb=>aB (QJ b a) (kk P.m (.neg (S9 b (QR a)))) (kk P.m (.nat (S9 a b)))) h s ?_;rintro b t' h rfl rfl;exact PyProof.Rows.sub_int (tu K h _ _)
 |tok n=>
  refine mq (v:=v) h r s ?_;rintro z t b t' rfl rfl h;exact PyProof.Rows.sub_int (K.at (u:=.tok 0) ⟨_,_,rfl⟩ h _)
 |_=>exact aO h
theorem EM:oY C .Sub q9:=λP A kk Q E u v w x hu r s h K=>by
 rcases hu with zq|zq
 ·refine az zq ?_;clear zq;rintro a rfl;refine az r ?_;rintro t rfl;refine cu (i:=w) (f:=λb=>aB (QJ b a) (kk P.m (.neg (S9 b (QR a)))) (kk P.m (.nat (S9 a b)))) h s ?_;rintro b t' h rfl rfl;exact PySem.P.isub_int (tu K h _ _)
 ·refine az zq ?_;clear zq;rintro a rfl;refine mq (v:=v) h r s ?_;rintro z t b t' rfl rfl h;exact PySem.P.isub_int (K.at (u:=.tok 0) ⟨_,_,rfl⟩ h _)
end
section
variable{C:Cx}{Γ:cW}{R R':Wd}
theorem h9{α:Type}{a b:List (Str×α)}{n:Str}:(a++b).lookup n=(a.lookup n).or (b.lookup n):=List.lookup_append
theorem gZ{α:Type}:∀{ns:List Str}{vs:List α}{i:Nat}{n:Str},ns.Nodup->ns[i]?=some n->(ns.zip vs).lookup n=vs[i]?
 |[],_,_,_,_,h=>by trivial
 |a::ns,[],_,_,_,_=>by rfl
 |a::ns,v::vs,0,n,_,h=>by cases h;simp
 |a::ns,v::vs,i+1,n,hd,h=>by
  have hn:n≠a:=λe=>(RN.mp hd).1 (e▸Rq h);refine rwr List.zip_cons_cons (rwr RI (rwr (beq_false_of_ne hn) ?_));exact gZ (RN.mp hd).2 h
theorem gL{α:Type}{S:List (Str×α)}:∀{ns:List Str}{ws:List α},ns.length=ws.length->(∀(i:Nat)(n:Str),ns[i]?=some n->S.lookup n=ws[i]?)->ns.filterMap (λn=>(S.lookup n).map (n,·))=ns.zip ws
 |[],_,_,_=>by simp
 |a::ns,[],h,_=>by exact Uo h
 |a::ns,w::ws,h,k=>by
  refine rwr List.filterMap_cons (rwr (k 0 a rfl) ?_);exact congrArg ((a,w)::·) (gL (Nat.succ.inj h) λi n e=>k (i+1) n e)
def qw(h:SG)(fd:UR)(ds:List QD):Prop:=(fd.defaults=.none∧ds=[])∨∃a items,fd.defaults=.ref a∧h.IsTuple a items∧items.toList=ds
structure jy(ns:List Str)(par:Se):Prop where
 pos:par.posonlyargs=[]
 vararg:par.vararg=none
 kwonly:par.kwonlyargs=[]
 kwarg:par.kwarg=none
 names:par.args.map (·.arg)=ns
 nodup:ns.Nodup
section
variable{α:Type}{M:Model}{A:RR}{Q:α->QE->Prop}{E:QD->QE->Prop}{s:QE}{c:Prop}[Decidable c]{x y:Sem α}
theorem Cz(h:¬c)(k:QQ M A y Q E s):QQ M A (if c then x else y) Q E s:=by refine rwr (if_neg h) ?_;exact k
end
theorem N9{i N D V:Nat}(hi:i<min (N-D) N)(h3:N≤V+D):i<N∧i<V:=⟨Sa hi (Nat.min_le_right ..),Sa (Sa hi (Nat.min_le_left ..)) (Nat.sub_le_iff_le_add.mpr h3)⟩
theorem FY{N V D:Nat}(h1:V≤N)(h2:D≤N)(h3:N≤V+D){G:Prop}(k:∀a b e,V=a+b->N=a+b+e->D=b+e->G):G:=by
 refine az (Nat.exists_eq_add_of_le h1) ?_;clear h1;rintro e rfl;refine az (Nat.exists_eq_add_of_le' (Nat.le_of_add_le_add_left h3)) ?_;clear h3;rintro b rfl;refine az (Nat.exists_eq_add_of_le' (Nat.le_of_add_le_add_right h2)) ?_;clear h2;rintro a rfl;exact k a b e rfl rfl rfl
theorem BO(a b e:Nat):a+b+e-(b+e)=a∧a+b+e-(a+b)=e∧b+e-e=b:=⟨by rw[TR,Nat.add_sub_cancel],Sv ..,Nat.add_sub_cancel ..⟩
theorem KC{N V D:Nat}(h1:V≤N)(h2:D≤N)(h3:N≤V+D):N=V+(D-(D-(N-V))):=by
 refine FY h1 h2 h3 ?_;clear h1 h2 h3;rintro a b e rfl rfl rfl;rw[(BO a b e).2.1,(BO a b e).2.2,Sv]
theorem N8{N V D i:Nat}(z:V≤i)(h1:V≤N)(h2:D≤N)(h3:N≤V+D):N-D+(i-(N-D))=i∧i-(N-D)=D-(N-V)+(i-V):=by
 refine FY h1 h2 h3 ?_;clear h1 h2 h3;rintro a b e rfl rfl rfl;refine az (Nat.exists_eq_add_of_le z) ?_;clear z;rintro c rfl;rw[(BO a b e).1,(BO a b e).2.1,(BO a b e).2.2,TR a b c,Sv,←TR a b c,Sv];exact⟨TR ..▸rfl,rfl⟩
section
variable{ns:List Str}{vals ds:List QD}(nd:ns.Nodup)(h3:ns.length≤vals.length+ds.length)
include nd h3
theorem AB:((ns.take (ns.length-ds.length)).filter λn=>((ns.zip vals).lookup n).isNone)=[]:=by
 rw[List.filter_eq_nil_iff];intro n hn;refine az (Uc.mp hn) ?_;intro i zq;refine az zq ?_;clear zq;rintro hi rfl;rw[S3]at hi;have a:=N9 hi h3;rw[List.getElem_take,gZ nd (QM a.1),QM a.2];exact R8
theorem Ed(h1:vals.length≤ns.length)(h2:ds.length≤ns.length){S:List (Str×QD)}(hS:∀n,S.lookup n=(ns.zip vals++(ns.drop (ns.length-ds.length)).zip ds).lookup n):ns.filterMap (λn=>(S.lookup n).map (n,·))=ns.zip (vals++ds.drop (ds.length-(ns.length-vals.length))):=by
 refine gL (by refine rwr QT (rwr SF ?_);exact KC h1 h2 h3) λi n hi=>?_;rw[hS,h9,gZ nd hi];rcases UT i vals.length with z|z
 ·refine rwr (S2 z) (rwr (QM z) ?_);rfl
 ·have a:=N8 z h1 h2 h3;rw[RU z,Th z,List.getElem?_drop,Option.none_or,gZ (i:=i-(ns.length-ds.length)) (nd.sublist (List.drop_sublist ..)) (by rw[List.getElem?_drop,a.1];exact hi),a.2]
end
theorem rZ{M:Model}{A:RR}{E:QD->QE->Prop}{s:QE}{fd:UR}{ns:List Str}{vals ds:List QD}{Q:List (Str×QD)->QE->Prop}(P:jy ns fd.params)(hd:qw s.heap fd ds)(h1:vals.length≤ns.length)(h2:ds.length≤ns.length)(h3:ns.length≤vals.length+ds.length)
  (q:Q (ns.zip (vals++ds.drop (ds.length-(ns.length-vals.length)))) s):QQ M A (bindArgs fd ⟨vals,[]⟩) Q E s:=by
 obtain⟨name,qual,⟨po,as,va,ko,kd,kw,dl⟩,body,scope,globals,closure,dfl,kwdefaults,doc,module,annotations,code,ct,builtins⟩:=fd;obtain⟨p1,p2,p3,p4,p5,nd⟩:=P;cases p1;cases p2;cases p3;cases p4;have p5:List.map (λx:Arg=>x.arg) []++as.map (λx:Arg=>x.arg)=ns:=p5;unfold bindArgs;have hseq:∀{R:Option (Array QD)->QE->Prop},(∀x,(x.getD #[]).toList=ds->R x s)->QQ M A (seqItems? dfl) R E s:=by
  intro R k;rcases hd with zq|zq
  ·refine ar zq ?_;clear zq;intro e e2;cases e;exact QC (k none (by rw[e2];rfl))
  ·refine aH zq ?_;clear zq;rintro a items e ⟨o,ho,_,n,hdat⟩ e2;cases e;exact UC ho hdat (k (some items) e2)
 refine Qy (QC (Qy (hseq λx hx=>?_)));dsimp only;rw[hx,p5,show ds.length-ns.length=0 by simp_all+arith,List.drop_zero];refine Cz (by simp;assumption) ?_;rw[AB nd h3,if_neg (by decide)];refine Qy (TL _ (λrest(S:List (Str×QD)) s'=>s'=s∧∃d,(ns.drop (ns.length-ds.length)).zip ds=d++rest∧∀n,S.lookup n=(ns.zip vals++d).lookup n) _ ?_ ?_ _ _ ⟨rfl,[],rfl,λn=>by rw[RO]⟩)
 ·rintro⟨nm,v⟩ rest S s' ⟨rfl,d,hz,hS⟩;refine CA (λh=>QC ⟨rfl,d++[(nm,v)],by rw[hz];simp,λn=>?_⟩) λh=>QC ⟨rfl,d++[(nm,v)],by rw[hz];simp,λn=>?_⟩
  ·rw[←Sx,h9,h9,hS]
  ·rw[←Sx,h9,←hS];cases e:n==nm with
   |true=>
    cases eq_of_beq e;cases hl:S.lookup nm with
    |none=>rw[hl]at h;exact absurd rfl h
    |some x=>rfl
   |false=>rw[show[(nm,v)].lookup n=none by rw[RI,e];rfl,Option.or_none]
 ·rintro S s' ⟨rfl,d,hz,hS⟩;rw[RO]at hz;refine Qy (QC ?_);refine Cz (by simp) (QC ?_);rw[List.map_nil,RO,Ed nd h3 h1 h2 (by rw[hz];exact hS)];exact q
end
section
variable{C:Cx}{Γ:cW}{R R':Wd}
noncomputable def ci(C:Cx)(menv:Rd):List Ri:=menv.locals::(menv.cells.filterMap (λp=>menv.cells.lookup p.1)++C.vol)
def Ls(F:dO C Γ)(fr:Fr)(k:En->K0)(P:Pt C):Su->Prop
 |.next=>∃en,ER F P.R en∧k en P.m=true
 |.brk=>∃en,ER F P.R en∧fr.brk en P.m=true
 |.cont=>∃en,ER F P.R en∧fr.cont en P.m=true
 |.ret v=>∃u,VR C P.R u v∧fr.ret P.m u=true
def KF(F:dO C Γ)(R:Wd)(fr:Fr)(k:En->K0)(Q:Su->QE->Prop):Prop:=∀(P:Pt C) fl,ay (ci C F.menv) R P.R->Ls F fr k P fl->Q fl P.s
def C0(C:Cx)(Γ:cW)(y:Y)(w:Rd->Sem Su):Prop:=∀(F:dO C Γ)(P:Pt C)(fr:Fr)(k:En->K0)(en:En)(Q:Su->QE->Prop)(E:QD->QE->Prop),
 ER F P.R en->y F.cl fr k en P.m=true->KF F P.R fr k Q->QQ (R6 C.prog C.w) F.A (w F.menv) Q E P.s
abbrev d5(C:Cx)(Γ:cW)(s:U6)(y:Y):Prop:=C0 C Γ y (exec s)
abbrev lM(C:Cx)(Γ:cW)(ss:List U6)(y:Y):Prop:=C0 C Γ y (execs ss)
theorem lI{k:En->Bool}:∀{xs:KV}{q:Pa}{e:En},kP xs q e k=true->∃e',k e'=true∧∀p x,tg p e'=some x->tg p e=some x∨∃i,bB p=bB q+i∧ng i xs=some x:=by
 intro xs;induction xs with
 |cons x r _ ih=>
  intro q e h;refine ah (ih (q:=qs q) (e:=tp q x e) h) ?_;intro e' h1 h2;refine⟨e',h1,λp y hy=>?_⟩;rcases h2 p y hy with z|zq
  ·by_cases w:p=q
   ·subst w;rw[aS]at z;exact .inr ⟨0,rfl,z⟩
   ·rw[am _ w]at z;exact .inl z
  ·refine ah zq ?_;clear zq;intro i z1 z2;exact .inr ⟨i+1,by rw[z1,mw];simp+arith,z2⟩
 |_=>exact λ{q e} h=>⟨e,h,λp x e=>.inl e⟩
theorem Iy{ns rest:List Str}{xs:KV}{vs:List QD}{en:En}{nm:Str}{q:Pa}{x:KV}(hm:Γ.m=ns++rest)(rs:bG C R xs vs)(he:∀p x,tg p en=some x->tg p .nil=some x∨∃i,bB p=bB .e+i∧ng i xs=some x)
  (h1:Γ.slot nm=some q) (h2:tg q en=some x):∃(i:Nat)(v:QD),(ns++rest)[i]?=some nm∧vs[i]?=some v∧VR C R x v:=by
 rcases he q x h2 with z|zq
 ·rw[fj]at z;exact cO z
 ·refine ah zq ?_;clear zq;intro i z1 z2;refine ah (iG h1) ?_;intro j a b;have:i=j:=by simp_all+arith
  subst this;refine ah (rs.get z2) ?_;intro v v1 v2;exact⟨i,v,hm▸a,v1,v2⟩
theorem xx{ns rest:List Str}{xs:KV}{vs:List QD}{en:En}{nm:Str}{q:Pa}{x:KV}(hm:Γ.m=ns++rest)(rs:bG C R xs vs)(he:∀p x,tg p en=some x->tg p .nil=some x∨∃i,bB p=bB .e+i∧ng i xs=some x)
 (h1:Γ.slot nm=some q) (h2:tg q en=some x) {G:Prop} (k:∀(i:Nat)(v:QD),(ns++rest)[i]?=some nm->vs[i]?=some v->VR C R x v->G):G:=aH (Iy hm rs he h1 h2) k
theorem vZ{α:Type}{ns:List Str}{ws:List α}{i:Nat}{n:Str}{v:α}(h:ns[i]?=some n)(k:ws[i]?=some v):(n,v)∈ns.zip ws:=Rq (Uu.mpr ⟨h,k⟩)
theorem kW{α:Type}{ns:List Str}{ws:List α}(h:ns.Nodup):((ns.zip ws).map (·.1)).Nodup:=by
 have:∀(ns:List Str)(ws:List α),((ns.zip ws).map (·.1)).Sublist ns:=by
  intro ns;induction ns with
  |nil=>intro ws;constructor
  |cons n ns ih=>
   intro ws;cases ws with
   |nil=>simp
   |cons w ws=>refine rwr List.zip_cons_cons (rwr Sr ?_);exact(ih ws).cons_cons n
 exact h.sublist (this ns ws)
theorem dh{x:Str}:∀{names:List (Str×SJ)}{n:Nat}{acc:List (Str×Ri)},((x,NameKind.cell)∈names∨(acc.lookup x).isSome=true)->((cellsFrom n names acc).lookup x).isSome=true
 |[],n,acc,h=>h.elim nofun id
 |(nm,k)::r,n,acc,h=>by
  unfold cellsFrom
  split
  ·refine dh ?_;refine rwr RI ?_;cases e:x==nm with
   |true=>exact .inr rfl
   |false=>exact h.imp (λh=>(QH.mp h).resolve_left λz=>by cases z;simp at e) id
  ·rename_i hk;exact dh (h.imp (λh=>(QH.mp h).resolve_left λz=>by cases z;exact hk rfl) id)
theorem oK{kd:Str->Option SJ}{nm:Str}{v:QD}:∀{bs:List (Str×QD)}{m m':Str->Option QD},(nm∉bs.map (·.1)->PySem.bindL kd bs m nm=m nm∧PySem.bindC kd bs m' nm=m' nm)∧
  ((bs.map (·.1)).Nodup->(nm,v)∈bs->(kd nm=some .local->PySem.bindL kd bs m nm=some v)∧(kd nm=some .cell->PySem.bindC kd bs m' nm=some v))
 |[],_,_=>⟨λzz=>⟨rfl,rfl⟩,λzz h=>by cases h⟩
 |(n,u)::r,m,m'=>by
  have ih:=λm m'=>oK (kd:=kd) (nm:=nm) (v:=v) (bs:=r) (m:=m) (m':=m');unfold PySem.bindL PySem.bindC;refine⟨λh=>?_,λhd h=>?_⟩
  ·simp only[Sr,QH,not_or]at h;refine rwr (((ih _ m).1 h.2).1) (rwr (((ih m _).1 h.2).2) ?_)
   constructor<;>split<;>first|rfl|exact if_neg h.1
  ·rw[Sr,RN]at hd;rcases QH.mp h with e|e
   ·cases e;refine rwr (((ih _ m).1 hd.1).1) (rwr (((ih m _).1 hd.1).2) ?_);exact⟨λk=>by rw[if_pos k];exact if_pos rfl,λk=>by rw[if_neg (by rw[k];decide)];exact if_pos rfl⟩
   ·exact(ih _ _).2 hd.2 e
theorem ay.leave{menv:Rd}{h1:SG}(k:bv R.h h1)(L:ay (ci C menv) ⟨R.ρ,h1,R.fz⟩ R')(hl:R.h.get? menv.locals=none)(hc:∀nm ca,(nm,ca)∈menv.cells->R.h.get? ca=none):ay C.vol R R':=by
 refine((ay.keeps _ k).trans L).strike λb hb=>?_;rcases QH.mp hb with rfl|hb
 ·exact .inr hl
 ·rcases RG.mp hb with hb|hb
  ·refine Lk hb ?_;rintro q-hq;exact .inr (hc _ _ (QV hq))
  ·exact .inl hb
structure yw(C:Cx)(a:Ri)(np:Nat)(ds:KV)(y:Y)(ob:Obj)(fd:UR)(bd:List U6)(dv:List QD)(ns rest:List Str):Prop where
 obj:C.h₀.get? a=some ob
 data:ob.data=.func fd
 body:fd.body=.stmts bd
 co:fd.scope.isCoroutine=false
 gen:fd.scope.isGenerator=false
 kind:fd.scope.kind=.function
 clo:fd.closure=[]
 glob:fd.globals=Rh
 bi:fd.builtins=RY
 code:C.h₀.CodeRec fd.code fd.qualname
 pars:jy ns fd.params
 np:ns.length=np
 defs:qw C.h₀ fd dv
 drel:∀R,bv C.h₀ R.h->bG C R ds dv
 dlen:dv.length≤ns.length
 kinds:∀n∈ns,fd.scope.names.lookup n=some .local∨fd.scope.names.lookup n=some .cell
 lam:fd.scope.names.lookup ("FP":Str)=some NameKind.local->∃c P,fd.code=.ref c∧P∈C.vol∧CodeHd C.h₀ c P∧C.volQ P=fd.qualname++".<locals>."++"<lambda>"
 nofree:∀x∈fd.scope.names,x.2≠.free
 snd:lM C ⟨λs=>fd.scope.names.lookup s,ns++rest,true,true⟩ bd y
theorem kR.push{fr:List Rd}{menv:Rd}{L:Ri}(G:∃μ,bM C R μ){h1:SG}(k:bv R.h h1)(h:kR C R fr)(h2:menv.scope.kind=.function)(h3:menv.frame=some L)(h4:R.h.get? L=none){m:Str->Option QD}(ns:h1.Ns L m):kR C ⟨R.ρ,h1,R.fz⟩ (menv::fr):=λf hf=>by
 refine az G ?_;clear G;rintro μ G;rcases QH.mp hf with rfl|hf
 ·refine ei ns ?_;clear ns;rintro o es ep ho hd -;refine lW (G.dead h4) ?_;rintro a b-c;exact⟨by refine rwr h2 ?_;decide,L,o,es,ep,h3,a,c,b,ho,hd⟩
 ·exact h.later (ay.keeps _ k) f hf
section
variable{P:Pt C}{Q:QD->QE->Prop}{E:QD->QE->Prop}{A:RR}{fr:List Rd}{k:KT}{xs:KV}{vs:List QD}{cl:Cl}{d:Nat}
def Rm(C:Cx)(R:Wd)(A:RR)(fr:List Rd)(d:Nat):Prop:=(A.depth+8*d<recursionLimit∧A.units+16*d+200<cLine∧A.handled=none∧A.frames=some fr∧A.guards=some [])∧kR C R fr
theorem B0{P₀:Pg}(O:C.Ok P₀){a:Ri}{np:Nat}{ds:KV}{y:Y}{ob:Obj}{fd:UR}{bd:List U6}{dv:List QD}{ns rest:List Str}(H:yw C a np ds y ob fd bd dv ns rest)(hc:IX C cl d)(rs:bG C P.R xs vs)(rm:Rm C P.R A fr (d+1))
  (h:IR cl xs k P.m np ds y=true) (K:Kp C C.vol P.R k Q):codeAny (R6 C.prog C.w) A (.call (.ref a) ⟨vs,[]⟩) (jM Q E) P.s:=by
 refine ar rm ?_;clear rm;intro zq0 rf;refine iU zq0 ?_;clear zq0;intro r1 r2 r3 r4 r5;refine dI h ?_;clear h;intro b1 h;refine dI h ?_;clear h;intro b2 h;have b1:=QA b1;have b2:=QA b2;refine ah (lI h) ?_;clear h;intro en h hen;have rd:=H.drel P.R P.good.keep;have e1:=rs.len_eq;have e2:=rd.len_eq;have e3:=H.np;have e4:=H.dlen;have b2:np-len xs≤len ds:=b2;rw[e1]at b1 b2;rw[e2]at b2;refine codeAny_call_function (by lia) (P.good.keep _ _ H.obj) H.data H.co H.gen H.body (H.code.keeps P.good.keep) ?_;have hdef:qw P.R.h fd dv:=H.defs.imp id λ⟨b,items,d1,⟨o,d2,d3⟩,d4⟩=>⟨b,items,d1,⟨o,P.good.keep _ _ d2,d3⟩,d4⟩
 have v1:vs.length≤ns.length:=H.np▸b1;have v3:ns.length≤vs.length+dv.length:=Nat.sub_le_iff_le_add'.mp (H.np▸b2);refine rZ (s:=P.s) H.pars hdef v1 e4 v3 ?_;refine rwr H.clo ?_;have xY:bG C P.R (app xs (drop (S9 (len ds) (S9 np (len xs))) ds)) (vs++dv.drop (dv.length-(ns.length-vs.length))):=by
  refine rwr e1 (rwr e2 (rwr e3 ?_));exact rs.append (rd.drop_ _)
 have lus:(vs++dv.drop (dv.length-(ns.length-vs.length))).length=ns.length:=by refine rwr QT (rwr SF ?_);exact(KC v1 e4 v3).symm
 generalize vs++dv.drop (dv.length-(ns.length-vs.length))=us at xY lus;have hnd:=kW (ws:=us) H.pars.nodup;refine wpAny_newFunctionEnv_cells H.kind (λx hx=>?_) λmenv hm s' X=>?_
 ·rcases H.kinds x.1 (UI (a:=x.1) (b:=x.2) hx).1 with q|q
  ·exact .inl q
  ·exact .inr ⟨q,dh (.inl (QV q))⟩
 refine fI X.toInCall.same ?_;rintro h1 t1 rfl;have keep:bv P.R.h h1:=X.toInCall.keep;have hloc:menv.locals=P.R.h.objs.size:=by refine rwr hm ?_;rfl
 have hscope:menv.scope=fd.scope:=by refine rwr hm ?_;rfl
 have hmc:menv.cells=cellsFrom (P.R.h.objs.size+1) fd.scope.names []:=by refine rwr hm ?_;rfl
 have deadL:P.R.h.get? menv.locals=none:=by refine rwr hloc ?_;exact bg _
 have deadC:∀nm ca,(nm,ca)∈menv.cells->P.R.h.get? ca=none:=λnm ca hc=>by
  have:=X.above nm ca hc;rw[hloc]at this;exact S7 (Sh this)
 have hkind:∀nm,menv.kindOf nm=fd.scope.names.lookup nm:=λnm=>by unfold Env.kindOf;exact rwr hscope rfl
 have room:EV C (A.deeper menv) (menv::fr) d:=⟨by show A.depth+1+_+_<_;lia,by show A.units+3+_+_<_;lia,by show A.frames.map _=_;refine rwr r4 ?_;rfl,r5⟩
 have cdom:∀nm,fd.scope.names.lookup nm=some .cell->(menv.cells.lookup nm).isSome=true:=λnm hk=>by refine rwr hmc ?_;exact dh (.inl (QV hk))
 have G:=P.good.dead deadL
 let F:dO C ⟨λs=>fd.scope.names.lookup s,ns++rest,true,true⟩:={
  menv:=menv,A:=A.deeper menv,cl:=cl,d:=d,fr:=menv::fr,kind:=by refine rwr hscope ?_;exact H.kind,kof:=hkind,glob:=by refine rwr hm ?_;exact H.glob,bi:=by refine rwr hm ?_;exact H.bi
  lold:=G.1,lvol:=G.2.2.2
  cell:=λnm ca hc=>let m:=QV hc;let z:=P.good.dead (deadC nm ca m);⟨z.1,z.2.2.2,SR (X.above nm ca m)⟩
  inj:=λnm nm' ca hc hc'=>name_of_addr X.apart (QV hc) (QV hc')
  cdom:=λnm h=>h.elim (cdom nm) λz=>absurd rfl (H.nofree _ (QV z)),room:=room,handled:=λzz=>r3,top:=λzz=>⟨fr,rfl⟩,call:=hc
  lam:=λhl=>by
   refine d9 (H.lam hl) ?_;intro c P c1 c2 c3 c4;exact⟨c,P,by refine rwr hm ?_;exact c1,c2,c3,by refine rwr hm ?_;exact c4⟩}
 have L0:∀X,ay X P.R ⟨P.R.ρ,h1,P.R.fz⟩:=λX=>.keeps X keep;have er:ER F ⟨P.R.ρ,h1,P.R.fz⟩ en:=by
  refine⟨⟨_,X.toInCall.ns,λnm q x hs hx=>?_⟩,G.2.1,λnm ca hc=>?_,kR.push ⟨_,P.good⟩ keep rf (by refine rwr hscope ?_;exact H.kind) (by refine rwr hm ?_;rfl) deadL X.toInCall.ns⟩
  ·refine xx (Γ:=⟨λs=>fd.scope.names.lookup s,ns++rest,true,true⟩) rfl xY hen hs hx ?_;intro i v i1 i2 rv;have hi:=(Rc.mp i2).1;rw[S2 (by simp_all+arith)]at i1;have z:=(oK (kd:=menv.kindOf) (m:=λzz=>none) (m':=λzz=>none)).2 hnd (vZ i1 i2);rcases H.kinds nm (Rq i1)with q|q
   ·exact .inl ⟨q,v,z.1 ((hkind nm).trans q),rv.later (L0 [])⟩
   ·refine IJ (cdom nm q) ?_;intro ca hca;refine ah (X.cell nm ca hca) ?_;intro oc hoc hdc;rw[z.2 ((hkind nm).trans q)]at hdc;exact .inr ⟨.inl q,ca,oc,v,hca,hoc,hdc,rv.later (L0 [])⟩
  ·have dead:=deadC nm ca (QV hc);refine ah (X.cell nm ca hc) ?_;intro oc hoc hdc;have z:=P.good.dead dead;exact⟨z.2.1,⟨oc,_,hoc,hdc⟩,λzz=>z.2.2.1⟩
 refine⟨O.nolimit.keeps (λb o e=>keep b o (P.good.keep b o e)),codeAny_func ?_⟩;refine H.snd F (P.more keep t1) _ _ en _ _ er h λP1 fl L1 hf=>?_;have L2:ay C.vol P.R P1.R:=ay.leave keep L1 deadL deadC;cases fl with
 |ret v=>refine ah hf ?_;clear hf;intro u ru hu;exact K P1 u v L2 ru hu
 |next=>refine ah hf ?_;clear hf;rintro _-hu;exact K P1 .none .none L2 .none_ hu
 |brk=>refine ah hf ?_;clear hf;rintro _-hu;exact aO hu
 |cont=>refine ah hf ?_;clear hf;rintro _-hu;exact aO hu
end
end
section
variable{C:Cx}{Γ:cW}{R R':Wd}
theorem ly{sc:Tp}{nm:Str}:nm∈frees sc↔(nm,RD)∈sc.names:=by
 unfold frees
 constructor
 ·intro h;refine nR h ?_;rintro zq0 h1 rfl;rcases zq0 with⟨n,k⟩
  refine ar (UK.mp h1) ?_;intro h2 h3;have:k=.free:=by simpa using h3
  exact this▸h2
 ·exact λh=>Sw.mpr ⟨_,UK.mpr ⟨h,rfl⟩,rfl⟩
theorem jF{α:Type}:∀{l:List (Str×α)}{x:Str}{a:α},(l.map (·.1)).Nodup->(x,a)∈l->l.lookup x=some a
 |[],_,_,_,h=>by cases h
 |p::r,x,a,hd,h=>by
  rw[Sr,RN]at hd;refine rwr RI ?_;rcases QH.mp h with e|e
  ·subst e;simp
  ·refine rwr (beq_false_of_ne (λz:x=p.1=>hd.1 (z▸Tv (f:=(·.1)) e))) ?_;exact jF hd.2 e
theorem bG.of_app:∀{x y:KV}{vs us:List QD},bG C R x vs->bG C R y us->len (app x y)=vs.length+us.length:=λa b=>by exact rwr ((a.append b).len_eq) (rwr QT rfl)
theorem vL{P:Pt C}{p q:Pa}{cs:KV}{pe:iu}(hp:tg p P.m.h=some (KO.clo q cs))(hpe:P.R.ρ p=some pe):eR C P.R (KO.clo q cs) pe:=by
 refine ah (P.good.dom p pe hpe) ?_;intro o' ho' r;cases hp.symm.trans ho';exact r
structure C4(C:Cx)(par:Se)(e:Qz)(sc:Tp)(np:Nat)(x:X)(ns:List Str):Prop where
 pars:jy ns par
 np:ns.length+(frees sc).length=np
 co:sc.isCoroutine=false
 gen:sc.isGenerator=false
 kind:sc.kind=.function
 kinds:∀n∈ns,sc.names.lookup n=some .local
 frk:∀n∈frees sc,sc.names.lookup n=some .free
 nocell:∀x∈sc.names,x.2≠.cell
 nofp:sc.names.lookup ("FP":Str)≠some .local
 snd:bx C ⟨λs=>sc.names.lookup s,ns++frees sc,true,false⟩ e x
section
variable{P:Pt C}{Q:QD->QE->Prop}{E:QD->QE->Prop}{A:RR}{fr:List Rd}{k:KT}{ys cs:KV}{vs:List QD}{cl:Cl}{d:Nat}
theorem y9{P₀:Pg}(O:C.Ok P₀){par:Se}{e:Qz}{sc:Tp}{np:Nat}{x:X}{ns:List Str}(H:C4 C par e sc np x ns){p q:Pa}{a:Ri}(hl:C.lam q=some (par,e,sc))(hp:tg p P.m.h=some (KO.clo q cs))(ra:VR C P.R (KV.ref p) (Ta a))(hc:IX C cl d)(rs:bG C P.R ys vs)(rm:Rm C P.R A fr (d+1))
  (h:Oc cl (app ys cs) k P.m np x=true) (K:Kp C C.vol P.R k Q):codeAny (R6 C.prog C.w) A (.call (.ref a) ⟨vs,[]⟩) (jM Q E) P.s:=by
 refine ar rm ?_;clear rm;intro zq0 rf;refine iU zq0 ?_;clear zq0;intro r1 r2 r3 r4 r5;refine dI h ?_;clear h;intro b1 h;have b1:=bR.mp b1;refine ah (lI h) ?_;clear h;intro en h hen;refine ah ra ?_;clear ra;intro pe hpe e';cases e';refine ar (vL hp hpe) ?_;rintro -zq;refine d9 zq ?_;clear zq;intro fd ob hob hcls hdat T;refine ah T.lam ?_;intro e2 t1 t2;cases hl.symm.trans t1;refine b8 T.caps ?_;intro cvs c1 c2 c3;have e3:=H.np;rw[rs.of_app c1]at b1;have hvl:vs.length=ns.length:=by lia
 refine kla_callFunE (by lia) hob hdat H.co H.gen t2 T.code ?_;refine rZ (s:=P.s) (ds:=[]) H.pars (.inl ⟨T.dflt,rfl⟩) (by simp_all+arith) (Ry _) (by simp_all+arith) ?_;rw[List.drop_nil,RO];have hnd:=kW (ws:=vs) H.pars.nodup;refine wpAny_newFunctionEnv H.nocell (λx hx=>H.kinds _ (UI (a:=x.1) (b:=x.2) hx).1) (λh1 hns1 hsb=>?_) H.kind;have hloc:∀{b c d f},(newEnv fd.scope P.s.heap.objs.size fd.globals fd.closure b c d none f).locals=P.R.h.objs.size:=rfl;generalize hm:newEnv fd.scope P.s.heap.objs.size fd.globals fd.closure (fd.qualname++".<locals>.") (some pe.fst) fd.code none fd.builtins=menv;have hloc:menv.locals=P.R.h.objs.size:=by refine rwl hm ?_;rfl
 have hscope:menv.scope=fd.scope:=by refine rwl hm ?_;rfl
 have hcells:menv.cells=fd.closure:=by refine rwl hm ?_;rfl
 have keep:bv P.R.h h1:=λb o e=>hsb.extBut b o (U2 (Tb e)) (RH _ e);have deadL:P.R.h.get? menv.locals=none:=by refine rwr hloc ?_;exact bg _
 have hkind:∀nm,menv.kindOf nm=fd.scope.names.lookup nm:=λnm=>by unfold Env.kindOf;exact rwr hscope rfl
 have room:EV C (A.deeper menv) (menv::fr) d:=⟨by show A.depth+1+_+_<_;lia,by show A.units+3+_+_<_;lia,by show A.frames.map _=_;refine rwr r4 ?_;rfl,r5⟩
 have G:=P.good.dead deadL;have frz:∀nm ca,(nm,ca)∈fd.closure->fb P.R ca∧C.asg nm=false:=λnm ca hc=>let z:=T.keep _ hc;⟨⟨p,pe,hpe,z.1⟩,z.2⟩;have fz:∀nm ca,(nm,ca)∈fd.closure->C.h₀.get? ca=none∧ca∉C.vol∧ca≠menv.locals∧¬dA P.R ca:=λnm ca hc=>by
  have z:=(frz nm ca hc).1;refine aH (P.good.frz ca z) ?_;intro oc v f1 f2 f3;refine⟨f3,λhv=>?_,λw=>nn deadL (w▸f1),λw=>P.good.notFrozen w z⟩;refine ah (P.good.vol ca hv) ?_;rintro ps e4 -;rw[f1]at e4;cases e4;exact QO f2
 let F:dO C ⟨λs=>fd.scope.names.lookup s,ns++frees fd.scope,true,false⟩:={
  menv:=menv,A:=A.deeper menv,cl:=cl,d:=d,fr:=menv::fr,kind:=by refine rwr hscope ?_;exact H.kind,kof:=hkind,glob:=by refine rwl hm ?_;exact T.glob,bi:=by refine rwl hm ?_;exact T.bi
  lold:=G.1,lvol:=G.2.2.2
  cell:=λnm ca hc=>let z:=fz nm ca (QV (hcells▸hc));⟨z.1,z.2.1,z.2.2.1⟩
  inj:=λnm nm' ca hc hc'=>T.inj nm nm' ca (hcells▸hc) (hcells▸hc')
  cdom:=λnm hk=>hk.elim (λhk=>absurd rfl (H.nocell _ (QV hk))) λhk=>by
   refine az (UJ.mp (ly.mpr (QV hk))) ?_;intro i hi;have hl:=(Rc.mp hi).1;refine aE (c3 i nm (cvs[i]'(by simp_all+arith)) hi (QM _)) ?_;rintro ca oc z1 -;show(menv.cells.lookup nm).isSome=true;refine rwr hcells (rwr z1 ?_);rfl
  room:=room,handled:=λzz=>r3,top:=λh=>(by exact aO h),call:=hc
  lam:=λhl=>absurd hl H.nofp}
 have L0:∀X,ay X P.R ⟨P.R.ρ,h1,P.R.fz⟩:=λX=>.keeps X keep;have er:ER F ⟨P.R.ρ,h1,P.R.fz⟩ en:=by
  refine⟨⟨_,by show h1.Ns menv.locals _;refine rwr hloc ?_;exact hns1,λnm q x hs hx=>?_⟩,G.2.1,λnm ca hc=>?_,kR.push ⟨_,P.good⟩ keep rf (by refine rwr hscope ?_;exact H.kind) (by refine rwl hm ?_;rfl) deadL (by refine rwr hloc ?_;exact hns1)⟩
  ·refine xx (Γ:=⟨λs=>fd.scope.names.lookup s,ns++frees fd.scope,true,false⟩) rfl (rs.append c1) hen hs hx ?_;intro i v i1 i2 rv;rcases UT i ns.length with hi|hi
   ·rw[S2 hi]at i1;rw[S2 (by simp_all+arith)]at i2;exact .inl ⟨H.kinds nm (Rq i1),v,jF (by refine rwr List.map_reverse ?_;exact(List.reverse_perm _).nodup_iff.mpr hnd) (List.mem_reverse.mpr (vZ i1 i2)),rv.later (L0 [])⟩
   ·rw[Th hi]at i1;rw[Th (by simp_all+arith),hvl]at i2;refine aH (c3 _ nm v i1 i2) ?_;intro ca oc z1 z2 z3;exact .inr ⟨.inr (H.frk nm (Rq i1)),ca,oc,v,hcells▸z1,keep _ _ z2,z3,rv.later (L0 [])⟩
  ·have hc':=QV (hcells▸hc:fd.closure.lookup nm=some ca);refine ar (frz nm ca hc') ?_;intro z za;refine aH (P.good.frz ca z) ?_;rintro oc v f1 f2 -;exact⟨(fz nm ca hc').2.2.2,⟨oc,v,keep _ _ f1,f2⟩,λw=>by rw[za]at w;exact aO w⟩
 refine⟨O.nolimit.keeps (λb o e=>keep b o (P.good.keep b o e)),kla_codeExpr ?_⟩;exact H.snd F (P.more keep _) en _ _ _ er h λP1 u v L1=>K P1 u v ((L0 _).trans L1)
end
def uC(C:Cx)(tab:T Code):Prop:=∀q f,tg q tab=some f->match f with
 |.fn np ds y=>C.lam q=none∧∀a,C.fnAt q=some a->∃ob fd bd dv ns rest,yw C a np ds y ob fd bd dv ns rest
 |.lam np x=>C.fnAt q=none∧∀par e sc,C.lam q=some (par,e,sc)->∃ns,C4 C par e sc np x ns
theorem BJ{P₀:Pg}(O:C.Ok P₀){tab:T Code}(H:uC C tab):∀d,IX C (aL tab d) d:=by
 intro d;induction d with
 |zero=>intro q a xs vs A fr P k Q E h;exact h.elim (λz=>aO z.2.2) λz=>aH z λp cs a b z=>b8 z λys a b z=>aO z
 |succ d ih=>
  intro q a xs vs A fr P k Q E h r1 rf K;rcases h with zq|zq
  ·refine b0 zq ?_;clear zq;intro ha rs h;refine aC h ?_;clear h;intro f h hf;have T:=H q f hf;cases f with
   |fn np ds y=>
    refine FD (T.2 a ha) ?_;intro ob fd bd dv ns rest T;exact B0 O T ih rs ⟨r1,rf⟩ h K
   |lam np x=>exact(nn T.1 ha).elim
  ·refine aH zq ?_;clear zq;intro p cs hp ra zq;refine b8 zq ?_;clear zq;rintro ys rs rfl h;refine aC h ?_;clear h;intro f h hf;have T:=H q f hf;refine ah (id ra) ?_;rintro pe hpe -;refine ar (vL hp hpe) ?_;rintro -zq;refine d9 zq ?_;clear zq;intro fd ob hob hcls hdat Z;refine ah Z.lam ?_;rintro e z -;cases f with
   |fn np ds y=>exact(nn T.1 z).elim
   |lam np x=>
    refine az (T.2 _ _ _ z) ?_;intro ns T;exact y9 O T z hp ra ih rs ⟨r1,rf⟩ h K
end
section
variable{C:Cx}{Γ:cW}{R R':Wd}
noncomputable def cH(es:List Qz):Bool:=es.all λe=>!bh e
theorem nL{pos:Pos}{menv:Rd}:∀{es:List Qz},cH es=true->(backTo pos (starEach es menv)).any (·.1)=false
 |[],_=>rfl
 |e::r,h=>by
  refine jB h ?_;intro a b;rw[iF (by simpa using a)];exact nL (pos:=pos) b
def m9(M:Model)(g:QD)(P:SG->Prop):Prop:=∀h,P h->∃k,(k=Keeper.frame∨k=Keeper.machine∨k=Keeper.boundFrame)∧Looks M h (keeperOf g) k
theorem AP{a:Ri}:m9 (R6 C.prog C.w) (.ref a) (λh=>∃o fd,h.get? a=some o∧o.data=.func fd):=by
 intro h zq;refine aE zq ?_;clear zq;rintro⟨c,d,dt,sl⟩ fd ho hd;dsimp only at hd;subst hd;exact⟨.frame,.inl rfl,(Looks.ld (part:=none) ho).andThen .now⟩
section
variable{F:dO C Γ}{P:Pt C}{en:En}{Q:QD->QE->Prop}{E:QD->QE->Prop}{args:List Qz}{x:X}
theorem jL{Pp:SG->Prop}{g:QD}{first:List QD}(hk:m9 (R6 C.prog C.w) g Pp){pos:Pos}{k:KT}(hs:cH args=true)(hx:kQ C Γ args x)(er:ER F P.R en)(h:x F.cl en k P.m=true)
  (q:∀(P':Pt C)(u:KV)(vs:List QD),ay C.vol P.R P'.R->bG C P'.R u vs->vs.length=args.length->k P'.m u=true->Pp P'.R.h∧QQ (R6 C.prog C.w) F.A (call g (first++vs)) Q E P'.s):
  QQ (R6 C.prog C.w) F.A (callWith pos g first (backTo pos (starEach args F.menv)) []) Q E P.s:=by
 refine callWith_of (P:=Pp) (by refine rwr (nL hs) ?_;rfl) hk ?_;have key:=hx F P en k pos (λvs s=>Pp s.heap∧QQ (R6 C.prog C.w) F.A (call g (first++vs)) Q E s) E er h q;cases args with
 |nil=>
  unfold evalArgs;show QQ _ _ (spliced []>>=_) _ _ _;exact Qy (Sq key (λvs s q=>Qy (QC (Rn (Qy (QC (Qy (QC (QC q)))))))) λZ Z e=>e)
 |cons e rest=>
  rw[iF (by simpa using(Rb.mp hs).1)]at key ⊢;exact Calls.evalArgs_plain key
noncomputable def AV:Qz->Bool
 |.Attribute _ _ _=>true
 |_=>false
theorem fQ{g:Qz}{pos:Pos}{menv:Rd}(h:AV g=false):eval (.Call g args [] pos) menv=(do callWith pos (←eval g menv) [] (backTo pos (starEach args menv)) (backToKw pos (keywordEach [] menv))):=by
 cases g<;>first|rfl|exact p7 h
theorem dO.rm(F:dO C Γ)(lo:Γ.loud=true):F.A.depth+8*F.d+4<recursionLimit∧F.A.units+16*F.d+212<cLine∧F.A.handled=none∧F.A.frames=some F.fr∧F.A.guards=some []:=⟨F.room.depth,F.room.units,(F.handled lo),F.room.frames,F.room.guards⟩
theorem dO.go(F:dO C Γ)(lo:Γ.loud=true){A:RR}(hA:A.depth≤F.A.depth+4∧A.units≤F.A.units+12∧A.handled=F.A.handled∧A.frames=F.A.frames∧A.guards=F.A.guards)(er:ER F P.R en){q:Pa}{a:Ri}{xs:KV}{vs:List QD}{k:KT}(ha:C.fnAt q=some a)(rs:bG C P.R xs vs)(h:F.cl q xs k P.m=true)(K:Kp C C.vol P.R k Q):
  codeAny (R6 C.prog C.w) A (.call (.ref a) ⟨vs,[]⟩) (jM Q E) P.s:=by
 refine iU (F.rm lo) ?_;intro a1 a2 a3 a4 a5;refine iU hA ?_;clear hA;intro b1 b2 b3 b4 b5;exact F.call q a xs vs A F.fr P k Q E (.inl ⟨ha,rs,h⟩) ⟨by lia,by lia,b3.trans a3,b4.trans a4,b5.trans a5⟩ er.fr K
theorem dO.here(F:dO C Γ):F.A.depth≤F.A.depth+4∧F.A.units≤F.A.units+12∧F.A.handled=F.A.handled∧F.A.frames=F.A.frames∧F.A.guards=F.A.guards:=⟨RB _ _,RB _ _,rfl,rfl,rfl⟩
end
section
variable{P₀:Pg}(O:C.Ok P₀){args:List Qz}{x:X}{nm:Str}{p pos:Pos}
omit O in
theorem eA{F:dO C Γ}{P:Pt C}{v:QD}{Q:QD->QE->Prop}{E:QD->QE->Prop}(ld:j7 C nm v)(hk:Γ.kd nm=some .globalImplicit)(hd:(nm==("__debug__":Str))=false)(q:Q v P.s):QQ (R6 C.prog C.w) F.A (eval (.Name nm p) F.menv) Q E P.s:=
 Un F.kind ((F.kof nm).trans hk) (ld F.A _ _ P.s F.menv F.glob F.bi P.good.keep q) hd
include O
theorem pH(lo:Γ.loud=true){q:Pa}(hg:P₀.gl nm=some (.fn q))(hk:Γ.kd nm=some .globalImplicit)(hd:(nm==("__debug__":Str))=false)(hs:cH args=true)(hx:kQ C Γ args x):bx C Γ (.Call (.Name nm p) args [] pos) (bf q x):=λF P en k Q E R h K=>by
 refine ah (O.fn nm q hg) ?_;intro a ha ld;refine rwr (fQ rfl) ?_;refine Qy (eA ld hk hd (jL (Pp:=λh=>C.K.In h) (keeps_K (O.kpf q a ha)) hs hx R h λP1 u vs L1 r1 Z h1=>⟨O.K.keeps P1.good.keep,?_⟩));exact wpAny_call (F.go lo F.here (R.later L1) ha r1 h1 (K.later L1))
omit O in
theorem qE(a:Ri)(rest:List QD):(Code.builtin "type.__call__" ⟨.ref a::rest,[]⟩).weight≤2∧(Code.builtin "type.__call__" ⟨.ref a::rest,[]⟩).cUnits≤4∧(Code.builtin "type.__call__" ⟨.ref a::rest,[]⟩).guards=[]:=by
 have hg:(Code.builtin "type.__call__" ⟨.ref a::rest,[]⟩).isGuard=false:=by
  show guardIds.contains "type.__call__"=false;decide+kernel
 have hf:(Code.builtin "type.__call__" ⟨.ref a::rest,[]⟩).frames=0:=rfl
 constructor
 ·unfold Code.weight;refine rwr hf (rwr hg ?_);first|exact QZ _|exact RA _|exact Ry _|decide
 ·refine⟨?_,by unfold Code.guards;refine rwr hg ?_;rfl⟩;show 1+3*(Code.builtin "type.__call__" ⟨.ref a::rest,[]⟩).frames≤4;refine rwr hf ?_;exact TB _
theorem wo(lo:Γ.loud=true){c0:Nat}{q:Pa}(hg:P₀.gl nm=some (.cls c0 q))(hk:Γ.kd nm=some .globalImplicit)(hd:(nm==("__debug__":Str))=false)(hs:cH args=true)(hx:kQ C Γ args x):bx C Γ (.Call (.Name nm p) args [] pos) (qA c0 q x):=λF P en k Q E R h K=>by
 refine cZ (O.cls nm c0 q hg) ?_;intro a ha ld hmk zq;refine b8 zq ?_;clear zq;intro f hf1 hf2 hf3;rw[fQ rfl];refine Qy (eA ld hk hd (jL (Pp:=λh=>C.K.In h) (keeps_K (O.kpc c0 a ha)) hs hx R h λP1 u vs L1 r1 Z h1=>⟨O.K.keeps P1.good.keep,?_⟩));rw[List.nil_append];have X:C.K.In P1.R.h:=O.K.keeps P1.good.keep;refine wpAny_call (make_core (makes_of X hmk) (looks_findIn X hf1) (λself=>bind_fn X self hf2) (.inl rfl) ?_);have kp:bv P1.R.h ((P1.R.h.push emptyDict).push (instObj a P1.R.h.objs.size)):=λb o e=>aX _ _ b o (aX _ _ b o e);have g1:((P1.R.h.push emptyDict).push (instObj a P1.R.h.objs.size)).get? (P1.R.h.objs.size+1)=some (instObj a P1.R.h.objs.size):=by
  rw[←TZ P1.R.h emptyDict];exact QS _ rfl
 have g2:((P1.R.h.push emptyDict).push (instObj a P1.R.h.objs.size)).get? P1.R.h.objs.size=some emptyDict:=aX _ _ _ _ (QS _ rfl);refine b0 (P1.good.new0 (o:=.inst c0 .nil) (a:=P1.R.h.objs.size+1) (b:=P1.R.h.objs.size) kp (S7 (RA _)) (bg _)
  λL=>⟨a,ha,g1,[],0,g2,rfl,λnm=>by
   cases e:C.sl nm with
   |none=>trivial
   |some q=>show oQ _ (tg q .nil) none;rw[fj];trivial,[],U0,rfl,λZ h=>by cases h⟩) ?_;intro G' L' r'
 refine b0 (qE a vs) ?_;intro w1 w2 w3;have L2:=L1.trans (L' C.vol);refine codeAny_mono (F.go lo (A:=F.A.under (.builtin "type.__call__" ⟨.ref a::vs,[]⟩)) (P:=⟨_,_,P1.t,G'⟩) ⟨by show F.A.depth+_≤_;lia,by show F.A.units+_≤_;lia,rfl,rfl,?_⟩ (R.later L2) hf3 (.cons_ r' (r1.later (L' []))) h1 (Q:=λv s=>InitBack (P1.R.h.objs.size+1) (jM Q E) (.ok (.ret v)) s) (E:=λe s=>InitBack (P1.R.h.objs.size+1) (jM Q E) (.error e) s) λP2 u2 v2 L3 r3 h3=>?_) λr s z=>?_
 ·show pushGuards (Code.builtin "type.__call__" ⟨.ref a::vs,[]⟩).guards F.A.guards=_;refine rwr w3 ?_;rfl
 ·cases u2<;>try exact aO h3
  cases r3;exact⟨rfl,K P2 _ _ (L2.trans L3) (r'.later L3) h3⟩
 ·rcases r with e|(v|_|_|_)<;>exact z
omit O in
theorem xZ{f:Pa->KV->Bool}{o:KO}(h:Fl f o=true):∃q cs,o=.clo q cs∧f q cs=true:=by
 cases o with
 |clo q cs=>exact⟨q,cs,rfl,h⟩
 |_=>exact aO h
omit O in
theorem yc{v:QD}:m9 (R6 C.prog C.w) v (λh=>∃a,v=.ref a∧∃o fd,h.get? a=some o∧o.data=.func fd):=by
 intro h zq;refine ah zq ?_;clear zq;rintro a rfl z;exact AP h z
omit O in
theorem xN(lo:Γ.loud=true){g:Qz}{y:X}(hy:bx C Γ g y)(hg:AV g=false)(hs:cH args=true)(hx:kQ C Γ args x):bx C Γ (.Call g args [] pos) (qB y x):=λF P en k Q E R h K=>by
 refine rwr (fQ hg) ?_;refine Qy (hy F P en _ _ E R h λP1 u v L1 r1 h1=>jL yc hs hx (R.later L1) h1 λP2 w vs L2 r2 Z h2=>?_);have r1:=r1.later L2;refine bu h2 r1 ?_;clear h2;rintro q p hp h2 rfl rfl;refine aC h2 ?_;clear h2;intro o h2 ho;refine aE (xZ h2) ?_;clear h2;rintro q' cs rfl h2;refine ar (vL ho hp) ?_;rintro -zq;refine d9 zq ?_;clear zq;rintro fd ob hob-hdat -;refine⟨⟨_,rfl,ob,fd,hob,hdat⟩,wpAny_call ?_⟩;refine b0 (F.rm lo) ?_;intro a1 a2 a3;exact F.call _ _ _ _ F.A F.fr P2 k Q E (.inr ⟨q,cs,ho,r1,w,r2,rfl,h2⟩) ⟨by lia,by lia,a3⟩ (R.later (L1.trans L2)).fr (K.later (L1.trans L2))
omit O in
theorem HM{menv:Rd}(h:cH args=true)(hl:QJ args.length 19=true):methodCallForm (args.length+([]:List Keyword).length) (backTo pos (starEach args menv)) (backToKw pos (keywordEach [] menv))=true:=by
 have hl:=QA hl;have hp:=nL (pos:=pos) (menv:=menv) h;have:∀l:List (Bool×Sem QD),l.any (·.1)=false->l.all (λx=>!x.1)=true:=λl h=>by
  rw[List.any_eq_false]at h;exact Rl.mpr λx hx=>by simpa using h x hx
 show((backTo pos (starEach args menv)).all (λx=>!x.1)&&true&&decide (args.length+0+0<30))=true;refine rwr (this _ hp) (rwr (decide_eq_true (by exact Rp hl (QU (QR 19) 10))) ?_);rfl
noncomputable def cG(ap pos:Pos):Bool:=ap.endLine==pos.line
omit O in
theorem mG{F:dO C Γ}{P:Pt C}{en:En}{Q:QD->QE->Prop}{E:QD->QE->Prop}{o:Qz}{v g:QD}{first:List QD}{Pp:SG->Prop}{ap:Pos}{k:KT}(hg:∀{pl:Sem Bool}{Q:QD×List QD->QE->Prop}{t:Nat},Q (g,first) (P.tick t).s->QQ (R6 C.prog C.w) F.A (getMethod v nm pl) Q E (P.tick t).s)(hk:m9 (R6 C.prog C.w) g Pp)
  (hs:cH args=true) (hl:QJ args.length 19=true) (hp:cG ap pos=true) (hx:kQ C Γ args x) (er:ER F P.R en) (h:x F.cl en k P.m=true)
  (q:∀(P':Pt C)(u:KV)(vs:List QD),ay C.vol P.R P'.R->bG C P'.R u vs->vs.length=args.length->k P'.m u=true->Pp P'.R.h∧QQ (R6 C.prog C.w) F.A (call g (first++vs)) Q E P'.s):
  QQ (R6 C.prog C.w) F.A (methodCall o nm ap pos F.menv v (args.length+([]:List Keyword).length) (backTo pos (starEach args F.menv)) (backToKw pos (keywordEach [] F.menv))) Q E P.s:=by
 unfold methodCall;refine rwr (HM hs hl) ?_;refine Qy (Rn (hg (t:=P.t) ?_));have hp':methodCallPos true o F.menv ap pos=pure pos:=by
  unfold methodCallPos;rw[show(ap.endLine==pos.line)=true from hp];rfl
 exact Qy (wpAny_of_eq hp' (jL hk hs hx er h q))
theorem xO(lo:Γ.loud=true){c0:Nat}{q:Pa}{o:Qz}{y:X}{ap:Pos}(hm:P₀.mt nm=some (c0,q))(ho:aZ o=false)(hy:bx C Γ o y)(hs:cH args=true)(hl:QJ args.length 19=true)(hp:cG ap pos=true)(hx:kQ C Γ args x):
  bx C Γ (.Call (.Attribute o nm ap) args [] pos) (bH c0 q y x):=λF P en k Q E R h K=>by
 rw[UO,cQ ho];refine Qy (hy F P en _ _ E R h λP1 u v L1 r1 h1=>Qy (Sl ?_));refine bu h1 r1 ?_;clear h1;rintro q' p hp' h1-rfl;refine aI h1 hp' ?_;clear h1;intro o ho ro h1;refine lg h1 ro ?_;clear h1 ro;rintro c fs a es n hc I hf h1 rfl;refine dI h1 ?_;intro e h3;cases bR.mp e;refine ar (O.mt nm c0 q a hm hc) ?_;intro zq0 hsl;refine b8 zq0 ?_;clear zq0;intro f f1 f2 f3;refine b0 (O.ga c0 a hc) ?_;rintro ga gat -;have X:C.K.In P1.R.h:=O.K.keeps P1.good.keep;have hu:getL nm es=some none:=by
  rw[x9 hf.1];have:=hf.2.1 nm;rw[hsl]at this;cases e:ip es nm with
  |none=>rfl
  |some w=>rw[e]at this;exact this.elim
 refine mG (Pp:=λh=>C.K.In h) (g:=.ref f) (first:=[.ref p.fst]) (λ{pl Q t} q=>method_fn (s:=(P1.tick t).s) X I ga gat f1 f2 (by show(lookIn nm (dictOf es n)).map _=_;rw[lookIn_dict,hu];rfl) q) (keeps_K (O.kpf _ _ f3)) hs hl hp hx (R.later L1) h3 λP2 w vs L2 r2 Z h2=>⟨O.K.keeps P2.good.keep,?_⟩
 exact wpAny_call (F.go lo F.here (R.later (L1.trans L2)) f3 (.cons_ (r1.later L2) r2) h2 (K.later (L1.trans L2)))
end
end
section
variable{C:Cx}{Γ:cW}{R R':Wd}
theorem jl{id:String}:m9 (R6 C.prog C.w) (.builtin id) (λZ=>True):=λZ Z=>⟨.machine,.inr (.inl rfl),.now⟩
theorem fV{id:String}:m9 (R6 C.prog C.w) (.type id) (λZ=>True):=λZ Z=>⟨.machine,.inr (.inl rfl),.now⟩
theorem cC{f:KV->KV->Bool}{u:KV}{vs:List QD}{n:Nat}(h:gS false f u=true)(r:bG C R u vs)(hl:vs.length=n+1){G:Prop}(k:∀x y v us,VR C R x v->bG C R y us->us.length=n->f x y=true->u=.cons x y->vs=v::us->G):G:=by
 cases u with
 |cons x y=>refine aH r ?_;clear r;rintro v us rfl r1 r2;exact k x y v us r1 r2 (Nat.succ.inj hl) h rfl rfl
 |_=>exact aO h
section
variable{P₀:Pg}(O:C.Ok P₀){nm:Str}{p pos:Pos}{n:String}{e e':Qz}{a b:X}
include O
theorem ms(hg:P₀.gl nm=some (.bi n))(hk:Γ.kd nm=some .globalImplicit)(hd:(nm==("__debug__":Str))=false)(hkp:m9 (R6 C.prog C.w) (qm n) λZ=>True)(hs:bh e=false)(ha:bx C Γ e a){f:Cl->KT->KT}
  (q:∀(F:dO C Γ)(P:Pt C)(en:En)(k:KT)(Q:QD->QE->Prop)(E:QD->QE->Prop)(u:KV)(v:QD),ER F P.R en->VR C P.R u v->f F.cl k P.m u=true->Kp C C.vol P.R k Q->QQ (R6 C.prog C.w) F.A (call (qm n) [v]) Q E P.s):
  bx C Γ (.Call (.Name nm p) [e] [] pos) (λc en k s=>a c en (f c k) s):=λF P en k Q E R h K=>by
 refine rwr (fQ rfl) ?_;refine Qy (eA (O.bi nm n hg) hk hd (jL hkp (k:=λs vs=>gS false (λv Z=>f F.cl k s v) vs) (by simp[cH,hs]) (bp hs ha bE) R h λP1 u vs L1 r1 hl h1=>⟨trivial,?_⟩));refine cC h1 r1 hl ?_;clear h1 r1 hl;rintro x y v us r3-l h1-rfl;cases QP l;exact q F P1 en k Q E _ v (R.later L1) r3 h1 (K.later L1)
theorem D7(hg:P₀.gl nm=some (.bi n))(hk:Γ.kd nm=some .globalImplicit)(hd:(nm==("__debug__":Str))=false)(hkp:m9 (R6 C.prog C.w) (qm n) λZ=>True)(hs:bh e=false)(hs':bh e'=false)(ha:bx C Γ e a)(hb:bx C Γ e' b){f:KT->KV->KT}
  (q:∀(F:dO C Γ)(P:Pt C)(k:KT)(Q:QD->QE->Prop)(E:QD->QE->Prop)(u u':KV)(v v':QD),VR C P.R u v->VR C P.R u' v'->f k u P.m u'=true->Kp C C.vol P.R k Q->QQ (R6 C.prog C.w) F.A (call (qm n) [v,v']) Q E P.s):
  bx C Γ (.Call (.Name nm p) [e,e'] [] pos) (aW f a b):=λF P en k Q E R h K=>by
 refine rwr (fQ rfl) ?_;refine Qy (eA (O.bi nm n hg) hk hd (jL hkp (k:=λs vs=>gS false (λv r=>gS false (λw Z=>f k v s w) r) vs) (by simp[cH,hs,hs']) (bp hs ha (bp hs' hb bE)) R h λP1 u vs L1 r1 hl h1=>⟨trivial,?_⟩));refine cC h1 r1 hl ?_;clear h1 r1 hl;rintro x y v us r3 r4 l h1-rfl;refine cC h1 r4 l ?_;clear h1 l r4;rintro x' y' v' us' r5-l h1-rfl;cases QP l;exact q F P1 k Q E _ _ v v' r3 r5 h1 (K.later L1)
theorem Ix(lo:Γ.loud=true){F:dO C Γ}{P:Pt C}{en:En}{k:KT}{Q:QD->QE->Prop}{E:QD->QE->Prop}{u:KV}{v:QD}(R:ER F P.R en)(r:VR C P.R u v)
  (h:pQ (λd=>k P.m (.nat (len (Fv d)))) (λxs=>k P.m (.nat (len xs))) (λq=>b9 q P.m (Ms P₀.ln.1 P₀.ln.2 F.cl k P.m q)) u=true) (K:Kp C C.vol P.R k Q):QQ (R6 C.prog C.w) F.A (call (.builtin "len") [v]) Q E P.s:=by
 rcases jj h r with zq|zq|zq
 ·refine aH zq ?_;clear zq;rintro s t rfl ok h;have e:=(vi (P:=P) ok P.t).len_eq;rw[Ra,show s.cps.toList.length=s.length from QL]at e;rw[e]at h;have:s.length≤190:=ok.2;exact PySem.P.len_str (s:=P.s) (by lia) (K.at .nat_ h _)
 ·refine qj zq ?_;clear zq;rintro a vs rfl ht rs hl h;rw[rs.len_eq]at h;exact PyProof.Rows.len_tuple (s:=P.s) ht (by simp;lia) (by refine rwr Te ?_;exact K.at .nat_ h _)
 ·refine dM zq ?_;clear zq;rintro q p o rfl hp e ro h;have h:=mK h e;cases o with
  |list n xs=>
   refine ar ro ?_;clear ro;rintro -zq;refine d9 zq ?_;clear zq;rintro vs k' hob rs rfl hl;exact Calls.call_len_list (s:=P.s) ⟨_,hob,rfl,k',rfl⟩ (by lia) (K.at .nat_ h _)
  |set xs=>
   refine ar ro ?_;clear ro;rintro -zq;refine aH zq ?_;clear zq;rintro S m zq2 hn -;refine FE zq2 ?_;clear zq2;rintro o es ep tb ho hx hd- - -hf hm;cases xs<;>try exact aO h
   have hz:es.size=0:=by have:m≤0:=hn;simp_all+arith
   refine call_len_set (s:=P.s) ho hx hd hf (by refine rwr hz ?_;decide) ?_;refine rwr hz ?_;exact K.at .nat_ h _
  |inst c fs=>
   refine b8 ro ?_;clear ro;intro ca hc hob zq;refine aE zq ?_;clear zq;intro es n hdict hfl;refine dI h ?_;intro e h3;cases bR.mp e;refine b8 (O.ln ca hc) ?_;intro f f1 f2 f3;have X:C.K.In P.R.h:=O.K.keeps P.good.keep;have I:InstAt P.R.h p.fst (instObj ca p.snd) ca (some (dictOf es n)):=⟨hob,rfl,rfl,hdict⟩
   refine Calls.call_function_entry kind_len plain_len entry_len (args_len1 _) ?_;unfold Builtin.«len»;refine Qy (m:=oneArg "len" _) (QC ?_);refine Qy (m:=callSpecial? (.ref p.fst) (Rg "__len__")) (special_fn (s:=P.s) X I f1 f2 (wpAny_call (F.go lo (A:=F.A.in1) (xs:=.cons (.ref q) .nil) (k:=NX k) ⟨RB _ _,by show F.A.units+1≤_;simp+arith,rfl,rfl,rfl⟩ R f3 (.cons_ ⟨p,hp,rfl⟩ .nil_) h3 λP2 w x L r2 h2=>?_)));refine cu h2 r2 ?_;clear h2 r2;rintro m t h2 rfl -;refine dI h2 ?_;clear h2;intro hm h2;have hm:=QA hm;refine Qy (Rn (QC (Qy (wpAny_letGo ?_))));show QQ _ _ (if((m:Int)<0)then _ else _) _ _ _;refine Cz (by simp+arith) ?_;show QQ _ _ (if((m:Int)≥2^63)then _ else _) _ _ _;refine Cz (by lia) ?_;exact Qy (wpAny_mkInt (QC ⟨_,rfl,(K.later L).at .nat_ h2 _⟩))
  |_=>exact aO h
theorem D0(lo:Γ.loud=true)(hg:P₀.gl nm=some (.bi "len"))(hk:Γ.kd nm=some .globalImplicit)(hd:(nm==("__debug__":Str))=false)(hs:bh e=false)(ha:bx C Γ e a):bx C Γ (.Call (.Name nm p) [e] [] pos) (dw P₀.ln.1 P₀.ln.2 a):=
 ms O hg hk hd jl hs ha (f:=λc k s v=>pQ (λd=>k s (.nat (len (Fv d)))) (λxs=>k s (.nat (len xs))) (λq=>b9 q s (Ms P₀.ln.1 P₀.ln.2 c k s q)) v) λF P en k Q E u v R r h K=>Ix O lo R r h K
theorem xK(hg:P₀.gl nm=some (.bi "tuple"))(hk:Γ.kd nm=some .globalImplicit)(hd:(nm==("__debug__":Str))=false)(hs:bh e=false)(ha:bx C Γ e a):bx C Γ (.Call (.Name nm p) [e] [] pos) (sB a):=
 ms O hg hk hd fV hs ha (f:=λc k s v=>eF (λq=>b9 q s (iI λzz xs=>k s xs)) v) λF P en k Q E u v R r h K=>by
  refine bu h r ?_;clear h r;rintro q p hp h-rfl;refine aI h hp ?_;clear h;rintro o-ro h;refine bZ h ro ?_;clear h ro;rintro xs vs c hob rs hl0-h -;refine call_tuple_list (s:=P.s) (l:=p.fst) (items:=vs) ⟨_,hob,rfl,c,rfl⟩ (λh' hk=>?_) (QG hl0 cL);exact qC (P:=P.more hk P.t) (c:=0) (K.later (.keeps _ hk)) (rs.later (ay.keeps [] hk)) (by simpa using hl0) (aX _ _) (by refine rwr U3 ?_;exact QS h' rfl) h P.t
theorem uT(hg:P₀.gl nm=some (.bi "list"))(hk:Γ.kd nm=some .globalImplicit)(hd:(nm==("__debug__":Str))=false)(hs:bh e=false)(ha:bx C Γ e a):bx C Γ (.Call (.Name nm p) [e] [] pos) (yL a):=
 ms O hg hk hd fV hs ha (f:=λc k s v=>qZ (λxs=>q7 k s (len xs) xs) (λq=>b9 q s (iI (q7 k s))) v) λF P en k Q E u v R r h K=>by
  have fin:∀{it:Ri}{o:Obj}{T:String}{items:Array QD}{m n:Nat}{ys:KV},(T="list"∨T="tuple")->P.R.h.get? it=some o->o.cls=.type T->o.data=.seq items m->bG C P.R ys items.toList->n=items.size->q7 k P.m n ys=true->QQ (R6 C.prog C.w) F.A (call (.type "list") [.ref it]) Q E P.s:=by
   intro it o T items m n ys hT ho hc hd rs hn h;have hl:=QA (aP.mp h).1;refine call_list_seq (s:=P.s) it hT ho hc hd (λh' c' hk hg=>?_) (by refine rwl hn ?_;exact QG hl cL);exact(rE K rs (by simpa using hn) hk (bg _) (by refine rwr U3 ?_;exact hg) h P.t).2
  cases u with
  |nil=>refine ah r ?_;clear r;rintro a rfl zq;refine b8 zq ?_;clear zq;intro o ho hc zq;refine az zq ?_;clear zq;intro m hd;exact fin (.inr rfl) ho hc hd .nil_ rfl h
  |cons x y=>refine dM r ?_;clear r;rintro a w ws rfl zq4 h1 h2 -;refine b8 zq4 ?_;clear zq4;intro o ho hc zq;refine az zq ?_;clear zq;intro m hd;exact fin (.inr rfl) ho hc hd (.cons_ h1 h2) (bG.len_eq (.cons_ h1 h2)) h
  |ref q=>
   refine ah r ?_;clear r;rintro p hp rfl;refine aI h hp ?_;clear h;rintro o-ro h;refine bZ h ro ?_;clear h ro;rintro xs vs c hob rs-hl h -;exact fin (.inl rfl) hob rfl rfl rs rfl h
  |_=>exact aO h
theorem CT(hg:P₀.gl nm=some (.bi "set"))(hk:Γ.kd nm=some .globalImplicit)(hd:(nm==("__debug__":Str))=false):bx C Γ (.Call (.Name nm p) [] [] pos) Cw:=λF P en k Q E R h K=>by
 refine rwr (fQ rfl) ?_;refine Qy (eA (O.bi nm "set" hg) hk hd (jL fV (k:=λs vs=>k (aR s (.set .nil)) (.ref s.n)) rfl bE R h λP1 u vs L1 r1 hl h1=>⟨trivial,?_⟩));cases vs<;>try exact Uo hl
 refine call_set_0 λled=>(K.later L1).new (o:=.set .nil) (aX _ _) (bg _) (bg _) (λL=>⟨rfl,λzz=>false,0,⟨_,#[],0,.fresh 0 0 led,QS _ rfl,⟨rfl,rfl,rfl⟩,rfl,(λe he=>by cases he),(λk=>by simp),(by show 0<scanBound;decide),(by cases led<;>decide),rfl⟩,Ry _,Ry _⟩) h1 P1.t
theorem CZ(lo:Γ.loud=true)(hg:P₀.gl nm=some (.bi "min"))(hk:Γ.kd nm=some .globalImplicit)(hd:(nm==("__debug__":Str))=false)(hs:bh e=false)(hs':bh e'=false)(ha:bx C Γ e a)(hb:bx C Γ e' b):bx C Γ (.Call (.Name nm p) [e,e'] [] pos) (aW Hu a b):=
 D7 O hg hk hd jl hs hs' ha hb λF P k Q E u u' v v' r r' h K=>rh (f:=λa b=>k P.m (.nat (@RJ (λzz=>Nat) a b (QJ (QR b) a)))) r r' h λi j t t' e1 e2 h=>by
  subst e1 e2;refine min_two_ints (s:=P.s) (F.handled lo) λh' tk' hk=>?_;cases hb:QJ (QR j) i with
  |true=>rw[hb]at h;have:=QA hb;refine rwr (if_pos (by lia)) ?_;exact K.more hk .nat_ h _
  |false=>
   rw[hb]at h;have:¬j<i:=λz=>by rw[QK z]at hb;exact p7 hb
   refine rwr (if_neg (by simp_all+arith)) ?_;exact K.more hk .nat_ h _
omit O in
theorem BS:∀{xs:KV}{vs:List QD}{b:Bool}{k:Bool->Bool},bG C R xs vs->pj (λ(b:Bool)(k:Bool->Bool)=>k b) (λx Z r b k=>DC (λd=>r (aB d false b) k) x) xs b k=true->∃bs:List Bool,vs=bs.map Ud∧k (b&&bs.all id)=true:=by
 intro xs;induction xs with
 |nil=>intro vs b k r h;cases r;exact⟨[],rfl,by refine rwr (show(b&&([]:List Bool).all id)=b by simp) ?_;exact h⟩
 |cons x y _ ih=>
  intro vs b k r h;refine aH r ?_;clear r;rintro v us rfl r1 r2;cases x with
  |bool d=>
   cases r1;refine ah (ih r2 h) ?_;clear h ih r2;rintro bs rfl h;refine⟨d::bs,rfl,?_⟩;cases d<;>cases b<;>simpa[aB]using h
  |_=>exact aO h
 |_=>exact λr=>r.elim
omit O in
theorem xX(bs:List Bool):(Tw bs.length).all (λi=>bs.getD i true)=bs.all id:=by
 rw[S6];simp only[Rl,T5,id];refine⟨λh b hb=>?_,λh i hi=>?_⟩
 ·refine az (Uc.mp hb) ?_;intro i zq;refine az zq ?_;clear zq;rintro hi rfl;have:=h i hi;rw[SE,QM hi]at this;exact this
 ·refine rwr (SE) (rwr (QM hi) ?_);exact h _ (List.getElem_mem _)
theorem Dh(lo:Γ.loud=true)(hg:P₀.gl nm=some (.bi "all"))(hk:Γ.kd nm=some .globalImplicit)(hd:(nm==("__debug__":Str))=false)(hs:bh e=false)(ha:bx C Γ e a):bx C Γ (.Call (.Name nm p) [e] [] pos) (G7 a):=
 ms O hg hk hd jl hs ha (f:=λc k s v=>eF (λq=>b9 q s (iI λzz xs=>KE xs λb=>k s (.bool b))) v) λF P en k Q E u v R r h K=>by
  refine bu h r ?_;clear h r;rintro q p hp h-rfl;refine aI h hp ?_;clear h;rintro o-ro h;refine bZ h ro ?_;clear h ro;rintro xs vs c hob rs-hl h -;refine ah (BS (k:=λb=>k P.m (.bool b)) rs h) ?_;intro bs hv h;have w2:(P.R.h.push {cls:=.type "list_iterator",data:=.fields #[.ref p.fst,.int 0 0]}).IsListIter P.R.h.objs.size p.fst 0:=⟨_,QS _ rfl,rfl,rfl⟩
  have w3:(P.R.h.push {cls:=.type "list_iterator",data:=.fields #[.ref p.fst,.int 0 0]}).IsList p.fst vs:=⟨_,aX _ _ _ _ hob,rfl,c,rfl⟩
  refine call_all_walk (wpAny_pyIter_list (s:=P.s) (l:=p.fst) (items:=vs) ⟨_,hob,rfl,c,rfl⟩ ?_);refine⟨_,[P.R.h.objs.size,p.fst],[P.R.h.objs.size],vs.size,_,_,λi=>bs.getD i true,rfl,Walks.list (A:=F.A.in1) (F.handled lo) _ p.fst (U2 (Tb hob)) vs,⟨w2,w3⟩,?_,λh' tk hk=>?_⟩
  ·intro i v s Q E hi q;have:vs.toList[i]?=some v:=by rw[R9];exact hi
   rw[hv,Rj]at this;refine wM this ?_;clear this;rintro b hb rfl;refine S5 ?_;dsimp only at q;rw[SE,hb]at q;exact q
  ·have hsz:vs.size=bs.length:=by rw[←QL,hv,Ra]
   rw[hsz,xX];exact K.more (λb ob e=>hk b ob (by simp;exact U2 (Tb e)) (aX _ _ b ob e)) .bool_ h _
end
end
section
variable{C:Cx}{Γ:cW}{R R':Wd}
def F0(P:Pt C)(v:QD)(T:String):Prop:=∃a ob,v=.ref a∧P.R.h.get? a=some ob∧ob.cls=.type T∧ob.dict=none
section
variable{F:dO C Γ}{P:Pt C}{en:En}{Q:QD->QE->Prop}{E:QD->QE->Prop}
theorem jv{q:Pa}{p:iu}{f:Nat->KV->Bool}(hp:P.R.ρ q=some p)(h:b9 q P.m (iI f)=true):F0 P (.ref p.fst) "list":=by
 refine aI h hp ?_;clear h;rintro o-ro h;refine bZ h ro ?_;rintro xs vs c hob- - - -rfl;exact⟨_,_,rfl,hob,rfl,rfl⟩
theorem gb{f:Nat->KD->Bool}{o:KO}(h:Cd f o=true){G:Prop}(k:∀n es,f n es=true->o=.dict n es->G):G:=by
 cases o with
 |dict n es=>exact k n es h rfl
 |_=>exact aO h
theorem jS{f:KV->Bool}{o:KO}(h:nM f o=true){G:Prop}(k:∀xs,f xs=true->o=.set xs->G):G:=by
 cases o with
 |set xs=>exact k xs h rfl
 |_=>exact aO h
theorem rW{f:Nat->KD->Bool}{g:KD->KD->Bool}{o:KO}{p:iu}(h:tO f g o=true)(r:eR C R o p){G:Prop}(k:∀n es,oV C R n es p->((o=.dict n es∧f n es=true)∨∃a m,o=.pd a m∧Pd C a m es∧g a m=true)->G):G:=by
 cases o with
 |dict n es=>exact k n es r (.inl ⟨rfl,h⟩)
 |pd a m=>refine aE r ?_;intro n es d z;exact k n es d (.inr ⟨a,m,rfl,z,h⟩)
 |_=>exact aO h
theorem xo{P:Pt C}{q:Pa}{p:iu}{b:Bool}(hp:P.R.ρ q=some p)(h:b9 q P.m (tO (λZ Z=>b) λZ Z=>b)=true):b=true:=by
 refine aI h hp ?_;rintro o-ro h;refine rW h ro ?_;rintro n es-z;exact z.elim (λa=>a.2) λa=>by refine aH a ?_;rintro _ _- -z;exact z
theorem jw{q:Pa}{p:iu}{f:Nat->KD->Bool}{g:KD->KD->Bool}(hp:P.R.ρ q=some p)(h:b9 q P.m (tO f g)=true):F0 P (.ref p.fst) "dict":=by
 refine aI h hp ?_;clear h;rintro o-ro h;refine rW h ro ?_;rintro n es ro -;refine ar ro ?_;clear ro;rintro -zq;refine ei zq ?_;clear zq;rintro ob es' ep hob hx -;exact⟨_,_,rfl,hob,hx.1,hx.2.1⟩
theorem j6{q:Pa}{p:iu}{k:KT}{i d:KV}(hp:P.R.ρ q=some p)(h:yz k P.m q i d=true):P.s.TypeIs (.ref p.fst) "dict":=by
 refine d9 (jw hp h) ?_;rintro a ob e h1 h2 -;cases e;exact⟨ob,h1,h2⟩
theorem BN{q:Pa}{p:iu}{f:KV->Bool}(hp:P.R.ρ q=some p)(h:b9 q P.m (nM f)=true):F0 P (.ref p.fst) "set":=by
 refine aI h hp ?_;clear h;rintro o-ro h;refine jS h ?_;clear h;rintro xs-rfl;refine ar ro ?_;clear ro;rintro -zq;refine aE zq ?_;clear zq;rintro S m zq2 -;refine FG zq2 ?_;clear zq2;rintro ob es' ep tb hob hx -;exact⟨_,_,rfl,hob,hx.1,hx.2.1⟩
end
section
variable{o:Qz}{args:List Qz}{y x:X}{ap pos:Pos}{T id:String}{nm:Str}
theorem fF{g:Cl->En->KT->KT}{kk:KT->KV->KT}(pa:PlainAttrs T)(slot:Slot T nm id)(hty:typeOf (.builtin id)=pure (.type "method_descriptor"))(ho:aZ o=false)(hy:bx C Γ o y)(hs:cH args=true)(hl:QJ args.length 19=true)(hp:cG ap pos=true)(hx:kQ C Γ args x)
  (hg:∀(F:dO C Γ)(P:Pt C)(en:En)(k:KT)(u:KV)(v:QD),VR C P.R u v->g F.cl en k P.m u=true->F0 P v T∧x F.cl en (kk k u) P.m=true)
  (q:∀(F:dO C Γ)(P:Pt C)(k:KT)(Q:QD->QE->Prop)(E:QD->QE->Prop)(u w:KV)(v:QD)(vs:List QD),VR C P.R u v->bG C P.R w vs->vs.length=args.length->kk k u P.m w=true->Kp C C.vol P.R k Q->QQ (R6 C.prog C.w) F.A (call (.builtin id) (v::vs)) Q E P.s):
  bx C Γ (.Call (.Attribute o nm ap) args [] pos) (λc e k s=>y c e (g c e k) s):=λF P en k Q E R h K=>by
 rw[UO,cQ ho];refine Qy (hy F P en _ _ E R h λP1 u v L1 r1 h1=>Qy (Sl ?_));refine ar (hg F P1 en k u v r1 h1) ?_;clear h1;intro zq0 h1;refine d9 zq0 ?_;clear zq0;rintro a ob rfl hob hc hd;refine mG (g:=.builtin id) (first:=[.ref a]) (λ{pl Q t} q=>getMethod_builtin (s:=(P1.tick t).s) ⟨ob,hob,hc⟩ pa slot hty (λb e=>by cases e;exact⟨ob,hob,hd⟩) q) jl hs hl hp hx (R.later L1) h1 λP2 w vs L2 r2 l2 h2=>⟨trivial,?_⟩
 exact q F P2 k Q E u w _ vs (r1.later L2) r2 l2 h2 (K.later (L1.trans L2))
theorem kH{P:Pt C}{k:KT}{Q:QD->QE->Prop}(K:Kp C C.vol P.R k Q){q:Pa}{p:iu}(hp:P.R.ρ q=some p)(he:p.snd=p.fst){ys:KV}{vs:Array QD}{n m:Nat}{h':SG}(hs:RM p.fst P.R.h h')(hg:h'.get? p.fst=some {cls:=.type "list",data:=.seq vs m})(r:bG C P.R ys vs.toList)(hn:n=vs.size)(hl:n≤100000)
  {u:KV} {v:QD} (rv:VR C P.R u v) (h:k (bD P.m q (.list n ys)) u=true) (t:Nat):Q v ⟨h',C.g,C.d,t,C.os⟩:=by
 refine cZ (P.set_ (o':=.list n ys) hp (.inl rfl) hs ⟨_,hg⟩ (λL=>⟨he,vs,m,hg,r.later L,hn,hl⟩) t) ?_;intro P' e1 e2 e3 L;refine rwl e3 ?_;exact K P' u v (L _) (rv.later (L [])) (by refine rwr e2 ?_;exact h)
theorem Dd{e:Qz}{x:X}(ho:aZ o=false)(hy:bx C Γ o y)(hs:bh e=false)(hp:cG ap pos=true)(hx:bx C Γ e x):bx C Γ (.Call (.Attribute o "append" ap) [e] [] pos) (cX y x):=
 fF (g:=λc e k s v=>eF (λq=>b9 q s (iI λZ Z=>x c e (λs w=>b9 q s (iI λn xs=>aB (QJ (QR n) 100000) false (k (bD s q (.list (QR n) (app xs (.cons w .nil)))) .none))) s)) v)
  (kk:=λk u s w=>gS false (λw Z=>eF (λq=>b9 q s (iI λn xs=>aB (QJ (QR n) 100000) false (k (bD s q (.list (QR n) (app xs (.cons w .nil)))) .none))) u) w)
  U1 F.slot_list_append F.type_list_append ho hy (by simp[cH,hs]) rfl hp (bp hs hx bE)
  (λF P en k u v r h=>by
   refine bu h r ?_;clear h;rintro q p hp h rfl rfl;refine⟨jv hp h,?_⟩;refine aI h hp ?_;clear h;rintro o-ro h;refine bZ h ro ?_;clear h;rintro xs vs c- - - -h rfl;exact h)
  λF P k Q E u w v vs r rs l h K=>by
   refine cC h rs l ?_;clear h l rs;rintro w _ z us r3-l h-rfl;cases QP l;refine bu h r ?_;clear h r;rintro q p hp h-rfl;refine aI h hp ?_;clear h;rintro o-ro h;refine bZ h ro ?_;clear h ro;rintro xs vs c hob rx hl he h -;refine dI h ?_;clear h;intro h1 h;have h1:=QA h1;refine UM (s:=P.s) (items:=vs) ⟨c,hob⟩ (λh' hpl hs=>?_) (QG hl cL);refine az hpl ?_;clear hpl;intro m' hg;exact kH K hp he hs hg (by refine rwr TU ?_;exact rx.append (.cons_ r3 .nil_)) (by simp) h1 .none_ h P.t
theorem nO{f:Nat->Bool}{o:KO}(h:Fk f o=true){G:Prop}(k:∀n,f n=true->o=.junk n->G):G:=by
 cases o with
 |junk n=>exact k n h rfl
 |_=>exact aO h
theorem De{e:Qz}{x:X}(ho:aZ o=false)(hy:bx C Γ o y)(hs:bh e=false)(hp:cG ap pos=true)(hx:bx C Γ e x):bx C Γ (.Call (.Attribute o "append" ap) [e] [] pos) (G6 y x):=
 fF (g:=λc e k s v=>eF (λq=>b9 q s (Fk λZ=>x c e (λs Z=>b9 q s (Fk λn=>aB (QJ (QR n) 100000) false (k (bD s q (.junk (QR n))) .none))) s)) v)
  (kk:=λk u s w=>gS false (λZ Z=>eF (λq=>b9 q s (Fk λn=>aB (QJ (QR n) 100000) false (k (bD s q (.junk (QR n))) .none))) u) w)
  U1 F.slot_list_append F.type_list_append ho hy (by simp[cH,hs]) rfl hp (bp hs hx bE)
  (λF P en k u v r h=>by
   refine bu h r ?_;clear h;rintro q p hp h rfl rfl;refine aI h hp ?_;rintro o-ro h;refine nO h ?_;rintro n h rfl;refine ar ro ?_;rintro -zq;refine aE zq ?_;rintro vs c hob -;exact⟨⟨_,_,rfl,hob,rfl,rfl⟩,h⟩)
  λF P k Q E u w v vs r rs l h K=>by
   refine cC h rs l ?_;clear h l rs;rintro w _ z us r3-l h-rfl;cases QP l;refine bu h r ?_;clear h r;rintro q p hp h-rfl;refine aI h hp ?_;clear h;rintro o-ro h;refine nO h ?_;rintro n h rfl;refine ar ro ?_;intro he zq;refine aH zq ?_;intro vs c hob hv hl;refine dI h ?_;clear h;intro h1 h;have h1:=QA h1;refine UM (s:=P.s) (items:=vs) ⟨c,hob⟩ (λh' hpl hs=>?_) (QG (QG hv hl) cL);refine az hpl ?_;clear hpl;intro m' hg;refine cZ (P.set_ (o':=.junk (n+1)) hp (.inl rfl) hs ⟨_,hg⟩ (λL=>⟨he,_,m',hg,by rw[Array.size_push];exact RV hv,h1⟩) P.t) ?_;intro P' e1 e2 e3 L;exact e3▸K P' .none .none (L _) .none_ (by rw[e2];exact h)
theorem vA{α:Type}(xs:Array α)(h:0<xs.size):(xs.eraseIdxIfInBounds (xs.size-1)).toList=xs.toList.take (xs.size-1):=by
 rw[Array.eraseIdxIfInBounds,dif_pos (by omega),Array.toList_eraseIdx,List.eraseIdx_eq_take_drop_succ];simp;simp_all+arith
theorem CV(ho:aZ o=false)(hy:bx C Γ o y)(hp:cG ap pos=true):bx C Γ (.Call (.Attribute o "pop" ap) [] [] pos) (kX y):=
 fF (g:=λc e k s v=>eF (λq=>b9 q s (iI λn xs=>@SX (λZ=>Bool) false (λm Z=>Ax m xs false (k (bD s q (.list m (take m xs))))) n)) v)
  (kk:=λk u s w=>eF (λq=>b9 q s (iI λn xs=>@SX (λZ=>Bool) false (λm Z=>Ax m xs false (k (bD s q (.list m (take m xs))))) n)) u)
  U1 UX F.type_list_pop ho hy rfl rfl hp bE
  (λF P en k u v r h=>by
   refine bu h r ?_;rintro q p hp h2-rfl;exact⟨jv hp h2,h⟩)
  λG P k Q E u w v vs r rs l h K=>by
   cases QP l;refine bu h r ?_;clear h r;rintro q p hp h-rfl;refine aI h hp ?_;clear h;rintro o-ro h;refine bZ h ro ?_;clear h ro;rintro xs vs c hob rx hl he h -;cases hz:vs.size with
   |zero=>rw[hz]at h;exact aO h
   |succ m=>
    rw[hz]at h;refine aC h ?_;clear h;intro x h hx;refine ah (rx.get hx) ?_;intro v hv rv;refine call_meets UX (s:=P.s) ⟨_,hob,rfl⟩ F.entry_list_pop (F.args_list_pop_1 _) (MeetsSeq.list_pop_last p.fst vs c v (by refine rwr hz ?_;simpa using hv) (QG hl cL)) ⟨hob,?_⟩;have e:=vA vs (by simp_all+arith);exact kH K hp he (RE ..) (RT (Uh λxs=>xs.eraseIdxIfInBounds (vs.size-1)) hob rfl) (n:=m) (by
     show bG C P.R _ (vs.eraseIdxIfInBounds (vs.size-1)).toList;refine rwr e (rwr hz ?_);exact rx.take_ m) (by refine rwl QL ?_;show _=(vs.eraseIdxIfInBounds (vs.size-1)).toList.length;refine rwr e (rwr S3 (rwr QL ?_));simp_all+arith) (by lia) rv h _
theorem zr{n:Nat}{p':Pos}(ho:aZ o=false)(hy:bx C Γ o y)(hp:cG ap pos=true):bx C Γ (.Call (.Attribute o "pop" ap) [.Constant (.int (.ofNat 0)) n p'] [] pos) (mW y):=
 fF (g:=λc e k s v=>eF (λq=>b9 q s (iI λn xs=>gS false (λx r=>k (bD s q (.list (Nat.pred n) r)) x) xs)) v)
  (kk:=λk u s w=>gS false (λz Z=>ig (λz=>aB (QB z 0) false (eF (λq=>b9 q s (iI λn xs=>gS false (λx r=>k (bD s q (.list (Nat.pred n) r)) x) xs)) u)) z) w)
  U1 UX F.type_list_pop ho hy rfl rfl hp (bp rfl ji bE)
  (λF P en k u v r h=>by
   refine bu h r ?_;rintro q p hp h2-rfl;exact⟨jv hp h2,h⟩)
  λG P k Q E u w v vs r rs l h K=>by
   refine cC h rs l ?_;clear h l rs;rintro w _ z us r3-l h-rfl;cases QP l;refine cu h r3 ?_;clear h r3;rintro z t h rfl -;refine dI h ?_;clear h;intro hz h;cases bR.mp hz;refine bu h r ?_;clear h;rintro q p hp h-rfl;refine aI h hp ?_;clear h;rintro o-ro h;refine bZ h ro ?_;clear h ro;rintro xs vs c hob rx hl he h -;cases xs with
   |cons x r=>
    refine aH rx ?_;clear rx;intro v us e1 rv ru;have h0:vs[0]?=some v:=by refine rwl (R9) (rwr e1 ?_);rfl
    have hpos:=(SD.mp h0).1;refine call_meets UX (s:=P.s) ⟨_,hob,rfl⟩ F.entry_list_pop (F.args_list_pop_2 _ _) (MeetsSeq.list_pop_at p.fst vs c 0 t 0 v (by decide) (by refine rwr (seqIndex_of (by decide) (by simp_all+arith)) ?_;rfl) h0 (QG hl cL)) ⟨hob,?_⟩;have e2:(vs.eraseIdxIfInBounds 0).toList=us:=by rw[Array.eraseIdxIfInBounds,dif_pos hpos,Array.toList_eraseIdx,e1];rfl
    have e3:vs.size=us.length+1:=by refine rwl QL (rwr e1 ?_);rfl
    exact kH K hp he (RE ..) (RT (Uh λxs=>xs.eraseIdxIfInBounds 0) hob rfl) (n:=Nat.pred vs.size) (by show bG C P.R _ (vs.eraseIdxIfInBounds 0).toList;refine rwr e2 ?_;exact ru)
     (by show _=(vs.eraseIdxIfInBounds 0).size;refine rwl (QL (xs:=vs.eraseIdxIfInBounds 0)) (rwr e2 (rwr e3 ?_));rfl) (by rw[e3]at hl ⊢;show us.length≤_;exact QG (RA us.length) hl) rv h _
   |_=>exact aO h
theorem nY(l:Ri)(items:Array QD)(n k:Nat)(z:Int)(hz:z=k)(u:Tok)(y:QD)(hf:¬(!Builtin.List.listFitsIndex z)=true)(hs:items.size≤sizeLine):
  Meets (Builtin.«list.insert» ⟨[.ref l,.int z u,y],[]⟩) (λzz R s=>s.heap.get? l=some {cls:=.type "list",dict:=none,data:=.seq items n,slots:=#[]}∧R (.ok (.ret SY)) {s with heap:=s.heap.update l (Uh λxs=>(xs.extract 0 (min k xs.size)).push y++xs.extract (min k xs.size)),toks:=s.toks}):=by
 have e:=AutoSeq1.list_insert_list_int_val_1 l items n z u y hf hs;have e2:(λxs:Array QD=>have k:=if z<0 then(z+(xs.size:Int)).toNat else min z.toNat xs.size;(xs.extract 0 k).push y++xs.extract k)=λxs=>(xs.extract 0 (min k xs.size)).push y++xs.extract (min k xs.size):=by
  funext xs
  refine rwr (if_neg (by simp_all+arith)) (rwr hz ?_);rfl
 rw[e2]at e;exact e
theorem D2{e1 e2:Qz}{x1 x2:X}(ho:aZ o=false)(hy:bx C Γ o y)(hs:bh e1=false)(hs2:bh e2=false)(hp:cG ap pos=true)(hx1:bx C Γ e1 x1)(hx2:bx C Γ e2 x2):bx C Γ (.Call (.Attribute o "insert" ap) [e1,e2] [] pos) (xB y x1 x2):=
 fF (g:=λc e k s v=>eF (λq=>b9 q s (iI λZ Z=>x1 c e (λs i=>x2 c e (λs w=>Hz k s q i w) s) s)) v)
  (kk:=λk u s w=>gS false (λi r=>gS false (λw Z=>eF (λq=>Hz k s q i w) u) r) w)
  U1 F.slot_list_insert F.type_list_insert ho hy (by simp[cH,hs,hs2]) rfl hp (bp hs hx1 (bp hs2 hx2 bE))
  (λF P en k u v r h=>by
   refine bu h r ?_;clear h;rintro q p hp h rfl rfl;refine⟨jv hp h,?_⟩;refine aI h hp ?_;clear h;rintro o-ro h;refine bZ h ro ?_;clear h;rintro xs vs c- - - -h rfl;exact h)
  λG P k Q E u w v vs r rs l h K=>by
   refine cC h rs l ?_;clear h l rs;rintro i _ z us r3 r4 l h-rfl;refine cC h r4 l ?_;clear h l r4;rintro w _ y us r5-l h-rfl;cases QP l;refine bu h r ?_;clear h r;rintro q p hp h-rfl;refine aI h hp ?_;clear h;rintro o-ro h;refine bZ h ro ?_;clear h ro;rintro xs vs c hob rx hl he h -;refine dI h ?_;clear h;intro h1 h;have h1:=QA h1;refine cu h r3 ?_;clear h r3;rintro j t h rfl -;refine dI h ?_;clear h;intro h2 h;have h2:=QA h2;generalize hz:((j:Nat):Int)=z;have hfi:¬(!Builtin.List.listFitsIndex z)=true:=by refine rwl hz (rwr (fitsIndex_of (by exact To (j+0)) (by lia)) ?_);decide
   refine call_meets F.slot_list_insert (s:=P.s) ⟨_,hob,rfl⟩ F.entry_list_insert (F.args_list_insert_3 _ _ _) (nY p.fst vs c j z hz.symm t y hfi (QG hl cL)) ⟨hob,?_⟩;have e1:((vs.extract 0 (min j vs.size)).push y++vs.extract (min j vs.size)).toList=vs.toList.take j++y::vs.toList.drop j:=by
    refine rwr (Sy h2) ?_;simp only[RK,TU,Array.toList_extract,List.extract_eq_take_drop,List.drop_zero,Nat.sub_zero,Sx,List.cons_append,List.nil_append];exact rwr (S0 (l:=vs.toList.drop j) (by simp)) rfl
   exact kH K hp he (RE ..) (RT (Uh λxs=>(xs.extract 0 (min j xs.size)).push y++xs.extract (min j xs.size)) hob rfl) (n:=QR vs.size)
    (by show bG C P.R _ ((vs.extract 0 (min j vs.size)).push y++vs.extract (min j vs.size)).toList;refine rwr e1 ?_;exact(rx.take_ j).append (.cons_ r5 (rx.drop_ j)))
    (by show _=((vs.extract 0 (min j vs.size)).push y++vs.extract (min j vs.size)).size;refine rwl (QL (xs:=(vs.extract 0 (min j vs.size)).push y++vs.extract (min j vs.size))) (rwr e1 ?_);simp;simp_all+arith) h1 .none_ h _
section
variable{P₀:Pg}(O:C.Ok P₀)
include O
theorem u9{P:Pt C}{k:KT}{Q:QD->QE->Prop}{E:QD->QE->Prop}{q:Pa}{p:iu}{i d:KV}{iv dv:QD}{A:RR}(hA:A.units+60<cLine)(hp:P.R.ρ q=some p)(ri:VR C P.R i iv)(rd:VR C P.R d dv)(h:yz k P.m q i d=true)(K:Kp C C.vol P.R k Q):
  QQ (R6 C.prog C.w) A (dictGet p.fst iv) (λr s=>(∃v,r=some v∧Q v s)∨r=none∧Q dv s) E P.s:=by
 refine aI h hp ?_;clear h;rintro o-ro h;refine rW h ro ?_;intro n es di z;have key:pk i=true∧match dl es i with|some u=>∃v,(∀(R:Wd) w,VR C R u w->VR C R v w)∧k P.m v=true|none=>∃v,(∀(R:Wd) w,VR C R d w->VR C R v w)∧k P.m v=true:=by
  rcases z with zq|zq
  ·refine ar zq ?_;clear zq;rintro -h;refine dI h ?_;intro h1 h;refine⟨h1,?_⟩;unfold cz at h;cases e:dl es i with
   |none=>rw[e]at h;exact⟨d,λZ Z z=>z,h⟩
   |some u=>rw[e]at h;exact⟨u,λZ Z z=>z,h⟩
  ·refine aH zq ?_;clear zq;rintro a m-hpd h;refine dI h ?_;intro h1 h;refine⟨h1,?_⟩;have z:=hpd i h1;unfold cz at h;cases e:dl a i with
   |some v=>rw[e]at h z;refine ah z ?_;intro u e2 z;refine rwr e2 ?_;exact⟨v,z,h⟩
   |none=>
    rw[e]at h z;have h:bQ (dl m i) (k P.m d) (λv=>aB (bU d dflt) false (k P.m v))=true:=h;cases e3:dl m i with
    |none=>rw[e3]at h z;have z:dl es i=none:=z;refine rwr z ?_;exact⟨d,λZ Z z=>z,h⟩
    |some v=>
     rw[e3]at h z;refine dI h ?_;intro h2 h;refine rwr (gw h2) ?_;rcases z with zq|zq
     ·refine ah zq ?_;clear zq;intro u e2 z;refine rwr e2 ?_;exact⟨v,z,h⟩
     ·refine ar zq ?_;clear zq;intro e2 z;refine rwr e2 ?_;exact⟨v,z,h⟩
 refine ar di ?_;rintro -zq;refine xm zq ?_;clear zq;rintro ob es' ep hob hx hdat hE hnd -;refine jr (s:=P.s) key.1 ri rfl hob hdat hE (by lia) hnd (λe t'=>?_) λy val e rv t'=>?_
 ·have z:=key.2;rw[e]at z;refine ah z ?_;intro v f h;exact .inr ⟨rfl,K.at (f _ _ rd) h _⟩
 ·have z:=key.2;rw[e]at z;refine ah z ?_;intro v f h;exact .inl ⟨_,rfl,K.at (f _ _ rv) h _⟩
theorem zA{e:Qz}{x:X}(ho:aZ o=false)(hy:bx C Γ o y)(hs:bh e=false)(hp:cG ap pos=true)(hx:bx C Γ e x):bx C Γ (.Call (.Attribute o "get" ap) [e] [] pos) (ka y x):=
 fF (g:=λc e k s v=>eF (λq=>b9 q s (tO (λZ Z=>x c e (λs i=>yz k s q i .none) s) (λZ Z=>x c e (λs i=>yz k s q i .none) s))) v)
  (kk:=λk u s w=>gS false (λi Z=>eF (λq=>yz k s q i .none) u) w)
  F.plainAttrs_dict UY F.type_dict_get ho hy (by simp[cH,hs]) rfl hp (bp hs hx bE)
  (λF P en k u v r h=>by
   refine bu h r ?_;clear h;rintro q p hp h rfl rfl;exact⟨jw hp h,xo hp h⟩)
  λG P k Q E u w v vs r rs l h K=>by
   refine cC h rs l ?_;clear h l rs;rintro i _ z us r3-l h-rfl;cases QP l;refine bu h r ?_;clear h;rintro q p hp h-rfl;refine Rk UY (s:=P.s) (j6 hp h) F.entry_dict_get ?_ (F.args_dict_get_2 _ _);show QQ _ _ (dictGet p.fst z>>=_) _ _ _;refine Qy (Sq (u9 O (by have:=G.units;show G.A.units+1+_<_;lia) hp r3 .none_ h K) (λr s z=>?_) λZ Z e=>e);rcases z with zq|zq
   ·refine ah zq ?_;clear zq;rintro v rfl q;exact QC ⟨_,rfl,q⟩
   ·refine ar zq ?_;clear zq;rintro rfl q;exact Qy (wpAny_missed_other (gW O P.good hp) (QC ⟨_,rfl,q⟩))
theorem zy{e1 e2:Qz}{x1 x2:X}(ho:aZ o=false)(hy:bx C Γ o y)(hs:bh e1=false)(hs2:bh e2=false)(hp:cG ap pos=true)(hx1:bx C Γ e1 x1)(hx2:bx C Γ e2 x2):bx C Γ (.Call (.Attribute o "get" ap) [e1,e2] [] pos) (gj y x1 x2):=
 fF (g:=λc e k s v=>eF (λq=>b9 q s (tO (λZ Z=>x1 c e (λs i=>x2 c e (λs d=>yz k s q i d) s) s) (λZ Z=>x1 c e (λs i=>x2 c e (λs d=>yz k s q i d) s) s))) v)
  (kk:=λk u s w=>gS false (λi r=>gS false (λd Z=>eF (λq=>yz k s q i d) u) r) w)
  F.plainAttrs_dict UY F.type_dict_get ho hy (by simp[cH,hs,hs2]) rfl hp (bp hs hx1 (bp hs2 hx2 bE))
  (λF P en k u v r h=>by
   refine bu h r ?_;clear h;rintro q p hp h rfl rfl;exact⟨jw hp h,xo hp h⟩)
  λG P k Q E u w v vs r rs l h K=>by
   refine cC h rs l ?_;clear h l rs;rintro i _ z us r3 r4 l h-rfl;refine cC h r4 l ?_;clear h l r4;rintro d _ z' us r5-l h-rfl;cases QP l;refine bu h r ?_;clear h;rintro q p hp h-rfl;refine Rk UY (s:=P.s) (j6 hp h) F.entry_dict_get ?_ (F.args_dict_get_3 _ _ _);show QQ _ _ (dictGet p.fst z>>=_) _ _ _;refine Qy (Sq (u9 O (by have:=G.units;show G.A.units+1+_<_;lia) hp r3 r5 h K) (λr s z=>?_) λZ Z e=>e);rcases z with zq|zq
   ·refine ah zq ?_;clear zq;rintro v rfl q;exact QC ⟨_,rfl,q⟩
   ·refine ar zq ?_;clear zq;rintro rfl q;exact Qy (wpAny_missed_other (gW O P.good hp) (QC ⟨_,rfl,q⟩))
end
theorem zo{e:Qz}{x:X}(ho:aZ o=false)(hy:bx C Γ o y)(hs:bh e=false)(hp:cG ap pos=true)(hx:bx C Γ e x):bx C Γ (.Call (.Attribute o "add" ap) [e] [] pos) (sC y x):=
 fF (g:=λc e k s v=>eF (λq=>b9 q s (nM λZ=>x c e (λs w=>b9 q s (nM λxs=>Fj (λd=>aB (QJ (len xs) 1000) false (k (bD s q (.set (.cons (.str d) xs))) .none)) w)) s)) v)
  (kk:=λk u s w=>gS false (λw Z=>eF (λq=>b9 q s (nM λxs=>Fj (λd=>aB (QJ (len xs) 1000) false (k (bD s q (.set (.cons (.str d) xs))) .none)) w)) u) w)
  F.plainAttrs_set F.slot_set_add F.type_set_add ho hy (by simp[cH,hs]) rfl hp (bp hs hx bE)
  (λF P en k u v r h=>by
   refine bu h r ?_;clear h;rintro q p hp h rfl rfl;refine⟨BN hp h,?_⟩;refine aI h hp ?_;clear h;rintro o-ro h;refine jS h ?_;clear h;rintro xs h rfl;exact h)
  λG P k Q E u w v vs r rs l h K=>by
   refine cC h rs l ?_;clear h l rs;rintro i _ z us r3-l h-rfl;cases QP l;refine bu h r ?_;clear h r;rintro q p hp h-rfl;refine aI h hp ?_;clear h;rintro o-ro h;refine jS h ?_;clear h;rintro xs h rfl;refine ar ro ?_;clear ro;intro he zq;refine aH zq ?_;clear zq;intro S n hS hn hl;cases i with
   |str d=>
    refine aH r3 ?_;clear r3;rintro s t rfl rfl ok;refine dI h ?_;clear h;intro h1 h;have h1:=QA h1;refine call_set_add (s:=P.s) (knd:=PySem.strKind C.prog C.w) (k:=s) (by exact if_pos rfl) rfl hS (by show n+1<4096;lia) λh' hsb hS'=>?_;refine uc (id hS') ?_;rintro o es ep tb ho -;have hll:len (.cons (.str (iz s)) xs)=len xs+1:=rfl;refine cZ (P.set_ (o':=.set (.cons (.str (iz s)) xs)) hp (.inl rfl) hsb ⟨_,ho⟩ (λL=>⟨he,_,_,hS',by refine rwr hll ?_;split<;>lia,by refine rwr hll ?_;simp_all+arith⟩) (P.t+1)) ?_;intro P' e1 e2 e3 L;exact e3▸K P' .none .none (L _) .none_ (by refine rwr e2 ?_;exact h)
   |_=>exact aO h
end
end
section
variable{C:Cx}{Γ:cW}{R R':Wd}
structure cD(C:Cx)(R:Wd)(b:Ri):Prop where
 own:¬dA R b
 frz:¬fb R b
 vol:b∉C.vol
 old:C.h₀.get? b=none
 fz:¬R.fz b
 obj:∃ob,R.h.get? b=some ob∧(∀xs n,ob.data=.seq xs n->ob.cls≠.type "tuple")∧∀vs q t,ob.data=.fields vs->vs[1]?≠some (.str q t)
section
variable{μ:KS}{h':SG}
theorem cD.fresh(G:bM C R μ){b:Ri}(hb:R.h.get? b=none){ob:Obj}(e:h'.get? b=some ob)(h1:∀xs n,ob.data=.seq xs n->ob.cls≠.type "tuple")(h2:∀vs q t,ob.data=.fields vs->vs[1]?≠some (.str q t)):cD C ⟨R.ρ,h',R.fz⟩ b:=
 let z:=G.dead hb;⟨z.2.1,z.2.2.1,z.2.2.2,z.1,G.unfz hb,ob,e,h1,h2⟩
theorem bM.asides(G:bM C R μ){as:List Ri}(k:∀b o,b∉as->R.h.get? b=some o->h'.get? b=some o)(fr:∀b∈as,cD C R b):bM C ⟨R.ρ,h',R.fz⟩ μ∧ay as R ⟨R.ρ,h',R.fz⟩:=by
 have code:∀cd q,R.h.CodeRec cd q->h'.CodeRec cd q:=by
  intro cd q zq;refine jJ zq ?_;clear zq;intro c o vs t e g d v;refine⟨c,o,vs,t,e,k c o (λhc=>?_) g,d,v⟩;refine b8 ((fr c hc).obj) ?_;rintro ob e1-e3;cases g.symm.trans e1;exact e3 _ _ _ d v
 have L:ay as R ⟨R.ρ,h',R.fz⟩:=by
  refine⟨λZ Z h=>h,λZ Z h=>.inl h,?_,λc o e Z hc=>⟨o,k c o hc e,.inl rfl⟩,λc o hc e=>⟨o,k c o hc e⟩,code,λa o f e=>⟨f,k a o (λz=>(fr a z).fz f) e⟩,λZ=>.inl⟩;rintro a i ⟨o,e,hc,m,r⟩;refine⟨o,k a o (λha=>?_) e,hc,m,r⟩;refine b8 ((fr a ha).obj) ?_;rintro ob e1 e2 -;cases e.symm.trans e1;exact e2 _ _ r hc
 have keep:∀{b:Ri},b∉as->(∃o,R.h.get? b=some o)->h'.get? b=R.h.get? b:=λhb ⟨o,e⟩=>by refine rwr e ?_;exact k _ _ hb e
 have old:∀{b:Ri}{o:Obj},C.h₀.get? b=some o->h'.get? b=some o:=λ{b o} e=>k b o (λhc=>nn (fr b hc).old e) (G.keep b o e);have fz:∀c,fb R c->h'.get? c=R.h.get? c:=λc hc=>keep (λz=>(fr _ z).frz hc) (let⟨ob,v,e,_⟩:=G.frz c hc;⟨ob,e⟩);refine⟨⟨G.next,λq p hp=>?_,G.cod,λb o=>old,G.old,G.apart,λc hc=>?_,λP hP=>?_,λa ha=>?_⟩,L⟩
 ·refine ah (G.dom q p hp) ?_;intro o e r;refine ah (r.solid (.inl rfl)) ?_;rintro o1 e1 -;refine ah (r.solid (.inr rfl)) ?_;rintro o2 e2 -;exact⟨o,e,r.move L (keep (λz=>(fr _ z).own ⟨q,p,hp,.inl rfl⟩) ⟨o1,e1⟩) (keep (λz=>(fr _ z).own ⟨q,p,hp,.inr rfl⟩) ⟨o2,e2⟩) λc hc=>fz c ⟨q,p,hp,hc⟩⟩
 ·refine aE (G.frz c hc) ?_;intro ob v e d;exact⟨ob,v,(fz c hc).trans e,d⟩
 ·refine b8 (G.vol P hP) ?_;intro ps e1 e2 e3;exact⟨ps,(keep (λz=>(fr _ z).vol hP) ⟨_,e1⟩).trans e1,e2,λpos cv z=>code _ _ (e3 pos cv z)⟩
 ·refine ar (G.fz a ha) ?_;intro z n;refine fI z ?_;intro vs c e;exact⟨⟨vs,c,k a _ (λz=>(fr a z).fz ha) e⟩,n⟩
theorem bM.fzNot(G:bM C R μ){b:Ri}{o:Obj}(e:R.h.get? b=some o)(h:∀vs k,o.data≠.seq vs k):¬R.fz b:=λf=>by refine fI (G.fz b f).1 ?_;intro vs k e';cases e.symm.trans e';exact h _ _ rfl
end
theorem kR.same{fr:List Rd}{h':SG}(F:kR C R fr)(k:∀L o es ep,R.h.get? L=some o->o.data=.dict es ep->∃o' es' ep',h'.get? L=some o'∧o'.data=.dict es' ep'):kR C ⟨R.ρ,h',R.fz⟩ fr:=λf hf=>by
 refine ar (F f hf) ?_;intro a zq;refine gu zq ?_;clear zq;intro L o es ep a1 a2 a3 a4 a5 a6;refine f9 (k L o es ep a5 a6) ?_;intro o' es' ep' b1 b2;exact⟨a,L,o',es',ep',a1,a2,a3,a4,b1,b2⟩
section
variable{F:dO C Γ}{P:Pt C}{en:En}{E:QD->QE->Prop}
theorem ER.locFree(er:ER F P.R en):cD C P.R F.menv.locals:=by
 refine ah er.ns ?_;rintro m zq1 -;refine ei zq1 ?_;clear zq1;rintro o es ep ho hd -;refine⟨er.lown,λhf=>?_,F.lvol,F.lold,P.good.fzNot ho (λvs k z=>QO (hd.symm.trans z)),o,ho,λxs n z=>(QO (hd.symm.trans z)),λvs q t z=>(QO (hd.symm.trans z))⟩;refine aH (P.good.frz _ hf) ?_;rintro oc v e d -;cases ho.symm.trans e;exact QO (hd.symm.trans d)
theorem jO(er:ER F P.R en){X:List Ri}(hl:F.menv.locals∈X){nm:Str}{q:Pa}{x:KV}{v:QD}(hs:Γ.slot nm=some q)(hk:Γ.kd nm=some .local∨Γ.kd nm=some .cell∧C.asg nm=true)(hcx:Γ.kd nm=some .cell->∀ca,F.menv.cells.lookup nm=some ca->ca∈X)(rv:VR C P.R x v){Q:Unit->QE->Prop}
  (k:∀P':Pt C,P'.m=P.m->ay X P.R P'.R->ER F P'.R (tp q x en)->Q () P'.s):QQ (R6 C.prog C.w) F.A (storeName F.menv nm v) Q E P.s:=by
 refine ah er.ns ?_;intro m ns hold;have other:∀{nm' q' y},Γ.slot nm'=some q'->tg q' (tp q x en)=some y->nm'=nm∧y=x∨nm'≠nm∧tg q' en=some y:=λ{nm' q' y} h1 h2=>by
  by_cases e:q'=q
  ·subst e;rw[aS]at h2;cases h2;exact .inl ⟨Γ.slot_inj h1 hs,rfl⟩
  ·rw[am _ e]at h2;exact .inr ⟨λz=>e (QN (h1.symm.trans (z▸hs))),h2⟩
 rcases hk with hk|zq
 ·refine wpAny_storeName_local (s:=P.s) ((F.kof nm).trans hk) ns (λh' ns' hs'=>?_) (by refine rwr F.kind ?_;rfl);refine ar (P.good.asides (as:=[F.menv.locals]) (h':=h') (λb o hb e=>(hs'.2 b (by simpa using hb)).trans e) (λb hb=>by simp at hb;subst hb;exact er.locFree)) ?_;intro G' L';refine k ⟨⟨P.R.ρ,h',P.R.fz⟩,P.m,_,G'⟩ rfl (L'.mono λb hb=>by simp at hb;subst hb;exact hl) ⟨⟨_,ns',λnm' q' y h1 h2=>?_⟩,er.lown,λnm' ca hca=>?_,er.fr.same λL o es ep e d=>?_⟩
  ·rcases other h1 h2 with zq|zq
   ·refine ar zq ?_;clear zq;rintro rfl rfl;exact .inl ⟨hk,v,by exact if_pos rfl,rv.later L'⟩
   ·refine ar zq ?_;clear zq;intro hne h2;refine(hold nm' q' y h1 h2).el ?_ ?_
    ·intro k u hu ru;exact .inl ⟨k,u,by simp[hne,hu],ru.later L'⟩
    ·intro k ca oc u hca hoc hd ru;exact .inr ⟨k,ca,oc,u,hca,(hs'.2 ca (F.cell nm' ca hca).2.2).trans hoc,hd,ru.later L'⟩
  ·refine b0 (er.cells nm' ca hca) ?_;intro a zq1 b;refine aE zq1 ?_;clear zq1;intro ob v e d;exact⟨a,⟨ob,v,(hs'.2 ca (F.cell nm' ca hca).2.2).trans e,d⟩,b⟩
  ·by_cases z:L=F.menv.locals
   ·subst z;refine ei ns' ?_;clear ns';rintro o2 es2 ep2 q1 q2 -;exact⟨o2,es2,ep2,q1,q2⟩
   ·exact⟨o,es,ep,(hs'.2 L z).trans e,d⟩
 ·refine ar zq ?_;clear zq;intro hk ha;refine IJ (F.cdom nm (.inl hk)) ?_;intro ca hca;refine b0 (er.cells nm ca hca) ?_;intro c1 zq1 c3;refine aE zq1 ?_;clear zq1;intro ob v0 ho hd;refine b0 (F.cell nm ca hca) ?_;intro c4 c5 c6;refine wpAny_storeName_cell (s:=P.s) F.kind ((F.kof nm).trans hk) hca ⟨ob,ho,hd⟩ λh' hcell hs'=>?_;have Fr:cD C P.R ca:=⟨c1,c3 ha,c5,c4,P.good.fzNot ho (λvs k z=>QO (hd.symm.trans z)),ob,ho,λxs n z=>(QO (hd.symm.trans z)),λvs q t z=>(QO (hd.symm.trans z))⟩
  refine ar (P.good.asides (as:=[ca]) (h':=h') (λb o hb e=>(hs'.2 b (by simpa using hb)).trans e) (λb hb=>by simp at hb;subst hb;exact Fr)) ?_;intro G' L';refine k ⟨⟨P.R.ρ,h',P.R.fz⟩,P.m,_,G'⟩ rfl (L'.mono λb hb=>by simp at hb;subst hb;exact hcx hk _ hca) ⟨⟨m,ns.sameBut hs' c6.symm,λnm' q' y h1 h2=>?_⟩,er.lown,λnm' cb hcb=>?_,er.fr.same λL o es ep e d=>?_⟩
  ·rcases other h1 h2 with zq|zq
   ·refine ar zq ?_;clear zq;rintro rfl rfl;refine ah hcell ?_;clear hcell;intro oc e1 e2;exact .inr ⟨.inl hk,ca,oc,v,hca,e1,e2,rv.later L'⟩
   ·refine ar zq ?_;clear zq;intro hne h2;refine(hold nm' q' y h1 h2).el ?_ ?_
    ·intro k u hu ru;exact .inl ⟨k,u,hu,ru.later L'⟩
    ·intro k cb oc u hcb hoc hdc ru;exact .inr ⟨k,cb,oc,u,hcb,(hs'.2 cb λz=>hne (F.inj _ _ ca (z▸hcb) hca)).trans hoc,hdc,ru.later L'⟩
  ·refine b0 (er.cells nm' cb hcb) ?_;intro a zq1 b;refine aE zq1 ?_;clear zq1;intro ob' v' e d;refine⟨a,?_,b⟩;by_cases z:cb=ca
   ·subst z;refine ah hcell ?_;clear hcell;intro oc e1 e2;exact⟨oc,_,e1,e2⟩
   ·exact⟨ob',v',(hs'.2 cb z).trans e,d⟩
  ·exact⟨o,es,ep,(hs'.2 L λz=>by rw[z,ho]at e;cases e;exact QO (hd.symm.trans d)).trans e,d⟩
end
def oM(C:Cx)(Γ:cW)(cc:Bool)(e:Qz)(t:Tg):Prop:=bh e=false∧(∀x en k,t x en k=true->∃en',k en'=true)∧∀(F:dO C Γ)(P:Pt C)(en:En)(X:List Ri)(x:KV)(v:QD)(k:En->Bool)(Q:Unit->QE->Prop)(E:QD->QE->Prop),F.menv.locals∈X->(cc=true->∀nm ca,F.menv.cells.lookup nm=some ca->ca∈X)->
 ER F P.R en->t x en k=true->VR C P.R x v->(∀(P':Pt C)(en':En),P'.m=P.m->ay X P.R P'.R->ER F P'.R en'->k en'=true->Q () P'.s)->QQ (R6 C.prog C.w) F.A (assign e F.menv v) Q E P.s
def qu(C:Cx)(Γ:cW)(cc:Bool)(es:List Qz)(t:Tg):Prop:=(∀menv,(assignEach es menv).length=es.length∧(assignEach es menv).findIdx? (·.1)=none)∧(∀x en k,t x en k=true->(∃en',k en'=true)∧len x=es.length∧((∃y z,x=.cons y z)∨x=.nil))∧
 ∀(F:dO C Γ)(P:Pt C)(en:En)(X:List Ri)(x:KV)(vs:List QD)(k:En->Bool)(Q:Unit->QE->Prop)(E:QD->QE->Prop),F.menv.locals∈X->(cc=true->∀nm ca,F.menv.cells.lookup nm=some ca->ca∈X)->
 ER F P.R en->t x en k=true->bG C P.R x vs->(∀(P':Pt C)(en':En),P'.m=P.m->ay X P.R P'.R->ER F P'.R en'->k en'=true->Q () P'.s)->QQ (R6 C.prog C.w) F.A (assignInOrder ((assignEach es F.menv).map (·.2)) vs) Q E P.s
variable{cc:Bool}
theorem dN{e:Qz}(h:bh e=false)(r:List Qz)(menv:Rd):assignEach (e::r) menv=(false,assign e menv)::assignEach r menv:=by cases e<;>first|rfl|exact p7 h
theorem lb{nm:Str}{q:Pa}{p:Pos}(hs:Γ.slot nm=some q)(hk:Γ.kd nm=some .local∨Γ.kd nm=some .cell∧C.asg nm=true∧cc=true):oM C Γ cc (.Name nm p) (t1 q):=
 ⟨rfl,λx en k h=>⟨_,h⟩,λF P en X x v k Q E hl hcx er h rv K=>wpAny_assign_Name (jO er hl hs (hk.imp id λz=>⟨z.1,z.2.1⟩) (λz ca=>hk.elim (λw=>by rw[w]at z;contradiction) λw=>hcx w.2.2 nm ca) rv λP' e L r=>K P' _ e L r h)⟩
theorem wg{a r:Tg}{x:KV}{en:En}{k:En->Bool}(h:tC a r x en k=true){G:Prop}(k0:∀y z,(a y en (λe=>r z e k)=true)->x=.cons y z->G):G:=by
 cases x with
 |cons y z=>exact k0 y z h rfl
 |_=>exact aO h
theorem xR:qu C Γ cc [] tN:=⟨λzz=>⟨rfl,rfl⟩,(λx en k h=>by cases x<;>first|exact⟨⟨en,h⟩,rfl,.inr rfl⟩|exact aO h),λF P en X x vs k Q E hl hcx er h rv K=>by
 cases x with
 |nil=>cases rv;exact QC (K P en rfl (.refl _ _) er h)
 |_=>exact aO h⟩
theorem uU{e:Qz}{es:List Qz}{t r:Tg}(ht:oM C Γ cc e t)(hr:qu C Γ cc es r):qu C Γ cc (e::es) (tC t r):=
 ⟨λmenv=>by rw[dN ht.1];refine ar (hr.1 menv) ?_;intro a b;exact⟨congrArg QR a,by simp[List.findIdx?_cons,b]⟩,
 λx en k h=>by
  refine wg h ?_;clear h;rintro y z h rfl;refine az (ht.2.1 _ _ _ h) ?_;clear h;intro en' h;refine b0 (hr.2.1 _ _ _ h) ?_;rintro a b -;exact⟨a,congrArg QR b,.inl ⟨y,z,rfl⟩⟩,
 λF P en X x vs k Q E hl hcx er h rv K=>by
  refine wg h ?_;clear h;rintro y z h rfl;refine aH rv ?_;clear rv;rintro v us rfl r1 r2;have r2:bG C P.R z us:=r2;rw[dN ht.1];show QQ _ _ (do holding us (assign e F.menv v);assignInOrder ((assignEach es F.menv).map (·.2)) us) _ _ _;exact Qy (Rn (ht.2.2 F P en X y v _ _ E hl hcx er h r1 λP1 en1 e1 L1 er1 h1=>hr.2.2 F P1 en1 X z us k Q E hl hcx er1 h1 (r2.later L1) λP2 en2 e2 L2=>K P2 en2 (e2.trans e1) (L1.trans L2)))⟩
theorem zT(lo:Γ.loud=true){es:List Qz}{t:Tg}{n:Nat}{p:Pos}(ht:qu C Γ cc es t):oM C Γ cc (.Tuple es n p) t:=
 ⟨rfl,λx en k h=>(ht.2.1 x en k h).1,λF P en X x v k Q E hl hcx er h rv K=>by
  refine b0 (ht.2.1 x en k h) ?_;rintro -hlen hx;have:∃a vs,v=.ref a∧P.R.h.IsTuple a vs.toArray∧bG C P.R x vs:=by
   rcases hx with zq|rfl
   ·refine fI zq ?_;clear zq;rintro y z rfl;refine dM rv ?_;clear rv;rintro a u us rfl ht h1 h2 -;exact⟨a,u::us,rfl,ht,u,us,rfl,h1,h2⟩
   ·refine ah rv ?_;clear rv;rintro a rfl ht;exact⟨a,[],rfl,ht,rfl⟩
  refine aH this ?_;clear this;rintro a vs rfl hT rs;refine ar (ht.1 F.menv) ?_;intro s1 s2;refine wpAny_assign_Tuple (s:=P.s) (F.handled lo) hT (by refine rwr s1 (rwl hlen (rwr rs.len_eq ?_));rfl) s2 λh' hx=>?_;have kp:bv P.R.h h':=λb o e=>hx b o (U2 (Tb e)) e;exact ht.2.2 F (P.more kp P.t) en X x vs k Q E hl hcx (er.later (.keeps _ kp)) h (rs.later (.keeps [] kp)) λP' en' e L=>K P' en' e ((ay.keeps X kp).trans L)⟩
end
section
variable{C:Cx}{Γ:cW}{R R':Wd}
noncomputable def qV(nm:Str)(v:QD)(hs:Int)(tk:Tok)(es:List Rw):List Rw:=match es.findIdx? (·.key.isStr nm)with
 |some i=>es.modify i λe=>{e with val:=v}
 |none=>es++[⟨hs,.str nm tk,v⟩]
theorem lf{nm:Str}{v:QD}{hs:Int}{tk:Tok}{e:Rw}{r:List Rw}:qV nm v hs tk (e::r)=if e.key.isStr nm then{e with val:=v}::r else e::qV nm v hs tk r:=by
 unfold qV;refine rwr (List.findIdx?_cons) ?_;cases e.key.isStr nm with
 |true=>rfl
 |false=>
  show(match(r.findIdx? _).map (·+1)with|some i=>_|none=>_)=_;cases r.findIdx? (·.key.isStr nm)<;>rfl
theorem u5{k:QD}{nm nm':Str}(h:k.isStr nm=true)(n:nm'≠nm):k.isStr nm'=false:=by
 cases k with
 |str s t=>
  have h:(s==nm)=true:=h;show(s==nm')=false;refine rwr (beq_iff_eq.mp h) ?_;exact beq_false_of_ne n.symm
 |_=>rfl
theorem gK{nm:Str}{e:Rw}{r:List Rw}:ip (e::r) nm=if e.key.isStr nm then some e.val else ip r nm:=by
 unfold ip;refine rwr (List.find?_cons) ?_;cases e.key.isStr nm<;>rfl
theorem kA{nm nm':Str}{v:QD}{hs:Int}{tk:Tok}:∀es:List Rw,ip (qV nm v hs tk es) nm'=if nm'=nm then some v else ip es nm'
 |[]=>by
  show ip [⟨hs,.str nm tk,v⟩] nm'=_;refine rwr gK ?_;by_cases n:nm'=nm
  ·subst n;exact rwr (if_pos rfl) (rwr (if_pos (show(Value.str nm' tk).isStr nm'=true from beq_self_eq_true nm')) rfl)
  ·rw[if_neg n,if_neg (by rw[show(Value.str nm tk).isStr nm'=false from beq_false_of_ne (Ne.symm n)];exact R8)]
 |e::r=>by
  refine rwr lf (rwr gK ?_);have ih:=kA (nm:=nm) (nm':=nm') (v:=v) (hs:=hs) (tk:=tk) r;cases h:e.key.isStr nm with
  |true=>
   refine rwr (if_pos rfl) (rwr gK ?_);by_cases n:nm'=nm
   ·subst n;exact rwr (if_pos h) (rwr (if_pos rfl) rfl)
   ·rw[if_neg (by rw[u5 h n];exact R8),if_neg n,if_neg (by rw[u5 h n];exact R8)]
  |false=>
   refine rwr (if_neg R8) (rwr gK (rwr ih ?_));by_cases n:nm'=nm
   ·subst n;rw[if_neg (by rw[h];exact R8),if_pos rfl,if_pos rfl]
   ·exact rwr (if_neg n) (rwr (if_neg n) rfl)
theorem pO{nm:Str}{v:QD}{hs:Int}{tk:Tok}:∀es:List Rw,(qV nm v hs tk es).length=if(ip es nm).isSome then es.length else es.length+1
 |[]=>rfl
 |e::r=>by
  refine rwr lf (rwr gK ?_);have ih:=pO (nm:=nm) (v:=v) (hs:=hs) (tk:=tk) r;cases h:e.key.isStr nm with
  |true=>rfl
  |false=>
   rw[if_neg R8,if_neg R8,S4,ih]
   split<;>rfl
theorem nK{nm:Str}{v:QD}{hs:Int}{tk:Tok}:∀es:List Rw,es.any (·.refKey)=false->(qV nm v hs tk es).any (·.refKey)=false
 |[],_=>rfl
 |e::r,h=>by
  refine rwr lf ?_;rw[List.any_cons,SM]at h
  split
  ·refine rwr List.any_cons (rwr h.2 ?_);show(e.refKey||false)=false;refine rwr h.1 ?_;rfl
  ·refine rwr List.any_cons (rwr h.1 (rwr (nK r h.2) ?_));rfl
theorem vU.put{P₀:Pg}(O:C.Ok P₀){nm:Str}{sl:Pa}{x:KV}{v:QD}{hs:Int}{tk:Tok}{fs:T KV}{es:List Rw}(hn:C.sl nm=some sl)(rv:VR C R x v)(f:vU C R fs es):vU C R (tp sl x fs) (qV nm v hs tk es):=by
 refine b0 f ?_;clear f;intro f1 f2 zq;refine b8 zq ?_;clear zq;intro ns n1 n2 n3;refine⟨nK es f1,λnm'=>?_,?_⟩
 ·rw[kA];by_cases n:nm'=nm
  ·subst n;rw[if_pos rfl,hn,Sj,aS];exact rv
  ·rw[if_neg n];have h:=f2 nm';cases e:C.sl nm' with
   |none=>rw[e]at h;exact h
   |some q=>rw[e,Sj]at h;rw[Sj,am _ λz:q=sl=>n (O.slI _ _ _ e (z▸hn))];exact h
 ·rw[pO];cases e:ip es nm with
  |some w=>exact⟨ns,n1,n2,λnm' h'=>by rw[kA];split;rfl;exact n3 nm' h'⟩
  |none=>
   refine⟨nm::ns,RN.mpr ⟨λh=>(by have:=n3 nm h;rw[e]at this;exact aO this),n1⟩,congrArg QR n2,λnm' h'=>?_⟩;rw[kA]
   split
   ·rfl
   ·rename_i z;exact n3 nm' ((QH.mp h').resolve_left z)
theorem tQ:∀{ns l:List Str},ns.Nodup->(∀x∈ns,x∈l)->ns.length≤l.length
 |[],_,_,_=>Ry _
 |a::r,l,h,k=>by
  refine JF h ?_;intro h1 h2;have ha:=k a QF;have:=tQ (l:=l.erase a) h2 λx hx=>(List.mem_erase_of_ne λz:x=a=>h1 (z▸hx)).mpr (k x (QI _ hx));rw[List.length_erase_of_mem ha]at this;have:=List.length_pos_of_mem ha;refine rwr S4 ?_;lia
theorem vU.size{P₀:Pg}(O:C.Ok P₀){fs:T KV}{es:List Rw}(f:vU C R fs es):es.length≤500:=by
 refine b0 f ?_;clear f;intro f1 f2 zq;refine b8 zq ?_;clear zq;intro ns n1 n2 n3;refine ah O.slots ?_;intro l hl hm;refine rwl n2 ?_;refine QG (tQ n1 λx hx=>?_) hl;have h:=f2 x;refine IJ (n3 x hx) ?_;intro w hw;rw[hw]at h;cases e:C.sl x with
 |none=>rw[e]at h;exact h.elim
 |some q=>exact hm x q e
section
variable{P₀:Pg}(O:C.Ok P₀){P:Pt C}{A:RR}{E:QD->QE->Prop}
include O
set_option tactic.hygienic true in
theorem td{nm:Str}{sl:Pa}{w x:KV}{ov v:QD}{k:K0}{Q:Unit->QE->Prop}(hn:C.sl nm=some sl)(ro:VR C P.R w ov)(rv:VR C P.R x v)(h:uZ sl k P.m w x=true)
  (q:∀P':Pt C,(∀X,ay X P.R P'.R)->k P'.m=true->Q () P'.s):QQ (R6 C.prog C.w) A (setAttr ov nm v) Q E P.s:=by
 refine bu h ro ?_;clear h ro;rintro q' p hp h-rfl;refine aI h hp ?_;clear h;rintro o-r h;refine lg h r ?_;clear h r;rintro c fs a es n' hc I hf h rfl;refine iU (O.ga c a hc) ?_;intro ga gat sa over hd;have X:C.K.In P.R.h:=O.K.keeps P.good.keep;have htk:takerIn C.K a nm=some none:=by
  rcases O.attr c a nm sl hc hn with h1|zq
  ·unfold takerIn;rw[h1];rfl
  ·refine aE zq ?_;clear zq;intro j tk h1 _;unfold takerIn;rw[h1];have:takesIn C.K (.int j tk)=some false:=by
    unfold takesIn;rw[show specialIn C.K (.int j tk) "__set__"=some none from by show fastLookup "int" "__set__"=some none;decide+kernel,
     show specialIn C.K (.int j tk) "__delete__"=some none from by show fastLookup "int" "__delete__"=some none;decide+kernel];rfl
   simp only[Sj,this,Option.map_some];rfl
 obtain⟨hob,_,_,hdict⟩:=id I;refine set_plain (s:=P.s) X I sa (osa_open (s:={P.s with toks:=_}) X I over htk λb=>?_);refine ah (any_some hd) ?_;intro cd hcd hd';refine Qy (QC (Qy (Qy (wpAny_loadPart hob (Qy ((looks_clsIn X hcd).here ?_))))));rw[hd'];refine QC (a:=some p.snd) (Qy (QC (Qy ?_)));unfold nsSet;refine Qy (Qy (wpAny_askSetting (QC (Qy (wpAny_mkText (Qy (wpAny_loadPart hdict ?_)))))));dsimp only;rw[aRefKeyMayBeTheName_at];have hnr:es.toArray.any (·.refKey)=false:=by rw[List.any_toArray];exact hf.1
 rw[hnr,Bool.and_false,if_neg R8];refine wpAny_updatePart hdict ?_;generalize(if nm.cps.isEmpty=true then 0 else reduceHash ((R6 C.prog C.w).w.params.strHash nm.cps))=kh;have hput:∃n2,Obj.putName nm kh (.str nm (P.t+1)) v (dictOf es n')=dictOf (qV nm v kh (P.t+1) es) n2:=by
  refine rwr Obj.putName_eq ?_;unfold Obj.putNameByArray dictOf qV;dsimp only;refine rwr (show es.toArray.findIdx? (λx=>x.key.isStr nm)=es.findIdx? (λx=>x.key.isStr nm) by simp) ?_;cases es.findIdx? (λx=>x.key.isStr nm)with
  |some i=>exact⟨n',by simp⟩
  |none=>exact⟨n'+1,by simp⟩
 refine az hput ?_;clear hput;intro n2 he2;have hg:=RT (Obj.putName nm kh (.str nm (P.t+1)) v) hdict (by refine rwr he2 ?_;rfl);rw[he2]at hg;have hf2:=hf.put O (hs:=kh) (tk:=P.t+1) hn rv;have hl2:=hf2.size O;have hne:p.fst≠p.snd:=λz=>by rw[z,hdict]at hob;cases hob
 have hsb:RM p.snd P.R.h (P.R.h.update p.snd (Obj.putName nm kh (.str nm (P.t+1)) v)):=RE ..;refine Qy (wpAny_lookBehind hg (pastItsLine_dict (by refine rwr Te (rwr TQ ?_);exact QG hl2 (QU 500 16776717))) ?_);refine cZ (P.set_ (o':=.inst c (tp sl x fs)) hp (.inr rfl) hsb ⟨_,hg⟩ (λL=>⟨a,hc,(hsb.2 _ hne).trans hob,_,n2,hg,hf2.1,λnm=>(hf2.2.1 nm).imp λZ Z h=>h.later L,hf2.2.2⟩) (P.t+1+1)) ?_;intro P' e1 e2 e3 L;exact QC (e3▸q P' L (by refine rwr e2 ?_;exact h))
end
end
section
variable{C:Cx}{Γ:cW}{R R':Wd}
theorem lc{prog:Tj}{w:U5}{A:RR}{E:QD->QE->Prop}{s:QE}{l:Ri}{o:Obj}{items:Array QD}{ne:Nat}{k:Int}{j:Nat}{tk:Tok}{v:QD}{Q:Unit->QE->Prop}(ho:s.heap.get? l=some o)(hc:o.cls=.type "list")(hd:o.data=.seq items ne)
  (hk:k=j) (hfit:k<2^63) (hj:j<items.size) (hQ:Q () {s with heap:=s.heap.update l (Uh (·.setIfInBounds j v))}):QQ (R6 prog w) A (setItem (.ref l) (.int k tk) v) Q E s:=by
 have hl:s.heap.IsList l items:=⟨o,ho,hc,ne,hd⟩
 unfold setItem;refine Rn (Qy (U4 hl.typeIs (by decide) ?_));refine Qy (Rx (name:=Rg "__setitem__") hl.typeIs F.slot_list_setitem
  (Rk F.slot_list_setitem hl.typeIs F.entry_list_setitem ?_ (F.args_list_setitem_3 _ _ _)))
 show QQ _ _ (TX (.int k tk)>>=_) _ _ s;refine Qy (wpAny_listSubscript_int (fitsIndex_of (by simp_all+arith) hfit) ?_);clear hfit;subst hk;show QQ _ _ ((seqItemAt l j>>=λr=>pure (r.map (j,·)))>>=_) _ _ s;refine Qy (Qy (wpAny_seqItemAt ho hd (QC ?_)));refine rwr (RF hj) ?_;show QQ _ _ (setSeqItemAt l j v>>=_) _ _ s;refine Qy (wpAny_setSeqItemAt ho hd ?_);first
  |exact Qy (QC (QC ⟨.none,rfl,QC hQ⟩))
  |exact QC ⟨.none,rfl,QC hQ⟩
section
variable{P:Pt C}{A:RR}{E:QD->QE->Prop}
theorem ox{q':Pa}{p:iu}{n m:Nat}{es:KD}{i x:KV}{iv v:QD}{Q:Unit->QE->Prop}(hA:A.units+6<cLine)(hp:P.R.ρ q'=some p)(r:oV C P.R n es p)(ri:VR C P.R i iv)(rv:VR C P.R x v)(h1:pk i=true)(hm:m=if(dl es i).isSome then n else n+1)(hl:m≤100000)
  (K:∀P':Pt C,(∀X,ay X P.R P'.R)->P'.m=bD P.m q' (.dict m (dset es i x))->Q () P'.s):QQ (R6 C.prog C.w) A (dictSet p.fst iv v) Q E P.s:=by
 refine ar r ?_;intro he zq;refine iT zq ?_;intro ob es' ep hob hx hdat hE hnd hn hl0 hep;refine yj (s:=P.s) h1 ri rfl hob hdat hE hA hnd rv hx (by refine rwl hn ?_;exact QG hl0 cL) λh' t' o' es2 ep2 g1 g2 g3 hsb hE2 hnd2 hep2 hln=>?_;have hm:m=(pairs (dset es i x)).length:=by refine rwr hln (rwl hn ?_);exact hm
 refine cZ (P.set_ (o':=.dict m (dset es i x)) hp (.inl rfl) hsb ⟨_,g1⟩ (λL=>⟨he,o',es2,ep2,g1,g2,g3,hE2.later L,hnd2,hm,hl,(hep2 (hep.trans hn)).trans hm.symm⟩) t') ?_;intro P' e1 e2 e3 L;exact e3▸K P' L e2
theorem Aa{w i x:KV}{ov iv v:QD}{k:K0}{Q:Unit->QE->Prop}(hA:A.units+100<cLine)(ro:VR C P.R w ov)(ri:VR C P.R i iv)(rv:VR C P.R x v)(h:Jk k P.m w i x=true)
  (q:∀P':Pt C,(∀X,ay X P.R P'.R)->k P'.m=true->Q () P'.s):QQ (R6 C.prog C.w) A (setItem ov iv v) Q E P.s:=by
 refine bu h ro ?_;clear h ro;rintro q' p hp h-rfl;refine aI h hp ?_;clear h;rintro o-r h;cases o with
 |list n xs=>
  refine ar r ?_;clear r;intro he zq;refine d9 zq ?_;clear zq;rintro vs c hob rs rfl hl;refine cu h ri ?_;clear h;rintro j t h rfl -;refine dI h ?_;clear h;intro h1 h;have h1:=QA h1;refine lc (s:=P.s) hob rfl rfl rfl (by lia) h1 ?_;have hg:=RT (Uh (·.setIfInBounds j v)) hob rfl;refine cZ (P.set_ (o':=.list vs.size (app (take j xs) (.cons x (drop (QR j) xs)))) hp (.inl rfl) (RE ..) ⟨_,hg⟩ (λL=>⟨he,_,_,hg,by
   rw[Array.toList_setIfInBounds,List.set_eq_take_append_cons_drop,if_pos (by rw[QL];exact h1)];exact((rs.take_ j).append (.cons_ rv (rs.drop_ _))).later L,by simp,hl⟩) P.t) ?_;intro P' e1 e2 e3 L
  exact e3▸q P' L (by refine rwr e2 ?_;exact h)
 |dict n es=>
  have hT:P.s.TypeIs (.ref p.fst) "dict":=by refine ar r ?_;rintro -zq;refine ei zq ?_;rintro ob es' ep hob hx -;exact⟨_,hob,hx.1⟩
  refine dI h ?_;clear h;intro h1 h;refine dI h ?_;clear h;intro h2 h;have h2:=QA h2;unfold setItem;refine Rn (Qy (U4 hT (by decide) ?_));refine Qy (Rx (name:=Rg "__setitem__") hT F.slot_dict_setitem
   (Rk F.slot_dict_setitem hT F.entry_dict_setitem ?_ (F.args_dict_setitem_3 _ _ _)))
  show QQ _ _ (Builtin.Dict.notOrdered "__setitem__" ⟨[.ref p.fst,iv,v],[]⟩>>=_) _ _ _;refine Qy (wpAny_notOrdered_dict hT ?_);show QQ _ _ (dictSet p.fst iv v>>=_) _ _ _;refine Qy (ox (m:=if(dl es i).isSome then n else n+1) (by show A.units+1+_<_;lia) hp r ri rv h1 rfl (by split<;>lia) λP' L e=>?_);refine QC ⟨_,rfl,QC (q P' L ?_)⟩;refine rwr e ?_;unfold cz at h;cases hd:dl es i with
  |none=>rw[hd]at h;exact h
  |some y=>rw[hd]at h;exact h
 |_=>exact aO h
end
theorem qg{menv:Rd}{b:Ri}(h:b∈C.vol):b∈ci C menv:=QI _ (Ro _ h)
theorem ay.frame{menv:Rd}(L:ay C.vol R R'):ay (ci C menv) R R':=L.mono λzz h=>qg h
theorem eK{menv:Rd}:menv.locals∈ci C menv:=QF
theorem dH{menv:Rd}{nm:Str}{ca:Ri}(h:menv.cells.lookup nm=some ca):ca∈ci C menv:=QI _ (RW _ (List.mem_filterMap.mpr ⟨_,QV h,h⟩))
section
variable{F:dO C Γ}{fr:Fr}{k k':En->K0}{Q:Su->QE->Prop}
theorem KF.later{X:List Ri}(K:KF F R fr k Q)(L:ay C.vol R R'):KF F R' fr k Q:=λP fl M=>K P fl (L.frame.trans M)
theorem KF.next{P:Pt C}{en:En}(K:KF F R fr k Q)(L:ay (ci C F.menv) R P.R)(er:ER F P.R en)(h:k en P.m=true):Q .next P.s:=K P .next L ⟨en,er,h⟩
end
noncomputable def gx:Qz->Bool
 |.ListComp _ _ _ _=>true
 |.SetComp _ _ _ _=>true
 |.DictComp _ _ _ _ _=>true
 |_=>false
noncomputable def gJ:Qz->Bool
 |.Tuple _ _ _=>true
 |.List _ _=>true
 |_=>false
theorem jh{e:Qz}(hn:gx e=false)(tg:Option Qz)(l:Nat)(env:Rd):swapsWith e tg l env=pure false:=by
 cases e<;>first|rfl|exact p7 hn
theorem ki{t e:Qz}(hn:gx e=false)(l:Nat)(env:Rd):swapsWithSole [t] e l env=pure false:=by
 unfold swapsWithSole;first|exact jh hn _ _ _|(split<;>first|exact jh hn _ _ _|rfl)
theorem fE{t e:Qz}(hn:(gJ t&&gJ e)=false)(env:Rd):swappedStores [t] e env=pure none:=by
 cases t<;>first|rfl|(cases e<;>first|rfl|exact p7 hn)
theorem dO.noInter(F:dO C Γ):interactive F.menv=false:=by unfold interactive;refine rwr F.kind ?_;rfl
section
variable{e te:Qz}{x y z:X}{pos p:Pos}{a b o:Y}{d:Cn}
theorem zH(hx:bx C Γ e x)(hn:gx e=false):d5 C Γ (.Expr e pos) (aY x):=λF P fr k en Q E R h K=>
 wpAny_Expr_any (hx F P en _ _ E R h λP1 u v L r h1=>K.next L.frame (R.later L) h1) F.noInter (jh hn _ _ _)
theorem kr{t:Tg}(hx:bx C Γ e x)(ht:oM C Γ true te t)(hn:gx e=false)(hn2:(gJ te&&gJ e)=false):d5 C Γ (.Assign [te] e pos) (av t x):=λF P fr k en Q E R h K=>by
 refine T7 (hx F P en _ _ E R h λP1 u v L r h1=>?_) (ki hn _ _) (fE hn2 _);rw[dN ht.1];refine ht.2.2 F P1 en (ci C F.menv) u v _ _ E eK (λZ Z Z=>dH) (R.later L) h1 r λP2 en2 e2 L2 R2 h2=>?_;exact K.next (L.frame.trans L2) R2 (by refine rwr e2 ?_;exact h2)
theorem CU(hx:bx C Γ e x):d5 C Γ (.Return (some e) pos) (bT x):=λF P fr k en Q E R h K=>
 wpAny_Return_some (hx F P en _ _ E R h λP1 u v L r h1=>K P1 (.ret v) L.frame ⟨u,r,h1⟩)
theorem zp:d5 C Γ (.Return none pos) F1:=λF P fr k en Q E R h K=>wpAny_Return_none (K P (.ret .none) (.refl _ _) ⟨.none,.none_,h⟩)
theorem D6:d5 C Γ (.Break pos) mU:=λF P fr k en Q E R h K=>wpAny_Break (K P .brk (.refl _ _) ⟨en,R,h⟩)
theorem zO:d5 C Γ (.Continue pos) iB:=λF P fr k en Q E R h K=>wpAny_Continue (K P .cont (.refl _ _) ⟨en,R,h⟩)
theorem zt:d5 C Γ (.Pass pos) aa:=λF P fr k en Q E R h K=>wpAny_Pass (K.next (.refl _ _) R h)
theorem A5:lM C Γ [] aa:=λF P fr k en Q E R h K=>wpAny_execs_nil (K.next (.refl _ _) R h)
theorem pJ{s:U6}{ss:List U6}(ha:d5 C Γ s a)(hb:lM C Γ ss b):lM C Γ (s::ss) (ad a b):=λF P fr k en Q E R h K=>by
 refine Ul (ha F P fr _ en _ E R h λP1 fl L f=>?_);cases fl with
 |next=>refine ah f ?_;clear f;intro en1 R1 h1;exact hb F P1 fr k en1 Q E R1 h1 λP2 fl2 L2=>K P2 fl2 (L.trans L2)
 |_=>exact K P1 _ L f
theorem zx{body orelse:List U6}(hd:fx C Γ e d)(ha:lM C Γ body a)(hb:lM C Γ orelse b):d5 C Γ (.If e body orelse pos) (bw d a b):=λF P fr k en Q E R h K=>by
 refine wpAny_If (hd F P en _ _ _ E R h λP1 c L h1=>?_);cases c with
 |true=>exact ha F P1 fr k en Q E (R.later L) h1 (KF.later (X:=[]) K L)
 |false=>exact hb F P1 fr k en Q E (R.later L) h1 (KF.later (X:=[]) K L)
theorem Dc{m:Option Qz}(hd:fx C Γ e d):d5 C Γ (.Assert e m pos) (yK d):=λF P fr k en Q E R h K=>by
 refine wpAny_Assert_holds (hd F P en _ _ _ E R h λP1 c L h1=>?_);cases c with
 |true=>exact⟨rfl,K.next L.frame (R.later L) h1⟩
 |false=>exact aO h1
theorem D9{nm:Str}{q:Pa}{op:UP}{g:KT->KV->KT}(hs:Γ.slot nm=some q)(hk:Γ.kd nm=some .local∨Γ.kd nm=some .cell∧C.asg nm=true)(hc:(nm==("__classdict__":Str))=false)(hg:oY C op g)(hx:bx C Γ e x):d5 C Γ (.AugAssign (.Name nm p) op e pos) (uF q g x):=λF P fr k en Q E R h K=>by
 refine aC h ?_;clear h;intro u h hu;refine sG R hs hu hc ?_;intro v rv ld;refine cu h rv ?_;clear h;rintro n t h rfl rfl;refine wpAny_AugAssign_Name (ld (t:=P.t) (hx F P en _ _ E R h λP1 w z L r h1=>?_));refine hg P1 F.A _ _ E (.nat n) _ w z (.inl ⟨n,rfl⟩) .nat_ r h1 λP2 y v2 L2 r2 h2=>?_;exact jO (R.later (L.trans L2)) eK hs hk (λZ Z=>dH) r2 λP3 e3 L3 R3=>K.next ((L.trans L2).frame.trans L3) R3 (by refine rwr e3 ?_;exact h2)
section
variable{P₀:Pg}(O:C.Ok P₀)
include O
theorem qR{nm:Str}{sl:Pa}{o:Qz}(hn:C.sl nm=some sl)(hc:gx e=false)(hx:bx C Γ e x)(ho:bx C Γ o y):d5 C Γ (.Assign [.Attribute o nm p] e pos) (cg sl y x):=λF P fr k en Q E R h K=>by
 refine T7 (hx F P en _ _ E R h λP1 u v L r h1=>?_) (ki hc _ _) (fE rfl _);rw[dN rfl];show QQ _ _ (assign (.Attribute o nm p) F.menv v) _ _ _;rw[arm_assign_Attribute];refine Qy (Rn (ho F P1 en _ _ E (R.later L) h1 λP2 w ov L2 ro h2=>?_));refine Qy (Sl (Qy (Rn (td O hn ro (r.later L2) h2 λP3 L3 h3=>wpAny_release ?_))));exact K.next ((L.trans L2).trans (L3 _)).frame (R.later ((L.trans L2).trans (L3 _))) h3
omit O in
theorem wx{o i:Qz}{z:X}(hc:gx e=false)(hi:gm i=false)(hx:bx C Γ e x)(ho:bx C Γ o y)(hz:bx C Γ i z):d5 C Γ (.Assign [.Subscript o i p] e pos) (bV y z x):=λF P fr k en Q E R h K=>by
 refine T7 (hx F P en _ _ E R h λP1 u v L r h1=>?_) (ki hc _ _) (fE rfl _);rw[dN rfl];show QQ _ _ (assign (.Subscript o i p) F.menv v) _ _ _;rw[arm_assign_Subscript];refine Qy (Rn (ho F P1 en _ _ E (R.later L) h1 λP2 w ov L2 ro h2=>Qy (Rn (hz F P2 en _ _ E (R.later (L.trans L2)) h2 λP3 j iv L3 ri h3=>?_))));refine Qy (Sl (Qy (Rn (Aa F.units (ro.later L3) ri ((r.later L2).later L3) h3 λP4 L4 h4=>wpAny_release ?_))));have M:=((L.trans L2).trans L3).trans (L4 _);exact K.next M.frame (R.later M) h4
theorem ww{nm:Str}{sl:Pa}{o:Qz}{op:UP}{rd:KT->KT}{g:KT->KV->KT}{gg:KT->KS->Nat->T KV->Bool}(hn:C.sl nm=some sl)(hrd:∀k s v,rd k s v=eF (λq=>b9 q s (kC (gg k s))) v)(hgg:∀k s c fs,gg k s c fs=true->(∃x,tg sl fs=some x∧k s x=true)∨tg sl fs=none∧∃x,P₀.df nm=some (c,x)∧k s x=true)
  (hg:oY C op g) (hx:bx C Γ e x) (ho:bx C Γ o y):d5 C Γ (.AugAssign (.Attribute o nm p) op e pos) (md rd sl g y x):=λF P fr k en Q E R h K=>by
 refine wpAny_AugAssign_AttributeAny (ho F P en _ _ E R h λP1 w ov L ro h1=>?_);rw[hrd]at h1;have go:∀(u:KV)(v:QD)(t:Nat),VR C P1.R u v->GT (λzz=>x F.cl en (g (λs r=>uZ sl (k en) s w r) u) P1.m) (λzz=>x F.cl en (g (λs r=>uZ sl (k en) s w r) u) P1.m) u=true->QQ (R6 C.prog C.w) F.A (eval e F.menv) (λv₃ s₃=>QQ (R6 C.prog C.w) F.A (inplaceOp op v v₃) (λnew s₄=>QQ (R6 C.prog C.w) F.A (setAttr ov nm new) (λzz=>Q .next) E s₄) E s₃) E (P1.tick t).s:=λu v t rv h=>by
  have hu:((∃a,u=.nat a)∨∃a,u=.tok a)∧x F.cl en (g (λs r=>uZ sl (k en) s w r) u) P1.m=true:=by
   cases u with
   |nat a=>exact⟨.inl ⟨a,rfl⟩,h⟩
   |tok a=>exact⟨.inr ⟨a,rfl⟩,h⟩
   |_=>exact aO h
  refine ar hu ?_;intro hu h;refine hx F (P1.tick t) en _ _ E (R.later L) h λP2 w2 z L2 r2 h2=>hg P2 F.A _ _ E u v w2 z hu (rv.later L2) r2 h2 λP3 y v3 L3 r3 h3=>?_;exact td O hn ((ro.later L2).later L3) r3 h3 λP4 L4 h4=>K.next (((L.trans L2).trans L3).trans (L4 _)).frame (R.later (((L.trans L2).trans L3).trans (L4 _))) h4
 exact uw O hn ro h1 λc fs hc=>(hgg _ _ _ _ hc).imp (λ⟨y,a,b⟩=>⟨y,a,λv t rv=>go y v t rv b⟩) λ⟨a,y,b,d⟩=>⟨a,y,b,λv t rv=>go y v t rv d⟩
end
end
end
section
section
variable{prog:Tj}{w:U5}{A:RR}{E:QD->QE->Prop}{s:QE}
theorem yi{d:Ri}{o:Obj}{es:Array Rw}{ep:Nat}{Q:QD->QE->Prop}(hs:(d==sysModules)=false)(ho:s.heap.get? d=some o)(hx:o.ExactDict)(hd:o.data=.dict es ep)
  (q:Q (.ref s.heap.objs.size) {s with heap:=s.heap.push {cls:=.type "dict_keyiterator",data:=.fields #[.ref d,.int 0 0,.int es.size 0,.int ep 0]}}):QQ (R6 prog w) A (pyIter (.ref d)) Q E s:=by
 have hT:s.TypeIs (.ref d) "dict":=⟨o,ho,hx.1⟩
 refine wpAny_pyIter_slot hT F.slot_dict_iter (Rk F.slot_dict_iter hT F.entry_dict_iter ?_ (F.args_dict_iter_1 _));unfold Builtin.«dict.__iter__»;refine Qy ?_;unfold Builtin.Dict.dictSlotNone;refine Qy (wpAny_notOrdered_dict hT ?_);show QQ _ _ (pure (Ta d)) _ _ s;refine QC ?_;show QQ _ _ (Tz d>>=_) _ _ s;unfold Tz;rw[if_neg (by rw[hs];exact R8)];refine Qy (QC (Qy (SW ho hd (Qy (Sp ho hd ?_)))));exact Qy (SV (QC ⟨_,rfl,"dict_keyiterator",_,⟨_,QS _ rfl,rfl⟩,Um.lookup,q⟩))
theorem uS{α:Type}{M:Model}{A:RR}{Q:α->QE->Prop}{E:QD->QE->Prop}{s:QE}{h0:SG}{it:Ri}(hh:A.handled=none)(x:Tt it h0 s.heap)
  (k:∀h' e,Tt it h0 h'->(∃o,h'.get? e=some o∧o.cls=.type "StopIteration")->E (.ref e) {s with heap:=h'}):QQ M A (newExc (.type "StopIteration") []>>=raiseNew) Q E s:=by
 refine Qy ?_;unfold newExc newTuple;refine Qy (SV ?_ (by size_fits));refine Qy (m:=firstArgMember _ _) (wpAny_of_eq (a:=SY) rfl ?_);refine SV ?_ (by size_fits);unfold raiseNew;refine Qy (wpAny_handled ?_);refine rwr hh ?_;refine Qy (QC (wpAny_throw ?_));exact k _ _ ((x.push _).push _) ⟨_,QS _ rfl,rfl⟩
theorem Ap{α:Type}{M:Model}{A:RR}{Q:α->QE->Prop}{E:QD->QE->Prop}{s:QE}{x:α}(h:∀b,Q b s):QQ M A (pure x) Q E s:=QC (h x)
theorem gY{it:Ri}{Q:String->QE->Prop}(hT:s.TypeIs (.ref it) "dict_keyiterator")(h:Q "dict_keyiterator" s):QQ (R6 prog w) A (typeNameOfWhole (.ref it)) Q E s:=by
 first|exact wpAny_typeNameOfWhole_keyiter hT h|exact wpAny_typeNameOf_keyiter hT h
theorem vD{it d:Ri}{i ep:Nat}{o:Obj}{es:Array Rw}{Q:Option QD->QE->Prop}(hit:s.heap.IsKeyIter it d i es.size ep)(ho:s.heap.get? d=some o)(hd:o.data=.dict es ep)(hh:A.handled=none)
  (hsome:∀e,es[i]?=some e->∀h',h'.IsKeyIter it d (i+1) es.size ep->RM it s.heap h'->Q (some e.key) {s with heap:=h'})
  (hnone:es[i]?=none->∀h',Tt it s.heap h'->Q none {s with heap:=h'}):QQ (R6 prog w) A (pyNext (.ref it)) Q E s:=by
 refine b8 (id hit) ?_;intro oi hoi hc hf;have hT:=hit.typeIs;unfold pyNext;refine Qy (wpAny_attempt (Rx (name:=Rg "__next__") hT Um
  (Rk Um hT F.entry_dict_keyiterator_next ?_ (F.args_dict_keyiterator_next_1 _))))
 refine Qy (QC (Qy (Qy (Qy (gY hT (QC (Qy (wpAny_fieldsOf hoi hf ?_))))))));have hown:Tu "dict_keyiterator"=false:=by decide
 refine rwr hown (rwr (if_neg R8) ?_);show QQ _ _ (if(Ta d==SY)=true then _ else _) _ _ s;refine rwr (if_neg (show¬((Ta d==SY)=true)from R8)) ?_;refine Qy (QC (Qy (SW ho hd ?_)));refine rwr (if_neg (by simp)) ?_;refine Qy (QC (Qy (Sp ho hd ?_)));refine rwr (if_neg (by simp)) ?_;refine QC ?_;cases he:es[i]? with
 |some e=>
  dsimp only;refine rwr (show(if(i:Int)<0 then none else es[Int.toNat i]?)=_ from he) ?_;refine Qy (Qy (gY hT (QC (Qy (wpAny_isOneOf_keyiter hT ?_)))));show QQ _ _ (setField (.ref it) 1 (rawInt ((i:Int)+1))>>=_) _ _ s;refine Qy (UB hoi hf (by simp) ?_);have hit':(s.heap.update it (Obj.mapFields (·.setIfInBounds 1 (rawInt ((i:Int)+1))))).IsKeyIter it d (i+1) es.size ep:=
   ⟨_,RT _ hoi (Obj.isFreed_of_fields (Ur hf _)),(Obj.cls_mapFields ..).trans hc,by rw[Ur hf];rfl⟩
  refine Qy (Rn (Qy (wpAny_isOneOf_keyiter (s:={s with heap:=s.heap.update it (Obj.mapFields (·.setIfInBounds 1 (rawInt ((i:Int)+1))))}) hit'.typeIs ?_)));show QQ _ _ (pure e.key) _ _ _;exact QC (QC ⟨_,rfl,QC (hsome e he _ hit' (RE ..))⟩)
 |none=>
  dsimp only;refine rwr (show(if(i:Int)<0 then none else es[Int.toNat i]?)=_ from he) ?_;refine Qy (Qy (gY hT (QC ?_)));show QQ _ _ (setField (.ref it) 0 .none>>=_) _ _ s;refine Qy (UB hoi hf (by simp) ?_);show QQ _ _ (newExc (.type "StopIteration") []>>=_) _ _ _;refine uS hh (RE ..).extBut λh' e x t=>?_;refine Qy (Uk (T:="StopIteration") (b:=true) t isSubtype_stop ?_);exact QC (hnone he _ x)
end
section
variable{prog:Tj}{w:U5}{A:RR}{E:QD->QE->Prop}{s:QE}
theorem kE{it t:Ri}{i:Nat}{items:Array QD}{x:QD}{Q:QD->QE->Prop}(hit:s.heap.IsTupleIter it t i)(ht:s.heap.IsTuple t items)(hx:items[i]?=some x)
  (hQ:∀h',h'.IsTupleIter it t (i+1)->RM it s.heap h'->Q x {s with heap:=h'}):QQ (R6 prog w) A (SQ (.ref it)) Q E s:=by
 refine b8 (id hit) ?_;intro o ho hc hd;refine b8 ht ?_;clear ht;rintro ol yf-zq;refine az zq ?_;clear zq;intro nl hdl;unfold SQ;refine Qy (Rx (name:=Rg "__next__") hit.typeIs Tn
  (Rk Tn hit.typeIs F.entry_tuple_iterator_next ?_ (F.args_tuple_iterator_next_1 _)))
 show QQ _ _ (field (.ref it) 0>>=_) _ _ s;refine Qy (Ss ho hd (x:=.ref t) rfl ?_);show QQ _ _ (if(Ta t==SY)=true then _ else _) _ _ s;refine rwr (if_neg (show¬((Ta t==SY)=true)from R8)) ?_;show QQ _ _ (field (.ref it) 1>>=_) _ _ s;refine Qy (Ss ho hd (x:=.int i 0) rfl ?_);show QQ _ _ (seqItems? (.ref t)>>=_) _ _ s;refine Qy (UC yf hdl ?_);dsimp only;refine rwr (show items[Int.toNat i]?=_ from hx) ?_;refine Qy (UB ho hd (by constructor) (QC ⟨x,rfl,QC (hQ _ ?_ (RE ..))⟩));exact⟨_,RT _ ho (Obj.isFreed_of_fields (Ur hd _)),(Obj.cls_mapFields ..).trans hc,by
  rw[Ur hd];rfl⟩
theorem gG{it t:Ri}{i:Nat}{items:Array QD}{Q:QD->QE->Prop}(hh:A.handled=none)(hit:s.heap.IsTupleIter it t i)(ht:s.heap.IsTuple t items)(hx:items[i]?=none)
  (hE:∀h' e,Tt it s.heap h'->(∃o,h'.get? e=some o∧o.cls=.type "StopIteration")->E (.ref e) {s with heap:=h'}):QQ (R6 prog w) A (SQ (.ref it)) Q E s:=by
 refine b8 (id hit) ?_;intro o ho hc hd;refine b8 ht ?_;clear ht;rintro ol yf-zq;refine az zq ?_;clear zq;intro nl hdl;unfold SQ;refine Qy (Rx (name:=Rg "__next__") hit.typeIs Tn
  (Rk Tn hit.typeIs F.entry_tuple_iterator_next ?_ (F.args_tuple_iterator_next_1 _)))
 show QQ _ _ (field (.ref it) 0>>=_) _ _ s;refine Qy (Ss ho hd (x:=.ref t) rfl ?_);show QQ _ _ (if(Ta t==SY)=true then _ else _) _ _ s;refine rwr (if_neg (show¬((Ta t==SY)=true)from R8)) ?_;show QQ _ _ (field (.ref it) 1>>=_) _ _ s;refine Qy (Ss ho hd (x:=.int i 0) rfl ?_);show QQ _ _ (seqItems? (.ref t)>>=_) _ _ s;refine Qy (UC yf hdl ?_);dsimp only;refine rwr (show items[Int.toNat i]?=_ from hx) ?_;refine Qy (SU (Qy (UB ho hd (by exact RB _ _) ?_)));show QQ _ _ (newExc (.type "StopIteration") []>>=_) _ _ _;exact uS hh (RE ..).extBut hE
theorem uf(it t:Ri)(hne:t≠it)(items:Array QD)(hh:A.handled=none):
  Draws prog w A it [it,t] items.size (λi v=>items[i]?=some v) (λi h=>h.IsTupleIter it t i∧h.IsTuple t items)where
 live:=λZ Z st=>let⟨o,ho,_⟩:=st.1;⟨o,ho⟩
 frame:=λZ Z Z st hk=>⟨let⟨o,ho,r⟩:=st.1;⟨o,hk it (by constructor) o ho,r⟩,let⟨o,ho,r⟩:=st.2;⟨o,hk t (by exact .tail _ (.head _)) o ho,r⟩⟩
 item:=λi s Q E hi st hQ=>by
  refine kE st.1 st.2 (x:=items[i]) (by simp[hi]) λh' hit' hs'=>?_;exact hQ _ h' s.toks (by simp[hi]) ⟨hit',let⟨o,ho,r⟩:=st.2;⟨o,(hs'.2 t hne).trans ho,r⟩⟩ hs'
 done:=λs Q E st hE=>gG hh st.1 st.2 (by simp) hE
theorem om{e it t:Ri}{i:Nat}{k:Int}{items:Array QD}{old:QD}{Q:Option QD->QE->Prop}(hh:A.handled=none)
  (he:IsEnum s.heap e it k old) (hit:s.heap.IsTupleIter it t i) (ht:s.heap.IsTuple t items) (hx:items[i]?=none)
  (hQ:∀h',Tt it s.heap h'->Q none {s with heap:=h'}):QQ (R6 prog w) A (pyNext (.ref e)) Q E s:=by
 have hT:s.TypeIs (.ref e) "enumerate":=⟨_,he,rfl⟩
 unfold pyNext;refine Qy (wpAny_attempt (Rx (name:=Rg "__next__") hT U8
  (Rk U8 hT F.entry_enumerate_next ?_ (F.args_enumerate_next_1 _))))
 show QQ _ _ (field (.ref e) 2>>=_) _ _ _;refine Qy (Ss he rfl (x:=.ref it) rfl ?_);refine Qy (gG hh hit ht hx λh' x he' hx'=>?_);refine ah hx' ?_;clear hx';intro o ho hc;refine Qy (Uk (T:="StopIteration") (b:=true) ⟨o,ho,hc⟩ isSubtype_stop ?_);exact QC (hQ _ he')
theorem pt{e it l:Ri}{i:Nat}{k:Int}{items:Array QD}{old:QD}{Q:Option QD->QE->Prop}(hh:A.handled=none)
  (he:IsEnum s.heap e it k old) (hit:s.heap.IsListIter it l i) (hl:s.heap.IsList l items) (hx:items[i]?=none)
  (hQ:∀h',Tt it s.heap h'->Q none {s with heap:=h'}):QQ (R6 prog w) A (pyNext (.ref e)) Q E s:=by
 have hT:s.TypeIs (.ref e) "enumerate":=⟨_,he,rfl⟩
 unfold pyNext;refine Qy (wpAny_attempt (Rx (name:=Rg "__next__") hT U8
  (Rk U8 hT F.entry_enumerate_next ?_ (F.args_enumerate_next_1 _))))
 show QQ _ _ (field (.ref e) 2>>=_) _ _ _;refine Qy (Ss he rfl (x:=.ref it) rfl ?_);refine Qy (wpAny_nextOf_list_end hh hit hl hx λh' x he' hx'=>?_);refine ah hx' ?_;clear hx';intro o ho hc;refine Qy (Uk (T:="StopIteration") (b:=true) ⟨o,ho,hc⟩ isSubtype_stop ?_);exact QC (hQ _ he')
end
section
variable{prog:Tj}{w:U5}{A:RR}{E:QD->QE->Prop}{s:QE}
theorem tZ{it d:Ri}{i ep:Nat}{od:Obj}{es:Array Rw}{ok ov:QD}{Q:Option QD->QE->Prop}(hit:Us s.heap it d i es.size ep ok ov)(hod:s.heap.get? d=some od)(hdd:od.data=.dict es ep)(hh:A.handled=none)
  (hsome:∀e,es[i]?=some e->∀h',IsItemIterOut h' it d (i+1) es.size ep e.key e.val s.heap.objs.size->h'.get? s.heap.objs.size=some {cls:=.type "tuple",data:=.seq #[e.key,e.val]}->
   (∀b o,b≠it->s.heap.get? b=some o->h'.get? b=some o)->Q (some (.ref s.heap.objs.size)) {s with heap:=h'})
  (hnone:es[i]?=none->∀h',Tt it s.heap h'->Q none {s with heap:=h'}):QQ (R6 prog w) A (pyNext (.ref it)) Q E s:=by
 obtain⟨hp,g,dr,tk,os⟩:=s;have hT:Uw ⟨hp,g,dr,tk,os⟩ (.ref it) "dict_itemiterator":=⟨_,hit,rfl⟩
 unfold pyNext;refine Qy (wpAny_attempt (Rx (name:=Rg "__next__") hT Ug
  (Rk Ug hT F.entry_dict_itemiterator_next ?_ (F.args_dict_itemiterator_next_1 _))))
 refine Qy (QC ?_);refine Qy ?_;refine Qy ?_;first|refine Qy (Ue hT (QC ?_))|refine Qy (UA hT (QC ?_))
 refine Qy (wpAny_fieldsOf hit rfl ?_);have hown:Tu "dict_itemiterator"=true:=by decide
 refine rwr hown (rwr (if_pos rfl) ?_);show QQ _ _ (if(Ta d==SY)=true then _ else _) _ _ _;refine rwr (if_neg (show¬((Ta d==SY)=true)from R8)) ?_;refine Qy (QC ?_);refine Qy (SW hod hdd ?_);refine rwr (if_neg (by simp)) ?_;refine Qy (QC ?_);refine Qy (Sp hod hdd ?_);refine rwr (if_neg (by simp)) ?_;refine QC ?_;cases he:es[i]? with
 |none=>
  dsimp only;refine rwr (show(if(i:Int)<0 then none else es[Int.toNat i]?)=_ from he) ?_;refine Qy ?_;first|refine Qy (Ue hT (QC ?_))|refine Qy (UA hT (QC ?_))
  show QQ _ _ (setField (.ref it) 2 .none>>=_) _ _ _;refine Qy (UB hit rfl (by simp) ?_);show QQ _ _ (newExc (.type "StopIteration") []>>=_) _ _ _;refine uS hh (RE ..).extBut λh' e x t=>?_;refine Qy (Uk (T:="StopIteration") (b:=true) t isSubtype_stop ?_);exact QC (hnone he _ x)
 |some e=>
  dsimp only;refine rwr (show(if(i:Int)<0 then none else es[Int.toNat i]?)=_ from he) ?_;refine Qy ?_;first|refine Qy (Ue hT (QC ?_))|refine Qy (UA hT (QC ?_))
  refine Qy (UW hT ?_);show QQ _ _ (setField (.ref it) 3 (rawInt ((i:Int)+1))>>=_) _ _ ⟨hp,g,dr,tk,os⟩;refine Qy (TY hit (by simp) λh₁ he₁ hs₁=>?_);replace hs₁:RM it hp h₁:=hs₁;replace he₁:Us h₁ it d (i+1) es.size ep ok ov:=by
   have e:((i+1:Nat):Int)=(i:Int)+1:=by rfl
   unfold Us;refine rwr e ?_;simpa[rawInt]using he₁
  have hT₁:Uw ⟨h₁,g,dr,tk,os⟩ (.ref it) "dict_itemiterator":=⟨_,he₁,rfl⟩
  refine Qy (Rn ?_);refine Qy (UW hT₁ ?_);refine Qy (UW hT₁ ?_);show QQ _ _ (Uv (.ref it) 6 e.key e.val) _ _ ⟨h₁,g,dr,tk,os⟩;unfold Uv;refine Qy (wpAny_newTuple ?_);have he₂:Us (h₁.push {cls:=.type "tuple",data:=.seq #[e.key,e.val]}) it d (i+1) es.size ep ok ov:=RH _ he₁;generalize hh₂:h₁.push {cls:=.type "tuple",data:=.seq #[e.key,e.val]}=h₂ at he₂;have hz₁:h₁.objs.size=hp.objs.size:=hs₁.1;have hil:it<hp.objs.size:=Tb hit;have ht₂:h₂.get? hp.objs.size=some {cls:=.type "tuple",data:=.seq #[e.key,e.val]}:=by refine rwl hh₂ (rwl hz₁ ?_);exact QS _ rfl
  have hk₂:∀b o,b≠it->hp.get? b=some o->h₂.get? b=some o:=λb o hb e=>by refine rwl hh₂ ?_;exact RH _ (hs₁.extBut b o hb e)
  show QQ _ _ (Uq (.ref it)>>=_) _ _ ⟨h₂,g,dr,tk,os⟩;refine rwr hz₁ ?_;clear hh₂ he₁ hs₁ hT₁ hz₁ h₁;refine Qy ?_;unfold Uq;refine Qy (Ss he₂ rfl (x:=.none) rfl (QC ?_));simp only[if_true];refine Qy (Ss he₂ rfl (x:=ok) rfl ?_);refine Qy (Ss he₂ rfl (x:=ov) rfl ?_);refine Qy (TY he₂ (by exact RB _ _) λh₃ he₃ hs₃=>?_);replace hs₃:RM it h₂ h₃:=hs₃;replace he₃:Us h₃ it d (i+1) es.size ep e.key ov:=he₃;refine Qy (TY he₃ (by constructor) λh₄ he₄ hs₄=>?_);replace hs₄:RM it h₃ h₄:=hs₄;replace he₄:Us h₄ it d (i+1) es.size ep e.key e.val:=he₄;refine Qy (TY he₄ (by simp) λh₅ he₅ hs₅=>?_);replace hs₅:RM it h₄ h₅:=hs₅;replace he₅:IsItemIterOut h₅ it d (i+1) es.size ep e.key e.val hp.objs.size:=he₅;refine Qy (TY he₅ (by simp) λh₆ he₆ hs₆=>?_);replace hs₆:RM it h₅ h₆:=hs₆;replace he₆:IsItemIterOut h₆ it d (i+1) es.size ep e.key e.val hp.objs.size:=he₆;refine Qy (wpAny_letGo (QC (QC ⟨_,rfl,QC (hsome e he h₆ he₆ ?_ ?_)⟩)))
  ·exact hs₆.extBut _ _ (SR hil) (hs₅.extBut _ _ (SR hil) (hs₄.extBut _ _ (SR hil) (hs₃.extBut _ _ (SR hil) ht₂)))
  ·exact λb o hb e=>hs₆.extBut b o hb (hs₅.extBut b o hb (hs₄.extBut b o hb (hs₃.extBut b o hb (hk₂ b o hb e))))
theorem vk{d:Ri}{o:Obj}{es:Array Rw}{ep:Nat}{Q:QD->QE->Prop}(hs:(d==sysModules)=false)(ho:s.heap.get? d=some o)(hx:o.ExactDict)(hd:o.data=.dict es ep)
  (q:Q (.ref s.heap.objs.size) {s with heap:=s.heap.push {cls:=.type "dict_items",data:=.fields #[.ref d]}}):QQ (R6 prog w) A (call (.builtin "dict.items") [.ref d]) Q E s:=by
 have hT:s.TypeIs (.ref d) "dict":=⟨o,ho,hx.1⟩
 refine Sq (Rk F.slot_dict_items hT F.entry_dict_items (Q:=Q) ?_ (F.args_dict_items_1 _)) (λZ Z h=>h) λZ Z h=>h;unfold Builtin.«dict.items»;refine Qy ?_;unfold Builtin.Dict.noArgs;refine Qy (wpAny_notOrdered_dict hT ?_);show QQ _ _ (pure d) _ _ s;refine QC ?_;show QQ _ _ (Tz d>>=_) _ _ s;unfold Tz;rw[if_neg (by rw[hs];exact R8)];refine Qy (QC ?_);exact Qy (SV (QC ⟨_,rfl,q⟩))
theorem vj{v d:Ri}{o:Obj}{es:Array Rw}{ep:Nat}{Q:QD->QE->Prop}(hv:s.heap.IsItemsView v d)(ho:s.heap.get? d=some o)(hd:o.data=.dict es ep)
  (hQ:Q (.ref s.heap.objs.size) {s with heap:=s.heap.push {cls:=.type "dict_itemiterator",data:=.fields #[.none,.bool false,.ref d,.int 0 0,.int es.size 0,.int ep 0,.none,.none]}}):QQ (R6 prog w) A (pyIter (.ref v)) Q E s:=by
 refine b8 (id hv) ?_;intro ov hov hcv hdv;refine wpAny_pyIter_slot hv.typeIs F.slot_dict_items_iter (Rk F.slot_dict_items_iter hv.typeIs F.entry_dict_items_iter ?_ (F.args_dict_items_iter_1 _));unfold Builtin.«dict_items.__iter__»;refine Qy (QC ?_);refine Qy ?_;unfold Builtin.Dict_items.dictOf;refine Qy (Ss hov hdv (x:=.ref d) rfl (QC ?_));refine Qy ?_;unfold Builtin.Dict_items.newIterator;refine Qy (SW ho hd ?_);refine Qy (Sp ho hd ?_);have hown:Tu "dict_itemiterator"=true:=by decide
 refine rwr hown ?_;show QQ _ _ (newFields "dict_itemiterator" (T3++[.ref d,rawInt 0,rawInt es.size,rawInt ep]++[.none,.none])) _ _ _;refine SV (QC ⟨_,rfl,"dict_itemiterator",_,⟨_,QS _ rfl,rfl⟩,Ug.lookup,?_⟩)
  (by simp only[sizeOk,T3,Te,QT,S4,List.length_nil,TQ];exact QU _ _)
 simpa[rawInt,T3]using hQ
end
open AutoSeq1 (wpAny_loadPart')
set_option tactic.hygienic true in
theorem iL(l:Ri)(items:Array QD)(n:Nat)(dd:Option Ri)(sl:Array (Option QD)):
  Meets (Builtin.«enumerate.__new__» ⟨[.type "enumerate",.ref l],[]⟩) (λzz R s=>s.heap.get? l=some {cls:=.type "tuple",dict:=dd,data:=.seq items n,slots:=sl}∧
   R (.ok (.ret (.ref (s.heap.push {cls:=.type "tuple_iterator",data:=.fields #[.ref l,.int 0 0]}).objs.size)))
    {s with heap:=(s.heap.push {cls:=.type "tuple_iterator",data:=.fields #[.ref l,.int 0 0]}).push {cls:=.type "enumerate",data:=.fields #[.none,.bool false,.ref s.heap.objs.size,rawInt 0,.none,.none]}}):=
 .of_wp λprog w A R s h=>by
  obtain⟨hp,g,d,tk,os⟩:=s;refine ar h ?_;clear h;intro hl h;have hsub:=sub_enumerate;have hL:Heap.IsTuple (Shared.heap ⟨hp,g,d,tk,os⟩) l items:=⟨_,hl,rfl,n,rfl⟩
  wp_walk using wpAny_loadPart' hl
  refine wpAny_stack_any λst=>Ap λb=>?_;cases b
  ·wp_walk using wpAny_loadPart' hl,wpAny_pyIter_tuple hL
   exact⟨_,rfl,h⟩
  ·wp_walk using wpAny_loadPart' hl,wpAny_pyIter_tuple hL
   exact⟨_,rfl,h⟩
section
variable{prog:Tj}{w:U5}{A:RR}{E:QD->QE->Prop}{s:QE}
theorem lG{l:Ri}{items:Array QD}{Q:QD->QE->Prop}(hT:s.heap.IsTuple l items)
  (h:∀h',IsEnum h' (s.heap.objs.size+1) s.heap.objs.size 0 .none->h'.IsTupleIter s.heap.objs.size l 0->
   (∀b o,s.heap.get? b=some o->h'.get? b=some o)->Q (.ref (s.heap.objs.size+1)) {s with heap:=h'}):
  QQ (R6 prog w) A (call (.type "enumerate") [.ref l]) Q E s:=by
 refine b8 hT ?_;clear hT;intro zq0 hl hc zq;rcases zq0 with⟨c,dd,dt,sl⟩;refine az zq ?_;clear zq;intro n hd;dsimp only at hc hd;subst hc;subst hd;refine callType_new F.called_enumerate (by decide) (F.typeCall_enumerate_1 _) (F.newCall_enumerate_1 _) (λobj=>F.args_object_init_2 obj _) F.entry_enumerate_new
  (iL l items n dd sl) ⟨hl,?_⟩
 have hz:(s.heap.push {cls:=.type "tuple_iterator",data:=.fields #[.ref l,.int 0 0]}).objs.size=s.heap.objs.size+1:=TZ ..;show _∧_;refine rwr hz ?_;have he:IsEnum ((s.heap.push {cls:=.type "tuple_iterator",data:=.fields #[.ref l,.int 0 0]}).push
   {cls:=.type "enumerate",data:=.fields #[.none,.bool false,.ref s.heap.objs.size,rawInt 0,.none,.none]}) (s.heap.objs.size+1) s.heap.objs.size 0 .none:=by
  have:=QS (s.heap.push {cls:=.type "tuple_iterator",data:=.fields #[.ref l,.int 0 0]})
   (o:={cls:=.type "enumerate",data:=.fields #[.none,.bool false,.ref s.heap.objs.size,rawInt 0,.none,.none]}) rfl
  rw[hz]at this;exact this
 exact⟨⟨_,he,rfl⟩,h _ he ⟨_,RH _ (QS _ rfl),rfl,rfl⟩ λb o x=>RH _ (RH _ x)⟩
end
end
end
section
set_option backward.match.sparseCases true
open PySem PySem.W PyProof.Rows
variable{C:Cx}{Γ:cW}{R R':Wd}
noncomputable def qU:Nat->Int->List QD
 |0,_=>[]
 |n+1,a=>.int a 0::qU n (a+1)
inductive SeqAt(h:SG):Ri->List QD->Prop
 |tup {I tt:Ri} {i:Nat} {items:Array QD}:h.IsTupleIter I tt i->h.IsTuple tt items->SeqAt h I (items.toList.drop i)
 |str {I:Ri} {x:Str} {tk:Tok} {i:Nat}:h.IsStrIter I (strIterType x) x tk i->SeqAt h I ((x.cps.toList.drop i).map λc=>.str ⟨#[c]⟩ 0)
 |range {I:Ri} {a:Int} {n:Nat}:IsRangeIter h I a n 1->SeqAt h I (qU n a)
inductive dW(C:Cx)(R:Wd):KI->Ri->List Ri->Prop
 |seq {xs:KV} {vs:List QD} {I:Ri}:SeqAt R.h I vs->bG C R xs vs->dW C R (.seq xs) I [I]
 |list {q:Pa} {i:Nat} {p:iu} {I:Ri}:R.ρ q=some p->R.h.IsListIter I p.fst i->dW C R (.list q i) I [I]
 |dict {q:Pa} {i n:Nat} {p:iu} {I:Ri}:R.ρ q=some p->R.h.IsKeyIter I p.fst i n n->dW C R (.dict q i n) I [I]
 |items {q:Pa} {i n:Nat} {p:iu} {I:Ri} {ok ov:QD}:R.ρ q=some p->Us R.h I p.fst i n n ok ov->dW C R (.items q i n) I [I]
 |enumL {q:Pa} {i:Nat} {p:iu} {I J:Ri} {old:QD}:IsEnum R.h I J i old->R.ρ q=some p->R.h.IsListIter J p.fst i->I≠J->dW C R (.enum i (.list q i)) I [I,J]
 |enumT {i:Nat} {xs:KV} {I J tt:Ri} {items:Array QD} {old:QD}:IsEnum R.h I J i old->R.h.IsTupleIter J tt i->R.h.IsTuple tt items->bG C R xs (items.toList.drop i)->I≠J->dW C R (.enum i (.seq xs)) I [I,J]
def Of(h:SG)(I:Ri):Prop:=∃ty vs,(["enumerate","zip","dict_itemiterator","dict_reverseitemiterator","odict_iterator","itertools.zip_longest","itertools.pairwise"].contains ty)=false∧∃o,h.get? I=some o∧o.cls=.type ty∧o.data=.fields vs
theorem gF{X:List Ri}(L:ay X R R'){I:Ri}(f:cD C R I)(hx:I∉X){o:Obj}(e:R.h.get? I=some o)(hc:∀es ep,o.data≠.dict es ep):R'.h.get? I=some o:=by
 refine ah (L.ext _ _ e f.own hx) ?_;intro o' e' al;rcases al with rfl|zq
 ·exact e'
 ·refine ar zq ?_;clear zq;rintro⟨es,ep,d⟩ _;exact absurd d (hc es ep)
theorem fX{X:List Ri}(L:ay X R R'){I:Ri}(f:cD C R I)(hx:I∉X){ty:String}{vs:Array QD}(h:∃o,R.h.get? I=some o∧o.cls=.type ty∧o.data=.fields vs):∃o,R'.h.get? I=some o∧o.cls=.type ty∧o.data=.fields vs:=by
 refine b8 h ?_;clear h;intro o e c d;exact⟨o,gF L f hx e (by refine rwr d ?_;((repeat intro);contradiction)),c,d⟩
theorem SeqAt.later{X:List Ri}{I:Ri}{vs:List QD}(r:SeqAt R.h I vs)(L:ay X R R')(f:cD C R I)(hx:I∉X):SeqAt R'.h I vs:=by
 cases r with
 |tup hi ht=>exact .tup (fX L f hx hi) (L.tup _ _ ht)
 |str hi=>exact .str (fX L f hx hi)
 |range hi=>exact .range (gF L f hx hi (by(repeat intro);contradiction))
theorem dW.later{X:List Ri}{it:KI}{I:Ri}{as:List Ri}(r:dW C R it I as)(L:ay X R R')(f:∀b∈as,cD C R b)(hx:∀b∈as,b∉X):dW C R' it I as:=by
 have f1:=f I;have x1:=hx I;cases r with
 |seq r rs=>exact .seq (r.later L (f1 (by constructor)) (x1 (by constructor))) (rs.later L)
 |list hp hi=>exact .list (L.ref _ _ hp) (fX L (f1 (by constructor)) (x1 (by constructor)) hi)
 |dict hp hi=>exact .dict (L.ref _ _ hp) (fX L (f1 (by constructor)) (x1 (by constructor)) hi)
 |items hp hi=>exact .items (L.ref _ _ hp) (gF L (f1 (by constructor)) (x1 (by constructor)) hi (by(repeat intro);contradiction))
 |enumL he hp hi hne=>exact .enumL (gF L (f1 (by constructor)) (x1 (by constructor)) he (by(repeat intro);contradiction)) (L.ref _ _ hp) (fX L (f _ (by exact .tail _ (.head _))) (hx _ (by exact .tail _ (.head _))) hi) hne
 |enumT he hi ht hr hne=>exact .enumT (gF L (f1 (by constructor)) (x1 (by constructor)) he (by(repeat intro);contradiction)) (fX L (f _ (by exact .tail _ (.head _))) (hx _ (by exact .tail _ (.head _))) hi) (L.tup _ _ ht) (hr.later L) hne
theorem SeqAt.pln{h:SG}{I:Ri}{vs:List QD}(r:SeqAt h I vs):Of h I:=by
 cases r with
 |tup hi ht=>exact⟨_,_,by decide,hi⟩
 |@str x tk i hi=>exact⟨_,_,by unfold strIterType;split<;>decide,hi⟩
 |range hi=>exact⟨"range_iterator",_,by decide,_,hi,rfl,rfl⟩
theorem jV{α:Type}{l:List α}{i:Nat}{x:α}{xs:List α}(h:l.drop i=x::xs){G:Prop}(k:l[i]?=some x->l.drop (i+1)=xs->G):G:=k (by refine rwl (List.head?_drop) (rwr h ?_);rfl) (by refine rwl List.drop_drop (rwr h ?_);rfl)
theorem drop_nil{α:Type}{l:List α}{i:Nat}(h:l.drop i=[]):l[i]?=none:=by refine rwl (List.head?_drop) (rwr h ?_);rfl
def C3(v v':QD):Prop:=∀C R x,VR C R x v->VR C R x v'
theorem wB{v v':QD}(h1:∀a,v≠.ref a)(h2:v≠.none)(h3:∀b,v≠.bool b)(hi:∀z t,v=.int z t->∃t',v'=.int z t')(hs:∀s t,v=.str s t->∃t',v'=.str s t')(hh:handedIn v'=true):C3 v v':=λC R x h=>by
 have pl:∀x,pP v x->pP v' x:=λx h=>by
  cases x with
  |nat n=>exact h.elim λt e=>hi _ t e
  |neg n=>exact h.elim λt e=>hi _ t e
  |str c=>refine aE h ?_;intro s t e r;exact(hs s t e).elim λt' e=>⟨s,t',e,r⟩
  |none=>exact absurd h h2
  |_=>exact h.elim
 cases x with
 |nat n=>exact pl (.nat n) h
 |neg n=>exact pl (.neg n) h
 |str n=>exact pl (.str n) h
 |tok n=>exact match n,h with
  |0,h=>by refine fI h ?_;intro z t e;exact(hi z t e).elim λt' e=>⟨z,t',e⟩
  |1,_=>hh
  |n+2,h=>pl _ h
 |none=>exact absurd h h2
 |bool b=>exact absurd h (h3 b)
 |nil=>refine ah h ?_;rintro _ e -;exact absurd e (h1 _)
 |cons=>refine f9 h ?_;rintro _ _ _ e -;exact absurd e (h1 _)
 |ref=>refine ah h ?_;rintro _-e;exact absurd e (h1 _)
 |fl=>refine f9 h ?_;rintro _ _ _ e -;exact absurd e (h1 _)
theorem Ag{s:Str}{t t':Tok}:C3 (.str s t) (.str s t'):=wB (λZ e=>R7 e) (λe=>R7 e) (λZ e=>R7 e) (λZ Z e=>R7 e) (λs' Z e=>by cases e;exact⟨t',rfl⟩) rfl
theorem Ah{z:Int}{t t':Tok}:C3 (.int z t) (.int z t'):=wB (λZ e=>R7 e) (λe=>R7 e) (λZ e=>R7 e) (λz' Z e=>by cases e;exact⟨t',rfl⟩) (λZ Z e=>R7 e) rfl
section
variable{P:Pt C}{A:RR}{E:QD->QE->Prop}{I:Ri}
theorem dY{as:List Ri}{h':SG}(f:∀b∈as,cD C P.R b)(hs:∀b o,b∉as->P.R.h.get? b=some o->h'.get? b=some o)(t:Nat):∃P':Pt C,P'.m=P.m∧P'.R=⟨P.R.ρ,h',P.R.fz⟩∧P'.s=⟨h',C.g,C.d,t,C.os⟩∧ay as P.R P'.R:=by
 refine ar (P.good.asides hs f) ?_;intro G' L';exact⟨⟨⟨P.R.ρ,h',P.R.fz⟩,P.m,t,G'⟩,rfl,rfl,rfl,L'⟩
theorem gi{as:List Ri}{h':SG}(f:∀b∈as,cD C P.R b)(hs:∀b o,b∉as->P.R.h.get? b=some o->h'.get? b=some o)(t:Nat){G:Prop}(k:∀P':Pt C,P'.m=P.m->P'.R=⟨P.R.ρ,h',P.R.fz⟩->P'.s=⟨h',C.g,C.d,t,C.os⟩->ay as P.R P'.R->G):G:=cZ (dY f hs t) k
theorem cD.of{h':SG}(f:cD C P.R I){o:Obj}{vs:Array QD}(e:h'.get? I=some o)(d:o.data=.fields vs)(hv:∀q t,vs[1]?≠some (.str q t)):cD C ⟨P.R.ρ,h',P.R.fz⟩ I:=
 ⟨f.own,f.frz,f.vol,f.old,f.fz,o,e,(λxs n z=>QO (d.symm.trans z)),(λvs' q t z=>by rw[d]at z;cases z;exact hv q t)⟩
theorem Ab{vs:List QD}(r:SeqAt P.R.h I vs)(f:cD C P.R I)(hh:A.handled=none){Q:Option QD->QE->Prop}(hnone:vs=[]->∀P':Pt C,P'.m=P.m->ay [I] P.R P'.R->Q none P'.s)
  (hsome:∀v ws,vs=v::ws->∀(P':Pt C) v',P'.m=P.m->ay [I] P.R P'.R->C3 v v'->SeqAt P'.R.h I ws->cD C P'.R I->Q (some v') P'.s):QQ (R6 C.prog C.w) A (pyNext (.ref I)) Q E P.s:=by
 have fin:∀{h':SG}{t:Nat},vs=[]->Tt I P.R.h h'->Q none ⟨h',C.g,C.d,t,C.os⟩:=λ{h' t} e hs=>by
  refine cZ (dY (P:=P) (as:=[I]) (λb hb=>by simp at hb;subst hb;exact f) (λb o hb e=>hs b o (by simpa using hb) e) t) ?_;intro P' e1 e2 e3 L;exact e3▸hnone e P' e1 L
 have go:∀{h':SG}{t:Nat}{v v':QD}{ws:List QD},vs=v::ws->RM I P.R.h h'->C3 v v'->SeqAt h' I ws->(∃o vs,h'.get? I=some o∧o.data=.fields vs∧∀q t,vs[1]?≠some (.str q t))->Q (some v') ⟨h',C.g,C.d,t,C.os⟩:=λ{h' t v v' ws} e hs sm r ho=>by
  refine cZ (dY (P:=P) (as:=[I]) (h':=h') (λb hb=>by simp at hb;subst hb;exact f) (λb o hb e=>(hs.2 b (by simpa using hb)).trans e) t) ?_;intro P' e1 e2 e3 L;refine aH ho ?_;clear ho;intro o us a b c;exact e3▸hsome v ws e P' v' e1 L sm (by refine rwr e2 ?_;exact r) (by refine rwr e2 ?_;exact f.of a b c)
 cases r with
 |@tup tt i items hi ht=>
  cases hd:items.toList.drop i with
  |nil=>exact wpAny_pyNext_tuple_end (s:=P.s) hh hi ht (by have:=drop_nil hd;rwa[R9]at this) λh' hs=>fin hd hs
  |cons v ws=>
   refine jV hd ?_;intro d1 d2;rw[R9]at d1;refine wpAny_pyNext_tuple_item (s:=P.s) hi ht d1 λh' hi' hs=>go hd hs (λZ Z Z h=>h) (d2▸.tup hi' ?_) (let⟨o,a,b,c⟩:=hi';⟨o,_,a,c,by simp⟩);refine b8 ht ?_;clear ht;intro o e c r;refine⟨o,(hs.2 tt λz=>?_).trans e,c,r⟩;refine az r ?_;clear r;intro n r;refine b8 hi ?_;clear hi;rintro o2 e2-d2;cases(z▸e:P.R.h.get? I=some o).symm.trans e2;rw[d2]at r;exact QO r
 |@str x tk i hi=>
  cases hd:x.cps.toList.drop i with
  |nil=>
   have hx:=drop_nil hd;rw[R9]at hx;have e:(x.cps.toList.drop i).map (λc=>Value.str ⟨#[c]⟩ 0)=[]:=by refine rwr hd ?_;rfl
   unfold strIterType at hi
   split at hi
   ·exact wpAny_pyNext_ascii_end (s:=P.s) hh hi hx λh' hs=>fin e hs
   ·exact wpAny_pyNext_wide_end (s:=P.s) hh hi hx λh' hs=>fin e hs
  |cons c cs=>
   refine jV hd ?_;intro d1 d2;rw[R9]at d1;have e:(x.cps.toList.drop i).map (λc=>Value.str ⟨#[c]⟩ 0)=.str ⟨#[c]⟩ 0::(x.cps.toList.drop (i+1)).map (λc=>Value.str ⟨#[c]⟩ 0):=by refine rwr hd (rwr d2 ?_);rfl
   have gg:∀{h':SG}{t:Nat}{tk':Tok},h'.IsStrIter I (strIterType x) x tk (i+1)->RM I P.R.h h'->Q (some (.str ⟨#[c]⟩ tk')) ⟨h',C.g,C.d,t,C.os⟩:=λhi' hs=>go e hs Ag (.str hi') (let⟨o,a,b,c⟩:=hi';⟨o,_,a,c,by simp⟩);unfold strIterType at hi
   split at hi
   ·rename_i ha;exact wpAny_pyNext_ascii_item (s:=P.s) hi d1 λh' hi' hs=>gg (by unfold strIterType;refine rwr (if_pos ha) ?_;exact hi') hs
   ·rename_i ha;exact wpAny_pyNext_wide_item (s:=P.s) hi d1 λh' hi' hs=>gg (by unfold strIterType;refine rwr (if_neg ha) ?_;exact hi') hs
 |@range a n hi=>
  cases n with
  |zero=>exact wpAny_pyNext_range_end (s:=P.s) hh hi (by simp) λh' hs=>fin rfl hs
  |succ n=>
   refine wpAny_pyNext_range_item (s:=P.s) hi (by simp+arith) λh' hi' hs=>?_;have e1:((n+1:Nat):Int)-1=(n:Int):=by simp+arith
   rw[e1]at hi';exact go rfl hs Ah (.range hi') ⟨_,_,hi',rfl,by simp[rawInt]⟩
theorem nX(h:Of P.R.h I){target:Qz}{v:QD}{Q:Unit->QE->Prop}(q:Q () P.s):QQ (R6 C.prog C.w) A (letOwnedTupleGo target (.ref I) v) Q E P.s:=by
 refine aE h ?_;clear h;intro ty vs hty zq;refine b8 zq ?_;clear zq;intro zq0 ho hc hd;rcases zq0 with⟨cl,dc,dt,sl⟩
 dsimp only at hc hd;subst hc;subst hd;have core:∀a:Ri,QQ (R6 C.prog C.w) A (do
   let o ←load I
   match o.cls,o.data with
   |.type n,.fields vs=>
    if["enumerate","zip","dict_itemiterator","dict_reverseitemiterator","odict_iterator","itertools.zip_longest","itertools.pairwise"].contains n&&vs[0]?==some (rawInt a)then
     rule "for.unpacks-the-owned-tuple"
     updateField I 0 .none
   |_,_=>pure ()) Q E P.s:=by
  intro a;refine Qy (wpAny_load ho ?_);dsimp only;rw[if_neg (by rw[hty];simp)];exact QC q
 cases target with
 |Tuple|List=>cases v<;>first|exact QC q|exact core _
 |_=>exact QC q
end
end
section
open PySem PySem.W PyProof.Rows
section
variable{C:Cx}{Γ:cW}{R R':Wd}
noncomputable def hM:Qz->Bool
 |.Tuple _ _ _=>true
 |_=>false
noncomputable def jR:KI->Bool
 |.seq _=>true
 |.list _ _=>true
 |.dict _ _ _=>true
 |_=>false
theorem yU{t:Qz}{G:Prop}(h:hM t=true)(k:∀ts kk pos,t=.Tuple ts kk pos->G):G:=by
 cases t with
 |Tuple a b c=>exact k a b c rfl
 |_=>exact aO h
def qq(t:Qz)(it:KI):Prop:=jR it=true∨hM t=true
theorem nQ:∀{i:Nat}{es:KD},Ce i es=none->(pairs es).length≤i
 |0,.nil,_=>Ry _
 |0,.cons _ _ _,h=>by exact uD h
 |i+1,.nil,_=>Ry _
 |i+1,.cons _ _ r,h=>RV (nQ (es:=r) h)
theorem iK:∀{i:Nat}{es:KD}{a b:KV},Ce i es=some (.mk a b)->(pairs es)[i]?=some (a,b)
 |0,.nil,_,_,h=>by exact cO h
 |0,.cons _ _ _,_,_,h=>by cases h;rfl
 |i+1,.nil,_,_,h=>by exact cO h
 |i+1,.cons _ _ r,_,_,h=>iK (es:=r) h
theorem mB{n:Nat}{xs:KV}{z:Bool}{k:KV->Bool}(h:Ax n xs z k=true):ng n xs=none∧z=true∨∃x,ng n xs=some x∧k x=true:=by
 unfold Ax at h;cases e:ng n xs with
 |none=>rw[e]at h;exact .inl ⟨rfl,h⟩
 |some x=>rw[e]at h;exact .inr ⟨x,rfl,h⟩
theorem kD{n:Nat}{es:KD}{z:Bool}{k:KV->KV->Bool}(h:ph n es z k=true):Ce n es=none∧z=true∨∃a b,Ce n es=some (.mk a b)∧k a b=true:=by
 unfold ph at h;cases e:Ce n es with
 |none=>rw[e]at h;exact .inl ⟨rfl,h⟩
 |some p=>rw[e]at h;obtain⟨a,b⟩:=p;exact .inr ⟨a,b,rfl,h⟩
section
variable{P:Pt C}{A:RR}{E E2:QD->QE->Prop}{I:Ri}{as:List Ri}{target:Qz}
theorem qi{J a:Ri}{i:Nat}{tk:Tok}{w:QD}{x:KV}{h':SG}(f:∀b∈[I,J],cD C P.R b)(hlI:I<P.R.h.objs.size)(hne:I≠J){Qs:QD->QE->Prop}(htgt:hM target=true)
  (ho:IsEnumOut h' I J ((i:Int)+1) w a) (ha:a=P.R.h.objs.size) (ht:h'.get? a=some {cls:=.type "tuple",data:=.seq #[.int i tk,w]}) (k:∀b o,b≠I->b≠J->P.R.h.get? b=some o->h'.get? b=some o) {ty:String} {us:Array QD} (hJ:∃o,h'.get? J=some o∧o.cls=.type ty∧o.data=.fields us) (hus:∀q t,us[1]?≠some (.str q t)) (rw_:VR C P.R x w) {t:Nat}
  (q:∀(P':Pt C),P'.m=P.m->ay [I,J] P.R P'.R->VR C P'.R (.cons (.nat i) (.cons x .nil)) (.ref a)->(∃old,IsEnum P'.R.h I J (i+1:Nat) old)->(∃o,P'.R.h.get? J=some o∧o.cls=.type ty∧o.data=.fields us)->(∀b∈[I,J],cD C P'.R b)->Qs (.ref a) P'.s):
  QQ (R6 C.prog C.w) A (letOwnedTupleGo target (.ref I) (.ref a)) (λzz s₂=>Qs (.ref a) s₂) E2 ⟨h',C.g,C.d,t,C.os⟩:=by
 refine yU htgt ?_;rintro es kk pos rfl;refine wpAny_letOwnedTupleGo_enum (s:=⟨h',C.g,C.d,t,C.os⟩) ho λh2 he2 hs2=>?_;replace hs2:RM I h' h2:=hs2;refine cZ (dY (P:=P) (as:=[I,J]) (h':=h2) f (λb o hb e=>by
  simp only[QH,QW,or_false,not_or]at hb;exact(hs2.2 b hb.1).trans (k b o hb.1 hb.2 e)) t) ?_;intro P' e1 e2 e3 L
 have haI:a≠I:=by refine rwr ha ?_;exact SR hlI
 have hJ2:∃o,h2.get? J=some o∧o.cls=.type ty∧o.data=.fields us:=let⟨o,e,r⟩:=hJ;⟨o,(hs2.2 _ (Ne.symm hne)).trans e,r⟩;refine e3▸q P' e1 L ?_ ⟨w,by refine rwr e2 ?_;have:=he2;simpa using this⟩ (by refine rwr e2 ?_;exact hJ2) λb hb=>?_
 ·exact .tup (.cons_ .nat_ (.cons_ (rw_.later L) .nil_)) ⟨_,by refine rwr e2 ?_;exact(hs2.2 a haI).trans ht,rfl,_,rfl⟩ (by simp)
 ·refine rwr e2 ?_;have F:=f b hb;simp only[QH,QW,or_false]at hb;rcases hb with rfl|rfl
  ·exact F.of he2 rfl (by simp)
  ·refine b8 hJ2 ?_;clear hJ2;rintro o e-d;exact F.of e d hus
def TN(P:Pt C)(as:List Ri)(z:Bool)(Qn:QE->Prop):Prop:=z=true->∀P':Pt C,P'.m=P.m->ay as P.R P'.R->Qn P'.s
def TS(P:Pt C)(as:List Ri)(I:Ri)(target:Qz)(k:KV->KI->Bool)(Qs:QD->QE->Prop):Prop:=∀x it',k x it'=true->∀(P':Pt C) v,P'.m=P.m->ay as P.R P'.R->VR C P'.R x v->dW C P'.R it' I as->(∀b∈as,cD C P'.R b)->qq target it'->Qs v P'.s
def TG(P:Pt C)(A:RR)(I:Ri)(target:Qz)(Qn:QE->Prop)(Qs:QD->QE->Prop)(E1 E2:QD->QE->Prop):Prop:=QQ (R6 C.prog C.w) A (pyNext (.ref I)) (λr s₁=>match r with|none=>Qn s₁|some v=>QQ (R6 C.prog C.w) A (letOwnedTupleGo target (.ref I) v) (λzz s₂=>Qs v s₂) E2 s₁) E1 P.s
theorem w6{xs:KV}(h:bG C R xs []):xs=.nil:=by
 cases xs with
 |nil=>rfl
 |cons=>refine aE h ?_;rintro _ _ e -;cases e
 |_=>exact h.elim
theorem sF{xs:KV}{v:QD}{ws:List QD}{G:Prop}(h:bG C R xs (v::ws))(k:∀x y,xs=.cons x y->VR C R x v->bG C R y ws->G):G:=by
 cases xs with
 |nil=>cases h
 |cons x y=>refine aH h ?_;intro _ _ e r1 r2;cases e;exact k x y rfl r1 r2
 |_=>exact h.elim
section
variable{z:Bool}{k:KV->KI->Bool}{Qn:QE->Prop}{Qs:QD->QE->Prop}{E1:QD->QE->Prop}{q:Pa}{p:iu}{i n:Nat}{xs:KV}
theorem uL(f:∀b∈[I],cD C P.R b)(hnone:TN P [I] z Qn){h':SG}(hs:Tt I P.R.h h')(hz:z=true)(t:Nat):Qn ⟨h',C.g,C.d,t,C.os⟩:=by
 refine gi (P:=P) (as:=[I]) f (λb o hb e'=>hs b o (by simpa using hb) e') t ?_;intro P' e1 e2 e3 L;exact e3▸hnone hz P' e1 L
theorem yP{vs:List QD}(r:SeqAt P.R.h I vs)(rs:bG C P.R xs vs)(hn:iR (.seq xs) P.m z k=true)(hh:A.handled=none)(hnone:TN P [I] z Qn)(hsome:TS P [I] I target k Qs)(f:∀b∈[I],cD C P.R b):TG P A I target Qn Qs E1 E2:=by
 refine Ab r (f I (by constructor)) hh (λe P' e1 L=>?_) λv ws e P' v' e1 L sm r' f'=>?_
 ·subst e;cases w6 rs;exact hnone hn P' e1 L
 ·subst e;refine sF rs ?_;rintro x y rfl r1 r2;exact nX r'.pln (hsome x _ hn P' v' e1 L (sm _ _ _ (VR.later r1 L)) (.seq r' (bG.later r2 L)) (λb hb=>by cases RZ.mp hb;exact f') (.inl rfl))
theorem xF(hp:P.R.ρ q=some p)(hi:P.R.h.IsListIter I p.fst i)(hn:iR (.list q i) P.m z k=true)(hh:A.handled=none)(hnone:TN P [I] z Qn)(hsome:TS P [I] I target k Qs)(f:∀b∈[I],cD C P.R b):TG P A I target Qn Qs E1 E2:=by
 refine aI hn hp ?_;clear hn;rintro o-ro hn;refine bZ hn ro ?_;clear hn;rintro xs vs c hob rs hl he hn rfl;have hL:P.R.h.IsList p.fst vs:=⟨_,hob,rfl,c,rfl⟩
 rcases mB hn with zq|zq
 ·refine ar zq ?_;clear zq;intro e hz;exact wpAny_pyNext_list_end (s:=P.s) hh hi hL (by refine rwl (R9) ?_;exact RU (rs.none e)) λh' hs=>uL f hnone hs hz _
 ·refine ah zq ?_;clear zq;intro x e hx;refine ah (rs.get e) ?_;intro v hv rv;rw[R9]at hv;refine wpAny_pyNext_list_item (s:=P.s) hi hL hv λh' hi' hs=>?_;refine gi (P:=P) (as:=[I]) (h':=h') f (λb o hb e=>(hs.2 b (by simpa using hb)).trans e) P.t ?_;intro P' e1 e2 e3 L;refine e3▸nX (P:=P') ?_ (hsome x _ hx P' v e1 L (rv.later L) (.list (L.ref _ _ hp) (by refine rwr e2 ?_;exact hi')) (λb hb=>?_) (.inl rfl))
  ·refine rwr e2 ?_;exact⟨_,_,by decide,hi'⟩
  ·simp at hb;subst hb;refine rwr e2 ?_;refine b8 hi' ?_;clear hi';intro o a b c;exact(f _ (by simp)).of a c (by simp)
theorem xG(hp:P.R.ρ q=some p)(hi:P.R.h.IsKeyIter I p.fst i n n)(hn:iR (.dict q i n) P.m z k=true)(hh:A.handled=none)(hnone:TN P [I] z Qn)(hsome:TS P [I] I target k Qs)(f:∀b∈[I],cD C P.R b):TG P A I target Qn Qs E1 E2:=by
 refine aI hn hp ?_;clear hn;rintro o-ro hn;refine gb hn ?_;clear hn;rintro m es hn rfl;refine ar ro ?_;clear ro;rintro -zq;refine iT zq ?_;clear zq;intro ob es' ep hob hx hdat hE hnd hm hlen hep;refine dI hn ?_;intro hb hn2;cases bR.mp hb;have hsz:es'.size=n:=by exact rwr hm (rwl hE.1 (rwr QL rfl))
 refine vD (s:=P.s) (by refine rwr hsz (rwr hep ?_);exact hi) hob hdat hh (λe he h' hi' hs=>?_) (λhe h' hs=>?_)
 ·rcases kD hn2 with zq|zq
  ·refine ar zq ?_;clear zq;intro e2 hz;have:=nQ e2;rw[←hm,←hsz]at this;rw[Array.getElem?_eq_none this]at he;exact cO he
  ·refine aE zq ?_;clear zq;intro a b e2 hab;have r:=hE.2 i e (a,b) (by refine rwr (R9) ?_;exact he) (iK e2);refine gi (P:=P) (as:=[I]) (h':=h') f (λb o hb e=>(hs.2 b (by simpa using hb)).trans e) P.t ?_;intro P' e1 e2 e3 L;rw[hsz,hep]at hi';refine e3▸nX (P:=P') ?_ (hsome a _ hab P' _ e1 L (r.key.later L) (.dict (L.ref _ _ hp) (by refine rwr e2 ?_;exact hi')) (λb hb=>?_) (.inl rfl))
   ·refine rwr e2 ?_;exact⟨_,_,by decide,hi'⟩
   ·simp at hb;subst hb;refine rwr e2 ?_;refine b8 hi' ?_;clear hi';intro o a b c;exact(f _ (by simp)).of a c (by simp)
 ·rcases kD hn2 with zq|zq
  ·refine ar zq ?_;clear zq;intro e2 hz;exact uL f hnone hs hz _
  ·refine aE zq ?_;clear zq;intro a b e2 hab;have:=(Rc.mp (iK e2)).1;rw[←hm,←hsz]at this;rw[RF this]at he;exact uD he
theorem uK{ok ov:QD}(hp:P.R.ρ q=some p)(hi:Us P.R.h I p.fst i n n ok ov)(hn:iR (.items q i n) P.m z k=true)(hh:A.handled=none)(hnone:TN P [I] z Qn)(hsome:TS P [I] I target k Qs)(f:∀b∈[I],cD C P.R b)(tgt':hM target=true):TG P A I target Qn Qs E1 E2:=by
 refine aI hn hp ?_;clear hn;rintro o-ro hn;refine gb hn ?_;clear hn;rintro m es hn rfl;refine ar ro ?_;clear ro;rintro -zq;refine iT zq ?_;clear zq;intro ob es' ep hob hx hdat hE hnd hm hlen hep;refine dI hn ?_;intro hb hn2;cases bR.mp hb;have hsz:es'.size=n:=by exact rwr hm (rwl hE.1 (rwr QL rfl))
 refine tZ (s:=P.s) (by refine rwr hsz (rwr hep ?_);exact hi) hob hdat hh (λe he h1 ho hT hk=>?_) (λhe h' hs=>?_)
 ·rcases kD hn2 with zq|zq
  ·refine ar zq ?_;clear zq;intro e2 hz;have:=nQ e2;rw[←hm,←hsz]at this;rw[Array.getElem?_eq_none this]at he;exact cO he
  ·refine aE zq ?_;clear zq;intro a b e2 hab;have r:=hE.2 i e (a,b) (by refine rwr (R9) ?_;exact he) (iK e2);refine yU tgt' ?_;rintro ts kk pos rfl;refine wpAny_letOwnedTupleGo_items (s:=⟨h1,C.g,C.d,P.t,C.os⟩) ho λh2 he2 hs2=>?_;replace hs2:RM I h1 h2:=hs2;refine cZ (dY (P:=P) (as:=[I]) (h':=h2) f (λb o hb e=>by
    simp only[QH,QW,or_false]at hb;exact(hs2.2 b hb).trans (hk b o hb e)) P.t) ?_;intro P' e1 e2 e3 L
   have haI:P.R.h.objs.size≠I:=SR (Tb hi);rw[hsz,hep]at he2;refine e3▸hsome _ _ hab P' _ e1 L (.tup (.cons_ (r.key.later L) (.cons_ (r.val.later L) .nil_)) ⟨_,by refine rwr e2 ?_;exact(hs2.2 _ haI).trans hT,rfl,_,rfl⟩ (by simp)) (.items (ok:=e.key) (ov:=e.val) (L.ref _ _ hp) (by refine rwr e2 ?_;exact he2)) (λb hb=>?_) (.inr tgt');simp at hb;subst hb;refine rwr e2 ?_;exact(f _ (by simp)).of he2 rfl (by simp)
 ·rcases kD hn2 with zq|zq
  ·refine ar zq ?_;clear zq;intro e2 hz;exact uL f hnone hs hz _
  ·refine aE zq ?_;clear zq;intro a b e2 hab;have:=(Rc.mp (iK e2)).1;rw[←hm,←hsz]at this;rw[RF this]at he;exact uD he
theorem yR{J:Ri}{old:QD}(he:IsEnum P.R.h I J i old)(hp:P.R.ρ q=some p)(hi:P.R.h.IsListIter J p.fst i)(hne:I≠J)(hn:iR (.enum i (.list q i)) P.m z k=true)(hh:A.handled=none)(hnone:TN P [I,J] z Qn)(hsome:TS P [I,J] I target k Qs)(f:∀b∈[I,J],cD C P.R b)(tgt':hM target=true):TG P A I target Qn Qs E1 E2:=by
 refine aI hn hp ?_;clear hn;rintro o-ro hn;refine bZ hn ro ?_;clear hn ro;rintro xs vs c hob rs hl he' hn -;have hL:P.R.h.IsList p.fst vs:=⟨_,hob,rfl,c,rfl⟩
 rcases mB hn with zq|zq
 ·refine ar zq ?_;clear zq;intro e hz;refine pt (s:=P.s) hh he hi hL (by refine rwl (R9) ?_;exact RU (rs.none e)) λh' hs=>?_;refine gi (P:=P) (as:=[I,J]) f (λb o hb e=>hs b o (λw=>hb (by simp[w])) e) P.t ?_;intro P' e1 e2 e3 L;exact e3▸hnone hz P' e1 L
 ·refine ah zq ?_;clear zq;intro x e hx;refine ah (rs.get e) ?_;intro w hw rw_;rw[R9]at hw;have hpJ:p.fst≠J:=λw=>by refine b8 hi ?_;clear hi;rintro o a-d;rw[w]at hob;cases hob.symm.trans a;exact QO d
  have hpI:p.fst≠I:=λw=>by rw[w]at hob;have:=congrArg (λo=>o.map Obj.cls) (he.symm.trans hob);simp at this
  refine wpAny_pyNext_enum_itemD (s:=P.s) (Draws.list (by exact hh) J p.fst hpJ vs) he ⟨hi,hL⟩ (SD.mp hw).1 hne (by simp[hne,Ne.symm hpI]) λx' h' tk hPx ho hst hT hsz hk=>?_;cases hw.symm.trans hPx;refine qi (P:=P) (x:=x) f (Tb he) hne tgt' ho rfl hT hk hst.1 (by simp) rw_ λP' e1 L rv he2 hJ2 f2=>?_;refine az he2 ?_;clear he2;intro old2 he2;exact hsome _ _ hx P' _ e1 L rv (.enumL he2 (L.ref _ _ hp) hJ2 hne) f2 (.inr tgt')
theorem yQ{J tt:Ri}{items:Array QD}{old:QD}(he:IsEnum P.R.h I J i old)(hi:P.R.h.IsTupleIter J tt i)(ht:P.R.h.IsTuple tt items)(hr:bG C P.R xs (items.toList.drop i))(hne:I≠J)(hn:iR (.enum i (.seq xs)) P.m z k=true)(hh:A.handled=none)(hnone:TN P [I,J] z Qn)(hsome:TS P [I,J] I target k Qs)(f:∀b∈[I,J],cD C P.R b)(tgt':hM target=true):TG P A I target Qn Qs E1 E2:=by
 cases hd:items.toList.drop i with
 |nil=>
  rw[hd]at hr;have hx:=drop_nil hd;rw[R9]at hx;refine om (s:=P.s) hh he hi ht hx λh' hs=>?_;refine gi (P:=P) (as:=[I,J]) f (λb o hb e=>hs b o (λw=>hb (by simp[w])) e) P.t ?_;intro P' e1 e2 e3 L;cases w6 hr;exact e3▸hnone hn P' e1 L
 |cons w ws=>
  rw[hd]at hr;refine sF hr ?_;rintro x y rfl r1 r2;refine jV hd ?_;intro d1 d2;rw[R9]at d1;refine b8 (id ht) ?_;intro ot et ct zq;refine az zq ?_;clear zq;intro nt dt;have htJ:tt≠J:=λw=>by refine b8 hi ?_;clear hi;rintro o a-d;rw[w]at et;cases et.symm.trans a;rw[d]at dt;exact QO dt
  have htI:tt≠I:=λw=>by rw[w]at et;have:=congrArg (λo=>o.map Obj.cls) (he.symm.trans et);simp[ct]at this
  refine wpAny_pyNext_enum_itemD (s:=P.s) (uf J tt htJ items (by exact hh)) he ⟨hi,ht⟩ (SD.mp d1).1 hne (by simp[hne,Ne.symm htI]) λx' h' tk hPx ho hst hT hsz hk=>?_;cases d1.symm.trans hPx;refine qi (P:=P) (x:=x) f (Tb he) hne tgt' ho rfl hT hk hst.1 (by simp) r1 λP' e1 L rv he2 hJ2 f2=>?_;refine az he2 ?_;clear he2;intro old2 he2;exact hsome _ _ hn P' _ e1 L rv (.enumT he2 hJ2 (L.tup _ _ ht) (by refine rwr d2 ?_;exact r2.later L) hne) f2 (.inr tgt')
theorem sJ{it:KI}(r:dW C P.R it I as)(f:∀b∈as,cD C P.R b)(hh:A.handled=none)(hok:qq target it)(hn:iR it P.m z k=true)(hnone:TN P as z Qn)(hsome:TS P as I target k Qs):TG P A I target Qn Qs E1 E2:=by
 cases r with
 |seq r rs=>exact yP r rs hn hh hnone hsome f
 |list hp hi=>exact xF hp hi hn hh hnone hsome f
 |dict hp hi=>exact xG hp hi hn hh hnone hsome f
 |items hp hi=>exact uK hp hi hn hh hnone hsome f (hok.resolve_left R8)
 |enumL he hp hi hne=>exact yR he hp hi hne hn hh hnone hsome f (hok.resolve_left R8)
 |enumT he hi ht hr hne=>exact yQ he hi ht hr hne hn hh hnone hsome f (hok.resolve_left R8)
end
end
end
section
variable{C:Cx}{Γ:cW}{R R':Wd}
def gQ(C:Cx)(Γ:cW)(e:Qz)(x:XI)(own:Bool):Prop:=∀(F:dO C Γ)(P:Pt C)(en:En)(k:KI->KS->Bool)(Q:QD->QE->Prop)(E:QD->QE->Prop),ER F P.R en->x F.cl en k P.m=true->
 (∀(P':Pt C)(it:KI)(I:Ri)(as:List Ri),ay C.vol P.R P'.R->dW C P'.R it I as->(∀b∈as,cD C P'.R b)->(∀b∈as,P.R.h.get? b=none)->(own=true∨jR it=true)->k it P'.m=true->Q (.ref I) P'.s)->
 QQ (R6 C.prog C.w) F.A (eval e F.menv) (λv s=>QQ (R6 C.prog C.w) F.A (pyIter v) Q E s) E P.s
theorem lX{X:List Ri}{b:Ri}(L:ay X R R')(hx:b∉X)(d:R'.h.get? b=none):R.h.get? b=none:=by
 cases e:R.h.get? b with
 |none=>rfl
 |some o=>refine az (L.live b o hx e) ?_;intro o' e';rw[d]at e';exact cO e'
section
variable{P P1:Pt C}{E:QD->QE->Prop}
theorem Pt.dead(L:ay C.vol P.R P1.R){b:Ri}(d:P1.R.h.get? b=none):P.R.h.get? b=none:=lX L (P1.good.dead d).2.2.2 d
abbrev yv(C:Cx)(R:Wd)(k:KI->KS->Bool)(own:Bool)(Q:QD->QE->Prop):Prop:=∀(P':Pt C)(it:KI)(I:Ri)(as:List Ri),ay C.vol R P'.R->dW C P'.R it I as->(∀b∈as,cD C P'.R b)->(∀b∈as,R.h.get? b=none)->(own=true∨jR it=true)->k it P'.m=true->Q (.ref I) P'.s
theorem yv.later{k:KI->KS->Bool}{own:Bool}{Q:QD->QE->Prop}(K:yv C P.R k own Q)(L:ay C.vol P.R P1.R):yv C P1.R k own Q:=λP' it I as L' r f d=>K P' it I as (L.trans L') r f λb hb=>Pt.dead L (d b hb)
theorem fw{k:KI->KS->Bool}{own:Bool}{Q:QD->QE->Prop}(K:yv C P.R k own Q){h0:SG}(kp:bv P.R.h h0){ty:String}{vs:Array QD}{it:KI}(hs:P.R.h.objs.size≤h0.objs.size)(hv:∀q t,vs[1]?≠some (.str q t))(hp:own=true∨jR it=true)
  (r:ay [] P.R ⟨P.R.ρ,h0.push {cls:=.type ty,data:=.fields vs},P.R.fz⟩->(h0.push {cls:=.type ty,data:=.fields vs}).get? h0.objs.size=some {cls:=.type ty,data:=.fields vs}->dW C ⟨P.R.ρ,h0.push {cls:=.type ty,data:=.fields vs},P.R.fz⟩ it h0.objs.size [h0.objs.size]) (h:k it P.m=true) (t:Nat):Q (.ref h0.objs.size) ⟨h0.push {cls:=.type ty,data:=.fields vs},C.g,C.d,t,C.os⟩:=by
 have kp2:bv P.R.h (h0.push {cls:=.type ty,data:=.fields vs}):=λb o e=>aX _ _ b o (kp b o e);have hg:(h0.push {cls:=.type ty,data:=.fields vs}).get? h0.objs.size=some {cls:=.type ty,data:=.fields vs}:=QS _ rfl;have hd:P.R.h.get? h0.objs.size=none:=S7 hs;refine K (P.more kp2 t) it _ [h0.objs.size] (.keeps _ kp2) (r (.keeps _ kp2) hg) (λb hb=>?_) (λb hb=>?_) hp h
 ·simp at hb;subst hb;exact cD.fresh P.good hd hg (λxs n z=>by exact QO z) (λvs' q t z=>by cases z;exact hv q t)
 ·simp at hb;subst hb;exact hd
end
noncomputable def lh:Qz->Bool
 |.Set _ _ _=>false
 |_=>true
theorem oa{e:Qz}(h:lh e=true)(env:Rd)(x:QD):foldedSetIterable e env x=pure x:=by cases e<;>first|rfl|exact aO h
section
variable{P₀:Pg}(O:C.Ok P₀){e e':Qz}{x y:X}{nm:Str}{p pos:Pos}
include O
theorem uX(hx:bx C Γ e x):gQ C Γ e (aV x) false:=λF P en k Q E R h K=>by
 refine hx F P en _ _ E R h λP1 u v L r h=>?_;have K:=yv.later K L;rcases jj h r with zq|zq|zq
 ·refine aH zq ?_;clear zq;rintro s t rfl ok h;exact wpAny_pyIter_strU (s:=P1.s) (fw K (λZ Z e=>e) (QZ _) (by simp) (.inr rfl) (λL hg=>.seq (.str (i:=0) ⟨_,hg,rfl,rfl⟩) ((vi (P:=P1) ok 0).later L)) h _)
 ·refine qj zq ?_;clear zq;rintro a vs rfl ht rs hl h;exact wpAny_pyIter_tuple (s:=P1.s) ht (fw K (λZ Z e=>e) (QZ _) (by simp) (.inr rfl) (λL hg=>.seq (.tup (i:=0) ⟨_,hg,rfl,rfl⟩ (L.tup _ _ ht)) (rs.later L)) h _)
 ·refine dM zq ?_;clear zq;rintro q p o rfl hp e ro h;have h:=mK h e;cases o with
  |list n xs=>
   refine ar ro ?_;clear ro;rintro -zq;refine d9 zq ?_;clear zq;rintro vs k' hob rs rfl hl;exact wpAny_pyIter_list (s:=P1.s) ⟨_,hob,rfl,k',rfl⟩ (fw K (λZ Z e=>e) (QZ _) (by simp) (.inr rfl) (λL hg=>.list (L.ref _ _ hp) ⟨_,hg,rfl,rfl⟩) h _)
  |dict n es=>
   refine ar ro ?_;clear ro;rintro -zq;refine iT zq ?_;clear zq;intro ob es' ep hob hx hdat hE hnd hm hlen hep;have hsz:es'.size=n:=by exact rwr hm (rwl hE.1 (rwr QL rfl))
   exact yi (s:=P1.s) (gW O P1.good hp) hob hx hdat (fw K (λZ Z e=>e) (QZ _) (by simp) (.inr rfl) (λL hg=>.dict (L.ref _ _ hp) ⟨_,hg,rfl,by refine rwr hsz (rwr hep ?_);rfl⟩) h _)
  |_=>exact aO h
theorem xT(hg:P₀.gl nm=some (.bi "enumerate"))(hk:Γ.kd nm=some .globalImplicit)(hd:(nm==("__debug__":Str))=false)(hs:bh e=false)(hx:bx C Γ e x):gQ C Γ (.Call (.Name nm p) [e] [] pos) (qf x) true:=λF P en k Q E R h K=>by
 refine rwr (fQ rfl) ?_;refine Qy (eA (O.bi nm _ hg) hk hd (jL fV (k:=λs vs=>gS false (λv Z=>qZ (λxs=>k (.enum 0 (.seq xs)) s) (λq=>b9 q s (iI λZ Z=>k (.enum 0 (.list q 0)) s)) v) vs) (by simp[cH,hs]) (bp hs hx bE) R h λP1 u vs L r hl h=>⟨trivial,?_⟩));refine cC h r hl ?_;clear h r;rintro u _ v us r3-l h-rfl;cases QP l;have K:=yv.later (P:=P) (P1:=P1) K L;have two:∀{h':SG}{it:KI}{ty:String}{us:Array QD},bv P1.R.h h'->IsEnum h' (P1.R.h.objs.size+1) P1.R.h.objs.size 0 .none->(∃o,h'.get? P1.R.h.objs.size=some o∧o.cls=.type ty∧o.data=.fields us)->(∀q t,us[1]?≠some (.str q t))->
   (ay [] P1.R ⟨P1.R.ρ,h',P1.R.fz⟩->dW C ⟨P1.R.ρ,h',P1.R.fz⟩ it (P1.R.h.objs.size+1) [P1.R.h.objs.size+1,P1.R.h.objs.size])->k it P1.m=true->∀t,Q (.ref (P1.R.h.objs.size+1)) ⟨h',C.g,C.d,t,C.os⟩:=by
  intro h' it ty us kp he hJ hus hr h t;have d1:P1.R.h.get? (P1.R.h.objs.size+1)=none:=S7 (RA _);refine K (P1.more kp t) it _ _ (.keeps _ kp) (hr (.keeps _ kp)) (λb hb=>?_) (λb hb=>?_) (.inl rfl) h
  ·simp only[QH,QW,or_false]at hb;rcases hb with rfl|rfl
   ·exact cD.fresh P1.good d1 he (λxs n z=>(by exact QO z)) (λvs q t z=>by cases z;exact ne_of_beq_false rfl)
   ·refine b8 hJ ?_;clear hJ;rintro o e-d;exact cD.fresh P1.good (bg _) e (λxs n z=>(QO (d.symm.trans z))) (λvs' q t z=>by rw[d]at z;cases z;exact hus q t)
  ·simp only[QH,QW,or_false]at hb;rcases hb with rfl|rfl
   ·exact d1
   ·exact bg _
 have tup:∀{a:Ri}{vs:List QD}{xs:KV},P1.R.h.IsTuple a vs.toArray->bG C P1.R xs vs->k (.enum 0 (.seq xs)) P1.m=true->QQ (R6 C.prog C.w) F.A (call (.type "enumerate") [.ref a]) (λv s=>QQ (R6 C.prog C.w) F.A (pyIter v) Q E s) E P1.s:=λht rs h=>
  lG (s:=P1.s) ht λh' he hJ k=>wpAny_pyIter_enum he (two k he hJ (by simp) (λL=>.enumT he hJ (L.tup _ _ ht) (rs.later L) (Nat.succ_ne_self _)) h _)
 cases u with
 |nil=>refine ah r3 ?_;clear r3;rintro a rfl ht;exact tup ht .nil_ h
 |cons=>refine dM r3 ?_;clear r3;rintro a w ws rfl ht h1 h2 -;exact tup ht (.cons_ h1 h2) h
 |ref q=>
  refine ah r3 ?_;clear r3;rintro p hp rfl;refine aI h hp ?_;clear h;rintro o-ro h;refine bZ h ro ?_;clear h ro;rintro xs vs c hob rs hl-h -;exact call_enumerate_1 (s:=P1.s) hob λh' he hJ hz k=>wpAny_pyIter_enum he (two k he hJ (by simp) (λL=>.enumL he (L.ref _ _ hp) hJ (Nat.succ_ne_self _)) h _)
 |_=>exact aO h
omit O in
theorem Ff:∀(n a:Nat),bG C R (rg n a) (qU n (a:Int))
 |0,_=>rfl
 |n+1,a=>.cons_ .nat_ (by have:=Ff n (a+1);rwa[Int.natCast_add]at this)
omit O in
theorem pN{P:Pt C}{A:RR}{k:KI->KS->Bool}{Q:QD->QE->Prop}{E:QD->QE->Prop}{a b:Nat}(K:yv C P.R k false Q)(h:IK k P.m a b=true)(tt u v2:Tok)(t2:Nat):
  QQ (R6 C.prog C.w) A (pyIter (.ref P.R.h.objs.size)) Q E ⟨P.R.h.push {cls:=.type "range",data:=.fields #[.int a tt,.int b u,.int 1 v2]},C.g,C.d,t2,C.os⟩:=by
 refine dI h ?_;clear h;intro h1 h;refine dI h ?_;clear h;intro h2 h;have h1:=QA h1;have h2:=QA h2;have hR:=IsRange.new P.R.h a b 1 tt u v2;have hsz:Builtin.Range.rangeSize a b 1=((b-a:Nat):Int):=by rw[rangeSize_one];split<;>lia
 refine wpAny_pyIter_range (s:=⟨P.R.h.push {cls:=.type "range",data:=.fields #[.int a tt,.int b u,.int 1 v2]},C.g,C.d,t2,C.os⟩) hR (small_one (by exact To (a+QR 4611686018427387903)) (by lia) (by exact To (b+QR 4611686018427387903)) (by lia)) ?_;rw[hsz];exact fw K (aX _ _) (by rw[TZ];exact RA _) (by simp[rawInt]) (.inr rfl) (λL hg=>.seq (.range hg) (Ff _ _)) h _
theorem ta(hg:P₀.gl nm=some (.bi "range"))(hk:Γ.kd nm=some .globalImplicit)(hd:(nm==("__debug__":Str))=false)(hs:bh e=false)(hx:bx C Γ e x):gQ C Γ (.Call (.Name nm p) [e] [] pos) (wZ x) false:=λF P en k Q E R h K=>by
 refine rwr (fQ rfl) ?_;refine Qy (eA (O.bi nm _ hg) hk hd (jL fV (k:=λs vs=>gS false (λv Z=>ig (λb=>IK k s 0 b) v) vs) (by simp[cH,hs]) (bp hs hx bE) R h λP1 u vs L r hl h=>⟨trivial,?_⟩));refine cC h r hl ?_;clear h r hl;rintro u _ v us r3-l h-rfl;cases QP l;refine cu h r3 ?_;clear h r3;rintro n t h rfl -;exact call_range_1 (s:=P1.s) (pN (yv.later (P:=P) (P1:=P1) K L) h _ _ _ _)
theorem sZ(hg:P₀.gl nm=some (.bi "range"))(hk:Γ.kd nm=some .globalImplicit)(hd:(nm==("__debug__":Str))=false)(hs:bh e=false)(hs':bh e'=false)(hx:bx C Γ e x)(hy:bx C Γ e' y):gQ C Γ (.Call (.Name nm p) [e,e'] [] pos) (wY x y) false:=λF P en k Q E R h K=>by
 rw[fQ rfl];refine Qy (eA (O.bi nm _ hg) hk hd (jL fV (k:=λs vs=>gS false (λv r=>gS false (λw Z=>ig (λa=>ig (λb=>IK k s a b) w) v) r) vs) (by simp[cH,hs,hs']) (bp hs hx (bp hs' hy bE)) R h λP1 u vs L r hl h=>⟨trivial,?_⟩));refine cC h r hl ?_;clear h r hl;rintro u _ v us r4 r2 l h-rfl;refine cC h r2 l ?_;clear h l;rintro u' _ v' us' r3-l h rfl rfl;cases QP l;exact rh (f:=λa b=>IK k P1.m a b) r4 r3 h λa b t t' e1 e2 h=>by
  subst e1 e2;exact call_range_2 (s:=P1.s) (pN (yv.later (P:=P) (P1:=P1) K L) h _ _ _ _)
theorem uY{o:Qz}{ap:Pos}(ho:aZ o=false)(hp:cG ap pos=true)(hx:bx C Γ o x):gQ C Γ (.Call (.Attribute o "items" ap) [] [] pos) (vo x) true:=λG P en k Q E R h K=>by
 rw[UO,cQ ho];refine Qy (hx G P en _ _ E R h λP1 u v L r h=>Qy (Sl ?_));refine bu h r ?_;clear h r;rintro q p hp' h-rfl;refine d9 (jw hp' h) ?_;intro a ob e hob hc hd;cases e;have K:=yv.later (P:=P) (P1:=P1) K L;refine mG (g:=.builtin "dict.items") (first:=[.ref p.fst]) (λ{pl Q t} q=>getMethod_builtin (s:=(P1.tick t).s) ⟨ob,hob,hc⟩ F.plainAttrs_dict F.slot_dict_items F.type_dict_items (λb e=>by cases e;exact⟨ob,hob,hd⟩) q) jl rfl rfl hp (bE) (R.later L) (k:=λs vs=>b9 q s (Cd λn Z=>k (.items q 0 n) s)) h λP2 w vs L2 r2 l2 h2=>⟨trivial,?_⟩
 cases QP l2;refine aI h2 (L2.ref _ _ hp') ?_;clear h2;rintro o-ro h2;refine gb h2 ?_;clear h2;rintro n es h2 rfl;refine ar ro ?_;clear ro;rintro -zq;refine iT zq ?_;clear zq;intro ob es' ep hob hx hdat hE hnd hm hlen hep;have hsz:es'.size=n:=by rw[hm,←hE.1,QL]
 refine vk (s:=P2.s) (gW O P2.good (L2.ref _ _ hp')) hob hx hdat ?_;refine vj (s:=⟨P2.R.h.push {cls:=.type "dict_items",data:=.fields #[.ref p.fst]},C.g,C.d,P2.t,C.os⟩) ⟨_,QS _ rfl,rfl,rfl⟩ (aX _ _ _ _ hob) hdat ?_;exact fw (yv.later (P:=P1) (P1:=P2) K L2) (aX _ _) (by rw[TZ];exact RA _) (by simp) (.inl rfl) (λL hg=>.items (ok:=.none) (ov:=.none) (L.ref _ _ (L2.ref _ _ hp')) (by rw[hsz,hep]at hg ⊢;exact hg)) h2 _
end
end
section
variable{C:Cx}{Γ:cW}{R R':Wd}
theorem SeqAt.flds{h:SG}{I:Ri}{vs:List QD}(r:SeqAt h I vs):∃o us,h.get? I=some o∧o.data=.fields us:=by
 refine aE r.pln ?_;rintro _ us-zq;refine b8 zq ?_;clear zq;rintro o e-d;exact⟨o,us,e,d⟩
theorem dW.flds{it:KI}{I:Ri}{as:List Ri}(r:dW C R it I as):∀b∈as,∃o us,R.h.get? b=some o∧o.data=.fields us:=by
 cases r with
 |seq r _=>intro b hb;simp at hb;subst hb;exact r.flds
 |list _ hi=>intro b hb;simp at hb;subst hb;refine b8 hi ?_;clear hi;rintro o e-d;exact⟨o,_,e,d⟩
 |dict _ hi=>intro b hb;simp at hb;subst hb;refine b8 hi ?_;clear hi;rintro o e-d;exact⟨o,_,e,d⟩
 |items _ hi=>intro b hb;simp at hb;subst hb;exact⟨_,_,hi,rfl⟩
 |enumL he _ hi _=>intro b hb;simp at hb;rcases hb with rfl|rfl;exact⟨_,_,he,rfl⟩;refine b8 hi ?_;clear hi;rintro o e-d;exact⟨o,_,e,d⟩
 |enumT he hi _ _ _=>intro b hb;simp at hb;rcases hb with rfl|rfl;exact⟨_,_,he,rfl⟩;refine b8 hi ?_;clear hi;rintro o e-d;exact⟨o,_,e,d⟩
theorem ER.laterX{F:dO C Γ}{en:En}{X:List Ri}(r:ER F R en)(L:ay X R R')(hl:F.menv.locals∉X)(hc:∀nm ca,F.menv.cells.lookup nm=some ca->ca∉X)(hf:∀L o es ep,R.h.get? L=some o->o.data=.dict es ep->(∃f∈F.fr,f.frame=some L)->L∉X):ER F R' en:=by
 refine ah r.ns ?_;intro m ns hold;refine f9 (id ns) ?_;rintro ob _ _ lo -;refine⟨⟨m,oR ns λo ho=>L.ext _ _ ho r.lown hl,λnm q x h1 h2=>?_⟩,λq=>r.lown (L.owned (dL lo hl) q),λnm ca hca=>?_,λf hff=>?_⟩
 ·refine(hold nm q x h1 h2).el ?_ ?_
  ·intro k v hv rv;exact .inl ⟨k,v,hv,rv.later L⟩
  ·intro k ca oc v hca hoc hd rv;refine ah (L.ext _ _ hoc (r.cells nm ca hca).1 (hc nm ca hca)) ?_;intro oc' hoc' al;exact .inr ⟨k,ca,oc',v,hca,hoc',al.data.1.trans hd,rv.later L⟩
 ·refine b0 (r.cells nm ca hca) ?_;intro a zq1 b;refine aE zq1 ?_;clear zq1;intro ob v e d;refine ah (L.ext _ _ e a (hc nm ca hca)) ?_;intro o' e' al;exact⟨λq=>a (L.owned (dL e (hc nm ca hca)) q),⟨o',v,e',al.data.1.trans d⟩,λh q=>b h (L.frozen (dL e (hc nm ca hca)) q)⟩
 ·refine ar (r.fr f hff) ?_;intro k zq;refine gu zq ?_;clear zq;intro b o es ep a1 a2 a3 a4 a5 a6;have hx:=hf b o es ep a5 a6 ⟨f,hff,a1⟩;refine ah (L.ext b o a5 a4 hx) ?_;intro o' e' al;exact⟨k,b,o',es,ep,a1,a2,a3,λq=>a4 (L.owned (dL a5 hx) q),e',al.data.1.trans a6⟩
theorem ER.aside{F:dO C Γ}{en:En}{as:List Ri}(r:ER F R en)(L:ay as R R')(hn:∀b∈as,b∉ci C F.menv)(hd:∀b∈as,∃o us,R.h.get? b=some o∧o.data=.fields us):ER F R' en:=
 r.laterX L (λz=>hn _ z eK) (λZ Z hc z=>hn _ z (dH hc)) λb o es ep e d Z hb=>by
  refine aE (hd b hb) ?_;intro o' us e' d';cases e.symm.trans e';rw[d]at d';exact QO d'
theorem cD.later{X:List Ri}{b:Ri}(f:cD C R b)(L:ay X R R')(hx:b∉X):cD C R' b:=by
 refine b8 f.obj ?_;intro ob e h1 h2;refine ah (L.ext _ _ e f.own hx) ?_;intro o' e' al;refine⟨λq=>f.own (L.owned (dL e hx) q),λq=>f.frz (L.frozen (dL e hx) q),f.vol,f.old,λq=>(L.fn b q).elim f.fz (dL e hx),o',e',?_,?_⟩
 ·refine rwr al.data.1 (rwr al.data.2.1 ?_);exact h1
 ·refine rwr al.data.1 ?_;exact h2
theorem pV{F:dO C Γ}{P:Pt C}{en:En}(er:ER F P.R en){b:Ri}(d:P.R.h.get? b=none):b∉ci C F.menv:=λhb=>by
 rcases QH.mp hb with rfl|hb
 ·refine ah er.ns ?_;rintro m zq1 -;refine f9 zq1 ?_;clear zq1;rintro o _ _ e -;exact nn d e
 ·rcases RG.mp hb with hb|hb
  ·refine Lk hb ?_;rintro q-hq;refine b0 (er.cells _ _ hq) ?_;rintro -zq1 -;refine aE zq1 ?_;clear zq1;rintro ob _ e -;exact nn d e
  ·exact(P.good.dead d).2.2.2 hb
section
variable{F:dO C Γ}{fr:Fr}{k:En->K0}{Q:Su->QE->Prop}{tg:Tg}{b o:Y}{target iter:Qz}{body orelse:List U6}{it:XI}{own:Bool}{pos:Pos}
theorem wu(lo:Γ.loud=true)(hi:gQ C Γ iter it own)(hs:lh iter=true)(ht:oM C Γ true target tg)(hb:lM C Γ body b)(ho:lM C Γ orelse o)(hown:own=true->hM target=true):d5 C Γ (.For target iter body orelse pos) (bW it tg b o):=λF P fr k en Q E R h K=>by
 refine wpAny_For ?_ (oa hs F.menv);refine hi F P en _ _ E R h λP1 it I as L1 r f dead hp h1=>?_;have hnf:∀b∈as,b∉ci C F.menv:=λb hb=>pV R (dead b hb);refine codeAny_forLoop_any (λm s=>∃(P':Pt C)(en:En)(it:KI),ER F P'.R en∧dW C P'.R it I as∧(∀b∈as,cD C P'.R b)∧qq target it∧ay (as++ci C F.menv) P.R P'.R∧JO tg b o F.cl fr k m it en P'.m=true∧s=P'.s) ?_ lN
  ⟨P1,en,it,R.later L1,r,f,hp.elim (λz=>.inr (hown z)) .inl,L1.mono λb hb=>Ro _ (qg hb),h1,rfl⟩
 intro m s zq;refine FH zq ?_;clear zq;rintro P2 en it R2 r f hok L2 h2 rfl;have strike:∀{R'},ay (as++ci C F.menv) P.R R'->ay (ci C F.menv) P.R R':=λL=>L.strike λb hb=>(RG.mp hb).elim (λq=>.inr (dead b q)) .inl;have qe:∀{R'' R'},ay as R'' R'->ay (as++ci C F.menv) R'' R':=λL=>L.mono λb hb=>RW _ hb;have inF:∀{R'' R'},ay (ci C F.menv) R'' R'->ay (as++ci C F.menv) R'' R':=λL=>L.mono λb hb=>Ro _ hb;cases m with
 |zero=>exact aO h2
 |succ m=>
  refine sJ (Qn:=λs₁=>QQ (R6 C.prog C.w) F.A (execs orelse F.menv) (λf s₃=>Q f s₃) _ s₁) (Qs:=λv s₁'=>QQ (R6 C.prog C.w) F.A (assign target F.menv v) (λZ s₂=>QQ (R6 C.prog C.w) F.A (execs body F.menv) _ _ s₂) _ s₁') r f (F.handled lo) hok h2 (λhz P3 e3 L3=>?_) λx it' hx P3 v e3 L3 rv r' f' hok'=>?_
  ·exact ho F P3 fr k en Q _ (R2.aside L3 hnf r.flds) (e3▸hz) λP4 fl L4=>K P4 fl (strike ((L2.trans (qe L3)).trans (inF L4)))
  ·refine ht.2.2 F P3 en (ci C F.menv) x v _ _ _ eK (λZ Z Z=>dH) (R2.aside L3 hnf r.flds) hx rv λP4 en4 e4 L4 R4 h4=>?_;have L5:=(L2.trans (qe L3)).trans (inF L4);have f4:∀b∈as,cD C P4.R b:=λb hb=>(f' b hb).later L4 (hnf b hb);have r4:=r'.later L4 f' hnf;refine hb F P4 _ _ en4 _ _ R4 (by refine rwr e4 (rwr e3 ?_);exact h4) λP5 fl L6 hf=>?_;have L7:=L5.trans (inF L6);have again:∀en5,ER F P5.R en5->JO tg b o F.cl fr k m it' en5 P5.m=true->∃m',m'<m+1∧∃(P':Pt C)(en:En)(it:KI),ER F P'.R en∧dW C P'.R it I as∧(∀b∈as,cD C P'.R b)∧qq target it∧ay (as++ci C F.menv) P.R P'.R∧JO tg b o F.cl fr k m' it en P'.m=true∧P5.s=P'.s:=
    λen5 R5 h5=>⟨m,Sb m,P5,en5,it',R5,r4.later L6 f4 hnf,λb hb=>(f4 b hb).later L6 (hnf b hb),hok',L7,h5,rfl⟩
   cases fl with
   |next=>refine ah hf ?_;clear hf;intro en5 R5 h5;exact again en5 R5 h5
   |cont=>refine ah hf ?_;clear hf;intro en5 R5 h5;exact again en5 R5 h5
   |brk=>refine ah hf ?_;clear hf;intro en5 R5 h5;exact K.next (strike L7) R5 h5
   |ret v=>exact K P5 (.ret v) (strike L7) hf
theorem xJ{e:Qz}{d:Cn}(hd:fx C Γ e d)(hb:lM C Γ body b)(ho:lM C Γ orelse o):d5 C Γ (.While e body orelse pos) (dB d b o):=λF P fr k en Q E R h K=>by
 refine wpAny_While ?_;refine codeAny_whileLoop (λm s=>∃(P':Pt C)(en:En),ER F P'.R en∧ay (ci C F.menv) P.R P'.R∧J0 d b o F.cl fr k m en P'.m=true∧s=P'.s) ?_ lN ⟨P,en,R,.refl _ _,h,rfl⟩;intro m s zq;refine d9 zq ?_;clear zq;rintro P1 en R1 L1 h1 rfl;cases m with
 |zero=>exact aO h1
 |succ m=>
  refine hd F P1 en _ _ _ _ R1 h1 λP2 c L2 h2=>?_;have L3:=L1.trans L2.frame;cases c with
  |false=>exact ho F P2 fr k en Q _ (R1.later L2) h2 λP4 fl L4=>K P4 fl (L3.trans L4)
  |true=>
   refine hb F P2 _ _ en _ _ (R1.later L2) h2 λP3 fl L4 hf=>?_;have L5:=L3.trans L4;cases fl with
   |next=>refine ah hf ?_;clear hf;intro en3 R3 h3;exact⟨m,Sb m,P3,en3,R3,L5,h3,rfl⟩
   |cont=>refine ah hf ?_;clear hf;intro en3 R3 h3;exact⟨m,Sb m,P3,en3,R3,L5,h3,rfl⟩
   |brk=>refine ah hf ?_;clear hf;intro en3 R3 h3;exact K.next L5 R3 h3
   |ret v=>exact K P3 (.ret v) L5 hf
end
end
section
theorem me{c:Nat}(h1:32≤c)(h2:c≤126):Unicode.isPrintable c=true:=by
 have:∀c:Nat,c<127->32≤c->Unicode.isPrintable c=true:=by decide+kernel
 exact this c (by exact Rp h2 (Sb 126)) h1
theorem nF{c:Nat}(h:kB c=true):Ux 39 c=[c]:=by
 unfold kB at h;simp only[UE,Bool.not_eq_true',li,decide_eq_false_iff_not]at h;refine ar h ?_;clear h;intro zq0 h4;refine ar zq0 ?_;clear zq0;intro zq0 h3;refine ar zq0 ?_;clear zq0;intro h1 h2;have h1:=QA h1;have h2:c+1≤127:=QA h2;unfold Ux;dsimp only;rw[if_neg (by simp[h3,h4]),if_neg (by simp;lia),if_neg (by simp;lia),if_neg (by simp;lia),if_pos (me h1 (by exact T8 h2))]
theorem nE{s:Str}(h:s.cps.toList.all kB=true):(reprText s).cps.toList=39::(s.cps.toList++[39]):=by
 have hq:reprQuote s=39:=by
  unfold reprQuote;have:s.cps.contains 39=false:=by
   rw[Bool.eq_false_iff];intro z;rw[Array.contains_iff_mem]at z;have:=Rl.mp h 39 (Array.mem_toList_iff.mpr z);revert this;decide
  rw[this];rfl
 unfold reprText;rw[hq];have go:∀(l:List Nat)(acc:Array Nat),(∀c∈l,kB c=true)->l.foldl (λout c=>out++(Ux 39 c).toArray) acc=acc++l.toArray:=by
  intro l;induction l with
  |nil=>intro acc _;rfl
  |cons c r ih=>
   intro acc ha;rw[List.foldl_cons,nF (ha c QF),ih _ λx hx=>ha x (QI _ hx)];simp
 rw[←Array.foldl_toList,go _ _ (Rl.mp h)];simp
theorem lR:∀(ts:List Str)(k:Nat)(acc:Str),0<k->(textFrom k acc ts).cps.toList=acc.cps.toList++(ts.map λt=>44::32::t.cps.toList).flatten
 |[],k,acc,_=>by exact(RO _).symm
 |t::ts,k,acc,hk=>by
  rw[textFrom,lR ts (k+1) _ (TB k),if_pos hk];show((acc.cps++(", ":Str).cps++t.cps).toList)++_=_;refine rwr RK (rwr RK ?_);have:(", ":Str).cps.toList=[44,32]:=by decide+kernel
  refine rwr this ?_;simp
theorem o6:∀(x:List Nat)(r:List (List Nat)),jH [44,32] (x::r)=x++(r.map λt=>44::32::t).flatten
 |x,[]=>by exact(RO _).symm
 |x,y::r=>by
  have e:jH [44,32] (x::y::r)=x++[44,32]++jH [44,32] (y::r):=rfl;refine rwr e (rwr (o6 y r) ?_);simp
theorem tT(ts:List Str):(listText ts).cps.toList=91::(jH [44,32] (ts.map λt=>t.cps.toList)++[93]):=by
 unfold listText;show((textFrom 0 "[" ts).cps++("]":Str).cps).toList=_;have e1:("[":Str).cps.toList=[91]:=by decide+kernel
 have e2:("]":Str).cps.toList=[93]:=by decide+kernel
 refine rwr RK (rwr e2 ?_);cases ts with
 |nil=>
  show("[":Str).cps.toList++[93]=_;refine rwr e1 ?_;rfl
 |cons t r=>
  rw[textFrom,lR r 1 _ (by exact TB _),if_neg (by decide)];show(("[":Str).cps++("":Str).cps++t.cps).toList++_++_=_;have e3:("":Str).cps.toList=[]:=by decide+kernel
  rw[RK,RK,e1,e3,Sr,o6];simp[List.map_map,Function.comp_def]
theorem jC:∀ss:List Str,PyData.shownAll (ss.map .str)=ss.map reprText
 |[]=>by rfl
 |s::r=>by simp[PyData.shownAll,PyData.shown,jC r]
theorem gC:∀ss:List Str,PyData.showableAll (ss.map .str)=true
 |[]=>by rfl
 |s::r=>by simp[PyData.showableAll,PyData.showable,gC r]
theorem ij:∀ss:List Str,PyData.hasDictAll (ss.map .str)=false
 |[]=>by rfl
 |s::r=>by simp[PyData.hasDictAll,PyData.hasDict,ij r]
theorem jK:∀ss:List Str,UG (ss.map .str)=0
 |[]=>by rfl
 |s::r=>by simp[UG,PyData.depth,jK r]
variable{C:Cx}{Γ:cW}{R R':Wd}
theorem nS{k:KV->Bool}{l:List Nat}(h:JH k l=true){G:Prop}(k0:l.length≤190->(∀c∈l,c<1114112)->k (.str (gN l))=true->G):G:=by
 refine dI h ?_;intro a b;refine jB a ?_;intro a1 a2;exact k0 (QA a1) (λc hc=>QA (Rl.mp a2 c hc)) b
theorem rp{l:List Nat}(h1:l.length≤190)(h2:∀c∈l,c<1114112){s:Str}(hs:s.cps.toList=l){t:Tok}:VR C R (.str (gN l)) (.str s t):=by
 have ok:yy s:=⟨by refine rwr hs ?_;exact h2,by refine rwl QL (rwr hs ?_);exact h1⟩
 have:=VR.str_ (C:=C) (R:=R) (t:=t) ok;unfold iz at this;rw[hs]at this;exact this
theorem tM{o:Option (List (List Nat))}{k:List (List Nat)->Bool}(h:Jy o k=true){G:Prop}(k0:∀l,k l=true->o=some l->G):G:=by
 cases o with
 |none=>exact aO h
 |some l=>exact k0 l h rfl
set_option tactic.hygienic true in
theorem nk{g:Nat->Option (List Nat)}{x r:KV}{l:List (List Nat)}(h:l7 g (.cons x r)=some l){G:Prop}(k:∀c a b,g c=some a->l7 g r=some b->x=.str c->l=a::b->G):G:=by
 cases x with
 |str c=>
  revert h;show(match g c,l7 g r with|some x,some xs=>some (x::xs)|_,_=>none)=some l->_;cases h1:g c with
  |none=>exact λh=>cO h
  |some a=>
   cases h2:l7 g r with
   |none=>exact λh=>cO h
   |some b=>intro h;cases h;exact k c a b h1 h2 rfl rfl
 |_=>exact cO h
theorem tY(sep:Str):∀ys:List Str,(Str.join sep ys).cps.toList=jH sep.cps.toList (ys.map λy=>y.cps.toList)
 |[]=>rfl
 |[x]=>rfl
 |x::y::r=>by
  show(x.cps++sep.cps++(Str.join sep (y::r)).cps).toList=_;refine rwr RK (rwr RK (rwr (tY sep (y::r)) ?_));rfl
theorem sR:∀{xs:KV}{vs:List QD}{ys:List (List Nat)},bG C R xs vs->l7 (λc=>some (oz c)) xs=some ys->∃ss,StrsAre vs ss∧ys=ss.map (λy=>y.cps.toList)∧∀s∈ss,s.length≤190
 |.nil,_,ys,r,e=>by cases r;cases e;exact⟨[],.nil,rfl,(by(repeat intro);contradiction)⟩
 |.cons x y,_,ys,r,e=>by
  refine aH r ?_;clear r;rintro v vs rfl r1 r2;refine nk e ?_;rintro c a b h1 h2 rfl rfl;refine aH r1 ?_;clear r1;rintro s t rfl rfl ok;cases h1;refine b8 (sR (xs:=y) r2 h2) ?_;intro ss e1 e2 e3;exact⟨s::ss,.cons s t e1,by refine rwr e2 (rwr (fA ok) ?_);rfl,λz hz=>(QH.mp hz).elim (λe=>e▸ok.2) (e3 z)⟩
theorem StrsAre.length{vs:List QD}{ss:List Str}(h:StrsAre vs ss):ss.length=vs.length:=by
 induction h with
 |nil=>rfl
 |cons _ _ _ ih=>simp[ih]
theorem ze:∀{ss:List Str},(∀s∈ss,s.length≤190)->(ss.map (·.length)).sum≤ss.length*190
 |[],_=>Ry _
 |s::r,h=>by
  have:=ze (ss:=r) λx hx=>h x (QI _ hx);have:=h s QF;simp only[Sr,List.sum_cons,S4];lia
section
variable{e:Qz}{x y:X}{ap p pos:Pos}
theorem AR{A:RR}{E:QD->QE->Prop}{s0:Str}{t0:Tok}{s:QE}{pl:Sem Bool}{Q:QD×List QD->QE->Prop}(q:Q (.builtin "str.join",[.str s0 t0]) s):QQ (R6 C.prog C.w) A (getMethod (.str s0 t0) "join" pl) Q E s:=by
 refine getMethod_builtin (T:="str") (id:="str.join") ?_ ?_ ?_ ?_ ?_ ?_
 ·exact typeIs_str _ s0 t0
 ·exact F.plainAttrs_str
 ·exact F.slot_str_join
 ·exact F.type_str_join
 ·exact λa=>(by(repeat intro);contradiction)
 ·exact q
set_option maxRecDepth 8000 in
theorem zw{s:Str}{n:Nat}(ok:Fm s=true)(hs:bh e=false)(hp:cG ap pos=true)(hx:bx C Γ e x):bx C Γ (.Call (.Attribute (.Constant (.str s) n p) "join" ap) [e] [] pos) (w4 (iz s) x):=λG P en k Q E R h K=>by
 have ok:=r6 ok;rw[UO,cQ rfl];refine Qy (wpAny_mkText (Qy (Sl ?_)));have hg:∀{pl:Sem Bool}{Q:QD×List QD->QE->Prop}{t:Nat},Q (.builtin "str.join",[.str s P.t]) ((P.tick (P.t+1)).tick t).s->QQ (R6 C.prog C.w) G.A (getMethod (.str s P.t) "join" pl) Q E ((P.tick (P.t+1)).tick t).s:=by
  intro pl Q t q;have z:=AR (C:=C) (A:=G.A) (E:=E) (pl:=pl) q;exact z
 refine mG (P:=P.tick (P.t+1)) (g:=.builtin "str.join") (first:=[.str s P.t]) hg jl (by simp[cH,hs]) rfl hp (bp hs hx bE) R
  (k:=λs' vs=>gS false (λv Z=>aB (QJ (len v) 1000) false (Jy (l7 (λc=>some (oz c)) v) λys=>JH (k s') (jH (oz (iz s)) ys))) vs) h λP2 w vs L2 r2 l2 h2=>⟨trivial,?_⟩
 refine cC h2 r2 l2 ?_;clear h2 r2 l2;rintro u _ v us r3-l h2-rfl;cases QP l;refine dI h2 ?_;clear h2;intro hb h2;have hb:=QA hb;refine tM h2 ?_;clear h2;intro ys h2 hy;refine nS h2 ?_;clear h2;intro m1 m2 h2;have:∃a vs,v=.ref a∧P2.R.h.IsTuple a vs.toArray∧bG C P2.R u vs:=by
  cases u with
  |nil=>refine ah r3 ?_;clear r3;rintro a rfl ht;exact⟨a,[],rfl,ht,rfl⟩
  |cons=>refine dM r3 ?_;clear r3;rintro a u us rfl ht h1 h2 -;exact⟨a,u::us,rfl,ht,u,us,rfl,h1,h2⟩
  |_=>exact cO hy
 refine aH this ?_;clear this;rintro a vs rfl hT rs;refine b8 (sR rs hy) ?_;intro ss e1 e2 e3;have hl:ss.length≤1000:=by rw[StrsAre.length e1,←rs.len_eq];exact hb
 refine join_tuple (s:=P2.s) hT (by simpa using e1) ?_ λt' k=>?_
 ·have h1:=ze e3;have h2:s.length≤190:=ok.2;have h3:ss.length*s.length≤1000*190:=Nat.mul_le_mul hl h2;lia
 ·refine(K.later (ay.trans (R':=P.R) (.refl _ _) L2)).at (rp m1 m2 ?_) h2 _;unfold Txt.join;rw[StrLaws.glued_eq_join,tY,e2,fA ok]
theorem nG:∀{xs:KV}{vs:List QD}{ys:List (List Nat)},bG C R xs vs->l7 qT xs=some ys->∃ss:List Str,ReadsAll R.h vs (ss.map .str) []∧ys=ss.map (λs=>(reprText s).cps.toList)
 |.nil,_,ys,r,e=>by cases r;cases e;exact⟨[],.nil,rfl⟩
 |.cons x y,_,ys,r,e=>by
  refine aH r ?_;clear r;rintro v vs rfl r1 r2;refine nk e ?_;clear e;rintro c a b h1 h2 rfl rfl;refine aH r1 ?_;clear r1;rintro s t rfl rfl ok;refine ah (nG (xs:=y) r2 h2) ?_;intro ss e1 e2;unfold qT at h1;rw[fA ok]at h1
  split at h1
  ·rename_i hp;cases h1;exact⟨s::ss,.cons (as:=[]) (bs:=[]) (.str s t) e1,by exact rwr e2 (rwr Sr (rwr (nE hp) rfl))⟩
  ·exact cO h1
theorem D4{v:Qz}(hx:bx C Γ v x):bx C Γ (.FormattedValue v 115 none pos) (sE x):=λG P en k Q E R h K=>by
 refine wpAny_FormattedValue_s (hx G P en _ _ E R h λP1 u v L r h1=>?_);have K:=K.later L;have fin:∀(s:Str)(c:Nat)(h2:SG)(tk:Tok)(t2:Nat),s.length≤190->(∀(R:Wd)(tk:Tok),VR C R (.str c) (.str s tk))->k P1.m (.str c)=true->bv P1.R.h h2->QQ (R6 C.prog C.w) G.A (formatField (.str s tk) Str.empty) Q E ⟨h2,C.g,C.d,t2,C.os⟩:=by
  intro s c h2 tk t2 hs rv hk kp;refine wpAny_formatField_str ?_ ?_ (QG hs (by refine rwr TQ ?_;decide))
  ·exact K.more kp (rv _ _) hk _
  ·exact K.more kp (rv _ _) hk _
 cases u with
 |str c=>
  refine aH r ?_;clear r;rintro s t rfl rfl ok;exact habitSame_str (λt' tk'=>fin s _ P1.R.h t' tk' ok.2 (λZ Z=>.str_ ok) h1 λZ Z e=>e) (QG ok.2 (by refine rwr TQ ?_;decide))
 |ref q=>
  refine ah r ?_;clear r;rintro p hp rfl;refine aI h1 hp ?_;clear h1;rintro o-ro h1;refine bZ h1 ro ?_;clear h1 ro;rintro xs vs c hob rs hl he h1 -;refine tM h1 ?_;clear h1;intro ys h1 hy;refine nS h1 ?_;clear h1;intro m1 m2 h1;refine ah (nG rs hy) ?_;intro ss e1 e2;have rd:Reads P1.R.h (.ref p.fst) (.list (ss.map .str)) [p.fst]:=.list hob rfl rfl e1;have hsh:(PyData.list (ss.map .str)).shown=listText (ss.map reprText):=by simp only[PyData.shown,jC]
  have hlt:(listText (ss.map reprText)).cps.toList=91::(jH [44,32] ys++[93]):=by rw[tT,e2,List.map_map];rfl
  have hz:(listText (ss.map reprText)).length≤190:=by show Array.size _≤_;refine rwl QL (rwr hlt ?_);exact m1
  refine convS_of_reads (s:=P1.s) rd (by simp only[PyData.showable,gC]) (PyData.noDict_hsm (by simp only[PyData.hasDict,ij])) G.room.guards (by simp only[PyData.depth,jK];have:=G.units;lia) (λZ Z e=>e) (λh2 u tk hk=>?_) ?_
  ·refine rwr hsh ?_;exact fin _ _ h2 u tk hz (λZ Z=>rp m1 m2 hlt) h1 hk
  ·refine rwr hsh ?_;exact QG hz (by refine rwr TQ ?_;decide)
 |_=>exact aO h1
def yr(C:Cx)(Γ:cW)(es:List Qz)(x:X):Prop:=∀(F:dO C Γ)(P:Pt C)(en:En)(k:KT)(acc:Str)(Q:QD->QE->Prop)(E:QD->QE->Prop),ER F P.R en->x F.cl en k P.m=true->acc.length+190*es.length≤20000->
 (∀(P':Pt C)(u:KV)(l:List (List Nat))(s:Str)(t:Tok),ay C.vol P.R P'.R->l7 (λc=>some (oz c)) u=some l->k P'.m u=true->s.cps.toList=acc.cps.toList++l.flatten->Q (.str s t) P'.s)->QQ (R6 C.prog C.w) F.A (joinParts acc (evalEach es F.menv)) Q E P.s
theorem zV:yr C Γ [] ao:=λF P en k acc Q E R h hl K=>
 joinParts_nil (K (P.tick (P.t+1)) .nil [] acc _ (.refl _ _) rfl h (by exact(RO _).symm)) (by simp at hl;exact QG hl (by refine rwr TQ ?_;decide))
theorem xS{es:List Qz}(hx:bx C Γ e x)(hy:yr C Γ es y):yr C Γ (e::es) (iO x y):=λF P en k acc Q E R h hl K=>by
 rw[S4]at hl;show QQ _ _ (joinParts acc (eval e F.menv::evalEach es F.menv)) Q E _;refine joinParts_cons (hx F P en _ _ E R h λP1 u v L r h1=>?_);cases u with
 |str c=>
  refine aH r ?_;clear r;rintro s t rfl rfl ok;have hs:(acc++s).length=acc.length+s.length:=by show(acc.cps++s.cps).size=_;refine rwr Array.size_append ?_;rfl
  have:=ok.2;have:s.length≤190:=ok.2;refine⟨by refine rwr hs ?_;exact QG (by lia:_≤20000) (by refine rwr TQ ?_;decide),hy F P1 en _ _ Q E (R.later L) h1 (by refine rwr hs ?_;lia) λP2 u l s2 t2 L2 hu h2 hs2=>?_⟩;refine K P2 (.cons (.str (iz s)) u) (s.cps.toList::l) s2 t2 (L.trans L2) (by show(match some (oz (iz s)),l7 _ u with|some x,some xs=>some (x::xs)|_,_=>none)=_;exact rwr hu (rwr (fA ok) rfl)) h2 ?_;refine rwr hs2 (rwr List.flatten_cons ?_);show(acc.cps++s.cps).toList++_=_;rw[RK,Sx]
 |_=>exact aO h1
theorem zD{es:List Qz}{e':Qz}(hx:yr C Γ (e::e'::es) x)(hl:QJ es.length 90=true):bx C Γ (.JoinedStr (e::e'::es) pos) (sD x):=λF P en k Q E R h K=>by
 have hl:=QA hl;refine JoinedStr_many (hx F P en _ Str.empty Q E R h (by show 0+_≤_;simp only[S4];lia) λP1 u l s t L hu h1 hs=>?_);rw[hu]at h1;refine nS h1 ?_;clear h1;intro m1 m2 h1;exact(K.later L).at (rp m1 m2 hs) h1 _
end
end
section
theorem iN{menv:Rd}(hk:menv.scope.kind=.function):∀(names:List (Str×SJ))(x:Str),
  (names.map λ(n,k)=>if(k==RD&&menv.scope.kind==.function&&menv.kindOf n==some .cell)then(n,NameKind.cell)else(n,k)).lookup x=
   (match names.lookup x with|some .free=>if menv.kindOf x==some .cell then some .cell else some .free|k=>k)
 |[],x=>rfl
 |(n,k)::r,x=>by
  have ih:=iN hk r x;show List.lookup x ((if(k==RD&&menv.scope.kind==.function&&menv.kindOf n==some .cell)=true then(n,NameKind.cell)else(n,k))::_)=_;have hkb:(menv.scope.kind==ScopeKind.function)=true:=by refine rwr hk ?_;rfl
  cases hx:x==n with
  |true=>
   have hxn:x=n:=by simpa using hx
   subst hxn;by_cases hc:(k==RD&&menv.scope.kind==.function&&menv.kindOf x==some .cell)=true
   ·refine rwr (if_pos hc) (rwr RI (rwr RI (rwr hx ?_)));simp only[UE]at hc;have h1:k=.free:=by simpa using hc.1.1
    subst h1;simp only[hc.2,if_true]
   ·refine rwr (if_neg hc) (rwr RI (rwr RI (rwr hx ?_)));cases k with
    |free=>
     simp only[hkb,Bool.and_true,beq_self_eq_true,Bool.true_and]at hc;simp only[hc];rfl
    |_=>rfl
  |false=>
   by_cases hc:(k==RD&&menv.scope.kind==.function&&menv.kindOf n==some .cell)=true
   ·refine rwr (if_pos hc) (rwr RI (rwr RI (rwr hx ?_)));exact ih
   ·refine rwr (if_neg hc) (rwr RI (rwr RI (rwr hx ?_)));exact ih
theorem iY{menv:Rd}{sc:Tp}(H:∀x∈sc.names,x.2=.free->(menv.cells.lookup x.1).isSome=true):
  ∃cl,closureFor sc menv=pure cl∧(∀p∈cl,menv.cells.lookup p.1=some p.2∧(p.1,RD)∈sc.names)∧∀x,(x,RD)∈sc.names->∃c,(x,c)∈cl:=by
 unfold closureFor;have key:∀(names:List (Str×SJ))(cs:List (Str×Ri)),(∀x∈names,x.2=.free->(menv.cells.lookup x.1).isSome=true)->
   ∃cl,(forIn names cs λ(x:Str×SJ)(r:List (Str×Ri))=>(do
    if x.2==.free then do
     let a ←cellOf menv x.1
     pure (Tr ((x.1,a)::r))
    else pure (Tr r):Sem (ForInStep (List (Str×Ri)))))=pure cl∧(∀p∈cl,p∈cs∨(menv.cells.lookup p.1=some p.2∧(p.1,RD)∈names))∧(∀p∈cs,p∈cl)∧∀x,(x,RD)∈names->∃c,(x,c)∈cl:=by
  intro names;induction names with
  |nil=>intro cs _;exact⟨cs,by rw[List.forIn_nil],λp hp=>.inl hp,λp hp=>hp,λx hx=>by cases hx⟩
  |cons y r ih=>
   intro cs hH;obtain⟨n,k⟩:=y;rw[List.forIn_cons];by_cases hk:k=.free
   ·subst hk;refine IJ (hH _ QF rfl) ?_;intro a ha;refine cZ (ih ((n,a)::cs) λx hx=>hH x (QI _ hx)) ?_;intro cl e h1 h2 h3;refine⟨cl,?_,λp hp=>?_,λp hp=>h2 p (QI _ hp),λx hx=>?_⟩
    ·refine rwl e ?_;have:cellOf menv n=pure a:=by unfold cellOf;rw[ha]
     simp only[this,beq_self_eq_true,if_true,pure_bind]
    ·rcases h1 p hp with q|q
     ·rcases QH.mp q with rfl|q
      ·exact .inr ⟨ha,QF⟩
      ·exact .inl q
     ·exact .inr ⟨q.1,QI _ q.2⟩
    ·rcases QH.mp hx with e2|e2
     ·cases e2;exact⟨a,h2 _ QF⟩
     ·exact h3 x e2
   ·refine cZ (ih cs λx hx=>hH x (QI _ hx)) ?_;intro cl e h1 h2 h3;refine⟨cl,?_,λp hp=>?_,h2,λx hx=>?_⟩
    ·refine rwl e ?_;have:(k==RD)=false:=by simpa using hk
     simp only[this,Bool.false_eq_true,if_false,pure_bind]
    ·rcases h1 p hp with q|q
     ·exact .inl q
     ·exact .inr ⟨q.1,QI _ q.2⟩
    ·rcases QH.mp hx with e2|e2
     ·cases e2;exact absurd rfl hk
     ·exact h3 x e2
 refine cZ (key sc.names [] H) ?_;rintro cl e h1-h3;refine⟨cl,?_,λp hp=>(h1 p hp).resolve_left (by exact QW),h3⟩;exact(bind_pure _).trans e
theorem eH{α:Type}:∀{l:List (Str×α)}{x:Str}{a:α},(x,a)∈l->(l.lookup x).isSome=true
 |[],_,_,h=>by cases h
 |p::r,x,a,h=>by
  refine rwr RI ?_;cases e:x==p.1 with
  |true=>rfl
  |false=>
   rcases QH.mp h with rfl|h
   ·simp at e
   ·exact eH h
section
variable{C:Cx}{A:RR}{R:Result->QE->Prop}
structure ES(C:Cx)(e target iter:Qz)(ifs:List Qz)(stp:Rd->QD->Sem Unit):Prop where
 cl:clausesOf e=[⟨target,iter,ifs,0⟩]
 under:∀(A:RR) it D env,A.under (.compLoop e 0 it (.ref D) env)=A
 turn:∀it D env,(R6 C.prog C.w).den (.compLoop e 0 it (.ref D) env)=(do
  standAt iter.pos
  match←pyNext it with
  |none=>pure (.done .next)
  |some v=>
   letOwnedTupleGo target it v
   assign target env v
   let mut ok:=true
   for c in ifs do
    if ok then ok ←isTrue c env (eval c env)
   if ok then
    stp env (.ref D)
   again (.compLoop e 0 it (.ref D) env):Sem Fin).onRaise λx=>do noteFrame x env;theTreesLotGoes x
 start:∀{A:RR}{R:Result->QE->Prop}{s it acc env},codeAny (R6 C.prog C.w) A (.compLoop e 0 it acc env) R s->
  QQ (R6 C.prog C.w) A (pyIter it) (λit' s'=>codeAny (R6 C.prog C.w) A (.compLoop e 0 it' acc env) R s') (notedBy (R6 C.prog C.w) A env λx s'=>R (.error x) s') s->codeAny (R6 C.prog C.w) A (.compStart e 0 it acc env) R s
theorem ES.loop{e target iter:Qz}{ifs:List Qz}{stp:Rd->QD->Sem Unit}(H:ES C e target iter ifs stp){it:QD}{D:Ri}{env:Rd}(I:Nat->QE->Prop)
  (turn:∀n s,I n s->QQ (R6 C.prog C.w) A (pyNext it) (λr s₁=>match r with
   |none=>R (.ok .next) s₁
   |some v=>QQ (R6 C.prog C.w) A (letOwnedTupleGo target it v) (λZ s₁'=>QQ (R6 C.prog C.w) A (assign target env v) (λZ s₂=>
     QQ (R6 C.prog C.w) A (forIn ifs true λc r=>if r=true then do let ok ←isTrue c env (eval c env);pure (Tr ok)else pure (Tr r)) (λok s₃=>
      if ok=true then QQ (R6 C.prog C.w) A (stp env (.ref D)) (λZ s₅=>∃m,m<n∧I m s₅) (notedBy (R6 C.prog C.w) A env λe s'=>R (.error e) s') s₃
      else∃m,m<n∧I m s₃) (notedBy (R6 C.prog C.w) A env λe s'=>R (.error e) s') s₂) (notedBy (R6 C.prog C.w) A env λe s'=>R (.error e) s') s₁') (notedBy (R6 C.prog C.w) A env λe s'=>R (.error e) s') s₁) (notedBy (R6 C.prog C.w) A env λe s'=>R (.error e) s') s)
  (n:Nat) {s:QE} (h:I n s):codeAny (R6 C.prog C.w) A (.compLoop e 0 it (.ref D) env) R s:=by
 refine codeAny_loop rfl I (λn s hI=>?_) n h;rw[H.turn,H.under];refine wpAny_noted ?_;refine Qy (Sl (Qy (Sq (turn n s hI) (λr s₁ h₁=>?_) λZ Z h'=>h')));cases r with
 |none=>exact QC h₁
 |some v=>
  refine Qy (Sq h₁ (λZ s₁' h₁'=>Qy (Sq h₁' (λZ s₂ h₂=>Qy (Sq h₂ (λok s₃ h₃=>?_) λZ Z h'=>h')) λZ Z h'=>h')) λZ Z h'=>h');cases ok with
  |false=>exact QC ⟨rfl,h₃⟩
  |true=>exact Qy (Sq h₃ (λZ s₅ h₅=>QC ⟨rfl,h₅⟩) λZ Z h'=>h')
end
variable{C:Cx}{Γ:cW}{R R':Wd}
noncomputable def fG(kd:Str->Option SJ)(sc:Tp):Str->Option SJ:=λs=>match sc.names.lookup s with
 |some .free=>if kd s==some .cell then some .cell else some .free
 |k=>k
structure vY(kd:Str->Option SJ)(sc:Tp):Prop where
 kind:sc.kind=.function
 cell:∀x∈sc.names,x.2≠.cell
 loc:∀x∈sc.names,x.2=.local->sc.names.lookup x.1=some .local
 free:∀x∈sc.names,x.2=.free->sc.names.lookup x.1=some .free∧(kd x.1=some .cell∨kd x.1=some .free)
 fp:sc.names.lookup ("FP":Str)≠some .local
def k6(Γ:cW)(e:En):List Str->KV->Prop
 |[],.nil=>True
 |nm::r,.cons y s=>(∃q,Γ.slot nm=some q∧tg q e=some y)∧k6 Γ e r s
 |_,_=>False
theorem k6.ind{e:En}{P:List Str->KV->Prop}(h0:P [] .nil)(h1:∀nm ns y s q,Γ.slot nm=some q->tg q e=some y->k6 Γ e ns s->P ns s->P (nm::ns) (.cons y s))(ns:List Str):∀cs,k6 Γ e ns cs->P ns cs:=by
 induction ns with
 |nil=>intro cs h;cases cs with
  |nil=>exact h0
  |_=>exact False.elim h
 |cons nm ns ih=>intro cs h;cases cs with
  |cons y s=>refine ar h ?_;intro a b;refine ah a ?_;intro q h2 h3;exact h1 nm ns y s q h2 h3 b (ih s b)
  |_=>exact False.elim h
theorem k6.len{e:En}{ns:List Str}{cs:KV}:k6 Γ e ns cs->Internal.len cs=ns.length:=k6.ind (P:=λns cs=>Internal.len cs=ns.length) rfl (λZ Z Z Z Z Z Z Z i=>congrArg QR i) ns cs
theorem k6.at{e:En}{ns:List Str}{cs:KV}:k6 Γ e ns cs->∀i nm y,ns[i]?=some nm->ng i cs=some y->∃q,Γ.slot nm=some q∧tg q e=some y:=k6.ind (P:=λns cs=>∀i nm y,ns[i]?=some nm->ng i cs=some y->∃q,Γ.slot nm=some q∧tg q e=some y) (λi Z Z h Z=>cO h) (λZ Z Z Z q h1 h2 Z k i Z Z e1 e2=>by
 cases i with
 |zero=>cases e1;cases e2;exact⟨q,h1,h2⟩
 |succ i=>exact k i _ _ e1 e2) ns cs
theorem k6.vals{e:En}{S:Str->QD->Prop}{ns:List Str}{cs:KV}:k6 Γ e ns cs->(∀nm∈ns,∀q y,Γ.slot nm=some q->tg q e=some y->∃v,VR C R y v∧S nm v)->∃vs,bG C R cs vs∧vs.length=ns.length∧∀(i:Nat)(nm:Str)(v:QD),ns[i]?=some nm->vs[i]?=some v->S nm v:=
 k6.ind (P:=λns cs=>(∀nm∈ns,∀q y,Γ.slot nm=some q->tg q e=some y->∃v,VR C R y v∧S nm v)->∃vs,bG C R cs vs∧vs.length=ns.length∧∀(i:Nat)(nm:Str)(v:QD),ns[i]?=some nm->vs[i]?=some v->S nm v) (λZ=>⟨[],rfl,rfl,λi Z Z h Z=>cO h⟩) (λnm Z Z Z q h1 h2 Z ih k=>by
  refine ah (k nm QF q _ h1 h2) ?_;intro v rv sv;refine b8 (ih λnm hm=>k nm (QI _ hm)) ?_;intro vs r l z;refine⟨v::vs,.cons_ rv r,congrArg QR l,λi nm' w e1 e2=>?_⟩;cases i with
  |zero=>cases e1;cases e2;exact sv
  |succ i=>exact z i nm' w e1 e2) ns cs
def oW(Γ:cW)(ns:List Str)(x:X):Prop:=∀(c:Cl)(e:En)(k:KT)(s:KS),x c e k s=true->∃cs,k s cs=true∧k6 Γ e ns cs
theorem yp:oW Γ [] ao:=λc e k s h=>⟨.nil,h,trivial⟩
theorem vM{nm:Str}{ns:List Str}{q:Pa}{x:X}(hs:Γ.slot nm=some q)(hx:oW Γ ns x):oW Γ (nm::ns) (ab (ae q) x):=λc e k s h=>by
 refine aC h ?_;clear h;intro y h hy;refine ah (hx c e _ s h) ?_;intro cs h1 h2;exact⟨.cons y cs,h1,⟨q,hs,hy⟩,h2⟩
theorem DJ:∀{xs:KV}{n:Nat},len xs≤n->ng n xs=none:=by
 intro xs;induction xs with
 |cons x r _ ih=>intro n hn;cases n with|zero=>cases hn|succ n=>exact ih (T8 hn)
 |_=>intro n _;cases n<;>rfl
theorem JE{xs:KV}{n:Nat}{y:KV}(h:ng n xs=some y):n<len xs:=by
 rcases UT n (len xs)with w|w
 ·exact w
 ·rw[DJ w]at h;exact cO h
section
variable{F:dO C Γ}{P:Pt C}{en:En}
theorem yg(er:ER F P.R en){nm:Str}(hk:Γ.kd nm=some .cell∨Γ.kd nm=some .free){q:Pa}{x:KV}(hs:Γ.slot nm=some q)(hx:tg q en=some x):
  ∃ca ob v,F.menv.cells.lookup nm=some ca∧P.R.h.get? ca=some ob∧ob.data=.cell (some v)∧VR C P.R x v:=by
 refine ah er.ns ?_;intro m ns hold;rcases hold nm q x hs hx with zq|zq
 ·refine ar zq ?_;clear zq;intro k _;rw[k]at hk;rcases hk with z|z<;>contradiction
 ·refine ar zq ?_;clear zq;intro _ r;exact r
theorem o8(er:ER F P.R en){nm:Str}(hk:Γ.kd nm=some .cell∨Γ.kd nm=some .free){q:Pa}{x:KV}(hs:Γ.slot nm=some q)(hx:tg q en=some x){G:Prop}(k:∀ca ob v,F.menv.cells.lookup nm=some ca->P.R.h.get? ca=some ob->ob.data=.cell (some v)->VR C P.R x v->G):G:=fN (yg er hk hs hx) k
set_option tactic.hygienic true in
theorem vH{sc:Tp}(ok:vY Γ.kd sc){cl:List (Str×Ri)}(h1:∀p∈cl,F.menv.cells.lookup p.1=some p.2∧(p.1,RD)∈sc.names)(h2:∀x,(x,RD)∈sc.names->∃c,(x,c)∈cl){ts:List Str}{L0:Ri}(er:ER F P.R en)
  (dead:P.R.h.get? L0=none) {h':SG} {m:Str->Option QD} (ns:h'.Ns L0 m) (keep:bv P.R.h h') {cs:KV} {en':En} (hl:len cs=(frees sc).length) (hcs:∀i nm y,(frees sc)[i]?=some nm->ng i cs=some y->∃q,Γ.slot nm=some q∧tg q en=some y) (hen:∀p x,tg p en'=some x->tg p .nil=some x∨∃i,bB p=bB .e+i∧ng i cs=some x):
  ∃G:dO C ⟨fG Γ.kd sc,frees sc++ts,Γ.loud,false⟩,G.menv=compEnvC sc cl L0 F.menv∧G.A=F.A∧G.cl=F.cl∧ER G ⟨P.R.ρ,h',P.R.fz⟩ en':=by
 have look:∀{nm:Str}{ca:Ri},cl.lookup nm=some ca->F.menv.cells.lookup nm=some ca∧(nm,RD)∈sc.names:=λhc=>h1 _ (QV hc);have has:∀{nm:Str},(nm,RD)∈sc.names->∃ca,cl.lookup nm=some ca:=λhm=>let⟨_,hc⟩:=h2 _ hm;Ut.mp (eH hc);have D:=P.good.dead dead;have hkd:∀x,(compEnvC sc cl L0 F.menv).kindOf x=fG Γ.kd sc x:=λx=>by
  have:=iN (menv:=F.menv) F.kind sc.names x;refine this.trans ?_;unfold fG;rw[F.kof]
 have L:ay C.vol P.R ⟨P.R.ρ,h',P.R.fz⟩:=.keeps _ keep;have mk:∃G:dO C ⟨fG Γ.kd sc,frees sc++ts,Γ.loud,false⟩,G.menv=compEnvC sc cl L0 F.menv∧G.A=F.A∧G.cl=F.cl∧G.fr=F.fr:=by
  refine⟨⟨compEnvC sc cl L0 F.menv,F.A,F.cl,F.d,F.fr,ok.kind,hkd,F.glob,F.bi,D.1,D.2.2.2,λnm ca hc=>?_,λnm nm' ca hc hc'=>F.inj _ _ _ (look hc).1 (look hc').1,λnm hk=>?_,F.room,F.handled,λh=>(by exact aO h),λhl=>?_,F.call⟩,rfl,rfl,rfl,rfl⟩
  ·refine ar (look hc) ?_;rintro e1 -;refine b0 (F.cell nm ca e1) ?_;rintro a b -;refine b0 (er.cells nm ca e1) ?_;rintro -zq1 -;refine aE zq1 ?_;clear zq1;rintro ob _ e -;exact⟨a,b,λz=>nn (z▸dead) e⟩
  ·have hk:fG Γ.kd sc nm=some .cell∨fG Γ.kd sc nm=some .free:=hk;unfold fG at hk
   split at hk
   ·rename_i e;refine az (has (QV e)) ?_;intro ca hca;show(cl.lookup nm).isSome=true;refine rwr hca ?_;rfl
   ·rename_i hn;rcases hk with hk|hk
    ·exact absurd rfl (ok.cell _ (QV hk))
    ·exact absurd hk hn
  ·have hl:fG Γ.kd sc "FP"=some .local:=hl;unfold fG at hl
   split at hl
   ·split at hl<;>contradiction
   ·exact absurd hl ok.fp
 refine cZ mk ?_;clear mk;intro G g1 g2 g3 g4;have hcells:G.menv.cells=cl:=by refine rwr g1 ?_;rfl
 refine⟨G,g1,g2,g3,⟨m,by refine rwr g1 ?_;exact ns,λnm q x hs hx=>?_⟩,by refine rwr g1 ?_;exact D.2.1,λnm ca hc=>?_,by refine rwr g4 ?_;exact er.fr.later L⟩
 ·refine ah (iG hs) ?_;intro j a b;rcases hen q x hx with z|zq
  ·rw[fj]at z;exact cO z
  ·refine ah zq ?_;clear zq;intro i z1 z2;have:i=j:=by have:bB q=bB .e+j:=b;simp_all+arith
   subst this;have hi:i<(frees sc).length:=by refine rwl hl ?_;exact JE z2
   have a:(frees sc++ts)[i]?=some nm:=a;rw[S2 hi]at a;refine ah (hcs i nm x a z2) ?_;intro q' s1 s2;have hm:=ly.mp (Rq a);refine ar (ok.free _ hm rfl) ?_;intro o2 o3;refine o8 er o3 s1 s2 ?_;intro ca ob v e1 e2 e3 e4;refine .inr ⟨?_,ca,ob,v,?_,keep _ _ e2,e3,e4.later L⟩
   ·show fG Γ.kd sc nm=_∨fG Γ.kd sc nm=_;unfold fG;refine rwr o2 ?_;dsimp only
    split
    ·exact .inl rfl
    ·exact .inr rfl
   ·refine az (has hm) ?_;intro ca' hca';have:=(look hca').1;rw[e1]at this;cases this;refine rwr hcells ?_;exact hca'
 ·refine ar (look (hcells▸hc)) ?_;rintro e1 -;refine b0 (er.cells nm ca e1) ?_;intro a zq1 b;refine aE zq1 ?_;clear zq1;intro ob v e d;exact⟨a,⟨ob,v,keep _ _ e,d⟩,b⟩
theorem ER.one{b:Ri}(r:ER F R en)(L:ay [b] R R')(hb:∃o,R.h.get? b=some o∧(∀es ep,o.data≠.dict es ep)∧∀v,o.data≠.cell v):ER F R' en:=by
 refine b8 hb ?_;clear hb;intro o e h1 h2;refine r.laterX L (λz=>?_) (λnm ca hc z=>?_) λL' o' es ep e' d Z z=>?_
 ·simp at z;refine ah r.ns ?_;rintro m zq1 -;refine ei zq1 ?_;clear zq1;rintro o' es ep e' d -;rw[z,e]at e';cases e';exact h1 _ _ d
 ·simp at z;refine b0 (r.cells nm ca hc) ?_;rintro -zq1 -;refine aE zq1 ?_;clear zq1;intro o' v e' d;rw[z,e]at e';cases e';exact h2 _ d
 ·simp at z;rw[z,e]at e';cases e';exact h1 _ _ d
end
theorem bM.adopt{μ:KS}(G:bM C R μ){D:Ri}{o:KO}(own:¬dA R D)(old:C.h₀.get? D=none)(fz:¬R.fz D)(hO:ay [D] R (R.add μ.n ⟨D,D,[]⟩ R.h)->eR C (R.add μ.n ⟨D,D,[]⟩ R.h) o ⟨D,D,[]⟩):
  bM C (R.add μ.n ⟨D,D,[]⟩ R.h) (aR μ o)∧ay [D] R (R.add μ.n ⟨D,D,[]⟩ R.h)∧VR C (R.add μ.n ⟨D,D,[]⟩ R.h) (.ref μ.n) (.ref D):=
 G.newX (p:=⟨D,D,[]⟩) (λZ Z e=>e) (λb w=>.inr (w.elim (λz=>z▸QF) λz=>z▸QF)) (λb w=>by rcases w with rfl|rfl<;>exact⟨old,own,fz⟩) (λc hc=>by cases hc) hO
end
section
variable{C:Cx}{Γ:cW}{R R':Wd}
def oO(C:Cx)(Γ:cW)(ifs:List Qz)(c:Cn):Prop:=∀(F:dO C Γ)(P:Pt C)(en:En)(t f:K0)(Q:Bool->QE->Prop)(E:QD->QE->Prop),ER F P.R en->c F.cl en t f P.m=true->Kb C P.R t f Q->
 QQ (R6 C.prog C.w) F.A (forIn ifs true λc r=>if r=true then do let ok ←isTrue c F.menv (eval c F.menv);pure (Tr ok)else pure (Tr r)) Q E P.s
theorem uW:oO C Γ [] iZ:=λF P en t f Q E er h K=>wpAny_tests_nil (K P true (.refl _ _) h)
theorem uV{e:Qz}{c:Cn}(h:fx C Γ e c):oO C Γ [e] c:=λF P en t f Q E er q K=>wpAny_tests_one (h F P en t f Q E er q K)
theorem pY{X:List Ri}(L:ay X R R'){D:Ri}(f:cD C R D)(hx:D∉X){items:Array QD}{k:Nat}(e:R.h.get? D=some {cls:=.type "list",data:=.seq items k}):R'.h.get? D=some {cls:=.type "list",data:=.seq items k}:=gF L f hx e (by(repeat intro);contradiction)
section
variable{F:dO C Γ}{ce target iter:Qz}{ifs:List Qz}{stp:Rd->QD->Sem Unit}{tg:Tg}{test:Cn}{I D:Ri}{as:List Ri}{β:Type}{put:Cl->En->(β->K0)->β->K0}{DR:Wd->Nat->β->Prop}
theorem yl(lo:Γ.loud=true)(S:ES C ce target iter ifs stp)(ht:oM C Γ false target tg)(hif:oO C Γ ifs test)(hDR:∀{X:List Ri}{R R':Wd}{i:Nat}{a:β},D∉X->ay X R R'->DR R i a->DR R' i a)
  (hput:∀(P:Pt C)(en:En)(k:β->K0)(a:β)(i:Nat)(Q:Unit->QE->Prop)(E:QD->QE->Prop),ER F P.R en->i<lN->DR P.R i a->put F.cl en k a P.m=true->(∀(P':Pt C)(a':β),ay (D::C.vol) P.R P'.R->ER F P'.R en->DR P'.R (i+1) a'->k a' P'.m=true->Q () P'.s)->QQ (R6 C.prog C.w) F.A (stp F.menv (.ref D)) Q E P.s)
  (hD:D∉as) (hDL:D≠F.menv.locals) (hDV:D∉C.vol) (hIL:F.menv.locals∉as) {P:Pt C} {en:En} {it:KI} {a:β} (er:ER F P.R en) (r:dW C P.R it I as) (f:∀b∈as,cD C P.R b) (hok:qq target it) (hg:DR P.R 0 a)
  {kk:β->K0} (h:Ku tg test put F.cl kk lN it en a P.m=true) {Rr:Result->QE->Prop}
  (hR:∀(P':Pt C)(en':En)(i:Nat)(a':β),ER F P'.R en'->ay (as++(D::F.menv.locals::C.vol)) P.R P'.R->DR P'.R i a'->i≤lN->kk a' P'.m=true->Rr (.ok .next) P'.s):
  codeAny (R6 C.prog C.w) F.A (.compLoop ce 0 (.ref I) (.ref D) F.menv) Rr P.s:=by
 refine S.loop (λm s=>∃(P':Pt C)(en:En)(it:KI)(i:Nat)(a:β),ER F P'.R en∧dW C P'.R it I as∧(∀b∈as,cD C P'.R b)∧qq target it∧DR P'.R i a∧i+m≤lN∧
  ay (as++(D::F.menv.locals::C.vol)) P.R P'.R∧Ku tg test put F.cl kk m it en a P'.m=true∧s=P'.s) ?_ lN ⟨P,en,it,0,a,er,r,f,hok,hg,by rw[TA];exact QZ _,.refl _ _,h,rfl⟩
 intro m s zq;refine Kj zq ?_;clear zq;rintro P0 en it i a er r f hok hg hm L h rfl;cases m with
 |zero=>exact aO h
 |succ m=>
  have sub:∀{R'' R':Wd}{X:List Ri},(∀b∈X,b∈as++(D::F.menv.locals::C.vol))->ay X R'' R'->ay (as++(D::F.menv.locals::C.vol)) R'' R':=λh L=>L.mono h;have mL:∀b∈[F.menv.locals],b∈as++(D::F.menv.locals::C.vol):=λb hb=>Ro _ (by simp at hb;simp[hb]);have mV:∀b∈C.vol,b∈as++(D::F.menv.locals::C.vol):=λb hb=>Ro _ (by simp[hb]);have mD:∀b∈D::C.vol,b∈as++(D::F.menv.locals::C.vol):=λb hb=>Ro _ (by rcases QH.mp hb with h|h<;>simp[h]);have side:∀{R0 R1:Wd}{en0:En},ER F R0 en0->ay as R0 R1->(∀b∈as,∃o us,R0.h.get? b=some o∧o.data=.fields us)->ER F R1 en0:=λer L hf=>er.laterX L hIL (λnm ca hc z=>by
   refine aE (hf ca z) ?_;intro o us e d;refine b0 (er.cells nm ca hc) ?_;rintro -zq1 -;refine aE zq1 ?_;clear zq1;intro o' v e' d';cases e.symm.trans e';rw[d]at d';exact QO d') λL' o' es ep e' d Z z=>by
   refine aE (hf L' z) ?_;intro o us e d2;cases e.symm.trans e';rw[d]at d2;exact QO d2
  refine sJ (Qn:=λs₁=>Rr (.ok .next) s₁) (Qs:=λv s₁'=>QQ (R6 C.prog C.w) F.A (assign target F.menv v) _ _ s₁') r f (F.handled lo) hok h (λhz P1 e1 L1=>?_) λy it' hy P1 v e1 L1 rv r1 f1 hok1=>?_
  ·exact hR P1 en i a (side er L1 r.flds) (L.trans (sub (λb hb=>RW _ hb) L1)) (hDR hD L1 hg) (QG (RB _ _) hm) (by refine rwr e1 ?_;exact hz)
  ·refine ht.2.2 F P1 en [F.menv.locals] y v _ _ _ QF (by(repeat intro);contradiction) (side er L1 r.flds) hy rv λP2 en2 e2 L2 er2 h2=>?_;rw[←e1,←e2]at h2;have nI:∀b∈as,b∉[F.menv.locals]:=λb hb z=>by simp at z;exact hIL (z▸hb)
   have g2:=hDR (λz=>by simp at z;exact hDL z) L2 (hDR hD L1 hg);have f2:∀b∈as,cD C P2.R b:=λb hb=>(f1 b hb).later L2 (nI b hb);have r2:=r1.later L2 f1 nI;have M2:=(L.trans (sub (λb hb=>RW _ hb) L1)).trans (sub mL L2);refine hif F P2 en2 _ _ _ _ er2 h2 λP3 b L3 h3=>?_;have nV:∀b∈as,b∉C.vol:=λb hb=>(f2 b hb).vol;have f3:∀b∈as,cD C P3.R b:=λb hb=>(f2 b hb).later L3 (nV b hb);have r3:=r2.later L3 f2 nV;have g3:=hDR hDV L3 g2;cases b with
   |false=>exact⟨m,Sb m,P3,en2,it',i,a,er2.later L3,r3,f3,hok1,g3,QG (RA (i+m)) hm,M2.trans (sub mV L3),h3,rfl⟩
   |true=>
    refine hput P3 en2 _ a i _ _ (er2.later L3) (by have:i+(m+1)≤lN:=hm;lia) g3 h3 λP4 a' L4 er4 g4 h4=>?_;have nA:∀b∈as,b∉D::C.vol:=λb hb z=>(QH.mp z).elim (λz=>hD (z▸hb)) (nV b hb);exact⟨m,Sb m,P4,en2,it',i+1,a',er4,r3.later L4 f3 nA,λb hb=>(f3 b hb).later L4 (nA b hb),hok1,g4,by have:i+(m+1)≤lN:=hm;simp_all+arith,(M2.trans (sub mV L3)).trans (sub mD L4),h4,rfl⟩
end
end
section
variable{C:Cx}{Γ:cW}{R R':Wd}
theorem qb{it:KI}{I:Ri}{as:List Ri}{P:Pt C}(r:dW C P.R it I as)(hp:jR it=true){A:RR}{E:QD->QE->Prop}{Q:QD->QE->Prop}(q:Q (.ref I) P.s):as=[I]∧QQ (R6 C.prog C.w) A (pyIter (.ref I)) Q E P.s:=by
 cases r with
 |list hp hi=>exact⟨rfl,wpAny_pyIter_listiter (s:=P.s) hi q⟩
 |seq r _=>
  refine⟨rfl,?_⟩;cases r with
  |tup hi _=>exact wpAny_pyIter_tupleiter (s:=P.s) hi q
  |@str x tk i hi=>
   unfold strIterType at hi
   split at hi
   ·exact wpAny_pyIter_striter_ascii (s:=P.s) (x:=x) (t:=tk) (i:=i) hi q
   ·exact wpAny_pyIter_striter_wide (s:=P.s) (x:=x) (t:=tk) (i:=i) hi q
  |range hi=>exact wpAny_pyIter_rangeiter (s:=P.s) hi q
 |dict _ hi=>exact⟨rfl,wpAny_pyIter_keyiter (s:=P.s) hi q⟩
 |_=>exact aO hp
structure IS(C:Cx)(Δ:cW){β:Type}(nw:Sem QD)(stp:Rd->QD->Sem Unit)(new:(β->K0)->K0)(put:Cl->En->(β->K0)->β->K0)(fin:KT->β->K0)(DR:Ri->Wd->Nat->β->Prop):Prop where
 nw:∀{A:RR}(P:Pt C)(k:β->K0)(Q:QD->QE->Prop)(E:QD->QE->Prop),new k P.m=true->(∀(P':Pt C)(a:β)(D:Ri),(∀X,ay X P.R P'.R)->P.R.h.get? D=none->(∃o,P'.R.h.get? D=some o)->DR D P'.R 0 a->k a P'.m=true->Q (.ref D) P'.s)->QQ (R6 C.prog C.w) A nw Q E P.s
 st:∀{X:List Ri}{R R':Wd}{D:Ri}{i:Nat}{a:β},D∉X->ay X R R'->DR D R i a->DR D R' i a
 put:∀{D:Ri}(F:dO C Δ)(P:Pt C)(en:En)(k:β->K0)(a:β)(i:Nat)(Q:Unit->QE->Prop)(E:QD->QE->Prop),D∉C.vol->ER F P.R en->i<lN->DR D P.R i a->put F.cl en k a P.m=true->(∀(P':Pt C)(a':β),ay (D::C.vol) P.R P'.R->ER F P'.R en->DR D P'.R (i+1) a'->k a' P'.m=true->Q () P'.s)->QQ (R6 C.prog C.w) F.A (stp F.menv (.ref D)) Q E P.s
 fin:∀{D:Ri}(P:Pt C)(k:KT)(a:β)(i:Nat),i≤lN->DR D P.R i a->fin k a P.m=true->∃(P':Pt C)(u:KV),P'.s=P.s∧ay [D] P.R P'.R∧VR C P'.R u (.ref D)∧k P'.m u=true
def Lb{β:Type}(it:XI)(caps:X)(tg:Tg)(test:Cn)(new:(β->K0)->K0)(put:Cl->En->(β->K0)->β->K0)(fin:KT->β->K0):X:=λc e k s=>it c e (λit s=>caps c e (λs cs=>kP cs .e .nil λe=>new (Ku tg test put c (fin k) lN it e) s) s) s
def Nr{C:Cx}{Γ:cW}(F:dO C Γ)(P:Pt C)(en:En)(e:Qz)(x:XI):Prop:=∀(k:KI->KS->Bool)(Q:QD->QE->Prop)(E:QD->QE->Prop),x F.cl en k P.m=true->
 (∀(P':Pt C)(it:KI)(I:Ri)(as:List Ri),ay C.vol P.R P'.R->dW C P'.R it I as->(∀b∈as,cD C P'.R b)->(∀b∈as,P.R.h.get? b=none)->(false=true∨jR it=true)->k it P'.m=true->Q (.ref I) P'.s)->
 QQ (R6 C.prog C.w) F.A (eval e F.menv) (λv s=>QQ (R6 C.prog C.w) F.A (pyIter v) Q E s) E P.s
structure kT(C:Cx)(Γ:cW)(target iter:Qz)(ifs:List Qz)(sc:Tp)(caps:X)(tg:Tg)(test:Cn)(ts:List Str):Prop where
 lo:Γ.loud=true
 ok:vY Γ.kd sc
 ns:lh iter=true
 caps:oW Γ (frees sc) caps
 tg:oM C ⟨fG Γ.kd sc,frees sc++ts,Γ.loud,false⟩ false target tg
 ifs:oO C ⟨fG Γ.kd sc,frees sc++ts,Γ.loud,false⟩ ifs test
section
variable{F:dO C Γ}{P:Pt C}{en:En}{ce target iter:Qz}{ifs:List Qz}{sc:Tp}{pos pos2:Pos}{caps:X}{xi:XI}{tg:Tg}{test:Cn}{ts:List Str}{stp:Rd->QD->Sem Unit}{nw:Sem QD}{β:Type}{new:(β->K0)->K0}{put:Cl->En->(β->K0)->β->K0}{fin:KT->β->K0}{DR:Ri->Wd->Nat->β->Prop}
theorem lF(H:kT C Γ target iter ifs sc caps tg test ts)(hit:Nr F P en iter xi)(S:ES C ce target iter ifs stp)(Z:IS C ⟨fG Γ.kd sc,frees sc++ts,Γ.loud,false⟩ nw stp new put fin DR)(er:ER F P.R en){kk:KT}(h:Lb xi caps tg test new put fin F.cl en kk P.m=true){use:Option (QD->Sem Unit)}{Q:QD->QE->Prop}{E:QD->QE->Prop}
  (post:∀(P9:Pt C)(u:KV)(v:QD)(Cc:Ri),ay C.vol P.R P9.R->VR C P9.R u v->kk P9.m u=true->P.R.h.get? Cc=none->cD C P9.R Cc->(∃m,P9.R.h.Ns Cc m)->
   match use with
   |none=>∀h'',RM Cc P9.R.h h''->Q v ⟨h'',C.g,C.d,P9.t,C.os⟩
   |some u=>QQ (R6 C.prog C.w) F.A (u v) (λY s''=>∃m,s''.heap.Ns Cc m∧∀h'',RM Cc s''.heap h''->Q .none {s'' with heap:=h''}) E P9.s):
  QQ (R6 C.prog C.w) F.A (comprehension ce sc F.menv pos2 nw false (eval iter F.menv) use) Q E P.s:=by
 have hclos:∃cl,closureFor sc F.menv=pure cl∧(∀p∈cl,F.menv.cells.lookup p.1=some p.2∧(p.1,RD)∈sc.names)∧∀x,(x,RD)∈sc.names->∃c,(x,c)∈cl:=
  iY λx hx e=>F.cdom x.1 (H.ok.free x hx e).2
 refine b8 hclos ?_;clear hclos;intro cl hclos hcl1 hcl2;refine wpAny_comprehension_free (cl:=cl) (use:=use) S.cl (oa H.ns F.menv) hclos H.ok.kind H.ok.loc ?_;refine hit _ _ E h λP1 it I as L1 r f dead hp h1=>?_;have hp:jR it=true:=hp.resolve_left R8;refine ah (H.caps _ _ _ _ h1) ?_;clear h1;intro cs h1 hcr;refine ah (lI h1) ?_;clear h1;intro en' h1 hen;refine Z.nw P1 _ _ _ h1 λP2 a D L2 dD hD g h2=>?_;refine az hD ?_;intro oD hD;refine wpAny_newFunctionEnv H.ok.cell (λx hx=>(by cases hx)) (λh3 hns3 hsb3=>?_) H.ok.kind;have kp:bv P2.R.h h3:=λb o e=>hsb3.extBut b o (U2 (Tb e)) (RH _ e);have dC:P2.R.h.get? P2.R.h.objs.size=none:=bg _;have dC1:P1.R.h.get? P2.R.h.objs.size=none:=lX (L2 []) (by exact QW) dC;have hDV:D∉C.vol:=(P1.good.dead dD).2.2.2;refine cZ (vH (P:=P2) H.ok hcl1 hcl2 (ts:=ts) ((er.later L1).later (L2 _)) dC hns3 kp hcr.len hcr.at hen) ?_;intro G g1 g2 g3 erG;have L3:∀X,ay X P1.R ⟨P2.R.ρ,h3,P2.R.fz⟩:=λX=>(L2 X).trans (.keeps X kp);have f3:∀b∈as,cD C ⟨P2.R.ρ,h3,P2.R.fz⟩ b:=λb hb=>(f b hb).later (L3 []) (by exact QW);have r3:=r.later (L3 []) f (by simp);have nas:∀{b},P1.R.h.get? b=none->b∉as:=λd hb=>by refine ah ((f _ hb).obj) ?_;rintro ob e -;exact nn d e
 have hDC:D≠P2.R.h.objs.size:=λz=>by rw[z]at hD;exact nn dC hD
 have gl:G.menv.locals=P2.R.h.objs.size:=by refine rwr g1 ?_;rfl
 have dD0:=Pt.dead L1 dD;have dC0:=Pt.dead L1 dC1;have key:codeAny (R6 C.prog C.w) G.A (.compLoop ce 0 (.ref I) (.ref D) G.menv) (compPost (R6 C.prog C.w) F.A E use Q (.ref D) P2.R.h.objs.size) (P2.more kp P2.t).s:=by
  refine yl (DR:=DR D) (F:=G) H.lo S H.tg H.ifs (λz L g=>Z.st z L g) (λP en k a i Q E=>Z.put G P en k a i Q E hDV) (nas dD) (by refine rwr gl ?_;exact hDC) hDV (by refine rwr gl ?_;exact nas dC1) (P:=P2.more kp P2.t) erG r3 f3 (.inl hp) (Z.st (X:=[]) (by exact QW) (.keeps _ kp) g) (g3▸h2) λP5 en5 i5 a5 er5 L5 g5 hi5 hk=>?_;have M:ay C.vol P.R P5.R:=by
   refine(((L1.trans (L3 C.vol)).mono λb hb=>?_).trans L5).strike λb hb=>?_
   ·exact Ro _ (by simp[hb])
   ·rw[gl]at hb;rcases RG.mp hb with hb|hb
    ·exact .inr (dead b hb)
    ·rcases QH.mp hb with rfl|hb
     ·exact .inr dD0
     ·rcases QH.mp hb with rfl|hb
      ·exact .inr dC0
      ·exact .inl hb
  refine d9 (Z.fin P5 kk a5 i5 hi5 g5 hk) ?_;intro P9 u e9 L9 rv9 hk9;have M9:ay C.vol P.R P9.R:=((M.mono λb hb=>QI _ hb).trans (L9.mono λb hb=>by simp at hb;subst hb;exact QF)).strike λb hb=>(QH.mp hb).elim (λz=>.inr (z▸dD0)) .inl;have FC:=er5.locFree;rw[gl]at FC;have F9:=FC.later L9 (by simpa using hDC.symm);refine ah er5.ns ?_;rintro m' ns' -;rw[gl]at ns';have eh:P5.R.h=P9.R.h:=congrArg Shared.heap e9.symm;rw[eh]at ns';have Pp:=post P9 _ _ P2.R.h.objs.size M9 rv9 hk9 dC0 F9 ⟨m',ns'⟩;refine rwl e9 ?_;cases use with
  |none=>exact⟨m',ns',λh'' hs=>Pp h'' hs⟩
  |some u=>exact Pp
 rw[g2,g1]at key;refine ar (qb (P:=P2.more kp P2.t) (A:=F.A) (E:=E) (Q:=λY Y=>True) r3 hp trivial) ?_;rintro rfl q;exact S.start key (qb (P:=P2.more kp P2.t) r3 hp key).2
structure C9(ce iter:Qz)(sc:Tp)(pos2:Pos)(nw:Sem QD):Prop where
 ev:∀menv,eval ce menv=comprehension ce sc menv pos2 nw false (eval iter menv) none
 us:∀menv use,evalThenUse ce menv use=(do let _ ←comprehension ce sc menv pos2 nw false (eval iter menv) (some use))
 sw:∀(y:Str)(py:Pos)(l:Nat) menv,∃b,swapsWith ce (some (.Name y py)) l menv=pure b
theorem pG(H:kT C Γ target iter ifs sc caps tg test ts)(hi:gQ C Γ iter xi false)(S:ES C ce target iter ifs stp)(Z:IS C ⟨fG Γ.kd sc,frees sc++ts,Γ.loud,false⟩ nw stp new put fin DR)(he:C9 ce iter sc pos2 nw):bx C Γ ce (Lb xi caps tg test new put fin):=λF P en k Q E er h K=>by
 rw[he.ev];refine lF H (λk Q E=>hi F P en k Q E er) S Z er h (use:=none) λP9 u v Cc L r hk dC fC Y h'' hs=>?_;refine cZ (dY (P:=P9) (as:=[Cc]) (h':=h'') (λb hb=>by simp at hb;subst hb;exact fC) (λb o hb e=>(hs.2 b (by simpa using hb)).trans e) P9.t) ?_;intro P' e1 e2 e3 L';exact e3▸K P' u v (((L.mono λb hb=>QI _ hb).trans (L'.mono λb hb=>by simp at hb;subst hb;exact QF)).strike λb hb=>(QH.mp hb).elim (λz=>.inr (z▸dC)) .inl) (r.later L') (by refine rwr e1 ?_;exact hk)
theorem ux{y:Str}{q:Pa}{py pos':Pos}{F:dO C Γ}{fr:Fr}{k:En->K0}{P:Pt C}{en:En}{Q:Su->QE->Prop}{E:QD->QE->Prop}(H:kT C Γ target iter ifs sc caps tg test ts)(hit:Nr F P en iter xi)(S:ES C ce target iter ifs stp)(Z:IS C ⟨fG Γ.kd sc,frees sc++ts,Γ.loud,false⟩ nw stp new put fin DR)(he:C9 ce iter sc pos2 nw)(hs:Γ.slot y=some q)(hk:Γ.kd y=some .local)(er:ER F P.R en)(h:av (t1 q) (Lb xi caps tg test new put fin) F.cl fr k en P.m=true)(K:KF F P.R fr k Q):QQ (R6 C.prog C.w) F.A (exec (.Assign [.Name y py] ce pos') F.menv) Q E P.s:=by
 have ht:=lb (C:=C) (p:=py) (cc:=true) hs (.inl hk);refine az (he.sw y py pos'.line F.menv) ?_;intro b hw;cases b with
 |false=>
  refine T7 ?_ hw (fE rfl _);rw[he.ev];refine lF H hit S Z er h (use:=none) λP9 u v Cc L9 r9 hk dC fC Y h'' hs=>?_;refine cZ (dY (P:=P9) (as:=[Cc]) (h':=h'') (λb hb=>by simp at hb;subst hb;exact fC) (λb o hb e=>(hs.2 b (by simpa using hb)).trans e) P9.t) ?_;intro P1 e1 e2 e3 L';have L:=((L9.mono λb hb=>QI _ hb).trans (L'.mono λb hb=>by simp at hb;subst hb;exact QF)).strike λb hb=>(QH.mp hb).elim (λz=>.inr (z▸dC)) .inl;have r:=r9.later L';rw[←e1]at hk;have h1:=hk;refine e3▸?_;rw[dN ht.1];refine ht.2.2 F P1 en (ci C F.menv) u v _ _ E eK (λY Y Y=>dH) (er.later L) h1 r λP2 en2 e2 L2 R2 h2=>?_;exact K.next (L.frame.trans L2) R2 (by rw[e2];exact h2)
 |true=>
  rw[exec_Assign_Name_used _ _ _ _ hw,he.us];refine Qy (Sl (Qy ?_));refine Qy (Sq (lF H hit S Z er h (use:=some (assign (.Name y py) F.menv)) (Q:=λY s'=>Q .next s') (E:=E) λP9 u v Cc L r hk9 dC fC ns=>?_) (λY s' hq=>QC (QC hq)) λY Y e=>e);refine az ns ?_;clear ns;intro m ns;have nf:=pV er dC;refine ht.2.2 F P9 en (ci C F.menv) u v _ _ E eK (λY Y Y=>dH) (er.later L) hk9 r λP2 en2 e2 L2 R2 h2=>?_;refine⟨m,oR ns λo ho=>L2.ext _ _ ho fC.own nf,λh'' hs'=>?_⟩;refine cZ (dY (P:=P2) (as:=[Cc]) (h':=h'') (λb hb=>by simp at hb;subst hb;exact fC.later L2 nf) (λb o hb e=>(hs'.2 b (by simpa using hb)).trans e) P2.t) ?_;intro P' e1 e2' e3 L';refine e3▸K.next (P:=P') (en:=en2) ((((L.frame.trans L2).mono λb hb=>QI Cc hb).trans (L'.mono λb hb=>by simp at hb;subst hb;exact QF)).strike λb hb=>(QH.mp hb).elim (λz=>.inr (z▸dC)) .inl) ?_ (by refine rwr e1 (rwr e2 ?_);exact h2);refine R2.laterX L' (λz=>?_) (λnm ca hc z=>?_) λL0 o es ep e d ⟨f,hf,hL⟩ z=>?_
  ·simp at z;exact nf (z▸eK)
  ·simp at z;exact nf (z▸dH hc)
  ·simp at z;subst z;refine ar (er.fr f hf) ?_;rintro -zq;refine gu zq ?_;clear zq;rintro L1 o1 _ _ a1- - -a5 -;rw[hL]at a1;cases a1;exact nn dC a5
theorem kn{y:Str}{q:Pa}{py pos':Pos}(H:kT C Γ target iter ifs sc caps tg test ts)(hi:gQ C Γ iter xi false)(S:ES C ce target iter ifs stp)(Z:IS C ⟨fG Γ.kd sc,frees sc++ts,Γ.loud,false⟩ nw stp new put fin DR)(he:C9 ce iter sc pos2 nw)(hs:Γ.slot y=some q)(hk:Γ.kd y=some .local):d5 C Γ (.Assign [.Name y py] ce pos') (av (t1 q) (Lb xi caps tg test new put fin)):=λF P fr k en Q E er h K=>
 ux H (λk Q E=>hi F P en k Q E er) S Z he hs hk er h K
end
section
variable{elt kx vx target iter:Qz}{ifs:List Qz}{sc:Tp}{pos:Pos}{x y:X}{Δ:cW}
theorem sQ{c:Bool}{m:Sem Bool}(h:m=pure c):∃b,m=pure b:=⟨c,h⟩
noncomputable def Nw(elt:Qz)(env:Rd)(acc:QD):Sem Unit:=do let _ ←call (.builtin "list.append") [acc,←eval elt env]
noncomputable def Ny(kx vx:Qz)(env:Rd)(acc:QD):Sem Unit:=match acc with
 |.ref D=>do
  let kv ←eval kx env
  let vv ←holding [kv] (eval vx env)
  standAt {kx.pos with endLine:=vx.pos.endLine,endCol:=vx.pos.endCol}
  holding [kv,vv] (dictSet D kv vv)
 |_=>pure ()
theorem nB:ES C (.ListComp elt [⟨target,iter,ifs,0⟩] sc pos) target iter ifs (Nw elt):=⟨rfl,λZ Z Z Z=>rfl,λZ Z Z=>rfl,λa b=>codeAny_compStart_list a b⟩
theorem sU:ES C (.DictComp kx vx [⟨target,iter,ifs,0⟩] sc pos) target iter ifs (Ny kx vx):=⟨rfl,λZ Z Z Z=>rfl,λZ Z Z=>rfl,λa b=>codeAny_compStart_dict a b⟩
theorem oB:C9 (.ListComp elt [⟨target,iter,ifs,0⟩] sc pos) iter sc (firstIterPos [⟨target,iter,ifs,0⟩] pos) (newList []):=⟨λZ=>rfl,λZ Z=>rfl,λZ Z Z Z=>sQ rfl⟩
theorem ut:C9 (.DictComp kx vx [⟨target,iter,ifs,0⟩] sc pos) iter sc (firstIterPos [⟨target,iter,ifs,0⟩] pos) newDict:=⟨λZ=>rfl,λZ Z=>rfl,λZ Z Z Z=>sQ rfl⟩
def MO(k:KT)(acc:KV)(s:KS):Bool:=q7 k s (len (wF acc .nil)) (wF acc .nil)
def Mt(C:Cx)(D:Ri)(R:Wd)(i:Nat)(acc:KV):Prop:=cD C R D∧∃(vs:List QD)(items:Array QD)(k:Nat),R.h.get? D=some {cls:=.type "list",data:=.seq items k}∧bG C R acc vs∧items.toList=vs.reverse∧vs.length≤i
theorem nv(hx:bx C Δ elt x):IS C Δ (newList []) (Nw elt) (λk=>k .nil) (pL x) MO (Mt C)where
 nw:=λP k Q E h K=>by
  refine SV ?_;have e:=QS P.R.h (o:={cls:=.type "list",dict:=none,data:=.seq ([]:List QD).toArray}) rfl;exact K (P.more (aX _ _) P.t) .nil P.R.h.objs.size (λX=>.keeps X (aX _ _)) (bg _) ⟨_,e⟩ ⟨cD.fresh P.good (bg _) e (λxs n z=>by decide) (λvs q t z=>by exact QO z),[],#[],_,e,.nil_,rfl,QZ _⟩ h
 st:=λhX L g=>by
  refine ar g ?_;intro f zq;refine fN zq ?_;intro vs items k e ra hit hl;exact⟨f.later L hX,vs,items,k,pY L f hX e,ra.later L,hit,hl⟩
 put:=λ{D} F P en k a i Q E hV er hi g h K=>by
  refine Qy (hx F P en _ _ E er h λP4 u w L4 rw_ h4=>?_);refine ar g ?_;intro f zq;refine fN zq ?_;intro vs items k0 e ra hit hl;have g4:=pY L4 f hV e;have fD4:=f.later L4 hV;have hsz:items.size=vs.length:=by exact rwl QL (rwr hit (rwr SS rfl))
  have hlim:lN≤100000:=by decide
  refine Qy (UM (s:=P4.s) (items:=items) ⟨k0,g4⟩ (λh5 hpl hs5=>?_) (by have:=cL;lia));refine az hpl ?_;clear hpl;intro k5 g5;refine cZ (dY (P:=P4) (as:=[D]) (h':=h5) (λb hb=>by simp at hb;subst hb;exact fD4) (λb o hb e=>(hs5.2 b (by simpa using hb)).trans e) P4.t) ?_;intro P5 e5 e6 e7 L5;have fD5:cD C P5.R D:=by refine rwr e6 ?_;exact⟨fD4.own,fD4.frz,fD4.vol,fD4.old,fD4.fz,_,g5,(λxs n z=>by exact ne_of_beq_false rfl),(λvs q t z=>by contradiction)⟩
  refine QC (e7▸K P5 (.cons u a) ((L4.mono λb hb=>QI _ hb).trans (L5.mono λb hb=>by simp at hb;subst hb;exact QF)) ((er.later L4).one L5 ⟨_,g4,(by(repeat intro);contradiction),(by(repeat intro);contradiction)⟩) ⟨fD5,w::vs,items.push w,k5,by refine rwr e6 ?_;exact g5,.cons_ (rw_.later L5) ((ra.later L4).later L5),by exact rwr TU (rwr hit (rwr SN rfl)),RV hl⟩ (by refine rwr e5 ?_;exact h4))
 fin:=λ{D} P k a i hi g h=>by
  refine ar g ?_;intro f zq;refine fN zq ?_;intro vs items k0 e ra hit hl;have rx:bG C P.R (wF a .nil) items.toList:=by
   refine rwr hit ?_;have:=bG.rev_ (y:=.nil) (us:=[]) ra .nil_
   rwa[RO]at this
  refine dI h ?_;clear h;intro hl5 hk;have hl5:=QA hl5;refine b0 (P.good.adopt (o:=.list (len (wF a .nil)) (wF a .nil)) f.own f.old f.fz (λL=>⟨rfl,items,k0,e,rx.later L,by refine rwr rx.len_eq ?_;simp,hl5⟩)) ?_;intro G9 L9 rv9;exact⟨⟨_,_,P.t,G9⟩,_,rfl,L9,rv9,hk⟩
def MQ(D:Ri)(R:Wd)(Z:Nat)(q:Pa):Prop:=R.ρ q=some ⟨D,D,[]⟩
theorem sS(hx:bx C Δ kx x)(hy:bx C Δ vx y):IS C Δ newDict (Ny kx vx) (λk s=>k s.n (aR s (.dict 0 .nil))) (pD x y) (λk q s=>k s (.ref q)) MQ where
 nw:=λP k Q E h K=>by
  refine SV ?_;have e:=QS P.R.h (o:={cls:=.type "dict",dict:=none,data:=.dict #[]}) rfl;have G:=P.good.new0 (h':=P.R.h.push {cls:=.type "dict",dict:=none,data:=.dict #[]}) (o:=.dict 0 .nil) (aX _ _) (bg _) (bg _) (λL=>⟨rfl,_,#[],0,e,⟨rfl,rfl,rfl⟩,rfl,⟨rfl,λi e kv h=>by trivial⟩,U0,rfl,Ry _,rfl⟩);refine b0 G ?_;intro G L r;refine ah r ?_;intro pe hp e2;exact K ⟨_,_,P.t,G⟩ P.m.n P.R.h.objs.size L (bg _) ⟨_,e⟩ Wd.add_self h
 st:=λzz L g=>L.ref _ _ g
 put:=λ{D} F P en k a i Q E hV er hi g h K=>by
  refine Qy (hx F P en _ _ E er h λP4 u w L4 rw_ h4=>?_);refine Qy (Rn (hy F P4 en _ _ E (er.later L4) h4 λP5 u2 w2 L5 r5 h5=>?_));refine Qy (Sl (Rn ?_));have L45:=L4.trans L5;have hp:=L45.ref _ _ g;refine aI h5 hp ?_;intro o eo ro h5;refine gb h5 ?_;rintro n es h5 rfl;refine dI h5 ?_;intro h1 h5;refine dI h5 ?_;intro h2 h5;have h2:=QA h2;refine ox (p:=⟨D,D,[]⟩) (m:=if(dl es u).isSome then n else n+1) (by have:=F.units;lia) hp ro (rw_.later L5) r5 h1 rfl (by split<;>omega) λP6 L6 e6=>?_;have L:=(L45.mono λb hb=>QI D hb).trans (L6 _);refine K P6 a L ((er.later L45).later (L6 _)) ((L6 []).ref _ _ hp) ?_;refine rwr e6 ?_;unfold cz at h5;cases hd:dl es u with
  |none=>rw[hd]at h5;exact h5
  |some z=>rw[hd]at h5;exact h5
 fin:=λP k a i hi g h=>⟨P,.ref a,rfl,.refl _ _,⟨_,g,rfl⟩,h⟩
end
section
variable{elt kx vx target iter:Qz}{ifs:List Qz}{sc:Tp}{pos py pos':Pos}{x y caps:X}{xi:XI}{tg:Tg}{test:Cn}{ts:List Str}{nm:Str}{q:Pa}(H:kT C Γ target iter ifs sc caps tg test ts)(hi:gQ C Γ iter xi false)
include H hi
theorem zQ(hx:bx C ⟨fG Γ.kd sc,frees sc++ts,Γ.loud,false⟩ elt x):bx C Γ (.ListComp elt [⟨target,iter,ifs,0⟩] sc pos) (mY xi caps tg x test):=pG H hi nB (nv hx) oB
theorem sY(hx:bx C ⟨fG Γ.kd sc,frees sc++ts,Γ.loud,false⟩ elt x)(hs:Γ.slot nm=some q)(hk:Γ.kd nm=some .local):d5 C Γ (.Assign [.Name nm py] (.ListComp elt [⟨target,iter,ifs,0⟩] sc pos) pos') (av (t1 q) (mY xi caps tg x test)):=kn H hi nB (nv hx) oB hs hk
theorem xM(hx:bx C ⟨fG Γ.kd sc,frees sc++ts,Γ.loud,false⟩ kx x)(hy:bx C ⟨fG Γ.kd sc,frees sc++ts,Γ.loud,false⟩ vx y):bx C Γ (.DictComp kx vx [⟨target,iter,ifs,0⟩] sc pos) (uG xi caps tg x y test):=pG H hi sU (sS hx hy) ut
theorem qQ(hx:bx C ⟨fG Γ.kd sc,frees sc++ts,Γ.loud,false⟩ kx x)(hy:bx C ⟨fG Γ.kd sc,frees sc++ts,Γ.loud,false⟩ vx y)(hs:Γ.slot nm=some q)(hk:Γ.kd nm=some .local):d5 C Γ (.Assign [.Name nm py] (.DictComp kx vx [⟨target,iter,ifs,0⟩] sc pos) pos') (av (t1 q) (uG xi caps tg x y test)):=kn H hi sU (sS hx hy) ut hs hk
end
end
section
theorem oA(pos:Pos)(a b:Int)(v:QD)(l:List QD)(c:QD)(h:TriplesOk l):codeAmong pos (l++[rawInt a,rawInt b,v])=some c->codeAmong pos l=some c∨c=v:=by
 fun_induction TriplesOk l with
 |case1=>
  intro e;have e:(if(a==pos.line&&b==pos.col)=true then some v else none)=some c:=e;by_cases q:(a==pos.line&&b==pos.col)=true
  ·rw[if_pos q]at e;exact .inr (QN e).symm
  ·rw[if_neg q]at e;exact cO e
 |case2 a' t b' u x rest ih=>
  intro e;have e:(if(a'==pos.line&&b'==pos.col)=true then some x else codeAmong pos (rest++[rawInt a,rawInt b,v]))=some c:=e;show(if(a'==pos.line&&b'==pos.col)=true then some x else codeAmong pos rest)=some c∨_;by_cases q:(a'==pos.line&&b'==pos.col)=true
  ·rw[if_pos q]at e ⊢;exact .inl e
  ·rw[if_neg q]at e ⊢;exact ih h e
 |case3=>exact h.elim
theorem lQ{ps:Array QD}(h:TriplesOk ps.toList)(q:Str)(t:Tok):ps[1]?≠some (.str q t):=by
 refine rwl (R9) ?_;generalize ps.toList=l at h;intro z;cases l with
 |nil=>exact cO z
 |cons x r=>
  cases r with
  |nil=>exact cO z
  |cons y s=>
   simp only[List.getElem?_cons_succ,List.getElem?_cons_zero,Option.some.injEq]at z;subst z;cases x<;>exact h.elim
variable{C:Cx}{Γ:cW}{R R':Wd}
theorem bM.tab{P₀:Pg}(O:C.Ok P₀){μ:KS}{h':SG}(G:bM C R μ){P:Ri}(hP:P∈C.vol)(k:∀b o,b≠P->R.h.get? b=some o->h'.get? b=some o)(tb:∃ps,h'.get? P=some (tabObj ps)∧TriplesOk ps.toList∧∀pos cv,codeAmong pos ps.toList=some cv->h'.CodeRec cv (C.volQ P)):
  bM C ⟨R.ρ,h',R.fz⟩ μ∧ay C.vol R ⟨R.ρ,h',R.fz⟩:=by
 refine b8 (G.vol P hP) ?_;intro ps0 e0 t0 c0;have nP:∀{b:Ri}{o:Obj},R.h.get? b=some o->(∀vs,o.data≠.fields vs)->b≠P:=by
  rintro b o e d rfl;cases e0.symm.trans e;exact d _ rfl
 have code:∀cd q,R.h.CodeRec cd q->h'.CodeRec cd q:=by
  intro cd q zq;refine jJ zq ?_;clear zq;intro c o vs t e g d v;refine⟨c,o,vs,t,e,k c o ?_ g,d,v⟩;rintro rfl;cases e0.symm.trans g;cases d;exact lQ t0 _ _ v
 have fk:∀{a:Ri}{o:Obj},R.fz a->R.h.get? a=some o->h'.get? a=some o:=λ{a o} f e=>by
  refine fI (G.fz a f).1 ?_;intro vs c e';exact k a o (nP e' λus z=>QO z) e
 have L:ay C.vol R ⟨R.ρ,h',R.fz⟩:=by
  refine⟨λZ Z h=>h,λZ Z h=>.inl h,?_,λb o e Z nx=>⟨o,k b o (λz=>nx (z▸hP)) e,.inl rfl⟩,λb o nx e=>⟨o,k b o (λz=>nx (z▸hP)) e⟩,code,λa o f e=>⟨f,fk f e⟩,λZ=>.inl⟩;rintro a i ⟨o,e,hc,m,r⟩;exact⟨o,k a o (nP e (λvs z=>QO (r.symm.trans z))) e,hc,m,r⟩
 have keep:∀{b:Ri},b≠P->(∃o,R.h.get? b=some o)->h'.get? b=R.h.get? b:=λhb ⟨o,e⟩=>by refine rwr e ?_;exact k _ _ hb e
 have up:∀{b:Ri},dA R b->h'.get? b=R.h.get? b:=λho=>keep (λz=>G.notVol ho (z▸hP)) (let⟨ob,e,_⟩:=G.solid ho;⟨ob,e⟩);have fz:∀c,fb R c->h'.get? c=R.h.get? c:=λc hc=>by
  refine aH (G.frz c hc) ?_;rintro ob v e3 d -;exact keep (nP e3 (λvs z=>QO (d.symm.trans z))) ⟨ob,e3⟩
 refine⟨⟨G.next,λq p hp=>?_,G.cod,λb o e=>?_,G.old,G.apart,λc hc=>?_,λP' hP'=>?_,λa f=>let z:=G.fz a f;⟨by refine fI z.1 ?_;intro vs c e;exact⟨vs,c,fk f e⟩,z.2⟩⟩,L⟩
 ·refine ah (G.dom q p hp) ?_;intro o e r;exact⟨o,e,r.move L (up ⟨q,p,hp,.inl rfl⟩) (up ⟨q,p,hp,.inr rfl⟩) λc hc=>fz c ⟨q,p,hp,hc⟩⟩
 ·exact k b o (λz=>nn (O.vol0 _ hP) (z▸e)) (G.keep b o e)
 ·refine aH (G.frz c hc) ?_;intro ob v e3 d z;exact⟨ob,v,(fz c hc).trans e3,d,z⟩
 ·by_cases z:P'=P
  ·subst z;exact tb
  ·refine b8 (G.vol P' hP') ?_;intro ps e1 e2 e3;exact⟨ps,k _ _ z e1,e2,λpos cv z=>code _ _ (e3 pos cv z)⟩
structure KW(C:Cx)(Γ:cW)(args:Se)(b:Qz)(sc:Tp)(q:Pa)(caps:X):Prop where
 fp:Γ.kd "FP"=some .local
 dflt:args.defaults=[]∧args.kw_defaults=[]
 lam:C.lam q=some (args,b,sc)
 free:∀x∈sc.names,x.2=.free->C.asg x.1=false∧(Γ.kd x.1=some .cell∨Γ.kd x.1=some .free)
 caps:oW Γ (frees sc) caps
section
variable{F:dO C Γ}{P:Pt C}{en:En}{args:Se}{b:Qz}{sc:Tp}{q:Pa}{caps:X}
theorem Ew(H:KW C Γ args b sc q caps)(er:ER F P.R en){cs:KV}(hcr:k6 Γ en (frees sc) cs)
  {cl:List (Str×Ri)} (h1:∀p∈cl,F.menv.cells.lookup p.1=some p.2∧(p.1,RD)∈sc.names) (h2:∀x,(x,RD)∈sc.names->∃c,(x,c)∈cl) {name qual:Str} {pm cv ctv:QD} (hcode:P.R.h.CodeRec cv qual) (t:Nat):
  ∃P':Pt C,P'.m=aR P.m (.clo q cs)∧P'.s=⟨P.R.h.push {cls:=.type "function",data:=.func (kla_fn name qual args b sc cl pm cv ctv)},C.g,C.d,t,C.os⟩∧ay (ci C F.menv) P.R P'.R∧VR C P'.R (.ref P.m.n) (.ref P.R.h.objs.size)∧ER F P'.R en:=by
 have k:=aX P.R.h {cls:=.type "function",data:=.func (kla_fn name qual args b sc cl pm cv ctv)};have hg:(P.R.h.push {cls:=.type "function",data:=.func (kla_fn name qual args b sc cl pm cv ctv)}).get? P.R.h.objs.size=_:=QS _ rfl;generalize P.R.h.push {cls:=.type "function",data:=.func (kla_fn name qual args b sc cl pm cv ctv)}=h' at k hg;have dead:=bg P.R.h;have look:∀{nm:Str}{ca:Ri},cl.lookup nm=some ca->F.menv.cells.lookup nm=some ca∧(nm,RD)∈sc.names:=λhc=>h1 _ (QV hc);have has:∀{nm:Str},(nm,RD)∈sc.names->∃ca,cl.lookup nm=some ca:=λhm=>let⟨_,hc⟩:=h2 _ hm;Ut.mp (eH hc);have hp3:∀c∈cl.map (·.2),∃nm,F.menv.cells.lookup nm=some c∧(nm,RD)∈sc.names:=λc hc=>by
  refine nR hc ?_;rintro q hq rfl;exact⟨q.1,h1 q hq⟩
 refine b0 (P.good.new (o:=.clo q cs) (p:=⟨P.R.h.objs.size,P.R.h.objs.size,cl.map (·.2)⟩) (h':=h') (X:=ci C F.menv) k (λc hc=>hc.elim (λe=>e▸dead) λe=>e▸dead) (λc hc=>by
  refine ah (hp3 c hc) ?_;rintro nm hn -;refine b0 (er.cells nm c hn) ?_;rintro -zq1 -;refine aE zq1 ?_;clear zq1;intro ob v e d;exact⟨.inr (dH hn),ob,v,k _ _ e,d,(F.cell nm c hn).1⟩) λL=>by
   refine⟨rfl,_,_,hg,rfl,rfl,⟨b,H.lam,rfl⟩,rfl,rfl,rfl,hcode.keeps k,λx hx=>⟨Sw.mpr ⟨x,hx,rfl⟩,(H.free _ (h1 x hx).2 rfl).1⟩,λnm nm' ca hc hc'=>F.inj _ _ _ (look hc).1 (look hc').1,?_⟩;refine b8 (hcr.vals (C:=C) (R:=P.R) (S:=λnm v=>∃ca ob,cl.lookup nm=some ca∧h'.get? ca=some ob∧ob.data=.cell (some v)) λnm hm q' y s1 s2=>by
    have hm:=ly.mp hm;refine o8 er (H.free _ hm rfl).2 s1 s2 ?_;intro ca ob v e1 e2 e3 e4;refine az (has hm) ?_;intro ca' hca';have:=(look hca').1;rw[e1]at this;cases this;exact⟨v,e4,ca,ob,hca',k _ _ e2,e3⟩) ?_;intro vs r l z
   exact⟨vs,r.later L,l,z⟩) ?_;intro G' L' r'
 refine⟨⟨_,_,t,G'⟩,rfl,rfl,L',r',?_⟩;have nown:∀{b:Ri}{o:Obj},P.R.h.get? b=some o->¬dA P.R b->¬dA (P.R.add P.m.n ⟨P.R.h.objs.size,P.R.h.objs.size,cl.map (·.2)⟩ h') b:=by
  intro b o e no zq;refine aE zq ?_;clear zq;intro q p hp hb;by_cases z:q=P.m.n
  ·subst z;rw[Wd.add_self]at hp;cases hp;rcases hb with rfl|rfl<;>exact nn dead e
  ·rw[Wd.add_other z]at hp;exact no ⟨q,p,hp,hb⟩
 refine ah er.ns ?_;intro m ns hold;refine f9 (id ns) ?_;rintro ol _ _ el -;refine⟨⟨m,ns.at' λo e=>k _ _ e,λnm q x h1 h2=>?_⟩,nown el er.lown,λnm ca hc=>?_,λf hf=>?_⟩
 ·refine(hold nm q x h1 h2).el ?_ ?_
  ·intro k1 v hv rv;exact .inl ⟨k1,v,hv,rv.later L'⟩
  ·intro k1 ca oc v hca hoc hd rv;exact .inr ⟨k1,ca,oc,v,hca,k _ _ hoc,hd,rv.later L'⟩
 ·refine b0 (er.cells nm ca hc) ?_;intro a zq1 b;refine aE zq1 ?_;clear zq1;intro ob v e d;refine⟨nown e a,⟨ob,v,k _ _ e,d⟩,λha hf=>?_⟩;refine aE hf ?_;clear hf;intro q p hp hqc;by_cases z:q=P.m.n
  ·subst z;rw[Wd.add_self]at hp;cases hp;refine ah (hp3 ca hqc) ?_;intro nm' hn hfree;have:=F.inj _ _ _ hc hn;subst this;rw[(H.free _ hfree rfl).1]at ha;exact aO ha
  ·rw[Wd.add_other z]at hp;exact b ha ⟨q,p,hp,hqc⟩
 ·refine ar (er.fr f hf) ?_;intro a zq;refine gu zq ?_;clear zq;intro L1 o es ep a1 a2 a3 a4 a5 a6;exact⟨a,L1,o,es,ep,a1,a2,a3,nown a5 a4,k _ _ a5,a6⟩
theorem D1{P₀:Pg}(O:C.Ok P₀){id:Str}{p1 pos lp:Pos}{sl:Pa}(H:KW C Γ args b sc q caps)(hs:Γ.slot id=some sl)(hk:Γ.kd id=some .local):d5 C Γ (.Assign [.Name id p1] (.Lambda args b sc lp) pos) (av (t1 sl) (xA q caps)):=λF P fr kk en Q E er h K=>by
 refine ah (H.caps _ _ _ _ h) ?_;clear h;intro cs h hcr;refine b8 (iY (menv:=F.menv) (sc:=sc) λx hx e=>F.cdom x.1 (H.free x hx e).2) ?_;intro cl hclos h1 h2;refine d9 (F.lam H.fp) ?_;intro cc T hmc hT hd hq;refine b8 (P.good.vol T hT) ?_;intro ps e0 t0 c0;refine iT O.top ?_;intro mg bm ob g1 g2 g3 g4 g5 g6 g7 g8;have hgh:P.R.h.Ns Rh mg:=g1.at' λo e=>P.good.keep _ _ e;have hgP:Rh≠T:=by
  rintro rfl;refine ei hgh ?_;clear hgh;rintro o es ep e d -;cases e0.symm.trans e;exact QO d
 have hbP:bm≠T:=by
  rintro rfl;cases e0.symm.trans (P.good.keep _ _ g5);exact QO g8
 have hB:P.R.h.BuiltinsAt mg T:=⟨bm,ob,g2,g3,g4,hbP,P.good.keep _ _ g5,g6,g7,g8⟩
 have hC:CodeHd P.R.h cc T:=hd.keeps P.good.keep;have fin:∀{P1:Pt C}{t':Nat}{name:Str}{pm cv ctv:QD},P1.m=P.m->ay (ci C F.menv) P.R P1.R->ER F P1.R en->P1.R.h.CodeRec cv (F.menv.qual++"<lambda>")->
   QQ (R6 C.prog C.w) F.A (assignAll (.ref P1.R.h.objs.size) ((assignEach [.Name id p1] F.menv).map (·.2))) (λZ=>Q .next) E ⟨P1.R.h.push {cls:=.type "function",data:=.func (kla_fn name (F.menv.qual++"<lambda>") args b sc cl pm cv ctv)},C.g,C.d,t',C.os⟩:=by
  intro P1 t' name pm cv ctv e1 L1 er1 hcr1;refine Bn (Ew H er1 hcr h1 h2 (name:=name) (pm:=pm) (ctv:=ctv) hcr1 t') ?_;intro P2 e2 e3 L2 r2 er2;refine rwl e3 ?_;show QQ _ _ (assign (.Name id p1) F.menv (.ref P1.R.h.objs.size)) _ _ _;refine wpAny_assign_Name (jO (X:=ci C F.menv) er2 eK hs (.inl hk) (λZ Z=>dH) r2 λP3 e4 L3 er3=>?_);exact K.next ((L1.trans L2).trans L3) er3 (by refine rwr e4 (rwr e2 (rwr e1 ?_));exact h)
 refine T7 (kla_eval ?_ ?_) rfl rfl
 ·obtain⟨a1,a2,a3,a4,a5,a6,a7⟩:=args;have e1:a7=[]:=H.dflt.1;have e2:a5=[]:=H.dflt.2;subst e1;subst e2;rfl
 ·cases hf:codeAmong lp ps.toList with
  |some cv=>
   refine kla_makeFunctionHit (mg:=mg) (s:=P.s) hclos F.glob hgh hmc hC e0 t0 hf hB λctv h' tk hk' hsz=>?_;exact fin (P1:=P.more hk' tk) rfl (.keeps _ hk') (er.later (.keeps _ hk')) (by refine rwl hq ?_;exact(c0 lp cv hf).keeps hk')
  |none=>
   refine kla_makeFunction (mg:=mg) (s:=P.s) hclos F.glob hgh hmc hC e0 t0 hf hgP hB λc' ctv h' tk hx hge hlt hrec htb=>?_;refine ar (P.good.tab O hT (h':=h') (λb o hb e=>hx b o hb e) ⟨_,htb,by
    refine rwr RK ?_;exact TriplesOk_snoc _ _ _ _ t0,λpos cv e=>by
    rw[RK]at e;rcases oA pos _ _ _ _ _ t0 e with z|rfl
    ·refine jJ (c0 pos cv z) ?_;intro c2 o2 vs2 t2 y1 y2 y3 y4;refine⟨c2,o2,vs2,t2,y1,hx c2 o2 ?_ y2,y3,y4⟩;rintro rfl;cases e0.symm.trans y2;cases y3;exact lQ t0 _ _ y4
    ·refine rwr hq ?_;exact hrec⟩) ?_;intro G' L'
   exact fin (P1:=⟨_,P.m,tk,G'⟩) rfl L'.frame (er.later L') hrec
end
end
section
theorem EL(h:SG)(S:List Ri):∃base:SG,∀b,base.get? b=if b∈S then none else h.get? b:=by
 refine⟨⟨h.objs.mapIdx λi o=>if i∈S then{o with data:=.freed}else o,h.life⟩,λb=>?_⟩;unfold Heap.get?;refine rwr (Array.getElem?_mapIdx) ?_;cases e:h.objs[b]? with
 |none=>simp
 |some o=>
  simp only[Option.map_some];by_cases hb:b∈S
  ·simp[hb]
  ·simp[hb]
theorem kM{h base:SG}:∀(l:List Rd),(∀e∈l,e.scope.kind≠.module∧∃L o es ep,e.frame=some L∧base.get? L=none∧h.get? L=some o∧o.data=.dict es ep)->h.FunFrames base l
 |[],_=>trivial
 |e::r,H=>by
  refine ar (H e QF) ?_;intro k zq;refine jJ zq ?_;clear zq;intro L o es ep a b c d;exact⟨k,⟨L,o,a,b,c,λvs z=>QO (d.symm.trans z)⟩,kM r λx hx=>H x (QI _ hx)⟩
def m8(h1 h:SG)(e:Ri)(cls:String):Prop:=∃oe vs T oT ts,h.get? e=some oe∧oe.cls=.type cls∧oe.data=.fields vs∧vs[1]?=some (.ref T)∧h1.get? T=none∧T≠e∧h.get? T=some oT∧oT.data=.fields ts∧3<ts.size
theorem oh{X T:String}(hX:X="KeyError"∨X="IndexError")(hT:T="KeyError"∨T="IndexError"){G:Prop}(k:∀b,isSubtype (.type X) (.type T)=pure b->(X=T->b=true)->G):G:=by
 rcases hX with rfl|rfl<;>rcases hT with rfl|rfl
 ·exact k true (SA (by decide+kernel)) (λzz=>rfl)
 ·exact k false (SA (by decide+kernel)) (λz=>absurd z (by decide))
 ·exact k false (SA (by decide+kernel)) (λz=>absurd z (by decide))
 ·exact k true (SA (by decide+kernel)) (λzz=>rfl)
theorem gM{T:String}(hT:T="KeyError"∨T="IndexError"):isSubtype (.type T) (.type "BaseException")=pure true∧isSubtype (.type ((Manifest.find? T).elim "type" λx=>x.metatype)) (.type "tuple")=pure false:=by
 rcases hT with rfl|rfl
 ·exact⟨SA (by decide+kernel),SA (by decide+kernel)⟩
 ·exact⟨SA (by decide+kernel),SA (by decide+kernel)⟩
theorem m8.push{h1 h:SG}{e:Ri}{cls:String}(T:m8 h1 h e cls)(o:Obj):m8 h1 (h.push o) e cls:=by
 refine Bm T ?_;intro oe vs T oT ts t1 t2 t3 t4 t5 t6 t7 zq;refine ar zq ?_;clear zq;intro t8 t9;exact⟨oe,vs,T,oT,ts,RH _ t1,t2,t3,t4,t5,t6,RH _ t7,t8,t9⟩
theorem m8.typeIs{h1 h:SG}{e:Ri}{cls:String}(T:m8 h1 h e cls){g:Array UQ}{d:Drawn}{t:Nat}{os:OsState}:Uw ⟨h,g,d,t,os⟩ (.ref e) cls:=by
 refine Kl T ?_;rintro oe vs T oT ts t1 t2 -;exact⟨oe,t1,t2⟩
variable{C:Cx}{Γ:cW}{R R':Wd}
def jY(k:Nat)(cls:String):Prop:=(k=Lq∧cls="KeyError")∨(k=Lr∧cls="IndexError")
theorem jY.cls{k:Nat}{cls:String}(h:jY k cls):cls="KeyError"∨cls="IndexError":=h.imp (·.2) (·.2)
theorem jY.uniq{k:Nat}{a b:String}(h:jY k a)(g:jY k b):a=b:=by
 rcases h with⟨rfl,rfl⟩|⟨rfl,rfl⟩<;>rcases g with⟨e,rfl⟩|⟨e,rfl⟩<;>first|rfl|exact Uo e
def Vz(F:dO C Γ)(P:Pt C)(w:Sem QD)(u:KV):Prop:=∀(Q:QD->QE->Prop)(E:QD->QE->Prop),(∀(P1:Pt C)(v:QD),P1.m=P.m->ay C.vol P.R P1.R->VR C P1.R u v->Q v P1.s)->QQ (R6 C.prog C.w) F.A w Q E P.s
def Rz{α:Type}(F:dO C Γ)(P:Pt C)(w:Sem α)(x:Nat):Prop:=∀(Q:α->QE->Prop)(E:QD->QE->Prop),(∀(P1:Pt C)(h':SG)(t:Nat)(e:Ri)(cls:String),P1.m=P.m->ay C.vol P.R P1.R->jY x cls->Heap.NewExc P1.R.h h' e cls->E (.ref e) ⟨h',C.g,C.d,t,C.os⟩)->QQ (R6 C.prog C.w) F.A w Q E P.s
def KU(f:(KV->Bool)->(Nat->Bool)->Bool):Prop:=∀kv rx,f kv rx=true->(∃u,kv u=true∧∀(kv':KV->Bool)(rx':Nat->Bool),kv' u=true->f kv' rx'=true)∨∃x,rx x=true∧∀(kv':KV->Bool)(rx':Nat->Bool),rx' x=true->f kv' rx'=true
def oN(C:Cx)(Γ:cW)(e:Qz)(p:PX):Prop:=(∀c en m,KU (p c en m))∧∀(F:dO C Γ)(P:Pt C)(en:En)(kv:KV->Bool)(rx:Nat->Bool),ER F P.R en->p F.cl en P.m kv rx=true->(∃u,kv u=true∧Vz F P (eval e F.menv) u)∨∃x,rx x=true∧Rz F P (eval e F.menv) x
def QX(x:X):Prop:=∀(c:Cl)(e:En)(k:KT)(s:KS),x c e k s=true->∃u,k s u=true∧∀k':KT,k' s u=true->x c e k' s=true
theorem Am{v:KV}:QX (af v):=λc e k s h=>⟨v,h,λzz h=>h⟩
theorem GL{q:Pa}:QX (ae q):=λc e k s h=>by
 refine aC h ?_;clear h;intro u h hu;exact⟨u,h,λk' h'=>by show bQ _ _ _=true;refine rwr hu ?_;exact h'⟩
theorem Dx{x:X}{sl:Pa}(hx:QX x):QX (ak sl x):=λc e k s h=>by
 refine ah (hx c e _ s h) ?_;intro u h1 h2;have:∃y,k s y=true∧∀k':KT,k' s y=true->IL sl k' s u=true:=by
  unfold IL at h1 ⊢;cases u with
  |ref q=>
   refine aC h1 ?_;clear h1;intro o h1 ho;cases o with
   |inst c fs=>
    refine aC h1 ?_;clear h1;intro y h1 hy;refine⟨y,h1,λk' h'=>?_⟩;show bQ _ _ _=true;refine rwr ho ?_;show bQ (tg sl fs) false (k' s)=true;refine rwr hy ?_;exact h'
   |_=>exact aO h1
  |_=>exact aO h1
 refine ah this ?_;clear this;intro y h3 h4;exact⟨y,h3,λk' h'=>h2 _ (h4 k' h')⟩
theorem GN{x:X}{n:Nat}(hx:QX x):QX (aW c9 x (af (.nat n))):=λc e k s h=>by
 refine ah (hx c e _ s h) ?_;intro u h1 h2;cases u with
 |nat m=>exact⟨_,h1,λZ h=>h2 _ h⟩
 |tok m=>let z:=aP.mp h1;exact⟨.tok 0,z.2,λZ h=>h2 _ (aP.mpr ⟨z.1,h⟩)⟩
 |ref q=>
  have h1:bQ (tg q s.h) false (iI λZ Z=>false)=true:=h1;refine aC h1 ?_;rintro o h -;cases o<;>exact aO h
 |_=>exact aO h1
theorem GM{x:X}{n:Nat}(hx:QX x):QX (aW q9 x (af (.nat n))):=λc e k s h=>by
 refine ah (hx c e _ s h) ?_;intro u h1 h2;cases u with
 |nat m=>
  have h1:aB (QJ n m) (k s (.neg (S9 n (QR m)))) (k s (.nat (S9 m n)))=true:=h1;cases hb:QJ n m with
  |true=>rw[hb]at h1;exact⟨_,h1,λk' h'=>h2 _ (by show aB (QJ n m) _ _=true;refine rwr hb ?_;exact h')⟩
  |false=>rw[hb]at h1;exact⟨_,h1,λk' h'=>h2 _ (by show aB (QJ n m) _ _=true;refine rwr hb ?_;exact h')⟩
 |tok m=>let z:=aP.mp h1;exact⟨.tok 0,z.2,λzz h=>h2 _ (aP.mpr ⟨z.1,h⟩)⟩
 |_=>exact aO h1
section
variable{F:dO C Γ}{P:Pt C}{en:En}{e i o:Qz}{x:X}{p p1 p2:PX}{pos:Pos}
open Classical in
theorem GB(hx:bx C Γ e x)(hq:QX x):oN C Γ e (pX x):=⟨λc en m kv rx h=>by
 refine ah (hq _ _ _ _ h) ?_;intro u h1 h2;exact .inl ⟨u,h1,λkv' Z hk=>h2 _ hk⟩,λF P en kv rx er h=>by
 refine ah (hq _ _ _ _ h) ?_;intro u h1 h2;refine .inl ⟨u,h1,λQ E K=>?_⟩;refine hx F P en (λs v=>decide (s=P.m∧v=u)) Q E er (h2 _ (by simp)) λP1 w v L r hk=>?_;refine ar (of_decide_eq_true hk) ?_;clear hk;rintro a rfl;exact K P1 v a L r⟩
theorem oJ{n l:Nat}{a b:Bool}(h:aB (QJ (QR n) l) a b=true):n+1≤l∧b=true∨l<n+1∧a=true:=by
 cases hb:QJ (QR n) l with
 |true=>rw[hb]at h;exact .inl ⟨QA hb,h⟩
 |false=>rw[hb]at h;exact .inr ⟨UH λz=>(by rw[QK z]at hb;exact p7 hb),h⟩
theorem wJ{kv:KV->Bool}{rx:Nat->Bool}{i xs:KV}{l:Nat}{w:QD}(h:Dz kv rx l i xs=true)(r:VR C R i w)(hl:len xs=l):
  ∃z t,w=.int z t∧-(2^63)≤z∧z<2^63∧((∃y,kv y=true∧∀k:KV->Bool,k y=true->Fw k l i xs=true)∨rx Lr=true∧seqIndex? z l=none∧(z< -(l:Int)∨(l:Int)≤z)):=by
 obtain⟨z,t,rfl,⟨n,rfl,rfl,h⟩|⟨n,rfl,rfl,h⟩⟩:=my h r
 ·refine dI h ?_;clear h;intro h1 h;have h1:=QA h1;refine⟨_,t,rfl,by exact To (n+QR 9223372036854775807),by lia,?_⟩;rcases mB h with zq|zq
  ·refine ar zq ?_;clear zq;intro e hr;have:l≤n:=by
    rcases UT n l with w|w
    ·have:∀{xs:KV}{n:Nat},n<len xs->ng n xs≠none:=by
      intro xs;induction xs with
      |cons x r _ ih=>intro n hn;cases n with|zero=>((repeat intro);contradiction)|succ n=>exact ih (Sz hn)
      |_=>intro n hn;cases hn
     exact absurd e (this (hl▸w))
    ·exact w
   refine .inr ⟨hr,?_,.inr (by simp_all+arith)⟩;unfold seqIndex?;have h0:¬((n:Nat):Int)<0:=by simp+arith
   simp only[h0,if_false];exact rwr (if_neg (by simp;assumption)) rfl
  ·refine ah zq ?_;clear zq;intro y e hy;exact .inl ⟨y,hy,λk hk=>by show bQ _ _ _=true;refine rwr e ?_;exact hk⟩
 ·refine dI h ?_;clear h;intro h1 h;have h1:=QA h1;refine⟨_,t,rfl,by lia,by lia,?_⟩;rcases oJ h with zq|zq
  ·refine ar zq ?_;clear zq;intro hb h;refine aC h ?_;clear h;intro y h hy;exact .inl ⟨y,h,λk hk=>by show aB _ _ _=true;refine rwr (QK hb) ?_;show bQ _ _ _=true;refine rwr hy ?_;exact hk⟩
  ·refine ar zq ?_;clear zq;intro hb h;refine .inr ⟨h,?_,.inl (by omega)⟩;unfold seqIndex?;simp only[Int.negSucc_lt_zero n,if_true];exact rwr (if_neg (by simp;omega)) rfl
theorem rD{l:Nat}{i xs:KV}:KU (λkv rx=>Dz kv rx l i xs):=λkv rx h=>by
 cases i with
 |nat n=>
  refine dI h ?_;clear h;intro h1 h;rcases mB h with zq|zq
  ·refine ar zq ?_;clear zq;intro e hr;exact .inr ⟨_,hr,λkv' rx' hx=>aP.mpr ⟨h1,by show bQ _ _ _=true;refine rwr e ?_;exact hx⟩⟩
  ·refine ah zq ?_;clear zq;intro y e hy;exact .inl ⟨y,hy,λkv' rx' hx=>aP.mpr ⟨h1,by show bQ _ _ _=true;refine rwr e ?_;exact hx⟩⟩
 |neg n=>
  refine dI h ?_;clear h;intro h1 h;rcases oJ h with zq|zq
  ·refine ar zq ?_;clear zq;intro hb h;refine aC h ?_;intro y hy e;exact .inl ⟨y,hy,λkv' rx' hx=>aP.mpr ⟨h1,by refine rwr (QK hb) ?_;show bQ _ _ _=true;refine rwr e ?_;exact hx⟩⟩
  ·refine ar zq ?_;clear zq;intro hb h;refine .inr ⟨_,h,λkv' rx' hx=>aP.mpr ⟨h1,?_⟩⟩;have:QJ (QR n) l=false:=by cases hb':QJ (QR n) l with|false=>rfl|true=>exact absurd (QA hb') (by lia)
   refine rwr this ?_;exact hx
 |_=>exact aO h
theorem wQ{u i:KV}{m:KS}:KU (λkv rx=>qZ (λxs=>Dz kv rx (len xs) i xs) (λq=>b9 q m (vf (λn xs=>Dz kv rx n i xs) (λzz es=>aB (pk i) false (cz es i (rx Lq) kv)))) u):=by
 cases u with
 |nil=>exact rD
 |cons=>exact rD
 |ref q=>
  show KU (λkv rx=>b9 q m _);unfold b9;cases tg q m.h with
  |none=>exact λkv rx h=>by exact aO h
  |some o=>
   cases o with
   |list n xs=>exact rD
   |dict n es=>
    intro kv rx h;refine dI h ?_;clear h;intro h1 h;unfold cz at h;cases hd:dl es i with
    |none=>rw[hd]at h;exact .inr ⟨_,h,λkv' rx' hx=>aP.mpr ⟨h1,by unfold cz;refine rwr hd ?_;exact hx⟩⟩
    |some y=>rw[hd]at h;exact .inl ⟨y,h,λkv' rx' hx=>aP.mpr ⟨h1,by unfold cz;refine rwr hd ?_;exact hx⟩⟩
   |_=>exact λkv rx h=>by exact aO h
 |_=>exact λkv rx h=>by exact aO h
variable{P₀:Pg}(O:C.Ok P₀)
include O
theorem pC{G:dO C Γ}(lo:Γ.loud=true){kv:KV->Bool}{rx:Nat->Bool}{u i:KV}{v w:QD}(r:VR C P.R u v)(ri:VR C P.R i w)(h:qZ (λxs=>Dz kv rx (len xs) i xs) (λq=>b9 q P.m (vf (λn xs=>Dz kv rx n i xs) (λZ es=>aB (pk i) false (cz es i (rx Lq) kv)))) u=true):
  (∃y,kv y=true∧∀k:KT,k P.m y=true->Hs k u P.m i=true)∨∃x,rx x=true∧Rz G P (getItem v w) x:=by
 have tup:∀{a:Ri}{vs:List QD},v=.ref a->P.R.h.IsTuple a vs.toArray->bG C P.R u vs->Dz kv rx (len u) i u=true->(∃y,kv y=true∧∀k:KV->Bool,k y=true->Fw k (len u) i u=true)∨∃x,rx x=true∧Rz G P (getItem v w) x:=by
  rintro a vs rfl ht rs h;obtain⟨z,t,rfl,b1,b2,hy|⟨hr,hz,_⟩⟩:=wJ h ri rfl
  ·exact .inl hy
  ·refine .inr ⟨_,hr,λQ E K=>?_⟩;rw[rs.len_eq]at hz;refine b8 (id ht) ?_;intro o ho hc zq;refine az zq ?_;clear zq;intro n hd;have hT:P.s.TypeIs (.ref a) "tuple":=⟨o,ho,hc⟩
   unfold getItem;refine Rn (Qy (U4 hT (by decide) ?_));refine Qy (Rx (name:=Rg "__getitem__") hT Ui
    (Rk Ui hT F.entry_tuple_getitem ?_ (F.args_tuple_getitem_2 _ _)))
   show QQ _ _ (Builtin.Tuple.tupleItemsOf (.ref a)>>=_) _ _ _;refine Qy (wpAny_tupleItemsOf ho hd ?_);refine Qy (wpAny_typeOf (typeIs_int P.s z t) ?_);refine rwr (if_neg (by decide)) ?_;refine Qy (Sd (T:="int") (typeIs_int P.s z t) int_index ?_);refine rwr (if_neg (by simp)) ?_;refine Qy (wpAny_of_eq (a:=z) rfl ?_);refine rwr (if_neg (by simp only[UL,decide_eq_true_eq];lia)) ?_;refine rwr Te (rwr hz ?_);simp only[Option.bind_none];have hE:∀h' tk e,Heap.NewExc P.R.h h' e "IndexError"->E (.ref e) ⟨h',C.g,C.d,tk,C.os⟩:=λh' tk e N=>K P h' tk e "IndexError" rfl (.refl _ _) (.inr ⟨rfl,rfl⟩) N;have hh':G.A.in1.handled=none:=G.handled lo;first
    |exact Qy (SU (by exact_raiseError plainExc_IndexError hh' hE))
    |exact Qy (SU (Qy (by exact_raiseError plainExc_IndexError hh' hE)))
 cases u with
 |nil=>refine ah (id r) ?_;intro a e ht;exact(tup e ht .nil_ h).imp (λ⟨y,a,b⟩=>⟨y,a,λk hk=>b (k P.m) hk⟩) id
 |cons x y=>refine dM (id r) ?_;rintro a w ws e ht h1 h2 -;exact(tup e ht (.cons_ h1 h2) h).imp (λ⟨y,a,b⟩=>⟨y,a,λk hk=>b (k P.m) hk⟩) id
 |ref q=>
  refine ah (id r) ?_;clear r;rintro p hp rfl;refine aI h hp ?_;clear h;intro o e ro h;cases o with
  |list n xs=>
   refine ar ro ?_;clear ro;rintro -zq;refine d9 zq ?_;clear zq;rintro vs c hob rs rfl hl;obtain⟨z,t,rfl,b1,b2,⟨y,hy,hk⟩|⟨hr,hz,ho⟩⟩:=wJ h ri (by refine rwr rs.len_eq ?_;simp)
   ·exact .inl ⟨y,hy,λk h'=>by show b9 _ _ _=true;unfold b9;refine rwr e ?_;exact hk (k P.m) h'⟩
   ·exact .inr ⟨_,hr,λQ E K=>wpAny_getItem_list_out (s:=P.s) (G.handled lo) ⟨_,hob,rfl,c,rfl⟩ ho b1 b2 λh' tk e N=>K P h' tk e "IndexError" rfl (.refl _ _) (.inr ⟨rfl,rfl⟩) N⟩
  |dict n es=>
   refine dI h ?_;clear h;intro h1 h;refine ar ro ?_;clear ro;rintro -zq;refine xm zq ?_;clear zq;rintro ob es' ep hob hx hdat hE hnd -;cases hd:dl es i with
   |some y=>unfold cz at h;rw[hd]at h;exact .inl ⟨y,h,λk h'=>by show b9 _ _ _=true;unfold b9;refine rwr e ?_;exact aP.mpr ⟨h1,by unfold cz;refine rwr hd ?_;exact h'⟩⟩
   |none=>
    unfold cz at h;rw[hd]at h;refine .inr ⟨_,h,λQ E K=>?_⟩;have hT:P.s.TypeIs (.ref p.fst) "dict":=⟨_,hob,hx.1⟩
    unfold getItem;refine Rn (Qy (U4 hT (by decide) ?_));refine Qy (Rx (name:=Rg "__getitem__") hT TH
     (Rk TH hT F.entry_dict_getitem ?_ (F.args_dict_getitem_2 _ _)))
    show QQ _ _ (dictGet p.fst w>>=_) _ _ _;refine Qy (jr (s:=P.s) h1 ri rfl hob hdat hE (by have:=G.units;show G.A.units+1+_<_;lia) hnd (λZ t'=>?_) λy val e' Z t'=>by rw[hd]at e';exact cO e');show QQ _ _ (Builtin.Dict.missed p.fst w>>=_) _ _ _;refine Qy (wpAny_missed_other (gW O P.good hp) ?_);refine Qy (wpAny_typeOf (s:=(P.tick t').s) hT ?_);show QQ _ _ (if(Value.type "dict" != Value.type "dict")=true then _ else _) _ _ _;refine rwr (if_neg (by decide)) ?_;exact Qy (SU (wpAny_raise_newExc (A:=G.A.in1) plainExc_KeyError (G.handled lo) (λh' e N=>K P h' t' e "KeyError" rfl (.refl _ _) (.inl ⟨rfl,rfl⟩) N)))
  |_=>exact aO h
 |_=>exact aO h
end
end
section
variable{C:Cx}{Γ:cW}{R R':Wd}
section
variable{P₀:Pg}(O:C.Ok P₀){e i o:Qz}{p1 p2 p:PX}{pos ap:Pos}
open Classical in
theorem oN.val(h:oN C Γ e p){F:dO C Γ}{P:Pt C}{en:En}{u:KV}(er:ER F P.R en)(hu:∀(kv':KV->Bool)(rx':Nat->Bool),kv' u=true->p F.cl en P.m kv' rx'=true):Vz F P (eval e F.menv) u:=by
 rcases h.2 F P en (λv=>decide (v=u)) (λzz=>false) er (hu _ _ (by exact if_pos rfl))with zq|zq
 ·refine ah zq ?_;clear zq;intro w hw V;cases of_decide_eq_true hw;exact V
 ·refine ah zq ?_;clear zq;intro x hx _;exact aO hx
open Classical in
theorem oN.rz(h:oN C Γ e p){F:dO C Γ}{P:Pt C}{en:En}{x:Nat}(er:ER F P.R en)(hu:∀(kv':KV->Bool)(rx':Nat->Bool),rx' x=true->p F.cl en P.m kv' rx'=true):Rz F P (eval e F.menv) x:=by
 rcases h.2 F P en (λv=>false) (λy=>decide (y=x)) er (hu _ _ (by exact if_pos rfl))with zq|zq
 ·refine ah zq ?_;clear zq;intro w hw _;exact aO hw
 ·refine ah zq ?_;clear zq;intro y hy Z;cases of_decide_eq_true hy;exact Z
theorem Au{f:KV->Bool}{g:Pa->Bool}{u:KV}(h:qZ f g u=true):r0 (λzz=>false) f g (λzz=>false) u=true:=by cases u<;>exact h
include O
open Classical in
theorem zU(lo:Γ.loud=true)(h1:oN C Γ o p1)(h2:oN C Γ i p2)(hi:gm i=false):oN C Γ (.Subscript o i pos) (vb p1 p2):=by
 have lin:∀c en m,KU (vb p1 p2 c en m):=λc en m kv rx h=>by
  rcases h1.1 c en m _ _ h with zq|zq
  ·refine ah zq ?_;clear zq;intro u h a1;rcases h2.1 c en m _ _ h with zq|zq
   ·refine ah zq ?_;clear zq;intro j h a2;rcases wQ kv rx h with zq|zq
    ·refine ah zq ?_;clear zq;intro y hy a3;exact .inl ⟨y,hy,λkv' rx' hk=>a1 _ _ (a2 _ _ (a3 _ _ hk))⟩
    ·refine ah zq ?_;clear zq;intro x hx a3;exact .inr ⟨x,hx,λkv' rx' hk=>a1 _ _ (a2 _ _ (a3 _ _ hk))⟩
   ·refine ah zq ?_;clear zq;intro x hx a2;exact .inr ⟨x,hx,λkv' rx' hk=>a1 _ _ (a2 _ _ hk)⟩
  ·refine ah zq ?_;clear zq;intro x hx a1;exact .inr ⟨x,hx,λkv' rx' hk=>a1 _ _ hk⟩
 refine⟨lin,λF P en kv rx er h=>?_⟩;rcases h1.1 _ _ _ _ _ h with zq|zq
 ·refine ah zq ?_;clear zq;intro u h a1;have V1:=h1.val er a1;rcases h2.1 _ _ _ _ _ h with zq|zq
  ·refine ah zq ?_;clear zq;intro j h a2;have tail:∀(P2:Pt C){v w:QD}{Q:QD->QE->Prop}{E:QD->QE->Prop},P2.m=P.m->VR C P2.R u v->QQ (R6 C.prog C.w) F.A (getItem v w) (λr=>Q r) E P2.s->QQ (R6 C.prog C.w) F.A (PyProof.Rows.subscriptTail o i v w) Q E P2.s:=λP2 v w Q E e2 r q=>by
    unfold PyProof.Rows.subscriptTail;refine Qy (kK (P':=P2) (t:=P2.t) r (Au (by rw[e2];exact h)) rfl ?_);rw[iE hi];exact Qy (wpAny_operating (Sq q (λr s q=>Qy (SP (QC q))) λY Y e=>e))
   rcases wQ kv rx h with zq|zq
   ·refine ah zq ?_;clear zq;intro y hy a3;refine .inl ⟨y,hy,λQ E K=>U9 (V1 _ E λP1 v e1 L1 r1=>h2.val (er.later L1) (e1▸a2) _ E λP2 w e2 L2 r2=>tail P2 (e2.trans e1) (r1.later L2) ?_)⟩;rcases pC O lo (P:=P2) (G:=F) (kv:=λz=>decide (z=y)) (rx:=λY=>false) (r1.later L2) r2 (by refine rwr e2 (rwr e1 ?_);exact a3 _ _ (by exact if_pos rfl))with⟨z,hz,hk⟩|⟨x,hx,_⟩
    ·cases of_decide_eq_true hz;refine u0 O (k:=λs z=>decide (s=P2.m∧z=y)) (r1.later L2) r2 (hk _ (by simp)) F.units λP3 z v' L3 r3 h3=>?_;refine ar (of_decide_eq_true h3) ?_;clear h3;rintro a rfl;exact K P3 v' (a.trans (e2.trans e1)) ((L1.trans L2).trans L3) r3
    ·exact aO hx
   ·refine ah zq ?_;clear zq;intro x hx a3;refine .inr ⟨x,hx,λQ E K=>U9 (V1 _ E λP1 v e1 L1 r1=>h2.val (er.later L1) (e1▸a2) _ E λP2 w e2 L2 r2=>tail P2 (e2.trans e1) (r1.later L2) ?_)⟩;rcases pC O lo (P:=P2) (G:=F) (kv:=λY=>false) (rx:=λz=>decide (z=x)) (r1.later L2) r2 (by refine rwr e2 (rwr e1 ?_);exact a3 _ _ (by exact if_pos rfl))with⟨z,hz,hk⟩|⟨y,hy,Z⟩
    ·exact aO hz
    ·cases of_decide_eq_true hy;exact Z _ E λP3 h' t e cls e3 L3=>K P3 h' t e cls (e3.trans (e2.trans e1)) ((L1.trans L2).trans L3)
  ·refine ah zq ?_;clear zq;intro x hx a2;exact .inr ⟨x,hx,λQ E K=>U9 (V1 _ E λP1 v e1 L1 r1=>h2.rz (er.later L1) (e1▸a2) _ E λP3 h' t e cls e3 L3=>K P3 h' t e cls (e3.trans e1) (L1.trans L3))⟩
 ·refine ah zq ?_;clear zq;intro x hx a1;exact .inr ⟨x,hx,λQ E K=>U9 (h1.rz er a1 _ E K)⟩
end
end
end
section
set_option backward.match.sparseCases true
open PySem PySem.W PyProof.Rows
variable{C:Cx}{Γ:cW}{R R':Wd}
def ET(C:Cx)(Γ:cW)(s:U6)(p:PX):Prop:=∀(F:dO C Γ)(P:Pt C)(en:En)(B:Bool)(rx:Nat->Bool),ER F P.R en->p F.cl en P.m (λzz=>B) rx=true->B=true∨∃x,rx x=true∧Rz F P (exec s F.menv) x
section
variable{e te o:Qz}{p:PX}{pos ap pos2:Pos}{nm:Str}{args:List Qz}
theorem zS(h:oN C Γ e p)(hn:gx e=false)(hn2:(gJ te&&gJ e)=false):ET C Γ (.Assign [te] e pos) p:=λF P en B rx er hp=>by
 rcases h.2 F P en _ rx er hp with zq|zq
 ·refine ah zq ?_;clear zq;intro u hb _;exact .inl hb
 ·refine ah zq ?_;clear zq;intro x hx Z;exact .inr ⟨x,hx,λQ E K=>T7 (Z _ E K) (ki hn _ _) (fE hn2 _)⟩
theorem xQ(h:oN C Γ o p)(ho:aZ o=false):ET C Γ (.Expr (.Call (.Attribute o nm ap) args [] pos) pos2) p:=λF P en B rx er hp=>by
 rcases h.2 F P en _ rx er hp with zq|zq
 ·refine ah zq ?_;clear zq;intro u hb _;exact .inl hb
 ·refine ah zq ?_;clear zq;intro x hx Z;refine .inr ⟨x,hx,λQ E K=>wpAny_Expr_any ?_ F.noInter (jh rfl _ _ _)⟩;rw[UO,cQ ho];exact Qy (Z _ E K)
end
structure gR(C:Cx)(R:Wd)(fr:List Rd)(h':SG)(e:Ri):Prop where
 same:∀b o,b∉e::fr.filterMap (·.frame)->R.h.get? b=some o->h'.get? b=some o
 fram:∀b∈fr.filterMap (·.frame),∃o es ep sl,R.h.get? b=some o∧o.data=.dict es ep∧¬dA R b∧C.h₀.get? b=none∧b∉C.vol∧h'.get? b=some {o with slots:=sl}
section
variable{fr:List Rd}{h':SG}{e:Ri}
theorem gR.but{T:Ri}{h'':SG}(N:gR C R fr h' e)(d:R.h.get? T=none)(k:∀b o,b≠T->h'.get? b=some o->h''.get? b=some o):gR C R fr h'' e:=by
 refine⟨λb o hb z=>k b o (λw=>nn d (w▸z)) (N.same b o hb z),λb hb=>?_⟩;refine gu (N.fram b hb) ?_;intro o es ep sl z1 z2 z3 z4 z5 z6;exact⟨o,es,ep,sl,z1,z2,z3,z4,z5,k b _ (λw=>nn d (w▸z1)) z6⟩
theorem gR.keep{h'':SG}(N:gR C R fr h' e)(k:∀b o,h'.get? b=some o->h''.get? b=some o):gR C R fr h'' e:=N.but (T:=R.h.objs.size) (bg _) λb o Z z=>k b o z
theorem gR.good{μ:KS}(G:bM C R μ)(fe:cD C R e)(hd:∀o,R.h.get? e=some o->∀es ep,o.data≠.dict es ep)(N:gR C R fr h' e):bM C ⟨R.ρ,h',R.fz⟩ μ∧ay [e] R ⟨R.ρ,h',R.fz⟩:=by
 have fr':∀b∈e::fr.filterMap (·.frame),cD C R b:=λb hm=>by
  rcases QH.mp hm with rfl|hm
  ·exact fe
  ·refine gu (N.fram b hm) ?_;intro o es ep sl z1 z2 z3 z4 z5 z6;refine⟨z3,λz=>?_,z5,z4,G.fzNot z1 (λvs k z=>QO (z2.symm.trans z)),o,z1,λxs n z=>(QO (z2.symm.trans z)),λvs q t z=>(QO (z2.symm.trans z))⟩;refine aH (G.frz _ z) ?_;rintro oc v e1 e2 -;cases z1.symm.trans e1;rw[z2]at e2;exact QO e2
 refine ar (G.asides N.same fr') ?_;intro G' L';refine⟨G',λZ Z h=>h,λZ Z h=>.inl h,L'.tup,λb o z no nx=>?_,λb o nx z=>?_,L'.code,L'.fl,λZ=>.inl⟩
 ·by_cases hm:b∈fr.filterMap (·.frame)
  ·refine gu (N.fram b hm) ?_;rintro o' es ep sl y1 y2- - -y5;cases z.symm.trans y1;exact⟨_,y5,.inr ⟨⟨es,ep,y2⟩,sl,rfl⟩⟩
  ·exact⟨o,N.same b o (by simp only[QH,not_or];exact⟨λq=>nx (by simp[q]),hm⟩) z,.inl rfl⟩
 ·by_cases hm:b∈fr.filterMap (·.frame)
  ·refine gu (N.fram b hm) ?_;rintro o' es ep sl y1 y2- - -y5;exact⟨_,y5⟩
  ·exact⟨o,N.same b o (by simp only[QH,not_or];exact⟨λq=>nx (by simp[q]),hm⟩) z⟩
end
section
variable{F:dO C Γ}{P:Pt C}{en:En}{E:QD->QE->Prop}
theorem Ay(st:Γ.st=true)(er:ER F P.R en){e:Ri}{ob:Obj}{cls:String}{tv:QD}(he:P.R.h.get? e=some ob)(hcls:ob.cls=.type cls)(hd:ob.data=.fields #[tv,.none,.none,.none,.bool false,.none])
  {Q:Unit->QE->Prop} (q:∀h',gR C P.R F.fr h' e->m8 P.R.h h' e cls->Q () ⟨h',C.g,C.d,P.t,C.os⟩):
  QQ (R6 C.prog C.w) F.A (noteFrame (.ref e) F.menv) (λzz s'=>QQ (R6 C.prog C.w) F.A (setFlight (.ref e) none) Q E s') E P.s:=by
 refine az (F.top st) ?_;intro outer hfr;refine ar (er.fr F.menv (by rw[hfr];exact QF)) ?_;rintro -zq;refine uc zq ?_;clear zq;rintro L oL esL epL hf -;refine az (EL P.R.h (e::F.fr.filterMap (·.frame))) ?_;intro base hb;have fmem:∀x∈F.fr,∀b,x.frame=some b->b∈e::F.fr.filterMap (·.frame):=λx hx b hb=>QI _ (List.mem_filterMap.mpr ⟨x,hx,hb⟩);have FF:P.R.h.FunFrames base F.fr:=kM _ λx hx=>by
  refine ar (er.fr x hx) ?_;intro k zq;refine gu zq ?_;clear zq;rintro L o es ep a- - -c d;exact⟨k,L,o,es,ep,a,by rw[hb,if_pos (fmem x hx L a)],c,d⟩
 have hkb:base.StaysIn P.R.h:=λb o z=>by
  rw[hb]at z
  split at z
  ·exact cO z
  ·exact z
 have hbe:base.get? e=none:=by rw[hb,if_pos QF]
 unfold noteFrame;simp only[hf];refine Qy (Ss he hd (x:=.none) rfl ?_);rw[if_neg (by decide)];rw[hfr]at FF;refine wpAny_newEntry (s:=P.s) (base:=base) (by rw[F.room.frames,hfr]) FF hf he hkb hbe hd (by simp) λh' Lf=>?_;refine lW Lf ?_;clear Lf;intro k1 k2 k3 k4;have isF:∀b,b∈F.fr.filterMap (·.frame)->∃o es ep sl,P.R.h.get? b=some o∧o.data=.dict es ep∧¬dA P.R b∧C.h₀.get? b=none∧b∉C.vol∧h'.get? b=some {o with slots:=sl}:=λb hm=>by
  refine Lk hm ?_;intro x hx hxf;refine ar (er.fr x hx) ?_;intro k zq;refine gu zq ?_;clear zq;intro L o es ep a c0 cv no c d;cases hxf.symm.trans a;refine az (k4 b o c λvs z=>QO (d.symm.trans z)) ?_;intro sl hsl;exact⟨o,es,ep,sl,c,d,no,c0,cv,hsl⟩
 refine Bm k3 ?_;clear k3;intro oe vs T oT ts t1 t2 t3 t4 t5 t6 t7 zq;refine ar zq ?_;clear zq;intro t8 t9;have hTd:P.R.h.get? T=none:=by
  rw[hb]at t5
  split at t5
  ·rename_i hm;rcases QH.mp hm with z|z
   ·exact absurd z t6
   ·refine gu (isF T z) ?_;rintro o es ep sl-d- - -z2;rw[t7]at z2;cases z2;dsimp only at t8;rw[d]at t8;exact QO t8
  ·exact t5
 exact q h' ⟨λb o nb z=>k1 b o (by rw[hb,if_neg nb];exact z),isF⟩ ⟨oe,vs,T,oT,ts,t1,t2.trans hcls,t3,t4,hTd,t6,t7,t8,(SD.mp t9).1⟩
theorem og{A:RR}{fr:List Rd}{h:SG}{e:Ri}{cls:String}{t:Nat}(N:gR C R fr h e)(T:m8 R.h h e cls){Q:Unit->QE->Prop}{E:QD->QE->Prop}
  (q:∀h',gR C R fr h' e->Q () ⟨h',C.g,C.d,t,C.os⟩):QQ (R6 C.prog C.w) A (setFlight (.ref e) none) Q E ⟨h,C.g,C.d,t,C.os⟩:=by
 refine Bm T ?_;intro oe vs T oT ts t1 t2 t3 t4 t5 t6 t7 zq;refine ar zq ?_;clear zq;intro t8 t9;exact wpAny_setFlight_none t1 t3 t4 t7 t8 t9 (q _ (N.but t5 λb o hb z=>(Heap.get?_update_ne _ _ _ _ hb).trans z))
end
inductive jZ(Γ:cW):Qz->List Nat->Prop
 |one {T:String} {k:Nat} {pos:Pos}:jY k T->Γ.kd (Rg T)=some .globalImplicit->jZ Γ (.Name (Rg T) pos) [k]
 |two {T U:String} {k l n:Nat} {p1 p2 pos:Pos}:jY k T->jY l U->Γ.kd (Rg T)=some .globalImplicit->Γ.kd (Rg U)=some .globalImplicit->jZ Γ (.Tuple [.Name (Rg T) p1,.Name (Rg U) p2] n pos) [k,l]
section
variable{P₀:Pg}(O:C.Ok P₀){F:dO C Γ}{P:Pt C}{en:En}{E:QD->QE->Prop}
include O
theorem i4{A:RR}{h':SG}{t:Nat}(keep:bv C.h₀ h'){pos:Pos}{T:String}{k:Nat}(hT:jY k T)(hk:Γ.kd (Rg T)=some .globalImplicit){Q:QD->QE->Prop}{E:QD->QE->Prop}
  (q:Q (.type T) ⟨h',C.g,C.d,t,C.os⟩):QQ (R6 C.prog C.w) A (eval (.Name (Rg T) pos) F.menv) Q E ⟨h',C.g,C.d,t,C.os⟩:=by
 refine Un F.kind ((F.kof _).trans hk) (O.exc T hT.cls A Q E ⟨h',C.g,C.d,t,C.os⟩ F.menv F.glob F.bi keep q) ?_;rcases hT.cls with rfl|rfl<;>decide+kernel
theorem rO{e:Ri}{cls:String}{k:Nat}{ks:List Nat}{tt:Qz}{hd:U6}{hpos:Pos}(hx:jZ Γ tt ks)(hk:jY k cls)(hit:ks.any (QB k)=true){h':SG}{t:Nat}(N:gR C P.R F.fr h' e)(T:m8 P.R.h h' e cls)(keep:bv C.h₀ h'){Q:Su->QE->Prop}
  (q:∀h'' t'' E,gR C P.R F.fr h'' e->QQ (R6 C.prog C.w) (F.A.mark (some (.ref e))) (execs [hd] F.menv) Q E ⟨h'',C.g,C.d,t'',C.os⟩):
  QQ (R6 C.prog C.w) F.A (handleBy (.ref e) F.menv [.ExceptHandler (some tt) none [hd] hpos]) Q E ⟨h',C.g,C.d,t,C.os⟩:=by
 have hX:=hk.cls;have eq:∀{l:Nat}{U:String},jY l U->QB k l=true->cls=U:=λhl hb=>by cases bR.mp hb;exact hk.uniq hl
 cases hx with
 |@one T1 k1 pos h1 hkd=>
  have hc:=eq h1 (by simpa using hit);refine oh hX h1.cls ?_;intro b hb hbt;have:b=true:=hbt hc;subst this;refine wpAny_handleBy_builtin (gM h1.cls).1 (gM h1.cls).2 hb (i4 (F:=F) O keep h1 hkd ⟨rfl,T.typeIs,?_⟩);rw[if_pos rfl];exact og N T λh'' N'=>q h'' _ _ N'
 |@two T1 T2 k1 k2 n p1 p2 pos h1 h2 hk1 hk2=>
  refine oh hX h1.cls ?_;intro b1 hb1 hbt1;refine oh hX h2.cls ?_;intro b2 hb2 hbt2;have hor:(b1||b2)=true:=by
   have hit:(QB k k1||(QB k k2||false))=true:=hit;rcases UL _ _|>.mp hit with z|z
   ·rw[hbt1 (eq h1 z)];rfl
   ·rw[Bool.or_false]at z;rw[hbt2 (eq h2 z),Bool.or_true]
  refine wpAny_handleBy_tup2 (gM h1.cls).1 (gM h1.cls).2 (gM h2.cls).1 (gM h2.cls).2 hb1 hb2 ?_;refine wpAny_Tuple (wpAny_items_cons (i4 (F:=F) O keep h1 hk1 (wpAny_items_cons (i4 (F:=F) O keep h2 hk2 (wpAny_items_nil ⟨by show 2≤_;refine rwr TQ ?_;decide,?_⟩)) rfl)) rfl);refine⟨_,rfl,IsTup.new _ _,(T.push _).typeIs,?_⟩;refine rwr (if_pos hor) ?_;exact og (N.keep λb o z=>RH _ z) (T.push _) λh'' N'=>q h'' _ _ N'
theorem CQ{b hd:U6}{tt:Qz}{ks:List Nat}{hpos pos:Pos}{p:PX}{yb yh:Y}(lo:Γ.loud=true)(st:Γ.st=true)(hz:ET C Γ b p)(hb:d5 C Γ b yb)(hc:jZ Γ tt ks)(hh:d5 C {Γ with loud:=false} hd yh):
  d5 C Γ (.Try [b] [.ExceptHandler (some tt) none [hd] hpos] [] [] pos) (yG p ks yb yh):=λF P fr k en Q E er h K=>by
 refine wpAny_Try_except (Ul ?_);rcases hz F P en _ _ er h with h|zq
 ·refine hb F P fr k en _ _ er h λP1 fl L f=>?_;cases fl with
  |next=>exact wpAny_execs_nil (wpAny_execs_nil (K P1 .next L f))
  |_=>exact K P1 _ L f
 ·refine ah zq ?_;clear zq;intro x h Z;refine dI h ?_;clear h;intro hit h;refine Z _ _ λP1 h1 t1 e cls e1 L1 hk N=>?_;refine aH N.there ?_;intro ob tv he hcls hd';have de:=N.new;have er2:ER F (P1.more N.keeps t1).R en:=(er.later L1).later (.keeps _ N.keeps);have fe:cD C (P1.more N.keeps t1).R e:=cD.fresh P1.good de he (λxs n z=>by rw[hd']at z;exact QO z) (λvs q t z=>by rw[hd']at z;cases z;exact ne_of_beq_false rfl);have nd:∀o,(P1.more N.keeps t1).R.h.get? e=some o->∀es ep,o.data≠.dict es ep:=λo ho es ep z=>by cases he.symm.trans ho;rw[hd']at z;exact QO z
  refine Ay (P:=P1.more N.keeps t1) st er2 he hcls hd' λh2 N2 T2=>?_;refine rO O (P:=P1.more N.keeps t1) hc hk hit N2 T2 (N2.good (P1.more N.keeps t1).good fe nd).1.keep λh3 t3 E3 N3=>?_;refine ar (N3.good (P1.more N.keeps t1).good fe nd) ?_;intro G3 L3;have er3:ER F ⟨P1.R.ρ,h3,P1.R.fz⟩ en:=er2.one L3 ⟨ob,he,λes ep=>nd ob he es ep,λv z=>by rw[hd']at z;exact QO z⟩;have L13:ay (ci C F.menv) P.R ⟨P1.R.ρ,h3,P1.R.fz⟩:=((((L1.trans (.keeps C.vol N.keeps)).frame (menv:=F.menv)).mono (Y:=e::ci C F.menv) λb hb=>QI _ hb).trans (L3.mono λb hb=>by simp at hb;subst hb;exact QF)).strike λb hb=>(QH.mp hb).elim (λz=>.inr (z▸Pt.dead L1 de)) .inl;have mk:∃F':dO C {Γ with loud:=false},F'.menv=F.menv∧F'.A=F.A.mark (some (.ref e))∧F'.cl=F.cl∧F'.fr=F.fr:=
   ⟨⟨F.menv,F.A.mark (some (.ref e)),F.cl,F.d,F.fr,F.kind,F.kof,F.glob,F.bi,F.lold,F.lvol,F.cell,F.inj,F.cdom,⟨F.room.depth,F.room.units,F.room.frames,F.room.guards⟩,λz=>(by exact aO z),F.top,F.lam,F.call⟩,rfl,rfl,rfl,rfl⟩
  refine cZ mk ?_;clear mk;intro F' f1 f2 f3 f4;have back:∀{R en},ER F' R en->ER F R en:=λ{R en} r=>⟨by refine rwl f1 ?_;exact r.ns,by refine rwl f1 ?_;exact r.lown,by refine rwl f1 ?_;exact r.cells,by refine rwl f4 ?_;exact r.fr⟩
  have er4:ER F' ⟨P1.R.ρ,h3,P1.R.fz⟩ en:=⟨by refine rwr f1 ?_;exact er3.ns,by refine rwr f1 ?_;exact er3.lown,by refine rwr f1 ?_;exact er3.cells,by refine rwr f4 ?_;exact er3.fr⟩
  refine Ul ?_;have key:=hh F' ⟨_,P1.m,t3,G3⟩ fr k en (λfl s=>match fl with|.next=>QQ (R6 C.prog C.w) (F.A.mark (some (.ref e))) (execs [] F.menv) Q E3 s|f=>Q f s) E3 er4 (by refine rwr f3 (rwr e1 ?_);exact h) λP5 fl L5 hf=>?_
  ·rw[f1,f2]at key;exact key
  ·rw[f1]at L5;have hf:Ls F fr k P5 fl:=by
    cases fl with
    |ret v=>exact hf
    |_=>refine ah hf ?_;clear hf;intro en5 a b;exact⟨en5,back a,b⟩
   have:=K P5 fl (L13.trans L5) hf;cases fl with
   |next=>exact wpAny_execs_nil this
   |_=>exact this
end
end
section
open PySem PySem.W PyProof.Rows
section
section
variable{C:Cx}{Γ:cW}
section
variable{α β:Type}
def c8(b:Bool)(t:b=true->α)(z:α):α:=@RJ (λb=>(b=true->α)->α) (λzz=>z) (λt=>t rfl) b t
def eE(o:Option β)(t:∀x,o=some x->α)(z:α):α:=@Ua β (λo=>(∀x,o=some x->α)->α) (λzz=>z) (λx t=>t x rfl) o t
end
abbrev RX(C:Cx)(Γ:cW)(e:Qz):={x:X // bx C Γ e x}
abbrev RC(C:Cx)(Γ:cW)(e:Qz):={c:Cn // fx C Γ e c}
abbrev RL(C:Cx)(Γ:cW)(es:List Qz):=Option {x:X // kQ C Γ es x∧cH es=true}
abbrev FX(C:Cx):=∀Γ e,RX C Γ e
abbrev FC(C:Cx):=∀Γ e,RC C Γ e
noncomputable def bX{e:Qz}:RX C Γ e:=⟨xC,D8⟩
noncomputable def bC{e:Qz}:RC C Γ e:=⟨KB,A4⟩
noncomputable def lu:Option SJ->Bool
 |some .globalImplicit=>true
 |_=>false
theorem f6{k:Option SJ}(h:lu k=true):k=some .globalImplicit:=by
 cases k with
 |none=>exact aO h
 |some k=>cases k<;>first|rfl|exact aO h
noncomputable def gn:Option SJ->Bool
 |some .local=>true
 |_=>false
theorem eZ{k:Option SJ}(h:gn k=true):k=some .local:=by
 cases k with
 |none=>exact aO h
 |some k=>cases k<;>first|rfl|exact aO h
theorem bj{b:Bool}(h:(!b)=true):b=false:=by cases b<;>first|rfl|exact aO h
noncomputable def gp(s:Str):Bool:=s==("__debug__":Str)
section
variable{P₀:Pg}(O:C.Ok P₀)
include O
theorem A0{a:Qz}{x:X}{nm:Str}{c:Nat}{p p':Pos}(hg:P₀.gl nm=some (.con (.str c)))(hk:Γ.kd nm=some .globalImplicit)(hd:gp nm=false)(hx:bx C Γ a x):fx C Γ (.Compare a [.In] [.Name nm p'] p) (uu ((oz c).map λx=>gN [x]) x):=λF P en t f Q E R h K=>by
 refine ah (O.con nm _ hg) ?_;intro val r ld;refine aH (r ⟨λzz=>none,C.h₀,λzz=>False⟩) ?_;rintro s t' rfl rfl ok;rw[fA ok]at h;refine Ti (hx F P en _ _ E R h λP1 u v L r h1=>eA ld hk hd ?_) rfl;show QQ _ _ (do return Ud (←contains _ v)) _ _ _;exact Qy (rM (F:=F) (P:=P1) ok r h1 λP2 b L2 q=>QC (S5 (K P2 b (L.trans L2) q)))
theorem D3{a:Qz}{x:X}{nm:Str}{c:Nat}{p p':Pos}(hg:P₀.gl nm=some (.con (.str c)))(hk:Γ.kd nm=some .globalImplicit)(hd:gp nm=false)(hx:bx C Γ a x):bx C Γ (.Compare a [.In] [.Name nm p'] p) (dz (uu ((oz c).map λx=>gN [x]) x)):=λF P en k Q E R h K=>by
 refine ah (O.con nm _ hg) ?_;intro val r ld;refine aH (r ⟨λzz=>none,C.h₀,λzz=>False⟩) ?_;rintro s t' rfl rfl ok;rw[fA ok]at h;refine wpAny_Compare1 (hx F P en _ _ E R h λP1 u v L r h1=>eA ld hk hd ?_) rfl;show QQ _ _ (do return Ud (←contains _ v)) _ _ _;exact Qy (rM (F:=F) (P:=P1) (Q:=λb s=>QQ (R6 C.prog C.w) F.A (pure (Ud b)) Q E s) ok r h1 λP2 b L2 q=>QC (K P2 (.bool b) (.bool b) (L.trans L2) .bool_ (by cases b<;>exact q)))
def Hc(c:PySem.Const)(n:Nat)(p:Pos):RX C Γ (.Constant c n p):=match c with
 |.none=>⟨af .none,zu⟩
 |.bool b=>⟨af (.bool b),zR⟩
 |.int (.ofNat i)=>⟨af (.nat i),ji⟩
 |.int (.negSucc i)=>⟨af (.neg i),CX⟩
 |.str s=>c8 (Fm s) (λh=>⟨af (.str (iz s)),CS h⟩) bX
 |_=>bX
def GX(s:Str)(p:Pos):RX C Γ (.Name s p):=eE (Γ.slot s) (λq hs=>c8 (!gp s) (λh1=>c8 (!(s==("__classdict__":Str))) (λh2=>⟨ae q,wn hs (bj h1) (bj h2)⟩) bX) bX) bX
def JI(s:Str)(p:Pos):RX C Γ (.Name s p):=c8 (lu (Γ.kd s)) (λhk=>c8 (!gp s) (λhd=>eE (P₀.gl s) (λg hg=>(match(motive:=∀g,P₀.gl s=some g->RX C Γ (.Name s p)) g,hg with
 |.con v,hg=>⟨af v,wv O hg (f6 hk) (bj hd)⟩
 |_,_=>bX)) bX) bX) (GX s p)
def JN{o:Qz}(a:Str)(p:Pos)(r:RX C Γ o):RX C Γ (.Attribute o a p):=eE (C.sl a) (λq hs=>c8 (!aZ o) (λho=>eE (P₀.df a) (λcv hd=>⟨uH q cv.1 cv.2 r.1,xP O hs hd (bj ho) r.2⟩) ⟨ak q r.1,sW O hs (bj ho) r.2⟩) bX) bX
def Md{o:Qz}(L:FX C)(r rf:RX C Γ o)(i:Qz)(p:Pos):RX C Γ (.Subscript o i p):=match i with
 |.Slice none none none _=>⟨yM r.1,zM r.2⟩
 |.Slice (some a) none none _=>⟨kb r.1 (L Γ a).1,zE r.2 (L Γ a).2⟩
 |.Slice none (some a) none _=>⟨Cv r.1 (L Γ a).1,Gx r.2 (L Γ a).2⟩
 |i=>c8 (!gm i) (λh=>⟨aD rf.1 (L Γ i).1,CR O rf.2 (L Γ i).2 (bj h)⟩) bX
omit O in
def nU(L:∀e,RX C Γ e):∀es,RL C Γ es:=@SK _ (λes=>RL C Γ es) (some ⟨ao,bE,rfl⟩) (λe es ih=>eE ih (λr Z=>c8 (!bh e) (λh=>some ⟨ab (L e).1 r.1,bp (bj h) (L e).2 r.2.1,by unfold cH at*;refine rwr TP (rwr h ?_);exact r.2.2⟩) none) none)
def Mk{a b:Qz}(op:UP)(p:Pos)(x:RX C Γ a)(y:RX C Γ b):RX C Γ (.BinOp a op b p):=match op with
 |.Add=>⟨_,fP s7 x.2 y.2⟩
 |.Sub=>⟨_,fP xw x.2 y.2⟩
 |.Mult=>⟨_,fP EI x.2 y.2⟩
 |.Mod=>⟨_,fP EJ x.2 y.2⟩
 |.FloorDiv=>⟨_,fP Iw x.2 y.2⟩
 |.Pow=>⟨_,fP EH x.2 y.2⟩
 |_=>bX
def Kv(op:CmpOp):{k:KV->K0->K0->KT // j8 C op k} ⊕' Unit:=match op with
 |.Eq=>.inl ⟨d7,Io O⟩
 |.NotEq=>.inl ⟨jG,Ig O⟩
 |.Lt=>.inl ⟨jm,Ih O⟩
 |.Gt=>.inl ⟨su,Il O⟩
 |.LtE=>.inl ⟨Li,Ii O⟩
 |.GtE=>.inl ⟨JV,Im O⟩
 |.In=>.inl ⟨gT,Ik O⟩
 |.NotIn=>.inl ⟨k7,Ie O⟩
 |_=>.inr ()
def AE{a b:Qz}(op:CmpOp)(p:Pos)(x:RX C Γ a)(y:RX C Γ b):RC C Γ (.Compare a [op] [b] p):=match Kv O op with
 |.inl k=>c8 (!behindInMarks op b) (λh=>⟨aw k.1 x.1 y.1,A3 k.2 x.2 y.2 (bj h)⟩) bC
 |.inr _=>bC
def AD{a b:Qz}(op:CmpOp)(p:Pos)(x:RX C Γ a)(y:RX C Γ b):RX C Γ (.Compare a [op] [b] p):=match Kv O op with
 |.inl k=>c8 (!behindInMarks op b) (λh=>⟨dz (aw k.1 x.1 y.1),D5 k.2 x.2 y.2 (bj h)⟩) bX
 |.inr _=>bX
def Mg{a b:Qz}(p:Pos)(x:RX C Γ a)(y:RX C Γ b):RX C Γ (.Compare a [.In] [b] p):=match(motive:=∀b,RX C Γ b->RX C Γ (.Compare a [.In] [b] p)) b,y with
 |.Name nm p',y=>c8 (lu (Γ.kd nm)) (λhk=>c8 (!gp nm) (λhd=>eE (P₀.gl nm) (λg hg=>(match(motive:=∀g,P₀.gl nm=some g->RX C Γ (.Compare a [.In] [.Name nm p'] p)) g,hg with
  |.con (.str c),hg=>⟨dz (uu ((oz c).map λx=>gN [x]) x.1),D3 O hg (f6 hk) (bj hd) x.2⟩
  |_,_=>bX)) bX) bX) (AD O .In p x y)
 |_,y=>AD O .In p x y
def OT{a b:Qz}(p:Pos)(x:RX C Γ a)(y:RX C Γ b):RC C Γ (.Compare a [.In] [b] p):=match(motive:=∀b,RX C Γ b->RC C Γ (.Compare a [.In] [b] p)) b,y with
 |.Constant (.str s) n p',_=>c8 (Fm s) (λh=>⟨uu (s.cps.toList.map λx=>gN [x]) x.1,zZ h x.2⟩) bC
 |.Name nm p',y=>c8 (lu (Γ.kd nm)) (λhk=>c8 (!gp nm) (λhd=>eE (P₀.gl nm) (λg hg=>(match(motive:=∀g,P₀.gl nm=some g->RC C Γ (.Compare a [.In] [.Name nm p'] p)) g,hg with
  |.con (.str c),hg=>⟨uu ((oz c).map λx=>gN [x]) x.1,A0 O hg (f6 hk) (bj hd) x.2⟩
  |_,_=>bC)) bC) bC) (AE O .In p x y)
 |_,y=>AE O .In p x y
def OR{a b:Qz}(p:Pos)(x:RX C Γ a):RC C Γ (.Compare a [.Is] [b] p):=match b with
 |.Constant .none n p'=>⟨iq x.1,Ij x.2⟩
 |_=>bC
def Mf{a b:Qz}(p:Pos)(x:RX C Γ a):RC C Γ (.Compare a [.IsNot] [b] p):=match b with
 |.Constant .none n p'=>⟨EE x.1,yn x.2⟩
 |_=>bC
def Mj{a b:Qz}(op:CmpOp)(p:Pos)(x:RX C Γ a)(y:RX C Γ b):RC C Γ (.Compare a [op] [b] p):=match op with
 |.Is=>OR p x
 |.IsNot=>Mf p x
 |.In=>OT O p x y
 |op=>AE O op p x y
omit O in
def Mm(op:BoolOp)(M:∀e,RC C Γ e):∀es,Option {c:Cn // sf C Γ op es c}:=@SK _ (λes=>Option {c:Cn // sf C Γ op es c}) none λe es ih=>match op,es,ih with
 |.And,[],_=>some ⟨(M e).1,xW (M e).2⟩
 |.Or,[],_=>some ⟨(M e).1,A6 (M e).2⟩
 |.And,_,some r=>some ⟨gh (M e).1 r.1,A7 (M e).2 r.2⟩
 |.Or,_,some r=>some ⟨k8 (M e).1 r.1,Di (M e).2 r.2⟩
 |_,_,none=>none
def mC(L:FX C)(M:FC C):FC C:=λΓ e=>match e with
 |.UnaryOp .Not a _=>⟨fL (M Γ a).1,zY (M Γ a).2⟩
 |.BoolOp op es _=>eE (Mm op (M Γ) es) (λr Z=>⟨r.1,Dk r.2⟩) bC
 |.IfExp d a b _=>⟨KA (M Γ d).1 (M Γ a).1 (M Γ b).1,A2 (M Γ d).2 (M Γ a).2 (M Γ b).2⟩
 |.Compare a [op] [b] p=>Mj O op p (L Γ a) (L Γ b)
 |e=>c8 (Bv e) (λh=>⟨cT (L Γ e).1,GC O (L Γ e).2 h⟩) bC
end
end
end
section
variable{C:Cx}{Γ:cW}{R R':Wd}
theorem bM.weak{μ μ':KS}(G:bM C R μ)(hn:μ'.n=μ.n)(h:∀q,tg q μ'.h=tg q μ.h∨∃o o',tg q μ.h=some o∧tg q μ'.h=some o'∧∀p,eR C R o p->eR C R o' p):bM C R μ':=
 G.step (.refl _ _) rfl rfl hn (λq=>by
  rcases h q with e|zq
  ·exact rwr e rfl
  ·refine aH zq ?_;clear zq;intro o o' e1 e2 _;refine rwr e1 (rwr e2 ?_);rfl) (λq p hp=>by
  refine ah (G.dom q p hp) ?_;intro o e r;rcases h q with e'|zq
  ·exact⟨o,e'.trans e,r⟩
  ·refine aH zq ?_;clear zq;intro o1 o' e1 e2 f;cases QN (e.symm.trans e1);exact⟨o',e2,f p r⟩) G.keep (λZ Z=>rfl) λZ Z=>rfl
noncomputable def B4:List (QD×QD)->List QD
 |[]=>[]
 |(k,v)::r=>k::v::B4 r
def yt(C:Cx)(Γ:cW)(ks:List (Option Qz))(vs:List Qz)(x:X):Prop:=∀(F:dO C Γ)(P:Pt C)(en:En)(k:KT)(pos:Pos)(Q:List (QD×QD)->QE->Prop)(E:QD->QE->Prop),
 ER F P.R en->x F.cl en k P.m=true->(∀(P':Pt C)(u:KV)(ps:List (QD×QD)),ay C.vol P.R P'.R->bG C P'.R u (B4 ps)->k P'.m u=true->Q ps P'.s)->QQ (R6 C.prog C.w) F.A (evalPairs (pairTrees ks vs F.menv pos)) Q E P.s
theorem zX:yt C Γ [] [] ao:=λF P en k pos Q E R h K=>pairTrees_nil_walk (K P .nil [] (.refl _ _) rfl h)
theorem xU{a b:Qz}{ks:List (Option Qz)}{vs:List Qz}{x y r:X}(hx:bx C Γ a x)(hy:bx C Γ b y)(hr:yt C Γ ks vs r):yt C Γ (some a::ks) (b::vs) (ab x (ab y r)):=λF P en k pos Q E R h K=>
 pairTrees_cons_walk (hx F P en _ _ E R h λP1 u v L1 r1 h1=>hy F P1 en _ _ E (R.later L1) h1 λP2 w z L2 r2 h2=>hr F P2 en _ pos _ E (R.later (L1.trans L2)) h2 λP3 us ps L3 r3 h3=>
  K P3 _ _ ((L1.trans L2).trans L3) (.cons_ (r1.later (L2.trans L3)) (.cons_ (r2.later L3) r3)) h3)
theorem pF{A:RR}{E:QD->QE->Prop}(hA:A.units+6<cLine){q:Pa}{p:iu}{K:Nat->KD->Bool}{s0:KS}:∀(ps:List (QD×QD))(u:KV)(n:Nat)(d:KD)(P:Pt C)(Q:PUnit->QE->Prop),n+ps.length≤100000->P.R.ρ q=some p->oV C P.R n d p->P.m.n=s0.n->(∀x,x≠q->tg x P.m.h=tg x s0.h)->tg q P.m.h=some (.dict n d)->bG C P.R u (B4 ps)->Br u none n d K=true->
  (∀(P':Pt C)(n:Nat)(d:KD),(∀X,ay X P.R P'.R)->P'.m=bD s0 q (.dict n d)->K n d=true->Q PUnit.unit P'.s)->QQ (R6 C.prog C.w) A (storeAll p.fst ps) Q E P.s
 |[],u,n,d,P,Q,hl,hp,hr,hn,ho,hm,ru,h,hq=>by
  cases u with
  |nil=>exact QC (hq ⟨P.R,bD s0 q (.dict n d),P.t,P.good.weak hn.symm λx=>.inl (by
    by_cases z:x=q
    ·subst z;exact(aS _ _ _).trans hm.symm
    ·exact(am _ z).trans (ho x z).symm)⟩ n d (λzz=>.refl _ _) rfl h)
  |cons x r=>refine aH ru ?_;rintro _ _ e- -;contradiction
  |_=>exact ru.elim
 |(k,v)::ps,u,n,d,P,Q,hl,hp,hr,hn,ho,hm,ru,h,hq=>by
  cases u with
  |cons x r=>
   refine aH ru ?_;intro _ _ e r1 r2;injection e with e1 e2;subst e1 e2;cases r with
   |cons y r=>
    refine aH r2 ?_;intro _ _ e r3 r4;injection e with e1 e2;subst e1 e2;have h:aB (pk x) false (cz d x (Br r none (n+1) (dset d x y) K) λzz=>Br r none n (dset d x y) K)=true:=h;refine dI h ?_;intro h1 h;unfold storeAll;rw[List.forIn_cons];have hl2:n+(ps.length+1)≤100000:=hl;refine Qy (Qy (ox hA hp hr r1 r3 h1 rfl (by split<;>lia) λP' L e=>QC ?_));have key:Br r none (if(dl d x).isSome then n else n+1) (dset d x y) K=true:=by
     unfold cz at h;cases hd:dl d x with
     |none=>rw[hd]at h;exact h
     |some z=>rw[hd]at h;exact h
    have hp':=(L []).ref q p hp;refine ah (P'.good.dom q p hp') ?_;intro o e' ro;rw[e]at e';cases QN (e'.symm.trans (aS _ _ _));exact pF hA ps r _ _ P' Q (by split<;>lia) hp' ro (by refine rwr e ?_;exact hn) (λx z=>by refine rwr e ?_;exact(am _ z).trans (ho x z)) (by refine rwr e ?_;exact aS _ _ _) (bG.later r4 (L [])) key λP2 n2 d2 L2=>hq P2 n2 d2 λX=>(L X).trans (L2 X)
   |nil=>contradiction
   |_=>exact r2.elim
  |nil=>contradiction
  |_=>exact ru.elim
theorem zI{ks:List (Option Qz)}{vs:List Qz}{x:X}{p:Pos}(hx:yt C Γ ks vs x)(h1:ks.all (·.isSome)=true)(h2:ks.length=vs.length)(h0:ks≠[])(h3:ks.length≤15):bx C Γ (.Dict ks vs p) (w5 x):=λF P en k Q E R h K=>by
 refine wpAny_Dict_any h1 h2 h0 h3 ?_;have G:=P.good.new0 (h':=P.R.h.push {cls:=.type "dict",data:=.dict #[]}) (o:=.dict 0 .nil) (aX _ _) (bg _) (bg _) (λL=>⟨rfl,_,#[],0,QS _ rfl,⟨rfl,rfl,rfl⟩,rfl,⟨rfl,λi e kv h=>by trivial⟩,U0,rfl,Ry _,rfl⟩);refine b0 G ?_;intro G L r;have hn:=pairTrees_length ks vs F.menv p h1 h2;refine Sq (wpAny_evalPairs_len (hx F ⟨_,_,P.t,G⟩ en _ p (λps s=>ps.length≤15->QQ (R6 C.prog C.w) F.A (storeAll P.R.h.objs.size ps) (λZ s₂=>Q (.ref P.R.h.objs.size) s₂) E s) E (R.later (L _)) h λP1 u ps L1 ru h1 hl=>?_)) (λps s₁ q=>q.2 (by refine rwr q.1 (rwr hn ?_);exact h3)) λZ Z e=>e;refine ah (VR.later r L1) ?_;intro pe hp e;injection e with e;have hp0:pe.fst=P.R.h.objs.size:=e.symm;refine aI h1 hp ?_;intro o eo ro h1;refine gb h1 ?_;rintro n0 d0 h1 rfl;refine dI h1 ?_;intro hn0 h1;have hn0:=QA hn0;refine rwl hp0 ?_;exact pF (by have:=F.units;lia) ps u n0 d0 P1 _ (by lia) hp ro rfl (λZ Z=>rfl) eo ru h1 λP' n d L' e q=>by
  refine rwr hp0 ?_;exact K P' _ _ ((L _).trans (L1.trans (L' _))) (VR.later (VR.later r L1) (L' [])) (by refine rwr e ?_;exact q)
theorem BB{f:Nat->Bool}{m n:Nat}(hf:∀k,k<n->f k=decide (m≤k))(l:List QD):∀i:Nat,i+l.length≤n->(l.zipIdx i).filterMap (λp:QD×Nat=>if f p.2=true then none else some p.1)=l.take (m-i):=by
 induction l with
 |nil=>exact λi Z=>List.take_nil.symm
 |cons x r ih=>
  intro i h;have h:i+(r.length+1)≤n:=h;rw[List.zipIdx_cons,List.filterMap_cons,ih (i+1) (by rw[TR,Nat.add_comm 1];exact h)];have hi:=hf i (Sa (Nat.lt_add_of_pos_right (TB _)) h);by_cases z:m≤i
  ·refine rwr (if_pos (hi.trans (decide_eq_true z))) ?_;show r.take (m-(i+1))=(x::r).take (m-i);refine rwr (US z) (rwr (US (Tf z)) ?_);rfl
  ·rw[if_neg (by rw[hi];exact λq=>z (of_decide_eq_true q))];show x::r.take (m-(i+1))=(x::r).take (m-i);refine rwr (show m-i=(m-(i+1))+1 from(Nat.succ_pred (Nat.sub_ne_zero_of_lt (UH z))).symm) ?_;rfl
theorem OM:∀n:Nat,max (0:Int) (min ((-2:Int)+n) n)=((n-2:Nat):Int)
 |0=>rfl
 |1=>rfl
 |n+2=>by
  have e:(-2:Int)+((n+2:Nat):Int)=(n:Int):=Int.subNatNat_of_le (QU 2 n);refine rwr e (rwr (Int.min_eq_left (Int.ofNat_le.mpr (RB n 2))) (rwr (Int.max_eq_right (T9 n)) ?_));rfl
theorem Bw{A:RR}{E:QD->QE->Prop}{s:QE}{l sl:Ri}{vs:Array QD}{c:Nat}{t:Tok}{Q:Unit->QE->Prop}(hl:s.heap.get? l=some (ii vs c))(hs:s.heap.IsSliceOf sl (.int (-2) t) .none .none)(h2:2≤vs.size)(hz:vs.size≤100000)
  (h:∀f:Array QD->Array QD,f vs=(vs.toList.take (vs.size-2)).toArray->Q () {s with heap:=s.heap.update l (Uh f)}):QQ (R6 C.prog C.w) A (delItem (.ref l) (.ref sl)) Q E s:=by
 refine b8 (id hs) ?_;intro os hos hcs hds;have hTs:s.TypeIs (.ref sl) "slice":=⟨os,hos,hcs⟩
 have hT:s.TypeIs (.ref l) "list":=⟨_,hl,rfl⟩
 refine wpAny_delItem_slot hT (by decide) F.slot_list_delitem (Rk F.slot_list_delitem hT F.entry_list_delitem ?_ (F.args_list_delitem_2 _ _));show QQ _ _ (TX (.ref sl)>>=_) _ _ s;refine Qy ?_;unfold TX;refine Qy (Sd hTs slice_no_index ?_);simp only[Option.isNone_none,if_true];refine QC ?_;show QQ _ _ (typeOf (.ref sl)>>=_) _ _ s;refine Qy (wpAny_typeOf hTs ?_);rw[if_neg (by decide)];rw[listSliceParts_eq];refine Qy (Qy (Ss hos hds (x:=.none) rfl (Qy (wpAny_listPart (k:=none) .none ?_))));rw[if_neg (show¬((rawPart none==rawInt 0)=true)from R8)];refine Qy (Ss hos hds (x:=.int (-2) t) rfl (Qy (wpAny_listPart (k:=some (-2)) (.int ..) ?_)));refine Qy (Ss hos hds (x:=.none) rfl (Qy (wpAny_listPart (k:=none) .none (QC ?_))));refine Qy (m:=Builtin.List.listItems (.ref l)) ?_;unfold Builtin.List.listItems;refine Qy (UC hl rfl (QC ?_));refine Qy (wpAny_of_eq (sliceIndices_raw (some (-2)) none none vs.size (by simp)) ?_);have eb:sliceBounds (some (-2)) none none vs.size=(((vs.size-2:Nat):Int),((vs.size:Nat):Int),1):=by
  show(max 0 (min ((-2:Int)+vs.size) vs.size),((vs.size:Nat):Int),(1:Int))=_;rw[OM]
 rw[eb];refine Qy (SU (Qy (wpAny_updateSeq hl rfl (Qy (wpAny_letGo (QC ⟨_,rfl,h _ ?_⟩))) (QG hz cL) ?_)))
 ·refine congrArg List.toArray ((BB (n:=vs.size) (λk hk=>?_) vs.toList 0 (by simp)).trans (by rw[Nat.sub_zero]));show(if(1:Int)>0 then decide (((vs.size-2:Nat):Int)≤k)&&decide ((k:Int)<(vs.size:Nat))&&(((k:Int)-((vs.size-2:Nat):Int))%1==0)else _)=_;rw[if_pos (by decide),decide_eq_true (show(k:Int)<(vs.size:Nat) by simp_all+arith),Int.emod_one];simp
 ·refine QG (TC Te) (QG (List.length_filterMap_le _ _) ?_);rw[List.length_zipIdx,QL];exact Tf (QG hz cL)
theorem zJ{o:Qz}{y:X}{n:Nat}{p1 p2 p p' pos:Pos}(ho:bx C Γ o y):d5 C Γ (.Delete [.Subscript o (.Slice (some (.UnaryOp .USub (.Constant (.int (.ofNat 2)) n p1) p2)) none none p') p] pos) (yH y):=λF P fr k en Q E R h K=>by
 classical
 refine wpAny_Delete (wpAny_deleteEach_cons (wpAny_delete_Subscript (ho F P en _ _ E R h λP1 u v L r h1=>wpAny_Slice ?_)));simp only[UN,evalPart_some];refine sV (Γ:=Γ) ji F P1 en (λs w=>decide (s=P1.m∧w=.neg 1)) _ E (R.later L) (decide_eq_true ⟨rfl,rfl⟩) λP2 w z L2 rw h2=>QC (QC ?_);refine ar (of_decide_eq_true h2) ?_;clear h2;rintro em rfl;refine az rw ?_;rintro t rfl;refine bu h1 r ?_;clear r;rintro q p hp h1-rfl;rw[←em]at h1;have hp2:=L2.ref q p hp;refine aI h1 hp2 ?_;rintro o'-ro h1;refine bZ h1 ro ?_;clear ro;rintro xs vs c hob rs hl he h1 -;refine dI h1 ?_;intro hn h1;have hn:=QA hn;have kp:=aX P2.R.h {cls:=.type "slice",data:=.fields #[.int (-2) t,.none,.none]};refine Bw (s:=⟨P2.R.h.push {cls:=.type "slice",data:=.fields #[.int (-2) t,.none,.none]},C.g,C.d,P2.t,C.os⟩) (kp _ _ hob) (Uy ..) hn hl λf hf=>wpAny_deleteEach_nil ?_;have L3:ay C.vol P.R P2.R:=L.trans L2;have hg:=RT (Uh f) (kp _ _ hob) (by rfl);refine cZ ((P2.more kp P2.t).set_ (o':=.list (S9 vs.size 2) (take (S9 vs.size 2) xs)) hp2 (.inl rfl) (RE ..) ⟨_,hg⟩ (λL=>⟨he,(vs.toList.take (vs.size-2)).toArray,_,hg.trans (by refine rwl hf ?_;rfl),by
  refine rwr List.toList_toArray ?_;exact bG.later (bG.later (rs.take_ _) (.keeps [] kp)) L,by simp,QG (Nat.sub_le ..) hl⟩) P2.t) ?_;intro P' e1 e2 e3 L4
 exact e3▸K.next ((L3.trans (.keeps C.vol kp)).trans (L4 _)).frame (R.later ((L3.trans (.keeps C.vol kp)).trans (L4 _))) (by refine rwr e2 ?_;exact h1)
end
end
section
noncomputable def JC:KV->Bool|.tok _=>false|_=>true
noncomputable def Hw:KV->Bool|.none=>false|_=>true
section
variable{c:Cl}{e e' e'':En}{s s' s'' s3 s4:KS}{x y z:X}{v u w:KV}
def Ev(c:Cl)(x:X)(e:En)(s:KS)(v:KV)(s':KS):Prop:=∀k:KT,k s' v=true->x c e k s=true
def Tc(c:Cl)(d:Cn)(e:En)(s:KS)(b:Bool)(s':KS):Prop:=∀t f:K0,aB b (f s') (t s')=true->d c e t f s=true
def St(c:Cl)(y:Y)(e:En)(s:KS)(e':En)(s':KS):Prop:=∀(F:Fr)(k:En->K0),k e' s'=true->y c F k e s=true
def Rt(c:Cl)(y:Y)(e:En)(s:KS)(v:KV)(s':KS):Prop:=∀(F:Fr)(k:En->K0),F.ret s' v=true->y c F k e s=true
def Ct(c:Cl)(y:Y)(e:En)(s:KS)(e':En)(s':KS):Prop:=∀(F:Fr)(k:En->K0),F.cont e' s'=true->y c F k e s=true
def Ca(c:Cl)(q:Pa)(vs:KV)(s:KS)(v:KV)(s':KS):Prop:=∀k:KT,k s' v=true->c q vs k s=true
def Od(t:Tg)(v:KV)(e e':En):Prop:=∀k:En->Bool,k e'=true->t v e k=true
theorem aj:Ev c (af v) e s v s:=λk h=>h
theorem ag{q:Pa}(h:tg q e=some v):Ev c (ae q) e s v s:=λk hk=>by show bQ _ _ _=true;refine rwr h ?_;exact hk
theorem aM:Ev c ao e s .nil s:=λk h=>h
theorem ai{r:X}{vs:KV}(hx:Ev c x e s v s')(hr:Ev c r e s' vs s''):Ev c (ab x r) e s (.cons v vs) s'':=λk h=>hx _ (hr _ h)
theorem pZ{n:Nat}{xs:KV}{k:KT}(hn:n≤100000)(h:k (aR s (.list n xs)) (.ref s.n)=true):q7 k s n xs=true:=by
 unfold q7;refine rwr (QK hn) ?_;exact h
theorem cB{vs:KV}(hx:Ev c x e s vs s')(hn:len vs≤100000):Ev c (aK x) e s (.ref s'.n) (aR s' (.list (len vs) vs)):=λk h=>hx _ (pZ hn h)
theorem bA{q:Pa}{o:KO}{k:KO->Bool}(h:tg q s.h=some o)(hk:k o=true):b9 q s k=true:=by unfold b9;refine rwr h ?_;exact hk
theorem fy{sl q:Pa}{n:Nat}{fs:T KV}(hx:Ev c x e s (.ref q) s')(hq:tg q s'.h=some (.inst n fs))(hf:tg sl fs=some v):Ev c (ak sl x) e s v s':=λk h=>hx _ (bA hq (by show bQ _ _ _=true;refine rwr hf ?_;exact h))
theorem jo{i:X}{q:Pa}{n m:Nat}{xs:KV}(hx:Ev c x e s (.ref q) s')(hi:Ev c i e s' (.nat m) s'')(hq:tg q s''.h=some (.list n xs))(hm:ng m xs=some v):Ev c (aD x i) e s v s'':=λk h=>
 hx _ (hi _ (bA hq (by show bQ (ng m xs) _ _=true;refine rwr hm ?_;exact h)))
theorem Bb{i:X}{q:Pa}{n m:Nat}{xs:KV}(hx:Ev c x e s (.ref q) s')(hi:Ev c i e s' (.neg m) s'')(hq:tg q s''.h=some (.list n xs))(hl:m+1≤n)(hm:ng (n-(m+1)) xs=some v):Ev c (aD x i) e s v s'':=λk h=>
 hx _ (hi _ (bA hq (by show aB (QJ (m+1) n) _ (bQ (ng (n-(m+1)) xs) _ _)=true;refine rwr (QK hl) (rwr hm ?_);exact h)))
theorem rR{i:X}{m:Nat}{a r:KV}(hx:Ev c x e s (.cons a r) s')(hi:Ev c i e s' (.nat m) s'')(hm:ng m (.cons a r)=some v):Ev c (aD x i) e s v s'':=λk h=>
 hx _ (hi _ (by show bQ (ng m (.cons a r)) _ _=true;refine rwr hm ?_;exact h))
theorem f7{i:X}{q:Pa}{n:Nat}{es:KD}{a:KV}(hx:Ev c x e s (.ref q) s')(hi:Ev c i e s' a s'')(hq:tg q s''.h=some (.dict n es))(hp:pk a=true)(hm:dl es a=some v):Ev c (aD x i) e s v s'':=λk h=>
 hx _ (hi _ (bA hq (by show Mx _ a es=true;unfold Mx cz;refine rwr hp (rwr hm ?_);exact h)))
theorem gf{a b:Nat}(hx:Ev c x e s (.nat a) s')(hy:Ev c y e s' (.nat b) s''):Ev c (aW c9 x y) e s (.nat (a+b)) s'':=λk h=>hx _ (hy _ h)
theorem HS{a b:Nat}(hx:Ev c x e s (.nat a) s')(hy:Ev c y e s' (.nat b) s'')(hl:a≤1000000):Ev c (aW Ht x y) e s (.nat (a*b)) s'':=λk h=>hx _ (hy _ (by show aB (QJ a 1000000) _ _=true;refine rwr (QK hl) ?_;exact h))
theorem HO{a b:Nat}(hx:Ev c x e s (.nat a) s')(hy:Ev c y e s' (.nat b) s'')(hl:b≤a):Ev c (aW q9 x y) e s (.nat (a-b)) s'':=λk h=>hx _ (hy _ (by show aB (QJ b a) _ _=true;refine rwr (QK hl) ?_;exact h))
theorem f8{a b:Nat}(hx:Ev c x e s (.nat a) s')(hy:Ev c y e s' (.nat (b+1)) s''):Ev c (aW dG x y) e s (.nat (a%(b+1))) s'':=λk h=>hx _ (hy _ h)
theorem lV{a b:Nat}(hx:Ev c x e s (.nat a) s')(hy:Ev c y e s' (.nat (b+1)) s'')(hl:b+1≤1000000):Ev c (aW sA x y) e s (.nat (a/(b+1))) s'':=λk h=>hx _ (hy _ (by show aB (QJ (b+1) 1000000) _ _=true;refine rwr (QK hl) ?_;exact h))
theorem HT{p q:Pa}{n m:Nat}{xs ys:KV}(hx:Ev c x e s (.ref p) s')(hy:Ev c y e s' (.ref q) s'')(hp:tg p s''.h=some (.list n xs))(hq:tg q s''.h=some (.list m ys))(hn:n+m≤100000):Ev c (aW c9 x y) e s (.ref s''.n) (aR s'' (.list (n+m) (app xs ys))):=λk h=>
 hx _ (hy _ (bA hp (bA hq (pZ hn h))))
theorem gr{d:Cn}{b:Bool}(hd:Tc c d e s b s'):Ev c (dz d) e s (.bool b) s':=λk h=>hd _ _ (by cases b<;>exact h)
theorem gc{d:Cn}(hd:Tc c d e s true s')(hx:Ev c x e s' v s''):Ev c (dQ d x y) e s v s'':=λk h=>hd _ _ (hx _ h)
theorem gd{d:Cn}(hd:Tc c d e s false s')(hy:Ev c y e s' v s''):Ev c (dQ d x y) e s v s'':=λk h=>hd _ _ (hy _ h)
theorem i6{q:Pa}{vs:KV}(hx:Ev c x e s vs s')(hc:Ca c q vs s' v s''):Ev c (bf q x) e s v s'':=λk h=>hx _ (hc _ h)
theorem jp{q:Pa}{n c0:Nat}{p:Pa}{xs:KV}(hx:Ev c x e s (.ref q) s')(hq:tg q s'.h=some (.list n xs)):Ev c (dw c0 p x) e s (.nat n) s':=λk h=>hx _ (bA hq h)
theorem Be{i:X}{q:Pa}{n m:Nat}{xs:KV}(hx:Ev c x e s (.ref q) s')(hi:Ev c i e s' (.nat m) s'')(hq:tg q s''.h=some (.list n xs))(hn:n≤100000):Ev c (kb x i) e s (.ref s''.n) (aR s'' (.list (n-m) (drop m xs))):=λk h=>hx _ (hi _ (bA hq (pZ (QG (Nat.sub_le n m) hn) h)))
theorem B9{i:X}{q:Pa}{n m:Nat}{xs:KV}(hx:Ev c x e s (.ref q) s')(hi:Ev c i e s' (.nat m) s'')(hq:tg q s''.h=some (.list n xs))(hn:n≤100000):Ev c (Cv x i) e s (.ref s''.n) (aR s'' (.list (min m n) (take m xs))):=λk h=>hx _ (hi _ (bA hq (by
 have:(@RJ (λzz=>Nat) n m (QJ m n))=min m n:=by
  cases hb:QJ m n with
  |true=>exact(Sy (QA hb)).symm
  |false=>exact(T4 (Nat.le_of_not_le λz=>by rw[QK z]at hb;exact p7 hb)).symm
 show q7 k s'' (@RJ (λzz=>Nat) n m (QJ m n)) (take m xs)=true;refine rwr this ?_;exact pZ (by lia) h)))
theorem lC{q:Pa}{n n':Nat}{xs xs':KV}(ho:Ev c x e s (.ref q) s')(h0:tg q s'.h=some (.list n' xs'))(hx:Ev c y e s' w s'')(hq:tg q s''.h=some (.list n xs))(hn:n+1≤100000):Ev c (cX x y) e s .none (bD s'' q (.list (n+1) (app xs (.cons w .nil)))):=λk h=>
 ho _ (bA h0 (hx _ (bA hq (by show aB (QJ (n+1) 100000) _ _=true;refine rwr (QK hn) ?_;exact h))))
theorem Bd{q:Pa}{n:Nat}{xs:KV}(ho:Ev c x e s (.ref q) s')(hq:tg q s'.h=some (.list (n+1) xs))(hv:ng n xs=some v):Ev c (kX x) e s v (bD s' q (.list n (take n xs))):=λk h=>
 ho _ (bA hq (by show bQ (ng n xs) _ _=true;refine rwr hv ?_;exact h))
theorem xg{q:Pa}{n:Nat}{r:KV}(ho:Ev c x e s (.ref q) s')(hq:tg q s'.h=some (.list n (.cons v r))):Ev c (mW x) e s v (bD s' q (.list (n-1) r)):=λk h=>ho _ (bA hq h)
theorem Bi{a:X}(hx:Ev c x e s v s')(ht:∀t f:K0,t s'=true->Hr t f s' v=true)(hy:Ev c y e s' u s''):Ev c (xD x y) e s u s'':=λk h=>hx _ (ht _ _ (hy _ h))
theorem uQ{b:Bool}(hx:Ev c x e s v s')(ht:∀t f:K0,aB b (f s') (t s')=true->Hr t f s' v=true):Tc c (cT x) e s b s':=λt f q=>hx _ (ht t f q)
theorem kc{q:Pa}{n:Nat}{xs:KV}(hq:tg q s.h=some (.list n xs))(t f:K0)(h:aB (!QB n 0) (f s) (t s)=true):Hr t f s (.ref q)=true:=by
 show b9 q s (Nt t f s)=true;refine bA hq ?_;show aB (QB n 0) _ _=true;cases hb:QB n 0<;>rw[hb]at h<;>exact h
theorem eB{a d:Cn}{b:Bool}(h:Tc c a e s true s')(k:Tc c d e s' b s''):Tc c (gh a d) e s b s'':=λt f q=>h _ _ (k _ _ q)
theorem jg{a d:Cn}(h:Tc c a e s false s'):Tc c (gh a d) e s false s':=λt f q=>h _ _ q
theorem qG{a d:Cn}{b:Bool}(h:Tc c a e s false s')(k:Tc c d e s' b s''):Tc c (k8 a d) e s b s'':=λt f q=>h _ _ (k _ _ q)
theorem qJ(hx:Ev c x e s v s')(hv:JC v=true):Tc c (iq x) e s (!Hw v) s':=λt f q=>hx _ (by cases v<;>first|exact q|exact aO hv)
theorem fZ{a b:Nat}(hx:Ev c x e s (.nat a) s')(hy:Ev c y e s' (.nat b) s''):Tc c (aw d7 x y) e s (QB a b) s'':=λt f q=>hx _ (hy _ q)
theorem uP{a b:Nat}(hx:Ev c x e s (.nat a) s')(hy:Ev c y e s' (.nat b) s''):Tc c (aw su x y) e s (QJ (b+1) a) s'':=λt f q=>hx _ (hy _ q)
theorem fK(hx:Ev c x e s v s')(hy:Ev c y e s' w s'')(hv:pk v=true)(hw:pk w=true):Tc c (aw d7 x y) e s (bU v w) s'':=λt f q=>hx _ (hy _ (by
 have:Cm v w t f s''=true:=by unfold Cm;refine rwr hv (rwr hw ?_);exact q
 cases v<;>first|exact this|(exact aO hv)))
theorem qH(hx:Ev c x e s v s')(hy:Ev c y e s' w s'')(hv:pk v=true)(hw:pk w=true):Tc c (aw jG x y) e s (!bU v w) s'':=λt f q=>fK hx hy hv hw f t (by cases h:bU v w<;>rw[h]at q<;>exact q)
theorem br:St c aa e s e s:=λF k h=>h
theorem bc{a b:Y}(ha:St c a e s e' s')(hb:St c b e' s' e'' s''):St c (ad a b) e s e'' s'':=λF k h=>ha _ _ (hb _ _ h)
theorem bq{a b:Y}(ha:St c a e s e' s')(hb:Rt c b e' s' v s''):Rt c (ad a b) e s v s'':=λF k h=>ha _ _ (hb _ _ h)
theorem lE{a b:Y}(ha:St c a e s e' s')(hb:Ct c b e' s' e'' s''):Ct c (ad a b) e s e'' s'':=λF k h=>ha _ _ (hb _ _ h)
theorem cY{a b:Y}(ha:Rt c a e s v s'):Rt c (ad a b) e s v s':=λF k h=>ha F _ h
theorem BC{a b:Y}(ha:Ct c a e s e' s'):Ct c (ad a b) e s e' s':=λF k h=>ha F _ h
theorem fO(hx:Ev c x e s v s'):St c (aY x) e s e s':=λF k h=>hx _ h
theorem aG{q:Pa}(hx:Ev c x e s v s'):St c (av (t1 q) x) e s (tp q v e) s':=λF k h=>hx _ h
theorem eW{t:Tg}(hx:Ev c x e s v s')(ht:Od t v e e'):St c (av t x) e s e' s':=λF k h=>hx _ (ht (λe=>k e s') h)
theorem gv(hx:Ev c x e s v s'):Rt c (bT x) e s v s':=λF k h=>hx _ h
theorem Es:Ct c iB e s e s:=λF k h=>h
theorem cV{d:Cn}{a b:Y}(hd:Tc c d e s true s')(ha:St c a e s' e' s''):St c (bw d a b) e s e' s'':=λF k h=>hd _ _ (ha _ _ h)
theorem bk{d:Cn}{a b:Y}(hd:Tc c d e s false s')(hb:St c b e s' e' s''):St c (bw d a b) e s e' s'':=λF k h=>hd _ _ (hb _ _ h)
theorem nC{d:Cn}{a b:Y}(hd:Tc c d e s true s')(ha:Rt c a e s' v s''):Rt c (bw d a b) e s v s'':=λF k h=>hd _ _ (ha _ _ h)
theorem Ia{d:Cn}{a b:Y}(hd:Tc c d e s true s')(ha:Ct c a e s' e' s''):Ct c (bw d a b) e s e' s'':=λF k h=>hd _ _ (ha _ _ h)
theorem oG{tab:T Code}{d np:Nat}{q:Pa}{ds:KV}{y:Y}{vs:KV}{e0:En}(hq:tg q tab=some (.fn np ds y))(h1:len vs=np)(hb:∀k:En->Bool,k e0=true->kP (app vs (drop (len ds) ds)) .e .nil k=true)(h:Rt (aL tab d) y e0 s v s'):Ca (aL tab (d+1)) q vs s v s':=λk hk=>by
 show bQ (tg q tab) false _=true;refine rwr hq ?_;show IR _ _ _ _ _ _ _=true;unfold IR;have a1:S9 np (len vs)=0:=by refine rwr h1 ?_;exact Nat.sub_self np
 refine rwr a1 (rwr h1 (rwr (QK (QZ np)) (rwr (QK (Ry _)) ?_)));exact hb _ (h ⟨λZ Z=>false,λZ Z=>false,k⟩ (λZ s=>k s .none) hk)
end
end
section
open PySem PySem.W PyProof.Rows
section
variable{C:Cx}{Γ:cW}{R R':Wd}
theorem ER.swap{F:dO C Γ}{e e2:En}(r:ER F R e)(h:∀q x,tg q e2=some x->∃y,tg q e=some y∧∀v,VR C R y v->VR C R x v):ER F R e2 where
 ns:=by
  refine ah r.ns ?_;intro m ns hold;refine⟨m,ns,λnm q x h1 h2=>?_⟩;refine ah (h q x h2) ?_;intro y h3 h4;refine(hold nm q y h1 h3).el ?_ ?_
  ·intro a v b c;exact .inl ⟨a,v,b,h4 v c⟩
  ·intro a ca ob v b c d e;exact .inr ⟨a,ca,ob,v,b,c,d,h4 v e⟩
 lown:=r.lown
 cells:=r.cells
 fr:=r.fr
theorem lD{v:KV}{x:KV}:∀{es:KD},dl es x=some v->dset es x v=es:=by
 intro es;induction es with
 |nil=>exact λh=>cO h
 |cons a w r ih=>
  intro h;have h:@RJ (λzz=>Option KV) (dl r x) (some w) (bU a x)=some v:=h;show@RJ (λzz=>KD) (.cons a w (dset r x v)) (.cons a v r) (bU a x)=_;cases e:bU a x with
  |true=>rw[e]at h;cases QN h;rfl
  |false=>rw[e]at h;exact congrArg (KD.cons a w) (ih h)
def PW(C:Cx)(R:Wd)(a b:KD):Prop:=(pairs a).map (·.1)=(pairs b).map (·.1)∧(pairs a).length=(pairs b).length∧∀(i:Nat)(kv:KV×KV),(pairs b)[i]?=some kv->∃u,(pairs a)[i]?=some (kv.1,u)∧∀z,VR C R u z->VR C R kv.2 z
theorem PW.cons{R:Wd}{k a b:KV}{x y:KD}(h:∀z,VR C R a z->VR C R b z)(t:PW C R x y):PW C R (.cons k a x) (.cons k b y):=⟨congrArg (List.cons k) t.1,congrArg QR t.2.1,λi kv e=>by
 cases i with
 |zero=>cases QN e;exact⟨a,rfl,h⟩
 |succ i=>exact t.2.2 i kv e⟩
theorem PW.refl{R:Wd}(a:KD):PW C R a a:=⟨rfl,rfl,λi kv e=>⟨kv.2,e,λzz z=>z⟩⟩
theorem PW.dset{R:Wd}{x v w:KV}(hw:∀u,VR C R v u->VR C R w u):∀es:KD,PW C R (dset es x v) (dset es x w):=by
 intro es;induction es with
 |nil=>exact .cons hw (.refl _)
 |cons a b r ih=>
  show PW C R (@RJ (λzz=>KD) _ _ (bU a x)) (@RJ (λzz=>KD) _ _ (bU a x));cases bU a x with
  |true=>exact .cons hw (.refl _)
  |false=>exact .cons (λzz z=>z) ih
theorem eR.dset_w{n:Nat}{es:KD}{x v w:KV}{p:iu}(hw:∀u,VR C R v u->VR C R w u)(r:eR C R (.dict n (dset es x v)) p):eR C R (.dict n (dset es x w)) p:=by
 refine ar r ?_;intro a zq;refine iT zq ?_;intro ob es' ep h1 h2 h3 h4 h5 h6 h7 h8;have z:=PW.dset (C:=C) (R:=R) (x:=x) hw es;exact⟨a,ob,es',ep,h1,h2,h3,⟨h4.1.trans z.2.1,λi e kv e1 e2=>by
  refine ah (z.2.2 i kv e2) ?_;intro u e3 f;have q:=h4.2 i e _ e1 e3;exact⟨q.plain,q.hash,q.key,f _ q.val⟩⟩,z.1▸h5,h6.trans z.2.1,h7,h8⟩
end
section
section
noncomputable def ju:KV:=.str 19343809238458250022617204
noncomputable def iA:KV:=.str 374164043821928694152695900025857252409163869323363
noncomputable def j0:KV:=.str 40567024288966772448377926844532
def oy(la lr:Nat)(w:KV)(j n:Nat):KV:=bif Nat.blt la lr||(QB la lr&&bU w ju)then .neg (n-1)else bif QB la lr&&bU w iA then .none else .nat j
structure lL(C:Cx):Prop where
 lv:∀x,x<5->∃n,C.tk (2*x+1)=.nat n
 wy:∀x,x<5->C.tk (2*x)=ju∨C.tk (2*x)=iA∨C.tk (2*x)=j0
 en:∀a r j n la lr,a<5->r<5->j<64->n<64->C.tk (2*a+1)=.nat la->C.tk (2*r+1)=.nat lr->C.tk (10+(((r*8+a)*64+j)*64+n))=oy la lr (C.tk (2*r)) j n
def uy(sr:Pa)(m:Nat):Y:=ad (aY (G6 (ak sr (ae .e)) (ab (ae (.h .e)) (ab (ae (.g (.a .e))) (ab (af (.str m)) ao))))) aa
def GJ(num sr rd:Pa):Y:=ad (bV (ae (.a (.a .e))) (ae (.g (.a .e))) (dS (ak num (ae (.d (.a .e)))))) (ad (bV (ae (.b (.a .e))) (ae (.g (.a .e))) (ae (.d (.a .e)))) (ad (bw (gh (fL (cT (ae (.a (.b .e))))) (fL (cT (ae (.c (.b .e)))))) (uy sr 85075216121577873493535270834687443045) aa) (ad (md (E0 rd 1 (.tok 0)) rd c9 (aD (ae (.a .e)) (ak num (ae (.d (.a .e))))) (af (.nat 1))) aa)))
def DH:Y:=ad (bV (ae (.a (.a .e))) (ae (.g (.a .e))) (af .none)) aa
def rY(m:Nat):Cn:=gh (aw d7 (ae (.a (.b .e))) (ae (.c (.b .e)))) (aw d7 (ae (.b (.b .e))) (af (.str m)))
def Y1(num sr rd:Pa):Y:=bw (k8 (aw jm (ae (.a (.b .e))) (ae (.c (.b .e)))) (rY 19343809238458250022617204)) (GJ num sr rd) (ad (bw (rY 374164043821928694152695900025857252409163869323363) DH (ad (bw (fL (cT (ae (.c (.b .e))))) (uy sr 40567043631770662919203956195444) aa) aa)) aa)
end
section
variable{G:Prop}{en:En}{s:KS}
theorem dX{q:Pa}{f:KV->Bool}(h:eV q en f=true){G:Prop}(k:∀v,f v=true->tg q en=some v->G):G:=aC h k
theorem bF{f:Pa->Bool}{v:KV}(h:eF f v=true){G:Prop}(k:∀q,f q=true->v=.ref q->G):G:=by
 cases v with
 |ref q=>exact k q h rfl
 |_=>exact aO h
theorem fD{f:Nat->Bool}{v:KV}(h:CJ f v=true){G:Prop}(k:∀n,f n=true->v=.tok n->G):G:=by
 cases v with
 |tok n=>exact k n h rfl
 |_=>exact aO h
theorem pT{f:Nat->Bool}{v:KV}(h:Av zN f v=true){G:Prop}(k:∀n,f n=true->v=.neg n->G):G:=by
 cases v with
 |neg n=>exact k n h rfl
 |nat n=>exact aO h
 |_=>exact aO h
theorem eJ{f:Nat->Bool}{v:KV}(h:ig f v=true){G:Prop}(k:∀n,f n=true->v=.nat n->G):G:=by
 cases v with
 |nat n=>exact k n h rfl
 |_=>exact aO h
theorem g9{f:Nat->T KV->Bool}{o:KO}(h:kC f o=true){G:Prop}(k:∀c fs,f c fs=true->o=.inst c fs->G):G:=by
 cases o with
 |inst c fs=>exact k c fs h rfl
 |_=>exact aO h
theorem pR{f:Nat->KV->Bool}{o:KO}(h:iI f o=true){G:Prop}(k:∀c fs,f c fs=true->o=.list c fs->G):G:=by
 cases o with
 |list c fs=>exact k c fs h rfl
 |_=>exact aO h
theorem ui{k:Pa->Nat->KD->KV->KV->Pa->Nat->KD->Pa->Bool}(h:I0 en s k=true)(g:∀q1 m1 es va cur q2 m2 es2 qo v,tg (.a (.a .e)) en=some (.ref q1)->tg q1 s.h=some (.dict m1 es)->tg (.g (.a .e)) en=some va->pk va=true->dl es va=some cur->tg (.b (.a .e)) en=some (.ref q2)->tg q2 s.h=some (.dict m2 es2)->dl es2 va=some (.ref qo)->
  tg (.h .e) en=some v->m1+1≤100000->m2+1≤100000->k q1 m1 es va cur q2 m2 es2 qo=true->G):G:=by
 refine dX h ?_;intro _ h a1;refine bF h ?_;rintro q1 h rfl;refine aC h ?_;intro o h b1;refine gb h ?_;rintro m1 es h rfl;refine dX h ?_;intro va h a;refine dI h ?_;intro pk h;refine aC h ?_;intro cur h c1;refine dX h ?_;intro _ h a2;refine bF h ?_;rintro q2 h rfl;refine aC h ?_;intro o h b2;refine gb h ?_;rintro m2 es2 h rfl;refine aC h ?_;intro _ h c2;refine bF h ?_;rintro qo h rfl;refine dX h ?_;intro v h st;refine dI h ?_;intro l1 h;refine dI h ?_;intro l2 h;exact g q1 m1 es va cur q2 m2 es2 qo v a1 b1 a pk c1 a2 b2 c2 st (QA l1) (QA l2) h
theorem qa{sr rd:Pa}{m:Nat}{k:Pa->Nat->Bool}(h:AQ sr rd en s m k=true)(g:∀q0 c0 f0 q3 jn q4 n4 ps q5 c5 f5,tg .e en=some (.ref q0)->tg q0 s.h=some (.inst c0 f0)->tg sr f0=some (.ref q3)->tg q3 s.h=some (.junk jn)->jn+1≤100000->
  tg (.a .e) en=some (.ref q4)->tg q4 s.h=some (.list n4 ps)->ng m ps=some (.ref q5)->tg q5 s.h=some (.inst c5 f5)->tg rd f5=some (.tok 0)->k q3 jn=true->G):G:=by
 refine dX h ?_;intro _ h s0;refine bF h ?_;rintro q0 h rfl;refine aC h ?_;intro o h s1;refine g9 h ?_;rintro c fs h rfl;refine aC h ?_;intro _ h s2;refine bF h ?_;rintro q3 h rfl;refine aC h ?_;intro o h s3;refine nO h ?_;rintro jn h rfl;refine dI h ?_;intro l3 h;refine dX h ?_;intro _ h p0;refine bF h ?_;rintro q4 h rfl;refine aC h ?_;intro o h p1;refine pR h ?_;rintro n ps h rfl;refine aC h ?_;intro _ h p2;refine bF h ?_;rintro q5 h rfl;refine aC h ?_;intro o h p5;refine g9 h ?_;rintro c5 f5 h rfl;refine aC h ?_;intro _ h r5;refine fD h ?_;rintro t h rfl;refine dI h ?_;intro ht h;exact g q0 c fs q3 jn q4 n ps q5 c5 f5 s0 s1 s2 s3 (QA l3) p0 p1 p2 p5 (bR.mp ht▸r5) h
theorem tS{l:Nat}{k:Nat->Bool}(h:Mn l k=true){G:Prop}(k0:∀x,l=2*x+1+2->x<5->k x=true->G):G:=by
 refine dI h ?_;intro h1 h;refine dI h ?_;intro h2 h;have h1:l=3+2*((l-3)/2):=bR.mp h1;have h2:=QA h2;exact k0 ((l-3)/2) (by lia) (by lia) h
theorem uj{j n:Nat}{k:KV->Bool}(h:I5 en j n k=true)(g:∀a r,tg (.a (.b .e)) en=some (.tok (2*a+1+2))->tg (.c (.b .e)) en=some (.tok (2*r+1+2))->tg (.b (.b .e)) en=some (.tok (2*r+2))->a<5->r<5->j<64->n<64->k (.tok (Bl r a j n))=true->G):G:=by
 refine dX h ?_;intro _ h la;refine fD h ?_;rintro la' h rfl;refine dX h ?_;intro _ h lr;refine fD h ?_;rintro lr' h rfl;refine dX h ?_;intro _ h wr;refine fD h ?_;rintro wr' h rfl;refine dI h ?_;intro h1 h;refine tS h ?_;rintro a rfl a5 h;refine tS h ?_;rintro r rfl r5 h;refine dI h ?_;intro h2 h;refine dI h ?_;intro h3 h;have h1:2*r+1+2=wr'+1:=bR.mp h1;exact g a r la lr ((show wr'=2*r+2 by simp_all+arith)▸wr) a5 r5 (Nat.lt_succ_of_le (QA h2)) (Nat.lt_succ_of_le (QA h3)) h
end
section
variable{c:Cl}{e:En}{s s' s1:KS}{q q1 q2 q3:Pa}{va v:KV}
theorem ny{x o i:X}{n:Nat}{es:KD}{w:KV}(hx:Ev c x e s v s)(ho:Ev c o e s (.ref q) s)(hi:Ev c i e s va s)(hq:tg q s.h=some (.dict n es))(hp:pk va=true)(hn:n+1≤100000)(hd:dl es va=some w):St c (bV o i x) e s e (bD s q (.dict n (dset es va v))):=λF k h=>
 hx _ (ho _ (hi _ (bA hq (aP.mpr ⟨hp,aP.mpr ⟨QK hn,by unfold cz;refine rwr hd ?_;exact h⟩⟩))))
theorem CM{sr:Pa}{m c0 jn:Nat}{f0:T KV}{w:KV}(h0:tg .e e=some (.ref q))(h1:tg q s.h=some (.inst c0 f0))(h2:tg sr f0=some (.ref q3))(h3:tg q3 s.h=some (.junk jn))(hj:jn+1≤100000)(ht:tg (.h .e) e=some v)(ha:tg (.g (.a .e)) e=some w):St c (uy sr m) e s e (bD s q3 (.junk (jn+1))):=λF k h=>
 fy (c:=c) (ag h0) h1 h2 _ (bA h3 ((ai (ag ht) (ai (ag ha) (ai aj aM)):Ev c (ab (ae (.h .e)) (ab (ae (.g (.a .e))) (ab (af (.str m)) ao))) e s _ s) (λs Z=>b9 q3 s (Fk λn=>aB (QJ (QR n) 100000) false (k e (bD s q3 (.junk (QR n)))))) (bA h3 (aP.mpr ⟨QK hj,h⟩))))
theorem zk{o x:X}{rd:Pa}{op:KT->KV->KT}{c5 m:Nat}{f5:T KV}(hop:∀k s,k s (.tok 0)=true->op k (.tok 0) s (.nat m)=true)(ho:Ev c o e s (.ref q) s)(hx:Ev c x e s (.nat m) s)(hq:tg q s.h=some (.inst c5 f5))(hr:tg rd f5=some (.tok 0)):St c (md (E0 rd 1 (.tok 0)) rd op o x) e s e (bD s q (.inst c5 (tp rd (.tok 0) f5))):=λF k h=>
 ho _ (bA hq (by
  show bQ (tg rd f5) _ _=true;refine rwr hr ?_;exact hx _ (hop _ _ (bA hq h))))
def E7(o:KO):Bool:=@KO.rec (λZ=>Bool) (λZ Z=>false) (λZ Z=>true) (λZ=>false) (λZ Z=>false) (λZ Z=>false) (λZ=>true) (λZ Z=>false) o
def Kd(s s1:KS):Prop:=∀x o,tg x s.h=some o->E7 o=false->tg x s1.h=some o
theorem Kd.put{o o':KO}(K:Kd s s1)(h:tg q s.h=some o')(hd:E7 o'=true):Kd s (bD s1 q o):=λx u hx hu=>(am _ λz=>by
 rw[z,h]at hx;rw[QN hx,hu]at hd;exact aO hd).trans (K x u hx hu)
theorem l5{d d':Cn}{b b':Bool}(h:Tc c d e s b s)(h':Tc c d' e s b' s):Tc c (gh d d') e s (b&&b') s:=λt f q=>by
 cases b with
 |true=>exact h _ _ (h' _ _ q)
 |false=>exact h _ _ q
theorem sN{d d':Cn}{b b':Bool}(h:Tc c d e s b s)(h':Tc c d' e s b' s):Tc c (k8 d d') e s (b||b') s:=λt f q=>by
 cases b with
 |true=>exact h _ _ q
 |false=>exact h _ _ (h' _ _ q)
theorem qF{la lr:Nat}{w:KV}{m:Nat}(hl:tg (.a (.b .e)) e=some (.nat la))(hr:tg (.c (.b .e)) e=some (.nat lr))(hw:tg (.b (.b .e)) e=some w)(hp:pk w=true):Tc c (rY m) e s (QB la lr&&bU w (.str m)) s:=l5 (fZ (ag hl) (ag hr)) (fK (ag hw) aj hp rfl)
theorem l0{x y:X}{a b:Nat}(hx:Ev c x e s (.nat a) s)(hy:Ev c y e s (.nat b) s):Tc c (aw jm x y) e s (QJ (a+1) b) s:=λt f q=>hx _ (hy _ q)
theorem jf{x:X}{a:Nat}(hx:Ev c x e s (.nat a) s):Tc c (fL (cT x)) e s (QB a 0) s:=λt f q=>hx _ (by
 show aB (QB a 0) _ _=true;cases h:QB a 0<;>rw[h]at q<;>exact q)
end
section
variable{C:Cx}{Γ:cW}
theorem uh{S:U6}{Y:Y}(h:d5 C Γ S Y){F:dO C Γ}{P:Pt C}{fr:Fr}{k:En->K0}{en e':En}{Q:Su->QE->Prop}{E:QD->QE->Prop}{sM sX:KS}(er:ER F P.R en)(K:KF F P.R fr k Q)(hk:k en sM=true)
  (to:∀q x,tg q e'=some x->∃y,tg q en=some y∧∀R v,VR C R y v->VR C R x v) (fro:∀q x,tg q en=some x->∃y,tg q e'=some y∧∀R v,VR C R y v->VR C R x v) (run:St F.cl Y e' P.m e' sX) (wk:∀R,bM C R sX->bM C R sM):QQ (R6 C.prog C.w) F.A (exec S F.menv) Q E P.s:=by
 classical
 refine h F P ⟨λZ Z=>false,λZ Z=>false,λZ Z=>false⟩ (λe s=>decide (e=e'∧s=sX)) e' Q E (er.swap λq x hx=>by refine ah (to q x hx) ?_;intro y a b;exact⟨y,a,b _⟩) (run _ _ (decide_eq_true ⟨rfl,rfl⟩)) λP1 fl L f=>?_;cases fl with
 |next=>
  refine ah f ?_;intro e1 er1 h1;refine ar (of_decide_eq_true h1) ?_;clear h1;rintro rfl h2;exact K ⟨P1.R,sM,P1.t,wk _ (h2▸P1.good)⟩ .next L ⟨en,er1.swap λq x hx=>by refine ah (fro q x hx) ?_;intro y a b;exact⟨y,a,b _⟩,hk⟩
 |ret v=>refine ah f ?_;intro _ _ z;exact aO z
 |brk=>refine ah f ?_;intro _ _ z;exact aO z
 |cont=>refine ah f ?_;intro _ _ z;exact aO z
end
section
variable{c:Cl}{e:En}{s:KS}{q q3:Pa}
theorem xI{a:Y}{e':En}{s':KS}(h:St c a e s e' s'):St c (ad a aa) e s e' s':=λF k z=>h F _ z
theorem nT{d:Cn}{t:Bool}{sr:Pa}{m c0 jn:Nat}{f0:T KV}{v w:KV}(hd:Tc c d e s t s)(h0:tg .e e=some (.ref q))(h1:tg q s.h=some (.inst c0 f0))(h2:tg sr f0=some (.ref q3))(h3:tg q3 s.h=some (.junk jn))(hj:jn+1≤100000)(ht:tg (.h .e) e=some v)(ha:tg (.g (.a .e)) e=some w){G:Prop}(k:∀s3 j',St c (bw d (uy sr m) aa) e s e s3->s3.n=s.n->tg q3 s3.h=some (.junk j')->j'≤jn+1->(∀x,x≠q3->tg x s3.h=tg x s.h)->G):G:=by
 cases t with
 |true=>exact k _ _ (cV hd (CM h0 h1 h2 h3 hj ht ha)) rfl (aS _ _ _) (QZ _) (λx z=>am _ z)
 |false=>exact k s jn (bk hd br) rfl h3 (RA _) (λx z=>rfl)
end
def e3(en:En)(la lr:Nat)(w:KV):En:=tp (.a (.b .e)) (.nat la) (tp (.c (.b .e)) (.nat lr) (tp (.b (.b .e)) w en))
section
variable{C:Cx}{en:En}{la lr a r j n:Nat}{w:KV}{q:Pa}{x:KV}
theorem cm(h:(QB (bB q) 17||(QB (bB q) 18||QB (bB q) 19))=false):tg q (e3 en la lr w)=tg q en:=by
 have z:∀{p:Pa}{n:Nat},bB p=n->QB (bB q) n=false->q≠p:=λ{p n} e1 e2 e=>by rw[e,e1,SH]at e2;exact p7 e2
 have h:=SM.mp h;have h':=SM.mp h.2;exact(am _ (z (p:=.a (.b .e)) rfl h.1)).trans ((am _ (z (p:=.c (.b .e)) rfl h'.2)).trans (am _ (z (p:=.b (.b .e)) rfl h'.1)))
theorem kO:tg (.a (.b .e)) (e3 en la lr w)=some (.nat la):=aS _ _ _
theorem iV:tg (.c (.b .e)) (e3 en la lr w)=some (.nat lr):=(am _ λe=>by exact Pa.noConfusion e).trans (aS _ _ _)
theorem ud:tg (.b (.b .e)) (e3 en la lr w)=some w:=(am _ λe=>by exact Pa.noConfusion e).trans ((am _ λe=>by exact Pa.noConfusion e).trans (aS _ _ _))
theorem Bo{M:KV->KV->Prop}(h1:∀x,M x x)(a1:tg (.a (.b .e)) en=some (.tok (2*a+1+2)))(a2:tg (.c (.b .e)) en=some (.tok (2*r+1+2)))(a3:tg (.b (.b .e)) en=some (.tok (2*r+2)))
  (m1:M (.tok (2*a+1+2)) (.nat la)) (m2:M (.tok (2*r+1+2)) (.nat lr)) (m3:M (.tok (2*r+2)) w) (q:Pa):tg q en=tg q (e3 en la lr w)∨∃x y,tg q en=some x∧tg q (e3 en la lr w)=some y∧M x y:=by
 by_cases z1:q=.a (.b .e)
 ·exact .inr ⟨_,_,z1▸a1,z1▸kO,m1⟩
 ·by_cases z2:q=.c (.b .e)
  ·exact .inr ⟨_,_,z2▸a2,z2▸iV,m2⟩
  ·by_cases z3:q=.b (.b .e)
   ·exact .inr ⟨_,_,z3▸a3,z3▸ud,m3⟩
   ·exact .inl ((am _ z1).trans ((am _ z2).trans (am _ z3))).symm
theorem Ej:Bl r a j n=10+(((r*8+a)*64+j)*64+n)+2:=by show 12+(((r*8+a)*64+j)*64+n)=_;simp+arith
end
section
variable{C:Cx}{Γ:cW}
theorem xq(T:lL C){en:En}{a r j n:Nat}{G:Prop}(la':tg (.a (.b .e)) en=some (.tok (2*a+1+2)))(lr':tg (.c (.b .e)) en=some (.tok (2*r+1+2)))(wr':tg (.b (.b .e)) en=some (.tok (2*r+2)))(a5:a<5)(r5:r<5)(j64:j<64)(n64:n<64)
  (k:∀la lr w,(w=ju∨w=iA∨w=j0)->pk w=true->(∀q x,tg q (e3 en la lr w)=some x->∃y,tg q en=some y∧∀R v,VR C R y v->VR C R x v)->(∀q x,tg q en=some x->∃y,tg q (e3 en la lr w)=some y∧∀R v,VR C R y v->VR C R x v)->
   (∀u,oy la lr w j n=u->(∀R v,VR C R u v->pP v u)->∀R v,VR C R u v->VR C R (.tok (Bl r a j n)) v)->G):G:=by
 refine az (T.lv a a5) ?_;intro la hla;refine az (T.lv r r5) ?_;intro lr hlr;have hw:=T.wy r r5;have hen:=T.en a r j n la lr a5 r5 j64 n64 hla hlr;generalize hw0:C.tk (2*r)=w at hw hen;have cs:=Bo (M:=λx y=>∀R v,VR C R x v↔VR C R y v) (la:=la) (lr:=lr) (w:=w) (λx R v=>Iff.rfl) la' lr' wr' (λR v=>by show pP v (C.tk (2*a+1))↔_;refine rwr hla ?_;exact Iff.rfl) (λR v=>by show pP v (C.tk (2*r+1))↔_;refine rwr hlr ?_;exact Iff.rfl) (λR v=>by show pP v (C.tk (2*r))↔_;refine rwr hw0 ?_;rcases hw with e|e|e<;>(refine rwr e ?_;exact Iff.rfl));exact k la lr w hw (by rcases hw with e|e|e<;>(refine rwr e ?_;rfl)) (λq x hx=>by
  rcases cs q with e|zq
  ·exact⟨x,e.trans hx,λZ Z z=>z⟩
  ·refine aH zq ?_;clear zq;intro x' y h1 h2 h3;cases QN (h2.symm.trans hx);exact⟨x',h1,λR v=>(h3 R v).1⟩) (λq x hx=>by
  rcases cs q with e|zq
  ·exact⟨x,e.symm.trans hx,λZ Z z=>z⟩
  ·refine aH zq ?_;clear zq;intro x' y h1 h2 h3;cases QN (h1.symm.trans hx);exact⟨y,h2,λR v=>(h3 R v).2⟩) λu e f R v z=>by
  refine rwr Ej ?_;show pP v (C.tk _);refine rwr hen (rwr e ?_);exact f R v z
end
structure DD where
 (en:En) (s:KS) (q1 q2 q3 q0 q4 q5 qo:Pa) (m1 m2 jn n4 ni c0 c5:Nat) (es es2:KD) (va vt cur ps:KV) (f0 f5:T KV)
structure DD.Ok(D:DD)(sr rd:Pa):Prop where
 a1:tg (.a (.a .e)) D.en=some (.ref D.q1)
 b1:tg D.q1 D.s.h=some (.dict D.m1 D.es)
 a0:tg (.g (.a .e)) D.en=some D.va
 pv:pk D.va=true
 c1:dl D.es D.va=some D.cur
 a2:tg (.b (.a .e)) D.en=some (.ref D.q2)
 b2:tg D.q2 D.s.h=some (.dict D.m2 D.es2)
 c2:dl D.es2 D.va=some (.ref D.qo)
 st:tg (.h .e) D.en=some D.vt
 l1:D.m1+1≤100000
 l2:D.m2+1≤100000
 s0:tg .e D.en=some (.ref D.q0)
 s1:tg D.q0 D.s.h=some (.inst D.c0 D.f0)
 s2:tg sr D.f0=some (.ref D.q3)
 s3:tg D.q3 D.s.h=some (.junk D.jn)
 l3:D.jn+1≤100000
 p0:tg (.a .e) D.en=some (.ref D.q4)
 p4:tg D.q4 D.s.h=some (.list D.n4 D.ps)
 p5:ng D.ni D.ps=some (.ref D.q5)
 p6:tg D.q5 D.s.h=some (.inst D.c5 D.f5)
 r5:tg rd D.f5=some (.tok 0)
 nr:D.cur≠.ref D.qo
def DD.put(D:DD)(t:KV):KS:=vE D.s D.q1 D.m1 D.es D.va t D.q2 D.m2 D.es2 D.q3 D.jn
structure jX(D:DD)(rd:Pa)(u1 u2:KV)(s1:KS):Prop where
 hn:s1.n=D.s.n
 h1:tg D.q1 s1.h=some (.dict D.m1 (dset D.es D.va u1))
 h2:tg D.q2 s1.h=some (.dict D.m2 (dset D.es2 D.va u2))
 h3:∃j,tg D.q3 s1.h=some (.junk j)∧j≤D.jn+1
 ho:∀x,x≠D.q1->x≠D.q2->x≠D.q3->tg x s1.h=tg x D.s.h∨∃c f,tg x D.s.h=some (.inst c f)∧tg rd f=some (.tok 0)∧tg x s1.h=some (.inst c (tp rd (.tok 0) f))
section
variable{C:Cx}{R:Wd}{D:DD}{s1:KS}{t u1 u2:KV}{sr rd:Pa}
theorem jX.weak(r:jX D rd u1 u2 s1)(hl:D.jn+1≤100000)(w:∀v,VR C R u1 v->VR C R t v)(G:bM C R s1):bM C R (D.put t):=G.weak r.hn.symm λx=>by
 by_cases z3:x=D.q3
 ·subst z3;refine ah r.h3 ?_;intro j h3 hj;exact .inr ⟨_,_,h3,aS _ _ _,λp r=>by refine ar r ?_;intro a zq;refine aH zq ?_;intro vs k b c d;exact⟨a,vs,k,b,QG c hj,hl⟩⟩
 ·have e3:tg x (D.put t).h=tg x (tp D.q2 (.dict D.m2 (dset D.es2 D.va (.tok 1))) (tp D.q1 (.dict D.m1 (dset D.es D.va t)) D.s.h)):=am _ z3;by_cases z2:x=D.q2
  ·subst z2;exact .inr ⟨_,_,r.h2,e3.trans (aS _ _ _),λp r=>eR.dset_w (λv q=>VR.handed q) r⟩
  ·have e2:=e3.trans (am _ z2);by_cases z1:x=D.q1
   ·subst z1;exact .inr ⟨_,_,r.h1,e2.trans (aS _ _ _),λp r=>eR.dset_w w r⟩
   ·have e1:=e2.trans (am _ z1);rcases r.ho x z1 z2 z3 with e|zq
    ·exact .inl (e1.trans e.symm)
    ·refine aH zq ?_;clear zq;intro c f f1 f2 f3;refine .inr ⟨_,_,f3,e1.trans f1,λp r=>?_⟩;refine b8 r ?_;intro a b d zq;refine aE zq ?_;intro es n g h;have tgs:∀q,tg q (tp rd (KV.tok 0) f)=tg q f:=λq=>by
      by_cases z:q=rd
      ·subst z;rw[aS,f2]
      ·exact am _ z
     exact⟨a,b,d,es,n,g,h.1,λnm=>by
      have:=h.2.1 nm;cases e:C.sl nm with
      |none=>rw[e]at this;exact this
      |some q=>rw[e,Sj,tgs]at this;exact this,h.2.2⟩
end
def yes2(num sr rd jq:Pa):Y:=ad (md (E0 rd 1 (.tok 0)) rd q9 (aD (ae (.a .e)) (ak num (aD (ae (.b (.a .e))) (ae (.g (.a .e)))))) (af (.nat 1))) (ad (bV (ae (.a (.a .e))) (ae (.g (.a .e))) (ae jq)) (ad (bV (ae (.b (.a .e))) (ae (.g (.a .e))) (ae (.d (.a .e)))) (ad (bw (fL (cT (ae (.c (.b .e))))) (uy sr 40567043631770662919203956195444) aa) aa)))
def Y2(num sr rd jq:Pa):Y:=bw (k8 (aw su (ae (.a (.b .e))) (ae (.c (.b .e)))) (rY 40567024288966772448377926844532)) (yes2 num sr rd jq)
 (ad (bw (rY 374164043821928694152695900025857252409163869323363) DH (ad (bw (gh (fL (cT (ae (.a (.b .e))))) (fL (cT (ae (.c (.b .e)))))) (uy sr 85075216121577873493535270834687443045) aa) aa)) aa)
theorem CL{c:Cl}{e:En}{s:KS}{x y:X}{a b:Nat}(hx:Ev c x e s (.nat a) s)(hy:Ev c y e s (.nat b) s):Tc c (aw su x y) e s (QJ (b+1) a) s:=λt f q=>hx _ (hy _ q)
section
variable{C:Cx}{c:Cl}{D:DD}{sr rd num jq qp:Pa}{la lr cp j:Nat}{w t:KV}{fp:T KV}
theorem DD.Ok.d12(O:D.Ok sr rd):D.q1≠D.q2:=λz=>by
 have h:=O.b2;rw[←z,O.b1]at h;injection h with h;injection h with h1 h2;have h:=O.c2;rw[←h2,O.c1]at h;exact O.nr (QN h)
theorem DD.Ok.d13(O:D.Ok sr rd):D.q1≠D.q3:=λz=>by
 have h:=O.s3;rw[←z,O.b1]at h;exact KO.noConfusion (QN h)
theorem DD.Ok.d23(O:D.Ok sr rd):D.q2≠D.q3:=λz=>by
 have h:=O.s3;rw[←z,O.b2]at h;exact KO.noConfusion (QN h)
theorem DD.Ok.n5(O:D.Ok sr rd){x:Pa}{o:KO}(hx:tg x D.s.h=some o)(ho:E7 o=true):x≠D.q5:=λz=>by
 rw[z,O.p6]at hx;rw[←QN hx]at ho;exact aO ho
theorem DD.Ok.n0(O:D.Ok sr rd){x:Pa}{o:KO}(hx:tg x D.s.h=some o)(ho:E7 o=true):D.q0≠x:=λz=>by
 rw[←z,O.s1]at hx;rw[←QN hx]at ho;exact aO ho
theorem jX.no(O:D.Ok sr rd){d1 d2 d:Cn}{A:Y}{t2 u:Bool}{m:Nat}(h1:Tc c d1 (e3 D.en la lr w) D.s false D.s)(h2:Tc c d2 (e3 D.en la lr w) D.s t2 D.s)(hd:Tc c d (e3 D.en la lr w) D.s u D.s):
  ∃s1,St c (bw d1 A (ad (bw d2 DH (ad (bw d (uy sr m) aa) aa)) aa)) (e3 D.en la lr w) D.s (e3 D.en la lr w) s1∧jX D rd (bif t2 then .none else D.cur) (.ref D.qo) s1:=by
 cases t2 with
 |true=>exact⟨_,bk h1 (xI (cV h2 (xI (ny aj (ag ((cm rfl).trans O.a1)) (ag ((cm rfl).trans O.a0)) O.b1 O.pv O.l1 O.c1)))),rfl,aS _ _ _,(am _ O.d12.symm).trans (O.b2.trans (by exact rwr (lD O.c2) rfl)),⟨_,(am _ O.d13.symm).trans O.s3,RA _⟩,λx z1 Z Z=>.inl (am _ z1)⟩
 |false=>
  refine nT (m:=m) hd ((cm rfl).trans O.s0) O.s1 O.s2 O.s3 O.l3 ((cm rfl).trans O.st) ((cm rfl).trans O.a0) ?_;intro s5 j' t3 n3 x3 lj o3;exact⟨s5,bk h1 (xI (bk h2 (xI t3))),n3,(o3 _ O.d13).trans (O.b1.trans (by show _=some (KO.dict _ (dset _ _ D.cur));exact rwr (lD O.c1) rfl)),(o3 _ O.d23).trans (O.b2.trans (by exact rwr (lD O.c2) rfl)),⟨j',x3,lj⟩,λx Z Z z3=>.inl (o3 _ z3)⟩
theorem jX.no_(O:D.Ok sr rd){d1 d2 d:Cn}{A:Y}{t2 u:Bool}{m:Nat}(h1:Tc c d1 (e3 D.en la lr w) D.s false D.s)(h2:Tc c d2 (e3 D.en la lr w) D.s t2 D.s)(hd:Tc c d (e3 D.en la lr w) D.s u D.s){G:Prop}(k:∀s1,St c (bw d1 A (ad (bw d2 DH (ad (bw d (uy sr m) aa) aa)) aa)) (e3 D.en la lr w) D.s (e3 D.en la lr w) s1->jX D rd (bif t2 then .none else D.cur) (.ref D.qo) s1->G):G:=ah (jX.no O h1 h2 hd) k
theorem jX.yes1(O:D.Ok sr rd){m:Nat}(p1:tg (.d (.a .e)) D.en=some (.ref qp))(p2:tg qp D.s.h=some (.inst cp fp))(p3:tg num fp=some (.nat D.ni))(hm:D.ni=m+1):
  ∃s1,St c (GJ num sr rd) (e3 D.en la lr w) D.s (e3 D.en la lr w) s1∧jX D rd (.neg m) (.ref qp) s1:=by
 have p3':tg num fp=some (.nat (m+1)):=hm▸p3;have k2:Kd D.s (bD (bD D.s D.q1 (.dict D.m1 (dset D.es D.va (.neg m)))) D.q2 (.dict D.m2 (dset D.es2 D.va (.ref qp)))):=(Kd.put (λZ Z z Z=>z) O.b1 rfl).put O.b2 rfl;have t1:St c (bV (ae (.a (.a .e))) (ae (.g (.a .e))) (dS (ak num (ae (.d (.a .e)))))) (e3 D.en la lr w) D.s (e3 D.en la lr w) _:=ny (v:=.neg m) (λk h=>fy (ag ((cm rfl).trans p1)) p2 p3' (JU k) h) (ag ((cm rfl).trans O.a1)) (ag ((cm rfl).trans O.a0)) O.b1 O.pv O.l1 O.c1;have t2:St c (bV (ae (.b (.a .e))) (ae (.g (.a .e))) (ae (.d (.a .e)))) (e3 D.en la lr w) _ (e3 D.en la lr w) _:=ny (ag ((cm rfl).trans p1)) (ag ((cm rfl).trans O.a2)) (ag ((cm rfl).trans O.a0)) (s:=bD D.s D.q1 (.dict D.m1 (dset D.es D.va (.neg m)))) ((am _ O.d12.symm).trans O.b2) O.pv O.l2 O.c2;refine nT (c:=c) (e:=e3 D.en la lr w) (m:=85075216121577873493535270834687443045) (l5 (jf (ag kO)) (jf (ag iV))) ((cm rfl).trans O.s0) (k2 _ _ O.s1 rfl) O.s2 ((am _ O.d23.symm).trans ((am _ O.d13.symm).trans O.s3)) O.l3 ((cm rfl).trans O.st) ((cm rfl).trans O.a0) ?_;intro s5 j' t3 n3 x3 lj o3;have k3:Kd D.s s5:=λx o hx ho=>(o3 x λz=>by rw[z,O.s3]at hx;rw[←QN hx]at ho;exact p7 ho).trans (k2 x o hx ho);have t4:=zk (c:=c) (e:=e3 D.en la lr w) (rd:=rd) (op:=c9) (m:=1) (λk s h=>h) (jo (ag ((cm rfl).trans O.p0)) (fy (ag ((cm rfl).trans p1)) (k3 _ _ p2 rfl) p3) (k3 _ _ O.p4 rfl) O.p5) aj (k3 _ _ O.p6 rfl) O.r5;refine⟨_,bc t1 (bc t2 (bc t3 (xI t4))),n3,(am _ (O.n5 O.b1 rfl)).trans ((o3 _ O.d13).trans ((am _ O.d12).trans (aS _ _ _))),(am _ (O.n5 O.b2 rfl)).trans ((o3 _ O.d23).trans (aS _ _ _)),⟨j',(am _ (O.n5 O.s3 rfl)).trans x3,lj⟩,λx z1 z2 z3=>?_⟩;by_cases z:x=D.q5
 ·subst z;exact .inr ⟨_,_,O.p6,O.r5,aS _ _ _⟩
 ·exact .inl ((am _ z).trans ((o3 _ z3).trans ((am _ z2).trans (am _ z1))))
theorem BA(O:D.Ok sr rd){m:Nat}(wpk:pk w=true)(hc:D.cur=.nat j)(hm:D.ni=m+1)(p1:tg (.d (.a .e)) D.en=some (.ref qp))(p2:tg qp D.s.h=some (.inst cp fp))(p3:tg num fp=some (.nat D.ni))
  (hk:∀u,oy la lr w j (m+1)=u->(∀R v,VR C R u v->pP v u)->∀R v,VR C R u v->VR C R t v):∃s1,St c (Y1 num sr rd) (e3 D.en la lr w) D.s (e3 D.en la lr w) s1∧∀R,bM C R s1->bM C R (D.put t):=by
 have c1':Tc c (k8 (aw jm (ae (.a (.b .e))) (ae (.c (.b .e)))) (rY 19343809238458250022617204)) (e3 D.en la lr w) D.s (QJ (la+1) lr||(QB la lr&&bU w ju)) D.s:=sN (l0 (ag kO) (ag iV)) (qF kO iV ud wpk);unfold oy Nat.blt at hk;cases e1:(QJ (la+1) lr||(QB la lr&&bU w ju))with
 |true=>
  rw[e1]at c1' hk;refine ah (jX.yes1 (c:=c) (la:=la) (lr:=lr) (w:=w) O p1 p2 p3 hm) ?_;intro s1 t1 r;exact⟨s1,cV c1' t1,λR=>r.weak O.l3 (hk (.neg m) rfl (λZ Z z=>z) R)⟩
 |false=>
  rw[e1]at c1' hk;refine jX.no_ (A:=GJ num sr rd) (d2:=rY 374164043821928694152695900025857252409163869323363) (m:=40567043631770662919203956195444) O c1' (qF kO iV ud wpk) (jf (ag iV)) ?_;intro s1 t1 r;refine⟨s1,t1,λR=>r.weak O.l3 (hk _ ?_ ?_ R)⟩
  ·refine rwr hc ?_;rfl
  ·refine rwr hc ?_;intro R v z;change VR C R (bif QB la lr&&bU w iA then _ else _) v at z;revert z;show _->pP v (bif QB la lr&&bU w iA then _ else _);cases(QB la lr&&bU w iA)<;>exact λz=>z
theorem jX.yes2(O:D.Ok sr rd)(hjq:(QB (bB jq) 17||(QB (bB jq) 18||QB (bB jq) 19))=false)(j1:tg jq D.en=some (.nat j))(p1:tg (.d (.a .e)) D.en=some (.ref qp))(p2:tg D.qo D.s.h=some (.inst cp fp))(p3:tg num fp=some (.nat D.ni)):
  ∃s1,St c (yes2 num sr rd jq) (e3 D.en la lr w) D.s (e3 D.en la lr w) s1∧jX D rd (.nat j) (.ref qp) s1:=by
 have t0:=zk (c:=c) (e:=e3 D.en la lr w) (rd:=rd) (op:=q9) (m:=1) (λk s h=>h) (jo (ag ((cm rfl).trans O.p0)) (fy (f7 (ag ((cm rfl).trans O.a2)) (ag ((cm rfl).trans O.a0)) O.b2 O.pv O.c2) p2 p3) O.p4 O.p5) aj O.p6 O.r5;have t1:=ny (c:=c) (ag ((cm (la:=la) (lr:=lr) (w:=w) hjq).trans j1)) (ag ((cm rfl).trans O.a1)) (ag ((cm rfl).trans O.a0)) (s:=bD D.s D.q5 (.inst D.c5 (tp rd (.tok 0) D.f5))) ((am _ (O.n5 O.b1 rfl)).trans O.b1) O.pv O.l1 O.c1;have t2:=ny (c:=c) (ag ((cm (la:=la) (lr:=lr) (w:=w) rfl).trans p1)) (ag ((cm rfl).trans O.a2)) (ag ((cm rfl).trans O.a0)) (s:=bD (bD D.s D.q5 (.inst D.c5 (tp rd (.tok 0) D.f5))) D.q1 (.dict D.m1 (dset D.es D.va (.nat j)))) ((am _ O.d12.symm).trans ((am _ (O.n5 O.b2 rfl)).trans O.b2)) O.pv O.l2 O.c2;have q0s:∃f,tg D.q0 (bD (bD (bD D.s D.q5 (.inst D.c5 (tp rd (.tok 0) D.f5))) D.q1 (.dict D.m1 (dset D.es D.va (.nat j)))) D.q2 (.dict D.m2 (dset D.es2 D.va (.ref qp)))).h=some (.inst D.c0 f)∧tg sr f=some (.ref D.q3):=by
  have e0:∀{f},tg D.q0 (bD D.s D.q5 (.inst D.c5 (tp rd (.tok 0) D.f5))).h=some (.inst D.c0 f)->tg D.q0 (bD (bD (bD D.s D.q5 (.inst D.c5 (tp rd (.tok 0) D.f5))) D.q1 (.dict D.m1 (dset D.es D.va (.nat j)))) D.q2 (.dict D.m2 (dset D.es2 D.va (.ref qp)))).h=some (.inst D.c0 f):=λz=>(am _ (O.n0 O.b2 rfl)).trans ((am _ (O.n0 O.b1 rfl)).trans z);by_cases z:D.q0=D.q5
  ·have h:=O.s1;rw[z,O.p6]at h;injection h with h;injection h with h1 h2;refine⟨_,e0 (by refine rwr z (rwl h1 ?_);exact aS _ _ _),(am _ λe=>?_).trans ?_⟩
   ·have h:=O.r5;rw[←e,h2,O.s2]at h;exact KV.noConfusion (QN h)
   ·refine rwr h2 ?_;exact O.s2
  ·exact⟨D.f0,e0 ((am _ z).trans O.s1),O.s2⟩
 refine ah q0s ?_;intro f0' s1' s2';refine nT (c:=c) (e:=e3 D.en la lr w) (m:=40567043631770662919203956195444) (jf (ag iV)) ((cm rfl).trans O.s0) s1' s2' ((am _ O.d23.symm).trans ((am _ O.d13.symm).trans ((am _ (O.n5 O.s3 rfl)).trans O.s3))) O.l3 ((cm rfl).trans O.st) ((cm rfl).trans O.a0) ?_;intro s5 j' t3 n3 x3 lj o3;refine⟨s5,bc t0 (bc t1 (bc t2 (xI t3))),n3,(o3 _ O.d13).trans ((am _ O.d12).trans (aS _ _ _)),(o3 _ O.d23).trans (aS _ _ _),⟨j',x3,lj⟩,λx z1 z2 z3=>?_⟩;have e:=(o3 _ z3).trans ((am _ z2).trans (am _ z1));by_cases z:x=D.q5
 ·subst z;exact .inr ⟨_,_,O.p6,O.r5,e.trans (aS _ _ _)⟩
 ·exact .inl (e.trans (am _ z))
theorem Kq{n:Nat}(hw:w=ju∨w=iA∨w=j0):oy la lr w j (n+1)=bif (QJ (lr+1) la||(QB la lr&&bU w j0))then .nat j else bif (QB la lr&&bU w iA)then .none else .neg n:=by
 unfold oy Nat.blt;have z:∀x y:Nat,QJ (x+1) y=decide (x<y):=λx y=>by rw[S6,decide_eq_true_eq,Nat.ble_eq];exact Iff.rfl
 rw[z,z,li];rcases Nat.lt_trichotomy la lr with q|q|q
 ·refine rwr (decide_eq_true q) (rwr (decide_eq_false (Nat.not_lt_of_gt q)) (rwr (decide_eq_false (U2 q)) ?_));rfl
 ·refine rwr (decide_eq_true q) (rwr q (rwr (decide_eq_false (Nat.lt_irrefl lr)) ?_));rcases hw with e|e|e<;>(refine rwr e ?_;rfl)
 ·refine rwr (decide_eq_true q) (rwr (decide_eq_false (Nat.not_lt_of_gt q)) (rwr (decide_eq_false (SR q)) ?_));rfl
theorem Bz(O:D.Ok sr rd){n:Nat}(hw:w=ju∨w=iA∨w=j0)(wpk:pk w=true)(hjq:(QB (bB jq) 17||(QB (bB jq) 18||QB (bB jq) 19))=false)(hc:D.cur=.neg n)(j1:tg jq D.en=some (.nat j))(p1:tg (.d (.a .e)) D.en=some (.ref qp))(p2:tg D.qo D.s.h=some (.inst cp fp))(p3:tg num fp=some (.nat D.ni))
  (hk:∀u,oy la lr w j (n+1)=u->(∀R v,VR C R u v->pP v u)->∀R v,VR C R u v->VR C R t v):∃s1,St c (Y2 num sr rd jq) (e3 D.en la lr w) D.s (e3 D.en la lr w) s1∧∀R,bM C R s1->bM C R (D.put t):=by
 have c1':Tc c (k8 (aw su (ae (.a (.b .e))) (ae (.c (.b .e)))) (rY 40567024288966772448377926844532)) (e3 D.en la lr w) D.s (QJ (lr+1) la||(QB la lr&&bU w j0)) D.s:=sN (CL (ag kO) (ag iV)) (qF kO iV ud wpk);rw[Kq hw]at hk;cases e1:(QJ (lr+1) la||(QB la lr&&bU w j0))with
 |true=>
  rw[e1]at c1' hk;refine ah (jX.yes2 (c:=c) (la:=la) (lr:=lr) (w:=w) O hjq j1 p1 p2 p3) ?_;intro s1 t1 r;exact⟨s1,cV c1' t1,λR=>r.weak O.l3 (hk (.nat j) rfl (λZ Z z=>z) R)⟩
 |false=>
  rw[e1]at c1' hk;refine jX.no_ (A:=yes2 num sr rd jq) (d2:=rY 374164043821928694152695900025857252409163869323363) (m:=85075216121577873493535270834687443045) O c1' (qF kO iV ud wpk) (l5 (jf (ag kO)) (jf (ag iV))) ?_;intro s1 t1 r;refine⟨s1,t1,λR=>r.weak O.l3 (hk _ ?_ ?_ R)⟩
  ·refine rwr hc ?_;rfl
  ·refine rwr hc ?_;intro R v z;change VR C R (bif QB la lr&&bU w iA then _ else _) v at z;revert z;show _->pP v (bif QB la lr&&bU w iA then _ else _);cases(QB la lr&&bU w iA)<;>exact λz=>z
end
section
variable{C:Cx}{Γ:cW}
theorem zL(T:lL C){S:U6}{num sr rd:Pa}(h:d5 C Γ S (Y1 num sr rd)):d5 C Γ S (yJ num sr rd):=λF P fr k en Q E er hy K=>
 ui hy λq1 m1 es va cur q2 m2 es2 qo vst a1 b1 a0 hpk c1 a2 b2 c2 st l1 l2 hy=>by
 refine eJ hy ?_;rintro j hy rfl;refine dX hy ?_;intro _ hy p1;refine bF hy ?_;rintro qp hy rfl;refine aC hy ?_;intro o hy p2;refine g9 hy ?_;rintro cp fp hy rfl;refine aC hy ?_;intro _ hy p3;refine eJ hy ?_;rintro n hy rfl;refine dI hy ?_;intro hn1 hy;refine qa hy λq0 c0 f0 q3 jn q4 n4 ps q5 c5 f5 s0 s1 s2 s3 l3 p0 p4 p5 p6 r5 hy=>uj hy λa r la' lr' wr' a5 hr5 j64 n64 hk=>?_;cases n with
 |zero=>exact aO hn1
 |succ m=>
 exact xq T la' lr' wr' a5 hr5 j64 n64 λla lr w hw wpk to fro hk'=>ah (BA (C:=C) (D:=⟨en,P.m,q1,q2,q3,q0,q4,q5,qo,m1,m2,jn,n4,m+1,c0,c5,es,es2,va,vst,.nat j,ps,f0,f5⟩) ⟨a1,b1,a0,hpk,c1,a2,b2,c2,st,l1,l2,s0,s1,s2,s3,l3,p0,p4,p5,p6,r5,λz=>KV.noConfusion z⟩ wpk rfl rfl p1 p2 p3 hk') λzz=>uh h er K hk to fro
theorem zK(T:lL C){S:U6}{num sr rd jq:Pa}(hjq:(QB (bB jq) 17||(QB (bB jq) 18||QB (bB jq) 19))=false)(h:d5 C Γ S (Y2 num sr rd jq)):d5 C Γ S (yI num sr rd jq):=λF P fr k en Q E er hy K=>
 ui hy λq1 m1 es va cur q2 m2 es2 qo vst a1 b1 a0 hpk c1 a2 b2 c2 st l1 l2 hy=>by
 refine pT hy ?_;rintro n hy rfl;refine dX hy ?_;intro _ hy j1;refine eJ hy ?_;rintro j hy rfl;refine dX hy ?_;intro _ hy p1;refine bF hy ?_;rintro qp hy rfl;refine aC hy ?_;intro o hy p2;refine g9 hy ?_;rintro cp fp hy rfl;refine aC hy ?_;intro _ hy p3;refine eJ hy ?_;rintro m hy rfl;refine qa hy λq0 c0 f0 q3 jn q4 n4 ps q5 c5 f5 s0 s1 s2 s3 l3 p0 p4 p5 p6 r5 hy=>uj hy λa r la' lr' wr' a5 hr5 j64 n64 hk=>?_;exact xq T la' lr' wr' a5 hr5 j64 n64 λla lr w hw wpk to fro hk'=>ah (Bz (C:=C) (D:=⟨en,P.m,q1,q2,q3,q0,q4,q5,qo,m1,m2,jn,n4,m,c0,c5,es,es2,va,vst,.neg n,ps,f0,f5⟩) ⟨a1,b1,a0,hpk,c1,a2,b2,c2,st,l1,l2,s0,s1,s2,s3,l3,p0,p4,p5,p6,r5,λz=>KV.noConfusion z⟩ hw wpk hjq rfl j1 p1 p2 p3 hk') λzz=>uh h er K hk to fro
end
end
section
section
variable{C:Cx}{Γ:cW}
abbrev FI(C:Cx):=∀Γ e,{i:XI×Bool // gQ C Γ e i.1 i.2}
abbrev FT(C:Cx):=∀Γ cc e,Option {t:Tg // oM C Γ cc e t}
structure Lv(C:Cx)where
 x:FX C
 c:FC C
 i:FI C
 t:FT C
noncomputable def bI{e:Qz}:{i:XI×Bool // gQ C Γ e i.1 i.2}:=⟨(MA,true),λZ Z Z Z Z Z Z h=>by exact aO h⟩
noncomputable def xv(kd:Str->Option SJ)(sc:Tp):Bool:=
 (match sc.kind with|.function=>true|_=>false)&&sc.names.all (λx=>match x.2 with
  |.cell=>false
  |.local=>gn (sc.names.lookup x.1)
  |.free=>(match sc.names.lookup x.1 with|some .free=>true|_=>false)&&(match kd x.1 with|some .cell=>true|some .free=>true|_=>false)
  |_=>true)&&!gn (sc.names.lookup ("FP":Str))
theorem qc{k:Option SJ}(h:(match k with|some .free=>true|_=>false)=true):k=some .free:=by
 cases k with
 |none=>exact aO h
 |some k=>cases k<;>first|rfl|exact aO h
theorem wW{k:Option SJ}(h:(match k with|some .cell=>true|some .free=>true|_=>false)=true):k=some .cell∨k=some .free:=by
 cases k with
 |none=>exact aO h
 |some k=>cases k<;>first|exact .inl rfl|exact .inr rfl|exact aO h
theorem ym{kd:Str->Option SJ}{sc:Tp}(h:xv kd sc=true):vY kd sc:=by
 refine jB h ?_;clear h;intro h h3;refine jB h ?_;intro h1 h2;have h2:=Rl.mp h2;refine⟨?_,λx hx e=>?_,λx hx e=>?_,λx hx e=>?_,λe=>?_⟩
 ·cases hk:sc.kind<;>rw[hk]at h1<;>first|rfl|exact aO h1
 ·have:=h2 x hx;rw[e]at this;exact aO this
 ·have:=h2 x hx;rw[e]at this;exact eZ this
 ·have:=h2 x hx;rw[e]at this;refine jB this ?_;intro a b;exact⟨qc a,wW b⟩
 ·rw[e]at h3;exact aO h3
def Fq(Γ:cW):∀ns:List Str,Option {x:X // oW Γ ns x}:=@SK _ (λns=>Option {x:X // oW Γ ns x}) (some ⟨ao,yp⟩) λn ns ih=>eE ih (λr Z=>eE (Γ.slot n) (λq hs=>some ⟨ab (ae q) r.1,vM hs r.2⟩) none) none
noncomputable def l6:Qz->List Str
 |.Name s _=>[s]
 |.Tuple es _ _=>es.filterMap λ|.Name s _=>some s|_=>none
 |_=>[]
section
variable{P₀:Pg}(O:C.Ok P₀)
include O
variable{nm:Str}{p pos ap:Pos}
def OX(lo:Γ.loud=true)(L:FX C)(n:String)(hg:P₀.gl nm=some (.bi n))(hk:Γ.kd nm=some .globalImplicit)(hd:gp nm=false)(args:List Qz):RX C Γ (.Call (.Name nm p) args [] pos):=match args with
 |[]=>c8 (n=="set") (λh=>⟨Cw,CT O (eq_of_beq h▸hg) hk hd⟩) bX
 |[e]=>c8 (!bh e) (λhs=>
  c8 (n=="len") (λh=>⟨dw P₀.ln.1 P₀.ln.2 (L Γ e).1,D0 O lo (eq_of_beq h▸hg) hk hd (bj hs) (L Γ e).2⟩)<|
  c8 (n=="tuple") (λh=>⟨sB (L Γ e).1,xK O (eq_of_beq h▸hg) hk hd (bj hs) (L Γ e).2⟩)<|
  c8 (n=="list") (λh=>⟨yL (L Γ e).1,uT O (eq_of_beq h▸hg) hk hd (bj hs) (L Γ e).2⟩)<|
  c8 (n=="all") (λh=>⟨G7 (L Γ e).1,Dh O lo (eq_of_beq h▸hg) hk hd (bj hs) (L Γ e).2⟩) bX) bX
 |[e,e']=>c8 (!bh e) (λhs=>c8 (!bh e') (λhs'=>c8 (n=="min") (λh=>⟨aW Hu (L Γ e).1 (L Γ e').1,CZ O lo (eq_of_beq h▸hg) hk hd (bj hs) (bj hs') (L Γ e).2 (L Γ e').2⟩) bX) bX) bX
 |_=>bX
def Hd(lo:Γ.loud=true)(L:FX C)(args:List Qz):RX C Γ (.Call (.Name nm p) args [] pos):=
 c8 (lu (Γ.kd nm)) (λhk=>c8 (!gp nm) (λhd=>eE (P₀.gl nm) (λg hg=>(match(motive:=∀g,P₀.gl nm=some g->RX C Γ (.Call (.Name nm p) args [] pos)) g,hg with
  |.fn q,hg=>eE (nU (L Γ) args) (λr Z=>⟨bf q r.1,pH O lo hg (f6 hk) (bj hd) r.2.2 r.2.1⟩) bX
  |.cls c q,hg=>eE (nU (L Γ) args) (λr Z=>⟨qA c q r.1,wo O lo hg (f6 hk) (bj hd) r.2.2 r.2.1⟩) bX
  |.bi n,hg=>OX O lo L n hg (f6 hk) (bj hd) args
  |_,_=>bX)) bX) bX) (eE (nU (L Γ) args) (λr Z=>⟨qB (GX (Γ:=Γ) nm p).1 r.1,xN lo (GX (Γ:=Γ) nm p).2 rfl r.2.2 r.2.1⟩) bX)
omit O in
noncomputable def My:Qz->Bool
 |.Attribute _ a _=>a==("sr_conflicts":Str)
 |_=>false
def Hb{o e:Qz}(y:RX C Γ o)(x:RX C Γ e)(ho:aZ o=false)(hp:cG ap pos=true)(hs:bh e=false)(z:RX C Γ (.Call (.Attribute o nm ap) [e] [] pos)):RX C Γ (.Call (.Attribute o nm ap) [e] [] pos):=
 c8 (nm==("append":Str)) (λh=>c8 (My o) (λzz=>⟨G6 y.1 x.1,by cases eq_of_beq h;exact De ho y.2 hs hp x.2⟩) ⟨cX y.1 x.1,by cases eq_of_beq h;exact Dd ho y.2 hs hp x.2⟩)<|
 c8 (nm==("get":Str)) (λh=>⟨ka y.1 x.1,by cases eq_of_beq h;exact zA O ho y.2 hs hp x.2⟩)<|
 c8 (nm==("add":Str)) (λh=>⟨sC y.1 x.1,by cases eq_of_beq h;exact zo ho y.2 hs hp x.2⟩) z
def Ha{o e e':Qz}(y:RX C Γ o)(x:RX C Γ e)(x':RX C Γ e')(ho:aZ o=false)(hp:cG ap pos=true)(hs:bh e=false)(hs':bh e'=false)(z:RX C Γ (.Call (.Attribute o nm ap) [e,e'] [] pos)):RX C Γ (.Call (.Attribute o nm ap) [e,e'] [] pos):=
 c8 (nm==("get":Str)) (λh=>⟨gj y.1 x.1 x'.1,by cases eq_of_beq h;exact zy O ho y.2 hs hs' hp x.2 x'.2⟩)<|
 c8 (nm==("insert":Str)) (λh=>⟨xB y.1 x.1 x'.1,by cases eq_of_beq h;exact D2 ho y.2 hs hs' hp x.2 x'.2⟩) z
def Me{o:Qz}(y:RX C Γ o)(ho:aZ o=false)(hp:cG ap pos=true)(args:List Qz)(z:RX C Γ (.Call (.Attribute o nm ap) args [] pos)):RX C Γ (.Call (.Attribute o nm ap) args [] pos):=match(motive:=∀args,RX C Γ (.Call (.Attribute o nm ap) args [] pos)->RX C Γ (.Call (.Attribute o nm ap) args [] pos)) args,z with
 |[],z=>c8 (nm==("pop":Str)) (λh=>⟨kX y.1,by cases eq_of_beq h;exact CV ho y.2 hp⟩) z
 |[.Constant (.int (.ofNat 0)) n p'],z=>c8 (nm==("pop":Str)) (λh=>⟨mW y.1,by cases eq_of_beq h;exact zr ho y.2 hp⟩) z
 |_,z=>z
def GY{o:Qz}(lo:Γ.loud=true)(L:FX C)(y:RX C Γ o)(ho:aZ o=false)(hp:cG ap pos=true)(args:List Qz):RX C Γ (.Call (.Attribute o nm ap) args [] pos):=
 eE (P₀.mt nm) (λcq hm=>eE (nU (L Γ) args) (λr Z=>c8 (QJ args.length 19) (λhl=>⟨bH cq.1 cq.2 y.1 r.1,xO O lo hm ho y.2 r.2.2 hl hp r.2.1⟩) bX) bX) bX
def JK{o e:Qz}(x:RX C Γ e)(hp:cG ap pos=true)(hs:bh e=false)(z:RX C Γ (.Call (.Attribute o nm ap) [e] [] pos)):RX C Γ (.Call (.Attribute o nm ap) [e] [] pos):=match(motive:=∀o,RX C Γ (.Call (.Attribute o nm ap) [e] [] pos)->RX C Γ (.Call (.Attribute o nm ap) [e] [] pos)) o,z with
 |.Constant (.str s) n p,z=>c8 (Fm s) (λok=>c8 (nm==("join":Str)) (λh=>⟨w4 (iz s) x.1,by cases eq_of_beq h;exact zw ok hs hp x.2⟩) z) z
 |_,z=>z
def JJ{o:Qz}(lo:Γ.loud=true)(L:FX C)(args:List Qz):RX C Γ (.Call (.Attribute o nm ap) args [] pos):=
 c8 (!aZ o) (λho=>c8 (cG ap pos) (λhp=>Me (L Γ o) (bj ho) hp args (match args with
  |[e]=>c8 (!bh e) (λhs=>Hb O (L Γ o) (L Γ e) (bj ho) hp (bj hs) (JK (L Γ e) hp (bj hs) (GY O lo L (L Γ o) (bj ho) hp [e]))) bX
  |[e,e']=>c8 (!bh e) (λhs=>c8 (!bh e') (λhs'=>Ha O (L Γ o) (L Γ e) (L Γ e') (bj ho) hp (bj hs) (bj hs') (GY O lo L (L Γ o) (bj ho) hp [e,e'])) bX) bX
  |args=>GY O lo L (L Γ o) (bj ho) hp args)) bX) bX
omit O in
def AC(L:∀e,RX C Γ e):∀es,{x:X // yr C Γ es x}:=@SK _ (λes=>{x:X // yr C Γ es x}) ⟨ao,zV⟩ λe es ih=>⟨iO (L e).1 ih.1,xS (L e).2 ih.2⟩
omit O in
noncomputable def Mh(M:FC C)(ifs:List Qz):Option {c:Cn // oO C Γ ifs c}:=match ifs with
 |[]=>some ⟨iZ,uW⟩
 |[e]=>some ⟨(M Γ e).1,uV (M Γ e).2⟩
 |_=>none
omit O in
def tR{α:Type}(L:Lv C)(target iter:Qz)(ifs:List Qz)(sc:Tp)(z:α)(k:∀caps xi tg test,kT C Γ target iter ifs sc caps tg test (l6 target)->gQ C Γ iter xi false->α):α:=
 c8 Γ.loud (λlo=>c8 (xv Γ.kd sc) (λok=>c8 (!(L.i Γ iter).1.2) (λhi=>c8 (lh iter) (λns=>eE (Fq Γ (frees sc)) (λcp Z=>
  let Δ:cW:=⟨fG Γ.kd sc,frees sc++l6 target,Γ.loud,false⟩
  eE (L.t Δ false target) (λt Z=>eE (Mh (Γ:=Δ) L.c ifs) (λf Z=>k cp.1 (L.i Γ iter).1.1 t.1 f.1 ⟨lo,ym ok,ns,cp.2,t.2,f.2⟩ (by have:=(L.i Γ iter).2;rw[bj hi]at this;exact this)) z) z) z) z) z) z) z
omit O in
noncomputable abbrev E9(Γ:cW)(sc:Tp)(target:Qz):cW:=⟨fG Γ.kd sc,frees sc++l6 target,Γ.loud,false⟩
omit O in
noncomputable def fz(Γ:cW):Bool:=gn (Γ.kd ("parts":Str))
omit O in
def mF(L:FX C)(Γ:cW)(e:Qz):RX C Γ e:=match e with
 |.List es p=>eE (nU (L Γ) es) (λr Z=>⟨sg r.1,zG r.2.1⟩) bX
 |e=>L Γ e
omit O in
def OV(L:∀e,RX C Γ e):∀ks vs,Option {x:X // yt C Γ ks vs x}:=@SK _ (λks=>∀vs,Option {x:X // yt C Γ ks vs x}) (λvs=>match vs with
 |[]=>some ⟨ao,zX⟩
 |_=>none) λk ks ih vs=>match k,vs with
 |some k,v::vs=>eE (ih vs) (λr Z=>some ⟨ab (L k).1 (ab (L v).1 r.1),xU (L k).2 (L v).2 r.2⟩) none
 |_,_=>none
omit O in
def JL(L:∀e,RX C Γ e)(ks:List (Option Qz))(vs:List Qz)(p:Pos):RX C Γ (.Dict ks vs p):=
 c8 (ks.all (·.isSome)) (λh1=>c8 (QB ks.length vs.length) (λh2=>c8 (QJ 1 ks.length) (λh0=>c8 (QJ ks.length 15) (λh3=>eE (OV L ks vs) (λr Z=>⟨w5 r.1,zI r.2 h1 (QY h2) (λz=>by rw[z]at h0;exact aO h0) (QA h3)⟩) bX) bX) bX) bX) bX
def mX(L:Lv C):FX C:=λΓ e=>match e with
 |.Constant c n p=>Hc c n p
 |.Name s p=>JI O s p
 |.Attribute o a p=>JN O a p (L.x Γ o)
 |.Subscript o i p=>Md O L.x (L.x Γ o) (mF L.x Γ o) i p
 |.Tuple es n p=>eE (nU (bif fz Γ then mF L.x Γ else L.x Γ) es) (λr Z=>c8 (QJ es.length 1000) (λhl=>⟨r.1,CP r.2.1 hl⟩) bX) bX
 |.List es p=>eE (nU (L.x Γ) es) (λr Z=>⟨aK r.1,km r.2.1⟩) bX
 |.Dict [] [] p=>⟨bP,xL⟩
 |.Dict ks vs p=>JL (L.x Γ) ks vs p
 |.BinOp a .Add b p=>⟨_,fP s7 (mF L.x Γ a).2 (mF L.x Γ b).2⟩
 |.BinOp a op b p=>Mk op p (L.x Γ a) (L.x Γ b)
 |.UnaryOp .USub a p=>⟨dS (L.x Γ a).1,sV (L.x Γ a).2⟩
 |.UnaryOp .Not a p=>⟨dz (fL (cT (L.x Γ a).1)),CW O (L.x Γ a).2⟩
 |.Compare a [.Is] [.Constant .none n p'] p=>⟨dz (iq (L.x Γ a).1),Et (L.x Γ a).2⟩
 |.Compare a [.In] [b] p=>Mg O p (L.x Γ a) (L.x Γ b)
 |.Compare a [op] [b] p=>AD O op p (L.x Γ a) (L.x Γ b)
 |.BoolOp .And [a,b] p=>⟨xD (L.x Γ a).1 (L.x Γ b).1,Dg O (L.x Γ a).2 (L.x Γ b).2⟩
 |.BoolOp .Or [a,b] p=>⟨IY (L.x Γ a).1 (L.x Γ b).1,Gy O (L.x Γ a).2 (L.x Γ b).2⟩
 |.IfExp d a b p=>⟨dQ (L.c Γ d).1 (L.x Γ a).1 (L.x Γ b).1,wp (L.c Γ d).2 (L.x Γ a).2 (L.x Γ b).2⟩
 |.Call (.Name nm p) args [] pos=>c8 Γ.loud (λlo=>Hd O lo L.x args) bX
 |.Call (.Attribute o nm ap) args [] pos=>c8 Γ.loud (λlo=>JJ O lo L.x args) bX
 |.ListComp elt [⟨target,iter,ifs,0⟩] sc pos=>tR L target iter ifs sc bX λZ Z Z Z H hi=>⟨_,zQ H hi (L.x (E9 Γ sc target) elt).2⟩
 |.DictComp kx vx [⟨target,iter,ifs,0⟩] sc pos=>tR L target iter ifs sc bX λZ Z Z Z H hi=>⟨_,xM H hi (L.x (E9 Γ sc target) kx).2 (L.x (E9 Γ sc target) vx).2⟩
 |.JoinedStr (a::b::es) p=>c8 (QJ es.length 90) (λhl=>⟨sD (AC (L.x Γ) (a::b::es)).1,zD (AC (L.x Γ) (a::b::es)).2 hl⟩) bX
 |.FormattedValue v 115 none p=>⟨sE (L.x Γ v).1,D4 (L.x Γ v).2⟩
 |_=>bX
end
end
end
section
section
variable{C:Cx}{Γ:cW}
section
variable{P₀:Pg}(O:C.Ok P₀)
include O
def DN{e:Qz}(x:RX C Γ e):{i:XI×Bool // gQ C Γ e i.1 i.2}:=⟨(aV x.1,false),uX O x.2⟩
def OU(L:FX C){nm:Str}{p pos:Pos}(hk:Γ.kd nm=some .globalImplicit)(hd:gp nm=false)(n:String)(hg:P₀.gl nm=some (.bi n))(args:List Qz)(z:{i:XI×Bool // gQ C Γ (.Call (.Name nm p) args [] pos) i.1 i.2}):{i:XI×Bool // gQ C Γ (.Call (.Name nm p) args [] pos) i.1 i.2}:=
 match(motive:=∀args,{i:XI×Bool // gQ C Γ (.Call (.Name nm p) args [] pos) i.1 i.2}->{i:XI×Bool // gQ C Γ (.Call (.Name nm p) args [] pos) i.1 i.2}) args,z with
 |[e],z=>c8 (!bh e) (λhs=>
  c8 (n=="enumerate") (λh=>⟨(qf (L Γ e).1,true),xT O (eq_of_beq h▸hg) hk hd (bj hs) (L Γ e).2⟩)<|
  c8 (n=="range") (λh=>⟨(wZ (L Γ e).1,false),ta O (eq_of_beq h▸hg) hk hd (bj hs) (L Γ e).2⟩) z) z
 |[e,e'],z=>c8 (!bh e) (λhs=>c8 (!bh e') (λhs'=>c8 (n=="range") (λh=>⟨(wY (L Γ e).1 (L Γ e').1,false),sZ O (eq_of_beq h▸hg) hk hd (bj hs) (bj hs') (L Γ e).2 (L Γ e').2⟩) z) z) z
 |_,z=>z
def mI(L:FX C)(Γ:cW)(e:Qz)(x:RX C Γ e):{i:XI×Bool // gQ C Γ e i.1 i.2}:=match(motive:=∀e,RX C Γ e->{i:XI×Bool // gQ C Γ e i.1 i.2}) e,x with
 |.Call (.Name nm p) args [] pos,x=>c8 (lu (Γ.kd nm)) (λhk=>c8 (!gp nm) (λhd=>eE (P₀.gl nm) (λg hg=>(match(motive:=∀g,P₀.gl nm=some g->{i:XI×Bool // gQ C Γ (.Call (.Name nm p) args [] pos) i.1 i.2}) g,hg with
  |.bi n,hg=>OU O L (f6 hk) (bj hd) n hg args (DN O x)
  |_,_=>DN O x)) (DN O x)) (DN O x)) (DN O x)
 |.Call (.Attribute o a ap) [] [] pos,x=>c8 (a==("items":Str)) (λh=>c8 (!aZ o) (λho=>c8 (cG ap pos) (λhp=>⟨(vo (L Γ o).1,true),by cases eq_of_beq h;exact uY O (bj ho) hp (L Γ o).2⟩) (DN O x)) (DN O x)) (DN O x)
 |_,x=>DN O x
end
noncomputable def E8:Option SJ->Bool
 |some .cell=>true
 |_=>false
theorem rK{k:Option SJ}(h:E8 k=true):k=some .cell:=by
 cases k with
 |none=>exact aO h
 |some k=>cases k<;>first|rfl|exact aO h
def OP{cc:Bool}(T:∀e,Option {t:Tg // oM C Γ cc e t}):∀es,Option {t:Tg // qu C Γ cc es t}:=@SK _ (λes=>Option {t:Tg // qu C Γ cc es t}) (some ⟨tN,xR⟩) λe es ih=>eE (T e) (λt Z=>eE ih (λr Z=>some ⟨tC t.1 r.1,uU t.2 r.2⟩) none) none
def mT(T:FT C)(Γ:cW)(cc:Bool)(e:Qz):Option {t:Tg // oM C Γ cc e t}:=match e with
 |.Name s p=>eE (Γ.slot s) (λq hs=>c8 (gn (Γ.kd s)) (λh=>some ⟨t1 q,lb hs (.inl (eZ h))⟩) (c8 (E8 (Γ.kd s)) (λh=>c8 (C.asg s) (λh2=>c8 cc (λh3=>some ⟨t1 q,lb hs (.inr ⟨rK h,h2,h3⟩)⟩) none) none) none)) none
 |.Tuple es n p=>c8 Γ.loud (λlo=>eE (OP (T Γ cc) es) (λt Z=>some ⟨t.1,zT lo t.2⟩) none) none
 |_=>none
def lv{P₀:Pg}(O:C.Ok P₀)(n:Nat):Lv C:=@SX (λZ=>Lv C) ⟨λZ Z=>bX,λZ Z=>bC,λZ Z=>bI,λZ Z Z=>none⟩ (λZ L=>⟨mX O L,mC O L.x L.c,λΓ e=>mI O L.x Γ e (mX O L Γ e),mT L.t⟩) n
abbrev RQ(C:Cx)(Γ:cW)(e:Qz):=Option {x:X // bx C Γ e x∧QX x}
abbrev RP(C:Cx)(Γ:cW)(e:Qz):=Option {p:PX // oN C Γ e p}
section
variable{P₀:Pg}(O:C.Ok P₀)
include O
def OQ(s:Str)(p:Pos):RQ C Γ (.Name s p):=eE (Γ.slot s) (λq hs=>c8 (!gp s) (λh1=>c8 (!(s==("__classdict__":Str))) (λh2=>some ⟨ae q,wn hs (bj h1) (bj h2),GL⟩) none) none) none
def mQ(Q:∀e,RQ C Γ e)(e:Qz):RQ C Γ e:=match e with
 |.Name s p=>c8 (lu (Γ.kd s)) (λhk=>c8 (!gp s) (λhd=>eE (P₀.gl s) (λg hg=>(match(motive:=∀g,P₀.gl s=some g->RQ C Γ (.Name s p)) g,hg with
  |.con v,hg=>some ⟨af v,wv O hg (f6 hk) (bj hd),Am⟩
  |_,_=>none)) none) none) (OQ s p)
 |.Constant (.int (.ofNat i)) n p=>some ⟨af (.nat i),ji,Am⟩
 |.UnaryOp .USub (.Constant (.int (.ofNat i)) n p) p'=>none
 |.Attribute o a p=>eE (C.sl a) (λq hs=>c8 (!aZ o) (λho=>eE (Q o) (λr Z=>some ⟨ak q r.1,sW O hs (bj ho) r.2.1,Dx r.2.2⟩) none) none) none
 |.BinOp a .Add (.Constant (.int (.ofNat i)) n p) p'=>eE (Q a) (λr Z=>some ⟨aW c9 r.1 (af (.nat i)),fP s7 r.2.1 ji,GN r.2.2⟩) none
 |.BinOp a .Sub (.Constant (.int (.ofNat i)) n p) p'=>eE (Q a) (λr Z=>some ⟨aW q9 r.1 (af (.nat i)),fP xw r.2.1 ji,GM r.2.2⟩) none
 |_=>none
def OY(n:Nat):∀e,RQ C Γ e:=@SX (λzz=>∀e,RQ C Γ e) (λzz=>none) (λzz Q=>mQ O Q) n
def mP(lo:Γ.loud=true)(Q:∀e,RQ C Γ e)(P:∀e,RP C Γ e)(e:Qz):RP C Γ e:=match(motive:=∀e,RQ C Γ e->RP C Γ e) e,Q e with
 |.Subscript o i p,_=>eE (P o) (λx Z=>eE (P i) (λy Z=>c8 (!gm i) (λh=>some ⟨vb x.1 y.1,zU O lo x.2 y.2 (bj h)⟩) none) none) none
 |_,q=>eE q (λr Z=>some ⟨pX r.1,GB r.2.1 r.2.2⟩) none
def NS(lo:Γ.loud=true)(n:Nat):∀e,RP C Γ e:=@SX (λzz=>∀e,RP C Γ e) (λzz=>none) (λzz P=>mP O lo (OY O 9) P) n
def mZ(lo:Γ.loud=true)(s:U6):Option {p:PX // ET C Γ s p}:=match s with
 |.Assign [te] e pos=>eE (NS O lo 9 e) (λr Z=>c8 (!gx e) (λh=>c8 (!(gJ te&&gJ e)) (λh2=>some ⟨r.1,zS r.2 (bj h) (bj h2)⟩) none) none) none
 |.Expr (.Call (.Attribute o nm ap) args [] pos) pos2=>eE (NS O lo 9 o) (λr Z=>c8 (!aZ o) (λh=>some ⟨r.1,xQ r.2 (bj h)⟩) none) none
 |_=>none
end
theorem B6:jY 0 "KeyError":=.inl ⟨rfl,rfl⟩
theorem B7:jY 1 "IndexError":=.inr ⟨rfl,rfl⟩
end
end
section
section
variable{C:Cx}{Γ:cW}
abbrev LQ:=Pa×Se×Qz×Tp
def mj(C:Cx)(l:List LQ):Prop:=∀r∈l,C.lam r.1=some r.2
theorem mj.l{a b:List LQ}(h:mj C (a++b)):mj C a:=λr k=>h r (RW _ k)
theorem mj.r{a b:List LQ}(h:mj C (a++b)):mj C b:=λr k=>h r (Ro _ k)
abbrev RS(C:Cx)(Γ:cW)(s:U6):={p:Y×List LQ // mj C p.2->d5 C Γ s p.1}
abbrev Oe(C:Cx)(Γ:cW)(ss:List U6):={p:Y×List LQ // mj C p.2->lM C Γ ss p.1}
theorem zW{w:Rd->Sem Su}:C0 C Γ fc w:=λZ Z Z Z Z Z Z Z h Z=>by exact aO h
noncomputable def pS{w:Rd->Sem Su}(y:Y)(l:List LQ)(h:mj C l->C0 C Γ y w):{p:Y×List LQ // mj C p.2->C0 C Γ p.1 w}:=⟨(y,l),h⟩
noncomputable def bS{s:U6}:RS C Γ s:=pS fc [] λzz=>zW
def kU(S:∀s,RS C Γ s):∀ss,Oe C Γ ss:=@SK _ (λss=>Oe C Γ ss) (pS aa [] λzz=>A5) λs ss ih=>pS (ad (S s).1.1 ih.1.1) ((S s).1.2++ih.1.2) λh=>pJ ((S s).2 h.l) (ih.2 h.r)
def Lu(s:Str)(k:Nat):Prop:=∃T:String,jY k T∧s=Rg T
def Mi(s:Str):Option {k:Nat // Lu s k}:=
 c8 (s==("KeyError":Str)) (λh=>some ⟨0,"KeyError",B6,eq_of_beq h⟩) (c8 (s==("IndexError":Str)) (λh=>some ⟨1,"IndexError",B7,eq_of_beq h⟩) none)
theorem ED{s:Str}{k:Nat}{p:Pos}(h:Lu s k)(g:lu (Γ.kd s)=true):jZ Γ (.Name s p) [k]:=by
 refine ah h ?_;clear h;rintro T h rfl;exact .one h (f6 g)
theorem EC{s s':Str}{k k' n:Nat}{p p1 p2:Pos}(h:Lu s k)(g:lu (Γ.kd s)=true)(h':Lu s' k')(g':lu (Γ.kd s')=true):jZ Γ (.Tuple [.Name s p1,.Name s' p2] n p) [k,k']:=by
 refine ah h ?_;clear h;rintro T h rfl;refine ah h' ?_;clear h';rintro T' h' rfl;exact .two h h' (f6 g) (f6 g')
def OW(Γ:cW)(t:Qz):Option {ks:List Nat // jZ Γ t ks}:=match t with
 |.Name s p=>eE (Mi s) (λk Z=>c8 (lu (Γ.kd s)) (λh=>some ⟨[k.1],ED k.2 h⟩) none) none
 |.Tuple [.Name s p1,.Name s' p2] n p=>eE (Mi s) (λk Z=>c8 (lu (Γ.kd s)) (λh=>eE (Mi s') (λk' Z=>c8 (lu (Γ.kd s')) (λh'=>some ⟨[k.1,k'.1],EC k.2 h k'.2 h'⟩) none) none) none) none
 |_=>none
def JM(op:UP):Option {g:KT->KV->KT // oY C op g}:=match op with
 |.Add=>some ⟨c9,EN⟩
 |.Sub=>some ⟨q9,EM⟩
 |_=>none
def OO(s:Str):Option {u:Unit // Γ.kd s=some .local∨Γ.kd s=some .cell∧C.asg s=true}:=
 c8 (gn (Γ.kd s)) (λh=>some ⟨(),.inl (eZ h)⟩) (c8 (E8 (Γ.kd s)) (λh=>c8 (C.asg s) (λh2=>some ⟨(),.inr ⟨rK h,h2⟩⟩) none) none)
section
variable{P₀:Pg}(O:C.Ok P₀)
include O
omit O in
theorem Jp{sl:Pa}{nm:Str}{c0:Nat}{v0:KV}(h:P₀.df nm=some (c0,v0))(k:KT)(s:KS)(c:Nat)(fs:T KV)(q:bQ (tg sl fs) (aB (QB c c0) false (k s v0)) (k s)=true):(∃x,tg sl fs=some x∧k s x=true)∨tg sl fs=none∧∃x,P₀.df nm=some (c,x)∧k s x=true:=by
 cases e:tg sl fs with
 |some x=>rw[e]at q;exact .inl ⟨x,rfl,q⟩
 |none=>
  rw[e]at q;refine dI q ?_;intro h1 h2;cases bR.mp h1;exact .inr ⟨rfl,v0,h,h2⟩
def Ml(L:Lv C)(lm:Int->Option Pa)(t e:Qz)(pos:Pos):RS C Γ (.Assign [t] e pos):=match e with
 |.Lambda a b sc p=>(match t with
  |.Name n p'=>eE (lm p.line) (λq Z=>eE (Γ.slot n) (λsl hs=>c8 (gn (Γ.kd n)) (λhl=>c8 (gn (Γ.kd "FP")) (λhf=>c8 (a.defaults.isEmpty&&a.kw_defaults.isEmpty) (λhd=>c8 (sc.names.all λx=>(match x.2 with|.free=>true|_=>false)|>λy=>!y||(!C.asg x.1&&(match Γ.kd x.1 with|some .cell=>true|some .free=>true|_=>false))) (λhv=>eE (Fq Γ (frees sc)) (λcp Z=>
    (pS (av (t1 sl) (xA q cp.1)) ([(q,a,b,sc)]) λH=>D1 O ⟨eZ hf,(by refine ar (Rb.mp hd) ?_;intro h1 h2;exact⟨Tq.mp h1,Tq.mp h2⟩),H _ QF,(λx hx e=>by
     have:=Rl.mp hv x hx;rw[e]at this;refine jB this ?_;intro h1 h2;exact⟨bj h1,wW h2⟩),cp.2⟩ hs (eZ hl))) bS) bS) bS) bS) bS) bS) bS
  |_=>bS)
 |.ListComp elt [⟨target,iter,ifs,0⟩] sc p2=>(match t with
  |.Name n p'=>eE (Γ.slot n) (λsl hs=>c8 (gn (Γ.kd n)) (λhl=>tR L target iter ifs sc bS λZ Z Z Z H hi=>(pS (_) ([]) λZ=>sY H hi (L.x (E9 Γ sc target) elt).2 hs (eZ hl))) bS) bS
  |_=>bS)
 |.DictComp kx vx [⟨target,iter,ifs,0⟩] sc p2=>(match t with
  |.Name n p'=>eE (Γ.slot n) (λsl hs=>c8 (gn (Γ.kd n)) (λhl=>tR L target iter ifs sc bS λZ Z Z Z H hi=>(pS (_) ([]) λZ=>qQ H hi (L.x (E9 Γ sc target) kx).2 (L.x (E9 Γ sc target) vx).2 hs (eZ hl))) bS) bS
  |_=>bS)
 |.List [] lp=>(match t with
  |.Attribute o a p=>eE (C.sl a) (λq hn=>c8 (a==("sr_conflicts":Str)) (λZ=>(pS (cg q (L.x Γ o).1 LA) ([]) λZ=>qR O hn rfl GA (L.x Γ o).2)) (pS (cg q (L.x Γ o).1 (aK ao)) ([]) λZ=>qR O hn rfl (km bE) (L.x Γ o).2)) bS
  |.Subscript o i p=>c8 (!gm i) (λhi=>(pS (bV (L.x Γ o).1 (L.x Γ i).1 (aK ao)) ([]) λZ=>wx rfl (bj hi) (km bE) (L.x Γ o).2 (L.x Γ i).2)) bS
  |t=>c8 (!(gJ t)) (λh2=>eE (L.t Γ true t) (λtg Z=>c8 (fz Γ) (λZ=>(pS (av tg.1 (sg ao)) ([]) λZ=>kr (zG bE) tg.2 rfl (by rw[bj h2];rfl))) (pS (av tg.1 (aK ao)) ([]) λZ=>kr (km bE) tg.2 rfl (by rw[bj h2];rfl))) bS) bS)
 |e=>c8 (!gx e) (λhc=>(match t with
  |.Attribute o a p=>eE (C.sl a) (λq hn=>(pS (cg q (L.x Γ o).1 (L.x Γ e).1) ([]) λZ=>qR O hn (bj hc) (L.x Γ e).2 (L.x Γ o).2)) bS
  |.Subscript o i p=>c8 (!gm i) (λhi=>(pS (bV (L.x Γ o).1 (L.x Γ i).1 (L.x Γ e).1) ([]) λZ=>wx (bj hc) (bj hi) (L.x Γ e).2 (L.x Γ o).2 (L.x Γ i).2)) bS
  |t=>c8 (!(gJ t&&gJ e)) (λh2=>eE (L.t Γ true t) (λtg Z=>(pS (av tg.1 (L.x Γ e).1) ([]) λZ=>kr (L.x Γ e).2 tg.2 (bj hc) (bj h2))) bS) bS)) bS
theorem Db{sl c:_}{nm:Str}{v:KV}{o e:Qz}{p pos:Pos}{op:UP}{g:KT->KV->KT}{x y:X}(hn:C.sl nm=some sl)(hd:P₀.df nm=some (c,v))(hg:oY C op g)(hx:bx C Γ e x)(ho:bx C Γ o y):d5 C Γ (.AugAssign (.Attribute o nm p) op e pos) (md (E0 sl c v) sl g y x):=
 ww O (gg:=λk s c1 fs=>bQ (tg sl fs) (aB (QB c1 c) false (k s v)) (k s)) hn (λZ Z Z=>rfl) (Jp hd) hg hx ho
theorem Da{sl:_}{nm:Str}{o e:Qz}{p pos:Pos}{op:UP}{g:KT->KV->KT}{x y:X}(hn:C.sl nm=some sl)(hg:oY C op g)(hx:bx C Γ e x)(ho:bx C Γ o y):d5 C Γ (.AugAssign (.Attribute o nm p) op e pos) (md (IL sl) sl g y x):=
 ww O (gg:=λk s c1 fs=>bQ (tg sl fs) false (k s)) hn (λZ Z Z=>rfl) (λk s c fs h=>.inl (tL h)) hg hx ho
def mS(L:Lv C)(lm:Int->Option Pa)(S:∀Γ s,RS C Γ s)(Γ:cW)(s:U6):RS C Γ s:=match s with
 |.Expr e p=>c8 (!gx e) (λh=>(pS (aY (L.x Γ e).1) ([]) λZ=>zH (L.x Γ e).2 (bj h))) bS
 |.Assign [t] e p=>Ml O L lm t e p
 |.AugAssign (.Name n p) op e pos=>eE (Γ.slot n) (λq hs=>eE (OO (C:=C) (Γ:=Γ) n) (λk Z=>c8 (!(n==("__classdict__":Str))) (λhc=>eE (JM (C:=C) op) (λg Z=>(pS (uF q g.1 (L.x Γ e).1) ([]) λZ=>D9 hs k.2 (bj hc) g.2 (L.x Γ e).2)) bS) bS) bS) bS
 |.AugAssign (.Attribute o a p) op e pos=>eE (C.sl a) (λq hn=>eE (JM (C:=C) op) (λg Z=>eE (P₀.df a) (λcv hd=>(pS (md (E0 q cv.1 cv.2) q g.1 (L.x Γ o).1 (L.x Γ e).1) ([]) λZ=>Db O hn hd g.2 (L.x Γ e).2 (L.x Γ o).2))
   (pS (md (IL q) q g.1 (L.x Γ o).1 (L.x Γ e).1) ([]) λZ=>Da O hn g.2 (L.x Γ e).2 (L.x Γ o).2)) bS) bS
 |.If e a b p=>(pS (bw (L.c Γ e).1 (kU (S Γ) a).1.1 (kU (S Γ) b).1.1) ((kU (S Γ) a).1.2++(kU (S Γ) b).1.2) λh=>zx (L.c Γ e).2 ((kU (S Γ) a).2 h.l) ((kU (S Γ) b).2 h.r))
 |.While e a b p=>(pS (dB (L.c Γ e).1 (kU (S Γ) a).1.1 (kU (S Γ) b).1.1) ((kU (S Γ) a).1.2++(kU (S Γ) b).1.2) λh=>xJ (L.c Γ e).2 ((kU (S Γ) a).2 h.l) ((kU (S Γ) b).2 h.r))
 |.For t i a b p=>c8 Γ.loud (λlo=>c8 (lh i) (λhs=>c8 (!(L.i Γ i).1.2||hM t) (λho=>eE (L.t Γ true t) (λtg Z=>(pS (bW (L.i Γ i).1.1 tg.1 (kU (S Γ) a).1.1 (kU (S Γ) b).1.1) ((kU (S Γ) a).1.2++(kU (S Γ) b).1.2) λh=>wu lo (L.i Γ i).2 hs tg.2 ((kU (S Γ) a).2 h.l) ((kU (S Γ) b).2 h.r) (λz=>by rw[z]at ho;exact ho))) bS) bS) bS) bS
 |.Delete [.Subscript o (.Slice (some (.UnaryOp .USub (.Constant (.int (.ofNat 2)) n p1) p2)) none none p') p] pos=>(pS (yH (L.x Γ o).1) ([]) λZ=>zJ (L.x Γ o).2)
 |.Return (some e) p=>(pS (bT (L.x Γ e).1) ([]) λZ=>CU (L.x Γ e).2)
 |.Return none p=>(pS (F1) ([]) λZ=>zp)
 |.Break p=>(pS (mU) ([]) λZ=>D6)
 |.Continue p=>(pS (iB) ([]) λZ=>zO)
 |.Pass p=>(pS (aa) ([]) λZ=>zt)
 |.Assert e m p=>(pS (yK (L.c Γ e).1) ([]) λZ=>Dc (L.c Γ e).2)
 |.Try [b] [.ExceptHandler (some tt) none [hd] hp] [] [] p=>c8 Γ.loud (λlo=>c8 Γ.st (λst=>eE (mZ O lo b) (λz Z=>eE (OW Γ tt) (λks Z=>(pS (yG z.1 ks.1 (S Γ b).1.1 (S {Γ with loud:=false} hd).1.1) ((S Γ b).1.2++(S {Γ with loud:=false} hd).1.2) λh=>CQ O lo st z.2 ((S Γ b).2 h.l) ks.2 ((S {Γ with loud:=false} hd).2 h.r))) bS) bS) bS) bS
 |_=>bS
def si(L:Lv C)(lm:Int->Option Pa)(n:Nat):∀Γ s,RS C Γ s:=@SX (λZ=>∀Γ s,RS C Γ s) (λZ Z=>bS) (λZ S=>mS O L lm S) n
set_option genCtorIdx false in
inductive Ov where
 |k|d1|d2
 |n (o c:Ov)
 |s (a b:Ov)
omit O in
def yf(o:Ov):(List U6->List (Bool×U6))×(U6->List (Bool×U6)):=@Ov.rec (λZ=>(List U6->List (Bool×U6))×(U6->List (Bool×U6))) (λZ=>[],λZ=>[]) (λZ=>[],λs=>[(true,s)]) (λZ=>[],λs=>[(false,s)])
 (λZ Z io ic=>(λss=>match ss with
  |[]=>[]
  |s::r=>io.2 s++ic.1 r,λZ=>[]))
 (λZ Z ia ib=>(λZ=>[],λs=>match s with
  |.If _ x y _=>ia.1 x++ib.1 y
  |.For _ _ x y _=>ia.1 x++ib.1 y
  |_=>[])) o
omit O in
def fg(C:Cx)(Γ:cW)(y1 y2:Y)(l:List (Bool×U6)):Prop:=∀x∈l,d5 C Γ x.2 (bif x.1 then y1 else y2)
omit O in
theorem fg.l{y1 y2:Y}{a b:List (Bool×U6)}(h:fg C Γ y1 y2 (a++b)):fg C Γ y1 y2 a:=λx k=>h x (RW _ k)
omit O in
theorem fg.r{y1 y2:Y}{a b:List (Bool×U6)}(h:fg C Γ y1 y2 (a++b)):fg C Γ y1 y2 b:=λx k=>h x (Ro _ k)
omit O in
def DM(L:Lv C)(S:∀Γ s,RS C Γ s)(Γ:cW)(y1 y2:Y)(o:Ov):(List U6->Y×List LQ)×(U6->Y×List LQ):=@Ov.rec (λZ=>(List U6->Y×List LQ)×(U6->Y×List LQ))
 (λss=>(kU (S Γ) ss).1,λs=>(S Γ s).1) (λss=>(kU (S Γ) ss).1,λZ=>(y1,[])) (λss=>(kU (S Γ) ss).1,λZ=>(y2,[]))
 (λZ Z io ic=>(λss=>match ss with
  |[]=>(kU (S Γ) []).1
  |s::r=>(ad (io.2 s).1 (ic.1 r).1,(io.2 s).2++(ic.1 r).2),λs=>(S Γ s).1))
 (λZ Z ia ib=>(λss=>(kU (S Γ) ss).1,λs=>match s with
  |.If e x y p=>(bw (L.c Γ e).1 (ia.1 x).1 (ib.1 y).1,(ia.1 x).2++(ib.1 y).2)
  |.For t i x y p=>c8 Γ.loud (λlo=>c8 (lh i) (λhs=>c8 (!(L.i Γ i).1.2||hM t) (λho=>eE (L.t Γ true t) (λtg Z=>(bW (L.i Γ i).1.1 tg.1 (ia.1 x).1 (ib.1 y).1,(ia.1 x).2++(ib.1 y).2)) (fc,[])) (fc,[])) (fc,[])) (fc,[])
  |s=>(S Γ s).1)) o
omit O in
theorem kt{s:U6}:d5 C Γ s fc:=λZ Z Z Z Z Z Z Z h Z=>by exact aO h
omit O in
theorem vO{α:Type}{p:α->Prop}{b:Bool}{t:b=true->α}{z:α}(h1:∀h,p (t h))(h2:p z):p (c8 b t z):=by cases b<;>first|exact h2|exact h1 rfl
omit O in
theorem GR{α β:Type}{p:α->Prop}{o:Option β}{t:∀x,o=some x->α}{z:α}(h1:∀x h,p (t x h))(h2:p z):p (eE o t z):=by cases o<;>first|exact h2|exact h1 _ rfl
omit O in
theorem GZ{L:Lv C}{S:∀Γ s,RS C Γ s}{Γ:cW}{y1 y2:Y}:∀o:Ov,(∀ss,fg C Γ y1 y2 ((yf o).1 ss)->mj C ((DM L S Γ y1 y2 o).1 ss).2->lM C Γ ss ((DM L S Γ y1 y2 o).1 ss).1)∧(∀s,fg C Γ y1 y2 ((yf o).2 s)->mj C ((DM L S Γ y1 y2 o).2 s).2->d5 C Γ s ((DM L S Γ y1 y2 o).2 s).1):=by
 intro o;induction o with
 |k=>exact⟨λss Z h=>(kU (S Γ) ss).2 h,λs Z h=>(S Γ s).2 h⟩
 |d1=>exact⟨λss Z h=>(kU (S Γ) ss).2 h,λs h Z=>h (true,s) QF⟩
 |d2=>exact⟨λss Z h=>(kU (S Γ) ss).2 h,λs h Z=>h (false,s) QF⟩
 |n o c io ic=>
  refine⟨λss=>?_,λs Z h=>(S Γ s).2 h⟩;cases ss with
  |nil=>exact λZ h=>(kU (S Γ) []).2 h
  |cons s r=>
   intro h l;show lM C Γ (s::r) (ad ((DM L S Γ y1 y2 o).2 s).1 ((DM L S Γ y1 y2 c).1 r).1);exact pJ (io.2 s (fg.l h) (mj.l l)) (ic.1 r (fg.r h) (mj.r l))
 |s a b ia ib=>
  refine⟨λss Z h=>(kU (S Γ) ss).2 h,λs=>?_⟩;cases s with
  |If e x y p=>
   intro h l;show d5 C Γ (.If e x y p) (bw (L.c Γ e).1 ((DM L S Γ y1 y2 a).1 x).1 ((DM L S Γ y1 y2 b).1 y).1);exact zx (L.c Γ e).2 (ia.1 x (fg.l h) (mj.l l)) (ib.1 y (fg.r h) (mj.r l))
  |For t i x y p=>
   intro h;refine vO (p:=λv:Y×List LQ=>mj C v.2->d5 C Γ (.For t i x y p) v.1) (λlo=>?_) λZ=>kt;refine vO (p:=λv:Y×List LQ=>mj C v.2->d5 C Γ (.For t i x y p) v.1) (λhs=>?_) λZ=>kt;refine vO (p:=λv:Y×List LQ=>mj C v.2->d5 C Γ (.For t i x y p) v.1) (λho=>?_) λZ=>kt;exact GR (p:=λv:Y×List LQ=>mj C v.2->d5 C Γ (.For t i x y p) v.1) (λtg Z l=>wu lo (L.i Γ i).2 hs tg.2 (ia.1 x (fg.l h) (mj.l l)) (ib.1 y (fg.r h) (mj.r l)) (λz=>by rw[z]at ho;exact ho)) λZ=>kt
  |_=>exact λZ h=>(S Γ _).2 h
def lH(lm:Int->Option Pa)(Γ:cW)(y1 y2:Y)(o:Ov)(ss:List U6):Y×List LQ:=(DM (lv O 20) (si O (lv O 20) lm 20) Γ y1 y2 o).1 ss
end
end
end
section
section
variable{C:Cx}
structure Df where
 args:Se
 body:List U6
 sc:Tp
 ds:KV
inductive Ey where
 |fn (a:Ri) (d:Df) (o:Ov)
 |lam (r:Se×Qz×Tp)
section
variable{α β:Type}
def dy(l:List α):T α:=(@SK α (λZ=>Pa->T α->T α) (λZ t=>t) (λx Z r q t=>r (qs q) (tp q x t)) l) .e .nil
theorem J7(q:Pa)(x:α)(t:T α):tg q (tp q x t)=some x:=aS x q t
open Classical in
theorem wc:∀(l:List α)(n:Nat)(t:T α)(q:Pa),tg q ((@SK α (λZ=>Pa->T α->T α) (λZ t=>t) (λx Z r q t=>r (qs q) (tp q x t)) l) (cy n) t)=(if n≤bB q∧q=cy (bB q)then(l[bB q-n]?).or (tg q t)else tg q t)
 |[],n,t,q=>by simp
 |x::r,n,t,q=>by
  show tg q ((@SK α (λZ=>Pa->T α->T α) (λZ t=>t) (λx Z r q t=>r (qs q) (tp q x t)) r) (cy (n+1)) (tp (cy n) x t))=_;rw[wc r (n+1)];by_cases h:q=cy n
  ·subst h;rw[eY,J7];have:¬(n+1≤n∧cy n=cy n):=λz=>by simp_all+arith
   rw[if_neg this,if_pos ⟨QZ _,rfl⟩,Nat.sub_self];rfl
  ·rw[am _ h];by_cases h2:n≤bB q∧q=cy (bB q)
   ·have:bB q≠n:=λz=>h (z▸h2.2);have h3:n+1≤bB q:=by lia
    refine rwr (if_pos ⟨h3,h2.2⟩) (rwr (if_pos h2) (rwr (show bB q-n=(bB q-(n+1))+1 by lia) ?_));rfl
   ·have:¬(n+1≤bB q∧q=cy (bB q)):=λz=>h2 ⟨by lia,z.2⟩;exact rwr (if_neg this) (rwr (if_neg h2) rfl)
open Classical in
theorem dJ(l:List α)(q:Pa):tg q (dy l)=if q=cy (bB q)then l[bB q]? else none:=by
 have:=wc l 0 .nil q;have z:tg q (T.nil:T α)=none:=fj q;rw[z]at this;refine this.trans ?_;by_cases h:q=cy (bB q)
 ·rw[if_pos ⟨Ry _,h⟩,if_pos h,Option.or_none];rfl
 ·rw[if_neg (λz=>h z.2),if_neg h]
open Classical in
theorem zd(f:α->β)(l:List α)(q:Pa):tg q (dy (l.map f))=(tg q (dy l)).map f:=by
 rw[dJ,dJ]
 split<;>simp
end
noncomputable def pn(d:Df):List Str:=d.args.args.map (·.arg)
noncomputable def nD(d:Df):List Str:=d.sc.names.filterMap λx=>match x.2 with
 |.local=>if(pn d).contains x.1 then none else some x.1
 |.cell=>if(pn d).contains x.1 then none else some x.1
 |_=>none
noncomputable def bJ(d:Df):cW:=⟨λs=>d.sc.names.lookup s,pn d++nD d,true,true⟩
noncomputable def ln(r:Se×Qz×Tp):List Str:=r.1.args.map (·.arg)
noncomputable def HK(r:Se×Qz×Tp):cW:=⟨λs=>r.2.2.names.lookup s,ln r++frees r.2.2,true,false⟩
structure vQ(C:Cx)(a:Ri)(d:Df):Prop where
 ex:∃ob fd dv,C.h₀.get? a=some ob∧ob.data=.func fd∧fd.body=.stmts d.body∧fd.scope=d.sc∧fd.params=d.args∧fd.closure=[]∧fd.globals=Rh∧fd.builtins=RY∧C.h₀.CodeRec fd.code fd.qualname∧qw C.h₀ fd dv∧(∀R,bv C.h₀ R.h->bG C R d.ds dv)∧(d.sc.names.lookup ("FP":Str)=some NameKind.local->∃c P,fd.code=.ref c∧P∈C.vol∧CodeHd C.h₀ c P∧C.volQ P=fd.qualname++".<locals>."++"<lambda>")
noncomputable def isNone{α:Type}(o:Option α):Bool:=match o with|none=>true|_=>false
theorem fW{α:Type}{o:Option α}(h:isNone o=true):o=none:=by cases o<;>first|rfl|exact aO h
noncomputable def At(p:Se):Bool:=p.posonlyargs.isEmpty&&isNone p.vararg&&p.kwonlyargs.isEmpty&&isNone p.kwarg&&decide (p.args.map (·.arg)).Nodup
theorem wK{p:Se}(h:At p=true):jy (p.args.map (·.arg)) p:=by
 refine jB h ?_;clear h;intro h h5;refine jB h ?_;clear h;intro h h4;refine jB h ?_;clear h;intro h h3;refine jB h ?_;intro h1 h2;exact⟨Tq.mp h1,fW h2,Tq.mp h3,fW h4,rfl,of_decide_eq_true h5⟩
noncomputable def LT(s:Tp):Bool:=!s.isCoroutine&&!s.isGenerator&&(match s.kind with|.function=>true|_=>false)
theorem Af{s:Tp}(h:LT s=true){G:Prop}(k:s.isCoroutine=false->s.isGenerator=false->s.kind=.function->G):G:=by
 refine jB h ?_;clear h;intro h h3;refine jB h ?_;intro h1 h2;refine k (bj h1) (bj h2) ?_;cases hk:s.kind<;>rw[hk]at h3<;>first|rfl|exact aO h3
def dfB(d:Df):Bool:=At d.args&&LT d.sc&&QJ (len d.ds) (pn d).length&&(pn d).all (λn=>gn (d.sc.names.lookup n)||E8 (d.sc.names.lookup n))&&d.sc.names.all (λx=>match x.2 with|.free=>false|_=>true)
noncomputable def Lh(r:Se×Qz×Tp):Bool:=At r.1&&LT r.2.2&&(ln r).all (λn=>gn (r.2.2.names.lookup n))&&(frees r.2.2).all (λn=>match r.2.2.names.lookup n with|some .free=>true|_=>false)&&r.2.2.names.all (λx=>match x.2 with|.cell=>false|_=>true)&&!gn (r.2.2.names.lookup ("FP":Str))
section
variable{P₀:Pg}(O:C.Ok P₀)(lm:Int->Option Pa)(y1 y2:Y)
include O
theorem xa{a:Ri}{d:Df}{o:Ov}(H:vQ C a d)(h:dfB d=true)(hh:fg C (bJ d) y1 y2 ((yf o).1 d.body))(hl:mj C (lH O lm (bJ d) y1 y2 o d.body).2):∃ob fd dv,fd.scope=d.sc∧yw C a (pn d).length d.ds (lH O lm (bJ d) y1 y2 o d.body).1 ob fd d.body dv (pn d) (nD d):=by
 refine jB h ?_;clear h;intro h h5;refine jB h ?_;clear h;intro h h4;refine jB h ?_;clear h;intro h h3;refine jB h ?_;intro h1 h2;refine HW H.ex ?_;intro ob zq1 dv e1 e2 e3 e4 e5 e6 e7 e8 e9 zq;rcases zq1 with⟨nm,ql,pr,bo,sc,gl,cl,de,kw,dc,mo,an,co,ct,bi⟩;refine b0 zq ?_;clear zq;intro e10 e11 e12;subst e4;subst e5;refine Af h2 ?_;intro s1 s2 s3;have h5:=Rl.mp h5;refine⟨ob,_,dv,rfl,⟨e1,e2,e3,s1,s2,s3,e6,e7,e8,e9,wK h1,rfl,e10,e11,?_,λn hn=>?_,e12,λx hx e=>?_,(GZ o).1 _ hh hl⟩⟩
 ·refine rwl ((e11 ⟨λZ=>none,C.h₀,λZ=>False⟩ (λZ Z z=>z)).len_eq) ?_;exact QA h3
 ·rcases UL _ _|>.mp (Rl.mp h4 n hn)with z|z
  ·exact .inl (eZ z)
  ·exact .inr (rK z)
 ·have:=h5 x hx;rw[e]at this;exact aO this
theorem AO{r:Se×Qz×Tp}(h:Lh r=true):C4 C r.1 r.2.1 r.2.2 (ln r++frees r.2.2).length ((lv O 20).x (HK r) r.2.1).1 (ln r):=by
 refine jB h ?_;clear h;intro h h6;refine jB h ?_;clear h;intro h h5;refine jB h ?_;clear h;intro h h4;refine jB h ?_;clear h;intro h h3;refine jB h ?_;intro h1 h2;refine Af h2 ?_;intro s1 s2 s3;refine⟨wK h1,by exact rwr QT rfl,s1,s2,s3,λn hn=>eZ (Rl.mp h3 n hn),λn hn=>qc (Rl.mp h4 n hn),λx hx e=>?_,λe=>?_,((lv O 20).x (HK r) r.2.1).2⟩
 ·have:=Rl.mp h5 x hx;rw[e]at this;exact aO this
 ·rw[e]at h6;exact aO h6
def vJ:Ey->Code
 |.fn a d o=>.fn (pn d).length d.ds (lH O lm (bJ d) y1 y2 o d.body).1
 |.lam r=>.lam (ln r++frees r.2.2).length ((lv O 20).x (HK r) r.2.1).1
def wP:Ey->List LQ
 |.fn a d o=>(lH O lm (bJ d) y1 y2 o d.body).2
 |.lam r=>[]
omit O in
def Ps:Ey->Bool
 |.fn a d _=>dfB d
 |.lam r=>Lh r
open Classical in
omit O in
theorem sP{α:Type}{l:List α}{q:Pa}{x:α}(h:tg q (dy l)=some x):x∈l:=by
 rw[dJ]at h
 split at h
 ·exact Rq h
 ·exact cO h
theorem zc{es:List Ey}(hf:∀q,C.fnAt q=match tg q (dy es)with|some (.fn a _ _)=>some a|_=>none)(hl:∀q,C.lam q=match tg q (dy es)with|some (.lam r)=>some r|_=>none)
  (H:∀a d o,Ey.fn a d o∈es->vQ C a d) (hh:∀a d o,Ey.fn a d o∈es->fg C (bJ d) y1 y2 ((yf o).1 d.body)) (hb:es.all Ps=true) (hn:mj C (es.flatMap (wP O lm y1 y2))):uC C (dy (es.map (vJ O lm y1 y2))):=λq f e=>by
 rw[zd]at e;cases e1:tg q (dy es)with
 |none=>rw[e1]at e;exact cO e
 |some y=>
  rw[e1]at e;cases e;have hm:=sP e1;have hb:=Rl.mp hb y hm;have hf:=hf q;have hl:=hl q;rw[e1]at hf hl;cases y with
  |fn a d o=>
   refine⟨hl,λa' ha=>?_⟩;rw[hf]at ha;cases ha;refine f9 (xa O lm y1 y2 (H a d o hm) hb (hh a d o hm) λr hr=>hn r (Sn.mpr ⟨_,hm,hr⟩)) ?_;rintro ob fd dv-z;exact⟨ob,fd,d.body,dv,pn d,nD d,z⟩
  |lam r=>
   refine⟨hf,λpar ee sc h=>?_⟩;rw[hl]at h;cases h;exact⟨_,AO O hb⟩
end
end
end
section
def iM{α:Type}(s:Str):List (Nat×Str×α)->Option α:=@SK (Nat×Str×α) (λZ=>Option α) .none (λp Z r=>c8 (QB p.1 (iz s)) (λZ=>c8 (s==p.2.1) (λZ=>some p.2.2) r) r)
theorem d8{α:Type}{s:Str}:∀{l:List (Nat×Str×α)}{x:α},iM s l=some x->∃n,(n,s,x)∈l
 |[],x,h=>by exact cO h
 |p::r,x,h=>by
  have h:c8 (QB p.1 (iz s)) (λzz=>c8 (s==p.2.1) (λzz=>some p.2.2) (iM s r)) (iM s r)=some x:=h;have ih:iM s r=some x->∃n,(n,s,x)∈p::r:=λh=>by refine az (d8 h) ?_;clear h;intro n h;exact⟨n,QI _ h⟩
  cases e1:QB p.1 (iz s)with
  |false=>rw[e1]at h;exact ih h
  |true=>
   rw[e1]at h;have h:c8 (s==p.2.1) (λzz=>some p.2.2) (iM s r)=some x:=h;cases e2:(s==p.2.1)with
   |false=>rw[e2]at h;exact ih h
   |true=>
    rw[e2]at h;cases h;obtain⟨n,s',y⟩:=p;cases eq_of_beq e2;exact⟨n,QF⟩
noncomputable def eG(n:Nat)(s:String)(x:Gm):Nat×Str×Gm:=(n,Rg s,x)
noncomputable def eM(n:Nat)(s:String)(k:Nat)(q:Pa):Nat×Str×(Nat×Pa):=(n,Rg s,k,q)
noncomputable def eD(n:Nat)(s:String)(k:Nat)(q:KV):Nat×Str×(Nat×KV):=(n,Rg s,k,q)
noncomputable def eP(n:Nat)(s:String)(q:Pa):Nat×Str×Pa:=(n,Rg s,q)
noncomputable def eU(n:Nat)(s:String):Nat×Str×Unit:=(n,Rg s,())
def OI(gl:List (Nat×Str×Gm))(mt:List (Nat×Str×(Nat×Pa)))(df:List (Nat×Str×(Nat×KV)))(ln:Nat×Pa):Pg:=⟨λs=>iM s gl,λs=>iM s mt,λs=>iM s df,ln⟩
noncomputable def Ic:PySem.Const->KV
 |.none=>.none
 |.bool b=>.bool b
 |.int (.ofNat n)=>.nat n
 |.int (.negSucc n)=>.neg n
 |.str s=>.str (iz s)
 |_=>.none
noncomputable def Ib:Qz->KV
 |.Constant c _ _=>Ic c
 |.Tuple [.Constant a _ _,.Constant b _ _] _ _=>.cons (Ic a) (.cons (Ic b) .nil)
 |_=>.none
noncomputable def au:List KV->KV
 |[]=>.nil
 |x::r=>.cons x (au r)
noncomputable def O3:U6->Option Df
 |.FunctionDef n a b _ _ _ sc _ _ _=>some ⟨a,b,sc,au (a.defaults.map Ib)⟩
 |_=>none
noncomputable def xp(body:List U6):List Df:=
 body.flatMap λ
  |.ClassDef c _ _ b _ _ _ _ _ _ _=>b.filterMap O3
  |s=>(O3 s).toList
noncomputable def Pi:U6->Option (Se×Qz×Tp)
 |.Assign [.Name _ _] (.Lambda a b sc p) _=>some (a,b,sc)
 |_=>none
noncomputable def Hp(body:List U6):List (Se×Qz×Tp):=(xp body).flatMap λd=>d.body.filterMap Pi
def LS(C:Cx)(sl:List (Nat×Str×Pa))(no:List (Nat×Str×Unit)):Cx:={C with sl:=λs=>iM s sl,asg:=λs=>isNone (iM s no)}
def mh(l:List (Int×Pa))(n:Int):Option Pa:=@SK _ (λZ=>Option Pa) .none (λp Z r=>c8 (decide (p.1=n)) (λZ=>some p.2) r) l
end
noncomputable def v6(tb:String->Option Builtin)(p:Tj)(w:U5)(n₀:Nat)(ann:Option QD):Nat->SharedT->Thread->Option SharedT
 |0,_,_=>none
 |n+1,s,t=>match through t with
  |true=>some s
  |false=>match stepOk n₀ ann t with
   |false=>none
   |true=>match stepT (denote tb) p w s t with
    |some (s',t')=>v6 tb p w n₀ ann n s' t'
    |none=>none
theorem pK{tb:String->Option Builtin}{p:Tj}{w:U5}{n₀:Nat}{ann:Option QD}:∀{n:Nat}{s s':SharedT}{t:Thread},v6 tb p w n₀ ann n s t=some s'->topRun tb p w n₀ ann n s.abs t=some s'.abs
 |0,_,_,_,h=>by exact cO h
 |n+1,s,s',t,h=>by
  unfold v6 at h;unfold topRun
  split at h
  ·cases h;rename_i e;exact rwr e rfl
  ·rename_i e;refine rwr e ?_
   split at h
   ·exact cO h
   ·rename_i e2;refine rwr e2 ?_
    split at h
    ·rename_i e3;dsimp only;refine rwr (stepT_spec e3) ?_;exact pK h
    ·exact cO h
noncomputable def grow:List Obj->Nat->BT->BT
 |[],_,t=>t
 |o::r,n,t=>grow r (n+1) (t.ins n o)
def j5(w:U5)(os:OsState):SharedT:=⟨grow (Sf w.params).objs.toList 0 .nil,(Sf w.params).objs.size,(Sf w.params).life,#[],boot_drawn,boot_toks,os⟩
noncomputable def xj(p:Tj)(h₀:SG)(s:QE):Bool:=staticsOk (importedModules p.main.body) h₀ s.heap&&namesBound p s.heap&&gensDone s&&laidKept h₀ s.heap
theorem DP{p q:Tj}{loose:List Str}{α:Type}{Yf:QE->α}{Ya:U5->α}{N:Nat}(e:opening p=plainProg p.main.scope.names)(hN:QJ 600 N=true)(f:∀s,fenceModules? p s=some s)
  (b:∀w:U5,absHeap (j5 w default).tree (j5 w default).n (j5 w default).life=Sf w.params) (b2:∀w:U5,(Sf w.params).isNs Rh=true)
  (K:∀w:U5,(λos=>(v6 treeTable p w (Sf w.params).objs.size ((Sf w.params).nsMap Rh "__annotations__") N (j5 w os) (topStub p)).map λs=>(xj p (Sf w.params) s.abs,openSeen q loose (importedModules p.main.body) (λzz=>true) true s.abs,Yf s.abs))=λos=>some (true,openGood q loose,Ya w)):
  LeftO p q loose (λzz=>true) Yf Ya N:=λw=>by
 refine wM (boot_open e hN f w) ?_;intro zq0 hs hv;rcases zq0 with⟨h0,g0,d0,k0,os⟩
 have e1:h0=Sf w.params:=congrArg Prod.fst hv;have e2:g0=Array.mk []:=congrArg (λx=>x.2.1) hv;have e3:d0=boot_drawn:=congrArg (λx=>x.2.2.1) hv;have e4:k0=boot_toks:=congrArg (λx=>x.2.2.2) hv;clear hv;subst e1 e2 e3 e4;have K:=congrFun (K w) os;refine wM K ?_;intro s' hr hv;have hr:=pK hr;have ha:(j5 w os).abs=⟨Sf w.params,#[],boot_drawn,boot_toks,os⟩:=by rw[←b w];rfl
 rw[ha]at hr;refine ar (Prod.mk.inj hv) ?_;clear hv;intro h1 hv;unfold openEnds;rw[hs,Sj];unfold topFrom;have b2:=b2 w;dsimp only;rw[b2];show(Option.bind (topRun _ _ _ _ _ _ _ _) _).map _=_;rw[hr,Sj];unfold xj at h1;rw[h1];exact congrArg some hv
section
section
noncomputable def Ak(v:Option QD):Ri:=match v with|some (.ref a)=>a|_=>0
noncomputable def gy(h:SG)(n:Str):Ri:=Ak (h.nsMap Rh n)
noncomputable def NQ(h:SG)(a:Ri):Ri:=match h.get? a with|some ⟨_,_,.cls cd,_⟩=>cd.ns|_=>0
noncomputable def lJ(h:SG):Option Str×Str->Ri
 |(none,n)=>gy h n
 |(some c,n)=>Ak (h.nsMap (NQ h (gy h c)) n)
noncomputable def vy(h:SG)(a:Ri):UR:=match h.get? a with|some ⟨_,_,.func fd,_⟩=>fd|_=>default
noncomputable def Hx(h:SG)(a:Ri):Bool:=match h.get? a with|some ⟨_,_,.func fd,_⟩=>true|_=>false
set_option tactic.hygienic true in
theorem Ee{h:SG}{a:Ri}(e:Hx h a=true):∃ob,h.get? a=some ob∧ob.data=.func (vy h a):=by
 unfold Hx at e;unfold vy;cases he:h.get? a with
 |none=>rw[he]at e;exact aO e
 |some o=>rw[he]at e;rcases o with⟨c,d,dt,sl⟩;cases dt<;>first|exact⟨_,rfl,rfl⟩|exact aO e
structure Tx where
 gl:List (Nat×Str×Gm)
 mt:List (Nat×Str×(Nat×Pa))
 df:List (Nat×Str×(Nat×KV))
 ln:Nat×Pa
 sl:List (Nat×Str×Pa)
 no:List (Nat×Str×Unit)
 lm:List (Int×Pa)
 names:List (Option Str×Str)
 dfs:List Df
 lams:List (Se×Qz×Tp)
 ov:Option Str×Str->Ov
namespace Tx
variable(X:Tx)(h:SG)
def pg:Pg:=OI X.gl X.mt X.df X.ln
noncomputable def cls:List (Nat×Str):=X.gl.filterMap λe=>match e.2.2 with|.cls k _=>some (k,e.2.1)|_=>none
noncomputable def es:List Ey:=(X.names.zip X.dfs).map (λnd=>.fn (lJ h nd.1) nd.2 (X.ov nd.1))++X.lams.map .lam
noncomputable def Lj(d:Df):Bool:=gn (d.sc.names.lookup ("FP":Str))
noncomputable def Dy(h:SG)(c:Ri):Ri:=match h.get? c with|some ⟨_,_,.fields vs,_⟩=>Ak (vs[11]?:Option QD)|_=>0
noncomputable def tabsQ:List (Ri×Ri×Str):=(X.names.zip X.dfs).filterMap λnd=>bif Lj nd.2 then let fd:=vy h (lJ h nd.1);let c:=Ak (some fd.code);some (c,Dy h c,fd.qualname)else none
noncomputable def tabs:List (Ri×Ri):=(X.tabsQ h).map λx=>(x.1,x.2.1)
noncomputable def vol:List Ri:=(X.tabs h).map (·.2)
noncomputable def volQ(P:Ri):Str:=match(X.tabsQ h).find? (λx=>x.2.1==P)with|some x=>x.2.2++".<locals>."++"<lambda>"|none=>""
noncomputable def ads:List Ri:=X.cls.map (λc=>gy h c.2)++X.cls.map (λc=>NQ h (gy h c.2))++X.names.map (lJ h)
noncomputable def K:Frag:=(X.ads h).filterMap λa=>(h.get? a).map (a,·)
def cx(h':SG)(prog:Tj)(w:U5)(g:Array UQ)(d:Drawn)(os:OsState)(tk:Nat->KV):Cx:=LS
 {prog:=prog,w:=w,K:=X.K h,h₀:=ghostOf h' (X.tabs h),fnAt:=λq=>(match tg q (dy (X.es h))with|some (.fn a _ _)=>some a|_=>none),clsAt:=λk=>(X.cls.lookup k).map (gy h),sl:=λzz=>none,
  lam:=λq=>(match tg q (dy (X.es h))with|some (.lam r)=>some r|_=>none),asg:=λzz=>true,vol:=X.vol h,volQ:=X.volQ h,g:=g,d:=d,os:=os,tk:=tk} X.sl X.no
end Tx
theorem lA{h:SG}:∀{as:List Ri},Frag.In (as.filterMap λa=>(h.get? a).map (a,·)) h
 |[],a,o,e=>by exact cO e
 |b::r,a,o,e=>by
  rw[List.filterMap_cons]at e;cases hb:h.get? b with
  |none=>rw[hb]at e;exact lA a o e
  |some x=>
   rw[hb]at e;have e:(List.lookup a ((b,x)::_))=some o:=e;rw[RI]at e
   split at e
   ·rename_i q;cases e;refine rwr (beq_iff_eq.mp q) ?_;exact hb
   ·exact lA a o e
noncomputable def BF:KV->QD->Bool
 |.none,.none=>true
 |.bool a,.bool b=>a==b
 |.nat n,.int (.ofNat m) _=>QB n m
 |.neg n,.int (.negSucc m) _=>QB n m
 |.str c,.str s _=>Fm s&&QB (iz s) c
 |.tok 0,.int _ _=>true
 |_,_=>false
theorem mO{C:Cx}{x:KV}{v:QD}(e:BF x v=true)(R:Wd):VR C R x v:=by
 cases x with
 |none=>cases v<;>first|exact .none_|exact aO e
 |bool=>cases v<;>first|(cases eq_of_beq e;exact .bool_)|exact aO e
 |nat=>cases v with
  |int i=>cases i with
   |ofNat=>cases QY e;exact .nat_
   |_=>exact aO e
  |_=>exact aO e
 |neg=>cases v with
  |int i=>cases i with
   |negSucc=>cases QY e;exact .neg_
   |_=>exact aO e
  |_=>exact aO e
 |str=>cases v with
  |str=>refine jB e ?_;intro a b;cases QY b;exact .str_ (r6 a)
  |_=>exact aO e
 |tok n=>cases n with
  |zero=>cases v<;>first|exact⟨_,_,rfl⟩|exact aO e
  |_=>exact aO e
 |_=>exact aO e
noncomputable def BE:KV->List QD->Bool
 |.nil,[]=>true
 |.cons x r,v::vs=>BF x v&&BE r vs
 |_,_=>false
theorem uo{C:Cx}:∀{x:KV}{vs:List QD},BE x vs=true->∀R,bG C R x vs
 |.nil,[],_,R=>rfl
 |.cons x r,v::vs,e,R=>by refine jB e ?_;intro a b;exact .cons_ (mO a R) (uo b R)
 |.none,_,e,_=>by exact aO e
 |.bool _,_,e,_=>by exact aO e
 |.nat _,_,e,_=>by exact aO e
 |.neg _,_,e,_=>by exact aO e
 |.str _,_,e,_=>by exact aO e
 |.ref _,_,e,_=>by exact aO e
 |.tok _,_,e,_=>by exact aO e
 |.nil,_::_,e,_=>by exact aO e
 |.cons _ _,[],e,_=>by exact aO e
noncomputable def Fy(o:Obj):Bool:=match o.cls with|.type n=>decide (n="tuple")|_=>false
noncomputable def Jm(o:Obj):Option (List QD):=match o.data with|.seq items _=>some items.toList|_=>none
noncomputable def w9(h:SG)(v:QD):Option (List QD):=match v with
 |.ref a=>(h.get? a).bind λo=>bif Fy o then Jm o else none
 |_=>none
theorem yV{h:SG}{v:QD}{l:List QD}(e:w9 h v=some l):∃a,v=.ref a∧h.IsTuple a l.toArray:=by
 cases v with
 |ref a=>
  refine Fn e ?_;intro o he e;cases z:Fy o with
  |false=>rw[z]at e;exact cO e
  |true=>
   rw[z]at e;obtain⟨c,d,data,x⟩:=o;refine⟨a,rfl,_,he,?_⟩;cases c with
   |type n=>
    refine⟨congrArg _ (of_decide_eq_true z),?_⟩;cases data with
    |seq items k=>exact⟨k,congrArg (λl:List QD=>Data.seq l.toArray k) (QN e)⟩
    |_=>exact cO e
   |_=>exact aO z
 |_=>exact cO e
theorem pB{h:SG}{v:QD}{l:List QD}(e:w9 h v=some l){G:Prop}(k:∀a,v=.ref a->h.IsTuple a l.toArray->G):G:=ah (yV e) k
noncomputable def Id(h:SG)(x:KV)(v:QD):Bool:=match w9 h v with
 |some l=>BE x l&&QJ l.length 1000
 |none=>BF x v
noncomputable def BD(h:SG):KV->List QD->Bool
 |.nil,[]=>true
 |.cons x r,v::vs=>Id h x v&&BD h r vs
 |_,_=>false
end
end
section
section
namespace Tx
variable(X:Tx)(h:SG)
noncomputable def vR(v:QD)(a:Ri):Bool:=match v with|.ref b=>QB b a|_=>false
noncomputable def vT(v:QD)(t:String):Bool:=match v with|.type u=>u==t|_=>false
noncomputable def vW(v:QD)(t:String):Bool:=match v with|.builtin u=>u==t|_=>false
noncomputable def vN:QD->Bool|.none=>true|_=>false
noncomputable def o1(p:QD->Bool):Option QD->Bool|some v=>p v|_=>false
noncomputable def o2(p:QD->Bool):Option (Option QD)->Bool|some v=>o1 p v|_=>false
def fnB(a:Ri)(cn nm:Str)(q:Pa):Bool:=
 tg q (dy X.names)==some (some cn,nm)&&o2 (vR · (lJ h (some cn,nm))) (findIn (X.K h) (.ref a) nm)&&o1 (vT · "function") (typeIn (X.K h) (.ref (lJ h (some cn,nm))))
noncomputable def clsNm(k:Nat):Str:=((X.cls.lookup k).getD "")
def glB(nm:Str):Gm->Bool
 |.fn q=>tg q (dy X.names)==some (none,nm)&&o1 (vR · (gy h nm)) (h.nsMap Rh nm)
 |.cls k q=>X.cls.lookup k==some nm&&o1 (vR · (gy h nm)) (h.nsMap Rh nm)&&makesIn (X.K h) (gy h nm)&&X.fnB h (gy h nm) nm "__init__" q
 |.bi n=>isNone (h.nsMap Rh nm)&&o1 (·==qm n) (h.nsMap RY nm)
 |.con v=>(h.nsMap Rh nm).any (BF v)
noncomputable def B8(T:String):Bool:=isNone (h.nsMap Rh (Rg T))&&o1 (vT · T) (h.nsMap RY (Rg T))
noncomputable def AU(v:Option (Option QD))(n:String):Bool:=o2 (vW · n) v
noncomputable def rH(v:Option (Option QD)):Bool:=match v with|some none=>true|_=>false
noncomputable def E6(v:Option (Option QD)):Option QD:=match v with|some (some (.int i t))=>some (.int i t)|_=>none
noncomputable def clB(nm:Str):Bool:=
 let a:=Ta (gy h nm)
 AU (findIn (X.K h) a "__getattribute__") "object.__getattribute__"&&rH (findIn (X.K h) a "__getattr__")&&AU (findIn (X.K h) a "__setattr__") "object.__setattr__"&&plainOver (X.K h) (gy h nm)&&hasDictIn (X.K h) (gy h nm)&&
 keepIn (X.K h) a&&X.sl.all (λs=>rH (findIn (X.K h) a s.2.1)||((E6 (findIn (X.K h) a s.2.1)).isSome&&!copiedNames.contains s.2.1))
noncomputable def dfB(s:Str)(c:Nat)(v:KV):Bool:=(E6 (findIn (X.K h) (.ref (gy h (X.clsNm c))) s)).any λu=>BF v u&&!copiedNames.contains s
noncomputable def u7:Data->Bool|.fields _=>true|_=>false
noncomputable def flds:Data->Array QD|.fields vs=>vs|_=>#[]
noncomputable def JX:Data->Bool|.plain=>true|_=>false
noncomputable def vS:QD->Bool|.str _ _=>true|_=>false
noncomputable def vI:QD->Bool|.int _ _=>true|_=>false
noncomputable def vB:QD->Bool|.bool _=>true|_=>false
noncomputable def kN:KV->Bool|.nil=>true|_=>false
noncomputable def OD(x:Ri×Ri×Str)(o:Obj)(vs:Array QD):Bool:=vT o.cls "code"&&u7 o.data&&o1 (vR · x.2.1) vs[11]?&&vR (vs.getD 11 .none) x.2.1&&vS (vs.getD 18 .none)&&vI (vs.getD 7 .none)&&vB (vs.getD 9 .none)&&vI (vs.getD 10 .none)&&!(x.1==x.2.1)
noncomputable def OC(o:Obj):Bool:=vN o.cls&&o.dict==none&&u7 o.data&&(flds o.data).toList.isEmpty&&o.slots.toList.isEmpty
noncomputable def LH(x:Ri×Ri×Str):Bool:=(h.get? x.1).any (λo=>OD x o (flds o.data))&&(h.get? x.2.1).any OC
noncomputable def fnVB(nd:(Option Str×Str)×Df):Bool:=
 let a:=lJ h nd.1
 let fd:=vy h a
 Hx h a&&keepIn (X.K h) (.ref a)&&h.codeRecOk fd.code fd.qualname&&(bif vN fd.defaults then kN nd.2.ds else(w9 h fd.defaults).any (BD h nd.2.ds))&&
 (!Lj nd.2||(X.tabsQ h).any (λx=>vR fd.code x.1&&x.2.2==fd.qualname&&X.volQ h x.2.1==fd.qualname++".<locals>."++"<lambda>"))
noncomputable def EG:Ri:=Ak (h.nsMap Rh "__builtins__")
noncomputable def LC(o:Obj):Bool:=vT o.cls "module"&&o.dict==some RY&&JX o.data
noncomputable def J8:Bool:=h.isNs Rh&&h.isNs RY&&h.isNs sysModules&&h.isNs cStatics&&isNone (h.nsMap cStatics "sys.recursionlimit")&&(o1 (vR · (EG h)) (h.nsMap Rh "__builtins__")&&!(EG h==RY)&&!(EG h==Rh)&&(h.get? (EG h)).any LC)
def statB:Bool:=X.names.length==X.dfs.length&&X.mt.all (λe=>isNone (iM e.2.1 X.sl))&&decide (X.cls.map (·.1)).Nodup&&decide ((X.sl.map λe=>bB e.2.2)).Nodup&&QJ X.sl.length 500
def chkA:Bool:=X.statB&&J8 h&&noTabs (X.K h)&&(X.tabsQ h).all (LH h)&&X.gl.all (λe=>X.glB h e.2.1 e.2.2)&&B8 h "KeyError"&&B8 h "IndexError"&&X.cls.all (λc=>X.clB h c.2)&&X.df.all (λe=>X.dfB h e.2.1 e.2.2.1 e.2.2.2)&&
 X.mt.all (λe=>!(X.cls.lookup e.2.2.1).isSome||X.fnB h (gy h (X.clsNm e.2.2.1)) (X.clsNm e.2.2.1) e.2.1 e.2.2.2)&&(!(X.cls.lookup X.ln.1).isSome||X.fnB h (gy h (X.clsNm X.ln.1)) (X.clsNm X.ln.1) "__len__" X.ln.2)&&
 (!(X.cls.lookup 2).isSome||(rH (findIn (X.K h) (.ref (gy h (X.clsNm 2))) "__bool__")&&rH (findIn (X.K h) (.ref (gy h (X.clsNm 2))) "__len__")))
noncomputable def chkB:Bool:=(X.names.zip X.dfs).all (X.fnVB h)
def chk:Bool:=X.chkA h&&X.chkB h
end Tx
end
end
section
section
namespace Tx
variable{X:Tx}{h h':SG}
structure Ck(X:Tx)(h:SG):Prop where
 stat:X.statB=true
 top:J8 h=true
 noT:noTabs (X.K h)=true
 tb:∀x∈X.tabsQ h,LH h x=true
 gl:∀e∈X.gl,X.glB h e.2.1 e.2.2=true
 k1:B8 h "KeyError"=true
 k2:B8 h "IndexError"=true
 cl:∀c∈X.cls,X.clB h c.2=true
 df:∀e∈X.df,X.dfB h e.2.1 e.2.2.1 e.2.2.2=true
 mt:∀e∈X.mt,(X.cls.lookup e.2.2.1).isSome=true->X.fnB h (gy h (X.clsNm e.2.2.1)) (X.clsNm e.2.2.1) e.2.1 e.2.2.2=true
 ln:(X.cls.lookup X.ln.1).isSome=true->X.fnB h (gy h (X.clsNm X.ln.1)) (X.clsNm X.ln.1) "__len__" X.ln.2=true
 lri:(X.cls.lookup 2).isSome=true->rH (findIn (X.K h) (.ref (gy h (X.clsNm 2))) "__bool__")=true∧rH (findIn (X.K h) (.ref (gy h (X.clsNm 2))) "__len__")=true
 fn:∀nd∈X.names.zip X.dfs,X.fnVB h nd=true
theorem vn{a b:Bool}(h:(!a||b)=true):a=true->b=true:=by rintro rfl;exact h
theorem aN{a b:Bool}{G:Prop}(e:(a&&b)=true)(k:a=true->b=true->G):G:=k (Rb.mp e).1 (Rb.mp e).2
theorem m7{α:Type}{l:List α}{p:α->Bool}(e:l.all p=true):∀x∈l,p x=true:=Rl.mp e
theorem Ck.of(e:X.chk h=true):Ck X h:=
 aN e λe a13=>aN e λe a12=>aN e λe a11=>aN e λe a10=>aN e λe a9=>aN e λe a8=>aN e λe a7=>aN e λe a6=>aN e λe a5=>aN e λe a4=>aN e λe a3=>aN e λa1 a2=>
 ⟨a1,a2,a3,m7 a4,m7 a5,a6,a7,m7 a8,m7 a9,λe he=>vn (m7 a10 e he),vn a11,λz=>Rb.mp (vn a12 z),m7 a13⟩
theorem vR_ok{v:QD}{a:Ri}(e:vR v a=true):v=.ref a:=by cases v<;>first|(cases QY e;rfl)|exact aO e
theorem w7{v:QD}{t:String}(e:vT v t=true):v=.type t:=by cases v<;>first|(cases eq_of_beq e;rfl)|exact aO e
theorem J4{v:QD}{t:String}(e:vW v t=true):v=.builtin t:=by cases v<;>first|(cases eq_of_beq e;rfl)|exact aO e
theorem F4{v:QD}(e:vN v=true):v=.none:=by cases v<;>first|rfl|exact aO e
theorem o1_ok{p:QD->Bool}{u:QD}(f:∀{v},p v=true->v=u){o:Option QD}(e:o1 p o=true):o=some u:=by cases o with|none=>exact aO e|some v=>exact rwr (f e) rfl
theorem Fo{p:QD->Bool}{u:QD}(f:∀{v},p v=true->v=u){o:Option (Option QD)}(e:o2 p o=true):o=some (some u):=by cases o with|none=>exact aO e|some v=>exact rwr (o1_ok f e) rfl
theorem J5{v:QD}(e:vS v=true):∃x t,v=.str x t:=by cases v<;>first|exact⟨_,_,rfl⟩|exact aO e
theorem yO{v:QD}(e:vI v=true){G:Prop}(k:∀x t,v=.int x t->G):G:=by cases v<;>first|exact k _ _ rfl|exact aO e
theorem J6{v:QD}(e:vB v=true):∃x,v=.bool x:=by cases v<;>first|exact⟨_,rfl⟩|exact aO e
theorem wV{d:Data}(e:u7 d=true):d=.fields (flds d):=by cases d<;>first|rfl|exact aO e
theorem E5{d:Data}(e:JX d=true):d=.plain:=by cases d<;>first|rfl|exact aO e
theorem jx{α:Type}{o:Option α}{p:α->Bool}(e:o.any p=true){G:Prop}(k:∀x,p x=true->o=some x->G):G:=match o,e with|some x,e=>k x e rfl
theorem Gi{x:Ri×Ri×Str}(e:LH h x=true):CodeHd h x.1 x.2.1∧h.get? x.2.1=some (tabObj #[]):=aN e λe1 e2=>by
 refine⟨jx e1 λo e ho=>?_,jx e2 λo e ho=>?_⟩
 ·refine aN e λe b7=>aN e λe b6=>aN e λe b5=>aN e λe b4=>aN e λe b3=>aN e λe b2=>aN e λe b1=>aN e λc1 c2=>?_;refine fI (J5 b3) λf ft hf=>yO b4 λi it hi=>az (J6 b5) λbb hbb=>yO b6 λj jt hj=>?_;exact⟨o,_,f,ft,i,it,bb,j,jt,ho,w7 c1,wV c2,o1_ok vR_ok b1,vR_ok b2,hf,hi,hbb,hj,λz=>by rw[z]at b7;simp at b7⟩
 ·refine rwr ho ?_;refine aN e λe c5=>aN e λe c4=>aN e λe c3=>aN e λc1 c2=>?_;rcases o with⟨a,b,c,d⟩
  dsimp only at c1 c2 c3 c4 c5;exact rwr (show a=_ from F4 c1) (rwr (show b=_ from eq_of_beq c2) (rwr (wV c3) (rwr (Array.toList_eq_nil_iff.mp (Tq.mp c4)) (rwr (Array.toList_eq_nil_iff.mp (Tq.mp c5)) rfl))))
theorem zb(k:Ck X h):TabsAt (X.tabs h) h:=λq hq=>by
 refine nR hq ?_;clear hq;rintro x hx rfl;exact Gi (k.tb x hx)
theorem nsUp{a:Ri}{m:Str->Option QD}(kp:bv h h')(x:h.Ns a m):h'.Ns a m:=let⟨o,es,ep,z,r⟩:=x;⟨o,es,ep,kp _ _ z,r⟩
theorem tabsUp(k:Ck X h)(kp:bv h h'):TabsAt (X.tabs h) h':=λq hq=>let z:=zb k q hq;⟨z.1.keeps kp,kp _ _ z.2⟩
theorem gT(k:Ck X h)(kp:bv h h'):(X.K h).In (ghostOf h' (X.tabs h)):=ghost_K (tabsUp k kp) (lA.keeps kp) k.noT
theorem Kg(k:Ck X h){q:Pa}{n:Option Str×Str}(e:tg q (dy X.names)=some n):∃d o,tg q (dy (X.es h))=some (.fn (lJ h n) d o):=by
 have hl:X.names.length=X.dfs.length:=by
  have:=k.stat;unfold statB at this;simp only[UE]at this;exact eq_of_beq this.1.1.1.1
 rw[dJ]at e ⊢
 split at e
 ·rename_i hq;refine rwr (if_pos hq) ?_;have l1:=(Rc.mp e).1;unfold es;rw[S2 (by rw[Ra,List.length_zip,←hl,Nat.min_self];exact l1),Rj,Uu (z:=(n,X.dfs[bB q]'(by lia)))|>.mpr ⟨e,QM _⟩];exact⟨_,_,rfl⟩
 ·exact cO e
theorem Bj(k:Ck X h){q:Pa}{n:Option Str×Str}(e:tg q (dy X.names)=some n){G:Prop}(k0:∀d o,tg q (dy (X.es h))=some (.fn (lJ h n) d o)->G):G:=fI (Kg k e) k0
section
variable{prog:Tj}{w:U5}{g:Array UQ}{d:Drawn}{os:OsState}{tk:Nat->KV}
set_option tactic.hygienic true in
theorem rc(k:Ck X h)(kp:bv h h'):(ghostOf h' (X.tabs h)).Ns Rh (h.nsMap Rh)∧(ghostOf h' (X.tabs h)).Ns RY (h.nsMap RY)∧(ghostOf h' (X.tabs h)).Ns sysModules (h.nsMap sysModules)∧(ghostOf h' (X.tabs h)).NoLimit∧
  ∃bm ob,h.nsMap Rh "__builtins__"=some (.ref bm)∧bm≠RY∧bm≠Rh∧(ghostOf h' (X.tabs h)).get? bm=some ob∧ob.cls=.type "module"∧ob.dict=some RY∧ob.data=.plain:=by
 refine aN k.top λe a6=>aN e λe a5=>aN e λe a4=>aN e λe a3=>aN e λa1 a2=>?_;refine⟨ghost_ns (tabsUp k kp) (nsUp kp (.of_isNs a1)),ghost_ns (tabsUp k kp) (nsUp kp (.of_isNs a2)),ghost_ns (tabsUp k kp) (nsUp kp (.of_isNs a3)),⟨_,ghost_ns (tabsUp k kp) (nsUp kp (.of_isNs a4)),fW a5⟩,?_⟩;refine aN a6 λe b4=>aN e λe b3=>aN e λb1 b2=>jx b4 λo e ho=>aN e λe c3=>aN e λc1 c2=>?_;exact⟨_,o,o1_ok vR_ok b1,λz=>by rw[z]at b2;trivial,λz=>by rw[z]at b3;trivial,ghost_get (tabsUp k kp) (kp _ _ ho) (λz=>by rw[z]at c1;exact aO c1),w7 c1,eq_of_beq c2,E5 c3⟩
theorem AG(k:Ck X h)(kp:bv h h'){nm:Str}{v:QD}(e:h.nsMap Rh nm=some v):j7 (X.cx h h' prog w g d os tk) nm v:=λA Q E s menv h1 h2 kq q=>
 Calls.loadGlobal_global (mg:=h.nsMap Rh) (by refine rwr h1 ?_;refine f9 ((rc k kp).1) ?_;intro o es ep z r;exact⟨o,es,ep,kq _ _ z,r⟩) e q
theorem Ft(k:Ck X h)(kp:bv h h'){nm:Str}{v:QD}(e:h.nsMap Rh nm=none)(e2:h.nsMap RY nm=some v):j7 (X.cx h h' prog w g d os tk) nm v:=λA Q E s menv h1 h2 kq q=>
 Calls.loadGlobal_builtin (mg:=h.nsMap Rh) (mb:=h.nsMap RY) (by refine rwr h1 ?_;refine f9 ((rc k kp).1) ?_;intro o es ep z r;exact⟨o,es,ep,kq _ _ z,r⟩) e (by refine rwr h2 ?_;refine f9 ((rc k kp).2.1) ?_;intro o es ep z r;exact⟨o,es,ep,kq _ _ z,r⟩) e2 q
set_option tactic.hygienic true in
theorem vu(k:Ck X h)(kp:bv h h'){a:Ri}{cn nm:Str}{q:Pa}(e:X.fnB h a cn nm q=true):EZ (X.cx h h' prog w g d os tk) a nm q:=by
 refine aN e λe e3=>aN e λe1 e2=>⟨lJ h (some cn,nm),Fo vR_ok e2,o1_ok w7 e3,?_⟩
 refine Bj k (eq_of_beq e1) ?_;intro dd od hd;show(match tg q (dy (X.es h))with|some (.fn a _ _)=>some a|_=>none)=_;exact rwr hd rfl
theorem lS{α:Type}:∀{l:List (Nat×α)}{k:Nat}{x:α},l.lookup k=some x->(k,x)∈l
 |[],_,_,e=>by exact cO e
 |(j,y)::r,k,x,e=>by
  rw[RI]at e
  split at e
  ·rename_i q;cases e;cases beq_iff_eq.mp q;exact QF
  ·exact QI _ (lS e)
theorem BH{c:Nat}{a:Ri}(e:(X.cls.lookup c).map (gy h)=some a):(X.cls.lookup c).isSome=true∧a=gy h (X.clsNm c)∧(c,X.clsNm c)∈X.cls:=by
 refine wM e ?_;intro n h1 h2;unfold clsNm;refine rwr h1 ?_;exact⟨rfl,h2.symm,lS h1⟩
theorem js{c:Nat}{a:Ri}(e:(X.cls.lookup c).map (gy h)=some a){G:Prop}(k:(X.cls.lookup c).isSome=true->a=gy h (X.clsNm c)->(c,X.clsNm c)∈X.cls->G):G:=b0 (BH e) k
theorem wX{v:Option (Option QD)}{n:String}(e:AU v n=true):v=some (some (.builtin n)):=Fo J4 e
theorem mJ{v:Option (Option QD)}(e:rH v=true):v=some none:=by rcases v with _|_|v<;>first|rfl|exact aO e
theorem u6{v:Option (Option QD)}{u:QD}(e:E6 v=some u){G:Prop}(k:∀i t,u=.int i t->v=some (some (.int i t))->G):G:=by
 rcases v with _|_|v
 ·exact cO e
 ·exact cO e
 ·cases v<;>first|exact cO e|(cases e;exact k _ _ rfl rfl)
end
end Tx
end
end
section
section
namespace Tx
variable{X:Tx}{h h':SG}{prog:Tj}{w:U5}{g:Array UQ}{d:Drawn}{os:OsState}{tk:Nat->KV}
theorem jE{α β:Type}{f:α->β}:∀{l:List α},(l.map f).Nodup->∀x∈l,∀y∈l,f x=f y->x=y
 |[],_,x,hx,_,_,_=>by cases hx
 |a::r,hd,x,hx,y,hy,e=>by
  rw[Sr,RN]at hd;by_cases h1:x=a
  ·by_cases h2:y=a
   ·exact rwr h1 (rwr h2 rfl)
   ·have:f y∈r.map f:=Tv ((QH.mp hy).resolve_left h2);rw[←e,h1]at this;exact absurd this hd.1
  ·have hx:=(QH.mp hx).resolve_left h1;by_cases h2:y=a
   ·have:f x∈r.map f:=Tv hx;rw[e,h2]at this;exact absurd this hd.1
   ·exact jE hd.2 x hx y ((QH.mp hy).resolve_left h2) e
abbrev Oi(X:Tx)(h:SG)(nm:Str):Prop:=(AU (findIn (X.K h) (.ref (gy h nm)) "__getattribute__") "object.__getattribute__"=true∧rH (findIn (X.K h) (.ref (gy h nm)) "__getattr__")=true∧AU (findIn (X.K h) (.ref (gy h nm)) "__setattr__") "object.__setattr__"=true∧plainOver (X.K h) (gy h nm)=true∧hasDictIn (X.K h) (gy h nm)=true)∧
 keepIn (X.K h) (.ref (gy h nm))=true∧∀s∈X.sl,(rH (findIn (X.K h) (.ref (gy h nm)) s.2.1)||((E6 (findIn (X.K h) (.ref (gy h nm)) s.2.1)).isSome&&!copiedNames.contains s.2.1))=true
theorem Px{nm:Str}(e:X.clB h nm=true):Oi X h nm:=by
 exact aN e λe c7=>aN e λe c6=>aN e λe c5=>aN e λe c4=>aN e λe c3=>aN e λc1 c2=>⟨⟨c1,c2,c3,c4,c5⟩,c6,m7 c7⟩
theorem Ez(k:Ck X h){c:Nat}{a:Ri}(e:(X.cls.lookup c).map (gy h)=some a){G:Prop}(k0:Oi X h (X.clsNm c)->a=gy h (X.clsNm c)->G):G:=by
 refine js e ?_;rintro -e2 e3;exact k0 (Px (nm:=X.clsNm c) (k.cl (c,X.clsNm c) e3)) e2
set_option tactic.hygienic true in
theorem okX(k:Ck X h)(kp:bv h h'):(X.cx h h' prog w g d os tk).Ok X.pg:=by
 refine aN k.stat λst s5=>aN st λst s4=>aN st λst s3=>aN st λs1 s2=>?_;refine iU (rc k kp) ?_;intro n1 n2 n3 n4 n5;exact
 {K:=gT k kp
  nolimit:=n4
  con:=λnm v e=>az (d8 (s:=nm) (l:=X.gl) e) λn hm=>jx (k.gl _ hm) λu c hu=>⟨u,mO c,AG k kp hu⟩
  fn:=λnm q e=>by
   refine az (d8 (s:=nm) (l:=X.gl) e) λn hm=>aN (k.gl _ hm) λb1 b2=>Bj k (eq_of_beq b1) λdd od hd=>⟨gy h nm,?_,AG k kp (o1_ok vR_ok b2)⟩
   show(match tg q (dy (X.es h))with|some (.fn a _ _)=>some a|_=>none)=_;rw[hd];rfl
  cls:=λnm c q e=>by
   refine az (d8 (s:=nm) (l:=X.gl) e) λn hm=>aN (k.gl _ hm) λe b4=>aN e λe b3=>aN e λb1 b2=>⟨gy h nm,?_,AG k kp (o1_ok vR_ok b2),b3,vu k kp b4⟩
   show(X.cls.lookup c).map (gy h)=_;rw[eq_of_beq b1];rfl
  bi:=λnm b e=>az (d8 (s:=nm) (l:=X.gl) e) λn hm=>aN (k.gl _ hm) λb1 b2=>Ft k kp (fW b1) (o1_ok eq_of_beq b2)
  exc:=λT hT=>by
   have:B8 h T=true:=by rcases hT with rfl|rfl;exact k.k1;exact k.k2
   exact aN this λb1 b2=>Ft k kp (fW b1) (o1_ok w7 b2)
  ga:=λc a e=>by
   refine Ez k e ?_;rintro zq0 rfl;refine b0 zq0 ?_;clear zq0;intro zq0 c6 c7;refine iU zq0 ?_;clear zq0;intro c1 c2 c3 c4 c5;exact⟨wX c1,mJ c2,wX c3,c4,c5⟩
  attr:=λc a nm q e hs=>by
   refine Ez k e ?_;rintro zq0 rfl;refine b0 zq0 ?_;clear zq0;intro zq0 c6 c7;refine iU zq0 ?_;clear zq0;intro c1 c2 c3 c4 c5;refine az (d8 (s:=nm) (l:=X.sl) hs) ?_;intro n hm;rcases UL _ _|>.mp (c7 _ hm)with z|z
   ·exact .inl (mJ z)
   ·refine jB z ?_;intro z1 z2;refine IJ z1 ?_;intro u hu;refine u6 hu ?_;rintro i t-e2;exact .inr ⟨i,t,e2,bj z2⟩
  df:=λnm c v a e hc=>by
   refine Ez k hc ?_;rintro -rfl;refine az (d8 (s:=nm) (l:=X.df) e) λn hm=>jx (k.df _ hm) λu z hu=>aN z λz1 z2=>u6 hu ?_;rintro i t rfl e2;exact⟨i,t,e2,bj z2,mO z1⟩
  mt:=λnm c q a e hc=>by
   refine js hc ?_;rintro i rfl -;refine az (d8 (s:=nm) (l:=X.mt) e) ?_;intro n hm;refine⟨vu k kp (k.mt _ hm i),fW (m7 s2 _ hm)⟩
  ln:=λa hc=>by
   refine js hc ?_;rintro i rfl -;exact vu k kp (k.ln i)
  lri:=λa hc=>by
   refine js hc ?_;clear hc;rintro i rfl -;refine ar (k.lri i) ?_;intro z1 z2;exact⟨mJ z1,mJ z2⟩
  slI:=λnm nm' q e1 e2=>by
   refine az (d8 (s:=nm) (l:=X.sl) e1) ?_;intro n hm;refine az (d8 (s:=nm') (l:=X.sl) e2) ?_;intro n' hm';have:=jE (of_decide_eq_true s4) _ hm _ hm' rfl;cases this;rfl
  sysm:=by refine f9 n3 ?_;clear n3;rintro o es ep z -;exact⟨o,z⟩
  top:=by refine fI n5 ?_;clear n5;intro bm ob z;exact⟨_,bm,ob,n1,z⟩
  vol0:=λP hP=>hideAll_none _ hP
  kpf:=λq a e=>by
   have e:(match tg q (dy (X.es h))with|some (.fn a _ _)=>some a|_=>none)=some a:=e
   split at e
   ·rename_i a' dd od he;cases e;have hm:=sP he;unfold es at hm;rcases RG.mp hm with hm|hm
    ·refine nR hm ?_;intro nd hn z;cases z;exact aN (k.fn _ hn) λe Z=>aN e λe Z=>aN e λe Z=>aN e λZ e=>e
    ·refine nR hm ?_;rintro _-z;exact Ey.noConfusion z
   ·exact cO e
  kpc:=λc a e=>by
   refine Ez k e ?_;clear k;rintro zq0 rfl;refine b0 zq0 ?_;clear zq0;intro zq0 c6 c7;refine iU zq0 ?_;clear zq0;intro c1 c2 c3 c4 c5;exact c6
  slots:=⟨X.sl.map (·.2.1),by rw[Ra];exact QA s5,λnm q e=>by refine az (d8 (s:=nm) (l:=X.sl) e) ?_;intro n hm;exact Sw.mpr ⟨_,hm,rfl⟩⟩}
end Tx
end
end
section
section
namespace Tx
variable{X:Tx}{h h':SG}{prog:Tj}{w:U5}{g:Array UQ}{d:Drawn}{os:OsState}{tk:Nat->KV}
noncomputable def vw(fd:UR):FuncBody×Tp×Se×List (Str×Ri)×Ri×Ri:=(fd.body,fd.scope,fd.params,fd.closure,fd.globals,fd.builtins)
noncomputable def views(X:Tx)(h:SG):List (FuncBody×Tp×Se×List (Str×Ri)×Ri×Ri):=X.names.map λn=>vw (vy h (lJ h n))
noncomputable def due(X:Tx):List (FuncBody×Tp×Se×List (Str×Ri)×Ri×Ri):=X.dfs.map λd=>(.stmts d.body,d.sc,d.args,[],Rh,RY)
set_option tactic.hygienic true in
theorem vG{C:Cx}{tabs:List (Ri×Ri)}(hT:TabsAt tabs h')(kp:bv h h'){x:KV}{v:QD}(e:Id h x v=true)(R:Wd)(k:bv (ghostOf h' tabs) R.h):VR C R x v:=by
 unfold Id at e
 split at e
 ·rename_i l hl;refine pB hl ?_;clear hl;rintro a rfl zq;refine b8 zq ?_;clear zq;intro o ho hc zq;refine az zq ?_;clear zq;intro n hd;refine jB e ?_;intro e1 e2;exact .tup (uo e1 R) ⟨o,k _ _ (ghost_get hT (kp _ _ ho) λz=>by rw[z]at hc;exact R7 hc),hc,n,hd⟩ (QG (QA e2) (by decide))
 ·exact mO e R
theorem lY{C:Cx}{tabs:List (Ri×Ri)}(hT:TabsAt tabs h')(kp:bv h h'):∀{x:KV}{vs:List QD},BD h x vs=true->∀R:Wd,bv (ghostOf h' tabs) R.h->bG C R x vs
 |.nil,[],_,R,k=>rfl
 |.cons x r,v::vs,e,R,k=>by refine jB e ?_;intro a b;exact .cons_ (vG hT kp a R k) (lY hT kp b R k)
 |.none,_,e,_,_=>by exact aO e
 |.bool _,_,e,_,_=>by exact aO e
 |.nat _,_,e,_,_=>by exact aO e
 |.neg _,_,e,_,_=>by exact aO e
 |.str _,_,e,_,_=>by exact aO e
 |.ref _,_,e,_,_=>by exact aO e
 |.tok _,_,e,_,_=>by exact aO e
 |.nil,_::_,e,_,_=>by exact aO e
 |.cons _ _,[],e,_,_=>by exact aO e
theorem headX(k:Ck X h)(kp:bv h h')(hv:X.views h=X.due){n:Option Str×Str}{d':Df}(hm:(n,d')∈X.names.zip X.dfs):vQ (X.cx h h' prog w g d os tk) (lJ h n) d':=by
 refine az (UJ.mp hm) ?_;intro i hi;refine ar (Uu.mp hi) ?_;intro h1 h2;have e:=congrArg (λl=>l[i]?) hv;unfold views due at e;rw[Rj,Rj,h1,h2]at e;have e:vw (vy h (lJ h n))=(.stmts d'.body,d'.sc,d'.args,[],Rh,RY):=QN e;have f:=k.fn _ hm;refine aN f λf f5=>aN f λf f4=>aN f λf f3=>aN f λf1 f2=>?_;refine ah (Ee f1) ?_;intro ob e1 e2;generalize hfd:vy h (lJ h n)=fd at*;have q1:fd.body=.stmts d'.body:=congrArg (λx=>x.1) e;have q2:fd.scope=d'.sc:=congrArg (λx=>x.2.1) e;have q3:fd.params=d'.args:=congrArg (λx=>x.2.2.1) e;have q4:fd.closure=[]:=congrArg (λx=>x.2.2.2.1) e;have q5:fd.globals=Rh:=congrArg (λx=>x.2.2.2.2.1) e;have q6:fd.builtins=RY:=congrArg (λx=>x.2.2.2.2.2) e;have keepT:∀{b:Ri}{o:Obj},h.get? b=some o->o≠tabObj #[]->(ghostOf h' (X.tabs h)).get? b=some o:=λe z=>ghost_get (tabsUp k kp) (kp _ _ e) z;have cr:(ghostOf h' (X.tabs h)).CodeRec fd.code fd.qualname:=by
  refine jJ (Heap.CodeRec.of_ok f3) ?_;intro c o vs t g1 g2 g3 g4;exact⟨c,o,vs,t,g1,keepT g2 (λz=>by rw[z]at g3;cases g3;trivial),g3,g4⟩
 have df:∃dv,qw (ghostOf h' (X.tabs h)) fd dv∧∀R:Wd,bv (ghostOf h' (X.tabs h)) R.h->bG (X.cx h h' prog w g d os tk) R d'.ds dv:=by
  by_cases z:vN fd.defaults=true
  ·rw[z]at f4;refine⟨[],.inl ⟨F4 z,rfl⟩,λR Z=>?_⟩;have f4:kN d'.ds=true:=f4;revert f4;cases d'.ds<;>intro f4<;>first|rfl|exact aO f4
  ·rw[Bool.not_eq_true _|>.mp z]at f4;refine jx f4 λl f4 hl=>pB hl ?_;intro a ha zq;refine b8 zq ?_;clear zq;intro o ho hc zq;refine az zq ?_;clear zq;intro m hd;have tk':=keepT ho (λz=>by rw[z]at hc;exact R7 hc);exact⟨l,.inr ⟨a,l.toArray,ha,⟨o,tk',hc,m,hd⟩,by simp⟩,λR kq=>lY (tabsUp k kp) kp f4 R kq⟩
 refine ah df ?_;clear df;intro dv d1 d2;refine⟨⟨ob,fd,dv,keepT e1 (λz=>by rw[z]at e2;exact QO e2),e2,q1,q2,q3,q4,q5,q6,cr,d1,d2,λhl=>?_⟩⟩;have hL:Lj d'=true:=by unfold Lj;refine rwr hl ?_;rfl
 rw[hL]at f5;refine ah (List.any_eq_true.mp f5) λx hx z=>aN z λz z3=>aN z λhc z1=>?_;have hm2:(x.1,x.2.1)∈X.tabs h:=Sw.mpr ⟨x,hx,rfl⟩;refine⟨x.1,x.2.1,vR_ok hc,Sw.mpr ⟨_,hm2,rfl⟩,?_,eq_of_beq z3⟩;refine FD ((zb k _ hm2).1) ?_;intro o vs file tf flags tg zq;refine ei zq ?_;clear zq;intro inF text tt g1 g2 r;exact⟨o,vs,file,tf,flags,tg,inF,text,tt,keepT g1 (λz=>by rw[z]at g2;exact R7 g2),g2,r⟩
theorem tabX{y1 y2:Y}(k:Ck X h)(kp:bv h h')(hv:X.views h=X.due)(O:(X.cx h h' prog w g d os tk).Ok X.pg)(hh:∀nd∈X.names.zip X.dfs,fg (X.cx h h' prog w g d os tk) (bJ nd.2) y1 y2 ((yf (X.ov nd.1)).1 nd.2.body))(hb:(X.dfs.all Internal.dfB&&X.lams.all Lh)=true)(hn:mj (X.cx h h' prog w g d os tk) ((X.es h).flatMap (wP O (mh X.lm) y1 y2))):uC (X.cx h h' prog w g d os tk) (dy ((X.es h).map (vJ O (mh X.lm) y1 y2))):=by
 refine jB hb ?_;intro b1 b2;refine zc O _ y1 y2 (λzz=>rfl) (λzz=>rfl) (λa dd oo hm=>?_) (λa dd oo hm=>?_) (Rl.mpr λy hy=>?_) hn
 ·rcases RG.mp hm with hm|hm
  ·refine nR hm ?_;intro nd h1 z;cases z;exact headX k kp hv h1
  ·refine nR hm ?_;rintro _-z;exact Ey.noConfusion z
 ·rcases RG.mp hm with hm|hm
  ·refine nR hm ?_;intro nd h1 z;cases z;exact hh nd h1
  ·refine nR hm ?_;rintro _-z;exact Ey.noConfusion z
 ·rcases RG.mp hy with hm|hm
  ·refine nR hm ?_;intro nd h1 z;cases z;exact Rl.mp b1 _ (UI h1).2
  ·refine nR hm ?_;intro _ h1 z;cases z;exact Rl.mp b2 _ h1
end Tx
end
end
end
section
section
noncomputable def cI:KV:=.str 2097257
noncomputable def eL:KV:=.str 2097253
noncomputable def cJ:KV:=.str 2097258
noncomputable def gA:KV:=.str 2097264
noncomputable def cU:KV:=.str 2097269
noncomputable def fR:KV:=.str 2097249
def v8:Y:=(ad (av (t1 (.c .e)) (dQ (cT (ae .e)) (mW (ae .e)) (af (.nat 0)))) (ad (bw (cT (aW dG (ae (.c .e)) (af (.nat 5)))) (ad (bV (ae (.a .e)) (ae (.b .e)) (ab (aD (sg (ab (af ju) (ab (af j0) (ab (af iA) ao)))) (aW dG (aW sA (ae (.c .e)) (af (.nat 4))) (af (.nat 3)))) (ab (aW c9 (af (.nat 1)) (aW dG (aW sA (ae (.c .e)) (af (.nat 12))) (af (.nat 3)))) ao))) aa) aa) aa))
def NG:Y:=(ad (av (t1 (.a .e)) bP) (ad (bW (aV (aK (ab (af cI) (ab (af eL) (ab (af cJ) (ab (af gA) (ab (af cU) ao))))))) (t1 (.b .e)) v8 aa) (ad (bT (ae (.a .e))) aa)))
def Ae:Y:=(bw (aw d7 (aW dG (aW sA (ae (.g .e)) (af (.nat 28))) (af (.nat 7))) (af (.nat 6))) (ad (av (t1 (.h .e)) (aD (sg (ab (af fR) (ab (af cI) (ab (af eL) (ab (af cJ) (ab (af gA) ao)))))) (aW dG (aW sA (ae (.g .e)) (af (.nat 196))) (af (.nat 5))))) aa) (ad (bw (cT (ae (.f .e))) (ad (av (t1 (.h .e)) (aD (sg (ab (af fR) (ab (af cI) (ab (af fR) (ab (dQ (aw gT (ae (.a .e)) (aK (ab (af (.nat 1)) (ab (af (.nat 3)) (ab (af (.nat 4)) ao))))) (af cJ) (af cI)) ao))))) (aW dG (ae (.g .e)) (af (.nat 4))))) aa) (ad (av (t1 (.h .e)) (dQ (k8 (aw d7 (ae (.a .e)) (af (.nat 3))) (cT (aW dG (ae (.g .e)) (af (.nat 2))))) (af eL) (af gA))) aa)) aa))
def Ad:Y:=(bw (k8 (aw d7 (ae (.h .e)) (af cJ)) (gh (aw d7 (ae (.h .e)) (af cI)) (aw jG (ae (.a .e)) (af (.nat 4))))) (ad (aY (cX (ae (.d .e)) (ae (.h .e)))) aa) (ad (bw (aw d7 (ae (.h .e)) (af eL)) (ad (av (t1 (.i .e)) (dQ (cT (ae (.d .e))) (kX (ae (.d .e))) (af (.str 1)))) (ad (av (t1 (.f .e)) (IY (dz (aw jG (ae (.i .e)) (af cJ))) (dz (aw jG (ae (.a .e)) (af (.nat 1)))))) aa)) (ad (bw (aw d7 (ae (.h .e)) (af gA)) (ad (av (t1 (.f .e)) (dz (aw k7 (ae (.a .e)) (aK (ab (af (.nat 1)) (ab (af (.nat 2)) ao)))))) aa) aa) aa)) aa))
def v5:Y:=ad Ae (ad (aY (cX (ae (.c .e)) (ae (.h .e)))) (ad (av (t1 (.f .e)) (dz (aw jG (ae (.h .e)) (af fR)))) (ad Ad aa)))
def GE:Y:=(ad (av (t1 (.i .e)) (kX (ae (.d .e)))) (ad (bw (gh (aw d7 (ae (.i .e)) (af cJ)) (aw d7 (ae (.a .e)) (af (.nat 1)))) (ad (aY (cX (ae (.c .e)) (af eL))) aa) (ad (bw (k8 (aw d7 (ae (.i .e)) (af cJ)) (aw d7 (ae (.b .e)) (af (.nat 1)))) (ad (av (t1 (.c .e)) (aW c9 (ae (.c .e)) (sg (ab (af eL) (ab (af fR) ao))))) aa) aa) aa)) aa))
def Fe:Y:=(bw (aw jG (ae (.b .e)) (af (.nat 3))) (ad (bw (cT (ae (.f .e))) (ad (aY (cX (ae (.c .e)) (af fR))) aa) aa) (ad (dB (cT (ae (.d .e))) GE aa) aa)) aa)
def NF:Y:=(ad (av (t1 (.c .e)) (aK ao)) (ad (av (t1 (.d .e)) (aK ao)) (ad (av (t1 (.f .e)) (af (.bool true))) (ad (bW (aV (Cv (ae .e) (af (.nat 8)))) (t1 (.g .e)) v5 aa) (ad Fe (ad (bT (ae (.c .e))) aa))))))
noncomputable def cE:KV:=.str 2097221
noncomputable def c0:KV:=.str 1
def BK(k:Nat)(x:KV):Cn:=gh (cT (aW dG (aW sA (ae .e) (af (.nat k))) (af (.nat 2)))) (aw gT (af x) (ae (.a .e)))
def LP:Y:=av (t1 (.c .e)) (aK (ab (ab (aK (ab (af fR) ao)) (ab (af c0) ao)) (ab (ab (aK (ab (af cI) (ab (af cE) ao))) (ab (dQ (BK 10 cU) (af cU) (af c0)) ao)) ao)))
def NE:Y:=bw (aw jG (ae (.b .e)) (af (.nat 4))) (ad (aY (xB (ae (.c .e)) (dQ (cT (aW dG (aW sA (ae .e) (af (.nat 5))) (af (.nat 2)))) (af (.nat 1)) (af (.nat 2))) (ab (aK (ab (af cI) (ab (af cE) (ab (af eL) (ab (af cE) ao))))) (ab (af c0) ao)))) aa) aa
def ND:Y:=bw (aw gT (ae (.b .e)) (aK (ab (af (.nat 1)) (ab (af (.nat 3)) (ab (af (.nat 4)) ao))))) (ad (av (t1 (.d .e)) (dQ (aw d7 (ae (.b .e)) (af (.nat 1))) (aK (ab (af cJ) (ab (af cE) (ab (af eL) ao)))) (aK (ab (af cJ) (ab (af cE) (ab (af eL) (ab (af cE) ao))))))) (ad (aY (cX (ae (.c .e)) (ab (ae (.d .e)) (ab (dQ (BK 20 cJ) (af cJ) (af c0)) ao)))) aa)) aa
def NC:Y:=bw (aw jG (ae (.b .e)) (af (.nat 3))) (ad (aY (cX (ae (.c .e)) (ab (dQ (aw gT (ae (.b .e)) (aK (ab (af (.nat 1)) (ab (af (.nat 2)) ao)))) (aK (ab (af cE) (ab (af gA) ao))) (aK (ab (af cE) (ab (af gA) (ab (af cE) ao))))) (ab (af c0) ao)))) aa) aa
def NA:Y:=ad (av (t1 (.b .e)) (aW dG (ae .e) (af (.nat 5)))) (ad LP (ad NE (ad ND (ad NC (ad (av (t1 (.f .e)) (aW dG (aW sA (ae .e) (af (.nat 40))) (dw 1 (.g .e) (ae (.c .e))))) (ad (bT (aW c9 (kb (ae (.c .e)) (ae (.f .e))) (Cv (ae (.c .e)) (ae (.f .e))))) aa))))))
def Jj:Y:=(ad (yK (aw d7 (ak (.c (.b .e)) (ae .e)) (aK (ab (af .none) ao)))) (ad (bw (aw gT (ae (.a .e)) (ak (.b (.c .e)) (ae .e))) (ad fc aa) aa) (ad (bw (aw k7 (ae (.b .e)) (aK (ab (af ju) (ab (af j0) (ab (af iA) ao))))) (ad fc aa) aa) (ad (bV (ak (.b (.c .e)) (ae .e)) (ae (.a .e)) (ab (ae (.b .e)) (ab (ae (.c .e)) ao))) aa))))
def I7:Y:=(ad (bw (k8 (aw d7 (ae .e) (af (.str 19343836908622739096469614))) (aw su (aD (ae (.a .e)) (af (.nat 1))) (aD (ae .e) (af (.nat 1))))) (ad (bT (af (.nat 1))) aa) aa) (ad (bw (k8 (aw jm (aD (ae (.a .e)) (af (.nat 1))) (aD (ae .e) (af (.nat 1)))) (aw d7 (aD (ae .e) (af (.nat 0))) (af (.str 19343809238458250022617204)))) (ad (bT (dS (af (.nat 1)))) aa) aa) (ad (bT (dQ (aw d7 (aD (ae .e) (af (.nat 0))) (af (.str 40567024288966772448377926844532))) (af (.nat 1)) (af (.nat 0)))) aa)))
def uk:Cn:=(gh (aw jm (ae (.a .e)) (dw 1 (.g .e) (ae .e))) (aw jG (aD (ae .e) (ae (.a .e))) (af (.str 2097253))))
def O8:Y:=(ad (av (t1 (.b (.a .e))) (ab (aD (ae (.f .e)) (af (.str 2097249))) (ab (sg (ab (ae (.i .e)) ao)) ao))) (ad (av (t1 (.a .e)) (aW c9 (ae (.i .e)) (af (.nat 1)))) aa))
def MT:Y:=(bw (aw d7 (aD (ae (.h .e)) (af (.str 19343873802132876775391333))) (af (.nat 4))) (ad (av (tC (t1 (.f (.a .e))) (tC (t1 (.a .e)) tN)) (bf (.b (.g .e)) (ab (ae .e) (ab (ae (.a .e)) (ab (aD (ae (.g .e)) (af (.str 19343873802132876775391333))) (ab (ae (.c .e)) ao)))))) (ad (bw (iq (ae (.f (.a .e)))) (ad (bT (ab (af .none) (ab (ae (.a .e)) ao))) aa) aa) (ad (aY (cX (ae (.d (.a .e))) (ae (.f (.a .e))))) aa))) aa)
def O6:Y:=(ad (av (tC (t1 (.c (.a .e))) (tC (t1 (.a .e)) tN)) (bf (.b (.g .e)) (ab (ae .e) (ab (aW c9 (ae (.i .e)) (af (.nat 1))) (ab (af (.str 19343836908622739096469614)) (ab (ae (.c .e)) ao)))))) (ad (bw (k8 (iq (ae (.c (.a .e)))) (aw d7 (ae (.a .e)) (dw 1 (.g .e) (ae .e)))) (ad (bT (ab (af .none) (ab (ae (.a .e)) ao))) aa) aa) (ad (av (t1 (.d (.a .e))) (aK (ab (ae (.i .e)) (ab (ae (.c (.a .e))) (ab (ae (.a .e)) ao))))) (ad (av (t1 (.a .e)) (aW c9 (ae (.a .e)) (af (.nat 1)))) (ad MT (ad (av (t1 (.b (.a .e))) (ab (aD (ae (.f .e)) (af (.str 19343873802132876775391333))) (ab (ae (.d (.a .e))) ao))) aa))))))
def Kr:Y:=(bw (gh (aw gT (af (.str 19343809238502230504505447)) (ae (.f .e))) (gh (aw jm (ae (.a .e)) (dw 1 (.g .e) (ae .e))) (aw d7 (aD (ae .e) (ae (.a .e))) (af (.str 2097253))))) (ad (av (t1 (.g (.a .e))) (bf (.a (.g .e)) (ab (aD (ae (.g .e)) (af (.str 40567043631770662945592260427892))) (ab (aD (ae (.d .e)) (af (.str 2097253))) ao)))) (ad (bw (aw d7 (ae (.g (.a .e))) (af (.nat 0))) (ad (bT (ab (af .none) (ab (ae (.a .e)) ao))) aa) aa) (ad (bw (aw d7 (ae (.g (.a .e))) (af (.nat 1))) (ad (av (tC (t1 (.f (.a .e))) (tC (t1 (.h (.a .e))) tN)) (bf (.b (.g .e)) (ab (ae .e) (ab (aW c9 (ae (.a .e)) (af (.nat 1))) (ab (aD (ae (.g .e)) (af (.str 19343809238502230504505447))) (ab (ae (.c .e)) ao)))))) (ad (bw (iq (ae (.f (.a .e)))) (ad (bT (ab (af .none) (ab (ae (.h (.a .e))) ao))) aa) aa) (ad (av (t1 (.b (.a .e))) (ab (aD (ae (.f .e)) (af (.str 19343809238502230504505447))) (ab (sg (ab (ae (.i .e)) (ab (ae (.c (.a .e))) (ab (ae (.a .e)) (ab (ae (.f (.a .e))) ao))))) ao))) (ad (av (t1 (.a .e)) (ae (.h (.a .e)))) aa)))) aa) aa))) aa)
def O7:Y:=(ad (av (tC (t1 (.c (.a .e))) (tC (t1 (.a .e)) tN)) (bf (.b (.g .e)) (ab (ae .e) (ab (aW c9 (ae (.i .e)) (af (.nat 1))) (ab (aD (ae (.g .e)) (af (.str 40567043631770662945592260427892))) (ab (ae (.c .e)) ao)))))) (ad (bw (iq (ae (.c (.a .e)))) (ad (bT (ab (af .none) (ab (ae (.a .e)) ao))) aa) aa) (ad (av (t1 (.b (.a .e))) (ab (aD (ae (.f .e)) (af (.str 40567043631770662945592260427892))) (ab (sg (ab (ae (.i .e)) (ab (ae (.c (.a .e))) ao))) ao))) (ad Kr aa))))
def MS:Y:=(ad (bT (ab (af .none) (ab (ae (.i .e)) ao))) aa)
def MU:Y:=(bw (aw d7 (ae (.a (.a .e))) (af (.str 2097249))) O8 (ad (bw (gh (aw d7 (ae (.a (.a .e))) (af (.str 2097258))) (aw gT (af (.str 19343873802132876775391333)) (ae (.f .e)))) O6 (ad (bw (aw d7 (ae (.a (.a .e))) (af (.str 2097257))) O7 MS) aa)) aa))
def vF:Y:=(ad (bw (k8 (aw jG (aD (ae .e) (ae (.a .e))) (af (.str 2097264))) (aw k7 (af (.str 2097264)) (ae (.f .e)))) (ad (bT (ab (af .none) (ab (ae (.a .e)) ao))) aa) aa) (ad (av (t1 (.g (.a .e))) (bf (.a (.g .e)) (ab (ae (.b .e)) (ab (aD (ae (.d .e)) (af (.str 2097264))) ao)))) (ad (bw (aw d7 (ae (.g (.a .e))) (af (.nat 0))) (ad (bT (ab (af .none) (ab (ae (.a .e)) ao))) aa) aa) (ad (bw (aw d7 (ae (.g (.a .e))) (dS (af (.nat 1)))) (ad (bT (ab (ae (.b (.a .e))) (ab (ae (.a .e)) ao))) aa) aa) (ad (bw (aw d7 (aD (ae (.h .e)) (af (.str 2097264))) (af (.nat 2))) (ad (av (t1 (.b (.a .e))) (ab (aD (ae (.f .e)) (af (.str 2097264))) (ab (sg (ab (ae (.b (.a .e))) (ab (ae (.a .e)) ao))) ao))) (ad (av (t1 (.a .e)) (aW c9 (ae (.a .e)) (af (.nat 1)))) (ad iB aa))) aa) (ad (av (tC (t1 (.f (.a .e))) (tC (t1 (.h (.a .e))) tN)) (bf (.b (.g .e)) (ab (ae .e) (ab (aW c9 (ae (.a .e)) (af (.nat 1))) (ab (aD (ae (.g .e)) (af (.str 2097264))) (ab (ae (.c .e)) ao)))))) (ad (bw (iq (ae (.f (.a .e)))) (ad (bT (ab (af .none) (ab (ae (.h (.a .e))) ao))) aa) aa) (ad (av (t1 (.b (.a .e))) (ab (aD (ae (.f .e)) (af (.str 2097264))) (ab (sg (ab (ae (.b (.a .e))) (ab (ae (.a .e)) (ab (ae (.f (.a .e))) ao)))) ao))) (ad (av (t1 (.a .e)) (ae (.h (.a .e)))) aa)))))))))
def IN:Y:=(ad (bT (ab (ae (.b (.a .e))) (ab (ae (.a .e)) ao))) aa)
def O5:Y:=(ad (av (tC (t1 (.d .e)) (tC (t1 (.f .e)) (tC (t1 (.g .e)) (tC (t1 (.h .e)) tN)))) (ae (.c .e))) (ad (av (t1 (.i .e)) (ae (.a .e))) (ad (av (t1 (.a (.a .e))) (dQ (aw jm (ae (.i .e)) (dw 1 (.g .e) (ae .e))) (aD (ae .e) (ae (.i .e))) (af (.str 1)))) (ad MU (ad (dB uk vF aa) IN)))))
def yW:Cn:=(aw Li (ae (.g .e)) (aW c9 (aW Ht (af (.nat 3)) (dw 1 (.g .e) (ae (.b .e)))) (af (.nat 3))))
def Gf:Y:=(ad (aY (kX (ae (.c .e)))) (ad (av (t1 (.b (.a .e))) (aW c9 (sg (ab (kX (ae (.d .e))) ao)) (ae (.b (.a .e))))) aa))
def CF:Y:=(ad (aY (cX (ae (.c .e)) (ae (.a (.a .e))))) (ad (aY (cX (ae (.d .e)) (ae (.f .e)))) (ad (av (t1 (.f .e)) (aW c9 (ae (.f .e)) (af (.nat 1)))) aa)))
def CG:Y:=(ad (av (t1 (.b (.a .e))) (sg ao)) (ad (bW (aV (aD (aD (ae (.a .e)) (aW q9 (dS (ae (.a (.a .e)))) (af (.nat 1)))) (af (.nat 0)))) (t1 (.c (.a .e))) Gf aa) (ad (aY (cX (ae (.c .e)) (aD (aD (ak (.i (.c .e)) (ae .e)) (aD (ae (.c .e)) (dS (af (.nat 1))))) (af (.str 2097221))))) (ad (aY (cX (ae (.d .e)) (ab (dS (ae (.a (.a .e)))) (ab (ae (.b (.a .e))) ao)))) aa))))
def CH:Y:=(ad (bT (ab (aD (ae (.d .e)) (af (.nat 1))) (ab (ae (.f .e)) (ab (dz (aw jG (dw 1 (.g .e) (ae (.d .e))) (af (.nat 2)))) ao)))) aa)
def F6:Y:=(ad (av (t1 (.g .e)) (aW c9 (ae (.g .e)) (af (.nat 1)))) (ad (av (t1 (.h .e)) (dQ (aw jm (ae (.f .e)) (dw 1 (.g .e) (ae (.b .e)))) (aD (ae (.b .e)) (ae (.f .e))) (af (.str 19343145155671596495536228)))) (ad (av (t1 (.i .e)) (aD (ak (.h (.c .e)) (ae .e)) (aD (ae (.c .e)) (dS (af (.nat 1)))))) (ad (bw (k8 (aw k7 (ae (.h .e)) (ae (.i .e))) (iq (aD (ae (.i .e)) (ae (.h .e))))) (ad (bT (ab (af .none) (ab (ae (.f .e)) (ab (af (.bool true)) ao)))) aa) aa) (ad (av (t1 (.a (.a .e))) (aD (ae (.i .e)) (ae (.h .e)))) (ad (bw (aw su (ae (.a (.a .e))) (af (.nat 0))) CF (ad (bw (aw jm (ae (.a (.a .e))) (af (.nat 0))) CG CH) aa)) aa))))))
def Nv:Y:=(ad (bT (ab (af .none) (ab (ae (.f .e)) (ab (af (.bool false)) ao)))) aa)
def Nu:Y:=(ad (av (t1 (.c .e)) (aK (ab (af (.nat 0)) ao))) (ad (av (t1 (.d .e)) (aK (ab (af .none) ao))) (ad (av (t1 (.f .e)) (af (.nat 0))) (ad (av (t1 (.g .e)) (af (.nat 0))) (ad (dB yW F6 aa) Nv)))))
def bt:Pa:=(.a .e)
def be:X:=(ae .e)
def bL:Pa:=(.b .e)
def cM:Pa:=(.c .e)
def fT:X:=(af (.nat 1))
def fJ:X:=(ae (.f .e))
def du:X:=(ae bt)
def eN:Pa:=(.d .e)
def iw:X:=(af (.nat 0))
def ej:X:=(ae bL)
def dR:Pa:=(.g .e)
def eO:X:=(ae (.a bt))
def qy:X:=(af (.str 19343145155671596495536228))
def fh:X:=(ae (.d bt))
def cN:X:=(ae cM)
def eS:X:=(ae (.h .e))
def fB:X:=(ae (.i .e))
def fY:X:=(ae (.g bt))
def dP:X:=(ae eN)
def eC:X:=(ae dR)
def k9:X:=(ak (.f cM) be)
def im:Tg:=(t1 (.f .e))
def mc:X:=(af (.bool true))
def jz:X:=(ae (.h bt))
def H0:Code:=(.fn 1 .nil (ad (dB (cT mc) (ad aa aa) aa) aa))
def H1:Code:=(.fn 1 .nil (ad (bT (xD (dz (aw su (dw 1 dR be) iw)) (G7 (mY (aV be) ao (t1 .e) (dz (uu [2097249,2097250,2097251,2097252,2097253,2097254,2097255,2097256,2097257,2097258,2097259,2097260,2097261,2097262,2097263,2097264,2097265,2097266,2097267,2097268,2097269,2097270,2097271,2097272,2097273,2097274,2097217,2097218,2097219,2097220,2097221,2097222,2097223,2097224,2097225,2097226,2097227,2097228,2097229,2097230,2097231,2097232,2097233,2097234,2097235,2097236,2097237,2097238,2097239,2097240,2097241,2097242,2097200,2097201,2097202,2097203,2097204,2097205,2097206,2097207,2097208,2097209,2097247,2097197] be)) iZ)))) aa))
def H2:Code:=(.fn 1 .nil (ad (bw (k8 (aw jm (dw 1 dR be) (af (.nat 3))) (k8 (aw jG (aD be iw) (aD be (dS fT))) (k8 (aw gT (aD be iw) xC) (k8 (aw gT (af (.str 2097244)) be) (aw gT (af (.str 2097162)) be))))) (ad fc aa) aa) (ad (bT xC) aa)))
def H3:Code:=(.fn 8 (.cons (.cons (.str 40567024288966772448377926844532) (.cons (.nat 0) .nil)) (.cons .none (.cons (.str 1) (.cons (.nat 0) .nil)))) (ad (cg .e be ej) (ad (cg bt be (sB cN)) (ad (cg bL be du) (ad (cg cM be fJ) (ad (cg eN be (af .none)) (ad (cg (.f .e) be eC) (ad (cg dR be eS) (ad (cg (.h .e) be dP) (ad (cg (.i .e) be (dw 1 dR (ak bt be))) (ad (cg (.a bt) be (aK ao)) (ad (bW (aV (ak bt be)) (t1 (.i .e)) (ad (bw (aw k7 fB (ak (.a bt) be)) (ad (aY (cX (ak (.a bt) be) fB)) aa) aa) aa) aa) (ad (cg (.b bt) be (aK ao)) (ad (cg (.c bt) be (af .none)) (ad (bw (cT (ak bt be)) (ad (cg (.d bt) be (sD (iO (sE (ak .e be)) (iO (af (.str 19343108261937158371147808)) (iO (sE (w4 2097184 (ak bt be))) ao))))) aa) (ad (cg (.d bt) be (aW dG (af (.str 15177368490116720127856851715738124369746665464782209044878335172050783817703620670)) (ak .e be))) aa)) aa)))))))))))))))
def H4:Code:=(.fn 1 .nil (ad (bT (ak (.d bt) be)) aa))
def H5:Code:=(.fn 1 .nil (ad (bT (aW c9 (aW c9 (af (.str 3451004813849316331460058896558826724969440581771043044798862792327208)) xC) (af (.str 2097193)))) aa))
def H6:Code:=(.fn 1 .nil (ad (bT (dw 1 dR (ak bt be))) aa))
def H7:Code:=(.fn 2 .nil (ad (bT (aD (ak bt be) du)) aa))
noncomputable def H8:Code:=(.fn 2 .nil (ad (aY (bf .e (ab iw ao))) aa))
def H9:Code:=(.fn 3 .nil (ad (cg .e be (ak .e du)) (ad (cg bt be (yL (ak bt du))) (ad (cg bL be (ak bL du)) (ad (cg (.f bt) be ej) (ad (cg (.g bt) be bP) (ad (aY (xB (ak bt be) ej (af (.str 2097198)))) (ad (cg bt be (sB (ak bt be))) (ad (cg (.i .e) be (dw 1 dR (ak bt be))) (ad (cg (.a bt) be (ak (.a bt) du)) aa))))))))))
def Qw:Code:=(.fn 1 .nil (ad (bw (cT (ak bt be)) (ad (av (t1 bt) (sD (iO (sE (ak .e be)) (iO (af (.str 19343108261937158371147808)) (iO (sE (w4 2097184 (ak bt be))) ao))))) aa) (ad (av (t1 bt) (aW dG (af (.str 15177368490116720127856851715738124369746665464782209044878335172050783817703620670)) (ak .e be))) aa)) (ad (bT du) aa)))
def Qv:Code:=(.fn 1 .nil (ad (bT (aW c9 (aW c9 (af (.str 178412426956542799550116851469742798991786024)) xC) (af (.str 2097193)))) aa))
def Qu:Code:=(.fn 2 .nil (ad (av (t1 bL) (aW q9 (dw 1 dR be) fT)) (ad (dB (aw JV ej iw) (ad (bw (aw gT (aD be ej) du) (ad (bT (aD be ej)) aa) aa) (ad (uF bL q9 fT) aa)) aa) (ad (bT (af .none)) aa))))
def Qt:Code:=(.fn 2 .nil (ad (cg (.c bL) be (aK (ab (af .none) ao))) (ad (cg (.d bL) be bP) (ad (cg (.f bL) be bP) (ad (cg (.g bL) be bP) (ad (bW (aV du) (t1 bL) (ad (bV (ak (.g bL) be) ej (aK ao)) aa) aa) (ad (bV (ak (.g bL) be) (af (.str 40566772832479303002219807244402)) (aK ao)) (ad (cg (.h bL) be bP) (ad (cg (.i bL) be bP) (ad (cg (.a cM) be bP) (ad (cg (.b cM) be bP) (ad (cg (.c cM) be Cw) (ad (cg (.d cM) be (af .none)) aa)))))))))))))
def Qr:Code:=(.fn 1 .nil (ad (bT (dw 1 dR (ak (.c bL) be))) aa))
def Qq:Code:=(.fn 2 .nil (ad (bT (aD (ak (.c bL) be) du)) aa))
def Qp:Code:=(.fn 4 .nil Jj)
def Qo:Code:=(.fn 6 (.cons .none (.cons (.str 1) (.cons (.nat 0) .nil))) (ad (bw (aw gT du (ak (.g bL) be)) (ad fc aa) aa) (ad (bw (aw d7 du (af (.str 40566772832479303002219807244402))) (ad fc aa) aa) (ad (bw (fL (cT (bf bt (ab du ao)))) (ad fc aa) aa) (ad (bW (qf ej) (tC (t1 dR) (tC (t1 (.h .e)) tN)) (ad (bw (uu [2097191,2097186] (aD eS iw)) (ad fc aa) aa) (ad (bw (gh (fL (cT (bf bt (ab eS ao)))) (aw jG eS (af (.str 40565534892421570877871177597027)))) (ad fc aa) aa) aa)) aa) (ad (bw (aw gT (af (.str 40565534892421570877871177597027)) ej) (ad (bw (aw d7 (aD ej (dS fT)) (af (.str 40565534892421570877871177597027))) (ad fc aa) aa) (ad (bw (aw jG (aD ej (dS (af (.nat 2)))) (af (.str 40565534892421570877871177597027))) (ad fc aa) aa) (ad (av (t1 (.a bt)) (aD ej (dS fT))) (ad (av (t1 (.b bt)) (ka (ak (.b cM) be) eO)) (ad (bw (fL (cT (ae (.b bt)))) (ad fc aa) (ad (aY (sC (ak (.c cM) be) eO)) aa)) (ad (yH ej) aa)))))) (ad (av (t1 (.a bt)) (bf (.d bt) (ab ej (ab (ak (.g bL) be) ao)))) (ad (av (t1 (.b bt)) (gj (ak (.b cM) be) eO (ab (af (.str 40567024288966772448377926844532)) (ab iw ao)))) aa))) (ad (av (t1 (.c bt)) (sD (iO (sE du) (iO (af (.str 19343108261937158371147808)) (iO (sE ej) ao))))) (ad (bw (aw gT (ae (.c bt)) (ak (.f bL) be)) (ad (av (t1 (.d bt)) (aD (ak (.f bL) be) (ae (.c bt)))) (ad fc aa)) aa) (ad (av (t1 (.f bt)) (dw 1 dR (ak (.c bL) be))) (ad (bw (aw k7 du (ak (.h bL) be)) (ad (bV (ak (.h bL) be) du (aK ao)) aa) aa) (ad (bW (aV ej) (t1 (.g bt)) (ad (bw (aw gT fY (ak (.g bL) be)) (ad (aY (cX (aD (ak (.g bL) be) fY) (ae (.f bt)))) aa) (ad (bw (aw k7 fY (ak (.h bL) be)) (ad (bV (ak (.h bL) be) fY (aK ao)) aa) aa) (ad (aY (cX (aD (ak (.h bL) be) fY) (ae (.f bt)))) aa))) aa) aa) (ad (av (t1 (.h bt)) (qA 1 cM (ab (ae (.f bt)) (ab du (ab ej (ab (ae (.b bt)) (ab cN (ab dP (ab fJ ao))))))))) (ad (aY (cX (ak (.c bL) be) jz)) (ad (bV (ak (.f bL) be) (ae (.c bt)) jz) (ad (yG (vb (pX (ak (.d bL) be)) (pX du)) [0] (aY (cX (aD (ak (.d bL) be) du) jz)) (bV (ak (.d bL) be) du (aK (ab jz ao)))) aa)))))))))))))))
def Qm:Code:=(.fn 2 (.cons .none .nil) (ad (bw (fL (cT du)) (ad (av (t1 bt) (ak .e (aD (ak (.c bL) be) fT))) aa) aa) (ad (bw (aw k7 du (ak (.h bL) be)) (ad fc aa) aa) (ad (bV (ak (.c bL) be) iw (qA 1 cM (ab iw (ab (af (.str 4398220574759)) (ab (aK (ab du ao)) ao))))) (ad (aY (cX (aD (ak (.h bL) be) du) iw)) (ad (cg (.d cM) be du) aa))))))
noncomputable def Ql:Code:=(.fn 1 .nil (ad (aY (bf .e (ab fT ao))) aa))
noncomputable def Qk:Code:=(.fn 1 .nil (ad (aY (bf .e (ab (af (.nat 2)) ao))) aa))
noncomputable def Qj:Code:=(.fn 1 .nil (ad (aY (bf .e (ab (af (.nat 3)) ao))) aa))
noncomputable def Qi:Code:=(.fn 1 .nil (ad (aY (bf .e (ab (af (.nat 4)) ao))) aa))
noncomputable def Qh:Code:=(.fn 1 .nil (ad (aY (bf .e (ab (af (.nat 5)) ao))) aa))
noncomputable def Qg:Code:=(.fn 1 .nil (ad (aY (bf .e (ab (af (.nat 6)) ao))) aa))
def Qf:Code:=(.fn 2 .nil (ad (av (t1 bL) (aK ao)) (ad (bW (aV du) (t1 cM) (ad (av (t1 eN) (af (.bool false))) (ad (bW (aV (aD (ak (.i bL) be) cN)) im (ad (bw (aw d7 fJ (af (.str 178411065827845848057542996652027295402295358))) (ad (av (t1 eN) mc) aa) (ad (bw (aw k7 fJ ej) (ad (aY (cX ej fJ)) aa) aa) aa)) aa) aa) (ad (bw (cT dP) (ad aa aa) (ad mU aa)) aa))) (ad (aY (cX ej (af (.str 178411065827845848057542996652027295402295358)))) aa)) (ad (bT ej) aa))))
def Qe:Code:=(.fn 1 .nil (ad (bw (cT (ak (.i bL) be)) (ad (bT (ak (.i bL) be)) aa) aa) (ad (bW (aV (ak (.g bL) be)) (t1 bt) (ad (bV (ak (.i bL) be) du (aK (ab du ao))) aa) aa) (ad (bV (ak (.i bL) be) qy (aK (ab qy ao))) (ad (bW (aV (ak (.h bL) be)) (t1 bL) (ad (bV (ak (.i bL) be) ej (aK ao)) aa) aa) (ad (dB (cT mc) (ad (av (t1 cM) (af (.bool false))) (ad (bW (aV (ak (.h bL) be)) (t1 bL) (ad (bW (aV (aD (ak (.d bL) be) ej)) (t1 eN) (ad (bW (aV (bH 4 (.a cM) be (ab (ak bt dP) ao))) im (ad (bw (aw k7 fJ (aD (ak (.i bL) be) ej)) (ad (aY (cX (aD (ak (.i bL) be) ej) fJ)) (ad (av (t1 cM) mc) aa)) aa) aa) aa) aa) aa) aa) aa) (ad (bw (fL (cT cN)) (ad mU aa) aa) aa))) aa) (ad (bT (ak (.i bL) be)) aa)))))))
def Qd:Code:=(.fn 2 (.cons .none .nil) (ad (bw (cT (ak (.a cM) be)) (ad (bT (ak (.a cM) be)) aa) aa) (ad (bw (fL (cT (ak (.i bL) be))) (ad (aY (bH 4 (.b cM) be ao)) aa) aa) (ad (bW (aV (ak (.h bL) be)) (t1 bL) (ad (bV (ak (.a cM) be) ej (aK ao)) aa) aa) (ad (bw (fL (cT du)) (ad (av (t1 bt) (ak .e (aD (ak (.c bL) be) fT))) aa) aa) (ad (bV (ak (.a cM) be) du (aK (ab qy ao))) (ad (dB (cT mc) (ad (av (t1 cM) (af (.bool false))) (ad (bW (aV (kb (ak (.c bL) be) fT)) (t1 eN) (ad (bW (qf (ak bt dP)) (tC im (tC (t1 dR) tN)) (ad (bw (aw gT eC (ak (.h bL) be)) (ad (av (t1 (.h .e)) (bH 4 (.a cM) be (ab (kb (ak bt dP) (aW c9 fJ fT)) ao))) (ad (av (t1 (.i .e)) (af (.bool false))) (ad (bW (aV eS) (t1 (.a bt)) (ad (bw (gh (aw jG eO (af (.str 178411065827845848057542996652027295402295358))) (aw k7 eO (aD (ak (.a cM) be) eC))) (ad (aY (cX (aD (ak (.a cM) be) eC) eO)) (ad (av (t1 cM) mc) aa)) aa) (ad (bw (aw d7 eO (af (.str 178411065827845848057542996652027295402295358))) (ad (av (t1 (.i .e)) mc) aa) aa) aa)) aa) (ad (bw (k8 (cT fB) (aw d7 fJ (aW q9 (dw 1 dR (ak bt dP)) fT))) (ad (bW (aV (aD (ak (.a cM) be) (ak .e dP))) (t1 (.a bt)) (ad (bw (aw k7 eO (aD (ak (.a cM) be) eC)) (ad (aY (cX (aD (ak (.a cM) be) eC) eO)) (ad (av (t1 cM) mc) aa)) aa) aa) aa) aa) aa) aa)))) aa) aa) aa) aa) aa) (ad (bw (fL (cT cN)) (ad mU aa) aa) aa))) aa) (ad (bT (ak (.a cM) be)) aa))))))))
def Qc:Code:=(.fn 1 .nil (ad (bW (aV (ak (.c bL) be)) (t1 bt) (ad (av (t1 bL) du) (ad (av (t1 cM) iw) (ad (av (t1 eN) (aK ao)) (ad (dB (cT mc) (ad (bw (aw su cN (dw 1 dR du)) (ad (av im (af .none)) aa) (ad (av im (qA 2 (.a bt) (ab du (ab cN ao)))) (ad (yG (vb (pX (ak (.d bL) be)) (vb (pX (ak bt fJ)) (pX (aW c9 cN fT)))) [0,1] (cg (.h bt) fJ (aD (ak (.d bL) be) (aD (ak bt fJ) (aW c9 cN fT)))) (cg (.h bt) fJ (aK ao))) (ad (yG (vb (pX (ak bt fJ)) (pX (aW q9 cN fT))) [1] (cg (.i bt) fJ (aD (ak bt fJ) (aW q9 cN fT))) (cg (.i bt) fJ (af .none))) aa)))) (ad (cg (.c bt) ej fJ) (ad (bw (fL (cT fJ)) (ad mU aa) aa) (ad (aY (cX dP fJ)) (ad (av (t1 bL) fJ) (ad (uF cM c9 fT) aa)))))) aa) (ad (cg (.b bt) du dP) aa))))) aa) aa))
def Qb:Code:=(.fn 3 .nil (ad (av (t1 cM) bP) (ad (bW (aV be) (t1 eN) (ad (bV cN dP iw) aa) aa) (ad (av im (aK ao)) (ad (av (t1 dR) bP) (ad (bW (aV be) (t1 eN) (ad (bw (aw d7 (aD cN dP) iw) (ad (aY (bf (.g cM) (ab dP (ab cN (ab fJ (ab eC (ab be (ab du (ab ej ao))))))))) aa) aa) aa) aa) (ad (bT eC) aa)))))))
def Qa:Code:=(.fn 7 .nil (ad (aY (cX ej be)) (ad (av (t1 (.h .e)) (dw 1 dR ej)) (ad (bV du be eS) (ad (bV cN be (qB eC (ab be ao))) (ad (av (t1 (.i .e)) (qB fJ (ab be ao))) (ad (bW (aV fB) (t1 (.a bt)) (ad (bw (aw d7 (aD du eO) iw) (ad (aY (bf (.g cM) (ab eO (ab du (ab ej (ab cN (ab dP (ab fJ (ab eC ao))))))))) aa) aa) (ad (bV du be (aW Hu (aD du be) (aD du eO))) (ad (bW (aV (gj cN eO (aK ao))) (t1 (.b bt)) (ad (bw (aw k7 (ae (.b bt)) (aD cN be)) (ad (aY (cX (aD cN be) (ae (.b bt)))) aa) aa) aa) aa) aa))) aa) (ad (bw (aw d7 (aD du be) eS) (ad (bV du (aD ej (dS fT)) (af (.nat 9223372036854775807))) (ad (bV cN (aD ej (dS fT)) (aD cN be)) (ad (av (t1 (.c bt)) (kX ej)) (ad (dB (aw jG (ae (.c bt)) be) (ad (bV du (aD ej (dS fT)) (af (.nat 9223372036854775807))) (ad (bV cN (aD ej (dS fT)) (aD cN be)) (ad (av (t1 (.c bt)) (kX ej)) aa))) aa) aa)))) aa) aa))))))))
def Q9:Code:=(.fn 1 .nil (ad (bw (fL (cT be)) (ad (bT ao) aa) aa) (ad (bT (sB (mY (aV be) ao (t1 .e) (ab (ak bL be) (ab (ak (.f bt) be) ao)) iZ))) aa)))
def Q8:Code:=(.fn 4 (.cons (.str 19343514090394740940865618) (.cons .none .nil)) (ad (bw (aw k7 ej (aK (ab (af (.str 9223737074874581074)) (ab (af (.str 19343514090394740940865618)) ao)))) (ad fc aa) aa) (ad (cg (.f cM) be du) (ad (cg (.g cM) be ej) (ad (cg (.h cM) be bP) (ad (cg (.i cM) be bP) (ad (cg (.a eN) be (ak (.c bL) du)) (ad (cg (.b eN) be bP) (ad (cg (.c eN) be bP) (ad (cg (.d eN) be iw) (ad (cg (.f eN) be iw) (ad (cg (.g eN) be iw) (ad (cg (.h eN) be (aK ao)) (ad (cg (.i eN) be LA) (ad (cg (.a (.f .e)) be (aK ao)) (ad (aY (bH 4 (.d cM) k9 ao)) (ad (aY (bH 4 (.b cM) k9 ao)) (ad (aY (bH 4 (.c cM) k9 ao)) (ad (aY (bH 6 (.f (.f .e)) be ao)) aa)))))))))))))))))))
def Q7:Code:=(.fn 2 .nil (ad (md (IL (.d eN)) (.d eN) c9 be fT) (ad (av (t1 bL) (yM du)) (ad (av (t1 cM) mc) (ad (dB (cT cN) (ad (av (t1 cM) (af (.bool false))) (ad (bW (aV ej) (t1 eN) (ad (bW (aV (ak (.h bt) dP)) im (ad (bw (aw d7 (uH (.a bL) 1 (.nat 0) fJ) (ak (.d eN) be)) (ad iB aa) aa) (ad (aY (cX ej (ak (.c bt) fJ))) (ad (cg (.a bL) fJ (ak (.d eN) be)) (ad (av (t1 cM) mc) aa)))) aa) aa) aa) aa)) aa) (ad (bT ej) aa))))))
def Q6:Code:=(.fn 3 .nil (ad (av (t1 cM) (ka (ak (.b eN) be) (ab (bf (.h cM) (ab du ao)) (ab ej ao)))) (ad (bw (cT cN) (ad (bT cN) aa) aa) (ad (av (t1 eN) (ka (ak (.b eN) be) ej)) (ad (bw (fL (cT dP)) (ad (av (t1 eN) bP) (ad (bV (ak (.b eN) be) ej dP) aa)) aa) (ad (av im (aK ao)) (ad (bW (aV du) (t1 dR) (ad (av (t1 (.h .e)) (ak (.c bt) eC)) (ad (bw (gh (cT eS) (aw d7 (ak (.i bt) eS) ej)) (ad (av (t1 (.i .e)) (ka dP (ab (ak bL eS) (ab (ak (.f bt) eS) ao)))) (ad (bw (fL (cT fB)) (ad (av (t1 (.i .e)) bP) (ad (bV dP (ab (ak bL eS) (ab (ak (.f bt) eS) ao)) fB) aa)) aa) (ad (aY (cX fJ eS)) (ad (av (t1 eN) fB) aa)))) aa) aa)) aa) (ad (av (t1 cM) (ka dP qy)) (ad (bw (fL (cT cN)) (ad (bw (cT fJ) (ad (av (t1 cM) (bH 6 (.a eN) be (ab fJ ao))) (ad (bV dP qy cN) aa)) (ad (bV dP qy fJ) aa)) aa) aa) (ad (bV (ak (.b eN) be) (ab (bf (.h cM) (ab du ao)) (ab ej ao)) cN) (ad (bT cN) aa)))))))))))
def Q5:Code:=(.fn 1 .nil (ad (av (t1 bt) (aK (ab (bH 6 (.a eN) be (ab (aK (ab (ak (.c bt) (aD (ak (.c bL) k9) iw)) ao)) ao)) ao))) (ad (av (t1 bL) iw) (ad (bW (aV du) (t1 cM) (ad (bV (ak (.c eN) be) (bf (.h cM) (ab cN ao)) ej) (ad (uF bL c9 fT) aa)) aa) (ad (av (t1 bL) iw) (ad (dB (aw jm ej (dw 1 dR du)) (ad (av (t1 cM) (aD du ej)) (ad (uF bL c9 fT) (ad (av (t1 eN) bP) (ad (bW (aV cN) im (ad (bW (aV (ak (.a bt) fJ)) (t1 dR) (ad (bV dP eC (af .none)) aa) aa) aa) aa) (ad (bW (aV dP) (t1 (.h .e)) (ad (av (t1 (.i .e)) (bH 6 (.b eN) be (ab cN (ab eS ao)))) (ad (bw (k8 (fL (cT fB)) (aw gT (bf (.h cM) (ab fB ao)) (ak (.c eN) be))) (ad iB aa) aa) (ad (bV (ak (.c eN) be) (bf (.h cM) (ab fB ao)) (dw 1 dR du)) (ad (aY (cX du fB)) aa)))) aa) aa))))) aa) (ad (bT du) aa)))))))
def Q4:Code:=(.fn 1 .nil (ad (av (t1 bt) Cw) (ad (av (t1 bL) iw) (ad (dB (cT mc) (ad (bW (aV (kb (ak (.c bL) k9) fT)) (t1 cM) (ad (bw (aw d7 (ak (.i .e) cN) iw) (ad (aY (sC du (ak .e cN))) (ad iB aa)) aa) (ad (bW (aV (ak bt cN)) (t1 eN) (ad (bw (aw k7 dP du) (ad mU aa) aa) aa) (ad (aY (sC du (ak .e cN))) aa)) aa)) aa) (ad (bw (aw d7 (dw 1 dR du) ej) (ad mU aa) aa) (ad (av (t1 bL) (dw 1 dR du)) aa))) aa) (ad (bT du) aa)))))
def Q3:Code:=(.fn 2 .nil (ad (av (t1 bL) (aK ao)) (ad (bW (qf du) (tC (t1 cM) (tC (t1 eN) tN)) (ad (bW (aV dP) im (ad (bw (aw jm (ak (.f bt) fJ) (aW q9 (ak (.i .e) fJ) fT)) (ad (av (t1 dR) (ab cN (ab (aD (ak bt fJ) (aW c9 (ak (.f bt) fJ) fT)) ao))) (ad (bw (aw gT (aD eC fT) (ak (.h bL) k9)) (ad (bw (aw k7 eC ej) (ad (aY (cX ej eC)) aa) aa) aa) aa) aa)) aa) aa) aa) aa) aa) (ad (bT ej) aa))))
def Q2:Code:=(.fn 4 .nil (ad (av (tC (t1 eN) (tC im tN)) ej) (ad (av (t1 dR) (aK ao)) (ad (av (t1 (.h .e)) (bH 6 (.b eN) be (ab (aD du dP) (ab fJ ao)))) (ad (bW (aV eS) (t1 (.i .e)) (ad (bw (aw jm (ak (.f bt) fB) (aW q9 (ak (.i .e) fB) fT)) (ad (av (t1 (.a bt)) (aD (ak bt fB) (aW c9 (ak (.f bt) fB) fT))) (ad (bw (aw gT eO (ak (.g bL) k9)) (ad (bw (aw k7 eO eC) (ad (aY (cX eC eO)) aa) aa) aa) aa) aa)) aa) aa) aa) (ad (bw (gh (aw d7 dP iw) (aw d7 fJ (aD (ak bt (aD (ak (.c bL) k9) iw)) iw))) (ad (aY (cX eC qy)) aa) aa) (ad (bT eC) aa)))))))
def Q1:Code:=(.fn 4 .nil (ad (av (t1 eN) (aK ao)) (ad (av (tC im (tC (t1 dR) tN)) ej) (ad (av (t1 (.h .e)) (bH 6 (.b eN) be (ab (aD du fJ) (ab eC ao)))) (ad (av (t1 (.i .e)) (gj (ak (.c eN) be) (bf (.h cM) (ab eS ao)) (dS fT))) (ad (bW (aV eS) (t1 (.a bt)) (ad (bw (aw jm (ak (.f bt) eO) (aW q9 (ak (.i .e) eO) fT)) (ad (av (t1 (.b bt)) (aD (ak bt eO) (aW c9 (ak (.f bt) eO) fT))) (ad (bw (aw gT (ae (.b bt)) cN) (ad (aY (cX dP (ab fB (ab (ae (.b bt)) ao)))) aa) aa) aa)) aa) aa) aa) (ad (bT dP) aa)))))))
def Q0:Code:=(.fn 4 .nil (ad (av (t1 eN) bP) (ad (av im bP) (ad (av (t1 dR) bP) (ad (bW (aV ej) (t1 (.h .e)) (ad (bV eC eS fT) aa) aa) (ad (bW (aV ej) (tC (t1 (.i .e)) (tC (t1 (.a bt)) tN)) (ad (av (t1 (.b bt)) (aK ao)) (ad (av (t1 (.c bt)) (aK ao)) (ad (bW (aV (aD du fB)) (t1 (.d bt)) (ad (bw (aw jG (ak .e fh) eO) (ad iB aa) aa) (ad (av (t1 (.f bt)) (ak (.f bt) fh)) (ad (av (t1 (.g bt)) fB) (ad (dB (aw jm (ae (.f bt)) (aW q9 (ak (.i .e) fh) fT)) (ad (av (t1 (.f bt)) (aW c9 (ae (.f bt)) fT)) (ad (av (t1 (.h .e)) (aD (ak bt fh) (ae (.f bt)))) (ad (bw (aw gT (ab fY (ab eS ao)) eC) (ad (av (t1 (.h bt)) (aW c9 (ae (.f bt)) fT)) (ad (dB (aw jm jz (ak (.i .e) fh)) (ad (bw (aw gT (aD (ak bt fh) jz) (ak (.g bL) k9)) (ad mU aa) aa) (ad (bw (aw k7 (aD (ak bt fh) jz) cN) (ad mU aa) aa) (ad (av (t1 (.h bt)) (aW c9 jz fT)) aa))) (ad (aY (cX (ae (.c bt)) (ab fY (ab eS ao)))) aa)) aa)) aa) (ad (av (t1 (.i bt)) (bH 6 (.b eN) be (ab (aD du fY) (ab eS ao)))) (ad (av (t1 (.g bt)) (gj (ak (.c eN) be) (bf (.h cM) (ab (ae (.i bt)) ao)) (dS fT))) aa))))) aa) (ad (bW (aV (aD du fY)) (t1 (.a bL)) (ad (bw (aw jG (ak .e (ae (.a bL))) (ak .e fh)) (ad iB aa) aa) (ad (bw (aw jG (ak (.i .e) (ae (.a bL))) (ak (.i .e) fh)) (ad iB aa) aa) (ad (av (t1 (.b bL)) iw) (ad (dB (aw jm (ae (.b bL)) (ak (.f bt) (ae (.a bL)))) (ad (bw (aw jG (aD (ak bt (ae (.a bL))) (ae (.b bL))) (aD (ak bt fh) (aW c9 (ae (.b bL)) fT))) (ad mU aa) aa) (ad (av (t1 (.b bL)) (aW c9 (ae (.b bL)) fT)) aa)) (ad (aY (cX (ae (.b bt)) (ab fY (ab (ae (.a bL)) ao)))) aa)) aa)))) aa) aa))))) aa) (ad (bW (aV (ae (.c bt))) (t1 (.b bL)) (ad (bw (aw k7 (ae (.b bL)) fJ) (ad (bV fJ (ae (.b bL)) (aK ao)) aa) aa) (ad (aY (cX (aD fJ (ae (.b bL))) (ab fB (ab eO ao)))) aa)) aa) (ad (bV dP (ab fB (ab eO ao)) (ae (.b bt))) aa))))) aa) (ad (bT (ab dP (ab fJ ao))) aa)))))))
def PZ:Code:=(.fn 4 .nil (ad (av (t1 eN) (xA (.g dR) (ab du (ab cN (ab be ao))))) (ad (av im (xA (.h dR) (ab du (ab cN (ab be ao))))) (ad (av (t1 dR) (bf (.f cM) (ab ej (ab fJ (ab dP ao))))) (ad (bT eC) aa)))))
def PY:Code:=(.fn 4 .nil (ad (av (t1 eN) (xA (.i dR) (ab ej ao))) (ad (av im (xA (.a (.h .e)) (ab cN ao))) (ad (av (t1 dR) (bf (.f cM) (ab du (ab fJ (ab dP ao))))) (ad (bT eC) aa)))))
def PV:Code:=(.fn 3 .nil (ad (bW (vo du) (tC (t1 cM) (tC (t1 eN) tN)) (ad (bW (aV dP) (tC im (tC (t1 dR) tN)) (ad (bw (aw k7 fJ (ak (.g bt) eC)) (ad (bV (ak (.g bt) eC) fJ (aK ao)) aa) aa) (ad (av (t1 (.h .e)) (gj ej cN (aK ao))) (ad (bW (aV eS) (t1 (.i .e)) (ad (bw (aw k7 fB (aD (ak (.g bt) eC) fJ)) (ad (aY (cX (aD (ak (.g bt) eC) fJ) fB)) aa) aa) aa) aa) aa))) aa) aa) aa) aa))
def PU:Code:=(.fn 2 .nil (ad (av (t1 bL) (bH 6 (.d eN) be ao)) (ad (av (t1 cM) (bH 6 (.f eN) be (ab du ao))) (ad (av (t1 eN) (bH 6 (.a (.f .e)) be (ab du (ab cN (ab ej ao))))) (ad (av (tC im (tC (t1 dR) tN)) (bH 6 (.i eN) be (ab du (ab cN (ab ej ao))))) (ad (av (t1 (.h .e)) (bH 6 (.b (.f .e)) be (ab cN (ab dP (ab eC ao))))) (ad (aY (bH 6 (.c (.f .e)) be (ab fJ (ab eS ao)))) aa)))))))
def PT:Code:=(.fn 1 .nil (ad (av (t1 bt) (ak (.c bL) k9)) (ad (av (t1 bL) (ak (.b cM) k9)) (ad (av (t1 cM) (ak (.i cM) be)) (ad (av (t1 eN) (ak (.h cM) be)) (ad (av im bP) (ad (av (t1 dR) (bH 6 (.c eN) be ao)) (ad (bw (aw d7 (ak (.g cM) be) (af (.str 19343514090394740940865618))) (ad (aY (bH 6 (.d (.f .e)) be (ab eC ao))) aa) aa) (ad (av (t1 (.h .e)) iw) (ad (bW (aV eC) (t1 (.i .e)) (ad (av (t1 (.a bt)) bP) (ad (av (t1 (.b bt)) bP) (ad (av (t1 (.c bt)) bP) (ad (bW (aV fB) (t1 (.d bt)) (ad (bw (aw d7 (ak (.i .e) fh) (aW c9 (ak (.f bt) fh) fT)) (ad (bw (aw d7 (ak .e fh) (af (.str 4398220574759))) (ad (bV eO qy iw) (ad (bV (ae (.b bt)) qy fh) aa)) (ad (bw (aw d7 (ak (.g cM) be) (af (.str 19343514090394740940865618))) (ad (av (t1 (.f bt)) (aD (ak (.g bt) fh) eS)) aa) (ad (av (t1 (.f bt)) (aD (ak (.a cM) k9) (ak .e fh))) aa)) (ad (bW (aV (ae (.f bt))) (t1 (.g bt)) (ad (av (t1 (.h bt)) (ka eO fY)) (ad (bw (EE jz) (ad (bw (aw su jz iw) (ad (av (tC (t1 (.i bt)) (tC (t1 (.a bL)) tN)) (gj ej fY (ab (af (.str 40567024288966772448377926844532)) (ab iw ao)))) (ad (av (tC (t1 (.b bL)) (tC (t1 (.c bL)) tN)) (ak (.h .e) (aD du (ak bL fh)))) (ad (yJ bL (.i eN) (.b bL)) aa))) (ad (bw (aw jm jz iw) (ad (av (t1 (.d bL)) (aD du (dS jz))) (ad (av (t1 (.f bL)) (aD du (ak bL fh))) (ad (bw (aw su (ak dR (ae (.d bL))) (ak dR (ae (.f bL)))) (ad (bV eO fY (dS (ak bL fh))) (ad (bV (ae (.b bt)) fY fh) (ad fc (ad (md (E0 (.b bL) 1 (.tok 0)) (.b bL) c9 (aD du (ak bL fh)) fT) (ad (md (E0 (.b bL) 1 (.tok 0)) (.b bL) q9 (aD du (ak bL (ae (.d bL)))) fT) aa))))) (ad fc aa)) (ad (aY (cX (ak (.a (.f .e)) be) (ab eS (ab (ae (.g bL)) (ab (ae (.h bL)) ao))))) aa)))) (ad fc aa)) aa)) aa) (ad (bV eO fY (dS (ak bL fh))) (ad (bV (ae (.b bt)) fY fh) (ad (md (E0 (.b bL) 1 (.tok 0)) (.b bL) c9 (aD du (ak bL fh)) fT) aa)))) aa)) aa) aa))) aa) (ad (av (t1 (.i bL)) (ak (.f bt) fh)) (ad (av (t1 (.g bt)) (aD (ak bt fh) (aW c9 (ae (.i bL)) fT))) (ad (bw (aw gT fY (ak (.g bL) k9)) (ad (av (t1 (.a cM)) (bH 6 (.b eN) be (ab fB (ab fY ao)))) (ad (av (t1 (.b cM)) (gj (ak (.c eN) be) (bf (.h cM) (ab (ae (.a cM)) ao)) (dS fT))) (ad (bw (aw JV (ae (.b cM)) iw) (ad (av (t1 (.h bt)) (ka eO fY)) (ad (bw (EE jz) (ad (bw (aw su jz iw) (ad (bw (aw jG jz (ae (.b cM))) (ad fc aa) aa) aa) (ad (bw (aw jm jz iw) (ad (av (tC (t1 (.i bt)) (tC (t1 (.a bL)) tN)) (gj ej fY (ab (af (.str 40567024288966772448377926844532)) (ab iw ao)))) (ad (av (tC (t1 (.b bL)) (tC (t1 (.c bL)) tN)) (ak (.h .e) (aD du (ak bL (aD (ae (.b bt)) fY))))) (ad (yI bL (.i eN) (.b bL) (.b cM)) aa))) (ad fc aa)) aa)) aa) (ad (bV eO fY (ae (.b cM))) (ad (bV (ae (.b bt)) fY fh) aa))) aa)) aa) aa))) aa) aa)))) aa) aa) (ad (av (t1 (.c cM)) bP) (ad (bW (aV fB) (t1 (.d cM)) (ad (bW (aV (ak (.a bt) (ae (.d cM)))) (t1 (.f cM)) (ad (bw (aw gT (ae (.f cM)) (ak (.h bL) k9)) (ad (bV (ae (.c cM)) (ae (.f cM)) (af .none)) aa) aa) aa) aa) aa) aa) (ad (bW (aV (ae (.c cM))) (t1 (.g cM)) (ad (av (t1 (.a cM)) (bH 6 (.b eN) be (ab fB (ab (ae (.g cM)) ao)))) (ad (av (t1 (.b cM)) (gj (ak (.c eN) be) (bf (.h cM) (ab (ae (.a cM)) ao)) (dS fT))) (ad (bw (aw JV (ae (.b cM)) iw) (ad (bV (ae (.c bt)) (ae (.g cM)) (ae (.b cM))) aa) aa) aa))) aa) (ad (bV dP eS eO) (ad (bV fJ eS (ae (.b bt))) (ad (bV cN eS (ae (.c bt))) (ad (uF (.h .e) c9 fT) aa))))))))))) aa) aa))))))))))
def PS:Code:=(.fn 1 .nil NG)
def PR:Code:=(.fn 2 .nil NA)
def PQ:Code:=(.fn 3 .nil NF)
def PP:Code:=(.fn 2 .nil I7)
def PO:Code:=(.fn 4 .nil O5)
def PN:Code:=(.fn 2 .nil (ad (av (t1 (.b .e)) (ab (af (.str 40567024288966772448377926844532)) (ab (af (.nat 0)) ao))) (ad (av (t1 (.c .e)) bP) (ad (av (t1 (.d .e)) bP) (ad (av (t1 (.f .e)) bP) (ad (bW (qf (ae .e)) (tC (t1 (.g .e)) (tC (tC (t1 (.h .e)) (tC (t1 (.i .e)) tN)) tN)) (ad (bw (aw d7 (aD (ae (.h .e)) (af (.nat 0))) (af (.str 2097221))) (ad (av (t1 (.a (.a .e))) (af (.str 2097264))) aa) (ad (bw (aw d7 (aD (ae (.h .e)) (af (.nat 0))) (af (.str 2097257))) (ad (av (t1 (.a (.a .e))) (dQ (aw d7 (dw 1 (.g .e) (ae (.h .e))) (af (.nat 2))) (af (.str 40567043631770662945592260427892)) (af (.str 19343809238502230504505447)))) aa) (ad (av (t1 (.a (.a .e))) (aD (w5 (ab (af (.str 2097249)) (ab (af (.str 2097249)) (ab (af (.str 2097258)) (ab (af (.str 19343873802132876775391333)) ao))))) (aD (ae (.h .e)) (af (.nat 0))))) aa)) aa)) (ad (av (t1 (.b (.a .e))) (aD (w5 (ab (af (.str 2097249)) (ab (af (.str 2097249)) (ab (af (.str 40567043631770662945592260427892)) (ab (af (.str 2097257)) (ab (af (.str 19343809238502230504505447)) (ab (af (.str 2097253)) (ab (af (.str 19343873802132876775391333)) (ab (af (.str 2097253)) (ab (af (.str 2097264)) (ab (af (.str 2097264)) ao))))))))))) (ae (.a (.a .e))))) (ad (bV (ae (.c .e)) (ae (.a (.a .e))) (aW c9 (ae (.g .e)) (af (.nat 1)))) (ad (bV (ae (.d .e)) (ae (.a (.a .e))) (gj (ae (.a .e)) (dQ (cT (ae (.i .e))) (ae (.i .e)) (ae (.b (.a .e)))) (ae (.b .e)))) (ad (bV (ae (.f .e)) (ae (.a (.a .e))) (dw 1 (.g .e) (ae (.h .e)))) aa))))) aa) (ad (av (t1 (.c (.a .e))) (uG (aV (aK (ab (af (.str 2097253)) (ab (af (.str 2097264)) ao)))) (ab (ae (.b .e)) (ab (ae (.a .e)) ao)) (t1 (.b .e)) (ae (.b .e)) (gj (ae (.a .e)) (ae (.b .e)) (ae .e)) iZ)) (ad (bT (ab (ae (.c (.a .e))) (ab (ae (.c .e)) (ab (ae (.d .e)) (ab (ae (.f .e)) ao))))) aa))))))))
def PM:Code:=(.fn 3 .nil Nu)
def PL:Code:=(.fn 1 .nil (ad (av (t1 (.a .e)) (mY (aV (Cv (ae .e) (af (.nat 14)))) ao (t1 .e) (aW dG (ae .e) (af (.nat 720720))) iZ)) (ad (av (t1 (.b .e)) (dQ (cT (ae (.a .e))) (mW (ae (.a .e))) (af (.nat 0)))) (ad (av (t1 (.c .e)) (bf (.g (.f .e)) (ab (ae (.a .e)) ao))) (ad (av (t1 (.d .e)) (bf (.i (.f .e)) (ab (ae (.a .e)) (ab (aW dG (ae (.b .e)) (af (.nat 5))) (ab (aW dG (aW sA (ae (.b .e)) (af (.nat 200))) (af (.nat 4))) ao))))) (ad (av (t1 (.f .e)) (bf (.h (.f .e)) (ab (ae (.b .e)) (ab (ae (.c .e)) ao)))) (ad (av (t1 (.g .e)) (qA 4 (.f (.a .e)) (ab (aK (ab (af (.str 2097249)) (ab (af (.str 2097257)) (ab (af (.str 2097253)) (ab (af (.str 2097258)) (ab (af (.str 2097264)) ao)))))) ao))) (ad (bW (aV (ae (.c .e))) (t1 (.h .e)) (ad (aY (bH 4 (.i (.a .e)) (ae (.g .e)) (ab (ae (.h .e)) (ab (aD (aD (ae (.c .e)) (ae (.h .e))) (af (.nat 0))) (ab (aD (aD (ae (.c .e)) (ae (.h .e))) (af (.nat 1))) ao))))) aa) aa) (ad (bW (aV (ae (.f .e))) (tC (t1 (.i .e)) (tC (t1 (.a (.a .e))) tN)) (ad (aY (bH 4 (.a (.b .e)) (ae (.g .e)) (ab (af (.str 2097221)) (ab (aW c9 (ae (.i .e)) (dQ (cT (ae (.a (.a .e)))) (aK (ab (af (.str 40565534892421570877871177597027)) (ab (ae (.a (.a .e))) ao))) (aK ao))) ao)))) aa) aa) (ad (aY (bH 4 (.b (.b .e)) (ae (.g .e)) (ab (af (.str 2097221)) ao))) (ad (av (t1 (.b (.a .e))) (qA 6 (.i (.c .e)) (ab (ae (.g .e)) (ab (dQ (aw d7 (aW dG (ae (.b .e)) (af (.nat 5))) (af (.nat 2))) (af (.str 19343514090394740940865618)) (af (.str 9223737074874581074))) ao)))) (ad (av (tC (t1 (.c (.a .e))) (tC (t1 (.d (.a .e))) tN)) (bf (.b (.g .e)) (ab (ae (.d .e)) (ab (af (.nat 0)) (ab (af (.str 19343836908622739096469614)) (ab (bf (.c (.g .e)) (ab (ae (.f .e)) (ab (ae (.c .e)) ao))) ao)))))) (ad (bw (aw jm (ae (.d (.a .e))) (dw 1 (.g .e) (ae (.d .e)))) (ad (av (t1 (.c (.a .e))) (af .none)) aa) aa) (ad (av (t1 (.f (.a .e))) (ab (ae (.c (.a .e))) (ab (ae (.d (.a .e))) (ab (dz (iq (ae (.c (.a .e))))) ao)))) (ad (bT (xD (dz (aw d7 (ak (.a (.f .e)) (ae (.b (.a .e)))) (aK ao))) (dz (aw d7 (bf (.d (.g .e)) (ab (ae (.b (.a .e))) (ab (ae (.f .e)) (ab (ae (.d .e)) ao)))) (ae (.f (.a .e))))))) aa)))))))))))))))
def PK:Code:=(.lam 4 (bH 6 (.g (.d .e)) (ae (.c .e)) (ab (ae (.a .e)) (ab (ae .e) (ab (ae (.b .e)) ao)))))
def PJ:Code:=(.lam 4 (bH 6 (.h (.d .e)) (ae (.c .e)) (ab (ae (.a .e)) (ab (ae .e) (ab (ae (.b .e)) ao)))))
def PI:Code:=(.lam 2 (aD (ae (.a .e)) (ae .e)))
def PH:Code:=(.lam 2 (gj (ae (.a .e)) (ae .e) (aK ao)))
def wd:List Code:=[H0,H1,H2,H3,H4,H5,H6,H7,H8,H9,Qw,Qv,Qu,Qt,Qr,Qq,Qp,Qo,Qm,Ql,Qk,Qj,Qi,Qh,Qg,Qf,Qe,Qd,Qc,Qb,Qa,Q9,Q8,Q7,Q6,Q5,Q4,Q3,Q2,Q1,Q0,PZ,PY,PV,PU,PT,PS,PR,PQ,PP,PO,PN,PM,PL,PK,PJ,PI,PH]
noncomputable def Pq:List (Nat×PySem.Str×Gm):=[eG 40566656775646736783236512350316 "_wall" (Gm.fn .e),eG 31830128955554679863709745715470439225751108630352441289328906628795764504133666772877426 "_is_identifier" (Gm.fn (.a .e)),eG 374161367732249658499904483368870335045091880599660 "_literal" (Gm.fn (.b .e)),eG 615689813565166596561110848850682844444521306056856204104955242293557342889287908512265619012220168081575075905644 "rightmost_terminal" (Gm.fn (.d (.a .e))),eG 178414468651677316602949983525149301129871464 "digraph" (Gm.fn (.f (.c .e))),eG 374165114257953434870455154091934702765950145396837 "traverse" (Gm.fn (.g (.c .e))),eG 85074445390225705748098223907794845797 "_place" (Gm.fn (.h (.c .e))),eG 1645579097944721373563352933903279690057147696026834673114022003 "_law_ranks" (Gm.fn (.g (.f .e))),eG 15177788236416049393809349476384551065404597030021079072939748331671387456325812327 "_law_spelling" (Gm.fn (.h (.f .e))),eG 15177788236416049393809349476384551065404596094244935123886581977805938336074825829 "_law_sentence" (Gm.fn (.i (.f .e))),eG 3451029496412968318011132732041130807994820013486972614754960089808997 "_law_decide" (Gm.fn (.a (.g .e))),eG 7237333410461449334053683031265521556247952780924541077933075179508779188324 "_law_descend" (Gm.fn (.b (.g .e))),eG 1645579097944721373563352933903279689825033938660777493077688435 "_law_facts" (Gm.fn (.c (.g .e))),eG 784673260662422835141827074958457799003521657648898375780 "_law_told" (Gm.fn (.d (.g .e))),eG 9223847026081398903 "law" (Gm.fn (.f (.g .e))),eG 1645567328381212392549542854575551378712387362370988390349799534 "Production" (Gm.cls 1 (.c .e)),eG 85073674658080482268389154181357764717 "LRItem" (Gm.cls 2 (.a (.a .e))),eG 178412001604882223055898679327064662814490738 "Grammar" (Gm.cls 4 (.f (.a .e))),eG 139989119357933028743539273104513366906541709248753640851222100774506533342094294676556015204999102565 "LRGeneratedTable" (Gm.cls 6 (.i (.c .e))),eG 85073715222570861887145214377113682004 "MAXINT" (Gm.con (.nat 9223372036854775807)),eG 3451029496385505987068618927855200351566422023157923151483610681311314 "_IDENTIFIER" (Gm.con (.str 384002683604660998209429878071872669071118906336646075594323478937197703518557516696053166144102721374065724704937151738252756636986632014132103882055281591897831961756611252321923336455858100383356214036161399574172234494812376140505080554187723875691178890864322111744267545038504000858552122069234823083284441289171844262683661740448714549670454788344485584735573025406845679150889318939236690043076653)),eG 9223847026089787502 "len" (Gm.bi "len"),eG 40567062974703680620536201740389 "tuple" (Gm.bi "tuple"),eG 19343809238475842235924596 "list" (Gm.bi "list"),eG 9223877812415365236 "set" (Gm.bi "set"),eG 9223798647592845420 "all" (Gm.bi "all"),eG 9223851424144687214 "min" (Gm.bi "min"),eG 40567024288892985502869412118629 "range" (Gm.bi "range"),eG 784675505529294589033297354745241723850302979913623273573 "enumerate" (Gm.bi "enumerate")]
noncomputable def ON:List (Nat×PySem.Str×(Nat×Pa)):=[eM 374161367731143740807411317305772578063481370050655 "__init__" 1 (.c .e),eM 178414043298313017469911396711238708402061407 "__str__" 1 (.d .e),eM 374161367731143741172494516086249184783392625918047 "__repr__" 1 (.f .e),eM 178414043298313017334511566563802095827288159 "__len__" 1 (.g .e),eM 3451029496402768029935992679434642426762394390581500319186318669119583 "__getitem__" 1 (.h .e),eM 19343717004755473677680740 "bind" 1 (.i .e),eM 374161367731143740807411317305772578063481370050655 "__init__" 2 (.a (.a .e)),eM 178414043298313017469911396711238708402061407 "__str__" 2 (.b (.a .e)),eM 374161367731143741172494516086249184783392625918047 "__repr__" 2 (.c (.a .e)),eM 374161367731143740807411317305772578063481370050655 "__init__" 4 (.f (.a .e)),eM 178414043298313017334511566563802095827288159 "__len__" 4 (.g (.a .e)),eM 3451029496402768029935992679434642426762394390581500319186318669119583 "__getitem__" 4 (.h (.a .e)),eM 31830432497540142115018621005938262017301962674457615013658054752531213807559046676349029 "set_precedence" 4 (.i (.a .e)),eM 31830159309719935811076719920069131473914627977598541266578023049243042079654837613494382 "add_production" 4 (.a (.b .e)),eM 784680743549557129249990832248058888582439643375288189044 "set_start" 4 (.b (.b .e)),eM 139990854848131774878883345859871838229145420535099309674807093167733423981120731819169558791597326437 "find_unreachable" 4 (.c (.b .e)),eM 66752936886346595658511129636582420707112659046800630547370315175688105820174296034576091316339 "infinite_cycles" 4 (.d (.b .e)),eM 293584200987498787298323150214122128875723084025659956233786380073300901860278846563800655092566603197317235 "undefined_symbols" 4 (.f (.b .e)),eM 139991856092214006347375413850485251287014188296222742165732631213614354802379988357205190292008861811 "unused_terminals" 4 (.g (.b .e)),eM 7237409329674555055062740067554412260407458988100956890708474537855269470323 "unused_rules" 4 (.h (.b .e)),eM 293584200987498787839411043907372845707064379013796977632346700804270747066326688097230651542776201523232869 "unused_precedence" 4 (.i (.b .e)),eM 85074445390032277589289841896101773428 "_first" 4 (.a (.c .e)),eM 15177817184448711362124440410210640591088790391115198616121798675411628045941866612 "compute_first" 4 (.b (.c .e)),eM 31830189664000983930501994455154065336883038946308021008197062451793669922544470756163703 "compute_follow" 4 (.c (.c .e)),eM 15177809947463839262320576760544329494848933302616142435834202286939816519513669747 "build_lritems" 4 (.d (.c .e)),eM 374161367731143740807411317305772578063481370050655 "__init__" 6 (.i (.c .e)),eM 3451050887976921301658139936791796854483564507964508884563726685962341 "lr0_closure" 6 (.a (.d .e)),eM 374163687010260726922897509763418380271326416863343 "lr0_goto" 6 (.b (.d .e)),eM 784678124540942303987808358395411068695117200124956115059 "lr0_items" 6 (.c (.d .e)),eM 2124652264787807827778747362067011185175829787508557236669706815013029817363001890753350061131395406164003088856109239066388730755709114012276919254766327882934367618941222976097353843 "compute_nullable_nonterminals" 6 (.d (.d .e)),eM 1013114597311440814197226534844291990643173690078186578537001169886298740355893798211630833706507467750193365243964998200696826895228897745777006456905012504447896733915696595059 "find_nonterminal_transitions" 6 (.f (.d .e)),eM 3451037723940462749594593787117200625344438265181435867921990203474030 "dr_relation" 6 (.g (.d .e)),eM 31830417320439421535943672380656899490002562974454953322828235364750710829634809503940718 "reads_relation" 6 (.h (.d .e)),eM 109841947615584776939143047579104821842112700087703241742517260003744192478998712626626928479770304468307303707547880005993311116646129951574041602041692815475 "compute_lookback_includes" 6 (.i (.d .e)),eM 293581681274730587149917152651884920455939776782895298230820951115201933991307669835477282198113005919535219 "compute_read_sets" 6 (.a (.f .e)),eM 1291185889054375386132246548223268255860554496233549207628041620892447616084433300263058627004314984758467546037534851187 "compute_follow_sets" 6 (.b (.f .e)),eM 31830159309719935811076719920065992921924501379747085424016804619387806849996561705861235 "add_lookaheads" 6 (.c (.f .e)),eM 1291184657738452501493599591596502930657458293767490581825169111119900493369505646959676428722945489532216472679548452979 "add_lalr_lookaheads" 6 (.d (.f .e)),eM 31830326257929179520497065838911669158115247144783162707742109091985911630067163750989925 "lr_parse_table" 6 (.f (.f .e))]
noncomputable def Pw:List (Nat×PySem.Str×(Nat×KV)):=[eD 178415659639799280552714480301506440556707940 "reduced" 1 (.tok 0),eD 784678124540942303987808358395256326042632570602854023268 "lr0_added" 1 (.nat 0)]
noncomputable def OG:List (Nat×PySem.Str×Pa):=[eP 19343827685184731560804453 "name" .e,eP 19343846132003572065239140 "prod" (.a .e),eP 85075053862610529373003489094215401586 "number" (.b .e),eP 19343753898296397654917219 "func" (.c .e),eP 374162081355160235092506734616698997934855714504805 "callable" (.d .e),eP 19343753898243621092589669 "file" (.f .e),eP 19343809238475842225438821 "line" (.g .e),eP 19343846132003572044267619 "prec" (.h .e),eP 9223847026089787502 "len" (.i .e),eP 40567082317498347750111708184691 "usyms" (.a (.a .e)),eP 374163687010260728829444205934926442255534623031411 "lr_items" (.b (.a .e)),eP 178415149216776241698000098537852125610770548 "lr_next" (.c (.a .e)),eP 9223877812446822514 "str" (.d (.a .e)),eP 374163687010260728829444205934871102018915431088248 "lr_index" (.f (.a .e)),eP 1645589298236163812674746741890682990948196536563107970580217971 "lookaheads" (.g (.a .e)),eP 374163687010260728829444051192292404440454974668914 "lr_after" (.h (.a .e)),eP 784678124540942307986126291410818264918208880329067855973 "lr_before" (.i (.a .e)),eP 784678124540942303987808358395256326042632570602854023268 "lr0_added" (.a (.b .e)),eP 178415659639799280552714480301506440556707940 "reduced" (.b (.b .e)),eP 3451004813849316331460058896558826724969440581771043044798862792327283 "Productions" (.c (.b .e)),eP 784667648497205921435138156211503708333611749741441319027 "Prodnames" (.d (.b .e)),eP 178412767240207795438240772503259987734167664 "Prodmap" (.f (.b .e)),eP 784669145072563271034291352252032694489001647812684808307 "Terminals" (.g (.b .e)),eP 7237274745622438138133742651538326317139513708948170804301169303805541482611 "Nonterminals" (.h (.b .e)),eP 40566173205189763797817468387444 "First" (.i (.b .e)),eP 85073431269726180351463240856972034167 "Follow" (.a (.c .e)),eP 1645567328381212390765483153621860760066939856025176804069212261 "Precedence" (.b (.c .e)),eP 31829977184619844736087186554617924660268815364439202140716573809269226220276654620541029 "UsedPrecedence" (.c (.c .e)),eP 40566424661861700658324417020020 "Start" (.d (.c .e)),eP 178414723863817590563606386323924116960182386 "grammar" (.f (.c .e)),eP 784678124540942307986126737623829545384085384898231140452 "lr_method" (.g (.c .e)),eP 784678124540942307986126250845960372117767546428656189550 "lr_action" (.h (.c .e)),eP 178415149216776241698000033974291848084062319 "lr_goto" (.i (.c .e)),eP 31830326257929179520497065838925007998180507907848117625041161477990971707342287443853427 "lr_productions" (.a (.d .e)),eP 15177882317509259948967481150332278345130006106417797966399384150705165775583314021 "lr_goto_cache" (.b (.d .e)),eP 3451050887976921301658139936791796854361869837571553152664942099300456 "lr0_cidhash" (.c (.d .e)),eP 1645579097940605785487845379709110194217232362977387242686775412 "_add_count" (.d (.d .e)),eP 3451062406508822567685223435566365867925668103220484554224967253753972 "sr_conflict" (.f (.d .e)),eP 3451060761004265246479181280597183310575163120484618920645103905144948 "rr_conflict" (.g (.d .e)),eP 784674757240634680977097053378498296284073103633063870579 "conflicts" (.h (.d .e)),eP 7237402427934790265466201698344875312652050714005045623861998526144649887859 "sr_conflicts" (.i (.d .e)),eP 7237398977061616870184307980966944174139324488450559538668720944882537988211 "rr_conflicts" (.a (.f .e))]
noncomputable def OK:List (Nat×PySem.Str×Unit):=[eU 2097219 "C",eU 374164043822439117621947882077223864027827081838693 "nullable",eU 19343873802062508018630758 "self",eU 2097219 "C",eU 374164043822439117621947882077223864027827081838693 "nullable",eU 19343873802062508018630758 "self",eU 374164757444924340687991491343679451056151851958387 "readsets",eU 374163151792035681889827205471868005609168267378803 "inclsets"]
noncomputable def Pj:List (Int×Pa):=[(524,(.g (.g .e))),(525,(.h (.g .e))),(530,(.i (.g .e))),(531,(.a (.h .e)))]
def Np:Y:=(av (t1 (.b .e)) (dQ (cT (ae (.a .e))) (mW (ae (.a .e))) (af (.nat 0))))
def No:Y:=(av (t1 (.c .e)) (bf (.g (.f .e)) (ab (ae (.a .e)) ao)))
def Nn:Y:=(av (t1 (.d .e)) (bf (.i (.f .e)) (ab (ae (.a .e)) (ab (aW dG (ae (.b .e)) (af (.nat 5))) (ab (aW dG (aW sA (ae (.b .e)) (af (.nat 200))) (af (.nat 4))) ao)))))
def Nm:Y:=(av (t1 (.f .e)) (bf (.h (.f .e)) (ab (ae (.b .e)) (ab (ae (.c .e)) ao))))
def IF:Y:=(av (t1 (.g .e)) (qA 4 (.f (.a .e)) (ab (aK (ab (af (.str 2097249)) (ab (af (.str 2097257)) (ab (af (.str 2097253)) (ab (af (.str 2097258)) (ab (af (.str 2097264)) ao)))))) ao)))
def Nl:Y:=(bW (aV (ae (.c .e))) (t1 (.h .e)) (ad (aY (bH 4 (.i (.a .e)) (ae (.g .e)) (ab (ae (.h .e)) (ab (aD (aD (ae (.c .e)) (ae (.h .e))) (af (.nat 0))) (ab (aD (aD (ae (.c .e)) (ae (.h .e))) (af (.nat 1))) ao))))) aa) aa)
def Oh:Y:=(bW (aV (ae (.f .e))) (tC (t1 (.i .e)) (tC (t1 (.a (.a .e))) tN)) (ad (aY (bH 4 (.a (.b .e)) (ae (.g .e)) (ab (af (.str 2097221)) (ab (aW c9 (ae (.i .e)) (dQ (cT (ae (.a (.a .e)))) (aK (ab (af (.str 40565534892421570877871177597027)) (ab (ae (.a (.a .e))) ao))) (aK ao))) ao)))) aa) aa)
def Og:Y:=(aY (bH 4 (.b (.b .e)) (ae (.g .e)) (ab (af (.str 2097221)) ao)))
def C6:Y:=(bw (aw jm (ae (.d (.a .e))) (dw 1 (.g .e) (ae (.d .e)))) (ad (av (t1 (.c (.a .e))) (af .none)) aa) aa)
def C5:Y:=(av (t1 (.f (.a .e))) (ab (ae (.c (.a .e))) (ab (ae (.d (.a .e))) (ab (dz (iq (ae (.c (.a .e))))) ao))))
def EY:Y:=(bT (xD (dz (aw d7 (ak (.a (.f .e)) (ae (.b (.a .e)))) (aK ao))) (dz (aw d7 (bf (.d (.g .e)) (ab (ae (.b (.a .e))) (ab (ae (.f .e)) (ab (ae (.d .e)) ao)))) (ae (.f (.a .e)))))))
noncomputable def KY:Qz:=.Subscript (.Name "script" ⟨810,34,810,40⟩) (.Slice none (some (.Constant (.int (.ofNat 14)) 0 ⟨810,42,810,44⟩)) none ⟨810,41,810,44⟩) ⟨810,34,810,45⟩
noncomputable def Nq:PySem.Pos×PySem.Pos×PySem.Pos:=(⟨810,4,810,10⟩,⟨810,13,810,46⟩,⟨810,4,810,46⟩)
end
end
section
open PySem PySem.W PyProof.Rows
section
noncomputable def pb:=PySem.Challenge.pw_rq0001_03
noncomputable def JZ:U6->Bool
 |.FunctionDef n _ _ _ _ _ _ _ _ _=>n==("law":Str)
 |_=>false
noncomputable def q2:Tj:=view pb [(pb.main.body.findIdx JZ)]
noncomputable def nW:List Str:=pb.boundNames.filter λn=>!(n==("law":Str))
noncomputable def NR(c:Option Str):U6->Option (Option Str×Str)
 |.FunctionDef n _ _ _ _ _ _ _ _ _=>some (c,n)
 |_=>none
noncomputable def JD(body:List U6):List (Option Str×Str):=body.flatMap λ
 |.ClassDef c _ _ b _ _ _ _ _ _ _=>b.filterMap (NR (some c))
 |s=>(NR none s).toList
noncomputable def uv:List U6:=pb.main.body
noncomputable def wL(k:Nat)(o:Ov):Ov:=@SX (λzz=>Ov) (.n o .k) (λzz r=>.n .k r) k
noncomputable def GQ:Ov:=wL 8 (.s (wL 3 (.s (wL 0 (.s (wL 0 (.s .k (wL 1 (.s (wL 1 (.s (wL 0 (.s (wL 2 .d1) .k)) .k)) .k)))) (wL 2 (.s (wL 2 (.s (wL 1 (.s (wL 0 (.s .k (wL 0 (.s (wL 2 .d2) .k)))) .k)) .k)) .k)))) .k)) .k)
noncomputable def Mc(n:Option Str×Str):Ov:=bif n.2==("lr_parse_table":Str)then GQ else .k
noncomputable def cF:Tx:=⟨Pq,ON,Pw,(1,(.g .e)),OG,OK,Pj,JD uv,xp uv,Hp uv,Mc⟩
end
theorem b1:∀w:U5,absHeap (j5 w default).tree (j5 w default).n (j5 w default).life=Sf w.params:=by intro w;kernel_rfl
theorem b2:∀w:U5,(Sf w.params).isNs Rh=true:=by intro w;kernel_rfl
theorem b3:opening pb=plainProg pb.main.scope.names:=by kernel_rfl
theorem b4:∀s,fenceModules? pb s=some s:=by intro s;kernel_rfl
theorem PB:∀w:U5,(λos=>(v6 treeTable pb w (Sf w.params).objs.size ((Sf w.params).nsMap Rh "__annotations__") 7020 (j5 w os) (topStub pb)).map λs=>(xj pb (Sf w.params) s.abs,openSeen q2 nW (importedModules pb.main.body) (λzz=>true) true s.abs,cF.chkA s.abs.heap))=λos=>some (true,openGood q2 nW,true):=by intro w;kernel_rfl
theorem PA:∀w:U5,(λos=>(v6 treeTable pb w (Sf w.params).objs.size ((Sf w.params).nsMap Rh "__annotations__") 7020 (j5 w os) (topStub pb)).map λs=>(cF.chkB s.abs.heap,cF.views s.abs.heap))=λos=>some (true,cF.due):=by intro w;kernel_rfl
theorem GW{α β γ δ:Type}{o:Option α}{f:α->β}{g:α->γ}{k:α->δ}{b:β}{c:γ}{d:δ}(h1:o.map f=some b)(h2:o.map g=some c)(e:∀s,f s=b->g s=c->k s=d):o.map k=some d:=by
 cases o with
 |none=>exact cO h1
 |some s=>exact congrArg some (e s (QN h1) (QN h2))
theorem bK(w:U5):(λos=>(v6 treeTable pb w (Sf w.params).objs.size ((Sf w.params).nsMap Rh "__annotations__") 7020 (j5 w os) (topStub pb)).map λs=>(xj pb (Sf w.params) s.abs,openSeen q2 nW (importedModules pb.main.body) (λzz=>true) true s.abs,(cF.chk s.abs.heap,cF.views s.abs.heap)))=λos=>some (true,openGood q2 nW,(true,cF.due)):=
 funext λos=>GW (congrFun (PB w) os) (congrFun (PA w) os) λs h1 h2=>Prod.ext (congrArg (·.1) h1) (Prod.ext (congrArg (·.2.1) h1) (Prod.ext (Rb.mpr ⟨congrArg (·.2.2) h1,congrArg (·.1) h2⟩) (congrArg (·.2) h2)))
theorem JQ:LeftO pb q2 nW (λzz=>true) (λs=>(cF.chk s.heap,cF.views s.heap)) (λzz=>(true,cF.due)) 7020:=DP b3 rfl b4 b1 b2 bK
section
variable{C:Cx}{P:Pt C}{Q:QD->QE->Prop}{E:QD->QE->Prop}{A:RR}{fr:List Rd}{vs:List QD}{cl:Cl}{d:Nat}
theorem B3{P₀:Pg}(O:C.Ok P₀){a:Ri}{np:Nat}{ds:KV}{y:Y}{ob:Obj}{fd:UR}{bd:List U6}{dv:List QD}{ns rest:List Str}(H:yw C a np ds y ob fd bd dv ns rest)(hc:IX C cl d)(hl:vs.length=ns.length)(rm:Rm C P.R A fr (d+1))
  (body:∀(F:dO C ⟨λs=>fd.scope.names.lookup s,ns++rest,true,true⟩)(P1:Pt C)(E:QD->QE->Prop),F.cl=cl->P1.m=P.m->bv P.R.h P1.R.h->ER F P1.R .nil->(∃m,P1.R.h.Ns F.menv.locals m∧∀n v,(n,v)∈ns.zip vs->fd.scope.names.lookup n=some .local->m n=some v)->
   QQ (R6 C.prog C.w) F.A (execs bd F.menv) (λfl s=>match fl with|.ret v=>Q v s|.next=>Q .none s|_=>False) E P1.s):codeAny (R6 C.prog C.w) A (.call (.ref a) ⟨vs,[]⟩) (jM Q E) P.s:=by
 refine ar rm ?_;clear rm;intro zq0 rf;refine iU zq0 ?_;clear zq0;intro r1 r2 r3 r4 r5;have e4:=H.dlen;refine codeAny_call_function (by lia) (P.good.keep _ _ H.obj) H.data H.co H.gen H.body (H.code.keeps P.good.keep) ?_;have hdef:qw P.R.h fd dv:=H.defs.imp id λ⟨b,items,d1,⟨o,d2,d3⟩,d4⟩=>⟨b,items,d1,⟨o,P.good.keep _ _ d2,d3⟩,d4⟩
 refine rZ (s:=P.s) H.pars hdef (by simp_all+arith) (by assumption) (by simp_all+arith) ?_;rw[H.clo,show dv.length-(ns.length-vs.length)=dv.length by simp_all+arith,List.drop_length,RO];have hnd:=kW (ws:=vs) H.pars.nodup;refine wpAny_newFunctionEnv_cells H.kind (λx hx=>?_) λmenv hm s' X=>?_
 ·rcases H.kinds x.1 (UI (a:=x.1) (b:=x.2) hx).1 with q|q
  ·exact .inl q
  ·exact .inr ⟨q,dh (.inl (QV q))⟩
 refine fI X.toInCall.same ?_;rintro h1 t1 rfl;have keep:bv P.R.h h1:=X.toInCall.keep;have hloc:menv.locals=P.R.h.objs.size:=by refine rwr hm ?_;rfl
 have hscope:menv.scope=fd.scope:=by refine rwr hm ?_;rfl
 have hmc:menv.cells=cellsFrom (P.R.h.objs.size+1) fd.scope.names []:=by refine rwr hm ?_;rfl
 have deadL:P.R.h.get? menv.locals=none:=by refine rwr hloc ?_;exact bg _
 have deadC:∀nm ca,(nm,ca)∈menv.cells->P.R.h.get? ca=none:=λnm ca hc=>by
  have:=X.above nm ca hc;rw[hloc]at this;exact S7 (Sh this)
 have hkind:∀nm,menv.kindOf nm=fd.scope.names.lookup nm:=λnm=>by unfold Env.kindOf;exact rwr hscope rfl
 have room:EV C (A.deeper menv) (menv::fr) d:=⟨by show A.depth+1+_+_<_;lia,by show A.units+3+_+_<_;lia,by show A.frames.map _=_;refine rwr r4 ?_;rfl,r5⟩
 have cdom:∀nm,fd.scope.names.lookup nm=some .cell->(menv.cells.lookup nm).isSome=true:=λnm hk=>by refine rwr hmc ?_;exact dh (.inl (QV hk))
 have G:=P.good.dead deadL;have mk:∃F:dO C ⟨λs=>fd.scope.names.lookup s,ns++rest,true,true⟩,F.menv=menv∧F.A=A.deeper menv∧F.cl=cl∧F.fr=menv::fr:=⟨{
  menv:=menv,A:=A.deeper menv,cl:=cl,d:=d,fr:=menv::fr,kind:=by refine rwr hscope ?_;exact H.kind,kof:=hkind,glob:=by refine rwr hm ?_;exact H.glob,bi:=by refine rwr hm ?_;exact H.bi
  lold:=G.1,lvol:=G.2.2.2
  cell:=λnm ca hc=>let m:=QV hc;let z:=P.good.dead (deadC nm ca m);⟨z.1,z.2.2.2,SR (X.above nm ca m)⟩
  inj:=λnm nm' ca hc hc'=>name_of_addr X.apart (QV hc) (QV hc')
  cdom:=λnm h=>h.elim (cdom nm) λz=>absurd rfl (H.nofree _ (QV z)),room:=room,handled:=λZ=>r3,top:=λZ=>⟨fr,rfl⟩,call:=hc
  lam:=λhl=>by
   refine d9 (H.lam hl) ?_;intro c P c1 c2 c3 c4;exact⟨c,P,by refine rwr hm ?_;exact c1,c2,c3,by refine rwr hm ?_;exact c4⟩},rfl,rfl,rfl,rfl⟩
 refine cZ mk ?_;clear mk;intro F f1 f2 f3 f4;subst f1;have er:ER F ⟨P.R.ρ,h1,P.R.fz⟩ .nil:=by
  refine⟨⟨_,X.toInCall.ns,λnm q x hs hx=>by rw[fj]at hx;exact cO hx⟩,G.2.1,λnm ca hc=>?_,?_⟩
  ·have dead:=deadC nm ca (QV hc);refine ah (X.cell nm ca hc) ?_;intro oc hoc hdc;have z:=P.good.dead dead;exact⟨z.2.1,⟨oc,_,hoc,hdc⟩,λZ=>z.2.2.1⟩
  ·refine rwr f4 ?_;exact kR.push ⟨_,P.good⟩ keep rf F.kind (by refine rwr hm ?_;rfl) deadL X.toInCall.ns
 refine⟨O.nolimit.keeps (λb o e=>keep b o (P.good.keep b o e)),codeAny_func ?_⟩;refine rwl f2 ?_;refine Sq (body F (P.more keep t1) _ f3 rfl keep er ⟨_,X.toInCall.ns,λn v hz hk=>?_⟩) (λfl s q=>?_) λZ Z e=>e
 ·have hn:=(oK (kd:=F.menv.kindOf) (m:=λZ=>none) (m':=λZ=>none)).2 hnd hz;exact hn.1 ((hkind n).trans hk)
 ·cases fl with
  |ret v=>exact q
  |next=>exact q
  |brk=>exact q.elim
  |cont=>exact q.elim
end
section
variable{C:Cx}{Γ:cW}{P:Pt C}{E:QD->QE->Prop}
def HE(xs:KV):XI:=λc e k s=>k (.list s.n 0) (aR s (.list (len xs) xs))
theorem GF{P₀:Pg}(O:C.Ok P₀)(F:dO C Γ){en:En}{sm:Str}{k n0:Nat}{p3 p4 p5 p8:Pos}{sa:Ri}{items:Array QD}{xs:KV}(ks:Γ.kd sm=some .local)(hds:(sm==("__debug__":Str))=false)(hm:∃m,P.R.h.Ns F.menv.locals m∧m sm=some (.ref sa))(hL:P.R.h.IsList sa items)(hsz:items.size≤100000)(rs:bG C P.R xs (items.toList.take k)):
  Nr F P en (.Subscript (.Name sm p3) (.Slice none (some (.Constant (.int (.ofNat k)) n0 p8)) none p4) p5) (HE xs):=λkk Q E h K=>by
 have hlen:=rs.len_eq;have hlen2:(items.toList.take k).length≤100000:=by rw[S3,QL];lia
 refine ah hm ?_;clear hm;intro m ns hv;refine U9 (wpAny_Name (wpAny_loadName_local (s:=P.s) F.kind ((F.kof sm).trans ks) ns hv (wpAny_Slice ?_)) hds);simp only[UN,evalPart_some];refine QC (wpAny_mkInt (QC ?_));have kp:=aX P.R.h {cls:=.type "slice",data:=.fields #[.none,.int (SO k) P.t,.none]};have hsl:(P.R.h.push {cls:=.type "slice",data:=.fields #[.none,.int (SO k) P.t,.none]}).IsSliceOf P.R.h.objs.size .none (.int (SO k) P.t) .none:=Uy ..;show QQ _ _ (PyProof.Rows.subscriptTail _ _ (.ref sa) (.ref P.R.h.objs.size)) _ _ ⟨P.R.h.push {cls:=.type "slice",data:=.fields #[.none,.int (SO k) P.t,.none]},C.g,C.d,P.t+1,C.os⟩;have hle:P.R.h.objs.size≤(P.R.h.push {cls:=.type "slice",data:=.fields #[.none,.int (SO k) P.t,.none]}).objs.size:=by rw[TZ];exact RA _
 generalize P.R.h.push {cls:=.type "slice",data:=.fields #[.none,.int (SO k) P.t,.none]}=h1 at*;have hL1:h1.IsList sa items:=by refine ah hL ?_;clear hL;intro o e r;exact⟨o,kp _ _ e,r⟩
 have hT:Uw ⟨h1,C.g,C.d,P.t+1,C.os⟩ (.ref sa) "list":=by refine b8 hL1 ?_;clear hL1;intro o e hc r;exact⟨o,e,hc⟩
 unfold PyProof.Rows.subscriptTail;refine rwr (getitemInPython_of_ne hT.not_modules) ?_;refine Qy (Qy (Sd hT U7.lookup (QC (Qy ?_))));show QQ _ _ (operate [.ref P.R.h.objs.size,.ref sa] (getItem (.ref sa) (.ref P.R.h.objs.size))) _ _ _;refine wpAny_operating (wpAny_getItem_list_slice (s:=⟨h1,C.g,C.d,P.t+1,C.os⟩) (lo:=none) (hi:=some (SO k)) (st:=none) hL1 hsl (IW.part (o:=none) rfl) (IW.part (o:=some k) ⟨_,rfl⟩) .none (by decide) ?_ (QG hsz cL));have hp:=wI (items:=items) none (some k);simp only[Option.map_none,Option.map_some]at hp;refine rwr hp ?_;have hcut:(items.toList.take (Cq items.size items.size (some k))).drop (Cq 0 items.size none)=items.toList.take k:=by
  show(items.toList.take (min k items.size)).drop 0=_;refine rwr List.drop_zero ?_;rcases UU k items.size with z|z
  ·exact rwr (Sy z) rfl
  ·exact rwr (T4 z) (rwr (S0 (by simp)) (rwr (S0 (by simpa using z)) rfl))
 refine rwr hcut ?_;generalize hh2:h1.push {cls:=.type "list",data:=.seq (items.toList.take k).toArray}=h2;have k2:bv P.R.h h2:=λb o e=>by refine rwl hh2 ?_;exact aX _ _ b o (kp b o e)
 have g2:h2.get? h1.objs.size=some {cls:=.type "list",data:=.seq (items.toList.take k).toArray}:=by refine rwl hh2 ?_;exact QS _ rfl
 have d3:P.R.h.get? h1.objs.size=none:=S7 hle;refine b0 (P.good.new0 (h':=h2) (o:=.list (len xs) xs) (a:=h1.objs.size) (b:=h1.objs.size) k2 d3 d3 (λL=>⟨rfl,_,_,g2,by refine rwr List.toList_toArray ?_;exact rs.later L,by refine rwr Te ?_;exact hlen,by refine rwr hlen ?_;exact hlen2⟩)) ?_;intro G L rr;have K:yv C _ kk false Q:=yv.later (P:=P) (P1:=⟨_,_,P.t+1,G⟩) K (L C.vol);refine Qy (SP (QC ?_));refine wpAny_pyIter_list (s:=⟨h2,C.g,C.d,P.t+1,C.os⟩) ⟨_,g2,rfl,_,rfl⟩ (fw (P:=⟨_,_,P.t+1,G⟩) K (λZ Z e=>e) (QZ _) (by simp) (.inr rfl) (λL hg=>.list (L.ref _ _ Wd.add_self) ⟨_,hg,rfl,rfl⟩) h _)
end
inductive ml:List QD->List Int->Prop
 |nil:ml [] []
 |cons {i:Int} {t:Tok} {vs:List QD} {xs:List Int}:ml vs xs->ml (.int i t::vs) (i::xs)
theorem yd{R:WRecords}{cl:Str->Option Ri}{h:SG}{xs:List WData}:∀{vs:List QD}{as:List Ri},WShape.hasItems R xs .int=true->ReadsAllW R cl h vs xs as->∃ns,ml vs ns∧xs.length=ns.length∧as=[]:=by
 induction xs with
 |nil=>intro vs as _ h;cases h;exact⟨[],.nil,rfl,rfl⟩
 |cons x r ih=>
  intro vs as e h;refine jB e ?_;intro e1 e2;refine az (hasW_int e1) ?_;clear e1;rintro i rfl;cases h with
  |cons h1 h2=>
   refine b8 (ih e2 h2) ?_;clear ih e2 h2;rintro ns g1 g2 rfl;cases h1;exact⟨i::ns,.cons g1,congrArg QR g2,rfl⟩
theorem ml.length{vs:List QD}{ns:List Int}(h:ml vs ns):vs.length=ns.length:=by
 induction h with
 |nil=>rfl
 |cons _ ih=>simp[ih]
@[elab_as_elim] theorem reads_lst {R:WRecords} {cl:Str->Option Ri} {h:SG} {xs:List WData} {P:List QD->List Ri->Prop} {vals:List QD} {as:List Ri} (H:ReadsAllW R cl h vals [.list xs] as) (p:WShape.hasItems R xs .int=true) (k:∀a ob its n ns,h.get? a=some ob->ob.cls=.type "list"->ob.data=.seq its n->ml its.toList ns->xs.length=ns.length->P [.ref a] [a]):P vals as:=by
 cases H with
 |cons hv hr=>
  cases hr;cases hv with
  |list e1 e2 e3 e4=>exact b8 (yd p e4) (λns i1 i2 z=>by subst z;exact k _ _ _ _ ns e1 e2 e3 i1 i2)
@[elab_as_elim] theorem args_lst {R:WRecords} {P:List WData->Prop} {args:List WData} (h:WShape.hasAll R args [.list .int]=true) (k:∀xs,WShape.hasItems R xs .int=true->P [.list xs]):P args:=by
 refine aH (hasAllW_cons h) ?_;clear h;rintro da r rfl p3 p4;cases hasAllW_nil p4;refine ah (hasW_list p3) ?_;clear p3 p4;rintro xs rfl p5;exact k xs p5
theorem Mb{l:OpenLaw}{q:Tj}{loose:List Str}{N:Nat}{X:Tx}{d:DefRec}{kwd:List (Str×Qz)}(said:l.wellSaid=true)(most:l.most=some 63)(bound:l.bound=none)
  (left:LeftO l.prog q loose (λZ=>true) (λs=>(X.chk s.heap,X.views s.heap)) (λZ=>(true,X.due)) N)
  (hdef:defOf q l.name=some (d,kwd)) (hp:l.prog.theDef l.name=some (d.params,d.body,d.scope)) (hk:kwWritten? d.params.kwonlyargs d.params.kw_defaults=some kwd) (hwr:(!l.writes||true)=true)
  (ok:(chainsOk q&&opensWell l.prog&&(PySem.W.frees l.row.toRowW&&l.row.within.isEmpty))=true) (hb:l.prog.bare) (hw:l.row.toRowW.promised) {qn:Pa} {n0:Nat} (hgl:(n0,l.name,Gm.fn qn)∈X.gl)
  (run:∀(w:U5)(h:SG)(s:QE)(sa:Ri)(items:Array QD)(ns:List Int),Tx.Ck X h->X.views h=X.due->bv h s.heap->s.heap.IsList sa items->ml items.toList ns->ns.length≤63->s.gens=#[]->
   codeAny (R6 l.prog w) callerA (.call (.ref (gy h l.name)) ⟨[.ref sa],[]⟩) (jM (λv s'=>v=.bool true∧OldK s.heap s'.heap∧s'.os=s.os∧s'.gens=#[]) λZ Z=>False) s):l.Holds:=by
 refine holds_law said λsaid'=>holds_open (r:=l.row) (XP:=λZ Z=>True) (YP:=λw h=>∃h1,X.chk h1=true∧X.views h1=X.due∧bv h1 h) left (λw s e=>⟨s.heap,congrArg Prod.fst e,congrArg Prod.snd e,λZ Z z=>z⟩) (λw h h' ⟨h1,a,b,c⟩ k=>⟨h1,a,b,λx o e=>k _ _ (c x o e)⟩)
  (λZ Z=>trivial) (λZ Z Z Z Z=>trivial) hdef hp hk (λs Z=>⟨(by(repeat intro);contradiction),(by(repeat intro);contradiction),(by(repeat intro);contradiction),(by(repeat intro);contradiction)⟩) hwr said' ok hb hw ?_
 intro w s₀ s₁ mg mb G Y a o pm cd doc dV kV ho hd hcr hdf hmg hgens args vals as hpre hlay hreads hwell hlo;refine b8 Y ?_;intro h1 c1 c2 c3;have ck:=Tx.Ck.of c1;refine ar (pre_splitW hpre) ?_;intro p1 p2;clear hpre hlay hwell;revert p2 hreads;refine args_lst p1 ?_;clear p1;intro xs p5 hreads p2;refine reads_lst hreads p5 ?_;clear hreads p5;intro sa ob its n ns e1 e2 e3 i1 i2;have hlen:ns.length≤63:=by
  refine rwl i2 ?_;have p2:(OpenLaw.pre l).holds [] {args:=[.list xs]}=true:=p2;unfold OpenLaw.pre at p2;rw[most,bound]at p2;by_cases z:xs.length≤63
  ·exact z
  ·have hz:(63:Int)<(xs.length:Int):=by lia
   have:WTm.holds [] (.and (.not (.lt (.lit (.int 63)) (.len (.arg 0)))) (.lit (.bool true))) {args:=[.list xs]}=false:=by
    simp[WTm.holds,WTm.value,less?,Num.less?,hz]
   exact absurd (p2.symm.trans this) (by decide)
 have ha:gy h1 l.name=a:=by
  have z:=ck.gl _ hgl;have z:h1.nsMap Rh l.name=some (.ref (gy h1 l.name)):=Tx.o1_ok Tx.vR_ok (Rb.mp z).2;have tp:=(Rb.mp (Rb.mp (Rb.mp (Rb.mp (Rb.mp ck.top).1).1).1).1).1;refine fN (Tx.nsUp c3 (Heap.Ns.of_isNs tp)) ?_;rintro ob1 es1 ep1 u1 u2-u3;refine fN G.T.g ?_;rintro ob2 es2 ep2 v1 v2-v3;cases u1.symm.trans v1;cases u2.symm.trans v2;have hn:d.name=l.name:=defOf_name hdef;have e:=(v3 l.name).symm.trans (u3 l.name);rw[z,←hn,hmg]at e;refine rwl hn ?_;exact(Value.ref.inj (QN e)).symm
 have key:=run w h1 s₁ sa its ns ck c2 c3 ⟨ob,e1,e2,n,e3⟩ i1 hlen hgens;rw[ha]at key;refine wpAny_call (codeAny_mono key λr s' h=>?_);cases r with
 |error e=>exact h.elim
 |ok f=>
  cases f with
  |ret v=>
   refine lW h ?_;clear h;rintro rfl h2 h3 h4;exact⟨.inl ⟨.bool true,.bool true,[],rfl,λZ=>rfl,.bool true,(by show WTm.holds [] (.eq .res (.lit (.bool true))) {args:=[.list xs],after:=[.list xs],res:=some (.bool true)}=true;simp[WTm.holds,WTm.value,same]),λZ=>⟨U0,(by(repeat intro);contradiction)⟩⟩,h2,h3,.of_eq h4⟩
  |_=>exact h.elim
section
variable{C:Cx}{Γ:cW}
inductive ik(C:Cx)(Γ:cW):List U6->Y->Prop
 |nil:ik C Γ [] aa
 |cons {s:U6} {ss:List U6} {a b:Y}:d5 C Γ s a->ik C Γ ss b->ik C Γ (s::ss) (ad a b)
theorem ik.go{ss tail:List U6}{y:Y}(H:ik C Γ ss y){F:dO C Γ}{fr:Fr}{k:En->K0}{Q:Su->QE->Prop}{E:QD->QE->Prop}(T:∀(P:Pt C)(en:En),ER F P.R en->k en P.m=true->QQ (R6 C.prog C.w) F.A (execs tail F.menv) Q E P.s)
  (K:∀(P:Pt C)(fl:Su),fl≠.next->Ls F fr k P fl->Q fl P.s) {P:Pt C} {en:En} (er:ER F P.R en) (h:y F.cl fr k en P.m=true):QQ (R6 C.prog C.w) F.A (execs (ss++tail) F.menv) Q E P.s:=by
 induction H generalizing P en with
 |nil=>exact T P en er h
 |@cons s ss a b ha hb ih=>
  refine Ul (ha F P fr _ en _ E er h λP1 fl L f=>?_);cases fl with
  |next=>refine ah f ?_;clear f;intro en1 R1 h1;exact ih R1 h1
  |ret v=>exact K P1 _ (by(repeat intro);contradiction) f
  |brk=>exact K P1 _ (by(repeat intro);contradiction) f
  |cont=>exact K P1 _ (by(repeat intro);contradiction) f
theorem Ke{h:SG}(k:∀b o,C.h₀.get? b=some o->h.get? b=some o)(v:∀P∈C.vol,h.get? P=some (tabObj #[])):bM C ⟨λZ=>none,h,λZ=>False⟩ ⟨.nil,.e⟩where
 next:=⟨0,rfl,λi Z=>fj _⟩
 dom:=λq p e=>by exact cO e
 cod:=λq o e=>by rw[fj]at e;exact cO e
 keep:=k
 old:=λq p b e=>by exact cO e
 apart:=λq q' p p' b e=>by exact cO e
 frz:=λc ⟨q,p,e,_⟩=>by exact cO e
 vol:=λP hP=>⟨#[],v P hP,trivial,λpos cv e=>by exact cO e⟩
 fz:=λZ f=>f.elim
theorem DE{h:SG}{tabs:List (Ri×Ri)}(hT:TabsAt tabs h)(hc:C.h₀=ghostOf h tabs)(hv:C.vol=tabs.map (·.2)){R:Wd}{μ:KS}(G:bM C R μ):OldK h R.h:=by
 have live:∀b o,h.get? b=some o->b∈tabs.map (·.2)∨R.h.get? b=some o:=λb o e=>by
  by_cases z:b∈tabs.map (·.2)
  ·exact .inl z
  ·exact .inr (G.keep b o (by refine rwr hc ?_;exact ghost_ne e z))
 refine⟨λb o e=>?_,λb o e=>?_⟩
 ·rcases live b o e with z|z
  ·refine ah (G.vol b (hv▸z)) ?_;rintro ps e1 -;refine nR z ?_;rintro x hx rfl;refine ar (hT x hx) ?_;intro hd e2;cases e.symm.trans e2;exact .inr (.inl ⟨(hd.tab e2).isCodeTable,rfl,#[],ps,rfl,by refine rwr Array.empty_append ?_;exact e1⟩)
  ·exact .inl z
 ·rcases live b o e with z|z
  ·refine ah (G.vol b (hv▸z)) ?_;rintro ps e1 -;exact⟨_,e1⟩
  ·exact⟨o,z⟩
end
section
section
def bn:T Code:=dy wd
noncomputable def O4:Df:=⟨⟨[],[],none,[],[],none,[]⟩,[],⟨.function,[],false,false,[]⟩,.nil⟩
noncomputable def bz:Df:=((xp uv)[53]?).getD O4
noncomputable def FN:Df:=((xp uv)[45]?).getD O4
def yB:Y:=ad IF (ad Nl aa)
def FM:Y:=yJ (.b .e) (.i (.d .e)) (.b (.b .e))
def FL:Y:=yI (.b .e) (.i (.d .e)) (.b (.b .e)) (.b (.c .e))
def sH(i:Nat):U6:=((((yf GQ).1 FN.body)[i]?).getD (true,.Pass ⟨0,0,0,0⟩)).2
theorem Hi:((none,("law":Str)),bz)∈cF.names.zip cF.dfs:=Rq (i:=53) (by kernel_rfl)
theorem DY:(cF.dfs.all Internal.dfB&&cF.lams.all Lh)=true:=by kernel_rfl
theorem AL:Internal.dfB bz=true:=by kernel_rfl
theorem AK:pn bz=[("script":Str)]:=by kernel_rfl
theorem DX:(yf GQ).1 FN.body=[(true,sH 0),(false,sH 1)]:=by kernel_rfl
theorem Hh:cF.names.zip cF.dfs=(cF.names.zip cF.dfs).take 45++((some ("LRGeneratedTable":Str),("lr_parse_table":Str)),FN)::(cF.names.zip cF.dfs).drop 46:=by kernel_rfl
theorem DW:((cF.names.zip cF.dfs).take 45++(cF.names.zip cF.dfs).drop 46).all (λnd=>!(nd.1.2==("lr_parse_table":Str)))=true:=by kernel_rfl
section
variable{h h':SG}{prog:Tj}{w:U5}{g:Array UQ}{d:Drawn}{os:OsState}{tk:Nat->KV}
theorem DT(O:(cF.cx h h' prog w g d os tk).Ok cF.pg):(cF.es h).map (vJ O (mh cF.lm) FM FL)=wd:=by kernel_rfl
theorem y8(O:(cF.cx h h' prog w g d os tk).Ok cF.pg):((cF.es h).flatMap (wP O (mh cF.lm) FM FL)).map (λr=>(cF.cx h h' prog w g d os tk).lam r.1)=((cF.es h).flatMap (wP O (mh cF.lm) FM FL)).map λr=>some r.2:=by kernel_rfl
theorem Hl(O:(cF.cx h h' prog w g d os tk).Ok cF.pg):(si O (lv O 20) (mh cF.lm) 20 (bJ FN) (sH 0)).1=(Y1 (.b .e) (.i (.d .e)) (.b (.b .e)),[]):=by kernel_rfl
theorem Hk(O:(cF.cx h h' prog w g d os tk).Ok cF.pg):(si O (lv O 20) (mh cF.lm) 20 (bJ FN) (sH 1)).1=(Y2 (.b .e) (.i (.d .e)) (.b (.b .e)) (.b (.c .e)),[]):=by kernel_rfl
theorem Hg(O:(cF.cx h h' prog w g d os tk).Ok cF.pg):(lH O (mh cF.lm) (bJ bz) FM FL .k bz.body).2=[]:=by kernel_rfl
end
end
end
end
section
def Wf(s:KS):Prop:=∃m,s.n=cy m∧∀i,m≤i->tg (cy i) s.h=none
structure Xt(s s':KS):Prop where
 wf:Wf s'
 keep:∀q o,tg q s.h=some o->tg q s'.h=some o
section
variable{s s' s'':KS}{o o':KO}{q p:Pa}
theorem Xt.refl(w:Wf s):Xt s s:=⟨w,λZ Z h=>h⟩
theorem Xt.trans(a:Xt s s')(b:Xt s' s''):Xt s s'':=⟨b.wf,λq o h=>b.keep q o (a.keep q o h)⟩
theorem Wf.fresh(w:Wf s):tg s.n s.h=none:=by refine ah w ?_;clear w;intro m e f;refine rwr e ?_;exact f m (QZ m)
theorem Wf.ne(w:Wf s)(h:tg q s.h=some o):q≠s.n:=λe=>by rw[e,w.fresh]at h;exact cO h
theorem cK:tg s.n (aR s o).h=some o:=aS _ _ _
theorem Xt.new(w:Wf s):Xt s (aR s o):=by
 refine⟨?_,λq o' h=>(am _ (w.ne h)).trans h⟩;refine ah w ?_;clear w;intro m e f;refine⟨m+1,by show qs s.n=qs (cy m);exact rwr e rfl,λi hi=>?_⟩;show tg (cy i) (tp s.n o s.h)=none;refine rwr e (rwr (am _ (An (by lia))) ?_);exact f i (by exact QG (RA m) hi)
theorem fu:tg q (bD s q o).h=some o:=aS _ _ _
theorem bl(h:p≠q):tg p (bD s q o).h=tg p s.h:=am _ h
theorem Wf.put(w:Wf s)(h:tg q s.h=some o'):Wf (bD s q o):=by
 refine ah w ?_;clear w;intro m e f;refine⟨m,e,λi hi=>?_⟩;show tg (cy i) (tp q o s.h)=none;by_cases z:cy i=q
 ·subst z;rw[f i hi]at h;exact cO h
 ·refine rwr (am _ z) ?_;exact f i hi
end
theorem jk:∀l:List KV,len (au l)=l.length
 |[]=>rfl
 |x::r=>congrArg QR (jk r)
theorem dU:∀(l:List KV)(n:Nat),ng n (au l)=l[n]?
 |[],0=>rfl
 |[],n+1=>rfl
 |x::r,0=>rfl
 |x::r,n+1=>dU r n
theorem dZ:∀l m:List KV,app (au l) (au m)=au (l++m)
 |[],m=>rfl
 |x::r,m=>congrArg (KV.cons x) (dZ r m)
theorem fq:∀(n:Nat)(l:List KV),take n (au l)=au (l.take n)
 |0,_=>rfl
 |n+1,[]=>rfl
 |n+1,x::r=>congrArg (KV.cons x) (fq n r)
theorem jU:∀(n:Nat)(l:List KV),drop n (au l)=au (l.drop n)
 |0,_=>rfl
 |n+1,[]=>rfl
 |n+1,x::r=>jU n r
theorem pM:∀l m:List KV,wF (au l) (au m)=au (l.reverse++m)
 |[],m=>rfl
 |x::r,m=>by
  show wF (au r) (au (x::m))=_;rw[pM r (x::m),SN,Sx];rfl
def gH(l:List KV)(v:KV):Bool:=l.any λx=>bU x v
theorem pW(v:KV):∀l:List KV,mem v (au l)=gH l v
 |[]=>rfl
 |x::r=>by
  show aB (bU x v) (mem v (au r)) true=(bU x v||gH r v);refine rwr (pW v r) ?_;cases bU x v<;>rfl
theorem m6:∀l:List KV,uz (au l)=l.all pk
 |[]=>rfl
 |x::r=>by
  show aB (pk x) false (uz (au r))=(pk x&&r.all pk);refine rwr (m6 r) ?_;cases pk x<;>rfl
theorem aQ{c:Cl}{e e':En}{s s':KS}{a:Y}(ha:St c a e s e' s'):St c (ad a aa) e s e' s':=λF k h=>ha _ _ h
section
variable{c:Cl}{e e' e1 e2:En}{s s' s2:KS}{v u:KV}{t:Tg}{b o:Y}{n:Nat}{it it':KI}
def Nx(s:KS)(it:KI)(v:KV)(it':KI):Prop:=∀(z:Bool)(k:KV->KI->Bool),iR it s z k=k v it'
def Nz(s:KS)(it:KI):Prop:=∀(z:Bool)(k:KV->KI->Bool),iR it s z k=z
theorem mA{q:Pa}{m i:Nat}{l:List KV}(hq:tg q s.h=some (.list m (au l)))(hv:l[i]?=some v):Nx s (.list q i) v (.list q (i+1)):=λz k=>by
 show b9 q s _=_;unfold b9;rw[hq];show bQ (ng i (au l)) _ _=_;rw[dU,hv];rfl
theorem mz{q:Pa}{m i:Nat}{l:List KV}(hq:tg q s.h=some (.list m (au l)))(hv:l[i]?=none):Nz s (.list q i):=λz k=>by
 show b9 q s _=_;unfold b9;rw[hq];show bQ (ng i (au l)) _ _=_;rw[dU,hv];rfl
def G2(c:Cl)(t:Tg)(b o:Y)(n:Nat)(it:KI)(e:En)(s:KS)(e':En)(s':KS):Prop:=∀(F:Fr)(k:En->K0),k e' s'=true->JO t b o c F k n it e s=true
theorem rB(h:Nz s it)(ho:St c o e s e' s'):G2 c t b o (n+1) it e s e' s':=λF k hk=>(h _ _).trans (ho F k hk)
theorem mH(h:Nx s it v it')(ht:Od t v e e1)(hb:St c b e1 s e2 s2)(hl:G2 c t b o n it' e2 s2 e' s'):G2 c t b o (n+1) it e s e' s':=λF k hk=>(h _ _).trans (ht _ (hb _ _ (hl F k hk)))
def Iv(c:Cl)(x:XI)(e:En)(s:KS)(it:KI)(s':KS):Prop:=∀k:KI->KS->Bool,k it s'=true->x c e k s=true
theorem rG{x:X}{q:Pa}{m:Nat}{xs:KV}(hx:Ev c x e s (.ref q) s')(hq:tg q s'.h=some (.list m xs)):Iv c (aV x) e s (.list q 0) s':=λk h=>hx _ (bA hq h)
theorem qO{x:XI}(hi:Iv c x e s it s2)(hl:G2 c t b o lN it e s2 e' s'):St c (bW x t b o) e s e' s':=λF k h=>hi _ (hl F k h)
end
end
section
open PySem PySem.W PyProof.Rows
section
variable{C:Cx}{Γ:cW}{R:Wd}{μ μ₂:KS}
theorem kF{P:Nat->Prop}{n:Nat}(h:∀{m},m<n->P m)(e:P n){m:Nat}(z:m<n+1):P m:=(Nat.lt_or_eq_of_le (Nat.le_of_lt_succ z)).elim h λq=>q▸e
theorem DI{P:Nat->Prop}(a:P 0)(b:P 1)(c:P 2){m:Nat}(h:m<3):P m:=kF (kF (kF (λ{m} h=>absurd h (Nat.not_lt_zero m)) a) b) c h
theorem y6{P:Nat->Prop}(a:P 0)(b:P 1)(c:P 2)(d:P 3)(e:P 4){m:Nat}(h:m<5):P m:=kF (kF (DI a b c) d) e h
theorem AI{α:Type}{n:Nat}:∀{l:List α},l.length=n+1->∃a r,l=a::r∧r.length=n
 |[],h=>absurd h (by intro z;exact Uo z)
 |a::r,h=>⟨a,r,rfl,Nat.succ.inj h⟩
theorem NV{α:Type}{P:List α->Prop}(h4:∀a b c d,P [a,b,c,d])(h5:∀a b c d e,P [a,b,c,d,e]){l:List α}(h:l.length=4∨l.length=5):P l:=by
 have k:∀{n:Nat}{l:List α},l.length=n+4->∃a b c d r,l=a::b::c::d::r∧r.length=n:=λ{n l} h=>by
  refine aE (AI h) ?_;rintro a r rfl h;refine aE (AI h) ?_;rintro b r rfl h;refine aE (AI h) ?_;rintro c r rfl h;refine aE (AI h) ?_;rintro d r rfl h;exact⟨a,b,c,d,r,rfl,h⟩
 rcases h with h|h
 ·obtain⟨a,b,c,d,r,rfl,h'⟩:=k (n:=0) h;cases QP h';exact h4 a b c d
 ·obtain⟨a,b,c,d,r,rfl,h'⟩:=k (n:=1) h;refine aE (AI h') ?_;rintro e r2 rfl h2;cases QP h2;exact h5 a b c d e
theorem n9{R':Wd}{x x' r r':KV}(eh:R'.h=R.h)(f:∀u,VR C R x u->VR C R' x' u)(g:∀us,bG C R r us->bG C R' r' us):(∀v,VR C R (.cons x r) v->VR C R' (.cons x' r') v)∧∀vs,bG C R (.cons x r) vs->bG C R' (.cons x' r') vs:=
 ⟨λv z=>dM z λb u us e t g1 g2 l=>⟨b,u,us,e,eh▸t,f u g1,g us g2,l⟩,λvs z=>aH z λu us e g1 g2=>⟨u,us,e,f u g1,g us g2⟩⟩
noncomputable def pl:KV->Bool
 |.none=>true
 |.nat _=>true
 |.neg _=>true
 |.str _=>true
 |_=>false
theorem qY{x:KV}{v:QD}(h:pl x=true):VR C R x v↔pP v x:=by cases x<;>first|exact Iff.rfl|exact aO h
theorem Js{x:KV}{v:QD}(h:pP v x):pl x=true:=by cases x<;>first|rfl|exact h.elim
def VS(tk:Nat->KV)(φ:Pa->Option Pa)(Z:Pa->KV->Prop):KV->KV->Prop
 |.none,y=>y=.none∨∃m,y=.tok (m+2)∧tk m=.none
 |.bool b,y=>y=.bool b
 |.nat n,y=>y=.nat n∨∃m,y=.tok (m+2)∧tk m=.nat n
 |.neg n,y=>y=.neg n∨∃m,y=.tok (m+2)∧tk m=.neg n
 |.str c,y=>y=.str c∨∃m,y=.tok (m+2)∧tk m=.str c
 |.nil,y=>y=.nil
 |.cons x r,y=>∃a s,y=.cons a s∧VS tk φ Z x a∧VS tk φ Z r s
 |.ref q,y=>∃q',φ q=some q'∧y=.ref q'
 |.tok n,y=>y=.tok n∨∃m,n=m+2∧y=tk m∧pl y=true
 |.fl x,y=>∃z,VS tk φ Z x z∧(y=.fl z∨∃q,y=.ref q∧Z q z)
noncomputable def Wd.cut(R:Wd)(φ:Pa->Option Pa)(Z:Pa->KV->Prop):Wd:=⟨λq=>(φ q).bind R.ρ,R.h,λb=>R.fz b∨∃q z p,Z q z∧R.ρ q=some p∧b=p.fst⟩
def Sm(C:Cx)(R R':Wd)(x y:KV):Prop:=(∀v,VR C R y v->VR C R' x v)∧∀vs,bG C R y vs->bG C R' x vs
theorem VS.rel{φ:Pa->Option Pa}{Z:Pa->KV->Prop}(G:bM C R μ)(hZ:∀q z,Z q z->∃n,tg q μ.h=some (.list n z)):∀{x y:KV},VS C.tk φ Z x y->Sm C R (R.cut φ Z) x y:=by
 have tkc:∀{m:Nat}{x:KV}{R':Wd},C.tk m=x->Sm C R R' x (.tok (m+2)):=λ{m x R'} e=>⟨λv h=>by
  have h:pP v (C.tk m):=h;rw[e]at h;exact(qY (Js h)).mpr h,λzz h=>h.elim⟩
 intro x;induction x with
 |none=>rintro _ (rfl|⟨m,rfl,e⟩)<;>first|exact⟨λzz h=>h,λzz h=>h⟩|exact tkc e
 |nat n=>rintro _ (rfl|⟨m,rfl,e⟩)<;>first|exact⟨λzz h=>h,λzz h=>h⟩|exact tkc e
 |neg n=>rintro _ (rfl|⟨m,rfl,e⟩)<;>first|exact⟨λzz h=>h,λzz h=>h⟩|exact tkc e
 |str n=>rintro _ (rfl|⟨m,rfl,e⟩)<;>first|exact⟨λzz h=>h,λzz h=>h⟩|exact tkc e
 |bool b=>rintro _ rfl;exact⟨λzz h=>h,λzz h=>h⟩
 |nil=>rintro _ rfl;exact⟨λzz h=>h,λzz h=>h⟩
 |cons x r i1 i2=>
  intro _ zq;refine aH zq ?_;clear zq;rintro a s rfl h1 h2;exact n9 rfl (i1 h1).1 (i2 h2).2
 |ref q=>intro _ zq;refine ah zq ?_;clear zq;rintro q' h rfl;exact⟨λv ⟨p,hp,e⟩=>⟨p,by show(φ q).bind R.ρ=_;refine rwr h ?_;exact hp,e⟩,λzz h=>h.elim⟩
 |tok n=>
  rintro y (rfl|⟨m,rfl,e,h⟩)
  ·exact⟨λzz h=>h,λzz h=>h⟩
  ·refine⟨λv hv=>?_,λvs hv=>?_⟩
   ·show pP v (C.tk m);refine rwl e ?_;exact(qY h).mp hv
   ·exfalso;revert hv h;cases y<;>intro h hv<;>first|exact hv|exact aO h
 |fl x ih=>
  rintro y ⟨z,h1,rfl|⟨q,rfl,h2⟩⟩
  ·exact⟨λv ⟨a,vs,k,e,f,g,r,l⟩=>⟨a,vs,k,e,.inl f,g,(ih h1).2 _ r,l⟩,λzz h=>h.elim⟩
  ·refine⟨λv hv=>?_,λzz h=>h.elim⟩;refine ah hv ?_;clear hv;rintro p hp rfl;refine az (hZ q z h2) ?_;intro n hl;refine ah (G.at hl) ?_;intro p' hp' r;cases hp.symm.trans hp';refine ar r ?_;intro a zq;refine d9 zq ?_;intro vs k b c d e;exact⟨_,vs,k,rfl,.inr ⟨q,z,p,h2,hp,rfl⟩,b,(ih h1).2 _ c,by refine rwl d ?_;exact e⟩
def DS(V:KV->KV->Prop):KD->KD->Prop
 |.nil,e=>e=.nil
 |.cons a w r,e=>∃w' r',e=.cons a w' r'∧V w w'∧DS V r r'
noncomputable def flat:KV->Bool
 |.cons x r=>flat x&&flat r
 |.ref _=>false
 |.fl _=>false
 |_=>true
def DA:KD->Prop
 |.nil=>True
 |.cons _ w r=>flat w=true∧DA r
theorem DA.dl{x v:KV}:∀{es:KD},DA es->Internal.dl es x=some v->flat v=true
 |.nil,_,e=>by exact cO e
 |.cons a w r,h,e=>by
  have e:@RJ (λzz=>Option KV) (Internal.dl r x) (.some w) (bU a x)=some v:=e;cases k:bU a x with
  |true=>rw[k]at e;cases e;exact h.1
  |false=>rw[k]at e;exact DA.dl h.2 e
def FS(V:KV->KV->Prop)(a b:Option KV):Prop:=match a,b with
 |some x,some y=>V x y
 |none,none=>True
 |_,_=>False
def OS(C:Cx)(V W:KV->KV->Prop)(o o':KO):Prop:=match o with
 |.list n xs=>∃ys,o'=.list n ys∧V xs ys
 |.dict n es=>∃fs,o'=.dict n fs∧DS V es fs
 |.junk n=>o'=.junk n
 |.pd a m=>DA a∧DA m∧((∃b k,o'=.pd b k∧DS W a b∧DS W m k)∨∃n es,o'=.dict n es∧Pd C a m es)
 |.set xs=>o'=.set xs
 |.inst c fs=>∃gs,o'=.inst c gs∧∀q,FS V (tg q fs) (tg q gs)
 |.clo q cs=>∃ds,o'=.clo q ds∧V cs ds
theorem DS.dl{V:KV->KV->Prop}:∀{es fs:KD},DS V es fs->∀x,FS V (dl es x) (dl fs x)
 |.nil,_,h,x=>by cases h;exact trivial
 |.cons a w r,_,h,x=>by
  refine aH h ?_;clear h;rintro w' r' rfl h1 h2;have ih:=DS.dl (es:=r) h2 x;show FS V (@RJ (λzz=>Option KV) (Internal.dl r x) (.some w) (bU a x)) (@RJ (λzz=>Option KV) (Internal.dl r' x) (.some w') (bU a x));cases bU a x with
  |true=>exact h1
  |false=>exact ih
theorem DS.pairs{V:KV->KV->Prop}:∀{es fs:KD},DS V es fs->(pairs es).length=(pairs fs).length∧(pairs es).map (·.1)=(pairs fs).map (·.1)∧∀(i:Nat)(kv:KV×KV),(pairs es)[i]?=some kv->∃w,(pairs fs)[i]?=some (kv.1,w)∧V kv.2 w
 |.nil,_,h=>by cases h;exact⟨rfl,rfl,λi kv e=>by trivial⟩
 |.cons a w r,_,h=>by
  refine aH h ?_;clear h;rintro w' r' rfl h1 h2;refine b0 (DS.pairs (es:=r) h2) ?_;intro l k i;refine⟨congrArg QR l,congrArg (List.cons a) k,λj kv e=>?_⟩;cases j with
  |zero=>cases e;exact⟨w',rfl,h1⟩
  |succ j=>exact i j kv e
theorem J1{tk:Nat->KV}{φ:Pa->Option Pa}{Z:Pa->KV->Prop}:∀{x:KV}{n:Nat},gV x n=true->VS tk φ Z x x:=by
 intro x;induction x with
 |cons x r i1 i2=>intro n h;refine dT h ?_;rintro m h1 h2 -;exact⟨x,r,rfl,i1 h1,i2 h2⟩
 |none=>exact λzz=>.inl rfl
 |nat=>exact λzz=>.inl rfl
 |neg=>exact λzz=>.inl rfl
 |str=>exact λzz=>.inl rfl
 |nil=>exact λzz=>rfl
 |bool=>exact λzz=>rfl
 |_=>exact λh=>aO h
theorem xb{R':Wd}(eh:R'.h=R.h):∀{x:KV},flat x=true->Sm C R R' x x:=by
 intro x;induction x with
 |cons x r i1 i2=>
  intro h;refine jB h ?_;intro h1 h2;exact n9 eh (i1 h1).1 (i2 h2).2
 |nil=>exact λzz=>⟨λv ⟨a,e,t⟩=>⟨a,e,eh▸t⟩,λzz h=>h⟩
 |ref=>exact λh=>aO h
 |fl=>exact λh=>aO h
 |_=>exact λzz=>⟨λzz h=>h,λzz h=>h⟩
def GO(a m:KD)(x u:KV):KV:=match dl a x with
 |some v=>v
 |none=>match dl m x with
  |some v=>v
  |none=>u
def GP(a m:KD):KD->KD
 |.nil=>.nil
 |.cons x u r=>.cons x (GO a m x u) (GP a m r)
theorem gE{a m:KD}:∀es:KD,(pairs (GP a m es)).length=(pairs es).length∧(pairs (GP a m es)).map (·.1)=(pairs es).map (·.1)∧∀(i:Nat)(kv:KV×KV),(pairs (GP a m es))[i]?=some kv->∃w,(pairs es)[i]?=some (kv.1,w)∧kv.2=GO a m kv.1 w
 |.nil=>⟨rfl,rfl,λi kv e=>by trivial⟩
 |.cons x u r=>by
  refine b0 (gE (a:=a) (m:=m) r) ?_;intro l k i;refine⟨congrArg QR l,congrArg (List.cons x) k,λj kv e=>?_⟩;cases j with
  |zero=>cases e;exact⟨u,rfl,rfl⟩
  |succ j=>exact i j kv e
theorem Ar{a m:KD}{x:KV}:∀es:KD,dl (GP a m es) x=(dl es x).map (GO a m x)
 |.nil=>rfl
 |.cons y u r=>by
  show@RJ (λzz=>Option KV) (dl (GP a m r) x) (.some (GO a m y u)) (bU y x)=Option.map _ (@RJ (λzz=>Option KV) (dl r x) (.some u) (bU y x));cases e:bU y x with
  |true=>refine rwr (gw e) ?_;rfl
  |false=>exact Ar r
theorem oQ.fs{V:KV->KV->Prop}{r:KV->QD->Prop}{r':KV->QD->Prop}(f:∀x y v,V x y->r y v->r' x v){a b:Option KV}{c:Option QD}(h:FS V a b)(k:oQ r b c):oQ r' a c:=by
 cases a with
 |none=>cases b with
  |none=>cases c<;>first|exact trivial|exact k.elim
  |some y=>exact h.elim
 |some x=>cases b with
  |none=>exact h.elim
  |some y=>cases c<;>first|exact k.elim|exact f x y _ h k
theorem OS.rel{V W:KV->KV->Prop}{R':Wd}(eh:R'.h=R.h)(hV:∀{x y},V x y->Sm C R R' x y)(hk:∀{x:KV},pk x=true->Sm C R R' x x)(hW:∀{x y},W x y->∀(R:Wd) w,VR C R y w->VR C R x w){o o':KO}{p:iu}(h:OS C V W o o')(r:eR C R o' p):eR C R' o p:=by
 have dc:∀{n:Nat}{es fs:KD},DS V es fs->oV C R n fs p->oV C R' n es p:=λ{n es fs} d r=>by
  refine ar r ?_;intro he zq;refine iT zq ?_;intro ob es' ep hob hx hdat hE hnd hn hl hep;refine b0 d.pairs ?_;intro l k i;refine⟨he,ob,es',ep,eh▸hob,hx,hdat,⟨hE.1.trans l.symm,λj e kv h1 h2=>?_⟩,k▸hnd,hn.trans l.symm,hl,hep⟩;refine ah (i j kv h2) ?_;intro w e3 v3;have z:=hE.2 j e _ h1 e3;exact⟨z.plain,z.hash,(hk z.plain).1 _ z.key,(hV v3).1 _ z.val⟩
 cases o with
 |list n xs=>
  refine ah h ?_;rintro ys rfl hv;refine ar r ?_;intro e zq;refine aH zq ?_;intro vs k a b c;exact⟨e,vs,k,eh▸a,(hV hv).2 _ b,c⟩
 |dict n es=>refine ah h ?_;rintro fs rfl d;exact dc d r
 |junk n=>
  cases h;refine ar r ?_;intro e zq;refine aE zq ?_;intro vs k a b;exact⟨e,vs,k,eh▸a,b⟩
 |set xs=>
  cases h;refine ar r ?_;intro e zq;refine aE zq ?_;intro S n zq2 c;refine uc zq2 ?_;intro ob es ep tb a b;exact⟨e,S,n,⟨ob,es,ep,tb,eh▸a,b⟩,c⟩
 |inst c fs=>
  refine ah h ?_;rintro gs rfl hf;refine b8 r ?_;intro a b c zq;refine aH zq ?_;intro es n d e f;refine⟨a,b,eh▸c,es,n,eh▸d,e,λnm=>?_,f.2⟩;have z:=f.1 nm;cases hs:C.sl nm with
  |none=>
   rw[hs]at z;have z:oQ (VR C R) none (ip es nm):=z;show oQ (VR C R') none (ip es nm);cases hg:ip es nm with
   |none=>exact trivial
   |some v=>rw[hg]at z;exact z.elim
  |some q=>
   rw[hs]at z;exact oQ.fs (r:=VR C R) (r':=VR C R') (λx y v k r=>(hV k).1 v r) (hf q) z
 |clo q cs=>
  refine ah h ?_;rintro ds rfl hv;refine ar r ?_;intro e zq;refine d9 zq ?_;intro fd ob a b c K;refine⟨e,fd,ob,eh▸a,b,c,K.lam,K.glob,K.bi,K.dflt,eh▸K.code,K.keep,K.inj,?_⟩;refine b8 K.caps ?_;intro vs h1 h2 h3;refine⟨vs,(hV hv).2 _ h1,h2,λi nm v q1 q2=>?_⟩;refine aH (h3 i nm v q1 q2) ?_;intro ca ob z1 z2 z3;exact⟨ca,ob,z1,eh▸z2,z3⟩
 |pd a m=>
  refine b0 h ?_;intro fa fm h;have key:∃n es,oV C R n es p∧Pd C a m es:=by
   rcases h with zq|zq
   ·refine aH zq ?_;clear zq;rintro b k rfl ha hm;refine aE r ?_;intro n es d z;refine⟨n,es,d,λx hx=>?_⟩;have z:=z x hx;have za:=ha.dl x;have zm:=hm.dl x;cases e1:dl a x with
    |some v=>
     rw[e1]at za;cases e2:dl b x with
     |none=>rw[e2]at za;exact za.elim
     |some v'=>rw[e2]at za z;refine ah z ?_;intro u g1 g2;exact⟨u,g1,λR w h=>hW za R w (g2 R w h)⟩
    |none=>
     rw[e1]at za;cases e2:dl b x with
     |some v'=>rw[e2]at za;exact za.elim
     |none=>
      rw[e2]at z;cases e3:dl m x with
      |some v=>
       rw[e3]at zm;cases e4:dl k x with
       |none=>rw[e4]at zm;exact zm.elim
       |some v'=>
        rw[e4]at zm z;rcases z with zq|zq
        ·refine ah zq ?_;clear zq;intro u g1 g2;exact .inl ⟨u,g1,λR w h=>hW zm R w (g2 R w h)⟩
        ·refine ar zq ?_;clear zq;intro g1 g2;exact .inr ⟨g1,λR w h=>hW zm R w (g2 R w h)⟩
      |none=>
       rw[e3]at zm;cases e4:dl k x with
       |some v'=>rw[e4]at zm;exact zm.elim
       |none=>rw[e4]at z;exact z
   ·refine aE zq ?_;clear zq;rintro n es rfl hp;exact⟨n,es,r,hp⟩
  refine aE key ?_;intro n es d z;refine ar d ?_;intro he zq;refine iT zq ?_;intro ob es' ep hob hx hdat hE hnd hn hl hep;refine⟨n,GP a m es,⟨he,ob,es',ep,eh▸hob,hx,hdat,⟨hE.1.trans (gE es).1.symm,λj e kv h1 h2=>?_⟩,(gE es).2.1▸hnd,hn.trans (gE es).1.symm,hl,hep⟩,λx hx=>?_⟩
  ·refine ah ((gE es).2.2 j kv h2) ?_;intro w e3 e4;have y:=hE.2 j e _ h1 e3;refine⟨y.plain,y.hash,(hk y.plain).1 _ y.key,?_⟩;rw[e4];have z:=z kv.1 y.plain;have dk:dl es kv.1=some w:=by
    refine vC .none hE.plain hnd (x:=kv.1) ?_;rintro J q1 q2- -;have q3:=(q1 j _ e3).mp rfl;rw[q2,q3];show(Internal.pairs es)[j]?.map _=_;rw[e3];rfl
   unfold GO;cases e1:dl a kv.1 with
   |some v=>rw[e1]at z;refine ah z ?_;intro u g1 g2;cases QN (g1.symm.trans dk);exact(xb eh (fa.dl e1)).1 _ (g2 R _ y.val)
   |none=>
    rw[e1]at z;cases e3:dl m kv.1 with
    |some v=>
     rw[e3]at z;rcases z with zq|zq
     ·refine ah zq ?_;clear zq;intro u g1 g2;cases QN (g1.symm.trans dk);exact(xb eh (fm.dl e3)).1 _ (g2 R _ y.val)
     ·refine ar zq ?_;clear zq;rintro g1 -;exact cO (g1.symm.trans dk)
    |none=>rw[e3]at z;have z:dl es kv.1=none:=z;exact cO (z.symm.trans dk)
  ·have z:=z x hx;rw[Ar];cases e1:dl a x with
   |some v=>rw[e1]at z;refine ah z ?_;intro u g1 g2;rw[g1];exact⟨_,rfl,λR w h=>by unfold GO at h;rw[e1]at h;exact h⟩
   |none=>
    rw[e1]at z;cases e3:dl m x with
    |some v=>
     rw[e3]at z;rcases z with zq|zq
     ·refine ah zq ?_;clear zq;intro u g1 g2;rw[g1];exact .inl ⟨_,rfl,λR w h=>by unfold GO at h;rw[e1,e3]at h;exact h⟩
     ·refine ar zq ?_;clear zq;intro g1 g2;rw[g1];exact .inr ⟨rfl,g2⟩
    |none=>rw[e3]at z;have z:dl es x=none:=z;rw[z];rfl
structure II(C:Cx)(φ:Pa->Option Pa)(Z:Pa->KV->Prop)(μ₂ μ:KS):Prop where
 next:∃m,μ₂.n=cy m∧∀i,m≤i->tg (cy i) μ₂.h=none
 fwd:∀q o,tg q μ₂.h=some o->∃q' o',φ q=some q'∧tg q' μ.h=some o'∧OS C (VS C.tk φ Z) (λx y=>∀(R:Wd) w,VR C R y w->VR C R x w) o o'
 dom:∀q q' o,φ q=some q'->tg q' μ.h=some o->∃o,tg q μ₂.h=some o
 inj:∀q p q',φ q=some q'->φ p=some q'->q=p
 zl:∀q z,Z q z->∃n,tg q μ.h=some (.list n z)
 zf:∀q z p,Z q z->φ p≠some q
section
variable{φ:Pa->Option Pa}{Z:Pa->KV->Prop}
theorem mN{b:Ri}(h:dA (R.cut φ Z) b):dA R b:=by
 refine aE h ?_;clear h;intro q p hp o;refine Fn hp ?_;rintro q'-hp;exact⟨q',p,hp,o⟩
theorem xu{b:Ri}(h:fb (R.cut φ Z) b):fb R b:=by
 refine aE h ?_;clear h;intro q p hp o;refine Fn hp ?_;rintro q'-hp;exact⟨q',p,hp,o⟩
theorem bM.cut(G:bM C R μ)(K:II C φ Z μ₂ μ):bM C (R.cut φ Z) μ₂ where
 next:=K.next
 dom:=λq p h=>by
  refine Fn h ?_;intro q' h1 h2;refine ah (G.dom q' p h2) ?_;intro o' ho' r;refine az (K.dom q q' o' h1 ho') ?_;intro o ho;refine aH (K.fwd q o ho) ?_;intro q2 o2 e1 e2 e3;cases h1.symm.trans e1;cases ho'.symm.trans e2;exact⟨o,ho,e3.rel (R:=R) (R':=R.cut φ Z) rfl (λv=>VS.rel G K.zl v) (λh=>VS.rel G K.zl (J1 h)) (λh=>h) r⟩
 cod:=λq o ho=>by
  refine aH (K.fwd q o ho) ?_;rintro q' o' e1 e2 -;refine az (G.cod q' _ e2) ?_;intro p hp;exact⟨p,by show(φ q).bind R.ρ=_;refine rwr e1 ?_;exact hp⟩
 keep:=G.keep
 old:=λq p b h ho=>by refine Fn h ?_;clear h;rintro q'-h;exact G.old q' p b h ho
 apart:=λq q' p p' b h h' ho ho'=>by
  refine Fn h ?_;clear h;intro q1 a1 h;refine Fn h' ?_;clear h';intro q2 a2 h';cases G.apart q1 q2 p p' b h h' ho ho';exact K.inj q q' q1 a1 a2
 frz:=λc hc=>G.frz c (xu hc)
 vol:=G.vol
 fz:=λa f=>by
  rcases f with f|zq
  ·exact⟨(G.fz a f).1,λo=>(G.fz a f).2 (mN o)⟩
  ·refine ei zq ?_;clear zq;rintro q z p hz hp rfl;refine az (K.zl q z hz) ?_;intro n hl;refine ah (G.at hl) ?_;intro p' hp' r;cases hp.symm.trans hp';refine ar r ?_;intro a zq;refine aE zq ?_;intro vs k b c;refine⟨⟨vs,k,b⟩,λo=>?_⟩;refine aE o ?_;intro q1 p1 h1 o1;refine Fn h1 ?_;intro q2 h2 h3;cases G.apart q2 q p1 p _ h3 hp o1 (.inl rfl);exact K.zf _ z q1 hz h2
theorem ER.cut(G:bM C R μ)(K:II C φ Z μ₂ μ){F:dO C Γ}{en en₂:En}(r:ER F R en)(k:∀q x,tg q en₂=some x->∃y,tg q en=some y∧VS C.tk φ Z x y):ER F (R.cut φ Z) en₂ where
 ns:=by
  refine ah r.ns ?_;intro m ns hold;refine⟨m,ns,λnm q x h1 h2=>?_⟩;refine ah (k q x h2) ?_;intro y h3 h4;refine(hold nm q y h1 h3).el ?_ ?_
  ·intro a v b c;exact .inl ⟨a,v,b,(VS.rel G K.zl h4).1 v c⟩
  ·intro a ca ob v b c d e;exact .inr ⟨a,ca,ob,v,b,c,d,(VS.rel G K.zl h4).1 v e⟩
 lown:=λh=>r.lown (mN h)
 cells:=λnm ca hc=>let z:=r.cells nm ca hc;⟨λh=>z.1 (mN h),z.2.1,λh g=>z.2.2 h (xu g)⟩
 fr:=λf hf=>by
  refine ar (r.fr f hf) ?_;intro a zq;refine ub zq ?_;clear zq;intro L o es ep b c d e g;exact⟨a,L,o,es,ep,b,c,d,λh=>e (mN h),g⟩
end
end
section
variable{C:Cx}{Γ:cW}{e:Qz}{x:X}
section
open Classical
def La(C:Cx)(x:X):X:=λc e k s=>decide (∃k1:KT,(∀s v,Wf s->k1 s v=true->∃s2 v2,II C some (λZ Z=>False) s2 s∧VS C.tk some (λZ Z=>False) v2 v∧k s2 v2=true)∧x c e k1 s=true)
theorem I9(R:Wd):R.cut some (λZ Z=>False)=R:=by
 cases R with
 |mk ρ h fz=>
  have e:(λb=>fz b∨∃(q:Pa)(z:KV)(p:iu),False∧ρ q=some p∧b=p.fst)=fz:=funext λb=>propext ⟨λz=>z.elim id λ⟨_,_,_,f,_⟩=>f.elim,.inl⟩;show Wd.mk _ _ _=_;exact congrArg (Wd.mk ρ h) e
theorem Gz(h:bx C Γ e x):bx C Γ e (La C x):=λF P en k Q E R hk K=>by
 refine ah (of_decide_eq_true hk) ?_;intro k1 h1 h2;refine h F P en k1 Q E R h2 λP' u v L r h3=>?_;refine aH (h1 _ _ P'.good.next h3) ?_;intro s2 v2 c1 c2 c3;have g:=P'.good.cut c1;have r2:=(VS.rel P'.good c1.zl c2).1 v r;rw[I9]at g r2;exact K ⟨P'.R,s2,P'.t,g⟩ v2 v L r2 c3
theorem JG{c:Cl}{e:En}{s:KS}{k1 k:KT}(h:x c e k1 s=true)(hk:∀s v,Wf s->k1 s v=true->∃s2 v2,II C some (λZ Z=>False) s2 s∧VS C.tk some (λZ Z=>False) v2 v∧k s2 v2=true):La C x c e k s=true:=decide_eq_true ⟨k1,hk,h⟩
end
def BL(q:Pa)(m:Nat):Cn:=λzz e t f s=>eV q e (CJ λn=>aB (QJ 200002 n) false (aB (QJ n 200006) false (aB (QB (S9 n 200002) m) (f s) (t s))))
structure EQ(C:Cx):Prop where
 hd:∀f,f<5->∃h,C.tk (200000+f)=.nat h∧h%5=f
theorem xV(T:EQ C){q:Pa}{m:Nat}(h:fx C Γ e (aw d7 (aW dG (ae q) (af (.nat 5))) (af (.nat m)))):fx C Γ e (BL q m):=λF P en t f Q E R hk K=>by
 refine dX hk ?_;intro v hk hv;refine fD hk ?_;rintro n hk rfl;refine dI hk ?_;intro h1 hk;refine dI hk ?_;intro h2 hk;have h1:=QA h1;have h2:=QA h2;obtain⟨i,rfl⟩:∃i,n=200000+i+2:=⟨n-200002,by simp_all+arith⟩
 refine ah (T.hd i (by simp_all+arith)) ?_;intro hh e1 e2;refine h F P (tp q (.nat hh) en) t f Q E (R.swap λq' x hx=>?_) ?_ K
 ·by_cases z:q'=q
  ·subst z;rw[aS]at hx;cases QN hx;refine⟨_,hv,λv hv=>?_⟩;have hv:pP v (C.tk (200000+i)):=hv;rw[e1]at hv;exact hv
  ·exact⟨x,(am _ z).symm.trans hx,λzz z=>z⟩
 ·refine fZ (f8 (ag (aS _ _ _)) aj) aj t f ?_;show aB (QB (hh%5) m) _ _=true;have e3:S9 (200000+i+2) 200002=i:=by show 200000+i+2-200002=i;simp+arith
  rw[e3]at hk;refine rwr e2 ?_;exact hk
end
section
section
noncomputable def HX:Qz:=.Constant .none 0 ⟨0,0,0,0⟩
noncomputable def cS(i:Nat):U6:=(bz.body[i]?).getD (.Pass ⟨0,0,0,0⟩)
noncomputable def cR:U6->Qz
 |.Assign _ e _=>e
 |_=>HX
noncomputable def IQ:U6->Qz
 |.Assign [t] _ _=>t
 |_=>HX
noncomputable def cP:U6->Pos
 |.Assign _ _ p=>p
 |_=>⟨0,0,0,0⟩
noncomputable def EF:Qz->Qz
 |.ListComp e _ _ _=>e
 |_=>HX
noncomputable def oH:Qz->Qz
 |.ListComp _ [⟨t,_,_,_⟩] _ _=>t
 |_=>HX
noncomputable def FW:Qz->Tp
 |.ListComp _ _ s _=>s
 |_=>⟨.function,[],false,false,[]⟩
noncomputable def Cp:Qz->Str×Pos
 |.Call (.Name n p) _ _ _=>(n,p)
 |_=>("",⟨0,0,0,0⟩)
noncomputable def Lm:Qz->Pos
 |.Call _ _ _ p=>p
 |.IfExp _ _ _ p=>p
 |_=>⟨0,0,0,0⟩
noncomputable def i9(i:Nat):Qz->Qz
 |.Call _ as _ _=>(as[i]?).getD HX
 |.IfExp a b c _=>(([a,b,c])[i]?).getD HX
 |_=>HX
theorem Gp:cS 0=.Assign [.Name "digits" Nq.1] (.ListComp (EF (cR (cS 0))) [⟨oH (cR (cS 0)),KY,[],0⟩] (FW (cR (cS 0))) Nq.2.1) Nq.2.2:=by kernel_rfl
theorem Gn:cS 9=.Assign [IQ (cS 9)] (.Call (.Name (Cp (cR (cS 9))).1 (Cp (cR (cS 9))).2) [i9 0 (cR (cS 9)),.IfExp (i9 0 (i9 1 (cR (cS 9)))) (i9 1 (i9 1 (cR (cS 9)))) (i9 2 (i9 1 (cR (cS 9)))) (Lm (i9 1 (cR (cS 9))))] [] (Lm (cR (cS 9)))) (cP (cS 9)):=by kernel_rfl
theorem CN:cS 10=.Assign [IQ (cS 10)] (.Call (.Name (Cp (cR (cS 10))).1 (Cp (cR (cS 10))).2) [i9 0 (cR (cS 10)),i9 1 (cR (cS 10)),i9 2 (cR (cS 10)),i9 3 (cR (cS 10))] [] (Lm (cR (cS 10)))) (cP (cS 10)):=by kernel_rfl
def yu(xs:KV):Y:=av (t1 (.a .e)) (mY (HE xs) ao (t1 .e) (aW dG (ae .e) (af (.nat 720720))) iZ)
def IZ:X:=dQ (BL (.b .e) 2) (af (.str 19343514090394740940865618)) (af (.str 9223737074874581074))
def KX:Y:=av (t1 (.b (.a .e))) (qA 6 (.i (.c .e)) (ab (ae (.g .e)) (ab IZ ao)))
def Cy:X:=bf (.c (.g .e)) (ab (ae (.f .e)) (ab (ae (.c .e)) ao))
def G4(C:Cx):Y:=av (tC (t1 (.c (.a .e))) (tC (t1 (.d (.a .e))) tN)) (bf (.b (.g .e)) (ab (ae (.d .e)) (ab (af (.nat 0)) (ab (af (.str 19343836908622739096469614)) (ab (La C Cy) ao)))))
section
variable{h h':SG}{prog:Tj}{w:U5}{g:Array UQ}{d:Drawn}{os:OsState}{tk:Nat->KV}(O:(cF.cx h h' prog w g d os tk).Ok cF.pg)
def N1:Option {p:X×Tg×Cn // kT (cF.cx h h' prog w g d os tk) (bJ bz) (oH (cR (cS 0))) KY [] (FW (cR (cS 0))) p.1 p.2.1 p.2.2 (l6 (oH (cR (cS 0))))}:=tR (lv O 20) (oH (cR (cS 0))) KY [] (FW (cR (cS 0))) none λcaps Z tg test H Z=>some ⟨(caps,tg,test),H⟩
theorem Eu:(N1 O).map (·.1)=some (ao,t1 .e,iZ):=by kernel_rfl
theorem Em:((lv O 20).x (E9 (bJ bz) (FW (cR (cS 0))) (oH (cR (cS 0)))) (EF (cR (cS 0)))).1=aW dG (ae .e) (af (.nat 720720)):=by kernel_rfl
theorem Ni:((lv O 20).x (bJ bz) (i9 0 (cR (cS 9)))).1=ae (.g .e):=by kernel_rfl
theorem Nh:((lv O 20).c (bJ bz) (i9 0 (i9 1 (cR (cS 9))))).1=aw d7 (aW dG (ae (.b .e)) (af (.nat 5))) (af (.nat 2)):=by kernel_rfl
theorem Ng:((lv O 20).x (bJ bz) (i9 1 (i9 1 (cR (cS 9))))).1=af (.str 19343514090394740940865618):=by kernel_rfl
theorem Nf:((lv O 20).x (bJ bz) (i9 2 (i9 1 (cR (cS 9))))).1=af (.str 9223737074874581074):=by kernel_rfl
theorem Na:((lv O 20).t (bJ bz) true (IQ (cS 9))).map (·.1)=some (t1 (.b (.a .e))):=by kernel_rfl
theorem Nd:(bh (i9 0 (cR (cS 9)))||bh (.IfExp (i9 0 (i9 1 (cR (cS 9)))) (i9 1 (i9 1 (cR (cS 9)))) (i9 2 (i9 1 (cR (cS 9)))) (Lm (i9 1 (cR (cS 9)))))||gJ (IQ (cS 9))||gp (Cp (cR (cS 9))).1)=false:=by kernel_rfl
theorem Nc:cF.pg.gl (Cp (cR (cS 9))).1=some (.cls 6 (.i (.c .e))):=by kernel_rfl
theorem Nb:(bJ bz).kd (Cp (cR (cS 9))).1=some .globalImplicit:=by kernel_rfl
theorem KQ:((lv O 20).x (bJ bz) (i9 0 (cR (cS 10)))).1=ae (.d .e):=by kernel_rfl
theorem KN:((lv O 20).x (bJ bz) (i9 1 (cR (cS 10)))).1=af (.nat 0):=by kernel_rfl
theorem KM:((lv O 20).x (bJ bz) (i9 2 (cR (cS 10)))).1=af (.str 19343836908622739096469614):=by kernel_rfl
theorem KL:((lv O 20).x (bJ bz) (i9 3 (cR (cS 10)))).1=Cy:=by kernel_rfl
theorem KG:((lv O 20).t (bJ bz) true (IQ (cS 10))).map (·.1)=some (tC (t1 (.c (.a .e))) (tC (t1 (.d (.a .e))) tN)):=by kernel_rfl
theorem KK:(bh (i9 0 (cR (cS 10)))||bh (i9 1 (cR (cS 10)))||bh (i9 2 (cR (cS 10)))||bh (i9 3 (cR (cS 10)))||gp (Cp (cR (cS 10))).1)=false:=by kernel_rfl
theorem KJ:cF.pg.gl (Cp (cR (cS 10))).1=some (.fn (.b (.g .e))):=by kernel_rfl
theorem KH:(bJ bz).kd (Cp (cR (cS 10))).1=some .globalImplicit:=by kernel_rfl
end
end
end
section
section
noncomputable def Cg:Int->KV
 |.ofNat n=>.nat n
 |.negSucc n=>.neg n
noncomputable def iy(ns:List Int):KV:=au (ns.map Cg)
def jA:Cl:=aL bn 60
def vp:Fr:=⟨λZ Z=>false,λZ Z=>false,λZ v=>DC (λb=>b) v⟩
def yx(C:Cx)(en:En)(s:KS)(en₂:En)(μ₂:KS):Prop:=∃φ Z,II C φ Z μ₂ s∧∀q x,tg q en₂=some x->∃y,tg q en=some y∧VS C.tk φ Z x y
def BZ(y:Y)(T:En->KS->Prop)(en:En)(s:KS):Prop:=∃K:En->K0,(∀en s,(∃m,s.n=cy m∧∀i,m≤i->tg (cy i) s.h=none)->K en s=true->T en s)∧y jA vp K en s=true
def EW(C:Cx)(y:Y)(T:En->KS->Prop)(en:En)(s:KS):Prop:=∃en₂ μ₂,yx C en s en₂ μ₂∧BZ y T en₂ μ₂
def Ly:Y:=ad Np (ad No (ad Nn (ad Nm aa)))
def Lx:Y:=ad Oh (ad Og (ad KX aa))
def Lw(C:Cx):Y:=ad (G4 C) aa
def F2:Y:=ad C6 (ad C5 (ad EY aa))
def EU(C:Cx):En->KS->Prop:=BZ Ly (EW C yB (EW C Lx (BZ (Lw C) (EW C F2 λZ Z=>False))))
def IE:Prop:=∀ns:List Int,ns.length≤63->∃tk:Nat->KV,∀C:Cx,C.tk=tk->lL C∧EQ C∧BZ (yu (iy (ns.take 14))) (EU C) .nil ⟨.nil,.e⟩
end
theorem wS{C:Cx}{R:Wd}:∀{vs:List QD}{ns:List Int}(k:Nat),ml vs ns->bG C R (iy (ns.take k)) (vs.take k)
 |_,_,0,_=>by simp[iy,au];rfl
 |_,_,k+1,.nil=>rfl
 |_,_,k+1,.cons (i:=i) h=>by
  show bG C R (.cons (Cg i) (iy _)) (_::_);refine .cons_ ?_ (wS k h);cases i with
  |ofNat n=>exact .nat_
  |negSucc n=>exact .neg_
def C8(s:QE)(v:QD)(s':QE):Prop:=v=.bool true∧OldK s.heap s'.heap∧s'.os=s.os∧s'.gens=#[]
def vV(s:QE)(fl:Su)(s':QE):Prop:=match fl with|.ret v=>C8 s v s'|.next=>C8 s .none s'|_=>False
structure Fx(C:Cx)(s:QE)(tabs:List (Ri×Ri)):Prop where
 O:C.Ok cF.pg
 TO:uC C (dy wd)
 H0:kT C (bJ bz) (oH (cR (cS 0))) KY [] (FW (cR (cS 0))) ao (t1 .e) iZ (l6 (oH (cR (cS 0))))
 H1:bx C (E9 (bJ bz) (FW (cR (cS 0))) (oH (cR (cS 0)))) (EF (cR (cS 0))) (aW dG (ae .e) (af (.nat 720720)))
 HA:ik C (bJ bz) [cS 1,cS 2,cS 3,cS 4] Ly
 HB:ik C (bJ bz) [cS 5,cS 6] yB
 HC:ik C (bJ bz) [cS 7,cS 8,cS 9] Lx
 HD:ik C (bJ bz) [cS 10] (Lw C)
 HF:ik C (bJ bz) [cS 11,cS 12,cS 13] F2
 hT:TabsAt tabs s.heap
 e1:C.h₀=ghostOf s.heap tabs
 e2:C.vol=tabs.map (·.2)
 p3:C.g=s.gens
 p5:C.os=s.os
 hg:s.gens=#[]
theorem AN:bz.body=cS 0::([cS 1,cS 2,cS 3,cS 4]++([cS 5,cS 6]++([cS 7,cS 8,cS 9]++([cS 10]++([cS 11,cS 12,cS 13]++[]))))):=by kernel_rfl
section
variable{C:Cx}{s:QE}{tabs:List (Ri×Ri)}
theorem rQ(X:Fx C s tabs){F:dO C (bJ bz)}(P:Pt C)(fl:Su)(f:Ls F vp (λZ Z=>false) P fl):vV s fl P.s:=by
 cases fl with
 |ret v=>
  refine ah f ?_;clear f;intro u ru hu;cases u with
  |bool b=>
   cases b with
   |true=>cases ru;exact⟨rfl,DE X.hT X.e1 X.e2 P.good,X.p5,X.p3.trans X.hg⟩
   |false=>exact aO hu
  |_=>exact aO hu
 |next=>refine ah f ?_;clear f;rintro _-hu;exact aO hu
 |brk=>refine ah f ?_;clear f;rintro _-hu;exact aO hu
 |cont=>refine ah f ?_;clear f;rintro _-hu;exact aO hu
theorem zj{y:Y}{ss tail:List U6}(X:Fx C s tabs)(H:ik C (bJ bz) ss y){F:dO C (bJ bz)}(hcl:F.cl=jA){E:QD->QE->Prop}{T:En->KS->Prop}(K:∀(P:Pt C)(en:En),ER F P.R en->T en P.m->QQ (R6 C.prog C.w) F.A (execs tail F.menv) (vV s) E P.s){P:Pt C}{en:En}(er:ER F P.R en)(hT:BZ y T en P.m):
  QQ (R6 C.prog C.w) F.A (execs (ss++tail) F.menv) (vV s) E P.s:=by
 refine ah hT ?_;clear hT;intro k h1 h2;exact H.go (F:=F) (fr:=vp) (k:=k) (λP en er hk=>K P en er (h1 en P.m P.good.next hk)) (λP fl hn f=>rQ X P fl (by cases fl<;>first|exact(hn rfl).elim|exact f)) er (by refine rwr hcl ?_;exact h2)
theorem vh{y:Y}{ss tail:List U6}(X:Fx C s tabs)(H:ik C (bJ bz) ss y){F:dO C (bJ bz)}(hcl:F.cl=jA){E:QD->QE->Prop}{T:En->KS->Prop}(K:∀(P:Pt C)(en:En),ER F P.R en->T en P.m->QQ (R6 C.prog C.w) F.A (execs tail F.menv) (vV s) E P.s){P:Pt C}{en:En}(er:ER F P.R en)(hT:EW C y T en P.m):
  QQ (R6 C.prog C.w) F.A (execs (ss++tail) F.menv) (vV s) E P.s:=by
 refine aE hT ?_;clear hT;rintro en₂ μ₂ zq2 c3;refine aE zq2 ?_;clear zq2;rintro φ Z c1 c2;exact zj X H hcl K (P:=⟨P.R.cut φ Z,μ₂,P.t,P.good.cut c1⟩) (er.cut P.good c1 c2) c3
theorem AJ(X:Fx C s tabs){F:dO C (bJ bz)}(hcl:F.cl=jA){E:QD->QE->Prop}{P:Pt C}{en:En}(er:ER F P.R en)(hJ:EU C en P.m):
  QQ (R6 C.prog C.w) F.A (execs ([cS 1,cS 2,cS 3,cS 4]++([cS 5,cS 6]++([cS 7,cS 8,cS 9]++([cS 10]++([cS 11,cS 12,cS 13]++[]))))) F.menv) (vV s) E P.s:=
 zj X X.HA hcl (λP en er h=>vh X X.HB hcl (λP en er h=>vh X X.HC hcl (λP en er h=>zj X X.HD hcl (λP en er h=>vh X X.HF hcl (λP en er h=>h.elim) er h) er h) er h) er h) er hJ
theorem DQ(sa:Ri):(("script":Str),Ta sa)∈(pn bz).zip [.ref sa]:=by refine rwr AK ?_;exact QF
theorem Pl:(bJ bz).kd "digits"=some .local:=by kernel_rfl
theorem NW:(bJ bz).kd "script"=some .local:=by kernel_rfl
theorem OH:(bJ bz).slot "digits"=some (.a .e):=by kernel_rfl
theorem tW(X:Fx C s tabs){F:dO C (bJ bz)}(hcl:F.cl=jA){E:QD->QE->Prop}{P:Pt C}(er:ER F P.R .nil)(hm:P.m=⟨.nil,.e⟩){sa:Ri}{items:Array QD}{ns:List Int}(hns:∃m,P.R.h.Ns F.menv.locals m∧m "script"=some (.ref sa))(hL:P.R.h.IsList sa items)(hi:ml items.toList ns)(hlen:ns.length≤63)
  (hJ:BZ (yu (iy (ns.take 14))) (EU C) .nil ⟨.nil,.e⟩):
  QQ (R6 C.prog C.w) F.A (execs bz.body F.menv) (vV s) E P.s:=by
 refine rwr AN ?_;refine ah hJ ?_;intro k k1 k2;refine Ul ?_;refine rwr Gp ?_;refine ux (fr:=vp) (k:=k) X.H0 (GF X.O F NW (by decide) hns hL ?_ (wS 14 hi)) nB (nv X.H1) oB OH Pl er ?_ λP1 fl L f=>?_
 ·have:=hi.length;rw[QL]at this;lia
 ·refine rwr hm (rwr hcl ?_);exact k2
 ·cases fl with
  |next=>refine ah f ?_;intro en1 R1 h1;exact AJ X hcl R1 (k1 en1 P1.m P1.good.next h1)
  |ret v=>exact rQ (F:=F) X P1 (.ret v) f
  |brk=>exact rQ (F:=F) X P1 .brk f
  |cont=>exact rQ (F:=F) X P1 .cont f
theorem AM(X:Fx C s tabs){a:Ri}{y:Y}{ob:Obj}{fd:UR}{dv:List QD}(hsc:fd.scope=bz.sc)(FO:yw C a (pn bz).length bz.ds y ob fd bz.body dv (pn bz) (nD bz))(p4:C.d=s.drawn){sa:Ri}{items:Array QD}{ns:List Int}(hL:s.heap.IsList sa items)(hi:ml items.toList ns)(hlen:ns.length≤63)
  (hJ:BZ (yu (iy (ns.take 14))) (EU C) .nil ⟨.nil,.e⟩):
  codeAny (R6 C.prog C.w) callerA (.call (.ref a) ⟨[.ref sa],[]⟩) (jM (C8 s) λZ Z=>False) s:=by
 have calls:IX C jA 60:=BJ X.O X.TO 60;have G0:bM C ⟨λZ=>none,s.heap,λZ=>False⟩ ⟨.nil,.e⟩:=Ke (λb o e=>by rw[X.e1]at e;exact of_hideAll _ e) (λP hP=>by rw[X.e2]at hP;refine nR hP ?_;clear hP;rintro x hx rfl;exact(X.hT x hx).2);have es:(⟨⟨λZ=>none,s.heap,λZ=>False⟩,⟨.nil,.e⟩,s.toks,G0⟩:Pt C).s=s:=by
  show(⟨s.heap,C.g,C.d,s.toks,C.os⟩:QE)=s;exact rwr X.p3 (rwr p4 (rwr X.p5 rfl))
 have key:=B3 (E:=λZ Z=>False) (Q:=C8 s) (A:=callerA) (fr:=[]) (vs:=[.ref sa]) (d:=60) (P:=⟨⟨λZ=>none,s.heap,λZ=>False⟩,⟨.nil,.e⟩,s.toks,G0⟩) X.O FO calls (by refine rwr AK ?_;rfl)
  ⟨⟨by decide+kernel,by decide+kernel,rfl,rfl,rfl⟩,λf hf=>absurd hf QW⟩ ?_
 ·rw[es]at key;exact key
 refine rwr hsc ?_;exact λF P1 E hcl hm kp1 er hns=>tW X hcl er hm (by refine ah (hns) ?_;intro m a b;exact⟨m,a,b _ _ (DQ sa) NW⟩) (by refine ah (hL) ?_;intro o a b;exact⟨o,kp1 _ _ a,b⟩) hi hlen hJ
end
section
variable{h h':SG}{prog:Tj}{w:U5}{g:Array UQ}{d:Drawn}{os:OsState}{tk:Nat->KV}(O:(cF.cx h h' prog w g d os tk).Ok cF.pg)
include O
theorem iH{i:Nat}{y:Y}(e:(si O (lv O 20) (mh cF.lm) 20 (bJ bz) (cS i)).1=(y,[])):d5 (cF.cx h h' prog w g d os tk) (bJ bz) (cS i) y:=by
 have z:=(si O (lv O 20) (mh cF.lm) 20 (bJ bz) (cS i)).2;rw[e]at z;exact z λr hr=>absurd hr QW
theorem jP{e:Qz}{x:X}(z:((lv O 20).x (bJ bz) e).1=x):bx (cF.cx h h' prog w g d os tk) (bJ bz) e x:=z▸((lv O 20).x (bJ bz) e).2
theorem yZ{e:Qz}{t:Tg}(z:((lv O 20).t (bJ bz) true e).map (·.1)=some t):oM (cF.cx h h' prog w g d os tk) (bJ bz) true e t:=by
 refine wM z ?_;clear z;rintro p-rfl;exact p.2
theorem Hf(T:EQ (cF.cx h h' prog w g d os tk)):d5 (cF.cx h h' prog w g d os tk) (bJ bz) (cS 9) KX:=by
 have b:=Nd;simp only[SM]at b;refine ar b ?_;intro b b4;refine ar b ?_;intro b b3;refine ar b ?_;intro b1 b2;have hd:fx (cF.cx h h' prog w g d os tk) (bJ bz) (i9 0 (i9 1 (cR (cS 9)))) (BL (.b .e) 2):=xV T (Nh O▸((lv O 20).c (bJ bz) (i9 0 (i9 1 (cR (cS 9))))).2);refine rwr Gn ?_;exact kr (wo O rfl Nc Nb b4 (by unfold cH;refine rwr TP (rwr TP (rwr b1 (rwr b2 ?_)));rfl) (bp b1 (jP O (Ni O)) (bp b2 (wp hd (jP O (Ng O)) (jP O (Nf O))) bE))) (yZ O (Na O)) rfl (by refine rwr b3 ?_;rfl)
theorem DU:d5 (cF.cx h h' prog w g d os tk) (bJ bz) (cS 10) (G4 (cF.cx h h' prog w g d os tk)):=by
 have b:=KK;simp only[SM]at b;refine ar b ?_;intro b b5;refine ar b ?_;intro b b4;refine ar b ?_;intro b b3;refine ar b ?_;intro b1 b2;refine rwr CN ?_;exact kr (pH O rfl KJ KH b5 (by unfold cH;refine rwr TP (rwr TP (rwr TP (rwr TP (rwr b1 (rwr b2 (rwr b3 (rwr b4 ?_)))))));rfl) (bp b1 (jP O (KQ O)) (bp b2 (jP O (KN O)) (bp b3 (jP O (KM O)) (bp b4 (Gz (jP O (KL O))) bE))))) (yZ O (KG O)) rfl (by cases gJ (IQ (cS 10))<;>rfl)
theorem Hj:kT (cF.cx h h' prog w g d os tk) (bJ bz) (oH (cR (cS 0))) KY [] (FW (cR (cS 0))) ao (t1 .e) iZ (l6 (oH (cR (cS 0)))):=by
 refine wM (Eu O) ?_;rintro p-e;have z:=p.2;rw[e]at z;exact z
theorem Hn(T:lL (cF.cx h h' prog w g d os tk))(ck:Tx.Ck cF h)(hv:cF.views h=cF.due)(kp:bv h h'):uC (cF.cx h h' prog w g d os tk) (dy wd):=by
 have TO:=Tx.tabX (y1:=FM) (y2:=FL) ck kp hv O (λnd hm=>?_) DY (λr hr=>List.map_inj_left.mp (y8 O) r hr)
 ·rw[DT]at TO;exact TO
 ·rw[Hh]at hm;have other:nd∈(cF.names.zip cF.dfs).take 45++(cF.names.zip cF.dfs).drop 46->fg (cF.cx h h' prog w g d os tk) (bJ nd.2) FM FL ((yf (cF.ov nd.1)).1 nd.2.body):=λhm=>by
   have z:=bj (Rl.mp DW nd hm);have e:cF.ov nd.1=.k:=by show Mc nd.1=_;unfold Mc;refine rwr z ?_;rfl
   refine rwr e ?_;exact λx hx=>absurd hx QW
  rcases RG.mp hm with hm|hm
  ·exact other (RW _ hm)
  ·rcases QH.mp hm with rfl|hm
   ·have e:(yf (cF.ov (some ("LRGeneratedTable":Str),("lr_parse_table":Str)))).1 FN.body=[(true,sH 0),(false,sH 1)]:=DX;refine rwr e ?_;intro x hx;rcases QH.mp hx with rfl|hx
    ·have z:=(si O (lv O 20) (mh cF.lm) 20 (bJ FN) (sH 0)).2;rw[Hl]at z;exact zL T (z λr hr=>absurd hr QW)
    ·rcases QH.mp hx with rfl|hx
     ·have z:=(si O (lv O 20) (mh cF.lm) 20 (bJ FN) (sH 1)).2;rw[Hk]at z;exact zK T (by decide) (z λr hr=>absurd hr QW)
     ·exact absurd hx QW
   ·exact other (Ro _ hm)
theorem Ph:(si O (lv O 20) (mh cF.lm) 20 (bJ bz) (cS 1)).1=(Np,[]):=by kernel_rfl
theorem Pf:(si O (lv O 20) (mh cF.lm) 20 (bJ bz) (cS 2)).1=(No,[]):=by kernel_rfl
theorem Pe:(si O (lv O 20) (mh cF.lm) 20 (bJ bz) (cS 3)).1=(Nn,[]):=by kernel_rfl
theorem Pc:(si O (lv O 20) (mh cF.lm) 20 (bJ bz) (cS 4)).1=(Nm,[]):=by kernel_rfl
theorem Pb:(si O (lv O 20) (mh cF.lm) 20 (bJ bz) (cS 5)).1=(IF,[]):=by kernel_rfl
theorem P8:(si O (lv O 20) (mh cF.lm) 20 (bJ bz) (cS 6)).1=(Nl,[]):=by kernel_rfl
theorem P7:(si O (lv O 20) (mh cF.lm) 20 (bJ bz) (cS 7)).1=(Oh,[]):=by kernel_rfl
theorem OZ:(si O (lv O 20) (mh cF.lm) 20 (bJ bz) (cS 8)).1=(Og,[]):=by kernel_rfl
theorem Mr:(si O (lv O 20) (mh cF.lm) 20 (bJ bz) (cS 11)).1=(C6,[]):=by kernel_rfl
theorem Mq:(si O (lv O 20) (mh cF.lm) 20 (bJ bz) (cS 12)).1=(C5,[]):=by kernel_rfl
theorem Mp:(si O (lv O 20) (mh cF.lm) 20 (bJ bz) (cS 13)).1=(EY,[]):=by kernel_rfl
theorem Ho(ck:Tx.Ck cF h)(hv:cF.views h=cF.due)(kp:bv h h'):∃ob fd dv,fd.scope=bz.sc∧yw (cF.cx h h' prog w g d os tk) (gy h "law") (pn bz).length bz.ds (lH O (mh cF.lm) (bJ bz) FM FL .k bz.body).1 ob fd bz.body dv (pn bz) (nD bz):=
 xa O (mh cF.lm) FM FL (Tx.headX ck kp hv Hi) AL (λx hx=>absurd hx QW) (by refine rwr (Hg O) ?_;exact λr hr=>absurd hr QW)
end
theorem DV(J:IE)(w:U5)(h:SG)(s:QE)(sa:Ri)(items:Array QD)(ns:List Int)(ck:Tx.Ck cF h)(hv:cF.views h=cF.due)(kp:bv h s.heap)(hL:s.heap.IsList sa items)(hi:ml items.toList ns)(hlen:ns.length≤63)(hg:s.gens=#[]):
  codeAny (R6 pb w) callerA (.call (.ref (gy h "law")) ⟨[.ref sa],[]⟩) (jM (C8 s) λZ Z=>False) s:=by
 refine az (J ns hlen) ?_;intro tk hJ;refine b0 (hJ (cF.cx h s.heap pb w s.gens s.drawn s.os tk) rfl) ?_;intro T0 T1 hJ;have O:(cF.cx h s.heap pb w s.gens s.drawn s.os tk).Ok cF.pg:=Tx.okX ck kp;refine f9 (Ho O ck hv kp) ?_;intro ob fd dv hsc FO;refine AM (C:=cF.cx h s.heap pb w s.gens s.drawn s.os tk) (tabs:=cF.tabs h) ⟨O,Hn O T0 ck hv kp,Hj O,Em O▸((lv O 20).x (E9 (bJ bz) (FW (cR (cS 0))) (oH (cR (cS 0)))) (EF (cR (cS 0)))).2,?_,?_,?_,?_,?_,Tx.tabsUp ck kp,rfl,rfl,rfl,rfl,hg⟩ hsc FO rfl hL hi hlen hJ
 ·exact .cons (iH O (Ph O)) (.cons (iH O (Pf O)) (.cons (iH O (Pe O)) (.cons (iH O (Pc O)) .nil)))
 ·exact .cons (iH O (Pb O)) (.cons (iH O (P8 O)) .nil)
 ·exact .cons (iH O (P7 O)) (.cons (iH O (OZ O)) (.cons (Hf O T1) .nil))
 ·exact .cons (DU O) .nil
 ·exact .cons (iH O (Mr O)) (.cons (iH O (Mq O)) (.cons (iH O (Mp O)) .nil))
end
noncomputable abbrev l2:=TJ
theorem MC:namesResolve l2.row.prog=true:=by kernel_rfl
theorem MB:noRoadLSs {strict:=!(importedModules l2.row.prog.main.body).all cThrough.contains,foot:=none,bare:=(["vars","dir","locals"]:List Str).filter (readsOut l2.row.prog l2.row.prog.main.body)} l2.row.prog.main.body=true:=by kernel_rfl
theorem MD:(namesMeet l2.row.prog l2.row.prog.main.body λ_ n=>attrL n)=true:=by kernel_rfl
theorem Ea:looksOpen l2.row.prog=true:=by
 unfold looksOpen;rw[MC,MB,MD]
 kernel_rfl
theorem HG:l2.row.wellSaid=true:=by
 unfold OpenRow.wellSaid OpenRow.partSaid;rw[Ea]
 kernel_rfl
theorem HH:l2.wellSaid=true:=by
 unfold OpenLaw.wellSaid;rw[HG]
 kernel_rfl
theorem HJ:l2.prog.bare:=⟨rfl,rfl,rfl,rfl,by kernel_rfl,by kernel_rfl⟩
theorem HI:l2.row.toRowW.promised:=⟨[.list []],by decide+kernel,by decide+kernel⟩
theorem MJ:(chainsOk q2&&opensWell l2.prog&&(PySem.W.frees l2.row.toRowW&&l2.row.within.isEmpty))=true:=by kernel_rfl
noncomputable def d2:DefRec:=((defOf q2 l2.name).map (·.1)).getD ⟨"",⟨[],[],none,[],[],none,[]⟩,[],⟨.function,[],false,false,[]⟩,⟨0,0,0,0⟩⟩
theorem K9:defOf q2 l2.name=some (d2,[]):=by kernel_rfl
theorem K8:l2.prog.theDef l2.name=some (d2.params,d2.body,d2.scope):=by kernel_rfl
theorem MK:kwWritten? d2.params.kwonlyargs d2.params.kw_defaults=some []:=by kernel_rfl
theorem ML:((9223847026081398903:Nat),l2.name,Gm.fn (.f (.g .e)))∈cF.gl:=Rq (i:=14) (by kernel_rfl)
theorem Mv(J:IE):TJ.Holds:=Mb HH rfl rfl JQ K9 K8 MK rfl MJ HJ HI ML (λw h s sa items ns ck hv kp hL hi hlen hg=>DV J w h s sa items ns ck hv kp hL hi hlen hg)
section
section
noncomputable def eQ(l:List Nat):List KV:=l.map KV.nat
noncomputable def ug:Int->Nat
 |.ofNat n=>n%720720
 |.negSucc n=>720720-(n%720720).succ
noncomputable def gX:List KV:=[cI,eL,cJ,gA,cU]
noncomputable def kY:List KV:=[ju,j0,iA]
noncomputable def two(a b:KV):KV:=.cons a (.cons b .nil)
noncomputable def rk(d:Nat):Option KV:=if d%5=0 then none else some (two (kY.getD (d/4%3) .none) (.nat (1+d/12%3)))
noncomputable def d6:List KV->List Nat->KD
 |[],_=>.nil
 |c::r,ds=>match rk (ds.headD 0)with
  |none=>d6 r ds.tail
  |some v=>.cons c v (d6 r ds.tail)
noncomputable def lK:KD->KD->KD
 |.nil,d=>d
 |.cons a b r,d=>.cons a b (lK r d)
noncomputable def NM:Pa:=.g (.f .e)
theorem LL:tg NM bn=some (.fn 1 .nil NG):=by kernel_rfl
end
section
variable{c:Cl}{e e':En}{s s' s'':KS}{x y:X}{v w:KV}{q:Pa}{l:List KV}
theorem gU{p q:Pa}(h:QB (bB p) (bB q)=false):p≠q:=λz=>by subst z;rw[SH]at h;exact aO h.symm
theorem q8{a b:Nat}(h:QB a b=false):KV.str a≠KV.str b:=λz=>by cases z;rw[SH]at h;exact aO h.symm
theorem iS{vs:KV}(hx:Ev c x e s vs s')(hn:len vs≤100000):Ev c (sg x) e s (.fl vs) s':=λk h=>hx _ (by show aB (QJ (len vs) 100000) _ _=true;refine rwr (QK hn) ?_;exact h)
theorem rS{i:X}{m:Nat}{xs:KV}(hx:Ev c x e s (.fl xs) s')(hi:Ev c i e s' (.nat m) s'')(hm:ng m xs=some v):Ev c (aD x i) e s v s'':=λk h=>hx _ (hi _ (by show bQ (ng m xs) _ _=true;refine rwr hm ?_;exact h))
theorem qI{n:Nat}(hx:Ev c x e s (.nat n) s'):Tc c (cT x) e s (!QB n 0) s':=uQ hx λt f h=>by
 show aB (QB n 0) _ _=true;cases z:QB n 0<;>rw[z]at h<;>exact h
theorem zn{o i:X}{n:Nat}{es:KD}(hx:Ev c x e s v s)(ho:Ev c o e s (.ref q) s)(hi:Ev c i e s w s)(hq:tg q s.h=some (.dict n es))(hp:pk w=true)(hn:n+1≤100000)(hd:dl es w=none):St c (bV o i x) e s e (bD s q (.dict (n+1) (dset es w v))):=λF k h=>
 hx _ (ho _ (hi _ (bA hq (aP.mpr ⟨hp,aP.mpr ⟨QK hn,by unfold cz;refine rwr hd ?_;exact h⟩⟩))))
theorem LB{m:Nat}(h:m<3):ng m (au kY)=some (kY.getD m .none):=by
 rw[dU];exact DI (P:=λm=>(kY[m]?:Option KV)=some (kY.getD m .none)) rfl rfl rfl h
theorem rT:∀{es:KD},dl es w=none->dset es w v=lK es (.cons w v .nil)
 |.nil,_=>rfl
 |.cons a b r,h=>by
  have h:@RJ (λzz=>Option KV) (dl r w) (.some b) (bU a w)=none:=h;show@RJ (λzz=>KD) (.cons a b (dset r w v)) (.cons a v r) (bU a w)=.cons a b (lK r (.cons w v .nil));cases z:bU a w with
  |true=>rw[z]at h;exact uD h
  |false=>rw[z]at h;exact congrArg (KD.cons a b) (rT h)
theorem Bt{z:KV}:∀{es ds:KD},dl es z=none->dl ds z=none->dl (lK es ds) z=none
 |.nil,_,_,h=>h
 |.cons a b r,ds,h,k=>by
  have h:@RJ (λzz=>Option KV) (dl r z) (.some b) (bU a z)=none:=h;show@RJ (λzz=>Option KV) (dl (lK r ds) z) (.some b) (bU a z)=none;cases y:bU a z with
  |true=>rw[y]at h;exact uD h
  |false=>rw[y]at h;exact Bt h k
theorem BP:∀a b d:KD,lK (lK a b) d=lK a (lK b d)
 |.nil,_,_=>rfl
 |.cons x y r,b,d=>congrArg (KD.cons x y) (BP r b d)
theorem s9:∀a:KD,lK a .nil=a
 |.nil=>rfl
 |.cons x y r=>congrArg (KD.cons x y) (s9 r)
structure IU(qd qr:Pa)(ds:List Nat)(n:Nat)(es:KD)(e:En)(s:KS):Prop where
 wf:Wf s
 e0:tg .e e=some (.ref qd)
 ea:tg (.a .e) e=some (.ref qr)
 d:tg qd s.h=some (.list ds.length (au (eQ ds)))
 r:tg qr s.h=some (.dict n es)
 ne:qd≠qr
theorem Du{qd qr:Pa}{ds:List Nat}{n:Nat}{es:KD}{nm:KV}(I:IU qd qr ds n es e s)(hn:n<100)(hp:pk nm=true)(hd:dl es nm=none)(hm:tg (.b .e) e=some nm):
  ∃e' s' n' es',St c v8 e s e' s'∧IU qd qr ds.tail n' es' e' s'∧n'≤n+1∧es'=lK es (match rk (ds.headD 0)with|none=>.nil|some v=>.cons nm v .nil)∧∀q o,q≠qd->q≠qr->tg q s.h=some o->tg q s'.h=some o:=by
 have tk:∃s1,St c (av (t1 (.c .e)) (dQ (cT (ae .e)) (mW (ae .e)) (af (.nat 0)))) e s (tp (.c .e) (.nat (ds.headD 0)) e) s1∧IU qd qr ds.tail n es (tp (.c .e) (.nat (ds.headD 0)) e) s1∧∀q o,q≠qd->tg q s.h=some o->tg q s1.h=some o:=by
  have t:Tc c (cT (ae .e)) e s (!QB ds.length 0) s:=uQ (ag I.e0) λt f=>kc I.d t f;cases ds with
  |nil=>exact⟨s,aG (gd t aj),⟨I.wf,(am _ (gU rfl)).trans I.e0,(am _ (gU rfl)).trans I.ea,I.d,I.r,I.ne⟩,λZ Z Z h=>h⟩
  |cons a r=>exact⟨_,aG (gc t (xg (r:=au (eQ r)) (ag I.e0) I.d)),⟨I.wf.put I.d,(am _ (gU rfl)).trans I.e0,(am _ (gU rfl)).trans I.ea,fu,(bl I.ne.symm).trans I.r,I.ne⟩,λq o h k=>(bl h).trans k⟩
 refine b8 tk ?_;intro s1 h1 J k1;have hc:tg (.c .e) (tp (.c .e) (.nat (ds.headD 0)) e)=some (.nat (ds.headD 0)):=aS _ _ _;have hb:tg (.b .e) (tp (.c .e) (.nat (ds.headD 0)) e)=some nm:=(am _ (gU rfl)).trans hm;generalize tp (.c .e) (.nat (ds.headD 0)) e=e1 at*;generalize ds.headD 0=d at*;have t:Tc c (cT (aW dG (ae (.c .e)) (af (.nat 5)))) e1 s1 (!QB (d%5) 0) s1:=qI (f8 (b:=4) (ag hc) aj);by_cases z:d%5=0
 ·have z':QB (d%5) 0=true:=by rw[z];rfl
  rw[z']at t;refine⟨e1,s1,n,es,bc h1 (aQ (bk t br)),J,RA n,?_,λq o a Z h=>k1 q o a h⟩;unfold rk;rw[if_pos z,s9]
 ·have z':QB (d%5) 0=false:=by cases h:QB (d%5) 0 with|true=>exact absurd (QY h) z|false=>rfl
  rw[z']at t;have m1:d/4%3<3:=T6 _ (by decide);have ew:Ev c (aD (sg (ab (af ju) (ab (af j0) (ab (af iA) ao)))) (aW dG (aW sA (ae (.c .e)) (af (.nat 4))) (af (.nat 3)))) e1 s1 (kY.getD (d/4%3) .none) s1:=
   rS (iS (vs:=au kY) (ai aj (ai aj (ai aj aM))) (show 3≤100000 by decide)) (f8 (b:=2) (lV (b:=3) (ag hc) aj (by decide)) aj) (LB m1)
  have el:Ev c (aW c9 (af (.nat 1)) (aW dG (aW sA (ae (.c .e)) (af (.nat 12))) (af (.nat 3)))) e1 s1 (.nat (1+d/12%3)) s1:=gf aj (f8 (b:=2) (lV (b:=11) (ag hc) aj (by decide)) aj);have st:=zn (c:=c) (ai ew (ai el aM)) (ag J.ea) (ag hb) J.r hp (by exact QG hn (QU 100 99900)) hd;refine⟨e1,_,n+1,dset es nm (two (kY.getD (d/4%3) .none) (.nat (1+d/12%3))),bc h1 (aQ (cV t (aQ st))),⟨J.wf.put J.r,J.e0,J.ea,(bl J.ne).trans J.d,fu,J.ne⟩,QZ _,?_,λq o a b h=>(bl b).trans (k1 q o a h)⟩;unfold rk;exact rwr (if_neg z) (rwr (rT hd) rfl)
theorem wE{qd qr ql:Pa}(h1:ql≠qd)(h2:ql≠qr){nms:List KV}:∀(r pre:List KV)(ds:List Nat)(n:Nat)(es:KD)(m:Nat)(e:En)(s:KS),nms=pre++r->r.length<m->n+r.length<100->(∀x∈r,pk x=true∧dl es x=none)->r.Nodup->tg ql s.h=some (.list nms.length (au nms))->IU qd qr ds n es e s->
  ∃e' s' n',G2 c (t1 (.b .e)) v8 aa m (.list ql pre.length) e s e' s'∧IU qd qr (ds.drop r.length) n' (lK es (d6 r ds)) e' s'∧n'≤n+r.length∧∀q o,q≠qd->q≠qr->tg q s.h=some o->tg q s'.h=some o
 |r,pre,ds,n,es,0,e,s,_,hm,_,_,_,_,_=>by cases hm
 |[],pre,ds,n,es,m+1,e,s,hl,_,_,_,_,hq,I=>⟨e,s,n,rB (mz hq (by rw[hl,RO];exact RU (QZ _))) br,by rw[show lK es (d6 [] ds)=es from s9 es];exact I,QZ _,λZ Z Z Z h=>h⟩
 |x::r,pre,ds,n,es,m+1,e,s,hl,hm,hn,hx,nd,hq,I=>by
  have hv:nms[pre.length]?=some x:=by rw[hl];simp
  have I1:IU qd qr ds n es (tp (.b .e) x e) s:=⟨I.wf,(am _ (gU rfl)).trans I.e0,(am _ (gU rfl)).trans I.ea,I.d,I.r,I.ne⟩
  have hn:n+(r.length+1)<100:=hn;refine ar (hx x QF) ?_;intro p1 p2;refine ub (Du (c:=c) I1 (by lia) p1 p2 (aS _ _ _)) ?_;intro e1 s1 n1 es1 st J l1 q1 k1;refine JF nd ?_;intro nx nd;have no:∀y∈r,pk y=true∧dl es1 y=none:=λy hy=>⟨(hx y (QI _ hy)).1,by
   rw[q1];refine Bt (hx y (QI _ hy)).2 ?_;cases rk (ds.headD 0)with
   |none=>rfl
   |some v=>
    show@RJ (λZ=>Option KV) none (.some v) (bU x y)=none;cases z:bU x y with
    |true=>exact absurd (gw z▸hy) nx
    |false=>rfl⟩
  refine fN (wE h1 h2 r (pre++[x]) ds.tail n1 es1 m e1 s1 (by rw[hl];simp) (by simpa using hm) (by lia) no nd (k1 _ _ h1 h2 hq) J) ?_;intro e2 s2 n2 lp J2 l2 k2;rw[QT]at lp;refine⟨e2,s2,n2,mH (mA hq hv) (λZ h=>h) st lp,?_,by show n2≤n+(r.length+1);lia,λq o a b h=>k2 q o a b (k1 q o a b h)⟩;have e3:lK es1 (d6 r ds.tail)=lK es (d6 (x::r) ds):=by
   rw[q1,BP];show lK es _=lK es (match rk (ds.headD 0)with|none=>d6 r ds.tail|some v=>.cons x v (d6 r ds.tail));cases rk (ds.headD 0)<;>rfl
  refine rwl e3 ?_;have e4:ds.tail.drop r.length=ds.drop (x::r).length:=by cases ds with|nil=>simp|cons a t=>rfl
  refine rwl e4 ?_;exact J2
def GV:X:=aK (ab (af cI) (ab (af eL) (ab (af cJ) (ab (af gA) (ab (af cU) ao)))))
theorem Al{d:Nat}{qd:Pa}{ds:List Nat}(wf:Wf s)(hq:tg qd s.h=some (.list ds.length (au (eQ ds)))):
  ∃s' qr n,Ca (aL bn (d+1)) NM (.cons (.ref qd) .nil) s (.ref qr) s'∧Wf s'∧tg qd s'.h=some (.list (ds.drop 5).length (au (eQ (ds.drop 5))))∧tg qr s'.h=some (.dict n (d6 gX ds))∧n≤5∧qd≠qr∧(∀q o,q≠qd->tg q s.h=some o->tg q s'.h=some o):=by
 have x1:Xt s (aR s (.dict 0 .nil)):=.new wf;have n1:tg s.n (aR s (.dict 0 .nil)).h=some (.dict 0 .nil):=cK;have a1:St (aL bn d) (av (t1 (.a .e)) bP) (tp .e (.ref qd) .nil) s (tp (.a .e) (.ref s.n) (tp .e (.ref qd) .nil)) (aR s (.dict 0 .nil)):=aG λk h=>h;have d1:=wf.ne hq;have fr:=wf.fresh;generalize aR s (.dict 0 .nil)=s1 at*;have x2:Xt s1 (aR s1 (.list gX.length (au gX))):=.new x1.wf;have n2:tg s1.n (aR s1 (.list gX.length (au gX))).h=some (.list gX.length (au gX)):=cK;have e2:Ev (aL bn d) GV (tp (.a .e) (.ref s.n) (tp .e (.ref qd) .nil)) s1 (.ref s1.n) (aR s1 (.list gX.length (au gX))):=cB (vs:=au gX) (ai aj (ai aj (ai aj (ai aj (ai aj aM))))) (show 5≤100000 by decide);have d2:=x1.wf.ne n1;have d3:=x1.wf.ne (x1.keep _ _ hq);generalize aR s1 (.list gX.length (au gX))=s2 at*;have nd:gX.Nodup:=by
  unfold gX cI eL cJ gA cU;simp;exact⟨⟨q8 rfl,q8 rfl,q8 rfl,q8 rfl⟩,⟨q8 rfl,q8 rfl,q8 rfl⟩,⟨q8 rfl,q8 rfl⟩,q8 rfl⟩
 refine fN (wE (c:=aL bn d) (λz=>d3 z.symm) (λz=>d2 z.symm) gX [] ds 0 .nil lN (tp (.a .e) (.ref s.n) (tp .e (.ref qd) .nil)) s2 rfl (by show 5<5000;decide) (by decide) (λx hx=>⟨by
  have h:∀x∈gX,pk x=true:=by unfold gX;simp only[QH,QW,or_false,forall_eq_or_imp,forall_eq];exact⟨rfl,rfl,rfl,rfl,rfl⟩
  exact h x hx,rfl⟩) nd n2 ⟨x2.wf,rfl,rfl,x2.keep _ _ (x1.keep _ _ hq),x2.keep _ _ n1,d1⟩) ?_
 intro e' s' n lp J hn k;refine⟨s',s.n,n,oG (e0:=tp .e (.ref qd) .nil) LL rfl (λk h=>h) (bq a1 (bq (qO (rG e2 n2) lp) (cY (gv (ag J.ea))))),J.wf,J.d,J.r,by have:gX.length=5:=rfl;exact hn,d1,λq o a h=>k q o a (λz=>by rw[z,fr]at h;exact cO h) (x2.keep _ _ (x1.keep _ _ h))⟩
end
end
section
section
noncomputable def NL:Pa:=.i (.f .e)
theorem LK:tg NL bn=some (.fn 3 .nil NF):=by kernel_rfl
def Sg(x:KV):Prop:=x=fR∨x=cI∨x=eL∨x=cJ∨x=gA
def j9(l:List KV):Prop:=∀x∈l,Sg x
def cn(l:List KV):Nat:=l.countP λx=>!(bU x fR||bU x eL)
end
theorem xl{A:Sort _}{B:Sort _}{C:Sort _}{D:Sort _}{E:Sort _}{p q r s:A->B->C->D->E->Prop}{G:Prop}(h:∃a b c d e,p a b c d e∧q a b c d e∧r a b c d e∧s a b c d e)(k:∀a b c d e,p a b c d e->q a b c d e->r a b c d e->s a b c d e->G):G:=h.elim λa h=>h.elim λb h=>h.elim λc h=>h.elim λd h=>h.elim λe h=>k a b c d e h.1 h.2.1 h.2.2.1 h.2.2.2
theorem Sg.pk{x:KV}(h:Sg x):pk x=true:=by rcases h with rfl|rfl|rfl|rfl|rfl<;>rfl
theorem j9.app{l m:List KV}(h:j9 l)(k:j9 m):j9 (l++m):=λx hx=>(RG.mp hx).elim (h x) (k x)
structure ie(s0:KS)(wq tq:Pa)(f cl:Nat)(acc wt:List KV)(b:Bool)(e:En)(s:KS):Prop where
 wf:Wf s
 kp:∀q o,tg q s0.h=some o->tg q s.h=some o
 w0:tg wq s0.h=none
 t0:tg tq s0.h=none
 ea:tg (.a .e) e=some (.nat f)
 eb:tg (.b .e) e=some (.nat cl)
 ec:tg (.c .e) e=some (.ref wq)
 ed:tg (.d .e) e=some (.ref tq)
 ef:tg (.f .e) e=some (.bool b)
 w:tg wq s.h=some (.list acc.length (au acc))
 t:tg tq s.h=some (.list wt.length (au wt))
 ne:wq≠tq
 al:j9 acc
 wl:j9 wt
section
variable{c:Cl}{e e':En}{s s' s'' s0:KS}{x y:X}{v w:KV}{q wq tq:Pa}{l acc wt:List KV}{f cl:Nat}{b:Bool}
theorem qK{n:Nat}(hx:Ev c x e s v s')(hy:Ev c y e s' (.ref q) s'')(hq:tg q s''.h=some (.list n (au l)))(hl:l.all pk=true)(hv:pk v=true):Tc c (aw gT x y) e s (gH l v) s'':=λt f k=>hx _ (hy _ (bA hq (by
 show aB (uz (au l)) false (aB (pk v) false (Fd t f s'' (mem v (au l))))=true;rw[m6,hl,hv,pW];exact k)))
theorem z8{n:Nat}(hx:Ev c x e s v s')(hy:Ev c y e s' (.ref q) s'')(hq:tg q s''.h=some (.list n (au l)))(hl:l.all pk=true)(hv:pk v=true):Tc c (aw k7 x y) e s (!gH l v) s'':=λt f k=>qK hx hy hq hl hv f t (by cases h:gH l v<;>rw[h]at k<;>exact k)
theorem Fa(h:Ev c x e s (.bool b) s'):Tc c (cT x) e s b s':=uQ h λt f k=>k
theorem kZ{a m:Nat}(hx:Ev c x e s (.nat a) s')(hy:Ev c y e s' (.nat m) s''):Tc c (aw jG x y) e s (!QB a m) s'':=λt f k=>fZ hx hy f t (by cases h:QB a m<;>rw[h]at k<;>exact k)
theorem HP{b1 b2:Bool}(h:Ev c x e s (.bool b1) s)(k:Ev c y e s (.bool b2) s):Ev c (IY x y) e s (.bool (b1||b2)) s:=λkk q=>h _ (by cases b1 with|true=>exact q|false=>exact k _ q)
theorem ie.set{p:Pa}(I:ie s0 wq tq f cl acc wt b e s)(v:KV)(h:(QB (bB p) (bB (.a .e))||QB (bB p) (bB (.b .e))||QB (bB p) (bB (.c .e))||QB (bB p) (bB (.d .e))||QB (bB p) (bB (.f .e)))=false):ie s0 wq tq f cl acc wt b (tp p v e) s:=by
 simp only[SM]at h;refine ar h ?_;intro h h5;refine ar h ?_;intro h h4;refine ar h ?_;intro h h3;refine ar h ?_;intro h1 h2;have n:∀{q:Pa},QB (bB p) (bB q)=false->q≠p:=λh z=>gU h z.symm;exact⟨I.wf,I.kp,I.w0,I.t0,(am _ (n h1)).trans I.ea,(am _ (n h2)).trans I.eb,(am _ (n h3)).trans I.ec,(am _ (n h4)).trans I.ed,(am _ (n h5)).trans I.ef,I.w,I.t,I.ne,I.al,I.wl⟩
theorem ie.want(I:ie s0 wq tq f cl acc wt b e s)(b':Bool):ie s0 wq tq f cl acc wt b' (tp (.f .e) (.bool b') e) s:=⟨I.wf,I.kp,I.w0,I.t0,(am _ (gU rfl)).trans I.ea,(am _ (gU rfl)).trans I.eb,(am _ (gU rfl)).trans I.ec,(am _ (gU rfl)).trans I.ed,aS _ _ _,I.w,I.t,I.ne,I.al,I.wl⟩
theorem ie.grow(I:ie s0 wq tq f cl acc wt b e s)(x:Xt s s'):ie s0 wq tq f cl acc wt b e s':=⟨x.wf,λq o h=>x.keep _ _ (I.kp q o h),I.w0,I.t0,I.ea,I.eb,I.ec,I.ed,I.ef,x.keep _ _ I.w,x.keep _ _ I.t,I.ne,I.al,I.wl⟩
theorem ie.putW(I:ie s0 wq tq f cl acc wt b e s){a:List KV}(h:j9 a):ie s0 wq tq f cl a wt b e (bD s wq (.list a.length (au a))):=⟨I.wf.put I.w,λq o h=>(bl λz=>by rw[z,I.w0]at h;exact cO h).trans (I.kp q o h),I.w0,I.t0,I.ea,I.eb,I.ec,I.ed,I.ef,fu,(bl I.ne.symm).trans I.t,I.ne,h,I.wl⟩
theorem ie.putT(I:ie s0 wq tq f cl acc wt b e s){a:List KV}(h:j9 a):ie s0 wq tq f cl acc a b e (bD s tq (.list a.length (au a))):=⟨I.wf.put I.t,λq o h=>(bl λz=>by rw[z,I.t0]at h;exact cO h).trans (I.kp q o h),I.w0,I.t0,I.ea,I.eb,I.ec,I.ed,I.ef,(bl I.ne).trans I.w,fu,I.ne,I.al,h⟩
theorem A9{l:List KV}(h:j9 l){k:Nat}(hk:k<l.length){G:Prop}(k0:∀x,Sg x->ng k (au l)=some x->G):G:=k0 (l[k]) (h _ (List.getElem_mem _)) (by rw[dU];exact QM hk)
theorem Dq{d:Nat}(wf:Wf s)(ha:tg (.a .e) e=some (.nat f))(hf:tg (.f .e) e=some (.bool b))(hd:tg (.g .e) e=some (.nat d)):∃s' x,Sg x∧Xt s s'∧St c Ae e s (tp (.h .e) x e) s':=by
 have t:Tc c (aw d7 (aW dG (aW sA (ae (.g .e)) (af (.nat 28))) (af (.nat 7))) (af (.nat 6))) e s (QB (d/28%7) 6) s:=fZ (f8 (b:=6) (lV (b:=27) (ag hd) aj (by decide)) aj) aj;cases hb:QB (d/28%7) 6 with
 |true=>
  rw[hb]at t;refine A9 (l:=[fR,cI,eL,cJ,gA]) (by unfold j9;simp only[QH,QW,or_false,forall_eq_or_imp,forall_eq];exact⟨.inl rfl,.inr (.inl rfl),.inr (.inr (.inl rfl)),.inr (.inr (.inr (.inl rfl))),.inr (.inr (.inr (.inr rfl)))⟩) (show d/196%5<5 from T6 _ (by decide)) ?_;intro x sx hx;exact⟨s,x,sx,.refl wf,cV t (aQ (aG (rS (iS (vs:=au [fR,cI,eL,cJ,gA]) (ai aj (ai aj (ai aj (ai aj (ai aj aM))))) (show 5≤100000 by decide)) (f8 (b:=4) (lV (b:=195) (ag hd) aj (by decide)) aj) hx)))⟩
 |false=>
  rw[hb]at t;have t2:=Fa (c:=c) (s:=s) (ag hf);cases b with
  |true=>
   have n1:tg s.n (aR s (.list 3 (au [.nat 1,.nat 3,.nat 4]))).h=some (.list 3 (au [.nat 1,.nat 3,.nat 4])):=cK;have t3:Tc c (aw gT (ae (.a .e)) (aK (ab (af (.nat 1)) (ab (af (.nat 3)) (ab (af (.nat 4)) ao))))) e s (gH [.nat 1,.nat 3,.nat 4] (.nat f)) (aR s (.list 3 (au [.nat 1,.nat 3,.nat 4]))):=qK (ag ha) (cB (vs:=au [.nat 1,.nat 3,.nat 4]) (ai aj (ai aj (ai aj aM))) (show 3≤100000 by decide)) n1 rfl rfl;have ez:∃z,(z=cJ∨z=cI)∧Ev c (dQ (aw gT (ae (.a .e)) (aK (ab (af (.nat 1)) (ab (af (.nat 3)) (ab (af (.nat 4)) ao))))) (af cJ) (af cI)) e s z (aR s (.list 3 (au [.nat 1,.nat 3,.nat 4]))):=by
    cases hm:gH [.nat 1,.nat 3,.nat 4] (.nat f)with
    |true=>rw[hm]at t3;exact⟨cJ,.inl rfl,gc t3 aj⟩
    |false=>rw[hm]at t3;exact⟨cI,.inr rfl,gd t3 aj⟩
   refine ah ez ?_;intro z hz ez;refine A9 (l:=[fR,cI,fR,z]) (by unfold j9;simp only[QH,QW,or_false,forall_eq_or_imp,forall_eq];exact⟨.inl rfl,.inr (.inl rfl),.inl rfl,hz.elim (λh=>.inr (.inr (.inr (.inl h)))) λh=>.inr (.inl h)⟩) (show d%4<4 from T6 _ (by decide)) ?_;intro x sx hx;exact⟨_,x,sx,.new wf,bk t (aQ (cV t2 (aQ (aG (rS (iS (vs:=au [fR,cI,fR,z]) (ai aj (ai aj (ai aj (ai ez aM)))) (show 4≤100000 by decide)) (f8 (b:=3) (ag hd) aj) hx)))))⟩
  |false=>
   have t3:Tc c (k8 (aw d7 (ae (.a .e)) (af (.nat 3))) (cT (aW dG (ae (.g .e)) (af (.nat 2))))) e s (QB f 3||!QB (d%2) 0) s:=sN (fZ (ag ha) aj) (qI (f8 (b:=1) (ag hd) aj));cases hm:(QB f 3||!QB (d%2) 0)with
   |true=>rw[hm]at t3;exact⟨s,eL,.inr (.inr (.inl rfl)),.refl wf,bk t (aQ (bk t2 (aQ (aG (gc t3 aj)))))⟩
   |false=>rw[hm]at t3;exact⟨s,gA,.inr (.inr (.inr (.inr rfl))),.refl wf,bk t (aQ (bk t2 (aQ (aG (gd t3 aj)))))⟩
theorem ie.app(I:ie s0 wq tq f cl acc wt b e s){z:KV}(hz:Sg z)(ev:Ev c y e s z s)(hl:acc.length≤1000):∃s',St c (aY (cX (ae (.c .e)) y)) e s e s'∧ie s0 wq tq f cl (acc++[z]) wt b e s':=by
 have ea:=lC (ag I.ec) I.w ev I.w (by exact Rp hl (QU (QR 1000) 98999));rw[show Internal.app (au acc) (.cons z .nil)=au (acc++[z])from dZ acc [z],show acc.length+1=(acc++[z]).length by simp]at ea;exact⟨_,fO ea,I.putW (I.al.app λy hy=>RZ.mp hy▸hz)⟩
theorem ie.appT(I:ie s0 wq tq f cl acc wt b e s){z:KV}(hz:Sg z)(ev:Ev c y e s z s)(hl:wt.length≤1000):∃s',St c (aY (cX (ae (.d .e)) y)) e s e s'∧ie s0 wq tq f cl acc (wt++[z]) b e s':=by
 have ea:=lC (ag I.ed) I.t ev I.t (by omega);rw[show Internal.app (au wt) (.cons z .nil)=au (wt++[z])from dZ wt [z],show wt.length+1=(wt++[z]).length by simp]at ea;exact⟨_,fO ea,I.putT (I.wl.app λy hy=>RZ.mp hy▸hz)⟩
theorem ie.pop{n:Nat}(I:ie s0 wq tq f cl acc wt b e s)(hn:wt.length=n+1):∃s' z wt',St c (av (t1 (.i .e)) (kX (ae (.d .e)))) e s (tp (.i .e) z e) s'∧Ev c (kX (ae (.d .e))) e s z s'∧ie s0 wq tq f cl acc wt' b (tp (.i .e) z e) s'∧Sg z∧wt'.length=n:=by
 have ht:=I.t;rw[hn]at ht;have hz:∃z,wt[n]?=some z∧Sg z:=⟨wt[n]'(by simp_all+arith),QM (by omega),I.wl _ (List.getElem_mem _)⟩
 refine ah hz ?_;intro z hz sz;have ev:=Bd (c:=c) (ag I.ed) ht (by rw[dU];exact hz);have hl:(wt.take n).length=n:=by refine rwr S3 ?_;simp_all+arith
 have J:=I.putT (a:=wt.take n) λx hx=>I.wl x (Ub hx);rw[fq]at ev;rw[hl]at J;exact⟨_,z,wt.take n,aG ev,ev,J.set _ rfl,sz,hl⟩
theorem Dn{h:KV}(I:ie s0 wq tq f cl acc wt b e s)(hh:tg (.h .e) e=some h)(sh:Sg h)(hl:wt.length≤1000):∃e' s' wt' b',St c Ad e s e' s'∧ie s0 wq tq f cl acc wt' b' e' s'∧wt'.length≤wt.length+1:=by
 have t1:Tc c (k8 (aw d7 (ae (.h .e)) (af cJ)) (gh (aw d7 (ae (.h .e)) (af cI)) (aw jG (ae (.a .e)) (af (.nat 4))))) e s (bU h cJ||(bU h cI&&!QB f 4)) s:=sN (fK (ag hh) aj sh.pk rfl) (l5 (fK (ag hh) aj sh.pk rfl) (kZ (ag I.ea) aj));cases b1:(bU h cJ||(bU h cI&&!QB f 4))with
 |true=>
  rw[b1]at t1;refine ah (I.appT (c:=c) sh (ag hh) hl) ?_;intro s1 st J;exact⟨e,s1,_,b,cV t1 (aQ st),J,by exact TC QT⟩
 |false=>
  rw[b1]at t1;have t2:Tc c (aw d7 (ae (.h .e)) (af eL)) e s (bU h eL) s:=fK (ag hh) aj sh.pk rfl;cases b2:bU h eL with
  |true=>
   rw[b2]at t2;have key:∃s1 z wt',St c (av (Internal.t1 (.i .e)) (dQ (cT (ae (.d .e))) (kX (ae (.d .e))) (af (.str 1)))) e s (tp (.i .e) z e) s1∧ie s0 wq tq f cl acc wt' b (tp (.i .e) z e) s1∧pk z=true∧wt'.length≤wt.length:=by
    have t:Tc c (cT (ae (.d .e))) e s (!QB wt.length 0) s:=uQ (ag I.ed) λt f=>kc I.t t f;cases hw:wt.length with
    |zero=>rw[hw]at t;exact⟨s,.str 1,wt,aG (gd t aj),I.set _ rfl,rfl,TC hw⟩
    |succ n=>
     rw[hw]at t;refine dM (I.pop (c:=c) hw) ?_;rintro s1 z wt'-ev J sz lz;exact⟨s1,z,wt',aG (gc t ev),J,sz.pk,by simp_all+arith⟩
   refine fN key ?_;intro s1 z wt' st J pz lz;have hi:tg (.i .e) (tp (.i .e) z e)=some z:=aS _ _ _;have eo:Ev c (IY (dz (aw jG (ae (.i .e)) (af cJ))) (dz (aw jG (ae (.a .e)) (af (.nat 1))))) (tp (.i .e) z e) s1 (.bool (!bU z cJ||!QB f 1)) s1:=HP (gr (qH (ag hi) aj pz rfl)) (gr (kZ (ag J.ea) aj));exact⟨_,s1,wt',_,bk t1 (aQ (cV t2 (bc st (aQ (aG eo))))),J.want _,by exact QG lz (RA wt.length)⟩
  |false=>
   rw[b2]at t2;have t3:Tc c (aw d7 (ae (.h .e)) (af gA)) e s (bU h gA) s:=fK (ag hh) aj sh.pk rfl;cases b3:bU h gA with
   |true=>
    rw[b3]at t3;have n1:tg s.n (aR s (.list 2 (au [.nat 1,.nat 2]))).h=some (.list 2 (au [.nat 1,.nat 2])):=cK;have eo:Ev c (dz (aw k7 (ae (.a .e)) (aK (ab (af (.nat 1)) (ab (af (.nat 2)) ao))))) e s (.bool (!gH [.nat 1,.nat 2] (.nat f))) (aR s (.list 2 (au [.nat 1,.nat 2]))):=gr (z8 (ag I.ea) (cB (vs:=au [.nat 1,.nat 2]) (ai aj (ai aj aM)) (show 2≤100000 by decide)) n1 rfl rfl);exact⟨_,_,wt,_,bk t1 (aQ (bk t2 (aQ (cV t3 (aQ (aG eo)))))),(I.grow (.new I.wf)).want _,RA _⟩
   |false=>rw[b3]at t3;exact⟨e,s,wt,b,bk t1 (aQ (bk t2 (aQ (bk t3 br)))),I,RA _⟩
theorem Do{d:Nat}(I:ie s0 wq tq f cl acc wt b e s)(hd:tg (.g .e) e=some (.nat d))(ha:acc.length≤1000)(hl:wt.length≤1000):∃e' s' acc' wt' b',St c v5 e s e' s'∧ie s0 wq tq f cl acc' wt' b' e' s'∧acc'.length=acc.length+1∧wt'.length≤wt.length+1:=by
 refine aH (Dq (c:=c) I.wf I.ea I.ef hd) ?_;intro s1 x sx x1 st1;have J:=(I.grow x1).set (p:=.h .e) x rfl;have hh:tg (.h .e) (tp (.h .e) x e)=some x:=aS _ _ _;generalize tp (.h .e) x e=e1 at*;refine ah (J.app (c:=c) sx (ag hh) ha) ?_;intro s2 st2 J;have st3:St c (av (t1 (.f .e)) (dz (aw jG (ae (.h .e)) (af fR)))) e1 s2 (tp (.f .e) (.bool (!bU x fR)) e1) s2:=aG (gr (qH (ag hh) aj sx.pk rfl));have J:=J.want (!bU x fR);have hh:tg (.h .e) (tp (.f .e) (.bool (!bU x fR)) e1)=some x:=(am _ (gU rfl)).trans hh;generalize tp (.f .e) (.bool (!bU x fR)) e1=e2 at*;refine FG (Dn (c:=c) J hh sx hl) ?_;intro e3 s3 wt' b' st4 J lw;exact⟨e3,s3,acc++[x],wt',b',bc st1 (bc st2 (bc st3 (aQ st4))),J,by exact QT,lw⟩
theorem He{a b r n:Nat}(h:a+(r+1)≤n)(l:b≤a+1):b+r≤n:=QG (Nat.add_le_add_right l r) (by rw[TR,Nat.add_comm 1];exact h)
theorem wA{ql:Pa}{nms:List Nat}(hq:tg ql s0.h=some (.list nms.length (au (eQ nms)))):∀(r pre:List Nat)(acc wt:List KV)(b:Bool)(m:Nat)(e:En)(s:KS),nms=pre++r->r.length<m->acc.length+r.length≤100->wt.length+r.length≤100->ie s0 wq tq f cl acc wt b e s->
  ∃e' s' acc' wt' b',G2 c (t1 (.g .e)) v5 aa m (.list ql pre.length) e s e' s'∧ie s0 wq tq f cl acc' wt' b' e' s'∧acc'.length=acc.length+r.length∧wt'.length≤wt.length+r.length
 |r,pre,acc,wt,b,0,e,s,_,hm,_,_,_=>by cases hm
 |[],pre,acc,wt,b,m+1,e,s,hl,_,_,_,I=>by
  have hv:(eQ nms)[pre.length]?=none:=by rw[hl,RO];unfold eQ;rw[Rj,RU (QZ _)];rfl
  exact⟨e,s,acc,wt,b,rB (mz (I.kp _ _ hq) hv) br,I,rfl,QZ _⟩
 |d::r,pre,acc,wt,b,m+1,e,s,hl,hm,h1,h2,I=>by
  have hv:(eQ nms)[pre.length]?=some (.nat d):=by rw[hl];unfold eQ;rw[Rj];simp
  have h1:acc.length+(r.length+1)≤100:=h1;have h2:wt.length+(r.length+1)≤100:=h2;refine xl (Do (c:=c) (I.set (p:=.g .e) (.nat d) rfl) (aS _ _ _) (QG (RB _ _) (QG h1 (by decide))) (QG (RB _ _) (QG h2 (by decide)))) ?_;intro e1 s1 acc1 wt1 b1 st J l1 l2;refine xl (wA hq r (pre++[d]) acc1 wt1 b1 m e1 s1 (by rw[hl];simp) (by simpa using hm) (He h1 (TC l1)) (He h2 l2) J) ?_;intro e2 s2 acc2 wt2 b2 lp J2 l3 l4;rw[QT]at lp;exact⟨e2,s2,acc2,wt2,b2,mH (mA (I.kp _ _ hq) hv) (λzz h=>h) st lp,J2,by show _=acc.length+(r.length+1);rw[l3,l1,TR,Nat.add_comm 1],QG l4 (He (QZ _) l2)⟩
theorem Eh{p:Pa}{n:Nat}{xs ys:KV}(hx:Ev c x e s (.ref p) s')(hy:Ev c y e s' (.fl ys) s'')(hp:tg p s''.h=some (.list n xs))(hn:n+len ys≤100000):Ev c (aW c9 x y) e s (.ref s''.n) (aR s'' (.list (n+len ys) (Internal.app xs ys))):=λk h=>hx _ (hy _ (bA hp (pZ hn h)))
def Lo(c:Cl)(d:Cn)(b o:Y)(m:Nat)(e:En)(s:KS)(e':En)(s':KS):Prop:=∀(F:Fr)(k:En->K0),k e' s'=true->J0 d b o c F k m e s=true
theorem G8{d:Cn}{y o:Y}{m:Nat}(h:Tc c d e s false s')(ho:St c o e s' e' s''):Lo c d y o (m+1) e s e' s'':=λF k hk=>h _ _ (ho F k hk)
theorem CB{d:Cn}{y o:Y}{m:Nat}{e1:En}{s1:KS}(h:Tc c d e s true s')(hb:St c y e s' e1 s1)(hl:Lo c d y o m e1 s1 e' s''):Lo c d y o (m+1) e s e' s'':=λF k hk=>h _ _ (hb _ _ (hl F k hk))
theorem vK(l m:List KV):cn (l++m)=cn l+cn m:=TM
theorem tj:∀(n:Nat)(wq:Pa)(acc wt:List KV)(m:Nat)(e:En)(s:KS),wt.length=n->n<m->acc.length+2*n≤200->ie s0 wq tq f cl acc wt b e s->
  ∃e' s' wq' acc',Lo c (cT (ae (.d .e))) GE aa m e s e' s'∧ie s0 wq' tq f cl acc' [] b e' s'∧acc'.length≤acc.length+2*n∧cn acc'=cn acc
 |n,wq,acc,wt,0,e,s,_,hm,_,_=>by cases hm
 |0,wq,acc,wt,m+1,e,s,hw,hm,ha,I=>by
  cases QP hw;have t:Tc c (cT (ae (.d .e))) e s false s:=uQ (ag I.ed) λt f=>kc I.t t f;exact⟨e,s,wq,acc,G8 t br,I,QZ _,rfl⟩
 |n+1,wq,acc,wt,m+1,e,s,hw,hm,ha,I=>by
  have t:Tc c (cT (ae (.d .e))) e s true s:=uQ (ag I.ed) λt f h=>kc I.t t f (by refine rwr hw ?_;exact h);refine dM (I.pop (c:=c) hw) ?_;rintro s1 z wt' st1-J sz lz;have hi:tg (.i .e) (tp (.i .e) z e)=some z:=aS _ _ _;generalize tp (.i .e) z e=e1 at*;have key:∃e2 s2 wq' acc',St c GE e s e2 s2∧ie s0 wq' tq f cl acc' wt' b e2 s2∧acc'.length≤acc.length+2∧cn acc'=cn acc:=by
   have t1:Tc c (gh (aw d7 (ae (.i .e)) (af cJ)) (aw d7 (ae (.a .e)) (af (.nat 1)))) e1 s1 (bU z cJ&&QB f 1) s1:=l5 (fK (ag hi) aj sz.pk rfl) (fZ (ag J.ea) aj);cases b1:(bU z cJ&&QB f 1)with
   |true=>
    rw[b1]at t1;refine ah (J.app (c:=c) (z:=eL) (.inr (.inr (.inl rfl))) aj (by lia)) ?_;intro s2 st2 J2;exact⟨e1,s2,wq,_,bc st1 (aQ (cV t1 (aQ st2))),J2,by simp,vK _ _⟩
   |false=>
    rw[b1]at t1;have t2:Tc c (k8 (aw d7 (ae (.i .e)) (af cJ)) (aw d7 (ae (.b .e)) (af (.nat 1)))) e1 s1 (bU z cJ||QB cl 1) s1:=sN (fK (ag hi) aj sz.pk rfl) (fZ (ag J.eb) aj);cases b2:(bU z cJ||QB cl 1)with
    |true=>
     rw[b2]at t2;have ev:=Eh (c:=c) (ys:=au [eL,fR]) (ag J.ec) (iS (x:=ab (af eL) (ab (af fR) ao)) (ai aj (ai aj aM)) (show 2≤100000 by decide)) J.w (by show acc.length+2≤100000;lia);rw[dZ]at ev;have ev:Ev c (aW c9 (ae (.c .e)) (sg (ab (af eL) (ab (af fR) ao)))) e1 s1 (.ref s1.n) (aR s1 (.list (acc++[eL,fR]).length (au (acc++[eL,fR])))):=by refine rwr QT ?_;exact ev
     have x1:Xt s1 (aR s1 (.list (acc++[eL,fR]).length (au (acc++[eL,fR])))):=.new J.wf;have K:ie s0 s1.n tq f cl (acc++[eL,fR]) wt' b (tp (.c .e) (.ref s1.n) e1) (aR s1 (.list (acc++[eL,fR]).length (au (acc++[eL,fR])))):=⟨x1.wf,λq o h=>x1.keep _ _ (J.kp q o h),by
       cases h:tg s1.n s0.h with
       |none=>rfl
       |some o=>have:=J.kp _ _ h;rw[J.wf.fresh]at this;exact cO this,J.t0,(am _ (gU rfl)).trans J.ea,(am _ (gU rfl)).trans J.eb,aS _ _ _,(am _ (gU rfl)).trans J.ed,(am _ (gU rfl)).trans J.ef,cK,x1.keep _ _ J.t,(J.wf.ne J.t).symm,J.al.app (by unfold j9;simp only[QH,QW,or_false,forall_eq_or_imp,forall_eq];exact⟨.inr (.inr (.inl rfl)),.inl rfl⟩),J.wl⟩
     exact⟨_,_,_,_,bc st1 (aQ (bk t1 (aQ (cV t2 (aQ (aG ev)))))),K,by exact TC QT,vK _ _⟩
    |false=>rw[b2]at t2;exact⟨e1,s1,wq,acc,bc st1 (aQ (bk t1 (aQ (bk t2 br)))),J,by exact RB _ _,rfl⟩
  refine jJ key ?_;intro e2 s2 wq2 acc2 st J2 l2 m2;refine jJ (tj n wq2 acc2 wt' m e2 s2 lz (Sz hm) (by lia) J2) ?_;intro e3 s3 wq3 acc3 wh J3 l3 m3;exact⟨e3,s3,wq3,acc3,CB t st wh,J3,by lia,m3.trans m2⟩
theorem GD(I:ie s0 wq tq f cl acc wt b e s)(ha:acc.length≤100)(hl:wt.length≤40):∃e' s' wq' acc' wt',St c Fe e s e' s'∧ie s0 wq' tq f cl acc' wt' b e' s'∧acc'.length≤acc.length+1+2*wt.length∧cn acc'=cn acc:=by
 have t:Tc c (aw jG (ae (.b .e)) (af (.nat 3))) e s (!QB cl 3) s:=kZ (ag I.eb) aj;cases hb:(!QB cl 3)with
 |false=>rw[hb]at t;exact⟨e,s,wq,acc,wt,bk t br,I,by omega,rfl⟩
 |true=>
  rw[hb]at t;have key:∃s1 acc1,St c (bw (cT (ae (.f .e))) (ad (aY (cX (ae (.c .e)) (af fR))) aa) aa) e s e s1∧ie s0 wq tq f cl acc1 wt b e s1∧acc1.length≤acc.length+1∧cn acc1=cn acc:=by
   have t2:=Fa (c:=c) (s:=s) (ag I.ef);cases b with
   |true=>
    refine ah (I.app (c:=c) (z:=fR) (.inl rfl) aj (by exact QG ha (QU 100 900))) ?_;intro s2 st2 J2;exact⟨s2,_,cV t2 (aQ st2),J2,by exact TC QT,vK _ _⟩
   |false=>exact⟨s,acc,bk t2 br,I,RA _,rfl⟩
  refine d9 key ?_;intro s1 acc1 st1 J l1 m1;refine jJ (tj (c:=c) wt.length wq acc1 wt lN e s1 rfl (by show wt.length<5000;exact Rp hl (QU (QR 40) 4959)) (by lia) J) ?_;intro e2 s2 wq2 acc2 wh J2 l2 m2;exact⟨e2,s2,wq2,acc2,[],cV t (bc st1 (aQ λF k hk=>wh F k hk)),J2,by lia,m2.trans m1⟩
theorem ti{d:Nat}{qd:Pa}{ds:List Nat}(wf:Wf s)(hq:tg qd s.h=some (.list ds.length (au (eQ ds))))(hn:ds.length≤100):
  ∃s' wq ws,Ca (aL bn (d+1)) NL (.cons (.ref qd) (.cons (.nat f) (.cons (.nat cl) .nil))) s (.ref wq) s'∧Wf s'∧(∀q o,tg q s.h=some o->tg q s'.h=some o)∧tg wq s'.h=some (.list ws.length (au ws))∧tg wq s.h=none∧j9 ws∧ws.length≤25∧cn ws≤8:=by
 have fr:=wf.fresh;have x1:Xt s (aR s (.list 0 .nil)):=.new wf;have n1:tg s.n (aR s (.list 0 .nil)).h=some (.list 0 .nil):=cK;have a1:St (aL bn d) (av (t1 (.c .e)) (aK ao)) (tp (.b .e) (.nat cl) (tp (.a .e) (.nat f) (tp .e (.ref qd) .nil))) s (tp (.c .e) (.ref s.n) (tp (.b .e) (.nat cl) (tp (.a .e) (.nat f) (tp .e (.ref qd) .nil)))) (aR s (.list 0 .nil)):=aG (cB (vs:=.nil) aM (show 0≤100000 by decide));generalize aR s (.list 0 .nil)=s1 at*;have x2:Xt s1 (aR s1 (.list 0 .nil)):=.new x1.wf;have n2:tg s1.n (aR s1 (.list 0 .nil)).h=some (.list 0 .nil):=cK;have a2:St (aL bn d) (av (t1 (.d .e)) (aK ao)) (tp (.c .e) (.ref s.n) (tp (.b .e) (.nat cl) (tp (.a .e) (.nat f) (tp .e (.ref qd) .nil)))) s1 (tp (.d .e) (.ref s1.n) (tp (.c .e) (.ref s.n) (tp (.b .e) (.nat cl) (tp (.a .e) (.nat f) (tp .e (.ref qd) .nil))))) (aR s1 (.list 0 .nil)):=aG (cB (vs:=.nil) aM (show 0≤100000 by decide));have d1:=x1.wf.ne n1;have fr1:tg s1.n s.h=none:=by
  cases h:tg s1.n s.h with
  |none=>rfl
  |some o=>have:=x1.keep _ _ h;rw[x1.wf.fresh]at this;exact cO this
 generalize aR s1 (.list 0 .nil)=s2 at*;have k02:∀q o,tg q s.h=some o->tg q s2.h=some o:=λq o h=>x2.keep _ _ (x1.keep _ _ h);have m1:=x2.keep _ _ n1;have d2:=x2.wf.ne m1;have d3:=x2.wf.ne n2;have fr2:tg s2.n s.h=none:=by
  cases h:tg s2.n s.h with
  |none=>rfl
  |some o=>have:=k02 _ _ h;rw[x2.wf.fresh]at this;exact cO this
 have a3:St (aL bn d) (av (t1 (.f .e)) (af (.bool true))) (tp (.d .e) (.ref s1.n) (tp (.c .e) (.ref s.n) (tp (.b .e) (.nat cl) (tp (.a .e) (.nat f) (tp .e (.ref qd) .nil))))) s2 (tp (.f .e) (.bool true) (tp (.d .e) (.ref s1.n) (tp (.c .e) (.ref s.n) (tp (.b .e) (.nat cl) (tp (.a .e) (.nat f) (tp .e (.ref qd) .nil)))))) s2:=aG aj;have l8:(ds.take 8).length≤8:=by refine rwr S3 ?_;lia
 have et:Ev (aL bn d) (Cv (ae .e) (af (.nat 8))) (tp (.f .e) (.bool true) (tp (.d .e) (.ref s1.n) (tp (.c .e) (.ref s.n) (tp (.b .e) (.nat cl) (tp (.a .e) (.nat f) (tp .e (.ref qd) .nil)))))) s2 (.ref s2.n) (aR s2 (.list (ds.take 8).length (au (eQ (ds.take 8))))):=by
  have:=B9 (c:=aL bn d) (e:=tp (.f .e) (.bool true) (tp (.d .e) (.ref s1.n) (tp (.c .e) (.ref s.n) (tp (.b .e) (.nat cl) (tp (.a .e) (.nat f) (tp .e (.ref qd) .nil)))))) (x:=ae .e) (i:=af (.nat 8)) (m:=8) (ag rfl) aj (k02 _ _ hq) (by exact QG hn (QU 100 99900));rw[fq]at this;have e1:(eQ ds).take 8=eQ (ds.take 8):=by unfold eQ;exact rwr List.map_take rfl
  rw[e1,show min 8 ds.length=(ds.take 8).length by rw[S3]]at this;exact this
 have n3:tg s2.n (aR s2 (.list (ds.take 8).length (au (eQ (ds.take 8))))).h=some (.list (ds.take 8).length (au (eQ (ds.take 8)))):=cK;have x3:Xt s2 (aR s2 (.list (ds.take 8).length (au (eQ (ds.take 8))))):=.new x2.wf;generalize aR s2 (.list (ds.take 8).length (au (eQ (ds.take 8))))=s3 at*;have hb:tg s2.n (bD s s2.n (.list (ds.take 8).length (au (eQ (ds.take 8))))).h=some (.list (ds.take 8).length (au (eQ (ds.take 8)))):=fu;have I:ie (bD s s2.n (.list (ds.take 8).length (au (eQ (ds.take 8))))) s.n s1.n f cl [] [] true (tp (.f .e) (.bool true) (tp (.d .e) (.ref s1.n) (tp (.c .e) (.ref s.n) (tp (.b .e) (.nat cl) (tp (.a .e) (.nat f) (tp .e (.ref qd) .nil)))))) s3:=⟨x3.wf,λq o h=>by
  by_cases z:q=s2.n
  ·subst z;rw[fu]at h;cases QN h;exact n3
  ·rw[bl z]at h;exact x3.keep _ _ (k02 _ _ h),(bl d2).trans fr,(bl d3).trans fr1,rfl,rfl,rfl,rfl,rfl,x3.keep _ _ m1,x3.keep _ _ n2,d1,λx hx=>absurd hx QW,λx hx=>absurd hx QW⟩
 refine xl (wA (c:=aL bn d) (nms:=ds.take 8) hb (ds.take 8) [] [] [] true lN _ s3 rfl (by show(ds.take 8).length<5000;omega) (by show 0+_≤100;omega) (by show 0+_≤100;omega) I) ?_;intro e4 s4 acc wt b lp J la lw;have la:acc.length=0+(ds.take 8).length:=la;have lw:wt.length≤0+(ds.take 8).length:=lw;refine xl (GD (c:=aL bn d) J (by omega) (by omega)) ?_;intro e5 s5 wq acc' wt' st K lk mk;refine⟨s5,wq,acc',oG (e0:=tp (.b .e) (.nat cl) (tp (.a .e) (.nat f) (tp .e (.ref qd) .nil))) LK rfl (λk h=>h) (bq a1 (bq a2 (bq a3 (bq (qO (rG et n3) lp) (bq st (cY (gv (ag K.ec)))))))),K.wf,λq o h=>K.kp q o ((bl λz=>by rw[z,fr2]at h;exact cO h).trans h),K.w,?_,K.al,by omega,by have:cn acc≤acc.length:=List.countP_le_length;omega⟩;have z:=K.w0;by_cases y:wq=s2.n
 ·subst y;rw[fu]at z;exact uD z
 ·rw[bl y]at z;exact z
end
end
section
section
noncomputable def NK:Pa:=.h (.f .e)
noncomputable def aF(l:List KV):KO:=.list l.length (au l)
noncomputable def un(b:Bool)(x:KV):KV:=bif b then x else c0
abbrev E3:=Pa×List KV×KV
noncomputable def bY(en:List E3):List KV:=en.map λx=>two (.ref x.1) x.2.2
theorem LJ:tg NK bn=some (.fn 2 .nil NA):=by kernel_rfl
end
structure p9(s0:KS)(sq:Pa)(en:List E3)(s:KS):Prop where
 wf:Wf s
 kp:∀q o,tg q s0.h=some o->tg q s.h=some o
 q0:tg sq s0.h=none
 f0:∀x∈en,tg x.1 s0.h=none
 nd:(sq::en.map (·.1)).Nodup
 l:tg sq s.h=some (aF (bY en))
 at_:∀x∈en,tg x.1 s.h=some (aF x.2.1)
section
variable{c:Cl}{e e':En}{s s' s'' s0:KS}{x y:X}{v w:KV}{q sq:Pa}{a b:List E3}
theorem mE(kp:∀q o,tg q s0.h=some o->tg q s.h=some o)(wf:Wf s):tg s.n s0.h=none:=by
 cases h:tg s.n s0.h with
 |none=>rfl
 |some o=>have:=kp _ _ h;rw[wf.fresh]at this;exact cO this
theorem p9.grow{en:List E3}(I:p9 s0 sq en s)(x:Xt s s'):p9 s0 sq en s':=⟨x.wf,λq o h=>x.keep _ _ (I.kp q o h),I.q0,I.f0,I.nd,x.keep _ _ I.l,λy hy=>x.keep _ _ (I.at_ y hy)⟩
theorem p9.add(I:p9 s0 sq (a++b) s)(sy:List KV)(nm:KV):p9 s0 sq (a++(s.n,sy,nm)::b) (bD (aR s (aF sy)) sq (aF (bY (a++(s.n,sy,nm)::b)))):=by
 have x1:Xt s (aR s (aF sy)):=.new I.wf;have n1:tg s.n (aR s (aF sy)).h=some (aF sy):=cK;have ns:=I.wf.ne I.l;have nx:∀x∈a++b,x.1≠s.n:=λx hx=>I.wf.ne (I.at_ x hx);have mem:∀{x:E3},x∈a++(s.n,sy,nm)::b->x=(s.n,sy,nm)∨x∈a++b:=λ{x} h=>by
  rcases RG.mp h with h|h
  ·exact .inr (RW _ h)
  ·rcases QH.mp h with h|h
   ·exact .inl h
   ·exact .inr (Ro _ h)
 have nd:=I.nd;refine JF nd ?_;intro uE nd2;have sx:∀x∈a++b,sq≠x.1:=λx hx z=>uE (Sw.mpr ⟨x,hx,z.symm⟩);refine⟨x1.wf.put (x1.keep _ _ I.l),λq o h=>(bl λz=>by rw[z,I.q0]at h;exact cO h).trans (x1.keep _ _ (I.kp q o h)),I.q0,λx hx=>?_,?_,fu,λx hx=>?_⟩
 ·rcases mem hx with rfl|hx
  ·exact mE I.kp I.wf
  ·exact I.f0 x hx
 ·refine RN.mpr ⟨λh=>?_,?_⟩
  ·refine nR h ?_;intro x hx hz;rcases mem hx with rfl|hx
   ·exact ns hz.symm
   ·exact sx x hx hz.symm
  ·rw[S1]at nd2 ⊢;refine List.nodup_append.mpr ?_;refine b0 (List.nodup_append.mp nd2) ?_;intro u1 u2 u3;refine⟨u1,RN.mpr ⟨λh=>?_,u2⟩,λp hp r hr=>?_⟩
   ·refine nR h ?_;intro x hx hz;exact nx x (Ro _ hx) hz
   ·rcases QH.mp hr with rfl|hr
    ·refine nR hp ?_;intro x hx hz z;exact nx x (RW _ hx) (hz.trans z)
    ·exact u3 p hp r hr
 ·rcases mem hx with rfl|hx
  ·exact(bl ns.symm).trans n1
  ·exact(bl (sx x hx).symm).trans (x1.keep _ _ (I.at_ x hx))
theorem qL{n:Nat}{es:KD}(hx:Ev c x e s v s')(hy:Ev c y e s' (.ref q) s'')(hq:tg q s''.h=some (.dict n es))(hv:pk v=true):Tc c (aw gT x y) e s (dl es v).isSome s'':=λt f k=>hx _ (hy _ (bA hq (by
 show aB (pk v) false (cz es v (f s'') (λzz=>t s''))=true;rw[hv];show cz es v _ _=true;unfold cz;cases h:dl es v<;>rw[h]at k<;>exact k)))
theorem iC(a b:List E3):bY (a++b)=bY a++bY b:=S1
theorem Eg{i y:X}{n n' m:Nat}{xs xs':KV}{s3:KS}(ho:Ev c x e s (.ref q) s')(h0:tg q s'.h=some (.list n' xs'))(hi:Ev c i e s' (.nat m) s'')(hx:Ev c y e s'' w s3)(hq:tg q s3.h=some (.list n xs))(hm:m≤n)(hn:n+1≤100000):Ev c (xB x i y) e s .none (bD s3 q (.list (n+1) (Internal.app (take m xs) (.cons w (drop m xs))))):=λk h=>
 ho _ (bA h0 (hi _ (hx _ (bA hq (aP.mpr ⟨QK hn,aP.mpr ⟨QK hm,h⟩⟩)))))
theorem bO(a:List E3):(bY a).length=a.length:=Ra _
theorem yS(a b:List E3)(z:E3):Internal.app (take a.length (au (bY (a++b)))) (.cons (two (.ref z.1) z.2.2) (drop a.length (au (bY (a++b)))))=au (bY (a++z::b)):=by
 rw[fq,jU,iC,List.take_left' (bO a),List.drop_left' (bO a),iC];exact dZ (bY a) (bY (z::b))
theorem p9.ins{i y z:X}{sy:List KV}{nm:KV}(I:p9 s0 sq (a++b) s)(hl:(a++b).length≤50)(hc:Ev c x e s (.ref sq) s)(hi:Ev c i e s (.nat a.length) s)(hy:Ev c y e s (.ref s.n) (aR s (aF sy)))(hz:Ev c z e (aR s (aF sy)) nm (aR s (aF sy))):∃s',St c (aY (xB x i (ab y (ab z ao)))) e s e s'∧p9 s0 sq (a++(s.n,sy,nm)::b) s':=by
 have J:=I.add sy nm;have n1:=(Xt.new (o:=aF sy) I.wf).keep _ _ I.l;have len:(bY (a++b)).length=(a++b).length:=bO _;have la:a.length≤(a++b).length:=by rw[QT];exact RB _ _
 have ev:=Eg hc I.l hi (ai hy (ai hz aM)) n1 (by rw[len];exact la) (by lia);have e1:=yS a b (s.n,sy,nm);have e2:(bY (a++b)).length+1=(bY (a++(s.n,sy,nm)::b)).length:=by rw[bO,bO,QT,QT,S4];rfl
 rw[e2]at ev;have e1:Internal.app (take a.length (au (bY (a++b)))) (.cons (.cons (.ref s.n) (.cons nm .nil)) (drop a.length (au (bY (a++b)))))=au (bY (a++(s.n,sy,nm)::b)):=e1;rw[e1]at ev;exact⟨_,fO ev,J⟩
theorem z9{qr:Pa}{h n k:Nat}{es:KD}{x:KV}(h0:tg .e e=some (.nat h))(h1:tg (.a .e) e=some (.ref qr))(hr:tg qr s.h=some (.dict n es))(hk:k+1≤1000000)(hx:pk x=true):Tc c (BK (k+1) x) e s (!QB (h/(k+1)%2) 0&&(dl es x).isSome) s:=
 l5 (qI (f8 (b:=1) (lV (b:=k) (ag h0) aj hk) aj)) (qL aj (ag h1) hr hx)
theorem FB{d:Cn}{b:Bool}{x:KV}(h:Tc c d e s b s):Ev c (dQ d (af x) (af c0)) e s (un b x) s:=by cases b with|true=>exact gc h aj|false=>exact gd h aj
theorem p9.app2{y z:X}{sy:List KV}{nm:KV}(I:p9 s0 sq a s)(hl:a.length≤50)(hc:Ev c x e (aR s (aF sy)) (.ref sq) (aR s (aF sy)))(hy:Ev c y e (aR s (aF sy)) (.ref s.n) (aR s (aF sy)))(hz:Ev c z e (aR s (aF sy)) nm (aR s (aF sy))):∃s',St c (aY (cX x (ab y (ab z ao)))) e (aR s (aF sy)) e s'∧p9 s0 sq (a++[(s.n,sy,nm)]) s':=by
 have I':p9 s0 sq (a++[]) s:=by rw[RO];exact I
 have J:=I'.add sy nm;have n1:=(Xt.new (o:=aF sy) I.wf).keep _ _ I.l;have ev:=lC hc n1 (ai hy (ai hz aM)) n1 (by rw[bO];omega);have e1:Internal.app (au (bY a)) (.cons (.cons (.ref s.n) (.cons nm .nil)) .nil)=au (bY (a++[(s.n,sy,nm)])):=by rw[iC];exact dZ (bY a) (bY [(s.n,sy,nm)])
 have e2:(bY a).length+1=(bY (a++[(s.n,sy,nm)])).length:=by rw[bO,bO,QT];rfl
 rw[e1,e2]at ev;exact⟨_,fO ev,J⟩
end
section
abbrev R2:=List KV×KV
noncomputable def rA:R2:=([fR],c0)
noncomputable def rI(u:Bool):R2:=([cI,cE],un u cU)
noncomputable def rL:R2:=([cI,cE,eL,cE],c0)
noncomputable def rJ(f:Nat)(j:Bool):R2:=(bif QB f 1 then[cJ,cE,eL]else[cJ,cE,eL,cE],un j cJ)
def rP(f:Nat):R2:=(bif gH [.nat 1,.nat 2] (.nat f)then[cE,gA]else[cE,gA,cE],c0)
noncomputable def r2(f:Nat)(p u:Bool):List R2:=bif QB f 4 then[rA,rI u]else bif p then[rA,rL,rI u]else[rA,rI u,rL]
def r3(f:Nat)(p u j:Bool):List R2:=bif gH [.nat 1,.nat 3,.nat 4] (.nat f)then r2 f p u++[rJ f j]else r2 f p u
def r4(f:Nat)(p u j:Bool):List R2:=bif QB f 3 then r3 f p u j else r3 f p u j++[rP f]
end
structure G1(h f:Nat)(qr sq:Pa)(e:En):Prop where
 h:tg .e e=some (.nat h)
 r:tg (.a .e) e=some (.ref qr)
 f:tg (.b .e) e=some (.nat f)
 c:tg (.c .e) e=some (.ref sq)
section
variable{c:Cl}{e e':En}{s s' s'' s0:KS}{x y:X}{v w:KV}{q sq qr:Pa}{a b:List E3}{h f n:Nat}{es:KD}
theorem Gw(wf:Wf s)(h0:tg .e e=some (.nat h))(h1:tg (.a .e) e=some (.ref qr))(hr:tg qr s.h=some (.dict n es)):∃s' sq en,St c LP e s (tp (.c .e) (.ref sq) e) s'∧p9 s sq en s'∧en.map (·.2)=[rA,rI (!QB (h/10%2) 0&&(dl es cU).isSome)]:=by
 have x1:Xt s (aR s (aF [fR])):=.new wf;have n1:tg s.n (aR s (aF [fR])).h=some (aF [fR]):=cK;have e1:Ev c (aK (ab (af fR) ao)) e s (.ref s.n) (aR s (aF [fR])):=cB (vs:=au [fR]) (ai aj aM) (show 1≤100000 by decide);have z0:=wf.fresh;generalize aR s (aF [fR])=s1 at*;have x2:Xt s1 (aR s1 (aF [cI,cE])):=.new x1.wf;have n2:tg s1.n (aR s1 (aF [cI,cE])).h=some (aF [cI,cE]):=cK;have e2:Ev c (aK (ab (af cI) (ab (af cE) ao))) e s1 (.ref s1.n) (aR s1 (aF [cI,cE])):=cB (vs:=au [cI,cE]) (ai aj (ai aj aM)) (show 2≤100000 by decide);have d1:=x1.wf.ne n1;have z1:=mE x1.keep x1.wf;generalize aR s1 (aF [cI,cE])=s2 at*;have k2:=(x1.trans x2).keep;have eu:Ev c (dQ (BK 10 cU) (af cU) (af c0)) e s2 (un (!QB (h/10%2) 0&&(dl es cU).isSome) cU) s2:=FB (z9 (k:=9) h0 h1 (k2 _ _ hr) (by decide) rfl);have m1:=x2.keep _ _ n1;have d2:=x2.wf.ne m1;have d3:=x2.wf.ne n2;have z2:=mE k2 x2.wf;generalize(!QB (h/10%2) 0&&(dl es cU).isSome)=u at*;have x3:Xt s2 (aR s2 (aF (bY [(s.n,[fR],c0),(s1.n,[cI,cE],un u cU)]))):=.new x2.wf;refine⟨_,s2.n,[(s.n,[fR],c0),(s1.n,[cI,cE],un u cU)],aG (cB (vs:=au (bY [(s.n,[fR],c0),(s1.n,[cI,cE],un u cU)])) (ai (ai e1 (ai aj aM)) (ai (ai e2 (ai eu aM)) aM)) (show 2≤100000 by decide)),⟨x3.wf,(x1.trans (x2.trans x3)).keep,z2,?_,?_,cK,?_⟩,rfl⟩
 ·simp only[QH,QW,or_false,forall_eq_or_imp,forall_eq];exact⟨z0,z1⟩
 ·simp only[Sr,List.map_nil,RN,QH,QW,or_false,not_or,not_false_eq_true,U0,and_true];exact⟨⟨λz=>d2 z.symm,λz=>d3 z.symm⟩,d1⟩
 ·simp only[QH,QW,or_false,forall_eq_or_imp,forall_eq];exact⟨x3.keep _ _ m1,x3.keep _ _ n2⟩
theorem u8{α β:Type}{f:α->β}{en:List α}{p q:List β}(h:en.map f=p++q){G:Prop}(k:∀a b,a.map f=p->b.map f=q->en=a++b->G):G:=by
 refine k (en.take p.length) (en.drop p.length) ?_ ?_ ((Td _ _).symm)
 ·rw[List.map_take,h,List.take_left'];rfl
 ·rw[List.map_drop,h,List.drop_left'];rfl
theorem Gv{en:List E3}{u:Bool}(I:p9 s0 sq en s)(E:G1 h f qr sq e)(hm:en.map (·.2)=[rA,rI u]):∃s' en',St c NE e s e s'∧p9 s0 sq en' s'∧en'.map (·.2)=r2 f (!QB (h/5%2) 0) u:=by
 have t:Tc c (aw jG (ae (.b .e)) (af (.nat 4))) e s (!QB f 4) s:=kZ (ag E.f) aj;have hl:en.length=2:=by have:=congrArg List.length hm;rw[Ra]at this;exact this
 cases hb:QB f 4 with
 |true=>rw[hb]at t;exact⟨s,en,bk t br,I,by unfold r2;refine rwr hb ?_;exact hm⟩
 |false=>
  rw[hb]at t;have t2:Tc c (cT (aW dG (aW sA (ae .e) (af (.nat 5))) (af (.nat 2)))) e s (!QB (h/5%2) 0) s:=qI (f8 (b:=1) (lV (b:=4) (ag E.h) aj (by decide)) aj);have hy:Ev c (aK (ab (af cI) (ab (af cE) (ab (af eL) (ab (af cE) ao))))) e s (.ref s.n) (aR s (aF [cI,cE,eL,cE])):=cB (vs:=au [cI,cE,eL,cE]) (ai aj (ai aj (ai aj (ai aj aM)))) (show 4≤100000 by decide);cases hp:(!QB (h/5%2) 0)with
  |true=>
   rw[hp]at t2;refine u8 (p:=[rA]) (q:=[rI u]) hm ?_;rintro a b h1 h2 rfl;have la:a.length=1:=by have:=congrArg List.length h1;rw[Ra]at this;exact this
   refine ah (I.ins (c:=c) (i:=dQ (cT (aW dG (aW sA (ae .e) (af (.nat 5))) (af (.nat 2)))) (af (.nat 1)) (af (.nat 2))) (z:=af c0) (nm:=c0) (by simp_all+arith) (ag E.c) (by refine rwr la ?_;exact gc t2 aj) hy aj) ?_;intro s' st J;exact⟨s',_,cV t (aQ st),J,by unfold r2;refine rwr hb (rwr S1 (rwr Sr (rwr h1 (rwr h2 ?_))));rfl⟩
  |false=>
   rw[hp]at t2;refine u8 (p:=[rA,rI u]) (q:=[]) hm ?_;rintro a b h1 h2 rfl;have la:a.length=2:=by have:=congrArg List.length h1;rw[Ra]at this;exact this
   refine ah (I.ins (c:=c) (i:=dQ (cT (aW dG (aW sA (ae .e) (af (.nat 5))) (af (.nat 2)))) (af (.nat 1)) (af (.nat 2))) (z:=af c0) (nm:=c0) (by omega) (ag E.c) (by refine rwr la ?_;exact gd t2 aj) hy aj) ?_;intro s' st J;exact⟨s',_,cV t (aQ st),J,by unfold r2;refine rwr hb (rwr S1 (rwr Sr (rwr h1 (rwr h2 ?_))));rfl⟩
theorem G1.sure(E:G1 h f qr sq e)(v:KV):G1 h f qr sq (tp (.d .e) v e):=⟨(am _ (gU rfl)).trans E.h,(am _ (gU rfl)).trans E.r,(am _ (gU rfl)).trans E.f,(am _ (gU rfl)).trans E.c⟩
theorem Gu{en:List E3}{p u:Bool}(I:p9 s0 sq en s)(E:G1 h f qr sq e)(hr:tg qr s0.h=some (.dict n es))(hn:en.length≤40)(hm:en.map (·.2)=r2 f p u):∃e' s' en',St c ND e s e' s'∧p9 s0 sq en' s'∧G1 h f qr sq e'∧en'.map (·.2)=r3 f p u (!QB (h/20%2) 0&&(dl es cJ).isSome)∧en'.length≤en.length+1:=by
 have n1:tg s.n (aR s (.list 3 (au [.nat 1,.nat 3,.nat 4]))).h=some (.list 3 (au [.nat 1,.nat 3,.nat 4])):=cK;have t3:Tc c (aw gT (ae (.b .e)) (aK (ab (af (.nat 1)) (ab (af (.nat 3)) (ab (af (.nat 4)) ao))))) e s (gH [.nat 1,.nat 3,.nat 4] (.nat f)) (aR s (.list 3 (au [.nat 1,.nat 3,.nat 4]))):=qK (ag E.f) (cB (vs:=au [.nat 1,.nat 3,.nat 4]) (ai aj (ai aj (ai aj aM))) (show 3≤100000 by decide)) n1 rfl rfl;have J:=I.grow (.new (o:=.list 3 (au [.nat 1,.nat 3,.nat 4])) I.wf);generalize aR s (.list 3 (au [.nat 1,.nat 3,.nat 4]))=s1 at*;cases hb:gH [.nat 1,.nat 3,.nat 4] (.nat f)with
 |false=>rw[hb]at t3;exact⟨e,s1,en,bk t3 br,J,E,by unfold r3;refine rwr hb ?_;exact hm,RA _⟩
 |true=>
  rw[hb]at t3;have t1:Tc c (aw d7 (ae (.b .e)) (af (.nat 1))) e s1 (QB f 1) s1:=fZ (ag E.f) aj;have es1:Ev c (dQ (aw d7 (ae (.b .e)) (af (.nat 1))) (aK (ab (af cJ) (ab (af cE) (ab (af eL) ao)))) (aK (ab (af cJ) (ab (af cE) (ab (af eL) (ab (af cE) ao)))))) e s1 (.ref s1.n) (aR s1 (aF (bif QB f 1 then[cJ,cE,eL]else[cJ,cE,eL,cE]))):=by
   cases hf:QB f 1 with
   |true=>rw[hf]at t1;exact gc t1 (cB (vs:=au [cJ,cE,eL]) (ai aj (ai aj (ai aj aM))) (show 3≤100000 by decide))
   |false=>rw[hf]at t1;exact gd t1 (cB (vs:=au [cJ,cE,eL,cE]) (ai aj (ai aj (ai aj (ai aj aM)))) (show 4≤100000 by decide))
  have hs:(rJ f (!QB (h/20%2) 0&&(dl es cJ).isSome)).1=(bif QB f 1 then[cJ,cE,eL]else[cJ,cE,eL,cE]):=rfl;rw[←hs]at es1;have st1:=aG (q:=.d .e) es1;have E2:=E.sure (.ref s1.n);have hd:tg (.d .e) (tp (.d .e) (.ref s1.n) e)=some (.ref s1.n):=aS _ _ _;generalize tp (.d .e) (.ref s1.n) e=e2 at*;have k:tg qr (aR s1 (aF (rJ f (!QB (h/20%2) 0&&(dl es cJ).isSome)).1)).h=some (.dict n es):=(Xt.new J.wf).keep _ _ (J.kp _ _ hr);refine ah (J.app2 (c:=c) (e:=e2) (x:=ae (.c .e)) (y:=ae (.d .e)) (z:=dQ (BK 20 cJ) (af cJ) (af c0)) (sy:=(rJ f (!QB (h/20%2) 0&&(dl es cJ).isSome)).1) (nm:=un (!QB (h/20%2) 0&&(dl es cJ).isSome) cJ) (by exact QG hn (QU 40 10)) (ag E2.c) (ag hd) (FB (z9 (k:=19) E2.h E2.r k (by decide) rfl))) ?_;intro s' st J2;exact⟨e2,s',_,cV t3 (bc st1 (aQ st)),J2,E2,by unfold r3;refine rwr hb (rwr S1 (rwr hm ?_));rfl,by refine rwr QT ?_;exact QZ _⟩
theorem Gs{en:List E3}{p u j:Bool}(I:p9 s0 sq en s)(E:G1 h f qr sq e)(hn:en.length≤40)(hm:en.map (·.2)=r3 f p u j):∃s' en',St c NC e s e s'∧p9 s0 sq en' s'∧en'.map (·.2)=r4 f p u j∧en'.length≤en.length+1:=by
 have t:Tc c (aw jG (ae (.b .e)) (af (.nat 3))) e s (!QB f 3) s:=kZ (ag E.f) aj;cases hb:QB f 3 with
 |true=>rw[hb]at t;exact⟨s,en,bk t br,I,by unfold r4;rw[hb];exact hm,RA _⟩
 |false=>
  rw[hb]at t;have n1:tg s.n (aR s (.list 2 (au [.nat 1,.nat 2]))).h=some (.list 2 (au [.nat 1,.nat 2])):=cK;have t3:Tc c (aw gT (ae (.b .e)) (aK (ab (af (.nat 1)) (ab (af (.nat 2)) ao)))) e s (gH [.nat 1,.nat 2] (.nat f)) (aR s (.list 2 (au [.nat 1,.nat 2]))):=qK (ag E.f) (cB (vs:=au [.nat 1,.nat 2]) (ai aj (ai aj aM)) (show 2≤100000 by decide)) n1 rfl rfl;have J:=I.grow (.new (o:=.list 2 (au [.nat 1,.nat 2])) I.wf);generalize aR s (.list 2 (au [.nat 1,.nat 2]))=s1 at*;have hy:Ev c (dQ (aw gT (ae (.b .e)) (aK (ab (af (.nat 1)) (ab (af (.nat 2)) ao)))) (aK (ab (af cE) (ab (af gA) ao))) (aK (ab (af cE) (ab (af gA) (ab (af cE) ao))))) e s (.ref s1.n) (aR s1 (aF (rP f).1)):=by
   show Ev c _ e s (.ref s1.n) (aR s1 (aF (bif gH [.nat 1,.nat 2] (.nat f)then[cE,gA]else[cE,gA,cE])));cases hf:gH [.nat 1,.nat 2] (.nat f)with
   |true=>rw[hf]at t3;exact gc t3 (cB (vs:=au [cE,gA]) (ai aj (ai aj aM)) (show 2≤100000 by decide))
   |false=>rw[hf]at t3;exact gd t3 (cB (vs:=au [cE,gA,cE]) (ai aj (ai aj (ai aj aM))) (show 3≤100000 by decide))
  have J':p9 s0 sq (en++[]) s1:=by rw[RO];exact J
  have K:=J'.add (rP f).1 c0;have n2:=(Xt.new (o:=aF (rP f).1) J.wf).keep _ _ J.l;have ev:=lC (c:=c) (ag E.c) I.l (ai hy (ai (aj (v:=c0)) aM)) n2 (by rw[bO];exact Rp hn (QU (QR 40) 99959));have e1:Internal.app (au (bY en)) (.cons (.cons (.ref s1.n) (.cons c0 .nil)) .nil)=au (bY (en++[(s1.n,(rP f).1,c0)])):=by rw[iC];exact dZ (bY en) (bY [(s1.n,(rP f).1,c0)])
  have e2:(bY en).length+1=(bY (en++[(s1.n,(rP f).1,c0)])).length:=by rw[bO,bO,QT];rfl
  rw[e1,e2]at ev;exact⟨_,_,cV t (aQ (fO ev)),K,by unfold r4;rw[hb,S1,hm];rfl,by rw[QT];exact QZ _⟩
theorem GK(f:Nat)(p u j:Bool):1≤(r4 f p u j).length:=by
 unfold r4 r3 r2;cases QB f 3<;>cases gH [.nat 1,.nat 3,.nat 4] (.nat f)<;>cases QB f 4<;>cases p<;>simp
def Gr(h:Nat)(qr:Pa):En:=tp (.a .e) (.ref qr) (tp .e (.nat h) .nil)
def CO(h:Nat)(qr:Pa):En:=tp (.b .e) (.nat (h%5)) (Gr h qr)
def Gq(h:Nat)(qr sq:Pa):En:=tp (.c .e) (.ref sq) (CO h qr)
theorem Iq(t n:Nat):n-t+min t n≤n:=by
 rcases UU t n with h|h
 ·rw[Sy h,Nat.sub_add_cancel h];exact QZ n
 ·rw[T4 h,US h,TA];exact QZ n
theorem sT{d:Nat}(wf:Wf s)(hr:tg qr s.h=some (.dict n es)):∃s' sq en,Ca (aL bn (d+1)) NK (.cons (.nat h) (.cons (.ref qr) .nil)) s (.ref sq) s'∧p9 s sq en s'∧
  en.map (·.2)=(let l:=r4 (h%5) (!QB (h/5%2) 0) (!QB (h/10%2) 0&&(dl es cU).isSome) (!QB (h/20%2) 0&&(dl es cJ).isSome);l.drop (h/40%l.length)++l.take (h/40%l.length)):=by
 have a0:St (aL bn d) (av (t1 (.b .e)) (aW dG (ae .e) (af (.nat 5)))) (Gr h qr) s (CO h qr) s:=aG (f8 (b:=4) (ag rfl) aj);refine ei (Gw (c:=aL bn d) (e:=CO h qr) wf rfl rfl hr) ?_;intro s1 sq en1 st1 I1 m1;have E:G1 h (h%5) qr sq (Gq h qr sq):=⟨rfl,rfl,rfl,rfl⟩
 have st1:St (aL bn d) LP (CO h qr) s (Gq h qr sq) s1:=st1;generalize Gq h qr sq=e1 at*;refine aH (Gv (c:=aL bn d) I1 E m1) ?_;intro s2 en2 st2 I2 m2;have l2:en2.length≤3:=by
  have:=congrArg List.length m2;rw[Ra]at this;rw[this];unfold r2;cases QB (h%5) 4<;>cases(!QB (h/5%2) 0)<;>simp
 refine dM (Gu (c:=aL bn d) I2 E hr (by exact QG l2 (QU 3 37)) m2) ?_;intro e3 s3 en3 st3 I3 E3 m3 l3;have b3:en3.length≤40:=by lia
 refine d9 (Gs (c:=aL bn d) I3 E3 b3 m3) ?_;intro s4 en4 st4 I4 m4 l4;have rl:=GK (h%5) (!QB (h/5%2) 0) (!QB (h/10%2) 0&&(dl es cU).isSome) (!QB (h/20%2) 0&&(dl es cJ).isSome);generalize r4 (h%5) (!QB (h/5%2) 0) (!QB (h/10%2) 0&&(dl es cU).isSome) (!QB (h/20%2) 0&&(dl es cJ).isSome)=rs at*;have lr:en4.length=rs.length:=by rw[←m4,Ra]
 have tl:=bO en4;have b4:(bY en4).length≤100000:=by rw[tl];exact QG l4 (QG (RV b3) (by decide))
 obtain⟨k,hk⟩:∃k,rs.length=k+1:=⟨rs.length-1,by simp_all+arith⟩
 have a5:St (aL bn d) (av (t1 (.f .e)) (aW dG (aW sA (ae .e) (af (.nat 40))) (dw 1 (.g .e) (ae (.c .e))))) e3 s4 (tp (.f .e) (.nat (h/40%rs.length)) e3) s4:=by
  rw[hk];exact aG (f8 (b:=k) (lV (b:=39) (ag E3.h) aj (by decide)) (by rw[←hk,←lr,←tl];exact jp (ag E3.c) I4.l))
 have hc:tg (.c .e) (tp (.f .e) (.nat (h/40%rs.length)) e3)=some (.ref sq):=(am _ (gU rfl)).trans E3.c;have hf:tg (.f .e) (tp (.f .e) (.nat (h/40%rs.length)) e3)=some (.nat (h/40%rs.length)):=aS _ _ _;generalize tp (.f .e) (.nat (h/40%rs.length)) e3=e5 at*;have ht:h/40%rs.length<rs.length:=T6 _ (by exact rl);generalize ht0:h/40%rs.length=t at*;have ef:Ev (aL bn d) (kb (ae (.c .e)) (ae (.f .e))) e5 s4 (.ref s4.n) (aR s4 (aF (bY (en4.drop t)))):=by
  have:=Be (c:=aL bn d) (ag hc) (ag hf) I4.l b4;rw[jU,show(bY en4).drop t=bY (en4.drop t)from(List.map_drop).symm,show(bY en4).length-t=(bY (en4.drop t)).length by rw[bO,bO,SF]]at this;exact this
 have n5:tg s4.n (aR s4 (aF (bY (en4.drop t)))).h=some (aF (bY (en4.drop t))):=cK;have x5:Xt s4 (aR s4 (aF (bY (en4.drop t)))):=.new I4.wf;generalize aR s4 (aF (bY (en4.drop t)))=s5 at*;have eg:Ev (aL bn d) (Cv (ae (.c .e)) (ae (.f .e))) e5 s5 (.ref s5.n) (aR s5 (aF (bY (en4.take t)))):=by
  have:=B9 (c:=aL bn d) (ag hc) (ag hf) (x5.keep _ _ I4.l) b4;rw[fq,show(bY en4).take t=bY (en4.take t)from(List.map_take).symm,show min t (bY en4).length=(bY (en4.take t)).length by rw[bO,bO,S3]]at this;exact this
 have n6:tg s5.n (aR s5 (aF (bY (en4.take t)))).h=some (aF (bY (en4.take t))):=cK;have x6:Xt s5 (aR s5 (aF (bY (en4.take t)))):=.new x5.wf;generalize aR s5 (aF (bY (en4.take t)))=s6 at*;have ec:Ev (aL bn d) (aW c9 (kb (ae (.c .e)) (ae (.f .e))) (Cv (ae (.c .e)) (ae (.f .e)))) e5 s4 (.ref s6.n) (aR s6 (aF (bY (en4.drop t++en4.take t)))):=by
  have:=HT (c:=aL bn d) ef eg (x6.keep _ _ n5) n6 (by rw[bO,bO,SF,S3];exact QG (Iq t _) (tl▸b4));rw[dZ,←iC,show(bY (en4.drop t)).length+(bY (en4.take t)).length=(bY (en4.drop t++en4.take t)).length by rw[bO,bO,bO,QT]]at this;exact this
 have x7:Xt s6 (aR s6 (aF (bY (en4.drop t++en4.take t)))):=.new x6.wf;have n7:tg s6.n (aR s6 (aF (bY (en4.drop t++en4.take t)))).h=some (aF (bY (en4.drop t++en4.take t))):=cK;have x46:=x5.trans x6;have x47:=x46.trans x7;have mem:∀{x:Internal.E3},x∈en4.drop t++en4.take t->x∈en4:=λ{x} hx=>(RG.mp hx).elim List.mem_of_mem_drop Ub;refine⟨_,s6.n,en4.drop t++en4.take t,oG (e0:=Gr h qr) LJ rfl (λk h=>h) (bq a0 (bq st1 (bq st2 (bq st3 (bq st4 (bq a5 (cY (gv ec)))))))),⟨x47.wf,λq o h=>x47.keep _ _ (I4.kp q o h),mE (λq o h=>x46.keep _ _ (I4.kp q o h)) x6.wf,λx hx=>I4.f0 x (mem hx),?_,n7,λx hx=>x47.keep _ _ (I4.at_ x (mem hx))⟩,?_⟩
 ·refine RN.mpr ⟨λhx=>?_,?_⟩
  ·refine nR hx ?_;intro x hx hz;exact x6.wf.ne (x46.keep _ _ (I4.at_ x (mem hx))) hz
  ·have nd:=(RN.mp I4.nd).2;rw[S1];have e:en4.map (·.1)=(en4.take t).map (·.1)++(en4.drop t).map (·.1):=by rw[←S1,Td]
   rw[e]at nd;exact(List.perm_append_comm.nodup_iff).mp nd
 ·rw[S1,List.map_drop,List.map_take,m4];show _=rs.drop (h/40%rs.length)++rs.take (h/40%rs.length);rw[ht0]
end
end
section
section
variable{c:Cl}{e e':En}{s s' s'':KS}{x y:X}{v w:KV}{q:Pa}
theorem Ks{t:Tg}{elt:X}{test:Cn}{k:KS->KV->Bool}{n:Nat}{it:KI}{acc:KV}(h:Nz s it)(hk:k s (wF acc .nil)=true):IO t elt test c k (n+1) it e acc s=true:=(h (k s (wF acc .nil)) _).trans hk
theorem Kt{t:Tg}{elt:X}{test:Cn}{k:KS->KV->Bool}{n:Nat}{it it':KI}{acc:KV}(h:Nx s it v it')(hh:t v e (λe=>test c e (λs=>elt c e (λs w=>IO t elt test c k n it' e (.cons w acc) s) s) (λs=>IO t elt test c k n it' e acc s) s)=true):IO t elt test c k (n+1) it e acc s=true:=(h (k s (wF acc .nil)) _).trans hh
theorem DK(i:Int){k:KT}(h:k s (.nat (ug i))=true):dG k (Cg i) s (.nat 720720)=true:=by cases i<;>exact h
theorem BG{l:List Int}(hq:tg q s.h=some (.list l.length (au (l.map Cg)))):∀(r pre:List Int)(acc:List KV)(n:Nat)(e:En),l=pre++r->r.length<n->
  ∀k:KS->KV->Bool,k s (au (acc.reverse++eQ (r.map ug)))=true->IO (t1 .e) (aW dG (ae .e) (af (.nat 720720))) iZ c k n (.list q pre.length) e (au acc) s=true
 |r,pre,acc,0,e,hl,hn,k,h=>by cases hn
 |[],pre,acc,n+1,e,hl,hn,k,h=>by
  have hz:(l.map Cg)[pre.length]?=none:=by rw[hl,RO,Rj,RU (QZ _)];rfl
  refine Ks (mz hq hz) ?_;show k s (wF (au acc) (au []))=true;rw[pM];exact h
 |v::r,pre,acc,n+1,e,hl,hn,k,h=>by
  have hz:(l.map Cg)[pre.length]?=some (Cg v):=by rw[hl];simp
  refine Kt (mA hq hz) ?_;have ev:Ev c (aW dG (ae .e) (af (.nat 720720))) (tp .e (Cg v) e) s (.nat (ug v)) s:=λk hk=>ag (aS _ _ _) _ (DK v hk);refine ev _ ?_;have h3:=BG hq r (pre++[v]) (.nat (ug v)::acc) n (tp .e (Cg v) e) (by rw[hl];simp) (by simpa using hn) k (by rw[SN,Sx];exact h);rw[QT]at h3;exact h3
theorem BM{k:En->Bool}(h:k .nil=true):kP .nil .e .nil k=true:=h
theorem Go{l:List Int}(hl:l.length≤100):∃s q,St c (yu (iy l)) .nil ⟨.nil,.e⟩ (tp (.a .e) (.ref q) .nil) s∧Wf s∧tg q s.h=some (.list (l.map ug).length (au (eQ (l.map ug)))):=by
 have wf:Wf ⟨.nil,.e⟩:=⟨0,rfl,λi Z=>fj _⟩
 have x1:Xt ⟨.nil,.e⟩ (aR ⟨.nil,.e⟩ (.list (len (iy l)) (iy l))):=.new wf;have e1:len (iy l)=l.length:=by unfold iy;rw[jk,Ra]
 have n1:tg .e (aR ⟨.nil,.e⟩ (.list (len (iy l)) (iy l))).h=some (.list l.length (au (l.map Cg))):=by rw[e1];exact cK (s:=⟨.nil,.e⟩)
 refine⟨_,_,λF k hk=>?_,(Xt.new (o:=.list (l.map ug).length (au (eQ (l.map ug)))) x1.wf).wf,cK⟩;have nl:(eQ (l.map ug)).length=(l.map ug).length:=Ra _;have z:=BG (c:=c) n1 l [] [] lN .nil rfl (by show l.length<5000;exact Rp hl (QU (QR 100) 4899)) (λs' xs=>q7 (λs v=>k (tp (.a .e) v .nil) s) s' (len xs) xs) (by
  show q7 _ _ (len (au (eQ (l.map ug)))) (au (eQ (l.map ug)))=true;rw[jk,nl];exact pZ (by rw[Ra];exact QG hl (QU 100 99900)) hk)
 unfold yu av mY HE;exact aM (c:=c) _ (BM z)
end
section
def jN(h:Nat)(es:KD):List R2:=let l:=r4 (h%5) (!QB (h/5%2) 0) (!QB (h/10%2) 0&&(dl es cU).isSome) (!QB (h/20%2) 0&&(dl es cJ).isSome);l.drop (h/40%l.length)++l.take (h/40%l.length)
structure L8(h:Nat)(es:KD)(ws:List KV)(n:Nat)(qr wq sq:Pa)(en:List E3)(e:En)(s:KS):Prop where
 wf:Wf s
 eb:tg (.b .e) e=some (.nat h)
 ec:tg (.c .e) e=some (.ref qr)
 ed:tg (.d .e) e=some (.ref wq)
 ef:tg (.f .e) e=some (.ref sq)
 r:tg qr s.h=some (.dict n es)
 n5:n≤5
 w:tg wq s.h=some (.list ws.length (au ws))
 p:tg sq s.h=some (aF (bY en))
 at_:∀x∈en,tg x.1 s.h=some (aF x.2.1)
 nd:(wq::sq::en.map (·.1)).Nodup
 rules:en.map (·.2)=jN h es
 al:j9 ws
 len:ws.length≤25
 cn:cn ws≤8
end
section
variable{c:Cl}{e e':En}{s s' s'':KS}{x y:X}{v w:KV}{q:Pa}
theorem Eb{ds:List Nat}(wf:Wf s)(ha:tg (.a .e) e=some (.ref q))(hq:tg q s.h=some (.list ds.length (au (eQ ds)))):∃s',St c Np e s (tp (.b .e) (.nat (ds.headD 0)) e) s'∧Wf s'∧tg q s'.h=some (.list ds.tail.length (au (eQ ds.tail))):=by
 have t:Tc c (cT (ae (.a .e))) e s (!QB ds.length 0) s:=uQ (ag ha) λt f=>kc hq t f;cases ds with
 |nil=>exact⟨s,aG (gd t aj),wf,hq⟩
 |cons a r=>exact⟨_,aG (gc t (xg (r:=au (eQ r)) (ag ha) hq)),wf.put hq,fu⟩
theorem Gl{l:List Int}(hl:l.length≤100):∃e0 s0,St jA (yu (iy l)) .nil ⟨.nil,.e⟩ e0 s0∧∃e s ws n qr wq sq en,St jA Ly e0 s0 e s∧L8 ((l.map ug).headD 0) (d6 gX (l.map ug).tail) ws n qr wq sq en e s:=by
 refine aH (Go (c:=jA) hl) ?_;intro s0 q st0 wf0 h0;refine⟨_,s0,st0,?_⟩;have ea:tg (.a .e) (tp (.a .e) (KV.ref q) (T.nil:T KV))=some (KV.ref q):=rfl;generalize tp (.a .e) (KV.ref q) (T.nil:T KV)=e0 at*;have ld:(l.map ug).length≤100:=by rw[Ra];exact hl
 generalize l.map ug=ds at*;refine b8 (Eb (c:=jA) wf0 ea h0) ?_;intro s1 st1 wf1 h1;have ea1:tg (.a .e) (tp (.b .e) (.nat (ds.headD 0)) e0)=some (.ref q):=(am _ (gU rfl)).trans ea;have eb1:tg (.b .e) (tp (.b .e) (.nat (ds.headD 0)) e0)=some (.nat (ds.headD 0)):=aS _ _ _;generalize tp (.b .e) (KV.nat (ds.headD 0)) e0=e1 at*;refine FH (Al (d:=59) wf1 h1) ?_;intro s2 qr n c2 wf2 h2 r2' n5 dq k2;have st2:St jA No e1 s1 (tp (.c .e) (.ref qr) e1) s2:=aG (i6 (ai (ag ea1) aM) c2);have ea2:tg (.a .e) (tp (.c .e) (.ref qr) e1)=some (.ref q):=(am _ (gU rfl)).trans ea1;have eb2:tg (.b .e) (tp (.c .e) (.ref qr) e1)=some (.nat (ds.headD 0)):=(am _ (gU rfl)).trans eb1;have ec2:tg (.c .e) (tp (.c .e) (.ref qr) e1)=some (.ref qr):=aS _ _ _;generalize tp (.c .e) (KV.ref qr) e1=e2 at*;have lt:(ds.tail.drop 5).length≤100:=by rw[SF,List.length_tail];omega
 refine iT (ti (f:=ds.headD 0%5) (cl:=ds.headD 0/200%4) (d:=59) wf2 h2 lt) ?_;intro s3 wq ws c3 wf3 k3 w3 f3 al len cn8;have st3:St jA Nn e2 s2 (tp (.d .e) (.ref wq) e2) s3:=aG (i6 (ai (ag ea2) (ai (f8 (b:=4) (ag eb2) aj) (ai (f8 (b:=3) (lV (b:=199) (ag eb2) aj (by decide)) aj) aM))) c3);have eb3:tg (.b .e) (tp (.d .e) (.ref wq) e2)=some (.nat (ds.headD 0)):=(am _ (gU rfl)).trans eb2;have ec3:tg (.c .e) (tp (.d .e) (.ref wq) e2)=some (.ref qr):=(am _ (gU rfl)).trans ec2;have ed3:tg (.d .e) (tp (.d .e) (.ref wq) e2)=some (.ref wq):=aS _ _ _;generalize tp (.d .e) (KV.ref wq) e2=e3 at*;refine ei (sT (h:=ds.headD 0) (d:=59) wf3 (k3 _ _ r2')) ?_;intro s4 sq en c4 I hm;have st4:St jA Nm e3 s3 (tp (.f .e) (.ref sq) e3) s4:=aG (i6 (ai (ag eb3) (ai (ag ec3) aM)) c4);refine⟨_,s4,ws,n,qr,wq,sq,en,bc st1 (bc st2 (bc st3 (aQ st4))),⟨I.wf,(am _ (gU rfl)).trans eb3,(am _ (gU rfl)).trans ec3,(am _ (gU rfl)).trans ed3,aS _ _ _,I.kp _ _ (k3 _ _ r2'),n5,I.kp _ _ w3,I.l,I.at_,RN.mpr ⟨λh=>?_,I.nd⟩,hm,al,len,cn8⟩⟩;rcases QH.mp h with h|h
 ·have:=I.q0;rw[←h,w3]at this;exact uD this
 ·refine nR h ?_;intro x hx hz;have:=I.f0 x hx;rw[hz,w3]at this;exact uD this
end
end
section
section
variable{C:Cx}{s:KS}
open Classical in
theorem um{objs:List KO}{as:List Pa}(nd:as.Nodup)(hl:as.length=objs.length)(h:∀(i:Nat)(o:KO)(a:Pa),objs[i]?=some o->as[i]?=some a->∃o',tg a s.h=some o'∧OS C (VS C.tk (λq=>tg q (dy as)) λZ Z=>False) (λx y=>∀(R:Wd) w,VR C R y w->VR C R x w) o o'):
  II C (λq=>tg q (dy as)) (λZ Z=>False) ⟨dy objs,cy objs.length⟩ s where
 next:=⟨objs.length,rfl,λi hi=>by
  show tg (cy i) (dy objs)=none;rw[dJ]
  split
  ·rw[eY];exact RU hi
  ·rfl⟩
 fwd:=λq o ho=>by
  have ho:tg q (dy objs)=some o:=ho;rw[dJ]at ho
  split at ho
  ·rename_i hq;have hi:bB q<as.length:=by rw[hl];exact(Rc.mp ho).1
   refine ah (h (bB q) o as[bB q] ho (QM hi)) ?_;intro o' h1 h2;refine⟨as[bB q],o',?_,h1,h2⟩;rw[dJ,if_pos hq];exact QM hi
  ·exact cO ho
 dom:=λq q' o hq Z=>by
  show∃o,tg q (dy objs)=some o;rw[dJ]at hq ⊢
  split at hq
  ·rename_i hp;rw[if_pos hp];have hi:bB q<objs.length:=by rw[←hl];exact(Rc.mp hq).1
   exact⟨_,QM hi⟩
  ·exact cO hq
 inj:=λq p q' h1 h2=>by
  rw[dJ]at h1 h2
  split at h1
  ·rename_i hq
   split at h2
   ·rename_i hp;refine az (Rc.mp h1) ?_;intro i1 e1;refine az (Rc.mp h2) ?_;intro i2 e2;have:=(List.getElem_inj nd).mp (e1.trans e2.symm);rw[hq,hp,this]
   ·exact cO h2
  ·exact cO h1
 zl:=λZ Z h=>h.elim
 zf:=λZ Z Z h=>h.elim
end
section
variable{tk:Nat->KV}{φ:Pa->Option Pa}{Z:Pa->KV->Prop}
theorem mm:∀{x:KV},flat x=true->VS tk φ Z x x:=by
 intro x;induction x with
 |cons x r i1 i2=>intro h;refine jB h ?_;intro h1 h2;exact⟨x,r,rfl,i1 h1,i2 h2⟩
 |none=>exact λzz=>.inl rfl
 |nat=>exact λzz=>.inl rfl
 |neg=>exact λzz=>.inl rfl
 |str=>exact λzz=>.inl rfl
 |tok=>exact λzz=>.inl rfl
 |nil=>exact λzz=>rfl
 |bool=>exact λzz=>rfl
 |_=>exact λh=>aO h
theorem xn:∀{es:KD},DA es->DS (VS tk φ Z) es es
 |.nil,_=>rfl
 |.cons a w r,h=>⟨w,r,rfl,mm h.1,xn h.2⟩
theorem i0:∀{l:List KV},(∀x∈l,flat x=true)->flat (au l)=true
 |[],_=>rfl
 |x::r,h=>Rb.mpr ⟨h x QF,i0 λy hy=>h y (QI _ hy)⟩
theorem Sg.flat{x:KV}(h:Sg x):flat x=true:=by rcases h with rfl|rfl|rfl|rfl|rfl<;>rfl
theorem xE{k:Nat}(h:k<3):flat (kY.getD k .none)=true:=DI (P:=λk=>flat (kY.getD k .none)=true) rfl rfl rfl h
theorem Dv{d:Nat}{v:KV}(h:rk d=some v):flat v=true:=by
 unfold rk at h
 split at h
 ·exact cO h
 ·cases QN h;have z:=xE (show d/4%3<3 from T6 _ (by decide));show(flat _&&(flat _&&flat _))=true;refine rwr z ?_;rfl
theorem jQ:∀(nms:List KV)(ds:List Nat),DA (d6 nms ds)
 |[],_=>trivial
 |c::r,ds=>by
  show DA (match rk (ds.headD 0)with|none=>d6 r ds.tail|some v=>.cons c v (d6 r ds.tail));cases h:rk (ds.headD 0)with
  |none=>exact jQ r ds.tail
  |some v=>exact⟨Dv h,jQ r ds.tail⟩
def Rf(r:R2):Prop:=flat (au r.1)=true∧flat r.2=true
theorem w8{b:Bool}{x:KV}(h:flat x=true):flat (un b x)=true:=by cases b<;>first|exact h|rfl
theorem Dw(f:Nat)(p u j:Bool):∀r∈r4 f p u j,Rf r:=by
 have hA:Rf rA:=⟨rfl,rfl⟩
 have hI:Rf (rI u):=⟨rfl,w8 rfl⟩
 have hL:Rf rL:=⟨rfl,rfl⟩
 have hJ:Rf (rJ f j):=⟨by unfold rJ;cases QB f 1<;>rfl,w8 rfl⟩
 have hP:Rf (rP f):=⟨by unfold rP;cases gH [.nat 1,.nat 2] (.nat f)<;>rfl,rfl⟩
 have h2:∀r∈r2 f p u,Rf r:=by
  unfold r2;cases QB f 4<;>cases p<;>(simp only[cond_true,cond_false,QH,QW,or_false,forall_eq_or_imp,forall_eq])<;>first|exact⟨hA,hI,hL⟩|exact⟨hA,hL,hI⟩|exact⟨hA,hI⟩
 have h3:∀r∈r3 f p u j,Rf r:=by
  unfold r3;cases gH [.nat 1,.nat 3,.nat 4] (.nat f)with
  |false=>exact h2
  |true=>exact λr hr=>(RG.mp hr).elim (h2 r) λh=>RZ.mp h▸hJ
 unfold r4;cases QB f 3 with
 |true=>exact h3
 |false=>exact λr hr=>(RG.mp hr).elim (h3 r) λh=>RZ.mp h▸hP
theorem lP(h:Nat)(es:KD):∀r∈jN h es,Rf r:=λr hr=>Dw _ _ _ _ r ((RG.mp hr).elim List.mem_of_mem_drop Ub)
end
section
def iD:Nat->List R2->List KV
 |_,[]=>[]
 |k,r::rs=>two (.ref (cy k)) r.2::iD (k+1) rs
def jT(n:Nat)(es:KD)(ws:List KV)(rs:List R2):List KO:=.dict n es::aF ws::aF (iD 3 rs)::rs.map λr=>aF r.1
def lU(n:Nat)(es:KD)(ws:List KV)(rs:List R2):KS:=⟨dy (jT n es ws rs),cy (jT n es ws rs).length⟩
def El(f:Nat):En:=tp (.f .e) (.ref (cy 2)) (tp (.d .e) (.ref (cy 1)) (tp (.c .e) (.ref (cy 0)) (tp (.b .e) (.tok (200000+f+2)) .nil)))
end
theorem sK:∀(k:Nat)(rs:List R2),(iD k rs).length=rs.length
 |_,[]=>rfl
 |k,r::rs=>congrArg QR (sK (k+1) rs)
theorem yT{tk:Nat->KV}{φ:Pa->Option Pa}{Z:Pa->KV->Prop}:∀(en:List E3)(k:Nat),(∀i x,en[i]?=some x->φ (cy (k+i))=some x.1)->(∀x∈en,flat x.2.2=true)->VS tk φ Z (au (iD k (en.map (·.2)))) (au (bY en))
 |[],_,_,_=>rfl
 |x::r,k,h,hf=>⟨_,_,rfl,⟨_,_,rfl,⟨x.1,h 0 x rfl,rfl⟩,⟨_,_,rfl,mm (hf x QF),rfl⟩⟩,yT r (k+1) (λi y hy=>by have:=h (i+1) y hy;refine rwr (show k+1+i=k+(i+1) by simp+arith) ?_;exact this) λy hy=>hf y (QI _ hy)⟩
theorem tH(as:List Pa)(i:Nat):tg (cy i) (dy as)=as[i]?:=by
 classical
 rw[dJ,eY,if_pos rfl]
theorem eT{α:Type}{p q:Pa}{v x:α}{t:T α}(h:tg q (tp p v t)=some x):(q=p∧x=v)∨tg q t=some x:=by
 by_cases z:q=p
 ·subst z;rw[aS]at h;exact .inl ⟨rfl,(QN h).symm⟩
 ·rw[am _ z]at h;exact .inr h
section
variable{C:Cx}{h n:Nat}{es:KD}{ws:List KV}{qr wq sq:Pa}{en:List E3}{e:En}{s:KS}
theorem MZ(A:L8 h es ws n qr wq sq en e s)(hes:DA es)(T:C.tk (200000+h%5)=.nat h):yx C e s (El (h%5)) (lU n es ws (jN h es)):=by
 have nq:∀{q:Pa}{l:List KV},tg q s.h=some (aF l)->qr≠q:=λhq z=>by rw[←z,A.r]at hq;exact KO.noConfusion (QN hq)
 have nd:(qr::wq::sq::en.map (·.1)).Nodup:=RN.mpr ⟨λhx=>by
  rcases QH.mp hx with z|hx
  ·exact nq (l:=ws) (q:=wq) A.w z
  ·rcases QH.mp hx with z|hx
   ·exact nq A.p z
   ·refine nR hx ?_;intro x hx z;exact nq (A.at_ x hx) z.symm,A.nd⟩
 have rf:∀x∈en,Rf x.2:=λx hx=>lP h es x.2 (A.rules▸Tv hx);rw[←A.rules];have K:=um (C:=C) (s:=s) (objs:=jT n es ws (en.map (·.2))) nd (by unfold jT;simp only[S4,Ra]) λi o a ho ha=>?_
 ·refine⟨_,_,K,λq x hx=>?_⟩;rcases eT hx with zq|hx
  ·refine ar zq ?_;clear zq;rintro rfl rfl;exact⟨_,A.ef,sq,tH _ 2,rfl⟩
  ·rcases eT hx with zq|hx
   ·refine ar zq ?_;clear zq;rintro rfl rfl;exact⟨_,A.ed,wq,tH _ 1,rfl⟩
   ·rcases eT hx with zq|hx
    ·refine ar zq ?_;clear zq;rintro rfl rfl;exact⟨_,A.ec,qr,tH _ 0,rfl⟩
    ·rcases eT hx with zq|hx
     ·refine ar zq ?_;clear zq;rintro rfl rfl;exact⟨_,A.eb,.inr ⟨_,rfl,T.symm,rfl⟩⟩
     ·rw[fj]at hx;exact cO hx
 ·match i,ho,ha with
  |0,ho,ha=>cases QN ho;cases QN ha;exact⟨_,A.r,es,rfl,xn hes⟩
  |1,ho,ha=>cases QN ho;cases QN ha;exact⟨_,A.w,_,rfl,mm (i0 λx hx=>(A.al x hx).flat)⟩
  |2,ho,ha=>
   cases QN ho;cases QN ha;refine⟨_,A.p,au (bY en),?_,yT en 3 (λi x hx=>?_) λx hx=>(rf x hx).2⟩
   ·unfold aF;rw[sK,Ra,bO]
   ·refine(tH _ (3+i)).trans ?_;rw[show 3+i=i+3 by simp+arith];show(en.map (·.1))[i]?=_;rw[Rj,hx];rfl
  |i+3,ho,ha=>
   have ho:((en.map (·.2)).map λr=>aF r.1)[i]?=some o:=ho;have ha:(en.map (·.1))[i]?=some a:=ha;rw[Rj,Rj]at ho;rw[Rj]at ha;cases hx:en[i]? with
   |none=>rw[hx]at ha;exact cO ha
   |some x=>
    rw[hx]at ha ho;cases QN ho;cases QN ha;have mx:=Rq hx;exact⟨_,A.at_ x mx,_,rfl,mm (rf x mx).1⟩
end
end
end
section
inductive Si where|a|i|e|j|p
inductive Ru where|a|s|l|u|p
inductive Xo where|o|i|j|p|l|u
set_option genCtorIdx false in
inductive Qs where|c (x:Xo)|g (x:Xo)|A|J|P
inductive Ch where|sh|rd|no
set_option genCtorIdx false in
inductive Ac where|no|sh (q:Qs)|rd (r:Ru)|ok
structure Pm where
 hl:Bool
 sj:Nat
 sp:Nat
 nu:Ru->Nat
 ch:Ru->Bool->Ch
section
noncomputable def Ac.of(c:Ch)(q:Qs)(r:Ru):Ac:=match c with|.sh=>.sh q|.rd=>.rd r|.no=>.no
noncomputable def Pm.fo(P:Pm)(m:Option Si):Bool:=match m with|none=>true|some .e=>true|some .p=>!QB P.sp 0|_=>false
noncomputable def Xo.ru(x:Xo):Option Ru:=match x with|.i=>some .s|.p=>some .p|.l=>some .l|.u=>some .u|_=>none
noncomputable def Pm.cho(P:Pm)(r:Option Ru):Ch:=match r with|none=>.sh|some r=>P.ch r true
noncomputable def Pm.qp(P:Pm):Qs:=bif QB P.sp 3 then .c .p else .P
noncomputable def Pm.cj(P:Pm):Qs:=bif QB P.sj 4 then .c .u else .J
noncomputable def Pm.op(P:Pm)(m:Option Si):Bool:=match m with|some .a=>true|some .i=>true|some .j=>!QB P.sj 0|_=>false
noncomputable def Pm.ec(P:Pm)(m:Option Si):Ch:=match m with|some .e=>bif P.hl then P.ch .s false else .rd|_=>.rd
noncomputable def Ru.ac(r:Option Ru)(z:Ac):Ac:=match r with|some r=>.rd r|none=>z
noncomputable def Pm.er(P:Pm)(r:Ru):Ch:=match r with|.s=>bif P.hl then P.ch .s false else .rd|_=>.rd
noncomputable def Xo.io(x:Xo):Bool:=match x with|.o=>true|_=>false
noncomputable def Pm.act(P:Pm)(q:Qs)(m:Option Si):Ac:=match q with
 |.c _=>match m with
  |some .a=>.sh .A
  |some .i=>.sh (.c .i)
  |some .j=>bif QB P.sj 0 then .no else .sh (.c .j)
  |_=>.no
 |.A=>bif P.fo m then .rd .a else .no
 |.J=>bif P.fo m then .rd .u else .no
 |.P=>bif P.fo m then .rd .p else .no
 |.g x=>match m with
  |none=>Ru.ac x.ru (bif x.io then .ok else .no)
  |some .e=>match x.ru with|some r=>.of (P.er r) (.c .l) r|none=>bif x.io then .no else .sh P.cj
  |some .p=>bif QB P.sp 0 then .no else match x.ru with|none=>.sh P.qp|some r=>.of (P.ch r true) P.qp r
  |_=>.no
noncomputable def Pm.len(P:Pm)(r:Ru):Nat:=match r with|.a=>1|.s=>2|.l=>4|.u=>P.sj|.p=>P.sp
noncomputable def Pm.tr(P:Pm)(r:Ru)(ks:List KV):KV:=two (.nat (P.nu r)) (.fl (au ks))
abbrev yC:=KV×Nat×Bool
noncomputable def IM(q:Qs):Bool:=match q with|.g _=>false|_=>true
noncomputable def tc(st:List (Qs×KV)):Nat:=st.countP λx=>IM x.1
inductive xz(P:Pm)(w:List Si):Nat->List (Qs×KV)->Nat->yC->Prop
 |dead {q v st pl}:P.act q w[pl]?=.no->xz P w 0 ((q,v)::st) pl (.none,pl,true)
 |ok {t pl}:P.act (.g .o) w[pl]?=.ok->xz P w 0 [(.g .o,t),(.c .o,.none)] pl (t,pl,false)
 |sh {n q q' v st pl r}:P.act q w[pl]?=.sh q'->xz P w n ((q',.nat pl)::(q,v)::st) (pl+1) r->xz P w (n+1) ((q,v)::st) pl r
 |rd {n q v k x u ks st pl r}:P.act q w[pl]?=.rd k->((q,v)::ks).length=P.len k->1≤tc ((q,v)::ks)->xz P w n ((.g x,P.tr k (((q,v)::ks).reverse.map (·.2)))::(.c x,u)::st) pl r->xz P w (n+1) ((q,v)::(ks++(.c x,u)::st)) pl r
set_option genCtorIdx false in
inductive yE where|bad (z:Nat)|ok (t:KV) (z:Nat)
set_option genCtorIdx false in
inductive Nk where|d (pl:Nat) (r:Option Ru)|l (t:KV) (pl:Nat) (r:Option Ru)
def px(P:Pm)(w:List Si)(r:Option Ru)(z:Nat):Prop:=w[z]?=none∨w[z]?=some .e∨(w[z]?=some .p∧P.sp≠0∧P.cho r=.rd)
end
section
noncomputable def Cj(x:Si):Bool:=match x with|.i=>true|.j=>true|.p=>true|_=>false
noncomputable def cw(w:List Si)(n:Nat):Nat:=(w.take n).countP Cj
end
theorem xr(w:List Si):∀{m n:Nat},m≤n->cw w m≤cw w n:=λ{m n} h=>by
 have:w.take n=w.take m++(w.take n).drop m:=by
  have:=(Td m (w.take n)).symm;rw[List.take_take,Sy h]at this;exact this
 unfold cw;refine rwr this (rwr TM ?_);exact RB _ _
theorem MW{w:List Si}{n:Nat}{x:Si}(h:w[n]?=some x)(k:Cj x=true):cw w (n+1)=cw w n+1:=by
 unfold cw;refine rwr List.take_succ (rwr h (rwr TM ?_));show _+List.countP Cj [x]=_;refine rwr (Uz k) ?_;rfl
theorem ul{w:List Si}{n m:Nat}{x:Si}(h:w[n]?=some x)(k:Cj x=true)(l:n+1≤m):cw w n+1≤cw w m:=MW h k▸xr w l
theorem gI{w:List Si}{n:Nat}{x:Si}(h:w[n]?=some x):n<w.length:=(Rc.mp h).1
theorem yo:∀{x:KV}{n m:Nat},n≤m->eI x n=true->eI x m=true:=by
 intro x;induction x with
 |nil=>intro n m l h;exact QK (QG (QA h) l)
 |cons x r i1 i2=>
  intro n m l h;refine jW h ?_;rintro k rfl h1 h2;cases m with
  |zero=>cases l
  |succ m=>exact aP.mpr ⟨i1 (T8 l) h1,i2 l h2⟩
 |fl x ih=>
  intro n m l h;cases n with
  |zero=>exact aO h
  |succ n=>
   cases m with
   |zero=>cases l
   |succ m=>exact ih l h
 |ref=>intro n m l h;exact aO h
 |tok=>intro n m l h;exact aO h
 |_=>intro n m l h;rfl
theorem FQ{k:Nat}:∀{ks:List KV},(∀x∈ks,eI x k=true)->eI (au ks) (k+1)=true
 |[],_=>rfl
 |x::r,h=>aP.mpr ⟨h x QF,FQ λy hy=>h y (QI _ hy)⟩
section
variable{P:Pm}{w:List Si}
noncomputable def Mz(a:Ac):Bool:=match a with|.sh _=>true|_=>false
theorem EP{q q':Qs}(a:P.act q none=.sh q'):False:=by
 have h:Mz (P.act q none)=false:=by
  cases q with
  |g x=>cases x<;>rfl
  |_=>rfl
 rw[a]at h;exact p7 h
theorem PG{n p T T' l:Nat}(h1:n+2*(p+1)≤2*l+T')(h2:T'≤T+1):n+1+2*p≤2*l+T:=by omega
theorem PF{n p A B l:Nat}(h1:n+p≤l+B)(h2:1≤A):n+1+p≤l+(A+B):=by omega
theorem LF(y:Qs×KV)(st:List (Qs×KV)):tc (y::st)≤tc st+1:=by
 unfold tc;refine rwr List.countP_cons ?_;cases IM y.1 with
 |true=>exact QZ _
 |false=>exact RA _
theorem xz.bound{n:Nat}{st:List (Qs×KV)}{pl:Nat}{r:yC}(h:xz P w n st pl r)(hp:pl≤w.length):n+2*pl≤2*w.length+tc st:=by
 induction h with
 |dead=>rw[TA];exact QG (Up 2 hp) (RB _ _)
 |ok=>rw[TA];exact QG (Up 2 hp) (RB _ _)
 |@sh n q q' v st pl r a _ ih=>
  have lt:pl<w.length:=UH λz=>by rw[RU z]at a;exact EP a
  have h1:=ih lt;exact PG h1 (LF (q',.nat pl) ((q,v)::st))
 |@rd n q v k x u ks st pl r a l t _ ih=>
  have h1:=ih hp;have e:tc ((.g x,P.tr k (((q,v)::ks).reverse.map (·.2)))::(.c x,u)::st)=tc ((.c x,u)::st):=rfl;have e2:tc ((q,v)::(ks++(.c x,u)::st))=tc ((q,v)::ks)+tc ((.c x,u)::st):=by unfold tc;rw[←List.cons_append,TM]
  rw[e]at h1;rw[e2];exact PF h1 t
def fS(P:Pm)(w:List Si)(τ:List (Qs×KV))(pl:Nat)(r:yC):Prop:=∃n,xz P w n τ pl r
theorem fS.sh{q q':Qs}{v:KV}{st:List (Qs×KV)}{pl:Nat}{r:yC}(a:P.act q w[pl]?=.sh q')(h:fS P w ((q',.nat pl)::(q,v)::st) (pl+1) r):fS P w ((q,v)::st) pl r:=h.elim λn h=>⟨n+1,.sh a h⟩
theorem fS.rd{q:Qs}{v:KV}{ks:List (Qs×KV)}{k:Ru}{x:Xo}{u:KV}{st:List (Qs×KV)}{pl:Nat}{r:yC}(a:P.act q w[pl]?=.rd k)(l:((q,v)::ks).length=P.len k)(t:1≤tc ((q,v)::ks))(h:fS P w ((.g x,P.tr k (((q,v)::ks).reverse.map (·.2)))::(.c x,u)::st) pl r):fS P w ((q,v)::(ks++(.c x,u)::st)) pl r:=h.elim λn h=>⟨n+1,.rd a l t h⟩
theorem fS.dead{q:Qs}{v:KV}{st:List (Qs×KV)}{pl:Nat}(a:P.act q w[pl]?=.no):fS P w ((q,v)::st) pl (.none,pl,true):=⟨0,.dead a⟩
structure IV(P:Pm)(w:List Si)(τ:List (Qs×KV))(x:Xo)(t v:KV)(σ:List (Qs×KV))(pl:Nat):Prop where
 go:P.fo w[pl]?=true->∀r,fS P w ((.g x,t)::(.c x,v)::σ) pl r->fS P w τ pl r
 no:P.fo w[pl]?=false->fS P w τ pl (.none,pl,true)
def IT(P:Pm)(w:List Si)(τ:List (Qs×KV))(pl:Nat)(x:Xo)(v:KV)(σ:List (Qs×KV))(o:yE):Prop:=match o with
 |.bad z=>fS P w τ pl (.none,z,true)
 |.ok t z=>∀r,fS P w ((.g x,t)::(.c x,v)::σ) z r->fS P w τ pl r
theorem IT.back{τ τ':List (Qs×KV)}{pl pl':Nat}{x:Xo}{v:KV}{σ:List (Qs×KV)}{o:yE}(f:∀r,fS P w τ' pl' r->fS P w τ pl r)(h:IT P w τ' pl' x v σ o):IT P w τ pl x v σ o:=by
 cases o with
 |bad z=>exact f _ h
 |ok t z=>exact λr k=>f _ (h r k)
theorem px.fo{r:Option Ru}{z:Nat}(h:px P w r z):P.fo w[z]?=true:=by
 rcases h with h|h|⟨h,k,_⟩<;>refine rwr h ?_
 ·rfl
 ·rfl
 ·show(!QB P.sp 0)=true;cases e:QB P.sp 0 with
  |true=>exact absurd (QY e) k
  |false=>rfl
theorem EK{n:Nat}(h:n≠0):QB n 0=false:=by cases e:QB n 0 with|true=>exact absurd (QY e) h|false=>rfl
theorem uA{x:Xo}{z:Nat}(h:w[z]?=some .p)(k:P.sp≠0)(c:Ch)(e:P.cho x.ru=c):P.act (.g x) w[z]?=.of c P.qp ((x.ru).getD .a):=by
 subst e;refine rwr h ?_;show(bif QB P.sp 0 then Ac.no else match x.ru with|none=>.sh P.qp|some r=>.of (P.ch r true) P.qp r)=_;refine rwr (EK k) ?_;cases x.ru<;>rfl
theorem px.rd{x:Xo}{r:Ru}{z:Nat}(hx:x.ru=some r)(h:px P w (some r) z)(he:r=.s->P.ec w[z]?=.rd):P.act (.g x) w[z]?=.rd r:=by
 rcases h with h|h|zq
 ·refine rwr h ?_;show Ru.ac x.ru _=_;refine rwr hx ?_;rfl
 ·rw[h]at he ⊢;show(match x.ru with|some r=>Ac.of (P.er r) (.c .l) r|none=>bif x.io then .no else .sh P.cj)=_;refine rwr hx ?_;have e:P.er r=.rd:=by cases r<;>first|exact he rfl|rfl
  show Ac.of (P.er r) _ r=_;refine rwr e ?_;rfl
 ·refine b0 zq ?_;clear zq;intro h k l;refine rwr (uA h k _ rfl) (rwr hx (rwr l ?_));rfl
theorem uB{z:Nat}{x:Xo}(h:w[z]?=some .j)(k:P.sj≠0):P.act (.c x) w[z]?=.sh (.c .j):=by
 refine rwr h ?_;show(bif QB P.sj 0 then Ac.no else .sh (.c .j))=_;refine rwr (EK k) ?_;rfl
theorem LG{q:Qs}{v:KV}{ks:List (Qs×KV)}(h:IM q=true):1≤tc ((q,v)::ks):=by
 have:tc ((q,v)::ks)=tc ks+1:=Uz (p:=λx:Qs×KV=>IM x.1) h;simp_all+arith
theorem Lc{q p:Qs}{v u:KV}{ks:List (Qs×KV)}(h:IM p=true):1≤tc ((q,v)::(p,u)::ks):=by
 have e:tc ((p,u)::ks)=tc ks+1:=Uz (p:=λx:Qs×KV=>IM x.1) h;have:tc ((q,v)::(p,u)::ks)=tc ((p,u)::ks)+_:=List.countP_cons;simp_all+arith
theorem v9{q:Qs}{k:Ru}{v u:KV}{ks:List (Qs×KV)}{x:Xo}{σ:List (Qs×KV)}{pl:Nat}(a:∀m,P.act q m=bif P.fo m then .rd k else .no)(l:((q,v)::ks).length=P.len k)(t:1≤tc ((q,v)::ks)):IV P w ((q,v)::(ks++(.c x,u)::σ)) x (P.tr k (((q,v)::ks).reverse.map (·.2))) u σ pl where
 go:=λh r e=>.rd (by rw[a,h];rfl) l t e
 no:=λh=>.dead (by rw[a,h];rfl)
theorem qX{k:Ru}{y:Xo}{v u:KV}{ks:List (Qs×KV)}{x:Xo}{σ:List (Qs×KV)}{pl:Nat}(hx:y.ru=some k)(h:px P w (some k) pl)(he:k=.s->P.ec w[pl]?=.rd)(l:((Qs.g y,v)::ks).length=P.len k)(t:1≤tc ((Qs.g y,v)::ks)):IV P w ((.g y,v)::(ks++(.c x,u)::σ)) x (P.tr k (((Qs.g y,v)::ks).reverse.map (·.2))) u σ pl where
 go:=λzz r e=>.rd (h.rd hx he) l t e
 no:=λz=>by rw[h.fo]at z;exact p7 z
theorem BX{z:Nat}(h:w[z]?=some .e):P.act (.g .j) w[z]?=.sh P.cj:=by refine rwr h ?_;rfl
theorem BW{z:Nat}{c:Ch}(h:w[z]?=some .e)(k:P.ec w[z]?=c):P.act (.g .i) w[z]?=.of c (.c .l) .s:=by rw[h]at k ⊢;subst k;rfl
theorem FP{r:Ru}{k:Nat}{ks:List KV}(h:∀x∈ks,eI x k=true):eI (P.tr r ks) (k+2)=true:=by
 show aB true false (aB (eI (au ks) (k+1)) false true)=true;refine rwr (FQ h) ?_;rfl
def Dp(w:List Si)(a z:Nat)(t:KV):Prop:=∀k,cw w z≤k+cw w a->eI t (2*k+2)=true
def Cu(w:List Si)(a z:Nat)(t:KV):Prop:=(∀m,eI t m=true)∨∃b c,Dp w b c t∧cw w c+(cw w a+1)≤cw w z+cw w b
theorem PE{A B C Z J:Nat}(h:C+(A+1)≤Z+B)(k:Z≤J+1+A):C≤J+B:=by omega
theorem PD{A Z:Nat}:∀{k:Nat},A+1≤Z->Z≤k+A->∃j,k=j+1
 |0,h1,h=>absurd (QG h1 h) (by rw[TA];exact Nat.not_succ_le_self A)
 |k+1,_,_=>⟨k,rfl⟩
theorem PC{P Z A:Nat}(h:P+1≤Z):P+(A+1)≤Z+A:=by omega
theorem Dp.node{a z:Nat}{r:Ru}{ks:List KV}(h1:cw w a+1≤cw w z)(h:∀x∈ks,Cu w a z x):Dp w a z (P.tr r ks):=λk hk=>by
 refine az (PD h1 hk) ?_;clear h1;rintro j rfl;exact FP (k:=2*j+2) λx hx=>(h x hx).elim (λh=>h _) λ⟨b,c,h3,h4⟩=>h3 j (PE h4 hk)
theorem JR{a z n:Nat}:Cu w a z (.nat n):=.inl λzz=>rfl
theorem hG{a z n:Nat}{ks:List KV}(h:∀x∈ks,Cu w a z x):∀x∈KV.nat n::ks,Cu w a z x:=λx hx=>(QH.mp hx).elim (λe=>e▸JR) (h x)
theorem hK{a z:Nat}{y:KV}{ks:List KV}(k:Cu w a z y)(h:∀x∈ks,Cu w a z x):∀x∈y::ks,Cu w a z x:=λx hx=>(QH.mp hx).elim (λe=>e▸k) (h x)
theorem ll{a z:Nat}:∀x∈([]:List KV),Cu w a z x:=λx hx=>absurd hx QW
def Dr(P:Pm)(w:List Si)(s:Nk)(o:yE):Prop:=match s with
 |.d pl r=>(∀x v σ,x.ru=r->IT P w ((.c x,v)::σ) pl x v σ o)∧∀t z,o=.ok t z->px P w r z∧pl<z∧z≤w.length∧Dp w pl z t
 |.l t0 pl r=>(∀x v σ τ,x.ru=r->IV P w τ x t0 v σ pl->IT P w τ pl x v σ o)∧∀t z,o=.ok t z->pl≤w.length->px P w r z∧pl≤z∧z≤w.length∧∀a,a≤pl->Dp w a pl t0->Dp w a z t
section
variable{pl q z:Nat}{r:Option Ru}{o:yE}{t b c:KV}
theorem Dr.stop(h:Dr P w (.d pl r) (.ok t z)):px P w r z:=(h.2 t z rfl).1
theorem Dr.mo(h:Dr P w (.d pl r) (.ok t z)):pl<z∧z≤w.length∧Dp w pl z t:=(h.2 t z rfl).2
theorem Dr.nd(h:∀x v σ,x.ru=r->fS P w ((.c x,v)::σ) pl (.none,z,true)):Dr P w (.d pl r) (.bad z):=⟨h,λt z e=>yE.noConfusion e⟩
theorem Dr.vd{pl':Nat}(h:Dr P w (.l t pl' r) o)(h1:pl<pl')(h2:pl'≤w.length)(d:Dp w pl pl' t)(f:∀x v σ,∃τ,IV P w τ x t v σ pl'∧∀rr,fS P w τ pl' rr->fS P w ((.c x,v)::σ) pl rr):Dr P w (.d pl r) o:=
 ⟨λx v σ hx=>(f x v σ).elim λτ ⟨p,g⟩=>.back g (h.1 x v σ τ hx p),λt z e=>let⟨s,a,b,c⟩:=h.2 t z e h2;⟨s,Sa h1 a,b,c pl (Sh h1) d⟩⟩
theorem Dr.nl(h:∀x v σ τ,x.ru=r->IV P w τ x t v σ pl->fS P w τ pl (.none,z,true)):Dr P w (.l t pl r) (.bad z):=⟨h,λt z e=>yE.noConfusion e⟩
theorem Dr.vl{pl':Nat}{t':KV}(h:Dr P w (.l t' pl' r) o)(h1:pl≤pl')(h2:pl'≤w.length)(d:∀a,a≤pl->Dp w a pl t->Dp w a pl' t')(hf:P.fo w[pl]?=true)(f:∀x v σ,x.ru=r->∃τ,IV P w τ x t' v σ pl'∧∀rr,fS P w τ pl' rr->fS P w ((.g x,t)::(.c x,v)::σ) pl rr):Dr P w (.l t pl r) o:=
 ⟨λx v σ τ hx p=>(f x v σ hx).elim λτ' ⟨p',g⟩=>.back (λr e=>p.go hf _ (g r e)) (h.1 x v σ τ' hx p'),λt z e Z=>let⟨s,a,b,c⟩:=h.2 t z e h2;⟨s,QG h1 a,b,λa' l k=>c a' (QG l h1) (d a' l k)⟩⟩
theorem Dr.dx(h:P.op w[pl]?=false):Dr P w (.d pl r) (.bad pl):=.nd λx v σ Z=>.dead (by
 cases e:w[pl]? with
 |none=>rfl
 |some m=>
  rw[e]at h;cases m with
  |a=>exact p7 h
  |i=>exact p7 h
  |j=>
   have h:(!QB P.sj 0)=false:=h;show(bif QB P.sj 0 then Ac.no else .sh (.c .j))=_;cases l:QB P.sj 0 with
   |true=>rfl
   |false=>rw[l]at h;exact p7 h
  |_=>rfl)
theorem Eo:Dp w pl (pl+1) (P.tr .a [.nat pl]):=λk Z=>FP (k:=2*k) λx hx=>by cases RZ.mp hx;rfl
theorem Dr.da(h:w[pl]?=some .a)(k:Dr P w (.l (P.tr .a [.nat pl]) (pl+1) r) o):Dr P w (.d pl r) o:=k.vd (Sb _) (gI h) Eo λx v σ=>⟨_,v9 (q:=.A) (k:=.a) (ks:=[]) (λm=>rfl) rfl (LG rfl),λr=>.sh (by refine rwr h ?_;rfl)⟩
theorem Dr.jb(h:w[pl]?=some .j)(k:P.sj≠0)(d:Dr P w (.d (pl+1) none) (.bad z)):Dr P w (.d pl r) (.bad z):=.nd λx v σ Z=>.sh (uB h k) (d.1 .j _ _ rfl)
theorem Dr.je(h:w[pl]?=some .j)(k:P.sj≠0)(d:Dr P w (.d (pl+1) none) (.ok b z))(l:w[z]?=none):Dr P w (.d pl r) (.bad z):=.nd λx v σ Z=>.sh (uB h k) (d.1 .j _ _ rfl _ (.dead (by refine rwr l ?_;rfl)))
theorem ya{a z c d:Nat}{x:Si}{t:KV}(h:w[a]?=some x)(k:Cj x=true)(h1:a+1≤c)(h2:d≤z)(dp:Dp w c d t):Cu w a z t:=.inr ⟨c,d,dp,Nat.add_le_add (xr w h2) (ul h k h1)⟩
theorem Dr.j3(h:w[pl]?=some .j)(k:P.sj=3)(d:Dr P w (.d (pl+1) none) (.ok b q))(l:w[q]?=some .e)(n:Dr P w (.l (P.tr .u [.nat pl,b,.nat q]) (q+1) r) o):Dr P w (.d pl r) o:=by
 refine b0 d.mo ?_;intro m1 m2 m3;have m0:pl+1≤q:=Sh m1;refine n.vd (Nat.lt_succ_of_lt m0) (gI l) (.node (ul h rfl (Tf m0)) (hG (hK (ya h rfl (QZ _) (RA q) m3) (hG ll)))) λx v σ=>⟨(.J,.nat q)::([(.g .j,b),(.c .j,.nat pl)]++(.c x,v)::σ),v9 (q:=.J) (k:=.u) (ks:=[(.g .j,b),(.c .j,.nat pl)]) (λm=>rfl) k.symm (LG rfl),λr e=>.sh (uB h (by refine rwr k ?_;decide)) (d.1 .j _ _ rfl _ (.sh (BX l) ?_))⟩
 rw[show P.cj=.J by unfold Pm.cj;rw[k];rfl];exact e
theorem O9(k:P.sj=4):P.cj=.c .u:=by unfold Pm.cj;refine rwr k ?_;rfl
theorem Dr.j4b(h:w[pl]?=some .j)(k:P.sj=4)(d:Dr P w (.d (pl+1) none) (.ok b q))(l:w[q]?=some .e)(d2:Dr P w (.d (q+1) (some .u)) (.bad z)):Dr P w (.d pl r) (.bad z):=.nd λx v σ Z=>.sh (uB h (by refine rwr k ?_;decide)) (d.1 .j _ _ rfl _ (.sh (BX l) (by refine rwr (O9 k) ?_;exact d2.1 .u _ _ rfl)))
theorem Dr.j4(h:w[pl]?=some .j)(k:P.sj=4)(d:Dr P w (.d (pl+1) none) (.ok b q))(l:w[q]?=some .e)(d2:Dr P w (.d (q+1) (some .u)) (.ok c z))(n:Dr P w (.l (P.tr .u [.nat pl,b,.nat q,c]) z r) o):Dr P w (.d pl r) o:=by
 refine b0 d.mo ?_;intro m1 m2 m3;refine b0 d2.mo ?_;intro n1 n2 n3;have m0:pl+1≤q:=Sh m1;have n0:q≤z:=Nat.le_of_succ_le (Sh n1);exact n.vd (Sa m0 n0) n2 (.node (ul h rfl (QG m0 n0)) (hG (hK (ya h rfl (QZ _) n0 m3) (hG (hK (ya h rfl (Tf m0) (QZ z) n3) ll))))) λx v σ=>⟨(.g .u,c)::([(.c .u,.nat q),(.g .j,b),(.c .j,.nat pl)]++(.c x,v)::σ),qX (ks:=[(.c .u,.nat q),(.g .j,b),(.c .j,.nat pl)]) rfl d2.stop (λz=>by exact Ru.noConfusion z) k.symm (Lc rfl),λr e=>.sh (uB h (by refine rwr k ?_;decide)) (d.1 .j _ _ rfl _ (.sh (BX l) (by refine rwr (O9 k) ?_;exact d2.1 .u _ _ rfl _ e)))⟩
theorem A8{x:Xo}(h:w[pl]?=some .i):P.act (.c x) w[pl]?=.sh (.c .i):=by refine rwr h ?_;rfl
theorem Dr.ib(h:w[pl]?=some .i)(d:Dr P w (.d (pl+1) (some .s)) (.bad z)):Dr P w (.d pl r) (.bad z):=.nd λx v σ Z=>.sh (A8 h) (d.1 .i _ _ rfl)
theorem Dr.in_(h:w[pl]?=some .i)(d:Dr P w (.d (pl+1) (some .s)) (.ok b q))(he:w[q]?=some .e)(l:P.ec w[q]?=.no):Dr P w (.d pl r) (.bad q):=.nd λx v σ Z=>.sh (A8 h) (d.1 .i _ _ rfl _ (.dead (BW he l)))
theorem Dr.is(h:w[pl]?=some .i)(d:Dr P w (.d (pl+1) (some .s)) (.ok b q))(l:P.ec w[q]?=.rd)(n:Dr P w (.l (P.tr .s [.nat pl,b]) q r) o):Dr P w (.d pl r) o:=by
 refine b0 d.mo ?_;intro m1 m2 m3;have m0:pl+1≤q:=Sh m1;exact n.vd m0 m2 (.node (ul h rfl m0) (hG (hK (ya h rfl (QZ _) (QZ q) m3) ll))) λx v σ=>⟨(.g .i,b)::([(.c .i,.nat pl)]++(.c x,v)::σ),qX (ks:=[(.c .i,.nat pl)]) rfl d.stop (λzz=>l) rfl (Lc rfl),λr e=>.sh (A8 h) (d.1 .i _ _ rfl _ e)⟩
theorem Dr.ilb(h:w[pl]?=some .i)(d:Dr P w (.d (pl+1) (some .s)) (.ok b q))(he:w[q]?=some .e)(l:P.ec w[q]?=.sh)(d2:Dr P w (.d (q+1) (some .l)) (.bad z)):Dr P w (.d pl r) (.bad z):=.nd λx v σ Z=>.sh (A8 h) (d.1 .i _ _ rfl _ (.sh (BW he l) (d2.1 .l _ _ rfl)))
theorem Dr.il(h:w[pl]?=some .i)(d:Dr P w (.d (pl+1) (some .s)) (.ok b q))(he:w[q]?=some .e)(l:P.ec w[q]?=.sh)(d2:Dr P w (.d (q+1) (some .l)) (.ok c z))(n:Dr P w (.l (P.tr .l [.nat pl,b,.nat q,c]) z r) o):Dr P w (.d pl r) o:=by
 refine b0 d.mo ?_;intro m1 m2 m3;refine b0 d2.mo ?_;intro n1 n2 n3;have m0:pl+1≤q:=Sh m1;have n0:q≤z:=Nat.le_of_succ_le (Sh n1);exact n.vd (Sa m0 n0) n2 (.node (ul h rfl (QG m0 n0)) (hG (hK (ya h rfl (QZ _) n0 m3) (hG (hK (ya h rfl (Tf m0) (QZ z) n3) ll))))) λx v σ=>⟨(.g .l,c)::([(.c .l,.nat q),(.g .i,b),(.c .i,.nat pl)]++(.c x,v)::σ),qX (ks:=[(.c .l,.nat q),(.g .i,b),(.c .i,.nat pl)]) rfl d2.stop (λz=>by exact Ru.noConfusion z) rfl (Lc rfl),λr e=>.sh (A8 h) (d.1 .i _ _ rfl _ (.sh (BW he l) (d2.1 .l _ _ rfl _ e)))⟩
theorem AZ(h:w[pl]?=some .p)(k:P.sp≠0):P.fo w[pl]?=true:=by refine rwr h ?_;show(!QB P.sp 0)=true;refine rwr (EK k) ?_;rfl
theorem Dr.le(h:w[pl]?=none∨w[pl]?=some .e):Dr P w (.l t pl r) (.ok t pl):=⟨λx v σ τ Z p r e=>p.go (by rcases h with h|h<;>rw[h]<;>rfl) r e,λt' z e hl=>by cases e;exact⟨h.elim .inl λh=>.inr (.inl h),QZ _,hl,λZ Z h=>h⟩⟩
theorem Dr.lx(h:P.fo w[pl]?=false):Dr P w (.l t pl r) (.bad pl):=.nl λx v σ τ Z p=>p.no h
theorem Dr.ln(h:w[pl]?=some .p)(k:P.sp≠0)(l:P.cho r=.no):Dr P w (.l t pl r) (.bad pl):=.nl λx v σ τ hx p=>p.go (AZ h k) _ (.dead (uA h k _ (hx▸l)))
theorem Dr.lr(h:w[pl]?=some .p)(k:P.sp≠0)(l:P.cho r=.rd):Dr P w (.l t pl r) (.ok t pl):=⟨λx v σ τ Z p r e=>p.go (AZ h k) r e,λt' z e hl=>by cases e;exact⟨.inr (.inr ⟨h,k,l⟩),QZ _,hl,λZ Z h=>h⟩⟩
theorem JS{a z:Nat}(c1:cw w pl+1≤cw w z)(da:Dp w a pl t):Cu w a z t:=.inr ⟨a,pl,da,PC c1⟩
theorem Fi{a z:Nat}(h:a≤pl)(c1:cw w pl+1≤cw w z):cw w a+1≤cw w z:=QG (RV (xr w h)) c1
theorem Dr.l2(h:w[pl]?=some .p)(k:P.sp=2)(l:P.cho r=.sh)(n:Dr P w (.l (P.tr .p [t,.nat pl]) (pl+1) r) o):Dr P w (.l t pl r) o:=by
 have k0:P.sp≠0:=by refine rwr k ?_;decide
 have c1:=ul h rfl (QZ _);refine n.vl (RA pl) (gI h) (λa ha da=>.node (Fi ha c1) (hK (JS c1 da) (hG ll))) (AZ h k0) λx v σ hx=>⟨(.P,.nat pl)::([(.g x,t)]++(.c x,v)::σ),v9 (q:=.P) (k:=.p) (ks:=[(.g x,t)]) (λm=>rfl) k.symm (LG rfl),λr e=>.sh (uA h k0 _ (hx▸l)) ?_⟩
 rw[show P.qp=.P by unfold Pm.qp;rw[k];rfl];exact e
theorem NI(k:P.sp=3):P.qp=.c .p:=by unfold Pm.qp;refine rwr k ?_;rfl
theorem Dr.l3b(h:w[pl]?=some .p)(k:P.sp=3)(l:P.cho r=.sh)(d:Dr P w (.d (pl+1) (some .p)) (.bad z)):Dr P w (.l t pl r) (.bad z):=.nl λx v σ τ hx p=>p.go (AZ h (by refine rwr k ?_;decide)) _ (.sh (uA h (by refine rwr k ?_;decide) _ (hx▸l)) (by show fS P w ((P.qp,_)::_) _ _;refine rwr (NI k) ?_;exact d.1 .p _ _ rfl))
theorem Dr.l3(h:w[pl]?=some .p)(k:P.sp=3)(l:P.cho r=.sh)(d:Dr P w (.d (pl+1) (some .p)) (.ok c z))(n:Dr P w (.l (P.tr .p [t,.nat pl,c]) z r) o):Dr P w (.l t pl r) o:=by
 have k0:P.sp≠0:=by refine rwr k ?_;decide
 refine b0 d.mo ?_;intro m1 m2 m3;have m0:pl+1≤z:=Sh m1;have c1:=ul h rfl m0;refine n.vl (Nat.le_of_succ_le m0) m2 (λa ha da=>.node (Fi ha c1) (hK (JS c1 da) (hG (hK ?_ ll)))) (AZ h k0) λx v σ hx=>⟨(.g .p,c)::([(.c .p,.nat pl),(.g x,t)]++(.c x,v)::σ),qX (ks:=[(.c .p,.nat pl),(.g x,t)]) rfl d.stop (λz=>by exact Ru.noConfusion z) k.symm (Lc rfl),λr e=>.sh (uA h k0 _ (hx▸l)) ?_⟩
 ·exact .inr ⟨pl+1,z,m3,Nat.add_le_add_left (QG (RV (xr w ha)) (ul h rfl (QZ _))) _⟩
 ·show fS P w ((P.qp,_)::_) _ _;refine rwr (NI k) ?_;exact d.1 .p _ _ rfl _ e
end
end
end
section
section
def dn(a b:Bool):Bool:=@RJ (λzz=>Bool) false b a
def K6(a b:Bool):Bool:=@RJ (λzz=>Bool) true b a
def G5(f:Xo->Bool):Bool:=dn (f .o) (dn (f .i) (dn (f .j) (dn (f .p) (dn (f .l) (f .u)))))
def GG(f:Option Si->Bool):Bool:=dn (f none) (dn (f (some .a)) (dn (f (some .i)) (dn (f (some .e)) (dn (f (some .j)) (f (some .p))))))
def xY(f:Ru->Bool):Bool:=dn (f .a) (dn (f .s) (dn (f .l) (dn (f .u) (f .p))))
noncomputable def MP(hl:Bool)(sj sp:Nat)(x:Xo):Bool:=match x with|.o=>true|.i=>true|.j=>!QB sj 0|.p=>QB sp 3|.l=>hl|.u=>QB sj 4
noncomputable def Ll(hl:Bool)(sj sp:Nat)(q:Qs):Bool:=match q with|.A=>true|.J=>QB sj 3|.P=>QB sp 2|.c x=>MP hl sj sp x|.g x=>MP hl sj sp x
noncomputable def o9(hl:Bool)(sj sp:Nat)(r:Ru):Bool:=match r with|.l=>hl|.u=>!QB sj 0|.p=>!QB sp 0|_=>true
noncomputable def Pm.ex(P:Pm)(q:Qs):Bool:=Ll P.hl P.sj P.sp q
noncomputable def Pm.has(P:Pm)(r:Ru):Bool:=o9 P.hl P.sj P.sp r
set_option genCtorIdx false in
inductive As where|no|sh (q:Qs)|rd (r:Ru)|ok|cf (r:Ru) (b:Bool) (q:Qs)
noncomputable def As.to(ch:Ru->Bool->Ch)(a:As):Ac:=match a with|.no=>.no|.sh q=>.sh q|.rd r=>.rd r|.ok=>.ok|.cf r b q=>.of (ch r b) q r
noncomputable def Ru.is(r:Ru):Bool:=match r with|.s=>true|_=>false
noncomputable def N7(hl:Bool)(sj sp:Nat)(q:Qs)(m:Option Si):As:=
 let fo:=match m with|none=>true|some .e=>true|some .p=>!QB sp 0|_=>false
 match q with
 |.c _=>match m with
  |some .a=>.sh .A
  |some .i=>.sh (.c .i)
  |some .j=>bif QB sj 0 then .no else .sh (.c .j)
  |_=>.no
 |.A=>bif fo then .rd .a else .no
 |.J=>bif fo then .rd .u else .no
 |.P=>bif fo then .rd .p else .no
 |.g x=>match m with
  |none=>match x.ru with|some r=>.rd r|none=>bif x.io then .ok else .no
  |some .e=>match x.ru with|some r=>(bif r.is&&hl then .cf .s false (.c .l)else .rd r)|none=>bif x.io then .no else .sh (bif QB sj 4 then .c .u else .J)
  |some .p=>bif QB sp 0 then .no else match x.ru with|none=>.sh (bif QB sp 3 then .c .p else .P)|some r=>.cf r true (bif QB sp 3 then .c .p else .P)
  |_=>.no
def NP(hl:Bool)(sj sp:Nat)(a:As):Bool:=match a with|.sh q=>Ll hl sj sp q|.rd r=>o9 hl sj sp r|.cf r b q=>dn (Ll hl sj sp q) (o9 hl sj sp r)|_=>true
def IP(hl:Bool)(sj sp:Nat)(q:Qs):Bool:=K6 (Ll hl sj sp q) (GG λm=>NP hl sj sp (N7 hl sj sp q m))
end
theorem aA{a b:Bool}(h:dn a b=true):a=true∧b=true:=by cases a with|true=>exact⟨rfl,h⟩|false=>exact aO h
theorem aT{a b:Bool}(h:dn a b=true){G:Prop}(k:a=true->b=true->G):G:=ar (aA h) k
theorem s8{a b:Bool}(h:a=true)(k:b=true):dn a b=true:=by subst h;exact k
theorem rN{a b:Bool}(h:K6 a b=true)(k:a=true):b=true:=by subst k;exact h
theorem qz{f:Xo->Bool}(h:G5 f=true)(x:Xo):f x=true:=by
 refine aT h ?_;clear h;intro h1 h;refine aT h ?_;clear h;intro h2 h;refine aT h ?_;clear h;intro h3 h;refine aT h ?_;clear h;intro h4 h;refine aT h ?_;clear h;intro h5 h;cases x<;>assumption
theorem wC{f:Option Si->Bool}(h:GG f=true)(m:Option Si):f m=true:=by
 refine aT h ?_;clear h;intro h1 h;refine aT h ?_;clear h;intro h2 h;refine aT h ?_;clear h;intro h3 h;refine aT h ?_;clear h;intro h4 h;refine aT h ?_;clear h;intro h5 h;cases m with
 |none=>exact h1
 |some y=>cases y<;>assumption
theorem wG{f:Ru->Bool}(h:xY f=true)(r:Ru):f r=true:=by
 refine aT h ?_;clear h;intro h1 h;refine aT h ?_;clear h;intro h2 h;refine aT h ?_;clear h;intro h3 h;refine aT h ?_;clear h;intro h4 h;cases r<;>assumption
def J3(n:Nat):Prop:=n=0∨n=3∨n=4
def P3(n:Nat):Prop:=n=0∨n=2∨n=3
theorem Iz{hl:Bool}{sj sp:Nat}(h1:J3 sj)(h2:P3 sp)(q:Qs):IP hl sj sp q=true:=by
 have a:dn (IP hl sj sp .A) (dn (IP hl sj sp .J) (dn (IP hl sj sp .P) (G5 λx=>dn (IP hl sj sp (.c x)) (IP hl sj sp (.g x)))))=true:=by
  rcases h1 with rfl|rfl|rfl<;>rcases h2 with rfl|rfl|rfl<;>cases hl<;>rfl
 refine aT a ?_;clear a;intro a1 a;refine aT a ?_;clear a;intro a2 a;refine aT a ?_;clear a;intro a3 a;cases q with
 |A=>exact a1
 |J=>exact a2
 |P=>exact a3
 |c x=>exact(aA (qz a x)).1
 |g x=>exact(aA (qz a x)).2
section
variable{P:Pm}
theorem FZ(P:Pm)(q:Qs)(m:Option Si):P.act q m=(N7 P.hl P.sj P.sp q m).to P.ch:=by
 have fo:∀(r:Ru)(b:Bool),(bif b then Ac.rd r else .no)=As.to P.ch (bif b then .rd r else .no):=λr b=>by cases b<;>rfl
 cases q with
 |A=>exact fo .a _
 |J=>exact fo .u _
 |P=>exact fo .p _
 |c x=>
  cases m with
  |none=>rfl
  |some y=>
   cases y with
   |j=>show(bif QB P.sj 0 then Ac.no else .sh (.c .j))=As.to P.ch (bif QB P.sj 0 then .no else .sh (.c .j));cases QB P.sj 0<;>rfl
   |_=>rfl
 |g x=>
  cases m with
  |none=>cases x<;>rfl
  |some y=>
   cases y with
   |e=>
    cases x with
    |i=>show Ac.of (bif P.hl then P.ch .s false else .rd) (.c .l) .s=As.to P.ch (bif P.hl then .cf .s false (.c .l)else .rd .s);cases P.hl<;>rfl
    |_=>rfl
   |p=>
    show(bif QB P.sp 0 then Ac.no else match x.ru with|none=>.sh P.qp|some r=>.of (P.ch r true) P.qp r)=As.to P.ch (bif QB P.sp 0 then .no else match x.ru with|none=>.sh P.qp|some r=>.cf r true P.qp);cases QB P.sp 0 with
    |true=>rfl
    |false=>cases x<;>rfl
   |_=>rfl
theorem xy(h1:J3 P.sj)(h2:P3 P.sp){q:Qs}(h:P.ex q=true)(m:Option Si){G:Prop}(k:∀a,P.act q m=a.to P.ch->NP P.hl P.sj P.sp a=true->G):G:=k _ (FZ P q m) (wC (rN (Iz h1 h2 q) h) m)
theorem JA{c:Ch}{q q':Qs}{r:Ru}(h:Ac.of c q r=.sh q'):q=q':=by cases c<;>first|(cases h;rfl)|exact Ac.noConfusion h
theorem JB{c:Ch}{q:Qs}{r r':Ru}(h:Ac.of c q r=.rd r'):r=r':=by cases c<;>first|(cases h;rfl)|exact Ac.noConfusion h
theorem IB(h1:J3 P.sj)(h2:P3 P.sp){q q':Qs}{m:Option Si}(h:P.ex q=true)(a:P.act q m=.sh q'):P.ex q'=true:=by
 refine xy h1 h2 h m ?_;intro s e k;rw[e]at a;cases s with
 |sh y=>cases a;exact k
 |cf r b y=>cases JA a;exact(aA k).1
 |_=>exact Ac.noConfusion a
theorem EO(h1:J3 P.sj)(h2:P3 P.sp){q:Qs}{r:Ru}{m:Option Si}(h:P.ex q=true)(a:P.act q m=.rd r):P.has r=true:=by
 refine xy h1 h2 h m ?_;intro s e k;rw[e]at a;cases s with
 |rd y=>cases a;exact k
 |cf r b y=>cases JB a;exact(aA k).2
 |_=>exact Ac.noConfusion a
end
end
section
open PySem PySem.W PyProof.Rows
section
noncomputable def OL:List KV:=[fR,cI,eL,cJ,gA]
noncomputable def N6:KV:=.str 40566772832479303002219807244402
def Je(o:Nat):KD:=.cons fR (.ref (cy (o+6))) (.cons cI (.ref (cy (o+7))) (.cons eL (.ref (cy (o+8))) (.cons cJ (.ref (cy (o+9))) (.cons gA (.ref (cy (o+10))) (.cons N6 (.ref (cy (o+11))) .nil)))))
def K5(o:Nat):T KV:=tp (.d (.c .e)) .none (tp (.c (.c .e)) (.ref (cy (o+16))) (tp (.b (.c .e)) (.ref (cy (o+15))) (tp (.a (.c .e)) (.ref (cy (o+14))) (tp (.i (.b .e)) (.ref (cy (o+13))) (tp (.h (.b .e)) (.ref (cy (o+12))) (tp (.g (.b .e)) (.ref (cy (o+5))) (tp (.f (.b .e)) (.ref (cy (o+4))) (tp (.d (.b .e)) (.ref (cy (o+3))) (tp (.c (.b .e)) (.ref (cy (o+2))) .nil)))))))))
def iJ(o:Nat)(pr:KO):List KO:=[aF OL,.inst 4 (K5 o),aF [.none],.dict 0 .nil,.dict 0 .nil,.dict 6 (Je o),aF [],aF [],aF [],aF [],aF [],aF [],.dict 0 .nil,.dict 0 .nil,.dict 0 .nil,pr,.set .nil]
def lT(o n:Nat)(es:KD)(ws:List KV)(rs:List R2):KS:=⟨dy (jT n es ws rs++iJ o (.dict 0 .nil)),cy (jT n es ws rs++iJ o (.dict 0 .nil)).length⟩
def yA(f o:Nat):En:=tp (.g .e) (.ref (cy (o+1))) (El f)
end
theorem Kc(K:En->KS->Bool)(f n:Nat)(es:KD)(ws:List KV)(a b c d:R2):IF jA vp K (El f) (lU n es ws [a,b,c,d])=K (yA f 7) (lT 7 n es ws [a,b,c,d]):=by kernel_rfl
theorem Ka(K:En->KS->Bool)(f n:Nat)(es:KD)(ws:List KV)(a b c d g:R2):IF jA vp K (El f) (lU n es ws [a,b,c,d,g])=K (yA f 8) (lT 8 n es ws [a,b,c,d,g]):=by kernel_rfl
section
section
noncomputable def Jq:Pa:=.i (.a .e)
theorem Jg:tg Jq bn=some (.fn 4 .nil Jj):=by kernel_rfl
end
section
variable{c:Cl}{e e':En}{s s' s'':KS}{x y:X}{v w:KV}{q q':Pa}
theorem wa{n m:Nat}{xs ys:KV}(hx:Ev c x e s (.ref q) s')(hy:Ev c y e s' (.ref q') s'')(h1:tg q s''.h=some (.list n xs))(h2:tg q' s''.h=some (.list m ys))(p1:pk xs=true)(p2:pk ys=true):Tc c (aw d7 x y) e s (bU xs ys) s'':=λt f k=>hx _ (hy _ (bA h1 (bA h2 (aP.mpr ⟨p1,aP.mpr ⟨p2,k⟩⟩))))
theorem Gk{d:Cn}(h:Tc c d e s true s'):St c (yK d) e s e s':=λF k hk=>h _ _ hk
theorem Bh{c0:Nat}{q:Pa}{a vs:KV}{fs:T KV}{ax:X}{p:Pa}(ho:Ev c x e s (.ref p) s')(h0:tg p s'.h=some (.inst c0 fs))(ha:Ev c ax e s' vs s''){s3:KS}(hc:Ca c q (.cons (.ref p) vs) s'' v s3):Ev c (bH c0 q x ax) e s v s3:=λk hk=>ho _ (bA h0 (by
 show aB (QB c0 c0) _ _=true;rw[SH];exact ha _ (hc _ hk)))
theorem It{tab:T Code}{d np:Nat}{q:Pa}{ds:KV}{y:Y}{vs:KV}{e0:En}(hq:tg q tab=some (.fn np ds y))(h1:len vs=np)(hb:∀k:En->Bool,k e0=true->kP (app vs (drop (len ds) ds)) .e .nil k=true)(h:St (aL tab d) y e0 s e' s'):Ca (aL tab (d+1)) q vs s .none s':=λk hk=>by
 show bQ (tg q tab) false _=true;refine rwr hq ?_;show IR _ _ _ _ _ _ _=true;unfold IR;have a1:S9 np (len vs)=0:=by refine rwr h1 ?_;exact Nat.sub_self np
 refine rwr a1 (rwr h1 (rwr (QK (QZ np)) (rwr (QK (Ry _)) ?_)));exact hb _ (h ⟨λZ Z=>false,λZ Z=>false,k⟩ (λZ s=>k s .none) hk)
def pf(g:Pa)(nm wy lv:KV):En:=tp (.c .e) lv (tp (.b .e) wy (tp (.a .e) nm (tp .e (.ref g) .nil)))
theorem Dm{d m:Nat}{g qp qv:Pa}{fs:T KV}{ps:KD}{nm wy lv:KV}(wf:Wf s)(hg:tg g s.h=some (.inst 4 fs))(f1:tg (.c (.b .e)) fs=some (.ref qp))(f2:tg (.b (.c .e)) fs=some (.ref qv))(hp:tg qp s.h=some (aF [.none]))(hv:tg qv s.h=some (.dict m ps))(hm:m<100)(pn:pk nm=true)(pw:pk wy=true)(hw:gH [ju,j0,iA] wy=true)(hd:dl ps nm=none):
  ∃s',Ca (aL bn (d+1)) Jq (.cons (.ref g) (.cons nm (.cons wy (.cons lv .nil)))) s .none s'∧Wf s'∧tg qv s'.h=some (.dict (m+1) (dset ps nm (two wy lv)))∧∀q o,q≠qv->tg q s.h=some o->tg q s'.h=some o:=by
 have x1:Xt s (aR s (aF [.none])):=.new wf;have n1:tg s.n (aR s (aF [.none])).h=some (aF [.none]):=cK;have a1:St (aL bn d) (yK (aw d7 (ak (.c (.b .e)) (ae .e)) (aK (ab (af .none) ao)))) (pf g nm wy lv) s (pf g nm wy lv) (aR s (aF [.none])):=Gk (wa (xs:=au [.none]) (ys:=au [.none]) (fy (ag rfl) hg f1) (cB (vs:=au [.none]) (ai aj aM) (show 1≤100000 by decide)) (x1.keep _ _ hp) n1 rfl rfl);generalize aR s (aF [.none])=s1 at*;have a2:St (aL bn d) (bw (aw gT (ae (.a .e)) (ak (.b (.c .e)) (ae .e))) (ad fc aa) aa) (pf g nm wy lv) s1 (pf g nm wy lv) s1:=bk (by
  have:=qL (c:=aL bn d) (e:=pf g nm wy lv) (x:=ae (.a .e)) (y:=ak (.b (.c .e)) (ae .e)) (v:=nm) (ag rfl) (fy (ag rfl) (x1.keep _ _ hg) f2) (x1.keep _ _ hv) pn;rw[hd]at this;exact this) br
 have x2:Xt s1 (aR s1 (aF [ju,j0,iA])):=.new x1.wf;have n2:tg s1.n (aR s1 (aF [ju,j0,iA])).h=some (aF [ju,j0,iA]):=cK;have a3:St (aL bn d) (bw (aw k7 (ae (.b .e)) (aK (ab (af ju) (ab (af j0) (ab (af iA) ao))))) (ad fc aa) aa) (pf g nm wy lv) s1 (pf g nm wy lv) (aR s1 (aF [ju,j0,iA])):=bk (by
  have:=z8 (c:=aL bn d) (e:=pf g nm wy lv) (x:=ae (.b .e)) (v:=wy) (l:=[ju,j0,iA]) (ag rfl) (cB (vs:=au [ju,j0,iA]) (ai aj (ai aj (ai aj aM))) (show 3≤100000 by decide)) n2 rfl pw;rw[hw]at this;exact this) br
 generalize aR s1 (aF [ju,j0,iA])=s2 at*;have k2:=(x1.trans x2).keep;have a4:=zn (c:=aL bn d) (e:=pf g nm wy lv) (x:=ab (ae (.b .e)) (ab (ae (.c .e)) ao)) (o:=ak (.b (.c .e)) (ae .e)) (i:=ae (.a .e)) (v:=two wy lv) (w:=nm) (ai (ag rfl) (ai (ag rfl) aM)) (fy (ag rfl) (k2 _ _ hg) f2) (ag rfl) (k2 _ _ hv) pn (by exact QG hm (QU 100 99900)) hd;exact⟨_,It (e0:=pf g nm wy lv) Jg rfl (λk h=>h) (bc a1 (bc a2 (bc a3 (aQ a4)))),x2.wf.put (k2 _ _ hv),fu,λq o a h=>(bl a).trans (k2 _ _ h)⟩
theorem DG{n i:Nat}{es:KD}{a b:KV}(hq:tg q s.h=some (.dict n es))(hv:Ce i es=some (.mk a b)):Nx s (.dict q i n) a (.dict q (i+1) n):=λz k=>by
 show b9 q s _=_;unfold b9;rw[hq];show aB (QB n n) false (ph i es z λx Z=>k x (.dict q (i+1) n))=_;rw[SH];show ph i es z (λx Z=>k x (.dict q (i+1) n))=_;unfold ph;rw[hv]
theorem DF{n i:Nat}{es:KD}(hq:tg q s.h=some (.dict n es))(hv:Ce i es=none):Nz s (.dict q i n):=λz k=>by
 show b9 q s _=_;unfold b9;rw[hq];show aB (QB n n) false (ph i es z λx Z=>k x (.dict q (i+1) n))=_;rw[SH];show ph i es z (λx Z=>k x (.dict q (i+1) n))=_;unfold ph;rw[hv]
theorem E4{n:Nat}{es:KD}(hx:Ev c x e s (.ref q) s')(hq:tg q s'.h=some (.dict n es)):Iv c (aV x) e s (.dict q 0 n) s':=λk h=>hx _ (bA hq h)
end
end
end
section
section
noncomputable def Ma:Pa:=.a (.g .e)
noncomputable def Jr:Pa:=.b (.g .e)
theorem Jh:tg Ma bn=some (.fn 2 .nil I7):=by kernel_rfl
theorem LM:tg Jr bn=some (.fn 4 .nil O5):=by kernel_rfl
noncomputable def N5:KV:=.str 19343836908622739096469614
def EA(m l:Nat)(w:KV):Ch:=bif QJ (l+1) m then .sh else bif QJ (m+1) l||bU w ju then .rd else bif bU w j0 then .sh else .no
noncomputable def oF(c:Ch):KV:=match c with|.sh=>.nat 1|.rd=>.neg 0|.no=>.nat 0
noncomputable def pc(x:Si):KV:=match x with|.a=>fR|.i=>cI|.e=>eL|.j=>cJ|.p=>gA
noncomputable def sk(r:Ru):KV:=match r with|.a=>fR|.s=>.str 40567043631770662945592260427892|.l=>.str 19343809238502230504505447|.u=>.str 19343873802132876775391333|.p=>gA
noncomputable def Ln(b:Bool):KV:=bif b then gA else eL
structure qx where
 wq:Pa
 q1:Pa
 q2:Pa
 q3:Pa
 q4:Pa
 w:List Si
 P:Pm
 wy:Ru->KV
 lv:Ru->Nat
 wm:Bool->KV
 lm:Bool->Nat
 tk:Nat->KV
noncomputable def qx.fv(x:qx):KV:=.cons (.ref x.q1) (.cons (.ref x.q2) (.cons (.ref x.q3) (.cons (.ref x.q4) .nil)))
noncomputable def qx.rv(x:qx)(r:Option Ru):KV:=match r with|none=>N5|some r=>two (x.wy r) (.nat (x.lv r))
structure qx.Ok(x:qx):Prop where
 wy:∀r,x.wy r=ju∨x.wy r=iA∨x.wy r=j0
 ch:∀r b,x.P.ch r b=EA (x.lm b) (x.lv r) (x.wy r)
 sj:J3 x.P.sj
 sp:P3 x.P.sp
structure Ba(x:qx)(s:KS):Prop where
 w:tg x.wq s.h=some (aF (x.w.map pc))
 e:∃n es,tg x.q1 s.h=some (.dict n es)∧∀b,dl es (Ln b)=some (two (x.wm b) (.nat (x.lm b)))
 n:∃n es,tg x.q2 s.h=some (.dict n es)∧∀r,dl es (sk r)=bif x.P.has r then some (.nat (x.P.nu r))else none
 t:∃n es,tg x.q3 s.h=some (.dict n es)∧∀r,r≠.a->x.P.has r=true->dl es (sk r)=some (two (x.wy r) (.nat (x.lv r)))
 z:∃n es,tg x.q4 s.h=some (.dict n es)∧∀r,x.P.has r=true->dl es (sk r)=some (.nat (x.P.len r))
noncomputable def uE(x:KV)(A:T KV):T KV:=.nd (some x) A .nil .nil .nil .nil .nil .nil .nil
structure Zs where
 A:T KV
 B:T KV
 C:T KV
 D:T KV
 F:T KV
 G:T KV
 H:T KV
def Zs.a(Z:Zs)(v:KV):Zs:={Z with A:=pv v Z.A}
def Zs.b(Z:Zs)(v:KV):Zs:={Z with B:=pv v Z.B}
def Zs.c(Z:Zs)(v:KV):Zs:={Z with C:=pv v Z.C}
def Zs.d(Z:Zs)(v:KV):Zs:={Z with D:=pv v Z.D}
def Zs.f(Z:Zs)(v:KV):Zs:={Z with F:=pv v Z.F}
def Zs.g(Z:Zs)(v:KV):Zs:={Z with G:=pv v Z.G}
def Zs.h(Z:Zs)(v:KV):Zs:={Z with H:=pv v Z.H}
noncomputable def Z0:Zs:=⟨.nil,.nil,.nil,.nil,.nil,.nil,.nil⟩
noncomputable def dE(x:qx)(rv fi:KV)(Z:Zs)(pl:KV):En:=.nd (some (.ref x.wq)) (uE pl Z.A) (uE rv Z.B) (uE x.fv Z.C) (uE (.ref x.q1) Z.D) (uE (.ref x.q2) Z.F) (uE (.ref x.q3) Z.G) (uE (.ref x.q4) Z.H) (uE fi .nil)
end
section
variable{c:Cl}{e e':En}{s s' s'':KS}{x y:X}{v w:KV}{q:Pa}
theorem bN(v:KV)(t:T KV):tv (pv v t)=some v:=by cases t<;>rfl
theorem Ep{F:Fr}{k:En->K0}:I7 c F k (tp (.a .e) v (tp .e N5 .nil)) s=F.ret s (.nat 1):=rfl
theorem I6{F:Fr}{k:En->K0}{w':KV}{m l:Nat}(hw:w=ju∨w=iA∨w=j0):I7 c F k (tp (.a .e) (two w' (.nat m)) (tp .e (two w (.nat l)) .nil)) s=F.ret s (oF (EA m l w)):=by
 have e1:EA m l w=bif QJ (l+1) m then .sh else bif QJ (m+1) l||bU w ju then .rd else bif bU w j0 then .sh else .no:=rfl;rcases hw with rfl|rfl|rfl
 ·have e2:I7 c F k (tp (.a .e) (two w' (.nat m)) (tp .e (two ju (.nat l)) .nil)) s=aB (QJ (l+1) m) (aB (QJ (m+1) l) (F.ret s (.neg 0)) (F.ret s (.neg 0))) (F.ret s (.nat 1)):=rfl;refine rwr e2 (rwr e1 ?_);cases QJ (l+1) m<;>cases QJ (m+1) l<;>rfl
 ·have e2:I7 c F k (tp (.a .e) (two w' (.nat m)) (tp .e (two iA (.nat l)) .nil)) s=aB (QJ (l+1) m) (aB (QJ (m+1) l) (F.ret s (.nat 0)) (F.ret s (.neg 0))) (F.ret s (.nat 1)):=rfl;refine rwr e2 (rwr e1 ?_);cases QJ (l+1) m<;>cases QJ (m+1) l<;>rfl
 ·have e2:I7 c F k (tp (.a .e) (two w' (.nat m)) (tp .e (two j0 (.nat l)) .nil)) s=aB (QJ (l+1) m) (aB (QJ (m+1) l) (F.ret s (.nat 1)) (F.ret s (.neg 0))) (F.ret s (.nat 1)):=rfl;refine rwr e2 (rwr e1 ?_);cases QJ (l+1) m<;>cases QJ (m+1) l<;>rfl
theorem FK{x:qx}(O:x.Ok){d:Nat}{r:Ru}{b:Bool}:Ca (aL bn (d+1)) Ma (.cons (x.rv (some r)) (.cons (two (x.wm b) (.nat (x.lm b))) .nil)) s (oF (x.P.ch r b)) s:=by
 rw[O.ch];exact oG Jh rfl (λk h=>h) (λF k h=>(I6 (O.wy r)).trans h)
theorem MV{x:qx}(O:x.Ok){d:Nat}{r:Option Ru}:Ca (aL bn (d+1)) Ma (.cons (x.rv r) (.cons (two (x.wm true) (.nat (x.lm true))) .nil)) s (oF (x.P.cho r)) s:=by
 cases r with
 |none=>exact oG Jh rfl (λk h=>h) (λF k h=>Ep.trans h)
 |some r=>exact FK O
end
end
section
section
def TV(x:qx)(s s':KS)(f v:KV):Prop:=VS x.tk (λzz=>none) (λq z=>tg q s.h=none∧∃n,tg q s'.h=some (.list n z)) f v
def Rv(x:qx)(s s':KS)(o:yE)(v:KV):Prop:=match o with
 |.bad z=>v=two .none (.nat z)
 |.ok t z=>∃a b,v=two (.cons a b) (.nat z)∧TV x s s' t (.cons a b)
def vX(x:qx)(n:Nat):Prop:=∀(pl:Nat)(r:Option Ru)(s:KS),Wf s->Ba x s->pl≤x.w.length->2*x.w.length+3≤n+2*pl->∃o s' v,Dr x.P x.w (.d pl r) o∧Ca (aL bn n) Jr (.cons (.ref x.wq) (.cons (.nat pl) (.cons (x.rv r) (.cons x.fv .nil)))) s v s'∧Xt s s'∧Rv x s s' o v
inductive HR(x:qx)(c:Cl)(s0:KS)(pl:Nat)(st:Nk)(r:Option Ru)(y:Y)(e:En)(s:KS):Prop
 |bad (z:Nat) (s':KS):Dr x.P x.w st (.bad z)->Rt c y e s (two .none (.nat z)) s'->Xt s0 s'->HR x c s0 pl st r y e s
 |ok (t:KV) (pl':Nat) (Z:Zs) (a b:KV) (s':KS):(∀o,Dr x.P x.w (.l t pl' r) o->Dr x.P x.w st o)->St c y e s (dE x (x.rv r) (.nat pl) Z (.nat pl')) s'->tv Z.B=some (.cons a b)->TV x s0 s' t (.cons a b)->pl<pl'->pl'≤x.w.length->Xt s0 s'->HR x c s0 pl st r y e s
noncomputable def Cf(m:Option Si):KV:=match m with|some x=>pc x|none=>c0
end
theorem VS.mono{tk:Nat->KV}{φ φ':Pa->Option Pa}{Z Z':Pa->KV->Prop}(h1:∀q p,φ q=some p->φ' q=some p)(h2:∀q z,Z q z->Z' q z):∀{f v:KV},VS tk φ Z f v->VS tk φ' Z' f v:=by
 intro f;induction f with
 |cons x r i1 i2=>exact λh=>aH h λa s e k1 k2=>⟨a,s,e,i1 k1,i2 k2⟩
 |ref q=>exact λh=>ah h λp k e=>⟨p,h1 _ _ k,e⟩
 |fl x ih=>exact λh=>ah h λz k e=>⟨z,ih k,e.elim .inl λ⟨q,e,k⟩=>.inr ⟨q,e,h2 _ _ k⟩⟩
 |_=>exact λh=>h
section
variable{x:qx}{c:Cl}{s s0 s' s'':KS}{pl:Nat}{st:Nk}{r:Option Ru}{y z:Y}{e e':En}{d:Cn}
theorem TV.grow{s1:KS}{f v:KV}(h:TV x s1 s' f v)(h1:∀q o,tg q s0.h=some o->tg q s1.h=some o)(h2:∀q n l,tg q s1.h=none->tg q s'.h=some (.list n l)->tg q s''.h=some (.list n l)):TV x s0 s'' f v:=
 VS.mono (λZ Z h=>h) (λq z ⟨k,n,l⟩=>⟨by cases e:tg q s0.h with|none=>rfl|some o=>exact uD ((h1 _ _ e).symm.trans k),n,h2 _ _ _ k l⟩) h
theorem sI{r:Ru}{ks:List KV}{v:KV}(h:TV x s s' (au ks) v):TV x s s' (x.P.tr r ks) (two (.nat (x.P.nu r)) (.fl v)):=⟨_,_,rfl,.inl rfl,⟨_,_,rfl,⟨_,h,.inl rfl⟩,rfl⟩⟩
theorem F5{r:Ru}{ks:List KV}{v:KV}{q:Pa}(h:TV x s s' (au ks) v)(h1:tg q s.h=none){n:Nat}(h2:tg q s'.h=some (.list n v)):TV x s s' (x.P.tr r ks) (two (.nat (x.P.nu r)) (.ref q)):=⟨_,_,rfl,.inl rfl,⟨_,_,rfl,⟨_,h,.inr ⟨_,rfl,h1,_,h2⟩⟩,rfl⟩⟩
theorem TV.xt{f v:KV}(h:TV x s s' f v)(k:Xt s' s''):TV x s s'' f v:=VS.mono (λZ Z h=>h) (λq z ⟨k1,n,l⟩=>⟨k1,n,k.keep _ _ l⟩) h
theorem Ba.grow(h:Ba x s)(k:Xt s s'):Ba x s':=⟨k.keep _ _ h.w,aE h.e λn es a b=>⟨n,es,k.keep _ _ a,b⟩,aE h.n λn es a b=>⟨n,es,k.keep _ _ a,b⟩,aE h.t λn es a b=>⟨n,es,k.keep _ _ a,b⟩,aE h.z λn es a b=>⟨n,es,k.keep _ _ a,b⟩⟩
theorem HR.seq(a:St c y e s e' s')(h:HR x c s0 pl st r z e' s'):HR x c s0 pl st r (ad y z) e s:=by
 cases h with
 |bad z s' a1 a2 a3=>exact .bad _ _ a1 (bq a a2) a3
 |ok t pl' Z a1 b s' a2 a3 a4 a5 a6 a7 a8=>exact .ok _ _ _ _ _ _ a2 (bc a a3) a4 a5 a6 a7 a8
theorem HR.ifT(a:Tc c d e s true s)(h:HR x c s0 pl st r y e s):HR x c s0 pl st r (bw d y z) e s:=by
 cases h with
 |bad z s' a1 a2 a3=>exact .bad _ _ a1 (nC a a2) a3
 |ok t pl' Z a1 b s' a2 a3 a4 a5 a6 a7 a8=>exact .ok _ _ _ _ _ _ a2 (cV a a3) a4 a5 a6 a7 a8
theorem v7{v:KV}(hd:Tc c d e s false s')(ha:Rt c z e s' v s''):Rt c (bw d y z) e s v s'':=λF k h=>hd _ _ (ha _ _ h)
theorem HR.ifF(a:Tc c d e s false s)(h:HR x c s0 pl st r z e s):HR x c s0 pl st r (bw d y z) e s:=by
 cases h with
 |bad z s' a1 a2 a3=>exact .bad _ _ a1 (v7 a a2) a3
 |ok t pl' Z a1 b s' a2 a3 a4 a5 a6 a7 a8=>exact .ok _ _ _ _ _ _ a2 (bk a a3) a4 a5 a6 a7 a8
theorem HR.pas(h:HR x c s0 pl st r y e s):HR x c s0 pl st r (ad y aa) e s:=by
 cases h with
 |bad z s' a1 a2 a3=>exact .bad _ _ a1 (cY a2) a3
 |ok t pl' Z a1 b s' a2 a3 a4 a5 a6 a7 a8=>exact .ok _ _ _ _ _ _ a2 (aQ a3) a4 a5 a6 a7 a8
theorem HR.fst(z':Nat)(h1:Dr x.P x.w st (.bad z'))(h2:Rt c y e s (two .none (.nat z')) s)(k:Xt s0 s):HR x c s0 pl st r (ad y z) e s:=.bad _ _ h1 (cY h2) k
end
section
variable{x:qx}{c:Cl}{s s':KS}{rv fi pl:KV}{Z:Zs}
theorem vz(b:Ba x s):Ev c (dw 1 (.g .e) (ae .e)) (dE x rv fi Z pl) s (.nat x.w.length) s:=by
 have:=jp (c:=c) (e:=dE x rv fi Z pl) (c0:=1) (p:=.g .e) (ag (q:=.e) rfl) b.w;rw[Ra]at this;exact this
theorem xe{i:X}{k:Nat}{z:Si}(b:Ba x s)(hi:Ev c i (dE x rv fi Z pl) s (.nat k) s)(h:x.w[k]?=some z):Ev c (aD (ae .e) i) (dE x rv fi Z pl) s (pc z) s:=
 jo (ag (q:=.e) rfl) hi b.w (by rw[dU,Rj,h];rfl)
theorem lB(b:Ba x s)(r:Ru)(h:x.P.has r=true):Ev c (aD (ae (.f .e)) (af (sk r))) (dE x rv fi Z pl) s (.nat (x.P.nu r)) s:=by
 refine aE b.n ?_;intro n es h1 h2;exact f7 (ag (q:=.f .e) rfl) aj h1 (by cases r<;>rfl) (by rw[h2,h];rfl)
theorem oj(b:Ba x s)(r:Ru)(h:x.P.has r=true)(ha:r≠.a):Ev c (aD (ae (.g .e)) (af (sk r))) (dE x rv fi Z pl) s (x.rv (some r)) s:=by
 refine aE b.t ?_;intro n es h1 h2;exact f7 (ag (q:=.g .e) rfl) aj h1 (by cases r<;>rfl) (h2 r ha h)
theorem Bc(b:Ba x s)(r:Ru)(h:x.P.has r=true):Ev c (aD (ae (.h .e)) (af (sk r))) (dE x rv fi Z pl) s (.nat (x.P.len r)) s:=by
 refine aE b.z ?_;intro n es h1 h2;exact f7 (ag (q:=.h .e) rfl) aj h1 (by cases r<;>rfl) (h2 r h)
theorem Bf(b:Ba x s)(m:Bool):Ev c (aD (ae (.d .e)) (af (Ln m))) (dE x rv fi Z pl) s (two (x.wm m) (.nat (x.lm m))) s:=by
 refine aE b.e ?_;intro n es h1 h2;exact f7 (ag (q:=.d .e) rfl) aj h1 (by cases m<;>rfl) (h2 m)
theorem uO(b:Ba x s)(r:Ru):Tc c (aw gT (af (sk r)) (ae (.f .e))) (dE x rv fi Z pl) s (x.P.has r) s:=by
 refine aE b.n ?_;intro n es h1 h2;have:=qL (c:=c) (e:=dE x rv fi Z pl) (x:=af (sk r)) aj (ag (q:=.f .e) rfl) h1 (by cases r<;>rfl);rw[h2]at this;cases e:x.P.has r<;>rw[e]at this<;>exact this
end
section
variable{x:qx}{m:Nat}{s s':KS}{pl:Nat}{r:Option Ru}{Z:Zs}
theorem iW(ih:vX x m){e:En}(wf:Wf s)(ba:Ba x s)(hp:pl≤x.w.length)(hn:2*x.w.length+3≤m+2*pl){a b d f:X}(ha:Ev (aL bn m) a e s (.ref x.wq) s)(hb:Ev (aL bn m) b e s (.nat pl) s)(hd:Ev (aL bn m) d e s (x.rv r) s)(hf:Ev (aL bn m) f e s x.fv s){G:Prop}(k:∀o s' v,Dr x.P x.w (.d pl r) o->Ev (aL bn m) (bf Jr (ab a (ab b (ab d (ab f ao))))) e s v s'->Xt s s'->Rv x s s' o v->G):G:=
 fN (ih pl r s wf ba hp hn) λo s' v h1 h2 h3 h4=>k o s' v h1 (i6 (ai ha (ai hb (ai hd (ai hf aM)))) h2) h3 h4
theorem sO{c:Cl}{e:En}{q:Pa}(h:tg q e=some .none):Tc c (iq (ae q)) e s true s:=qJ (ag h) rfl
theorem sL{c:Cl}{e:En}{q:Pa}{a b:KV}(h:tg q e=some (.cons a b)):Tc c (iq (ae q)) e s false s:=qJ (v:=.cons a b) (ag h) rfl
theorem kz{c:Cl}{e:En}{d:Cn}{x:X}{v:KV}(h:Tc c d e s true s)(k:Ev c x e s v s):Rt c (bw d (ad (bT (ab (af .none) (ab x ao))) aa) aa) e s (two .none v) s:=nC h (cY (gv (ai aj (ai k aM))))
theorem MI(ba:Ba x s)(wf:Wf s)(hp:x.w[pl]?=some .a):HR x (aL bn m) s pl (.d pl r) r O8 (dE x (x.rv r) (.nat pl) Z (.nat pl)) s:=
 .ok _ _ (Z.b _) _ _ s (λo h=>.da hp h) (bc (aG (ai (lB ba .a rfl) (ai (iS (vs:=au [.nat pl]) (ai (ag rfl) aM) (show 1≤100000 by decide)) aM))) (aQ (aG (gf (ag rfl) aj)))) (bN _ _) (sI ⟨_,_,rfl,.inl rfl,rfl⟩) (Sb _) (gI hp) (.refl wf)
theorem uN{c:Cl}{e:En}{a d:Cn}(h:Tc c a e s true s'):Tc c (k8 a d) e s true s':=λt f q=>h _ _ q
theorem O0{L k p:Nat}(h:2*L+3≤k+2+2*p):2*L+3≤k+1+2*(p+1):=by omega
theorem NZ{L k p q:Nat}(h:2*L+3≤k+2+2*p)(l:p+1<q):2*L+3≤k+1+2*(q+1):=by omega
theorem MN{L k p q:Nat}(h:2*L+3≤k+1+2*p)(l:p≤q):2*L+3≤k+1+2*q:=QG h (Nat.add_le_add_left (Up 2 l) _)
theorem Lg{p q:Nat}(l:p+1<q):p<q:=Nat.lt_of_succ_lt l
theorem NU{p q z:Nat}(l:p+1<q)(m:q+1<z):p<z:=Nat.lt_trans (Lg l) (Lg m)
theorem lZ{a b:Nat}(h:b≤a):QJ (a+1) b=false:=by cases e:QJ (a+1) b with|false=>rfl|true=>exact absurd (QA e) (Nat.not_le_of_lt (Nat.lt_succ_of_le h))
noncomputable def K3(o:Option Si):Bool:=match o with|some .e=>true|_=>false
theorem K1{z:Si}:bU (pc z) eL=K3 (some z):=by cases z<;>rfl
theorem Hy{o:Option Si}(h:K3 o=true):o=some .e:=by
 cases o with
 |none=>cases h
 |some z=>cases z<;>first|rfl|cases h
theorem Kn(P:Pm)(o:Option Si):P.ec o=bif P.has .l&&K3 o then P.ch .s false else .rd:=by
 cases o with
 |none=>show Ch.rd=_;rw[Bool.and_comm];rfl
 |some z=>
  cases z with
  |e=>show(bif P.hl then P.ch .s false else .rd)=bif P.hl&&true then _ else _;rw[Bool.and_true]
  |_=>show Ch.rd=_;rw[Bool.and_comm];rfl
theorem F8{c:Cl}{rv fi:KV}(ba:Ba x s):Tc c (aw jm (ae (.a .e)) (dw 1 (.g .e) (ae .e))) (dE x rv fi Z (.nat pl)) s (x.w[pl]?).isSome s:=by
 have:=l0 (c:=c) (e:=dE x rv fi Z (.nat pl)) (s:=s) (x:=ae (.a .e)) (ag rfl) (vz ba);cases e:x.w[pl]? with
 |none=>rw[show QJ (pl+1) x.w.length=false from lZ (SI.mp e)]at this;exact this
 |some z=>rw[QK (gI e)]at this;exact this
theorem CK{c:Cl}{rv fi:KV}(ba:Ba x s):Tc c (gh (aw gT (af (sk .l)) (ae (.f .e))) (gh (aw jm (ae (.a .e)) (dw 1 (.g .e) (ae .e))) (aw d7 (aD (ae .e) (ae (.a .e))) (af eL)))) (dE x rv fi Z (.nat pl)) s (x.P.has .l&&K3 x.w[pl]?) s:=by
 have t1:=uO (c:=c) (rv:=rv) (fi:=fi) (Z:=Z) (pl:=.nat pl) ba .l;cases h:x.P.has .l with
 |false=>rw[h]at t1;exact jg t1
 |true=>
  rw[h]at t1;refine eB t1 ?_;have t2:=F8 (c:=c) (rv:=rv) (fi:=fi) (Z:=Z) (pl:=pl) ba;cases e:x.w[pl]? with
  |none=>rw[e]at t2;exact jg t2
  |some z=>
   rw[e]at t2;have t3:=fK (c:=c) (y:=af eL) (xe (rv:=rv) (fi:=fi) (Z:=Z) (pl:=.nat pl) ba (ag (q:=.a .e) rfl) e) aj (by cases z<;>rfl) rfl;rw[K1]at t3;exact eB t2 t3
theorem nj{c:Cl}{rv fi plv:KV}{n:Nat}{ch:Ch}:Tc c (aw d7 (ae (.g (.a .e))) (af (.nat n))) (dE x rv fi (Z.g (oF ch)) plv) s (bU (oF ch) (.nat n)) s:=fK (ag (bN _ _)) aj (by cases ch<;>rfl) rfl
variable{k:Nat}{q:Nat}{a b t:KV}{s0:KS}
theorem K7(O:x.Ok)(ih:vX x (k+1))(wf:Wf s)(ba:Ba x s)(hn:2*x.w.length+3≤k+2+2*pl)(hp:x.w[pl]?=some .i)(hd:Dr x.P x.w (.d (pl+1) (some .s)) (.ok t q))(hB:tv Z.B=some (two (.nat (x.P.nu .s)) (.fl (au [.nat pl,.cons a b]))))(hC:tv Z.C=some (.cons a b))(T:TV x s0 s t (.cons a b))(k0:Xt s0 s):
  HR x (aL bn (k+1)) s0 pl (.d pl r) r Kr (dE x (x.rv r) (.nat pl) Z (.nat q)) s:=by
 refine b0 (hd.mo) ?_;rintro l1 l2 -;have T1:TV x s0 s (x.P.tr .s [.nat pl,t]) (two (.nat (x.P.nu .s)) (.fl (au [.nat pl,.cons a b]))):=sI ⟨_,_,rfl,.inl rfl,⟨_,_,rfl,T,rfl⟩⟩;have tl:=CK (c:=aL bn (k+1)) (rv:=x.rv r) (fi:=.nat pl) (Z:=Z) (pl:=q) ba;have ee:=Kn x.P x.w[q]?;cases h:x.P.has .l&&K3 x.w[q]? with
 |false=>
  rw[h]at tl ee;exact .ok _ _ Z _ _ _ (λo z=>.is hp hd ee z) (bk tl br) hB T1 (by exact QG (RA pl.succ) l1) l2 k0
 |true=>
  rw[h]at tl ee;refine jB h ?_;intro hl he;have he:=Hy he;have ee:x.P.ec x.w[q]?=x.P.ch .s false:=ee;refine .ifT tl (.seq (e':=dE x (x.rv r) (.nat pl) (Z.g (oF (x.P.ch .s false))) (.nat q)) (aG (i6 (ai (oj ba .s rfl (by intro z;cases z)) (ai (Bf ba false) aM)) (FK O))) ?_);generalize x.P.ch .s false=ch at*;cases ch with
  |no=>exact .fst _ (.in_ hp hd he ee) (kz nj (ag rfl)) k0
  |rd=>exact .ok _ _ (Z.g (oF .rd)) _ _ _ (λo z=>.is hp hd ee z) (bc (bk nj br) (aQ (bk nj br))) hB T1 (Lg l1) l2 k0
  |sh=>
   refine .seq (bk nj br) (.pas (.ifT nj ?_));refine iW (r:=some .l) (pl:=q+1) ih wf ba (gI he) (NZ hn l1) (ag (q:=.e) rfl) (gf (ag (q:=.a .e) (e:=dE x (x.rv r) (.nat pl) (Z.g (oF .sh)) (.nat q)) rfl) aj) (oj ba .l hl (by intro z;cases z)) (ag (q:=.c .e) rfl) ?_;intro o s1 v h1 h2 h3 h4;cases o with
   |bad z=>
    cases h4;exact .seq (e':=dE x (x.rv r) (.nat pl) (((Z.f .none).g (oF .sh)).h (.nat z)) (.nat q)) (eW h2 λk h=>h) (.fst z (.ilb hp hd he ee h1) (kz (sO (bN _ _)) (ag (bN _ _))) (k0.trans h3))
   |ok t2 z=>
    refine aE h4 ?_;clear h4;rintro a2 b2 rfl T2;refine b0 (h1.mo) ?_;rintro l3 l4 -;have ba1:=ba.grow h3;exact .seq (e':=dE x (x.rv r) (.nat pl) (((Z.f (.cons a2 b2)).g (oF .sh)).h (.nat z)) (.nat q)) (eW h2 λk h=>h) (.ok _ _ ((((Z.f (.cons a2 b2)).g (oF .sh)).h (.nat z)).b _) _ _ s1 (λo y=>.il hp hd he ee h1 y)
     (bc (bk (sL (bN _ _)) br) (bc (aG (ai (lB ba1 .l hl) (ai (iS (vs:=au [.nat pl,.cons a b,.nat q,.cons a2 b2]) (ai (ag rfl) (ai (ag hC) (ai (ag rfl) (ai (ag (bN _ _)) aM)))) (show 4≤100000 by decide)) aM))) (aQ (aG (ag (bN _ _))))))
     (bN _ _) (sI ⟨_,_,rfl,.inl rfl,⟨_,_,rfl,T.xt h3,⟨_,_,rfl,.inl rfl,⟨_,_,rfl,T2.grow k0.keep λY Y Y Y h=>h,rfl⟩⟩⟩⟩) (NU l1 l3) l4 (k0.trans h3))
theorem MG(O:x.Ok)(ih:vX x (k+1))(wf:Wf s)(ba:Ba x s)(hn:2*x.w.length+3≤k+2+2*pl)(hp:x.w[pl]?=some .i):HR x (aL bn (k+1)) s pl (.d pl r) r O7 (dE x (x.rv r) (.nat pl) Z (.nat pl)) s:=by
 have hl:=gI hp;refine iW (r:=some .s) (pl:=pl+1) ih wf ba hl (O0 hn) (ag (q:=.e) rfl) (gf (ag (q:=.i .e) (e:=dE x (x.rv r) (.nat pl) Z (.nat pl)) rfl) aj) (oj ba .s rfl (by intro z;cases z)) (ag (q:=.c .e) rfl) ?_;intro o s1 v h1 h2 h3 h4;cases o with
 |bad z=>cases h4;exact .seq (e':=dE x (x.rv r) (.nat pl) (Z.c .none) (.nat z)) (eW h2 λk h=>h) (.fst z (.ib hp h1) (kz (sO (bN _ _)) (ag rfl)) h3)
 |ok t q=>
  refine aE h4 ?_;clear h4;rintro a b rfl T;have ba1:=ba.grow h3;exact .seq (e':=dE x (x.rv r) (.nat pl) (Z.c (.cons a b)) (.nat q)) (eW h2 λk h=>h) (.seq (bk (sL (bN _ _)) br) (.seq (e':=dE x (x.rv r) (.nat pl) ((Z.c (.cons a b)).b (two (.nat (x.P.nu .s)) (.fl (au [.nat pl,.cons a b])))) (.nat q))
   (aG (ai (lB ba1 .s rfl) (ai (iS (vs:=au [.nat pl,.cons a b]) (ai (ag rfl) (ai (ag (bN _ _)) aM)) (show 2≤100000 by decide)) aM))) (.pas (K7 O ih h3.wf ba1 hn hp h1 (bN _ _) (bN _ _) T h3))))
theorem px.e{P:Pm}{w:List Si}{z:Nat}{y:Si}(h:px P w none z)(k:w[z]?=some y):w[z]?=some .e:=by
 rcases h with h|h|zq
 ·rw[h]at k;exact cO k
 ·exact h
 ·refine b0 zq ?_;clear zq;intro _ _ h;cases h
theorem MF(O:x.Ok)(ih:vX x (k+1))(wf:Wf s)(ba:Ba x s)(hn:2*x.w.length+3≤k+2+2*pl)(hp:x.w[pl]?=some .j)(hu:x.P.sj≠0):HR x (aL bn (k+1)) s pl (.d pl r) r O6 (dE x (x.rv r) (.nat pl) Z (.nat pl)) s:=by
 have hl:=gI hp;have hh:x.P.has .u=true:=by show(!QB x.P.sj 0)=true;refine rwr (EK hu) ?_;rfl
 refine iW (r:=none) (pl:=pl+1) ih wf ba hl (O0 hn) (ag (q:=.e) rfl) (gf (ag (q:=.i .e) (e:=dE x (x.rv r) (.nat pl) Z (.nat pl)) rfl) aj) aj (ag (q:=.c .e) rfl) ?_;intro o s1 v h1 h2 h3 h4;cases o with
 |bad z=>cases h4;exact .seq (e':=dE x (x.rv r) (.nat pl) (Z.c .none) (.nat z)) (eW h2 λk h=>h) (.fst z (.jb hp hu h1) (kz (uN (sO (bN _ _))) (ag rfl)) h3)
 |ok t q=>
  refine aE h4 ?_;clear h4;rintro a b rfl T;have ba1:=ba.grow h3;refine b0 (h1.mo) ?_;rintro l1 l2 -;have tq:Tc (aL bn (k+1)) (k8 (iq (ae (.c (.a .e)))) (aw d7 (ae (.a .e)) (dw 1 (.g .e) (ae .e)))) (dE x (x.rv r) (.nat pl) (Z.c (.cons a b)) (.nat q)) s1 (QB q x.w.length) s1:=qG (sL (bN _ _)) (fZ (ag rfl) (vz ba1));refine .seq (e':=dE x (x.rv r) (.nat pl) (Z.c (.cons a b)) (.nat q)) (eW h2 λk h=>h) ?_;cases e:x.w[q]? with
  |none=>
   have e2:=SI.mp e;rw[show QB q x.w.length=true from by refine rwr (show q=x.w.length from Nat.le_antisymm l2 e2) ?_;exact SH _]at tq;exact .fst q (.je hp hu h1 e) (kz tq (ag rfl)) h3
  |some y=>
   have he:=(h1.stop).e e;have lq:=gI e;rw[show QB q x.w.length=false from by cases e:QB q x.w.length with|false=>rfl|true=>exact absurd (QY e) (U2 lq)]at tq;have fr:=h3.wf.fresh;have fr0:tg s1.n s.h=none:=by cases e:tg s1.n s.h with|none=>rfl|some o=>exact uD ((h3.keep _ _ e).symm.trans fr)
   have x2:Xt s1 (aR s1 (aF [.nat pl,.cons a b,.nat q])):=.new h3.wf;have n2:tg s1.n (aR s1 (aF [.nat pl,.cons a b,.nat q])).h=some (aF [.nat pl,.cons a b,.nat q]):=cK;refine .seq (bk tq br) (.seq (e':=dE x (x.rv r) (.nat pl) ((Z.c (.cons a b)).d (.ref s1.n)) (.nat q)) (aG (cB (vs:=au [.nat pl,.cons a b,.nat q]) (ai (ag rfl) (ai (ag (bN _ _)) (ai (ag rfl) aM))) (show 3≤100000 by decide))) ?_);have ba2:=ba1.grow x2;change HR x _ s pl _ r _ _ (aR s1 (aF [.nat pl,.cons a b,.nat q]));generalize aR s1 (aF [.nat pl,.cons a b,.nat q])=s2 at*;refine .seq (e':=dE x (x.rv r) (.nat pl) ((Z.c (.cons a b)).d (.ref s1.n)) (.nat (q+1))) (aG (gf (ag rfl) aj)) ?_;have t4:=fZ (c:=aL bn (k+1)) (Bc (rv:=x.rv r) (fi:=.nat pl) (Z:=(Z.c (.cons a b)).d (.ref s1.n)) (pl:=.nat (q+1)) ba2 .u hh) (aj (v:=.nat 4));rcases O.sj with e3|e3|e3
   ·exact absurd e3 hu
   ·rw[show x.P.len .u=3 from e3]at t4;exact .seq (bk t4 br) (.pas (.ok _ _ (((Z.c (.cons a b)).d (.ref s1.n)).b _) _ _ s2 (λo z=>.j3 hp e3 h1 he z) (aG (ai (lB ba2 .u hh) (ai (ag (bN _ _)) aM))) (bN _ _) (F5 ⟨_,_,rfl,.inl rfl,⟨_,_,rfl,T.xt x2,⟨_,_,rfl,.inl rfl,rfl⟩⟩⟩ fr0 n2) (Nat.lt_succ_of_lt (Lg l1)) lq (h3.trans x2)))
   ·rw[show x.P.len .u=4 from e3]at t4;refine iW (r:=some .u) (pl:=q+1) ih x2.wf ba2 lq (NZ hn l1) (ag (q:=.e) rfl) (ag (q:=.a .e) (e:=dE x (x.rv r) (.nat pl) ((Z.c (.cons a b)).d (.ref s1.n)) (.nat (q+1))) rfl) (oj ba2 .u hh (by intro z;cases z)) (ag (q:=.c .e) rfl) ?_;intro o s3 v h5 h6 h7 h8;cases o with
    |bad z=>
     cases h8;exact .bad z s3 (.j4b hp e3 h1 he h5) (cY (nC t4 (bq (e':=dE x (x.rv r) (.nat pl) (((Z.c (.cons a b)).d (.ref s1.n)).f .none) (.nat z)) (eW h6 λk h=>h) (cY (kz (sO (bN _ _)) (ag rfl)))))) ((h3.trans x2).trans h7)
    |ok t2 z=>
     refine aE h8 ?_;clear h8;rintro a2 b2 rfl T2;refine b0 (h5.mo) ?_;rintro l3 l4 -;have n3:=h7.keep _ _ n2;have x4:∀q' o,q'≠s1.n->tg q' s3.h=some o->tg q' (bD s3 s1.n (aF [.nat pl,.cons a b,.nat q,.cons a2 b2])).h=some o:=λq' o z h=>(bl z).trans h;have wf4:Wf (bD s3 s1.n (aF [.nat pl,.cons a b,.nat q,.cons a2 b2])):=h7.wf.put n3;have n4:tg s1.n (bD s3 s1.n (aF [.nat pl,.cons a b,.nat q,.cons a2 b2])).h=some (aF [.nat pl,.cons a b,.nat q,.cons a2 b2]):=fu;have st4:St (aL bn (k+1)) (aY (cX (ae (.d (.a .e))) (ae (.f (.a .e))))) (dE x (x.rv r) (.nat pl) (((Z.c (.cons a b)).d (.ref s1.n)).f (.cons a2 b2)) (.nat z)) s3 (dE x (x.rv r) (.nat pl) (((Z.c (.cons a b)).d (.ref s1.n)).f (.cons a2 b2)) (.nat z)) (bD s3 s1.n (aF [.nat pl,.cons a b,.nat q,.cons a2 b2])):=fO (lC (x:=ae (.d (.a .e))) (y:=ae (.f (.a .e))) (e:=dE x (x.rv r) (.nat pl) (((Z.c (.cons a b)).d (.ref s1.n)).f (.cons a2 b2)) (.nat z)) (ag (bN _ _)) n3 (ag (bN _ _)) n3 (show 3+1≤100000 by decide));generalize bD s3 s1.n (aF [.nat pl,.cons a b,.nat q,.cons a2 b2])=s4 at*;have k14:∀q' o,tg q' s1.h=some o->tg q' s4.h=some o:=λq' o h=>x4 q' o (λz=>by rw[z,fr]at h;exact cO h) (h7.keep _ _ (x2.keep _ _ h));have x14:Xt s1 s4:=⟨wf4,k14⟩
     have ba4:=ba1.grow x14;have k24:∀q' n l,tg q' s2.h=none->tg q' s3.h=some (.list n l)->tg q' s4.h=some (.list n l):=λq' n l h1 h2=>x4 q' _ (λz=>by rw[z,n2]at h1;exact uD h1) h2;exact .ok _ _ ((((Z.c (.cons a b)).d (.ref s1.n)).f (.cons a2 b2)).b _) _ _ s4 (λo y=>.j4 hp e3 h1 he h5 y)
      (bc (cV t4 (bc (e':=dE x (x.rv r) (.nat pl) (((Z.c (.cons a b)).d (.ref s1.n)).f (.cons a2 b2)) (.nat z)) (eW h6 λk h=>h) (bc (bk (sL (bN _ _)) br) (aQ st4)))) (aQ (aG (ai (lB ba4 .u hh) (ai (ag (bN _ _)) aM)))))
      (bN _ _) (F5 ⟨_,_,rfl,.inl rfl,⟨_,_,rfl,T.xt x14,⟨_,_,rfl,.inl rfl,⟨_,_,rfl,T2.grow (λq o h=>x2.keep _ _ (h3.keep _ _ h)) k24,rfl⟩⟩⟩⟩ fr0 n4) (NU l1 l3) l4 (h3.trans x14)
end
end
section
section
variable{x:qx}{k:Nat}{s s0 s':KS}{pl:Nat}{r:Option Ru}{Z:Zs}
theorem z7{c:Cl}{rv fi plv:KV}{o:Option Si}(z:KV)(hz:pk z=true):Tc c (aw d7 (ae (.a (.a .e))) (af z)) (dE x rv fi (Z.a (Cf o)) plv) s (bU (Cf o) z) s:=fK (ag (bN _ _)) aj (by cases o with|none=>rfl|some y=>cases y<;>rfl) hz
theorem ME{c:Cl}{e:En}(h:x.P.op x.w[pl]?=false)(he:tg (.i .e) e=some (.nat pl))(wf:Wf s):HR x c s pl (.d pl r) r MS e s:=.bad pl s (.dx h) (cY (gv (ai aj (ai (ag he) aM)))) (.refl wf)
theorem MH(O:x.Ok)(ih:vX x (k+1))(wf:Wf s)(ba:Ba x s)(hn:2*x.w.length+3≤k+2+2*pl):HR x (aL bn (k+1)) s pl (.d pl r) r MU (dE x (x.rv r) (.nat pl) (Z.a (Cf x.w[pl]?)) (.nat pl)) s:=by
 have tA:=z7 (c:=aL bn (k+1)) (x:=x) (s:=s) (rv:=x.rv r) (fi:=.nat pl) (Z:=Z) (plv:=.nat pl) (o:=x.w[pl]?) fR rfl;have tJ:=z7 (c:=aL bn (k+1)) (x:=x) (s:=s) (rv:=x.rv r) (fi:=.nat pl) (Z:=Z) (plv:=.nat pl) (o:=x.w[pl]?) cJ rfl;have tI:=z7 (c:=aL bn (k+1)) (x:=x) (s:=s) (rv:=x.rv r) (fi:=.nat pl) (Z:=Z) (plv:=.nat pl) (o:=x.w[pl]?) cI rfl;have tU:=uO (c:=aL bn (k+1)) (rv:=x.rv r) (fi:=.nat pl) (Z:=Z.a (Cf x.w[pl]?)) (pl:=.nat pl) ba .u;have hx:x.P.op x.w[pl]?=false->HR x (aL bn (k+1)) s pl (.d pl r) r MS (dE x (x.rv r) (.nat pl) (Z.a (Cf x.w[pl]?)) (.nat pl)) s:=λh=>ME h rfl wf;have hA:=MI (r:=r) (m:=k+1) (Z:=Z.a (Cf x.w[pl]?)) ba wf (pl:=pl);have hJ:=MF (r:=r) (Z:=Z.a (Cf x.w[pl]?)) O ih wf ba hn;have hI:=MG (r:=r) (Z:=Z.a (Cf x.w[pl]?)) O ih wf ba hn;generalize x.w[pl]?=o at*;cases o with
 |none=>exact .ifF tA (.pas (.ifF (jg tJ) (.pas (.ifF tI (hx rfl)))))
 |some y=>
  cases y with
  |a=>exact .ifT tA (hA rfl)
  |i=>exact .ifF tA (.pas (.ifF (jg tJ) (.pas (.ifT tI (hI rfl)))))
  |j=>
   cases e:QB x.P.sj 0 with
   |true=>
    rw[show x.P.has .u=false by show(!QB x.P.sj 0)=_;refine rwr e ?_;rfl]at tU;exact .ifF tA (.pas (.ifF (eB tJ tU) (.pas (.ifF tI (hx (by show(!QB x.P.sj 0)=_;refine rwr e ?_;rfl))))))
   |false=>
    rw[show x.P.has .u=true by show(!QB x.P.sj 0)=_;refine rwr e ?_;rfl]at tU;exact .ifF tA (.pas (.ifT (eB tJ tU) (hJ rfl λz=>by rw[z]at e;cases e)))
  |_=>exact .ifF tA (.pas (.ifF (jg tJ) (.pas (.ifF tI (hx rfl)))))
end
section
variable{c:Cl}{n:Nat}{e e':En}{s s' s'':KS}{v:KV}
def ID(c:Cl)(n:Nat)(e:En)(s:KS)(v:KV)(s':KS):Prop:=∀(F:Fr)(k:En->K0),F.ret s' v=true->J0 uk vF aa c F (IN c F k) n e s=true
theorem AH(h:Tc c uk e s false s)(k:Rt c IN e s v s'):ID c (n+1) e s v s':=λF kk h1=>h _ _ (k F kk h1)
theorem rC(h:Tc c uk e s true s)(k:Rt c vF e s v s'):ID c (n+1) e s v s':=λF kk h1=>h _ _ (k _ _ h1)
theorem Fu(h:Tc c uk e s true s)(k:St c vF e s e' s''∨Ct c vF e s e' s'')(l:ID c n e' s'' v s'):ID c (n+1) e s v s':=λF kk h1=>h _ _ (k.elim (λk=>k _ _ (l F kk h1)) λk=>k _ _ (l F kk h1))
end
section
variable{x:qx}{k:Nat}{s0:KS}{r:Option Ru}{fi:KV}
theorem NY{L j p q:Nat}(h:L<j+1+p)(l:p<q):L<j+q:=by omega
theorem Pr{L k p q:Nat}(h:2*L+3≤k+2+2*p)(l:p<q):2*L+3≤k+1+2*q:=by omega
theorem O1{L n p:Nat}(hn:n≤1)(h:2*L+3≤n+2*p)(l:p≤L):False:=by omega
theorem rX(O:x.Ok)(ih:vX x (k+1)):∀(j n pl:Nat)(t a b:KV)(Z:Zs)(s:KS),x.w.length<j+pl->j≤n->2*x.w.length+3≤k+1+2*pl->pl≤x.w.length->Wf s->Ba x s->Xt s0 s->tv Z.B=some (.cons a b)->TV x s0 s t (.cons a b)->
  ∃o s' v,Dr x.P x.w (.l t pl r) o∧ID (aL bn (k+1)) n (dE x (x.rv r) fi Z (.nat pl)) s v s'∧Xt s0 s'∧Rv x s0 s' o v
 |0,_,_,_,_,_,_,_,h,_,_,hp,_,_,_,_,_=>absurd h (by rw[TA];exact Nat.not_lt_of_le hp)
 |j+1,0,_,_,_,_,_,_,_,h,_,_,_,_,_,_,_=>by cases h
 |j+1,n+1,pl,t,a,b,Z,s,hj,hjn,hn,hp,wf,ba,xt,hB,T=>by
  have tl:=F8 (c:=aL bn (k+1)) (rv:=x.rv r) (fi:=fi) (Z:=Z) (pl:=pl) ba;have re:Rt (aL bn (k+1)) IN (dE x (x.rv r) fi Z (.nat pl)) s (two (.cons a b) (.nat pl)) s:=cY (gv (ai (ag hB) (ai (ag rfl) aM)));cases e:x.w[pl]? with
  |none=>rw[e]at tl;exact⟨_,_,_,.le (.inl e),AH (jg tl) re,xt,a,b,rfl,T⟩
  |some z=>
   rw[e]at tl;have lp:=gI e;have te:=qH (c:=aL bn (k+1)) (y:=af eL) (xe (rv:=x.rv r) (fi:=fi) (Z:=Z) (pl:=.nat pl) ba (ag (q:=.a .e) rfl) e) aj (by cases z<;>rfl) rfl;have tp:=qH (c:=aL bn (k+1)) (y:=af gA) (xe (rv:=x.rv r) (fi:=fi) (Z:=Z) (pl:=.nat pl) ba (ag (q:=.a .e) rfl) e) aj (by cases z<;>rfl) rfl;have th:=uO (c:=aL bn (k+1)) (rv:=x.rv r) (fi:=fi) (Z:=Z) (pl:=.nat pl) ba .p;have bad:∀(Y:Tc (aL bn (k+1)) uk (dE x (x.rv r) fi Z (.nat pl)) s true s)(Y:x.P.fo (some z)=false)(Y:Tc (aL bn (k+1)) (k8 (aw jG (aD (ae .e) (ae (.a .e))) (af gA)) (aw k7 (af gA) (ae (.f .e)))) (dE x (x.rv r) fi Z (.nat pl)) s true s),∃o s' v,Dr x.P x.w (.l t pl r) o∧ID (aL bn (k+1)) (n+1) (dE x (x.rv r) fi Z (.nat pl)) s v s'∧Xt s0 s'∧Rv x s0 s' o v:=λh1 h2 h3=>⟨.bad pl,s,_,.lx (by refine rwr e ?_;exact h2),rC h1 (cY (kz h3 (ag rfl))),xt,rfl⟩
   cases z with
   |e=>exact⟨_,_,_,.le (.inr e),AH (eB tl te) re,xt,a,b,rfl,T⟩
   |p=>
    have thn:Tc (aL bn (k+1)) (aw k7 (af gA) (ae (.f .e))) (dE x (x.rv r) fi Z (.nat pl)) s (!x.P.has .p) s:=λt f h=>th f t (by cases h1:x.P.has .p<;>rw[h1]at h<;>exact h);cases hs:QB x.P.sp 0 with
    |true=>
     have h0:x.P.has .p=false:=by show(!QB x.P.sp 0)=_;refine rwr hs ?_;rfl
     rw[h0]at thn;exact bad (eB tl te) h0 (qG tp thn)
    |false=>
     have h0:x.P.has .p=true:=by show(!QB x.P.sp 0)=_;refine rwr hs ?_;rfl
     have h1:x.P.sp≠0:=λz=>by rw[z]at hs;cases hs
     rw[h0]at thn;have p1:=bk (a:=ad (bT (ab (af .none) (ab (ae (.a .e)) ao))) aa) (qG tp thn) br;have p2:St (aL bn (k+1)) (av (t1 (.g (.a .e))) (bf (.a (.g .e)) (ab (ae (.b .e)) (ab (aD (ae (.d .e)) (af gA)) ao)))) (dE x (x.rv r) fi Z (.nat pl)) s (dE x (x.rv r) fi (Z.g (oF (x.P.cho r))) (.nat pl)) s:=aG (i6 (ai (ag rfl) (ai (Bf ba true) aM)) (MV O));have tch:∀(v:KV)(y:X),pk v=true->Ev (aL bn (k+1)) y (dE x (x.rv r) fi (Z.g (oF (x.P.cho r))) (.nat pl)) s v s->Tc (aL bn (k+1)) (aw d7 (ae (.g (.a .e))) y) (dE x (x.rv r) fi (Z.g (oF (x.P.cho r))) (.nat pl)) s (bU (oF (x.P.cho r)) v) s:=λv y h1 h2=>fK (ag (bN _ _)) h2 (by cases x.P.cho r<;>rfl) h1;have t0:=tch (.nat 0) (af (.nat 0)) rfl aj;have tm:=tch (.neg 0) (dS (af (.nat 1))) rfl λk h=>h;have q3:∀o,x.P.cho r=o->x.P.cho r=o:=λY h=>h;cases hc:x.P.cho r with
     |no=>
      rw[hc]at t0 p2;exact⟨.bad pl,s,_,.ln e h1 hc,rC (eB tl te) (bq p1 (bq p2 (cY (kz t0 (ag rfl))))),xt,rfl⟩
     |rd=>
      rw[hc]at t0 p2 tm;exact⟨_,_,_,.lr e h1 hc,rC (eB tl te) (bq p1 (bq p2 (bq (bk t0 br) (cY (nC tm (cY (gv (ai (ag hB) (ai (ag rfl) aM))))))))),xt,a,b,rfl,T⟩
     |sh=>
      rw[hc]at t0 p2 tm;have p3:=bk (a:=ad (bT (ab (af .none) (ab (ae (.a .e)) ao))) aa) t0 br;have p4:=bk (a:=ad (bT (ab (ae (.b (.a .e))) (ab (ae (.a .e)) ao))) aa) tm br;have tz:=fZ (c:=aL bn (k+1)) (Bc (rv:=x.rv r) (fi:=fi) (Z:=Z.g (oF .sh)) (pl:=.nat pl) ba .p h0) (aj (v:=.nat 2));have en:=λ(s:KS)(ba:Ba x s)(Z:Zs)=>lB (c:=aL bn (k+1)) (rv:=x.rv r) (fi:=fi) (Z:=Z) (pl:=.nat pl) ba .p h0;rcases O.sp with e3|e3|e3
      ·exact absurd e3 h1
      ·rw[show x.P.len .p=2 from e3]at tz;refine fN (rX O ih j n (pl+1) (x.P.tr .p [t,.nat pl]) (.nat (x.P.nu .p)) (.cons (.fl (au [.cons a b,.nat pl])) .nil) ((Z.g (oF .sh)).b (two (.nat (x.P.nu .p)) (.fl (au [.cons a b,.nat pl])))) s (NY hj (Sb _)) (T8 hjn) (MN hn (RA _)) lp wf ba xt (bN _ _) (sI ⟨_,_,rfl,T,⟨_,_,rfl,.inl rfl,rfl⟩⟩)) ?_;intro o s' v a1 a2 a3 a4;exact⟨o,s',v,.l2 e e3 hc a1,Fu (eB tl te) (.inr (lE p1 (lE p2 (lE p3 (lE p4 (BC (Ia tz (lE (aG (ai (en s ba (Z.g (oF .sh))) (ai (iS (vs:=au [.cons a b,.nat pl]) (ai (ag hB) (ai (ag rfl) aM)) (show 2≤100000 by decide)) aM))) (lE (aG (gf (ag rfl) aj)) (BC Es)))))))))) a2,a3,a4⟩
      ·rw[show x.P.len .p=3 from e3]at tz;have p5:=bk (a:=ad (av (t1 (.b (.a .e))) (ab (aD (ae (.f .e)) (af gA)) (ab (sg (ab (ae (.b (.a .e))) (ab (ae (.a .e)) ao))) ao))) (ad (av (t1 (.a .e)) (aW c9 (ae (.a .e)) (af (.nat 1)))) (ad iB aa))) tz br;refine iW (r:=some .p) (pl:=pl+1) ih wf ba lp (MN hn (RA _)) (ag (q:=.e) rfl) (gf (ag (q:=.a .e) (e:=dE x (x.rv r) fi (Z.g (oF .sh)) (.nat pl)) rfl) aj) (oj ba .p h0 (by intro z;cases z)) (ag (q:=.c .e) rfl) ?_;intro o s1 v g1 g2 g3 g4;cases o with
       |bad z=>
        cases g4;exact⟨.bad z,s1,_,.l3b e e3 hc g1,rC (eB tl te) (bq p1 (bq p2 (bq p3 (bq p4 (bq p5 (bq (e':=dE x (x.rv r) fi (((Z.f .none).g (oF .sh)).h (.nat z)) (.nat pl)) (eW g2 λk h=>h) (cY (kz (sO (bN _ _)) (ag (bN _ _)))))))))),xt.trans g3,rfl⟩
       |ok t2 z=>
        refine aE g4 ?_;clear g4;rintro a2 b2 rfl T2;refine b0 (g1.mo) ?_;rintro l3 l4 -;refine fN (rX O ih j n z (x.P.tr .p [t,.nat pl,t2]) (.nat (x.P.nu .p)) (.cons (.fl (au [.cons a b,.nat pl,.cons a2 b2])) .nil) ((((Z.f (.cons a2 b2)).g (oF .sh)).h (.nat z)).b (two (.nat (x.P.nu .p)) (.fl (au [.cons a b,.nat pl,.cons a2 b2])))) s1 (NY hj (Nat.lt_of_succ_lt l3)) (T8 hjn) (MN hn (Sh (Nat.lt_of_succ_lt l3))) l4 g3.wf (ba.grow g3) (xt.trans g3) (bN _ _) (sI ⟨_,_,rfl,T.xt g3,⟨_,_,rfl,.inl rfl,⟨_,_,rfl,T2.grow xt.keep λY Y Y Y h=>h,rfl⟩⟩⟩)) ?_;intro o s' v a1 a3 a4 a5;exact⟨o,s',v,.l3 e e3 hc g1 a1,Fu (eB tl te) (.inl (bc p1 (bc p2 (bc p3 (bc p4 (bc p5 (bc (e':=dE x (x.rv r) fi (((Z.f (.cons a2 b2)).g (oF .sh)).h (.nat z)) (.nat pl)) (eW g2 λk h=>h) (bc (bk (sL (bN _ _)) br) (bc (aG (ai (en s1 (ba.grow g3) (((Z.f (.cons a2 b2)).g (oF .sh)).h (.nat z))) (ai (iS (vs:=au [.cons a b,.nat pl,.cons a2 b2]) (ai (ag hB) (ai (ag rfl) (ai (ag (bN _ _)) aM))) (show 3≤100000 by decide)) aM))) (aQ (aG (ag (bN _ _))))))))))))) a3,a4,a5⟩
   |_=>exact bad (eB tl te) rfl (uN tp)
theorem Ai{c:Cl}{e:En}{s s':KS}{v:KV}(h:ID c lN e s v s'):Rt c (ad (dB uk vF aa) IN) e s v s':=λF k hk=>h F k hk
theorem FJ(O:x.Ok)(hw:x.w.length≤100):∀n:Nat,vX x n
 |0=>λpl r s Y Y l h=>(O1 (by decide) h l).elim
 |1=>λpl r s Y Y l h=>(O1 (by decide) h l).elim
 |k+2=>λpl r s wf ba Y hn=>by
  have ih:=FJ O hw (k+1);have p1:St (aL bn (k+1)) (av (tC (t1 (.d .e)) (tC (t1 (.f .e)) (tC (t1 (.g .e)) (tC (t1 (.h .e)) tN)))) (ae (.c .e))) (tp (.c .e) x.fv (tp (.b .e) (x.rv r) (tp (.a .e) (.nat pl) (tp .e (.ref x.wq) .nil)))) s (tp (.h .e) (.ref x.q4) (tp (.g .e) (.ref x.q3) (tp (.f .e) (.ref x.q2) (tp (.d .e) (.ref x.q1) (tp (.c .e) x.fv (tp (.b .e) (x.rv r) (tp (.a .e) (.nat pl) (tp .e (.ref x.wq) .nil)))))))) s:=eW (ag rfl) λk h=>h;have p2:=aG (c:=aL bn (k+1)) (q:=.i .e) (ag (s:=s) (e:=tp (.h .e) (.ref x.q4) (tp (.g .e) (.ref x.q3) (tp (.f .e) (.ref x.q2) (tp (.d .e) (.ref x.q1) (tp (.c .e) x.fv (tp (.b .e) (x.rv r) (tp (.a .e) (.nat pl) (tp .e (.ref x.wq) .nil)))))))) (q:=.a .e) (v:=.nat pl) rfl);have es:Ev (aL bn (k+1)) (dQ (aw jm (ae (.i .e)) (dw 1 (.g .e) (ae .e))) (aD (ae .e) (ae (.i .e))) (af (.str 1))) (dE x (x.rv r) (.nat pl) Z0 (.nat pl)) s (Cf x.w[pl]?) s:=by
   have tl:=l0 (c:=aL bn (k+1)) (e:=dE x (x.rv r) (.nat pl) Z0 (.nat pl)) (s:=s) (x:=ae (.i .e)) (ag (v:=.nat pl) rfl) (vz ba);cases e:x.w[pl]? with
   |none=>rw[show QJ (pl+1) x.w.length=false from lZ (SI.mp e)]at tl;exact gd tl aj
   |some z=>rw[QK (gI e)]at tl;exact gc tl (xe ba (ag rfl) e)
  have p3:=aG (q:=.a (.a .e)) es;have fin:∀{s':KS}{v:KV},Rt (aL bn (k+1)) (ad MU (ad (dB uk vF aa) IN)) (dE x (x.rv r) (.nat pl) (Z0.a (Cf x.w[pl]?)) (.nat pl)) s v s'->Ca (aL bn (k+2)) Jr (.cons (.ref x.wq) (.cons (.nat pl) (.cons (x.rv r) (.cons x.fv .nil)))) s v s':=λh=>oG (e0:=tp (.c .e) x.fv (tp (.b .e) (x.rv r) (tp (.a .e) (.nat pl) (tp .e (.ref x.wq) .nil)))) LM rfl (λk h=>h) (bq p1 (bq p2 (bq p3 h)));cases MH (r:=r) (Z:=Z0) O ih wf ba hn with
  |bad z s' a1 a2 a3=>exact⟨_,s',_,a1,fin (cY a2),a3,rfl⟩
  |ok t pl' Z a b s' a2 a3 a4 a5 a6 a7 a8=>
   refine fN (rX (r:=r) (fi:=.nat pl) O ih (x.w.length+1) lN pl' t a b Z s' (Sa (Sb _) (RB _ _)) (QG (RV hw) (by decide)) (Pr hn a6) a7 a8.wf (ba.grow a8) a8 a4 a5) ?_;intro o s2 v b1 b2 b3 b4;exact⟨o,s2,v,a2 o b1,fin (bq a3 (Ai b2)),b3,b4⟩
end
end
section
section
noncomputable def NJ:Pa:=.d (.g .e)
theorem LI:tg NJ bn=some (.fn 3 .nil Nu):=by kernel_rfl
noncomputable def Iu:KV:=.str 19343145155671596495536228
noncomputable def oZ(m:Option Si):KV:=match m with|some x=>pc x|none=>Iu
structure BY where
 tq:Pa
 aq:Pa
 gq:Pa
 sq:Pa
 wq:Pa
 pq:Pa
 vq:Pa
 w:List Si
 P:Pm
 N:Qs->Nat
 sp:List KV
def oU(x:BY)(a:Ac)(v:Option KV):Prop:=match a with
 |.no=>v=none∨v=some .none
 |.sh q=>v=some (.nat (x.N q))∧1≤x.N q
 |.rd r=>v=some (.neg (x.P.nu r-1))∧1≤x.P.nu r
 |.ok=>v=some (.nat 0)
structure TF(x:BY)(s:KS):Prop where
 i:∃n fs,tg x.tq s.h=some (.inst n fs)∧tg (.h (.c .e)) fs=some (.ref x.aq)∧tg (.i (.c .e)) fs=some (.ref x.gq)
 a:∃n es,tg x.aq s.h=some (.dict n es)∧∀q,x.P.ex q=true->∃rq n' rs,dl es (.nat (x.N q))=some (.ref rq)∧tg rq s.h=some (.dict n' rs)∧∀m,oU x (x.P.act q m) (dl rs (oZ m))
 g:∃n es,tg x.gq s.h=some (.dict n es)∧∀z,x.P.ex (.c z)=true->∃rq n' rs,dl es (.nat (x.N (.c z)))=some (.ref rq)∧tg rq s.h=some (.dict n' rs)∧dl rs cE=some (.nat (x.N (.g z)))
 l:tg x.sq s.h=some (aF x.sp)∧∀r,x.P.has r=true->∃q nm l,x.sp[x.P.nu r-1]?=some (two (.ref q) nm)∧tg q s.h=some (aF l)∧l.length=x.P.len r
 w:tg x.wq s.h=some (aF (x.w.map pc))
noncomputable def qW(x:BY)(st:List (Qs×KV)):List KV:=(st.map λy=>.nat (x.N y.1)).reverse
noncomputable def uI(st:List (Qs×KV)):List KV:=(st.map (·.2)).reverse
structure TI(x:BY)(s0 s:KS)(st:List (Qs×KV)):Prop where
 wf:Wf s
 kp:∀q o,tg q s0.h=some o->tg q s.h=some o
 p:tg x.pq s.h=some (aF (qW x st))
 v:tg x.vq s.h=some (aF (uI st))
 ne:x.pq≠x.vq
 p0:tg x.pq s0.h=none
 v0:tg x.vq s0.h=none
noncomputable def tE(x:BY)(Hm Ir A B C:T KV)(sn pl:KV):En:=.nd (some (.ref x.tq)) (uE (.ref x.sq) A) (uE (.ref x.wq) B) (uE (.ref x.pq) C) (uE (.ref x.vq) .nil) (uE pl .nil) (uE sn .nil) Hm Ir
noncomputable def rV(r:yC):KV:=.cons r.1 (.cons (.nat r.2.1) (.cons (.bool r.2.2) .nil))
def Lp(c:Cl)(n:Nat)(e:En)(s:KS)(v:KV)(s':KS):Prop:=∀(F:Fr)(k:En->K0),F.ret s' v=true->J0 yW F6 aa c F (Nv c F k) n e s=true
end
section
variable{c:Cl}{e e':En}{s s' s'' s0:KS}{x y:X}{v w:KV}{q p:Pa}{l:List KV}
theorem nZ(l:List KV)(a:KV):aF (l++[a])=.list (l.length+1) (au (l++[a])):=by unfold aF;refine rwr QT ?_;rfl
theorem qP(ho:Ev c x e s (.ref q) s)(hx:Ev c y e s w s)(hq:tg q s.h=some (aF l))(hl:l.length≤5000):St c (aY (cX x y)) e s e (bD s q (aF (l++[w]))):=by
 have:=lC ho hq hx hq (QG (RV hl) (by decide));rw[nZ,←dZ];exact fO this
theorem xf{a:KV}(ho:Ev c x e s (.ref q) s)(hq:tg q s.h=some (aF (l++[a]))):Ev c (kX x) e s a (bD s q (aF l)):=by
 rw[nZ]at hq;have:=Bd (v:=a) ho hq (by rw[dU];simp);rw[fq,List.take_left' rfl]at this;exact this
theorem ua{a:KV}(ho:Ev c x e s (.ref q) s)(hq:tg q s.h=some (aF (l++[a]))):Ev c (aD x (dS (af (.nat 1)))) e s a s:=by
 rw[nZ]at hq;exact Bb (m:=0) ho (λk h=>h) hq (QU 1 _) (by rw[dU];simp)
theorem Bg{xs ys:KV}(hx:Ev c x e s (.fl xs) s')(hy:Ev c y e s' (.fl ys) s'')(hn:len xs+len ys≤100000):Ev c (aW c9 x y) e s (.fl (Internal.app xs ys)) s'':=λk h=>hx _ (hy _ (by
 show aB (QJ (len xs+len ys) 100000) false (k s'' (.fl (Internal.app xs ys)))=true;refine rwr (QK hn) ?_;exact h))
theorem AF(h:Tc c yW e s true s)(k:Rt c F6 e s v s'){n:Nat}:Lp c (n+1) e s v s':=λF kk h1=>h _ _ (k _ _ h1)
theorem Fs(h:Tc c yW e s true s)(k:St c F6 e s e' s''){n:Nat}(l:Lp c n e' s'' v s'):Lp c (n+1) e s v s':=λF kk h1=>h _ _ (k _ _ (l F kk h1))
variable{z:BY}{st:List (Qs×KV)}
theorem TI.put2(I:TI z s0 s st)(l:List (Qs×KV)):TI z s0 (bD (bD s z.pq (aF (qW z l))) z.vq (aF (uI l))) l:=by
 have v1:tg z.vq (bD s z.pq (aF (qW z l))).h=some (aF (uI st)):=(bl I.ne.symm).trans I.v;exact⟨(I.wf.put I.p).put v1,λq o h=>(bl λe=>by rw[e,I.v0]at h;exact cO h).trans ((bl λe=>by rw[e,I.p0]at h;exact cO h).trans (I.kp q o h)),(bl I.ne).trans fu,fu,I.ne,I.p0,I.v0⟩
theorem tG(y:Qs×KV)(st:List (Qs×KV)):qW z (y::st)=qW z st++[.nat (z.N y.1)]:=SN
theorem yN(y:Qs×KV)(st:List (Qs×KV)):uI (y::st)=uI st++[y.2]:=SN
variable{Hm Ir A B C:T KV}{sn pl:KV}
theorem Ef{y0:Qs×KV}(I:TI z s0 s (y0::st)){acc:KV}(hB:tv B=some (.fl acc))(hl:len acc≤5000):∃s',St c Gf (tE z Hm Ir A B C sn pl) s (tE z Hm Ir A (pv (.fl (.cons y0.2 acc)) B) C sn pl) s'∧TI z s0 s' st:=by
 have hp:=I.p;have hv:=I.v;rw[tG]at hp;rw[yN]at hv;refine⟨_,bc (fO (xf (ag (q:=.c .e) (e:=tE z Hm Ir A B C sn pl) rfl) hp)) (aQ (aG (Bg (xs:=.cons y0.2 .nil) (ys:=acc) (iS (ai (xf (ag (q:=.d .e) (e:=tE z Hm Ir A B C sn pl) rfl) ((bl I.ne.symm).trans hv)) aM) (show 1≤100000 by decide)) (ag hB) (by show 1+len acc≤100000;lia)))),I.put2 st⟩
theorem xd{sq:Pa}{ls:List KV}(hq:tg sq s0.h=some (aF ls)){rest:List (Qs×KV)}:∀(ks:List (Qs×KV))(i m:Nat)(acc:List KV)(A B C:T KV)(s:KS),ls.length=i+ks.length->ks.length<m->acc.length+ks.length≤1000->TI z s0 s (ks++rest)->tv B=some (.fl (au acc))->
  ∃s' B' C',G2 c (t1 (.c (.a .e))) Gf aa m (.list sq i) (tE z Hm Ir A B C sn pl) s (tE z Hm Ir A B' C' sn pl) s'∧TI z s0 s' rest∧tv B'=some (.fl (au (ks.reverse.map (·.2)++acc)))
 |_,_,0,_,_,_,_,_,_,h,_,_,_=>by cases h
 |[],i,m+1,acc,A,B,C,s,hl,hm,ha,I,hB=>⟨s,B,C,rB (mz (I.kp _ _ hq) (RU (by rw[hl];exact QZ _))) br,I,hB⟩
 |y::ks,i,m+1,acc,A,B,C,s,hl,hm,ha,I,hB=>by
  have hl:ls.length=i+(ks.length+1):=hl;have ha:acc.length+(ks.length+1)≤1000:=ha;have hi:i<ls.length:=by simp_all+arith
  refine ah (Ef (c:=c) (Hm:=Hm) (Ir:=Ir) (A:=A) (C:=pv ls[i] C) (sn:=sn) (pl:=pl) I hB (by rw[jk];lia)) ?_;intro s1 st1 I1;refine ei (xd hq ks (i+1) m (y.2::acc) A (pv (.fl (.cons y.2 (au acc))) B) (pv ls[i] C) s1 (by simp_all+arith) (Sz hm) (by show acc.length+1+_≤_;simp_all+arith) I1 (bN _ _)) ?_;intro s2 B2 C2 lp I2 hB2;refine⟨s2,B2,C2,mH (e1:=tE z Hm Ir A B (pv ls[i] C) sn pl) (mA (I.kp _ _ hq) (QM hi)) (λk h=>h) st1 lp,I2,?_⟩;rw[hB2,SN,S1,Sx];rfl
end
end
section
section
variable{c:Cl}{s s0:KS}{z:BY}{q:Qs}{v:KV}{st:List (Qs×KV)}{Hm Ir A B C:T KV}{sn pl:Nat}
def J9(y:Y):Y:=(ad (av (t1 (.g .e)) (aW c9 (ae (.g .e)) (af (.nat 1)))) (ad (av (t1 (.h .e)) (dQ (aw jm (ae (.f .e)) (dw 1 (.g .e) (ae (.b .e)))) (aD (ae (.b .e)) (ae (.f .e))) (af Iu))) (ad (av (t1 (.i .e)) (aD (ak (.h (.c .e)) (ae .e)) (aD (ae (.c .e)) (dS (af (.nat 1)))))) (ad (bw (k8 (aw k7 (ae (.h .e)) (ae (.i .e))) (iq (aD (ae (.i .e)) (ae (.h .e))))) (ad (bT (ab (af .none) (ab (ae (.f .e)) (ab (af (.bool true)) ao)))) aa) aa) (ad (av (t1 (.a (.a .e))) (aD (ae (.i .e)) (ae (.h .e)))) y)))))
theorem AA(m:Option Si):pk (oZ m)=true:=by cases m with|none=>rfl|some x=>cases x<;>rfl
theorem mn(T:TF z s0)(I:TI z s0 s ((q,v)::st))(hq:z.P.ex q=true){G:Prop}(k:∀rq n rs,(∀m,oU z (z.P.act q m) (dl rs (oZ m)))->tg rq s.h=some (.dict n rs)->St c (av (t1 (.g .e)) (aW c9 (ae (.g .e)) (af (.nat 1)))) (tE z Hm Ir A B C (.nat sn) (.nat pl)) s (tE z Hm Ir A B C (.nat (sn+1)) (.nat pl)) s->St c (av (t1 (.h .e)) (dQ (aw jm (ae (.f .e)) (dw 1 (.g .e) (ae (.b .e)))) (aD (ae (.b .e)) (ae (.f .e))) (af Iu))) (tE z Hm Ir A B C (.nat (sn+1)) (.nat pl)) s (tE z (pv (oZ z.w[pl]?) Hm) Ir A B C (.nat (sn+1)) (.nat pl)) s->St c (av (t1 (.i .e)) (aD (ak (.h (.c .e)) (ae .e)) (aD (ae (.c .e)) (dS (af (.nat 1)))))) (tE z (pv (oZ z.w[pl]?) Hm) Ir A B C (.nat (sn+1)) (.nat pl)) s (tE z (pv (oZ z.w[pl]?) Hm) (pv (.ref rq) Ir) A B C (.nat (sn+1)) (.nat pl)) s->G):G:=by
 refine aH T.i ?_;intro n1 fs i1 i2 i3;refine aE T.a ?_;intro n2 es a1 a2;refine ei (a2 q hq) ?_;intro rq n rs b1 b2 b3;have hw:=I.kp _ _ T.w;have hp:=I.p;rw[tG]at hp;refine k rq n rs b3 (I.kp _ _ b2) (aG (gf (ag rfl) aj)) (aG ?_) (aG (f7 (fy (ag rfl) (I.kp _ _ i1) i2) (ua (ag (q:=.c .e) rfl) hp) (I.kp _ _ a1) rfl b1));have le:Ev c (dw 1 (.g .e) (ae (.b .e))) (tE z Hm Ir A B C (.nat (sn+1)) (.nat pl)) s (.nat z.w.length) s:=by
  have:=jp (c:=c) (e:=tE z Hm Ir A B C (.nat (sn+1)) (.nat pl)) (c0:=1) (p:=.g .e) (ag (q:=.b .e) rfl) hw;rw[Ra]at this;exact this
 have tl:=l0 (c:=c) (x:=ae (.f .e)) (ag (v:=.nat pl) rfl) le;cases e:z.w[pl]? with
 |none=>rw[show QJ (pl+1) z.w.length=false from lZ (SI.mp e)]at tl;exact gd tl aj
 |some y=>rw[QK (gI e)]at tl;exact gc tl (jo (ag (q:=.b .e) rfl) (ag (v:=.nat pl) rfl) hw (by rw[dU,Rj,e];rfl))
theorem wb{c:Cl}{e:En}{m:KV}{rq:Pa}{n:Nat}{rs:KD}(h1:tg (.h .e) e=some m)(h2:tg (.i .e) e=some (.ref rq))(hm:pk m=true)(hr:tg rq s.h=some (.dict n rs))(hv:∀v,dl rs m=some v->JC v=true):
  Tc c (k8 (aw k7 (ae (.h .e)) (ae (.i .e))) (iq (aD (ae (.i .e)) (ae (.h .e))))) e s (!((dl rs m).any Hw)) s:=by
 have t1:=qL (c:=c) (ag h1) (ag h2) hr hm;cases h:dl rs m with
 |none=>rw[h]at t1;exact uN λt f k=>t1 f t k
 |some v=>
  rw[h]at t1;exact qG (λt f k=>t1 f t k) (qJ (f7 (ag h2) (ag h1) hr hm h) (hv v h))
theorem xh{a:Ac}{o:Option KV}(h:oU z a o):∀v,o=some v->JC v=true:=by
 rintro v rfl;cases a with
 |no=>rcases h with h|h<;>cases h;rfl
 |sh q=>cases h.1;rfl
 |rd r=>cases h.1;rfl
 |ok=>cases h;rfl
theorem CE(T:TF z s0)(I:TI z s0 s ((q,v)::st))(hq:z.P.ex q=true)(a:z.P.act q z.w[pl]?=.no):Rt c F6 (tE z Hm Ir A B C (.nat sn) (.nat pl)) s (rV (.none,pl,true)) s:=by
 refine mn (c:=c) (Hm:=Hm) (Ir:=Ir) (A:=A) (B:=B) (C:=C) (sn:=sn) (pl:=pl) T I hq ?_;intro rq n rs h1 h2 p1 p2 p3;have en:=h1 z.w[pl]?;have tc:=wb (c:=c) (e:=tE z (pv (oZ z.w[pl]?) Hm) (pv (.ref rq) Ir) A B C (.nat (sn+1)) (.nat pl)) (bN _ _) (bN _ _) (AA _) h2 (xh en);rw[a]at en;have e0:(dl rs (oZ z.w[pl]?)).any Hw=false:=by rcases en with en|en<;>rw[en]<;>rfl
 rw[e0]at tc;exact bq p1 (bq p2 (bq p3 (cY (nC tc (cY (gv (ai aj (ai (ag rfl) (ai aj aM)))))))))
theorem nh(T:TF z s0)(I:TI z s0 s ((q,v)::st))(hq:z.P.ex q=true){w:KV}(he:∀rs,oU z (z.P.act q z.w[pl]?) (dl rs (oZ z.w[pl]?))->dl rs (oZ z.w[pl]?)=some w)(hw:Hw w=true){G:Prop}(k:∀rq,(∀{y:Y},(∀{e':En}{s':KS},St c y (tE z (pv (oZ z.w[pl]?) Hm) (pv (.ref rq) Ir) (pv w A) B C (.nat (sn+1)) (.nat pl)) s e' s'->St c (J9 y) (tE z Hm Ir A B C (.nat sn) (.nat pl)) s e' s')∧(∀{v':KV}{s':KS},Rt c y (tE z (pv (oZ z.w[pl]?) Hm) (pv (.ref rq) Ir) (pv w A) B C (.nat (sn+1)) (.nat pl)) s v' s'->Rt c (J9 y) (tE z Hm Ir A B C (.nat sn) (.nat pl)) s v' s'))->G):G:=by
 refine mn (c:=c) (Hm:=Hm) (Ir:=Ir) (A:=A) (B:=B) (C:=C) (sn:=sn) (pl:=pl) T I hq ?_;intro rq n rs h1 h2 p1 p2 p3;have en:=h1 z.w[pl]?;have tc:=wb (c:=c) (e:=tE z (pv (oZ z.w[pl]?) Hm) (pv (.ref rq) Ir) A B C (.nat (sn+1)) (.nat pl)) (bN _ _) (bN _ _) (AA _) h2 (xh en);have e0:=he rs en;have e1:(dl rs (oZ z.w[pl]?)).any Hw=true:=by refine rwr e0 ?_;exact hw
 rw[e1]at tc;have p4:=bk (a:=ad (bT (ab (af .none) (ab (ae (.f .e)) (ab (af (.bool true)) ao)))) aa) tc br;have p5:=aG (c:=c) (q:=.a (.a .e)) (e:=tE z (pv (oZ z.w[pl]?) Hm) (pv (.ref rq) Ir) A B C (.nat (sn+1)) (.nat pl)) (f7 (x:=ae (.i .e)) (i:=ae (.h .e)) (ag (bN _ _)) (ag (bN _ _)) h2 (AA _) e0);exact k rq (λ{y}=>⟨λh=>bc p1 (bc p2 (bc p3 (bc p4 (bc p5 h)))),λh=>bq p1 (bq p2 (bq p3 (bq p4 (bq p5 h))))⟩)
theorem HQ{e:En}{x:X}{m:Nat}(h:Ev c x e s (.neg m) s):Ev c (dS x) e s (.nat (m+1)) s:=λk q=>h _ q
theorem Jf{e:En}{x:X}{m:Nat}(h:Ev c x e s (.neg m) s):Tc c (aw su x (af (.nat 0))) e s false s∧Tc c (aw jm x (af (.nat 0))) e s true s:=⟨λt f q=>h _ q,λt f q=>h _ q⟩
theorem Ge(T:TF z s0){t:KV}(I:TI z s0 s [(.g .o,t),(.c .o,.none)])(a:z.P.act (.g .o) z.w[pl]?=.ok):Rt c F6 (tE z Hm Ir A B C (.nat sn) (.nat pl)) s (rV (t,pl,false)) s:=by
 refine nh (c:=c) (Hm:=Hm) (Ir:=Ir) (A:=A) (B:=B) (C:=C) (sn:=sn) (pl:=pl) (w:=.nat 0) T I rfl (λrs h=>by rw[a]at h;exact h) rfl ?_;intro rq pr;have ea:Ev c (ae (.a (.a .e))) (tE z (pv (oZ z.w[pl]?) Hm) (pv (.ref rq) Ir) (pv (.nat 0) A) B C (.nat (sn+1)) (.nat pl)) s (.nat 0) s:=ag (bN _ _);have hv:tg z.vq s.h=some (.list 2 (au [.none,t])):=I.v;exact(pr (y:=ad (bw (aw su (ae (.a (.a .e))) (af (.nat 0))) CF (ad (bw (aw jm (ae (.a (.a .e))) (af (.nat 0))) CG CH) aa)) aa)).2 (cY (v7 (uP (b:=0) ea aj) (cY (v7 (l0 (b:=0) ea aj) (cY (gv (ai (jo (m:=1) (ag (q:=.d .e) rfl) aj hv rfl) (ai (ag rfl) (ai (gr (b:=false) (kZ (a:=2) (m:=2) (jp (ag (q:=.d .e) rfl) hv) aj)) aM)))))))))
theorem Gc(T:TF z s0)(I:TI z s0 s ((q,v)::st))(hq:z.P.ex q=true){q':Qs}(a:z.P.act q z.w[pl]?=.sh q')(hl:st.length≤2000):∃s' Hm' Ir' A',St c F6 (tE z Hm Ir A B C (.nat sn) (.nat pl)) s (tE z Hm' Ir' A' B C (.nat (sn+1)) (.nat (pl+1))) s'∧TI z s0 s' ((q',.nat pl)::(q,v)::st):=by
 have n1:1≤z.N q':=by
  refine mn (c:=c) (Hm:=Hm) (Ir:=Ir) (A:=A) (B:=B) (C:=C) (sn:=sn) (pl:=pl) T I hq ?_;rintro rq n rs h1- - - -;have:=h1 z.w[pl]?;rw[a]at this;exact this.2
 refine nh (c:=c) (Hm:=Hm) (Ir:=Ir) (A:=A) (B:=B) (C:=C) (sn:=sn) (pl:=pl) (w:=.nat (z.N q')) T I hq (λrs h=>by rw[a]at h;exact h.1) rfl ?_;intro rq pr;have ea:∀s,Ev c (ae (.a (.a .e))) (tE z (pv (oZ z.w[pl]?) Hm) (pv (.ref rq) Ir) (pv (.nat (z.N q')) A) B C (.nat (sn+1)) (.nat pl)) s (.nat (z.N q')) s:=λs=>ag (bN _ _);have tg:=uP (b:=0) (ea s) (aj (v:=.nat 0));rw[QK n1]at tg;have p1:=qP (c:=c) (ag (q:=.c .e) (s:=s) (e:=tE z (pv (oZ z.w[pl]?) Hm) (pv (.ref rq) Ir) (pv (.nat (z.N q')) A) B C (.nat (sn+1)) (.nat pl)) rfl) (ea s) I.p (by unfold qW;rw[SS,Ra];show st.length+1≤_;exact Rp hl (QU (QR 2000) 2999));have p2:=qP (c:=c) (ag (q:=.d .e) (s:=bD s z.pq (aF (qW z ((q,v)::st)++[.nat (z.N q')]))) (e:=tE z (pv (oZ z.w[pl]?) Hm) (pv (.ref rq) Ir) (pv (.nat (z.N q')) A) B C (.nat (sn+1)) (.nat pl)) rfl) (ag (q:=.f .e) (v:=.nat pl) rfl) ((bl I.ne.symm).trans I.v) (by unfold uI;rw[SS,Ra];show st.length+1≤_;omega);have J:=I.put2 ((q',.nat pl)::(q,v)::st);rw[tG (q',KV.nat pl),yN (q',KV.nat pl)]at J;exact⟨_,_,_,_,(pr (y:=ad (bw (aw su (ae (.a (.a .e))) (af (.nat 0))) CF (ad (bw (aw jm (ae (.a (.a .e))) (af (.nat 0))) CG CH) aa)) aa)).1 (aQ (cV tg (bc p1 (bc p2 (aQ (aG (gf (ag rfl) aj))))))),J⟩
theorem Gd(h1:J3 z.P.sj)(h2:P3 z.P.sp)(T:TF z s0){ks rest:List (Qs×KV)}{x:Xo}{u:KV}(I:TI z s0 s ((q,v)::(ks++(.c x,u)::rest)))(hq:z.P.ex q=true)(hx:z.P.ex (.c x)=true){k:Ru}(a:z.P.act q z.w[pl]?=.rd k)(hk:((q,v)::ks).length=z.P.len k)(hl:(ks++(.c x,u)::rest).length≤900):
  ∃s' Hm' Ir' A' B' C',St c F6 (tE z Hm Ir A B C (.nat sn) (.nat pl)) s (tE z Hm' Ir' A' B' C' (.nat (sn+1)) (.nat pl)) s'∧TI z s0 s' ((.g x,z.P.tr k (((q,v)::ks).reverse.map (·.2)))::(.c x,u)::rest):=by
 have n1:1≤z.P.nu k:=by
  refine mn (c:=c) (Hm:=Hm) (Ir:=Ir) (A:=A) (B:=B) (C:=C) (sn:=sn) (pl:=pl) T I hq ?_;rintro rq n rs h1- - - -;have:=h1 z.w[pl]?;rw[a]at this;exact this.2
 have kl:ks.length≤900:=by rw[QT]at hl;lia
 have rl:rest.length+1≤900:=by rw[QT]at hl;exact QG (QU _ _) hl
 refine nh (c:=c) (Hm:=Hm) (Ir:=Ir) (A:=A) (B:=B) (C:=C) (sn:=sn) (pl:=pl) (w:=.neg (z.P.nu k-1)) T I hq (λrs h=>by rw[a]at h;exact h.1) rfl ?_;intro rq pr;refine ar T.l ?_;intro l1 l2;refine ei (l2 k (EO h1 h2 hq a)) ?_;intro sq nm ls m1 m2 m3;generalize pv (oZ z.w[pl]?) Hm=Hm1 at*;generalize pv (.ref rq) Ir=Ir1 at*;have ea:∀s B C,Ev c (dS (ae (.a (.a .e)))) (tE z Hm1 Ir1 (pv (.neg (z.P.nu k-1)) A) B C (.nat (sn+1)) (.nat pl)) s (.nat (z.P.nu k)) s:=λs B C=>by
  have h:Ev c (dS (ae (.a (.a .e)))) (tE z Hm1 Ir1 (pv (.neg (z.P.nu k-1)) A) B C (.nat (sn+1)) (.nat pl)) s (.nat (z.P.nu k-1+1)) s:=HQ (x:=ae (.a (.a .e))) (ag (bN _ _));rw[Nat.sub_add_cancel n1]at h;exact h
 have tn:=Jf (ag (c:=c) (s:=s) (q:=.a (.a .e)) (e:=tE z Hm1 Ir1 (pv (.neg (z.P.nu k-1)) A) B C (.nat (sn+1)) (.nat pl)) (bN _ _));have it:Iv c (aV (aD (aD (ae (.a .e)) (aW q9 (dS (ae (.a (.a .e)))) (af (.nat 1)))) (af (.nat 0)))) (tE z Hm1 Ir1 (pv (.neg (z.P.nu k-1)) A) (pv (.fl .nil) B) C (.nat (sn+1)) (.nat pl)) s (.list sq 0) s:=
  rG (rR (m:=0) (jo (ag (q:=.a .e) rfl) (HO (ea s _ _) aj n1) (I.kp _ _ l1) (by rw[dU];exact m1)) aj rfl) (I.kp _ _ m2)
 refine ei (xd (c:=c) (z:=z) (Hm:=Hm1) (Ir:=Ir1) (sn:=.nat (sn+1)) (pl:=.nat pl) m2 ((q,v)::ks) 0 lN [] (pv (.neg (z.P.nu k-1)) A) (pv (.fl .nil) B) C s (by rw[m3,hk];simp+arith) (by show ks.length+1<5000;lia) (by show 0+(ks.length+1)≤1000;lia) I (bN _ _)) ?_;intro s1 B1 C1 lp I1 hB;rw[RO]at hB;refine aH T.i ?_;intro n2 fs i1 i2 i3;refine aE T.g ?_;intro n3 es g1 g2;refine ei (g2 x hx) ?_;intro rq2 n4 rs2 b1 b2 b3;have hp:=I1.p;rw[tG]at hp;have p2:=qP (c:=c) (y:=aD (aD (ak (.i (.c .e)) (ae .e)) (aD (ae (.c .e)) (dS (af (.nat 1))))) (af cE)) (ag (q:=.c .e) (s:=s1) (e:=tE z Hm1 Ir1 (pv (.neg (z.P.nu k-1)) A) B1 C1 (.nat (sn+1)) (.nat pl)) rfl)
  (f7 (f7 (fy (ag (q:=.e) rfl) (I1.kp _ _ i1) i3) (ua (ag (q:=.c .e) rfl) hp) (I1.kp _ _ g1) rfl b1) aj (I1.kp _ _ b2) rfl b3) I1.p (by unfold qW;rw[SS,Ra];show rest.length+1≤_;exact QG rl (QU 900 4100))
 have p3:=qP (c:=c) (y:=ab (dS (ae (.a (.a .e)))) (ab (ae (.b (.a .e))) ao)) (ag (q:=.d .e) (s:=bD s1 z.pq (aF (qW z ((.c x,u)::rest)++[.nat (z.N (.g x))]))) (e:=tE z Hm1 Ir1 (pv (.neg (z.P.nu k-1)) A) B1 C1 (.nat (sn+1)) (.nat pl)) rfl) (ai (ea _ _ _) (ai (ag hB) aM)) ((bl I1.ne.symm).trans I1.v) (by unfold uI;rw[SS,Ra];show rest.length+1≤_;omega);have J:=I1.put2 ((.g x,z.P.tr k (((q,v)::ks).reverse.map (·.2)))::(.c x,u)::rest);rw[tG (.g x,z.P.tr k (((q,v)::ks).reverse.map (·.2))),yN (.g x,z.P.tr k (((q,v)::ks).reverse.map (·.2)))]at J;exact⟨_,_,_,_,_,_,(pr (y:=ad (bw (aw su (ae (.a (.a .e))) (af (.nat 0))) CF (ad (bw (aw jm (ae (.a (.a .e))) (af (.nat 0))) CG CH) aa)) aa)).1 (aQ (bk tn.1 (aQ (cV tn.2 (bc (aG (iS (vs:=.nil) aM (by decide))) (bc (qO it lp) (bc p2 (aQ p3)))))))),J⟩
end
end
section
section
variable{c:Cl}{s s0:KS}{z:BY}
theorem Gh{a b:Nat}{e:En}{x y:X}{s' s'':KS}(hx:Ev c x e s (.nat a) s')(hy:Ev c y e s' (.nat b) s'')(h:a≤b):Tc c (aw Li x y) e s true s'':=λt f q=>uP hx hy f t (by refine rwr (lZ h) ?_;exact q)
theorem CD(h1:J3 z.P.sj)(h2:P3 z.P.sp)(T:TF z s0){n:Nat}{st:List (Qs×KV)}{pl:Nat}{r:yC}(h:xz z.P z.w n st pl r):
  ∀(m sn:Nat)(Hm Ir A B C:Internal.T KV)(s:KS),n<m->sn+n≤3*z.w.length+3->(∀y∈st,z.P.ex y.1=true)->st.length+n≤900->TI z s0 s st->∃s',Lp c m (tE z Hm Ir A B C (.nat sn) (.nat pl)) s (rV r) s':=by
 have cnd:∀(sn pl:Nat)(Hm Ir A B C:Internal.T KV)(s:KS)(st:List (Qs×KV)),sn≤3*z.w.length+3->TI z s0 s st->Tc c yW (tE z Hm Ir A B C (.nat sn) (.nat pl)) s true s:=λsn pl Hm Ir A B C s st h I=>by
  have le:=jp (c:=c) (e:=tE z Hm Ir A B C (.nat sn) (.nat pl)) (c0:=1) (p:=.g .e) (ag (q:=.b .e) rfl) (I.kp _ _ T.w);rw[Ra]at le;exact Gh (ag (q:=.g .e) rfl) (gf (HS (a:=3) aj le (by decide)) aj) h
 induction h with
 |dead a=>
  intro m sn Hm Ir A B C s hm hs he hl I;cases m with
  |zero=>contradiction
  |succ m=>exact⟨s,AF (cnd _ _ _ _ _ _ _ _ _ hs I) (CE T I (he _ QF) a)⟩
 |ok a=>
  intro m sn Hm Ir A B C s hm hs he hl I;cases m with
  |zero=>contradiction
  |succ m=>exact⟨s,AF (cnd _ _ _ _ _ _ _ _ _ hs I) (Ge T I a)⟩
 |@sh n q q' v st pl r a _ ih=>
  intro m sn Hm Ir A B C s hm hs he hl I;have hl:st.length+1+(n+1)≤900:=hl;cases m with
  |zero=>cases hm
  |succ m=>
   refine uc (Gc (c:=c) (Hm:=Hm) (Ir:=Ir) (A:=A) (B:=B) (C:=C) (sn:=sn) T I (he _ QF) a (by lia)) ?_;intro s1 H1 I1 A1 st1 J;refine az (ih m (sn+1) H1 I1 A1 B C s1 (Sz hm) (by simp_all+arith) (λy hy=>?_) (by show st.length+1+1+n≤900;simp_all+arith) J) ?_
   ·rcases QH.mp hy with rfl|hy
    ·exact IB h1 h2 (he _ QF) a
    ·exact he y hy
   intro s2 lo;exact⟨s2,Fs (cnd _ _ _ _ _ _ _ _ _ (by lia) I) st1 lo⟩
 |@rd n q v k x u ks st pl r a l t _ ih=>
  intro m sn Hm Ir A B C s hm hs he hl I;have hx:z.P.ex (.c x)=true:=he (.c x,u) (QI _ (Ro _ QF));have hl:(ks++(.c x,u)::st).length+1+(n+1)≤900:=hl;have hl2:ks.length+(st.length+1)+1+(n+1)≤900:=by rw[QT]at hl;exact hl
  cases m with
  |zero=>cases hm
  |succ m=>
   refine Ki (Gd (c:=c) (Hm:=Hm) (Ir:=Ir) (A:=A) (B:=B) (C:=C) (sn:=sn) h1 h2 T I (he _ QF) hx a l (by omega)) ?_;intro s1 H1 I1 A1 B1 C1 st1 J;refine az (ih m (sn+1) H1 I1 A1 B1 C1 s1 (Sz hm) (by omega) (λy hy=>?_) (by show st.length+1+1+n≤900;omega) J) ?_
   ·rcases QH.mp hy with rfl|hy
    ·show z.P.ex (.g x)=true;cases x<;>exact hx
    ·exact he y (QI _ (Ro _ hy))
   intro s2 lo;exact⟨s2,Fs (cnd _ _ _ _ _ _ _ _ _ (by omega) I) st1 lo⟩
theorem CC{d n:Nat}{r:yC}(h1:J3 z.P.sj)(h2:P3 z.P.sp)(T:TF z s)(wf:Wf s)(h0:z.N (.c .o)=0)(hl:z.w.length≤100)(h:xz z.P z.w n [(.c .o,.none)] 0 r):
  ∃s',Ca (aL bn (d+1)) NJ (.cons (.ref z.tq) (.cons (.ref z.sq) (.cons (.ref z.wq) .nil))) s (rV r) s':=by
 have hb:=h.bound (Ry _);have hb:n≤2*(z.w.length-0)+1:=hb;have x1:Xt s (aR s (aF [.nat 0])):=.new wf;have n1:tg s.n (aR s (aF [.nat 0])).h=some (aF [.nat 0]):=cK;have a1:St (aL bn d) (av (t1 (.c .e)) (aK (ab (af (.nat 0)) ao))) (tp (.b .e) (.ref z.wq) (tp (.a .e) (.ref z.sq) (tp .e (.ref z.tq) .nil))) s (tp (.c .e) (.ref s.n) (tp (.b .e) (.ref z.wq) (tp (.a .e) (.ref z.sq) (tp .e (.ref z.tq) .nil)))) (aR s (aF [.nat 0])):=aG (cB (vs:=au [.nat 0]) (ai aj aM) (show 1≤100000 by decide));have f1:=wf.fresh;generalize aR s (aF [.nat 0])=s1 at*;have x2:Xt s1 (aR s1 (aF [.none])):=.new x1.wf;have n2:tg s1.n (aR s1 (aF [.none])).h=some (aF [.none]):=cK;have a2:St (aL bn d) (av (t1 (.d .e)) (aK (ab (af .none) ao))) (tp (.c .e) (.ref s.n) (tp (.b .e) (.ref z.wq) (tp (.a .e) (.ref z.sq) (tp .e (.ref z.tq) .nil)))) s1 (tp (.d .e) (.ref s1.n) (tp (.c .e) (.ref s.n) (tp (.b .e) (.ref z.wq) (tp (.a .e) (.ref z.sq) (tp .e (.ref z.tq) .nil))))) (aR s1 (aF [.none])):=aG (cB (vs:=au [.none]) (ai aj aM) (show 1≤100000 by decide));have f2:=x1.wf.fresh;generalize aR s1 (aF [.none])=s2 at*;have f20:tg s1.n s.h=none:=by cases e:tg s1.n s.h with|none=>rfl|some o=>exact uD ((x1.keep _ _ e).symm.trans f2)
 have I:TI {z with pq:=s.n,vq:=s1.n} s s2 [(.c .o,.none)]:=⟨x2.wf,(x1.trans x2).keep,by show tg s.n s2.h=some (aF [.nat (z.N (.c .o))]);refine rwr h0 ?_;exact x2.keep _ _ n1,n2,x1.wf.ne n1,f1,f20⟩
 refine az (CD (c:=aL bn d) (z:={z with pq:=s.n,vq:=s1.n}) h1 h2 ⟨T.i,T.a,T.g,T.l,T.w⟩ h lN 0 .nil .nil .nil .nil .nil s2 (by show n<5000;lia) (by show 0+n≤3*z.w.length+3;lia) (λy hy=>by cases RZ.mp hy;rfl) (by show 1+n≤900;lia) I) ?_;intro s3 lo;exact⟨s3,oG (e0:=tp (.b .e) (.ref z.wq) (tp (.a .e) (.ref z.sq) (tp .e (.ref z.tq) .nil))) LI rfl (λk h=>h) (bq a1 (bq a2 (bq (aG aj) (bq (aG aj) λF k hk=>lo F k hk))))⟩
end
end
section
open PySem PySem.W PyProof.Rows
section
def mi(p:Pa->Bool)(x:KV):Bool:=@KV.rec (λZ=>Bool) true (λZ=>true) (λZ=>true) (λZ=>true) (λZ=>true) true (λZ Z a b=>dn a b) p (λZ=>true) (λZ a=>a) x
def Kw(p:Pa->Bool)(d:KD):Bool:=@KD.rec (λZ=>Bool) true (λZ v Z r=>dn (mi p v) r) d
def xH{α:Type}(p:α->Bool)(t:T α):Bool:=@T.rec α (λZ=>Bool) true (λv Z Z Z Z Z Z Z Z a b c d f g h i=>dn (bQ v true p) (dn a (dn b (dn c (dn d (dn f (dn g (dn h i)))))))) t
def HL(x:KV):Bool:=@KV.rec (λZ=>Bool) true (λZ=>true) (λZ=>true) (λZ=>true) (λZ=>true) true (λZ Z a b=>dn a b) (λZ=>false) (λZ=>true) (λZ Z=>false) x
def xc(d:KD):Bool:=@KD.rec (λZ=>Bool) true (λZ v Z r=>dn (HL v) r) d
def BI(p:Pa->Bool)(o:KO):Bool:=@KO.rec (λzz=>Bool) (λzz xs=>mi p xs) (λzz es=>Kw p es) (λzz=>true) (λzz fs=>xH (mi p) fs) (λzz cs=>mi p cs) (λzz=>true) (λa m=>dn (xc a) (xc m)) o
end
theorem mr{α:Type}{p:α->Bool}{x:α}:∀{q:Pa}{t:T α},xH p t=true->tg q t=some x->p x=true:=by
 intro q;induction q with
 |e=>intro t h k;cases t with|nil=>exact cO k|nd v _ _ _ _ _ _ _ _=>have k:v=some x:=k;subst k;exact(aA h).1
 |a q ih=>intro t h k;cases t with|nil=>exact cO k|nd _ _ _ _ _ _ _ _ _=>exact ih (aA (aA h).2).1 k
 |b q ih=>intro t h k;cases t with|nil=>exact cO k|nd _ _ _ _ _ _ _ _ _=>exact ih (aA (aA (aA h).2).2).1 k
 |c q ih=>intro t h k;cases t with|nil=>exact cO k|nd _ _ _ _ _ _ _ _ _=>exact ih (aA (aA (aA (aA h).2).2).2).1 k
 |d q ih=>intro t h k;cases t with|nil=>exact cO k|nd _ _ _ _ _ _ _ _ _=>exact ih (aA (aA (aA (aA (aA h).2).2).2).2).1 k
 |f q ih=>intro t h k;cases t with|nil=>exact cO k|nd _ _ _ _ _ _ _ _ _=>exact ih (aA (aA (aA (aA (aA (aA h).2).2).2).2).2).1 k
 |g q ih=>intro t h k;cases t with|nil=>exact cO k|nd _ _ _ _ _ _ _ _ _=>exact ih (aA (aA (aA (aA (aA (aA (aA h).2).2).2).2).2).2).1 k
 |h q ih=>intro t h k;cases t with|nil=>exact cO k|nd _ _ _ _ _ _ _ _ _=>exact ih (aA (aA (aA (aA (aA (aA (aA (aA h).2).2).2).2).2).2).2).1 k
 |i q ih=>intro t h k;cases t with|nil=>exact cO k|nd _ _ _ _ _ _ _ _ _=>exact ih (aA (aA (aA (aA (aA (aA (aA (aA h).2).2).2).2).2).2).2).2 k
section
variable{tk:Nat->KV}{φ:Pa->Option Pa}{Z:Pa->KV->Prop}{p:Pa->Bool}{C:Cx}
theorem lO(hp:∀q,p q=true->φ q=some q):∀{x:KV},mi p x=true->VS tk φ Z x x:=by
 intro x;induction x with
 |cons x r i1 i2=>intro h;exact⟨x,r,rfl,i1 (aA h).1,i2 (aA h).2⟩
 |none=>exact λzz=>.inl rfl
 |nat=>exact λzz=>.inl rfl
 |neg=>exact λzz=>.inl rfl
 |str=>exact λzz=>.inl rfl
 |tok=>exact λzz=>.inl rfl
 |nil=>exact λzz=>rfl
 |bool=>exact λzz=>rfl
 |ref q=>exact λh=>⟨q,hp q h,rfl⟩
 |fl x ih=>exact λh=>⟨x,ih h,.inl rfl⟩
theorem Bq(hp:∀q,p q=true->φ q=some q):∀{es:KD},Kw p es=true->DS (VS tk φ Z) es es
 |.nil,_=>rfl
 |.cons a w r,h=>⟨w,r,rfl,lO hp (aA h).1,Bq hp (aA h).2⟩
theorem Ec:∀{x:KV},HL x=true->flat x=true:=by
 intro x;induction x with
 |cons x r i1 i2=>exact λh=>Rb.mpr ⟨i1 (aA h).1,i2 (aA h).2⟩
 |ref=>exact λh=>aO h
 |fl=>exact λh=>aO h
 |_=>exact λzz=>rfl
theorem iX:∀{es:KD},xc es=true->DA es
 |.nil,_=>trivial
 |.cons a w r,h=>⟨Ec (aA h).1,iX (aA h).2⟩
theorem ue{W:KV->KV->Prop}(hW:∀x,W x x):∀es:KD,DS W es es
 |.nil=>rfl
 |.cons a w r=>⟨w,r,rfl,hW w,ue hW r⟩
theorem Jx(hp:∀q,p q=true->φ q=some q){o:KO}(h:BI p o=true):OS C (VS tk φ Z) (λx y=>∀(R:Wd) w,VR C R y w->VR C R x w) o o:=by
 cases o with
 |list n xs=>exact⟨xs,rfl,lO hp h⟩
 |dict n es=>exact⟨es,rfl,Bq hp h⟩
 |set xs=>exact rfl
 |junk n=>exact rfl
 |clo q cs=>exact⟨cs,rfl,lO hp h⟩
 |inst c fs=>
  refine⟨fs,rfl,λq=>?_⟩;cases e:tg q fs with
  |none=>exact trivial
  |some x=>exact lO hp (mr (p:=mi p) h e)
 |pd a m=>exact⟨iX (aA h).1,iX (aA h).2,.inl ⟨a,m,rfl,ue (λY Y Y h=>h) a,ue (λY Y Y h=>h) m⟩⟩
theorem mR:∀{x:KV},flat x=true->mi p x=true:=by
 intro x;induction x with
 |cons x r i1 i2=>intro h;refine jB h ?_;intro h1 h2;show dn (mi p x) (mi p r)=true;refine rwr (i1 h1) (rwr (i2 h2) ?_);rfl
 |ref=>exact λh=>aO h
 |fl=>exact λh=>aO h
 |_=>exact λzz=>rfl
end
end
section
section
structure Sk where
 f:Nat
 p:Bool
 u:Bool
 j:Bool
 t:Nat
def Sk.rs(k:Sk):List R2:=(r4 k.f k.p k.u k.j).drop k.t++(r4 k.f k.p k.u k.j).take k.t
noncomputable def Cb(x:Nat):KV:=two (.tok (2*x+2)) (.tok (2*x+3))
noncomputable def JT(b:Bool)(x:KV)(n:Nat)(d:KD):KD:=bif b then .cons x (Cb n) d else d
noncomputable def Le(u j:Bool):KD:=JT u cU 4 (JT j cJ 2 .nil)
noncomputable def DB(u j:Bool):KD:=JT (!u) cU 4 (JT (!j) cJ 2 (.cons cI (Cb 0) (.cons eL (Cb 1) (.cons gA (Cb 3) .nil))))
noncomputable def Sk.pd(k:Sk):KO:=.pd (Le k.u k.j) (DB k.u k.j)
def Sk.o(k:Sk):Nat:=k.rs.length+3
def tP(k:Sk)(ws:List KV):List KO:=k.pd::aF ws::aF (iD 3 k.rs)::(k.rs.map λr=>aF r.1)++iJ k.o k.pd
def FA(k:Sk)(ws:List KV):KS:=⟨dy (tP k ws),cy (tP k ws).length⟩
noncomputable def Sk.hl(k:Sk):Bool:=!QB k.f 4
noncomputable def Sk.sj(k:Sk):Nat:=bif QB k.f 1 then 3 else bif QB k.f 3 then 4 else bif QB k.f 4 then 4 else 0
noncomputable def Sk.sp(k:Sk):Nat:=bif QB k.f 3 then 0 else bif QB k.f 1 then 2 else bif QB k.f 2 then 2 else 3
noncomputable def Ld(r:Ru):Nat:=match r with|.a=>0|.s=>1|.l=>2|.u=>3|.p=>4
def Pk(r:R2):Nat:=bif bU (r.1.headD .none) cE then 4 else bif bU (r.1.headD .none) cI then(bif QB r.1.length 2 then 1 else 2)else bif bU (r.1.headD .none) cJ then 3 else 0
noncomputable def O2(n:Nat):List Nat->Nat->Nat
 |[],_=>0
 |x::r,i=>bif QB x n then i else O2 n r (i+1)
def Sk.nu(k:Sk)(r:Ru):Nat:=O2 (Ld r) (k.rs.map Pk) 1
noncomputable def Sk.rx(k:Sk)(r:Ru):Nat:=match r with|.a=>0|.s=>bif k.u then 4 else 0|.l=>1|.u=>bif k.j then 2 else 1|.p=>3
def mf(o:Option KO):KD:=@Ua KO (λZ=>KD) .nil (λo=>@KO.rec (λZ=>KD) (λZ Z=>.nil) (λZ es=>es) (λZ=>.nil) (λZ Z=>.nil) (λZ Z=>.nil) (λZ=>.nil) (λZ Z=>.nil) o) o
def NH(v:Option KV):Pa:=@Ua KV (λZ=>Pa) .e (λv=>@KV.rec (λZ=>Pa) .e (λZ=>.e) (λZ=>.e) (λZ=>.e) (λZ=>.e) .e (λZ Z Z Z=>.e) (λq=>q) (λZ=>.e) (λZ Z=>.e) v) v
def lk(s:KS)(q:Pa)(n:Nat)(x:KV):Option KV:=dl (mf (tg (NH (dl (mf (tg q s.h)) (.nat n))) s.h)) x
def jI(v:Option KV):Nat:=@Ua KV (λZ=>Nat) 0 (λv=>@KV.rec (λZ=>Nat) 0 (λZ=>0) (λn=>n) (λZ=>0) (λZ=>0) 0 (λZ Z Z Z=>0) (λZ=>0) (λt=>Nat.mod (Nat.div (S9 t 12) 64) 64) (λZ Z=>0) v) v
def Fp(s:KS)(aq gq:Pa)(q:Qs):Nat:=match q with
 |.c .o=>0
 |.A=>jI (lk s aq 0 fR)
 |.c .i=>jI (lk s aq 0 cI)
 |.c .j=>jI (lk s aq 0 cJ)
 |.g .o=>jI (lk s gq 0 cE)
 |.g .i=>jI (lk s gq (jI (lk s aq 0 cI)) cE)
 |.g .j=>jI (lk s gq (jI (lk s aq 0 cJ)) cE)
 |.c .p=>jI (lk s aq (jI (lk s gq 0 cE)) gA)
 |.P=>jI (lk s aq (jI (lk s gq 0 cE)) gA)
 |.g .p=>jI (lk s gq (jI (lk s aq (jI (lk s gq 0 cE)) gA)) cE)
 |.c .l=>jI (lk s aq (jI (lk s gq (jI (lk s aq 0 cI)) cE)) eL)
 |.g .l=>jI (lk s gq (jI (lk s aq (jI (lk s gq (jI (lk s aq 0 cI)) cE)) eL)) cE)
 |.c .u=>jI (lk s aq (jI (lk s gq (jI (lk s aq 0 cJ)) cE)) eL)
 |.J=>jI (lk s aq (jI (lk s gq (jI (lk s aq 0 cJ)) cE)) eL)
 |.g .u=>jI (lk s gq (jI (lk s aq (jI (lk s gq (jI (lk s aq 0 cJ)) cE)) eL)) cE)
def JW(v:Option KV):Bool:=bQ v false (eF λzz=>true)
def iQ(o:Option KO):Bool:=bQ o false (Cd λZ Z=>true)
def row(s:KS)(q:Pa)(n:Nat):Bool:=dn (JW (dl (mf (tg q s.h)) (.nat n))) (iQ (tg (NH (dl (mf (tg q s.h)) (.nat n))) s.h))
def Ob(k:Sk)(N:Qs->Nat)(a:As)(v:Option KV):Bool:=match a with
 |.no=>bQ v true (ve true)
 |.sh q=>bQ v false (ig λn=>dn (QB n (N q)) (QJ 1 n))
 |.rd r=>bQ v false (Av zN λn=>QB (n+1) (k.nu r))
 |.ok=>bQ v false (ig λn=>QB n 0)
 |.cf r b q=>bQ v false (CJ λt=>dn (QB t (Bl (k.rx r) (bif b then 3 else 1) (N q) (k.nu r))) (dn (Nat.blt (N q) 64) (dn (Nat.blt (k.nu r) 64) (dn (QJ 1 (N q)) (QJ 1 (k.nu r))))))
def Hq{α:Type}(f:α->Bool)(l:List α):Bool:=@SK α (λZ=>Bool) true (λx Z r=>dn (f x) r) l
def FU(k:Sk)(s:KS)(aq:Pa)(N:Qs->Nat)(q:Qs):Bool:=dn (row s aq (N q)) (GG λm=>Ob k N (N7 k.hl k.sj k.sp q m) (lk s aq (N q) (oZ m)))
def Oa(s:KS)(gq:Pa)(N:Qs->Nat)(x:Xo):Bool:=dn (row s gq (N (.c x))) (bQ (lk s gq (N (.c x)) cE) false (ig λn=>QB n (N (.g x))))
def Pz(k:Sk)(s:KS)(aq gq:Pa)(N:Qs->Nat):Bool:=dn (G5 λx=>K6 (MP k.hl k.sj k.sp x) (dn (FU k s aq N (.c x)) (dn (FU k s aq N (.g x)) (Oa s gq N x))))
 (dn (FU k s aq N .A) (dn (K6 (QB k.sj 3) (FU k s aq N .J)) (K6 (QB k.sp 2) (FU k s aq N .P))))
def FR(k:Sk)(s:KS)(tq:Pa):Bool:=b9 tq s (kC λZ fs=>bQ (tg (.h (.c .e)) fs) false (eF λaq=>bQ (tg (.i (.c .e)) fs) false (eF λgq=>dn (iQ (tg aq s.h)) (dn (iQ (tg gq s.h)) (dn (Pz k s aq gq (Fp s aq gq))
 (bQ (tg (.a (.f .e)) fs) false (eF λq=>b9 q s (iI λn xs=>dn (QB n 0) (gS true (λZ Z=>false) xs)))))))))
def K4(v:Option KV)(x:Nat):Bool:=bQ v false (gS false λa r=>dn (CJ (λt=>QB t (2*x+2)) a) (gS false (λb r=>dn (CJ (λt=>QB t (2*x+3)) b) (gS true (λZ Z=>false) r)) r))
def JY(v:Option KV)(n:Nat):Bool:=bQ v false (ig λm=>QB m n)
noncomputable def DO(sj sp:Nat)(r:Ru):Nat:=match r with|.a=>1|.s=>2|.l=>4|.u=>sj|.p=>sp
def FV(k:Sk)(s:KS)(v:KV):Bool:=gS false (λv1 r=>gS false (λv2 r=>gS false (λv3 r=>gS false (λv4 r=>dn (gS true (λZ Z=>false) r) (eF (λq1=>eF (λq2=>eF (λq3=>eF (λq4=>
 dn (iQ (tg q1 s.h)) (dn (iQ (tg q2 s.h)) (dn (iQ (tg q3 s.h)) (dn (iQ (tg q4 s.h)) (dn (K4 (dl (mf (tg q1 s.h)) eL) 1) (dn (K4 (dl (mf (tg q1 s.h)) gA) 3)
 (xY (λr=>bif o9 k.hl k.sj k.sp r then dn (JY (dl (mf (tg q2 s.h)) (sk r)) (k.nu r)) (dn (bif QB (Ld r) 0 then true else K4 (dl (mf (tg q3 s.h)) (sk r)) (k.rx r)) (JY (dl (mf (tg q4 s.h)) (sk r)) (DO k.sj k.sp r)))else bQ (dl (mf (tg q2 s.h)) (sk r)) true (λZ=>false))))))))) v4) v3) v2) v1)) r) r) r) v
def LN(x:KV):Bool:=@KV.rec (λZ=>Bool) false (λZ=>false) (λZ=>false) (λZ=>false) (λZ=>true) true (λZ Z a b=>dn a b) (λZ=>false) (λZ=>false) (λZ Z=>false) x
def Ky(k:Sk):Bool:=dn (Hq (λr=>dn (LN (au r.1)) (LN r.2)) k.rs) (xY (λr=>bif o9 k.hl k.sj k.sp r then dn (QJ (k.nu r) k.rs.length) (dn (QJ 1 (k.nu r)) (QB ((k.rs.map λx=>x.1.length).getD (k.nu r-1) 0) (DO k.sj k.sp r)))else true))
def here(s:KS)(q:Pa):Bool:=bQ (tg q s.h) false λzz=>true
def Qx(k:Sk)(en:En)(s:KS)(v:KV):Bool:=dn (bQ (tg (.b (.a .e)) en) false (eF (FR k s))) (dn (FV k s v) (dn (Ky k) (xH (BI (here s)) (tp (cy 1) (.set .nil) s.h))))
def pE(q:Pa):Bool:=@Pa.rec (λZ=>Bool) true (λZ Z=>false) (λZ Z=>false) (λZ Z=>false) (λZ Z=>false) (λZ Z=>false) (λZ Z=>false) (λZ Z=>false) (λZ Z=>false) q
def NO(q:Pa):Bool:=@Pa.rec (λZ=>Bool) false (λq Z=>pE q) (λZ Z=>false) (λZ Z=>false) (λZ Z=>false) (λZ Z=>false) (λZ Z=>false) (λZ Z=>false) (λZ Z=>false) q
def NN(q:Pa):Bool:=@Pa.rec (λZ=>Bool) false (λZ Z=>false) (λq Z=>pE q) (λZ Z=>false) (λZ Z=>false) (λZ Z=>false) (λZ Z=>false) (λZ Z=>false) (λZ Z=>false) q
def Kz(en:En):Bool:=dn (bQ (tg (.d .e) en) false (eF NO)) (bQ (tg (.f .e) en) false (eF NN))
abbrev Kf:=List (Option KO)->Bool
def HV(k:Sk)(k':Kf)(en:En)(s:KS):Bool:=dn (Kz en) (Cy jA en (λs' v=>dn (Qx k en s' v) (k' ((Tw k.o).map λi=>tg (cy i) s'.h))) s)
def Jn(k:Sk)(ws:List KV)(k':Kf):Bool:=Lx jA vp (HV k k') (yA k.f k.o) (FA k ws)
end
end
section
section
noncomputable def bs:List Bool:=[false,true]
noncomputable def qS(f:Nat)(p:Bool):List Sk:=match f with
 |0=>bs.flatMap λu=>(Tw 4).map λt=>⟨0,p,u,false,t⟩
 |1=>bs.flatMap λu=>bs.flatMap λj=>(Tw 5).map λt=>⟨1,p,u,j,t⟩
 |2=>bs.flatMap λu=>(Tw 4).map λt=>⟨2,p,u,false,t⟩
 |3=>bs.flatMap λu=>bs.flatMap λj=>(Tw 4).map λt=>⟨3,p,u,j,t⟩
 |_=>bs.flatMap λu=>bs.flatMap λj=>(Tw 4).map λt=>⟨4,p,u,j,t⟩
def Jo(ws:List KV)(k':Kf)(k:Sk):Bool:=k' (((tP k ws).take k.o).map some)
def gD(l:List Sk):Prop:=∀(ws:List KV)(k':Kf),l.map (λk=>Jn k ws k')=l.map (Jo ws k')
end
end
section
open PySem PySem.W PyProof.Rows
section
section
noncomputable def fH:KD->Nat
 |.nil=>0
 |.cons _ _ r=>fH r+1
def Cs:KD->Prop
 |.nil=>True
 |.cons a b r=>pk a=true∧dl r a=none∧(∃w l,b=two w (.nat l)∧(w=ju∨w=iA∨w=j0))∧Cs r
def Dj(pre:KD):KD->Prop
 |.nil=>True
 |.cons a _ r=>dl pre a=none∧Dj pre r
def NB:Y:=ad (aY (bH 4 (.i (.a .e)) (ae (.g .e)) (ab (ae (.h .e)) (ab (aD (aD (ae (.c .e)) (ae (.h .e))) (af (.nat 0))) (ab (aD (aD (ae (.c .e)) (ae (.h .e))) (af (.nat 1))) ao))))) aa
end
theorem nH{x:KV}:∀{nms:List KV}{ds:List Nat},x∉nms->dl (d6 nms ds) x=none
 |[],_,_=>rfl
 |c::r,ds,h=>by
  have h1:=nH (x:=x) (ds:=ds.tail) λz=>h (QI c z);show dl (match rk (ds.headD 0)with|none=>d6 r ds.tail|some v=>.cons c v (d6 r ds.tail)) x=none;cases rk (ds.headD 0)with
  |none=>exact h1
  |some v=>
   show@RJ (λzz=>Option KV) (dl (d6 r ds.tail) x) (.some v) (bU c x)=none;cases e:bU c x with
   |true=>exact absurd (gw e▸QF) h
   |false=>exact h1
theorem tB:∀{nms:List KV}{ds:List Nat},nms.Nodup->(∀x∈nms,pk x=true)->Cs (d6 nms ds)
 |[],_,_,_=>trivial
 |c::r,ds,nd,h=>by
  refine JF nd ?_;intro n1 n2;have ih:=tB (ds:=ds.tail) n2 λx hx=>h x (QI _ hx);show Cs (match rk (ds.headD 0)with|none=>d6 r ds.tail|some v=>.cons c v (d6 r ds.tail));cases e:rk (ds.headD 0)with
  |none=>exact ih
  |some v=>
   refine⟨h c QF,nH n1,?_,ih⟩;unfold rk at e
   split at e
   ·exact cO e
   ·refine⟨_,_,(QN e).symm,?_⟩;have m1:ds.headD 0/4%3<3:=T6 _ (by decide);generalize ds.headD 0/4%3=m at*;exact DI (P:=λm=>kY.getD m .none=ju∨kY.getD m .none=iA∨kY.getD m .none=j0) (.inl rfl) (.inr (.inr rfl)) (.inr (.inl rfl)) m1
theorem Az{a b:KV}{r:KD}:∀pre:KD,Ce (fH pre) (lK pre (.cons a b r))=some (.mk a b)
 |.nil=>rfl
 |.cons _ _ p=>Az p
theorem wO:∀pre:KD,Ce (fH pre) pre=none
 |.nil=>rfl
 |.cons _ _ p=>wO p
theorem Bs{a b:KV}{r:KD}(ha:pk a=true):∀pre:KD,dl pre a=none->dl (lK pre (.cons a b r)) a=some b
 |.nil,_=>by
  show@RJ (λzz=>Option KV) (dl r a) (.some b) (bU a a)=some b;exact rwr (kJ a (n:=5) (gO a ha)) rfl
 |.cons x y p,h=>by
  have h:@RJ (λzz=>Option KV) (dl p a) (.some y) (bU x a)=none:=h;show@RJ (λzz=>Option KV) (dl (lK p (.cons a b r)) a) (.some y) (bU x a)=some b;cases e:bU x a with
  |true=>rw[e]at h;exact uD h
  |false=>rw[e]at h;exact Bs ha p h
theorem wT:∀pre d:KD,fH (lK pre d)=fH pre+fH d
 |.nil,d=>(TA _).symm
 |.cons _ _ p,d=>by show fH (lK p d)+1=fH p+1+fH d;refine rwr (wT p d) ?_;simp+arith
theorem Dj.step{a b:KV}{pre:KD}:∀{r:KD},dl r a=none->Dj pre r->Dj (lK pre (.cons a b .nil)) r
 |.nil,_,_=>trivial
 |.cons x y r,h,k=>by
  have h:@RJ (λzz=>Option KV) (dl r a) (.some y) (bU x a)=none:=h;cases e:bU x a with
  |true=>rw[e]at h;exact uD h
  |false=>
   rw[e]at h;refine⟨Bt k.1 ?_,Dj.step h k.2⟩;show@RJ (λzz=>Option KV) none (.some b) (bU a x)=none;cases e2:bU a x with
   |true=>cases gw e2;rw[e2]at e;exact absurd e (by intro z;exact p7 z)
   |false=>rfl
section
variable{g qr qp qv:Pa}{fs:T KV}{n:Nat}{es:KD}
theorem wj(f1:tg (.c (.b .e)) fs=some (.ref qp))(f2:tg (.b (.c .e)) fs=some (.ref qv))(hrv:qr≠qv)(hgv:g≠qv)(hpv:qp≠qv):∀(suf pre:KD)(m:Nat)(e:En)(s:KS),es=lK pre suf->fH suf<m->fH pre+fH suf≤50->Dj pre suf->Cs suf->Wf s->tg (.g .e) e=some (.ref g)->tg (.c .e) e=some (.ref qr)->tg g s.h=some (.inst 4 fs)->tg qp s.h=some (aF [.none])->tg qr s.h=some (.dict n es)->tg qv s.h=some (.dict (fH pre) pre)->
  ∃e' s',G2 jA (t1 (.h .e)) NB aa m (.dict qr (fH pre) n) e s e' s'∧Wf s'∧tg qv s'.h=some (.dict (fH es) es)∧(∀q o,q≠qv->tg q s.h=some o->tg q s'.h=some o)∧∀q x,q≠.h .e->tg q e=some x->tg q e'=some x
 |_,_,0,_,_,_,h,_,_,_,_,_,_,_,_,_,_=>by cases h
 |.nil,pre,m+1,e,s,he,_,_,_,_,wf,eg,ec,hg,hp,hr,hv=>by
  rw[s9]at he;subst he;exact⟨e,s,rB (DF hr (wO _)) br,wf,hv,λZ Z Z h=>h,λZ Z Z h=>h⟩
 |.cons a b r,pre,m+1,e,s,he,hm,hl,dj,ro,wf,eg,ec,hg,hp,hr,hv=>by
  refine lW ro ?_;intro r1 r2 zq r4;refine aE zq ?_;clear zq;rintro w l rfl hw;have hl:fH pre+(fH r+1)≤50:=hl;have hd:dl es a=some (two w (.nat l)):=by refine rwr he ?_;exact Bs r1 pre dj.1
  have hw1:pk w=true:=by rcases hw with rfl|rfl|rfl<;>rfl
  have hw2:gH [ju,j0,iA] w=true:=by rcases hw with rfl|rfl|rfl<;>rfl
  refine cZ (Dm (d:=59) (nm:=a) (wy:=w) (lv:=.nat l) wf hg f1 f2 hp hv (by lia) r1 hw1 hw2 dj.1) ?_;intro s1 ca wf1 hv1 k1;have eg1:tg (.g .e) (tp (.h .e) a e)=some (.ref g):=(am _ (gU rfl)).trans eg;have ec1:tg (.c .e) (tp (.h .e) a e)=some (.ref qr):=(am _ (gU rfl)).trans ec;have eh1:tg (.h .e) (tp (.h .e) a e)=some a:=aS _ _ _;have keep:∀q x,q≠.h .e->tg q e=some x->tg q (tp (.h .e) a e)=some x:=λq x h k=>(am _ h).trans k;have sd:Ev jA (aD (ae (.c .e)) (ae (.h .e))) (tp (.h .e) a e) s (two w (.nat l)) s:=f7 (ag ec1) (ag eh1) hr r1 hd;have st:St jA NB (tp (.h .e) a e) s (tp (.h .e) a e) s1:=aQ (fO (Bh (a:=.nil) (ag eg1) hg (ai (ag eh1) (ai (rR (m:=0) sd aj rfl) (ai (rR (m:=1) sd aj rfl) aM))) ca));have e1:dset pre a (two w (.nat l))=lK pre (.cons a (two w (.nat l)) .nil):=rT dj.1;have e2:fH (lK pre (.cons a (two w (.nat l)) .nil))=fH pre+1:=wT _ _;rw[e1,←e2]at hv1;generalize hE:tp (.h .e) a e=e' at*;refine qj (wj f1 f2 hrv hgv hpv r (lK pre (.cons a (two w (.nat l)) .nil)) m e' s1 (by rw[he,BP];rfl) (Sz hm) (by rw[e2];lia) (.step r2 dj.2) r4 wf1 eg1 ec1 (k1 _ _ hgv hg) (k1 _ _ hpv hp) (k1 _ _ hrv hr) hv1) ?_;intro e2' s2 lp wf2 hv2 k2 ke;rw[e2]at lp;exact⟨e2',s2,mH (DG hr (by refine rwr he ?_;exact Az pre)) (λk h=>by show k (tp (.h .e) a e)=true;refine rwr hE ?_;exact h) st lp,wf2,hv2,λq o h z=>k2 q o h (k1 q o h z),λq x h z=>ke q x h (keep q x h z)⟩
end
section
def KR(C:Cx)(es:KD):Prop:=∀i x,gX[i]?=some x->(∃w l,dl es x=some (two w (.nat l))∧pl w=true∧C.tk (2*i)=w∧C.tk (2*i+1)=.nat l)∨(dl es x=none∧C.tk (2*i)=j0∧C.tk (2*i+1)=.nat 0)
end
section
variable{C:Cx}{es:KD}
theorem F3{i l:Nat}{w:KV}(h1:C.tk (2*i)=w)(h2:C.tk (2*i+1)=.nat l)(hw:pl w=true)(R:Wd)(v:QD)(h:VR C R (two w (.nat l)) v):VR C R (Cb i) v:=by
 have t1:∀u,VR C R w u->VR C R (.tok (2*i+2)) u:=λu h=>by show pP u (C.tk (2*i));refine rwr h1 ?_;exact(qY hw).mp h
 have t2:∀u,VR C R (.nat l) u->VR C R (.tok (2*i+3)) u:=λu h=>by show pP u (C.tk (2*i+1));refine rwr h2 ?_;exact h
 exact(n9 rfl t1 (n9 rfl t2 λzz h=>h).2).1 v h
theorem Jt{u j:Bool}(T:KR C es)(hn:∀x,x∉gX->dl es x=none)(hu:u=true->(dl es cU).isSome=true)(hj:j=true->(dl es cJ).isSome=true):Pd C (Le u j) (DB u j) es:=λx hx=>by
 have key:∀i y,gX[i]?=some y->((∃u,dl es y=some u∧∀(R:Wd) w,VR C R u w->VR C R (Cb i) w)∨dl es y=none∧∀(R:Wd) w,VR C R dflt w->VR C R (Cb i) w):=λi y h=>by
  rcases T i y h with zq|zq
  ·refine d9 zq ?_;clear zq;intro w l h1 h2 h3 h4;exact .inl ⟨_,h1,λR v k=>F3 h3 h4 h2 R v k⟩
  ·refine b0 zq ?_;clear zq;intro h1 h2 h3;exact .inr ⟨h1,λR v k=>F3 h2 h3 rfl R v k⟩
 have must:∀i y,gX[i]?=some y->(dl es y).isSome=true->∃u,dl es y=some u∧∀(R:Wd) w,VR C R u w->VR C R (Cb i) w:=λi y h k=>by
  rcases key i y h with h|zq
  ·exact h
  ·refine ar zq ?_;clear zq;intro h _;rw[h]at k;exact aO k
 by_cases h:x∈gX
 ·have h:x=cI∨x=eL∨x=cJ∨x=gA∨x=cU:=(QH.mp h).imp_right λh=>(QH.mp h).imp_right λh=>(QH.mp h).imp_right λh=>(QH.mp h).imp_right RZ.mp;rcases h with rfl|rfl|rfl|rfl|rfl
  ·cases u<;>cases j<;>exact key 0 _ rfl
  ·cases u<;>cases j<;>exact key 1 _ rfl
  ·cases j with
   |true=>cases u<;>exact must 2 _ rfl (hj rfl)
   |false=>cases u<;>exact key 2 _ rfl
  ·cases u<;>cases j<;>exact key 3 _ rfl
  ·cases u with
   |true=>cases j<;>exact must 4 _ rfl (hu rfl)
   |false=>cases j<;>exact key 4 _ rfl
 ·have a0:∀y∈gX,bU y x=false:=λy hy=>by cases e:bU y x with|true=>exact absurd (gw e▸hy) h|false=>rfl
  have aU:bU cU x=false:=a0 _ (.tail _ (.tail _ (.tail _ (.tail _ (.head _)))));have aJ:bU cJ x=false:=a0 _ (.tail _ (.tail _ (.head _)));have c0:∀{y:KV}{v:KV}{d:KD},bU y x=false->dl d x=none->dl (.cons y v d) x=none:=λ{y v d} hy h=>by
   show@RJ (λzz=>Option KV) (dl d x) (.some _) (bU y x)=none;refine rwr hy ?_;exact h
  have c:∀{b:Bool}{y:KV}{n:Nat}{d:KD},bU y x=false->dl d x=none->dl (JT b y n d) x=none:=λ{b y n d} hy h=>by
   cases b with
   |false=>exact h
   |true=>exact c0 hy h
  refine rwr (show dl (Le u j) x=none from c aU (c aJ rfl)) (rwr (show dl (DB u j) x=none from c aU (c aJ (c0 (a0 _ (.head _)) (c0 (a0 _ (.tail _ (.head _))) (c0 (a0 _ (.tail _ (.tail _ (.tail _ (.head _))))) rfl))))) ?_);exact hn x h
end
end
section
section
def jD(pd:KO)(ws:List KV)(rs:List R2):List KO:=pd::aF ws::aF (iD 3 rs)::(rs.map λr=>aF r.1)++iJ (rs.length+3) pd
def BV(L:Nat):List Pa:=(Tw L).map cy
def qe(L:Nat)(q:Pa):Bool:=bQ (tg q (dy (BV L))) false λzz=>true
end
theorem qM{α:Type}(l:List α)(i:Nat):tg (cy i) (dy l)=l[i]?:=by classical rw[dJ,eY,if_pos rfl]
theorem mv{i j:Nat}(h:cy i=cy j):i=j:=by have:=congrArg bB h;rw[eY,eY]at this;exact this
theorem BU{L i:Nat}{a:Pa}(h:(BV L)[i]?=some a):a=cy i∧i<L:=by
 unfold BV at h;rw[Rj]at h;refine wM h ?_;clear h;rintro j h1 rfl;refine az (Rc.mp h1) ?_;intro h2 h3;rw[List.getElem_range]at h3;rw[List.length_range]at h2;exact⟨by exact rwr h3 rfl,h2⟩
theorem AX{L:Nat}{q:Pa}(h:qe L q=true):tg q (dy (BV L))=some q:=by
 classical
 unfold qe at h;cases e:tg q (dy (BV L))with
 |none=>rw[e]at h;exact aO h
 |some a=>
  rw[dJ]at e
  split at e
  ·rename_i hq;exact rwr ((BU e).1) (rwl hq rfl)
  ·exact cO e
theorem IA(L:Nat):(BV L).Nodup:=by
 unfold BV;exact List.Pairwise.map cy (λa b h z=>h (mv z)) List.nodup_range
section
variable{C:Cx}{es:KD}{n f:Nat}{ws:List KV}{rs:List R2}{e:En}{s:KS}{a m:KD}
theorem MY(hl:rs.length=4∨rs.length=5)(hf:∀r∈rs,Rf r)(hw:j9 ws)(da:xc a=true)(dm:xc m=true)(hP:Pd C a m es)
  (hv:tg (cy (rs.length+3+15)) s.h=some (.dict (fH es) es)) (hk:∀q o,q≠cy (rs.length+3+15)->tg q (lT (rs.length+3) n es ws rs).h=some o->tg q s.h=some o) (he:∀q x,q≠.h .e->tg q (yA f (rs.length+3))=some x->tg q e=some x):
  yx C e s (yA f (rs.length+3)) ⟨dy (jD (.pd a m) ws rs),cy (jD (.pd a m) ws rs).length⟩:=by
 have len:(jD (.pd a m) ws rs).length=rs.length+20:=by
  unfold jD;rw[QT,S4,S4,S4,Ra];show rs.length+1+1+1+17=_;rfl
 have eq:jD (.pd a m) ws rs=((jT n es ws rs++iJ (rs.length+3) (.dict 0 .nil)).set 0 (.pd a m)).set (rs.length+3+15) (.pd a m):=by
  exact NV (P:=λrs=>jD (.pd a m) ws rs=((jT n es ws rs++iJ (rs.length+3) (.dict 0 .nil)).set 0 (.pd a m)).set (rs.length+3+15) (.pd a m)) (λZ Z Z Z=>rfl) (λZ Z Z Z Z=>rfl) hl
 have cl:∀o∈jD (.pd a m) ws rs,BI (qe (rs.length+20)) o=true:=by
  have c1:BI (qe (rs.length+20)) (.pd a m)=true:=by show dn (xc a) (xc m)=true;rw[da,dm];rfl
  have c2:BI (qe (rs.length+20)) (aF ws)=true:=mR (i0 λx hx=>(hw x hx).flat);have c3:∀r∈rs,BI (qe (rs.length+20)) (aF r.1)=true:=λr hr=>mR (hf r hr).1;have c4:∀r∈rs,mi (qe (rs.length+20)) r.2=true:=λr hr=>mR (hf r hr).2;have c5:∀o∈iJ (rs.length+3) (.pd a m),BI (qe (rs.length+20)) o=true:=by
   have c6:∀o∈iJ (rs.length+3) (.set .nil),BI (qe (rs.length+20)) o=true:=by
    have:∀L:Nat,L=4∨L=5->∀o∈iJ (L+3) (.set .nil),BI (qe (L+20)) o=true:=by
     rintro L (rfl|rfl)<;>exact Rl.mp (by kernel_rfl)
    exact this _ hl
   intro o ho;have ho:o∈(iJ (rs.length+3) (.set .nil)).take 15++[.pd a m,.set .nil]:=ho;rcases RG.mp ho with ho|ho
   ·exact c6 o (Ub ho)
   ·rcases QH.mp ho with rfl|ho
    ·exact c1
    ·cases RZ.mp ho;rfl
  intro o ho;rcases RG.mp ho with ho|ho
  ·rcases QH.mp ho with rfl|ho
   ·exact c1
   ·rcases QH.mp ho with rfl|ho
    ·exact c2
    ·rcases QH.mp ho with rfl|ho
     ·show mi _ (au (iD 3 rs))=true;have tc:∀(l:List R2)(k:Nat),k+l.length≤rs.length+20->(∀r∈l,mi (qe (rs.length+20)) r.2=true)->mi (qe (rs.length+20)) (au (iD k l))=true:=by
       intro l;induction l with
       |nil=>intro _ _ _;rfl
       |cons r l ih=>
        intro k hk h;have i1:qe (rs.length+20) (cy k)=true:=by
         have:tg (cy k) (dy (BV (rs.length+20)))=some (cy k):=by
          rw[tH];unfold BV;rw[Rj,List.getElem?_range (by have:k+(l.length+1)≤rs.length+20:=hk;lia)];rfl
         unfold qe;rw[this];rfl
        show dn (dn (qe (rs.length+20) (cy k)) (dn (mi _ r.2) true)) (mi _ (au (iD (k+1) l)))=true;rw[i1,h r QF,ih (k+1) (by have:k+(l.length+1)≤_:=hk;simp_all+arith) λr hr=>h r (QI _ hr)];rfl
      exact tc rs 3 (by simp+arith) c4
     ·refine nR ho ?_;rintro r hr rfl;exact c3 r hr
  ·exact c5 o ho
 have K:=um (C:=C) (s:=s) (objs:=jD (.pd a m) ws rs) (as:=BV (rs.length+20)) (IA _) (by unfold BV;rw[Ra,List.length_range,len]) λi o q ho hq=>?_
 ·refine⟨_,_,K,λq x hx=>?_⟩;have ne:q≠.h .e:=λz=>by subst z;exact cO hx
  refine⟨x,he q x ne hx,?_⟩;have tl:xH (mi (qe (rs.length+20))) (yA f (rs.length+3))=true:=by
   have:∀L:Nat,L=4∨L=5->xH (mi (qe (L+20))) (yA f (L+3))=true:=by rintro L (rfl|rfl)<;>kernel_rfl
   exact this _ hl
  exact lO (λq h=>AX h) (mr tl hx)
 ·refine ar (BU hq) ?_;clear hq;rintro rfl hi;have co:=cl o (Rq ho);have old:∀(j:Nat),j≠rs.length+3+15->(jT n es ws rs++iJ (rs.length+3) (.dict 0 .nil))[j]?=some o->tg (cy j) s.h=some o:=λj hj h=>hk _ _ (λz=>hj (mv z)) ((qM (jT n es ws rs++iJ (rs.length+3) (.dict 0 .nil)) j).trans h);by_cases h0:i=0
  ·subst h0;cases QN ho;exact⟨_,hk _ _ (λz=>by have:=mv z;simp_all+arith) ((qM (jT n es ws rs++iJ (rs.length+3) (.dict 0 .nil)) 0).trans rfl),iX da,iX dm,.inr ⟨_,_,rfl,hP⟩⟩
  ·by_cases h1:i=rs.length+3+15
   ·have e1:o=.pd a m:=by
     rw[eq,h1,List.getElem?_set_self (by refine rwr List.length_set ?_;have:=len;rw[eq,List.length_set,List.length_set]at this;omega)]at ho;exact(QN ho).symm
    subst e1;refine rwr h1 ?_;exact⟨_,hv,iX da,iX dm,.inr ⟨_,_,rfl,hP⟩⟩
   ·rw[eq,List.getElem?_set_ne (λz=>h1 z.symm),List.getElem?_set_ne (λz=>h0 z.symm)]at ho;exact⟨o,old i h1 ho,Jx (λq h=>AX h) co⟩
end
end
section
theorem o4:∀(nms:List KV)(ds:List Nat),fH (d6 nms ds)≤nms.length
 |[],_=>QZ _
 |c::r,ds=>by
  show fH (match rk (ds.headD 0)with|none=>d6 r ds.tail|some v=>.cons c v (d6 r ds.tail))≤r.length+1;have:=o4 r ds.tail;cases rk (ds.headD 0)with
  |none=>exact Tf this
  |some v=>exact RV this
theorem Bu:∀es:KD,Dj .nil es
 |.nil=>trivial
 |.cons a b r=>⟨rfl,Bu r⟩
theorem MM{f n:Nat}{es:KD}{ws:List KV}{rs:List R2}(hl:rs.length=4∨rs.length=5)(K:En->KS->Bool):IF jA vp K (El f) (lU n es ws rs)=K (yA f (rs.length+3)) (lT (rs.length+3) n es ws rs):=by
 exact NV (P:=λrs=>IF jA vp K (El f) (lU n es ws rs)=K (yA f (rs.length+3)) (lT (rs.length+3) n es ws rs)) (Kc K f n es ws) (Ka K f n es ws) hl
section
variable{C:Cx}{es:KD}{n f:Nat}{ws:List KV}{rs:List R2}{a m:KD}
open Classical in
theorem OF(hl:rs.length=4∨rs.length=5)(hf:∀r∈rs,Rf r)(hw:j9 ws)(da:xc a=true)(dm:xc m=true)(hP:Pd C a m es)(hk:fH es≤5)(ro:Cs es){T:En->KS->Prop}
  (hT:∀en s,yx C en s (yA f (rs.length+3)) ⟨dy (jD (.pd a m) ws rs),cy (jD (.pd a m) ws rs).length⟩->T en s):BZ yB T (El f) (lU n es ws rs):=by
 refine⟨λen s=>decide (T en s),λen s Z h=>of_decide_eq_true h,?_⟩;show IF jA vp (Nl jA vp (aa jA vp λen s=>decide (T en s))) (El f) (lU n es ws rs)=true;rw[MM hl];have at_:∀i o,(jT n es ws rs++iJ (rs.length+3) (.dict 0 .nil))[i]?=some o->tg (cy i) (lT (rs.length+3) n es ws rs).h=some o:=λi o h=>(qM _ i).trans h;have ix:∀i,(jT n es ws rs++iJ (rs.length+3) (.dict 0 .nil))[rs.length+3+i]?=(iJ (rs.length+3) (.dict 0 .nil))[i]?:=λi=>by
  have:(jT n es ws rs).length=rs.length+3:=by unfold jT;simp
  rw[Th (by simp_all+arith),this,Sv]
 have wf:Wf (lT (rs.length+3) n es ws rs):=⟨_,rfl,λi hi=>(qM _ i).trans (RU hi)⟩
 have ne:∀i j,i≠j->cy i≠cy j:=λi j h z=>h (mv z);have hr:=at_ 0 (.dict n es) rfl;refine qj (wj (g:=cy (rs.length+3+1)) (qr:=cy 0) (qp:=cy (rs.length+3+2)) (qv:=cy (rs.length+3+15)) (fs:=K5 (rs.length+3)) (n:=n) (es:=es) rfl rfl (ne _ _ (by exact ne_of_beq_false rfl)) (ne _ _ (by simp+arith)) (ne _ _ (by simp+arith)) es .nil lN (yA f (rs.length+3)) (lT (rs.length+3) n es ws rs) rfl (by show fH es<5000;exact Rp hk (QU (QR 5) 4994)) (by show 0+fH es≤50;lia) (Bu es) ro wf rfl rfl (at_ _ _ ((ix 1).trans rfl)) (at_ _ _ ((ix 2).trans rfl)) hr (at_ _ _ ((ix 15).trans rfl))) ?_;intro e' s' lp wf' hv k ke;exact qO (E4 (ag (q:=.c .e) rfl) hr) lp _ _ (decide_eq_true (hT e' s' (MY hl hf hw da dm hP hv k ke)))
end
theorem Ji(h:Nat)(es:KD):∃(k:Sk)(p:Bool),k∈qS (h%5) p∧(QB (h%5) 4=true->p=false)∧k.rs=jN h es∧k.f=h%5∧(k.u=true->(dl es cU).isSome=true)∧(k.j=true->(dl es cJ).isSome=true):=by
 have hb:∀b:Bool,b∈bs:=λb=>by cases b<;>decide
 have m4:h/40%4<4:=T6 _ (by decide);have m5:h/40%5<5:=T6 _ (by decide);have key:∀(p u j:Bool),(u=true->(dl es cU).isSome=true)->(j=true->(dl es cJ).isSome=true)->∀f,f<5->∃(k:Sk)(p':Bool),k∈qS f p'∧(QB f 4=true->p'=false)∧k.rs=(r4 f p u j).drop (h/40%(r4 f p u j).length)++(r4 f p u j).take (h/40%(r4 f p u j).length)∧k.f=f∧(k.u=true->(dl es cU).isSome=true)∧(k.j=true->(dl es cJ).isSome=true):=λp u j hu hj f=>y6
  (P:=λf=>∃(k:Sk)(p':Bool),k∈qS f p'∧(QB f 4=true->p'=false)∧k.rs=(r4 f p u j).drop (h/40%(r4 f p u j).length)++(r4 f p u j).take (h/40%(r4 f p u j).length)∧k.f=f∧(k.u=true->(dl es cU).isSome=true)∧(k.j=true->(dl es cJ).isSome=true))
  ⟨⟨0,p,u,false,h/40%4⟩,p,Sn.mpr ⟨u,hb u,Sw.mpr ⟨_,T5.mpr m4,rfl⟩⟩,λz=>So z,by cases p<;>rfl,rfl,hu,λz=>So z⟩
  ⟨⟨1,p,u,j,h/40%5⟩,p,Sn.mpr ⟨u,hb u,Sn.mpr ⟨j,hb j,Sw.mpr ⟨_,T5.mpr m5,rfl⟩⟩⟩,λz=>So z,by cases p<;>rfl,rfl,hu,hj⟩
  ⟨⟨2,p,u,false,h/40%4⟩,p,Sn.mpr ⟨u,hb u,Sw.mpr ⟨_,T5.mpr m4,rfl⟩⟩,λz=>So z,by cases p<;>rfl,rfl,hu,λz=>So z⟩
  ⟨⟨3,p,u,j,h/40%4⟩,p,Sn.mpr ⟨u,hb u,Sn.mpr ⟨j,hb j,Sw.mpr ⟨_,T5.mpr m4,rfl⟩⟩⟩,λz=>So z,by cases p<;>rfl,rfl,hu,hj⟩
  ⟨⟨4,false,u,j,h/40%4⟩,false,Sn.mpr ⟨u,hb u,Sn.mpr ⟨j,hb j,Sw.mpr ⟨_,T5.mpr m4,rfl⟩⟩⟩,λzz=>rfl,rfl,rfl,hu,hj⟩
 exact key (!QB (h/5%2) 0) (!QB (h/10%2) 0&&(dl es cU).isSome) (!QB (h/20%2) 0&&(dl es cJ).isSome) (λz=>(Rb.mp z).2) (λz=>(Rb.mp z).2) (h%5) (T6 _ (by decide))
end
section
section
noncomputable def Jd(tk:Nat->KV)(n:Nat):KV:=match n with|n+2=>bif pl (tk n)then tk n else .tok (n+2)|n=>.tok n
def ff(tk:Nat->KV)(x:KV):KV:=@KV.rec (λZ=>KV) .none .bool .nat .neg .str .nil (λZ Z a b=>.cons a b) .ref (Jd tk) (λZ a=>.fl a) x
def pu(tk:Nat->KV)(d:KD):KD:=@KD.rec (λZ=>KD) .nil (λk v Z r=>.cons k (ff tk v) r) d
def yX{α β:Type}(f:α->β)(t:T α):T β:=@T.rec α (λZ=>T β) .nil (λv Z Z Z Z Z Z Z Z a b c d e g h i=>.nd (v.map f) a b c d e g h i) t
def tK(tk:Nat->KV)(o:KO):KO:=@KO.rec (λzz=>KO) (λn xs=>.list n (ff tk xs)) (λn es=>.dict n (pu tk es)) .set (λc fs=>.inst c (yX (ff tk) fs)) (λq cs=>.clo q (ff tk cs)) .junk (λa m=>.pd (pu tk a) (pu tk m)) o
def l9(tk:Nat->KV)(s:KS):KS:=⟨yX (tK tk) s.h,s.n⟩
end
theorem jc{α β:Type}(f:α->β):∀(q:Pa)(t:T α),tg q (yX f t)=(tg q t).map f:=by
 intro q;induction q with
 |e=>intro t;cases t<;>rfl
 |a q ih=>intro t;cases t with|nil=>rfl|nd v a b c d e g h i=>exact ih a
 |b q ih=>intro t;cases t with|nil=>rfl|nd v a b c d e g h i=>exact ih b
 |c q ih=>intro t;cases t with|nil=>rfl|nd v a b c d e g h i=>exact ih c
 |d q ih=>intro t;cases t with|nil=>rfl|nd v a b c d e g h i=>exact ih d
 |f q ih=>intro t;cases t with|nil=>rfl|nd v a b c d e g h i=>exact ih e
 |g q ih=>intro t;cases t with|nil=>rfl|nd v a b c d e g h i=>exact ih g
 |h q ih=>intro t;cases t with|nil=>rfl|nd v a b c d e g h i=>exact ih h
 |i q ih=>intro t;cases t with|nil=>rfl|nd v a b c d e g h i=>exact ih i
section
variable{C:Cx}{tk:Nat->KV}{s:KS}{p:Pa->Bool}{Z:Pa->KV->Prop}
theorem Ga{m:Nat}:∀{x:KV},tk m=x->pl x=true->VS tk some Z x (.tok (m+2)):=by
 intro x e h;cases x with
 |none=>exact .inr ⟨m,rfl,e⟩
 |nat=>exact .inr ⟨m,rfl,e⟩
 |neg=>exact .inr ⟨m,rfl,e⟩
 |str=>exact .inr ⟨m,rfl,e⟩
 |_=>exact aO h
theorem n8:∀x:KV,VS tk some Z (ff tk x) x:=by
 intro x;induction x with
 |cons x r i1 i2=>exact⟨x,r,rfl,i1,i2⟩
 |none=>exact .inl rfl
 |nat=>exact .inl rfl
 |neg=>exact .inl rfl
 |str=>exact .inl rfl
 |nil=>exact rfl
 |bool=>exact rfl
 |ref q=>exact⟨q,rfl,rfl⟩
 |fl x ih=>exact⟨x,ih,.inl rfl⟩
 |tok n=>
  match n with
  |0=>exact .inl rfl
  |1=>exact .inl rfl
  |n+2=>
   show VS tk some Z (bif pl (tk n)then tk n else .tok (n+2)) _;cases e:pl (tk n)with
   |true=>exact Ga rfl e
   |false=>exact .inl rfl
theorem Bp:∀es:KD,DS (VS tk some Z) (pu tk es) es
 |.nil=>rfl
 |.cons a w r=>⟨w,r,rfl,n8 w,Bp r⟩
theorem i7{x:KV}:∀es:KD,dl (pu tk es) x=(dl es x).map (ff tk)
 |.nil=>rfl
 |.cons a w r=>by
  show@RJ (λzz=>Option KV) (dl (pu tk r) x) (.some (ff tk w)) (bU a x)=Option.map _ (@RJ (λzz=>Option KV) (dl r x) (.some w) (bU a x));cases bU a x with
  |true=>rfl
  |false=>exact i7 r
theorem Fg{x:KV}(h:pl x=true):mi p x=true∧HL x=true:=by cases x<;>first|exact⟨rfl,rfl⟩|exact aO h
theorem oE:∀{x:KV},(mi p x=true->mi p (ff tk x)=true)∧(HL x=true->HL (ff tk x)=true):=by
 intro x;induction x with
 |cons x r i1 i2=>exact⟨λh=>s8 (i1.1 (aA h).1) (i2.1 (aA h).2),λh=>s8 (i1.2 (aA h).1) (i2.2 (aA h).2)⟩
 |fl x ih=>exact⟨ih.1,λh=>h⟩
 |tok n=>
  match n with
  |0=>exact⟨λh=>h,λh=>h⟩
  |1=>exact⟨λh=>h,λh=>h⟩
  |n+2=>
   show(_->mi p (bif pl (tk n)then tk n else .tok (n+2))=true)∧(_->HL (bif pl (tk n)then tk n else .tok (n+2))=true);cases e:pl (tk n)with
   |true=>exact⟨λzz=>(Fg e).1,λzz=>(Fg (p:=p) e).2⟩
   |false=>exact⟨λh=>h,λh=>h⟩
 |_=>exact⟨λh=>h,λh=>h⟩
theorem i8:∀{es:KD},(Kw p es=true->Kw p (pu tk es)=true)∧(xc es=true->xc (pu tk es)=true)
 |.nil=>⟨λh=>h,λh=>h⟩
 |.cons a w r=>⟨λh=>s8 (oE.1 (aA h).1) (i8.1 (aA h).2),λh=>s8 ((oE (p:=p)).2 (aA h).1) (i8.2 (aA h).2)⟩
def Nj(p:KV->Bool)(fs:T KV):Prop:=∀q x,tg q fs=some x->p x=true
def yF(p:Pa->Bool)(o:KO):Prop:=match o with
 |.list _ xs=>mi p xs=true
 |.dict _ es=>Kw p es=true
 |.set _=>True
 |.inst _ fs=>Nj (mi p) fs
 |.clo _ cs=>mi p cs=true
 |.junk _=>True
 |.pd a m=>xc a=true∧xc m=true
theorem yF.of{o:KO}(h:BI p o=true):yF p o:=by
 cases o with
 |list=>exact h
 |dict=>exact h
 |set=>exact trivial
 |inst c fs=>exact λq x k=>mr (p:=mi p) h k
 |clo=>exact h
 |junk=>exact trivial
 |pd a m=>exact aA h
theorem yF.sub{o:KO}(h:yF p o):yF p (tK tk o):=by
 cases o with
 |list=>exact oE.1 h
 |dict=>exact i8.1 h
 |set=>exact trivial
 |inst c fs=>
  intro q x k;rw[show tg q (yX (ff tk) fs)=_ from jc _ q fs]at k;refine wM k ?_;clear k;rintro y h1 rfl;exact oE.1 (h q y h1)
 |clo=>exact oE.1 h
 |junk=>exact trivial
 |pd a m=>exact⟨(i8 (p:=p)).2 h.1,(i8 (p:=p)).2 h.2⟩
theorem Jw{φ:Pa->Option Pa}{o:KO}(hp:∀q,p q=true->φ q=some q)(h:yF p o):OS C (VS C.tk φ Z) (λx y=>∀(R:Wd) w,VR C R y w->VR C R x w) o o:=by
 cases o with
 |list n xs=>exact⟨xs,rfl,lO hp h⟩
 |dict n es=>exact⟨es,rfl,Bq hp h⟩
 |set xs=>exact rfl
 |junk n=>exact rfl
 |clo q cs=>exact⟨cs,rfl,lO hp h⟩
 |inst c fs=>
  refine⟨fs,rfl,λq=>?_⟩;cases e:tg q fs with
  |none=>exact trivial
  |some x=>exact lO hp (h q x e)
 |pd a m=>exact⟨iX h.1,iX h.2,.inl ⟨a,m,rfl,ue (λY Y Y h=>h) a,ue (λY Y Y h=>h) m⟩⟩
theorem Gb{x:KV}(h:HL x=true)(R:Wd):(∀v,VR C R x v->VR C R (ff C.tk x) v)∧∀vs,bG C R x vs->bG C R (ff C.tk x) vs:=by
 induction x with
 |cons x r i1 i2=>
  exact n9 rfl (i1 (aA h).1).1 (i2 (aA h).2).2
 |ref=>exact aO h
 |fl=>exact aO h
 |tok n=>
  match n with
  |0=>exact⟨λzz h=>h,λzz h=>h⟩
  |1=>exact⟨λzz h=>h,λzz h=>h⟩
  |n+2=>
   refine⟨λv hv=>?_,λvs hv=>hv.elim⟩;show VR C R (bif pl (C.tk n)then C.tk n else .tok (n+2)) v;cases e:pl (C.tk n)with
   |true=>exact(qY e).mpr hv
   |false=>exact hv
 |_=>exact⟨λzz h=>h,λzz h=>h⟩
theorem rU:∀{es:KD},xc es=true->DS (λx y=>∀(R:Wd) w,VR C R y w->VR C R x w) (pu C.tk es) es
 |.nil,_=>rfl
 |.cons a w r,h=>⟨w,r,rfl,λR v k=>(Gb (aA h).1 R).1 v k,rU (aA h).2⟩
theorem GS{o:KO}(h:yF p o):OS C (VS C.tk some Z) (λx y=>∀(R:Wd) w,VR C R y w->VR C R x w) (tK C.tk o) o:=by
 cases o with
 |list n xs=>exact⟨xs,rfl,n8 xs⟩
 |dict n es=>exact⟨es,rfl,Bp es⟩
 |set xs=>exact rfl
 |junk n=>exact rfl
 |clo q cs=>exact⟨cs,rfl,n8 cs⟩
 |inst c fs=>
  refine⟨fs,rfl,λq=>?_⟩;refine rwr (show tg q (yX (ff C.tk) fs)=_ from jc _ q fs) ?_;cases e:tg q fs with
  |none=>exact trivial
  |some x=>exact n8 x
 |pd a m=>exact⟨iX ((i8 (p:=λzz=>true)).2 h.1),iX ((i8 (p:=λzz=>true)).2 h.2),.inl ⟨a,m,rfl,rU h.1,rU h.2⟩⟩
theorem jd(q:Pa):tg q (l9 tk s).h=(tg q s.h).map (tK tk):=jc _ q s.h
theorem Er(wf:Wf s)(h:∀q o,tg q s.h=some o->yF p o):II C some (λZ Z=>False) (l9 C.tk s) s where
 next:=ah wf λm e f=>⟨m,e,λi hi=>by rw[jd,f i hi];rfl⟩
 fwd:=λq o ho=>by
  rw[jd]at ho;refine wM ho ?_;rintro o' h1 rfl;exact⟨q,o',rfl,h1,GS (h q o' h1)⟩
 dom:=λq q' o e ho=>by
  cases e;exact⟨_,by rw[jd,ho];rfl⟩
 inj:=λq p q' h1 h2=>by cases h1;cases h2;rfl
 zl:=λZ Z h=>h.elim
 zf:=λZ Z Z h=>h.elim
end
end
section
section
noncomputable def y7(C:Cx)(i:Nat):Nat:=match C.tk (2*i+1)with|.nat n=>n|_=>0
noncomputable def Ci(b:Bool):Nat:=bif b then 3 else 1
def Sk.P(k:Sk)(C:Cx):Pm:=⟨k.hl,k.sj,k.sp,k.nu,λr b=>EA (y7 C (Ci b)) (y7 C (k.rx r)) (C.tk (2*k.rx r))⟩
def Sk.x(k:Sk)(C:Cx)(w:List Si)(q1 q2 q3 q4:Pa):qx:=⟨cy 1,q1,q2,q3,q4,w,k.P C,λr=>C.tk (2*k.rx r),λr=>y7 C (k.rx r),λb=>C.tk (2*Ci b),λb=>y7 C (Ci b),C.tk⟩
def Sk.z(k:Sk)(C:Cx)(w:List Si)(s:KS)(tq aq gq:Pa):BY:=⟨tq,aq,gq,cy 2,cy 1,.e,.e,w,k.P C,Fp s aq gq,iD 3 k.rs⟩
end
section
variable{C:Cx}{k:Sk}{s:KS}{w:List Si}
theorem tw(r:Ru):k.rx r<5:=by cases r<;>first|exact(by decide)|(show(bif _ then _ else _)<5;split<;>decide)|(unfold Sk.rx;cases k.u<;>cases k.j<;>decide)
theorem AS(b:Bool):Ci b<5:=by cases b<;>decide
theorem Aq{v:KV}(h:v=ju∨v=iA∨v=j0):pl v=true:=by rcases h with rfl|rfl|rfl<;>rfl
theorem rt(T:lL C){i:Nat}(h:i<5):C.tk (2*i+1)=.nat (y7 C i):=by
 refine az (T.lv i h) ?_;intro n e;unfold y7;exact rwr e rfl
theorem uM{tk:Nat->KV}{n:Nat}(h:pl (tk n)=true):Jd tk (n+2)=tk n:=by
 show(bif pl (tk n)then tk n else .tok (n+2))=_;refine rwr h ?_;rfl
theorem qN(T:lL C){i:Nat}(h:i<5):ff C.tk (Cb i)=two (C.tk (2*i)) (.nat (y7 C i)):=by
 show KV.cons (Jd C.tk (2*i+2)) (.cons (Jd C.tk (2*i+1+2)) .nil)=_;rw[uM (Aq (T.wy i h)),uM (by rw[rt T h];rfl),rt T h];rfl
theorem Aw{z:Bool}{f:KV->KV->Bool}{v:KV}(h:gS z f v=true):(v=.nil∧z=true)∨∃x r,v=.cons x r∧f x r=true:=by
 cases v with
 |nil=>exact .inl ⟨rfl,h⟩
 |cons x r=>exact .inr ⟨x,r,rfl,h⟩
 |_=>exact aO h
theorem pU{f:KV->KV->Bool}{v:KV}(h:gS false f v=true){G:Prop}(k:∀x r,f x r=true->v=.cons x r->G):G:=by
 cases v with
 |cons x r=>exact k x r h rfl
 |_=>exact aO h
theorem GU{v:KV}(h:gS true (λZ Z=>false) v=true):v=.nil:=(Aw h).elim (λz=>z.1) λ⟨_,_,_,z⟩=>aO z
theorem vm{v:Option KV}{i:Nat}(h:K4 v i=true):v=some (Cb i):=by
 refine aC h ?_;clear h;rintro u h rfl;refine pU h ?_;clear h;rintro a r h rfl;refine aT h ?_;clear h;intro h1 h;refine fD h1 ?_;clear h1;rintro t h1 rfl;refine pU h ?_;clear h;rintro b r2 h rfl;refine aT h ?_;clear h;intro h2 h;refine fD h2 ?_;clear h2;rintro t2 h2 rfl;refine rwr (GU h) (rwr (QY h1) (rwr (QY h2) ?_));rfl
theorem AT{v:Option KV}{n:Nat}(h:JY v n=true):v=some (.nat n):=by
 refine aC h ?_;rintro u h rfl;refine eJ h ?_;rintro m h rfl;exact rwr (QY h) rfl
theorem hU{o:Option KO}(h:iQ o=true){G:Prop}(k:∀n,o=some (.dict n (mf o))->G):G:=by
 refine aC h ?_;rintro o h rfl;cases o with
 |dict n es=>exact k n rfl
 |_=>exact aO h
theorem rF{α:Type}{f:α->Bool}:∀{l:List α},Hq f l=true->∀x∈l,f x=true
 |[],_,_,h=>absurd h QW
 |y::l,h,x,hx=>by
  refine aT (show dn (f y) (Hq f l)=true from h) ?_;intro h1 h2;rcases QH.mp hx with rfl|hx
  ·exact h1
  ·exact rF h2 x hx
theorem HZ{la lr j n:Nat}{w:KV}(h:w=ju∨w=iA∨w=j0):oy la lr w j n=match EA la lr w with|.sh=>.nat j|.rd=>.neg (n-1)|.no=>.none:=by
 have e1:oy la lr w j n=bif QJ (la+1) lr||(QB la lr&&bU w ju)then .neg (n-1)else bif QB la lr&&bU w iA then .none else .nat j:=rfl;have e2:EA la lr w=bif QJ (lr+1) la then .sh else bif QJ (la+1) lr||bU w ju then .rd else bif bU w j0 then .sh else .no:=rfl;refine rwr e1 (rwr e2 ?_);rcases Nat.lt_trichotomy la lr with l|l|l
 ·refine rwr (lZ (Sh l)) (rwr (QK l) ?_);rfl
 ·subst l;rw[lZ (QZ la),SH];rcases h with rfl|rfl|rfl<;>rfl
 ·refine rwr (QK l) (rwr (lZ (Sh l)) (rwr (show QB la lr=false from by cases e:QB la lr with|false=>rfl|true=>exact absurd (QY e) (SR l)) ?_));rfl
theorem HU(T:lL C){z:BY}(hP:z.P=k.P C){a:As}{v:Option KV}(h:Ob k z.N a v=true):oU z (a.to z.P.ch) (v.map (ff C.tk)):=by
 cases a with
 |no=>
  cases v with
  |none=>exact .inl rfl
  |some u=>cases u<;>first|exact .inr rfl|exact aO h
 |sh q=>
  refine aC h ?_;rintro u h rfl;refine eJ h ?_;rintro n h rfl;refine aT h ?_;intro h1 h2;have e:=QY h1;subst e;exact⟨rfl,QA h2⟩
 |rd r=>
  refine aC h ?_;rintro u h rfl;refine pT h ?_;rintro n h rfl;have e:=QY h;have hn:z.P.nu r=n+1:=by refine rwr hP ?_;exact e.symm
  show some (KV.neg n)=some (.neg (z.P.nu r-1))∧1≤z.P.nu r;refine rwr hn ?_;exact⟨rfl,QU 1 n⟩
 |ok=>
  refine aC h ?_;rintro u h rfl;refine eJ h ?_;rintro n h rfl;refine rwr (QY h) ?_;rfl
 |cf r b q=>
  refine aC h ?_;rintro u h rfl;refine fD h ?_;rintro t h rfl;refine aT h ?_;intro h1 h;refine aT h ?_;intro h2 h;refine aT h ?_;intro h3 h;refine aT h ?_;intro h4 h5;have h2:z.N q<64:=QA h2;have h3:k.nu r<64:=QA h3;have h4:=QA h4;have h5:=QA h5;have et:=QY h1;have en:=T.en (Ci b) (k.rx r) (z.N q) (k.nu r) _ _ (AS b) (tw r) h2 h3 (rt T (AS b)) (rt T (tw r));have et:t=10+(((k.rx r*8+Ci b)*64+z.N q)*64+k.nu r)+2:=by
   refine rwr et ?_;show 12+(((k.rx r*8+Ci b)*64+z.N q)*64+k.nu r)=_;simp+arith
  have hw:=T.wy (k.rx r) (tw r);rw[HZ hw]at en;subst et;have hc:z.P.ch r b=EA (y7 C (Ci b)) (y7 C (k.rx r)) (C.tk (2*k.rx r)):=by refine rwr hP ?_;rfl
  have hn:z.P.nu r=k.nu r:=by refine rwr hP ?_;rfl
  show oU z (.of (z.P.ch r b) q r) (some (Jd C.tk (_+2)));rw[hc,uM (by rw[en];cases EA (y7 C (Ci b)) (y7 C (k.rx r)) (C.tk (2*k.rx r))<;>rfl),en];cases EA (y7 C (Ci b)) (y7 C (k.rx r)) (C.tk (2*k.rx r))with
  |sh=>exact⟨rfl,h4⟩
  |rd=>exact⟨by exact rwr hn rfl,by refine rwr hn ?_;exact h5⟩
  |no=>exact .inr rfl
end
end
section
section
variable{C:Cx}{k:Sk}{s:KS}{w:List Si}{tk:Nat->KV}
theorem zg:∀{x:KV},LN x=true->ff tk x=x:=by
 intro x;induction x with
 |cons x r i1 i2=>intro h;show KV.cons (ff tk x) (ff tk r)=_;exact rwr (show ff tk x=x from i1 (aA h).1) (rwr (show ff tk r=r from i2 (aA h).2) rfl)
 |str=>exact λzz=>rfl
 |nil=>exact λzz=>rfl
 |_=>exact λh=>aO h
theorem uR:∀{l:List KV},(∀x∈l,ff tk x=x)->ff tk (au l)=au l
 |[],_=>rfl
 |x::l,h=>by show KV.cons (ff tk x) (ff tk (au l))=_;refine rwr (h x QF) (rwr (uR λy hy=>h y (QI _ hy)) ?_);rfl
theorem Fb(w:List Si):tK tk (aF (w.map pc))=aF (w.map pc):=by
 show KO.list _ (ff tk (au (w.map pc)))=_;refine rwr (uR λx hx=>by refine nR hx ?_;clear hx;rintro y-rfl;cases y<;>rfl) ?_;rfl
theorem qD:∀(rs:List R2)(n i:Nat),(iD n rs)[i]?=rs[i]?.map λy=>two (.ref (cy (n+i))) y.2
 |[],_,_=>rfl
 |r::rs,n,0=>rfl
 |r::rs,n,i+1=>by
  show(iD (n+1) rs)[i]?=rs[i]?.map _;exact rwr (qD rs (n+1) i) (rwr (show n+1+i=n+(i+1) by simp+arith) rfl)
theorem r7{ws:List KV}(h:(Tw k.o).map (λi=>tg (cy i) s.h)=((tP k ws).take k.o).map some){i:Nat}{o:KO}(hi:i<k.o)(e:(tP k ws)[i]?=some o):tg (cy i) s.h=some o:=by
 have:=congrArg (λl=>l[i]?) h;simp only[Rj,List.getElem?_range hi,List.getElem?_take,if_pos hi,e]at this;exact QN this
theorem dF{q:Pa}{o:KO}(h:tg q s.h=some o):tg q (l9 tk s).h=some (tK tk o):=by rw[jd,h];rfl
theorem HN(T:lL C){v:KV}(h:FV k s v=true)(hw:tg (cy 1) s.h=some (aF (w.map pc))):∀{G:Prop},(∀q1 q2 q3 q4,v=(k.x C w q1 q2 q3 q4).fv->Ba (k.x C w q1 q2 q3 q4) (l9 C.tk s)->G)->G:=by
 intro G K;refine pU h ?_;clear h;rintro v1 r h rfl;refine pU h ?_;clear h;rintro v2 r h rfl;refine pU h ?_;clear h;rintro v3 r h rfl;refine pU h ?_;clear h;rintro v4 r h rfl;refine aT h ?_;clear h;intro h0 h;cases GU h0;refine bF h ?_;clear h;rintro q1 h rfl;refine bF h ?_;clear h;rintro q2 h rfl;refine bF h ?_;clear h;rintro q3 h rfl;refine bF h ?_;clear h;rintro q4 h rfl;refine aT h ?_;clear h;intro d1 h;refine aT h ?_;clear h;intro d2 h;refine aT h ?_;clear h;intro d3 h;refine aT h ?_;clear h;intro d4 h;refine aT h ?_;clear h;intro e1 h;refine aT h ?_;clear h;intro e3 h;refine hU d1 ?_;intro n1 d1;refine hU d2 ?_;intro n2 d2;refine hU d3 ?_;intro n3 d3;refine hU d4 ?_;intro n4 d4;have key:∀r,(bif o9 k.hl k.sj k.sp r then dn (JY (dl (mf (tg q2 s.h)) (sk r)) (k.nu r)) (dn (bif QB (Ld r) 0 then true else K4 (dl (mf (tg q3 s.h)) (sk r)) (k.rx r)) (JY (dl (mf (tg q4 s.h)) (sk r)) (DO k.sj k.sp r)))else bQ (dl (mf (tg q2 s.h)) (sk r)) true (λzz=>false))=true:=λr=>wG h r;have hh:∀r,(k.P C).has r=o9 k.hl k.sj k.sp r:=λr=>rfl;refine K q1 q2 q3 q4 rfl ⟨Fb w▸dF hw,⟨n1,_,dF d1,λb=>?_⟩,⟨n2,_,dF d2,λr=>?_⟩,⟨n3,_,dF d3,λr ha hr=>?_⟩,⟨n4,_,dF d4,λr hr=>?_⟩⟩
 ·rw[i7];cases b with
  |true=>rw[show dl (mf (tg q1 s.h)) (Ln true)=_ from vm e3];exact congrArg some (qN T (by decide))
  |false=>rw[show dl (mf (tg q1 s.h)) (Ln false)=_ from vm e1];exact congrArg some (qN T (by decide))
 ·have z:=key r;rw[i7];show _=bif (k.P C).has r then some (KV.nat (k.nu r))else none;rw[hh];cases e:o9 k.hl k.sj k.sp r with
  |true=>rw[e]at z;rw[AT (aA z).1];rfl
  |false=>
   rw[e]at z;cases d:dl (mf (tg q2 s.h)) (sk r)with
   |none=>rfl
   |some u=>rw[d]at z;exact aO z
 ·have z:=key r;rw[show o9 k.hl k.sj k.sp r=true from(hh r).symm.trans hr]at z;have z:=(aA (aA z).2).1;have e0:QB (Ld r) 0=false:=by cases r<;>first|exact absurd rfl ha|rfl
  rw[e0]at z;rw[i7,vm z];exact congrArg some (qN T (tw r))
 ·have z:=key r;rw[show o9 k.hl k.sj k.sp r=true from(hh r).symm.trans hr]at z;rw[i7,AT (aA (aA z).2).2];show some (KV.nat (DO k.sj k.sp r))=some (.nat ((k.P C).len r));cases r<;>rfl
theorem GI{q:Pa}{n:Nat}(h:row s q n=true):∃p m,dl (mf (tg q s.h)) (.nat n)=some (.ref p)∧tg p s.h=some (.dict m (mf (tg p s.h)))∧∀x,lk s q n x=dl (mf (tg p s.h)) x:=by
 refine aT h ?_;clear h;intro h1 h2;refine aC h1 ?_;clear h1;intro v h1 e;refine bF h1 ?_;clear h1;rintro p-rfl;unfold lk;rw[e]at h2 ⊢;exact hU h2 λm d=>⟨p,m,rfl,d,λx=>rfl⟩
theorem wD{q:Pa}{n:Nat}(h:row s q n=true){G:Prop}(k:∀p m,dl (mf (tg q s.h)) (.nat n)=some (.ref p)->tg p s.h=some (.dict m (mf (tg p s.h)))->(∀x,lk s q n x=dl (mf (tg p s.h)) x)->G):G:=aH (GI h) k
theorem Gj(T:lL C){tq:Pa}{ws:List KV}(h:FR k s tq=true)(hs:Ky k=true)(ho:(Tw k.o).map (λi=>tg (cy i) s.h)=((tP k ws).take k.o).map some)(hw:ws=w.map pc):
  ∀{G:Prop},(∀aq gq n fs rq,TF (k.z C w s tq aq gq) (l9 C.tk s)->tg tq (l9 C.tk s).h=some (.inst n fs)->tg (.a (.f .e)) fs=some (.ref rq)->tg rq (l9 C.tk s).h=some (aF [])->G)->G:=by
 intro G K;refine aC h ?_;clear h;intro o h hi;refine g9 h ?_;clear h;rintro n fs h rfl;refine aC h ?_;clear h;intro va h f1;refine bF h ?_;clear h;rintro aq h rfl;refine aC h ?_;clear h;intro vg h f2;refine bF h ?_;clear h;rintro gq h rfl;refine aT h ?_;clear h;intro da h;refine aT h ?_;clear h;intro dg h;refine aT h ?_;clear h;intro ht h;refine aC h ?_;clear h;intro vr h f3;refine bF h ?_;clear h;rintro rq h rfl;refine aC h ?_;clear h;intro o h hr;refine pR h ?_;clear h;rintro n0 xs h rfl;cases QY (aA h).1;cases GU (aA h).2;refine hU da ?_;intro na da;refine hU dg ?_;intro ng dg;refine aT ht ?_;clear ht;intro c1 ht;refine aT ht ?_;clear ht;intro cA ht;refine aT ht ?_;clear ht;intro cJ cP;have c1:∀x,(k.P C).ex (.c x)=true->FU k s aq (Fp s aq gq) (.c x)=true∧FU k s aq (Fp s aq gq) (.g x)=true∧Oa s gq (Fp s aq gq) x=true:=λx hx=>by
  have:=rN (qz c1 x) hx;exact⟨(aA this).1,(aA (aA this).2).1,(aA (aA this).2).2⟩
 have rowQ:∀q,FU k s aq (Fp s aq gq) q=true->∃rq n' rs,dl (pu C.tk (mf (tg aq s.h))) (.nat (Fp s aq gq q))=some (.ref rq)∧tg rq (l9 C.tk s).h=some (.dict n' rs)∧∀m,oU (k.z C w s tq aq gq) ((k.P C).act q m) (dl rs (oZ m)):=λq h=>by
  refine aT h ?_;clear h;intro h1 h2;refine wD h1 ?_;clear h1;intro p m e1 e2 e3;refine⟨p,m,_,by rw[i7,e1];rfl,dF e2,λm=>?_⟩;rw[i7,FZ,←e3];exact HU T (z:=k.z C w s tq aq gq) rfl (wC h2 m)
 refine K aq gq n _ rq ⟨⟨n,_,dF hi,by rw[jc,f1];rfl,by rw[jc,f2];rfl⟩,⟨na,_,dF da,λq hq=>?_⟩,⟨ng,_,dF dg,λx hx=>?_⟩,⟨?_,λr hr=>?_⟩,?_⟩ (dF hi) (by rw[jc,f3];rfl) (dF hr)
 ·cases q with
  |A=>exact rowQ _ cA
  |J=>exact rowQ _ (rN cJ hq)
  |P=>exact rowQ _ (rN cP hq)
  |c x=>exact rowQ _ (c1 x hq).1
  |g x=>exact rowQ _ (c1 x hq).2.1
 ·refine aT (c1 x hx).2.2 ?_;intro h1 h2;refine wD h1 ?_;clear h1;intro p m e1 e2 e3;rw[e3]at h2;refine aC h2 ?_;clear h2;intro u h2 e4;refine eJ h2 ?_;clear h2;rintro j h2 rfl;exact⟨p,m,_,by rw[i7];show Option.map _ (dl _ (.nat (Fp s aq gq (.c x))))=_;rw[e1];rfl,dF e2,by rw[i7,e4,QY h2];rfl⟩
 ·have o2:=r7 ho (i:=2) (by show 2<k.rs.length+3;exact QU _ _) rfl;have st:=(aA hs).1;have e:tK C.tk (aF (iD 3 k.rs))=aF (iD 3 k.rs):=by
   show KO.list _ (ff C.tk (au (iD 3 k.rs)))=_;rewrite [uR λx hx=>?_];rfl;refine az (UJ.mp hx) ?_;intro i hi;rw[qD]at hi;refine wM hi ?_;clear hi;rintro y hy rfl;have:=(aA (rF st y (Rq hy))).2;show KV.cons _ (.cons (ff C.tk y.2) .nil)=_;rw[zg this];rfl
  exact e▸dF o2
 ·have hr:o9 k.hl k.sj k.sp r=true:=hr;have z:=wG (aA hs).2 r;rw[hr]at z;refine aT z ?_;clear z;intro z1 z;refine aT z ?_;clear z;intro z2 z3;have z1:=QA z1;have z2:=QA z2;have z3:=QY z3;have lt:k.nu r-1<k.rs.length:=by omega
  have ey:=QM lt;generalize hY:k.rs[k.nu r-1]=y at ey;have st:=(aA (rF (aA hs).1 y (Rq ey))).1;have o3:tg (cy (3+(k.nu r-1))) s.h=some (aF y.1):=r7 ho (by show _<k.rs.length+3;lia) (by
   show(k.pd::aF ws::aF (iD 3 k.rs)::(k.rs.map λr=>aF r.1)++iJ k.o k.pd)[3+(k.nu r-1)]?=_;rw[S2 (by simp;lia),show 3+(k.nu r-1)=k.nu r-1+1+1+1 by simp+arith];show(k.rs.map λr=>aF r.1)[k.nu r-1]?=_;rw[Rj,ey];rfl)
  refine⟨cy (3+(k.nu r-1)),y.2,y.1,?_,?_,?_⟩
  ·show(iD 3 k.rs)[k.nu r-1]?=_;rw[qD,ey];rfl
  ·have e:tK C.tk (aF y.1)=aF y.1:=by
    show KO.list _ (ff C.tk (au y.1))=_;refine rwr (zg st) ?_;rfl
   exact e▸dF o3
  ·have:(k.rs.map λx=>x.1.length).getD (k.nu r-1) 0=y.1.length:=by refine rwr (SE) (rwr (Rj) (rwr ey ?_));rfl
   refine rwl this (rwr z3 ?_);cases r<;>rfl
 ·exact Fb w▸dF (hw▸r7 ho (i:=1) (by show 1<k.rs.length+3;exact QU _ _) rfl)
theorem Ip(h:xH (BI (here s)) (tp (cy 1) (.set .nil) s.h)=true)(hw:tg (cy 1) s.h=some (aF (w.map pc))):∀q o,tg q s.h=some o->yF (here s) o:=λq o ho=>by
 by_cases z:q=cy 1
 ·subst z;cases QN (hw.symm.trans ho);exact mR (i0 λx hx=>by refine nR hx ?_;clear hx;rintro y-rfl;cases y<;>rfl)
 ·exact yF.of (mr h ((am _ z).trans ho))
end
end
section
section
def Co(tq:Pa)(t p:KV):En:=tp (.d (.a .e)) p (tp (.c (.a .e)) t (tp (.b (.a .e)) (.ref tq) (tp (.f .e) (.ref (cy 2)) (tp (.d .e) (.ref (cy 1)) .nil))))
def IC(w:List Si)(o:yE)(t:KV)(z:Nat):Prop:=match o with|.bad y=>t=.none∧z=y|.ok u y=>t=u∧z=y∧(∃a b,u=.cons a b)∧y≤w.length
noncomputable def vc(w:List Si)(o:yE):yC:=match o with|.bad z=>(.none,z,true)|.ok t z=>match w[z]? with|none=>(t,z,false)|some _=>(.none,z,true)
end
theorem Dl{P:Pm}{w:List Si}{o:yE}(h:Dr P w (.d 0 none) o):∃n,xz P w n [(.c .o,.none)] 0 (vc w o):=by
 have s:IT P w [(.c .o,.none)] 0 .o .none [] o:=h.1 .o .none [] rfl;cases o with
 |bad z=>exact s
 |ok t z=>
  refine s _ ?_;rcases h.stop with e|e|zq
  ·show∃n,xz P w n _ z (match w[z]? with|none=>(t,z,false)|some _=>(.none,z,true));refine rwr e ?_;exact⟨0,.ok (by refine rwr e ?_;rfl)⟩
  ·show∃n,xz P w n _ z (match w[z]? with|none=>(t,z,false)|some _=>(.none,z,true));refine rwr e ?_;exact⟨0,.dead (by refine rwr e ?_;rfl)⟩
  ·refine b0 zq ?_;clear zq;intro _ _ e;exact Ch.noConfusion e
section
variable{C:Cx}{w:List Si}{s s':KS}{tq:Pa}{t:KV}{z:Nat}{c:Cl}
theorem HY{o:yE}(hw:tg (cy 1) s.h=some (aF (w.map pc)))(ht:IC w o t z):
  ∃e,St c (ad C6 (ad C5 aa)) (Co tq t (.nat z)) s e s∧tg (.f (.a .e)) e=some (rV (vc w o))∧tg (.b (.a .e)) e=some (.ref tq)∧tg (.f .e) e=some (.ref (cy 2))∧tg (.d .e) e=some (.ref (cy 1)):=by
 have tl:Tc c (aw jm (ae (.d (.a .e))) (dw 1 (.g .e) (ae (.d .e)))) (Co tq t (.nat z)) s (QJ (z+1) w.length) s:=by
  have:=jp (c:=c) (e:=Co tq t (.nat z)) (c0:=1) (p:=.g .e) (ag (q:=.d .e) rfl) hw;rw[Ra]at this;exact l0 (ag rfl) this
 have a11:St c C6 (Co tq t (.nat z)) s (Co tq (bif QJ (z+1) w.length then .none else t) (.nat z)) s:=by
  cases e:QJ (z+1) w.length with
  |true=>rw[e]at tl;exact cV tl (aQ (aG aj))
  |false=>rw[e]at tl;exact bk tl br
 have a12:∀u,JC u=true->St c C5 (Co tq u (.nat z)) s (tp (.f (.a .e)) (.cons u (.cons (.nat z) (.cons (.bool (!Hw u)) .nil))) (Co tq u (.nat z))) s:=λu hu=>aG (ai (ag rfl) (ai (ag rfl) (ai (gr (qJ (ag rfl) hu)) aM)));have fin:∀u,JC u=true->(bif QJ (z+1) w.length then KV.none else t)=u->rV (vc w o)=.cons u (.cons (.nat z) (.cons (.bool (!Hw u)) .nil))->∃e,St c (ad C6 (ad C5 aa)) (Co tq t (.nat z)) s e s∧tg (.f (.a .e)) e=some (rV (vc w o))∧tg (.b (.a .e)) e=some (.ref tq)∧tg (.f .e) e=some (.ref (cy 2))∧tg (.d .e) e=some (.ref (cy 1)):=λu h1 h2 h3=>by
  rw[h2]at a11;exact⟨_,bc a11 (aQ (a12 u h1)),by refine rwr h3 ?_;rfl,rfl,rfl,rfl⟩
 cases o with
 |bad y=>
  refine ar ht ?_;rintro rfl rfl;exact fin .none rfl (by cases QJ (z+1) w.length<;>rfl) rfl
 |ok u y=>
  refine lW ht ?_;clear ht;rintro rfl rfl zq hl;refine fI zq ?_;clear zq;rintro a b rfl;cases e:w[z]? with
  |none=>
   have:QJ (z+1) w.length=false:=lZ (SI.mp e);exact fin (.cons a b) rfl (by refine rwr this ?_;rfl) (by show rV (match w[z]? with|none=>(.cons a b,z,false)|some _=>(.none,z,true))=_;refine rwr e ?_;rfl)
  |some x=>
   have:QJ (z+1) w.length=true:=QK (gI e);exact fin .none rfl (by refine rwr this ?_;rfl) (by show rV (match w[z]? with|none=>(.cons a b,z,false)|some _=>(.none,z,true))=_;refine rwr e ?_;rfl)
theorem Kx{r:yC}(h:eI r.1 30=true):eI (rV r) 60=true:=aP.mpr ⟨yo (by decide) h,rfl⟩
theorem Kh{e:En}{x y:X}{r:yC}(hx:Ev c x e s (rV r) s')(hy:Ev c y e s' (rV r) s')(h:eI r.1 30=true):Tc c (aw d7 x y) e s true s':=λt f q=>hx _ (hy _ (by
 have p0:pk (rV r)=false:=by
  show aB (gV r.1 4) false _=false;cases gV r.1 4<;>rfl
 have c0:=Kx h;show aB (aB (pk (rV r)) false (pk (rV r))) (aB (eI (rV r) 60) false (aB (bU (rV r) (rV r)) false (t s'))) _=true;refine rwr p0 (rwr c0 (rwr (kJ _ c0) ?_));exact q))
theorem OE{x:BY}{o:yE}(T:TF x s)(wf:Wf s)(h1:J3 x.P.sj)(h2:P3 x.P.sp)(hx:x.tq=tq∧x.sq=cy 2∧x.wq=cy 1∧x.w=w)(h0:x.N (.c .o)=0)(hl:w.length≤100)(hr:∃n fs rq,tg tq s.h=some (.inst n fs)∧tg (.a (.f .e)) fs=some (.ref rq)∧tg rq s.h=some (aF []))
  (hd:Dr x.P w (.d 0 none) o) (ht:IC w o t z) (hc:eI (vc w o).1 30=true):BZ F2 (λZ Z=>False) (Co tq t (.nat z)) s:=by
 refine⟨λZ Z=>false,λZ Z Z h=>aO h,?_⟩;refine lW hx ?_;clear hx;rintro rfl x2 x3 rfl;have hw:=T.w;rw[x3]at hw;refine Bn (HY (c:=jA) (tq:=x.tq) (t:=t) (z:=z) (o:=o) hw ht) ?_;intro e st d1 d2 d3 d4;refine az (Dl hd) ?_;intro n run;refine ei hr ?_;intro m fs rq r1 r2 r3;have x1:Xt s (aR s (aF [])):=.new wf;have n1:tg s.n (aR s (aF [])).h=some (aF []):=cK;have c1:Tc jA (aw d7 (ak (.a (.f .e)) (ae (.b (.a .e)))) (aK ao)) e s true (aR s (aF [])):=wa (xs:=.nil) (ys:=.nil) (fy (ag d2) r1 r2) (cB (vs:=.nil) aM (by decide)) (x1.keep _ _ r3) n1 rfl rfl;generalize aR s (aF [])=s1 at*;have T1:TF x s1:=⟨aH T.i λn fs a b c=>⟨n,fs,x1.keep _ _ a,b,c⟩,aE T.a λn es a b=>⟨n,es,x1.keep _ _ a,λq hq=>ei (b q hq) λrq n' rs c d e=>⟨rq,n',rs,c,x1.keep _ _ d,e⟩⟩,aE T.g λn es a b=>⟨n,es,x1.keep _ _ a,λq hq=>ei (b q hq) λrq n' rs c d e=>⟨rq,n',rs,c,x1.keep _ _ d,e⟩⟩,⟨x1.keep _ _ T.l.1,λr hr=>ei (T.l.2 r hr) λq nm l a b c=>⟨q,nm,l,a,x1.keep _ _ b,c⟩⟩,x1.keep _ _ T.w⟩
 refine az (CC (d:=59) h1 h2 T1 x1.wf h0 hl run) ?_;intro s2 ca;rw[x2,x3]at ca;have c2:Tc jA (aw d7 (bf (.d (.g .e)) (ab (ae (.b (.a .e))) (ab (ae (.f .e)) (ab (ae (.d .e)) ao)))) (ae (.f (.a .e)))) e s1 true s2:=Kh (i6 (ai (ag d2) (ai (ag d3) (ai (ag d4) aM))) ca) (ag d1) hc;have r13:Rt jA EY e s (.bool true) s2:=gv (Bi (a:=ae .e) (gr c1) (λt f h=>h) (gr c2));exact st vp (ad EY aa jA vp λZ Z=>false) (cY r13 vp _ rfl)
end
end
section
section
variable{C:Cx}{s s':KS}{e:En}{tq:Pa}{t v:KV}{z:Nat}
theorem kL{q:Pa}(h:here s q=true):(if here s q=true then some q else none)=some q:=if_pos h
theorem mM{q:Pa}{o:KO}(h:tg q s.h=some o):here s q=true:=by unfold here;refine rwr h ?_;rfl
theorem x0{q:Pa}(h:here s q=true):∃o,tg q s.h=some o:=by
 unfold here at h;exact aC h λo Z a=>⟨o,a⟩
theorem MX(wf:Wf s)(x:Xt s s')(cl:∀q o,tg q s.h=some o->yF (here s) o)(ht:VS C.tk (λZ=>none) (λq z=>tg q s.h=none∧∃n,tg q s'.h=some (.list n z)) t v)
  (e1:tg (.c (.a .e)) e=some v) (e2:tg (.d (.a .e)) e=some (.nat z)) (e3:tg (.b (.a .e)) e=some (.ref tq)) (e4:tg (.f .e) e=some (.ref (cy 2))) (e5:tg (.d .e) e=some (.ref (cy 1))) (h3:here s tq=true) (h4:here s (cy 2)=true) (h5:here s (cy 1)=true):yx C e s' (Co tq t (.nat z)) s:=by
 refine⟨λq=>if here s q=true then some q else none,λq z=>tg q s.h=none∧∃n,tg q s'.h=some (.list n z),⟨wf,λq o ho=>⟨q,o,kL (mM ho),x.keep q o ho,Jw (λq h=>kL h) (cl q o ho)⟩,λq q' o h ho=>?_,λq p q' h1 h2=>?_,λq z h=>h.2,λq z p h hp=>?_⟩,λq y hy=>?_⟩
 ·split at h
  ·cases h;exact x0 (by assumption)
  ·exact cO h
 ·split at h1
  ·split at h2
   ·cases h1;cases h2;rfl
   ·exact cO h2
  ·exact cO h1
 ·split at hp
  ·cases hp;refine az (x0 (by assumption)) ?_;intro o ho;exact uD (ho.symm.trans h.1)
  ·exact cO hp
 ·rcases eT hy with zq|hy
  ·refine ar zq ?_;clear zq;rintro rfl rfl;exact⟨_,e2,.inl rfl⟩
  ·rcases eT hy with zq|hy
   ·refine ar zq ?_;clear zq;rintro rfl rfl;exact⟨_,e1,ht.mono (λZ Z h=>by exact cO h) λZ Z h=>h⟩
   ·rcases eT hy with zq|hy
    ·refine ar zq ?_;clear zq;rintro rfl rfl;exact⟨_,e3,tq,kL h3,rfl⟩
    ·rcases eT hy with zq|hy
     ·refine ar zq ?_;clear zq;rintro rfl rfl;exact⟨_,e4,_,kL h4,rfl⟩
     ·rcases eT hy with zq|hy
      ·refine ar zq ?_;clear zq;rintro rfl rfl;exact⟨_,e5,_,kL h5,rfl⟩
      ·rw[fj]at hy;exact cO hy
theorem Fh{q:Pa}(h:pE q=true):q=.e:=by cases q<;>first|rfl|exact aO h
theorem Jv{q:Pa}(h:NO q=true):q=cy 1:=by cases q<;>first|exact aO h|exact congrArg Pa.a (Fh h)
theorem Ju{q:Pa}(h:NN q=true):q=cy 2:=by cases q<;>first|exact aO h|exact congrArg Pa.b (Fh h)
theorem EB(h:Kz e=true):tg (.d .e) e=some (.ref (cy 1))∧tg (.f .e) e=some (.ref (cy 2)):=by
 refine aT h ?_;intro h1 h2;refine aC h1 ?_;intro u h1 a1;refine bF h1 ?_;rintro q h1 rfl;refine aC h2 ?_;intro u h2 a2;refine bF h2 ?_;rintro q2 h2 rfl;rw[Jv h1]at a1;rw[Ju h2]at a2;exact⟨a1,a2⟩
end
theorem I8(w:List Si)(n:Nat):cw w n≤w.countP Cj:=by
 have h:=Td n w;have:w.countP Cj=cw w n+(w.drop n).countP Cj:=by unfold cw;exact rwl TM (rwr h rfl)
 simp_all+arith
theorem AY{tk:Nat->KV}{s:KS}:here (l9 tk s)=here s:=by
 funext q
 unfold here;rw[jd];cases tg q s.h<;>rfl
section
variable{C:Cx}{k:Sk}{w:List Si}{en:En}{s:KS}
theorem Lz(T:lL C){q1 q2 q3 q4:Pa}:(k.x C w q1 q2 q3 q4).Ok where
 wy:=λr=>T.wy (k.rx r) (tw r)
 ch:=λr b=>rfl
 sj:=by
  show J3 k.sj;unfold Sk.sj;cases QB k.f 1<;>cases QB k.f 3<;>cases QB k.f 4<;>first|exact .inl rfl|exact .inr (.inl rfl)|exact .inr (.inr rfl)
 sp:=by
  show P3 k.sp;unfold Sk.sp;cases QB k.f 3<;>cases QB k.f 1<;>cases QB k.f 2<;>first|exact .inl rfl|exact .inr (.inl rfl)|exact .inr (.inr rfl)
open Classical in
theorem LO(T:lL C)(hl:w.length≤25)(hn:w.countP Cj≤8)(h:HV k (λos=>decide (os=((tP k (w.map pc)).take k.o).map some)) en s=true):BZ (Lw C) (EW C F2 λZ Z=>False) en s:=by
 refine aT h ?_;clear h;intro hEn hx;refine ar (EB hEn) ?_;intro ed ef;refine⟨λen s=>decide (EW C F2 (λZ Z=>False) en s),λen s Z h=>of_decide_eq_true h,?_⟩;show bQ (tg (.d .e) en) false (λv=>La C Cy jA en (λs2 v2=>jA Jr (.cons v (.cons (.nat 0) (.cons N5 (.cons v2 .nil)))) (λs v=>tC (t1 (.c (.a .e))) (tC (t1 (.d (.a .e))) tN) v en λe=>decide (EW C F2 (λZ Z=>False) e s)) s2) s)=true;refine rwr ed ?_;refine JG hx λs' v wf hk=>?_;refine aT hk ?_;clear hk;intro hC ho;have ho:=of_decide_eq_true ho;refine aT hC ?_;clear hC;intro hT hC;refine aT hC ?_;clear hC;intro hF hC;refine aT hC ?_;clear hC;intro hS hA;refine aC hT ?_;clear hT;intro u hT et;refine bF hT ?_;clear hT;rintro tq hT rfl;have hw:tg (cy 1) s'.h=some (aF (w.map pc)):=r7 ho (by show 1<k.rs.length+3;exact QU _ _) rfl;have cl:=Ip hA hw;refine HN T hF hw ?_;rintro q1 q2 q3 q4 rfl ba;refine Gj T hT hS ho rfl ?_;intro aq gq rn rfs rq tf hr1 hr2 hr3;have O:=Lz (k:=k) (w:=w) (q1:=q1) (q2:=q2) (q3:=q3) (q4:=q4) T;have cs:=Er (C:=C) wf cl;have wf2:Wf (l9 C.tk s'):=cs.next;have cl2':∀q o,tg q (l9 C.tk s').h=some o->yF (here (l9 C.tk s')) o:=λq o h=>by
  rw[AY];rw[jd]at h;refine wM h ?_;rintro o' h1 rfl;exact(cl q o' h1).sub
 refine⟨_,_,cs,n8 _,?_⟩;refine fN (FJ O (QG hl (by decide)) 60 0 none _ wf2 ba (Ry _) (QG (Nat.add_le_add_right (Up 2 hl) 3) (by decide))) ?_;intro o s3 v3 d1 d2 d3 d4;refine d2 _ ?_;have fin:∀(t tv:KV)(z:Nat),v3=two tv (.nat z)->VS C.tk (λZ=>none) (λq z=>tg q (l9 C.tk s').h=none∧∃n,tg q s3.h=some (.list n z)) t tv->IC w o t z->eI (vc w o).1 30=true->(tC (t1 (.c (.a .e))) (tC (t1 (.d (.a .e))) tN) v3 en λe=>decide (EW C F2 (λZ Z=>False) e s3))=true:=λt tv z h1 h2 h3 h4=>by
  subst h1;refine decide_eq_true (⟨_,_,MX (tq:=tq) (t:=t) (z:=z) wf2 d3 cl2' h2 ((am _ (gU rfl)).trans (aS _ _ _)) (aS _ _ _) ((am _ (gU rfl)).trans ((am _ (gU rfl)).trans et)) ((am _ (gU rfl)).trans ((am _ (gU rfl)).trans ef)) ((am _ (gU rfl)).trans ((am _ (gU rfl)).trans ed)) (aH tf.i λn fs a Z Z=>mM a) (mM tf.l.1) (mM tf.w),OE tf wf2 O.sj O.sp ⟨rfl,rfl,rfl,rfl⟩ rfl (by show w.length≤100;omega) ⟨rn,rfs,rq,hr1,hr2,hr3⟩ d1 h3 h4⟩:EW C F2 (λZ Z=>False) (tp (.d (.a .e)) (.nat z) (tp (.c (.a .e)) tv en)) s3)
 cases o with
 |bad z=>exact fin .none .none z d4 (.inl rfl) ⟨rfl,rfl⟩ rfl
 |ok t z=>
  refine aE d4 ?_;clear d4;rintro a b rfl tv;refine b0 d1.mo ?_;intro l1 l2 l3;have ct:∃a' b',t=.cons a' b':=by
   cases t with
   |cons a' b'=>exact⟨a',b',rfl⟩
   |none=>rcases tv with h|⟨_,h,_⟩<;>exact KV.noConfusion h
   |nat=>rcases tv with h|⟨_,h,_⟩<;>exact KV.noConfusion h
   |neg=>rcases tv with h|⟨_,h,_⟩<;>exact KV.noConfusion h
   |str=>rcases tv with h|⟨_,h,_⟩<;>exact KV.noConfusion h
   |bool=>exact KV.noConfusion tv
   |nil=>exact KV.noConfusion tv
   |ref q=>exact ah tv λZ h Z=>cO h
   |tok n=>rcases tv with h|⟨m,_,_,h2⟩<;>first|exact KV.noConfusion h|exact aO h2
   |fl y=>refine ah tv ?_;intro z' _ h;rcases h with h|⟨_,h,_⟩<;>exact KV.noConfusion h
  refine fin t (.cons a b) z rfl tv ⟨rfl,rfl,ct,l2⟩ ?_;show eI (vc w (.ok t z)).1 30=true;have lw:cw w z≤14+cw w 0:=QG (QG (I8 w z) hn) (QG (by decide) (RB 14 _));show eI (match w[z]? with|none=>(t,z,false)|some _=>(.none,z,true):yC).1 30=true;cases w[z]? with
  |none=>exact l3 14 lw
  |some y=>rfl
end
end
end
section
theorem M8:gD (qS 0 false):=λws k=>by kernel_rfl
theorem M7:gD (qS 0 true):=λws k=>by kernel_rfl
end
section
theorem M6:gD ((qS 1 false).take 10):=λws k=>by kernel_rfl
theorem M5:gD ((qS 1 false).drop 10):=λws k=>by kernel_rfl
end
section
theorem M4:gD ((qS 1 true).take 10):=λws k=>by kernel_rfl
theorem M3:gD ((qS 1 true).drop 10):=λws k=>by kernel_rfl
end
section
theorem M1:gD (qS 2 false):=λws k=>by kernel_rfl
theorem M0:gD (qS 2 true):=λws k=>by kernel_rfl
end
section
theorem LZ:gD ((qS 3 false).take 8):=λws k=>by kernel_rfl
theorem LY:gD ((qS 3 false).drop 8):=λws k=>by kernel_rfl
end
section
theorem LX:gD ((qS 3 true).take 8):=λws k=>by kernel_rfl
theorem LW:gD ((qS 3 true).drop 8):=λws k=>by kernel_rfl
end
section
theorem LV:gD ((qS 4 false).take 8):=λws k=>by kernel_rfl
theorem LU:gD ((qS 4 false).drop 8):=λws k=>by kernel_rfl
end
section
open PySem PySem.W PyProof.Rows
section
def tx(es:KD)(i:Nat):KV×Nat:=match dl es (gX.getD i .none)with
 |some (.cons w (.cons (.nat l) .nil))=>(w,l)
 |_=>(j0,0)
def LD(es:KD)(z:Nat):KV:=oy (tx es (z/64/64%8)).2 (tx es (z/64/64/8)).2 (tx es (z/64/64/8)).1 (z/64%64) (z%64)
def yY(h:Nat)(es:KD)(n:Nat):KV:=
 if n<10 then(if n%2=0 then(tx es (n/2)).1 else .nat (tx es (n/2)).2)
 else if(n-10)/64/64/8<5 then LD es (n-10)else .nat (if h%5=n-200000 then h else n-200000)
end
theorem dm{q r b:Nat}(h:r<b):(q*b+r)/b=q∧(q*b+r)%b=r:=by
 rw[Nat.add_comm];exact⟨by rw[Nat.add_mul_div_right _ _ (Nat.zero_lt_of_lt h),Nat.div_eq_of_lt h,TA],by rw[Nat.add_mul_mod_self_right,Nat.mod_eq_of_lt h]⟩
theorem Aj{x v:KV}:∀{es:KD},Cs es->dl es x=some v->∃w l,v=two w (.nat l)∧(w=ju∨w=iA∨w=j0)
 |.nil,_,h=>by exact cO h
 |.cons a b r,ro,h=>by
  have h:@RJ (λzz=>Option KV) (dl r x) (.some b) (bU a x)=some v:=h;cases e:bU a x with
  |true=>rw[e]at h;cases h;exact ro.2.2.1
  |false=>rw[e]at h;exact Aj ro.2.2.2 h
section
variable{h:Nat}{es:KD}{C:Cx}
theorem Ds(ro:Cs es)(i:Nat):(tx es i).1=ju∨(tx es i).1=iA∨(tx es i).1=j0:=by
 unfold tx;cases e:dl es (gX.getD i .none)with
 |none=>exact .inr (.inr rfl)
 |some v=>refine aE (Aj ro e) ?_;clear ro e;rintro w l rfl hw;exact hw
theorem Gg(hC:C.tk=yY h es){i:Nat}(hi:i<5):C.tk (2*i)=(tx es i).1:=by
 refine rwr hC ?_;exact y6 (P:=λi=>yY h es (2*i)=(tx es i).1) rfl rfl rfl rfl rfl hi
theorem CI(hC:C.tk=yY h es){i:Nat}(hi:i<5):C.tk (2*i+1)=.nat (tx es i).2:=by
 refine rwr hC ?_;exact y6 (P:=λi=>yY h es (2*i+1)=.nat (tx es i).2) rfl rfl rfl rfl rfl hi
theorem Jc(hC:C.tk=yY h es){f:Nat}(hf:f<5):C.tk (200000+f)=.nat (if h%5=f then h else f):=by
 refine rwr hC ?_;exact y6 (P:=λf=>yY h es (200000+f)=.nat (if h%5=f then h else f)) rfl rfl rfl rfl rfl hf
theorem F7(hC:C.tk=yY h es)(ro:Cs es):lL C where
 lv:=λx hx=>⟨_,CI hC hx⟩
 wy:=λx hx=>by refine rwr (Gg hC hx) ?_;exact Ds ro x
 en:=λa r j n la lr ha hr hj hn h1 h2=>by
  rw[CI hC ha]at h1;rw[CI hC hr]at h2;cases h1;cases h2;have a1:=dm (q:=(r*8+a)*64+j) hn;have a2:=dm (q:=r*8+a) hj;have a3:=dm (q:=r) (Nat.lt_trans ha (by decide:5<8));have e:LD es (((r*8+a)*64+j)*64+n)=oy (tx es a).2 (tx es r).2 (tx es r).1 j n:=by
   unfold LD;exact rwr a1.1 (rwr a1.2 (rwr a2.1 (rwr a2.2 (rwr a3.1 (rwr a3.2 rfl)))))
  refine rwr (Gg hC hr) (rwr hC (rwl e ?_));unfold yY;rw[if_neg (Nat.not_lt_of_le (RB 10 _)),Sv,a1.1,a2.1,a3.1,if_pos hr]
theorem Jb(hC:C.tk=yY h es):EQ C where
 hd:=λf hf=>by
  refine⟨_,Jc hC hf,?_⟩;by_cases e:h%5=f
  ·refine rwr (if_pos e) ?_;exact e
  ·refine rwr (if_neg e) ?_;exact Nat.mod_eq_of_lt hf
theorem Ja(hC:C.tk=yY h es)(ro:Cs es):KR C es:=λi x hx=>by
 have hi:i<5:=(Rc.mp hx).1;have e0:gX.getD i .none=x:=by refine rwr (SE) (rwr hx ?_);rfl
 refine rwr (Gg hC hi) (rwr (CI hC hi) ?_);unfold tx;refine rwr e0 ?_;cases e:dl es x with
 |none=>exact .inr ⟨rfl,rfl,rfl⟩
 |some v=>refine aE (Aj ro e) ?_;clear ro e;rintro w l rfl hw;exact .inl ⟨w,l,rfl,Aq hw,rfl,rfl⟩
end
theorem uJ(h:Nat)(es:KD):(jN h es).length=4∨(jN h es).length=5:=by
 have key:∀(f:Nat)(p u j:Bool),f<5->(r4 f p u j).length=4∨(r4 f p u j).length=5:=λf p u j hf=>by
  exact y6 (P:=λf=>(r4 f p u j).length=4∨(r4 f p u j).length=5) (by cases p<;>exact .inl rfl) (by cases p<;>exact .inr rfl) (by cases p<;>exact .inl rfl) (by cases p<;>exact .inl rfl) (.inl rfl) hf
 have e:∀(l:List R2)(m:Nat),(l.drop m++l.take m).length=l.length:=λl m=>by rw[QT,SF,S3,Nat.min_comm];exact Nat.sub_add_min_cancel _ _
 have:=key (h%5) (!QB (h/5%2) 0) (!QB (h/10%2) 0&&(dl es cU).isSome) (!QB (h/20%2) 0&&(dl es cJ).isSome) (T6 _ (by decide));unfold jN;rw[e];exact this
theorem Dt{l:List Sk}(h:gD l){k:Sk}(hk:k∈l)(ws:List KV)(k':Kf):Jn k ws k'=Jo ws k' k:=List.map_inj_left.mp (h ws k') k hk
theorem ky{l:List Sk}{n:Nat}(h1:gD (l.take n))(h2:gD (l.drop n)):gD l:=λws k'=>by
 have:=congr (congrArg List.append (h1 ws k')) (h2 ws k');have e:∀f:Sk->Bool,(l.take n).map f++(l.drop n).map f=l.map f:=λf=>by rw[←S1,Td]
 exact(e _).symm.trans (this.trans (e _))
theorem BR{f:Nat}{p:Bool}(hf:f<5)(hp:QB f 4=true->p=false):gD (qS f p):=by
 exact y6 (P:=λf=>(QB f 4=true->p=false)->gD (qS f p)) (λzz=>by cases p;exact M8;exact M7) (λzz=>by cases p;exact ky M6 M5;exact ky M4 M3) (λzz=>by cases p;exact M1;exact M0) (λzz=>by cases p;exact ky LZ LY;exact ky LX LW) (λh=>by cases h rfl;exact ky LV LU) hf hp
theorem BQ:∀{ws:List KV},j9 ws->∃w:List Si,ws=w.map pc
 |[],_=>⟨[],rfl⟩
 |x::ws,h=>by
  refine az (BQ (ws:=ws) λy hy=>h y (QI _ hy)) ?_;rintro w rfl;rcases h x QF with rfl|rfl|rfl|rfl|rfl
  ·exact⟨.a::w,rfl⟩
  ·exact⟨.i::w,rfl⟩
  ·exact⟨.e::w,rfl⟩
  ·exact⟨.j::w,rfl⟩
  ·exact⟨.p::w,rfl⟩
theorem N0(w:List Si):cn (w.map pc)=w.countP Cj:=by
 unfold cn;refine rwr List.countP_map ?_
 congr 1
 funext x
 cases x<;>rfl
section
open Classical
theorem zi{y:Y}{T:En->KS->Prop}{en en':En}{s s':KS}(st:St jA y en s en' s')(h:T en' s'):BZ y T en s:=⟨λen s=>decide (T en s),λen s Z h=>of_decide_eq_true h,st _ _ (decide_eq_true h)⟩
theorem Mu:IE:=λns hns=>by
 have hl:(ns.take 14).length≤100:=by refine rwr S3 ?_;lia
 refine aE (Gl hl) ?_;intro e0 s0 st0 zq;obtain⟨e,s,ws,n,qr,wq,sq,en,st1,A⟩:=zq;generalize hds:(ns.take 14).map ug=ds at A;have nd:gX.Nodup:=by
  unfold gX cI eL cJ gA cU;simp;exact⟨⟨q8 rfl,q8 rfl,q8 rfl,q8 rfl⟩,⟨q8 rfl,q8 rfl,q8 rfl⟩,⟨q8 rfl,q8 rfl⟩,q8 rfl⟩
 have ro:Cs (d6 gX ds.tail):=tB nd λx hx=>by
  have h:∀x∈gX,pk x=true:=by unfold gX;simp only[QH,QW,or_false,forall_eq_or_imp,forall_eq];exact⟨rfl,rfl,rfl,rfl,rfl⟩
  exact h x hx
 have fl:DA (d6 gX ds.tail):=jQ _ _;have kl:fH (d6 gX ds.tail)≤5:=o4 gX ds.tail;have no:∀x,x∉gX->dl (d6 gX ds.tail) x=none:=λx hx=>nH hx;generalize d6 gX ds.tail=es at*;generalize ds.headD 0=h at*;refine⟨yY h es,λC hC=>⟨F7 hC ro,Jb hC,zi st0 (zi st1 ?_)⟩⟩;obtain⟨k,p,k1,k2,k3,k4,ku,kj⟩:=Ji h es;refine az (BQ A.al) ?_;rintro w rfl;have T:=F7 hC ro;have hf:∀r∈k.rs,Rf r:=λr hr=>lP h es r (k3▸hr);have hlen:k.rs.length=4∨k.rs.length=5:=k3▸uJ h es;have ct:yx C e s (El k.f) (lU n es (w.map pc) k.rs):=by
  have:=MZ A fl (by exact rwr (Jc hC (T6 _ (by decide))) (rwr (if_pos rfl) rfl));refine rwr k4 (rwr k3 ?_);exact this
 refine⟨_,_,ct,OF (a:=Le k.u k.j) (m:=DB k.u k.j) hlen hf A.al (by cases k.u<;>cases k.j<;>rfl) (by cases k.u<;>cases k.j<;>rfl) (Jt (Ja hC ro) no ku kj) kl ro λen' s' cut=>?_⟩;refine⟨yA k.f k.o,FA k (w.map pc),cut,⟨HV k (λos=>decide (os=((tP k (w.map pc)).take k.o).map some)),λen s Z h=>LO T (by have:=A.len;rw[Ra]at this;exact this) (by rw[←N0];exact A.cn) h,?_⟩⟩;exact(Dt (BR (by lia) k2) k1 (w.map pc) _).trans (decide_eq_true rfl)
end
end
section
theorem law_holds:TJ.Holds:=Mv Mu
end
end Internal
end
theorem PySem.Challenge.cw_rq0001_03_holds : PySem.Challenge.rw_rq0001_03.Holds :=
 Internal.law_holds
